import PyProof.Rows.All
import Wide.All
import OpenK.AllK
import Wide.FinOn
import Lean
import PySem.Challenge.RW_ti0077_01
open Option renaming some->aa,none->ac,map_eq_some_iff->ar,bind_eq_some_iff->aG,bind_some->bK,isSome_iff_exists->jk,getD_some->zK,map_some->AF,isSome_none->MB
open Nat renaming le_refl->ab,le_trans->aA,lt_of_lt_of_le->a8,le_add_right->bh,lt_of_le_of_lt->bB,le_antisymm->bL,add_sub_cancel_left->bP,lt_or_ge->bS,le_of_lt->ce,zero_le->cJ,ne_of_lt->cM,sub_self->dc,not_lt_of_le->dE,add_le_add_left->dW,lt_succ_self->eu,lt_trichotomy->eG,lt_succ_of_lt->eH,le_of_eq->fb,not_lt->fC,mod_lt->fO,lt_succ_of_le->fQ,le_of_lt_succ->fR,add_le_add->gc,sub->gn,le_add_left->gR,add->ir,not_lt_zero->iy,min_eq_left->iz,lt_trans->iL,add_assoc->iO,le_of_not_lt->iS,le_succ_of_le->jn,ble->jo,sub_le->jU,ne_of_gt->jV,min_le_left->j6,sub_le_iff_le_add->km,lt_irrefl->lU,le_succ->mu,le_of_succ_le_succ->mS,add_sub_of_le->mT,le_of_ble_eq_true->nH,mul->oh,exists_eq_succ_of_ne_zero->oU,mul_le_mul_left->pQ,add_lt_add_left->pR,add_left_cancel->pS,zero_add->qk,beq->ql,sub_add_cancel->qP,lt_of_le_of_ne->qQ,lt_of_succ_lt_succ->ud,add_comm->ue,sub_ne_zero_of_lt->u9,sub_eq_zero_of_le->vd,ble_eq_true_of_le->ve,le_sub_one_of_lt->wj,div_lt_of_lt_mul->wk,add_le_add_right->wu,sub_sub_eq_min->yV,lt_or_eq_of_le->yW,eq_zero_or_pos->yX,ble_eq->yY,add_right_comm->yZ,lt_asymm->z1,le_total->z2,succ_le_succ->Cu,sub_sub_self->Cv,min_le_right->Cw,lt_of_not_le->Cx,two_mul->CG,one_mul->CH,succ->F2,beq_eq->F3,sub_eq_zero_iff_le->KI,rec->KJ,mod->KL,min_comm->KN,lt_add_of_pos_left->KO,le_div_iff_mul_le->MC,sub_le_sub_right->Ov,sub_le_of_le_add->Ow,one_pos->Ox,not_succ_le_zero->Oy,le_zero->Oz,div_le_of_le_mul->OA,add_mul->OB,add_lt_add_right->OC,sub_lt->S7,pos_of_ne_zero->S8,not_le->S9,zero_lt_of_lt->TC,sub_pos_of_lt->TF,pow->TG,le_of_succ_le->TH,not_le_of_lt->VX,min_eq_right->VY
open Option.some renaming inj->ag,injEq->u7
open PySem.Str renaming ofString->ah
open List renaming length_append->aj,getElem?_eq_getElem->aq,length_map->aw,mem_cons_self->ay,length_cons->az,mem_singleton->aB,getElem?_append_right->aE,mem_cons->aH,mem_cons_of_mem->aK,mem_map->aQ,getElem?_append_left->aW,mem_filter->aY,length_singleton->be,length_set->bi,filter_cons->bl,mem_of_getElem?->bo,append_nil->bu,map_cons->bx,getElem?_eq_none->bC,map_map->bD,getElem?_set_ne->bE,append_assoc->bF,map_append->bI,flatMap_cons->bJ,filter_eq_self->bM,getElem?_map->bO,replicate->bR,filter_append->bT,getElem?_set_self->bU,mem_append->cb,map_congr_left->cj,length_take->cG,range->cK,filter_eq_nil_iff->cL,lookup_cons->di,flatten_append->dz,filter_map->dF,mem_range->dK,mem_append_right->dQ,pairwise_cons->ed,filter_cons_of_pos->el,filter_cons_of_neg->eo,getElem?_eq_some_iff->eM,take_of_length_le->eO,length->eW,length_filter_le->eX,mem_append_left->ft,nodup_cons->fD,length_drop->fG,all_eq_true->fH,flatten_cons->fP,nil_append->gh,not_mem_nil->gw,map_flatMap->gy,lookup->gO,drop_eq_getElem_cons->gU,pairwise_append->ib,getElem?_cons_succ->il,filter_congr->io,flatMap_append->iC,mem_flatMap->iP,flatMap_map->iQ,cons_prefix_cons->i5,foldl_cons->jg,set_append_right->j7,set_append_left->kE,perm_ext_iff_of_nodup->kH,nodup_nil->kJ,map_fst_zip->k9,filter_flatMap->lw,getElem?_take_of_lt->lL,filterMap_cons_some->lM,filterMap_cons_none->lO,range_succ->lV,length_nil->lW,take_append_drop->nF,length_replicate->nG,mem_flatten->nI,map_snd_zip->nJ,eq_nil_iff_forall_not_mem->nK,filter_nil->pb,length_flatMap->pL,zip_cons_cons->qA,getD_eq_getElem?_getD->qB,forIn_nil->qC,drop_drop->qD,length_range->rx,ext_getElem?->ry,lookup_eq_none_iff->sD,length_eq_zero_iff->sE,flatMap_nil->sF,cons_append->sG,map_id'->sQ,drop_of_length_le->sR,drop_eq_nil_of_le->sS,forIn_cons->uf,range_eq_range'->vz,replicate_succ->wG,getElem_of_mem->wH,mem_filterMap->yj,map_nil->zL,sublist_nil->AG,getElem_mem->AH,getElem_inj->AI,any_eq_true->AJ,of_mem_zip->CI,length_eraseIdx_of_lt->Ek,drop_zero->El,extract_eq_take_drop->F4,eq_of_mem_replicate->Gj,pairwise_of_forall->Iz,getElem?_replicate->IA,all_eq_not_any_not->IB,extract_toArray->MD,mem_map_of_mem->OD,map_eq_nil_iff->OE,map_eq_flatMap->OF,zip_map_right->OW,set_cons_zero->OX,set_cons_succ->OY,prefix_append->OZ,lookup_append->O0,getElem?_drop->O1,findIdx?_cons->O2,size_toArray->Ta,reverse_cons->Tb,nodup_append->Tc,range'_succ->TJ,nodup_range->TK,isEmpty_iff->TL,drop_left->XJ
open PySem renaming wpAny_bind->am,wpAny_pure->aR,Shared->bb,wpAny_Call_Name_kw->cn,Around->cS,wpAny_standAt->cV,wpAny_execs_cons->da,wpAny_holding->dH,Comprehension->dI,builtinLookup_eq_fast->ez,wpAny_Call_method_lateS->eJ,DictEntry->eK,codeAny_of_tree->eZ,callWith_function_kw->fI,wpAny_mono->gb,wpAny_truthy_bool->gf,seg_execs_nil->gQ,seg_execs_cons->gT,typeLookup_type->g5,wpAny_newObj_type->iE,wpAny_evalAll_nil->iH,Heap->iR,wpAny_of_eq->i6,wpAny_execs_nil->jB,wpAny_noted->jD,World->jE,wpAny_Constant_str->kl,wpAny_onRaise->kC,wpAny_Assign_Name->kY,evalArgs_kw->lD,Env->lY,Operator->mx,wpAny_with_toks->mE,wpAny_is_plain->nU,assign->pI,wpAny_loadName_local->qg,NameKind->qi,wpAny_isTrue_value->sf,wpAny_bindName->si,typeIs_str->sj,wpAny_Tuple->sN,wpAny_list_append_plain->uX,wpAny_call_entry->uY,wpAny_callSpecial?_slot->uZ,TriplesOk->u5,wpAny_call->v8,codeAny_mono->v9,CmpOp->wF,wpAny_storeName_local->yb,wpAny_isTrue_Compare1->yc,wpAny_newFunctionEnv->yQ,wpAny_Expr_any->yR,seg_wrap->yS,isSubtype_type->yT,wpAny_Constant_bool->zY,Sem->z0,codeAny_block->AD,wpAny_pyIter_tuple->Cm,wpAny_assign_Tuple->Cn,wpAny_Name->Co,Flow->Cq,wpAny_isNot_plain->C9,slot_list_getitem->Dc,Tok->Dd,StrKeys->De,Seg->FX,JoinOk->FY,wpAny_field->Gd,wpAny_alloc->Ge,wpAny_BinOp->Gf,boolOp->Iv,wpAny_rule->KD,wpAny_load->KE,wpAny_layCells->KG,call_meets->KH,wpAny_For->OS,codeAny_call_function->Tw,wpAny_IfExp->VP,seqIndex_of->VQ,UniqKeys->VR,GenState->VV
open PySem.Heap renaming get?_push_of_some->aJ,get?_push_size->aV,lt_size->bW,size_push->eT,SameBut->gH,ExtBut->rv,get?_update_self->uP
open Array renaming length_toList->bz,getElem?_toList->fS,getElem?_eq_some_iff->iT,toList_append->lq,getElem?_eq_none->my,getElem?_eq_getElem->qS,toList_inj->sq,mem_toList_iff->vf,all_eq_true_iff_forall_mem->y8,getElem?_push_size->F8,getElem?_push_lt->ID,mem_of_getElem?->IO,mem_def->XO
open Bool renaming false_ne_true->bG,and_eq_true->dj,eq_iff_iff->dr,and_eq_true_iff->dD,noConfusion->eU,false_eq_true->fu,not_eq_true'->jl,eq_false_iff->ko,rec->qE,or_eq_false_iff->vA
open Prod.mk renaming inj->bH,injEq->TB
open PySem.Calls renaming spliced_cons->bX,callWith_builtin->cX,spliced_nil->eA,Name_function_global->qj,loadGlobal_builtin->FZ
open PySem.Challenge renaming rw_ti0077_01->cu,pw_ti0077_01->pJ
open PySem.Builtin.Str renaming tooLong->cw,occurrences->jf,strSliceIndices->nE,strSub->nV
open PySem.Around renaming under_of_weight->cy
open Int renaming ofNat_lt->cD,natCast_nonneg->dN,le_trans->dZ,ofNat_le->fJ,lt_trans->jp,toNat_sub->lX,toNat_natCast->mU,toNat->nW,not_lt->nX,natCast_add->pM,lt_of_le_of_lt->qR,add_sub_assoc->rF,ofNat_sub->sm,add_comm->ug,le_antisymm->uQ,le_refl->wy,toNat_of_nonneg->yf,sub_eq_add_neg->y6,add_sub_cancel->y7,mul_le_mul_of_nonneg_right->Cy,neg_sub->CJ,fdiv_eq_ediv_of_nonneg->F6,add_le_add->F7,ofNat_inj->IC,toNat_of_nonpos->O4,sub_add_cancel->Td,not_le->Te,lt_of_lt_of_le->Tf,min_eq_right->VZ,max_eq_right->V0,le_max_right->V1,min_eq_left->XK,max_eq_left->XM,le_max_left->XN
open PySem.Txt renaming lower->cO,contains->eR,replace->iM,slice->lj,upper->sL,join->zZ
open Nat.Internal.Linear renaming Context->dh,Expr->ei
open PyProof.Rows renaming callWith_type->ec,tail_any->lT,AllBare->ms,Subscript_->pP,IntsAre->rD,Assign_Tuple_swapped->uc,unpackItems_tuple->vy,floordiv_int->yU,assign_Name->zJ,UnaryOp_->Ct,neg_int->CF,eq_str->Dh
open PySem.Value renaming ref->eL,none->qh,isStrOf_shape->wb,type->Ot
open List.Nodup renaming length_le_of_subset->fk
open PySem.Float64 renaming cmp->fL,nearestOf->ia,isFinite->jx,decode->jy,ofBin->lm,zero->mr,isInf->nh,shift->qN,align->qO,fmod->sk,ofFrac->ub,pack->ye,sgn->zH,div->zI,isZero->Cr,ofInt->Df,mul->Iw,add->Iy,roundMag->Ou,divmod->S6,isNaN->Tx,sub->XH,neg->XI
open Exists renaming intro->fY
open PySem.Builtin.Re renaming reTurnSteps->gu,reRawOf->iB,reTarget->sP,reRunToEnd->Dg,reAnswer->F0,reDrive->Gi
open List.Pairwise renaming imp_of_mem->gJ,nil->gW,map->gX
open PySem.Builtin.List renaming listFitsIndex->iq
open PySem.Sem renaming bind_eq_wrap'->jm,wrap_wrap->lS,bind_eq_wrap->VU
open List.cons renaming inj->jK
open PySem.NameKind renaming cell->kZ,free->S5
open Nat.succ renaming inj->lZ
open PySem.Heap.SameBut renaming update->mR
open Ordering renaming lt->ni,eq->VW
open PySem.Builtin.Range renaming rangeSize->pK,small->CE
open Classical renaming byContradiction->pN
open Int.ofNat renaming inj->qm
open PySem.Flt renaming toInt->qz
open PySem.Heap.NoLimit renaming keeps->sO
open PySem.SeqAt.EqAt renaming of_refs->uO,same->yi,str_str->Gh
open PySem.Walks renaming tuple->u0
open PySem.Builtin.SmallTypes renaming nextOf->u6
open PySem.Builtin.Generator renaming genWake->vw
open PySem.SeqAt renaming EqAt->yd
open PySem.SeqAt.RcAt renaming lists_lengths->AE,lists->IL
open PySem.StrLaws renaming At->Cp,partsFrom->Mz
open Nat.Internal.Linear.ExprCnstr renaming mk->Di,eq_false_of_isUnsat->Dj
open PyProof renaming noPylong_small->F1
open List.Sublist renaming refl->F5
open PySem.W renaming hideAll_get->Gg,kla_fn->S4
open PySem.PyData renaming list->IM,int->MA
open Function renaming comp_def->KP
open ForInStep renaming yield->ME
open List.Perm renaming cons->OG
open PySem.Manifest renaming find?->OT
open PyProof.Rows.AllBare renaming push->OU
open LawfulBEq renaming eq_of_beq->O3
open PySem.ExcName renaming means->Tz
open PySem.BindsTo renaming of_eq->TA
open PySem.Shared renaming setGen->VT
open And renaming intro->V2
open PySem.Frame renaming guarded->XG
open PySem PySem.W PySem.W.X
set_option autoImplicit true
set_option maxRecDepth 100000
set_option genSizeOf false
set_option genInjectivity false
set_option bootstrap.genMatcherCode false
set_option linter.all false
set_option tactic.hygienic false
set_option compiler.extract_closed false
noncomputable section
namespace Mine
abbrev NN:=Nat->Nat
abbrev VS:=Value->bb->Prop
abbrev LN:=List (List Nat)
abbrev SS:=List (Str×Str)
abbrev Vs:=List Value
abbrev Nz:=List Nat
abbrev Sn:=List (Str×Nat)
abbrev wS:=Lean.Syntax
def wn (k : Lean.Name) (a : List wS) : wS := .node .none k a.toArray
def wN (k : String) : Lean.Name := ("Lean.Parser.Tactic." ++ k).toName
def wx : wS := .atom .none ""
def wl (a : List wS) : wS := wn `null a
def wp (k : String) (a : List wS) : wS := wn (wN k) (wx :: a)
def wm (k : String) (a : List wS) : wS := wn (.str `Lean.Parser.Term k) a
def ws (l : List wS) : wS := wn (wN "tacticSeq") [wn (wN "tacticSeq1Indented") [wl (l.intersperse (wl []))]]
def wq (l : List wS) : wS := wp "paren" [ws l, wx]
def wf (l : List (List wS)) : wS := wp "first" [wl (l.map λt => wn `group [wx, ws t])]
def wh (t : List wS) : wS := wf [t, [wp "fail" [wl []]]]
def wI (s : String) : wS := if s.isNat then Lean.Syntax.mkNumLit s else if s == "?" then wm "syntheticHole" [wx, .atom .none "_"] else if s == "_" then wm "hole" [wx] else Lean.mkIdent (.mkSimple s)
def wi (s : String) : wS := if s.isNat || s == "?" then wI s else Lean.mkIdent s.toName
def wa (f : wS) (a : List wS) : wS := wm "app" [f, wl a]
def wr (f : String) (a : List wS) : wS := wp "refine" [wa (wi f) a]
def wT (e : wS) : wS := wp "refine" [wm "typeAscription" [wm "hygienicLParen" [wx, wn `hygieneInfo [wi ""]], wI "?", wx, wl [e], wx]]
def we (e : wS) : wS := wa e [wm "ellipsis" [wx]]
def wK (p : wS) (k : String) : Bool := p.isOfKind (wN k)
def wC (e : wS) : List wS := if e.isIdent then [wp "tacticTry_" [ws [wp "clear" [wl [e]]]]] else []
def wo (p : wS) (e : wS) : wS := wp "obtain" [wl [wn (wN "rcasesPatMed") [wl [p]]], wl [], wl [wx, wl [e]]]
def wg (p : wS) (z : String) : wS × List wS :=
  if wK p "rcasesPat.one" then if p[0].getId == `rfl then (wI z, [wp "subst" [wl [wI z]]]) else (p[0], [])
  else if wK p "rcasesPat.ignore" then (wI "_", []) else (wI z, [wo p (wI z)])
noncomputable def iN (b:Bool) (x y:Nat):Nat:= @qE (λq=>Nat) y x b
def y9 {b:Bool} {p:Prop} [Decidable p] (h:(b=true)=p) {x y:Nat}:iN b x y=if p then x else y:=by
 subst h;cases b
 ·exact(if_neg bG).symm
 ·exact(if_pos rfl).symm
noncomputable def XQ (s l q:Nat):Nat:=iN (jo (TG (nat_lit 2) (ir l s)) q) (ir l s) l
noncomputable def lgT (q l:Nat):Nat:=XQ (nat_lit 1) (XQ (nat_lit 2) (XQ (nat_lit 4) (XQ (nat_lit 8) (XQ (nat_lit 16) (XQ (nat_lit 32) (XQ (nat_lit 64) l q) q) q) q) q) q) q
noncomputable def lgY (q l o:Nat):Nat:=iN (jo (TG (nat_lit 2) l) q) (iN (jo (F2 q) (TG (nat_lit 2) (F2 l))) l o) o
noncomputable def lgC (q:Nat):Nat:=lgY q (lgT q (nat_lit 0)) (Nat.log2 q)
noncomputable def lgG (q l:Nat):Nat:=lgY q l (lgY q (F2 l) (lgC q))
def IQ (q l o:Nat) (ho:o=q.log2):lgY q l o=q.log2:=by
 show iN (jo (2 ^ l) q) (iN (jo (q+1) (2 ^ (l+1))) l o) o=_;rw[y9 (p:=2 ^ l<=q) yY,y9 (p:=q<2 ^ (l+1)) yY];by_cases h:2 ^ l<=q
 ·rw[if_pos h];by_cases k:q<2 ^ (l+1)
  ·rw[if_pos k];exact((Nat.log2_eq_iff λe=>absurd (e▸h) (Nat.not_le_of_gt (Nat.pow_pos (by decide)))).mpr ⟨h,k⟩).symm
  ·rw[if_neg k,ho]
 ·rw[if_neg h,ho]
def XR (q:Nat):lgC q=q.log2:=IQ q (lgT q (nat_lit 0)) _ rfl
def O6 (q l:Nat):lgG q l=q.log2:=IQ _ _ _ (IQ _ _ _ (XR q))
noncomputable def heS (q r b:Nat):Nat:=iN (jo r b) (iN (ql r b) (ir q (KL q (nat_lit 2))) q) (F2 q)
noncomputable def heN (a b:Nat):Nat:=heS (Nat.div a b) (oh (nat_lit 2) (KL a b)) b
def XS (a b:Nat):Float64.halfEven a b=heN a b:=by
 show(if (decide (2*(a%b)>b)||(2*(a%b)==b&&a/b%2==1))=true then a/b+1 else a/b)=heS (a/b) (2*(a%b)) b;generalize a/b=q;generalize 2*(a%b)=r;unfold heS;rw[y9 (p:=r<=b) yY,y9 (p:=r=b) F3];by_cases h:r<=b
 ·rw[if_pos h,decide_eq_false (fC.mpr h),Bool.false_or];by_cases k:r=b
  ·rw[if_pos k,beq_iff_eq.mpr k,Bool.true_and];show _=q+q%2;rcases Nat.mod_two_eq_zero_or_one q with e|e<;>(rw[e];rfl)
  ·rw[if_neg k,beq_false_of_ne k];rfl
 ·rw[if_neg h,decide_eq_true (S9.mp h)];rfl
def aaI (n d:Nat) (k:Int):qN n d k=(n*2 ^ k.toNat,d*2 ^ (-k).toNat):=by
 unfold qN;by_cases h:k>=0
 ·rw[if_pos h,O4 (Int.neg_nonpos_of_nonneg h),Nat.pow_zero,Nat.mul_one]
 ·rw[if_neg h,O4 (Int.le_of_lt (Te.mp h)),Nat.pow_zero,Nat.mul_one]
noncomputable def tw (n:Nat):Nat:=TG (nat_lit 2) n
noncomputable def rmF (n d E:Nat):Nat:=ir (oh E (nat_lit 4503599627370496)) (heN (oh n (tw (gn (nat_lit 1074) E))) (oh d (tw (gn E (nat_lit 1074)))))
noncomputable def mnI (x:Nat):Nat:=iN (jo x (nat_lit 9218868437227405312)) x (nat_lit 9218868437227405312)
noncomputable def rmE (n d k j:Nat):Nat:=gn (iN (jo (oh d (tw (gn k j))) (oh n (tw (gn j k)))) (ir k (nat_lit 1022)) (ir k (nat_lit 1021))) j
noncomputable def rmN (n d g h:Nat):Nat:=iN (ql n (nat_lit 0)) (nat_lit 0) (mnI (rmF n d (rmE n d (lgG n g) (lgG d h))))
def sh2 (n d t c:Nat):qN n d ((t:Int)- c)=(n*2 ^ (t- c),d*2 ^ (c- t)):=by rw[aaI,lX,CJ,lX]
def V3 (k j a c:Nat) (h:(a:Int)- 1074= -c):max ((k:Int)- j- c) (-1074)=((gn (ir k a) j:Nat):Int)- 1074:=by show _=((k+a- j:Nat):Int)- 1074;rw[<- lX,Int.toNat_eq_max,<- Int.sub_max_sub_right,pM,y6 (a:=(k:Int)+a),Int.add_right_comm,rF,h];rfl
def aaJ (n d g h:Nat):Ou n d=rmN n d g h:=by
 unfold Ou rmN rmE;by_cases h:n=0
 ·subst h;rfl
 ·rw[beq_false_of_ne h,if_neg bG,y9 (p:=n=0) F3,if_neg h,O6,O6];generalize n.log2=k;generalize d.log2=j;dsimp only;rw[CJ,sh2];dsimp only;rw[y9 (b:=jo (oh d (tw (gn k j))) (oh n (tw (gn j k)))) (p:=n*2 ^ (j- k) >=d*2 ^ (k- j)) yY];generalize hE:gn (if n*2 ^ (j- k) >=d*2 ^ (k- j) then ir k (nat_lit 1022) else ir k (nat_lit 1021)) j=E;have he:max (if n*2 ^ (j- k) >=d*2 ^ (k- j) then((k:Int)- j)- 52 else((k:Int)- j)- 53) (-1074)=(E:Int)- 1074:=by
   subst hE;by_cases h:n*2 ^ (j- k) >=d*2 ^ (k- j)
   ·rw[if_pos h,if_pos h];exact V3 k j 1022 52 rfl
   ·rw[if_neg h,if_neg h];exact V3 k j 1021 53 rfl
  rw[he,Td,CJ];unfold mnI;rw[y9 yY];have hs:=sh2 n d 1074 E;rw[show(1074:Int)=((1074:Nat):Int) from rfl,hs];dsimp only;rw[XS,KN];exact Nat.min_def
noncomputable def z3 (g h:Nat) (s:Bool) (n d:Nat):UInt64:=ye s (rmN n d g h)
def vB (g h:Nat):ub=z3 g h:=funext λs=>funext λn=>funext λd=>by unfold ub z3;rw[aaJ n d g h]
noncomputable def Em:Bool->Nat->Nat->UInt64:=z3 (nat_lit 2) (nat_lit 3)
def Dk:ub=Em:=vB _ _
noncomputable def rbN (g m t:Nat):Nat:=rmN (oh m (tw (gn t (nat_lit 2148)))) (tw (gn (nat_lit 2148) t)) (ir g (gn t (nat_lit 2148))) (gn (nat_lit 2148) t)
def AK (g:Nat) (s:Bool) (m t:Nat):lm s m ((t:Int)- 2148)=ye s (rbN g m t):=by unfold lm;rw[show(2148:Int)=((2148:Nat):Int) from rfl,sh2,vB (ir g (gn t (nat_lit 2148))) (gn (nat_lit 2148) t),CH];rfl
def bq (a b:Nat):(a==b)=ql a b:=by rw[dr,beq_iff_eq,F3]
noncomputable def TM (x:Nat):Nat:=KL (Nat.div x (nat_lit 4503599627370496)) (nat_lit 2048)
noncomputable def frN (x:Nat):Nat:=KL x (nat_lit 4503599627370496)
noncomputable def OH (x:Nat):Bool:=ql (Nat.div x (nat_lit 9223372036854775808)) (nat_lit 1)
noncomputable def Tg (x:Nat):Nat:=iN (ql (TM x) (nat_lit 0)) (frN x) (ir (nat_lit 4503599627370496) (frN x))
noncomputable def Dl (x:Nat):Nat:=gn (TM x) (nat_lit 1)
def IR {x:UInt64} (h:ql (TM x.toNat) (nat_lit 2047)=false):jy x= .fin (OH x.toNat) (Tg x.toNat) ((Dl x.toNat:Int)- 1074):=by
 have h:TM x.toNat≠2047:=λe=>by rw[e]at h;exact nomatch h
 unfold Tg Dl jy;have hE:x.toNat/2 ^ 52%2048=TM x.toNat:=rfl;have hF:x.toNat%2 ^ 52=frN x.toNat:=rfl;have hS:(x.toNat/2 ^ 63==1)=OH x.toNat:=bq _ _;rw[hE,hF,hS];dsimp only;rw[beq_false_of_ne h,if_neg bG,y9 (p:=TM x.toNat=0) F3];by_cases k:TM x.toNat=0
 ·rw[k];rfl
 ·rw[beq_false_of_ne k,if_neg bG,if_neg k];obtain(⟨e,he⟩):=oU k;rw[he];exact congrArg (Float64.Num.fin _ _) (rF e 1 1075)
noncomputable def iF (b:Bool) (x y:UInt64):UInt64:= @qE (λq=>UInt64) y x b
def AL {b:Bool} {x y z:UInt64} (h1:b=true->x=z) (h2:b=false->y=z):iF b x y=z:=by
 cases b
 ·exact h2 rfl
 ·exact h1 rfl
noncomputable def fast (f:Nat->Nat->UInt64) (g:UInt64->UInt64->UInt64) (x y:UInt64):UInt64:=iF (ql (TM x.toNat) (nat_lit 2047)) (g x y) (iF (ql (TM y.toNat) (nat_lit 2047)) (g x y) (f x.toNat y.toNat))
def z4 {f:Nat->Nat->UInt64} {g:UInt64->UInt64->UInt64} {x y:UInt64} (h:∀a m E b k F,jy x= .fin a m ((E:Nat)- 1074)->jy y= .fin b k ((F:Nat)- 1074)->a=OH x.toNat->m=Tg x.toNat->E=Dl x.toNat->b=OH y.toNat->k=Tg y.toNat->F=Dl y.toNat->f x.toNat y.toNat=g x y):fast f g x y=g x y:=
 AL (λq=>rfl) λh1=>AL (λq=>rfl) λh2=>h _ _ _ _ _ _ (IR h1) (IR h2) rfl rfl rfl rfl rfl rfl
noncomputable def xoB (a b:Bool):Bool:= @qE (λq=>Bool) b (@qE (λq=>Bool) true false b) a
def IS (a b:Bool):(a !=b)=xoB a b:=by cases a<;>cases b<;>rfl
noncomputable def aaK (x y:Nat):UInt64:=ye (xoB (OH x) (OH y)) (rbN (nat_lit 104) (oh (Tg x) (Tg y)) (ir (Dl x) (Dl y)))
noncomputable def XT (x y:UInt64):UInt64:=fast aaK Iw x y
def KS (x y:UInt64):XT x y=Iw x y:=z4 λa m E b k F h1 h2 ea em eE eb ek eF=>by unfold Iw aaK;rw[h1,h2,<- ea,<- em,<- eE,<- eb,<- ek,<- eF,<- IS];show _=lm (a !=b) (m*k) _;rw[show(E:Int)- 1074+(F- 1074)=((E+F:Nat):Int)- 2148 by rw[y6,y6,Int.add_assoc,Int.add_left_comm (-1074),<- Int.add_assoc];rfl,AK 104];rfl
noncomputable def O7 (x y:Nat):Nat:=oh (Tg x) (tw (gn (Dl x) (Dl y)))
noncomputable def mgN (x y:Nat):Nat:=ir (gn (Dl x) (gn (Dl x) (Dl y))) (nat_lit 1074)
def XU (a b c:Int):a- c- (b- c)=a- b:=Int.add_sub_add_right a (-c) b
def O8 (a:Bool) (m E:Nat) (b:Bool) (k F:Nat):qO a m ((E:Int)- 1074) b k ((F:Int)- 1074)=(zH a (m*2 ^ (E- F)),zH b (k*2 ^ (F- E)),((E- (E- F)+1074:Nat):Int)- 2148):=by
 have e1:E- (E- (E- F))=E- F:=Cv (jU ..);have e2:F- (E- (E- F))=F- E:=by rw[yV,KN,<- yV,Cv (jU ..)]
 unfold qO;rw[Int.sub_min_sub_right,<- Lean.Omega.Int.ofNat_min,<- yV];generalize E- (E- F)=G at e1 e2⊢;dsimp only;rw[XU,XU,lX,lX,e1,e2,pM,rF];rfl
noncomputable def V4 (g t:Nat) (s:Bool) (n:Nat):UInt64:=ye s (rbN g n t)
noncomputable def adD (g t p q:Nat):UInt64:=iF (jo q p) (V4 g t false (gn p q)) (V4 g t true (gn q p))
noncomputable def adM (a b:Bool) (g t p q:Nat):UInt64:= @qE (λz=>UInt64) (@qE (λz=>UInt64) (V4 g t false (ir p q)) (adD g t p q) b) (@qE (λz=>UInt64) (adD g t q p) (V4 g t true (ir p q)) b) a
noncomputable def gsN (x y:Nat):Nat:=ir (nat_lit 52) (ir (gn (Dl x) (Dl y)) (gn (Dl y) (Dl x)))
noncomputable def aaL (x y:Nat):UInt64:=adM (OH x) (OH y) (gsN x y) (mgN x y) (O7 x y) (O7 y x)
noncomputable def TN (x y:UInt64):UInt64:=fast aaL Iy x y
def ain {g t:Nat} {s:Bool}:mr s=V4 g t s 0:=by unfold V4 rbN;rw[show oh 0 _=0 from Nat.zero_mul _];rfl
def KU {g t n:Nat} {c s:Bool} {z:Int} (hz:z=zH s n) (hc:n=0->c=s):(if z==0 then mr c else lm (z<0) z.natAbs ((t:Int)- 2148))=V4 g t s n:=by
 unfold zH at hz;rcases yX n with(h|h)
 ·rw[hc h,h];rw[h]at hz;rw[show z=0 by rw[hz];cases s<;>rfl];exact ain
 ·rw[if_neg (by rw[beq_iff_eq,hz];cases s<;>simp<;>exact jV h),AK g,show z.natAbs=n by rw[hz];cases s<;>simp,show decide (z<0)=s by rw[hz];cases s<;>simp<;>exact h];rfl
def O9 {g t p q:Nat} {z:Int} (hz:z=(p:Int)- q):(if z==0 then mr false else lm (z<0) z.natAbs ((t:Int)- 2148))=adD g t p q:=by
 refine(AL (λh=> ?_) λh=> ?_).symm
 ·exact(KU (s:=false) (hz.trans (sm (nH h)).symm) λy=>rfl).symm
 ·have h:p<q:=Cx λk=>by rw[ve k]at h;exact nomatch h
  exact(KU (s:=true) (hz.trans (show _= -((q- p:Nat):Int) by rw[sm (ce h),CJ])) λk=>absurd k (u9 h)).symm
def En (x y:UInt64):TN x y=Iy x y:=z4 λa m E b k F h1 h2 ea em eE eb ek eF=>by
 unfold Iy aaL O7 mgN;rw[h1,h2,<- ea,<- em,<- eE,<- eb,<- ek,<- eF];show _=match qO a m _ b k _ with|(p,q,g)=>if p+q==0 then mr (a&&b) else lm (p+q<0) (p+q).natAbs g
 rw[O8];unfold adM tw;cases a<;>cases b
 ·exact(KU (pM _ _).symm λz=>rfl).symm
 ·exact(O9 rfl).symm
 ·exact(O9 (ug _ _)).symm
 ·exact(KU (s:=true) (Int.neg_add.symm) λz=>rfl).symm
noncomputable def iZ (k:Nat) (x y:UInt64):UInt64:=iF (ql k (nat_lit 0)) x y
noncomputable def aaM (x y:Nat):UInt64:=z3 (ir (nat_lit 52) (gn (Dl x) (Dl y))) (ir (nat_lit 52) (gn (Dl y) (Dl x))) (xoB (OH x) (OH y)) (O7 x y) (O7 y x)
noncomputable def aaN (x y:UInt64):UInt64:=iZ (Tg y.toNat) (zI x y) (fast aaM zI x y)
def TO (x y:UInt64):aaN x y=zI x y:=AL (λq=>rfl) λh=>z4 λa m E b k F h1 h2 ea em eE eb ek eF=>by unfold zI aaM O7;rw[h1,h2,<- ea,<- em,<- eE,<- eb,<- ek,<- eF,<- IS];have hk:(k==0)=false:=(bq _ _).trans (ek▸h);show _=if (k==0)=true then _ else ub (a !=b) (qN m k (E- 1074- (F- 1074))).1 (qN m k (E- 1074- (F- 1074))).2;rw[hk,if_neg bG,XU,sh2,vB (ir (nat_lit 52) (gn E F)) (ir (nat_lit 52) (gn F E))];rfl
noncomputable def fmM (x y:Nat):UInt64:=V4 (nat_lit 52) (mgN x y) (OH x) (KL (O7 x y) (O7 y x))
noncomputable def Gk (x y:UInt64):UInt64:=iZ (Tg y.toNat) (sk x y) (fast fmM sk x y)
def Pa (x y:UInt64):Gk x y=sk x y:=AL (λz=>rfl) λh=>z4 λa m E b k F h1 h2 ea em eE eb ek eF=>by
 unfold sk fmM O7 mgN;rw[h1,h2,<- ea,<- em,<- eE,<- ek,<- eF];have hk:(k==0)=false:=(bq _ _).trans (ek▸h);show _=if (k==0)=true then _ else match qO false m _ false k _ with|(p,q,g)=>lm a (p.toNat%q.toNat) g
 rw[hk,if_neg bG,O8];exact(AK 52 ..).symm
noncomputable def iG {α:Type} (b:Bool) (x y:α):α:= @qE (λq=>α) y x b
noncomputable def cmN (p q:Nat):Ordering:=iG (jo p q) (iG (jo q p) .eq .lt) .gt
def XW (p q:Nat):cmN p q=compare (p:Int) q:=by
 unfold cmN;cases h:jo p q with
 |false=>exact(Int.compare_eq_gt.mpr (cD.mpr (S9.mp λk=>by rw[ve k]at h;exact nomatch h))).symm
 |true=>
  have h:=nH h;cases k:jo q p with
  |true=>exact(Int.compare_eq_eq.mpr (IC.mpr (bL h (nH k)))).symm
  |false=>exact(Int.compare_eq_lt.mpr (cD.mpr (S9.mp λl=>by rw[ve l]at k;exact nomatch k))).symm
noncomputable def KV (x y:UInt64):Option Ordering:=iG (jo x.toNat (nat_lit 9218868437227405311)) (iG (jo y.toNat (nat_lit 9218868437227405311)) (aa (cmN (O7 x.toNat y.toNat) (O7 y.toNat x.toNat))) (fL x y)) (fL x y)
def Pb {x:UInt64} (h:jo x.toNat (nat_lit 9218868437227405311)=true):jy x= .fin false (Tg x.toNat) ((Dl x.toNat:Int)- 1074):=by have h:x.toNat<=9218868437227405311:=nH h;rw[IR (by rw[<- bq];exact beq_false_of_ne λe=>cM (bB (Nat.mod_le ..) (wk (fQ h))) e),show OH x.toNat=false from congrArg (λz=>ql z 1) (Nat.div_eq_of_lt (bB h (by decide)))]
def vC:KV=fL:=funext λx=>funext λy=>by
 unfold KV;cases h:jo x.toNat (nat_lit 9218868437227405311)with
 |false=>rfl
 |true=>cases k:jo y.toNat (nat_lit 9218868437227405311)with
  |false=>rfl
  |true=>unfold fL;rw[Pb h,Pb k];show _=(match qO false _ _ false _ _ with|(p,q,_)=>aa (compare p q));rw[O8];exact congrArg aa (XW _ _)
noncomputable def XX (x y:UInt64):UInt64:=iF (Cr (Gk x y)) (Float64.copysign (mr false) y) (iF (xoB (KV y (mr false)==aa .lt) (KV (Gk x y) (mr false)==aa .lt)) (TN (Gk x y) y) (Gk x y))
def TP (x y:UInt64):XX x y=(S6 x y).2:=by
 unfold XX S6 Float64.lt;rw[Pa,En,vC,<- IS];generalize sk x y=m;refine AL (λh=> ?_) λh=> ?_
 ·simp only[h,if_true]
 ·refine AL (λk=> ?_) λk=> ?_<;>simp only[h,k,if_true,if_false,fu]
noncomputable def XY (x y:UInt64):UInt64:=TN x (XI y)
def KW (x y:UInt64):XY x y=XH x y:=by unfold XH;exact En x (XI y)
noncomputable def V5 {α:Type} (l:List α):Nat->Option α:= @List.rec α (λq=>Nat->Option α) (λq=>ac) (λa q r n=> @KJ (λq=>Option α) (aa a) (λm q=>r m) n) l
def AM {α:Type} (l:List α) (i:Nat):V5 l i=l[i]? :=by
 induction l generalizing i with
 |nil=>rfl
 |cons a l ih=>cases i with
  |zero=>rfl
  |succ i=>exact ih i
@[elab_as_elim] theorem rwt {α:Sort _} {a b:α} {Cg:α->Prop} (h:a=b) (k:Cg b):Cg a:=h▸k
@[elab_as_elim] theorem rwl {α:Sort _} {a b:α} {Cg:α->Prop} (h:b=a) (k:Cg b):Cg a:=h▸k
local macro_rules (kind := Lean.Parser.Tactic.rewriteSeq)
  | s =>
  let l := s[2][1].getSepArgs.toList
  if s[1][0].getNumArgs + s[3].getNumArgs != 0 then Lean.Macro.throwUnsupported else
  pure (wq (l.map fun r => if l.length == 1 then wh [wr (if r[0].getNumArgs == 0 then "Mine.rwt" else "Mine.rwl") [we r[1], wI "?"]] else wp "rewriteSeq" [s[1], wn (wN "rwRuleSeq") [wx, wl [r], wx], s[3]]))
local macro_rules (kind := Lean.Parser.Tactic.show) | s => pure (wh [wT s[1]])
section
variable {G:Prop}
def xe02 {p q:Prop} (h:p/\q) (k:p->q->G):G:=k h.1 h.2
def xe03 {p q r:Prop} (h:p/\q/\r) (k:p->q->r->G):G:=xe02 h.2 (k h.1)
def xe04 {p q r s:Prop} (h:p/\q/\r/\s) (k:p->q->r->s->G):G:=xe03 h.2 (k h.1)
def xe05 {p q r s t:Prop} (h:p/\q/\r/\s/\t) (k:p->q->r->s->t->G):G:=xe04 h.2 (k h.1)
def xe06 {p q r s t u:Prop} (h:p/\q/\r/\s/\t/\u) (k:p->q->r->s->t->u->G):G:=xe05 h.2 (k h.1)
def xe07 {p q r s t u v:Prop} (h:p/\q/\r/\s/\t/\u/\v) (k:p->q->r->s->t->u->v->G):G:=xe06 h.2 (k h.1)
def xe08 {p q r s t u v w:Prop} (h:p/\q/\r/\s/\t/\u/\v/\w) (k:p->q->r->s->t->u->v->w->G):G:=xe07 h.2 (k h.1)
def xe11 {A:Sort _} {p:A->Prop} (h:∃a,p a) (k:∀a,p a->G):G:=h.elim k
def xe12 {A:Sort _} {p q:A->Prop} (h:∃a,p a/\q a) (k:∀a,p a->q a->G):G:=h.elim λa h=>xe02 h (k a)
def xe13 {A:Sort _} {p q r:A->Prop} (h:∃a,p a/\q a/\r a) (k:∀a,p a->q a->r a->G):G:=h.elim λa h=>xe03 h (k a)
def xe14 {A:Sort _} {p q r s:A->Prop} (h:∃a,p a/\q a/\r a/\s a) (k:∀a,p a->q a->r a->s a->G):G:=h.elim λa h=>xe04 h (k a)
def xe15 {A:Sort _} {p q r s t:A->Prop} (h:∃a,p a/\q a/\r a/\s a/\t a) (k:∀a,p a->q a->r a->s a->t a->G):G:=h.elim λa h=>xe05 h (k a)
def xe16 {A:Sort _} {p q r s t u:A->Prop} (h:∃a,p a/\q a/\r a/\s a/\t a/\u a) (k:∀a,p a->q a->r a->s a->t a->u a->G):G:=h.elim λa h=>xe06 h (k a)
def xe18 {A:Sort _} {p q r s t u v w:A->Prop} (h:∃a,p a/\q a/\r a/\s a/\t a/\u a/\v a/\w a) (k:∀a,p a->q a->r a->s a->t a->u a->v a->w a->G):G:=h.elim λa h=>xe08 h (k a)
def xe21 {A B:Sort _} {p:A->B->Prop} (h:∃a b,p a b) (k:∀a b,p a b->G):G:=h.elim λa h=>xe11 h (k a)
def xe22 {A B:Sort _} {p q:A->B->Prop} (h:∃a b,p a b/\q a b) (k:∀a b,p a b->q a b->G):G:=h.elim λa h=>xe12 h (k a)
def xe23 {A B:Sort _} {p q r:A->B->Prop} (h:∃a b,p a b/\q a b/\r a b) (k:∀a b,p a b->q a b->r a b->G):G:=h.elim λa h=>xe13 h (k a)
def xe24 {A B:Sort _} {p q r s:A->B->Prop} (h:∃a b,p a b/\q a b/\r a b/\s a b) (k:∀a b,p a b->q a b->r a b->s a b->G):G:=h.elim λa h=>xe14 h (k a)
def xe25 {A B:Sort _} {p q r s t:A->B->Prop} (h:∃a b,p a b/\q a b/\r a b/\s a b/\t a b) (k:∀a b,p a b->q a b->r a b->s a b->t a b->G):G:=h.elim λa h=>xe15 h (k a)
def xe26 {A B:Sort _} {p q r s t u:A->B->Prop} (h:∃a b,p a b/\q a b/\r a b/\s a b/\t a b/\u a b) (k:∀a b,p a b->q a b->r a b->s a b->t a b->u a b->G):G:=h.elim λa h=>xe16 h (k a)
def xe28 {A B:Sort _} {p q r s t u v w:A->B->Prop} (h:∃a b,p a b/\q a b/\r a b/\s a b/\t a b/\u a b/\v a b/\w a b) (k:∀a b,p a b->q a b->r a b->s a b->t a b->u a b->v a b->w a b->G):G:=h.elim λa h=>xe18 h (k a)
def xe31 {A B C:Sort _} {p:A->B->C->Prop} (h:∃a b c,p a b c) (k:∀a b c,p a b c->G):G:=h.elim λa h=>xe21 h (k a)
def xe32 {A B C:Sort _} {p q:A->B->C->Prop} (h:∃a b c,p a b c/\q a b c) (k:∀a b c,p a b c->q a b c->G):G:=h.elim λa h=>xe22 h (k a)
def xe33 {A B C:Sort _} {p q r:A->B->C->Prop} (h:∃a b c,p a b c/\q a b c/\r a b c) (k:∀a b c,p a b c->q a b c->r a b c->G):G:=h.elim λa h=>xe23 h (k a)
def xe34 {A B C:Sort _} {p q r s:A->B->C->Prop} (h:∃a b c,p a b c/\q a b c/\r a b c/\s a b c) (k:∀a b c,p a b c->q a b c->r a b c->s a b c->G):G:=h.elim λa h=>xe24 h (k a)
def xe35 {A B C:Sort _} {p q r s t:A->B->C->Prop} (h:∃a b c,p a b c/\q a b c/\r a b c/\s a b c/\t a b c) (k:∀a b c,p a b c->q a b c->r a b c->s a b c->t a b c->G):G:=h.elim λa h=>xe25 h (k a)
def xe36 {A B C:Sort _} {p q r s t u:A->B->C->Prop} (h:∃a b c,p a b c/\q a b c/\r a b c/\s a b c/\t a b c/\u a b c) (k:∀a b c,p a b c->q a b c->r a b c->s a b c->t a b c->u a b c->G):G:=h.elim λa h=>xe26 h (k a)
def xe41 {A B C D:Sort _} {p:A->B->C->D->Prop} (h:∃a b c d,p a b c d) (k:∀a b c d,p a b c d->G):G:=h.elim λa h=>xe31 h (k a)
def xe42 {A B C D:Sort _} {p q:A->B->C->D->Prop} (h:∃a b c d,p a b c d/\q a b c d) (k:∀a b c d,p a b c d->q a b c d->G):G:=h.elim λa h=>xe32 h (k a)
def xe43 {A B C D:Sort _} {p q r:A->B->C->D->Prop} (h:∃a b c d,p a b c d/\q a b c d/\r a b c d) (k:∀a b c d,p a b c d->q a b c d->r a b c d->G):G:=h.elim λa h=>xe33 h (k a)
def xe44 {A B C D:Sort _} {p q r s:A->B->C->D->Prop} (h:∃a b c d,p a b c d/\q a b c d/\r a b c d/\s a b c d) (k:∀a b c d,p a b c d->q a b c d->r a b c d->s a b c d->G):G:=h.elim λa h=>xe34 h (k a)
def xe45 {A B C D:Sort _} {p q r s t:A->B->C->D->Prop} (h:∃a b c d,p a b c d/\q a b c d/\r a b c d/\s a b c d/\t a b c d) (k:∀a b c d,p a b c d->q a b c d->r a b c d->s a b c d->t a b c d->G):G:=h.elim λa h=>xe35 h (k a)
def xe51 {A B C D E:Sort _} {p:A->B->C->D->E->Prop} (h:∃a b c d e,p a b c d e) (k:∀a b c d e,p a b c d e->G):G:=h.elim λa h=>xe41 h (k a)
def xe53 {A B C D E:Sort _} {p q r:A->B->C->D->E->Prop} (h:∃a b c d e,p a b c d e/\q a b c d e/\r a b c d e) (k:∀a b c d e,p a b c d e->q a b c d e->r a b c d e->G):G:=h.elim λa h=>xe43 h (k a)
def xe54 {A B C D E:Sort _} {p q r s:A->B->C->D->E->Prop} (h:∃a b c d e,p a b c d e/\q a b c d e/\r a b c d e/\s a b c d e) (k:∀a b c d e,p a b c d e->q a b c d e->r a b c d e->s a b c d e->G):G:=h.elim λa h=>xe44 h (k a)
def xe55 {A B C D E:Sort _} {p q r s t:A->B->C->D->E->Prop} (h:∃a b c d e,p a b c d e/\q a b c d e/\r a b c d e/\s a b c d e/\t a b c d e) (k:∀a b c d e,p a b c d e->q a b c d e->r a b c d e->s a b c d e->t a b c d e->G):G:=h.elim λa h=>xe45 h (k a)
def xe61 {A B C D E F:Sort _} {p:A->B->C->D->E->F->Prop} (h:∃a b c d e f,p a b c d e f) (k:∀a b c d e f,p a b c d e f->G):G:=h.elim λa h=>xe51 h (k a)
def xe63 {A B C D E F:Sort _} {p q r:A->B->C->D->E->F->Prop} (h:∃a b c d e f,p a b c d e f/\q a b c d e f/\r a b c d e f) (k:∀a b c d e f,p a b c d e f->q a b c d e f->r a b c d e f->G):G:=h.elim λa h=>xe53 h (k a)
def xe65 {A B C D E F:Sort _} {p q r s t:A->B->C->D->E->F->Prop} (h:∃a b c d e f,p a b c d e f/\q a b c d e f/\r a b c d e f/\s a b c d e f/\t a b c d e f) (k:∀a b c d e f,p a b c d e f->q a b c d e f->r a b c d e f->s a b c d e f->t a b c d e f->G):G:=h.elim λa h=>xe55 h (k a)
end
local macro_rules (kind := Lean.Parser.Tactic.obtain)
  | s =>
  let t := s[1][0][0]
  let l := t[0][1].getSepArgs.toList
  if s[2].getNumArgs != 0 || t.getNumArgs != 1 || !wK t[0] "rcasesPat.tuple" || l.any fun p => p[0][0].getNumArgs + p[1].getNumArgs != 1 then Lean.Macro.throwUnsupported else
  let e := s[3][1][0]
  let b := l.zipIdx.map fun p => wg p.1[0][0][0] ("z" ++ toString p.2 ++ "✝")
  pure (wh (wf ((List.range l.length).map fun j => wr ("Mine.xe" ++ toString (l.length - 1 - j) ++ toString (j + 1)) [e, wI "?"] :: wC e ++ [wp "intro" [wl (b.map (·.1))]]) :: (b.map (·.2)).flatten))
local macro_rules (kind := Lean.Parser.Tactic.rcases)
  | s =>
  let l := s[2][1][0][0]
  if s[1].getNumArgs != 1 || s[1][0][0].getNumArgs != 0 || l.getNumArgs != 3 || s[2][1][1].getNumArgs != 0 then Lean.Macro.throwUnsupported else
  let e := s[1][0][1]
  let x := wg l[0] "z✝"
  let y := wg l[2] "z✝"
  pure (wh (wr "Or.elim" [e, wI "?", wI "?"] :: wC e ++ wp "intro" [wl [x.1]] :: x.2 ++ wp "rotateLeft" [wl []] :: wC e ++ wp "intro" [wl [y.1]] :: y.2 ++ [wp "rotateRight" [wl []]]))
open Nat.Internal.Linear in
inductive Cs where
 |no
 |ok (l r:ei)
 |le (m:Nat) (l r:ei) (t:Cs)
 |eq (m:Nat) (l r:ei) (t:Cs)
 |qe (m:Nat) (l r:ei) (t:Cs)
 |nl (m:Nat) (l r:ei) (t:Cs)
def Cs.den (c:dh):Cs->Prop
 | .no=>False
 | .ok l r=>l.denote c<=r.denote c
 | .le _ l r t=>l.denote c<=r.denote c->t.den c
 | .eq _ l r t=>l.denote c=r.denote c->t.den c
 | .qe _ l r t=>l.denote c=r.denote c->t.den c
 | .nl _ l r t=>¬l.denote c<=r.denote c->t.den c
def Cs.sum:Cs->ei×ei
 | .no=>(.num 0,.num 0)
 | .ok l r=>(.add r (.num 1),l)
 | .le m l r t=>(.add (.mulL m l) t.sum.1,.add (.mulL m r) t.sum.2)
 | .eq m l r t=>(.add (.mulL m l) t.sum.1,.add (.mulL m r) t.sum.2)
 | .qe m l r t=>(.add (.mulL m r) t.sum.1,.add (.mulL m l) t.sum.2)
 | .nl m l r t=>(.add (.mulL m (.add r (.num 1))) t.sum.1,.add (.mulL m l) t.sum.2)
def Cs.snd (c:dh) (t:Cs):∀a b:Nat,a<=b->¬a+t.sum.1.denote c<=b+t.sum.2.denote c->t.den c:=by
 have key:∀ {m a b l r x y:Nat},a<=b->l<=r->¬a+(m*l+x)<=b+(m*r+y)->a+m*l<=b+m*r/\¬(a+m*l)+x<=(b+m*r)+y:=
  λ{m _ _ _ _ _ _} h k n=>⟨gc h (pQ m k),by rw[iO,iO];exact n⟩
 induction t with
 |no=>exact λa b h n=>n h
 |ok l r=>exact λa b h n=>iS λk=>n (gc h k)
 |le m l r t ih=>exact λa b h n k=>(λe=>ih _ _ e.1 e.2) (key h k n)
 |eq m l r t ih=>exact λa b h n k=>(λe=>ih _ _ e.1 e.2) (key h (fb k) n)
 |qe m l r t ih=>exact λa b h n k=>(λe=>ih _ _ e.1 e.2) (key h (fb k.symm) n)
 |nl m l r t ih=>exact λa b h n k=>(λe=>ih _ _ e.1 e.2) (key h (Cx k) n)
noncomputable def eN:Nat->Nat->Nat×Nat
 |0,n=>(0,n)
 |f+1,n=>match eN f (n/64)with
  |(a,k)=>if n%64<32 then(n%64,n/64) else(n%32+32*a,k)
noncomputable def eE:Nat->Nat->ei×Nat
 |0,n=>(.num 0,n)
 |f+1,n=>match n%64 with
  |0=>match eE f (n/64)with|(a,n)=>match eE f n with|(b,n)=>(.add a b,n)
  |1=>match eN 20 (n/64)with|(a,n)=>(.num a,n)
  |2=>match eN 20 (n/64)with|(a,n)=>match eE f n with|(b,n)=>(.mulL a b,n)
  |3=>match eE f (n/64)with|(b,n)=>match eN 20 n with|(a,n)=>(.mulR b a,n)
  |k=>(.var (k- 4),n/64)
noncomputable def eC:Nat->Nat->Cs
 |0,_=> .no
 |f+1,n=>match n%64 with
  |0=> .no
  |1=>match eE 30 (n/64)with|(a,n)=> .ok a (eE 30 n).1
  |k=>match eE 30 (n/64)with|(a,n)=>match eE 30 n with|(b,n)=>(match k%4 with|0=>Cs.le|1=>Cs.eq|2=>Cs.qe|_=>Cs.nl) (k/4) a b (eC f n)
noncomputable def jO (a:Nat):dh:= .leaf a
noncomputable def ip (a b:Nat):dh:= .branch 1 (.leaf a) (.leaf b)
noncomputable def l8 (a b c:Nat):dh:= .branch 1 (.leaf a) (.branch 2 (.leaf b) (.leaf c))
noncomputable def IE (a b c d:Nat):dh:= .branch 2 (.branch 1 (.leaf a) (.leaf b)) (.branch 3 (.leaf c) (.leaf d))
noncomputable def XZ (a b c d e:Nat):dh:= .branch 2 (.branch 1 (.leaf a) (.leaf b)) (.branch 3 (.leaf c) (.branch 4 (.leaf d) (.leaf e)))
noncomputable def lc6 (a b c d e f:Nat):dh:= .branch 3 (.branch 1 (.leaf a) (.branch 2 (.leaf b) (.leaf c))) (.branch 4 (.leaf d) (.branch 5 (.leaf e) (.leaf f)))
def cC (c:dh) (n:Nat) (h:(Di false (eC 9 n).sum.1 (eC 9 n).sum.2).toNormPoly.isUnsat=true):(eC 9 n).den c:=
 Cs.snd c _ 0 0 (ab 0) λk=>by have:=Dj c _ h;rw[qk,qk]at k;exact this▸k
def lsa {a b:Nat}:a<=a- b+b:=km.mp (ab _)
def aaO {a b:Nat}:max (a:Int) b=(max a b:Nat):=(z2 a b).elim (λh=>by rw[Nat.max_eq_right h,V0 (fJ.mpr h)]) λh=>by rw[Nat.max_eq_left h,XM (fJ.mpr h)]
def aaP {a b:Nat}:min (a:Int) b=(min a b:Nat):=(z2 a b).elim (λh=>by rw[iz h,XK (fJ.mpr h)]) λh=>by rw[VY h,VZ (fJ.mpr h)]
section
variable {a b c d e f:Nat}
def om0:b<a->a- b≠0:=λh=>u9 h
def IT:a<b+1->(¬a=b)->a<b:=λh k=>qQ (fR h) k
def om2:a=c->b=c->a=b:=λh0 h1=>bL (cC (l8 a b c) 1425042317009157 rfl h0 h1) (cC (l8 a b c) 1147965386547462 rfl h0 h1)
def om3:a+10*c<=990->b<=c->a+10*b<=990:=λh k=>aA (dW (pQ 10 k) a) h
def om4:a+100*c<=9800->b<=c->a+100*b<=9800:=λh k=>aA (dW (pQ 100 k) a) h
def om6:a<b->a<b+c:=cC (l8 a b c) 1837001733898169116540932 rfl
def om8:b- a<=0->¬(↑a:Int)< (↑b:Int):=λh k=>absurd (cD.mp k) (dE (KI.mp (Oz.mp h)))
def om9:a<b->(↑a:Int)< (↑b:Int):=cD.mpr
def aaQ:a<b->b<=c->(a+b)/2<=c:=λh k=>aA (OA (by rw[CG];exact wu (ce h) b)) k
def aip:(¬a<b)->¬(↑a:Int)< (↑b:Int):=λh k=>h (cD.mp k)
def aaR:a<2 ^ 30->(↑a:Int)<2 ^ 63:=λh=>jp (cD.mpr h) (by decide)
def IU:a<b->b<=c->(a+b)/2<c:=λh k=>a8 (wk (by rw[CG];exact OC h b)) k
def MF:a<=b->a<=b+c:=cC (l8 a b c) 26731943842052 rfl
def IV:a<c->c=b->a<b:=cC (l8 a b c) 97021314557910551997202436 rfl
def aiq:a+(b+1)<c->a+1+b<c:=cC (l8 a b c) 511775175312177366177160026321406918660 rfl
def X0:a+(c+1)<b->a<b:=cC (l8 a b c) 397399304429110401103157002244 rfl
def aaS:a=c->b=d->c=d->a=b:=λh0 h1 h2=>bL (cC (IE a b c d) 373566578955443003653 rfl h0 h1 h2) (cC (IE a b c d) 300932524233930858758 rfl h0 h1 h2)
def X1:a=c->b=d->(¬c=d)->¬a=b:=λh k l m=>l (h.symm.trans (m.trans k))
def air {a:Int}:(-2 ^ 40<a/\a<2 ^ 40)-> -2 ^ 64<a:=λh=>jp (by decide) h.1
def ais {a:Int}:(-2 ^ 40<a/\a<2 ^ 40)->a<2 ^ 64:=λh=>jp h.2 (by decide)
def ait {a:Int}:0<=a->a<=1000-> -9223372036854775808<=a/\a<9223372036854775808:=λh k=>⟨dZ (by decide) h,qR k (by decide)⟩
def aiu {b:Nat} {a:Int}:a<=1000->b=2 ^ 24->a<=(↑b:Int):=λh k=>by rw[k];exact dZ h (by decide)
def aiv:a+100*d<=9800->b<=10->c=9900->a+b<c:=λh k l=>by rw[l];exact bB (gc (aA (bh ..) h) k) (by decide)
def TQ:a+4<b->a<b:=cC (ip a b) 97021314557888284740026372 rfl
def X2:a<=1000->b=2 ^ 24->a<=b:=cC (ip a b) 6267451636863069495710716164 rfl
def aiw {a:Int}:(0<=a/\a<2 ^ 63)-> -2 ^ 63<=a:=λh=>dZ (by decide) h.1
def aaT {b:Nat} {a:Int}:a.toNat<b->a< (↑b:Int):=λh=>Int.lt_of_toNat_lt (show a.toNat< (b:Int).toNat from h)
def aix {a:Int}:(0<=a/\a<2 ^ 63)-> -9223372036854775808<=a/\a<9223372036854775808:=λh=>⟨dZ (by decide) h.1,h.2⟩
def aaU:a<=b->a<=b:=cC (ip a b) 5436100868 rfl
def aiy:c=a->c<=b->a<=b:=cC (l8 a b c) 1425041259512198 rfl
def aiz:a<=b->b=2 ^ 24->(↑a:Int)<2 ^ 63:=λh k=>qR (fJ.mpr (k▸h)) (by decide)
def aiA:(↑a:Int)<2 ^ 63->¬2 ^ 63<=(↑a:Int):=λh=>Te.mpr h
def aiB {a b c:Int}:max a c<=b->a<=b:=λh=>dZ (XN ..) h
def aiC {a b c:Int}:max c a<=b->a<=b:=λh=>dZ (V1 ..) h
def aiD {a b c:Int}:a<=min b c->a<=b:=λh=>dZ h (Int.min_le_left ..)
def aiE {a b c:Int}:a<=min c b->a<=b:=λh=>dZ h (Int.min_le_right ..)
def aaV:a<b->a<=b- 1:=wj
def aaW:a<=b- 1->c<b->a<b:=λh k=>bB h (S7 (TC k) Ox)
def aiF {a b c:Int}:a<=b->c=b->c<=a->a=b:=λh k l=>uQ h (k▸l)
def aiG {a b c:Int}:a<=c->b<=a->c=b->a=b:=λh k l=>uQ (l▸h) k
def CK:a<c->b=c->a<b:=cC (l8 a b c) 97021314558187697646878724 rfl
def aiH:a<=b->b<=a->a=b:=bL
def aiI:a=b->a<=b:=cC (ip a b) 5436100869 rfl
def aiJ:a=0->0=(↑a:Int):=λh=>h▸rfl
def aiK:a<2 ^ 20->(↑a:Int)<9223372036854775808/\(a=0\/(↑a:Int)<9223372036854775808):=λh=>have k:(a:Int)<9223372036854775808:=jp (cD.mpr h) (by decide);⟨k,.inr k⟩
def aaX:0+(↑a:Int)*1=(↑a:Int):=(Int.zero_add _).trans (Int.mul_one _)
def aiL:(↑a:Int)- 0=(↑a:Int):=Int.sub_zero _
def aaY:b=a+1->a<=b:=cC (ip a b) 1425036880642374 rfl
def aiM:a+1+b<=a+(b+1):=cC (ip a b) 4801919192932113448961 rfl
def aaZ:a<b->a=c->b<=c->False:=cC (l8 a b c) 448560229745850335236 rfl
def aiN:a<=a+2:=cC (jO a) 2165309697 rfl
def aiO:b=a+2->a<=b:=cC (ip a b) 1425037954384198 rfl
def aiP:a+(b+1+1)=a+2+b:=bL (cC (ip a b) 6228706943593704989581656065 rfl) (cC (ip a b) 1257590175156608588493881345 rfl)
def aa0:b=a+2->a+1<b:=cC (ip a b) 97021094402512325283152198 rfl
def aa1:b=a+2+c->a+1<b:=cC (l8 a b c) 397398402672690502017541472582 rfl
def aa2:b=a+2->a<b:=cC (ip a b) 370106943348098990406 rfl
def aa3:b=a+1->a<b:=cC (ip a b) 370106943347025248582 rfl
def aa4:b=a+2+c->a<b:=cC (l8 a b c) 1515958039971471214772550 rfl
def aa5:b=a+2+c->a<=b:=cC (l8 a b c) 5836973118907744582 rfl
def X3:a<a+(b+1):=cC (ip a b) 1172343552894844929 rfl
def aiQ:a+1<a+(b+1+1):=cC (ip a b) 80485771210022932002653601793 rfl
def aiR:a=a+1->False:=cC (jO a) 1091567878 rfl
def aiS:c<d->d=e->e<=c->a≠b:=λh k l=>absurd (k▸h) (dE l)
def TR:a<=b->a+(b- a)=b:=mT
def aiT:a<c->b=c+(d- e)->a≠b:=λh k=>cM (k▸a8 h (bh ..))
def aiU {a:Int}:(0<=a/\a<1000)->a.toNat<2 ^ 20:=λh=>(Int.toNat_lt h.1).mpr (jp h.2 (by decide))
def aiV:a+1+b=a+(1+b):=bL (cC (ip a b) 23686773438392266915841 rfl) (cC (ip a b) 23686844370086396968961 rfl)
def aiW:a<=a+2+b:=cC (ip a b) 22128812359937 rfl
def aiX:a+2+b- a=b+1+1:=(congrArg (· - a) (iO ..)).trans ((bP ..).trans (ue ..))
def aiY:a+1=a+2+b->False:=cC (ip a b) 5800935387233009670 rfl
def aiZ:a+1<a->False:=cC (jO a) 1130367764398084 rfl
def ai0:a<b->a=b+1->False:=cC (ip a b) 75029987801881133060 rfl
def ai1:a<b->a=b+2+c->False:=cC (l8 a b c) 1822913013989510813597700 rfl
def ai2:b≠c->a+2+b≠a+2+c:=λh k=>h (pS k)
def ai3:a+2+b=c->d<a->e=c->e=d->False:=cC (XZ a b c d e) 148006298870013160597898200530026501 rfl
def aa6:a<=c->min a b<=c:=λh=>aA (j6 ..) h
def ai4:a≠a+1:=cC (jO a) 1091567878 rfl
def ai5:a+2+b=a->False:=cC (ip a b) 17937948737541 rfl
def aa7:a<b->a=b->False:=cC (ip a b) 1425384772222980 rfl
def aa8:b<a->a≠b:=cC (ip a b) 1425314979008516 rfl
def ai6:a<b->a≠b:=cC (ip a b) 1425384772222980 rfl
def ai7:a<b->a≠b+1:=cC (ip a b) 75029987801881133060 rfl
def ai8:a+2+b=c->c<a->False:=cC (l8 a b c) 1213728891755455247810565 rfl
def X4:a=c->b=2 ^ 24->c<100000->a<=b:=cC (l8 a b c) 1764113551138871018539764942157709040967941 rfl
def X6:a<b->a+1<=b:=cC (ip a b) 370106943351319445508 rfl
def X8:a=c->b=c->a<=b:=cC (l8 a b c) 1425042317009157 rfl
def aa9:a=c->b=c->a- b=0:=λh k=>vd (fb (h.trans k.symm))
def TU:b=a->a<=b:=cC (ip a b) 5436096838 rfl
def aba:a=b->a- b=0:=λh=>vd (fb h)
def Gl:a<=a+1:=cC (jO a) 1091567873 rfl
def TV:a<b+1->b<=a->a=b:=λh k=>bL (fR h) k
def abb:a<a->False:=cC (jO a) 4312023044 rfl
def abc:c<c->a=b:=λh=>absurd h (lU c)
def abd:a<c+1->b<c+1->c<=a->c<=b->a=b:=λh k l m=>(bL (fR h) l).trans (bL m (fR k))
def abe:a+1+b=a+(b+1):=bL (cC (ip a b) 4801919192932113448961 rfl) (cC (ip a b) 23686844369811586170881 rfl)
def KX:a+(b+1)=a+1+b:=bL (cC (ip a b) 23686844369811586170881 rfl) (cC (ip a b) 4801919192932113448961 rfl)
def Pc:a<=a+b:=cC (ip a b) 84934913 rfl
def abf:a<100000->b=2 ^ 24->a<=b:=cC (ip a b) 6729624952397137878057041686536929284 rfl
def abg {b c:Nat} {a:Int}:a=(↑b:Int)->b<=c->c<100000-> -9223372036854775808<=a/\a<9223372036854775808:=λh k l=>⟨h▸dZ (by decide) (dN b),h▸cD.mpr (bB k (iL l (by decide)))⟩
def Pd:a=b->b<100000->a<100000:=cC (ip a b) 19211997166750617869921431750037403095301 rfl
def abh {b:Nat} {a:Int}:a=(↑b:Int)->¬a<0:=λh=>nX.mpr (h▸dN b)
def abi {b c d:Nat} {a:Int}:a=(↑c:Int)->b=d->c<=d->min a.toNat b=c:=λh k l=>by rw[h,k];exact iz l
def V6:min a b+(b- a+1)=b+1:=congrArg (· +1) ((ue ..).trans (KN a b▸Nat.sub_add_min_cancel b a))
def abj:b=c->min a b+(b- a+1)=c+1:=λh=>h▸V6
def abk:a<b->b<=d->c=d->a<min b c:=λh k l=>Nat.lt_min.mpr ⟨h,a8 h (l▸k)⟩
def abl:a<b->b<=c->a<min b c:=λh k=>Nat.lt_min.mpr ⟨h,a8 h k⟩
def V7:min a b<=a:=j6 ..
def abm:a<=c->b=c->a- min a b=0:=λh k=>by rw[k,iz h,dc]
def abn:a<=b->a- min a b=0:=λh=>by rw[iz h,dc]
def V8:a<c->min a b<=c:=λh=>aA (j6 ..) (ce h)
def abo:b<a->b<=d->c=d->a- min b c=a- b- 1+1:=λh k l=>by rw[l,iz k,qP (TF h)]
def abp:b<a->b<=c->a- min b c=a- b- 1+1:=λh k=>by rw[iz k,qP (TF h)]
def abq {b c:Nat} {a:Int}:a=(↑b:Int)->b<c->c<100000-> -9223372036854775808<=a/\a<9223372036854775808:=λh k l=>⟨h▸dZ (by decide) (dN b),h▸cD.mpr (iL k (iL l (by decide)))⟩
def abr {b:Nat} {a:Int}:a=(↑b:Int)->0<=a:=λh=>h▸dN b
def abt {b c d:Nat} {a:Int}:a=(↑c:Int)->b=d->c<d->a< (↑b:Int):=λh k l=>by rw[h,k];exact cD.mpr l
def abu {b:Nat} {a:Int}:a=(↑b:Int)->a.toNat=b:=λh=>congrArg nW h
def abv:a<a+1:=cC (jO a) 286147918184449 rfl
def abw:b=a+1+c->a<b:=cC (l8 a b c) 1515958039971402495295814 rfl
def V9:b=a+1+c->a<=b:=cC (l8 a b c) 5836973050188267846 rfl
def abx:a<=a+1+b:=cC (ip a b) 22060092883201 rfl
def aby:a+1+b- a=b+1:=(congrArg (· - a) (iO ..)).trans ((bP ..).trans (ue ..))
def abz:b≠c->a+1+b≠a+1+c:=λh k=>h (pS k)
def abA:a+1+b+(0+c)=a+1+b+c:=bL (cC (l8 a b c) 126242872155452023782006599589036033 rfl) (cC (l8 a b c) 124620201416600906465619385832701953 rfl)
def abB:a<b->a<b+1+c:=cC (l8 a b c) 476627769096431820066554920964 rfl
def Wa:a+1+b+c=a+(1+b+c):=bL (cC (l8 a b c) 481578320331195061588228833281 rfl) (cC (l8 a b c) 481578339216049307048315207681 rfl)
def abC:(0<=(↑a:Int)/\(↑a:Int)<1000)->a<1000:=λh=>(@cD a 1000).mp h.2
def abD:a<1000->a<2 ^ 20:=cC (jO a) 489353365046405544306066151718916 rfl
def abE:a<1000->a<=2 ^ 24:=cC (jO a) 20435835532901784495635841028 rfl
def abF:0<b->a=c->b=c->0<a:=cC (l8 a b c) 83406340130887561448786255320977412 rfl
def abG:a<c->b=d->c=d->a<=b- 1:=λh k l=>wj (l.trans k.symm▸h)
def abH:a<=c- 1->b=d->c=d->e<b->a<b:=λh k l m=>bB h (by rw[k,l];exact S7 (k▸TC m) Ox)
def abI {a b:Int}:a<=b->b<=a->a=b:=uQ
def abJ:a- b=0->a<=b:=Nat.le_of_sub_eq_zero
def abK:a<c->c<=b->a≠b:=cC (l8 a b c) 373656087928175345668 rfl
def abL:a+(c+1)=d->b+(e+1)=d->c=e->a=b:=λh0 h1 h2=>bL (cC (XZ a b c d e) 430693266877844793212518126081112293381 rfl h0 h1 h2) (cC (XZ a b c d e) 346951903064166930705313662214929924102 rfl h0 h1 h2)
def Wb:b<2 ^ 30->b=a->(↑a:Int)<2 ^ 63:=λh k=>jp (cD.mpr (k▸h)) (by decide)
def abM:a<b->(a+b)/2+1<=b:=λh=>IU h (ab b)
def abN:a<b->a<=(a+b)/2:=λh=>(MC (by decide)).mpr (by rw[Nat.mul_two];exact dW (ce h) a)
def abO:a<b->(a+b)/2<=b:=λh=>OA (by rw[CG];exact wu (ce h) b)
def KY:a<100000->a<2 ^ 30:=cC (jO a) 8209987265355085592289980101534138253316 rfl
def Wc:a<100000->a<100000:=cC (jO a) 73287953059198829154668547630448644 rfl
def Wd:b<100000->b=a->a<100000:=cC (ip a b) 19211997166750617872523062406401979863044 rfl
def KZ:a<b->b<=a->False:=cC (ip a b) 1148170403069956 rfl
def abP:1<=a->a=a- 1+1:=λh=>(qP h).symm
def We:a<1000->a<2 ^ 30:=cC (jO a) 2004391422205831443430294493210099716 rfl
def abQ:a+2<=b->a<=b:=cC (ip a b) 1425041191616516 rfl
def abR:2<=a->a=a- 2+2:=λh=>(qP h).symm
def K0:a<1000->a<100000:=cC (jO a) 17892566664843464272658984878084 rfl
def abS:a+3<=b->a<=b:=cC (ip a b) 1425041208393732 rfl
def abT:0<=1:=cJ _
def abU:1<=1:=ab _
def abV:a+b<20->c<=1->a+b+c<30:=cC (l8 a b c) 10459005355759690415580703674136796140142596 rfl
def abW:a<=a:=cC (jO a) 16641 rfl
def abX:a+1+c=b->a<b:=cC (l8 a b c) 1515958039967347996884997 rfl
def Wf:a<2->a=0\/a=1:=λh=>(yW (fR h)).imp Nat.lt_one_iff.mp id
def Pe:a<b->b<a->False:=cC (ip a b) 296320248737616379908 rfl
def abY:¬2+a=0:=cC (jO a) 1141379077 rfl
def abZ:¬2+a=1:=cC (jO a) 69860855813 rfl
def ab0:a+1+b+(2+c- 2)=a+1+b+c:=congrArg (a+1+b+ ·) (bP ..)
def ab1:a+1<a+3:=cC (jO a) 222585912451016949761 rfl
def ab2:a+1<=a+3:=cC (jO a) 849097871605761 rfl
def ab3:a- b=0->b<a->False:=λh k=>u9 k h
def ab4:a+100*c<=9800->b=9900->a+2<b:=cC (l8 a b c) 7158898637295308102942757944292402981811798020 rfl
def ab5:a<=b+e*d->c*d=e*d+d->a<=b+c*d:=cC (XZ a b d (e*d) (c*d)) 156253958596074777001328900 rfl
def Wg:a<=a+b*c:=bh ..
def Wh:a<=b+e+f*d->c*d=f*d+d->e<=d->a<=b+c*d:=cC (lc6 a b d e (f*d) (c*d)) 188545597944327864884795803747483908 rfl
def ab6:a<=b->b<50000->a<100000:=cC (ip a b) 19211997166750617861589556266619871711492 rfl
def ab7:a<=b+c*1->b<=d*100->c<=100->d*100<=100*100->a<100000:=cC (IE a b c d) 1522131233750903963019027287408229190580845418360465958904971564155140 rfl
def ab8:a+(b+1)<100000->a+1+b<100000:=cC (ip a b) 84495257110573017433495532244428185007841655747772420 rfl
def ab9:a+(b+1)<100000->a<100000:=cC (ip a b) 78692340395010530795198184448135680601620484 rfl
def aca:a<50000->a<100000:=cC (jO a) 73287953059198829122884965006327812 rfl
def acb:a<=63->b=2 ^ 24->a<=b:=cC (ip a b) 6267451636863069495213428996 rfl
def acd:min 60 a<50000:=bB (j6 ..) (by decide)
def ace:a=b->a=b:=λh0=>bL (cC (ip a b) 5436100869 rfl h0) (cC (ip a b) 4379136262 rfl h0)
def Gm:0<=(↑a:Int):=dN a
def Wi:b<=a->¬a<b:=cC (ip a b) 1411845945573700 rfl
def acf:a<9->b<9->c<9->max a (max b c)<9:=λh k l=>Nat.max_lt.mpr ⟨h,Nat.max_lt.mpr ⟨k,l⟩⟩
def La:a<b->a<=b:=cC (ip a b) 1425041174839300 rfl
def Wj:(¬b<a)->a<=b:=cC (ip a b) 1425040101101575 rfl
def acg:a<6->a<9:=cC (jO a) 2724880472575990225453060 rfl
def ach:a<6->a<=5:=cC (jO a) 5783752632904728580 rfl
def Wk:6<50000:=by decide
def Gn:a<6->a<100:=cC (jO a) 68913569096476937540616196 rfl
def Pf:a<=100000000->a<500000000:=cC (jO a) 19874457496246453527765238013218525444 rfl
def aci:a<7->a<100:=cC (jO a) 68913569096477006260092932 rfl
def acj:a<=100->a<=16777214:=cC (jO a) 75557863167638427930884 rfl
def ack:a<=50000->b=2 ^ 24->a<=b:=cC (ip a b) 25671481904591132652379066863876 rfl
def Pg:a+b<=10000->c=2 ^ 24->a+b<=c:=cC (l8 a b c) 8080512085758823544104047566386380804 rfl
def Wl:a<=2->b<=2->c<=2->d<=2->e<=2->f<=2->a+(b+(c+(d+(e+f))))<=12:=cC (lc6 a b c d e f) 81000167566154941567873082259281533348245402163001704086147932098820 rfl
def acl:a<=b+6*2->b<=0+6*12->a<100000:=cC (ip a b) 322323826257963134809652960987366790952650014980 rfl
def acm:a<=b+6*2->b<=0+6*12->a+1<100000:=cC (ip a b) 84495257110551243266625851189714680117172878112456964 rfl
def acn:a=2 ^ 24->b<=100->¬a<b:=cC (ip a b) 1627747551841468451782312075464966 rfl
def aco:a<=12->b<=12->c<=12->d<=12->e<=12->f<=12->a+(b+(c+(d+(e+(f+0)))))<=72:=cC (lc6 a b c d e f) 296857921556158753448392490891003172056368361157150467131315857128904724740 rfl
def Wm:a<=72->a<50000:=cC (jO a) 34127363151313179944947972 rfl
def acp:a<=b->b<=c->c- a<=0->a=b:=λh k l=>bL h (aA k (KI.mp (Oz.mp l)))
def acq:(a+b)/2<c->(a+b)/2+1<=c:=λh=>h
def Wn:(¬(b+c)/2<a)->a<=(b+c)/2:=iS
def acr:a<=b->b<=c->(¬a<c)->a=b:=λh k l=>bL h (aA k (iS l))
def Ph:a<c->c<=b->a<b:=cC (l8 a b c) 97021314557910483277725700 rfl
def AN:a<=b->(↑a:Int)<=(↑b:Int):=fJ.mpr
def acs:b<a->¬a=b:=cC (ip a b) 1425314979008516 rfl
def acu:a+1=b+1->a=b:=λh0=>bL (cC (ip a b) 373564868107765563397 rfl h0) (cC (ip a b) 300930813317534203910 rfl h0)
def acv:a=b->a+1=b+1:=λh0=>bL (cC (ip a b) 75029974263053701381 rfl h0) (cC (ip a b) 75011959865617961222 rfl h0)
def acw:a<b->a<b:=cC (ip a b) 370106943351319445508 rfl
def Wo:a<b->¬a=b:=cC (ip a b) 1425384772222980 rfl
def acx:a<=b->b≠a->a<b:=λh k=>qQ h k.symm
def acy:a+b=c->a+(b+1)<=c+1:=cC (l8 a b c) 1259096316158623670810722309 rfl
def acz:a<=c+1->c+(b+1)<=500->a+b<=500:=cC (l8 a b c) 86092873203103404898784996302509332496644 rfl
def Wp:a+(b+1)<=500->a<1000:=cC (ip a b) 160359058532845777117459486097412 rfl
def Pj:(↑a:Int)=(↑b:Int)↔a=b:=IC
def acA:a<=100->a<=500:=cC (jO a) 284857350489116932 rfl
def acB:a<=d+c->d<=b+1->a<=b+(c+1):=cC (IE a b c d) 330064621767455224836574926340356 rfl
def Lb:a<=10000->b=2 ^ 24->a<=b:=cC (ip a b) 401116904759236447702144258308 rfl
def Dm:a<=6->a<=10000:=cC (jO a) 178103364546466052 rfl
def Pk:a<=6->a<1000:=cC (jO a) 2333531425870687244548 rfl
def acC:max (max (↑a:Int) (↑b:Int)) (↑c:Int)=(↑(max a (max b c)):Int):=by rw[aaO,aaO,Nat.max_assoc]
def acD:min (min (↑a:Int) (↑b:Int)) (↑c:Int)=(↑(min a (min b c)):Int):=by rw[aaP,aaP,Nat.min_assoc]
def Wq:(¬b<=a)->a<=b:=cC (ip a b) 5436096839 rfl
def acE:a<c->d<b->(¬d<c)->a<b:=cC (IE a b c d) 1747780624364676092226825694793144503386116 rfl
def acF:a<b->c=a->d=b->d<=c->False:=cC (IE a b c d) 118191765447832515073294340 rfl
def acG:c<d->d<=e->e<=c->a<b:=λh k l=>absurd (a8 h k) (dE l)
def Wr:a<c->c<b->a<b:=cC (l8 a b c) 25433555483463067073447838629892 rfl
def Pl:¬a<a:=cC (jO a) 4312023044 rfl
def acH:b<a->c<d->(¬a<=b↔c<d):=λh k=>⟨λq=>k,λq=>VX h⟩
def acI:¬a<=a↔b<b:=⟨λl=>absurd (ab a) l,λl=>absurd l (lU b)⟩
def acJ:a<b->d<c->(¬a<=b↔c<d):=λh k=>⟨λl=>absurd (ce h) l,λl=>absurd l (z1 k)⟩
def acK:b+d=a->d=c->(↑a:Int)- (↑b:Int)=(↑c:Int):=λh k=>by rw[<- h,<- k,pM,ug,y7]
def acL:(↑c:Int)=(↑a:Int)->(a<b↔c<b):=λh=>qm h▸Iff.rfl
def acM:(↑a:Int)=(↑c:Int)->c<b->a<b:=λh k=>qm h▸k
def Ws:a<12->a- 6<6:=λh=>bB (Ov (fR h) 6) (by decide)
def acN:c≠d->(a<b\/a=b/\c<d)\/b<a\/b=a/\d<c:=λh=>(eG a b).elim (λk=> .inl (.inl k)) λk=>k.elim (λk=>(Nat.lt_or_gt_of_ne h).elim (λl=> .inl (.inr ⟨k,l⟩)) λl=> .inr (.inr ⟨k.symm,l⟩)) λk=> .inr (.inl k)
def acO:a<6->d<6->((a<12/\(b<c\/b=c/\a<d))/\¬(6+a<12/\(e<c\/e=c/\6+a<d))↔(b<c\/b=c/\a<d)/\c<=e):=λh k=>⟨λp=>⟨p.1.2,iS λr=>p.2 ⟨pR h 6,.inl r⟩⟩,λp=>⟨⟨a8 h (by decide),p.1⟩,λq=>q.2.elim (λr=>absurd p.2 (VX r)) λr=>absurd (iL r.2 k) (dE (bh ..))⟩⟩
def acP:(6+a<12/\(b<c\/b=c/\6+a<a))->c<=b->False:=λh k=>h.2.elim (dE k) λl=>absurd l.2 (dE (gR ..))
def acQ:6+a=a->False:=λh=>absurd h (jV (KO (by decide)))
def acR:b<6->6+a=b->False:=λh k=>absurd (k▸h) (dE (bh ..))
def acS:a<6->b<=c->a<12/\(b<c\/b=c/\a<6+a):=λh k=>⟨a8 h (by decide),(yW k).imp id λe=>⟨e,KO (by decide)⟩⟩
def acT:(¬a=b)->6+a=6+b->False:=λh k=>h (pS k)
def acU:(a<6/\a<12/\¬6+a<12)->False:=λh=>h.2.2 (pR h.1 6)
def acV:(a<e\/a=e/\c<f)->(e<b\/e=b/\f<d)->a<b\/a=b/\c<d:=λh k=>h.elim (λh=> .inl (k.elim (iL h) λk=>k.1▸h)) λh=>k.elim (λk=> .inl (h.1▸k)) λk=> .inr ⟨h.1.trans k.1,iL h.2 k.2⟩
def acW:a+1≠b->a+1<=b->a<b- 1:=λh k=>Nat.lt_sub_of_add_lt (qQ k h)
def acX:a+1=b->b<=b- 1->False:=λh k=>absurd (h▸k:a+1<=a+1- 1) (Nat.not_succ_le_self a)
def Wt:a+(c+1)<=b->a<b:=cC (l8 a b c) 1515958039967004482355204 rfl
def Pm:a+1<=b->a<=b:=cC (ip a b) 1425041174839300 rfl
def acY:a<b+1+c->a<b+(c+1):=cC (l8 a b c) 86524460204894864025361872921272008708 rfl
def acZ:a+(b+1)<=c->a+1+b<=c:=cC (l8 a b c) 7524661550251051622795853828 rfl
def ac0:a<c+(b- c)->c<=a->a<b:=λh k=>(z2 c b).elim (λl=>mT l▸h) λl=>absurd (vd l▸h:a<c+0) (dE k)
def ac1:a<=b->b+d<=c->a+(b- a)<=c:=λh k=>aA (fb (mT h)) (aA (bh b d) k)
def ac2:a+(b+1+1)=a+1+1+b:=bL (cC (ip a b) 1627743857347339052988676949688321 rfl) (cC (ip a b) 329669718876254001540460036751361 rfl)
def ac3:((↑a:Int)- (↑b:Int)).toNat=a- b:=lX a b
def ac4:a- b<=((↑a:Int)- (↑b:Int)).toNat:=fb (lX a b).symm
def ac5:((↑a:Int)- 0).toNat=a:=congrArg nW (Int.sub_zero a)
def ac6:d=b->a+b+0+c=a+(d+c):=λh0=>bL (cC (IE a b c d) 484035764729144599249340879302 rfl h0) (cC (IE a b c d) 475389847945442029033589330373 rfl h0)
def ac7:a=2 ^ 24->b<=10000->¬a<0+b:=cC (ip a b) 27223918911577011061670665705153670156550 rfl
def ac8:(↑a:Int)≠(↑b:Int)↔a≠b:=not_congr IC
def Wu:a<10000->a<100000:=cC (jO a) 1145124266549981707331324103376900 rfl
def ac9:a<=c->min (a- b) (c- b)=a- b:=λh=>iz (Ov h b)
def ada:a+b- c<=a- c+b:=Ow (by rw[yZ];exact wu lsa b)
def adb:b<=a->a- b+c<=a+c- b:=λh=>fb (Nat.sub_add_comm h).symm
def Wv:a- b<=a- b:=ab _
def ade:a+1- a=1:=bP ..
def Pn:a+(b+1)<10000->a+b<10000:=cC (ip a b) 220481282115516972916502815883922483784450052 rfl
def adf:a<=c->c+(d+e)=b->a<=b:=cC (XZ a b c d e) 23908225595617316200708 rfl
def adg:a+(b+1)<10000->a<10000:=cC (ip a b) 53828438016399478368711463666300193079300 rfl
def adh:a<=c+1->c+(b+1)<10000->a+b<10000:=cC (l8 a b c) 15151358337060721484948757326613702400888881385079046404 rfl
def Ww:a+(b+c)=d->a+b+c=d:=λh0=>bL (cC (IE a b c d) 2144327929795197154639877 rfl h0) (cC (IE a b c d) 1837295711716681787129862 rfl h0)
def Po:a<=9000->a<=10000:=cC (jO a) 729511381185421381892 rfl
def adi:0+a=a:=bL (cC (jO a) 4362080257 rfl) (cC (jO a) 4295229697 rfl)
def adj:a<=9000->a<10000:=cC (jO a) 191237028049327328711414020 rfl
def adk:a<=0+b->b<=9000->a<=10000:=cC (ip a b) 50131640388018792759687681147140 rfl
def adl:(¬a=0)->(↑(a- 1):Int)=(↑a:Int)- 1:=λh=>sm (S8 h)
def adm:¬(↑(a- 1):Int)<0:=nX.mpr (dN _)
def adn:a+(b+1)<1000->a+1+b<1000:=cC (ip a b) 45137062267225424712027343890172175235029139460 rfl
def ado:a+(b+1)<1000->a<100000:=cC (ip a b) 19211997166750618002603691739857986519044 rfl
def adp:a<1000->a<1000:=cC (jO a) 39150160774620620598177710084 rfl
def adq:¬97+a=34:=cC (jO a) 431081631518725 rfl
def ads:¬65+(a- 6)=34:=cC (ip a (a- 6)) 431082688483333 rfl
def Wx:a<=3->a<=3:=cC (jO a) 13267171545348 rfl
def adt:97+a≠92:=cC (jO a) 826905817518085 rfl
def adu:a<6->97+a<128:=cC (jO a) 1460413978133815976283421163143172 rfl
def adv:a<12->65+(a- 6)≠92:=λh0 h1=>cC (ip a (a- 6)) 1323747776063222879039349573566468 rfl h0 h1 (jU ..)
def adw:a<12->65+(a- 6)<128:=λh0=>cC (ip a (a- 6)) 382838761961901277761785225759384944644 rfl h0 (jU ..)
def Wy:a<=5->b<=5*c->a+b<=5*(c+1):=cC (l8 a b c) 330064622376860709437261718229252 rfl
def Wz:a<=5*c->b<=100->c+d<=12->a+b<=9000:=cC (IE a b c d) 3101334926489534431181104862251657349832964 rfl
def WA:6<=a->a=6+(a- 6):=λh=>(mT h).symm
def Pp:6+a<12->a<6:=cC (jO a) 476626579060275455271691878404 rfl
def adx:a+1<=b->a<=b- 1:=wj
def ady:a- 1- b=a- (b+1):=Nat.sub_right_comm a 1 b
def adz:(¬a+1<=b)->(¬b=0)->¬a<=b- 1:=λh k l=>h (Nat.succ_le_of_lt (bB l (S7 (S8 k) Ox)))
def adA:a<c->c<b->a+1<b:=cC (l8 a b c) 6667238839694705778557394500842700804 rfl
def adB:b<=a->(¬b<a)->a=b:=λh k=>bL (iS k) h
def adC:c<b->c=a->a+1<=b:=cC (l8 a b c) 97021314557629144666234884 rfl
def adE:a<=b+1+c->a<=b+(c+1):=cC (l8 a b c) 1259096610135883286818324740 rfl
def adF:a+1+b=c->a+(b+1)=c:=λh0=>bL (cC (l8 a b c) 7447308896725427948081905669 rfl h0) (cC (l8 a b c) 1258794304930032406517252102 rfl h0)
def adG:a+1<=b->b=c->c=a->False:=cC (l8 a b c) 302157217388617285636 rfl
def adH:a<b->b<100->a<100:=cC (ip a b) 303085082132484087316915119445250424836 rfl
def adI:a<100->b=2 ^ 24->a<=b:=cC (ip a b) 1642974841893832489760169746776068 rfl
def Pq:a<100->a<1000:=cC (jO a) 39150160774620497177997492228 rfl
def adJ:a≠b->a<=b->a<b:=λh k=>qQ k h
def adK:a<=c->c<b->a<b:=cC (l8 a b c) 97021314557888286870757636 rfl
def adL:a<1000-> -536870912< (↑a:Int)/\(↑a:Int)<536870912:=λh=>⟨Tf (by decide) (dN a),jp (cD.mpr h) (by decide)⟩
def adN:a<=0+b->b<6->a<6:=cC (ip a b) 124944797941148514748100476125053188 rfl
def adO:¬97+a=40:=cC (jO a) 457469910585349 rfl
def adP:¬97+a=41:=cC (jO a) 461867957096453 rfl
def WB:a<6->a<1000:=cC (jO a) 611721262103445436983689220 rfl
def adQ:1+a%4<1000:=bB (dW (ce (fO _ (by decide))) 1) (by decide:1+4<1000)
def adR:1+a%4<9:=iL (pR (fO _ (by decide:4>0)) 1) (by decide)
def adT:1+a/4%8<1000:=bB (dW (ce (fO _ (by decide))) 1) (by decide:1+8<1000)
def adU:1+a/4%8<9:=pR (fO _ (by decide:8>0)) 1
def adV:¬65+a=40:=cC (jO a) 457469893808133 rfl
def adW:¬65+a=41:=cC (jO a) 461867940319237 rfl
def adX:a<100->a<100000:=cC (jO a) 17892566664843464149238804660228 rfl
def adY:(a<b\/a=b/\6+c<c)->b<=a->False:=λh k=>h.elim (dE k) λl=>absurd l.2 (dE (gR ..))
def adZ:a=b->b<6->a<6:=cC (ip a b) 476626579060167368881608872197 rfl
def WC:a<=b->b+c<=12->a<1000:=cC (l8 a b c) 2505610289575714199082877604100 rfl
def WD:a<b+1->(↑a:Int)< (↑b:Int)+1:=λh=>cD.mpr h
def WE:(¬a<b+1)->¬(↑a:Int)< (↑b:Int)+1:=λh k=>h (cD.mp k)
def ad0:a<=0+c->c=b->a<=b:=cC (l8 a b c) 373566016004330619140 rfl
def ad1:a<6->a<6:=cC (jO a) 1818186107865018344423428 rfl
def WF:6<=b->b- 6=a->6+a=b:=λh k=>k▸mT h
def ad2:a+1<=c->c<b+1->a+1<=b+1:=cC (l8 a b c) 354319035670416830091324580474798767095812 rfl
def ad3:a+1<=b->a+1<=b:=cC (ip a b) 370106943351319445508 rfl
def ad4:a+1<=a+1:=cC (jO a) 286147918184449 rfl
def ad5:(¬b<a+1)->a+1<=b:=cC (ip a b) 97021314556762586695880711 rfl
def ad6:a=0->(¬a<b+1)->False:=cC (ip a b) 4801918352835536228613 rfl
def ad7:a<=b->b<6->a<6:=cC (ip a b) 476626579060167368881608872196 rfl
def WG:¬6+a<6:=cC (jO a) 108372337195483140 rfl
def Lc:6+a- 6=a:=bP ..
def ad8:b=a+1->(↑a:Int)=(↑b:Int)+ -1:=λh=>by rw[h];exact(y7 a 1).symm
def ad9:a=b->b<=6->a<100:=cC (ip a b) 68913569096476937608515845 rfl
def aea:a<6->a=6+b->False:=cC (ip a b) 24055708346323455721476 rfl
def aeb:a<6->¬6<=a:=cC (jO a) 4720071890054692868 rfl
def Pr:a<6->a<12:=cC (jO a) 3631574837286962106482692 rfl
def aec:a<c->b=c->a<=b:=cC (l8 a b c) 373566293149997088772 rfl
def aed:b+1<=a->¬a=b:=cC (ip a b) 1425314979008516 rfl
def aee:a<b+1->(¬a<b)->a=b:=λh k=>bL (fR h) (iS k)
def aef:a<=c*d->b<=d->a+b<=c*d+d:=cC (IE a b d (c*d)) 28850798929249439871236 rfl
def aeg:a<=b*c->b*c<=6*6->a<1000:=cC (ip a (b*c)) 2505610289575712510229880000772 rfl
def aeh:b+(c+a)=d->d=6->a<=6:=cC (IE a b c d) 116378080328352058136612869 rfl
def aei:a<=3->a<=98:=cC (jO a) 994031543521540 rfl
def aej:a<=3->2+a<=10000:=cC (jO a) 46688728399722121531652 rfl
def aek:a+(b+c)<=1000->a+b+c<=1000:=cC (l8 a b c) 160359156455835755039893569421316 rfl
def ael:a+(b+1)<=1000->a+1+b<=1000:=cC (ip a b) 656831020606360959189862036440891396 rfl
def WH:a+(b+c)<=1000->a+b<=10000:=cC (l8 a b c) 783306885996286508247187210244 rfl
def aem:1<=b->(↑(a+b):Int)- 1=(↑(a+b- 1):Int):=λh=>(sm (aA h (gR ..))).symm
def aen:a+(b+1)<=1000->a<100000:=cC (ip a b) 73287953059198829660811202077409284 rfl
def WI:a+b<=5*c->c+d<=12->a+b<=1000:=cC (IE a b c d) 656831024299988318208222529605353476 rfl
def aeo:b+a<=5*c->c+d<=12->a<=10000:=cC (IE a b c d) 3208424984847922174204387722809348 rfl
def aep:34=97+a->False:=cC (jO a) 1141362863251526 rfl
def aer:40≠65+(a- 6):=cC (ip a (a- 6)) 1418439793475654 rfl
def aes:41≠65+(a- 6):=cC (ip a (a- 6)) 1418439793479750 rfl
def aet:97+a≠34:=cC (jO a) 431081631518725 rfl
def aeu:65+(a- 6)≠34:=cC (ip a (a- 6)) 431082688483333 rfl
def aev:a<=5*b->b<=12->a<=60:=cC (ip a b) 585651863935010706039044 rfl
def aew:a<=60->a<=16777214:=cC (jO a) 75557863167638400667908 rfl
def WK:a<=60->a<=1048576:=cC (jO a) 7121028685077475758340 rfl
def aex:a<=9000->a+1<50000:=cC (jO a) 572562143099801748880209236463876 rfl
def aey:a<=60->a<=9999:=cC (jO a) 11398333855928684804 rfl
def WL:a<=60->a<=10000:=cC (jO a) 11398615330905395460 rfl
def aez:a<=9000->a+1<=10000:=cC (jO a) 191237028049327328711414020 rfl
def aeA:a<=60->a<=9998:=cC (jO a) 11398052380951974148 rfl
def aeB:a<=61000000->b<=61000000->c<=61000000->d<=61000000->e<=61000000->f<=61000000->a+(b+(c+(d+(e+f))))<500000000:=λh i j k l m=>bB (gc h (gc i (gc j (gc k (gc l m))))) (by decide)
def aeC:b<=a->a+b<=2*a:=cC (ip a b) 72629687977001284 rfl
def WM:a<=64->a<50000:=cC (jO a) 34127363151313179942850820 rfl
def WN:a<=6->a+1<=10000:=cC (jO a) 46688727551105304105220 rfl
def aeD:a<=64->b<=a->a+b<=10000:=cC (ip a b) 12239170093691855542086013192 rfl
def aeE:a+(b+1)=c->c=6->a<6:=cC (l8 a b c) 1952262467830445634141425938481157 rfl
def aeF:a<=2*c->c<=b->a<=b*2:=cC (l8 a b c) 9817198973207557185796 rfl
def aeG:a<=b->a<=b+1:=cC (ip a b) 286216687997188 rfl
def aeH:a<=b->b<6->a<=6:=cC (ip a b) 1818407505103835536314628 rfl
def aeI:a<=b->b<=2 ^ 5->a<=64:=cC (ip a b) 11807141474345962983684 rfl
def aeJ:a<6->6+a<12:=cC (jO a) 951995554588366884685186613252 rfl
def aeK:6<=6+a:=cC (jO a) 281337159745 rfl
def aeL:a+1=b->(↑a:Int)=(↑b:Int)- 1:=λh=>h▸(y7 a 1).symm
def aeM:a+1<=b->(↑a:Int)<=(↑b:Int)- 1:=λh=>Int.le_sub_one_of_lt (cD.mpr h)
def aeN:6+c<6->¬a=b:=λh=>absurd h (dE (bh ..))
def aeO:a<=9000->a<50000:=cC (jO a) 2184151241684043523214545156 rfl
def aeP:1+((↑a:Int)- 1)=(↑a:Int):=(ug ..).trans (Td ..)
def aeQ:a≠b->(↑a:Int)≠(↑b:Int):=λh k=>h (qm k)
def WO:97+a=40->False:=cC (jO a) 457469910585349 rfl
def aeR:97+a=97+b->b≠a->False:=λh k=>k (pS h).symm
def aeS:97+a<97->False:=cC (jO a) 259425639086726316036 rfl
def aeT:97+a=65+(b- 6)->b<12->False:=λh0 h1=>cC (l8 a b (b- 6)) 6772114105459816715570997981490712581 rfl h0 h1 (jU ..)
def aeU:97+a=41->False:=cC (jO a) 461867957096453 rfl
def aeV:b+1=a->b+1<=c->c=6->1<=a/\a<=6:=λh k l=>h▸⟨gR ..,l▸k⟩
def aeW:a+(b+1)<=60->a<60:=cC (ip a b) 9825549755743285739946661396484 rfl
def aeX:a<=6->(↑a:Int)<=1000:=λh=>dZ (fJ.mpr h) (by decide)
def aeY:a<60->b<=6->a+b<=10000:=cC (ip a b) 205339200322608640851085765281857540 rfl
def Pt:a<=6->a- 1<=6:=λh=>aA (jU ..) h
def aeZ:a- 1<=a:=jU ..
def ae0:1<=a->a- (a- 1)=1:=λh=>Cv h
def ae2:a<=5*c->b<=100->c+d<=12->a+b<=8000:=cC (IE a b c d) 2757649735899386583083096508745571456262404 rfl
def ae3:a<60->b<=6->1+(a+(b- 1))<=9000:=λh k=>aA (dW (gc (ce h) (aA (jU ..) k)) 1) (by decide)
def ae4:a<=8000->a+1<=9000:=cC (jO a) 172158667458533960989020420 rfl
def ae5:a<=6->b<=6->c<=6->d<=6->e<=6->f<=6->a+(b+(c+(d+(e+(f+0)))))<=36:=cC (lc6 a b c d e f) 176712321151228619036728260840482622285112478791656382463939676938509488388 rfl
def ae6:a<=36->b=2 ^ 24->a<=b:=cC (ip a b) 6267451636863069495206351108 rfl
def ae7:a<=72->a<100000:=cC (jO a) 68254725131391388493025540 rfl
def ae8:816<=a->0<a:=cC (jO a) 296318845481663266884 rfl
def ae9:(¬63< (↑a:Int))->a<=63:=λh=>(@fJ a 63).mp (nX.mp h)
end
noncomputable abbrev pw:Program:=pJ
abbrev MM (w:jE):Model:=model pw w
inductive PV where
 |con (v:Value)
 |int (i:Int)
 |fE (u:UInt64)
 |str (s:Str)
 |tup (l:List PV)
 |lst (l:List PV)
 |oQ (l:List (Str×PV))
inductive AV where
 |pv (d:PV)
 |fM (i:Nat)
 |tz (args:Arguments) (body:Expr) (scope:Scope) (cells:Sn)
 |inst (i:Nat)
inductive AO where
 |qb
 |list (l:List PV)
 |dict (l:List (Str×PV))
 |ns (m:List (Str×Option AV))
 |cell (v:Option AV)
 |attrs (m:List (Str×AV))
structure aM where
 F:Addr->Option Obj
 Z:Nat->Addr
 pin:Addr->Option Obj
structure aM.le (n:Nat) (c c':aM):Prop where
 F:∀a o,c.F a=aa o->c'.F a=aa o
 Z:∀i,i<n->c'.Z i=c.Z i
 pin:c'.pin=c.pin
def aM.le.refl (n:Nat) (c:aM):aM.le n c c:=⟨λq q h=>h,λq q=>rfl,rfl⟩
def aM.le.trans (h:aM.le n a b) (k:aM.le m b c) (hm:n<=m):aM.le n a c:=
 ⟨λx o e=>k.F x o (h.F x o e),λi hi=>(k.Z i (a8 hi hm)).trans (h.Z i hi),k.pin.trans h.pin⟩
def aM.le.weak (h:aM.le m a b) (hm:n<=m):aM.le n a b:=⟨h.F,λi hi=>h.Z i (a8 hi hm),h.pin⟩
inductive dk (w:jE) (F:Addr->Option Obj):Value->PV->Prop
 |con (v:Value):dk w F v (PV.con v)
 |int (i:Int) (t:Dd):dk w F (.int i t) (.int i)
 |fE (u:UInt64) (t:Dd):dk w F (.float u t) (.fE u)
 |str (x:Str) (t:Dd):dk w F (.str x t) (.str x)
 |tup {a:Addr} {vs:Array Value} {n:Nat} {l:List PV}:F a=aa {cls:= .type "tuple",data:= .seq vs n}->vs.size=l.length->
   (∀(i:Nat) (v:Value) (d:PV),vs[i]? =aa v->l[i]? =aa d->dk w F v d)->dk w F (.ref a) (.tup l)
 |lst {a:Addr} {vs:Array Value} {n:Nat} {l:List PV}:F a=aa {cls:= .type "list",data:= .seq vs n}->vs.size=l.length->
   (∀(i:Nat) (v:Value) (d:PV),vs[i]? =aa v->l[i]? =aa d->dk w F v d)->dk w F (.ref a) (.lst l)
 |oQ {a:Addr} {es:Array eK} {n:Nat} {l:List (Str×PV)}:(a==sysModules)=false->F a=aa {cls:= .type "dict",data:= .dict es n}->es.size=l.length->(l.map (·.1)).Nodup->
   (∀(i:Nat) (e:eK) (k:Str) (d:PV),es[i]? =aa e->l[i]? =aa (k,d)->e.hash=hashStr w k/\∃t,e.key= .str k t)->
   (∀(i:Nat) (e:eK) (k:Str) (d:PV),es[i]? =aa e->l[i]? =aa (k,d)->dk w F e.val d)->dk w F (.ref a) (.oQ l)
def dk.mono (h:dk w F v d) (hF:∀a o,F a=aa o->F' a=aa o):dk w F' v d:=by
 induction h with
 |con v=>exact .con v
 |int i t=>exact .int i t
 |fE u t=>exact .fE u t
 |str x t=>exact .str x t
 |tup a b c ih=>exact .tup (hF _ _ a) b ih
 |lst a b c ih=>exact .lst (hF _ _ a) b ih
 |oQ m a b n c d ih=>exact .oQ m (hF _ _ a) b n c ih
def za (F:Addr->Option Obj) (cd:Value):Prop:=∃c o vs q t,cd= .ref c/\F c=aa o/\o.data= .fields vs/\vs[1]? =aa (.str q t)
inductive MG (F:Addr->Option Obj) (a:Addr) (ps:Arguments) (b:Expr) (sc:Scope) (cl:List (Str×Addr)):Prop
 |mk {o:Obj} {fd:FuncData} (h1:F a=aa o) (h2:o.cls= .type "function") (h3:o.data= .func fd) (h4:fd.globals=mainGlobals) (h5:fd.builtins=builtinsNs) (h6:fd.defaults= .none) (h7:fd.kwdefaults= .none) (h8:za F fd.code)
  (h9:fd.params=ps) (IH:fd.body= .expr b) (II:fd.scope=sc) (OK:fd.closure=cl)
def MG.mono (h:MG F a ps b sc cl) (hF:∀a o,F a=aa o->F' a=aa o):MG F' a ps b sc cl:=by obtain(⟨h1,h2,h3,h4,h5,h6,h7,⟨x,o,vs,q,t,a,b,d⟩,h9,IH,II,OK⟩):=h;exact⟨hF _ _ h1,h2,h3,h4,h5,h6,h7,⟨x,o,vs,q,t,a,hF _ _ b,d⟩,h9,IH,II,OK⟩
inductive cU (w:jE) (c:aM) (n:Nat):Value->AV->Prop
 |pv {v:Value} {d:PV}:dk w c.F v d->cU w c n v (.pv d)
 |fM {i:Nat}:i<n->cU w c n (.ref (c.Z i)) (.fM i)
 |tz {a:Addr} {ps:Arguments} {b:Expr} {sc:Scope} {cells:Sn}:MG c.F a ps b sc (cells.map λp=>(p.1,c.Z p.2))->(∀p∈cells,p.2<n)->cU w c n (.ref a) (.tz ps b sc cells)
 |inst {a:Addr} {o:Obj} {i:Nat}:c.F a=aa o->o.cls= .ref 182->(∀k,o.data≠ .cls k)->o.dict=aa (c.Z i)->i<n->cU w c n (.ref a) (.inst i)
def cU.j8 (h:cU w c n v d) (hF:∀a o,c.F a=aa o->c'.F a=aa o) (Eb:∀i,i<n->c'.Z i=c.Z i) (hn:n<=n'):cU w c' n' v d:=by
 induction h with
 |pv h=>exact .pv (h.mono hF)
 |fM h=>exact(Eb _ h)▸(.fM (a8 h hn))
 | @tz a ps b sc cells h hl=>exact .tz ((cj λp hp=>by rw[Eb _ (hl p hp)]:(cells.map λp=>(p.1,c.Z p.2))=cells.map λp=>(p.1,c'.Z p.2))▸h.mono hF) λp hp=>a8 (hl p hp) hn
 |inst a b d e f=>exact .inst (hF _ _ a) b d ((Eb _ f)▸(e)) (a8 f hn)
def cU.mono (h:cU w c n v d) (hc:aM.le n c c') (hn:n<=n'):cU w c' n' v d:=h.j8 hc.F hc.Z hn
inductive ic (w:jE) (c:aM) (n:Nat):Obj->AO->Prop
 |qb (o:Obj):ic w c n o .qb
 |list {vs:Array Value} {e:Nat} {l:List PV}:vs.size=l.length->(∀(i:Nat) (v:Value) (d:PV),vs[i]? =aa v->l[i]? =aa d->dk w c.F v d)->
   ic w c n {cls:= .type "list",data:= .seq vs e} (.list l)
 |dict {es:Array eK} {e:Nat} {l:List (Str×PV)}:es.size=l.length->(l.map (·.1)).Nodup->
   (∀(i:Nat) (e:eK) (k:Str) (d:PV),es[i]? =aa e->l[i]? =aa (k,d)->e.hash=hashStr w k/\∃t,e.key= .str k t)->
   (∀(i:Nat) (e:eK) (k:Str) (d:PV),es[i]? =aa e->l[i]? =aa (k,d)->dk w c.F e.val d)->
   ic w c n {cls:= .type "dict",data:= .dict es e} (.dict l)
 |ns {o:Obj} {es:Array eK} {ep:Nat} {m:List (Str×Option AV)}:o.data= .dict es ep->De es->(m.map (·.1)).Nodup->
   (∀(x:Str) (d:AV),(x,aa d)∈m->∃v,nsFind es x=aa v/\cU w c n v d)->
   (∀x:Str,(x,ac)∈m->nsFind es x=ac)->ic w c n o (.ns m)
 |cell {o:Obj} {v:Option Value} {d:Option AV}:o.data= .cell v->o.slots= #[]->(∀x,d=aa x->∃u,v=aa u/\cU w c n u x)->(d=ac->v=ac)->ic w c n o (.cell d)
 |attrs {o:Obj} {es:Array eK} {ep:Nat} {m:List (Str×AV)}:o.data= .dict es ep->De es->VR es->(m.map (·.1)).Nodup->
   (∀(x:Str) (d:AV),(x,d)∈m->∃v,nsFind es x=aa v/\cU w c n v d)->(∀x:Str,x∉m.map (·.1)->nsFind es x=ac)->ic w c n o (.attrs m)
def ic.j8 (h:ic w c n o ao) (hF:∀a o,c.F a=aa o->c'.F a=aa o) (Eb:∀i,i<n->c'.Z i=c.Z i) (hn:n<=n'):ic w c' n' o ao:=by
 induction h with
 |qb o=>exact .qb o
 |list a b=>exact .list a λi v d h1 h2=>(b i v d h1 h2).mono hF
 |dict a b d e=>exact .dict a b d λi e' k x h1 h2=>(e i e' k x h1 h2).mono hF
 |ns a b nd d e=>exact .ns a b nd (λx y h=>xe12 (d x y h) λv h1 h2=>⟨v,h1,h2.j8 hF Eb hn⟩) e
 |cell a b d e=>exact .cell a b (λx h=>xe12 (d x h) λv h1 h2=>⟨v,h1,h2.j8 hF Eb hn⟩) e
 |attrs a b u nd d e=>exact .attrs a b u nd (λx y h=>xe12 (d x y h) λv h1 h2=>⟨v,h1,h2.j8 hF Eb hn⟩) e
def ic.mono (h:ic w c n o ao) (hc:aM.le n c c') (hn:n<=n'):ic w c' n' o ao:=h.j8 hc.F hc.Z hn
inductive X9 (c:aM) (n i:Nat) (v:Value):Prop
 |mk (e:v= .ref (c.Z i)) (h:i<n)
inductive TX (w:jE) (F:Addr->Option Obj) (T:String) (l:List PV) (u:Value):Prop
 |mk (a:Addr) (vs:Array Value) (n:Nat) (e:u= .ref a) (h:F a=aa {cls:= .type T,data:= .seq vs n}) (hs:vs.size=l.length) (hp:∀(i:Nat) (v:Value) (d:PV),vs[i]? =aa v->l[i]? =aa d->dk w F v d)
inductive WP (w:jE) (F:Addr->Option Obj) (l:List PV) (o:Obj):Prop
 |mk (vs:Array Value) (n:Nat) (e:o= {cls:= .type "list",data:= .seq vs n}) (hs:vs.size=l.length) (hp:∀(i:Nat) (v:Value) (d:PV),vs[i]? =aa v->l[i]? =aa d->dk w F v d)
inductive Ld (w:jE) (F:Addr->Option Obj) (l:List (Str×PV)) (o:Obj):Prop
 |mk (es:Array eK) (n:Nat) (e:o= {cls:= .type "dict",data:= .dict es n}) (hs:es.size=l.length) (nd:(l.map (·.1)).Nodup) (hk:∀(i:Nat) (e:eK) (k:Str) (d:PV),es[i]? =aa e->l[i]? =aa (k,d)->e.hash=hashStr w k/\∃t,e.key= .str k t)
  (hp:∀(i:Nat) (e:eK) (k:Str) (d:PV),es[i]? =aa e->l[i]? =aa (k,d)->dk w F e.val d)
def PSh (w:jE) (F:Addr->Option Obj) (v:Value):PV->Prop
 | .con u=>v=u
 | .int i=>∃t,v= .int i t
 | .fE i=>∃t,v= .float i t
 | .str i=>∃t,v= .str i t
 | .tup l=>TX w F "tuple" l v
 | .lst l=>TX w F "list" l v
 | .oQ l=>∃a o,v= .ref a/\(a==sysModules)=false/\F a=aa o/\Ld w F l o
def dk.sh (h:dk w F v d):PSh w F v d:=by
 induction h with
 |con=>exact rfl
 |tup a b c=>exact⟨_,_,_,rfl,a,b,c⟩
 |lst a b c=>exact⟨_,_,_,rfl,a,b,c⟩
 |oQ m x a b d e=>exact⟨_,_,rfl,m,x,_,_,rfl,a,b,d,e⟩
 |_=>exact⟨_,rfl⟩
def ASh (w:jE) (c:aM) (n:Nat) (v:Value):AV->Prop
 | .pv d=>dk w c.F v d
 | .fM i=>X9 c n i v
 | .inst i=>∃a o,v= .ref a/\c.F a=aa o/\o.cls= .ref 182/\(∀k,o.data≠ .cls k)/\o.dict=aa (c.Z i)/\i<n
 | .tz ps b sc cells=>∃a,v= .ref a/\MG c.F a ps b sc (cells.map λp=>(p.1,c.Z p.2))/\∀p∈cells,p.2<n
def cU.sh (h:cU w c n v d):ASh w c n v d:=by
 induction h with
 |pv h=>exact h
 |fM h=>exact⟨rfl,h⟩
 |tz h hl=>exact⟨_,rfl,h,hl⟩
 |inst a b d e f=>exact⟨_,_,rfl,a,b,d,e,f⟩
def OSh (w:jE) (c:aM) (n:Nat) (o:Obj):AO->Prop
 | .qb=>True
 | .list l=>WP w c.F l o
 | .dict l=>Ld w c.F l o
 | .ns m=>∃es ep,o.data= .dict es ep/\De es/\(m.map (·.1)).Nodup/\(∀(x:Str) (d:AV),(x,aa d)∈m->∃v,nsFind es x=aa v/\cU w c n v d)/\∀x:Str,(x,ac)∈m->nsFind es x=ac
 | .cell d=>∃v,o.data= .cell v/\o.slots= #[]/\(∀x,d=aa x->∃u,v=aa u/\cU w c n u x)/\(d=ac->v=ac)
 | .attrs m=>∃es ep,o.data= .dict es ep/\De es/\VR es/\(m.map (·.1)).Nodup/\(∀(x:Str) (d:AV),(x,d)∈m->∃v,nsFind es x=aa v/\cU w c n v d)/\∀x:Str,x∉m.map (·.1)->nsFind es x=ac
def ic.sh (h:ic w c n o d):OSh w c n o d:=by
 induction h with
 |qb=>trivial
 |list a b=>exact⟨_,_,rfl,a,b⟩
 |dict a b d e=>exact⟨_,_,rfl,a,b,d,e⟩
 |ns a b nd d e=>exact⟨_,_,a,b,nd,d,e⟩
 |cell a b d e=>exact⟨_,a,b,d,e⟩
 |attrs a b u nd d e=>exact⟨_,_,a,b,u,nd,d,e⟩
noncomputable def cm:List (Addr×Addr):=[(317,313),(324,320),(329,327)]
def uh (F:Addr->Option Obj) (c P:Addr):Prop:=
 ∃o vs KQ tf Cz tg Zt text tt,F c=aa o/\o.cls= .type "code" /\o.data= .fields vs/\vs[11]? =aa (.ref P)/\vs.getD 11 .none= .ref P/\vs.getD 18 .none= .str KQ tf/\
  vs.getD 7 .none= .int Cz tg/\vs.getD 9 .none= .bool Zt/\vs.getD 10 .none= .int text tt/\c≠P
def theDef (x:Str):Arguments×List Stmt×Scope:=(pw.theDef x).getD (⟨[],[],ac,[],[],ac,[]⟩,[],default)
def wJ (x : Str) : Arguments × List Stmt × Scope := (theDefIn ((pw.theClass "Headers").elim [] (·.2.1)) x).getD (⟨[], [], ac, [], [], ac, []⟩, [], default)
noncomputable def fdOf (name qual:Str) (d:Arguments×List Stmt×Scope) (dv kv:Value) (code:Addr) (pm:Value):FuncData:=
 {name:=name,qualname:=qual,params:=d.1,body:= .stmts d.2.1,scope:=d.2.2,globals:=3,closure:=[],defaults:=dv,kwdefaults:=kv,doc:= .none,pyModule:=pm,annotations:=ac,code:= .ref code,closureTuple:= .none,builtins:=0}
structure eg where
 addr:Addr
 name:Str
 qual:Str
 d:Arguments×List Stmt×Scope
 dv:Value
 kv:Value
 code:Addr
def eg.fd (r:eg) (pm:Value):FuncData:=fdOf r.name r.qual r.d r.dv r.kv r.code pm
def cQ:eg:=⟨195,ah "insort_right",ah "insort_right",theDef "insort_right",.ref 187,.ref 188,194⟩
def cR:eg:=⟨204,ah "bisect_right",ah "bisect_right",theDef "bisect_right",.ref 196,.ref 197,203⟩
def dO:eg:=⟨213,ah "insort_left",ah "insort_left",theDef "insort_left",.ref 205,.ref 206,212⟩
def fj:eg:=⟨222,ah "bisect_left",ah "bisect_left",theDef "bisect_left",.ref 214,.ref 215,221⟩
def oj:eg:=⟨229,ah "rgb_to_yiq",ah "rgb_to_yiq",theDef "rgb_to_yiq",.none,.none,228⟩
def om:eg:=⟨236,ah "yiq_to_rgb",ah "yiq_to_rgb",theDef "yiq_to_rgb",.none,.none,235⟩
def oo:eg:=⟨243,ah "rgb_to_hls",ah "rgb_to_hls",theDef "rgb_to_hls",.none,.none,242⟩
def oq:eg:=⟨250,ah "hls_to_rgb",ah "hls_to_rgb",theDef "hls_to_rgb",.none,.none,249⟩
def r_v:eg:=⟨257,ah "_v",ah "_v",theDef "_v",.none,.none,256⟩
def ou:eg:=⟨264,ah "rgb_to_hsv",ah "rgb_to_hsv",theDef "rgb_to_hsv",.none,.none,263⟩
def ow:eg:=⟨271,ah "hsv_to_rgb",ah "hsv_to_rgb",theDef "hsv_to_rgb",.none,.none,270⟩
def nj:eg:=⟨278,ah "_iter_escaped_chars",ah "_iter_escaped_chars",theDef "_iter_escaped_chars",.none,.none,277⟩
def gY:eg:=⟨285,ah "_strip_quoted_realnames",ah "_strip_quoted_realnames",theDef "_strip_quoted_realnames",.none,.none,284⟩
def jq:eg:=⟨292,ah "_check_parenthesis",ah "_check_parenthesis",theDef "_check_parenthesis",.none,.none,291⟩
def iu:eg:=⟨299,ah "_pre_parse_validation",ah "_pre_parse_validation",theDef "_pre_parse_validation",.none,.none,298⟩
def rG:eg:=⟨304,ah "_law_told",ah "_law_told",theDef "_law_told",.none,.none,303⟩
def oy:eg:=⟨311,ah "_law_unlike",ah "_law_unlike",theDef "_law_unlike",.none,.none,310⟩
def rH:eg:=⟨318,ah "_law_hues",ah "_law_hues",theDef "_law_hues",.none,.none,317⟩
def bj:eg:=⟨325,ah "_law_refused",ah "_law_refused",theDef "_law_refused",.none,.none,324⟩
def AP:eg:=⟨330,ah "law",ah "law",theDef "law",.none,.none,329⟩
def j9:eg:=⟨76,ah "__init__",ah "Headers.__init__",wJ "__init__",.ref 69,.none,75⟩
def mz:eg:=⟨83,ah "_convert_string_type",ah "Headers._convert_string_type",wJ "_convert_string_type",.none,.none,82⟩
def qT:eg:=⟨121,ah "get_all",ah "Headers.get_all",wJ "get_all",.none,.none,120⟩
def wL : eg := ⟨146, ah "items", ah "Headers.items", wJ "items", .none, .none, 145⟩
def fw:eg:=⟨179,ah "add_header",ah "Headers.add_header",wJ "add_header",.none,.none,178⟩
def fW:List eg:=[cQ,cR,dO,fj,oj,om,oo,oq,r_v,ou,ow,nj,gY,jq,iu,rG,oy,rH,bj,AP,j9,mz,qT,wL,fw]
noncomputable def cg:List (Str×Option Value):=[
 (ah "_name_disallowed_re",aa (.ref 48)),(ah "_value_disallowed_re",aa (.ref 53)),(ah "Headers",aa (.ref 182)),
 (ah "insort_right",aa (.ref 195)),(ah "bisect_right",aa (.ref 204)),(ah "insort_left",aa (.ref 213)),(ah "bisect_left",aa (.ref 222)),
 (ah "ONE_THIRD",aa (.float 4599676419421066581 612)),(ah "ONE_SIXTH",aa (.float 4595172819793696085 616)),(ah "TWO_THIRD",aa (.float 4604180019048437077 620)),
 (ah "rgb_to_yiq",aa (.ref 229)),(ah "yiq_to_rgb",aa (.ref 236)),(ah "rgb_to_hls",aa (.ref 243)),(ah "hls_to_rgb",aa (.ref 250)),(ah "_v",aa (.ref 257)),
 (ah "rgb_to_hsv",aa (.ref 264)),(ah "hsv_to_rgb",aa (.ref 271)),(ah "_iter_escaped_chars",aa (.ref 278)),(ah "_strip_quoted_realnames",aa (.ref 285)),
 (ah "_check_parenthesis",aa (.ref 292)),(ah "_pre_parse_validation",aa (.ref 299)),(ah "_law_told",aa (.ref 304)),(ah "_law_unlike",aa (.ref 311)),
 (ah "_law_hues",aa (.ref 318)),(ah "_law_refused",aa (.ref 325)),(ah "__name__",aa (.str "law_ti0077_01" 760)),(ah "__builtins__",aa (.ref 4)),
 (ah "len",ac),(ah "range",ac),(ah "sum",ac),(ah "max",ac),(ah "min",ac),(ah "round",ac),(ah "list",ac),
 (ah "int",ac),(ah "str",ac),(ah "type",ac),(ah "enumerate",ac),(ah "ValueError",ac),(ah "TypeError",ac),(ah "AssertionError",ac),(ah "repr",ac)]
noncomputable def ly:List (Str×Option Value):=[
 (ah "len",aa (.builtin "len")),(ah "range",aa (.type "range")),(ah "sum",aa (.builtin "sum")),(ah "max",aa (.builtin "max")),(ah "min",aa (.builtin "min")),
 (ah "round",aa (.builtin "round")),(ah "list",aa (.type "list")),(ah "int",aa (.type "int")),(ah "str",aa (.type "str")),(ah "type",aa (.type "type")),
 (ah "enumerate",aa (.type "enumerate")),(ah "ValueError",aa (.type "ValueError"))]
noncomputable def iW:List (Str×Option Value):=[
 (ah "__init__",aa (.ref 76)),(ah "_convert_string_type",aa (.ref 83)),(ah "get_all",aa (.ref 121)),(ah "items",aa (.ref 146)),(ah "add_header",aa (.ref 179)),
 (ah "__getattribute__",ac),(ah "__getattr__",ac),(ah "__setattr__",ac),(ah "_headers",ac)]
noncomputable def rI:List (Addr×Addr×List Nat):=[
 (48,47,[14,10,4,1,1,22,0,31,16,127,0,13,7,22,0,31,16,127,0,1]),
 (53,52,[14,14,4,1,1,9,4294966783,0,0,2147483648,0,0,0,0,0,13,11,9,4294966783,0,0,2147483648,0,0,0,0,0,1])]
noncomputable def wM:Pos:=⟨350,0,351,18⟩
noncomputable abbrev dfT (c:Value) (d:Option Addr) (t:Dd) (n:Nat) (sl:Array (Option Value)):Obj:=⟨c,d,.seq #[.int 0 t,.none] n,sl⟩
noncomputable abbrev dfK (c:Value) (d:Option Addr) (hs:Int) (t n:Nat) (sl:Array (Option Value)):Obj:=⟨c,d,.dict #[⟨hs,.str "key" t,.none⟩] n,sl⟩
structure cz where
 w:jE
 h₀:iR
 os:OsState
 yN:Bool
 glob:∃mg,h₀.Ns mainGlobals mg/\∀p∈cg,mg p.1=p.2
 blt:∃mb,h₀.Ns builtinsNs mb/\∀p∈ly,mb p.1=p.2
 lim:h₀.NoLimit
 fns:∀r∈fW,∃o pm,h₀.get? r.addr=aa o/\o.cls= .type "function" /\o.data= .func (r.fd pm)/\h₀.CodeRec (.ref r.code) r.qual
 tabs:∀q∈cm,h₀.get? q.2=aa (tableObj #[])/\uh h₀.get? q.1 q.2
 dfl:∀a∈[187,196,205,214],∃o n t,h₀.get? a=aa o/\o.data= .seq #[.int 0 t,.none] n
 Oc:∀a∈[188,197,206,215],∃c d hs t n sl,h₀.get? a=aa (dfK c d hs t n sl)
 mods:∃o,h₀.get? sysModules=aa o
 bmod:∃o,h₀.get? 4=aa o/\o.cls= .type "module" /\o.dict=aa builtinsNs/\o.data= .plain
 cls:∃nm q bs sn sub O5 dd k0 k1 k2 k3 k5,h₀.get? 182=aa (excClassObj nm q 182 181 bs [.type "object"] true sn sub false O5 dd k0 k1 k2 k3 k5 "object.__new__")
 D9:∃mN,h₀.Ns 181 mN/\∀p∈iW,mN p.1=p.2
 pats:∀p∈rI,∃o fs oc items n,h₀.get? p.1=aa o/\o.cls= .type "re.Pattern" /\o.data= .fields fs/\o.dict=ac/\fs.getD 6 .none= .int 0 0/\fs.getD 2 .none= .int 0 0/\fs.getD 5 .none= .ref p.2.1/\
  h₀.get? p.2.1=aa oc/\oc.data= .seq items n/\((items.map iB).map nW).toList=p.2.2
 Ea:∃o n,h₀.get? 69=aa o/\o.data= .seq #[.none] n
structure Rel (S:cz) (c:aM) (O:List AO) (h:iR):Prop where
 frozen:∀a o,c.F a=aa o->h.get? a=aa o
 base:∀a o,S.h₀.get? a=aa o->(∀q∈cm,a≠q.2)->c.F a=aa o
 own:∀(i:Nat) (ao:AO),O[i]? =aa ao->∃o,h.get? (c.Z i)=aa o/\ic S.w c O.length o ao
 apart:∀i,i<O.length->c.F (c.Z i)=ac
 inj:∀i j,i<O.length->j<O.length->c.Z i=c.Z j->i=j
 pins:∀a o,c.pin a=aa o->h.get? a=aa o/\c.F a=ac/\(∀i,i<O.length->c.Z i≠a)/\∀q∈cm,q.2≠a
 tabs:∀q∈cm,c.F q.2=ac/\(∀i,i<O.length->c.Z i≠q.2)/\∃ps,h.get? q.2=aa (tableObj ps)/\(u5 ps.toList/\(S.yN=true->q.1=324->codeAmong wM ps.toList=ac))/\∀pos cd,codeAmong pos ps.toList=aa cd->za c.F cd
noncomputable def wO:Program:=view pJ [34]
noncomputable def AQ:List Str:=["_sre", "_wall", "tspecials", "_name_disallowed_re", "_value_disallowed_re", "_formatparam", "Headers", "insort_right", "bisect_right", "insort_left", "bisect_left", "ONE_THIRD", "ONE_SIXTH", "TWO_THIRD", "rgb_to_yiq", "yiq_to_rgb", "rgb_to_hls", "hls_to_rgb", "_v", "rgb_to_hsv", "hsv_to_rgb", "_iter_escaped_chars", "_strip_quoted_realnames", "_check_parenthesis", "_pre_parse_validation", "_law_told", "_law_unlike", "_law_hues", "_law_refused"].map ah
noncomputable def look {α:Type} (h:iR) (a:Addr) (f:Obj->α):Option α:=(h.get? a).map f
noncomputable def Eo (o:Obj):Option (Value×FuncData):=match o.data with| .func fd=>aa (o.cls,{fd with pyModule:= .none})|_=>ac
noncomputable def strOf? :Option Value->Option Str
 |some (.str q _)=>aa q
 |_=>ac
def wQ (o : Obj) : Option Str := match o.data with | .fields vs => strOf? vs[1]? | _ => ac
noncomputable def yk (o:Obj):Option (Value×Option Value×Value×Value×Value×Value×Value):=match o.data with| .fields vs=>aa (o.cls,vs[11]?,vs.getD 11 .none,vs.getD 18 .none,vs.getD 7 .none,vs.getD 9 .none,vs.getD 10 .none)|_=>ac
noncomputable def afb:Value->Bool
 | .int n _=>decide (n=0)
 |_=>false
noncomputable def Pu:Value->Bool
 | .none=>true
 |_=>false
def WQ:List Value->Bool
 | []=>false
 | [_]=>false
 | [a,b]=>afb a&&Pu b
 |_::_::_::_=>false
def z5 (o:Obj):Bool:=match o.data with| .seq vs _=>WQ vs.toList|_=>false
def Pw:List eK->Bool
 | []=>false
 | [⟨_,k,v⟩]=>strOf? (aa k)==aa (ah "key")&&Pu v
 |_::_::_=>false
def wR (o : Obj) : Bool := match o.data with | .dict es _ => Pw es.toList | _ => false
noncomputable def Ep (o:Obj):Option (Array Value):=match o.data with| .seq vs _=>aa vs|_=>ac
noncomputable def wU (o:Obj):Option (Value×Option Addr×Value×Value×Value):=match o.data with| .fields fs=>aa (o.cls,o.dict,fs.getD 6 .none,fs.getD 2 .none,fs.getD 5 .none)|_=>ac
noncomputable def z6 (o:Obj):Option (List Nat):=match o.data with| .seq vs _=>aa ((vs.map iB).map nW).toList|_=>ac
noncomputable def nsLook (h:iR) (a:Addr) (l:List (Str×Option Value)):Bool×List (Option Value):=(h.isNs a,l.map λp=>h.nsMap a p.1)
noncomputable def Px:List (Addr×Addr×Nat):=[(317,313,795),(324,320,808),(329,327,814)]
structure Dn where
 glob:Bool×List (Option Value)
 blt:Bool×List (Option Value)
 lim:Bool×List (Option Value)
 fns:List (Option (Option (Value×FuncData)))
 Sk:List (Option (Option Str))
 tabs:List (Option Obj)
 Zo:List (Option (Option (Value×Option Value×Value×Value×Value×Value×Value)))
 dfl:List (Option Bool)
 Ea:Option (Option (Array Value))
 Oc:List (Option Bool)
 mods:Bool
 bmod:Option Obj
 cls:Option Obj
 D9:Bool×List (Option Value)
 pats:List (Option (Option (Value×Option Addr×Value×Value×Value)))
 Zp:List (Option (Option (List Nat)))
 size:Nat
 own:Option Value
noncomputable def Py:List (Str×Option Value):=[(ah "sys.recursionlimit",ac)]
def obs (h:iR):Dn where
 glob:=nsLook h mainGlobals cg
 blt:=nsLook h builtinsNs ly
 lim:=nsLook h cStatics Py
 fns:=fW.map λr=>look h r.addr Eo
 Sk:=fW.map λr=>look h r.code wQ
 tabs:=cm.map λq=>h.get? q.2
 Zo:=Px.map λq=>look h q.1 yk
 dfl:=[187,196,205,214].map λa=>look h a z5
 Ea:=look h 69 Ep
 Oc:=[188,197,206,215].map λa=>look h a wR
 mods:=(h.get? sysModules).isSome
 bmod:=h.get? 4
 cls:=h.get? 182
 D9:=nsLook h 181 iW
 pats:=rI.map λp=>look h p.1 wU
 Zp:=rI.map λp=>look h p.2.1 z6
 size:=h.objs.size
 own:=h.nsMap mainGlobals "law"
noncomputable def Pz:Obj:=excClassObj "Headers" "Headers" 182 181 [.type "object"] [.type "object"] true [] [] false ac ac ac ac (aa (.str "Headers" 395)) (aa (.str "Headers" 403)) (aa (.bool true)) "object.__new__"
def good:Dn where
 glob:=(true,cg.map (·.2))
 blt:=(true,ly.map (·.2))
 lim:=(true,Py.map (·.2))
 fns:=fW.map λr=>aa (aa (.type "function",r.fd .none))
 Sk:=fW.map λr=>aa (aa r.qual)
 tabs:=cm.map λz=>aa (tableObj #[])
 Zo:=Px.map λq=>aa (aa (.type "code",aa (.ref q.2.1),.ref q.2.1,.str "/claim/cut.py" q.2.2,.int 3 0,.bool true,.int 276 0))
 dfl:=[187,196,205,214].map λ(_:Addr)=>aa true
 Ea:=aa (aa #[.none])
 Oc:=[188,197,206,215].map λ(_:Addr)=>aa true
 mods:=true
 bmod:=aa {cls:= .type "module",dict:=aa builtinsNs,data:= .plain}
 cls:=aa Pz
 D9:=(true,iW.map (·.2))
 pats:=rI.map λp=>aa (aa (.type "re.Pattern",ac,.int 0 0,.int 0 0,.ref p.2.1))
 Zp:=rI.map λp=>aa (aa p.2.2)
 size:=331
 own:=aa (.ref 330)
def IW (s:bb):Dn×Nat:=(obs s.heap,s.toks)
def MH:LeftO pJ wO AQ (λs=>recOk [] s) IW (λq=>(good,816)) 3728:=λw=>by kernel_rfl
def PA:cu.wellSaid=true:=by kernel_rfl
def yl:DefRec:=⟨ah "law",(theDef "law").1,(theDef "law").2.1,(theDef "law").2.2,⟨357,0,409,16⟩⟩
def TY:defOf wO (cu.row.name)=aa (yl,[]):=by kernel_rfl
def TZ:cu.row.prog.theDef cu.row.name=aa (yl.params,yl.body,yl.scope):=by kernel_rfl
def Yb:(chainsOk wO&&opensWell cu.row.prog&&(frees cu.row.toRowW&&cu.row.toRowW.within.isEmpty))=true:=by kernel_rfl
def Es:cu.row.toRowW.promised:=⟨[.list []],by decide+kernel,by decide+kernel⟩
def PB:cu.row.prog.bare:=⟨rfl,rfl,rfl,rfl,rfl,by decide+kernel⟩
structure dY (s s':bb):Prop where
 os:s'.os=s.os
 gens:∀(i:Nat) (x:VV),s.gens[i]? =aa x->s'.gens[i]? =aa x
 bare:ms s.gens->ms s'.gens
def dY.refl (s:bb):dY s s:=⟨rfl,λq q h=>h,λh=>h⟩
def dY.trans (h:dY a b) (k:dY b c):dY a c:=⟨k.os.trans h.os,λi x e=>k.gens i x (h.gens i x e),λx=>k.bare (h.bare x)⟩
def dY.heap (s:bb) (h:iR) (t:Dd):dY s {s with heap:=h,toks:=t}:=⟨rfl,λq q h=>h,λh=>h⟩
def dY.gF (s:bb) (h:iR):dY s {s with heap:=h}:=⟨rfl,λq q h=>h,λh=>h⟩
def dY.toks (s:bb) (t:Dd):dY s {s with toks:=t}:=⟨rfl,λq q h=>h,λh=>h⟩
section
variable {S:cz} {c:aM} {O:List AO} {h h':iR}
def Rel.lt (R:Rel S c O h) (e:c.F a=aa o):a<h.objs.size:=bW (R.frozen a o e)
def Rel.MI (R:Rel S c O h) (hi:i<O.length):c.Z i<h.objs.size:=by obtain(⟨o,e,_⟩):=R.own i O[i] (aq hi);exact bW e
def Rel.Gp (R:Rel S c O h) (hq:q∈cm):q.2<h.objs.size:=by obtain(⟨_,_,ps,e,_⟩):=R.tabs q hq;exact bW e
def Rel.afc (R:Rel S c O h) (e:c.F a=aa o) (hi:i<O.length):a≠c.Z i:=by rintro rfl;rw[R.apart i hi]at e;exact nomatch e
def Rel.ext (R:Rel S c O h) (k:∀b o,h.get? b=aa o->h'.get? b=aa o):Rel S c O h' where
 frozen:=λa o e=>k _ _ (R.frozen a o e)
 base:=R.base
 own:=λi ao e=>xe12 (R.own i ao e) λo a b=>⟨o,k _ _ a,b⟩
 apart:=R.apart
 inj:=R.inj
 pins:=λa o e=>⟨k _ _ (R.pins a o e).1,(R.pins a o e).2⟩
 tabs:=λq hq=>let ⟨a,b,ps,d,e⟩:=R.tabs q hq;⟨a,b,ps,k _ _ d,e⟩
def aM.put (c:aM) (a:Addr) (o:Obj):aM:= {c with F:=λx=>if x=a then aa o else c.F x}
def aM.dC (ha:c.F a=ac):aM.le n c (c.put a o):=by refine⟨λx y e=> ?_,λq q=>rfl,rfl⟩;show(if x=a then aa o else c.F x)=aa y;rw[if_neg (by rintro rfl;rw[ha]at e;exact nomatch e)];exact e
def Rel.oz (R:Rel S c O h) (ha:h.objs.size<=a):c.F a=ac:=by
 cases e:c.F a with
 |none=>rfl
 |some o=>exact absurd (R.lt e) (fC.mpr ha)
def za.mono {cd:Value} (h:za F cd) (hF:∀a o,F a=aa o->F' a=aa o):za F' cd:=
 xe53 h λx o vs q t a b d=>⟨x,o,vs,q,t,a,hF _ _ b,d⟩
def Rel.put (R:Rel S c O h) {a:Addr} {o:Obj} (k:∀b o,h.get? b=aa o->h'.get? b=aa o) (ha:h.objs.size<=a) (ho:h'.get? a=aa o):Rel S (c.put a o) O h' where
 frozen:=λx y e=>by
  have e':(if x=a then aa o else c.F x)=aa y:=e;by_cases hx:x=a
  ·subst hx;rw[if_pos rfl]at e';obtain rfl:=ag e';exact ho
  ·rw[if_neg hx]at e';exact k _ _ (R.frozen x y e')
 base:=λx y e hq=>by show(if x=a then aa o else c.F x)=aa y;rw[if_neg (by rintro rfl;exact absurd (R.lt (R.base _ _ e hq)) (fC.mpr ha))];exact R.base x y e hq
 own:=λi ao e=>xe12 (R.own i ao e) λo' x b=>⟨o',k _ _ x,b.mono (aM.dC (R.oz ha)) (ab _)⟩
 apart:=λi hi=>by show(if c.Z i=a then aa o else c.F (c.Z i))=ac;rw[if_neg (by rintro e;exact absurd (R.MI hi) (fC.mpr (e▸ha)))];exact R.apart i hi
 inj:=R.inj
 pins:=λx y e=>by obtain(⟨p1,p2,p3,p4⟩):=R.pins x y e;refine⟨k _ _ p1,?_,p3,p4⟩;show(if x=a then aa o else c.F x)=ac;rw[if_neg (by rintro rfl;exact absurd (bW p1) (fC.mpr ha))];exact p2
 tabs:=λq hq=>by obtain(⟨x,b,ps,d,e,f⟩):=R.tabs q hq;refine⟨?_,b,ps,k _ _ d,e,λpos cd h=>(f pos cd h).mono (aM.dC (n:=0) (R.oz ha)).F⟩;show(if q.2=a then aa o else c.F q.2)=ac;rw[if_neg (by rintro e;exact absurd (R.Gp hq) (fC.mpr (e▸ha)))];exact x
def aM.own (c:aM) (n:Nat) (a:Addr):aM:= {c with Z:=λi=>if i=n then a else c.Z i}
def aM.ma (c:aM) (n:Nat) (a:Addr):(c.own n a).Z n=a:=if_pos rfl
def aM.jb:aM.le n c (c.own n a):=⟨λq q e=>e,λi hi=>if_neg (cM hi),rfl⟩
def Rel.AR (R:Rel S c O h) {a:Addr} {o:Obj} {ao:AO} (k:∀b o,h.get? b=aa o->h'.get? b=aa o) (ha:h.objs.size<=a) (ho:h'.get? a=aa o)
  (hr:ic S.w (c.own O.length a) (O.length+1) o ao):Rel S (c.own O.length a) (O++[ao]) h' where
 frozen:=λx y e=>k _ _ (R.frozen x y e)
 base:=R.base
 own:=λi x e=>by
  rw[aj];rcases eG i O.length with(hi|hi|hi)
  ·rw[aW hi]at e;obtain(⟨o',p,q⟩):=R.own i x e;refine⟨o',?_,q.mono aM.jb (mu _)⟩;exact(aM.jb.Z i hi).symm▸(k _ _ p)
  ·subst hi;rw[aE (ab _),dc]at e;obtain rfl:=ag e;exact⟨o,by rw[aM.ma];exact ho,hr⟩
  ·rw[aE (ce hi)]at e;have:(i- O.length)≠0:=by exact om0 hi
   obtain(⟨j,hj⟩):=oU this;rw[hj]at e;simp at e
 apart:=λi hi=>by
  rw[aj]at hi;show c.F (if i=O.length then a else c.Z i)=ac;by_cases e:i=O.length
  ·rw[if_pos e];exact R.oz ha
  ·rw[if_neg e];exact R.apart i (by simp at hi;exact IT hi e)
 inj:=λi j hi hj e=>by
  rw[aj]at hi hj;simp only[be]at hi hj;have e':(if i=O.length then a else c.Z i)=(if j=O.length then a else c.Z j):=e;by_cases p:i=O.length<;>by_cases q:j=O.length
  ·exact om2 p q
  ·rw[if_pos p,if_neg q]at e';exact absurd (R.MI (i:=j) (by exact IT hj q)) (fC.mpr (e'▸ha))
  ·rw[if_neg p,if_pos q]at e';exact absurd (R.MI (i:=i) (by exact IT hi p)) (fC.mpr (e'▸ha))
  ·rw[if_neg p,if_neg q]at e';exact R.inj i j (by exact IT hi p) (by exact IT hj q) e'
 pins:=λx y e=>by
  obtain(⟨p1,p2,p3,p4⟩):=R.pins x y e;refine⟨k _ _ p1,p2,λi hi=> ?_,p4⟩;rw[aj]at hi;simp only[be]at hi;show(if i=O.length then a else c.Z i)≠x;by_cases p:i=O.length
  ·rw[if_pos p];rintro rfl;exact absurd (bW p1) (fC.mpr ha)
  ·rw[if_neg p];exact p3 i (by exact IT hi p)
 tabs:=λq hq=>by
  obtain(⟨x,b,ps,d,e,f⟩):=R.tabs q hq;refine⟨x,λi hi=> ?_,ps,k _ _ d,e,f⟩;rw[aj]at hi;simp only[be]at hi;show(if i=O.length then a else c.Z i)≠q.2;by_cases p:i=O.length
  ·rw[if_pos p];rintro rfl;exact absurd (R.Gp hq) (fC.mpr ha)
  ·rw[if_neg p];exact b i (by exact IT hi p)
def Rel.set (R:Rel S c O h) {i:Nat} {o:Obj} {ao:AO} (hi:i<O.length) (hs:∀b o,b≠c.Z i->h.get? b=aa o->h'.get? b=aa o) (ho:h'.get? (c.Z i)=aa o)
  (hr:ic S.w c O.length o ao):Rel S c (O.set i ao) h' where
 frozen:=λx y e=>hs _ _ (R.afc e hi) (R.frozen x y e)
 base:=R.base
 own:=λj x e=>by
  rw[bi];rw[List.getElem?_set]at e;by_cases p:i=j
  ·subst p;rw[if_pos rfl,if_pos hi]at e;obtain rfl:=ag e;exact⟨o,ho,hr⟩
  ·rw[if_neg p]at e;obtain(⟨o',p',q⟩):=R.own j x e;have hj:j<O.length:=by
    rcases bS j O.length with(h|h)
    ·exact h
    ·rw[bC h]at e;exact nomatch e
   exact⟨o',hs _ _ (λe=>p (R.inj _ _ hi hj e.symm)) p',q⟩
 apart:=λj hj=>R.apart j (by simpa using hj)
 inj:=λj k hj hk e=>R.inj j k (by simpa using hj) (by simpa using hk) e
 pins:=λx y e=>by obtain(⟨p1,p2,p3,p4⟩):=R.pins x y e;exact⟨hs _ _ (λe=>p3 i hi e.symm) p1,p2,λj hj=>p3 j (by simpa using hj),p4⟩
 tabs:=λq hq=>by obtain(⟨x,b,ps,d,e,f⟩):=R.tabs q hq;exact⟨x,λj hj=>b j (by simpa using hj),ps,hs _ _ (λe=>b i hi e.symm) d,e,f⟩
def cU.back (h:cU w c n v d) (h':cU w c' n' v' d):cU w c' n v' d:=by
 induction h' with
 |pv h'=>exact .pv h'
 |fM=>exact .fM (X9.rec (λq h=>h) h.sh)
 |tz a=>obtain(⟨_,_,_,hl⟩):=h.sh;exact .tz a hl
 |inst a b d e=>obtain(⟨_,_,_,_,_,_,_,f⟩):=h.sh;exact .inst a b d e f
def ic.back (h:ic w c n o ao) (h':ic w c' n' o' ao):ic w c' n o' ao:=by
 induction h' with
 |qb=>exact .qb _
 |list a b=>exact .list a b
 |dict a b d e=>exact .dict a b d e
 |ns a b nd d e=>obtain(⟨_,_,_,_,_,d',_⟩):=h.sh;refine .ns a b nd (λx y hx=> ?_) e;obtain(⟨v,h1,h2⟩):=d x y hx;obtain(⟨v',h1',OL⟩):=d' x y hx;exact⟨v,h1,OL.back h2⟩
 |cell a b d e=>obtain(⟨_,_,_,d',_⟩):=h.sh;refine .cell a b (λx hx=> ?_) e;obtain(⟨v,h1,h2⟩):=d x hx;obtain(⟨v',h1',OL⟩):=d' x hx;exact⟨v,h1,OL.back h2⟩
 |attrs a b u nd d e=>obtain(⟨_,_,_,_,_,_,d',_⟩):=h.sh;refine .attrs a b u nd (λx y hx=> ?_) e;obtain(⟨v,h1,h2⟩):=d x y hx;obtain(⟨v',h1',OL⟩):=d' x y hx;exact⟨v,h1,OL.back h2⟩
noncomputable def AO.flat:AO->Bool
 | .list _| .dict _| .qb=>true
 |_=>false
def ic.flat (h:ic w c n o ao) (hf:ao.flat=true):ic w c n' o ao:=by
 induction h with
 |qb o=>exact .qb o
 |list a b=>exact .list a b
 |dict a b d e=>exact .dict a b d e
 |ns=>cases hf
 |cell=>cases hf
 |attrs=>cases hf
def Rel.drop {c':aM} {bv τ:List AO} (R:Rel S c O h) (R':Rel S c' (bv++τ) h') (hl:bv.length=O.length) (H5:∀(i:Nat) (x:AO),bv[i]? =aa x->O[i]? =aa x\/x.flat=true):Rel S c' bv h' where
 frozen:=R'.frozen
 base:=R'.base
 own:=λi x e=>by
  have hi:i<bv.length:=by
   rcases bS i bv.length with(h|h)
   ·exact h
   ·rw[bC h]at e;exact nomatch e
  obtain(⟨o,p,q⟩):=R'.own i x (by rw[aW hi];exact e);refine⟨o,p,?_⟩;rcases H5 i x e with(he|he)
  ·obtain(⟨o',p',q'⟩):=R.own i x he;exact(hl)▸(q'.back q)
  ·exact q.flat he
 apart:=λi hi=>R'.apart i (by rw[aj];solve_by_elim (maxDepth:=4) [ce,a8,bB,aA,fQ,jn,bh,cJ])
 inj:=λi j hi hj e=>R'.inj i j (by rw[aj];solve_by_elim (maxDepth:=4) [ce,a8,bB,aA,fQ,jn,bh,cJ]) (by rw[aj];solve_by_elim (maxDepth:=4) [ce,a8,bB,aA,fQ,jn,bh,cJ]) e
 pins:=λx y e=>xe04 (R'.pins x y e) λp1 p2 p3 p4=>⟨p1,p2,λi hi=>p3 i (by rw[aj];solve_by_elim (maxDepth:=4) [ce,a8,bB,aA,fQ,jn,bh,cJ]),p4⟩
 tabs:=λq hq=>xe03 (R'.tabs q hq) λa b d=>⟨a,λi hi=>b i (by rw[aj];solve_by_elim (maxDepth:=4) [ce,a8,bB,aA,fQ,jn,bh,cJ]),d⟩
end
def aM.pinned (c:aM) (ps:List (Addr×Obj)):aM:= {c with pin:=λa=>(ps.lookup a).or (c.pin a)}
def aM.gM (c c₀:aM):aM:= {c with pin:=c₀.pin}
section
variable {S:cz} {c:aM} {O:List AO} {h h':iR}
def Gq {α β:Type} [BEq α] [LawfulBEq α] {l:List (α×β)} {x:α} {i:β} (h:l.lookup x=aa i):(x,i)∈l:=by
 induction l with
 |nil=>exact nomatch h
 |cons p l ih=>
  rw[di]at h;cases e:x==p.1 with
  |true=>rw[e]at h;obtain rfl:=ag h;rw[O3 e];exact ay
  |false=>rw[e]at h;exact aK _ (ih h)
structure qF (c:aM) (n:Nat) (a:Addr):Prop where
 F:c.F a=ac
 Z:∀i,i<n->c.Z i≠a
 pin:c.pin a=ac
 tab:∀q∈cm,q.2≠a
def Rel.free (R:Rel S c O h) {a:Addr} (ha:h.objs.size<=a):qF c O.length a where
 F:=R.oz ha
 Z:=λi hi e=>absurd (R.MI hi) (fC.mpr (e▸ha))
 pin:=by
  cases e:c.pin a with
  |none=>rfl
  |some o=>exact absurd (bW (R.pins a o e).1) (fC.mpr ha)
 tab:=λq hq e=>absurd (R.Gp hq) (fC.mpr (e▸ha))
def Rel.pinned (R:Rel S c O h) {ps:List (Addr×Obj)} (hf:∀p∈ps,qF c O.length p.1) (hp:∀p∈ps,h.get? p.1=aa p.2):Rel S (c.pinned ps) O h where
 frozen:=R.frozen
 base:=R.base
 own:=λi ao e=>xe12 (R.own i ao e) λo a b=>⟨o,a,b.j8 (λq q e=>e) (λq q=>rfl) (ab _)⟩
 apart:=R.apart
 inj:=R.inj
 pins:=λa o e=>by
  have e':(ps.lookup a).or (c.pin a)=aa o:=e;cases hl:ps.lookup a with
  |none=>rw[hl]at e';exact R.pins a o e'
  |some o'=>rw[hl]at e';clear e;obtain rfl:=ag e';have hm:=Gq hl;exact⟨hp _ hm,(hf _ hm).F,(hf _ hm).Z,(hf _ hm).tab⟩
 tabs:=R.tabs
def Rel.gM {c₀:aM} (R:Rel S c O h) (hp:∀a o,c₀.pin a=aa o->c.pin a=aa o):Rel S (c.gM c₀) O h where
 frozen:=R.frozen
 base:=R.base
 own:=λi ao e=>xe12 (R.own i ao e) λo a b=>⟨o,a,b.j8 (λq q e=>e) (λq q=>rfl) (ab _)⟩
 apart:=R.apart
 inj:=R.inj
 pins:=λa o e=>R.pins a o (hp a o e)
 tabs:=R.tabs
def cU.gM (h:cU w c n v d):cU w (c.gM c₀) n v d:=h.j8 (λq q e=>e) (λq q=>rfl) (ab _)
def cU.pinned (h:cU w c n v d):cU w (c.pinned ps) n v d:=h.j8 (λq q e=>e) (λq q=>rfl) (ab _)
end
structure iv where
 scope:Scope
 fi:Nat
 cells:List (Str×Nat):=[]
 code:Option Addr:=ac
def iv.eq {c c':Sn} (h:c=c'):iv.mk s f c d=iv.mk s f c' d:=congrArg (iv.mk s f · d) h
structure cY (c:aM) (n:Nat) (ae:iv) (env:lY):Prop where
 scope:env.scope=ae.scope
 kind:ae.scope.kind= .function
 locals:env.locals=c.Z ae.fi
 fi:ae.fi<n
 globals:env.globals=mainGlobals
 builtins:env.builtins=builtinsNs
 cells:env.cells=ae.cells.map λp=>(p.1,c.Z p.2)
 jr:∀p∈ae.cells,p.2<n
 code:∀a,ae.code=aa a->env.code= .ref a
 frame:∃f,env.frame=aa f
def cY.mono {c c':aM} {n n':Nat} {ae:iv} {env:lY} (h:cY c n ae env) (hc:aM.le n c c') (hn:n<=n'):cY c' n' ae env where
 scope:=h.scope
 kind:=h.kind
 locals:=h.locals.trans (hc.Z _ h.fi).symm
 fi:=a8 h.fi hn
 globals:=h.globals
 builtins:=h.builtins
 cells:=h.cells.trans (cj λp hp=>by rw[hc.Z _ (h.jr p hp)])
 jr:=λp hp=>a8 (h.jr p hp) hn
 code:=h.code
 frame:=h.frame
def cY.pinned (h:cY c n ae env):cY (c.pinned ps) n ae env:=⟨h.scope,h.kind,h.locals,h.fi,h.globals,h.builtins,h.cells,h.jr,h.code,h.frame⟩
structure jG (k:Nat) (A:cS):Prop where
 hn:A.handled=ac
 depth:A.depth+10*k<=990
 units:A.units+100*k<=9800
 frames:∃l,A.frames=aa l
 guards:∃g,A.guards=aa g
def jG.le (h:jG k A) (hk:k'<=k):jG k' A:=⟨h.hn,by have:=h.depth;exact om3 this hk,by have:=h.units;exact om4 this hk,h.frames,h.guards⟩
def jG.room (h:jG k A):A.depth<recursionLimit:=bB (aA (bh _ _) h.depth) (by decide)
def dep {a c k n w:Nat} (h:a+c*(k+1)<=n) (hw:w<=c):a+w+c*k<=n:=
 aA (by rw[iO,ue w];exact dW (dW hw _) _) h
def jG.deeper {k:Nat} {A:cS} {env:lY} (h:jG (k+1) A):jG k (A.deeper env) where
 hn:=h.hn
 depth:=dep h.depth (by decide:1<=10)
 units:=dep h.units (by decide:3<=100)
 frames:=xe11 (h.frames) λl e=>⟨env::l,by show A.frames.map _=_;rw[e];rfl⟩
 guards:=h.guards
inductive dg (w:jE) (c:aM) (n:Nat):List Value->List AV->Prop
 |nil:dg w c n [] []
 |cons {v:Value} {d:AV} {vs:Vs} {ds:List AV}:cU w c n v d->dg w c n vs ds->dg w c n (v::vs) (d::ds)
def dg.mono (h:dg w c n vs ds) (hc:aM.le n c c') (hn:n<=n'):dg w c' n' vs ds:=by
 induction h with
 |nil=>exact .nil
 |cons a _ ih=>exact .cons (a.mono hc hn) ih
def Tr (S:cz) (O:List AO) (A:cS) (c:aM) (s:bb) (t:z0 Value) (d:AV) (bv:List AO):Prop:=
 ∀(E:VS) (Q:VS),
  (∀c' v s',aM.le O.length c c'->Rel S c' bv s'.heap->dY s s'->cU S.w c' bv.length v d->Q v s')->wpAny (MM S.w) A t Q E s
structure Ev (S:cz) (k:Nat) (O:List AO) (ae:iv) (e:Expr) (d:AV) (bv:List AO):Prop where
 len:O.length<=bv.length
 run:∀A c s env,jG k A->cY c O.length ae env->Rel S c O s.heap->Tr S O A c s (eval e env) d bv
abbrev nL (S:cz) (k:Nat) (O:List AO) (ae:iv) (e:Expr) (d:PV):Prop:=Ev S k O ae e (.pv d) O
inductive nY where
 |next|brk|cont
 |ret (d:AV)
inductive sH (w:jE) (c:aM) (n:Nat):Cq->nY->Prop
 |next:sH w c n .next .next
 |brk:sH w c n .brk .brk
 |cont:sH w c n .cont .cont
 |ret {v:Value} {d:AV}:cU w c n v d->sH w c n (.ret v) (.ret d)
def TrF (S:cz) (O:List AO) (A:cS) (c:aM) (s:bb) (t:z0 Cq) (f:nY) (bv:List AO):Prop:=
 ∀(E:VS) (Q:Cq->bb->Prop),
  (∀c' v s',aM.le O.length c c'->Rel S c' bv s'.heap->dY s s'->sH S.w c' bv.length v f->Q v s')->wpAny (MM S.w) A t Q E s
structure iX (S:cz) (k:Nat) (O:List AO) (ae:iv) (st:Stmt) (f:nY) (bv:List AO):Prop where
 len:O.length<=bv.length
 run:∀A c s env,jG k A->cY c O.length ae env->Rel S c O s.heap->TrF S O A c s (exec st env) f bv
structure cH (S:cz) (k:Nat) (O:List AO) (ae:iv) (Vy:List Stmt) (f:nY) (bv:List AO):Prop where
 len:O.length<=bv.length
 run:∀A c s env,jG k A->cY c O.length ae env->Rel S c O s.heap->TrF S O A c s (execs Vy env) f bv
structure dy (S:cz) (k:Nat) (O:List AO) (f:AV) (args:List AV) (kw:List (Str×AV)) (d:AV) (bv:List AO):Prop where
 len:O.length<=bv.length
 run:∀A c s fv vs kvs,jG k A->Rel S c O s.heap->cU S.w c O.length fv f->dg S.w c O.length vs args->kvs.map (·.1)=kw.map (·.1)->dg S.w c O.length (kvs.map (·.2)) (kw.map (·.2))->
  Tr S O A c s (call fv vs kvs) d bv
def oA (S:cz) (k:Nat) (O:List AO) (ae:iv) (e:Expr) (b:Bool):Prop:=
 ∀A c s env,jG k A->cY c O.length ae env->Rel S c O s.heap->
  ∀(E:VS) (Q:Bool->bb->Prop),(∀c' s',aM.le O.length c c'->Rel S c' O s'.heap->dY s s'->Q b s')->wpAny (MM S.w) A (isTrue e env (eval e env)) Q E s
variable {S:cz} {k:Nat} {O:List AO} {ae:iv}
inductive OA1 (w:jE) (c:aM) (n:Nat) (d:AV) (ds:List AV) (vs:Vs):Prop
 |mk (v:Value) (r:Vs) (e:vs=v::r) (a:cU w c n v d) (b:dg w c n r ds)
inductive afd (w:jE) (c:aM) (n:Nat) (d:AV) (f:Cq):Prop
 |mk (v:Value) (e:f= .ret v) (h:cU w c n v d)
def FSh (w:jE) (c:aM) (n:Nat) (f:Cq):nY->Prop
 | .next=>f= .next
 | .brk=>f= .brk
 | .cont=>f= .cont
 | .ret d=>afd w c n d f
def sH.sh (h:sH w c n f d):FSh w c n f d:=by
 induction h with
 |ret h=>exact⟨_,rfl,h⟩
 |_=>exact rfl
def LSh (w:jE) (c:aM) (n:Nat) (vs:Vs):List AV->Prop
 | []=>vs=[]
 |d::ds=>OA1 w c n d ds vs
def dg.sh (h:dg w c n vs ds):LSh w c n vs ds:=by
 induction h with
 |nil=>exact rfl
 |cons a b=>exact⟨_,_,rfl,a,b⟩
def cU.gi (h:cU w c n v (.pv d)):dk w c.F v d:=h.sh
def cU.dn (h:cU w c n v (.pv (.con u))):v=u:=h.gi.sh
def cU.Yc (h:cU w c n v (.tz ps b sc cells)):∃a,v= .ref a/\MG c.F a ps b sc (cells.map λp=>(p.1,c.Z p.2))/\∀p∈cells,p.2<n:=h.sh
def dg.i1 (h:dg w c n vs (d::ds)):OA1 w c n d ds vs:=h.sh
def dg.i0 (h:dg w c n vs []):vs=[]:=h.sh
def dk.kK (h:dk w F v (.int i)):∃t,v= .int i t:=h.sh
def dk.Et (h:dk w F v (.fE i)):∃t,v= .float i t:=h.sh
def dk.mG (h:dk w F v (.str i)):∃t,v= .str i t:=h.sh
def dk.IX (h:dk w F v (.con u)):v=u:=h.sh
def cU.zN (h:cU w c n v (.fM i)):X9 c n i v:=h.sh
def dk.Eu (h:dk w F v (.tup l)):TX w F "tuple" l v:=h.sh
def dk.ym (h:dk w F v (.lst l)):TX w F "list" l v:=h.sh
def sH.wV (h:sH w c n f .next):f= .next:=h.sh
def sH.MJ (h:sH w c n f (.ret d)):afd w c n d f:=h.sh
def ic.zb (h:ic w c n o (.list l)):WP w c.F l o:=h.sh
def ic.PC (h:ic w c n o (.dict l)):Ld w c.F l o:=h.sh
def dk.Yd (h:dk w F v (.oQ l)):∃a o,v= .ref a/\(a==sysModules)=false/\F a=aa o/\Ld w F l o:=h.sh
def cU.afe (h:cU w c n v (.inst i)):∃a o,v= .ref a/\c.F a=aa o/\o.cls= .ref 182/\(∀k,o.data≠ .cls k)/\o.dict=aa (c.Z i)/\i<n:=h.sh
def ic.Ye (h:ic w c n o (.attrs m)):∃es ep,o.data= .dict es ep/\De es/\VR es/\(m.map (·.1)).Nodup/\(∀(x:Str) (d:AV),(x,d)∈m->∃v,nsFind es x=aa v/\cU w c n v d)/\∀x:Str,x∉m.map (·.1)->nsFind es x=ac:=h.sh
def ic.iNs (h:ic w c n o (.ns m)):∃es ep,o.data= .dict es ep/\De es/\(m.map (·.1)).Nodup/\(∀(x:Str) (d:AV),(x,aa d)∈m->∃v,nsFind es x=aa v/\cU w c n v d)/\∀x:Str,(x,ac)∈m->nsFind es x=ac:=h.sh
def ic.WR (h:ic w c n o (.cell d)):∃v,o.data= .cell v/\o.slots= #[]/\(∀x,d=aa x->∃u,v=aa u/\cU w c n u x)/\(d=ac->v=ac):=h.sh
def aff {l:List α} (i:Nat) (h:l[i]? =aa a):a∈l:=bo h
def Ew {l:List (Str×α)}:l.lookup x=aa v->(x,v)∈l:=by
 induction l with
 |nil=>intro h;exact nomatch h
 |cons q9 l ih=>
  intro h;obtain(⟨y,u⟩):=q9;rw[di]at h;cases e:x==y with
  |true=>rw[e]at h;obtain rfl:=ag h;obtain rfl:=beq_iff_eq.mp e;exact ay
  |false=>rw[e]at h;exact aK _ (ih h)
noncomputable abbrev PV.bool (b:Bool):PV:= .con (.bool b)
noncomputable abbrev PV.none:PV:= .con .none
def cY.kindOf (h:cY c n ae env) (x:Str):env.kindOf x=ae.scope.names.lookup x:=by unfold Env.kindOf;rw[h.scope]
def Rel.ns (R:Rel S c O h) (hi:O[i]? =aa (.ns m)):
  ∃f:Str->Option Value,h.Ns (c.Z i) f/\(m.map (·.1)).Nodup/\(∀x d,(x,aa d)∈m->∃v,f x=aa v/\cU S.w c O.length v d)/\(∀x,(x,ac)∈m->f x=ac):=by
 obtain(⟨o,ho,hr⟩):=R.own i _ hi;obtain⟨_,_,a,b,nd,d,e⟩:=hr.iNs;exact⟨_,⟨o,_,_,ho,a,b,λq=>rfl⟩,nd,d,e⟩
def Ex (c:aM) (l:Sn) (x:Str):(l.map λp=>(p.1,c.Z p.2)).lookup x=(l.lookup x).map c.Z:=by
 induction l with
 |nil=>rfl
 |cons p l ih=>rw[bx,di,di];cases x==p.1<;>simp[ih]
def Yg {l:List (Str×α)}:∀ {x:Str} {i:α},l.lookup x=aa i->(x,i)∈l:=by
 induction l with
 |nil=>intro _ _ h;exact nomatch h
 |cons p l ih=>
  intro x i h;rw[di]at h;cases e:x==p.1 with
  |true=>rw[e]at h;obtain rfl:=ag h;rw[O3 e];exact ay
  |false=>rw[e]at h;exact aK _ (ih h)
def Rel.cell (R:Rel S c O h) (hi:O[i]? =aa (.cell d)):
  ∃v,h.IsCell (c.Z i) v/\(∀x,d=aa x->∃u,v=aa u/\cU S.w c O.length u x):=by
 obtain(⟨o,ho,hr⟩):=R.own i _ hi;obtain⟨_,a,_,d,_⟩:=hr.WR;exact⟨_,⟨o,ho,a⟩,d⟩
def Ev.rJ (hm:O[ae.fi]? =aa (.ns m)) (hk:ae.scope.names.lookup x=aa .local) (hd:(x,aa d)∈m)
  (hx:(x==("__debug__" :Str))=false:=by decide):Ev S k O ae (.Name x pos) d O:=by
 refine⟨ab _,?_⟩;intro A c s env hA hE R E Q hQ;obtain(⟨f,hf,_,h1,_⟩):=R.ns hm;obtain(⟨v,hv,hd⟩):=h1 x d hd;refine Co (qg ((hE.scope)▸(hE.kind)) (by rw[hE.kindOf,hk]) ((hE.locals)▸(hf)) hv ?_) hx;exact hQ c v s (.refl ..) R (.refl _) hd
def Ev.MK (hk:ae.scope.names.lookup x=aa .cell) (hi:ae.cells.lookup x=aa i) (hd:O[i]? =aa (.cell (aa d)))
  (hx:(x==("__debug__" :Str))=false:=by decide):Ev S k O ae (.Name x pos) d O:=by
 refine⟨ab _,?_⟩;intro A c s env hA hE R E Q hQ;obtain(⟨v,hc,h1⟩):=R.cell hd;obtain(⟨u,rfl,hu⟩):=h1 d rfl;refine Co (wpAny_loadName_cell ((hE.scope)▸(hE.kind)) (by rw[hE.kindOf,hk]) (by rw[hE.cells,Ex,hi];rfl) hc ?_) hx;exact hQ c u s (.refl ..) R (.refl _) hu
def Ev.qU (hk:ae.scope.names.lookup x=aa .free) (hi:ae.cells.lookup x=aa i) (hd:O[i]? =aa (.cell (aa d)))
  (hx:(x==("__debug__" :Str))=false:=by decide) (sM:(x==("__classdict__" :Str))=false:=by decide):Ev S k O ae (.Name x pos) d O:=by
 refine⟨ab _,?_⟩;intro A c s env hA hE R E Q hQ;obtain(⟨v,hc,h1⟩):=R.cell hd;obtain(⟨u,rfl,hu⟩):=h1 d rfl;refine Co (wpAny_loadName_free ((hE.scope)▸(hE.kind)) (by rw[hE.kindOf,hk]) (by rw[hE.cells,Ex,hi];rfl) hc ?_ sM) hx;exact hQ c u s (.refl ..) R (.refl _) hu
def Rel.old (R:Rel S c O h) (e:S.h₀.get? a=aa o) (ha:∀q∈cm,a≠q.2):h.get? a=aa o:=R.frozen _ _ (R.base a o e ha)
def Rel.vg (R:Rel S c O h) (e:S.h₀.Ns a m) (ha:∀q∈cm,a≠q.2):h.Ns a m:=
 xe32 (e) λo es ep ho r=>⟨o,es,ep,R.old ho ha,r⟩
def Rel.lim (R:Rel S c O h):h.NoLimit:=xe12 (S.lim) λmc a b=>⟨mc,R.vg a (by decide),b⟩
def Ev.glob (hE:cY c O.length ae env) (R:Rel S c O s.heap)
  (hk:ae.scope.names.lookup x=aa .globalImplicit) (hg:(x,aa v)∈cg) (hx:(x==("__debug__" :Str))=false) (h:Q v s):wpAny (MM S.w) A (eval (.Name x pos) env) Q E s:=by
 obtain(⟨mg,Gb,hm⟩):=S.glob;refine qj ((hE.scope)▸(hE.kind)) (by rw[hE.kindOf,hk]) ?_ hx;exact Calls.loadGlobal_global ((hE.globals)▸(R.vg Gb (by decide))) (hm _ hg) h
def Ev.blt (hE:cY c O.length ae env) (R:Rel S c O s.heap)
  (hk:ae.scope.names.lookup x=aa .globalImplicit) (hg:(x,ac)∈cg) (hb:(x,aa v)∈ly) (hx:(x==("__debug__" :Str))=false) (h:Q v s):wpAny (MM S.w) A (eval (.Name x pos) env) Q E s:=by
 obtain(⟨mg,Gb,hm⟩):=S.glob;obtain(⟨mb,hmb,hn⟩):=S.blt;refine qj ((hE.scope)▸(hE.kind)) (by rw[hE.kindOf,hk]) ?_ hx;exact FZ (by rw[hE.globals];exact R.vg Gb (by decide)) (hm _ hg) (by rw[hE.builtins];exact R.vg hmb (by decide)) (hn _ hb) h
def Ev.ui (hk:ae.scope.names.lookup x=aa .globalImplicit) (hg:(x,aa v)∈cg) (hx:(x==("__debug__" :Str))=false:=by decide):
  nL S k O ae (.Name x pos) (.con v):=⟨ab _,λq c q q q hE R q q hQ=>Ev.glob hE R hk hg hx (hQ c v _ (.refl ..) R (.refl _) (.pv (.con v)))⟩
def Ev.IY (hk:ae.scope.names.lookup x=aa .globalImplicit) (hg:(x,aa (.float u t))∈cg) (hx:(x==("__debug__" :Str))=false:=by decide):
  nL S k O ae (.Name x pos) (.fE u):=⟨ab _,λq c q q q hE R q q hQ=>Ev.glob hE R hk hg hx (hQ c _ _ (.refl ..) R (.refl _) (.pv (.fE u t)))⟩
def Ev.Gr (hk:ae.scope.names.lookup x=aa .globalImplicit) (hg:(x,ac)∈cg) (hb:(x,aa v)∈ly) (hx:(x==("__debug__" :Str))=false:=by decide):
  nL S k O ae (.Name x pos) (.con v):=⟨ab _,λq c q q q hE R q q hQ=>Ev.blt hE R hk hg hb hx (hQ c v _ (.refl ..) R (.refl _) (.pv (.con v)))⟩
def Ev.int:nL S k O ae (.Constant (.int i) n pos) (.int i):=
 ⟨ab _,λq c s q q q R q q hQ=>wpAny_Constant_int (hQ c _ _ (.refl ..) R (.toks ..) (.pv (.int ..)))⟩
def Ev.str:nL S k O ae (.Constant (.str x) n pos) (.str x):=
 ⟨ab _,λq c s q q q R q q hQ=>kl (hQ c _ _ (.refl ..) R (.toks ..) (.pv (.str ..)))⟩
def Ev.fE:nL S k O ae (.Constant (.float u) n pos) (.fE u):=
 ⟨ab _,λq c s q q q R q q hQ=>PySem.wpAny_Constant_float (hQ c _ _ (.refl ..) R (.toks ..) (.pv (.fE ..)))⟩
def Ev.none:nL S k O ae (.Constant .none n pos) PV.none:=
 ⟨ab _,λq c s q q q R q q hQ=>wpAny_Constant_none (hQ c _ _ (.refl ..) R (.refl ..) (.pv (.con ..)))⟩
def Ev.bool:nL S k O ae (.Constant (.bool b) n pos) (PV.bool b):=
 ⟨ab _,λq c s q q q R q q hQ=>zY (hQ c _ _ (.refl ..) R (.refl ..) (.pv (.con ..)))⟩
def ML (t:Value->Value->z0 Value) (a b d:PV):Prop:=
 ∀(S:cz) (k:Nat) (O:List AO) (A:cS) (c:aM) (s:bb) (u v:Value),jG k A->Rel S c O s.heap->dk S.w c.F u a->dk S.w c.F v b->Tr S O A c s (t u v) (.pv d) O
def Ev.WS (h1:nL S k O ae l a) (h2:nL S k O ae r b) (ho:ML (binaryOp op) a b d):nL S k O ae (.BinOp l op r pos) d:=
 ⟨ab _,λA c s env hA hE R E Q hQ=>Gf (h1.run A c s env hA hE R _ _ λc1 v1 s1 l1 R1 K1 a1=>h2.run A c1 s1 env hA (hE.mono l1 (ab _)) R1 _ _ λc2 v2 s2 l2 R2 K2 a2=>
  ho S k O A c2 s2 v1 v2 hA R2 (a1.gi.mono l2.F) a2.gi _ _ λc3 v3 s3 l3 R3 K3 a3=>hQ c3 v3 s3 ((l1.trans l2 (ab _)).trans l3 (ab _)) R3 ((K1.trans K2).trans K3) a3)⟩
def WT (op:wF) (a b:PV) (r:Bool):Prop:=ML (compareOp op) a b (PV.bool r)
def oA.compare (h1:nL S k O ae l a) (h2:nL S k O ae r b) (ho:WT op a b x) (hm:behindInMarks op r=false):
  oA S k O ae (.Compare l [op] [r] pos) x:=
 λA c s env hA hE R E Q hQ=>yc (h1.run A c s env hA hE R _ _ λc1 v1 s1 l1 R1 K1 a1=>h2.run A c1 s1 env hA (hE.mono l1 (ab _)) R1 _ _ λc2 v2 s2 l2 R2 K2 a2=>
  ho S k O A c2 s2 v1 v2 hA R2 (a1.gi.mono l2.F) a2.gi _ _ λc3 v3 s3 l3 R3 K3 a3=>by
   have e:=a3.dn;subst e;exact gf (hQ c3 s3 ((l1.trans l2 (ab _)).trans l3 (ab _)) R3 ((K1.trans K2).trans K3))) hm
def oA.to (h:oA S k O ae e b) (hb:b=b'):oA S k O ae e b':=hb▸h
def ML.anc (a b:Int):ML (binaryOp .Add) (.int a) (.int b) (.int (a+b)):=by intro S k O A c s u v hA R h1 h2 E Q hQ;obtain⟨_,rfl⟩:=h1.kK;obtain⟨_,rfl⟩:=h2.kK;exact P.add_int (hQ c _ _ (.refl ..) R (.toks ..) (.pv (.int ..)))
def ML.afg (a b:Int) (hb:b≠0) (hp:Builtin.divisionGoesByPylong a b=false):ML (binaryOp .FloorDiv) (.int a) (.int b) (.int (a.fdiv b)):=by intro S k O A c s u v hA R h1 h2 E Q hQ;obtain⟨_,rfl⟩:=h1.kK;obtain⟨_,rfl⟩:=h2.kK;exact yU hb (hQ c _ _ (.refl ..) R (.toks ..) (.pv (.int ..))) (.inl hp)
def WT.ltI (a b:Int):WT .Lt (.int a) (.int b) (decide (a<b)):=by intro S k O A c s u v hA R h1 h2 E Q hQ;obtain⟨_,rfl⟩:=h1.kK;obtain⟨_,rfl⟩:=h2.kK;exact P.lt_int (hQ c _ _ (.refl ..) R (.refl ..) (.pv (.con ..)))
def tt:true=true:=rfl
def so {a:α}:aa a=aa a:=rfl
def pp {b:α}:(λ_:lY=>(pure b:z0 α))=λq=>pure b:=rfl
def scp {F:lY->α} (h:(λenv:lY=>F {env with scope:=sc})=λq=>r) (he:env.scope=sc):F env=r:=by subst he;exact congrFun h env
def alr {P:Prop} (h:∀G:Prop,(P->G)->G):P:=h P id
def wc : Nat → wS → wS
  | 0, t => t
  | n + 1, t => if t.isIdent then wn (wN "rcasesPat.one") [t] else if t.getKind == `Lean.Parser.Term.hole then wn (wN "rcasesPat.ignore") [wx]
    else wn (wN "rcasesPat.tuple") [wx, wl ((t[1].getSepArgs.toList.map λy => wn (wN "rcasesPatLo") [wn (wN "rcasesPatMed") [wl [wc n y]], wl []]).intersperse wx), wx]
local macro_rules (kind := Lean.Parser.Tactic.tacticLet__)
  | s => if s[2][0].getKind != `Lean.Parser.Term.letPatDecl then Lean.Macro.throwUnsupported else pure (wo (wc 9 s[2][0][0]) s[2][0][4])
local macro_rules (kind := «term∅») | s => pure (wm "byTactic" [wx, ws [wp "decide" [wn (wN "optConfig") [wl []]]]])
local macro_rules (kind := Lean.Parser.Tactic.tacticErw___) | s => pure (wp "rwSeq" [wn (wN "optConfig") [wl [wn (wN "configItem") [wn (wN "posConfigItem") [.atom .none "+", wI "offsetCnstrs"]]]], s[2], s[3]])
local macro_rules (kind := coeNotation) | s => pure (wm "proj" [s[1], wx, wI "length"])
local macro_rules (kind := Lean.Parser.Tactic.left) | s => pure (wq [wr "Mine.alr" [wI "?"], wp "intro" [wl [wI "_", wI "kG"]]])
local macro_rules (kind := Lean.Parser.Tactic.right) | s => pure (wr "kG" [wI "?"])
def gq {P:Prop} (h:ac=aa x):P:=nomatch h
def dS [Decidable p] (h:(if p then aa x else ac)=aa y):p/\x=y:=by
 by_cases q:p
 ·rw[if_pos q]at h;exact⟨q,ag h⟩
 ·rw[if_neg q]at h;exact gq h
def Le [Decidable p] (h:(if p then ac else aa x)=aa y):¬p/\x=y:=by
 by_cases q:p
 ·rw[if_pos q]at h;exact gq h
 ·rw[if_neg q]at h;exact⟨q,ag h⟩
def zc (h:ac=aa x):False:=nomatch h
def a9 (h:o.bind f=aa b) {G:Prop} (k:∀a,o=aa a->f a=aa b->G):G:=(aG.mp h).elim λa h=>k a h.1 h.2
inductive Th {α β:Type}:List α->List β->Prop
 |nil:Th [] []
 |cons (a:α) (b:β) {l:List α} {m:List β} (h:Th l m):Th (a::l) (b::m)
def Th.of {α β:Type} {l:List α}:∀ {m:List β},↑l= ↑m->Th l m:=by
 induction l with
 |nil=>intro m h;induction m with
  |nil=>exact .nil
  |cons=>nomatch h
 |cons a l ih=>intro m h;induction m with
  |nil=>nomatch h
  |cons b m=>exact .cons a b (ih (lZ h))
inductive iU (x:Str) (d:AV):List (Str×Option AV)->List (Str×Option AV)->Prop
 |here {o:Option AV} {r:List (Str×Option AV)}:iU x d ((x,o)::r) ((x,aa d)::r)
 |there {p:Str×Option AV} {r r':List (Str×Option AV)}:iU x d r r'->iU x d (p::r) (p::r')
def iU.keys (h:iU x d m m'):m'.map (·.1)=m.map (·.1):=by
 induction h with
 |here=>rfl
 |there _ ih=>rw[bx,bx,ih]
def iU.key (h:iU x d m m'):x∈m.map (·.1):=by
 induction h with
 |here=>exact ay
 |there _ ih=>exact aK _ ih
def iU.mem (h:iU x d m m') (hn:(m.map (·.1)).Nodup):∀y o,(y,o)∈m'->(y=x/\o=aa d)\/(y≠x/\(y,o)∈m):=by
 induction h with
 | @here o r=>
  intro y o' hy;rw[bx,fD]at hn;rcases aH.mp hy with(e|e)
  ·let ⟨rfl,rfl⟩:=bH e;exact .inl ⟨rfl,rfl⟩
  ·refine .inr ⟨?_,aK _ e⟩;rintro rfl;exact hn.1 (aQ.mpr ⟨_,e,rfl⟩)
 | @there p r r' h ih=>
  intro y o' hy;rw[bx,fD]at hn;rcases aH.mp hy with(e|e)
  ·refine .inr ⟨?_,e▸ay⟩;rintro rfl;exact hn.1 (e▸h.key)
  ·rcases ih hn.2 y o' e with(q|q)
   ·exact .inl q
   ·exact .inr ⟨q.1,aK _ q.2⟩
structure j4 (S:cz) (O:List AO) (ae:iv) (x:Str) (d:AV) (bv:List AO):Prop where
 len: ↑O<= ↑bv
 run:∀A c s env v,cY c ↑O ae env->Rel S c O s.heap->cU S.w c ↑O v d->
  ∀(E:VS) (Q:Unit->bb->Prop),(∀c' s',aM.le ↑O c c'->Rel S c' bv s'.heap->dY s s'->Q () s')->wpAny (MM S.w) A (storeName env x v) Q E s
def ic.PD {h:iR} (hf:h.Ns a f) (nd:(m.map (·.1)).Nodup)
  (h1:∀x d,(x,aa d)∈m->∃v,f x=aa v/\cU w c n v d)
  (h2:∀x,(x,ac)∈m->f x=ac):∃o,h.get? a=aa o/\ic w c n o (.ns m):=by
 left;let ⟨o,es,ep,ho,hd,hk,hm⟩:=hf;right;exact⟨o,ho,.ns hd hk nd (λx d hx=>xe12 (h1 x d hx) λv a b=>⟨v,(hm x).trans a,b⟩) λx hx=>(hm x).trans (h2 x hx)⟩
def j4.loc (hm:O[ae.fi]? =aa (.ns m)) (hk:ae.scope.names.lookup x=aa .local) (hs:iU x d m m') (H5:O.set ae.fi (.ns m')=bv):
  j4 S O ae x d bv:=by
 subst H5;refine⟨by rw[bi];exact ab _,?_⟩;intro A c s env v hE R hv E Q hQ;let ⟨f,hf,nd,h1,h2⟩:=R.ns hm;refine yb (by rw[hE.kindOf,hk]) (by rw[hE.locals];exact hf) (λh' vt qf=> ?_) (by rw[hE.scope,hE.kind];rfl);rw[hE.locals]at vt qf;let ⟨o,ho,hr⟩:=ic.PD (w:=S.w) (c:=c) (n:= ↑O) (m:=m') vt (by rw[hs.keys];exact nd) (λy e hy=>by
  rcases hs.mem nd y _ hy with⟨rfl,h⟩|⟨h,hy⟩
  ·obtain rfl:=ag h;exact⟨v,if_pos rfl,hv⟩
  ·let ⟨u,p,q⟩:=h1 y e hy;exact⟨u,by rw[if_neg h];exact p,q⟩) (λy hy=>by
  rcases hs.mem nd y _ hy with⟨rfl,h⟩|⟨h,hy⟩
  ·nomatch h
  ·rw[if_neg h];exact h2 y hy)
 exact hQ c _ (.refl ..) (R.set hE.fi (λb o hb e=>qf.extBut b o hb e) ho hr) (.heap ..)
def j4.cell (hk:ae.scope.names.lookup x=aa .cell) (hi:ae.cells.lookup x=aa i) (hd:O[i]? =aa (.cell anp)) (H5:O.set i (.cell (aa d))=bv):
  j4 S O ae x d bv:=by
 subst H5;refine⟨by rw[bi];exact ab _,?_⟩;intro A c s env v hE R hv E Q hQ;let ⟨o,ho,hr⟩:=R.own i _ hd;let ⟨anq,a,b,_,_⟩:=hr.WR;have kW:i< ↑O:=by
  rcases bS i ↑O with h|h
  ·exact h
  ·rw[bC h]at hd;nomatch hd
 refine am (M:=MM S.w) (A:=A) (E:=E) (s:=s) (m:=pure ()) (f:=λq=>storeName env x v) (Q:=Q) (aR ?_);unfold storeName;have hkk:env.kindOf x=aa .cell:=by rw[hE.kindOf,hk]
 simp only[(by rw[hkk];rfl:((env.kindOf x==aa NameKind.globalImplicit)&&env.blockKind !=ScopeKind.function)=false),fu,if_false,hkk];simp only[(by rw[(by rw[hE.scope];exact hE.kind:env.scope.kind= .function)];rfl:((env.scope.kind==ScopeKind.class)&&(aa kZ==aa kZ))=false),fu,if_false];refine am (wpAny_cellOf (c:=c.Z i) (by rw[hE.cells,Ex,hi];rfl) ?_);unfold cellSet;refine am (KE ho ?_);rw[a];refine wpAny_update ho ?_;refine hQ c _ (.refl ..) (R.set kW (λb o hb e=>(mR ..).extBut b o hb e) (uP _ ho rfl) ?_) (.gF ..);exact .cell rfl b (λy hy=>by obtain rfl:=ag hy;exact⟨v,rfl,hv⟩) (λh=>by nomatch h)
structure Do (S:cz) (k:Nat) (O:List AO) (ae:iv) (t:Expr) (d:AV) (bv:List AO):Prop where
 len: ↑O<= ↑bv
 run:∀A c s env v,jG k A->cY c ↑O ae env->Rel S c O s.heap->cU S.w c ↑O v d->
  ∀(E:VS) (Q:Unit->bb->Prop),(∀c' s',aM.le ↑O c c'->Rel S c' bv s'.heap->dY s s'->Q () s')->wpAny (MM S.w) A (assign t env v) Q E s
def Do.name (h:j4 S O ae x d bv):Do S k O ae (.Name x pos) d bv:=
 ⟨h.len,λA c s env v q hE R hv E Q hQ=>by
  show wpAny _ A (do standAt pos;bindName env x v) Q E s;exact am (cV (si (h.run A c s env v hE R hv E Q hQ)))⟩
def cH.nil:cH S k O ae [] .next O:=⟨ab _,λA c s env q q R E Q hQ=>jB (hQ c .next s (.refl ..) R (.refl _) .next)⟩
def cH.cons (h1:iX S k O ae st .next bw) (h2:cH S k bw ae rest f bQ):cH S k O ae (st::rest) f bQ:=
 ⟨aA h1.len h2.len,λA c s env hA hE R E Q hQ=>da (h1.run A c s env hA hE R _ _ λc1 v1 s1 l1 R1 K1 f1=>by
  obtain rfl:=f1.wV;exact h2.run A c1 s1 env hA (hE.mono l1 h1.len) R1 _ _ λc2 v2 s2 l2 R2 K2 f2=>hQ c2 v2 s2 (l1.trans l2 h1.len) R2 (K1.trans K2) f2)⟩
def cH.ret (h1:iX S k O ae st (.ret d) bw):cH S k O ae (st::rest) (.ret d) bw:=
 ⟨h1.len,λA c s env hA hE R E Q hQ=>da (h1.run A c s env hA hE R _ _ λc1 v1 s1 l1 R1 K1 f1=>by
  let ⟨_,q,f2⟩:=f1.MJ;cases q;exact hQ c1 _ s1 l1 R1 K1 (.ret f2))⟩
def iX.assign (h1:Ev S k O ae gP d bw) (h2:j4 S bw ae x d bQ)
  (hs:∀env,env.scope=ae.scope->swapsWith gP (aa (.Name x jW)) pos.line env=pure false):iX S k O ae (.Assign [.Name x jW] gP pos) .next bQ:=
 ⟨aA h1.len h2.len,λA c s env hA hE R E Q hQ=>kY (h1.run A c s env hA hE R _ _ λc1 v1 s1 l1 R1 K1 a1=>
  h2.run A c1 s1 env v1 (hE.mono l1 h1.len) R1 a1 _ _ λc2 s2 l2 R2 K2=>hQ c2 .next s2 (l1.trans l2 h1.len) R2 (K1.trans K2) .next) (hs env hE.scope)⟩
def iX.if (h1:oA S k O ae test b) (h2:cH S k O ae (if b then body else orelse) f bw):
  iX S k O ae (.If test body orelse pos) f bw:=
 ⟨h2.len,λA c s env hA hE R E Q hQ=>wpAny_If (h1 A c s env hA hE R _ _ λc1 s1 l1 R1 K1=>by
  induction b with
  |true=>exact h2.run A c1 s1 env hA (hE.mono l1 (ab _)) R1 _ _ λc2 v2 s2 l2 R2 K2 f2=>hQ c2 v2 s2 (l1.trans l2 (ab _)) R2 (K1.trans K2) f2
  |false=>exact h2.run A c1 s1 env hA (hE.mono l1 (ab _)) R1 _ _ λc2 v2 s2 l2 R2 K2 f2=>hQ c2 v2 s2 (l1.trans l2 (ab _)) R2 (K1.trans K2) f2)⟩
def iX.return (h1:Ev S k O ae e d bw):iX S k O ae (.Return (aa e) pos) (.ret d) bw:=
 ⟨h1.len,λA c s env hA hE R E Q hQ=>wpAny_Return_some (h1.run A c s env hA hE R _ _ λc1 v1 s1 l1 R1 K1 a1=>hQ c1 _ s1 l1 R1 K1 (.ret a1))⟩
def iX.expr (h1:Ev S k O ae e d bw) (hs:swapsWith e ac pos.line=λq=>pure false):iX S k O ae (.Expr e pos) .next bw:=
 ⟨h1.len,λA c s env hA hE R E Q hQ=>yR (h1.run A c s env hA hE R _ _ λc1 v1 s1 l1 R1 K1 a1=>hQ c1 _ s1 l1 R1 K1 .next) (by
  unfold interactive;rw[hE.scope,hE.kind];rfl) (congrFun hs env)⟩
inductive Ti (S:cz) (k:Nat) (ae:iv) (test:Expr) (body:List Stmt):List AO->nY->List AO->Prop
 |done {O:List AO}:oA S k O ae test false->Ti S k ae test body O .next O
 |turn {O bw bQ:List AO} {f:nY}:oA S k O ae test true->cH S k O ae body .next bw->Ti S k ae test body bw f bQ->Ti S k ae test body O f bQ
 |ret {O bw:List AO} {d:AV}:oA S k O ae test true->cH S k O ae body (.ret d) bw->Ti S k ae test body O (.ret d) bw
def Ti.len (h:Ti S k ae test body O f bw): ↑O<= ↑bw:=by
 induction h with
 |done=>exact ab _
 |turn _ h _ ih=>exact aA h.len ih
 |ret _ h=>exact h.len
def Ti.run (h:Ti S k ae test body O f bw):∀(A:cS) (c:aM) (s:bb) (env:lY),jG k A->cY c ↑O ae env->Rel S c O s.heap->
  ∀(E:VS) (Q:Cq->bb->Prop),(∀c' v s',aM.le ↑O c c'->Rel S c' bw s'.heap->dY s s'->sH S.w c' ↑bw v f->Q v s')->
   codeAny (MM S.w) A (.whileLoop test body [] env) (λr s'=>match r with| .ok f=>Q f s'| .error e=>E e s') s:=by
 induction h with
 |done hb=>intro A c s env hA hE R E Q hQ;refine eZ ?_;rw[cy (by rfl)];show wpAny _ A ((whileTurn _ _ _ env).onRaise (λx=>do noteFrame x env;theTreesLotGoes x)) _ _ s;refine jD ?_;simp only[whileTurn];refine am (hb A c s env hA hE R _ _ λc1 s1 l1 R1 K1=> ?_);simp only[fu,if_false];exact am (jB (aR (hQ c1 .next s1 l1 R1 K1 .next)))
 |turn hb h1 _ ih=>intro A c s env hA hE R E Q hQ;refine eZ ?_;rw[cy (by rfl)];show wpAny _ A ((whileTurn _ _ _ env).onRaise (λx=>do noteFrame x env;theTreesLotGoes x)) _ _ s;refine jD ?_;simp only[whileTurn];refine am (hb A c s env hA hE R _ _ λc1 s1 l1 R1 K1=> ?_);simp only[if_true];refine am (h1.run A c1 s1 env hA (hE.mono l1 (ab _)) R1 _ _ λc2 v2 s2 l2 R2 K2 f2=> ?_);obtain rfl:=f2.wV;exact aR ⟨rfl,ih A c2 s2 env hA (hE.mono (l1.trans l2 (ab _)) h1.len) R2 E Q λc3 v3 s3 l3 R3 K3 f3=>hQ c3 v3 s3 ((l1.trans l2 (ab _)).trans l3 h1.len) R3 ((K1.trans K2).trans K3) f3⟩
 |ret hb h1=>
  intro A c s env hA hE R E Q hQ;refine eZ ?_;rw[cy (by rfl)];show wpAny _ A ((whileTurn _ _ _ env).onRaise (λx=>do noteFrame x env;theTreesLotGoes x)) _ _ s;refine jD ?_;simp only[whileTurn];refine am (hb A c s env hA hE R _ _ λc1 s1 l1 R1 K1=> ?_);simp only[if_true];refine am (h1.run A c1 s1 env hA (hE.mono l1 (ab _)) R1 _ _ λc2 v2 s2 l2 R2 K2 f2=> ?_);cases f2 with
  |ret f2=>exact aR (hQ c2 _ s2 (l1.trans l2 (ab _)) R2 (K1.trans K2) (.ret f2))
def iX.Lf (h:Ti S k ae test body O f bw):iX S k O ae (.While test body [] pos) f bw:=
 ⟨h.len,λA c s env hA hE R E Q hQ=>wpAny_While (by
  exact v9 (h.run A c s env hA hE R (λq q=>False) Q hQ) (λr s' x=>by induction r with|ok f=>exact x|error e=>exact x.elim))⟩
def jH (S:cz) (O:List AO) (fd:FuncData) (args:List AV) (kw:List (Str×AV)) (binds:List (Str×AV)):Prop:=
 ∀(c:aM) (s:bb) (vs:Vs) (kvs:List (Str×Value)),Rel S c O s.heap->dg S.w c ↑O vs args->kvs.map (·.1)=kw.map (·.1)->dg S.w c ↑O (kvs.map (·.2)) (kw.map (·.2))->
  ∃vb:List (Str×Value),vb.map (·.1)=binds.map (·.1)/\dg S.w c ↑O (vb.map (·.2)) (binds.map (·.2))/\BindsTo s fd ⟨vs,kvs⟩ vb
def jH.plain {names:List Str} (cI: ↑names= ↑args)
  (h:∀vs:List Value,↑vs= ↑args->bindArgs fd ⟨vs,[]⟩=pure (names.zip vs)):jH S O fd args [] (names.zip args):=by
 intro c s vs kvs R ha hk _;have H6:kvs=[]:=by induction kvs with|nil=>rfl|cons _ _=>cases hk
 subst H6;have hl: ↑vs= ↑args:=by
  clear cI h hk;induction ha with
  |nil=>rfl
  |cons _ _ ih=>rw[az,az,ih]
 refine⟨names.zip vs,?_,?_,TA (h vs hl)⟩
 ·rw[k9 (by simp_all),k9 (by simp_all)]
 ·rw[nJ (by simp_all),nJ (by simp_all)];exact ha
def dg.length (h:dg w c n vs ds): ↑vs= ↑ds:=by
 induction h with
 |nil=>rfl
 |cons _ _ ih=>rw[az,az,ih]
def AS (l:List (Str×Value)) (hn:(l.map (·.1)).Nodup) (x:Str) (v:Value) (h:(x,v)∈l):l.reverse.lookup x=aa v:=by
 induction l with
 |nil=>cases h
 |cons p l ih=>
  rw[bx,fD]at hn;rw[Tb,O0];rcases aH.mp h with e|e
  ·clear h;subst e;have:l.reverse.lookup x=ac:=by rw[sD];intro q hq;rw[List.mem_reverse]at hq;exact bne_iff_ne.mpr λ(e:x=q.1)=>hn.1 (aQ.mpr ⟨q,hq,e.symm⟩)
   rw[this];simp
  ·rw[ih hn.2 e];rfl
def dg.pick {vb:List (Str×Value)} {binds:List (Str×AV)} (hk:vb.map (·.1)=binds.map (·.1)) (ha:dg w c n (vb.map (·.2)) (binds.map (·.2))) (x:Str) (d:AV) (h:(x,d)∈binds):∃v,(x,v)∈vb/\cU w c n v d:=by
 have hl: ↑vb= ↑binds:=by have:=congrArg eW hk;rwa [aw,aw]at this
 replace hl:=Th.of hl;induction hl with
 |nil=>nomatch h
 |cons p q _ ih=>
  let ⟨v,r,e,h1,h2⟩:=ha.i1;let ⟨rfl,rfl⟩:=jK e;let ⟨k1,k2⟩:=jK hk;rcases aH.mp h with e|e
  ·have k3:p.1=x:=by rw[<- e]at k1;exact k1
   exact⟨p.2,by rw[<- k3];exact ay,by rw[<- e]at h1;exact h1⟩
  ·let ⟨v,hv,hd⟩:=ih k2 h2 e;exact⟨v,aK _ hv,hd⟩
def eg.body (r:eg):List Stmt:=r.d.2.1
def eg.scope (r:eg):Scope:=r.d.2.2
def eg.env (r:eg) (n:Nat):iv:= {scope:=r.scope,fi:=n,cells:=[],code:=aa r.code}
def Rel.fn (R:Rel S c O h) (hr:r∈fW):∃o pm,h.get? r.addr=aa o/\o.cls= .type "function" /\o.data= .func (r.fd pm)/\h.CodeRec (.ref r.code) r.qual:=by
 left;let ⟨o,pm,h1,h2,h3,h4⟩:=S.fns r hr;right;refine⟨o,pm,R.old h1 ?_,h2,h3,?_⟩
 ·revert hr;unfold fW;intro hr q hq;have:∀r∈fW,∀q∈cm,r.addr≠q.2:=by decide
  exact this r hr q hq
 ·let ⟨c',o',vs,t,e,g,d,x⟩:=h4;cases e;refine⟨_,o',vs,t,rfl,R.old g ?_,d,x⟩;have:∀r∈fW,∀q∈cm,r.code≠q.2:=by decide
  exact this r hr
inductive Gs:List AO->Nat->AV->AV->Prop
 |pv {τ:List AO} {n:Nat} {d:PV}:Gs τ n (.pv d) (.pv d)
 |list {τ:List AO} {n j:Nat} {l:List PV}:τ[j]? =aa (.list l)->Gs τ n (.fM (n+j)) (.pv (.lst l))
 |dict {τ:List AO} {n j:Nat} {l:List (Str×PV)}:τ[j]? =aa (.dict l)->Gs τ n (.fM (n+j)) (.pv (.oQ l))
def Rel.freeze {c:aM} {h:iR} {a:Addr} {o:Obj} (R:Rel S c O h) (ha:qF c ↑O a) (ho:h.get? a=aa o):Rel S (c.put a o) O h where
 frozen:=λx y e=>by
  have e':(if x=a then aa o else c.F x)=aa y:=e;by_cases hx:x=a
  ·subst hx;rw[if_pos rfl]at e';obtain rfl:=ag e';exact ho
  ·rw[if_neg hx]at e';exact R.frozen x y e'
 base:=λx y e hq=>by show(if x=a then aa o else c.F x)=aa y;have:=R.base x y e hq;rw[if_neg (by rintro rfl;rw[ha.F]at this;nomatch this)];exact this
 own:=λi ao e=>xe12 (R.own i ao e) λo' x b=>⟨o',x,b.mono (aM.dC ha.F) (ab _)⟩
 apart:=λi hi=>by show(if c.Z i=a then aa o else c.F (c.Z i))=ac;rw[if_neg (ha.Z i hi)];exact R.apart i hi
 inj:=R.inj
 pins:=λx y e=>by let ⟨p1,p2,p3,p4⟩:=R.pins x y e;refine⟨p1,?_,p3,p4⟩;show(if x=a then aa o else c.F x)=ac;rw[if_neg (by rintro rfl;have e':c.pin x=aa y:=e;rw[ha.pin]at e';nomatch e')];exact p2
 tabs:=λq hq=>by left;let ⟨x,b,ps,d,e,f⟩:=R.tabs q hq;right;refine⟨?_,b,ps,d,e,λpos cd h=>(f pos cd h).mono (aM.dC (n:=0) ha.F).F⟩;show(if q.2=a then aa o else c.F q.2)=ac;rw[if_neg (ha.tab q hq)];exact x
def Rel.Lg (R:Rel S c O h) (hi:i< ↑O):(c.Z i==sysModules)=false:=by let ⟨o,ho⟩:=S.mods;exact beq_eq_false_iff_ne.mpr λe=>by have:=R.apart i hi;rw[e,(R.base _ _ ho ∅)]at this;nomatch this
def Rel.Lh {c:aM} {h:iR} {τ:List AO} (R:Rel S c (O++τ) h) {i:Nat} (hi: ↑O<=i) (kW:i< ↑(O++τ)):qF c ↑O (c.Z i) where
 F:=R.apart i kW
 Z:=λj hj e=>by have:=R.inj j i (by rw[aj];exact om6 hj) kW e;exact aaZ hj this hi
 pin:=by
  cases e:c.pin (c.Z i)with
  |none=>rfl
  |some o=>exact absurd rfl ((R.pins _ _ e).2.2.1 i kW)
 tab:=λq hq e=>(R.tabs q hq).2.1 i kW e.symm
def Rel.PE (R2:Rel S c' bv h') (R':Rel S c' (bv++τ) h') (hi: ↑bv+j< ↑(bv++τ)) (hj:τ[j]? =aa ao):∃o Sm,(c'.F (c'.Z (↑bv+j))=ac/\Sm=c'.put (c'.Z (↑bv+j)) o)/\Rel S Sm bv h'/\Sm.F (c'.Z (↑bv+j))=aa o/\ic S.w c' ↑(bv++τ) o ao/\
  ∀a,qF c' ↑bv a->eL (c'.Z (↑bv+j))≠ .ref a->qF Sm ↑bv a:=by
 let ⟨o,ho,hr⟩:=R'.own (↑bv+j) ao (by rw[aE (bh ..),bP];exact hj);have hf:=R'.Lh (bh _ j) hi;refine⟨o,_,⟨hf.F,rfl⟩,R2.freeze hf ho,if_pos rfl,hr,λa ha oS=>⟨?_,ha.Z,ha.pin,ha.tab⟩⟩;show(if a=_ then aa o else c'.F a)=ac;rw[if_neg λe=>oS (by rw[e])];exact ha.F
def Gs.run (R:Rel S c O h) (R':Rel S c' (bv++τ) h') (hl: ↑bv= ↑O) (H5:∀(i:Nat) (x:AO),bv[i]? =aa x->O[i]? =aa x\/x.flat=true)
  (hz:Gs τ ↑bv d d') (hv:cU S.w c' ↑(bv++τ) v d):∃Sm,aM.le ↑O c' Sm/\Rel S Sm bv h'/\cU S.w Sm ↑bv v d'/\∀a,qF c' ↑bv a->v≠ .ref a->qF Sm ↑bv a:=by
 have R2:=R.drop R' hl H5;induction hz with
 |pv=>exact⟨c',.refl ..,R2,.pv hv.gi,λq h q=>h⟩
 | @list j l hj=>let ⟨rfl,hi⟩:=hv.zN;let ⟨o,Sm,⟨hF,rfl⟩,R3,h1,hr,h2⟩:=R2.PE R' hi hj;let ⟨_,_,rfl,a,b⟩:=hr.zb;exact⟨_,aM.dC hF,R3,.pv (.lst h1 a λi v d e1 e2=>(b i v d e1 e2).mono (aM.dC (n:=0) hF).F),h2⟩
 | @dict j l hj=>let ⟨rfl,hi⟩:=hv.zN;let ⟨o,Sm,⟨hF,rfl⟩,R3,h1,hr,h2⟩:=R2.PE R' hi hj;let ⟨_,_,rfl,a,b,d,e⟩:=hr.PC;exact⟨_,aM.dC hF,R3,.pv (.oQ (R'.Lg hi) h1 a b d λi e' k x e1 e2=>(e i e' k x e1 e2).mono (aM.dC (n:=0) hF).F),h2⟩
noncomputable def T1:Cq->Value
 | .ret v=>v
 |_=> .none
def nY.val:nY->AV
 | .ret d=>d
 |_=> .pv PV.none
noncomputable def notStar (e:Expr):Bool:=e.ctorIdx !=22
def gz (h:notStar e=true):starEach (e::rest) env=(false,eval e env)::starEach rest env:=by cases e<;>first|rfl|cases h
inductive ck (S:cz) (k:Nat) (O:List AO) (ae:iv):List Expr->List AV->Prop
 |nil:ck S k O ae [] []
 |cons {e:Expr} {rest:List Expr} {d:AV} {ds:List AV}:Ev S k O ae e d O->ck S k O ae rest ds->notStar e=true->ck S k O ae (e::rest) (d::ds)
inductive pe (S:cz) (k:Nat) (O:List AO) (ae:iv):List Keyword->List (Str×AV)->Prop
 |nil:pe S k O ae [] []
 |cons {e:Expr} {p:Pos} {x:Str} {rest:List Keyword} {d:AV} {ds:List (Str×AV)}:Ev S k O ae e d O->pe S k O ae rest ds->pe S k O ae (⟨aa x,e,p⟩::rest) ((x,d)::ds)
def mH (h:ck S k O ae args ds):∀(pos:Pos) (A:cS) (c:aM) (s:bb) (env:lY),jG k A->cY c ↑O ae env->Rel S c O s.heap->
  ∀(E:VS) (Q:List Value->bb->Prop),(∀c' vs s',aM.le ↑O c c'->Rel S c' O s'.heap->dY s s'->dg S.w c' ↑O vs ds->Q vs s')->wpAny (MM S.w) A (spliced (backTo pos (starEach args env))) Q E s:=by
 induction h with
 |nil=>intro pos A c s env _ _ R E Q hQ;exact eA (hQ c [] s (.refl ..) R (.refl _) .nil)
 |cons h1 _ hn ih=>intro pos A c s env hA hE R E Q hQ;rw[gz hn];show wpAny _ A (spliced ((false,eval _ env)::backTo pos (starEach _ env))) Q E s;refine bX (h1.run A c s env hA hE R _ _ λc1 v1 s1 l1 R1 K1 a1=> ?_);exact ih pos A c1 s1 env hA (hE.mono l1 (ab _)) R1 _ _ λc2 vs s2 l2 R2 K2 a2=>hQ c2 _ s2 (l1.trans l2 (ab _)) R2 (K1.trans K2) (.cons (a1.mono l2 (ab _)) a2)
def IZ (h:pe S k O ae zW ds):∀(pos:Pos) (A:cS) (c:aM) (s:bb) (env:lY),jG k A->cY c ↑O ae env->Rel S c O s.heap->
  ∀(E:VS) (Q:List Value->bb->Prop),(∀c' vs s',aM.le ↑O c c'->Rel S c' O s'.heap->dY s s'->dg S.w c' ↑O vs (ds.map (·.2))->Q vs s')->
   wpAny (MM S.w) A (evalAll ((backToKw pos (keywordEach zW env)).map (·.2))) Q E s:=by
 induction h with
 |nil=>intro pos A c s env _ _ R E Q hQ;exact iH (hQ c [] s (.refl ..) R (.refl _) .nil)
 |cons h1 _ ih=>intro pos A c s env hA hE R E Q hQ;show wpAny _ A (evalAll ((do let v <- eval _ env;standAt pos;pure v)::(backToKw pos (keywordEach _ env)).map (·.2))) Q E s;refine wpAny_evalAll_cons (am (h1.run A c s env hA hE R _ _ λc1 v1 s1 l1 R1 K1 a1=>am (cV (aR ?_))));exact ih pos A c1 s1 env hA (hE.mono l1 (ab _)) R1 _ _ λc2 vs s2 l2 R2 K2 a2=>hQ c2 _ s2 (l1.trans l2 (ab _)) R2 (K1.trans K2) (.cons (a1.mono l2 (ab _)) a2)
def Li (h:pe S k O ae zW ds) (pos:Pos) (env:lY):(backToKw pos (keywordEach zW env)).all (·.1.isSome)=true/\(backToKw pos (keywordEach zW env)).filterMap (·.1)=ds.map (·.1):=by
 induction h with
 |nil=>exact⟨rfl,rfl⟩
 |cons _ _ ih=>
  refine⟨?_,?_⟩
  ·exact dD.mpr ⟨rfl,ih.1⟩
  ·exact congrArg (List.cons _) ih.2
def nk (h:ck S k O ae args ds) (hk:pe S k O ae zW OM) (f:Value) (pos:Pos) (A:cS) (c:aM) (s:bb) (env:lY)
  (hA:jG k A) (hE:cY c ↑O ae env) (R:Rel S c O s.heap) (E:VS) (Q:Args->bb->Prop)
  (hQ:∀c' vs kvs s',aM.le ↑O c c'->Rel S c' O s'.heap->dY s s'->dg S.w c' ↑O vs ds->kvs.map (·.1)=OM.map (·.1)->dg S.w c' ↑O (kvs.map (·.2)) (OM.map (·.2))->Q ⟨vs,kvs⟩ s'):
  wpAny (MM S.w) A (evalArgs f true (backTo pos (starEach args env)) (backToKw pos (keywordEach zW env))) Q E s:=by
 let ⟨C4,FJ⟩:=Li hk pos env;have fin:∀c1 vs s1,aM.le ↑O c c1->Rel S c1 O s1.heap->dY s s1->dg S.w c1 ↑O vs ds->
   wpAny (MM S.w) A (evalAll ((backToKw pos (keywordEach zW env)).map (·.2))) (λks rr=>Q ⟨vs,((backToKw pos (keywordEach zW env)).filterMap (·.1)).zip ks⟩ rr) E s1:=by
  intro c1 vs s1 l1 R1 K1 a1;refine IZ hk pos A c1 s1 env hA (hE.mono l1 (ab _)) R1 _ _ λc2 ks s2 l2 R2 K2 a2=> ?_;have hl: ↑ks= ↑OM:=by rw[↑a2,aw]
  refine hQ c2 vs _ s2 (l1.trans l2 (ab _)) R2 (K1.trans K2) (a1.mono l2 (ab _)) ?_ ?_
  ·rw[FJ,k9 (by rw[aw];simp_all)]
  ·rw[FJ,nJ (by rw[aw];simp_all)];exact a2
 induction h with
 |nil=>exact evalArgs_kw_nil C4 (fin c [] s (.refl ..) R (.refl _) .nil)
 | @cons e rest d ds h1 h2 hn=>have Zu:=mH (.cons h1 h2 hn) pos A c s env hA hE R;rw[gz hn]at Zu⊢;exact lD C4 (Zu _ _ λc1 vs s1 l1 R1 K1 a1=>fin c1 vs s1 l1 R1 K1 a1)
def Ev.md (hr:r∈fW)
  (hf:nL S k O ae (.Name f np) (.con (.ref r.addr))) (ha:ck S k O ae args ds) (hk:pe S k O ae zW OM) (hc:dy S k O (.pv (.con (.ref r.addr))) ds OM d bv):
  Ev S k O ae (.Call (.Name f np) args zW pos) d bv:=by
 refine⟨hc.len,?_⟩;intro A c s env hA hE R E Q hQ;refine cn (hf.run A c s env hA hE R _ _ λc1 v1 s1 l1 R1 K1 a1=> ?_);have e:=a1.dn;subst e;left;let ⟨o,pm,ho,_,hd,_⟩:=R1.fn hr;right;refine fI (o:=o) (fd:=r.fd pm) ?_;refine nk ha hk _ pos A c1 s1 env hA (hE.mono l1 (ab _)) R1 _ _ λc2 vs kvs s2 l2 R2 K2 a2 k2 b2=> ?_;left;let ⟨o',pm',se,_,AB,_⟩:=R2.fn hr;right;refine⟨⟨?_,hd⟩,?_⟩
 ·rw[se];congr 1;have e1:=R1.frozen;let ⟨FK,agd,h0,_,_,_⟩:=S.fns r hr;have oS:∀q∈cm,r.addr≠q.2:=by
   have:∀r∈fW,∀q∈cm,r.addr≠q.2:=by decide
   exact this r hr
  rw[(R1.old h0 oS)]at ho;rw[(R2.old h0 oS)]at se;rw[<- ag ho,<- ag se]
 ·exact hc.run A c2 s2 _ vs kvs hA R2 (.pv (.con _)) a2 k2 b2 E Q λc3 v3 s3 l3 R3 K3 a3=>hQ c3 v3 s3 ((l1.trans l2 (ab _)).trans l3 (ab _)) R3 ((K1.trans K2).trans K3) a3
inductive IsL (O:List AO):AV->List PV->Prop
 |val {l:List PV}:IsL O (.pv (.lst l)) l
 |fM {i:Nat} {l:List PV}:O[i]? =aa (.list l)->IsL O (.fM i) l
def IsL.at (hl:IsL O d l) (R:Rel S c O h) (hv:cU S.w c ↑O v d):
  ∃a vs n,v= .ref a/\h.get? a=aa {cls:= .type "list",data:= .seq vs n}/\vs.size= ↑l/\∀(i:Nat) (u:Value) (x:PV),vs[i]? =aa u->l[i]? =aa x->dk S.w c.F u x:=by
 induction hl with
 |val=>let ⟨_,_,_,rfl,a,b,d⟩:=hv.gi.ym;exact⟨_,_,_,rfl,R.frozen _ _ a,b,d⟩
 |fM hi=>let ⟨rfl,_⟩:=hv.zN;let ⟨o,ho,hr⟩:=R.own _ _ hi;let ⟨_,_,rfl,a,b⟩:=hr.zb;exact⟨_,_,_,rfl,ho,a,b⟩
def IsL.isList {h:iR} (e:h.get? a=aa {cls:= .type "list",data:= .seq vs n}):h.IsList a vs:=⟨_,e,rfl,_,rfl⟩
def uj {vs:Array α} {l:List β} (h:vs.size= ↑l) {i:Nat} (hx:l[i]? =aa x):∃u,vs[i]? =aa u:=by
 have:i< ↑l:=by
  rcases bS i ↑l with h|h
  ·exact h
  ·rw[bC h]at hx;nomatch hx
 exact⟨vs[i]'(by simp_all),by simp[h,this]⟩
structure zd (S:cz) (k:Nat) (O:List AO) (id:String) (ds:List AV) (d:AV) (bv:List AO):Prop where
 len: ↑O<= ↑bv
 run:∀A c s vs,jG k A->Rel S c O s.heap->dg S.w c ↑O vs ds->Tr S O A c s (call (.builtin id) vs) d bv
def ef (h:ck S k O ae args ds) (f:Value) (pos:Pos) (A:cS) (c:aM) (s:bb) (env:lY)
  (hA:jG k A) (hE:cY c ↑O ae env) (R:Rel S c O s.heap) (E:VS) (Q:Args->bb->Prop)
  (hQ:∀c' vs s',aM.le ↑O c c'->Rel S c' O s'.heap->dY s s'->dg S.w c' ↑O vs ds->Q ⟨vs,[]⟩ s'):
  wpAny (MM S.w) A (evalArgs f true (backTo pos (starEach args env)) []) Q E s:=
 nk h .nil f pos A c s env hA hE R E Q λc1 vs kvs s1 l1 R1 K1 a1 k1 q=>by
  have e:kvs=[]:=by induction kvs with|nil=>rfl|cons _ _=>cases k1
  subst e;exact hQ c1 vs s1 l1 R1 K1 a1
def noStar (h:ck S k O ae args ds) (pos:Pos) (env:lY):(backTo pos (starEach args env)).any (·.1)=false:=by
 induction h with
 |nil=>rfl
 |cons _ _ hn ih=>rw[gz hn];exact vA.mpr ⟨rfl,ih⟩
def Ev.wW {id:String}
  (hf:nL S k O ae (.Name f np) (.con (.builtin id))) (ha:ck S k O ae args ds) (hc:zd S k O id ds d bv):Ev S k O ae (.Call (.Name f np) args [] pos) d bv:=by
 refine⟨hc.len,?_⟩;intro A c s env hA hE R E Q hQ;refine cn (hf.run A c s env hA hE R _ _ λc1 v1 s1 l1 R1 K1 a1=> ?_);have e:=a1.dn;subst e;refine cX (noStar ha pos env) ?_;refine ef ha _ pos A c1 s1 env hA (hE.mono l1 (ab _)) R1 _ _ λc2 vs s2 l2 R2 K2 a2=> ?_;exact hc.run A c2 s2 vs hA R2 a2 E Q λc3 v3 s3 l3 R3 K3 a3=>hQ c3 v3 s3 ((l1.trans l2 (ab _)).trans l3 (ab _)) R3 ((K1.trans K2).trans K3) a3
def zd.len_list (hl:IsL O d l) (Kl:(↑l:Int)<2 ^ 63):zd S k O "len" [d] (.pv (.int ↑l)) O:=by refine⟨ab _,?_⟩;intro A c s vs hA R ha E Q hQ;let ⟨_,_,rfl,a,b⟩:=ha.i1;obtain rfl:=b.i0;let ⟨a,vs,n,rfl,ho,hs,_⟩:=hl.at R a;exact Calls.call_len_list (IsL.isList ho) (by rw[hs];exact Kl) (by rw[hs];exact hQ c _ _ (.refl ..) R (.toks ..) (.pv (.int ..)))
def Ev.item_list (h1:Ev S k O ae o d O) (hl:IsL O d l) (h2:nL S k O ae i (.int n)) (h0:0<=n) (Kl:n<2 ^ 63) (hx:l[n.toNat]? =aa x)
  (hs:∀a m u,subscripted i false (.ref a) (.int m u)=operate [.ref a,.int m u] (getItem (.ref a) (.int m u))):nL S k O ae (.Subscript o i pos) x:=by
 refine⟨ab _,?_⟩;intro A c s env hA hE R E Q hQ;refine pP (h1.run A c s env hA hE R _ _ λc1 v1 s1 l1 R1 K1 a1=>h2.run A c1 s1 env hA (hE.mono l1 (ab _)) R1 _ _ λc2 v2 s2 l2 R2 K2 a2=> ?_);left;let ⟨_,rfl⟩:=a2.gi.kK;let ⟨a,vs,m,rfl,ho,qf,hr⟩:=hl.at R2 (a1.mono l2 (ab _));let ⟨u,hu⟩:=uj qf hx;right;refine lT (T:= "list") ⟨_,ho,rfl⟩ Dc.lookup (wpAny_getItem_list (IsL.isList ho) h0 Kl hu ?_) (hs _ _ _);exact hQ c2 u s2 (l1.trans l2 (ab _)) R2 (K1.trans K2) (.pv (hr _ _ _ hu hx))
def WT.ahA (a:Int):WT .Is (.int a) PV.none false:=by intro S k O A c s u v hA R h1 h2 E Q hQ;let ⟨_,rfl⟩:=h1.kK;obtain rfl:=h2.IX;exact nU rfl (hQ c _ _ (.refl ..) R (.refl ..) (.pv (.con ..)))
def WT.ahB:WT .Is PV.none PV.none true:=by intro S k O A c s u v hA R h1 h2 E Q hQ;obtain rfl:=h1.IX;obtain rfl:=h2.IX;exact nU rfl (hQ c _ _ (.refl ..) R (.refl ..) (.pv (.con ..)))
def pT (sc:Scope) (l:List Str):Prop:=∀x∈l,sc.names.lookup x=aa .local
def me (sc:Scope) (l:List Str):Prop:=∀x∈l,sc.names.lookup x=aa .globalImplicit
def pT.of (h:(l.all λx=>sc.names.lookup x==aa .local)=true):pT sc l:=λx hx=>beq_iff_eq.mp (fH.mp h x hx)
def me.of (h:(l.all λx=>sc.names.lookup x==aa .globalImplicit)=true):me sc l:=λx hx=>beq_iff_eq.mp (fH.mp h x hx)
def yn (h:l[j]? =aa x):(O++l)[↑O+j]? =aa x:=by rw[aE (bh ..),bP];exact h
def gA {i:Nat} (h:O[i]? =aa x):(O++l)[i]? =aa x:=by
 rw[aW]
 ·exact h
 ·rcases bS i ↑O with h'|h'
  ·exact h'
  ·rw[bC h']at h;nomatch h
inductive MN (x:AO):Nat->List AO->List AO->Prop
 |zero {a:AO} {r:List AO}:MN x 0 (a::r) (x::r)
 |succ {n:Nat} {a:AO} {r r':List AO}:MN x n r r'->MN x (n+1) (a::r) (a::r')
def MN.eq (h:MN x n l l'):l.set n x=l':=by
 induction h with
 |zero=>rfl
 |succ _ ih=>rw[OY,ih]
def Lj (h:MN x j l l'):(O++l).set (↑O+j) x=O++l':=by rw[j7 _ _ (bh ..),bP,h.eq]
def Ev.loc (hk:pT sc l) (hs:ae.scope=sc) (hx:x∈l) (hm:O[ae.fi]? =aa (.ns m)) (hd:(x,aa d)∈m)
  (hdb:(x==("__debug__" :Str))=false):Ev S k O ae (.Name x pos) d O:=Ev.rJ hm (hs▸hk x hx) hd hdb
def j4.AU (hk:pT sc l) (hs:ae.scope=sc) (hx:x∈l) (hm:O[ae.fi]? =aa (.ns m)) (h:iU x d m m') (H5:O.set ae.fi (.ns m')=bv):
  j4 S O ae x d bv:=j4.loc hm (hs▸hk x hx) h H5
def Ev.ane (hk:me sc l) (hs:ae.scope=sc) (hx:x∈l) (hg:(x,ac)∈cg) (hb:(x,aa v)∈ly) (hdb:(x==("__debug__" :Str))=false):
  nL S k O ae (.Name x pos) (.con v):=Ev.Gr (hs▸hk x hx) hg hb hdb
def Ev.CL (hk:me sc l) (hs:ae.scope=sc) (hx:x∈l) (hg:(x,aa v)∈cg) (hdb:(x==("__debug__" :Str))=false):
  nL S k O ae (.Name x pos) (.con v):=Ev.ui (hs▸hk x hx) hg hdb
noncomputable abbrev sA:Str:=ah "a"
noncomputable abbrev sX:Str:=ah "x"
noncomputable abbrev oV:Str:=ah "lo"
noncomputable abbrev oW:Str:=ah "hi"
noncomputable abbrev gp:Str:=ah "key"
noncomputable abbrev sT:Str:=ah "mid"
noncomputable abbrev afi:Str:=ah "len"
def iX.ift (h1:oA S k O ae test true) (h2:cH S k O ae body f bw):iX S k O ae (.If test body orelse pos) f bw:=iX.if h1 h2
def iX.iff (h1:oA S k O ae test false) (h2:cH S k O ae orelse f bw):iX S k O ae (.If test body orelse pos) f bw:=iX.if h1 h2
def ww (s : String) : wS := wn `PyProof.Rows.tacticWalk_at_ [wx, Lean.Syntax.mkStrLit s]
def wt (s : String) : wS := wf ((s.splitOn "; ").map λe => (e.splitOn " ").map λx =>
  if x.length == 1 then ww x else if x.front == '@' then wp "apply" [wi (x.drop 1).toString] else wp "withReducible" [ws [wp "apply" [wi x]]])
local macro_rules (kind := PyProof.Rows.tacticWalk_at_)
  | s =>
  let t := match s[1].isStrLit?.getD "" with
    | "a" => "List.mem_cons_self; List.mem_cons_of_mem a"
    | "c" => "iU.here; iU.there c"
    | "e" => "@yn Q; @yn R; @gA A; A; R"
    | "d" => "@Lj n; @MN.eq n"
    | "n" => "@MN.zero; @MN.succ n"
    | "b" => "Ev.item_list b q b @Int.natCast_nonneg @bq4 A A A A I; Ev.int; Ev.none; Ev.str; Ev.loc A R a e a K; Ev.ane A R a G B K; Ev.WS b b r"
    | "r" => "ML.mid; ML.anc; ML.subI; ML.floordivI D @PyProof.noPylong_small O"
    | "m" => "WT.ltI; WT.ahA; WT.ahB"
    | "i" => "oA.compare b b m R"
    | "k" => "R; A; @decide_eq_true O"
    | "o" => "R; A; @decide_eq_false O"
    | "g" => "@iX.ift @oA.to i k"
    | "f" => "@iX.iff @oA.to i o"
    | "l" => "iX.assign b @j4.AU A R a e c d I"
    | "s" => "l; g h; f h"
    | "h" => "@cH.nil; @cH.cons s h; @cH.ret @iX.return b"
    | "q" => "IsL.val; A; @IsL.CA A; @IsL.fM e"
    | "x" => "@jX.nil; @jX.cons @j4.AU A R a e c d x"
    | x => x
  match t with
  | "A" => pure (wp "assumption" [])
  | "R" => pure (wp "tacticRfl" [])
  | "Q" => pure (wp "withReducible" [ws [wp "tacticRfl" []]])
  | "K" => pure (wn `tacticKernel_rfl [wx])
  | "D" => pure (wp "decide" [wn (wN "optConfig") [wl []]])
  | "O" => pure (wp "omega" [wn (wN "optConfig") [wl []]])
  | "I" => pure (wq [wp "intros" [wl []], wp "tacticRfl" []])
  | "G" => pure (wq [wp "unfold" [wl [wi "Mine.cg"], wl []], ww "a"])
  | "B" => pure (wq [wp "unfold" [wl [wi "Mine.ly"], wl []], ww "a"])
  | _ => if t.length < 4 then Lean.Macro.throwUnsupported else pure (wt t)
def rB:eg:=fj
def sU:pT rB.scope [sA,sX,oV,oW,gp,sT]:=pT.of tt
def Gu:me rB.scope [afi]:=me.of tt
abbrev CM (a x:AV) (lo hi:Int) (key:AV) (mid:Option AV):List (Str×Option AV):=
 [(sA,aa a),(sX,aa x),(oV,aa (.pv (.int lo))),(oW,aa (.pv (.int hi))),(gp,aa key),(sT,mid)]
def IsL.CA (h:IsL O d l):IsL (O++τ) d l:=by
 induction h with
 |val=>exact .val
 |fM h=>exact .fM (gA h)
def bq4 {n:Nat} (h:n<2 ^ 30) (h1:lo<hi) (h2:hi<=n):(((lo+hi)/2:Nat):Int)<2 ^ 63:=
 jp (cD.mpr (iL (IU h1 h2) h)) (by decide:((2 ^ 30:Nat):Int)<2 ^ 63)
noncomputable def pf (p:Nat->Bool):Nat->Nat->Nat->Option AV->Nat×Nat×Option AV
 |0,lo,hi,m=>(lo,hi,m)
 |n+1,lo,hi,m=>if lo<hi then(if p ((lo+hi)/2) then pf p n ((lo+hi)/2+1) hi (aa (.pv (.int ((lo+hi)/2:Nat)))) else pf p n lo ((lo+hi)/2) (aa (.pv (.int ((lo+hi)/2:Nat))))) else(lo,hi,m)
def Ey:pf p (n+1) lo hi m=if lo<hi then(if p ((lo+hi)/2) then pf p n ((lo+hi)/2+1) hi (aa (.pv (.int ((lo+hi)/2:Nat)))) else pf p n lo ((lo+hi)/2) (aa (.pv (.int ((lo+hi)/2:Nat))))) else(lo,hi,m):=rfl
def afj (lo hi:Nat):((lo:Int)+(hi:Int)).fdiv 2=(((lo+hi)/2:Nat):Int):=by rw[F6 _ ∅];rfl
def ML.mid (lo hi:Nat):ML (binaryOp .FloorDiv) (.int ((lo:Int)+(hi:Int))) (.int 2) (.int ((lo+hi)/2:Nat)):=
 afj lo hi▸ML.afg _ _ ∅ (F1 (gR _ _))
def Lk {lo hi n:Nat} (h1:hi- lo<=n+1) (h:lo<hi):hi- ((lo+hi)/2+1)<=n:=by have hm:lo<=(lo+hi)/2:=(MC Nat.two_pos).mpr (by rw[Nat.mul_two];exact dW (ce h) lo);refine km.mpr (aA (km.mp h1) ?_);rw[iO,ue 1];exact dW (Cu hm) n
def Ll {lo hi n:Nat} (h1:hi- lo<=n+1) (h:lo<hi):(lo+hi)/2- lo<=n:=by have hm:(lo+hi)/2<hi:=wk (by rw[CG];exact OC h hi);refine km.mpr (mS (aA hm ?_));have:=km.mp h1;rwa [yZ]at this
def wX (p : Nat → Bool)
    (ht : ∀ (lo hi : Nat) mid, oA S k (O ++ [AO.ns (CM a x lo hi key mid)]) ae test (decide ((lo : Int) < (hi : Int))))
    (hb : ∀ (lo hi : Nat) mid, lo < hi → hi ≤ N → cH S k (O ++ [AO.ns (CM a x lo hi key mid)]) ae body .next
      (if p ((lo + hi) / 2) then O ++ [AO.ns (CM a x (((lo + hi) / 2 : Nat) + 1 : Int) hi key (aa (.pv (.int ((lo + hi) / 2 : Nat)))))] else O ++ [AO.ns (CM a x lo ((lo + hi) / 2 : Nat) key (aa (.pv (.int ((lo + hi) / 2 : Nat)))))])) :
    ∀ (n lo hi : Nat) mid, hi - lo ≤ n → hi ≤ N → Ti S k ae test body (O ++ [AO.ns (CM a x lo hi key mid)]) .next (O ++ [AO.ns (CM a x (pf p n lo hi mid).1 (pf p n lo hi mid).2.1 key (pf p n lo hi mid).2.2)]) := by
  intro n; induction n with
  | zero => intro lo hi mid h1 h2; have : decide ((lo : Int) < (hi : Int)) = false := decide_eq_false (om8 h1); exact .done (this ▸ ht lo hi mid)
  | succ n ih =>
    intro lo hi mid h1 h2; rw [Ey]; by_cases h : lo < hi
    · rw [if_pos h]; have hd : decide ((lo : Int) < (hi : Int)) = true := decide_eq_true (om9 h); have uU := hb lo hi mid h h2; cases hp : p ((lo + hi) / 2) with
      | true => rw [hp, if_pos rfl] at uU; rw [if_pos rfl]; exact .turn (hd ▸ ht lo hi mid) uU (ih ((lo + hi) / 2 + 1) hi (aa (.pv (.int ((lo + hi) / 2 : Nat)))) (Lk h1 h) h2)
      | false => rw [hp, if_neg bG] at uU; rw [if_neg bG]; exact .turn (hd ▸ ht lo hi mid) uU (ih lo ((lo + hi) / 2) (aa (.pv (.int ((lo + hi) / 2 : Nat)))) (Ll h1 h) (aaQ h h2))
    · rw [if_neg h]; exact .done ((decide_eq_false (aip h)) ▸ ht lo hi mid)
def Lm:Option Nat->PV
 |some h=> .int h
 |ac=>PV.none
def MO {ns:List Int} {lo:Nat} (hl:IsL O d (ns.map PV.int)) (hn: ↑ns<2 ^ 30) (Ec:lo<= ↑ns) (H7:∀h,hi=aa h->h<= ↑ns):
  ∃τ,cH S k (O++[.ns [(sA,aa d),(sX,aa (.pv (.int x))),(oV,aa (.pv (.int lo))),(oW,aa (.pv (Lm hi))),(gp,aa (.pv PV.none)),(sT,ac)]])
   (rB.env (↑O+0)) rB.body (.ret (.pv (.int (pf (λm=>decide (ns.getD m 0<x)) ↑ns lo (hi.getD ↑ns) ac).1))) (O++τ):=by
 have h1:=sU;have h2:=Gu;apply fY;apply cH.cons
 ·walk_at "f";exact cH.nil
 apply cH.cons (bw:=O++[.ns (CM d (.pv (.int x)) lo (hi.getD ↑ns:Nat) (.pv PV.none) ac)])
 ·induction hi with
  |none=>
   dsimp only[Lm];walk_at "g";apply cH.cons
   ·apply iX.assign
    ·apply Ev.wW
     ·walk_at "b"
     ·apply ck.cons
      ·walk_at "b"
      ·exact .nil
      ·rfl
     ·apply zd.len_list (l:=ns.map PV.int)
      ·cases hl with
       |val=>exact .val
       |fM h=>exact .fM (gA h)
      ·rw[aw];exact aaR hn
    ·apply j4.AU h1
     ·rfl
     ·walk_at "a"
     ·walk_at "e"
     ·walk_at "c"
     ·walk_at "d"
    ·intro _ _;rfl
   ·rw[aw];exact cH.nil
  |some h=>dsimp only[Lm];walk_at "f";exact cH.nil
 have cI:∀i,i< ↑ns->(ns.map PV.int)[i]? =aa (.int (ns.getD i 0)):=by intro i hi;simp[hi]
 apply cH.cons
 ·walk_at "g";apply cH.cons
  ·apply iX.Lf;apply wX (p:=λm=>decide (ns.getD m 0<x)) (N:= ↑ns) (n:= ↑ns)
   ·intro lo hi mid;walk_at "i"
   ·intro lo hi mid h3 h4;have hm:=cI ((lo+hi)/2) (IU h3 h4);apply cH.cons
    ·walk_at "l"
    cases hc:decide (ns.getD ((lo+hi)/2) 0<x)with
    |true=>
     rw[if_pos rfl];apply cH.cons
     ·walk_at "g";walk_at "h"
     ·exact cH.nil
    |false=>
     rw[if_neg bG];apply cH.cons
     ·walk_at "f";walk_at "h"
     ·exact cH.nil
   ·induction hi with
    |none=>simp
    |some h=>have:=H7 h rfl;simp;exact MF this
   ·induction hi with
    |none=>simp
    |some h=>have:=H7 h rfl;simpa using this
  ·exact cH.nil
 walk_at "h"
noncomputable def sr {α β:Type} (f:α->β->Option Bool):List α->List β->Option Bool
 | [],_=>aa true
 |_::_,[]=>aa true
 |a::l,b::m=>(f a b).bind λx=>(sr f l m).map (x&& ·)
noncomputable def PV.Ez:Nat->PV->PV->Option Bool
 |0,_,_=>ac
 |n+1,.int a,.int b=>aa (a==b)
 |n+1,.str a,.str b=>aa (a==b)
 |n+1,.tup l,.tup m=>(sr (PV.Ez n) l m).map λr=>r&& ↑l== ↑m
 |n+1,.lst l,.lst m=>if ↑l= ↑m then sr (PV.Ez n) l m else aa false
 |_,_,_=>ac
noncomputable def at2 {α β:Type} (f:α->β->Option Bool) (l:List α) (m:List β) (j:Nat):Bool:=
 match l[j]?,m[j]? with
 |some a,aa b=>(f a b).getD true
 |_,_=>true
def AW {l:List α}:∀ {m:List β} {r:Bool},sr f l m=aa r->
  (∀j (h1:j< ↑l) (h2:j< ↑m),∃x,f l[j] m[j]=aa x)/\r=(cK (min ↑l ↑m)).all (at2 f l m):=by
 induction l with
 |nil=>intro m r h;obtain rfl:=ag h;exact⟨λj h1=>absurd h1 (iy _),by rw[lW,Nat.zero_min];rfl⟩
 |cons a l ih=>
  intro m r h;cases m with
  |nil=>obtain rfl:=ag h;exact⟨λj z h2=>absurd h2 (iy _),rfl⟩
  |cons b m=>
   refine a9 h λx h1 h=> ?_;let ⟨y,h2,rfl⟩:=ar.mp h;let ⟨p,q⟩:=ih h2;refine⟨λj j1 j2=> ?_,?_⟩
   ·induction j with
    |zero=>exact⟨x,h1⟩
    |succ j=>exact p j (ud j1) (ud j2)
   ·rw[az,az,Nat.add_min_add_right,List.range_succ_eq_map,List.all_cons,List.all_map,q,show at2 f (a::l) (b::m) 0=x by show(f a b).getD true=x;rw[h1];rfl];rfl
def PF (h1:j< ↑l) (h2:j< ↑m):at2 f l m j=(f l[j] m[j]).getD true:=by unfold at2;rw[aq h1,aq h2]
def dk.V5 {vs:Array Value} {l:List PV} (h:vs.size= ↑l) (hr:∀(i:Nat) (v:Value) (d:PV),vs[i]? =aa v->l[i]? =aa d->dk w F v d) (h1:j<vs.size) (h2:j< ↑l):dk w F vs[j] l[j]:=
 hr j _ _ (by simp[h1]) (by simp[h2])
inductive MP (n:Nat):PV->PV->Bool->Prop
 |int (a b:Int):MP n (.int a) (.int b) (a==b)
 |str (a b:Str):MP n (.str a) (.str b) (a==b)
 |tup {l m:List PV} {r:Bool} (h:sr (PV.Ez n) l m=aa r):MP n (.tup l) (.tup m) (r&& ↑l== ↑m)
 |lst {l m:List PV} {r:Bool} (hl: ↑l= ↑m) (h:sr (PV.Ez n) l m=aa r):MP n (.lst l) (.lst m) r
 |ne {l m:List PV} (hl:¬ ↑l= ↑m):MP n (.lst l) (.lst m) false
def Ln (h:PV.Ez (n+1) d d'=aa e):MP n d d' e:=by
 cases d with
 |int a=>cases d' with
  |int b=>obtain rfl:=ag h;exact .int ..
  |_=>exact gq h
 |str a=>cases d' with
  |str b=>obtain rfl:=ag h;exact .str ..
  |_=>exact gq h
 |tup l=>cases d' with
  |tup m=>let ⟨r,hr,rfl⟩:=ar.mp h;exact .tup hr
  |_=>exact gq h
 |lst l=>cases d' with
  |lst m=>
   by_cases hl: ↑l= ↑m
   ·exact .lst hl ((if_pos hl).symm.trans h)
   ·obtain rfl:=ag ((if_neg hl).symm.trans h);exact .ne hl
  |_=>exact gq h
 |_=>exact gq h
def PG:∀(n:Nat) (d d':PV) (v:Value) (e:Bool),PV.Ez n d d'=aa e->dk w F v d->dk w F v d'->e=true:=by
 intro n;induction n with
 |zero=>exact λd d' v e h=>gq h
 |succ n ih=>
  intro d d' v e h h1 h2;have loop:∀(vs:Array Value) (l m:List PV),vs.size= ↑l->vs.size= ↑m->(∀(i:Nat) (v:Value) (d:PV),vs[i]? =aa v->l[i]? =aa d->dk w F v d)->
    (∀(i:Nat) (v:Value) (d:PV),vs[i]? =aa v->m[i]? =aa d->dk w F v d)->∀r,sr (PV.Ez n) l m=aa r->r=true:=by
   intro vs l m e1 e2 k1 k2 r hr;let ⟨p,q⟩:=AW hr;rw[q,fH];intro j hj;rw[dK]at hj;have j1:j< ↑l:=a8 hj (j6 ..);have j2:j< ↑m:=a8 hj (Cw ..);rw[PF j1 j2];let ⟨x,hx⟩:=p j j1 j2;rw[hx];exact ih _ _ _ _ hx (dk.V5 e1 k1 (e1▸j1) j1) (dk.V5 e2 k2 (e2▸j2) j2)
  cases Ln h with
  |int=>let ⟨_,rfl⟩:=h1.kK;let ⟨_,h⟩:=h2.kK;injection h with h;exact beq_iff_eq.mpr h
  |str=>let ⟨_,rfl⟩:=h1.mG;let ⟨_,h⟩:=h2.mG;injection h with h;exact beq_iff_eq.mpr h
  |tup hr=>let ⟨x,vs,c,rfl,a,b,k⟩:=h1.Eu;let ⟨y,us,c',e,a',b',k'⟩:=h2.Eu;injection e with e;subst e;rw[a]at a';injection ag a' with _ _ a';injection a' with a';subst a';rw[loop _ _ _ b b' k k' _ hr];simp[<- b,<- b']
  |lst _ hr=>let ⟨x,vs,c,rfl,a,b,k⟩:=h1.ym;let ⟨y,us,c',e,a',b',k'⟩:=h2.ym;injection e with e;subst e;rw[a]at a';injection ag a' with _ _ a';injection a' with a';subst a';exact loop _ _ _ b b' k k' _ hr
  |ne hl=>let ⟨x,vs,c,rfl,a,b,k⟩:=h1.ym;let ⟨y,us,c',e,a',b',k'⟩:=h2.ym;injection e with e;subst e;rw[a]at a';injection ag a' with _ _ a';injection a' with a';subst a';exact absurd (b.symm.trans b') hl
def I0 {A:cS}
  (ih:∀(d d':PV) (v v':Value) (e:Bool) (A:cS),PV.Ez n d d'=aa e->dk w F v d->dk w F v' d'->A.units+n<cLine->yd A s v v' e)
  {vs us:Array Value} (e1:vs.size= ↑l) (e2:us.size= ↑m) (k1:∀(i:Nat) (v:Value) (d:PV),vs[i]? =aa v->l[i]? =aa d->dk w F v d)
  (k2:∀(i:Nat) (v:Value) (d:PV),us[i]? =aa v->m[i]? =aa d->dk w F v d) (hr:sr (PV.Ez n) l m=aa r) (hA:A.units+(n+1)<cLine):
  ∃f:Nat->Bool,r=(cK (min vs.size us.size)).all f/\∀j (h1:j<vs.size) (h2:j<us.size),yd A.in1 s vs[j] us[j] (f j):=by
 let ⟨p,q⟩:=AW hr;refine⟨_,by rw[e1,e2];exact q,λj h1 h2=> ?_⟩;have j1:j< ↑l:=by exact IV h1 e1
 have j2:j< ↑m:=by exact IV h2 e2
 rw[PF j1 j2];let ⟨x,hx⟩:=p j j1 j2;rw[hx];exact ih _ _ _ _ _ _ hx (dk.V5 e1 k1 h1 j1) (dk.V5 e2 k2 h2 j2) (by show A.units+1+n<cLine;exact aiq hA)
def Yh (hF:∀a o,F a=aa o->s.heap.get? a=aa o):∀(n:Nat) (d d':PV) (v v':Value) (e:Bool) (A:cS),PV.Ez n d d'=aa e->dk w F v d->dk w F v' d'->
  A.units+n<cLine->yd A s v v' e:=by
 intro n;induction n with
 |zero=>exact λd d' v v' e A h=>gq h
 |succ n ih=>
  intro d d' v v' e A h h1 h2 hA;have hs:=λx (e1:v=x) (e2:v'=x)=>PG (n+1) d d' x e h (e1▸h1) (e2▸h2);cases Ln h with
  |int=>let ⟨_,rfl⟩:=h1.kK;let ⟨_,rfl⟩:=h2.kK;exact SeqAt.EqAt.int_int _ _ _ _
  |str=>let ⟨_,rfl⟩:=h1.mG;let ⟨_,rfl⟩:=h2.mG;exact Gh _ _ _ _
  |tup hr=>
   let ⟨x,vs,c,rfl,a,b,k⟩:=h1.Eu;let ⟨y,us,c',rfl,a',b',k'⟩:=h2.Eu;by_cases Xh:x=y
   ·subst Xh;rw[hs _ rfl rfl];exact yi _
   ·let ⟨f,hf,hj⟩:=I0 ih b b' k k' hr hA;have:=SeqAt.RcAt.tuples (A:=A) (s:=s) ⟨_,hF _ _ a,rfl,_,rfl⟩ ⟨_,hF _ _ a',rfl,_,rfl⟩ (X0 hA) hj;rw[<- hf,b,b']at this;exact uO Xh this
  |lst cI hr=>
   let ⟨x,vs,c,rfl,a,b,k⟩:=h1.ym;let ⟨y,us,c',rfl,a',b',k'⟩:=h2.ym;by_cases Xh:x=y
   ·subst Xh;rw[hs _ rfl rfl];exact yi _
   ·let ⟨f,hf,hj⟩:=I0 ih b b' k k' hr hA;have hsz:vs.size=us.size:=by exact aaS b b' cI
    have:=IL (A:=A) (s:=s) ⟨_,hF _ _ a,rfl,_,rfl⟩ ⟨_,hF _ _ a',rfl,_,rfl⟩ hsz (X0 hA) hj;rw[<- hsz,Nat.min_self]at hf;rw[<- hf]at this;exact uO Xh this
  |ne cI=>
   let ⟨x,vs,c,rfl,a,b,k⟩:=h1.ym;let ⟨y,us,c',rfl,a',b',k'⟩:=h2.ym;by_cases Xh:x=y
   ·subst Xh;rw[hs _ rfl rfl];exact yi _
   ·exact uO Xh (AE (A:=A) (s:=s) ⟨_,hF _ _ a,rfl,_,rfl⟩ ⟨_,hF _ _ a',rfl,_,rfl⟩ (by simp;exact X1 b b' cI) (X0 hA))
noncomputable def small (a:Int):Bool:=decide (-(2 ^ 40)<a)&&decide (a<2 ^ 40)
noncomputable def AX (a:Int):Bool:=decide (-(2 ^ 29)<a)&&decide (a<2 ^ 29)
noncomputable def fz (n:Nat):Option PV:=KJ (aa (.fE (.ofNat 0))) (λn q=>aa (.fE (.ofNat (F2 n)))) n
noncomputable def ff (u:UInt64):Option PV:=fz u.toNat
def Lo (u:UInt64):ff u=aa (.fE u):=by unfold ff;rw[show fz u.toNat=aa (.fE (.ofNat u.toNat)) from KJ rfl (λq q=>rfl) u.toNat,UInt64.ofNat_toNat]
def I1 (h:ff u=aa d):PV.fE u=d:=ag ((Lo u).symm.trans h)
def AY [Decidable p] (h:(if p then ff u else ac)=aa d):p/\PV.fE u=d:=dS (Lo u▸h)
def Gv [Decidable p] (h:(if p then ac else ff u)=aa d):¬p/\PV.fE u=d:=Le (Lo u▸h)
noncomputable def mf (a b:Int):UInt64:=Em (decide (a<0) !=decide (b<0)) a.natAbs b.natAbs
def afk (op:mx) (a b:Int):Option PV:=match op with
 | .Add=>aa (.int (a+b))
 | .Sub=>aa (.int (a- b))
 | .Mult=>if small a then aa (.int (a*b)) else ac
 | .FloorDiv=>if b≠0/\AX a=true/\AX b=true then aa (.int (a.fdiv b)) else ac
 | .Mod=>if b≠0 then aa (.int (a.fmod b)) else ac
 | .Div=>if b≠0/\AX a=true/\nh (mf a b)=false then ff (mf a b) else ac
 |_=>ac
def afl (op:mx) (a b:UInt64):Option PV:=match op with
 | .Add=>ff (TN a b)
 | .Sub=>ff (XY a b)
 | .Mult=>ff (XT a b)
 | .Div=>if Cr b then ac else ff (aaN a b)
 | .Mod=>if Cr b then ac else ff (XX a b)
 |_=>ac
noncomputable def MQ (b:Int):UInt64:=Em (decide (b<0)) b.natAbs 1
def z7 (b:Int):MQ b=Df b:=by unfold MQ Df;rw[Dk]
def afm (op:mx) (a:UInt64) (b:Int):Option PV:=match op with
 | .Mult=>if AX b then ff (XT a (MQ b)) else ac
 | .Sub=>if AX b then ff (XY a (MQ b)) else ac
 |_=>ac
noncomputable def afn (op:mx) (a b:Str):Option PV:=match op with
 | .Add=>if ↑a+ ↑b<=sizeLine then aa (.str (a++b)) else ac
 |_=>ac
noncomputable def afo (op:mx) (a:Str) (b:Int):Option PV:=match op with
 | .Mult=>if ↑a=1/\0<=b/\b<=1000 then aa (.str (Txt.mul a b)) else ac
 |_=>ac
def AZ (op:mx) (x y:PV):Option PV:=match x with
 | .int a=>match y with
  | .int b=>afk op a b
  |_=>ac
 | .fE a=>match y with
  | .fE b=>afl op a b
  | .int b=>afm op a b
  |_=>ac
 | .str a=>match y with
  | .str b=>afn op a b
  | .int b=>afo op a b
  |_=>ac
 |_=>ac
def Gw (h:AX n=true):n.natAbs<2 ^ 29:=by
 have h:=dD.mp h;induction n with
 |ofNat n=>exact cD.mp (of_decide_eq_true h.2)
 |negSucc n=>exact cD.mp (Int.lt_of_neg_lt_neg (of_decide_eq_true h.1))
def yo (h:AX n=true):n.natAbs<2 ^ 1023:=iL (Gw h) (Nat.pow_lt_pow_right ∅ ∅)
section
variable {A:cS} {c:aM} {s:bb} {op:mx} {d:PV} {t t':Dd} {E Q:VS}
abbrev TrQ (S:cz) (O:List AO) (c:aM) (s:bb) (d:PV) (Q:VS):Prop:=∀v n,dk S.w c.F v d->Q v {s with toks:=n}
def T2 (h:afk op a b=aa d) (hA:jG k A) (hQ:TrQ S O c s d Q) (hm:binaryOp op (.int a t) (.int b t')=m):wpAny (MM S.w) A m Q E s:=by
 subst hm;induction op with
 |Add=>obtain rfl:=ag h;exact P.add_int (hQ _ _ (.int ..))
 |Sub=>obtain rfl:=ag h;exact P.sub_int (hQ _ _ (.int ..))
 |Mult=>let ⟨hs,rfl⟩:=dS h;refine P.mul_int (hQ _ _ (.int ..)) (IntMulOk.of_left (intBits_le_64 ?_ ?_))<;>(unfold small at hs;simp only[dj,decide_eq_true_eq]at hs;(first|exact air hs|exact ais hs))
 |FloorDiv=>let ⟨⟨hb,ha,uU⟩,rfl⟩:=dS h;exact yU hb (hQ _ _ (.int ..)) (.inl (F1 (iL (Gw uU) ∅)))
 |Mod=>let ⟨hs,rfl⟩:=dS h;exact PyProof.Rows.mod_int hs (hQ _ _ (.int ..))
 |Div=>let ⟨⟨hb,ha,hi⟩,rfl⟩:=AY h;unfold mf at hQ;rw[<- Dk]at hQ;exact Flt.div_ii_fits hA.hn (yo ha) (λe=>absurd e hb) λq q=>hQ _ _ (.fE ..)
 |_=>exfalso;exact zc h
def T3 (h:afl op a b=aa d) (hA:jG k A) (hQ:TrQ S O c s d Q) (hm:binaryOp op (.float a t) (.float b t')=m):wpAny (MM S.w) A m Q E s:=by
 subst hm;induction op with
 |Add=>obtain rfl:=I1 h;exact PyProof.Rows.add_float (En a b▸hQ _ _ (.fE ..))
 |Sub=>obtain rfl:=I1 h;exact PyProof.Rows.sub_float (KW a b▸hQ _ _ (.fE ..))
 |Mult=>obtain rfl:=I1 h;exact PyProof.Rows.mul_float (KS a b▸hQ _ _ (.fE ..))
 |Div=>let ⟨hs,rfl⟩:=Gv h;exact PyProof.Rows.truediv_float_or hA.hn (λe=>absurd e hs) λq=>TO a b▸hQ _ _ (.fE ..)
 |Mod=>let ⟨hs,rfl⟩:=Gv h;exact Flt.mod_ff hA.hn (λe=>absurd e hs) λq=>TP a b▸hQ _ _ (.fE ..)
 |_=>exfalso;exact zc h
def T4 (h:afm op a b=aa d) (hQ:TrQ S O c s d Q) (hm:binaryOp op (.float a t) (.int b t')=m):wpAny (MM S.w) A m Q E s:=by
 subst hm;induction op with
 |Mult=>let ⟨hs,rfl⟩:=AY h;exact PyProof.Rows.mul_fi_fits (yo hs) (KS a _▸z7 b▸hQ _ _ (.fE ..))
 |Sub=>let ⟨hs,rfl⟩:=AY h;exact PyProof.Rows.sub_fi_fits (yo hs) (KW a _▸z7 b▸hQ _ _ (.fE ..))
 |_=>exfalso;exact zc h
def T5 (h:afn op a b=aa d) (hQ:TrQ S O c s d Q) (hm:binaryOp op (.str a t) (.str b t')=m):wpAny (MM S.w) A m Q E s:=by
 subst hm;induction op with
 |Add=>let ⟨hs,rfl⟩:=dS h;exact SB.add (λt' tk=>hQ _ _ (.str ..)) hs
 |_=>exfalso;exact zc h
def T6 (h:afo op a b=aa d) (hQ:TrQ S O c s d Q) (hm:binaryOp op (.str a t) (.int b t')=m):wpAny (MM S.w) A m Q E s:=by
 subst hm;induction op with
 |Mult=>
  let ⟨⟨p,q,r⟩,rfl⟩:=dS h;refine SB.mul ⟨?_,λx y=> ?_,λx y=> ?_⟩ λt' tk=>hQ _ _ (.str ..)
  ·simp;exact ait q r
  ·rw[p];exact nX.mpr (dZ ∅ (Int.le_ediv_of_mul_le (nX.mp x) (dZ (Int.mul_le_mul_of_nonneg_left r ∅) ∅):(1000:Int)<=(2 ^ 63- 1)/_))
  ·rw[p];unfold cw;have:sizeLine=2 ^ 24:=rfl;simp;exact aiu r this
 |_=>exfalso;exact zc h
end
set_option maxHeartbeats 2000000 in
def PH (h:AZ op a b=aa d):ML (binaryOp op) a b d:=by
 intro S k O A c s u v hA R h1 h2 E Q hQ;have hq:TrQ S O c s d Q:=λv n hv=>hQ c v _ (.refl ..) R (.toks ..) (.pv hv);generalize hm:binaryOp op u v=m;cases a with
 |int x=>
  let ⟨_,rfl⟩:=h1.kK;cases b with
  |int y=>let ⟨_,rfl⟩:=h2.kK;delta AZ at h;dsimp only at h;exact T2 h hA hq hm
  |_=>exfalso;exact zc h
 |fE x=>
  let ⟨_,rfl⟩:=h1.Et;cases b with
  |fE y=>let ⟨_,rfl⟩:=h2.Et;delta AZ at h;dsimp only at h;exact T3 h hA hq hm
  |int y=>let ⟨_,rfl⟩:=h2.kK;delta AZ at h;dsimp only at h;exact T4 h hq hm
  |_=>exfalso;exact zc h
 |str x=>
  let ⟨_,rfl⟩:=h1.mG;cases b with
  |str y=>let ⟨_,rfl⟩:=h2.mG;delta AZ at h;dsimp only at h;exact T5 h hq hm
  |int y=>let ⟨_,rfl⟩:=h2.kK;delta AZ at h;dsimp only at h;exact T6 h hq hm
  |_=>exfalso;exact zc h
 |_=>exfalso;exact zc h
noncomputable def anyStr (x:Str):List PV->Option Bool
 | []=>aa false
 | .str y::l=>(anyStr x l).map ((y==x)|| ·)
 |_=>ac
def iI (l m:List PV):Option Bool:=if ↑l= ↑m then sr (PV.Ez 3) l m else aa false
def jG.I2 (hA:jG k A) (hn:n<=10):A.units+n<cLine:=by have:=hA.units;exact aiv this hn rfl
noncomputable def EA (x:Str):Value->Bool
 | .str y _=>y==x
 |_=>false
def Dp {l:List PV} {r:Bool} {vs:Vs} (h:anyStr x l=aa r) (hl: ↑vs= ↑l)
  (hr:∀(i:Nat) (v:Value) (d:PV),vs[i]? =aa v->l[i]? =aa d->dk w F v d):r=vs.any (EA x)/\∀y∈vs,yd A s y (.str x t) (EA x y):=by
 replace hl:=Th.of hl;induction hl generalizing r with
 |nil=>obtain rfl:=ag h;exact⟨rfl,λy hy=>nomatch hy⟩
 |cons u d _ ih=>
  cases d with
  |str y=>
   let ⟨r',Xi,rfl⟩:=ar.mp h;let ⟨p,q⟩:=ih Xi λi v d a b=>hr (i+1) v d a b;let ⟨_,rfl⟩:=(hr 0 u _ rfl rfl).mG;refine⟨by rw[List.any_cons,p];rfl,λz hz=> ?_⟩;rcases aH.mp hz with rfl|e
   ·exact Gh _ _ _ _
   ·exact q z e
  |_=>exact gq h
def dk.T7 {vs:Array Value} {l:List PV} (hr:∀(i:Nat) (v:Value) (d:PV),vs[i]? =aa v->l[i]? =aa d->dk w F v d):
  ∀(i:Nat) (v:Value) (d:PV),vs.toList[i]? =aa v->l[i]? =aa d->dk w F v d:=λi v d h1 h2=>hr i v d ((fS)▸h1) h2
def Lp (vs:Array Value) (f:Value->Bool):vs.any f=vs.toList.any f:=(Array.any_toList (as:=vs) (p:=f)).symm
def uk (hF:∀a o,F a=aa o->s.heap.get? a=aa o)
  (hx:s.heap.get? x=aa {cls:= .type "list",data:= .seq vs n}) (hy:s.heap.get? y=aa {cls:= .type "list",data:= .seq us m}) (e1:vs.size= ↑l) (e2:us.size= ↑l')
  (k1:∀(i:Nat) (v:Value) (d:PV),vs[i]? =aa v->l[i]? =aa d->dk w F v d) (k2:∀(i:Nat) (v:Value) (d:PV),us[i]? =aa v->l'[i]? =aa d->dk w F v d) (h:iI l l'=aa r) (hA:A.units+4<cLine):
  SeqAt.RcAt A s (.ref x) (.ref y) r/\SeqAt.RcNeAt A s (.ref x) (.ref y) (!r):=by
 unfold iI at h;by_cases cI: ↑l= ↑l'
 ·rw[if_pos cI]at h;let ⟨f,hf,hj⟩:=I0 (n:=3) (s:=s) (λd d' v v' e A=>Yh hF 3 d d' v v' e A) e1 e2 k1 k2 h hA;have hsz:vs.size=us.size:=by exact aaS e1 e2 cI
  rw[<- hsz,Nat.min_self]at hf;rw[hf];exact⟨IL ⟨_,hx,rfl,_,rfl⟩ ⟨_,hy,rfl,_,rfl⟩ hsz (TQ hA) hj,SeqAt.RcNeAt.lists ⟨_,hx,rfl,_,rfl⟩ ⟨_,hy,rfl,_,rfl⟩ hsz (TQ hA) hj⟩
 ·rw[if_neg cI]at h;obtain rfl:=ag h;exact⟨AE ⟨_,hx,rfl,_,rfl⟩ ⟨_,hy,rfl,_,rfl⟩ (by simp;exact X1 e1 e2 cI) (TQ hA),SeqAt.RcNeAt.lists_lengths ⟨_,hx,rfl,_,rfl⟩ ⟨_,hy,rfl,_,rfl⟩ (by simp;exact X1 e1 e2 cI) (TQ hA)⟩
noncomputable def WU (op:wF) (a b:Int):Option Bool:=match op with
 | .Lt=>aa (decide (a<b))
 | .LtE=>aa (decide (a<=b))
 | .Gt=>aa (decide (b<a))
 | .GtE=>aa (decide (b<=a))
 | .Eq=>aa (a==b)
 | .NotEq=>aa (a !=b)
 |_=>ac
noncomputable def WV (op:wF) (a b:UInt64):Option Bool:=match op with
 | .Lt=>aa (KV a b==aa ni)
 | .LtE=>aa (KV a b==aa ni||KV a b==aa VW)
 | .Gt=>aa (KV a b==aa Ordering.gt)
 | .Eq=>aa (KV a b==aa VW)
 |_=>ac
noncomputable def WW (op:wF) (a b:Str):Option Bool:=match op with
 | .Eq=>aa (a==b)
 | .NotEq=>aa (a !=b)
 | .Lt=>aa (decide (a.cps.toList<b.cps.toList))
 | .In=>aa (eR b a)
 | .NotIn=>aa (!eR b a)
 |_=>ac
def afp (op:wF) (a:Str) (l:List PV):Option Bool:=match op with
 | .In=>anyStr a l
 | .NotIn=>(anyStr a l).map (!·)
 |_=>ac
def afq (op:wF) (a:Str) (l:List PV):Option Bool:=match op with
 | .In=>anyStr a l
 |_=>ac
def afr (op:wF) (l m:List PV):Option Bool:=match op with
 | .Eq=>iI l m
 | .NotEq=>(iI l m).map (!·)
 |_=>ac
noncomputable def Lq (op:wF) (v:Value) (r:Bool):Option Bool:=match v with
 | .none=>match op with
  | .Is=>aa r
  | .IsNot=>aa (!r)
  |_=>ac
 |_=>ac
def T8 (op:wF) (x y:PV):Option Bool:=match x with
 | .int a=>match y with
  | .int b=>WU op a b
  | .con v=>Lq op v false
  |_=>ac
 | .fE a=>match y with
  | .fE b=>WV op a b
  |_=>ac
 | .str a=>match y with
  | .str b=>WW op a b
  | .lst l=>afp op a l
  | .tup l=>afq op a l
  | .con v=>Lq op v false
  |_=>ac
 | .lst l=>match y with
  | .lst m=>afr op l m
  |_=>ac
 | .con u=>match y with
  | .con v=>match u with
   | .none=>Lq op v true
   |_=>ac
  |_=>ac
 |_=>ac
section
variable {w:jE} {A:cS} {s:bb} {op:wF} {r:Bool} {t t':Dd} {E Q:VS}
def PI (h:WU op a b=aa r) (fin:Q (.bool r) s):wpAny (MM w) A (compareOp op (.int a t) (.int b t')) Q E s:=by
 induction op with
 |Lt=>obtain rfl:=ag h;exact P.lt_int fin
 |LtE=>obtain rfl:=ag h;exact P.le_int fin
 |Gt=>obtain rfl:=ag h;exact P.gt_int fin
 |GtE=>obtain rfl:=ag h;exact P.ge_int fin
 |Eq=>obtain rfl:=ag h;exact P.eq_int fin
 |NotEq=>obtain rfl:=ag h;exact P.ne_int fin
 |_=>exfalso;exact zc h
def PJ (h:WV op a b=aa r) (fin:Q (.bool r) s):wpAny (MM w) A (compareOp op (.float a t) (.float b t')) Q E s:=by
 induction op with
 |Lt=>obtain rfl:=ag h;exact AutoFloatOps.lt_0 (vC▸fin)
 |LtE=>obtain rfl:=ag h;exact AutoFloatOps.le_0 (vC▸fin)
 |Gt=>obtain rfl:=ag h;exact AutoFloatOps.gt_0 (vC▸fin)
 |Eq=>obtain rfl:=ag h;exact AutoFloatOps.eq_0 (vC▸fin)
 |_=>exfalso;exact zc h
def PK (h:WW op a b=aa r) (fin:Q (.bool r) s):wpAny (MM w) A (compareOp op (.str a t) (.str b t')) Q E s:=by
 induction op with
 |Eq=>obtain rfl:=ag h;exact Dh fin
 |NotEq=>obtain rfl:=ag h;exact PyProof.Rows.ne_str fin
 |Lt=>obtain rfl:=ag h;exact PyProof.Rows.lt_str fin
 |In=>obtain rfl:=ag h;exact SB.contains fin
 |NotIn=>obtain rfl:=ag h;exact SB.notContains fin
 |_=>exfalso;exact zc h
def A0 {u v:Value} (h:Lq op v r0=aa r) (e:v= .none->plainIs u .none=true/\(u==qh)=r0) (fin:Q (.bool r) s):wpAny (MM w) A (compareOp op u v) Q E s:=by
 induction v with
 |none=>induction op with
  |Is=>obtain rfl:=ag h;exact nU (e rfl).1 ((e rfl).2.symm▸fin)
  |IsNot=>obtain rfl:=ag h;exact C9 (e rfl).1 ((e rfl).2.symm▸fin)
  |_=>exfalso;exact zc h
 |_=>exfalso;exact zc h
end
set_option maxHeartbeats 2000000 in
def T9 (h:T8 op a b=aa r):WT op a b r:=by
 intro S k O A c s u v hA R h1 h2 E Q hQ;have fin:Q (.bool r) s:=hQ c _ _ (.refl ..) R (.refl ..) (.pv (.con ..));have hu:=hA.I2 (n:=4) ∅;cases a with
 |int x=>
  let ⟨_,rfl⟩:=h1.kK;cases b with
  |int y=>let ⟨_,rfl⟩:=h2.kK;exact PI h fin
  |con v=>obtain rfl:=h2.IX;exact A0 h (λe=>by subst e;exact⟨rfl,rfl⟩) fin
  |_=>exfalso;exact zc h
 |fE x=>
  let ⟨_,rfl⟩:=h1.Et;cases b with
  |fE y=>let ⟨_,rfl⟩:=h2.Et;exact PJ h fin
  |_=>exfalso;exact zc h
 |str x=>
  let ⟨t0,rfl⟩:=h1.mG;cases b with
  |str y=>let ⟨_,rfl⟩:=h2.mG;exact PK h fin
  |con v=>obtain rfl:=h2.IX;exact A0 h (λe=>by subst e;exact⟨rfl,rfl⟩) fin
  |lst l=>
   let ⟨y,vs,n,rfl,hy,hs,hp⟩:=h2.ym;have key:∀ {A:cS} {r},anyStr x l=aa r->r=vs.any (EA x)/\∀y∈vs,yd A s y (.str x t0) (EA x y):=λh=>
    let ⟨p,q⟩:=Dp h (by rw[bz];exact hs) (dk.T7 hp)
    ⟨p.trans (Lp ..).symm,λy hy=>q y (vf.mpr hy)⟩
   cases op with
   |In=>exact SeqAt.in_listAt _ ⟨_,R.frozen _ _ hy,rfl,_,rfl⟩ (key h).2 ((key (A:=A) h).1▸fin)
   |NotIn=>left;let ⟨r',h',rfl⟩:=ar.mp h;right;exact SeqAt.notIn_listAt _ ⟨_,R.frozen _ _ hy,rfl,_,rfl⟩ (key h').2 ((key (A:=A) h').1▸fin)
   |_=>exfalso;exact zc h
  |tup l=>
   let ⟨y,vs,n,rfl,hy,hs,hp⟩:=h2.Eu;cases op with
   |In=>let ⟨p,q⟩:=Dp h (bz▸hs) (dk.T7 hp);exact SeqAt.in_tupleAt _ ⟨_,R.frozen _ _ hy,rfl,_,rfl⟩ (λy hy=>q y (vf.mpr hy)) (by rw[Lp,<- p];exact fin)
   |_=>exfalso;exact zc h
  |_=>exfalso;exact zc h
 |lst l=>
  let ⟨y,vs,n,rfl,hy,hs,hp⟩:=h1.ym;cases b with
  |lst m=>
   let ⟨y',Vz,n',rfl,Xj,qf,hp'⟩:=h2.ym;cases op with
   |Eq=>exact(uk R.frozen (R.frozen _ _ hy) (R.frozen _ _ Xj) hs qf hp hp' h hu).1 _ _ _ _ fin
   |NotEq=>left;let ⟨r',h',rfl⟩:=ar.mp h;right;exact(uk R.frozen (R.frozen _ _ hy) (R.frozen _ _ Xj) hs qf hp hp' h' hu).2 _ _ _ _ fin
   |_=>exfalso;exact zc h
  |_=>exfalso;exact zc h
 |con u'=>
  obtain rfl:=h1.IX;cases b with
  |con v'=>
   obtain rfl:=h2.IX;cases u with
   |none=>exact A0 h (λe=>by subst e;exact⟨rfl,rfl⟩) fin
   |_=>exfalso;exact zc h
  |_=>exfalso;exact zc h
 |_=>exfalso;exact zc h
inductive CV where
 |pv (d:PV)
 |ob (j:Nat)
 |inst (j:Nat)
local macro_rules (kind := «term~~~_») | s => pure (wa (wI "some") [wa (wm "dotIdent" [wx, wI "pv"]) [s[1]]])
noncomputable def CV.aI:CV->Option Int
 | .pv (.int a)=>aa a
 |_=>ac
def CV.pvI (h:CV.pv d=CV.pv d'):d=d':=by cases h;rfl
def CV.kI {v:CV} (h:v.aI=aa a):v= .pv (.int a):=by
 induction v with
 |pv d=>cases d with
  |int b=>exact congrArg (λb=>CV.pv (.int b)) (ag h)
  |_=>exact gq h
 |_=>exact gq h
noncomputable def CV.aF:CV->Option UInt64
 | .pv (.fE a)=>aa a
 |_=>ac
def CV.kF {v:CV} (h:v.aF=aa a):v= .pv (.fE a):=by
 induction v with
 |pv d=>cases d with
  |fE b=>exact congrArg (λb=>CV.pv (.fE b)) (ag h)
  |_=>exact gq h
 |_=>exact gq h
noncomputable def CV.aS:CV->Option Str
 | .pv (.str a)=>aa a
 |_=>ac
def CV.kS {v:CV} (h:v.aS=aa a):v= .pv (.str a):=by
 induction v with
 |pv d=>cases d with
  |str b=>exact congrArg (λb=>CV.pv (.str b)) (ag h)
  |_=>exact gq h
 |_=>exact gq h
noncomputable def CV.aL:CV->Option (List PV)
 | .pv (.lst a)=>aa a
 |_=>ac
def CV.kL {v:CV} (h:v.aL=aa a):v= .pv (.lst a):=by
 induction v with
 |pv d=>cases d with
  |lst b=>exact congrArg (λb=>CV.pv (.lst b)) (ag h)
  |_=>exact gq h
 |_=>exact gq h
noncomputable def CV.aT:CV->Option (List PV)
 | .pv (.tup a)=>aa a
 |_=>ac
def CV.kT {v:CV} (h:v.aT=aa a):v= .pv (.tup a):=by
 induction v with
 |pv d=>cases d with
  |tup b=>exact congrArg (λb=>CV.pv (.tup b)) (ag h)
  |_=>exact gq h
 |_=>exact gq h
noncomputable def CV.aP:CV->Option PV
 | .pv a=>aa a
 |_=>ac
def CV.kP {v:CV} (h:v.aP=aa a):v= .pv a:=by
 induction v with
 |pv d=>exact congrArg CV.pv (ag h)
 |_=>exact gq h
noncomputable def CV.aO:CV->Option Nat
 | .ob a=>aa a
 |_=>ac
def CV.kO {v:CV} (h:v.aO=aa a):v= .ob a:=by
 induction v with
 |ob d=>exact congrArg CV.ob (ag h)
 |_=>exact gq h
inductive CO where
 |qb
 |list (l:List PV)
 |dict (l:List (Str×PV))
 |attrs (m:List (Str×CV))
structure St where
 lv:List (Option CV)
 cv:List (Option CV)
 ob:List CO
structure Lay where
 scope:Scope
 loc:List Str
 nr:List Str
 own:Nat
 grow:Bool
 code:Option Addr
structure IF where
 fi:Nat
 ci:List Nat
 oi:Nat->Nat
def Lay.en (lay:Lay) (p:IF):iv:= {scope:=lay.scope,fi:=p.fi,cells:=lay.nr.zip p.ci,code:=lay.code}
noncomputable def CV.av (oi:NN):CV->AV
 | .pv d=> .pv d
 | .ob j=> .fM (oi j)
 | .inst j=> .inst (oi j)
def CO.ao (oi:NN):CO->AO
 | .qb=> .qb
 | .list l=> .list l
 | .dict l=> .dict l
 | .attrs m=> .attrs (m.map λp=>(p.1,p.2.av oi))
abbrev Ua (oi:NN) (l:List (Option CV)):List (Option AV):=l.map (Option.map (CV.av oi))
structure At (lay:Lay) (p:IF) (st:St) (O:List AO):Prop where
 frame:O[p.fi]? =aa (AO.ns (lay.loc.zip (Ua p.oi st.lv)))
 Od: ↑st.lv= ↑lay.loc
 x9: ↑st.cv= ↑lay.nr
 FI: ↑p.ci= ↑lay.nr
 cells:∀(i:Nat) (v:Option CV),st.cv[i]? =aa v->∃n,p.ci[i]? =aa n/\O[n]? =aa (AO.cell (v.map (CV.av p.oi)))
 obs:∀(j:Nat) (o:CO),st.ob[j]? =aa o->O[p.oi j]? =aa (o.ao p.oi)
 Zq:p.fi∉p.ci
 Zr:∀j,j< ↑st.ob->p.oi j≠p.fi
 Vu:∀j,j< ↑st.ob->p.oi j∉p.ci
 Xf:p.ci.Nodup
 Vv:∀i j,i< ↑st.ob->j< ↑st.ob->p.oi i=p.oi j->i=j
 next:lay.grow=true->∀j,p.oi (↑st.ob+j)= ↑O+j
def cT (S:cz) (k:Nat) (lay:Lay) (e:Expr) (f:St->Option CV):Prop:=∀p O st v,At lay p st O->f st=aa v->Ev S k O (lay.en p) e (v.av p.oi) O
def A3 (S:cz) (k:Nat) (lay:Lay) (e:Expr) (f:St->Option Bool):Prop:=∀p O st v,At lay p st O->f st=aa v->oA S k O (lay.en p) e v
def pU (S:cz) (k:Nat) (lay:Lay) (es:List Expr) (f:St->Option (List CV)):Prop:=∀p O st v,At lay p st O->f st=aa v->ck S k O (lay.en p) es (v.map (CV.av p.oi))
def Ev.A4 (h:Ev S k O ae e d bv) (hk:k<=k'):Ev S k' O ae e d bv:=⟨h.len,λA c s env hA=>h.run A c s env (hA.le hk)⟩
section
variable {lay:Lay}
def Lay.nq (lay:Lay) (i:Nat) (x:Str):Bool:=lay.loc[i]? ==aa x&&lay.scope.names.lookup x==aa .local&& !(x==("__debug__" :Str))
noncomputable def idxOf (x:Str):List Str->Option Nat
 | []=>ac
 |y::l=>if x==y then aa 0 else(idxOf x l).map (· +1)
def idxOf_cons:idxOf x (y::l)=if x==y then aa 0 else(idxOf x l).map (· +1):=rfl
def Lay.WX (lay:Lay) (i:Nat) (x:Str):Bool:=idxOf x lay.nr==aa i&&(lay.scope.names.lookup x==aa .cell||lay.scope.names.lookup x==aa .free)&& !(x==("__debug__" :Str))&& !(x==("__classdict__" :Str))
def Lay.mh (lay:Lay) (x:Str):Bool:=lay.scope.names.lookup x==aa .globalImplicit&& !(x==("__debug__" :Str))
def ak (i:Nat) (st:St):Option CV:=(V5 st.lv i).join
def aX (i:Nat) (st:St):Option CV:=(V5 st.cv i).join
noncomputable def jh (d:PV) (_:St):Option CV:= ~~~d
def pg (h:(!b)=true):b=false:=by cases b<;>simp_all
def PL {α:Type} {l:List Str}:∀ {m:List α} {i:Nat} {x:Str} {v:α},l[i]? =aa x->m[i]? =aa v->(x,v)∈l.zip m:=by
 induction l with
 |nil=>exact λh q=>gq h
 |cons a l ih=>
  intro m i x v h1 h2;cases m with
  |nil=>exact gq h2
  |cons b m=>
   induction i with
   |zero=>obtain rfl:=ag h1;obtain rfl:=ag h2;exact ay
   |succ i=>exact aK _ (ih h1 h2)
def A5 {l:List Str}:∀ {m:List α} {i:Nat} {x:Str} {v:α},idxOf x l=aa i->m[i]? =aa v->(l.zip m).lookup x=aa v:=by
 induction l with
 |nil=>exact λh=>gq h
 |cons a l ih=>
  intro m i x v h1 h2;cases m with
  |nil=>exact gq h2
  |cons b m=>
   rw[qA,di];rw[idxOf_cons]at h1;by_cases e:(x==a)=true
   ·rw[if_pos e]at h1;obtain rfl:=ag h1;rw[e];exact h2
   ·rw[if_neg e]at h1;let ⟨j,hj,rfl⟩:=ar.mp h1;rw[ko.mpr e];exact ih hj h2
def cT.loc (h:lay.nq i x=true):cT S k lay (.Name x pos) (ak i):=by
 intro p O st v bc hf;unfold Lay.nq at h;simp only[dj,beq_iff_eq]at h;let ⟨⟨h1,h2⟩,h3⟩:=h;have hv:st.lv[i]? =aa (aa v):=by
  unfold ak at hf;rw[AM]at hf;cases e:st.lv[i]? with
  |none=>rw[e]at hf;cases hf
  |some o=>rw[e]at hf;exact congrArg aa hf
 refine Ev.rJ bc.frame h2 (PL h1 (v:=aa (v.av p.oi)) ?_) (pg h3);rw[bO,hv];rfl
def cT.nr (h:lay.WX i x=true):cT S k lay (.Name x pos) (aX i):=by
 intro p O st v bc hf;unfold Lay.WX at h;simp only[dj,Bool.or_eq_true,beq_iff_eq]at h;left;let ⟨⟨⟨h1,h2⟩,h3⟩,h4⟩:=h;right;have hv:st.cv[i]? =aa (aa v):=by
  unfold aX at hf;rw[AM]at hf;cases e:st.cv[i]? with
  |none=>rw[e]at hf;cases hf
  |some o=>rw[e]at hf;exact congrArg aa hf
 let ⟨n,hn,hc⟩:=bc.cells i _ hv;have hl:(lay.en p).cells.lookup x=aa n:=A5 h1 hn;rcases h2 with(h2|h2)
 ·exact Ev.MK h2 hl hc (pg h3)
 ·exact Ev.qU h2 hl hc (pg h3) (pg h4)
def cT.int:cT S k lay (.Constant (.int i) n pos) (jh (.int i)):=by intro p O st v _ hf;obtain rfl:=ag hf;exact Ev.int
def cT.str:cT S k lay (.Constant (.str i) n pos) (jh (.str i)):=by intro p O st v _ hf;obtain rfl:=ag hf;exact Ev.str
def cT.fE:cT S k lay (.Constant (.float i) n pos) (jh (.fE i)):=by intro p O st v _ hf;obtain rfl:=ag hf;exact Ev.fE
def cT.none:cT S k lay (.Constant .none n pos) (jh PV.none):=by intro p O st v _ hf;obtain rfl:=ag hf;exact Ev.none
def cT.bool:cT S k lay (.Constant (.bool b) n pos) (jh (PV.bool b)):=by intro p O st v _ hf;obtain rfl:=ag hf;exact Ev.bool
def cT.alu (t:Dd) (h:lay.mh x=true) (hg:(x,aa (.float u t))∈cg):cT S k lay (.Name x pos) (jh (.fE u)):=by intro p O st v _ hf;obtain rfl:=ag hf;unfold Lay.mh at h;simp only[dj,beq_iff_eq]at h;exact Ev.IY h.1 hg (pg h.2)
def Ev.Gx (h:lay.mh x=true) (hg:(x,aa v)∈cg):nL S k O (lay.en p) (.Name x pos) (.con v):=by unfold Lay.mh at h;simp only[dj,beq_iff_eq]at h;exact Ev.ui h.1 hg (pg h.2)
def Ev.PM (h:lay.mh x=true) (hg:(x,ac)∈cg) (hb:(x,aa v)∈ly):nL S k O (lay.en p) (.Name x pos) (.con v):=by unfold Lay.mh at h;simp only[dj,beq_iff_eq]at h;exact Ev.Gr h.1 hg hb (pg h.2)
noncomputable def CV.aDc:CV->Option (List (Str×PV))
 | .pv (.oQ l)=>aa l
 |_=>ac
def CV.kDc {v:CV} (h:v.aDc=aa a):v= .pv (.oQ a):=by
 induction v with
 |pv d=>cases d with
  |oQ l=>obtain rfl:=ag h;rfl
  |_=>exact gq h
 |_=>exact gq h
noncomputable def Tj:Option CO->Option (List PV)
 |some (.list l)=>aa l
 |_=>ac
def ul (h:Tj a=aa l):a=aa (.list l):=by
 induction a with
 |none=>exact gq h
 |some o=>induction o with
  |list m=>obtain rfl:=ag h;rfl
  |_=>exact gq h
def St.oB (st:St):CV->Option (List PV)
 | .ob j=>Tj st.ob[j]?
 |v=>v.aL
def Lr {st:St} (e:st.oB v=aa l) {P:CV->Prop} (h1:P (.pv (.lst l))) (h2:∀j,st.ob[j]? =aa (.list l)->P (.ob j)):P v:=by
 induction v with
 |ob j=>exact h2 j (ul e)
 |pv d=>exact(CV.kL (v:= .pv d) e).symm▸h1
 |inst j=>exact gq e
def At.oB (h:At lay p st O) (e:st.oB v=aa l):IsL O (v.av p.oi) l:=
 Lr (P:=λv=>IsL O (v.av p.oi) l) e .val λj hl=> .fM (h.obs _ _ hl)
noncomputable def vh (f g:St->Option CV) (st:St) (k:CV->CV->Option α):Option α:=(f st).bind λa=>(g st).bind (k a)
def orE {o p:Option α} {G:Prop} (h:o.or p=aa d) (h1:o=aa d->G) (h2:p=aa d->G):G:=by
 induction o with
 |none=>exact h2 h
 |some x=>exact h1 h
noncomputable def PN (l m:List PV):Option PV:=if ↑l+ ↑m<=sizeLine then aa (.lst (l++m)) else ac
noncomputable def WY (op:mx) (o:Option PV):Option PV:=match op with
 | .Add=>o
 |_=>ac
def MR (h:WY op o=aa d):op= .Add/\o=aa d:=by
 induction op with
 |Add=>exact⟨rfl,h⟩
 |_=>exact gq h
def MS (st:St) (op:mx) (a b:CV):Option PV:=
 (a.aP.bind λx=>b.aP.bind (AZ op x)).or (WY op ((st.oB a).bind λl=>(st.oB b).bind (PN l)))
def ba (op:mx) (f g:St->Option CV) (st:St):Option CV:=(vh f g st (MS st op)).map .pv
def zO (O:List AO) (t:Value->Value->z0 Value) (a b:AV) (d:PV):Prop:=
 ∀(S:cz) (k:Nat) (A:cS) (c:aM) (s:bb) (u v:Value),jG k A->Rel S c O s.heap->cU S.w c ↑O u a->cU S.w c ↑O v b->Tr S O A c s (t u v) (.pv d) O
def ML.A (h:ML t a b d):zO O t (.pv a) (.pv b) d:=λS k A c s u v hA R h1 h2=>h S k O A c s u v hA R h1.gi h2.gi
def Ev.EB (h1:Ev S k O ae l a O) (h2:Ev S k O ae r b O) (ho:zO O (binaryOp op) a b d):nL S k O ae (.BinOp l op r pos) d:=
 ⟨ab _,λA c s env hA hE R E Q hQ=>Gf (h1.run A c s env hA hE R _ _ λc1 v1 s1 l1 R1 K1 a1=>h2.run A c1 s1 env hA (hE.mono l1 (ab _)) R1 _ _ λc2 v2 s2 l2 R2 K2 a2=>
  ho S k A c2 s2 v1 v2 hA R2 (a1.mono l2 (ab _)) a2 _ _ λc3 v3 s3 l3 R3 K3 a3=>hQ c3 v3 s3 ((l1.trans l2 (ab _)).trans l3 (ab _)) R3 ((K1.trans K2).trans K3) a3)⟩
def Ev.js (h1:Ev S k O ae l a O) (h2:Ev S k O ae r b O) (ho:zO O (compareOp op) a b d) (hm:behindInMarks op r=false):
  nL S k O ae (.Compare l [op] [r] pos) d:=
 ⟨ab _,λA c s env hA hE R E Q hQ=>wpAny_Compare1 (h1.run A c s env hA hE R _ _ λc1 v1 s1 l1 R1 K1 a1=>h2.run A c1 s1 env hA (hE.mono l1 (ab _)) R1 _ _ λc2 v2 s2 l2 R2 K2 a2=>
  ho S k A c2 s2 v1 v2 hA R2 (a1.mono l2 (ab _)) a2 _ _ λc3 v3 s3 l3 R3 K3 a3=>hQ c3 v3 s3 ((l1.trans l2 (ab _)).trans l3 (ab _)) R3 ((K1.trans K2).trans K3) a3) hm⟩
def oA.js (h1:Ev S k O ae l a O) (h2:Ev S k O ae r b O) (ho:zO O (compareOp op) a b (PV.bool x)) (hm:behindInMarks op r=false):
  oA S k O ae (.Compare l [op] [r] pos) x:=
 λA c s env hA hE R E Q hQ=>yc (h1.run A c s env hA hE R _ _ λc1 v1 s1 l1 R1 K1 a1=>h2.run A c1 s1 env hA (hE.mono l1 (ab _)) R1 _ _ λc2 v2 s2 l2 R2 K2 a2=>
  ho S k A c2 s2 v1 v2 hA R2 (a1.mono l2 (ab _)) a2 _ _ λc3 v3 s3 l3 R3 K3 a3=>by
   have e:=a3.dn;subst e;exact gf (hQ c3 s3 ((l1.trans l2 (ab _)).trans l3 (ab _)) R3 ((K1.trans K2).trans K3))) hm
def Rel.sW {s:bb} (R:Rel S c O s.heap):
  Rel S (c.put s.heap.objs.size {cls:= .type T,data:= .seq vs}) O (s.heap.push {cls:= .type T,data:= .seq vs}):=
 R.put (λb o e=>aJ _ e) (ab _) (aV _ rfl)
def zO.PN (h1:IsL O a l) (h2:IsL O b m) (hsz: ↑l+ ↑m<=sizeLine):zO O (binaryOp .Add) a b (.lst (l++m)):=by
 intro S k A c s u v hA R ha hb E Q hQ;left;let ⟨x,vs,n,rfl,hx,e1,k1⟩:=h1.at R ha;let ⟨y,us,m',rfl,hy,e2,k2⟩:=h2.at R hb;right;refine PySem.P.add_list hx hy ?_ (by simp_all);have hF:=R.oz (ab _);refine hQ _ _ _ (aM.dC hF) R.sW (.gF ..) (.pv (.lst (vs:=vs++us) (if_pos rfl) (by rw[Array.size_append,aj];simp_all) λi v d hv hd=> ?_));have hm:dk S.w c.F v d:=by
  rcases bS i vs.size with h|h
  ·rw[Array.getElem?_append_left h]at hv;rw[aW (by simp_all)]at hd;exact k1 i v d hv hd
  ·rw[Array.getElem?_append_right h]at hv;rw[aE (by simp_all),<- e1]at hd;exact k2 _ v d hv hd
 exact hm.mono (aM.dC (n:=0) hF).F
def Yi (h:At lay p st O) (e:MS st op a b=aa d):zO O (binaryOp op) (a.av p.oi) (b.av p.oi) d:=
 orE e (λe=>a9 e λx h1 e=>a9 e λy h2 e=>by rw[CV.kP h1,CV.kP h2];exact(PH e).A)
  λe=>by let ⟨rfl,e⟩:=MR e;refine a9 e λl h1 e=>a9 e λm h2 e=> ?_;let ⟨hs,rfl⟩:=dS e;exact zO.PN (h.oB h1) (h.oB h2) hs
def cT.bin (h1:cT S k lay l f) (h2:cT S k lay r g):cT S k lay (.BinOp l op r pos) (ba op f g):=by intro p O st v bc hf;let ⟨d,hd,rfl⟩:=ar.mp hf;exact a9 hd λa ha hd=>a9 hd λb hb hd=>Ev.EB (h1 p O st _ bc ha) (h2 p O st _ bc hb) (Yi bc hd)
noncomputable def afs (op:wF) (o:Option Bool):Option Bool:=match op with
 | .Eq=>o
 | .NotEq=>o.map (!·)
 |_=>ac
def sY (st:St) (op:wF) (a b:CV):Option Bool:=
 (a.aP.bind λx=>b.aP.bind (T8 op x)).or (afs op ((st.oB a).bind λl=>(st.oB b).bind (iI l)))
def zO.eqL (h1:IsL O a l) (h2:IsL O b m) (h:iI l m=aa r):zO O (compareOp .Eq) a b (PV.bool r)/\zO O (compareOp .NotEq) a b (PV.bool (!r)):=by
 constructor
 ·intro S k A c s u v hA R ha hb E Q hQ;let ⟨x,vs,n,rfl,hx,e1,k1⟩:=h1.at R ha;let ⟨y,us,m',rfl,hy,e2,k2⟩:=h2.at R hb;have:=uk (A:=A) R.frozen hx hy e1 e2 k1 k2 h (hA.I2 ∅);exact this.1 _ _ _ _ (hQ c _ _ (.refl ..) R (.refl ..) (.pv (.con ..)))
 ·intro S k A c s u v hA R ha hb E Q hQ;let ⟨x,vs,n,rfl,hx,e1,k1⟩:=h1.at R ha;let ⟨y,us,m',rfl,hy,e2,k2⟩:=h2.at R hb;have:=uk (A:=A) R.frozen hx hy e1 e2 k1 k2 h (hA.I2 ∅);exact this.2 _ _ _ _ (hQ c _ _ (.refl ..) R (.refl ..) (.pv (.con ..)))
def z8 (h:At lay p st O) (e:sY st op a b=aa r):zO O (compareOp op) (a.av p.oi) (b.av p.oi) (PV.bool r):=
 orE e (λe=>a9 e λx h1 e=>a9 e λy h2 e=>by rw[CV.kP h1,CV.kP h2];exact(T9 e).A)
  λe=>by
   induction op with
   |Eq=>exact a9 e λl h1 e=>a9 e λm h2 e=>(zO.eqL (h.oB h1) (h.oB h2) e).1
   |NotEq=>let ⟨r',e2,rfl⟩:=ar.mp e;exact a9 e2 λl h1 e=>a9 e λm h2 e=>(zO.eqL (h.oB h1) (h.oB h2) e).2
   |_=>exact gq e
def bY (op:wF) (f g:St->Option CV) (st:St):Option Bool:=vh f g st (sY st op)
def qG (f:St->Option Bool) (st:St):Option CV:=(f st).map λb=> .pv (PV.bool b)
def cT.cmp (h1:cT S k lay l f) (h2:cT S k lay r g) (hm:behindInMarks op r=false):cT S k lay (.Compare l [op] [r] pos) (qG (bY op f g)):=by intro p O st v bc hf;let ⟨x,hx,rfl⟩:=ar.mp hf;exact a9 hx λa ha hx=>a9 hx λb hb hx=>Ev.js (h1 p O st _ bc ha) (h2 p O st _ bc hb) (z8 bc hx) hm
def A3.cmp (h1:cT S k lay l f) (h2:cT S k lay r g) (hm:behindInMarks op r=false):A3 S k lay (.Compare l [op] [r] pos) (bY op f g):=
 λp O st v bc hf=>a9 hf λa ha hf=>a9 hf λb hb hf=>oA.js (h1 p O st _ bc ha) (h2 p O st _ bc hb) (z8 bc hf) hm
end
local macro_rules (kind := coeFunNotation) | s => pure (wa (wi "Mine.jh") [wa (wi "Mine.PV.int") [s[1]]])
local macro_rules (kind := coeSortNotation) | s => pure (wa (wi "Mine.jh") [wa (wi "Mine.PV.str") [s[1]]])
section
variable {lay:Lay}
def EC (S:cz) (k:Nat) (lay:Lay) (op:BoolOp) (es:List Expr) (f:St->Option Bool):Prop:=
 ∀p O st r,At lay p st O->f st=aa r->∀A c s env,jG k A->cY c ↑O (lay.en p) env->Rel S c O s.heap->
  ∀(E:VS) (Q:Bool->bb->Prop),(∀c' s',aM.le ↑O c c'->Rel S c' O s'.heap->dY s s'->Q r s')->wpAny (MM S.w) A (allTrue op es env) Q E s
noncomputable def fF (_:St):Option Bool:=aa true
noncomputable def vD (_:St):Option Bool:=aa false
noncomputable def wY (f g:St->Option Bool) (st:St):Option Bool:=(f st).bind λb=>cond b (g st) (aa false)
noncomputable def Gy (f g:St->Option Bool) (st:St):Option Bool:=(f st).bind λb=>cond b (aa true) (g st)
noncomputable def yp (f:St->Option Bool) (st:St):Option Bool:=(f st).map (!·)
def EC.alv:EC S k lay .Or [] vD:=λp O st r q hf A c s env q q R E Q hQ=>by obtain rfl:=ag hf;exact wpAny_allTrue_Or_nil (hQ c s (.refl ..) R (.refl ..))
def EC.ahD (h1:A3 S k lay x f) (h2:EC S k lay .And rest g):EC S k lay .And (x::rest) (wY f g):=by
 intro p O st r bc hf A c s env hA hE R E Q hQ;refine a9 hf λb e hf=> ?_;refine wpAny_allTrue_And_cons (h1 p O st b bc e A c s env hA hE R _ _ λc1 s1 l1 R1 K1=> ?_);induction b with
 |true=>exact h2 p O st r bc hf A c1 s1 env hA (hE.mono l1 (ab _)) R1 E Q λc2 s2 l2 R2 K2=>hQ c2 s2 (l1.trans l2 (ab _)) R2 (K1.trans K2)
 |false=>obtain rfl:=ag hf;exact hQ c1 s1 l1 R1 K1
def EC.ajc (h1:A3 S k lay x f) (h2:EC S k lay .Or rest g):EC S k lay .Or (x::rest) (Gy f g):=by
 intro p O st r bc hf A c s env hA hE R E Q hQ;refine a9 hf λb e hf=> ?_;refine wpAny_allTrue_Or_cons (h1 p O st b bc e A c s env hA hE R _ _ λc1 s1 l1 R1 K1=> ?_);induction b with
 |false=>exact h2 p O st r bc hf A c1 s1 env hA (hE.mono l1 (ab _)) R1 E Q λc2 s2 l2 R2 K2=>hQ c2 s2 (l1.trans l2 (ab _)) R2 (K1.trans K2)
 |true=>obtain rfl:=ag hf;exact hQ c1 s1 l1 R1 K1
def A3.boolOp (h:EC S k lay op es f):A3 S k lay (.BoolOp op es pos) f:=
 λp O st r bc hf A c s env hA hE R E Q hQ=>wpAny_isTrue_BoolOp (h p O st r bc hf A c s env hA hE R E Q hQ)
def A3.not (h:A3 S k lay x f):A3 S k lay (.UnaryOp .Not x pos) (yp f):=by intro p O st r bc hf A c s env hA hE R E Q hQ;unfold yp at hf;simp only[ar]at hf;left;let ⟨b,hf,rfl⟩:=hf;right;exact wpAny_isTrue_Not (h p O st b bc hf A c s env hA hE R _ _ hQ)
noncomputable def I3:CV->Option Bool
 | .pv (.con (.bool b))=>aa b
 |_=>ac
def mv (f:St->Option CV) (st:St):Option Bool:=(f st).bind I3
def rK (h:I3 v=aa b):v= .pv (PV.bool b):=by
 induction v with
 |pv d=>cases d with
  |con u=>induction u with
   |bool c=>obtain rfl:=ag h;rfl
   |_=>exact gq h
  |_=>exact gq h
 |_=>exact gq h
def A3.val (h:cT S k lay e f) (he:∀env zM,isTrue e env zM=(do let v <- zM;standAt e.pos;holding [v] (truthy v))):A3 S k lay e (mv f):=by intro p O st r bc hf A c s env hA hE R E Q hQ;unfold mv at hf;let ⟨v,hf,hv⟩:=aG.mp hf;have:=rK hv;subst this;refine sf ((h p O st _ bc hf).run A c s env hA hE R _ _ λc1 v1 s1 l1 R1 K1 a1=> ?_) (he _ _);have e:=a1.dn;subst e;exact gf (hQ c1 s1 l1 R1 K1)
def vE (o1 o2:wF) (f g h:St->Option CV) (st:St):Option Bool:=
 (f st).bind λa=>(g st).bind λb=>(h st).bind λd=>(sY st o1 a b).bind λx=>(sY st o2 b d).map λy=>x&&y
def A3.chain (h1:cT S k lay l f) (h2:cT S k lay r g) (h3:cT S k lay t h) (hm:lastMarks [o1,o2] [r,t]=false):A3 S k lay (.Compare l [o1,o2] [r,t] pos) (vE o1 o2 f g h):=by
 intro p O st v bc hf A c s env hA hE R E Q hQ;refine a9 hf λa ha hf=>a9 hf λb hb hf=>a9 hf λd hd hf=>a9 hf λx hx hf=> ?_;let ⟨y,hy,rfl⟩:=ar.mp hf;refine PyProof.Rows.isTrue_chain ((h1 p O st _ bc ha).run A c s env hA hE R _ _ λc1 v1 s1 l1 R1 K1 a1=> ?_) hm;refine PyProof.Rows.test_link ((h2 p O st _ bc hb).run A c1 s1 env hA (hE.mono l1 (ab _)) R1 _ _ λc2 v2 s2 l2 R2 K2 a2=> ?_);refine z8 bc hx S k A c2 s2 v1 v2 hA R2 (a1.mono l2 (ab _)) a2 _ _ λc3 v3 s3 l3 R3 K3 a3=> ?_;have e:=a3.dn;subst e;refine gf ?_;have Of:=(l1.trans l2 (ab _)).trans l3 (ab _);have agf:=(K1.trans K2).trans K3;induction x with
 |false=>exact hQ c3 s3 Of R3 agf
 |true=>refine PyProof.Rows.test_last ((h3 p O st _ bc hd).run A c3 s3 env hA (hE.mono Of (ab _)) R3 _ _ λc4 v4 s4 l4 R4 K4 a4=> ?_);refine z8 bc hy S k A c4 s4 v2 v4 hA R4 ((a2.mono l3 (ab _)).mono l4 (ab _)) a4 _ _ λc5 v5 s5 l5 R5 K5 a5=> ?_;have e:=a5.dn;subst e;exact gf (hQ c5 s5 ((Of.trans l4 (ab _)).trans l5 (ab _)) R5 ((agf.trans K4).trans K5))
def MT (S:cz) (k:Nat) (lay:Lay) (es:List Expr) (f:St->Option Bool):Prop:=
 ∀p O st r,At lay p st O->f st=aa r->∀A c s env pos,jG k A->cY c ↑O (lay.en p) env->Rel S c O s.heap->
  ∀(E:VS) (Q:VS),(∀c' s',aM.le ↑O c c'->Rel S c' O s'.heap->dY s s'->Q (.bool r) s')->wpAny (MM S.w) A (Iv pos .And (evalEach es env)) Q E s
def MT.one (h:cT S k lay x f):MT S k lay [x] (mv f):=by intro p O st r bc hf A c s env pos hA hE R E Q hQ;unfold mv at hf;let ⟨v,hf,hv⟩:=aG.mp hf;have:=rK hv;subst this;refine(h p O st _ bc hf).run A c s env hA hE R _ _ λc1 v1 s1 l1 R1 K1 a1=> ?_;have e:=a1.dn;subst e;exact hQ c1 s1 l1 R1 K1
def MT.cons (h:cT S k lay x f) (h2:MT S k lay (y::rest) g):MT S k lay (x::y::rest) (wY (mv f) g):=by
 intro p O st r bc hf A c s env pos hA hE R E Q hQ;unfold wY at hf;cases e:mv f st with
 |none=>rw[e]at hf;nomatch hf
 |some b=>
  rw[e]at hf;unfold mv at e;simp only[aG]at e;left;let ⟨v,hv,hb⟩:=e;have:=rK hb;right;subst this;show wpAny _ A (do
   let v <- eval x env
   standAt pos
   let t <- holding [v] (truthy v)
   match BoolOp.And,t with
   | .And,false| .Or,true=>pure v
   |_,_=>Iv pos .And (evalEach (y::rest) env)) Q E s
  refine am ((h p O st _ bc hv).run A c s env hA hE R _ _ λc1 v1 s1 l1 R1 K1 a1=> ?_);have e:=a1.dn;subst e;refine am (cV (am (dH (gf ?_))));induction b with
  |true=>exact h2 p O st r bc hf A c1 s1 env pos hA (hE.mono l1 (ab _)) R1 E Q λc2 s2 l2 R2 K2=>hQ c2 s2 (l1.trans l2 (ab _)) R2 (K1.trans K2)
  |false=>obtain rfl:=ag hf;exact aR (hQ c1 s1 l1 R1 K1)
def cT.and (h:MT S k lay es f):cT S k lay (.BoolOp .And es pos) (qG f):=by intro p O st v bc hf;unfold qG at hf;simp only[ar]at hf;let ⟨b,hf,rfl⟩:=hf;exact⟨ab _,λA c s env hA hE R E Q hQ=>h p O st b bc hf A c s env pos hA hE R E Q λc1 s1 l1 R1 K1=>hQ c1 _ s1 l1 R1 K1 (.pv (.con _))⟩
noncomputable def Ls (b:St->Option Bool) (f g:St->Option CV) (st:St):Option CV:=match b st with
 |some true=>f st
 |some false=>g st
 |ac=>ac
def cT.PO (h0:A3 S k lay t b) (h1:cT S k lay x f) (h2:cT S k lay y g):cT S k lay (.IfExp t x y pos) (Ls b f g):=by
 intro p O st v bc hf;unfold Ls at hf;refine⟨ab _,λA c s env hA hE R E Q hQ=> ?_⟩;cases e:b st with
 |none=>rw[e]at hf;cases hf
 |some r=>
  rw[e]at hf;refine VP (h0 p O st r bc e A c s env hA hE R _ _ λc1 s1 l1 R1 K1=> ?_);induction r with
  |true=>exact(h1 p O st v bc hf).run A c1 s1 env hA (hE.mono l1 (ab _)) R1 E Q λc2 v2 s2 l2 R2 K2 a2=>hQ c2 v2 s2 (l1.trans l2 (ab _)) R2 (K1.trans K2) a2
  |false=>exact(h2 p O st v bc hf).run A c1 s1 env hA (hE.mono l1 (ab _)) R1 E Q λc2 v2 s2 l2 R2 K2 a2=>hQ c2 v2 s2 (l1.trans l2 (ab _)) R2 (K1.trans K2) a2
noncomputable def aZ (_:St):Option (List CV):=aa []
noncomputable def au (f:St->Option CV) (g:St->Option (List CV)) (st:St):Option (List CV):=(f st).bind λa=>(g st).map (a:: ·)
def pU.nil:pU S k lay [] aZ:=λp O st v q hf=>by obtain rfl:=ag hf;exact .nil
def pU.cons (h1:cT S k lay x f) (h2:pU S k lay rest g) (hn:notStar x=true):pU S k lay (x::rest) (au f g):=by intro p O st v bc hf;refine a9 hf λa ha hf=> ?_;let ⟨l,hl,rfl⟩:=ar.mp hf;exact .cons (h1 p O st _ bc ha) (h2 p O st _ bc hl) hn
noncomputable def MU:List CV->Option (List PV)
 | []=>aa []
 | .pv d::l=>(MU l).map (d:: ·)
 |_::_=>ac
def Ub:∀ {l:List CV} {ds:List PV},MU l=aa ds->l=ds.map CV.pv:=by
 intro l;induction l with
 |nil=>intro ds h;obtain rfl:=ag h;rfl
 |cons a l ih=>
  intro ds h;induction a with
  |pv d=>let ⟨ds',h2,rfl⟩:=ar.mp h;rw[ih h2];rfl
  |_=>exact gq h
def wZ {l : List CV} {ds : List PV} (h : MU l = aa ds) : l.map (CV.av oi) = ds.map AV.pv := by rw [Ub h, bD]; rfl
def jc (g:St->Option (List CV)) (st:St):Option CV:=((g st).bind MU).bind λl=>if ↑l<=1000 then ~~~(.tup l) else ac
def kb (g:St->Option (List CV)) (st:St):Option CV:=((g st).bind MU).bind λl=>if ↑l<=1000 then ~~~(.lst l) else ac
def dg.WZ {vs:Vs}:∀ {ds:List PV},dg w c n vs (ds.map AV.pv)-> ↑vs= ↑ds/\∀(i:Nat) (v:Value) (d:PV),vs[i]? =aa v->ds[i]? =aa d->dk w c.F v d:=by
 induction vs with
 |nil=>
  intro ds h;induction ds with
  |nil=>exact⟨rfl,λi v d h=>gq h⟩
  |cons d ds=>nomatch h
 |cons v vs ih=>
  intro ds h;induction ds with
  |nil=>nomatch h
  |cons d ds=>
   let ⟨_,_,q,a,b⟩:=h.i1;cases q;refine⟨congrArg (· +1) (ih b).1,λi v d h1 h2=> ?_⟩;induction i with
   |zero=>obtain rfl:=ag h1;obtain rfl:=ag h2;exact a.gi
   |succ i=>exact(ih b).2 i v d h1 h2
def Rel.PP {s:bb} (R:Rel S c O s.heap) {ds:List PV} (h:dg S.w c ↑O vs (ds.map AV.pv)):
  Rel S (c.put s.heap.objs.size {cls:= .type T,data:= .seq vs.toArray}) O (s.heap.push {cls:= .type T,data:= .seq vs.toArray})/\vs.toArray.size= ↑ds/\
   ∀(i:Nat) (v:Value) (d:PV),vs.toArray[i]? =aa v->ds[i]? =aa d->dk S.w (c.put s.heap.objs.size {cls:= .type T,data:= .seq vs.toArray}).F v d:=by
 let ⟨p,q⟩:=h.WZ;refine⟨R.sW,by rw[Ta];exact p,λi v d h1 h2=> ?_⟩;exact(q i v d (by simpa using h1) h2).mono (aM.dC (n:=0) (R.oz (ab _))).F
def cT.tup (h:pU S k lay es g):cT S k lay (.Tuple es n pos) (jc g):=by
 intro p O st v bc hf;refine a9 hf λds hl hf=>a9 hl λl hl hd=> ?_;let ⟨hsz,rfl⟩:=dS hf;have hh:=h p O st _ bc hl;rw[wZ hd]at hh;refine⟨ab _,λA c s env hA hE R E Q hQ=> ?_⟩;refine sN (mH hh pos A c s env hA hE R _ _ λc1 vs s1 l1 R1 K1 a1=>⟨?_,?_⟩)
 ·rw[↑a1,aw];exact X2 hsz rfl
 ·let ⟨R2,hs,hr⟩:=R1.PP (T:= "tuple") a1;exact hQ _ _ _ (l1.trans (aM.dC (R1.oz (ab _))) (ab _)) R2 (K1.trans (.gF ..)) (.pv (.tup (if_pos rfl) hs hr))
def cT.lst (h:pU S k lay es g):cT S k lay (.List es pos) (kb g):=by
 intro p O st v bc hf;refine a9 hf λds hl hf=>a9 hl λl hl hd=> ?_;let ⟨hsz,rfl⟩:=dS hf;have hh:=h p O st _ bc hl;rw[wZ hd]at hh;refine⟨ab _,λA c s env hA hE R E Q hQ=> ?_⟩;refine wpAny_List (mH hh pos A c s env hA hE R _ _ λc1 vs s1 l1 R1 K1 a1=>⟨?_,?_⟩)
 ·rw[↑a1,aw];exact X2 hsz rfl
 ·let ⟨R2,hs,hr⟩:=R1.PP (T:= "list") a1;exact hQ _ _ _ (l1.trans (aM.dC (R1.oz (ab _))) (ab _)) R2 (K1.trans (.gF ..)) (.pv (.lst (if_pos rfl) hs hr))
end
inductive Tn (O:List AO):AV->List (Str×PV)->Prop
 |val {l:List (Str×PV)}:Tn O (.pv (.oQ l)) l
 |fM {i:Nat} {l:List (Str×PV)}:O[i]? =aa (.dict l)->Tn O (.fM i) l
inductive jP (w:jE) (F:Addr->Option Obj):List eK->List (Str×PV)->List (Str×Value)->Prop
 |nil:jP w F [] [] []
 |cons {e:eK} {k:Str} {d:PV} {es:List eK} {l:List (Str×PV)} {kvs:List (Str×Value)}:e.hash=hashStr w k->(∃t,e.key= .str k t)->dk w F e.val d->jP w F es l kvs->jP w F (e::es) ((k,d)::l) ((k,e.val)::kvs)
def jP.of {es:List eK} {l:List (Str×PV)} (h: ↑es= ↑l)
  (h1:∀(i:Nat) (e:eK) (k:Str) (d:PV),es[i]? =aa e->l[i]? =aa (k,d)->e.hash=hashStr w k/\∃t,e.key= .str k t)
  (h2:∀(i:Nat) (e:eK) (k:Str) (d:PV),es[i]? =aa e->l[i]? =aa (k,d)->dk w F e.val d):∃kvs,jP w F es l kvs:=by
 replace h:=Th.of h;induction h with
 |nil=>exact⟨[],.nil⟩
 |cons e q _ ih=>let ⟨kvs,hk⟩:=ih (λi e k d a b=>h1 (i+1) e k d a b) λi e k d a b=>h2 (i+1) e k d a b;let ⟨k,d⟩:=q;let ⟨a,b⟩:=h1 0 e k d rfl rfl;exact⟨_,.cons a b (h2 0 e k d rfl rfl) hk⟩
def jP.keys (h:jP w F es l kvs):kvs.map (·.1)=l.map (·.1):=by
 induction h with
 |nil=>rfl
 |cons _ _ _ _ ih=>rw[bx,bx,ih]
def jP.pairs (h:jP w F es l kvs):Pairs (strKind pw w) es kvs/\∀e∈es,∃k,(strKind pw w).is k e.key=true/\e.hash=(strKind pw w).hash k:=by
 induction h with
 |nil=>exact⟨.nil,λe he=>by cases he⟩
 | @cons e k d es l kvs a b _ _ ih=>
  obtain(⟨t,ht⟩):=b;have hk:(strKind pw w).is k e.key=true:=by exact ht▸(beq_self_eq_true k)
  refine⟨.cons hk rfl ih.1,λe' he=> ?_⟩;rcases aH.mp he with h|h
  ·subst h;exact⟨k,hk,a⟩
  ·exact ih.2 e' h
def jP.dictOf {h:iR} (hp:jP w F es.toList l kvs) (ho:h.get? a=aa {cls:= .type "dict",data:= .dict es n}) (nd:(l.map (·.1)).Nodup):
  h.DictAt (strKind pw w) a kvs n:=⟨_,es,ho,⟨rfl,rfl,rfl⟩,rfl,λe he=>hp.pairs.2 e (vf.mpr he),hp.pairs.1,by rw[hp.keys];exact nd⟩
def mJ {h:iR} (x:h.DictAt (strKind pw w) a kvs n):h.DictOf (strKind pw w) a kvs:=xe21 (x) λo es r=>⟨o,es,n,r⟩
def jP.get (h:jP w F es l kvs) {k:Str} (hl:l.lookup k=aa d):∃v,valueAt kvs k=aa v/\dk w F v d:=by
 induction h with
 |nil=>nomatch hl
 | @cons e k' d' es l kvs a b hv _ ih=>
  rw[di]at hl;by_cases hk:k=k'
  ·subst hk;rw[beq_self_eq_true]at hl;obtain rfl:=ag hl;exact⟨e.val,by unfold valueAt;simp,hv⟩
  ·rw[beq_false_of_ne hk]at hl;let ⟨v,h1,h2⟩:=ih hl;refine⟨v,?_,h2⟩;unfold valueAt at h1⊢;rw[List.find?_cons];simp only[decide_eq_true_eq];rw[decide_eq_false (λe=>hk e.symm)];exact h1
def Tn.at (hl:Tn O d l) (R:Rel S c O h) (hv:cU S.w c ↑O v d):
  ∃a es n kvs,v= .ref a/\(a==sysModules)=false/\h.get? a=aa {cls:= .type "dict",data:= .dict es n}/\(l.map (·.1)).Nodup/\jP S.w c.F es.toList l kvs:=by
 have key:∀(es:Array eK),es.size= ↑l->(∀(i:Nat) (e:eK) (k:Str) (d:PV),es[i]? =aa e->l[i]? =aa (k,d)->e.hash=hashStr S.w k/\∃t,e.key= .str k t)->
   (∀(i:Nat) (e:eK) (k:Str) (d:PV),es[i]? =aa e->l[i]? =aa (k,d)->dk S.w c.F e.val d)->∃kvs,jP S.w c.F es.toList l kvs:=λes a b d=>
  jP.of (bz▸a) (λi e k x h1 h2=>b i e k x (by rw[<- fS];exact h1) h2) (λi e k x h1 h2=>d i e k x (by rw[<- fS];exact h1) h2)
 induction hl with
 |val=>let ⟨_,_,rfl,hm,a,_,_,rfl,b,nd,d,e⟩:=hv.gi.Yd;obtain(⟨kvs,hk⟩):=key _ b d e;exact⟨_,_,_,kvs,rfl,hm,R.frozen _ _ a,nd,hk⟩
 |fM hi=>obtain(⟨rfl,kW⟩):=hv.zN;obtain(⟨o,ho,hr⟩):=R.own _ _ hi;let ⟨_,_,rfl,a,nd,b,d⟩:=hr.PC;obtain(⟨kvs,hk⟩):=key _ a b d;exact⟨_,_,_,kvs,rfl,R.Lg kW,ho,nd,hk⟩
section
variable {lay:Lay}
noncomputable def diO:Option CO->Option (List (Str×PV))
 |some (.dict l)=>aa l
 |_=>ac
def Uc (h:diO a=aa l):a=aa (.dict l):=by
 induction a with
 |none=>exact gq h
 |some o=>induction o with
  |dict m=>obtain rfl:=ag h;rfl
  |_=>exact gq h
def St.W0 (st:St):CV->Option (List (Str×PV))
 | .ob j=>diO st.ob[j]?
 |v=>v.aDc
def At.W0 (h:At lay p st O) (e:st.W0 v=aa l):Tn O (v.av p.oi) l:=by
 induction v with
 |pv d=>rw[CV.kDc (v:= .pv d) e];exact .val
 |ob j=>exact .fM (h.obs _ _ (Uc e))
 |inst j=>exact gq e
def ED {α:Type} [Decidable p] {x:Option α} {y:α} (h:(if p then x else ac)=aa y):p/\x=aa y:=by
 by_cases q:p
 ·rw[if_pos q]at h;exact⟨q,h⟩
 ·rw[if_neg q]at h;exact gq h
def Lu (st:St) (o:CV) (m:Nat):Option PV:=match o.aT with
 |some l=>l[m]?
 |none=>match o.aS with
  |some x=>(x.cps[m]?).map λch=> .str ⟨#[ch]⟩
  |none=>(st.oB o).bind (·[m]?)
def nZ (st:St) (o i:CV):Option PV:=match i.aI with
 |some n=>if 0<=n/\n<2 ^ 63 then Lu st o n.toNat else ac
 |none=>i.aS.bind λk=>(st.W0 o).bind (·.lookup k)
def bk (f g:St->Option CV) (st:St):Option CV:=(vh f g st (nZ st)).map .pv
def Ev.aft (h1:Ev S k O ae o a O) (h2:Ev S k O ae i b O)
  (hg:∀A c s u v,jG k A->Rel S c O s.heap->cU S.w c ↑O u a->cU S.w c ↑O v b->∃T id,s.TypeIs u T/\typeLookup (.type T) "__getitem__" =pure (aa (.builtin id))/\Tr S O A c s (getItem u v) (.pv x) O)
  (hs:∀u v,subscripted i false u v=operate [u,v] (getItem u v)):nL S k O ae (.Subscript o i pos) x:=by
 refine⟨ab _,?_⟩;intro A c s env hA hE R E Q hQ;refine pP (h1.run A c s env hA hE R _ _ λc1 v1 s1 l1 R1 K1 a1=>h2.run A c1 s1 env hA (hE.mono l1 (ab _)) R1 _ _ λc2 v2 s2 l2 R2 K2 a2=> ?_);left;let ⟨T,id,hT,hl,ht⟩:=hg A c2 s2 v1 v2 hA R2 (a1.mono l2 (ab _)) a2;right;exact lT hT hl (ht E Q λc3 v3 s3 l3 R3 K3 a3=>hQ c3 v3 s3 ((l1.trans l2 (ab _)).trans l3 (ab _)) R3 ((K1.trans K2).trans K3) a3) (hs _ _)
def PQ (bc:At lay p st O) (h:nZ st o i=aa x) (hA:jG k A) (R:Rel S c O s.heap)
  (hu:cU S.w c ↑O u (o.av p.oi)) (hv:cU S.w c ↑O v (i.av p.oi)):∃T id,s.TypeIs u T/\typeLookup (.type T) "__getitem__" =pure (aa (.builtin id))/\Tr S O A c s (getItem u v) (.pv x) O:=by
 unfold nZ at h;cases e:i.aI with
 |some n=>
  rw[e]at h;rw[CV.kI e]at hv;let ⟨hn,h⟩:=ED h;have vZ:=hv.gi;let ⟨_,rfl⟩:=vZ.kK;unfold Lu at h;cases e2:o.aT with
  |some l=>rw[e2]at h;rw[CV.kT e2]at hu;have Ml:=hu.gi;let ⟨_,_,_,rfl,a,b,d⟩:=Ml.Eu;let ⟨y,hy⟩:=uj b h;have kW:=(iT.mp hy).1;refine⟨"tuple",_,⟨_,R.frozen _ _ a,rfl⟩,F.slot_tuple_getitem.lookup,λE Q hQ=> ?_⟩;exact PyProof.Rows.getItem_tuple ⟨_,R.frozen _ _ a,rfl,_,rfl⟩ (aiw hn) hn.2 (VQ hn.1 (aaT kW)) hy (hQ c _ _ (.refl ..) R (.refl ..) (.pv (d _ _ _ hy h)))
  |none=>
   rw[e2]at h;cases e3:o.aS with
   |some z=>
    rw[e3]at h;rw[CV.kS e3]at hu;have Ml:=hu.gi;let ⟨_,rfl⟩:=Ml.mG;let ⟨ch,hc,rfl⟩:=ar.mp h;have ajH:n< ↑z:=by show n< (z.cps.size:Int);exact aaT ((iT.mp hc).1)
    refine⟨"str",_,sj ..,F.slot_str_getitem.lookup,λE Q hQ=> ?_⟩;refine PyProof.Rows.getItem_str (c:=ch) ?_ ?_ (hQ c _ _ (.refl ..) R (.toks ..) (.pv (.str ..)))
    ·simp;exact aix hn
    ·exact(VQ hn.1 ajH)▸hc
   |none=>rw[e3]at h;refine a9 h λl hl h=> ?_;let ⟨a,vs,m,rfl,ho,qf,hr⟩:=(bc.oB hl).at R hu;let ⟨y,hy⟩:=uj qf h;refine⟨"list",_,⟨_,ho,rfl⟩,Dc.lookup,λE Q hQ=> ?_⟩;exact wpAny_getItem_list (IsL.isList ho) hn.1 hn.2 hy (hQ c _ _ (.refl ..) R (.refl ..) (.pv (hr _ _ _ hy h)))
 |none=>rw[e]at h;refine a9 h λkk e2 h=>a9 h λl hl h=> ?_;rw[CV.kS e2]at hv;have vZ:=hv.gi;let ⟨_,rfl⟩:=vZ.mG;let ⟨a,es,n,kvs,rfl,_,ho,nd,hp⟩:=(bc.W0 hl).at R hu;have hm:=(mJ (hp.dictOf ho nd)).mapOf;let ⟨y,hy,hyv⟩:=hp.get h;refine⟨"dict",_,hm.typeIs,slot_dict_getitem.lookup,λE Q hQ=> ?_⟩;exact wpAny_getItem_of (knd:=strKind pw S.w) (k:=kk) (beq_self_eq_true kk) hm hy (hQ c _ _ (.refl ..) R (.toks ..) (.pv hyv))
def MV:(λu v=>operate [u,v] (getItem u v))=λu v=>operate [u,v] (getItem u v):=rfl
def cT.item (h1:cT S k lay o f) (h2:cT S k lay i g) (hs:subscripted i false=λu v=>operate [u,v] (getItem u v)):cT S k lay (.Subscript o i pos) (bk f g):=by intro p O st v bc hf;let ⟨x,hx,rfl⟩:=ar.mp hf;exact a9 hx λa ha hx=>a9 hx λb hb hx=>Ev.aft (h1 p O st _ bc ha) (h2 p O st _ bc hb) (λA c s u v hA R hu hv=>PQ bc hx hA R hu hv) λu v=>congrFun (congrFun hs u) v
end
section
variable {lay:Lay}
noncomputable def cP {α:Type} (l:List α) (lo hi st:Option Int):List α:=(sliceRange (sliceBounds lo hi st ↑l).1 (sliceBounds lo hi st ↑l).2.1 (sliceBounds lo hi st ↑l).2.2).filterMap (l[·]?)
def Gz {vs:Array Value} {l:List PV} (e:vs.size= ↑l) (hr:∀(i:Nat) (v:Value) (d:PV),vs[i]? =aa v->l[i]? =aa d->dk w F v d):
  ∀(is:Nz),↑(is.filterMap (vs[·]?))= ↑(is.filterMap (l[·]?))/\∀(i:Nat) (v:Value) (d:PV),(is.filterMap (vs[·]?))[i]? =aa v->(is.filterMap (l[·]?))[i]? =aa d->dk w F v d:=by
 intro is;induction is with
 |nil=>exact⟨rfl,λi v d h=>gq h⟩
 |cons j is ih=>
  let ⟨p,q⟩:=ih;rcases bS j vs.size with h|h
  ·have h1:vs[j]? =aa vs[j]:=by simp[h]
   have h2:l[j]? =aa (l[j]'(IV h e)):=aq (IV h e);rw[lM (b:=vs[j]) h1,lM (b:=l[j]'(IV h e)) h2];refine⟨by rw[az,az,p],λi v d a b=> ?_⟩;induction i with
   |zero=>obtain rfl:=ag a;obtain rfl:=ag b;exact hr j _ _ h1 h2
   |succ i=>exact q i v d a b
  ·have h1:vs[j]? =ac:=by simp;exact aaU h
   have h2:l[j]? =ac:=bC (aiy e h);rw[lO h1,lO h2];exact⟨p,q⟩
def Yj (S:cz) (k:Nat) (lay:Lay) (o:Option Expr) (f:St->Option (Option Int)):Prop:=
 ∀p O st v,At lay p st O->f st=aa v->∀A c s env,jG k A->cY c ↑O (lay.en p) env->Rel S c O s.heap->
  ∀(E:VS) (Q:VS),(∀c' (u:Option (Int×Dd)) s',aM.le ↑O c c'->Rel S c' O s'.heap->dY s s'->u.map (·.1)=v->Q (partValue u) s')->wpAny (MM S.w) A (evalPart o env) Q E s
noncomputable def eB (_:St):Option (Option Int):=aa ac
def gV (f:St->Option CV) (st:St):Option (Option Int):=((f st).bind CV.aI).map aa
def Yj.none:Yj S k lay ac eB:=λp O st v q hf A c s env q q R E Q hQ=>by obtain rfl:=ag hf;exact evalPart_none_step (hQ c ac s (.refl ..) R (.refl ..) rfl)
def Yj.some (h:cT S k lay e f):Yj S k lay (aa e) (gV f):=λp O st v bc hf A c s env hA hE R E Q hQ=>by let ⟨n,hn,rfl⟩:=ar.mp hf;refine a9 hn λq hn e=> ?_;rw[CV.kI e]at hn;refine evalPart_some_step ((h p O st _ bc hn).run A c s env hA hE R _ _ λc1 v1 s1 l1 R1 K1 a1=> ?_);have Km:=a1.gi;let ⟨t,rfl⟩:=Km.kK;exact hQ c1 (aa (n,t)) s1 l1 R1 K1 rfl
def ph (st:St) (o:CV) (lo hi step:Option Int):Option PV:=
 (o.aS.bind λx=>if step=ac/\ ↑x<=sizeLine then aa (.str (lj x lo hi)) else ac).or
  ((st.oB o).bind λl=>if ↑l<=sizeLine/\step≠aa 0 then aa (.lst (cP l lo hi step)) else ac)
def fN (f:St->Option CV) (lo hi step:St->Option (Option Int)) (st:St):Option CV:=
 (f st).bind λo=>(lo st).bind λa=>(hi st).bind λb=>(step st).bind λd=>(ph st o a b d).map .pv
def sZ (u:Option (Int×Dd)):IsPart (partValue u) (u.map (·.1)):=by
 induction u with
 |none=>exact .none
 |some x=>exact .int x.1 x.2
def cT.slice {lo hi step:Option Expr} (h:cT S k lay gP f) (hl:Yj S k lay lo fl) (hh:Yj S k lay hi fh) (hs:Yj S k lay step fs):
  cT S k lay (.Subscript gP (.Slice lo hi step q) pos) (fN f fl fh fs):=by
 intro p O st v bc hf;refine a9 hf λo ho hf=>a9 hf λa ha hf=>a9 hf λb hb hf=>a9 hf λd hd hf=> ?_;let ⟨x,hx,rfl⟩:=ar.mp hf;refine⟨ab _,λA c s env hA hE R E Q hQ=> ?_⟩;refine pP ((h p O st _ bc ho).run A c s env hA hE R _ _ λc1 v1 s1 l1 R1 K1 a1=> ?_);refine wpAny_Slice (hl p O st _ bc ha A c1 s1 env hA (hE.mono l1 (ab _)) R1 _ _ λc2 u2 s2 l2 R2 K2 e2=> ?_);have uL:=l1.trans l2 (ab _);refine hh p O st _ bc hb A c2 s2 env hA (hE.mono uL (ab _)) R2 _ _ λc3 u3 s3 l3 R3 K3 e3=> ?_;have Of:=uL.trans l3 (ab _);refine hs p O st _ bc hd A c3 s3 env hA (hE.mono Of (ab _)) R3 _ _ λc4 u4 s4 l4 R4 K4 e4=> ?_;have a4:=((a1.mono l2 (ab _)).mono l3 (ab _)).mono l4 (ab _);have C5:∀(u v:Value),∃ops,subscripted (.Slice lo hi step q) false u v=operate ops (getItem u v):=by
  intro u v;induction step with
  |none=>exact⟨_,rfl⟩
  |some e=>exact⟨_,rfl⟩
 let ⟨ops,agg⟩:=C5 v1 (.ref s4.heap.objs.size);have K4':=((K1.trans K2).trans K3).trans K4;have Xk:=Of.trans l4 (ab _);have R5:Rel S c4 O (s4.heap.push {cls:= .type "slice",data:= .fields #[partValue u2,partValue u3,partValue u4]}):=R4.ext λb o e=>aJ _ e;refine orE hx (λhx=>a9 hx λz e hx=> ?_) λhx=>a9 hx λl hl' hx=> ?_
 ·obtain rfl:=CV.kS e;let ⟨hz,rfl⟩:=dS hx;have a4':=a4.gi;let ⟨t,rfl⟩:=a4'.mG;let ⟨rz,cI⟩:=hz;subst rz;have:u4=ac:=by simpa using e4
  subst this;refine lT (T:= "str") (sj ..) F.slot_str_getitem.lookup ?_ agg;refine wpAny_getItem_str_slice (l:=u2) (u:=u3) (st:=ac) ⟨_,aV _ rfl,rfl,rfl⟩ rfl ?_;rw[<- e2,<- e3]at hQ;exact post_val_or_str ⟨aA (Txt.slice_le z _ _) cI,λt' kk=>hQ c4 _ _ Xk R5 (K4'.trans (.heap ..)) (.pv (.str ..))⟩
 ·let ⟨hz,rfl⟩:=dS hx;left;let ⟨cI,rz⟩:=hz;let ⟨ad,vs,m,rfl,se,qf,hr⟩:=(bc.oB hl').at R5 a4;right;refine lT (T:= "list") ⟨_,se,rfl⟩ Dc.lookup ?_ agg;refine wpAny_getItem_list_slice (IsL.isList se) (Heap.IsSliceOf.new ..) (sZ _) (sZ _) (sZ _) (by rw[e4];exact rz) ?_ (qf▸cI);rw[e2,e3,e4];have hF:=R5.oz (ab _);refine hQ _ _ _ (Xk.trans (aM.dC hF) (ab _)) (Rel.sW (s:= {s4 with heap:=_}) R5) (K4'.trans (.gF ..)) (.pv (.lst (vs:=slicePick vs _ _ _) (if_pos rfl) ?_ λi v d' hv AB=> ?_))
  ·have:=(Gz qf hr (sliceRange (sliceBounds a b d ↑l).1 (sliceBounds a b d ↑l).2.1 (sliceBounds a b d ↑l).2.2)).1;unfold slicePick cP;rw[Ta,qf];exact this
  ·have:=(Gz qf hr (sliceRange (sliceBounds a b d ↑l).1 (sliceBounds a b d ↑l).2.1 (sliceBounds a b d ↑l).2.2)).2 i v d';unfold slicePick at hv;rw[List.getElem?_toArray,qf]at hv;exact(this hv AB).mono (aM.dC (n:=0) hF).F
end
structure nu (S:cz) (k:Nat) (O:List AO) (fv:Value) (ds:List AV) (d:AV) (bv:List AO):Prop where
 len: ↑O<= ↑bv
 run:∀A c s vs,jG k A->Rel S c O s.heap->dg S.w c ↑O vs ds->Tr S O A c s (call fv vs) d bv
def Ev.PR (Kn:(∃id,fv= .builtin id)\/∃T,fv= .type T)
  (hf:nL S k O ae (.Name f np) (.con fv)) (ha:ck S k O ae args ds) (hc:nu S k O fv ds d bv):Ev S k O ae (.Call (.Name f np) args [] pos) d bv:=by
 refine⟨hc.len,?_⟩;intro A c s env hA hE R E Q hQ;refine cn (hf.run A c s env hA hE R _ _ λc1 v1 s1 l1 R1 K1 a1=> ?_);rw[a1.dn];have fin:wpAny (MM S.w) A (evalArgs fv true (backTo pos (starEach args env)) []) (λa eD=>wpAny (MM S.w) A (call fv ([]++a.pos) a.kw) Q E eD) E s1:=by refine ef ha _ pos A c1 s1 env hA (hE.mono l1 (ab _)) R1 _ _ λc2 vs s2 l2 R2 K2 a2=> ?_;exact hc.run A c2 s2 vs hA R2 a2 E Q λc3 v3 s3 l3 R3 K3 a3=>hQ c3 v3 s3 ((l1.trans l2 (ab _)).trans l3 (ab _)) R3 ((K1.trans K2).trans K3) a3
 rcases Kn with⟨id,e'⟩|⟨T,e'⟩
 ·rw[e']at fin⊢;exact cX (noStar ha pos env) fin
 ·rw[e']at fin⊢;exact ec (noStar ha pos env) fin
section
variable {lay:Lay}
def fy (S:cz) (k:Nat) (fv:Value) (g:St->List CV->Option CV):Prop:=
 ∀(lay:Lay) (p:IF) (O:List AO) (st:St) (ds:List CV) (v:CV),At lay p st O->g st ds=aa v->nu S k O fv (ds.map (CV.av p.oi)) (v.av p.oi) O
noncomputable def dJ (g:St->List CV->Option CV) (fa:St->Option (List CV)) (st:St):Option CV:=(fa st).bind (g st)
def cT.call (hc:fy S k fv g) (Kn:(∃id,fv= .builtin id)\/∃T,fv= .type T)
  (h:lay.mh f=true) (hg:(f,ac)∈cg) (hb:(f,aa fv)∈ly) (ha:pU S k lay args fa):cT S k lay (.Call (.Name f np) args [] pos) (dJ g fa):=by
 intro p O st v bc hf;unfold dJ at hf;let ⟨ds,hd,hv⟩:=aG.mp hf;exact Ev.PR Kn (Ev.PM h hg hb) (ha p O st _ bc hd) (hc lay p O st ds v bc hv)
noncomputable def one (F:CV->Option CV):List CV->Option CV
 | []=>ac
 | [v]=>F v
 |_::_::_=>ac
def um (h:one F ds=aa v):∃x,ds=[x]/\F x=aa v:=by
 cases ds with
 |nil=>exact gq h
 |cons x l=>induction l with
  |nil=>exact⟨x,rfl,h⟩
  |cons=>exact gq h
def kq (st:St):List CV->Option CV:=one λv=>match v.aS with
 |some x=>if ↑x<=sizeLine then ~~~(.int ↑x) else ac
 |none=>(st.oB v).bind λl=>if ↑l<=sizeLine then ~~~(.int ↑l) else ac
def A6 (h:n<=sizeLine):(n:Int)<2 ^ 63:=by have:sizeLine=2 ^ 24:=rfl;exact aiz h this
def fy.len:fy S k (.builtin "len") kq:=by
 intro lay p O st ds v bc h;have q:=um h;clear h;let ⟨x,rfl,h⟩:=q;cases e:x.aS with
 |some x=>rw[e]at h;obtain rfl:=CV.kS e;let ⟨hs,rfl⟩:=dS h;refine⟨ab _,λA c s vs hA R ha E Q hQ=> ?_⟩;let ⟨_,_,rfl,a,b⟩:=ha.i1;obtain rfl:=b.i0;have a':=a.gi;let ⟨_,rfl⟩:=a'.mG;exact PyProof.Rows.len_str (by have:=A6 hs;exact aiA this) (hQ c _ _ (.refl ..) R (.toks ..) (.pv (.int ..)))
 |none=>rw[e]at h;let ⟨l,hl,h⟩:=aG.mp h;let ⟨hs,rfl⟩:=dS h;have:=zd.len_list (S:=S) (k:=k) (bc.oB hl) (A6 hs);exact⟨this.len,this.run⟩
noncomputable def jQ:List PV->Option (List Int)
 | []=>aa []
 | .int n::l=>(jQ l).map (n:: ·)
 |_::_=>ac
def pj (ns:List Int):jQ (ns.map PV.int)=aa ns:=by
 induction ns with
 |nil=>rfl
 |cons n ns ih=>rw[bx];show(jQ _).map _=_;rw[ih];rfl
def EE {vs:Vs} {l:List PV} {ns:List Int} (h:jQ l=aa ns) (hl: ↑vs= ↑l) (hr:∀(i:Nat) (v:Value) (d:PV),vs[i]? =aa v->l[i]? =aa d->dk w F v d):
  ∃xs:List (Int×Dd),vs=xs.map (λp=> .int p.1 p.2)/\xs.map (·.1)=ns:=by
 replace hl:=Th.of hl;induction hl generalizing ns with
 |nil=>obtain rfl:=ag h;exact⟨[],rfl,rfl⟩
 |cons v d _ ih=>
  cases d with
  |int n=>let ⟨ns',h2,rfl⟩:=ar.mp h;let ⟨xs,e1,e2⟩:=ih h2 λi v d a b=>hr (i+1) v d a b;let ⟨t,e⟩:=(hr 0 v _ rfl rfl).kK;exact⟨(n,t)::xs,by rw[e,e1];rfl,by rw[<- e2];rfl⟩
  |_=>exact gq h
def IsL.ints (hl:IsL O d l) (R:Rel S c O h) (hv:cU S.w c ↑O v d) (hn:jQ l=aa ns):
  ∃a xs,v= .ref a/\h.IsList a (intItems xs)/\xs.toList.map (·.1)=ns:=by
 left;let ⟨a,vs,n,rfl,ho,hs,hr⟩:=hl.at R hv;let ⟨xs,h1,h2⟩:=EE hn (bz▸hs) (dk.T7 hr);right;refine⟨a,xs.toArray,rfl,?_,h2⟩;have:vs=intItems xs.toArray:=by apply Array.ext';rw[h1];simp[intItems]
 exact this▸IsL.isList ho
def MW (st:St):List CV->Option CV:=one λv=>(st.oB v).bind λl=>(jQ l).map λns=> .pv (.int ns.sum)
def fy.sum:fy S k (.builtin "sum") MW:=by intro lay p O st ds v bc h;have q:=um h;clear h;let ⟨x,rfl,h⟩:=q;let ⟨l,hl,h⟩:=aG.mp h;let ⟨ns,hn,rfl⟩:=ar.mp h;refine⟨ab _,λA c s vs hA R ha E Q hQ=> ?_⟩;let ⟨_,_,rfl,a,b⟩:=ha.i1;obtain rfl:=b.i0;let ⟨ad,xs,rfl,hI,rfl⟩:=(bc.oB hl).ints R a hn;refine sum_intListG hA.hn hI λh' tk t' hk=> ?_;rw[(by rw[preSum_eq,eO (by simp)]:preSum (numAt xs) xs.size=(xs.toList.map (·.1)).sum)];exact hQ c _ _ (.refl ..) (R.ext hk) (.heap ..) (.pv (.int ..))
noncomputable def Ud (a b:UInt64):UInt64:=if KV a b==aa ni then b else a
noncomputable def Ue (a b:UInt64):UInt64:=if KV b a==aa ni then b else a
noncomputable def MX:List Int->Option Int
 | []=>ac
 |n::r=>aa (r.foldl max n)
noncomputable def afu:List Int->Option Int
 | []=>ac
 |n::r=>aa (r.foldl min n)
def ta (l:List Int) (n:Int):(l.foldl max n=n\/l.foldl max n∈l)/\n<=l.foldl max n/\∀a∈l,a<=l.foldl max n:=by
 induction l generalizing n with
 |nil=>exact⟨.inl rfl,wy _,λa ha=>by cases ha⟩
 |cons b l ih=>
  let ⟨p,q,r⟩:=ih (max n b);rw[jg];refine⟨?_,by exact aiB q,λa ha=> ?_⟩
  ·rcases p with p|p
   ·rw[p];rcases Int.le_total n b with h|h
    ·exact .inr (by rw[V0 h];exact ay)
    ·exact .inl (XM h)
   ·exact .inr (aK _ p)
  ·rcases aH.mp ha with h|h
   ·subst h;exact aiC q
   ·exact r a h
def A7 (l:List Int) (n:Int):(l.foldl min n=n\/l.foldl min n∈l)/\l.foldl min n<=n/\∀a∈l,l.foldl min n<=a:=by
 induction l generalizing n with
 |nil=>exact⟨.inl rfl,wy _,λa ha=>by cases ha⟩
 |cons b l ih=>
  let ⟨p,q,r⟩:=ih (min n b);rw[jg];refine⟨?_,by exact aiD q,λa ha=> ?_⟩
  ·rcases p with p|p
   ·rw[p];rcases Int.le_total n b with h|h
    ·exact .inl (XK h)
    ·exact .inr (by rw[VZ h];exact ay)
   ·exact .inr (aK _ p)
  ·rcases aH.mp ha with h|h
   ·subst h;exact aiE q
   ·exact r a h
def Dq (h:MX l=aa M):M∈l/\∀a∈l,a<=M:=by
 cases l with
 |nil=>nomatch h
 |cons n r=>
  obtain rfl:=ag h;let ⟨p,q,t⟩:=ta r n;refine⟨?_,λa ha=> ?_⟩
  ·rcases p with p|p
   ·rw[p];exact ay
   ·exact aK _ p
  ·rcases aH.mp ha with h|h
   ·subst h;exact q
   ·exact t a h
def MY (h:afu l=aa M):M∈l/\∀a∈l,M<=a:=by
 cases l with
 |nil=>nomatch h
 |cons n r=>
  obtain rfl:=ag h;let ⟨p,q,t⟩:=A7 r n;refine⟨?_,λa ha=> ?_⟩
  ·rcases p with p|p
   ·rw[p];exact ay
   ·exact aK _ p
  ·rcases aH.mp ha with h|h
   ·subst h;exact q
   ·exact t a h
def Dr (hi:i<xs.size):(xs.toList.map (·.1))[i]? =aa (numAt xs i):=by simp[numAt,hi]
def Ds (hi:i<xs.size):numAt xs i∈xs.toList.map (·.1):=bo (Dr hi)
def Dt (h:a∈xs.toList.map (·.1)):∃i,i<xs.size/\numAt xs i=a:=by
 let ⟨i,hi,e⟩:=wH h;have H8:i<xs.size:=by simpa using hi
 refine⟨i,H8,?_⟩;have:=Dr H8;rw[aq hi,e]at this;exact(ag this).symm
def dg.n1 {P:List Value->Prop} (ha:dg w c n vs [a]) (k:∀x,cU w c n x a->P [x]):P vs:=by let ⟨_,_,rfl,a1,h1⟩:=ha.i1;obtain rfl:=h1.i0;exact k _ a1
def dg.n2 {P:List Value->Prop} (ha:dg w c n vs [a,b]) (k:∀x y,cU w c n x a->cU w c n y b->P [x,y]):P vs:=by let ⟨_,_,rfl,a1,h1⟩:=ha.i1;exact h1.n1 (P:=λl=>P (_::l)) λy=>k _ y a1
def dg.n3 {P:List Value->Prop} (ha:dg w c n vs [a,b,d]) (k:∀x y z,cU w c n x a->cU w c n y b->cU w c n z d->P [x,y,z]):P vs:=by let ⟨_,_,rfl,a1,h1⟩:=ha.i1;exact h1.n2 (P:=λl=>P (_::l)) λy z=>k _ y z a1
def gMM (mI:List Int->Option Int) (r:Int->Int->Prop) [∀a b,Decidable (r a b)] (mF:UInt64->UInt64->UInt64) (st:St):List CV->Option CV
 | []=>ac
 | [v]=>(st.oB v).bind λl=>(jQ l).bind λns=>(mI ns).map λm=> .pv (.int m)
 | [x,y]=>x.aI.bind λa=>y.aI.map λb=> .pv (.int (if r b a then b else a))
 | [x,y,z]=>x.aF.bind λa=>y.aF.bind λb=>z.aF.map λd=> .pv (.fE (mF (mF a b) d))
 |_::_::_::_::_=>ac
def EG:St->List CV->Option CV:=gMM MX (λb a=>b>a) Ud
def MZ:St->List CV->Option CV:=gMM afu (λb a=>b<a) Ue
def A8 (hh:A.handled=ac)
  (So:∀Q:Value->bb->Prop,wpAny (MM w) A.in1 (pyIter (.ref s.heap.objs.size)) (λit rr=>∃I fp wr n P St bt,it= .ref I/\Walks pw w A.in1 I fp wr n P St/\St 0 rr.heap/\(∀b∈fp,b<rr.heap.objs.size)/\0<n/\CmpOf pw w A.in1 op P bt/\
   ∀v h' tk,P (argBest bt (n- 1)) v->(∀b o,b∉wr->rr.heap.get? b=aa o->h'.get? b=aa o)->Q v {rr with heap:=h',toks:=tk}) E
   {s with heap:=s.heap.push {cls:= .type "tuple",data:= .seq #[a,b,d]}}->wpAny (MM w) A (call (.builtin fn) [a,b,d]) Q E s)
  (ajJ:CmpOf pw w A.in1 op (λi v=>(#[a,b,d]:Array Value)[i]? =aa v) bt)
  (h:∀v h' tk,(#[a,b,d]:Array Value)[argBest bt 2]? =aa v->(∀c o,s.heap.get? c=aa o->h'.get? c=aa o)->Q v {s with heap:=h',toks:=tk}):
  wpAny (MM w) A (call (.builtin fn) [a,b,d]) Q E s:=by
 have hT:(s.heap.push {cls:= .type "tuple",data:= .seq #[a,b,d]}).IsTuple s.heap.objs.size #[a,b,d]:=⟨_,aV _ rfl,rfl,0,rfl⟩;refine So Q (Cm hT ?_);have hsz:(s.heap.push {cls:= .type "tuple",data:= .seq #[a,b,d]}).objs.size=s.heap.objs.size+1:=eT ..;refine⟨_,[_,s.heap.objs.size],[_],_,_,_,_,rfl,u0 (A:=A.in1) hh _ s.heap.objs.size (by rw[hsz];exact cM (eu _)) #[a,b,d],
  ⟨⟨_,aV _ rfl,rfl,rfl⟩,hT.push _⟩,λc hc=> ?_,by simp,ajJ,λv h' tk hP hk=> ?_⟩
 ·show c< ((s.heap.push _).push _).objs.size;rw[eT,hsz];rcases aH.mp hc with rfl|hc
  ·rw[hsz];exact eu _
  ·rcases aH.mp hc with rfl|hc
   ·exact eH (eu _)
   ·nomatch hc
 ·refine h v h' tk hP λc o e=> ?_;refine hk c o (λhm=> ?_) (aJ _ (aJ _ e));rcases aH.mp hm with e1|hm
  ·have:=bW e;rw[e1,hsz]at this;exact lU _ (Nat.lt_of_succ_lt this)
  ·nomatch hm
def W1 {bt:Nat->Nat->Bool} (h:(#[a,b,d]:Array Value)[argBest bt 2]? =aa v):v=if bt 1 0 then(if bt 2 1 then d else b) else if bt 2 0 then d else a:=by
 have h:(#[a,b,d]:Array Value)[if bt 2 (if bt 1 0 then 1 else 0) then 2 else if bt 1 0 then 1 else 0]? =aa v:=h;by_cases h1:bt 1 0=true
 ·rw[if_pos h1]at h⊢;by_cases h2:bt 2 1=true
  ·rw[if_pos h2]at h⊢;exact(ag h).symm
  ·rw[if_neg h2]at h⊢;exact(ag h).symm
 ·rw[if_neg h1]at h⊢;by_cases h2:bt 2 0=true
  ·rw[if_pos h2]at h⊢;exact(ag h).symm
  ·rw[if_neg h2]at h⊢;exact(ag h).symm
abbrev Kp (s:bb) (h':iR):Prop:=∀b o,s.heap.get? b=aa o->h'.get? b=aa o
def fy.mm {id:String} {mI:List Int->Option Int} {r:Int->Int->Prop} [∀a b,Decidable (r a b)] {mF:UInt64->UInt64->UInt64}
  (h1:∀ {A:cS} {s:bb} {a:Addr} {xs:Array (Int×Dd)} {m:Int} {E Q:VS},A.handled=ac->s.heap.IsList a (intItems xs)->0<xs.size->mI (xs.toList.map (·.1))=aa m->(∀t h' tk,Kp s h'->Q (.int m t) {s with heap:=h',toks:=tk})->wpAny (MM S.w) A (call (.builtin id) [.ref a]) Q E s)
  (h0:mI []=ac)
  (h2:∀ {A:cS} {s:bb} {a b:Int} {t u:Dd} {E Q:VS},A.handled=ac->(∀h' tk,Kp s h'->Q (if r b a then .int b u else .int a t) {s with heap:=h',toks:=tk})->wpAny (MM S.w) A (call (.builtin id) [.int a t,.int b u]) Q E s)
  (h3:∀ {A:cS} {s:bb} {x y z:UInt64} {t u v:Dd} {E Q:VS},A.handled=ac->(∀t h' tk,Kp s h'->Q (.float (mF (mF x y) z) t) {s with heap:=h',toks:=tk})->wpAny (MM S.w) A (call (.builtin id) [.float x t,.float y u,.float z v]) Q E s):
  fy S k (.builtin id) (gMM mI r mF):=by
 intro lay p O st ds v bc h;rcases ds with _|⟨u,_|⟨w,_|⟨t,_|_⟩⟩⟩
 ·exact gq h
 ·refine a9 h λl hl h=>a9 h λns hn h=> ?_;let ⟨m,hm,rfl⟩:=ar.mp h;refine⟨ab _,λA c s vs hA R ha E Q hQ=> ?_⟩;refine ha.n1 (P:=λvs=>wpAny _ _ (call _ vs) _ _ _) λu a=> ?_;let ⟨ad,xs,rfl,hI,rfl⟩:=(bc.oB hl).ints R a hn;refine h1 hA.hn hI ?_ hm λt h' tk hk=>hQ c _ _ (.refl ..) (R.ext hk) (.heap ..) (.pv (.int ..));rcases yX xs.size with e|e
  ·rw[Array.eq_empty_of_size_eq_zero e]at hm;exact gq (h0.symm.trans hm)
  ·exact e
 ·refine a9 h λx e1 h=> ?_;let ⟨y,e2,rfl⟩:=ar.mp h;rw[CV.kI e1,CV.kI e2];refine⟨ab _,λA c s vs hA R ha E Q hQ=> ?_⟩;refine ha.n2 (P:=λvs=>wpAny _ _ (call _ vs) _ _ _) λu v a1 a2=> ?_;let ⟨t1,rfl⟩:=a1.gi.kK;let ⟨t2,rfl⟩:=a2.gi.kK;refine h2 hA.hn λh' tk hk=> ?_;by_cases hc:r y x
  ·rw[if_pos hc]at hQ⊢;exact hQ c _ _ (.refl ..) (R.ext hk) (.heap ..) (.pv (.int ..))
  ·rw[if_neg hc]at hQ⊢;exact hQ c _ _ (.refl ..) (R.ext hk) (.heap ..) (.pv (.int ..))
 ·refine a9 h λx e1 h=>a9 h λy e2 h=> ?_;let ⟨z,e3,rfl⟩:=ar.mp h;rw[CV.kF e1,CV.kF e2,CV.kF e3];refine⟨ab _,λA c s vs hA R ha E Q hQ=> ?_⟩;refine ha.n3 (P:=λvs=>wpAny _ _ (call _ vs) _ _ _) λu v w a1 a2 a3=> ?_;let ⟨t1,rfl⟩:=a1.gi.Et;let ⟨t2,rfl⟩:=a2.gi.Et;let ⟨t3,rfl⟩:=a3.gi.Et;exact h3 hA.hn λt h' tk hk=>hQ c _ _ (.refl ..) (R.ext hk) (.heap ..) (.pv (.fE ..))
 ·exact gq h
def fl3 (x y z:UInt64) (t u v:Dd):∀a∈ #[Value.float x t,.float y u,.float z v],Flt.NumV a:=by intro a h;simp at h;rcases h with rfl|rfl|rfl<;>exact .float _ _
def fy.max:fy S k (.builtin "max") EG:=
 .mm (λhA hI oS hm hQ=>max_intList hA hI oS λv h' tk hP hk=>by
   let ⟨b1,b2⟩:=argBest_gt (numAt _) (Array.size _- 1);let ⟨t,rfl⟩:=intItems_at hP;let ⟨q1,q2⟩:=Dq hm;let ⟨i,hi,H8⟩:=Dt q1;rw[aiF (q2 _ (Ds (aaW b1 hi))) H8 (b2 i (aaV hi))];exact hQ t h' tk hk) rfl max_two_ints
  λ{A s x y z t u v E Q} hA hQ=>A8 hA (λQ=>call_max_three) (Flt.cmpOf_gt _ (fl3 _ _ _ _ _ _)) λv h' tk hP hk=>by
   obtain⟨t,rfl⟩:∃t,v= .float (Ud (Ud x y) z) t:=by
    refine W1 hP▸ ?_;show∃t,(if (fL x y==aa .lt)=true then _ else _)=_;unfold Ud;rw[vC];by_cases h1:(fL x y==aa .lt)=true
    ·rw[if_pos h1,if_pos h1];show∃t,(if (fL y z==aa .lt)=true then _ else _)=_;by_cases h2:(fL y z==aa .lt)=true
     ·rw[if_pos h2,if_pos h2];exact⟨_,rfl⟩
     ·rw[if_neg h2,if_neg h2];exact⟨_,rfl⟩
    ·rw[if_neg h1,if_neg h1];show∃t,(if (fL x z==aa .lt)=true then _ else _)=_;by_cases h2:(fL x z==aa .lt)=true
     ·rw[if_pos h2,if_pos h2];exact⟨_,rfl⟩
     ·rw[if_neg h2,if_neg h2];exact⟨_,rfl⟩
   exact hQ t h' tk hk
def fy.min:fy S k (.builtin "min") MZ:=
 .mm (λhA hI oS hm hQ=>min_intList hA hI oS λv h' tk hP hk=>by
   let ⟨b1,b2⟩:=argBest_lt (numAt _) (Array.size _- 1);let ⟨t,rfl⟩:=intItems_at hP;let ⟨q1,q2⟩:=MY hm;let ⟨i,hi,H8⟩:=Dt q1;rw[aiG (b2 i (aaV hi)) (q2 _ (Ds (aaW b1 hi))) H8];exact hQ t h' tk hk) rfl min_two_ints
  λ{A s x y z t u v E Q} hA hQ=>A8 hA (λQ=>call_min_three) (Flt.cmpOf_lt _ (fl3 _ _ _ _ _ _)) λv h' tk hP hk=>by
   obtain⟨t,rfl⟩:∃t,v= .float (Ue (Ue x y) z) t:=by
    refine W1 hP▸ ?_;show∃t,(if (fL y x==aa .lt)=true then _ else _)=_;unfold Ue;rw[vC];by_cases h1:(fL y x==aa .lt)=true
    ·rw[if_pos h1,if_pos h1];show∃t,(if (fL z y==aa .lt)=true then _ else _)=_;by_cases h2:(fL z y==aa .lt)=true
     ·rw[if_pos h2,if_pos h2];exact⟨_,rfl⟩
     ·rw[if_neg h2,if_neg h2];exact⟨_,rfl⟩
    ·rw[if_neg h1,if_neg h1];show∃t,(if (fL z x==aa .lt)=true then _ else _)=_;by_cases h2:(fL z x==aa .lt)=true
     ·rw[if_pos h2,if_pos h2];exact⟨_,rfl⟩
     ·rw[if_neg h2,if_neg h2];exact⟨_,rfl⟩
   exact hQ t h' tk hk
def rL (_:St):List CV->Option CV:=one λv=>v.aF.bind λx=>if jx x then ~~~(.int (qz ia x)) else ac
noncomputable def Yk:Float64.Num->Option Int
 | .fin sg m e=>aa (Float64.truncOf sg m e)
 | .nan=>ac
 | .inf _=>ac
def afv (_:St):List CV->Option CV:=one λv=>v.aF.bind λx=>(Yk (jy x)).map λi=> .pv (.int i)
def Ug (h:jx x=true):Tx x=false/\nh x=false:=by revert h;unfold jx Tx nh;cases jy x<;>intro h<;>first|exact⟨rfl,rfl⟩|cases h
def fy.round:fy S k (.builtin "round") rL:=by intro lay p O st ds v bc h;have q:=um h;clear h;let ⟨x,rfl,h⟩:=q;let ⟨x,e,h⟩:=aG.mp h;obtain rfl:=CV.kF e;let ⟨Sq,rfl⟩:=dS h;let ⟨f1,f2⟩:=Ug Sq;refine⟨ab _,λA c s vs hA R ha E Q hQ=> ?_⟩;let ⟨_,_,rfl,a,b⟩:=ha.i1;obtain rfl:=b.i0;have a':=a.gi;let ⟨_,rfl⟩:=a'.Et;exact Flt.call_round_float hA.hn (λe=>by rw[f1]at e;nomatch e) (λe=>by rw[f2]at e;nomatch e) λz=>hQ c _ _ (.refl ..) R (.toks ..) (.pv (.int ..))
def fy.int:fy S k (.type "int") afv:=by
 intro lay p O st ds v bc h;have q:=um h;clear h;let ⟨x,rfl,h⟩:=q;let ⟨x,e,g⟩:=aG.mp h;clear h;let ⟨i,h,rfl⟩:=ar.mp g;clear g;obtain rfl:=CV.kF e;cases hd:jy x with
 |nan=>rw[hd]at h;exact gq h
 |inf=>rw[hd]at h;exact gq h
 |fin sg m e=>
  rw[hd]at h;obtain rfl:=ag h
  ·skip
   refine⟨ab _,λA c s vs hA R ha E Q hQ=> ?_⟩;let ⟨_,_,rfl,a,b⟩:=ha.i1;obtain rfl:=b.i0;have a':=a.gi;let ⟨_,rfl⟩:=a'.Et;exact call_int_float hd (hQ c _ _ (.refl ..) R (.toks ..) (.pv (.int ..)))
def Lv (st:St):List CV->Option CV:=one λv=>(st.oB v).bind λl=>if ↑l<=sizeLine then ~~~(.lst l) else ac
def fy.list:fy S k (.type "list") Lv:=by
 intro lay p O st ds v bc h;have q:=um h;clear h;let ⟨x,rfl,h⟩:=q
 ·let ⟨l,hl,h⟩:=aG.mp h
  ·let ⟨hs,rfl⟩:=dS h;refine⟨ab _,λA c s vs hA R ha E Q hQ=> ?_⟩;let ⟨_,_,rfl,a,b⟩:=ha.i1;obtain rfl:=b.i0;let ⟨ad,us,n,rfl,ho,hsz,hr⟩:=(bc.oB hl).at R a;refine call_list_seq ad (.inl rfl) ho rfl rfl (λh' c' hk hn=> ?_) (by simp_all);have hF:=R.oz (ab _);exact hQ _ _ _ (aM.dC hF) (R.put hk (ab _) hn) (.gF ..) (.pv (.lst (if_pos rfl) hsz λi v d h1 h2=>(hr i v d h1 h2).mono (aM.dC (n:=0) hF).F))
end
section
variable {lay:Lay}
noncomputable def obT:Option CO->Option String
 |some (.list _)=>aa "list"
 |some (.dict _)=>aa "dict"
 |_=>ac
def Uh (st:St):CV->Option String
 | .pv (.str _)=>aa "str"
 | .pv (.lst _)=>aa "list"
 | .pv (.tup _)=>aa "tuple"
 | .pv (.oQ _)=>aa "dict"
 | .ob j=>obT st.ob[j]?
 |_=>ac
def w0 {s:bb} (h:s.heap.get? a=aa o) (hc:o.cls= .type T) (hd:o.dict=ac):s.TypeIs (.ref a) T/\∀b,eL a= .ref b->∃ob,s.heap.get? b=aa ob/\ob.dict=ac:=
 ⟨⟨_,h,hc⟩,λb e=>by injection e with e;exact e▸⟨_,h,hd⟩⟩
def z9 (bc:At lay p st O) {v:CV} {T:String} (h:Uh st v=aa T) {c:aM} {s:bb} (R:Rel S c O s.heap) {u:Value} (hu:cU S.w c ↑O u (v.av p.oi)):
  s.TypeIs u T/\∀a,u= .ref a->∃ob,s.heap.get? a=aa ob/\ob.dict=ac:=by
 induction v with
 |pv d=>
  have hu:=hu.gi;cases d with
  |str x=>obtain rfl:=ag h;let ⟨_,rfl⟩:=hu.mG;exact⟨sj ..,λa e=>Value.noConfusion e⟩
  |lst l=>obtain rfl:=ag h;let ⟨_,_,_,rfl,x,_⟩:=hu.ym;exact w0 (R.frozen _ _ x) rfl rfl
  |tup l=>obtain rfl:=ag h;let ⟨_,_,_,rfl,x,_⟩:=hu.Eu;exact w0 (R.frozen _ _ x) rfl rfl
  |oQ l=>obtain rfl:=ag h;let ⟨_,_,rfl,_,x,_,_,rfl,_⟩:=hu.Yd;exact w0 (R.frozen _ _ x) rfl rfl
  |_=>exact gq h
 |ob j=>
  let ⟨rfl,_⟩:=hu.zN;have h:obT st.ob[j]? =aa T:=h;cases e:st.ob[j]? with
  |none=>rw[e]at h;exact gq h
  |some b=>
   rw[e]at h;let ⟨o,ho,hr⟩:=R.own _ _ (bc.obs _ _ e);induction b with
   |list l=>obtain rfl:=ag h;let ⟨_,_,rfl,_⟩:=hr.zb;exact w0 ho rfl rfl
   |dict l=>obtain rfl:=ag h;let ⟨_,_,rfl,_⟩:=hr.PC;exact w0 ho rfl rfl
   |_=>exact gq h
 |inst j=>exact gq h
def eP (T:String) (g:St->List CV->Option CV) (f:St->Option CV) (fa:St->Option (List CV)) (st:St):Option CV:=
 (f st).bind λo=>(fa st).bind λds=>if Uh st o=aa T then g st (o::ds) else ac
def A9 (h:ck S k O ae args ds) (pos:Pos) (env:lY) (hn: ↑args<30):
  ((backTo pos (starEach args env)).all (λx=> !x.1)&&(backToKw pos (keywordEach [] env)).all (λx=>x.1.isSome)&&decide (↑args+ ↑([]:List Keyword)+(if ([]:List Keyword).isEmpty then 0 else 1)<30))=true:=by
 have h1:(backTo pos (starEach args env)).all (λx=> !x.1)=true:=by have:=noStar h pos env;rw[IB];simpa using this
 rw[h1];rw[(decide_eq_true (hn))];rfl
def cT.tb {T id:String}
  (hc:fy S k (.builtin id) g) (pa:PlainAttrs T) (KR:Slot T name id) (hty:typeOf (.builtin id)=pure (.type "method_descriptor"))
  (h:cT S k lay o f) (ha:pU S k lay args fa) (ik:∀env,attributeBase o name env (eval o env)=eval o env) (gC:(jz.endLine==pos.line)=true) (hn: ↑args<30):
  cT S k lay (.Call (.Attribute o name jz) args [] pos) (eP T g f fa):=by
 intro p O st v bc hf;refine a9 hf λd hd hf=>a9 hf λds Zo hf=> ?_;let ⟨ht,hf⟩:=ED hf;have IJ:=ha p O st _ bc Zo;refine⟨ab _,λA c s env hA hE R E Q hQ=> ?_⟩;refine eJ (ik env) (A9 IJ pos env hn) gC ((h p O st _ bc hd).run A c s env hA hE R _ _ λc1 v1 s1 l1 R1 K1 a1=> ?_);let ⟨hT,tX⟩:=z9 bc ht R1 a1;refine⟨T,id,pa,KR,hty,hT,tX,cX (noStar IJ pos env) ?_⟩;refine ef IJ _ pos A c1 s1 env hA (hE.mono l1 (ab _)) R1 _ _ λc2 vs s2 l2 R2 K2 a2=> ?_;exact(hc lay p O st (d::ds) v bc hf).run A c2 s2 (v1::vs) hA R2 (.cons (a1.mono l2 (ab _)) a2) E Q λc3 v3 s3 l3 R3 K3 a3=>hQ c3 v3 s3 ((l1.trans l2 (ab _)).trans l3 (ab _)) R3 ((K1.trans K2).trans K3) a3
def gS1 (f:Str->Str) (_:St) (ds:List CV):Option CV:=one (λv=>v.aS.bind λx=>if cw ↑(f x) then ac else ~~~(.str (f x))) ds
def fy.s1 {id:String} {f:Str->Str} {name:Str} {B:Builtin} (KR:Slot "str" name id) (entry:entryFor PySem.table id=aa B) (args:∀v,argsOk id ⟨[v],[]⟩) (hg:∀x t,cw ↑(f x)=false->Gives (B ⟨[.str x t],[]⟩) (.str (f x))):fy S k (.builtin id) (gS1 f):=by intro lay p O st ds v bc h;let ⟨u,rfl,h⟩:=um h;refine a9 h λx e h=> ?_;obtain rfl:=CV.kS e;let ⟨hs,rfl⟩:=Le h;refine⟨ab _,λA c s vs hA R ha E Q hQ=> ?_⟩;let ⟨_,_,rfl,a,b⟩:=ha.i1;obtain rfl:=b.i0;let ⟨_,rfl⟩:=a.gi.mG;exact call_gives KR (sj ..) entry (args _) (hg _ _ (ko.mpr hs)) ⟨fit_le (ko.mpr hs),hQ c _ _ (.refl ..) R (.toks ..) (.pv (.str ..))⟩
def kM:St->List CV->Option CV:=gS1 cO
def fy.lower:fy S k (.builtin "str.lower") kM:= .s1 F.slot_str_lower F.entry_str_lower F.args_str_lower_1 gives_str_lower
def gS:St->List CV->Option CV:=gS1 sL
def fy.upper:fy S k (.builtin "str.upper") gS:= .s1 F.slot_str_upper F.entry_str_upper F.args_str_upper_1 gives_str_upper
def two? :List CV->Option (Str×Str)
 | []=>ac
 | [_]=>ac
 | [a,b]=>a.aS.bind λx=>b.aS.map λy=>(x,y)
 |_::_::_::_=>ac
def Lw (h:two? l=aa a):l=[.pv (.str a.1),.pv (.str a.2)]:=by
 rcases l with _|⟨u,_|⟨v,_|_⟩⟩
 ·exact gq h
 ·exact gq h
 ·let ⟨_,e1,h⟩:=aG.mp h;let ⟨_,e2,h⟩:=ar.mp h;rw[CV.kS e1,CV.kS e2,<- h]
 ·exact gq h
noncomputable def W2:List Nat->Option CV
 | []=>ac
 |i::_=> ~~~(.int i)
def Ba (_:St) (ds:List CV):Option CV:=(two? ds).bind λa=>W2 (jf a.1 a.2 0 a.1.length 1)
def fy.index:fy S k (.builtin "str.index") Ba:=by
 intro lay p O st ds v bc h;refine a9 h λq e h=> ?_;rw[Lw e];cases ho:jf q.1 q.2 0 q.1.length 1 with
 |nil=>rw[ho]at h;exact gq h
 |cons i r=>rw[ho]at h;obtain rfl:=ag h;refine⟨ab _,λA c s vs hA R ha E Q hQ=> ?_⟩;have h9:=ha.i1;clear ha;let ⟨_,_,rfl,a,ha⟩:=h9;have h9:=ha.i1;clear ha;let ⟨_,_,rfl,b,ha⟩:=h9;obtain rfl:=ha.i0;have a':=a.gi;have b':=b.gi;let ⟨_,rfl⟩:=a'.mG;let ⟨_,rfl⟩:=b'.mG;exact call_gives F.slot_str_index (sj ..) F.entry_str_index (F.args_str_index_2 _ _) (gives_str_index _ _ _ _ _ _ ho) (hQ c _ _ (.refl ..) R (.toks ..) (.pv (.int ..)))
noncomputable def yq:List PV->Option (List Str)
 | []=>aa []
 | .str n::l=>(yq l).map (n:: ·)
 |_::_=>ac
def I4 (ns:List Str):yq (ns.map PV.str)=aa ns:=by
 induction ns with
 |nil=>rfl
 |cons n ns ih=>rw[bx];show(yq _).map _=_;rw[ih];rfl
def EH {vs:Vs} {l:List PV} {ns:List Str} (h:yq l=aa ns) (hl: ↑vs= ↑l) (hr:∀(i:Nat) (v:Value) (d:PV),vs[i]? =aa v->l[i]? =aa d->dk w F v d):
  ∃xs:List (Str×Dd),vs=strValues xs/\xs.map (·.1)=ns:=by
 replace hl:=Th.of hl;induction hl generalizing ns with
 |nil=>obtain rfl:=ag h;exact⟨[],rfl,rfl⟩
 |cons v d _ ih=>
  cases d with
  |str n=>let ⟨ns',h2,rfl⟩:=ar.mp h;let ⟨xs,e1,e2⟩:=ih h2 λi v d a b=>hr (i+1) v d a b;let ⟨t,e⟩:=(hr 0 v _ rfl rfl).mG;exact⟨(n,t)::xs,by rw[e,e1];rfl,by rw[<- e2];rfl⟩
  |_=>exact gq h
def Bb (st:St):List CV->Option CV
 | []=>ac
 | [_]=>ac
 | [u,v]=>u.aS.bind λx=>(st.oB v).bind λl=>(yq l).bind λns=>if FY x ns then ~~~(.str (zZ x ns)) else ac
 |_::_::_::_=>ac
def fy.join:fy S k (.builtin "str.join") Bb:=by
 intro lay p O st ds v bc h;rcases ds with _|⟨u,_|⟨w,_|_⟩⟩
 ·exact gq h
 ·exact gq h
 ·refine a9 h λx e h=>a9 h λl hl h=>a9 h λns hn h=> ?_;let ⟨ng,rfl⟩:=dS h;obtain rfl:=CV.kS e;refine⟨ab _,λA c s vs hA R ha E Q hQ=> ?_⟩;refine ha.n2 (P:=λvs=>wpAny _ _ (call _ vs) _ _ _) λv1 v2 a b=> ?_;let ⟨_,rfl⟩:=a.gi.mG;let ⟨ad,us,n,rfl,ho,hs,hr⟩:=(bc.oB hl).at R b;let ⟨xs,h1,h2⟩:=EH hn (bz▸hs) (dk.T7 hr);exact SC.join ((by rw[<- h1]:us=(strValues xs).toArray)▸IsL.isList ho) h2 ng λt' kk=>hQ c _ _ (.refl ..) R (.toks ..) (.pv (.str ..))
 ·exact gq h
end
structure aM.pO (own:Addr->Prop) (n:Nat) (c c':aM):Prop where
 F:∀a o,c.F a=aa o->c'.F a=aa o
 Z:∀i,i<n->c'.Z i=c.Z i
 pin:∀a,¬own a->c'.pin a=c.pin a
def aM.pO.trans {own:Addr->Prop} (h:aM.pO own n a b) (k:aM.pO own m b c) (hm:n<=m):aM.pO own n a c:=
 ⟨λx o e=>k.F x o (h.F x o e),λi hi=>(k.Z i (a8 hi hm)).trans (h.Z i hi),λx hx=>(k.pin x hx).trans (h.pin x hx)⟩
def aM.le.P {own:Addr->Prop} (h:aM.le n c c'):aM.pO own n c c':=⟨h.F,h.Z,λa q=>by rw[h.pin]⟩
structure lE (g:Nat) (s s':bb):Prop where
 os:s'.os=s.os
 gens:∀(i:Nat) (x:VV),i<g->s.gens[i]? =aa x->s'.gens[i]? =aa x
 bare:ms s.gens->ms s'.gens
def lE.trans (h:lE g a b) (k:lE g b c):lE g a c:=⟨k.os.trans h.os,λi x l e=>k.gens i x l (h.gens i x l e),λx=>k.bare (h.bare x)⟩
def dY.P (h:dY s s'):lE g s s':=⟨h.os,λi x q e=>h.gens i x e,h.bare⟩
def lE.K (h:lE s.gens.size s s'):dY s s':=⟨h.os,λi x e=>h.gens i x (by
 rcases bS i s.gens.size with h|h
 ·exact h
 ·rw[my h]at e;nomatch e) e,h.bare⟩
structure su (S:cz) (k:Nat) (A:cS) (own:Addr->Prop) (g oT:Nat) (ok:List AO->Prop) (I:Value) (J:List PV->aM->bb->Prop):Prop where
 keep:∀ {n:Nat} {rest:List PV} {c c':aM} {O bv:List AO} {s s':bb},J rest c s->oT<=n->aM.le n c c'->dY s s'->Rel S c O s.heap->Rel S c' bv s'.heap->J rest c' s'
 next:∀ {O:List AO} {rest:List PV} {c:aM} {s:bb},J rest c s->Rel S c O s.heap->oT<= ↑O->ok O->jG k A->∀(E:VS) (Q:Option Value->bb->Prop),
  (rest=[]->∀c' s',aM.pO own ↑O c c'->Rel S c' O s'.heap->lE g s s'->Q ac s')->
  (∀x r,rest=x::r->∀c' v s',aM.pO own ↑O c c'->Rel S c' O s'.heap->lE g s s'->J r c' s'->dk S.w c'.F v x->Q (aa v) s')->wpAny (MM S.w) A (pyNext I) Q E s
 self:∀ {O:List AO} {rest:List PV} {c:aM} {s:bb},J rest c s->Rel S c O s.heap->jG k A->∀(E:VS) (Q:VS),Q I s->wpAny (MM S.w) A (pyIter I) Q E s
 Vw:∀ {O:List AO} {rest:List PV} {c:aM} {s:bb},J rest c s->Rel S c O s.heap->∀(cE:Expr) (v:Value) (E:VS) (Q:Unit->bb->Prop),Q () s->wpAny (MM S.w) A (letOwnedTupleGo cE I v) Q E s
noncomputable def w1:List String:=["enumerate", "zip", "dict_itemiterator", "dict_reverseitemiterator", "odict_iterator", "itertools.zip_longest", "itertools.pairwise"]
def rM (ho:s.heap.get? I=aa o) (hc:o.cls= .type T) (hT:w1.contains T=false) (cE:Expr) (v:Value) (h:Q () s):
  wpAny M A (letOwnedTupleGo cE (.ref I) v) Q E s:=by
 have key:∀a,wpAny M A (do
   let o <- load I
   match o.cls,o.data with
   | .type n,.fields vs=>
    if w1.contains n&&vs[0]? ==aa (rawInt a) then
     rule "for.unpacks-the-owned-tuple"
     updateField I 0 .none
   |_,_=>pure ()) Q E s:=by
  intro a;refine am (KE ho ?_);rw[hc];induction o.data with
  |fields vs=>refine wpAny_ite ?_;rw[if_neg (by rw[hT];exact bG)];exact aR h
  |_=>exact aR h
 cases cE with
 |Tuple=>induction v with
  |ref a=>exact key a
  |_=>exact aR h
 |List=>induction v with
  |ref a=>exact key a
  |_=>exact aR h
 |_=>exact aR h
def aM.nv (c:aM) (I:Addr) (o:Obj):aM:= {c with pin:=λa=>if a=I then aa o else c.pin a}
def Rel.nv (R:Rel S c O h) (hp:c.pin I=aa o) (hk:∀b x,b≠I->h.get? b=aa x->h'.get? b=aa x) (ho:h'.get? I=aa o'):Rel S (c.nv I o') O h':=by
 let ⟨p1,p2,p3,p4⟩:=R.pins I o hp;refine⟨λa x e=>hk _ _ (by rintro rfl;have e':c.F a=aa x:=e;rw[p2]at e';nomatch e') (R.frozen a x e),R.base,λi ao e=> ?_,R.apart,R.inj,λa x e=> ?_,λq hq=> ?_⟩
 ·let ⟨x,h1,h2⟩:=R.own i ao e;have kW:i< ↑O:=by
   rcases bS i ↑O with h|h
   ·exact h
   ·rw[bC h]at e;nomatch e
  exact⟨x,hk _ _ (p3 i kW) h1,h2.j8 (λz z e=>e) (λz z=>rfl) (ab _)⟩
 ·have e':(if a=I then aa o' else c.pin a)=aa x:=e;by_cases ha:a=I
  ·subst ha;rw[if_pos rfl]at e';obtain rfl:=ag e';exact⟨ho,p2,p3,p4⟩
  ·rw[if_neg ha]at e';left;let ⟨q1,q2,q3,q4⟩:=R.pins a x e';right;exact⟨hk _ _ ha q1,q2,q3,q4⟩
 ·let ⟨a,b,ps,d,e,f⟩:=R.tabs q hq;exact⟨a,b,ps,hk _ _ (p4 q hq) d,e,f⟩
def aM.oX:aM.pO (· =I) n c (c.nv I o):=⟨λq q e=>e,λq q=>rfl,λq ha=>if_neg ha⟩
def Rel.GA (R:Rel S c O h) (hp:c.pin I=aa o) (hk:∀b x,b≠I->h.get? b=aa x->h'.get? b=aa x):Rel S {c with pin:=λa=>if a=I then ac else c.pin a} O h':=by
 let ⟨p1,p2,p3,p4⟩:=R.pins _ _ hp;refine⟨λa x e=>hk _ _ (by rintro rfl;have e':c.F a=aa x:=e;rw[p2]at e';nomatch e') (R.frozen a x e),R.base,λj ao e=> ?_,R.apart,R.inj,λa x e=> ?_,λq hq=> ?_⟩
 ·let ⟨x,q1,q2⟩:=R.own j ao e;have kW:j< ↑O:=by
   rcases bS j ↑O with h|h
   ·exact h
   ·rw[bC h]at e;nomatch e
  exact⟨x,hk _ _ (p3 j kW) q1,q2.j8 (λz z e=>e) (λz z=>rfl) (ab _)⟩
 ·have e':(if a=I then ac else c.pin a)=aa x:=e;by_cases ha:a=I
  ·rw[if_pos ha]at e';nomatch e'
  ·rw[if_neg ha]at e';let ⟨q1,q2,q3,q4⟩:=R.pins a x e';exact⟨hk _ _ ha q1,q2,q3,q4⟩
 ·let ⟨a,b,ps,d,e,f⟩:=R.tabs q hq;exact⟨a,b,ps,hk _ _ (p4 q hq) d,e,f⟩
structure WJ (I:Addr) (fp:List Addr) (n:Nat) (St:Nat->iR->Prop) (VA:Addr->Option Obj) (l rest:List PV) (c:aM) (s:bb):Prop where
 here:∃i,i<=n/\rest=l.drop i/\St i s.heap
 pin:∃o,c.pin I=aa o
 fp:∀b∈fp,b=I\/∃o,c.F b=aa o
 F:∀a o,VA a=aa o->c.F a=aa o
def su.ofWalks {I:Addr} {fp:List Addr} {n:Nat} {P:Nat->Value->Prop} {St:Nat->iR->Prop} {g oT:Nat} {ok:List AO->Prop} {T:String} {l:List PV} {VA:Addr->Option Obj}
  (W:∀A:cS,A.handled=ac->Walks pw S.w A I fp [I] n P St) (hSt:∀i h,St i h->∃o,h.get? I=aa o/\o.cls= .type T) (hT:w1.contains T=false) (hl: ↑l=n)
  (hP:∀i v,i<n->P i v->∃x,l[i]? =aa x/\dk S.w VA v x) (A:cS):su S k A (· =I) g oT ok (.ref I) (WJ I fp n St VA l) where
 keep:=λ{m rest c c' O bv s s'} hJ _ wB _ R R'=>by
  let ⟨⟨i,hi,hr,rz⟩,⟨o,ho⟩,hfp,hF⟩:=hJ;refine⟨⟨i,hi,hr,?_⟩,⟨o,by rw[wB.pin];exact ho⟩,λb hb=>(hfp b hb).imp id λ⟨x,hx⟩=>⟨x,wB.F _ _ hx⟩,λa x e=>wB.F _ _ (hF a x e)⟩;refine(W {} rfl).frame _ _ _ rz λb hb x e=> ?_;rcases hfp b hb with rfl|⟨y,hy⟩
  ·have e1:=(R.pins _ _ ho).1;rw[e1]at e;obtain rfl:=ag e;exact(R'.pins b o (by rw[wB.pin];exact ho)).1
  ·have e1:=R.frozen _ _ hy;rw[e1]at e;obtain rfl:=ag e;exact R'.frozen _ _ (wB.F _ _ hy)
 next:=λ{O rest c s} hJ R _ _ hA E Q h0 h1=>by
  let ⟨⟨i,hi,hr,rz⟩,⟨o,ho⟩,hfp,hF⟩:=hJ;have hI:=R.pins _ _ ho;rcases bS i n with kW|AC
  ·refine(W A hA.hn).item i s Q E kW rz λv h' tk hPv Sr hk=> ?_;let ⟨x,hx,hv⟩:=hP i v kW hPv;let ⟨o',se,_⟩:=hSt _ _ Sr;have yh:∀b x,b≠I->s.heap.get? b=aa x->h'.get? b=aa x:=λb x hb e=>hk b x (by simpa using hb) e;refine h1 x (l.drop (i+1)) ?_ (c.nv I o') v {s with heap:=h',toks:=tk} aM.oX (R.nv ho yh se) (dY.heap ..).P ⟨⟨i+1,kW,rfl,Sr⟩,⟨o',if_pos rfl⟩,hfp,hF⟩ (hv.mono hF);rw[hr];have Gc:i< ↑l:=by exact CK kW hl
   rw[gU Gc];rw[aq Gc]at hx;obtain rfl:=ag hx;rfl
  ·have:i=n:=by exact aiH hi AC
   subst this;refine(W A hA.hn).done s Q E rz λh' tk hk=> ?_;have yh:∀b x,b≠I->s.heap.get? b=aa x->h'.get? b=aa x:=λb x hb e=>hk b x (by simpa using hb) e;have Xi:rest=[]:=by rw[hr];exact sR (by exact aiI hl)
   cases e:h'.get? I with
   |some o'=>exact h0 Xi (c.nv I o') {s with heap:=h',toks:=tk} aM.oX (R.nv ho yh e) (dY.heap ..).P
   |none=>exact h0 Xi {c with pin:=λa=>if a=I then ac else c.pin a} {s with heap:=h',toks:=tk} ⟨λq q e=>e,λq q=>rfl,λa ha=>if_neg ha⟩ (R.GA ho yh) (dY.heap ..).P
 self:=λ{O rest c s} hJ R hA E Q h=>by left;let ⟨⟨i,hi,hr,rz⟩,_⟩:=hJ;right;exact(W A hA.hn).self i s Q E rz h
 Vw:=λ{O rest c s} hJ R cE v E Q h=>by left;let ⟨⟨i,hi,hr,rz⟩,_⟩:=hJ;let ⟨o,ho,hc⟩:=hSt _ _ rz;right;exact rM ho hc hT cE v h
def la (S:cz) (k:Nat) (O:List AO) (ae:iv) (e:Expr) (ok:List AO->Prop) (xs:List PV):Prop:=
 ∀A c s env,jG k A->cY c ↑O ae env->Rel S c O s.heap->∀(E:VS) (Q:VS),
  (∀(c':aM) (s':bb) (I:Value) (own:Addr->Prop) (J:List PV->aM->bb->Prop),aM.pO own ↑O c c'->(∀a,own a->c.pin a=ac)->Rel S c' O s'.heap->dY s s'->
   su S k A own s.gens.size ↑O ok I J->ok O->J xs c' s'->Q I s')->
  wpAny (MM S.w) A (eval e env) (λx eD=>wpAny (MM S.w) A (pyIter x) Q E eD) E s
def Rel.I5 {s:bb} (R:Rel S c O s.heap) (ho:o.isFreed=false):Rel S (c.pinned [(s.heap.objs.size,o)]) O (s.heap.push o):=by have R':Rel S c O (s.heap.push o):=R.ext λb x e=>aJ _ e;exact R'.pinned (λp hp=>by rw[aB]at hp;subst hp;exact(R.free (ab s.heap.objs.size))) λp hp=>by rw[aB]at hp;subst hp;exact aV _ ho
def aM.lF (c:aM) (I:Addr) (o:Obj):(c.pinned [(I,o)]).pin I=aa o:=by show(gO I [(I,o)]).or (c.pin I)=aa o;rw[di,beq_self_eq_true];rfl
def aM.vF:aM.pO (· =I) n c (c.pinned [(I,o)]):=by refine⟨λq q e=>e,λq q=>rfl,λa ha=> ?_⟩;show(gO a [(I,o)]).or (c.pin a)=c.pin a;rw[di,beq_false_of_ne ha];rfl
structure LJ (I:Addr) (w:jE) (oT:Nat) (d:AV) (l rest:List PV) (c:aM) (s:bb):Prop where
 here:∃i ax,rest=l.drop i/\s.heap.IsListIter I ax i/\cU w c oT (.ref ax) d
 pin:∃o,c.pin I=aa o
def su.list {A:cS} {I:Addr} {g oT:Nat} {d:AV} {l:List PV}:su S k A (· =I) g oT (λO=>IsL O d l) (.ref I) (LJ I S.w oT d l) where
 keep:=λ{m rest c c' O bv s s'} hJ hn wB _ R R'=>by left;let ⟨⟨i,ax,hr,hit,hv⟩,⟨o,ho⟩⟩:=hJ;right;refine⟨⟨i,ax,hr,?_,hv.mono (wB.weak hn) (ab _)⟩,⟨o,by rw[wB.pin];exact ho⟩⟩;have e1:=(R.pins _ _ ho).1;have e2:=(R'.pins I o (by rw[wB.pin];exact ho)).1;let ⟨x,hx,r⟩:=hit;rw[e1]at hx;cases hx;exact⟨_,e2,r⟩
 next:=λ{O rest c s} hJ R hn ng hA E Q h0 h1=>by
  left;let ⟨⟨i,ax,hr,hit,hv⟩,⟨o,ho⟩⟩:=hJ;let ⟨a,vs,m,e,hl,hs,hp⟩:=ng.at R (hv.mono (.refl ..) hn);right;cases e;rcases bS i ↑l with(kW|AC)
  ·have hx:vs[i]? =aa (vs[i]'(by simp_all)):=by simp[hs,kW]
   refine wpAny_pyNext_list_item hit (IsL.isList hl) hx λh' agi qf=> ?_;let ⟨o',se,r'⟩:=id agi;refine h1 l[i] (l.drop (i+1)) (by rw[hr];exact gU kW) (c.nv I o') _ {s with heap:=h'} aM.oX (R.nv ho qf.extBut se) (dY.gF ..).P ⟨⟨i+1,ax,rfl,agi,?_⟩,⟨o',if_pos rfl⟩⟩ (hp i _ _ hx (by simp[kW]));exact hv.j8 (λq q e=>e) (λq q=>rfl) (ab _)
  ·refine wpAny_pyNext_list_end hA.hn hit (IsL.isList hl) (by simp;simp_all) λh' hk=> ?_;have Xi:rest=[]:=by rw[hr];exact sR AC
   cases e:h'.get? I with
   |some o'=>exact h0 Xi (c.nv I o') {s with heap:=h'} aM.oX (R.nv ho hk e) (dY.gF ..).P
   |none=>exact h0 Xi {c with pin:=λa=>if a=I then ac else c.pin a} {s with heap:=h'} ⟨λq q e=>e,λq q=>rfl,λa ha=>if_neg ha⟩ (R.GA ho hk) (dY.gF ..).P
 self:=λ{O rest c s} hJ R hA E Q h=>by left;let ⟨⟨i,ax,hr,hit,hv⟩,_⟩:=hJ;right;exact wpAny_pyIter_listiter hit h
 Vw:=λ{O rest c s} hJ R cE v E Q h=>by left;let ⟨⟨i,ax,hr,⟨o,ho,hc,_⟩,hv⟩,_⟩:=hJ;right;exact rM ho hc rfl cE v h
def la.list (h:Ev S k O ae e d O) (hl:IsL O d l):la S k O ae e (λO=>IsL O d l) l:=by
 intro A c s env hA hE R E Q hQ;refine h.run A c s env hA hE R _ _ λc1 v1 s1 l1 R1 K1 a1=> ?_;left;let ⟨a,vs,m,rfl,ho,hs,hr⟩:=hl.at R1 a1;right;refine wpAny_pyIter_list (IsL.isList ho) ?_;refine hQ _ _ (.ref s1.heap.objs.size) (· =s1.heap.objs.size) _ (l1.P.trans aM.vF (ab _)) (λa ha=>by subst ha;exact l1.pin▸((R1.free (ab s1.heap.objs.size)).pin)) (R1.I5 rfl) (K1.trans (.gF ..)) su.list hl
  ⟨⟨0,a,rfl,⟨_,aV _ rfl,rfl,rfl⟩,a1.pinned⟩,⟨_,aM.lF ..⟩⟩
def la.ofWalks
  (h:∀A c s env,jG k A->cY c ↑O ae env->Rel S c O s.heap->∀(E:VS) (Q:VS),
   (∀(c1:aM) (s1:bb) (o:Obj) (fp:List Addr) (n:Nat) (P:Nat->Value->Prop) (St:Nat->iR->Prop) (T:String),aM.le ↑O c c1->Rel S c1 O s1.heap->dY s s1->o.isFreed=false->
    (∀A:cS,A.handled=ac->Walks pw S.w A s1.heap.objs.size fp [s1.heap.objs.size] n P St)->(∀i h,St i h->∃o,h.get? s1.heap.objs.size=aa o/\o.cls= .type T)->w1.contains T=false-> ↑xs=n->
    (∀i v,i<n->P i v->∃x,xs[i]? =aa x/\dk S.w c1.F v x)->(∀b∈fp,b=s1.heap.objs.size\/∃x,c1.F b=aa x)->St 0 (s1.heap.push o)->Q (.ref s1.heap.objs.size) {s1 with heap:=s1.heap.push o})->
   wpAny (MM S.w) A (eval e env) (λx eD=>wpAny (MM S.w) A (pyIter x) Q E eD) E s) (ng:ok O):la S k O ae e ok xs:=by
 intro A c s env hA hE R E Q hQ;refine h A c s env hA hE R E Q λc1 s1 o fp n P St T l1 R1 K1 ho W hSt hT hl hP hfp h0=> ?_;refine hQ _ _ (.ref s1.heap.objs.size) (· =s1.heap.objs.size) _ (l1.P.trans aM.vF (ab _)) (λa ha=>by subst ha;exact l1.pin▸((R1.free (ab s1.heap.objs.size)).pin)) (R1.I5 ho) (K1.trans (.gF ..)) (su.ofWalks W hSt hT hl hP A) ng ?_;exact⟨⟨0,cJ _,rfl,h0⟩,⟨_,aM.lF ..⟩,hfp,λq q e=>e⟩
def la.tuple (h:nL S k O ae e (.tup l)) (ng:ok O):la S k O ae e ok l:=by
 refine la.ofWalks (λA c s env hA hE R E Q hQ=> ?_) ng;refine h.run A c s env hA hE R _ _ λc1 v1 s1 l1 R1 K1 a1=> ?_;have Km:=a1.gi;let ⟨a,vs,n,rfl,hF,hs,hr⟩:=Km.Eu;have ho:=R1.frozen _ _ hF;have hT:s1.heap.IsTuple a vs:=⟨_,ho,rfl,_,rfl⟩;refine Cm hT ?_;refine hQ c1 s1 _ [s1.heap.objs.size,a] vs.size _ _ "tuple_iterator" l1 R1 K1 rfl (λA' IJ=>u0 IJ _ a (cM (bW ho)) vs) (λi h st=>xe13 (st.1) λo ho hc q=>⟨o,ho,hc⟩) rfl hs.symm ?_ ?_ ?_
 ·intro i v _ hv;have hi:=(iT.mp hv).1;exact⟨l[i]'(by simp_all),aq (by simp_all),hr i v _ hv (aq (by simp_all))⟩
 ·intro b hb;rcases aH.mp hb with(e|hb)
  ·exact .inl e
  ·rw[aB]at hb;subst hb;exact .inr ⟨_,hF⟩
 ·exact⟨⟨_,aV _ rfl,rfl,rfl⟩,hT.push _⟩
noncomputable def yr (x:Str):List PV:=x.cps.toList.map λc=> .str ⟨#[c]⟩
def la.str (h:nL S k O ae e (.str x)) (ha:x.cps.all (· <128)=true) (ng:ok O):la S k O ae e ok (yr x):=by
 refine la.ofWalks (λA c s env hA hE R E Q hQ=> ?_) ng;refine h.run A c s env hA hE R _ _ λc1 v1 s1 l1 R1 K1 a1=> ?_;have Km:=a1.gi;let ⟨t,rfl⟩:=Km.mG;refine wpAny_pyIter_ascii ha ?_;refine hQ c1 s1 _ [s1.heap.objs.size] x.cps.size _ _ "str_ascii_iterator" l1 R1 K1 rfl (λA' IJ=>Walks.strAscii IJ _ x t) (λi h st=>xe13 (st) λo ho hc q=>⟨o,ho,hc⟩) rfl (by simp[yr]) ?_ ?_ ?_
 ·rintro i v _ ⟨c,u,hc,rfl⟩;exact⟨.str ⟨#[c]⟩,by simp[yr,hc],.str ..⟩
 ·intro b hb;rw[aB]at hb;exact .inl hb
 ·exact⟨_,aV _ rfl,rfl,rfl⟩
def la.dict (h:nL S k O ae e (.oQ l)) (ng:ok O):la S k O ae e ok (l.map λp=> .str p.1):=by
 refine la.ofWalks (λA c s env hA hE R E Q hQ=> ?_) ng;refine h.run A c s env hA hE R _ _ λc1 v1 s1 l1 R1 K1 a1=> ?_;let ⟨a,es,n,kvs,rfl,hm,ho,nd,hp⟩:=Tn.val.at R1 a1;have Km:=a1.gi;let ⟨_,_,q,_,hF,_,_,rfl,_⟩:=Km.Yd;cases q;have hA:=hp.dictOf ho nd;have hk:=hp.keys;refine wpAny_pyIter_dict hm hA ?_;refine hQ c1 s1 _ [s1.heap.objs.size,a] ↑kvs _ _ "dict_keyiterator" l1 R1 K1 rfl (λA' IJ=>Walks.dictKeys (knd:=strKind pw S.w) IJ _ a (cM (bW ho)) kvs n) (λi h st=>xe13 (st.1) λo ho hc z=>⟨o,ho,hc⟩) rfl (by rw[aw,(by have:=congrArg eW hk;simpa using this: ↑kvs= ↑l)]) ?_ ?_ ?_
 ·rintro i v _ ⟨kk,x,hx,hv⟩;let ⟨t,rfl⟩:=wb hv;have sM:(l.map (·.1))[i]? =aa kk:=by rw[<- hk,bO,hx];rfl
  rw[bO]at sM;simp only[ar]at sM;let ⟨p,Xl,rfl⟩:=sM;exact⟨.str p.1,by rw[bO,Xl];rfl,.str ..⟩
 ·intro b hb;rcases aH.mp hb with(e|hb)
  ·exact .inl e
  ·rw[aB]at hb;subst hb;exact .inr ⟨_,hF⟩
 ·exact⟨⟨_,aV _ rfl,rfl,rfl⟩,hA.keep λb o e=>aJ _ e⟩
noncomputable def iJ (n:Nat):List PV:=(cK n).map λ(i:Nat)=>PV.int (i:Int)
def ze {n:Nat} (h:n<2 ^ 20):CE 0 n 1=true/\pK 0 n 1=n:=by
 have e:pK 0 n 1=n:=by unfold pK;simp;exact aiJ
 refine⟨?_,e⟩;unfold CE;rw[e];unfold Builtin.Range.rangeFitsLong;simp;exact aiK h
def la.range {n:Nat} (hf:nL S k O ae (.Name f np) (.con (.type "range"))) (h:nL S k O ae x (.int n)) (hn:n<2 ^ 20) (hs:notStar x=true) (ng:ok O):
  la S k O ae (.Call (.Name f np) [x] [] pos) ok (iJ n):=by
 refine la.ofWalks (λA c s env hA hE R E Q hQ=> ?_) ng;have hv:nu S k O (.type "range") [.pv (.int n)] (.pv (.con .none)) O->True:=λq=>trivial;have ha:ck S k O ae [x] [.pv (.int n)]:= .cons h .nil hs;refine cn (hf.run A c s env hA hE R _ _ λc1 v1 s1 l1 R1 K1 a1=> ?_);have e:=a1.dn;subst e;refine ec (noStar ha pos env) ?_;refine ef ha _ pos A c1 s1 env hA (hE.mono l1 (ab _)) R1 _ _ λc2 vs s2 l2 R2 K2 a2=> ?_;have h9:=a2.i1;clear a2;let ⟨_,_,rfl,a2,b2⟩:=h9;obtain rfl:=b2.i0;have Ed:=a2.gi;let ⟨t,rfl⟩:=Ed.kK;refine call_range_1 ?_;let ⟨hsm,hsz⟩:=ze hn;refine wpAny_pyIter_range (a:=0) (b:=n) (c:=1) (t:=s2.toks) (u:=t) (v:=s2.toks+1) (aV _ rfl) hsm ?_;rw[hsz];have R3:Rel S c2 O (s2.heap.push {cls:= .type "range",data:= .fields #[.int 0 s2.toks,.int n t,.int 1 (s2.toks+1)]}):=R2.ext λb o e=>aJ _ e;refine hQ c2 {s2 with heap:=s2.heap.push {cls:= .type "range",data:= .fields #[.int 0 s2.toks,.int n t,.int 1 (s2.toks+1)]},toks:=s2.toks+1+1} _ [_] n _ _ "range_iterator" (l1.trans l2 (ab _)) R3 ((K1.trans K2).trans (.heap ..)) rfl
  (λA' IJ=>Walks.range IJ _ 0 1 n) (λi h st=>⟨_,st,rfl⟩) rfl (by simp[iJ]) ?_ ?_ ?_
 ·rintro i v hi ⟨t',rfl⟩;exact⟨.int i,by simp[iJ,hi],by rw[show(0:Int)+(i:Int)*1=i by exact aaX];exact .int ..⟩
 ·intro b hb;rw[aB]at hb;exact .inl hb
 ·show IsRangeIter _ _ (0+((0:Nat):Int)*1) ((n:Int)- ((0:Nat):Int)) 1;rw[show(0:Int)+((0:Nat):Int)*1=0 by omega,show(n:Int)- ((0:Nat):Int)=n by exact aiL];exact aV _ rfl
def dg.ofItems {vs:Vs}:∀ {ds:List PV},↑vs= ↑ds->(∀(i:Nat) (v:Value) (d:PV),vs[i]? =aa v->ds[i]? =aa d->dk w c.F v d)->dg w c n vs (ds.map AV.pv):=by
 induction vs with
 |nil=>
  intro ds h _;induction ds with
  |nil=>exact .nil
  |cons=>cases h
 |cons v vs ih=>
  intro ds h hr;induction ds with
  |nil=>cases h
  |cons d ds=>exact .cons (.pv (hr 0 v d rfl rfl)) (ih (lZ h) λi=>hr (i+1))
inductive Bc (S:cz) (k:Nat) (ae:iv):List AO->List Expr->List PV->List AO->Prop
 |nil {O:List AO}:Bc S k ae O [] [] O
 |cons {O bw bQ:List AO} {t:Expr} {rest:List Expr} {d:PV} {ds:List PV}:Do S k O ae t (.pv d) bw->Bc S k ae bw rest ds bQ->notStar t=true->Bc S k ae O (t::rest) (d::ds) bQ
def Bc.len (h:Bc S k ae O ts ds bv): ↑O<= ↑bv:=by
 induction h with
 |nil=>exact ab _
 |cons h _ _ ih=>exact aA h.len ih
def lu (h:notStar e=true):assignEach (e::rest) env=(false,assign e env)::assignEach rest env:=by cases e<;>first|rfl|cases h
def Bc.shape (h:Bc S k ae O ts ds bv) (env:lY): ↑(assignEach ts env)= ↑ds/\(assignEach ts env).findIdx? (·.1)=ac:=by
 induction h with
 |nil=>exact⟨rfl,rfl⟩
 |cons _ _ hn ih=>rw[lu hn];refine⟨by rw[az,az,ih.1],?_⟩;rw[O2];simp[ih.2]
def Bc.run (h:Bc S k ae O ts ds bv):∀(A:cS) (c:aM) (s:bb) (env:lY) (vs:Vs),jG k A->cY c ↑O ae env->Rel S c O s.heap->dg S.w c ↑O vs (ds.map AV.pv)->
  ∀(E:VS) (Q:Unit->bb->Prop),(∀c' s',aM.le ↑O c c'->Rel S c' bv s'.heap->dY s s'->Q () s')->wpAny (MM S.w) A (assignInOrder ((assignEach ts env).map (·.2)) vs) Q E s:=by
 induction h with
 |nil=>intro A c s env vs hA hE R hv E Q hQ;obtain rfl:=hv.i0;exact aR (hQ c s (.refl ..) R (.refl ..))
 |cons h1 h2 hn ih=>intro A c s env vs hA hE R hv E Q hQ;let ⟨_,_,rfl,a,b⟩:=hv.i1;rw[lu hn];refine am (dH (h1.run A c s env _ hA hE R a _ _ λc1 s1 l1 R1 K1=> ?_));exact ih A c1 s1 env _ hA (hE.mono l1 h1.len) R1 (b.mono l1 h1.len) E Q λc2 s2 l2 R2 K2=>hQ c2 s2 (l1.trans l2 h1.len) R2 (K1.trans K2)
def Do.tup (h:Bc S k ae O ts ds bv):Do S k O ae (.Tuple ts n pos) (.pv (.tup ds)) bv:=by refine⟨h.len,λA c s env v hA hE R hv E Q hQ=> ?_⟩;have vZ:=hv.gi;obtain(⟨_,_,_,rfl,hF,hs,hr⟩):=vZ.Eu;obtain(⟨e1,e2⟩):=h.shape env;refine Cn hA.hn ⟨_,R.frozen _ _ hF,rfl,_,rfl⟩ (by rw[e1,hs]) e2 λh' hk=> ?_;have R':Rel S c O h':=R.ext λb o e=>hk b o (cM (bW e)) e;refine h.run A c {s with heap:=h'} env _ hA hE R' ?_ E Q λc1 s1 l1 R1 K1=>hQ c1 s1 l1 R1 ((dY.gF ..).trans K1);exact dg.ofItems (by rw[bz];exact hs) (dk.T7 hr)
def cY.pk {own:Addr->Prop} {c c':aM} {n n':Nat} {ae:iv} {env:lY} (h:cY c n ae env) (hc:aM.pO own n c c') (hn:n<=n'):cY c' n' ae env where
 scope:=h.scope
 kind:=h.kind
 locals:=h.locals.trans (hc.Z _ h.fi).symm
 fi:=a8 h.fi hn
 globals:=h.globals
 builtins:=h.builtins
 cells:=h.cells.trans (cj λp hp=>by rw[hc.Z _ (h.jr p hp)])
 jr:=λp hp=>a8 (h.jr p hp) hn
 code:=h.code
 frame:=h.frame
def sH.gM (h:sH w c n f g):sH w (c.gM c₀) n f g:=by
 induction h with
 |next=>exact .next
 |brk=>exact .brk
 |cont=>exact .cont
 |ret h=>exact .ret h.gM
def aM.pO.GB {own:Addr->Prop} (h:aM.pO own n c c') (ho:∀a,own a->c.pin a=ac):(∀a o,c.pin a=aa o->c'.pin a=aa o)/\aM.le n c (c'.gM c):=
 ⟨λa o e=>by rw[h.pin a λh=>by rw[ho a h]at e;cases e];exact e,⟨h.F,h.Z,rfl⟩⟩
inductive To (S:cz) (k:Nat) (ae:iv) (cE:Expr) (body:List Stmt):List AO->List PV->nY->List AO->Prop
 |nil {O:List AO}:To S k ae cE body O [] .next O
 |cons {O bw bQ ru:List AO} {x:PV} {rest:List PV} {f:nY}:Do S k O ae cE (.pv x) bw->cH S k bw ae body .next bQ->To S k ae cE body bQ rest f ru->To S k ae cE body O (x::rest) f ru
 |ret {O bw bQ:List AO} {x:PV} {rest:List PV} {d:AV}:Do S k O ae cE (.pv x) bw->cH S k bw ae body (.ret d) bQ->To S k ae cE body O (x::rest) (.ret d) bQ
def To.len (h:To S k ae cE body O xs f bv): ↑O<= ↑bv:=by
 induction h with
 |nil=>exact ab _
 |cons a b _ ih=>exact aA (aA a.len b.len) ih
 |ret a b=>exact aA a.len b.len
def To.run (h:To S k ae cE body O xs f bv):∀ {own:Addr->Prop} {g oT:Nat} {I:Value} {J:List PV->aM->bb->Prop}
  (A:cS) (c:aM) (s:bb) (env:lY),su S k A own g oT (λq=>True) I J->J xs c s->oT<= ↑O->jG k A->cY c ↑O ae env->Rel S c O s.heap->
  ∀(Q:Cq->bb->Prop),(∀c' v s',aM.pO own ↑O c c'->Rel S c' bv s'.heap->lE g s s'->sH S.w c' ↑bv v f->Q v s')->
   codeAny (MM S.w) A (.forLoop cE I body [] env) (λr s'=>match r with| .ok f=>Q f s'| .error e=>False) s:=by
 induction h with
 |nil=>intro own g oT I J A c s env P hJ hn hA hE R Q hQ;refine eZ ?_;rw[cy (by rfl)];show wpAny _ A ((forTurn _ _ _ _ env).onRaise (λx=>do noteFrame x env;theTreesLotGoes x)) _ _ s;refine jD ?_;simp only[forTurn];refine am (cV (am (kC (P.next hJ R hn trivial hA _ _ (λq c1 s1 l1 R1 K1=> ?_) λx r e=>by nomatch e))));exact aR ⟨rfl,AD (jB (hQ c1 .next s1 l1 R1 K1 .next))⟩
 | @cons O bw bQ ru x rest f h1 h2 h3 ih=>
  intro own g oT I J A c s env P hJ hn hA hE R Q hQ;refine eZ ?_;rw[cy (by rfl)];show wpAny _ A ((forTurn _ _ _ _ env).onRaise (λx=>do noteFrame x env;theTreesLotGoes x)) _ _ s;refine jD ?_;simp only[forTurn];refine am (cV (am (kC (P.next hJ R hn trivial hA _ _ (λe=>by nomatch e) λy r e c1 v s1 l1 R1 K1 J1 a1=> ?_))));injection e with e1 e2;subst e1 e2;refine am (P.Vw J1 R1 cE v _ _ ?_);have rA:=hE.pk l1 (ab _);refine am (h1.run A c1 s1 env v hA rA R1 (.pv a1) _ _ λc2 s2 l2 R2 K2=> ?_);have H9:=rA.mono l2 h1.len;refine am (h2.run A c2 s2 env hA H9 R2 _ _ λc3 v3 s3 l3 R3 K3 f3=> ?_);obtain rfl:=f3.wV;have FL:=l2.trans l3 h1.len;refine aR ⟨rfl,?_⟩;have cI: ↑O<= ↑bQ:=aA h1.len h2.len;exact ih A c3 s3 env P (P.keep J1 hn FL (K2.trans K3) R1 R3) (aA hn cI) hA (rA.mono FL cI) R3 Q λc4 v4 s4 l4 R4 K4 f4=>
   hQ c4 v4 s4 ((l1.trans FL.P (ab _)).trans l4 cI) R4 ((K1.trans (K2.trans K3).P).trans K4) f4
 | @ret O bw bQ x rest d h1 h2=>intro own g oT I J A c s env P hJ hn hA hE R Q hQ;refine eZ ?_;rw[cy (by rfl)];show wpAny _ A ((forTurn _ _ _ _ env).onRaise (λx=>do noteFrame x env;theTreesLotGoes x)) _ _ s;refine jD ?_;simp only[forTurn];refine am (cV (am (kC (P.next hJ R hn trivial hA _ _ (λe=>by nomatch e) λy r e c1 v s1 l1 R1 K1 J1 a1=> ?_))));injection e with e1 e2;subst e1 e2;refine am (P.Vw J1 R1 cE v _ _ ?_);have rA:=hE.pk l1 (ab _);refine am (h1.run A c1 s1 env v hA rA R1 (.pv a1) _ _ λc2 s2 l2 R2 K2=> ?_);have H9:=rA.mono l2 h1.len;refine am (h2.run A c2 s2 env hA H9 R2 _ _ λc3 v3 s3 l3 R3 K3 f3=> ?_);have h9:=f3.MJ;clear f3;let ⟨_,rfl,f3⟩:=h9;exact aR (hQ c3 _ s3 (l1.trans (l2.trans l3 h1.len).P (ab _)) R3 (K1.trans (K2.trans K3).P) (.ret f3))
def iX.for (hi:la S k O ae kA (λq=>True) xs) (hl:To S k ae cE body O xs f bv) (hs:∀env x,foldedSetIterable kA env x=pure x):
  iX S k O ae (.For cE kA body [] pos) f bv:=by
 refine⟨hl.len,λA c s env hA hE R E Q hQ=> ?_⟩;refine OS (hi A c s env hA hE R _ _ λc1 s1 I own J l1 ho R1 K1 P q J1=> ?_) (hs env);refine v9 (hl.run A c1 s1 env P J1 (ab _) hA (hE.pk l1 (ab _)) R1 Q λc2 v2 s2 l2 R2 K2 f2=> ?_) (λr s' x=>by induction r with|ok f=>exact x|error e=>exact x.elim);let ⟨u1,u2⟩:=(l1.trans l2 (ab _)).GB ho;exact hQ _ v2 s2 u2 (R2.gM u1) (lE.K (K1.P.trans K2)) f2.gM
noncomputable def Aa (IP:List Expr) (env:lY):z0 Bool:=forIn IP true λc r=>if r=true then do let ok <- isTrue c env (eval c env);pure (ME ok) else pure (ME r)
def qV (e:Expr) (gens:List dI) (emit:Value->lY->z0 Unit):Prop:=
 ∀(w:jE) (A:cS) (E:VS) (Q:Fin->bb->Prop) (s:bb) (d:Nat) (it dA:Value) (env:lY) (g:dI),gens[d]? =aa g->g.is_async=0->
  (∀g',gens[d+1]? =aa g'->g'.is_async=0/\∀x,foldedSetIterable g'.iter env x=pure x)->
  wpAny (MM w) A (pyNext it) (λr eD=>match r with
   |none=>Q (.done .next) eD
   |some v=>wpAny (MM w) A (letOwnedTupleGo g.target it v) (λq rr=>wpAny (MM w) A (assign g.target env v) (λq agj=>wpAny (MM w) A (Aa g.ifs env) (λok VB=>
     if ok=true then(match gens[d+1]? with
      |some g'=>wpAny (MM w) A (eval g'.iter env) (λx Ss=>wpAny (MM w) A (pyIter x) (λI agk=>codeAny (MM w) A (.compStart e (d+1) I dA env) (λr agl=>match r with
        | .ok _=>Q (.again (.compLoop e d it dA env)) agl
        | .error _=>False) agk) E Ss) E VB
      |none=>wpAny (MM w) A (emit dA env) (λq Ss=>Q (.again (.compLoop e d it dA env)) Ss) E VB)
     else Q (.again (.compLoop e d it dA env)) VB) E agj) E rr) E eD) E s->
  wpAny (MM w) A (compTurn e d it dA env) Q E s
noncomputable def Du (F9:Expr) (dA:Value) (env:lY):z0 Unit:=do let x <- eval F9 env;let _ <- call (.builtin "list.append") [dA,x];pure ()
noncomputable def GC (kx vx:Expr) (dA:Value) (env:lY):z0 Unit:=do
 let kv <- eval kx env;let vv <- holding [kv] (eval vx env)
 match dA with
 | .ref d=>do
  standAt {kx.pos with endLine:=vx.pos.endLine,endCol:=vx.pos.endCol}
  holding [kv,vv] (dictSet d kv vv)
 |_=>unsupported "internal:dictcomp"
def GD {emit:Value->lY->z0 Unit} (he:(∃F9 scope pos,e=Expr.ListComp F9 gens scope pos/\emit=Du F9)\/
  ∃kx vx scope pos,e=Expr.DictComp kx vx gens scope pos/\emit=GC kx vx):qV e gens emit:=by
 intro w A E Q s d it dA env g hg ha hn h;let ⟨t,it0,fs,as⟩:=g;obtain rfl:as=0:=ha;unfold compTurn;generalize hM:compTurn.match_3 _ e _ _ _ _ _=M;obtain rfl:M=(gens,emit dA env):=by rw[<- hM];rcases he with⟨_,_,_,rfl,rfl⟩|⟨_,_,_,_,rfl,rfl⟩<;>rfl
 clear hM;clear he;dsimp only;generalize gens[d]? =o at hg⊢;subst hg;refine am (cV ?_);refine am (gb h (λr eD Ia=> ?_) λq q x=>x);induction r with
 |none=>exact aR Ia
 |some v=>
  refine am (gb Ia (λq rr Ib=> ?_) λq q x=>x);refine am (gb Ib (λq agj ajL=> ?_) λq q x=>x);refine am (gb ajL (λok VB Su=> ?_) λq q x=>x);induction ok with
  |false=>exact aR Su
  |true=>
   cases wD:gens[d+1]? with
   |none=>rw[wD]at Su;exact am (gb Su (λq Ss Zv=>aR Zv) λq q x=>x)
   |some g'=>
    rw[wD]at Su;let ⟨ha',qf⟩:=hn g' wD;let ⟨t',it1,fs',as'⟩:=g';obtain rfl:as'=0:=ha';refine am (gb Su (λx Ss Zv=> ?_) λq q x=>x);refine am (cV ?_);refine am (i6 (qf x) ?_);refine am (dH (gb Zv (λI agk ajN=> ?_) λq q x=>x));refine am (wpAny_runOwn (v9 ajN λr agl agm=> ?_));induction r with
    |ok f=>exact aR agm
    |error e=>exact agm.elim
def Dv (F9:Expr) (gens:List dI) (scope:Scope) (pos:Pos):qV (.ListComp F9 gens scope pos) gens (Du F9):=GD (.inl ⟨F9,scope,pos,rfl,rfl⟩)
def M0 (kx vx:Expr) (gens:List dI) (scope:Scope) (pos:Pos):qV (.DictComp kx vx gens scope pos) gens (GC kx vx):=GD (.inr ⟨kx,vx,scope,pos,rfl,rfl⟩)
inductive mi:Expr->List dI->Prop
 |list (F9:Expr) (gens:List dI) (scope:Scope) (pos:Pos):mi (.ListComp F9 gens scope pos) gens
 |dict (kx vx:Expr) (gens:List dI) (scope:Scope) (pos:Pos):mi (.DictComp kx vx gens scope pos) gens
def mi.Lx (h:mi e gens):clausesOf e=gens:=by cases h<;>rfl
def mi.loop (h:mi e gens)
  (hc:wpAny (MM w) A (compTurn e d it dA env) (λfin s'=>match fin with| .done f=>R (.ok f) s'| .again c'=>c'.quiet=true/\codeAny (MM w) A c' R s') (λq q=>False) s):
  codeAny (MM w) A (.compLoop e d it dA env) R s:=by
 have key:wpAny (MM w) A ((compTurn e d it dA env).onRaise (λx=>do noteFrame x env;theTreesLotGoes x)) (λfin s'=>match fin with| .done f=>R (.ok f) s'| .again c'=>c'.quiet=true/\codeAny (MM w) A c' R s') (λe s'=>R (.error e) s') s:=
  jD (gb hc (λq q x=>x) λq q f=>f.elim)
 refine eZ ?_;induction h with
 |list=>rw[cy (by rfl)];exact key
 |dict=>rw[cy (by rfl)];exact key
def mi.start (h:mi e gens) (hg:∀g∈gens,g.is_async=0)
  (h0:codeAny (MM w) A (.compLoop e d it dA env) R s) (h1:∀(E:VS) (Q:VS),Q it s->wpAny (MM w) A (pyIter it) Q E s):codeAny (MM w) A (.compStart e d it dA env) R s:=by
 have hq:(Code.compLoop e d it dA env).quiet=true:=by cases h<;>rfl
 have Sv:((clausesOf e)[d]?).elim false (λg=>g.is_async !=0)=false:=by
  rw[h.Lx];cases e:gens[d]? with
  |none=>rfl
  |some g=>show(g.is_async !=0)=false;rw[hg g (bo e)];rfl
 have key:wpAny (MM w) A ((compStart e d it dA env).onRaise (λx=>do noteFrame x env;standAt theWindowsPlace)) (λfin s'=>match fin with| .done f=>R (.ok f) s'| .again c'=>c'.quiet=true/\codeAny (MM w) A c' R s') (λe s'=>R (.error e) s') s:=by
  refine wpAny_notedAt ?_;unfold compStart;rw[Sv];show wpAny _ _ (ask >>= _) _ _ s;refine am (wpAny_askSetting (wpAny_ite ?_));split
  ·first
    |exact am (aR (aR (V2 hq h0)))
    |exact aR (V2 hq h0)
  ·refine am (KD ?_);have fin:wpAny (MM w) A (pyIter it >>= λit'=>(pure (Fin.again (.compLoop e d it' dA env)):z0 Fin)) (λfin s'=>match fin with| .done f=>R (.ok f) s'| .again c'=>c'.quiet=true/\codeAny (MM w) A c' R s') (notedBy (MM w) A env λe s'=>R (.error e) s') s:=
    am (h1 _ _ (aR ⟨hq,h0⟩))
   cases hd:(clausesOf e)[d]? with
   |none=>exact fin
   |some g=>exact am (cV fin)
 refine eZ ?_;induction h with
 |list=>rw[cy (by rfl)];exact key
 |dict=>rw[cy (by rfl)];exact key
def pn (S:cz) (k:Nat) (O:List AO) (ae:iv) (IP:List Expr) (b:Bool):Prop:=
 ∀A c s env,jG k A->cY c ↑O ae env->Rel S c O s.heap->
  ∀(E:VS) (Q:Bool->bb->Prop),(∀c' s',aM.le ↑O c c'->Rel S c' O s'.heap->dY s s'->Q b s')->wpAny (MM S.w) A (Aa IP env) Q E s
def pn.nil:pn S k O ae [] true:=λA c s env q q R E Q hQ=>by unfold Aa;rw[qC];exact aR (hQ c s (.refl ..) R (.refl ..))
def pn.one (h:oA S k O ae t b):pn S k O ae [t] b:=λA c s env hA hE R E Q hQ=>by unfold Aa;rw[uf,if_pos rfl];refine am (am (h A c s env hA hE R _ _ λc1 s1 l1 R1 K1=>aR ?_));show wpAny _ _ (forIn [] b _) _ _ _;rw[qC];exact aR (hQ c1 s1 l1 R1 K1)
def vG (S:cz) (k:Nat) (ae:iv) (emit:Value->lY->z0 Unit) (ai:Nat) (O bv:List AO):Prop:=
 ↑O<= ↑bv/\∀A c s env dA,jG k A->cY c ↑O ae env->Rel S c O s.heap->cU S.w c ↑O dA (.fM ai)->
  ∀(E:VS) (Q:Unit->bb->Prop),(∀c' s',aM.le ↑O c c'->Rel S c' bv s'.heap->dY s s'->Q () s')->wpAny (MM S.w) A (emit dA env) Q E s
inductive GF (S:cz) (k:Nat) (ae:iv) (gens:List dI) (em:List AO->List AO->Prop):Nat->(List AO->Prop)->List AO->List PV->List AO->Prop
 |nil {d:Nat} {ok:List AO->Prop} {O:List AO}:ok O->GF S k ae gens em d ok O [] O
 |skip {d:Nat} {ok:List AO->Prop} {O bw bQ:List AO} {x:PV} {rest:List PV} {g:dI}:gens[d]? =aa g->ok O->Do S k O ae g.target (.pv x) bw->pn S k bw ae g.ifs false->
   GF S k ae gens em d ok bw rest bQ->GF S k ae gens em d ok O (x::rest) bQ
 |emit {d:Nat} {ok:List AO->Prop} {O bw bQ ru:List AO} {x:PV} {rest:List PV} {g:dI}:gens[d]? =aa g->gens[d+1]? =ac->ok O->Do S k O ae g.target (.pv x) bw->pn S k bw ae g.ifs true->
   em bw bQ->GF S k ae gens em d ok bQ rest ru->GF S k ae gens em d ok O (x::rest) ru
 |inner {d:Nat} {ok ok':List AO->Prop} {O bw bQ ru:List AO} {x:PV} {rest xs:List PV} {g g':dI}:gens[d]? =aa g->gens[d+1]? =aa g'->ok O->Do S k O ae g.target (.pv x) bw->pn S k bw ae g.ifs true->
   la S k bw ae g'.iter ok' xs->GF S k ae gens em (d+1) ok' bw xs bQ->GF S k ae gens em d ok bQ rest ru->GF S k ae gens em d ok O (x::rest) ru
def GF.len (hem:∀a b,em a b-> ↑a<= ↑b) (h:GF S k ae gens em d ok O xs bv): ↑O<= ↑bv:=by
 induction h with
 |nil=>exact ab _
 |skip _ _ a _ _ ih=>exact aA a.len ih
 |emit _ _ _ a _ e _ ih=>exact aA (aA a.len (hem _ _ e)) ih
 |inner _ _ _ a _ _ _ _ ih1 ih2=>exact aA (aA a.len ih1) ih2
def cU.M1 (h:cU w c n v d) (hc:aM.pO own n c c') (hn:n<=n'):cU w c' n' v d:=h.j8 hc.F hc.Z hn
def GF.run {emit:Value->lY->z0 Unit} (he:mi e gens) (zD:qV e gens emit) (hg:∀g∈gens,g.is_async=0) (hf:∀g∈gens,∀env x,foldedSetIterable g.iter env x=pure x)
  (h:GF S k ae gens (vG S k ae emit ai) d ok O xs bv):(gens[d]?).isSome->∀ {own:Addr->Prop} {v7 oT:Nat} {I:Value} {J:List PV->aM->bb->Prop}
  (A:cS) (c:aM) (s:bb) (env:lY) (dA:Value),su S k A own v7 oT ok I J->J xs c s->oT<= ↑O->jG k A->cY c ↑O ae env->Rel S c O s.heap->cU S.w c ↑O dA (.fM ai)->
  ∀(Q:bb->Prop),(∀c' s',aM.pO own ↑O c c'->Rel S c' bv s'.heap->lE v7 s s'->Q s')->
   codeAny (MM S.w) A (.compLoop e d I dA env) (λr s'=>match r with| .ok f=>Q s'| .error e=>False) s:=by
 have vt:∀d env g',gens[d+1]? =aa g'->g'.is_async=0/\∀x,foldedSetIterable g'.iter env x=pure x:=λd env g' e=>⟨hg _ (bo e),hf _ (bo e) env⟩;have hqu:∀d I dA env,(Code.compLoop e d I dA env).quiet=true:=λd I dA env=>by cases he<;>rfl
 induction h with
 | @nil d ok O ng=>intro hd own v7 oT I J A c s env dA P hJ hn hA hE R ha Q hQ;let ⟨g,hd⟩:=jk.mp hd;refine he.loop (zD _ _ _ _ _ _ _ _ _ _ hd (hg _ (bo hd)) (vt d env) ?_);exact P.next hJ R hn ng hA _ _ (λq c1 s1 l1 R1 K1=>hQ c1 s1 l1 R1 K1) λx r e=>by nomatch e
 | @skip d ok O bw bQ x rest g hd ng h1 h2 h3 ih=>intro AB own v7 oT I J A c s env dA P hJ hn hA hE R ha Q hQ;refine he.loop (zD _ _ _ _ _ _ _ _ _ _ hd (hg _ (bo hd)) (vt d env) ?_);refine P.next hJ R hn ng hA _ _ (λe=>by nomatch e) λy r e c1 v s1 l1 R1 K1 J1 a1=> ?_;injection e with e1 e2;subst e1 e2;have rA:=hE.pk l1 (ab _);refine P.Vw J1 R1 g.target v _ _ (h1.run A c1 s1 env v hA rA R1 (.pv a1) _ _ λc2 s2 l2 R2 K2=> ?_);have H9:=rA.mono l2 h1.len;refine h2 A c2 s2 env hA H9 R2 _ _ λc3 s3 l3 R3 K3=> ?_;have FL:=l2.trans l3 h1.len;rw[if_neg bG];refine⟨hqu ..,ih AB A c3 s3 env dA P (P.keep J1 hn FL (K2.trans K3) R1 R3) (aA hn h1.len) hA (rA.mono FL h1.len) R3 ((ha.M1 l1 (ab _)).mono FL h1.len) Q λc4 s4 l4 R4 K4=> ?_⟩;exact hQ c4 s4 ((l1.trans FL.P (ab _)).trans l4 h1.len) R4 ((K1.trans (K2.trans K3).P).trans K4)
 | @emit d ok O bw bQ ru x rest g hd hnx ng h1 h2 h3 h4 ih=>intro AB own v7 oT I J A c s env dA P hJ hn hA hE R ha Q hQ;refine he.loop (zD _ _ _ _ _ _ _ _ _ _ hd (hg _ (bo hd)) (vt d env) ?_);refine P.next hJ R hn ng hA _ _ (λe=>by nomatch e) λy r e c1 v s1 l1 R1 K1 J1 a1=> ?_;injection e with e1 e2;subst e1 e2;have rA:=hE.pk l1 (ab _);refine P.Vw J1 R1 g.target v _ _ (h1.run A c1 s1 env v hA rA R1 (.pv a1) _ _ λc2 s2 l2 R2 K2=> ?_);have H9:=rA.mono l2 h1.len;refine h2 A c2 s2 env hA H9 R2 _ _ λc3 s3 l3 R3 K3=> ?_;have FL:=l2.trans l3 h1.len;rw[if_pos rfl,hnx];have Zw:=rA.mono FL h1.len;have ha3:=(ha.M1 l1 (ab _)).mono FL h1.len;refine h3.2 A c3 s3 env dA hA Zw R3 ha3 _ _ λc4 s4 l4 R4 K4=> ?_;have C6:=aA h1.len h3.1;have VC:=FL.trans l4 h1.len;have J4:=P.keep J1 hn VC ((K2.trans K3).trans K4) R1 R4;refine⟨hqu ..,ih AB A c4 s4 env dA P J4 (aA hn C6) hA (rA.mono VC C6) R4 ((ha.M1 l1 (ab _)).mono VC C6) Q λc5 s5 l5 R5 K5=> ?_⟩;exact hQ c5 s5 ((l1.trans VC.P (ab _)).trans l5 C6) R5 ((K1.trans ((K2.trans K3).trans K4).P).trans K5)
 | @inner d ok ok' O bw bQ ru x rest ys g g' hd hnx ng h1 h2 h3 h4 h5 ih1 ih2=>intro AB own v7 oT I J A c s env dA P hJ hn hA hE R ha Q hQ;refine he.loop (zD _ _ _ _ _ _ _ _ _ _ hd (hg _ (bo hd)) (vt d env) ?_);refine P.next hJ R hn ng hA _ _ (λe=>by nomatch e) λy r e c1 v s1 l1 R1 K1 J1 a1=> ?_;injection e with e1 e2;subst e1 e2;have rA:=hE.pk l1 (ab _);refine P.Vw J1 R1 g.target v _ _ (h1.run A c1 s1 env v hA rA R1 (.pv a1) _ _ λc2 s2 l2 R2 K2=> ?_);refine h2 A c2 s2 env hA (rA.mono l2 h1.len) R2 _ _ λc3 s3 l3 R3 K3=> ?_;have FL:=l2.trans l3 h1.len;rw[if_pos rfl,hnx];have Zw:=rA.mono FL h1.len;refine h3 A c3 s3 env hA Zw R3 _ _ λc4 s4 I' AR J' l4 ho R4 K4 P' anB J4=> ?_;refine he.start hg (v9 (ih1 (by rw[hnx];rfl) A c4 s4 env dA P' J4 (ab _) hA (Zw.pk l4 (ab _)) R4 (((ha.M1 l1 (ab _)).mono FL h1.len).M1 l4 (ab _)) _ λc5 s5 l5 R5 K5=> ?_) λr s' x=>x) λE Q hq=>P'.self J4 R4 hA E Q hq;let ⟨u1,u2⟩:=(l4.trans l5 (ab _)).GB ho;have R6:=R5.gM u1;have K5':dY s3 s5:=lE.K (K4.P.trans K5);have C6:=aA h1.len ((λ{d:Nat} {ok:List AO->Prop} {O bv:List AO} {xs:List PV} (h:GF S k ae gens (vG S k ae emit ai) d ok O xs bv)=>h.len (λa b h=>h.1)) h4);have VD:=FL.trans u2 h1.len;refine⟨hqu ..,ih2 AB A _ s5 env dA P (P.keep J1 hn VD ((K2.trans K3).trans K5') R1 R6) (aA hn C6) hA (rA.mono VD C6) R6 ((ha.M1 l1 (ab _)).mono VD C6) Q λc7 s7 l7 R7 K7=> ?_⟩;exact hQ c7 s7 ((l1.trans VD.P (ab _)).trans l7 C6) R7 ((K1.trans ((K2.trans K3).trans K5').P).trans K7)
noncomputable def kg {α:Type} (cells:List (Str×α)):List (Str×qi)->List (Str×α)->Option (List (Str×α))
 | [],dA=>aa dA
 |p::r,dA=>if p.2== .free then(cells.lookup p.1).bind λa=>kg cells r ((p.1,a)::dA) else kg cells r dA
def pq:kg cells (p::r) dA=if p.2== .free then(cells.lookup p.1).bind λa=>kg cells r ((p.1,a)::dA) else kg cells r dA:=rfl
def mV (h:kg env.cells scope.names []=aa cl):closureFor scope env=pure cl:=by
 have key:∀(names:List (Str×qi)) (dA:List (Str×Addr)) (f:Str×qi->List (Str×Addr)->z0 (ForInStep (List (Str×Addr)))),
   (∀n k cs,f (n,k) cs=if k== .free then(do let a <- cellOf env n;pure (.yield ((n,a)::cs))) else pure (.yield cs))->∀r,kg env.cells names dA=aa r->forIn names dA f=(pure r:z0 _):=by
  intro names;induction names with
  |nil=>intro dA f hf r h;obtain rfl:=ag h;rfl
  |cons p names ih=>
   let ⟨n,k⟩:=p;intro dA f hf r h;rw[pq]at h;rw[uf,hf];cases hk:k==S5 with
   |true=>
    rw[hk,if_pos rfl]at h;cases hl:env.cells.lookup n with
    |none=>rw[hl]at h;nomatch h
    |some a=>rw[hl]at h;rw[if_pos rfl,(by unfold cellOf;rw[hl]:cellOf env n=pure a)];exact ih _ f hf r h
   |false=>rw[hk,if_neg bG]at h;rw[if_neg bG];exact ih _ f hf r h
 simp only[closureFor];rw[key scope.names [] _ (λn k cs=>by cases hk:k==S5<;>simp[hk]) cl h];rfl
def Yl (f:α->β) (cells:List (Str×α)):(cells.map λp=>(p.1,f p.2)).lookup n=(cells.lookup n).map f:=by
 induction cells with
 |nil=>rfl
 |cons p l ih=>rw[bx,di,di,ih];cases n==p.1<;>rfl
def qW (f:α->β) (cells:List (Str×α)) (names:List (Str×qi)):∀(dA r:List (Str×α)),kg cells names dA=aa r->
  kg (cells.map λp=>(p.1,f p.2)) names (dA.map λp=>(p.1,f p.2))=aa (r.map λp=>(p.1,f p.2)):=by
 induction names with
 |nil=>intro dA r h;exact ag h▸rfl
 |cons q names ih=>
  intro dA r h;rw[pq]at h⊢;by_cases e:(q.2== .free)=true
  ·rw[if_pos e]at h;rw[if_pos e,Yl];exact a9 h λa hl h=>by rw[hl];exact ih _ r h
  ·rw[if_neg e]at h;rw[if_neg e];exact ih _ r h
def td (hc:∀p∈cells,p.2<n) (names:List (Str×qi)):∀(dA r:Sn),(∀p∈dA,p.2<n)->kg cells names dA=aa r->∀p∈r,p.2<n:=by
 induction names with
 |nil=>intro dA r ha h;exact ag h▸ha
 |cons q names ih=>
  intro dA r ha h;rw[pq]at h;by_cases e:(q.2== .free)=true
  ·rw[if_pos e]at h;refine a9 h λa hl h=>ih _ r (λp hp=> ?_) h;rcases aH.mp hp with e|e
   ·exact e▸hc _ (Yg hl)
   ·exact ha p e
  ·rw[if_neg e]at h;exact ih _ r ha h
def pV
  (h:Q (newEnv scope s.heap.objs.size globals (cellsFrom (s.heap.objs.size+1) scope.names cl) qual ac .none (aa env) builtinsNs) {s with heap:=pushCells (s.heap.push {cls:= .type "dict",data:= .dict #[]}) scope.names}):
  wpAny M A (newFunctionEnv scope globals cl [] qual ac .none (aa env)) Q E s:=by
 simp only[newFunctionEnv,Option.isSome_some,if_true];refine am (Ge ?_);refine am (KG _ (λname kind cells=>by cases hkc:kind==kZ<;>simp[hkc]) _ _ _ _ ?_);rw[show({s with heap:=s.heap.push {cls:= .type "dict",data:= .dict #[]}}:bb).heap.objs.size=s.heap.objs.size+1 from eT ..];refine am ?_;rw[qC];exact aR (aR h)
noncomputable def fg (names:List (Str×qi)):Nat:= ↑(names.filter λp=>p.2== .cell)
def Rel.Bd (names:List (Str×qi)):∀ {c:aM} {O:List AO} {h:iR} (dA:Sn),Rel S c O h->(∀p∈dA,p.2< ↑O)->
  ∃c',aM.le ↑O c c'/\Rel S c' (O++bR (fg names) (.cell ac)) (pushCells h names)/\
   cellsFrom h.objs.size names (dA.map λp=>(p.1,c.Z p.2))=(cellsFrom ↑O names dA).map (λp=>(p.1,c'.Z p.2))/\∀p∈cellsFrom ↑O names dA,p.2< ↑O+fg names:=by
 induction names with
 |nil=>intro c O h dA R ha;exact⟨c,.refl ..,by simpa[fg,pushCells]using R,rfl,by simpa[fg,cellsFrom]using ha⟩
 |cons q9 names ih=>
  intro c O h dA R ha;obtain(⟨n,k⟩):=q9;unfold pushCells cellsFrom;cases hk:k==kZ with
  |false=>
   have e:fg ((n,k)::names)=fg names:=by simp[fg,hk]
   rw[e];exact ih dA R ha
  |true=>
   have e:fg ((n,k)::names)=fg names+1:=by simp[fg,hk]
   rw[e];simp only[if_true];have R1:Rel S (c.own ↑O h.objs.size) (O++[.cell ac]) (h.push {cls:= .type "cell",data:= .cell ac}):=
    R.AR (λb o e=>aJ _ e) (ab _) (aV _ rfl) (.cell rfl rfl (λx e=>by cases e) λq=>rfl)
   have ha':∀p∈(n,↑O)::dA,p.2< ↑(O++[AO.cell ac]):=by
    intro p hp;rw[aj,be];rcases aH.mp hp with e|e
    ·subst e;exact eu _
    ·exact eH (ha p e)
   left;let ⟨c',l1,R2,h3,h4⟩:=ih ((n,↑O)::dA) R1 ha';have cI: ↑(O++[AO.cell ac])= ↑O+1:=by rw[aj,be]
   right;refine⟨c',aM.jb.trans l1 (aaY cI),?_,?_,?_⟩
   ·rw[wG,List.append_cons];exact R2
   ·rw[cI]at h3;rw[<- h3,eT,bx];rw[(aM.ma ..)];congr 2;exact cj λp hp=>by rw[aM.jb.Z _ (ha p hp)]
   ·intro p hp;rw[cI]at h4;exact a8 (h4 p hp) (aiM)
noncomputable def w2 (scope outer:Scope):Scope:=
 {scope with names:=scope.names.map λ(n,k)=>if (k== .free&&outer.kind== .function&&outer.names.lookup n==aa .cell) then(n,.cell) else(n,k)}
def Be (ae:iv) (scope:Scope) (n:Nat) (cl:Sn):iv:= {scope:=w2 scope ae.scope,fi:=n+1,cells:=cellsFrom (n+2) scope.names cl,code:=ae.code}
def Rel.Ui {c:aM} {h h':iR} {a:Addr} (R:Rel S c O h) (ha:qF c ↑O a) (hk:∀b o,b≠a->h.get? b=aa o->h'.get? b=aa o):Rel S c O h' where
 frozen:=λx o e=>hk _ _ (by rintro rfl;rw[ha.F]at e;nomatch e) (R.frozen x o e)
 base:=R.base
 own:=λi ao e=>xe12 (R.own i ao e) λo p q=>⟨o,hk _ _ (ha.Z i (by
  rcases bS i ↑O with h|h
  ·exact h
  ·rw[bC h]at e;nomatch e)) p,q⟩
 apart:=R.apart
 inj:=R.inj
 pins:=λx o e=>⟨hk _ _ (by rintro rfl;rw[ha.pin]at e;nomatch e) (R.pins x o e).1,(R.pins x o e).2⟩
 tabs:=λq hq=>let ⟨x,b,ps,d,e⟩:=R.tabs q hq;⟨x,b,ps,hk _ _ (ha.tab q hq) d,e⟩
def M2 {loc:List Str}
  (he:mi e gens) (zD:qV e gens emit) (Ko:gens=g::gs) (hg:∀g∈gens,g.is_async=0) (hf:∀g∈gens,∀env x,foldedSetIterable g.iter env x=pure x)
  (Ic:kg ae.cells scope.names []=aa cl) (qx:scope.kind= .function) (FJ:∀x∈scope.names,x.2= .local->scope.names.lookup x.1=aa .local) (Xm:loc.Nodup)
  (hi:la S k O ae g.iter ok xs)
  (kz:∀(A:cS) (s:bb) (E:VS) (Q:VS),Q (.ref s.heap.objs.size) {s with heap:=s.heap.push accObj}->wpAny (MM S.w) A newAcc Q E s) (uM:accObj.isFreed=false)
  (Sw:∀(c:aM) (n:Nat),ic S.w c n accObj qy)
  (Ie:GF S k (Be ae scope ↑O cl) gens (vG S k (Be ae scope ↑O cl) emit ↑O) 0 ok (O++(qy:: .ns (loc.map λx=>(x,ac))::bR (fg scope.names) (.cell ac))) xs (O++Ci:: .ns m'::τ'))
  (hz:Gs (Ci:: .ns m'::τ') ↑O (.fM (↑O+0)) (.pv d)):
  ∀(A:cS) (c:aM) (s:bb) (env:lY),jG k A->cY c ↑O ae env->Rel S c O s.heap->∀(use:Option (Value->z0 Unit)) (E:VS) (Q:VS),
   (∀c' dA s' fa m,aM.le ↑O c c'->Rel S c' O s'.heap->dY s s'->dk S.w c'.F dA d->qF c' ↑O fa->s'.heap.Ns fa m->compPost (MM S.w) A E use Q dA fa (.ok .next) s')->
   wpAny (MM S.w) A (comprehension e scope env pos newAcc false (eval g.iter env) use) Q E s:=by
 intro A c s env hA hE R use E Q hQ;have Ee:closureFor scope env=pure (cl.map λp=>(p.1,c.Z p.2)):=by refine mV ?_;rw[hE.cells];exact qW c.Z ae.cells scope.names [] cl Ic
 have sJ:∀p∈cl,p.2< ↑O:=td hE.jr scope.names [] cl (λp hp=>by nomatch hp) Ic;refine wpAny_comprehension_free (by rw[he.Lx,Ko]) (hf g (by rw[Ko];exact ay) env) Ee qx FJ ?_;refine hi A c s env hA hE R _ _ λc1 s1 I own J l1 ho R1 K1 P ng J1=> ?_;refine kz A s1 E _ ?_;have l2:aM.le ↑O c1 (c1.own ↑O s1.heap.objs.size):=aM.jb;have R2:Rel S (c1.own ↑O s1.heap.objs.size) (O++[qy]) (s1.heap.push accObj):=R1.AR (λb o e=>aJ _ e) (ab _) (aV _ uM) (Sw _ _);refine pV ?_;have C6: ↑(O++[qy])= ↑O+1:=by rw[aj,be]
 generalize Zx:c1.own ↑O s1.heap.objs.size=c2 at l2 R2;have Mm:c2.Z ↑O=s1.heap.objs.size:=by exact Zx▸(aM.ma ..)
 generalize hH2:s1.heap.push accObj=H2 at R2;have R3:Rel S (c2.own ↑(O++[qy]) H2.objs.size) (O++[qy]++[.ns (loc.map λx=>(x,ac))]) (H2.push {cls:= .type "dict",data:= .dict #[]}):=
  R2.AR (λb o e=>aJ _ e) (ab _) (aV _ rfl) (.ns (es:= #[]) (ep:=0) rfl (λe he=>by simp at he) (by rw[bD];simpa[KP]using Xm)
   (λx d hx=>by let ⟨y,_,e⟩:=aQ.mp hx;nomatch e) λx q=>rfl)
 have l3:aM.le ↑(O++[qy]) c2 (c2.own ↑(O++[qy]) H2.objs.size):=aM.jb;generalize ON:c2.own ↑(O++[qy]) H2.objs.size=c3 at R3 l3;have VE:c3.Z (↑O+1)=H2.objs.size:=by rw[<- ON,<- C6];exact aM.ma ..
 have Zy: ↑(O++[qy]++[AO.ns (loc.map λx=>(x,ac))])= ↑O+2:=by rw[aj,C6,be]
 have l13:aM.le ↑O c1 c3:=l2.trans l3 (aaY C6);let ⟨c4,l4,R4,mQ,FN⟩:=Rel.Bd scope.names cl R3 (λp hp=>by rw[Zy];exact a8 (sJ p hp) (aiN));rw[Zy]at mQ FN;rw[eT]at mQ;have l14:aM.le ↑O c1 c4:=l13.trans l4 (aiO Zy);have ajR:O++[qy]++[AO.ns (loc.map λx=>(x,ac))]++bR (fg scope.names) (AO.cell ac)=O++(qy:: .ns (loc.map λx=>(x,ac))::bR (fg scope.names) (.cell ac)):=by simp
 rw[ajR]at R4;generalize H5:O++(qy:: .ns (loc.map λx=>(x,ac))::bR (fg scope.names) (.cell ac))=σ4 at R4 Ie;have Cj: ↑σ4= ↑O+2+fg scope.names:=by rw[<- H5,aj,az,az,nG];exact aiP
 rw[(cj λp hp=>by rw[(l1.trans l13.P (ab _)).Z _ (sJ p hp)]:(cl.map λp=>(p.1,c.Z p.2))=cl.map λp=>(p.1,c3.Z p.2)),mQ];have hE4:cY c4 ↑σ4 (Be ae scope ↑O cl) {newEnv scope H2.objs.size env.globals ((cellsFrom (↑O+2) scope.names cl).map λp=>(p.1,c4.Z p.2)) env.qual ac .none (aa env) builtinsNs with scope:=relabel scope env}:= {
  scope:=by show relabel scope env=w2 scope ae.scope;unfold relabel w2 Env.kindOf;rw[hE.scope]
  kind:=qx
  locals:=by
   show H2.objs.size=c4.Z (↑O+1);rw[l4.Z _ (aa0 Zy),VE]
  fi:=by show ↑O+1< ↑σ4;exact aa1 Cj
  globals:=hE.globals
  builtins:=hE.builtins
  cells:=rfl
  jr:=λp hp=>by rw[Cj];exact FN p hp
  code:=hE.code
  frame:=hE.frame}
 have K4:dY s1 {s1 with heap:=pushCells (H2.push {cls:= .type "dict",data:= .dict #[]}) scope.names}:= .gF ..;have J4:=P.keep J1 (ab _) l14 K4 R1 R4;have ha4:cU S.w c4 ↑σ4 (.ref s1.heap.objs.size) (.fM ↑O):=by
  have e:c4.Z ↑O=s1.heap.objs.size:=by rw[l4.Z _ (aa2 Zy),l3.Z _ (aa3 C6),Mm]
  rw[<- e];exact .fM (aa4 Cj)
 refine he.start hg (v9 (Ie.run he zD hg hf (by rw[Ko];rfl) A c4 _ _ _ P J4 (aa5 Cj) hA hE4 R4 ha4 (λs'=>compPost (MM S.w) A E use Q (.ref s1.heap.objs.size) H2.objs.size (.ok .next) s') λc5 s5 l5 R5 K5=> ?_) λr s' x=> ?_) λE Q hq=>P.self J4 R4 hA E Q hq
 ·have XZ:aM.pO own ↑O c c5:=(l1.trans l14.P (ab _)).trans l5 (aa5 Cj);let ⟨u1,u2⟩:=XZ.GB ho;have R6:=R5.gM u1;have e5:c5.Z ↑O=s1.heap.objs.size:=by rw[l5.Z _ (aa4 Cj),l4.Z _ (aa2 Zy),l3.Z _ (aa3 C6),Mm]
  have agq: ↑O< ↑(O++Ci:: .ns m'::τ'):=by rw[aj,az];exact X3
  have agr: ↑O+1< ↑(O++Ci:: .ns m'::τ'):=by rw[aj,az,az];exact aiQ
  have hv:cU S.w (c5.gM c) ↑(O++Ci:: .ns m'::τ') (.ref s1.heap.objs.size) (.fM (↑O+0)):=by exact e5▸(.fM agq)
  have tY:(O++Ci:: .ns m'::τ')[↑O+1]? =aa (.ns m'):=by rw[aE (bh ..),bP];rfl
  left;let ⟨f,Sx,_⟩:=R6.ns tY;let ⟨c7,l7,R7,a7,fr7⟩:=Gs.run R R6 rfl (λq q h=> .inl h) hz hv;right;have oS:(eL s1.heap.objs.size)≠ .ref ((c5.gM c).Z (↑O+1)):=by intro e;injection e with e;have:=R6.inj ↑O (↑O+1) agq agr (e5.trans e);exact aiR this
  have:=hQ c7 _ s5 _ f (u2.trans l7 (ab _)) R7 (lE.K (K1.P.trans (K4.P.trans K5))) a7.gi (fr7 _ (R6.Lh (bh _ 1) agr) oS) Sx;rw[((by rw[l5.Z _ (aa1 Cj),l4.Z _ (aa0 Zy),VE]):(c5.gM c).Z (↑O+1)=H2.objs.size)]at this;exact this
 ·cases r with
  |ok f=>cases use<;>exact x
  |error e=>exact x.elim
def Ev.PS (h:∀(A:cS) (c:aM) (s:bb) (env:lY),jG k A->cY c ↑O ae env->Rel S c O s.heap->∀(E:VS) (Q:VS),
   (∀c' dA s' fa m,aM.le ↑O c c'->Rel S c' O s'.heap->dY s s'->dk S.w c'.F dA d->qF c' ↑O fa->s'.heap.Ns fa m->compPost (MM S.w) A E ac Q dA fa (.ok .next) s')->
   wpAny (MM S.w) A (eval e env) Q E s):nL S k O ae e d:=by
 refine⟨ab _,λA c s env hA hE R E Q hQ=> ?_⟩;refine h A c s env hA hE R E Q λc1 dA s1 fa m l1 R1 K1 a1 hfa tY=> ?_;exact⟨m,tY,λh' qf=>hQ c1 dA _ l1 (R1.Ui hfa qf.extBut) (K1.trans (.gF ..)) (.pv a1)⟩
section
variable {lay:Lay}
structure kr (lay:Lay) (p:IF) (st cf:St) (O bv:List AO):Prop where
 len: ↑O<= ↑bv
 len0:lay.grow=false-> ↑bv= ↑O/\ ↑cf.ob= ↑st.ob
 obs: ↑st.ob<= ↑cf.ob
 out:∀i,i< ↑O->i≠p.fi->(∀j,j<lay.own->p.ci[j]? ≠aa i)->(∀j,j< ↑st.ob->i≠p.oi j)->bv[i]? =O[i]?
def kr.refl (p:IF) (st:St) (O:List AO):kr lay p st st O O:=⟨ab _,λq=>⟨rfl,rfl⟩,ab _,λq q q q q=>rfl⟩
def kr.trans {p:IF} {st Mn Ef:St} {O bw bQ:List AO} (h:kr lay p st Mn O bw) (h':kr lay p Mn Ef bw bQ) (bc:At lay p st O):kr lay p st Ef O bQ where
 len:=aA h.len h'.len
 len0:=λhg=>⟨(h'.len0 hg).1.trans (h.len0 hg).1,(h'.len0 hg).2.trans (h.len0 hg).2⟩
 obs:=aA h.obs h'.obs
 out:=λi hi h1 h2 h3=>by
  refine(h'.out i (a8 hi h.len) h1 h2 λj hj=> ?_).trans (h.out i hi h1 h2 h3);rcases bS j ↑st.ob with kW|AC
  ·exact h3 j kW
  ·cases hg:lay.grow with
   |false=>have:=(h.len0 hg).2;exact aiS hj this AC
   |true=>have:=bc.next hg (j- ↑st.ob);rw[show ↑st.ob+(j- ↑st.ob)=j by exact TR AC]at this;exact aiT hi this
def ie (i:Nat) (v:CV) (st:St):St:= {st with lv:=st.lv.set i (aa v)}
def rN (i:Nat) (v:CV) (st:St):St:= {st with cv:=st.cv.set i (aa v)}
def iU.zip {loc:List Str}:∀ {m:List (Option AV)} {i:Nat},loc[i]? =aa x->i< ↑m->iU x d (loc.zip m) (loc.zip (m.set i (aa d))):=by
 induction loc with
 |nil=>exact λh q=>gq h
 |cons a loc ih=>
  intro m i h hl;cases m with
  |nil=>exact absurd hl (iy _)
  |cons b m=>
   induction i with
   |zero=>obtain rfl:=ag h;exact .here
   |succ i=>exact .there (ih h (ud hl))
def getElem?_lt' {l:List α} (h:l[i]? =aa x):i< ↑l:=by
 rcases bS i ↑l with h'|h'
 ·exact h'
 ·rw[bC h']at h;nomatch h
def At.ie (bc:At lay p st O) (h:lay.nq i x=true) (v:CV):
  ∃bv,j4 S O (lay.en p) x (v.av p.oi) bv/\At lay p (ie i v st) bv/\kr lay p st (ie i v st) O bv:=by
 unfold Lay.nq at h;simp only[dj,beq_iff_eq]at h;left;let ⟨⟨h1,h2⟩,_⟩:=h;right;have hs:iU x (v.av p.oi) (lay.loc.zip (Ua p.oi st.lv)) (lay.loc.zip (Ua p.oi (st.lv.set i (aa v)))):=by have:=iU.zip (d:=v.av p.oi) (m:=Ua p.oi st.lv) h1 (by simpa using (by rw[bc.Od];exact getElem?_lt' h1));rw[show Ua p.oi (st.lv.set i (aa v))=(Ua p.oi st.lv).set i (aa (v.av p.oi)) from List.map_set];exact this
 have Ig:∀n,n≠p.fi->∀o,(O.set p.fi o)[n]? =O[n]? :=λn hn o=>bE hn.symm;refine⟨_,j4.loc bc.frame h2 hs rfl,?_,?_⟩
 ·refine⟨?_,by simpa[Mine.ie]using bc.Od,bc.x9,bc.FI,λj w hw=> ?_,λj o ho=> ?_,bc.Zq,bc.Zr,bc.Vu,bc.Xf,bc.Vv,λhg j=> ?_⟩
  ·show(O.set p.fi _)[p.fi]? =_;rw[bU (getElem?_lt' bc.frame)];rfl
  ·let ⟨n,hn,hc⟩:=bc.cells j w hw;refine⟨n,hn,?_⟩;show(O.set p.fi _)[n]? =_;rw[Ig n (λe=>bc.Zq (e▸bo hn))];exact hc
  ·show(O.set p.fi _)[p.oi j]? =_;rw[Ig _ (bc.Zr j (getElem?_lt' ho))];exact bc.obs j o ho
  ·show p.oi (↑st.ob+j)= ↑(O.set p.fi _)+j;exact(bi).symm▸(bc.next hg j)
 ·refine⟨by show ↑O<= ↑(O.set p.fi _);rw[bi];exact ab _,λq=>⟨bi,rfl⟩,ab _,λn hn h1 q q=>Ig n h1 _⟩
def Lay.GG (lay:Lay) (i:Nat) (x:Str):Bool:=idxOf x lay.nr==aa i&&lay.scope.names.lookup x==aa .cell&&decide (i<lay.own)
def PT {l:List Str}:∀ {i:Nat},idxOf x l=aa i->i< ↑l:=by
 induction l with
 |nil=>intro i h;nomatch h
 |cons a l ih=>
  intro i h;rw[idxOf_cons]at h;by_cases e:(x==a)=true
  ·rw[if_pos e]at h;obtain rfl:=ag h;exact Nat.zero_lt_succ _
  ·rw[if_neg e]at h;let ⟨j,hj,rfl⟩:=ar.mp h;exact Nat.succ_lt_succ (ih hj)
def At.rN (bc:At lay p st O) (h:lay.GG i x=true) (v:CV):
  ∃bv,j4 S O (lay.en p) x (v.av p.oi) bv/\At lay p (rN i v st) bv/\kr lay p st (rN i v st) O bv:=by
 unfold Lay.GG at h;simp only[dj,beq_iff_eq,decide_eq_true_eq]at h;left;let ⟨⟨h1,h2⟩,h3⟩:=h;have H8:i< ↑st.cv:=by rw[bc.x9];exact(PT h1)
 let ⟨n,hn,hc⟩:=bc.cells i _ (aq H8);have Ig:∀m,m≠n->∀o,(O.set n o)[m]? =O[m]? :=λm hm o=>bE hm.symm;have ajS:n≠p.fi:=λe=>bc.Zq (e▸bo hn);right;refine⟨_,j4.cell h2 (A5 h1 hn) hc rfl,?_,?_⟩
 ·refine⟨?_,bc.Od,by simpa[Mine.rN]using bc.x9,bc.FI,λj w hw=> ?_,λj o ho=> ?_,bc.Zq,bc.Zr,bc.Vu,bc.Xf,bc.Vv,λhg j=> ?_⟩
  ·rw[Ig _ ajS.symm];exact bc.frame
  ·have hw':(st.cv.set i (aa v))[j]? =aa w:=hw;by_cases Kq:i=j
   ·subst Kq;rw[bU H8]at hw';obtain rfl:=ag hw';exact⟨n,hn,by rw[bU (getElem?_lt' hc)];rfl⟩
   ·rw[bE Kq]at hw';let ⟨m,hm,hcm⟩:=bc.cells j w hw';refine⟨m,hm,?_⟩;have hmn:m≠n:=by rintro rfl;let ⟨a1,b1⟩:=((eM.mp hn));let ⟨a2,b2⟩:=((eM.mp hm));exact Kq ((AI bc.Xf).mp (b1.trans b2.symm))
    rw[Ig m hmn];exact hcm
  ·have:p.oi j≠n:=λe=>bc.Vu j (getElem?_lt' ho) (e▸bo hn);rw[Ig _ this];exact bc.obs j o ho
  ·exact(bi).symm▸(bc.next hg j)
 ·refine⟨by rw[bi];exact ab _,λq=>⟨bi,rfl⟩,ab _,λm hm h1 OL q=>Ig m (λe=>OL i h3 (e▸hn)) _⟩
def CB (S:cz) (k:Nat) (lay:Lay) (t:Expr) (tg:CV->St->Option St):Prop:=
 ∀p O st v cf,At lay p st O->tg v st=aa cf->∃bv,Do S k O (lay.en p) t (v.av p.oi) bv/\At lay p cf bv/\kr lay p st cf O bv/\cf.ob=st.ob
def bf (i:Nat) (v:CV) (st:St):Option St:=aa (ie i v st)
def jL (i:Nat) (v:CV) (st:St):Option St:=aa (rN i v st)
def CB.loc (h:lay.nq i x=true):CB S k lay (.Name x pos) (bf i):=by intro p O st v cf bc hf;obtain rfl:=ag hf;let ⟨bv,a,b,c⟩:=bc.ie (S:=S) h v;exact⟨bv,Do.name a,b,c,rfl⟩
def CB.nr (h:lay.GG i x=true):CB S k lay (.Name x pos) (jL i):=by intro p O st v cf bc hf;obtain rfl:=ag hf;let ⟨bv,a,b,c⟩:=bc.rN (S:=S) h v;exact⟨bv,Do.name a,b,c,rfl⟩
def M3 (S:cz) (k:Nat) (lay:Lay) (ts:List Expr) (tg:List PV->St->Option St):Prop:=
 ∀p O st ds cf,At lay p st O->tg ds st=aa cf->∃bv,Bc S k (lay.en p) O ts ds bv/\At lay p cf bv/\kr lay p st cf O bv/\cf.ob=st.ob
noncomputable def pW:List PV->St->Option St
 | [],st=>aa st
 |_,_=>ac
noncomputable def eS (f:CV->St->Option St) (g:List PV->St->Option St):List PV->St->Option St
 |d::ds,st=>(f (.pv d) st).bind (g ds)
 |_,_=>ac
def M3.nil:M3 S k lay [] pW:=by
 intro p O st ds cf bc hf;induction ds with
 |nil=>obtain rfl:=ag hf;exact⟨O,.nil,bc,.refl ..,rfl⟩
 |cons=>nomatch hf
def M3.cons (h1:CB S k lay t f) (h2:M3 S k lay rest g) (hn:notStar t=true):M3 S k lay (t::rest) (eS f g):=by
 intro p O st ds cf bc hf;induction ds with
 |nil=>cases hf
 |cons d ds=>unfold eS at hf;simp only[aG]at hf;left;let ⟨st1,Ih,Sy⟩:=hf;let ⟨lK,a1,b1,c1,d1⟩:=h1 p O st _ st1 bc Ih;let ⟨uV,a2,b2,c2,d2⟩:=h2 p lK st1 ds cf b1 Sy;right;exact⟨uV,.cons a1 a2 hn,b2,c1.trans c2 bc,d2.trans d1⟩
def pX (g:List PV->St->Option St) (v:CV) (st:St):Option St:=v.aT.bind λds=>g ds st
def CB.tup (h:M3 S k lay ts g):CB S k lay (.Tuple ts n pos) (pX g):=by intro p O st v cf bc hf;refine a9 hf λds e hf=> ?_;rw[CV.kT e];let ⟨bv,a,b,c,d⟩:=h p O st _ cf bc hf;exact⟨bv,Do.tup a,b,c,d⟩
inductive pu where
 |next
 |ret (v:CV)
def pu.af (oi:NN):pu->nY
 | .next=> .next
 | .ret v=> .ret (v.av oi)
abbrev SF:=St->Option (pu×St)
abbrev OV:=Option CV
abbrev EF:=St->OV
abbrev Sp:=List (Str×PV)
def mw (S:cz) (k:Nat) (lay:Lay) (s:Stmt) (F:St->Option (pu×St)):Prop:=
 ∀p O st fl cf,At lay p st O->F st=aa (fl,cf)->∃bv,iX S k O (lay.en p) s (fl.af p.oi) bv/\At lay p cf bv/\kr lay p st cf O bv
def j5 (S:cz) (k:Nat) (lay:Lay) (ss:List Stmt) (F:St->Option (pu×St)):Prop:=
 ∀p O st fl cf,At lay p st O->F st=aa (fl,cf)->∃bv,cH S k O (lay.en p) ss (fl.af p.oi) bv/\At lay p cf bv/\kr lay p st cf O bv
noncomputable def br (st:St):Option (pu×St):=aa (.next,st)
noncomputable def aC (f g:SF) (st:St):Option (pu×St):=match f st with
 |some (.next,st1)=>g st1
 |some (.ret v,st1)=>aa (.ret v,st1)
 |none=>ac
def j5.nil:j5 S k lay [] br:=by intro p O st fl cf bc hf;let ⟨rfl,rfl⟩:=bH (ag hf);exact⟨O,.nil,bc,.refl ..⟩
def qX (h:aC f g st=aa (fl,cf)):(∃s,f st=aa (.next,s)/\g s=aa (fl,cf))\/∃v,f st=aa (.ret v,cf)/\fl= .ret v:=by
 unfold aC at h;induction e:f st with
 |none=>rw[e]at h;nomatch h
 |some q=>
  rw[e]at h;induction q with
  |mk a s=>induction a with
   |next=>exact .inl ⟨s,rfl,h⟩
   |ret v=>have h:=bH (ag h);exact .inr ⟨v,by rw[h.2],h.1.symm⟩
def j5.cons (h1:mw S k lay s f) (h2:j5 S k lay ss g):j5 S k lay (s::ss) (aC f g):=by
 intro p O st fl cf bc hf;rcases qX hf with⟨st1,e,hf⟩|⟨v,e,rfl⟩
 ·left;let ⟨lK,a1,b1,c1⟩:=h1 p O st _ st1 bc e;let ⟨uV,a2,b2,c2⟩:=h2 p lK st1 _ cf b1 hf;right;exact⟨uV,.cons a1 a2,b2,c1.trans c2 bc⟩
 ·let ⟨lK,a1,b1,c1⟩:=h1 p O st _ _ bc e;exact⟨lK,.ret a1,b1,c1⟩
noncomputable def bZ (f:EF) (tg:CV->St->Option St) (st:St):Option (pu×St):=((f st).bind λv=>tg v st).map λcf=>(.next,cf)
def mw.Ly (h1:cT S k lay gP f)
  (h2:∀p O st v cf,At lay p st O->tg v st=aa cf->∃bv,j4 S O (lay.en p) x (v.av p.oi) bv/\At lay p cf bv/\kr lay p st cf O bv)
  (hs:(λenv:lY=>swapsWith gP (aa (.Name x jW)) pos.line {env with scope:=lay.scope})=λq=>pure false):mw S k lay (.Assign [.Name x jW] gP pos) (bZ f tg):=by
 intro p O st fl cf bc hf;unfold bZ at hf;simp only[ar,aG]at hf;left;let ⟨st1,⟨v,hv,ht⟩,e⟩:=hf;let ⟨rfl,rfl⟩:=bH e;let ⟨bv,a,b,c⟩:=h2 p O st v _ bc ht;right;exact⟨bv,iX.assign (h1 p O st v bc hv) a λenv he=>scp (F:=swapsWith gP (aa (.Name x jW)) pos.line) hs he,b,c⟩
def mw.PU (h1:cT S k lay gP f) (h:lay.nq i x=true) (hs:(λenv:lY=>swapsWith gP (aa (.Name x jW)) pos.line {env with scope:=lay.scope})=λq=>pure false):
  mw S k lay (.Assign [.Name x jW] gP pos) (bZ f (bf i)):=
 mw.Ly h1 (λp O st v cf bc hf=>by obtain rfl:=ag hf;exact bc.ie h v) hs
def mw.ajg (h1:cT S k lay gP f) (h:lay.GG i x=true) (hs:(λenv:lY=>swapsWith gP (aa (.Name x jW)) pos.line {env with scope:=lay.scope})=λq=>pure false):
  mw S k lay (.Assign [.Name x jW] gP pos) (bZ f (jL i)):=
 mw.Ly h1 (λp O st v cf bc hf=>by obtain rfl:=ag hf;exact bc.rN h v) hs
noncomputable def jC (b:St->Option Bool) (f g:SF) (st:St):Option (pu×St):=(b st).bind λx=>cond x (f st) (g st)
def mw.if (h0:A3 S k lay t b) (h1:j5 S k lay body f) (h2:j5 S k lay orelse g):mw S k lay (.If t body orelse pos) (jC b f g):=by
 intro p O st fl cf bc hf;refine a9 hf λx e hf=> ?_;induction x with
 |true=>let ⟨bv,a,c⟩:=h1 p O st _ cf bc hf;exact⟨bv,iX.if (h0 p O st true bc e) a,c⟩
 |false=>let ⟨bv,a,c⟩:=h2 p O st _ cf bc hf;exact⟨bv,iX.if (h0 p O st false bc e) a,c⟩
noncomputable def i7 (f:EF) (st:St):Option (pu×St):=(f st).map λv=>(.ret v,st)
def mw.return (h:cT S k lay e f):mw S k lay (.Return (aa e) pos) (i7 f):=by intro p O st fl cf bc hf;unfold i7 at hf;simp only[ar]at hf;let ⟨v,hv,e⟩:=hf;let ⟨rfl,rfl⟩:=bH e;exact⟨O,iX.return (h p O st v bc hv),bc,.refl ..⟩
noncomputable def lP (tg:CV->St->Option St) (body:SF):List PV->St->Option (pu×St)
 | [],st=>aa (.next,st)
 |x::xs,st=>(tg (.pv x) st).bind λst1=>(body st1).bind λr=>pu.rec (lP tg body xs r.2) (λq=>aa r) r.1
def I6:lP tg body (x::xs) st=(tg (.pv x) st).bind λst1=>(body st1).bind λr=>pu.rec (lP tg body xs r.2) (λq=>aa r) r.1:=rfl
def zP (S:cz) (k:Nat) (lay:Lay) (e:Expr) (f:St->Option (List PV)):Prop:=∀p O st xs,At lay p st O->f st=aa xs->la S k O (lay.en p) e (λq=>True) xs
def mK (it:St->Option (List PV)) (tg:CV->St->Option St) (body:SF) (st:St):Option (pu×St):=(it st).bind λxs=>lP tg body xs st
def mw.for (hi:zP S k lay kA it) (ht:CB S k lay cE tg) (hb:j5 S k lay body f)
  (hs:∀env x,foldedSetIterable kA env x=pure x):mw S k lay (.For cE kA body [] pos) (mK it tg f):=by
 intro p O st fl cf bc hf;unfold mK at hf;simp only[aG]at hf;let ⟨xs,hx,hf⟩:=hf;have loop:∀(xs:List PV) (O:List AO) (st:St),At lay p st O->lP tg f xs st=aa (fl,cf)->∃bv,To S k (lay.en p) cE body O xs (fl.af p.oi) bv/\At lay p cf bv/\kr lay p st cf O bv:=by
  intro xs;induction xs with
  |nil=>intro O st bc hf;let ⟨rfl,rfl⟩:=bH (ag hf);exact⟨O,.nil,bc,.refl ..⟩
  |cons x xs ih=>
   intro O st bc hf;refine a9 hf λst1 Kr hf=>a9 hf λr e hf=> ?_;left;let ⟨lK,a1,b1,c1,_⟩:=ht p O st _ st1 bc Kr;let ⟨f2,st2⟩:=r;induction f2 with
   |next=>let ⟨uV,a2,b2,c2⟩:=hb p lK st1 _ st2 b1 e;let ⟨σ3,a3,b3,c3⟩:=ih uV st2 b2 hf;exact kG ⟨σ3,.cons a1 a2 a3,b3,(c1.trans c2 bc).trans c3 bc⟩
   |ret v=>let ⟨rfl,rfl⟩:=bH (ag hf);let ⟨uV,a2,b2,c2⟩:=hb p lK st1 _ _ b1 e;exact kG ⟨uV,.ret a1 a2,b2,c1.trans c2 bc⟩
 let ⟨bv,a,b,c⟩:=loop xs O st bc hf;exact⟨bv,iX.for (hi p O st xs bc hx) a hs,b,c⟩
end
section
variable {lay:Lay}
def itV:CV->Option (List PV)
 | .pv (.lst l)=>aa l
 | .pv (.tup l)=>aa l
 | .pv (.str x)=>if x.cps.all (· <128)=true then aa (yr x) else ac
 | .pv (.oQ l)=>aa (l.map λp=> .str p.1)
 |_=>ac
def jA (f:EF) (st:St):Option (List PV):=(f st).bind itV
def Ym (h:Ev S k O (lay.en p) e (v.av p.oi) O) (hv:itV v=aa xs) (ng:ok O) (hd:∀l,v= .pv (.lst l)->∀bv,ok bv):la S k O (lay.en p) e ok xs:=by
 induction v with
 |pv d=>cases d with
  |lst l=>obtain rfl:=ag hv;intro A c s env hA hE R E Q hQ;refine la.list h .val A c s env hA hE R E Q λc' s' I own J a b d e' P q hJ=>hQ c' s' I own J a b d e' ?_ ng hJ;exact⟨P.keep,λhJ R hn q hA E Q=>P.next hJ R hn .val hA E Q,P.self,P.Vw⟩
  |tup l=>obtain rfl:=ag hv;exact la.tuple h ng
  |str x=>let ⟨ha,rfl⟩:=dS hv;exact la.str h ha ng
  |oQ l=>obtain rfl:=ag hv;exact la.dict h ng
  |_=>exact gq hv
 |_=>exact gq hv
def zP.val (h:cT S k lay e f):zP S k lay e (jA f):=by intro p O st xs bc hf;unfold jA at hf;let ⟨v,hv,hx⟩:=aG.mp hf;exact Ym (h p O st v bc hv) hx trivial λq q q=>trivial
def rO (f:EF) (st:St):Option (List PV):=((f st).bind CV.aI).bind λn=>if 0<=n/\n<1000 then aa (iJ n.toNat) else ac
def zP.range (h:lay.mh f=true) (hg:(f,ac)∈cg) (hb:(f,aa (Ot "range"))∈ly) (hx:cT S k lay x g) (hs:notStar x=true):zP S k lay (.Call (.Name f np) [x] [] pos) (rO g):=by intro p O st xs bc hf;refine a9 hf λn hn hf=>a9 hn λq hn e=> ?_;rw[CV.kI e]at hn;let ⟨uU,rfl⟩:=dS hf;exact la.range (Ev.PM h hg hb) (((yf uU.1)).symm▸(hx p O st _ bc hn)) (aiU uU) hs trivial
def GH (S:cz) (k:Nat) (lay:Lay) (e:Expr) (f:St->Option (List PV)):Prop:=∀p O st xs,At lay p st O->f st=aa xs->
 ∃ok,la S k O (lay.en p) e ok xs/\∀bv,(∀j o,st.ob[j]? =aa o->bv[p.oi j]? =aa (o.ao p.oi))->ok bv
def zP.C (h:zP S k lay e f):GH S k lay e f:=λp O st xs bc hf=>⟨_,h p O st xs bc hf,λq q=>trivial⟩
def GI (f:EF) (st:St):Option (List PV):=(f st).bind st.oB
def GH.store (h:cT S k lay e f):GH S k lay e (GI f):=by intro p O st xs bc hf;refine a9 hf λv hv hx=> ?_;refine⟨_,la.list (h p O st v bc hv) (bc.oB hx),λbv ho=> ?_⟩;exact Lr (P:=λv=>IsL bv (v.av p.oi) xs) hx .val λj hl=> .fM (ho j _ hl)
def qH (names:List (Str×qi)):∀(n:Nat) (dA:Sn),cellsFrom n names dA=(cellsFrom 0 names []).map (λq=>(q.1,n+q.2))++dA:=by
 induction names with
 |nil=>intro n dA;exact rfl
 |cons q9 names ih=>
  intro n dA;obtain(⟨x,kd⟩):=q9;unfold cellsFrom;cases hk:kd==kZ with
  |false=>simp only[fu,if_false];exact ih n dA
  |true=>simp only[if_true];rw[ih (n+1),ih 1,bI,bD,bF];congr 1;exact cj λq z=>by simp;exact aiV
structure fT where
 scope:Scope
 loc:List Str
 oR:List (Str×Nat)
 sC:List (Str×Nat)
noncomputable def fsc (names:List (List Nat×qi)):Scope:= {kind:= .function,names:=names.map λp=>(⟨p.1.toArray⟩,p.2),isGenerator:=false,isCoroutine:=false,more:=[]}
def lQ (n:List (List Nat×qi)) (a:List Str) (b c:Sn):fT:=⟨fsc n,a,b,c⟩
def fT.L (cl:fT) (lay:Lay):Lay:= {scope:=w2 cl.scope lay.scope,loc:=cl.loc,nr:=cl.oR.map (·.1)++cl.sC.map (·.1),own:= ↑cl.oR,grow:=false,code:=lay.code}
structure fT.Ok (cl:fT) (lay:Lay):Prop where
 own:cellsFrom 0 cl.scope.names []=cl.oR
 tz:kg (lay.nr.zip (cK ↑lay.nr)) cl.scope.names []=aa cl.sC
 kind:cl.scope.kind= .function
 names:∀x∈cl.scope.names,x.2= .local->cl.scope.names.lookup x.1=aa .local
 nd:cl.loc.Nodup
 ndO:(cl.oR.map (·.2)).Nodup
 ndC:(cl.sC.map (·.2)).Nodup
 ltO:∀q∈cl.oR,q.2<fg cl.scope.names
def fT.st (cl:fT) (st:St):St:= {lv:=cl.loc.map λz=>ac,cv:=(cl.oR.map λz=>ac)++cl.sC.map λq=>(st.cv[q.2]?).join,ob:=st.ob}
def fT.Lz (cl:fT) (p:IF) (n:Nat):IF:= {fi:=n+1,ci:=(cl.oR.map λq=>n+2+q.2)++cl.sC.map λq=>p.ci.getD q.2 0,oi:=p.oi}
def Dw {α:Type} {l:List Str} (d:α):∀(m:List α) (b:Nat) (pre:List α),↑pre=b-> ↑l= ↑m->l.zip m=(l.zip (List.range' b ↑l)).map λq=>(q.1,(pre++m).getD q.2 d):=by
 induction l with
 |nil=>exact λz z z z z=>rfl
 |cons a l ih=>
  intro m b pre hp h;induction m with
  |nil=>cases h
  |cons x m=>have:=ih m (b+1) (pre++[x]) (by simp[hp]) (lZ h);rw[bF]at this;rw[qA,az,TJ,qA,bx,this];exact congrArg (· ::_) (by simp[hp])
def fT.Ok.cells {cl:fT} (h:cl.Ok lay) (Sz: ↑p.ci= ↑lay.nr):kg (lay.en p).cells cl.scope.names []=aa (cl.sC.map λq=>(q.1,p.ci.getD q.2 0)):=by
 have e:(lay.en p).cells=(lay.nr.zip (cK ↑lay.nr)).map λq=>(q.1,p.ci.getD q.2 0):=by show lay.nr.zip p.ci=_;have:=Dw (l:=lay.nr) 0 p.ci 0 [] rfl Sz.symm;rw[vz];simpa using this
 rw[e];exact qW (λi=>p.ci.getD i 0) _ _ _ _ h.tz
def fT.Ok.en {cl:fT} (h:cl.Ok lay) (p:IF) (n:Nat):Be (lay.en p) cl.scope n (cl.sC.map λq=>(q.1,p.ci.getD q.2 0))=(cl.L lay).en (cl.Lz p n):=by
 unfold Be Lay.en fT.L fT.Lz;refine iv.eq ?_;rw[qH,h.own];have zm:∀(l:Sn) (f:NN),(l.map (·.1)).zip (l.map λq=>f q.2)=l.map λq=>(q.1,f q.2):=by
  intro l f;induction l with
  |nil=>rfl
  |cons a l ih=>simp[ih]
 rw[List.zip_append (by simp)];rw[zm cl.oR (λi=>n+2+i),zm cl.sC (λi=>p.ci.getD i 0)]
end
def fT.PW {cl:fT} (h:decide (cellsFrom 0 cl.scope.names []=cl.oR/\kg (lay.nr.zip (cK ↑lay.nr)) cl.scope.names []=aa cl.sC/\cl.scope.kind= .function/\(∀x∈cl.scope.names,x.2= .local->cl.scope.names.lookup x.1=aa .local)/\cl.loc.Nodup/\(cl.oR.map (·.2)).Nodup/\(cl.sC.map (·.2)).Nodup/\∀q∈cl.oR,q.2<fg cl.scope.names)=true):cl.Ok lay:=
 xe08 (of_decide_eq_true h) .mk
section
variable {lay:Lay}
def Ab {l:Nz} (h:l[i]? =aa n):l.getD i 0=n:=by rw[qB,h];rfl
def fT.Ok.PX {cl:fT} (h:cl.Ok lay):∀q∈cl.sC,q.2< ↑lay.nr:=by refine td (cells:=lay.nr.zip (cK ↑lay.nr)) (n:= ↑lay.nr) (λq hq=> ?_) _ _ _ (λq hq=>by cases hq) h.tz;have:=(CI hq).2;exact dK.mp this
def fT.Ok.at {cl:fT} (h:cl.Ok lay) {st:St} (bc:At lay p st O) (qy:AO):
  At (cl.L lay) (cl.Lz p ↑O) (cl.st st) (O++(qy:: .ns (cl.loc.map λx=>(x,ac))::bR (fg cl.scope.names) (.cell ac))):=by
 have Ks:=getElem?_lt' bc.frame;have Sz:∀(i n:Nat),p.ci[i]? =aa n->n< ↑O:=by
  intro i n hn;have Gc:i< ↑st.cv:=by rw[bc.x9,<- bc.FI];exact getElem?_lt' hn
  let ⟨m,hm,hc⟩:=bc.cells i _ (aq Gc);rw[hn]at hm;obtain rfl:=ag hm;exact getElem?_lt' hc
 have Xn:∀j,j< ↑st.ob->p.oi j< ↑O:=λj hj=>getElem?_lt' (bc.obs j _ (aq hj));have sJ:∀q∈cl.sC,∃n,p.ci[q.2]? =aa n/\p.ci.getD q.2 0=n/\n< ↑O:=by intro q hq;have hl:=h.PX q hq;rw[<- bc.FI]at hl;exact⟨p.ci[q.2],aq hl,Ab (aq hl),Sz q.2 _ (aq hl)⟩
 have Og:∀n,n∈(cl.Lz p ↑O).ci->(∃q∈cl.oR,n= ↑O+2+q.2)\/∃q∈cl.sC,p.ci[q.2]? =aa n/\n< ↑O:=by
  intro n hn;rcases cb.mp hn with hn|hn
  ·let ⟨q,hq,e⟩:=aQ.mp hn;exact .inl ⟨q,hq,e.symm⟩
  ·let ⟨q,hq,e⟩:=aQ.mp hn;left;let ⟨m,h1,h2,h3⟩:=sJ q hq;right;rw[h2]at e;subst e;exact .inr ⟨q,hq,h1,h3⟩
 refine⟨?_,?_,?_,?_,λi v hv=> ?_,λj o ho=>gA (bc.obs j o ho),λhm=> ?_,λj hj e=> ?_,λj hj hm=> ?_,?_,bc.Vv,λhg=>by cases hg⟩
 ·have:(cl.loc.map λx=>((x,ac):Str×Option AV))=cl.loc.zip (Ua p.oi (cl.loc.map λz=>ac)):=by
   clear sJ Og;induction cl.loc with
   |nil=>rfl
   |cons a l ih=>simp[ih]
  show(O++_)[↑O+1]? =aa (.ns (cl.loc.zip (Ua p.oi (cl.loc.map λz=>ac))));rw[aE (bh ..),bP,<- this];rfl
 ·simp[fT.st,fT.L]
 ·simp[fT.st,fT.L]
 ·simp[fT.Lz,fT.L]
 ·have vZ:((cl.oR.map λz=>(ac:OV))++cl.sC.map λq=>(st.cv[q.2]?).join)[i]? =aa v:=hv;rcases bS i ↑cl.oR with kW|AC
  ·rw[aW (by simpa using kW),bO,aq kW]at vZ;obtain rfl:=ag vZ;refine⟨↑O+2+(cl.oR[i]).2,?_,?_⟩
   ·show((cl.oR.map λq=> ↑O+2+q.2)++_)[i]? =_;rw[aW (by simpa using kW),bO,aq kW];rfl
   ·have Ec:=h.ltO _ (AH kW);rw[aE (aiW),show ↑O+2+(cl.oR[i]).2- ↑O=(cl.oR[i]).2+1+1 by exact aiX,il,il,IA,if_pos Ec];rfl
  ·rw[aE (by simpa using AC),aw,bO]at vZ;simp only[ar]at vZ;let ⟨q,hq,rfl⟩:=vZ;let ⟨n,h1,h2,h3⟩:=sJ q (bo hq);refine⟨n,?_,?_⟩
   ·show(_++cl.sC.map λq=>p.ci.getD q.2 0)[i]? =_;rw[aE (by simpa using AC),aw,bO,hq,<- h2];rfl
   ·have Gc:q.2< ↑st.cv:=by rw[bc.x9,<- bc.FI];exact getElem?_lt' h1
    left;let ⟨m,hm,hc⟩:=bc.cells q.2 _ (aq Gc);right;rw[h1]at hm;obtain rfl:=ag hm;rw[aq Gc];exact gA hc
 ·rcases Og _ hm with⟨q,_,e⟩|⟨q,_,_,e⟩
  ·have e': ↑O+1= ↑O+2+q.2:=e;exact aiY e'
  ·have e': ↑O+1< ↑O:=e;exact aiZ e'
 ·have e':p.oi j= ↑O+1:=e;have:=Xn j hj;exact ai0 this e'
 ·have Mo:p.oi j∈(cl.Lz p ↑O).ci:=hm;have:=Xn j hj;rcases Og _ Mo with⟨q,_,e⟩|⟨q,_,e,_⟩
  ·exact ai1 this e
  ·exact bc.Vu j hj (bo e)
 ·show((cl.oR.map λq=> ↑O+2+q.2)++cl.sC.map λq=>p.ci.getD q.2 0).Nodup;rw[Tc];refine⟨?_,?_,λa ha b hb e=> ?_⟩
  ·have:=h.ndO;rw[show(cl.oR.map λq=> ↑O+2+q.2)=(cl.oR.map (·.2)).map (↑O+2+ ·) by rw[bD];rfl];exact gX _ (λa b Mp=>by exact ai2 Mp) this
  ·have Xm:=h.ndC;have key:∀l:List (Str×Nat),(∀q∈l,q∈cl.sC)->(l.map (·.2)).Nodup->(l.map λq=>p.ci.getD q.2 0).Nodup:=by
    intro l;induction l with
    |nil=>intro _ _;exact kJ
    |cons a l ih=>intro hs hn;rw[bx,fD]at hn⊢;refine⟨λhm=> ?_,ih (λq hq=>hs q (aK _ hq)) hn.2⟩;let ⟨b,hb,e⟩:=aQ.mp hm;let ⟨n1,a1,a2,_⟩:=sJ a (hs a ay);let ⟨n2,b1,b2,_⟩:=sJ b (hs b (aK _ hb));rw[a2,b2]at e;subst e;let ⟨x1,y1⟩:=eM.mp a1;let ⟨x2,y2⟩:=eM.mp b1;have:=(AI bc.Xf).mp (y1.trans y2.symm);exact hn.1 (this▸aQ.mpr ⟨b,hb,rfl⟩)
   exact key _ (λq hq=>hq) Xm
  ·subst e;let ⟨q,_,e1⟩:=aQ.mp ha;let ⟨q',Tt,e2⟩:=aQ.mp hb;let ⟨n,_,h2,h3⟩:=sJ q' Tt;exact ai3 e1 h3 e2 h2
noncomputable def dM {β:Type} (tg:CV->St->Option St) (test:St->Option Bool) (inner:List β->St->Option (List β×St)):List PV->List β->St->Option (List β×St)
 | [],dA,st=>aa (dA,st)
 |x::xs,dA,st=>(tg (.pv x) st).bind λst1=>(test st1).bind λb=>cond b ((inner dA st1).bind λr=>dM tg test inner xs r.1 r.2) (dM tg test inner xs dA st1)
def yt:dM tg test inner (x::xs) dA st=(tg (.pv x) st).bind λst1=>(test st1).bind λb=>cond b ((inner dA st1).bind λr=>dM tg test inner xs r.1 r.2) (dM tg test inner xs dA st1):=rfl
structure uo (lay:Lay) (p:IF) (st:St) (n:Nat):Prop where
 fi:n≠p.fi
 ci:n∉p.ci
 oi:∀j,j< ↑st.ob->n≠p.oi j
structure w3 (lay:Lay) (p:IF) (st:St) (n:Nat) (O bv:List AO):Prop where
 len: ↑bv= ↑O
 out:∀i,i< ↑O->i≠n->i≠p.fi->(∀j,j<lay.own->p.ci[j]? ≠aa i)->(∀j,j< ↑st.ob->i≠p.oi j)->bv[i]? =O[i]?
def w3.refl (p:IF) (st:St) (n:Nat) (O:List AO):w3 lay p st n O O:=⟨rfl,λq q q q q q=>rfl⟩
def w3.trans (h:w3 lay p st n O bw) (h':w3 lay p Mn n bw bQ) (FO:Mn.ob=st.ob):w3 lay p st n O bQ:=
 ⟨h'.len.trans h.len,λi hi h1 h2 h3 h4=>(h'.out i (h.len▸hi) h1 h2 h3 (FO▸h4)).trans (h.out i hi h1 h2 h3 h4)⟩
def kr.C (h:kr lay p st cf O bv) (hg:lay.grow=false):w3 lay p st n O bv:=⟨(h.len0 hg).1,λi hi q h2 h3 h4=>h.out i hi h2 h3 h4⟩
def EI {β:Type} (S:cz) (k:Nat) (lay:Lay) (emit:Value->lY->z0 Unit) (mk:List β->AO) (f:List β->St->Option (List β×St)):Prop:=
 ∀p O st n dA qM cf,At lay p st O->uo lay p st n->O[n]? =aa (mk dA)->f dA st=aa (qM,cf)->vG S k (lay.en p) emit n O (O.set n (mk qM))/\cf=st
def Ga {β:Type} (S:cz) (k:Nat) (lay:Lay) (gens:List dI) (emit:Value->lY->z0 Unit) (mk:List β->AO) (d:Nat) (G:List PV->List β->St->Option (List β×St)):Prop:=
 ∀p O st n dA qM cf xs ok,At lay p st O->uo lay p st n->O[n]? =aa (mk dA)->(∀bv,(∀j o,st.ob[j]? =aa o->bv[p.oi j]? =aa (o.ao p.oi))->ok bv)->G xs dA st=aa (qM,cf)->
  ∃bv,GF S k (lay.en p) gens (vG S k (lay.en p) emit n) d ok O xs bv/\At lay p cf bv/\bv[n]? =aa (mk qM)/\w3 lay p st n O bv/\cf.ob=st.ob
def At.PY (bc:At lay p st O) (ht:uo lay p st n) (o:AO):At lay p st (O.set n o):=by
 have Ig:∀m,m≠n->(O.set n o)[m]? =O[m]? :=λm hm=>bE hm.symm;refine⟨?_,bc.Od,bc.x9,bc.FI,λi v hv=> ?_,λj x hx=> ?_,bc.Zq,bc.Zr,bc.Vu,bc.Xf,bc.Vv,λhg j=> ?_⟩
 ·exact(Ig _ ht.fi.symm)▸bc.frame
 ·let ⟨m,hm,hc⟩:=bc.cells i v hv;refine⟨m,hm,?_⟩;exact(Ig m (λe=>ht.ci (e▸bo hm)))▸hc
 ·exact(Ig _ (ht.oi j (getElem?_lt' hx)).symm)▸(bc.obs j x hx)
 ·exact(bi).symm▸(bc.next hg j)
def Ga.gen {g:dI} (hd:gens[d]? =aa g) (hgr:lay.grow=false) (ht:CB S k lay g.target tg) (hi:∀p O st b,At lay p st O->test st=aa b->pn S k O (lay.en p) g.ifs b)
  (Xo:∀p bw st n dA SA Ef,At lay p st bw->uo lay p st n->bw[n]? =aa (mk dA)->inner dA st=aa (SA,Ef)->
   ∃bQ,(∀ok O x xs bv,ok O->Do S k O (lay.en p) g.target (.pv x) bw->pn S k bw (lay.en p) g.ifs true->GF S k (lay.en p) gens (vG S k (lay.en p) emit n) d ok bQ xs bv->GF S k (lay.en p) gens (vG S k (lay.en p) emit n) d ok O (x::xs) bv)/\
    At lay p Ef bQ/\bQ[n]? =aa (mk SA)/\w3 lay p st n bw bQ/\Ef.ob=st.ob):Ga S k lay gens emit mk d (dM tg test inner):=by
 intro p O st n dA qM cf xs ok bc Ii kz ng hG;induction xs generalizing O st dA with
 |nil=>let ⟨rfl,rfl⟩:=bH (ag hG);exact⟨O,.nil (ng O λj o h=>bc.obs j o h),bc,kz,.refl ..,rfl⟩
 |cons x xs ih=>
  rw[yt]at hG;refine a9 hG λst1 h1 hG=>a9 hG λb h2 hG=> ?_;left;let ⟨lK,a1,b1,c1,d1⟩:=ht p O st _ st1 bc h1;have Zz:uo lay p st1 n:=⟨Ii.fi,Ii.ci,by rw[d1];exact Ii.oi⟩;have Xp:lK[n]? =aa (mk dA):=(c1.out n (getElem?_lt' kz) Ii.fi (λj q e=>Ii.ci (bo e)) Ii.oi).trans kz;have ok1:ok O:=ng O λj o h=>bc.obs j o h;induction b with
  |false=>let ⟨bv,e1,e2,e3,e4,e5⟩:=ih _ _ _ b1 Zz Xp (d1▸ng) hG;exact kG ⟨bv,.skip hd ok1 a1 (hi p lK st1 _ b1 h2) e1,e2,e3,(c1.C hgr).trans e4 d1,e5.trans d1⟩
  |true=>refine a9 hG λr h3 hG=> ?_;let ⟨uV,f1,f2,f3,f4,f5⟩:=Xo p lK st1 n dA r.1 r.2 b1 Zz Xp h3;let ⟨bv,e1,e2,e3,e4,e5⟩:=ih _ _ _ f2 ⟨Ii.fi,Ii.ci,by rw[f5];exact Zz.oi⟩ f3 (by rw[f5,d1];exact ng) hG;exact kG ⟨bv,f1 _ _ _ _ _ ok1 a1 (hi p lK _ _ b1 h2) e1,e2,e3,((c1.C hgr).trans f4 d1).trans e4 (f5.trans d1),e5.trans (f5.trans d1)⟩
def Ga.last
  (hd:gens[d]? =aa g) (hn:gens[d+1]? =ac) (hgr:lay.grow=false) (ht:CB S k lay g.target tg) (hi:∀p O st b,At lay p st O->test st=aa b->pn S k O (lay.en p) g.ifs b) (he:EI S k lay emit mk f):
  Ga S k lay gens emit mk d (dM tg test f):=
 .gen hd hgr ht hi λp lK st n dA VF st2 bc Ii kz h3=>by let ⟨m1,rfl⟩:=he p lK st n dA VF st2 bc Ii kz h3;exact⟨_,λok O x xs bv ok1 a1 i1=> .emit hd hn ok1 a1 i1 m1,bc.PY Ii (mk VF),bU (getElem?_lt' kz),⟨bi,λi q h q q q=>bE h.symm⟩,rfl⟩
noncomputable def IG {β:Type} (it:St->Option (List PV)) (G:List PV->List β->St->Option (List β×St)) (dA:List β) (st:St):Option (List β×St):=(it st).bind λxs=>G xs dA st
def Ga.more
  (hd:gens[d]? =aa g) (hn:gens[d+1]? =aa g') (hgr:lay.grow=false) (ht:CB S k lay g.target tg) (hi:∀p O st b,At lay p st O->test st=aa b->pn S k O (lay.en p) g.ifs b) (hit:GH S k lay g'.iter it)
  (hG':Ga S k lay gens emit mk (d+1) G):Ga S k lay gens emit mk d (dM tg test (IG it G)):=
 .gen hd hgr ht hi λp lK st n dA VF st2 bc Ii kz h3=>a9 h3 λys hy h3=>by let ⟨ok',i1,i2⟩:=hit p lK st ys bc hy;let ⟨uV,f1,f2⟩:=hG' p lK st n dA VF st2 ys ok' bc Ii kz i2 h3;exact⟨uV,λok O x xs bv ok1 a1 j1=> .inner hd hn ok1 a1 j1 i1 f1,f2⟩
end
section
variable {lay:Lay}
def Yn (hl:∀i,i< ↑O->bv[i]? =O[i]?) (h0:bv[↑O]? =aa a) (h1:bv[↑O+1]? =aa b):∃τ,bv=O++a::b::τ:=by
 have ht:bv.take ↑O=O:=by
  apply ry;intro i;rcases bS i ↑O with(h|h)
  ·rw[lL h];exact hl i h
  ·rw[bC (by rw[cG];exact aa6 h),bC h]
 refine⟨bv.drop (↑O+2),?_⟩;let ⟨l0,e0⟩:=eM.mp h0;let ⟨l1,e1⟩:=eM.mp h1;rw[<- e0,<- e1,<- gU l1,<- gU l0];conv=>lhs;rw[<- nF ↑O bv,ht]
def EJ {fin:List β->PV} {cl:fT}
  (he:mi e gens) (zD:qV e gens emit) (Ko:gens=g::gs) (hg:∀g∈gens,g.is_async=0) (hf:∀g∈gens,∀env x,foldedSetIterable g.iter env x=pure x) (ng:cl.Ok lay)
  (hit:GH S k lay g.iter it) (hG:Ga S k (cl.L lay) gens emit mk 0 G)
  (kz:∀(A:cS) (s:bb) (E:VS) (Q:VS),Q (.ref s.heap.objs.size) {s with heap:=s.heap.push accObj}->wpAny (MM S.w) A newAcc Q E s) (uM:accObj.isFreed=false)
  (Sw:∀(c:aM) (n:Nat),ic S.w c n accObj (mk [])) (Sq:∀(r:List β) (n:Nat) (b:AO) (τ:List AO),Gs (mk r::b::τ) n (.fM (n+0)) (.pv (fin r)))
  (bc:At lay p st O) (hx:it st=aa xs) (hr:G xs [] (cl.st st)=aa (r,cf)):
  ∀(A:cS) (c:aM) (s:bb) (env:lY),jG k A->cY c ↑O (lay.en p) env->Rel S c O s.heap->∀(use:Option (Value->z0 Unit)) (E:VS) (Q:VS),
   (∀c' dA s' fa m,aM.le ↑O c c'->Rel S c' O s'.heap->dY s s'->dk S.w c'.F dA (fin r)->qF c' ↑O fa->s'.heap.Ns fa m->compPost (MM S.w) A E use Q dA fa (.ok .next) s')->
   wpAny (MM S.w) A (comprehension e cl.scope env pos newAcc false (eval g.iter env) use) Q E s:=by
 left;let ⟨ok,i1,i2⟩:=hit p O st xs bc hx;right;have Sz:∀(i n:Nat),p.ci[i]? =aa n->n< ↑O:=by
  intro i n hn;have Gc:i< ↑st.cv:=by rw[bc.x9,<- bc.FI];exact getElem?_lt' hn
  let ⟨m,hm,hc⟩:=bc.cells i _ (aq Gc);rw[hn]at hm;obtain rfl:=ag hm;exact getElem?_lt' hc
 have Ii:uo (cl.L lay) (cl.Lz p ↑O) (cl.st st) ↑O:=by
  refine⟨by show ↑O≠ ↑O+1;exact ai4,λhm=> ?_,λj hj=> ?_⟩
  ·rcases cb.mp hm with hm|hm
   ·let ⟨q,_,e⟩:=aQ.mp hm;exact ai5 e
   ·let ⟨q,hq,e⟩:=aQ.mp hm;have hl:=ng.PX q hq;rw[<- bc.FI]at hl;have h1:=aq hl;rw[Ab h1]at e;have:=Sz _ _ h1;exact aa7 this e
  ·have:=(λj hj=>getElem?_lt' (bc.obs j _ (aq hj))) j hj;show ↑O≠p.oi j;exact aa8 this
 left;let ⟨bv,e1,e2,e3,e4,e5⟩:=hG (cl.Lz p ↑O) _ (cl.st st) ↑O [] r cf xs ok (ng.at bc (mk [])) Ii (by rw[aE (ab _),dc];rfl) i2 hr;right;have jM:∀i,i< ↑O->bv[i]? =O[i]? :=by
  intro i hi;by_cases hj:∃j,j< ↑st.ob/\i=p.oi j
  ·let ⟨j,hj,rfl⟩:=hj;exact(e2.obs j st.ob[j] (by rw[e5];exact aq hj)).trans (bc.obs j _ (aq hj)).symm
  ·rw[e4.out i (by rw[aj];exact om6 hi) (ai6 hi) (by show i≠ ↑O+1;exact ai7 hi) (λj hjo hj'=> ?_) (λj Xq e=>hj ⟨j,Xq,e⟩),aW hi];have agt:((cl.oR.map λq=> ↑O+2+q.2)++cl.sC.map λq=>p.ci.getD q.2 0)[j]? =aa i:=hj';have agu:j< ↑cl.oR:=hjo;rw[aW (by simpa using agu),bO,aq agu]at agt;have: ↑O+2+(cl.oR[j]).2=i:=ag agt;exact ai8 this hi
 let ⟨τ,hτ⟩:=Yn jM e3 e2.frame;rw[hτ,<- ng.en p ↑O]at e1;intro A c s env hA hE R use E Q hQ;exact M2 he zD Ko hg hf (ng.cells (p:=p) bc.FI) ng.kind ng.names ng.nd i1 kz uM Sw e1 (Sq r _ _ _) A c s env hA hE R use E Q hQ
def eh (cl:fT) (it:St->Option (List PV)) (G:List PV->List PV->St->Option (List PV×St)) (st:St):Option CV:=
 (it st).bind λxs=>(G xs [] (cl.st st)).map λr=> .pv (.lst r.1)
def zf (A:cS) (s:bb) (E:VS) (Q:VS) (h:Q (.ref s.heap.objs.size) {s with heap:=s.heap.push {cls:= .type "list",data:= .seq #[]}}):wpAny (MM w) A (newList []) Q E s:=wpAny_newList h (cJ _)
def Bf (c:aM) (n:Nat):ic w c n {cls:= .type "list",data:= .seq #[]} (.list []):= .list rfl λi v d h=>by simp at h
def cT.GK
  (ng:cl.Ok lay) (ZA:scope=cl.scope) (hg:∀g∈gs,g.is_async=0) (hf:∀g∈(⟨cE,kA,IP,0⟩::gs:List dI),∀env x,foldedSetIterable g.iter env x=pure x)
  (hit:GH S k lay kA it) (hG:Ga S k (cl.L lay) (⟨cE,kA,IP,0⟩::gs) (Du F9) AO.list 0 G):cT S k lay (.ListComp F9 (⟨cE,kA,IP,0⟩::gs) scope pos) (eh cl it G):=by
 intro p O st v bc Kn;subst ZA;unfold eh at Kn;simp only[aG,ar]at Kn;left;let ⟨xs,hx,⟨r,cf⟩,hr,rfl⟩:=Kn;right;refine Ev.PS λA c s env hA hE R E Q hQ=> ?_;have wD:∀g∈(⟨cE,kA,IP,0⟩::gs:List dI),g.is_async=0:=λg h=>by
  rcases aH.mp h with e|e
  ·subst e;rfl
  ·exact hg g e
 exact EJ (fin:=PV.lst) (pos:=kA.pos) (mi.list ..) (Dv F9 _ _ _) rfl wD hf ng hit hG zf rfl Bf (λr n b τ=> .list rfl) bc hx hr A c s env hA hE R ac E Q hQ
def Ac:∀p O st b,At lay p st O->fF st=aa b->pn S k O (lay.en p) [] b:=λp O st b q h=>by obtain rfl:=ag h;exact pn.nil
def EK (h:A3 S k lay t f):∀p O st b,At lay p st O->f st=aa b->pn S k O (lay.en p) [t] b:=λp O st b bc hf=>pn.one (h p O st b bc hf)
def gN (f:EF) (dA:List PV) (st:St):Option (List PV×St):=((f st).bind CV.aP).bind λd=>if ↑dA<100000 then aa (dA++[d],st) else ac
def Rel.PZ {vs:Array Value} {v:Value} {L:List PV} {e:Nat} (R:Rel S c O h) (hj:j< ↑O) (hk:rv (c.Z j) h h') (ho:h'.get? (c.Z j)=aa {cls:= .type "list",data:= .seq (vs.push v) e}) (hs:vs.size= ↑L)
  (hp:∀(i:Nat) (v:Value) (d:PV),vs[i]? =aa v->L[i]? =aa d->dk S.w c.F v d) (hv:dk S.w c.F v d):Rel S c (O.set j (.list (L++[d]))) h':=by
 refine R.set hj hk ho (.list (by rw[Array.size_push,aj,be,hs]) λi v x vZ hx=> ?_);rcases eG i ↑L with(hi|hi|hi)
 ·rw[aW hi]at hx;rw[ID (CK hi hs)]at vZ;exact hp i v x (by rw[qS (CK hi hs)];exact vZ) hx
 ·subst hi;rw[aE (ab _),dc]at hx;rw[<- hs,F8]at vZ;obtain rfl:=ag hx;obtain rfl:=ag vZ;exact hv
 ·rw[bC (by rw[aj];exact hi)]at hx;exact gq hx
def EI.list (h:cT S k lay F9 f):EI S k lay (Du F9) AO.list (gN f):=by
 intro p O st n dA qM cf bc Ii kz hf;refine a9 hf λd hd hf=>a9 hd λq hd e=> ?_;rw[CV.kP e]at hd;let ⟨hsz,hf⟩:=dS hf;let ⟨rfl,rfl⟩:=bH hf;have Kt:=getElem?_lt' kz;refine⟨⟨by rw[bi];exact ab _,λA c s env av hA hE R ha E Q hQ=> ?_⟩,rfl⟩;unfold Du;refine am ((h p O st _ bc hd).run A c s env hA hE R _ _ λc1 v1 s1 l1 R1 K1 a1=> ?_);let ⟨rfl,kW⟩:=(ha.mono l1 (ab _)).zN;let ⟨o,ho,hr⟩:=R1.own _ _ kz;let ⟨vs,e,rfl,hs,hp⟩:=hr.zb;have SD:vs.size<=sizeLine:=by have:sizeLine=2 ^ 24:=rfl;exact X4 hs this hsz
 refine am (uX (hsz:=SD) ⟨_,ho⟩ λh' SE hk=> ?_);let ⟨e',se⟩:=SE;exact aR (hQ c1 _ l1 (R1.PZ kW hk.extBut se hs hp a1.gi) (K1.trans (.gF ..)))
end
section
variable {lay:Lay}
def Pairs.at {es:List eK} {kvs:List (Str×Value)} (h:Pairs (strKind pw w) es kvs):∀(i:Nat) (e:eK) (p:Str×Value),es[i]? =aa e->kvs[i]? =aa p->(∃t,e.key= .str p.1 t)/\e.val=p.2:=by
 induction h with
 |nil=>exact λi e p h=>gq h
 |cons h1 h2 _ ih=>
  intro i e p a b;induction i with
  |zero=>obtain rfl:=ag a;obtain rfl:=ag b;exact⟨wb h1,h2⟩
  |succ i=>exact ih i e p a b
def ic.P0 {h:iR} (hd:h.DictOf (strKind pw w) a kvs) (hk:kvs.map (·.1)=l.map (·.1))
  (hv:∀(i:Nat) (p:Str×Value) (q:Str×PV),kvs[i]? =aa p->l[i]? =aa q->dk w c.F p.2 q.2):∃o,h.get? a=aa o/\ic w c n o (.dict l):=by
 left;let ⟨o,es,ep,ho,⟨h1,h2,h3⟩,agv,Mq,hp,nd⟩:=hd;have cI: ↑kvs= ↑l:=by have:=congrArg eW hk;simpa using this
 right;have heq:o= {cls:= .type "dict",data:= .dict es ep}:=by let ⟨oc,od,odd,os⟩:=o;simp only at h1 h2 h3 agv;subst h1 h2 h3 agv;rfl
 subst heq;have key:∀(i:Nat) (e:eK) (q:Str×PV),es[i]? =aa e->l[i]? =aa q->∃p,kvs[i]? =aa p/\p.1=q.1:=by
  intro i e q h1 h2;have hi:i< ↑kvs:=by rw[cI];exact getElem?_lt' h2
  refine⟨kvs[i],aq hi,?_⟩;have e1:(kvs.map (·.1))[i]? =aa kvs[i].1:=by rw[bO,aq hi];rfl
  rw[hk,bO,h2]at e1;exact(ag e1).symm
 refine⟨_,ho,.dict (by rw[<- cI,<- ↑hp,bz]) (hk▸nd) (λi e k d h1 h2=> ?_) λi e k d h1 h2=> ?_⟩
 ·let ⟨p,Xl,Mr⟩:=key i e _ h1 h2;let ⟨⟨t,ht⟩,_⟩:=Pairs.at hp i e p (by rw[fS];exact h1) Xl;rw[Mr]at ht;refine⟨?_,t,ht⟩;let ⟨k',Ij,Ik⟩:=Mq e (IO h1);let ⟨t',ht'⟩:=wb Ij;rw[ht]at ht';injection ht' with e1 _;rw[Ik,<- e1];rfl
 ·let ⟨p,Xl,_⟩:=key i e _ h1 h2;let ⟨_,he⟩:=Pairs.at hp i e p (by rw[fS];exact h1) Xl;rw[he];exact hv i p _ Xl h2
def jP.vals (h:jP w F es l kvs):∀(i:Nat) (p:Str×Value) (q:Str×PV),kvs[i]? =aa p->l[i]? =aa q->dk w F p.2 q.2:=by
 induction h with
 |nil=>intro i p q a;simp at a
 |cons _ _ hv _ ih=>
  intro i p q a b;induction i with
  |zero=>obtain rfl:=ag a;obtain rfl:=ag b;exact hv
  |succ i=>exact ih i p q a b
def te (f g:EF) (dA:Sp) (st:St):Option (List (Str×PV)×St):=((f st).bind CV.aS).bind λx=>((g st).bind CV.aP).bind λd=>if ↑dA<100000/\dA.lookup x=ac then aa (dA++[(x,d)],st) else ac
def stored_new {kvs:List (Str×Value)} {k:Str} {v:Value} (h:k∉kvs.map (·.1)):stored kvs k v=kvs++[(k,v)]:=by unfold stored;rw[if_neg];intro ha;let ⟨p,hp,e⟩:=AJ.mp ha;exact h (aQ.mpr ⟨p,hp,of_decide_eq_true e⟩)
def lookup_none {l:List (Str×α)} (h:l.lookup x=ac):x∉l.map (·.1):=by intro hm;let ⟨p,hp,e⟩:=aQ.mp hm;have:=sD.mp h p hp;rw[e]at this;simp at this
def P1 {c:aM} {O:List AO} {n:Nat} {dA:Sp} {x:Str} {t:Dd} {v:Value} {d:PV} {s:bb} {A:cS} {E:VS} {Q:Unit->bb->Prop} (R:Rel S c O s.heap) (kz:O[n]? =aa (.dict dA)) (hn:x∉dA.map (·.1)) (hsz: ↑dA<100000) (hv:dk S.w c.F v d)
  (hQ:∀s',Rel S c (O.set n (.dict (dA++[(x,d)]))) s'.heap->dY s s'->Q () s'):wpAny (MM S.w) A (dictSet (c.Z n) (.str x t) v) Q E s:=by
 have Kt:=getElem?_lt' kz;left;let ⟨a,es,m,kvs,e,_,ho,nd,hp⟩:=(Tn.fM kz).at R (v:= .ref (c.Z n)) (.fM Kt);right;cases e;have hm:=mJ (hp.dictOf ho nd);have cI: ↑kvs= ↑dA:=by have:=congrArg eW hp.keys;simpa using this
 have hs:sizeLine=2 ^ 24:=rfl;refine wpAny_dictSet_pairs (knd:=strKind pw S.w) (k:=x) (by exact beq_self_eq_true x) hm (λh' Mo qf=> ?_) (by exact X4 cI hs hsz);rw[stored_new (by rw[hp.keys];exact hn)]at Mo;let ⟨o,se,hr⟩:=ic.P0 (c:=c) (n:= ↑O) (l:=dA++[(x,d)]) Mo (by rw[bI,bI,hp.keys];rfl) (λi p q a b=>by
  rcases eG i ↑dA with hi|hi|hi
  ·rw[aW (by exact CK hi cI)]at a;rw[aW hi]at b;exact hp.vals i p q a b
  ·rw[aE (by exact X8 cI hi),show i- ↑kvs=0 by exact aa9 hi cI]at a;rw[aE (by exact TU hi),show i- ↑dA=0 by exact aba hi]at b;cases a;cases b;exact hv
  ·rw[bC (by simp;exact X6 hi)]at b;cases b)
 exact hQ _ (R.set Kt qf.extBut se hr) (.heap ..)
def EI.dict {kx vx:Expr} {f g:EF} (h1:cT S k lay kx f) (h2:cT S k lay vx g):EI S k lay (GC kx vx) AO.dict (te f g):=by intro p O st n dA qM cf bc Ii kz hf;refine a9 hf λx hx hf=>a9 hx λq hx e1=>a9 hf λd hd hf=>a9 hd λq hd e2=> ?_;rw[CV.kS e1]at hx;rw[CV.kP e2]at hd;let ⟨hsz,hf⟩:=dS hf;let ⟨rfl,rfl⟩:=bH hf;refine⟨⟨by rw[bi];exact ab _,λA c s env av hA hE R ha E Q hQ=> ?_⟩,rfl⟩;unfold GC;refine am ((h1 p O st _ bc hx).run A c s env hA hE R _ _ λc1 v1 s1 l1 R1 K1 a1=> ?_);refine am (dH ((h2 p O st _ bc hd).run A c1 s1 env hA (hE.mono l1 (ab _)) R1 _ _ λc2 v2 s2 l2 R2 K2 a2=> ?_));have uL:=l1.trans l2 (ab _);have ZC:=ha.mono uL (ab _);have Km:=a1.gi;let ⟨t,rfl⟩:=Km.mG;let ⟨rfl,kW⟩:=ZC.zN;refine am (cV (dH (P1 R2 kz (lookup_none hsz.2) hsz.1 a2.gi λs' R3 K3=>hQ c2 s' uL R3 ((K1.trans K2).trans K3))))
def lz (cl:fT) (it:St->Option (List PV)) (G:List PV->List (Str×PV)->St->Option (List (Str×PV)×St)) (st:St):Option CV:=
 (it st).bind λxs=>(G xs [] (cl.st st)).map λr=> .pv (.oQ r.1)
def cT.afw
  (ng:cl.Ok lay) (ZA:scope=cl.scope) (hg:∀g∈gs,g.is_async=0) (hf:∀g∈(⟨cE,kA,IP,0⟩::gs:List dI),∀env x,foldedSetIterable g.iter env x=pure x)
  (hit:GH S k lay kA it) (hG:Ga S k (cl.L lay) (⟨cE,kA,IP,0⟩::gs) (GC kx vx) AO.dict 0 G):cT S k lay (.DictComp kx vx (⟨cE,kA,IP,0⟩::gs) scope pos) (lz cl it G):=by
 intro p O st v bc Kn;subst ZA;unfold lz at Kn;simp only[aG,ar]at Kn;left;let ⟨xs,hx,⟨r,cf⟩,hr,rfl⟩:=Kn;right;refine Ev.PS λA c s env hA hE R E Q hQ=> ?_;have wD:∀g∈(⟨cE,kA,IP,0⟩::gs:List dI),g.is_async=0:=λg h=>by
  rcases aH.mp h with e|e
  ·subst e;rfl
  ·exact hg g e
 exact EJ (fin:=PV.oQ) (pos:=kA.pos) (accObj:= {cls:= .type "dict",data:= .dict #[]}) (newAcc:=newDict) (mi.dict ..) (M0 kx vx _ _ _) rfl wD hf ng hit hG (λA s E Q h=>iE h) rfl
  (λc n=> .dict rfl kJ (λi e k d h=>by simp at h) λi e k d h=>by simp at h) (λr n b τ=> .dict rfl) bc hx hr A c s env hA hE R ac E Q hQ
end
def iX.I7
  (hc:∀(A:cS) (c:aM) (s:bb) (env:lY),jG k A->cY c ↑O ae env->Rel S c O s.heap->∀(u:Value->z0 Unit) (E:VS) (Q:Unit->bb->Prop),
   (∀c' dA s' fa m,aM.le ↑O c c'->Rel S c' O s'.heap->dY s s'->dk S.w c'.F dA d->qF c' ↑O fa->s'.heap.Ns fa m->compPost (MM S.w) A E (aa u) (λq s=>Q () s) dA fa (.ok .next) s')->
   wpAny (MM S.w) A (evalThenUse gP env u) Q E s)
  (h2:j4 S O ae x (.pv d) bv) (hs:(λenv:lY=>swapsWith gP (aa (.Name x jW)) pos.line {env with scope:=ae.scope})=λq=>pure true):iX S k O ae (.Assign [.Name x jW] gP pos) .next bv:=by
 refine⟨h2.len,λA c s env hA hE R E Q hQ=> ?_⟩;rw[exec_Assign_Name_used _ _ _ _ (scp (F:=swapsWith gP (aa (.Name x jW)) pos.line) hs hE.scope)];refine am (cV (am (hc A c s env hA hE R _ _ _ λc1 dA s1 fa m l1 R1 K1 a1 hfa tY=> ?_)));show wpAny _ A (pI (Expr.Name x jW) env dA) _ _ _;left;let ⟨o,es,ep,ho,hd,hk,hm⟩:=tY;have R1':Rel S (c1.pinned [(fa,o)]) O s1.heap:=R1.pinned (λp hp=>by rw[aB]at hp;subst hp;exact hfa) λp hp=>by rw[aB]at hp;subst hp;exact ho
 right;refine(Do.name (k:=k) h2).run A _ s1 env dA hA ((hE.mono l1 (ab _)).pinned) R1' (.pv a1) _ _ λc2 s2 l2 R2 K2=> ?_;have Mr:c2.pin fa=aa o:=by rw[l2.pin];exact aM.lF ..
 refine⟨m,⟨o,es,ep,(R2.pins _ _ Mr).1,hd,hk,hm⟩,λh' qf=> ?_⟩;refine aR (hQ {c2 with pin:=λa=>if a=fa then ac else c2.pin a} .next _ ⟨λa y e=>l2.F a y (l1.F a y e),λi hi=>(l2.Z i hi).trans (l1.Z i hi),?_⟩ (R2.GA Mr qf.extBut) ((K1.trans K2).trans (.gF ..)) .next);funext a;show(if a=fa then ac else c2.pin a)=c.pin a;by_cases ha:a=fa
 ·subst ha;rw[if_pos rfl,<- l1.pin];exact hfa.pin.symm
 ·rw[if_neg ha,l2.pin,<- l1.pin];show(gO a [(fa,o)]).or (c1.pin a)=c1.pin a;rw[di,beq_false_of_ne ha];rfl
section
variable {lay:Lay}
def mw.zg
  (ng:cl.Ok lay) (ZA:scope=cl.scope) (hg:∀g∈gs,g.is_async=0) (hf:∀g∈(⟨cE,kA,IP,0⟩::gs:List dI),∀env x,foldedSetIterable g.iter env x=pure x)
  (hit:GH S k lay kA it) (hG:Ga S k (cl.L lay) (⟨cE,kA,IP,0⟩::gs) (Du F9) AO.list 0 G) (h:lay.nq i x=true)
  (hs:(λenv:lY=>swapsWith (.ListComp F9 (⟨cE,kA,IP,0⟩::gs) scope FP) (aa (.Name x jW)) pos.line {env with scope:=lay.scope})=λq=>pure true):
  mw S k lay (.Assign [.Name x jW] (.ListComp F9 (⟨cE,kA,IP,0⟩::gs) scope FP) pos) (bZ (eh cl it G) (bf i)):=by
 intro p O st fl cf bc Kn;subst ZA;unfold bZ at Kn;simp only[ar,aG]at Kn;let ⟨st1,⟨v,hv,ht⟩,e⟩:=Kn;let ⟨rfl,rfl⟩:=bH e;obtain rfl:=ag ht;unfold eh at hv;simp only[aG,ar]at hv;left;let ⟨xs,hx,⟨r,cf⟩,hr,rfl⟩:=hv;let ⟨bv,a,b,c⟩:=bc.ie (S:=S) h (.pv (.lst r));right;have wD:∀g∈(⟨cE,kA,IP,0⟩::gs:List dI),g.is_async=0:=λg h=>by
  rcases aH.mp h with e|e
  ·subst e;rfl
  ·exact hg g e
 refine⟨bv,iX.I7 (d:= .lst r) (λA c s env hA hE R u E Q hQ=> ?_) a hs,b,c⟩;rw[arm_evalThenUse_ListComp];refine am (EJ (fin:=PV.lst) (pos:=kA.pos) (mi.list ..) (Dv F9 _ _ _) rfl wD hf ng hit hG zf rfl Bf (λr n b τ=> .list rfl) bc hx hr A c s env hA hE R (aa u) E _ λc' dA s' fa m a b d e f g=> ?_);have:=hQ c' dA s' fa m a b d e f g;unfold compPost at this⊢;exact gb this (λ_ Eg ⟨m,h1,h2⟩=>⟨m,h1,λh' hh=>aR (h2 h' hh)⟩) λq q x=>x
def hV (S:cz) (k:Nat) (r:eg) (g:List PV->Option PV):Prop:=∀(O:List AO) (ds:List PV) (d:PV),g ds=aa d->dy S k O (.pv (.con (.ref r.addr))) (ds.map AV.pv) [] (.pv d) O
def kh (g:List PV->Option PV) (fa:St->Option (List CV)) (st:St):Option CV:=(((fa st).bind MU).bind g).map .pv
def dy.A4 (h:dy S k O f args kw d bv) (hk:k<=k'):dy S k' O f args kw d bv:=
 ⟨h.len,λA c s fv vs kvs hA=>h.run A c s fv vs kvs (hA.le hk)⟩
def cT.ahG (hd:hV S k' r g) (hk:k'<=k) (hr:r∈fW) (h:lay.mh f=true) (hg:(f,aa (.ref r.addr))∈cg)
  (ha:pU S k lay args fa):cT S k lay (.Call (.Name f np) args [] pos) (kh g fa):=by
 intro p O st v bc hf;unfold kh at hf;simp only[ar,aG]at hf;left;let ⟨d,⟨ds,⟨l,hl,hp⟩,hgd⟩,rfl⟩:=hf;have hA:=ha p O st l bc hl;right;rw[wZ hp]at hA;exact Ev.md hr (Ev.Gx h hg) hA .nil ((hd O ds d hgd).A4 hk)
end
def Ev.newList:Ev S k O ae (.List [] pos) (.fM ↑O) (O++[.list []]):=by refine⟨by rw[aj];exact bh _ _,λA c s env hA hE R E Q hQ=> ?_⟩;refine wpAny_List (eA ⟨cJ _,?_⟩);refine hQ (c.own ↑O s.heap.objs.size) _ _ aM.jb (R.AR (λb o e=>aJ _ e) (ab _) (aV _ rfl) (Bf _ _)) (.gF ..) ?_;have hv:cU S.w (c.own ↑O s.heap.objs.size) ↑(O++[AO.list []]) (.ref ((c.own ↑O s.heap.objs.size).Z ↑O)) (.fM ↑O):= .fM (by rw[aj,be];exact eu _);rw[(aM.ma ..)]at hv;exact hv
def Ev.newDict:Ev S k O ae (.Dict [] [] pos) (.fM ↑O) (O++[.dict []]):=by
 refine⟨by rw[aj];exact bh _ _,λA c s env hA hE R E Q hQ=> ?_⟩;rw[eval_Dict_empty];refine am (cV (iE ?_));refine hQ (c.own ↑O s.heap.objs.size) _ _ aM.jb (R.AR (λb o e=>aJ _ e) (ab _) (aV _ rfl)
  (.dict rfl kJ (λi e k d h=>by simp at h) λi e k d h=>by simp at h)) (.gF ..) ?_
 have hv:cU S.w (c.own ↑O s.heap.objs.size) ↑(O++[AO.dict []]) (.ref ((c.own ↑O s.heap.objs.size).Z ↑O)) (.fM ↑O):= .fM (by rw[aj,be];exact eu _);rw[(aM.ma ..)]at hv;exact hv
section
variable {lay:Lay}
def alloc (o:CO) (st:St):St:= {st with ob:=st.ob++[o]}
def At.alloc (bc:At lay p st O) (hg:lay.grow=true) (o:CO):At lay p (alloc o st) (O++[o.ao p.oi])/\kr lay p st (alloc o st) O (O++[o.ao p.oi])/\p.oi ↑st.ob= ↑O:=by
 have hn:=bc.next hg;have h0:p.oi ↑st.ob= ↑O:=by have:=hn 0;simpa using this
 have Sz:∀(i n:Nat),p.ci[i]? =aa n->n< ↑O:=by
  intro i n hn;have Gc:i< ↑st.cv:=by rw[bc.x9,<- bc.FI];exact getElem?_lt' hn
  left;let ⟨m,hm,hc⟩:=bc.cells i _ (aq Gc);right;rw[hn]at hm;obtain rfl:=ag hm;exact getElem?_lt' hc
 have Xn:∀j,j< ↑st.ob->p.oi j< ↑O:=λj hj=>getElem?_lt' (bc.obs j _ (aq hj));have cI:(Mine.alloc o st).ob.length= ↑st.ob+1:=by show ↑(st.ob++[o])=_;rw[aj,be]
 refine⟨⟨gA bc.frame,bc.Od,bc.x9,bc.FI,λi v hv=> ?_,λj x hx=> ?_,bc.Zq,λj hj=> ?_,λj hj=> ?_,bc.Xf,λi j hi hj e=> ?_,λq j=> ?_⟩,⟨?_,(λh=>by rw[hg]at h;nomatch h),(by rw[cI];exact Gl),λi hi q q q=>aW hi⟩,h0⟩
 ·let ⟨n,h1,h2⟩:=bc.cells i v hv;exact⟨n,h1,gA h2⟩
 ·have sM:(st.ob++[o])[j]? =aa x:=hx;rcases eG j ↑st.ob with h|h|h
  ·rw[aW h]at sM;exact gA (bc.obs j x sM)
  ·subst h;rw[aE (ab _),dc]at sM;obtain rfl:=ag sM;rw[h0,aE (ab _),dc];rfl
  ·rw[bC (by rw[aj,be];exact X6 h)]at sM;nomatch sM
 ·rw[cI]at hj;rcases bS j ↑st.ob with h|h
  ·exact bc.Zr j h
  ·rw[show j= ↑st.ob by exact TV hj h,h0];exact aa8 (getElem?_lt' bc.frame)
 ·rw[cI]at hj;rcases bS j ↑st.ob with h|h
  ·exact bc.Vu j h
  ·rw[show j= ↑st.ob by exact TV hj h,h0];intro hm;let ⟨i,hi,e⟩:=wH hm;have:=Sz i _ (aq hi);rw[e]at this;exact abb this
 ·rw[cI]at hi hj;rcases bS i ↑st.ob with h|h<;>rcases bS j ↑st.ob with h'|h'
  ·exact bc.Vv i j h h' e
  ·have e1:=Xn i h;rw[e,show j= ↑st.ob by exact TV hj h',h0]at e1;exact abc e1
  ·have e1:=Xn j h';rw[<- e,show i= ↑st.ob by exact TV hi h,h0]at e1;exact abc e1
  ·exact abd hi hj h h'
 ·rw[cI,show ↑st.ob+1+j= ↑st.ob+(j+1) by exact abe,hn (j+1),aj,be];exact KX
 ·rw[aj];exact Pc
def CN (o:CO) (tg:CV->St->Option St) (st:St):Option (pu×St):=(tg (.ob ↑st.ob) (alloc o st)).map λcf=>(.next,cf)
def mw.newObj (hg:lay.grow=true) (hv:∀(O:List AO) (ae:iv) (oi:NN),Ev S k O ae gP (.fM ↑O) (O++[o.ao oi]))
  (h2:∀(p:IF) (O:List AO) (st:St) (v:CV) (cf:St),At lay p st O->tg v st=aa cf->∃bv,j4 S O (lay.en p) x (v.av p.oi) bv/\At lay p cf bv/\kr lay p st cf O bv)
  (hs:swapsWith gP (aa (.Name x jW)) pos.line=λq=>pure false):mw S k lay (.Assign [.Name x jW] gP pos) (CN o tg):=by
 intro p O st fl cf bc hf;unfold CN at hf;simp only[ar]at hf;left;let ⟨st1,ht,e⟩:=hf;let ⟨rfl,rfl⟩:=bH e;let ⟨a1,b1,c1⟩:=bc.alloc hg o;let ⟨bv,a,b,c⟩:=h2 p _ _ _ _ a1 ht;right;refine⟨bv,iX.assign (hv O (lay.en p) p.oi) ?_ (λenv q=>congrFun hs env),b,b1.trans c bc⟩;exact((by show AV.fM (p.oi ↑st.ob)=_;rw[c1]))▸a
def mw.GL (hg:lay.grow=true) (h:lay.nq i x=true):mw S k lay (.Assign [.Name x jW] (.List [] agx) pos) (CN (.list []) (bf i)):=
 mw.newObj hg (λO ae oi=>Ev.newList) (λp O st v cf bc hf=>by obtain rfl:=ag hf;exact bc.ie h v) pp
end
def mW (h:n<100000):n<=sizeLine:=by have:sizeLine=2 ^ 24:=rfl;exact abf h this
def Bg {h:iR} (f:Array Value->Array Value) (ho:h.get? a=aa {cls:=T,data:= .seq vs e}):
  ∃e',(h.update a (Obj.mapSeq f)).get? a=aa {cls:=T,data:= .seq (f vs) e'}:=by
 have hm:∃e',Obj.mapSeq f {cls:=T,data:= .seq vs e}= {cls:=T,data:= .seq (f vs) e'}:=⟨_,rfl⟩;let ⟨e',he⟩:=hm;exact⟨e',by rw[uP _ ho (by rw[he];rfl),he]⟩
def nu.append (hi:O[i]? =aa (.list l)) (hsz: ↑l<100000):nu S k O (.builtin "list.append") [.fM i,.pv d] (.pv PV.none) (O.set i (.list (l++[d]))):=by refine⟨by rw[bi];exact ab _,λA c s vs hA R ha E Q hQ=> ?_⟩;refine ha.n2 (P:=λvs=>wpAny _ _ (call _ vs) _ _ _) λq q a1 a2=> ?_;let ⟨rfl,kW⟩:=a1.zN;let ⟨o,ho,hr⟩:=R.own _ _ hi;let ⟨vs,e,rfl,hs,hp⟩:=hr.zb;refine uX (hsz:=mW (by simp_all)) ⟨_,ho⟩ λh' SE hk=> ?_;let ⟨e',se⟩:=SE;exact hQ c _ _ (.refl ..) (R.PZ kW hk.extBut se hs hp a2.gi) (.gF ..) (.pv (.con _))
noncomputable def uR {α:Type} (n:Nat) (d:α) (l:List α):List α:=l.take n++d::l.drop n
def nu.insert {n:Nat} (hm:m=(n:Int)) (hi:O[i]? =aa (.list l)) (hsz: ↑l<100000) (hn:n<= ↑l):
  nu S k O (.builtin "list.insert") [.fM i,.pv (.int m),.pv d] (.pv PV.none) (O.set i (.list (uR n d l))):=by
 refine⟨by rw[bi];exact ab _,λA c s vs hA R ha E Q hQ=> ?_⟩;refine ha.n3 (P:=λvs=>wpAny _ _ (call _ vs) _ _ _) λq q v3 a1 a2 a3=> ?_;let ⟨rfl,kW⟩:=a1.zN;let ⟨o,ho,hr⟩:=R.own _ _ hi;let ⟨vs,e,rfl,hs,hp⟩:=hr.zb;have Ed:=a2.gi;let ⟨t,rfl⟩:=Ed.kK;have Kl:¬(!iq m)=true:=by unfold iq;simp;exact abg hm hn hsz
 have SD:vs.size<=sizeLine:=mW (Pd hs hsz);refine KH F.slot_list_insert ⟨_,ho,rfl⟩ F.entry_list_insert (F.args_list_insert_3 _ _ _) ((((@AutoSeq1.list_insert_list_int_val_1 (c.Z i) vs e) m t v3) Kl) SD) ⟨ho,?_⟩;generalize hF:(λxs:Array Value=>have k:=if m<0 then(m+(xs.size:Int)).toNat else min m.toNat xs.size;(xs.extract 0 k).push v3++xs.extract k)=F;let ⟨e',se⟩:=Bg F ho;have hFv:(F vs).toList=uR n v3 vs.toList:=by
  rw[<- hF];have hk:(if m<0 then(m+(vs.size:Int)).toNat else min m.toNat vs.size)=n:=by rw[if_neg (abh hm)];exact abi hm hs hn
  show((vs.extract 0 (if m<0 then(m+(vs.size:Int)).toNat else min m.toNat vs.size)).push v3++vs.extract (if m<0 then(m+(vs.size:Int)).toNat else min m.toNat vs.size)).toList=_;rw[hk];unfold uR;simp;exact eO (by rw[fG,bz];exact ab _)
 refine hQ c _ _ (.refl ..) (R.set kW (λb o hb e=>(mR ..).extBut b o hb e) se ?_) (.gF ..) (.pv (.con _));refine .list (by rw[<- bz,hFv,(by unfold uR;rw[aj,cG,az,fG];exact V6: ↑(uR n d l)= ↑l+1)];unfold uR;rw[aj,cG,az,fG,bz];exact abj hs) λi v x hv hx=> ?_;rw[<- fS,hFv]at hv;unfold uR at hv hx;rcases eG i n with h|h|h
 ·rw[aW (by rw[cG,bz];exact abk h hn hs),lL h]at hv;rw[aW (by rw[cG];exact abl h hn),lL h]at hx;exact dk.T7 hp i v x hv hx
 ·subst h;rw[aE (by rw[cG,bz];exact V7),cG,bz,show i- min i vs.size=0 by exact abm hn hs]at hv;rw[aE (by rw[cG];exact V7),cG,show i- min i ↑l=0 by exact abn hn]at hx;obtain rfl:=ag hv;obtain rfl:=ag hx;exact a3.gi
 ·rw[aE (by rw[cG,bz];exact V8 h),cG,bz,show i- min n vs.size=(i- n- 1)+1 by exact abo h hn hs,il,O1]at hv;rw[aE (by rw[cG];exact V8 h),cG,show i- min n ↑l=(i- n- 1)+1 by exact abp h hn,il,O1]at hx;exact dk.T7 hp _ v x hv hx
def nu.pop {n:Nat} (hm:m=(n:Int)) (hi:O[i]? =aa (.list l)) (hsz: ↑l<100000) (hn:l[n]? =aa d):
  nu S k O (.builtin "list.pop") [.fM i,.pv (.int m)] (.pv d) (O.set i (.list (l.eraseIdx n))):=by
 refine⟨by rw[bi];exact ab _,λA c s vs hA R ha E Q hQ=> ?_⟩;refine ha.n2 (P:=λvs=>wpAny _ _ (call _ vs) _ _ _) λq q a1 a2=> ?_;let ⟨rfl,kW⟩:=a1.zN;let ⟨o,ho,hr⟩:=R.own _ _ hi;let ⟨vs,e,rfl,hs,hp⟩:=hr.zb;have Ed:=a2.gi;let ⟨t,rfl⟩:=Ed.kK;have Kt:=getElem?_lt' hn;have Kl:iq m=true:=by unfold iq;simp;exact abq hm Kt hsz
 let ⟨y,hy⟩:=uj hs hn;have SD:vs.size<=sizeLine:=mW (Pd hs hsz);refine KH F.slot_list_pop ⟨_,ho,rfl⟩ F.entry_list_pop (F.args_list_pop_2 _ _) (MeetsSeq.list_pop_at (c.Z i) vs e m t n y Kl (by rw[VQ (abr hm) (abt hm hs Kt)];congr 1;exact abu hm) hy SD) ⟨ho,?_⟩;let ⟨e',se⟩:=Bg (λxs=>xs.eraseIdxIfInBounds n) ho;have hF:(vs.eraseIdxIfInBounds n).toList=vs.toList.eraseIdx n:=by simp
 refine hQ c _ _ (.refl ..) (R.set kW (λb o hb e=>(mR ..).extBut b o hb e) se ?_) (.gF ..) (.pv (hp n _ _ hy hn));refine .list (by rw[<- bz,hF,Ek (by rw[bz];exact CK Kt hs),Ek Kt,bz,hs]) λi v x hv hx=> ?_;rw[<- fS,hF]at hv;rw[List.getElem?_eraseIdx]at hv hx;by_cases h:i<n
 ·rw[if_pos h]at hv hx;exact dk.T7 hp i v x hv hx
 ·rw[if_neg h]at hv hx;exact dk.T7 hp (i+1) v x hv hx
section
variable {lay:Lay}
def qY (j:Nat) (o:CO) (st:St):St:= {st with ob:=st.ob.set j o}
def At.Bh (bc:At lay p st O) (hj:st.ob[j]? =aa o) (o':CO):At lay p (qY j o' st) (O.set (p.oi j) (o'.ao p.oi))/\kr lay p st (qY j o' st) O (O.set (p.oi j) (o'.ao p.oi)):=by
 have Xq:=getElem?_lt' hj;have Ig:∀m,m≠p.oi j->∀x,(O.set (p.oi j) x)[m]? =O[m]? :=λm hm x=>bE hm.symm;have cI:(Mine.qY j o' st).ob.length= ↑st.ob:=by show ↑(st.ob.set j o')=_;exact bi
 refine⟨⟨?_,bc.Od,bc.x9,bc.FI,λi v hv=> ?_,λi x hx=> ?_,bc.Zq,λi hi=>bc.Zr i (cI▸hi),λi hi=>bc.Vu i (cI▸hi),bc.Xf,λa b ha hb=>bc.Vv a b (cI▸ha) (cI▸hb),λhg i=> ?_⟩,
  ⟨by rw[bi];exact ab _,λq=>⟨bi,cI⟩,by rw[cI];exact ab _,λi q q q h=>Ig i (h j Xq) _⟩⟩
 ·rw[Ig _ (bc.Zr j Xq).symm];exact bc.frame
 ·let ⟨n,h1,h2⟩:=bc.cells i v hv;refine⟨n,h1,?_⟩;rw[Ig n (λe=>bc.Vu j Xq (e▸bo h1))];exact h2
 ·have sM:(st.ob.set j o')[i]? =aa x:=hx;by_cases h:j=i
  ·subst h;rw[bU Xq]at sM;obtain rfl:=ag sM;exact bU (getElem?_lt' (bc.obs j o hj))
  ·rw[bE h]at sM;rw[Ig _ (λe=>h (bc.Vv j i Xq (getElem?_lt' sM) e.symm))];exact bc.obs i x sM
 ·rw[cI,bi];exact bc.next hg i
def Bi (S:cz) (k:Nat) (id:String) (g:List PV->List PV->Option (PV×List PV)):Prop:=
 ∀(O:List AO) (i:Nat) (l:List PV) (ds:List PV) (r:PV) (l':List PV),O[i]? =aa (.list l)->g l ds=aa (r,l')->nu S k O (.builtin id) (.fM i::ds.map AV.pv) (.pv r) (O.set i (.list l'))
def gZ (l:List PV):List PV->Option (PV×List PV)
 | []=>ac
 | [d]=>if ↑l<100000 then aa (PV.none,l++[d]) else ac
 |_::_::_=>ac
def Yo (l:List PV):List PV->Option (PV×List PV)
 | []=>ac
 | [a]=>(CV.pv a).aI.bind λm=>if ↑l<100000/\0<=m then(l[m.toNat]?).map λd=>(d,l.eraseIdx m.toNat) else ac
 |_::_::_=>ac
def Bi.append:Bi S k "list.append" gZ:=by
 intro O i l ds r l' hi h;rcases ds with _|⟨d,_|_⟩
 ·exact gq h
 ·let ⟨hh,e⟩:=dS h;let ⟨rfl,rfl⟩:=bH e;exact nu.append hi hh
 ·exact gq h
def Bi.pop:Bi S k "list.pop" Yo:=by
 intro O i l ds r l' hi h;rcases ds with _|⟨a,_|_⟩
 ·exact gq h
 ·refine a9 h λm e h=> ?_;obtain rfl:=CV.pvI (CV.kI e);let ⟨hh,h⟩:=ED h;let ⟨d,hd,e⟩:=ar.mp h;let ⟨rfl,rfl⟩:=bH e;exact nu.pop (yf hh.2).symm hi hh.1 hd
 ·exact gq h
def oE (g:List PV->List PV->Option (PV×List PV)) (f:EF) (fa:St->Option (List CV)) (st:St):Option (pu×St):=
 ((f st).bind CV.aO).bind λj=>((fa st).bind MU).bind λds=>(Tj st.ob[j]?).bind λl=>(g l ds).map λr=>(.next,qY j (.list r.2) st)
def mw.mut {id:String} (hm:Bi S k id g) (KR:Slot "list" name id)
  (hty:typeOf (.builtin id)=pure (.type "method_descriptor")) (h:cT S k lay o f) (ha:pU S k lay args fa) (ik:∀env,attributeBase o name env (eval o env)=eval o env) (gC:(jz.endLine==pos.line)=true) (hn: ↑args<30)
  (hs:swapsWith (.Call (.Attribute o name jz) args [] pos) ac FQ.line=λq=>pure false):mw S k lay (.Expr (.Call (.Attribute o name jz) args [] pos) FQ) (oE g f fa):=by
 intro p O st fl cf bc hf;refine a9 hf λj hd hf=>a9 hd λq hd e1=>a9 hf λds Zo hf=>a9 Zo λvs0 hv0 hp0=>a9 hf λl hl hf=> ?_;rw[CV.kO e1]at hd;replace hl:=ul hl;let ⟨⟨r,l'⟩,hg,e⟩:=ar.mp hf;let ⟨rfl,rfl⟩:=bH e;have IJ:=ha p O st _ bc hv0;rw[wZ hp0]at IJ;let ⟨b,c⟩:=bc.Bh hl (.list l');refine⟨_,iX.expr (d:= .pv r) ⟨by rw[bi];exact ab _,λA c s env hA hE R E Q hQ=> ?_⟩ hs,b,c⟩;refine eJ (ik env) (A9 IJ pos env hn) gC ((h p O st _ bc hd).run A c s env hA hE R _ _ λc1 v1 s1 l1 R1 K1 a1=> ?_);let ⟨hT,tX⟩:=z9 bc (v:= .ob j) (T:= "list") (by show obT st.ob[j]? =_;rw[hl];rfl) R1 a1;refine⟨"list",id,F.plainAttrs_list,KR,hty,hT,tX,cX (noStar IJ pos env) ?_⟩;refine ef IJ _ pos A c1 s1 env hA (hE.mono l1 (ab _)) R1 _ _ λc2 vs s2 l2 R2 K2 a2=> ?_;exact(hm O (p.oi j) l ds r l' (bc.obs j _ hl) hg).run A c2 s2 (v1::vs) hA R2 (.cons (a1.mono l2 (ab _)) a2) E Q λc3 v3 s3 l3 R3 K3 a3=>hQ c3 v3 s3 ((l1.trans l2 (ab _)).trans l3 (ab _)) R3 ((K1.trans K2).trans K3) a3
end
def Tp {P:List Value->Prop} (h:∀a,P [a]):∀vs:List Value,↑vs=1->P vs:=λvs e=>by
 rcases vs with _|⟨a,_|_⟩
 ·exact absurd e ∅
 ·exact h a
 ·exact absurd (lZ e) (Nat.succ_ne_zero _)
def bd2 {P:List Value->Prop} (h:∀a b,P [a,b]):∀vs:List Value,↑vs=2->P vs:=λvs e=>by
 rcases vs with _|⟨a,l⟩
 ·exact absurd e ∅
 ·exact Tp (P:=λl=>P (a::l)) (h a) l (lZ e)
def W3 {P:List Value->Prop} (h:∀a b c,P [a,b,c]):∀vs:List Value,↑vs=3->P vs:=λvs e=>by
 rcases vs with _|⟨a,l⟩
 ·exact absurd e ∅
 ·exact bd2 (P:=λl=>P (a::l)) (h a) l (lZ e)
def nM (r:eg) (names others:List Str):Lay:= {scope:=r.scope,loc:=names++others,nr:=[],own:=0,grow:=true,code:=aa r.code}
noncomputable def Dx (ds:List PV) (others:List Str):St:= {lv:=(ds.map λd=> ~~~d)++others.map λq=>ac,cv:=[],ob:=[]}
noncomputable def obV:Option CO->Option PV
 |some (.list l)=>aa (.lst l)
 |some (.dict l)=>aa (.oQ l)
 |_=>ac
def GN (st:St):pu->Option PV
 | .next=>aa PV.none
 | .ret (.pv d)=>aa d
 | .ret (.ob j)=>obV st.ob[j]?
 |_=>ac
def mL (names others:List Str) (F:St->Option (pu×St)) (ds:List PV):Option PV:=
 if ↑ds= ↑names then(F (Dx ds others)).bind λr=>GN r.2 r.1 else ac
def rP (hl:∀i,i< ↑O->bv[i]? =O[i]?):∃τ,bv=O++τ:=by
 refine⟨bv.drop ↑O,?_⟩;have ht:bv.take ↑O=O:=by
  apply ry;intro i;rcases bS i ↑O with h|h
  ·rw[lL h];exact hl i h
  ·rw[bC (by rw[cG];exact aa6 h),bC h]
 conv=>lhs;rw[<- nF ↑O bv,ht]
section
variable {lay:Lay}
noncomputable def ajj:mx->Int->Int->Option Int
 | .Add,a,b=>aa (a+b)
 | .Sub,a,b=>aa (a- b)
 |_,_,_=>ac
def I8 (op:mx) (i:Nat) (f:EF) (st:St):Option (pu×St):=((ak i st).bind CV.aI).bind λa=>((f st).bind CV.aI).bind λb=>(ajj op a b).map λr=>(.next,ie i (.pv (.int r)) st)
def mw.aug (h:lay.nq i x=true) (hv:cT S k lay gP f):mw S k lay (.AugAssign (.Name x jW) op gP pos) (I8 op i f):=by
 intro p O st fl cf bc hf;refine a9 hf λa ha hf=>a9 ha λq ha e1=>a9 hf λb hb hf=>a9 hb λq hb e2=> ?_;rw[CV.kI e1]at ha;rw[CV.kI e2]at hb;let ⟨r,hr,e⟩:=ar.mp hf;let ⟨rfl,rfl⟩:=bH e;let ⟨bv,a1,b1,c1⟩:=bc.ie (S:=S) h (.pv (.int r));refine⟨bv,⟨a1.len,λA c s env hA hE R E Q hQ=> ?_⟩,b1,c1⟩;have hl:=h;unfold Lay.nq at hl;simp only[dj,beq_iff_eq]at hl;let ⟨⟨h1,h2⟩,h3⟩:=hl;have hvl:st.lv[i]? =aa (~~~(.int a)):=by
  unfold ak at ha;rw[AM]at ha;cases e:st.lv[i]? with
  |none=>rw[e]at ha;exact gq ha
  |some o=>rw[e]at ha;exact congrArg aa ha
 let ⟨fr,uM,_,g1,_⟩:=R.ns bc.frame;let ⟨v,vZ,hd⟩:=g1 x (AV.pv (.int a)) (PL h1 (v:=aa (AV.pv (.int a))) (by rw[bO,hvl];rfl));refine wpAny_AugAssign_Name (qg (by rw[hE.scope];exact hE.kind) (by rw[hE.kindOf];exact h2) (by rw[hE.locals];exact uM) vZ ?_);refine(hv p O st _ bc hb).run A c s env hA hE R _ _ λc1 v1 s1 l1 R1 K1 d1=> ?_;let ⟨t,rfl⟩:=d1.gi.kK;let ⟨u,rfl⟩:=hd.gi.kK;have fin:∀tk,wpAny (MM S.w) A (storeName env x (.int r tk)) (λq=>Q .next) E {s1 with toks:=s1.toks+1}:=λtk=>
  a1.run A c1 {s1 with toks:=s1.toks+1} env _ (hE.mono l1 (ab _)) R1 (.pv (.int r tk)) _ _ λc2 s2 l2 R2 K2=>hQ c2 .next s2 (l1.trans l2 (ab _)) R2 ((K1.trans (.toks ..)).trans K2) .next
 induction op with
 |Add=>obtain rfl:=ag hr;exact PyProof.Rows.iadd_int (fin _)
 |Sub=>obtain rfl:=ag hr;exact P.isub_int (fin _)
 |_=>exact gq hr
end
section
variable {lay:Lay}
def M4 (R:Rel S c O s.heap) (kz:O[n]? =aa (.dict dA)) (hn:x∉dA.map (·.1)) (hsz: ↑dA<100000) (hv:dk S.w c.F v d)
  (hQ:∀s',Rel S c (O.set n (.dict (dA++[(x,d)]))) s'.heap->dY s s'->Q () s'):wpAny (MM S.w) A (setItem (.ref (c.Z n)) (.str x t) v) Q E s:=by
 have Kt:=getElem?_lt' kz;left;let ⟨a,es,m,kvs,e,_,ho,nd,hp⟩:=(Tn.fM kz).at R (v:= .ref (c.Z n)) (.fM Kt);right;cases e;have cI: ↑kvs= ↑dA:=by have:=congrArg eW hp.keys;simpa using this
 refine wpAny_setItem_pairs (knd:=strKind pw S.w) (k:=x) (beq_self_eq_true x) (mJ (hp.dictOf ho nd)) (λh' Mo qf=> ?_) (X4 cI rfl hsz);rw[stored_new (by rw[hp.keys];exact hn)]at Mo;let ⟨o,se,hr⟩:=ic.P0 (c:=c) (n:= ↑O) (l:=dA++[(x,d)]) Mo (by rw[bI,bI,hp.keys];rfl) (λi p q a b=>by
  rcases eG i ↑dA with hi|hi|hi
  ·rw[aW (CK hi cI)]at a;rw[aW hi]at b;exact hp.vals i p q a b
  ·rw[aE (X8 cI hi),show i- ↑kvs=0 by exact aa9 hi cI]at a;rw[aE (TU hi),show i- ↑dA=0 by exact aba hi]at b;cases a;cases b;exact hv
  ·rw[bC (by simp;exact X6 hi)]at b;cases b)
 exact hQ _ (R.set Kt qf.extBut se hr) (.heap ..)
noncomputable def CO.aD:CO->Option (List (Str×PV))
 | .dict l=>aa l
 |_=>ac
def CO.kD {o:CO} (h:o.aD=aa l):o= .dict l:=by
 induction o with
 |dict m=>exact congrArg CO.dict (ag h)
 |_=>exact gq h
def St.aD (st:St) (j:Nat):Option (List (Str×PV)):=(st.ob[j]?).bind CO.aD
def EL (f fo fi:EF) (st:St):Option (pu×St):=((f st).bind CV.aP).bind λd=>((fo st).bind CV.aO).bind λj=>((fi st).bind CV.aS).bind λx=>(st.aD j).bind λl=>
 if ↑l<100000/\l.lookup x=ac then aa (.next,qY j (.dict (l++[(x,d)])) st) else ac
def mw.put (hv:cT S k lay gP f) (ho:cT S k lay o fo) (hi:cT S k lay i fi) (hs:swapsWith gP (aa (.Subscript o i FQ)) pos.line=λq=>pure false):
  mw S k lay (.Assign [.Subscript o i FQ] gP pos) (EL f fo fi):=by
 intro p O st fl cf bc hf;refine a9 hf λd hd hf=>a9 hd λq hd e1=>a9 hf λj hj hf=>a9 hj λq hj e2=>a9 hf λx hx hf=>a9 hx λq hx e3=>a9 hf λl hl hf=>a9 hl λq hl e4=> ?_;rw[CV.kP e1]at hd;rw[CV.kO e2]at hj;rw[CV.kS e3]at hx;rw[CO.kD e4]at hl;obtain(⟨hsz,e⟩):=dS hf;obtain(⟨rfl,rfl⟩):=bH e;obtain(⟨b,c⟩):=bc.Bh hl (.dict (l++[(x,d)]));refine⟨_,⟨by rw[bi];exact ab _,λA c s env hA hE R E Q hQ=> ?_⟩,b,c⟩;refine wpAny_Assign_Subscript (hs:=congrFun hs env) ((hv p O st _ bc hd).run A c s env hA hE R _ _ λc1 v1 s1 l1 R1 K1 a1=> ?_);have rA:=hE.mono l1 (ab _);refine(ho p O st _ bc hj).run A c1 s1 env hA rA R1 _ _ λc2 v2 s2 l2 R2 K2 a2=> ?_;refine(hi p O st _ bc hx).run A c2 s2 env hA (rA.mono l2 (ab _)) R2 _ _ λc3 v3 s3 l3 R3 K3 a3=> ?_;have FL:=l2.trans l3 (ab _);have a3':=a3.gi;obtain(⟨t,rfl⟩):=a3'.mG;have Ed:=a2.mono l3 (ab _);obtain(⟨rfl,kW⟩):=Ed.zN;exact M4 R3 (bc.obs j _ hl) (lookup_none hsz.2) hsz.1 ((a1.mono FL (ab _)).gi) λs' R4 K4=>hQ c3 .next s' (l1.trans FL (ab _)) R4 (((K1.trans K2).trans K3).trans K4) .next
end
inductive jX (S:cz) (ae:iv):List AO->List (Str×AV)->List AO->Prop
 |nil {O:List AO}:jX S ae O [] O
 |cons {O bw bQ:List AO} {x:Str} {d:AV} {rest:List (Str×AV)}:j4 S O ae x d bw->jX S ae bw rest bQ->jX S ae O ((x,d)::rest) bQ
def jX.len (h:jX S ae O bs bv): ↑O<= ↑bv:=by
 induction h with
 |nil=>exact ab _
 |cons a _ ih=>exact aA a.len ih
def jX.run (h:jX S ae O bs bv):∀(A:cS) (c:aM) (s:bb) (env:lY) (vb:List (Str×Value)) (f:Str×Value->PUnit->z0 (ForInStep PUnit)),(∀n v u,f (n,v) u=(do storeName env n v;pure (.yield ⟨⟩)))->
  cY c ↑O ae env->Rel S c O s.heap->vb.map (·.1)=bs.map (·.1)->dg S.w c ↑O (vb.map (·.2)) (bs.map (·.2))->
  ∀(E:VS) (Q:PUnit->bb->Prop),(∀c' s',aM.le ↑O c c'->Rel S c' bv s'.heap->dY s s'->Q ⟨⟩ s')->wpAny (MM S.w) A (forIn vb ⟨⟩ f) Q E s:=by
 induction h with
 |nil=>
  intro A c s env vb f hf hE R hk hv E Q hQ;induction vb with
  |nil=>rw[qC];exact aR (hQ c s (.refl ..) R (.refl ..))
  |cons=>cases hk
 | @cons O bw bQ x d rest h1 h2 ih=>
  intro A c s env vb f hf hE R hk hv E Q hQ;cases vb with
  |nil=>cases hk
  |cons p vb=>let ⟨y,v⟩:=p;rw[bx,bx]at hk hv;injection hk with e1 e2;have e1':y=x:=e1;subst e1';let ⟨_,_,q,a,b⟩:=hv.i1;cases q;rw[uf,hf];refine am (am (h1.run A c s env v hE R a _ _ λc1 s1 l1 R1 K1=>aR ?_));exact ih A c1 s1 env vb f hf (hE.mono l1 h1.len) R1 e2 (b.mono l1 h1.len) E Q λc2 s2 l2 R2 K2=>hQ c2 s2 (l1.trans l2 h1.len) R2 (K1.trans K2)
def gB (r:eg) (n:Nat):iv:= {scope:=r.scope,fi:=n,cells:=cellsFrom (n+1) r.scope.names [],code:=aa r.code}
def vH (S:cz) (k:Nat) (O:List AO) (fd:FuncData) (args:List AV) (kw:List (Str×AV)) (binds:List (Str×AV)):Prop:=
 ∀(A:cS) (c:aM) (s:bb) (vs:Vs) (kvs:List (Str×Value)),A.handled=ac->Rel S c O s.heap->dg S.w c ↑O vs args->kvs.map (·.1)=kw.map (·.1)->dg S.w c ↑O (kvs.map (·.2)) (kw.map (·.2))->
  ∀(E:VS) (Q:List (Str×Value)->bb->Prop),(∀c' vb s',aM.le ↑O c c'->Rel S c' O s'.heap->dY s s'->vb.map (·.1)=binds.map (·.1)->dg S.w c' ↑O (vb.map (·.2)) (binds.map (·.2))->Q vb s')->wpAny (MM S.w) A (bindArgs fd ⟨vs,kvs⟩) Q E s
def jH.B (h:jH S O fd args kw binds):vH S k O fd args kw binds:=by intro A c s vs kvs _ R ha hk H6 E Q hQ;let ⟨vb,h1,h2,h3⟩:=h c s vs kvs R ha hk H6;exact h3 _ _ _ _ (hQ c vb s (.refl ..) R (.refl _) h1 h2)
structure pY (r:eg) (loc:List Str) (own:Sn):Prop where
 mem:r∈fW
 nd:loc.Nodup
 eqn:cellsFrom 0 r.scope.names []=own
 ndO:(own.map (·.2)).Nodup
 lt:∀q∈own,q.2<fg r.scope.names
 kind:r.scope.kind= .function
 co:r.scope.isCoroutine=false
 gen:r.scope.isGenerator=false
def pY.of (i:Nat) (hi:fW[i]? =aa r) (hk:r.scope.kind= .function) (h:(decide loc.Nodup&&decide (cellsFrom 0 r.scope.names []=own)&&decide (own.map (·.2)).Nodup&&own.all (λq=>decide (q.2<fg r.scope.names))&& !r.scope.isCoroutine&& !r.scope.isGenerator)=true):pY r loc own:=by simp only[dj,decide_eq_true_eq,fH,jl]at h;exact⟨bo hi,h.1.1.1.1.1,h.1.1.1.1.2,h.1.1.1.2,h.1.1.2,hk,h.1.2,h.2⟩
def ent (O:List AO) (r:eg) (loc:List Str):List AO:=O++(.ns (loc.map λx=>(x,ac))::bR (fg r.scope.names) (.cell ac))
def EM (O:List AO) (r:eg) (loc:List Str): ↑(ent O r loc)= ↑O+1+fg r.scope.names:=by unfold ent;rw[aj,az,nG];exact KX
def w4 (F:pY r loc own)
  (gr:∀pm,vH S k O (r.fd pm) args kw binds)
  (rz:jX S (gB r ↑O) (ent O r loc) binds bw)
  (hA:jG (k+1) A) (R:Rel S c O s.heap) (hf:cU S.w c ↑O fv (.pv (.con (.ref r.addr)))) (ha:dg S.w c ↑O vs args) (hk:kvs.map (·.1)=kw.map (·.1)) (H6:dg S.w c ↑O (kvs.map (·.2)) (kw.map (·.2)))
  (H:∀c3 s3 env,aM.le ↑O c c3->cY c3 ↑bw (gB r ↑O) env->Rel S c3 bw s3.heap->dY s s3->s.toks<=s3.toks->env.frame=aa env.locals->
   wpAny (MM S.w) (A.deeper env) (execs r.body env) (λf s'=>Q (match f with| .ret v=>v|_=> .none) s') (λe s'=>wpAny (MM S.w) (A.deeper env) (leaving env e) (λq=>E e) E s') s3):
  wpAny (MM S.w) A (call fv vs kvs) Q E s:=by
 have e:=hf.dn;subst e;left;let ⟨o,pm,ho,FR,Ck,C7⟩:=R.fn F.mem;right;refine v8 ?_;refine Tw (fd:=r.fd pm) (body:=r.body) hA.room ho Ck F.co F.gen rfl C7 (mE (ab s.toks) (gr pm A.in1 c s vs kvs hA.hn R ha hk H6 _ _ λcB vb sB lB RB KB hvk hvv hTB=> ?_));show wpAny _ _ (newFunctionEnv r.scope 3 [] vb _ (aa r.addr) (.ref r.code) ac 0) _ _ _;simp only[newFunctionEnv,MB,fu,if_false];refine am (Ge ?_);refine am (KG _ (λname kind cells=>by cases hkc:kind==kZ<;>simp[hkc]) _ _ _ _ ?_);have R1:Rel S (cB.own ↑O sB.heap.objs.size) (O++[.ns (loc.map λx=>(x,ac))]) (sB.heap.push {cls:= .type "frame",data:= .dict #[]}):=
  RB.AR (λb o e=>aJ _ e) (ab _) (aV _ rfl) (.ns (es:= #[]) (ep:=0) rfl (λe he=>by simp at he) (by rw[bD];simpa[KP]using F.nd)
   (λx d hx=>by let ⟨y,_,e⟩:=aQ.mp hx;nomatch e) λx q=>rfl)
 have l1:aM.le ↑O cB (cB.own ↑O sB.heap.objs.size):=aM.jb;generalize hc1:cB.own ↑O sB.heap.objs.size=c1 at R1 l1;left;let ⟨c2,l2,R2,mQ,FN⟩:=Rel.Bd r.scope.names [] R1 (λp hp=>by nomatch hp);right;rw[(by rw[aj,be]: ↑(O++[AO.ns (loc.map λx=>(x,ac))])= ↑O+1)]at mQ FN l2;rw[(by unfold ent;simp:O++[AO.ns (loc.map λx=>(x,ac))]++bR (fg r.scope.names) (AO.cell ac)=ent O r loc)]at R2;have zE:=EM O r loc;generalize ent O r loc=uV at R2 rz zE;rw[zL]at mQ;generalize hH:({sB with heap:=sB.heap.push {cls:= .type "frame",data:= .dict #[]}}:bb)=s1;have ZD:s1.heap=sB.heap.push {cls:= .type "frame",data:= .dict #[]}:=by rw[<- hH]
 have Kr:s.toks<=s1.toks:=by exact hH▸hTB
 rw[<- ZD]at mQ R2;rw[mQ];have H9:cY c2 ↑uV (gB r ↑O) {scope:=r.scope,locals:=sB.heap.objs.size,globals:=3,cells:=(cellsFrom (↑O+1) r.scope.names []).map (λp=>(p.1,c2.Z p.2)),qual:=(r.fd pm).qualname++ ".<locals>.",func:=aa r.addr,code:= .ref r.code,frame:=aa sB.heap.objs.size,builtins:=0}:= {
  scope:=rfl
  kind:=F.kind
  locals:=by show sB.heap.objs.size=c2.Z ↑O;rw[l2.Z _ (abv),(by exact hc1▸(aM.ma ..):c1.Z ↑O=sB.heap.objs.size)]
  fi:=by show ↑O< ↑uV;exact abw zE
  globals:=rfl
  builtins:=rfl
  cells:=rfl
  jr:=λp hp=>by rw[zE];exact FN p hp
  code:=λa e=>by obtain rfl:=ag e;rfl
  frame:=⟨_,rfl⟩}
 have uL:aM.le ↑O cB c2:=l1.trans l2 (Gl);have K1:dY sB {s1 with heap:=pushCells s1.heap r.scope.names}:=by exact hH▸(.gF ..)
 refine am (mE (n:=s.toks) Kr (rz.run _ c2 {s1 with heap:=pushCells s1.heap r.scope.names} _ vb _ (λq q q=>rfl) H9 R2 hvk (hvv.mono uL (V9 zE)) _ _ λc3 s3 l3 R3 K3 ht3=>aR ⟨R3.lim,codeAny_func ?_⟩));exact H c3 s3 _ (lB.trans (uL.trans l3 (V9 zE)) abW) (H9.mono l3 rz.len) R3 (KB.trans (K1.trans K3)) ht3 rfl
def jX.Yp (h:jX S ae (ent O r loc) bs bw): ↑O<= ↑bw:=aA (by unfold ent;rw[aj];exact bh ..) h.len
def dy.Dy (F:pY r loc own)
  (gr:∀pm,vH S k O (r.fd pm) args kw binds)
  (rz:jX S (gB r ↑O) (ent O r loc) binds bw)
  (dX:cH S k bw (gB r ↑O) r.body f (bv++τ))
  (hl: ↑bv= ↑O) (H5:∀(i:Nat) (x:AO),bv[i]? =aa x->O[i]? =aa x\/x.flat=true) (hz:Gs τ ↑bv f.val d):
  dy S (k+1) O (.pv (.con (.ref r.addr))) args kw d bv:=by
 refine⟨by exact TU hl,?_⟩;intro A c s fv vs kvs hA R hf ha hk H6 E Q hQ;refine w4 F gr rz hA R hf ha hk H6 λc3 s3 env l3 hE R3 K3 q q=> ?_;refine dX.run _ c3 s3 env hA.deeper hE R3 _ _ λc4 v4 s4 l4 R4 K4 f4=> ?_;have hv4:cU S.w c4 ↑(bv++τ) (T1 v4) f.val:=by
  clear hQ;cases f4 with
  |next=>exact .pv (.con _)
  |brk=>exact .pv (.con _)
  |cont=>exact .pv (.con _)
  |ret h=>exact h
 let ⟨c5,l5,R5,hv5,_⟩:=Gs.run R R4 hl H5 hz hv4;have fin:=hQ c5 _ s4 ((l3.trans l4 rz.Yp).trans l5 (ab _)) R5 (K3.trans K4) hv5;cases v4<;>exact fin
inductive vI (S:cz) (k:Nat) (ae:iv):List AO->List Expr->List AV->List AO->Prop
 |nil {O:List AO}:vI S k ae O [] [] O
 |cons {O bw bQ:List AO} {e:Expr} {rest:List Expr} {d:AV} {ds:List AV}:Ev S k O ae e d bw->vI S k ae bw rest ds bQ->notStar e=true->vI S k ae O (e::rest) (d::ds) bQ
def vI.len (h:vI S k ae O es ds bv): ↑O<= ↑bv:=by
 induction h with
 |nil=>exact ab _
 |cons h _ _ ih=>exact aA h.len ih
def vI.size (h:vI S k ae O es ds bv): ↑ds= ↑es:=by
 induction h with
 |nil=>rfl
 |cons _ _ _ ih=>rw[az,az,ih]
def vI.run (h:vI S k ae O es ds bv):∀(pos:Pos) (A:cS) (c:aM) (s:bb) (env:lY),jG k A->cY c ↑O ae env->Rel S c O s.heap->
  ∀(E:VS) (Q:List Value->bb->Prop),(∀c' vs s',aM.le ↑O c c'->Rel S c' bv s'.heap->dY s s'->dg S.w c' ↑bv vs ds->Q vs s')->wpAny (MM S.w) A (spliced (backTo pos (starEach es env))) Q E s:=by
 induction h with
 |nil=>intro pos A c s env _ _ R E Q hQ;exact eA (hQ c [] s (.refl ..) R (.refl _) .nil)
 |cons h1 h2 hn ih=>intro pos A c s env hA hE R E Q hQ;rw[gz hn];show wpAny _ A (spliced ((false,eval _ env)::backTo pos (starEach _ env))) Q E s;refine bX (h1.run A c s env hA hE R _ _ λc1 v1 s1 l1 R1 K1 a1=> ?_);exact ih pos A c1 s1 env hA (hE.mono l1 h1.len) R1 _ _ λc2 vs s2 l2 R2 K2 a2=>hQ c2 _ s2 (l1.trans l2 h1.len) R2 (K1.trans K2) (.cons (a1.mono l2 h2.len) a2)
inductive th (S:cz) (k:Nat) (ae:iv):List AO->List Expr->List AV->List AO->Prop
 |nil {O:List AO}:th S k ae O [] [] O
 |cons {O bw bQ:List AO} {t:Expr} {rest:List Expr} {d:AV} {ds:List AV}:Do S k O ae t d bw->th S k ae bw rest ds bQ->notStar t=true->th S k ae O (t::rest) (d::ds) bQ
def th.len (h:th S k ae O ts ds bv): ↑O<= ↑bv:=by
 induction h with
 |nil=>exact ab _
 |cons h _ _ ih=>exact aA h.len ih
def th.shape (h:th S k ae O ts ds bv) (env:lY): ↑(assignEach ts env)= ↑ds/\(assignEach ts env).findIdx? (·.1)=ac:=by
 induction h with
 |nil=>exact⟨rfl,rfl⟩
 |cons _ _ hn ih=>rw[lu hn];refine⟨by rw[az,az,ih.1],?_⟩;rw[O2];simp[ih.2]
def th.run (h:th S k ae O ts ds bv):∀(A:cS) (c:aM) (s:bb) (env:lY) (vs:Vs),jG k A->cY c ↑O ae env->Rel S c O s.heap->dg S.w c ↑O vs ds->
  ∀(E:VS) (Q:Unit->bb->Prop),(∀c' s',aM.le ↑O c c'->Rel S c' bv s'.heap->dY s s'->Q () s')->wpAny (MM S.w) A (assignInOrder ((assignEach ts env).map (·.2)) vs) Q E s:=by
 induction h with
 |nil=>intro A c s env vs hA hE R hv E Q hQ;obtain rfl:=hv.i0;exact aR (hQ c s (.refl ..) R (.refl ..))
 |cons h1 h2 hn ih=>intro A c s env vs hA hE R hv E Q hQ;let ⟨_,_,rfl,a,b⟩:=hv.i1;rw[lu hn];refine am (dH (h1.run A c s env _ hA hE R a _ _ λc1 s1 l1 R1 K1=> ?_));exact ih A c1 s1 env _ hA (hE.mono l1 h1.len) R1 (b.mono l1 h1.len) E Q λc2 s2 l2 R2 K2=>hQ c2 s2 (l1.trans l2 h1.len) R2 (K1.trans K2)
def dg.put (h:dg w c n vs ds) (ha:c.F a=ac):dg w (c.put a o) n vs ds:=h.mono (aM.dC ha) (ab _)
def vI.tuple (h:vI S k ae O es ds bv) (hsz: ↑es<=1000) (A:cS) (c:aM) (s:bb) (env:lY) (hA:jG k A) (hE:cY c ↑O ae env) (R:Rel S c O s.heap)
  (E:VS) (Q:VS) (hQ:∀c' a vs s',aM.le ↑O c c'->Rel S c' bv s'.heap->dY s s'->c'.F a=aa {cls:= .type "tuple",data:= .seq vs}->dg S.w c' ↑bv vs.toList ds->Q (.ref a) s'):
  wpAny (MM S.w) A (eval (.Tuple es n pos) env) Q E s:=by
 refine sN (h.run pos A c s env hA hE R _ _ λc1 vs s1 l1 R1 K1 a1=>⟨?_,?_⟩)
 ·rw[↑a1,h.size];have:sizeLine=2 ^ 24:=rfl;exact X2 hsz this
 ·have hF:=R1.oz (ab s1.heap.objs.size);exact hQ (c1.put s1.heap.objs.size {cls:= .type "tuple",data:= .seq vs.toArray}) s1.heap.objs.size vs.toArray _ (l1.trans (aM.dC hF) h.len) R1.sW (K1.trans (.gF ..)) (if_pos rfl) (by simpa using a1.put hF)
def iX.M5 (h1:vI S k ae O es ds bw) (h2:th S k ae bw ts ds bQ) (hsz: ↑es<=1000)
  (hw:(λenv:lY=>swappedStores [.Tuple ts n tZ] (.Tuple es m Ku) {env with scope:=ae.scope})=λq=>pure ac):iX S k O ae (.Assign [.Tuple ts n tZ] (.Tuple es m Ku) pos) .next bQ:=by
 refine⟨aA h1.len h2.len,λA c s env hA hE R E Q hQ=> ?_⟩;refine PyProof.Rows.Assign_Tuple (h1.tuple hsz A c s env hA hE R _ _ λc1 a vs s1 l1 R1 K1 hF a1=> ?_) rfl (scp hw hE.scope);let ⟨e1,e2⟩:=h2.shape env;refine Cn hA.hn ⟨_,R1.frozen _ _ hF,rfl,_,rfl⟩ (by rw[e1,<- bz,↑a1]) e2 λh' hk=> ?_;have R':Rel S c1 bw h':=R1.ext λb o e=>hk b o (cM (bW e)) e;exact h2.run A c1 {s1 with heap:=h'} env _ hA (hE.mono l1 h1.len) R' a1 _ _ λc2 s2 l2 R2 K2=>hQ c2 .next s2 (l1.trans l2 h1.len) R2 ((K1.trans (.gF ..)).trans K2) .next
def iX.I9 (h1:vI S k ae O es [d1,d2] bw) (hy:j4 S bw ae y d2 bQ) (hx:j4 S bQ ae x d1 ru)
  (hw:(λenv:lY=>swappedStores [.Tuple [.Name x px,.Name y py] n tZ] (.Tuple es m Ku) {env with scope:=ae.scope})=λq=>pure (aa [x,y])):iX S k O ae (.Assign [.Tuple [.Name x px,.Name y py] n tZ] (.Tuple es m Ku) pos) .next ru:=by
 refine⟨aA h1.len (aA hy.len hx.len),λA c s env hA hE R E Q hQ=> ?_⟩;refine uc (names:=[x,y]) (h1.tuple (by rw[<- h1.size];show 2<=1000;decide) A c s env hA hE R _ _ λc1 a vs s1 l1 R1 K1 hF a1=> ?_) rfl (scp hw hE.scope);have key:∀Q',(∀h',rv s1.heap.objs.size s1.heap h'->Q' vs.toList {s1 with heap:=h'})->wpAny (MM S.w) A (unpackItems (.ref a) vs.size ac) Q' E s1:=λQ' hq=>
  vy (prog:=pw) (w:=S.w) hA.hn ⟨_,R1.frozen _ _ hF,rfl,_,rfl⟩ hq
 rw[(by rw[<- bz,↑a1];rfl:vs.size=2)]at key;refine key _ λh' hk=> ?_;have R':Rel S c1 bw h':=R1.ext λb o e=>hk b o (cM (bW e)) e;generalize vs.toList=l at a1;have h9:=a1.i1;clear a1;let ⟨_,_,rfl,b1,a1⟩:=h9;have h9:=a1.i1;clear a1;let ⟨_,_,rfl,b2,a1⟩:=h9;obtain rfl:=a1.i0;show wpAny _ A (do holding _ (bindName env y _);holding _ (bindName env x _);pure ()) _ _ _;have rA:=hE.mono l1 h1.len;refine am (dH (si (hy.run A c1 {s1 with heap:=h'} env _ rA R' b2 _ _ λc2 s2 l2 R2 K2=> ?_)));refine am (dH (si (hx.run A c2 s2 env _ (rA.mono l2 hy.len) R2 (b1.mono l2 hy.len) _ _ λc3 s3 l3 R3 K3=> ?_)));exact aR (hQ c3 .next s3 ((l1.trans l2 h1.len).trans l3 (aA h1.len hy.len)) R3 (((K1.trans (.gF ..)).trans K2).trans K3) .next)
section
variable {lay:Lay}
def M6 (S:cz) (k:Nat) (lay:Lay) (e:Expr) (f:St->Option (CV×St)):Prop:=
 ∀p O st v cf,At lay p st O->f st=aa (v,cf)->∃bv,Ev S k O (lay.en p) e (v.av p.oi) bv/\At lay p cf bv/\kr lay p st cf O bv
noncomputable def lb (f:EF) (st:St):Option (CV×St):=(f st).map λv=>(v,st)
def M6.pure (h:cT S k lay e f):M6 S k lay e (lb f):=by intro p O st v cf bc hf;unfold lb at hf;let ⟨v',hv,e⟩:=ar.mp hf;let ⟨rfl,rfl⟩:=bH e;exact⟨O,h p O st _ bc hv,bc,.refl ..⟩
def EN (o:CO) (st:St):Option (CV×St):=aa (.ob ↑st.ob,alloc o st)
def M6.new (hg:lay.grow=true) (hv:∀(O:List AO) (ae:iv) (oi:NN),Ev S k O ae e (.fM ↑O) (O++[o.ao oi])):M6 S k lay e (EN o):=by intro p O st v cf bc hf;let ⟨rfl,rfl⟩:=bH (ag hf);let ⟨a,b,c⟩:=bc.alloc hg o;refine⟨_,?_,a,b⟩;exact((by show AV.fM (p.oi ↑st.ob)=_;rw[c]:CV.av p.oi (.ob ↑st.ob)= .fM ↑O))▸(hv O _ p.oi)
def M6.newList (hg:lay.grow=true):M6 S k lay (.List [] pos) (EN (.list [])):=M6.new hg λq q q=>Ev.newList
def M6.newDict (hg:lay.grow=true):M6 S k lay (.Dict [] [] pos) (EN (.dict [])):=M6.new hg λq q q=>Ev.newDict
def GO (S:cz) (k:Nat) (lay:Lay) (es:List Expr) (f:St->Option (List CV×St)):Prop:=
 ∀p O st vs cf,At lay p st O->f st=aa (vs,cf)->∃bv,vI S k (lay.en p) O es (vs.map (CV.av p.oi)) bv/\At lay p cf bv/\kr lay p st cf O bv
noncomputable def EO (st:St):Option (List CV×St):=aa ([],st)
noncomputable def ji (f:St->Option (CV×St)) (g:St->Option (List CV×St)) (st:St):Option (List CV×St):=(f st).bind λr=>(g r.2).map λq=>(r.1::q.1,q.2)
def GO.nil:GO S k lay [] EO:=by intro p O st vs cf bc hf;let ⟨rfl,rfl⟩:=bH (ag hf);exact⟨O,.nil,bc,.refl ..⟩
def GO.cons (h1:M6 S k lay e f) (h2:GO S k lay rest g) (hn:notStar e=true):GO S k lay (e::rest) (ji f g):=by intro p O st vs cf bc hf;unfold ji at hf;simp only[aG,ar]at hf;left;let ⟨⟨v,st1⟩,Ih,⟨ws,st2⟩,Sy,e⟩:=hf;let ⟨rfl,rfl⟩:=bH e;let ⟨lK,a1,b1,c1⟩:=h1 p O st _ _ bc Ih;let ⟨uV,a2,b2,c2⟩:=h2 p lK _ _ _ b1 Sy;right;exact⟨uV,.cons a1 a2 hn,b2,c1.trans c2 bc⟩
def Dz (S:cz) (k:Nat) (lay:Lay) (ts:List Expr) (tg:List CV->St->Option St):Prop:=
 ∀p O st ds cf,At lay p st O->tg ds st=aa cf->∃bv,th S k (lay.en p) O ts (ds.map (CV.av p.oi)) bv/\At lay p cf bv/\kr lay p st cf O bv
noncomputable def qZ:List CV->St->Option St
 | [],st=>aa st
 |_,_=>ac
noncomputable def fA (f:CV->St->Option St) (g:List CV->St->Option St):List CV->St->Option St
 |d::ds,st=>(f d st).bind (g ds)
 |_,_=>ac
def Dz.nil:Dz S k lay [] qZ:=by
 intro p O st ds cf bc hf;induction ds with
 |nil=>obtain rfl:=ag hf;exact⟨O,.nil,bc,.refl ..⟩
 |cons=>nomatch hf
def Dz.cons (h1:CB S k lay t f) (h2:Dz S k lay rest g) (hn:notStar t=true):Dz S k lay (t::rest) (fA f g):=by
 intro p O st ds cf bc hf;induction ds with
 |nil=>cases hf
 |cons d ds=>unfold fA at hf;simp only[aG]at hf;left;let ⟨st1,Ih,Sy⟩:=hf;let ⟨lK,a1,b1,c1,d1⟩:=h1 p O st _ st1 bc Ih;let ⟨uV,a2,b2,c2⟩:=h2 p lK st1 ds cf b1 Sy;right;exact⟨uV,.cons a1 a2 hn,b2,c1.trans c2 bc⟩
noncomputable def GP (g:St->Option (List CV×St)) (tg:List CV->St->Option St) (st:St):Option (pu×St):=((g st).bind λr=>tg r.1 r.2).map λcf=>(.next,cf)
def mw.ajk (h1:GO S k lay es g) (h2:Dz S k lay ts tg) (hsz: ↑es<=1000) (hw:(λenv:lY=>swappedStores [.Tuple ts n tZ] (.Tuple es m Ku) {env with scope:=lay.scope})=λq=>pure ac):
  mw S k lay (.Assign [.Tuple ts n tZ] (.Tuple es m Ku) pos) (GP g tg):=by
 intro p O st fl cf bc hf;unfold GP at hf;simp only[ar,aG]at hf;left;let ⟨st2,⟨⟨vs,st1⟩,hg,ht⟩,e⟩:=hf;let ⟨rfl,rfl⟩:=bH e;let ⟨lK,a1,b1,c1⟩:=h1 p O st _ _ bc hg;let ⟨uV,a2,b2,c2⟩:=h2 p lK _ _ _ b1 ht;right;exact⟨uV,iX.M5 a1 a2 hsz hw,b2,c1.trans c2 bc⟩
def P2 (i j:Nat) (g:St->Option (List CV×St)) (st:St):Option (pu×St):=(g st).bind λq=>match q.1 with
 | [u,v]=>aa (.next,ie i u (ie j v q.2))
 | []=>ac
 | [_]=>ac
 |_::_::_::_=>ac
def mw.swap (h1:GO S k lay es g) (hx:lay.nq i x=true) (hy:lay.nq j y=true)
  (hw:(λenv:lY=>swappedStores [.Tuple [.Name x px,.Name y py] n tZ] (.Tuple es m Ku) {env with scope:=lay.scope})=λz=>pure (aa [x,y])):mw S k lay (.Assign [.Tuple [.Name x px,.Name y py] n tZ] (.Tuple es m Ku) pos) (P2 i j g):=by
 intro p O st fl cf bc hf;refine a9 hf λq hg hf=> ?_;let ⟨l,st1⟩:=q;rcases l with _|⟨u,_|⟨v,_|_⟩⟩
 ·exact gq hf
 ·exact gq hf
 rotate_left
 ·exact gq hf
 left;let ⟨rfl,rfl⟩:=bH (ag hf);let ⟨lK,a1,b1,c1⟩:=h1 p O st _ _ bc hg;let ⟨uV,a2,b2,c2⟩:=b1.ie (S:=S) hy v;let ⟨σ3,a3,b3,c3⟩:=b2.ie (S:=S) hx u;right;exact⟨σ3,iX.I9 a1 a2 a3 hw,b3,(c1.trans c2 bc).trans c3 bc⟩
def aeq {t:Expr}:(λenv=>[(false,pI t env)])=λenv=>[(false,pI t env)]:=rfl
def iX.Uj (h1:Ev S k O ae gP d bw) (h2:Do S k bw ae t d bQ) (hs:swapsWithSole [t] gP pos.line=λq=>pure false)
  (hw:swappedStores [t] gP=λq=>pure ac) (ha:assignEach [t]=λenv=>[(false,pI t env)]):iX S k O ae (.Assign [t] gP pos) .next bQ:=by
 refine⟨aA h1.len h2.len,λA c s env hA hE R E Q hQ=> ?_⟩;rw[PyProof.Rows.exec_Assign];refine am (cV ?_);rw[hs];refine am (aR ?_);rw[if_neg ∅];refine am (h1.run A c s env hA hE R _ _ λc1 v1 s1 l1 R1 K1 a1=> ?_);rw[hw];refine am (aR ?_);rw[ha];show wpAny _ A (do assignAll v1 [pI t env];(pure Flow.next:z0 Cq)) _ _ s1;exact am (h2.run A c1 s1 env v1 hA (hE.mono l1 h1.len) R1 a1 _ _ λc2 s2 l2 R2 K2=>aR (hQ c2 .next s2 (l1.trans l2 h1.len) R2 (K1.trans K2) .next))
def mw.anf (h1:cT S k lay gP f) (h2:CB S k lay t tg) (hs:swapsWithSole [t] gP pos.line=λq=>pure false)
  (hw:swappedStores [t] gP=λq=>pure ac) (ha:assignEach [t]=λenv=>[(false,pI t env)]):mw S k lay (.Assign [t] gP pos) (bZ f tg):=by
 intro p O st fl cf bc hf;unfold bZ at hf;simp only[ar,aG]at hf;left;let ⟨st1,⟨v,hv,ht⟩,e⟩:=hf;let ⟨rfl,rfl⟩:=bH e;let ⟨bv,a,b,c,_⟩:=h2 p O st v _ bc ht;right;exact⟨bv,iX.Uj (h1 p O st v bc hv) a hs hw ha,b,c⟩
def w5 (f:EF) (st:St):Option CV:=((f st).bind CV.aI).map λa=> .pv (.int (-a))
def cT.neg (h:cT S k lay x f):cT S k lay (.UnaryOp .USub x pos) (w5 f):=by intro p O st v bc hf;let ⟨a,ha,rfl⟩:=ar.mp hf;refine a9 ha λq ha e1=> ?_;rw[CV.kI e1]at ha;refine⟨ab _,λA c s env hA hE R E Q hQ=> ?_⟩;refine Ct ((h p O st _ bc ha).run A c s env hA hE R _ _ λc1 v1 s1 l1 R1 K1 a1=> ?_);have Km:=a1.gi;let ⟨_,rfl⟩:=Km.kK;exact CF (hQ c1 _ _ l1 R1 (K1.trans (.toks ..)) (.pv (.int ..)))
def lA (f:EF) (st:St):Option CV:=(rO f st).map λl=> .pv (.lst l)
def cT.aab (h:lay.mh fl=true) (hg:(fl,ac)∈cg) (hb:(fl,aa (Ot "list"))∈ly)
  (h':lay.mh fr=true) (wD:(fr,ac)∈cg) (uU:(fr,aa (Ot "range"))∈ly) (hx:cT S k lay x g) (hs:notStar x=true):
  cT S k lay (.Call (.Name fl np) [.Call (.Name fr np') [x] [] jW] [] pos) (lA g):=by
 intro p O st v bc hf;let ⟨l,hl,rfl⟩:=ar.mp hf;refine a9 hl λn hn hl=>a9 hn λq hn e=> ?_;rw[CV.kI e]at hn;let ⟨Ms,rfl⟩:=dS hl;let ⟨m,rfl⟩:=Int.eq_ofNat_of_zero_le Ms.1;have hm:m<1000:=by exact abC Ms
 have ha:ck S k O (lay.en p) [x] [.pv (.int m)]:= .cons (hx p O st _ bc hn) .nil hs;refine⟨ab _,λA c s env hA hE R E Q hQ=> ?_⟩;refine cn ((Ev.PM h hg hb).run A c s env hA hE R _ _ λc1 v1 s1 l1 R1 K1 a1=> ?_);have e:=a1.dn;subst e;refine ec rfl ?_;have rA:=hE.mono l1 (ab _);refine lD rfl (bX ?_);refine cn ((Ev.PM h' wD uU).run A c1 s1 env hA rA R1 _ _ λc2 v2 s2 l2 R2 K2 a2=> ?_);have e:=a2.dn;subst e;refine ec (noStar ha jW env) ?_;refine ef ha _ jW A c2 s2 env hA (rA.mono l2 (ab _)) R2 _ _ λc3 vs s3 l3 R3 K3 a3=> ?_;have h9:=a3.i1;clear a3;let ⟨_,_,rfl,a3,b3⟩:=h9;obtain rfl:=b3.i0;have a3':=a3.gi;let ⟨t,rfl⟩:=a3'.kK;refine call_range_1 ?_;refine eA (iH ?_);let ⟨hsm,hsz⟩:=ze (n:=m) (abD hm);refine call_list_range (a:=0) (b:=m) (c:=1) (t:=s3.toks) (u:=t) (v:=s3.toks+1) (n:=m) hA.hn (aV _ rfl) hsm hsz (abE hm) λh2 tk qM c' hk hS hit=> ?_;have R4:Rel S c3 O (s3.heap.push {cls:= .type "range",data:= .fields #[.int 0 s3.toks,.int m t,.int 1 (s3.toks+1)]}):=R3.ext λb o e=>aJ _ e;refine hQ _ _ _ (((l1.trans l2 (ab _)).trans l3 (ab _)).trans (aM.dC (R4.oz (ab _))) (ab _)) (R4.put hk (ab _) hS) (((K1.trans K2).trans K3).trans (.heap ..)) (.pv (.lst (if_pos rfl) (by rw[hit.1];simp[iJ]) λi u d hu hd=> ?_));let ⟨tt,rfl⟩:=hit.2 i u hu;have hi:i<m:=by have:=getElem?_lt' hd;simpa[iJ]using this
 have:d= .int i:=by simp[iJ,hi]at hd;exact hd.symm
 subst this;rw[show(0:Int)+(i:Int)*1=i by exact aaX];exact .int ..
def pz (f:EF) (st:St):Option CV:=((f st).bind CV.aDc).bind λl=>(jQ (l.map (·.2))).bind λns=>(MX ns).map λm=> .pv (.int m)
def vJ {l:List PV}:∀ {ns:List Int},jQ l=aa ns->l=ns.map PV.int:=by
 induction l with
 |nil=>intro ns h;obtain rfl:=ag h;rfl
 |cons d l ih=>
  intro ns h;cases d with
  |int n=>let ⟨ns',h2,rfl⟩:=ar.mp h;rw[ih h2];rfl
  |_=>exact gq h
def cT.ahH (h:lay.mh fm=true) (hg:(fm,ac)∈cg) (hb:(fm,aa (Value.builtin "max"))∈ly) (hx:cT S k lay x f)
  (ik:∀env,attributeBase x "values" env (eval x env)=eval x env) (gC:(jz.endLine==jW.line)=true):cT S k lay (.Call (.Name fm np) [.Call (.Attribute x "values" jz) [] [] jW] [] pos) (pz f):=by
 intro p O st v bc hf;refine a9 hf λl hl hf=>a9 hl λq hl e1=>a9 hf λns tY hf=> ?_;rw[CV.kDc e1]at hl;let ⟨m,hm,rfl⟩:=ar.mp hf;have ZE:=vJ tY;refine⟨ab _,λA c s env hA hE R E Q hQ=> ?_⟩;refine cn ((Ev.PM h hg hb).run A c s env hA hE R _ _ λc1 v1 s1 l1 R1 K1 a1=> ?_);have e:=a1.dn;subst e;refine cX rfl ?_;have rA:=hE.mono l1 (ab _);refine lD rfl (bX ?_);refine eJ (ik env) rfl gC ((hx p O st _ bc hl).run A c1 s1 env hA rA R1 _ _ λc2 v2 s2 l2 R2 K2 a2=> ?_);let ⟨hT,tX⟩:=z9 bc (v:= .pv (.oQ l)) (T:= "dict") rfl R2 a2;refine⟨"dict", "dict.values",F.plainAttrs_dict,F.slot_dict_values,F.type_dict_values,hT,tX,cX rfl ?_⟩;refine ef .nil _ jW A c2 s2 env hA (rA.mono l2 (ab _)) R2 _ _ λc3 vs s3 l3 R3 K3 a3=> ?_;obtain rfl:=a3.i0;let ⟨a,es,ep,kvs,rfl,SG,ho,nd,hp⟩:=Tn.val.at R3 (a2.mono l3 (ab _));have FS:=hp.dictOf ho nd;refine call_meetsIn F.slot_dict_values (mJ FS).typeIs F.entry_dict_values (F.args_dict_values_1 _) (meets_dict_values (strKind pw S.w) a SG) ⟨⟨kvs,mJ FS⟩,?_⟩;refine eA (iH ?_);refine call_max_walk (wpAny_pyIter_values (knd:=strKind pw S.w) (kvs:=kvs) (ep:=ep) ⟨_,aV _ rfl,rfl,rfl⟩ (FS.keep λb o e=>aJ _ e) ?_);have kW:=bW ho;have cI: ↑kvs= ↑l:=by have:=congrArg eW hp.keys;simpa using this
 have Kt: ↑ns= ↑l:=by have:=congrArg eW ZE;simpa using this.symm
 have oS:0< ↑ns:=by
  rcases yX ↑ns with h|h
  ·rw[sE.mp h]at hm;nomatch hm
  ·exact h
 have agA:∀(i:Nat) (v:Value),(∃k,kvs[i]? =aa (k,v))->∃t,v=Value.int ((ns[i]?).getD 0) t:=by
  rintro i v ⟨kk,hk⟩;have hi:i< ↑l:=by exact cI▸(getElem?_lt' hk)
  have e1:(l.map (·.2))[i]? =aa (l[i]).2:=by rw[bO,aq hi];rfl
  rw[ZE,bO]at e1;simp only[ar]at e1;let ⟨n,hn,e2⟩:=e1;have vZ:dk S.w c3.F v (l[i]).2:=(hp.vals i _ _ hk (aq hi));rw[<- e2]at vZ;rw[hn];exact vZ.kK
 refine⟨_,_,_,_,_,_,_,rfl,Walks.dictValues (knd:=strKind pw S.w) (A:=A.in1) hA.hn _ a ?_ kvs ep,⟨⟨_,aV _ rfl,rfl,rfl⟩,?_⟩,?_,by exact abF oS cI Kt,CmpOf.ints_gt (λi=>(ns[i]?).getD 0) agA,λv h' tk hP hk=> ?_⟩
 ·rw[eT];exact cM (eH kW)
 ·exact(FS.keep λb o e=>aJ _ e).keep λb o e=>aJ _ e
 ·intro b uU;simp only[eT];rcases aH.mp uU with rfl|uU
  ·simp only[eT];exact eu _
  ·rw[aB]at uU;subst uU;exact eH (eH kW)
 ·let ⟨b1,b2⟩:=argBest_gt (λi=>(ns[i]?).getD 0) (↑kvs- 1);left;let ⟨t,rfl⟩:=agA _ _ hP;let ⟨q1,q2⟩:=Dq hm;let ⟨i,hi,H8⟩:=wH q1;have e1:(ns[i]?).getD 0<=(ns[argBest (λi j=>decide ((ns[i]?).getD 0> (ns[j]?).getD 0)) (↑kvs- 1)]?).getD 0:=b2 i (abG hi cI Kt);have SH:argBest (λi j=>decide ((ns[i]?).getD 0> (ns[j]?).getD 0)) (↑kvs- 1)< ↑ns:=by exact abH b1 Kt cI hi
  right;have e3:(ns[argBest (λi j=>decide ((ns[i]?).getD 0> (ns[j]?).getD 0)) (↑kvs- 1)]?).getD 0=m:=by rw[aq SH,zK];rw[aq SH,aq hi,zK,zK,H8]at e1;exact abI (q2 _ (AH SH)) e1
  rw[e3];refine hQ c3 _ _ ((l1.trans l2 (ab _)).trans l3 (ab _)) (R3.ext λb o e=>hk b o (λMo=> ?_) (aJ _ (aJ _ e))) (((K1.trans K2).trans K3).trans (.heap ..)) (.pv (.int ..));rw[aB]at Mo;subst Mo;have:=bW e;rw[eT]at this;exact absurd this (fC.mpr (mu _))
end
section
variable {lay:Lay}
def ki (S:cz) (lay:Lay) (names:List Str) (tg:List CV->St->Option St):Prop:=
 ∀p O st ds cf,At lay p st O->tg ds st=aa cf->∃bv,jX S (lay.en p) O (names.zip (ds.map (CV.av p.oi))) bv/\ ↑ds= ↑names/\At lay p cf bv/\kr lay p st cf O bv/\cf.ob=st.ob
def ki.nil:ki S lay [] qZ:=by
 intro p O st ds cf bc hf;induction ds with
 |nil=>obtain rfl:=ag hf;exact⟨O,.nil,rfl,bc,.refl ..,rfl⟩
 |cons=>nomatch hf
def ki.step
  (h1:∀p O st v cf,At lay p st O->f v st=aa cf->∃bv,j4 S O (lay.en p) x (v.av p.oi) bv/\At lay p cf bv/\kr lay p st cf O bv/\cf.ob=st.ob) (h2:ki S lay names g):ki S lay (x::names) (fA f g):=by
 intro p O st ds cf bc hf;induction ds with
 |nil=>nomatch hf
 |cons d ds=>unfold fA at hf;simp only[aG]at hf;left;let ⟨st1,Ih,Sy⟩:=hf;let ⟨lK,a1,b1,c1,d1⟩:=h1 p O st _ st1 bc Ih;let ⟨uV,a2,l2,b2,c2,d2⟩:=h2 p lK st1 ds cf b1 Sy;right;exact⟨uV,.cons a1 a2,by simp[l2],b2,c1.trans c2 bc,d2.trans d1⟩
def ki.loc (h:lay.nq i x=true) (h2:ki S lay names g):ki S lay (x::names) (fA (bf i) g):=
 ki.step (λp O st v cf bc hf=>by obtain rfl:=ag hf;let ⟨bv,a,b,c⟩:=bc.ie (S:=S) h v;exact⟨bv,a,b,c,rfl⟩) h2
def ki.nr (h:lay.GG i x=true) (h2:ki S lay names g):ki S lay (x::names) (fA (jL i) g):=
 ki.step (λp O st v cf bc hf=>by obtain rfl:=ag hf;let ⟨bv,a,b,c⟩:=bc.rN (S:=S) h v;exact⟨bv,a,b,c,rfl⟩) h2
end
def eV (r:eg) (loc:List Str) (own:Sn):Lay:= {scope:=r.scope,loc:=loc,nr:=own.map (·.1),own:= ↑own,grow:=true,code:=aa r.code}
noncomputable def DA (loc:List Str) (own:Sn) (ob:List CO):St:= {lv:=loc.map λq=>ac,cv:=own.map λq=>ac,ob:=ob}
def Bj (loc:List Str) (own:Sn):St:=DA loc own []
noncomputable def Bk (O:List AO) (own:Sn) (oi:NN):IF:= {fi:= ↑O,ci:=own.map λq=> ↑O+1+q.2,oi:=oi}
def EP (h:n∈(Bk O own oi).ci): ↑O<n:=by let ⟨q,_,e⟩:=aQ.mp h;exact abX e
def pY.en (F:pY r loc own):(eV r loc own).en (Bk O own oi)=gB r ↑O:=by
 have h:=F.eqn;unfold Lay.en gB eV;refine iv.eq ?_;rw[qH,h,bu];show(own.map (·.1)).zip (own.map λq=> ↑O+1+q.2)=_;clear F h;induction own with
 |nil=>rfl
 |cons a l ih=>simp only[bx,qA];rw[ih]
def pY.at (F:pY r loc own) (h1:∀(j:Nat) (o:CO),ob[j]? =aa o->O[oi j]? =aa (o.ao oi)) (h2:∀i j,i< ↑ob->j< ↑ob->oi i=oi j->i=j) (h3:∀j,oi (↑ob+j)= ↑O+1+fg r.scope.names+j):
  At (eV r loc own) (Bk O own oi) (DA loc own ob) (ent O r loc):=by
 have kW:∀j,j< ↑ob->oi j< ↑O:=λj hj=>getElem?_lt' (h1 j _ (aq hj));refine⟨?_,by simp[DA,eV],by simp[DA,eV],by simp[eV,Bk],λi v hv=> ?_,λj o ho=>gA (h1 j o ho),λhm=>lU _ (EP hm),λj hj e=>aa7 (kW j hj) e,λj hj hm=>Pe (kW j hj) (EP hm),?_,h2,λz j=>by rw[EM];exact h3 j⟩
 ·unfold ent;show(O++_)[↑O]? =_;rw[aE (ab _),dc];show aa (AO.ns (loc.map λx=>(x,ac)))=aa (AO.ns (loc.zip (Ua oi (loc.map λz=>ac))));congr 2;clear F;induction loc with
  |nil=>rfl
  |cons a l ih=>simpa using ih
 ·have vZ:(own.map λz=>(ac:OV))[i]? =aa v:=hv;rw[bO]at vZ;simp only[ar]at vZ;let ⟨q,hq,rfl⟩:=vZ;refine⟨↑O+1+q.2,?_,?_⟩
  ·show(own.map λq=> ↑O+1+q.2)[i]? =_;rw[bO,hq];rfl
  ·have Ec:=F.lt _ (bo hq);unfold ent;rw[aE (abx),show ↑O+1+q.2- ↑O=q.2+1 by exact aby,il,IA,if_pos Ec];rfl
 ·show(own.map λq=> ↑O+1+q.2).Nodup;rw[show(own.map λq=> ↑O+1+q.2)=(own.map (·.2)).map (↑O+1+ ·) by rw[bD];rfl];exact gX _ (λa b Mp=>by exact abz Mp) F.ndO
def kr.pre (hs:kr (eV r loc own) (Bk O own oi) st cf (ent O r loc) bv) (hx:x< ↑O) (hj:∀j,j< ↑st.ob->x≠oi j):bv[x]? =O[x]? :=by rw[hs.out x (by rw[EM];exact abB hx) (cM hx) (λj q e=>Pe hx (EP (bo e))) hj];unfold ent;exact aW hx
def W4 (O:List AO) (r:eg) (j:Nat):Nat:= ↑O+1+fg r.scope.names+j
def pY.at0 (F:pY r loc own):At (eV r loc own) (Bk O own (W4 O r)) (Bj loc own) (ent O r loc):=
 F.at (λj o h=>gq h) (λi j h=>absurd h (iy _)) λj=>abA
def P4 (h:(O++τ)[W4 O r j]? =aa x):τ[1+fg r.scope.names+j]? =aa x:=by have e:W4 O r j= ↑O+(1+fg r.scope.names+j):=Wa;rw[e,aE (bh ..),bP]at h;exact h
def Gs.ob0 (hv:obV st.ob[j]? =aa d) (bc:At lay (Bk O own (W4 O r)) st (O++τ)):Gs τ ↑O (CV.av (W4 O r) (.ob j)) (.pv d):=by
 rw[(by show AV.fM (↑O+1+fg r.scope.names+j)=_;congr 1;exact Wa:CV.av (W4 O r) (.ob j)= .fM (↑O+(1+fg r.scope.names+j)))];cases e:st.ob[j]? with
 |none=>rw[e]at hv;exact gq hv
 |some o=>
  rw[e]at hv;induction o with
  |list l=>obtain rfl:=ag hv;exact .list (P4 (bc.obs j _ e))
  |dict l=>obtain rfl:=ag hv;exact .dict (P4 (bc.obs j _ e))
  |_=>exact gq hv
def Gs.ajl (h:GN st fl=aa d) (bc:At lay (Bk O own (W4 O r)) st (O++τ)):Gs τ ↑O (fl.af (W4 O r)).val (.pv d):=by
 induction fl with
 |next=>obtain rfl:=ag h;exact .pv
 |ret v=>
  induction v with
  |pv d'=>obtain rfl:=ag h;exact .pv
  |inst j=>exact gq h
  |ob j=>exact .ob0 h bc
def EQ (loc:List Str) (own:Sn) (tg:List CV->St->Option St) (F:St->Option (pu×St)) (ds:List PV):Option PV:=
 (tg (ds.map .pv) (Bj loc own)).bind λst=>(F st).bind λr=>GN r.2 r.1
def Ja (oi:NN) (ds:List PV):(ds.map CV.pv).map (CV.av oi)=ds.map AV.pv:=by rw[bD];rfl
def jH.of {r:eg} {names:List Str} {ds:List PV} (hl: ↑(ds.map CV.pv)= ↑names) (gr:∀pm (vs:Vs),↑vs= ↑names->bindArgs (r.fd pm) ⟨vs,[]⟩=pure (names.zip vs)) (pm:Value):jH S O (r.fd pm) (ds.map AV.pv) [] (names.zip (ds.map AV.pv)):=by rw[aw]at hl;exact jH.plain (by rw[aw,hl]) λvs hv=>gr pm vs (by rw[hv,aw,hl])
def hV.cells (F:pY r loc own) (VG:ki S (eV r loc own) names tg) (dX:j5 S k (eV r loc own) r.body G)
  (gr:∀pm (vs:Vs),↑vs= ↑names->bindArgs (r.fd pm) ⟨vs,[]⟩=pure (names.zip vs)):hV S (k+1) r (EQ loc own tg G):=by
 intro O ds d hd;refine a9 hd λst1 ZF hd=> ?_;refine a9 hd λ⟨fl,cf⟩ hF FU=> ?_;let ⟨lK,a1,l1,b1,c1,_⟩:=VG _ _ _ _ st1 F.at0 ZF;let ⟨bv,a,b,c⟩:=dX _ _ _ fl cf b1 hF;let ⟨τ,rfl⟩:=rP λi hi=>(c1.trans c F.at0).pre hi λj hj=>absurd hj (iy _);rw[F.en]at a a1;rw[Ja]at a1;exact dy.Dy F (λpm=>(jH.of l1 gr pm).B) a1 a rfl (λi x h=> .inl h) (.ajl FU b)
noncomputable def Uk:Nat->List Str->List CV->St->Option St
 |_,[]=>qZ
 |i,_::l=>fA (bf i) (Uk (i+1) l)
def ki.all {r:eg} (others:List Str) (names:List Str):∀(pre:List Str),(∀x∈names,r.scope.names.lookup x=aa .local/\x≠ "__debug__")->ki S (eV r (pre++(names++others)) []) names (Uk ↑pre names):=by
 induction names with
 |nil=>exact λq q=> .nil
 |cons x names ih=>
  intro pre h;refine .loc ?_ ?_
  ·unfold Lay.nq;rw[show(eV r (pre++(x::names++others)) []).scope=r.scope from rfl,(h x (ay ..)).1,show(eV r (pre++(x::names++others)) []).loc=pre++(x::names++others) from rfl,aE (ab _),dc];simp[(h x (ay ..)).2]
  ·have:=ih (pre++[x]) λy hy=>h y (aK _ hy);rw[bF,aj]at this;exact this
def Ul (l:List (Option CV)) (ds:List PV):∀(names:List Str) (pre:List (Option CV)),↑ds= ↑names->Uk ↑pre names (ds.map .pv) ⟨pre++(names.map (λq=>ac)++l),[],[]⟩=aa ⟨pre++(ds.map (λd=> ~~~d)++l),[],[]⟩:=by
 induction ds with
 |nil=>
  intro names pre h;induction names with
  |nil=>rfl
  |cons=>cases h
 |cons d ds ih=>
  intro names pre h;induction names with
  |nil=>cases h
  |cons x names=>have:=ih names (pre++[~~~d]) (lZ h);rw[aj]at this;show Uk (↑pre+1) names _ ⟨(pre++(ac::_)).set ↑pre (~~~d),[],[]⟩=_;rw[j7 _ _ (ab _),dc];simpa using this
def hV.plain (F:pY r (names++others) []) (dX:j5 S k (nM r names others) r.body G)
  (gr:∀pm (vs:Vs),↑vs= ↑names->bindArgs (r.fd pm) ⟨vs,[]⟩=pure (names.zip vs)) (SI:(names.all λx=>r.scope.names.lookup x==aa .local&& !(x==("__debug__" :Str)))=true):
  hV S (k+1) r (mL names others G):=by
 intro O ds d hd;unfold mL at hd;by_cases hl: ↑ds= ↑names
 case neg=>rw[if_neg hl]at hd;exact gq hd
 rw[if_pos hl]at hd;refine hV.cells F (.all others names [] λx hx=> ?_) dX gr O ds d ?_
 ·have:=fH.mp SI x hx;simpa using this
 ·unfold EQ;rw[show Bj (names++others) []=⟨[]++(names.map (λq=>ac)++others.map λq=>ac),[],[]⟩ by unfold Bj DA;rw[bI];rfl,Ul _ ds names [] hl];exact hd
def iU.CA (h:iU x d m m') (l):iU x d (l++m) (l++m'):=by
 induction l with
 |nil=>exact h
 |cons _ _ ih=>exact .there ih
def jX.locs {sc:iv} {O:List AO} (Ks:sc.fi= ↑O) (bs:List (Str×AV)):∀(m l:List (Str×Option AV)),(∀x∈bs.map (·.1),sc.scope.names.lookup x=aa .local)->
  jX S sc (O++[.ns (m++(bs.map (λp=>(p.1,ac))++l))]) bs (O++[.ns (m++(bs.map (λp=>(p.1,aa p.2))++l))]):=by
 induction bs with
 |nil=>intro m l _;exact .nil
 |cons q9 bs ih=>
  intro m l h;obtain(⟨x,d⟩):=q9;exact .cons (bw:=O++[.ns (m++((x,aa d)::(bs.map (λp=>(p.1,ac))++l)))]) (j4.loc (by rw[Ks,aE (ab _),dc];rfl) (h x (ay ..)) (iU.here.CA m) (by rw[Ks,j7 _ _ (ab _),dc];rfl)) (by
   have:=ih (m++[(x,aa d)]) l λy hy=>h y (aK _ hy);rw[bF,bF]at this;exact this)
def dy.def (F:pY r (binds.map (·.1)++others) [])
  (gr:∀pm,jH S O (r.fd pm) args kw binds) (SI:∀x∈binds.map (·.1),r.scope.names.lookup x=aa .local) (hn:fg r.scope.names=0)
  (dX:cH S k (O++[.ns (binds.map (λp=>(p.1,aa p.2))++others.map λx=>(x,ac))]) (r.env (↑O+0)) r.body f (bv++τ))
  (hl: ↑bv= ↑O) (H5:∀(i:Nat) (x:AO),bv[i]? =aa x->O[i]? =aa x\/x.flat=true) (hz:Gs τ ↑bv f.val d):
  dy S (k+1) O (.pv (.con (.ref r.addr))) args kw d bv:=by
 have e:gB r ↑O=r.env (↑O+0):=by unfold gB eg.env;rw[qH,F.eqn];rfl
 have hs:=jX.locs (S:=S) (sc:=r.env (↑O+0)) (O:=O) rfl binds [] (others.map λx=>(x,ac)) SI;refine .Dy F (λpm=>(gr pm).B) ?_ (e▸dX) hl H5 hz;rw[e];unfold ent;rw[hn,bI,bD];exact hs
section
variable {M:Model} {A:cS} {R:GenEnd} {Y:Protocol} {n:Nat} {gE:bb} {c:Code} {fs:List Frame} {s:bb} {env:lY}
 {K:Cq->z0 Fin} {H:Value->z0 Fin} {gd:Bool->Bool} {lv:List Value->List Value}
def w6 (h:wpAny M (A.over c fs) (exec st env) (λf s'=>FX M A R Y n gE c (K f) fs s') (λx s'=>FX M A R Y n gE c (H x) fs s') s):
  FX M A R Y n gE c ((exec st env).wrap K H gd lv) fs s:=yS h
def Jb
  (h:wpAny M (A.over c fs) (isTrue test env (eval test env)) (λb s'=>FX M A R Y n gE c ((if b=true then execs body env else execs orelse env).wrap K H gd lv) fs s') (λx s'=>FX M A R Y n gE c (H x) fs s') s):
  FX M A R Y n gE c ((exec (.If test body orelse pos) env).wrap K H gd lv) fs s:=by
 show FX M A R Y n gE c (.at pos λq=>((isTrue test env (eval test env)) >>= λb=>if b=true then execs body env else execs orelse env).wrap K H gd lv) fs s;refine seg_at ?_;rw[jm,lS];exact yS h
def Um (hf:∀x,foldedSetIterable kA env x=pure x)
  (h:wpAny M (A.over c fs) (eval kA env) (λx eD=>wpAny M (A.over c fs) (pyIter x) (λit rr=>∀p,FX M A R Y n gE (.forLoop cE it body orelse env) (M.den (.forLoop cE it body orelse env))
   (.ret (λr=>((match r with| .ok f=>(.pure f:z0 Cq)| .error e=> .raise e).onRaise λ(x:Value)=>do
    if (<- field x 1)==qh then unsupported "frame.own-activation:exception-without-traceback"
    setFlight x env.frame).wrap K H gd lv) ac (gd false) (lv []) c p []::fs) rr) (λx s'=>FX M A R Y n gE c (H x) fs s') eD) (λx s'=>FX M A R Y n gE c (H x) fs s') s):
  FX M A R Y n gE c ((exec (.For cE kA body orelse pos) env).wrap K H gd lv) fs s:=by
 show FX M A R Y n gE c (.at pos λq=>(eval kA env >>= λv=>(foldedSetIterable kA env v >>= λx=>(standAt kA.pos >>= λq=>(holding [x] (pyIter x) >>= λit=>runOwn (.forLoop cE it body orelse env) env)))).wrap K H gd lv) fs s;refine seg_at ?_;rw[jm,lS];refine yS (gb h (λx eD Ia=> ?_) λq q x=>x);rw[hf];show FX M A R Y n gE c (.at kA.pos λq=>(holding [x] (pyIter x) >>= λit=>runOwn (.forLoop cE it body orelse env) env).wrap K H gd lv) fs eD;refine seg_at ?_;rw[jm,lS];refine yS (dH (gb Ia (λit rr Ib=> ?_) λq q x=>x));exact seg_call Ib
end
section
variable {prog:Program} {w:jE} {A:cS} {R:GenEnd} {Y:Protocol} {n:Nat} {gE:bb} {fs:List Frame} {s:bb} {env:lY}
def zh
  (h:wpAny (model prog w) (A.over (.forLoop cE it body orelse env) fs) (pyNext it) (λo s'=>match o with
    |none=>FX (model prog w) A R Y n gE (.forLoop cE it body orelse env) (.pure (.again (.block orelse env))) fs s'
    |some v=>wpAny (model prog w) (A.over (.forLoop cE it body orelse env) fs) (letOwnedTupleGo cE it v) (λq eD=>wpAny (model prog w) (A.over (.forLoop cE it body orelse env) fs) (assign cE env v) (λq rr=>
     FX (model prog w) A R Y n gE (.forLoop cE it body orelse env) ((execs body env).wrap (λf=>match f with
      | .next| .cont=> .pure (.again (.forLoop cE it body orelse env))
      | .brk=> .pure (.done .next)
      | .ret v=> .pure (.done (.ret v))) (λe=>(do noteFrame e env;theTreesLotGoes e:z0 Unit).wrap (λq=> .raise e) .raise id id) id id) fs rr) (λq q=>False) eD) (λq q=>False) s') (λq q=>False) s):
  FX (model prog w) A R Y n gE (.forLoop cE it body orelse env) ((model prog w).den (.forLoop cE it body orelse env)) fs s:=by
 show FX _ A R Y n gE _ ((forTurn cE it body orelse env).onRaise (λx=>do noteFrame x env;theTreesLotGoes x)) fs s;unfold forTurn;rw[Sem.onRaise_eq_wrap];show FX _ A R Y n gE _ (.at cE.pos λq=>((pyNext it).onRaise (λq=>standAt {cE.pos with line:=0}) >>= λo=>_).wrap _ _ _ _) fs s;refine seg_at ?_;rw[jm,lS];refine yS (kC (gb h (λo s' ho=> ?_) λq q x=>x.elim));induction o with
 |none=>exact ho
 |some v=>
  show FX _ A R Y n gE _ ((letOwnedTupleGo cE it v >>= λq=>(assign cE env v >>= λq=>(execs body env >>= λf=>_))).wrap _ _ _ _) fs s';rw[jm,lS];refine yS (gb ho (λq eD Ia=> ?_) λq q x=>x.elim);rw[jm,lS];refine yS (gb Ia (λq rr Ib=> ?_) λq q x=>x.elim);rw[jm,lS];rw[Sem.wrap_congr (execs body env) _ _ (K':=λf=>match f with
      | .next| .cont=> .pure (.again (.forLoop cE it body orelse env))
      | .brk=> .pure (.done .next)
      | .ret v=> .pure (.done (.ret v))) (H':=(λe=>(do noteFrame e env;theTreesLotGoes e:z0 Unit).wrap (λq=> .raise e) .raise id id))
    (λf=>by cases f<;>rfl)
    (λe=>by first|exact VU _ _|(show(do noteFrame e env;theTreesLotGoes e:z0 Unit).bind (λq=> .raise e)=_;rw[VU]))]
  exact Ib
def M7 (h:FX (model prog w) A R Y n gE (.block [] env) (.pure (.done .next)) fs s):FX (model prog w) A R Y n gE (.block [] env) ((model prog w).den (.block [] env)) fs s:=h
end
noncomputable abbrev w7:Str:=ah "addr"
noncomputable abbrev oF:Str:=ah "pos"
noncomputable abbrev oG:Str:=ah "escape"
noncomputable abbrev Bl:Str:=ah "ch"
noncomputable abbrev Ad:Str:=ah "\\"
noncomputable def iY:Nat->Bool->List Nat->List (Nat×Str)
 |i,e,[]=>if e then [(i- 1,Ad)] else []
 |i,e,c::r=>if e then(i,Ad++⟨#[c]⟩)::iY (i+1) false r else if ((⟨#[c]⟩:Str)==Ad) then iY (i+1) true r else(i,⟨#[c]⟩)::iY (i+1) false r
structure GE (env:lY) (L:Addr):Prop where
 kind:env.scope.kind= .function
 kp:env.kindOf oF=aa .local
 ke:env.kindOf oG=aa .local
 kc:env.kindOf Bl=aa .local
 ka:env.kindOf w7=aa .local
 loc:env.locals=L
 co:env.scope.isCoroutine=false
def GE.inter (h:GE env L):interactive env=false:=by unfold interactive;rw[h.kind];rfl
def GE.plain (h:GE env L):(env.scope.kind== .class||(env.scope.kind== .module&&env.locals !=env.globals))=false:=by rw[h.kind];rfl
structure n7 (L E T:Addr) (s s':bb):Prop where
 os:s'.os=s.os
 gens:s'.gens=s.gens
 h:∀b o,b≠L->b≠E->b≠T->s.heap.get? b=aa o->s'.heap.get? b=aa o
def n7.refl (L E T:Addr) (s:bb):n7 L E T s s:=⟨rfl,rfl,λq q q q q h=>h⟩
def n7.trans (h:n7 L E T a b) (k:n7 L E T b c):n7 L E T a c:=⟨k.os.trans h.os,k.gens.trans h.gens,λx o h1 h2 h3 e=>k.h x o h1 h2 h3 (h.h x o h1 h2 h3 e)⟩
def n7.ext (k:∀b o,b≠L->b≠E->b≠T->s.heap.get? b=aa o->h'.get? b=aa o):n7 L E T s {s with heap:=h',toks:=tk}:=⟨rfl,rfl,k⟩
def Yq (L:Addr) (i:Nat) (e:Bool) (h:iR):Prop:=∃m,h.Ns L m/\m oG=aa (.bool e)/\(e=true->1<=i/\∃tk,m oF=aa (.int ((i- 1:Nat):Int) tk))
structure GSt (x:Str) (t:Dd) (L E T:Addr) (i:Nat) (e:Bool) (h:iR):Prop where
 ns:Yq L i e h
 en:∃old,IsEnum h E T i old
 it:h.IsStrIter T "str_ascii_iterator" x t i
def Ae (L E T:Addr) (h h':iR):Prop:=∀b,b=L\/b=E\/b=T->∀o,h.get? b=aa o->h'.get? b=aa o
def Yq.same (x:Yq L i e h) (k:∀o,h.get? L=aa o->h'.get? L=aa o):Yq L i e h':=xe12 (x) λm hn r=>⟨m,hn.at' k,r⟩
def YG (x:Str) (t:Dd) (L E T:Addr):Protocol:=λn gE v eD kap=>
 ∃(p:Nat) (y:Str) (t1 t2:Dd) (tp:Addr) (l:List (Nat×Str)) (pre:List (Nat×Str)),v= .ref tp/\eD.heap.get? tp=aa {cls:= .type "tuple",data:= .seq #[.int p t1,.str y t2]}/\gE.heap.get? tp=ac/\n7 L E T gE eD/\
  pre++(p,y)::l=iY 0 false x.cps.toList/\n= ↑l/\tp≠L/\tp≠E/\tp≠T/\
  (∀b,b=L\/b=E\/b=T->∃o,eD.heap.get? b=aa o)/\∀Eg,Ae L E T eD.heap Eg.heap->kap (.send .none) Eg
def RG (L E T:Addr):GenEnd:=λn gE r eD=>r= .ok (.ret .none)/\n=0/\n7 L E T gE eD
section
variable {A:cS} {ya:VS} {s:bb} {env:lY} {L E T:Addr}
def qp (hE:GE env L) (hk:env.kindOf x=aa .local) (hn:s.heap.Ns L m) (hv:m x=aa v) (hd:(x==("__debug__" :Str))=false) (h:Q v s):
  wpAny (MM w) A (eval (.Name x pos) env) Q ya s:=Co (qg hE.kind hk (hE.loc▸hn) hv h) hd
def LA (hE:GE env L) (hk:env.kindOf x=aa .local) (hn:s.heap.Ns L m) (hv:m x=aa (.bool b)) (hd:(x==("__debug__" :Str))=false) (h:Q b s):
  wpAny (MM w) A (isTrue (.Name x pos) env (eval (.Name x pos) env)) Q ya s:=sf (qp hE hk hn hv hd (gf h)) rfl
def ti (hE:GE env L) (hk:env.kindOf x=aa .local) (hn:s.heap.Ns L m)
  (h:∀h',h'.Ns L (λy=>if y=x then aa v else m y)->gH L s.heap h'->Q () {s with heap:=h',toks:=s.toks+1}):wpAny (MM w) A (storeName env x v) Q ya s:=
 yb hk (hE.loc▸hn) (λh' a b=>h h' (hE.loc▸a) (hE.loc▸b)) hE.plain
def DB (hE:GE env L) (hg:Yq L i e s.heap) (hb:b=true->1<=i/\∃m tk,s.heap.Ns L m/\m oF=aa (.int ((i- 1:Nat):Int) tk))
  (h:∀h' tk,Yq L i b h'->gH L s.heap h'->Q .next {s with heap:=h',toks:=tk}):wpAny (MM w) A (exec (.Assign [.Name oG jW] (.Constant (.bool b) n FP) pos) env) Q ya s:=by
 left;let ⟨m,hn,h1,h2⟩:=hg;right;refine kY (zY (ti hE hE.ke hn λh' vt hs=>h h' _ ⟨_,vt,if_pos rfl,λSJ=> ?_⟩ hs)) rfl;left;let ⟨q1,m',tk,Mo,hp⟩:=hb SJ;right;refine⟨q1,tk,?_⟩;rw[if_neg ∅];rw[hn.agree Mo];exact hp
end
section
variable {A:cS} {s gE:bb} {env:lY} {L E T:Addr} {x:Str} {t:Dd} {w:jE} {c:Code} {fs:List Frame} {K:Cq->z0 Fin} {H:Value->z0 Fin} {gd:Bool->Bool} {lv:List Value->List Value}
def P5 (i c:Nat) (r:Nz):iY i true (c::r)=(i,Ad++⟨#[c]⟩)::iY (i+1) false r:=rfl
def ER (i c:Nat) (r:Nz):iY i false (c::r)=if ((⟨#[c]⟩:Str)==Ad)=true then iY (i+1) true r else(i,⟨#[c]⟩)::iY (i+1) false r:=rfl
def vK {l pre:List (Nat×Str)} (hE:GE env L) (Oh:L≠E) (Mt:L≠T) (OO:E≠T)
  (hn1:notStar e1=true) (Xr:notStar e2=true) (jM:pre++(p,y)::l=iY 0 false x.cps.toList) (Xs:n7 L E T gE s) (Il:∀b,b=L\/b=E\/b=T->b<s.heap.objs.size) (ZG:∀b,b=L\/b=E\/b=T->∃o,s.heap.get? b=aa o)
  (h1:∀(Q:VS) ya,(∀tk k,Q (.int p tk) {s with toks:=k})->wpAny (MM w) (A.over c fs) (eval e1 env) Q ya s)
  (h2:∀k (Q:VS) ya,(∀tk k',Q (.str y tk) {s with toks:=k'})->wpAny (MM w) (A.over c fs) (eval e2 env) Q ya {s with toks:=k})
  (hfs:splitAtGen fs=ac) (hgd:gd false=false) (hfg:fs.any XG=false)
  (hK:∀Eg,Ae L E T s.heap Eg.heap->FX (MM w) A (RG L E T) (YG x t L E T) ↑l Eg c (K .next) fs Eg):
  FX (MM w) A (RG L E T) (YG x t L E T) (↑l+1) gE c ((exec (.Expr (.Yield (aa (.Tuple [e1,e2] tn tZ)) anT) pos) env).wrap K H gd lv) fs s:=by
 refine seg_Expr_Yield hfs hgd hfg ?_ hE.co hE.inter;refine sN ?_;rw[gz hn1,gz Xr];refine bX (h1 _ _ λt1 k1=>bX (h2 k1 _ _ λt2 k2=>eA ⟨by show 2<=sizeLine;decide,?_⟩));intro kap SK;have yO:∀b,b=L\/b=E\/b=T->s.heap.objs.size≠b:=λb hb e=>absurd (e▸Il b hb) (lU _);refine⟨p,y,t1,t2,s.heap.objs.size,l,pre,rfl,aV _ rfl,?_,Xs.trans (.ext λb o q q q e=>aJ _ e),jM,rfl,yO L (.inl rfl),yO E (.inr (.inl rfl)),yO T (.inr (.inr rfl)),λb hb=>(ZG b hb).imp λo ho=>aJ _ ho,λEg zX=> ?_⟩
 ·cases e:gE.heap.get? s.heap.objs.size with
  |none=>rfl
  |some o=>have:=Xs.h _ _ (yO L (.inl rfl)) (yO E (.inr (.inl rfl))) (yO T (.inr (.inr rfl))) e;exact absurd (bW this) (lU _)
 ·exact SK .none Eg (hK Eg λb hb o e=>zX b hb o (aJ _ e))
def GIn (L:Addr) (i:Nat) (e:Bool) (ch:Nat) (h:iR):Prop:=∃m,h.Ns L m/\m oG=aa (.bool e)/\(∃tk,m oF=aa (.int (i:Int) tk))/\∃tk,m Bl=aa (.str ⟨#[ch]⟩ tk)
structure M8 (x:Str) (t:Dd) (L E T:Addr) (i:Nat) (e:Bool) (ch:Nat) (h:iR):Prop where
 ns:GIn L i e ch h
 en:∃old,IsEnum h E T ((i+1:Nat):Int) old
 it:h.IsStrIter T "str_ascii_iterator" x t (i+1)
def M8.same (g:M8 x t L E T i e ch h) (k:Ae L E T h h'):M8 x t L E T i e ch h':=
 ⟨xe12 (g.ns) λm hn r=>⟨m,hn.at' (k L (.inl rfl)),r⟩,xe11 (g.en) λold h1=>⟨old,k E (.inr (.inl rfl)) _ h1⟩,xe12 (g.it) λo ho r=>⟨o,k T (.inr (.inr rfl)) _ ho,r⟩⟩
def M8.live (g:M8 x t L E T i e ch h):∀b,b=L\/b=E\/b=T->∃o,h.get? b=aa o:=by
 intro b hb;rcases hb with rfl|rfl|rfl
 ·let ⟨m,⟨o,_,_,ho,_⟩,_⟩:=g.ns;exact⟨o,ho⟩
 ·let ⟨old,h⟩:=g.en;exact⟨_,h⟩
 ·let ⟨o,ho,_⟩:=g.it;exact⟨o,ho⟩
def GSt.live (g:GSt x t L E T i e h):∀b,b=L\/b=E\/b=T->∃o,h.get? b=aa o:=by
 intro b hb;rcases hb with rfl|rfl|rfl
 ·let ⟨m,⟨o,_,_,ho,_⟩,_⟩:=g.ns;exact⟨o,ho⟩
 ·let ⟨old,h⟩:=g.en;exact⟨_,h⟩
 ·let ⟨o,ho,_⟩:=g.it;exact⟨o,ho⟩
def GQ (hE:GE env L) (Oh:L≠E) (Mt:L≠T) (OO:E≠T)
  (hfs:splitAtGen fs=ac) (hgd:gd false=false) (hfg:fs.any XG=false)
  (jM:pre++iY i e (ch::r)=iY 0 false x.cps.toList) (hg:M8 x t L E T i e ch s.heap) (hk:n7 L E T gE s)
  (hK:∀e' Im zF s',Im++iY (i+1) e' r=iY 0 false x.cps.toList->GSt x t L E T (i+1) e' s'.heap->n7 L E T zF s'->FX (MM w) A (RG L E T) (YG x t L E T) ↑(iY (i+1) e' r) zF c (K .next) fs s'):
  FX (MM w) A (RG L E T) (YG x t L E T) ↑(iY i e (ch::r)) gE c ((execs [.If (.Name oG d0) [.Expr (.Yield (aa (.Tuple [.Name oF d1,.BinOp (.Constant (.str Ad) n2 d2) .Add (.Name Bl d3) d4] m2 d5)) d6) d7,.Assign [.Name oG d8] (.Constant (.bool false) n3 d9) d10]
   [.If (.Compare (.Name Bl e0) [.Eq] [.Constant (.str Ad) n4 e1] e2) [.Assign [.Name oG e3] (.Constant (.bool true) n5 e4) e5] [.Expr (.Yield (aa (.Tuple [.Name oF e6,.Name Bl e7] m3 e8)) e9) ZH] ZI] d11] env).wrap K H gd lv) fs s:=by
 left;let ⟨m,hn,hme,⟨tp,hmp⟩,⟨tc,hmc⟩⟩:=hg.ns;have Il:=hg.live;have kW:∀b,b=L\/b=E\/b=T->b<s.heap.objs.size:=λb hb=>xe11 (Il b hb) λo ho=>bW ho;right;refine gT (Jb (LA hE hE.ke hn hme rfl ?_));induction e with
 |true=>
  rw[if_pos rfl];rw[P5]at jM⊢;refine gT (vK (l:=iY (i+1) false r) (pre:=pre) hE Oh Mt OO rfl rfl jM hk kW Il (λQ ya hq=>qp hE hE.kp hn hmp ∅ (hq tp _)) (λk Q ya hq=> ?_) hfs hgd hfg λEg zX=> ?_)
  ·refine Gf (kl (qp (s:= {s with toks:=k+1}) hE hE.kc hn hmc ∅ (SB.add (λt' k'=>hq t' k') ?_)));show ↑Ad+1<=sizeLine;decide
  ·have wD:=hg.same zX;refine gT (w6 ?_);left;let ⟨m',vt,SM,Oi,_⟩:=wD.ns;right;refine DB (i:=i+1) (e:=true) hE ⟨m',vt,SM,λq=>⟨Nat.succ_pos _,?_⟩⟩ (λh=>by cases h) λh' tk hgn Oj=> ?_
   ·let ⟨tk,Oi⟩:=Oi;exact⟨tk,by simpa using Oi⟩
   ·refine gQ (gQ (hK false (pre++[(i,Ad++⟨#[ch]⟩)]) _ _ (by rw[bF];exact jM) ⟨hgn,?_,?_⟩ (.ext λb o h1 q q e=>Oj.extBut b o h1 e)))
    ·let ⟨old,ho⟩:=wD.en;exact⟨old,Oj.extBut _ _ Oh.symm ho⟩
    ·exact wD.it.extBut Oj.extBut Mt.symm
 |false=>
  rw[if_neg bG];rw[ER]at jM⊢;refine gT (Jb (yc (qp hE hE.kc hn hmc ∅ (kl (Dh (gf ?_)))) rfl));cases hb:((⟨#[ch]⟩:Str)==Ad)with
  |true=>
   rw[hb]at jM;simp only[if_true]at jM⊢;refine gT (w6 ?_);refine DB (s:= {s with toks:=s.toks+1}) (i:=i+1) (e:=false) hE ⟨m,hn,hme,λh=>by cases h⟩ (λq=>⟨Nat.succ_pos _,m,tp,hn,by exact hmp⟩) λh' tk hgn Oj=> ?_;refine gQ (gQ (gQ (hK true pre _ _ jM ⟨hgn,?_,?_⟩ (hk.trans (.ext λb o h1 q q e=>Oj.extBut b o h1 e)))))
   ·let ⟨old,ho⟩:=hg.en;exact⟨old,Oj.extBut _ _ Oh.symm ho⟩
   ·exact hg.it.extBut Oj.extBut Mt.symm
  |false=>rw[hb]at jM;simp only[fu,if_false]at jM⊢;refine gT (vK (s:= {s with toks:=s.toks+1}) (l:=iY (i+1) false r) (pre:=pre) hE Oh Mt OO rfl rfl jM (hk.trans ⟨rfl,rfl,λq q q q q e=>e⟩) kW Il (λQ ya hq=>qp hE hE.kp hn hmp ∅ (hq tp _)) (λk Q ya hq=>qp (s:= {s with toks:=k}) hE hE.kc hn hmc ∅ (hq tc _)) hfs hgd hfg λEg zX=> ?_);have wD:=hg.same zX;left;let ⟨m',vt,SM,Oi,_⟩:=wD.ns;right;exact gQ (gQ (gQ (hK false (pre++[(i,⟨#[ch]⟩)]) _ _ (by rw[bF];exact jM) ⟨⟨m',vt,SM,λh=>by cases h⟩,wD.en,wD.it⟩ (.refl ..))))
end
section
variable {A:cS} {s gE:bb} {env:lY} {L E T:Addr} {x:Str} {t:Dd} {w:jE}
def M9 {E:VS} (hh:A.handled=ac) (hit:s.heap.IsStrIter it "str_ascii_iterator" x t i) (hx:x.cps[i]? =ac)
  (hE:∀h' e,rv it s.heap h'->(∃o,h'.get? it=aa o)->(∃o,h'.get? e=aa o/\o.cls= .type "StopIteration")->E (.ref e) {s with heap:=h'}):
  wpAny (MM w) A (u6 (.ref it)) Q E s:=by
 left;let ⟨o,ho,hc,hd⟩:=id hit;right;unfold u6;refine am (uZ (name:=ah "__next__") hit.typeIs F.slot_str_ascii_iterator_next (uY F.slot_str_ascii_iterator_next hit.typeIs F.entry_str_ascii_iterator_next ?_ (F.args_str_ascii_iterator_next_1 _)));show wpAny _ _ (field (.ref it) 0 >>= _) _ _ s;refine am (Gd ho hd (x:= .str x t) rfl ?_);show wpAny _ _ (field (.ref it) 1 >>= _) _ _ s;refine am (Gd ho hd (x:= .int i 0) rfl ?_);simp only[mU,hx];refine am (KD (am (wpAny_setField ho hd (by simp) (am (wpAny_letGo ?_)))));show wpAny _ _ (newExc (.type "StopIteration") [] >>= _) _ _ _;simp only[newExc,newTuple];refine am (am (iE (am (m:=firstArgMember _ _) (i6 (a:=qh) (by first|rfl|(simp only[firstArgMember];rfl)) (iE ?_ (by size_fits)))) (by size_fits)));simp only[raiseNew];refine am (wpAny_handled ?_);first|rw[show A.in1.handled=ac from hh]|rw[hh]
 refine am (aR (wpAny_throw ?_));exact hE _ _ (((mR ..).extBut.push _).push _) ⟨_,aJ _ (aJ _ (uP _ ho (Obj.isFreed_of_fields (Obj.data_mapFields hd _))))⟩ ⟨_,aV _ rfl,rfl⟩
def GR
  (hA:A.handled=ac) (hE:GE env L) (Oh:L≠E) (Mt:L≠T) (OO:E≠T)
  (ajY:∀e' i' Im zF s',Im++iY i' e' []=iY 0 false x.cps.toList->Yq L i' e' s'.heap->(∀b,b=L\/b=E\/b=T->∃o,s'.heap.get? b=aa o)->n7 L E T zF s'->FX (MM w) A (RG L E T) (YG x t L E T) ↑(iY i' e' []) zF ajZ (kf (.ok .next)) [] s'):
  ∀(r:Nz) (i:Nat) (e:Bool) (pre:List (Nat×Str)) (gE s:bb),x.cps.toList.drop i=r->pre++iY i e r=iY 0 false x.cps.toList->GSt x t L E T i e s.heap->n7 L E T gE s->
   FX (MM w) A (RG L E T) (YG x t L E T) ↑(iY i e r) gE
    (.forLoop (.Tuple [.Name oF c0,.Name Bl c1] mm c2) (.ref E) [.If (.Name oG d0) [.Expr (.Yield (aa (.Tuple [.Name oF d1,.BinOp (.Constant (.str Ad) n2 d2) .Add (.Name Bl d3) d4] m2 d5)) d6) d7,.Assign [.Name oG d8] (.Constant (.bool false) n3 d9) d10]
     [.If (.Compare (.Name Bl e0) [.Eq] [.Constant (.str Ad) n4 e1] e2) [.Assign [.Name oG e3] (.Constant (.bool true) n5 e4) e5] [.Expr (.Yield (aa (.Tuple [.Name oF e6,.Name Bl e7] m3 e8)) e9) ZH] ZI] d11] [] env)
    ((MM w).den (.forLoop (.Tuple [.Name oF c0,.Name Bl c1] mm c2) (.ref E) [.If (.Name oG d0) [.Expr (.Yield (aa (.Tuple [.Name oF d1,.BinOp (.Constant (.str Ad) n2 d2) .Add (.Name Bl d3) d4] m2 d5)) d6) d7,.Assign [.Name oG d8] (.Constant (.bool false) n3 d9) d10]
     [.If (.Compare (.Name Bl e0) [.Eq] [.Constant (.str Ad) n4 e1] e2) [.Assign [.Name oG e3] (.Constant (.bool true) n5 e4) e5] [.Expr (.Yield (aa (.Tuple [.Name oF e6,.Name Bl e7] m3 e8)) e9) ZH] ZI] d11] [] env))
    [.ret kf ac false l1 ajZ anU []] s:=by
 intro r;induction r with
 |nil=>
  intro i e pre gE s hd jM hg hk;refine zh ?_;let ⟨old,SN⟩:=hg.en;have hi:i>=x.cps.size:=by have:=congrArg eW hd;rw[fG,lW,bz]at this;exact abJ this
  have hit:s.heap.IsStrIter T "str_ascii_iterator" x t i:=hg.it;have hTy:s.TypeIs (.ref E) "enumerate" :=⟨_,SN,rfl⟩;unfold pyNext;refine am (wpAny_attempt (uZ (name:=ah "__next__") hTy F.slot_enumerate_next (uY F.slot_enumerate_next hTy F.entry_enumerate_next ?_ (F.args_enumerate_next_1 _))));show wpAny _ _ (field (.ref E) 2 >>= _) _ _ _;refine am (Gd SN rfl (x:= .ref T) rfl ?_);refine am (M9 (hA) hit (by simp;exact aaU hi) λh' ex hb hTl sM=> ?_);let ⟨o,ho,hc⟩:=sM;refine am (wpAny_isInstance (T:= "StopIteration") (b:=true) ⟨o,ho,hc⟩ isSubtype_stop ?_);refine aR ?_;refine seg_again rfl (M7 (seg_leaf (.ok .next) (ajY e i pre gE _ jM ?_ (λb uU=> ?_) (hk.trans (.ext λb o q q h3 e=>hb b o h3 e)))))
  ·exact hg.ns.same λo ho=>hb _ _ Mt ho
  ·rcases uU with rfl|rfl|rfl
   ·let ⟨o,ho⟩:=hg.live _ (.inl rfl);exact⟨o,hb _ _ Mt ho⟩
   ·exact⟨_,hb _ _ OO SN⟩
   ·exact hTl
 |cons ch r ih=>
  intro i e pre gE s hd jM hg hk;refine zh ?_;let ⟨old,SN⟩:=hg.en;let ⟨m,hn,hme,hmp⟩:=hg.ns;have hi:i<x.cps.size:=by
   rcases bS i x.cps.size with h|h
   ·exact h
   ·rw[sR (by rw[bz];exact h)]at hd;nomatch hd
  have hch:x.cps[i]? =aa ch:=by have:=congrArg (λl=>l[0]?) hd;simpa using this
  have AB:x.cps.toList.drop (i+1)=r:=by have:=congrArg List.tail hd;simpa using this
  refine wpAny_pyNext_enum_itemD (Draws.strAscii (by exact hA) T x t) SN hg.it hi OO (by simp[OO]) λv h1 tk hP ho hit ht hsz Xu=> ?_;left;let ⟨cc,u,Xv,rfl⟩:=hP;right;rw[hch]at Xv;obtain rfl:=ag Xv;have hLl:L<s.heap.objs.size:=hn.lt;have hTl:T<s.heap.objs.size:=by let ⟨o,ho,_⟩:=hg.it;exact bW ho
  refine wpAny_letOwnedTupleGo_enum ho λh2 he2 hs2=> ?_;have Io:gH E h1 h2:=hs2;have Xr:h2.Ns L m:=(hn.at' λo e=>Xu L o Oh Mt e).sameBut Io Oh;have ht2:h2.get? s.heap.objs.size=aa {cls:= .type "tuple",data:= .seq #[.int i tk,.str ⟨#[ch]⟩ u]}:=Io.extBut _ _ (jV (bW SN)) ht;refine Cn (hA) ⟨_,ht2,rfl,_,rfl⟩ rfl rfl λh3 hk3=> ?_;have anY:h2.objs.size=s.heap.objs.size+1:=by rw[Io.1,hsz]
  have agG:∀b o,h2.get? b=aa o->h3.get? b=aa o:=λb o e=>hk3 b o (cM (bW e)) e;show wpAny _ _ (do holding _ (assign (.Name oF c0) env (.int i tk));holding _ (assign (.Name Bl c1) env (.str ⟨#[ch]⟩ u));pure ()) _ _ _;refine am (dH (zJ (ti hE hE.kp (Xr.at' λo e=>agG L o e) λh4 hn4 hs4=> ?_)));refine am (dH (zJ (ti hE hE.kc hn4 λh5 hn5 hs5=>aR ?_)));have aj0:gH L h3 h4:=hs4;have aj1:gH L h4 h5:=hs5;have C4:∀b o,b≠L->h2.get? b=aa o->h5.get? b=aa o:=λb o hb e=>aj1.extBut b o hb (aj0.extBut b o hb (agG b o e));refine GQ hE Oh Mt OO rfl rfl rfl (i:=i) (e:=e) (ch:=ch) (r:=r) jM ⟨⟨_,hn5,?_,⟨tk,?_⟩,⟨u,if_pos rfl⟩⟩,⟨.str ⟨#[ch]⟩ u,?_⟩,?_⟩ (hk.trans (.ext λb o h1' OL h3' e=>C4 b o h1' (Io.extBut b o OL (Xu b o OL h3' e)))) λe' Im zF s' Ip wD yh=> ?_
  ·rw[if_neg ∅,if_neg ∅];exact hme
  ·rw[if_neg ∅,if_pos rfl]
  ·have:=C4 E _ Oh.symm he2;exact this
  ·let ⟨o,se,r'⟩:=hit;exact⟨o,C4 T _ Mt.symm (Io.extBut _ _ OO.symm se),r'⟩
  ·exact seg_again rfl (ih (i+1) e' Im zF s' AB Ip wD yh)
end
section
variable {A:cS} {s:bb} {env:lY} {L:Addr} {x:Str} {t:Dd} {w:jE}
noncomputable abbrev w8:Str:=ah "enumerate"
def GS
  (hA:A.handled=ac) (hE:GE env L) (hke:env.kindOf w8=aa .globalImplicit) (hgl:env.globals=mainGlobals) (SH:env.builtins=builtinsNs) (hx:x.cps.all (· <128)=true)
  (hn:s.heap.Ns L m) (ha:m w7=aa (.str x t)) (agI:∃mg,s.heap.Ns mainGlobals mg/\mg w8=ac) (aj4:∃mb,s.heap.Ns builtinsNs mb/\mb w8=aa (.type "enumerate")) (hgL:mainGlobals≠L) (hbL:builtinsNs≠L)
  (dX:body=[.Assign [.Name oF a0] (.Constant (.int 0) n0 a1) a2,.Assign [.Name oG b0] (.Constant (.bool false) n1 b1) b2,
   .For (.Tuple [.Name oF c0,.Name Bl c1] mm c2) (.Call (.Name w8 c3) [.Name w7 c4] [] c5) [.If (.Name oG d0) [.Expr (.Yield (aa (.Tuple [.Name oF d1,.BinOp (.Constant (.str Ad) n2 d2) .Add (.Name Bl d3) d4] m2 d5)) d6) d7,.Assign [.Name oG d8] (.Constant (.bool false) n3 d9) d10]
     [.If (.Compare (.Name Bl e0) [.Eq] [.Constant (.str Ad) n4 e1] e2) [.Assign [.Name oG e3] (.Constant (.bool true) n5 e4) e5] [.Expr (.Yield (aa (.Tuple [.Name oF e6,.Name Bl e7] m3 e8)) e9) ZH] ZI] d11] [] c6,
   .If (.Name oG f0) [.Expr (.Yield (aa (.Tuple [.Name oF f1,.Constant (.str Ad) n6 f2] m4 f3)) f4) f5] [] f6]):
  FX (MM w) A (RG L (s.heap.objs.size+1) s.heap.objs.size) (YG x t L (s.heap.objs.size+1) s.heap.objs.size) ↑(iY 0 false x.cps.toList) s (.func body env) ((MM w).den (.func body env)) [] s:=by
 have hLs:L<s.heap.objs.size:=hn.lt;have Mt:L≠s.heap.objs.size:=cM hLs;have Oh:L≠s.heap.objs.size+1:=cM (eH hLs);have OO:s.heap.objs.size+1≠s.heap.objs.size:=Nat.succ_ne_self _;generalize hEd:s.heap.objs.size+1=E at*;generalize hTd:s.heap.objs.size=T at*;refine seg_func ?_;rw[show execs body env=execs _ env from congrArg (λb=>execs b env) dX];refine gT (w6 (kY (wpAny_Constant_int (ti hE hE.kp hn λh1 hn1 ZD=> ?_)) rfl));refine gT (w6 (kY (zY (ti hE hE.ke hn1 λh2 Xr hs2=> ?_)) rfl));have agJ:gH L s.heap h1:=ZD;have Io:gH L h1 h2:=hs2;have Ik:∀b o,b≠L->s.heap.get? b=aa o->h2.get? b=aa o:=λb o hb e=>Io.extBut b o hb (agJ.extBut b o hb e);left;let ⟨mg,Gb,hg1⟩:=agI;let ⟨mb,hmb,OP⟩:=aj4;right;refine gT (Um (λq=>rfl) ?_);refine cn (qj hE.kind hke (FZ (by rw[hgl];exact Gb.at' λo e=>Ik _ o hgL e) hg1 (by rw[SH];exact hmb.at' λo e=>Ik _ o hbL e) OP ?_) rfl);refine ec rfl (lD rfl (bX (qp hE hE.ka Xr (by rw[if_neg ∅,if_neg ∅];exact ha) rfl (eA (iH ?_)))));refine call_enumerate_str λh3 he3 hi3 an5 hk3=> ?_;have hT3:h2.objs.size=T:=(by rw[Io.1,agJ.1,hTd]);replace he3:IsEnum h3 (h2.objs.size+1) h2.objs.size 0 .none:=he3;replace hi3:h3.IsStrIter h2.objs.size (strIterType x) x t 0:=hi3;show wpAny _ _ (pyIter (.ref (h2.objs.size+1))) _ _ _;rw[hT3]at he3 hi3⊢;rw[(by omega:T+1=E)]at he3⊢;have rz:strIterType x= "str_ascii_iterator" :=by unfold strIterType;rw[hx];rfl
 rw[rz]at hi3;refine wpAny_pyIter_enum he3 λp=> ?_;have hn3:h3.Ns L _:=Xr.at' λo e=>hk3 L o e;refine GR hA hE Oh Mt OO (λe' i' Im zF s' jM hgn SN hk=> ?_) x.cps.toList 0 false [] s _ rfl rfl ⟨⟨_,hn3,?_,λh=>by cases h⟩,⟨_,he3⟩,hi3⟩ (.ext λb o hb q q e=>hk3 b o (Ik b o hb e))
 ·show FX _ _ _ _ _ _ _ ((execs _ env).wrap _ _ _ _) _ _;let ⟨m',vt,SM,Oi⟩:=hgn;refine gT (Jb (LA hE hE.ke vt SM rfl ?_));induction e' with
  |true=>rw[if_pos rfl];left;let ⟨_,tk,hmp⟩:=Oi rfl;right;refine gT (vK (l:=[]) (pre:=Im) hE Oh Mt OO rfl rfl jM hk (λb hb=>xe11 (SN b hb) λo ho=>bW ho) SN (λQ ya hq=>qp hE hE.kp vt hmp rfl (hq tk _)) (λk Q ya hq=>kl (hq _ _)) rfl rfl rfl λEg q=> ?_);exact gQ (gQ (seg_end (.ok (.ret .none)) ⟨rfl,rfl,.refl ..⟩))
  |false=>rw[if_neg bG];exact gQ (gQ (seg_end (.ok (.ret .none)) ⟨rfl,rfl,hk⟩))
 ·exact if_pos rfl
end
def Rel.step (R:Rel S c O h) (own:Addr->Prop) [DecidablePred own] (zX:∀a,own a->(∃o,c.pin a=aa o)\/h.objs.size<=a) (hk:∀b o,¬own b->h.get? b=aa o->h'.get? b=aa o):
  Rel S {c with pin:=λa=>if own a then h'.get? a else c.pin a} O h':=by
 have hF:∀a o,c.F a=aa o->¬own a:=λa o e ha=>by
  rcases zX a ha with⟨x,hx⟩|hx
  ·rw[(R.pins a x hx).2.1]at e;nomatch e
  ·rw[R.oz hx]at e;nomatch e
 have Eb:∀i,i< ↑O->¬own (c.Z i):=λi hi ha=>by
  rcases zX _ ha with⟨x,hx⟩|hx
  ·exact(R.pins _ x hx).2.2.1 i hi rfl
  ·exact absurd (R.MI hi) (fC.mpr hx)
 have ht:∀q∈cm,¬own q.2:=λq hq ha=>by
  rcases zX _ ha with⟨x,hx⟩|hx
  ·exact(R.pins _ x hx).2.2.2 q hq rfl
  ·exact absurd (R.Gp hq) (fC.mpr hx)
 refine⟨λa o e=>hk a o (hF a o e) (R.frozen a o e),R.base,λi ao e=> ?_,R.apart,R.inj,λa o e=> ?_,λq hq=> ?_⟩
 ·let ⟨o,p,r⟩:=R.own i ao e;exact⟨o,hk _ _ (Eb i (getElem?_lt' e)) p,r.j8 (λz z e=>e) (λz z=>rfl) (ab _)⟩
 ·have e':(if own a then h'.get? a else c.pin a)=aa o:=e;by_cases ha:own a
  ·rw[if_pos ha]at e';refine⟨e',?_,λi hi e=>Eb i hi (e▸ha),λq hq e=>ht q hq (e▸ha)⟩;show c.F a=ac;cases ex:c.F a with
   |none=>rfl
   |some y=>exact absurd ha (hF a y ex)
  ·rw[if_neg ha]at e';left;let ⟨p1,p2,p3,p4⟩:=R.pins a o e';right;exact⟨hk a o ha p1,p2,p3,p4⟩
 ·let ⟨a,b,ps,d,e,f⟩:=R.tabs q hq;exact⟨a,b,ps,hk _ _ (ht q hq) d,e,f⟩
section
variable {A:cS} {E:VS} {s:bb} {w:jE}
def P6 {P:Nat->bb->bb->Prop} (hR:∀n gE r eD,R n gE r eD->r= .ok (.ret .none)/\P n gE eD) (hh:A.handled=ac) (hl:s.heap.NoLimit) (SO:A.depth<recursionLimit)
  (hg:s.heap.IsGen a g) (Ko:s.gens[g]? =aa gs) (hgo:gs.Goes (MM w) A.in1 R Y n (.send .none) (s.setGen g .running))
  (hY:∀v eD Tu,Tu.bare=true->Y (n- 1) (s.setGen g .running) v eD (λr' Eg=>match n with
    |0=>False
    |m+1=>Tu.Goes (MM w) A.in1 R Y m r' Eg)->Q (aa v) (eD.setGen g Tu))
  (hP:∀eD,P n (s.setGen g .running) eD->∀h',(∀b o,eD.heap.get? b=aa o->h'.get? b=aa o)->Q ac {eD.setGen g .finished with heap:=h'}):
  wpAny (MM w) A (pyNext (.ref a)) Q E s:=by
 unfold pyNext;refine am (wpAny_attempt (uZ (name:=ah "__next__") hg.typeIs slot_gen_next (uY slot_gen_next hg.typeIs entry_gen_next ?_ (args_gen_next _))));show wpAny _ A.in1 (vw (.ref a) (.send .none)) _ _ s;unfold vw;refine am (dH (wpAny_genNumber hg (am (wpAny_genState Ko ?_))));induction gs with
 |running=>exact hgo.elim
 |finished=>exact hgo.elim
 |_=>
  refine am (wpAny_roomToWake hl SO ?_);show wpAny _ A.in1 (.resume g (.send .none) [] _) _ _ s;refine wpAny_resumeQ Ko hgo (λx eD hx=> ?_) (λv eD Tu hb hv=>aR ⟨v,rfl,aR (hY v eD Tu hb hv)⟩);let ⟨P',e,hp,hpp⟩:=(λx eD hx=>⟨True,(hR _ _ _ _ hx).1,trivial,λq=>(hR _ _ _ _ hx).2⟩:∀(x:Result) (eD:bb),R n (s.setGen g .running) x eD->∃P',x= .ok (.ret .none)/\P'/\(P'->P n (s.setGen g .running) eD)) x eD hx;subst e;show wpAny _ A.in1 (newExc (.type "StopIteration") [] >>= _) _ _ _;simp only[newExc,newTuple];refine am (am (iE (am (m:=firstArgMember _ _) (i6 (a:=qh) (by first|rfl|(simp only[firstArgMember];rfl)) (iE ?_ (by size_fits)))) (by size_fits)));simp only[raiseNew];refine am (am (wpAny_handled ?_));first|rw[show A.in1.handled=ac from hh]|rw[hh]
  refine wpAny_throw (am (wpAny_isInstance (T:= "StopIteration") (b:=true) ⟨_,aV _ rfl,rfl⟩ isSubtype_stop (aR ?_)));exact hP eD (hpp hp) _ λb o hb=>aJ _ (aJ _ hb)
end
noncomputable def lR (p:Nat×Str):PV:= .tup [.int p.1,.str p.2]
abbrev rE:eg:=nj
def P7:∃(a0 a1 a2 b0 b1 b2 c0 c1 c2 c3 c4 c5 c6 d0 d1 d2 d3 d4 d5 d6 d7 d8 d9 d10 d11 e0 e1 e2 e3 e4 e5 e6 e7 e8 e9 ZH ZI f0 f1 f2 f3 f4 f5 f6:Pos) (n0 n1 mm n2 n3 n4 n5 n6 m2 m3 m4:Nat),rE.body=[.Assign [.Name oF a0] (.Constant (.int 0) n0 a1) a2,.Assign [.Name oG b0] (.Constant (.bool false) n1 b1) b2,
   .For (.Tuple [.Name oF c0,.Name Bl c1] mm c2) (.Call (.Name w8 c3) [.Name w7 c4] [] c5) [.If (.Name oG d0) [.Expr (.Yield (aa (.Tuple [.Name oF d1,.BinOp (.Constant (.str Ad) n2 d2) .Add (.Name Bl d3) d4] m2 d5)) d6) d7,.Assign [.Name oG d8] (.Constant (.bool false) n3 d9) d10]
     [.If (.Compare (.Name Bl e0) [.Eq] [.Constant (.str Ad) n4 e1] e2) [.Assign [.Name oG e3] (.Constant (.bool true) n5 e4) e5] [.Expr (.Yield (aa (.Tuple [.Name oF e6,.Name Bl e7] m3 e8)) e9) ZH] ZI] d11] [] c6,
   .If (.Name oG f0) [.Expr (.Yield (aa (.Tuple [.Name oF f1,.Constant (.str Ad) n6 f2] m4 f3)) f4) f5] [] f6]:=
 ⟨_,_,_,_,_,_,_,_,_,_,_,_,_,_,_,_,_,_,_,_,_,_,_,_,_,_,_,_,_,_,_,_,_,_,_,_,_,_,_,_,_,_,_,_,_,_,_,_,_,_,_,_,_,_,_,rfl⟩
def vi (c:aM) (a:Addr) (g:Nat):Prop:=∃o nm qn,c.F a=aa o/\o.cls= .type "generator" /\o.data= .fields #[.int g 0,nm,qn]/\o.slots= #[]
def vi.W5 (x:vi c a g) (R:Rel S c O h):h.IsGen a g:=xe32 (x) λo nm qn ho r=>⟨o,nm,qn,R.frozen _ _ ho,r⟩
inductive GJ (w:jE) (A:cS) (x:Str) (t:Dd) (L a:Addr) (g:Nat) (env:lY):List PV->aM->bb->Prop
 |fresh {c:aM} {s:bb} {oL:Obj} {m:Str->Option Value}:c.pin L=aa oL->(∀h:iR,h.get? L=aa oL->h.Ns L m)->m w7=aa (.str x t)->vi c a g->L<a->s.gens[g]? =aa (.fresh (.func rE.body env))->
   GJ w A x t L a g env ((iY 0 false x.cps.toList).map lR) c s
 |run {c:aM} {s:bb} {E T:Addr} {hr:iR} {gs:VV} {l pre:List (Nat×Str)}:(∀b,b=L\/b=E\/b=T->∃o,hr.get? b=aa o/\c.pin b=aa o)->vi c a g->a<T->a<E->s.gens[g]? =aa gs->gs.bare=true->pre++l=iY 0 false x.cps.toList->
   (∀Eg,Ae L E T hr Eg.heap->gs.Goes (MM w) A.in1 (RG L E T) (YG x t L E T) ↑l (.send .none) Eg)->GJ w A x t L a g env (l.map lR) c s
def vi.mono (x:vi c a g) (hF:∀b o,c.F b=aa o->c'.F b=aa o):vi c' a g:=xe32 (x) λo nm qn ho r=>⟨o,nm,qn,hF _ _ ho,r⟩
def GU (R:Rel S c O s.heap) (hA:jG k A) (agM:v7<=g)
  (zX:∀b,b=L\/b=E\/b=T->(∃o,c.pin b=aa o)\/s.heap.objs.size<=b) (haT:a<T) (haE:a<E) (hgo:vi c a g) (Ko:s.gens[g]? =aa gs) (jM:pre++l=iY 0 false x.cps.toList)
  (agN:gs.Goes (MM S.w) A.in1 (RG L E T) (YG x t L E T) ↑l (.send .none) (s.setGen g .running)) (Er:VS) (Q:Option Value->bb->Prop)
  (h0:l=[]->∀c' s',aM.pO (λb=>b=L\/a<b) ↑O c c'->Rel S c' O s'.heap->lE v7 s s'->Q ac s')
  (h1:∀p r,l=p::r->∀c' v s',aM.pO (λb=>b=L\/a<b) ↑O c c'->Rel S c' O s'.heap->lE v7 s s'->GJ S.w A x t L a g env (r.map lR) c' s'->dk S.w c'.F v (lR p)->Q (aa v) s'):
  wpAny (MM S.w) A (pyNext (.ref a)) Q Er s:=by
 have dec:DecidablePred λb:Addr=>b=L\/b=E\/b=T:=λb=>inferInstance;have wB:∀(h':iR),aM.pO (λb=>b=L\/a<b) ↑O c {c with pin:=λb=>if b=L\/b=E\/b=T then h'.get? b else c.pin b}:=λh'=>⟨λu u e=>e,λu u=>rfl,λb hb=>if_neg λh=>hb (by
  rcases h with rfl|rfl|rfl
  ·exact .inl rfl
  ·exact .inr haE
  ·exact .inr haT)⟩
 have kW:g<s.gens.size:=by
  rcases bS g s.gens.size with h|h
  ·exact h
  ·rw[my h]at Ko;nomatch Ko
 have Xw:∀(eD:bb) (y:VV),eD.gens=(s.setGen g .running).gens->eD.os=s.os->y.bare=true->∀h' tk,lE v7 s {(eD.setGen g y)with heap:=h',toks:=tk}:=by
  intro eD y AC hos hy h' tk;refine⟨hos,λi z hi hz=> ?_,λhb z hz=> ?_⟩
  ·show(eD.gens.setIfInBounds g y)[i]? =aa z;rw[AC];have:i≠g:=by exact abK hi agM
   simp[VT,Ne.symm this,hz]
  ·have hz':z∈eD.gens.setIfInBounds g y:=hz;rw[AC]at hz';let ⟨i,hi,e⟩:=Array.mem_iff_getElem.mp hz';have e':((s.gens.setIfInBounds g .running).setIfInBounds g y)[i]? =aa z:=by rw[iT];exact⟨hi,e⟩
   by_cases hig:g=i
   ·subst hig;simp[kW]at e';subst e';exact hy
   ·simp[hig]at e';exact hb z (IO e')
 refine P6 (P:=λn gE eD=>n=0/\n7 L E T gE eD) (λn gE r eD h=>⟨h.1,h.2⟩) hA.hn R.lim hA.room (hgo.W5 R) Ko agN (λv eD Tu hb hy=> ?_) (λeD hp h' hk=> ?_)
 ·let ⟨p,y,t1,t2,tp,l',Im,rfl,htp,uM,hK,Ip,hn,hnL,hnE,hnT,hal,SK⟩:=hy;cases l with
  |nil=>have h1:=congrArg eW jM;have h2:=congrArg eW Ip;simp only[aj,az,lW]at h1 h2 hn SK;exact(SK eD λu u u e=>e).elim
  |cons p0 l=>
   let ⟨e1,e2⟩:=List.append_inj (jM.trans Ip.symm) (by
    have h1:=congrArg eW jM;have h2:=congrArg eW Ip;simp only[aj,az]at h1 h2;exact abL h1 h2 (by simpa using hn))
   injection e2 with e3 e4;subst e1 e3 e4;have R1:Rel S _ O eD.heap:=Rel.step (h':=eD.heap) R (λb=>b=L\/b=E\/b=T) zX λb o hb e=>hK.h b o (λh=>hb (.inl h)) (λh=>hb (.inr (.inl h))) (λh=>hb (.inr (.inr h))) e;have Eh:s.heap.get? tp=ac:=uM;have SP:qF {c with pin:=λb=>if b=L\/b=E\/b=T then eD.heap.get? b else c.pin b} ↑O tp:=by
    refine⟨?_,λi hi e=> ?_,?_,λq hq e=> ?_⟩
    ·show c.F tp=ac;cases e:c.F tp with
     |none=>rfl
     |some o=>rw[R.frozen _ _ e]at Eh;nomatch Eh
    ·let ⟨o,ho,_⟩:=R.own i O[i] (aq hi);rw[show c.Z i=tp from e,Eh]at ho;nomatch ho
    ·show(if tp=L\/tp=E\/tp=T then eD.heap.get? tp else c.pin tp)=ac;rw[if_neg (by rintro(h|h|h);exact hnL h;exact hnE h;exact hnT h)];cases e:c.pin tp with
     |none=>rfl
     |some o=>rw[(R.pins _ _ e).1]at Eh;nomatch Eh
    ·let ⟨_,_,ps,d,_⟩:=R.tabs q hq;rw[e,Eh]at d;nomatch d
   refine h1 (p,y) l rfl (aM.put {c with pin:=λb=>if b=L\/b=E\/b=T then eD.heap.get? b else c.pin b} tp {cls:= .type "tuple",data:= .seq #[.int p t1,.str y t2]}) (.ref tp) (eD.setGen g Tu) ⟨λb o e=> ?_,λu u=>rfl,(wB eD.heap).pin⟩ (R1.freeze SP htp) (Xw eD Tu hK.gens hK.os hb _ _) ?_ ?_
   ·exact(aM.dC (n:=0) SP.F).F b o e
   ·refine .run (E:=E) (T:=T) (hr:=eD.heap) (pre:=pre++[(p,y)]) (λb uU=> ?_) (hgo.mono (aM.dC (n:=0) SP.F).F) haT haE ?_ hb (by rw[bF];exact jM) λEg ho=>SK Eg ho
    ·let ⟨o,ho⟩:=hal b uU;exact⟨o,ho,(if_pos uU).trans ho⟩
    ·show(eD.gens.setIfInBounds g Tu)[g]? =aa Tu;rw[hK.gens];simp[VT,kW]
   ·refine .tup (if_pos rfl) rfl λi v d hv hd=> ?_
    match i with
    |0=>obtain rfl:=ag hv;obtain rfl:=ag hd;exact .int ..
    |1=>obtain rfl:=ag hv;obtain rfl:=ag hd;exact .str ..
    |i+2=>simp at hd
 ·let ⟨hn,hK⟩:=hp;exact h0 (sE.mp hn) _ _ (wB h') (Rel.step (h':=h') R (λb=>b=L\/b=E\/b=T) zX λb o hb e=>hk b o (hK.h b o (λh=>hb (.inl h)) (λh=>hb (.inr (.inl h))) (λh=>hb (.inr (.inr h))) e)) (Xw eD .finished hK.gens hK.os rfl _ _)
def dY.Un (h:dY s s'):s.gens.size<=s'.gens.size:=by
 rcases bS s'.gens.size s.gens.size with kW|AC
 ·have:=h.gens s'.gens.size s.gens[s'.gens.size] (qS kW);rw[my (ab _)]at this;cases this
 ·exact AC
def su.esc {A:cS} {x:Str} {t:Dd} {L a:Addr} {g v7 oT:Nat} {env:lY} {ok:List AO->Prop} (hE:GE env L) (hke:env.kindOf w8=aa .globalImplicit) (hgl:env.globals=mainGlobals) (SH:env.builtins=builtinsNs) (hx:x.cps.all (· <128)=true) (hg:v7<=g):
  su S k A (λb=>b=L\/a<b) v7 oT ok (.ref a) (GJ S.w A x t L a g env) where
 keep:=λ{m rest c c' O bv s s'} hJ _ wB hK R R'=>by
  induction hJ with
  |fresh h1 h2 h3 h4 h5 h6=>exact .fresh (by exact wB.pin▸h1) h2 h3 (h4.mono wB.F) h5 (hK.gens _ _ h6)
  |run h1 h2 h3 h4 h5 h6 h7 h8=>exact .run (λb hb=>xe12 (h1 b hb) λo p q=>⟨o,p,by rw[wB.pin];exact q⟩) (h2.mono wB.F) h3 h4 (hK.gens _ _ h5) h6 h7 h8
 next:=λ{O rest c s} hJ R hn ng hA E Q h0 h1=>by
  have done:∀(l:List (Nat×Str)),(l.map lR=[]->∀c' s',aM.pO (λb=>b=L\/a<b) ↑O c c'->Rel S c' O s'.heap->lE v7 s s'->Q ac s')->l=[]->∀c' s',aM.pO (λb=>b=L\/a<b) ↑O c c'->Rel S c' O s'.heap->lE v7 s s'->Q ac s':=λl h hl=>h (by rw[hl];rfl);cases hJ with
  | @fresh _ _ oL m e1 e2 e3 e4 e5 e6=>
   left;let ⟨p1,p2,p3,p4⟩:=R.pins _ _ e1;have haS:a<s.heap.objs.size:=xe32 (e4) λo z z ho z=>bW (R.frozen _ _ ho);let ⟨b0,b1,b2,b3,b4,b5,b6,b7,b8,b9,b10,b11,b12,b13,b14,b15,b16,b17,b18,b19,b20,b21,b22,b23,b24,b25,b26,b27,b28,b29,b30,b31,b32,b33,b34,b35,b36,b37,b38,b39,b40,b41,b42,b43,m0,m1,m2,m3,m4,m5,m6,m7,m8,m9,m10,ZJ⟩:=P7;let ⟨mg,Gb,hg1⟩:=S.glob;let ⟨mb,hmb,OP⟩:=S.blt;right;have neF:∀b,(∃f,S.h₀.Ns b f)->(∀q∈cm,b≠q.2)->b≠L:=by rintro b ⟨f,o,_,_,ho,_⟩ hb rfl;have:=R.base _ _ ho hb;rw[p2]at this;nomatch this
   refine GU (E:=s.heap.objs.size+1) (T:=s.heap.objs.size) (l:=iY 0 false x.cps.toList) (pre:=[]) R hA hg (λb hb=> ?_) haS (eH haS) e4 e6 rfl ⟨rfl,?_⟩ E Q (done _ h0) λp r e=>h1 _ _ (by rw[e];rfl)
   ·rcases hb with rfl|rfl|rfl
    ·exact .inl ⟨_,e1⟩
    ·exact .inr (mu _)
    ·exact .inr (ab _)
   ·refine GS (s:=s.setGen g .running) (A:=A.in1) hA.hn hE hke hgl SH hx (e2 _ p1) e3 ⟨mg,R.vg Gb ∅,hg1 (w8,ac) ?_⟩ ⟨mb,R.vg hmb ∅,OP (w8,aa (.type "enumerate")) ?_⟩ (neF _ ⟨_,Gb⟩ ∅) (neF _ ⟨_,hmb⟩ ∅) ZJ
    ·unfold cg;walk_at "a"
    ·unfold ly;walk_at "a"
  | @run _ _ E' T hr gs l pre e1 e2 e3 e4 e5 e6 e7 e8=>refine GU (E:=E') (T:=T) (l:=l) (pre:=pre) R hA hg (λb hb=>xe12 (e1 b hb) λo z q=> .inl ⟨o,q⟩) e3 e4 e2 e5 e7 (e8 _ λb hb o ho=> ?_) E Q (done _ h0) λp r e=>h1 _ _ (by rw[e];rfl);let ⟨o',p,q⟩:=e1 b hb;rw[p]at ho;obtain rfl:=ag ho;exact(R.pins _ _ q).1
 self:=λ{O rest c s} hJ R hA E Q h=>by
  have:vi c a g:=by cases hJ<;>assumption
  exact wpAny_pyIter_gen (this.W5 R) h
 Vw:=λ{O rest c s} hJ R cE v E Q h=>by
  have:vi c a g:=by cases hJ<;>assumption
  left;let ⟨o,_,_,ho,hc,_⟩:=this;right;exact rM (R.frozen _ _ ho) hc rfl cE v h
def Jc:rE∈fW:=by unfold fW;walk_at "a"
def la.esc (hf:nL S k O ae (.Name f np) (.con (.ref rE.addr))) (h:nL S k O ae e (.str x)) (hs:notStar e=true) (hx:x.cps.all (· <128)=true) (ng:ok O):
  la S k O ae (.Call (.Name f np) [e] [] pos) ok ((iY 0 false x.cps.toList).map lR):=by
 intro A c s env hA hE R E Q hQ;refine cn (hf.run A c s env hA hE R _ _ λc1 v1 s1 l1 R1 K1 a1=> ?_);have e':=a1.dn;subst e';left;let ⟨o,pm,ho,_,hd,_⟩:=R1.fn Jc;right;refine fI (o:=o) (fd:=rE.fd pm) ?_;refine ef (.cons h .nil hs) _ pos A c1 s1 env hA (hE.mono l1 (ab _)) R1 _ _ λc2 vs s2 l2 R2 K2 a2=> ?_;have ho2:s2.heap.get? rE.addr=aa o:=by left;let ⟨FK,_,h0,_,_,_⟩:=S.fns rE Jc;have ho1:s1.heap.get? rE.addr=aa o:=ho;right;rw[(R1.old h0 ∅)]at ho1;obtain rfl:=ag ho1;exact(R2.old h0 ∅)
 refine⟨⟨ho2,hd⟩,?_⟩;have h9:=a2.i1;clear a2;let ⟨_,_,rfl,a2,b2⟩:=h9;left;obtain rfl:=b2.i0;have Ed:=a2.gi;let ⟨t,rfl⟩:=Ed.mG;let ⟨o',pm',se,_,AB,C7⟩:=R2.fn Jc;right;rw[ho2]at se;obtain rfl:=ag se;refine v8 (codeAny_call_generator hA.room ho2 hd rfl rfl rfl C7 ?_);refine i6 (a:=[(w7,.str x t)]) rfl ?_;refine yQ (scope:=rE.scope) (by decide+kernel) (by intro y hy;rw[aB]at hy;subst hy;show rE.scope.names.lookup w7=_;kernel_rfl) (λh' tY Oj=> ?_) rfl;have Ol:gH s2.heap.objs.size (s2.heap.push {cls:= .type "frame",data:= .dict #[]}) h':=Oj;have hsz:h'.objs.size=s2.heap.objs.size+1:=by rw[Ol.1,eT]
 have hk:∀b o,s2.heap.get? b=aa o->h'.get? b=aa o:=λb o e=>Ol.extBut b o (cM (bW e)) (aJ _ e);refine⟨(sO R2.lim hk),?_⟩;generalize hL:s2.heap.objs.size=L at*;left;let ⟨oL,es,ep,hoL,aj6⟩:=tY;right;generalize hO:({cls:= .type "generator",data:= .fields #[.int s2.gens.size 0,.str (rE.fd pm).name (s2.toks+1),.str (rE.fd pm).qualname (s2.toks+1+1)]}:Obj)=oa;have hFL:qF (c2.put h'.objs.size oa) ↑O L:=by have hf:=R2.free (a:=L) (by simp_all);refine⟨?_,hf.Z,hf.pin,hf.tab⟩;show(if L=h'.objs.size then aa oa else c2.F L)=ac;rw[if_neg (by simp_all)];exact hf.F
 have uL:=l1.trans l2 (ab _);have hE':GE {scope:=rE.scope,locals:=L,globals:=3,cells:=[],qual:=(rE.fd pm).qualname++ ".<locals>.",func:=aa rE.addr,code:= .ref rE.code,frame:=aa L,builtins:=0} L:=
  ⟨rfl,by show rE.scope.names.lookup oF=_;exact so,by show rE.scope.names.lookup oG=_;exact so,by show rE.scope.names.lookup Bl=_;exact so,by show rE.scope.names.lookup w7=_;kernel_rfl,rfl,rfl⟩
 show wpAny (MM S.w) A (pyIter (.ref h'.objs.size)) Q E _;refine wpAny_pyIter_gen (g:=s2.gens.size) ⟨oa,_,_,aV _ (by rw[<- hO];rfl),by rw[<- hO],by rw[<- hO],by rw[<- hO]⟩ ?_;refine hQ ((c2.put h'.objs.size oa).pinned [(L,oL)]) _ (.ref h'.objs.size) (λb=>b=L\/h'.objs.size<b) _ ⟨λb y e=>(aM.dC (n:=0) (R2.oz (by simp_all))).F b y (uL.F b y e),uL.Z,λb hb=> ?_⟩ (λb hb=> ?_) ((R2.put (λb o e=>aJ _ (hk b o e)) (by simp_all) (hO▸(aV _ rfl)):Rel S (c2.put h'.objs.size oa) O (h'.push oa)).pinned (ps:=[(L,oL)]) (λp hp=>by rw[aB]at hp;subst hp;exact hFL) λp hp=>by rw[aB]at hp;subst hp;exact aJ _ hoL) ?_ (su.esc (t:=t) (L:=L) (a:=h'.objs.size) (g:=s2.gens.size) hE' ?_ rfl rfl hx (K1.trans K2).Un) ng (.fresh (oL:=oL) (m:=λy=>[(w7,Value.str x t)].reverse.lookup y) (aM.lF ..) (λhh e=>⟨oL,es,ep,e,aj6⟩) ?_ ⟨oa,_,_,if_pos rfl,by rw[<- hO],by rw[<- hO],by rw[<- hO]⟩ (by rw[hsz];exact eu _) ?_)
 ·show(gO b [(L,oL)]).or (c2.pin b)=c.pin b;rw[di,beq_false_of_ne (λe=>hb (.inl e))];exact congrFun uL.pin b
 ·rw[<- uL.pin];cases ep:c2.pin b with
  |none=>rfl
  |some o=>
   have:=(λb o e=>hL▸bW (R2.pins b o e).1:∀(b:Addr) (o:Obj),c2.pin b=aa o->b<L) b o ep;rcases hb with rfl|hb
   ·exact absurd this (lU _)
   ·rw[hsz]at hb;exact absurd (iL this (eu _)) (z1 hb)
 ·refine(K1.trans K2).trans ⟨rfl,λi z e=> ?_,λhb=>OU hb rfl⟩;show(s2.gens.push _)[i]? =aa z;have hi:i<s2.gens.size:=by
   rcases bS i s2.gens.size with h|h
   ·exact h
   ·rw[my h]at e;nomatch e
  rw[ID hi];rw[qS hi]at e;exact e
 ·show rE.scope.names.lookup w8=_;decide+kernel
 ·simp
 ·exact F8 ..
def wz (s : String) : List wS :=
  let p := s.splitOn "; "
  let h := p.headD ""
  let f := wf (p.tail.map λe =>
    let q := (e.replace "%" "").splitOn " "
    let n := if h == "" then q.headD "" else h ++ "." ++ q.headD ""
    let t := wp (if h == "" || q.contains "?" then "refine" else "apply") [wa (wi n) (q.tail.map λa => if a == "_" then wI a else wi a)]
    [wn (wN "«tactic_<;>_»") [if e.front == '%' then wp "withReducible" [ws [t]] else t, wx, ww "sd"]])
  if h == "" then [f] else [wp "withReducible" [ws [wT (we (wi h))]], f]
local macro_rules | `(tactic| walk_at "sd") => do
  let a := ["cT; int; fE; str; none; bool; loc; bin; nr; item; tup; lst; GK; slice; cmp; afw; neg; and; PO; ahH; aab; %call fy.sum; %call fy.len; %call fy.max; %call fy.min; %call fy.round; %call fy.int; %call fy.list; %tb fy.upper F.plainAttrs_str F.slot_str_upper F.type_str_upper; %tb fy.lower F.plainAttrs_str F.slot_str_lower F.type_str_lower; %tb fy.join F.plainAttrs_str F.slot_str_join F.type_str_join; %tb fy.index F.plainAttrs_str F.slot_str_index F.type_str_index; alu 612; alu 616; alu 620", "pU; nil; cons", "j5; nil; cons", "Yj; none; some", "M3; nil; cons", "GO; nil; cons", "Dz; nil; cons", "EC; alv; andNil; ajc; ahD", "ki; nil; loc; nr", "CB; loc; nr; tup", "mw; zg; PU; if; return; for; ajg; anf; GL; ajk; aug; put; swap; %mut Bi.append F.slot_list_append F.type_list_append; %mut Bi.pop F.slot_list_pop F.type_list_pop", "A3; cmp; boolOp; not; val; chain", "zP; val; range", "EI; list; dict", "M6; pure; newList; newDict", "MT; cons; one", "GH; store", "Ga; more rfl rfl rfl ? ? ? ?; last rfl rfl rfl ? ? ?", "; zP.C ?; Ew so; Nat.le_refl _; Nat.succ_pos _; Nat.le_add_left _ _; Nat.le_of_ble_eq_true tt; tt; so; pp; MV; aeq"].map wz ++ (List.range 25).map fun i => wz ("; aff " ++ toString i ++ " so")
  `(tactic| first | $(⟨wf a⟩) | exact fun _ _ => rfl | exact fun _ => rfl | exact .inl ⟨_, rfl⟩ | exact .inr ⟨_, rfl⟩ | decide | kernel_rfl)
def w9:SF:=(aC (bZ (ba .Add (ba .Add (ba .Mult (jh (.fE 4599075939470750515)) (ak 0)) (ba .Mult (jh (.fE 4603489467105573601)) (ak 1))) (ba .Mult (jh (.fE 4592590756007337001)) (ak 2))) (bf 3)) (aC (bZ (ba .Sub (ba .Mult (jh (.fE 4604840546993784750)) (ba .Sub (ak 0) (ak 3))) (ba .Mult (jh (.fE 4598535507515466056)) (ba .Sub (ak 2) (ak 3)))) (bf 4)) (aC (bZ (ba .Add (ba .Mult (jh (.fE 4602318531202457272)) (ba .Sub (ak 0) (ak 3))) (ba .Mult (jh (.fE 4601057523306793533)) (ba .Sub (ak 2) (ak 3)))) (bf 5)) (aC (i7 (jc (au (ak 3) (au (ak 4) (au (ak 5) aZ))))) br))))
def xa:List PV->Option PV:=mL ["r", "g", "b"] ["y", "i", "q"] w9
def ES:j5 S 0 (nM oj ["r", "g", "b"] ["y", "i", "q"]) oj.body w9:=by walk_at "sd"
def Uo:hV S 1 oj xa:=hV.plain (.of 4 rfl rfl tt) ES (λpm=>W3 λq q q=>rfl) tt
def xc:SF:=(aC (bZ (ba .Add (ba .Add (ak 0) (ba .Mult (jh (.fE 4606703976345377586)) (ak 1))) (ba .Mult (jh (.fE 4603791717925830846)) (ak 2))) (bf 3)) (aC (bZ (ba .Sub (ba .Sub (ak 0) (ba .Mult (jh (.fE 4598621754083818298)) (ak 1))) (ba .Mult (jh (.fE 4603901015759978483)) (ak 2))) (bf 4)) (aC (bZ (ba .Add (ba .Sub (ak 0) (ba .Mult (jh (.fE 4607671262177584182)) (ak 1))) (ba .Mult (jh (.fE 4610375502138591871)) (ak 2))) (bf 5)) (aC (jC (bY .Lt (ak 3) (jh (.fE 0))) (aC (bZ (jh (.fE 0)) (bf 3)) br) br) (aC (jC (bY .Lt (ak 4) (jh (.fE 0))) (aC (bZ (jh (.fE 0)) (bf 4)) br) br) (aC (jC (bY .Lt (ak 5) (jh (.fE 0))) (aC (bZ (jh (.fE 0)) (bf 5)) br) br) (aC (jC (bY .Gt (ak 3) (jh (.fE 4607182418800017408))) (aC (bZ (jh (.fE 4607182418800017408)) (bf 3)) br) br) (aC (jC (bY .Gt (ak 4) (jh (.fE 4607182418800017408))) (aC (bZ (jh (.fE 4607182418800017408)) (bf 4)) br) br) (aC (jC (bY .Gt (ak 5) (jh (.fE 4607182418800017408))) (aC (bZ (jh (.fE 4607182418800017408)) (bf 5)) br) br) (aC (i7 (jc (au (ak 3) (au (ak 4) (au (ak 5) aZ))))) br))))))))))
def rQ:List PV->Option PV:=mL ["y", "i", "q"] ["r", "g", "b"] xc
def ET:j5 S 0 (nM om ["y", "i", "q"] ["r", "g", "b"]) om.body xc:=by walk_at "sd"
def Uq:hV S 1 om rQ:=hV.plain (.of 5 rfl rfl tt) ET (λpm=>W3 λq q q=>rfl) tt
def xd:SF:=(aC (bZ (dJ EG (au (ak 0) (au (ak 1) (au (ak 2) aZ)))) (bf 3)) (aC (bZ (dJ MZ (au (ak 0) (au (ak 1) (au (ak 2) aZ)))) (bf 4)) (aC (bZ (ba .Add (ak 3) (ak 4)) (bf 5)) (aC (bZ (ba .Sub (ak 3) (ak 4)) (bf 6)) (aC (bZ (ba .Div (ak 5) (jh (.fE 4611686018427387904))) (bf 7)) (aC (jC (bY .Eq (ak 4) (ak 3)) (aC (i7 (jc (au (jh (.fE 0)) (au (ak 7) (au (jh (.fE 0)) aZ))))) br) br) (aC (jC (bY .LtE (ak 7) (jh (.fE 4602678819172646912))) (aC (bZ (ba .Div (ak 6) (ak 5)) (bf 8)) br) (aC (bZ (ba .Div (ak 6) (ba .Sub (ba .Sub (jh (.fE 4611686018427387904)) (ak 3)) (ak 4))) (bf 8)) br)) (aC (bZ (ba .Div (ba .Sub (ak 3) (ak 0)) (ak 6)) (bf 9)) (aC (bZ (ba .Div (ba .Sub (ak 3) (ak 1)) (ak 6)) (bf 10)) (aC (bZ (ba .Div (ba .Sub (ak 3) (ak 2)) (ak 6)) (bf 11)) (aC (jC (bY .Eq (ak 0) (ak 3)) (aC (bZ (ba .Sub (ak 11) (ak 10)) (bf 12)) br) (aC (jC (bY .Eq (ak 1) (ak 3)) (aC (bZ (ba .Sub (ba .Add (jh (.fE 4611686018427387904)) (ak 9)) (ak 11)) (bf 12)) br) (aC (bZ (ba .Sub (ba .Add (jh (.fE 4616189618054758400)) (ak 10)) (ak 9)) (bf 12)) br)) br)) (aC (bZ (ba .Mod (ba .Div (ak 12) (jh (.fE 4618441417868443648))) (jh (.fE 4607182418800017408))) (bf 12)) (aC (i7 (jc (au (ak 12) (au (ak 7) (au (ak 8) aZ))))) br)))))))))))))
def i8:List PV->Option PV:=mL ["r", "g", "b"] ["maxc", "minc", "sumc", "rangec", "l", "s", "rc", "gc", "bc", "h"] xd
def EU:j5 S 0 (nM oo ["r", "g", "b"] ["maxc", "minc", "sumc", "rangec", "l", "s", "rc", "gc", "bc", "h"]) oo.body xd:=by walk_at "sd"
def Ur:hV S 1 oo i8:=hV.plain (.of 6 rfl rfl tt) EU (λpm=>W3 λq q q=>rfl) tt
def afy:SF:=(aC (bZ (ba .Mod (ak 2) (jh (.fE 4607182418800017408))) (bf 2)) (aC (jC (bY .Lt (ak 2) (jh (.fE 4595172819793696085))) (aC (i7 (ba .Add (ak 0) (ba .Mult (ba .Mult (ba .Sub (ak 1) (ak 0)) (ak 2)) (jh (.fE 4618441417868443648))))) br) br) (aC (jC (bY .Lt (ak 2) (jh (.fE 4602678819172646912))) (aC (i7 (ak 1)) br) br) (aC (jC (bY .Lt (ak 2) (jh (.fE 4604180019048437077))) (aC (i7 (ba .Add (ak 0) (ba .Mult (ba .Mult (ba .Sub (ak 1) (ak 0)) (ba .Sub (jh (.fE 4604180019048437077)) (ak 2))) (jh (.fE 4618441417868443648))))) br) br) (aC (i7 (ak 0)) br)))))
def Us:List PV->Option PV:=mL ["m1", "m2", "hue"] [] afy
def ajm:j5 S 0 (nM r_v ["m1", "m2", "hue"] []) r_v.body afy:=by walk_at "sd"
def anh:hV S 1 r_v Us:=hV.plain (.of 8 rfl rfl tt) ajm (λpm=>W3 λq q q=>rfl) tt
local macro_rules | `(tactic| walk_at "sd") => pure (wq (wz "cT; ahG anh"))
def xe:SF:=(aC (jC (bY .Eq (ak 2) (jh (.fE 0))) (aC (i7 (jc (au (ak 1) (au (ak 1) (au (ak 1) aZ))))) br) br) (aC (jC (bY .LtE (ak 1) (jh (.fE 4602678819172646912))) (aC (bZ (ba .Mult (ak 1) (ba .Add (jh (.fE 4607182418800017408)) (ak 2))) (bf 3)) br) (aC (bZ (ba .Sub (ba .Add (ak 1) (ak 2)) (ba .Mult (ak 1) (ak 2))) (bf 3)) br)) (aC (bZ (ba .Sub (ba .Mult (jh (.fE 4611686018427387904)) (ak 1)) (ak 3)) (bf 4)) (aC (i7 (jc (au (kh Us (au (ak 4) (au (ak 3) (au (ba .Add (ak 0) (jh (.fE 4599676419421066581))) aZ)))) (au (kh Us (au (ak 4) (au (ak 3) (au (ak 0) aZ)))) (au (kh Us (au (ak 4) (au (ak 3) (au (ba .Sub (ak 0) (jh (.fE 4599676419421066581))) aZ)))) aZ))))) br))))
def xf:List PV->Option PV:=mL ["h", "l", "s"] ["m2", "m1"] xe
def EV:j5 S 1 (nM oq ["h", "l", "s"] ["m2", "m1"]) oq.body xe:=by walk_at "sd"
def Ut:hV S 2 oq xf:=hV.plain (.of 7 rfl rfl tt) EV (λpm=>W3 λq q q=>rfl) tt
def xg:SF:=(aC (bZ (dJ EG (au (ak 0) (au (ak 1) (au (ak 2) aZ)))) (bf 3)) (aC (bZ (dJ MZ (au (ak 0) (au (ak 1) (au (ak 2) aZ)))) (bf 4)) (aC (bZ (ba .Sub (ak 3) (ak 4)) (bf 5)) (aC (bZ (ak 3) (bf 6)) (aC (jC (bY .Eq (ak 4) (ak 3)) (aC (i7 (jc (au (jh (.fE 0)) (au (jh (.fE 0)) (au (ak 6) aZ))))) br) br) (aC (bZ (ba .Div (ak 5) (ak 3)) (bf 7)) (aC (bZ (ba .Div (ba .Sub (ak 3) (ak 0)) (ak 5)) (bf 8)) (aC (bZ (ba .Div (ba .Sub (ak 3) (ak 1)) (ak 5)) (bf 9)) (aC (bZ (ba .Div (ba .Sub (ak 3) (ak 2)) (ak 5)) (bf 10)) (aC (jC (bY .Eq (ak 0) (ak 3)) (aC (bZ (ba .Sub (ak 10) (ak 9)) (bf 11)) br) (aC (jC (bY .Eq (ak 1) (ak 3)) (aC (bZ (ba .Sub (ba .Add (jh (.fE 4611686018427387904)) (ak 8)) (ak 10)) (bf 11)) br) (aC (bZ (ba .Sub (ba .Add (jh (.fE 4616189618054758400)) (ak 9)) (ak 8)) (bf 11)) br)) br)) (aC (bZ (ba .Mod (ba .Div (ak 11) (jh (.fE 4618441417868443648))) (jh (.fE 4607182418800017408))) (bf 11)) (aC (i7 (jc (au (ak 11) (au (ak 7) (au (ak 6) aZ))))) br))))))))))))
def xj:List PV->Option PV:=mL ["r", "g", "b"] ["maxc", "minc", "rangec", "v", "s", "rc", "gc", "bc", "h"] xg
def EW:j5 S 0 (nM ou ["r", "g", "b"] ["maxc", "minc", "rangec", "v", "s", "rc", "gc", "bc", "h"]) ou.body xg:=by walk_at "sd"
def Uu:hV S 1 ou xj:=hV.plain (.of 9 rfl rfl tt) EW (λpm=>W3 λq q q=>rfl) tt
def xk:SF:=(aC (jC (bY .Eq (ak 1) (jh (.fE 0))) (aC (i7 (jc (au (ak 2) (au (ak 2) (au (ak 2) aZ))))) br) br) (aC (bZ (dJ afv (au (ba .Mult (ak 0) (jh (.fE 4618441417868443648))) aZ)) (bf 3)) (aC (bZ (ba .Sub (ba .Mult (ak 0) (jh (.fE 4618441417868443648))) (ak 3)) (bf 4)) (aC (bZ (ba .Mult (ak 2) (ba .Sub (jh (.fE 4607182418800017408)) (ak 1))) (bf 5)) (aC (bZ (ba .Mult (ak 2) (ba .Sub (jh (.fE 4607182418800017408)) (ba .Mult (ak 1) (ak 4)))) (bf 6)) (aC (bZ (ba .Mult (ak 2) (ba .Sub (jh (.fE 4607182418800017408)) (ba .Mult (ak 1) (ba .Sub (jh (.fE 4607182418800017408)) (ak 4))))) (bf 7)) (aC (bZ (ba .Mod (ak 3) ⇑6) (bf 3)) (aC (jC (bY .Eq (ak 3) ⇑0) (aC (i7 (jc (au (ak 2) (au (ak 7) (au (ak 5) aZ))))) br) br) (aC (jC (bY .Eq (ak 3) ⇑1) (aC (i7 (jc (au (ak 6) (au (ak 2) (au (ak 5) aZ))))) br) br) (aC (jC (bY .Eq (ak 3) ⇑2) (aC (i7 (jc (au (ak 5) (au (ak 2) (au (ak 7) aZ))))) br) br) (aC (jC (bY .Eq (ak 3) ⇑3) (aC (i7 (jc (au (ak 5) (au (ak 6) (au (ak 2) aZ))))) br) br) (aC (jC (bY .Eq (ak 3) ⇑4) (aC (i7 (jc (au (ak 7) (au (ak 5) (au (ak 2) aZ))))) br) br) (aC (jC (bY .Eq (ak 3) ⇑5) (aC (i7 (jc (au (ak 2) (au (ak 5) (au (ak 6) aZ))))) br) br) br)))))))))))))
def iw:List PV->Option PV:=mL ["h", "s", "v"] ["i", "f", "p", "q", "t"] xk
def EX:j5 S 0 (nM ow ["h", "s", "v"] ["i", "f", "p", "q", "t"]) ow.body xk:=by walk_at "sd"
def Uv:hV S 1 ow iw:=hV.plain (.of 10 rfl rfl tt) EX (λpm=>W3 λq q q=>rfl) tt
noncomputable def peek {α:Type} (F:Addr->Option Obj) (n:Nat):z0 α->Option α:=
 KJ (λq=>ac) (λq ih t=>if h:t.ctorIdx=0 then Sem.pure.elim t h aa else if h:t.ctorIdx=6 then Sem.load.elim t h λa q k=>(F a).bind λo=>ih (k o) else ac) n
def LB (hF:∀a o,F a=aa o->s.heap.get? a=aa o) {v:α} (hQ:Q v s):∀ {t:z0 α},peek F n t=aa v->wpAny M A t Q E s:=by
 induction n with
 |zero=>intro t h;exact(zc h).elim
 |succ n ih=>
  intro t h;induction t with
  |pure a=>obtain rfl:=ag h;exact aR hQ
  |load a p k=>let ⟨o,e,h'⟩:=aG.mp h;exact am (m:=loadPart a p) (f:=k) (wpAny_loadPart (hF _ _ e) (ih h'))
  |_=>exact(zc h).elim
noncomputable def two (T K:Addr) (o p:Obj) (a:Addr):Option Obj:=if a=T then aa o else if a=K then aa p else ac
def Yr {h:iR} (h1:h.get? T=aa o) (h2:h.get? K=aa p) (a:Addr) (x:Obj) (e:two T K o p a=aa x):h.get? a=aa x:=by
 unfold two at e;by_cases q:a=T
 ·rw[if_pos q]at e;rw[q,h1,e]
 ·rw[if_neg q]at e;let ⟨r,rfl⟩:=dS e;rw[r,h2]
def sv (S:cz) (k:Nat) (pH:List AO) (key:AV) (g:PV->Option Int):Prop:=∀O,(∀i,i< ↑pH->O[i]? =pH[i]?)->∀d i,g d=aa i->dy S k O key [.pv d] [] (.pv (.int i)) O
inductive qq:AV->Prop
 |mk {args:Arguments} {body:Expr} {scope:Scope} {cells:Sn}:qq (.tz args body scope cells)
def qq.fn (hc:qq d) (h:cU w c n v d):∃a o fd,v= .ref a/\c.F a=aa o/\o.cls= .type "function" /\o.data= .func fd:=by cases hc;obtain(⟨_,rfl,⟨h1,h2,h3⟩,_⟩):=h.Yc;exact⟨_,_,_,rfl,h1,h2,h3⟩
def Ev.pA (hfx:f= .Name x np) (hk:qq key) (hf:Ev S k O ae f key O) (ha:ck S k O ae args ds) (hc:dy S k O key ds [] d bv):Ev S k O ae (.Call f args [] pos) d bv:=by subst hfx;refine⟨hc.len,λA c s env hA hE R E Q hQ=> ?_⟩;refine cn (hf.run A c s env hA hE R _ _ λc1 v1 s1 l1 R1 K1 a1=> ?_);left;let ⟨a,o,fd,rfl,ho,_,hd⟩:=hk.fn a1;right;refine fI (o:=o) (fd:=fd) ?_;refine ef ha _ pos A c1 s1 env hA (hE.mono l1 (ab _)) R1 _ _ λc2 vs s2 l2 R2 K2 a2=>⟨⟨R2.frozen _ _ (l2.F _ _ ho),hd⟩,?_⟩;exact hc.run A c2 s2 _ vs [] hA R2 (a1.mono l2 (ab _)) a2 rfl .nil E Q λc3 v3 s3 l3 R3 K3 a3=>hQ c3 v3 s3 ((l1.trans l2 (ab _)).trans l3 (ab _)) R3 ((K1.trans K2).trans K3) a3
def zO.ra (hk:qq d):zO O (compareOp .Is) d (.pv PV.none) (PV.bool false):=by intro S k A c s u v hA R ha hb E Q hQ;let ⟨a,o,fd,rfl,ho,_,hd⟩:=hk.fn ha;have e:=hb.dn;subst e;exact nU rfl (hQ c _ _ (.refl ..) R (.refl ..) (.pv (.con ..)))
def tj:pT cR.scope [sA,sX,oV,oW,gp,sT]:=pT.of tt
def GV:me cR.scope [afi]:=me.of tt
def Na {ns:List Int} {lo:Nat} (hl:IsL O d (ns.map PV.int)) (hn: ↑ns<2 ^ 30) (Ec:lo<= ↑ns) (H7:∀h,hi=aa h->h<= ↑ns):
  ∃τ,cH S k (O++[AO.ns [(sA,aa d),(sX,~~~(.int x)),(oV,~~~(.int lo)),(oW,~~~(Lm hi)),(gp,~~~PV.none),(sT,ac)]])
   (cR.env (↑O+0)) cR.body (.ret (.pv (.int (pf (λm=> !decide (x<ns.getD m 0)) ↑ns lo (hi.getD ↑ns) ac).1))) (O++τ):=by
 have h1:=tj;have h2:=GV;apply fY;apply cH.cons
 ·walk_at "f";exact cH.nil
 apply cH.cons (bw:=O++[AO.ns (CM d (.pv (.int x)) lo (hi.getD ↑ns:Nat) (.pv PV.none) ac)])
 ·induction hi with
  |none=>
   dsimp only[Lm];walk_at "g";apply cH.cons
   ·apply iX.assign
    ·apply Ev.wW
     ·walk_at "b"
     ·apply ck.cons
      ·walk_at "b"
      ·exact .nil
      ·rfl
     ·apply zd.len_list (l:=ns.map PV.int)
      ·cases hl with
       |val=>exact .val
       |fM h=>exact .fM (gA h)
      ·rw[aw];exact aaR hn
    ·apply j4.AU h1
     ·rfl
     ·walk_at "a"
     ·walk_at "e"
     ·walk_at "c"
     ·walk_at "d"
    ·intro _ _;rfl
   ·rw[aw];exact cH.nil
  |some h=>dsimp only[Lm];walk_at "f";exact cH.nil
 have cI:∀i,i< ↑ns->(ns.map PV.int)[i]? =aa (.int (ns.getD i 0)):=by intro i hi;simp[hi]
 apply cH.cons
 ·walk_at "g";apply cH.cons
  ·apply iX.Lf;apply wX (p:=λm=> !decide (x<ns.getD m 0)) (N:= ↑ns) (n:= ↑ns)
   ·intro lo hi mid;walk_at "i"
   ·intro lo hi mid h3 h4;have hm:=cI ((lo+hi)/2) (IU h3 h4);apply cH.cons
    ·walk_at "l"
    cases hc:decide (x<ns.getD ((lo+hi)/2) 0)with
    |true=>
     rw[if_neg ∅];apply cH.cons
     ·walk_at "g";walk_at "h"
     ·exact cH.nil
    |false=>
     rw[if_pos tt];apply cH.cons
     ·walk_at "f";walk_at "h"
     ·exact cH.nil
   ·induction hi with
    |none=>simp
    |some h=>have:=H7 h rfl;simp;exact MF this
   ·induction hi with
    |none=>simp
    |some h=>have:=H7 h rfl;simpa using this
  ·exact cH.nil
 walk_at "h"
def pB:∀i,i< ↑O->(O++[x])[i]? =O[i]? :=λi hi=>aW hi
def Jd {ns:List Int} {lo:Nat} (hk:qq key) (hg:sv S k O key g) (hl:IsL O d l) (tY:∀(i:Nat) (y:PV),l[i]? =aa y->g y=aa (ns.getD i 0)) (cI: ↑ns= ↑l) (hn: ↑ns<2 ^ 30) (Ec:lo<= ↑ns) (H7:∀h,hi=aa h->h<= ↑ns):
  ∃τ,cH S k (O++[.ns [(sA,aa d),(sX,~~~(.int x)),(oV,~~~(.int lo)),(oW,~~~(Lm hi)),(gp,aa key),(sT,ac)]])
   (rB.env (↑O+0)) rB.body (.ret (.pv (.int (pf (λm=>decide (ns.getD m 0<x)) ↑ns lo (hi.getD ↑ns) ac).1))) (O++τ):=by
 have h1:=sU;have h2:=Gu;apply fY;apply cH.cons
 ·walk_at "f";exact cH.nil
 apply cH.cons (bw:=O++[.ns (CM d (.pv (.int x)) lo (hi.getD ↑ns:Nat) key ac)])
 ·induction hi with
  |none=>
   dsimp only[Lm];walk_at "g";apply cH.cons
   ·apply iX.assign
    ·apply Ev.wW
     ·walk_at "b"
     ·apply ck.cons
      ·walk_at "b"
      ·exact .nil
      ·rfl
     ·apply zd.len_list (l:=l)
      ·exact hl.CA
      ·exact Wb hn cI
    ·apply j4.AU h1
     ·rfl
     ·walk_at "a"
     ·walk_at "e"
     ·walk_at "c"
     ·walk_at "d"
    ·intro _ _;rfl
   ·exact cI▸cH.nil
  |some h=>dsimp only[Lm];walk_at "f";exact cH.nil
 have hit:∀i,i< ↑ns->∃y,l[i]? =aa y/\g y=aa (ns.getD i 0):=by
  intro i hi;have H8:i< ↑l:=by exact IV hi cI
  exact⟨l[i],aq H8,tY i _ (aq H8)⟩
 apply cH.cons
 ·apply iX.if (b:=false)
  ·apply oA.js
   ·walk_at "b"
   ·walk_at "b"
   ·exact zO.ra hk
   ·rfl
  apply cH.cons
  ·apply iX.Lf;apply wX (p:=λm=>decide (ns.getD m 0<x)) (N:= ↑ns) (n:= ↑ns)
   ·intro lo hi mid;walk_at "i"
   ·intro lo hi mid h3 h4;let ⟨y,hm,hgy⟩:=hit ((lo+hi)/2) (IU h3 h4);apply cH.cons
    ·walk_at "l"
    cases hc:decide (ns.getD ((lo+hi)/2) 0<x)with
    |true=>
     rw[if_pos rfl];apply cH.cons
     ·apply iX.if (b:=true)
      ·apply oA.to
       ·apply oA.compare
        ·apply Ev.pA rfl hk
         ·walk_at "b"
         ·apply ck.cons
          ·walk_at "b"
          ·exact .nil
          ·rfl
         ·exact hg _ pB y _ hgy
        ·walk_at "b"
        ·walk_at "m"
        ·rfl
       ·exact hc
      walk_at "h"
     ·exact cH.nil
    |false=>
     rw[if_neg bG];apply cH.cons
     ·apply iX.if (b:=false)
      ·apply oA.to
       ·apply oA.compare
        ·apply Ev.pA rfl hk
         ·walk_at "b"
         ·apply ck.cons
          ·walk_at "b"
          ·exact .nil
          ·rfl
         ·exact hg _ pB y _ hgy
        ·walk_at "b"
        ·walk_at "m"
        ·rfl
       ·exact hc
      walk_at "h"
     ·exact cH.nil
   ·induction hi with
    |none=>simp
    |some h=>have:=H7 h rfl;simp;exact MF this
   ·induction hi with
    |none=>simp
    |some h=>have:=H7 h rfl;simpa using this
  ·exact cH.nil
 walk_at "h"
def Je {ns:List Int} {lo:Nat} (hk:qq key) (hg:sv S k O key g) (hl:IsL O d l) (tY:∀(i:Nat) (y:PV),l[i]? =aa y->g y=aa (ns.getD i 0)) (cI: ↑ns= ↑l) (hn: ↑ns<2 ^ 30) (Ec:lo<= ↑ns) (H7:∀h,hi=aa h->h<= ↑ns):
  ∃τ,cH S k (O++[.ns [(sA,aa d),(sX,~~~(.int x)),(oV,~~~(.int lo)),(oW,~~~(Lm hi)),(gp,aa key),(sT,ac)]])
   (cR.env (↑O+0)) cR.body (.ret (.pv (.int (pf (λm=> !decide (x<ns.getD m 0)) ↑ns lo (hi.getD ↑ns) ac).1))) (O++τ):=by
 have h1:=tj;have h2:=GV;apply fY;apply cH.cons
 ·walk_at "f";exact cH.nil
 apply cH.cons (bw:=O++[.ns (CM d (.pv (.int x)) lo (hi.getD ↑ns:Nat) key ac)])
 ·induction hi with
  |none=>
   dsimp only[Lm];walk_at "g";apply cH.cons
   ·apply iX.assign
    ·apply Ev.wW
     ·walk_at "b"
     ·apply ck.cons
      ·walk_at "b"
      ·exact .nil
      ·rfl
     ·apply zd.len_list (l:=l)
      ·exact hl.CA
      ·exact Wb hn cI
    ·apply j4.AU h1
     ·rfl
     ·walk_at "a"
     ·walk_at "e"
     ·walk_at "c"
     ·walk_at "d"
    ·intro _ _;rfl
   ·exact cI▸cH.nil
  |some h=>dsimp only[Lm];walk_at "f";exact cH.nil
 have hit:∀i,i< ↑ns->∃y,l[i]? =aa y/\g y=aa (ns.getD i 0):=by
  intro i hi;have H8:i< ↑l:=by exact IV hi cI
  exact⟨l[i],aq H8,tY i _ (aq H8)⟩
 apply cH.cons
 ·apply iX.if (b:=false)
  ·apply oA.js
   ·walk_at "b"
   ·walk_at "b"
   ·exact zO.ra hk
   ·rfl
  apply cH.cons
  ·apply iX.Lf;apply wX (p:=λm=> !decide (x<ns.getD m 0)) (N:= ↑ns) (n:= ↑ns)
   ·intro lo hi mid;walk_at "i"
   ·intro lo hi mid h3 h4;let ⟨y,hm,hgy⟩:=hit ((lo+hi)/2) (IU h3 h4);apply cH.cons
    ·walk_at "l"
    cases hc:decide (x<ns.getD ((lo+hi)/2) 0)with
    |true=>
     rw[if_neg ∅];apply cH.cons
     ·apply iX.if (b:=true)
      ·apply oA.to
       ·apply oA.compare
        ·walk_at "b"
        ·apply Ev.pA rfl hk
         ·walk_at "b"
         ·apply ck.cons
          ·walk_at "b"
          ·exact .nil
          ·rfl
         ·exact hg _ pB y _ hgy
        ·walk_at "m"
        ·rfl
       ·exact hc
      walk_at "h"
     ·exact cH.nil
    |false=>
     rw[if_pos tt];apply cH.cons
     ·apply iX.if (b:=false)
      ·apply oA.to
       ·apply oA.compare
        ·walk_at "b"
        ·apply Ev.pA rfl hk
         ·walk_at "b"
         ·apply ck.cons
          ·walk_at "b"
          ·exact .nil
          ·rfl
         ·exact hg _ pB y _ hgy
        ·walk_at "m"
        ·rfl
       ·exact hc
      walk_at "h"
     ·exact cH.nil
   ·induction hi with
    |none=>simp
    |some h=>have:=H7 h rfl;simp;exact MF this
   ·induction hi with
    |none=>simp
    |some h=>have:=H7 h rfl;simpa using this
  ·exact cH.nil
 walk_at "h"
def dg.snoc (h:dg w c n vs ds) (a:cU w c n v d):dg w c n (vs++[v]) (ds++[d]):=by
 induction h with
 |nil=>exact .cons a .nil
 |cons b _ ih=>exact .cons b ih
inductive GW (t:Dd):List Value->Value->Value->Prop
 |two:GW t [] (.int 0 t) .none
 |three {lo:Value}:GW t [lo] lo .none
 |four {lo hi:Value}:GW t [lo,hi] lo hi
structure nN (r:eg):Prop where
 mem:r∈fW
 tk:∃T∈[187,196,205,214],∃K∈[188,197,206,215],∀(pm a x kv:Value) (c d t n sl c' d' hs t' n' sl') (tl:Vs) (lo hi:Value),GW t tl lo hi->
  peek (two T K (dfT c d t n sl) (dfK c' d' hs t' n' sl')) 9 (bindArgs (r.fd pm) ⟨a::x::tl,[]⟩)=aa [(sA,a),(sX,x),(oV,lo),(oW,hi),(gp,.none)]/\
  peek (two T K (dfT c d t n sl) (dfK c' d' hs t' n' sl')) 9 (bindArgs (r.fd pm) ⟨a::x::tl,[(gp,kv)]⟩)=aa [(sA,a),(sX,x),(oV,lo),(oW,hi),(gp,kv)]
def pC:nN fj:=⟨by unfold fW;walk_at "a",214,by decide,215,by decide,λq q q q q q q q q q q q q q q q q q h=>by cases h<;>constructor<;>kernel_rfl⟩
def pD:nN cR:=⟨by unfold fW;walk_at "a",196,by decide,197,by decide,λq q q q q q q q q q q q q q q q q q h=>by cases h<;>constructor<;>kernel_rfl⟩
def tm:nN dO:=⟨by unfold fW;walk_at "a",205,by decide,206,by decide,λq q q q q q q q q q q q q q q q q q h=>by cases h<;>constructor<;>kernel_rfl⟩
def rb:nN cQ:=⟨by unfold fW;walk_at "a",187,by decide,188,by decide,λq q q q q q q q q q q q q q q q q q h=>by cases h<;>constructor<;>kernel_rfl⟩
inductive mX:List AV->AV->AV->Prop
 |two:mX [] (.pv (.int 0)) (.pv PV.none)
 |three {lo:AV}:mX [lo] lo (.pv PV.none)
 |four {lo hi:AV}:mX [lo,hi] lo hi
def mX.vals (ht:mX tl lo hi) (hv:dg w c n vs tl) (t:Dd):∃u v,GW t vs u v/\cU w c n u lo/\cU w c n v hi:=by
 induction ht with
 |two=>obtain rfl:=hv.i0;exact⟨_,_,.two,.pv (.int ..),.pv (.con _)⟩
 |three=>let ⟨_,_,rfl,a,h1⟩:=hv.i1;obtain rfl:=h1.i0;exact⟨_,_,.three,a,.pv (.con _)⟩
 |four=>let ⟨_,_,rfl,a,h1⟩:=hv.i1;let ⟨_,_,rfl,b,h2⟩:=h1.i1;obtain rfl:=h2.i0;exact⟨_,_,.four,a,b⟩
def LC:∀T∈[187,196,205,214,188,197,206,215],∀q∈cm,T≠q.2:=by decide
def nN.P8 (hr:nN r) (ht:mX tl lo hi) (pm kv:Value) (R:Rel S c O s.heap) (hv:dg S.w c ↑O vs (a::x::tl)):
  ∃va vx u v,dg S.w c ↑O [va,vx,u,v] [a,x,lo,hi]/\BindsTo s (r.fd pm) ⟨vs,[]⟩ [(sA,va),(sX,vx),(oV,u),(oW,v),(gp,.none)]/\BindsTo s (r.fd pm) ⟨vs,[(gp,kv)]⟩ [(sA,va),(sX,vx),(oV,u),(oW,v),(gp,kv)]:=by
 left;let ⟨T,hT,K,hK,h⟩:=hr.tk;let ⟨⟨c0,d0,_,sl0⟩,n0,t0,ho,hd⟩:=S.dfl T hT;let ⟨c1,d1,ZD,t1,n1,sl1,hk⟩:=S.Oc K hK;let ⟨va,_,rfl,h1,hv1⟩:=hv.i1;let ⟨vx,_,rfl,h2,hv2⟩:=hv1.i1;let ⟨u,v,h3,h4,h5⟩:=ht.vals hv2 t0;dsimp only at hd;subst hd;have hF:=Yr (R.old ho (LC T (show T∈[187,196,205,214]++[188,197,206,215] from ft _ hT))) (R.old hk (LC K (show K∈[187,196,205,214]++[188,197,206,215] from dQ _ hK)));have h6:=h pm va vx kv c0 d0 t0 n0 sl0 c1 d1 ZD t1 n1 sl1 _ _ _ h3;exact kG ⟨va,vx,u,v,.cons h1 (.cons h2 (.cons h4 (.cons h5 .nil))),λq q q q hQ=>LB hF hQ h6.1,λq q q q hQ=>LB hF hQ h6.2⟩
def nN.binds (hr:nN r) (ht:mX tl lo hi) (pm:Value):jH S O (r.fd pm) (a::x::tl) [] [(sA,a),(sX,x),(oV,lo),(oW,hi),(gp,.pv PV.none)]:=by intro c s vs kvs R hv hk _;obtain rfl:=OE.mp hk;let ⟨va,vx,u,v,h,b,_⟩:=hr.P8 ht pm .none R hv;exact⟨[(sA,va),(sX,vx),(oV,u),(oW,v),(gp,.none)],rfl,h.snoc (v:= .none) (.pv (.con _)),b⟩
def nN.yu (hr:nN r) (ht:mX tl lo hi) (pm:Value):jH S O (r.fd pm) (a::x::tl) [(gp,key)] [(sA,a),(sX,x),(oV,lo),(oW,hi),(gp,key)]:=by
 intro c s vs kvs R hv hk H6;obtain⟨⟨y,vk⟩,kvs,rfl⟩:∃p r,kvs=p::r:=by induction kvs with|nil=>nomatch hk|cons p r=>exact⟨p,r,rfl⟩
 let ⟨hy,Ik⟩:=jK hk;obtain rfl:=OE.mp Ik;obtain rfl:y=gp:=hy;let ⟨_,_,e,h5,_⟩:=H6.i1;let ⟨rfl,_⟩:=jK e;let ⟨va,vx,u,v,h,_,b⟩:=hr.P8 ht pm vk R hv;exact⟨[(sA,va),(sX,vx),(oV,u),(oW,v),(gp,vk)],rfl,h.snoc (v:=vk) h5,b⟩
noncomputable def Ys (right:Bool) (ns:List Int) (x:Int) (m:Nat):Bool:=if right then !decide (x<ns.getD m 0) else decide (ns.getD m 0<x)
def mB (right:Bool) (ns:List Int) (x:Int) (lo:Nat) (hi:Option Nat):Nat:=(pf (Ys right ns x) ↑ns lo (hi.getD ↑ns) ac).1
def Jf (right:Bool):eg:=if right then cR else fj
def P9 (right:Bool):eg:=if right then cQ else dO
def LD (right:Bool):nN (Jf right):=by cases right;exact pC;exact pD
def LF (right:Bool):nN (P9 right):=by cases right;exact tm;exact rb
def lk (h:pT sc l) (l':List Str) (hs:l'.all (λx=>l.any λy=>x==y)=true):∀x∈l',sc.names.lookup x=aa .local:=λx hx=>by
 have:=fH.mp hs x hx;let ⟨y,hy,e⟩:=AJ.mp this;have e':x=y:=by simpa using e
 exact e'▸(h y hy)
def dy.Yt (right:Bool) {lo:Nat} (hl:IsL O d (ns.map PV.int)) (hn: ↑ns<2 ^ 30) (Ec:lo<= ↑ns) (H7:∀h,hi=aa h->h<= ↑ns)
  (ht:mX tl (.pv (.int lo)) (.pv (Lm hi))):dy S (k+1) O (.pv (.con (.ref (Jf right).addr))) (d:: .pv (.int x)::tl) [] (.pv (.int (mB right ns x lo hi))) O:=by
 induction right with
 |false=>obtain(⟨τ,hb⟩):=MO (S:=S) (k:=k) (x:=x) hl hn Ec H7;exact dy.def (r:=fj) (.of 3 rfl rfl rfl) (others:=[sT]) (λpm=>pC.binds ht pm) (lk sU [sA,sX,oV,oW,gp] ∅) rfl hb rfl (λi x h=> .inl h) .pv
 |true=>obtain(⟨τ,hb⟩):=Na (S:=S) (k:=k) (x:=x) hl hn Ec H7;exact dy.def (r:=cR) (.of 1 rfl rfl rfl) (others:=[sT]) (λpm=>pD.binds ht pm) (lk tj [sA,sX,oV,oW,gp] ∅) rfl hb rfl (λi x h=> .inl h) .pv
def dy.Uw (right:Bool) {lo:Nat} (hk:qq key) (hg:sv S k O key g) (hl:IsL O d l) (tY:∀(i:Nat) (y:PV),l[i]? =aa y->g y=aa (ns.getD i 0)) (cI: ↑ns= ↑l) (hn: ↑ns<2 ^ 30) (Ec:lo<= ↑ns) (H7:∀h,hi=aa h->h<= ↑ns)
  (ht:mX tl (.pv (.int lo)) (.pv (Lm hi))):dy S (k+1) O (.pv (.con (.ref (Jf right).addr))) (d:: .pv (.int x)::tl) [(gp,key)] (.pv (.int (mB right ns x lo hi))) O:=by
 induction right with
 |false=>obtain(⟨τ,hb⟩):=Jd (S:=S) (k:=k) (x:=x) hk hg hl tY cI hn Ec H7;exact dy.def (r:=fj) (.of 3 rfl rfl rfl) (others:=[sT]) (λpm=>pC.yu ht pm) (lk sU [sA,sX,oV,oW,gp] ∅) rfl hb rfl (λi x h=> .inl h) .pv
 |true=>obtain(⟨τ,hb⟩):=Je (S:=S) (k:=k) (x:=x) hk hg hl tY cI hn Ec H7;exact dy.def (r:=cR) (.of 1 rfl rfl rfl) (others:=[sT]) (λpm=>pD.yu ht pm) (lk tj [sA,sX,oV,oW,gp] ∅) rfl hb rfl (λi x h=> .inl h) .pv
def Ev.uq {id:String} (KR:Slot "list" name id) (hty:typeOf (.builtin id)=pure (.type "method_descriptor"))
  (h:Ev S k O ae o d O) (hl:IsL O d l) (ha:ck S k O ae args ds) (hv:nu S k O (.builtin id) (d::ds) r bv) (ik:∀env,attributeBase o name env (eval o env)=eval o env) (gC:(jz.endLine==pos.line)=true) (hn: ↑args<30):
  Ev S k O ae (.Call (.Attribute o name jz) args [] pos) r bv:=by
 refine⟨hv.len,λA c s env hA hE R E Q hQ=> ?_⟩;refine eJ (ik env) (A9 ha pos env hn) gC (h.run A c s env hA hE R _ _ λc1 v1 s1 l1 R1 K1 a1=> ?_);left;let ⟨a,vs,m,rfl,ho,hs,_⟩:=hl.at R1 a1;right;refine⟨"list",id,F.plainAttrs_list,KR,hty,⟨_,ho,rfl⟩,λb e=>by cases e;exact⟨_,ho,rfl⟩,cX (noStar ha pos env) ?_⟩;refine ef ha _ pos A c1 s1 env hA (hE.mono l1 (ab _)) R1 _ _ λc2 vs s2 l2 R2 K2 a2=> ?_;exact hv.run A c2 s2 (_::vs) hA R2 (.cons (a1.mono l2 (ab _)) a2) E Q λc3 v3 s3 l3 R3 K3 a3=>hQ c3 v3 s3 ((l1.trans l2 (ab _)).trans l3 (ab _)) R3 ((K1.trans K2).trans K3) a3
def tr:pT dO.scope [sA,sX,oV,oW,gp]:=pT.of tt
def tu:pT cQ.scope [sA,sX,oV,oW,gp]:=pT.of tt
def Qa (p:Nat->Bool) (n:Nat):∀(lo hi:Nat) (m:Option AV),lo<=hi->(pf p n lo hi m).1<=hi:=by
 induction n with
 |zero=>intro lo hi m h;exact h
 |succ n ih=>
  intro lo hi m h;rw[Ey];by_cases h1:lo<hi
  ·rw[if_pos h1];by_cases h2:p ((lo+hi)/2)=true
   ·rw[if_pos h2];exact ih _ _ _ (abM h1)
   ·rw[if_neg h2];exact aA (ih _ _ _ (abN h1)) (abO h1)
  ·rw[if_neg h1];exact h
def xl (right:Bool) (ns:List Int) (x:Int):mB right ns x 0 ac<= ↑ns:=Qa _ _ _ _ _ (cJ _)
def Bm:me dO.scope [ah "bisect_left"]:=me.of tt
def Nb (hi:O[i]? =aa (.list (ns.map PV.int))) (hn: ↑ns<100000):
  ∃τ,cH S (k+1) (O++[.ns [(sA,aa (.fM i)),(sX,~~~(.int x)),(oV,~~~(.int 0)),(oW,~~~PV.none),(gp,~~~PV.none)]])
   (dO.env (↑O+0)) dO.body .next (O.set i (.list (uR (mB false ns x 0 ac) (.int x) (ns.map PV.int)))++τ):=by
 have h1:=tr;have h2:=Bm;have hl:IsL O (.fM i) (ns.map PV.int):= .fM hi;apply fY;apply cH.cons (bw:=O++[.ns [(sA,aa (.fM i)),(sX,~~~(.int x)),(oV,~~~(.int (mB false ns x 0 ac))),(oW,~~~PV.none),(gp,~~~PV.none)]])
 ·walk_at "g";apply cH.cons
  ·apply iX.assign
   ·apply Ev.md (r:=fj) pC.mem
    ·apply Ev.CL (by assumption)
     ·rfl
     ·walk_at "a"
     ·show(_,aa (eL 222))∈cg;unfold cg;walk_at "a"
     ·rfl
    ·apply ck.cons
     ·walk_at "b"
     ·apply ck.cons
      ·walk_at "b"
      ·apply ck.cons
       ·walk_at "b"
       ·apply ck.cons
        ·walk_at "b"
        ·exact .nil
        ·rfl
       ·rfl
      ·rfl
     ·rfl
    ·exact .nil
    ·exact dy.Yt (S:=S) (k:=k) false (lo:=0) (hi:=ac) hl.CA (KY hn) (cJ _) (λq h=>by cases h) .four
   ·apply j4.AU h1
    ·rfl
    ·walk_at "a"
    ·walk_at "e"
    ·walk_at "c"
    ·walk_at "d"
   ·intro _ _;rfl
  ·exact cH.nil
 apply cH.cons
 ·apply iX.expr
  ·apply Ev.uq (id:= "list.insert") F.slot_list_insert F.type_list_insert
   ·walk_at "b"
   ·exact hl.CA
   ·apply ck.cons
    ·walk_at "b"
    ·apply ck.cons
     ·walk_at "b"
     ·exact .nil
     ·rfl
    ·rfl
   ·exact nu.insert rfl (gA hi) (by rw[aw];exact Wc hn) (by rw[aw];exact xl ..)
   ·intro _;rfl
   ·rfl
   ·decide
  ·exact pp
 rw[kE _ _ (getElem?_lt' hi)];exact cH.nil
def GX:me cQ.scope [ah "bisect_right"]:=me.of tt
def Nc (hi:O[i]? =aa (.list (ns.map PV.int))) (hn: ↑ns<100000):
  ∃τ,cH S (k+1) (O++[AO.ns [(sA,aa (.fM i)),(sX,~~~(.int x)),(oV,~~~(.int 0)),(oW,~~~PV.none),(gp,~~~PV.none)]])
   (cQ.env (↑O+0)) cQ.body .next (O.set i (.list (uR (mB true ns x 0 ac) (.int x) (ns.map PV.int)))++τ):=by
 have h1:=tu;have h2:=GX;have hl:IsL O (.fM i) (ns.map PV.int):= .fM hi;apply fY;apply cH.cons (bw:=O++[AO.ns [(sA,aa (.fM i)),(sX,~~~(.int x)),(oV,~~~(.int (mB true ns x 0 ac))),(oW,~~~PV.none),(gp,~~~PV.none)]])
 ·walk_at "g";apply cH.cons
  ·apply iX.assign
   ·apply Ev.md (r:=cR) pD.mem
    ·apply Ev.CL (by assumption)
     ·rfl
     ·walk_at "a"
     ·show(_,aa (eL 204))∈cg;unfold cg;walk_at "a"
     ·rfl
    ·apply ck.cons
     ·walk_at "b"
     ·apply ck.cons
      ·walk_at "b"
      ·apply ck.cons
       ·walk_at "b"
       ·apply ck.cons
        ·walk_at "b"
        ·exact .nil
        ·rfl
       ·rfl
      ·rfl
     ·rfl
    ·exact .nil
    ·exact dy.Yt (S:=S) (k:=k) true (lo:=0) (hi:=ac) hl.CA (KY hn) (cJ _) (λq h=>by cases h) .four
   ·apply j4.AU h1
    ·rfl
    ·walk_at "a"
    ·walk_at "e"
    ·walk_at "c"
    ·walk_at "d"
   ·intro _ _;rfl
  ·exact cH.nil
 apply cH.cons
 ·apply iX.expr
  ·apply Ev.uq (id:= "list.insert") F.slot_list_insert F.type_list_insert
   ·walk_at "b"
   ·exact hl.CA
   ·apply ck.cons
    ·walk_at "b"
    ·apply ck.cons
     ·walk_at "b"
     ·exact .nil
     ·rfl
    ·rfl
   ·exact nu.insert rfl (gA hi) (by rw[aw];exact Wc hn) (by rw[aw];exact xl ..)
   ·intro _;rfl
   ·rfl
   ·decide
  ·exact pp
 rw[kE _ _ (getElem?_lt' hi)];exact cH.nil
def Jg (hk:qq key) (hg:sv S k O key g) (hi:O[i]? =aa (.list l)) (tY:∀(j:Nat) (z:PV),l[j]? =aa z->g z=aa (ns.getD j 0)) (cI: ↑ns= ↑l) (hn: ↑ns<100000) (hx:g y=aa x):
  ∃τ,cH S (k+1) (O++[AO.ns [(sA,aa (.fM i)),(sX,~~~y),(oV,~~~(.int 0)),(oW,~~~PV.none),(gp,aa key)]])
   (dO.env (↑O+0)) dO.body .next (O.set i (.list (uR (mB false ns x 0 ac) y l))++τ):=by
 have h1:=tr;have h2:=Bm;have hl:IsL O (.fM i) l:= .fM hi;have wD:sv S k (O++[AO.ns [(sA,aa (.fM i)),(sX,~~~y),(oV,~~~(.int 0)),(oW,~~~PV.none),(gp,aa key)]]) key g:=λbv h' d j hd=>hg bv (λj hj=>(h' j (by rw[aj];exact om6 hj)).trans (pB j hj)) d j hd;apply fY;apply cH.cons (bw:=O++[AO.ns [(sA,aa (.fM i)),(sX,~~~y),(oV,~~~(.int (mB false ns x 0 ac))),(oW,~~~PV.none),(gp,aa key)]])
 ·apply iX.if (b:=false)
  ·apply oA.js
   ·walk_at "b"
   ·walk_at "b"
   ·exact zO.ra hk
   ·rfl
  apply cH.cons
  ·apply iX.assign
   ·apply Ev.md (r:=fj) pC.mem
    ·apply Ev.CL (by assumption)
     ·rfl
     ·walk_at "a"
     ·show(_,aa (eL 222))∈cg;unfold cg;walk_at "a"
     ·rfl
    ·apply ck.cons
     ·walk_at "b"
     ·apply ck.cons
      ·apply Ev.A4 (k:=k)
       ·apply Ev.pA rfl hk
        ·walk_at "b"
        ·apply ck.cons
         ·walk_at "b"
         ·exact .nil
         ·rfl
        ·exact wD _ (λq q=>rfl) y _ hx
       ·exact Gl
      ·apply ck.cons
       ·walk_at "b"
       ·apply ck.cons
        ·walk_at "b"
        ·exact .nil
        ·rfl
       ·rfl
      ·rfl
     ·rfl
    ·apply pe.cons
     ·walk_at "b"
     ·exact .nil
    ·exact dy.Uw (S:=S) (k:=k) false (lo:=0) (hi:=ac) hk wD hl.CA tY cI (KY hn) (cJ _) (λq h=>by cases h) .four
   ·apply j4.AU h1
    ·rfl
    ·walk_at "a"
    ·walk_at "e"
    ·walk_at "c"
    ·walk_at "d"
   ·intro _ _;rfl
  ·exact cH.nil
 apply cH.cons
 ·apply iX.expr
  ·apply Ev.uq (id:= "list.insert") F.slot_list_insert F.type_list_insert
   ·walk_at "b"
   ·exact hl.CA
   ·apply ck.cons
    ·walk_at "b"
    ·apply ck.cons
     ·walk_at "b"
     ·exact .nil
     ·rfl
    ·rfl
   ·exact nu.insert rfl (gA hi) (Wd hn cI) (cI▸(xl ..))
   ·intro _;rfl
   ·rfl
   ·decide
  ·exact pp
 rw[kE _ _ (getElem?_lt' hi)];exact cH.nil
def Jh (hk:qq key) (hg:sv S k O key g) (hi:O[i]? =aa (.list l)) (tY:∀(j:Nat) (z:PV),l[j]? =aa z->g z=aa (ns.getD j 0)) (cI: ↑ns= ↑l) (hn: ↑ns<100000) (hx:g y=aa x):
  ∃τ,cH S (k+1) (O++[AO.ns [(sA,aa (.fM i)),(sX,~~~y),(oV,~~~(.int 0)),(oW,~~~PV.none),(gp,aa key)]])
   (cQ.env (↑O+0)) cQ.body .next (O.set i (.list (uR (mB true ns x 0 ac) y l))++τ):=by
 have h1:=tu;have h2:=GX;have hl:IsL O (.fM i) l:= .fM hi;have wD:sv S k (O++[AO.ns [(sA,aa (.fM i)),(sX,~~~y),(oV,~~~(.int 0)),(oW,~~~PV.none),(gp,aa key)]]) key g:=λbv h' d j hd=>hg bv (λj hj=>(h' j (by rw[aj];exact om6 hj)).trans (pB j hj)) d j hd;apply fY;apply cH.cons (bw:=O++[AO.ns [(sA,aa (.fM i)),(sX,~~~y),(oV,~~~(.int (mB true ns x 0 ac))),(oW,~~~PV.none),(gp,aa key)]])
 ·apply iX.if (b:=false)
  ·apply oA.js
   ·walk_at "b"
   ·walk_at "b"
   ·exact zO.ra hk
   ·rfl
  apply cH.cons
  ·apply iX.assign
   ·apply Ev.md (r:=cR) pD.mem
    ·apply Ev.CL (by assumption)
     ·rfl
     ·walk_at "a"
     ·show(_,aa (eL 204))∈cg;unfold cg;walk_at "a"
     ·rfl
    ·apply ck.cons
     ·walk_at "b"
     ·apply ck.cons
      ·apply Ev.A4 (k:=k)
       ·apply Ev.pA rfl hk
        ·walk_at "b"
        ·apply ck.cons
         ·walk_at "b"
         ·exact .nil
         ·rfl
        ·exact wD _ (λq q=>rfl) y _ hx
       ·exact Gl
      ·apply ck.cons
       ·walk_at "b"
       ·apply ck.cons
        ·walk_at "b"
        ·exact .nil
        ·rfl
       ·rfl
      ·rfl
     ·rfl
    ·apply pe.cons
     ·walk_at "b"
     ·exact .nil
    ·exact dy.Uw (S:=S) (k:=k) true (lo:=0) (hi:=ac) hk wD hl.CA tY cI (KY hn) (cJ _) (λq h=>by cases h) .four
   ·apply j4.AU h1
    ·rfl
    ·walk_at "a"
    ·walk_at "e"
    ·walk_at "c"
    ·walk_at "d"
   ·intro _ _;rfl
  ·exact cH.nil
 apply cH.cons
 ·apply iX.expr
  ·apply Ev.uq (id:= "list.insert") F.slot_list_insert F.type_list_insert
   ·walk_at "b"
   ·exact hl.CA
   ·apply ck.cons
    ·walk_at "b"
    ·apply ck.cons
     ·walk_at "b"
     ·exact .nil
     ·rfl
    ·rfl
   ·exact nu.insert rfl (gA hi) (Wd hn cI) (cI▸(xl ..))
   ·intro _;rfl
   ·rfl
   ·decide
  ·exact pp
 rw[kE _ _ (getElem?_lt' hi)];exact cH.nil
def vj (right:Bool) (ns:List Int) (x:Int) (y:PV) (l:List PV):List PV:=uR (mB right ns x 0 ac) y l
def dy.ins (right:Bool) (hi:O[i]? =aa (.list (ns.map PV.int))) (hn: ↑ns<100000):
  dy S (k+2) O (.pv (.con (.ref (P9 right).addr))) [.fM i,.pv (.int x)] [] (.pv PV.none) (O.set i (.list (vj right ns x (.int x) (ns.map PV.int)))):=by
 have fl:∀(j:Nat) (y:AO) (z:List PV),(O.set i (.list z))[j]? =aa y->O[j]? =aa y\/y.flat=true:=λj y z h=>by
  by_cases Kq:i=j
  ·subst Kq;rw[bU (getElem?_lt' hi)]at h;obtain rfl:=ag h;exact .inr rfl
  ·rw[bE Kq]at h;exact .inl h
 induction right with
 |false=>obtain(⟨τ,hb⟩):=Nb (S:=S) (k:=k) (x:=x) hi hn;exact dy.def (r:=dO) (.of 2 rfl rfl rfl) (others:=[]) (λpm=>tm.binds .two pm) (lk tr [sA,sX,oV,oW,gp] ∅) rfl hb bi (λj y h=>fl j y _ h) .pv
 |true=>obtain(⟨τ,hb⟩):=Nc (S:=S) (k:=k) (x:=x) hi hn;exact dy.def (r:=cQ) (.of 0 rfl rfl rfl) (others:=[]) (λpm=>rb.binds .two pm) (lk tu [sA,sX,oV,oW,gp] ∅) rfl hb bi (λj y h=>fl j y _ h) .pv
def dy.afz (right:Bool) (hk:qq key) (hg:sv S k O key g) (hi:O[i]? =aa (.list l)) (tY:∀(j:Nat) (z:PV),l[j]? =aa z->g z=aa (ns.getD j 0)) (cI: ↑ns= ↑l) (hn: ↑ns<100000) (hx:g y=aa x):
  dy S (k+2) O (.pv (.con (.ref (P9 right).addr))) [.fM i,.pv y] [(gp,key)] (.pv PV.none) (O.set i (.list (vj right ns x y l))):=by
 have fl:∀(j:Nat) (y:AO) (z:List PV),(O.set i (.list z))[j]? =aa y->O[j]? =aa y\/y.flat=true:=λj y z h=>by
  by_cases Kq:i=j
  ·subst Kq;rw[bU (getElem?_lt' hi)]at h;obtain rfl:=ag h;exact .inr rfl
  ·rw[bE Kq]at h;exact .inl h
 induction right with
 |false=>obtain(⟨τ,hb⟩):=Jg (S:=S) (k:=k) hk hg hi tY cI hn hx;exact dy.def (r:=dO) (.of 2 rfl rfl rfl) (others:=[]) (λpm=>tm.yu .two pm) (lk tr [sA,sX,oV,oW,gp] ∅) rfl hb bi (λj y h=>fl j y _ h) .pv
 |true=>obtain(⟨τ,hb⟩):=Jh (S:=S) (k:=k) hk hg hi tY cI hn hx;exact dy.def (r:=cQ) (.of 0 rfl rfl rfl) (others:=[]) (λpm=>rb.yu .two pm) (lk tu [sA,sX,oV,oW,gp] ∅) rfl hb bi (λj y h=>fl j y _ h) .pv
def vm {pos jW:Pos} (l:Vs) (h:u5 l) (hc:codeAmong jW (l++[rawInt pos.line,rawInt pos.col,c])=aa cd):codeAmong jW l=aa cd\/cd=c:=by
 fun_induction u5 l with
 |case1=>
  simp only[gh,rawInt,codeAmong]at hc;split at hc
  ·obtain rfl:=ag hc;exact .inr rfl
  ·nomatch hc
 |case2 a t b u x rest ih=>
  simp only[sG,codeAmong]at hc⊢;split at hc
  ·rename_i hh;rw[if_pos hh];exact .inl hc
  ·rename_i hh;rw[if_neg hh];exact ih h hc
 |case3=>exact h.elim
def CP {pos jW:Pos} (l:Vs) (h:u5 l) (hn:codeAmong jW l=ac) (hp:(pos.line==jW.line&&pos.col==jW.col)=false):codeAmong jW (l++[rawInt pos.line,rawInt pos.col,c])=ac:=by
 fun_induction u5 l with
 |case1=>
  simp only[gh,rawInt,codeAmong];split
  ·rename_i hh;simp only[dj,beq_iff_eq,Int.natCast_inj]at hh;simp[hh.1,hh.2]at hp
  ·rfl
 |case2 a t b u x rest ih=>
  simp only[sG,codeAmong]at hn⊢;split at hn
  ·nomatch hn
  ·rename_i hh;rw[if_neg hh];exact ih h hn
 |case3=>exact h.elim
def Qb:∀r∈cm,∀q∈cm,r.2=q.2->r.1=q.1:=by decide
def Rel.LG (R:Rel S c O h) (hq:q∈cm) (hx:∀b o,b≠q.2->h.get? b=aa o->h'.get? b=aa o) (hP:h'.get? q.2=aa (tableObj ps)) (ht:u5 ps.toList/\(S.yN=true->q.1=324->codeAmong wM ps.toList=ac))
  (hF:∀a o,c.F a=aa o->c'.F a=aa o) (hF':∀a o,c'.F a=aa o->h'.get? a=aa o/\(c.F a=aa o\/h.objs.size<=a)) (Eb:c'.Z=c.Z) (ZK:c'.pin=c.pin)
  (C7:∀pos cd,codeAmong pos ps.toList=aa cd->za c'.F cd):Rel S c' O h':=by
 let ⟨t1,t2,_⟩:=R.tabs q hq;refine⟨λa o e=>(hF' a o e).1,λa o e k=>hF _ _ (R.base a o e k),λi ao e=> ?_,λi hi=> ?_,λi j hi hj e=>R.inj i j hi hj (Eb▸e),λa o e=> ?_,λr hr=> ?_⟩
 ·let ⟨o,p,x⟩:=R.own i ao e;refine⟨o,by exact Eb▸(hx _ _ (t2 i (getElem?_lt' e))) p,x.j8 hF (λj z=>by rw[Eb]) (ab _)⟩
 ·rw[Eb];cases e:c'.F (c.Z i)with
  |none=>rfl
  |some o=>
   rcases(hF' _ _ e).2 with e'|e'
   ·rw[R.apart i hi]at e';nomatch e'
   ·exact absurd (R.MI hi) (fC.mpr e')
 ·rw[ZK]at e;let ⟨p1,p2,p3,p4⟩:=R.pins a o e;refine⟨hx _ _ (λe'=>p4 q hq e'.symm) p1,?_,λi hi=>by rw[Eb];exact p3 i hi,p4⟩;cases e2:c'.F a with
  |none=>rfl
  |some y=>
   rcases(hF' _ _ e2).2 with e'|e'
   ·rw[p2]at e';nomatch e'
   ·exact absurd (bW p1) (fC.mpr e')
 ·let ⟨a1,a2,ps',a3,a4,a5⟩:=R.tabs r hr;have hn:c'.F r.2=ac:=by
   cases e2:c'.F r.2 with
   |none=>rfl
   |some y=>
    rcases(hF' _ _ e2).2 with e'|e'
    ·rw[a1]at e';nomatch e'
    ·exact absurd (R.Gp hr) (fC.mpr e')
  by_cases hrq:r.2=q.2
  ·exact⟨hn,λi hi=>by rw[Eb];exact a2 i hi,ps,by rw[hrq];exact hP,⟨ht.1,λhs e=>ht.2 hs ((Qb r hr q hq hrq).symm.trans e)⟩,C7⟩
  ·exact⟨hn,λi hi=>by rw[Eb];exact a2 i hi,ps',hx _ _ hrq a3,a4,λpos cd hc=>(a5 pos cd hc).mono hF⟩
def Ev.EY (hq:q∈cm) (og:ae.code=aa q.1) (Sv:S.yN=true->q.1=324->(pos.line==wM.line&&pos.col==wM.col)=false) (SQ:∀env,defaultsOf params env=([],[])) (Ic:kg ae.cells scope.names []=aa cl):
  Ev S k O ae (.Lambda params body scope pos) (.tz params body scope cl) O:=by
 refine⟨ab _,λA c s env hA hE R E Q hQ=> ?_⟩;refine kla_eval (SQ env) ?_;have Ee:closureFor scope env=pure (cl.map λp=>(p.1,c.Z p.2)):=by refine mV ?_;rw[hE.cells];exact qW c.Z ae.cells scope.names [] cl Ic
 have sJ:∀p∈cl,p.2< ↑O:=td hE.jr scope.names [] cl (λp hp=>by cases hp) Ic;left;let ⟨mg,Gb,hm⟩:=S.glob;let ⟨ob,FO,OP,Ms,hb3⟩:=S.bmod;let ⟨t1,t2,ps,hP,⟨ht,Iq⟩,C7⟩:=R.tabs q hq;have Ko:=R.vg Gb ∅;right;have ZL:mg "__builtins__" =aa (.ref 4):=by have:=hm (ah "__builtins__",aa (.ref 4)) (by unfold cg;walk_at "a");exact this
 have agQ:∀q∈cm,(4:Addr)≠q.2:=by decide
 have hB:s.heap.BuiltinsAt mg q.2:=⟨4,ob,ZL,by decide,by decide,agQ q hq,R.old FO agQ,OP,Ms,hb3⟩;have hC:CodeHd s.heap q.1 q.2:=by left;let ⟨_,o,vs,f1,f2,f3,f4,f5,f6,f7,e1,r⟩:=S.tabs q hq;right;exact⟨o,vs,f1,f2,f3,f4,f5,f6,f7,R.old e1 ((by decide:∀r∈cm,∀q∈cm,r.1≠q.2) q hq),r⟩
 have Kv:=hE.code _ og;have fin:∀(c1:aM) (h':iR) (cdv:Value) (Mu:Value) (tk:Dd),aM.le ↑O c c1->Rel S c1 O h'->za c1.F cdv->
   Q (.ref h'.objs.size) {s with heap:=h'.push {cls:= .type "function",data:= .func (S4 "<lambda>" (env.qual++ "<lambda>") params body scope (cl.map λp=>(p.1,c.Z p.2)) ((mg "__name__").getD .none) cdv Mu)},toks:=tk}:=by
  intro c1 h' cdv Mu tk l1 R1 hcf;have hF:=R1.oz (ab h'.objs.size);refine hQ (c1.put h'.objs.size _) _ _ (l1.trans (aM.dC hF) (ab _)) (R1.put (o:= {cls:= .type "function",data:= .func (S4 "<lambda>" (env.qual++ "<lambda>") params body scope (cl.map λp=>(p.1,c.Z p.2)) ((mg "__name__").getD .none) cdv Mu)}) (λb o e=>aJ _ e) (ab _) (aV _ rfl)) (.heap ..) ?_;refine .tz ⟨if_pos rfl,rfl,rfl,rfl,rfl,rfl,rfl,hcf.mono (aM.dC (n:=0) hF).F,rfl,rfl,rfl,cj λp hp=> ?_⟩ sJ;show(p.1,c.Z p.2)=(p.1,c1.Z p.2);rw[l1.Z _ (sJ p hp)]
 cases hca:codeAmong pos ps.toList with
 |some cv=>refine kla_makeFunctionHit Ee hE.globals Ko Kv hC hP ht hca hB λMu h' tk hk z=> ?_;exact fin c h' cv Mu tk (.refl ..) (R.ext hk) (C7 _ _ hca)
 |none=>
  refine kla_makeFunction Ee hE.globals Ko Kv hC hP ht hca ((by decide:∀q∈cm,mainGlobals≠q.2) q hq) hB λc' Mu h' tk hx AC kW Kw htb=> ?_;left;let ⟨c2,oc,vs,tq,e2,Mv,Xx,hvc⟩:=Kw;right;cases e2;have hF:=R.oz AC;have sM:∀b o,b≠q.2->s.heap.get? b=aa o->h'.get? b=aa o:=λb o hb e=>hx b o hb e;have hcF:za (c.put c' oc).F (.ref c'):=⟨c',oc,vs,_,_,rfl,if_pos rfl,Xx,hvc⟩;have R1:Rel S (c.put c' oc) O h':=R.LG hq sM htb ⟨by rw[lq];exact TriplesOk_snoc _ _ _ _ ht,λhs Tt=>by rw[lq];exact CP _ ht (Iq hs Tt) (Sv hs Tt)⟩ (aM.dC (n:=0) hF).F (λa o e=>by
    have e':(if a=c' then aa oc else c.F a)=aa o:=e;by_cases ha:a=c'
    ·rw[if_pos ha]at e';cases e';subst ha;exact⟨Mv,.inr AC⟩
    ·rw[if_neg ha]at e';exact⟨sM _ _ (λh=>by rw[h,t1]at e';cases e') (R.frozen _ _ e'),.inl e'⟩) rfl rfl λjW cd hc=>by
    rw[lq]at hc;rcases vm _ ht hc with h|h
    ·exact(C7 _ _ h).mono (aM.dC (n:=0) hF).F
    ·subst h;exact hcF
  exact fin _ h' (.ref c') Mu tk (aM.dC hF) R1 hcF
def GY (SO:A.depth<recursionLimit) (ho:s.heap.get? a=aa o)
  (AB:o.data= .func fd) (VH:fd.scope.isCoroutine=false) (FV:fd.scope.isGenerator=false) (dX:fd.body= .expr body) (C7:fd.code= .ref c') (Mv:s.heap.get? c'=aa oc) (Xx:oc.data= .fields vs) (hq:vs[1]? =aa (.str q tq))
  (h:wpAny (MM w) A.in1 (bindArgs fd args) (λbinds eD=>wpAny (MM w) A.in1 (newFunctionEnv fd.scope fd.globals fd.closure binds (q++ ".<locals>.") (aa a) fd.code ac fd.builtins)
    (λenv rr=>rr.heap.NoLimit/\codeAny (MM w) A (.expr body env) R rr) (λe s'=>R (.error e) s') eD) (λe s'=>R (.error e) s') s):
  codeAny (MM w) A (.call (.ref a) args) R s:=by
 refine eZ ?_;show wpAny _ A.in1 (callAny (.ref a) args) _ _ s;simp only[callAny];refine am (KE ho ?_);simp only[AB,callFunction,VH,FV,dX,C7];rw[C7]at h;refine am (m:=field (.ref c') 1) (Gd Mv Xx hq (am (aR ?_)));exact am (gb h (λbinds eD Ia=>am (gb Ia (λenv rr Ib=>am (wpAny_enterFrame Ib.1 SO (aR (V2 rfl Ib.2)))) λz z h'=>h')) λz z h'=>h')
def dy.tz {names:List Str} (cI: ↑names= ↑args) (Xm:names.Nodup)
  (gr:∀(fd:FuncData) (vs:Vs),fd.params=params->fd.defaults= .none->fd.kwdefaults= .none-> ↑vs= ↑names->bindArgs fd ⟨vs,[]⟩=pure (names.zip vs))
  (Ir:∀x∈scope.names,x.2≠ .cell) (SI:∀x∈names,scope.names.lookup x=aa .local) (qx:scope.kind= .function) (VH:scope.isCoroutine=false) (FV:scope.isGenerator=false) (sJ:∀p∈cells,p.2< ↑O)
  (dX:Ev S k (O++[.ns (names.zip (args.map aa))]) {scope:=scope,fi:= ↑O,cells:=cells} body (.pv d) (O++τ)):dy S (k+1) O (.tz params body scope cells) args [] (.pv d) O:=by
 refine⟨ab _,λA c s fv vs kvs hA R hf ha hk H6 E Q hQ=> ?_⟩;have ZM:kvs=[]:=by induction kvs with|nil=>rfl|cons _ _=>cases hk
 subst ZM;obtain(⟨a,rfl,@⟨o,fd,h1,h2,h3,h4,h5,h6,h7,h8,h9,IH,II,OK⟩,h13⟩):=hf.Yc;left;let ⟨c',oc,vc,q,tq,e1,e2,e3,e4⟩:=h8;right;refine v8 ?_;refine GY hA.room (R.frozen _ _ h1) h3 (by rw[II];exact VH) (by rw[II];exact FV) IH e1 (R.frozen _ _ e2) e3 e4 ?_;have hvl: ↑vs= ↑names:=by rw[↑ha,cI]
 refine i6 (gr fd vs h9 h6 h7 hvl) ?_;rw[II,h4,h5,e1];refine yQ Ir (λx hx=>SI _ (by
  have:=CI hx;exact this.1)) (λh' tY Oj=> ?_) qx
 have Ol:gH s.heap.objs.size (s.heap.push {cls:= .type "frame",data:= .dict #[]}) h':=Oj;have yh:∀b o,s.heap.get? b=aa o->h'.get? b=aa o:=λb o e=>Ol.extBut b o (cM (bW e)) (aJ _ e);have Mq:(names.zip vs).map (·.1)=names:=k9 (by simp_all);let ⟨on,hon,hrn⟩:=ic.PD (w:=S.w) (c:=c.own ↑O s.heap.objs.size) (n:= ↑O+1) (m:=names.zip (args.map aa)) tY (by rw[k9 (by rw[aw];simp_all)];exact Xm)
  (λx d hx=>by
   have sM:(x,d)∈names.zip args:=by rw[OW,aQ]at hx;let ⟨⟨y,e⟩,hy,ey⟩:=hx;cases ey;exact hy
   let ⟨v,hv,hd⟩:=dg.pick (by rw[Mq,k9 (by simp_all)]) (by rw[(nJ (by simp_all)),nJ (by simp_all)];exact ha) x d sM;exact⟨v,AS _ (by rw[Mq];exact Xm) _ _ hv,hd.mono aM.jb (mu _)⟩)
  (λx hx=>by
   rw[OW,aQ]at hx;let ⟨⟨y,e⟩,hy,ey⟩:=hx;cases ey)
 refine⟨sO R.lim yh,kla_codeExpr ?_⟩;have hE:cY (c.own ↑O s.heap.objs.size) ↑(O++[AO.ns (names.zip (args.map aa))]) {scope:=scope,fi:= ↑O,cells:=cells} {scope:=scope,locals:=s.heap.objs.size,globals:=mainGlobals,cells:=fd.closure,qual:=q++ ".<locals>.",func:=aa a,code:= .ref c',frame:=aa s.heap.objs.size,builtins:=builtinsNs}:= {
  scope:=rfl
  kind:=qx
  locals:=(aM.ma c ↑O _).symm
  fi:=by rw[aj];exact eu _
  globals:=rfl
  builtins:=rfl
  cells:=OK.trans (cj λp hp=>by rw[aM.jb.Z _ (sJ p hp)])
  jr:=λp hp=>by rw[aj];exact eH (sJ p hp)
  code:=λa e=>by cases e
  frame:=⟨_,rfl⟩}
 refine dX.run _ _ _ _ hA.deeper hE (R.AR (h':=h') (o:=on) yh (ab _) hon hrn) _ _ λc1 v1 s1 l1 R2 K1 a1=> ?_;exact hQ c1 _ s1 (aM.jb.trans l1 (by rw[aj];exact bh _ _)) (R.drop R2 rfl λz z h=> .inl h) ((dY.heap s h' _).trans K1) (.pv a1.gi)
section
variable {lay:Lay}
structure kQ where
 scope:Scope
 name:Str
 sC:List (Str×Nat)
def kQ.L (ll:kQ):Lay:= {scope:=ll.scope,loc:=[ll.name],nr:=ll.sC.map (·.1),own:=0,grow:=false,code:=ac}
structure kQ.Ok (ll:kQ) (lay:Lay):Prop where
 tz:kg (lay.nr.zip (cK ↑lay.nr)) ll.scope.names []=aa ll.sC
 kind:ll.scope.kind= .function
 co:ll.scope.isCoroutine=false
 gen:ll.scope.isGenerator=false
 cell:∀x∈ll.scope.names,x.2≠ .cell
 loc:ll.scope.names.lookup ll.name=aa .local
 ndC:(ll.sC.map (·.2)).Nodup
def kQ.st (ll:kQ) (st:St) (d:PV):St:= {lv:=[~~~d],cv:=ll.sC.map λq=>(st.cv[q.2]?).join,ob:=st.ob}
def kQ.Lz (ll:kQ) (p:IF) (n:Nat):IF:= {fi:=n,ci:=ll.sC.map λq=>p.ci.getD q.2 0,oi:=p.oi}
def kQ.Ok.PX {ll:kQ} (h:ll.Ok lay):∀q∈ll.sC,q.2< ↑lay.nr:=by refine td (cells:=lay.nr.zip (cK ↑lay.nr)) (n:= ↑lay.nr) (λq hq=> ?_) _ _ _ (λq hq=>by cases hq) h.tz;have:=(CI hq).2;exact dK.mp this
def kQ.Ok.cells {ll:kQ} (h:ll.Ok lay) (Sz: ↑p.ci= ↑lay.nr):kg (lay.en p).cells ll.scope.names []=aa (ll.sC.map λq=>(q.1,p.ci.getD q.2 0)):=by
 have e:(lay.en p).cells=(lay.nr.zip (cK ↑lay.nr)).map λq=>(q.1,p.ci.getD q.2 0):=by show lay.nr.zip p.ci=_;have:=Dw (l:=lay.nr) 0 p.ci 0 [] rfl Sz.symm;rw[vz];simpa using this
 rw[e];exact qW (λi=>p.ci.getD i 0) _ _ _ _ h.tz
def kQ.Ok.at {ll:kQ} (h:ll.Ok lay) {st:St} (bc:At lay p st pH) (jM:∀i,i< ↑pH->O[i]? =pH[i]?) (wB: ↑pH<= ↑O) (d:PV):
  At ll.L (ll.Lz p ↑O) (ll.st st d) (O++[.ns ([ll.name].zip [aa (AV.pv d)])]):=by
 have Ks:=getElem?_lt' bc.frame;have Sz:∀(i n:Nat),p.ci[i]? =aa n->n< ↑pH:=by
  intro i n hn;have Gc:i< ↑st.cv:=by rw[bc.x9,<- bc.FI];exact getElem?_lt' hn
  let ⟨m,hm,hc⟩:=bc.cells i _ (aq Gc);rw[hn]at hm;obtain rfl:=ag hm;exact getElem?_lt' hc
 have Xn:∀j,j< ↑st.ob->p.oi j< ↑pH:=λj hj=>getElem?_lt' (bc.obs j _ (aq hj));have sJ:∀q∈ll.sC,∃n,p.ci[q.2]? =aa n/\p.ci.getD q.2 0=n/\n< ↑pH:=by intro q hq;have hl:=h.PX q hq;rw[<- bc.FI]at hl;exact⟨p.ci[q.2],aq hl,Ab (aq hl),Sz q.2 _ (aq hl)⟩
 have Og:∀n,n∈(ll.Lz p ↑O).ci->∃q∈ll.sC,p.ci[q.2]? =aa n/\n< ↑pH:=by intro n hn;left;let ⟨q,hq,e⟩:=aQ.mp hn;let ⟨m,h1,h2,h3⟩:=sJ q hq;right;rw[h2]at e;subst e;exact⟨q,hq,h1,h3⟩
 refine⟨?_,rfl,by simp[kQ.st,kQ.L],by simp[kQ.Lz,kQ.L],λi v hv=> ?_,λj o ho=>gA ((jM _ (Xn j (getElem?_lt' ho))).trans (bc.obs j o ho)),λhm=> ?_,λj hj e=> ?_,λj hj hm=> ?_,?_,bc.Vv,λhg=>by cases hg⟩
 ·show(O++_)[↑O]? =_;rw[aE (ab _),dc];rfl
 ·have vZ:(ll.sC.map λq=>(st.cv[q.2]?).join)[i]? =aa v:=hv;rw[bO]at vZ;simp only[ar]at vZ;left;let ⟨q,hq,rfl⟩:=vZ;let ⟨n,h1,h2,h3⟩:=sJ q (bo hq);right;refine⟨n,?_,?_⟩
  ·show(ll.sC.map λq=>p.ci.getD q.2 0)[i]? =_;rw[bO,hq,<- h2];rfl
  ·have Gc:q.2< ↑st.cv:=by rw[bc.x9,<- bc.FI];exact getElem?_lt' h1
   left;let ⟨m,hm,hc⟩:=bc.cells q.2 _ (aq Gc);right;rw[h1]at hm;obtain rfl:=ag hm;rw[aq Gc];exact gA ((jM _ h3).trans hc)
 ·let ⟨q,_,_,e⟩:=Og _ hm;have e': ↑O< ↑pH:=e;exact KZ e' wB
 ·have e':p.oi j= ↑O:=e;have:=Xn j hj;exact aaZ this e' wB
 ·let ⟨q,_,e,_⟩:=Og _ hm;exact bc.Vu j hj (bo e)
 ·show(ll.sC.map λq=>p.ci.getD q.2 0).Nodup;have key:∀l:List (Str×Nat),(∀q∈l,q∈ll.sC)->(l.map (·.2)).Nodup->(l.map λq=>p.ci.getD q.2 0).Nodup:=by
   intro l;induction l with
   |nil=>intro _ _;exact kJ
   |cons a l ih=>intro hs hn;rw[bx,fD]at hn⊢;refine⟨λhm=> ?_,ih (λq hq=>hs q (aK _ hq)) hn.2⟩;let ⟨b,hb,e⟩:=aQ.mp hm;let ⟨n1,a1,a2,_⟩:=sJ a (hs a ay);let ⟨n2,b1,b2,_⟩:=sJ b (hs b (aK _ hb));rw[a2,b2]at e;subst e;let ⟨x1,y1⟩:=eM.mp a1;let ⟨x2,y2⟩:=eM.mp b1;have:=(AI bc.Xf).mp (y1.trans y2.symm);exact hn.1 (this▸aQ.mpr ⟨b,hb,rfl⟩)
  exact key _ (λq hq=>hq) h.ndC
def yv (ll:kQ) (f:EF) (st:St) (d:PV):Option Int:=(f (ll.st st d)).bind CV.aI
def kQ.Ok.key (h:ll.Ok lay) (hf:cT S k ll.L body f) (gr:∀(fd:FuncData) (v:Value),fd.params=params->fd.defaults= .none->fd.kwdefaults= .none->bindArgs fd ⟨[v],[]⟩=pure [(ll.name,v)])
  {st:St} (bc:At lay p st pH):sv S (k+1) pH (.tz params body ll.scope (ll.sC.map λq=>(q.1,p.ci.getD q.2 0))) (yv ll f st):=by
 intro O jM d i hd;refine a9 hd λw Ks ew=> ?_;rw[CV.kI ew]at Ks;have wB: ↑pH<= ↑O:=by
  rcases bS ↑O ↑pH with h|h
  ·have:=jM ↑O h;rw[bC (ab _),aq h]at this;nomatch this
  ·exact h
 have SR:=h.at bc jM wB d;have he:=hf _ _ _ _ SR Ks;have SN:(ll.L).en (ll.Lz p ↑O)= {scope:=ll.scope,fi:= ↑O,cells:=ll.sC.map λq=>(q.1,p.ci.getD q.2 0)}:=by
  unfold Lay.en kQ.L kQ.Lz;refine iv.eq ?_;clear Ks hf gr SR he h;induction ll.sC with
  |nil=>rfl
  |cons a l ih=>simpa using ih
 rw[SN]at he;refine dy.tz (names:=[ll.name]) rfl (by simp) (λfd vs h1 h2 h3 hv=> ?_) h.cell (by intro x hx;rw[aB]at hx;subst hx;exact h.loc) h.kind h.co h.gen (λq hq=> ?_) he
 ·exact Tp (P:=λvs=>bindArgs fd ⟨vs,[]⟩=pure ([ll.name].zip vs)) (λv=>gr fd v h1 h2 h3) vs hv
 ·let ⟨q',Tt,e⟩:=aQ.mp hq;subst e;have hl:=h.PX q' Tt;rw[<- bc.FI]at hl;have h1:=aq hl;show p.ci.getD q'.2 0< ↑O;rw[Ab h1];have Gc:q'.2< ↑st.cv:=by rw[bc.x9,<- bc.FI];exact hl
  let ⟨m,hm,hc⟩:=bc.cells q'.2 _ (aq Gc);rw[h1]at hm;obtain rfl:=ag hm;exact a8 (getElem?_lt' hc) wB
end
def kQ.PW {ll:kQ} (h:decide (kg (lay.nr.zip (cK ↑lay.nr)) ll.scope.names []=aa ll.sC/\ll.scope.kind= .function/\ll.scope.isCoroutine=false/\ll.scope.isGenerator=false/\(∀x∈ll.scope.names,x.2≠ .cell)/\ll.scope.names.lookup ll.name=aa .local/\(ll.sC.map (·.2)).Nodup)=true):ll.Ok lay:=
 xe07 (of_decide_eq_true h) .mk
section
variable {lay:Lay}
def qI (right:Bool) (f1 fx:EF) (st:St):Option CV:=
 (f1 st).bind λa=>((fx st).bind CV.aI).bind λx=>(st.oB a).bind λl=>(jQ l).bind λns=>if ↑ns<1000 then ~~~(.int (mB right ns x 0 ac)) else ac
def cT.Yt (right:Bool) (hk:1<=k) (h:lay.mh f=true) (hg:(f,aa (.ref (Jf right).addr))∈cg) (h1:cT S k lay e1 f1) (h2:cT S k lay e2 fx) (n1:notStar e1=true) (n2:notStar e2=true):
  cT S k lay (.Call (.Name f np) [e1,e2] [] pos) (qI right f1 fx):=by
 intro p O st v bc hf;refine a9 hf λa ha hf=>a9 hf λx hx hf=>a9 hx λq hx e=>a9 hf λl hl hf=>a9 hf λns hn hf=> ?_;rw[CV.kI e]at hx;let ⟨hsz,rfl⟩:=dS hf;have hL:=bc.oB hl;rw[vJ hn]at hL;obtain⟨k',rfl⟩:∃k',k=k'+1:=⟨k- 1,by exact abP hk⟩;exact Ev.md (LD right).mem (Ev.Gx h hg) (.cons (h1 p O st _ bc ha) (.cons (h2 p O st _ bc hx) .nil n2) n1) .nil (dy.Yt (k:=k') right (lo:=0) (hi:=ac) hL (We hsz) (cJ _) (λq h=>by nomatch h) .two)
noncomputable def keysOf (g:PV->Option Int):List PV->Option (List Int)
 | []=>aa []
 |d::l=>(g d).bind λi=>(keysOf g l).map (i:: ·)
def tA:keysOf g (d::l)=(g d).bind λi=>(keysOf g l).map (i:: ·):=rfl
def Bn {l:List PV}:∀ {ns:List Int},keysOf g l=aa ns-> ↑ns= ↑l/\∀(j:Nat) (z:PV),l[j]? =aa z->g z=aa (ns.getD j 0):=by
 induction l with
 |nil=>intro ns h;obtain rfl:=ag h;exact⟨rfl,λj z h=>by simp at h⟩
 |cons d l ih=>
  intro ns h;rw[tA]at h;simp only[aG,ar]at h;left;let ⟨i,hi,ns',hn,rfl⟩:=h;let ⟨h1,h2⟩:=ih hn;right;refine⟨by simp[h1],λj z hz=> ?_⟩;induction j with
  |zero=>obtain rfl:=ag hz;simpa using hi
  |succ j=>simpa using h2 j z (by simpa using hz)
structure LH (S:cz) (k:Nat) (lay:Lay) (e:Expr) (ll:kQ) (f:EF):Prop where
 run:∀p O st,At lay p st O->∃key,qq key/\Ev S k O (lay.en p) e key O/\sv S (k+1) O key (yv ll f st)
def LH.mk' (i:Nat) (hq:cm[i]? =aa q) (ng:ll.Ok lay) (ZA:scope=ll.scope) (og:lay.code=aa q.1) (SQ:∀env,defaultsOf params env=([],[]))
  (gr:∀(fd:FuncData) (v:Value),fd.params=params->fd.defaults= .none->fd.kwdefaults= .none->bindArgs fd ⟨[v],[]⟩=pure [(ll.name,v)]) (hf:cT S k ll.L body f) (Sv:q.1≠324:=by decide):LH S k lay (.Lambda params body scope pos) ll f:=by
 subst ZA;exact⟨λp O st bc=>⟨_,.mk,Ev.EY (aff i hq) og (λz e=>absurd e Sv) SQ (ng.cells bc.FI),ng.key hf gr bc⟩⟩
def Bo (right:Bool) (ll:kQ) (f1 fx:EF) (f:EF) (st:St):Option CV:=
 (f1 st).bind λa=>((fx st).bind CV.aI).bind λx=>(st.oB a).bind λl=>(keysOf (yv ll f st) l).bind λns=>if ↑ns<1000 then ~~~(.int (mB right ns x 0 ac)) else ac
def Ev.Qc (h:Ev S k O ae e d O) (hk:k<=k'):pe S k' O ae [⟨aa x,e,p⟩] [(x,d)]:= .cons (h.A4 hk) .nil
def cT.Uw (right:Bool) (hk:2<=k) (h:lay.mh f=true) (hg:(f,aa (.ref (Jf right).addr))∈cg) (h1:cT S k lay e1 f1) (h2:cT S k lay e2 fx) (h3:LH S 0 lay lam ll fl) (n1:notStar e1=true) (n2:notStar e2=true):
  cT S k lay (.Call (.Name f np) [e1,e2] [⟨aa gp,lam,kp⟩] pos) (Bo right ll f1 fx fl):=by
 intro p O st v bc hf;refine a9 hf λa ha hf=>a9 hf λx hx hf=>a9 hx λq hx e=>a9 hf λl hl hf=>a9 hf λns hn hf=> ?_;rw[CV.kI e]at hx;let ⟨hsz,rfl⟩:=dS hf;left;let ⟨cI,tY⟩:=Bn hn;let ⟨key,hc,he,hko⟩:=h3.run p O st bc;right;exact Ev.md (LD right).mem (Ev.Gx h hg) (.cons (h1 p O st _ bc ha) (.cons (h2 p O st _ bc hx) .nil n2) n1) (he.Qc (abQ hk)) ((dy.Uw right (lo:=0) (hi:=ac) hc hko (bc.oB hl) tY cI (We hsz) (cJ _) (λq h=>by nomatch h) .two).A4 hk)
def zQ (right:Bool) (fo fx:EF) (st:St):Option (pu×St):=
 ((fo st).bind CV.aO).bind λj=>((fx st).bind CV.aI).bind λx=>(Tj st.ob[j]?).bind λl=>(jQ l).bind λns=>if ↑ns<1000 then aa (.next,qY j (.list (vj right ns x (.int x) l)) st) else ac
def mw.ins (right:Bool) (hk:2<=k) (h:lay.mh f=true) (hg:(f,aa (.ref (P9 right).addr))∈cg) (h1:cT S k lay e1 fo) (h2:cT S k lay e2 fx) (n1:notStar e1=true) (n2:notStar e2=true)
  (hs:swapsWith (.Call (.Name f np) [e1,e2] [] pos) ac FQ.line=λq=>pure false):mw S k lay (.Expr (.Call (.Name f np) [e1,e2] [] pos) FQ) (zQ right fo fx):=by
 intro p O st fl cf bc hf;refine a9 hf λj hj hf=>a9 hj λq hj e1=>a9 hf λx hx hf=>a9 hx λq hx e2=>a9 hf λl hl hf=>a9 hf λns hn hf=> ?_;rw[CV.kO e1]at hj;rw[CV.kI e2]at hx;replace hl:=ul hl;let ⟨hsz,hf⟩:=dS hf;let ⟨rfl,rfl⟩:=bH hf;let ⟨b,c⟩:=bc.Bh hl (.list (vj right ns x (.int x) l));have FO:=bc.obs j _ hl;have hl':=vJ hn;rw[hl']at FO;obtain⟨k',rfl⟩:∃k',k=k'+2:=⟨k- 2,by exact abR hk⟩;refine⟨_,iX.expr (d:= .pv PV.none) (Ev.md (LF right).mem (Ev.Gx h hg) (.cons (h1 p O st _ bc hj) (.cons (h2 p O st _ bc hx) .nil n2) n1) .nil ?_) hs,b,c⟩;have:=dy.ins (S:=S) (k:=k') right (x:=x) FO (K0 hsz);rw[<- hl']at this;exact this
def Bp (right:Bool) (ll:kQ) (fo fx fl:EF) (st:St):Option (pu×St):=
 ((fo st).bind CV.aO).bind λj=>((fx st).bind CV.aP).bind λy=>(Tj st.ob[j]?).bind λl=>(keysOf (yv ll fl st) l).bind λns=>(yv ll fl st y).bind λx=>if ↑ns<1000 then aa (.next,qY j (.list (vj right ns x y l)) st) else ac
def mw.afz (right:Bool) (hk:3<=k) (h:lay.mh f=true) (hg:(f,aa (.ref (P9 right).addr))∈cg) (h1:cT S k lay e1 fo) (h2:cT S k lay e2 fx) (h3:LH S 0 lay lam ll fl) (n1:notStar e1=true) (n2:notStar e2=true)
  (hs:swapsWith (.Call (.Name f np) [e1,e2] [⟨aa gp,lam,kp⟩] pos) ac FQ.line=λq=>pure false):mw S k lay (.Expr (.Call (.Name f np) [e1,e2] [⟨aa gp,lam,kp⟩] pos) FQ) (Bp right ll fo fx fl):=by
 intro p O st fl' cf bc hf;refine a9 hf λj hj hf=>a9 hj λq hj e1=>a9 hf λy hy hf=>a9 hy λq hy e2=>a9 hf λl hl hf=>a9 hf λns hn hf=>a9 hf λx hx hf=> ?_;rw[CV.kO e1]at hj;rw[CV.kP e2]at hy;replace hl:=ul hl;let ⟨hsz,hf⟩:=dS hf;let ⟨rfl,rfl⟩:=bH hf;left;let ⟨b,c⟩:=bc.Bh hl (.list (vj right ns x y l));let ⟨cI,tY⟩:=Bn hn;let ⟨key,hc,he,hko⟩:=h3.run p O st bc;right;exact⟨_,iX.expr (Ev.md (LF right).mem (Ev.Gx h hg) (.cons (h1 p O st _ bc hj) (.cons (h2 p O st _ bc hy) .nil n2) n1) (he.Qc (abS hk)) ((dy.afz right hc hko (bc.obs j _ hl) tY cI (K0 hsz) hx).A4 hk)) hs,b,c⟩
end
section
variable {lay:Lay}
def zR (f:EF) (st:St):Option (List PV):=((f st).bind CV.aS).bind λx=>if x.cps.all (· <128)=true then aa ((iY 0 false x.cps.toList).map lR) else ac
def zP.esc (h:lay.mh f=true) (hg:(f,aa (.ref rE.addr))∈cg) (he:cT S k lay e g) (hs:notStar e=true):zP S k lay (.Call (.Name f np) [e] [] pos) (zR g):=by intro p O st xs bc hf;refine a9 hf λx hx hf=>a9 hx λq hx e=> ?_;rw[CV.kS e]at hx;let ⟨ha,rfl⟩:=dS hf;exact la.esc (Ev.Gx h hg) (he p O st _ bc hx) hs ha trivial
end
structure Ji (S:cz) (k:Nat) (O:List AO) (ae:iv) (Vy:List Stmt) (ds:List AV) (bv:List AO):Prop where
 len: ↑O<= ↑bv
 run:∀A c s env,jG k A->cY c ↑O ae env->Rel S c O s.heap->∀(E:VS) (Q:Cq->bb->Prop),
  (∀c' a vs s',aM.le ↑O c c'->Rel S c' bv s'.heap->dY s s'->c'.F a=aa {cls:= .type "tuple",data:= .seq vs}->dg S.w c' ↑bv vs.toList ds->Q (.ret (.ref a)) s')->wpAny (MM S.w) A (execs Vy env) Q E s
def Ji.cons (h1:iX S k O ae st .next bw) (h2:Ji S k bw ae rest ds bQ):Ji S k O ae (st::rest) ds bQ:=
 ⟨aA h1.len h2.len,λA c s env hA hE R E Q hQ=>da (h1.run A c s env hA hE R _ _ λc1 v1 s1 l1 R1 K1 f1=>by
  obtain rfl:=f1.wV;exact h2.run A c1 s1 env hA (hE.mono l1 h1.len) R1 E Q λc2 a vs s2 l2 R2 K2 hF a2=>hQ c2 a vs s2 (l1.trans l2 h1.len) R2 (K1.trans K2) hF a2)⟩
def Ji.ret (h:vI S k ae O es ds bv) (hsz: ↑es<=1000):Ji S k O ae [.Return (aa (.Tuple es n tZ)) pos] ds bv:=
 ⟨h.len,λA c s env hA hE R E Q hQ=>da (wpAny_Return_some (h.tuple hsz A c s env hA hE R _ _ λc' a vs s' l1 R1 K1 hF a1=>hQ c' a vs s' l1 R1 K1 hF a1))⟩
section
variable {lay:Lay}
def Jj (S:cz) (k:Nat) (lay:Lay) (ss:List Stmt) (F:St->Option (List CV×St)):Prop:=
 ∀p O st vs cf,At lay p st O->F st=aa (vs,cf)->∃bv,Ji S k O (lay.en p) ss (vs.map (CV.av p.oi)) bv/\At lay p cf bv/\kr lay p st cf O bv
noncomputable def nxt:Option (pu×St)->Option St
 |some (.next,st1)=>aa st1
 |some (.ret _,_)=>ac
 |none=>ac
def LI (h:nxt o=aa st):o=aa (.next,st):=by
 induction o with
 |none=>exact gq h
 |some q=>
  let ⟨f,s⟩:=q;induction f with
  |next=>obtain rfl:=ag h;rfl
  |ret=>exact gq h
def yw (f:SF) (g:St->Option (List CV×St)) (st:St):Option (List CV×St):=(nxt (f st)).bind g
def Jj.cons (h1:mw S k lay s f) (h2:Jj S k lay ss g):Jj S k lay (s::ss) (yw f g):=by intro p O st vs cf bc hf;refine a9 hf λst1 e hf=> ?_;let ⟨lK,a1,b1,c1⟩:=h1 p O st _ st1 bc (LI e);let ⟨uV,a2,b2,c2⟩:=h2 p lK st1 _ cf b1 hf;exact⟨uV,.cons a1 a2,b2,c1.trans c2 bc⟩
def Jj.ret (h:GO S k lay es g) (hsz: ↑es<=1000):Jj S k lay [.Return (aa (.Tuple es n tZ)) pos] g:=by intro p O st vs cf bc hf;let ⟨bv,a,b,c⟩:=h p O st vs cf bc hf;exact⟨bv,.ret a hsz,b,c⟩
end
def dy.afA (F:pY r loc own)
  (gr:∀pm,jH S O (r.fd pm) args kw binds)
  (rz:jX S (gB r ↑O) (ent O r loc) binds bw)
  (dX:Ji S k bw (gB r ↑O) r.body (d0::rest.map AV.pv) (O++τ)) (hz:Gs τ ↑O d0 (.pv e0)):
  dy S (k+1) O (.pv (.con (.ref r.addr))) args kw (.pv (.tup (e0::rest))) O:=by
 refine⟨ab _,?_⟩;intro A c s fv vs kvs hA R hf ha hk H6 E Q hQ;refine w4 F (λpm=>(gr pm).B) rz hA R hf ha hk H6 λc3 s3 env l3 hE R3 K3 q q=> ?_;refine dX.run _ c3 s3 env hA.deeper hE R3 _ _ λc4 a vs s4 l4 R4 K4 hFa a4=> ?_;generalize ZE:vs.toList=vl at a4;let ⟨v0,vr,rfl,h0,hr⟩:=a4.i1;left;let ⟨c5,l5,R5,hv5,_⟩:=Gs.run R R4 rfl (λi x h=> .inl h) hz h0;right;refine hQ c5 _ s4 ((l3.trans l4 rz.Yp).trans l5 (ab _)) R5 (K3.trans K4) (.pv (.tup (l5.F _ _ hFa) ?_ λi v d hv hd=> ?_))
 ·rw[<- bz,ZE,az,az,↑hr,aw]
 ·rw[<- fS,ZE]at hv;cases i with
  |zero=>obtain rfl:=ag hv;obtain rfl:=ag hd;exact hv5.gi
  |succ i=>exact((dg.WZ hr).2 i v d (by simpa using hv) (by simpa using hd)).mono l5.F
def afB (st:St):List CV->Option PV
 | .ob j::rest=>(obV st.ob[j]?).bind λd=>(MU rest).map λds=> .tup (d::ds)
 |_=>ac
def GZ (loc:List Str) (own:Sn) (tg:List CV->St->Option St) (F:St->Option (List CV×St)) (ds:List PV):Option PV:=
 (tg (ds.map .pv) (Bj loc own)).bind λst=>(F st).bind λr=>afB r.2 r.1
def hV.Yu (F:pY r loc own) (VG:ki S (eV r loc own) names tg) (dX:Jj S k (eV r loc own) r.body G)
  (gr:∀pm (vs:Vs),↑vs= ↑names->bindArgs (r.fd pm) ⟨vs,[]⟩=pure (names.zip vs)):hV S (k+1) r (GZ loc own tg G):=by
 intro O ds d hd;refine a9 hd λst1 ZF hd=> ?_;refine a9 hd λ⟨fl,cf⟩ hF FU=> ?_;let ⟨lK,a1,l1,b1,c1,_⟩:=VG _ _ _ _ st1 F.at0 ZF;let ⟨bv,a,b,c⟩:=dX _ _ _ fl cf b1 hF;let ⟨τ,rfl⟩:=rP λi hi=>(c1.trans c F.at0).pre hi λj hj=>absurd hj (iy _);rw[F.en]at a a1;rw[Ja]at a1;cases fl with
 |nil=>exact gq FU
 |cons v rest=>cases v with
  |ob j=>refine a9 FU λe0 h0 FU=> ?_;let ⟨ds',hp,rfl⟩:=ar.mp FU;rw[bx,wZ hp]at a;exact dy.afA F (jH.of l1 gr) a1 a (.ob0 h0 b)
  |_=>exact gq FU
def fa0 {P:α->Prop}:∀g∈([]:List α),P g:=λg h=>by cases h
def fa1 {P:α->Prop} (h:P a):∀g∈[a],P g:=λg hg=>by rw[aB]at hg;subst hg;exact h
def fa2 {P:α->Prop} (h:P a) (h':P b):∀g∈[a,b],P g:=λg hg=>by
 rcases aH.mp hg with e|hg
 ·subst e;exact h
 ·rw[aB]at hg;subst hg;exact h'
set_option maxHeartbeats 4000000
local macro_rules | `(tactic| walk_at "sd") => do
  let a := ["cT; Yt; ahG anh; ahG Ur; ahG Ut; ahG Uu; ahG Uv; ahG Uo; ahG Uq; Uw", "zP; esc", "mw; ins; afz", "Jj; cons; ret", "LH; mk' 0 rfl ? ? rfl ? ? ?; mk' 2 rfl ? ? rfl ? ? ?", "; fT.PW tt; kQ.PW tt; fa0; fa1 rfl; fa1 ?; fa2 ? ?; Ac; EK ?"].map wz
  `(tactic| first | $(⟨wf a⟩) | exact fun fd v h1 h2 h3 => by unfold bindArgs; rw [h1, h2, h3]; rfl | fail)
def oH:Lay:=(nM gY ["addr"] ["start", "open_pos", "result", "pos", "ch"])
def gK:SF:=(aC (jC (bY .NotIn ↥"\"" (ak 0)) (aC (i7 (ak 0)) br) br) (aC (bZ ⇑0 (bf 1)) (aC (bZ (jh PV.none) (bf 2)) (aC (CN (.list []) (bf 3)) (aC (mK (zR (ak 0)) (pX (eS (bf 4) (eS (bf 5) pW))) (aC (jC (bY .Eq (ak 5) ↥"\"") (aC (jC (bY .Is (ak 2) (jh PV.none)) (aC (bZ (ak 4) (bf 2)) br) (aC (jC (bY .NotEq (ak 1) (ak 2)) (aC (oE gZ (ak 3) (au (fN (ak 0) (gV (ak 1)) (gV (ak 2)) eB) aZ)) br) br) (aC (bZ (ba .Add (ak 4) ⇑1) (bf 1)) (aC (bZ (jh PV.none) (bf 2)) br)))) br) br) br)) (aC (jC (bY .Lt (ak 1) (dJ kq (au (ak 0) aZ))) (aC (oE gZ (ak 3) (au (fN (ak 0) (gV (ak 1)) eB eB) aZ)) br) br) (aC (i7 (eP "str" Bb ↥"" (au (ak 3) aZ))) br)))))))
def dU:List PV->Option PV:=mL ["addr"] ["start", "open_pos", "result", "pos", "ch"] gK
def pZ:j5 S 0 oH gY.body gK:=by walk_at "sd"
def CC:hV S 1 gY dU:=hV.plain (.of 12 rfl rfl tt) pZ (λpm=>Tp λq=>rfl) tt
local macro_rules | `(tactic| walk_at "sd") => pure (wq (wz "cT; ahG CC"))
def rR:Lay:=(nM jq ["addr"] ["opens", "pos", "ch"])
def i9:SF:=(aC (bZ (kh dU (au (ak 0) aZ)) (bf 0)) (aC (bZ ⇑0 (bf 1)) (aC (mK (zR (ak 0)) (pX (eS (bf 2) (eS (bf 3) pW))) (aC (jC (bY .Eq (ak 3) ↥"(") (aC (I8 .Add 1 ⇑1) br) (aC (jC (bY .Eq (ak 3) ↥")") (aC (I8 .Sub 1 ⇑1) (aC (jC (bY .Lt (ak 1) ⇑0) (aC (i7 (jh (PV.bool false))) br) br) br)) br) br)) br)) (aC (i7 (qG (bY .Eq (ak 1) ⇑0))) br))))
def cZ:List PV->Option PV:=mL ["addr"] ["opens", "pos", "ch"] i9
def tB:j5 S 1 rR jq.body i9:=by walk_at "sd"
def G0:hV S 2 jq cZ:=hV.plain (.of 13 rfl rfl tt) tB (λpm=>Tp λq=>rfl) tt
local macro_rules | `(tactic| walk_at "sd") => pure (wq (wz "cT; ahG G0"))
def qa:Lay:=(nM iu ["email_header_fields"] ["accepted_values", "v"])
def hX:SF:=(aC (CN (.list []) (bf 1)) (aC (mK (jA (ak 0)) (bf 2) (aC (jC (yp (mv (kh cZ (au (ak 2) aZ)))) (aC (bZ ↥"('', '')" (bf 2)) br) br) (aC (oE gZ (ak 1) (au (ak 2) aZ)) br))) (aC (i7 (ak 1)) br)))
def hZ:List PV->Option PV:=mL ["email_header_fields"] ["accepted_values", "v"] hX
def rc:j5 S 2 qa iu.body hX:=by walk_at "sd"
def DC:hV S 3 iu hZ:=hV.plain (.of 14 rfl rfl tt) rc (λpm=>Tp λq=>rfl) tt
def zS:Lay:=(nM oy ["counts"] ["row", "count"])
def lc:SF:=(aC (CN (.list []) (bf 1)) (aC (mK (jA (ak 0)) (bf 2) (aC (jC (bY .Eq (qI false (ak 1) (ak 2)) (qI true (ak 1) (ak 2))) (aC (zQ false (ak 1) (ak 2)) br) br) br)) (aC (i7 (ak 1)) br)))
def lg:List PV->Option PV:=mL ["counts"] ["row", "count"] lc
def CQ:j5 S 2 zS oy.body lc:=by walk_at "sd"
def Tq:hV S 3 oy lg:=hV.plain (.of 16 rfl rfl tt) CQ (λpm=>Tp λq=>rfl) tt
def CR:Lay:=(eV rG ["r", "g", "b", "hue", "spread", "value", "tint", "light", "depth", "luma", "warm", "pink", "right", "back", "far"] [("due",0)])
def Bq:fT:=lQ [([46,48],.local),([112,97,114,116],.local),([114,111,117,110,100],.globalImplicit)] ["part"] [] []
def Br:fT:=lQ [([46,48],.local),([112,97,114,116],.local),([109,105,110],.globalImplicit),([109,97,120],.globalImplicit),([100,117,101],.free)] ["part"] [] [("due",0)]
def Bs:fT:=lQ [([46,48],.local),([112,97,114,116],.local),([114,111,117,110,100],.globalImplicit)] ["part"] [] []
def zi:SF:=(aC (bZ (kh xj (au (ba .Div (ak 0) ⇑8) (au (ba .Div (ak 1) ⇑8) (au (ba .Div (ak 2) ⇑8) aZ)))) (pX (eS (bf 3) (eS (bf 4) (eS (bf 5) pW))))) (aC (bZ (kh i8 (au (ba .Div (ak 0) ⇑8) (au (ba .Div (ak 1) ⇑8) (au (ba .Div (ak 2) ⇑8) aZ)))) (pX (eS (bf 6) (eS (bf 7) (eS (bf 8) pW))))) (aC (bZ (kh xa (au (ba .Div (ak 0) ⇑8) (au (ba .Div (ak 1) ⇑8) (au (ba .Div (ak 2) ⇑8) aZ)))) (pX (eS (bf 9) (eS (bf 10) (eS (bf 11) pW))))) (aC (bZ (kb (au (ba .Add (ba .Add (ba .Mult ⇑30 (ak 0)) (ba .Mult ⇑59 (ak 1))) (ba .Mult ⇑11 (ak 2))) (au (ba .Sub (ba .Sub (ba .Mult ⇑5990 (ak 0)) (ba .Mult ⇑2773 (ak 1))) (ba .Mult ⇑3217 (ak 2))) (au (ba .Add (ba .Sub (ba .Mult ⇑2130 (ak 0)) (ba .Mult ⇑5251 (ak 1))) (ba .Mult ⇑3121 (ak 2))) aZ)))) (jL 0)) (aC (bZ (qG (bY .Eq (kb (au (dJ rL (au (ba .Mult (ak 9) ⇑800) aZ)) (au (dJ rL (au (ba .Mult (ak 10) ⇑80000) aZ)) (au (dJ rL (au (ba .Mult (ak 11) ⇑80000) aZ)) aZ)))) (aX 0))) (bf 12)) (aC (mK (jA (jc (au (kh iw (au (ak 3) (au (ak 4) (au (ak 5) aZ)))) (au (kh xf (au (ak 6) (au (ak 7) (au (ak 8) aZ)))) (au (kh rQ (au (ak 9) (au (ak 10) (au (ak 11) aZ)))) aZ))))) (bf 13) (aC (bZ (qG (wY (mv (ak 12)) (mv (qG (bY .Eq (eh Bq (jA (ak 13)) (dM (bf 0) fF (gN (dJ rL (au (ba .Mult (ak 0) ⇑8000) aZ))))) (kb (au (ba .Mult ⇑1000 (ak 0)) (au (ba .Mult ⇑1000 (ak 1)) (au (ba .Mult ⇑1000 (ak 2)) aZ))))))))) (bf 12)) br)) (aC (bZ (eh Br (jA (jc (au (ak 0) (au (ak 1) (au (ak 2) aZ))))) (dM (bf 0) fF (gN (ba .Mult ⇑10 (dJ MZ (au ⇑800 (au (dJ EG (au ⇑0 (au (ba .Sub (ba .Mult ⇑300 (ak 0)) (ba .Mult ⇑2 (bk (aX 0) ⇑0))) aZ))) aZ))))))) (bf 14)) (aC (bZ (qG (wY (mv (ak 12)) (mv (qG (bY .Eq (eh Bs (jA (kh rQ (au (ak 9) (au (ba .Mult (ak 10) ⇑3) (au (ba .Mult (ak 11) ⇑3) aZ))))) (dM (bf 0) fF (gN (dJ rL (au (ba .Mult (ak 0) ⇑8000) aZ))))) (ak 14)))))) (bf 12)) (aC (i7 (jc (au (ba .Sub (ba .Mult (ak 7) ⇑16) (ba .Mult (ak 5) ⇑8)) (au (ba .Mult (ak 5) ⇑8) (au (ak 12) aZ))))) br)))))))))
def nx:List PV->Option PV:=EQ ["r", "g", "b", "hue", "spread", "value", "tint", "light", "depth", "luma", "warm", "pink", "right", "back", "far"] [("due",0)] (fA (bf 0) (fA (bf 1) (fA (bf 2) qZ))) zi
def G1:j5 S 2 CR rG.body zi:=by walk_at "sd"
def W6:hV S 3 rG nx:=hV.cells (.of 15 rfl rfl tt) (names:=["r", "g", "b"]) (.loc tt (.loc tt (.loc tt .nil))) G1 λpm=>W3 λq q q=>rfl
def CS:Lay:=(eV rH ["text", "number", "lit", "hues", "depth", "deep", "first", "place", "sign", "free", "r", "g", "b"] [("used",0)])
def g6:kQ:=⟨fsc [([106],.local),([117,115,101,100],.free)], "j",[("used",0)]⟩
def ny:St->Option (List CV×St):=(yw (GP (ji (EN (.list [])) (ji (EN (.dict [])) (ji (EN (.dict [])) (ji (lb ⇑0) (ji (lb ⇑0) (ji (lb ↥"") EO)))))) (fA (jL 0) (fA (bf 2) (fA (bf 3) (fA (bf 4) (fA (bf 5) (fA (bf 6) qZ))))))) (yw (mK (zR (kh dU (au (ak 0) aZ))) (pX (eS (bf 7) (eS (bf 8) pW))) (aC (jC (bY .In (ak 8) (jc (au ↥"(" (au ↥")" aZ)))) (aC (I8 .Add 4 (Ls (bY .Eq (ak 8) ↥"(") ⇑1 (w5 ⇑1))) br) (aC (jC (bY .In (ak 8) ↥"abcdef") (aC (bZ (Bo false g6 (lA (dJ kq (au (aX 0) aZ))) ⇑1 (Ls (bY .Gt (bk (aX 0) (ak 0)) (ak 0)) ⇑1 ⇑0)) (bf 9)) (aC (zQ true (aX 0) (ak 9)) (aC (EL (kh iw (au (ba .Div (ak 9) ⇑8) (au (ba .Div (ba .Add ⇑1 (ba .Mod (ak 1) ⇑4)) ⇑4) (au (ba .Div (ba .Add ⇑1 (ba .Mod (ba .FloorDiv (ak 1) ⇑4) ⇑8)) ⇑8) aZ)))) (ak 2) (ak 8)) (aC (jC (bY .Gt (ak 4) (ak 5)) (aC (P2 5 6 (ji (lb (ak 4)) (ji (lb (ak 8)) EO))) br) br) br)))) (aC (jC (bY .In (ak 8) ↥"ABCDEF") (aC (bZ (bk (ak 2) (eP "str" kM (ak 8) aZ)) (pX (eS (bf 10) (eS (bf 11) (eS (bf 12) pW))))) (aC (EL (ba .Mod (dJ rL (au (ba .Mult (bk (kh i8 (au (ak 10) (au (ak 11) (au (ak 12) aZ)))) ⇑0) ⇑8) aZ)) ⇑8) (ak 3) (eP "str" kM (ak 8) aZ)) (aC (oE Yo (aX 0) (au (qI false (aX 0) (bk (ak 3) (eP "str" kM (ak 8) aZ))) aZ)) br))) br) br)) br)) br)) (ji (lb (ak 3)) (ji (lb (ak 5)) (ji (lb (ak 6)) EO)))))
def tC:List PV->Option PV:=GZ ["text", "number", "lit", "hues", "depth", "deep", "first", "place", "sign", "free", "r", "g", "b"] [("used",0)] (fA (bf 0) (fA (bf 1) qZ)) ny
def G2:Jj S 2 CS rH.body ny:=by walk_at "sd"
def W7:hV S 3 rH tC:=hV.Yu (.of 17 rfl rfl tt) (names:=["text", "number"]) (.loc tt (.loc tt .nil)) G2 λpm=>bd2 λq q=>rfl
set_option maxHeartbeats 200000
def vL:PlainAttrs "re.Pattern" :=
 ⟨⟨"object.__getattribute__",by rw[g5,ez];kernel_rfl,rfl⟩,by rw[g5,ez];kernel_rfl⟩
def zj:Slot "re.Pattern" "search" "re.Pattern.search" :=
 .of (owner:= "re.Pattern") (n:= "search") (by rw[g5,ez];kernel_rfl) (by decide+kernel) (by decide+kernel) (by decide+kernel)
  (.inr (by decide+kernel)) (by rw[yT];kernel_rfl)
def G3:typeOf (.builtin "re.Pattern.search")=pure (.type "method_descriptor"):=by show builtinType _=_;rw[builtinType_eq_fast];rfl
def EZ:entryFor table "re.Pattern.search" =aa Builtin.«re.Pattern.search»:=entryFor_of_tree so
def G4 (a b:Value):argsOk "re.Pattern.search" ⟨[a,b],[]⟩:=by unfold argsOk;rfl
noncomputable def xm:Nat->Sre.M->Option Sre.M
 |0,_=>ac
 |n+1,m=>if (m.runFor gu).outcome.isSome then aa (m.runFor gu) else xm n (m.runFor gu)
def CT (j:Nat):∀(n:Nat) (m m':Sre.M),j<=n->xm j m=aa m'->Q m' s->wpAny M A (Gi n m) Q E s:=by
 induction j with
 |zero=>exact λq q q q h q=>gq h
 |succ j ih=>
  intro n m m' hn h hq;induction n with
  |zero=>exact absurd hn (Oy _)
  |succ n=>
   have h:(if (m.runFor gu).outcome.isSome then aa (m.runFor gu) else xm j (m.runFor gu))=aa m':=h;unfold Gi;by_cases hs:(m.runFor gu).outcome.isSome
   ·rw[if_pos hs]at h;obtain rfl:=ag h;exact(if_pos hs)▸(aR hq)
   ·rw[if_neg hs]at h;show wpAny M A (if _ then _ else _) Q E s;rw[if_neg hs];exact am (KD (ih n _ m' (mS hn) h hq))
def G5 {f:Nat->PUnit->z0 (ForInStep PUnit)} (p:Nat->Bool) (nm:Nat->String) (hf:∀i u,f i u=if p i=true then(do rule (nm i);pure (.yield ⟨⟩)) else pure (.yield ⟨⟩)) (hq:Q ⟨⟩ s) (l:Nz):
  wpAny M A (forIn l ⟨⟩ f) Q E s:=by
 induction l with
 |nil=>rw[qC];exact aR hq
 |cons i l ih=>
  rw[uf,hf];by_cases h:p i=true
  ·rw[if_pos h];exact am (am (KD (aR ih)))
  ·rw[if_neg h];exact am (aR ih)
def yx (h:xm 1000 m=aa m') (h1:m'.outcome=aa .matched->Q (aa m') s) (h2:m'.outcome=aa .failed->Q ac s) (h3:m'.outcome=aa .matched\/m'.outcome=aa .failed):
  wpAny M A (Dg m) Q E s:=by
 unfold Dg;refine am (CT 1000 _ m m' ∅ h ?_);refine am (G5 (λi=>m'.seen.has i) (λi=>Sre.names.getD i "") (λi u=>by by_cases h:m'.seen.has i=true<;>simp[h]) ?_ _);rcases h3 with(h|h)
 ·rw[h];exact aR (h1 h)
 ·rw[h];exact aR (h2 h)
def kR (code:Nz) (x:Str):Option Bool:=(xm 1000 (Sre.forSearch code.toArray x.cps 0 0 (min ((2 ^ 63- 1:Int).toNat) x.cps.size) false)).bind λm=>match m.outcome with
 |some .matched=>aa true
 |some .failed=>aa false
 |_=>ac
structure LK (h:iR) (P:Addr) (code:Nz):Prop where
 at':∃o fs oc C items n,h.get? P=aa o/\o.cls= .type "re.Pattern" /\o.data= .fields fs/\o.dict=ac/\fs.getD 6 .none= .int 0 0/\fs.getD 2 .none= .int 0 0/\fs.getD 5 .none= .ref C/\
  h.get? C=aa oc/\oc.data= .seq items n/\((items.map iB).map nW).toList=code
def Rel.pat (R:Rel S c O h) (hp:p∈rI):LK h p.1 p.2.2:=by left;let ⟨o,fs,oc,items,n,h1,h2,h3,h4,h5,h6,h7,h8,h9,IH⟩:=S.pats p hp;right;exact⟨o,fs,oc,p.2.1,items,n,R.old h1 ((by decide:∀p∈rI,∀q∈cm,p.1≠q.2) p hp),h2,h3,h4,h5,h6,h7,R.old h8 ((by decide:∀p∈rI,∀q∈cm,p.2.1≠q.2) p hp),h9,IH⟩
section
variable {w:jE} {A:cS} {E:VS} {s:bb} {P:Addr} {code:Nz} {x:Str} {t:Dd}
def G6 (h:LK s.heap P code) (hq:Q {pattern:= .ref P,string:= .str x t,code:=code.toArray,text:=x.cps,kind:=0,groups:=0,pos:=0,lim:=min ((2 ^ 63- 1:Int).toNat) x.cps.size} s):
  wpAny (MM w) A (sP "re.Pattern.search" "search" ⟨[.ref P,.str x t],[]⟩) Q E s:=by
 left;let ⟨o,fs,oc,C,items,n,h1,h2,h3,h3',h4,h5,h6,h7,h8,h9⟩:=h.at';right;unfold sP;refine am (i6 (a:=[aa (.str x t),ac,ac]) (by with_unfolding_all rfl) ?_);dsimp only;refine am (aR (am (aR ?_)));refine am (wpAny_fieldsOf h1 h3 ?_);refine am (i6 (a:=(x.cps,0)) (by rfl) ?_);dsimp only;rw[h4,h5,h6];have og:(items.map iB).map nW=code.toArray:=by rw[<- h9]
 rw[if_neg ∅,if_neg ∅];refine am (i6 (a:=()) (by rfl) ?_);refine am ?_;unfold Builtin.Re.reRawItems;refine am (wpAny_seqItems h7 h8 (aR (aR ?_)));show Q {pattern:= .ref P,string:= .str x t,code:=(items.map iB).map nW,text:=x.cps,kind:=0,groups:=0,pos:=min 0 x.cps.size,lim:=min ((2 ^ 63- 1:Int).toNat) x.cps.size} s;rw[og,Nat.zero_min];exact hq
def G7 (h:LK s.heap P code) (hb:kR code x=aa b) (h0:b=false->Q .none s)
  (h1:b=true->∀(h':iR) (o:Obj),(∀a y,s.heap.get? a=aa y->h'.get? a=aa y)->h'.get? (s.heap.objs.size+1)=aa o->o.cls= .type "re.Match" ->o.dict=ac->Q (.ref (s.heap.objs.size+1)) {s with heap:=h'}):
  wpAny (MM w) A (call (.builtin "re.Pattern.search") [.ref P,.str x t]) Q E s:=by
 refine uY zj (by let ⟨o,_,_,_,_,_,h1,h2,_⟩:=h.at';exact⟨o,h1,h2⟩) EZ ?_ (G4 _ _);show wpAny _ _ (do let t <- sP "re.Pattern.search" "search" _;F0 t (Sre.forSearch t.code t.text t.groups t.pos t.lim false)) _ _ _;refine am (G6 h ?_);unfold F0;unfold kR at hb;let ⟨m,hm,hb⟩:=aG.mp hb;have h3:m.outcome=aa .matched/\b=true\/m.outcome=aa .failed/\b=false:=by
  revert hb;induction m.outcome with
  |none=>intro e;cases e
  |some o=>cases o<;>intro e<;>cases e<;>simp
 refine am (yx hm (λe=> ?_) (λe=> ?_) (h3.imp And.left And.left))
 ·have SJ:b=true:=by
   rcases h3 with h|h
   ·exact h.2
   ·rw[h.1]at e;nomatch e
  unfold Builtin.Re.reNewMatch;simp only[List.range_zero,sF,List.any_nil,fu,if_false];refine am (am (wpAny_newTuple ?_));refine iE ?_ (by size_fits);refine aR ⟨_,rfl,?_⟩;rw[eT];refine h1 SJ _ {cls:= .type "re.Match",data:= .fields #[.str x t,.ref P,rawInt ((0:Nat):Int),rawInt ((min ((2 ^ 63- 1:Int).toNat) x.cps.size:Nat):Int),rawInt m.lastindex,.ref s.heap.objs.size]} (λa y e=>aJ _ (aJ _ e)) ?_ rfl rfl;have:=aV (s.heap.push {cls:= .type "tuple",data:= .seq #[rawInt m.start,rawInt m.handed]}) (o:= {cls:= .type "re.Match",data:= .fields #[.str x t,.ref P,rawInt ((0:Nat):Int),rawInt ((min ((2 ^ 63- 1:Int).toNat) x.cps.size:Nat):Int),rawInt m.lastindex,.ref s.heap.objs.size]}) rfl;rw[eT]at this;exact this
 ·have SJ:b=false:=by
   rcases h3 with h|h
   ·rw[h.1]at e;nomatch e
   ·exact h.2
  exact aR ⟨_,rfl,h0 SJ⟩
def E0:typeLookup (.type "re.Match") "__bool__" =pure ac:=by rw[g5,ez];rfl
def G8:typeLookup (.type "re.Match") "__len__" =pure ac:=by rw[g5,ez];rfl
def E2 (hT:s.TypeIs (.ref a) "re.Match") (h:Q true s):wpAny (MM w) A (truthy (.ref a)) Q E s:=by unfold truthy;refine am (wpAny_callSpecial?_none hT E0 ?_);refine am (wpAny_specialOf hT G8 ?_);exact aR h
def truthy_none (h:Q false s):wpAny (MM w) A (truthy .none) Q E s:=aR h
end
noncomputable abbrev a6:Str:=ah "_headers"
def rd:typeLookup (.type "object") a6=pure ac:=by rw[g5,ez];rfl
def vn:typeLookup (.type "object") "_convert_string_type" =pure ac:=by rw[g5,ez];rfl
def zT:typeLookup (.type "object") "get_all" =pure ac:=by rw[g5,ez];rfl
def Bt:typeLookup (.type "object") "items" =pure ac:=by rw[g5,ez];rfl
def rS:typeLookup (.type "object") "add_header" =pure ac:=by rw[g5,ez];rfl
def Rel.clsAt (R:Rel S c O h):∃nm q bs sn sub O5 dd k0 k1 k2 k3 k5 mN,h.get? 182=aa (excClassObj nm q 182 181 bs [.type "object"] true sn sub false O5 dd k0 k1 k2 k3 k5 "object.__new__")/\h.Ns 181 mN/\∀p∈iW,mN p.1=p.2:=by left;let ⟨nm,q,bs,sn,sub,O5,dd,k0,k1,k2,k3,k5,h1⟩:=S.cls;let ⟨mN,h2,h3⟩:=S.D9;right;exact⟨nm,q,bs,sn,sub,O5,dd,k0,k1,k2,k3,k5,mN,R.old h1 ∅,R.vg h2 ∅,h3⟩
def Rel.inst (R:Rel S c O h) (hi:O[i]? =aa (.attrs m)) (hv:cU S.w c ↑O v (.inst i)):
  ∃a o mA,v= .ref a/\c.F a=aa o/\o.dict=aa (c.Z i)/\h.Inst a 182 mA/\(∀x d,(x,d)∈m->∃u,mA x=aa u/\cU S.w c ↑O u d)/\∀x,x∉m.map (·.1)->mA x=ac:=by
 let ⟨a,o,rfl,h1,h2,h3,h4,h5⟩:=hv.afe;obtain(⟨oD,hoD,hr⟩):=R.own _ _ hi;let ⟨es,ep,e1,e2,e3,e4,e5,e6⟩:=hr.Ye;refine⟨a,o,λx=>nsFind es x,rfl,h1,h4,⟨o,R.frozen _ _ h1,h2,h3,.inr ⟨c.Z i,h4,λe=> ?_,oD,es,ep,hoD,e1,e2,e3,λq=>rfl⟩⟩,e5,e6⟩;have:=R.apart i h5;rw[e,h1]at this;nomatch this
def LL (h:ck S k O ae args ds) (hk:pe S k O ae zW OM) (pos:Pos) (env:lY) (hn: ↑args+ ↑zW<20):
  methodCallForm (↑args+ ↑zW) (backTo pos (starEach args env)) (backToKw pos (keywordEach zW env))=true:=by
 have h1:(backTo pos (starEach args env)).all (λx=> !x.1)=true:=by have:=noStar h pos env;rw[IB];simpa using this
 unfold methodCallForm;have h3: ↑args+ ↑zW+(if (backToKw pos (keywordEach zW env)).isEmpty=true then 0 else 1)<30:=by
  have:(if (backToKw pos (keywordEach zW env)).isEmpty=true then 0 else 1)<=1:=by split<;>(first|exact abT|exact abU)
  exact abV hn this
 rw[dj,dj];exact⟨⟨h1,((Li hk pos env).1)⟩,decide_eq_true h3⟩
def Ev.ur (hr:r∈fW) (FR:(name,aa (.ref r.addr))∈iW)
  (ZN:typeLookup (.type "object") name=pure ac) (h:Ev S k O ae o (.inst i) O) (hi:O[i]? =aa (.attrs m)) (hm:name∉m.map (·.1)) (ha:ck S k O ae args ds) (hk:pe S k O ae zW OM) (hc:dy S k O (.pv (.con (.ref r.addr))) (.inst i::ds) OM d bv)
  (ik:∀env,attributeBase o name env (eval o env)=eval o env) (gC:(jz.endLine==pos.line)=true) (hn: ↑args+ ↑zW<20):Ev S k O ae (.Call (.Attribute o name jz) args zW pos) d bv:=by
 refine⟨hc.len,λA c s env hA hE R E Q hQ=> ?_⟩;rw[arm_eval_Call,ik];refine am (h.run A c s env hA hE R _ _ λc1 v1 s1 l1 R1 K1 a1=> ?_);refine am (cV ?_);unfold methodCall;rw[(LL ha hk pos env hn)];left;let ⟨x,ox,mA,rfl,hFx,hdx,hI,ZO,VI⟩:=R1.inst hi a1;let ⟨nm,q,bs,sn,sub,O5,dd,k0,k1,k2,k3,k5,mN,hC,vt,hN⟩:=R1.clsAt;let ⟨of,pm,Kx,Om,FW,_⟩:=R1.fn hr;let ⟨hp,g,d',t,os⟩:=s1;right;refine am (dH (method_of hC vt (hN (ah "__getattribute__",ac) (by unfold iW;walk_at "a")) (hN (ah "__getattr__",ac) (by unfold iW;walk_at "a")) (hN _ FR) Kx Om ZN hI (VI _ hm) ?_));refine am (i6 (by unfold methodCallPos;simp[gC]:methodCallPos true o env jz pos=pure pos) ?_);refine fI (o:=of) (fd:=r.fd pm) ?_;refine nk ha hk _ pos A c1 _ env hA (hE.mono l1 (ab _)) R1 _ _ λc2 vs kvs s2 l2 R2 K2 a2 k2 b2=> ?_;have Ky:s2.heap.get? r.addr=aa of:=by
  let ⟨FK,_,h0,_,_,_⟩:=S.fns r hr;have oS:∀q∈cm,r.addr≠q.2:=by
   have:∀r∈fW,∀q∈cm,r.addr≠q.2:=by decide
   exact this r hr
  have y1:hp.get? r.addr=aa of:=Kx;have x1':hp.get? r.addr=aa FK:=(R1.old h0 oS);rw[x1']at y1;obtain rfl:=ag y1;exact(R2.old h0 oS)
 exact⟨⟨Ky,FW⟩,hc.run A c2 s2 _ (_::vs) kvs hA R2 (.pv (.con _)) (.cons (a1.mono l2 (ab _)) a2) k2 b2 E Q λc3 v3 s3 l3 R3 K3 a3=>hQ c3 v3 s3 ((l1.trans l2 (ab _)).trans l3 (ab _)) R3 ((K1.trans K2).trans K3) a3⟩
def Ev.E3 (h:Ev S k O ae (.Name n np) (.inst i) O) (hi:O[i]? =aa (.attrs m)) (hm:(a6,AV.fM j)∈m):Ev S k O ae (.Attribute (.Name n np) a6 pos) (.fM j) O:=by
 refine⟨ab _,λA c s env hA hE R E Q hQ=> ?_⟩;refine PyProof.Rows.Attribute_name (h.run A c s env hA hE R _ _ λc1 v1 s1 l1 R1 K1 a1=> ?_);left;let ⟨x,ox,mA,rfl,hFx,hdx,hI,ZO,VI⟩:=R1.inst hi a1;let ⟨nm,q,bs,sn,sub,O5,dd,k0,k1,k2,k3,k5,mN,hC,vt,hN⟩:=R1.clsAt;let ⟨u,hu,hd⟩:=ZO _ _ hm;right;have hho:handedOut u=pure u:=by cases hd;rfl
 let ⟨hp,g,d',t,os⟩:=s1;refine load_attr hC vt (hN (ah "__getattribute__",ac) (by unfold iW;walk_at "a")) (hN (ah "_headers",ac) (by unfold iW;walk_at "a")) rd hI hu hho ?_;exact hQ c1 u _ l1 R1 (K1.trans ⟨rfl,λz z e=>e,λe=>e⟩) hd
def Qd (l:List PV):List CO:=[.attrs [(a6,.ob 1)],.list l]
def yy (loc:List Str) (own:Sn) (l:List PV):St:=DA loc own (Qd l)
def oiM (O:List AO) (r:eg) (i h j:Nat):Nat:=if j=0 then i else if j=1 then h else ↑O+1+fg r.scope.names+(j- 2)
def pY.atM (F:pY r loc own) (hi:O[i]? =aa (.attrs [(a6,.fM h)])) (hh:O[h]? =aa (.list l)) (yP:i≠h):At (eV r loc own) (Bk O own (oiM O r i h)) (yy loc own l) (ent O r loc):=by
 have h2:∀j,j< ↑(Qd l)->j=0\/j=1:=λj hj=>Wf hj;refine F.at (λj o ho=> ?_) (λa b ha hb e=> ?_) λj=> ?_
 ·rcases h2 j (getElem?_lt' ho)with rfl|rfl
  ·obtain rfl:=ag ho;exact hi
  ·obtain rfl:=ag ho;exact hh
 ·rcases h2 a ha with rfl|rfl<;>rcases h2 b hb with rfl|rfl
  ·rfl
  ·exact absurd e yP
  ·exact absurd e yP.symm
  ·rfl
 ·show(if 2+j=0 then i else if 2+j=1 then h else ↑O+1+fg r.scope.names+(2+j- 2))=_;rw[if_neg abY,if_neg abZ];exact ab0
def G9 (hs:kr (eV r loc own) (Bk O own (oiM O r i h)) (yy loc own l) cf (ent O r loc) nD) (hi:O[i]? =aa (.attrs [(a6,.fM h)])) (hh:h< ↑O)
  (b:At lay (Bk O own (oiM O r i h)) cf nD) (h0:cf.ob[0]? =aa (.attrs [(a6,.ob 1)])) (h1:cf.ob[1]? =aa (.list l')):∃τ,nD=O.set h (.list l')++τ:=by
 have aj8:nD[i]? =aa (.attrs [(a6,.fM h)]):=b.obs 0 _ h0;have aj9:nD[h]? =aa (.list l'):=b.obs 1 _ h1;refine rP λx hx=> ?_;rw[bi]at hx;by_cases hxh:h=x
 ·subst hxh;rw[bU hh];exact aj9
 ·rw[bE hxh];by_cases hxi:x=i
  ·subst hxi;rw[hi];exact aj8
  ·exact hs.pre hx λj hj e=>by
    rcases Wf hj with rfl|rfl
    ·exact hxi e
    ·exact hxh e.symm
def flV:pu->Option PV
 | .next=>aa PV.none
 | .ret (.pv d)=>aa d
 |_=>ac
def hdO:Option CO->Option Unit
 |some (.attrs [(n,.ob j)])=>if (n==a6&&j==1)=true then aa () else ac
 |_=>ac
def xn (r1:pu) (a b:Option CO):Option (PV×List PV):=(flV r1).bind λd=>(hdO a).bind λq=>(Tj b).map λl=>(d,l)
def Ux (h:flV r=aa d):r= .next/\d=PV.none\/r= .ret (.pv d):=by
 induction r with
 |next=>exact .inl ⟨rfl,(ag h).symm⟩
 |ret v=>induction v with
  |pv x=>obtain rfl:=ag h;exact .inr rfl
  |_=>exact gq h
def Uy (h:hdO a=aa u):a=aa (.attrs [(a6,.ob 1)]):=by
 induction a with
 |none=>exact gq h
 |some o=>induction o with
  |attrs m=>induction m with
   |nil=>exact gq h
   |cons q m=>
    let ⟨n,w⟩:=q;induction w with
    |ob j=>induction m with
     |nil=>have e:=(dS h).1;rw[dj,beq_iff_eq,beq_iff_eq]at e;rw[e.1,e.2]
     |cons=>exact gq h
    |_=>exact gq h
  |_=>exact gq h
def ut (loc:List Str) (own:Sn) (tg:List CV->St->Option St) (F:St->Option (pu×St)) (l:List PV) (ds:List PV):Option (PV×List PV):=
 (tg (.inst 0::ds.map CV.pv) (yy loc own l)).bind λst=>(F st).bind λr=>xn r.1 r.2.ob[0]? r.2.ob[1]?
def zk (h:xn r1 a b=aa (d,l')):(r1= .next/\d=PV.none\/r1= .ret (.pv d))/\a=aa (.attrs [(a6,.ob 1)])/\b=aa (.list l'):=by let ⟨d,h1,h⟩:=aG.mp h;let ⟨u,h2,h⟩:=aG.mp h;let ⟨l,h3,h⟩:=ar.mp h;let ⟨rfl,rfl⟩:=bH h;exact⟨Ux h1,Uy h2,ul h3⟩
def LM (oi:NN) (ds:List PV):(CV.inst 0::ds.map CV.pv).map (CV.av oi)=AV.inst (oi 0)::ds.map AV.pv:=by rw[bx,Ja];rfl
def dy.tb (F:pY r loc own) (VG:ki S (eV r loc own) names tg) (dX:j5 S k (eV r loc own) r.body G)
  (hi:O[i]? =aa (.attrs [(a6,.fM h)])) (hh:O[h]? =aa (.list l)) (yP:i≠h) (Ie:ut loc own tg G l ds=aa (d,l'))
  (gr:∀pm,vH S k O (r.fd pm) args kw (names.zip (AV.inst i::ds.map AV.pv))):
  dy S (k+1) O (.pv (.con (.ref r.addr))) args kw (.pv d) (O.set h (.list l')):=by
 refine a9 Ie λst1 ZF Ie=> ?_;refine a9 Ie λ⟨fl,cf⟩ hF FU=> ?_;let ⟨Kz,ho0,ho1⟩:=zk FU;have hhl:=getElem?_lt' hh;have bc:=F.atM hi hh yP;let ⟨lK,a1,l1,b1,c1,_⟩:=VG _ _ _ _ st1 bc ZF;let ⟨nD,a,b,c⟩:=dX _ _ _ _ cf b1 hF;let ⟨τ,rfl⟩:=G9 (c1.trans c bc) hi hhl b ho0 ho1;rw[F.en]at a a1;rw[LM]at a1;refine dy.Dy F (binds:=names.zip (AV.inst i::ds.map AV.pv)) gr a1 a bi (λj x hx=> ?_) ?_
 ·by_cases Kq:h=j
  ·subst Kq;rw[bU hhl]at hx;obtain rfl:=ag hx;exact .inr rfl
  ·rw[bE Kq]at hx;exact .inl hx
 ·rcases Kz with⟨rfl,rfl⟩|rfl
  ·exact .pv
  ·exact .pv
noncomputable abbrev codeOf (name:Bool):List Nat:=if name then [14,10,4,1,1,22,0,31,16,127,0,13,7,22,0,31,16,127,0,1] else [14,14,4,1,1,9,4294966783,0,0,2147483648,0,0,0,0,0,13,11,9,4294966783,0,0,2147483648,0,0,0,0,0,1]
noncomputable abbrev xo (name:Bool):Addr:=if name then 48 else 53
def Rel.xo (R:Rel S c O h) (b:Bool):LK h (Mine.xo b) (codeOf b):=by
 cases b
 ·exact R.pat (p:=(53,52,codeOf false)) (.tail _ (.head _))
 ·exact R.pat (p:=(48,47,codeOf true)) (.head _)
def Ev.PO (h0:oA S k O ae t b) (h1:Ev S k O ae (if b=true then x else y) d O):Ev S k O ae (.IfExp t x y pos) d O:=by refine⟨ab _,λA c s env hA hE R E Q hQ=> ?_⟩;refine VP (h0 A c s env hA hE R _ _ λc1 s1 l1 R1 K1=> ?_);cases b<;>exact h1.run A c1 s1 env hA (hE.mono l1 (ab _)) R1 E Q λc2 v2 s2 l2 R2 K2 a2=>hQ c2 v2 s2 (l1.trans l2 (ab _)) R2 (K1.trans K2) a2
def oA.Bu (h:nL S k O ae e (PV.bool b)) (he:∀env zM,isTrue e env zM=(do let v <- zM;standAt e.pos;holding [v] (truthy v))):oA S k O ae e b:=λA c s env hA hE R E Q hQ=>
 sf (h.run A c s env hA hE R _ _ λc1 v1 s1 l1 R1 K1 a1=>by
  have e:=a1.dn;subst e;exact gf (hQ c1 s1 l1 R1 K1)) (he _ _)
def Ev.LO (hf:nL S k O ae (.Name f np) (.con (.type "type"))) (h:nL S k O ae e (.str x)) (hs:notStar e=true):nL S k O ae (.Call (.Name f np) [e] [] pos) (.con (.type "str")):=by refine⟨ab _,λA c s env hA hE R E Q hQ=> ?_⟩;refine cn (hf.run A c s env hA hE R _ _ λc1 v1 s1 l1 R1 K1 a1=> ?_);have e':=a1.dn;subst e';refine ec (noStar (.cons h .nil hs) pos env) ?_;refine ef (.cons h .nil hs) _ pos A c1 s1 env hA (hE.mono l1 (ab _)) R1 _ _ λc2 vs s2 l2 R2 K2 a2=> ?_;have h9:=a2.i1;clear a2;let ⟨_,_,rfl,a2,b2⟩:=h9;obtain rfl:=b2.i0;have Ed:=a2.gi;let ⟨t,rfl⟩:=Ed.mG;exact call_type_of (sj ..) rfl (hQ c2 _ s2 (l1.trans l2 (ab _)) R2 (K1.trans K2) (.pv (.con _)))
def oA.Qe (ho:nL S k O ae o (.con (.ref (xo b)))) (he:nL S k O ae e (.str x)) (hs:notStar e=true) (hr:kR (codeOf b) x=aa r)
  (ik:∀env,attributeBase o "search" env (eval o env)=eval o env) (gC:(jz.endLine==pos.line)=true)
  (hi:∀env zM,isTrue (.Call (.Attribute o "search" jz) [e] [] pos) env zM=(do let v <- zM;standAt (Expr.Call (.Attribute o "search" jz) [e] [] pos).pos;holding [v] (truthy v))):
  oA S k O ae (.Call (.Attribute o "search" jz) [e] [] pos) r:=by
 intro A c s env hA hE R E Q hQ;have ha:ck S k O ae [e] [.pv (.str x)]:= .cons he .nil hs;refine sf ?_ (hi _ _);refine eJ (ik env) (A9 ha pos env (by show 1<30;decide)) gC (ho.run A c s env hA hE R _ _ λc1 v1 s1 l1 R1 K1 a1=> ?_);have e':=a1.dn;subst e';left;let ⟨op,fs,oc,C,items,n,h1,h2,h3,h4,_⟩:=(R1.xo b).at';right;refine⟨"re.Pattern", "re.Pattern.search",vL,zj,G3,⟨op,h1,h2⟩,λa e=>by cases e;exact⟨op,h1,h4⟩,cX (noStar ha pos env) ?_⟩;refine ef ha _ pos A c1 s1 env hA (hE.mono l1 (ab _)) R1 _ _ λc2 vs s2 l2 R2 K2 a2=> ?_;have h9:=a2.i1;clear a2;let ⟨_,_,rfl,a2,b2⟩:=h9;cases b2;have Ed:=a2.gi;let ⟨t,rfl⟩:=Ed.mG;have uL:=l1.trans l2 (ab _);have K12:=K1.trans K2;refine G7 (R2.xo b) hr (λhr0=> ?_) λhr1 h' o hk ho Mv hod=> ?_
 ·subst hr0;exact truthy_none (hQ c2 s2 uL R2 K12)
 ·subst hr1;exact E2 ⟨o,ho,Mv⟩ (hQ c2 _ uL (R2.ext hk) (K12.trans (.gF ..)))
noncomputable abbrev iV:Str:=ah "self"
noncomputable abbrev nO:Str:=ah "value"
noncomputable abbrev mC:Str:=ah "name"
noncomputable abbrev tD:Str:=ah "regex"
abbrev rC:eg:=mz
def Qf:rC∈fW:=by unfold fW;walk_at "a"
def Bv:pT rC.scope [iV,nO,mC,tD]:=pT.of tt
def Qg:me rC.scope [ah "type",ah "str",ah "_name_disallowed_re",ah "_value_disallowed_re"]:=me.of tt
def cH.one (hf:f= .ret d) (h:iX S k O ae st f bw):cH S k O ae (st::rest) f bw:=by subst hf;exact cH.ret h
def Bw (pm:Value):jH S O (rC.fd pm) [.inst i,.pv (.str x)] [(mC,.pv (PV.bool b))] [(iV,.inst i),(nO,.pv (.str x)),(mC,.pv (PV.bool b))]:=by
 intro c s vs kvs R ha hk H6;rcases kvs with _|⟨⟨y,vk⟩,_|_⟩
 ·nomatch hk
 ·obtain rfl:y=mC:=(jK hk).1;let ⟨v5,_,e5,h5,_⟩:=H6.i1;obtain rfl:vk=v5:=(jK e5).1;let ⟨va,r1,rfl,h1,ha1⟩:=ha.i1;let ⟨vx,r2,rfl,h2,ZC⟩:=ha1.i1;obtain rfl:=ZC.i0;exact⟨[(iV,va),(nO,vx),(mC,vk)],rfl,.cons h1 (.cons h2 (.cons h5 .nil)),TA (by with_unfolding_all rfl)⟩
 ·nomatch (jK hk).2
def dy.conv (b:Bool) (hi:i< ↑O) (hb:kR (codeOf b) x=aa false):dy S (k+1) O (.pv (.con (.ref rC.addr))) [.inst i,.pv (.str x)] [(mC,.pv (PV.bool b))] (.pv (.str x)) O:=by
 have h1:=Bv;have h2:=Qg;have dX:∃τ,cH S k (O++[AO.ns [(iV,aa (.inst i)),(nO,~~~(.str x)),(mC,~~~(PV.bool b)),(tD,ac)]]) (rC.env (↑O+0)) rC.body (.ret (.pv (.str x))) (O++τ):=by
  apply fY;apply cH.one rfl;apply iX.if (b:=true)
  ·apply oA.js (a:= .pv (.con (.type "str"))) (b:= .pv (.con (.type "str")))
   ·apply Ev.LO
    ·walk_at "b"
    ·walk_at "b"
    ·rfl
   ·walk_at "b"
   ·intro S k A c s u v hA R ha hb E Q hQ;have e1:=ha.dn;have e2:=hb.dn;subst e1 e2;exact nU rfl (hQ c _ _ (.refl ..) R (.refl ..) (.pv (.con _)))
   ·rfl
  apply cH.cons (bw:=O++[AO.ns [(iV,aa (.inst i)),(nO,~~~(.str x)),(mC,~~~(PV.bool b)),(tD,~~~(.con (.ref (xo b))))]])
  ·apply iX.assign
   ·apply Ev.PO (b:=b) (d:= .pv (.con (.ref (xo b))))
    ·apply oA.Bu
     ·walk_at "b"
     ·intro _ _;rfl
    ·cases b
     ·rw[if_neg bG];apply Ev.CL (v:= .ref 53) h2
      ·rfl
      ·walk_at "a"
      ·unfold cg;walk_at "a"
      ·rfl
     ·rw[if_pos rfl];apply Ev.CL (v:= .ref 48) h2
      ·rfl
      ·walk_at "a"
      ·unfold cg;walk_at "a"
      ·rfl
   ·apply j4.AU h1
    ·rfl
    ·walk_at "a"
    ·walk_at "e"
    ·walk_at "c"
    ·walk_at "d"
   ·intro _ _;rfl
  apply cH.cons
  ·apply iX.if (b:=false)
   ·apply oA.Qe (b:=b)
    ·walk_at "b"
    ·walk_at "b"
    ·rfl
    ·exact hb
    ·intro _;rfl
    ·rfl
    ·intro _ _;rfl
   ·exact cH.nil
  walk_at "h"
 let ⟨τ,dX⟩:=dX;refine dy.def (.of 21 rfl rfl tt) (binds:=[(iV,.inst i),(nO,.pv (.str x)),(mC,.pv (PV.bool b))]) (others:=[tD]) (λpm=> ?_) (lk Bv [iV,nO,mC] tt) rfl dX rfl (λi x h=> .inl h) .pv;exact Bw pm
section
variable {lay:Lay}
noncomputable def CV.aN:CV->Option Nat
 | .inst a=>aa a
 |_=>ac
def CV.kN {v:CV} (h:v.aN=aa a):v= .inst a:=by
 induction v with
 |inst d=>exact congrArg CV.inst (ag h)
 |_=>exact gq h
noncomputable def CO.a1:CO->Option (Str×CV)
 | .attrs [q]=>aa q
 |_=>ac
def CO.k1 {o:CO} (h:o.a1=aa q):o= .attrs [(q.1,q.2)]:=by
 induction o with
 |attrs m=>
  rcases m with _|⟨u,_|_⟩
  ·exact gq h
  ·exact congrArg (λq:Str×CV=>CO.attrs [q]) (ag h)
  ·exact gq h
 |_=>exact gq h
def sy (f:EF) (st:St):Option CV:=((f st).bind CV.aN).bind λj=>((st.ob[j]?).bind CO.a1).bind λq=>q.2.aO.bind λh=>if (q.1==a6)=true then aa (.ob h) else ac
def Jk (h:sy f st=aa v):∃j g,f st=aa (.inst j)/\st.ob[j]? =aa (CO.attrs [(a6,.ob g)])/\v= .ob g:=by refine a9 h λj h1 h=>a9 h1 λq h1 e1=>a9 h λq h2 h=>a9 h2 λq h2 e2=>a9 h λg e3 h=> ?_;have h:=dS h;refine⟨j,g,(CV.kN e1)▸h1,?_,h.2.symm⟩;rw[h2,CO.k1 e2,CV.kO e3,beq_iff_eq.mp h.1]
def cT.ajq (h:cT S k lay (.Name n np) f):cT S k lay (.Attribute (.Name n np) a6 pos) (sy f):=by intro p O st v bc hf;let ⟨j,g,h1,h2,rfl⟩:=Jk hf;exact Ev.E3 (h p O st _ bc h1) (bc.obs j _ h2) (ay)
def Bx (w b:Bool) (f fe:EF) (st:St):Option CV:=((f st).bind CV.aN).bind λj=>((fe st).bind CV.aS).bind λx=>((st.ob[j]?).bind CO.a1).bind λq=>
 if q.1==a6/\kR (codeOf b) x=aa w then ~~~(.str x) else ac
def By (hf:Bx w b f fe st=aa v) {G:Prop} (k:∀j x u,f st=aa (.inst j)->fe st= ~~~(.str x)->st.ob[j]? =aa (.attrs [(a6,u)])->kR (codeOf b) x=aa w->v= .pv (.str x)->G):G:=by refine a9 hf λj hj hf=>a9 hj λz hj e1=>a9 hf λx hx hf=>a9 hx λz hx e2=>a9 hf λq ha hf=>a9 ha λz ha e3=> ?_;let ⟨hh,e⟩:=dS hf;exact k j x q.2 (hj.trans (congrArg aa (CV.kN e1))) (hx.trans (congrArg aa (CV.kS e2))) (by rw[ha,CO.k1 e3,beq_iff_eq.mp hh.1]) hh.2 e.symm
def yz (h1:f st=aa (.inst j)) (h2:fe st= ~~~(.str x)) (h3:st.ob[j]? =aa (.attrs [(a6,v)])) (h4:kR (codeOf b) x=aa w):Bx w b f fe st= ~~~(.str x):=by unfold Bx;rw[h1,h2];show((st.ob[j]?).bind CO.a1).bind _=_;rw[h3];exact if_pos ⟨beq_self_eq_true a6,h4⟩
def qr:Bool->(St->Option CV)->(St->Option CV)->St->Option CV:=Bx false
def cT.conv (hk:1<=k) (h:cT S k lay o f) (he:cT S k lay e fe) (hs:notStar e=true) (ik:∀env,attributeBase o "_convert_string_type" env (eval o env)=eval o env) (gC:(jz.endLine==pos.line)=true):
  cT S k lay (.Call (.Attribute o "_convert_string_type" jz) [e] [⟨aa mC,.Constant (.bool b) n FP,kp⟩] pos) (qr b f fe):=by
 intro p O st v bc hf;refine By hf λj x u hj hx ha hh e=> ?_;subst e;have FO:=bc.obs j _ ha;obtain⟨k',rfl⟩:∃k',k=k'+1:=⟨k- 1,by simp_all⟩;exact Ev.ur (r:=rC) Qf (by unfold iW;show(_,aa (eL 83))∈_;walk_at "a") vn (h p O st _ bc hj) FO (by show _∉ [a6];decide) (.cons (he p O st _ bc hx) .nil hs) (.cons Ev.bool .nil) (dy.conv (k:=k') b (getElem?_lt' FO) hh) ik gC (by show 1+1<20;decide)
def Qh (f:EF) (st:St):Option (pu×St):=((f st).bind CV.aDc).bind λl=>match l with
 | []=>aa (.next,st)
 |_::_=>ac
def mw.Nd (h:cT S k lay o f) (ik:∀env,attributeBase o "items" env (eval o env)=eval o env) (gC:(jz.endLine==FP.line)=true):
  mw S k lay (.For cE (.Call (.Attribute o "items" jz) [] [] FP) body [] pos) (Qh f):=by
 intro p O st fl cf bc hf;refine a9 hf λl hd hf=>a9 hd λq hd e=> ?_;rw[CV.kDc e]at hd;cases l
 rotate_left
 ·exact gq hf
 let ⟨rfl,rfl⟩:=bH (ag hf);refine⟨O,⟨ab _,λA c s env hA hE R E Q hQ=> ?_⟩,bc,.refl ..⟩;refine OS ?_ (λq=>rfl);refine eJ (ik env) rfl gC ((h p O st _ bc hd).run A c s env hA hE R _ _ λc2 v2 s2 l2 R2 K2 a2=> ?_);let ⟨hT,tX⟩:=z9 bc (v:= .pv (.oQ [])) (T:= "dict") rfl R2 a2;refine⟨"dict", "dict.items",F.plainAttrs_dict,F.slot_dict_items,F.type_dict_items,hT,tX,cX rfl ?_⟩;refine ef .nil _ FP A c2 s2 env hA (hE.mono l2 (ab _)) R2 _ _ λc3 vs s3 l3 R3 K3 a3=> ?_;left;obtain rfl:=a3.i0;let ⟨a,es,ep,kvs,rfl,SG,ho,nd,hp⟩:=Tn.val.at R3 (a2.mono l3 (ab _));have FS:=hp.dictOf ho nd;right;have hk0:kvs=[]:=by have:=congrArg eW hp.keys;simp at this;exact this
 subst hk0;refine call_meetsIn F.slot_dict_items (mJ FS).typeIs F.entry_dict_items (F.args_dict_items_1 _) (meets_dict_items (strKind pw S.w) a SG) ⟨⟨[],mJ FS⟩,?_⟩;refine wpAny_pyIter_items (knd:=strKind pw S.w) (kvs:=[]) (ep:=ep) ⟨_,aV _ rfl,rfl,rfl⟩ (FS.keep λb o e=>aJ _ e) ?_;refine eZ ?_;rw[cy (by rfl)];show wpAny _ A ((forTurn _ _ _ _ env).onRaise (λx=>do noteFrame x env;theTreesLotGoes x)) _ _ _;refine jD ?_;simp only[forTurn];refine am (cV (am (kC ?_)));refine wpAny_pyNext_items_end (knd:=strKind pw S.w) (kvs:=[]) (i:=0) (ep:=ep) (ok:= .none) (ov:= .none) hA.hn (aV _ rfl) ((FS.keep λb o e=>aJ _ e).keep λb o e=>aJ _ e) rfl λh' hb=> ?_;refine aR ⟨rfl,AD (jB ?_)⟩;refine hQ c3 .next _ (l2.trans l3 (ab _)) (R3.ext λb o e=> ?_) ((K2.trans K3).trans (.gF ..)) .next;exact hb b o (by simp only[eT];exact cM (eH (bW e))) (aJ _ (aJ _ e))
end
set_option maxHeartbeats 4000000
local macro_rules | `(tactic| walk_at "sd") => pure (wf (["ki; nil; loc; nr", "cT; ajq; conv; ahG CC; ahG G0; ahG DC; ahG W6; ahG Tq; ahG W7", "mw; Nd"].map wz))
def zl:Lay:=eV qT ["self"] [("name",0)]
def xq:fT:=lQ [([46,48],.local),([107,118],.local),([110,97,109,101],.free)] ["kv"] [] [("name",0)]
def oY:SF:=(aC (bZ (qr true (ak 0) (eP "str" kM (aX 0) aZ)) (jL 0)) (aC (i7 (eh xq (GI (sy (ak 0))) (dM (bf 0) (bY .Eq (eP "str" kM (bk (ak 0) ⇑0) aZ) (aX 0)) (gN (bk (ak 0) ⇑1))))) br))
def DD:List CV->St->Option St:=(fA (bf 0) (fA (jL 0) qZ))
def ku:List PV->List PV->Option (PV×List PV):=ut ["self"] [("name",0)] DD oY
def Nf:ki S zl ["self", "name"] DD:=by walk_at "sd"
def Ng:j5 S 1 zl qT.body oY:=by walk_at "sd"
def DE:Lay:=eV wL ["self"] []
def uu:SF:=(aC (i7 (fN (sy (ak 0)) eB eB eB)) br)
def LP:List CV->St->Option St:=(fA (bf 0) qZ)
def xr:List PV->List PV->Option (PV×List PV):=ut ["self"] [] LP uu
def Uz:ki S DE ["self"] LP:=by walk_at "sd"
def UA:j5 S 0 DE wL.body uu:=by walk_at "sd"
def mj:Lay:=eV fw ["self", "_name", "_value", "_params", "parts", "k", "v"] []
def ml:SF:=(aC (CN (.list []) (bf 4)) (aC (jC (bY .IsNot (ak 2) (jh PV.none)) (aC (bZ (qr false (ak 0) (ak 2)) (bf 2)) (aC (oE gZ (ak 4) (au (ak 2) aZ)) br)) br) (aC (Qh (ak 3)) (aC (oE gZ (sy (ak 0)) (au (jc (au (qr true (ak 0) (ak 1)) (au (eP "str" Bb ↥"; " (au (ak 4) aZ)) aZ))) aZ)) br))))
def oI:List CV->St->Option St:=(fA (bf 0) (fA (bf 1) (fA (bf 2) (fA (bf 3) qZ))))
def oJ:List PV->List PV->Option (PV×List PV):=ut ["self", "_name", "_value", "_params", "parts", "k", "v"] [] oI ml
def rT:ki S mj ["self", "_name", "_value", "_params"] oI:=by walk_at "sd"
def E4:j5 S 1 mj fw.body ml:=by walk_at "sd"
set_option maxHeartbeats 200000
noncomputable abbrev Jl:Str:=ah "_name"
noncomputable abbrev E5:Str:=ah "_value"
noncomputable abbrev Bz:Str:=ah "_params"
def set_same (h:O[i]? =aa x):O.set i x=O:=by
 apply ry;intro j;by_cases Kq:i=j
 ·subst Kq;rw[bU (getElem?_lt' h),h]
 ·rw[bE Kq]
def Yv:qT∈fW:=by unfold fW;walk_at "a"
def Yw:wL∈fW:=by unfold fW;walk_at "a"
def Jm:fw∈fW:=by unfold fW;walk_at "a"
def dy.Qi (hi:O[i]? =aa (.attrs [(a6,.fM h)])) (hh:O[h]? =aa (.list l)) (yP:i≠h) (hm:ku l [.str x]=aa (d,l')):
  dy S 2 O (.pv (.con (.ref qT.addr))) [.inst i,.pv (.str x)] [] (.pv d) (O.set h (.list l')):=
 dy.tb (.of 22 rfl rfl rfl) Nf Ng hi hh yP hm (λpm=>(jH.plain (args:=[.inst i,.pv (.str x)]) rfl (bd2 λq q=>rfl)).B)
def dy.items (hi:O[i]? =aa (.attrs [(a6,.fM h)])) (hh:O[h]? =aa (.list l)) (yP:i≠h) (hm:xr l []=aa (d,l')):
  dy S 1 O (.pv (.con (.ref wL.addr))) [.inst i] [] (.pv d) (O.set h (.list l')):=
 dy.tb (.of 23 rfl rfl rfl) Uz UA hi hh yP hm (λpm=>(jH.plain (args:=[.inst i]) rfl (Tp λq=>rfl)).B)
def nP (pm:Value):vH S k O (fw.fd pm) [.inst i,x,y] [] [(iV,.inst i),(Jl,x),(E5,y),(Bz,.pv (.oQ []))]:=by
 intro A c s vs kvs _ R ha hk H6 E Q hQ;have ZM:kvs=[]:=by induction kvs with|nil=>rfl|cons _ _=>nomatch hk
 subst ZM;have h9:=ha.i1;clear ha;let ⟨v0,_,rfl,h0,ha⟩:=h9;have h9:=ha.i1;clear ha;let ⟨v1,_,rfl,h1,ha⟩:=h9;have h9:=ha.i1;clear ha;let ⟨v2,_,rfl,h2,ha⟩:=h9;obtain rfl:=ha.i0;have hF:=R.oz (ab s.heap.objs.size);have hnm:(s.heap.objs.size==sysModules)=false:=by let ⟨o,ho⟩:=S.mods;have:=bW (R.old ho ∅);exact beq_eq_false_iff_ne.mpr (jV this)
 have fin:=hQ (c.put s.heap.objs.size {cls:= .type "dict",data:= .dict #[]}) [(iV,v0),(Jl,v1),(E5,v2),(Bz,.ref s.heap.objs.size)] {s with heap:=s.heap.push {cls:= .type "dict",data:= .dict #[]}} (aM.dC hF)
  (R.put (λb o e=>aJ _ e) (ab _) (aV _ rfl)) (.gF ..) rfl
  (.cons (h0.mono (aM.dC hF) (ab _)) (.cons (h1.mono (aM.dC hF) (ab _)) (.cons (h2.mono (aM.dC hF) (ab _)) (.cons (.pv (.oQ hnm (if_pos rfl) rfl kJ (λi e k d h=>by simp at h) λi e k d h=>by simp at h)) .nil))))
 have e:bindArgs (fw.fd pm) ⟨[v0,v1,v2],[]⟩=(PySem.alloc {cls:= .type "dict",data:= .dict #[]} >>= λd=>pure [(iV,v0),(Jl,v1),(E5,v2),(Bz,.ref d)]):=by with_unfolding_all rfl
 rw[e];exact am (Ge (aR fin))
def dy.DF (hi:O[i]? =aa (.attrs [(a6,.fM h)])) (hh:O[h]? =aa (.list l)) (yP:i≠h) (hm:oJ l [.str x,.str y,.oQ []]=aa (d,l')):
  dy S 2 O (.pv (.con (.ref fw.addr))) [.inst i,.pv (.str x),.pv (.str y)] [] (.pv d) (O.set h (.list l')):=
 dy.tb (.of 24 rfl rfl rfl) rT E4 hi hh yP hm (λpm=>nP pm)
section
variable {lay:Lay}
def St.Jn (st:St) (v:CV):Option (Nat×List PV):=v.aN.bind λj=>((st.ob[j]?).bind CO.a1).bind λq=>q.2.aO.bind λh=>(Tj st.ob[h]?).bind λl=>if (q.1==a6)=true then aa (h,l) else ac
def Ha {st:St} (e:st.Jn v=aa (h,l)):∃j,v= .inst j/\st.ob[j]? =aa (CO.attrs [(a6,.ob h)])/\st.ob[h]? =aa (CO.list l):=by refine a9 e λj e1 e=>a9 e λq e2 e=>a9 e2 λq e2 e3=>a9 e λg e4 e=>a9 e λm e5 e=> ?_;let ⟨hn,e⟩:=dS e;let ⟨rfl,rfl⟩:=bH e;exact⟨j,CV.kN e1,by rw[e2,CO.k1 e3,CV.kO e4,beq_iff_eq.mp hn],ul e5⟩
def At.Jn (bc:At lay p st O) (e:st.Jn v=aa (h,l)):∃i,v.av p.oi= .inst i/\O[i]? =aa (.attrs [(a6,.fM (p.oi h))])/\O[p.oi h]? =aa (.list l)/\i≠p.oi h:=by let ⟨j,rfl,h1,h2⟩:=Ha e;refine⟨p.oi j,rfl,(bc.obs j _ h1),(bc.obs h _ h2),λe=> ?_⟩;have:=bc.Vv j h (getElem?_lt' h1) (getElem?_lt' h2) e;subst this;rw[h1]at h2;nomatch h2
def gL (F:St->Option (pu×St)):Prop:=∀st fl cf,F st=aa (fl,cf)->cf.ob=st.ob
def gL.nil:gL br:=λst fl cf h=>by let ⟨rfl,rfl⟩:=bH (ag h);rfl
def gL.cons (h1:gL f) (h2:gL g):gL (aC f g):=λst fl cf h=>by
 rcases qX h with⟨st1,e,h⟩|⟨v,e,rfl⟩
 ·exact(h2 _ _ _ h).trans (h1 _ _ _ e)
 ·exact h1 _ _ _ e
def gL.ret:gL (i7 f):=λst fl cf h=>by unfold i7 at h;let ⟨v,_,e⟩:=ar.mp h;let ⟨rfl,rfl⟩:=bH e;rfl
def gL.ajr:gL (bZ f (jL i)):=λst fl cf h=>by unfold bZ at h;simp only[ar,aG]at h;let ⟨st1,⟨v,_,e1⟩,e⟩:=h;let ⟨rfl,rfl⟩:=bH e;obtain rfl:=ag e1;rfl
def gL.tb (hF:gL F) (VG:∀ds st cf,tg ds st=aa cf->cf.ob=st.ob) (h:ut loc own tg F l ds=aa (d,l')):l'=l:=by unfold ut at h;simp only[aG]at h;let ⟨st1,h1,⟨fl,st2⟩,h2,h3⟩:=h;let ⟨_,_,e⟩:=zk h3;have e':st2.ob[1]? =aa (CO.list l'):=e;rw[hF _ _ _ h2,VG _ _ _ h1]at e';cases e';rfl
def vM (hg:∀ds st cf,g ds st=aa cf->cf.ob=st.ob) (f:CV->St->Option St) (hf:f=bf i\/f=jL i):∀ds st cf,fA f g ds st=aa cf->cf.ob=st.ob:=λds st cf h=>by
 induction ds with
 |nil=>cases h
 |cons d ds=>
  rcases hf with rfl|rfl
  ·exact(hg ds _ cf h).trans rfl
  ·exact(hg ds _ cf h).trans rfl
def DG:∀ds st cf,qZ ds st=aa cf->cf.ob=st.ob:=λds st cf h=>by
 induction ds with
 |nil=>obtain rfl:=ag h;rfl
 |cons=>nomatch h
def E6 (h:ku l ds=aa (d,l')):l'=l:=
 gL.tb (F:=oY) (gL.cons gL.ajr (gL.cons gL.ret gL.nil)) (vM (vM DG _ (.inr rfl)) _ (.inl rfl)) h
def Hb (h:xr l ds=aa (d,l')):l'=l:=
 gL.tb (F:=uu) (gL.cons gL.ret gL.nil) (vM DG _ (.inl rfl)) h
end
def Rel.W8 {c:aM} {h:iR} (R:Rel S c O h) {a:Addr} (ha:h.get? a=ac):qF c ↑O a where
 F:=by
  cases e:c.F a with
  |none=>rfl
  |some o=>rw[R.frozen _ _ e]at ha;nomatch ha
 Z:=λi hi e=>by let ⟨o,ho,_⟩:=R.own i O[i] (aq hi);rw[e,ha]at ho;nomatch ho
 pin:=by
  cases e:c.pin a with
  |none=>rfl
  |some o=>rw[(R.pins a o e).1]at ha;nomatch ha
 tab:=λq hq e=>by let ⟨_,_,ps,d,_⟩:=R.tabs q hq;rw[e,ha]at d;nomatch d
def Rel.ajs {c:aM} {h h':iR} (R:Rel S c O h) {a:Addr} {o:Obj} {ao:AO} (k:∀b o,h.get? b=aa o->h'.get? b=aa o) (hf:qF c ↑O a) (ho:h'.get? a=aa o)
  (hr:ic S.w (c.own ↑O a) (↑O+1) o ao):Rel S (c.own ↑O a) (O++[ao]) h' where
 frozen:=λx y e=>k _ _ (R.frozen x y e)
 base:=R.base
 own:=λi x e=>by
  rw[aj];rcases eG i ↑O with hi|hi|hi
  ·rw[aW hi]at e;let ⟨o',p,q⟩:=R.own i x e;refine⟨o',?_,q.mono aM.jb (mu _)⟩;exact(aM.jb.Z i hi).symm▸(k _ _ p)
  ·subst hi;rw[aE (ab _),dc]at e;obtain rfl:=ag e;exact⟨o,by rw[aM.ma];exact ho,hr⟩
  ·rw[aE (ce hi)]at e;have:(i- ↑O)≠0:=by exact om0 hi
   let ⟨j,hj⟩:=oU this;rw[hj]at e;simp at e
 apart:=λi hi=>by
  rw[aj]at hi;show c.F (if i= ↑O then a else c.Z i)=ac;by_cases e:i= ↑O
  ·rw[if_pos e];exact hf.F
  ·rw[if_neg e];exact R.apart i (by simp at hi;exact IT hi e)
 inj:=λi j hi hj e=>by
  rw[aj]at hi hj;simp only[be]at hi hj;have e':(if i= ↑O then a else c.Z i)=(if j= ↑O then a else c.Z j):=e;by_cases p:i= ↑O<;>by_cases q:j= ↑O
  ·exact om2 p q
  ·rw[if_pos p,if_neg q]at e';exact absurd e'.symm (hf.Z j (by exact IT hj q))
  ·rw[if_neg p,if_pos q]at e';exact absurd e' (hf.Z i (by exact IT hi p))
  ·rw[if_neg p,if_neg q]at e';exact R.inj i j (by exact IT hi p) (by exact IT hj q) e'
 pins:=λx y e=>by
  let ⟨p1,p2,p3,p4⟩:=R.pins x y e;refine⟨k _ _ p1,p2,λi hi=> ?_,p4⟩;rw[aj]at hi;simp only[be]at hi;show(if i= ↑O then a else c.Z i)≠x;by_cases p:i= ↑O
  ·rw[if_pos p];rintro rfl;have e':c.pin a=aa y:=e;rw[hf.pin]at e';nomatch e'
  ·rw[if_neg p];exact p3 i (by exact IT hi p)
 tabs:=λq hq=>by
  left;let ⟨x,b,ps,d,e,f⟩:=R.tabs q hq;right;refine⟨x,λi hi=> ?_,ps,k _ _ d,e,f⟩;rw[aj]at hi;simp only[be]at hi;show(if i= ↑O then a else c.Z i)≠q.2;by_cases p:i= ↑O
  ·rw[if_pos p];exact(hf.tab q hq).symm
  ·rw[if_neg p];exact b i (by exact IT hi p)
def callWith_cls {k:ClassData} (hC:s.heap.get? C=aa oC) (hc:oC.cls= .type "type") (hd:oC.data= .cls k)
  (h:wpAny (MM w) A (call (.ref C) []) Q E s):wpAny (MM w) A (callWith pos (.ref C) [] [] []) Q E s:=by
 unfold callWith;refine am (dH (PyProof.Rows.evalArgs_nil3 (am (cV ?_))));refine am (m:=keeperOf (.ref C)) ?_;unfold keeperOf;refine am (KE hC ?_);rw[hd];refine am (wpAny_specialOf (T:= "type") ⟨oC,hC,hc⟩ F.lookup_type_call (aR ?_));rw[if_pos tt];exact am (gb h (λr rr hr=>am (dH (wpAny_point (aR hr)))) λq q x=>x)
def jG.Nh {A:cS} (h:jG (k+1) A):jG k (A.under (.builtin "type.__call__" ⟨[.ref 182],[]⟩)) where
 hn:=h.hn
 depth:=dep h.depth (by decide+kernel)
 units:=dep h.units (by decide+kernel)
 frames:=by let ⟨l,e⟩:=h.frames;exact⟨_,by show pushEnvs (Code.builtin "type.__call__" ⟨[.ref 182],[]⟩).envs A.frames=_;rw[pushEnvs_eq,e];rfl⟩
 guards:=by let ⟨l,e⟩:=h.guards;exact⟨_,by show pushGuards (Code.builtin "type.__call__" ⟨[.ref 182],[]⟩).guards A.guards=_;rw[pushGuards_eq,e];rfl⟩
def Ev.Yx (h0:oA S k O ae t b) (h1:Ev S k O ae (if b=true then x else y) d bv):Ev S k O ae (.IfExp t x y pos) d bv:=by refine⟨h1.len,λA c s env hA hE R E Q hQ=> ?_⟩;refine VP (h0 A c s env hA hE R _ _ λc1 s1 l1 R1 K1=> ?_);cases b<;>exact h1.run A c1 s1 env hA (hE.mono l1 (ab _)) R1 E Q λc2 v2 s2 l2 R2 K2 a2=>hQ c2 v2 s2 (l1.trans l2 (ab _)) R2 (K1.trans K2) a2
def iX.Yy (h:Ev S k O ae kA d O) (hl:IsL O d []) (hs:∀env x,foldedSetIterable kA env x=pure x):iX S k O ae (.For cE kA body [] pos) .next O:=by refine⟨ab _,λA c s env hA hE R E Q hQ=> ?_⟩;refine OS (la.list h hl A c s env hA hE R _ _ λc1 s1 I own J l1 ho R1 K1 P ng J1=> ?_) (hs env);refine eZ ?_;rw[cy (by rfl)];show wpAny _ A ((forTurn _ _ _ _ env).onRaise (λx=>do noteFrame x env;theTreesLotGoes x)) _ _ _;refine jD ?_;simp only[forTurn];refine am (cV (am (kC (P.next J1 R1 (ab _) ng hA _ _ (λq c2 s2 l2 R2 K2=> ?_) λx r e=>by nomatch e))));let ⟨u1,u2⟩:=(l1.trans l2 (ab _)).GB ho;exact aR ⟨rfl,AD (jB (hQ _ .next s2 u2 (R2.gM u1) (lE.K (K1.P.trans K2)) .next))⟩
def Ev.Qj (hf:nL S k O ae (.Name f np) (.con (.type "type"))) (h:Ev S k O ae e d O) (hl:IsL O d l) (hs:notStar e=true):nL S k O ae (.Call (.Name f np) [e] [] pos) (.con (.type "list")):=by refine⟨ab _,λA c s env hA hE R E Q hQ=> ?_⟩;refine cn (hf.run A c s env hA hE R _ _ λc1 v1 s1 l1 R1 K1 a1=> ?_);have e':=a1.dn;subst e';refine ec (noStar (.cons h .nil hs) pos env) ?_;refine ef (.cons h .nil hs) _ pos A c1 s1 env hA (hE.mono l1 (ab _)) R1 _ _ λc2 vs s2 l2 R2 K2 a2=> ?_;have h9:=a2.i1;clear a2;let ⟨_,_,rfl,a2,b2⟩:=h9;left;obtain rfl:=b2.i0;let ⟨a,vs,n,rfl,ho,_,_⟩:=hl.at R2 a2;right;exact call_type_of ⟨_,ho,rfl⟩ rfl (hQ c2 _ s2 (l1.trans l2 (ab _)) R2 (K1.trans K2) (.pv (.con _)))
def Rel.qb (R:Rel S c O h) (hi:i< ↑O):Rel S c (O.set i .qb) h:=by let ⟨o,ho,_⟩:=R.own i _ (aq hi);exact R.set hi (λb o q e=>e) ho (.qb o)
def iX.Jo (hx:Ev S k O ae (.Name x xp) (.fM j) O) (h:Ev S k O ae (.Name n np) (.inst i) O) (hi:O[i]? =aa (.attrs [])):iX S k O ae (.Assign [.Attribute (.Name n np) a6 ap] (.Name x xp) pos) .next (O.set i (.attrs [(a6,.fM j)])):=by
 refine⟨by rw[bi];exact ab _,λA c s env hA hE R E Q hQ=> ?_⟩;refine plainObj_wpAny_Assign_Attribute (hx.run A c s env hA hE R _ _ λc1 v1 s1 l1 R1 K1 a1=> ?_) ?_
 ·refine h.run A c1 s1 env hA (hE.mono l1 (ab _)) R1 _ _ λc2 v2 s2 l2 R2 K2 a2=> ?_;have hF:∃a o,v2= .ref a/\c2.F a=aa o/\o.dict=aa (c2.Z i):=by left;let ⟨a,o,mA,e,h1,h2,_⟩:=R2.inst hi a2;right;exact⟨a,o,e,h1,h2⟩
  left;let ⟨a,o,mA,rfl,h1,h2,hI,hm1,hm2⟩:=R2.inst hi a2;let ⟨nm,q,bs,sn,sub,O5,dd,k0,k1,k2,k3,k5,mN,hC,vt,hN⟩:=R2.clsAt;right;have hxC:a≠182:=by rintro rfl;let ⟨o',se,Xv,_⟩:=id hI;rw[R2.frozen _ _ h1]at se;obtain rfl:=ag se;have:=R2.frozen _ _ h1;rw[hC]at this;obtain rfl:=ag this;nomatch Xv
  let ⟨hp,g,d',t,os⟩:=s2;refine store_attr (ns:=[]) F.store_object hC vt (hN (ah "__setattr__",ac) (by unfold iW;walk_at "a")) (hN (ah "_headers",ac) (by unfold iW;walk_at "a")) rd hxC hI (λh' tk' I' hk qf=> ?_) ?_ ?_
  ·have sM:h'.get? a=aa o:=by let ⟨akd,e1,e2,e3,e4,e5⟩:=qf o (R2.frozen _ _ h1);rw[e1];let ⟨c1,d1,x1,y1⟩:=akd;let ⟨c0,d0,x0,y0⟩:=o;have e5':=e5 _ h2;subst e2;subst e3;subst e4;have OL:d0=aa (c2.Z i):=h2;have ake:d1=aa (c2.Z i):=e5';rw[OL,ake]
   have hd:∃oD,h'.get? (c2.Z i)=aa oD/\ic S.w c2 ↑O oD (.attrs [(a6,.fM j)]):=by
    left;let ⟨o',se,Xv,hnc,hdx⟩:=I';right;rw[sM]at se;obtain rfl:=ag se;left;rcases hdx with⟨hn0,_⟩|⟨d',AB,agV,oD,es,ep,hoD,e1,e2,e3,e4⟩
    ·rw[hn0]at h2;nomatch h2
    ·right;rw[h2]at AB;obtain rfl:=ag AB;refine⟨oD,hoD,.attrs e1 e2 e3 (by show [a6].Nodup;simp) (λx d hxd=> ?_) λx hx=> ?_⟩
     ·rw[aB]at hxd;let ⟨rfl,rfl⟩:=bH hxd;exact⟨v1,by rw[e4];exact if_pos rfl,a1.mono l2 (ab _)⟩
     ·rw[e4];have:x≠a6:=λe=>hx (e▸ay);show(if x=a6 then aa v1 else mA x)=_;rw[if_neg this];exact hm2 x (by simp)
   let ⟨oD,hoD,hrD⟩:=hd;refine hQ c2 .next ⟨h',g,d',tk',os⟩ (l1.trans l2 (ab _)) (R2.set (getElem?_lt' hi) (λb ob hb e=> ?_) hoD hrD) ((K1.trans K2).trans (.heap ..)) .next;by_cases hba:b=a
   ·subst hba;rw[R2.frozen _ _ h1]at e;obtain rfl:=ag e;exact sM
   ·exact hk b ob hba (λFK dx e1 e2=>by
     rw[R2.frozen _ _ h1]at e1;obtain rfl:=ag e1;rw[h2]at e2;obtain rfl:=ag e2;exact hb) e
  ·intro y hy;exact absurd (hm2 y (by simp)) hy
  ·decide
 ·rfl
noncomputable abbrev vN:Str:=ah "headers"
noncomputable abbrev sK:Str:=ah "k"
noncomputable abbrev sV:Str:=ah "v"
def BA:pT j9.scope [iV,vN,sK,sV]:=pT.of tt
def Qk:me j9.scope [ah "type",ah "list"]:=me.of tt
def Ev.Ql (hj:j= ↑O) (h:bv=O++[AO.list []]):Ev S k O ae (.List [] pos) (.fM j) bv:=by subst hj h;exact Ev.newList
def Ni (hi:O[i]? =aa (.attrs [])):cH S k (O++[.ns [(iV,aa (.inst i)),(vN,~~~PV.none),(sK,ac),(sV,ac)]]) (j9.env (↑O+0)) j9.body .next
  (O.set i (.attrs [(a6,.fM (↑O+1))])++[.ns [(iV,aa (.inst i)),(vN,aa (.fM (↑O+1))),(sK,ac),(sV,ac)],.list []]):=by
 have h1:=BA;have h2:=Qk;apply cH.cons (bw:=O++[.ns [(iV,aa (.inst i)),(vN,aa (.fM (↑O+1))),(sK,ac),(sV,ac)],.list []])
 ·apply iX.assign (bw:=O++[.ns [(iV,aa (.inst i)),(vN,~~~PV.none),(sK,ac),(sV,ac)],.list []]) (d:= .fM (↑O+1))
  ·apply Ev.Yx (b:=false)
   ·apply oA.js (a:= .pv PV.none) (b:= .pv PV.none)
    ·walk_at "b"
    ·walk_at "b"
    ·intro S k A c s u v hA R ha hb E Q hQ;have e1:=ha.dn;have e2:=hb.dn;subst e1 e2;exact C9 rfl (hQ c _ _ (.refl ..) R (.refl ..) (.pv (.con _)))
    ·rfl
   ·rw[if_neg bG];apply Ev.Ql (by simp) (by simp)
  ·apply j4.AU h1
   ·rfl
   ·walk_at "a"
   ·walk_at "e"
   ·walk_at "c"
   ·walk_at "d"
  ·intro _ _;rfl
 apply cH.cons
 ·apply iX.if (b:=false)
  ·apply oA.js (a:= .pv (.con (.type "list"))) (b:= .pv (.con (.type "list")))
   ·apply Ev.Qj (d:= .fM (↑O+1)) (l:=[])
    ·walk_at "b"
    ·walk_at "b"
    ·exact IsL.fM (by walk_at "e")
    ·rfl
   ·walk_at "b"
   ·intro S k A c s u v hA R ha hb E Q hQ;have e1:=ha.dn;have e2:=hb.dn;subst e1 e2;exact C9 rfl (hQ c _ _ (.refl ..) R (.refl ..) (.pv (.con _)))
   ·rfl
  ·exact cH.nil
 apply cH.cons
 ·apply iX.Jo (i:=i) (j:= ↑O+1)
  ·walk_at "b"
  ·walk_at "b"
  ·exact gA hi
 rw[kE _ _ (getElem?_lt' hi)];apply cH.cons
 ·apply iX.if (b:=true)
  ·exact oA.Bu Ev.bool λq q=>rfl
  ·rw[if_pos rfl];apply cH.cons
   ·apply iX.Yy (d:= .fM (↑O+1))
    ·rw[show j9.env (↑O+0)=j9.env ((O.set i (.attrs [(a6,.fM (↑O+1))])).length+0) by rw[bi]];apply Ev.loc h1
     ·rfl
     ·walk_at "a"
     ·walk_at "e"
     ·walk_at "a"
     ·kernel_rfl
    ·apply IsL.fM;rw[aE (by rw[bi];exact bh _ _),bi,bP];rfl
    ·intro _ _;rfl
   ·exact cH.nil
 exact cH.nil
def BB:j9∈fW:=by unfold fW;walk_at "a"
def fc {P:α->Prop} (h:P a) (hl:∀x∈l,P x):∀x∈a::l,P x:=List.forall_mem_cons.mpr ⟨h,hl⟩
def Ev.Jp (hf:nL S (k+2) O ae (.Name f np) (.con (.ref 182))):Ev S (k+2) O ae (.Call (.Name f np) [] [] pos) (.inst ↑O) (O++[.attrs [(a6,.fM (↑O+2))],.qb,.list []]):=by
 refine⟨by rw[aj];exact Pc,λA c s env hA hE R E Q hQ=> ?_⟩;refine cn (hf.run A c s env hA hE R _ _ λc1 v1 s1 l1 R1 K1 a1=> ?_);have e':=a1.dn;subst e';left;let ⟨nm,q,bs,sn,sub,O5,dd,k0,k1,k2,k3,k5,mN,hC,vt,hN⟩:=R1.clsAt;have hi:=hN (ah "__init__",aa (.ref 76)) (by unfold iW;walk_at "a");let ⟨o,pm,ho,FR,Ck,C7⟩:=R1.fn BB;right;refine callWith_cls hC rfl rfl ?_;let ⟨hp,g,d',t,os⟩:=s1;refine wpAny_call_obj_init F.objNew hC vt hi ho FR λh' x dx Mk=> ?_;left;let ⟨ox,hx,hcx,akg,hdx⟩:=Mk.inst;have hdd:=Mk.dict ox hx;right;have tX:dx≠x/\∃oD es ep,h'.get? dx=aa oD/\oD.data= .dict es ep/\De es/\VR es/\∀y,nsFind es y=ac:=by
  left;rcases hdx with(⟨hn0,_⟩|⟨d1,AB,agV,oD,es,ep,e0,e1,e2,e3,e4⟩)
  ·right;rw[hn0]at hdd;cases hdd
  ·right;rw[hdd]at AB;cases AB;exact⟨agV,oD,es,ep,e0,e1,e2,e3,e4⟩
 left;let ⟨oS,oD,es,ep,e0,e1,e2,e3,e4⟩:=tX;have f0:=R1.W8 Mk.newX;right;have hfx:qF (c1.own ↑O dx) ↑(O++[AO.attrs []]) x:= {
  F:=f0.F
  Z:=λi hi e=>by
   rw[aj,be]at hi;have e':(if i= ↑O then dx else c1.Z i)=x:=e;by_cases h:i= ↑O
   ·rw[if_pos h]at e';exact oS e'
   ·rw[if_neg h]at e';exact f0.Z i (IT hi h) e'
  pin:=f0.pin
  tab:=f0.tab}
 have R3:=(R1.ajs Mk.keeps (R1.W8 Mk.newD) e0 (.attrs e1 e2 e3 kJ (λx d hx=>by cases hx) λy z=>e4 y):Rel S (c1.own ↑O dx) (O++[.attrs []]) h').freeze hfx hx;generalize ON:(c1.own ↑O dx).put x ox=c3 at R3;have hv:cU S.w c3 ↑(O++[AO.attrs []]) (.ref x) (.inst ↑O):=by rw[<- ON];refine .inst (a:=x) (o:=ox) (if_pos rfl) hcx akg ?_ (by rw[aj];exact eu _);rw[hdd];exact congrArg aa (aM.ma ..).symm
 have Xy:jG (k+1) (A.under (.builtin "type.__call__" ⟨[.ref 182],[]⟩)):=hA.Nh;left;let ⟨o69,n69,h69,akh⟩:=S.Ea;have aki:=R3.old h69 ∅;right;have Kv:h'.CodeRec ((j9.fd pm).code) (j9.fd pm).qualname:=by left;let ⟨FK,agd,_,_,_,aml⟩:=S.fns j9 BB;right;exact C7.keeps Mk.keeps
 refine v8 (codeAny_call_def (fd:=j9.fd pm) (body:=j9.body) (binds:=[(iV,.ref x),(vN,.none)]) Xy.room (Mk.keeps _ _ ho) Ck R3.lim Kv rfl (BindsTo.of_defaults rfl aki akh rfl (by with_unfolding_all rfl)) (by decide+kernel:∀x∈j9.scope.names,x.2≠ .cell) ?_ (λh₀ tY agW=> ?_) rfl rfl rfl)
 ·exact fa2 (lk BA [iV] tt _ ay) (lk BA [vN] tt _ ay)
 have ua: ↑(O++[AO.attrs []])= ↑O+1:=by rw[aj,be]
 have akj:h₀.Ns h'.objs.size λy=>([(iV,eL x),(vN,qh)]:List (Str×Value)).reverse.lookup y:=tY;have ZP:∀b o,h'.get? b=aa o->h₀.get? b=aa o:=agW;let ⟨on,hon,hrn⟩:=ic.PD (w:=S.w) (c:=c3.own ↑(O++[AO.attrs []]) h'.objs.size) (n:= ↑(O++[AO.attrs []])+1) (m:=[(iV,aa (.inst ↑O)),(vN,~~~PV.none),(sK,ac),(sV,ac)]) akj (by decide: [iV,vN,sK,sV].Nodup)
  (λy d hy=>fc (P:=λp:Str×Option AV=>∀d,p.2=aa d->∃v,([(iV,eL x),(vN,qh)]:List (Str×Value)).reverse.lookup p.1=aa v/\cU S.w (c3.own ↑(O++[AO.attrs []]) h'.objs.size) (↑(O++[AO.attrs []])+1) v d)
   (λd e=>ag e▸⟨.ref x,rfl,hv.mono aM.jb (mu _)⟩) (fc (λd e=>ag e▸⟨.none,rfl,.pv (.con _)⟩) (fc (λd e=>gq e) (fc (λd e=>gq e) fa0))) _ hy d rfl)
  (λy hy=>fc (P:=λp:Str×Option AV=>ac=p.2->([(iV,eL x),(vN,qh)]:List (Str×Value)).reverse.lookup p.1=ac) gq (fc gq (fc (λz=>rfl) (fc (λz=>rfl) fa0))) _ hy rfl)
 have hE:cY (c3.own ↑(O++[AO.attrs []]) h'.objs.size) (O++[AO.attrs []]++[AO.ns [(iV,aa (.inst ↑O)),(vN,~~~PV.none),(sK,ac),(sV,ac)]]).length (j9.env (↑(O++[AO.attrs []])+0)) (callEnv (j9.fd pm) h'.objs.size j9.addr):= {
  scope:=rfl
  kind:=rfl
  locals:=(aM.ma c3 ↑(O++[AO.attrs []]) _).symm
  fi:=by rw[aj (as:=O++[AO.attrs []])];exact eu _
  globals:=rfl
  builtins:=rfl
  cells:=rfl
  jr:=λp hp=>by cases hp
  code:=λa e=>by cases e;rfl
  frame:=⟨_,rfl⟩}
 refine(Ni (S:=S) (k:=k) (O:=O++[AO.attrs []]) (i:= ↑O) (by rw[aE (ab _),dc];rfl)).run _ _ {(⟨h',g,d',t,os⟩:bb)with heap:=h₀,toks:=t+2} _ Xy.deeper hE (R3.AR (h':=h₀) (o:=on) ZP (ab _) hon hrn) _ _ λc5 v5 s5 l5 R5 K5 f5=> ?_;cases f5;have hl:(O++[AO.attrs []]).set ↑O (.attrs [(a6,.fM (↑(O++[AO.attrs []])+1))])++[.ns [(iV,aa (.inst ↑O)),(vN,aa (.fM (↑(O++[AO.attrs []])+1))),(sK,ac),(sV,ac)],.list []]
   =O++[.attrs [(a6,.fM (↑O+2))],.ns [(iV,aa (.inst ↑O)),(vN,aa (.fM (↑O+2))),(sK,ac),(sV,ac)],.list []]:=by
  rw[j7 _ _ (ab _),dc,ua,OX,bF];rfl
 rw[hl]at R5;have R6:=R5.qb (i:= ↑O+1) (by rw[aj];show ↑O+1< ↑O+3;exact ab1);rw[j7 _ _ (Gl),bP,OY,OX]at R6;have l35:aM.le (↑O+1) c3 c5:=by have:=(aM.jb (c:=c3) (n:= ↑O+1) (a:=h'.objs.size));rw[ua]at l5;exact this.trans (l5.weak (by rw[aj,ua];exact bh ..)) (ab _)
 have K35:dY (⟨hp,g,d',t,os⟩:bb) {(⟨h',g,d',t,os⟩:bb)with heap:=h₀,toks:=t+2}:= .heap ..;refine⟨rfl,hQ c5 (.ref x) s5 ((l1.trans (by exact ON▸(aM.jb.trans (aM.dC hfx.F)) (ab _)) (ab _)).trans (l35.weak (mu _)) (ab _)) R6 ((K1.trans K35).trans K5) ?_⟩;rw[ua]at hv;exact(hv.mono l35 (ab _)).mono (.refl ..) (by rw[aj];show ↑O+1<= ↑O+3;exact ab2)
section
variable {lay:Lay}
def dy.le (x:dy S h O f args kw d bv) (hk:h<=k):dy S k O f args kw d bv:=⟨x.len,λA c s fv vs kvs hA=>x.run A c s fv vs kvs (hA.le hk)⟩
def Hc (st:St):Option (CV×St):=aa (.inst ↑st.ob,alloc (.list []) (alloc .qb (alloc (.attrs [(a6,.ob (↑st.ob+2))]) st)))
def M6.ahM (hk:2<=k) (hg:lay.grow=true) (h:lay.mh "Headers" =true):M6 S k lay (.Call (.Name "Headers" np) [] [] pos) Hc:=by
 intro p O st v cf bc hf;let ⟨rfl,rfl⟩:=bH (ag hf);obtain⟨k',rfl⟩:∃k',k=k'+2:=⟨k- 2,by simp_all⟩;let ⟨a1,b1,c1⟩:=bc.alloc hg (.attrs [(a6,.ob (↑st.ob+2))]);let ⟨a2,b2,c2⟩:=a1.alloc hg .qb;let ⟨a3,b3,c3⟩:=a2.alloc hg (.list []);refine⟨_,?_,a3,(b1.trans b2 bc).trans b3 bc⟩;have e2:CO.ao p.oi (.attrs [(a6,.ob (↑st.ob+2))])= .attrs [(a6,.fM (↑O+2))]:=by show AO.attrs [(a6,AV.fM (p.oi (↑st.ob+2)))]=_;rw[bc.next hg 2]
 rw[(by show AV.inst (p.oi ↑st.ob)=_;rw[c1]:CV.av p.oi (.inst ↑st.ob)= .inst ↑O),e2,bF,bF];exact(Ev.Jp (S:=S) (k:=k') (O:=O) (ae:=lay.en p) (np:=np) (pos:=pos) (Ev.Gx h (by show(_,aa (eL 182))∈cg;unfold cg;walk_at "a")))
def afC:List CV->Option Str
 | []=>ac
 | [v]=>v.aS
 |_::_::_=>ac
def Qm (h:afC l=aa x):l=[.pv (.str x)]:=by
 rcases l with _|⟨v,_|_⟩
 ·exact gq h
 ·rw[CV.kS h]
 ·exact gq h
def mY (f:EF) (fa:St->Option (List CV)) (st:St):Option CV:=
 (f st).bind λv=>(st.Jn v).bind λq=>((fa st).bind afC).bind λx=>(ku q.2 [.str x]).map λr=> .pv r.1
def cT.Qi (hk:2<=k) (h:cT S k lay o f) (ha:pU S k lay args fa) (hn: ↑args<20) (ik:∀env,attributeBase o "get_all" env (eval o env)=eval o env) (gC:(jz.endLine==pos.line)=true):
  cT S k lay (.Call (.Attribute o "get_all" jz) args [] pos) (mY f fa):=by
 intro p O st v bc hf;refine a9 hf λov ho hf=>a9 hf λq hq hf=>a9 hf λx hx hf=>a9 hx λz hx e=> ?_;let ⟨hh,l⟩:=q;rw[Qm e]at hx;let ⟨⟨d,l'⟩,hm,rfl⟩:=ar.mp hf;have hl:=E6 hm;subst hl;left;let ⟨i,e1,e2,e3,e4⟩:=bc.Jn hq;have hc:=dy.Qi (S:=S) e2 e3 e4 hm;right;rw[set_same e3]at hc;have h0:=h p O st _ bc ho;rw[e1]at h0;exact Ev.ur Yv (by unfold iW;show(_,aa (eL 121))∈_;walk_at "a") zT h0 e2 (by show _∉ [a6];decide) (ha p O st _ bc hx) .nil (hc.le hk) ik gC hn
def E8 (f:EF) (st:St):Option CV:=
 (f st).bind λv=>(st.Jn v).bind λq=>(xr q.2 []).map λr=> .pv r.1
def cT.items (hk:1<=k) (h:cT S k lay o f) (ik:∀env,attributeBase o "items" env (eval o env)=eval o env) (gC:(jz.endLine==pos.line)=true):
  cT S k lay (.Call (.Attribute o "items" jz) [] [] pos) (E8 f):=by
 intro p O st v bc hf;unfold E8 at hf;simp only[aG,ar]at hf;left;let ⟨ov,ho,⟨hh,l⟩,hq,⟨d,l'⟩,hm,e⟩:=hf;right;subst e;have hl:=Hb hm;subst hl;left;let ⟨i,e1,e2,e3,e4⟩:=bc.Jn hq;have hc:=dy.items (S:=S) e2 e3 e4 hm;right;rw[set_same e3]at hc;have h0:=h p O st _ bc ho;rw[e1]at h0;exact Ev.ur Yw (by unfold iW;show(_,aa (eL 146))∈_;walk_at "a") Bt h0 e2 (by show _∉ [a6];decide) .nil .nil (hc.le hk) ik gC ∅
def eI (f:EF) (fa:St->Option (List CV)) (st:St):Option (pu×St):=
 (f st).bind λv=>(st.Jn v).bind λq=>((fa st).bind two?).bind λa=>(oJ q.2 [.str a.1,.str a.2,.oQ []]).map λr=>(.next,qY q.1 (.list r.2) st)
def mw.DF (hk:2<=k) (h:cT S k lay o f) (ha:pU S k lay args fa) (hn: ↑args<20) (ik:∀env,attributeBase o "add_header" env (eval o env)=eval o env) (gC:(jz.endLine==pos.line)=true)
  (hs:swapsWith (.Call (.Attribute o "add_header" jz) args [] pos) ac FQ.line=λq=>pure false):
  mw S k lay (.Expr (.Call (.Attribute o "add_header" jz) args [] pos) FQ) (eI f fa):=by
 intro p O st fl cf bc hf;let ⟨ov,ho,hf⟩:=aG.mp hf;let ⟨⟨hh,l⟩,hq,hf⟩:=aG.mp hf;let ⟨a,hx,hf⟩:=aG.mp hf;let ⟨as,hx,h2⟩:=aG.mp hx;rw[Lw h2]at hx;let ⟨⟨d,l'⟩,hm,e⟩:=ar.mp hf;let ⟨rfl,rfl⟩:=bH e;let ⟨i,e1,e2,e3,e4⟩:=bc.Jn hq;let ⟨b,c⟩:=bc.Bh (by let ⟨_,_,_,x⟩:=Ha hq;exact x) (.list l');have h0:=h p O st _ bc ho;rw[e1]at h0;exact⟨_,iX.expr (Ev.ur Jm (by unfold iW;show(_,aa (eL 179))∈_;walk_at "a") rS h0 e2 (by show _∉ [a6];decide) (ha p O st _ bc hx) .nil ((dy.DF (S:=S) e2 e3 e4 hm).le hk) ik gC hn) hs,b,c⟩
end
def OI (S:cz) (k:Nat) (O:List AO) (ae:iv) (e:Expr) (d:AV) (bv:List AO):Prop:=
 ∀A c s env,jG k A->0<s.toks->cY c ↑O ae env->Rel S c O s.heap->Tr S O A c s (eval e env) d bv
def Ev.T (h:Ev S k O ae e d bv):OI S k O ae e d bv:=λA c s env hA q hE R=>h.run A c s env hA hE R
def OI.replace (h:OI S k O ae o (.pv (.str x)) O) (oS:(q==e)=false) (hx: ↑x<=1048576) (he: ↑e<=14)
  (ik:∀env,attributeBase o "replace" env (eval o env)=eval o env) (gC:(jz.endLine==pos.line)=true):
  OI S k O ae (.Call (.Attribute o "replace" jz) [.Constant (.str q) n1 p1,.Constant (.str e) n2 p2] [] pos) (.pv (.str (iM x q e))) O:=by
 intro A c s env hA ht hE R E Q hQ;have ha:ck S k O ae [.Constant (.str q) n1 p1,.Constant (.str e) n2 p2] [.pv (.str q),.pv (.str e)]:= .cons Ev.str (.cons Ev.str .nil rfl) rfl;refine eJ (ik env) (A9 ha pos env (by show 2<30;decide)) gC (mE (n:=1) ht (h A c s env hA ht hE R _ _ λc1 v1 s1 l1 R1 K1 a1=>λKr=> ?_));have Km:=a1.gi;let ⟨t1,rfl⟩:=Km.mG;refine⟨"str", "str.replace",F.plainAttrs_str,F.slot_str_replace,F.type_str_replace,sj ..,(λz e=>nomatch e),cX (noStar ha pos env) ?_⟩;refine lD (rest:=[(false,eval (.Constant (.str e) n2 p2) env)]) (keywords:=[]) rfl ?_;refine bX (kl (k:=n1) (pos:=p1) (bX (kl (k:=n2) (pos:=p2) (eA (iH ?_)))));refine SC.replaceW (u:=s1.toks) (v:=s1.toks+1) (by show s1.toks≠(0:Nat);exact jV ‹_›) (by show s1.toks+1≠(0:Nat);simp) (by show s1.toks≠s1.toks+1;simp) oS hx he λt' k'=> ?_;exact hQ c1 _ _ l1 R1 (K1.trans (.toks ..)) (.pv (.str ..))
def OI.WS (h1:OI S k O ae l (.pv a) O) (h2:nL S k O ae r b) (ho:ML (binaryOp op) a b d):OI S k O ae (.BinOp l op r pos) (.pv d) O:=
 λA c s env hA ht hE R E Q hQ=>Gf (h1 A c s env hA ht hE R _ _ λc1 v1 s1 l1 R1 K1 a1=>h2.run A c1 s1 env hA (hE.mono l1 (ab _)) R1 _ _ λc2 v2 s2 l2 R2 K2 a2=>
  ho S k O A c2 s2 v1 v2 hA R2 (a1.mono l2 (ab _)).gi a2.gi _ _ λc3 v3 s3 l3 R3 K3 a3=>hQ c3 v3 s3 ((l1.trans l2 (ab _)).trans l3 (ab _)) R3 ((K1.trans K2).trans K3) a3)
structure Top (A:cS) (env:lY):Prop where
 frames:A.frames=aa [env]
 frame:env.frame=aa env.locals
structure EvK (S:cz) (k:Nat) (O:List AO) (ae:iv) (st:Stmt) (f:nY) (bv:List AO):Prop where
 len: ↑O<= ↑bv
 run:∀A c s env,jG k A->Top A env->0<s.toks->cY c ↑O ae env->Rel S c O s.heap->TrF S O A c s (exec st env) f bv
structure E9 (S:cz) (k:Nat) (O:List AO) (ae:iv) (Vy:List Stmt) (f:nY) (bv:List AO):Prop where
 len: ↑O<= ↑bv
 run:∀A c s env,jG k A->Top A env->0<s.toks->cY c ↑O ae env->Rel S c O s.heap->TrF S O A c s (execs Vy env) f bv
def iX.K (h:iX S k O ae st f bv):EvK S k O ae st f bv:=⟨h.len,λA c s env hA q q=>h.run A c s env hA⟩
def E9.nil:E9 S k O ae [] .next O:=⟨ab _,λA c s env hA q q=>cH.nil.run A c s env hA⟩
def E9.cons (h1:EvK S k O ae st .next bw) (h2:E9 S k bw ae rest f bQ):E9 S k O ae (st::rest) f bQ:=
 ⟨aA h1.len h2.len,λA c s env hA hF ht hE R E Q hQ=>da (mE (n:=1) ht (h1.run A c s env hA hF ht hE R _ _ λc1 v1 s1 l1 R1 K1 f1=>by
  intro Kr;obtain rfl:=f1.wV;exact h2.run A c1 s1 env hA hF Kr (hE.mono l1 h1.len) R1 _ _ λc2 v2 s2 l2 R2 K2 f2=>hQ c2 v2 s2 (l1.trans l2 h1.len) R2 (K1.trans K2) f2))⟩
def E9.ret (h1:EvK S k O ae st (.ret d) bw):E9 S k O ae (st::rest) (.ret d) bw:=
 ⟨h1.len,λA c s env hA hF ht hE R E Q hQ=>da (h1.run A c s env hA hF ht hE R _ _ λc1 v1 s1 l1 R1 K1 f1=>by
  let ⟨_,q,f2⟩:=f1.MJ;cases q;exact hQ c1 _ s1 l1 R1 K1 (.ret f2))⟩
section
variable {lay:Lay}
def jd (S:cz) (k:Nat) (lay:Lay) (s:Stmt) (F:St->Option (pu×St)):Prop:=
 ∀p O st fl cf,At lay p st O->F st=aa (fl,cf)->∃bv,EvK S k O (lay.en p) s (fl.af p.oi) bv/\At lay p cf bv/\kr lay p st cf O bv
def tE (S:cz) (k:Nat) (lay:Lay) (ss:List Stmt) (F:St->Option (pu×St)):Prop:=
 ∀p O st fl cf,At lay p st O->F st=aa (fl,cf)->∃bv,E9 S k O (lay.en p) ss (fl.af p.oi) bv/\At lay p cf bv/\kr lay p st cf O bv
def jd.of (h:mw S k lay s F):jd S k lay s F:=λp O st fl cf bc hf=>
 xe13 (h p O st fl cf bc hf) λbv a b c=>⟨bv,a.K,b,c⟩
def tE.nil:tE S k lay [] br:=λp O st fl cf bc hf=>by let ⟨rfl,rfl⟩:=bH (ag hf);exact⟨O,.nil,bc,.refl ..⟩
def tE.cons (h1:jd S k lay s f) (h2:tE S k lay ss g):tE S k lay (s::ss) (aC f g):=by
 intro p O st fl cf bc hf;rcases qX hf with⟨st1,e,hf⟩|⟨v,e,rfl⟩
 ·left;let ⟨lK,a1,b1,c1⟩:=h1 p O st _ st1 bc e;let ⟨uV,a2,b2,c2⟩:=h2 p lK st1 _ cf b1 hf;right;exact⟨uV,.cons a1 a2,b2,c1.trans c2 bc⟩
 ·let ⟨lK,a1,b1,c1⟩:=h1 p O st _ _ bc e;exact⟨lK,.ret a1,b1,c1⟩
def LQ (i:Nat) (f:EF) (q q':Str) (g:EF) (st:St):Option (pu×St):=((f st).bind CV.aS).bind λx=>((g st).bind CV.aP).bind λz=>if ↑x<=1048576/\(iM x q "").length<=1048576 then(AZ .Add (.str (iM (iM x q "") q' "")) z).map λd=>(.next,ie i (.pv d) st) else ac
def jd.bare (h:cT S k lay o f) (hz:cT S k lay z g) (hx:lay.nq i x=true) (hq:(q==ah "")=false) (Tt:(q'==ah "")=false)
  (ik:∀env,attributeBase o "replace" env (eval o env)=eval o env)
  (ZQ:∀env,attributeBase (.Call (.Attribute o "replace" a1) [.Constant (.str q) n1 p1,.Constant (.str "") n2 p2] [] c1) "replace" env (eval (.Call (.Attribute o "replace" a1) [.Constant (.str q) n1 p1,.Constant (.str "") n2 p2] [] c1) env)=eval (.Call (.Attribute o "replace" a1) [.Constant (.str q) n1 p1,.Constant (.str "") n2 p2] [] c1) env)
  (hl1:(a1.endLine==c1.line)=true) (C6:(a2.endLine==c2.line)=true)
  (hs:∀env,env.scope=lay.scope->swapsWith (.BinOp (.Call (.Attribute (.Call (.Attribute o "replace" a1) [.Constant (.str q) n1 p1,.Constant (.str "") n2 p2] [] c1) "replace" a2) [.Constant (.str q') n3 p3,.Constant (.str "") n4 p4] [] c2) .Add z bp) (aa (.Name x xp)) pos.line env=pure false):
  jd S k lay (.Assign [.Name x xp] (.BinOp (.Call (.Attribute (.Call (.Attribute o "replace" a1) [.Constant (.str q) n1 p1,.Constant (.str "") n2 p2] [] c1) "replace" a2) [.Constant (.str q') n3 p3,.Constant (.str "") n4 p4] [] c2) .Add z bp) pos) (LQ i f q q' g):=by
 intro p O st fl cf bc hf;refine a9 hf λy hy hf=>a9 hy λy hy e1=>a9 hf λw hw hf=>a9 hw λy hw e2=> ?_;rw[CV.kS e1]at hy;rw[CV.kP e2]at hw;let ⟨cI,hf⟩:=ED hf;let ⟨d,hd,e⟩:=ar.mp hf;let ⟨rfl,rfl⟩:=bH e;let ⟨bv,a,b,c⟩:=bc.ie (S:=S) hx (.pv d);refine⟨bv,⟨a.len,λA c s env hA hF ht hE R E Q hQ=> ?_⟩,b,c⟩;exact kY ((OI.WS ((OI.replace ((OI.replace (h p O st _ bc hy).T hq cI.1 ∅ ik hl1:OI S k O (lay.en p) (.Call (.Attribute o "replace" a1) [.Constant (.str q) n1 p1,.Constant (.str "") n2 p2] [] c1) _ O)) Tt cI.2 ∅ ZQ C6:OI S k O (lay.en p) (.Call (.Attribute (.Call (.Attribute o "replace" a1) [.Constant (.str q) n1 p1,.Constant (.str "") n2 p2] [] c1) "replace" a2) [.Constant (.str q') n3 p3,.Constant (.str "") n4 p4] [] c2) _ O)) (hz p O st _ bc hw) (PH hd) (pos:=bp)) A c s env hA ht hE R _ _ λc1 v1 s1 l1 R1 K1 a1=>a.run A c1 s1 env v1 (hE.mono l1 (ab _)) R1 a1 _ _ λc2 s2 l2 R2 K2=>hQ c2 .next s2 (l1.trans l2 (ab _)) R2 (K1.trans K2) .next) (hs env hE.scope)
end
def Stk (O:List AO) (c:aM) (A:cS):Prop:=∃l,A.frames=aa l/\∀e∈l,e.scope.kind≠ .module/\∃i m,e.frame=aa (c.Z i)/\O[i]? =aa (.ns m)
structure xt (S:cz) (c:aM) (O:List AO) (B h:iR):Prop where
 rel:Rel S c O h
 F:∀a o,c.F a=aa o->B.get? a=aa o
 pin:∀a o,c.pin a=aa o->B.get? a=aa o
 tab:∀q∈cm,∀o,h.get? q.2=aa o->B.get? q.2=aa o
 own:∀(i:Nat) (x:AO),O[i]? =aa x->(∃m,x= .ns m)\/∀o,h.get? (c.Z i)=aa o->B.get? (c.Z i)=aa o
def xt.step {c:aM} {B h h':iR} (R:xt S c O B h) (hB:B.StaysIn h') (hu:h.UpToSlots h'):xt S c O B h' where
 rel:= {
  frozen:=λa o e=>hB _ _ (R.F a o e)
  base:=R.rel.base
  own:=λi x e=>by
   let ⟨o,ho,hr⟩:=R.rel.own i x e;rcases R.own i x e with⟨m,rfl⟩|hb
   ·let ⟨_,_,a,b,nd,d,f⟩:=hr.iNs;let ⟨sl,hs⟩:=hu _ o ho λvs q=>by rw[a]at q;nomatch q
    exact⟨_,hs,.ns (o:= {o with slots:=sl}) a b nd d f⟩
   ·exact⟨o,hB _ _ (hb o ho),hr⟩
  apart:=R.rel.apart
  inj:=R.rel.inj
  pins:=λa o e=>⟨hB _ _ (R.pin a o e),(R.rel.pins a o e).2⟩
  tabs:=λq hq=>let ⟨a,b,ps,d,e⟩:=R.rel.tabs q hq;⟨a,b,ps,hB _ _ (R.tab q hq _ d),e⟩}
 F:=R.F
 pin:=R.pin
 tab:=λq hq o e=>by let ⟨_,_,ps,d,_⟩:=R.rel.tabs q hq;have h1:=R.tab q hq _ d;rw[hB _ _ h1]at e;obtain rfl:=ag e;exact h1
 own:=λi x e=>by
  rcases R.own i x e with h1|h1
  ·exact .inl h1
  ·let ⟨o,ho,_⟩:=R.rel.own i x e;refine .inr λo' e'=> ?_;rw[hB _ _ (h1 o ho)]at e';obtain rfl:=ag e';exact h1 o ho
def xt.drop {c₀ c:aM} {h₀ B h:iR} {τ:List AO} (R:Rel S c₀ O h₀) (R':xt S c (O++τ) B h):xt S c O B h where
 rel:=R.drop R'.rel rfl λi x e=> .inl e
 F:=R'.F
 pin:=R'.pin
 tab:=R'.tab
 own:=λi x e=>R'.own i x (by
  have hi:=getElem?_lt' e;exact(aW hi)▸e)
def xt.hide {l:List lY} (R:Rel S c O h) (hl:∀e∈l,e.scope.kind≠ .module/\∃i m,e.frame=aa (c.Z i)/\O[i]? =aa (.ns m)):xt S c O (hideAll h (l.filterMap (·.frame))) h:=by
 have Xo:∀ {a:Addr},a∈l.filterMap (·.frame)->∃i m,a=c.Z i/\O[i]? =aa (.ns m):=λ{a} ha=>by left;let ⟨e,he,hf⟩:=yj.mp ha;let ⟨_,i,m,h1,h2⟩:=hl e he;right;rw[h1]at hf;exact⟨i,m,(ag hf).symm,h2⟩
 refine⟨R,λa o e=>Gg _ (R.frozen a o e) λha=> ?_,λa o e=>Gg _ (R.pins a o e).1 λha=> ?_,λq hq o e=>Gg _ e λha=> ?_,λi x e=> ?_⟩
 ·let ⟨i,m,rfl,hi⟩:=Xo ha;rw[R.apart i (getElem?_lt' hi)]at e;nomatch e
 ·let ⟨i,m,rfl,hi⟩:=Xo ha;exact(R.pins _ o e).2.2.1 i (getElem?_lt' hi) rfl
 ·let ⟨i,m,h1,hi⟩:=Xo ha;exact(R.tabs q hq).2.1 i (getElem?_lt' hi) h1.symm
 ·by_cases ha:c.Z i∈l.filterMap (·.frame)
  ·let ⟨j,m,h1,hj⟩:=Xo ha;have:=R.inj i j (getElem?_lt' e) (getElem?_lt' hj) h1;subst this;rw[hj]at e;obtain rfl:=ag e;exact .inl ⟨m,rfl⟩
  ·exact .inr λo ho=>Gg _ ho ha
def Nj (R:Rel S c O h) (fs:List Addr) (l:List lY):(∀e∈l,e.scope.kind≠ .module/\∃i m,e.frame=aa (c.Z i)/\O[i]? =aa (.ns m))->(∀e∈l,∀a,e.frame=aa a->a∈fs)->h.FunFrames (hideAll h fs) l:=by
 induction l with
 |nil=>intro _ _;exact trivial
 |cons e l ih=>
  intro hl hf;left;let ⟨h1,i,m,h2,h3⟩:=hl e ay;let ⟨o,ho,hr⟩:=R.own i _ h3;right;refine⟨h1,⟨c.Z i,o,h2,hideAll_none _ (hf e ay _ h2),ho,λvs q=> ?_⟩,ih (λe he=>hl e (aK _ he)) λe he=>hf e (aK _ he)⟩;cases hr with
  |ns a=>rw[a]at q;cases q
noncomputable abbrev Yz:Value:= .type "ValueError"
def Up (S:cz) (c:aM) (O:List AO) (l:List lY) (m:Str) (v:Value) (s:bb):Prop:=
 (∃e h tk,v= .ref e/\Heap.MadeExcOf h s.heap e Yz [.str m tk]/\Rel S c O h)\/∃e t tk B,v= .ref e/\Heap.FlyingW B l e Yz (.ref t) s.heap/\s.heap.TupAt t [.str m tk]/\B.get? t=ac/\xt S c O B s.heap
def BC (S:cz) (c:aM) (O:List AO) (l:List lY) (m:Str) (v:Value) (s:bb):Prop:=
 ∃e t tk B,v= .ref e/\Heap.FlyingW B l e Yz (.ref t) s.heap/\s.heap.TupAt t [.str m tk]/\B.get? t=ac/\xt S c O B s.heap
def Hd {c:aM} {A:cS} {env:lY} {l:List lY} {m:Str} {v:Value} {s:bb} {E:VS} {Q:Unit->bb->Prop} (uM:A.frames=aa (env::l)) (hS:∀e∈env::l,e.scope.kind≠ .module/\∃i m,e.frame=aa (c.Z i)/\O[i]? =aa (.ns m)) (U:Up S c O (env::l) m v s)
  (hQ:∀s',BC S c O l m v s'->dY s s'->Q () s'):wpAny (MM S.w) A (leaving env v) Q E s:=by
 let ⟨_,i,mm,hf,_⟩:=hS env ay;rcases U with⟨e,h,tk,rfl,hx,R⟩|⟨e,t,tk,B,rfl,Kz,ht,SJ,RB⟩
 ·have RB:=xt.hide R hS;refine wpAny_leaves_madeW uM hf (λb o q=>of_hideAll _ q) (Nj R _ (env::l) hS λe he a ha=>yj.mpr ⟨e,he,ha⟩) hx λh' t Kz ht SJ hu=> ?_;exact hQ _ ⟨e,t,tk,_,rfl,Kz,ht,SJ,RB.step Kz.1 ((Heap.UpToSlots.of_keeps hx.keeps).trans hu)⟩ (dY.gF s h')
 ·refine wpAny_leaves_onW uM hf Kz λh' agX hu=> ?_;exact hQ _ ⟨e,t,tk,B,rfl,agX,ht.of_slots hu,SJ,RB.step agX.1 hu⟩ (dY.gF s h')
def BC.drop (R:Rel S c₀ O h₀) (T:BC S c (O++τ) l m v s):BC S c O l m v s:=by left;let ⟨e,t,tk,B,h1,h2,h3,h5,h4⟩:=T;right;exact⟨e,t,tk,B,h1,h2,h3,h5,xt.drop R h4⟩
def wA (O bv : List AO) : Prop := ∀ (i : Nat) (m : List (Str × Option AV)), O[i]? = aa (.ns m) → ∃ m', bv[i]? = aa (.ns m')
def wA.refl (O:List AO):wA O O:=λi m h=>⟨m,h⟩
def wA.trans (h:wA a b) (h':wA b c):wA a c:=λi m e=>xe11 (h i m e) λm' e'=>h' i m' e'
def wA.CA (O τ:List AO):wA O (O++τ):=λi m e=>⟨m,by rw[aW (getElem?_lt' e)];exact e⟩
abbrev qc (O:List AO) (c:aM) (l:List lY):Prop:=∀e∈l,e.scope.kind≠ .module/\∃i m,e.frame=aa (c.Z i)/\O[i]? =aa (.ns m)
def qc.step (h:qc O c l) (hn:wA O bv) (hc:aM.le ↑O c c'):qc bv c' l:=λe he=>by left;let ⟨h1,i,m,h2,h3⟩:=h e he;let ⟨m',h4⟩:=hn i m h3;right;exact⟨h1,i,m',by rw[hc.Z i (getElem?_lt' h3)];exact h2,h4⟩
def TrX {α:Type} (S:cz) (O:List AO) (A:cS) (c:aM) (s:bb) (l:List lY) (t:z0 α) (m:Str) (bv:List AO):Prop:=
 ∀(E:VS) (Q:α->bb->Prop),(∀c' v s',aM.le ↑O c c'->dY s s'->Up S c' bv l m v s'->E v s')->wpAny (MM S.w) A t Q E s
structure eY (S:cz) (k:Nat) (O:List AO) (f:AV) (args:List AV) (kw:List (Str×AV)) (m:Str):Prop where
 run:∀A c s fv vs kvs l,jG k A->A.frames=aa l->qc O c l->Rel S c O s.heap->cU S.w c ↑O fv f->dg S.w c ↑O vs args->kvs.map (·.1)=kw.map (·.1)->dg S.w c ↑O (kvs.map (·.2)) (kw.map (·.2))->TrX S O A c s l (call fv vs kvs) m O
structure yA (S:cz) (k:Nat) (O:List AO) (ae:iv) (e:Expr) (m:Str):Prop where
 run:∀A c s env l,jG k A->A.frames=aa l->qc O c l->cY c ↑O ae env->Rel S c O s.heap->TrX S O A c s l (eval e env) m O
structure rf (S:cz) (k:Nat) (O:List AO) (ae:iv) (st:Stmt) (m:Str) (bv:List AO):Prop where
 len: ↑O<= ↑bv
 YI:wA O bv
 run:∀A c s env l,jG k A->A.frames=aa l->qc O c l->cY c ↑O ae env->Rel S c O s.heap->TrX S O A c s l (exec st env) m bv
structure jF (S:cz) (k:Nat) (O:List AO) (ae:iv) (Vy:List Stmt) (m:Str) (bv:List AO):Prop where
 len: ↑O<= ↑bv
 YI:wA O bv
 run:∀A c s env l,jG k A->A.frames=aa l->qc O c l->cY c ↑O ae env->Rel S c O s.heap->TrX S O A c s l (execs Vy env) m bv
def eY.Dy (F:pY r loc own)
  (gr:∀pm,vH S k O (r.fd pm) args kw binds)
  (rz:jX S (gB r ↑O) (ent O r loc) binds bw)
  (ZR:wA (ent O r loc) bw)
  (dX:jF S k bw (gB r ↑O) r.body m (O++τ)):eY S (k+1) O (.pv (.con (.ref r.addr))) args kw m:=by
 refine⟨λA c s fv vs kvs l hA hl hS R hf ha hk H6 E Q hQ=> ?_⟩;refine w4 F gr rz hA R hf ha hk H6 λc3 s3 env l3 hE R3 K3 q uM=> ?_;have ZS:(A.deeper env).frames=aa (env::l):=by show A.frames.map (env:: ·)=_;rw[hl];rfl
 have hS3:qc bw c3 (env::l):=λe he=>by
  rcases aH.mp he with rfl|he
  ·obtain(⟨m',Mo⟩):=ZR ↑O _ (by unfold ent;rw[aE (ab _),dc];rfl);exact⟨by rw[hE.scope];show r.scope.kind≠_;rw[F.kind];decide,↑O,m',uM.trans (congrArg aa hE.locals),Mo⟩
  ·exact hS.step ((wA.CA O _).trans ZR) l3 e he
 refine dX.run _ c3 s3 env (env::l) hA.deeper ZS hS3 hE R3 _ _ λc4 v4 s4 l4 K4 U=> ?_;refine Hd ZS (hS3.step dX.YI l4) U λs5 T K5=> ?_;exact hQ c4 v4 s5 (l3.trans l4 rz.Yp) ((K3.trans K4).trans K5) (.inr (T.drop R))
def tF (h:qc O c l) (hc:aM.le ↑O c c'):qc O c' l:=h.step (.refl _) hc
def rf.raise (hf:nL S k O ae (.Name x np) (.con (.type "ValueError"))):rf S k O ae (.Raise (aa (.Call (.Name x np) [.Constant (.str m) n p] [] FP)) ac pos) m O:=by refine⟨ab _,.refl _,λA c s env l hA hl hS hE R E Q hQ=> ?_⟩;refine PyProof.Rows.Raise_madeB PySem.F.excCall_ValueError PySem.F.excRaise_ValueError hA.hn (hf.run A c s env hA hE R _ _ λc1 v1 s1 l1 R1 K1 a1=>⟨a1.dn,?_⟩);refine mH (.cons Ev.str .nil rfl) FP A c1 s1 env hA (hE.mono l1 (ab _)) R1 _ _ λc2 vs s2 l2 R2 K2 a2=> ?_;have h9:=a2.i1;clear a2;let ⟨_,_,rfl,a2,b2⟩:=h9;obtain rfl:=b2.i0;have Ed:=a2.gi;let ⟨t,rfl⟩:=Ed.mG;refine⟨by show 1<=sizeLine;decide,λh' e hm=> ?_⟩;exact hQ c2 _ _ (l1.trans l2 (ab _)) ((K1.trans K2).trans (.gF s2 h')) (.inl ⟨e,s2.heap,t,rfl,hm.of,R2⟩)
def rf.if (h1:oA S k O ae test b) (h2:jF S k O ae (if b then body else orelse) m bw):rf S k O ae (.If test body orelse pos) m bw:=
 ⟨h2.len,h2.YI,λA c s env l hA hl hS hE R E Q hQ=>wpAny_If (h1 A c s env hA hE R _ _ λc1 s1 l1 R1 K1=>by
  induction b with
  |true=>exact h2.run A c1 s1 env l hA hl (tF hS l1) (hE.mono l1 (ab _)) R1 _ _ λc2 v2 s2 l2 K2 U=>hQ c2 v2 s2 (l1.trans l2 (ab _)) (K1.trans K2) U
  |false=>exact h2.run A c1 s1 env l hA hl (tF hS l1) (hE.mono l1 (ab _)) R1 _ _ λc2 v2 s2 l2 K2 U=>hQ c2 v2 s2 (l1.trans l2 (ab _)) (K1.trans K2) U)⟩
def jF.here (h:rf S k O ae st m bw):jF S k O ae (st::rest) m bw:=
 ⟨h.len,h.YI,λA c s env l hA hl hS hE R E Q hQ=>da (h.run A c s env l hA hl hS hE R _ _ hQ)⟩
def jF.next (h1:iX S k O ae st .next bw) (hn:wA O bw) (h2:jF S k bw ae rest m bQ):jF S k O ae (st::rest) m bQ:=
 ⟨aA h1.len h2.len,hn.trans h2.YI,λA c s env l hA hl hS hE R E Q hQ=>da (h1.run A c s env hA hE R _ _ λc1 v1 s1 l1 R1 K1 f1=>by
  obtain rfl:=f1.wV;exact h2.run A c1 s1 env l hA hl (hS.step hn l1) (hE.mono l1 h1.len) R1 _ _ λc2 v2 s2 l2 K2 U=>hQ c2 v2 s2 (l1.trans l2 h1.len) (K1.trans K2) U)⟩
def rf.expr (h:yA S k O ae e m) (hs:swapsWith e ac pos.line=λq=>pure false):rf S k O ae (.Expr e pos) m O:=
 ⟨ab _,.refl _,λA c s env l hA hl hS hE R E Q hQ=>yR (h.run A c s env l hA hl hS hE R _ _ hQ) (by
  unfold interactive;rw[hE.scope,hE.kind];rfl) (congrFun hs env)⟩
def rf.assign (h:yA S k O ae gP m) (hs:swapsWith gP (aa (.Name x jW)) pos.line=λq=>pure false):rf S k O ae (.Assign [.Name x jW] gP pos) m O:=
 ⟨ab _,.refl _,λA c s env l hA hl hS hE R E Q hQ=>kY (h.run A c s env l hA hl hS hE R _ _ hQ) (congrFun hs env)⟩
def yA.Fb (hr:r∈fW) (hf:nL S k O ae (.Name f np) (.con (.ref r.addr))) (ha:ck S k O ae args ds) (hk:pe S k O ae zW OM) (hc:eY S k O (.pv (.con (.ref r.addr))) ds OM m):
  yA S k O ae (.Call (.Name f np) args zW pos) m:=by
 refine⟨λA c s env l hA hl hS hE R E Q hQ=> ?_⟩;refine cn (hf.run A c s env hA hE R _ _ λc1 v1 s1 l1 R1 K1 a1=> ?_);have e':=a1.dn;subst e';left;let ⟨of,pm,Kx,Om,FW,_⟩:=R1.fn hr;right;refine fI (o:=of) (fd:=r.fd pm) ?_;refine nk ha hk _ pos A c1 s1 env hA (hE.mono l1 (ab _)) R1 _ _ λc2 vs kvs s2 l2 R2 K2 a2 k2 b2=> ?_;have Ky:s2.heap.get? r.addr=aa of:=by
  let ⟨FK,_,h0,_,_,_⟩:=S.fns r hr;have oS:∀q∈cm,r.addr≠q.2:=by
   have:∀r∈fW,∀q∈cm,r.addr≠q.2:=by decide
   exact this r hr
  rw[(R1.old h0 oS)]at Kx;obtain rfl:=ag Kx;exact(R2.old h0 oS)
 refine⟨⟨Ky,FW⟩,?_⟩;have uL:=l1.trans l2 (ab _);exact hc.run A c2 s2 _ vs kvs l hA hl (tF hS uL) R2 (.pv (.con _)) a2 k2 b2 E Q λc3 v3 s3 l3 K3 U=>hQ c3 v3 s3 (uL.trans l3 (ab _)) ((K1.trans K2).trans K3) U
def yA.tb (hr:r∈fW) (FR:(name,aa (.ref r.addr))∈iW)
  (ZN:typeLookup (.type "object") name=pure ac) (h:Ev S k O ae o (.inst i) O) (hi:O[i]? =aa (.attrs m)) (hm:name∉m.map (·.1)) (ha:ck S k O ae args ds) (hk:pe S k O ae zW OM) (hc:eY S k O (.pv (.con (.ref r.addr))) (.inst i::ds) OM msg)
  (ik:∀env,attributeBase o name env (eval o env)=eval o env) (gC:(jz.endLine==pos.line)=true) (hn: ↑args+ ↑zW<20):yA S k O ae (.Call (.Attribute o name jz) args zW pos) msg:=by
 refine⟨λA c s env l hA hl hS hE R E Q hQ=> ?_⟩;rw[arm_eval_Call,ik];refine am (h.run A c s env hA hE R _ _ λc1 v1 s1 l1 R1 K1 a1=> ?_);refine am (cV ?_);unfold methodCall;rw[(LL ha hk pos env hn)];left;let ⟨x,ox,mA,rfl,hFx,hdx,hI,ZO,VI⟩:=R1.inst hi a1;let ⟨nm,q,bs,sn,sub,O5,dd,k0,k1,k2,k3,k5,mN,hC,vt,hN⟩:=R1.clsAt;let ⟨of,pm,Kx,Om,FW,_⟩:=R1.fn hr;let ⟨hp,g,d',t,os⟩:=s1;right;refine am (dH (method_of hC vt (hN (ah "__getattribute__",ac) (by unfold iW;walk_at "a")) (hN (ah "__getattr__",ac) (by unfold iW;walk_at "a")) (hN _ FR) Kx Om ZN hI (VI _ hm) ?_));refine am (i6 (by unfold methodCallPos;simp[gC]:methodCallPos true o env jz pos=pure pos) ?_);refine fI (o:=of) (fd:=r.fd pm) ?_;refine nk ha hk _ pos A c1 _ env hA (hE.mono l1 (ab _)) R1 _ _ λc2 vs kvs s2 l2 R2 K2 a2 k2 b2=> ?_;have Ky:s2.heap.get? r.addr=aa of:=by
  let ⟨FK,_,h0,_,_,_⟩:=S.fns r hr;have oS:∀q∈cm,r.addr≠q.2:=by
   have:∀r∈fW,∀q∈cm,r.addr≠q.2:=by decide
   exact this r hr
  rw[(R1.old h0 oS)]at Kx;obtain rfl:=ag Kx;exact(R2.old h0 oS)
 refine⟨⟨Ky,FW⟩,?_⟩;have uL:=l1.trans l2 (ab _);refine hc.run A c2 s2 _ _ kvs l hA hl (tF hS uL) R2 (.pv (.con _)) (.cons (a1.mono l2 (ab _)) a2) k2 b2 E Q λc3 v3 s3 l3 K3 U=>hQ c3 v3 s3 (uL.trans l3 (ab _)) ((K1.trans K2).trans K3) U
def wA.ns1:wA (O++[.ns m]) (O++[.ns m']):=λi x h=>by
 rcases eG i ↑O with hi|hi|hi
 ·rw[aW hi]at h⊢;exact⟨x,h⟩
 ·subst hi;exact⟨m',by rw[aE (ab _),dc];rfl⟩
 ·rw[aE (ce hi)]at h;have:=getElem?_lt' h;simp at this;exact(ab3 this hi).elim
def eY.Qn (F:pY r loc own) (gr:∀pm,jH S O (r.fd pm) args kw binds) (hn:fg r.scope.names=0)
  (rz:jX S (gB r (↑O+0)) (O++[.ns (loc.map λx=>(x,ac))]) binds (O++[.ns akk]))
  (dX:jF S k (O++[.ns akk]) (gB r (↑O+0)) r.body m (O++τ)):eY S (k+1) O (.pv (.con (.ref r.addr))) args kw m:=
 eY.Dy F (λpm=>(gr pm).B) (by unfold ent;rw[hn];exact rz) (by unfold ent;rw[hn];exact wA.ns1) dX
noncomputable abbrev jI:Str:=ah "lo must be non-negative"
noncomputable abbrev rU:Str:=ah "Control characters not allowed in headers"
def Nk:me rB.scope [ah "ValueError"]:=me.of tt
def Nl:me cR.scope [ah "ValueError"]:=me.of tt
def eY.Yt (right:Bool) (Ec:lo<0) (hb:∀pm,jH S O ((Jf right).fd pm) args kw [(sA,a),(sX,x),(oV,.pv (.int lo)),(oW,hi),(gp,key)]):eY S (k+1) O (.pv (.con (.ref (Jf right).addr))) args kw jI:=by
 induction right with
 |false=>
  have h1:=sU;have h2:=Nk;have dX:∃τ,jF S k (O++[AO.ns [(sA,aa a),(sX,aa x),(oV,~~~(.int lo)),(oW,aa hi),(gp,aa key),(sT,ac)]]) (gB fj (↑O+0)) fj.body jI (O++τ):=by
   apply fY;apply jF.here;apply rf.if (b:=true)
   ·apply oA.to
    ·walk_at "i"
    ·walk_at "k"
   ·apply jF.here;apply rf.raise;walk_at "b"
  let ⟨τ,dX⟩:=dX;refine eY.Qn (r:=fj) (loc:=[sA,sX,oV,oW,gp,sT]) (own:=[]) (.of 3 rfl rfl tt) hb rfl ?_ dX;show jX S _ (O++[AO.ns [(sA,ac),(sX,ac),(oV,ac),(oW,ac),(gp,ac),(sT,ac)]]) _ _;walk_at "x"
 |true=>
  have h1:=tj;have h2:=Nl;have dX:∃τ,jF S k (O++[AO.ns [(sA,aa a),(sX,aa x),(oV,~~~(.int lo)),(oW,aa hi),(gp,aa key),(sT,ac)]]) (gB cR (↑O+0)) cR.body jI (O++τ):=by
   apply fY;apply jF.here;apply rf.if (b:=true)
   ·apply oA.to
    ·walk_at "i"
    ·walk_at "k"
   ·apply jF.here;apply rf.raise;walk_at "b"
  let ⟨τ,dX⟩:=dX;refine eY.Qn (r:=cR) (loc:=[sA,sX,oV,oW,gp,sT]) (own:=[]) (.of 1 rfl rfl tt) hb rfl ?_ dX;show jX S _ (O++[AO.ns [(sA,ac),(sX,ac),(oV,ac),(oW,ac),(gp,ac),(sT,ac)]]) _ _;walk_at "x"
def Nm:me rC.scope [ah "type",ah "str",ah "_name_disallowed_re",ah "_value_disallowed_re",ah "ValueError"]:=me.of tt
def eY.conv (b:Bool) (hi:i< ↑O) (hb:kR (codeOf b) x=aa true):eY S (k+1) O (.pv (.con (.ref rC.addr))) [.inst i,.pv (.str x)] [(mC,.pv (PV.bool b))] rU:=by
 have h1:=Bv;have h2:=Nm;have dX:∃τ,jF S k (O++[AO.ns [(iV,aa (.inst i)),(nO,~~~(.str x)),(mC,~~~(PV.bool b)),(tD,ac)]]) (gB rC (↑O+0)) rC.body rU (O++τ):=by
  apply fY;apply jF.here;apply rf.if (b:=true)
  ·apply oA.js (a:= .pv (.con (.type "str"))) (b:= .pv (.con (.type "str")))
   ·apply Ev.LO
    ·walk_at "b"
    ·walk_at "b"
    ·rfl
   ·walk_at "b"
   ·intro S k A c s u v hA R ha hb E Q hQ;have e1:=ha.dn;have e2:=hb.dn;subst e1 e2;exact nU rfl (hQ c _ _ (.refl ..) R (.refl ..) (.pv (.con _)))
   ·rfl
  apply jF.next (bw:=O++[AO.ns [(iV,aa (.inst i)),(nO,~~~(.str x)),(mC,~~~(PV.bool b)),(tD,~~~(.con (.ref (xo b))))]])
  ·apply iX.assign
   ·apply Ev.PO (b:=b) (d:= .pv (.con (.ref (xo b))))
    ·apply oA.Bu
     ·walk_at "b"
     ·intro _ _;rfl
    ·cases b
     ·rw[if_neg bG];apply Ev.CL (v:= .ref 53) h2
      ·rfl
      ·walk_at "a"
      ·unfold cg;walk_at "a"
      ·rfl
     ·rw[if_pos rfl];apply Ev.CL (v:= .ref 48) h2
      ·rfl
      ·walk_at "a"
      ·unfold cg;walk_at "a"
      ·rfl
   ·apply j4.AU h1
    ·rfl
    ·walk_at "a"
    ·walk_at "e"
    ·walk_at "c"
    ·walk_at "d"
   ·intro _ _;rfl
  ·exact wA.ns1
  apply jF.here;apply rf.if (b:=true)
  ·apply oA.Qe (b:=b)
   ·walk_at "b"
   ·walk_at "b"
   ·rfl
   ·exact hb
   ·intro _;rfl
   ·rfl
   ·intro _ _;rfl
  ·apply jF.here;apply rf.raise;walk_at "b"
 let ⟨τ,dX⟩:=dX;refine eY.Qn (loc:=[iV,nO,mC,tD]) (own:=[]) (binds:=[(iV,.inst i),(nO,.pv (.str x)),(mC,.pv (PV.bool b))]) (.of 21 rfl rfl tt) (λpm=> ?_) rfl ?_ dX
 ·exact Bw pm
 ·show jX S _ (O++[AO.ns [(iV,ac),(nO,ac),(mC,ac),(tD,ac)]]) _ _;walk_at "x"
def eY.uR (Ec:lo<0):eY S (k+2) O (.pv (.con (.ref dO.addr))) [d,x,.pv (.int lo)] [] jI:=by
 have h1:=tr;have h2:=Bm;have dX:∃τ,jF S (k+1) (O++[AO.ns [(sA,aa d),(sX,aa x),(oV,~~~(.int lo)),(oW,~~~PV.none),(gp,~~~PV.none)]]) (gB dO (↑O+0)) dO.body jI (O++τ):=by
  apply fY;apply jF.here;apply rf.if (b:=true)
  ·apply oA.to
   ·walk_at "i"
   ·walk_at "k"
  ·apply jF.here;apply rf.assign
   ·apply yA.Fb (r:=fj) pC.mem
    ·apply Ev.CL (by assumption)
     ·rfl
     ·walk_at "a"
     ·show(_,aa (eL 222))∈cg;unfold cg;walk_at "a"
     ·rfl
    ·apply ck.cons
     ·walk_at "b"
     ·apply ck.cons
      ·walk_at "b"
      ·apply ck.cons
       ·walk_at "b"
       ·apply ck.cons
        ·walk_at "b"
        ·exact .nil
        ·rfl
       ·rfl
      ·rfl
     ·rfl
    ·exact .nil
    ·exact eY.Yt (S:=S) (k:=k) false Ec (λpm=>pC.binds .four pm)
   ·exact pp
 let ⟨τ,dX⟩:=dX;refine eY.Qn (r:=dO) (loc:=[sA,sX,oV,oW,gp]) (own:=[]) (.of 2 rfl rfl tt) (λpm=>tm.binds .three pm) rfl ?_ dX;show jX S _ (O++[AO.ns [(sA,ac),(sX,ac),(oV,ac),(oW,ac),(gp,ac)]]) _ _;walk_at "x"
def Nn:me cQ.scope [ah "bisect_right"]:=me.of tt
def eY.afD (hk:qq key) (hg:sv S (k+1) O key g) (hx:g x=aa i) (Ec:lo<0):eY S (k+2) O (.pv (.con (.ref cQ.addr))) [d,.pv x,.pv (.int lo)] [(gp,key)] jI:=by
 have h1:=tu;have h2:=Nn;have dX:∃τ,jF S (k+1) (O++[AO.ns [(sA,aa d),(sX,~~~x),(oV,~~~(.int lo)),(oW,~~~PV.none),(gp,aa key)]]) (gB cQ (↑O+0)) cQ.body jI (O++τ):=by
  apply fY;apply jF.here;apply rf.if (b:=false)
  ·apply oA.js
   ·walk_at "b"
   ·walk_at "b"
   ·exact zO.ra hk
   ·rfl
  ·apply jF.here;apply rf.assign
   ·apply yA.Fb (r:=cR) pD.mem
    ·apply Ev.CL (by assumption)
     ·rfl
     ·walk_at "a"
     ·show(_,aa (eL 204))∈cg;unfold cg;walk_at "a"
     ·rfl
    ·apply ck.cons
     ·walk_at "b"
     ·apply ck.cons
      ·apply Ev.pA rfl hk
       ·walk_at "b"
       ·apply ck.cons
        ·walk_at "b"
        ·exact .nil
        ·rfl
       ·exact hg _ pB x _ hx
      ·apply ck.cons
       ·walk_at "b"
       ·apply ck.cons
        ·walk_at "b"
        ·exact .nil
        ·rfl
       ·rfl
      ·rfl
     ·rfl
    ·apply pe.cons
     ·walk_at "b"
     ·exact .nil
    ·exact eY.Yt (S:=S) (k:=k) true Ec (λpm=>pD.yu .four pm)
   ·exact pp
 let ⟨τ,dX⟩:=dX;refine eY.Qn (r:=cQ) (loc:=[sA,sX,oV,oW,gp]) (own:=[]) (.of 0 rfl rfl tt) (λpm=>rb.yu .three pm) rfl ?_ dX;show jX S _ (O++[AO.ns [(sA,ac),(sX,ac),(oV,ac),(oW,ac),(gp,ac)]]) _ _;walk_at "x"
section
variable {lay:Lay}
def wA.same (bc:At lay p st O) (SR:At lay p cf bv) (h:kr lay p st cf O bv):wA O bv:=by
 intro i m hi;by_cases h1:i=p.fi
 ·subst h1;exact⟨_,SR.frame⟩
 by_cases h2:∃j,j<lay.own/\p.ci[j]? =aa i
 ·let ⟨j,hj,Xz⟩:=h2;have hl:j< ↑st.cv:=by rw[bc.x9,<- bc.FI];exact getElem?_lt' Xz
  let ⟨n,hn,hc⟩:=bc.cells j _ (aq hl);rw[Xz]at hn;obtain rfl:=ag hn;rw[hc]at hi;nomatch hi
 by_cases h3:∃j,j< ↑st.ob/\i=p.oi j
 ·let ⟨j,hj,rfl⟩:=h3;have:=bc.obs j _ (aq hj);rw[this]at hi;cases h:st.ob[j]<;>rw[h]at hi<;>nomatch hi
 ·exact⟨m,by rw[h.out i (getElem?_lt' hi) h1 (λj hj e=>h2 ⟨j,hj,e⟩) (λj hj e=>h3 ⟨j,hj,e⟩)];exact hi⟩
def lG (S:cz) (k:Nat) (lay:Lay) (ss:List Stmt) (F:St->Option St) (m:Str):Prop:=
 ∀p O st cf,At lay p st O->F st=aa cf->∃bv,jF S k O (lay.en p) ss m bv/\At lay p cf bv/\kr lay p st cf O bv
def CU (S:cz) (k:Nat) (lay:Lay) (e:Expr) (P:St->Bool) (m:Str):Prop:=∀p O st,At lay p st O->P st=true->yA S k O (lay.en p) e m
def BD (f:SF) (g:St->Option St) (st:St):Option St:=(nxt (f st)).bind g
def lG.cons (h1:mw S k lay s f) (h2:lG S k lay ss g m):lG S k lay (s::ss) (BD f g) m:=by intro p O st cf bc hf;refine a9 hf λst1 e hf=> ?_;let ⟨lK,a1,b1,c1⟩:=h1 p O st _ st1 bc (LI e);let ⟨uV,a2,b2,c2⟩:=h2 p lK st1 cf b1 hf;exact⟨uV,.next a1 (wA.same bc b1 c1) a2,b2,c1.trans c2 bc⟩
noncomputable def BE (P:St->Bool) (st:St):Option St:=if P st=true then aa st else ac
def lG.expr (h:CU S k lay e P m) (hs:swapsWith e ac pos.line=λq=>pure false):lG S k lay (.Expr e pos::ss) (BE P) m:=by intro p O st cf bc hf;let ⟨hp,rfl⟩:=dS hf;exact⟨O,.here (.expr (h p O st bc hp) hs),bc,.refl ..⟩
def lG.asg (h:CU S k lay e P m) (hs:swapsWith e (aa (.Name x np)) pos.line=λq=>pure false):lG S k lay (.Assign [.Name x np] e pos::ss) (BE P) m:=by intro p O st cf bc hf;let ⟨hp,rfl⟩:=dS hf;exact⟨O,.here (.assign (h p O st bc hp) hs),bc,.refl ..⟩
noncomputable def yIf (b:St->Option Bool) (g:St->Option St) (st:St):Option St:=(b st).bind λx=>cond x (g st) ac
def lG.ifT (hb:A3 S k lay test b) (h:lG S k lay body g m):lG S k lay (.If test body orelse pos::ss) (yIf b g) m:=by
 intro p O st cf bc hf;refine a9 hf λx e hf=> ?_;induction x with
 |true=>let ⟨lK,a1,b1,c1⟩:=h p O st cf bc hf;exact⟨lK,.here (.if (b:=true) (hb p O st _ bc e) a1),b1,c1⟩
 |false=>exact gq hf
def BF (b:Bool) (f fe:EF) (st:St):Bool:=(Bx true b f fe st).isSome
def CU.conv (hk:1<=k) (h:cT S k lay o f) (he:cT S k lay e fe) (hs:notStar e=true) (ik:∀env,attributeBase o "_convert_string_type" env (eval o env)=eval o env) (gC:(jz.endLine==pos.line)=true):
  CU S k lay (.Call (.Attribute o "_convert_string_type" jz) [e] [⟨aa mC,.Constant (.bool b) n FP,kp⟩] pos) (BF b f fe) rU:=by
 intro p O st bc hf;let ⟨v,hf⟩:=jk.mp hf;refine By hf λj x u hj hx ha hb e=> ?_;have FO:=bc.obs j _ ha;obtain⟨k',rfl⟩:∃k',k=k'+1:=⟨k- 1,by simp_all⟩;exact yA.tb (r:=rC) Qf (by unfold iW;show(_,aa (eL 83))∈_;walk_at "a") vn (h p O st _ bc hj) FO (by show _∉ [a6];decide) (.cons (he p O st _ bc hx) .nil hs) (.cons Ev.bool .nil) (eY.conv (k:=k') b (getElem?_lt' FO) hb) ik gC (by show 1+1<20;decide)
def yA.yB (h:Ev S k O ae o d O) (hl:IsL O d l) (hx:yA S k O ae e m) (oS:notStar e=true) (ik:∀env,attributeBase o "append" env (eval o env)=eval o env) (gC:(jz.endLine==pos.line)=true):
  yA S k O ae (.Call (.Attribute o "append" jz) [.Tuple (e::rest) n tZ] [] pos) m:=by
 refine⟨λA c s env fr hA uM hS hE R E Q hQ=> ?_⟩;refine eJ (ik env) rfl gC (h.run A c s env hA hE R _ _ λc1 v1 s1 l1 R1 K1 a1=> ?_);left;let ⟨a,vs,mm,rfl,ho,hs,_⟩:=hl.at R1 a1;right;refine⟨"list", "list.append",F.plainAttrs_list,F.slot_list_append,F.type_list_append,⟨_,ho,rfl⟩,λb e=>by cases e;exact⟨_,ho,rfl⟩,cX rfl ?_⟩;refine lD (rest:=[]) (keywords:=[]) rfl (bX (sN (k:=n) ?_));rw[gz oS];exact bX (hx.run A c1 s1 env fr hA uM (tF hS l1) (hE.mono l1 (ab _)) R1 _ _ λc2 v2 s2 l2 K2 U=>hQ c2 v2 s2 (l1.trans l2 (ab _)) (K1.trans K2) U)
def YA (f:EF) (P:St->Bool) (st:St):Bool:=((f st).bind st.oB).isSome&&P st
def CU.yB (h:cT S k lay o f) (hx:CU S k lay e P m) (oS:notStar e=true) (ik:∀env,attributeBase o "append" env (eval o env)=eval o env) (gC:(jz.endLine==pos.line)=true):
  CU S k lay (.Call (.Attribute o "append" jz) [.Tuple (e::rest) n tZ] [] pos) (YA f P) m:=by
 intro p O st bc hf;let ⟨h1,h2⟩:=dD.mp hf;let ⟨l,hl⟩:=jk.mp h1;exact a9 hl λv hv hl=>yA.yB (h p O st _ bc hv) (bc.oB hl) (hx p O st bc h2) oS ik gC
end
def eY.tb {l ds:List PV} (F:pY r loc own) (VG:ki S (eV r loc own) names tg) (dX:lG S k (eV r loc own) r.body G m)
  (hi:O[i]? =aa (.attrs [(a6,.fM h)])) (hh:O[h]? =aa (.list l)) (yP:i≠h) (Ie:∃st1 cf,tg (.inst 0::ds.map CV.pv) (yy loc own l)=aa st1/\G st1=aa cf/\cf.ob[0]? =aa (CO.attrs [(a6,.ob 1)])/\cf.ob[1]? =aa (.list l))
  (gr:∀pm,vH S k O (r.fd pm) args kw (names.zip (AV.inst i::ds.map AV.pv))):eY S (k+1) O (.pv (.con (.ref r.addr))) args kw m:=by
 let ⟨st1,cf,ZF,hF,ho0,ho1⟩:=Ie;have bc:=F.atM hi hh yP;let ⟨lK,a1,l1,b1,c1,_⟩:=VG _ _ _ _ st1 bc ZF;let ⟨nD,a,b,c⟩:=dX _ _ _ cf b1 hF;let ⟨τ,rfl⟩:=G9 (c1.trans c bc) hi (getElem?_lt' hh) b ho0 ho1;rw[F.en]at a a1;rw[LM]at a1;rw[show O.set h (.list l)=O from ry λj=>by
  by_cases e:h=j
  ·subst e;rw[bU (getElem?_lt' hh),hh]
  ·rw[bE e]]at a
 exact eY.Dy F (binds:=names.zip (AV.inst i::ds.map AV.pv)) gr a1 (wA.same bc b1 c1) a
def Jq:St->Option St:=(BD (CN (.list []) (bf 4)) (BD (jC (bY .IsNot (ak 2) (jh PV.none)) (aC (bZ (qr false (ak 0) (ak 2)) (bf 2)) (aC (oE gZ (ak 4) (au (ak 2) aZ)) br)) br) (BD (Qh (ak 3)) (BE (YA (sy (ak 0)) (BF true (ak 0) (ak 1)))))))
def UB:lG S 1 mj fw.body Jq rU:=(lG.cons (mw.GL (i:=4) rfl tt) (lG.cons (mw.if (A3.cmp (cT.loc (i:=2) tt) cT.none rfl) (j5.cons (mw.PU (i:=2) (cT.conv (ab _) (cT.loc (i:=0) tt) (cT.loc (i:=2) tt) rfl (λq=>rfl) rfl) tt pp) (j5.cons (mw.mut Bi.append F.slot_list_append F.type_list_append (cT.loc (i:=4) tt) (pU.cons (cT.loc (i:=2) tt) pU.nil rfl) (λq=>rfl) rfl ∅ pp) j5.nil)) j5.nil) (lG.cons (mw.Nd (cT.loc (i:=3) tt) (λq=>rfl) rfl) (lG.expr (CU.yB (cT.ajq (cT.loc (i:=0) tt)) (CU.conv (ab _) (cT.loc (i:=0) tt) (cT.loc (i:=1) tt) rfl (λq=>rfl) rfl) rfl (λq=>rfl) rfl) pp))))
def Jr:St->Option St:=(BD (CN (.list []) (bf 4)) (yIf (bY .IsNot (ak 2) (jh PV.none)) (BE (BF false (ak 0) (ak 2)))))
def UC:lG S 1 mj fw.body Jr rU:=(lG.cons (mw.GL (i:=4) rfl tt) (lG.ifT (A3.cmp (cT.loc (i:=2) tt) cT.none rfl) (lG.asg (CU.conv (ab _) (cT.loc (i:=0) tt) (cT.loc (i:=2) tt) rfl (λq=>rfl) rfl) pp)))
noncomputable abbrev UD:Str:=ah "a\n"
noncomputable abbrev He:Str:=ah "\x07"
def YB:kR (codeOf true) UD=aa true:=by kernel_rfl
def UE:kR (codeOf false) He=aa true:=by kernel_rfl
def ajt:kR (codeOf false) "b" =aa false:=by kernel_rfl
def Np (h1:f st=aa (.inst j)) (h2:fe st= ~~~(.str x)) (h3:st.ob[j]? =aa (.attrs [(a6,v)])) (h4:kR (codeOf b) x=aa false):qr b f fe st= ~~~(.str x):=yz h1 h2 h3 h4
def Hf (h1:f st=aa (.inst j)) (h2:fe st= ~~~(.str x)) (h3:st.ob[j]? =aa (.attrs [(a6,v)])) (h4:kR (codeOf b) x=aa true):BF b f fe st=true:=by unfold BF;rw[yz h1 h2 h3 h4];rfl
def rV (h:f st=aa (.next,st1)):BD f g st=g st1:=by unfold BD;rw[h];rfl
def Hg (h:f st=aa (.next,st1)):aC f g st=g st1:=by unfold aC;rw[h]
def Hh (h:P st=true):BE P st=aa st:=by unfold BE;rw[if_pos h]
noncomputable abbrev Qo:List Str:=["self", "_name", "_value", "_params", "parts", "k", "v"]
def Qp (l:List PV):∃st1 cf,oI (.inst 0::[PV.str UD,.str "b",.oQ []].map CV.pv) (yy Qo [] l)=aa st1/\Jq st1=aa cf/\cf.ob[0]? =aa (CO.attrs [(a6,.ob 1)])/\cf.ob[1]? =aa (.list l):=by
 let s0:St:=⟨[aa (.inst 0),~~~(.str UD),~~~(.str "b"),~~~(.oQ []),ac,ac,ac],[],[CO.attrs [(a6,.ob 1)],.list l]⟩;let s1:St:=⟨[aa (.inst 0),~~~(.str UD),~~~(.str "b"),~~~(.oQ []),aa (.ob 2),ac,ac],[],[CO.attrs [(a6,.ob 1)],.list l,.list []]⟩;let s2:St:=⟨[aa (.inst 0),~~~(.str UD),~~~(.str "b"),~~~(.oQ []),aa (.ob 2),ac,ac],[],[CO.attrs [(a6,.ob 1)],.list l,.list [.str "b"]]⟩;have e2:jC (bY .IsNot (ak 2) (jh PV.none)) (aC (bZ (qr false (ak 0) (ak 2)) (bf 2)) (aC (oE gZ (ak 4) (au (ak 2) aZ)) br)) br s1=aa (.next,s2):=by
  show aC (bZ (qr false (ak 0) (ak 2)) (bf 2)) (aC (oE gZ (ak 4) (au (ak 2) aZ)) br) s1=_;rw[Hg (st1:=s1)]
  ·rfl
  ·unfold bZ;rw[Np (j:=0) (x:=ah "b") (v:= .ob 1) rfl rfl rfl ajt];rfl
 refine⟨s0,s2,rfl,?_,rfl,rfl⟩;unfold Jq;rw[rV (st1:=s1) rfl,rV e2,rV (st1:=s2) rfl];refine Hh ?_;unfold YA;have e4:sy (ak 0) s2=aa (.ob 1):=by show(if a6==a6 then aa (CV.ob 1) else ac)=_;rw[if_pos (beq_self_eq_true _)]
 rw[e4];show(true&&BF true (ak 0) (ak 1) s2)=true;rw[(Hf (j:=0) (x:=UD) (v:= .ob 1) rfl rfl rfl YB)];rfl
def Qq (l:List PV):∃st1 cf,oI (.inst 0::[PV.str "a",.str He,.oQ []].map CV.pv) (yy Qo [] l)=aa st1/\Jr st1=aa cf/\cf.ob[0]? =aa (CO.attrs [(a6,.ob 1)])/\cf.ob[1]? =aa (.list l):=by let s0:St:=⟨[aa (.inst 0),~~~(.str "a"),~~~(.str He),~~~(.oQ []),ac,ac,ac],[],[.attrs [(a6,.ob 1)],.list l]⟩;let s1:St:=⟨[aa (.inst 0),~~~(.str "a"),~~~(.str He),~~~(.oQ []),aa (.ob 2),ac,ac],[],[.attrs [(a6,.ob 1)],.list l,.list []]⟩;refine⟨s0,s1,rfl,?_,rfl,rfl⟩;unfold Jr;rw[rV (st1:=s1) rfl];show BE (BF false (ak 0) (ak 2)) s1=aa s1;exact Hh (Hf (j:=0) (x:=He) (v:= .ob 1) rfl rfl rfl UE)
def eY.aju (hi:O[i]? =aa (.attrs [(a6,.fM h)])) (hh:O[h]? =aa (.list l)) (yP:i≠h):eY S 2 O (.pv (.con (.ref fw.addr))) [.inst i,.pv (.str UD),.pv (.str "b")] [] rU:=
 eY.tb (.of 24 rfl rfl (by kernel_rfl)) rT UB hi hh yP (Qp l) λpm=>nP pm
def eY.ajv (hi:O[i]? =aa (.attrs [(a6,.fM h)])) (hh:O[h]? =aa (.list l)) (yP:i≠h):eY S 2 O (.pv (.con (.ref fw.addr))) [.inst i,.pv (.str "a"),.pv (.str He)] [] rU:=
 eY.tb (.of 24 rfl rfl (by kernel_rfl)) rT UC hi hh yP (Qq l) λpm=>nP pm
def cz.mn (S:cz):cz:= {S with yN:=false}
def Rel.mn (R:Rel S c O h):Rel S.mn c O h:=⟨R.frozen,R.base,R.own,R.apart,R.inj,R.pins,λq hq=>let ⟨a,b,ps,d,e,f⟩:=R.tabs q hq;⟨a,b,ps,d,⟨e.1,λh=>by cases h⟩,f⟩⟩
def Ev.YC (h:nL S k O ae x (.int i)):nL S k O ae (.UnaryOp .USub x pos) (.int (-i)):=by refine⟨ab _,λA c s env hA hE R E Q hQ=> ?_⟩;refine Ct (h.run A c s env hA hE R _ _ λc1 v1 s1 l1 R1 K1 a1=> ?_);have Km:=a1.gi;let ⟨_,rfl⟩:=Km.kK;exact CF (hQ c1 _ _ l1 R1 (K1.trans (.toks ..)) (.pv (.int ..)))
structure rg (c:aM) (a cc:Addr) (params:Arguments) (body:Expr) (scope:Scope) (cells:Sn):Prop where
 obj:∃o fd,c.F a=aa o/\o.cls= .type "function" /\o.data= .func fd/\fd.globals=mainGlobals/\fd.builtins=builtinsNs/\fd.defaults= .none/\fd.kwdefaults= .none/\fd.params=params/\fd.body= .expr body/\fd.scope=scope/\fd.closure=cells.map (λp=>(p.1,c.Z p.2))/\fd.code= .ref cc
 code:∃oc vc q t,c.F cc=aa oc/\oc.data= .fields vc/\vc[1]? =aa (.str q t)
def rg.of (h:cU w c n v (.tz params body scope cells)):∃a cc,v= .ref a/\rg c a cc params body scope cells/\∀p∈cells,p.2<n:=by obtain(⟨a,rfl,@⟨o,fd,h1,h2,h3,h4,h5,h6,h7,h8,h9,IH,II,OK⟩,h13⟩):=h.Yc;left;let ⟨c',oc,vc,q,tq,e1,e2,e3,e4⟩:=h8;right;exact⟨a,c',rfl,⟨⟨o,fd,h1,h2,h3,h4,h5,h6,h7,h9,IH,II,OK,e1⟩,⟨oc,vc,q,tq,e2,e3,e4⟩⟩,h13⟩
def rg.mono (h:rg c a cc params body scope cells) (hF:∀a o,c.F a=aa o->c'.F a=aa o) (Eb:∀i,i<n->c'.Z i=c.Z i) (sJ:∀p∈cells,p.2<n):rg c' a cc params body scope cells:=by left;let ⟨⟨o,fd,h1,h2,h3,h4,h5,h6,h7,h9,IH,II,OK,e1⟩,⟨oc,vc,q,tq,e2,e3⟩⟩:=h;right;exact⟨⟨o,fd,hF _ _ h1,h2,h3,h4,h5,h6,h7,h9,IH,II,OK.trans (cj λp hp=>by rw[Eb _ (sJ p hp)]),e1⟩,⟨oc,vc,q,tq,hF _ _ e2,e3⟩⟩
def rg.val (h:rg c a cc params body scope cells) (sJ:∀p∈cells,p.2<n):cU w c n (.ref a) (.tz params body scope cells):=by left;let ⟨⟨o,fd,h1,h2,h3,h4,h5,h6,h7,h9,IH,II,OK,e1⟩,⟨oc,vc,q,tq,e2,e3,e4⟩⟩:=h;right;exact .tz ⟨h1,h2,h3,h4,h5,h6,h7,⟨cc,oc,vc,q,tq,e1,e2,e3,e4⟩,h9,IH,II,OK⟩ sJ
def qc.LR (h:qc O c l) (hn:wA O bv) (hc:aM.pO own ↑O c c'):qc bv c' l:=λe he=>by left;let ⟨h1,i,m,h2,h3⟩:=h e he;let ⟨m',h4⟩:=hn i m h3;right;exact⟨h1,i,m',by rw[hc.Z i (getElem?_lt' h3)];exact h2,h4⟩
def Fc (S:cz) (O:List AO) (A:cS) (c:aM) (s:bb) (l:List lY) (v:Value) (m:Str) (own:Addr->Prop):Prop:=
 ∀(E:VS) (Q:VS),(∀c' x s',aM.pO own ↑O c c'->dY s s'->BC S c' O l m x s'->E x s')->wpAny (MM S.w) A (call v []) Q E s
def rg.call (X:rg c a cc params body scope cells)
  (gr:∀fd:FuncData,fd.params=params->fd.defaults= .none->fd.kwdefaults= .none->bindArgs fd ⟨[],[]⟩=pure [])
  (Ir:∀x∈scope.names,x.2≠ .cell) (qx:scope.kind= .function) (VH:scope.isCoroutine=false) (FV:scope.isGenerator=false) (sJ:∀p∈cells,p.2< ↑O)
  (hA:jG (k+1) A) (hl:A.frames=aa l) (hS:qc O c l) (R:Rel S c O s.heap)
  (dX:∀env h',cY (c.own ↑O s.heap.objs.size) (↑O+1) {scope:=scope,fi:= ↑O,cells:=cells} env->env.code= .ref cc->Rel S (c.own ↑O s.heap.objs.size) (O++[.ns []]) h'->(∀b o,s.heap.get? b=aa o->h'.get? b=aa o)->
   qc (O++[.ns []]) (c.own ↑O s.heap.objs.size) (env::l)->jG k (A.deeper env)->(A.deeper env).frames=aa (env::l)->∀(E:VS) (Q:VS),
   (∀c' v s',aM.pO own (↑O+1) (c.own ↑O s.heap.objs.size) c'->dY {s with heap:=h'} s'->Up S c' (O++[.ns []]) (env::l) m v s'->E v s')->wpAny (MM S.w) (A.deeper env) (eval body env) Q E {s with heap:=h'}):Fc S O A c s l (.ref a) m own:=by
 intro E Q hE;left;let ⟨⟨o,fd,h1,_,h3,h4,h5,h6,h7,h9,IH,II,OK,e1⟩,⟨oc,vc,q,tq,e2,e3,e4⟩⟩:=X;right;refine v8 ?_;refine GY hA.room (R.frozen _ _ h1) h3 (by rw[II];exact VH) (by rw[II];exact FV) IH e1 (R.frozen _ _ e2) e3 e4 ?_;refine i6 (gr fd h9 h6 h7) ?_;rw[II,h4,h5,e1];refine yQ Ir (λx hx=>by cases hx) (λh' tY Oj=> ?_) qx;have Ol:gH s.heap.objs.size (s.heap.push {cls:= .type "frame",data:= .dict #[]}) h':=Oj;have yh:∀b o,s.heap.get? b=aa o->h'.get? b=aa o:=λb o e=>Ol.extBut b o (cM (bW e)) (aJ _ e);let ⟨on,hon,hrn⟩:=ic.PD (w:=S.w) (c:=c.own ↑O s.heap.objs.size) (n:= ↑O+1) (m:=[]) tY (by trivial) (λx d hx=>by nomatch hx) (λx hx=>by cases hx);refine⟨sO R.lim yh,kla_codeExpr ?_⟩;have rA:cY (c.own ↑O s.heap.objs.size) (↑O+1) {scope:=scope,fi:= ↑O,cells:=cells} (newEnv scope s.heap.objs.size mainGlobals fd.closure (q++ah ".<locals>.") (aa a) (eL cc) ac builtinsNs):= {
  scope:=rfl
  kind:=qx
  locals:=(aM.ma c ↑O _).symm
  fi:=eu _
  globals:=rfl
  builtins:=rfl
  cells:=OK.trans (cj λp hp=>by rw[aM.jb.Z _ (sJ p hp)])
  jr:=λp hp=>eH (sJ p hp)
  code:=λa e=>by cases e
  frame:=⟨_,rfl⟩}
 generalize KA:(newEnv scope s.heap.objs.size mainGlobals fd.closure (q++ah ".<locals>.") (aa a) (eL cc) ac builtinsNs)=env at rA⊢;have ZS:(A.deeper env).frames=aa (env::l):=by show A.frames.map (env:: ·)=_;rw[hl];rfl
 have XA:qc (O++[.ns []]) (c.own ↑O s.heap.objs.size) (env::l):=λe he=>by
  rcases aH.mp he with rfl|he
  ·exact⟨(by rw[<- KA];show scope.kind≠_;rw[qx];decide),↑O,[],(by rw[<- KA,aM.ma];rfl),(by rw[aE (ab _),dc];rfl)⟩
  ·exact hS.step (wA.CA O _) aM.jb e he
 refine dX env h' rA (by rw[<- KA];rfl) (R.AR (h':=h') (o:=on) yh (ab _) hon hrn) yh XA hA.deeper ZS _ _ λc1 v1 s1 l1 K1 U=> ?_;refine Hd ZS (XA.LR (wA.refl _) (by rw[aj];exact l1)) U λs2 T K2=> ?_;exact hE c1 v1 s2 (aM.jb.P.trans l1 (mu _)) (((dY.gF s h').trans K1).trans K2) (T.drop R)
def Fc.tz (gr:∀fd:FuncData,fd.params=params->fd.defaults= .none->fd.kwdefaults= .none->bindArgs fd ⟨[],[]⟩=pure [])
  (Ir:∀x∈scope.names,x.2≠ .cell) (qx:scope.kind= .function) (VH:scope.isCoroutine=false) (FV:scope.isGenerator=false)
  (dX:yA S k (O++[.ns []]) {scope:=scope,fi:= ↑O,cells:=cells} body m) (hA:jG (k+1) A) (hl:A.frames=aa l) (hS:qc O c l) (R:Rel S c O s.heap) (hv:cU S.w c ↑O v (.tz params body scope cells)):Fc S O A c s l v m own:=by
 let ⟨a,cc,rfl,X,sJ⟩:=rg.of hv;refine X.call gr Ir qx VH FV sJ hA hl hS R λenv h' rA q R1 yh XA Xy hl1 E Q hQ=> ?_;have cI: ↑(O++[AO.ns []])= ↑O+1:=by rw[aj];rfl
 exact dX.run (A.deeper env) _ {s with heap:=h'} env (env::l) Xy hl1 XA (by rw[cI];exact rA) R1 E Q λc1 v1 s1 l1 K1 U=>hQ c1 v1 s1 (by rw[cI]at l1;exact l1.P) K1 U
noncomputable abbrev je:Str:=ah "table"
noncomputable abbrev nQ:Str:=ah "row"
abbrev UG:Scope:= {kind:= .function,names:=[(je,.free)],isGenerator:=false,isCoroutine:=false}
def yA.d1 (hn:O[n]? =aa (.cell (aa (.inst i)))) (hi:O[i]? =aa (.attrs [(a6,.fM h)])) (hh:O[h]? =aa (.list l)) (yP:i≠h) (gC:(jz.endLine==pos.line)=true):
  yA S 2 (O++[.ns []]) {scope:=UG,fi:= ↑O,cells:=[(je,n)]} (.Call (.Attribute (.Name je np) "add_header" jz) [.Constant (.str UD) n1 p1,.Constant (.str "b") n2 p2] [] pos) rU:=
 yA.tb (r:=fw) Jm (by unfold iW;show(_,aa (eL 179))∈_;walk_at "a") rS (Ev.qU (i:=n) (by show gO je UG.names=_;decide+kernel) rfl (gA hn) rfl rfl) (gA hi) (by show _∉ [a6];decide) (.cons Ev.str (.cons Ev.str .nil rfl) rfl) .nil (eY.aju (gA hi) (gA hh) yP) (λq=>rfl) gC (by show 2+0<20;decide)
def yA.d2 (hn:O[n]? =aa (.cell (aa (.inst i)))) (hi:O[i]? =aa (.attrs [(a6,.fM h)])) (hh:O[h]? =aa (.list l)) (yP:i≠h) (gC:(jz.endLine==pos.line)=true):
  yA S 2 (O++[.ns []]) {scope:=UG,fi:= ↑O,cells:=[(je,n)]} (.Call (.Attribute (.Name je np) "add_header" jz) [.Constant (.str "a") n1 p1,.Constant (.str He) n2 p2] [] pos) rU:=
 yA.tb (r:=fw) Jm (by unfold iW;show(_,aa (eL 179))∈_;walk_at "a") rS (Ev.qU (i:=n) (by show gO je UG.names=_;decide+kernel) rfl (gA hn) rfl rfl) (gA hi) (by show _∉ [a6];decide) (.cons Ev.str (.cons Ev.str .nil rfl) rfl) .nil (eY.ajv (gA hi) (gA hh) yP) (λq=>rfl) gC (by show 2+0<20;decide)
abbrev Js (f:Str):Scope:= {kind:= .function,names:=[(nQ,.free),(f,.globalImplicit)],isGenerator:=false,isCoroutine:=false}
noncomputable abbrev zo:Str:=ah "insort_left"
noncomputable abbrev sz:Str:=ah "insort_right"
def yA.d3 (hn:O[n]? =aa (.cell (aa d))):
  yA S 2 (O++[.ns []]) {scope:=Js zo,fi:= ↑O,cells:=[(nQ,n)]} (.Call (.Name zo np) [.Name nQ p1,.Constant (.int 1) n1 p2,.UnaryOp .USub (.Constant (.int 1) n2 p3) p4] [] pos) jI:=
 yA.Fb (r:=dO) tm.mem (Ev.ui (by show gO zo (Js zo).names=_;exact so) (by show(_,aa (eL 213))∈cg;unfold cg;walk_at "a") rfl)
  (.cons (Ev.qU (i:=n) (by show gO nQ (Js zo).names=_;exact so) rfl (gA hn) rfl rfl) (.cons Ev.int (.cons (Ev.YC Ev.int) .nil rfl) rfl) rfl) .nil (eY.uR (k:=0) ∅)
section
variable {M:Model} {A:cS} {E:VS} {s:bb} {name qual:Str} {params:Arguments} {body:Expr} {scope:Scope} {env:lY} {c P:Addr} {ps:Array Value} {pos:Pos} {firstLine:Nat} {mg:Str->Option Value} {q0:Str×Addr} {r0:List (Str×Addr)} {Q:VS}
def Qr (sJ:closureFor scope env=pure (q0::r0)) (akl:env.globals=mainGlobals) (hg:s.heap.Ns mainGlobals mg) (og:env.code= .ref c) (C:CodeHd s.heap c P) (hP:s.heap.get? P=aa (tableObj ps)) (ht:u5 ps.toList)
  (hnf:codeAmong pos ps.toList=ac) (hgP:mainGlobals≠P) (hb:s.heap.BuiltinsAt mg P)
  (h:∀c' Mu h' tk P',rv P s.heap h'->s.heap.objs.size<=c'->c'<h'.objs.size->h'.CodeRec (.ref c') qual->h'.get? P=aa (tableObj (ps++ #[rawInt pos.line,rawInt pos.col,.ref c']))->s.heap.objs.size<=P'->CodeHd h' c' P'->h'.get? P'=aa (tableObj #[])->
   Q (.ref h'.objs.size) {s with heap:=h'.push {cls:= .type "function",data:= .func (S4 name qual params body scope (q0::r0) ((mg "__name__").getD .none) (.ref c') Mu)},toks:=tk}):
  wpAny M A (makeFunction name qual params (.expr body) scope env [] [] [] pos firstLine) Q E s:=by
 have hk:∀(o:Obj),∀b x,s.heap.get? b=aa x->(s.heap.push o).get? b=aa x:=λo b x e=>aJ _ e;left;let ⟨bm,ob,ZL,akn,_,ako,hbo,FR,tX,Ck⟩:=hb;right;rw[makeFunction_eq];simp only[List.zip_nil_right,List.filterMap_nil,List.isEmpty_nil,if_true,pure_bind];unfold makeTail;rw[sJ,akl];refine am (aR ?_);simp only[List.isEmpty_cons,fu,if_false];refine am (wpAny_newTextTuple ?_);refine am (wpAny_functionCodeX og ((C.keeps (hk _)).code (hk _ _ _ hP) ht) ((C.keeps (hk _)).tab (hk _ _ _ hP)) hnf λc' h' tk hx AC kW q Kw htb C5=> ?_);left;let ⟨P',ZT,hc1,Kr⟩:=C5;have wD:=(hg.push _).extBut hx hgP;have sM:rv P s.heap h':=λb o uU e=>hx b o uU (hk _ _ _ e);have up:∀(o:Obj) {b:Nat},(s.heap.push o).objs.size<=b->s.heap.objs.size<=b:=λo b e=>aA (by rw[eT];exact bh _ _) e;right;refine am (wpAny_builtinsFor wD ZL akn (sM _ _ ako hbo) FR tX Ck ?_);refine am (wpAny_nsGet wD ?_);exact am (aR (iE (h c' _ h' tk P' sM (up _ AC) kW Kw htb.2 (up _ ZT) (CodeHd.of hc1 Kr) Kr.2) (by size_fits)))
end
def aM.Nq {c:aM} (h:a≠P):(c.pinned [(P,o)]).pin a=c.pin a:=by show(gO a [(P,o)]).or (c.pin a)=c.pin a;rw[di,beq_false_of_ne h];rfl
def zU {p q:Pos} (hl:p.line=q.line) (hc:p.col=q.col):∀(n:Nat) (l:Vs),↑l<=n->codeAmong p l=codeAmong q l:=by
 intro n;induction n with
 |zero=>intro l h;rw[sE.mp (Oz.mp h)];rfl
 |succ n ih=>
  intro l h;rcases l with _|⟨a,_|⟨b,_|⟨d,r⟩⟩⟩
  ·rfl
  ·cases a<;>rfl
  ·induction a with
   |int=>cases b<;>rfl
   |_=>rfl
  ·induction a with
   |int x t=>induction b with
    |int y u=>show(if (x==p.line&&y==p.col)=true then aa d else codeAmong p r)=(if (x==q.line&&y==q.col)=true then aa d else codeAmong q r);rw[hl,hc,ih r (mS (TH (TH h)))]
    |_=>rfl
   |_=>rfl
def Nr (Iq:S.yN=true) (og:ae.code=aa 324) (SQ:∀env,defaultsOf params env=([],[])) (Ic:kg ae.cells scope.names []=aa cl) (oS:cl≠ []) (hl:pos.line=wM.line) (hc:pos.col=wM.col)
  (hE:cY c ↑O ae env) (R:Rel S c O s.heap) (E:VS) (Q:VS)
  (hQ:∀c' a cc P s',aM.pO (· =P) ↑O c c'->c.pin P=ac->Rel S.mn c' O s'.heap->dY s s'->rg c' a cc params body scope cl->c'.pin P=aa (tableObj #[])->uh c'.F cc P->(∀p∈cl,p.2< ↑O)->Q (.ref a) s'):wpAny (MM S.w) A (eval (.Lambda params body scope pos) env) Q E s:=by
 refine kla_eval (SQ env) ?_;have hq:((324,320):Addr×Addr)∈cm:=by decide
 have Ee:closureFor scope env=pure (cl.map λp=>(p.1,c.Z p.2)):=by refine mV ?_;rw[hE.cells];exact qW c.Z ae.cells scope.names [] cl Ic
 obtain⟨q0,r0,hqr⟩:∃q0 r0,(cl.map λp=>(p.1,c.Z p.2))=q0::r0:=by
  induction cl with
  |nil=>exact absurd rfl oS
  |cons a l=>exact⟨_,_,rfl⟩
 left;let ⟨mg,Gb,hm⟩:=S.glob;let ⟨ob,FO,OP,Ms,hb3⟩:=S.bmod;let ⟨t1,t2,ps,hP,⟨ht,akp⟩,C7⟩:=R.tabs _ hq;right;have ZL:mg "__builtins__" =aa (.ref 4):=by have:=hm (ah "__builtins__",aa (.ref 4)) (by unfold cg;walk_at "a");exact this
 have hC:CodeHd s.heap 324 320:=by left;let ⟨_,o,vs,f1,f2,f3,f4,f5,f6,f7,e1,r⟩:=S.tabs _ hq;right;exact⟨o,vs,f1,f2,f3,f4,f5,f6,f7,R.old e1 ∅,r⟩
 have hnf:codeAmong pos ps.toList=ac:=by rw[zU hl hc _ _ (ab _)];exact akp Iq rfl
 refine Qr (by rw[Ee,hqr]) hE.globals (R.vg Gb ∅) (hE.code _ og) hC hP ht hnf ∅ (⟨4,ob,ZL,by decide,by decide,by decide,R.old FO ∅,OP,Ms,hb3⟩) λc' Mu h' tk P' hx AC kW Kw htb ZT Kv C5=> ?_;left;let ⟨c2,oc,vs,tq,e2,Mv,Xx,hvc⟩:=Kw;right;cases e2;have hF:=R.oz AC;have R1:Rel S.mn (c.put c' oc) O h':=R.mn.LG hq hx htb ⟨by rw[lq];exact TriplesOk_snoc _ _ _ _ ht,λhs=>by cases hs⟩ (aM.dC (n:=0) hF).F (λa o e=>by
   have e':(if a=c' then aa oc else c.F a)=aa o:=e;by_cases ha:a=c'
   ·rw[if_pos ha]at e';cases e';subst ha;exact⟨Mv,.inr AC⟩
   ·rw[if_neg ha]at e';exact⟨hx _ _ (λh=>by rw[h,t1]at e';cases e') (R.frozen _ _ e'),.inl e'⟩) rfl rfl λjW cd hc=>by
   rw[lq]at hc;rcases vm _ ht hc with h|h
   ·exact(C7 _ _ h).mono (aM.dC (n:=0) hF).F
   ·subst h;exact(⟨c',oc,vs,_,_,rfl,if_pos rfl,Xx,hvc⟩)
 have hcP:c'≠P':=by left;let ⟨_,_,_,_,_,_,_,_,_,_,_,_,_,_,_,_,_,_,h⟩:=Kv;right;exact h
 have hfP:=R.free ZT;have Mw:qF (c.put c' oc) ↑O P':=⟨by
  show(if P'=c' then aa oc else c.F P')=ac;rw[if_neg hcP.symm];exact hfP.F,hfP.Z,hfP.pin,hfP.tab⟩
 have R2:Rel S.mn ((c.put c' oc).pinned [(P',tableObj #[])]) O h':=R1.pinned (λp hp=>by rw[aB]at hp;subst hp;exact Mw) λp hp=>by rw[aB]at hp;subst hp;exact C5
 generalize Zx:(c.put c' oc).pinned [(P',tableObj #[])]=c2 at R2;have hF2:c2.F=(c.put c' oc).F:=by rw[<- Zx];rfl
 generalize XB:({cls:= .type "function",data:= .func (S4 "<lambda>" (env.qual++ "<lambda>") params body scope (q0::r0) ((mg "__name__").getD .none) (.ref c') Mu)}:Obj)=fo;have ON:∀a o,c2.F a=aa o->(c2.put h'.objs.size fo).F a=aa o:=(aM.dC (n:=0) (R2.oz (ab _))).F;have Xv:(c2.put h'.objs.size fo).F c'=aa oc:=ON _ _ (hF2▸(if_pos rfl));refine hQ (c2.put h'.objs.size fo) h'.objs.size c' P' _ ⟨λa o e=>ON _ _ (by exact hF2▸((aM.dC (n:=0)) hF).F _ _ e),λi hi=>by rw[<- Zx];rfl,λa ha=>by
   show c2.pin a=c.pin a;rw[<- Zx,aM.Nq ha];rfl⟩ hfP.pin (R2.put (o:=fo) (λb o e=>aJ _ e) (ab _) (aV _ (by rw[<- XB];rfl))) (.heap ..) ⟨⟨fo,_,if_pos rfl,by rw[<- XB],by rw[<- XB],rfl,rfl,rfl,rfl,rfl,rfl,rfl,?_,rfl⟩,⟨oc,vs,_,_,Xv,Xx,hvc⟩⟩ ?_ ?_ (td hE.jr scope.names [] cl (λp hp=>by cases hp) Ic)
 ·show q0::r0=_;rw[<- hqr];exact cj λp hp=>by show(p.1,c.Z p.2)=(p.1,c2.Z p.2);rw[<- Zx];rfl
 ·show c2.pin P'=_;exact Zx▸(aM.lF ..)
 ·let ⟨o,Vz,f1,f2,f3,f4,f5,f6,f7,e1,r⟩:=Kv;rw[Mv]at e1;cases e1;exact⟨oc,Vz,f1,f2,f3,f4,f5,f6,f7,Xv,r⟩
noncomputable abbrev sI:Str:=ah "one"
abbrev W9:Scope:= {kind:= .function,names:=[(sI,.local)],isGenerator:=false,isCoroutine:=false}
def ajw (d:PV):Option Int:=(CV.pv d).aI.map (- ·)
def UH (gr:∀(fd:FuncData) (v:Value),fd.params=params->fd.defaults= .none->fd.kwdefaults= .none->bindArgs fd ⟨[v],[]⟩=pure [(sI,v)]):
  sv S (k+1) O (.tz params (.UnaryOp .USub (.Name sI np) up) W9 []) ajw:=by
 intro bv jM d i hd;let ⟨j,ej,rfl⟩:=ar.mp hd;obtain rfl:=CV.pvI (CV.kI ej);refine dy.tz (names:=[sI]) (τ:=[.ns [(sI,~~~(.int j))]]) rfl (by trivial) (λfd vs h1 h2 h3 hv=> ?_) (by decide+kernel) (by intro x hx;rw[aB]at hx;subst hx;decide+kernel) rfl rfl rfl (λp hp=>by nomatch hp)
  (Ev.YC (Ev.rJ (m:=[(sI,~~~(.int j))]) ?_ (by show gO sI W9.names=_;exact so) ay (by decide+kernel)))
 ·exact Tp (P:=λvs=>bindArgs fd ⟨vs,[]⟩=pure ([sI].zip vs)) (λv=>gr fd v h1 h2 h3) vs hv
 ·show(bv++[AO.ns [(sI,aa (AV.pv (.int j)))]])[↑bv]? =_;rw[aE (ab _),dc];rfl
def afE (hn:O[n]? =aa (.cell (aa d)))
  (X:rg c a cc params (.Call (.Name sz np) [.Name nQ p1,.Constant (.int 1) n1 p2,.UnaryOp .USub (.Constant (.int 1) n2 p3) p4] [⟨aa gp,.Lambda lp (.UnaryOp .USub (.Name sI op) up) W9 agx,kp⟩] pos) (Js sz) [(nQ,n)])
  (gr:∀fd:FuncData,fd.params=params->fd.defaults= .none->fd.kwdefaults= .none->bindArgs fd ⟨[],[]⟩=pure []) (ZU:∀(fd:FuncData) (v:Value),fd.params=lp->fd.defaults= .none->fd.kwdefaults= .none->bindArgs fd ⟨[v],[]⟩=pure [(sI,v)])
  (agZ:∀env,defaultsOf lp env=([],[])) (hA:jG 3 A) (hl:A.frames=aa l) (hS:qc O c l) (R:Rel S c O s.heap) (ZK:c.pin P=aa (tableObj #[])) (C7:uh c.F cc P):Fc S O A c s l (.ref a) jI (· =P):=by
 refine X.call (k:=2) gr (by decide+kernel) rfl rfl rfl (λp hp=>by rw[aB]at hp;subst hp;exact(getElem?_lt' hn)) hA hl hS R λenv h' ZV og R0 yh XA Xy hl1 E Q hQ=> ?_;have cI: ↑(O++[AO.ns []])= ↑O+1:=by rw[aj];rfl
 have vt:(O++[AO.ns []])[n]? =aa (.cell (aa d)):=gA hn;generalize hc0:c.own ↑O s.heap.objs.size=c0 at ZV R0 XA hQ;rw[<- cI]at ZV hQ;generalize aoC:O++[AO.ns []]=lK at ZV R0 XA hQ vt;have hae:({scope:=Js sz,fi:= ↑O,cells:=[(nQ,n)]}:iv).scope=Js sz:=rfl;generalize akr:({scope:=Js sz,fi:= ↑O,cells:=[(nQ,n)]}:iv)=ae1 at ZV hae;have ag0:ck S 2 lK ae1 [.Name nQ p1,.Constant (.int 1) n1 p2,.UnaryOp .USub (.Constant (.int 1) n2 p3) p4] [d,.pv (.int 1),.pv (.int (-1))]:=
  .cons (Ev.qU (i:=n) (by rw[hae];show gO nQ (Js sz).names=_;exact so) (by rw[<- akr];rfl) vt (by decide+kernel) (by decide+kernel)) (.cons Ev.int (.cons (Ev.YC Ev.int) .nil rfl) rfl) rfl
 refine cn ((Ev.ui (by rw[hae];show gO sz (Js sz).names=_;exact so) (by show(_,aa (eL 195))∈cg;unfold cg;walk_at "a") (by decide+kernel)).run _ c0 _ env Xy ZV R0 _ _ λc1 v1 s1 l1 R1 K1 a1=> ?_);have e':=a1.dn;subst e';left;let ⟨of,pm,Kx,Om,FW,_⟩:=R1.fn rb.mem;right;refine fI (o:=of) (fd:=cQ.fd pm) ?_;have Zu:=mH ag0 pos (A.deeper env) c1 s1 env Xy (ZV.mono l1 (ab _)) R1;rw[gz rfl]at Zu⊢;refine lD rfl (Zu _ _ λc2 vs s2 l2 R2 K2 a2=> ?_);show wpAny _ _ (evalAll [do let v <- eval (.Lambda lp (.UnaryOp .USub (.Name sI op) up) W9 agx) env;standAt pos;pure v]) _ _ s2;have uL:=l1.trans l2 (ab _);refine wpAny_evalAll_cons (am (kla_eval (agZ env) ?_));have Mr:c2.pin P=aa (tableObj #[]):=by rw[uL.pin];exact(by exact hc0▸ZK)
 left;let ⟨hP,hPF,aoE,hPt⟩:=R2.pins P _ Mr;let ⟨mg,Gb,hm⟩:=S.glob;let ⟨ob,FO,OP,Ms,hb3⟩:=S.bmod;right;have ZL:mg "__builtins__" =aa (.ref 4):=by have:=hm (ah "__builtins__",aa (.ref 4)) (by unfold cg;walk_at "a");exact this
 have h4P:(4:Addr)≠P:=λe=>by have:=R2.base 4 ob FO ∅;rw[e,hPF]at this;cases this
 have h3P:mainGlobals≠P:=λe=>by let ⟨o,es,ep,e1,_⟩:=Gb;have:=R2.base mainGlobals o e1 ∅;rw[e,hPF]at this;cases this
 have hC:CodeHd s2.heap cc P:=by left;let ⟨o,Vz,KQ,tf,Cz,tg,Zt,text,tt,f0,r⟩:=(by rw[<- hc0];exact C7:uh c0.F cc P);right;exact⟨o,Vz,KQ,tf,Cz,tg,Zt,text,tt,R2.frozen _ _ (uL.F _ _ f0),r⟩
 refine kla_makeFunction (mg:=mg) (mV rfl) (ZV.mono uL (ab _)).globals (R2.vg Gb ∅) og hC hP trivial rfl h3P (⟨4,ob,ZL,by decide,by decide,h4P,R2.old FO ∅,OP,Ms,hb3⟩) λc' Mu h2 tk hx AC kW Kw htb=> ?_;left;let ⟨c2',oc,ws,tq,e2,Mv,Xx,hvc⟩:=Kw;right;cases e2;have R3:=R2.GA Mr hx;generalize ON:({c2 with pin:=λa=>if a=P then ac else c2.pin a}:aM)=c3 at R3;have hF3:c3.F=c2.F:=by rw[<- ON]
 have ag1:c3.Z=c2.Z:=by rw[<- ON]
 have hfc:=R2.free AC;have Mw:qF c3 ↑lK c':=⟨by rw[hF3];exact hfc.F,λi hi=>by rw[ag1];exact hfc.Z i hi,by
  rw[<- ON];show(if c'=P then ac else c2.pin c')=ac;split
  ·rfl
  ·exact hfc.pin,hfc.tab⟩
 have R4:=R3.freeze Mw Mv;have hn4:(c3.put c' oc).F h2.objs.size=ac:=R4.oz (ab _);generalize XB:({cls:= .type "function",data:= .func (S4 "<lambda>" (env.qual++ "<lambda>") lp (.UnaryOp .USub (.Name sI op) up) W9 [] ((mg "__name__").getD .none) (.ref c') Mu)}:Obj)=fo;have R5:=R4.put (o:=fo) (λb o e=>aJ _ e) (ab _) (aV _ (by rw[<- XB];rfl));generalize hc5:(c3.put c' oc).put h2.objs.size fo=c5 at R5;have l35:aM.le ↑lK c3 c5:=by exact hc5▸((aM.dC Mw.F)).trans (aM.dC hn4) (ab _)
 have l25:aM.pO (· =P) ↑lK c2 c5:=⟨λa o e=>l35.F _ _ (hF3▸e),λi hi=>by rw[l35.Z i hi,ag1],λa ha=>by rw[l35.pin];exact(λa ha=>by rw[<- ON];exact if_neg ha) a ha⟩;have akv:cU S.w c5 ↑lK (.ref h2.objs.size) (.tz lp (.UnaryOp .USub (.Name sI op) up) W9 []):=by refine .tz (.mk (o:=fo) (fd:=S4 "<lambda>" (env.qual++ "<lambda>") lp (.UnaryOp .USub (.Name sI op) up) W9 [] ((mg "__name__").getD .none) (.ref c') Mu) (hc5▸(if_pos rfl)) (by rw[<- XB]) (by rw[<- XB]) rfl rfl rfl rfl ?_ rfl rfl rfl rfl) (λp hp=>by cases hp);refine⟨c',oc,ws,_,_,rfl,?_,Xx,hvc⟩;rw[<- hc5];exact(aM.dC (n:=0) hn4).F _ _ (if_pos rfl)
 subst XB;have akw:∀h5:iR,Rel S c5 lK h5->h5.get? 195=aa of:=λh5 R=>by left;let ⟨FK,_,h0,_,_,_⟩:=S.fns cQ rb.mem;right;rw[(R1.old h0 ∅)]at Kx;cases Kx;exact(R.old h0 ∅)
 refine am (cV (aR (iH ⟨⟨akw _ R5,FW⟩,?_⟩)));have l05:=uL.P.trans l25 (ab _);have ZE:dg S.w c5 ↑lK vs [d,.pv (.int 1),.pv (.int (-1))]:=by
  have key:∀ {ws:Vs} {ds:List AV},dg S.w c2 ↑lK ws ds->dg S.w c5 ↑lK ws ds:=by
   intro ws ds h;induction h with
   |nil=>exact .nil
   |cons a _ ih=>exact .cons (a.j8 l25.F l25.Z (ab _)) ih
  exact key a2
 refine(eY.afD (S:=S) (k:=0) (O:=lK) .mk (UH ZU) (i:= -1) rfl ∅).run (A.deeper env) c5 _ (.ref 195) vs [(gp,.ref h2.objs.size)] (env::l) Xy hl1 (XA.LR (wA.refl _) l05) R5 (.pv (.con _)) ZE rfl (.cons akv .nil) E Q λc6 v6 s6 l6 K6 U=> ?_;exact hQ c6 v6 s6 (l05.trans l6.P (ab _)) ((K1.trans K2).trans (dY.trans (.heap ..) K6)) U
noncomputable abbrev fX:Str:=ah "told"
noncomputable abbrev fq:Str:=ah "deed"
noncomputable abbrev jJ:Str:=ah "wrong"
def Fd (hm:O[ae.fi]? =aa (.ns m)) (hk:ae.scope.names.lookup x=aa .local) (hd:(x,aa d)∈m)
  (hx:(x==("__debug__" :Str))=false) (hE:cY c ↑O ae env) (R:Rel S c O s.heap) (hQ:∀v,cU S.w c ↑O v d->Q v s):wpAny (MM S.w) A (eval (.Name x pos) env) Q E s:=by
 left;let ⟨f,hf,_,h1,_⟩:=R.ns hm;let ⟨v,hv,hd⟩:=h1 x d hd;right;exact Co (qg (hE.scope▸hE.kind) (by rw[hE.kindOf,hk]) (hE.locals▸hf) hv (hQ v hd)) hx
def YD:isSubtype (.type "ValueError") (.type "BaseException")=pure true:=by rw[yT];rfl
def YE:isSubtype (.type "ValueError") (.type "ValueError")=pure true:=by rw[yT];rfl
def YF:isSubtype (.type ((OT "ValueError").elim "type" λx=>x.metatype)) (.type "tuple")=pure false:=by rw[(rfl:((OT "ValueError").elim "type" λx=>x.metatype)= "type"),yT];rfl
def xt.Xa {c:aM} {B h:iR} {e:Addr} (R:xt S c O B h) (he:B.get? e=ac) (tY:∀o es n,h.get? e=aa o->o.data≠ .dict es n):qF c ↑O e where
 F:=by
  cases e':c.F e with
  |none=>rfl
  |some o=>rw[R.F _ _ e']at he;nomatch he
 Z:=λi hi e'=>by
  subst e';let ⟨o,ho,hr⟩:=R.rel.own i _ (aq hi);rcases R.own i O[i] (aq hi)with⟨m,hm⟩|hb
  ·rw[hm]at hr;cases hr with
   |ns a=>exact tY _ _ _ ho a
  ·rw[hb o ho]at he;nomatch he
 pin:=by
  cases e':c.pin e with
  |none=>rfl
  |some o=>rw[R.pin _ _ e']at he;nomatch he
 tab:=λq hq e'=>by let ⟨_,_,ps,d,_⟩:=R.rel.tabs q hq;have:=R.tab q hq _ d;rw[e',he]at this;nomatch this
def Rel.nsSet (R:Rel S c O h) (hi:i< ↑O) (hs:gH (c.Z i) h h') (hf:h'.Ns (c.Z i) f) (nd:(m.map (·.1)).Nodup)
  (h1:∀x d,(x,aa d)∈m->∃v,f x=aa v/\cU S.w c ↑O v d) (h2:∀x,(x,ac)∈m->f x=ac):Rel S c (O.set i (.ns m)) h':=by
 let ⟨o,ho,hr⟩:=ic.PD (w:=S.w) (c:=c) (n:= ↑O) (m:=m) hf nd h1 h2;exact R.set hi (λb o hb e=>hs.extBut b o hb e) ho hr
abbrev LS (j:Nat) (d:AV):List (Str×Option AV):=[(fX,aa (.fM j)),(fq,aa d)]
abbrev UI (dp cp ep vp tp ap sp wpo cp2 cp3 ep2 hp tZ:Pos):Stmt:=
 .Try [.Expr (.Call (.Name fq dp) [] [] cp) ep] [.ExceptHandler (aa (.Name "ValueError" vp)) (aa jJ) [.Expr (.Call (.Attribute (.Name fX tp) "append" ap) [.Call (.Name "str" sp) [.Name jJ wpo] [] cp2] [] cp3) ep2] hp] [] [] tZ
def Rel.nsW {f:Str->Option Value} {e:Addr} {i j:Nat} {dv:AV} (R:Rel S c O h) (hm:O[i]? =aa (.ns (LS j dv))) (hi:i< ↑O) (hs:gH (c.Z i) h h') (Ih:∀x d,(x,aa d)∈LS j dv->∃v,f x=aa v/\cU S.w c ↑O v d)
  (hf:h'.Ns (c.Z i) λy=>if y=jJ then aa (.ref e) else f y):Rel S c (O.set i (.ns [(fX,aa (.fM j)),(fq,aa dv),(jJ,~~~(.con (.ref e)))])) h':=by
 refine R.nsSet hi hs hf (by show([fX,fq,jJ]:List Str).Nodup;decide) (λx d hx=> ?_) (λx hx=>by simp at hx);rcases aH.mp hx with(hx|hx)
 ·cases hx;let ⟨v,p,q⟩:=Ih fX _ (by walk_at "a");exact⟨v,by rw[if_neg ∅];exact p,q⟩
 ·rcases aH.mp hx with(hx|hx)
  ·cases hx;let ⟨v,p,q⟩:=Ih fq _ (by walk_at "a");exact⟨v,by rw[if_neg ∅];exact p,q⟩
  ·rw[aB]at hx;cases hx;exact⟨.ref e,if_pos rfl,.pv (.con _)⟩
def Rel.nsU {f:Str->Option Value} {u:Option Value} {i j:Nat} {dv w:AV} (R:Rel S c O h) (hi:i< ↑O) (hs:gH (c.Z i) h h') (Ih:∀x d,(x,aa d)∈[(fX,aa (.fM j)),(fq,aa dv),(jJ,aa w)]->∃v,f x=aa v/\cU S.w c ↑O v d)
  (hf:h'.Ns (c.Z i) λy=>if y=jJ then u else f y):Rel S c (O.set i (.ns (LS j dv))) h':=by
 refine R.nsSet hi hs hf (by show([fX,fq]:List Str).Nodup;decide) (λx d hx=> ?_) (λx hx=>by simp at hx);rcases aH.mp hx with(hx|hx)
 ·cases hx;let ⟨v,p,q⟩:=Ih fX _ (by walk_at "a");exact⟨v,by rw[if_neg ∅];exact p,q⟩
 ·rw[aB]at hx;cases hx;let ⟨v,p,q⟩:=Ih fq _ (by walk_at "a");exact⟨v,by rw[if_neg ∅];exact p,q⟩
def Qs
  (hm:O[ae.fi]? =aa (.ns (LS j dv))) (hj:O[j]? =aa (.list L)) (hL: ↑L<100000) (Ij:pT ae.scope [fX,fq,jJ]) (Ik:me ae.scope [ah "ValueError",ah "str"]) (ZW:∀v1,cU S.w c ↑O v1 dv->∃a o fd,v1= .ref a/\c.F a=aa o/\o.data= .func fd) (gC:(ap.endLine==cp3.line)=true)
  (hA:jG k A) (uM:A.frames=aa (env::l)) (hE:cY c ↑O ae env) (OQ:env.frame=aa env.locals) (R:Rel S c O s.heap)
  (SU:∀c1 s1 v1,aM.le ↑O c c1->Rel S c1 O s1.heap->cU S.w c1 ↑O v1 dv->Fc S O A c1 s1 (env::l) v1 msg own) (E:VS) (Q:Cq->bb->Prop)
  (hQ:∀c' s',aM.pO own ↑O c c'->Rel S c' (O.set j (.list (L++[.str msg]))) s'.heap->dY s s'->Q .next s'):wpAny (MM S.w) A (exec (UI dp cp ep vp tp ap sp wpo cp2 cp3 ep2 hp tZ) env) Q E s:=by
 have hint:∀c1,cY c1 ↑O ae env->interactive env=false:=λc1 hE=>by unfold interactive;rw[hE.scope,hE.kind];rfl
 have Ks:=getElem?_lt' hm;have Xq:=getElem?_lt' hj;have oS:ae.fi≠j:=λe=>by rw[e,hj]at hm;cases hm
 refine wpAny_Try_except (da (yR ?_ (hint _ hE) rfl));refine cn (Fd hm (Ij _ (by walk_at "a")) (by walk_at "a") rfl hE R λv1 a1=> ?_);left;let ⟨a,o,fd,rfl,hF,hd⟩:=ZW v1 a1;right;refine fI (o:=o) (fd:=fd) ?_;refine ef .nil _ cp A c s env hA hE R _ _ λc1 vs s1 l1 R1 K1 a2=> ?_;cases a2;refine⟨⟨R1.frozen _ _ (l1.F _ _ hF),hd⟩,SU c1 s1 (.ref a) l1 R1 (a1.mono l1 (ab _)) _ _ λc2 v2 s2 l2 K2 T=> ?_⟩;left;let ⟨e,t,tk,B,rfl,Kz,ht,SJ,RB⟩:=T;have l02:aM.pO own ↑O c c2:=l1.P.trans l2 (ab _);have H9:=hE.pk l02 (ab _);right;refine wpAny_looks_onW uM OQ Kz λh4 SV ag2=> ?_;refine wpAny_landsW SV λh5 ZX ag3=> ?_;have RB5:=(RB.step SV.1 ag2).step ZX.1 ag3;let ⟨ob,FO,akx⟩:=ZX.there;refine wpAny_handleBy_builtin_as (X:= "ValueError") (T:= "ValueError") (b:=true) YD YF YE (Ev.blt H9 RB5.rel (Ik _ (by walk_at "a")) (by unfold cg;walk_at "a") (by unfold ly;walk_at "a") rfl ⟨rfl,⟨ob,FO,akx⟩,?_⟩);rw[if_pos rfl];refine PyProof.Rows.lands_againW ZX λh6 ZY ag4=> ?_;have RB6:=RB5.step ZY.1 ag4;left;let ⟨oe,ws,hoe,akA,ZZ,akB⟩:=ZY.first;let ⟨ot,nt,hot,akC,VJ⟩:=((ht.of_slots ag2).of_slots ag3).of_slots ag4;have ag5:=RB6.Xa ZY.2.1 (λo es n h q=>by rw[hoe]at h;cases h;rw[ZZ]at q;cases q);have SW:=RB6.Xa SJ (λo es n h q=>by rw[hot]at h;cases h;rw[VJ]at q;cases q);right;have hte:t≠e:=λq=>by rw[q,hoe]at hot;cases hot;rw[ZZ]at VJ;cases VJ
 have R7:=(RB6.rel.freeze ag5 hoe).freeze (a:=t) (o:=ot) ⟨by
  show(if t=e then aa oe else c2.F t)=ac;rw[if_neg hte];exact SW.F,SW.Z,SW.pin,SW.tab⟩ hot
 have l7:aM.le ↑O c2 ((c2.put e oe).put t ot):=(aM.dC ag5.F).trans (aM.dC (by
  show(if t=e then aa oe else c2.F t)=ac;rw[if_neg hte];exact SW.F)) (ab _)
 have hFe:((c2.put e oe).put t ot).F e=aa oe:=by show(if e=t then aa ot else(if e=e then aa oe else c2.F e))=_;rw[if_neg hte.symm,if_pos rfl]
 have hFt:((c2.put e oe).put t ot).F t=aa ot:=if_pos rfl;generalize hc7:(c2.put e oe).put t ot=c7 at R7 l7 hFe hFt;have VK:=H9.mono l7 (ab _);left;let ⟨f,hf,nd,Ih,Sy⟩:=R7.ns hm;have Mx:env.locals=c7.Z ae.fi:=VK.locals;right;refine yb (m:=f) (by rw[VK.kindOf,Ij jJ (by walk_at "a")]) (Mx▸hf) (λh8 hn8 hs8=> ?_) (by rw[VK.scope,VK.kind];rfl);rw[Mx]at hn8 hs8;have R8:Rel S c7 (O.set ae.fi (.ns [(fX,aa (.fM j)),(fq,aa dv),(jJ,~~~(.con (.ref e)))])) h8:=R7.nsW hm Ks hs8 Ih hn8;have SX: ↑(O.set ae.fi (.ns [(fX,aa (.fM j)),(fq,aa dv),(jJ,~~~(.con (.ref e)))]))= ↑O:=bi;have hm8:(O.set ae.fi (.ns [(fX,aa (.fM j)),(fq,aa dv),(jJ,~~~(.con (.ref e)))]))[ae.fi]? =aa (.ns [(fX,aa (.fM j)),(fq,aa dv),(jJ,~~~(.con (.ref e)))]):=bU Ks;have hj8:(O.set ae.fi (.ns [(fX,aa (.fM j)),(fq,aa dv),(jJ,~~~(.con (.ref e)))]))[j]? =aa (.list L):=by rw[bE oS];exact hj
 generalize akE:O.set ae.fi (.ns [(fX,aa (.fM j)),(fq,aa dv),(jJ,~~~(.con (.ref e)))])=σ8 at R8 SX hm8 hj8;have hE8:cY c7 ↑σ8 ae env:=by exact SX▸VK
 refine da (yR ?_ (hint _ VK) rfl);refine eJ rfl rfl gC (Fd hm8 (Ij _ (by walk_at "a")) (by walk_at "a") rfl hE8 R8 λv3 a3=> ?_);let ⟨rfl,akG⟩:=a3.zN;let ⟨ol,hol,hrl⟩:=R8.own _ _ hj8;let ⟨vs,ee,rfl,hs,hp⟩:=hrl.zb;refine⟨"list", "list.append",F.plainAttrs_list,F.slot_list_append,F.type_list_append,⟨_,hol,rfl⟩,λb e=>by cases e;exact⟨_,hol,rfl⟩,cX rfl ?_⟩;refine lD (rest:=[]) (keywords:=[]) rfl (bX ?_);refine cn (Ev.blt hE8 R8 (Ik _ (by walk_at "a")) (by unfold cg;walk_at "a") (by unfold ly;walk_at "a") rfl ?_);refine ec rfl ?_;refine lD (rest:=[]) (keywords:=[]) rfl (bX (Fd hm8 (Ij _ (by walk_at "a")) (by walk_at "a") rfl hE8 R8 λv4 a4=>eA (iH ?_)));have e4:=a4.dn;subst e4;refine P.str_of_exc_one PySem.F.excStr_ValueError ?_ ⟨oe,ws,R8.frozen _ _ hFe,akA,ZZ,akB⟩ ⟨ot,nt,R8.frozen _ _ hFt,akC,VJ⟩ ?_
 ·have:=hA.units;have e:cLine=9900:=rfl;show A.units+2<cLine;exact ab4 this e
 refine eA (iH ?_);refine uX (hsz:=mW (Pd hs hL)) ⟨_,hol⟩ λh9 SE hk9=> ?_;let ⟨e9,ho9⟩:=SE;have R9:Rel S c7 (σ8.set j (.list (L++[.str msg]))) h9:=R8.PZ akG hk9.extBut ho9 hs hp (.str ..);refine jB ?_;left;let ⟨f9,hf9,nd9,hg1,Z0⟩:=R9.ns (by rw[bE oS.symm];exact hm8);right;refine wpAny_nameGoes_keeps (by rw[VK.kindOf,Ij jJ (by walk_at "a")]) (Mx▸hf9) (by rw[VK.scope,VK.kind];rfl) λIH v10 ag8 ag9=> ?_;rw[Mx]at ag8 ag9;have R10:Rel S c7 ((σ8.set j (.list (L++[.str msg]))).set ae.fi (.ns (LS j dv))) IH:=R9.nsU (by rw[bi,SX];exact Ks) ag9 hg1 ag8;have H5:(σ8.set j (.list (L++[.str msg]))).set ae.fi (.ns (LS j dv))=O.set j (.list (L++[.str msg])):=by rw[<- akE,List.set_comm _ _ oS.symm,List.set_set,set_same hm]
 rw[H5]at R10;exact hQ c7 _ (l02.trans l7.P (ab _)) R10 (((K1.trans K2)).trans (dY.heap ..))
def zO.twice:zO O (binaryOp .Mult) (.pv (.lst [x])) (.pv (.int 2)) (.lst [x,x]):=by
 intro S k A c s u v hA R ha hb E Q hQ;let ⟨a,vs,n,rfl,ho,e1,k1⟩:=IsL.val.at R ha;have uU:=hb.gi;let ⟨t,rfl⟩:=uU.kK;have hv:∃v0,vs= #[v0]:=by let ⟨l⟩:=vs;exact Tp (P:=λl=>∃v0,(⟨l⟩:Array Value)= #[v0]) (λv=>⟨v,rfl⟩) l e1
 let ⟨v0,rfl⟩:=hv;refine wpAny_binaryOp_repeat_ref (T:= "list") (U:= "int") rfl ⟨_,ho,rfl⟩ (λs'=>typeIs_int s' 2 t) noFill_list_mul F.fills_int_mul F.slot_int_rmul repeat_list F.slot_int_index.lookup
  (KH F.slot_int_rmul (typeIs_int s 2 t) F.entry_int_rmul (F.args_int_rmul_2 _ _) (int___rmul___int_list 2 t a #[v0] n)
   ⟨ho,rfl,⟨_,ho,rfl⟩,KH F.slot_list_mul ⟨_,ho,rfl⟩ F.entry_list_mul (F.args_list_mul_2 _ _)
    (AutoListH.list___mul___list_int_3 a #[v0] n 2 t (by simp[iq]) (by show ¬1*2>_;decide) (by simp[Builtin.List.listTooLong,sizeLine])) ⟨ho,?_⟩⟩)
 have hF:=R.oz (ab s.heap.objs.size);refine hQ (c.put s.heap.objs.size {cls:= .type "list",data:= .seq #[v0,v0]}) _ _ (aM.dC hF) R.sW (.gF ..) (.pv (.lst (vs:= #[v0,v0]) (if_pos rfl) rfl λi v d hv hd=> ?_));have h1:dk S.w (c.put s.heap.objs.size {cls:= .type "list",data:= .seq #[v0,v0]}).F v0 x:=(k1 0 v0 x rfl rfl).mono (aM.dC (n:=0) hF).F
 match i,hv,hd with
 |0,hv,hd=>obtain rfl:=ag hv;obtain rfl:=ag hd;exact h1
 |1,hv,hd=>obtain rfl:=ag hv;obtain rfl:=ag hd;exact h1
def Ev.one (h:nL S k O ae e d) (hn:notStar e=true):nL S k O ae (.List [e] pos) (.lst [d]):=by
 refine⟨ab _,λA c s env hA hE R E Q hQ=> ?_⟩;refine wpAny_List (mH (.cons h .nil hn) pos A c s env hA hE R _ _ λc1 vs s1 l1 R1 K1 a1=>⟨?_,?_⟩)
 ·rw[↑a1];show 1<=sizeLine;decide
 ·have h9:=a1.i1;clear a1;let ⟨v,_,rfl,a1,b1⟩:=h9;obtain rfl:=b1.i0;have hF:=R1.oz (ab s1.heap.objs.size);refine hQ (c1.put s1.heap.objs.size {cls:= .type "list",data:= .seq #[v]}) _ _ (l1.trans (aM.dC hF) (ab _)) R1.sW (K1.trans (.gF ..)) (.pv (.lst (vs:= #[v]) (if_pos rfl) rfl λi w x hv hd=> ?_))
  match i,hv,hd with
  |0,hv,hd=>obtain rfl:=ag hv;obtain rfl:=ag hd;exact a1.gi.mono (aM.dC (n:=0) hF).F
def UJ:iI [.str rU,.str rU,.str jI,.str jI] ([.str rU,.str rU]++[.str jI,.str jI])=aa true:=rfl
def iX.YH (hm:O[ae.fi]? =aa (.ns m)) (hd:(fX,aa (.fM j))∈m) (hk:ae.scope.names.lookup fX=aa .local) (hj:O[j]? =aa (.list [.str rU,.str rU,.str jI,.str jI])):
  iX S k O ae (.Return (aa (.Compare (.Name fX tp) [.Eq] [.BinOp (.BinOp (.List [.Constant (.str rU) n1 p1] p2) .Mult (.Constant (.int 2) n2 p3) p4) .Add (.BinOp (.List [.Constant (.str jI) n3 p5] p6) .Mult (.Constant (.int 2) n4 p7) p8) p9] cp)) pos) (.ret (.pv (PV.bool true))) O:=
 iX.return (Ev.js (Ev.rJ hm hk hd rfl) (Ev.EB (Ev.EB (Ev.one Ev.str rfl) Ev.int .twice) (Ev.EB (Ev.one Ev.str rfl) Ev.int .twice) (zO.PN .val .val (by show 2+2<=sizeLine;decide))) (zO.eqL (.fM hj) .val UJ).1 rfl)
structure nR (I a:Addr) (vs:Array Value) (i:Nat) (c:aM) (s:bb):Prop where
 st:s.heap.IsTupleIter I a i/\s.heap.IsTuple a vs
 pin:∃o,c.pin I=aa o
 fa:∃o,c.F a=aa o
def nR.ne (J:nR I a vs i c s) (R:Rel S c O s.heap):a≠I:=λe=>by let ⟨o,ho⟩:=J.pin;let ⟨o',se⟩:=J.fa;rw[e,(R.pins I o ho).2.1]at se;nomatch se
def nR.keep (J:nR I a vs i c s) (R:Rel S c O s.heap) (R':Rel S c' bv s'.heap) (hF:∀a o,c.F a=aa o->c'.F a=aa o) (hI:c'.pin I=c.pin I):nR I a vs i c' s':=by
 have oS:=J.ne R;let ⟨st,⟨o,ho⟩,⟨oa,hoa⟩⟩:=J;refine⟨(u0 (prog:=pw) (w:=S.w) (A:= {}) rfl I a oS vs).frame i _ _ st λb hb x e=> ?_,⟨o,by rw[hI];exact ho⟩,⟨oa,hF _ _ hoa⟩⟩;rcases aH.mp hb with rfl|hb
 ·have e1:=(R.pins _ _ ho).1;rw[e1]at e;obtain rfl:=ag e;exact(R'.pins b _ (by rw[hI];exact ho)).1
 ·rw[aB]at hb;subst hb;rw[(R.frozen _ _ hoa)]at e;obtain rfl:=ag e;exact R'.frozen _ _ (hF _ _ hoa)
def turn (J:nR I a vs i c s) (hi:vs[i]? =aa v) (hv:cU S.w c ↑O v dv) (hA:jG k A)
  (hE:cY c ↑O ae env) (R:Rel S c O s.heap) (hm:O[ae.fi]? =aa (.ns m0)) (Z1:iU fq dv m0 (LS j dv)) (hk:ae.scope.names.lookup fq=aa .local)
  (dX:∀c1 s1,aM.pO (· =I) ↑O c c1->Rel S c1 (O.set ae.fi (.ns (LS j dv))) s1.heap->dY s s1->nR I a vs (i+1) c1 s1->∀E,wpAny (MM S.w) A (execs body env) (λf s2=>f= .next/\codeAny (MM S.w) A (.forLoop (.Name fq dp) (.ref I) body [] env) Rr s2) E s1):
  codeAny (MM S.w) A (.forLoop (.Name fq dp) (.ref I) body [] env) Rr s:=by
 have oS:=J.ne R;let ⟨st,⟨o,ho⟩,⟨oa,hoa⟩⟩:=J;refine eZ ?_;rw[cy (by rfl)];show wpAny _ A ((forTurn _ _ _ _ env).onRaise (λx=>do noteFrame x env;theTreesLotGoes x)) _ _ s;refine jD ?_;simp only[forTurn];refine am (cV (am (kC ((u0 (prog:=pw) (w:=S.w) (A:=A) hA.hn I a oS vs).item i s _ _ (iT.mp hi).1 st λv' h' tk vZ Sr yh=> ?_))));have e:v'=v:=by have:=vZ.symm.trans hi;injection this
 subst e;left;let ⟨o',se,akI,Xi⟩:=Sr.1;have R1:=R.nv ho (λb x hb e=>yh b x (by simpa using hb) e) se;have l1:aM.pO (· =I) ↑O c (c.nv I o'):=aM.oX;right;refine am (rM se akI rfl _ _ ?_);refine am ((Do.name (j4.loc hm hk Z1 rfl):Do S k O ae (.Name fq dp) dv _).run A (c.nv I o') {s with heap:=h',toks:=tk} env v' hA (hE.pk l1 (ab _)) R1 (hv.j8 (λq q e=>e) (λq q=>rfl) (ab _)) _ _ λc2 s2 l2 R2 K2=> ?_);have J1:nR I a vs (i+1) (c.nv I o') {s with heap:=h',toks:=tk}:=⟨Sr,⟨o',if_pos rfl⟩,⟨oa,hoa⟩⟩;exact am (gb (dX c2 s2 (l1.trans l2.P (ab _)) R2 ((dY.heap s h' tk).trans K2) (J1.keep R1 R2 l2.F (by rw[l2.pin])) _) (λf s3 h3=>by
  let ⟨rfl,h3⟩:=h3;exact aR ⟨rfl,h3⟩) λq q x=>x)
def Qt (J:nR I a vs vs.size c s) (hA:jG k A) (R:Rel S c O s.heap)
  (hq:∀c1 s1,aM.pO (· =I) ↑O c c1->Rel S c1 O s1.heap->dY s s1->Rr (.ok .next) s1):codeAny (MM S.w) A (.forLoop (.Name fq dp) (.ref I) body [] env) Rr s:=by
 have oS:=J.ne R;left;let ⟨st,⟨o,ho⟩,⟨oa,hoa⟩⟩:=J;right;refine eZ ?_;rw[cy (by rfl)];show wpAny _ A ((forTurn _ _ _ _ env).onRaise (λx=>do noteFrame x env;theTreesLotGoes x)) _ _ s;refine jD ?_;simp only[forTurn];refine am (cV (am (kC ((u0 (prog:=pw) (w:=S.w) (A:=A) hA.hn I a oS vs).done s _ _ st λh' tk yh=> ?_))));have hko:∀b x,b≠I->s.heap.get? b=aa x->h'.get? b=aa x:=λb x hb e=>yh b x (by simpa using hb) e;refine aR ⟨rfl,AD (jB ?_)⟩;cases e:h'.get? I with
 |some o'=>exact hq (c.nv I o') {s with heap:=h',toks:=tk} aM.oX (R.nv ho hko e) (dY.heap ..)
 |none=>exact hq {c with pin:=λa=>if a=I then ac else c.pin a} {s with heap:=h',toks:=tk} ⟨λq q e=>e,λq q=>rfl,λa ha=>if_neg ha⟩ (R.GA ho hko) (dY.heap ..)
structure TS (bQ:List AO) (fi j:Nat) (bv:List AO) (m0:List (Str×Option AV)) (L:List PV):Prop where
 len: ↑bv= ↑bQ
 ns:bv[fi]? =aa (.ns m0)
 Oe:bv[j]? =aa (.list L)
 rest:∀x,x≠fi->x≠j->bv[x]? =bQ[x]?
def TS.ne (h:TS bQ fi j bv m0 L):fi≠j:=λe=>by have h1:=h.ns;rw[e,h.Oe]at h1;nomatch h1
def TS.afF (h:TS bQ fi j bv m0 L):TS bQ fi j (bv.set fi (.ns m1)) m1 L:=
 ⟨by rw[bi];exact h.len,bU (getElem?_lt' h.ns),by rw[bE h.ne];exact h.Oe,λx h1 h2=>by rw[bE h1.symm];exact h.rest x h1 h2⟩
def TS.ajx (h:TS bQ fi j bv m0 L):TS bQ fi j (bv.set j (.list L')) m0 L':=
 ⟨by rw[bi];exact h.len,by rw[bE h.ne.symm];exact h.ns,bU (getElem?_lt' h.Oe),λx h1 h2=>by rw[bE h2.symm];exact h.rest x h1 h2⟩
def TS.YI (h:TS bQ fi j bv m0 L) (hj:bQ[j]? =aa (.list aoM)):wA bQ bv:=λx m hx=>by
 by_cases h1:x=fi
 ·subst h1;exact⟨m0,h.ns⟩
 ·have h2:x≠j:=λe=>by rw[e,hj]at hx;nomatch hx
  exact⟨m,by rw[h.rest x h1 h2];exact hx⟩
def xu
  (ts:TS bQ ae.fi j bv m0 L) (hL: ↑L<100000) (J:nR I a vs i c s) (hi:vs[i]? =aa v) (hv:cU S.w c ↑bv v dv) (Z1:iU fq dv m0 (LS j dv)) (Ij:pT ae.scope [fX,fq,jJ]) (Ik:me ae.scope [ah "ValueError",ah "str"]) (ZW:∀(c1:aM) (n1:Nat) (v1:Value),(∀a o,c.F a=aa o->c1.F a=aa o)->cU S.w c1 n1 v1 dv->∃a o fd,v1= .ref a/\c1.F a=aa o/\o.data= .func fd) (gC:(ap.endLine==cp3.line)=true)
  (hA:jG k A) (uM:A.frames=aa (env::l)) (hE:cY c ↑bv ae env) (OQ:env.frame=aa env.locals) (R:Rel S c bv s.heap) (hoI:¬own I)
  (SU:∀nD c1 s1 v1,TS bQ ae.fi j nD (LS j dv) L->aM.pO (· =I) ↑bv c c1->Rel S c1 nD s1.heap->cU S.w c1 ↑nD v1 dv->Fc S nD A c1 s1 (env::l) v1 msg own)
  (aha:∀c1 s1 nD,TS bQ ae.fi j nD (LS j dv) (L++[.str msg])->aM.pO (λx=>x=I\/own x) ↑bv c c1->Rel S c1 nD s1.heap->dY s s1->nR I a vs (i+1) c1 s1->
   codeAny (MM S.w) A (.forLoop (.Name fq OR) (.ref I) [UI dp cp ep vp tp ap sp wpo cp2 cp3 ep2 hp tZ] [] env) Rr s1):
  codeAny (MM S.w) A (.forLoop (.Name fq OR) (.ref I) [UI dp cp ep vp tp ap sp wpo cp2 cp3 ep2 hp tZ] [] env) Rr s:=by
 refine turn J hi hv hA hE R ts.ns Z1 (Ij _ (by walk_at "a")) λc1 s1 l1 R1 K1 J1 E=> ?_;have ts1:=ts.afF (m1:=LS j dv);have ua: ↑(bv.set ae.fi (.ns (LS j dv)))= ↑bv:=bi;generalize bv.set ae.fi (.ns (LS j dv))=lK at R1 ts1 ua;refine da (Qs (own:=own) ts1.ns ts1.Oe hL Ij Ik (λv1 a1=>ZW c1 _ v1 l1.F a1) gC hA uM (by rw[ua];exact hE.pk l1 (ab _)) OQ R1 (λc2 s2 v2 l2 R2 a2=>SU lK c2 s2 v2 ts1 (l1.trans (ua▸l2.P) (ab _)) R2 a2) _ _ λc2 s2 l2 R2 K2=>jB ⟨rfl,?_⟩);exact aha c2 s2 _ ts1.ajx ((⟨l1.F,l1.Z,λa ha=>l1.pin a λe=>ha (.inl e)⟩:aM.pO (λx=>x=I\/own x) ↑bv c c1).trans (⟨l2.F,l2.Z,λa ha=>l2.pin a λe=>ha (.inr e)⟩) (by rw[ua];exact ab _)) R2 (K1.trans K2) (J1.keep R1 R2 l2.F (l2.pin I hoI))
noncomputable abbrev noArgs:Arguments:= {posonlyargs:=[],args:=[],vararg:=ac,kwonlyargs:=[],kw_defaults:=[],kwarg:=ac,defaults:=[]}
abbrev oneArg (p:Pos):Arguments:= {posonlyargs:=[],args:=[⟨sI,ac,p⟩],vararg:=ac,kwonlyargs:=[],kw_defaults:=[],kwarg:=ac,defaults:=[]}
def LU:∀fd:FuncData,fd.params=noArgs->fd.defaults= .none->fd.kwdefaults= .none->bindArgs fd ⟨[],[]⟩=pure []:=λfd h1 h2 h3=>by unfold bindArgs;rw[h1,h2,h3];rfl
def bind1 (p:Pos):∀(fd:FuncData) (v:Value),fd.params=oneArg p->fd.defaults= .none->fd.kwdefaults= .none->bindArgs fd ⟨[v],[]⟩=pure [(sI,v)]:=λfd v h1 h2 h3=>by unfold bindArgs;rw[h1,h2,h3];rfl
def Xb (h:cells.lookup je=aa n):kg cells UG.names []=aa [(je,n)]:=by show kg cells [(je,.free)] []=_;rw[pq,if_pos tt,h];rfl
def Xc (h:cells.lookup nQ=aa n):kg cells (Js f).names []=aa [(nQ,n)]:=by show kg cells [(nQ,.free),(f,.globalImplicit)] []=_;rw[pq,if_pos tt,h];rfl
abbrev bo1 (q1 q2 q3 q4 q5:Pos) (k1 k2:Nat):Expr:= .Call (.Attribute (.Name je q1) "add_header" q2) [.Constant (.str UD) k1 q3,.Constant (.str "b") k2 q4] [] q5
abbrev bo2 (q1 q2 q3 q4 q5:Pos) (k1 k2:Nat):Expr:= .Call (.Attribute (.Name je q1) "add_header" q2) [.Constant (.str "a") k1 q3,.Constant (.str He) k2 q4] [] q5
abbrev bo3 (q1 q2 q3 q4 q5 q6:Pos) (k1 k2:Nat):Expr:= .Call (.Name zo q1) [.Name nQ q2,.Constant (.int 1) k1 q3,.UnaryOp .USub (.Constant (.int 1) k2 q4) q5] [] q6
abbrev bo4 (q1 q2 q3 q4 q5 q6 q7 q8 q9 q10 q11:Pos) (k1 k2:Nat):Expr:= .Call (.Name sz q1) [.Name nQ q2,.Constant (.int 1) k1 q3,.UnaryOp .USub (.Constant (.int 1) k2 q4) q5] [⟨aa gp,.Lambda (oneArg q6) (.UnaryOp .USub (.Name sI q7) q8) W9 q9,q10⟩] q11
abbrev retS (tp p1 p2 p3 p4 p5 p6 p7 p8 p9 cp pos:Pos) (n1 n2 n3 n4:Nat):Stmt:=
 .Return (aa (.Compare (.Name fX tp) [.Eq] [.BinOp (.BinOp (.List [.Constant (.str rU) n1 p1] p2) .Mult (.Constant (.int 2) n2 p3) p4) .Add (.BinOp (.List [.Constant (.str jI) n3 p5] p6) .Mult (.Constant (.int 2) n4 p7) p8) p9] cp)) pos
def Fe (h:cU w c n v (.tz params body scope cells)):∃a o fd,v= .ref a/\c.F a=aa o/\o.data= .func fd:=
 xe34 (qq.fn .mk h) λa o fd e h1 q h2=>⟨a,o,fd,e,h1,h2⟩
def UK (hf:∃o fd,c.F a=aa o/\o.data= .func fd) (h:cU w c n v (.pv (.con (.ref a)))):∃a o fd,v= .ref a/\c.F a=aa o/\o.data= .func fd:=by have e:=h.dn;subst e;left;let ⟨o,fd,h1,h2⟩:=hf;right;exact⟨a,o,fd,rfl,h1,h2⟩
def Ff (Iq:S.yN=true)
  (hm:O[ae.fi]? =aa (.ns [(fX,ac),(fq,ac)])) (hct:O[ct]? =aa (.cell (aa (.inst i)))) (hcr:O[cr]? =aa (.cell (~~~(.lst lr)))) (hi:O[i]? =aa (.attrs [(a6,.fM h)])) (hh:O[h]? =aa (.list hl)) (yP:i≠h)
  (hcT:ae.cells.lookup je=aa ct) (hcR:ae.cells.lookup nQ=aa cr) (og:ae.code=aa 324) (Ij:pT ae.scope [fX,fq,jJ]) (Ik:me ae.scope [ah "ValueError",ah "str"])
  (Xl:(l1.line==wM.line&&l1.col==wM.col)=false) (Mr:(l2.line==wM.line&&l2.col==wM.col)=false) (hp3:(l3.line==wM.line&&l3.col==wM.col)=false) (hp4:l4.line=wM.line) (hp5:l4.col=wM.col)
  (hn1:(a2.endLine==a5.line)=true) (Xr:(c2'.endLine==c5'.line)=true) (hn3:(t6.endLine==t10.line)=true)
  (hA:jG 5 A) (uM:A.frames=aa (env::l)) (hS:qc O c (env::l)) (hE:cY c ↑O ae env) (OQ:env.frame=aa env.locals) (R:Rel S c O s.heap) (E:VS) (Q:Cq->bb->Prop)
  (hQ:∀(own:Addr->Prop) c' bv s',aM.pO own ↑O c c'->(∀a,own a->c.pin a=ac)->Rel S.mn c' bv s'.heap->(∀x,x< ↑O->x≠ae.fi->bv[x]? =O[x]?)-> ↑O<= ↑bv->dY s s'->Q (.ret (.bool true)) s'):
  wpAny (MM S.w) A (execs [.Assign [.Name fX o1] (.List [] o2) o3,.For (.Name fq o4) (.Tuple [.Lambda noArgs (bo1 a1 a2 a3 a4 a5 k1 k2) UG l1,.Lambda noArgs (bo2 c1' c2' c3' c4' c5' k3 k4) UG l2,.Lambda noArgs (bo3 d1 d2 d3 d4 d5 d6 k5 k6) (Js zo) l3,.Lambda noArgs (bo4 e1 e2 e3 e4 e5 e6 e7 e8 e9 ZH ZI k7 k8) (Js sz) l4] kn o5) [UI t1 t2 t3 t4 t5 t6 t7 t8 t9 t10 t11 t12 t13] [] o6,retS r1 r2 r3 r4 r5 r6 r7 r8 r9 r10 r11 r12 m1 m2 m3 m4] env) Q E s:=by
 have hq:((324,320):Addr×Addr)∈cm:=by decide
 have Ks:=getElem?_lt' hm;have h0:iX S 5 O ae (.Assign [.Name fX o1] (.List [] o2) o3) .next ((O++[AO.list []]).set ae.fi (.ns [(fX,aa (.fM ↑O)),(fq,ac)])):=
  iX.assign Ev.newList (j4.loc (gA hm) (Ij _ (by walk_at "a")) iU.here rfl) (λz z=>rfl)
 refine da (h0.run A c s env hA hE R _ _ λc1 v1 s1 le1 R1 K1 f1=> ?_);obtain rfl:=f1.wV;have ts0:TS ((O++[AO.list []]).set ae.fi (.ns [(fX,aa (.fM ↑O)),(fq,ac)])) ae.fi ↑O ((O++[AO.list []]).set ae.fi (.ns [(fX,aa (.fM ↑O)),(fq,ac)])) [(fX,aa (.fM ↑O)),(fq,ac)] []:=
  ⟨rfl,bU (by rw[aj];exact eH ‹_›),by rw[bE (cM ‹_›),aE (ab _),dc];rfl,λz z z=>rfl⟩
 have pre:∀x,x< ↑O->x≠ae.fi->((O++[AO.list []]).set ae.fi (.ns [(fX,aa (.fM ↑O)),(fq,ac)]))[x]? =O[x]? :=λx hx h1=>by rw[bE h1.symm,aW hx]
 have cI:((O++[AO.list []]).set ae.fi (.ns [(fX,aa (.fM ↑O)),(fq,ac)])).length= ↑O+1:=by rw[bi,aj];rfl
 generalize (O++[AO.list []]).set ae.fi (.ns [(fX,aa (.fM ↑O)),(fq,ac)])=bQ at R1 ts0 pre cI;have nf:∀ {x:Nat} {o:AO},O[x]? =aa o->(∀m,o≠ .ns m)->x≠ae.fi/\x≠ ↑O/\bQ[x]? =aa o:=λ{x o} hx ho=>by
  have h1:x≠ae.fi:=λe=>by rw[e,hm]at hx;obtain rfl:=ag hx;exact ho _ rfl
  have h2:=getElem?_lt' hx;exact⟨h1,by exact cM ‹_›,by rw[pre x h2 h1];exact hx⟩
 have xct:=nf hct (λm e=>by nomatch e);have xcr:=nf hcr (λm e=>by nomatch e);have xi:=nf hi (λm e=>by nomatch e);have xh:=nf hh (λm e=>by nomatch e);have wB: ↑O<= ↑bQ:=by simp_all
 have E1:cY c1 ↑bQ ae env:=hE.mono le1 wB;have akJ:wA O bQ:=λx m hx=>by
  by_cases h1:x=ae.fi
  ·subst h1;exact⟨_,ts0.ns⟩
  ·exact⟨m,by rw[pre x (getElem?_lt' hx) h1];exact hx⟩
 refine da (OS ?_ (λz=>rfl));refine sN (k:=kn) ?_;show wpAny _ A (spliced [(false,eval (.Lambda noArgs (bo1 a1 a2 a3 a4 a5 k1 k2) UG l1) env),(false,eval (.Lambda noArgs (bo2 c1' c2' c3' c4' c5' k3 k4) UG l2) env),(false,eval (.Lambda noArgs (bo3 d1 d2 d3 d4 d5 d6 k5 k6) (Js zo) l3) env),(false,eval (.Lambda noArgs (bo4 e1 e2 e3 e4 e5 e6 e7 e8 e9 ZH ZI k7 k8) (Js sz) l4) env)]) _ _ s1;refine bX ((Ev.EY (k:=5) hq og (λz z=>Xl) (λz=>rfl) (Xb hcT)).run A c1 s1 env hA E1 R1 _ _ λc2 v2 s2 Yp R2 K2 x2=> ?_);refine bX ((Ev.EY (k:=5) hq og (λz z=>Mr) (λz=>rfl) (Xb hcT)).run A c2 s2 env hA (E1.mono Yp (ab _)) R2 _ _ λc3 v3 s3 le3 R3 K3 x3=> ?_);have ahd:=Yp.trans le3 (ab _);refine bX ((Ev.EY (k:=5) hq og (λz z=>hp3) (λz=>rfl) (Xc hcR)).run A c3 s3 env hA (E1.mono ahd (ab _)) R3 _ _ λc4 v4 s4 le4 R4 K4 x4=> ?_);have VL:=ahd.trans le4 (ab _);refine bX (Nr Iq og (λz=>rfl) (Xc hcR) (by simp) hp4 hp5 (E1.mono VL (ab _)) R4 _ _ λc5 b5 cc P s5 Tv hPn R5 K5 X5 XC akL Z2=> ?_);refine eA ⟨by show 4<=sizeLine;decide,?_⟩;have R6:=R5.sW (T:= "tuple") (vs:= #[v2,v3,v4,.ref b5]);have hF6:(c5.put s5.heap.objs.size {cls:= .type "tuple",data:= .seq #[v2,v3,v4,.ref b5]}).F s5.heap.objs.size=aa {cls:= .type "tuple",data:= .seq #[v2,v3,v4,.ref b5]}:=if_pos rfl;have My:aM.le ↑bQ c5 (c5.put s5.heap.objs.size {cls:= .type "tuple",data:= .seq #[v2,v3,v4,.ref b5]}):=aM.dC (R5.oz (ab s5.heap.objs.size));generalize hc6:c5.put s5.heap.objs.size {cls:= .type "tuple",data:= .seq #[v2,v3,v4,.ref b5]}=c6 at R6 hF6 My;refine Cm ⟨_,aV _ rfl,rfl,_,rfl⟩ ?_;generalize hs6:({s5 with heap:=s5.heap.push {cls:= .type "tuple",data:= .seq #[v2,v3,v4,.ref b5]}}:bb)=s6;have akN:s6.heap=s5.heap.push {cls:= .type "tuple",data:= .seq #[v2,v3,v4,.ref b5]}:=by rw[<- hs6]
 rw[<- akN]at R6;have R7:=R6.I5 (o:= {cls:= .type "tuple_iterator",data:= .fields #[.ref s5.heap.objs.size,.int 0 0]}) rfl;have hI7:=aM.lF c6 s6.heap.objs.size {cls:= .type "tuple_iterator",data:= .fields #[.ref s5.heap.objs.size,.int 0 0]};have It:aM.pO (· =s6.heap.objs.size) ↑bQ c6 (c6.pinned [(s6.heap.objs.size,{cls:= .type "tuple_iterator",data:= .fields #[.ref s5.heap.objs.size,.int 0 0]})]):=aM.vF;have SY:=R6.free (ab s6.heap.objs.size);have hPI:P≠s6.heap.objs.size:=λe=>by have h1:=(R6.pins P _ (My.pin▸XC)).1;exact absurd e (cM (bW h1))
 generalize hc7:c6.pinned [(s6.heap.objs.size,{cls:= .type "tuple_iterator",data:= .fields #[.ref s5.heap.objs.size,.int 0 0]})]=c7 at R7 hI7 It;generalize hI:s6.heap.objs.size=I at R7 hI7 It SY hPI;have Z3:aM.pO (λx=>x=I\/x=P) ↑bQ c1 c7:=by exact((VL.P.trans (⟨Tv.F,Tv.Z,λa ha=>Tv.pin a λe=>ha (.inr e)⟩) (ab _)).trans My.P (ab _)).trans (⟨It.F,It.Z,λa ha=>It.pin a λe=>ha (.inl e)⟩) (ab _)
 have y2:=x2.j8 (λa o e=>It.F _ _ (My.F _ _ (Tv.F _ _ (le4.F _ _ (le3.F _ _ e))))) (λx hx=>by rw[It.Z x hx,My.Z x hx,Tv.Z x hx,le4.Z x hx,le3.Z x hx]) (ab _);have y4:=x4.j8 (c':=c7) (λa o e=>It.F _ _ (My.F _ _ (Tv.F _ _ e))) (λx hx=>by rw[It.Z x hx,My.Z x hx,Tv.Z x hx]) (ab _);have X7:rg c7 b5 cc noArgs _ (Js sz) [(nQ,cr)]:=X5.mono (n:= ↑bQ) (λa o e=>It.F _ _ (My.F _ _ e)) (λx hx=>by rw[It.Z x hx,My.Z x hx]) Z2;have y5:=X7.val (w:=S.w) Z2;have akO:uh c7.F cc P:=by left;let ⟨o,Vz,KQ,tf,Cz,tg,Zt,text,tt,f0,r⟩:=akL;right;exact⟨o,Vz,KQ,tf,Cz,tg,Zt,text,tt,It.F _ _ (My.F _ _ f0),r⟩
 have E7:cY c7 ↑bQ ae env:=E1.pk Z3 (ab _);generalize hs7:({s6 with heap:=s6.heap.push {cls:= .type "tuple_iterator",data:= .fields #[.ref s5.heap.objs.size,.int 0 0]}}:bb)=s7;have akP:s7.heap=s6.heap.push {cls:= .type "tuple_iterator",data:= .fields #[.ref s5.heap.objs.size,.int 0 0]}:=by rw[<- hs7]
 rw[<- akP]at R7;have J7:nR I s5.heap.objs.size #[v2,v3,v4,.ref b5] 0 c7 s7:=by refine⟨⟨⟨_,(R7.pins I _ hI7).1,rfl,rfl⟩,⟨_,R7.frozen _ _ (It.F _ _ hF6),rfl,_,rfl⟩⟩,⟨_,hI7⟩,⟨_,It.F _ _ hF6⟩⟩
 have hA3:jG 3 A:=hA.le ∅;have XD:∀ {nD:List AO} {m0:List (Str×Option AV)} {L:List PV} {x:Nat} {o:AO},TS bQ ae.fi ↑O nD m0 L->(x≠ae.fi/\x≠ ↑O/\bQ[x]? =aa o)->nD[x]? =aa o:=λ{nD m0 L x o} ts hx=>by rw[ts.rest x hx.1 hx.2.1];exact hx.2.2
 have stk:∀ {own:Addr->Prop} {nD:List AO} {m0:List (Str×Option AV)} {L:List PV} {c':aM},TS bQ ae.fi ↑O nD m0 L->aM.pO own ↑bQ c7 c'->qc nD c' (env::l):=λ{own nD m0 L c'} ts lx=>((hS.step akJ le1).LR (wA.refl _) Z3).LR (ts.YI ts0.Oe) lx;refine xu (S:=S.mn) (own:=λz=>False) (i:=0) (msg:=rU) ts0 ∅ J7 rfl y2 (iU.there iU.here) Ij Ik (λz z z z ax=>Fe ax) hn3 hA uM E7 OQ R7 (λh=>h) (λnD cx sx vx ts lx Rx ax=> ?_) λc8 s8 σ8 ts8 le8 R8 K8 J8=> ?_
 ·exact Fc.tz (k:=2) LU (by decide+kernel) rfl rfl rfl (yA.d1 (XD ts xct) (XD ts xi) (XD ts xh) yP hn1) hA3 uM (stk ts lx) Rx ax
 have g8:aM.pO (λx=>x=I\/False) ↑bQ c7 c8:=le8;refine xu (S:=S.mn) (own:=λz=>False) (i:=1) (msg:=rU) ts8 ∅ J8 rfl ((x3.j8 (c':=c7) (λa o e=>It.F _ _ (My.F _ _ (Tv.F _ _ (le4.F _ _ e)))) (λx hx=>by rw[It.Z x hx,My.Z x hx,Tv.Z x hx,le4.Z x hx]) (ab _)).j8 g8.F g8.Z (fb ts8.len.symm)) (iU.there iU.here) Ij Ik (λz z z z ax=>Fe ax) hn3 hA uM (by exact ts8.len▸(E7.pk le8 (ab _))) OQ R8 (λh=>h) (λnD cx sx vx ts lx Rx ax=> ?_) λc9 s9 σ9 ts9 le9 R9 K9 J9=> ?_
 ·exact Fc.tz (k:=2) LU (by decide+kernel) rfl rfl rfl (yA.d2 (XD ts xct) (XD ts xi) (XD ts xh) yP Xr) hA3 uM (stk ts (g8.trans (own:=λx=>x=I\/False) ⟨lx.F,λx hx=>lx.Z x (by rw[ts8.len];exact hx),λa ha=>lx.pin a λe=>ha (.inl e)⟩ (ab _))) Rx ax
 have g9:aM.pO (λx=>x=I\/False) ↑bQ c7 c9:=g8.trans le9 (ts8.len▸(ab _));refine xu (S:=S.mn) (own:=λz=>False) (i:=2) (msg:=jI) ts9 ∅ J9 rfl (y4.j8 g9.F g9.Z (fb ts9.len.symm)) (iU.there iU.here) Ij Ik (λz z z z ax=>Fe ax) hn3 hA uM (by rw[ts9.len];exact E7.pk g9 (ab _)) OQ R9 (λh=>h) (λnD cx sx vx ts lx Rx ax=> ?_) λc10 s10 ao4 VM akQ R10 K10 J10=> ?_
 ·exact Fc.tz (k:=2) LU (by decide+kernel) rfl rfl rfl (yA.d3 (XD ts xcr)) hA3 uM (stk ts (g9.trans (own:=λx=>x=I\/False) ⟨lx.F,λx hx=>lx.Z x (by rw[ts9.len];exact hx),λa ha=>lx.pin a λe=>ha (.inl e)⟩ (ab _))) Rx ax
 have g10:aM.pO (λx=>x=I\/False) ↑bQ c7 c10:=g9.trans akQ (ts9.len▸(ab _));refine xu (S:=S.mn) (own:=(· =P)) (i:=3) (msg:=jI) VM ∅ J10 rfl (.pv (.con (.ref b5))) (iU.there iU.here) Ij Ik (λcx z vx hF ax=>UK (xe24 (X7.obj) λo fd f1 z f2 z=>⟨o,fd,hF _ _ (g10.F _ _ f1),f2⟩) ax) hn3 hA uM (by rw[VM.len];exact E7.pk g10 (ab _)) OQ R10 (λh=>hPI h.symm) (λnD cx sx vx ts lx Rx ax=> ?_) λc11 s11 akR KC akS R11 K11 J11=> ?_
 ·have gx:aM.pO (λx=>x=I\/False) ↑bQ c7 cx:=g10.trans (own:=λx=>x=I\/False) ⟨lx.F,λx hx=>lx.Z x (by rw[VM.len];exact hx),λa ha=>lx.pin a λe=>ha (.inl e)⟩ (ab _);have ex:=ax.dn;subst ex;exact afE (XD ts xcr) (X7.mono (n:= ↑bQ) gx.F gx.Z Z2) LU (bind1 e6) (λz=>rfl) hA3 uM (stk ts gx) Rx ((gx.pin P (λh=>by rcases h with h|h;exact hPI h;exact h)).trans (by rw[It.pin P hPI,My.pin];exact XC)) (by
   left;let ⟨o,Vz,KQ,tf,Cz,tg,Zt,text,tt,f0,r⟩:=akO;right;exact⟨o,Vz,KQ,tf,Cz,tg,Zt,text,tt,gx.F _ _ f0,r⟩)
 have akT:aM.pO (λx=>x=I\/x=P) ↑bQ c7 c10:=⟨g10.F,g10.Z,λa ha=>g10.pin a λh=>by rcases h with h|h;exact ha (.inl h);exact h⟩;refine Qt (S:=S.mn) J11 hA R11 λc12 s12 Z4 R12 K12=> ?_;have g12:aM.pO (λx=>x=I\/x=P) ↑bQ c7 c12:=(akT.trans akS (VM.len▸(ab _))).trans (own:=λx=>x=I\/x=P) ⟨Z4.F,λx hx=>Z4.Z x (by rw[KC.len];exact hx),λa ha=>Z4.pin a λe=>ha (.inl e)⟩ (ab _);show wpAny _ A (execs [retS r1 r2 r3 r4 r5 r6 r7 r8 r9 r10 r11 r12 m1 m2 m3 m4] env) Q E s12;refine da ((iX.YH (S:=S.mn) (k:=5) KC.ns (by walk_at "a") (Ij _ (by walk_at "a")) KC.Oe).run A c12 s12 env hA (by exact KC.len▸(E7.pk g12 (ab _))) R12 _ _ λc13 v13 s13 S0 R13 K13 f13=> ?_);have h9:=f13.MJ;clear f13;let ⟨_,q,f13⟩:=h9;cases q;have e13:=f13.dn;subst e13;refine hQ (λx=>x=I\/x=P) c13 akR s13 ((le1.P.trans (Z3.trans (g12.trans (own:=λx=>x=I\/x=P) (m:= ↑bQ) ⟨S0.F,λx hx=>S0.Z x (by rw[KC.len];exact hx),λa ha=>by rw[S0.pin]⟩ (ab _)) (ab _)) wB)) (λa ha=> ?_) R13 (λx hx h1=>by rw[KC.rest x h1 (cM ‹_›)];exact pre x hx h1) (KC.len▸wB) (K1.trans (((((K2.trans K3).trans K4).trans K5).trans ((by exact hs6▸(.gF ..):dY s5 s6).trans (hs7▸(.gF ..)))).trans ((((K8.trans K9).trans K10).trans K11).trans (K12.trans K13))));rcases ha with rfl|rfl
 ·rw[<- le1.pin,<- VL.pin,<- Tv.pin _ hPI.symm,<- My.pin];exact SY.pin
 ·rw[<- le1.pin,<- VL.pin];exact hPn
def YJ:bj∈fW:=by unfold fW;walk_at "a"
def Hi:pT bj.scope [fX,fq,jJ]:=pT.of tt
def Hj:me bj.scope [ah "ValueError",ah "str"]:=me.of tt
def CW (n:Nat):cellsFrom (n+1) bj.scope.names []=[(nQ,n+2),(je,n+1)]\/cellsFrom (n+1) bj.scope.names []=[(je,n+1),(nQ,n+2)]:=by
 first
 |exact .inl rfl
 |exact .inr rfl
def Jt (Iq:S.yN=true) (hi:O[i]? =aa (.attrs [(a6,.fM h)])) (hh:O[h]? =aa (.list l)) (yP:i≠h) (hA:jG 6 A) (hS:Stk O c A) (R:Rel S c O s.heap)
  (h1:cU S.w c ↑O v1 (.inst i)) (h2:cU S.w c ↑O v2 (.pv (.lst lr))) (E:VS) (Q:VS) (hQ:∀c' s',aM.le ↑O c c'->Rel S.mn c' O s'.heap->dY s s'->Q (.bool true) s'):wpAny (MM S.w) A (call (.ref 325) [v1,v2]) Q E s:=by
 left;let ⟨fs,hl,hSL⟩:=hS;let ⟨o,pm,ho,FR,Ck,C7⟩:=R.fn YJ;have VH:bj.scope.isCoroutine=false:=rfl;have FV:bj.scope.isGenerator=false:=rfl;have qx:bj.scope.kind= .function:=rfl;have gr:bindArgs (bj.fd pm) ⟨[v1,v2],[]⟩=pure [(je,v1),(nQ,v2)]:=by with_unfolding_all rfl
 right;refine v8 ?_;refine Tw (fd:=bj.fd pm) (body:=bj.body) hA.room ho Ck VH FV rfl C7 (i6 gr ?_);show wpAny _ _ (newFunctionEnv bj.scope 3 [] [(je,v1),(nQ,v2)] _ (aa bj.addr) (.ref bj.code) ac 0) _ _ _;simp only[newFunctionEnv,MB,fu,if_false];refine am (Ge ?_);refine am (KG _ (λname kind cells=>by cases hkc:kind==kZ<;>simp[hkc]) _ _ _ _ ?_);have R1:Rel S (c.own ↑O s.heap.objs.size) (O++[.ns [(fX,ac),(fq,ac)]]) (s.heap.push {cls:= .type "frame",data:= .dict #[]}):=
  R.AR (λb o e=>aJ _ e) (ab _) (aV _ rfl) (.ns (es:= #[]) (ep:=0) rfl (λe he=>by simp at he) ∅
   (λx d hx=>by simp at hx) λx q=>rfl)
 have l1:aM.le ↑O c (c.own ↑O s.heap.objs.size):=aM.jb;generalize hc1:c.own ↑O s.heap.objs.size=c1 at R1 l1;have uM:c1.Z ↑O=s.heap.objs.size:=by exact hc1▸(aM.ma ..)
 have ua: ↑(O++[AO.ns [(fX,ac),(fq,ac)]])= ↑O+1:=by rw[aj,be]
 left;let ⟨c2,l2,R2,mQ,FN⟩:=Rel.Bd bj.scope.names [] R1 (λp hp=>by nomatch hp);right;rw[ua]at mQ FN l2;have hnC:fg bj.scope.names=2:=rfl;have akU:O++[AO.ns [(fX,ac),(fq,ac)]]++bR (fg bj.scope.names) (AO.cell ac)=O++[.ns [(fX,ac),(fq,ac)],.cell ac,.cell ac]:=by rw[hnC];simp
 rw[akU]at R2;rw[hnC]at FN;have zE: ↑(O++[AO.ns [(fX,ac),(fq,ac)],.cell ac,.cell ac])= ↑O+3:=by rw[aj];rfl
 rw[zL]at mQ;generalize hH:({s with heap:=s.heap.push {cls:= .type "frame",data:= .dict #[]}}:bb)=s1;have ZD:s1.heap=s.heap.push {cls:= .type "frame",data:= .dict #[]}:=by rw[<- hH]
 rw[<- ZD]at mQ R2;rw[mQ];have Iu:(cellsFrom (↑O+1) bj.scope.names []).lookup je=aa (↑O+1)/\(cellsFrom (↑O+1) bj.scope.names []).lookup nQ=aa (↑O+2):=by rcases CW ↑O with e|e<;>rw[e]<;>exact⟨rfl,rfl⟩
 have H9:cY c2 (↑O+3) (gB bj ↑O) {scope:=bj.scope,locals:=s.heap.objs.size,globals:=3,cells:=(cellsFrom (↑O+1) bj.scope.names []).map (λp=>(p.1,c2.Z p.2)),qual:=(bj.fd pm).qualname++ ".<locals>.",func:=aa bj.addr,code:= .ref bj.code,frame:=aa s.heap.objs.size,builtins:=0}:= {
  scope:=rfl
  kind:=qx
  locals:=by show s.heap.objs.size=c2.Z ↑O;rw[l2.Z _ (ab _),uM]
  fi:=by show ↑O< ↑O+3;simp
  globals:=rfl
  builtins:=rfl
  cells:=rfl
  jr:=λp hp=>by have:=FN p hp;assumption
  code:=λa e=>by obtain rfl:=ag e;rfl
  frame:=⟨_,rfl⟩}
 have uL:aM.le ↑O c c2:=l1.trans l2 (bh _ _);have K1:dY s {s1 with heap:=pushCells s1.heap bj.scope.names}:=by rw[<- hH];exact .gF ..
 have rz:jX S (gB bj ↑O) (O++[.ns [(fX,ac),(fq,ac)],.cell ac,.cell ac]) [(je,.inst i),(nQ,.pv (.lst lr))] (O++[.ns [(fX,ac),(fq,ac)],.cell (aa (.inst i)),.cell (~~~(.lst lr))]):=
  .cons (j4.cell (i:= ↑O+1) (by show gO je bj.scope.names=_;exact so) Iu.1 (yn rfl) (Lj (.succ .zero))) (.cons (j4.cell (i:= ↑O+2) (by show gO nQ bj.scope.names=_;exact so) Iu.2 (yn rfl) (Lj (.succ (.succ .zero)))) .nil)
 rw[<- zE]at H9;have hvv:dg S.w c2 ↑(O++[AO.ns [(fX,ac),(fq,ac)],.cell ac,.cell ac]) [v1,v2] [.inst i,.pv (.lst lr)]:= .cons (h1.mono uL (by simp)) (.cons (h2.mono uL (by simp)) .nil);refine am (rz.run _ c2 {s1 with heap:=pushCells s1.heap bj.scope.names} _ [(je,v1),(nQ,v2)] _ (λq q q=>rfl) H9 R2 rfl hvv _ _ λc3 s3 l3 R3 K3=>aR ⟨R3.lim,codeAny_func ?_⟩);have Zw:=H9.mono l3 rz.len;rw[zE]at l3;have l8:aM.le ↑O c c3:=uL.trans l3 (bh _ _);generalize KA:({scope:=bj.scope,locals:=s.heap.objs.size,globals:=3,cells:=(cellsFrom (↑O+1) bj.scope.names []).map (λp=>(p.1,c2.Z p.2)),qual:=(bj.fd pm).qualname++ ".<locals>.",func:=aa bj.addr,code:= .ref bj.code,frame:=aa s.heap.objs.size,builtins:=0}:lY)=env at Zw;have OQ:env.frame=aa env.locals:=by rw[<- KA]
 have VE:env.frame=aa (c3.Z ↑O):=by rw[<- KA,l3.Z _ (by simp),l2.Z _ (ab _),uM]
 have hkm:env.scope.kind≠ .module:=by rw[<- KA];show bj.scope.kind≠_;rw[qx];decide
 have ZS:(A.deeper env).frames=aa (env::fs):=by show A.frames.map (env:: ·)=_;rw[hl];rfl
 have hS3:qc (O++[.ns [(fX,ac),(fq,ac)],.cell (aa (.inst i)),.cell (~~~(.lst lr))]) c3 (env::fs):=λe he=>by
  rcases aH.mp he with rfl|he
  ·exact⟨hkm,↑O,_,VE,yn (j:=0) rfl⟩
  ·exact qc.step hSL (wA.CA O _) l8 e he
 have ahi: ↑(O++[AO.ns [(fX,ac),(fq,ac)],.cell (aa (.inst i)),.cell (~~~(.lst lr))])= ↑O+3:=by rw[aj];rfl
 refine Ff (ae:=gB bj ↑O) Iq (ct:= ↑O+1) (cr:= ↑O+2) (yn (j:=0) rfl) (yn rfl) (yn rfl) (gA hi) (gA hh) yP Iu.1 Iu.2 rfl Hi Hj rfl rfl rfl rfl rfl rfl rfl rfl hA.deeper ZS hS3 Zw OQ R3 _ _ λown c4 σ4 s4 l4 ho4 R4 ahj akV K4=> ?_;rw[ahi]at l4 ahj akV;have l04:aM.pO own ↑O c c4:=l8.P.trans l4 (bh _ _);let ⟨u1,u2⟩:=l04.GB (λa ha=>by exact l8.pin▸(ho4 a ha));let ⟨τ,rfl⟩:=rP (O:=O) (bv:=σ4) (λx hx=>by
  rw[ahj x (by solve_by_elim (maxDepth:=4) [ce,a8,bB,aA,fQ,jn,bh,cJ]) (by show x≠ ↑O;exact cM ‹_›),aW hx])
 exact hQ (c4.gM c) s4 u2 (R.mn.drop (R4.gM u1) rfl λq q h=> .inl h) ((K1.trans K3).trans K4)
def TrO (S:cz) (O:List AO) (A:cS) (c:aM) (s:bb) (t:z0 Value) (d:AV) (bv:List AO):Prop:=
 ∀(E:VS) (Q:VS),(∀c' v s',aM.le ↑O c c'->Rel S.mn c' bv s'.heap->dY s s'->cU S.w c' ↑bv v d->Q v s')->wpAny (MM S.w) A t Q E s
structure afG (S:cz) (k:Nat) (O:List AO) (ae:iv) (st:Stmt) (f:nY) (bv:List AO):Prop where
 len: ↑O<= ↑bv
 run:∀A c s env,jG k A->Top A env->0<s.toks->cY c ↑O ae env->Rel S c O s.heap->∀(E:VS) (Q:Cq->bb->Prop),
  (∀c' v s',aM.le ↑O c c'->Rel S.mn c' bv s'.heap->dY s s'->sH S.w c' ↑bv v f->Q v s')->wpAny (MM S.w) A (exec st env) Q E s
structure zp (S:cz) (k:Nat) (O:List AO) (ae:iv) (Vy:List Stmt) (f:nY) (bv:List AO):Prop where
 len: ↑O<= ↑bv
 run:∀A c s env,jG k A->Top A env->0<s.toks->cY c ↑O ae env->Rel S c O s.heap->∀(E:VS) (Q:Cq->bb->Prop),
  (∀c' v s',aM.le ↑O c c'->Rel S.mn c' bv s'.heap->dY s s'->sH S.w c' ↑bv v f->Q v s')->wpAny (MM S.w) A (execs Vy env) Q E s
def zp.cons (h1:EvK S k O ae st .next bw) (h2:zp S k bw ae rest f bQ):zp S k O ae (st::rest) f bQ:=
 ⟨aA h1.len h2.len,λA c s env hA hF ht hE R E Q hQ=>da (mE (n:=1) ht (h1.run A c s env hA hF ht hE R _ _ λc1 v1 s1 l1 R1 K1 f1=>by
  intro Kr;obtain rfl:=f1.wV;exact h2.run A c1 s1 env hA hF Kr (hE.mono l1 h1.len) R1 _ _ λc2 v2 s2 l2 R2 K2 f2=>hQ c2 v2 s2 (l1.trans l2 h1.len) R2 (K1.trans K2) f2))⟩
def zp.turn (h1:afG S k O ae st .next bw) (h2:E9 S.mn k bw ae rest f bQ):zp S k O ae (st::rest) f bQ:=
 ⟨aA h1.len h2.len,λA c s env hA hF ht hE R E Q hQ=>da (mE (n:=1) ht (h1.run A c s env hA hF ht hE R _ _ λc1 v1 s1 l1 R1 K1 f1=>by
  intro Kr;obtain rfl:=f1.wV;exact h2.run A c1 s1 env hA hF Kr (hE.mono l1 h1.len) R1 _ _ λc2 v2 s2 l2 R2 K2 f2=>hQ c2 v2 s2 (l1.trans l2 h1.len) R2 (K1.trans K2) f2))⟩
def zp.ret (h1:EvK S k O ae st (.ret d) bw):zp S k O ae (st::rest) (.ret d) bw:=
 ⟨h1.len,λA c s env hA hF ht hE R E Q hQ=>da (h1.run A c s env hA hF ht hE R _ _ λc1 v1 s1 l1 R1 K1 f1=>by
  let ⟨_,q,f2⟩:=f1.MJ;cases q;exact hQ c1 _ s1 l1 R1.mn K1 (.ret f2))⟩
def Ev.refused (Iq:S.yN=true) (hf:nL S k O ae (.Name f np) (.con (.ref 325))) (h1:Ev S k O ae et (.inst i) O) (h2:nL S k O ae er (.lst lr)) (n1:notStar et=true) (n2:notStar er=true)
  (hi:O[i]? =aa (.attrs [(a6,.fM h)])) (hh:O[h]? =aa (.list l)) (yP:i≠h) (Ks:∃m,O[ae.fi]? =aa (.ns m)) (hk:6<=k):∀A c s env,jG k A->Top A env->cY c ↑O ae env->Rel S c O s.heap->TrO S O A c s (eval (.Call (.Name f np) [et,er] [] pos) env) (.pv (PV.bool true)) O:=by
 intro A c s env hA hT hE R E Q hQ;refine cn (hf.run A c s env hA hE R _ _ λc1 v1 s1 l1 R1 K1 a1=> ?_);have e':=a1.dn;subst e';left;let ⟨of,pm,Kx,Om,FW,_⟩:=R1.fn (r:=bj) (by unfold fW;walk_at "a");right;refine fI (o:=of) (fd:=bj.fd pm) ?_;refine ef (.cons h1 (.cons h2 .nil n2) n1) _ pos A c1 s1 env hA (hE.mono l1 (ab _)) R1 _ _ λc2 vs s2 l2 R2 K2 a2=> ?_;have Ky:s2.heap.get? 325=aa of:=by let ⟨FK,_,h0,_,_,_⟩:=S.fns bj (by unfold fW;walk_at "a");have x2:=R2.old h0 ∅;rw[(R1.old h0 ∅)]at Kx;obtain rfl:=ag Kx;exact x2
 refine⟨⟨Ky,FW⟩,?_⟩;have h9:=a2.i1;clear a2;let ⟨va,_,rfl,b1,a2⟩:=h9;have h9:=a2.i1;clear a2;let ⟨vb,_,rfl,b2,a2⟩:=h9;obtain rfl:=a2.i0;have uL:=l1.trans l2 (ab _);have hS:Stk O c2 A:=by refine⟨[env],hT.frames,λe he=> ?_⟩;rw[aB]at he;subst he;let ⟨m,hm⟩:=Ks;refine⟨?_,ae.fi,m,by rw[hT.frame,(hE.mono uL (ab _)).locals],hm⟩;rw[hE.scope,hE.kind];decide
 exact Jt Iq hi hh yP (hA.le hk) hS R2 b1 b2 E Q λc3 s3 l3 R3 K3=>hQ c3 _ s3 (uL.trans l3 (ab _)) R3 ((K1.trans K2).trans K3) (.pv (.con _))
section
variable {lay:Lay}
def Qu (S:cz) (k:Nat) (lay:Lay) (s:Stmt) (F:St->Option (pu×St)):Prop:=
 ∀p O st fl cf,At lay p st O->F st=aa (fl,cf)->∃bv,fl= .next/\afG S k O (lay.en p) s .next bv/\At lay p cf bv/\kr lay p st cf O bv
def g7 (S:cz) (k:Nat) (lay:Lay) (ss:List Stmt) (F:St->Option (pu×St)):Prop:=
 ∀p O st fl cf,At lay p st O->F st=aa (fl,cf)->∃bv,zp S k O (lay.en p) ss (fl.af p.oi) bv/\At lay p cf bv/\kr lay p st cf O bv
def g7.cons (h1:jd S k lay s f) (h2:g7 S k lay ss g):g7 S k lay (s::ss) (aC f g):=by
 intro p O st fl cf bc hf;rcases qX hf with⟨st1,e,hf⟩|⟨v,e,rfl⟩
 ·left;let ⟨lK,a1,b1,c1⟩:=h1 p O st _ st1 bc e;let ⟨uV,a2,b2,c2⟩:=h2 p lK st1 _ cf b1 hf;right;exact⟨uV,.cons a1 a2,b2,c1.trans c2 bc⟩
 ·let ⟨lK,a1,b1,c1⟩:=h1 p O st _ _ bc e;exact⟨lK,.ret a1,b1,c1⟩
def g7.turn (h1:Qu S k lay s f) (h2:tE S.mn k lay ss g):g7 S k lay (s::ss) (aC f g):=by
 intro p O st fl cf bc hf;rcases qX hf with⟨st1,e,hf⟩|⟨v,e,rfl⟩
 ·left;let ⟨lK,_,a1,b1,c1⟩:=h1 p O st _ st1 bc e;let ⟨uV,a2,b2,c2⟩:=h2 p lK st1 _ cf b1 hf;right;exact⟨uV,.turn a1 a2,b2,c1.trans c2 bc⟩
 ·left;let ⟨lK,h,_⟩:=h1 p O st _ _ bc e;right;cases h
def xv (i j:Nat) (a b t r:EF) (st:St):Option (pu×St):=((a st).bind CV.aP).bind λva=>((b st).bind I3).bind λx=>(t st).bind λtv=>((r st).bind CV.aL).bind λq=>(st.Jn tv).map λq=>(.next,ie i (.pv va) (ie j (.pv (PV.bool x)) st))
def jd.refused (Iq:S.yN=true) (hk:6<=k) (hf:lay.mh f=true) (hg:(f,aa (.ref 325))∈cg)
  (h1:cT S k lay ea a) (h2:cT S k lay eb b) (h3:cT S k lay et t) (h4:cT S k lay er r) (hx:lay.nq i x=true) (hy:lay.nq j y=true)
  (n1:notStar ea=true) (n3:notStar et=true) (n4:notStar er=true)
  (hw:(λenv:lY=>swappedStores [.Tuple [.Name x px,.Name y py] n tp] (.Tuple [ea,.BoolOp .And [eb,.Call (.Name f np) [et,er] [] fp] bp] m vp) {env with scope:=lay.scope})=λq=>pure (aa [x,y])):
  Qu S k lay (.Assign [.Tuple [.Name x px,.Name y py] n tp] (.Tuple [ea,.BoolOp .And [eb,.Call (.Name f np) [et,er] [] fp] bp] m vp) pos) (xv i j a b t r):=by
 intro p O st fl cf bc Sx;refine a9 Sx λva ha Sx=>a9 ha λq ha e1=>a9 Sx λxb hb Sx=>a9 hb λq hb e2=>a9 Sx λtv ht Sx=>a9 Sx λlr hr Sx=>a9 hr λq hr e3=> ?_;rw[CV.kP e1]at ha;rw[rK e2]at hb;rw[CV.kL e3]at hr
 ·let ⟨⟨hh,l⟩,hq,e⟩:=ar.mp Sx;let ⟨rfl,rfl⟩:=bH e;left;let ⟨i0,e1,e2,e3,e4⟩:=bc.Jn hq;have h3':=h3 p O st _ bc ht;right;rw[e1]at h3';have So:=Ev.refused Iq (np:=np) (pos:=fp) (Ev.Gx hf hg) h3' (h4 p O st _ bc hr) n3 n4 e2 e3 e4 ⟨_,bc.frame⟩ hk;have hand:∀A c s env,jG k A->Top A env->cY c ↑O (lay.en p) env->Rel S c O s.heap->TrO S O A c s (eval (.BoolOp .And [eb,.Call (.Name f np) [et,er] [] fp] bp) env) (.pv (PV.bool xb)) O:=by
   intro A c s env hA hT hE R E Q hQ;rw[show eval (.BoolOp .And [eb,.Call (.Name f np) [et,er] [] fp] bp) env=Iv bp .And (evalEach [eb,.Call (.Name f np) [et,er] [] fp] env) from rfl];show wpAny _ A (do
    let v <- eval eb env
    standAt bp
    let t <- holding [v] (truthy v)
    match BoolOp.And,t with
    | .And,false| .Or,true=>pure v
    |_,_=>eval (.Call (.Name f np) [et,er] [] fp) env) Q E s
   refine am ((h2 p O st _ bc hb).run A c s env hA hE R _ _ λc1 v1 s1 l1 R1 K1 a1=> ?_);have e:=a1.dn;subst e;refine am (cV (am (dH (gf ?_))));induction xb with
   |true=>exact So A c1 s1 env hA hT (hE.mono l1 (ab _)) R1 E Q λc2 v2 s2 l2 R2 K2 a2=>hQ c2 v2 s2 (l1.trans l2 (ab _)) R2 (K1.trans K2) a2
   |false=>exact aR (hQ c1 _ s1 l1 R1.mn K1 (.pv (.con _)))
  left;let ⟨uV,a2,b2,c2⟩:=bc.ie (S:=S.mn) hy (.pv (PV.bool xb));let ⟨σ3,a3,b3,c3⟩:=b2.ie (S:=S.mn) hx (.pv va);right;refine⟨σ3,rfl,⟨aA a2.len a3.len,λA c s env hA hT ht hE R E Q hQ=> ?_⟩,b3,c2.trans c3 bc⟩;refine uc (names:=[x,y]) (sN ?_) rfl (scp hw hE.scope);rw[gz n1,gz rfl];refine bX ((h1 p O st _ bc ha).run A c s env hA hE R _ _ λc1 u1 s1 l1 R1 K1 a1=> ?_);refine bX (hand A c1 s1 env hA hT (hE.mono l1 (ab _)) R1 _ _ λc2 u2 s2 l2 R2 K2 Ed=>eA ⟨by show 2<=2 ^ 24;decide,?_⟩);generalize hcN:c2.put s2.heap.objs.size {cls:= .type "tuple",data:= .seq #[u1,u2]}=cN;have lN:aM.le ↑O c2 cN:=by exact hcN▸(aM.dC (R2.oz (ab s2.heap.objs.size)))
  have RN:Rel S.mn cN O (s2.heap.push {cls:= .type "tuple",data:= .seq #[u1,u2]}):=by rw[<- hcN];exact R2.sW
  have key:∀Q',(∀h',rv (s2.heap.push {cls:= .type "tuple",data:= .seq #[u1,u2]}).objs.size (s2.heap.push {cls:= .type "tuple",data:= .seq #[u1,u2]}) h'->Q' [u1,u2] {s2 with heap:=h'})->wpAny (MM S.w) A (unpackItems (.ref s2.heap.objs.size) 2 ac) Q' E {s2 with heap:=s2.heap.push {cls:= .type "tuple",data:= .seq #[u1,u2]}}:=λQ' hq=>
   vy (prog:=pw) (w:=S.w) (items:= #[u1,u2]) (s:= {s2 with heap:=s2.heap.push {cls:= .type "tuple",data:= .seq #[u1,u2]}}) (Q:=Q') hA.hn ⟨_,aV _ rfl,rfl,_,rfl⟩ hq
  refine key _ λh' yh=> ?_;have R':Rel S.mn cN O h':=RN.ext λb o e=>yh b o (cM (bW e)) e;show wpAny _ A (do holding _ (bindName env y _);holding _ (bindName env x _);pure ()) _ _ _;have l1N:=(l1.trans l2 (ab _)).trans lN (ab _);have rA:=hE.mono l1N (ab _);refine am (dH (si (a2.run A cN {s2 with heap:=h'} env _ rA R' (Ed.mono lN (ab _)) _ _ λc4 s4 l4 R4 K4=> ?_)));refine am (dH (si (a3.run A c4 s4 env _ (rA.mono l4 a2.len) R4 (((a1.mono l2 (ab _)).mono lN (ab _)).mono l4 a2.len) _ _ λc5 s5 l5 R5 K5=> ?_)));exact aR (hQ c5 .next s5 ((l1N.trans l4 (ab _)).trans l5 a2.len) R5 ((((K1.trans K2).trans (.gF ..)).trans K4).trans K5) .next)
end
set_option maxHeartbeats 4000000
local macro_rules | `(tactic| walk_at "sd") => pure (wf (["jd; of", "mw; DF", "cT; Qi; items", "M6; ahM"].map wz))
def ij (i:Nat):Stmt:=AP.body.getD i (.Pass default)
def dT:Lay:=eV AP ["script", "y", "laid", "turned", "text", "units", "unit", "opening", "bare", "deep", "first", "wide", "front", "given", "kept", "right", "pair", "due"] [("begin",15),("hues",14),("j",13),("pairs",12),("end",11),("rows",10),("over",9),("under",8),("table",7),("told",6),("pieces",5),("behind",4),("parts",3),("sums",2),("numbers",1),("x",0)]
def Qv:fT:=lQ [([46,48],.local),([120],.local)] ["x"] [] []
def Qw:fT:=lQ [([46,48],.local),([107],.local),([115,117,109],.globalImplicit),([110,117,109,98,101,114,115],.free)] ["k"] [] [("numbers",14)]
def Qx:fT:=lQ [([46,48],.local),([107],.local),([115,117,109,115],.free)] ["k"] [] [("sums",13)]
def Qy:fT:=lQ [([46,48],.local),([107],.local),([98,101,104,105,110,100],.free),([115,117,109,115],.free)] ["k"] [] [("sums",13),("behind",11)]
def Hk:fT:=lQ [([46,48],.local),([120],.local),([95,108,97,119,95,116,111,108,100],.globalImplicit),([112,97,114,116,115],.free)] ["x"] [] [("parts",12)]
def Hl:fT:=lQ [([46,48],.local),([120],.local),([116,97,98,108,101],.free)] ["x"] [] [("table",8)]
def Hm:fT:=lQ [([46,48],.local),([120],.local),([116,97,98,108,101],.free)] ["x"] [] [("table",8)]
def Hn:fT:=lQ [([46,48],.local),([119,97,121],.cell),([95,108,97,119,95,117,110,108,105,107,101],.globalImplicit),([112,97,114,116,115],.free)] [] [("way",0)] [("parts",12)]
def xw:fT:=lQ [([46,48],.local),([120],.local),([108,101,110],.globalImplicit),([119,97,121],.free)] ["x"] [] [("way",0)]
def Qz:fT:=lQ [([46,48],.local),([120],.local),([98,105,115,101,99,116,95,108,101,102,116],.globalImplicit),([108,101,110],.globalImplicit),([114,111,119,115],.free),([117,110,100,101,114],.free)] ["x"] [] [("under",7),("rows",5)]
def Nt:fT:=lQ [([46,48],.local),([120],.local),([108,101,110],.globalImplicit),([98,105,115,101,99,116,95,114,105,103,104,116],.globalImplicit),([111,118,101,114],.free),([114,111,119,115],.free)] ["x"] [] [("rows",5),("over",6)]
def Nu:fT:=lQ [([46,48],.local),([120],.local),([121],.local),([109,97,120],.globalImplicit),([109,105,110],.globalImplicit),([112,97,114,116,115],.free)] ["x", "y"] [] [("parts",12)]
def Nv:fT:=lQ [([46,48],.local),([120],.local),([121],.local),([98,101,103,105,110],.free),([101,110,100],.free),([112,97,114,116,115],.free)] ["x", "y"] [] [("parts",12),("end",4),("begin",0)]
def rh:kQ:=⟨fsc [([121],.local),([98,101,103,105,110],.free)], "y",[("begin",0)]⟩
def ri:kQ:=⟨fsc [([121],.local),([98,101,103,105,110],.free)], "y",[("begin",0)]⟩
def uv:fT:=lQ [([46,48],.local),([120],.local),([117,110,105,116],.local),([98,101,103,105,110],.free),([106],.free),([112,105,101,99,101,115],.free)] ["x", "unit"] [] [("pieces",10),("j",2),("begin",0)]
def uw:fT:=lQ [([46,48],.local),([120],.local),([117,110,105,116],.local),([101,110,100],.free),([106],.free)] ["x", "unit"] [] [("j",2),("end",4)]
def DH:fT:=lQ [([46,48],.local),([111,110,101],.local)] ["one"] [] []
def yC:fT:=lQ [([46,48],.local),([111,110,101],.local),([112,97,105,114,115],.free),([120],.free)] ["one"] [] [("x",15),("pairs",3)]
def DI:fT:=lQ [([46,48],.local),([121],.local),([112,97,105,114,115],.free),([120],.free)] ["y"] [] [("x",0),("pairs",1)]
def yD:fT:=lQ [([46,48],.local),([112,108,97,99,101],.local),([117,110,105,116],.local)] ["place", "unit"] [] []
def rj:fT:=lQ [([46,48],.local),([111,110,101],.local),([108,101,110],.globalImplicit)] ["one"] [] []
def Nw:fT:=lQ [([46,48],.local),([120],.local),([121],.local),([104,117,101,115],.free),([112,97,105,114,115],.free),([112,97,114,116,115],.free)] ["x", "y"] [] [("parts",12),("pairs",3),("hues",1)]
def Nx:fT:=lQ [([46,48],.local),([120],.cell),([111,118,101,114],.free),([112,97,105,114,115],.free),([112,97,114,116,115],.free),([117,110,100,101,114],.free)] [] [("x",0)] [("under",7),("parts",12),("pairs",3),("over",6)]
def DJ:fT:=lQ [([46,48],.local),([121],.local),([112,97,105,114,115],.free),([120],.free)] ["y"] [] [("x",0),("pairs",3)]
def DK:fT:=lQ [([46,48],.local),([121],.local),([112,97,105,114,115],.free),([120],.free)] ["y"] [] [("x",0),("pairs",3)]
def yE:fT:=lQ [([46,48],.local),([120],.local),([116,111,108,100],.free)] ["x"] [] [("told",9)]
def Ny:fT:=lQ [([46,48],.local),([112,97,105,114],.local),([111,110,101],.local)] ["pair", "one"] [] []
def Af:SF:=(bZ (eh Qv (jA (fN (ak 0) eB (gV ⇑60) eB)) (dM (bf 0) fF (gN (ba .Mod (ak 0) ⇑1000000)))) (jL 14))
def UL:jd S 6 dT (ij 0) Af:=by walk_at "sd"
def Ag:SF:=(bZ (eh Qw (rO ⇑6) (dM (bf 0) fF (gN (ba .Add (bk (jc (au ⇑2361 (au ⇑1109 (au ⇑445 (au ⇑4291 (au ⇑1933 (au ⇑3006 aZ))))))) (ak 0)) (dJ MW (au (fN (aX 0) (gV (ak 0)) eB (gV ⇑6)) aZ)))))) (jL 13))
def UM:jd S 6 dT (ij 1) Ag:=by walk_at "sd"
def Ah:SF:=(bZ (lz Qx (rO ⇑6) (dM (bf 0) fF (te (bk ↥"abcdef" (ak 0)) (kb (au (ba .Mod (bk (aX 0) (ak 0)) ⇑9) (au (ba .Mod (ba .FloorDiv (bk (aX 0) (ak 0)) ⇑9) ⇑9) (au (ba .Mod (ba .FloorDiv (bk (aX 0) (ak 0)) ⇑81) ⇑9) aZ))))))) (jL 12))
def UN:jd S 6 dT (ij 2) Ah:=by walk_at "sd"
def Fg:SF:=(bZ (jc (au (kb aZ) (au (kb (au ↥"\\(" aZ)) (au (kb (au ↥"\\)" aZ)) (au (kb (au ↥"\"" (au ↥"(" (au ↥"\"" aZ)))) (au (kb (au ↥"\"" (au ↥")" (au ↥"\"" aZ)))) (au (kb (au ↥"\\\"" aZ)) (au (kb (au ↥"\\\\" aZ)) aZ)))))))) (jL 11))
def UO:jd S 6 dT (ij 3) Fg:=by walk_at "sd"
def Ai:SF:=(bZ (lz Qy (rO ⇑6) (dM (bf 0) fF (te (bk ↥"abcdef" (ak 0)) (bk (aX 1) (ba .Mod (ba .FloorDiv (bk (aX 0) (ak 0)) ⇑729) ⇑7))))) (jL 10))
def UP:jd S 6 dT (ij 4) Ai:=by walk_at "sd"
def Aj:SF:=(GP (ji (lb (lz Hk (jA (aX 12)) (dM (bf 0) fF (te (ak 0) (kh nx (au (bk (bk (aX 0) (ak 0)) ⇑0) (au (bk (bk (aX 0) (ak 0)) ⇑1) (au (bk (bk (aX 0) (ak 0)) ⇑2) aZ)))))))) (ji Hc EO)) (fA (jL 9) (fA (jL 8) qZ)))
def UQ:jd S 6 dT (ij 5) Aj:=by walk_at "sd"
def Ak:SF:=(mK (jA (aX 12)) (jL 15) (aC (mK (jA (aX 12)) (bf 1) (aC (jC (bY .Lt (bk (bk (aX 9) (aX 15)) ⇑1) (bk (bk (aX 9) (ak 1)) ⇑0)) (aC (eI (aX 8) (au (eP "str" gS (ak 1) aZ) (au (aX 15) aZ))) (aC (eI (aX 8) (au (ba .Add (aX 15) (eP "str" gS (aX 15) aZ)) (au (ak 1) aZ))) br)) br) br)) br))
def UR:jd S 6 dT (ij 6) Ak:=by walk_at "sd"
def Al:SF:=(GP (ji (lb (lz Hl (jA (aX 12)) (dM (bf 0) fF (te (ak 0) (mY (aX 0) (au (ak 0) aZ)))))) (ji (lb (lz Hm (jA (aX 12)) (dM (bf 0) fF (te (ak 0) (mY (aX 0) (au (ba .Add (eP "str" gS (ak 0) aZ) (ak 0)) aZ)))))) EO)) (fA (jL 7) (fA (jL 6) qZ)))
def US:jd S 6 dT (ij 7) Al:=by walk_at "sd"
def Am:SF:=(bZ (eh Hn (jA (jc (au (aX 7) (au (aX 6) aZ)))) (dM (jL 0) fF (gN (kh lg (au (eh xw (jA (aX 1)) (dM (bf 0) fF (gN (dJ kq (au (bk (aX 0) (ak 0)) aZ))))) aZ))))) (jL 5))
def UT:jd S 6 dT (ij 8) Am:=by walk_at "sd"
def An:SF:=(bZ (lz Qz (jA (aX 12)) (dM (bf 0) fF (te (ak 0) (qI false (bk (aX 1) ⇑0) (dJ kq (au (bk (aX 0) (ak 0)) aZ)))))) (jL 0))
def UU:jd S 6 dT (ij 9) An:=by walk_at "sd"
def xx:SF:=(bZ (lz Nt (jA (aX 12)) (dM (bf 0) fF (te (ak 0) (ba .Sub (dJ kq (au (bk (aX 0) ⇑1) aZ)) (qI true (bk (aX 0) ⇑1) (dJ kq (au (bk (aX 1) (ak 0)) aZ))))))) (jL 4))
def QA:jd S 6 dT (ij 10) xx:=by walk_at "sd"
def xy:SF:=(bZ (eh Nu (jA (aX 12)) (dM (bf 0) fF (IG (jA (aX 0)) (dM (bf 1) (bY .Lt (dJ EG (au (bk (aX 0) (ak 0)) aZ)) (dJ MZ (au (bk (aX 0) (ak 1)) aZ))) (gN (ba .Add (ak 0) (ak 1))))))) (jL 3))
def QB:jd S 6 dT (ij 11) xy:=by walk_at "sd"
def xA:SF:=(jC (bY .NotEq (eh Nv (jA (aX 12)) (dM (bf 0) fF (IG (jA (aX 0)) (dM (bf 1) (bY .Lt (bk (aX 1) (ak 0)) (bk (aX 2) (ak 1))) (gN (ba .Add (ak 0) (ak 1))))))) (aX 3)) (aC (i7 (jh (PV.bool false))) br) br)
def QC:jd S 6 dT (ij 12) xA:=by walk_at "sd"
def BG:SF:=(GP (ji (EN (.list [])) (ji (EN (.list [])) (ji (lb ↥"") (ji (EN (.list [])) EO)))) (fA (bf 2) (fA (bf 3) (fA (bf 4) (fA (bf 5) qZ)))))
def QD:jd S 6 dT (ij 13) BG:=by walk_at "sd"
def xB:SF:=(mK (jA ↥"abcdef") (jL 15) (aC (Bp true rh (ak 2) (aX 15) (bk (aX 0) (ak 0))) br))
def QE:jd S 6 dT (ij 14) xB:=by walk_at "sd"
def xC:SF:=(mK (jA ↥"fedcba") (jL 15) (aC (Bp false ri (ak 3) (aX 15) (bk (aX 0) (ak 0))) br))
def QF:jd S 6 dT (ij 15) xC:=by walk_at "sd"
def xD:SF:=(mK (rO (dJ kq (au (bk (aX 5) ⇑0) aZ))) (jL 2) (aC (bZ (eh uv (jA (aX 12)) (dM (bf 0) (bY .Eq (bk (aX 2) (ak 0)) (aX 1)) (IG (jA (ba .Add (kb (au ↥"(" (au (ak 0) aZ))) (bk (aX 0) (ak 0)))) (dM (bf 1) fF (gN (ak 1)))))) (bf 7)) (aC (mK (jA (ba .Add (ak 7) (eh uw (jA (aX 12)) (dM (bf 0) (bY .Eq (bk (aX 1) (ak 0)) (aX 0)) (IG (jA (jc (au (eP "str" gS (ak 0) aZ) (au ↥")" aZ)))) (dM (bf 1) fF (gN (ak 1)))))))) (bf 6) (aC (bZ (ba .Add (ak 4) (ak 6)) (bf 4)) (aC (oE gZ (ak 5) (au (jc (au (ba .Sub (dJ kq (au (ak 4) aZ)) ⇑1) (au (ak 6) aZ))) aZ)) br))) br)))
def QG:jd S 6 dT (ij 16) xD:=(jd.of (mw.for (zP.range tt (Ew so) (Ew so) (cT.call (fv:= .builtin "len") fy.len (.inl ⟨_,rfl⟩) tt (Ew so) (Ew so) (pU.cons (cT.item (cT.nr (i:=5) tt) cT.int MV) pU.nil rfl)) rfl) (CB.nr (i:=2) tt) (j5.cons (mw.zg (i:=7) (fT.PW tt) rfl (fa1 rfl) (fa2 (λq q=>rfl) (λq q=>rfl)) (zP.C (zP.val (cT.nr (i:=12) tt))) (Ga.more rfl rfl rfl (CB.loc (i:=0) tt) (EK (A3.cmp (cT.item (cT.nr (i:=2) tt) (cT.loc (i:=0) tt) MV) (cT.nr (i:=1) tt) rfl)) (zP.C (zP.val (cT.bin (cT.lst (pU.cons cT.str (pU.cons (cT.loc (i:=0) tt) pU.nil rfl) rfl)) (cT.item (cT.nr (i:=0) tt) (cT.loc (i:=0) tt) MV)))) (Ga.last rfl rfl rfl (CB.loc (i:=1) tt) Ac (EI.list (cT.loc (i:=1) tt)))) tt pp) (j5.cons (mw.for (zP.val (cT.bin (cT.loc (i:=7) tt) (cT.GK (fT.PW tt) rfl (fa1 rfl) (fa2 (λq q=>rfl) (λq q=>rfl)) (zP.C (zP.val (cT.nr (i:=12) tt))) (Ga.more rfl rfl rfl (CB.loc (i:=0) tt) (EK (A3.cmp (cT.item (cT.nr (i:=1) tt) (cT.loc (i:=0) tt) MV) (cT.nr (i:=0) tt) rfl)) (zP.C (zP.val (cT.tup (pU.cons (cT.tb fy.upper F.plainAttrs_str F.slot_str_upper F.type_str_upper (cT.loc (i:=0) tt) pU.nil (λq=>rfl) rfl ∅) (pU.cons cT.str pU.nil rfl) rfl)))) (Ga.last rfl rfl rfl (CB.loc (i:=1) tt) Ac (EI.list (cT.loc (i:=1) tt))))))) (CB.loc (i:=6) tt) (j5.cons (mw.PU (i:=4) (cT.bin (cT.loc (i:=4) tt) (cT.loc (i:=6) tt)) tt pp) (j5.cons (mw.mut Bi.append F.slot_list_append F.type_list_append (cT.loc (i:=5) tt) (pU.cons (cT.tup (pU.cons (cT.bin (cT.call (fv:= .builtin "len") fy.len (.inl ⟨_,rfl⟩) tt (Ew so) (Ew so) (pU.cons (cT.loc (i:=4) tt) pU.nil rfl)) cT.int) (pU.cons (cT.loc (i:=6) tt) pU.nil rfl) rfl)) pU.nil rfl) (λq=>rfl) rfl ∅ pp) j5.nil)) (λq q=>rfl)) j5.nil)) (λq q=>rfl)))
def BH:SF:=(LQ 8 (ak 4) "\"(\"" "\")\"" ↥"\"(")
def QH:jd S 6 dT (ij 17) BH:=(jd.bare (i:=8) (cT.loc (i:=4) tt) cT.str tt ∅ ∅ (λq=>rfl) (λq=>rfl) rfl rfl (λq q=>rfl))
def xE:SF:=(jC (Gy (bY .NotEq (eh DH (zR (ba .Add (ak 4) ↥"\\")) (dM (bf 0) fF (gN (ak 0)))) (ba .Add (ak 5) (kb (au (jc (au (dJ kq (au (ak 4) aZ)) (au ↥"\\" aZ))) aZ)))) (Gy (bY .NotEq (kh dU (au (ba .Add (ak 4) ↥"\"(") aZ)) (ak 8)) vD)) (aC (i7 (jh (PV.bool false))) br) br)
def QI:jd S 6 dT (ij 18) xE:=by walk_at "sd"
def xF:SF:=(bZ (kh tC (au (ak 4) (au (dJ MW (au (aX 13) aZ)) aZ))) (pX (eS (jL 1) (eS (bf 9) (eS (bf 10) pW)))))
def QJ:jd S 6 dT (ij 19) xF:=by walk_at "sd"
def BI:SF:=(bZ (kb (au (kb aZ) aZ)) (bf 11))
def QK:jd S 6 dT (ij 20) BI:=by walk_at "sd"
def BJ:SF:=(mK (jA (aX 12)) (jL 15) (aC (bZ (ba .Add (ak 11) (eh yC (jA (ak 11)) (dM (bf 0) (bY .Eq (eh DI (jA (ak 0)) (dM (bf 0) (Gy (bY .In (ba .Add (aX 0) (ak 0)) (aX 1)) (Gy (bY .In (ba .Add (ak 0) (aX 0)) (aX 1)) vD)) (gN (ak 0)))) (kb aZ)) (gN (ba .Add (ak 0) (kb (au (aX 0) aZ))))))) (bf 11)) br))
def QL:jd S 6 dT (ij 21) BJ:=by walk_at "sd"
def xG:SF:=(jC (Gy (yp (vE .Eq .Eq (ak 2) (ak 3) (eh yD (GI (ak 5)) (dM (pX (eS (bf 0) (eS (bf 1) pW))) (bY .In (ak 1) ↥"abcdef") (gN (ak 1)))))) (Gy (yp (vE .Eq .Eq (ba .Add ⇑1 (pz (aX 1))) (ak 9) (dJ EG (au (eh rj (jA (ak 11)) (dM (bf 0) fF (gN (dJ kq (au (ak 0) aZ))))) aZ)))) vD)) (aC (i7 (jh (PV.bool false))) br) br)
def QM:jd S 6 dT (ij 22) xG:=by walk_at "sd"
def xH:SF:=(jC (bY .NotEq (eh Nw (jA (aX 12)) (dM (bf 0) fF (IG (jA (aX 0)) (dM (bf 1) (wY (bY .Lt (ak 0) (ak 1)) (wY (bY .Eq (bk (aX 2) (ak 0)) (bk (aX 2) (ak 1))) (wY (bY .NotIn (ba .Add (ak 0) (ak 1)) (aX 1)) (wY (bY .NotIn (ba .Add (ak 1) (ak 0)) (aX 1)) fF)))) (gN (ba .Add (ak 0) (ak 1))))))) (kb aZ)) (aC (i7 (jh (PV.bool false))) br) br)
def QN:jd S 6 dT (ij 23) xH:=by walk_at "sd"
def xI:SF:=(bZ (ba .Add (fN (ak 4) eB (gV (eP "str" Ba (ak 4) (au (ak 10) aZ))) eB) (ba .Mult ↥")" (ak 9))) (bf 12))
def QO:jd S 6 dT (ij 24) xI:=by walk_at "sd"
def xJ:SF:=(bZ (kb (au (ak 12) (au (fN (ak 12) eB (gV (w5 ⇑1)) eB) (au (ba .Add ↥")" (fN (ak 12) eB (gV (w5 ⇑1)) eB)) (au (ak 4) aZ))))) (bf 13))
def QP:jd S 6 dT (ij 25) xJ:=by walk_at "sd"
def xK:SF:=(jC (Gy (bY .NotEq (kh hZ (au (ak 13) aZ)) (kb (au (ak 12) (au ↥"('', '')" (au ↥"('', '')" (au (ak 4) aZ)))))) (Gy (bY .NotEq (ak 13) (kb (au (ak 12) (au (fN (ak 12) eB (gV (w5 ⇑1)) eB) (au (ba .Add ↥")" (fN (ak 12) eB (gV (w5 ⇑1)) eB)) (au (ak 4) aZ)))))) vD)) (aC (i7 (jh (PV.bool false))) br) br)
def QQ:jd S 6 dT (ij 26) xK:=by walk_at "sd"
def tG:SF:=(jC (bY .NotEq (eh Nx (jA (aX 12)) (dM (jL 0) (Gy (bY .NotEq (bk (aX 1) (aX 0)) (eh DJ (jA (aX 2)) (dM (bf 0) (bY .In (ba .Add (ak 0) (aX 0)) (aX 1)) (gN (ak 0))))) (Gy (bY .NotEq (bk (aX 4) (aX 0)) (eh DK (jA (aX 2)) (dM (bf 0) (bY .In (ba .Add (aX 0) (ak 0)) (aX 1)) (gN (ak 0))))) vD)) (gN (aX 0)))) (kb aZ)) (aC (i7 (jh (PV.bool false))) br) br)
def QR:jd S 6 dT (ij 27) tG:=by walk_at "sd"
def BK:SF:=(xv 14 15 (dJ Lv (au (bk (aX 5) ⇑0) aZ)) (qG (bY .Eq (eh yE (jA (aX 12)) (dM (bf 0) (yp (mv (bk (bk (aX 0) (ak 0)) ⇑2))) (gN (ak 0)))) (kb aZ))) (aX 8) (bk (aX 5) ⇑0))
def QS (Iq:S.yN=true):Qu S 6 dT (ij 28) BK:=(jd.refused Iq (i:=14) (j:=15) (by exact ab _) tt (Ew so) (cT.call (fv:= .type "list") fy.list (.inr ⟨_,rfl⟩) tt (Ew so) (Ew so) (pU.cons (cT.item (cT.nr (i:=5) tt) cT.int MV) pU.nil rfl)) (cT.cmp (cT.GK (fT.PW tt) rfl fa0 (fa1 (λq q=>rfl)) (zP.C (zP.val (cT.nr (i:=12) tt))) (Ga.last rfl rfl rfl (CB.loc (i:=0) tt) (EK (A3.not (A3.val (cT.item (cT.item (cT.nr (i:=0) tt) (cT.loc (i:=0) tt) MV) cT.int MV) (λq q=>rfl)))) (EI.list (cT.loc (i:=0) tt)))) (cT.lst pU.nil) rfl) (cT.nr (i:=8) tt) (cT.item (cT.nr (i:=5) tt) cT.int MV) tt tt rfl rfl rfl (by kernel_rfl))
def xM:SF:=(bZ (eh Ny (jA (aX 3)) (dM (bf 0) fF (IG (jA (jc (au (jc (au (eP "str" gS (bk (ak 0) ⇑1) aZ) (au (bk (ak 0) ⇑0) aZ))) (au (jc (au (ba .Add (bk (ak 0) ⇑0) (eP "str" gS (bk (ak 0) ⇑0) aZ)) (au (bk (ak 0) ⇑1) aZ))) aZ)))) (dM (bf 1) fF (gN (ak 1)))))) (bf 17))
def QT:jd S 6 dT (ij 29) xM:=(jd.of (mw.zg (i:=17) (fT.PW tt) rfl (fa1 rfl) (fa2 (λq q=>rfl) (λq q=>rfl)) (zP.C (zP.val (cT.nr (i:=3) tt))) (Ga.more rfl rfl rfl (CB.loc (i:=0) tt) Ac (zP.C (zP.val (cT.tup (pU.cons (cT.tup (pU.cons (cT.tb fy.upper F.plainAttrs_str F.slot_str_upper F.type_str_upper (cT.item (cT.loc (i:=0) tt) cT.int MV) pU.nil (λq=>rfl) rfl ∅) (pU.cons (cT.item (cT.loc (i:=0) tt) cT.int MV) pU.nil rfl) rfl)) (pU.cons (cT.tup (pU.cons (cT.bin (cT.item (cT.loc (i:=0) tt) cT.int MV) (cT.tb fy.upper F.plainAttrs_str F.slot_str_upper F.type_str_upper (cT.item (cT.loc (i:=0) tt) cT.int MV) pU.nil (λq=>rfl) rfl ∅)) (pU.cons (cT.item (cT.loc (i:=0) tt) cT.int MV) pU.nil rfl) rfl)) pU.nil rfl) rfl)))) (Ga.last rfl rfl rfl (CB.loc (i:=1) tt) Ac (EI.list (cT.loc (i:=1) tt)))) tt pp))
def xN:SF:=(bZ (qG (wY (mv (ak 15)) (wY (mv (qG (bY .Eq (bk (aX 5) ⇑0) (ak 14)))) (mv (qG (bY .Eq (E8 (aX 8)) (ak 17))))))) (bf 15))
def QU:jd S 6 dT (ij 30) xN:=by walk_at "sd"
def xO:SF:=(mK (jA (fN (aX 3) (gV (w5 ⇑1)) eB eB)) (bf 16) (aC (eI (aX 8) (au (bk (ak 16) ⇑1) (au (bk (ak 16) ⇑0) aZ))) (aC (bZ (qG (wY (mv (ak 15)) (mv (qG (bY .Eq (mY (aX 8) (au (eP "str" gS (bk (ak 16) ⇑1) aZ) aZ)) (ba .Add (bk (aX 7) (bk (ak 16) ⇑1)) (kb (au (bk (ak 16) ⇑0) aZ)))))))) (bf 15)) br)))
def QV:jd S 6 dT (ij 31) xO:=by walk_at "sd"
def BL:SF:=(i7 (ak 15))
def QW:jd S 6 dT (ij 32) BL:=by walk_at "sd"
set_option maxHeartbeats 200000
def QX:SF:=aC Af (aC Ag (aC Ah (aC Fg (aC Ai (aC Aj (aC Ak (aC Al (aC Am (aC An (aC xx (aC xy (aC xA (aC BG (aC xB (aC xC (aC xD (aC BH (aC xE (aC xF (aC BI (aC BJ (aC xG (aC xH (aC xI (aC xJ (aC xK (aC tG (aC BK (aC xM (aC xN (aC xO (aC BL (br)))))))))))))))))))))))))))))))))
def afH (Iq:S.yN=true):g7 S 6 dT AP.body QX:=g7.cons UL (g7.cons UM (g7.cons UN (g7.cons UO (g7.cons UP (g7.cons UQ (g7.cons UR (g7.cons US (g7.cons UT (g7.cons UU (g7.cons QA (g7.cons QB (g7.cons QC (g7.cons QD (g7.cons QE (g7.cons QF (g7.cons QG (g7.cons QH (g7.cons QI (g7.cons QJ (g7.cons QK (g7.cons QL (g7.cons QM (g7.cons QN (g7.cons QO (g7.cons QP (g7.cons QQ (g7.cons QR (g7.turn (QS Iq) (tE.cons (QT (S:=S.mn)) (tE.cons (QU (S:=S.mn)) (tE.cons (QV (S:=S.mn)) (tE.cons (QW (S:=S.mn)) (tE.nil)))))))))))))))))))))))))))))))))
def Ju:List Str:=dT.loc
noncomputable def tH (l:List Int):St:= {lv:=[~~~(.lst (l.map PV.int)),ac,ac,ac,ac,ac,ac,ac,ac,ac,ac,ac,ac,ac,ac,ac,ac,ac],cv:=[ac,ac,ac,ac,ac,ac,ac,ac,ac,ac,ac,ac,ac,ac,ac,ac],ob:=[]}
def iD (h1:tg (.pv x) st=aa st1) (h2:body st1=aa (.next,st2)):lP tg body (x::xs) st=lP tg body xs st2:=by rw[I6,h1];show(body st1).bind _=_;rw[h2];rfl
def YK (h1:tg (.pv x) st=aa st1) (h2:test st1=aa false):dM tg test inner (x::xs) dA st=dM tg test inner xs dA st1:=by rw[yt,h1];show(test st1).bind _=_;rw[h2];rfl
def QY (h1:tg (.pv x) st=aa st1) (h2:test st1=aa true) (h3:inner dA st1=aa r):dM tg test inner (x::xs) dA st=dM tg test inner xs r.1 r.2:=by rw[yt,h1];show(test st1).bind _=_;rw[h2];show(inner dA st1).bind _=_;rw[h3];rfl
def QZ {xs ys:List PV}:∀ {st st1:St},lP tg body xs st=aa (.next,st1)->lP tg body (xs++ys) st=lP tg body ys st1:=by
 induction xs with
 |nil=>intro st st1 h;cases h;rfl
 |cons x xs ih=>
  intro st st1 h;rw[I6]at h;refine a9 h λs1 e1 h=>a9 h λr e2 h=> ?_;let ⟨fl,s2⟩:=r;induction fl with
  |next=>rw[sG,iD e1 e2];exact ih h
  |ret v=>cases h
def Jv (J:St->Prop) (p:PV->Bool) (g:PV->List β) (n:Nat) (xs:List PV):∀(dA:List β) (st:St),J st->
  (∀x∈xs,↑(g x)<=n)->
  (∀x∈xs,∀st,J st->∃st1,tg (.pv x) st=aa st1/\test st1=aa (p x)/\J st1/\(p x=true->∀qM:List β,↑qM<= ↑dA+ ↑xs*n->∃st2,inner qM st1=aa (qM++g x,st2)/\J st2))->
  ∃cf,dM tg test inner xs dA st=aa (dA++(xs.filter p).flatMap g,cf)/\J cf:=by
 induction xs with
 |nil=>intro dA st h _ _;exact⟨st,by show aa (dA,st)=_;simp,h⟩
 |cons x xs ih=>
  intro dA st h hl hs;let ⟨st1,h1,h2,h3,h4⟩:=hs x ay st h;have hmul: ↑(x::xs)*n= ↑xs*n+n:=by rw[az,OB,CH]
  cases hp:p x with
  |false=>
   let ⟨cf,e,j⟩:=ih dA st1 h3 (λy hy=>hl y (aK _ hy)) λy hy st hJ=>by left;let ⟨s1,a,b,c,d⟩:=hs y (aK _ hy) st hJ;right;exact⟨s1,a,b,c,λhp' qM kz=>d hp' qM (ab5 kz hmul)⟩
   refine⟨cf,?_,j⟩;rw[YK h1 (hp▸h2),e,eo (hp▸bG)]
  |true=>
   let ⟨st2,e2,h5⟩:=h4 hp dA (Wg);let ⟨cf,e,j⟩:=ih (dA++g x) st2 h5 (λy hy=>hl y (aK _ hy)) λy hy st hJ=>by let ⟨s1,a,b,c,d⟩:=hs y (aK _ hy) st hJ;exact⟨s1,a,b,c,λhp' qM kz=>d hp' qM (by rw[aj]at kz;exact Wh kz hmul (hl x ay))⟩
   refine⟨cf,?_,j⟩;rw[QY h1 (hp▸h2) e2,e,el hp,bJ,bF]
def LV (h:f st= ~~~d) (hl: ↑dA<100000):gN f dA st=aa (dA++[d],st):=by unfold gN;rw[h];exact if_pos hl
def UV (h:f st= ~~~(.str x)) (h2:g st= ~~~d) (hl: ↑dA<100000) (hx:dA.lookup x=ac):te f g dA st=aa (dA++[(x,d)],st):=by unfold te;rw[h,h2];exact if_pos ⟨hl,hx⟩
def lh (J:St->Prop) (p:PV->Bool) (g:PV->PV) (hit:it st=aa xs) (hn: ↑xs<50000) (h0:J (cl.st st))
  (hs:∀x∈xs,∀st,J st->∃st1,tg (.pv x) st=aa st1/\test st1=aa (p x)/\J st1/\(p x=true->f st1= ~~~(g x))):
  eh cl it (dM tg test (gN f)) st= ~~~(.lst ((xs.filter p).map g)):=by
 unfold eh;rw[hit];let ⟨cf,e,_⟩:=Jv (β:=PV) J p (λx=>[g x]) 1 xs [] (cl.st st) h0 (λq q=>ab _) λx hx st hJ=>by left;let ⟨st1,a,b,c,d⟩:=hs x hx st hJ;right;refine⟨st1,a,b,c,λhp qM kz=>⟨st1,LV (d hp) ?_,c⟩⟩;simp at kz;exact ab6 kz hn
 show((dM tg test (gN f) xs [] (cl.st st)).map λr=>CV.pv (.lst r.1))=_;rw[e];simp[OF]
def ux (J:St->Prop) (p:PV->Bool) (ys:PV->List PV) (p2:PV->PV->Bool) (g:PV->PV->PV) (hit:it st=aa xs) (hn: ↑xs<=100) (hm:∀x∈xs,↑(ys x)<=100) (h0:J (cl.st st))
  (hs:∀x∈xs,∀st,J st->∃st1,tg (.pv x) st=aa st1/\test st1=aa (p x)/\J st1/\(p x=true->it2 st1=aa (ys x)/\
   ∃J2:St->Prop,J2 st1/\(∀st,J2 st->J st)/\∀y∈ys x,∀st,J2 st->∃st2,tg2 (.pv y) st=aa st2/\Ei st2=aa (p2 x y)/\J2 st2/\(p2 x y=true->f st2= ~~~(g x y)))):
  eh cl it (dM tg test (IG it2 (dM tg2 Ei (gN f)))) st= ~~~(.lst ((xs.filter p).flatMap λx=>((ys x).filter (p2 x)).map (g x))):=by
 unfold eh;rw[hit];let ⟨cf,e,_⟩:=Jv (β:=PV) (tg:=tg) (test:=test) (inner:=IG it2 (dM tg2 Ei (gN f))) J p (λx=>((ys x).filter (p2 x)).map (g x)) 100 xs [] (cl.st st) h0 (λx hx=>by
   rw[aw];exact aA (eX ..) (hm x hx)) λx hx st hJ=>by
  left;let ⟨st1,a,b,c,d⟩:=hs x hx st hJ;right;refine⟨st1,a,b,c,λhp qM kz=> ?_⟩;left;let ⟨e2,J2,j0,jj,hs2⟩:=d hp;right;let ⟨cf,e',j'⟩:=Jv (β:=PV) J2 (p2 x) (λy=>[g x y]) 1 (ys x) qM st1 j0 (λq q=>ab _) λy hy st hJ=>by left;let ⟨s2,a2,b2,c2,d2⟩:=hs2 y hy st hJ;right;refine⟨s2,a2,b2,c2,λMr apk Mm=>⟨s2,LV (d2 Mr) ?_,c2⟩⟩;have: ↑xs*100<=100*100:=Nat.mul_le_mul_right _ hn;simp at kz;exact ab7 Mm kz (hm x hx) this
  refine⟨cf,?_,jj _ j'⟩;unfold IG;rw[e2];show dM tg2 Ei (gN f) (ys x) qM st1=_;rw[e',OF]
 show((dM tg test (IG it2 (dM tg2 Ei (gN f))) xs [] (cl.st st)).map λr=>CV.pv (.lst r.1))=_;rw[e];rfl
def uy (J:St->Prop) (kx:PV->Str) (vx:PV->PV) (hit:it st=aa xs) (hn: ↑xs<50000) (Xm:(xs.map kx).Nodup) (h0:J (cl.st st))
  (hs:∀x∈xs,∀st,J st->∃st1,tg (.pv x) st=aa st1/\J st1/\f st1= ~~~(.str (kx x))/\g st1= ~~~(vx x)):
  lz cl it (dM tg fF (te f g)) st= ~~~(.oQ (xs.map λx=>(kx x,vx x))):=by
 unfold lz;rw[hit];have key:∀(ys:List PV) (dA:Sp) (s:St),J s->(∀x∈ys,x∈xs)->(dA.map (·.1)++ys.map kx).Nodup-> ↑dA+ ↑ys<100000->∃cf,dM tg fF (te f g) ys dA s=aa (dA++ys.map λx=>(kx x,vx x),cf):=by
  intro ys;induction ys with
  |nil=>intro dA s _ _ _ _;exact⟨s,by show aa (dA,s)=_;simp⟩
  |cons y ys ih=>
   intro dA s hJ C5 ahl cI;left;let ⟨st1,a,c,d1,d2⟩:=hs y (C5 y ay) s hJ;right;have akW:dA.lookup (kx y)=ac:=by rw[sD];intro q hq;rw[bne_iff_ne];intro e;have e':kx y=q.1:=e;have:=(Tc.mp ahl).2.2 q.1 (aQ.mpr ⟨q,hq,rfl⟩) (kx y) (by simp);exact this e'.symm
   rw[az]at cI;let ⟨cf,e⟩:=ih (dA++[(kx y,vx y)]) st1 c (λx hx=>C5 x (aK _ hx)) (by
    rw[bI,bF];simpa using ahl) (by rw[aj,be];exact ab8 cI)
   refine⟨cf,?_⟩;rw[QY a rfl (UV d1 d2 (show ↑dA<100000 by exact ab9 cI) akW),e];simp
 let ⟨cf,e⟩:=key xs [] (cl.st st) h0 (λz h=>h) (by simpa using Xm) (by simpa using (aca hn: ↑xs<100000));show((dM tg fF (te f g) xs [] (cl.st st)).map λr=>CV.pv (.oQ r.1))=_;rw[e];rfl
def tI (f:α->β) (l:List α) (a b c:Option Int):cP (l.map f) a b c=(cP l a b c).map f:=by
 unfold cP;rw[aw];generalize sliceRange _ _ _=is;induction is with
 |nil=>rfl
 |cons i is ih=>
  cases h:l[i]? with
  |none=>rw[lO (by simp[h]),lO (by simp[h]),ih]
  |some x=>rw[lM (b:=f x) (by simp[h]),lM (b:=x) (by simp[h]),ih,bx]
def mM (l:List α) (lo hi:Option Int):cP l lo hi ac=(l.drop (lo.elim 0 (clipAt ↑l))).take (hi.elim ↑l (clipAt ↑l)- lo.elim 0 (clipAt ↑l)):=by unfold cP;rw[sliceBounds_plain];simp only[sliceRange_one];have:=pick_run l.toArray (lo.elim 0 (clipAt ↑l)) (hi.elim ↑l (clipAt ↑l)- lo.elim 0 (clipAt ↑l));simpa using this
def tJ (h:x∈cP l a b c):x∈l:=by unfold cP at h;let ⟨i,_,e⟩:=yj.mp h;exact bo e
def ajy {n:Nat} {M:Int} (h:0<=M):(if M< (n:Int) then((n:Int)- M+6- 1)/6 else 0).toNat<=n:=by
 by_cases hl:M< (n:Int)
 ·rw[if_pos hl];refine Int.toNat_le.mpr (Int.ediv_le_of_le_mul ∅ ?_);rw[rF,show(n:Int)*6=n+n*5 from Int.mul_add _ 1 5▸by rw[Int.mul_one]];exact F7 (Int.sub_le_self _ h) (Cy (qR h hl:(1:Int)<=n) (by decide:(0:Int)<=5))
 ·rw[if_neg hl];exact cJ _
def BM (l:List α) (k:Nat): ↑(cP l (aa (k:Int)) ac (aa 6))<= ↑l:=by unfold cP sliceRange sliceBounds;refine aA (List.length_filterMap_le _ _) ?_;rw[aw,rx];exact ajy (XN _ _)
def sum_bound (l:List Int) (h:∀x∈l,0<=x/\x<1000000):0<=l.sum/\l.sum<= ↑l*1000000:=by
 induction l with
 |nil=>exact⟨wy _,wy _⟩
 |cons x l ih=>have h1:=h x ay;have h2:=ih λy hy=>h y (aK _ hy);rw[List.sum_cons,az,pM,Int.add_mul,ug x];exact⟨Int.add_nonneg h2.1 h1.1,F7 h2.2 (Int.le_of_lt h1.2)⟩
noncomputable def numsOf (l:List Int):List Int:=(l.take 60).map λx=>x.fmod 1000000
noncomputable def xP (k:Nat):Int:=[2361,1109,445,4291,1933,3006].getD k 0
def sumOf (l:List Int) (k:Nat):Int:=xP k+(cP (numsOf l) (aa (k:Int)) ac (aa 6)).sum
def numsOf_len (l:List Int): ↑(numsOf l)<=60:=by unfold numsOf;rw[aw,cG];exact j6 ..
def Jw (h:x∈numsOf l):0<=x/\x<1000000:=by unfold numsOf at h;let ⟨y,_,e⟩:=aQ.mp h;subst e;exact⟨Int.fmod_nonneg_of_pos _ ∅,Int.fmod_lt_of_pos _ ∅⟩
def BN (k:Nat):0<=xP k/\xP k<=5000:=by
 match k with
 |0=>decide
 |1=>decide
 |2=>decide
 |3=>decide
 |4=>decide
 |5=>decide
 |k+6=>show 0<=(0:Int)/\(0:Int)<=5000;decide
def zq (l:List Int) (k:Nat):0<=sumOf l k/\sumOf l k<=61000000:=by have h1:=BN k;have h2:=sum_bound (cP (numsOf l) (aa (k:Int)) ac (aa 6)) λx hx=>Jw (tJ hx);exact⟨Int.add_nonneg h1.1 h2.1,dZ (F7 h1.2 (dZ h2.2 (Cy (fJ.mpr (aA (BM (numsOf l) k) (numsOf_len l))) (by decide:(0:Int)<=1000000)))) ∅⟩
def Fh (l:List Int):St:= {lv:=[~~~(.lst (l.map PV.int)),ac,ac,ac,ac,ac,ac,ac,ac,ac,ac,ac,ac,ac,ac,ac,ac,ac],cv:=[ac,ac,ac,ac,ac,ac,ac,ac,ac,ac,ac,ac,ac,ac,~~~(.lst ((numsOf l).map PV.int)),ac],ob:=[]}
def afI (l:List Int) (hl: ↑l<=63):Af (tH l)=aa (.next,Fh l):=by
 have hit:jA (fN (ak 0) eB (gV ⇑60) eB) (tH l)=aa ((l.take 60).map PV.int):=by
  have e:fN (ak 0) eB (gV ⇑60) eB (tH l)=(ph (tH l) (.pv (.lst (l.map PV.int))) ac (aa 60) ac).map CV.pv:=rfl;have e2:ph (tH l) (.pv (.lst (l.map PV.int))) ac (aa 60) ac=aa (.lst ((l.take 60).map PV.int)):=by
   show(if ↑(l.map PV.int)<=sizeLine/\(ac:Option Int)≠aa 0 then aa (PV.lst (cP (l.map PV.int) ac (aa 60) ac)) else ac)=_;rw[if_pos ⟨by rw[aw];exact acb hl (show sizeLine=2 ^ 24 by decide),by simp⟩,tI,mM];simp only[Option.elim,El,Nat.sub_zero];rw[show(60:Int)=((60:Nat):Int) from rfl,clipAt_nat];rcases z2 60 ↑l with h|h
   ·rw[iz h]
   ·rw[VY h,eO (ab _),eO h]
  unfold jA;rw[e,e2];rfl
 unfold Af bZ;erw [lh (J:=λst=>∃a,st=⟨[a],[],[]⟩) (p:=λq=>true) (g:=λx=>match x with| .int i=> .int (i.fmod 1000000)|x=>x) hit (by rw[aw,cG];exact acd) ⟨ac,rfl⟩ ?_]
 ·rw[bM.mpr (λq q=>rfl),bD];show aa (pu.next,rN 14 (.pv (.lst ((l.take 60).map _))) (tH l))=_;unfold Fh numsOf;rw[bD];rfl
 ·rintro x hx st ⟨a,rfl⟩;let ⟨i,_,rfl⟩:=aQ.mp hx;exact⟨_,rfl,rfl,⟨_,rfl⟩,λq=>rfl⟩
def tK (st:St) (a b:Int):MS st .Add (.pv (.int a)) (.pv (.int b))=aa (.int (a+b)):=rfl
def dq (h1:f st=aa a) (h2:g st=aa b) (h:MS st op a b=aa d):ba op f g st= ~~~d:=by unfold ba vh;rw[h1,h2];show(MS st op a b).map _=_;rw[h];rfl
def Ho (h:AZ op x y=aa d):MS st op (.pv x) (.pv y)=aa d:=by show(AZ op x y).or _=_;rw[h];rfl
def vO (n:Nat): ↑(iJ n)=n:=by unfold iJ;rw[aw,rx]
noncomputable def ig (n:Nat->Int):List PV:=(cK 6).map λk=>PV.int (n k)
def Fi (l:List Int):St:= {lv:=[~~~(.lst (l.map PV.int)),ac,ac,ac,ac,ac,ac,ac,ac,ac,ac,ac,ac,ac,ac,ac,ac,ac],cv:=[ac,ac,ac,ac,ac,ac,ac,ac,ac,ac,ac,ac,ac,~~~(.lst (ig (sumOf l))),~~~(.lst ((numsOf l).map PV.int)),ac],ob:=[]}
def Hp (l:List Int) (k:Nat):fN (aX 0) (gV (ak 0)) eB (gV ⇑6) ⟨[~~~(.int (k:Int))],[~~~(.lst ((numsOf l).map PV.int))],[]⟩= ~~~(.lst ((cP (numsOf l) (aa (k:Int)) ac (aa 6)).map PV.int)):=by
 have e2:ph ⟨[~~~(.int (k:Int))],[~~~(.lst ((numsOf l).map PV.int))],[]⟩ (.pv (.lst ((numsOf l).map PV.int))) (aa (k:Int)) ac (aa 6)=aa (.lst ((cP (numsOf l) (aa (k:Int)) ac (aa 6)).map PV.int)):=by show(if ↑((numsOf l).map PV.int)<=sizeLine/\(aa 6:Option Int)≠aa 0 then aa (PV.lst (cP ((numsOf l).map PV.int) (aa (k:Int)) ac (aa 6))) else ac)=_;rw[if_pos ⟨by rw[aw];exact aA (numsOf_len l) ∅,by simp⟩,tI]
 show(ph _ _ _ _ _).map CV.pv=_;rw[e2];rfl
def NA (l:List Int) (k:Nat):dJ MW (au (fN (aX 0) (gV (ak 0)) eB (gV ⇑6)) aZ) ⟨[~~~(.int (k:Int))],[~~~(.lst ((numsOf l).map PV.int))],[]⟩= ~~~(.int (cP (numsOf l) (aa (k:Int)) ac (aa 6)).sum):=by unfold dJ au aZ;rw[Hp];show((jQ ((cP (numsOf l) (aa (k:Int)) ac (aa 6)).map PV.int)).map λns=>CV.pv (.int ns.sum))=_;rw[pj];rfl
abbrev Q0:St->Option CV:=bk (jc (au ⇑2361 (au ⇑1109 (au ⇑445 (au ⇑4291 (au ⇑1933 (au ⇑3006 aZ))))))) (ak 0)
@[elab_as_elim] theorem Ts {P:Nat->Prop} (h:k<6) (h0:P 0) (h1:P 1) (h2:P 2) (h3:P 3) (h4:P 4) (h5:P 5):P k:=by
 match k with
 |0=>exact h0
 |1=>exact h1
 |2=>exact h2
 |3=>exact h3
 |4=>exact h4
 |5=>exact h5
 |k+6=>exact absurd h (dE (gR ..))
def Hq (c:CV) (k:Nat) (hk:k<6):Q0 ⟨[~~~(.int (k:Int))],[aa c],[]⟩= ~~~(.int (xP k)):=Ts hk rfl rfl rfl rfl rfl rfl
def NB (l:List Int) (k:Nat) (hk:k<6):ba .Add Q0 (dJ MW (au (fN (aX 0) (gV (ak 0)) eB (gV ⇑6)) aZ)) ⟨[~~~(.int (k:Int))],[~~~(.lst ((numsOf l).map PV.int))],[]⟩= ~~~(.int (sumOf l k)):=by rw[dq (Hq _ k hk) (NA l k) (tK _ _ _)];unfold sumOf;rfl
def afJ (l:List Int):Ag (Fh l)=aa (.next,Fi l):=by
 unfold Ag bZ;erw [lh (J:=λst=>∃a,st=⟨[a],[~~~(.lst ((numsOf l).map PV.int))],[]⟩) (p:=λq=>true) (xs:=iJ 6) (g:=λx=>match x with| .int i=> .int (sumOf l i.toNat)|x=>x) rfl (by rw[vO];exact gR _ _) ⟨ac,rfl⟩ ?_]
 ·rw[bM.mpr (λq q=>rfl)];unfold iJ;rw[bD];rfl
 ·rintro x hx st ⟨a,rfl⟩;let ⟨k,hk,rfl⟩:=aQ.mp hx;rw[dK]at hk;exact⟨⟨[~~~(.int (k:Int))],[~~~(.lst ((numsOf l).map PV.int))],[]⟩,rfl,rfl,⟨_,rfl⟩,λq=>NB l k hk⟩
noncomputable def fl (n:Nat):UInt64:=Df (n:Int)
noncomputable def nm (i:Nat):Str:=⟨#[97+i]⟩
noncomputable def up (i:Nat):Str:=⟨#[65+i]⟩
noncomputable def L6:List Nat:=cK 6
def fZ:i∈L6↔i<6:=dK
def Jx (h:nm i=nm j):i=j:=by have:=congrArg (λs:Str=>s.cps.toList) h;simp[nm]at this;exact this
def Jy (i j:Nat):(nm i==nm j)=(i==j):=by rw[dr,beq_iff_eq,beq_iff_eq];exact⟨Jx,λh=>by rw[h]⟩
def Hr:∀ {l:Nz},l.Nodup->(l.map nm).Nodup:=λh=>gX _ (λa b Mp e=>Mp (Jx e)) h
def li:L6.Nodup:=TK
def cq (F:Nat->PV):PV:= .oQ (L6.map λi=>(nm i,F i))
def vP {F:Nat->PV} {l:Nz}:j∈l->(l.map λi=>(nm i,F i)).lookup (nm j)=aa (F j):=by
 induction l with
 |nil=>intro h;nomatch h
 |cons a l ih=>
  intro h;rw[bx,di,Jy];cases e:(j==a)with
  |true=>rw[beq_iff_eq]at e;subst e;rfl
  |false=>
   rcases aH.mp h with rfl|h
   ·rw[beq_self_eq_true]at e;nomatch e
   ·exact ih h
def gj (st:St) (F:Nat->PV) (hj:j∈L6):nZ st (.pv (cq F)) (.pv (.str (nm j)))=aa (F j):=by show((aa (L6.map λi=>(nm i,F i))).bind (·.lookup (nm j)))=_;rw[bK,vP hj]
def cA (h1:f st=aa o) (h2:g st=aa i) (h:nZ st o i=aa d):bk f g st= ~~~d:=by unfold bk vh;rw[h1,h2];show(nZ st o i).map _=_;rw[h];rfl
def UW (n:Nat) (hn:n<100):0<=(n:Int)/\(n:Int)<2 ^ 63:=⟨dN n,jp (cD.mpr hn) ∅⟩
def UX (h:0<=i/\i<2 ^ 63):nZ st o (.pv (.int i))=Lu st o i.toNat:=if_pos h
def Ao {n:Nat} (h:n<100):nZ st o (.pv (.int (n:Int)))=Lu st o n:=UX (UW n h)
def ky (st:St) (l:List PV) (n:Nat) (hn:n<100) (h:l[n]? =aa d):nZ st (.pv (.lst l)) (.pv (.int (n:Int)))=aa d:=(Ao hn).trans h
def mO (st:St) (l:List PV) (n:Nat) (hn:n<100) (h:l[n]? =aa d):nZ st (.pv (.tup l)) (.pv (.int (n:Int)))=aa d:=(Ao hn).trans h
def uz (st:St) (x:Str) (n:Nat) (hn:n<100) (h:x.cps[n]? =aa c):nZ st (.pv (.str x)) (.pv (.int (n:Int)))=aa (.str ⟨#[c]⟩):=(Ao hn).trans (by
 show(x.cps[n]?).map _=_;rw[h];rfl)
def qJ (st:St) (F:Nat->PV) (h:f st= ~~~(cq F)):jA f st=aa (L6.map λi=> .str (nm i)):=by unfold jA;rw[h];show aa ((L6.map λi=>(nm i,F i)).map λp=>PV.str p.1)=_;rw[bD]
def afK (a b:Nat):Int.fmod (a:Int) (b:Int)=((a%b:Nat):Int):=by rw[Int.fmod_eq_emod_of_nonneg _ (dN b)];rfl
def afL (a b:Nat):Int.fdiv (a:Int) (b:Int)=((a/b:Nat):Int):=by rw[F6 _ (dN b)];rfl
def rk (st:St) (a b:Nat) (hb:b≠0):MS st .Mod (.pv (.int a)) (.pv (.int b))=aa (.int ((a%b:Nat):Int)):=by
 have e:AZ .Mod (.int a) (.int b)=aa (.int ((a%b:Nat):Int)):=by show(if (b:Int)≠0 then aa (PV.int (Int.fmod a b)) else ac)=_;rw[if_pos λe=>hb (qm e),afK]
 exact Ho e
def Xd {a:Nat} (h:a<500000000):AX (a:Int)=true:=dD.mpr ⟨decide_eq_true (Tf ∅ (dN a)),decide_eq_true (jp (cD.mpr h) ∅)⟩
def xQ (st:St) (a b:Nat) (hb:b≠0) (ha:a<500000000) (uU:b<500000000):MS st .FloorDiv (.pv (.int a)) (.pv (.int b))=aa (.int ((a/b:Nat):Int)):=by
 have e:AZ .FloorDiv (.int a) (.int b)=aa (.int ((a/b:Nat):Int)):=by show(if (b:Int)≠0/\AX a=true/\AX b=true then aa (PV.int (Int.fdiv a b)) else ac)=_;rw[if_pos ⟨λe=>hb (qm e),Xd ha,Xd uU⟩,afL]
 exact Ho e
def bA (h1:f st=aa a) (h2:g st=aa l):au f g st=aa (a::l):=by unfold au;rw[h1,h2];rfl
def rW (h:g st=aa l) (hp:MU l=aa ds) (hl: ↑ds<=1000):kb g st= ~~~(.lst ds):=by unfold kb;rw[h,bK,hp,bK,if_pos hl]
def qt (h:g st=aa l) (hp:MU l=aa ds) (hl: ↑ds<=1000):jc g st= ~~~(.tup ds):=by unfold jc;rw[h,bK,hp,bK,if_pos hl]
def aU (h:f st=aa (.next,st1)):aC f g st=g st1:=by unfold aC;rw[h]
def tL (h:b st=aa true):jC b f g st=f st:=by unfold jC;rw[h];rfl
def jY (h:b st=aa false):jC b f g st=g st:=by unfold jC;rw[h];rfl
def fU (h1:f st=aa a) (h2:g st=aa b) (h:sY st op a b=aa r):bY op f g st=aa r:=by unfold bY vh;rw[h1,h2];exact h
def dw (h:f st=aa (.next,cf)):aC f br st=aa (.next,cf):=aU h
def uA (h:f st=aa (.ret v,st1)):aC f g st=aa (.ret v,st1):=by unfold aC;rw[h]
def mZ (h:fa st=aa l) (hp:MU l=aa ds) (hv:g ds=aa d):kh g fa st= ~~~d:=by unfold kh;erw [h,bK,hp,bK,hv];rfl
def BO {l:List PV} (h:∀x∈l,f x x=aa true):sr f l l=aa true:=by
 induction l with
 |nil=>rfl
 |cons a l ih=>show((f a a).bind λx=>(sr f l l).map (x&& ·))=_;rw[h a ay,ih λx hx=>h x (aK _ hx)];rfl
def lH (h:∀x∈l,PV.Ez 3 x x=aa true):iI l l=aa true:=by unfold iI;exact(if_pos rfl)▸(BO h)
def uB (n:Nat) (x:Str):PV.Ez (n+1) (.str x) (.str x)=aa true:=by show aa (x==x)=_;rw[beq_self_eq_true]
def LW (n:Nat) (x:Int):PV.Ez (n+1) (.int x) (.int x)=aa true:=by show aa (x==x)=_;rw[beq_self_eq_true]
def LX (n:Nat) (h:∀x∈l,PV.Ez n x x=aa true):PV.Ez (n+1) (.tup l) (.tup l)=aa true:=by show(sr (PV.Ez n) l l).map (λr=>r&& ↑l== ↑l)=_;rw[BO h,AF,beq_self_eq_true];rfl
def tM (l:List Str):iI (l.map PV.str) (l.map PV.str)=aa true:=lH λx hx=>by let ⟨s,_,rfl⟩:=aQ.mp hx;exact uB 2 s
def Hs (l:List Int):iI (l.map PV.int) (l.map PV.int)=aa true:=lH λx hx=>by let ⟨s,_,rfl⟩:=aQ.mp hx;exact LW 2 s
def iK (h:fa st=aa l) (hg:g st l=aa v):dJ g fa st=aa v:=by unfold dJ;exact h▸hg
def rX (h1:f st=aa a) (h2:g st=aa b):wY f g st=aa (a&&b):=by
 unfold wY;rw[h1];cases a
 ·rfl
 ·exact h2
def LY (h:b st=aa r):qG b st= ~~~(PV.bool r):=by unfold qG;rw[h];rfl
def Jz (h:b st=aa true):mv (qG b) st=aa true:=by unfold mv qG;rw[h];rfl
def yF (h:T8 op x y=aa r):sY st op (.pv x) (.pv y)=aa r:=by show(T8 op x y).or _=_;rw[h];rfl
def Fj (st:St) (h:iI l l=aa true):sY st .Eq (.pv (.lst l)) (.pv (.lst l))=aa true:=yF h
def vQ (st:St) (h:iI l l=aa true):sY st .NotEq (.pv (.lst l)) (.pv (.lst l))=aa false:=yF (by show(iI l l).map (!·)=_;rw[h];rfl)
noncomputable def BP (a b:Bool):Bool:= @qE (λq=>Bool) false b a
def LZ {a b:Bool} (h:BP a b=true):a=true/\b=true:=by
 cases a
 ·nomatch h
 ·exact⟨rfl,h⟩
noncomputable def JA (f:Nat->Bool) (n:Nat):Bool:=KJ true (λk r=>BP (f k) r) n
def uC {f:Nat->Bool} {n:Nat} (h:JA f n=true) {k:Nat} (hk:k<n):f k=true:=by
 induction n with
 |zero=>nomatch hk
 |succ n ih=>exact(Nat.lt_succ_iff_lt_or_eq.mp hk).elim (ih (LZ h).2) λe=>e▸(LZ h).1
noncomputable def eqU (x y:UInt64):Bool:=ql x.toNat y.toNat
def Q1 {x y:UInt64} (h:eqU x y=true):x=y:=UInt64.toNat_inj.mp (Nat.eq_of_beq_eq_true h)
def Q2 {P:Prop} (h:false=true):P:=eU h
def afM (a b:UInt64):Option PV->Bool
 |some (.tup [.fE x,.fE y,.con (.bool true)])=>eqU x a&&eqU y b
 |_=>false
def UY {a b:UInt64} {o:Option PV} (h:afM a b o=true):o=aa (.tup [.fE a,.fE b,PV.bool true]):=by
 cases o with
 |none=>exact Q2 h
 |some p=>cases p with
  |tup l=>cases l with
   |nil=>exact Q2 h
   |cons x l=>cases x with
    |fE x=>cases l with
     |nil=>exact Q2 h
     |cons y l=>cases y with
      |fE y=>cases l with
       |nil=>exact Q2 h
       |cons z l=>cases z with
        |con v=>cases v with
         |bool c=>cases c with
          |false=>exact Q2 h
          |true=>cases l with
           |nil=>have h:=(dD.mp h);rw[Q1 h.1,Q1 h.2]
           |cons=>exact Q2 h
         |_=>exact Q2 h
        |_=>exact Q2 h
      |_=>exact Q2 h
    |_=>exact Q2 h
  |_=>exact Q2 h
noncomputable def afN (r g b:Nat):Bool:=afM (MQ ((min r (min g b):Nat):Int)) (MQ ((max r (max g b):Nat):Int)) (nx [.int r,.int g,.int b])
noncomputable def tN (r:Nat):Bool:=JA (λg=>JA (afN r g) 9) 9
def UZ {f:Nat->Bool} (h0:f (nat_lit 0)=true) (h1:f (nat_lit 1)=true) (h2:f (nat_lit 2)=true) (h3:f (nat_lit 3)=true) (h4:f (nat_lit 4)=true) (h5:f (nat_lit 5)=true) (h6:f (nat_lit 6)=true) (h7:f (nat_lit 7)=true) (h8:f (nat_lit 8)=true):JA f 9=true:=by show BP (f (nat_lit 8)) (BP (f (nat_lit 7)) (BP (f (nat_lit 6)) (BP (f (nat_lit 5)) (BP (f (nat_lit 4)) (BP (f (nat_lit 3)) (BP (f (nat_lit 2)) (BP (f (nat_lit 1)) (BP (f (nat_lit 0)) true))))))))=true;rw[h8,h7,h6,h5,h4,h3,h2,h1,h0];rfl
set_option maxHeartbeats 0
def JB:tN (nat_lit 0)=true/\tN (nat_lit 1)=true/\tN (nat_lit 2)=true:=by refine⟨?_,?_,?_⟩<;>apply UZ<;>decide+kernel
def JC:tN (nat_lit 3)=true/\tN (nat_lit 4)=true/\tN (nat_lit 5)=true:=by refine⟨?_,?_,?_⟩<;>apply UZ<;>decide+kernel
def JD:tN (nat_lit 6)=true/\tN (nat_lit 7)=true/\tN (nat_lit 8)=true:=by refine⟨?_,?_,?_⟩<;>apply UZ<;>decide+kernel
set_option maxHeartbeats 200000
def Q3 {r:Nat} (hr:r<9):tN r=true:=uC (f:=tN) (n:=9) (UZ JB.1 JB.2.1 JB.2.2 JC.1 JC.2.1 JC.2.2 JD.1 JD.2.1 JD.2.2) hr
def U0 {r g b:Nat} (hr:r<9) (hg:g<9) (hb:b<9):nx [.int r,.int g,.int b]=aa (.tup [.fE (fl (min r (min g b))),.fE (fl (max r (max g b))),PV.bool true]):=by unfold fl;rw[<- z7,<- z7];exact UY (uC (uC (Q3 hr) hg) hb)
noncomputable def U1 (f a c:Nat):List PV:=[.fE (mf f 8),.fE (mf ((1+a:Nat):Int) 4),.fE (mf ((1+c:Nat):Int) 8)]
noncomputable def fl? :PV->Option UInt64
 | .fE y=>aa y
 |_=>ac
noncomputable def t3? :PV->Option (PV×PV×PV)
 | .tup [a,b,c]=>aa (a,b,c)
 |_=>ac
def flE {d:PV} {y:UInt64} (h:fl? d=aa y):d= .fE y:=by
 cases d with
 |fE z=>exact congrArg PV.fE (ag h)
 |_=>exact gq h
def t3E {d:PV} {a:PV×PV×PV} (h:t3? d=aa a):d= .tup [a.1,a.2.1,a.2.2]:=by
 cases d with
 |tup l=>
  rcases l with _|⟨x,_|⟨y,_|⟨z,_|_⟩⟩⟩
  ·exact gq h
  ·exact gq h
  ·exact gq h
  ·obtain rfl:=ag h;rfl
  ·exact gq h
 |_=>exact gq h
noncomputable def ajA (f:Nat) (y:UInt64):Option Unit:=if (jx y&&(qz ia y).fmod 8==f)=true then aa () else ac
def afO (f:Nat) (l:List PV):Option Unit:=(iw l).bind λp=>(t3? p).bind λa=>(i8 [a.1,a.2.1,a.2.2]).bind λq=>(t3? q).bind λb=>(AZ .Mult b.1 (.int 8)).bind λr=>(fl? r).bind (ajA f)
def U2:JA (λc=>JA (λa=>JA (λf=>(afO f (U1 f a c)).isSome) 6) 4) 8=true:=by kernel_rfl
def U3 {f:Nat} {l:List PV} {u:Unit} (h:afO f l=aa u):∃(r g b h l' s:PV) (y:UInt64),iw l=aa (.tup [r,g,b])/\i8 [r,g,b]=aa (.tup [h,l',s])/\AZ .Mult h (.int 8)=aa (.fE y)/\jx y=true/\(qz ia y).fmod 8=f:=
 have⟨_,e1,h⟩:=aG.mp h;have⟨_,k1,h⟩:=aG.mp h;have⟨_,e2,h⟩:=aG.mp h;have⟨_,k2,h⟩:=aG.mp h;have⟨_,e3,h⟩:=aG.mp h;have⟨_,k3,h⟩:=aG.mp h;have h:=dD.mp (dS h).1
 ⟨_,_,_,_,_,_,_,t3E k1▸e1,t3E k2▸e2,flE k3▸e3,h.1,beq_iff_eq.mp h.2⟩
def Q4 {f a c:Nat} (hf:f<6) (ha:a<4) (hc:c<8):∃(r g b h l s:PV) (y:UInt64),iw (U1 f a c)=aa (.tup [r,g,b])/\i8 [r,g,b]=aa (.tup [h,l,s])/\AZ .Mult h (.int 8)=aa (.fE y)/\jx y=true/\(qz ia y).fmod 8=f:=
 have⟨_,h⟩:=jk.mp (uC (uC (uC U2 hc) ha) hf)
 U3 h
noncomputable def dR (n:Nat):Nat:=n%9
noncomputable def dG (n:Nat):Nat:=n/9%9
noncomputable def dB (n:Nat):Nat:=n/81%9
noncomputable def dP (n:Nat):Nat:=n/729%7
def cF (n:Nat):PV:= .lst [.int (dR n:Int),.int (dG n:Int),.int (dB n:Int)]
noncomputable def Ap:List (List Str):=[[],[ah "\\("],[ah "\\)"],[ah "\"",ah "(",ah "\""],[ah "\"",ah ")",ah "\""],[ah "\\\""],[ah "\\\\"]]
def jt:PV:= .tup (Ap.map λl=> .lst (l.map PV.str))
def Fk (p:Nat):List Str:=Ap.getD p []
def g0 (p:Nat):PV:= .lst ((Fk p).map PV.str)
def lo (n:Nat):Nat:=min (dR n) (min (dG n) (dB n))
def hi (n:Nat):Nat:=max (dR n) (max (dG n) (dB n))
def jR (n:Nat):PV:= .tup [.fE (fl (lo n)),.fE (fl (hi n)),PV.bool true]
def hU (qo:List PV):List CO:=[.attrs [(a6,.ob 2)],.qb,.list qo]
def st3 (l:List Int) (n:NN):St:= {lv:=[~~~(.lst (l.map PV.int)),ac,ac,ac,ac,ac,ac,ac,ac,ac,ac,ac,ac,ac,ac,ac,ac,ac],cv:=[ac,ac,ac,ac,ac,ac,ac,ac,ac,ac,ac,ac,ac,~~~(.lst (ig λk=>(n k:Int))),~~~(.lst ((numsOf l).map PV.int)),ac],ob:=[]}
def st4 (l:List Int) (n:NN):St:= {lv:=[~~~(.lst (l.map PV.int)),ac,ac,ac,ac,ac,ac,ac,ac,ac,ac,ac,ac,ac,ac,ac,ac,ac],cv:=[ac,ac,ac,ac,ac,ac,ac,ac,ac,ac,ac,ac,~~~(cq λk=>cF (n k)),~~~(.lst (ig λk=>(n k:Int))),~~~(.lst ((numsOf l).map PV.int)),ac],ob:=[]}
def st5 (l:List Int) (n:NN):St:= {lv:=[~~~(.lst (l.map PV.int)),ac,ac,ac,ac,ac,ac,ac,ac,ac,ac,ac,ac,ac,ac,ac,ac,ac],cv:=[ac,ac,ac,ac,ac,ac,ac,ac,ac,ac,ac,~~~jt,~~~(cq λk=>cF (n k)),~~~(.lst (ig λk=>(n k:Int))),~~~(.lst ((numsOf l).map PV.int)),ac],ob:=[]}
def st6 (l:List Int) (n:NN):St:= {lv:=[~~~(.lst (l.map PV.int)),ac,ac,ac,ac,ac,ac,ac,ac,ac,ac,ac,ac,ac,ac,ac,ac,ac],cv:=[ac,ac,ac,ac,ac,ac,ac,ac,ac,ac,~~~(cq λk=>g0 (dP (n k))),~~~jt,~~~(cq λk=>cF (n k)),~~~(.lst (ig λk=>(n k:Int))),~~~(.lst ((numsOf l).map PV.int)),ac],ob:=[]}
def st7 (l:List Int) (n:NN):St:= {lv:=[~~~(.lst (l.map PV.int)),ac,ac,ac,ac,ac,ac,ac,ac,ac,ac,ac,ac,ac,ac,ac,ac,ac],cv:=[ac,ac,ac,ac,ac,ac,ac,ac,aa (.inst 0),~~~(cq λk=>jR (n k)),~~~(cq λk=>g0 (dP (n k))),~~~jt,~~~(cq λk=>cF (n k)),~~~(.lst (ig λk=>(n k:Int))),~~~(.lst ((numsOf l).map PV.int)),ac],ob:=hU []}
def L0 {k:Nat} (hk:k<6):(ah "abcdef").cps[k]? =aa (97+k):=by refine Ts hk ?_ ?_ ?_ ?_ ?_ ?_<;>decide
def Ht (n:NN) (hk:k<6):(ig λk=>(n k:Int))[k]? =aa (.int (n k:Int)):=by unfold ig;rw[bO,List.getElem?_range hk];rfl
def DL (F:Nat->PV) (g:PV->PV) (hg:∀k:Nat,g (.int (k:Int))=F k) (kx:PV->Str) (hk:∀k:Nat,kx (.int (k:Int))=nm k):PV.oQ ((iJ 6).map λx=>(kx x,g x))=cq F:=by unfold iJ cq L6;rw[bD];congr 1;apply cj;intro k _;show(kx (.int (k:Int)),g (.int (k:Int)))=_;rw[hg,hk]
def kxI:PV->Str
 | .int i=>nm i.toNat
 |_=>nm 0
def xR:((iJ 6).map kxI).Nodup:=by unfold iJ;rw[bD];exact gX _ (λa b Mp e=>Mp (Jx (by simpa[kxI]using e))) TK
def BQ (h:x∈iJ m):∃k:Nat,k<m/\x= .int (k:Int):=by let ⟨k,hk,e⟩:=aQ.mp h;exact⟨k,dK.mp hk,e.symm⟩
def afQ (l:List Int) (n:NN) (hn:∀k,n k<=100000000):Ah (st3 l n)=aa (.next,st4 l n):=by
 unfold Ah bZ;erw [uy (J:=λst=>∃a,st=⟨[a],[~~~(.lst (ig λk=>(n k:Int)))],[]⟩) (kx:=kxI) (xs:=iJ 6) (vx:=λx=>match x with| .int i=>cF (n i.toNat)|x=>x) rfl (by rw[vO];exact Wk) xR ⟨ac,rfl⟩ ?_]
 ·rw[DL (λk=>cF (n k)) _ (λk=>rfl) _ (λk=>rfl)];rfl
 ·rintro x hx st ⟨a,rfl⟩;let ⟨k,hk,rfl⟩:=BQ hx;have S1:bk (aX 0) (ak 0) ⟨[~~~(.int (k:Int))],[~~~(.lst (ig λk=>(n k:Int)))],[]⟩= ~~~(.int (n k:Int)):=cA rfl rfl (ky _ _ k (by exact Gn hk) (Ht n hk));have ZR:=hn k;refine⟨⟨[~~~(.int (k:Int))],[~~~(.lst (ig λk=>(n k:Int)))],[]⟩,rfl,⟨_,rfl⟩,cA rfl rfl (uz _ _ k (by exact Gn hk) (L0 hk)),?_⟩;exact rW (bA (dq S1 rfl (rk _ (n k) 9 ∅)) (bA (dq (dq S1 rfl (xQ _ (n k) 9 ∅ (by exact Pf ZR) ∅)) rfl (rk _ (n k/9) 9 ∅)) (bA (dq (dq S1 rfl (xQ _ (n k) 81 ∅ (by exact Pf ZR) ∅)) rfl (rk _ (n k/81) 9 ∅)) rfl))) rfl (by simp)
def afR (l:List Int) (n:NN):Fg (st4 l n)=aa (.next,st5 l n):=by rfl
def afS (l:List Int) (n:NN) (hn:∀k,n k<=100000000):Ai (st5 l n)=aa (.next,st6 l n):=by
 unfold Ai bZ;erw [uy (J:=λst=>∃a,st=⟨[a],[~~~(.lst (ig λk=>(n k:Int))),~~~jt],[]⟩) (kx:=kxI) (xs:=iJ 6) (vx:=λx=>match x with| .int i=>g0 (dP (n i.toNat))|x=>x) rfl (by rw[vO];exact Wk) xR ⟨ac,rfl⟩ ?_]
 ·rw[DL (λk=>g0 (dP (n k))) _ (λk=>rfl) _ (λk=>rfl)];rfl
 ·rintro x hx st ⟨a,rfl⟩;let ⟨k,hk,rfl⟩:=BQ hx;have S1:bk (aX 0) (ak 0) ⟨[~~~(.int (k:Int))],[~~~(.lst (ig λk=>(n k:Int))),~~~jt],[]⟩= ~~~(.int (n k:Int)):=cA rfl rfl (ky _ _ k (by exact Gn hk) (Ht n hk));have ZR:=hn k;refine⟨⟨[~~~(.int (k:Int))],[~~~(.lst (ig λk=>(n k:Int))),~~~jt],[]⟩,rfl,⟨_,rfl⟩,cA rfl rfl (uz _ _ k (by exact Gn hk) (L0 hk)),?_⟩;have hp:dP (n k)<7:=fO _ ∅;refine cA rfl (dq (dq S1 rfl (xQ _ (n k) 729 ∅ (by exact Pf ZR) ∅)) rfl (rk _ (n k/729) 7 ∅)) ?_;refine mO _ _ (dP (n k)) (by exact aci hp) ?_;show(Ap.map λl=>PV.lst (l.map PV.str))[dP (n k)]? =aa (g0 (dP (n k)));rw[bO];unfold g0 Fk;rw[qB];have cI: ↑Ap=7:=rfl;rw[aq (by rw[cI];exact hp)];rfl
def afT (l:List Int) (n:NN):Aj (st6 l n)=aa (.next,st7 l n):=by
 have h:lz Hk (jA (aX 12)) (dM (bf 0) fF (te (ak 0) (kh nx (au (bk (bk (aX 0) (ak 0)) ⇑0) (au (bk (bk (aX 0) (ak 0)) ⇑1) (au (bk (bk (aX 0) (ak 0)) ⇑2) aZ)))))) (st6 l n)= ~~~(cq λk=>jR (n k)):=by
  erw [uy (J:=λst=>∃a,st=⟨[a],[~~~(cq λk=>cF (n k))],[]⟩) (kx:=λx=>match x with| .str s=>s|_=>nm 0) (xs:=L6.map λi=> .str (nm i)) (vx:=λx=>match x with| .str s=>jR (n (s.cps.toList.headD 0- 97))|x=>x) (qJ _ (λk=>cF (n k)) rfl) ∅ (by rw[bD];exact Hr li) ⟨ac,rfl⟩ ?_]
  ·rw[bD];unfold cq;congr 4;funext k;show(nm k,jR (n ((nm k).cps.toList.headD 0- 97)))=_;rw[show(nm k).cps.toList.headD 0- 97=k by simp[nm]]
  ·rintro x hx st ⟨a,rfl⟩;let ⟨k,hk,rfl⟩:=aQ.mp hx;have hp:bk (aX 0) (ak 0) ⟨[~~~(.str (nm k))],[~~~(cq λk=>cF (n k))],[]⟩= ~~~(cF (n k)):=cA rfl rfl (gj _ _ hk);refine⟨⟨[~~~(.str (nm k))],[~~~(cq λk=>cF (n k))],[]⟩,rfl,⟨_,rfl⟩,rfl,?_⟩;rw[mZ (bA (cA hp rfl (ky ⟨[~~~(.str (nm k))],[~~~(cq λk=>cF (n k))],[]⟩ [.int (dR (n k):Int),.int (dG (n k):Int),.int (dB (n k):Int)] 0 ∅ rfl) (g:= ⇑0)) (bA (cA hp rfl (ky _ _ 1 ∅ rfl) (g:= ⇑1)) (bA (cA hp rfl (ky _ _ 2 ∅ rfl) (g:= ⇑2)) (rfl:aZ _=aa [])))) rfl (U0 (fO _ ∅) (fO _ ∅) (fO _ ∅))];show aa (CV.pv (jR (n k)))=aa (CV.pv (jR (n ((nm k).cps.toList.headD 0- 97))));rw[show(nm k).cps.toList.headD 0- 97=k by simp[nm]]
 unfold Aj GP ji lb;rw[h];rfl
def uD (h1:f st=aa (.ob j)) (h2:fa st=aa cs) (h3:MU cs=aa ds) (h4:st.ob[j]? =aa (.list l)) (h5:g l ds=aa (r,l')):
  oE g f fa st=aa (.next,qY j (.list l') st):=by
 unfold oE;rw[h1,h2];show(MU cs).bind _=_;rw[h3];show(Tj st.ob[j]?).bind _=_;rw[h4];show(g l ds).map _=_;rw[h5];rfl
def pE (h: ↑l<100000):gZ l [d]=aa (PV.none,l++[d]):=if_pos h
def BR (h1:f st=aa (.inst j)) (h2:fe st= ~~~(.str x)) (h3:st.ob[j]? =aa (.attrs [(a6,v)])) (h4:kR (codeOf b) x=aa false):qr b f fe st= ~~~(.str x):=yz h1 h2 h3 h4
def BS (h1:f st=aa (.inst j)) (h3:st.ob[j]? =aa (.attrs [(a6,.ob h)])):sy f st=aa (.ob h):=by unfold sy;rw[h1];show((st.ob[j]?).bind CO.a1).bind _=_;rw[h3];show(if (a6==a6)=true then aa (CV.ob h) else ac)=_;exact if_pos (beq_self_eq_true a6)
def pF (h1:f st=aa o) (h2:fa st=aa ds) (h3:Uh st o=aa T) (h4:g st (o::ds)=aa v):eP T g f fa st=aa v:=by unfold eP;rw[h1,h2];show(if Uh st o=aa T then g st (o::ds) else ac)=_;rw[if_pos h3];exact h4
def Plain (x:Str):Prop:=kR (codeOf true) x=aa false/\kR (codeOf false) x=aa false
noncomputable abbrev zr:Str:=ah "; "
def U4 (ha:Plain a) (hb:Plain b) (hj:FY zr [b]=true) (hjj:zZ zr [b]=b) (hl: ↑qo<100000):oJ qo [.str a,.str b,.oQ []]=aa (PV.none,qo++[.tup [.str a,.str b]]):=by
 let s0:St:=⟨[aa (.inst 0),~~~(.str a),~~~(.str b),~~~(.oQ []),ac,ac,ac],[],[.attrs [(a6,.ob 1)],.list qo]⟩;let s1:St:=⟨[aa (.inst 0),~~~(.str a),~~~(.str b),~~~(.oQ []),aa (.ob 2),ac,ac],[],[.attrs [(a6,.ob 1)],.list qo,.list []]⟩;let s2:St:=⟨[aa (.inst 0),~~~(.str a),~~~(.str b),~~~(.oQ []),aa (.ob 2),ac,ac],[],[.attrs [(a6,.ob 1)],.list qo,.list [.str b]]⟩;let s3:St:=⟨[aa (.inst 0),~~~(.str a),~~~(.str b),~~~(.oQ []),aa (.ob 2),ac,ac],[],[.attrs [(a6,.ob 1)],.list (qo++[.tup [.str a,.str b]]),.list [.str b]]⟩;have e2:jC (bY .IsNot (ak 2) (jh PV.none)) (aC (bZ (qr false (ak 0) (ak 2)) (bf 2)) (aC (oE gZ (ak 4) (au (ak 2) aZ)) br)) br s1=aa (.next,s2):=by
  show aC (bZ (qr false (ak 0) (ak 2)) (bf 2)) (aC (oE gZ (ak 4) (au (ak 2) aZ)) br) s1=_;rw[aU (st1:=s1)]
  ·rfl
  ·unfold bZ;rw[BR (j:=0) (x:=b) (v:= .ob 1) rfl rfl rfl hb.2];rfl
 have ht:jc (au (qr true (ak 0) (ak 1)) (au (eP "str" Bb ↥"; " (au (ak 4) aZ)) aZ)) s2= ~~~(.tup [.str a,.str b]):=by refine qt (bA (BR (j:=0) (x:=a) (v:= .ob 1) rfl rfl rfl ha.1) (bA (pF (o:= .pv (.str zr)) (ds:=[.ob 2]) (v:= .pv (.str b)) rfl rfl rfl ?_) rfl)) rfl (by simp);show(if FY zr [b]=true then aa (CV.pv (.str (zZ zr [b]))) else ac)=_;rw[if_pos hj,hjj]
 have e4:oE gZ (sy (ak 0)) (au (jc (au (qr true (ak 0) (ak 1)) (au (eP "str" Bb ↥"; " (au (ak 4) aZ)) aZ))) aZ) s2=aa (.next,s3):=
  uD (BS (j:=0) (h:=1) rfl rfl) (bA ht rfl) rfl rfl (pE hl)
 have eF:ml s0=aa (.next,s3):=by unfold ml;rw[aU (st1:=s1) rfl,aU e2,aU (st1:=s2) rfl,aU e4];rfl
 show((aa s0).bind λst=>(ml st).bind λr=>xn r.1 r.2.ob[0]? r.2.ob[1]?)=_;rw[bK,eF];rfl
def join_one (x:Str):zZ zr [x]=x:=rfl
def ja (h:i<6):Plain (nm i)/\Plain (up i)/\Plain (nm i++up i):=by refine Ts h ?_ ?_ ?_ ?_ ?_ ?_<;>exact⟨⟨so,so⟩,⟨so,so⟩,⟨so,so⟩⟩
def Fl (h: ↑x<=100):FY zr [x]=true:=by have e: ↑zr=2:=rfl;unfold FY cw;simp[e,(by decide:sizeLine=2 ^ 24)];exact acj h
def JE (ha:Plain a) (hb:Plain b) (SH: ↑b<=100) (hl: ↑qo<100000):oJ qo [.str a,.str b,.oQ []]=aa (PV.none,qo++[PV.tup [.str a,.str b]]):=
 U4 ha hb (Fl SH) (join_one b) hl
noncomputable def cW (r:Str×Str):PV:= .tup [.str r.1,.str r.2]
def yG (st:St) (h:cw ↑(cO x)=false):kM st [.pv (.str x)]= ~~~(.str (cO x)):=by show(if cw ↑(cO x)=true then ac else aa (CV.pv (.str (cO x))))=_;exact if_neg (ko.mp h)
def NC (st:St) (h:cw ↑(sL x)=false):gS st [.pv (.str x)]= ~~~(.str (sL x)):=by show(if cw ↑(sL x)=true then ac else aa (CV.pv (.str (sL x))))=_;exact if_neg (ko.mp h)
def vR (rs:SS) (hx:Plain (cO x)) (hlx:cw ↑(cO x)=false) (hrs:∀r∈rs,cw ↑(cO r.1)=false) (hn: ↑rs<50000):
  ku (rs.map cW) [.str x]=aa (.lst ((rs.filter λr=>cO r.1==cO x).map λr=> .str r.2),rs.map cW):=by
 let s0:St:=⟨[aa (.inst 0)],[~~~(.str x)],[.attrs [(a6,.ob 1)],.list (rs.map cW)]⟩;let s1:St:=⟨[aa (.inst 0)],[~~~(.str (cO x))],[.attrs [(a6,.ob 1)],.list (rs.map cW)]⟩;have e1:bZ (qr true (ak 0) (eP "str" kM (aX 0) aZ)) (jL 0) s0=aa (.next,s1):=by unfold bZ;rw[BR (j:=0) (x:=cO x) (v:= .ob 1) rfl (pF (o:= .pv (.str x)) (ds:=[]) rfl rfl rfl (yG _ hlx)) rfl hx.1];rfl
 have e2:eh xq (GI (sy (ak 0))) (dM (bf 0) (bY .Eq (eP "str" kM (bk (ak 0) ⇑0) aZ) (aX 0)) (gN (bk (ak 0) ⇑1))) s1= ~~~(.lst ((rs.filter λr=>cO r.1==cO x).map λr=> .str r.2)):=by
  erw [lh (J:=λst=>∃a,st=⟨[a],[~~~(.str (cO x))],[.attrs [(a6,.ob 1)],.list (rs.map cW)]⟩) (xs:=rs.map cW) (p:=λr=>match r with| .tup [.str a,.str _]=>cO a==cO x|_=>false) (g:=λr=>match r with| .tup [.str _,.str b]=> .str b|x=>x) ?_ (by rw[aw];exact hn) ⟨ac,rfl⟩ ?_]
  ·rw[dF,bD];rfl
  ·unfold GI;rw[BS (j:=0) (h:=1) rfl rfl];rfl
  ·rintro r hr st ⟨a,rfl⟩;let ⟨q,hq,rfl⟩:=aQ.mp hr;refine⟨⟨[~~~(cW q)],[~~~(.str (cO x))],[.attrs [(a6,.ob 1)],.list (rs.map cW)]⟩,rfl,?_,⟨_,rfl⟩,λz=>cA rfl rfl (mO _ _ 1 ∅ rfl)⟩;have hl:eP "str" kM (bk (ak 0) ⇑0) aZ ⟨[~~~(cW q)],[~~~(.str (cO x))],[.attrs [(a6,.ob 1)],.list (rs.map cW)]⟩= ~~~(.str (cO q.1)):=
    pF (o:= .pv (.str q.1)) (ds:=[]) (cA rfl rfl (mO _ [.str q.1,.str q.2] 0 ∅ rfl)) rfl rfl (yG _ (hrs q hq))
   unfold bY vh;rw[hl];rfl
 have eF:oY s0=aa (.ret (.pv (.lst ((rs.filter λr=>cO r.1==cO x).map λr=> .str r.2))),s1):=by unfold oY;rw[aU e1];unfold aC i7;rw[e2];rfl
 show((aa s0).bind λst=>(oY st).bind λr=>xn r.1 r.2.ob[0]? r.2.ob[1]?)=_;rw[bK,eF];rfl
def Q5 (qo:List PV) (hn: ↑qo<=50000):xr qo []=aa (.lst qo,qo):=by
 let s0:St:=⟨[aa (.inst 0)],[],[.attrs [(a6,.ob 1)],.list qo]⟩;have eF:uu s0=aa (.ret (.pv (.lst qo)),s0):=by
  have e:fN (sy (ak 0)) eB eB eB s0= ~~~(.lst qo):=by
   unfold fN;rw[BS (j:=0) (h:=1) rfl rfl];show(ph s0 (.ob 1) ac ac ac).map CV.pv=_;have e:ph s0 (.ob 1) ac ac ac=aa (.lst qo):=by show(if ↑qo<=sizeLine/\(ac:Option Int)≠aa 0 then aa (PV.lst (cP qo ac ac ac)) else ac)=_;rw[if_pos ⟨by exact ack hn rfl,by simp⟩,mM];simp
   rw[e];rfl
  unfold uu aC i7;rw[e];rfl
 show((aa s0).bind λst=>(uu st).bind λr=>xn r.1 r.2.ob[0]? r.2.ob[1]?)=_;rw[bK,eF];rfl
def DM (J:List γ->St->Prop) (g:PV->List γ) (m:Nat) (xs:List PV):∀(dA:List γ) (st:St),J dA st->(∀x∈xs,↑(g x)<=m)->
  (∀x∈xs,∀(a:List γ) (st:St),J a st-> ↑a<= ↑dA+ ↑xs*m->∃st1 st2,tg (.pv x) st=aa st1/\body st1=aa (.next,st2)/\J (a++g x) st2)->∃cf,lP tg body xs st=aa (.next,cf)/\J (dA++xs.flatMap g) cf:=by
 induction xs with
 |nil=>intro dA st h _ _;exact⟨st,rfl,by simpa using h⟩
 |cons x xs ih=>intro dA st h hl hs;left;let ⟨st1,st2,h1,h2,h3⟩:=hs x ay dA st h (Wg);let ⟨cf,e,h4⟩:=ih (dA++g x) st2 h3 (λy hy=>hl y (aK _ hy)) λy hy a st hJ hb=>hs y (aK _ hy) a st hJ (by rw[aj]at hb;exact Wh hb (by rw[az,OB,CH]) (hl x ay));right;exact⟨cf,(iD h1 h2).trans e,by rw[bJ,<- bF];exact h4⟩
noncomputable def i4:PV->Nat
 | .str s=>s.cps.toList.headD 0- 97
 |_=>0
def fV (i:Nat):i4 (.str (nm i))=i:=by simp[i4,nm]
def rel (n:NN) (i j:Nat):Bool:=decide (hi (n i)<lo (n j))
def BU (n:Nat):lo n<=hi n:=aA (j6 ..) (Nat.le_max_left ..)
def Xe (n:Nat):hi n<9:=by unfold hi;exact acf (fO _ ∅) (fO _ ∅) (fO _ ∅)
def afU (ha:a<9) (hb:b<9):(KV (fl a) (fl b)==aa ni)=decide (a<b):=by exact(by decide+kernel:∀a∈cK 9,∀b∈cK 9,(KV (fl a) (fl b)==aa ni)=decide (a<b)) a (dK.mpr ha) b (dK.mpr hb)
def rowsOf (n:NN) (i j:Nat):List (Str×Str):=if rel n i j then [(up j,nm i),(nm i++up i,nm j)] else []
def bV (n:NN):List (Str×Str):=L6.flatMap λi=>L6.flatMap λj=>rowsOf n i j
def zV (l:List Int) (n:NN) (y x:OV) (rs:SS):St:= {lv:=[~~~(.lst (l.map PV.int)),y,ac,ac,ac,ac,ac,ac,ac,ac,ac,ac,ac,ac,ac,ac,ac,ac],cv:=[ac,ac,ac,ac,ac,ac,ac,ac,aa (.inst 0),~~~(cq λk=>jR (n k)),~~~(cq λk=>g0 (dP (n k))),~~~jt,~~~(cq λk=>cF (n k)),~~~(.lst (ig λk=>(n k:Int))),~~~(.lst ((numsOf l).map PV.int)),x],ob:=hU (rs.map cW)}
def Hu (h:i<6):sL (nm i)=up i/\cw ↑(sL (nm i))=false:=by refine Ts h ?_ ?_ ?_ ?_ ?_ ?_<;>exact⟨rfl,rfl⟩
def kj (st:St) (a b:Str) (h: ↑a+ ↑b<=10000):MS st .Add (.pv (.str a)) (.pv (.str b))=aa (.str (a++b)):=by have e:AZ .Add (.str a) (.str b)=aa (.str (a++b)):=if_pos (Pg h rfl);show(AZ .Add (.str a) (.str b)).or _=_;rw[e];rfl
def jS (i:Nat): ↑(nm i)=1:=rfl
def JF (i:Nat): ↑(up i)=1:=rfl
def vS (hi:i<6) (h:f st= ~~~(.str (nm i))):eP "str" gS f aZ st= ~~~(.str (up i)):=by have:=NC st (Hu hi).2;rw[(Hu hi).1]at this;exact pF (o:= .pv (.str (nm i))) (ds:=[]) h rfl rfl this
def Fm (h1:f st=aa v) (h2:st.Jn v=aa (h,rs.map cW)) (h3:fa st=aa [.pv (.str a),.pv (.str b)]) (ha:Plain a) (hb:Plain b) (SH: ↑b<=100) (hl: ↑rs<100000):
  eI f fa st=aa (.next,qY h (.list ((rs++[(a,b)]).map cW)) st):=by
 unfold eI;rw[h1];simp only[bK,h2,h3,two?,CV.aS,AF,JE ha hb SH (show ↑(rs.map cW)<100000 by rw[aw];exact hl)];rw[bI];rfl
def jZ (h:it st=aa xs):mK it tg body st=lP tg body xs st:=by unfold mK;rw[h];rfl
def afV (l:List Int) (n:NN):∃y x,Ak (st7 l n)=aa (.next,zV l n y x (bV n)):=by
 unfold Ak;rw[jZ (qJ (st7 l n) (λk=>cF (n k)) rfl)];obtain(⟨cf,e,y,x,rfl⟩):=DM (tg:=jL 15) (body:=aC (mK (jA (aX 12)) (bf 1) (aC (jC (bY .Lt (bk (bk (aX 9) (aX 15)) ⇑1) (bk (bk (aX 9) (ak 1)) ⇑0)) (aC (eI (aX 8) (au (eP "str" gS (ak 1) aZ) (au (aX 15) aZ))) (aC (eI (aX 8) (au (ba .Add (aX 15) (eP "str" gS (aX 15) aZ)) (au (ak 1) aZ))) br)) br) br)) br)
  (λrs st=>∃y x,st=zV l n y x rs) (λx=>L6.flatMap λj=>rowsOf n (i4 x) j) 12 (L6.map λi=> .str (nm i)) [] (st7 l n) ⟨ac,ac,rfl⟩
  (λx q=>by
   rw[pL];have:∀j,↑(rowsOf n (i4 x) j)<=2:=λj=>by unfold rowsOf;split<;>simp
   have h0:=this 0;have h1:=this 1;have h2:=this 2;have h3:=this 3;have h4:=this 4;have h5:=this 5;show(L6.map λj=> ↑(rowsOf n (i4 x) j)).sum<=12;simp[L6,lV];exact Wl h0 h1 h2 h3 h4 h5)
  (by
   rintro x hx rs st ⟨y0,x0,rfl⟩ hb;let ⟨i,hi,rfl⟩:=aQ.mp hx;have hi6:=fZ.mp hi;simp only[lW,aw]at hb;refine⟨zV l n y0 (~~~(.str (nm i))) rs,?_⟩;obtain(⟨cf,e,y,rfl⟩):=DM (tg:=bf 1) (body:=aC (jC (bY .Lt (bk (bk (aX 9) (aX 15)) ⇑1) (bk (bk (aX 9) (ak 1)) ⇑0)) (aC (eI (aX 8) (au (eP "str" gS (ak 1) aZ) (au (aX 15) aZ))) (aC (eI (aX 8) (au (ba .Add (aX 15) (eP "str" gS (aX 15) aZ)) (au (ak 1) aZ))) br)) br) br)
    (λrs st=>∃y,st=zV l n y (~~~(.str (nm i))) rs) (λy=>rowsOf n i (i4 y)) 2 (L6.map λi=> .str (nm i)) rs (zV l n y0 (~~~(.str (nm i))) rs) ⟨y0,rfl⟩ (λy q=>by unfold rowsOf;split<;>simp)
    (by
     rintro y hy Oo st ⟨y1,rfl⟩ uU;let ⟨j,hj,rfl⟩:=aQ.mp hy;have hj6:=fZ.mp hj;have XE: ↑L6=6:=rfl;rw[aw,XE]at uU;rw[XE]at hb;rw[fV];refine⟨zV l n (~~~(.str (nm j))) (~~~(.str (nm i))) Oo,zV l n (~~~(.str (nm j))) (~~~(.str (nm i))) (Oo++rowsOf n i j),rfl,?_,⟨_,rfl⟩⟩;have Kr:bk (bk (aX 9) (aX 15)) ⇑1 (zV l n (~~~(.str (nm j))) (~~~(.str (nm i))) Oo)= ~~~(.fE (fl (Mine.hi (n i)))):=
      cA (cA (f:=aX 9) (g:=aX 15) rfl rfl (gj _ (λk=>jR (n k)) hi)) rfl (mO _ [.fE (fl (lo (n i))),.fE (fl (Mine.hi (n i))),PV.bool true] 1 ∅ rfl)
     have ht0:bk (bk (aX 9) (ak 1)) ⇑0 (zV l n (~~~(.str (nm j))) (~~~(.str (nm i))) Oo)= ~~~(.fE (fl (lo (n j)))):=
      cA (cA (f:=aX 9) (g:=ak 1) rfl rfl (gj _ (λk=>jR (n k)) hj)) rfl (mO _ [.fE (fl (lo (n j))),.fE (fl (Mine.hi (n j))),PV.bool true] 0 ∅ rfl)
     have hc:bY .Lt (bk (bk (aX 9) (aX 15)) ⇑1) (bk (bk (aX 9) (ak 1)) ⇑0) (zV l n (~~~(.str (nm j))) (~~~(.str (nm i))) Oo)=aa (rel n i j):=by unfold bY vh;rw[Kr,ht0];show aa (KV (fl (Mine.hi (n i))) (fl (lo (n j)))==aa ni)=_;rw[afU (Xe _) (bB (BU _) (Xe _))];rfl
     cases hr:rel n i j with
     |false=>
      have e:jC (bY .Lt (bk (bk (aX 9) (aX 15)) ⇑1) (bk (bk (aX 9) (ak 1)) ⇑0)) (aC (eI (aX 8) (au (eP "str" gS (ak 1) aZ) (au (aX 15) aZ))) (aC (eI (aX 8) (au (ba .Add (aX 15) (eP "str" gS (aX 15) aZ)) (au (ak 1) aZ))) br)) br (zV l n (~~~(.str (nm j))) (~~~(.str (nm i))) Oo)=aa (.next,zV l n (~~~(.str (nm j))) (~~~(.str (nm i))) Oo):=by unfold jC;rw[hc,hr];rfl
      rw[aU e];unfold rowsOf;rw[hr,if_neg bG,bu];rfl
     |true=>
      have a1:eI (aX 8) (au (eP "str" gS (ak 1) aZ) (au (aX 15) aZ)) (zV l n (~~~(.str (nm j))) (~~~(.str (nm i))) Oo)=aa (.next,zV l n (~~~(.str (nm j))) (~~~(.str (nm i))) (Oo++[(up j,nm i)])):=
       Fm (v:= .inst 0) (h:=2) rfl rfl (bA (vS hj6 rfl) rfl) (ja hj6).2.1 (ja hi6).1 (by rw[jS];decide) (acl uU hb)
      have a2:eI (aX 8) (au (ba .Add (aX 15) (eP "str" gS (aX 15) aZ)) (au (ak 1) aZ)) (zV l n (~~~(.str (nm j))) (~~~(.str (nm i))) (Oo++[(up j,nm i)]))=aa (.next,zV l n (~~~(.str (nm j))) (~~~(.str (nm i))) (Oo++[(up j,nm i)]++[(nm i++up i,nm j)])):=
       Fm (v:= .inst 0) (h:=2) rfl rfl (bA (dq (a:= .pv (.str (nm i))) (f:=aX 15) rfl (vS hi6 rfl) (kj _ _ _ (by rw[jS,JF];decide))) rfl) (ja hi6).2.2 (ja hj6).1 (by rw[jS];decide) (by rw[aj,be];exact acm uU hb)
      have e:jC (bY .Lt (bk (bk (aX 9) (aX 15)) ⇑1) (bk (bk (aX 9) (ak 1)) ⇑0)) (aC (eI (aX 8) (au (eP "str" gS (ak 1) aZ) (au (aX 15) aZ))) (aC (eI (aX 8) (au (ba .Add (aX 15) (eP "str" gS (aX 15) aZ)) (au (ak 1) aZ))) br)) br (zV l n (~~~(.str (nm j))) (~~~(.str (nm i))) Oo)=aa (.next,zV l n (~~~(.str (nm j))) (~~~(.str (nm i))) (Oo++[(up j,nm i)]++[(nm i++up i,nm j)])):=by unfold jC;rw[hc,hr];show aC _ (aC _ br) _=_;rw[aU a1,aU a2];rfl
      rw[aU e];unfold rowsOf;rw[hr,if_pos rfl,bF];rfl)
   refine⟨zV l n y (~~~(.str (nm i))) (rs++L6.flatMap λj=>rowsOf n i j),rfl,?_,⟨_,_,by rw[fV]⟩⟩;have e':mK (jA (aX 12)) (bf 1) (aC (jC (bY .Lt (bk (bk (aX 9) (aX 15)) ⇑1) (bk (bk (aX 9) (ak 1)) ⇑0)) (aC (eI (aX 8) (au (eP "str" gS (ak 1) aZ) (au (aX 15) aZ))) (aC (eI (aX 8) (au (ba .Add (aX 15) (eP "str" gS (aX 15) aZ)) (au (ak 1) aZ))) br)) br) br) (zV l n y0 (~~~(.str (nm i))) rs)=aa (.next,zV l n y (~~~(.str (nm i))) (rs++L6.flatMap λj=>rowsOf n i j)):=by erw [jZ (qJ (zV l n y0 (~~~(.str (nm i))) rs) (λk=>cF (n k)) rfl),e,iQ];simp only[fV]
   rw[aU e'];rfl)
 refine⟨y,x,?_⟩;rw[e,gh,iQ];simp only[fV];rfl
def uE (J:St->Prop) (F:Nat->PV) (hit:it st=aa (L6.map λi=> .str (nm i))) (h0:J (cl.st st))
  (hs:∀i,i<6->∀st,J st->∃st1,tg (.pv (.str (nm i))) st=aa st1/\J st1/\f st1= ~~~(.str (nm i))/\g st1= ~~~(F i)):lz cl it (dM tg fF (te f g)) st= ~~~(cq F):=by
 erw [uy J (λx=>match x with| .str s=>s|_=>nm 0) (λx=>F (i4 x)) hit ∅ (by rw[bD];exact Hr li) h0 ?_]
 ·rw[bD];unfold cq;congr 4;funext k;show(nm k,F (i4 (.str (nm k))))=_;rw[fV]
 ·intro x hx st hJ;let ⟨i,hi,rfl⟩:=aQ.mp hx;rw[fV];exact hs i (fZ.mp hi) st hJ
def xS (J:St->Prop) (p:Nat->Bool) (F:Nat->PV) (hit:it st=aa (L6.map λi=> .str (nm i))) (h0:J (cl.st st))
  (hs:∀i,i<6->∀st,J st->∃st1,tg (.pv (.str (nm i))) st=aa st1/\test st1=aa (p i)/\J st1/\(p i=true->f st1= ~~~(F i))):eh cl it (dM tg test (gN f)) st= ~~~(.lst ((L6.filter p).map F)):=by
 erw [lh J (λx=>p (i4 x)) (λx=>F (i4 x)) hit ∅ h0 ?_]
 ·have e:(λx=>F (i4 x)) ∘ (λi=>PV.str (nm i))=F:=by funext k;show F (i4 (.str (nm k)))=_;rw[fV]
  rw[dF,bD,e,(by funext k;show p (i4 (.str (nm k)))=_;rw[fV]:((λy=>p (i4 y)) ∘ λi=>PV.str (nm i))=p)]
 ·intro x hx st hJ;let ⟨i,hi,rfl⟩:=aQ.mp hx;rw[fV];exact hs i (fZ.mp hi) st hJ
def yH (J:St->Prop) (p2:Nat->Nat->Bool) (F:Nat->Nat->PV) (hit:it st=aa (L6.map λi=> .str (nm i))) (h0:J (cl.st st))
  (hs:∀i,i<6->∀st,J st->∃st1,tg (.pv (.str (nm i))) st=aa st1/\test st1=aa true/\J st1/\it2 st1=aa (L6.map λi=> .str (nm i))/\
   ∃J2:St->Prop,J2 st1/\(∀st,J2 st->J st)/\∀j,j<6->∀st,J2 st->∃st2,tg2 (.pv (.str (nm j))) st=aa st2/\Ei st2=aa (p2 i j)/\J2 st2/\(p2 i j=true->f st2= ~~~(F i j))):
  eh cl it (dM tg test (IG it2 (dM tg2 Ei (gN f)))) st= ~~~(.lst (L6.flatMap λi=>(L6.filter (p2 i)).map (F i))):=by
 erw [ux J (λq=>true) (λq=>L6.map λi=> .str (nm i)) (λx y=>p2 (i4 x) (i4 y)) (λx y=>F (i4 x) (i4 y)) hit ∅ (λq q=>by decide) h0 ?_]
 ·rw[bM.mpr (λq q=>rfl),iQ];simp only[dF,bD,fV];simp only[(λi=>by funext k;show F i (i4 (.str (nm k)))=_;rw[fV]:∀i,(λx=>F i (i4 x)) ∘ (λi=>PV.str (nm i))=F i),(λi=>by funext k;show p2 i (i4 (.str (nm k)))=_;rw[fV]:∀i,((λy=>p2 i (i4 y)) ∘ λi=>PV.str (nm i))=p2 i)]
 ·intro x hx st hJ;left;let ⟨i,hi,rfl⟩:=aQ.mp hx;let ⟨st1,a,b,c,d,J2,j0,jj,h2⟩:=hs i (fZ.mp hi) st hJ;right;refine⟨st1,a,b,c,λq=>⟨d,J2,j0,jj,λy hy st hJ2=> ?_⟩⟩;let ⟨j,hj,rfl⟩:=aQ.mp hy;rw[fV,fV];exact h2 j (fZ.mp hj) st hJ2
def eQ {l:List α}:(∀x∈l,f x=g x)->l.flatMap f=l.flatMap g:=by
 induction l with
 |nil=>intro _;exact rfl
 |cons a l ih=>intro h;rw[bJ,bJ,h a ay,ih λx hx=>h x (aK _ hx)]
def zt {α β:Type} (p:α->Bool) (f:α->β):∀l:List α,(l.flatMap λk=>if p k then [f k] else [])=(l.filter p).map f:=by
 intro l9;induction l9 with
 |nil=>exact rfl
 |cons a l ih=>
  rw[bJ,ih];cases h:p a with
  |true=>rw[el h];rfl
  |false=>rw[eo (h▸bG)];rfl
def zu (hi:i<6) (X:Nat->List β):(L6.flatMap λj=>if j=i then X j else [])=X i:=by refine Ts hi ?_ ?_ ?_ ?_ ?_ ?_<;>exact bu _
def ii (n:NN) (i:Nat):List Nat:=L6.filter λk=>rel n k i
def kB (n:NN) (i:Nat):List Nat:=L6.filter λj=>rel n i j
def fK (l:Nz):PV:= .lst (l.map λi=> .str (nm i))
def gk (h:i<6):cO (nm i)=nm i/\cO (up i)=nm i/\cO (nm i++up i)=nm i++nm i/\cO (up i++nm i)=nm i++nm i:=by refine Ts h ?_ ?_ ?_ ?_ ?_ ?_<;>exact⟨rfl,rfl,rfl,rfl⟩
def ju {x:Str} (h: ↑x<=100):cw ↑x=false:=by unfold cw;exact decide_eq_false (acn rfl h)
def Fn (i j:Nat): ↑(nm i++nm j)=2:=rfl
def YL (i j:Nat):(nm i++nm i==nm j++nm j)=(i==j):=by rw[dr,beq_iff_eq,beq_iff_eq];refine⟨λh=> ?_,λh=>by rw[h]⟩;have:=congrArg (λs:Str=>s.cps.toList.headD 0) h;have e:∀i:Nat,(nm i++nm i).cps.toList.headD 0=97+i:=λi=>rfl;simp only[e]at this;simp_all
def Q6 (i j:Nat):(nm i==nm j++nm j)=false:=by rw[beq_eq_false_iff_ne];intro h;have:=congrArg Str.length h;rw[jS,Fn]at this;simp_all
def Q7 (i j:Nat):(nm i++nm i==nm j)=false:=by rw[beq_eq_false_iff_ne];intro h;have:=congrArg Str.length h;rw[jS,Fn]at this;simp_all
def Hv (h:r∈bV n):∃i j,i<6/\j<6/\(r=(up j,nm i)\/r=(nm i++up i,nm j)):=by
 unfold bV at h;left;let ⟨i,hi,h⟩:=iP.mp h;let ⟨j,hj,h⟩:=iP.mp h;right;refine⟨i,j,fZ.mp hi,fZ.mp hj,?_⟩;unfold rowsOf at h;split at h
 ·simpa using h
 ·nomatch h
def tO (h:r∈bV n):cw ↑(cO r.1)=false:=by
 obtain⟨i,j,hi,hj,rfl|rfl⟩:=Hv h
 ·rw[(gk hj).2.1];exact ju (by rw[jS];decide)
 ·rw[(gk hi).2.2.1];exact ju (by rw[Fn];decide)
def qu (n:NN): ↑(bV n)<=72:=by
 have this:∀i j,↑(rowsOf n i j)<=2:=λi j=>by unfold rowsOf;split<;>simp
 have h6:∀i,↑(L6.flatMap λj=>rowsOf n i j)<=12:=λi=>by rw[pL];have h0:=this i 0;have h1:=this i 1;have h2:=this i 2;have h3:=this i 3;have h4:=this i 4;have h5:=this i 5;simp[L6,lV];exact Wl h0 h1 h2 h3 h4 h5
 unfold bV;rw[pL];have h0:=h6 0;have h1:=h6 1;have h2:=h6 2;have h3:=h6 3;have h4:=h6 4;have h5:=h6 5;show(L6.map λi=> ↑(L6.flatMap λj=>rowsOf n i j)).sum<=72;rw[show(L6.map λi=> ↑(L6.flatMap λj=>rowsOf n i j)).sum= ↑(L6.flatMap λj=>rowsOf n 0 j)+(↑(L6.flatMap λj=>rowsOf n 1 j)+(↑(L6.flatMap λj=>rowsOf n 2 j)+(↑(L6.flatMap λj=>rowsOf n 3 j)+(↑(L6.flatMap λj=>rowsOf n 4 j)+(↑(L6.flatMap λj=>rowsOf n 5 j)+0))))) from rfl];exact aco h0 h1 h2 h3 h4 h5
def BV (n:NN) (hi:i<6):((bV n).filter λr=>cO r.1==nm i).map (λr=>PV.str r.2)=(ii n i).map λk=> .str (nm k):=by
 unfold bV ii;rw[lw,gy,<- zt];refine eQ ?_;intro k hk;rw[lw,gy];have e:∀j∈L6,((rowsOf n k j).filter λr=>cO r.1==nm i).map (λr=>PV.str r.2)=if j=i then(if rel n k j then [PV.str (nm k)] else []) else []:=by
  intro j hj;unfold rowsOf;cases hr:rel n k j with
  |false=>simp
  |true=>
   simp only[if_true,bl,pb,(gk (fZ.mp hj)).2.1,(gk (fZ.mp hk)).2.2.1,Jy,Q7];by_cases Xz:j=i
   ·subst Xz;simp
   ·simp[Xz]
 rw[eQ e,zu hi]
def ND (n:NN) (hi:i<6):((bV n).filter λr=>cO r.1==nm i++nm i).map (λr=>PV.str r.2)=(kB n i).map λk=> .str (nm k):=by
 unfold bV kB;rw[lw,gy];have e0:∀k∈L6,((L6.flatMap λj=>rowsOf n k j).filter λr=>cO r.1==nm i++nm i).map (λr=>PV.str r.2)=if k=i then(L6.filter λj=>rel n k j).map (λj=>PV.str (nm j)) else []:=by
  intro k hk;rw[lw,gy];have e:∀j∈L6,((rowsOf n k j).filter λr=>cO r.1==nm i++nm i).map (λr=>PV.str r.2)=if k=i then(if rel n k j then [PV.str (nm j)] else []) else []:=by
   intro j hj;unfold rowsOf;cases hr:rel n k j with
   |false=>simp
   |true=>
    simp only[if_true,bl,pb,(gk (fZ.mp hj)).2.1,(gk (fZ.mp hk)).2.2.1,YL,Q6];by_cases Xz:k=i
    ·subst Xz;simp
    ·simp[Xz]
  rw[eQ e];by_cases yh:k=i
  ·simp only[yh,if_true];exact zt _ _ _
  ·simp only[yh,if_false];simp
 rw[eQ e0,zu hi]
def st9 (l:List Int) (n:NN) (y x:OV) (rs:SS):St:= {lv:=[~~~(.lst (l.map PV.int)),y,ac,ac,ac,ac,ac,ac,ac,ac,ac,ac,ac,ac,ac,ac,ac,ac],cv:=[ac,ac,ac,ac,ac,ac,~~~(cq λi=>fK (kB n i)),~~~(cq λi=>fK (ii n i)),aa (.inst 0),~~~(cq λk=>jR (n k)),~~~(cq λk=>g0 (dP (n k))),~~~jt,~~~(cq λk=>cF (n k)),~~~(.lst (ig λk=>(n k:Int))),~~~(.lst ((numsOf l).map PV.int)),x],ob:=hU (rs.map cW)}
def afW (l:List Int) (n:NN) (y x:OV):Al (zV l n y x (bV n))=aa (.next,st9 l n y x (bV n)):=by
 have hn:=qu n;have h1:lz Hl (jA (aX 12)) (dM (bf 0) fF (te (ak 0) (mY (aX 0) (au (ak 0) aZ)))) (zV l n y x (bV n))= ~~~(cq λi=>fK (ii n i)):=by refine uE (λst=>∃a,st=⟨[a],[aa (.inst 0)],hU ((bV n).map cW)⟩) _ (qJ _ (λk=>cF (n k)) rfl) ⟨ac,rfl⟩ ?_;rintro i hi st ⟨a,rfl⟩;refine⟨⟨[~~~(.str (nm i))],[aa (.inst 0)],hU ((bV n).map cW)⟩,rfl,⟨_,rfl⟩,rfl,?_⟩;have hg:=vR (bV n) (x:=nm i) (by rw[(gk hi).1];exact(ja hi).1) (by rw[(gk hi).1];exact ju (by rw[jS];decide)) (λr hr=>tO hr) (Wm hn);rw[(gk hi).1,BV n hi]at hg;show((aa (2,(bV n).map cW)).bind λq=>(ku q.2 [.str (nm i)]).map λr=>CV.pv r.1)=_;rw[bK,hg];rfl
 have h2:lz Hm (jA (aX 12)) (dM (bf 0) fF (te (ak 0) (mY (aX 0) (au (ba .Add (eP "str" gS (ak 0) aZ) (ak 0)) aZ)))) (zV l n y x (bV n))= ~~~(cq λi=>fK (kB n i)):=by
  refine uE (λst=>∃a,st=⟨[a],[aa (.inst 0)],hU ((bV n).map cW)⟩) _ (qJ _ (λk=>cF (n k)) rfl) ⟨ac,rfl⟩ ?_;rintro i hi st ⟨a,rfl⟩;refine⟨⟨[~~~(.str (nm i))],[aa (.inst 0)],hU ((bV n).map cW)⟩,rfl,⟨_,rfl⟩,rfl,?_⟩;have SE:Plain (nm i++nm i):=by refine Ts hi ?_ ?_ ?_ ?_ ?_ ?_<;>exact⟨so,so⟩
  have hg:=vR (bV n) (x:=up i++nm i) (by rw[(gk hi).2.2.2];exact SE) (by rw[(gk hi).2.2.2];exact ju (by rw[Fn];decide)) (λr hr=>tO hr) (Wm hn);rw[(gk hi).2.2.2,ND n hi]at hg;have akY:au (ba .Add (eP "str" gS (ak 0) aZ) (ak 0)) aZ ⟨[~~~(.str (nm i))],[aa (.inst 0)],hU ((bV n).map cW)⟩=aa [.pv (.str (up i++nm i))]:=
   bA (dq (vS hi rfl) (b:= .pv (.str (nm i))) rfl (kj _ _ _ (by rw[jS,JF];decide))) rfl
  unfold mY;rw[akY];show((aa (2,(bV n).map cW)).bind λq=>(ku q.2 [.str (up i++nm i)]).map λr=>CV.pv r.1)=_;rw[bK,hg];rfl
 unfold Al GP ji lb;rw[h1];simp only[AF,bK];rw[h2];rfl
def JG (hp:∀m,m<t->p m=true) (hq:∀m,t<=m->m<N->p m=false):∀(n lo hi:Nat) (mm:Option AV),hi- lo<=n->lo<=t->t<=hi->hi<=N->(pf p n lo hi mm).1=t:=by
 intro l9;induction l9 with
 |zero=>intro lo hi mm h1 h2 h3 _;show lo=t;exact acp h2 h3 h1
 |succ n ih=>
  intro lo hi mm h1 h2 h3 h4;rw[Ey];by_cases h:lo<hi
  ·rw[if_pos h];by_cases hm:(lo+hi)/2<t
   ·rw[hp _ hm,if_pos rfl];exact ih _ hi _ (Lk h1 h) (acq hm) h3 h4
   ·rw[hq _ (Wn hm) (IU h h4),if_neg bG];exact ih lo _ _ (Ll h1 h) h2 (Wn hm) (aaQ h h4)
  ·rw[if_neg h];show lo=t;exact acr h2 h3 h
def xT {ns:List Int}:ns.Pairwise (· <= ·)->(∀a b,a<=b->q b=true->q a=true)->
  (∀m,m< ↑ns->(q (ns.getD m 0)=true↔m< ↑(ns.filter q)))/\ns.take ↑(ns.filter q)=ns.filter q/\ns.drop ↑(ns.filter q)=ns.filter (λa=> !q a):=by
 induction ns with
 |nil=>intro _ _;exact⟨λm h=>by simp at h,rfl,rfl⟩
 |cons a ns ih=>
  intro hs hq;left;let ⟨h1,h2⟩:=ed.mp hs;let ⟨i1,i2,i3⟩:=ih h2 hq;right;cases ha:q a with
  |true=>
   rw[el ha,eo (by rw[ha];decide)];refine⟨λm hm=> ?_,by rw[az,List.take_succ_cons,i2],by rw[az,List.drop_succ_cons,i3]⟩;induction m with
   |zero=>simp[ha]
   |succ m=>rw[az]at hm;simpa using i1 m (fR ‹_›)
  |false=>
   have C4:∀b∈ns,q b=false:=λb hb=>by
    cases uU:q b with
    |false=>rfl
    |true=>rw[hq a b (h1 b hb) uU]at ha;nomatch ha
   rw[eo (by rw[ha];decide),el (by rw[ha];rfl),(cL.mpr λb hb=>by rw[C4 b hb];decide),(bM.mpr λb hb=>by rw[C4 b hb];rfl)];refine⟨λm hm=>⟨λh=> ?_,λh=>by simp at h⟩,rfl,rfl⟩;induction m with
   |zero=>simp[ha]at h
   |succ m=>rw[az]at hm;rw[List.getD_cons_succ]at h;have:=C4 (ns.getD m 0) (by rw[qB,aq (fR ‹_›)];exact AH _);rw[this]at h;nomatch h
noncomputable def below (right:Bool) (x y:Int):Bool:=if right then decide (y<=x) else decide (y<x)
def below_1 (h:y<=x):below true x y=true:=decide_eq_true h
def below_2 (h:x<y):below true x y=false:=decide_eq_false (Te.mpr h)
def below_3 (h:y<x):below false x y=true:=decide_eq_true h
def below_4 (h:x<=y):below false x y=false:=decide_eq_false (nX.mpr h)
def vT (Mp:a<=b) (h:below right x b=true):below right x a=true:=by
 induction right with
 |true=>exact decide_eq_true (dZ Mp (of_decide_eq_true h))
 |false=>exact decide_eq_true (qR Mp (of_decide_eq_true h))
def oK (right:Bool) (hs:ns.Pairwise (· <= ·)) (x:Int):mB right ns x 0 ac= ↑(ns.filter (below right x)):=by
 let ⟨i1,_,_⟩:=xT (q:=below right x) hs λa b=>vT;have wB: ↑(ns.filter (below right x))<= ↑ns:=eX ..;have e:∀m,Ys right ns x m=below right x (ns.getD m 0):=λm=>by
  unfold Ys below;cases right
  ·simp
  ·simp only[if_true];rw[<- decide_not];congr 1;exact propext nX
 unfold mB;refine JG (N:= ↑ns) (λm hm=> ?_) (λm h1 h2=> ?_) _ _ _ _ (by simp) (cJ _) wB (ab _)
 ·rw[e];exact(i1 m (Ph hm wB)).mpr hm
 ·rw[e];cases h:below right x (ns.getD m 0)with
  |false=>rfl
  |true=>have:=(i1 m h2).mp h;exact(KZ this h1).elim
def Fo (right:Bool) (hs:ns.Pairwise (· <= ·)) (x:Int):vj right ns x (.int x) (ns.map PV.int)=(ns.filter (below right x)++x::ns.filter (λy=> !below right x y)).map PV.int:=by let ⟨_,i2,i3⟩:=xT (q:=below right x) hs λa b=>vT;unfold vj uR;rw[oK right hs,<- List.map_take,<- List.map_drop,i2,i3,bI,bx]
noncomputable def bN (l:Nz):List PV:=l.map λc:Nat=>PV.int (c:Int)
def vU (l:Nz):bN l=(l.map λc:Nat=>(c:Int)).map PV.int:=by unfold bN;rw[bD];rfl
def vo (l:Nz):jQ (bN l)=aa (l.map λc:Nat=>(c:Int)):=by rw[vU,pj]
def L1 {l:Nz} (h:l.Pairwise (· <= ·)):(l.map λc:Nat=>(c:Int)).Pairwise (· <= ·):=gX _ (λa b Mp=>by exact AN Mp) h
def NE (right:Bool) {l:Nz} (hs:l.Pairwise (· <= ·)) (x:Nat):mB right (l.map λc:Nat=>(c:Int)) (x:Int) 0 ac= ↑(l.filter λy=>if right then decide (y<=x) else decide (y<x)):=by rw[oK right (L1 hs),dF,aw];congr 2;funext y;show below right (x:Int) (y:Int)=_;unfold below;cases right<;>simp
def NF (right:Bool) (hs:l.Pairwise (· <= ·)) (x:Nat):vj right (l.map λc:Nat=>(c:Int)) (x:Int) (.int (x:Int)) (bN l)=bN (l.filter (λy=>if right then decide (y<=x) else decide (y<x))++x::l.filter (λy=> !(if right then decide (y<=x) else decide (y<x)))):=by
 rw[vU,Fo right (L1 hs),dF,dF,vU];have e:(below right (x:Int)) ∘ (λc:Nat=>(c:Int))=λy=>if right then decide (y<=x) else decide (y<x):=by funext y;show below right (x:Int) (y:Int)=_;unfold below;cases right<;>simp
 have e2:(λy=> !below right (x:Int) y) ∘ (λc:Nat=>(c:Int))=λy=> !(if right then decide (y<=x) else decide (y<x)):=by funext y;have:=congrFun e y;show(!below right (x:Int) (y:Int))=_;rw[show below right (x:Int) (y:Int)=_ from this]
 rw[e,e2];simp only[bI,bx]
def Aq (right:Bool) (h1:f st=aa a) (h2:g st= ~~~(.int (x:Int))) (h3:st.oB a=aa (bN r)) (hs:r.Pairwise (· <= ·)) (hl: ↑r<1000):
  qI right f g st= ~~~(.int (↑(r.filter λy=>if right then decide (y<=x) else decide (y<x)):Nat)):=by
 unfold qI;rw[h1,h2];show(st.oB a).bind _=_;rw[h3];show(jQ _).bind _=_;rw[vo];show(if _ then _ else _)=_;rw[if_pos (by rw[aw];exact hl),NE right hs]
def L2 (right:Bool) {r:Nz} (h1:f st=aa (.ob j)) (h2:g st= ~~~(.int (x:Int))) (h3:st.ob[j]? =aa (.list (bN r))) (hs:r.Pairwise (· <= ·)) (hl: ↑r<1000):
  zQ right f g st=aa (.next,qY j (.list (bN (r.filter (λy=>if right then decide (y<=x) else decide (y<x))++x::r.filter (λy=> !(if right then decide (y<=x) else decide (y<x)))))) st):=by
 unfold zQ;rw[h1,h2];show(Tj st.ob[j]?).bind _=_;rw[h3];show(jQ _).bind _=_;rw[vo];show(if _ then _ else _)=_;rw[if_pos (by rw[aw];exact hl),NF right hs]
def DN {l:Nz} (h:l.Pairwise (· < ·)):l.Pairwise (· <= ·):=h.imp λh=>ce h
def CX {l:Nz} (hs:l.Pairwise (· < ·)) (x:Nat):(↑(l.filter λy=>decide (y<x))= ↑(l.filter λy=>decide (y<=x)))↔x∉l:=by
 induction l with
 |nil=>simp
 |cons a l ih=>
  let ⟨h1,h2⟩:=ed.mp hs;have ih:=ih h2;rcases eG a x with h|h|h
  ·rw[el (by simpa using h),el (by simpa using ce h),az,az];simp only[aH,not_or];constructor
   ·intro e;exact⟨by exact acs h,ih.mp (acu e)⟩
   ·intro e;have:=ih.mpr e.2;exact acv this
  ·subst h;rw[eo (by simp),el (by simp),az];rw[(cL.mpr λb hb=>by have:=h1 b hb;simp;exact La this)];simp
  ·rw[eo (by simp;exact La h),eo (by simp;exact acw h)];simp only[aH,not_or];constructor
   ·intro e;exact⟨by exact Wo h,ih.mp e⟩
   ·intro e;exact ih.mpr e.2
def rl (p:α->Bool):∀l:List α,↑(l.filter p)+ ↑(l.filter λa=> !p a)= ↑l:=by
 intro l9;induction l9 with
 |nil=>exact rfl
 |cons a l ih=>
  have ih:=ih;cases h:p a with
  |true=>rw[el h,eo (by rw[h];decide),az,az,yZ,ih]
  |false=>rw[eo (by rw[h];decide),el (by rw[h];rfl),az,az,<- ih];rfl
noncomputable def nS (r:Nz) (c:Nat):List Nat:=if c∈r then r else r.filter (λy=>decide (y<c))++c::r.filter (λy=> !decide (y<c))
def DO (hs:r.Pairwise (· < ·)) (c:Nat):(nS r c).Pairwise (· < ·)/\∀v,v∈nS r c↔v=c\/v∈r:=by
 unfold nS;by_cases h:c∈r
 ·rw[if_pos h];exact⟨hs,λv=>⟨λe=> .inr e,λe=>by rcases e with rfl|e;exact h;exact e⟩⟩
 ·rw[if_neg h];refine⟨?_,λv=> ?_⟩
  ·rw[ib];refine⟨hs.filter _,?_,?_⟩
   ·rw[ed];refine⟨λb hb=> ?_,hs.filter _⟩;left;let ⟨OP,Ms⟩:=aY.mp hb;right;simp at Ms;have:b≠c:=λe=>h (e▸OP);exact acx Ms this
   ·intro a ha b hb;let ⟨ha1,ZC⟩:=aY.mp ha;simp at ZC;rcases aH.mp hb with rfl|hb
    ·exact ZC
    ·let ⟨OP,Ms⟩:=aY.mp hb;simp at Ms;exact Ph ZC Ms
  ·simp only[cb,aH,aY,decide_eq_true_eq,jl,decide_eq_false_iff_not];constructor
   ·rintro(⟨a,_⟩|rfl|⟨a,_⟩)
    ·exact .inr a
    ·exact .inl rfl
    ·exact .inr a
   ·rintro(rfl|a)
    ·exact .inr (.inl rfl)
    ·rcases bS v c with h'|h'
     ·exact .inl ⟨a,h'⟩
     ·exact .inr (.inr ⟨a,by exact Wi h'⟩)
def Hw (cs:Nz):∀(r:Nz),r.Pairwise (· < ·)->(cs.foldl nS r).Pairwise (· < ·)/\∀v,v∈cs.foldl nS r↔v∈cs\/v∈r:=by
 induction cs with
 |nil=>intro r h;exact⟨h,λv=>by simp⟩
 |cons c cs ih=>
  intro r h;let ⟨h1,h2⟩:=DO h c;let ⟨h3,h4⟩:=ih (nS r c) h1;refine⟨h3,λv=> ?_⟩;rw[jg,h4 v,h2 v,aH];constructor
  ·rintro(a|a|a)
   ·exact .inl (.inr a)
   ·exact .inl (.inl a)
   ·exact .inr a
  ·rintro((a|a)|a)
   ·exact .inr (.inl a)
   ·exact .inl a
   ·exact .inr (.inr a)
def Hx (r:Nz) (c:Nat): ↑(nS r c)<= ↑r+1:=by
 unfold nS;split
 ·exact Gl
 ·rw[aj,az];have:=rl (λy=>decide (y<c)) r;exact acy this
def CY (cs:Nz) (hl: ↑cs<=100):lg [.lst (bN cs)]=aa (.lst (bN (cs.foldl nS []))):=by
 let s0:St:=⟨[~~~(.lst (bN cs)),ac,ac],[],[]⟩;have S2:∃a,mK (jA (ak 0)) (bf 2) (aC (jC (bY .Eq (qI false (ak 1) (ak 2)) (qI true (ak 1) (ak 2))) (aC (zQ false (ak 1) (ak 2)) br) br) br) ⟨[~~~(.lst (bN cs)),aa (.ob 0),ac],[],[.list []]⟩=aa (.next,⟨[~~~(.lst (bN cs)),aa (.ob 0),a],[],[.list (bN (cs.foldl nS []))]⟩):=by
  have key:∀(ds r:Nz) (a:OV),r.Pairwise (· < ·)-> ↑r+ ↑ds<=500->∃a',lP (bf 2) (aC (jC (bY .Eq (qI false (ak 1) (ak 2)) (qI true (ak 1) (ak 2))) (aC (zQ false (ak 1) (ak 2)) br) br) br) (bN ds) ⟨[~~~(.lst (bN cs)),aa (.ob 0),a],[],[.list (bN r)]⟩=aa (.next,⟨[~~~(.lst (bN cs)),aa (.ob 0),a'],[],[.list (bN (ds.foldl nS r))]⟩):=by
   intro ds;induction ds with
   |nil=>intro r a _ _;exact⟨a,rfl⟩
   |cons d ds ih=>
    intro r a hr cI;rw[az]at cI;let ⟨a',e⟩:=ih (nS r d) (~~~(.int (d:Int))) (DO hr d).1 (acz (Hx r d) cI);refine⟨a',?_⟩;let s1:St:=⟨[~~~(.lst (bN cs)),aa (.ob 0),~~~(.int (d:Int))],[],[.list (bN r)]⟩;have hb:∀right,qI right (ak 1) (ak 2) s1= ~~~(.int (↑(r.filter λy=>if right then decide (y<=d) else decide (y<d)):Nat)):=λright=>Aq right (a:= .ob 0) rfl rfl rfl (DN hr) (Wp cI);have hc:bY .Eq (qI false (ak 1) (ak 2)) (qI true (ak 1) (ak 2)) s1=aa (decide (d∉r)):=by unfold bY vh;rw[hb,hb];show aa (((↑(r.filter λy=>decide (y<d)):Nat):Int)==((↑(r.filter λy=>decide (y<=d)):Nat):Int))=_;congr 1;rw[dr,beq_iff_eq,decide_eq_true_iff,<- CX hr d];exact Pj
    have dX:aC (jC (bY .Eq (qI false (ak 1) (ak 2)) (qI true (ak 1) (ak 2))) (aC (zQ false (ak 1) (ak 2)) br) br) br s1=aa (.next,⟨[~~~(.lst (bN cs)),aa (.ob 0),~~~(.int (d:Int))],[],[.list (bN (nS r d))]⟩):=by
     have e:jC (bY .Eq (qI false (ak 1) (ak 2)) (qI true (ak 1) (ak 2))) (aC (zQ false (ak 1) (ak 2)) br) br s1=aa (.next,⟨[~~~(.lst (bN cs)),aa (.ob 0),~~~(.int (d:Int))],[],[.list (bN (nS r d))]⟩):=by
      unfold jC;rw[hc];by_cases hd:d∈r
      ·rw[decide_eq_false (by simpa using hd)];unfold nS;rw[if_pos hd];rfl
      ·rw[decide_eq_true hd];show aC (zQ false (ak 1) (ak 2)) br s1=_;rw[aU (L2 false (f:=ak 1) (g:=ak 2) (st:=s1) (j:=0) (x:=d) (r:=r) rfl rfl rfl (DN hr) (Wp cI))];unfold nS;rw[if_neg hd];rfl
     rw[aU e];rfl
    show lP _ _ (PV.int (d:Int)::bN ds) _=_;rw[iD (st1:=s1) rfl dX,jg];exact e
  let ⟨a,e⟩:=key cs [] ac gW (by simp;exact acA hl);exact⟨a,by rw[jZ (xs:=bN cs) rfl];exact e⟩
 let ⟨a,S2⟩:=S2;have eF:lc s0=aa (.ret (.ob 0),⟨[~~~(.lst (bN cs)),aa (.ob 0),a],[],[.list (bN (cs.foldl nS []))]⟩):=by unfold lc;rw[aU (st1:=⟨[~~~(.lst (bN cs)),aa (.ob 0),ac],[],[.list []]⟩) rfl,aU S2];rfl
 show(lc s0).bind (λr=>GN r.2 r.1)=_;rw[eF];rfl
def uN (n:NN) (i:Nat):Nat:= ↑(ii n i)
def oN (n:NN) (i:Nat):Nat:= ↑(kB n i)
def lC (n:NN):List Nat:=(L6.map (uN n)).foldl nS []
def rm (n:NN):List Nat:=(L6.map (oN n)).foldl nS []
def bg (n:NN) (i:Nat):Nat:= ↑((lC n).filter λy=>decide (y<uN n i))
def CD (n:NN) (i:Nat):Int:=(↑(rm n):Int)- (↑((rm n).filter λy=>decide (y<=oN n i)):Nat)
def jT (n:NN):List Str:=L6.flatMap λi=>(L6.filter (rel n i)).map λj=>nm i++nm j
def g4 (n:NN):PV:= .lst ((jT n).map PV.str)
def mP (n:NN):PV:= .lst [.lst (bN (lC n)),.lst (bN (rm n))]
def rn (n:NN):(lC n).Pairwise (· < ·)/\∀v,v∈lC n↔∃i,i<6/\uN n i=v:=by let ⟨h1,h2⟩:=Hw (L6.map (uN n)) [] gW;refine⟨h1,λv=> ?_⟩;rw[show v∈lC n↔_ from h2 v];simp[aQ,fZ]
def yI (n:NN):(rm n).Pairwise (· < ·)/\∀v,v∈rm n↔∃i,i<6/\oN n i=v:=by let ⟨h1,h2⟩:=Hw (L6.map (oN n)) [] gW;refine⟨h1,λv=> ?_⟩;rw[show v∈rm n↔_ from h2 v];simp[aQ,fZ]
def L3 (cs:Nz):∀(r:Nz),↑(cs.foldl nS r)<= ↑r+ ↑cs:=by
 induction cs with
 |nil=>intro r;simp
 |cons c cs ih=>intro r;rw[jg,az];exact acB (ih (nS r c)) (Hx r c)
def xU (n:NN): ↑(lC n)<=6:=by have:=L3 (L6.map (uN n)) [];rw[aw]at this;exact this
def Q8 (n:NN): ↑(rm n)<=6:=by have:=L3 (L6.map (oN n)) [];rw[aw]at this;exact this
def tP (st:St) (l:List PV) (h: ↑l<=10000):kq st [.pv (.lst l)]= ~~~(.int (↑l:Nat)):=by show((aa l).bind λl=>if ↑l<=sizeLine then aa (CV.pv (.int ↑l)) else ac)=_;rw[bK,if_pos (Lb h rfl)]
def jN (p:Nat->Bool): ↑(L6.filter p)<=6:=eX p L6
def afX (l:List Int) (n:NN) (y x:OV) (rs:SS):St:= {lv:=[~~~(.lst (l.map PV.int)),y,ac,ac,ac,ac,ac,ac,ac,ac,ac,ac,ac,ac,ac,ac,ac,ac],cv:=[ac,ac,ac,ac,ac,~~~(mP n),~~~(cq λi=>fK (kB n i)),~~~(cq λi=>fK (ii n i)),aa (.inst 0),~~~(cq λk=>jR (n k)),~~~(cq λk=>g0 (dP (n k))),~~~jt,~~~(cq λk=>cF (n k)),~~~(.lst (ig λk=>(n k:Int))),~~~(.lst ((numsOf l).map PV.int)),x],ob:=hU (rs.map cW)}
def afY (l:List Int) (n:NN) (y x:OV) (rs:SS):St:= {lv:=[~~~(.lst (l.map PV.int)),y,ac,ac,ac,ac,ac,ac,ac,ac,ac,ac,ac,ac,ac,ac,ac,ac],cv:=[~~~(cq λi=> .int (bg n i:Nat)),ac,ac,ac,ac,~~~(mP n),~~~(cq λi=>fK (kB n i)),~~~(cq λi=>fK (ii n i)),aa (.inst 0),~~~(cq λk=>jR (n k)),~~~(cq λk=>g0 (dP (n k))),~~~jt,~~~(cq λk=>cF (n k)),~~~(.lst (ig λk=>(n k:Int))),~~~(.lst ((numsOf l).map PV.int)),x],ob:=hU (rs.map cW)}
def afZ (l:List Int) (n:NN) (y x:OV) (rs:SS):St:= {lv:=[~~~(.lst (l.map PV.int)),y,ac,ac,ac,ac,ac,ac,ac,ac,ac,ac,ac,ac,ac,ac,ac,ac],cv:=[~~~(cq λi=> .int (bg n i:Nat)),ac,ac,ac,~~~(cq λi=> .int (CD n i)),~~~(mP n),~~~(cq λi=>fK (kB n i)),~~~(cq λi=>fK (ii n i)),aa (.inst 0),~~~(cq λk=>jR (n k)),~~~(cq λk=>g0 (dP (n k))),~~~jt,~~~(cq λk=>cF (n k)),~~~(.lst (ig λk=>(n k:Int))),~~~(.lst ((numsOf l).map PV.int)),x],ob:=hU (rs.map cW)}
def U5 (l:List Int) (n:NN) (y x:OV) (rs:SS):St:= {lv:=[~~~(.lst (l.map PV.int)),y,ac,ac,ac,ac,ac,ac,ac,ac,ac,ac,ac,ac,ac,ac,ac,ac],cv:=[~~~(cq λi=> .int (bg n i:Nat)),ac,ac,~~~(g4 n),~~~(cq λi=> .int (CD n i)),~~~(mP n),~~~(cq λi=>fK (kB n i)),~~~(cq λi=>fK (ii n i)),aa (.inst 0),~~~(cq λk=>jR (n k)),~~~(cq λk=>g0 (dP (n k))),~~~jt,~~~(cq λk=>cF (n k)),~~~(.lst (ig λk=>(n k:Int))),~~~(.lst ((numsOf l).map PV.int)),x],ob:=hU (rs.map cW)}
def af0 (l:List Int) (n:NN) (y x:OV) (rs:SS):Am (st9 l n y x rs)=aa (.next,afX l n y x rs):=by
 have inner:∀(W:Nat->List Nat),(∀i,↑(W i)<=6)->eh xw (jA (aX 1)) (dM (bf 0) fF (gN (dJ kq (au (bk (aX 0) (ak 0)) aZ)))) ⟨[],[~~~(cq λi=>fK (W i)),~~~(cq λk=>cF (n k))],hU (rs.map cW)⟩= ~~~(.lst (bN (L6.map λi=> ↑(W i)))):=by
  intro W hW;erw [xS (λst=>∃a,st=⟨[a],[~~~(cq λi=>fK (W i))],hU (rs.map cW)⟩) (λq=>true) (λi=> .int (↑(W i):Nat)) (qJ _ (λk=>cF (n k)) rfl) ⟨ac,rfl⟩ ?_]
  ·rw[bM.mpr (λq q=>rfl)];unfold bN;rw[bD];rfl
  ·rintro i hi st ⟨a,rfl⟩;refine⟨⟨[~~~(.str (nm i))],[~~~(cq λi=>fK (W i))],hU (rs.map cW)⟩,rfl,rfl,⟨_,rfl⟩,λq=> ?_⟩;refine iK (bA (cA rfl rfl (gj _ (λi=>fK (W i)) (fZ.mpr hi))) rfl) ?_;have:=tP ⟨[~~~(.str (nm i))],[~~~(cq λi=>fK (W i))],hU (rs.map cW)⟩ ((W i).map λi=> .str (nm i)) (by rw[aw];have:=hW i;exact Dm this);rw[aw]at this;exact this
 unfold Am bZ;have h:eh Hn (jA (jc (au (aX 7) (au (aX 6) aZ)))) (dM (jL 0) fF (gN (kh lg (au (eh xw (jA (aX 1)) (dM (bf 0) fF (gN (dJ kq (au (bk (aX 0) (ak 0)) aZ))))) aZ)))) (st9 l n y x rs)= ~~~(mP n):=by
  erw [lh (J:=λst=>∃a,st=⟨[],[a,~~~(cq λk=>cF (n k))],hU (rs.map cW)⟩) (p:=λq=>true) (xs:=[cq λi=>fK (ii n i),cq λi=>fK (kB n i)]) (g:=λx=>match x with| .oQ l=> .lst (bN ((l.map λp=>match p.2 with| .lst m=> ↑m|_=>0).foldl nS []))|x=>x) ?_ (by show 2<50000;decide) ⟨ac,rfl⟩ ?_]
  ·rw[bM.mpr (λq q=>rfl)];have e:∀W:Nat->List Nat,((L6.map λi=>(nm i,fK (W i))).map λp=>match p.2 with| .lst m=> ↑m|_=>0)=L6.map λi=> ↑(W i):=λW=>by rw[bD];apply cj;intro i _;show ↑((W i).map λi=>PV.str (nm i))=_;rw[aw]
   show aa (CV.pv (.lst [.lst (bN (((L6.map λi=>(nm i,fK (ii n i))).map λp=>match p.2 with| .lst m=> ↑m|_=>0).foldl nS [])),.lst (bN (((L6.map λi=>(nm i,fK (kB n i))).map λp=>match p.2 with| .lst m=> ↑m|_=>0).foldl nS []))]))=_;rw[e,e];rfl
  ·unfold jA;rw[qt (l:=[.pv (cq λi=>fK (ii n i)),.pv (cq λi=>fK (kB n i))]) rfl rfl (by simp)];rfl
  ·have step:∀(W:Nat->List Nat),(∀i,↑(W i)<=6)->∀a,∃st1,jL 0 (.pv (cq λi=>fK (W i))) ⟨[],[a,~~~(cq λk=>cF (n k))],hU (rs.map cW)⟩=aa st1/\fF st1=aa true/\(∃a,st1=⟨[],[a,~~~(cq λk=>cF (n k))],hU (rs.map cW)⟩)/\(true=true->kh lg (au (eh xw (jA (aX 1)) (dM (bf 0) fF (gN (dJ kq (au (bk (aX 0) (ak 0)) aZ))))) aZ) st1= ~~~(.lst (bN (((L6.map λi=>(nm i,fK (W i))).map λp=>match p.2 with| .lst m=> ↑m|_=>0).foldl nS [])))):=by
    intro W hW a;refine⟨⟨[],[~~~(cq λi=>fK (W i)),~~~(cq λk=>cF (n k))],hU (rs.map cW)⟩,rfl,rfl,⟨_,rfl⟩,λq=> ?_⟩;have e:((L6.map λi=>(nm i,fK (W i))).map λp=>match p.2 with| .lst m=> ↑m|_=>0)=L6.map λi=> ↑(W i):=by rw[bD];apply cj;intro i _;show ↑((W i).map λi=>PV.str (nm i))=_;rw[aw]
    rw[e];exact mZ (bA (inner W hW) rfl) rfl (CY _ (by simp[L6]))
   rintro x hx st ⟨a,rfl⟩;rcases aH.mp hx with rfl|hx
   ·exact step _ (λi=>jN _) a
   ·rcases aH.mp hx with rfl|hx
    ·exact step _ (λi=>jN _) a
    ·nomatch hx
 rw[h];rfl
def L4 (st:St) (W:Nat->List Nat) (hW:∀i,↑(W i)<=6) (hi:i<6) (h1:f st= ~~~(cq λi=>fK (W i))) (h2:g st= ~~~(.str (nm i))):dJ kq (au (bk f g) aZ) st= ~~~(.int (↑(W i):Nat)):=by refine iK (bA (cA h1 h2 (gj _ (λi=>fK (W i)) (fZ.mpr hi))) rfl) ?_;have:=tP st ((W i).map λi=> .str (nm i)) (by rw[aw];have:=hW i;exact Dm this);rw[aw]at this;exact this
def af1 (l:List Int) (n:NN) (y x:OV) (rs:SS):An (afX l n y x rs)=aa (.next,afY l n y x rs):=by
 unfold An bZ;erw [uE (λst=>∃a,st=⟨[a],[~~~(cq λi=>fK (ii n i)),~~~(mP n)],hU (rs.map cW)⟩) (λi=> .int (bg n i:Nat)) (qJ _ (λk=>cF (n k)) rfl) ⟨ac,rfl⟩ ?_]
 ·rfl
 ·rintro i hi st ⟨a,rfl⟩;refine⟨⟨[~~~(.str (nm i))],[~~~(cq λi=>fK (ii n i)),~~~(mP n)],hU (rs.map cW)⟩,rfl,⟨_,rfl⟩,rfl,?_⟩;have:=xU n;exact Aq false (a:= .pv (.lst (bN (lC n)))) (r:=lC n) (cA rfl rfl (ky _ [.lst (bN (lC n)),.lst (bN (rm n))] 0 ∅ rfl)) (L4 _ (ii n) (λi=>jN _) hi rfl rfl) rfl (DN (rn n).1) (Pk this)
def YM (l:List Int) (n:NN) (y x:OV) (rs:SS):xx (afY l n y x rs)=aa (.next,afZ l n y x rs):=by
 unfold xx bZ;erw [uE (λst=>∃a,st=⟨[a],[~~~(mP n),~~~(cq λi=>fK (kB n i))],hU (rs.map cW)⟩) (λi=> .int (CD n i)) (qJ _ (λk=>cF (n k)) rfl) ⟨ac,rfl⟩ ?_]
 ·rfl
 ·rintro i hi st ⟨a,rfl⟩;refine⟨⟨[~~~(.str (nm i))],[~~~(mP n),~~~(cq λi=>fK (kB n i))],hU (rs.map cW)⟩,rfl,⟨_,rfl⟩,rfl,?_⟩;have hl:=Q8 n;have hit:bk (aX 0) ⇑1 ⟨[~~~(.str (nm i))],[~~~(mP n),~~~(cq λi=>fK (kB n i))],hU (rs.map cW)⟩= ~~~(.lst (bN (rm n))):=cA rfl rfl (ky _ [.lst (bN (lC n)),.lst (bN (rm n))] 1 ∅ rfl);have cI:=tP ⟨[~~~(.str (nm i))],[~~~(mP n),~~~(cq λi=>fK (kB n i))],hU (rs.map cW)⟩ (bN (rm n)) (by unfold bN;rw[aw];exact Dm hl);rw[show ↑(bN (rm n))= ↑(rm n) by unfold bN;erw [aw]]at cI;exact dq (iK (bA hit rfl) cI) (Aq true (a:= .pv (.lst (bN (rm n)))) (r:=rm n) hit (L4 _ (kB n) (λi=>jN _) hi (g:=ak 0) (f:=aX 1) rfl rfl) rfl (DN (yI n).1) (Pk hl)) rfl
def Q9 (st:St) (m:Nat):EG st [.pv (cF m)]= ~~~(.int (hi m:Nat)):=by show aa (CV.pv (.int ([(dG m:Int),(dB m:Int)].foldl max (dR m:Int))))=_;congr 3;show max (max (dR m:Int) (dG m)) (dB m)=_;unfold hi;exact acC
def Ra (st:St) (m:Nat):MZ st [.pv (cF m)]= ~~~(.int (lo m:Nat)):=by show aa (CV.pv (.int ([(dG m:Int),(dB m:Int)].foldl min (dR m:Int))))=_;congr 3;show min (min (dR m:Int) (dG m)) (dB m)=_;unfold lo;exact acD
def DP (n:NN) (p:Nat->Nat->Bool) (h:∀i,i<6->∀j,j<6->p i j=rel n i j):PV.lst (L6.flatMap λi=>(L6.filter (p i)).map λj=>PV.str (nm i++nm j))=g4 n:=by unfold g4 jT;rw[gy];congr 1;refine eQ λi hi=> ?_;rw[bD,io λj hj=>h i (fZ.mp hi) j (fZ.mp hj)];rfl
def YN (l:List Int) (n:NN) (y x:OV) (rs:SS):xy (afZ l n y x rs)=aa (.next,U5 l n y x rs):=by
 unfold xy bZ;erw [yH (λst=>∃a b,st=⟨[a,b],[~~~(cq λk=>cF (n k))],hU (rs.map cW)⟩) (rel n) (λi j=> .str (nm i++nm j)) (qJ _ (λk=>cF (n k)) rfl) ⟨ac,ac,rfl⟩ ?_]
 ·rw[DP n (rel n) λq q q q=>rfl];rfl
 ·rintro i hi st ⟨a,b,rfl⟩;refine⟨⟨[~~~(.str (nm i)),b],[~~~(cq λk=>cF (n k))],hU (rs.map cW)⟩,rfl,rfl,⟨_,_,rfl⟩,qJ _ (λk=>cF (n k)) rfl,λst=>∃b,st=⟨[~~~(.str (nm i)),b],[~~~(cq λk=>cF (n k))],hU (rs.map cW)⟩,⟨_,rfl⟩,λst ⟨b,h⟩=>⟨_,b,h⟩,?_⟩;rintro j hj st ⟨b,rfl⟩;refine⟨⟨[~~~(.str (nm i)),~~~(.str (nm j))],[~~~(cq λk=>cF (n k))],hU (rs.map cW)⟩,rfl,?_,⟨_,rfl⟩,λq=>dq (f:=ak 0) (g:=ak 1) rfl rfl (kj _ _ _ (by rw[jS,jS];decide))⟩;unfold bY vh;rw[iK (bA (cA (f:=aX 0) (g:=ak 0) rfl rfl (gj _ (λk=>cF (n k)) (fZ.mpr hi))) rfl) (Q9 _ (n i)),iK (bA (cA (f:=aX 0) (g:=ak 1) rfl rfl (gj _ (λk=>cF (n k)) (fZ.mpr hj))) rfl) (Ra _ (n j))];show aa (decide (((Mine.hi (n i):Nat):Int)< ((lo (n j):Nat):Int)))=_;unfold rel;congr 2;exact propext cD
def filter_le {l:List α}:(∀a∈l,p a=true->q a=true)-> ↑(l.filter p)<= ↑(l.filter q):=by
 induction l with
 |nil=>intro _;exact ab _
 |cons a l ih=>intro h;have ih:=ih λb hb=>h b (aK _ hb);have ha:=h a ay;rw[bl,bl];cases e:p a<;>cases e':q a<;>simp_all<;>(exact jn ‹_›)
def filter_lt {l:List α}:(∀a∈l,p a=true->q a=true)->∀ {b:α},b∈l->p b=false->q b=true-> ↑(l.filter p)< ↑(l.filter q):=by
 induction l with
 |nil=>intro _ _ hb _ _;cases hb
 |cons a l ih=>
  intro h b hb h1 h2;have h':∀a∈l,p a=true->q a=true:=λb hb=>h b (aK _ hb);have ha:=h a ay;rcases aH.mp hb with rfl|hb
  ·have ih:=filter_le h';rw[bl,bl,h1,h2];simp;exact fQ ‹_›
  ·have ih:=ih h' hb h1 h2;rw[bl,bl];cases e:p a<;>cases e':q a<;>simp_all<;>(exact eH ‹_›)
theorem JH (f:α->Nat):∀l:List α,l≠ []->∃a∈l,∀b∈l,f b<=f a
 | [],h=>absurd rfl h
 | [a],_=>⟨a,ay,λb hb=>by rw[aB.mp hb];exact ab _⟩
 |a::c::l,_=>by
  let ⟨d,hd,h⟩:=JH f (c::l) (by simp);by_cases e:f d<=f a
  ·refine⟨a,ay,λb hb=> ?_⟩;rcases aH.mp hb with rfl|hb
   ·exact ab _
   ·exact aA (h b hb) e
  ·refine⟨d,aK _ hd,λb hb=> ?_⟩;rcases aH.mp hb with rfl|hb
   ·exact Wq e
   ·exact h b hb
def YO (f:α->Nat) (l:List α) (h:l≠ []):∃a∈l,∀b∈l,f a<=f b:=by
 have key:∀l:List α,l≠ []->∃a∈l,∀b∈l,f a<=f b:=by
  intro l;induction l with
  |nil=>exact λh=>absurd rfl h
  |cons a l ih=>
   intro _;by_cases e:l=[]
   ·subst e;exact⟨a,ay,λb hb=>by rw[aB.mp hb];exact ab _⟩
   ·let ⟨d,hd,h⟩:=ih e;by_cases e:f a<=f d
    ·refine⟨a,ay,λb hb=> ?_⟩;rcases aH.mp hb with rfl|hb
     ·exact ab _
     ·exact aA e (h b hb)
    ·refine⟨d,aK _ hd,λb hb=> ?_⟩;rcases aH.mp hb with rfl|hb
     ·exact Wq e
     ·exact h b hb
 exact key l h
def BW (hx:x<6) (h:rel n x y=true) (hu:uN n y<=uN n z):rel n x z=true:=by
 by_cases hz:rel n x z=true
 ·exact hz
 ·have h1:hi (n x)<lo (n y):=of_decide_eq_true h;have:=filter_lt (l:=L6) (p:=λk=>rel n k z) (q:=λk=>rel n k y) (λa v ha=>by
   have:hi (n a)<lo (n z):=of_decide_eq_true ha;exact decide_eq_true (acE this h1 (λe=>hz (decide_eq_true e)))) (fZ.mpr hx) (ko.mpr hz) h
  exact(acF this rfl rfl hu).elim
def L5 (n:NN) (x:Nat):rel n x x=false:=by have:=BU (n x);exact decide_eq_false (Wi this)
def Ar (hi:i<6):∃c,c∈lC n/\∀y,y<6->(rel n i y=true↔c<uN n y):=by
 left;let ⟨z,hz,h⟩:=JH (uN n) (L6.filter λy=> !rel n i y) (List.ne_nil_of_mem (aY.mpr ⟨fZ.mpr hi,by rw[L5];rfl⟩));right;rw[aY]at hz;refine⟨uN n z,((rn n).2 _).mpr ⟨z,fZ.mp hz.1,rfl⟩,λy hy=>⟨λe=> ?_,λe=> ?_⟩⟩
 ·by_cases hc:uN n z<uN n y
  ·exact hc
  ·have:=BW hi e (iS hc);rw[this]at hz;nomatch hz.2
 ·by_cases hc:rel n i y=true
  ·exact hc
  ·have:=h y (aY.mpr ⟨fZ.mpr hy,by simpa using hc⟩);exact absurd ‹_› (dE ‹_›)
def Rb (hc:c∈lC n):∃z,z<6/\∀y,y<6->(rel n z y=true↔c<uN n y):=by
 let ⟨w,hw,rfl⟩:=((rn n).2 _).mp hc;by_cases he:(L6.filter λy=>decide (uN n w<uN n y))=[]
 ·let ⟨z,hz,h⟩:=JH (λy=>hi (n y)) L6 ∅;refine⟨z,fZ.mp hz,λy hy=>⟨λe=> ?_,λe=> ?_⟩⟩
  ·have h1:hi (n z)<lo (n y):=of_decide_eq_true e;exact acG h1 (BU (n y)) (h y (fZ.mpr hy))
  ·have:y∈L6.filter λy=>decide (uN n w<uN n y):=aY.mpr ⟨fZ.mpr hy,decide_eq_true e⟩;rw[he]at this;nomatch this
 ·let ⟨y1,h1,h⟩:=YO (uN n) _ he;rw[aY]at h1;have h1':uN n w<uN n y1:=of_decide_eq_true h1.2;have hz:∃z,z<6/\rel n z y1=true/\rel n z w=false:=by
   apply pN;intro hn;have:uN n y1<=uN n w:=filter_le (l:=L6) λa ha e=>by
    cases hr:rel n a w with
    |true=>rfl
    |false=>exact absurd ⟨a,fZ.mp ha,e,hr⟩ hn
   exact KZ h1' this
  let ⟨z,hz,e1,e2⟩:=hz;refine⟨z,hz,λy hy=>⟨λe=> ?_,λe=> ?_⟩⟩
  ·by_cases hc:uN n w<uN n y
   ·exact hc
   ·rw[BW hz e (iS hc)]at e2;nomatch e2
  ·exact BW hz e1 (h y (aY.mpr ⟨fZ.mpr hy,decide_eq_true e⟩))
def en (n:NN) (i:Nat):Nat:=(CD n i).toNat
def Rc (n:NN) (c:Nat):Nat:= ↑(L6.filter λy=>decide (c<uN n y))
def Fp (hd:d∈lC n) (h:c<d):Rc n d<Rc n c:=by
 let ⟨w,hw,rfl⟩:=((rn n).2 _).mp hd;exact filter_lt (λa q ha=>by
  have:uN n w<uN n a:=of_decide_eq_true ha;exact decide_eq_true (Wr h this)) (fZ.mpr hw) (decide_eq_false (Pl)) (decide_eq_true h)
def JI (h:∀y,y<6->(rel n i y=true↔c<uN n y)):oN n i=Rc n c:=by unfold oN kB Rc;rw[io λy hy=> ?_];rw[dr,decide_eq_true_iff];exact h y (fZ.mp hy)
def Hy {l:Nz} (h:l.Pairwise (· < ·)):l.Nodup:=h.imp λh e=>by simp_all
def NG (n:NN):((lC n).map (Rc n)).Perm (rm n):=by
 refine(kH ?_ (Hy (yI n).1)).mpr λv=> ?_
 ·refine gX _ (λq q h=>h) (gJ ?_ (rn n).1);intro a b _ hb Mp e;have:=Fp hb Mp;simp_all
 ·rw[(yI n).2,aQ];constructor
  ·rintro⟨c,hc,rfl⟩;let ⟨z,hz,h⟩:=Rb hc;exact⟨z,hz,JI h⟩
  ·rintro⟨i,hi,rfl⟩;let ⟨c,hc,h⟩:=Ar hi;exact⟨c,hc,(JI h).symm⟩
def Fq (hc:c∈lC n) (h:∀y,y<6->(rel n i y=true↔c<uN n y)):CD n i=(↑((lC n).filter λy=>decide (y<c)):Nat):=by
 have h2: ↑((rm n).filter λa=> !decide (a<=oN n i))= ↑((lC n).filter λy=>decide (y<c)):=by
  erw [<- ((NG n).filter _).length_eq,dF,aw];erw [io λd hd=> ?_];rw[JI h,dr];simp only[Function.comp_apply,jl,decide_eq_false_iff_not,decide_eq_true_iff];rcases eG d c with h3|h3|h3
  ·have:=Fp hc h3;exact acH this h3
  ·subst h3;exact acI
  ·have:=Fp hd h3;exact acJ this h3
 unfold CD;exact acK (rl (λy=>decide (y<=oN n i)) (rm n)) h2
def U6 (hc:c∈lC n): ↑((lC n).filter λy=>decide (y<c))< ↑((lC n).filter λy=>decide (y<d))↔c<d:=by
 constructor
 ·intro h;apply Cx;intro h';have:=filter_le (l:=lC n) (p:=λy=>decide (y<d)) (q:=λy=>decide (y<c)) λa z ha=>by have:a<d:=of_decide_eq_true ha;exact decide_eq_true (Ph this h')
  exact KZ h this
 ·intro h;exact filter_lt (λa z ha=>by
   have:a<c:=of_decide_eq_true ha;exact decide_eq_true (Wr this h)) hc (decide_eq_false (Pl)) (decide_eq_true h)
def mN (n:NN):Nat:= ↑(lC n)
def Fs (hi:i<6):CD n i=(en n i:Int):=by let ⟨c,hc,h⟩:=Ar (n:=n) hi;unfold en;rw[Fq hc h,mU]
def rY (hi:i<6) (hj:j<6):rel n i j=decide (en n i<bg n j):=by let ⟨c,hc,h⟩:=Ar (n:=n) hi;have e:=Fq hc h;rw[Fs hi]at e;rw[dr,h j hj,decide_eq_true_iff,<- U6 hc];unfold bg;exact acL e
def BX (hi:i<6):bg n i<=en n i:=by have:=rY (n:=n) hi hi;rw[L5]at this;have:=of_decide_eq_false this.symm;exact Wj this
def L7 (hi:i<6):en n i<mN n:=by let ⟨c,hc,h⟩:=Ar (n:=n) hi;have e:=Fq hc h;rw[Fs hi]at e;have:=filter_lt (l:=lC n) (p:=λy=>decide (y<c)) (q:=λz=>true) (λz z z=>rfl) hc (decide_eq_false (Pl)) rfl;rw[bM.mpr λz z=>rfl]at this;unfold mN;exact acM e this
def pl (n:NN) (c:Nat):Nat:=if c<6 then bg n c else en n (c- 6)
def xV (h:x<6):pl n x=bg n x:=if_pos h
def Hz (n:NN) (x:Nat):pl n (6+x)=en n x:=by unfold pl;rw[if_neg (by simp)];congr 1;simp
def af2 (h:c<12):pl n c<mN n:=by
 unfold pl;split
 ·exact bB (BX (by assumption)) (L7 (by assumption))
 ·exact L7 (Ws h)
def As (n:NN) (a c:Nat):Prop:=pl n a<pl n c\/(pl n a=pl n c/\a<c)
def U7 (n:NN) (K m:Nat):List Nat:=(cK m).flatMap λj=>(cK K).filter λc=>pl n c==j
def L8:c∈U7 n K m↔c<K/\pl n c<m:=by unfold U7;simp only[iP,dK,aY,beq_iff_eq];exact⟨λ⟨j,h1,h2,h3⟩=>⟨h2,h3▸h1⟩,λ⟨h1,h2⟩=>⟨_,h2,h1,rfl⟩⟩
def BY (n:NN) (K:Nat):∀m,(U7 n K m).Pairwise (As n):=by
 intro l9;induction l9 with
 |zero=>exact gW
 |succ m ih=>
  unfold U7;rw[lV,iC,ib];refine⟨ih,?_,λa ha c hc=> ?_⟩
  ·rw[bJ,sF,bu];refine gJ ?_ (List.Pairwise.filter _ (List.pairwise_lt_range));intro a c ha hc h;have h1:=(aY.mp ha).2;have h2:=(aY.mp hc).2;rw[beq_iff_eq]at h1 h2;exact .inr ⟨by rw[h1,h2],h⟩
  ·have h1:=(L8.mp ha).2;rw[bJ,sF,bu]at hc;have h2:=(aY.mp hc).2;rw[beq_iff_eq]at h2;exact .inl (by simp_all)
def toks (n:NN):List Nat:=U7 n 12 (mN n)
def HA (n:NN):List Nat:=U7 n 6 (mN n)
def gm:c∈toks n↔c<12:=L8.trans ⟨λh=>h.1,λh=>⟨h,af2 h⟩⟩
def nc (h:As n a a):False:=by unfold As at h;simp_all
def DQ (h:As n a c) (h':As n c a):False:=
 h.elim (λh=>h'.elim (z1 h) λh'=>jV h h'.1) λh=>h'.elim (λh'=>jV h' h.1) λh'=>z1 h.2 h'.2
def Rd (hy:y<6) (hx:x<6) (h:As n y x):bg n y<=bg n x:=by unfold As at h;rw[xV hy,xV hx]at h;exact h.elim ce λh=>fb h.1
def yJ (h:a≠c):As n a c\/As n c a:=by unfold As;exact acN h
def oM (h:toks n=P++c::Q):a∈P↔a<12/\As n a c:=by
 have hs:=BY n 12 (mN n);rw[show U7 n 12 (mN n)=_ from h,ib]at hs;constructor
 ·intro ha;exact⟨gm.mp (by rw[h];exact ft _ ha),hs.2.2 a ha c ay⟩
 ·rintro⟨h1,h2⟩;have:=(gm (n:=n)).mpr h1;rw[h]at this;rcases cb.mp this with h3|h3
  ·exact h3
  ·rcases aH.mp h3 with rfl|h3
   ·exact(nc h2).elim
   ·exact(DQ h2 ((ed.mp hs.2.1).1 a h3)).elim
def mn (P:Nz):List Nat:=L6.filter λy=>P.contains y&& !P.contains (6+y)
def YP (n:NN) (a c:Nat):Bool:=decide (pl n a<pl n c\/(pl n a=pl n c/\a<c))
def vq (n:NN) (x:Nat):List Nat:=L6.filter λy=>YP n y x&&decide (bg n x<=en n y)
def j3:y∈vq n x↔y<6/\As n y x/\bg n x<=en n y:=by unfold vq YP As;rw[aY,fZ,dj,decide_eq_true_iff,decide_eq_true_iff]
def oO:y∈mn P↔y<6/\y∈P/\6+y∉P:=by unfold mn;rw[aY,fZ];simp
def JJ (h:toks n=P++x::Q) (hx:x<6):mn P=vq n x:=by unfold mn vq;apply io;intro y hy;rw[fZ]at hy;rw[dr];simp only[dj,List.contains_iff_mem,jl,<- Bool.not_eq_true,YP,decide_eq_true_iff];rw[oM h,oM h];unfold As;rw[Hz,xV hx,xV hy];exact acO hy hx
def ro (P:Nz):(mn P).Nodup:=li.filter _
def BZ (h:toks n=P++x::Q) (hx:x<6):x∉mn P/\(mn (P++[x])).Perm (x::mn P):=by
 have h1:x∉mn P:=λhm=>by rw[JJ h hx,j3]at hm;exact nc hm.2.1
 refine⟨h1,(kH (ro _) (fD.mpr ⟨h1,ro _⟩)).mpr λy=> ?_⟩;have h2:6+x∉P:=λhm=>by rw[oM h]at hm;have:=BX (n:=n) hx;unfold As at hm;rw[Hz,xV hx]at hm;exact acP hm this
 rw[aH,oO,oO];simp only[cb,aB];constructor
 ·rintro⟨h3,h4|h4,h5⟩
  ·exact .inr ⟨h3,h4,λe=>h5 (.inl e)⟩
  ·exact .inl h4
 ·rintro(rfl|⟨h3,h4,h5⟩)
  ·exact⟨hx,.inr rfl,λe=>e.elim h2 (acQ)⟩
  ·exact⟨h3,.inl h4,λe=>e.elim h5 (acR hx)⟩
def DR (h:toks n=P++(6+x)::Q) (hx:x<6):(mn P).Perm (x::mn (P++[6+x])):=by
 have h1:x∉mn (P++[6+x]):=λhm=>by rw[oO]at hm;exact hm.2.2 (dQ _ ay)
 have h2:x∈P:=by rw[oM h];have:=BX (n:=n) hx;unfold As;rw[Hz,xV hx];exact acS hx this
 have h3:6+x∉P:=λhm=>by rw[oM h]at hm;exact nc hm.2
 refine(kH (ro _) (fD.mpr ⟨h1,ro _⟩)).mpr λy=> ?_;rw[aH,oO,oO];simp only[cb,aB];constructor
 ·rintro⟨h4,h5,h6⟩;by_cases e:y=x
  ·exact .inl e
  ·exact .inr ⟨h4,.inl h5,λh=>h.elim h6 (acT e)⟩
 ·rintro(rfl|⟨h4,h5,h6⟩)
  ·exact⟨hx,h2,h3⟩
  ·exact⟨h4,h5.elim id λe=>absurd (e▸h4) (dE (bh ..)),λe=>h6 (.inl e)⟩
def Rf (n:NN):mn (toks n)=[]:=by rw[nK];intro y hy;rw[oO,gm,gm]at hy;exact acU hy
def inc (n:NN) (x y:Nat):Prop:=rel n x y=false/\rel n y x=false
def L9 (hx:x<6) (hy:y<6):inc n x y↔bg n y<=en n x/\bg n x<=en n y:=by unfold inc;rw[rY hx hy,rY hy hx,decide_eq_false_iff_not,decide_eq_false_iff_not];simp
def xW (h:inc n x y):inc n y x:=⟨h.2,h.1⟩
def Au (hx:x<6) (h:y∈vq n x):inc n y x:=by rw[j3]at h;rw[L9 h.1 hx];exact⟨h.2.2,aA (Rd h.1 hx h.2.1) (BX hx)⟩
def B0 (hx:x<6) (hy:y<6) (h:inc n x y) (hb:As n x y):x∈vq n y:=by rw[L9 hx hy]at h;exact j3.mpr ⟨hx,hb,h.1⟩
def HB (hx:x<6) (hy:y∈vq n x) (hz:z∈vq n x) (hb:As n y z):y∈vq n z:=by rw[j3]at hy hz⊢;exact⟨hy.1,hb,aA (Rd hz.1 hx hz.2.1) hy.2.2⟩
def U8 {A:Nz}:A≠ []->∃x∈A,∀y∈A,y≠x->As n y x:=by
 induction A with
 |nil=>intro h;exact absurd rfl h
 |cons a A ih=>
  intro _;by_cases e:A=[]
  ·subst e;exact⟨a,ay,λy hy h=>absurd (aB.mp hy) h⟩
  ·let ⟨x,hx,h⟩:=ih e;by_cases hb:As n x a
   ·refine⟨a,ay,λy hy hn=> ?_⟩;rcases aH.mp hy with rfl|hy
    ·exact absurd rfl hn
    ·by_cases e2:y=x
     ·exact e2▸hb
     ·have:=h y hy e2;unfold As at this hb⊢;exact acV this hb
   ·refine⟨x,aK _ hx,λy hy hn=> ?_⟩;rcases aH.mp hy with rfl|hy
    ·exact(yJ hn).resolve_right hb
    ·exact h y hy hn
def Ft (n:NN) (A:Nz):Prop:=A.Pairwise λx y=>inc n x y
def U9 {A:Nz} (h6:∀x∈A,x<6) (hn:A.Nodup) (ha:∀x∈A,∀y∈A,x≠y->inc n x y) (hd:∀x,x<6-> ↑(vq n x)+1<=d): ↑A<=d:=by
 by_cases e:A=[]
 ·subst e;exact cJ _
 ·let ⟨x,hx,h⟩:=U8 (n:=n) e;have:=fk hn (l₂:=x::vq n x) λy hy=>by
   by_cases e:y=x
   ·exact e▸ay
   ·exact aK _ (B0 (h6 y hy) (h6 x hx) (ha y hy x hx e) (h y hy e))
  have:=hd x (h6 x hx);rw[az]at*;exact aA ‹_› ‹_›
def qv (n:NN) (W:LN) (x:Nat):List (List Nat):=W++(W.filter λA=>A.all λy=> !(rel n x y||rel n y x)).map (· ++[x])
def NH (R:Nz):∀(D:Nz) (W:LN),(D++R).Nodup->(∀A∈W,A.Sublist D/\Ft n A)->(∀A:List Nat,A.Sublist D->Ft n A->A∈W)->
  (∀A∈R.foldl (qv n) W,A.Sublist (D++R)/\Ft n A)/\∀A:List Nat,A.Sublist (D++R)->Ft n A->A∈R.foldl (qv n) W:=by
 induction R with
 |nil=>intro D W _ h1 h2;rw[bu];exact⟨h1,h2⟩
 |cons x R ih=>
  intro D W hn h1 h2;rw[(by simp:D++x::R=(D++[x])++R)]at hn⊢;refine ih (D++[x]) (qv n W x) hn ?_ ?_
  ·intro A hA;rcases cb.mp hA with hA|hA
   ·exact⟨(h1 A hA).1.trans (List.sublist_append_left _ _),(h1 A hA).2⟩
   ·let ⟨B,hB,rfl⟩:=aQ.mp hA;rw[aY,fH]at hB;refine⟨(h1 B hB.1).1.append (F5 _),ib.mpr ⟨(h1 B hB.1).2,List.pairwise_singleton _ _,λa ha b hb=> ?_⟩⟩;rw[aB.mp hb];have:=hB.2 a ha;simp only[jl,vA]at this;exact⟨this.2,this.1⟩
  ·intro A hs ha;rcases List.sublist_append_iff.mp hs with⟨B,C,rfl,hB,hC⟩;unfold qv;rw[cb];have hC':C=[]\/C=[x]:=by
    cases hC with
    |cons _ h=>exact .inl (AG.mp h)
    |cons_cons _ h=>exact .inr (by rw[AG.mp h])
   rcases hC' with rfl|rfl
   ·rw[bu]at ha⊢;exact .inl (h2 B hB ha)
   ·apply Or.inr;rw[Ft,ib]at ha;refine aQ.mpr ⟨B,aY.mpr ⟨h2 B hB ha.1,fH.mpr λy hy=> ?_⟩,rfl⟩;have:=ha.2.2 y hy x ay;simp only[jl,vA];exact⟨this.2,this.1⟩
def nz (n:NN):List (List Nat):=L6.foldl (qv n) [[]]
def Av (n:NN):(∀A∈nz n,A.Sublist L6/\Ft n A)/\∀A:List Nat,A.Sublist L6->Ft n A->A∈nz n:=by
 refine NH L6 [] [[]] li (λA h=> ?_) λA h q=> ?_
 ·rw[aB.mp h];exact⟨F5 _,gW⟩
 ·rw[AG.mp h];exact ay
def Ma {A:Nz}:Ft n A->∀x∈A,∀y∈A,x≠y->inc n x y:=by
 induction A with
 |nil=>intro _ _ hx _ _ _;cases hx
 |cons a A ih=>
  intro h x hx y hy e;rw[Ft,ed]at h;rcases aH.mp hx with rfl|hx1<;>rcases aH.mp hy with rfl|hy1
  ·exact absurd rfl e
  ·exact h.1 y hy1
  ·exact xW (h.1 x hx1)
  ·exact ih h.2 x hx1 y hy1 e
def HC (hf:f<6) (hd:∀x,x<6-> ↑(vq n x)+1<=d) (hfd: ↑(vq n f)+1=d):(∀A∈nz n,↑A<=d)/\∃A∈nz n,↑A=d:=by
 refine⟨λA hA=> ?_,?_⟩
 ·let ⟨h1,h2⟩:=(Av n).1 A hA;have hn:=h1.nodup li;exact U9 (λx hx=>fZ.mp (h1.subset hx)) hn (Ma h2) hd
 ·let A:=L6.filter λy=>decide (y=f\/y∈vq n f);have hm:∀y,y∈A↔y=f\/y∈vq n f:=λy=>by show y∈L6.filter _↔_;rw[aY,fZ,decide_eq_true_iff];exact⟨λh=>h.2,λh=>⟨h.elim (λe=>e▸hf) λh=>(j3.mp h).1,h⟩⟩
  have hA:A.Nodup:=li.filter _;refine⟨A,(Av n).2 A List.filter_sublist (gJ ?_ hA),?_⟩
  ·intro x y hx hy oS;rcases(hm x).mp hx with rfl|hx<;>rcases(hm y).mp hy with rfl|hy
   ·exact absurd rfl oS
   ·exact xW (Au hf hy)
   ·exact Au hf hx
   ·rcases yJ (n:=n) oS with hb|hb
    ·exact Au (j3.mp hy).1 (HB hf hx hy hb)
    ·exact xW (Au (j3.mp hx).1 (HB hf hy hx hb))
  ·have hn:(f::vq n f).Nodup:=fD.mpr ⟨λh=>nc (j3.mp h).2.1,li.filter _⟩;have:=((kH hA hn).mpr λy=>by rw[hm,aH]).length_eq;rw[this,az,hfd]
structure NI (n:NN) (h:NN):Prop where
 le:∀x,x<6->h x<= ↑(vq n x)
 ne:∀x,x<6->∀y∈vq n x,h y≠h x
def NI.inc (H:NI n h) (hx:x<6) (hy:y<6) (oS:x≠y) (hi:inc n x y):h x≠h y:=by
 rcases yJ (n:=n) oS with hb|hb
 ·exact H.ne y hy x (B0 hx hy hi hb)
 ·exact λe=>H.ne x hx y (B0 hy hx (xW hi) hb) e.symm
def NI.max (H:NI n h) (hf:f<6) (hd:∀x,x<6-> ↑(vq n x)+1<=d) (hfd: ↑(vq n f)+1=d):(∀x,x<6->h x+1<=d)/\∃x,x<6/\h x+1=d:=by
 have h1:∀x,x<6->h x+1<=d:=λx hx=>by exact aA (Cu (H.le x hx)) (hd x hx)
 refine⟨h1,pN λSv=> ?_⟩;let ⟨A,hA,hl⟩:=(HC hf hd hfd).2;let ⟨hs,ha⟩:=(Av n).1 A hA;have h6:∀x∈A,x<6:=λx hx=>fZ.mp (hs.subset hx);have:=fk (gX _ (λq q h=>h) (gJ (λhx hy oS=>H.inc (h6 _ hx) (h6 _ hy) oS (Ma ha _ hx _ hy oS)) (hs.nodup li))) (l₂:=cK (d- 1)) λv hv=>by let ⟨x,hx,rfl⟩:=aQ.mp hv;exact dK.mpr (acW (λe=>Sv ⟨x,h6 x hx,e⟩) (h1 x (h6 x hx)))
 rw[aw,rx,hl]at this;exact acX hfd this
noncomputable def T (l:Nz):Str:=⟨l.toArray⟩
def DS (a b:Nz):T a++T b=T (a++b):=by show(⟨a.toArray++b.toArray⟩:Str)=_;unfold T;simp
def gG (a:Nz): ↑(T a)= ↑a:=by show a.toArray.size=_;simp
def qK (a:Nz):(T a).cps.toList=a:=rfl
def af3 (h:T a=T b):a=b:=congrArg (λx:Str=>x.cps.toList) h
def Mb (a b:Nz):(T a==T b)=decide (a=b):=by rw[dr,beq_iff_eq,decide_eq_true_iff];exact⟨af3,λh=>h▸rfl⟩
inductive Rp (p:Nz):List Nat->List Nat->Prop
 |nil:Rp p [] []
 |hit {l r:Nz}:Rp p l r->Rp p (p++l) r
 |skip {c:Nat} {l r:Nz}:¬p<+:(c::l)->Rp p l r->Rp p (c::l) (c::r)
def Fu (hp:1<= ↑p):Cp (T l) (T p) ↑(T l) k↔p<+:l.drop k:=by
 unfold Cp Builtin.Str.subAt;rw[gG,gG];have e:((T l).cps.extract k (k+ ↑p)==(T p).cps)=true↔(l.drop k).take ↑p=p:=by rw[beq_iff_eq];unfold T;simp only[MD];show(l.extract k (k+ ↑p)).toArray=p.toArray↔_;rw[show((l.extract k (k+ ↑p)).toArray=p.toArray)=(l.extract k (k+ ↑p)=p) from Array.mk.injEq _ _];rw[F4,show k+ ↑p- k= ↑p from bP ..]
 rw[e,List.prefix_iff_eq_take];constructor
 ·exact λh=>h.2.symm
 ·intro h;refine⟨?_,h.symm⟩;have:=congrArg eW h;rw[cG,fG]at this;have q:=this▸Cw ..;exact Nat.add_le_of_le_sub' (ce (Nat.lt_of_sub_pos (a8 hp q))) q
def Va (h:Rp p l r):∀ {X:Nz} {a:Nat},l=X.drop a->(∀k,a<=k->¬p<+:X.drop k)->r=l:=by
 induction h with
 |nil=>exact λq q=>rfl
 |hit h ih=>exact λe hn=>absurd (e▸OZ _ _) (hn _ (ab _))
 |skip h1 h ih=>intro X a e hn;rw[ih (X:=X) (a:=a+1) (by rw[<- qD,<- e];rfl) λk hk=>hn k (ce ‹_›)]
def af4 {p X:Nz} (hp:1<= ↑p) (d:Nat):∀(a:Nat) (r:Nz),(∀k,a<=k->k<a+d->¬p<+:X.drop k)->a+d<= ↑X->Rp p (X.drop a) r->∃r',r=(X.drop a).take d++r'/\Rp p (X.drop (a+d)) r':=by
 induction d with
 |zero=>intro a r _ _ h;exact⟨r,rfl,h⟩
 |succ d ih=>
  intro a r hn hl h;have e:X.drop a=X[a]'(Wt hl)::X.drop (a+1):=gU (Wt hl);generalize hL:X.drop a=L at h;induction h with
  |nil=>rw[hL]at e;cases e
  |hit h=>exact absurd (hL▸OZ _ _) (hn a (ab _) (X3))
  |skip h1 h=>rw[hL]at e;injection e with e1 e2;subst e2;let ⟨r',h2,h3⟩:=ih (a+1) _ (λk hk yh=>hn k (Pm hk) (acY yh)) (acZ hl) h;exact⟨r',by rw[h2];rfl,by rw[show a+(d+1)=a+1+d by exact KX];exact h3⟩
def af5 {p X:Nz} (hp:1<= ↑p) (hn:p<+:X.drop a) (h:Rp p (X.drop a) r):Rp p (X.drop (a+ ↑p)) r:=by
 generalize hL:X.drop a=L at h;induction h with
 |nil=>rw[hL]at hn;have:=hn.length_le;rw[lW]at this;exact absurd ‹_› (dE ‹_›)
 |hit h=>rw[<- qD,hL,XJ];exact h
 |skip h1 h=>exact absurd (hL▸hn) h1
def B1 (X:Nz) (a c:Nat):(nV (T X) a c).cps.toList=(X.drop a).take (c- a):=by unfold nV T;simp only[MD,F4]
def Rg (hp:1<= ↑p) (VN:Nz):∀(a f:Nat) (r:Nz),StrLaws.ChainG (T X) (T p) ↑(T X) a VN f->(∀k,f<=k->¬Cp (T X) (T p) ↑(T X) k)->Rp p (X.drop a) r->
  (Mz (T X) ↑p a VN).flatMap (λs=>s.cps.toList)=r:=by
 induction VN with
 |nil=>intro a f r h hn hr;have h':f=a:=h;subst h';show(nV (T X) f ↑(T X)).cps.toList++[]=r;rw[bu,B1,gG,Va hr rfl λk hk e=>hn k hk ((Fu hp).mpr e)];rw[eO (by rw[fG];exact ab _)]
 |cons c VN ih=>intro a f r h hn hr;left;let ⟨h1,h2,h3,h4⟩:=h;let ⟨r',e1,e2⟩:=af4 hp (c- a) a r (λk hk yh e=>h3 k hk (ac0 yh hk) ((Fu hp).mpr e)) (ac1 h1 (by have:=h2.1;rw[gG,gG]at this;exact this)) hr;right;rw[show a+(c- a)=c by exact TR h1]at e2;rw[gG]at h4;rw[Mz,bJ];rw[ih (c+ ↑p) f r' h4 hn (af5 hp ((Fu hp).mp h2) e2),B1,e1]
def B2 (ps:List Str):∀(dA:Array Nat),(ps.foldl (λdA p=>dA++(ah "").cps++p.cps) dA).toList=dA.toList++ps.flatMap λs=>s.cps.toList:=by
 induction ps with
 |nil=>intro dA;simp
 |cons p ps ih=>intro dA;have e:(ah "").cps= #[]:=rfl;rw[jg,ih,e,bJ];simp
def vV (hp:1<= ↑p) (h:Rp p X r):iM (T X) (T p) "" =T r:=by
 let ⟨f,h1,h2⟩:=StrLaws.occ_tight (T X) (T p) (by rw[gG];exact hp);have key:=Rg hp _ 0 f r h1 h2 h;unfold iM;have hy:((↑(T p)==0)&&("".length==0))=false:=by rw[gG,show(↑p==0)=false by simp;intro h;subst h;cases hp];rfl
 rw[hy,Bool.or_false];split
 ·rename_i he;rw[TL]at he;rw[he]at key;have:(nV (T X) 0 ↑(T X)).cps.toList++[]=r:=key;rw[bu,B1,gG]at this;rw[<- this];congr 1;rw[El,Nat.sub_zero,List.take_length]
 ·rw[StrLaws.partsBetween_eq,gG];let ⟨q,rs,e⟩:=StrLaws.partsFrom_ne (T X) ↑p 0 (jf (T X) (T p) 0 ↑(T X) (↑(T X)+1));rw[e]at key⊢;unfold Builtin.Str.glued T;congr 1;apply sq.mp;show(rs.foldl _ q.cps).toList=r;rw[B2,<- key,bJ]
def Rh (h:c∉A):∃is,jf (T (A++c::B)) (T [c]) 0 ↑(T (A++c::B)) 1= ↑A::is:=by
 have bc:∀k,Cp (T (A++c::B)) (T [c]) ↑(T (A++c::B)) k↔(A++c::B)[k]? =aa c:=λk=>by
  rw[Fu (ab _)];rcases bS k ↑(A++c::B)with hk|hk
  ·rw[gU hk,aq hk,i5];simp[eq_comm]
  ·rw[sS hk,bC hk];simp
 rcases StrLaws.occ_head (T (A++c::B)) (T [c]) 1 (ab _)with⟨_,h2⟩|⟨i,is,h1,h2,h3⟩
 ·exact absurd ((bc ↑A).mpr (by simp)) (h2 ↑A)
 ·refine⟨is,?_⟩;rw[h1];congr 1;rcases eG i ↑A with hi|hi|hi
  ·rw[bc,aW hi]at h2;exact absurd (bo h2) h
  ·exact hi
  ·exact absurd ((bc ↑A).mpr (by simp)) (h3 ↑A hi)
def JK (u:Nz):Prop:=(∃c,c≠92/\u=[c])\/∃c,u=[92,c]
noncomputable def mo:Nat->List (List Nat)->List (Nat×Str)
 |_,[]=>[]
 |i,u::us=>(i+ ↑u- 1,T u)::mo (i+ ↑u) us
def af6:Ad=T [92]:=rfl
def Ri (c:Nat):((⟨#[c]⟩:Str)==Ad)=decide (c=92):=by rw[af6,show(⟨#[c]⟩:Str)=T [c] from rfl,Mb];simp
def B3 (us:LN):∀(i:Nat) (rest:Nz),(∀u∈us,JK u)->iY i false (us.flatten++rest)=mo i us++iY (i+ ↑us.flatten) false rest:=by
 induction us with
 |nil=>intro i rest _;exact rfl
 |cons u us ih=>
  intro i rest h;have ih:=λi=>ih i rest λv hv=>h v (aK _ hv);rcases h u ay with⟨c,hc,rfl⟩|⟨c,rfl⟩
  ·show iY i false (c::(us.flatten++rest))=(i,T [c])::(mo (i+1) us++iY (i+ ↑([c]++us.flatten)) false rest);rw[ER,Ri,decide_eq_false hc,if_neg ∅,ih];rw[show i+ ↑([c]++us.flatten)=i+1+ ↑us.flatten by simp;exact KX];rfl
  ·show iY i false (92::c::(us.flatten++rest))=(i+1,T [92,c])::(mo (i+2) us++iY (i+ ↑([92,c]++us.flatten)) false rest);rw[ER,Ri,decide_eq_true rfl,if_pos rfl,P5,ih];rw[show i+ ↑([92,c]++us.flatten)=i+1+1+ ↑us.flatten by simp;exact ac2];rfl
def Rj (us:LN) (h:∀u∈us,JK u):iY 0 false us.flatten=mo 0 us:=by have:=B3 us 0 [] h;rw[bu]at this;rw[this];show mo 0 us++[]=_;rw[bu]
def Fv (h:f st= ~~~(.str (T us.flatten))) (hu:∀u∈us,JK u) (ha:∀c∈us.flatten,c<128):zR f st=aa ((mo 0 us).map lR):=by unfold zR;rw[h];show(if (T us.flatten).cps.all (· <128)=true then aa ((iY 0 false (T us.flatten).cps.toList).map lR) else ac)=_;rw[if_pos,qK,Rj us hu];rw[y8];intro c hc;exact decide_eq_true (ha c ((qK us.flatten)▸(XO.mp hc)))
noncomputable def gD:Option (List (List Nat))->List (List Nat)->List (List Nat)
 |none,[]=>[]
 |some k,[]=>k
 |none,u::us=>if u=[34] then gD (aa [[34]]) us else u::gD ac us
 |some k,u::us=>if u=[34] then gD ac us else gD (aa (k++[u])) us
def xX (a:Nz) (s:Nat) (o:Option Nat) (res:LN) (v w:OV):St:=
 ⟨[~~~(.str (T a)),~~~(.int (s:Nat)),~~~(match o with|none=>PV.none|some p=> .int (p:Nat)),aa (.ob 0),v,w],[],[.list (res.map λr=> .str (T r))]⟩
def YQ {i j:Nat} (h1:i<=j) (h2:j<= ↑a):lj (T a) (aa (i:Int)) (aa (j:Int))=T ((a.drop i).take (j- i)):=by have:=PyProof.Rows.slice_closesL (x:=T a) (i:=(i:Int)) (j:=(j:Int)) (Gm) (AN h1) (by rw[gG];exact AN h2);rw[O3 this];show T _=_;erw [qK,mU,show((j:Int)- (i:Int)).toNat=j- i by exact ac3]
def YR {i:Nat} (h1:i<= ↑a):lj (T a) (aa (i:Int)) ac=T (a.drop i):=by have:=PyProof.Rows.slice_from_eq (x:=T a) (i:=(i:Int)) (b:=(↑a:Int)) (Gm) (by rw[gG];exact AN h1) (by rw[gG]);rw[this];show T _=_;erw [qK,mU,eO];rw[fG];exact ac4
def Rk {j:Nat} (h2:j<= ↑a):lj (T a) ac (aa (j:Int))=T (a.take j):=by have:=PyProof.Rows.slice_closes_to (x:=T a) (j:=(j:Int)) ⟨by exact Gm,by rw[qK];exact AN h2⟩;rw[O3 this];show T _=_;rw[qK,show((0:Int)).toNat=0 from rfl,show((j:Int)- 0).toNat=j by exact ac5,El]
def JL (st:St) (x:Str) (lo hi:Option Int) (h: ↑x<=10000):ph st (.pv (.str x)) lo hi ac=aa (.str (lj x lo hi)):=by show(if (ac:Option Int)=ac/\ ↑x<=sizeLine then aa (PV.str (lj x lo hi)) else ac).or _=_;rw[if_pos ⟨rfl,by exact Lb h rfl⟩];rfl
def uF {lo hi:St->Option (Option Int)} (h:f st= ~~~(.str x)) (h1:lo st=aa i) (h2:hi st=aa j) (hl: ↑x<=10000):fN f lo hi eB st= ~~~(.str (lj x i j)):=by unfold fN;rw[h,h1,h2];show(ph st (.pv (.str x)) i j ac).map CV.pv=_;rw[JL _ _ _ _ hl];rfl
def B4 (ls:LN):(ls.map T).flatMap (λs=>s.cps.toList)=ls.flatten:=by rw[iQ];show ls.flatMap id=_;simp
def NJ:∀ls:List (List Nat),zZ (ah "") (ls.map T)=T ls.flatten
 | []=>rfl
 |l::ls=>by show(⟨(ls.map T).foldl (λdA p=>dA++(ah "").cps++p.cps) (T l).cps⟩:Str)=_;unfold T;congr 1;apply sq.mp;rw[B2];show l++(ls.map T).flatMap (λs=>s.cps.toList)=l++ls.flatten;rw[B4]
def HD (ls:LN) (h: ↑ls.flatten<=10000):FY "" (ls.map T)=true:=by
 have e:∀(ps:List Str) (m:Nat),ps.foldl (λ(x:Nat) (p:Str)=>x+ ↑p+ "".length) m=m+ ↑(ps.flatMap λs=>s.cps.toList):=by
  intro ps;induction ps with
  |nil=>intro m;rfl
  |cons p ps ih=>intro m;have: ↑p.cps.toList= ↑p:=bz;rw[jg,ih,(rfl: "".length=0),bJ,aj];exact ac6 this
 unfold FY cw;rw[List.foldl_toArray,e,B4];rw[jl,decide_eq_false_iff_not];exact ac7 rfl h
def isStr (st:St) (u v:Nz) (c:Str) (hc:c=T v):sY st .Eq (.pv (.str (T u))) (.pv (.str c))=aa (decide (u=v)):=by show aa (T u==c)=_;rw[hc,Mb]
abbrev lI:St->Option (pu×St):=aC (jC (bY .Eq (ak 5) ↥"\"") (aC (jC (bY .Is (ak 2) (jh PV.none)) (aC (bZ (ak 4) (bf 2)) br) (aC (jC (bY .NotEq (ak 1) (ak 2)) (aC (oE gZ (ak 3) (au (fN (ak 0) (gV (ak 1)) (gV (ak 2)) eB) aZ)) br) br) (aC (bZ (ba .Add (ak 4) ⇑1) (bf 1)) (aC (bZ (jh PV.none) (bf 2)) br)))) br) br) br
def HE (hu:u≠ [34]):lI (xX a s o res (~~~(.int (i:Nat))) (~~~(.str (T u))))=aa (.next,xX a s o res (~~~(.int (i:Nat))) (~~~(.str (T u)))):=
 dw (by rw[jY ((fU rfl rfl (isStr _ u [34] _ rfl)).trans (by rw[decide_eq_false hu]))];rfl)
def JM:lI (xX a s ac res (~~~(.int (i:Nat))) (~~~(.str (T [34]))))=aa (.next,xX a s (aa i) res (~~~(.int (i:Nat))) (~~~(.str (T [34])))):=rfl
def YS (st:St) (i:Nat):MS st .Add (.pv (.int (i:Nat))) (.pv (.int 1))=aa (.int ((i+1:Nat):Int)):=tK st i 1
def HF (h1:s<=p) (h2:p<= ↑a) (hl: ↑a<=10000) (hr: ↑res<10000):
  ∃uW:List (List Nat),↑uW<= ↑res+1/\uW.flatten=res.flatten++(a.drop s).take (p- s)/\lI (xX a s (aa p) res (~~~(.int (i:Nat))) (~~~(.str (T [34]))))=aa (.next,xX a (i+1) ac uW (~~~(.int (i:Nat))) (~~~(.str (T [34])))):=by
 have hc:bY .NotEq (ak 1) (ak 2) (xX a s (aa p) res (~~~(.int (i:Nat))) (~~~(.str (T [34]))))=aa (decide (s≠p)):=by show aa ((s:Int) != (p:Int))=_;congr 1;rw[dr,bne_iff_ne,decide_eq_true_iff];exact ac8
 have fin:∀uW:List (List Nat),jC (bY .NotEq (ak 1) (ak 2)) (aC (oE gZ (ak 3) (au (fN (ak 0) (gV (ak 1)) (gV (ak 2)) eB) aZ)) br) br (xX a s (aa p) res (~~~(.int (i:Nat))) (~~~(.str (T [34]))))=aa (.next,xX a s (aa p) uW (~~~(.int (i:Nat))) (~~~(.str (T [34]))))->
   lI (xX a s (aa p) res (~~~(.int (i:Nat))) (~~~(.str (T [34]))))=aa (.next,xX a (i+1) ac uW (~~~(.int (i:Nat))) (~~~(.str (T [34])))):=by
  intro uW h;refine dw ?_;rw[tL (by rfl)];refine dw ?_;rw[jY (by rfl),aU h];unfold bZ;rw[aU (st1:=xX a (i+1) (aa p) uW (~~~(.int (i:Nat))) (~~~(.str (T [34])))) (by rw[dq rfl rfl (YS _ i)];rfl)];rfl
 by_cases e:s=p
 ·subst e;refine⟨res,by exact Gl,by simp,fin res ?_⟩;rw[jY (hc.trans (by simp))];rfl
 ·refine⟨res++[(a.drop s).take (p- s)],by simp,by simp,fin _ ?_⟩;rw[tL (hc.trans (by rw[decide_eq_true e]))];refine dw ?_;rw[uD (j:=0) (l:=res.map λr=> .str (T r)) rfl (bA (uF (i:=aa (s:Int)) (j:=aa (p:Int)) rfl rfl rfl (by rw[gG];exact hl)) rfl) rfl rfl (pE (by rw[aw];exact Wu hr))];rw[YQ h1 h2];unfold xX;rw[bI];rfl
def ajD (a:Nz) (s i:Nat) (pd:Nz):Option (Nat×List (List Nat))->Prop
 |none=>s<=i/\pd=(a.drop s).take (i- s)
 |some q=>s<=q.1/\q.1<=i/\pd=(a.drop s).take (q.1- s)/\q.2.flatten=(a.drop q.1).take (i- q.1)
def tQ (a:Nz) (r:Option (pu×St)) (t:Nz):Prop:=∃s o res v w,r=aa (.next,xX a s o res v w)/\s<= ↑a/\ ↑res<10000/\res.flatten++a.drop s=t
def DT {a u r:Nz} (hs:s<=i) (h:a.drop i=u++r):(a.drop s).take (i+ ↑u- s)=(a.drop s).take (i- s)++u:=by
 have e:a.drop s=(a.drop s).take (i- s)++(u++r):=by rw[<- h];conv=>lhs;rw[<- nF (i- s) (a.drop s)];rw[qD,show s+(i- s)=i by exact TR hs]
 have hl: ↑((a.drop s).take (i- s))=i- s\/u=[]:=by
  rcases bS ↑a i with(h3|h3)
  ·rw[sS (La h3)]at h;exact .inr (List.append_eq_nil_iff.mp h.symm).1
  ·apply Or.inl;rw[cG,fG];exact ac9 h3
 rcases hl with(hl|rfl)
 ·conv=>lhs;rw[e]
  rw[<- bF,List.take_append_of_le_length (by rw[aj,hl];exact ada),eO (by rw[aj,hl];exact adb hs)]
 ·simp
def JN (hl: ↑a<=10000) (us:LN):∀(i s:Nat) (q:Option (Nat×List (List Nat))) (pd:Nz) (res:LN) (v w:OV),a.drop i=us.flatten->i+ ↑us.flatten= ↑a->ajD a s i pd q-> ↑res+ ↑us<10000->
  tQ a (lP (pX (eS (bf 4) (eS (bf 5) pW))) lI ((mo i us).map lR) (xX a s (q.map (·.1)) res v w)) (res.flatten++pd++(gD (q.map (·.2)) us).flatten):=by
 induction us with
 |nil=>
  intro i s q pd res v w hd hi hp hr;obtain rfl:i= ↑a:=hi;induction q with
  |none=>let ⟨h1,rfl⟩:=hp;exact⟨s,ac,res,v,w,rfl,h1,hr,by rw[eO (by rw[fG];exact Wv)];exact(bu _).symm⟩
  |some q=>let ⟨h1,h2,rfl,h3⟩:=hp;refine⟨s,aa q.1,res,v,w,rfl,aA h1 h2,hr,?_⟩;show _=_++_++q.2.flatten;rw[h3,eO (l:=a.drop q.1) (by rw[fG];exact Wv),bF];conv=>lhs;rw[<- nF (q.1- s) (a.drop s)];rw[qD,show s+(q.1- s)=q.1 by exact TR h1]
 |cons u us ih=>
  intro i s q pd res v w hd hi hp hr;rw[fP]at hd;rw[fP,aj]at hi;rw[az]at hr;have AB:a.drop (i+ ↑u)=us.flatten:=by rw[<- qD,hd,XJ]
  have step:∀s1 o1 S3 t,lI (xX a s (q.map (·.1)) res (~~~(.int (i+ ↑u- 1:Nat))) (~~~(.str (T u))))=aa (.next,xX a s1 o1 S3 (~~~(.int (i+ ↑u- 1:Nat))) (~~~(.str (T u))))->
    tQ a (lP (pX (eS (bf 4) (eS (bf 5) pW))) lI ((mo (i+ ↑u) us).map lR) (xX a s1 o1 S3 (~~~(.int (i+ ↑u- 1:Nat))) (~~~(.str (T u))))) t->
    tQ a (lP (pX (eS (bf 4) (eS (bf 5) pW))) lI ((mo i (u::us)).map lR) (xX a s (q.map (·.1)) res v w)) t:=λs1 o1 S3 t h k=>
   (iD (tg:=pX (eS (bf 4) (eS (bf 5) pW))) (st:=xX a s (q.map (·.1)) res v w) (st1:=xX a s (q.map (·.1)) res (~~~(.int (i+ ↑u- 1:Nat))) (~~~(.str (T u)))) rfl h:lP _ _ (lR (i+ ↑u- 1,T u)::(mo (i+ ↑u) us).map lR) _=_)▸k
  by_cases hu:u=[34]
  ·subst hu;induction q with
   |none=>exact step _ _ _ _ JM (ih (i+1) s (aa (i,[[34]])) pd res _ _ AB ((iO ..).trans hi) ⟨hp.1,by exact Gl,hp.2,by rw[hd,show i+1- i=1 by exact ade];rfl⟩ (Pn hr))
   |some q=>let ⟨S3,hr1,hr2,hs⟩:=HF (a:=a) (s:=s) (p:=q.1) (i:=i) (res:=res) hp.1 (adf hp.2.1 hi) hl (adg hr);have k:=ih (i+1) (i+1) ac [] S3 (~~~(.int (i:Nat))) (~~~(.str (T [34]))) AB ((iO ..).trans hi) ⟨ab _,by rw[dc];rfl⟩ (adh hr1 hr);rw[hr2,<- hp.2.2.1,bu]at k;exact step _ _ _ _ hs k
  ·refine step _ _ _ _ (HE hu) ?_;induction q with
   |none=>have k:=ih (i+ ↑u) s ac _ res (~~~(.int (i+ ↑u- 1:Nat))) (~~~(.str (T u))) AB (Ww hi) ⟨by exact MF hp.1,rfl⟩ (Pn hr);rw[DT hp.1 hd,<- hp.2]at k;show tQ a _ (_++(if u=[34] then gD (aa [[34]]) us else u::gD ac us).flatten);rw[if_neg hu,fP,<- bF,bF res.flatten];exact k
   |some q=>show tQ a _ (_++(if u=[34] then gD ac us else gD (aa (q.2++[u])) us).flatten);rw[if_neg hu];exact ih (i+ ↑u) s (aa (q.1,q.2++[u])) pd res (~~~(.int (i+ ↑u- 1:Nat))) (~~~(.str (T u))) AB (Ww hi) ⟨hp.1,by exact MF hp.2.1,hp.2.2.1,by rw[DT hp.2.1 hd,<- hp.2.2.2];simp⟩ (Pn hr)
def B5 (st:St) (x:Str) (h: ↑x<=10000):kq st [.pv (.str x)]= ~~~(.int (↑x:Nat)):=by show(if ↑x<=sizeLine then aa (CV.pv (.int ↑x)) else ac)=_;rw[if_pos (Lb h rfl)]
def Vb (us:LN):∀ok:Option (List (List Nat)),(gD ok us).flatten.length<=(ok.getD []).flatten.length+ ↑us.flatten:=by
 induction us with
 |nil=>
  intro ok;induction ok with
  |none=>exact cJ _
  |some k=>exact ab _
 |cons u us ih=>
  intro ok;rw[fP,aj];induction ok with
  |none=>
   show(if u=[34] then gD (aa [[34]]) us else u::gD ac us).flatten.length<=_;by_cases h:u=[34]
   ·rw[if_pos h,h];exact aA (ih _) (fb (qk _).symm)
   ·rw[if_neg h,fP,aj];have q:=dW (ih ac) ↑u;exact aA q (fb (Nat.add_left_comm ..))
  |some k=>
   show(if u=[34] then gD ac us else gD (aa (k++[u])) us).flatten.length<=_;by_cases h:u=[34]
   ·rw[if_pos h];exact aA (ih ac) (gc (cJ _) (gR ..))
   ·rw[if_neg h];refine aA (ih _) (fb ?_);show(k++[u]).flatten.length+_= ↑k.flatten+_;rw[dz,aj,iO];exact congrArg (λz=> ↑k.flatten+(z+ ↑us.flatten)) (congrArg eW (bu u))
def DU:∀us:List (List Nat),[34] ∉us->gD ac us=us:=by
 intro l9;induction l9 with
 |nil=>intro _;exact rfl
 |cons u us ih=>intro h;show(if u=[34] then gD (aa [[34]]) us else u::gD ac us)=_;rw[if_neg (λe=>h (e▸ay):u≠ [34]),ih λe=>h (aK _ e)]
def oP (x:Str) (c:Nat):eR x ⟨#[c]⟩=decide (c∈x.cps.toList):=StrLaws.found_one x c
def B6 (hu:∀u∈us,JK u) (ha:∀c∈us.flatten,c<128) (hl: ↑us.flatten<=9000) (hn: ↑us<=9000):dU [.str (T us.flatten)]=aa (.str (T (gD ac us).flatten)):=by
 have h0:bY .NotIn ↥"\"" (ak 0) (Dx [.str (T us.flatten)] [ah "start",ah "open_pos",ah "result",ah "pos",ah "ch"])=aa (!decide (34∈us.flatten)):=by show aa (!eR (T us.flatten) ⟨#[34]⟩)=_;rw[oP,qK]
 show(gK (Dx [.str (T us.flatten)] [ah "start",ah "open_pos",ah "result",ah "pos",ah "ch"])).bind (λr=>GN r.2 r.1)=_;unfold gK;by_cases hm:34∈us.flatten
 ·rw[aU (st1:=Dx [.str (T us.flatten)] [ah "start",ah "open_pos",ah "result",ah "pos",ah "ch"]) (by rw[jY (h0.trans (by rw[decide_eq_true hm];rfl))];rfl)];rw[aU (f:=bZ ⇑0 (bf 1)) (st1:=⟨[~~~(.str (T us.flatten)),~~~(.int 0),ac,ac,ac,ac],[],[]⟩) rfl];rw[aU (f:=bZ (jh PV.none) (bf 2)) (st1:=⟨[~~~(.str (T us.flatten)),~~~(.int 0),~~~PV.none,ac,ac,ac],[],[]⟩) rfl];rw[aU (f:=CN (.list []) (bf 3)) (st1:=xX us.flatten 0 ac [] ac ac) rfl];left;let ⟨s',o',uW,v',w',e1,e2,e3,e4⟩:=JN (a:=us.flatten) (Po hl) us 0 0 ac [] [] ac ac rfl (adi) ⟨ab _,rfl⟩ (by simp;exact adj hn);right;rw[aU (f:=mK _ _ _) (st1:=xX us.flatten s' o' uW v' w') (by rw[jZ (Fv (us:=us) rfl hu ha)];exact e1)];have kW:bY .Lt (ak 1) (dJ kq (au (ak 0) aZ)) (xX us.flatten s' o' uW v' w')=aa (decide (s'< ↑us.flatten)):=by have hs:sizeLine=2 ^ 24:=rfl;refine fU rfl (iK (bA rfl rfl) (B5 _ _ (by rw[gG];exact Po hl))) ?_;rw[gG];show aa (decide ((s':Int)< (↑us.flatten:Int)))=_;congr 2;exact propext cD
  have fin:∀zG:List (List Nat),zG.flatten=(gD ac us).flatten->jC (bY .Lt (ak 1) (dJ kq (au (ak 0) aZ))) (aC (oE gZ (ak 3) (au (fN (ak 0) (gV (ak 1)) eB eB) aZ)) br) br (xX us.flatten s' o' uW v' w')=aa (.next,xX us.flatten s' o' zG v' w')->
    ((aC (jC (bY .Lt (ak 1) (dJ kq (au (ak 0) aZ))) (aC (oE gZ (ak 3) (au (fN (ak 0) (gV (ak 1)) eB eB) aZ)) br) br) (aC (i7 (eP "str" Bb ↥"" (au (ak 3) aZ))) br)) (xX us.flatten s' o' uW v' w')).bind (λr=>GN r.2 r.1)=aa (.str (T (gD ac us).flatten)):=by
   intro zG h1 h2;rw[aU h2];have hj:eP "str" Bb ↥"" (au (ak 3) aZ) (xX us.flatten s' o' zG v' w')= ~~~(.str (T (gD ac us).flatten)):=by refine pF (o:= .pv (.str "")) (ds:=[.ob 0]) rfl rfl rfl ?_;show((aa (zG.map λr=>PV.str (T r))).bind λl=>(yq l).bind λns=>if FY "" ns then aa (CV.pv (.str (zZ "" ns))) else ac)=_;rw[bK,show(zG.map λr=>PV.str (T r))=(zG.map T).map PV.str by rw[bD];rfl,I4,bK,if_pos (HD zG ?_),NJ,h1];rw[h1];exact adk (Vb us ac) hl
   unfold aC i7;rw[hj];rfl
  by_cases qf:s'< ↑us.flatten
  ·refine fin (uW++[us.flatten.drop s']) (by rw[dz];simpa using e4) ?_;rw[tL (kW.trans (by rw[decide_eq_true qf]))];refine dw ?_;rw[uD (j:=0) (l:=uW.map λr=> .str (T r)) rfl (bA (uF (i:=aa (s':Int)) (j:=ac) rfl rfl rfl (by rw[gG];exact Po hl)) rfl) rfl rfl (pE (by rw[aw];exact Wu e3))];rw[YR (La qf)];unfold xX;rw[bI];rfl
  ·refine fin uW ?_ ?_
   ·have:us.flatten.drop s'=[]:=sS (Wj qf);rw[this]at e4;simpa using e4
   ·rw[jY (kW.trans (by rw[decide_eq_false qf]))];rfl
 ·have hf:gD ac us=us:=DU us λh=>hm (nI.mpr ⟨[34],h,ay⟩);unfold aC;rw[tL (h0.trans (by rw[decide_eq_false hm];rfl)),hf];rfl
noncomputable def uG:Nat->List (List Nat)->Option Nat
 |o,[]=>aa o
 |o,u::us=>if u=[40] then uG (o+1) us else if u=[41] then(if o=0 then ac else uG (o- 1) us) else uG o us
def Rl:uG o (u::us)=if u=[40] then uG (o+1) us else if u=[41] then(if o=0 then ac else uG (o- 1) us) else uG o us:=rfl
def stC (a:Nz) (o:Int) (v w:OV):St:=⟨[~~~(.str (T a)),~~~(.int o),v,w],[],[]⟩
abbrev xY:St->Option (pu×St):=aC (jC (bY .Eq (ak 3) ↥"(") (aC (I8 .Add 1 ⇑1) br) (aC (jC (bY .Eq (ak 3) ↥")") (aC (I8 .Sub 1 ⇑1) (aC (jC (bY .Lt (ak 1) ⇑0) (aC (i7 (jh (PV.bool false))) br) br) br)) br) br)) br
def Rm (h1:tg (.pv x) st=aa st1) (h2:body st1=aa (.ret v,st2)):lP tg body (x::xs) st=aa (.ret v,st2):=by rw[I6,h1];show(body st1).bind _=_;rw[h2];rfl
def Rn (a:Nz) (us:LN):∀(i o:Nat) (v w:OV),
  (uG o us=ac->∃cf,lP (pX (eS (bf 2) (eS (bf 3) pW))) xY ((mo i us).map lR) (stC a o v w)=aa (.ret (.pv (PV.bool false)),cf))/\
  ∀o',uG o us=aa o'->∃v' w',lP (pX (eS (bf 2) (eS (bf 3) pW))) xY ((mo i us).map lR) (stC a o v w)=aa (.next,stC a o' v' w'):=by
 induction us with
 |nil=>intro i o v w;exact⟨λh=>(nomatch h),λo' h=>(by obtain rfl:=ag h;exact⟨v,w,rfl⟩)⟩
 |cons u us ih=>
  intro i o v w;have hl:(mo i (u::us)).map lR=lR (i+ ↑u- 1,T u)::(mo (i+ ↑u) us).map lR:=rfl;let stU:St:=stC a o (~~~(.int (i+ ↑u- 1:Nat))) (~~~(.str (T u)));have c1:bY .Eq (ak 3) ↥"(" stU=aa (decide (u=[40])):=fU rfl rfl (isStr _ u [40] _ rfl);have c2:bY .Eq (ak 3) ↥")" stU=aa (decide (u=[41])):=fU rfl rfl (isStr _ u [41] _ rfl);have step:∀o1:Nat,xY stU=aa (.next,stC a o1 (~~~(.int (i+ ↑u- 1:Nat))) (~~~(.str (T u))))->lP (pX (eS (bf 2) (eS (bf 3) pW))) xY ((mo i (u::us)).map lR) (stC a o v w)=lP (pX (eS (bf 2) (eS (bf 3) pW))) xY ((mo (i+ ↑u) us).map lR) (stC a o1 (~~~(.int (i+ ↑u- 1:Nat))) (~~~(.str (T u)))):=λo1 h=>by rw[hl];exact iD (st1:=stU) rfl h
  rw[Rl];by_cases h1:u=[40]
  ·rw[if_pos h1,step (o+1) (dw (by rw[tL (c1.trans (by rw[decide_eq_true h1]))];rfl))];exact ih _ (o+1) _ _
  ·rw[if_neg h1];by_cases h2:u=[41]
   ·rw[if_pos h2];by_cases h3:o=0
    ·rw[if_pos h3];refine⟨λq=>⟨stC a (-1) (~~~(.int (i+ ↑u- 1:Nat))) (~~~(.str (T u))),?_⟩,λq h=>(nomatch h)⟩;rw[hl];refine Rm (st1:=stU) rfl ?_;subst h3;refine uA ?_;rw[jY (c1.trans (by rw[decide_eq_false h1]))];refine uA ?_;rw[tL (c2.trans (by rw[decide_eq_true h2]))];rfl
    ·rw[if_neg h3,step (o- 1) (dw (by
      rw[jY (c1.trans (by rw[decide_eq_false h1]))];refine dw ?_;rw[tL (c2.trans (by rw[decide_eq_true h2]))];rw[aU (st1:=stC a ((o- 1:Nat):Int) (~~~(.int (i+ ↑u- 1:Nat))) (~~~(.str (T u)))) (by
       rw[show((o- 1:Nat):Int)=(o:Int)- 1 by exact adl h3];rfl)]
      refine dw ?_;rw[jY (show aa (decide (((o- 1:Nat):Int)<0))=aa false by rw[decide_eq_false (adm)])];rfl))]
     exact ih _ (o- 1) _ _
   ·rw[if_neg h2,step o (dw (by
     rw[jY (c1.trans (by rw[decide_eq_false h1]))];refine dw ?_;rw[jY (c2.trans (by rw[decide_eq_false h2]))];rfl))]
    exact ih _ o _ _
def HG (us:LN):∀(ok:Option (List (List Nat))) (u:Nz),u∈gD ok us->u∈ok.getD []\/u∈us\/u=[34]:=by
 induction us with
 |nil=>
  intro ok u h;induction ok with
  |none=>nomatch h
  |some k=>exact .inl h
 |cons v us ih=>
  intro ok u h;have t:∀ {P:Prop},(u∈us\/u=[34])->P\/u∈v::us\/u=[34]:=λh=> .inr (h.imp_left (aK _));induction ok with
  |none=>
   have h:u∈(if v=[34] then gD (aa [[34]]) us else v::gD ac us):=h;by_cases e:v=[34]
   ·rw[if_pos e]at h;exact(ih _ u h).elim (λh=> .inr (.inr (aB.mp h))) t
   ·rw[if_neg e]at h;exact(aH.mp h).elim (λe=> .inr (.inl (e▸ay))) λh=>(ih _ u h).elim (λh=>nomatch h) t
  |some k=>
   have h:u∈(if v=[34] then gD ac us else gD (aa (k++[v])) us):=h;by_cases e:v=[34]
   ·rw[if_pos e]at h;exact(ih _ u h).elim (λh=>nomatch h) t
   ·rw[if_neg e]at h;exact(ih _ u h).elim (λh=>(cb.mp h).imp_right λh=> .inl (by rw[aB.mp h];exact ay)) t
structure Good (us:LN):Prop where
 unit:∀u∈us,JK u
 ascii:∀u∈us,∀c∈u,c<128
 size: ↑us.flatten<=9000
 count: ↑us<=9000
def Good.cps (h:Good us):∀c∈us.flatten,c<128:=λc hc=>by let ⟨u,hu,hc⟩:=nI.mp hc;exact h.ascii u hu c hc
def Good.gD (h:Good us):(∀u∈gD ac us,JK u)/\∀c∈(Mine.gD ac us).flatten,c<128:=by
 refine⟨λu hu=> ?_,λc hc=> ?_⟩
 ·rcases HG us ac u hu with h1|h1|h1
  ·nomatch h1
  ·exact h.unit u h1
  ·exact h1▸ .inl ⟨34,by decide,rfl⟩
 ·let ⟨u,hu,hc⟩:=nI.mp hc;rcases HG us ac u hu with h1|h1|h1
  ·nomatch h1
  ·exact h.ascii u h1 c hc
  ·rw[h1]at hc;rw[aB.mp hc];decide
def xZ (h:Good us):cZ [.str (T us.flatten)]=aa (PV.bool (uG 0 (gD ac us)==aa 0)):=by
 show(i9 (Dx [.str (T us.flatten)] [ah "opens",ah "pos",ah "ch"])).bind (λr=>GN r.2 r.1)=_;unfold i9;rw[aU (st1:=⟨[~~~(.str (T (gD ac us).flatten)),ac,ac,ac],[],[]⟩) (by
  unfold bZ;rw[mZ (l:=[.pv (.str (T us.flatten))]) rfl rfl (B6 h.unit h.cps h.size h.count)];rfl)]
 rw[aU (st1:=stC (gD ac us).flatten ((0:Nat):Int) ac ac) rfl];have hit:zR (ak 0) (stC (gD ac us).flatten ((0:Nat):Int) ac ac)=aa ((mo 0 (gD ac us)).map lR):=Fv rfl h.gD.1 h.gD.2;let ⟨h1,h2⟩:=Rn (gD ac us).flatten (gD ac us) 0 0 ac ac;cases e:uG 0 (gD ac us)with
 |none=>let ⟨cf,h1⟩:=h1 e;rw[uA (f:=mK _ _ _) (st1:=cf) (v:= .pv (PV.bool false)) (by rw[jZ hit];exact h1)];rfl
 |some o=>let ⟨v',w',h2⟩:=h2 o e;rw[aU (f:=mK _ _ _) (st1:=stC (gD ac us).flatten (o:Int) v' w') (by rw[jZ hit];exact h2)];show aa (PV.bool ((o:Int)==0))=_;congr 2;rw[dr,beq_iff_eq,beq_iff_eq,u7];simp
noncomputable abbrev Ro:Str:=ah "('', '')"
def CZ (r:Str×Bool):PV:= .str (if r.2 then r.1 else Ro)
def YT {rs:List (Str×Bool)} (h:∀r∈rs,cZ [.str r.1]=aa (PV.bool r.2)) (hn: ↑rs<1000):hZ [.lst (rs.map λr=> .str r.1)]=aa (.lst (rs.map CZ)):=by
 let XF (l:List PV) (v:OV):St:=⟨[~~~(.lst (rs.map λr=> .str r.1)),aa (.ob 0),v],[],[.list l]⟩;have loop:∀(qs:List (Str×Bool)) (l:List PV) (v:OV),(∀r∈qs,cZ [.str r.1]=aa (PV.bool r.2))-> ↑l+ ↑qs<1000->∃v',lP (bf 2) (aC (jC (yp (mv (kh cZ (au (ak 2) aZ)))) (aC (bZ ↥"('', '')" (bf 2)) br) br) (aC (oE gZ (ak 1) (au (ak 2) aZ)) br)) (qs.map λr=> .str r.1) (XF l v)=aa (.next,XF (l++qs.map CZ) v'):=by
  intro qs;induction qs with
  |nil=>exact λl v z z=>⟨v,by rw[zL,bu];rfl⟩
  |cons r qs ih=>
   intro l v hq hl;rw[az]at hl;let ⟨v',e⟩:=ih (l++[CZ r]) (~~~(CZ r)) (λq Tt=>hq q (aK _ Tt)) (by simp;exact adn hl);refine⟨v',?_⟩;rw[bx,bx,iD (st1:=XF l (~~~(.str r.1))) (st2:=XF (l++[CZ r]) (~~~(CZ r))) rfl ?_,e,bF]
   ·rfl
   ·have hb:yp (mv (kh cZ (au (ak 2) aZ))) (XF l (~~~(.str r.1)))=aa (!r.2):=by unfold yp mv;rw[mZ (l:=[.pv (.str r.1)]) rfl rfl (hq r ay)];rfl
    rw[aU (st1:=XF l (~~~(CZ r))) (by
     unfold CZ;cases e2:r.2 with
     |true=>rw[jY (hb.trans (by rw[e2];rfl))];rfl
     |false=>rw[tL (hb.trans (by rw[e2];rfl))];rfl)]
    refine dw ?_;rw[uD (j:=0) (l:=l) (ds:=[CZ r]) rfl rfl rfl rfl (pE (ado hl))];rfl
 show(hX (Dx [.lst (rs.map λr=> .str r.1)] [ah "accepted_values",ah "v"])).bind (λr=>GN r.2 r.1)=_;unfold hX;let ⟨v',e⟩:=loop rs [] ac h (by simp;exact adp hn);rw[aU (st1:=XF [] ac) rfl,aU (f:=mK _ _ _) (st1:=XF ([]++rs.map CZ) v') (by rw[jZ (xs:=rs.map λr=> .str r.1) rfl];exact e)];rfl
noncomputable def gI (p:Nat):List (List Nat):=[[],[[92,40]],[[92,41]],[[34],[40],[34]],[[34],[41],[34]],[[92,34]],[[92,92]]].getD p []
noncomputable def x5 (p:Nat):List (List Nat):=[[],[[92,40]],[[92,41]],[],[],[[92,34]],[[92,92]]].getD p []
noncomputable def qL (pc:Nat->List (List Nat)) (c:Nat):List (List Nat):=if c<6 then [40]::[97+c]::pc c else [[65+(c- 6)],[41]]
def unitsOf (n:NN):Nat->List (List Nat):=qL λx=>gI (dP (n x))
def jv (n:NN):Nat->List (List Nat):=qL λx=>x5 (dP (n x))
def n8 (m:Nat):dP m<7:=fO _ ∅
@[elab_as_elim] theorem Vc {P:Nat->Prop} (h:k<7) (h0:P 0) (h1:P 1) (h2:P 2) (h3:P 3) (h4:P 4) (h5:P 5) (h6:P 6):P k:=by
 rcases yW (fR h)with h|rfl
 ·exact Ts h h0 h1 h2 h3 h4 h5
 ·exact h6
def JO (h:p<7) (r:LN):gD ac (gI p++r)=x5 p++gD ac r:=by refine Vc h ?_ ?_ ?_ ?_ ?_ ?_ ?_<;>rfl
def oZ (h:u≠ [34]):gD ac (u::us)=u::gD ac us:=if_neg h
def JP (n:NN) (c:Nat) (r:LN):gD ac (unitsOf n c++r)=jv n c++gD ac r:=by
 unfold unitsOf jv qL;split
 ·show gD ac ([40]::[97+c]::(gI (dP (n c))++r))=_;rw[oZ ∅,oZ (by simp;exact adq),JO (n8 _)];rfl
 ·show gD ac ([65+(c- 6)]::[41]::r)=_;rw[oZ (by simp;exact ads),oZ ∅];rfl
def uH (n:NN) (cs:Nz):∀(r:LN),gD ac (cs.flatMap (unitsOf n)++r)=cs.flatMap (jv n)++gD ac r:=by
 induction cs with
 |nil=>intro r;exact rfl
 |cons c cs ih=>intro r;rw[bJ,bF,JP,ih,bJ,bF]
noncomputable def af7:List Nat->Bool
 | []=>false
 | [a]=>decide (a≠92)&&decide (a<128)
 | [a,b]=>decide (a=92)&&decide (b<128)
 |_::_::_::_=>false
def Rq (h:af7 u=true):JK u/\∀c∈u,c<128:=by
 rcases u with _|⟨a,_|⟨b,_|_⟩⟩
 ·exact eU h
 ·let ⟨h1,h2⟩:=dD.mp h;exact⟨.inl ⟨a,of_decide_eq_true h1,rfl⟩,λc hc=>aB.mp hc▸of_decide_eq_true h2⟩
 ·let ⟨h1,h2⟩:=dD.mp h;obtain rfl:=of_decide_eq_true h1;refine⟨.inr ⟨b,rfl⟩,λc hc=> ?_⟩;rcases aH.mp hc with rfl|hc
  ·decide
  ·exact aB.mp hc▸of_decide_eq_true h2
 ·exact eU h
def NK:((cK 7).all λp=>(gI p).all af7&&decide (↑(gI p)<=3)&&decide ((gI p).flatten.length<=3))=true:=tt
def vW (h:p<7):(∀u∈gI p,JK u/\∀c∈u,c<128)/\ ↑(gI p)<=3/\(gI p).flatten.length<=3:=by let ⟨k,h3⟩:=dD.mp (fH.mp NK p (dK.mpr h));let ⟨h1,h2⟩:=dD.mp k;exact⟨λu hu=>Rq (fH.mp h1 u hu),of_decide_eq_true h2,of_decide_eq_true h3⟩
def JQ (n:NN) (h:c<12):(∀u∈unitsOf n c,JK u/\∀c∈u,c<128)/\ ↑(unitsOf n c)<=5/\(unitsOf n c).flatten.length<=5:=by
 have one:∀a,a≠92->a<128->JK [a]/\∀c∈[a],c<128:=λa h1 h2=>⟨.inl ⟨a,h1,rfl⟩,λc hc=>aB.mp hc▸h2⟩;unfold unitsOf qL;split
 ·let ⟨h1,h2,h3⟩:=vW (n8 (n c));refine⟨λu hu=> ?_,by simp;exact Wx h2,by simp at h3⊢;exact Wx h3⟩;rcases aH.mp hu with rfl|hu
  ·exact one 40 ∅ ∅
  ·rcases aH.mp hu with rfl|hu
   ·exact one _ (adt) (adu ‹_›)
   ·exact h1 u hu
 ·refine⟨λu hu=> ?_,by simp,by simp⟩;rcases aH.mp hu with rfl|hu
  ·exact one _ (adv h) (adw h)
  ·exact aB.mp hu▸one 41 ∅ ∅
def uI (n:NN) (cs:Nz):(∀c∈cs,c<12)->(∀u∈cs.flatMap (unitsOf n),JK u/\∀c∈u,c<128)/\ ↑(cs.flatMap (unitsOf n))<=5* ↑cs/\(cs.flatMap (unitsOf n)).flatten.length<=5* ↑cs:=by
 induction cs with
 |nil=>intro _;exact⟨λu hu=>(by cases hu),cJ _,cJ _⟩
 |cons c cs ih=>intro h;left;let ⟨a1,a2,a3⟩:=JQ n (h c ay);let ⟨b1,b2,b3⟩:=ih λc hc=>h c (aK _ hc);right;rw[bJ,dz,aj,aj,az];exact⟨λu hu=>(cb.mp hu).elim (a1 u) (b1 u),by exact Wy a2 b2,by exact Wy a3 b3⟩
def rp (n:NN): ↑(toks n)<=12:=by have:=fk (List.Pairwise.imp (R:=As n) (λ{a b} (h:As n a b) (e:a=b)=>by subst e;exact nc h) (BY n 12 (mN n))) (l₂:=cK 12) λc hc=>dK.mpr (gm.mp hc);rw[rx]at this;exact this
def Aw (h:toks n=P++Q) (hr:∀u∈r,JK u/\∀c∈u,c<128) (hl: ↑r<=100) (hf: ↑r.flatten<=100):Good (P.flatMap (unitsOf n)++r):=by
 let ⟨a1,a2,a3⟩:=uI n P λc hc=>(gm (n:=n)).mp (by rw[h];exact ft _ hc);have:=rp n;rw[h,aj]at this;refine⟨λu hu=> ?_,λu hu=> ?_,by rw[dz,aj];exact Wz a3 hf this,by rw[aj];exact Wz a2 hl this⟩
 ·exact((cb.mp hu).elim (a1 u) (hr u)).1
 ·exact((cb.mp hu).elim (a1 u) (hr u)).2
def HH (h1:u≠ [40]) (h2:u≠ [41]):uG o (u::us)=uG o us:=by show(if u=[40] then uG (o+1) us else if u=[41] then(if o=0 then ac else uG (o- 1) us) else uG o us)=_;rw[if_neg h1,if_neg h2]
def Rt (h:p<7) (o:Nat) (us:LN):uG o (x5 p++us)=uG o us:=by refine Vc h ?_ ?_ ?_ ?_ ?_ ?_ ?_<;>rfl
def ne1 {a b x:Nat} (h:b<a): [a+x]≠ [b]:=λe=>jV (a8 h (bh a x)) (jK e).1
def YU (hx:x<6) (o:Nat) (us:LN):uG o (jv n x++us)=uG (o+1) us:=by unfold jv qL;rw[if_pos hx];show uG (o+1) ([97+x]::(x5 (dP (n x))++us))=_;rw[HH (ne1 ∅) (ne1 ∅),Rt (n8 _)]
def YV (hx:x<6) (o:Nat) (us:LN):uG (o+1) (jv n (6+x)++us)=uG o us:=by unfold jv qL;rw[if_neg (by simp)];show uG (o+1) ([65+(6+x- 6)]::[41]::us)=_;rw[HH (ne1 ∅) (ne1 ∅)];rfl
def HJ (M:Nz):∀(P Q:Nz),toks n=P++M++Q->∀us,uG ↑(mn P) (M.flatMap (jv n)++us)=uG ↑(mn (P++M)) us:=by
 induction M with
 |nil=>intro P Q h us;rw[bu];rfl
 |cons c M ih=>
  intro P Q h us;have e1:toks n=P++c::(M++Q):=by rw[h];simp
  rw[bJ,bF,show P++c::M=P++[c]++M by simp,<- (ih (P++[c]) Q (by rw[h];simp) us)];have hc:c<12:=(gm (n:=n)).mp (by rw[e1];exact dQ _ ay);rcases bS c 6 with(h6|h6)
  ·rw[YU h6,(BZ e1 h6).2.length_eq,az]
  ·obtain⟨x,rfl⟩:∃x,c=6+x:=⟨c- 6,by exact WA h6⟩;rw[(DR e1 (Pp hc)).length_eq,az,YV (Pp hc)]
def NL (d:Nat):∀(o:Nat),uG o (bR d [41])=if d<=o then aa (o- d) else ac:=by
 induction d with
 |zero=>intro o;exact rfl
 |succ d ih=>
  intro o;rw[wG];show(if o=0 then ac else uG (o- 1) (bR d [41]))=_;by_cases h:o=0
  ·subst h;rfl
  ·rw[if_neg h,ih (o- 1)];by_cases h2:d+1<=o
   ·rw[if_pos h2,if_pos (adx h2)];congr 1;exact ady
   ·rw[if_neg h2,if_neg (adz h2 h)]
def B7:∀d:Nat,gD ac (bR d [41])=bR d [41]:=λd=>DU _ λh=>by have:=Gj h;exact absurd this ∅
abbrev Mc:St->Option (pu×St):=(aC (bZ (Bo false g6 (lA (dJ kq (au (aX 0) aZ))) ⇑1 (Ls (bY .Gt (bk (aX 0) (ak 0)) (ak 0)) ⇑1 ⇑0)) (bf 9)) (aC (zQ true (aX 0) (ak 9)) (aC (EL (kh iw (au (ba .Div (ak 9) ⇑8) (au (ba .Div (ba .Add ⇑1 (ba .Mod (ak 1) ⇑4)) ⇑4) (au (ba .Div (ba .Add ⇑1 (ba .Mod (ba .FloorDiv (ak 1) ⇑4) ⇑8)) ⇑8) aZ)))) (ak 2) (ak 8)) (aC (jC (bY .Gt (ak 4) (ak 5)) (aC (P2 5 6 (ji (lb (ak 4)) (ji (lb (ak 8)) EO))) br) br) br))))
abbrev Ru:St->Option (pu×St):=(aC (bZ (bk (ak 2) (eP "str" kM (ak 8) aZ)) (pX (eS (bf 10) (eS (bf 11) (eS (bf 12) pW))))) (aC (EL (ba .Mod (dJ rL (au (ba .Mult (bk (kh i8 (au (ak 10) (au (ak 11) (au (ak 12) aZ)))) ⇑0) ⇑8) aZ)) ⇑8) (ak 3) (eP "str" kM (ak 8) aZ)) (aC (oE Yo (aX 0) (au (qI false (aX 0) (bk (ak 3) (eP "str" kM (ak 8) aZ))) aZ)) br)))
abbrev zv:St->Option (pu×St):=(aC (jC (bY .In (ak 8) (jc (au ↥"(" (au ↥")" aZ)))) (aC (I8 .Add 4 (Ls (bY .Eq (ak 8) ↥"(") ⇑1 (w5 ⇑1))) br) (aC (jC (bY .In (ak 8) ↥"abcdef") Mc (aC (jC (bY .In (ak 8) ↥"ABCDEF") Ru br) br)) br)) br)
abbrev hTg:CV->St->Option St:=pX (eS (bf 7) (eS (bf 8) pW))
def stH (tx yg:PV) (us:Nz) (kX hu:Sp) (dp de:Int) (fi:Str) (a b c d e f:OV):St:=
 ⟨[~~~tx,~~~yg,aa (.ob 1),aa (.ob 2),~~~(.int dp),~~~(.int de),~~~(.str fi),a,b,c,d,e,f],[aa (.ob 0)],[.list (bN us),.dict kX,.dict hu]⟩
def qw (m f:Nat):PV:=(iw (U1 f (m%4) (m/4%8))).getD PV.none
noncomputable def nA:Nat->List Nat->Nat
 |k,[]=>k
 |k,u::us=>if k<u then k else nA (k+1) us
def JR:nA k (u::us)=if k<u then k else nA (k+1) us:=rfl
noncomputable def x6:Nat->List Nat->List Int
 |_,[]=>[]
 |k,u::us=>(if k<u then 1 else 0)::x6 (k+1) us
def rZ:x6 k (u::us)=(if k<u then 1 else 0)::x6 (k+1) us:=rfl
def NM (us:Nz):∀(k:Nat),us.Pairwise (· < ·)->(∀v∈us,k<v)->∀x∈x6 k us,x=1:=by
 induction us with
 |nil=>intro _ _ _ x hx;cases hx
 |cons u us ih=>
  intro k hs h x hx;rw[ed]at hs;have hu:=h u ay;rw[rZ,if_pos hu]at hx;rcases aH.mp hx with rfl|hx
  ·rfl
  ·exact ih (k+1) hs.2 (λv hv=>by have:=hs.1 v hv;exact bB ‹_› ‹_›) x hx
def Rv (us:Nz):∀(k:Nat),∀x∈x6 k us,x=0\/x=1:=by
 induction us with
 |nil=>intro _ x hx;cases hx
 |cons u us ih=>
  intro k x hx;rw[rZ]at hx;rcases aH.mp hx with rfl|hx
  ·split
   ·exact .inr rfl
   ·exact .inl rfl
  ·exact ih (k+1) x hx
def vX (us:Nz):∀(k:Nat),us.Pairwise (· < ·)->(∀v∈us,k<=v)->
  (x6 k us).Pairwise (· <= ·)/\k+ ↑((x6 k us).filter (below false 1))=nA k us/\nA k us<=k+ ↑us/\k<=nA k us/\nA k us∉us:=by
 induction us with
 |nil=>intro k _ _;exact⟨gW,rfl,ab _,ab _,λh=>by cases h⟩
 |cons u us ih=>
  intro k hs h;have qf:=ed.mp hs;rw[rZ,JR];by_cases e:k<u
  ·have h1:=NM us (k+1) qf.2 λv hv=>by have:=qf.1 v hv;exact adA e this
   rw[if_pos e,if_pos e];refine⟨ed.mpr ⟨λx hx=>by rw[h1 x hx];decide,gJ (R:=λq q=>True) (λ{a b} ha hb _=>by rw[h1 a ha,h1 b hb];decide) (Iz (λq q=>trivial))⟩,?_,bh _ _,ab _,λhm=> ?_⟩
   ·rw[cL.mpr]
    ·rfl
    ·intro x hx;rcases aH.mp hx with rfl|hx
     ·decide
     ·rw[h1 x hx];decide
   ·rcases aH.mp hm with rfl|hm
    ·exact abb e
    ·have:=qf.1 _ hm;exact Pe e this
  ·have huk:u=k:=by exact adB (h u ay) e
   rw[if_neg e,if_neg e];left;let ⟨a1,a2,a3,a4,a5⟩:=ih (k+1) qf.2 λv hv=>by have:=qf.1 v hv;exact adC this huk
   right;refine⟨ed.mpr ⟨λx hx=>by rcases Rv us (k+1) x hx with rfl|rfl<;>decide,a1⟩,?_,by rw[az];exact adE a3,by exact Pm a4,λhm=> ?_⟩
   ·rw[bl,if_pos tt,az];exact adF a2
   ·rcases aH.mp hm with hm|hm
    ·exact adG a4 hm huk
    ·exact a5 hm
def Rw (st:St) (n:Nat) (hn:n<100) (hj:st.oB (.ob j)=aa l) (h:l[n]? =aa d):nZ st (.ob j) (.pv (.int (n:Int)))=aa d:=(Ao hn).trans (by
 show(st.oB (.ob j)).bind _=_;rw[hj];exact h)
def Vd (st:St) (j:Nat) (hc:st.cv=[aa (.ob 0)]):g6.st st (.int (j:Int))=⟨[~~~(.int (j:Int))],[aa (.ob 0)],st.ob⟩:=by unfold kQ.st g6;simp[hc]
def gtN (a b:Nat):sY st .Gt (.pv (.int (b:Int))) (.pv (.int (a:Int)))=aa (decide (a<b)):=by show aa (decide ((a:Int)< (b:Int)))=_;refine congrArg aa ?_;rw[dr,decide_eq_true_iff,decide_eq_true_iff];exact cD
def af8 (h:b st=aa true):Ls b f g st=f st:=by unfold Ls;rw[h]
def af9 (h:b st=aa false):Ls b f g st=g st:=by unfold Ls;rw[h]
def Ve {j u:Nat} (hc:st.cv=[aa (.ob 0)]) (ho:st.ob[0]? =aa (.list (bN df))) (hj:j<100) (hu:df[j]? =aa u):
  yv g6 (Ls (bY .Gt (bk (aX 0) (ak 0)) (ak 0)) ⇑1 ⇑0) st (.int (j:Int))=aa (if j<u then 1 else 0):=by
 have h1:nZ ⟨[~~~(.int (j:Int))],[aa (.ob 0)],st.ob⟩ (.ob 0) (.pv (.int (j:Int)))=aa (.int (u:Int)):=by
  refine Rw _ j hj (l:=bN df) ?_ ?_
  ·show(match st.ob[0]? with|some (.list l)=>aa l|_=>ac)=_;rw[ho]
  ·unfold bN;rw[bO,hu];rfl
 have h2:bY .Gt (bk (aX 0) (ak 0)) (ak 0) ⟨[~~~(.int (j:Int))],[aa (.ob 0)],st.ob⟩=aa (decide (j<u)):=
  fU (cA rfl rfl h1) rfl (gtN j u)
 unfold yv;rw[Vd st j hc];by_cases h:j<u
 ·rw[af8 (h2.trans (by rw[decide_eq_true h])),if_pos h];rfl
 ·rw[af9 (h2.trans (by rw[decide_eq_false h])),if_neg h];rfl
def NO (hc:st.cv=[aa (.ob 0)]) (ho:st.ob[0]? =aa (.list (bN df))) (hl: ↑df<100) (suf:Nz):∀(pre:Nz),df=pre++suf->
  keysOf (yv g6 (Ls (bY .Gt (bk (aX 0) (ak 0)) (ak 0)) ⇑1 ⇑0) st) ((List.range' ↑pre ↑suf).map λi:Nat=>PV.int (i:Int))=aa (x6 ↑pre suf):=by
 induction suf with
 |nil=>exact λq q=>rfl
 |cons u suf ih=>intro pre h;have ih:=ih (pre++[u]) (by rw[h];simp);rw[aj,be]at ih;rw[az,TJ,bx,tA,ih,Ve hc ho (adH (by rw[h,aj,az];exact X3) hl) (u:=u) (by rw[h];simp)];rfl
def DV (h:f st= ~~~(.int (n:Int))) (hn:n<1000):rO f st=aa (iJ n):=by unfold rO;rw[h];show(if (0:Int)<=(n:Int)/\(n:Int)<1000 then aa (iJ (n:Int).toNat) else ac)=_;rw[if_pos ⟨dN _,cD.mpr hn⟩];rfl
def Ry (h1:f1 st=aa a) (h2:fx st= ~~~(.int x)) (h3:st.oB a=aa l) (h4:keysOf (yv ll f st) l=aa ns) (hs:ns.Pairwise (· <= ·)) (hl: ↑ns<1000):
  Bo right ll f1 fx f st= ~~~(.int (↑(ns.filter (below right x)):Nat)):=by
 unfold Bo;rw[h1,h2];show(st.oB a).bind _=_;rw[h3];show(keysOf _ _).bind _=_;rw[h4];show(if ↑ns<1000 then _ else _)=_;rw[if_pos hl,oK right hs]
def NP (us:Nz):∀(k:Nat),↑(x6 k us)= ↑us:=by
 induction us with
 |nil=>intro _;exact rfl
 |cons u us ih=>intro k;rw[rZ,az,az,ih]
def Rz (hl: ↑df<100) (hs:df.Pairwise (· < ·)):
  Bo false g6 (lA (dJ kq (au (aX 0) aZ))) ⇑1 (Ls (bY .Gt (bk (aX 0) (ak 0)) (ak 0)) ⇑1 ⇑0) (stH tx yg df kX hu dp de fi a b c d e f)= ~~~(.int (nA 0 df:Nat)):=by
 left;let ⟨h1,h2,h3,h4,h5⟩:=vX df 0 hs λv q=>cJ v;right;have hr:lA (dJ kq (au (aX 0) aZ)) (stH tx yg df kX hu dp de fi a b c d e f)= ~~~(.lst (iJ ↑df)):=by
  have:dJ kq (au (aX 0) aZ) (stH tx yg df kX hu dp de fi a b c d e f)= ~~~(.int (↑df:Nat)):=by refine iK (l:=[.ob 0]) rfl ?_;show(if ↑(bN df)<=sizeLine then aa (CV.pv (.int ↑(bN df))) else ac)=_;unfold bN;rw[aw,if_pos (adI hl rfl)]
  unfold lA;rw[DV this (Pq hl)];rfl
 have hk:=NO (st:=stH tx yg df kX hu dp de fi a b c d e f) rfl rfl hl df [] rfl;rw[lW,<- vz]at hk;rw[Ry (l:=iJ ↑df) hr rfl rfl hk h1 (by rw[NP];exact Pq hl)];rw[qk]at h2;rw[h2]
def JS {us:Nz}:∀ {x:Nat},us.Pairwise (· < ·)->x∈us->us[↑(us.filter λy=>decide (y<x))]? =aa x/\us.eraseIdx ↑(us.filter λy=>decide (y<x))=us.filter λy=>decide (y≠x):=by
 induction us with
 |nil=>intro x _ h;cases h
 |cons u us ih=>
  intro x hs h;have qf:=ed.mp hs;rcases aH.mp h with rfl|hx
  ·have h0:us.filter (λy=>decide (y<x))=[]:=cL.mpr λy hy=>by have:=qf.1 y hy;simp;exact ce ‹_›
   have h1:us.filter (λy=>decide (y≠x))=us:=bM.mpr λy hy=>by have:=qf.1 y hy;simp;exact jV ‹_›
   rw[bl,if_neg (by simp),h0,bl,if_neg (by simp),h1];exact⟨rfl,rfl⟩
  ·have hu:=qf.1 x hx;let ⟨h1,h2⟩:=ih qf.2 hx;rw[bl,if_pos (decide_eq_true hu),bl,if_pos (decide_eq_true (cM ‹_›)),az,il,List.eraseIdx_cons_succ,h2];exact⟨h1,rfl⟩
def C0 {x:Nat} (hs:us.Pairwise (· < ·)) (h:x∉us):(us.filter (λy=>decide (y<=x))++x::us.filter (λy=> !decide (y<=x))).Pairwise (· < ·)/\(us.filter (λy=>decide (y<=x))++x::us.filter (λy=> !decide (y<=x))).Perm (x::us):=by
 refine⟨ib.mpr ⟨hs.filter _,ed.mpr ⟨λy hy=> ?_,hs.filter _⟩,λa ha b hb=> ?_⟩,List.perm_middle.trans (OG _ (List.filter_append_perm _ _))⟩
 ·have:=(aY.mp hy).2;simp at this;exact this
 ·have h1:=(aY.mp ha);have h2:a<=x:=of_decide_eq_true h1.2;rcases aH.mp hb with rfl|hb
  ·exact adJ (λe=>h (e▸h1.1)) h2
  ·have:=(aY.mp hb).2;simp at this;exact adK h2 this
def RA:
  zv (stH tx yg df kX hu dp de fi a (~~~(.str (T [40]))) c d e f)=aa (.next,stH tx yg df kX hu (dp+1) de fi a (~~~(.str (T [40]))) c d e f)/\
  zv (stH tx yg df kX hu dp de fi a (~~~(.str (T [41]))) c d e f)=aa (.next,stH tx yg df kX hu (dp+ -1) de fi a (~~~(.str (T [41]))) c d e f):=⟨rfl,rfl⟩
def Fw (tx yg:PV) (df:Nz) (kX hu:Sp) (dp de:Int) (fi:Str) (a c d e f:OV) (h1:u≠ [40]) (h2:u≠ [41]):bY .In (ak 8) (jc (au ↥"(" (au ↥")" aZ))) (stH tx yg df kX hu dp de fi a (~~~(.str (T u))) c d e f)=aa false:=by show aa ((T [40]==T u)||((T [41]==T u)||false))=_;rw[Mb,Mb,decide_eq_false λe=>h1 e.symm,decide_eq_false λe=>h2 e.symm];rfl
def RC (h:u=[92,40]\/u=[92,41]\/u=[92,34]\/u=[92,92]):
  zv (stH tx yg df kX hu dp de fi a (~~~(.str (T u))) c d e f)=aa (.next,stH tx yg df kX hu dp de fi a (~~~(.str (T u))) c d e f):=by
 have k1:eR "abcdef" (T u)=false/\eR "ABCDEF" (T u)=false/\u≠ [40]/\u≠ [41]:=by rcases h with rfl|rfl|rfl|rfl<;>decide+kernel
 refine dw ?_;rw[jY (Fw _ _ _ _ _ _ _ _ _ _ _ _ _ k1.2.2.1 k1.2.2.2)];refine dw ?_;rw[jY (show aa (eR "abcdef" (T u))=aa false by rw[k1.1])];refine dw ?_;rw[jY (show aa (eR "ABCDEF" (T u))=aa false by rw[k1.2.1])];rfl
def Fx (st:St) (f:Nat) (d:Int) (hf:f<1000) (hd:d≠0) (hi:nh (mf f d)=false):MS st .Div (.pv (.int (f:Nat))) (.pv (.int d))=aa (.fE (mf f d)):=by
 have e:AZ .Div (.int f) (.int d)=aa (.fE (mf f d)):=by show(if _ then ff _ else ac)=_;rw[if_pos ⟨hd,by unfold AX;rw[(rfl:(2:Int) ^ 29=536870912)];simp;exact adL hf,hi⟩,Lo]
 show(AZ .Div (.int f) (.int d)).or _=_;rw[e];rfl
def Fy:∀f∈cK 9,nh (mf (f:Nat) 8)=false/\nh (mf (f:Nat) 4)=false:=by decide+kernel
def Md {f fo fi:EF} {st:St} {d:PV} {j:Nat} {x:Str} {l:Sp} (h1:f st= ~~~d) (h2:fo st=aa (.ob j)) (h3:fi st= ~~~(.str x)) (h4:st.ob[j]? =aa (.dict l)) (hl: ↑l<100000) (hx:l.lookup x=ac):EL f fo fi st=aa (.next,qY j (.dict (l++[(x,d)])) st):=by unfold EL;rw[h1,h2,h3];show((st.ob[j]?).bind CO.aD).bind _=_;rw[h4];exact if_pos ⟨hl,hx⟩
noncomputable def Vf (us:Nz) (x:Nat):List Nat:=us.filter (λy=>decide (y<=x))++x::us.filter (λy=> !decide (y<=x))
def B8 (hx:x<6):eR "abcdef" (T [97+x])=true/\eR "abcdef" (T [65+x])=false/\eR "ABCDEF" (T [65+x])=true:=by rw[show T [97+x]=⟨#[97+x]⟩ from rfl,show T [65+x]=⟨#[65+x]⟩ from rfl,oP,oP,oP];refine Ts hx ?_ ?_ ?_ ?_ ?_ ?_<;>decide
def JT {tx:PV} {m:Nat} (hm:m<500000000) {df:Nz} {kX hu:Sp} {dp de:Int} {fi:Str} {a c d e f g:OV} {x:Nat} (hx:x<6) (hl: ↑df<6) (hs:df.Pairwise (· < ·)) (Z5:kX.lookup (nm x)=ac) (hll: ↑kX<1000):
  zv (stH tx (.int (m:Nat)) df kX hu dp de fi a (~~~(.str (T [97+x]))) c d e f)=aa (.next,stH tx (.int (m:Nat)) (Vf df (nA 0 df)) (kX++[(nm x,qw m (nA 0 df))]) hu dp (if de<dp then dp else de) (if de<dp then nm x else fi) a (~~~(.str (T [97+x]))) (~~~(.int (nA 0 df:Nat))) d e f):=by
 left;let ⟨_,_,h3,_,_⟩:=vX df 0 hs λv q=>cJ v;have hf:nA 0 df<6:=by exact adN h3 hl
 right;refine dw ?_;rw[jY (Fw _ _ _ _ _ _ _ _ _ _ _ _ _ (by simp;exact adO) (by simp;exact adP))];refine dw ?_;rw[tL (show aa (eR "abcdef" (T [97+x]))=aa true by rw[(B8 hx).1])];generalize uM:nA 0 df=fr at*;let st1:St:=stH tx (.int (m:Nat)) df kX hu dp de fi a (~~~(.str (T [97+x]))) (~~~(.int (fr:Nat))) d e f;let st2:St:=stH tx (.int (m:Nat)) (Vf df fr) kX hu dp de fi a (~~~(.str (T [97+x]))) (~~~(.int (fr:Nat))) d e f;let st3:St:=stH tx (.int (m:Nat)) (Vf df fr) (kX++[(nm x,qw m fr)]) hu dp de fi a (~~~(.str (T [97+x]))) (~~~(.int (fr:Nat))) d e f;have e1:bZ (Bo false g6 (lA (dJ kq (au (aX 0) aZ))) ⇑1 (Ls (bY .Gt (bk (aX 0) (ak 0)) (ak 0)) ⇑1 ⇑0)) (bf 9) (stH tx (.int (m:Nat)) df kX hu dp de fi a (~~~(.str (T [97+x]))) c d e f)=aa (.next,st1):=by unfold bZ;rw[Rz (by exact Gn hl) hs,uM];rfl
 have e2:zQ true (aX 0) (ak 9) st1=aa (.next,st2):=by rw[L2 true (j:=0) (x:=fr) (r:=df) rfl rfl rfl (DN hs) (by exact WB hl)];rfl
 left;let ⟨r,gg,b,_,_,_,_,hv,_⟩:=Q4 (f:=fr) (a:=m%4) (c:=m/4%8) hf (fO _ ∅) (fO _ ∅);have hm4:m%4<4:=fO _ ∅;have hm8:m/4%8<8:=fO _ ∅;right;have e3:EL (kh iw (au (ba .Div (ak 9) ⇑8) (au (ba .Div (ba .Add ⇑1 (ba .Mod (ak 1) ⇑4)) ⇑4) (au (ba .Div (ba .Add ⇑1 (ba .Mod (ba .FloorDiv (ak 1) ⇑4) ⇑8)) ⇑8) aZ)))) (ak 2) (ak 8) st2=aa (.next,st3):=by
  erw [Md (d:=qw m fr) (j:=1) (x:=nm x) (l:=kX) ?_ rfl rfl rfl (by exact K0 hll) Z5]
  ·rfl
  ·have a1:ba .Div (ak 9) ⇑8 st2= ~~~(.fE (mf fr 8)):=dq rfl rfl (Fx _ fr 8 (by exact WB hf) ∅ (Fy fr (dK.mpr (by exact acg hf))).1);have a2:ba .Div (ba .Add ⇑1 (ba .Mod (ak 1) ⇑4)) ⇑4 st2= ~~~(.fE (mf ((1+m%4:Nat):Int) 4)):=dq (dq rfl (dq rfl rfl (rk _ m 4 ∅)) (tK _ 1 (m%4))) rfl (Fx _ (1+m%4) 4 (by exact adQ) ∅ (Fy _ (dK.mpr (by exact adR))).2);have a3:ba .Div (ba .Add ⇑1 (ba .Mod (ba .FloorDiv (ak 1) ⇑4) ⇑8)) ⇑8 st2= ~~~(.fE (mf ((1+m/4%8:Nat):Int) 8)):=dq (dq rfl (dq (dq rfl rfl (xQ _ m 4 ∅ hm ∅)) rfl (rk _ (m/4) 8 ∅)) (tK _ 1 (m/4%8))) rfl (Fx _ (1+m/4%8) 8 (by exact adT) ∅ (Fy _ (dK.mpr (by exact adU))).1);refine mZ (bA a1 (bA a2 (bA a3 rfl))) (ds:=U1 fr (m%4) (m/4%8)) rfl ?_;unfold qw;rw[hv];rfl
 unfold Mc;rw[aU e1,aU e2,aU e3];refine dw ?_;by_cases hd:de<dp
 ·rw[tL (show aa (decide (de<dp))=aa true by rw[decide_eq_true hd]),if_pos hd,if_pos hd];rfl
 ·rw[jY (show aa (decide (de<dp))=aa false by rw[decide_eq_false hd]),if_neg hd,if_neg hd];rfl
def RD (hx:x<6) (st:St):kM st [.pv (.str (T [65+x]))]= ~~~(.str (nm x)):=by
 have h:cO (T [65+x])=nm x/\cw ↑(cO (T [65+x]))=false:=by refine Ts hx ?_ ?_ ?_ ?_ ?_ ?_<;>exact⟨rfl,rfl⟩
 rw[yG st h.2,h.1]
def DW (st:St) (hj:st.W0 (.ob j)=aa l) (h:l.lookup x=aa d):nZ st (.ob j) (.pv (.str x))=aa d:=by show(st.W0 (.ob j)).bind _=_;rw[hj];exact h
def HK {x:Str} {d:PV} (h:l.lookup x=ac):(l++[(x,d)]).lookup x=aa d:=by rw[O0,h];simp
def NQ {α β:Type} (f:α->β) (l:List α):∀i:Nat,(l.map f).eraseIdx i=(l.eraseIdx i).map f:=by
 induction l with
 |nil=>exact λq=>rfl
 |cons a l ih=>
  intro i;induction i with
  |zero=>rfl
  |succ i=>exact congrArg (f a:: ·) (ih i)
def NR {tx:PV} {m:Nat} {df:Nz} {kX hu:Sp} {dp de:Int} {fi:Str} {a c d e f g:OV} {x h:Nat} (hx:x<6) (hl: ↑df<100) (hs:df.Pairwise (· < ·)) (Z5:kX.lookup (nm x)=aa (qw m h)) (hhu:hu.lookup (nm x)=ac) (hll: ↑hu<1000) (hu6:h<6) (Xo:h∈df):
  ∃d' e' f',zv (stH tx (.int (m:Nat)) df kX hu dp de fi a (~~~(.str (T [65+x]))) c d e f)=aa (.next,stH tx (.int (m:Nat)) (df.filter λy=>decide (y≠h)) kX (hu++[(nm x,.int (h:Nat))]) dp de fi a (~~~(.str (T [65+x]))) c d' e' f'):=by
 left;let ⟨r,gg,b,hh,ll,ss,y,hv,hw,hy,Sq,SG⟩:=Q4 (f:=h) (a:=m%4) (c:=m/4%8) hu6 (fO _ ∅) (fO _ ∅);have ak0:qw m h= .tup [r,gg,b]:=by unfold qw;rw[hv];rfl
 right;let st1:St:=stH tx (.int (m:Nat)) df kX hu dp de fi a (~~~(.str (T [65+x]))) c (~~~r) (~~~gg) (~~~b);let st2:St:=stH tx (.int (m:Nat)) df kX (hu++[(nm x,.int (h:Nat))]) dp de fi a (~~~(.str (T [65+x]))) c (~~~r) (~~~gg) (~~~b);have low:∀st:St,ak 8 st= ~~~(.str (T [65+x]))->eP "str" kM (ak 8) aZ st= ~~~(.str (nm x)):=λst h8=>pF (o:= .pv (.str (T [65+x]))) (ds:=[]) h8 rfl rfl (RD hx st);refine⟨~~~r,~~~gg,~~~b,dw ?_⟩;rw[jY (Fw _ _ _ _ _ _ _ _ _ _ _ _ _ (by simp;exact adV) (by simp;exact adW))];refine dw ?_;rw[jY (show aa (eR "abcdef" (T [65+x]))=aa false by rw[(B8 hx).2.1])];refine dw ?_;rw[tL (show aa (eR "ABCDEF" (T [65+x]))=aa true by rw[(B8 hx).2.2])];unfold Ru;rw[aU (f:=bZ _ _) (st1:=st1) (by
  unfold bZ;rw[cA (o:= .ob 1) (i:= .pv (.str (nm x))) (d:= .tup [r,gg,b]) rfl (low _ rfl) (DW _ (l:=kX) rfl (ak0▸Z5))];rfl)]
 rw[aU (f:=EL _ _ _) (st1:=st2) (by
  erw [Md (d:= .int (h:Nat)) (j:=2) (x:=nm x) (l:=hu) ?_ rfl (low _ rfl) rfl (by exact K0 hll) hhu]
  ·rfl
  ·have hq:dJ rL (au (ba .Mult (bk (kh i8 (au (ak 10) (au (ak 11) (au (ak 12) aZ)))) ⇑0) ⇑8) aZ) st1= ~~~(.int (qz ia y)):=by
    refine iK (bA (dq (cA (mZ (l:=[.pv r,.pv gg,.pv b]) rfl rfl hw) rfl (mO _ [hh,ll,ss] 0 ∅ rfl)) rfl (d:= .fE y) ?_) rfl) ?_
    ·exact Ho hy
    ·show(if jx y then aa (CV.pv (.int (qz ia y))) else ac)=_;rw[if_pos Sq]
   refine dq hq rfl ?_;have e:AZ .Mod (.int (qz ia y)) (.int 8)=aa (.int (h:Nat)):=by show(if (8:Int)≠0 then aa (PV.int (Int.fmod (qz ia y) 8)) else ac)=_;rw[if_pos ∅,SG]
   exact Ho e)]
 refine dw ?_;let ⟨p1,p2⟩:=JS hs Xo;have ak1:qI false (aX 0) (bk (ak 3) (eP "str" kM (ak 8) aZ)) st2= ~~~(.int (↑(df.filter λy=>decide (y<h)):Nat)):=
  Aq false (a:= .ob 0) (r:=df) rfl (cA (o:= .ob 2) (i:= .pv (.str (nm x))) rfl (low _ rfl) (DW _ (l:=hu++[(nm x,.int (h:Nat))]) rfl (HK hhu))) rfl (DN hs) (by exact Pq hl)
 erw [uD (j:=0) (l:=bN df) (r:= .int (h:Nat)) (l':=bN (df.filter λy=>decide (y≠h))) rfl (bA ak1 rfl) rfl rfl ?_]
 ·rfl
 ·show(if ↑(bN df)<100000/\(0:Int)<=(↑(df.filter λy=>decide (y<h)):Nat) then((bN df)[((↑(df.filter λy=>decide (y<h)):Nat):Int).toNat]?).map λd=>(d,(bN df).eraseIdx ((↑(df.filter λy=>decide (y<h)):Nat):Int).toNat) else ac)=_;unfold bN;rw[aw,if_pos ⟨by exact adX hl,by exact Gm⟩,mU,bO,p1,NQ,p2];rfl
def HL (us:LN):∀(vs:LN) (i:Nat),mo i (us++vs)=mo i us++mo (i+ ↑us.flatten) vs:=by
 induction us with
 |nil=>intro vs i;exact rfl
 |cons u us ih=>intro vs i;show _::mo (i+ ↑u) (us++vs)=_::(mo (i+ ↑u) us++_);rw[ih vs,fP,aj,iO]
def Runs (us:LN) (tx yg:PV) (df:Nz) (kX hu:Sp) (dp de:Int) (fi:Str) (vu:Nz) (C8 Ml:Sp) (OR Z6:Int) (Z7:Str):Prop:=
 ∀(i:Nat) (a b c d e f:OV),∃a' b' c' d' e' f',lP hTg zv ((mo i us).map lR) (stH tx yg df kX hu dp de fi a b c d e f)=aa (.next,stH tx yg vu C8 Ml OR Z6 Z7 a' b' c' d' e' f')
section
variable {tx yg:PV} {us vs:LN} {df u1 u2:Nz} {kX hu l1 h1 l2 h2:Sp} {dp de d1 e1 d2 e2:Int} {fi f1 f2:Str}
def Runs.nil:Runs [] tx yg df kX hu dp de fi df kX hu dp de fi:=λi a b c d e f=>⟨a,b,c,d,e,f,rfl⟩
def Runs.CA (h:Runs us tx yg df kX hu dp de fi u1 l1 h1 d1 e1 f1) (h':Runs vs tx yg u1 l1 h1 d1 e1 f1 u2 l2 h2 d2 e2 f2):Runs (us++vs) tx yg df kX hu dp de fi u2 l2 h2 d2 e2 f2:=by intro i a b c d e f;left;let ⟨a',b',c',d',e',f',x⟩:=h i a b c d e f;let ⟨a2,b2,c2,d2,e2,f2,y⟩:=h' (i+ ↑us.flatten) a' b' c' d' e' f';right;exact⟨a2,b2,c2,d2,e2,f2,by rw[HL,bI,QZ x];exact y⟩
def Runs.one (h:∀(a c d e f:OV),∃a' b' c' d' e' f',zv (stH tx yg df kX hu dp de fi a (~~~(.str (T u))) c d e f)=aa (.next,stH tx yg u1 l1 h1 d1 e1 f1 a' b' c' d' e' f')):Runs [u] tx yg df kX hu dp de fi u1 l1 h1 d1 e1 f1:=by intro i a b c d e f;left;let ⟨a',b',c',d',e',f',x⟩:=h (~~~(.int ((i+ ↑u- 1:Nat):Int))) c d e f;right;exact⟨a',b',c',d',e',f',(iD (st1:=stH tx yg df kX hu dp de fi (~~~(.int ((i+ ↑u- 1:Nat):Int))) (~~~(.str (T u))) c d e f) rfl x).trans rfl⟩
def Runs.op:Runs [[40]] tx yg df kX hu dp de fi df kX hu (dp+1) de fi:= .one λa c d e f=>⟨_,_,_,_,_,_,RA.1⟩
def Runs.cl:Runs [[41]] tx yg df kX hu dp de fi df kX hu (dp+ -1) de fi:= .one λa c d e f=>⟨_,_,_,_,_,_,RA.2⟩
def Runs.skip (h:u=[92,40]\/u=[92,41]\/u=[92,34]\/u=[92,92]):Runs [u] tx yg df kX hu dp de fi df kX hu dp de fi:= .one λa c d e f=>⟨_,_,_,_,_,_,RC h⟩
def Runs.bare (h:p<7):Runs (x5 p) tx yg df kX hu dp de fi df kX hu dp de fi:=by
 refine Vc h ?_ ?_ ?_ ?_ ?_ ?_ ?_
 ·exact .nil
 ·exact .skip (.inl rfl)
 ·exact .skip (.inr (.inl rfl))
 ·exact .nil
 ·exact .nil
 ·exact .skip (.inr (.inr (.inl rfl)))
 ·exact .skip (.inr (.inr (.inr rfl)))
end
def zw {F:Nat->PV} {l:Nz} (h:x∉l):(l.map λy=>(nm y,F y)).lookup (nm x)=ac:=by
 induction l with
 |nil=>rfl
 |cons a l ih=>rw[bx,di,Jy,show(x==a)=false from beq_false_of_ne λe=>h (e▸ay)];exact ih λe=>h (aK _ e)
structure HI (n:NN) (m:Nat) (P:Nz) (h:NN) (df:Nz) (kX hu:Sp) (dp de:Nat) (fi:Str):Prop where
 le:∀x∈P,x<6->h x<= ↑(vq n x)
 ne:∀x∈P,x<6->∀y∈vq n x,h y≠h x
 Zs:df.Pairwise (· < ·)
 perm:df.Perm ((mn P).map h)
 lt:kX=(P.filter λc=>decide (c<6)).map λy=>(nm y,qw m (h y))
 hv:hu=((P.filter λc=>decide (6<=c)).map λc=>c- 6).map λy=>(nm y,.int (h y:Nat))
 dl:dp= ↑(mn P)
 dm:∀y∈P,y<6-> ↑(vq n y)+1<=de
 fm:((∀y∈P,6<=y)/\de=0)\/∃f∈P,f<6/\ ↑(vq n f)+1=de/\fi=nm f
def YW (h:toks n=P++x::Q) (hx:x<6): ↑(mn P)<6:=by
 have:=fk (fD.mpr ⟨(BZ h hx).1,ro P⟩) (l₂:=L6) λy hy=>by
  rcases aH.mp hy with rfl|hy
  ·exact fZ.mpr hx
  ·exact fZ.mpr (oO.mp hy).1
 rw[az]at this;have: ↑L6=6:=rfl;assumption
def aga (hm:m<500000000) (ht:toks n=P++x::Q) (hx:x<6) (H:HI n m P h df kX hu dp de fi):
  ∃(h':NN) (vu:Nz) (C8 Ml:Sp) (OR Z6:Nat) (Z7:Str),Runs (jv n x) tx (.int (m:Nat)) df kX hu dp de fi vu C8 Ml OR Z6 Z7/\HI n m (P++[x]) h' vu C8 Ml OR Z6 Z7:=by
 let ⟨Sv,Ej⟩:=BZ ht hx;have VO:=JJ ht hx;have hxP:x∉P:=λe=>nc ((oM ht).mp e).2;have hcP:6+x∉P:=λe=>by have h1:=((oM ht).mp e).2;have:=BX (n:=n) hx;unfold As at h1;erw [Hz,xV hx]at h1;exact adY h1 this
 have hul: ↑df= ↑(mn P):=by erw [H.perm.length_eq,aw]
 left;let ⟨_,_,Ih,_,Sy⟩:=vX df 0 H.Zs λv q=>cJ v;let ⟨hi1,hi2⟩:=C0 H.Zs Sy;right;let f:=nA 0 df;let h':Nat->Nat:=λy=>if y=x then f else h y;have sM:h' x=f:=if_pos rfl;have Xj:∀y,y≠x->h' y=h y:=λy hy=>if_neg hy;have ZT:∀y,y∈P->h' y=h y:=λy hy=>Xj y λe=>hxP (e▸hy);refine⟨h',Vf df f,kX++[(nm x,qw m f)],hu,dp+1,if de<dp+1 then dp+1 else de,if de<dp+1 then nm x else fi,?_,?_⟩
 ·have e:jv n x=[[40]]++([[97+x]]++x5 (dP (n x))):=by unfold jv qL;erw [if_pos hx];rfl
  erw [e];refine Runs.op.CA (Runs.CA ?_ (Runs.bare (n8 _)));refine .one λa c d e f=>⟨a,~~~(.str (T [97+x])),~~~(.int (nA 0 df:Nat)),d,e,f,?_⟩;erw [JT (g:=ac) hm hx (adZ hul (YW ht hx)) H.Zs ?_ ?_]
  rotate_left
  ·erw [H.lt];exact zw (F:=λy=>qw m (h y)) λe=>hxP (aY.mp e).1
  ·have:=rp n;erw [ht,aj]at this;erw [H.lt,aw];exact WC (eX (λc=>decide (c<6)) P) this
  ·by_cases hd:de<dp+1
   ·erw [if_pos hd,if_pos hd,if_pos (show(de:Int)< (dp:Int)+1 by exact WD hd),if_pos (show(de:Int)< (dp:Int)+1 by exact WD hd)];rfl
   ·erw [if_neg hd,if_neg hd,if_neg (show ¬(de:Int)< (dp:Int)+1 by exact WE hd),if_neg (show ¬(de:Int)< (dp:Int)+1 by exact WE hd)];rfl
 ·refine⟨λy hy IK=> ?_,λy hy IK z hz=> ?_,hi1,?_,?_,?_,?_,λy hy IK=> ?_,.inr ?_⟩
  ·rcases cb.mp hy with hy|hy
   ·erw [ZT y hy];exact H.le y hy IK
   ·erw [aB.mp hy,sM,<- VO];show nA 0 df<=_;exact ad0 Ih hul
  ·rcases cb.mp hy with hy|hy
   ·erw [ZT y hy,Xj z λe=>DQ (n:=n) (a:=x) (c:=y) (e▸(j3.mp hz).2.1) ((oM ht).mp hy).2];exact H.ne y hy IK z hz
   ·erw [aB.mp hy]at hz⊢;erw [sM,Xj z λe=>nc (n:=n) (a:=x) (e▸(j3.mp hz).2.1)];erw [<- VO]at hz;refine λe=>Sy ?_;have h4:=H.perm.mem_iff.mpr (OD (f:=h) hz);erw [show h z=nA 0 df from e]at h4;exact h4
  ·refine hi2.trans ?_;refine List.Perm.trans ?_ (Ej.map h').symm;erw [bx,sM];refine OG _ (H.perm.trans ?_);erw [cj λy hy=>(Xj y λe=>Sv (e▸hy)).symm]
  ·erw [H.lt,bT,bI,cj λy hy=>by erw [<- ZT y (aY.mp hy).1]];erw [bl,if_pos (decide_eq_true hx)];show _++[(nm x,qw m f)]=_++[(nm x,qw m (h' x))];erw [sM]
  ·erw [H.hv,bT,bl,if_neg (by simp;exact ad1 hx),pb,bu];refine cj λy hy=> ?_;let ⟨c,hc,rfl⟩:=aQ.mp hy;erw [aY]at hc;erw [Xj (c- 6) λe=>hcP (by have:=of_decide_eq_true hc.2;exact(show 6+x=c by exact WF this e)▸hc.1)]
  ·erw [Ej.length_eq,az,H.dl]
  ·rcases cb.mp hy with hy|hy
   ·have:=H.dm y hy IK;split<;>(first|exact ad2 this ‹_› |exact ad3 this)
   ·erw [aB.mp hy,<- VO,<- H.dl];split<;>(first|exact ad4|exact ad5 ‹_›)
  ·by_cases hd:de<dp+1
   ·erw [if_pos hd,if_pos hd];exact⟨x,dQ _ ay,hx,by erw [<- VO,H.dl],rfl⟩
   ·erw [if_neg hd,if_neg hd];rcases H.fm with⟨_,h0⟩|⟨g,h1,h2⟩
    ·exact(ad6 h0 hd).elim
    ·exact⟨g,ft _ h1,h2⟩
def agb (ht:toks n=P++(6+x)::Q) (hx:x<6) (H:HI n m P h df kX hu dp de fi):
  ∃(vu:Nz) (C8 Ml:Sp) (OR:Nat),Runs (jv n (6+x)) tx (.int (m:Nat)) df kX hu dp de fi vu C8 Ml OR de fi/\HI n m (P++[6+x]) h vu C8 Ml OR de fi:=by
 have Ej:=DR ht hx;have hxo:x∈mn P:=Ej.mem_iff.mpr ay;have hxP:x∈P:=(oO.mp hxo).2.1;have Mr:df.Perm (h x::(mn (P++[6+x])).map h):=H.perm.trans (Ej.map h);have ak3: ↑(vq n x)<6:=by
  have:=fk (l₁:=x::vq n x) (fD.mpr ⟨λh=>nc (j3.mp h).2.1,li.filter _⟩) (l₂:=L6) λy hy=>by
   rcases aH.mp hy with rfl|hy
   ·exact fZ.mpr hx
   ·exact fZ.mpr (j3.mp hy).1
  rw[az]at this;exact this
 refine⟨df.filter λy=>decide (y≠h x),kX,hu++[(nm x,.int (h x:Nat))],↑(mn (P++[6+x])),?_,?_⟩
 ·have k1:kX.lookup (nm x)=aa (qw m (h x)):=by rw[H.lt];exact vP (F:=λy=>qw m (h y)) (aY.mpr ⟨hxP,decide_eq_true hx⟩)
  have k2:hu.lookup (nm x)=ac:=by rw[H.hv];refine zw (F:=λy=> .int (h y:Nat)) λe=> ?_;let ⟨c,hc,e⟩:=aQ.mp e;rw[aY]at hc;have:=of_decide_eq_true hc.2;exact((oO.mp hxo).2.2) (by rw[show 6+x=c by exact WF this e];exact hc.1)
  have k3: ↑hu<1000:=by have:=rp n;rw[ht,aj]at this;rw[H.hv,aw,aw];exact WC (eX (λc=>decide (6<=c)) P) this
  have e:jv n (6+x)=[[65+x]]++[[41]]:=by unfold jv qL;rw[if_neg (WG),show 6+x- 6=x by exact Lc];rfl
  rw[e];rw[(by exact ad8 (by rw[H.dl,Ej.length_eq,az]):(↑(mn (P++[6+x])):Int)=(dp:Int)+ -1)];refine Runs.CA (.one λa c d e f=> ?_) Runs.cl;left;let ⟨d',e',f',hh⟩:=NR (g:=ac) (tx:=tx) (m:=m) (dp:=(dp:Int)) (de:=(de:Int)) (fi:=fi) (a:=a) (c:=c) (d:=d) (e:=e) (f:=f) hx (ad9 (by rw[H.perm.length_eq,aw]: ↑df= ↑(mn P)) (eX _ L6)) H.Zs k1 k2 k3 (by have:=H.le x hxP hx;exact ad7 this ak3) (H.perm.mem_iff.mpr (OD hxo));right;exact⟨_,_,_,_,_,_,hh⟩
 ·have old:∀y,y∈P++[6+x]->y<6->y∈P:=λy hy IK=>(cb.mp hy).elim id λe=>by have:=aB.mp e;exact(aea IK this).elim
  refine⟨λy hy IK=>H.le y (old y hy IK) IK,λy hy IK=>H.ne y (old y hy IK) IK,H.Zs.filter _,?_,?_,?_,rfl,λy hy IK=>H.dm y (old y hy IK) IK,?_⟩
  ·refine(Mr.filter _).trans ?_;erw [bl,if_neg (by simp),bM.mpr λy hy=> ?_];exact decide_eq_true λe=>(fD.mp (Mr.nodup_iff.mp (Hy H.Zs))).1 (e▸hy)
  ·rw[H.lt,bT,bl (x:=6+x),if_neg (by simp),pb,bu]
  ·rw[H.hv,bT,bI,bI,bl (x:=6+x),if_pos (by simp),pb];show _=_++[(nm (6+x- 6),PV.int (h (6+x- 6):Nat))];rw[show 6+x- 6=x by exact Lc]
  ·rcases H.fm with⟨h1,h0⟩|⟨g,h1,h2⟩
   ·exact absurd (h1 x hxP) (aeb hx)
   ·exact .inr ⟨g,ft _ h1,h2⟩
def YX (hm:m<500000000) (Q:Nz):∀(P:Nz) (h:NN) (df:Nz) (kX hu:Sp) (dp de:Nat) (fi:Str),toks n=P++Q->HI n m P h df kX hu dp de fi->
  ∃(h':NN) (vu:Nz) (C8 Ml:Sp) (OR Z6:Nat) (Z7:Str),Runs (Q.flatMap (jv n)) tx (.int (m:Nat)) df kX hu dp de fi vu C8 Ml OR Z6 Z7/\HI n m (toks n) h' vu C8 Ml OR Z6 Z7:=by
 induction Q with
 |nil=>intro P h df kX hu dp de fi ht H;exact⟨h,df,kX,hu,dp,de,fi,.nil,by rw[ht,bu];exact H⟩
 |cons c Q ih=>
  intro P h df kX hu dp de fi ht H;have hc:c<12:=(gm (n:=n)).mp (by rw[ht];exact dQ _ ay);have ht':toks n=(P++[c])++Q:=by rw[ht];simp
  rw[bJ];rcases bS c 6 with(h6|h6)
  ·let ⟨h1,u1,l1,k1,d1,e1,f1,r1,H1⟩:=aga (tx:=tx) hm ht h6 H;left;let ⟨h2,u2,l2,k2,d2,e2,f2,r2,H2⟩:=ih _ h1 u1 l1 k1 d1 e1 f1 ht' H1;right;exact⟨h2,u2,l2,k2,d2,e2,f2,r1.CA r2,H2⟩
  ·obtain⟨x,rfl⟩:∃x,c=6+x:=⟨c- 6,by exact WA h6⟩;left;let ⟨u1,l1,k1,d1,r1,H1⟩:=agb (tx:=tx) ht (Pp hc) H;let ⟨h2,u2,l2,k2,d2,e2,f2,r2,H2⟩:=ih _ h u1 l1 k1 d1 de fi ht' H1;right;exact⟨h2,u2,l2,k2,d2,e2,f2,r1.CA r2,H2⟩
def zx (n:NN):List Nat:=((toks n).filter λc=>decide (6<=c)).map λc=>c- 6
def iA (n:NN):List Nat:=((toks n).flatMap (unitsOf n)).flatten
def zy (h:f st=aa (.next,st1)):yw f g st=g st1:=by unfold yw;rw[h];rfl
def YY (n:NN) (m:Nat):HI n m [] (λq=>0) [] [] [] 0 0 "" where
 le:=λx hx=>absurd hx gw
 ne:=λx hx=>absurd hx gw
 Zs:=gW
 perm:=List.Perm.nil
 lt:=rfl
 hv:=rfl
 dl:=rfl
 dm:=λx hx=>absurd hx gw
 fm:= .inl ⟨λx hx=>absurd hx gw,rfl⟩
def Vg (hm:m<500000000):∃(h:NN) (de f:Nat),NI n h/\f<6/\ ↑(vq n f)+1=de/\(∀x,x<6-> ↑(vq n x)+1<=de)/\
  tC [.str (T (iA n)),.int (m:Nat)]=aa (.tup [.oQ ((zx n).map λy=>(nm y,.int (h y:Nat))),.int (de:Nat),.str (nm f)]):=by
 have hg:Good ((toks n).flatMap (unitsOf n)):=by have:=Aw (n:=n) (P:=toks n) (Q:=[]) (by simp) (r:=[]) (λu hu=>by cases hu) ∅ ∅;rwa [bu]at this
 have rz:gD ac ((toks n).flatMap (unitsOf n))=(toks n).flatMap (jv n):=by have:=uH n (toks n) [];rw[bu]at this;rw[this];show _++[]=_;rw[bu]
 let tx:PV:= .str (T (iA n));let ⟨h,df,kX,hu,dp,de,fi,hr,H⟩:=YX (n:=n) (m:=m) hm (tx:=tx) (toks n) [] (λq=>0) [] [] [] 0 0 "" (gh _).symm
  (YY n m)
 left;obtain⟨f,hf,hf6,hfd,rfl⟩:∃f∈toks n,f<6/\ ↑(vq n f)+1=de/\fi=nm f:=H.fm.resolve_left λe=>absurd (e.1 0 (gm.mpr ∅)) ∅;right;refine⟨h,de,f,⟨λx hx=>H.le x (gm.mpr (Pr hx)) hx,λx hx=>H.ne x (gm.mpr (Pr hx)) hx⟩,hf6,hfd,λx hx=>H.dm x (gm.mpr (Pr hx)) hx,?_⟩;left;let ⟨a,b,c,d,e,g,hr⟩:=hr 0 ac ac ac ac ac ac;right;let s0:St:=⟨[~~~tx,~~~(.int (m:Nat)),ac,ac,ac,ac,ac,ac,ac,ac,ac,ac,ac],[ac],[]⟩;have e1:yw (mK (zR (kh dU (au (ak 0) aZ))) hTg zv) (ji (lb (ak 3)) (ji (lb (ak 5)) (ji (lb (ak 6)) EO))) (stH tx (.int (m:Nat)) [] [] [] 0 0 "" ac ac ac ac ac ac)=aa ([.ob 2,.pv (.int (de:Nat)),.pv (.str (nm f))],stH tx (.int (m:Nat)) df kX hu dp de (nm f) a b c d e g):=by rw[zy (st1:=stH tx (.int (m:Nat)) df kX hu dp de (nm f) a b c d e g) (by rw[jZ (Fv (us:=(toks n).flatMap (jv n)) (mZ (l:=[.pv tx]) rfl rfl (rz▸B6 hg.unit hg.cps hg.size hg.count)) (rz▸hg.gD.1) (rz▸hg.gD.2))];exact hr)];rfl
 have e2:ny s0=aa ([.ob 2,.pv (.int (de:Nat)),.pv (.str (nm f))],stH tx (.int (m:Nat)) df kX hu dp de (nm f) a b c d e g):=by unfold ny;rw[zy (st1:=stH tx (.int (m:Nat)) [] [] [] 0 0 "" ac ac ac ac ac ac) rfl];exact e1
 show(ny s0).bind (λr=>afB r.2 r.1)=_;rw[e2];show aa (PV.tup [.oQ hu,_,_])=_;rw[H.hv];rfl
def Fz (l:List Int) (n:NN) (rs:SS) (ob:List CO) (y x j hu:OV) (text unit opening bare A4 first wide front given kept right pair due:Option CV:=ac):St:=
 {lv:=[~~~(.lst (l.map PV.int)),y,aa (.ob 3),aa (.ob 4),text,aa (.ob 5),unit,opening,bare,A4,first,wide,front,given,kept,right,pair,due],
  cv:=[~~~(cq λi=> .int (bg n i:Nat)),hu,j,~~~(g4 n),~~~(cq λi=> .int (CD n i)),~~~(mP n),~~~(cq λi=>fK (kB n i)),~~~(cq λi=>fK (ii n i)),aa (.inst 0),~~~(cq λk=>jR (n k)),~~~(cq λk=>g0 (dP (n k))),~~~jt,~~~(cq λk=>cF (n k)),~~~(.lst (ig λk=>(n k:Int))),~~~(.lst ((numsOf l).map PV.int)),x],
  ob:=hU (rs.map cW)++ob}
def YZ (l:List Int) (n:NN) (y x:OV) (rs:SS):xA (U5 l n y x rs)=aa (.next,U5 l n y x rs):=by
 unfold xA;erw [jY (fU (a:= .pv (g4 n)) (b:= .pv (g4 n)) ?_ rfl ?_)]
 ·rfl
 ·erw [yH (λst=>∃a b,st=⟨[a,b],[~~~(cq λk=>cF (n k)),~~~(cq λi=> .int (CD n i)),~~~(cq λi=> .int (bg n i:Nat))],hU (rs.map cW)⟩) (λi j=>decide (CD n i< (bg n j:Nat))) (λi j=> .str (nm i++nm j)) (qJ _ (λk=>cF (n k)) rfl) ⟨ac,ac,rfl⟩ ?_]
  ·erw [DP n (λi j=>decide (CD n i< (bg n j:Nat))) λi hi j hj=> ?_];rw[rY hi hj,Fs hi,dr,decide_eq_true_iff,decide_eq_true_iff];simp
  ·rintro i hi st ⟨a,b,rfl⟩;refine⟨⟨[~~~(.str (nm i)),b],[~~~(cq λk=>cF (n k)),~~~(cq λi=> .int (CD n i)),~~~(cq λi=> .int (bg n i:Nat))],hU (rs.map cW)⟩,rfl,rfl,⟨_,_,rfl⟩,qJ _ (λk=>cF (n k)) rfl,λst=>∃b,st=⟨[~~~(.str (nm i)),b],[~~~(cq λk=>cF (n k)),~~~(cq λi=> .int (CD n i)),~~~(cq λi=> .int (bg n i:Nat))],hU (rs.map cW)⟩,⟨_,rfl⟩,λst ⟨b,h⟩=>⟨_,b,h⟩,?_⟩;rintro j hj st ⟨b,rfl⟩;refine⟨⟨[~~~(.str (nm i)),~~~(.str (nm j))],[~~~(cq λk=>cF (n k)),~~~(cq λi=> .int (CD n i)),~~~(cq λi=> .int (bg n i:Nat))],hU (rs.map cW)⟩,rfl,?_,⟨_,rfl⟩,λq=>dq (f:=ak 0) (g:=ak 1) rfl rfl (kj _ _ _ (by rw[jS,jS];decide))⟩;exact fU (cA (f:=aX 1) (g:=ak 0) rfl rfl (gj _ (λi=> .int (CD n i)) (fZ.mpr hi))) (cA (f:=aX 2) (g:=ak 1) rfl rfl (gj _ (λi=> .int (bg n i:Nat)) (fZ.mpr hj))) rfl
 ·refine yF ?_;show(iI ((jT n).map PV.str) ((jT n).map PV.str)).map (!·)=aa false;rw[tM];rfl
def Y0 (l:List Int) (n:NN) (y x:OV) (rs:SS):BG (U5 l n y x rs)=aa (.next,Fz l n rs [.list [],.list [],.list []] y x ac ac (text:= ~~~(.str ""))):=rfl
def nB (n:NN) (P:Nz) (m:Nat):List Nat:=(cK m).flatMap λj=>P.filter λc=>bg n c==j
def o7 (n:NN) (P:Nz) (m:Nat):nB n P (m+1)=nB n P m++P.filter λc=>bg n c==m:=by unfold nB;rw[lV,iC,bJ,sF,bu]
def pG:c∈nB n P m↔c∈P/\bg n c<m:=by unfold nB;simp only[iP,dK,aY,beq_iff_eq];exact⟨λ⟨j,h1,h2,h3⟩=>⟨h2,h3▸h1⟩,λ⟨h1,h2⟩=>⟨_,h2,h1,rfl⟩⟩
def zz (n:NN) (P:Nz):∀m,(nB n P m).Pairwise λa c=>bg n a<=bg n c:=by
 intro l9;induction l9 with
 |zero=>exact gW
 |succ m ih=>
  rw[o7,ib];refine⟨ih,?_,λa ha c hc=> ?_⟩
  ·refine gJ (R:=λq q=>True) ?_ (Iz λq q=>trivial);intro a c ha hc _;have h1:=(aY.mp ha).2;have h2:=(aY.mp hc).2;rw[beq_iff_eq]at h1 h2;exact X8 h1 h2
  ·have h1:=(pG.mp ha).2;have h2:=(aY.mp hc).2;rw[beq_iff_eq]at h2;exact aec h1 h2
def NS {m:Nat}:m<=bg n x->nB n (P++x::R) m=nB n (P++R) m:=by
 induction m with
 |zero=>intro _;exact rfl
 |succ m ih=>intro h;erw [o7,o7,ih (Pm h),bT,bT,bl,if_neg (by simp;exact aed h)]
theorem B9 (q:Nat->Bool) (kW:∀c,bg n c<bg n x->q c=true) (hgt:∀c,bg n x<bg n c->q c=false) (hP:∀c∈P,bg n c=bg n x->q c=true) (hR:∀c∈R,bg n c=bg n x->q c=false):∀ {m:Nat},bg n x<m->nB n (P++x::R) m=(nB n (P++R) m).filter q++x::(nB n (P++R) m).filter λc=> !q c
 |m+1,h=>by
  erw [o7,o7];by_cases hm:bg n x<m
  ·have e1:((P++R).filter λc=>bg n c==m).filter q=[]:=cL.mpr λc hc=>by have:=(aY.mp hc).2;erw [beq_iff_eq]at this;erw [hgt c (CK hm this)];decide
   have e2:((P++R).filter λc=>bg n c==m).filter (λc=> !q c)=(P++R).filter λc=>bg n c==m:=bM.mpr λc hc=>by have:=(aY.mp hc).2;erw [beq_iff_eq]at this;erw [hgt c (CK hm this)];rfl
   erw [bT (p:=q),bT (p:=λc=> !q c),e1,e2,B9 q kW hgt hP hR hm,bT (p:=λc=>bg n c==m),bT (p:=λc=>bg n c==m),bl (x:=x),if_neg (by simp;exact Wo hm)];simp
  ·have hx:bg n x=m:=by exact aee h hm
   have e3:(P.filter λc=>bg n c==m).filter q=P.filter λc=>bg n c==m:=bM.mpr λc hc=>by erw [aY,beq_iff_eq]at hc;exact hP c hc.1 (hc.2.trans hx.symm)
   have e4:(R.filter λc=>bg n c==m).filter q=[]:=cL.mpr λc hc=>by erw [aY,beq_iff_eq]at hc;erw [hR c hc.1 (hc.2.trans hx.symm)];decide
   have e5:(P.filter λc=>bg n c==m).filter (λc=> !q c)=[]:=cL.mpr λc hc=>by erw [aY,beq_iff_eq]at hc;erw [hP c hc.1 (hc.2.trans hx.symm)];decide
   have e6:(R.filter λc=>bg n c==m).filter (λc=> !q c)=R.filter λc=>bg n c==m:=bM.mpr λc hc=>by erw [aY,beq_iff_eq]at hc;erw [hR c hc.1 (hc.2.trans hx.symm)];rfl
   erw [bT (p:=q),bT (p:=λc=> !q c),(bM.mpr λc hc=>kW c (by have:=(pG.mp hc).2;exact CK this hx)),(cL.mpr λc hc=>by erw [kW c (by have:=(pG.mp hc).2;exact CK this hx)];decide:(nB n (P++R) m).filter (λc=> !q c)=[]),NS (TU hx),bT (p:=λc=>bg n c==m) (l₁:=P) (l₂:=R),bT (p:=q),bT (p:=λc=> !q c),e3,e4,e5,e6,bT,bl (x:=x),if_pos (by simp;exact ace hx)];simp
def RE (q:α->Bool) {l:List α}:l.Pairwise (λa c=>q c=true->q a=true)->l.filter q++l.filter (λc=> !q c)=l:=by
 induction l with
 |nil=>intro _;exact rfl
 |cons a l ih=>
  intro h;rw[ed]at h;cases e:q a with
  |true=>rw[bl,if_pos e,bl,if_neg (by simp[e]),sG,ih h.2]
  |false=>
   have h1:∀c∈l,q c=false:=λc hc=>by
    cases e2:q c with
    |false=>rfl
    |true=>rw[h.1 c hc e2]at e;nomatch e
   rw[bl,if_neg (by simp[e]),bl,if_pos (by simp[e]),cL.mpr λc hc=>by rw[h1 c hc];decide,bM.mpr λc hc=>by rw[h1 c hc];rfl];rfl
def DX (hi:i<6) (hc:st.cv[0]? =aa (~~~(cq λi=> .int (bg n i:Nat)))) (right:Bool):yv (if right then rh else ri) (bk (aX 0) (ak 0)) st (.str (nm i))=aa ((bg n i:Nat):Int):=by
 have e:∀ll:kQ,ll.sC=[(ah "begin",0)]->ll.st st (.str (nm i))=⟨[~~~(.str (nm i))],[~~~(cq λi=> .int (bg n i:Nat))],st.ob⟩:=λll h=>by unfold kQ.st;rw[h];simp[hc]
 unfold yv;rw[e _ (by cases right<;>rfl),cA (f:=aX 0) (g:=ak 0) rfl rfl (gj _ (λi=> .int (bg n i:Nat)) (fZ.mpr hi))];rfl
def RF (hc:st.cv[0]? =aa (~~~(cq λi=> .int (bg n i:Nat)))) (right:Bool) {A:Nz} (h:∀i∈A,i<6):keysOf (yv (if right then rh else ri) (bk (aX 0) (ak 0)) st) (A.map λi=> .str (nm i))=aa (A.map λi=>(bg n i:Int)):=by
 induction A with
 |nil=>rfl
 |cons a A ih=>rw[bx,tA,DX (h a ay) hc,ih λi hi=>h i (aK _ hi)];rfl
def Me (right:Bool) (hc:st.cv[0]? =aa (~~~(cq λi=> .int (bg n i:Nat)))) {A:Nz} (h1:fo st=aa (.ob j)) (h2:fx st= ~~~(.str (nm x))) (hx:x<6) (hA:∀i∈A,i<6) (hl: ↑A<1000) (hs:A.Pairwise λa c=>bg n a<=bg n c) (h3:st.ob[j]? =aa (.list (A.map λi=> .str (nm i)))):
  Bp right (if right then rh else ri) fo fx (bk (aX 0) (ak 0)) st=aa (.next,qY j (.list ((A.filter (λc=>below right (bg n x) (bg n c))++x::A.filter (λc=> !below right (bg n x) (bg n c))).map λi=> .str (nm i))) st):=by
 have Zu:=RE (λc=>below right (bg n x:Int) (bg n c:Int)) (hs.imp λ{a c} hac h=>vT (fJ.mpr hac) h);have Z8:mB right (A.map λi=>(bg n i:Int)) (bg n x:Int) 0 ac= ↑(A.filter λc=>below right (bg n x) (bg n c)):=by rw[oK right (gX _ (λa b h=>by exact AN h) hs),dF,aw];rfl
 unfold Bp;rw[h1,h2];show(Tj st.ob[j]?).bind _=_;rw[h3];show(keysOf _ _).bind _=_;rw[RF hc right hA];show(yv _ _ st _).bind _=_;rw[DX hx hc right];show(if _<1000 then _ else _)=_;rw[if_pos (by rw[aw];exact hl)];unfold vj uR;rw[Z8];have e:∀A1 A2:List Nat,A1++A2=A->(A.map λi=>PV.str (nm i)).take ↑A1++PV.str (nm x)::(A.map λi=>PV.str (nm i)).drop ↑A1=(A1++x::A2).map λi=>PV.str (nm i):=by rintro A1 A2 rfl;rw[bI,bI,bx,List.take_left' (by rw[aw]),List.drop_left' (by rw[aw])]
 rw[e _ _ Zu]
def RH (n:NN) (P:Nz):∀m,↑(nB n P m)<=m* ↑P:=by
 intro l9;induction l9 with
 |zero=>exact cJ _
 |succ m ih=>rw[o7,aj,OB,CH];exact aef (ih) (eX (λc=>bg n c==m) P)
def Ca (h: ↑P<=6): ↑(nB n P (mN n))<1000:=by exact aeg (RH n P (mN n)) (Nat.mul_le_mul (xU n) h)
def RI (R:Nz):∀(P:Nz) (x:OV),P++R=L6->
  ∃x',lP (jL 15) (aC (Bp true rh (ak 2) (aX 15) (bk (aX 0) (ak 0))) br) (R.map λi=> .str (nm i)) (Fz l n rs [.list ((nB n P (mN n)).map λi=> .str (nm i)),.list [],.list []] y x j hu (text:=tx))=aa (.next,Fz l n rs [.list ((nB n L6 (mN n)).map λi=> .str (nm i)),.list [],.list []] y x' j hu (text:=tx)):=by
 induction R with
 |nil=>intro P x h;exact⟨x,by erw [bu]at h;subst h;rfl⟩
 |cons i R ih=>
  intro P x h;have hi:i<6:=fZ.mp (h▸(dQ _ ay));obtain(⟨x',e⟩):=ih (P++[i]) (~~~(.str (nm i))) (by erw [<- h];simp);refine⟨x',?_⟩;erw [bx,iD (st1:=Fz l n rs [.list ((nB n P (mN n)).map λi=> .str (nm i)),.list [],.list []] y (~~~(.str (nm i))) j hu (text:=tx)) (st2:=Fz l n rs [.list ((nB n (P++[i]) (mN n)).map λi=> .str (nm i)),.list [],.list []] y (~~~(.str (nm i))) j hu (text:=tx)) rfl ?_,e];refine dw ?_;refine(Me true (j:=3) (x:=i) (A:=nB n P (mN n)) rfl rfl rfl hi (λc hc=> ?_) (Ca (n:=n) (P:=P) (by have:=congrArg eW h;erw [aj]at this;exact aA (bh _ _) (fb this))) (zz n P _) rfl).trans ?_
  ·exact fZ.mp (by erw [<- h];exact ft _ (pG.mp hc).1)
  ·have e2:=B9 (n:=n) (P:=P) (R:=[]) (x:=i) (λc=>below true (bg n i:Int) (bg n c:Int)) (λc hc=>below_1 (fJ.mpr (ce hc))) (λc hc=>below_2 (cD.mpr hc)) (λc q hc=>below_1 (fJ.mpr (fb hc))) (λc hc=>absurd hc gw) (bB (BX hi) (L7 hi))
   ·erw [bu]at e2;erw [e2];rfl
def NT (R:Nz):∀(P:Nz) (x:OV),R.reverse++P=L6->
  ∃x',lP (jL 15) (aC (Bp false ri (ak 3) (aX 15) (bk (aX 0) (ak 0))) br) (R.map λi=> .str (nm i)) (Fz l n rs [.list A,.list ((nB n P (mN n)).map λi=> .str (nm i)),.list []] y x j hu (text:=tx))=aa (.next,Fz l n rs [.list A,.list ((nB n L6 (mN n)).map λi=> .str (nm i)),.list []] y x' j hu (text:=tx)):=by
 induction R with
 |nil=>intro P x h;exact⟨x,by erw [List.reverse_nil,gh]at h;subst h;rfl⟩
 |cons i R ih=>
  intro P x h;erw [Tb,bF]at h;have hi:i<6:=fZ.mp (h▸(dQ _ ay));obtain(⟨x',e⟩):=ih (i::P) (~~~(.str (nm i))) h;refine⟨x',?_⟩;erw [bx,iD (st1:=Fz l n rs [.list A,.list ((nB n P (mN n)).map λi=> .str (nm i)),.list []] y (~~~(.str (nm i))) j hu (text:=tx)) (st2:=Fz l n rs [.list A,.list ((nB n (i::P) (mN n)).map λi=> .str (nm i)),.list []] y (~~~(.str (nm i))) j hu (text:=tx)) rfl ?_,e];refine dw ?_;refine(Me false (j:=4) (x:=i) (A:=nB n P (mN n)) rfl rfl rfl hi (λc hc=> ?_) (Ca (n:=n) (P:=P) (by have:=congrArg eW h;erw [aj,aj]at this;have h6: ↑L6=6:=rfl;exact aeh this h6)) (zz n P _) rfl).trans ?_
  ·exact fZ.mp (by erw [<- h];exact dQ _ (dQ _ (pG.mp hc).1))
  ·have e2:=B9 (n:=n) (P:=[]) (R:=P) (x:=i) (λc=>below false (bg n i:Int) (bg n c:Int)) (λc hc=>below_3 (cD.mpr hc)) (λc hc=>below_4 (fJ.mpr (ce hc))) (λc hc=>absurd hc gw) (λc q hc=>below_4 (fJ.mpr (fb hc.symm))) (bB (BX hi) (L7 hi))
   ·erw [gh,gh]at e2;erw [e2];rfl
def jw (n:NN):List PV:=(HA n).map λi=> .str (nm i)
def HM (n:NN):nB n L6 (mN n)=HA n:=by unfold nB HA U7;refine eQ λj q=>io λc hc=> ?_;rw[xV (dK.mp hc)]
def Mf (st:St) (s:Str) (ls:Nz) (h:s=T ls) (h7:ls.all (· <128)=true):jA (jh (.str s)) st=aa (ls.map λc=> .str ⟨#[c]⟩):=by subst h;show(if (T ls).cps.all (· <128)=true then aa (yr (T ls)) else ac)=_;rw[if_pos (by unfold T;simpa using h7)];unfold yr;rw[qK]
def Y1 (l:List Int) (n:NN) (y x:OV) (rs:SS) (tx:OV):∃x',xB (Fz l n rs [.list [],.list [],.list []] y x ac ac (text:=tx))=aa (.next,Fz l n rs [.list (jw n),.list [],.list []] y x' ac ac (text:=tx)):=by let ⟨x',e⟩:=RI (l:=l) (n:=n) (y:=y) (hu:=ac) (j:=ac) (rs:=rs) (tx:=tx) L6 [] x rfl;refine⟨x',?_⟩;rw[(nK.mpr λc hc=>absurd (pG.mp hc).1 gw),HM]at e;unfold xB;rw[jZ (xs:=L6.map λi=> .str (nm i)) (Mf _ "abcdef" [97,98,99,100,101,102] rfl rfl)];exact e
def Y2 (l:List Int) (n:NN) (y x:OV) (rs:SS) (tx:OV):∃x',xC (Fz l n rs [.list (jw n),.list [],.list []] y x ac ac (text:=tx))=aa (.next,Fz l n rs [.list (jw n),.list (jw n),.list []] y x' ac ac (text:=tx)):=by let ⟨x',e⟩:=NT (l:=l) (n:=n) (y:=y) (hu:=ac) (j:=ac) (rs:=rs) (tx:=tx) (A:=jw n) [5,4,3,2,1,0] [] x rfl;refine⟨x',?_⟩;rw[(nK.mpr λc hc=>absurd (pG.mp hc).1 gw),HM]at e;unfold xC;rw[jZ (xs:=[5,4,3,2,1,0].map λi=> .str (nm i)) (Mf _ "fedcba" [102,101,100,99,98,97] rfl rfl)];exact e
def nT (us:LN):List PV:=us.map λu=> .str (T u)
def Mg (h:p<7):(Fk p).map PV.str=nT (gI p):=by refine Vc h ?_ ?_ ?_ ?_ ?_ ?_ ?_<;>rfl
def nC (n:NN) (j:Nat):List Nat:=(cK 12).filter λc=>pl n c==j
def RJ (n:NN) (j:Nat):nC n j=(L6.filter λx=>bg n x==j)++(L6.filter λx=>en n x==j).map (6+ ·):=by
 have e2:L6.filter ((λc=>pl n c==j) ∘ (6+ ·))=L6.filter (λx=>en n x==j):=io λc hc=>by show(pl n (6+c)==j)=_;rw[Hz]
 unfold nC;erw [show cK 12=L6++L6.map (6+ ·) by decide,bT,dF,(io λc hc=>by rw[xV (fZ.mp hc)]),e2]
def NU (n:NN) (j:Nat):(nC n j).flatMap (unitsOf n)=((L6.filter λx=>bg n x==j).flatMap λx=>[40]::[97+x]::gI (dP (n x)))++(L6.filter λx=>en n x==j).flatMap λx=>[[65+x],[41]]:=by
 have e1:(L6.filter λx=>bg n x==j).flatMap (unitsOf n)=(L6.filter λx=>bg n x==j).flatMap λx=>[40]::[97+x]::gI (dP (n x)):=eQ λx hx=>by unfold unitsOf qL;rw[if_pos (fZ.mp (aY.mp hx).1)]
 have e2:(L6.filter λx=>en n x==j).flatMap (λx=>unitsOf n (6+x))=(L6.filter λx=>en n x==j).flatMap λx=>[[65+x],[41]]:=eQ λx hx=>by unfold unitsOf qL;rw[if_neg (WG),show 6+x- 6=x by exact Lc]
 erw [RJ,iC,iQ,e1,e2]
def HN (n:NN):toks n=(cK (mN n)).flatMap (nC n):=rfl
def tR (st:St) (a b:List PV) (h: ↑a+ ↑b<=10000):MS st .Add (.pv (.lst a)) (.pv (.lst b))=aa (.lst (a++b)):=by show(if ↑a+ ↑b<=sizeLine then aa (PV.lst (a++b)) else ac)=_;exact if_pos (Pg h rfl)
def RK (st:St) (ha:st.oB a=aa l) (hb:st.oB b=aa m) (hn:∀x,a≠ .pv x) (h: ↑l+ ↑m<=10000):MS st .Add a b=aa (.lst (l++m)):=by
 have hs:sizeLine=2 ^ 24:=rfl;induction a with
 |pv x=>exact absurd rfl (hn x)
 |ob i=>show(ac:Option PV).or ((st.oB (.ob i)).bind λl=>(st.oB b).bind (PN l))=_;rw[ha,hb];exact if_pos (Pg h hs)
 |inst i=>exact gq ha
def JU {st:St} {n:NN} {j:Nat} (h:uv.st st=⟨[ac,ac],[~~~(cq λk=>g0 (dP (n k))),~~~(.int (j:Nat)),~~~(cq λi=> .int (bg n i:Nat))],st.ob⟩) (hp:st.cv[12]? =aa (~~~(cq λk=>cF (n k)))):
  eh uv (jA (aX 12)) (dM (bf 0) (bY .Eq (bk (aX 2) (ak 0)) (aX 1)) (IG (jA (ba .Add (kb (au ↥"(" (au (ak 0) aZ))) (bk (aX 0) (ak 0)))) (dM (bf 1) fF (gN (ak 1))))) st= ~~~(.lst (nT ((L6.filter λx=>bg n x==j).flatMap λx=>[40]::[97+x]::gI (dP (n x))))):=by
 have Iu:aX 12 st= ~~~(cq λk=>cF (n k)):=by unfold aX;erw [AM,hp];rfl
 erw [ux (λcf=>∃a b,cf=⟨[a,b],[~~~(cq λk=>g0 (dP (n k))),~~~(.int (j:Nat)),~~~(cq λi=> .int (bg n i:Nat))],st.ob⟩) (λx=>bg n (i4 x)==j) (λx=>nT ([40]::[97+i4 x]::gI (dP (n (i4 x))))) (λq q=>true) (λq y=>y) (qJ st (λk=>cF (n k)) Iu) ∅ ?_ (h▸⟨ac,ac,rfl⟩) ?_]
 ·erw [dF,iQ];have e:(λx=>bg n (i4 x)==j) ∘ (λi=>PV.str (nm i))=λx=>bg n x==j:=by funext x;show(bg n (i4 (.str (nm x)))==j)=_;erw [fV]
  erw [e];have e3:((L6.filter λx=>bg n x==j).flatMap λx=>((nT ([40]::[97+i4 (.str (nm x))]::gI (dP (n (i4 (.str (nm x))))))).filter λq=>true).map λy=>y)=nT ((L6.filter λx=>bg n x==j).flatMap λx=>[40]::[97+x]::gI (dP (n x))):=by unfold nT;erw [gy];exact eQ λx q=>by erw [fV,bM.mpr λq q=>rfl,sQ]
  erw [e3]
 ·intro x hx;let ⟨i,hi,rfl⟩:=aQ.mp hx;have:=(vW (n8 (n i))).2.1;erw [fV];unfold nT;simp;exact aei this
 ·rintro x hx cf ⟨a,b,rfl⟩;let ⟨i,hi,rfl⟩:=aQ.mp hx;erw [fV];refine⟨⟨[~~~(.str (nm i)),b],[~~~(cq λk=>g0 (dP (n k))),~~~(.int (j:Nat)),~~~(cq λi=> .int (bg n i:Nat))],st.ob⟩,rfl,?_,⟨_,_,rfl⟩,λq=>⟨?_,λcf=>∃b,cf=⟨[~~~(.str (nm i)),b],[~~~(cq λk=>g0 (dP (n k))),~~~(.int (j:Nat)),~~~(cq λi=> .int (bg n i:Nat))],st.ob⟩,⟨_,rfl⟩,λcf ⟨b,h⟩=>⟨_,b,h⟩,?_⟩⟩
  ·refine fU (cA (f:=aX 2) (g:=ak 0) rfl rfl (gj _ (λi=> .int (bg n i:Nat)) hi)) rfl ?_;show aa ((bg n i:Int)==(j:Int))=_;refine congrArg aa ?_;erw [dr,beq_iff_eq,beq_iff_eq];exact Pj
  ·have hpc:bk (aX 0) (ak 0) ⟨[~~~(.str (nm i)),b],[~~~(cq λk=>g0 (dP (n k))),~~~(.int (j:Nat)),~~~(cq λi=> .int (bg n i:Nat))],st.ob⟩= ~~~(g0 (dP (n i))):=cA rfl rfl (gj _ (λk=>g0 (dP (n k))) hi);have hl:=(vW (n8 (n i))).2.1;unfold jA;erw [dq (rW (l:=[.pv (.str "("),.pv (.str (nm i))]) rfl rfl (by simp)) hpc (tR _ _ _ ?_)]
   ·show aa (_++(Fk (dP (n i))).map PV.str)=_;erw [Mg (n8 _)];rfl
   ·erw [Mg (n8 _)];unfold nT;erw [aw];show 2+_<=_;exact aej hl
  ·rintro u hu cf ⟨b,rfl⟩;exact⟨⟨[~~~(.str (nm i)),~~~u],[~~~(cq λk=>g0 (dP (n k))),~~~(.int (j:Nat)),~~~(cq λi=> .int (bg n i:Nat))],st.ob⟩,rfl,rfl,⟨_,rfl⟩,λq=>rfl⟩
def JV {st:St} {n:NN} {j:Nat} (h:uw.st st=⟨[ac,ac],[~~~(.int (j:Nat)),~~~(cq λi=> .int (CD n i))],st.ob⟩) (hp:st.cv[12]? =aa (~~~(cq λk=>cF (n k)))):
  eh uw (jA (aX 12)) (dM (bf 0) (bY .Eq (bk (aX 1) (ak 0)) (aX 0)) (IG (jA (jc (au (eP "str" gS (ak 0) aZ) (au ↥")" aZ)))) (dM (bf 1) fF (gN (ak 1))))) st= ~~~(.lst (nT ((L6.filter λx=>en n x==j).flatMap λx=>[[65+x],[41]]))):=by
 have Iu:aX 12 st= ~~~(cq λk=>cF (n k)):=by unfold aX;erw [AM,hp];rfl
 erw [ux (λcf=>∃a b,cf=⟨[a,b],[~~~(.int (j:Nat)),~~~(cq λi=> .int (CD n i))],st.ob⟩) (λx=>en n (i4 x)==j) (λx=>nT [[65+i4 x],[41]]) (λq q=>true) (λq y=>y) (qJ st (λk=>cF (n k)) Iu) ∅ (λq q=>by show 2<=100;decide) (h▸⟨ac,ac,rfl⟩) ?_]
 ·erw [dF,iQ];have e:(λx=>en n (i4 x)==j) ∘ (λi=>PV.str (nm i))=λx=>en n x==j:=by funext x;show(en n (i4 (.str (nm x)))==j)=_;erw [fV]
  erw [e];have e3:((L6.filter λx=>en n x==j).flatMap λx=>((nT [[65+i4 (.str (nm x))],[41]]).filter λq=>true).map λy=>y)=nT ((L6.filter λx=>en n x==j).flatMap λx=>[[65+x],[41]]):=by unfold nT;erw [gy];exact eQ λx q=>by erw [fV,bM.mpr λq q=>rfl,sQ]
  erw [e3]
 ·rintro x hx cf ⟨a,b,rfl⟩;obtain(⟨i,hi,rfl⟩):=aQ.mp hx;have hi6:=fZ.mp hi;erw [fV];refine⟨⟨[~~~(.str (nm i)),b],[~~~(.int (j:Nat)),~~~(cq λi=> .int (CD n i))],st.ob⟩,rfl,?_,⟨_,_,rfl⟩,λq=>⟨?_,λcf=>∃b,cf=⟨[~~~(.str (nm i)),b],[~~~(.int (j:Nat)),~~~(cq λi=> .int (CD n i))],st.ob⟩,⟨_,rfl⟩,λcf ⟨b,h⟩=>⟨_,b,h⟩,?_⟩⟩
  ·refine fU (cA (f:=aX 1) (g:=ak 0) rfl rfl (gj _ (λi=> .int (CD n i)) hi)) rfl ?_;show aa (CD n i==(j:Int))=_;refine congrArg aa ?_;erw [Fs hi6,dr,beq_iff_eq,beq_iff_eq];exact Pj
  ·unfold jA;erw [qt (l:=[.pv (.str (up i)),.pv (.str ")")]) (bA (vS hi6 rfl) rfl) rfl (by simp)];rfl
  ·rintro u hu cf ⟨b,rfl⟩;exact⟨⟨[~~~(.str (nm i)),~~~u],[~~~(.int (j:Nat)),~~~(cq λi=> .int (CD n i))],st.ob⟩,rfl,rfl,⟨_,rfl⟩,λq=>rfl⟩
def mD (us:LN):List PV:=(mo 0 us).map lR
def JW (us:LN) (u:Nz):mD (us++[u])=mD us++[.tup [.int ((↑us.flatten+ ↑u- 1:Nat):Int),.str (T u)]]:=by unfold mD;rw[HL,bI,qk];rfl
def RL (us:LN):∀(i:Nat),↑(mo i us)= ↑us:=by
 induction us with
 |nil=>intro _;exact rfl
 |cons u us ih=>intro i;rw[mo,az,az,ih]
def uJ (us:LN): ↑(mD us)= ↑us:=by unfold mD;rw[aw,RL]
abbrev NV (l:List Int) (n:NN) (rs:SS) (us:LN) (y x j un op:OV):St:=Fz l n rs [.list (jw n),.list (jw n),.list (mD us)] y x j ac (text:= ~~~(.str (T us.flatten))) (unit:=un) (opening:=op)
abbrev HO:St->Option (pu×St):=(aC (bZ (ba .Add (ak 4) (ak 6)) (bf 4)) (aC (oE gZ (ak 5) (au (jc (au (ba .Sub (dJ kq (au (ak 4) aZ)) ⇑1) (au (ak 6) aZ))) aZ)) br))
def NW (vs:LN):∀(us:LN) (un:OV),(∀u∈vs,JK u)-> ↑us.flatten+ ↑vs.flatten<=1000-> ↑us+ ↑vs<=1000->
  ∃Z9,lP (bf 6) HO (nT vs) (NV l n rs us y x j un op)=aa (.next,NV l n rs (us++vs) y x j Z9 op):=by
 induction vs with
 |nil=>intro us un _ _ _;exact⟨un,by rw[bu];rfl⟩
 |cons u vs ih=>
  intro us un hu h1 h2;rw[fP,aj]at h1;rw[az]at h2;let ⟨Z9,e⟩:=ih (us++[u]) (~~~(.str (T u))) (λv hv=>hu v (aK _ hv)) (by simp at h1⊢;exact aek h1) (by simp;exact ael h2);refine⟨Z9,?_⟩;have Z8:1<= ↑u:=by rcases hu u ay with⟨c,_,rfl⟩|⟨c,rfl⟩<;>simp
  have Kz:(us++[u]).flatten=us.flatten++u:=by simp
  erw [show nT (u::vs)= .str (T u)::nT vs from rfl,iD (st1:=NV l n rs us y x j (~~~(.str (T u))) op) (st2:=NV l n rs (us++[u]) y x j (~~~(.str (T u))) op) rfl ?_,e,bF]
  ·rfl
  ·unfold HO;let s1:St:=Fz l n rs [.list (jw n),.list (jw n),.list (mD us)] y x j ac (text:= ~~~(.str (T (us++[u]).flatten))) (unit:= ~~~(.str (T u))) (opening:=op);rw[aU (st1:=s1) (by
    unfold bZ;rw[dq rfl rfl (kj _ (T us.flatten) (T u) (by rw[gG,gG];exact WH h1)),DS,<- Kz];rfl)]
   refine dw ?_;have cI:dJ kq (au (ak 4) aZ) s1= ~~~(.int ((us++[u]).flatten.length:Nat)):=by have:=B5 s1 (T (us++[u]).flatten) (by rw[gG,Kz,aj];exact WH h1);rw[gG]at this;exact iK (bA rfl rfl) this
   have C5:ba .Sub (dJ kq (au (ak 4) aZ)) ⇑1 s1= ~~~(.int ((↑us.flatten+ ↑u- 1:Nat):Int)):=by refine dq cI rfl ?_;rw[Kz,aj];show aa (PV.int (((↑us.flatten+ ↑u:Nat):Int)- 1))=_;refine congrArg (λz=>aa (PV.int z)) ?_;exact aem Z8
   rw[uD (j:=5) (l:=mD us) rfl (bA (qt (bA C5 (bA rfl rfl)) rfl (by simp)) rfl) rfl rfl (pE (by rw[uJ];exact aen h2))];rw[<- JW];rfl
def x7 (h:f st= ~~~(.lst l)):jA f st=aa l:=by unfold jA;rw[h];rfl
abbrev RM:St->Option (pu×St):=(aC (bZ (eh uv (jA (aX 12)) (dM (bf 0) (bY .Eq (bk (aX 2) (ak 0)) (aX 1)) (IG (jA (ba .Add (kb (au ↥"(" (au (ak 0) aZ))) (bk (aX 0) (ak 0)))) (dM (bf 1) fF (gN (ak 1)))))) (bf 7)) (aC (mK (jA (ba .Add (ak 7) (eh uw (jA (aX 12)) (dM (bf 0) (bY .Eq (bk (aX 1) (ak 0)) (aX 0)) (IG (jA (jc (au (eP "str" gS (ak 0) aZ) (au ↥")" aZ)))) (dM (bf 1) fF (gN (ak 1)))))))) (bf 6) (aC (bZ (ba .Add (ak 4) (ak 6)) (bf 4)) (aC (oE gZ (ak 5) (au (jc (au (ba .Sub (dJ kq (au (ak 4) aZ)) ⇑1) (au (ak 6) aZ))) aZ)) br))) br))
def RO (R:Nz):∀(P:Nz) (j un op:OV),P++R=cK (mN n)->
  ∃j' Z9 op',lP (jL 2) RM (R.map λi:Nat=> .int (i:Int)) (NV l n rs ((P.flatMap (nC n)).flatMap (unitsOf n)) y x j un op)=aa (.next,NV l n rs ((toks n).flatMap (unitsOf n)) y x j' Z9 op'):=by
 induction R with
 |nil=>intro P j un op h;exact⟨j,un,op,by erw [bu]at h;erw [HN,<- h];rfl⟩
 |cons i R ih=>
  intro P j un op h;have jM:toks n=(P++[i]).flatMap (nC n)++R.flatMap (nC n):=by erw [HN,<- h,<- iC];simp
  let ⟨a1,a2,a3⟩:=uI n _ (λc hc=>(gm (n:=n)).mp (by erw [jM];exact ft _ hc));have hl:=rp n;erw [jM,aj]at hl;have hus:((P++[i]).flatMap (nC n)).flatMap (unitsOf n)=(P.flatMap (nC n)).flatMap (unitsOf n)++(nC n i).flatMap (unitsOf n):=by erw [(by erw [iC];simp:(P++[i]).flatMap (nC n)=P.flatMap (nC n)++nC n i),iC]
  erw [hus]at a1 a2 a3;erw [dz,aj]at a3;erw [aj]at a2;let us:=(P.flatMap (nC n)).flatMap (unitsOf n);have Ed: ↑us+ ↑((nC n i).flatMap (unitsOf n))<=_:=a2;have a3': ↑us.flatten+((nC n i).flatMap (unitsOf n)).flatten.length<=_:=a3;let A:=(L6.filter λx=>bg n x==i).flatMap λx=>[40]::[97+x]::gI (dP (n x));let B:=(L6.filter λx=>en n x==i).flatMap λx=>[[65+x],[41]];have hAB:(nC n i).flatMap (unitsOf n)=A++B:=NU n i;let op1:Option CV:= ~~~(.lst (nT A));left;let ⟨un1,e1⟩:=NW (l:=l) (n:=n) (rs:=rs) (y:=y) (x:=x) (j:= ~~~(.int (i:Nat))) (op:=op1) (A++B) us un (λu hu=>(a1 u (dQ _ (hAB▸hu))).1) (by erw [<- hAB];exact WI a3' hl) (by erw [<- hAB];exact WI Ed hl);let ⟨j',Z9,op',e⟩:=ih (P++[i]) (~~~(.int (i:Nat))) un1 op1 (by erw [<- h];simp);right;refine⟨j',Z9,op',?_⟩;erw [bx,iD (st1:=NV l n rs us y x (~~~(.int (i:Nat))) un op) (st2:=NV l n rs (us++(A++B)) y x (~~~(.int (i:Nat))) un1 op1) rfl ?_]
  ·erw [hus,hAB]at e;exact e
  ·unfold RM;erw [aU (st1:=NV l n rs us y x (~~~(.int (i:Nat))) un op1) (by
    unfold bZ;erw [JU (n:=n) (j:=i) rfl rfl];rfl)]
   refine dw ?_;have hAl: ↑(nT A)+ ↑(nT B)<=10000:=by unfold nT;erw [aw,aw,<- aj,<- hAB];exact aeo Ed hl
   erw [jZ (x7 (dq (a:= .pv (.lst (nT A))) rfl (JV (n:=n) (j:=i) rfl rfl) (tR _ _ _ hAl))),show nT A++nT B=nT (A++B) by unfold nT;erw [bI]];exact e1
def Y3 (l:List Int) (n:NN) (y x:OV) (rs:SS):∃j un op,xD (Fz l n rs [.list (jw n),.list (jw n),.list []] y x ac ac (text:= ~~~(.str "")))=aa (.next,NV l n rs ((toks n).flatMap (unitsOf n)) y x j un op):=by
 have hm:mN n<=6:=xU n;have hit:rO (dJ kq (au (bk (aX 5) ⇑0) aZ)) (NV l n rs [] y x ac ac ac)=aa (iJ (mN n)):=by refine DV ?_ (Pk hm);have cI:=tP (NV l n rs [] y x ac ac ac) (bN (lC n)) (by unfold bN;erw [aw];show mN n<=_;exact Dm hm);erw [show ↑(bN (lC n))=mN n by unfold bN;erw [aw];rfl]at cI;exact iK (bA (cA rfl rfl (ky _ [.lst (bN (lC n)),.lst (bN (rm n))] 0 ∅ rfl)) rfl) cI
 let ⟨j,un,op,e⟩:=RO (l:=l) (n:=n) (rs:=rs) (y:=y) (x:=x) (cK (mN n)) [] ac ac ac (gh _);refine⟨j,un,op,?_⟩;unfold xD;exact(jZ hit).trans e
noncomputable def HP (p:Nat):List (List Nat):=[[],[[92,40]],[[92,41]],[],[[34],[41],[34]],[[92,34]],[[92,92]]].getD p []
def ix (h:c≠34) (hr:Rp [34,a,34] l r):Rp [34,a,34] (c::l) (c::r):=
 .skip (λe=>h (i5.mp e).1.symm) hr
def Ax (h:¬ [a,34]<+:l) (hr:Rp [34,a,34] l r):Rp [34,a,34] (34::l) (34::r):=
 .skip (λe=>h (i5.mp e).2) hr
def RP (l:Nz):Prop:=¬ [40,34]<+:l/\¬ [41,34]<+:l
def Ay (h:a≠c):¬ [a,b]<+:c::l:=λe=>h (i5.mp e).1
def uK (h:p<7) (hs:RP l) (hr:Rp [34,40,34] l r):Rp [34,40,34] ((gI p).flatten++l) ((HP p).flatten++r):=by
 refine Vc h ?_ ?_ ?_ ?_ ?_ ?_ ?_
 ·exact hr
 ·exact ix ∅ (ix ∅ hr)
 ·exact ix ∅ (ix ∅ hr)
 ·exact Rp.hit (p:=[34,40,34]) hr
 ·exact Ax (Ay ∅) (ix ∅ (Ax hs.1 hr))
 ·exact ix ∅ (Ax hs.1 hr)
 ·exact ix ∅ (ix ∅ hr)
def DY (h:p<7) (hs:RP l) (hr:Rp [34,41,34] l r):Rp [34,41,34] ((HP p).flatten++l) ((x5 p).flatten++r):=by
 refine Vc h ?_ ?_ ?_ ?_ ?_ ?_ ?_
 ·exact hr
 ·exact ix ∅ (ix ∅ hr)
 ·exact ix ∅ (ix ∅ hr)
 ·exact hr
 ·exact Rp.hit (p:=[34,41,34]) hr
 ·exact ix ∅ (Ax hs.2 hr)
 ·exact ix ∅ (ix ∅ hr)
def yK (pc:Nat->List (List Nat)) (c:Nat) (l:Nz):(qL pc c).flatten++l=if c<6 then 40::(97+c)::((pc c).flatten++l) else(65+(c- 6))::41::l:=by unfold qL;split<;>simp
def RQ (pc:Nat->List (List Nat)) (c:Nat) (l:Nz):RP ((qL pc c).flatten++l):=by
 rw[yK];split
 ·exact⟨λe=>by have:=(i5.mp (i5.mp e).2).1;exact aep this,Ay ∅⟩
 ·exact⟨Ay (aer),Ay (aes)⟩
theorem sa (hp:∀(c:Nat) (l r:Nz),RP l->Rp [34,a,34] l r->Rp [34,a,34] ((U c).flatten++l) ((V c).flatten++r)) (ha:a≠34):∀cs:List Nat,RP (cs.flatMap (qL U)).flatten/\Rp [34,a,34] (cs.flatMap (qL U)).flatten (cs.flatMap (qL V)).flatten
 | []=>⟨⟨λe=>by have:=e.length_le;simp at this,λe=>by have:=e.length_le;simp at this⟩,.nil⟩
 |c::cs=>by
  let ⟨h1,h2⟩:=sa hp ha cs;rw[bJ,bJ,dz,dz];refine⟨RQ _ _ _,?_⟩;rw[yK,yK];split
  ·exact ix ∅ (ix (aet) (hp c _ _ h1 h2))
  ·exact ix (aeu) (ix ∅ h2)
def DZ (n:NN):List Nat:=((toks n).flatMap (jv n)).flatten
def Vh (n:NN):iM (iM (T (iA n)) "\"(\"" "") "\")\"" "" =T (DZ n):=by rw[show ah "\"(\"" =T [34,40,34] from rfl,show ah "\")\"" =T [34,41,34] from rfl];erw [show iA n=((toks n).flatMap (qL λx=>gI (dP (n x)))).flatten from rfl,vV ∅ ((sa (U:=λx=>gI (dP (n x))) (V:=λx=>HP (dP (n x))) (λc l r hs hr=>uK (n8 _) hs hr) ∅ (toks n)).2),vV ∅ ((sa (U:=λx=>HP (dP (n x))) (V:=λx=>x5 (dP (n x))) (λc l r hs hr=>DY (n8 _) hs hr) ∅ (toks n)).2)];rfl
def JX (h:Rp p l r): ↑r<= ↑l:=by
 induction h with
 |nil=>exact ab _
 |hit h ih=>rw[aj];exact aA ih (gR ..)
 |skip _ h ih=>rw[az,az];exact fQ ‹_›
def o8 (n:NN): ↑(iA n)<=60:=by unfold iA;exact aev ((uI n (toks n) λc hc=>gm.mp hc).2.2) (rp n)
def NX (n:NN): ↑(DZ n)<=60:=by exact aA (JX (sa (U:=λx=>HP (dP (n x))) (V:=λx=>x5 (dP (n x))) (λc l r hs hr=>DY (n8 _) hs hr) ∅ (toks n)).2) (aA (JX (sa (U:=λx=>gI (dP (n x))) (V:=λx=>HP (dP (n x))) (λc l r hs hr=>uK (n8 _) hs hr) ∅ (toks n)).2) (o8 n))
abbrev Cb (n:NN):PV:= .str (T (DZ n++[34,40]))
abbrev OJ (l:List Int) (n:NN) (rs:SS) (y x j un op:OV):St:=Fz l n rs [.list (jw n),.list (jw n),.list (mD ((toks n).flatMap (unitsOf n)))] y x j ac (text:= ~~~(.str (T (iA n)))) (unit:=un) (opening:=op) (bare:= ~~~(Cb n))
def Vi {st:St} (h1:(f st).bind CV.aS=aa x) (h2:(g st).bind CV.aP=aa z) (h3: ↑x<=1048576) (h4:(iM x q "").length<=1048576) (h5:AZ .Add (.str (iM (iM x q "") q' "")) z=aa d):LQ i f q q' g st=aa (.next,ie i (.pv d) st):=by unfold LQ;rw[h1];show Option.bind ((g st).bind CV.aP) _=_;rw[h2];show(if _ then _ else ac)=_;rw[if_pos ⟨h3,h4⟩,h5];rfl
def Y4 (l:List Int) (n:NN) (rs:SS) (y x j un op:OV):BH (NV l n rs ((toks n).flatMap (unitsOf n)) y x j un op)=aa (.next,OJ l n rs y x j un op):=by
 have h2:(iM (T (iA n)) "\"(\"" "").length<=60:=by erw [show ah "\"(\"" =T [34,40,34] from rfl,show iA n=((toks n).flatMap (qL λx=>gI (dP (n x)))).flatten from rfl,vV ∅ (sa (U:=λx=>gI (dP (n x))) (V:=λx=>HP (dP (n x))) (λc l r hs hr=>uK (n8 _) hs hr) ∅ (toks n)).2,gG];exact aA (JX (sa (U:=λx=>gI (dP (n x))) (V:=λx=>HP (dP (n x))) (λc l r hs hr=>uK (n8 _) hs hr) ∅ (toks n)).2) (o8 n)
 have ha:AZ .Add (.str (T (DZ n))) (.str "\"(")=aa (Cb n):=by erw [show ah "\"(" =T [34,40] from rfl];show(if ↑(T (DZ n))+ ↑(T [34,40])<=sizeLine then aa (PV.str (T (DZ n)++T [34,40])) else ac)=_;erw [gG,gG,DS,if_pos (by erw [(by decide:sizeLine=2 ^ 24)];simp;exact aew (NX n))]
 exact(Vi rfl rfl (by erw [gG];exact WK (o8 n)) (WK h2) (by rw[Vh];exact ha)).trans rfl
def Cc (n:NN):Good ((toks n).flatMap (unitsOf n)):=by have:=Aw (n:=n) (P:=toks n) (Q:=[]) (by simp) (r:=[]) (λu hu=>absurd hu gw) ∅ ∅;rwa [bu]at this
def Mh (i:Int) (s:Str):PV.Ez 3 (.tup [.int i,.str s]) (.tup [.int i,.str s])=aa true:=LX 2 λx hx=>by
 rcases aH.mp hx with rfl|hx
 ·exact LW 1 i
 ·exact(aB.mp hx)▸(uB 1 s)
def ne_str (st:St) (x:Str):sY st .NotEq (.pv (.str x)) (.pv (.str x))=aa false:=by show aa (x !=x)=_;rw[bne_self_eq_false]
def zA (h:f st=aa false):Gy f g st=g st:=by unfold Gy;rw[h];rfl
def RR (h:f st= ~~~(.str (T a))) (ha:∀c∈a,c<128):zR f st=aa ((iY 0 false a).map lR):=by unfold zR;rw[h];show(if (T a).cps.all (· <128)=true then aa ((iY 0 false (T a).cps.toList).map lR) else ac)=_;rw[if_pos,qK];rw[y8];intro c hc;exact decide_eq_true (ha c ((qK a)▸(XO.mp hc)))
def Vj (k:Nat):iY k false [92]=[(k,Ad)]:=by rw[ER,Ri,decide_eq_true rfl,if_pos rfl];show [(k+1- 1,Ad)]=_;rw[Nat.add_sub_cancel]
def RS (hu:∀u∈us,JK u):(iY 0 false (us.flatten++[92])).map lR=mD us++[.tup [.int (↑us.flatten:Nat),.str "\\"]]:=by unfold mD;rw[B3 us 0 [92] hu,bI,qk,Vj];rfl
def Y5 (l:List Int) (n:NN) (rs:SS) (y x j un op:OV):xE (OJ l n rs y x j un op)=aa (.next,OJ l n rs y x j un op):=by
 have hg:=Cc n;have htl:=o8 n;have het:(iY 0 false (iA n++[92])).map lR=mD ((toks n).flatMap (unitsOf n))++[.tup [.int (↑(iA n):Nat),.str "\\"]]:=RS hg.unit;have hca:∀c∈iA n++[92],c<128:=λc hc=>by
  rcases cb.mp hc with hc|hc
  ·exact hg.cps c hc
  ·erw [aB.mp hc];decide
 have hxl: ↑((iY 0 false (iA n++[92])).map lR)<50000:=by erw [het,aj,uJ];have:=hg.count;show _+1<_;exact aex this
 have h1:eh DH (zR (ba .Add (ak 4) ↥"\\")) (dM (bf 0) fF (gN (ak 0))) (OJ l n rs y x j un op)= ~~~(.lst (mD ((toks n).flatMap (unitsOf n))++[.tup [.int (↑(iA n):Nat),.str "\\"]])):=by
  have hs:ba .Add (ak 4) ↥"\\" (OJ l n rs y x j un op)= ~~~(.str (T (iA n++[92]))):=dq rfl rfl (by
   erw [<- DS];exact kj _ (T (iA n)) (T [92]) (by erw [gG,gG];simp;exact aey htl))
  erw [lh (λst=>∃a,st=⟨[a],[],(OJ l n rs y x j un op).ob⟩) (λz=>true) (λx=>x) (RR hs hca) hxl ⟨ac,rfl⟩ ?_]
  ·erw [bM.mpr (λz z=>rfl),sQ,het]
  ·rintro v _ st ⟨a,rfl⟩;exact⟨⟨[~~~v],[],(OJ l n rs y x j un op).ob⟩,rfl,rfl,⟨_,rfl⟩,λz=>rfl⟩
 have h2:ba .Add (ak 5) (kb (au (jc (au (dJ kq (au (ak 4) aZ)) (au ↥"\\" aZ))) aZ)) (OJ l n rs y x j un op)= ~~~(.lst (mD ((toks n).flatMap (unitsOf n))++[.tup [.int (↑(iA n):Nat),.str "\\"]])):=by have cI:=B5 (OJ l n rs y x j un op) (T (iA n)) (by erw [gG];exact WL htl);erw [gG]at cI;have:=hg.count;exact dq (a:= .ob 5) rfl (rW (bA (qt (bA (iK (bA rfl rfl) cI) (bA rfl rfl)) rfl (by simp)) rfl) rfl (by simp)) (RK _ rfl rfl (λx h=>by cases h) (by erw [uJ];show _+1<=_;exact aez this))
 have h3:kh dU (au (ba .Add (ak 4) ↥"\"(") aZ) (OJ l n rs y x j un op)= ~~~(Cb n):=by
  have Z0:=Aw (n:=n) (P:=toks n) (Q:=[]) (by simp) (r:=[[34],[40]]) (λu hu=>by
   rcases aH.mp hu with rfl|hu
   ·exact⟨.inl ⟨34,by decide,rfl⟩,by decide⟩
   ·exact(aB.mp hu)▸(⟨.inl ⟨40,by decide,rfl⟩,by decide⟩)) ∅ ∅
  have hs:ba .Add (ak 4) ↥"\"(" (OJ l n rs y x j un op)= ~~~(.str (T ((toks n).flatMap (unitsOf n)++[[34],[40]]).flatten)):=dq rfl rfl (by
   erw [dz,<- DS];exact kj _ (T (iA n)) (T [34,40]) (by erw [gG,gG];simp;exact aeA htl))
  refine mZ (bA hs rfl) rfl ?_;erw [B6 Z0.unit Z0.cps Z0.size Z0.count,uH,dz];rfl
 unfold xE;erw [jY]
 ·rfl
 ·erw [zA (fU h1 h2 (vQ _ (lH λv hv=> ?_))),zA (fU h3 rfl (ne_str _ _))]
  ·rfl
  ·rcases cb.mp hv with hv|hv
   ·let ⟨q,_,rfl⟩:=aQ.mp hv;exact Mh _ _
   ·erw [aB.mp hv];exact Mh _ _
noncomputable def Vk (n:NN):Nat:=((cK 6).map n).sum
def Y6 (st:St) (n:NN):MW st [.pv (.lst (ig λk=>(n k:Int)))]= ~~~(.int (Vk n:Nat)):=by show(aa (ig λk=>(n k:Int))).bind (λl=>(jQ l).map λns=>CV.pv (.int ns.sum))=_;rw[bK,(by unfold ig;rw[bD];rfl:ig (λk=>(n k:Int))=((cK 6).map λk=>(n k:Int)).map PV.int),pj];show aa (CV.pv (.int ((cK 6).map λk=>(n k:Int)).sum))=_;refine congrArg (λz=>aa (CV.pv (.int z))) ?_;unfold Vk;simp[lV]
abbrev Cd (n h:NN):PV:= .oQ ((zx n).map λy=>(nm y,.int (h y:Nat)))
structure tS (n h:NN) (de f:Nat):Prop where
 hue:NI n h
 f6:f<6
 fd: ↑(vq n f)+1=de
 all:∀x,x<6-> ↑(vq n x)+1<=de
abbrev qd (l:List Int) (n:NN) (h:NN) (de f:Nat) (rs:SS) (y x j un op wd:OV):St:=Fz l n rs [.list (jw n),.list (jw n),.list (mD ((toks n).flatMap (unitsOf n)))] y x j (~~~(Cd n h)) (text:= ~~~(.str (T (iA n)))) (unit:=un) (opening:=op) (bare:= ~~~(Cb n)) (A4:= ~~~(.int (de:Nat))) (first:= ~~~(.str (nm f))) (wide:=wd)
def Y7 (l:List Int) (n:NN) (hn:∀k,n k<=61000000) (rs:SS) (y x j un op:OV):∃h de f,tS n h de f/\xF (OJ l n rs y x j un op)=aa (.next,qd l n h de f rs y x j un op ac):=by
 have hm:Vk n<500000000:=by have h1:=hn 1;have h2:=hn 2;have h3:=hn 3;have h4:=hn 4;have h5:=hn 5;unfold Vk;simp[lV];exact aeB (hn 0) h1 h2 h3 h4 h5
 left;let ⟨h,de,f,h1,h2,h3,h4,h5⟩:=Vg (n:=n) hm;right;refine⟨h,de,f,⟨h1,h2,h3,h4⟩,?_⟩;unfold xF bZ;rw[mZ (bA rfl (bA (iK (bA rfl rfl) (Y6 _ n)) rfl)) rfl h5];rfl
def Y8 (l:List Int) (n:NN) (h:NN) (de f:Nat) (rs:SS) (y x j un op:OV):BI (qd l n h de f rs y x j un op ac)=aa (.next,qd l n h de f rs y x j un op (~~~(.lst [.lst []]))):=rfl
def JY (x:Str) (l:List Str):anyStr x (l.map PV.str)=aa (l.any λy=>y==x):=by
 induction l with
 |nil=>rfl
 |cons y l ih=>show(anyStr x (l.map PV.str)).map ((y==x)|| ·)=_;rw[ih];rfl
def Vl (h:nm a++nm b=nm i++nm j):a=i/\b=j:=by have:=congrArg (λs:Str=>s.cps.toList) h;have e: [97+a,97+b]=[97+i,97+j]:=this;simp at e;exact e
def HQ (hi:i<6) (hj:j<6):anyStr (nm i++nm j) ((jT n).map PV.str)=aa (rel n i j):=by
 rw[JY];refine congrArg aa ?_;rw[dr,AJ];unfold jT;constructor
 ·rintro⟨s,hs,e⟩;rw[beq_iff_eq]at e;subst e;let ⟨a,_,hs⟩:=iP.mp hs;let ⟨b,hb,e⟩:=aQ.mp hs;let ⟨rfl,rfl⟩:=Vl e;exact(aY.mp hb).2
 ·intro h;exact⟨_,iP.mpr ⟨i,fZ.mpr hi,aQ.mpr ⟨j,aY.mpr ⟨fZ.mpr hj,h⟩,rfl⟩⟩,beq_self_eq_true _⟩
def o9 (hi:i<6) (hj:j<6) (h1:f st= ~~~(.str (nm i))) (h2:g st= ~~~(.str (nm j))) (h3:h st= ~~~(g4 n)):
  bY .In (ba .Add f g) h st=aa (rel n i j)/\bY .NotIn (ba .Add f g) h st=aa (!rel n i j):=by
 have e:=dq h1 h2 (kj st (nm i) (nm j) (by rw[jS,jS];decide));refine⟨fU e h3 (yF (HQ hi hj)),fU e h3 (yF ?_)⟩;show(anyStr (nm i++nm j) ((jT n).map PV.str)).map (!·)=_;rw[HQ hi hj];rfl
def JZ (l:List PV):iI l []=aa l.isEmpty:=by
 unfold iI;induction l with
 |nil=>rfl
 |cons a l=>rw[if_neg (by simp)];rfl
def C1 (A:Nz):List PV:=A.map λi=> .str (nm i)
def kU (W:LN):PV:= .lst (W.map λA=> .lst (C1 A))
def D0 (n:NN) (W:LN) (x:Nat): ↑(qv n W x)<=2* ↑W:=by unfold qv;have:=eX (λA=>A.all λy=> !(rel n x y||rel n y x)) W;rw[aj,aw];exact aeC this
def RT (h1:f st=aa a) (h2:g st=aa b):Gy f g st=aa (a||b):=by
 unfold Gy;rw[h1];cases a
 ·exact h2
 ·rfl
abbrev RU:St->Option CV:=eh DI (jA (ak 0)) (dM (bf 0) (Gy (bY .In (ba .Add (aX 0) (ak 0)) (aX 1)) (Gy (bY .In (ba .Add (ak 0) (aX 0)) (aX 1)) vD)) (gN (ak 0)))
def uS (n:NN) (x y:Nat):Bool:=rel n x y||rel n y x
def Y9 (hx:x<6) (hA:∀y∈A,y<6) (hl: ↑A<=6):RU ⟨[~~~(.lst (C1 A))],[~~~(.str (nm x)),~~~(g4 n)],ob⟩= ~~~(.lst (C1 (A.filter λy=>uS n x y))):=by
 unfold RU;erw [lh (λst=>∃a,st=⟨[a],[~~~(.str (nm x)),~~~(g4 n)],ob⟩) (λv=>uS n x (i4 v)) (λv=>v) (x7 rfl) (by unfold C1;rw[aw];lia) ⟨ac,rfl⟩ ?_]
 ·unfold C1;rw[sQ,dF];rw[(by funext k;show uS n x (i4 (.str (nm k)))=_;rw[fV]:(λv=>uS n x (i4 v)) ∘ (λi=>PV.str (nm i))=λy=>uS n x y)]
 ·rintro v hv st ⟨a,rfl⟩;left;let ⟨y,hy,rfl⟩:=aQ.mp hv;right;refine⟨⟨[~~~(.str (nm y))],[~~~(.str (nm x)),~~~(g4 n)],ob⟩,rfl,?_,⟨_,rfl⟩,λq=>rfl⟩;rw[fV];rw[RT (o9 (n:=n) hx (hA y hy) rfl rfl rfl).1 (RT (o9 (n:=n) (hA y hy) hx rfl rfl rfl).1 rfl),Bool.or_false];rfl
abbrev FA:St->Option CV:=eh yC (jA (ak 11)) (dM (bf 0) (bY .Eq RU (kb aZ)) (gN (ba .Add (ak 0) (kb (au (aX 0) aZ)))))
def Vm (hx:x<6) (hW:∀A∈W,(∀y∈A,y<6)/\ ↑A<=6) (hl: ↑W<=64) (h1:yC.st st=⟨[ac],[~~~(.str (nm x)),~~~(g4 n)],st.ob⟩) (h2:ak 11 st= ~~~(kU W)):
  ba .Add (ak 11) FA st= ~~~(kU (qv n W x)):=by
 have hg:FA st= ~~~(.lst ((W.filter λA=>A.all λy=> !(rel n x y||rel n y x)).map λA=> .lst (C1 (A++[x])))):=by
  unfold FA;erw [lh (λcf=>∃a,cf=⟨[a],[~~~(.str (nm x)),~~~(g4 n)],st.ob⟩) (λv=>match v with| .lst l=>(l.filter λy=>uS n x (i4 y)).isEmpty|_=>false) (λv=>match v with| .lst l=> .lst (l++[.str (nm x)])|_=>v) (x7 h2) (by rw[aw];exact WM hl) (h1▸⟨ac,rfl⟩) ?_]
  ·rw[dF,bD];have e:∀A:List Nat,((C1 A).filter λy=>uS n x (i4 y)).isEmpty=A.all λy=> !(rel n x y||rel n y x):=λA=>by
    unfold C1;rw[dF,List.isEmpty_map];have e:(λv=>uS n x (i4 v)) ∘ (λi=>PV.str (nm i))=λy=>uS n x y:=by funext k;show uS n x (i4 (.str (nm k)))=_;rw[fV]
    rw[e];rw[dr,TL,cL,fH];simp[uS]
   rw[(funext e:((λv:PV=>match v with| .lst l=>(l.filter λy=>uS n x (i4 y)).isEmpty|_=>false) ∘ λA=>PV.lst (C1 A))=λA=>A.all λy=> !(rel n x y||rel n y x))];have e3:((λv:PV=>match v with| .lst l=>PV.lst (l++[.str (nm x)])|_=>v) ∘ λA=>PV.lst (C1 A))=λA=>PV.lst (C1 (A++[x])):=by funext A;show PV.lst (C1 A++[.str (nm x)])=_;unfold C1;rw[bI];rfl
   rw[e3]
  ·rintro v hv cf ⟨a,rfl⟩;obtain(⟨A,hA,rfl⟩):=aQ.mp hv;obtain(⟨h6,hA6⟩):=hW A hA;refine⟨⟨[~~~(.lst (C1 A))],[~~~(.str (nm x)),~~~(g4 n)],st.ob⟩,rfl,?_,⟨_,rfl⟩,λq=> ?_⟩
   ·refine fU (Y9 hx h6 hA6) rfl (yF ?_);show iI _ []=_;rw[JZ];unfold C1;show _=aa ((A.map λi=>PV.str (nm i)).filter λy=>uS n x (i4 y)).isEmpty;rw[dF];rw[(by funext k;show uS n x (i4 (.str (nm k)))=_;rw[fV]:(λv=>uS n x (i4 v)) ∘ (λi=>PV.str (nm i))=λy=>uS n x y)]
   ·exact dq rfl (rW (bA rfl rfl) rfl (by simp)) (tR _ _ _ (by unfold C1;rw[aw];show _+1<=_;exact WN hA6))
 rw[dq h2 hg (tR _ _ _ (by rw[aw,aw];exact aeD hl (eX (λA=>A.all λy=> !(rel n x y||rel n y x)) W)))];unfold kU qv;rw[bI,bD];rfl
def NY (R:Nz):∀(P:Nz) (W:LN) (x:OV),P++R=L6-> ↑W<=2 ^ ↑P->(∀A∈W,(∀y∈A,y<6)/\ ↑A<= ↑P)->
  ∃x',lP (jL 15) (aC (bZ (ba .Add (ak 11) FA) (bf 11)) br) (R.map λi=> .str (nm i)) (qd l n h de f rs y x j un op (~~~(kU W)))=aa (.next,qd l n h de f rs y x' j un op (~~~(kU (R.foldl (qv n) W)))):=by
 induction R with
 |nil=>intro P W x _ _ _;exact⟨x,rfl⟩
 |cons i R ih=>
  intro P W x hp hl hW;have hi:i<6:=fZ.mp (hp▸(dQ _ ay));have hP: ↑P<6:=by have:=congrArg eW hp;rw[aj,az]at this;exact aeE this rfl
  let ⟨x',e⟩:=ih (P++[i]) (qv n W i) (~~~(.str (nm i))) (by rw[<- hp];simp) (by
   have:=D0 n W i;rw[aj,be,Nat.pow_succ];exact aeF this hl) (λA hA=>by
   rw[aj,be];rcases cb.mp hA with hA|hA
   ·exact⟨(hW A hA).1,by have:=(hW A hA).2;exact aeG this⟩
   ·let ⟨B,hB,rfl⟩:=aQ.mp hA;have hB:=hW B (aY.mp hB).1;refine⟨λz hz=> ?_,by rw[aj,be];exact Cu hB.2⟩;rcases cb.mp hz with hz|hz
    ·exact hB.1 z hz
    ·exact(aB.mp hz)▸hi)
  refine⟨x',?_⟩;erw [bx,iD (st1:=qd l n h de f rs y (~~~(.str (nm i))) j un op (~~~(kU W))) (st2:=qd l n h de f rs y (~~~(.str (nm i))) j un op (~~~(kU (qv n W i)))) rfl ?_,e]
  ·rfl
  ·refine dw ?_;unfold bZ;rw[Vm (n:=n) (x:=i) (W:=W) hi (λA hA=>⟨(hW A hA).1,by have:=(hW A hA).2;exact aeH this hP⟩) (aeI hl (Nat.pow_le_pow_right ∅ (ach hP))) rfl rfl];rfl
def Za (l:List Int) (n h:NN) (de f:Nat) (rs:SS) (y x j un op:OV):∃x',BJ (qd l n h de f rs y x j un op (~~~(.lst [.lst []])))=aa (.next,qd l n h de f rs y x' j un op (~~~(kU (nz n)))):=by let ⟨x',e⟩:=NY (l:=l) (n:=n) (h:=h) (de:=de) (f:=f) (rs:=rs) (y:=y) (j:=j) (un:=un) (op:=op) L6 [] [[]] x (gh _) ∅ (λA hA=>by exact(aB.mp hA).symm▸(⟨λz hz=>absurd hz gw,ab _⟩));exact⟨x',(jZ (qJ _ (λk=>cF (n k)) rfl)).trans e⟩
def Mi (h1:M∈ns) (h2:∀a∈ns,a<=M):MX ns=aa M:=by
 induction ns with
 |nil=>cases h1
 |cons a r=>
  show aa (r.foldl max a)=aa M;let ⟨p,q,s⟩:=ta r a;refine congrArg aa (uQ ?_ ?_)
  ·rcases p with p|p
   ·exact(p).symm▸(h2 a ay)
   ·exact h2 _ (aK _ p)
  ·rcases aH.mp h1 with rfl|h1
   ·exact q
   ·exact s _ h1
def yL:x∈zx n↔x<6:=by
 unfold zx;rw[aQ];constructor
 ·rintro⟨c,hc,rfl⟩;rw[aY,gm]at hc;exact Nat.sub_lt_left_of_lt_add (of_decide_eq_true hc.2) hc.1
 ·intro h;exact⟨6+x,aY.mpr ⟨gm.mpr (aeJ h),decide_eq_true (aeK)⟩,by exact Lc⟩
def HR (h:f st= ~~~(.oQ l)):pz f st=(jQ (l.map (·.2))).bind λns=>(MX ns).map λm=>CV.pv (.int m):=by unfold pz;rw[h];rfl
def RV (h1:st.oB a=aa l) (h2:st.oB b=aa m) (ha:a.aP=ac) (h:iI l m=aa r):sY st .Eq a b=aa r:=by show(a.aP.bind _).or (afs .Eq ((st.oB a).bind λl=>(st.oB b).bind (iI l)))=_;rw[ha,h1,h2];exact h
def RW (H:tS n h de f) (hg:g st= ~~~(Cd n h)):pz g st= ~~~(.int ((de:Int)- 1)):=by
 left;let ⟨h1,x,hx,h2⟩:=H.hue.max H.f6 H.all H.fd;right;erw [HR (l:=(zx n).map λy=>(nm y,PV.int (h y:Nat))) hg,(by erw [bD,bD];rfl:((zx n).map λy=>(nm y,PV.int (h y:Nat))).map (·.2)=((zx n).map λy=>(h y:Int)).map PV.int),pj,bK,Mi (M:=(de:Int)- 1)]
 ·rfl
 ·exact aQ.mpr ⟨x,yL.mpr hx,by exact aeL h2⟩
 ·intro a ha;let ⟨y,hy,rfl⟩:=aQ.mp ha;have:=h1 y (yL.mp hy);exact aeM this
def zB (u:Nz):Bool:=eR "abcdef" (T u)
def J0 (us:LN):∀(i:Nat),((((mo i us).map lR).filter λv=>match v with| .tup [_,.str s]=>eR "abcdef" s|_=>false).map λv=>match v with| .tup [_,.str s]=>PV.str s|v=>v)=(us.filter zB).map λu=> .str (T u):=by
 induction us with
 |nil=>intro _;exact rfl
 |cons u us ih=>
  intro i;rw[mo,bx,bl,bl];have ih:=ih (i+ ↑u);show List.map _ (if zB u=true then _ else _)=_;split
  ·rw[bx,ih];rfl
  ·exact ih
def NZ (h:p<7):(gI p).filter zB=[]:=by refine Vc h ?_ ?_ ?_ ?_ ?_ ?_ ?_<;>decide+kernel
def N0 (hc:c<12):(unitsOf n c).filter zB=if c<6 then [[97+c]] else []:=by
 unfold unitsOf qL;split
 ·rename_i h;rw[bl,if_neg (by decide+kernel),bl,if_pos (show zB [97+c]=true from(B8 h).1),NZ (n8 _)]
 ·rename_i h;rw[bl,if_neg (by rw[show zB [65+(c- 6)]=false from(B8 (show c- 6<6 by exact Ws hc)).2.1];decide),bl,if_neg (by decide+kernel)];rfl
def RX (n:NN):((toks n).flatMap (unitsOf n)).filter zB=(HA n).map λx=>[97+x]:=by
 have key:∀cs:List Nat,(∀c∈cs,c<12)->(cs.flatMap (unitsOf n)).filter zB=(cs.filter λc=>decide (c<6)).map λx=>[97+x]:=by
  intro cs;induction cs with
  |nil=>exact λq=>rfl
  |cons c cs ih=>
   intro h;erw [bJ,bT,N0 (h c ay),ih λc hc=>h c (aK _ hc),bl];by_cases hc:c<6
   ·erw [if_pos hc,if_pos (decide_eq_true hc)];rfl
   ·erw [if_neg hc,if_neg (by simpa using hc)];rfl
 erw [key _ λc hc=>gm.mp hc];refine congrArg _ ?_;unfold toks HA U7;erw [lw];refine eQ λj q=> ?_;erw [List.filter_filter,show cK 12=L6++L6.map (6+ ·) by decide,bT,dF];erw [cL (l:=L6) (p:=_ ∘ _)|>.mpr λc q=>by simp;intro h;exact aeN h,zL,bu];exact io λc hc=>by erw [decide_eq_true (fZ.mp hc),Bool.true_and]
def HS:eh yD (GI (ak 5)) (dM (pX (eS (bf 0) (eS (bf 1) pW))) (bY .In (ak 1) ↥"abcdef") (gN (ak 1))) (qd l n h de f rs y x j un op wd)= ~~~(.lst (jw n)):=by
 erw [lh (λst=>∃a b,st=⟨[a,b],[],(qd l n h de f rs y x j un op wd).ob⟩) (λv=>match v with| .tup [_,.str s]=>eR "abcdef" s|_=>false) (λv=>match v with| .tup [_,.str s]=>PV.str s|v=>v) (rfl:GI (ak 5) (qd l n h de f rs y x j un op wd)=aa (mD ((toks n).flatMap (unitsOf n)))) (by erw [uJ];have:=(Cc n).count;exact aeO this) ⟨ac,ac,rfl⟩ ?_]
 ·unfold mD;erw [J0,RX,bD];rfl
 ·rintro v hv st ⟨a,b,rfl⟩;let ⟨q,_,rfl⟩:=aQ.mp hv;exact⟨⟨[~~~(.int q.1),~~~(.str q.2)],[],(qd l n h de f rs y x j un op wd).ob⟩,rfl,rfl,⟨_,_,rfl⟩,λz=>rfl⟩
def zC (n:NN):iI (jw n) (jw n)=aa true:=lH λv hv=>by let ⟨i,_,rfl⟩:=aQ.mp hv;exact uB 2 _
def D1 (h1:f st=aa a) (h2:g st=aa b) (h3:h st=aa d) (h4:sY st o1 a b=aa p) (h5:sY st o2 b d=aa q):vE o1 o2 f g h st=aa (p&&q):=by unfold vE;rw[h1,h2,h3];show(sY st o1 a b).bind _=_;rw[h4];show(sY st o2 b d).map _=_;rw[h5];rfl
def FC (h:f st=aa a):yp f st=aa (!a):=by unfold yp;rw[h];rfl
def Vn (H:tS n h de f) (hw:ak 11 st= ~~~(kU (nz n))) (sJ:rj.st st=⟨[ac],[],st.ob⟩) (hwl: ↑(nz n)<50000):
  dJ EG (au (eh rj (jA (ak 11)) (dM (bf 0) fF (gN (dJ kq (au (ak 0) aZ))))) aZ) st= ~~~(.int (de:Nat)):=by
 left;let ⟨h1,A,hA,h2⟩:=HC H.f6 H.all H.fd;right;have hc:eh rj (jA (ak 11)) (dM (bf 0) fF (gN (dJ kq (au (ak 0) aZ)))) st= ~~~(.lst (((nz n).map λA=>(↑A:Int)).map PV.int)):=by
  erw [lh (λcf=>∃a,cf=⟨[a],[],st.ob⟩) (λq=>true) (λv=>match v with| .lst l=> .int (↑l:Nat)|v=>v) (x7 hw) (by rw[aw];exact hwl) (sJ▸⟨ac,rfl⟩) ?_]
  ·rw[bM.mpr λq q=>rfl,bD,bD];have e:((λv:PV=>match v with| .lst l=>PV.int (↑l:Nat)|v=>v) ∘ λA=>PV.lst (C1 A))=PV.int ∘ λA=>(↑A:Int):=by funext A;show PV.int (↑(C1 A):Nat)=_;unfold C1;rw[aw];rfl
   rw[e]
  ·rintro v hv cf ⟨a,rfl⟩;let ⟨A,hA,rfl⟩:=aQ.mp hv;have:=h1 A hA;exact⟨⟨[~~~(.lst (C1 A))],[],st.ob⟩,rfl,rfl,⟨_,rfl⟩,λq=>iK (bA rfl rfl) (tP _ _ (by unfold C1;rw[aw];exact Dm ((((Av n).1 A hA).1.length_le))))⟩
 refine iK (bA hc rfl) ?_;show(aa (((nz n).map λA=>(↑A:Int)).map PV.int)).bind (λl=>(jQ l).bind λns=>(MX ns).map λm=>CV.pv (.int m))=_;rw[bK,pj,bK,Mi (M:=(de:Int))]
 ·rfl
 ·exact aQ.mpr ⟨A,hA,by rw[h2]⟩
 ·intro a ha;let ⟨B,hB,rfl⟩:=aQ.mp ha;have:=h1 B hB;exact AN this
def N1 (n:NN): ↑(nz n)<=64:=by
 have key:∀(R:Nz) (W:LN),↑(R.foldl (qv n) W)<=2 ^ ↑R* ↑W:=by
  intro R;induction R with
  |nil=>intro W;simp
  |cons i R ih=>intro W;rw[jg,az,Nat.pow_succ,Nat.mul_assoc];exact aA (ih (qv n W i)) (pQ (2 ^ ↑R) (D0 n W i))
 exact key L6 [[]]
def Zb (l:List Int) (n h:NN) (de f:Nat) (H:tS n h de f) (rs:SS) (y x j un op:OV):xG (qd l n h de f rs y x j un op (~~~(kU (nz n))))=aa (.next,qd l n h de f rs y x j un op (~~~(kU (nz n)))):=by
 have h1:vE .Eq .Eq (ak 2) (ak 3) (eh yD (GI (ak 5)) (dM (pX (eS (bf 0) (eS (bf 1) pW))) (bY .In (ak 1) ↥"abcdef") (gN (ak 1)))) (qd l n h de f rs y x j un op (~~~(kU (nz n))))=aa true:=
  D1 (p:=true) (q:=true) (a:= .ob 3) (b:= .ob 4) rfl rfl HS (RV (a:= .ob 3) rfl rfl rfl (zC n)) (RV (a:= .ob 4) rfl rfl rfl (zC n))
 have h2:vE .Eq .Eq (ba .Add ⇑1 (pz (aX 1))) (ak 9) (dJ EG (au (eh rj (jA (ak 11)) (dM (bf 0) fF (gN (dJ kq (au (ak 0) aZ))))) aZ)) (qd l n h de f rs y x j un op (~~~(kU (nz n))))=aa true:=by
  have e:∀a:Int,sY (qd l n h de f rs y x j un op (~~~(kU (nz n)))) .Eq (.pv (.int a)) (.pv (.int a))=aa true:=λa=>by show aa (a==a)=_;erw [beq_self_eq_true]
  have h3:ba .Add ⇑1 (pz (aX 1)) (qd l n h de f rs y x j un op (~~~(kU (nz n))))= ~~~(.int (de:Nat)):=by erw [dq rfl (RW H rfl) (tK _ 1 _)];refine congrArg (λz=>aa (CV.pv (.int z))) ?_;exact aeP
  exact D1 (p:=true) (q:=true) h3 rfl (Vn H rfl rfl (by have:=N1 n;exact WM this)) (e _) (e _)
 unfold xG;erw [jY]
 ·rfl
 ·erw [zA (FC h1),zA (FC h2)];rfl
def RY (h:st.W0 o=aa l) (k:l.lookup x=aa d):nZ st o (.pv (.str x))=aa d:=by show(st.W0 o).bind _=_;rw[h];exact k
def D2 (st:St) (hx:x<6):nZ st (.pv (Cd n h)) (.pv (.str (nm x)))=aa (.int (h x:Nat)):=
 RY (l:=(zx n).map λy=>(nm y,PV.int (h y:Nat))) rfl (vP (F:=λy=>PV.int (h y:Nat)) (yL.mpr hx))
def Zc (l:List Int) (n h:NN) (de f:Nat) (H:tS n h de f) (rs:SS) (y x j un op wd:OV):xH (qd l n h de f rs y x j un op wd)=aa (.next,qd l n h de f rs y x j un op wd):=by
 let ob:=(qd l n h de f rs y x j un op wd).ob;let cv:List (Option CV):=[~~~(cq λk=>cF (n k)),~~~(g4 n),~~~(Cd n h)];have Sv:∀a b,a<6->b<6->(decide ((nm a).cps.toList< (nm b).cps.toList)&&((h a:Int)==(h b:Int)&&(!rel n a b&&(!rel n b a&&true))))=false:=by
  intro a b ha hb;by_cases e:a=b
  ·subst e;rw[decide_eq_false (List.lt_irrefl _)];rfl
  ·cases h1:rel n a b with
   |true=>simp
   |false=>
    cases h2:rel n b a with
    |true=>simp
    |false=>have:=H.hue.inc ha hb e ⟨h1,h2⟩;rw[show((h a:Int)==(h b:Int))=false from beq_false_of_ne (aeQ this)];simp
 unfold xH;rw[jY]
 ·rfl
 ·refine fU (a:= .pv (.lst [])) ?_ rfl (vQ _ rfl);erw [yH (λst=>∃a b,st=⟨[a,b],cv,ob⟩) (λq q=>false) (λi j=> .str (nm i++nm j)) (qJ _ (λk=>cF (n k)) rfl) ⟨ac,ac,rfl⟩ ?_]
  ·rfl
  ·rintro a ha st ⟨u,v,rfl⟩;refine⟨⟨[~~~(.str (nm a)),v],cv,ob⟩,rfl,rfl,⟨_,_,rfl⟩,qJ _ (λk=>cF (n k)) rfl,λst=>∃v,st=⟨[~~~(.str (nm a)),v],cv,ob⟩,⟨_,rfl⟩,λst ⟨v,h⟩=>⟨_,v,h⟩,?_⟩;rintro b hb st ⟨v,rfl⟩;refine⟨⟨[~~~(.str (nm a)),~~~(.str (nm b))],cv,ob⟩,rfl,?_,⟨_,rfl⟩,λe=>(by cases e)⟩;rw[<- Sv a b ha hb];exact rX rfl (rX (fU (cA (f:=aX 2) (g:=ak 0) rfl rfl (D2 _ ha)) (cA (f:=aX 2) (g:=ak 1) rfl rfl (D2 _ hb)) rfl) (rX (o9 (n:=n) ha hb rfl rfl rfl).2 (rX (o9 (n:=n) hb ha rfl rfl rfl).2 rfl)))
def J3 (a:Nz) (h:1<= ↑a):lj (T a) ac (aa (-1))=T (a.take (↑a- 1)):=by
 have e:lj (T a) ac (aa (-1))=lj (T a) ac (aa ((↑a- 1:Nat):Int)):=by
  unfold lj;have:nE ac (aa (-1)) 1 ↑(T a)=nE ac (aa ((↑a- 1:Nat):Int)) 1 ↑(T a):=by unfold nE;rw[gG];simp only[show(1:Int)>0 by decide,if_true,show((-1:Int)<0) by decide];rw[if_neg (nX.mpr (dN _)),sm h,ug (-1)];rfl
  rw[this]
 rw[e,Rk (jU _ _)]
def N2 (h2:d<=6):Txt.mul (T [41]) (d:Nat)=T (bR d 41):=Vc (fQ h2) rfl rfl rfl rfl rfl rfl rfl
def Ce (n:NN) (P:Nz):List Nat:=(P.flatMap (unitsOf n)).flatten++[40]
def fB (n:NN) (P:Nz) (d:Nat):List Nat:=Ce n P++bR d 41
def Cf (ht:toks n=P++f::Q) (hf:f<6):∃r,iA n=Ce n P++(97+f)::r:=by refine⟨(gI (dP (n f))).flatten++(Q.flatMap (unitsOf n)).flatten,?_⟩;unfold iA Ce;rw[ht,iC,bJ,dz,dz,show unitsOf n f=[40]::[97+f]::gI (dP (n f)) by unfold unitsOf qL;rw[if_pos hf]];simp
def J5 (h:p<7):∀c∈(gI p).flatten,c<97:=by refine Vc h ?_ ?_ ?_ ?_ ?_ ?_ ?_<;>decide
def RZ (ht:toks n=P++f::Q) (hf:f<6):97+f∉Ce n P:=by
 intro h;unfold Ce at h;rcases cb.mp h with h|h
 ·let ⟨u,hu,hc⟩:=nI.mp h;let ⟨c,hcP,hu⟩:=iP.mp hu;unfold unitsOf qL at hu;split at hu
  ·rcases aH.mp hu with rfl|hu
   ·have:=aB.mp hc;exact WO this
   ·rcases aH.mp hu with rfl|hu
    ·have:=aB.mp hc;exact aeR this (λe=>nc ((oM ht).mp (e▸hcP)).2)
    ·have:=J5 (n8 (n c)) _ (nI.mpr ⟨u,hu,hc⟩);exact aeS this
  ·rcases aH.mp hu with rfl|hu
   ·have:=aB.mp hc;exact aeT this ((gm (n:=n)).mp (by rw[ht];exact ft _ hcP))
   ·rw[aB.mp hu]at hc;have:=aB.mp hc;exact aeU this
 ·have:=aB.mp h;exact WO this
def D3 (H:tS n h de f):1<=de/\de<=6:=by
 have:=fk (l₁:=f::vq n f) (fD.mpr ⟨λh=>nc (j3.mp h).2.1,li.filter _⟩) (l₂:=L6) λy hy=>by
  rcases aH.mp hy with rfl|hy
  ·exact fZ.mpr H.f6
  ·exact fZ.mpr (j3.mp hy).1
 rw[az]at this;exact aeV H.fd this rfl
abbrev N3 (l:List Int) (n:NN) (h:NN) (de f:Nat) (rs:SS) (y x j un op:OV) (fr gv kp rt pr du:OV):St:=Fz l n rs [.list (jw n),.list (jw n),.list (mD ((toks n).flatMap (unitsOf n)))] y x j (~~~(Cd n h)) (text:= ~~~(.str (T (iA n)))) (unit:=un) (opening:=op) (bare:= ~~~(Cb n)) (A4:= ~~~(.int (de:Nat))) (first:= ~~~(.str (nm f))) (wide:= ~~~(kU (nz n))) (front:=fr) (given:=gv) (kept:=kp) (right:=rt) (pair:=pr) (due:=du)
def Az (ht:toks n=P++f::Q) (hf:f<6): ↑(Ce n P)<60:=by let ⟨r,hr⟩:=Cf ht hf;have:=o8 n;rw[hr,aj,az]at this;exact aeW this
def Zd (l:List Int) (n h:NN) (H:tS n h de f) (ht:toks n=P++f::Q) (rs:SS) (y x j un op:OV):xI (N3 l n h de f rs y x j un op ac ac ac ac ac ac)=aa (.next,N3 l n h de f rs y x j un op (~~~(.str (T (fB n P de)))) ac ac ac ac ac):=by
 left;let ⟨r,hr⟩:=Cf ht H.f6;let ⟨d1,d2⟩:=D3 H;right;have hix:eP "str" Ba (ak 4) (au (ak 10) aZ) (N3 l n h de f rs y x j un op ac ac ac ac ac ac)= ~~~(.int (↑(Ce n P):Nat)):=by let ⟨is,hi⟩:=Rh (B:=r) (RZ ht H.f6);rw[<- hr]at hi;refine pF (o:= .pv (.str (T (iA n)))) (ds:=[.pv (.str (nm f))]) rfl rfl rfl ?_;show W2 (jf (T (iA n)) (T [97+f]) 0 ↑(T (iA n)) 1)=_;rw[hi];rfl
 have hsl:fN (ak 4) eB (gV (eP "str" Ba (ak 4) (au (ak 10) aZ))) eB (N3 l n h de f rs y x j un op ac ac ac ac ac ac)= ~~~(.str (T (Ce n P))):=by
  have ho:gV (eP "str" Ba (ak 4) (au (ak 10) aZ)) (N3 l n h de f rs y x j un op ac ac ac ac ac ac)=aa (aa (↑(Ce n P):Int)):=by unfold gV;rw[hix];rfl
  erw [uF rfl rfl ho (by erw [gG];exact WL (o8 n)),Rk (by erw [hr,aj];exact Pc),hr,List.take_left]
 have hmu:ba .Mult ↥")" (ak 9) (N3 l n h de f rs y x j un op ac ac ac ac ac ac)= ~~~(.str (T (bR de 41))):=by
  refine dq rfl rfl ?_;have e:AZ .Mult (.str (T [41])) (.int (de:Nat))=aa (.str (T (bR de 41))):=by show(if ↑(T [41])=1/\(0:Int)<=(de:Nat)/\((de:Nat):Int)<=1000 then aa (PV.str (Txt.mul (T [41]) (de:Nat))) else ac)=_;rw[if_pos ⟨rfl,by exact Gm,by exact aeX d2⟩,N2 d2]
  rw[show ah ")" =T [41] from rfl];exact Ho e
 unfold xI bZ;rw[dq hsl hmu (kj _ _ _ (by rw[gG,gG,nG];exact aeY (Az ht H.f6) d2)),DS];rfl
def mq (n:NN) (P:Nz) (d:Nat):List Str:=[T (fB n P d),T (fB n P (d- 1)),T (41::fB n P (d- 1)),T (iA n)]
def rq (n:NN) (P:Nz) (d:Nat): ↑(fB n P d)= ↑(Ce n P)+d:=by unfold fB;rw[aj,nG]
def N4 (h:1<=d):(fB n P d).take (↑(fB n P d)- 1)=fB n P (d- 1):=by rw[rq,Nat.add_sub_assoc h];unfold fB;rw[List.take_length_add_append,List.take_replicate,iz (jU _ _)]
def Ze (ht:toks n=P++f::Q) (hf:f<6) (h1:1<=d) (h2:d<=6) (h:ak 12 st= ~~~(.str (T (fB n P d)))):fN (ak 12) eB (gV (w5 ⇑1)) eB st= ~~~(.str (T (fB n P (d- 1)))):=by have SE:=Az ht hf;rw[uF (i:=ac) (j:=aa (-1)) h rfl rfl (by rw[gG,rq];exact aA (gc (ce SE) h2) ∅),J3 _ (by rw[rq];exact aA h1 (gR ..)),N4 h1]
def HT {st:St} {n:NN} {P Q:Nz} {f d:Nat} (ht:toks n=P++f::Q) (hf:f<6) (h1:1<=d) (h2:d<=6) (h:ak 12 st= ~~~(.str (T (fB n P d)))) (h':ak 4 st= ~~~(.str (T (iA n)))):
  kb (au (ak 12) (au (fN (ak 12) eB (gV (w5 ⇑1)) eB) (au (ba .Add ↥")" (fN (ak 12) eB (gV (w5 ⇑1)) eB)) (au (ak 4) aZ)))) st= ~~~(.lst ((mq n P d).map PV.str)):=by
 have SE:=Az ht hf;have hc:=Ze ht hf h1 h2 h;have ha:ba .Add ↥")" (fN (ak 12) eB (gV (w5 ⇑1)) eB) st= ~~~(.str (T (41::fB n P (d- 1)))):=by rw[dq rfl hc (kj st (T [41]) (T (fB n P (d- 1))) (by rw[gG,gG,rq];exact aA (dW (gc (ce SE) (aA (jU _ _) h2)) 1) ∅)),DS];rfl
 exact rW (bA h (bA hc (bA ha (bA h' rfl)))) rfl (by show 4<=1000;decide)
def Zf (l:List Int) (n h:NN) (H:tS n h de f) (ht:toks n=P++f::Q) (rs:SS) (y x j un op:OV):xJ (N3 l n h de f rs y x j un op (~~~(.str (T (fB n P de)))) ac ac ac ac ac)=aa (.next,N3 l n h de f rs y x j un op (~~~(.str (T (fB n P de)))) (~~~(.lst ((mq n P de).map PV.str))) ac ac ac ac):=by unfold xJ bZ;rw[HT ht H.f6 (D3 H).1 (D3 H).2 rfl rfl];rfl
def x8 (d:Nat) (h:d<=6):(∀u∈([[40]]++bR d [41]:LN),JK u/\∀c∈u,c<128)/\ ↑([[40]]++bR d [41]:LN)<=100/\([[40]]++bR d [41]:LN).flatten.length<=100:=by
 refine⟨λu hu=> ?_,by simp;exact aA h ∅,by simp;exact aA h ∅⟩;rcases cb.mp hu with hu|hu
 ·rw[aB.mp hu];exact⟨.inl ⟨40,by decide,rfl⟩,by decide⟩
 ·rw[Gj hu];exact⟨.inl ⟨41,by decide,rfl⟩,by decide⟩
def sb (n:NN) (P:Nz) (d:Nat):List (List Nat):=P.flatMap (unitsOf n)++([[40]]++bR d [41])
def Sa:∀d:Nat,(bR d [41]:LN).flatten=bR d 41:=by
 intro l9;induction l9 with
 |zero=>exact rfl
 |succ d ih=>rw[wG,fP,ih];rfl
def tT (n:NN) (P:Nz) (d:Nat):(sb n P d).flatten=fB n P d:=by unfold sb fB Ce;rw[dz,dz,Sa];simp
def tU (ht:toks n=P++f::Q) (h:d<=6):Good (sb n P d):=Aw ht (x8 d h).1 (x8 d h).2.1 (x8 d h).2.2
def HU (n:NN) (P:Nz) (d:Nat):gD ac (sb n P d)=P.flatMap (jv n)++([40]::bR d [41]):=by unfold sb;rw[uH];show _++gD ac ([40]::bR d [41])=_;rw[oZ ∅,B7]
def D4 (H:tS n h de f) (ht:toks n=P++f::Q) (d:Nat):uG 0 (gD ac (sb n P d))=if d<=de then aa (de- d) else ac:=by have h1:=HJ (n:=n) P [] (f::Q) (by rw[ht];rfl) ([40]::bR d [41]);rw[gh]at h1;rw[HU];refine(show uG 0 _=uG ↑(mn ([]:Nz)) _ from rfl).trans (h1.trans ?_);show uG (↑(mn P)+1) (bR d [41])=_;rw[(by rw[JJ ht H.f6,H.fd]: ↑(mn P)+1=de),NL]
def HV (H:tS n h de f) (ht:toks n=P++f::Q):cZ [.str (T (fB n P de))]=aa (PV.bool true)/\cZ [.str (T (fB n P (de- 1)))]=aa (PV.bool false)/\cZ [.str (T (41::fB n P (de- 1)))]=aa (PV.bool false)/\cZ [.str (T (iA n))]=aa (PV.bool true):=by
 let ⟨d1,d2⟩:=D3 H;refine⟨?_,?_,?_,?_⟩
 ·rw[<- tT,xZ (tU ht d2),D4 H ht,if_pos (ab _),dc];rfl
 ·rw[<- tT,xZ (tU ht (Pt d2)),D4 H ht,if_pos (aeZ),show de- (de- 1)=1 by exact ae0 d1];rfl
 ·have hg:=tU (d:=de- 1) ht (Pt d2);have Kz:=rq n P (de- 1);rw[<- tT]at Kz⊢;have sJ: ↑(sb n P (de- 1))<=8000:=by let ⟨_,a2,_⟩:=uI n P λc hc=>(gm (n:=n)).mp (by rw[ht];exact ft _ hc);have:=rp n;rw[ht,aj]at this;have h2:=(x8 (de- 1) (Pt d2)).2.1;unfold sb;rw[aj];exact ae2 a2 h2 this
  have Z0:Good ([41]::sb n P (de- 1)):=⟨λu hu=>by
    rcases aH.mp hu with rfl|hu
    ·exact .inl ⟨41,by decide,rfl⟩
    ·exact hg.unit u hu,λu hu=>by
    rcases aH.mp hu with rfl|hu
    ·decide
    ·exact hg.ascii u hu,by rw[fP,aj,Kz];simp;exact ae3 (Az ht H.f6) d2,by rw[az];exact ae4 sJ⟩
  have:=xZ Z0;rw[fP]at this;refine Eq.trans this ?_;rw[oZ ∅];rfl
 ·refine(xZ (Cc n)).trans ?_;have h1:=HJ (n:=n) (toks n) [] [] (by simp) [];rw[gh,Rf,bu]at h1;have h2:=uH n (toks n) [];rw[bu]at h2;rw[h2];show aa (PV.bool (uG 0 (_++[])==aa 0))=_;rw[bu,show uG 0 ((toks n).flatMap (jv n))=aa 0 from h1];rfl
def Zg (l:List Int) (n h:NN) (H:tS n h de f) (ht:toks n=P++f::Q) (rs:SS) (y x j un op:OV):xK (N3 l n h de f rs y x j un op (~~~(.str (T (fB n P de)))) (~~~(.lst ((mq n P de).map PV.str))) ac ac ac ac)=aa (.next,N3 l n h de f rs y x j un op (~~~(.str (T (fB n P de)))) (~~~(.lst ((mq n P de).map PV.str))) ac ac ac ac):=by
 left;let ⟨c1,c2,c3,c4⟩:=HV H ht;right;let rs4:List (Str×Bool):=[(T (fB n P de),true),(T (fB n P (de- 1)),false),(T (41::fB n P (de- 1)),false),(T (iA n),true)];have hp:hZ [.lst ((mq n P de).map PV.str)]=aa (.lst ([T (fB n P de),Ro,Ro,T (iA n)].map PV.str)):=YT (rs:=rs4) (λr hr=>by
  rcases aH.mp hr with rfl|hr
  ·exact c1
  ·rcases aH.mp hr with rfl|hr
   ·exact c2
   ·rcases aH.mp hr with rfl|hr
    ·exact c3
    ·exact(aB.mp hr)▸c4) (by show 4<1000;decide)
 unfold xK;rw[jY]
 ·rfl
 ·have e1:=fU (op:= .NotEq) (mZ (bA (f:=ak 13) (g:=aZ) (l:=[]) (st:=N3 l n h de f rs y x j un op (~~~(.str (T (fB n P de)))) (~~~(.lst ((mq n P de).map PV.str))) ac ac ac ac) rfl rfl) rfl hp) (rW (bA (f:=ak 12) rfl (bA (f:= ↥"('', '')") rfl (bA (f:= ↥"('', '')") rfl (bA (f:=ak 4) (g:=aZ) (l:=[]) rfl rfl)))) rfl (by show 4<=1000;decide)) (vQ _ (tM [T (fB n P de),Ro,Ro,T (iA n)]));rw[zA e1,zA (fU (op:= .NotEq) (f:=ak 13) (st:=N3 l n h de f rs y x j un op (~~~(.str (T (fB n P de)))) (~~~(.lst ((mq n P de).map PV.str))) ac ac ac ac) rfl (HT ht H.f6 (D3 H).1 (D3 H).2 rfl rfl) (vQ _ (tM (mq n P de))))];rfl
def FT (l:List Int) (n h:NN) (de f:Nat) (rs:SS) (y x j un op fr gv kp rt pr du:OV):St:=N3 l n h de f rs y x j un op fr gv kp rt pr du
def Mj (sJ:cl.st st=⟨[ac],[~~~(.str (nm x)),~~~(g4 n)],ob⟩) (hit:it st=aa (L6.map λi=> .str (nm i)))
  (ht:∀i,i<6->test ⟨[~~~(.str (nm i))],[~~~(.str (nm x)),~~~(g4 n)],ob⟩=aa (p i)):eh cl it (dM (bf 0) test (gN (ak 0))) st= ~~~(fK (L6.filter p)):=by
 erw [xS (λst=>∃a,st=⟨[a],[~~~(.str (nm x)),~~~(g4 n)],ob⟩) p (λi=> .str (nm i)) hit (sJ▸⟨ac,rfl⟩) ?_]
 ·rfl
 ·rintro i hi st ⟨a,rfl⟩;exact⟨⟨[~~~(.str (nm i))],[~~~(.str (nm x)),~~~(g4 n)],ob⟩,rfl,ht i hi,⟨_,rfl⟩,λq=>rfl⟩
def vY (A:Nz):iI (A.map λi=>PV.str (nm i)) (A.map λi=>PV.str (nm i))=aa true:=lH λv hv=>by let ⟨i,_,rfl⟩:=aQ.mp hv;exact uB 2 _
def Zh (l:List Int) (n h:NN) (de f:Nat) (rs:SS) (y x j un op fr gv:OV):tG (FT l n h de f rs y x j un op fr gv ac ac ac ac)=aa (.next,FT l n h de f rs y x j un op fr gv ac ac ac ac):=by
 let ob:=(FT l n h de f rs y x j un op fr gv ac ac ac ac).ob;let C (a:OV):List (Option CV):=[a,~~~(cq λi=>fK (ii n i)),~~~(cq λk=>cF (n k)),~~~(g4 n),~~~(cq λi=>fK (kB n i))];unfold tG;rw[jY]
 ·rfl
 ·refine fU (a:= .pv (.lst [])) ?_ rfl (vQ _ rfl);erw [xS (λst=>∃a,st=⟨[],C a,ob⟩) (λq=>false) (λi=> .str (nm i)) (qJ _ (λk=>cF (n k)) rfl) ⟨ac,rfl⟩ ?_]
  ·rw[cL.mpr λq q=>by decide];rfl
  ·rintro i hi st ⟨a,rfl⟩;refine⟨⟨[],C (~~~(.str (nm i))),ob⟩,rfl,?_,⟨_,rfl⟩,λe=>(by cases e)⟩;have h1:bY .NotEq (bk (aX 1) (aX 0)) (eh DJ (jA (aX 2)) (dM (bf 0) (bY .In (ba .Add (ak 0) (aX 0)) (aX 1)) (gN (ak 0)))) ⟨[],C (~~~(.str (nm i))),ob⟩=aa false:=
    fU (cA (f:=aX 1) (g:=aX 0) rfl rfl (gj _ (λi=>fK (ii n i)) (fZ.mpr hi))) (Mj (n:=n) (x:=i) (ob:=ob) (p:=λk=>rel n k i) rfl (qJ _ (λk=>cF (n k)) rfl) λk hk=>(o9 hk hi rfl rfl rfl).1) (vQ _ (vY (ii n i)))
   have h2:bY .NotEq (bk (aX 4) (aX 0)) (eh DK (jA (aX 2)) (dM (bf 0) (bY .In (ba .Add (aX 0) (ak 0)) (aX 1)) (gN (ak 0)))) ⟨[],C (~~~(.str (nm i))),ob⟩=aa false:=
    fU (cA (f:=aX 4) (g:=aX 0) rfl rfl (gj _ (λi=>fK (kB n i)) (fZ.mpr hi))) (Mj (n:=n) (x:=i) (ob:=ob) (p:=λk=>rel n i k) rfl (qJ _ (λk=>cF (n k)) rfl) λk hk=>(o9 hi hk rfl rfl rfl).1) (vQ _ (vY (kB n i)))
   rw[zA h1,zA h2];rfl
def HW (st:St) (n:NN) (h:aX 5 st= ~~~(mP n)):bk (aX 5) ⇑0 st= ~~~(.lst (bN (lC n))):=
 cA h rfl (ky _ [.lst (bN (lC n)),.lst (bN (rm n))] 0 ∅ rfl)
abbrev n9 (n:NN):Option CV:= ~~~(.lst (bN (lC n)))
abbrev uT:Option CV:= ~~~(PV.bool true)
def Sb (st:St) (l:List PV) (h: ↑l<=10000):Lv st [.pv (.lst l)]= ~~~(.lst l):=by show((aa l).bind λl=>if ↑l<=sizeLine then aa (CV.pv (.lst l)) else ac)=_;rw[bK,if_pos (Lb h rfl)]
def HX (h1:a st= ~~~va) (h2:b st= ~~~(PV.bool x)) (h3:t st=aa tv) (h4:r st= ~~~(.lst q)) (h5:st.Jn tv=aa w):xv i j a b t r st=aa (.next,ie i (.pv va) (ie j (.pv (PV.bool x)) st)):=by unfold xv;rw[h1,h2,h3,h4];show(st.Jn tv).map _=_;rw[h5];rfl
def Zi (l:List Int) (n h:NN) (de f:Nat) (rs:SS) (y x j un op fr gv:OV):BK (FT l n h de f rs y x j un op fr gv ac ac ac ac)=aa (.next,FT l n h de f rs y x j un op fr gv (n9 n) uT ac ac):=by
 let st:=FT l n h de f rs y x j un op fr gv ac ac ac ac;have hr:bk (aX 5) ⇑0 st= ~~~(.lst (bN (lC n))):=HW _ n rfl;have h1:dJ Lv (au (bk (aX 5) ⇑0) aZ) st= ~~~(.lst (bN (lC n))):=by refine iK (bA hr rfl) ?_;have:=xU n;exact Sb _ _ (by unfold bN;rw[aw];exact Dm this)
 have h2:qG (bY .Eq (eh yE (jA (aX 12)) (dM (bf 0) (yp (mv (bk (bk (aX 0) (ak 0)) ⇑2))) (gN (ak 0)))) (kb aZ)) st= ~~~(PV.bool true):=by
  have hc:eh yE (jA (aX 12)) (dM (bf 0) (yp (mv (bk (bk (aX 0) (ak 0)) ⇑2))) (gN (ak 0))) st= ~~~(.lst []):=by
   erw [xS (λcf=>∃a,cf=⟨[a],[~~~(cq λk=>jR (n k))],st.ob⟩) (λq=>false) (λi=> .str (nm i)) (qJ _ (λk=>cF (n k)) rfl) ⟨ac,rfl⟩ ?_]
   ·rw[cL.mpr λq q=>by decide];rfl
   ·rintro i hi cf ⟨a,rfl⟩;refine⟨⟨[~~~(.str (nm i))],[~~~(cq λk=>jR (n k))],st.ob⟩,rfl,?_,⟨_,rfl⟩,λe=>(by cases e)⟩;refine FC (a:=true) ?_;unfold mv;rw[cA (cA (f:=aX 0) (g:=ak 0) rfl rfl (gj _ (λk=>jR (n k)) (fZ.mpr hi))) rfl (mO _ [.fE (fl (lo (n i))),.fE (fl (Mine.hi (n i))),PV.bool true] 2 ∅ rfl)];rfl
  unfold qG;rw[fU hc rfl (Fj _ rfl)];rfl
 exact HX h1 h2 (tv:= .inst 0) (w:=(2,rs.map cW)) rfl hr rfl
def tV (i j:Nat):List PV:=[cW (up j,nm i),cW (nm i++up i,nm j)]
def D5 (h:v∈(jT n).map PV.str):∃i j,i<6/\j<6/\rel n i j=true/\v= .str (nm i++nm j):=by left;let ⟨s,hs,rfl⟩:=aQ.mp h;let ⟨i,hi,hs⟩:=iP.mp hs;let ⟨j,hj,rfl⟩:=aQ.mp hs;right;rw[aY]at hj;exact⟨i,j,fZ.mp hi,fZ.mp hj.1,hj.2,rfl⟩
noncomputable def Sd (v:PV):Nat×Nat:=match v with
 | .str s=>(s.cps.toList.headD 0- 97,s.cps.toList.getD 1 0- 97)
 |_=>(0,0)
def Se (i j:Nat):Sd (.str (nm i++nm j))=(i,j):=by show(97+i- 97,97+j- 97)=_;rw[bP,bP]
def yM (h:f st= ~~~(.str (nm i++nm j))):bk f ⇑0 st= ~~~(.str (nm i))/\bk f ⇑1 st= ~~~(.str (nm j)):=
 ⟨cA h rfl (uz _ _ 0 ∅ (c:=97+i) rfl),cA h rfl (uz _ _ 1 ∅ (c:=97+j) rfl)⟩
def pairs_len (n:NN): ↑(jT n)<=36:=by
 have h6:∀i,↑((L6.filter (rel n i)).map λj=>nm i++nm j)<=6:=λi=>by rw[aw];exact jN _
 unfold jT;rw[pL];have h0:=h6 0;have h1:=h6 1;have h2:=h6 2;have h3:=h6 3;have h4:=h6 4;have h5:=h6 5;rw[show(L6.map λi=> ↑((L6.filter (rel n i)).map λj=>nm i++nm j)).sum= ↑((L6.filter (rel n 0)).map λj=>nm 0++nm j)+(↑((L6.filter (rel n 1)).map λj=>nm 1++nm j)+(↑((L6.filter (rel n 2)).map λj=>nm 2++nm j)+(↑((L6.filter (rel n 3)).map λj=>nm 3++nm j)+(↑((L6.filter (rel n 4)).map λj=>nm 4++nm j)+(↑((L6.filter (rel n 5)).map λj=>nm 5++nm j)+0))))) from rfl];exact ae5 h0 h1 h2 h3 h4 h5
def J6 (n:NN):((jT n).map PV.str).flatMap (λv=>tV (Sd v).1 (Sd v).2)=(bV n).map cW:=by
 unfold jT bV;rw[gy,gy,List.flatMap_assoc];refine eQ λi q=> ?_;rw[bD,iQ,gy];have key:∀l:List Nat,(l.filter (rel n i)).flatMap (λj=>tV (Sd (PV.str (nm i++nm j))).1 (Sd (PV.str (nm i++nm j))).2)=l.flatMap λj=>(rowsOf n i j).map cW:=by
  intro l;induction l with
  |nil=>rfl
  |cons a l ih=>
   rw[bl,bJ,<- ih];unfold rowsOf;split
   ·rw[bJ,Se];rfl
   ·rfl
 exact key L6
def Zj (l:List Int) (n h:NN) (de f:Nat) (rs:SS) (y x j un op fr gv:OV):xM (FT l n h de f rs y x j un op fr gv (n9 n) uT ac ac)=aa (.next,FT l n h de f rs y x j un op fr gv (n9 n) uT ac (~~~(.lst ((bV n).map cW)))):=by
 let ob:=(FT l n h de f rs y x j un op fr gv (n9 n) uT ac ac).ob;unfold xM bZ;have hl:=pairs_len n;erw [ux (λst=>∃a b,st=⟨[a,b],[],ob⟩) (λq=>true) (λv=>tV (Sd v).1 (Sd v).2) (λq q=>true) (λq v=>v) (xs:=(jT n).map PV.str) rfl (by rw[aw];exact aA hl ∅) (λq q=>by show 2<=100;decide) ⟨ac,ac,rfl⟩ ?_]
 ·rw[bM.mpr λq q=>rfl];rw[(by funext v;rw[bM.mpr λq q=>rfl,sQ]:(λv=>((tV (Sd v).1 (Sd v).2).filter λq=>true).map λv=>v)=λv=>tV (Sd v).1 (Sd v).2),J6];rfl
 ·rintro v hv st ⟨a,b,rfl⟩;left;let ⟨i,k,hi,hk,_,rfl⟩:=D5 hv;right;refine⟨⟨[~~~(.str (nm i++nm k)),b],[],ob⟩,rfl,rfl,⟨_,_,rfl⟩,λq=>⟨?_,λst=>∃b,st=⟨[~~~(.str (nm i++nm k)),b],[],ob⟩,⟨_,rfl⟩,λst ⟨b,h⟩=>⟨_,b,h⟩,?_⟩⟩
  ·rw[Se];let ⟨p0,p1⟩:=yM (f:=ak 0) (st:=⟨[~~~(.str (nm i++nm k)),b],[],ob⟩) (i:=i) (j:=k) rfl;unfold jA;rw[qt (bA (qt (bA (vS hk p1) (bA p0 rfl)) rfl (by simp)) (bA (qt (bA (dq p0 (vS hi p0) (kj _ (nm i) (up i) (by rw[jS,JF];decide))) (bA p1 rfl)) rfl (by simp)) rfl)) rfl (by simp)];rfl
  ·rintro u hu st ⟨b,rfl⟩;exact⟨⟨[~~~(.str (nm i++nm k)),~~~u],[],ob⟩,rfl,rfl,⟨_,rfl⟩,λq=>rfl⟩
def N5 (r:Str×Str):PV.Ez 3 (cW r) (cW r)=aa true:=LX 2 λx hx=>by
 rcases aH.mp hx with rfl|hx
 ·exact uB 1 _
 ·exact(aB.mp hx)▸(uB 1 _)
def HY (rs:SS):iI (rs.map cW) (rs.map cW)=aa true:=lH λv hv=>by let ⟨r,_,rfl⟩:=aQ.mp hv;exact N5 r
def Zk (l:List Int) (n h:NN) (de f:Nat) (y x j un op fr gv:OV):xN (FT l n h de f (bV n) y x j un op fr gv (n9 n) uT ac (~~~(.lst ((bV n).map cW))))=aa (.next,FT l n h de f (bV n) y x j un op fr gv (n9 n) uT ac (~~~(.lst ((bV n).map cW)))):=by
 have hl:=qu n;have h1:bY .Eq (bk (aX 5) ⇑0) (ak 14) (FT l n h de f (bV n) y x j un op fr gv (n9 n) uT ac (~~~(.lst ((bV n).map cW))))=aa true:=
  fU (HW _ n rfl) rfl (Fj _ (by unfold bN;rw[show(λc:Nat=>PV.int (c:Int))=PV.int ∘ λc:Nat=>(c:Int) from rfl,<- bD];exact Hs _))
 have h2:E8 (aX 8) (FT l n h de f (bV n) y x j un op fr gv (n9 n) uT ac (~~~(.lst ((bV n).map cW))))= ~~~(.lst ((bV n).map cW)):=by show(xr ((bV n).map cW) []).map (λr=>CV.pv r.1)=_;rw[Q5 _ (by rw[aw];exact aA hl ∅)];rfl
 unfold xN bZ;rw[LY (rX (f:=mv (ak 15)) (a:=true) rfl (rX (Jz h1) (Jz (fU h2 (g:=ak 17) rfl (Fj _ (HY (bV n)))))))];rfl
def FD (l:List α):cP l (aa (-1)) ac ac=[]\/∃a∈l,cP l (aa (-1)) ac ac=[a]:=by
 have h: ↑(cP l (aa (-1)) ac ac)<=1:=by rw[mM,cG,fG];refine aA (Cw ..) (Ow (fJ.mp ?_));exact Int.le_add_of_neg_add_le (b:=1) (dZ (Int.le_min.mpr ⟨wy _,dZ (Int.add_le_add_right (by decide:(-1:Int)<=0) _) (Int.le_of_eq (Int.zero_add _))⟩) (dZ (V1 0 _) (Int.self_le_toNat _)))
 have m:∀a∈cP l (aa (-1)) ac ac,a∈l:=λa=>tJ;revert h m;cases cP l (aa (-1)) ac ac with
 |nil=>exact λq q=> .inl rfl
 |cons a t=>
  induction t with
  |nil=>exact λq m=> .inr ⟨a,m a ay,rfl⟩
  |cons=>exact λh=>absurd (mS h) (Oy _)
def Ka (h1:f st=aa v) (h2:st.Jn v=aa q) (h3:fa st=aa [.pv (.str x)]) (h4:ku q.2 [.str x]=aa r):mY f fa st= ~~~r.1:=by unfold mY;rw[h1,bK,h2,bK,h3];show(ku _ _).map _=_;rw[h4];rfl
def Vo (hi:i<6) (hj:j<6):ku ((bV n++[(nm j,nm i)]).map cW) [.str (up j)]=aa (.lst (((ii n j)++[i]).map λk=> .str (nm k)),(bV n++[(nm j,nm i)]).map cW):=by
 have hl:=qu n;have h1:=gk hj;erw [vR (x:=up j) (bV n++[(nm j,nm i)]) (by rw[h1.2.1];exact(ja hj).1) (by rw[h1.2.1];exact ju (by rw[jS];decide)) (λr hr=> ?_) (by rw[aj,be];lia)]
 ·rw[h1.2.1,bT,bI,bI (l₁:=ii n j)];have e2: [(nm j,nm i)].filter (λr:Str×Str=>cO r.1==nm j)=[(nm j,nm i)]:=by rw[bl,if_pos (by rw[h1.1];exact beq_self_eq_true _)];rfl
  rw[(BV n hj),e2];rfl
 ·rcases cb.mp hr with hr|hr
  ·exact tO hr
  ·rw[aB.mp hr,h1.1];exact ju (by rw[jS];decide)
def Zl (l:List Int) (n h:NN) (de f:Nat) (y x j un op fr gv:OV):∃rs pr,xO (FT l n h de f (bV n) y x j un op fr gv (n9 n) uT ac (~~~(.lst ((bV n).map cW))))=aa (.next,FT l n h de f rs y x j un op fr gv (n9 n) uT pr (~~~(.lst ((bV n).map cW)))):=by
 let du:Option CV:= ~~~(.lst ((bV n).map cW));let st:=FT l n h de f (bV n) y x j un op fr gv (n9 n) uT ac du;have hit:jA (fN (aX 3) (gV (w5 ⇑1)) eB eB) st=aa (cP ((jT n).map PV.str) (aa (-1)) ac ac):=by
  have e2:ph st (.pv (g4 n)) (aa (-1)) ac ac=aa (.lst (cP ((jT n).map PV.str) (aa (-1)) ac ac)):=by show(if ↑((jT n).map PV.str)<=sizeLine/\(ac:Option Int)≠aa 0 then aa (PV.lst (cP ((jT n).map PV.str) (aa (-1)) ac ac)) else ac)=_;rw[if_pos ⟨by rw[aw];exact ae6 (pairs_len n) rfl,by simp⟩]
  have e1:fN (aX 3) (gV (w5 ⇑1)) eB eB st=(ph st (.pv (g4 n)) (aa (-1)) ac ac).map CV.pv:=rfl;exact x7 (by rw[e1,e2];rfl)
 unfold xO;rw[jZ hit];rcases FD ((jT n).map PV.str)with e|⟨v,hv,e⟩
 ·rw[e];exact⟨bV n,ac,rfl⟩
 ·rw[e];left;let ⟨i,k,hi,hk,hr,rfl⟩:=D5 hv;right;let st1:=FT l n h de f (bV n) y x j un op fr gv (n9 n) uT (~~~(.str (nm i++nm k))) du;let st2:=FT l n h de f (bV n++[(nm k,nm i)]) y x j un op fr gv (n9 n) uT (~~~(.str (nm i++nm k))) du;refine⟨bV n++[(nm k,nm i)],~~~(.str (nm i++nm k)),?_⟩;let ⟨p0,p1⟩:=yM (f:=ak 16) (st:=st1) (i:=i) (j:=k) rfl;have a1:eI (aX 8) (au (bk (ak 16) ⇑1) (au (bk (ak 16) ⇑0) aZ)) st1=aa (.next,st2):=
   (Fm (v:= .inst 0) (h:=2) (rs:=bV n) rfl rfl (bA p1 (bA p0 rfl)) (ja hk).1 (ja hi).1 (by rw[jS];decide) (ae7 (qu n))).trans rfl
  let ⟨q0,q1⟩:=yM (f:=ak 16) (st:=st2) (i:=i) (j:=k) rfl;have a2:mY (aX 8) (au (eP "str" gS (bk (ak 16) ⇑1) aZ) aZ) st2= ~~~(.lst (((ii n k)++[i]).map λk=> .str (nm k))):=by exact Ka (v:= .inst 0) (q:=(2,(bV n++[(nm k,nm i)]).map cW)) rfl rfl (bA (vS hk q1) rfl) (Vo hi hk)
  have a3:ba .Add (bk (aX 7) (bk (ak 16) ⇑1)) (kb (au (bk (ak 16) ⇑0) aZ)) st2= ~~~(.lst (((ii n k)++[i]).map λk=> .str (nm k))):=by
   erw [dq (cA (f:=aX 7) rfl q1 (gj _ (λi=>fK (ii n i)) (fZ.mpr hk))) (rW (bA q0 rfl) rfl (by simp)) (tR _ _ _ ?_)]
   ·rw[bI];rfl
   ·rw[aw];have: ↑(ii n k)<=6:=jN _;show _+1<=_;exact WN this
  rw[iD (st1:=st1) (st2:=st2) rfl]
  ·rfl
  ·rw[aU a1];refine dw ?_;unfold bZ;rw[LY (rX (f:=mv (ak 15)) (a:=true) rfl (Jz (fU a2 a3 (Fj _ (vY _)))))];rfl
def Zm (l:List Int) (n h:NN) (de f:Nat) (rs:SS) (y x j un op fr gv pr du:OV):BL (FT l n h de f rs y x j un op fr gv (n9 n) uT pr du)=aa (.ret (.pv (PV.bool true)),FT l n h de f rs y x j un op fr gv (n9 n) uT pr du):=rfl
def Sf (l:List Int) (hl: ↑l<=63):∃cf,QX (tH l)=aa (.ret (.pv (PV.bool true)),cf):=by
 let n:Nat->Nat:=λk=>(sumOf l k).toNat;have hn:∀k,n k<=61000000:=λk=>Int.toNat_le.mpr (zq l k).2;have vt:∀k,n k<=100000000:=λk=>aA (hn k) ∅;have h3:Fi l=st3 l n:=by unfold Fi st3;rw[show sumOf l=λk=>(n k:Int) from funext λk=>(yf (zq l k).1).symm]
 left;let ⟨y,x,e6⟩:=afV l n;let ⟨x14,e14⟩:=Y1 l n y x (bV n) (~~~(.str ""));let ⟨x15,e15⟩:=Y2 l n y x14 (bV n) (~~~(.str ""));let ⟨j,un,op,e16⟩:=Y3 l n y x15 (bV n);let ⟨h,de,f,H,e19⟩:=Y7 l n hn (bV n) y x15 j un op;let ⟨Oq,e21⟩:=Za l n h de f (bV n) y x15 j un op;let ⟨P,Q,ht⟩:=List.append_of_mem ((gm (n:=n) (c:=f)).mpr (a8 H.f6 ∅));let ⟨rs,pr,e31⟩:=Zl l n h de f y Oq j un op (~~~(.str (T (fB n P de)))) (~~~(.lst ((mq n P de).map PV.str)));right;refine⟨FT l n h de f rs y Oq j un op (~~~(.str (T (fB n P de)))) (~~~(.lst ((mq n P de).map PV.str))) (n9 n) uT pr (~~~(.lst ((bV n).map cW))),?_⟩;unfold QX;rw[aU (afI l hl),aU (afJ l),h3,aU (afQ l n vt),aU (afR l n),aU (afS l n vt),aU (afT l n),aU e6,aU (afW l n y x)];rw[aU (af0 l n y x _),aU (af1 l n y x _),aU (YM l n y x _),aU (YN l n y x _),aU (YZ l n y x _),aU (Y0 l n y x _)];rw[aU e14,aU e15,aU e16,aU (Y4 l n _ y x15 j un op),aU (Y5 l n _ y x15 j un op),aU e19,aU (Y8 l n h de f _ y x15 j un op),aU e21];rw[aU (Zb l n h de f H _ y Oq j un op),aU (Zc l n h de f H _ y Oq j un op _)];rw[aU (Zd l n h H ht _ y Oq j un op),aU (Zf l n h H ht _ y Oq j un op),aU (Zg l n h H ht _ y Oq j un op)];change aC tG _ (FT l n h de f (bV n) y Oq j un op (~~~(.str (T (fB n P de)))) (~~~(.lst ((mq n P de).map PV.str))) ac ac ac ac)=_;rw[aU (Zh l n h de f _ y Oq j un op _ _),aU (Zi l n h de f _ y Oq j un op _ _),aU (Zj l n h de f _ y Oq j un op _ _),aU (Zk l n h de f y Oq j un op _ _),aU e31];exact uA (Zm l n h de f rs y Oq j un op _ _ pr _)
noncomputable def Kb:List (Str×Nat):=[("begin",15),("hues",14),("j",13),("pairs",12),("end",11),("rows",10),("over",9),("under",8),("table",7),("told",6),("pieces",5),("behind",4),("parts",3),("sums",2),("numbers",1),("x",0)]
def Sg (Iq:S.yN=true) {l:List Int} (hl: ↑l<=63) (hA:jG 7 A) (uM:A.frames=aa []) (ht:0<s.toks) (R:Rel S c O s.heap)
  (hv:cU S.w c ↑O v (.pv (.lst (l.map PV.int)))) (E:VS) (Q:VS) (hQ:∀c' bv s',aM.le ↑O c c'->Rel S.mn c' bv s'.heap->dY s s'->Q (.bool true) s'):wpAny (MM S.w) A (call (.ref 330) [v]) Q E s:=by
 let ⟨cf,ak8⟩:=Sf l hl;have F:pY AP Ju Kb:= .of 19 rfl rfl tt;let ⟨lK,rz,hl1,ak9,ala,_⟩:=(ki.loc (S:=S) (lay:=eV AP Ju Kb) (x:= "script") (i:=0) tt .nil) _ _ _ [.pv (.lst (l.map PV.int))] (tH l) (F.at0 (O:=O)) rfl;let ⟨bv,hb,SR,alb⟩:=afH Iq _ _ _ _ cf ak9 ak8;rw[show dT=eV AP Ju Kb from rfl]at hb;rw[F.en]at rz hb;refine w4 (k:=6) F (λpm=>(jH.plain (names:=["script"]) (args:=[.pv (.lst (l.map PV.int))]) rfl (Tp λz=>rfl)).B) rz hA R (.pv (.con _)) (.cons hv .nil) rfl .nil λc3 s3 env l3 hE R3 K3 ht3 OQ=> ?_;refine hb.run _ c3 s3 env hA.deeper ⟨(by show A.frames.map (env:: ·)=_;rw[uM];rfl),?_⟩ (a8 ht ht3) hE R3 _ _ λc4 v4 s4 l4 R4 K4 f4=> ?_
 ·exact OQ
 have h9:=f4.MJ;clear f4;let ⟨_,q,f4⟩:=h9;cases q;have e4:=f4.dn;subst e4;exact hQ c4 _ s4 (l3.trans l4 rz.Yp) R4 (K3.trans K4)
def lJ {α:Type} {h:iR} {a:Addr} {f:Obj->α} {x:α} (e:look h a f=aa x):∃o,h.get? a=aa o/\f o=x:=ar.mp e
def sd {α β:Type} {f g:α->β} {l:List α} (e:l.map f=l.map g) {x:α} (hx:x∈l):f x=g x:=List.map_inj_left.mp e x hx
def Kc {h:iR} {a:Addr} {l:List (Str×Option Value)} (e:nsLook h a l=(true,l.map (·.2))):∃m,h.Ns a m/\∀p∈l,m p.1=p.2:=
 ⟨h.nsMap a,.of_isNs (congrArg Prod.fst e),λp hp=>sd (congrArg Prod.snd e) hp⟩
def Sh (h:afb v=true):∃t,v= .int 0 t:=by
 induction v with
 |int n t=>obtain rfl:n=0:=of_decide_eq_true h;exact⟨t,rfl⟩
 |_=>exact eU h
def D6 (h:Pu v=true):v= .none:=by
 induction v with
 |none=>rfl
 |_=>exact eU h
def HZ {o:Obj} {r:eg} (e:Eo o=aa (.type "function",r.fd .none)):∃pm,o.cls= .type "function" /\o.data= .func (r.fd pm):=by
 let ⟨c,d,dt,sl⟩:=o;induction dt with
 |func fd=>let ⟨e1,e2⟩:=bH (ag e);exact⟨fd.pyModule,e1,congrArg Data.func (congrArg (λx:FuncData=> {x with pyModule:=fd.pyModule}) e2:_)⟩
 |_=>exact gq e
def D7 (e:strOf? x=aa q):∃t,x=aa (.str q t):=by
 induction x with
 |none=>exact gq e
 |some v=>induction v with
  |str a t=>obtain rfl:=ag e;exact⟨t,rfl⟩
  |_=>exact gq e
def C2 {o:Obj} {q:Str} (e:wQ o=aa q):∃vs t,o.data= .fields vs/\vs[1]? =aa (.str q t):=by
 let ⟨c,d,dt,sl⟩:=o;induction dt with
 |fields vs=>let ⟨t,h⟩:=D7 e;exact⟨vs,t,rfl,h⟩
 |_=>exact gq e
def H0 {o:Obj} {P:Addr} {t:Nat} (e:yk o=aa (.type "code",aa (.ref P),.ref P,.str "/claim/cut.py" t,.int 3 0,.bool true,.int 276 0)):
  ∃vs,o.cls= .type "code" /\o.data= .fields vs/\vs[11]? =aa (.ref P)/\vs.getD 11 .none= .ref P/\vs.getD 18 .none= .str "/claim/cut.py" t/\vs.getD 7 .none= .int 3 0/\vs.getD 9 .none= .bool true/\vs.getD 10 .none= .int 276 0:=by
 let ⟨c,d,dt,sl⟩:=o;induction dt with
 |fields vs=>simp only[yk,u7,TB]at e;exact⟨vs,e.1,rfl,e.2.1,e.2.2.1,e.2.2.2.1,e.2.2.2.2.1,e.2.2.2.2.2.1,e.2.2.2.2.2.2⟩
 |_=>exact gq e
def Si {l:Vs} (e:WQ l=true):∃t,l=[.int 0 t,.none]:=by
 rcases l with _|⟨a,_|⟨b,_|_⟩⟩
 ·exact eU e
 ·exact eU e
 ·let ⟨h1,h2⟩:=dD.mp e;let ⟨t,rfl⟩:=Sh h1;obtain rfl:=D6 h2;exact⟨t,rfl⟩
 ·exact eU e
def FE {o:Obj} (e:z5 o=true):∃n t,o.data= .seq #[.int 0 t,.none] n:=by
 let ⟨c,d,dt,sl⟩:=o;induction dt with
 |seq vs n=>let ⟨t,ht⟩:=Si e;exact⟨n,t,congrArg (Data.seq · n) (sq.mp ht)⟩
 |_=>exact eU e
def N6 {l:List eK} (e:Pw l=true):∃hs t,l=[⟨hs,.str "key" t,.none⟩]:=by
 rcases l with _|⟨⟨hs,k,v⟩,_|_⟩
 ·exact eU e
 ·let ⟨h1,h2⟩:=dD.mp e;let ⟨t,h⟩:=D7 (beq_iff_eq.mp h1);obtain rfl:=ag h;obtain rfl:=D6 h2;exact⟨hs,t,rfl⟩
 ·exact eU e
def C3 {o:Obj} (e:wR o=true):∃c d hs t n sl,o=dfK c d hs t n sl:=by
 let ⟨c,d,dt,sl⟩:=o;induction dt with
 |dict es n=>let ⟨hs,t,ht⟩:=N6 e;obtain rfl:es= #[_]:=sq.mp ht;exact⟨c,d,hs,t,n,sl,rfl⟩
 |_=>exact eU e
def FF {o:Obj} {vs:Array Value} (e:Ep o=aa vs):∃n,o.data= .seq vs n:=by
 let ⟨c,d,dt,sl⟩:=o;induction dt with
 |seq Vz n=>obtain rfl:=ag e;exact⟨n,rfl⟩
 |_=>exact gq e
def FG {o:Obj} {a:Addr} (e:wU o=aa (.type "re.Pattern",ac,.int 0 0,.int 0 0,.ref a)):
  ∃fs,o.cls= .type "re.Pattern" /\o.data= .fields fs/\o.dict=ac/\fs.getD 6 .none= .int 0 0/\fs.getD 2 .none= .int 0 0/\fs.getD 5 .none= .ref a:=by
 let ⟨c,d,dt,sl⟩:=o;induction dt with
 |fields fs=>simp only[wU,u7,TB]at e;exact⟨fs,e.1,rfl,e.2.1,e.2.2.1,e.2.2.2.1,e.2.2.2.2⟩
 |_=>exact gq e
def FH {o:Obj} {l:Nz} (e:z6 o=aa l):∃items n,o.data= .seq items n/\((items.map iB).map nW).toList=l:=by
 let ⟨c,d,dt,sl⟩:=o;induction dt with
 |seq vs n=>obtain rfl:=ag e;exact⟨vs,n,rfl,rfl⟩
 |_=>exact gq e
section
variable {h h':iR} (e:obs h=good) (hk:∀a o,h.get? a=aa o->h'.get? a=aa o)
include e hk
theorem AA {a:Addr} {l:List (Str×Option Value)} (q:nsLook h a l=(true,l.map (·.2))):∃m,h'.Ns a m/\∀p∈l,m p.1=p.2:=
 xe12 (Kc q) λm x y=>⟨m,x.keeps hk,y⟩
theorem N7:∀r∈fW,∃o pm,h'.get? r.addr=aa o/\o.cls= .type "function" /\o.data= .func (r.fd pm)/\h'.CodeRec (.ref r.code) r.qual:=λr hr=>by have a1:look h r.addr Eo=aa (aa (.type "function",r.fd .none)):=sd (f:=λr:eg=>look h r.addr Eo) (g:=λr=>aa (aa (.type "function",r.fd .none))) (congrArg Dn.fns e) hr;have a2:look h r.code wQ=aa (aa r.qual):=sd (f:=λr:eg=>look h r.code wQ) (g:=λr=>aa (aa r.qual)) (congrArg Dn.Sk e) hr;left;let ⟨o,ho,hl⟩:=lJ a1;let ⟨pm,h1,h2⟩:=HZ hl;let ⟨oc,Mv,C6⟩:=lJ a2;let ⟨vs,t,h3,h4⟩:=C2 C6;right;exact⟨o,pm,hk _ _ ho,h1,h2,⟨r.code,oc,vs,t,rfl,hk _ _ Mv,h3,h4⟩⟩
theorem Kd:∀q∈cm,h'.get? q.2=aa (tableObj #[])/\uh h'.get? q.1 q.2:=λq hq=>by
 have a1:h.get? q.2=aa (tableObj #[]):=sd (f:=λq:Addr×Addr=>h.get? q.2) (g:=λz=>aa (tableObj #[])) (congrArg Dn.tabs e) hq;have a2:∀p∈Px,look h p.1 yk=aa (aa (.type "code",aa (.ref p.2.1),.ref p.2.1,.str "/claim/cut.py" p.2.2,.int 3 0,.bool true,.int 276 0)):=
  λp hp=>sd (f:=λq:Addr×Addr×Nat=>look h q.1 yk) (g:=λq=>aa (aa (.type "code",aa (.ref q.2.1),.ref q.2.1,.str "/claim/cut.py" q.2.2,.int 3 0,.bool true,.int 276 0))) (congrArg Dn.Zo e) hp
 refine⟨hk _ _ a1,?_⟩;have a3:∃t,look h q.1 yk=aa (aa (.type "code",aa (.ref q.2),.ref q.2,.str "/claim/cut.py" t,.int 3 0,.bool true,.int 276 0)):=by
  rcases aH.mp hq with rfl|hq
  ·exact⟨_,a2 (317,313,795) (.head _)⟩
  ·rcases aH.mp hq with rfl|hq
   ·exact⟨_,a2 (324,320,808) (.tail _ (.head _))⟩
   ·rcases aH.mp hq with rfl|hq
    ·exact⟨_,a2 (329,327,814) (.tail _ (.tail _ (.head _)))⟩
    ·nomatch hq
 left;let ⟨t,a3⟩:=a3;let ⟨o,ho,hl⟩:=lJ a3;let ⟨vs,b1,b2,b3,b4,b5,b6,b7,b8⟩:=H0 hl;right;refine⟨o,vs,_,_,_,_,_,_,_,hk _ _ ho,b1,b2,b3,b4,b5,b6,b7,b8,?_⟩;exact(by decide:∀q∈cm,q.1≠q.2) q hq
theorem N8:∀a∈[187,196,205,214],∃o n t,h'.get? a=aa o/\o.data= .seq #[.int 0 t,.none] n:=λa ha=>by have a1:look h a z5=aa true:=sd (f:=λa:Addr=>look h a z5) (g:=λq=>aa true) (congrArg Dn.dfl e) ha;left;let ⟨o,ho,hl⟩:=lJ a1;let ⟨n,t,hd⟩:=FE hl;right;exact⟨o,n,t,hk _ _ ho,hd⟩
theorem Ke:∀a∈[188,197,206,215],∃c d hs t n sl,h'.get? a=aa (dfK c d hs t n sl):=λa ha=>by have a1:look h a wR=aa true:=sd (f:=λa:Addr=>look h a wR) (g:=λq=>aa true) (congrArg Dn.Oc e) ha;let ⟨o,ho,hl⟩:=lJ a1;let ⟨c,d,hs,t,n,sl,rfl⟩:=C3 hl;exact⟨c,d,hs,t,n,sl,hk _ _ ho⟩
theorem Kf:∀p∈rI,∃o fs oc items n,h'.get? p.1=aa o/\o.cls= .type "re.Pattern" /\o.data= .fields fs/\o.dict=ac/\fs.getD 6 .none= .int 0 0/\fs.getD 2 .none= .int 0 0/\fs.getD 5 .none= .ref p.2.1/\
  h'.get? p.2.1=aa oc/\oc.data= .seq items n/\((items.map iB).map nW).toList=p.2.2:=λp hp=>by
 have a1:look h p.1 wU=aa (aa (.type "re.Pattern",ac,.int 0 0,.int 0 0,.ref p.2.1)):=sd (f:=λp:Addr×Addr×List Nat=>look h p.1 wU) (g:=λp=>aa (aa (.type "re.Pattern",ac,.int 0 0,.int 0 0,.ref p.2.1))) (congrArg Dn.pats e) hp;have a2:look h p.2.1 z6=aa (aa p.2.2):=sd (f:=λp:Addr×Addr×List Nat=>look h p.2.1 z6) (g:=λp=>aa (aa p.2.2)) (congrArg Dn.Zp e) hp;left;let ⟨o,ho,hl⟩:=lJ a1;let ⟨fs,b1,b2,b3,b4,b5,b6⟩:=FG hl;let ⟨oc,Mv,C6⟩:=lJ a2;let ⟨items,n,b7,b8⟩:=FH C6;right;exact⟨o,fs,oc,items,n,hk _ _ ho,b1,b2,b3,b4,b5,b6,hk _ _ Mv,b7,b8⟩
theorem N9:h'.NoLimit:=
 xe12 (AA e hk (congrArg Dn.lim e)) λm x y=>⟨m,x,y _ (.head _)⟩
theorem Kg:∃o,h'.get? sysModules=aa o:=
 xe11 (jk.mp (congrArg Dn.mods e:(h.get? sysModules).isSome=true)) λo ho=>⟨o,hk _ _ ho⟩
theorem Kh:∃o,h'.get? 4=aa o/\o.cls= .type "module" /\o.dict=aa builtinsNs/\o.data= .plain:=
 ⟨_,hk _ _ (congrArg Dn.bmod e:h.get? 4=_),rfl,rfl,rfl⟩
theorem Oa:∃nm q bs sn sub O5 dd k0 k1 k2 k3 k5,h'.get? 182=aa (excClassObj nm q 182 181 bs [.type "object"] true sn sub false O5 dd k0 k1 k2 k3 k5 "object.__new__"):=
 ⟨_,_,_,_,_,_,_,_,_,_,_,_,hk _ _ (congrArg Dn.cls e:h.get? 182=aa Pz)⟩
theorem H3:∃o n,h'.get? 69=aa o/\o.data= .seq #[.none] n:=
 xe12 (lJ (congrArg Dn.Ea e:look h 69 Ep=aa (aa #[.none]))) λo ho hl=>xe11 (FF hl) λn hd=>⟨o,n,hk _ _ ho,hd⟩
def H4 (w:jE) (os:OsState):cz where
 w:=w
 h₀:=h'
 os:=os
 yN:=true
 glob:=AA e hk (congrArg Dn.glob e)
 blt:=AA e hk (congrArg Dn.blt e)
 lim:=N9 e hk
 fns:=N7 e hk
 tabs:=Kd e hk
 dfl:=N8 e hk
 Oc:=Ke e hk
 mods:=Kg e hk
 bmod:=Kh e hk
 cls:=Oa e hk
 D9:=AA e hk (congrArg Dn.D9 e)
 pats:=Kf e hk
 Ea:=H3 e hk
end
noncomputable def tW (h:iR) (a:Addr):Option Obj:=if a=313\/a=320\/a=327 then ac else h.get? a
def Zn (h:iR):aM:=⟨tW h,λq=>0,λq=>ac⟩
def Ki {h:iR} {a:Addr} {o:Obj} (e:tW h a=aa o):h.get? a=aa o:=by
 unfold tW at e;split at e
 ·nomatch e
 ·exact e
def D8 {h:iR} {a:Addr} {o:Obj} (e:h.get? a=aa o) (n:∀q∈cm,a≠q.2):tW h a=aa o:=by
 unfold tW;rw[if_neg,e];rintro(r|r|r)
 ·exact n (317,313) (.head _) r
 ·exact n (324,320) (.tail _ (.head _)) r
 ·exact n (329,327) (.tail _ (.tail _ (.head _))) r
def Kj (h:iR):∀q∈cm,tW h q.2=ac:=λq hq=>by unfold tW;rw[if_pos];revert q hq;decide
def Ob (S:cz):Rel S (Zn S.h₀) [] S.h₀ where
 frozen:=λz z e=>Ki e
 base:=λz z e n=>D8 e n
 own:=λi ao e=>by simp at e
 apart:=λi hi=>absurd hi (iy _)
 inj:=λi j hi=>absurd hi (iy _)
 pins:=λa o e=>by cases e
 tabs:=λq hq=>⟨Kj _ q hq,λi hi=>absurd hi (iy _),#[],(S.tabs q hq).1,⟨by exact trivial,λz z=>rfl⟩,λpos cd e=>by cases e⟩
def Vp {c:aM} {h:iR} (R:Rel S c O h):OldK S.h₀ h:=by
 have key:∀b o,S.h₀.get? b=aa o->asItWas S.h₀ h b o:=λb o e=>by
  by_cases n:∀q∈cm,b≠q.2
  ·exact .inl (R.frozen _ _ (R.base _ _ e n))
  ·obtain⟨q,hq,rfl⟩:∃q∈cm,b=q.2:=pN λm=>n λq hq x=>m ⟨q,hq,x⟩;left;let ⟨e0,x,vs,_,_,_,_,_,_,_,y1,y2,y3,y4,_⟩:=S.tabs q hq;let ⟨_,_,ps,hp,_⟩:=R.tabs q hq;right;rw[e0]at e;obtain rfl:=ag e;refine .inr (.inl ⟨⟨q.1,x,vs,y1,y2,y3,y4⟩,rfl,#[],ps,rfl,hp.trans ?_⟩);rw[Array.empty_append];rfl
 exact⟨key,λb o e=>by
  rcases key b o e with x|⟨_,_,_,_,_,x⟩|⟨_,_,⟨o',_,_,x,_⟩,_⟩
  ·exact⟨_,x⟩
  ·exact⟨_,x⟩
  ·exact⟨_,x⟩⟩
def Vq {w:jE} {F:Addr->Option Obj} {vs:Vs} {l:List Int} (h:rD vs l): ↑vs= ↑l/\∀(i:Nat) (v:Value) (d:PV),vs[i]? =aa v->(l.map PV.int)[i]? =aa d->dk w F v d:=by
 induction h with
 |nil=>exact⟨rfl,λi v d e=>by simp at e⟩
 |cons n t _ ih=>
  refine⟨congrArg (· +1) ih.1,λi v d e1 e2=> ?_⟩;induction i with
  |zero=>cases e1;cases e2;exact .int _ _
  |succ i=>exact ih.2 i v d e1 e2
def Vr {h:iR} {a:Addr} {f g:Str->Option Value} (x:h.Ns a f) (y:h.Ns a g) (n:Str):f n=g n:=by let ⟨o,es,ep,e1,e2,_,e3⟩:=x;let ⟨o',es',ep',f1,f2,_,f3⟩:=y;rw[e1]at f1;cases f1;rw[e2]at f2;cases f2;exact(e3 n).symm.trans (f3 n)
def Kk:jG 7 callerA:=⟨rfl,by decide,by decide,⟨_,rfl⟩,⟨_,rfl⟩⟩
def Vt {w:jE} {gE eD:bb} (e:obs gE.heap=good) (ht:gE.toks=816) {l:List Int} {v:Value} {as:List Addr} (L:Laid cu.row.records w gE eD [ofPy (IM (l.map MA))] [v] as)
  {a:Addr} {vs:Vs} (hva:v= .ref a) (hL:eD.heap.IsList a vs.toArray) (hi:rD vs l) (hl: ↑l<=63):
  wpAny (MM w) callerA (call (.ref 330) [v]) (λv s'=>GoodWG cu.row.claim (classAt gE.heap) (Tz gE.heap) [ofPy (IM (l.map MA))] eD (.ok (.ret v)) s')
   (λe s'=>GoodWG cu.row.claim (classAt gE.heap) (Tz gE.heap) [ofPy (IM (l.map MA))] eD (.error e) s') eD:=by
 subst hva;have ho:=script_obj L hL;have hz:gE.heap.objs.size=331:=congrArg Dn.size e;have ha:a=331:=(script_at L).1.trans hz;have htk:=script_toks L ht;have hS:(H4 e L.keeps w eD.os).h₀=eD.heap:=rfl;let ⟨h1,h2⟩:=Vq (w:=w) (F:=tW eD.heap) hi;refine Sg (S:=H4 e L.keeps w eD.os) (O:=[]) rfl hl Kk rfl (by exact ae8 htk) (Ob _) (.pv (.lst (D8 ho (by subst ha;decide)) ?_ ?_)) _ _ λc' bv s' q R' K=> ?_
 ·simpa using h1
 ·intro i v d e1 e2;exact h2 i v d (by simpa using e1) e2
 ·exact⟨.inl ⟨.bool true,.bool true,[],rfl,λq=>rfl,.bool true,by wrow_post,λq=>⟨kJ,λq h=>nomatch h⟩⟩,Vp R',K.os,K.bare (by rw[L.gens];intro y hy;simp at hy)⟩
def Sj:WalkX wO AQ (λq q=>True) IW (λq=>(good,816)) cu.row.toRowW yl [] λf vs=>PySem.call f vs:=by
 intro w gE eD mg mb G y a o pm cd doc dV kV ho hd C7 hD Gb hg args vals as L jM alc hrd hwl Ec;have hms:=Vr G.T.g ((Heap.Ns.of_isNs (congrArg (λx=>x.1.glob.1) y:gE.heap.isNs mainGlobals=true)).keeps L.keeps) "law";have hml:mg "law" =aa (.ref a):=Gb;have h0:gE.heap.nsMap mainGlobals "law" =aa (.ref 330):=congrArg (λx=>x.1.own) y;rw[hml,h0]at hms;cases hms;clear hd ho C7 hD Gb hml
 wrow_args jM alc hrd hwl Ec
 rename rD _ _=>hi
 rename PySem.Heap.IsList _ _ _=>hL
 rename ¬_<_=>hc
 exact Vt (congrArg Prod.fst y) (congrArg Prod.snd y) L rfl hL hi (by exact ae9 hc)
def holds:cu.Holds:=
 holds_law PA λs1=>holds_openX (q:=wO) (loose:=AQ) (Xt:=λs=>recOk [] s) (XP:=λz z=>True) (Yf:=IW) (Ya:=λz=>(good,816)) (d:=yl) (kwd:=[]) (N:=3728)
  MH (λz z=>trivial) (λz z z h z=>h) TY TZ rfl (λz e=>recFacts_of e) rfl s1 Yb PB Es Sj
end Mine
theorem PySem.Challenge.cw_ti0077_01_holds : PySem.Challenge.rw_ti0077_01.Holds := by
 exact Mine.holds
