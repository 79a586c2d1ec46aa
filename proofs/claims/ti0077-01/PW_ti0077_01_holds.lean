import PyProof.Rows.All
import Wide.All
import OpenK.AllK
import Wide.FinOn
import Lean
import PySem.Challenge.RW_ti0077_01
set_option linter.defProp false
open Option renaming some->aa,none->ac,map_eq_some_iff->ar,bind_eq_some_iff->aG,bind_some->bK,isSome_iff_exists->ji,getD_some->zF,map_some->Az,isSome_none->Mp
open Nat renaming le_refl->ab,le_trans->aA,lt_of_lt_of_le->a8,le_add_right->bh,lt_of_le_of_lt->bI,add_sub_cancel_left->bO,le_antisymm->bR,lt_or_ge->bS,le_of_lt->ce,zero_le->cI,ne_of_lt->cU,sub_self->dc,not_lt_of_le->dE,add_le_add_left->dX,lt_succ_self->ez,lt_trichotomy->eH,lt_succ_of_lt->eI,le_of_eq->fg,not_lt->fD,mod_lt->fO,le_of_lt_succ->fQ,add_le_add->gb,sub->gm,le_add_left->gn,lt_succ_of_le->gJ,add->ir,not_lt_zero->iy,min_eq_left->iz,lt_trans->iK,add_assoc->iM,le_of_not_lt->iR,le_succ_of_le->jm,sub_le->jR,ne_of_gt->jS,min_le_left->j3,sub_le_iff_le_add->kj,lt_irrefl->lS,le_succ->mr,le_of_succ_le_succ->mQ,add_sub_of_le->mR,mul->n7,exists_eq_succ_of_ne_zero->oQ,mul_le_mul_left->pM,add_lt_add_left->pN,add_left_cancel->pO,zero_add->qg,sub_add_cancel->qI,lt_of_le_of_ne->qJ,ble->ru,beq->rv,lt_of_succ_lt_succ->tZ,add_comm->ua,sub_ne_zero_of_lt->uZ,sub_eq_zero_of_le->u0,le_sub_one_of_lt->vZ,add_le_add_right->v7,sub_sub_eq_min->yQ,lt_or_eq_of_le->yR,eq_zero_or_pos->yS,ble_eq->yT,add_right_comm->yU,lt_asymm->zW,le_total->zX,succ_le_succ->Cn,sub_sub_self->Co,not_le_of_lt->Cp,min_le_right->Cq,lt_of_not_le->Cr,two_mul->CB,one_mul->CC,succ->FX,beq_eq->FY,sub_eq_zero_iff_le->Kv,rec->Kw,mod->Kx,min_comm->Ky,lt_add_of_pos_left->Kz,le_div_iff_mul_le->Mq,sub_le_sub_right->Of,sub_le_of_le_add->Og,one_pos->Oh,not_succ_le_zero->Oi,le_zero->Oj,div_lt_of_lt_mul->Ol,div_le_of_le_mul->Om,add_mul->Oo,add_lt_add_right->Oq,sub_lt->SU,pos_of_ne_zero->SV,zero_lt_of_lt->Tn,sub_pos_of_lt->To,pow->Tp,le_of_succ_le->Tq,min_eq_right->VK
open Option.some renaming inj->ag,injEq->uY
open PySem.Str renaming ofString->ah
open List renaming length_append->aj,getElem?_eq_getElem->aq,length_map->aw,mem_cons_self->ay,length_cons->az,mem_singleton->aB,getElem?_append_right->aE,mem_cons->aH,mem_cons_of_mem->aK,mem_map->aQ,getElem?_append_left->aW,mem_filter->aY,length_singleton->be,length_set->bi,filter_cons->bl,mem_of_getElem?->bo,append_nil->bu,map_cons->bx,getElem?_eq_none->bB,map_map->bC,getElem?_set_ne->bD,append_assoc->bE,map_append->bH,flatMap_cons->bJ,filter_eq_self->bL,getElem?_map->bN,replicate->bQ,filter_append->bT,getElem?_set_self->bU,mem_append->cb,map_congr_left->cj,length_take->cF,range->cJ,filter_eq_nil_iff->cK,lookup_cons->di,flatten_append->dz,filter_map->dF,mem_range->dM,mem_append_right->dS,pairwise_cons->ef,filter_cons_of_pos->eo,filter_cons_of_neg->eu,getElem?_eq_some_iff->eO,take_of_length_le->eP,length->eX,length_filter_le->eY,mem_append_left->fu,nodup_cons->fE,length_drop->fH,all_eq_true->fI,flatten_cons->fP,nil_append->gf,not_mem_nil->gw,map_flatMap->gy,lookup->gP,drop_eq_getElem_cons->gU,pairwise_append->ib,getElem?_cons_succ->il,filter_congr->io,flatMap_append->iC,mem_flatMap->iO,flatMap_map->iP,cons_prefix_cons->i4,foldl_cons->jf,set_append_right->j4,set_append_left->kB,perm_ext_iff_of_nodup->kC,nodup_nil->kE,map_fst_zip->kY,filter_flatMap->lq,getElem?_take_of_lt->lJ,filterMap_cons_some->lK,filterMap_cons_none->lL,range_succ->lT,length_nil->lU,take_append_drop->nC,length_replicate->nD,mem_flatten->nE,map_snd_zip->nF,eq_nil_iff_forall_not_mem->nG,filter_nil->oZ,length_flatMap->pH,zip_cons_cons->qv,getD_eq_getElem?_getD->qw,forIn_nil->qx,drop_drop->qy,length_range->rn,ext_getElem?->ro,lookup_eq_none_iff->sv,length_eq_zero_iff->sy,flatMap_nil->sz,cons_append->sC,map_id'->sN,drop_of_length_le->sO,drop_eq_nil_of_le->sP,forIn_cons->ub,range_eq_range'->vt,replicate_succ->wu,getElem_of_mem->wy,mem_filterMap->ye,map_nil->zG,sublist_nil->AA,getElem_mem->AB,getElem_inj->AC,any_eq_true->AD,of_mem_zip->CD,length_eraseIdx_of_lt->Ee,drop_zero->Ef,extract_eq_take_drop->FZ,eq_of_mem_replicate->Ge,pairwise_of_forall->It,getElem?_replicate->Iu,all_eq_not_any_not->Iv,extract_toArray->Mr,mem_map_of_mem->Ot,map_eq_nil_iff->Ou,map_eq_flatMap->Ov,zip_map_right->OK,set_cons_zero->OL,set_cons_succ->OM,prefix_append->ON,lookup_append->OO,getElem?_drop->OP,findIdx?_cons->OQ,size_toArray->SW,reverse_cons->SX,nodup_append->SY,range'_succ->Ts,nodup_range->Tt,isEmpty_iff->Tu,drop_left->Xx
open PySem renaming wpAny_bind->am,wpAny_pure->aR,Shared->bb,wpAny_Call_Name_kw->cn,Around->cR,wpAny_standAt->cV,wpAny_execs_cons->da,wpAny_holding->dH,Comprehension->dI,builtinLookup_eq_fast->eA,wpAny_Call_method_lateS->eK,DictEntry->eL,codeAny_of_tree->fb,callWith_function_kw->fJ,wpAny_mono->fZ,wpAny_truthy_bool->gc,seg_execs_nil->gR,seg_execs_cons->gT,typeLookup_type->g5,wpAny_newObj_type->iE,wpAny_evalAll_nil->iG,Heap->iQ,wpAny_of_eq->i5,wpAny_execs_nil->jy,wpAny_noted->jA,World->jB,wpAny_Constant_str->kh,wpAny_onRaise->kA,wpAny_Assign_Name->kW,evalArgs_kw->lA,Env->lW,Operator->mv,wpAny_with_toks->mC,wpAny_is_plain->nQ,assign->pE,wpAny_loadName_local->qb,NameKind->qd,wpAny_isTrue_value->sa,wpAny_bindName->sb,typeIs_str->sd,wpAny_Tuple->sJ,wpAny_list_append_plain->uS,wpAny_call_entry->uT,wpAny_callSpecial?_slot->uU,TriplesOk->uW,wpAny_call->vW,codeAny_mono->vX,CmpOp->wk,wpAny_storeName_local->x6,wpAny_isTrue_Compare1->x7,wpAny_newFunctionEnv->yL,wpAny_Expr_any->yM,seg_wrap->yN,isSubtype_type->yO,wpAny_Constant_bool->zT,Sem->zV,codeAny_block->Ax,wpAny_pyIter_tuple->Ce,wpAny_assign_Tuple->Cf,wpAny_Name->Cg,Flow->Cj,wpAny_isNot_plain->C4,slot_list_getitem->C5,Tok->C6,StrKeys->C7,Seg->FR,JoinOk->FS,wpAny_field->F8,wpAny_alloc->F9,wpAny_BinOp->Ga,boolOp->Ip,wpAny_rule->Kr,wpAny_load->Ks,wpAny_layCells->Kt,call_meets->Ku,wpAny_For->OH,codeAny_call_function->Tf,wpAny_IfExp->VD,seqIndex_of->VE,UniqKeys->VF,GenState->VI
open PySem.Heap renaming get?_push_of_some->aJ,get?_push_size->aV,lt_size->bW,size_push->eU,SameBut->gH,ExtBut->rm,get?_update_self->uJ
open Array renaming length_toList->bz,getElem?_toList->fR,getElem?_eq_some_iff->iS,toList_append->lj,getElem?_eq_none->mw,getElem?_eq_getElem->qL,toList_inj->si,mem_toList_iff->u5,all_eq_true_iff_forall_mem->yX,getElem?_push_size->F3,getElem?_push_lt->Iw,mem_of_getElem?->IH,mem_def->XB
open Bool renaming false_ne_true->bF,and_eq_true->dj,eq_iff_iff->dr,and_eq_true_iff->dD,noConfusion->eV,false_eq_true->fw,not_eq_true'->jk,eq_false_iff->kl,rec->sD,or_eq_false_iff->vu
open Prod.mk renaming inj->bG,injEq->Tj
open PySem.Calls renaming spliced_cons->bX,callWith_builtin->cX,spliced_nil->eB,Name_function_global->qf,loadGlobal_builtin->FU
open PySem.Challenge renaming rw_ti0077_01->cu,pw_ti0077_01->pF
open PySem.Builtin.Str renaming tooLong->cw,occurrences->je,strSliceIndices->nB,strSub->nR
open PySem.Around renaming under_of_weight->cy
open Int renaming ofNat_lt->cL,natCast_nonneg->dO,le_trans->ec,ofNat_le->fK,lt_trans->jn,toNat_sub->lV,toNat->nS,not_lt->nT,natCast_add->pI,lt_of_le_of_lt->qK,toNat_natCast->rx,add_sub_assoc->ry,ofNat_sub->sf,add_comm->uc,le_antisymm->uK,le_refl->v8,toNat_of_nonneg->ya,sub_eq_add_neg->yV,add_sub_cancel->yW,mul_le_mul_of_nonneg_right->Ct,neg_sub->CE,fdiv_eq_ediv_of_nonneg->F1,add_le_add->F2,toNat_of_nonpos->OS,sub_add_cancel->S0,not_le->S1,lt_of_lt_of_le->S2,min_eq_right->VL,max_eq_right->VM,le_max_right->VN,min_eq_left->Xy,max_eq_left->Xz,le_max_left->XA
open PySem.Txt renaming lower->cM,contains->eS,replace->iL,slice->lh,upper->sH,join->zU
open Nat.Internal.Linear renaming Context->dh,Expr->el
open PySem.Float64 renaming cmp->dK,nearestOf->ia,isFinite->jv,decode->ki,ofBin->li,zero->mo,isInf->mZ,shift->qH,fmod->se,ofFrac->tX,align->vn,pack->x9,sgn->zC,div->zD,isZero->Ck,ofInt->C8,mul->Iq,add->Ir,roundMag->Oe,divmod->SR,isNaN->Tg,sub->Xv,neg->Xw
open PyProof.Rows renaming callWith_type->ed,tail_any->lR,AllBare->mq,Subscript_->pL,IntsAre->rr,Assign_Tuple_swapped->tY,unpackItems_tuple->vq,floordiv_int->yP,assign_Name->zE,UnaryOp_->Cm,neg_int->CA,eq_str->Dc
open PySem.Value renaming ref->eM,none->qc,isStrOf_shape->vY,type->Od
open List.Nodup renaming length_le_of_subset->fq
open Exists renaming intro->fX
open PySem.Builtin.Re renaming reTurnSteps->gu,reRawOf->iB,reTarget->sM,reRunToEnd->C9,reAnswer->FV,reDrive->Gd
open List.Pairwise renaming imp_of_mem->gK,nil->gW,map->gX
open PySem.Builtin.List renaming listFitsIndex->iq
open PySem.Sem renaming bind_eq_wrap'->jl,wrap_wrap->lQ,bind_eq_wrap->VH
open List.cons renaming inj->jH
open PySem.NameKind renaming cell->kX,free->SQ
open Nat.succ renaming inj->lX
open PySem.Heap.SameBut renaming update->mP
open Ordering renaming lt->nc,eq->VJ
open PySem.Builtin.Range renaming rangeSize->pG,small->Cz
open Classical renaming byContradiction->pJ
open Int.ofNat renaming inj->qh
open PySem.Flt renaming toInt->qu
open PySem.Heap.NoLimit renaming keeps->sL
open PySem.SeqAt.EqAt renaming of_refs->uI,same->yd,str_str->Gc
open PySem.Walks renaming tuple->uV
open PySem.Builtin.SmallTypes renaming nextOf->uX
open PySem.Builtin.Generator renaming genWake->vo
open PySem.SeqAt renaming EqAt->x8
open PySem.SeqAt.RcAt renaming lists_lengths->Ay,lists->IF
open PySem.StrLaws renaming At->Ci,partsFrom->Mn
open Nat.Internal.Linear.ExprCnstr renaming mk->Dd,eq_false_of_isUnsat->De
open PyProof renaming noPylong_small->FW
open List.Sublist renaming refl->F0
open PySem.W renaming hideAll_get->Gb,kla_fn->SP
open PySem.PyData renaming list->IG,int->Mo
open Function renaming comp_def->KA
open ForInStep renaming yield->Ms
open List.Perm renaming cons->Ow
open PySem.Manifest renaming find?->OI
open PyProof.Rows.AllBare renaming push->OJ
open LawfulBEq renaming eq_of_beq->OR
open PySem.ExcName renaming means->Th
open PySem.BindsTo renaming of_eq->Ti
open PySem.Shared renaming setGen->VG
open And renaming intro->VO
open PySem.Frame renaming guarded->Xu
open PySem PySem.W PySem.W.X
set_option autoImplicit true
set_option maxRecDepth 100000
set_option genSizeOf false
set_option genSizeOfSpec false
set_option genInjectivity false
set_option bootstrap.genMatcherCode false
set_option linter.unusedVariables false
set_option tactic.hygienic false
set_option compiler.extract_closed false
noncomputable section
namespace Mine
abbrev NN:=Nat->Nat
abbrev VS:=Value->bb->Prop
abbrev LN:=List (List Nat)
abbrev SS:=List (Str×Str)
abbrev Vs:=List Value
abbrev Nz:=List Nat
abbrev Sn:=List (Str×Nat)
def wn (k : Lean.Name) (a : List Lean.Syntax) : Lean.Syntax := .node .none k a.toArray
def wN (k : String) : Lean.Name := ("Lean.Parser.Tactic." ++ k).toName
def wx : Lean.Syntax := .atom .none ""
def wl (a : List Lean.Syntax) : Lean.Syntax := wn `null a
def wp (k : String) (a : List Lean.Syntax) : Lean.Syntax := wn (wN k) (wx :: a)
def wm (k : String) (a : List Lean.Syntax) : Lean.Syntax := wn (.str `Lean.Parser.Term k) a
def ws (l : List Lean.Syntax) : Lean.Syntax := wn (wN "tacticSeq") [wn (wN "tacticSeq1Indented") [wl (l.intersperse (wl []))]]
def wq (l : List Lean.Syntax) : Lean.Syntax := wp "paren" [ws l, wx]
def wf (l : List (List Lean.Syntax)) : Lean.Syntax := wp "first" [wl (l.map fun t => wn `group [wx, ws t])]
def wh (t : List Lean.Syntax) : Lean.Syntax := wf [t, [wp "fail" [wl []]]]
def wI (s : String) : Lean.Syntax := if s.isNat then Lean.Syntax.mkNumLit s else if s == "?" then wm "syntheticHole" [wx, .atom .none "_"] else if s == "_" then wm "hole" [wx] else Lean.mkIdent (.mkSimple s)
def wi (s : String) : Lean.Syntax := if s.isNat || s == "?" then wI s else Lean.mkIdent s.toName
def wa (f : Lean.Syntax) (a : List Lean.Syntax) : Lean.Syntax := wm "app" [f, wl a]
def wr (f : String) (a : List Lean.Syntax) : Lean.Syntax := wp "refine" [wa (wi f) a]
def wT (e : Lean.Syntax) : Lean.Syntax := wp "refine" [wm "typeAscription" [wm "hygienicLParen" [wx, wn `hygieneInfo [wi ""]], wI "?", wx, wl [e], wx]]
def we (e : Lean.Syntax) : Lean.Syntax := wa e [wm "ellipsis" [wx]]
def wK (p : Lean.Syntax) (k : String) : Bool := p.isOfKind (wN k)
def wC (e : Lean.Syntax) : List Lean.Syntax := if e.isIdent then [wp "tacticTry_" [ws [wp "clear" [wl [e]]]]] else []
def wo (p : Lean.Syntax) (e : Lean.Syntax) : Lean.Syntax := wp "obtain" [wl [wn (wN "rcasesPatMed") [wl [p]]], wl [], wl [wx, wl [e]]]
def wg (p : Lean.Syntax) (z : String) : Lean.Syntax × List Lean.Syntax :=
  if wK p "rcasesPat.one" then if p[0].getId == `rfl then (wI z, [wp "subst" [wl [wI z]]]) else (p[0], [])
  else if wK p "rcasesPat.ignore" then (wI "_", []) else (wI z, [wo p (wI z)])
noncomputable def iN (b:Bool) (x y:Nat):Nat:= @sD (λq=>Nat) y x b
def yY {b:Bool} {p:Prop} [Decidable p] (h:(b=true)=p) {x y:Nat}:iN b x y=if p then x else y:=by
 subst h;cases b
 ·exact(if_neg bF).symm
 ·exact(if_pos rfl).symm
noncomputable def XC (s l q:Nat):Nat:=iN (ru (Tp (nat_lit 2) (ir l s)) q) (ir l s) l
noncomputable def lgT (q l:Nat):Nat:=XC (nat_lit 1) (XC (nat_lit 2) (XC (nat_lit 4) (XC (nat_lit 8) (XC (nat_lit 16) (XC (nat_lit 32) (XC (nat_lit 64) l q) q) q) q) q) q) q
noncomputable def lgY (q l o:Nat):Nat:=iN (ru (Tp (nat_lit 2) l) q) (iN (ru (FX q) (Tp (nat_lit 2) (FX l))) l o) o
noncomputable def lgC (q:Nat):Nat:=lgY q (lgT q (nat_lit 0)) (Nat.log2 q)
noncomputable def lgG (q l:Nat):Nat:=lgY q l (lgY q (FX l) (lgC q))
def IJ (q l o:Nat) (ho:o=q.log2):lgY q l o=q.log2:=by
 show iN (ru (2 ^ l) q) (iN (ru (q+1) (2 ^ (l+1))) l o) o=_;rw[yY (p:=2 ^ l<=q) yT,yY (p:=q<2 ^ (l+1)) yT];by_cases h:2 ^ l<=q
 ·rw[if_pos h];by_cases k:q<2 ^ (l+1)
  ·rw[if_pos k];exact((Nat.log2_eq_iff λe=>absurd (e▸h) (Nat.not_le_of_gt (Nat.pow_pos (by decide)))).mpr ⟨h,k⟩).symm
  ·rw[if_neg k,ho]
 ·rw[if_neg h,ho]
def XD (q:Nat):lgC q=q.log2:=IJ q (lgT q (nat_lit 0)) _ rfl
def OU (q l:Nat):lgG q l=q.log2:=IJ _ _ _ (IJ _ _ _ (XD q))
noncomputable def heS (q r b:Nat):Nat:=iN (ru r b) (iN (rv r b) (ir q (Kx q (nat_lit 2))) q) (FX q)
noncomputable def heN (a b:Nat):Nat:=heS (Nat.div a b) (n7 (nat_lit 2) (Kx a b)) b
def XE (a b:Nat):Float64.halfEven a b=heN a b:=by
 show(if (decide (2*(a%b)>b)||(2*(a%b)==b&&a/b%2==1))=true then a/b+1 else a/b)=heS (a/b) (2*(a%b)) b;generalize a/b=q;generalize 2*(a%b)=r;unfold heS;rw[yY (p:=r<=b) yT,yY (p:=r=b) FY];by_cases h:r<=b
 ·rw[if_pos h,decide_eq_false (fD.mpr h),Bool.false_or];by_cases k:r=b
  ·rw[if_pos k,beq_iff_eq.mpr k,Bool.true_and];show _=q+q%2;rcases Nat.mod_two_eq_zero_or_one q with e|e<;>(rw[e];rfl)
  ·rw[if_neg k,beq_false_of_ne k];rfl
 ·rw[if_neg h,decide_eq_true (Nat.not_le.mp h)];rfl
def aaE (n d:Nat) (k:Int):qH n d k=(n*2 ^ k.toNat,d*2 ^ (-k).toNat):=by
 unfold qH;by_cases h:k>=0
 ·rw[if_pos h,OS (Int.neg_nonpos_of_nonneg h),Nat.pow_zero,Nat.mul_one]
 ·rw[if_neg h,OS (Int.le_of_lt (S1.mp h)),Nat.pow_zero,Nat.mul_one]
noncomputable def tw (n:Nat):Nat:=Tp (nat_lit 2) n
noncomputable def rmF (n d E:Nat):Nat:=ir (n7 E (nat_lit 4503599627370496)) (heN (n7 n (tw (gm (nat_lit 1074) E))) (n7 d (tw (gm E (nat_lit 1074)))))
noncomputable def mnI (x:Nat):Nat:=iN (ru x (nat_lit 9218868437227405312)) x (nat_lit 9218868437227405312)
noncomputable def rmE (n d k j:Nat):Nat:=gm (iN (ru (n7 d (tw (gm k j))) (n7 n (tw (gm j k)))) (ir k (nat_lit 1022)) (ir k (nat_lit 1021))) j
noncomputable def rmN (n d g h:Nat):Nat:=iN (rv n (nat_lit 0)) (nat_lit 0) (mnI (rmF n d (rmE n d (lgG n g) (lgG d h))))
def sh2 (n d t c:Nat):qH n d ((t:Int)- c)=(n*2 ^ (t- c),d*2 ^ (c- t)):=by rw[aaE,lV,CE,lV]
def VP (k j a c:Nat) (h:(a:Int)- 1074= -c):max ((k:Int)- j- c) (-1074)=((gm (ir k a) j:Nat):Int)- 1074:=by show _=((k+a- j:Nat):Int)- 1074;rw[<- lV,Int.toNat_eq_max,<- Int.sub_max_sub_right,pI,yV (a:=(k:Int)+a),Int.add_right_comm,ry,h];rfl
def aaF (n d g h:Nat):Oe n d=rmN n d g h:=by
 unfold Oe rmN rmE;by_cases h:n=0
 ·subst h;rfl
 ·rw[beq_false_of_ne h,if_neg bF,yY (p:=n=0) FY,if_neg h,OU,OU];generalize n.log2=k;generalize d.log2=j;dsimp only;rw[CE,sh2];dsimp only;rw[yY (b:=ru (n7 d (tw (gm k j))) (n7 n (tw (gm j k)))) (p:=n*2 ^ (j- k) >=d*2 ^ (k- j)) yT];generalize hE:gm (if n*2 ^ (j- k) >=d*2 ^ (k- j) then ir k (nat_lit 1022) else ir k (nat_lit 1021)) j=E;have he:max (if n*2 ^ (j- k) >=d*2 ^ (k- j) then((k:Int)- j)- 52 else((k:Int)- j)- 53) (-1074)=(E:Int)- 1074:=by
   subst hE;by_cases h:n*2 ^ (j- k) >=d*2 ^ (k- j)
   ·rw[if_pos h,if_pos h];exact VP k j 1022 52 rfl
   ·rw[if_neg h,if_neg h];exact VP k j 1021 53 rfl
  rw[he,S0,CE];unfold mnI;rw[yY yT];have hs:=sh2 n d 1074 E;rw[show(1074:Int)=((1074:Nat):Int) from rfl,hs];dsimp only;rw[XE,Ky];exact Nat.min_def
noncomputable def zY (g h:Nat) (s:Bool) (n d:Nat):UInt64:=x9 s (rmN n d g h)
def vw (g h:Nat):tX=zY g h:=funext λs=>funext λn=>funext λd=>by unfold tX zY;rw[aaF n d g h]
noncomputable def Eg:Bool->Nat->Nat->UInt64:=zY (nat_lit 2) (nat_lit 3)
def Df:tX=Eg:=vw _ _
noncomputable def rbN (g m t:Nat):Nat:=rmN (n7 m (tw (gm t (nat_lit 2148)))) (tw (gm (nat_lit 2148) t)) (ir g (gm t (nat_lit 2148))) (gm (nat_lit 2148) t)
def AE (g:Nat) (s:Bool) (m t:Nat):li s m ((t:Int)- 2148)=x9 s (rbN g m t):=by unfold li;rw[show(2148:Int)=((2148:Nat):Int) from rfl,sh2,vw (ir g (gm t (nat_lit 2148))) (gm (nat_lit 2148) t),CC];rfl
def bq (a b:Nat):(a==b)=rv a b:=by rw[dr,beq_iff_eq,FY]
noncomputable def Tv (x:Nat):Nat:=Kx (Nat.div x (nat_lit 4503599627370496)) (nat_lit 2048)
noncomputable def frN (x:Nat):Nat:=Kx x (nat_lit 4503599627370496)
noncomputable def OW (x:Nat):Bool:=rv (Nat.div x (nat_lit 9223372036854775808)) (nat_lit 1)
noncomputable def Tw (x:Nat):Nat:=iN (rv (Tv x) (nat_lit 0)) (frN x) (ir (nat_lit 4503599627370496) (frN x))
noncomputable def Eh (x:Nat):Nat:=gm (Tv x) (nat_lit 1)
def OX {x:UInt64} (h:rv (Tv x.toNat) (nat_lit 2047)=false):ki x= .fin (OW x.toNat) (Tw x.toNat) ((Eh x.toNat:Int)- 1074):=by
 have h:Tv x.toNat≠2047:=λe=>by rw[e]at h;exact nomatch h
 unfold Tw Eh ki;have hE:x.toNat/2 ^ 52%2048=Tv x.toNat:=rfl;have hF:x.toNat%2 ^ 52=frN x.toNat:=rfl;have hS:(x.toNat/2 ^ 63==1)=OW x.toNat:=bq _ _;rw[hE,hF,hS];dsimp only;rw[beq_false_of_ne h,if_neg bF,yY (p:=Tv x.toNat=0) FY];by_cases k:Tv x.toNat=0
 ·rw[k];rfl
 ·rw[beq_false_of_ne k,if_neg bF,if_neg k];obtain(⟨e,he⟩):=oQ k;rw[he];exact congrArg (Float64.Num.fin _ _) (ry e 1 1075)
noncomputable def iF (b:Bool) (x y:UInt64):UInt64:= @sD (λq=>UInt64) y x b
def AF {b:Bool} {x y z:UInt64} (h1:b=true->x=z) (h2:b=false->y=z):iF b x y=z:=by
 cases b
 ·exact h2 rfl
 ·exact h1 rfl
noncomputable def fast (f:Nat->Nat->UInt64) (g:UInt64->UInt64->UInt64) (x y:UInt64):UInt64:=iF (rv (Tv x.toNat) (nat_lit 2047)) (g x y) (iF (rv (Tv y.toNat) (nat_lit 2047)) (g x y) (f x.toNat y.toNat))
def zZ {f:Nat->Nat->UInt64} {g:UInt64->UInt64->UInt64} {x y:UInt64} (h:∀a m E b k F,ki x= .fin a m ((E:Nat)- 1074)->ki y= .fin b k ((F:Nat)- 1074)->a=OW x.toNat->m=Tw x.toNat->E=Eh x.toNat->b=OW y.toNat->k=Tw y.toNat->F=Eh y.toNat->f x.toNat y.toNat=g x y):fast f g x y=g x y:=
 AF (λq=>rfl) λh1=>AF (λq=>rfl) λh2=>h _ _ _ _ _ _ (OX h1) (OX h2) rfl rfl rfl rfl rfl rfl
noncomputable def xoB (a b:Bool):Bool:= @sD (λq=>Bool) b (@sD (λq=>Bool) true false b) a
def IK (a b:Bool):(a !=b)=xoB a b:=by cases a<;>cases b<;>rfl
noncomputable def aaG (x y:Nat):UInt64:=x9 (xoB (OW x) (OW y)) (rbN (nat_lit 104) (n7 (Tw x) (Tw y)) (ir (Eh x) (Eh y)))
noncomputable def XF (x y:UInt64):UInt64:=fast aaG Iq x y
def KE (x y:UInt64):XF x y=Iq x y:=zZ λa m E b k F h1 h2 ea em eE eb ek eF=>by unfold Iq aaG;rw[h1,h2,<- ea,<- em,<- eE,<- eb,<- ek,<- eF,<- IK];show _=li (a !=b) (m*k) _;rw[show(E:Int)- 1074+(F- 1074)=((E+F:Nat):Int)- 2148 by rw[yV,yV,Int.add_assoc,Int.add_left_comm (-1074),<- Int.add_assoc];rfl,AE 104];rfl
noncomputable def Tx (x y:Nat):Nat:=n7 (Tw x) (tw (gm (Eh x) (Eh y)))
noncomputable def mgN (x y:Nat):Nat:=ir (gm (Eh x) (gm (Eh x) (Eh y))) (nat_lit 1074)
def XG (a b c:Int):a- c- (b- c)=a- b:=Int.add_sub_add_right a (-c) b
def VQ (a:Bool) (m E:Nat) (b:Bool) (k F:Nat):vn a m ((E:Int)- 1074) b k ((F:Int)- 1074)=(zC a (m*2 ^ (E- F)),zC b (k*2 ^ (F- E)),((E- (E- F)+1074:Nat):Int)- 2148):=by
 have e1:E- (E- (E- F))=E- F:=Co (jR ..);have e2:F- (E- (E- F))=F- E:=by rw[yQ,Ky,<- yQ,Co (jR ..)]
 unfold vn;rw[Int.sub_min_sub_right,<- Lean.Omega.Int.ofNat_min,<- yQ];generalize E- (E- F)=G at e1 e2⊢;dsimp only;rw[XG,XG,lV,lV,e1,e2,pI,ry];rfl
noncomputable def VR (g t:Nat) (s:Bool) (n:Nat):UInt64:=x9 s (rbN g n t)
noncomputable def adD (g t p q:Nat):UInt64:=iF (ru q p) (VR g t false (gm p q)) (VR g t true (gm q p))
noncomputable def adM (a b:Bool) (g t p q:Nat):UInt64:= @sD (λz=>UInt64) (@sD (λz=>UInt64) (VR g t false (ir p q)) (adD g t p q) b) (@sD (λz=>UInt64) (adD g t q p) (VR g t true (ir p q)) b) a
noncomputable def gsN (x y:Nat):Nat:=ir (nat_lit 52) (ir (gm (Eh x) (Eh y)) (gm (Eh y) (Eh x)))
noncomputable def aaH (x y:Nat):UInt64:=adM (OW x) (OW y) (gsN x y) (mgN x y) (Tx x y) (Tx y x)
noncomputable def Tz (x y:UInt64):UInt64:=fast aaH Ir x y
def aik {g t:Nat} {s:Bool}:mo s=VR g t s 0:=by unfold VR rbN;rw[show n7 0 _=0 from Nat.zero_mul _];rfl
def KG {g t n:Nat} {c s:Bool} {z:Int} (hz:z=zC s n) (hc:n=0->c=s):(if z==0 then mo c else li (z<0) z.natAbs ((t:Int)- 2148))=VR g t s n:=by
 unfold zC at hz;rcases yS n with(h|h)
 ·rw[hc h,h];rw[h]at hz;rw[show z=0 by rw[hz];cases s<;>rfl];exact aik
 ·rw[if_neg (by rw[beq_iff_eq,hz];cases s<;>simp<;>exact jS h),AE g,show z.natAbs=n by rw[hz];cases s<;>simp,show decide (z<0)=s by rw[hz];cases s<;>simp<;>exact h];rfl
def OY {g t p q:Nat} {z:Int} (hz:z=(p:Int)- q):(if z==0 then mo false else li (z<0) z.natAbs ((t:Int)- 2148))=adD g t p q:=by
 refine(AF (λh=> ?_) λh=> ?_).symm
 ·exact(KG (s:=false) (hz.trans (sf (Nat.le_of_ble_eq_true h)).symm) λy=>rfl).symm
 ·have h:p<q:=Cr λk=>by rw[Nat.ble_eq_true_of_le k]at h;exact nomatch h
  exact(KG (s:=true) (hz.trans (show _= -((q- p:Nat):Int) by rw[sf (ce h),CE])) λk=>absurd k (uZ h)).symm
def Ei (x y:UInt64):Tz x y=Ir x y:=zZ λa m E b k F h1 h2 ea em eE eb ek eF=>by
 unfold Ir aaH Tx mgN;rw[h1,h2,<- ea,<- em,<- eE,<- eb,<- ek,<- eF];show _=match vn a m _ b k _ with|(p,q,g)=>if p+q==0 then mo (a&&b) else li (p+q<0) (p+q).natAbs g
 rw[VQ];unfold adM tw;cases a<;>cases b
 ·exact(KG (pI _ _).symm λz=>rfl).symm
 ·exact(OY rfl).symm
 ·exact(OY (uc _ _)).symm
 ·exact(KG (s:=true) (Int.neg_add.symm) λz=>rfl).symm
noncomputable def iZ (k:Nat) (x y:UInt64):UInt64:=iF (rv k (nat_lit 0)) x y
noncomputable def aaI (x y:Nat):UInt64:=zY (ir (nat_lit 52) (gm (Eh x) (Eh y))) (ir (nat_lit 52) (gm (Eh y) (Eh x))) (xoB (OW x) (OW y)) (Tx x y) (Tx y x)
noncomputable def aaJ (x y:UInt64):UInt64:=iZ (Tw y.toNat) (zD x y) (fast aaI zD x y)
def TA (x y:UInt64):aaJ x y=zD x y:=AF (λq=>rfl) λh=>zZ λa m E b k F h1 h2 ea em eE eb ek eF=>by unfold zD aaI Tx;rw[h1,h2,<- ea,<- em,<- eE,<- eb,<- ek,<- eF,<- IK];have hk:(k==0)=false:=(bq _ _).trans (ek▸h);show _=if (k==0)=true then _ else tX (a !=b) (qH m k (E- 1074- (F- 1074))).1 (qH m k (E- 1074- (F- 1074))).2;rw[hk,if_neg bF,XG,sh2,vw (ir (nat_lit 52) (gm E F)) (ir (nat_lit 52) (gm F E))];rfl
noncomputable def fmM (x y:Nat):UInt64:=VR (nat_lit 52) (mgN x y) (OW x) (Kx (Tx x y) (Tx y x))
noncomputable def Gf (x y:UInt64):UInt64:=iZ (Tw y.toNat) (se x y) (fast fmM se x y)
def OZ (x y:UInt64):Gf x y=se x y:=AF (λz=>rfl) λh=>zZ λa m E b k F h1 h2 ea em eE eb ek eF=>by
 unfold se fmM Tx mgN;rw[h1,h2,<- ea,<- em,<- eE,<- ek,<- eF];have hk:(k==0)=false:=(bq _ _).trans (ek▸h);show _=if (k==0)=true then _ else match vn false m _ false k _ with|(p,q,g)=>li a (p.toNat%q.toNat) g
 rw[hk,if_neg bF,VQ];exact(AE 52 ..).symm
noncomputable def XH (x y:UInt64):UInt64:=iF (Ck (Gf x y)) (Float64.copysign (mo false) y) (iF (xoB (Float64.lt y (mo false)) (Float64.lt (Gf x y) (mo false))) (Tz (Gf x y) y) (Gf x y))
def TB (x y:UInt64):XH x y=(SR x y).2:=by
 unfold XH SR;rw[OZ,Ei,<- IK];generalize se x y=m;refine AF (λh=> ?_) λh=> ?_
 ·simp only[h,if_true]
 ·refine AF (λk=> ?_) λk=> ?_<;>simp only[h,k,if_true,if_false,fw]
noncomputable def XI (x y:UInt64):UInt64:=Tz x (Xw y)
def KH (x y:UInt64):XI x y=Xv x y:=by unfold Xv;exact Ei x (Xw y)
noncomputable def VT {α:Type} (l:List α):Nat->Option α:= @List.rec α (λq=>Nat->Option α) (λq=>ac) (λa q r n=> @Kw (λq=>Option α) (aa a) (λm q=>r m) n) l
def AG {α:Type} (l:List α) (i:Nat):VT l i=l[i]? :=by
 induction l generalizing i with
 |nil=>rfl
 |cons a l ih=>cases i with
  |zero=>rfl
  |succ i=>exact ih i
@[elab_as_elim] theorem rwt {α:Sort _} {a b:α} {Ca:α->Prop} (h:a=b) (k:Ca b):Ca a:=h▸k
@[elab_as_elim] theorem rwl {α:Sort _} {a b:α} {Ca:α->Prop} (h:b=a) (k:Ca b):Ca a:=h▸k
local macro_rules (kind := Lean.Parser.Tactic.rewriteSeq)
  | s =>
  let l := s[2][1].getSepArgs.toList
  if s[1][0].getNumArgs + s[3].getNumArgs != 0 then Lean.Macro.throwUnsupported else
  pure (wq (l.map fun r => if l.length == 1 then wh [wr (if r[0].getNumArgs == 0 then "Mine.rwt" else "Mine.rwl") [we r[1], wI "?"]] else wp "rewriteSeq" [s[1], wn (wN "rwRuleSeq") [wx, wl [r], wx], s[3]]))
local macro_rules (kind := Lean.Parser.Tactic.show) | s => pure (wh [wT s[1]])
section
variable {G:Prop}
def xe02 {p q:Prop} (h:p/\q) (k:p->q->G):G:=k h.1 h.2
def xe03 {p q r:Prop} (h:p/\q/\r) (k:p->q->r->G):G:=xe02 h.2 (k h.1)
def xe04 {p q r s:Prop} (h:p/\q/\r/\s) (k:p->q->r->s->G):G:=xe03 h.2 (k h.1)
def xe05 {p q r s t:Prop} (h:p/\q/\r/\s/\t) (k:p->q->r->s->t->G):G:=xe04 h.2 (k h.1)
def xe06 {p q r s t u:Prop} (h:p/\q/\r/\s/\t/\u) (k:p->q->r->s->t->u->G):G:=xe05 h.2 (k h.1)
def xe07 {p q r s t u v:Prop} (h:p/\q/\r/\s/\t/\u/\v) (k:p->q->r->s->t->u->v->G):G:=xe06 h.2 (k h.1)
def xe08 {p q r s t u v w:Prop} (h:p/\q/\r/\s/\t/\u/\v/\w) (k:p->q->r->s->t->u->v->w->G):G:=xe07 h.2 (k h.1)
def xe11 {A:Sort _} {p:A->Prop} (h:∃a,p a) (k:∀a,p a->G):G:=h.elim k
def xe12 {A:Sort _} {p q:A->Prop} (h:∃a,p a/\q a) (k:∀a,p a->q a->G):G:=h.elim λa h=>xe02 h (k a)
def xe13 {A:Sort _} {p q r:A->Prop} (h:∃a,p a/\q a/\r a) (k:∀a,p a->q a->r a->G):G:=h.elim λa h=>xe03 h (k a)
def xe14 {A:Sort _} {p q r s:A->Prop} (h:∃a,p a/\q a/\r a/\s a) (k:∀a,p a->q a->r a->s a->G):G:=h.elim λa h=>xe04 h (k a)
def xe15 {A:Sort _} {p q r s t:A->Prop} (h:∃a,p a/\q a/\r a/\s a/\t a) (k:∀a,p a->q a->r a->s a->t a->G):G:=h.elim λa h=>xe05 h (k a)
def xe16 {A:Sort _} {p q r s t u:A->Prop} (h:∃a,p a/\q a/\r a/\s a/\t a/\u a) (k:∀a,p a->q a->r a->s a->t a->u a->G):G:=h.elim λa h=>xe06 h (k a)
def xe18 {A:Sort _} {p q r s t u v w:A->Prop} (h:∃a,p a/\q a/\r a/\s a/\t a/\u a/\v a/\w a) (k:∀a,p a->q a->r a->s a->t a->u a->v a->w a->G):G:=h.elim λa h=>xe08 h (k a)
def xe21 {A B:Sort _} {p:A->B->Prop} (h:∃a b,p a b) (k:∀a b,p a b->G):G:=h.elim λa h=>xe11 h (k a)
def xe22 {A B:Sort _} {p q:A->B->Prop} (h:∃a b,p a b/\q a b) (k:∀a b,p a b->q a b->G):G:=h.elim λa h=>xe12 h (k a)
def xe23 {A B:Sort _} {p q r:A->B->Prop} (h:∃a b,p a b/\q a b/\r a b) (k:∀a b,p a b->q a b->r a b->G):G:=h.elim λa h=>xe13 h (k a)
def xe24 {A B:Sort _} {p q r s:A->B->Prop} (h:∃a b,p a b/\q a b/\r a b/\s a b) (k:∀a b,p a b->q a b->r a b->s a b->G):G:=h.elim λa h=>xe14 h (k a)
def xe25 {A B:Sort _} {p q r s t:A->B->Prop} (h:∃a b,p a b/\q a b/\r a b/\s a b/\t a b) (k:∀a b,p a b->q a b->r a b->s a b->t a b->G):G:=h.elim λa h=>xe15 h (k a)
def xe26 {A B:Sort _} {p q r s t u:A->B->Prop} (h:∃a b,p a b/\q a b/\r a b/\s a b/\t a b/\u a b) (k:∀a b,p a b->q a b->r a b->s a b->t a b->u a b->G):G:=h.elim λa h=>xe16 h (k a)
def xe28 {A B:Sort _} {p q r s t u v w:A->B->Prop} (h:∃a b,p a b/\q a b/\r a b/\s a b/\t a b/\u a b/\v a b/\w a b) (k:∀a b,p a b->q a b->r a b->s a b->t a b->u a b->v a b->w a b->G):G:=h.elim λa h=>xe18 h (k a)
def xe31 {A B C:Sort _} {p:A->B->C->Prop} (h:∃a b c,p a b c) (k:∀a b c,p a b c->G):G:=h.elim λa h=>xe21 h (k a)
def xe32 {A B C:Sort _} {p q:A->B->C->Prop} (h:∃a b c,p a b c/\q a b c) (k:∀a b c,p a b c->q a b c->G):G:=h.elim λa h=>xe22 h (k a)
def xe33 {A B C:Sort _} {p q r:A->B->C->Prop} (h:∃a b c,p a b c/\q a b c/\r a b c) (k:∀a b c,p a b c->q a b c->r a b c->G):G:=h.elim λa h=>xe23 h (k a)
def xe34 {A B C:Sort _} {p q r s:A->B->C->Prop} (h:∃a b c,p a b c/\q a b c/\r a b c/\s a b c) (k:∀a b c,p a b c->q a b c->r a b c->s a b c->G):G:=h.elim λa h=>xe24 h (k a)
def xe35 {A B C:Sort _} {p q r s t:A->B->C->Prop} (h:∃a b c,p a b c/\q a b c/\r a b c/\s a b c/\t a b c) (k:∀a b c,p a b c->q a b c->r a b c->s a b c->t a b c->G):G:=h.elim λa h=>xe25 h (k a)
def xe36 {A B C:Sort _} {p q r s t u:A->B->C->Prop} (h:∃a b c,p a b c/\q a b c/\r a b c/\s a b c/\t a b c/\u a b c) (k:∀a b c,p a b c->q a b c->r a b c->s a b c->t a b c->u a b c->G):G:=h.elim λa h=>xe26 h (k a)
def xe41 {A B C D:Sort _} {p:A->B->C->D->Prop} (h:∃a b c d,p a b c d) (k:∀a b c d,p a b c d->G):G:=h.elim λa h=>xe31 h (k a)
def xe42 {A B C D:Sort _} {p q:A->B->C->D->Prop} (h:∃a b c d,p a b c d/\q a b c d) (k:∀a b c d,p a b c d->q a b c d->G):G:=h.elim λa h=>xe32 h (k a)
def xe43 {A B C D:Sort _} {p q r:A->B->C->D->Prop} (h:∃a b c d,p a b c d/\q a b c d/\r a b c d) (k:∀a b c d,p a b c d->q a b c d->r a b c d->G):G:=h.elim λa h=>xe33 h (k a)
def xe44 {A B C D:Sort _} {p q r s:A->B->C->D->Prop} (h:∃a b c d,p a b c d/\q a b c d/\r a b c d/\s a b c d) (k:∀a b c d,p a b c d->q a b c d->r a b c d->s a b c d->G):G:=h.elim λa h=>xe34 h (k a)
def xe45 {A B C D:Sort _} {p q r s t:A->B->C->D->Prop} (h:∃a b c d,p a b c d/\q a b c d/\r a b c d/\s a b c d/\t a b c d) (k:∀a b c d,p a b c d->q a b c d->r a b c d->s a b c d->t a b c d->G):G:=h.elim λa h=>xe35 h (k a)
def xe51 {A B C D E:Sort _} {p:A->B->C->D->E->Prop} (h:∃a b c d e,p a b c d e) (k:∀a b c d e,p a b c d e->G):G:=h.elim λa h=>xe41 h (k a)
def xe53 {A B C D E:Sort _} {p q r:A->B->C->D->E->Prop} (h:∃a b c d e,p a b c d e/\q a b c d e/\r a b c d e) (k:∀a b c d e,p a b c d e->q a b c d e->r a b c d e->G):G:=h.elim λa h=>xe43 h (k a)
def xe54 {A B C D E:Sort _} {p q r s:A->B->C->D->E->Prop} (h:∃a b c d e,p a b c d e/\q a b c d e/\r a b c d e/\s a b c d e) (k:∀a b c d e,p a b c d e->q a b c d e->r a b c d e->s a b c d e->G):G:=h.elim λa h=>xe44 h (k a)
def xe55 {A B C D E:Sort _} {p q r s t:A->B->C->D->E->Prop} (h:∃a b c d e,p a b c d e/\q a b c d e/\r a b c d e/\s a b c d e/\t a b c d e) (k:∀a b c d e,p a b c d e->q a b c d e->r a b c d e->s a b c d e->t a b c d e->G):G:=h.elim λa h=>xe45 h (k a)
def xe61 {A B C D E F:Sort _} {p:A->B->C->D->E->F->Prop} (h:∃a b c d e f,p a b c d e f) (k:∀a b c d e f,p a b c d e f->G):G:=h.elim λa h=>xe51 h (k a)
def xe63 {A B C D E F:Sort _} {p q r:A->B->C->D->E->F->Prop} (h:∃a b c d e f,p a b c d e f/\q a b c d e f/\r a b c d e f) (k:∀a b c d e f,p a b c d e f->q a b c d e f->r a b c d e f->G):G:=h.elim λa h=>xe53 h (k a)
def xe65 {A B C D E F:Sort _} {p q r s t:A->B->C->D->E->F->Prop} (h:∃a b c d e f,p a b c d e f/\q a b c d e f/\r a b c d e f/\s a b c d e f/\t a b c d e f) (k:∀a b c d e f,p a b c d e f->q a b c d e f->r a b c d e f->s a b c d e f->t a b c d e f->G):G:=h.elim λa h=>xe55 h (k a)
end
local macro_rules (kind := Lean.Parser.Tactic.obtain)
  | s =>
  let t := s[1][0][0]
  let l := t[0][1].getSepArgs.toList
  if s[2].getNumArgs != 0 || t.getNumArgs != 1 || !wK t[0] "rcasesPat.tuple" || l.any fun p => p[0][0].getNumArgs + p[1].getNumArgs != 1 then Lean.Macro.throwUnsupported else
  let e := s[3][1][0]
  let b := l.zipIdx.map fun p => wg p.1[0][0][0] ("z" ++ toString p.2 ++ "✝")
  pure (wh (wf ((List.range l.length).map fun j => wr ("Mine.xe" ++ toString (l.length - 1 - j) ++ toString (j + 1)) [e, wI "?"] :: wC e ++ [wp "intro" [wl (b.map (·.1))]]) :: (b.map (·.2)).flatten))
local macro_rules (kind := Lean.Parser.Tactic.rcases)
  | s =>
  let l := s[2][1][0][0]
  if s[1].getNumArgs != 1 || s[1][0][0].getNumArgs != 0 || l.getNumArgs != 3 || s[2][1][1].getNumArgs != 0 then Lean.Macro.throwUnsupported else
  let e := s[1][0][1]
  let x := wg l[0] "z✝"
  let y := wg l[2] "z✝"
  pure (wh (wr "Or.elim" [e, wI "?", wI "?"] :: wC e ++ wp "intro" [wl [x.1]] :: x.2 ++ wp "rotateLeft" [wl []] :: wC e ++ wp "intro" [wl [y.1]] :: y.2 ++ [wp "rotateRight" [wl []]]))
open Nat.Internal.Linear in
inductive Cs where
 |no
 |ok (l r:el)
 |le (m:Nat) (l r:el) (t:Cs)
 |eq (m:Nat) (l r:el) (t:Cs)
 |qe (m:Nat) (l r:el) (t:Cs)
 |nl (m:Nat) (l r:el) (t:Cs)
def Cs.den (c:dh):Cs->Prop
 | .no=>False
 | .ok l r=>l.denote c<=r.denote c
 | .le _ l r t=>l.denote c<=r.denote c->t.den c
 | .eq _ l r t=>l.denote c=r.denote c->t.den c
 | .qe _ l r t=>l.denote c=r.denote c->t.den c
 | .nl _ l r t=>¬l.denote c<=r.denote c->t.den c
def Cs.sum:Cs->el×el
 | .no=>(.num 0,.num 0)
 | .ok l r=>(.add r (.num 1),l)
 | .le m l r t=>(.add (.mulL m l) t.sum.1,.add (.mulL m r) t.sum.2)
 | .eq m l r t=>(.add (.mulL m l) t.sum.1,.add (.mulL m r) t.sum.2)
 | .qe m l r t=>(.add (.mulL m r) t.sum.1,.add (.mulL m l) t.sum.2)
 | .nl m l r t=>(.add (.mulL m (.add r (.num 1))) t.sum.1,.add (.mulL m l) t.sum.2)
def Cs.snd (c:dh) (t:Cs):∀a b:Nat,a<=b->¬a+t.sum.1.denote c<=b+t.sum.2.denote c->t.den c:=by
 have key:∀ {m a b l r x y:Nat},a<=b->l<=r->¬a+(m*l+x)<=b+(m*r+y)->a+m*l<=b+m*r/\¬(a+m*l)+x<=(b+m*r)+y:=
  λ{m _ _ _ _ _ _} h k n=>⟨gb h (pM m k),by rw[iM,iM];exact n⟩
 induction t with
 |no=>exact λa b h n=>n h
 |ok l r=>exact λa b h n=>iR λk=>n (gb h k)
 |le m l r t ih=>exact λa b h n k=>(λe=>ih _ _ e.1 e.2) (key h k n)
 |eq m l r t ih=>exact λa b h n k=>(λe=>ih _ _ e.1 e.2) (key h (fg k) n)
 |qe m l r t ih=>exact λa b h n k=>(λe=>ih _ _ e.1 e.2) (key h (fg k.symm) n)
 |nl m l r t ih=>exact λa b h n k=>(λe=>ih _ _ e.1 e.2) (key h (Cr k) n)
noncomputable def eN:Nat->Nat->Nat×Nat
 |0,n=>(0,n)
 |f+1,n=>match eN f (n/64)with
  |(a,k)=>if n%64<32 then(n%64,n/64) else(n%32+32*a,k)
noncomputable def eE:Nat->Nat->el×Nat
 |0,n=>(.num 0,n)
 |f+1,n=>match n%64 with
  |0=>match eE f (n/64)with|(a,n)=>match eE f n with|(b,n)=>(.add a b,n)
  |1=>match eN 20 (n/64)with|(a,n)=>(.num a,n)
  |2=>match eN 20 (n/64)with|(a,n)=>match eE f n with|(b,n)=>(.mulL a b,n)
  |3=>match eE f (n/64)with|(b,n)=>match eN 20 n with|(a,n)=>(.mulR b a,n)
  |k=>(.var (k- 4),n/64)
noncomputable def eC:Nat->Nat->Cs
 |0,_=> .no
 |f+1,n=>match n%64 with
  |0=> .no
  |1=>match eE 30 (n/64)with|(a,n)=> .ok a (eE 30 n).1
  |k=>match eE 30 (n/64)with|(a,n)=>match eE 30 n with|(b,n)=>(match k%4 with|0=>Cs.le|1=>Cs.eq|2=>Cs.qe|_=>Cs.nl) (k/4) a b (eC f n)
noncomputable def jL (a:Nat):dh:= .leaf a
noncomputable def ip (a b:Nat):dh:= .branch 1 (.leaf a) (.leaf b)
noncomputable def lY (a b c:Nat):dh:= .branch 1 (.leaf a) (.branch 2 (.leaf b) (.leaf c))
noncomputable def Iy (a b c d:Nat):dh:= .branch 2 (.branch 1 (.leaf a) (.leaf b)) (.branch 3 (.leaf c) (.leaf d))
noncomputable def XJ (a b c d e:Nat):dh:= .branch 2 (.branch 1 (.leaf a) (.leaf b)) (.branch 3 (.leaf c) (.branch 4 (.leaf d) (.leaf e)))
noncomputable def lc6 (a b c d e f:Nat):dh:= .branch 3 (.branch 1 (.leaf a) (.branch 2 (.leaf b) (.leaf c))) (.branch 4 (.leaf d) (.branch 5 (.leaf e) (.leaf f)))
def cC (c:dh) (n:Nat) (h:(Dd false (eC 9 n).sum.1 (eC 9 n).sum.2).toNormPoly.isUnsat=true):(eC 9 n).den c:=
 Cs.snd c _ 0 0 (ab 0) λk=>by have:=De c _ h;rw[qg,qg]at k;exact this▸k
def lsa {a b:Nat}:a<=a- b+b:=kj.mp (ab _)
def aaK {a b:Nat}:max (a:Int) b=(max a b:Nat):=(zX a b).elim (λh=>by rw[Nat.max_eq_right h,VM (fK.mpr h)]) λh=>by rw[Nat.max_eq_left h,Xz (fK.mpr h)]
def aaL {a b:Nat}:min (a:Int) b=(min a b:Nat):=(zX a b).elim (λh=>by rw[iz h,Xy (fK.mpr h)]) λh=>by rw[VK h,VL (fK.mpr h)]
section
variable {a b c d e f:Nat}
def om0:b<a->a- b≠0:=λh=>uZ h
def IL:a<b+1->(¬a=b)->a<b:=λh k=>qJ (fQ h) k
def om2:a=c->b=c->a=b:=λh0 h1=>bR (cC (lY a b c) 1425042317009157 rfl h0 h1) (cC (lY a b c) 1147965386547462 rfl h0 h1)
def om3:a+10*c<=990->b<=c->a+10*b<=990:=λh k=>aA (dX (pM 10 k) a) h
def om4:a+100*c<=9800->b<=c->a+100*b<=9800:=λh k=>aA (dX (pM 100 k) a) h
def om6:a<b->a<b+c:=cC (lY a b c) 1837001733898169116540932 rfl
def om8:b- a<=0->¬(↑a:Int)< (↑b:Int):=λh k=>absurd (cL.mp k) (dE (Kv.mp (Oj.mp h)))
def om9:a<b->(↑a:Int)< (↑b:Int):=cL.mpr
def aaM:a<b->b<=c->(a+b)/2<=c:=λh k=>aA (Om (by rw[CB];exact v7 (ce h) b)) k
def ail:(¬a<b)->¬(↑a:Int)< (↑b:Int):=λh k=>h (cL.mp k)
def aaN:a<2 ^ 30->(↑a:Int)<2 ^ 63:=λh=>jn (cL.mpr h) (by decide)
def IM:a<b->b<=c->(a+b)/2<c:=λh k=>a8 (Ol (by rw[CB];exact Oq h b)) k
def Mt:a<=b->a<=b+c:=cC (lY a b c) 26731943842052 rfl
def IO:a<c->c=b->a<b:=cC (lY a b c) 97021314557910551997202436 rfl
def aim:a+(b+1)<c->a+1+b<c:=cC (lY a b c) 511775175312177366177160026321406918660 rfl
def XK:a+(c+1)<b->a<b:=cC (lY a b c) 397399304429110401103157002244 rfl
def aaO:a=c->b=d->c=d->a=b:=λh0 h1 h2=>bR (cC (Iy a b c d) 373566578955443003653 rfl h0 h1 h2) (cC (Iy a b c d) 300932524233930858758 rfl h0 h1 h2)
def XM:a=c->b=d->(¬c=d)->¬a=b:=λh k l m=>l (h.symm.trans (m.trans k))
def ain {a:Int}:(-2 ^ 40<a/\a<2 ^ 40)-> -2 ^ 64<a:=λh=>jn (by decide) h.1
def aio {a:Int}:(-2 ^ 40<a/\a<2 ^ 40)->a<2 ^ 64:=λh=>jn h.2 (by decide)
def aip {a:Int}:0<=a->a<=1000-> -9223372036854775808<=a/\a<9223372036854775808:=λh k=>⟨ec (by decide) h,qK k (by decide)⟩
def aiq {b:Nat} {a:Int}:a<=1000->b=2 ^ 24->a<=(↑b:Int):=λh k=>by rw[k];exact ec h (by decide)
def air:a+100*d<=9800->b<=10->c=9900->a+b<c:=λh k l=>by rw[l];exact bI (gb (aA (bh ..) h) k) (by decide)
def TC:a+4<b->a<b:=cC (ip a b) 97021314557888284740026372 rfl
def XN:a<=1000->b=2 ^ 24->a<=b:=cC (ip a b) 6267451636863069495710716164 rfl
def ais {a:Int}:(0<=a/\a<2 ^ 63)-> -2 ^ 63<=a:=λh=>ec (by decide) h.1
def aaP {b:Nat} {a:Int}:a.toNat<b->a< (↑b:Int):=λh=>Int.lt_of_toNat_lt (show a.toNat< (b:Int).toNat from h)
def ait {a:Int}:(0<=a/\a<2 ^ 63)-> -9223372036854775808<=a/\a<9223372036854775808:=λh=>⟨ec (by decide) h.1,h.2⟩
def aaQ:a<=b->a<=b:=cC (ip a b) 5436100868 rfl
def aiu:c=a->c<=b->a<=b:=cC (lY a b c) 1425041259512198 rfl
def aiv:a<=b->b=2 ^ 24->(↑a:Int)<2 ^ 63:=λh k=>qK (fK.mpr (k▸h)) (by decide)
def aiw:(↑a:Int)<2 ^ 63->¬2 ^ 63<=(↑a:Int):=λh=>S1.mpr h
def aix {a b c:Int}:max a c<=b->a<=b:=λh=>ec (XA ..) h
def aiy {a b c:Int}:max c a<=b->a<=b:=λh=>ec (VN ..) h
def aiz {a b c:Int}:a<=min b c->a<=b:=λh=>ec h (Int.min_le_left ..)
def aiA {a b c:Int}:a<=min c b->a<=b:=λh=>ec h (Int.min_le_right ..)
def aaR:a<b->a<=b- 1:=vZ
def aaS:a<=b- 1->c<b->a<b:=λh k=>bI h (SU (Tn k) Oh)
def aiB {a b c:Int}:a<=b->c=b->c<=a->a=b:=λh k l=>uK h (k▸l)
def aiC {a b c:Int}:a<=c->b<=a->c=b->a=b:=λh k l=>uK (l▸h) k
def CF:a<c->b=c->a<b:=cC (lY a b c) 97021314558187697646878724 rfl
def aiD:a<=b->b<=a->a=b:=bR
def aiE:a=b->a<=b:=cC (ip a b) 5436100869 rfl
def aiF:a=0->0=(↑a:Int):=λh=>h▸rfl
def aiG:a<2 ^ 20->(↑a:Int)<9223372036854775808/\(a=0\/(↑a:Int)<9223372036854775808):=λh=>have k:(a:Int)<9223372036854775808:=jn (cL.mpr h) (by decide);⟨k,.inr k⟩
def aaT:0+(↑a:Int)*1=(↑a:Int):=(Int.zero_add _).trans (Int.mul_one _)
def aiH:(↑a:Int)- 0=(↑a:Int):=Int.sub_zero _
def aaU:b=a+1->a<=b:=cC (ip a b) 1425036880642374 rfl
def aiI:a+1+b<=a+(b+1):=cC (ip a b) 4801919192932113448961 rfl
def aaV:a<b->a=c->b<=c->False:=cC (lY a b c) 448560229745850335236 rfl
def aiJ:a<=a+2:=cC (jL a) 2165309697 rfl
def aiK:b=a+2->a<=b:=cC (ip a b) 1425037954384198 rfl
def aiL:a+(b+1+1)=a+2+b:=bR (cC (ip a b) 6228706943593704989581656065 rfl) (cC (ip a b) 1257590175156608588493881345 rfl)
def aaW:b=a+2->a+1<b:=cC (ip a b) 97021094402512325283152198 rfl
def aaX:b=a+2+c->a+1<b:=cC (lY a b c) 397398402672690502017541472582 rfl
def aaY:b=a+2->a<b:=cC (ip a b) 370106943348098990406 rfl
def aaZ:b=a+1->a<b:=cC (ip a b) 370106943347025248582 rfl
def aa0:b=a+2+c->a<b:=cC (lY a b c) 1515958039971471214772550 rfl
def aa1:b=a+2+c->a<=b:=cC (lY a b c) 5836973118907744582 rfl
def XO:a<a+(b+1):=cC (ip a b) 1172343552894844929 rfl
def aiM:a+1<a+(b+1+1):=cC (ip a b) 80485771210022932002653601793 rfl
def aiN:a=a+1->False:=cC (jL a) 1091567878 rfl
def aiO:c<d->d=e->e<=c->a≠b:=λh k l=>absurd (k▸h) (dE l)
def TF:a<=b->a+(b- a)=b:=mR
def aiP:a<c->b=c+(d- e)->a≠b:=λh k=>cU (k▸a8 h (bh ..))
def aiQ {a:Int}:(0<=a/\a<1000)->a.toNat<2 ^ 20:=λh=>(Int.toNat_lt h.1).mpr (jn h.2 (by decide))
def aiR:a+1+b=a+(1+b):=bR (cC (ip a b) 23686773438392266915841 rfl) (cC (ip a b) 23686844370086396968961 rfl)
def aiS:a<=a+2+b:=cC (ip a b) 22128812359937 rfl
def aiT:a+2+b- a=b+1+1:=(congrArg (· - a) (iM ..)).trans ((bO ..).trans (ua ..))
def aiU:a+1=a+2+b->False:=cC (ip a b) 5800935387233009670 rfl
def aiV:a+1<a->False:=cC (jL a) 1130367764398084 rfl
def aiW:a<b->a=b+1->False:=cC (ip a b) 75029987801881133060 rfl
def aiX:a<b->a=b+2+c->False:=cC (lY a b c) 1822913013989510813597700 rfl
def aiY:b≠c->a+2+b≠a+2+c:=λh k=>h (pO k)
def aiZ:a+2+b=c->d<a->e=c->e=d->False:=cC (XJ a b c d e) 148006298870013160597898200530026501 rfl
def aa2:a<=c->min a b<=c:=λh=>aA (j3 ..) h
def ai0:a≠a+1:=cC (jL a) 1091567878 rfl
def ai1:a+2+b=a->False:=cC (ip a b) 17937948737541 rfl
def aa3:a<b->a=b->False:=cC (ip a b) 1425384772222980 rfl
def aa4:b<a->a≠b:=cC (ip a b) 1425314979008516 rfl
def ai2:a<b->a≠b:=cC (ip a b) 1425384772222980 rfl
def ai3:a<b->a≠b+1:=cC (ip a b) 75029987801881133060 rfl
def ai4:a+2+b=c->c<a->False:=cC (lY a b c) 1213728891755455247810565 rfl
def XQ:a=c->b=2 ^ 24->c<100000->a<=b:=cC (lY a b c) 1764113551138871018539764942157709040967941 rfl
def XR:a<b->a+1<=b:=cC (ip a b) 370106943351319445508 rfl
def XS:a=c->b=c->a<=b:=cC (lY a b c) 1425042317009157 rfl
def aa5:a=c->b=c->a- b=0:=λh k=>u0 (fg (h.trans k.symm))
def TG:b=a->a<=b:=cC (ip a b) 5436096838 rfl
def aa6:a=b->a- b=0:=λh=>u0 (fg h)
def Gg:a<=a+1:=cC (jL a) 1091567873 rfl
def TH:a<b+1->b<=a->a=b:=λh k=>bR (fQ h) k
def aa7:a<a->False:=cC (jL a) 4312023044 rfl
def aa8:c<c->a=b:=λh=>absurd h (lS c)
def aa9:a<c+1->b<c+1->c<=a->c<=b->a=b:=λh k l m=>(bR (fQ h) l).trans (bR m (fQ k))
def aba:a+1+b=a+(b+1):=bR (cC (ip a b) 4801919192932113448961 rfl) (cC (ip a b) 23686844369811586170881 rfl)
def KI:a+(b+1)=a+1+b:=bR (cC (ip a b) 23686844369811586170881 rfl) (cC (ip a b) 4801919192932113448961 rfl)
def O0:a<=a+b:=cC (ip a b) 84934913 rfl
def abb:a<100000->b=2 ^ 24->a<=b:=cC (ip a b) 6729624952397137878057041686536929284 rfl
def abc {b c:Nat} {a:Int}:a=(↑b:Int)->b<=c->c<100000-> -9223372036854775808<=a/\a<9223372036854775808:=λh k l=>⟨h▸ec (by decide) (dO b),h▸cL.mpr (bI k (iK l (by decide)))⟩
def O1:a=b->b<100000->a<100000:=cC (ip a b) 19211997166750617869921431750037403095301 rfl
def abd {b:Nat} {a:Int}:a=(↑b:Int)->¬a<0:=λh=>nT.mpr (h▸dO b)
def abe {b c d:Nat} {a:Int}:a=(↑c:Int)->b=d->c<=d->min a.toNat b=c:=λh k l=>by rw[h,k];exact iz l
def VU:min a b+(b- a+1)=b+1:=congrArg (· +1) ((ua ..).trans (Ky a b▸Nat.sub_add_min_cancel b a))
def abf:b=c->min a b+(b- a+1)=c+1:=λh=>h▸VU
def abg:a<b->b<=d->c=d->a<min b c:=λh k l=>Nat.lt_min.mpr ⟨h,a8 h (l▸k)⟩
def abh:a<b->b<=c->a<min b c:=λh k=>Nat.lt_min.mpr ⟨h,a8 h k⟩
def VV:min a b<=a:=j3 ..
def abi:a<=c->b=c->a- min a b=0:=λh k=>by rw[k,iz h,dc]
def abj:a<=b->a- min a b=0:=λh=>by rw[iz h,dc]
def VW:a<c->min a b<=c:=λh=>aA (j3 ..) (ce h)
def abk:b<a->b<=d->c=d->a- min b c=a- b- 1+1:=λh k l=>by rw[l,iz k,qI (To h)]
def abl:b<a->b<=c->a- min b c=a- b- 1+1:=λh k=>by rw[iz k,qI (To h)]
def abm {b c:Nat} {a:Int}:a=(↑b:Int)->b<c->c<100000-> -9223372036854775808<=a/\a<9223372036854775808:=λh k l=>⟨h▸ec (by decide) (dO b),h▸cL.mpr (iK k (iK l (by decide)))⟩
def abn {b:Nat} {a:Int}:a=(↑b:Int)->0<=a:=λh=>h▸dO b
def abo {b c d:Nat} {a:Int}:a=(↑c:Int)->b=d->c<d->a< (↑b:Int):=λh k l=>by rw[h,k];exact cL.mpr l
def abp {b:Nat} {a:Int}:a=(↑b:Int)->a.toNat=b:=λh=>congrArg nS h
def abq:a<a+1:=cC (jL a) 286147918184449 rfl
def abr:b=a+1+c->a<b:=cC (lY a b c) 1515958039971402495295814 rfl
def VX:b=a+1+c->a<=b:=cC (lY a b c) 5836973050188267846 rfl
def abt:a<=a+1+b:=cC (ip a b) 22060092883201 rfl
def abu:a+1+b- a=b+1:=(congrArg (· - a) (iM ..)).trans ((bO ..).trans (ua ..))
def abv:b≠c->a+1+b≠a+1+c:=λh k=>h (pO k)
def abw:a+1+b+(0+c)=a+1+b+c:=bR (cC (lY a b c) 126242872155452023782006599589036033 rfl) (cC (lY a b c) 124620201416600906465619385832701953 rfl)
def abx:a<b->a<b+1+c:=cC (lY a b c) 476627769096431820066554920964 rfl
def VY:a+1+b+c=a+(1+b+c):=bR (cC (lY a b c) 481578320331195061588228833281 rfl) (cC (lY a b c) 481578339216049307048315207681 rfl)
def aby:(0<=(↑a:Int)/\(↑a:Int)<1000)->a<1000:=λh=>(@cL a 1000).mp h.2
def abz:a<1000->a<2 ^ 20:=cC (jL a) 489353365046405544306066151718916 rfl
def abA:a<1000->a<=2 ^ 24:=cC (jL a) 20435835532901784495635841028 rfl
def abB:0<b->a=c->b=c->0<a:=cC (lY a b c) 83406340130887561448786255320977412 rfl
def abC:a<c->b=d->c=d->a<=b- 1:=λh k l=>vZ (l.trans k.symm▸h)
def abD:a<=c- 1->b=d->c=d->e<b->a<b:=λh k l m=>bI h (by rw[k,l];exact SU (k▸Tn m) Oh)
def abE {a b:Int}:a<=b->b<=a->a=b:=uK
def abF:a- b=0->a<=b:=Nat.le_of_sub_eq_zero
def abG:a<c->c<=b->a≠b:=cC (lY a b c) 373656087928175345668 rfl
def abH:a+(c+1)=d->b+(e+1)=d->c=e->a=b:=λh0 h1 h2=>bR (cC (XJ a b c d e) 430693266877844793212518126081112293381 rfl h0 h1 h2) (cC (XJ a b c d e) 346951903064166930705313662214929924102 rfl h0 h1 h2)
def VZ:b<2 ^ 30->b=a->(↑a:Int)<2 ^ 63:=λh k=>jn (cL.mpr (k▸h)) (by decide)
def abI:a<b->(a+b)/2+1<=b:=λh=>IM h (ab b)
def abJ:a<b->a<=(a+b)/2:=λh=>(Mq (by decide)).mpr (by rw[Nat.mul_two];exact dX (ce h) a)
def abK:a<b->(a+b)/2<=b:=λh=>Om (by rw[CB];exact v7 (ce h) b)
def KJ:a<100000->a<2 ^ 30:=cC (jL a) 8209987265355085592289980101534138253316 rfl
def V0:a<100000->a<100000:=cC (jL a) 73287953059198829154668547630448644 rfl
def V1:b<100000->b=a->a<100000:=cC (ip a b) 19211997166750617872523062406401979863044 rfl
def KL:a<b->b<=a->False:=cC (ip a b) 1148170403069956 rfl
def abL:1<=a->a=a- 1+1:=λh=>(qI h).symm
def V2:a<1000->a<2 ^ 30:=cC (jL a) 2004391422205831443430294493210099716 rfl
def abM:a+2<=b->a<=b:=cC (ip a b) 1425041191616516 rfl
def abN:2<=a->a=a- 2+2:=λh=>(qI h).symm
def KN:a<1000->a<100000:=cC (jL a) 17892566664843464272658984878084 rfl
def abO:a+3<=b->a<=b:=cC (ip a b) 1425041208393732 rfl
def abP:0<=1:=cI _
def abQ:1<=1:=ab _
def abR:a+b<20->c<=1->a+b+c<30:=cC (lY a b c) 10459005355759690415580703674136796140142596 rfl
def abS:a<=a:=cC (jL a) 16641 rfl
def abT:a+1+c=b->a<b:=cC (lY a b c) 1515958039967347996884997 rfl
def V3:a<2->a=0\/a=1:=λh=>(yR (fQ h)).imp Nat.lt_one_iff.mp id
def O2:a<b->b<a->False:=cC (ip a b) 296320248737616379908 rfl
def abU:¬2+a=0:=cC (jL a) 1141379077 rfl
def abV:¬2+a=1:=cC (jL a) 69860855813 rfl
def abW:a+1+b+(2+c- 2)=a+1+b+c:=congrArg (a+1+b+ ·) (bO ..)
def abX:a+1<a+3:=cC (jL a) 222585912451016949761 rfl
def abY:a+1<=a+3:=cC (jL a) 849097871605761 rfl
def abZ:a- b=0->b<a->False:=λh k=>uZ k h
def ab0:a+100*c<=9800->b=9900->a+2<b:=cC (lY a b c) 7158898637295308102942757944292402981811798020 rfl
def ab1:a<=b+e*d->c*d=e*d+d->a<=b+c*d:=cC (XJ a b d (e*d) (c*d)) 156253958596074777001328900 rfl
def V4:a<=a+b*c:=bh ..
def V5:a<=b+e+f*d->c*d=f*d+d->e<=d->a<=b+c*d:=cC (lc6 a b d e (f*d) (c*d)) 188545597944327864884795803747483908 rfl
def ab2:a<=b->b<50000->a<100000:=cC (ip a b) 19211997166750617861589556266619871711492 rfl
def ab3:a<=b+c*1->b<=d*100->c<=100->d*100<=100*100->a<100000:=cC (Iy a b c d) 1522131233750903963019027287408229190580845418360465958904971564155140 rfl
def ab4:a+(b+1)<100000->a+1+b<100000:=cC (ip a b) 84495257110573017433495532244428185007841655747772420 rfl
def ab5:a+(b+1)<100000->a<100000:=cC (ip a b) 78692340395010530795198184448135680601620484 rfl
def ab6:a<50000->a<100000:=cC (jL a) 73287953059198829122884965006327812 rfl
def ab7:a<=63->b=2 ^ 24->a<=b:=cC (ip a b) 6267451636863069495213428996 rfl
def ab8:min 60 a<50000:=bI (j3 ..) (by decide)
def ab9:a=b->a=b:=λh0=>bR (cC (ip a b) 5436100869 rfl h0) (cC (ip a b) 4379136262 rfl h0)
def Gh:0<=(↑a:Int):=dO a
def V6:b<=a->¬a<b:=cC (ip a b) 1411845945573700 rfl
def aca:a<9->b<9->c<9->max a (max b c)<9:=λh k l=>Nat.max_lt.mpr ⟨h,Nat.max_lt.mpr ⟨k,l⟩⟩
def KO:a<b->a<=b:=cC (ip a b) 1425041174839300 rfl
def V7:(¬b<a)->a<=b:=cC (ip a b) 1425040101101575 rfl
def acb:a<6->a<9:=cC (jL a) 2724880472575990225453060 rfl
def acd:a<6->a<=5:=cC (jL a) 5783752632904728580 rfl
def V8:6<50000:=by decide
def Gi:a<6->a<100:=cC (jL a) 68913569096476937540616196 rfl
def O3:a<=100000000->a<500000000:=cC (jL a) 19874457496246453527765238013218525444 rfl
def ace:a<7->a<100:=cC (jL a) 68913569096477006260092932 rfl
def acf:a<=100->a<=16777214:=cC (jL a) 75557863167638427930884 rfl
def acg:a<=50000->b=2 ^ 24->a<=b:=cC (ip a b) 25671481904591132652379066863876 rfl
def O4:a+b<=10000->c=2 ^ 24->a+b<=c:=cC (lY a b c) 8080512085758823544104047566386380804 rfl
def V9:a<=2->b<=2->c<=2->d<=2->e<=2->f<=2->a+(b+(c+(d+(e+f))))<=12:=cC (lc6 a b c d e f) 81000167566154941567873082259281533348245402163001704086147932098820 rfl
def ach:a<=b+6*2->b<=0+6*12->a<100000:=cC (ip a b) 322323826257963134809652960987366790952650014980 rfl
def aci:a<=b+6*2->b<=0+6*12->a+1<100000:=cC (ip a b) 84495257110551243266625851189714680117172878112456964 rfl
def acj:a=2 ^ 24->b<=100->¬a<b:=cC (ip a b) 1627747551841468451782312075464966 rfl
def ack:a<=12->b<=12->c<=12->d<=12->e<=12->f<=12->a+(b+(c+(d+(e+(f+0)))))<=72:=cC (lc6 a b c d e f) 296857921556158753448392490891003172056368361157150467131315857128904724740 rfl
def Wa:a<=72->a<50000:=cC (jL a) 34127363151313179944947972 rfl
def acl:a<=b->b<=c->c- a<=0->a=b:=λh k l=>bR h (aA k (Kv.mp (Oj.mp l)))
def acm:(a+b)/2<c->(a+b)/2+1<=c:=λh=>h
def Wb:(¬(b+c)/2<a)->a<=(b+c)/2:=iR
def acn:a<=b->b<=c->(¬a<c)->a=b:=λh k l=>bR h (aA k (iR l))
def O5:a<c->c<=b->a<b:=cC (lY a b c) 97021314557910483277725700 rfl
def AH:a<=b->(↑a:Int)<=(↑b:Int):=fK.mpr
def aco:b<a->¬a=b:=cC (ip a b) 1425314979008516 rfl
def acp:a+1=b+1->a=b:=λh0=>bR (cC (ip a b) 373564868107765563397 rfl h0) (cC (ip a b) 300930813317534203910 rfl h0)
def acq:a=b->a+1=b+1:=λh0=>bR (cC (ip a b) 75029974263053701381 rfl h0) (cC (ip a b) 75011959865617961222 rfl h0)
def acr:a<b->a<b:=cC (ip a b) 370106943351319445508 rfl
def Wc:a<b->¬a=b:=cC (ip a b) 1425384772222980 rfl
def acs:a<=b->b≠a->a<b:=λh k=>qJ h k.symm
def acu:a+b=c->a+(b+1)<=c+1:=cC (lY a b c) 1259096316158623670810722309 rfl
def acv:a<=c+1->c+(b+1)<=500->a+b<=500:=cC (lY a b c) 86092873203103404898784996302509332496644 rfl
def Wd:a+(b+1)<=500->a<1000:=cC (ip a b) 160359058532845777117459486097412 rfl
def O6:(↑a:Int)=(↑b:Int)↔a=b:=Int.ofNat_inj
def acw:a<=100->a<=500:=cC (jL a) 284857350489116932 rfl
def acx:a<=d+c->d<=b+1->a<=b+(c+1):=cC (Iy a b c d) 330064621767455224836574926340356 rfl
def KP:a<=10000->b=2 ^ 24->a<=b:=cC (ip a b) 401116904759236447702144258308 rfl
def Dg:a<=6->a<=10000:=cC (jL a) 178103364546466052 rfl
def O7:a<=6->a<1000:=cC (jL a) 2333531425870687244548 rfl
def acy:max (max (↑a:Int) (↑b:Int)) (↑c:Int)=(↑(max a (max b c)):Int):=by rw[aaK,aaK,Nat.max_assoc]
def acz:min (min (↑a:Int) (↑b:Int)) (↑c:Int)=(↑(min a (min b c)):Int):=by rw[aaL,aaL,Nat.min_assoc]
def We:(¬b<=a)->a<=b:=cC (ip a b) 5436096839 rfl
def acA:a<c->d<b->(¬d<c)->a<b:=cC (Iy a b c d) 1747780624364676092226825694793144503386116 rfl
def acB:a<b->c=a->d=b->d<=c->False:=cC (Iy a b c d) 118191765447832515073294340 rfl
def acC:c<d->d<=e->e<=c->a<b:=λh k l=>absurd (a8 h k) (dE l)
def Wf:a<c->c<b->a<b:=cC (lY a b c) 25433555483463067073447838629892 rfl
def O8:¬a<a:=cC (jL a) 4312023044 rfl
def acD:b<a->c<d->(¬a<=b↔c<d):=λh k=>⟨λq=>k,λq=>Cp h⟩
def acE:¬a<=a↔b<b:=⟨λl=>absurd (ab a) l,λl=>absurd l (lS b)⟩
def acF:a<b->d<c->(¬a<=b↔c<d):=λh k=>⟨λl=>absurd (ce h) l,λl=>absurd l (zW k)⟩
def acG:b+d=a->d=c->(↑a:Int)- (↑b:Int)=(↑c:Int):=λh k=>by rw[<- h,<- k,pI,uc,yW]
def acH:(↑c:Int)=(↑a:Int)->(a<b↔c<b):=λh=>qh h▸Iff.rfl
def acI:(↑a:Int)=(↑c:Int)->c<b->a<b:=λh k=>qh h▸k
def Wg:a<12->a- 6<6:=λh=>bI (Of (fQ h) 6) (by decide)
def acJ:c≠d->(a<b\/a=b/\c<d)\/b<a\/b=a/\d<c:=λh=>(eH a b).elim (λk=> .inl (.inl k)) λk=>k.elim (λk=>(Nat.lt_or_gt_of_ne h).elim (λl=> .inl (.inr ⟨k,l⟩)) λl=> .inr (.inr ⟨k.symm,l⟩)) λk=> .inr (.inl k)
def acK:a<6->d<6->((a<12/\(b<c\/b=c/\a<d))/\¬(6+a<12/\(e<c\/e=c/\6+a<d))↔(b<c\/b=c/\a<d)/\c<=e):=λh k=>⟨λp=>⟨p.1.2,iR λr=>p.2 ⟨pN h 6,.inl r⟩⟩,λp=>⟨⟨a8 h (by decide),p.1⟩,λq=>q.2.elim (λr=>absurd p.2 (Cp r)) λr=>absurd (iK r.2 k) (dE (bh ..))⟩⟩
def acL:(6+a<12/\(b<c\/b=c/\6+a<a))->c<=b->False:=λh k=>h.2.elim (dE k) λl=>absurd l.2 (dE (gn ..))
def acM:6+a=a->False:=λh=>absurd h (jS (Kz (by decide)))
def acN:b<6->6+a=b->False:=λh k=>absurd (k▸h) (dE (bh ..))
def acO:a<6->b<=c->a<12/\(b<c\/b=c/\a<6+a):=λh k=>⟨a8 h (by decide),(yR k).imp id λe=>⟨e,Kz (by decide)⟩⟩
def acP:(¬a=b)->6+a=6+b->False:=λh k=>h (pO k)
def acQ:(a<6/\a<12/\¬6+a<12)->False:=λh=>h.2.2 (pN h.1 6)
def acR:(a<e\/a=e/\c<f)->(e<b\/e=b/\f<d)->a<b\/a=b/\c<d:=λh k=>h.elim (λh=> .inl (k.elim (iK h) λk=>k.1▸h)) λh=>k.elim (λk=> .inl (h.1▸k)) λk=> .inr ⟨h.1.trans k.1,iK h.2 k.2⟩
def acS:a+1≠b->a+1<=b->a<b- 1:=λh k=>Nat.lt_sub_of_add_lt (qJ k h)
def acT:a+1=b->b<=b- 1->False:=λh k=>absurd (h▸k:a+1<=a+1- 1) (Nat.not_succ_le_self a)
def Wh:a+(c+1)<=b->a<b:=cC (lY a b c) 1515958039967004482355204 rfl
def O9:a+1<=b->a<=b:=cC (ip a b) 1425041174839300 rfl
def acU:a<b+1+c->a<b+(c+1):=cC (lY a b c) 86524460204894864025361872921272008708 rfl
def acV:a+(b+1)<=c->a+1+b<=c:=cC (lY a b c) 7524661550251051622795853828 rfl
def acW:a<c+(b- c)->c<=a->a<b:=λh k=>(zX c b).elim (λl=>mR l▸h) λl=>absurd (u0 l▸h:a<c+0) (dE k)
def acX:a<=b->b+d<=c->a+(b- a)<=c:=λh k=>aA (fg (mR h)) (aA (bh b d) k)
def acY:a+(b+1+1)=a+1+1+b:=bR (cC (ip a b) 1627743857347339052988676949688321 rfl) (cC (ip a b) 329669718876254001540460036751361 rfl)
def acZ:((↑a:Int)- (↑b:Int)).toNat=a- b:=lV a b
def ac0:a- b<=((↑a:Int)- (↑b:Int)).toNat:=fg (lV a b).symm
def ac1:((↑a:Int)- 0).toNat=a:=congrArg nS (Int.sub_zero a)
def ac2:d=b->a+b+0+c=a+(d+c):=λh0=>bR (cC (Iy a b c d) 484035764729144599249340879302 rfl h0) (cC (Iy a b c d) 475389847945442029033589330373 rfl h0)
def ac3:a=2 ^ 24->b<=10000->¬a<0+b:=cC (ip a b) 27223918911577011061670665705153670156550 rfl
def ac4:(↑a:Int)≠(↑b:Int)↔a≠b:=not_congr Int.ofNat_inj
def Wi:a<10000->a<100000:=cC (jL a) 1145124266549981707331324103376900 rfl
def ac5:a<=c->min (a- b) (c- b)=a- b:=λh=>iz (Of h b)
def ac6:a+b- c<=a- c+b:=Og (by rw[yU];exact v7 lsa b)
def ac7:b<=a->a- b+c<=a+c- b:=λh=>fg (Nat.sub_add_comm h).symm
def Wj:a- b<=a- b:=ab _
def ac8:a+1- a=1:=bO ..
def Pa:a+(b+1)<10000->a+b<10000:=cC (ip a b) 220481282115516972916502815883922483784450052 rfl
def ac9:a<=c->c+(d+e)=b->a<=b:=cC (XJ a b c d e) 23908225595617316200708 rfl
def ada:a+(b+1)<10000->a<10000:=cC (ip a b) 53828438016399478368711463666300193079300 rfl
def adb:a<=c+1->c+(b+1)<10000->a+b<10000:=cC (lY a b c) 15151358337060721484948757326613702400888881385079046404 rfl
def Wk:a+(b+c)=d->a+b+c=d:=λh0=>bR (cC (Iy a b c d) 2144327929795197154639877 rfl h0) (cC (Iy a b c d) 1837295711716681787129862 rfl h0)
def Pb:a<=9000->a<=10000:=cC (jL a) 729511381185421381892 rfl
def ade:0+a=a:=bR (cC (jL a) 4362080257 rfl) (cC (jL a) 4295229697 rfl)
def adf:a<=9000->a<10000:=cC (jL a) 191237028049327328711414020 rfl
def adg:a<=0+b->b<=9000->a<=10000:=cC (ip a b) 50131640388018792759687681147140 rfl
def adh:(¬a=0)->(↑(a- 1):Int)=(↑a:Int)- 1:=λh=>sf (SV h)
def adi:¬(↑(a- 1):Int)<0:=nT.mpr (dO _)
def adj:a+(b+1)<1000->a+1+b<1000:=cC (ip a b) 45137062267225424712027343890172175235029139460 rfl
def adk:a+(b+1)<1000->a<100000:=cC (ip a b) 19211997166750618002603691739857986519044 rfl
def adl:a<1000->a<1000:=cC (jL a) 39150160774620620598177710084 rfl
def adm:¬97+a=34:=cC (jL a) 431081631518725 rfl
def adn:¬65+(a- 6)=34:=cC (ip a (a- 6)) 431082688483333 rfl
def Wl:a<=3->a<=3:=cC (jL a) 13267171545348 rfl
def ado:97+a≠92:=cC (jL a) 826905817518085 rfl
def adp:a<6->97+a<128:=cC (jL a) 1460413978133815976283421163143172 rfl
def adq:a<12->65+(a- 6)≠92:=λh0 h1=>cC (ip a (a- 6)) 1323747776063222879039349573566468 rfl h0 h1 (jR ..)
def ads:a<12->65+(a- 6)<128:=λh0=>cC (ip a (a- 6)) 382838761961901277761785225759384944644 rfl h0 (jR ..)
def Wm:a<=5->b<=5*c->a+b<=5*(c+1):=cC (lY a b c) 330064622376860709437261718229252 rfl
def Wn:a<=5*c->b<=100->c+d<=12->a+b<=9000:=cC (Iy a b c d) 3101334926489534431181104862251657349832964 rfl
def Wo:6<=a->a=6+(a- 6):=λh=>(mR h).symm
def Pc:6+a<12->a<6:=cC (jL a) 476626579060275455271691878404 rfl
def adt:a+1<=b->a<=b- 1:=vZ
def adu:a- 1- b=a- (b+1):=Nat.sub_right_comm a 1 b
def adv:(¬a+1<=b)->(¬b=0)->¬a<=b- 1:=λh k l=>h (Nat.succ_le_of_lt (bI l (SU (SV k) Oh)))
def adw:a<c->c<b->a+1<b:=cC (lY a b c) 6667238839694705778557394500842700804 rfl
def adx:b<=a->(¬b<a)->a=b:=λh k=>bR (iR k) h
def ady:c<b->c=a->a+1<=b:=cC (lY a b c) 97021314557629144666234884 rfl
def adz:a<=b+1+c->a<=b+(c+1):=cC (lY a b c) 1259096610135883286818324740 rfl
def adA:a+1+b=c->a+(b+1)=c:=λh0=>bR (cC (lY a b c) 7447308896725427948081905669 rfl h0) (cC (lY a b c) 1258794304930032406517252102 rfl h0)
def adB:a+1<=b->b=c->c=a->False:=cC (lY a b c) 302157217388617285636 rfl
def adC:a<b->b<100->a<100:=cC (ip a b) 303085082132484087316915119445250424836 rfl
def adE:a<100->b=2 ^ 24->a<=b:=cC (ip a b) 1642974841893832489760169746776068 rfl
def Pd:a<100->a<1000:=cC (jL a) 39150160774620497177997492228 rfl
def adF:a≠b->a<=b->a<b:=λh k=>qJ k h
def adG:a<=c->c<b->a<b:=cC (lY a b c) 97021314557888286870757636 rfl
def adH:a<1000-> -536870912< (↑a:Int)/\(↑a:Int)<536870912:=λh=>⟨S2 (by decide) (dO a),jn (cL.mpr h) (by decide)⟩
def adI:a<=0+b->b<6->a<6:=cC (ip a b) 124944797941148514748100476125053188 rfl
def adJ:¬97+a=40:=cC (jL a) 457469910585349 rfl
def adK:¬97+a=41:=cC (jL a) 461867957096453 rfl
def Wp:a<6->a<1000:=cC (jL a) 611721262103445436983689220 rfl
def adL:1+a%4<1000:=bI (dX (ce (fO _ (by decide))) 1) (by decide:1+4<1000)
def adN:1+a%4<9:=iK (pN (fO _ (by decide:4>0)) 1) (by decide)
def adO:1+a/4%8<1000:=bI (dX (ce (fO _ (by decide))) 1) (by decide:1+8<1000)
def adP:1+a/4%8<9:=pN (fO _ (by decide:8>0)) 1
def adQ:¬65+a=40:=cC (jL a) 457469893808133 rfl
def adR:¬65+a=41:=cC (jL a) 461867940319237 rfl
def adT:a<100->a<100000:=cC (jL a) 17892566664843464149238804660228 rfl
def adU:(a<b\/a=b/\6+c<c)->b<=a->False:=λh k=>h.elim (dE k) λl=>absurd l.2 (dE (gn ..))
def adV:a=b->b<6->a<6:=cC (ip a b) 476626579060167368881608872197 rfl
def Wq:a<=b->b+c<=12->a<1000:=cC (lY a b c) 2505610289575714199082877604100 rfl
def Wr:a<b+1->(↑a:Int)< (↑b:Int)+1:=λh=>cL.mpr h
def Ws:(¬a<b+1)->¬(↑a:Int)< (↑b:Int)+1:=λh k=>h (cL.mp k)
def adW:a<=0+c->c=b->a<=b:=cC (lY a b c) 373566016004330619140 rfl
def adX:a<6->a<6:=cC (jL a) 1818186107865018344423428 rfl
def Wt:6<=b->b- 6=a->6+a=b:=λh k=>k▸mR h
def adY:a+1<=c->c<b+1->a+1<=b+1:=cC (lY a b c) 354319035670416830091324580474798767095812 rfl
def adZ:a+1<=b->a+1<=b:=cC (ip a b) 370106943351319445508 rfl
def ad0:a+1<=a+1:=cC (jL a) 286147918184449 rfl
def ad1:(¬b<a+1)->a+1<=b:=cC (ip a b) 97021314556762586695880711 rfl
def ad2:a=0->(¬a<b+1)->False:=cC (ip a b) 4801918352835536228613 rfl
def ad3:a<=b->b<6->a<6:=cC (ip a b) 476626579060167368881608872196 rfl
def Wu:¬6+a<6:=cC (jL a) 108372337195483140 rfl
def KQ:6+a- 6=a:=bO ..
def ad4:b=a+1->(↑a:Int)=(↑b:Int)+ -1:=λh=>by rw[h];exact(yW a 1).symm
def ad5:a=b->b<=6->a<100:=cC (ip a b) 68913569096476937608515845 rfl
def ad6:a<6->a=6+b->False:=cC (ip a b) 24055708346323455721476 rfl
def ad7:a<6->¬6<=a:=cC (jL a) 4720071890054692868 rfl
def Pe:a<6->a<12:=cC (jL a) 3631574837286962106482692 rfl
def ad8:a<c->b=c->a<=b:=cC (lY a b c) 373566293149997088772 rfl
def ad9:b+1<=a->¬a=b:=cC (ip a b) 1425314979008516 rfl
def aea:a<b+1->(¬a<b)->a=b:=λh k=>bR (fQ h) (iR k)
def aeb:a<=c*d->b<=d->a+b<=c*d+d:=cC (Iy a b d (c*d)) 28850798929249439871236 rfl
def aec:a<=b*c->b*c<=6*6->a<1000:=cC (ip a (b*c)) 2505610289575712510229880000772 rfl
def aed:b+(c+a)=d->d=6->a<=6:=cC (Iy a b c d) 116378080328352058136612869 rfl
def aee:a<=3->a<=98:=cC (jL a) 994031543521540 rfl
def aef:a<=3->2+a<=10000:=cC (jL a) 46688728399722121531652 rfl
def aeg:a+(b+c)<=1000->a+b+c<=1000:=cC (lY a b c) 160359156455835755039893569421316 rfl
def aeh:a+(b+1)<=1000->a+1+b<=1000:=cC (ip a b) 656831020606360959189862036440891396 rfl
def Wv:a+(b+c)<=1000->a+b<=10000:=cC (lY a b c) 783306885996286508247187210244 rfl
def aei:1<=b->(↑(a+b):Int)- 1=(↑(a+b- 1):Int):=λh=>(sf (aA h (gn ..))).symm
def aej:a+(b+1)<=1000->a<100000:=cC (ip a b) 73287953059198829660811202077409284 rfl
def Ww:a+b<=5*c->c+d<=12->a+b<=1000:=cC (Iy a b c d) 656831024299988318208222529605353476 rfl
def aek:b+a<=5*c->c+d<=12->a<=10000:=cC (Iy a b c d) 3208424984847922174204387722809348 rfl
def ael:34=97+a->False:=cC (jL a) 1141362863251526 rfl
def aem:40≠65+(a- 6):=cC (ip a (a- 6)) 1418439793475654 rfl
def aen:41≠65+(a- 6):=cC (ip a (a- 6)) 1418439793479750 rfl
def aeo:97+a≠34:=cC (jL a) 431081631518725 rfl
def aep:65+(a- 6)≠34:=cC (ip a (a- 6)) 431082688483333 rfl
def aer:a<=5*b->b<=12->a<=60:=cC (ip a b) 585651863935010706039044 rfl
def aes:a<=60->a<=16777214:=cC (jL a) 75557863167638400667908 rfl
def Wx:a<=60->a<=1048576:=cC (jL a) 7121028685077475758340 rfl
def aet:a<=9000->a+1<50000:=cC (jL a) 572562143099801748880209236463876 rfl
def aeu:a<=60->a<=9999:=cC (jL a) 11398333855928684804 rfl
def Wy:a<=60->a<=10000:=cC (jL a) 11398615330905395460 rfl
def aev:a<=9000->a+1<=10000:=cC (jL a) 191237028049327328711414020 rfl
def aew:a<=60->a<=9998:=cC (jL a) 11398052380951974148 rfl
def aex:a<=61000000->b<=61000000->c<=61000000->d<=61000000->e<=61000000->f<=61000000->a+(b+(c+(d+(e+f))))<500000000:=λh i j k l m=>bI (gb h (gb i (gb j (gb k (gb l m))))) (by decide)
def aey:b<=a->a+b<=2*a:=cC (ip a b) 72629687977001284 rfl
def Wz:a<=64->a<50000:=cC (jL a) 34127363151313179942850820 rfl
def WA:a<=6->a+1<=10000:=cC (jL a) 46688727551105304105220 rfl
def aez:a<=64->b<=a->a+b<=10000:=cC (ip a b) 12239170093691855542086013192 rfl
def aeA:a+(b+1)=c->c=6->a<6:=cC (lY a b c) 1952262467830445634141425938481157 rfl
def aeB:a<=2*c->c<=b->a<=b*2:=cC (lY a b c) 9817198973207557185796 rfl
def aeC:a<=b->a<=b+1:=cC (ip a b) 286216687997188 rfl
def aeD:a<=b->b<6->a<=6:=cC (ip a b) 1818407505103835536314628 rfl
def aeE:a<=b->b<=2 ^ 5->a<=64:=cC (ip a b) 11807141474345962983684 rfl
def aeF:a<6->6+a<12:=cC (jL a) 951995554588366884685186613252 rfl
def aeG:6<=6+a:=cC (jL a) 281337159745 rfl
def aeH:a+1=b->(↑a:Int)=(↑b:Int)- 1:=λh=>h▸(yW a 1).symm
def aeI:a+1<=b->(↑a:Int)<=(↑b:Int)- 1:=λh=>Int.le_sub_one_of_lt (cL.mpr h)
def aeJ:6+c<6->¬a=b:=λh=>absurd h (dE (bh ..))
def aeK:a<=9000->a<50000:=cC (jL a) 2184151241684043523214545156 rfl
def aeL:1+((↑a:Int)- 1)=(↑a:Int):=(uc ..).trans (S0 ..)
def aeM:a≠b->(↑a:Int)≠(↑b:Int):=λh k=>h (qh k)
def WB:97+a=40->False:=cC (jL a) 457469910585349 rfl
def aeN:97+a=97+b->b≠a->False:=λh k=>k (pO h).symm
def aeO:97+a<97->False:=cC (jL a) 259425639086726316036 rfl
def aeP:97+a=65+(b- 6)->b<12->False:=λh0 h1=>cC (lY a b (b- 6)) 6772114105459816715570997981490712581 rfl h0 h1 (jR ..)
def aeQ:97+a=41->False:=cC (jL a) 461867957096453 rfl
def aeR:b+1=a->b+1<=c->c=6->1<=a/\a<=6:=λh k l=>h▸⟨gn ..,l▸k⟩
def aeS:a+(b+1)<=60->a<60:=cC (ip a b) 9825549755743285739946661396484 rfl
def aeT:a<=6->(↑a:Int)<=1000:=λh=>ec (fK.mpr h) (by decide)
def aeU:a<60->b<=6->a+b<=10000:=cC (ip a b) 205339200322608640851085765281857540 rfl
def Pf:a<=6->a- 1<=6:=λh=>aA (jR ..) h
def aeV:a- 1<=a:=jR ..
def aeW:1<=a->a- (a- 1)=1:=λh=>Co h
def aeX:a<=5*c->b<=100->c+d<=12->a+b<=8000:=cC (Iy a b c d) 2757649735899386583083096508745571456262404 rfl
def aeY:a<60->b<=6->1+(a+(b- 1))<=9000:=λh k=>aA (dX (gb (ce h) (aA (jR ..) k)) 1) (by decide)
def aeZ:a<=8000->a+1<=9000:=cC (jL a) 172158667458533960989020420 rfl
def ae0:a<=6->b<=6->c<=6->d<=6->e<=6->f<=6->a+(b+(c+(d+(e+(f+0)))))<=36:=cC (lc6 a b c d e f) 176712321151228619036728260840482622285112478791656382463939676938509488388 rfl
def ae2:a<=36->b=2 ^ 24->a<=b:=cC (ip a b) 6267451636863069495206351108 rfl
def ae3:a<=72->a<100000:=cC (jL a) 68254725131391388493025540 rfl
def ae4:816<=a->0<a:=cC (jL a) 296318845481663266884 rfl
def ae5:(¬63< (↑a:Int))->a<=63:=λh=>(@fK a 63).mp (nT.mp h)
end
noncomputable abbrev pw:Program:=pF
abbrev MM (w:jB):Model:=model pw w
inductive PV where
 |con (v:Value)
 |int (i:Int)
 |fF (u:UInt64)
 |str (s:Str)
 |tup (l:List PV)
 |lst (l:List PV)
 |oK (l:List (Str×PV))
inductive AV where
 |pv (d:PV)
 |fM (i:Nat)
 |tm (args:Arguments) (body:Expr) (scope:Scope) (cells:Sn)
 |inst (i:Nat)
inductive AO where
 |pX
 |list (l:List PV)
 |dict (l:List (Str×PV))
 |ns (m:List (Str×Option AV))
 |cell (v:Option AV)
 |attrs (m:List (Str×AV))
structure aM where
 F:Addr->Option Obj
 Z:Nat->Addr
 pin:Addr->Option Obj
structure aM.le (n:Nat) (c c':aM):Prop where
 F:∀a o,c.F a=aa o->c'.F a=aa o
 Z:∀i,i<n->c'.Z i=c.Z i
 pin:c'.pin=c.pin
def aM.le.refl (n:Nat) (c:aM):aM.le n c c:=⟨λq q h=>h,λq q=>rfl,rfl⟩
def aM.le.trans (h:aM.le n a b) (k:aM.le m b c) (hm:n<=m):aM.le n a c:=
 ⟨λx o e=>k.F x o (h.F x o e),λi hi=>(k.Z i (a8 hi hm)).trans (h.Z i hi),k.pin.trans h.pin⟩
def aM.le.weak (h:aM.le m a b) (hm:n<=m):aM.le n a b:=⟨h.F,λi hi=>h.Z i (a8 hi hm),h.pin⟩
inductive dk (w:jB) (F:Addr->Option Obj):Value->PV->Prop
 |con (v:Value):dk w F v (PV.con v)
 |int (i:Int) (t:C6):dk w F (.int i t) (.int i)
 |fF (u:UInt64) (t:C6):dk w F (.float u t) (.fF u)
 |str (x:Str) (t:C6):dk w F (.str x t) (.str x)
 |tup {a:Addr} {vs:Array Value} {n:Nat} {l:List PV}:F a=aa {cls:= .type "tuple",data:= .seq vs n}->vs.size=l.length->
   (∀(i:Nat) (v:Value) (d:PV),vs[i]? =aa v->l[i]? =aa d->dk w F v d)->dk w F (.ref a) (.tup l)
 |lst {a:Addr} {vs:Array Value} {n:Nat} {l:List PV}:F a=aa {cls:= .type "list",data:= .seq vs n}->vs.size=l.length->
   (∀(i:Nat) (v:Value) (d:PV),vs[i]? =aa v->l[i]? =aa d->dk w F v d)->dk w F (.ref a) (.lst l)
 |oK {a:Addr} {es:Array eL} {n:Nat} {l:List (Str×PV)}:(a==sysModules)=false->F a=aa {cls:= .type "dict",data:= .dict es n}->es.size=l.length->(l.map (·.1)).Nodup->
   (∀(i:Nat) (e:eL) (k:Str) (d:PV),es[i]? =aa e->l[i]? =aa (k,d)->e.hash=hashStr w k/\∃t,e.key= .str k t)->
   (∀(i:Nat) (e:eL) (k:Str) (d:PV),es[i]? =aa e->l[i]? =aa (k,d)->dk w F e.val d)->dk w F (.ref a) (.oK l)
def dk.mono (h:dk w F v d) (hF:∀a o,F a=aa o->F' a=aa o):dk w F' v d:=by
 induction h with
 |con v=>exact .con v
 |int i t=>exact .int i t
 |fF u t=>exact .fF u t
 |str x t=>exact .str x t
 |tup a b c ih=>exact .tup (hF _ _ a) b ih
 |lst a b c ih=>exact .lst (hF _ _ a) b ih
 |oK m a b n c d ih=>exact .oK m (hF _ _ a) b n c ih
def yZ (F:Addr->Option Obj) (cd:Value):Prop:=∃c o vs q t,cd= .ref c/\F c=aa o/\o.data= .fields vs/\vs[1]? =aa (.str q t)
inductive Mu (F:Addr->Option Obj) (a:Addr) (ps:Arguments) (b:Expr) (sc:Scope) (cl:List (Str×Addr)):Prop
 |mk {o:Obj} {fd:FuncData} (h1:F a=aa o) (h2:o.cls= .type "function") (h3:o.data= .func fd) (h4:fd.globals=mainGlobals) (h5:fd.builtins=builtinsNs) (h6:fd.defaults= .none) (h7:fd.kwdefaults= .none) (h8:yZ F fd.code)
  (h9:fd.params=ps) (IB:fd.body= .expr b) (IC:fd.scope=sc) (Oz:fd.closure=cl)
def Mu.mono (h:Mu F a ps b sc cl) (hF:∀a o,F a=aa o->F' a=aa o):Mu F' a ps b sc cl:=by obtain(⟨h1,h2,h3,h4,h5,h6,h7,⟨x,o,vs,q,t,a,b,d⟩,h9,IB,IC,Oz⟩):=h;exact⟨hF _ _ h1,h2,h3,h4,h5,h6,h7,⟨x,o,vs,q,t,a,hF _ _ b,d⟩,h9,IB,IC,Oz⟩
inductive cT (w:jB) (c:aM) (n:Nat):Value->AV->Prop
 |pv {v:Value} {d:PV}:dk w c.F v d->cT w c n v (.pv d)
 |fM {i:Nat}:i<n->cT w c n (.ref (c.Z i)) (.fM i)
 |tm {a:Addr} {ps:Arguments} {b:Expr} {sc:Scope} {cells:Sn}:Mu c.F a ps b sc (cells.map λp=>(p.1,c.Z p.2))->(∀p∈cells,p.2<n)->cT w c n (.ref a) (.tm ps b sc cells)
 |inst {a:Addr} {o:Obj} {i:Nat}:c.F a=aa o->o.cls= .ref 182->(∀k,o.data≠ .cls k)->o.dict=aa (c.Z i)->i<n->cT w c n (.ref a) (.inst i)
def cT.j5 (h:cT w c n v d) (hF:∀a o,c.F a=aa o->c'.F a=aa o) (D5:∀i,i<n->c'.Z i=c.Z i) (hn:n<=n'):cT w c' n' v d:=by
 induction h with
 |pv h=>exact .pv (h.mono hF)
 |fM h=>exact(D5 _ h)▸(.fM (a8 h hn))
 | @tm a ps b sc cells h hl=>exact .tm ((cj λp hp=>by rw[D5 _ (hl p hp)]:(cells.map λp=>(p.1,c.Z p.2))=cells.map λp=>(p.1,c'.Z p.2))▸h.mono hF) λp hp=>a8 (hl p hp) hn
 |inst a b d e f=>exact .inst (hF _ _ a) b d ((D5 _ f)▸(e)) (a8 f hn)
def cT.mono (h:cT w c n v d) (hc:aM.le n c c') (hn:n<=n'):cT w c' n' v d:=h.j5 hc.F hc.Z hn
inductive ic (w:jB) (c:aM) (n:Nat):Obj->AO->Prop
 |pX (o:Obj):ic w c n o .pX
 |list {vs:Array Value} {e:Nat} {l:List PV}:vs.size=l.length->(∀(i:Nat) (v:Value) (d:PV),vs[i]? =aa v->l[i]? =aa d->dk w c.F v d)->
   ic w c n {cls:= .type "list",data:= .seq vs e} (.list l)
 |dict {es:Array eL} {e:Nat} {l:List (Str×PV)}:es.size=l.length->(l.map (·.1)).Nodup->
   (∀(i:Nat) (e:eL) (k:Str) (d:PV),es[i]? =aa e->l[i]? =aa (k,d)->e.hash=hashStr w k/\∃t,e.key= .str k t)->
   (∀(i:Nat) (e:eL) (k:Str) (d:PV),es[i]? =aa e->l[i]? =aa (k,d)->dk w c.F e.val d)->
   ic w c n {cls:= .type "dict",data:= .dict es e} (.dict l)
 |ns {o:Obj} {es:Array eL} {ep:Nat} {m:List (Str×Option AV)}:o.data= .dict es ep->C7 es->(m.map (·.1)).Nodup->
   (∀(x:Str) (d:AV),(x,aa d)∈m->∃v,nsFind es x=aa v/\cT w c n v d)->
   (∀x:Str,(x,ac)∈m->nsFind es x=ac)->ic w c n o (.ns m)
 |cell {o:Obj} {v:Option Value} {d:Option AV}:o.data= .cell v->o.slots= #[]->(∀x,d=aa x->∃u,v=aa u/\cT w c n u x)->(d=ac->v=ac)->ic w c n o (.cell d)
 |attrs {o:Obj} {es:Array eL} {ep:Nat} {m:List (Str×AV)}:o.data= .dict es ep->C7 es->VF es->(m.map (·.1)).Nodup->
   (∀(x:Str) (d:AV),(x,d)∈m->∃v,nsFind es x=aa v/\cT w c n v d)->(∀x:Str,x∉m.map (·.1)->nsFind es x=ac)->ic w c n o (.attrs m)
def ic.j5 (h:ic w c n o ao) (hF:∀a o,c.F a=aa o->c'.F a=aa o) (D5:∀i,i<n->c'.Z i=c.Z i) (hn:n<=n'):ic w c' n' o ao:=by
 induction h with
 |pX o=>exact .pX o
 |list a b=>exact .list a λi v d h1 h2=>(b i v d h1 h2).mono hF
 |dict a b d e=>exact .dict a b d λi e' k x h1 h2=>(e i e' k x h1 h2).mono hF
 |ns a b nd d e=>exact .ns a b nd (λx y h=>xe12 (d x y h) λv h1 h2=>⟨v,h1,h2.j5 hF D5 hn⟩) e
 |cell a b d e=>exact .cell a b (λx h=>xe12 (d x h) λv h1 h2=>⟨v,h1,h2.j5 hF D5 hn⟩) e
 |attrs a b u nd d e=>exact .attrs a b u nd (λx y h=>xe12 (d x y h) λv h1 h2=>⟨v,h1,h2.j5 hF D5 hn⟩) e
def ic.mono (h:ic w c n o ao) (hc:aM.le n c c') (hn:n<=n'):ic w c' n' o ao:=h.j5 hc.F hc.Z hn
inductive XT (c:aM) (n i:Nat) (v:Value):Prop
 |mk (e:v= .ref (c.Z i)) (h:i<n)
inductive TJ (w:jB) (F:Addr->Option Obj) (T:String) (l:List PV) (u:Value):Prop
 |mk (a:Addr) (vs:Array Value) (n:Nat) (e:u= .ref a) (h:F a=aa {cls:= .type T,data:= .seq vs n}) (hs:vs.size=l.length) (hp:∀(i:Nat) (v:Value) (d:PV),vs[i]? =aa v->l[i]? =aa d->dk w F v d)
inductive WC (w:jB) (F:Addr->Option Obj) (l:List PV) (o:Obj):Prop
 |mk (vs:Array Value) (n:Nat) (e:o= {cls:= .type "list",data:= .seq vs n}) (hs:vs.size=l.length) (hp:∀(i:Nat) (v:Value) (d:PV),vs[i]? =aa v->l[i]? =aa d->dk w F v d)
inductive KR (w:jB) (F:Addr->Option Obj) (l:List (Str×PV)) (o:Obj):Prop
 |mk (es:Array eL) (n:Nat) (e:o= {cls:= .type "dict",data:= .dict es n}) (hs:es.size=l.length) (nd:(l.map (·.1)).Nodup) (hk:∀(i:Nat) (e:eL) (k:Str) (d:PV),es[i]? =aa e->l[i]? =aa (k,d)->e.hash=hashStr w k/\∃t,e.key= .str k t)
  (hp:∀(i:Nat) (e:eL) (k:Str) (d:PV),es[i]? =aa e->l[i]? =aa (k,d)->dk w F e.val d)
def PSh (w:jB) (F:Addr->Option Obj) (v:Value):PV->Prop
 | .con u=>v=u
 | .int i=>∃t,v= .int i t
 | .fF i=>∃t,v= .float i t
 | .str i=>∃t,v= .str i t
 | .tup l=>TJ w F "tuple" l v
 | .lst l=>TJ w F "list" l v
 | .oK l=>∃a o,v= .ref a/\(a==sysModules)=false/\F a=aa o/\KR w F l o
def dk.sh (h:dk w F v d):PSh w F v d:=by
 induction h with
 |con=>exact rfl
 |tup a b c=>exact⟨_,_,_,rfl,a,b,c⟩
 |lst a b c=>exact⟨_,_,_,rfl,a,b,c⟩
 |oK m x a b d e=>exact⟨_,_,rfl,m,x,_,_,rfl,a,b,d,e⟩
 |_=>exact⟨_,rfl⟩
def ASh (w:jB) (c:aM) (n:Nat) (v:Value):AV->Prop
 | .pv d=>dk w c.F v d
 | .fM i=>XT c n i v
 | .inst i=>∃a o,v= .ref a/\c.F a=aa o/\o.cls= .ref 182/\(∀k,o.data≠ .cls k)/\o.dict=aa (c.Z i)/\i<n
 | .tm ps b sc cells=>∃a,v= .ref a/\Mu c.F a ps b sc (cells.map λp=>(p.1,c.Z p.2))/\∀p∈cells,p.2<n
def cT.sh (h:cT w c n v d):ASh w c n v d:=by
 induction h with
 |pv h=>exact h
 |fM h=>exact⟨rfl,h⟩
 |tm h hl=>exact⟨_,rfl,h,hl⟩
 |inst a b d e f=>exact⟨_,_,rfl,a,b,d,e,f⟩
def OSh (w:jB) (c:aM) (n:Nat) (o:Obj):AO->Prop
 | .pX=>True
 | .list l=>WC w c.F l o
 | .dict l=>KR w c.F l o
 | .ns m=>∃es ep,o.data= .dict es ep/\C7 es/\(m.map (·.1)).Nodup/\(∀(x:Str) (d:AV),(x,aa d)∈m->∃v,nsFind es x=aa v/\cT w c n v d)/\∀x:Str,(x,ac)∈m->nsFind es x=ac
 | .cell d=>∃v,o.data= .cell v/\o.slots= #[]/\(∀x,d=aa x->∃u,v=aa u/\cT w c n u x)/\(d=ac->v=ac)
 | .attrs m=>∃es ep,o.data= .dict es ep/\C7 es/\VF es/\(m.map (·.1)).Nodup/\(∀(x:Str) (d:AV),(x,d)∈m->∃v,nsFind es x=aa v/\cT w c n v d)/\∀x:Str,x∉m.map (·.1)->nsFind es x=ac
def ic.sh (h:ic w c n o d):OSh w c n o d:=by
 induction h with
 |pX=>trivial
 |list a b=>exact⟨_,_,rfl,a,b⟩
 |dict a b d e=>exact⟨_,_,rfl,a,b,d,e⟩
 |ns a b nd d e=>exact⟨_,_,a,b,nd,d,e⟩
 |cell a b d e=>exact⟨_,a,b,d,e⟩
 |attrs a b u nd d e=>exact⟨_,_,a,b,u,nd,d,e⟩
noncomputable def cm:List (Addr×Addr):=[(317,313),(324,320),(329,327)]
def ud (F:Addr->Option Obj) (c P:Addr):Prop:=
 ∃o vs KC tf Cu tg Zp text tt,F c=aa o/\o.cls= .type "code" /\o.data= .fields vs/\vs[11]? =aa (.ref P)/\vs.getD 11 .none= .ref P/\vs.getD 18 .none= .str KC tf/\
  vs.getD 7 .none= .int Cu tg/\vs.getD 9 .none= .bool Zp/\vs.getD 10 .none= .int text tt/\c≠P
def theDef (x:Str):Arguments×List Stmt×Scope:=(pw.theDef x).getD (⟨[],[],ac,[],[],ac,[]⟩,[],default)
def wA (x : Str) : Arguments × List Stmt × Scope := (theDefIn ((pw.theClass "Headers").elim [] (·.2.1)) x).getD (⟨[], [], ac, [], [], ac, []⟩, [], default)
noncomputable def fdOf (name qual:Str) (d:Arguments×List Stmt×Scope) (dv kv:Value) (code:Addr) (pm:Value):FuncData:=
 {name:=name,qualname:=qual,params:=d.1,body:= .stmts d.2.1,scope:=d.2.2,globals:=3,closure:=[],defaults:=dv,kwdefaults:=kv,doc:= .none,pyModule:=pm,annotations:=ac,code:= .ref code,closureTuple:= .none,builtins:=0}
structure eh where
 addr:Addr
 name:Str
 qual:Str
 d:Arguments×List Stmt×Scope
 dv:Value
 kv:Value
 code:Addr
def eh.fd (r:eh) (pm:Value):FuncData:=fdOf r.name r.qual r.d r.dv r.kv r.code pm
def cP:eh:=⟨195,ah "insort_right",ah "insort_right",theDef "insort_right",.ref 187,.ref 188,194⟩
def cQ:eh:=⟨204,ah "bisect_right",ah "bisect_right",theDef "bisect_right",.ref 196,.ref 197,203⟩
def dQ:eh:=⟨213,ah "insort_left",ah "insort_left",theDef "insort_left",.ref 205,.ref 206,212⟩
def fk:eh:=⟨222,ah "bisect_left",ah "bisect_left",theDef "bisect_left",.ref 214,.ref 215,221⟩
def n8:eh:=⟨229,ah "rgb_to_yiq",ah "rgb_to_yiq",theDef "rgb_to_yiq",.none,.none,228⟩
def n9:eh:=⟨236,ah "yiq_to_rgb",ah "yiq_to_rgb",theDef "yiq_to_rgb",.none,.none,235⟩
def og:eh:=⟨243,ah "rgb_to_hls",ah "rgb_to_hls",theDef "rgb_to_hls",.none,.none,242⟩
def oh:eh:=⟨250,ah "hls_to_rgb",ah "hls_to_rgb",theDef "hls_to_rgb",.none,.none,249⟩
def r_v:eh:=⟨257,ah "_v",ah "_v",theDef "_v",.none,.none,256⟩
def oj:eh:=⟨264,ah "rgb_to_hsv",ah "rgb_to_hsv",theDef "rgb_to_hsv",.none,.none,263⟩
def om:eh:=⟨271,ah "hsv_to_rgb",ah "hsv_to_rgb",theDef "hsv_to_rgb",.none,.none,270⟩
def ng:eh:=⟨278,ah "_iter_escaped_chars",ah "_iter_escaped_chars",theDef "_iter_escaped_chars",.none,.none,277⟩
def gY:eh:=⟨285,ah "_strip_quoted_realnames",ah "_strip_quoted_realnames",theDef "_strip_quoted_realnames",.none,.none,284⟩
def jo:eh:=⟨292,ah "_check_parenthesis",ah "_check_parenthesis",theDef "_check_parenthesis",.none,.none,291⟩
def iu:eh:=⟨299,ah "_pre_parse_validation",ah "_pre_parse_validation",theDef "_pre_parse_validation",.none,.none,298⟩
def rz:eh:=⟨304,ah "_law_told",ah "_law_told",theDef "_law_told",.none,.none,303⟩
def oo:eh:=⟨311,ah "_law_unlike",ah "_law_unlike",theDef "_law_unlike",.none,.none,310⟩
def rA:eh:=⟨318,ah "_law_hues",ah "_law_hues",theDef "_law_hues",.none,.none,317⟩
def bj:eh:=⟨325,ah "_law_refused",ah "_law_refused",theDef "_law_refused",.none,.none,324⟩
def AI:eh:=⟨330,ah "law",ah "law",theDef "law",.none,.none,329⟩
def j6:eh:=⟨76,ah "__init__",ah "Headers.__init__",wA "__init__",.ref 69,.none,75⟩
def mx:eh:=⟨83,ah "_convert_string_type",ah "Headers._convert_string_type",wA "_convert_string_type",.none,.none,82⟩
def qM:eh:=⟨121,ah "get_all",ah "Headers.get_all",wA "get_all",.none,.none,120⟩
def wB : eh := ⟨146, ah "items", ah "Headers.items", wA "items", .none, .none, 145⟩
def fy:eh:=⟨179,ah "add_header",ah "Headers.add_header",wA "add_header",.none,.none,178⟩
def fV:List eh:=[cP,cQ,dQ,fk,n8,n9,og,oh,r_v,oj,om,ng,gY,jo,iu,rz,oo,rA,bj,AI,j6,mx,qM,wB,fy]
noncomputable def cg:List (Str×Option Value):=[
 (ah "_name_disallowed_re",aa (.ref 48)),(ah "_value_disallowed_re",aa (.ref 53)),(ah "Headers",aa (.ref 182)),
 (ah "insort_right",aa (.ref 195)),(ah "bisect_right",aa (.ref 204)),(ah "insort_left",aa (.ref 213)),(ah "bisect_left",aa (.ref 222)),
 (ah "ONE_THIRD",aa (.float 4599676419421066581 612)),(ah "ONE_SIXTH",aa (.float 4595172819793696085 616)),(ah "TWO_THIRD",aa (.float 4604180019048437077 620)),
 (ah "rgb_to_yiq",aa (.ref 229)),(ah "yiq_to_rgb",aa (.ref 236)),(ah "rgb_to_hls",aa (.ref 243)),(ah "hls_to_rgb",aa (.ref 250)),(ah "_v",aa (.ref 257)),
 (ah "rgb_to_hsv",aa (.ref 264)),(ah "hsv_to_rgb",aa (.ref 271)),(ah "_iter_escaped_chars",aa (.ref 278)),(ah "_strip_quoted_realnames",aa (.ref 285)),
 (ah "_check_parenthesis",aa (.ref 292)),(ah "_pre_parse_validation",aa (.ref 299)),(ah "_law_told",aa (.ref 304)),(ah "_law_unlike",aa (.ref 311)),
 (ah "_law_hues",aa (.ref 318)),(ah "_law_refused",aa (.ref 325)),(ah "__name__",aa (.str "law_ti0077_01" 760)),(ah "__builtins__",aa (.ref 4)),
 (ah "len",ac),(ah "range",ac),(ah "sum",ac),(ah "max",ac),(ah "min",ac),(ah "round",ac),(ah "list",ac),
 (ah "int",ac),(ah "str",ac),(ah "type",ac),(ah "enumerate",ac),(ah "ValueError",ac),(ah "TypeError",ac),(ah "AssertionError",ac),(ah "repr",ac)]
noncomputable def lu:List (Str×Option Value):=[
 (ah "len",aa (.builtin "len")),(ah "range",aa (.type "range")),(ah "sum",aa (.builtin "sum")),(ah "max",aa (.builtin "max")),(ah "min",aa (.builtin "min")),
 (ah "round",aa (.builtin "round")),(ah "list",aa (.type "list")),(ah "int",aa (.type "int")),(ah "str",aa (.type "str")),(ah "type",aa (.type "type")),
 (ah "enumerate",aa (.type "enumerate")),(ah "ValueError",aa (.type "ValueError"))]
noncomputable def iV:List (Str×Option Value):=[
 (ah "__init__",aa (.ref 76)),(ah "_convert_string_type",aa (.ref 83)),(ah "get_all",aa (.ref 121)),(ah "items",aa (.ref 146)),(ah "add_header",aa (.ref 179)),
 (ah "__getattribute__",ac),(ah "__getattr__",ac),(ah "__setattr__",ac),(ah "_headers",ac)]
noncomputable def rD:List (Addr×Addr×List Nat):=[
 (48,47,[14,10,4,1,1,22,0,31,16,127,0,13,7,22,0,31,16,127,0,1]),
 (53,52,[14,14,4,1,1,9,4294966783,0,0,2147483648,0,0,0,0,0,13,11,9,4294966783,0,0,2147483648,0,0,0,0,0,1])]
noncomputable def wD:Pos:=⟨350,0,351,18⟩
noncomputable abbrev dfT (c:Value) (d:Option Addr) (t:C6) (n:Nat) (sl:Array (Option Value)):Obj:=⟨c,d,.seq #[.int 0 t,.none] n,sl⟩
noncomputable abbrev dfK (c:Value) (d:Option Addr) (hs:Int) (t n:Nat) (sl:Array (Option Value)):Obj:=⟨c,d,.dict #[⟨hs,.str "key" t,.none⟩] n,sl⟩
structure cz where
 w:jB
 h₀:iQ
 os:OsState
 yI:Bool
 glob:∃mg,h₀.Ns mainGlobals mg/\∀p∈cg,mg p.1=p.2
 blt:∃mb,h₀.Ns builtinsNs mb/\∀p∈lu,mb p.1=p.2
 lim:h₀.NoLimit
 fns:∀r∈fV,∃o pm,h₀.get? r.addr=aa o/\o.cls= .type "function" /\o.data= .func (r.fd pm)/\h₀.CodeRec (.ref r.code) r.qual
 tabs:∀q∈cm,h₀.get? q.2=aa (tableObj #[])/\ud h₀.get? q.1 q.2
 Z9:∀a∈[187,196,205,214],∃o n t,h₀.get? a=aa o/\o.data= .seq #[.int 0 t,.none] n
 N1:∀a∈[188,197,206,215],∃c d hs t n sl,h₀.get? a=aa (dfK c d hs t n sl)
 mods:∃o,h₀.get? sysModules=aa o
 bmod:∃o,h₀.get? 4=aa o/\o.cls= .type "module" /\o.dict=aa builtinsNs/\o.data= .plain
 cls:∃nm q bs sn sub OT dd k0 k1 k2 k3 k5,h₀.get? 182=aa (excClassObj nm q 182 181 bs [.type "object"] true sn sub false OT dd k0 k1 k2 k3 k5 "object.__new__")
 D3:∃mN,h₀.Ns 181 mN/\∀p∈iV,mN p.1=p.2
 pats:∀p∈rD,∃o fs oc items n,h₀.get? p.1=aa o/\o.cls= .type "re.Pattern" /\o.data= .fields fs/\o.dict=ac/\fs.getD 6 .none= .int 0 0/\fs.getD 2 .none= .int 0 0/\fs.getD 5 .none= .ref p.2.1/\
  h₀.get? p.2.1=aa oc/\oc.data= .seq items n/\((items.map iB).map nS).toList=p.2.2
 D4:∃o n,h₀.get? 69=aa o/\o.data= .seq #[.none] n
structure Rel (S:cz) (c:aM) (O:List AO) (h:iQ):Prop where
 frozen:∀a o,c.F a=aa o->h.get? a=aa o
 base:∀a o,S.h₀.get? a=aa o->(∀q∈cm,a≠q.2)->c.F a=aa o
 own:∀(i:Nat) (ao:AO),O[i]? =aa ao->∃o,h.get? (c.Z i)=aa o/\ic S.w c O.length o ao
 apart:∀i,i<O.length->c.F (c.Z i)=ac
 inj:∀i j,i<O.length->j<O.length->c.Z i=c.Z j->i=j
 pins:∀a o,c.pin a=aa o->h.get? a=aa o/\c.F a=ac/\(∀i,i<O.length->c.Z i≠a)/\∀q∈cm,q.2≠a
 tabs:∀q∈cm,c.F q.2=ac/\(∀i,i<O.length->c.Z i≠q.2)/\∃ps,h.get? q.2=aa (tableObj ps)/\(uW ps.toList/\(S.yI=true->q.1=324->codeAmong wD ps.toList=ac))/\∀pos cd,codeAmong pos ps.toList=aa cd->yZ c.F cd
noncomputable def wF:Program:=view pF [34]
noncomputable def AJ:List Str:=["_sre", "_wall", "tspecials", "_name_disallowed_re", "_value_disallowed_re", "_formatparam", "Headers", "insort_right", "bisect_right", "insort_left", "bisect_left", "ONE_THIRD", "ONE_SIXTH", "TWO_THIRD", "rgb_to_yiq", "yiq_to_rgb", "rgb_to_hls", "hls_to_rgb", "_v", "rgb_to_hsv", "hsv_to_rgb", "_iter_escaped_chars", "_strip_quoted_realnames", "_check_parenthesis", "_pre_parse_validation", "_law_told", "_law_unlike", "_law_hues", "_law_refused"].map ah
noncomputable def look {α:Type} (h:iQ) (a:Addr) (f:Obj->α):Option α:=(h.get? a).map f
noncomputable def Ej (o:Obj):Option (Value×FuncData):=match o.data with| .func fd=>aa (o.cls,{fd with pyModule:= .none})|_=>ac
noncomputable def strOf? :Option Value->Option Str
 |some (.str q _)=>aa q
 |_=>ac
def wG (o : Obj) : Option Str := match o.data with | .fields vs => strOf? vs[1]? | _ => ac
noncomputable def yf (o:Obj):Option (Value×Option Value×Value×Value×Value×Value×Value):=match o.data with| .fields vs=>aa (o.cls,vs[11]?,vs.getD 11 .none,vs.getD 18 .none,vs.getD 7 .none,vs.getD 9 .none,vs.getD 10 .none)|_=>ac
noncomputable def ae7:Value->Bool
 | .int n _=>decide (n=0)
 |_=>false
noncomputable def Pg:Value->Bool
 | .none=>true
 |_=>false
def WD:List Value->Bool
 | []=>false
 | [_]=>false
 | [a,b]=>ae7 a&&Pg b
 |_::_::_::_=>false
def z0 (o:Obj):Bool:=match o.data with| .seq vs _=>WD vs.toList|_=>false
def Ph:List eL->Bool
 | []=>false
 | [⟨_,k,v⟩]=>strOf? (aa k)==aa (ah "key")&&Pg v
 |_::_::_=>false
def wH (o : Obj) : Bool := match o.data with | .dict es _ => Ph es.toList | _ => false
noncomputable def Ek (o:Obj):Option (Array Value):=match o.data with| .seq vs _=>aa vs|_=>ac
noncomputable def wJ (o:Obj):Option (Value×Option Addr×Value×Value×Value):=match o.data with| .fields fs=>aa (o.cls,o.dict,fs.getD 6 .none,fs.getD 2 .none,fs.getD 5 .none)|_=>ac
noncomputable def z1 (o:Obj):Option (List Nat):=match o.data with| .seq vs _=>aa ((vs.map iB).map nS).toList|_=>ac
noncomputable def nsLook (h:iQ) (a:Addr) (l:List (Str×Option Value)):Bool×List (Option Value):=(h.isNs a,l.map λp=>h.nsMap a p.1)
noncomputable def Pj:List (Addr×Addr×Nat):=[(317,313,795),(324,320,808),(329,327,814)]
structure Dh where
 glob:Bool×List (Option Value)
 blt:Bool×List (Option Value)
 lim:Bool×List (Option Value)
 fns:List (Option (Option (Value×FuncData)))
 RX:List (Option (Option Str))
 tabs:List (Option Obj)
 Zk:List (Option (Option (Value×Option Value×Value×Value×Value×Value×Value)))
 Z9:List (Option Bool)
 D4:Option (Option (Array Value))
 N1:List (Option Bool)
 mods:Bool
 bmod:Option Obj
 cls:Option Obj
 D3:Bool×List (Option Value)
 pats:List (Option (Option (Value×Option Addr×Value×Value×Value)))
 Zl:List (Option (Option (List Nat)))
 size:Nat
 own:Option Value
noncomputable def Pk:List (Str×Option Value):=[(ah "sys.recursionlimit",ac)]
def obs (h:iQ):Dh where
 glob:=nsLook h mainGlobals cg
 blt:=nsLook h builtinsNs lu
 lim:=nsLook h cStatics Pk
 fns:=fV.map λr=>look h r.addr Ej
 RX:=fV.map λr=>look h r.code wG
 tabs:=cm.map λq=>h.get? q.2
 Zk:=Pj.map λq=>look h q.1 yf
 Z9:=[187,196,205,214].map λa=>look h a z0
 D4:=look h 69 Ek
 N1:=[188,197,206,215].map λa=>look h a wH
 mods:=(h.get? sysModules).isSome
 bmod:=h.get? 4
 cls:=h.get? 182
 D3:=nsLook h 181 iV
 pats:=rD.map λp=>look h p.1 wJ
 Zl:=rD.map λp=>look h p.2.1 z1
 size:=h.objs.size
 own:=h.nsMap mainGlobals "law"
noncomputable def Pl:Obj:=excClassObj "Headers" "Headers" 182 181 [.type "object"] [.type "object"] true [] [] false ac ac ac ac (aa (.str "Headers" 395)) (aa (.str "Headers" 403)) (aa (.bool true)) "object.__new__"
def good:Dh where
 glob:=(true,cg.map (·.2))
 blt:=(true,lu.map (·.2))
 lim:=(true,Pk.map (·.2))
 fns:=fV.map λr=>aa (aa (.type "function",r.fd .none))
 RX:=fV.map λr=>aa (aa r.qual)
 tabs:=cm.map λz=>aa (tableObj #[])
 Zk:=Pj.map λq=>aa (aa (.type "code",aa (.ref q.2.1),.ref q.2.1,.str "/claim/cut.py" q.2.2,.int 3 0,.bool true,.int 276 0))
 Z9:=[187,196,205,214].map λ(_:Addr)=>aa true
 D4:=aa (aa #[.none])
 N1:=[188,197,206,215].map λ(_:Addr)=>aa true
 mods:=true
 bmod:=aa {cls:= .type "module",dict:=aa builtinsNs,data:= .plain}
 cls:=aa Pl
 D3:=(true,iV.map (·.2))
 pats:=rD.map λp=>aa (aa (.type "re.Pattern",ac,.int 0 0,.int 0 0,.ref p.2.1))
 Zl:=rD.map λp=>aa (aa p.2.2)
 size:=331
 own:=aa (.ref 330)
def IP (s:bb):Dh×Nat:=(obs s.heap,s.toks)
def Mv:LeftO pF wF AJ (λs=>recOk [] s) IP (λq=>(good,816)) 3728:=λw=>by kernel_rfl
def Pm:cu.wellSaid=true:=by kernel_rfl
def yg:DefRec:=⟨ah "law",(theDef "law").1,(theDef "law").2.1,(theDef "law").2.2,⟨357,0,409,16⟩⟩
def TK:defOf wF (cu.row.name)=aa (yg,[]):=by kernel_rfl
def TL:cu.row.prog.theDef cu.row.name=aa (yg.params,yg.body,yg.scope):=by kernel_rfl
def XU:(chainsOk wF&&opensWell cu.row.prog&&(frees cu.row.toRowW&&cu.row.toRowW.within.isEmpty))=true:=by kernel_rfl
def El:cu.row.toRowW.promised:=⟨[.list []],by decide+kernel,by decide+kernel⟩
def Pn:cu.row.prog.bare:=⟨rfl,rfl,rfl,rfl,rfl,by decide+kernel⟩
structure dZ (s s':bb):Prop where
 os:s'.os=s.os
 gens:∀(i:Nat) (x:VI),s.gens[i]? =aa x->s'.gens[i]? =aa x
 bare:mq s.gens->mq s'.gens
def dZ.refl (s:bb):dZ s s:=⟨rfl,λq q h=>h,λh=>h⟩
def dZ.trans (h:dZ a b) (k:dZ b c):dZ a c:=⟨k.os.trans h.os,λi x e=>k.gens i x (h.gens i x e),λx=>k.bare (h.bare x)⟩
def dZ.heap (s:bb) (h:iQ) (t:C6):dZ s {s with heap:=h,toks:=t}:=⟨rfl,λq q h=>h,λh=>h⟩
def dZ.gF (s:bb) (h:iQ):dZ s {s with heap:=h}:=⟨rfl,λq q h=>h,λh=>h⟩
def dZ.toks (s:bb) (t:C6):dZ s {s with toks:=t}:=⟨rfl,λq q h=>h,λh=>h⟩
section
variable {S:cz} {c:aM} {O:List AO} {h h':iQ}
def Rel.lt (R:Rel S c O h) (e:c.F a=aa o):a<h.objs.size:=bW (R.frozen a o e)
def Rel.Mw (R:Rel S c O h) (hi:i<O.length):c.Z i<h.objs.size:=by obtain(⟨o,e,_⟩):=R.own i O[i] (aq hi);exact bW e
def Rel.Gj (R:Rel S c O h) (hq:q∈cm):q.2<h.objs.size:=by obtain(⟨_,_,ps,e,_⟩):=R.tabs q hq;exact bW e
def Rel.ae8 (R:Rel S c O h) (e:c.F a=aa o) (hi:i<O.length):a≠c.Z i:=by rintro rfl;rw[R.apart i hi]at e;exact nomatch e
def Rel.ext (R:Rel S c O h) (k:∀b o,h.get? b=aa o->h'.get? b=aa o):Rel S c O h' where
 frozen:=λa o e=>k _ _ (R.frozen a o e)
 base:=R.base
 own:=λi ao e=>xe12 (R.own i ao e) λo a b=>⟨o,k _ _ a,b⟩
 apart:=R.apart
 inj:=R.inj
 pins:=λa o e=>⟨k _ _ (R.pins a o e).1,(R.pins a o e).2⟩
 tabs:=λq hq=>let ⟨a,b,ps,d,e⟩:=R.tabs q hq;⟨a,b,ps,k _ _ d,e⟩
def aM.put (c:aM) (a:Addr) (o:Obj):aM:= {c with F:=λx=>if x=a then aa o else c.F x}
def aM.dC (ha:c.F a=ac):aM.le n c (c.put a o):=by refine⟨λx y e=> ?_,λq q=>rfl,rfl⟩;show(if x=a then aa o else c.F x)=aa y;rw[if_neg (by rintro rfl;rw[ha]at e;exact nomatch e)];exact e
def Rel.oq (R:Rel S c O h) (ha:h.objs.size<=a):c.F a=ac:=by
 cases e:c.F a with
 |none=>rfl
 |some o=>exact absurd (R.lt e) (fD.mpr ha)
def yZ.mono {cd:Value} (h:yZ F cd) (hF:∀a o,F a=aa o->F' a=aa o):yZ F' cd:=
 xe53 h λx o vs q t a b d=>⟨x,o,vs,q,t,a,hF _ _ b,d⟩
def Rel.put (R:Rel S c O h) {a:Addr} {o:Obj} (k:∀b o,h.get? b=aa o->h'.get? b=aa o) (ha:h.objs.size<=a) (ho:h'.get? a=aa o):Rel S (c.put a o) O h' where
 frozen:=λx y e=>by
  have e':(if x=a then aa o else c.F x)=aa y:=e;by_cases hx:x=a
  ·subst hx;rw[if_pos rfl]at e';obtain rfl:=ag e';exact ho
  ·rw[if_neg hx]at e';exact k _ _ (R.frozen x y e')
 base:=λx y e hq=>by show(if x=a then aa o else c.F x)=aa y;rw[if_neg (by rintro rfl;exact absurd (R.lt (R.base _ _ e hq)) (fD.mpr ha))];exact R.base x y e hq
 own:=λi ao e=>xe12 (R.own i ao e) λo' x b=>⟨o',k _ _ x,b.mono (aM.dC (R.oq ha)) (ab _)⟩
 apart:=λi hi=>by show(if c.Z i=a then aa o else c.F (c.Z i))=ac;rw[if_neg (by rintro e;exact absurd (R.Mw hi) (fD.mpr (e▸ha)))];exact R.apart i hi
 inj:=R.inj
 pins:=λx y e=>by obtain(⟨p1,p2,p3,p4⟩):=R.pins x y e;refine⟨k _ _ p1,?_,p3,p4⟩;show(if x=a then aa o else c.F x)=ac;rw[if_neg (by rintro rfl;exact absurd (bW p1) (fD.mpr ha))];exact p2
 tabs:=λq hq=>by obtain(⟨x,b,ps,d,e,f⟩):=R.tabs q hq;refine⟨?_,b,ps,k _ _ d,e,λpos cd h=>(f pos cd h).mono (aM.dC (n:=0) (R.oq ha)).F⟩;show(if q.2=a then aa o else c.F q.2)=ac;rw[if_neg (by rintro e;exact absurd (R.Gj hq) (fD.mpr (e▸ha)))];exact x
def aM.own (c:aM) (n:Nat) (a:Addr):aM:= {c with Z:=λi=>if i=n then a else c.Z i}
def aM.lZ (c:aM) (n:Nat) (a:Addr):(c.own n a).Z n=a:=if_pos rfl
def aM.ja:aM.le n c (c.own n a):=⟨λq q e=>e,λi hi=>if_neg (cU hi),rfl⟩
def Rel.AK (R:Rel S c O h) {a:Addr} {o:Obj} {ao:AO} (k:∀b o,h.get? b=aa o->h'.get? b=aa o) (ha:h.objs.size<=a) (ho:h'.get? a=aa o)
  (hr:ic S.w (c.own O.length a) (O.length+1) o ao):Rel S (c.own O.length a) (O++[ao]) h' where
 frozen:=λx y e=>k _ _ (R.frozen x y e)
 base:=R.base
 own:=λi x e=>by
  rw[aj];rcases eH i O.length with(hi|hi|hi)
  ·rw[aW hi]at e;obtain(⟨o',p,q⟩):=R.own i x e;refine⟨o',?_,q.mono aM.ja (mr _)⟩;exact(aM.ja.Z i hi).symm▸(k _ _ p)
  ·subst hi;rw[aE (ab _),dc]at e;obtain rfl:=ag e;exact⟨o,by rw[aM.lZ];exact ho,hr⟩
  ·rw[aE (ce hi)]at e;have:(i- O.length)≠0:=by exact om0 hi
   obtain(⟨j,hj⟩):=oQ this;rw[hj]at e;simp at e
 apart:=λi hi=>by
  rw[aj]at hi;show c.F (if i=O.length then a else c.Z i)=ac;by_cases e:i=O.length
  ·rw[if_pos e];exact R.oq ha
  ·rw[if_neg e];exact R.apart i (by simp at hi;exact IL hi e)
 inj:=λi j hi hj e=>by
  rw[aj]at hi hj;simp only[be]at hi hj;have e':(if i=O.length then a else c.Z i)=(if j=O.length then a else c.Z j):=e;by_cases p:i=O.length<;>by_cases q:j=O.length
  ·exact om2 p q
  ·rw[if_pos p,if_neg q]at e';exact absurd (R.Mw (i:=j) (by exact IL hj q)) (fD.mpr (e'▸ha))
  ·rw[if_neg p,if_pos q]at e';exact absurd (R.Mw (i:=i) (by exact IL hi p)) (fD.mpr (e'▸ha))
  ·rw[if_neg p,if_neg q]at e';exact R.inj i j (by exact IL hi p) (by exact IL hj q) e'
 pins:=λx y e=>by
  obtain(⟨p1,p2,p3,p4⟩):=R.pins x y e;refine⟨k _ _ p1,p2,λi hi=> ?_,p4⟩;rw[aj]at hi;simp only[be]at hi;show(if i=O.length then a else c.Z i)≠x;by_cases p:i=O.length
  ·rw[if_pos p];rintro rfl;exact absurd (bW p1) (fD.mpr ha)
  ·rw[if_neg p];exact p3 i (by exact IL hi p)
 tabs:=λq hq=>by
  obtain(⟨x,b,ps,d,e,f⟩):=R.tabs q hq;refine⟨x,λi hi=> ?_,ps,k _ _ d,e,f⟩;rw[aj]at hi;simp only[be]at hi;show(if i=O.length then a else c.Z i)≠q.2;by_cases p:i=O.length
  ·rw[if_pos p];rintro rfl;exact absurd (R.Gj hq) (fD.mpr ha)
  ·rw[if_neg p];exact b i (by exact IL hi p)
def Rel.set (R:Rel S c O h) {i:Nat} {o:Obj} {ao:AO} (hi:i<O.length) (hs:∀b o,b≠c.Z i->h.get? b=aa o->h'.get? b=aa o) (ho:h'.get? (c.Z i)=aa o)
  (hr:ic S.w c O.length o ao):Rel S c (O.set i ao) h' where
 frozen:=λx y e=>hs _ _ (R.ae8 e hi) (R.frozen x y e)
 base:=R.base
 own:=λj x e=>by
  rw[bi];rw[List.getElem?_set]at e;by_cases p:i=j
  ·subst p;rw[if_pos rfl,if_pos hi]at e;obtain rfl:=ag e;exact⟨o,ho,hr⟩
  ·rw[if_neg p]at e;obtain(⟨o',p',q⟩):=R.own j x e;have hj:j<O.length:=by
    rcases bS j O.length with(h|h)
    ·exact h
    ·rw[bB h]at e;exact nomatch e
   exact⟨o',hs _ _ (λe=>p (R.inj _ _ hi hj e.symm)) p',q⟩
 apart:=λj hj=>R.apart j (by simpa using hj)
 inj:=λj k hj hk e=>R.inj j k (by simpa using hj) (by simpa using hk) e
 pins:=λx y e=>by obtain(⟨p1,p2,p3,p4⟩):=R.pins x y e;exact⟨hs _ _ (λe=>p3 i hi e.symm) p1,p2,λj hj=>p3 j (by simpa using hj),p4⟩
 tabs:=λq hq=>by obtain(⟨x,b,ps,d,e,f⟩):=R.tabs q hq;exact⟨x,λj hj=>b j (by simpa using hj),ps,hs _ _ (λe=>b i hi e.symm) d,e,f⟩
def cT.back (h:cT w c n v d) (h':cT w c' n' v' d):cT w c' n v' d:=by
 induction h' with
 |pv h'=>exact .pv h'
 |fM=>exact .fM (XT.rec (λq h=>h) h.sh)
 |tm a=>obtain(⟨_,_,_,hl⟩):=h.sh;exact .tm a hl
 |inst a b d e=>obtain(⟨_,_,_,_,_,_,_,f⟩):=h.sh;exact .inst a b d e f
def ic.back (h:ic w c n o ao) (h':ic w c' n' o' ao):ic w c' n o' ao:=by
 induction h' with
 |pX=>exact .pX _
 |list a b=>exact .list a b
 |dict a b d e=>exact .dict a b d e
 |ns a b nd d e=>obtain(⟨_,_,_,_,_,d',_⟩):=h.sh;refine .ns a b nd (λx y hx=> ?_) e;obtain(⟨v,h1,h2⟩):=d x y hx;obtain(⟨v',h1',OA⟩):=d' x y hx;exact⟨v,h1,OA.back h2⟩
 |cell a b d e=>obtain(⟨_,_,_,d',_⟩):=h.sh;refine .cell a b (λx hx=> ?_) e;obtain(⟨v,h1,h2⟩):=d x hx;obtain(⟨v',h1',OA⟩):=d' x hx;exact⟨v,h1,OA.back h2⟩
 |attrs a b u nd d e=>obtain(⟨_,_,_,_,_,_,d',_⟩):=h.sh;refine .attrs a b u nd (λx y hx=> ?_) e;obtain(⟨v,h1,h2⟩):=d x y hx;obtain(⟨v',h1',OA⟩):=d' x y hx;exact⟨v,h1,OA.back h2⟩
noncomputable def AO.flat:AO->Bool
 | .list _| .dict _| .pX=>true
 |_=>false
def ic.flat (h:ic w c n o ao) (hf:ao.flat=true):ic w c n' o ao:=by
 induction h with
 |pX o=>exact .pX o
 |list a b=>exact .list a b
 |dict a b d e=>exact .dict a b d e
 |ns=>cases hf
 |cell=>cases hf
 |attrs=>cases hf
def Rel.drop {c':aM} {bv τ:List AO} (R:Rel S c O h) (R':Rel S c' (bv++τ) h') (hl:bv.length=O.length) (HY:∀(i:Nat) (x:AO),bv[i]? =aa x->O[i]? =aa x\/x.flat=true):Rel S c' bv h' where
 frozen:=R'.frozen
 base:=R'.base
 own:=λi x e=>by
  have hi:i<bv.length:=by
   rcases bS i bv.length with(h|h)
   ·exact h
   ·rw[bB h]at e;exact nomatch e
  obtain(⟨o,p,q⟩):=R'.own i x (by rw[aW hi];exact e);refine⟨o,p,?_⟩;rcases HY i x e with(he|he)
  ·obtain(⟨o',p',q'⟩):=R.own i x he;exact(hl)▸(q'.back q)
  ·exact q.flat he
 apart:=λi hi=>R'.apart i (by rw[aj];solve_by_elim (maxDepth:=4) [ce,a8,bI,aA,gJ,jm,bh,cI])
 inj:=λi j hi hj e=>R'.inj i j (by rw[aj];solve_by_elim (maxDepth:=4) [ce,a8,bI,aA,gJ,jm,bh,cI]) (by rw[aj];solve_by_elim (maxDepth:=4) [ce,a8,bI,aA,gJ,jm,bh,cI]) e
 pins:=λx y e=>xe04 (R'.pins x y e) λp1 p2 p3 p4=>⟨p1,p2,λi hi=>p3 i (by rw[aj];solve_by_elim (maxDepth:=4) [ce,a8,bI,aA,gJ,jm,bh,cI]),p4⟩
 tabs:=λq hq=>xe03 (R'.tabs q hq) λa b d=>⟨a,λi hi=>b i (by rw[aj];solve_by_elim (maxDepth:=4) [ce,a8,bI,aA,gJ,jm,bh,cI]),d⟩
end
def aM.pinned (c:aM) (ps:List (Addr×Obj)):aM:= {c with pin:=λa=>(ps.lookup a).or (c.pin a)}
def aM.gN (c c₀:aM):aM:= {c with pin:=c₀.pin}
section
variable {S:cz} {c:aM} {O:List AO} {h h':iQ}
def Gk {α β:Type} [BEq α] [LawfulBEq α] {l:List (α×β)} {x:α} {i:β} (h:l.lookup x=aa i):(x,i)∈l:=by
 induction l with
 |nil=>exact nomatch h
 |cons p l ih=>
  rw[di]at h;cases e:x==p.1 with
  |true=>rw[e]at h;obtain rfl:=ag h;rw[OR e];exact ay
  |false=>rw[e]at h;exact aK _ (ih h)
structure qz (c:aM) (n:Nat) (a:Addr):Prop where
 F:c.F a=ac
 Z:∀i,i<n->c.Z i≠a
 pin:c.pin a=ac
 tab:∀q∈cm,q.2≠a
def Rel.free (R:Rel S c O h) {a:Addr} (ha:h.objs.size<=a):qz c O.length a where
 F:=R.oq ha
 Z:=λi hi e=>absurd (R.Mw hi) (fD.mpr (e▸ha))
 pin:=by
  cases e:c.pin a with
  |none=>rfl
  |some o=>exact absurd (bW (R.pins a o e).1) (fD.mpr ha)
 tab:=λq hq e=>absurd (R.Gj hq) (fD.mpr (e▸ha))
def Rel.pinned (R:Rel S c O h) {ps:List (Addr×Obj)} (hf:∀p∈ps,qz c O.length p.1) (hp:∀p∈ps,h.get? p.1=aa p.2):Rel S (c.pinned ps) O h where
 frozen:=R.frozen
 base:=R.base
 own:=λi ao e=>xe12 (R.own i ao e) λo a b=>⟨o,a,b.j5 (λq q e=>e) (λq q=>rfl) (ab _)⟩
 apart:=R.apart
 inj:=R.inj
 pins:=λa o e=>by
  have e':(ps.lookup a).or (c.pin a)=aa o:=e;cases hl:ps.lookup a with
  |none=>rw[hl]at e';exact R.pins a o e'
  |some o'=>rw[hl]at e';clear e;obtain rfl:=ag e';have hm:=Gk hl;exact⟨hp _ hm,(hf _ hm).F,(hf _ hm).Z,(hf _ hm).tab⟩
 tabs:=R.tabs
def Rel.gN {c₀:aM} (R:Rel S c O h) (hp:∀a o,c₀.pin a=aa o->c.pin a=aa o):Rel S (c.gN c₀) O h where
 frozen:=R.frozen
 base:=R.base
 own:=λi ao e=>xe12 (R.own i ao e) λo a b=>⟨o,a,b.j5 (λq q e=>e) (λq q=>rfl) (ab _)⟩
 apart:=R.apart
 inj:=R.inj
 pins:=λa o e=>R.pins a o (hp a o e)
 tabs:=R.tabs
def cT.gN (h:cT w c n v d):cT w (c.gN c₀) n v d:=h.j5 (λq q e=>e) (λq q=>rfl) (ab _)
def cT.pinned (h:cT w c n v d):cT w (c.pinned ps) n v d:=h.j5 (λq q e=>e) (λq q=>rfl) (ab _)
end
structure iv where
 scope:Scope
 fi:Nat
 cells:List (Str×Nat):=[]
 code:Option Addr:=ac
def iv.eq {c c':Sn} (h:c=c'):iv.mk s f c d=iv.mk s f c' d:=congrArg (iv.mk s f · d) h
structure cY (c:aM) (n:Nat) (ae:iv) (env:lW):Prop where
 scope:env.scope=ae.scope
 kind:ae.scope.kind= .function
 locals:env.locals=c.Z ae.fi
 fi:ae.fi<n
 globals:env.globals=mainGlobals
 builtins:env.builtins=builtinsNs
 cells:env.cells=ae.cells.map λp=>(p.1,c.Z p.2)
 jp:∀p∈ae.cells,p.2<n
 code:∀a,ae.code=aa a->env.code= .ref a
 frame:∃f,env.frame=aa f
def cY.mono {c c':aM} {n n':Nat} {ae:iv} {env:lW} (h:cY c n ae env) (hc:aM.le n c c') (hn:n<=n'):cY c' n' ae env where
 scope:=h.scope
 kind:=h.kind
 locals:=h.locals.trans (hc.Z _ h.fi).symm
 fi:=a8 h.fi hn
 globals:=h.globals
 builtins:=h.builtins
 cells:=h.cells.trans (cj λp hp=>by rw[hc.Z _ (h.jp p hp)])
 jp:=λp hp=>a8 (h.jp p hp) hn
 code:=h.code
 frame:=h.frame
def cY.pinned (h:cY c n ae env):cY (c.pinned ps) n ae env:=⟨h.scope,h.kind,h.locals,h.fi,h.globals,h.builtins,h.cells,h.jp,h.code,h.frame⟩
structure jD (k:Nat) (A:cR):Prop where
 hn:A.handled=ac
 depth:A.depth+10*k<=990
 units:A.units+100*k<=9800
 frames:∃l,A.frames=aa l
 guards:∃g,A.guards=aa g
def jD.le (h:jD k A) (hk:k'<=k):jD k' A:=⟨h.hn,by have:=h.depth;exact om3 this hk,by have:=h.units;exact om4 this hk,h.frames,h.guards⟩
def jD.room (h:jD k A):A.depth<recursionLimit:=bI (aA (bh _ _) h.depth) (by decide)
def dep {a c k n w:Nat} (h:a+c*(k+1)<=n) (hw:w<=c):a+w+c*k<=n:=
 aA (by rw[iM,ua w];exact dX (dX hw _) _) h
def jD.deeper {k:Nat} {A:cR} {env:lW} (h:jD (k+1) A):jD k (A.deeper env) where
 hn:=h.hn
 depth:=dep h.depth (by decide:1<=10)
 units:=dep h.units (by decide:3<=100)
 frames:=xe11 (h.frames) λl e=>⟨env::l,by show A.frames.map _=_;rw[e];rfl⟩
 guards:=h.guards
inductive dg (w:jB) (c:aM) (n:Nat):List Value->List AV->Prop
 |nil:dg w c n [] []
 |cons {v:Value} {d:AV} {vs:Vs} {ds:List AV}:cT w c n v d->dg w c n vs ds->dg w c n (v::vs) (d::ds)
def dg.mono (h:dg w c n vs ds) (hc:aM.le n c c') (hn:n<=n'):dg w c' n' vs ds:=by
 induction h with
 |nil=>exact .nil
 |cons a _ ih=>exact .cons (a.mono hc hn) ih
def Tr (S:cz) (O:List AO) (A:cR) (c:aM) (s:bb) (t:zV Value) (d:AV) (bv:List AO):Prop:=
 ∀(E:VS) (Q:VS),
  (∀c' v s',aM.le O.length c c'->Rel S c' bv s'.heap->dZ s s'->cT S.w c' bv.length v d->Q v s')->wpAny (MM S.w) A t Q E s
structure Ev (S:cz) (k:Nat) (O:List AO) (ae:iv) (e:Expr) (d:AV) (bv:List AO):Prop where
 len:O.length<=bv.length
 run:∀A c s env,jD k A->cY c O.length ae env->Rel S c O s.heap->Tr S O A c s (eval e env) d bv
abbrev nH (S:cz) (k:Nat) (O:List AO) (ae:iv) (e:Expr) (d:PV):Prop:=Ev S k O ae e (.pv d) O
inductive nU where
 |next|brk|cont
 |ret (d:AV)
inductive sE (w:jB) (c:aM) (n:Nat):Cj->nU->Prop
 |next:sE w c n .next .next
 |brk:sE w c n .brk .brk
 |cont:sE w c n .cont .cont
 |ret {v:Value} {d:AV}:cT w c n v d->sE w c n (.ret v) (.ret d)
def TrF (S:cz) (O:List AO) (A:cR) (c:aM) (s:bb) (t:zV Cj) (f:nU) (bv:List AO):Prop:=
 ∀(E:VS) (Q:Cj->bb->Prop),
  (∀c' v s',aM.le O.length c c'->Rel S c' bv s'.heap->dZ s s'->sE S.w c' bv.length v f->Q v s')->wpAny (MM S.w) A t Q E s
structure iW (S:cz) (k:Nat) (O:List AO) (ae:iv) (st:Stmt) (f:nU) (bv:List AO):Prop where
 len:O.length<=bv.length
 run:∀A c s env,jD k A->cY c O.length ae env->Rel S c O s.heap->TrF S O A c s (exec st env) f bv
structure cG (S:cz) (k:Nat) (O:List AO) (ae:iv) (Vl:List Stmt) (f:nU) (bv:List AO):Prop where
 len:O.length<=bv.length
 run:∀A c s env,jD k A->cY c O.length ae env->Rel S c O s.heap->TrF S O A c s (execs Vl env) f bv
structure dy (S:cz) (k:Nat) (O:List AO) (f:AV) (args:List AV) (kw:List (Str×AV)) (d:AV) (bv:List AO):Prop where
 len:O.length<=bv.length
 run:∀A c s fv vs kvs,jD k A->Rel S c O s.heap->cT S.w c O.length fv f->dg S.w c O.length vs args->kvs.map (·.1)=kw.map (·.1)->dg S.w c O.length (kvs.map (·.2)) (kw.map (·.2))->
  Tr S O A c s (call fv vs kvs) d bv
def ou (S:cz) (k:Nat) (O:List AO) (ae:iv) (e:Expr) (b:Bool):Prop:=
 ∀A c s env,jD k A->cY c O.length ae env->Rel S c O s.heap->
  ∀(E:VS) (Q:Bool->bb->Prop),(∀c' s',aM.le O.length c c'->Rel S c' O s'.heap->dZ s s'->Q b s')->wpAny (MM S.w) A (isTrue e env (eval e env)) Q E s
variable {S:cz} {k:Nat} {O:List AO} {ae:iv}
inductive OA1 (w:jB) (c:aM) (n:Nat) (d:AV) (ds:List AV) (vs:Vs):Prop
 |mk (v:Value) (r:Vs) (e:vs=v::r) (a:cT w c n v d) (b:dg w c n r ds)
inductive ae9 (w:jB) (c:aM) (n:Nat) (d:AV) (f:Cj):Prop
 |mk (v:Value) (e:f= .ret v) (h:cT w c n v d)
def FSh (w:jB) (c:aM) (n:Nat) (f:Cj):nU->Prop
 | .next=>f= .next
 | .brk=>f= .brk
 | .cont=>f= .cont
 | .ret d=>ae9 w c n d f
def sE.sh (h:sE w c n f d):FSh w c n f d:=by
 induction h with
 |ret h=>exact⟨_,rfl,h⟩
 |_=>exact rfl
def LSh (w:jB) (c:aM) (n:Nat) (vs:Vs):List AV->Prop
 | []=>vs=[]
 |d::ds=>OA1 w c n d ds vs
def dg.sh (h:dg w c n vs ds):LSh w c n vs ds:=by
 induction h with
 |nil=>exact rfl
 |cons a b=>exact⟨_,_,rfl,a,b⟩
def cT.gh (h:cT w c n v (.pv d)):dk w c.F v d:=h.sh
def cT.dn (h:cT w c n v (.pv (.con u))):v=u:=h.gh.sh
def cT.XW (h:cT w c n v (.tm ps b sc cells)):∃a,v= .ref a/\Mu c.F a ps b sc (cells.map λp=>(p.1,c.Z p.2))/\∀p∈cells,p.2<n:=h.sh
def dg.i1 (h:dg w c n vs (d::ds)):OA1 w c n d ds vs:=h.sh
def dg.i0 (h:dg w c n vs []):vs=[]:=h.sh
def dk.kH (h:dk w F v (.int i)):∃t,v= .int i t:=h.sh
def dk.Em (h:dk w F v (.fF i)):∃t,v= .float i t:=h.sh
def dk.mD (h:dk w F v (.str i)):∃t,v= .str i t:=h.sh
def dk.IQ (h:dk w F v (.con u)):v=u:=h.sh
def cT.zI (h:cT w c n v (.fM i)):XT c n i v:=h.sh
def dk.En (h:dk w F v (.tup l)):TJ w F "tuple" l v:=h.sh
def dk.yh (h:dk w F v (.lst l)):TJ w F "list" l v:=h.sh
def sE.wL (h:sE w c n f .next):f= .next:=h.sh
def sE.Mx (h:sE w c n f (.ret d)):ae9 w c n d f:=h.sh
def ic.y6 (h:ic w c n o (.list l)):WC w c.F l o:=h.sh
def ic.Po (h:ic w c n o (.dict l)):KR w c.F l o:=h.sh
def dk.XX (h:dk w F v (.oK l)):∃a o,v= .ref a/\(a==sysModules)=false/\F a=aa o/\KR w F l o:=h.sh
def cT.afa (h:cT w c n v (.inst i)):∃a o,v= .ref a/\c.F a=aa o/\o.cls= .ref 182/\(∀k,o.data≠ .cls k)/\o.dict=aa (c.Z i)/\i<n:=h.sh
def ic.XY (h:ic w c n o (.attrs m)):∃es ep,o.data= .dict es ep/\C7 es/\VF es/\(m.map (·.1)).Nodup/\(∀(x:Str) (d:AV),(x,d)∈m->∃v,nsFind es x=aa v/\cT w c n v d)/\∀x:Str,x∉m.map (·.1)->nsFind es x=ac:=h.sh
def ic.iNs (h:ic w c n o (.ns m)):∃es ep,o.data= .dict es ep/\C7 es/\(m.map (·.1)).Nodup/\(∀(x:Str) (d:AV),(x,aa d)∈m->∃v,nsFind es x=aa v/\cT w c n v d)/\∀x:Str,(x,ac)∈m->nsFind es x=ac:=h.sh
def ic.WE (h:ic w c n o (.cell d)):∃v,o.data= .cell v/\o.slots= #[]/\(∀x,d=aa x->∃u,v=aa u/\cT w c n u x)/\(d=ac->v=ac):=h.sh
def afb {l:List α} (i:Nat) (h:l[i]? =aa a):a∈l:=bo h
def Eo {l:List (Str×α)}:l.lookup x=aa v->(x,v)∈l:=by
 induction l with
 |nil=>intro h;exact nomatch h
 |cons q9 l ih=>
  intro h;obtain(⟨y,u⟩):=q9;rw[di]at h;cases e:x==y with
  |true=>rw[e]at h;obtain rfl:=ag h;obtain rfl:=beq_iff_eq.mp e;exact ay
  |false=>rw[e]at h;exact aK _ (ih h)
noncomputable abbrev PV.bool (b:Bool):PV:= .con (.bool b)
noncomputable abbrev PV.none:PV:= .con .none
def cY.kindOf (h:cY c n ae env) (x:Str):env.kindOf x=ae.scope.names.lookup x:=by unfold Env.kindOf;rw[h.scope]
def Rel.ns (R:Rel S c O h) (hi:O[i]? =aa (.ns m)):
  ∃f:Str->Option Value,h.Ns (c.Z i) f/\(m.map (·.1)).Nodup/\(∀x d,(x,aa d)∈m->∃v,f x=aa v/\cT S.w c O.length v d)/\(∀x,(x,ac)∈m->f x=ac):=by
 obtain(⟨o,ho,hr⟩):=R.own i _ hi;obtain⟨_,_,a,b,nd,d,e⟩:=hr.iNs;exact⟨_,⟨o,_,_,ho,a,b,λq=>rfl⟩,nd,d,e⟩
def Ep (c:aM) (l:Sn) (x:Str):(l.map λp=>(p.1,c.Z p.2)).lookup x=(l.lookup x).map c.Z:=by
 induction l with
 |nil=>rfl
 |cons p l ih=>rw[bx,di,di];cases x==p.1<;>simp[ih]
def XZ {l:List (Str×α)}:∀ {x:Str} {i:α},l.lookup x=aa i->(x,i)∈l:=by
 induction l with
 |nil=>intro _ _ h;exact nomatch h
 |cons p l ih=>
  intro x i h;rw[di]at h;cases e:x==p.1 with
  |true=>rw[e]at h;obtain rfl:=ag h;rw[OR e];exact ay
  |false=>rw[e]at h;exact aK _ (ih h)
def Rel.cell (R:Rel S c O h) (hi:O[i]? =aa (.cell d)):
  ∃v,h.IsCell (c.Z i) v/\(∀x,d=aa x->∃u,v=aa u/\cT S.w c O.length u x):=by
 obtain(⟨o,ho,hr⟩):=R.own i _ hi;obtain⟨_,a,_,d,_⟩:=hr.WE;exact⟨_,⟨o,ho,a⟩,d⟩
def Ev.rF (hm:O[ae.fi]? =aa (.ns m)) (hk:ae.scope.names.lookup x=aa .local) (hd:(x,aa d)∈m)
  (hx:(x==("__debug__" :Str))=false:=by decide):Ev S k O ae (.Name x pos) d O:=by
 refine⟨ab _,?_⟩;intro A c s env hA hE R E Q hQ;obtain(⟨f,hf,_,h1,_⟩):=R.ns hm;obtain(⟨v,hv,hd⟩):=h1 x d hd;refine Cg (qb ((hE.scope)▸(hE.kind)) (by rw[hE.kindOf,hk]) ((hE.locals)▸(hf)) hv ?_) hx;exact hQ c v s (.refl ..) R (.refl _) hd
def Ev.My (hk:ae.scope.names.lookup x=aa .cell) (hi:ae.cells.lookup x=aa i) (hd:O[i]? =aa (.cell (aa d)))
  (hx:(x==("__debug__" :Str))=false:=by decide):Ev S k O ae (.Name x pos) d O:=by
 refine⟨ab _,?_⟩;intro A c s env hA hE R E Q hQ;obtain(⟨v,hc,h1⟩):=R.cell hd;obtain(⟨u,rfl,hu⟩):=h1 d rfl;refine Cg (wpAny_loadName_cell ((hE.scope)▸(hE.kind)) (by rw[hE.kindOf,hk]) (by rw[hE.cells,Ep,hi];rfl) hc ?_) hx;exact hQ c u s (.refl ..) R (.refl _) hu
def Ev.qN (hk:ae.scope.names.lookup x=aa .free) (hi:ae.cells.lookup x=aa i) (hd:O[i]? =aa (.cell (aa d)))
  (hx:(x==("__debug__" :Str))=false:=by decide) (sI:(x==("__classdict__" :Str))=false:=by decide):Ev S k O ae (.Name x pos) d O:=by
 refine⟨ab _,?_⟩;intro A c s env hA hE R E Q hQ;obtain(⟨v,hc,h1⟩):=R.cell hd;obtain(⟨u,rfl,hu⟩):=h1 d rfl;refine Cg (wpAny_loadName_free ((hE.scope)▸(hE.kind)) (by rw[hE.kindOf,hk]) (by rw[hE.cells,Ep,hi];rfl) hc ?_ sI) hx;exact hQ c u s (.refl ..) R (.refl _) hu
def Rel.old (R:Rel S c O h) (e:S.h₀.get? a=aa o) (ha:∀q∈cm,a≠q.2):h.get? a=aa o:=R.frozen _ _ (R.base a o e ha)
def Rel.u6 (R:Rel S c O h) (e:S.h₀.Ns a m) (ha:∀q∈cm,a≠q.2):h.Ns a m:=
 xe32 (e) λo es ep ho r=>⟨o,es,ep,R.old ho ha,r⟩
def Rel.lim (R:Rel S c O h):h.NoLimit:=xe12 (S.lim) λmc a b=>⟨mc,R.u6 a (by decide),b⟩
def Ev.glob (hE:cY c O.length ae env) (R:Rel S c O s.heap)
  (hk:ae.scope.names.lookup x=aa .globalImplicit) (hg:(x,aa v)∈cg) (hx:(x==("__debug__" :Str))=false) (h:Q v s):wpAny (MM S.w) A (eval (.Name x pos) env) Q E s:=by
 obtain(⟨mg,F6,hm⟩):=S.glob;refine qf ((hE.scope)▸(hE.kind)) (by rw[hE.kindOf,hk]) ?_ hx;exact Calls.loadGlobal_global ((hE.globals)▸(R.u6 F6 (by decide))) (hm _ hg) h
def Ev.blt (hE:cY c O.length ae env) (R:Rel S c O s.heap)
  (hk:ae.scope.names.lookup x=aa .globalImplicit) (hg:(x,ac)∈cg) (hb:(x,aa v)∈lu) (hx:(x==("__debug__" :Str))=false) (h:Q v s):wpAny (MM S.w) A (eval (.Name x pos) env) Q E s:=by
 obtain(⟨mg,F6,hm⟩):=S.glob;obtain(⟨mb,hmb,hn⟩):=S.blt;refine qf ((hE.scope)▸(hE.kind)) (by rw[hE.kindOf,hk]) ?_ hx;exact FU (by rw[hE.globals];exact R.u6 F6 (by decide)) (hm _ hg) (by rw[hE.builtins];exact R.u6 hmb (by decide)) (hn _ hb) h
def Ev.ue (hk:ae.scope.names.lookup x=aa .globalImplicit) (hg:(x,aa v)∈cg) (hx:(x==("__debug__" :Str))=false:=by decide):
  nH S k O ae (.Name x pos) (.con v):=⟨ab _,λq c q q q hE R q q hQ=>Ev.glob hE R hk hg hx (hQ c v _ (.refl ..) R (.refl _) (.pv (.con v)))⟩
def Ev.IR (hk:ae.scope.names.lookup x=aa .globalImplicit) (hg:(x,aa (.float u t))∈cg) (hx:(x==("__debug__" :Str))=false:=by decide):
  nH S k O ae (.Name x pos) (.fF u):=⟨ab _,λq c q q q hE R q q hQ=>Ev.glob hE R hk hg hx (hQ c _ _ (.refl ..) R (.refl _) (.pv (.fF u t)))⟩
def Ev.Gl (hk:ae.scope.names.lookup x=aa .globalImplicit) (hg:(x,ac)∈cg) (hb:(x,aa v)∈lu) (hx:(x==("__debug__" :Str))=false:=by decide):
  nH S k O ae (.Name x pos) (.con v):=⟨ab _,λq c q q q hE R q q hQ=>Ev.blt hE R hk hg hb hx (hQ c v _ (.refl ..) R (.refl _) (.pv (.con v)))⟩
def Ev.int:nH S k O ae (.Constant (.int i) n pos) (.int i):=
 ⟨ab _,λq c s q q q R q q hQ=>wpAny_Constant_int (hQ c _ _ (.refl ..) R (.toks ..) (.pv (.int ..)))⟩
def Ev.str:nH S k O ae (.Constant (.str x) n pos) (.str x):=
 ⟨ab _,λq c s q q q R q q hQ=>kh (hQ c _ _ (.refl ..) R (.toks ..) (.pv (.str ..)))⟩
def Ev.fF:nH S k O ae (.Constant (.float u) n pos) (.fF u):=
 ⟨ab _,λq c s q q q R q q hQ=>PySem.wpAny_Constant_float (hQ c _ _ (.refl ..) R (.toks ..) (.pv (.fF ..)))⟩
def Ev.none:nH S k O ae (.Constant .none n pos) PV.none:=
 ⟨ab _,λq c s q q q R q q hQ=>wpAny_Constant_none (hQ c _ _ (.refl ..) R (.refl ..) (.pv (.con ..)))⟩
def Ev.bool:nH S k O ae (.Constant (.bool b) n pos) (PV.bool b):=
 ⟨ab _,λq c s q q q R q q hQ=>zT (hQ c _ _ (.refl ..) R (.refl ..) (.pv (.con ..)))⟩
def Mz (t:Value->Value->zV Value) (a b d:PV):Prop:=
 ∀(S:cz) (k:Nat) (O:List AO) (A:cR) (c:aM) (s:bb) (u v:Value),jD k A->Rel S c O s.heap->dk S.w c.F u a->dk S.w c.F v b->Tr S O A c s (t u v) (.pv d) O
def Ev.WF (h1:nH S k O ae l a) (h2:nH S k O ae r b) (ho:Mz (binaryOp op) a b d):nH S k O ae (.BinOp l op r pos) d:=
 ⟨ab _,λA c s env hA hE R E Q hQ=>Ga (h1.run A c s env hA hE R _ _ λc1 v1 s1 l1 R1 K1 a1=>h2.run A c1 s1 env hA (hE.mono l1 (ab _)) R1 _ _ λc2 v2 s2 l2 R2 K2 a2=>
  ho S k O A c2 s2 v1 v2 hA R2 (a1.gh.mono l2.F) a2.gh _ _ λc3 v3 s3 l3 R3 K3 a3=>hQ c3 v3 s3 ((l1.trans l2 (ab _)).trans l3 (ab _)) R3 ((K1.trans K2).trans K3) a3)⟩
def WG (op:wk) (a b:PV) (r:Bool):Prop:=Mz (compareOp op) a b (PV.bool r)
def ou.compare (h1:nH S k O ae l a) (h2:nH S k O ae r b) (ho:WG op a b x) (hm:behindInMarks op r=false):
  ou S k O ae (.Compare l [op] [r] pos) x:=
 λA c s env hA hE R E Q hQ=>x7 (h1.run A c s env hA hE R _ _ λc1 v1 s1 l1 R1 K1 a1=>h2.run A c1 s1 env hA (hE.mono l1 (ab _)) R1 _ _ λc2 v2 s2 l2 R2 K2 a2=>
  ho S k O A c2 s2 v1 v2 hA R2 (a1.gh.mono l2.F) a2.gh _ _ λc3 v3 s3 l3 R3 K3 a3=>by
   have e:=a3.dn;subst e;exact gc (hQ c3 s3 ((l1.trans l2 (ab _)).trans l3 (ab _)) R3 ((K1.trans K2).trans K3))) hm
def ou.to (h:ou S k O ae e b) (hb:b=b'):ou S k O ae e b':=hb▸h
def Mz.am8 (a b:Int):Mz (binaryOp .Add) (.int a) (.int b) (.int (a+b)):=by intro S k O A c s u v hA R h1 h2 E Q hQ;obtain⟨_,rfl⟩:=h1.kH;obtain⟨_,rfl⟩:=h2.kH;exact P.add_int (hQ c _ _ (.refl ..) R (.toks ..) (.pv (.int ..)))
def Mz.afc (a b:Int) (hb:b≠0) (hp:Builtin.divisionGoesByPylong a b=false):Mz (binaryOp .FloorDiv) (.int a) (.int b) (.int (a.fdiv b)):=by intro S k O A c s u v hA R h1 h2 E Q hQ;obtain⟨_,rfl⟩:=h1.kH;obtain⟨_,rfl⟩:=h2.kH;exact yP hb (hQ c _ _ (.refl ..) R (.toks ..) (.pv (.int ..))) (.inl hp)
def WG.ltI (a b:Int):WG .Lt (.int a) (.int b) (decide (a<b)):=by intro S k O A c s u v hA R h1 h2 E Q hQ;obtain⟨_,rfl⟩:=h1.kH;obtain⟨_,rfl⟩:=h2.kH;exact P.lt_int (hQ c _ _ (.refl ..) R (.refl ..) (.pv (.con ..)))
def tt:true=true:=rfl
def so {a:α}:aa a=aa a:=rfl
def pp {b:α}:(λ_:lW=>(pure b:zV α))=λq=>pure b:=rfl
def scp {F:lW->α} (h:(λenv:lW=>F {env with scope:=sc})=λq=>r) (he:env.scope=sc):F env=r:=by subst he;exact congrFun h env
def aln {P:Prop} (h:∀G:Prop,(P->G)->G):P:=h P id
def wc : Nat → Lean.Syntax → Lean.Syntax
  | 0, t => t
  | n + 1, t => if t.isIdent then wn (wN "rcasesPat.one") [t] else if t.getKind == `Lean.Parser.Term.hole then wn (wN "rcasesPat.ignore") [wx]
    else wn (wN "rcasesPat.tuple") [wx, wl ((t[1].getSepArgs.toList.map fun y => wn (wN "rcasesPatLo") [wn (wN "rcasesPatMed") [wl [wc n y]], wl []]).intersperse wx), wx]
local macro_rules (kind := Lean.Parser.Tactic.tacticLet__)
  | s => if s[2][0].getKind != `Lean.Parser.Term.letPatDecl then Lean.Macro.throwUnsupported else pure (wo (wc 9 s[2][0][0]) s[2][0][4])
local macro_rules (kind := «term∅») | s => pure (wm "byTactic" [wx, ws [wp "decide" [wn (wN "optConfig") [wl []]]]])
local macro_rules (kind := Lean.Parser.Tactic.tacticErw___) | s => pure (wp "rwSeq" [wn (wN "optConfig") [wl [wn (wN "configItem") [wn (wN "posConfigItem") [.atom .none "+", wI "offsetCnstrs"]]]], s[2], s[3]])
local macro_rules (kind := coeNotation) | s => pure (wm "proj" [s[1], wx, wI "length"])
local macro_rules (kind := Lean.Parser.Tactic.left) | s => pure (wq [wr "Mine.aln" [wI "?"], wp "intro" [wl [wI "_", wI "kG"]]])
local macro_rules (kind := Lean.Parser.Tactic.right) | s => pure (wr "kG" [wI "?"])
def gq {P:Prop} (h:ac=aa x):P:=nomatch h
def dT [Decidable p] (h:(if p then aa x else ac)=aa y):p/\x=y:=by
 by_cases q:p
 ·rw[if_pos q]at h;exact⟨q,ag h⟩
 ·rw[if_neg q]at h;exact gq h
def KS [Decidable p] (h:(if p then ac else aa x)=aa y):¬p/\x=y:=by
 by_cases q:p
 ·rw[if_pos q]at h;exact gq h
 ·rw[if_neg q]at h;exact⟨q,ag h⟩
def y7 (h:ac=aa x):False:=nomatch h
def a9 (h:o.bind f=aa b) {G:Prop} (k:∀a,o=aa a->f a=aa b->G):G:=(aG.mp h).elim λa h=>k a h.1 h.2
inductive S3 {α β:Type}:List α->List β->Prop
 |nil:S3 [] []
 |cons (a:α) (b:β) {l:List α} {m:List β} (h:S3 l m):S3 (a::l) (b::m)
def S3.of {α β:Type} {l:List α}:∀ {m:List β},↑l= ↑m->S3 l m:=by
 induction l with
 |nil=>intro m h;induction m with
  |nil=>exact .nil
  |cons=>nomatch h
 |cons a l ih=>intro m h;induction m with
  |nil=>nomatch h
  |cons b m=>exact .cons a b (ih (lX h))
inductive iT (x:Str) (d:AV):List (Str×Option AV)->List (Str×Option AV)->Prop
 |here {o:Option AV} {r:List (Str×Option AV)}:iT x d ((x,o)::r) ((x,aa d)::r)
 |there {p:Str×Option AV} {r r':List (Str×Option AV)}:iT x d r r'->iT x d (p::r) (p::r')
def iT.keys (h:iT x d m m'):m'.map (·.1)=m.map (·.1):=by
 induction h with
 |here=>rfl
 |there _ ih=>rw[bx,bx,ih]
def iT.key (h:iT x d m m'):x∈m.map (·.1):=by
 induction h with
 |here=>exact ay
 |there _ ih=>exact aK _ ih
def iT.mem (h:iT x d m m') (hn:(m.map (·.1)).Nodup):∀y o,(y,o)∈m'->(y=x/\o=aa d)\/(y≠x/\(y,o)∈m):=by
 induction h with
 | @here o r=>
  intro y o' hy;rw[bx,fE]at hn;rcases aH.mp hy with(e|e)
  ·let ⟨rfl,rfl⟩:=bG e;exact .inl ⟨rfl,rfl⟩
  ·refine .inr ⟨?_,aK _ e⟩;rintro rfl;exact hn.1 (aQ.mpr ⟨_,e,rfl⟩)
 | @there p r r' h ih=>
  intro y o' hy;rw[bx,fE]at hn;rcases aH.mp hy with(e|e)
  ·refine .inr ⟨?_,e▸ay⟩;rintro rfl;exact hn.1 (e▸h.key)
  ·rcases ih hn.2 y o' e with(q|q)
   ·exact .inl q
   ·exact .inr ⟨q.1,aK _ q.2⟩
structure jY (S:cz) (O:List AO) (ae:iv) (x:Str) (d:AV) (bv:List AO):Prop where
 len: ↑O<= ↑bv
 run:∀A c s env v,cY c ↑O ae env->Rel S c O s.heap->cT S.w c ↑O v d->
  ∀(E:VS) (Q:Unit->bb->Prop),(∀c' s',aM.le ↑O c c'->Rel S c' bv s'.heap->dZ s s'->Q () s')->wpAny (MM S.w) A (storeName env x v) Q E s
def ic.Pp {h:iQ} (hf:h.Ns a f) (nd:(m.map (·.1)).Nodup)
  (h1:∀x d,(x,aa d)∈m->∃v,f x=aa v/\cT w c n v d)
  (h2:∀x,(x,ac)∈m->f x=ac):∃o,h.get? a=aa o/\ic w c n o (.ns m):=by
 left;let ⟨o,es,ep,ho,hd,hk,hm⟩:=hf;right;exact⟨o,ho,.ns hd hk nd (λx d hx=>xe12 (h1 x d hx) λv a b=>⟨v,(hm x).trans a,b⟩) λx hx=>(hm x).trans (h2 x hx)⟩
def jY.loc (hm:O[ae.fi]? =aa (.ns m)) (hk:ae.scope.names.lookup x=aa .local) (hs:iT x d m m') (HY:O.set ae.fi (.ns m')=bv):
  jY S O ae x d bv:=by
 subst HY;refine⟨by rw[bi];exact ab _,?_⟩;intro A c s env v hE R hv E Q hQ;let ⟨f,hf,nd,h1,h2⟩:=R.ns hm;refine x6 (by rw[hE.kindOf,hk]) (by rw[hE.locals];exact hf) (λh' vj qa=> ?_) (by rw[hE.scope,hE.kind];rfl);rw[hE.locals]at vj qa;let ⟨o,ho,hr⟩:=ic.Pp (w:=S.w) (c:=c) (n:= ↑O) (m:=m') vj (by rw[hs.keys];exact nd) (λy e hy=>by
  rcases hs.mem nd y _ hy with⟨rfl,h⟩|⟨h,hy⟩
  ·obtain rfl:=ag h;exact⟨v,if_pos rfl,hv⟩
  ·let ⟨u,p,q⟩:=h1 y e hy;exact⟨u,by rw[if_neg h];exact p,q⟩) (λy hy=>by
  rcases hs.mem nd y _ hy with⟨rfl,h⟩|⟨h,hy⟩
  ·nomatch h
  ·rw[if_neg h];exact h2 y hy)
 exact hQ c _ (.refl ..) (R.set hE.fi (λb o hb e=>qa.extBut b o hb e) ho hr) (.heap ..)
def jY.cell (hk:ae.scope.names.lookup x=aa .cell) (hi:ae.cells.lookup x=aa i) (hd:O[i]? =aa (.cell ank)) (HY:O.set i (.cell (aa d))=bv):
  jY S O ae x d bv:=by
 subst HY;refine⟨by rw[bi];exact ab _,?_⟩;intro A c s env v hE R hv E Q hQ;let ⟨o,ho,hr⟩:=R.own i _ hd;let ⟨anl,a,b,_,_⟩:=hr.WE;have kR:i< ↑O:=by
  rcases bS i ↑O with h|h
  ·exact h
  ·rw[bB h]at hd;nomatch hd
 refine am (M:=MM S.w) (A:=A) (E:=E) (s:=s) (m:=pure ()) (f:=λq=>storeName env x v) (Q:=Q) (aR ?_);unfold storeName;have hkk:env.kindOf x=aa .cell:=by rw[hE.kindOf,hk]
 simp only[(by rw[hkk];rfl:((env.kindOf x==aa NameKind.globalImplicit)&&env.blockKind !=ScopeKind.function)=false),fw,if_false,hkk];simp only[(by rw[(by rw[hE.scope];exact hE.kind:env.scope.kind= .function)];rfl:((env.scope.kind==ScopeKind.class)&&(aa kX==aa kX))=false),fw,if_false];refine am (wpAny_cellOf (c:=c.Z i) (by rw[hE.cells,Ep,hi];rfl) ?_);unfold cellSet;refine am (Ks ho ?_);rw[a];refine wpAny_update ho ?_;refine hQ c _ (.refl ..) (R.set kR (λb o hb e=>(mP ..).extBut b o hb e) (uJ _ ho rfl) ?_) (.gF ..);exact .cell rfl b (λy hy=>by obtain rfl:=ag hy;exact⟨v,rfl,hv⟩) (λh=>by nomatch h)
structure Di (S:cz) (k:Nat) (O:List AO) (ae:iv) (t:Expr) (d:AV) (bv:List AO):Prop where
 len: ↑O<= ↑bv
 run:∀A c s env v,jD k A->cY c ↑O ae env->Rel S c O s.heap->cT S.w c ↑O v d->
  ∀(E:VS) (Q:Unit->bb->Prop),(∀c' s',aM.le ↑O c c'->Rel S c' bv s'.heap->dZ s s'->Q () s')->wpAny (MM S.w) A (assign t env v) Q E s
def Di.name (h:jY S O ae x d bv):Di S k O ae (.Name x pos) d bv:=
 ⟨h.len,λA c s env v q hE R hv E Q hQ=>by
  show wpAny _ A (do standAt pos;bindName env x v) Q E s;exact am (cV (sb (h.run A c s env v hE R hv E Q hQ)))⟩
def cG.nil:cG S k O ae [] .next O:=⟨ab _,λA c s env q q R E Q hQ=>jy (hQ c .next s (.refl ..) R (.refl _) .next)⟩
def cG.cons (h1:iW S k O ae st .next bw) (h2:cG S k bw ae rest f bP):cG S k O ae (st::rest) f bP:=
 ⟨aA h1.len h2.len,λA c s env hA hE R E Q hQ=>da (h1.run A c s env hA hE R _ _ λc1 v1 s1 l1 R1 K1 f1=>by
  obtain rfl:=f1.wL;exact h2.run A c1 s1 env hA (hE.mono l1 h1.len) R1 _ _ λc2 v2 s2 l2 R2 K2 f2=>hQ c2 v2 s2 (l1.trans l2 h1.len) R2 (K1.trans K2) f2)⟩
def cG.ret (h1:iW S k O ae st (.ret d) bw):cG S k O ae (st::rest) (.ret d) bw:=
 ⟨h1.len,λA c s env hA hE R E Q hQ=>da (h1.run A c s env hA hE R _ _ λc1 v1 s1 l1 R1 K1 f1=>by
  let ⟨_,q,f2⟩:=f1.Mx;cases q;exact hQ c1 _ s1 l1 R1 K1 (.ret f2))⟩
def iW.assign (h1:Ev S k O ae gQ d bw) (h2:jY S bw ae x d bP)
  (hs:∀env,env.scope=ae.scope->swapsWith gQ (aa (.Name x jT)) pos.line env=pure false):iW S k O ae (.Assign [.Name x jT] gQ pos) .next bP:=
 ⟨aA h1.len h2.len,λA c s env hA hE R E Q hQ=>kW (h1.run A c s env hA hE R _ _ λc1 v1 s1 l1 R1 K1 a1=>
  h2.run A c1 s1 env v1 (hE.mono l1 h1.len) R1 a1 _ _ λc2 s2 l2 R2 K2=>hQ c2 .next s2 (l1.trans l2 h1.len) R2 (K1.trans K2) .next) (hs env hE.scope)⟩
def iW.if (h1:ou S k O ae test b) (h2:cG S k O ae (if b then body else orelse) f bw):
  iW S k O ae (.If test body orelse pos) f bw:=
 ⟨h2.len,λA c s env hA hE R E Q hQ=>wpAny_If (h1 A c s env hA hE R _ _ λc1 s1 l1 R1 K1=>by
  induction b with
  |true=>exact h2.run A c1 s1 env hA (hE.mono l1 (ab _)) R1 _ _ λc2 v2 s2 l2 R2 K2 f2=>hQ c2 v2 s2 (l1.trans l2 (ab _)) R2 (K1.trans K2) f2
  |false=>exact h2.run A c1 s1 env hA (hE.mono l1 (ab _)) R1 _ _ λc2 v2 s2 l2 R2 K2 f2=>hQ c2 v2 s2 (l1.trans l2 (ab _)) R2 (K1.trans K2) f2)⟩
def iW.return (h1:Ev S k O ae e d bw):iW S k O ae (.Return (aa e) pos) (.ret d) bw:=
 ⟨h1.len,λA c s env hA hE R E Q hQ=>wpAny_Return_some (h1.run A c s env hA hE R _ _ λc1 v1 s1 l1 R1 K1 a1=>hQ c1 _ s1 l1 R1 K1 (.ret a1))⟩
def iW.expr (h1:Ev S k O ae e d bw) (hs:swapsWith e ac pos.line=λq=>pure false):iW S k O ae (.Expr e pos) .next bw:=
 ⟨h1.len,λA c s env hA hE R E Q hQ=>yM (h1.run A c s env hA hE R _ _ λc1 v1 s1 l1 R1 K1 a1=>hQ c1 _ s1 l1 R1 K1 .next) (by
  unfold interactive;rw[hE.scope,hE.kind];rfl) (congrFun hs env)⟩
inductive S4 (S:cz) (k:Nat) (ae:iv) (test:Expr) (body:List Stmt):List AO->nU->List AO->Prop
 |done {O:List AO}:ou S k O ae test false->S4 S k ae test body O .next O
 |turn {O bw bP:List AO} {f:nU}:ou S k O ae test true->cG S k O ae body .next bw->S4 S k ae test body bw f bP->S4 S k ae test body O f bP
 |ret {O bw:List AO} {d:AV}:ou S k O ae test true->cG S k O ae body (.ret d) bw->S4 S k ae test body O (.ret d) bw
def S4.len (h:S4 S k ae test body O f bw): ↑O<= ↑bw:=by
 induction h with
 |done=>exact ab _
 |turn _ h _ ih=>exact aA h.len ih
 |ret _ h=>exact h.len
def S4.run (h:S4 S k ae test body O f bw):∀(A:cR) (c:aM) (s:bb) (env:lW),jD k A->cY c ↑O ae env->Rel S c O s.heap->
  ∀(E:VS) (Q:Cj->bb->Prop),(∀c' v s',aM.le ↑O c c'->Rel S c' bw s'.heap->dZ s s'->sE S.w c' ↑bw v f->Q v s')->
   codeAny (MM S.w) A (.whileLoop test body [] env) (λr s'=>match r with| .ok f=>Q f s'| .error e=>E e s') s:=by
 induction h with
 |done hb=>intro A c s env hA hE R E Q hQ;refine fb ?_;rw[cy (by rfl)];show wpAny _ A ((whileTurn _ _ _ env).onRaise (λx=>do noteFrame x env;theTreesLotGoes x)) _ _ s;refine jA ?_;simp only[whileTurn];refine am (hb A c s env hA hE R _ _ λc1 s1 l1 R1 K1=> ?_);simp only[fw,if_false];exact am (jy (aR (hQ c1 .next s1 l1 R1 K1 .next)))
 |turn hb h1 _ ih=>intro A c s env hA hE R E Q hQ;refine fb ?_;rw[cy (by rfl)];show wpAny _ A ((whileTurn _ _ _ env).onRaise (λx=>do noteFrame x env;theTreesLotGoes x)) _ _ s;refine jA ?_;simp only[whileTurn];refine am (hb A c s env hA hE R _ _ λc1 s1 l1 R1 K1=> ?_);simp only[if_true];refine am (h1.run A c1 s1 env hA (hE.mono l1 (ab _)) R1 _ _ λc2 v2 s2 l2 R2 K2 f2=> ?_);obtain rfl:=f2.wL;exact aR ⟨rfl,ih A c2 s2 env hA (hE.mono (l1.trans l2 (ab _)) h1.len) R2 E Q λc3 v3 s3 l3 R3 K3 f3=>hQ c3 v3 s3 ((l1.trans l2 (ab _)).trans l3 h1.len) R3 ((K1.trans K2).trans K3) f3⟩
 |ret hb h1=>
  intro A c s env hA hE R E Q hQ;refine fb ?_;rw[cy (by rfl)];show wpAny _ A ((whileTurn _ _ _ env).onRaise (λx=>do noteFrame x env;theTreesLotGoes x)) _ _ s;refine jA ?_;simp only[whileTurn];refine am (hb A c s env hA hE R _ _ λc1 s1 l1 R1 K1=> ?_);simp only[if_true];refine am (h1.run A c1 s1 env hA (hE.mono l1 (ab _)) R1 _ _ λc2 v2 s2 l2 R2 K2 f2=> ?_);cases f2 with
  |ret f2=>exact aR (hQ c2 _ s2 (l1.trans l2 (ab _)) R2 (K1.trans K2) (.ret f2))
def iW.KU (h:S4 S k ae test body O f bw):iW S k O ae (.While test body [] pos) f bw:=
 ⟨h.len,λA c s env hA hE R E Q hQ=>wpAny_While (by
  exact vX (h.run A c s env hA hE R (λq q=>False) Q hQ) (λr s' x=>by induction r with|ok f=>exact x|error e=>exact x.elim))⟩
def jE (S:cz) (O:List AO) (fd:FuncData) (args:List AV) (kw:List (Str×AV)) (binds:List (Str×AV)):Prop:=
 ∀(c:aM) (s:bb) (vs:Vs) (kvs:List (Str×Value)),Rel S c O s.heap->dg S.w c ↑O vs args->kvs.map (·.1)=kw.map (·.1)->dg S.w c ↑O (kvs.map (·.2)) (kw.map (·.2))->
  ∃vb:List (Str×Value),vb.map (·.1)=binds.map (·.1)/\dg S.w c ↑O (vb.map (·.2)) (binds.map (·.2))/\BindsTo s fd ⟨vs,kvs⟩ vb
def jE.plain {names:List Str} (cH: ↑names= ↑args)
  (h:∀vs:List Value,↑vs= ↑args->bindArgs fd ⟨vs,[]⟩=pure (names.zip vs)):jE S O fd args [] (names.zip args):=by
 intro c s vs kvs R ha hk _;have HZ:kvs=[]:=by induction kvs with|nil=>rfl|cons _ _=>cases hk
 subst HZ;have hl: ↑vs= ↑args:=by
  clear cH h hk;induction ha with
  |nil=>rfl
  |cons _ _ ih=>rw[az,az,ih]
 refine⟨names.zip vs,?_,?_,Ti (h vs hl)⟩
 ·rw[kY (by simp_all),kY (by simp_all)]
 ·rw[nF (by simp_all),nF (by simp_all)];exact ha
def dg.length (h:dg w c n vs ds): ↑vs= ↑ds:=by
 induction h with
 |nil=>rfl
 |cons _ _ ih=>rw[az,az,ih]
def AL (l:List (Str×Value)) (hn:(l.map (·.1)).Nodup) (x:Str) (v:Value) (h:(x,v)∈l):l.reverse.lookup x=aa v:=by
 induction l with
 |nil=>cases h
 |cons p l ih=>
  rw[bx,fE]at hn;rw[SX,OO];rcases aH.mp h with e|e
  ·clear h;subst e;have:l.reverse.lookup x=ac:=by rw[sv];intro q hq;rw[List.mem_reverse]at hq;exact bne_iff_ne.mpr λ(e:x=q.1)=>hn.1 (aQ.mpr ⟨q,hq,e.symm⟩)
   rw[this];simp
  ·rw[ih hn.2 e];rfl
def dg.pick {vb:List (Str×Value)} {binds:List (Str×AV)} (hk:vb.map (·.1)=binds.map (·.1)) (ha:dg w c n (vb.map (·.2)) (binds.map (·.2))) (x:Str) (d:AV) (h:(x,d)∈binds):∃v,(x,v)∈vb/\cT w c n v d:=by
 have hl: ↑vb= ↑binds:=by have:=congrArg eX hk;rwa [aw,aw]at this
 replace hl:=S3.of hl;induction hl with
 |nil=>nomatch h
 |cons p q _ ih=>
  let ⟨v,r,e,h1,h2⟩:=ha.i1;let ⟨rfl,rfl⟩:=jH e;let ⟨k1,k2⟩:=jH hk;rcases aH.mp h with e|e
  ·have k3:p.1=x:=by rw[<- e]at k1;exact k1
   exact⟨p.2,by rw[<- k3];exact ay,by rw[<- e]at h1;exact h1⟩
  ·let ⟨v,hv,hd⟩:=ih k2 h2 e;exact⟨v,aK _ hv,hd⟩
def eh.body (r:eh):List Stmt:=r.d.2.1
def eh.scope (r:eh):Scope:=r.d.2.2
def eh.env (r:eh) (n:Nat):iv:= {scope:=r.scope,fi:=n,cells:=[],code:=aa r.code}
def Rel.fn (R:Rel S c O h) (hr:r∈fV):∃o pm,h.get? r.addr=aa o/\o.cls= .type "function" /\o.data= .func (r.fd pm)/\h.CodeRec (.ref r.code) r.qual:=by
 left;let ⟨o,pm,h1,h2,h3,h4⟩:=S.fns r hr;right;refine⟨o,pm,R.old h1 ?_,h2,h3,?_⟩
 ·revert hr;unfold fV;intro hr q hq;have:∀r∈fV,∀q∈cm,r.addr≠q.2:=by decide
  exact this r hr q hq
 ·let ⟨c',o',vs,t,e,g,d,x⟩:=h4;cases e;refine⟨_,o',vs,t,rfl,R.old g ?_,d,x⟩;have:∀r∈fV,∀q∈cm,r.code≠q.2:=by decide
  exact this r hr
inductive Gm:List AO->Nat->AV->AV->Prop
 |pv {τ:List AO} {n:Nat} {d:PV}:Gm τ n (.pv d) (.pv d)
 |list {τ:List AO} {n j:Nat} {l:List PV}:τ[j]? =aa (.list l)->Gm τ n (.fM (n+j)) (.pv (.lst l))
 |dict {τ:List AO} {n j:Nat} {l:List (Str×PV)}:τ[j]? =aa (.dict l)->Gm τ n (.fM (n+j)) (.pv (.oK l))
def Rel.freeze {c:aM} {h:iQ} {a:Addr} {o:Obj} (R:Rel S c O h) (ha:qz c ↑O a) (ho:h.get? a=aa o):Rel S (c.put a o) O h where
 frozen:=λx y e=>by
  have e':(if x=a then aa o else c.F x)=aa y:=e;by_cases hx:x=a
  ·subst hx;rw[if_pos rfl]at e';obtain rfl:=ag e';exact ho
  ·rw[if_neg hx]at e';exact R.frozen x y e'
 base:=λx y e hq=>by show(if x=a then aa o else c.F x)=aa y;have:=R.base x y e hq;rw[if_neg (by rintro rfl;rw[ha.F]at this;nomatch this)];exact this
 own:=λi ao e=>xe12 (R.own i ao e) λo' x b=>⟨o',x,b.mono (aM.dC ha.F) (ab _)⟩
 apart:=λi hi=>by show(if c.Z i=a then aa o else c.F (c.Z i))=ac;rw[if_neg (ha.Z i hi)];exact R.apart i hi
 inj:=R.inj
 pins:=λx y e=>by let ⟨p1,p2,p3,p4⟩:=R.pins x y e;refine⟨p1,?_,p3,p4⟩;show(if x=a then aa o else c.F x)=ac;rw[if_neg (by rintro rfl;have e':c.pin x=aa y:=e;rw[ha.pin]at e';nomatch e')];exact p2
 tabs:=λq hq=>by left;let ⟨x,b,ps,d,e,f⟩:=R.tabs q hq;right;refine⟨?_,b,ps,d,e,λpos cd h=>(f pos cd h).mono (aM.dC (n:=0) ha.F).F⟩;show(if q.2=a then aa o else c.F q.2)=ac;rw[if_neg (ha.tab q hq)];exact x
def Rel.KV (R:Rel S c O h) (hi:i< ↑O):(c.Z i==sysModules)=false:=by let ⟨o,ho⟩:=S.mods;exact beq_eq_false_iff_ne.mpr λe=>by have:=R.apart i hi;rw[e,(R.base _ _ ho ∅)]at this;nomatch this
def Rel.KW {c:aM} {h:iQ} {τ:List AO} (R:Rel S c (O++τ) h) {i:Nat} (hi: ↑O<=i) (kR:i< ↑(O++τ)):qz c ↑O (c.Z i) where
 F:=R.apart i kR
 Z:=λj hj e=>by have:=R.inj j i (by rw[aj];exact om6 hj) kR e;exact aaV hj this hi
 pin:=by
  cases e:c.pin (c.Z i)with
  |none=>rfl
  |some o=>exact absurd rfl ((R.pins _ _ e).2.2.1 i kR)
 tab:=λq hq e=>(R.tabs q hq).2.1 i kR e.symm
def Rel.Pq (R2:Rel S c' bv h') (R':Rel S c' (bv++τ) h') (hi: ↑bv+j< ↑(bv++τ)) (hj:τ[j]? =aa ao):∃o RZ,(c'.F (c'.Z (↑bv+j))=ac/\RZ=c'.put (c'.Z (↑bv+j)) o)/\Rel S RZ bv h'/\RZ.F (c'.Z (↑bv+j))=aa o/\ic S.w c' ↑(bv++τ) o ao/\
  ∀a,qz c' ↑bv a->eM (c'.Z (↑bv+j))≠ .ref a->qz RZ ↑bv a:=by
 let ⟨o,ho,hr⟩:=R'.own (↑bv+j) ao (by rw[aE (bh ..),bO];exact hj);have hf:=R'.KW (bh _ j) hi;refine⟨o,_,⟨hf.F,rfl⟩,R2.freeze hf ho,if_pos rfl,hr,λa ha oO=>⟨?_,ha.Z,ha.pin,ha.tab⟩⟩;show(if a=_ then aa o else c'.F a)=ac;rw[if_neg λe=>oO (by rw[e])];exact ha.F
def Gm.run (R:Rel S c O h) (R':Rel S c' (bv++τ) h') (hl: ↑bv= ↑O) (HY:∀(i:Nat) (x:AO),bv[i]? =aa x->O[i]? =aa x\/x.flat=true)
  (hz:Gm τ ↑bv d d') (hv:cT S.w c' ↑(bv++τ) v d):∃RZ,aM.le ↑O c' RZ/\Rel S RZ bv h'/\cT S.w RZ ↑bv v d'/\∀a,qz c' ↑bv a->v≠ .ref a->qz RZ ↑bv a:=by
 have R2:=R.drop R' hl HY;induction hz with
 |pv=>exact⟨c',.refl ..,R2,.pv hv.gh,λq h q=>h⟩
 | @list j l hj=>let ⟨rfl,hi⟩:=hv.zI;let ⟨o,RZ,⟨hF,rfl⟩,R3,h1,hr,h2⟩:=R2.Pq R' hi hj;let ⟨_,_,rfl,a,b⟩:=hr.y6;exact⟨_,aM.dC hF,R3,.pv (.lst h1 a λi v d e1 e2=>(b i v d e1 e2).mono (aM.dC (n:=0) hF).F),h2⟩
 | @dict j l hj=>let ⟨rfl,hi⟩:=hv.zI;let ⟨o,RZ,⟨hF,rfl⟩,R3,h1,hr,h2⟩:=R2.Pq R' hi hj;let ⟨_,_,rfl,a,b,d,e⟩:=hr.Po;exact⟨_,aM.dC hF,R3,.pv (.oK (R'.KV hi) h1 a b d λi e' k x e1 e2=>(e i e' k x e1 e2).mono (aM.dC (n:=0) hF).F),h2⟩
noncomputable def TM:Cj->Value
 | .ret v=>v
 |_=> .none
def nU.val:nU->AV
 | .ret d=>d
 |_=> .pv PV.none
noncomputable def notStar (e:Expr):Bool:=e.ctorIdx !=22
def gz (h:notStar e=true):starEach (e::rest) env=(false,eval e env)::starEach rest env:=by cases e<;>first|rfl|cases h
inductive ck (S:cz) (k:Nat) (O:List AO) (ae:iv):List Expr->List AV->Prop
 |nil:ck S k O ae [] []
 |cons {e:Expr} {rest:List Expr} {d:AV} {ds:List AV}:Ev S k O ae e d O->ck S k O ae rest ds->notStar e=true->ck S k O ae (e::rest) (d::ds)
inductive o7 (S:cz) (k:Nat) (O:List AO) (ae:iv):List Keyword->List (Str×AV)->Prop
 |nil:o7 S k O ae [] []
 |cons {e:Expr} {p:Pos} {x:Str} {rest:List Keyword} {d:AV} {ds:List (Str×AV)}:Ev S k O ae e d O->o7 S k O ae rest ds->o7 S k O ae (⟨aa x,e,p⟩::rest) ((x,d)::ds)
def mE (h:ck S k O ae args ds):∀(pos:Pos) (A:cR) (c:aM) (s:bb) (env:lW),jD k A->cY c ↑O ae env->Rel S c O s.heap->
  ∀(E:VS) (Q:List Value->bb->Prop),(∀c' vs s',aM.le ↑O c c'->Rel S c' O s'.heap->dZ s s'->dg S.w c' ↑O vs ds->Q vs s')->wpAny (MM S.w) A (spliced (backTo pos (starEach args env))) Q E s:=by
 induction h with
 |nil=>intro pos A c s env _ _ R E Q hQ;exact eB (hQ c [] s (.refl ..) R (.refl _) .nil)
 |cons h1 _ hn ih=>intro pos A c s env hA hE R E Q hQ;rw[gz hn];show wpAny _ A (spliced ((false,eval _ env)::backTo pos (starEach _ env))) Q E s;refine bX (h1.run A c s env hA hE R _ _ λc1 v1 s1 l1 R1 K1 a1=> ?_);exact ih pos A c1 s1 env hA (hE.mono l1 (ab _)) R1 _ _ λc2 vs s2 l2 R2 K2 a2=>hQ c2 _ s2 (l1.trans l2 (ab _)) R2 (K1.trans K2) (.cons (a1.mono l2 (ab _)) a2)
def IS (h:o7 S k O ae zR ds):∀(pos:Pos) (A:cR) (c:aM) (s:bb) (env:lW),jD k A->cY c ↑O ae env->Rel S c O s.heap->
  ∀(E:VS) (Q:List Value->bb->Prop),(∀c' vs s',aM.le ↑O c c'->Rel S c' O s'.heap->dZ s s'->dg S.w c' ↑O vs (ds.map (·.2))->Q vs s')->
   wpAny (MM S.w) A (evalAll ((backToKw pos (keywordEach zR env)).map (·.2))) Q E s:=by
 induction h with
 |nil=>intro pos A c s env _ _ R E Q hQ;exact iG (hQ c [] s (.refl ..) R (.refl _) .nil)
 |cons h1 _ ih=>intro pos A c s env hA hE R E Q hQ;show wpAny _ A (evalAll ((do let v <- eval _ env;standAt pos;pure v)::(backToKw pos (keywordEach _ env)).map (·.2))) Q E s;refine wpAny_evalAll_cons (am (h1.run A c s env hA hE R _ _ λc1 v1 s1 l1 R1 K1 a1=>am (cV (aR ?_))));exact ih pos A c1 s1 env hA (hE.mono l1 (ab _)) R1 _ _ λc2 vs s2 l2 R2 K2 a2=>hQ c2 _ s2 (l1.trans l2 (ab _)) R2 (K1.trans K2) (.cons (a1.mono l2 (ab _)) a2)
def KX (h:o7 S k O ae zR ds) (pos:Pos) (env:lW):(backToKw pos (keywordEach zR env)).all (·.1.isSome)=true/\(backToKw pos (keywordEach zR env)).filterMap (·.1)=ds.map (·.1):=by
 induction h with
 |nil=>exact⟨rfl,rfl⟩
 |cons _ _ ih=>
  refine⟨?_,?_⟩
  ·exact dD.mpr ⟨rfl,ih.1⟩
  ·exact congrArg (List.cons _) ih.2
def nh (h:ck S k O ae args ds) (hk:o7 S k O ae zR OB) (f:Value) (pos:Pos) (A:cR) (c:aM) (s:bb) (env:lW)
  (hA:jD k A) (hE:cY c ↑O ae env) (R:Rel S c O s.heap) (E:VS) (Q:Args->bb->Prop)
  (hQ:∀c' vs kvs s',aM.le ↑O c c'->Rel S c' O s'.heap->dZ s s'->dg S.w c' ↑O vs ds->kvs.map (·.1)=OB.map (·.1)->dg S.w c' ↑O (kvs.map (·.2)) (OB.map (·.2))->Q ⟨vs,kvs⟩ s'):
  wpAny (MM S.w) A (evalArgs f true (backTo pos (starEach args env)) (backToKw pos (keywordEach zR env))) Q E s:=by
 let ⟨CZ,FE⟩:=KX hk pos env;have fin:∀c1 vs s1,aM.le ↑O c c1->Rel S c1 O s1.heap->dZ s s1->dg S.w c1 ↑O vs ds->
   wpAny (MM S.w) A (evalAll ((backToKw pos (keywordEach zR env)).map (·.2))) (λks rk=>Q ⟨vs,((backToKw pos (keywordEach zR env)).filterMap (·.1)).zip ks⟩ rk) E s1:=by
  intro c1 vs s1 l1 R1 K1 a1;refine IS hk pos A c1 s1 env hA (hE.mono l1 (ab _)) R1 _ _ λc2 ks s2 l2 R2 K2 a2=> ?_;have hl: ↑ks= ↑OB:=by rw[↑a2,aw]
  refine hQ c2 vs _ s2 (l1.trans l2 (ab _)) R2 (K1.trans K2) (a1.mono l2 (ab _)) ?_ ?_
  ·rw[FE,kY (by rw[aw];simp_all)]
  ·rw[FE,nF (by rw[aw];simp_all)];exact a2
 induction h with
 |nil=>exact evalArgs_kw_nil CZ (fin c [] s (.refl ..) R (.refl _) .nil)
 | @cons e rest d ds h1 h2 hn=>have Zq:=mE (.cons h1 h2 hn) pos A c s env hA hE R;rw[gz hn]at Zq⊢;exact lA CZ (Zq _ _ λc1 vs s1 l1 R1 K1 a1=>fin c1 vs s1 l1 R1 K1 a1)
def Ev.l8 (hr:r∈fV)
  (hf:nH S k O ae (.Name f np) (.con (.ref r.addr))) (ha:ck S k O ae args ds) (hk:o7 S k O ae zR OB) (hc:dy S k O (.pv (.con (.ref r.addr))) ds OB d bv):
  Ev S k O ae (.Call (.Name f np) args zR pos) d bv:=by
 refine⟨hc.len,?_⟩;intro A c s env hA hE R E Q hQ;refine cn (hf.run A c s env hA hE R _ _ λc1 v1 s1 l1 R1 K1 a1=> ?_);have e:=a1.dn;subst e;left;let ⟨o,pm,ho,_,hd,_⟩:=R1.fn hr;right;refine fJ (o:=o) (fd:=r.fd pm) ?_;refine nh ha hk _ pos A c1 s1 env hA (hE.mono l1 (ab _)) R1 _ _ λc2 vs kvs s2 l2 R2 K2 a2 k2 b2=> ?_;left;let ⟨o',pm',rZ,_,Av,_⟩:=R2.fn hr;right;refine⟨⟨?_,hd⟩,?_⟩
 ·rw[rZ];congr 1;have e1:=R1.frozen;let ⟨FF,aga,h0,_,_,_⟩:=S.fns r hr;have oO:∀q∈cm,r.addr≠q.2:=by
   have:∀r∈fV,∀q∈cm,r.addr≠q.2:=by decide
   exact this r hr
  rw[(R1.old h0 oO)]at ho;rw[(R2.old h0 oO)]at rZ;rw[<- ag ho,<- ag rZ]
 ·exact hc.run A c2 s2 _ vs kvs hA R2 (.pv (.con _)) a2 k2 b2 E Q λc3 v3 s3 l3 R3 K3 a3=>hQ c3 v3 s3 ((l1.trans l2 (ab _)).trans l3 (ab _)) R3 ((K1.trans K2).trans K3) a3
inductive IsL (O:List AO):AV->List PV->Prop
 |val {l:List PV}:IsL O (.pv (.lst l)) l
 |fM {i:Nat} {l:List PV}:O[i]? =aa (.list l)->IsL O (.fM i) l
def IsL.at (hl:IsL O d l) (R:Rel S c O h) (hv:cT S.w c ↑O v d):
  ∃a vs n,v= .ref a/\h.get? a=aa {cls:= .type "list",data:= .seq vs n}/\vs.size= ↑l/\∀(i:Nat) (u:Value) (x:PV),vs[i]? =aa u->l[i]? =aa x->dk S.w c.F u x:=by
 induction hl with
 |val=>let ⟨_,_,_,rfl,a,b,d⟩:=hv.gh.yh;exact⟨_,_,_,rfl,R.frozen _ _ a,b,d⟩
 |fM hi=>let ⟨rfl,_⟩:=hv.zI;let ⟨o,ho,hr⟩:=R.own _ _ hi;let ⟨_,_,rfl,a,b⟩:=hr.y6;exact⟨_,_,_,rfl,ho,a,b⟩
def IsL.isList {h:iQ} (e:h.get? a=aa {cls:= .type "list",data:= .seq vs n}):h.IsList a vs:=⟨_,e,rfl,_,rfl⟩
def uf {vs:Array α} {l:List β} (h:vs.size= ↑l) {i:Nat} (hx:l[i]? =aa x):∃u,vs[i]? =aa u:=by
 have:i< ↑l:=by
  rcases bS i ↑l with h|h
  ·exact h
  ·rw[bB h]at hx;nomatch hx
 exact⟨vs[i]'(by simp_all),by simp[h,this]⟩
structure y8 (S:cz) (k:Nat) (O:List AO) (id:String) (ds:List AV) (d:AV) (bv:List AO):Prop where
 len: ↑O<= ↑bv
 run:∀A c s vs,jD k A->Rel S c O s.heap->dg S.w c ↑O vs ds->Tr S O A c s (call (.builtin id) vs) d bv
def eg (h:ck S k O ae args ds) (f:Value) (pos:Pos) (A:cR) (c:aM) (s:bb) (env:lW)
  (hA:jD k A) (hE:cY c ↑O ae env) (R:Rel S c O s.heap) (E:VS) (Q:Args->bb->Prop)
  (hQ:∀c' vs s',aM.le ↑O c c'->Rel S c' O s'.heap->dZ s s'->dg S.w c' ↑O vs ds->Q ⟨vs,[]⟩ s'):
  wpAny (MM S.w) A (evalArgs f true (backTo pos (starEach args env)) []) Q E s:=
 nh h .nil f pos A c s env hA hE R E Q λc1 vs kvs s1 l1 R1 K1 a1 k1 q=>by
  have e:kvs=[]:=by induction kvs with|nil=>rfl|cons _ _=>cases k1
  subst e;exact hQ c1 vs s1 l1 R1 K1 a1
def noStar (h:ck S k O ae args ds) (pos:Pos) (env:lW):(backTo pos (starEach args env)).any (·.1)=false:=by
 induction h with
 |nil=>rfl
 |cons _ _ hn ih=>rw[gz hn];exact vu.mpr ⟨rfl,ih⟩
def Ev.wM {id:String}
  (hf:nH S k O ae (.Name f np) (.con (.builtin id))) (ha:ck S k O ae args ds) (hc:y8 S k O id ds d bv):Ev S k O ae (.Call (.Name f np) args [] pos) d bv:=by
 refine⟨hc.len,?_⟩;intro A c s env hA hE R E Q hQ;refine cn (hf.run A c s env hA hE R _ _ λc1 v1 s1 l1 R1 K1 a1=> ?_);have e:=a1.dn;subst e;refine cX (noStar ha pos env) ?_;refine eg ha _ pos A c1 s1 env hA (hE.mono l1 (ab _)) R1 _ _ λc2 vs s2 l2 R2 K2 a2=> ?_;exact hc.run A c2 s2 vs hA R2 a2 E Q λc3 v3 s3 l3 R3 K3 a3=>hQ c3 v3 s3 ((l1.trans l2 (ab _)).trans l3 (ab _)) R3 ((K1.trans K2).trans K3) a3
def y8.len_list (hl:IsL O d l) (Ka:(↑l:Int)<2 ^ 63):y8 S k O "len" [d] (.pv (.int ↑l)) O:=by refine⟨ab _,?_⟩;intro A c s vs hA R ha E Q hQ;let ⟨_,_,rfl,a,b⟩:=ha.i1;obtain rfl:=b.i0;let ⟨a,vs,n,rfl,ho,hs,_⟩:=hl.at R a;exact Calls.call_len_list (IsL.isList ho) (by rw[hs];exact Ka) (by rw[hs];exact hQ c _ _ (.refl ..) R (.toks ..) (.pv (.int ..)))
def Ev.item_list (h1:Ev S k O ae o d O) (hl:IsL O d l) (h2:nH S k O ae i (.int n)) (h0:0<=n) (Ka:n<2 ^ 63) (hx:l[n.toNat]? =aa x)
  (hs:∀a m u,subscripted i false (.ref a) (.int m u)=operate [.ref a,.int m u] (getItem (.ref a) (.int m u))):nH S k O ae (.Subscript o i pos) x:=by
 refine⟨ab _,?_⟩;intro A c s env hA hE R E Q hQ;refine pL (h1.run A c s env hA hE R _ _ λc1 v1 s1 l1 R1 K1 a1=>h2.run A c1 s1 env hA (hE.mono l1 (ab _)) R1 _ _ λc2 v2 s2 l2 R2 K2 a2=> ?_);left;let ⟨_,rfl⟩:=a2.gh.kH;let ⟨a,vs,m,rfl,ho,qa,hr⟩:=hl.at R2 (a1.mono l2 (ab _));let ⟨u,hu⟩:=uf qa hx;right;refine lR (T:= "list") ⟨_,ho,rfl⟩ C5.lookup (wpAny_getItem_list (IsL.isList ho) h0 Ka hu ?_) (hs _ _ _);exact hQ c2 u s2 (l1.trans l2 (ab _)) R2 (K1.trans K2) (.pv (hr _ _ _ hu hx))
def WG.ahx (a:Int):WG .Is (.int a) PV.none false:=by intro S k O A c s u v hA R h1 h2 E Q hQ;let ⟨_,rfl⟩:=h1.kH;obtain rfl:=h2.IQ;exact nQ rfl (hQ c _ _ (.refl ..) R (.refl ..) (.pv (.con ..)))
def WG.ahy:WG .Is PV.none PV.none true:=by intro S k O A c s u v hA R h1 h2 E Q hQ;obtain rfl:=h1.IQ;obtain rfl:=h2.IQ;exact nQ rfl (hQ c _ _ (.refl ..) R (.refl ..) (.pv (.con ..)))
def pP (sc:Scope) (l:List Str):Prop:=∀x∈l,sc.names.lookup x=aa .local
def ma (sc:Scope) (l:List Str):Prop:=∀x∈l,sc.names.lookup x=aa .globalImplicit
def pP.of (h:(l.all λx=>sc.names.lookup x==aa .local)=true):pP sc l:=λx hx=>beq_iff_eq.mp (fI.mp h x hx)
def ma.of (h:(l.all λx=>sc.names.lookup x==aa .globalImplicit)=true):ma sc l:=λx hx=>beq_iff_eq.mp (fI.mp h x hx)
def yi (h:l[j]? =aa x):(O++l)[↑O+j]? =aa x:=by rw[aE (bh ..),bO];exact h
def gA {i:Nat} (h:O[i]? =aa x):(O++l)[i]? =aa x:=by
 rw[aW]
 ·exact h
 ·rcases bS i ↑O with h'|h'
  ·exact h'
  ·rw[bB h']at h;nomatch h
inductive MA (x:AO):Nat->List AO->List AO->Prop
 |zero {a:AO} {r:List AO}:MA x 0 (a::r) (x::r)
 |succ {n:Nat} {a:AO} {r r':List AO}:MA x n r r'->MA x (n+1) (a::r) (a::r')
def MA.eq (h:MA x n l l'):l.set n x=l':=by
 induction h with
 |zero=>rfl
 |succ _ ih=>rw[OM,ih]
def KY (h:MA x j l l'):(O++l).set (↑O+j) x=O++l':=by rw[j4 _ _ (bh ..),bO,h.eq]
def Ev.loc (hk:pP sc l) (hs:ae.scope=sc) (hx:x∈l) (hm:O[ae.fi]? =aa (.ns m)) (hd:(x,aa d)∈m)
  (hdb:(x==("__debug__" :Str))=false):Ev S k O ae (.Name x pos) d O:=Ev.rF hm (hs▸hk x hx) hd hdb
def jY.AM (hk:pP sc l) (hs:ae.scope=sc) (hx:x∈l) (hm:O[ae.fi]? =aa (.ns m)) (h:iT x d m m') (HY:O.set ae.fi (.ns m')=bv):
  jY S O ae x d bv:=jY.loc hm (hs▸hk x hx) h HY
def Ev.am9 (hk:ma sc l) (hs:ae.scope=sc) (hx:x∈l) (hg:(x,ac)∈cg) (hb:(x,aa v)∈lu) (hdb:(x==("__debug__" :Str))=false):
  nH S k O ae (.Name x pos) (.con v):=Ev.Gl (hs▸hk x hx) hg hb hdb
def Ev.CG (hk:ma sc l) (hs:ae.scope=sc) (hx:x∈l) (hg:(x,aa v)∈cg) (hdb:(x==("__debug__" :Str))=false):
  nH S k O ae (.Name x pos) (.con v):=Ev.ue (hs▸hk x hx) hg hdb
noncomputable abbrev sA:Str:=ah "a"
noncomputable abbrev sX:Str:=ah "x"
noncomputable abbrev oR:Str:=ah "lo"
noncomputable abbrev oS:Str:=ah "hi"
noncomputable abbrev gp:Str:=ah "key"
noncomputable abbrev sQ:Str:=ah "mid"
noncomputable abbrev afe:Str:=ah "len"
def iW.ift (h1:ou S k O ae test true) (h2:cG S k O ae body f bw):iW S k O ae (.If test body orelse pos) f bw:=iW.if h1 h2
def iW.iff (h1:ou S k O ae test false) (h2:cG S k O ae orelse f bw):iW S k O ae (.If test body orelse pos) f bw:=iW.if h1 h2
def ww (s : String) : Lean.Syntax := wn `PyProof.Rows.tacticWalk_at_ [wx, Lean.Syntax.mkStrLit s]
def wt (s : String) : Lean.Syntax := wf ((s.splitOn "; ").map fun e => (e.splitOn " ").map fun x =>
  if x.length == 1 then ww x else if x.front == '@' then wp "apply" [wi (x.drop 1).toString] else wp "withReducible" [ws [wp "apply" [wi x]]])
local macro_rules (kind := PyProof.Rows.tacticWalk_at_)
  | s =>
  let t := match s[1].isStrLit?.getD "" with
    | "a" => "List.mem_cons_self; List.mem_cons_of_mem a"
    | "c" => "iT.here; iT.there c"
    | "e" => "@yi Q; @yi R; @gA A; A; R"
    | "d" => "@KY n; @MA.eq n"
    | "n" => "@MA.zero; @MA.succ n"
    | "b" => "Ev.item_list b q b @Int.natCast_nonneg @bq4 A A A A I; Ev.int; Ev.none; Ev.str; Ev.loc A R a e a K; Ev.am9 A R a G B K; Ev.WF b b r"
    | "r" => "Mz.mid; Mz.am8; Mz.subI; Mz.floordivI D @PyProof.noPylong_small O"
    | "m" => "WG.ltI; WG.ahx; WG.ahy"
    | "i" => "ou.compare b b m R"
    | "k" => "R; A; @decide_eq_true O"
    | "o" => "R; A; @decide_eq_false O"
    | "g" => "@iW.ift @ou.to i k"
    | "f" => "@iW.iff @ou.to i o"
    | "l" => "iW.assign b @jY.AM A R a e c d I"
    | "s" => "l; g h; f h"
    | "h" => "@cG.nil; @cG.cons s h; @cG.ret @iW.return b"
    | "q" => "IsL.val; A; @IsL.Cv A; @IsL.fM e"
    | "x" => "@jU.nil; @jU.cons @jY.AM A R a e c d x"
    | x => x
  match t with
  | "A" => pure (wp "assumption" [])
  | "R" => pure (wp "tacticRfl" [])
  | "Q" => pure (wp "withReducible" [ws [wp "tacticRfl" []]])
  | "K" => pure (wn `tacticKernel_rfl [wx])
  | "D" => pure (wp "decide" [wn (wN "optConfig") [wl []]])
  | "O" => pure (wp "omega" [wn (wN "optConfig") [wl []]])
  | "I" => pure (wq [wp "intros" [wl []], wp "tacticRfl" []])
  | "G" => pure (wq [wp "unfold" [wl [wi "Mine.cg"], wl []], ww "a"])
  | "B" => pure (wq [wp "unfold" [wl [wi "Mine.lu"], wl []], ww "a"])
  | _ => if t.length < 4 then Lean.Macro.throwUnsupported else pure (wt t)
def rB:eh:=fk
def sR:pP rB.scope [sA,sX,oR,oS,gp,sQ]:=pP.of tt
def Gn:ma rB.scope [afe]:=ma.of tt
abbrev CH (a x:AV) (lo hi:Int) (key:AV) (mid:Option AV):List (Str×Option AV):=
 [(sA,aa a),(sX,aa x),(oR,aa (.pv (.int lo))),(oS,aa (.pv (.int hi))),(gp,aa key),(sQ,mid)]
def IsL.Cv (h:IsL O d l):IsL (O++τ) d l:=by
 induction h with
 |val=>exact .val
 |fM h=>exact .fM (gA h)
def bq4 {n:Nat} (h:n<2 ^ 30) (h1:lo<hi) (h2:hi<=n):(((lo+hi)/2:Nat):Int)<2 ^ 63:=
 jn (cL.mpr (iK (IM h1 h2) h)) (by decide:((2 ^ 30:Nat):Int)<2 ^ 63)
noncomputable def o8 (p:Nat->Bool):Nat->Nat->Nat->Option AV->Nat×Nat×Option AV
 |0,lo,hi,m=>(lo,hi,m)
 |n+1,lo,hi,m=>if lo<hi then(if p ((lo+hi)/2) then o8 p n ((lo+hi)/2+1) hi (aa (.pv (.int ((lo+hi)/2:Nat)))) else o8 p n lo ((lo+hi)/2) (aa (.pv (.int ((lo+hi)/2:Nat))))) else(lo,hi,m)
def Es:o8 p (n+1) lo hi m=if lo<hi then(if p ((lo+hi)/2) then o8 p n ((lo+hi)/2+1) hi (aa (.pv (.int ((lo+hi)/2:Nat)))) else o8 p n lo ((lo+hi)/2) (aa (.pv (.int ((lo+hi)/2:Nat))))) else(lo,hi,m):=rfl
def aff (lo hi:Nat):((lo:Int)+(hi:Int)).fdiv 2=(((lo+hi)/2:Nat):Int):=by rw[F1 _ ∅];rfl
def Mz.mid (lo hi:Nat):Mz (binaryOp .FloorDiv) (.int ((lo:Int)+(hi:Int))) (.int 2) (.int ((lo+hi)/2:Nat)):=
 aff lo hi▸Mz.afc _ _ ∅ (FW (gn _ _))
def KZ {lo hi n:Nat} (h1:hi- lo<=n+1) (h:lo<hi):hi- ((lo+hi)/2+1)<=n:=by have hm:lo<=(lo+hi)/2:=(Mq Nat.two_pos).mpr (by rw[Nat.mul_two];exact dX (ce h) lo);refine kj.mpr (aA (kj.mp h1) ?_);rw[iM,ua 1];exact dX (Cn hm) n
def K0 {lo hi n:Nat} (h1:hi- lo<=n+1) (h:lo<hi):(lo+hi)/2- lo<=n:=by have hm:(lo+hi)/2<hi:=Ol (by rw[CB];exact Oq h hi);refine kj.mpr (mQ (aA hm ?_));have:=kj.mp h1;rwa [yU]at this
def wO (p : Nat → Bool)
    (ht : ∀ (lo hi : Nat) mid, ou S k (O ++ [AO.ns (CH a x lo hi key mid)]) ae test (decide ((lo : Int) < (hi : Int))))
    (hb : ∀ (lo hi : Nat) mid, lo < hi → hi ≤ N → cG S k (O ++ [AO.ns (CH a x lo hi key mid)]) ae body .next
      (if p ((lo + hi) / 2) then O ++ [AO.ns (CH a x (((lo + hi) / 2 : Nat) + 1 : Int) hi key (aa (.pv (.int ((lo + hi) / 2 : Nat)))))] else O ++ [AO.ns (CH a x lo ((lo + hi) / 2 : Nat) key (aa (.pv (.int ((lo + hi) / 2 : Nat)))))])) :
    ∀ (n lo hi : Nat) mid, hi - lo ≤ n → hi ≤ N → S4 S k ae test body (O ++ [AO.ns (CH a x lo hi key mid)]) .next (O ++ [AO.ns (CH a x (o8 p n lo hi mid).1 (o8 p n lo hi mid).2.1 key (o8 p n lo hi mid).2.2)]) := by
  intro n; induction n with
  | zero => intro lo hi mid h1 h2; have : decide ((lo : Int) < (hi : Int)) = false := decide_eq_false (om8 h1); exact .done (this ▸ ht lo hi mid)
  | succ n ih =>
    intro lo hi mid h1 h2; rw [Es]; by_cases h : lo < hi
    · rw [if_pos h]; have hd : decide ((lo : Int) < (hi : Int)) = true := decide_eq_true (om9 h); have uP := hb lo hi mid h h2; cases hp : p ((lo + hi) / 2) with
      | true => rw [hp, if_pos rfl] at uP; rw [if_pos rfl]; exact .turn (hd ▸ ht lo hi mid) uP (ih ((lo + hi) / 2 + 1) hi (aa (.pv (.int ((lo + hi) / 2 : Nat)))) (KZ h1 h) h2)
      | false => rw [hp, if_neg bF] at uP; rw [if_neg bF]; exact .turn (hd ▸ ht lo hi mid) uP (ih lo ((lo + hi) / 2) (aa (.pv (.int ((lo + hi) / 2 : Nat)))) (K0 h1 h) (aaM h h2))
    · rw [if_neg h]; exact .done ((decide_eq_false (ail h)) ▸ ht lo hi mid)
def La:Option Nat->PV
 |some h=> .int h
 |ac=>PV.none
def MB {ns:List Int} {lo:Nat} (hl:IsL O d (ns.map PV.int)) (hn: ↑ns<2 ^ 30) (D6:lo<= ↑ns) (H0:∀h,hi=aa h->h<= ↑ns):
  ∃τ,cG S k (O++[.ns [(sA,aa d),(sX,aa (.pv (.int x))),(oR,aa (.pv (.int lo))),(oS,aa (.pv (La hi))),(gp,aa (.pv PV.none)),(sQ,ac)]])
   (rB.env (↑O+0)) rB.body (.ret (.pv (.int (o8 (λm=>decide (ns.getD m 0<x)) ↑ns lo (hi.getD ↑ns) ac).1))) (O++τ):=by
 have h1:=sR;have h2:=Gn;apply fX;apply cG.cons
 ·walk_at "f";exact cG.nil
 apply cG.cons (bw:=O++[.ns (CH d (.pv (.int x)) lo (hi.getD ↑ns:Nat) (.pv PV.none) ac)])
 ·induction hi with
  |none=>
   dsimp only[La];walk_at "g";apply cG.cons
   ·apply iW.assign
    ·apply Ev.wM
     ·walk_at "b"
     ·apply ck.cons
      ·walk_at "b"
      ·exact .nil
      ·rfl
     ·apply y8.len_list (l:=ns.map PV.int)
      ·cases hl with
       |val=>exact .val
       |fM h=>exact .fM (gA h)
      ·rw[aw];exact aaN hn
    ·apply jY.AM h1
     ·rfl
     ·walk_at "a"
     ·walk_at "e"
     ·walk_at "c"
     ·walk_at "d"
    ·intro _ _;rfl
   ·rw[aw];exact cG.nil
  |some h=>dsimp only[La];walk_at "f";exact cG.nil
 have cH:∀i,i< ↑ns->(ns.map PV.int)[i]? =aa (.int (ns.getD i 0)):=by intro i hi;simp[hi]
 apply cG.cons
 ·walk_at "g";apply cG.cons
  ·apply iW.KU;apply wO (p:=λm=>decide (ns.getD m 0<x)) (N:= ↑ns) (n:= ↑ns)
   ·intro lo hi mid;walk_at "i"
   ·intro lo hi mid h3 h4;have hm:=cH ((lo+hi)/2) (IM h3 h4);apply cG.cons
    ·walk_at "l"
    cases hc:decide (ns.getD ((lo+hi)/2) 0<x)with
    |true=>
     rw[if_pos rfl];apply cG.cons
     ·walk_at "g";walk_at "h"
     ·exact cG.nil
    |false=>
     rw[if_neg bF];apply cG.cons
     ·walk_at "f";walk_at "h"
     ·exact cG.nil
   ·induction hi with
    |none=>simp
    |some h=>have:=H0 h rfl;simp;exact Mt this
   ·induction hi with
    |none=>simp
    |some h=>have:=H0 h rfl;simpa using this
  ·exact cG.nil
 walk_at "h"
noncomputable def sj {α β:Type} (f:α->β->Option Bool):List α->List β->Option Bool
 | [],_=>aa true
 |_::_,[]=>aa true
 |a::l,b::m=>(f a b).bind λx=>(sj f l m).map (x&& ·)
noncomputable def PV.Et:Nat->PV->PV->Option Bool
 |0,_,_=>ac
 |n+1,.int a,.int b=>aa (a==b)
 |n+1,.str a,.str b=>aa (a==b)
 |n+1,.tup l,.tup m=>(sj (PV.Et n) l m).map λr=>r&& ↑l== ↑m
 |n+1,.lst l,.lst m=>if ↑l= ↑m then sj (PV.Et n) l m else aa false
 |_,_,_=>ac
noncomputable def at2 {α β:Type} (f:α->β->Option Bool) (l:List α) (m:List β) (j:Nat):Bool:=
 match l[j]?,m[j]? with
 |some a,aa b=>(f a b).getD true
 |_,_=>true
def AN {l:List α}:∀ {m:List β} {r:Bool},sj f l m=aa r->
  (∀j (h1:j< ↑l) (h2:j< ↑m),∃x,f l[j] m[j]=aa x)/\r=(cJ (min ↑l ↑m)).all (at2 f l m):=by
 induction l with
 |nil=>intro m r h;obtain rfl:=ag h;exact⟨λj h1=>absurd h1 (iy _),by rw[lU,Nat.zero_min];rfl⟩
 |cons a l ih=>
  intro m r h;cases m with
  |nil=>obtain rfl:=ag h;exact⟨λj z h2=>absurd h2 (iy _),rfl⟩
  |cons b m=>
   refine a9 h λx h1 h=> ?_;let ⟨y,h2,rfl⟩:=ar.mp h;let ⟨p,q⟩:=ih h2;refine⟨λj j1 j2=> ?_,?_⟩
   ·induction j with
    |zero=>exact⟨x,h1⟩
    |succ j=>exact p j (tZ j1) (tZ j2)
   ·rw[az,az,Nat.add_min_add_right,List.range_succ_eq_map,List.all_cons,List.all_map,q,show at2 f (a::l) (b::m) 0=x by show(f a b).getD true=x;rw[h1];rfl];rfl
def Pr (h1:j< ↑l) (h2:j< ↑m):at2 f l m j=(f l[j] m[j]).getD true:=by unfold at2;rw[aq h1,aq h2]
def dk.VT {vs:Array Value} {l:List PV} (h:vs.size= ↑l) (hr:∀(i:Nat) (v:Value) (d:PV),vs[i]? =aa v->l[i]? =aa d->dk w F v d) (h1:j<vs.size) (h2:j< ↑l):dk w F vs[j] l[j]:=
 hr j _ _ (by simp[h1]) (by simp[h2])
inductive MC (n:Nat):PV->PV->Bool->Prop
 |int (a b:Int):MC n (.int a) (.int b) (a==b)
 |str (a b:Str):MC n (.str a) (.str b) (a==b)
 |tup {l m:List PV} {r:Bool} (h:sj (PV.Et n) l m=aa r):MC n (.tup l) (.tup m) (r&& ↑l== ↑m)
 |lst {l m:List PV} {r:Bool} (hl: ↑l= ↑m) (h:sj (PV.Et n) l m=aa r):MC n (.lst l) (.lst m) r
 |ne {l m:List PV} (hl:¬ ↑l= ↑m):MC n (.lst l) (.lst m) false
def Lb (h:PV.Et (n+1) d d'=aa e):MC n d d' e:=by
 cases d with
 |int a=>cases d' with
  |int b=>obtain rfl:=ag h;exact .int ..
  |_=>exact gq h
 |str a=>cases d' with
  |str b=>obtain rfl:=ag h;exact .str ..
  |_=>exact gq h
 |tup l=>cases d' with
  |tup m=>let ⟨r,hr,rfl⟩:=ar.mp h;exact .tup hr
  |_=>exact gq h
 |lst l=>cases d' with
  |lst m=>
   by_cases hl: ↑l= ↑m
   ·exact .lst hl ((if_pos hl).symm.trans h)
   ·obtain rfl:=ag ((if_neg hl).symm.trans h);exact .ne hl
  |_=>exact gq h
 |_=>exact gq h
def Pt:∀(n:Nat) (d d':PV) (v:Value) (e:Bool),PV.Et n d d'=aa e->dk w F v d->dk w F v d'->e=true:=by
 intro n;induction n with
 |zero=>exact λd d' v e h=>gq h
 |succ n ih=>
  intro d d' v e h h1 h2;have loop:∀(vs:Array Value) (l m:List PV),vs.size= ↑l->vs.size= ↑m->(∀(i:Nat) (v:Value) (d:PV),vs[i]? =aa v->l[i]? =aa d->dk w F v d)->
    (∀(i:Nat) (v:Value) (d:PV),vs[i]? =aa v->m[i]? =aa d->dk w F v d)->∀r,sj (PV.Et n) l m=aa r->r=true:=by
   intro vs l m e1 e2 k1 k2 r hr;let ⟨p,q⟩:=AN hr;rw[q,fI];intro j hj;rw[dM]at hj;have j1:j< ↑l:=a8 hj (j3 ..);have j2:j< ↑m:=a8 hj (Cq ..);rw[Pr j1 j2];let ⟨x,hx⟩:=p j j1 j2;rw[hx];exact ih _ _ _ _ hx (dk.VT e1 k1 (e1▸j1) j1) (dk.VT e2 k2 (e2▸j2) j2)
  cases Lb h with
  |int=>let ⟨_,rfl⟩:=h1.kH;let ⟨_,h⟩:=h2.kH;injection h with h;exact beq_iff_eq.mpr h
  |str=>let ⟨_,rfl⟩:=h1.mD;let ⟨_,h⟩:=h2.mD;injection h with h;exact beq_iff_eq.mpr h
  |tup hr=>let ⟨x,vs,c,rfl,a,b,k⟩:=h1.En;let ⟨y,us,c',e,a',b',k'⟩:=h2.En;injection e with e;subst e;rw[a]at a';injection ag a' with _ _ a';injection a' with a';subst a';rw[loop _ _ _ b b' k k' _ hr];simp[<- b,<- b']
  |lst _ hr=>let ⟨x,vs,c,rfl,a,b,k⟩:=h1.yh;let ⟨y,us,c',e,a',b',k'⟩:=h2.yh;injection e with e;subst e;rw[a]at a';injection ag a' with _ _ a';injection a' with a';subst a';exact loop _ _ _ b b' k k' _ hr
  |ne hl=>let ⟨x,vs,c,rfl,a,b,k⟩:=h1.yh;let ⟨y,us,c',e,a',b',k'⟩:=h2.yh;injection e with e;subst e;rw[a]at a';injection ag a' with _ _ a';injection a' with a';subst a';exact absurd (b.symm.trans b') hl
def IT {A:cR}
  (ih:∀(d d':PV) (v v':Value) (e:Bool) (A:cR),PV.Et n d d'=aa e->dk w F v d->dk w F v' d'->A.units+n<cLine->x8 A s v v' e)
  {vs us:Array Value} (e1:vs.size= ↑l) (e2:us.size= ↑m) (k1:∀(i:Nat) (v:Value) (d:PV),vs[i]? =aa v->l[i]? =aa d->dk w F v d)
  (k2:∀(i:Nat) (v:Value) (d:PV),us[i]? =aa v->m[i]? =aa d->dk w F v d) (hr:sj (PV.Et n) l m=aa r) (hA:A.units+(n+1)<cLine):
  ∃f:Nat->Bool,r=(cJ (min vs.size us.size)).all f/\∀j (h1:j<vs.size) (h2:j<us.size),x8 A.in1 s vs[j] us[j] (f j):=by
 let ⟨p,q⟩:=AN hr;refine⟨_,by rw[e1,e2];exact q,λj h1 h2=> ?_⟩;have j1:j< ↑l:=by exact IO h1 e1
 have j2:j< ↑m:=by exact IO h2 e2
 rw[Pr j1 j2];let ⟨x,hx⟩:=p j j1 j2;rw[hx];exact ih _ _ _ _ _ _ hx (dk.VT e1 k1 h1 j1) (dk.VT e2 k2 h2 j2) (by show A.units+1+n<cLine;exact aim hA)
def X0 (hF:∀a o,F a=aa o->s.heap.get? a=aa o):∀(n:Nat) (d d':PV) (v v':Value) (e:Bool) (A:cR),PV.Et n d d'=aa e->dk w F v d->dk w F v' d'->
  A.units+n<cLine->x8 A s v v' e:=by
 intro n;induction n with
 |zero=>exact λd d' v v' e A h=>gq h
 |succ n ih=>
  intro d d' v v' e A h h1 h2 hA;have hs:=λx (e1:v=x) (e2:v'=x)=>Pt (n+1) d d' x e h (e1▸h1) (e2▸h2);cases Lb h with
  |int=>let ⟨_,rfl⟩:=h1.kH;let ⟨_,rfl⟩:=h2.kH;exact SeqAt.EqAt.int_int _ _ _ _
  |str=>let ⟨_,rfl⟩:=h1.mD;let ⟨_,rfl⟩:=h2.mD;exact Gc _ _ _ _
  |tup hr=>
   let ⟨x,vs,c,rfl,a,b,k⟩:=h1.En;let ⟨y,us,c',rfl,a',b',k'⟩:=h2.En;by_cases W5:x=y
   ·subst W5;rw[hs _ rfl rfl];exact yd _
   ·let ⟨f,hf,hj⟩:=IT ih b b' k k' hr hA;have:=SeqAt.RcAt.tuples (A:=A) (s:=s) ⟨_,hF _ _ a,rfl,_,rfl⟩ ⟨_,hF _ _ a',rfl,_,rfl⟩ (XK hA) hj;rw[<- hf,b,b']at this;exact uI W5 this
  |lst cH hr=>
   let ⟨x,vs,c,rfl,a,b,k⟩:=h1.yh;let ⟨y,us,c',rfl,a',b',k'⟩:=h2.yh;by_cases W5:x=y
   ·subst W5;rw[hs _ rfl rfl];exact yd _
   ·let ⟨f,hf,hj⟩:=IT ih b b' k k' hr hA;have hsz:vs.size=us.size:=by exact aaO b b' cH
    have:=IF (A:=A) (s:=s) ⟨_,hF _ _ a,rfl,_,rfl⟩ ⟨_,hF _ _ a',rfl,_,rfl⟩ hsz (XK hA) hj;rw[<- hsz,Nat.min_self]at hf;rw[<- hf]at this;exact uI W5 this
  |ne cH=>
   let ⟨x,vs,c,rfl,a,b,k⟩:=h1.yh;let ⟨y,us,c',rfl,a',b',k'⟩:=h2.yh;by_cases W5:x=y
   ·subst W5;rw[hs _ rfl rfl];exact yd _
   ·exact uI W5 (Ay (A:=A) (s:=s) ⟨_,hF _ _ a,rfl,_,rfl⟩ ⟨_,hF _ _ a',rfl,_,rfl⟩ (by simp;exact XM b b' cH) (XK hA))
noncomputable def small (a:Int):Bool:=decide (-(2 ^ 40)<a)&&decide (a<2 ^ 40)
noncomputable def AP (a:Int):Bool:=decide (-(2 ^ 29)<a)&&decide (a<2 ^ 29)
noncomputable def fz (n:Nat):Option PV:=Kw (aa (.fF (.ofNat 0))) (λn q=>aa (.fF (.ofNat (FX n)))) n
noncomputable def ff (u:UInt64):Option PV:=fz u.toNat
def Lc (u:UInt64):ff u=aa (.fF u):=by unfold ff;rw[show fz u.toNat=aa (.fF (.ofNat u.toNat)) from Kw rfl (λq q=>rfl) u.toNat,UInt64.ofNat_toNat]
def IU (h:ff u=aa d):PV.fF u=d:=ag ((Lc u).symm.trans h)
def AQ [Decidable p] (h:(if p then ff u else ac)=aa d):p/\PV.fF u=d:=dT (Lc u▸h)
def Gp [Decidable p] (h:(if p then ac else ff u)=aa d):¬p/\PV.fF u=d:=KS (Lc u▸h)
noncomputable def md (a b:Int):UInt64:=Eg (decide (a<0) !=decide (b<0)) a.natAbs b.natAbs
def afg (op:mv) (a b:Int):Option PV:=match op with
 | .Add=>aa (.int (a+b))
 | .Sub=>aa (.int (a- b))
 | .Mult=>if small a then aa (.int (a*b)) else ac
 | .FloorDiv=>if b≠0/\AP a=true/\AP b=true then aa (.int (a.fdiv b)) else ac
 | .Mod=>if b≠0 then aa (.int (a.fmod b)) else ac
 | .Div=>if b≠0/\AP a=true/\mZ (md a b)=false then ff (md a b) else ac
 |_=>ac
def afh (op:mv) (a b:UInt64):Option PV:=match op with
 | .Add=>ff (Tz a b)
 | .Sub=>ff (XI a b)
 | .Mult=>ff (XF a b)
 | .Div=>if Ck b then ac else ff (aaJ a b)
 | .Mod=>if Ck b then ac else ff (XH a b)
 |_=>ac
noncomputable def MD (b:Int):UInt64:=Eg (decide (b<0)) b.natAbs 1
def z2 (b:Int):MD b=C8 b:=by unfold MD C8;rw[Df]
def afi (op:mv) (a:UInt64) (b:Int):Option PV:=match op with
 | .Mult=>if AP b then ff (XF a (MD b)) else ac
 | .Sub=>if AP b then ff (XI a (MD b)) else ac
 |_=>ac
noncomputable def afj (op:mv) (a b:Str):Option PV:=match op with
 | .Add=>if ↑a+ ↑b<=sizeLine then aa (.str (a++b)) else ac
 |_=>ac
noncomputable def afk (op:mv) (a:Str) (b:Int):Option PV:=match op with
 | .Mult=>if ↑a=1/\0<=b/\b<=1000 then aa (.str (Txt.mul a b)) else ac
 |_=>ac
def AR (op:mv) (x y:PV):Option PV:=match x with
 | .int a=>match y with
  | .int b=>afg op a b
  |_=>ac
 | .fF a=>match y with
  | .fF b=>afh op a b
  | .int b=>afi op a b
  |_=>ac
 | .str a=>match y with
  | .str b=>afj op a b
  | .int b=>afk op a b
  |_=>ac
 |_=>ac
def Gq (h:AP n=true):n.natAbs<2 ^ 29:=by
 have h:=dD.mp h;induction n with
 |ofNat n=>exact cL.mp (of_decide_eq_true h.2)
 |negSucc n=>exact cL.mp (Int.lt_of_neg_lt_neg (of_decide_eq_true h.1))
def yj (h:AP n=true):n.natAbs<2 ^ 1023:=iK (Gq h) (Nat.pow_lt_pow_right ∅ ∅)
section
variable {A:cR} {c:aM} {s:bb} {op:mv} {d:PV} {t t':C6} {E Q:VS}
abbrev Z6 (S:cz) (O:List AO) (c:aM) (s:bb) (d:PV) (Q:VS):Prop:=∀v n,dk S.w c.F v d->Q v {s with toks:=n}
def TN (h:afg op a b=aa d) (hA:jD k A) (hQ:Z6 S O c s d Q) (hm:binaryOp op (.int a t) (.int b t')=m):wpAny (MM S.w) A m Q E s:=by
 subst hm;induction op with
 |Add=>obtain rfl:=ag h;exact P.add_int (hQ _ _ (.int ..))
 |Sub=>obtain rfl:=ag h;exact P.sub_int (hQ _ _ (.int ..))
 |Mult=>let ⟨hs,rfl⟩:=dT h;refine P.mul_int (hQ _ _ (.int ..)) (IntMulOk.of_left (intBits_le_64 ?_ ?_))<;>(unfold small at hs;simp only[dj,decide_eq_true_eq]at hs;(first|exact ain hs|exact aio hs))
 |FloorDiv=>let ⟨⟨hb,ha,uP⟩,rfl⟩:=dT h;exact yP hb (hQ _ _ (.int ..)) (.inl (FW (iK (Gq uP) ∅)))
 |Mod=>let ⟨hs,rfl⟩:=dT h;exact PyProof.Rows.mod_int hs (hQ _ _ (.int ..))
 |Div=>let ⟨⟨hb,ha,hi⟩,rfl⟩:=AQ h;unfold md at hQ;rw[<- Df]at hQ;exact Flt.div_ii_fits hA.hn (yj ha) (λe=>absurd e hb) λq q=>hQ _ _ (.fF ..)
 |_=>exfalso;exact y7 h
def TO (h:afh op a b=aa d) (hA:jD k A) (hQ:Z6 S O c s d Q) (hm:binaryOp op (.float a t) (.float b t')=m):wpAny (MM S.w) A m Q E s:=by
 subst hm;induction op with
 |Add=>obtain rfl:=IU h;exact PyProof.Rows.add_float (Ei a b▸hQ _ _ (.fF ..))
 |Sub=>obtain rfl:=IU h;exact PyProof.Rows.sub_float (KH a b▸hQ _ _ (.fF ..))
 |Mult=>obtain rfl:=IU h;exact PyProof.Rows.mul_float (KE a b▸hQ _ _ (.fF ..))
 |Div=>let ⟨hs,rfl⟩:=Gp h;exact PyProof.Rows.truediv_float_or hA.hn (λe=>absurd e hs) λq=>TA a b▸hQ _ _ (.fF ..)
 |Mod=>let ⟨hs,rfl⟩:=Gp h;exact Flt.mod_ff hA.hn (λe=>absurd e hs) λq=>TB a b▸hQ _ _ (.fF ..)
 |_=>exfalso;exact y7 h
def TP (h:afi op a b=aa d) (hQ:Z6 S O c s d Q) (hm:binaryOp op (.float a t) (.int b t')=m):wpAny (MM S.w) A m Q E s:=by
 subst hm;induction op with
 |Mult=>let ⟨hs,rfl⟩:=AQ h;exact PyProof.Rows.mul_fi_fits (yj hs) (KE a _▸z2 b▸hQ _ _ (.fF ..))
 |Sub=>let ⟨hs,rfl⟩:=AQ h;exact PyProof.Rows.sub_fi_fits (yj hs) (KH a _▸z2 b▸hQ _ _ (.fF ..))
 |_=>exfalso;exact y7 h
def TQ (h:afj op a b=aa d) (hQ:Z6 S O c s d Q) (hm:binaryOp op (.str a t) (.str b t')=m):wpAny (MM S.w) A m Q E s:=by
 subst hm;induction op with
 |Add=>let ⟨hs,rfl⟩:=dT h;exact SB.add (λt' tk=>hQ _ _ (.str ..)) hs
 |_=>exfalso;exact y7 h
def TR (h:afk op a b=aa d) (hQ:Z6 S O c s d Q) (hm:binaryOp op (.str a t) (.int b t')=m):wpAny (MM S.w) A m Q E s:=by
 subst hm;induction op with
 |Mult=>
  let ⟨⟨p,q,r⟩,rfl⟩:=dT h;refine SB.mul ⟨?_,λx y=> ?_,λx y=> ?_⟩ λt' tk=>hQ _ _ (.str ..)
  ·simp;exact aip q r
  ·rw[p];exact nT.mpr (ec ∅ (Int.le_ediv_of_mul_le (nT.mp x) (ec (Int.mul_le_mul_of_nonneg_left r ∅) ∅):(1000:Int)<=(2 ^ 63- 1)/_))
  ·rw[p];unfold cw;have:sizeLine=2 ^ 24:=rfl;simp;exact aiq r this
 |_=>exfalso;exact y7 h
end
set_option maxHeartbeats 2000000 in
def Pu (h:AR op a b=aa d):Mz (binaryOp op) a b d:=by
 intro S k O A c s u v hA R h1 h2 E Q hQ;have hq:Z6 S O c s d Q:=λv n hv=>hQ c v _ (.refl ..) R (.toks ..) (.pv hv);generalize hm:binaryOp op u v=m;cases a with
 |int x=>
  let ⟨_,rfl⟩:=h1.kH;cases b with
  |int y=>let ⟨_,rfl⟩:=h2.kH;delta AR at h;dsimp only at h;exact TN h hA hq hm
  |_=>exfalso;exact y7 h
 |fF x=>
  let ⟨_,rfl⟩:=h1.Em;cases b with
  |fF y=>let ⟨_,rfl⟩:=h2.Em;delta AR at h;dsimp only at h;exact TO h hA hq hm
  |int y=>let ⟨_,rfl⟩:=h2.kH;delta AR at h;dsimp only at h;exact TP h hq hm
  |_=>exfalso;exact y7 h
 |str x=>
  let ⟨_,rfl⟩:=h1.mD;cases b with
  |str y=>let ⟨_,rfl⟩:=h2.mD;delta AR at h;dsimp only at h;exact TQ h hq hm
  |int y=>let ⟨_,rfl⟩:=h2.kH;delta AR at h;dsimp only at h;exact TR h hq hm
  |_=>exfalso;exact y7 h
 |_=>exfalso;exact y7 h
noncomputable def anyStr (x:Str):List PV->Option Bool
 | []=>aa false
 | .str y::l=>(anyStr x l).map ((y==x)|| ·)
 |_=>ac
def iH (l m:List PV):Option Bool:=if ↑l= ↑m then sj (PV.Et 3) l m else aa false
def jD.IV (hA:jD k A) (hn:n<=10):A.units+n<cLine:=by have:=hA.units;exact air this hn rfl
noncomputable def Eu (x:Str):Value->Bool
 | .str y _=>y==x
 |_=>false
def Dj {l:List PV} {r:Bool} {vs:Vs} (h:anyStr x l=aa r) (hl: ↑vs= ↑l)
  (hr:∀(i:Nat) (v:Value) (d:PV),vs[i]? =aa v->l[i]? =aa d->dk w F v d):r=vs.any (Eu x)/\∀y∈vs,x8 A s y (.str x t) (Eu x y):=by
 replace hl:=S3.of hl;induction hl generalizing r with
 |nil=>obtain rfl:=ag h;exact⟨rfl,λy hy=>nomatch hy⟩
 |cons u d _ ih=>
  cases d with
  |str y=>
   let ⟨r',W6,rfl⟩:=ar.mp h;let ⟨p,q⟩:=ih W6 λi v d a b=>hr (i+1) v d a b;let ⟨_,rfl⟩:=(hr 0 u _ rfl rfl).mD;refine⟨by rw[List.any_cons,p];rfl,λz hz=> ?_⟩;rcases aH.mp hz with rfl|e
   ·exact Gc _ _ _ _
   ·exact q z e
  |_=>exact gq h
def dk.TU {vs:Array Value} {l:List PV} (hr:∀(i:Nat) (v:Value) (d:PV),vs[i]? =aa v->l[i]? =aa d->dk w F v d):
  ∀(i:Nat) (v:Value) (d:PV),vs.toList[i]? =aa v->l[i]? =aa d->dk w F v d:=λi v d h1 h2=>hr i v d ((fR)▸h1) h2
def Ld (vs:Array Value) (f:Value->Bool):vs.any f=vs.toList.any f:=(Array.any_toList (as:=vs) (p:=f)).symm
def ug (hF:∀a o,F a=aa o->s.heap.get? a=aa o)
  (hx:s.heap.get? x=aa {cls:= .type "list",data:= .seq vs n}) (hy:s.heap.get? y=aa {cls:= .type "list",data:= .seq us m}) (e1:vs.size= ↑l) (e2:us.size= ↑l')
  (k1:∀(i:Nat) (v:Value) (d:PV),vs[i]? =aa v->l[i]? =aa d->dk w F v d) (k2:∀(i:Nat) (v:Value) (d:PV),us[i]? =aa v->l'[i]? =aa d->dk w F v d) (h:iH l l'=aa r) (hA:A.units+4<cLine):
  SeqAt.RcAt A s (.ref x) (.ref y) r/\SeqAt.RcNeAt A s (.ref x) (.ref y) (!r):=by
 unfold iH at h;by_cases cH: ↑l= ↑l'
 ·rw[if_pos cH]at h;let ⟨f,hf,hj⟩:=IT (n:=3) (s:=s) (λd d' v v' e A=>X0 hF 3 d d' v v' e A) e1 e2 k1 k2 h hA;have hsz:vs.size=us.size:=by exact aaO e1 e2 cH
  rw[<- hsz,Nat.min_self]at hf;rw[hf];exact⟨IF ⟨_,hx,rfl,_,rfl⟩ ⟨_,hy,rfl,_,rfl⟩ hsz (TC hA) hj,SeqAt.RcNeAt.lists ⟨_,hx,rfl,_,rfl⟩ ⟨_,hy,rfl,_,rfl⟩ hsz (TC hA) hj⟩
 ·rw[if_neg cH]at h;obtain rfl:=ag h;exact⟨Ay ⟨_,hx,rfl,_,rfl⟩ ⟨_,hy,rfl,_,rfl⟩ (by simp;exact XM e1 e2 cH) (TC hA),SeqAt.RcNeAt.lists_lengths ⟨_,hx,rfl,_,rfl⟩ ⟨_,hy,rfl,_,rfl⟩ (by simp;exact XM e1 e2 cH) (TC hA)⟩
noncomputable def WH (op:wk) (a b:Int):Option Bool:=match op with
 | .Lt=>aa (decide (a<b))
 | .LtE=>aa (decide (a<=b))
 | .Gt=>aa (decide (b<a))
 | .GtE=>aa (decide (b<=a))
 | .Eq=>aa (a==b)
 | .NotEq=>aa (a !=b)
 |_=>ac
noncomputable def WI (op:wk) (a b:UInt64):Option Bool:=match op with
 | .Lt=>aa (dK a b==aa nc)
 | .LtE=>aa (dK a b==aa nc||dK a b==aa VJ)
 | .Gt=>aa (dK a b==aa Ordering.gt)
 | .Eq=>aa (dK a b==aa VJ)
 |_=>ac
noncomputable def WK (op:wk) (a b:Str):Option Bool:=match op with
 | .Eq=>aa (a==b)
 | .NotEq=>aa (a !=b)
 | .Lt=>aa (decide (a.cps.toList<b.cps.toList))
 | .In=>aa (eS b a)
 | .NotIn=>aa (!eS b a)
 |_=>ac
def afl (op:wk) (a:Str) (l:List PV):Option Bool:=match op with
 | .In=>anyStr a l
 | .NotIn=>(anyStr a l).map (!·)
 |_=>ac
def afm (op:wk) (a:Str) (l:List PV):Option Bool:=match op with
 | .In=>anyStr a l
 |_=>ac
def afn (op:wk) (l m:List PV):Option Bool:=match op with
 | .Eq=>iH l m
 | .NotEq=>(iH l m).map (!·)
 |_=>ac
noncomputable def Le (op:wk) (v:Value) (r:Bool):Option Bool:=match v with
 | .none=>match op with
  | .Is=>aa r
  | .IsNot=>aa (!r)
  |_=>ac
 |_=>ac
def TV (op:wk) (x y:PV):Option Bool:=match x with
 | .int a=>match y with
  | .int b=>WH op a b
  | .con v=>Le op v false
  |_=>ac
 | .fF a=>match y with
  | .fF b=>WI op a b
  |_=>ac
 | .str a=>match y with
  | .str b=>WK op a b
  | .lst l=>afl op a l
  | .tup l=>afm op a l
  | .con v=>Le op v false
  |_=>ac
 | .lst l=>match y with
  | .lst m=>afn op l m
  |_=>ac
 | .con u=>match y with
  | .con v=>match u with
   | .none=>Le op v true
   |_=>ac
  |_=>ac
 |_=>ac
section
variable {w:jB} {A:cR} {s:bb} {op:wk} {r:Bool} {t t':C6} {E Q:VS}
def Pw (h:WH op a b=aa r) (fin:Q (.bool r) s):wpAny (MM w) A (compareOp op (.int a t) (.int b t')) Q E s:=by
 induction op with
 |Lt=>obtain rfl:=ag h;exact P.lt_int fin
 |LtE=>obtain rfl:=ag h;exact P.le_int fin
 |Gt=>obtain rfl:=ag h;exact P.gt_int fin
 |GtE=>obtain rfl:=ag h;exact P.ge_int fin
 |Eq=>obtain rfl:=ag h;exact P.eq_int fin
 |NotEq=>obtain rfl:=ag h;exact P.ne_int fin
 |_=>exfalso;exact y7 h
def Px (h:WI op a b=aa r) (fin:Q (.bool r) s):wpAny (MM w) A (compareOp op (.float a t) (.float b t')) Q E s:=by
 induction op with
 |Lt=>obtain rfl:=ag h;exact AutoFloatOps.lt_0 fin
 |LtE=>obtain rfl:=ag h;exact AutoFloatOps.le_0 fin
 |Gt=>obtain rfl:=ag h;exact AutoFloatOps.gt_0 fin
 |Eq=>obtain rfl:=ag h;exact AutoFloatOps.eq_0 fin
 |_=>exfalso;exact y7 h
def Py (h:WK op a b=aa r) (fin:Q (.bool r) s):wpAny (MM w) A (compareOp op (.str a t) (.str b t')) Q E s:=by
 induction op with
 |Eq=>obtain rfl:=ag h;exact Dc fin
 |NotEq=>obtain rfl:=ag h;exact PyProof.Rows.ne_str fin
 |Lt=>obtain rfl:=ag h;exact PyProof.Rows.lt_str fin
 |In=>obtain rfl:=ag h;exact SB.contains fin
 |NotIn=>obtain rfl:=ag h;exact SB.notContains fin
 |_=>exfalso;exact y7 h
def AS {u v:Value} (h:Le op v r0=aa r) (e:v= .none->plainIs u .none=true/\(u==qc)=r0) (fin:Q (.bool r) s):wpAny (MM w) A (compareOp op u v) Q E s:=by
 induction v with
 |none=>induction op with
  |Is=>obtain rfl:=ag h;exact nQ (e rfl).1 ((e rfl).2.symm▸fin)
  |IsNot=>obtain rfl:=ag h;exact C4 (e rfl).1 ((e rfl).2.symm▸fin)
  |_=>exfalso;exact y7 h
 |_=>exfalso;exact y7 h
end
set_option maxHeartbeats 2000000 in
def TX (h:TV op a b=aa r):WG op a b r:=by
 intro S k O A c s u v hA R h1 h2 E Q hQ;have fin:Q (.bool r) s:=hQ c _ _ (.refl ..) R (.refl ..) (.pv (.con ..));have hu:=hA.IV (n:=4) ∅;cases a with
 |int x=>
  let ⟨_,rfl⟩:=h1.kH;cases b with
  |int y=>let ⟨_,rfl⟩:=h2.kH;exact Pw h fin
  |con v=>obtain rfl:=h2.IQ;exact AS h (λe=>by subst e;exact⟨rfl,rfl⟩) fin
  |_=>exfalso;exact y7 h
 |fF x=>
  let ⟨_,rfl⟩:=h1.Em;cases b with
  |fF y=>let ⟨_,rfl⟩:=h2.Em;exact Px h fin
  |_=>exfalso;exact y7 h
 |str x=>
  let ⟨t0,rfl⟩:=h1.mD;cases b with
  |str y=>let ⟨_,rfl⟩:=h2.mD;exact Py h fin
  |con v=>obtain rfl:=h2.IQ;exact AS h (λe=>by subst e;exact⟨rfl,rfl⟩) fin
  |lst l=>
   let ⟨y,vs,n,rfl,hy,hs,hp⟩:=h2.yh;have key:∀ {A:cR} {r},anyStr x l=aa r->r=vs.any (Eu x)/\∀y∈vs,x8 A s y (.str x t0) (Eu x y):=λh=>
    let ⟨p,q⟩:=Dj h (by rw[bz];exact hs) (dk.TU hp)
    ⟨p.trans (Ld ..).symm,λy hy=>q y (u5.mpr hy)⟩
   cases op with
   |In=>exact SeqAt.in_listAt _ ⟨_,R.frozen _ _ hy,rfl,_,rfl⟩ (key h).2 ((key (A:=A) h).1▸fin)
   |NotIn=>left;let ⟨r',h',rfl⟩:=ar.mp h;right;exact SeqAt.notIn_listAt _ ⟨_,R.frozen _ _ hy,rfl,_,rfl⟩ (key h').2 ((key (A:=A) h').1▸fin)
   |_=>exfalso;exact y7 h
  |tup l=>
   let ⟨y,vs,n,rfl,hy,hs,hp⟩:=h2.En;cases op with
   |In=>let ⟨p,q⟩:=Dj h (bz▸hs) (dk.TU hp);exact SeqAt.in_tupleAt _ ⟨_,R.frozen _ _ hy,rfl,_,rfl⟩ (λy hy=>q y (u5.mpr hy)) (by rw[Ld,<- p];exact fin)
   |_=>exfalso;exact y7 h
  |_=>exfalso;exact y7 h
 |lst l=>
  let ⟨y,vs,n,rfl,hy,hs,hp⟩:=h1.yh;cases b with
  |lst m=>
   let ⟨y',Vm,n',rfl,W7,qa,hp'⟩:=h2.yh;cases op with
   |Eq=>exact(ug R.frozen (R.frozen _ _ hy) (R.frozen _ _ W7) hs qa hp hp' h hu).1 _ _ _ _ fin
   |NotEq=>left;let ⟨r',h',rfl⟩:=ar.mp h;right;exact(ug R.frozen (R.frozen _ _ hy) (R.frozen _ _ W7) hs qa hp hp' h' hu).2 _ _ _ _ fin
   |_=>exfalso;exact y7 h
  |_=>exfalso;exact y7 h
 |con u'=>
  obtain rfl:=h1.IQ;cases b with
  |con v'=>
   obtain rfl:=h2.IQ;cases u with
   |none=>exact AS h (λe=>by subst e;exact⟨rfl,rfl⟩) fin
   |_=>exfalso;exact y7 h
  |_=>exfalso;exact y7 h
 |_=>exfalso;exact y7 h
inductive CV where
 |pv (d:PV)
 |ob (j:Nat)
 |inst (j:Nat)
local macro_rules (kind := «term~~~_») | s => pure (wa (wI "some") [wa (wm "dotIdent" [wx, wI "pv"]) [s[1]]])
noncomputable def CV.aI:CV->Option Int
 | .pv (.int a)=>aa a
 |_=>ac
def CV.pvI (h:CV.pv d=CV.pv d'):d=d':=by cases h;rfl
def CV.kI {v:CV} (h:v.aI=aa a):v= .pv (.int a):=by
 induction v with
 |pv d=>cases d with
  |int b=>exact congrArg (λb=>CV.pv (.int b)) (ag h)
  |_=>exact gq h
 |_=>exact gq h
noncomputable def CV.aF:CV->Option UInt64
 | .pv (.fF a)=>aa a
 |_=>ac
def CV.kF {v:CV} (h:v.aF=aa a):v= .pv (.fF a):=by
 induction v with
 |pv d=>cases d with
  |fF b=>exact congrArg (λb=>CV.pv (.fF b)) (ag h)
  |_=>exact gq h
 |_=>exact gq h
noncomputable def CV.aS:CV->Option Str
 | .pv (.str a)=>aa a
 |_=>ac
def CV.kS {v:CV} (h:v.aS=aa a):v= .pv (.str a):=by
 induction v with
 |pv d=>cases d with
  |str b=>exact congrArg (λb=>CV.pv (.str b)) (ag h)
  |_=>exact gq h
 |_=>exact gq h
noncomputable def CV.aL:CV->Option (List PV)
 | .pv (.lst a)=>aa a
 |_=>ac
def CV.kL {v:CV} (h:v.aL=aa a):v= .pv (.lst a):=by
 induction v with
 |pv d=>cases d with
  |lst b=>exact congrArg (λb=>CV.pv (.lst b)) (ag h)
  |_=>exact gq h
 |_=>exact gq h
noncomputable def CV.aT:CV->Option (List PV)
 | .pv (.tup a)=>aa a
 |_=>ac
def CV.kT {v:CV} (h:v.aT=aa a):v= .pv (.tup a):=by
 induction v with
 |pv d=>cases d with
  |tup b=>exact congrArg (λb=>CV.pv (.tup b)) (ag h)
  |_=>exact gq h
 |_=>exact gq h
noncomputable def CV.aP:CV->Option PV
 | .pv a=>aa a
 |_=>ac
def CV.kP {v:CV} (h:v.aP=aa a):v= .pv a:=by
 induction v with
 |pv d=>exact congrArg CV.pv (ag h)
 |_=>exact gq h
noncomputable def CV.aO:CV->Option Nat
 | .ob a=>aa a
 |_=>ac
def CV.kO {v:CV} (h:v.aO=aa a):v= .ob a:=by
 induction v with
 |ob d=>exact congrArg CV.ob (ag h)
 |_=>exact gq h
inductive CO where
 |pX
 |list (l:List PV)
 |dict (l:List (Str×PV))
 |attrs (m:List (Str×CV))
structure St where
 lv:List (Option CV)
 cv:List (Option CV)
 ob:List CO
structure Lay where
 scope:Scope
 loc:List Str
 nj:List Str
 own:Nat
 grow:Bool
 code:Option Addr
structure Iz where
 fi:Nat
 ci:List Nat
 oi:Nat->Nat
def Lay.en (lay:Lay) (p:Iz):iv:= {scope:=lay.scope,fi:=p.fi,cells:=lay.nj.zip p.ci,code:=lay.code}
noncomputable def CV.av (oi:NN):CV->AV
 | .pv d=> .pv d
 | .ob j=> .fM (oi j)
 | .inst j=> .inst (oi j)
def CO.ao (oi:NN):CO->AO
 | .pX=> .pX
 | .list l=> .list l
 | .dict l=> .dict l
 | .attrs m=> .attrs (m.map λp=>(p.1,p.2.av oi))
abbrev TY (oi:NN) (l:List (Option CV)):List (Option AV):=l.map (Option.map (CV.av oi))
structure At (lay:Lay) (p:Iz) (st:St) (O:List AO):Prop where
 frame:O[p.fi]? =aa (AO.ns (lay.loc.zip (TY p.oi st.lv)))
 N2: ↑st.lv= ↑lay.loc
 xZ: ↑st.cv= ↑lay.nj
 FD: ↑p.ci= ↑lay.nj
 cells:∀(i:Nat) (v:Option CV),st.cv[i]? =aa v->∃n,p.ci[i]? =aa n/\O[n]? =aa (AO.cell (v.map (CV.av p.oi)))
 obs:∀(j:Nat) (o:CO),st.ob[j]? =aa o->O[p.oi j]? =aa (o.ao p.oi)
 Zm:p.fi∉p.ci
 Zn:∀j,j< ↑st.ob->p.oi j≠p.fi
 Vh:∀j,j< ↑st.ob->p.oi j∉p.ci
 W3:p.ci.Nodup
 Vi:∀i j,i< ↑st.ob->j< ↑st.ob->p.oi i=p.oi j->i=j
 next:lay.grow=true->∀j,p.oi (↑st.ob+j)= ↑O+j
def cS (S:cz) (k:Nat) (lay:Lay) (e:Expr) (f:St->Option CV):Prop:=∀p O st v,At lay p st O->f st=aa v->Ev S k O (lay.en p) e (v.av p.oi) O
def AU (S:cz) (k:Nat) (lay:Lay) (e:Expr) (f:St->Option Bool):Prop:=∀p O st v,At lay p st O->f st=aa v->ou S k O (lay.en p) e v
def pQ (S:cz) (k:Nat) (lay:Lay) (es:List Expr) (f:St->Option (List CV)):Prop:=∀p O st v,At lay p st O->f st=aa v->ck S k O (lay.en p) es (v.map (CV.av p.oi))
def Ev.AW (h:Ev S k O ae e d bv) (hk:k<=k'):Ev S k' O ae e d bv:=⟨h.len,λA c s env hA=>h.run A c s env (hA.le hk)⟩
section
variable {lay:Lay}
def Lay.ni (lay:Lay) (i:Nat) (x:Str):Bool:=lay.loc[i]? ==aa x&&lay.scope.names.lookup x==aa .local&& !(x==("__debug__" :Str))
noncomputable def idxOf (x:Str):List Str->Option Nat
 | []=>ac
 |y::l=>if x==y then aa 0 else(idxOf x l).map (· +1)
def idxOf_cons:idxOf x (y::l)=if x==y then aa 0 else(idxOf x l).map (· +1):=rfl
def Lay.WL (lay:Lay) (i:Nat) (x:Str):Bool:=idxOf x lay.nj==aa i&&(lay.scope.names.lookup x==aa .cell||lay.scope.names.lookup x==aa .free)&& !(x==("__debug__" :Str))&& !(x==("__classdict__" :Str))
def Lay.me (lay:Lay) (x:Str):Bool:=lay.scope.names.lookup x==aa .globalImplicit&& !(x==("__debug__" :Str))
def ak (i:Nat) (st:St):Option CV:=(VT st.lv i).join
def aX (i:Nat) (st:St):Option CV:=(VT st.cv i).join
noncomputable def jg (d:PV) (_:St):Option CV:= ~~~d
def o9 (h:(!b)=true):b=false:=by cases b<;>simp_all
def Pz {α:Type} {l:List Str}:∀ {m:List α} {i:Nat} {x:Str} {v:α},l[i]? =aa x->m[i]? =aa v->(x,v)∈l.zip m:=by
 induction l with
 |nil=>exact λh q=>gq h
 |cons a l ih=>
  intro m i x v h1 h2;cases m with
  |nil=>exact gq h2
  |cons b m=>
   induction i with
   |zero=>obtain rfl:=ag h1;obtain rfl:=ag h2;exact ay
   |succ i=>exact aK _ (ih h1 h2)
def AX {l:List Str}:∀ {m:List α} {i:Nat} {x:Str} {v:α},idxOf x l=aa i->m[i]? =aa v->(l.zip m).lookup x=aa v:=by
 induction l with
 |nil=>exact λh=>gq h
 |cons a l ih=>
  intro m i x v h1 h2;cases m with
  |nil=>exact gq h2
  |cons b m=>
   rw[qv,di];rw[idxOf_cons]at h1;by_cases e:(x==a)=true
   ·rw[if_pos e]at h1;obtain rfl:=ag h1;rw[e];exact h2
   ·rw[if_neg e]at h1;let ⟨j,hj,rfl⟩:=ar.mp h1;rw[kl.mpr e];exact ih hj h2
def cS.loc (h:lay.ni i x=true):cS S k lay (.Name x pos) (ak i):=by
 intro p O st v bc hf;unfold Lay.ni at h;simp only[dj,beq_iff_eq]at h;let ⟨⟨h1,h2⟩,h3⟩:=h;have hv:st.lv[i]? =aa (aa v):=by
  unfold ak at hf;rw[AG]at hf;cases e:st.lv[i]? with
  |none=>rw[e]at hf;cases hf
  |some o=>rw[e]at hf;exact congrArg aa hf
 refine Ev.rF bc.frame h2 (Pz h1 (v:=aa (v.av p.oi)) ?_) (o9 h3);rw[bN,hv];rfl
def cS.nj (h:lay.WL i x=true):cS S k lay (.Name x pos) (aX i):=by
 intro p O st v bc hf;unfold Lay.WL at h;simp only[dj,Bool.or_eq_true,beq_iff_eq]at h;left;let ⟨⟨⟨h1,h2⟩,h3⟩,h4⟩:=h;right;have hv:st.cv[i]? =aa (aa v):=by
  unfold aX at hf;rw[AG]at hf;cases e:st.cv[i]? with
  |none=>rw[e]at hf;cases hf
  |some o=>rw[e]at hf;exact congrArg aa hf
 let ⟨n,hn,hc⟩:=bc.cells i _ hv;have hl:(lay.en p).cells.lookup x=aa n:=AX h1 hn;rcases h2 with(h2|h2)
 ·exact Ev.My h2 hl hc (o9 h3)
 ·exact Ev.qN h2 hl hc (o9 h3) (o9 h4)
def cS.int:cS S k lay (.Constant (.int i) n pos) (jg (.int i)):=by intro p O st v _ hf;obtain rfl:=ag hf;exact Ev.int
def cS.str:cS S k lay (.Constant (.str i) n pos) (jg (.str i)):=by intro p O st v _ hf;obtain rfl:=ag hf;exact Ev.str
def cS.fF:cS S k lay (.Constant (.float i) n pos) (jg (.fF i)):=by intro p O st v _ hf;obtain rfl:=ag hf;exact Ev.fF
def cS.none:cS S k lay (.Constant .none n pos) (jg PV.none):=by intro p O st v _ hf;obtain rfl:=ag hf;exact Ev.none
def cS.bool:cS S k lay (.Constant (.bool b) n pos) (jg (PV.bool b)):=by intro p O st v _ hf;obtain rfl:=ag hf;exact Ev.bool
def cS.alp (t:C6) (h:lay.me x=true) (hg:(x,aa (.float u t))∈cg):cS S k lay (.Name x pos) (jg (.fF u)):=by intro p O st v _ hf;obtain rfl:=ag hf;unfold Lay.me at h;simp only[dj,beq_iff_eq]at h;exact Ev.IR h.1 hg (o9 h.2)
def Ev.Gr (h:lay.me x=true) (hg:(x,aa v)∈cg):nH S k O (lay.en p) (.Name x pos) (.con v):=by unfold Lay.me at h;simp only[dj,beq_iff_eq]at h;exact Ev.ue h.1 hg (o9 h.2)
def Ev.PA (h:lay.me x=true) (hg:(x,ac)∈cg) (hb:(x,aa v)∈lu):nH S k O (lay.en p) (.Name x pos) (.con v):=by unfold Lay.me at h;simp only[dj,beq_iff_eq]at h;exact Ev.Gl h.1 hg hb (o9 h.2)
noncomputable def CV.aDc:CV->Option (List (Str×PV))
 | .pv (.oK l)=>aa l
 |_=>ac
def CV.kDc {v:CV} (h:v.aDc=aa a):v= .pv (.oK a):=by
 induction v with
 |pv d=>cases d with
  |oK l=>obtain rfl:=ag h;rfl
  |_=>exact gq h
 |_=>exact gq h
noncomputable def S5:Option CO->Option (List PV)
 |some (.list l)=>aa l
 |_=>ac
def uh (h:S5 a=aa l):a=aa (.list l):=by
 induction a with
 |none=>exact gq h
 |some o=>induction o with
  |list m=>obtain rfl:=ag h;rfl
  |_=>exact gq h
def St.ow (st:St):CV->Option (List PV)
 | .ob j=>S5 st.ob[j]?
 |v=>v.aL
def Lf {st:St} (e:st.ow v=aa l) {P:CV->Prop} (h1:P (.pv (.lst l))) (h2:∀j,st.ob[j]? =aa (.list l)->P (.ob j)):P v:=by
 induction v with
 |ob j=>exact h2 j (uh e)
 |pv d=>exact(CV.kL (v:= .pv d) e).symm▸h1
 |inst j=>exact gq e
def At.ow (h:At lay p st O) (e:st.ow v=aa l):IsL O (v.av p.oi) l:=
 Lf (P:=λv=>IsL O (v.av p.oi) l) e .val λj hl=> .fM (h.obs _ _ hl)
noncomputable def u7 (f g:St->Option CV) (st:St) (k:CV->CV->Option α):Option α:=(f st).bind λa=>(g st).bind (k a)
def orE {o p:Option α} {G:Prop} (h:o.or p=aa d) (h1:o=aa d->G) (h2:p=aa d->G):G:=by
 induction o with
 |none=>exact h2 h
 |some x=>exact h1 h
noncomputable def PB (l m:List PV):Option PV:=if ↑l+ ↑m<=sizeLine then aa (.lst (l++m)) else ac
noncomputable def WM (op:mv) (o:Option PV):Option PV:=match op with
 | .Add=>o
 |_=>ac
def ME (h:WM op o=aa d):op= .Add/\o=aa d:=by
 induction op with
 |Add=>exact⟨rfl,h⟩
 |_=>exact gq h
def MF (st:St) (op:mv) (a b:CV):Option PV:=
 (a.aP.bind λx=>b.aP.bind (AR op x)).or (WM op ((st.ow a).bind λl=>(st.ow b).bind (PB l)))
def ba (op:mv) (f g:St->Option CV) (st:St):Option CV:=(u7 f g st (MF st op)).map .pv
def zJ (O:List AO) (t:Value->Value->zV Value) (a b:AV) (d:PV):Prop:=
 ∀(S:cz) (k:Nat) (A:cR) (c:aM) (s:bb) (u v:Value),jD k A->Rel S c O s.heap->cT S.w c ↑O u a->cT S.w c ↑O v b->Tr S O A c s (t u v) (.pv d) O
def Mz.A (h:Mz t a b d):zJ O t (.pv a) (.pv b) d:=λS k A c s u v hA R h1 h2=>h S k O A c s u v hA R h1.gh h2.gh
def Ev.Ew (h1:Ev S k O ae l a O) (h2:Ev S k O ae r b O) (ho:zJ O (binaryOp op) a b d):nH S k O ae (.BinOp l op r pos) d:=
 ⟨ab _,λA c s env hA hE R E Q hQ=>Ga (h1.run A c s env hA hE R _ _ λc1 v1 s1 l1 R1 K1 a1=>h2.run A c1 s1 env hA (hE.mono l1 (ab _)) R1 _ _ λc2 v2 s2 l2 R2 K2 a2=>
  ho S k A c2 s2 v1 v2 hA R2 (a1.mono l2 (ab _)) a2 _ _ λc3 v3 s3 l3 R3 K3 a3=>hQ c3 v3 s3 ((l1.trans l2 (ab _)).trans l3 (ab _)) R3 ((K1.trans K2).trans K3) a3)⟩
def Ev.jq (h1:Ev S k O ae l a O) (h2:Ev S k O ae r b O) (ho:zJ O (compareOp op) a b d) (hm:behindInMarks op r=false):
  nH S k O ae (.Compare l [op] [r] pos) d:=
 ⟨ab _,λA c s env hA hE R E Q hQ=>wpAny_Compare1 (h1.run A c s env hA hE R _ _ λc1 v1 s1 l1 R1 K1 a1=>h2.run A c1 s1 env hA (hE.mono l1 (ab _)) R1 _ _ λc2 v2 s2 l2 R2 K2 a2=>
  ho S k A c2 s2 v1 v2 hA R2 (a1.mono l2 (ab _)) a2 _ _ λc3 v3 s3 l3 R3 K3 a3=>hQ c3 v3 s3 ((l1.trans l2 (ab _)).trans l3 (ab _)) R3 ((K1.trans K2).trans K3) a3) hm⟩
def ou.jq (h1:Ev S k O ae l a O) (h2:Ev S k O ae r b O) (ho:zJ O (compareOp op) a b (PV.bool x)) (hm:behindInMarks op r=false):
  ou S k O ae (.Compare l [op] [r] pos) x:=
 λA c s env hA hE R E Q hQ=>x7 (h1.run A c s env hA hE R _ _ λc1 v1 s1 l1 R1 K1 a1=>h2.run A c1 s1 env hA (hE.mono l1 (ab _)) R1 _ _ λc2 v2 s2 l2 R2 K2 a2=>
  ho S k A c2 s2 v1 v2 hA R2 (a1.mono l2 (ab _)) a2 _ _ λc3 v3 s3 l3 R3 K3 a3=>by
   have e:=a3.dn;subst e;exact gc (hQ c3 s3 ((l1.trans l2 (ab _)).trans l3 (ab _)) R3 ((K1.trans K2).trans K3))) hm
def Rel.sS {s:bb} (R:Rel S c O s.heap):
  Rel S (c.put s.heap.objs.size {cls:= .type T,data:= .seq vs}) O (s.heap.push {cls:= .type T,data:= .seq vs}):=
 R.put (λb o e=>aJ _ e) (ab _) (aV _ rfl)
def zJ.PB (h1:IsL O a l) (h2:IsL O b m) (hsz: ↑l+ ↑m<=sizeLine):zJ O (binaryOp .Add) a b (.lst (l++m)):=by
 intro S k A c s u v hA R ha hb E Q hQ;left;let ⟨x,vs,n,rfl,hx,e1,k1⟩:=h1.at R ha;let ⟨y,us,m',rfl,hy,e2,k2⟩:=h2.at R hb;right;refine PySem.P.add_list hx hy ?_ (by simp_all);have hF:=R.oq (ab _);refine hQ _ _ _ (aM.dC hF) R.sS (.gF ..) (.pv (.lst (vs:=vs++us) (if_pos rfl) (by rw[Array.size_append,aj];simp_all) λi v d hv hd=> ?_));have hm:dk S.w c.F v d:=by
  rcases bS i vs.size with h|h
  ·rw[Array.getElem?_append_left h]at hv;rw[aW (by simp_all)]at hd;exact k1 i v d hv hd
  ·rw[Array.getElem?_append_right h]at hv;rw[aE (by simp_all),<- e1]at hd;exact k2 _ v d hv hd
 exact hm.mono (aM.dC (n:=0) hF).F
def X1 (h:At lay p st O) (e:MF st op a b=aa d):zJ O (binaryOp op) (a.av p.oi) (b.av p.oi) d:=
 orE e (λe=>a9 e λx h1 e=>a9 e λy h2 e=>by rw[CV.kP h1,CV.kP h2];exact(Pu e).A)
  λe=>by let ⟨rfl,e⟩:=ME e;refine a9 e λl h1 e=>a9 e λm h2 e=> ?_;let ⟨hs,rfl⟩:=dT e;exact zJ.PB (h.ow h1) (h.ow h2) hs
def cS.bin (h1:cS S k lay l f) (h2:cS S k lay r g):cS S k lay (.BinOp l op r pos) (ba op f g):=by intro p O st v bc hf;let ⟨d,hd,rfl⟩:=ar.mp hf;exact a9 hd λa ha hd=>a9 hd λb hb hd=>Ev.Ew (h1 p O st _ bc ha) (h2 p O st _ bc hb) (X1 bc hd)
noncomputable def afo (op:wk) (o:Option Bool):Option Bool:=match op with
 | .Eq=>o
 | .NotEq=>o.map (!·)
 |_=>ac
def sT (st:St) (op:wk) (a b:CV):Option Bool:=
 (a.aP.bind λx=>b.aP.bind (TV op x)).or (afo op ((st.ow a).bind λl=>(st.ow b).bind (iH l)))
def zJ.eqL (h1:IsL O a l) (h2:IsL O b m) (h:iH l m=aa r):zJ O (compareOp .Eq) a b (PV.bool r)/\zJ O (compareOp .NotEq) a b (PV.bool (!r)):=by
 constructor
 ·intro S k A c s u v hA R ha hb E Q hQ;let ⟨x,vs,n,rfl,hx,e1,k1⟩:=h1.at R ha;let ⟨y,us,m',rfl,hy,e2,k2⟩:=h2.at R hb;have:=ug (A:=A) R.frozen hx hy e1 e2 k1 k2 h (hA.IV ∅);exact this.1 _ _ _ _ (hQ c _ _ (.refl ..) R (.refl ..) (.pv (.con ..)))
 ·intro S k A c s u v hA R ha hb E Q hQ;let ⟨x,vs,n,rfl,hx,e1,k1⟩:=h1.at R ha;let ⟨y,us,m',rfl,hy,e2,k2⟩:=h2.at R hb;have:=ug (A:=A) R.frozen hx hy e1 e2 k1 k2 h (hA.IV ∅);exact this.2 _ _ _ _ (hQ c _ _ (.refl ..) R (.refl ..) (.pv (.con ..)))
def z3 (h:At lay p st O) (e:sT st op a b=aa r):zJ O (compareOp op) (a.av p.oi) (b.av p.oi) (PV.bool r):=
 orE e (λe=>a9 e λx h1 e=>a9 e λy h2 e=>by rw[CV.kP h1,CV.kP h2];exact(TX e).A)
  λe=>by
   induction op with
   |Eq=>exact a9 e λl h1 e=>a9 e λm h2 e=>(zJ.eqL (h.ow h1) (h.ow h2) e).1
   |NotEq=>let ⟨r',e2,rfl⟩:=ar.mp e;exact a9 e2 λl h1 e=>a9 e λm h2 e=>(zJ.eqL (h.ow h1) (h.ow h2) e).2
   |_=>exact gq e
def bY (op:wk) (f g:St->Option CV) (st:St):Option Bool:=u7 f g st (sT st op)
def qA (f:St->Option Bool) (st:St):Option CV:=(f st).map λb=> .pv (PV.bool b)
def cS.cmp (h1:cS S k lay l f) (h2:cS S k lay r g) (hm:behindInMarks op r=false):cS S k lay (.Compare l [op] [r] pos) (qA (bY op f g)):=by intro p O st v bc hf;let ⟨x,hx,rfl⟩:=ar.mp hf;exact a9 hx λa ha hx=>a9 hx λb hb hx=>Ev.jq (h1 p O st _ bc ha) (h2 p O st _ bc hb) (z3 bc hx) hm
def AU.cmp (h1:cS S k lay l f) (h2:cS S k lay r g) (hm:behindInMarks op r=false):AU S k lay (.Compare l [op] [r] pos) (bY op f g):=
 λp O st v bc hf=>a9 hf λa ha hf=>a9 hf λb hb hf=>ou.jq (h1 p O st _ bc ha) (h2 p O st _ bc hb) (z3 bc hf) hm
end
local macro_rules (kind := coeFunNotation) | s => pure (wa (wi "Mine.jg") [wa (wi "Mine.PV.int") [s[1]]])
local macro_rules (kind := coeSortNotation) | s => pure (wa (wi "Mine.jg") [wa (wi "Mine.PV.str") [s[1]]])
section
variable {lay:Lay}
def Ex (S:cz) (k:Nat) (lay:Lay) (op:BoolOp) (es:List Expr) (f:St->Option Bool):Prop:=
 ∀p O st r,At lay p st O->f st=aa r->∀A c s env,jD k A->cY c ↑O (lay.en p) env->Rel S c O s.heap->
  ∀(E:VS) (Q:Bool->bb->Prop),(∀c' s',aM.le ↑O c c'->Rel S c' O s'.heap->dZ s s'->Q r s')->wpAny (MM S.w) A (allTrue op es env) Q E s
noncomputable def fG (_:St):Option Bool:=aa true
noncomputable def vy (_:St):Option Bool:=aa false
noncomputable def wQ (f g:St->Option Bool) (st:St):Option Bool:=(f st).bind λb=>cond b (g st) (aa false)
noncomputable def Gs (f g:St->Option Bool) (st:St):Option Bool:=(f st).bind λb=>cond b (aa true) (g st)
noncomputable def yk (f:St->Option Bool) (st:St):Option Bool:=(f st).map (!·)
def Ex.alq:Ex S k lay .Or [] vy:=λp O st r q hf A c s env q q R E Q hQ=>by obtain rfl:=ag hf;exact wpAny_allTrue_Or_nil (hQ c s (.refl ..) R (.refl ..))
def Ex.ahA (h1:AU S k lay x f) (h2:Ex S k lay .And rest g):Ex S k lay .And (x::rest) (wQ f g):=by
 intro p O st r bc hf A c s env hA hE R E Q hQ;refine a9 hf λb e hf=> ?_;refine wpAny_allTrue_And_cons (h1 p O st b bc e A c s env hA hE R _ _ λc1 s1 l1 R1 K1=> ?_);induction b with
 |true=>exact h2 p O st r bc hf A c1 s1 env hA (hE.mono l1 (ab _)) R1 E Q λc2 s2 l2 R2 K2=>hQ c2 s2 (l1.trans l2 (ab _)) R2 (K1.trans K2)
 |false=>obtain rfl:=ag hf;exact hQ c1 s1 l1 R1 K1
def Ex.ai8 (h1:AU S k lay x f) (h2:Ex S k lay .Or rest g):Ex S k lay .Or (x::rest) (Gs f g):=by
 intro p O st r bc hf A c s env hA hE R E Q hQ;refine a9 hf λb e hf=> ?_;refine wpAny_allTrue_Or_cons (h1 p O st b bc e A c s env hA hE R _ _ λc1 s1 l1 R1 K1=> ?_);induction b with
 |false=>exact h2 p O st r bc hf A c1 s1 env hA (hE.mono l1 (ab _)) R1 E Q λc2 s2 l2 R2 K2=>hQ c2 s2 (l1.trans l2 (ab _)) R2 (K1.trans K2)
 |true=>obtain rfl:=ag hf;exact hQ c1 s1 l1 R1 K1
def AU.boolOp (h:Ex S k lay op es f):AU S k lay (.BoolOp op es pos) f:=
 λp O st r bc hf A c s env hA hE R E Q hQ=>wpAny_isTrue_BoolOp (h p O st r bc hf A c s env hA hE R E Q hQ)
def AU.not (h:AU S k lay x f):AU S k lay (.UnaryOp .Not x pos) (yk f):=by intro p O st r bc hf A c s env hA hE R E Q hQ;unfold yk at hf;simp only[ar]at hf;left;let ⟨b,hf,rfl⟩:=hf;right;exact wpAny_isTrue_Not (h p O st b bc hf A c s env hA hE R _ _ hQ)
noncomputable def IW:CV->Option Bool
 | .pv (.con (.bool b))=>aa b
 |_=>ac
def ms (f:St->Option CV) (st:St):Option Bool:=(f st).bind IW
def rG (h:IW v=aa b):v= .pv (PV.bool b):=by
 induction v with
 |pv d=>cases d with
  |con u=>induction u with
   |bool c=>obtain rfl:=ag h;rfl
   |_=>exact gq h
  |_=>exact gq h
 |_=>exact gq h
def AU.val (h:cS S k lay e f) (he:∀env zH,isTrue e env zH=(do let v <- zH;standAt e.pos;holding [v] (truthy v))):AU S k lay e (ms f):=by intro p O st r bc hf A c s env hA hE R E Q hQ;unfold ms at hf;let ⟨v,hf,hv⟩:=aG.mp hf;have:=rG hv;subst this;refine sa ((h p O st _ bc hf).run A c s env hA hE R _ _ λc1 v1 s1 l1 R1 K1 a1=> ?_) (he _ _);have e:=a1.dn;subst e;exact gc (hQ c1 s1 l1 R1 K1)
def vz (o1 o2:wk) (f g h:St->Option CV) (st:St):Option Bool:=
 (f st).bind λa=>(g st).bind λb=>(h st).bind λd=>(sT st o1 a b).bind λx=>(sT st o2 b d).map λy=>x&&y
def AU.chain (h1:cS S k lay l f) (h2:cS S k lay r g) (h3:cS S k lay t h) (hm:lastMarks [o1,o2] [r,t]=false):AU S k lay (.Compare l [o1,o2] [r,t] pos) (vz o1 o2 f g h):=by
 intro p O st v bc hf A c s env hA hE R E Q hQ;refine a9 hf λa ha hf=>a9 hf λb hb hf=>a9 hf λd hd hf=>a9 hf λx hx hf=> ?_;let ⟨y,hy,rfl⟩:=ar.mp hf;refine PyProof.Rows.isTrue_chain ((h1 p O st _ bc ha).run A c s env hA hE R _ _ λc1 v1 s1 l1 R1 K1 a1=> ?_) hm;refine PyProof.Rows.test_link ((h2 p O st _ bc hb).run A c1 s1 env hA (hE.mono l1 (ab _)) R1 _ _ λc2 v2 s2 l2 R2 K2 a2=> ?_);refine z3 bc hx S k A c2 s2 v1 v2 hA R2 (a1.mono l2 (ab _)) a2 _ _ λc3 v3 s3 l3 R3 K3 a3=> ?_;have e:=a3.dn;subst e;refine gc ?_;have N4:=(l1.trans l2 (ab _)).trans l3 (ab _);have agc:=(K1.trans K2).trans K3;induction x with
 |false=>exact hQ c3 s3 N4 R3 agc
 |true=>refine PyProof.Rows.test_last ((h3 p O st _ bc hd).run A c3 s3 env hA (hE.mono N4 (ab _)) R3 _ _ λc4 v4 s4 l4 R4 K4 a4=> ?_);refine z3 bc hy S k A c4 s4 v2 v4 hA R4 ((a2.mono l3 (ab _)).mono l4 (ab _)) a4 _ _ λc5 v5 s5 l5 R5 K5 a5=> ?_;have e:=a5.dn;subst e;exact gc (hQ c5 s5 ((N4.trans l4 (ab _)).trans l5 (ab _)) R5 ((agc.trans K4).trans K5))
def MG (S:cz) (k:Nat) (lay:Lay) (es:List Expr) (f:St->Option Bool):Prop:=
 ∀p O st r,At lay p st O->f st=aa r->∀A c s env pos,jD k A->cY c ↑O (lay.en p) env->Rel S c O s.heap->
  ∀(E:VS) (Q:VS),(∀c' s',aM.le ↑O c c'->Rel S c' O s'.heap->dZ s s'->Q (.bool r) s')->wpAny (MM S.w) A (Ip pos .And (evalEach es env)) Q E s
def MG.one (h:cS S k lay x f):MG S k lay [x] (ms f):=by intro p O st r bc hf A c s env pos hA hE R E Q hQ;unfold ms at hf;let ⟨v,hf,hv⟩:=aG.mp hf;have:=rG hv;subst this;refine(h p O st _ bc hf).run A c s env hA hE R _ _ λc1 v1 s1 l1 R1 K1 a1=> ?_;have e:=a1.dn;subst e;exact hQ c1 s1 l1 R1 K1
def MG.cons (h:cS S k lay x f) (h2:MG S k lay (y::rest) g):MG S k lay (x::y::rest) (wQ (ms f) g):=by
 intro p O st r bc hf A c s env pos hA hE R E Q hQ;unfold wQ at hf;cases e:ms f st with
 |none=>rw[e]at hf;nomatch hf
 |some b=>
  rw[e]at hf;unfold ms at e;simp only[aG]at e;left;let ⟨v,hv,hb⟩:=e;have:=rG hb;right;subst this;show wpAny _ A (do
   let v <- eval x env
   standAt pos
   let t <- holding [v] (truthy v)
   match BoolOp.And,t with
   | .And,false| .Or,true=>pure v
   |_,_=>Ip pos .And (evalEach (y::rest) env)) Q E s
  refine am ((h p O st _ bc hv).run A c s env hA hE R _ _ λc1 v1 s1 l1 R1 K1 a1=> ?_);have e:=a1.dn;subst e;refine am (cV (am (dH (gc ?_))));induction b with
  |true=>exact h2 p O st r bc hf A c1 s1 env pos hA (hE.mono l1 (ab _)) R1 E Q λc2 s2 l2 R2 K2=>hQ c2 s2 (l1.trans l2 (ab _)) R2 (K1.trans K2)
  |false=>obtain rfl:=ag hf;exact aR (hQ c1 s1 l1 R1 K1)
def cS.and (h:MG S k lay es f):cS S k lay (.BoolOp .And es pos) (qA f):=by intro p O st v bc hf;unfold qA at hf;simp only[ar]at hf;let ⟨b,hf,rfl⟩:=hf;exact⟨ab _,λA c s env hA hE R E Q hQ=>h p O st b bc hf A c s env pos hA hE R E Q λc1 s1 l1 R1 K1=>hQ c1 _ s1 l1 R1 K1 (.pv (.con _))⟩
noncomputable def Lg (b:St->Option Bool) (f g:St->Option CV) (st:St):Option CV:=match b st with
 |some true=>f st
 |some false=>g st
 |ac=>ac
def cS.PC (h0:AU S k lay t b) (h1:cS S k lay x f) (h2:cS S k lay y g):cS S k lay (.IfExp t x y pos) (Lg b f g):=by
 intro p O st v bc hf;unfold Lg at hf;refine⟨ab _,λA c s env hA hE R E Q hQ=> ?_⟩;cases e:b st with
 |none=>rw[e]at hf;cases hf
 |some r=>
  rw[e]at hf;refine VD (h0 p O st r bc e A c s env hA hE R _ _ λc1 s1 l1 R1 K1=> ?_);induction r with
  |true=>exact(h1 p O st v bc hf).run A c1 s1 env hA (hE.mono l1 (ab _)) R1 E Q λc2 v2 s2 l2 R2 K2 a2=>hQ c2 v2 s2 (l1.trans l2 (ab _)) R2 (K1.trans K2) a2
  |false=>exact(h2 p O st v bc hf).run A c1 s1 env hA (hE.mono l1 (ab _)) R1 E Q λc2 v2 s2 l2 R2 K2 a2=>hQ c2 v2 s2 (l1.trans l2 (ab _)) R2 (K1.trans K2) a2
noncomputable def aZ (_:St):Option (List CV):=aa []
noncomputable def au (f:St->Option CV) (g:St->Option (List CV)) (st:St):Option (List CV):=(f st).bind λa=>(g st).map (a:: ·)
def pQ.nil:pQ S k lay [] aZ:=λp O st v q hf=>by obtain rfl:=ag hf;exact .nil
def pQ.cons (h1:cS S k lay x f) (h2:pQ S k lay rest g) (hn:notStar x=true):pQ S k lay (x::rest) (au f g):=by intro p O st v bc hf;refine a9 hf λa ha hf=> ?_;let ⟨l,hl,rfl⟩:=ar.mp hf;exact .cons (h1 p O st _ bc ha) (h2 p O st _ bc hl) hn
noncomputable def MH:List CV->Option (List PV)
 | []=>aa []
 | .pv d::l=>(MH l).map (d:: ·)
 |_::_=>ac
def TZ:∀ {l:List CV} {ds:List PV},MH l=aa ds->l=ds.map CV.pv:=by
 intro l;induction l with
 |nil=>intro ds h;obtain rfl:=ag h;rfl
 |cons a l ih=>
  intro ds h;induction a with
  |pv d=>let ⟨ds',h2,rfl⟩:=ar.mp h;rw[ih h2];rfl
  |_=>exact gq h
def wR {l : List CV} {ds : List PV} (h : MH l = aa ds) : l.map (CV.av oi) = ds.map AV.pv := by rw [TZ h, bC]; rfl
def jb (g:St->Option (List CV)) (st:St):Option CV:=((g st).bind MH).bind λl=>if ↑l<=1000 then ~~~(.tup l) else ac
def j7 (g:St->Option (List CV)) (st:St):Option CV:=((g st).bind MH).bind λl=>if ↑l<=1000 then ~~~(.lst l) else ac
def dg.WN {vs:Vs}:∀ {ds:List PV},dg w c n vs (ds.map AV.pv)-> ↑vs= ↑ds/\∀(i:Nat) (v:Value) (d:PV),vs[i]? =aa v->ds[i]? =aa d->dk w c.F v d:=by
 induction vs with
 |nil=>
  intro ds h;induction ds with
  |nil=>exact⟨rfl,λi v d h=>gq h⟩
  |cons d ds=>nomatch h
 |cons v vs ih=>
  intro ds h;induction ds with
  |nil=>nomatch h
  |cons d ds=>
   let ⟨_,_,q,a,b⟩:=h.i1;cases q;refine⟨congrArg (· +1) (ih b).1,λi v d h1 h2=> ?_⟩;induction i with
   |zero=>obtain rfl:=ag h1;obtain rfl:=ag h2;exact a.gh
   |succ i=>exact(ih b).2 i v d h1 h2
def Rel.PD {s:bb} (R:Rel S c O s.heap) {ds:List PV} (h:dg S.w c ↑O vs (ds.map AV.pv)):
  Rel S (c.put s.heap.objs.size {cls:= .type T,data:= .seq vs.toArray}) O (s.heap.push {cls:= .type T,data:= .seq vs.toArray})/\vs.toArray.size= ↑ds/\
   ∀(i:Nat) (v:Value) (d:PV),vs.toArray[i]? =aa v->ds[i]? =aa d->dk S.w (c.put s.heap.objs.size {cls:= .type T,data:= .seq vs.toArray}).F v d:=by
 let ⟨p,q⟩:=h.WN;refine⟨R.sS,by rw[SW];exact p,λi v d h1 h2=> ?_⟩;exact(q i v d (by simpa using h1) h2).mono (aM.dC (n:=0) (R.oq (ab _))).F
def cS.tup (h:pQ S k lay es g):cS S k lay (.Tuple es n pos) (jb g):=by
 intro p O st v bc hf;refine a9 hf λds hl hf=>a9 hl λl hl hd=> ?_;let ⟨hsz,rfl⟩:=dT hf;have hh:=h p O st _ bc hl;rw[wR hd]at hh;refine⟨ab _,λA c s env hA hE R E Q hQ=> ?_⟩;refine sJ (mE hh pos A c s env hA hE R _ _ λc1 vs s1 l1 R1 K1 a1=>⟨?_,?_⟩)
 ·rw[↑a1,aw];exact XN hsz rfl
 ·let ⟨R2,hs,hr⟩:=R1.PD (T:= "tuple") a1;exact hQ _ _ _ (l1.trans (aM.dC (R1.oq (ab _))) (ab _)) R2 (K1.trans (.gF ..)) (.pv (.tup (if_pos rfl) hs hr))
def cS.lst (h:pQ S k lay es g):cS S k lay (.List es pos) (j7 g):=by
 intro p O st v bc hf;refine a9 hf λds hl hf=>a9 hl λl hl hd=> ?_;let ⟨hsz,rfl⟩:=dT hf;have hh:=h p O st _ bc hl;rw[wR hd]at hh;refine⟨ab _,λA c s env hA hE R E Q hQ=> ?_⟩;refine wpAny_List (mE hh pos A c s env hA hE R _ _ λc1 vs s1 l1 R1 K1 a1=>⟨?_,?_⟩)
 ·rw[↑a1,aw];exact XN hsz rfl
 ·let ⟨R2,hs,hr⟩:=R1.PD (T:= "list") a1;exact hQ _ _ _ (l1.trans (aM.dC (R1.oq (ab _))) (ab _)) R2 (K1.trans (.gF ..)) (.pv (.lst (if_pos rfl) hs hr))
end
inductive S6 (O:List AO):AV->List (Str×PV)->Prop
 |val {l:List (Str×PV)}:S6 O (.pv (.oK l)) l
 |fM {i:Nat} {l:List (Str×PV)}:O[i]? =aa (.dict l)->S6 O (.fM i) l
inductive jM (w:jB) (F:Addr->Option Obj):List eL->List (Str×PV)->List (Str×Value)->Prop
 |nil:jM w F [] [] []
 |cons {e:eL} {k:Str} {d:PV} {es:List eL} {l:List (Str×PV)} {kvs:List (Str×Value)}:e.hash=hashStr w k->(∃t,e.key= .str k t)->dk w F e.val d->jM w F es l kvs->jM w F (e::es) ((k,d)::l) ((k,e.val)::kvs)
def jM.of {es:List eL} {l:List (Str×PV)} (h: ↑es= ↑l)
  (h1:∀(i:Nat) (e:eL) (k:Str) (d:PV),es[i]? =aa e->l[i]? =aa (k,d)->e.hash=hashStr w k/\∃t,e.key= .str k t)
  (h2:∀(i:Nat) (e:eL) (k:Str) (d:PV),es[i]? =aa e->l[i]? =aa (k,d)->dk w F e.val d):∃kvs,jM w F es l kvs:=by
 replace h:=S3.of h;induction h with
 |nil=>exact⟨[],.nil⟩
 |cons e q _ ih=>let ⟨kvs,hk⟩:=ih (λi e k d a b=>h1 (i+1) e k d a b) λi e k d a b=>h2 (i+1) e k d a b;let ⟨k,d⟩:=q;let ⟨a,b⟩:=h1 0 e k d rfl rfl;exact⟨_,.cons a b (h2 0 e k d rfl rfl) hk⟩
def jM.keys (h:jM w F es l kvs):kvs.map (·.1)=l.map (·.1):=by
 induction h with
 |nil=>rfl
 |cons _ _ _ _ ih=>rw[bx,bx,ih]
def jM.pairs (h:jM w F es l kvs):Pairs (strKind pw w) es kvs/\∀e∈es,∃k,(strKind pw w).is k e.key=true/\e.hash=(strKind pw w).hash k:=by
 induction h with
 |nil=>exact⟨.nil,λe he=>by cases he⟩
 | @cons e k d es l kvs a b _ _ ih=>
  obtain(⟨t,ht⟩):=b;have hk:(strKind pw w).is k e.key=true:=by exact ht▸(beq_self_eq_true k)
  refine⟨.cons hk rfl ih.1,λe' he=> ?_⟩;rcases aH.mp he with h|h
  ·subst h;exact⟨k,hk,a⟩
  ·exact ih.2 e' h
def jM.dictOf {h:iQ} (hp:jM w F es.toList l kvs) (ho:h.get? a=aa {cls:= .type "dict",data:= .dict es n}) (nd:(l.map (·.1)).Nodup):
  h.DictAt (strKind pw w) a kvs n:=⟨_,es,ho,⟨rfl,rfl,rfl⟩,rfl,λe he=>hp.pairs.2 e (u5.mpr he),hp.pairs.1,by rw[hp.keys];exact nd⟩
def mG {h:iQ} (x:h.DictAt (strKind pw w) a kvs n):h.DictOf (strKind pw w) a kvs:=xe21 (x) λo es r=>⟨o,es,n,r⟩
def jM.get (h:jM w F es l kvs) {k:Str} (hl:l.lookup k=aa d):∃v,valueAt kvs k=aa v/\dk w F v d:=by
 induction h with
 |nil=>nomatch hl
 | @cons e k' d' es l kvs a b hv _ ih=>
  rw[di]at hl;by_cases hk:k=k'
  ·subst hk;rw[beq_self_eq_true]at hl;obtain rfl:=ag hl;exact⟨e.val,by unfold valueAt;simp,hv⟩
  ·rw[beq_false_of_ne hk]at hl;let ⟨v,h1,h2⟩:=ih hl;refine⟨v,?_,h2⟩;unfold valueAt at h1⊢;rw[List.find?_cons];simp only[decide_eq_true_eq];rw[decide_eq_false (λe=>hk e.symm)];exact h1
def S6.at (hl:S6 O d l) (R:Rel S c O h) (hv:cT S.w c ↑O v d):
  ∃a es n kvs,v= .ref a/\(a==sysModules)=false/\h.get? a=aa {cls:= .type "dict",data:= .dict es n}/\(l.map (·.1)).Nodup/\jM S.w c.F es.toList l kvs:=by
 have key:∀(es:Array eL),es.size= ↑l->(∀(i:Nat) (e:eL) (k:Str) (d:PV),es[i]? =aa e->l[i]? =aa (k,d)->e.hash=hashStr S.w k/\∃t,e.key= .str k t)->
   (∀(i:Nat) (e:eL) (k:Str) (d:PV),es[i]? =aa e->l[i]? =aa (k,d)->dk S.w c.F e.val d)->∃kvs,jM S.w c.F es.toList l kvs:=λes a b d=>
  jM.of (bz▸a) (λi e k x h1 h2=>b i e k x (by rw[<- fR];exact h1) h2) (λi e k x h1 h2=>d i e k x (by rw[<- fR];exact h1) h2)
 induction hl with
 |val=>let ⟨_,_,rfl,hm,a,_,_,rfl,b,nd,d,e⟩:=hv.gh.XX;obtain(⟨kvs,hk⟩):=key _ b d e;exact⟨_,_,_,kvs,rfl,hm,R.frozen _ _ a,nd,hk⟩
 |fM hi=>obtain(⟨rfl,kR⟩):=hv.zI;obtain(⟨o,ho,hr⟩):=R.own _ _ hi;let ⟨_,_,rfl,a,nd,b,d⟩:=hr.Po;obtain(⟨kvs,hk⟩):=key _ a b d;exact⟨_,_,_,kvs,rfl,R.KV kR,ho,nd,hk⟩
section
variable {lay:Lay}
noncomputable def diO:Option CO->Option (List (Str×PV))
 |some (.dict l)=>aa l
 |_=>ac
def T1 (h:diO a=aa l):a=aa (.dict l):=by
 induction a with
 |none=>exact gq h
 |some o=>induction o with
  |dict m=>obtain rfl:=ag h;rfl
  |_=>exact gq h
def St.WO (st:St):CV->Option (List (Str×PV))
 | .ob j=>diO st.ob[j]?
 |v=>v.aDc
def At.WO (h:At lay p st O) (e:st.WO v=aa l):S6 O (v.av p.oi) l:=by
 induction v with
 |pv d=>rw[CV.kDc (v:= .pv d) e];exact .val
 |ob j=>exact .fM (h.obs _ _ (T1 e))
 |inst j=>exact gq e
def Ey {α:Type} [Decidable p] {x:Option α} {y:α} (h:(if p then x else ac)=aa y):p/\x=aa y:=by
 by_cases q:p
 ·rw[if_pos q]at h;exact⟨q,h⟩
 ·rw[if_neg q]at h;exact gq h
def Lh (st:St) (o:CV) (m:Nat):Option PV:=match o.aT with
 |some l=>l[m]?
 |none=>match o.aS with
  |some x=>(x.cps[m]?).map λch=> .str ⟨#[ch]⟩
  |none=>(st.ow o).bind (·[m]?)
def nV (st:St) (o i:CV):Option PV:=match i.aI with
 |some n=>if 0<=n/\n<2 ^ 63 then Lh st o n.toNat else ac
 |none=>i.aS.bind λk=>(st.WO o).bind (·.lookup k)
def bk (f g:St->Option CV) (st:St):Option CV:=(u7 f g st (nV st)).map .pv
def Ev.afp (h1:Ev S k O ae o a O) (h2:Ev S k O ae i b O)
  (hg:∀A c s u v,jD k A->Rel S c O s.heap->cT S.w c ↑O u a->cT S.w c ↑O v b->∃T id,s.TypeIs u T/\typeLookup (.type T) "__getitem__" =pure (aa (.builtin id))/\Tr S O A c s (getItem u v) (.pv x) O)
  (hs:∀u v,subscripted i false u v=operate [u,v] (getItem u v)):nH S k O ae (.Subscript o i pos) x:=by
 refine⟨ab _,?_⟩;intro A c s env hA hE R E Q hQ;refine pL (h1.run A c s env hA hE R _ _ λc1 v1 s1 l1 R1 K1 a1=>h2.run A c1 s1 env hA (hE.mono l1 (ab _)) R1 _ _ λc2 v2 s2 l2 R2 K2 a2=> ?_);left;let ⟨T,id,hT,hl,ht⟩:=hg A c2 s2 v1 v2 hA R2 (a1.mono l2 (ab _)) a2;right;exact lR hT hl (ht E Q λc3 v3 s3 l3 R3 K3 a3=>hQ c3 v3 s3 ((l1.trans l2 (ab _)).trans l3 (ab _)) R3 ((K1.trans K2).trans K3) a3) (hs _ _)
def PE (bc:At lay p st O) (h:nV st o i=aa x) (hA:jD k A) (R:Rel S c O s.heap)
  (hu:cT S.w c ↑O u (o.av p.oi)) (hv:cT S.w c ↑O v (i.av p.oi)):∃T id,s.TypeIs u T/\typeLookup (.type T) "__getitem__" =pure (aa (.builtin id))/\Tr S O A c s (getItem u v) (.pv x) O:=by
 unfold nV at h;cases e:i.aI with
 |some n=>
  rw[e]at h;rw[CV.kI e]at hv;let ⟨hn,h⟩:=Ey h;have vU:=hv.gh;let ⟨_,rfl⟩:=vU.kH;unfold Lh at h;cases e2:o.aT with
  |some l=>rw[e2]at h;rw[CV.kT e2]at hu;have L8:=hu.gh;let ⟨_,_,_,rfl,a,b,d⟩:=L8.En;let ⟨y,hy⟩:=uf b h;have kR:=(iS.mp hy).1;refine⟨"tuple",_,⟨_,R.frozen _ _ a,rfl⟩,F.slot_tuple_getitem.lookup,λE Q hQ=> ?_⟩;exact PyProof.Rows.getItem_tuple ⟨_,R.frozen _ _ a,rfl,_,rfl⟩ (ais hn) hn.2 (VE hn.1 (aaP kR)) hy (hQ c _ _ (.refl ..) R (.refl ..) (.pv (d _ _ _ hy h)))
  |none=>
   rw[e2]at h;cases e3:o.aS with
   |some z=>
    rw[e3]at h;rw[CV.kS e3]at hu;have L8:=hu.gh;let ⟨_,rfl⟩:=L8.mD;let ⟨ch,hc,rfl⟩:=ar.mp h;have ajD:n< ↑z:=by show n< (z.cps.size:Int);exact aaP ((iS.mp hc).1)
    refine⟨"str",_,sd ..,F.slot_str_getitem.lookup,λE Q hQ=> ?_⟩;refine PyProof.Rows.getItem_str (c:=ch) ?_ ?_ (hQ c _ _ (.refl ..) R (.toks ..) (.pv (.str ..)))
    ·simp;exact ait hn
    ·exact(VE hn.1 ajD)▸hc
   |none=>rw[e3]at h;refine a9 h λl hl h=> ?_;let ⟨a,vs,m,rfl,ho,qa,hr⟩:=(bc.ow hl).at R hu;let ⟨y,hy⟩:=uf qa h;refine⟨"list",_,⟨_,ho,rfl⟩,C5.lookup,λE Q hQ=> ?_⟩;exact wpAny_getItem_list (IsL.isList ho) hn.1 hn.2 hy (hQ c _ _ (.refl ..) R (.refl ..) (.pv (hr _ _ _ hy h)))
 |none=>rw[e]at h;refine a9 h λkk e2 h=>a9 h λl hl h=> ?_;rw[CV.kS e2]at hv;have vU:=hv.gh;let ⟨_,rfl⟩:=vU.mD;let ⟨a,es,n,kvs,rfl,_,ho,nd,hp⟩:=(bc.WO hl).at R hu;have hm:=(mG (hp.dictOf ho nd)).mapOf;let ⟨y,hy,hyv⟩:=hp.get h;refine⟨"dict",_,hm.typeIs,slot_dict_getitem.lookup,λE Q hQ=> ?_⟩;exact wpAny_getItem_of (knd:=strKind pw S.w) (k:=kk) (beq_self_eq_true kk) hm hy (hQ c _ _ (.refl ..) R (.toks ..) (.pv hyv))
def MI:(λu v=>operate [u,v] (getItem u v))=λu v=>operate [u,v] (getItem u v):=rfl
def cS.item (h1:cS S k lay o f) (h2:cS S k lay i g) (hs:subscripted i false=λu v=>operate [u,v] (getItem u v)):cS S k lay (.Subscript o i pos) (bk f g):=by intro p O st v bc hf;let ⟨x,hx,rfl⟩:=ar.mp hf;exact a9 hx λa ha hx=>a9 hx λb hb hx=>Ev.afp (h1 p O st _ bc ha) (h2 p O st _ bc hb) (λA c s u v hA R hu hv=>PE bc hx hA R hu hv) λu v=>congrFun (congrFun hs u) v
end
section
variable {lay:Lay}
noncomputable def cO {α:Type} (l:List α) (lo hi st:Option Int):List α:=(sliceRange (sliceBounds lo hi st ↑l).1 (sliceBounds lo hi st ↑l).2.1 (sliceBounds lo hi st ↑l).2.2).filterMap (l[·]?)
def Gu {vs:Array Value} {l:List PV} (e:vs.size= ↑l) (hr:∀(i:Nat) (v:Value) (d:PV),vs[i]? =aa v->l[i]? =aa d->dk w F v d):
  ∀(is:Nz),↑(is.filterMap (vs[·]?))= ↑(is.filterMap (l[·]?))/\∀(i:Nat) (v:Value) (d:PV),(is.filterMap (vs[·]?))[i]? =aa v->(is.filterMap (l[·]?))[i]? =aa d->dk w F v d:=by
 intro is;induction is with
 |nil=>exact⟨rfl,λi v d h=>gq h⟩
 |cons j is ih=>
  let ⟨p,q⟩:=ih;rcases bS j vs.size with h|h
  ·have h1:vs[j]? =aa vs[j]:=by simp[h]
   have h2:l[j]? =aa (l[j]'(IO h e)):=aq (IO h e);rw[lK (b:=vs[j]) h1,lK (b:=l[j]'(IO h e)) h2];refine⟨by rw[az,az,p],λi v d a b=> ?_⟩;induction i with
   |zero=>obtain rfl:=ag a;obtain rfl:=ag b;exact hr j _ _ h1 h2
   |succ i=>exact q i v d a b
  ·have h1:vs[j]? =ac:=by simp;exact aaQ h
   have h2:l[j]? =ac:=bB (aiu e h);rw[lL h1,lL h2];exact⟨p,q⟩
def X2 (S:cz) (k:Nat) (lay:Lay) (o:Option Expr) (f:St->Option (Option Int)):Prop:=
 ∀p O st v,At lay p st O->f st=aa v->∀A c s env,jD k A->cY c ↑O (lay.en p) env->Rel S c O s.heap->
  ∀(E:VS) (Q:VS),(∀c' (u:Option (Int×C6)) s',aM.le ↑O c c'->Rel S c' O s'.heap->dZ s s'->u.map (·.1)=v->Q (partValue u) s')->wpAny (MM S.w) A (evalPart o env) Q E s
noncomputable def eD (_:St):Option (Option Int):=aa ac
def gV (f:St->Option CV) (st:St):Option (Option Int):=((f st).bind CV.aI).map aa
def X2.none:X2 S k lay ac eD:=λp O st v q hf A c s env q q R E Q hQ=>by obtain rfl:=ag hf;exact evalPart_none_step (hQ c ac s (.refl ..) R (.refl ..) rfl)
def X2.some (h:cS S k lay e f):X2 S k lay (aa e) (gV f):=λp O st v bc hf A c s env hA hE R E Q hQ=>by let ⟨n,hn,rfl⟩:=ar.mp hf;refine a9 hn λq hn e=> ?_;rw[CV.kI e]at hn;refine evalPart_some_step ((h p O st _ bc hn).run A c s env hA hE R _ _ λc1 v1 s1 l1 R1 K1 a1=> ?_);have Kb:=a1.gh;let ⟨t,rfl⟩:=Kb.kH;exact hQ c1 (aa (n,t)) s1 l1 R1 K1 rfl
def pb (st:St) (o:CV) (lo hi step:Option Int):Option PV:=
 (o.aS.bind λx=>if step=ac/\ ↑x<=sizeLine then aa (.str (lh x lo hi)) else ac).or
  ((st.ow o).bind λl=>if ↑l<=sizeLine/\step≠aa 0 then aa (.lst (cO l lo hi step)) else ac)
def fN (f:St->Option CV) (lo hi step:St->Option (Option Int)) (st:St):Option CV:=
 (f st).bind λo=>(lo st).bind λa=>(hi st).bind λb=>(step st).bind λd=>(pb st o a b d).map .pv
def sU (u:Option (Int×C6)):IsPart (partValue u) (u.map (·.1)):=by
 induction u with
 |none=>exact .none
 |some x=>exact .int x.1 x.2
def cS.slice {lo hi step:Option Expr} (h:cS S k lay gQ f) (hl:X2 S k lay lo fl) (hh:X2 S k lay hi fh) (hs:X2 S k lay step fs):
  cS S k lay (.Subscript gQ (.Slice lo hi step q) pos) (fN f fl fh fs):=by
 intro p O st v bc hf;refine a9 hf λo ho hf=>a9 hf λa ha hf=>a9 hf λb hb hf=>a9 hf λd hd hf=> ?_;let ⟨x,hx,rfl⟩:=ar.mp hf;refine⟨ab _,λA c s env hA hE R E Q hQ=> ?_⟩;refine pL ((h p O st _ bc ho).run A c s env hA hE R _ _ λc1 v1 s1 l1 R1 K1 a1=> ?_);refine wpAny_Slice (hl p O st _ bc ha A c1 s1 env hA (hE.mono l1 (ab _)) R1 _ _ λc2 u2 s2 l2 R2 K2 e2=> ?_);have uG:=l1.trans l2 (ab _);refine hh p O st _ bc hb A c2 s2 env hA (hE.mono uG (ab _)) R2 _ _ λc3 u3 s3 l3 R3 K3 e3=> ?_;have N4:=uG.trans l3 (ab _);refine hs p O st _ bc hd A c3 s3 env hA (hE.mono N4 (ab _)) R3 _ _ λc4 u4 s4 l4 R4 K4 e4=> ?_;have a4:=((a1.mono l2 (ab _)).mono l3 (ab _)).mono l4 (ab _);have C0:∀(u v:Value),∃ops,subscripted (.Slice lo hi step q) false u v=operate ops (getItem u v):=by
  intro u v;induction step with
  |none=>exact⟨_,rfl⟩
  |some e=>exact⟨_,rfl⟩
 let ⟨ops,agd⟩:=C0 v1 (.ref s4.heap.objs.size);have K4':=((K1.trans K2).trans K3).trans K4;have W8:=N4.trans l4 (ab _);have R5:Rel S c4 O (s4.heap.push {cls:= .type "slice",data:= .fields #[partValue u2,partValue u3,partValue u4]}):=R4.ext λb o e=>aJ _ e;refine orE hx (λhx=>a9 hx λz e hx=> ?_) λhx=>a9 hx λl hl' hx=> ?_
 ·obtain rfl:=CV.kS e;let ⟨hz,rfl⟩:=dT hx;have a4':=a4.gh;let ⟨t,rfl⟩:=a4'.mD;let ⟨rp,cH⟩:=hz;subst rp;have:u4=ac:=by simpa using e4
  subst this;refine lR (T:= "str") (sd ..) F.slot_str_getitem.lookup ?_ agd;refine wpAny_getItem_str_slice (l:=u2) (u:=u3) (st:=ac) ⟨_,aV _ rfl,rfl,rfl⟩ rfl ?_;rw[<- e2,<- e3]at hQ;exact post_val_or_str ⟨aA (Txt.slice_le z _ _) cH,λt' kk=>hQ c4 _ _ W8 R5 (K4'.trans (.heap ..)) (.pv (.str ..))⟩
 ·let ⟨hz,rfl⟩:=dT hx;left;let ⟨cH,rp⟩:=hz;let ⟨ad,vs,m,rfl,rZ,qa,hr⟩:=(bc.ow hl').at R5 a4;right;refine lR (T:= "list") ⟨_,rZ,rfl⟩ C5.lookup ?_ agd;refine wpAny_getItem_list_slice (IsL.isList rZ) (Heap.IsSliceOf.new ..) (sU _) (sU _) (sU _) (by rw[e4];exact rp) ?_ (qa▸cH);rw[e2,e3,e4];have hF:=R5.oq (ab _);refine hQ _ _ _ (W8.trans (aM.dC hF) (ab _)) (Rel.sS (s:= {s4 with heap:=_}) R5) (K4'.trans (.gF ..)) (.pv (.lst (vs:=slicePick vs _ _ _) (if_pos rfl) ?_ λi v d' hv Av=> ?_))
  ·have:=(Gu qa hr (sliceRange (sliceBounds a b d ↑l).1 (sliceBounds a b d ↑l).2.1 (sliceBounds a b d ↑l).2.2)).1;unfold slicePick cO;rw[SW,qa];exact this
  ·have:=(Gu qa hr (sliceRange (sliceBounds a b d ↑l).1 (sliceBounds a b d ↑l).2.1 (sliceBounds a b d ↑l).2.2)).2 i v d';unfold slicePick at hv;rw[List.getElem?_toArray,qa]at hv;exact(this hv Av).mono (aM.dC (n:=0) hF).F
end
structure nk (S:cz) (k:Nat) (O:List AO) (fv:Value) (ds:List AV) (d:AV) (bv:List AO):Prop where
 len: ↑O<= ↑bv
 run:∀A c s vs,jD k A->Rel S c O s.heap->dg S.w c ↑O vs ds->Tr S O A c s (call fv vs) d bv
def Ev.PF (Kc:(∃id,fv= .builtin id)\/∃T,fv= .type T)
  (hf:nH S k O ae (.Name f np) (.con fv)) (ha:ck S k O ae args ds) (hc:nk S k O fv ds d bv):Ev S k O ae (.Call (.Name f np) args [] pos) d bv:=by
 refine⟨hc.len,?_⟩;intro A c s env hA hE R E Q hQ;refine cn (hf.run A c s env hA hE R _ _ λc1 v1 s1 l1 R1 K1 a1=> ?_);rw[a1.dn];have fin:wpAny (MM S.w) A (evalArgs fv true (backTo pos (starEach args env)) []) (λa eG=>wpAny (MM S.w) A (call fv ([]++a.pos) a.kw) Q E eG) E s1:=by refine eg ha _ pos A c1 s1 env hA (hE.mono l1 (ab _)) R1 _ _ λc2 vs s2 l2 R2 K2 a2=> ?_;exact hc.run A c2 s2 vs hA R2 a2 E Q λc3 v3 s3 l3 R3 K3 a3=>hQ c3 v3 s3 ((l1.trans l2 (ab _)).trans l3 (ab _)) R3 ((K1.trans K2).trans K3) a3
 rcases Kc with⟨id,e'⟩|⟨T,e'⟩
 ·rw[e']at fin⊢;exact cX (noStar ha pos env) fin
 ·rw[e']at fin⊢;exact ed (noStar ha pos env) fin
section
variable {lay:Lay}
def fA (S:cz) (k:Nat) (fv:Value) (g:St->List CV->Option CV):Prop:=
 ∀(lay:Lay) (p:Iz) (O:List AO) (st:St) (ds:List CV) (v:CV),At lay p st O->g st ds=aa v->nk S k O fv (ds.map (CV.av p.oi)) (v.av p.oi) O
noncomputable def dJ (g:St->List CV->Option CV) (fa:St->Option (List CV)) (st:St):Option CV:=(fa st).bind (g st)
def cS.call (hc:fA S k fv g) (Kc:(∃id,fv= .builtin id)\/∃T,fv= .type T)
  (h:lay.me f=true) (hg:(f,ac)∈cg) (hb:(f,aa fv)∈lu) (ha:pQ S k lay args fa):cS S k lay (.Call (.Name f np) args [] pos) (dJ g fa):=by
 intro p O st v bc hf;unfold dJ at hf;let ⟨ds,hd,hv⟩:=aG.mp hf;exact Ev.PF Kc (Ev.PA h hg hb) (ha p O st _ bc hd) (hc lay p O st ds v bc hv)
noncomputable def one (F:CV->Option CV):List CV->Option CV
 | []=>ac
 | [v]=>F v
 |_::_::_=>ac
def ui (h:one F ds=aa v):∃x,ds=[x]/\F x=aa v:=by
 cases ds with
 |nil=>exact gq h
 |cons x l=>induction l with
  |nil=>exact⟨x,rfl,h⟩
  |cons=>exact gq h
def km (st:St):List CV->Option CV:=one λv=>match v.aS with
 |some x=>if ↑x<=sizeLine then ~~~(.int ↑x) else ac
 |none=>(st.ow v).bind λl=>if ↑l<=sizeLine then ~~~(.int ↑l) else ac
def AY (h:n<=sizeLine):(n:Int)<2 ^ 63:=by have:sizeLine=2 ^ 24:=rfl;exact aiv h this
def fA.len:fA S k (.builtin "len") km:=by
 intro lay p O st ds v bc h;have q:=ui h;clear h;let ⟨x,rfl,h⟩:=q;cases e:x.aS with
 |some x=>rw[e]at h;obtain rfl:=CV.kS e;let ⟨hs,rfl⟩:=dT h;refine⟨ab _,λA c s vs hA R ha E Q hQ=> ?_⟩;let ⟨_,_,rfl,a,b⟩:=ha.i1;obtain rfl:=b.i0;have a':=a.gh;let ⟨_,rfl⟩:=a'.mD;exact PyProof.Rows.len_str (by have:=AY hs;exact aiw this) (hQ c _ _ (.refl ..) R (.toks ..) (.pv (.int ..)))
 |none=>rw[e]at h;let ⟨l,hl,h⟩:=aG.mp h;let ⟨hs,rfl⟩:=dT h;have:=y8.len_list (S:=S) (k:=k) (bc.ow hl) (AY hs);exact⟨this.len,this.run⟩
noncomputable def jN:List PV->Option (List Int)
 | []=>aa []
 | .int n::l=>(jN l).map (n:: ·)
 |_::_=>ac
def pe (ns:List Int):jN (ns.map PV.int)=aa ns:=by
 induction ns with
 |nil=>rfl
 |cons n ns ih=>rw[bx];show(jN _).map _=_;rw[ih];rfl
def Ez {vs:Vs} {l:List PV} {ns:List Int} (h:jN l=aa ns) (hl: ↑vs= ↑l) (hr:∀(i:Nat) (v:Value) (d:PV),vs[i]? =aa v->l[i]? =aa d->dk w F v d):
  ∃xs:List (Int×C6),vs=xs.map (λp=> .int p.1 p.2)/\xs.map (·.1)=ns:=by
 replace hl:=S3.of hl;induction hl generalizing ns with
 |nil=>obtain rfl:=ag h;exact⟨[],rfl,rfl⟩
 |cons v d _ ih=>
  cases d with
  |int n=>let ⟨ns',h2,rfl⟩:=ar.mp h;let ⟨xs,e1,e2⟩:=ih h2 λi v d a b=>hr (i+1) v d a b;let ⟨t,e⟩:=(hr 0 v _ rfl rfl).kH;exact⟨(n,t)::xs,by rw[e,e1];rfl,by rw[<- e2];rfl⟩
  |_=>exact gq h
def IsL.ints (hl:IsL O d l) (R:Rel S c O h) (hv:cT S.w c ↑O v d) (hn:jN l=aa ns):
  ∃a xs,v= .ref a/\h.IsList a (intItems xs)/\xs.toList.map (·.1)=ns:=by
 left;let ⟨a,vs,n,rfl,ho,hs,hr⟩:=hl.at R hv;let ⟨xs,h1,h2⟩:=Ez hn (bz▸hs) (dk.TU hr);right;refine⟨a,xs.toArray,rfl,?_,h2⟩;have:vs=intItems xs.toArray:=by apply Array.ext';rw[h1];simp[intItems]
 exact this▸IsL.isList ho
def MJ (st:St):List CV->Option CV:=one λv=>(st.ow v).bind λl=>(jN l).map λns=> .pv (.int ns.sum)
def fA.sum:fA S k (.builtin "sum") MJ:=by intro lay p O st ds v bc h;have q:=ui h;clear h;let ⟨x,rfl,h⟩:=q;let ⟨l,hl,h⟩:=aG.mp h;let ⟨ns,hn,rfl⟩:=ar.mp h;refine⟨ab _,λA c s vs hA R ha E Q hQ=> ?_⟩;let ⟨_,_,rfl,a,b⟩:=ha.i1;obtain rfl:=b.i0;let ⟨ad,xs,rfl,hI,rfl⟩:=(bc.ow hl).ints R a hn;refine sum_intListG hA.hn hI λh' tk t' hk=> ?_;rw[(by rw[preSum_eq,eP (by simp)]:preSum (numAt xs) xs.size=(xs.toList.map (·.1)).sum)];exact hQ c _ _ (.refl ..) (R.ext hk) (.heap ..) (.pv (.int ..))
noncomputable def T2 (a b:UInt64):UInt64:=if dK a b==aa nc then b else a
noncomputable def T3 (a b:UInt64):UInt64:=if dK b a==aa nc then b else a
noncomputable def MK:List Int->Option Int
 | []=>ac
 |n::r=>aa (r.foldl max n)
noncomputable def afq:List Int->Option Int
 | []=>ac
 |n::r=>aa (r.foldl min n)
def sW (l:List Int) (n:Int):(l.foldl max n=n\/l.foldl max n∈l)/\n<=l.foldl max n/\∀a∈l,a<=l.foldl max n:=by
 induction l generalizing n with
 |nil=>exact⟨.inl rfl,v8 _,λa ha=>by cases ha⟩
 |cons b l ih=>
  let ⟨p,q,r⟩:=ih (max n b);rw[jf];refine⟨?_,by exact aix q,λa ha=> ?_⟩
  ·rcases p with p|p
   ·rw[p];rcases Int.le_total n b with h|h
    ·exact .inr (by rw[VM h];exact ay)
    ·exact .inl (Xz h)
   ·exact .inr (aK _ p)
  ·rcases aH.mp ha with h|h
   ·subst h;exact aiy q
   ·exact r a h
def AZ (l:List Int) (n:Int):(l.foldl min n=n\/l.foldl min n∈l)/\l.foldl min n<=n/\∀a∈l,l.foldl min n<=a:=by
 induction l generalizing n with
 |nil=>exact⟨.inl rfl,v8 _,λa ha=>by cases ha⟩
 |cons b l ih=>
  let ⟨p,q,r⟩:=ih (min n b);rw[jf];refine⟨?_,by exact aiz q,λa ha=> ?_⟩
  ·rcases p with p|p
   ·rw[p];rcases Int.le_total n b with h|h
    ·exact .inl (Xy h)
    ·exact .inr (by rw[VL h];exact ay)
   ·exact .inr (aK _ p)
  ·rcases aH.mp ha with h|h
   ·subst h;exact aiA q
   ·exact r a h
def Dk (h:MK l=aa M):M∈l/\∀a∈l,a<=M:=by
 cases l with
 |nil=>nomatch h
 |cons n r=>
  obtain rfl:=ag h;let ⟨p,q,t⟩:=sW r n;refine⟨?_,λa ha=> ?_⟩
  ·rcases p with p|p
   ·rw[p];exact ay
   ·exact aK _ p
  ·rcases aH.mp ha with h|h
   ·subst h;exact q
   ·exact t a h
def ML (h:afq l=aa M):M∈l/\∀a∈l,M<=a:=by
 cases l with
 |nil=>nomatch h
 |cons n r=>
  obtain rfl:=ag h;let ⟨p,q,t⟩:=AZ r n;refine⟨?_,λa ha=> ?_⟩
  ·rcases p with p|p
   ·rw[p];exact ay
   ·exact aK _ p
  ·rcases aH.mp ha with h|h
   ·subst h;exact q
   ·exact t a h
def Dl (hi:i<xs.size):(xs.toList.map (·.1))[i]? =aa (numAt xs i):=by simp[numAt,hi]
def Dm (hi:i<xs.size):numAt xs i∈xs.toList.map (·.1):=bo (Dl hi)
def Dn (h:a∈xs.toList.map (·.1)):∃i,i<xs.size/\numAt xs i=a:=by
 let ⟨i,hi,e⟩:=wy h;have H3:i<xs.size:=by simpa using hi
 refine⟨i,H3,?_⟩;have:=Dl H3;rw[aq hi,e]at this;exact(ag this).symm
def dg.n1 {P:List Value->Prop} (ha:dg w c n vs [a]) (k:∀x,cT w c n x a->P [x]):P vs:=by let ⟨_,_,rfl,a1,h1⟩:=ha.i1;obtain rfl:=h1.i0;exact k _ a1
def dg.n2 {P:List Value->Prop} (ha:dg w c n vs [a,b]) (k:∀x y,cT w c n x a->cT w c n y b->P [x,y]):P vs:=by let ⟨_,_,rfl,a1,h1⟩:=ha.i1;exact h1.n1 (P:=λl=>P (_::l)) λy=>k _ y a1
def dg.n3 {P:List Value->Prop} (ha:dg w c n vs [a,b,d]) (k:∀x y z,cT w c n x a->cT w c n y b->cT w c n z d->P [x,y,z]):P vs:=by let ⟨_,_,rfl,a1,h1⟩:=ha.i1;exact h1.n2 (P:=λl=>P (_::l)) λy z=>k _ y z a1
def gMM (mI:List Int->Option Int) (r:Int->Int->Prop) [∀a b,Decidable (r a b)] (mF:UInt64->UInt64->UInt64) (st:St):List CV->Option CV
 | []=>ac
 | [v]=>(st.ow v).bind λl=>(jN l).bind λns=>(mI ns).map λm=> .pv (.int m)
 | [x,y]=>x.aI.bind λa=>y.aI.map λb=> .pv (.int (if r b a then b else a))
 | [x,y,z]=>x.aF.bind λa=>y.aF.bind λb=>z.aF.map λd=> .pv (.fF (mF (mF a b) d))
 |_::_::_::_::_=>ac
def EA:St->List CV->Option CV:=gMM MK (λb a=>b>a) T2
def MN:St->List CV->Option CV:=gMM afq (λb a=>b<a) T3
def A0 (hh:A.handled=ac)
  (Sa:∀Q:Value->bb->Prop,wpAny (MM w) A.in1 (pyIter (.ref s.heap.objs.size)) (λit rk=>∃I fp wr n P St bt,it= .ref I/\Walks pw w A.in1 I fp wr n P St/\St 0 rk.heap/\(∀b∈fp,b<rk.heap.objs.size)/\0<n/\CmpOf pw w A.in1 op P bt/\
   ∀v h' tk,P (argBest bt (n- 1)) v->(∀b o,b∉wr->rk.heap.get? b=aa o->h'.get? b=aa o)->Q v {rk with heap:=h',toks:=tk}) E
   {s with heap:=s.heap.push {cls:= .type "tuple",data:= .seq #[a,b,d]}}->wpAny (MM w) A (call (.builtin fn) [a,b,d]) Q E s)
  (ajF:CmpOf pw w A.in1 op (λi v=>(#[a,b,d]:Array Value)[i]? =aa v) bt)
  (h:∀v h' tk,(#[a,b,d]:Array Value)[argBest bt 2]? =aa v->(∀c o,s.heap.get? c=aa o->h'.get? c=aa o)->Q v {s with heap:=h',toks:=tk}):
  wpAny (MM w) A (call (.builtin fn) [a,b,d]) Q E s:=by
 have hT:(s.heap.push {cls:= .type "tuple",data:= .seq #[a,b,d]}).IsTuple s.heap.objs.size #[a,b,d]:=⟨_,aV _ rfl,rfl,0,rfl⟩;refine Sa Q (Ce hT ?_);have hsz:(s.heap.push {cls:= .type "tuple",data:= .seq #[a,b,d]}).objs.size=s.heap.objs.size+1:=eU ..;refine⟨_,[_,s.heap.objs.size],[_],_,_,_,_,rfl,uV (A:=A.in1) hh _ s.heap.objs.size (by rw[hsz];exact cU (ez _)) #[a,b,d],
  ⟨⟨_,aV _ rfl,rfl,rfl⟩,hT.push _⟩,λc hc=> ?_,by simp,ajF,λv h' tk hP hk=> ?_⟩
 ·show c< ((s.heap.push _).push _).objs.size;rw[eU,hsz];rcases aH.mp hc with rfl|hc
  ·rw[hsz];exact ez _
  ·rcases aH.mp hc with rfl|hc
   ·exact eI (ez _)
   ·nomatch hc
 ·refine h v h' tk hP λc o e=> ?_;refine hk c o (λhm=> ?_) (aJ _ (aJ _ e));rcases aH.mp hm with e1|hm
  ·have:=bW e;rw[e1,hsz]at this;exact lS _ (Nat.lt_of_succ_lt this)
  ·nomatch hm
def WP {bt:Nat->Nat->Bool} (h:(#[a,b,d]:Array Value)[argBest bt 2]? =aa v):v=if bt 1 0 then(if bt 2 1 then d else b) else if bt 2 0 then d else a:=by
 have h:(#[a,b,d]:Array Value)[if bt 2 (if bt 1 0 then 1 else 0) then 2 else if bt 1 0 then 1 else 0]? =aa v:=h;by_cases h1:bt 1 0=true
 ·rw[if_pos h1]at h⊢;by_cases h2:bt 2 1=true
  ·rw[if_pos h2]at h⊢;exact(ag h).symm
  ·rw[if_neg h2]at h⊢;exact(ag h).symm
 ·rw[if_neg h1]at h⊢;by_cases h2:bt 2 0=true
  ·rw[if_pos h2]at h⊢;exact(ag h).symm
  ·rw[if_neg h2]at h⊢;exact(ag h).symm
abbrev Kp (s:bb) (h':iQ):Prop:=∀b o,s.heap.get? b=aa o->h'.get? b=aa o
def fA.mm {id:String} {mI:List Int->Option Int} {r:Int->Int->Prop} [∀a b,Decidable (r a b)] {mF:UInt64->UInt64->UInt64}
  (h1:∀ {A:cR} {s:bb} {a:Addr} {xs:Array (Int×C6)} {m:Int} {E Q:VS},A.handled=ac->s.heap.IsList a (intItems xs)->0<xs.size->mI (xs.toList.map (·.1))=aa m->(∀t h' tk,Kp s h'->Q (.int m t) {s with heap:=h',toks:=tk})->wpAny (MM S.w) A (call (.builtin id) [.ref a]) Q E s)
  (h0:mI []=ac)
  (h2:∀ {A:cR} {s:bb} {a b:Int} {t u:C6} {E Q:VS},A.handled=ac->(∀h' tk,Kp s h'->Q (if r b a then .int b u else .int a t) {s with heap:=h',toks:=tk})->wpAny (MM S.w) A (call (.builtin id) [.int a t,.int b u]) Q E s)
  (h3:∀ {A:cR} {s:bb} {x y z:UInt64} {t u v:C6} {E Q:VS},A.handled=ac->(∀t h' tk,Kp s h'->Q (.float (mF (mF x y) z) t) {s with heap:=h',toks:=tk})->wpAny (MM S.w) A (call (.builtin id) [.float x t,.float y u,.float z v]) Q E s):
  fA S k (.builtin id) (gMM mI r mF):=by
 intro lay p O st ds v bc h;rcases ds with _|⟨u,_|⟨w,_|⟨t,_|_⟩⟩⟩
 ·exact gq h
 ·refine a9 h λl hl h=>a9 h λns hn h=> ?_;let ⟨m,hm,rfl⟩:=ar.mp h;refine⟨ab _,λA c s vs hA R ha E Q hQ=> ?_⟩;refine ha.n1 (P:=λvs=>wpAny _ _ (call _ vs) _ _ _) λu a=> ?_;let ⟨ad,xs,rfl,hI,rfl⟩:=(bc.ow hl).ints R a hn;refine h1 hA.hn hI ?_ hm λt h' tk hk=>hQ c _ _ (.refl ..) (R.ext hk) (.heap ..) (.pv (.int ..));rcases yS xs.size with e|e
  ·rw[Array.eq_empty_of_size_eq_zero e]at hm;exact gq (h0.symm.trans hm)
  ·exact e
 ·refine a9 h λx e1 h=> ?_;let ⟨y,e2,rfl⟩:=ar.mp h;rw[CV.kI e1,CV.kI e2];refine⟨ab _,λA c s vs hA R ha E Q hQ=> ?_⟩;refine ha.n2 (P:=λvs=>wpAny _ _ (call _ vs) _ _ _) λu v a1 a2=> ?_;let ⟨t1,rfl⟩:=a1.gh.kH;let ⟨t2,rfl⟩:=a2.gh.kH;refine h2 hA.hn λh' tk hk=> ?_;by_cases hc:r y x
  ·rw[if_pos hc]at hQ⊢;exact hQ c _ _ (.refl ..) (R.ext hk) (.heap ..) (.pv (.int ..))
  ·rw[if_neg hc]at hQ⊢;exact hQ c _ _ (.refl ..) (R.ext hk) (.heap ..) (.pv (.int ..))
 ·refine a9 h λx e1 h=>a9 h λy e2 h=> ?_;let ⟨z,e3,rfl⟩:=ar.mp h;rw[CV.kF e1,CV.kF e2,CV.kF e3];refine⟨ab _,λA c s vs hA R ha E Q hQ=> ?_⟩;refine ha.n3 (P:=λvs=>wpAny _ _ (call _ vs) _ _ _) λu v w a1 a2 a3=> ?_;let ⟨t1,rfl⟩:=a1.gh.Em;let ⟨t2,rfl⟩:=a2.gh.Em;let ⟨t3,rfl⟩:=a3.gh.Em;exact h3 hA.hn λt h' tk hk=>hQ c _ _ (.refl ..) (R.ext hk) (.heap ..) (.pv (.fF ..))
 ·exact gq h
def fl3 (x y z:UInt64) (t u v:C6):∀a∈ #[Value.float x t,.float y u,.float z v],Flt.NumV a:=by intro a h;simp at h;rcases h with rfl|rfl|rfl<;>exact .float _ _
def fA.max:fA S k (.builtin "max") EA:=
 .mm (λhA hI oO hm hQ=>max_intList hA hI oO λv h' tk hP hk=>by
   let ⟨b1,b2⟩:=argBest_gt (numAt _) (Array.size _- 1);let ⟨t,rfl⟩:=intItems_at hP;let ⟨q1,q2⟩:=Dk hm;let ⟨i,hi,H3⟩:=Dn q1;rw[aiB (q2 _ (Dm (aaS b1 hi))) H3 (b2 i (aaR hi))];exact hQ t h' tk hk) rfl max_two_ints
  λ{A s x y z t u v E Q} hA hQ=>A0 hA (λQ=>call_max_three) (Flt.cmpOf_gt _ (fl3 _ _ _ _ _ _)) λv h' tk hP hk=>by
   obtain⟨t,rfl⟩:∃t,v= .float (T2 (T2 x y) z) t:=by
    refine WP hP▸ ?_;show∃t,(if (dK x y==aa .lt)=true then _ else _)=_;unfold T2;by_cases h1:(dK x y==aa .lt)=true
    ·rw[if_pos h1,if_pos h1];show∃t,(if (dK y z==aa .lt)=true then _ else _)=_;by_cases h2:(dK y z==aa .lt)=true
     ·rw[if_pos h2,if_pos h2];exact⟨_,rfl⟩
     ·rw[if_neg h2,if_neg h2];exact⟨_,rfl⟩
    ·rw[if_neg h1,if_neg h1];show∃t,(if (dK x z==aa .lt)=true then _ else _)=_;by_cases h2:(dK x z==aa .lt)=true
     ·rw[if_pos h2,if_pos h2];exact⟨_,rfl⟩
     ·rw[if_neg h2,if_neg h2];exact⟨_,rfl⟩
   exact hQ t h' tk hk
def fA.min:fA S k (.builtin "min") MN:=
 .mm (λhA hI oO hm hQ=>min_intList hA hI oO λv h' tk hP hk=>by
   let ⟨b1,b2⟩:=argBest_lt (numAt _) (Array.size _- 1);let ⟨t,rfl⟩:=intItems_at hP;let ⟨q1,q2⟩:=ML hm;let ⟨i,hi,H3⟩:=Dn q1;rw[aiC (b2 i (aaR hi)) (q2 _ (Dm (aaS b1 hi))) H3];exact hQ t h' tk hk) rfl min_two_ints
  λ{A s x y z t u v E Q} hA hQ=>A0 hA (λQ=>call_min_three) (Flt.cmpOf_lt _ (fl3 _ _ _ _ _ _)) λv h' tk hP hk=>by
   obtain⟨t,rfl⟩:∃t,v= .float (T3 (T3 x y) z) t:=by
    refine WP hP▸ ?_;show∃t,(if (dK y x==aa .lt)=true then _ else _)=_;unfold T3;by_cases h1:(dK y x==aa .lt)=true
    ·rw[if_pos h1,if_pos h1];show∃t,(if (dK z y==aa .lt)=true then _ else _)=_;by_cases h2:(dK z y==aa .lt)=true
     ·rw[if_pos h2,if_pos h2];exact⟨_,rfl⟩
     ·rw[if_neg h2,if_neg h2];exact⟨_,rfl⟩
    ·rw[if_neg h1,if_neg h1];show∃t,(if (dK z x==aa .lt)=true then _ else _)=_;by_cases h2:(dK z x==aa .lt)=true
     ·rw[if_pos h2,if_pos h2];exact⟨_,rfl⟩
     ·rw[if_neg h2,if_neg h2];exact⟨_,rfl⟩
   exact hQ t h' tk hk
def rH (_:St):List CV->Option CV:=one λv=>v.aF.bind λx=>if jv x then ~~~(.int (qu ia x)) else ac
noncomputable def X3:Float64.Num->Option Int
 | .fin sg m e=>aa (Float64.truncOf sg m e)
 | .nan=>ac
 | .inf _=>ac
def afr (_:St):List CV->Option CV:=one λv=>v.aF.bind λx=>(X3 (ki x)).map λi=> .pv (.int i)
def T4 (h:jv x=true):Tg x=false/\mZ x=false:=by revert h;unfold jv Tg mZ;cases ki x<;>intro h<;>first|exact⟨rfl,rfl⟩|cases h
def fA.round:fA S k (.builtin "round") rH:=by intro lay p O st ds v bc h;have q:=ui h;clear h;let ⟨x,rfl,h⟩:=q;let ⟨x,e,h⟩:=aG.mp h;obtain rfl:=CV.kF e;let ⟨Sb,rfl⟩:=dT h;let ⟨f1,f2⟩:=T4 Sb;refine⟨ab _,λA c s vs hA R ha E Q hQ=> ?_⟩;let ⟨_,_,rfl,a,b⟩:=ha.i1;obtain rfl:=b.i0;have a':=a.gh;let ⟨_,rfl⟩:=a'.Em;exact Flt.call_round_float hA.hn (λe=>by rw[f1]at e;nomatch e) (λe=>by rw[f2]at e;nomatch e) λz=>hQ c _ _ (.refl ..) R (.toks ..) (.pv (.int ..))
def fA.int:fA S k (.type "int") afr:=by
 intro lay p O st ds v bc h;have q:=ui h;clear h;let ⟨x,rfl,h⟩:=q;let ⟨x,e,g⟩:=aG.mp h;clear h;let ⟨i,h,rfl⟩:=ar.mp g;clear g;obtain rfl:=CV.kF e;cases hd:ki x with
 |nan=>rw[hd]at h;exact gq h
 |inf=>rw[hd]at h;exact gq h
 |fin sg m e=>
  rw[hd]at h;obtain rfl:=ag h
  ·skip
   refine⟨ab _,λA c s vs hA R ha E Q hQ=> ?_⟩;let ⟨_,_,rfl,a,b⟩:=ha.i1;obtain rfl:=b.i0;have a':=a.gh;let ⟨_,rfl⟩:=a'.Em;exact call_int_float hd (hQ c _ _ (.refl ..) R (.toks ..) (.pv (.int ..)))
def Li (st:St):List CV->Option CV:=one λv=>(st.ow v).bind λl=>if ↑l<=sizeLine then ~~~(.lst l) else ac
def fA.list:fA S k (.type "list") Li:=by
 intro lay p O st ds v bc h;have q:=ui h;clear h;let ⟨x,rfl,h⟩:=q
 ·let ⟨l,hl,h⟩:=aG.mp h
  ·let ⟨hs,rfl⟩:=dT h;refine⟨ab _,λA c s vs hA R ha E Q hQ=> ?_⟩;let ⟨_,_,rfl,a,b⟩:=ha.i1;obtain rfl:=b.i0;let ⟨ad,us,n,rfl,ho,hsz,hr⟩:=(bc.ow hl).at R a;refine call_list_seq ad (.inl rfl) ho rfl rfl (λh' c' hk hn=> ?_) (by simp_all);have hF:=R.oq (ab _);exact hQ _ _ _ (aM.dC hF) (R.put hk (ab _) hn) (.gF ..) (.pv (.lst (if_pos rfl) hsz λi v d h1 h2=>(hr i v d h1 h2).mono (aM.dC (n:=0) hF).F))
end
section
variable {lay:Lay}
noncomputable def obT:Option CO->Option String
 |some (.list _)=>aa "list"
 |some (.dict _)=>aa "dict"
 |_=>ac
def T5 (st:St):CV->Option String
 | .pv (.str _)=>aa "str"
 | .pv (.lst _)=>aa "list"
 | .pv (.tup _)=>aa "tuple"
 | .pv (.oK _)=>aa "dict"
 | .ob j=>obT st.ob[j]?
 |_=>ac
def wU {s : bb} (h : s.heap.get? a = aa o) (hc : o.cls = .type T) (hd : o.dict = ac) : s.TypeIs (.ref a) T ∧ ∀ b, eM a = .ref b → ∃ ob, s.heap.get? b = aa ob ∧ ob.dict = ac :=
  ⟨⟨_, h, hc⟩, λb e => by injection e with e; exact e ▸ ⟨_, h, hd⟩⟩
def z4 (bc:At lay p st O) {v:CV} {T:String} (h:T5 st v=aa T) {c:aM} {s:bb} (R:Rel S c O s.heap) {u:Value} (hu:cT S.w c ↑O u (v.av p.oi)):
  s.TypeIs u T/\∀a,u= .ref a->∃ob,s.heap.get? a=aa ob/\ob.dict=ac:=by
 induction v with
 |pv d=>
  have hu:=hu.gh;cases d with
  |str x=>obtain rfl:=ag h;let ⟨_,rfl⟩:=hu.mD;exact⟨sd ..,λa e=>Value.noConfusion e⟩
  |lst l=>obtain rfl:=ag h;let ⟨_,_,_,rfl,x,_⟩:=hu.yh;exact wU (R.frozen _ _ x) rfl rfl
  |tup l=>obtain rfl:=ag h;let ⟨_,_,_,rfl,x,_⟩:=hu.En;exact wU (R.frozen _ _ x) rfl rfl
  |oK l=>obtain rfl:=ag h;let ⟨_,_,rfl,_,x,_,_,rfl,_⟩:=hu.XX;exact wU (R.frozen _ _ x) rfl rfl
  |_=>exact gq h
 |ob j=>
  let ⟨rfl,_⟩:=hu.zI;have h:obT st.ob[j]? =aa T:=h;cases e:st.ob[j]? with
  |none=>rw[e]at h;exact gq h
  |some b=>
   rw[e]at h;let ⟨o,ho,hr⟩:=R.own _ _ (bc.obs _ _ e);induction b with
   |list l=>obtain rfl:=ag h;let ⟨_,_,rfl,_⟩:=hr.y6;exact wU ho rfl rfl
   |dict l=>obtain rfl:=ag h;let ⟨_,_,rfl,_⟩:=hr.Po;exact wU ho rfl rfl
   |_=>exact gq h
 |inst j=>exact gq h
def eQ (T:String) (g:St->List CV->Option CV) (f:St->Option CV) (fa:St->Option (List CV)) (st:St):Option CV:=
 (f st).bind λo=>(fa st).bind λds=>if T5 st o=aa T then g st (o::ds) else ac
def A3 (h:ck S k O ae args ds) (pos:Pos) (env:lW) (hn: ↑args<30):
  ((backTo pos (starEach args env)).all (λx=> !x.1)&&(backToKw pos (keywordEach [] env)).all (λx=>x.1.isSome)&&decide (↑args+ ↑([]:List Keyword)+(if ([]:List Keyword).isEmpty then 0 else 1)<30))=true:=by
 have h1:(backTo pos (starEach args env)).all (λx=> !x.1)=true:=by have:=noStar h pos env;rw[Iv];simpa using this
 rw[h1];rw[(decide_eq_true (hn))];rfl
def cS.sY {T id:String}
  (hc:fA S k (.builtin id) g) (pa:PlainAttrs T) (KD:Slot T name id) (hty:typeOf (.builtin id)=pure (.type "method_descriptor"))
  (h:cS S k lay o f) (ha:pQ S k lay args fa) (ik:∀env,attributeBase o name env (eval o env)=eval o env) (gC:(jw.endLine==pos.line)=true) (hn: ↑args<30):
  cS S k lay (.Call (.Attribute o name jw) args [] pos) (eQ T g f fa):=by
 intro p O st v bc hf;refine a9 hf λd hd hf=>a9 hf λds Zk hf=> ?_;let ⟨ht,hf⟩:=Ey hf;have ID:=ha p O st _ bc Zk;refine⟨ab _,λA c s env hA hE R E Q hQ=> ?_⟩;refine eK (ik env) (A3 ID pos env hn) gC ((h p O st _ bc hd).run A c s env hA hE R _ _ λc1 v1 s1 l1 R1 K1 a1=> ?_);let ⟨hT,tT⟩:=z4 bc ht R1 a1;refine⟨T,id,pa,KD,hty,hT,tT,cX (noStar ID pos env) ?_⟩;refine eg ID _ pos A c1 s1 env hA (hE.mono l1 (ab _)) R1 _ _ λc2 vs s2 l2 R2 K2 a2=> ?_;exact(hc lay p O st (d::ds) v bc hf).run A c2 s2 (v1::vs) hA R2 (.cons (a1.mono l2 (ab _)) a2) E Q λc3 v3 s3 l3 R3 K3 a3=>hQ c3 v3 s3 ((l1.trans l2 (ab _)).trans l3 (ab _)) R3 ((K1.trans K2).trans K3) a3
def gS1 (f:Str->Str) (_:St) (ds:List CV):Option CV:=one (λv=>v.aS.bind λx=>if cw ↑(f x) then ac else ~~~(.str (f x))) ds
def fA.s1 {id:String} {f:Str->Str} {name:Str} {B:Builtin} (KD:Slot "str" name id) (entry:entryFor PySem.table id=aa B) (args:∀v,argsOk id ⟨[v],[]⟩) (hg:∀x t,cw ↑(f x)=false->Gives (B ⟨[.str x t],[]⟩) (.str (f x))):fA S k (.builtin id) (gS1 f):=by intro lay p O st ds v bc h;let ⟨u,rfl,h⟩:=ui h;refine a9 h λx e h=> ?_;obtain rfl:=CV.kS e;let ⟨hs,rfl⟩:=KS h;refine⟨ab _,λA c s vs hA R ha E Q hQ=> ?_⟩;let ⟨_,_,rfl,a,b⟩:=ha.i1;obtain rfl:=b.i0;let ⟨_,rfl⟩:=a.gh.mD;exact call_gives KD (sd ..) entry (args _) (hg _ _ (kl.mpr hs)) ⟨fit_le (kl.mpr hs),hQ c _ _ (.refl ..) R (.toks ..) (.pv (.str ..))⟩
def kJ:St->List CV->Option CV:=gS1 cM
def fA.lower:fA S k (.builtin "str.lower") kJ:= .s1 F.slot_str_lower F.entry_str_lower F.args_str_lower_1 gives_str_lower
def gS:St->List CV->Option CV:=gS1 sH
def fA.upper:fA S k (.builtin "str.upper") gS:= .s1 F.slot_str_upper F.entry_str_upper F.args_str_upper_1 gives_str_upper
def two? :List CV->Option (Str×Str)
 | []=>ac
 | [_]=>ac
 | [a,b]=>a.aS.bind λx=>b.aS.map λy=>(x,y)
 |_::_::_::_=>ac
def Lj (h:two? l=aa a):l=[.pv (.str a.1),.pv (.str a.2)]:=by
 rcases l with _|⟨u,_|⟨v,_|_⟩⟩
 ·exact gq h
 ·exact gq h
 ·let ⟨_,e1,h⟩:=aG.mp h;let ⟨_,e2,h⟩:=ar.mp h;rw[CV.kS e1,CV.kS e2,<- h]
 ·exact gq h
noncomputable def WQ:List Nat->Option CV
 | []=>ac
 |i::_=> ~~~(.int i)
def A4 (_:St) (ds:List CV):Option CV:=(two? ds).bind λa=>WQ (je a.1 a.2 0 a.1.length 1)
def fA.index:fA S k (.builtin "str.index") A4:=by
 intro lay p O st ds v bc h;refine a9 h λq e h=> ?_;rw[Lj e];cases ho:je q.1 q.2 0 q.1.length 1 with
 |nil=>rw[ho]at h;exact gq h
 |cons i r=>rw[ho]at h;obtain rfl:=ag h;refine⟨ab _,λA c s vs hA R ha E Q hQ=> ?_⟩;have h9:=ha.i1;clear ha;let ⟨_,_,rfl,a,ha⟩:=h9;have h9:=ha.i1;clear ha;let ⟨_,_,rfl,b,ha⟩:=h9;obtain rfl:=ha.i0;have a':=a.gh;have b':=b.gh;let ⟨_,rfl⟩:=a'.mD;let ⟨_,rfl⟩:=b'.mD;exact call_gives F.slot_str_index (sd ..) F.entry_str_index (F.args_str_index_2 _ _) (gives_str_index _ _ _ _ _ _ ho) (hQ c _ _ (.refl ..) R (.toks ..) (.pv (.int ..)))
noncomputable def yl:List PV->Option (List Str)
 | []=>aa []
 | .str n::l=>(yl l).map (n:: ·)
 |_::_=>ac
def IX (ns:List Str):yl (ns.map PV.str)=aa ns:=by
 induction ns with
 |nil=>rfl
 |cons n ns ih=>rw[bx];show(yl _).map _=_;rw[ih];rfl
def EB {vs:Vs} {l:List PV} {ns:List Str} (h:yl l=aa ns) (hl: ↑vs= ↑l) (hr:∀(i:Nat) (v:Value) (d:PV),vs[i]? =aa v->l[i]? =aa d->dk w F v d):
  ∃xs:List (Str×C6),vs=strValues xs/\xs.map (·.1)=ns:=by
 replace hl:=S3.of hl;induction hl generalizing ns with
 |nil=>obtain rfl:=ag h;exact⟨[],rfl,rfl⟩
 |cons v d _ ih=>
  cases d with
  |str n=>let ⟨ns',h2,rfl⟩:=ar.mp h;let ⟨xs,e1,e2⟩:=ih h2 λi v d a b=>hr (i+1) v d a b;let ⟨t,e⟩:=(hr 0 v _ rfl rfl).mD;exact⟨(n,t)::xs,by rw[e,e1];rfl,by rw[<- e2];rfl⟩
  |_=>exact gq h
def A5 (st:St):List CV->Option CV
 | []=>ac
 | [_]=>ac
 | [u,v]=>u.aS.bind λx=>(st.ow v).bind λl=>(yl l).bind λns=>if FS x ns then ~~~(.str (zU x ns)) else ac
 |_::_::_::_=>ac
def fA.join:fA S k (.builtin "str.join") A5:=by
 intro lay p O st ds v bc h;rcases ds with _|⟨u,_|⟨w,_|_⟩⟩
 ·exact gq h
 ·exact gq h
 ·refine a9 h λx e h=>a9 h λl hl h=>a9 h λns hn h=> ?_;let ⟨mY,rfl⟩:=dT h;obtain rfl:=CV.kS e;refine⟨ab _,λA c s vs hA R ha E Q hQ=> ?_⟩;refine ha.n2 (P:=λvs=>wpAny _ _ (call _ vs) _ _ _) λv1 v2 a b=> ?_;let ⟨_,rfl⟩:=a.gh.mD;let ⟨ad,us,n,rfl,ho,hs,hr⟩:=(bc.ow hl).at R b;let ⟨xs,h1,h2⟩:=EB hn (bz▸hs) (dk.TU hr);exact SC.join ((by rw[<- h1]:us=(strValues xs).toArray)▸IsL.isList ho) h2 mY λt' kk=>hQ c _ _ (.refl ..) R (.toks ..) (.pv (.str ..))
 ·exact gq h
end
structure aM.pK (own:Addr->Prop) (n:Nat) (c c':aM):Prop where
 F:∀a o,c.F a=aa o->c'.F a=aa o
 Z:∀i,i<n->c'.Z i=c.Z i
 pin:∀a,¬own a->c'.pin a=c.pin a
def aM.pK.trans {own:Addr->Prop} (h:aM.pK own n a b) (k:aM.pK own m b c) (hm:n<=m):aM.pK own n a c:=
 ⟨λx o e=>k.F x o (h.F x o e),λi hi=>(k.Z i (a8 hi hm)).trans (h.Z i hi),λx hx=>(k.pin x hx).trans (h.pin x hx)⟩
def aM.le.P {own:Addr->Prop} (h:aM.le n c c'):aM.pK own n c c':=⟨h.F,h.Z,λa q=>by rw[h.pin]⟩
structure lC (g:Nat) (s s':bb):Prop where
 os:s'.os=s.os
 gens:∀(i:Nat) (x:VI),i<g->s.gens[i]? =aa x->s'.gens[i]? =aa x
 bare:mq s.gens->mq s'.gens
def lC.trans (h:lC g a b) (k:lC g b c):lC g a c:=⟨k.os.trans h.os,λi x l e=>k.gens i x l (h.gens i x l e),λx=>k.bare (h.bare x)⟩
def dZ.P (h:dZ s s'):lC g s s':=⟨h.os,λi x q e=>h.gens i x e,h.bare⟩
def lC.K (h:lC s.gens.size s s'):dZ s s':=⟨h.os,λi x e=>h.gens i x (by
 rcases bS i s.gens.size with h|h
 ·exact h
 ·rw[mw h]at e;nomatch e) e,h.bare⟩
structure sk (S:cz) (k:Nat) (A:cR) (own:Addr->Prop) (g oP:Nat) (ok:List AO->Prop) (I:Value) (J:List PV->aM->bb->Prop):Prop where
 keep:∀ {n:Nat} {rest:List PV} {c c':aM} {O bv:List AO} {s s':bb},J rest c s->oP<=n->aM.le n c c'->dZ s s'->Rel S c O s.heap->Rel S c' bv s'.heap->J rest c' s'
 next:∀ {O:List AO} {rest:List PV} {c:aM} {s:bb},J rest c s->Rel S c O s.heap->oP<= ↑O->ok O->jD k A->∀(E:VS) (Q:Option Value->bb->Prop),
  (rest=[]->∀c' s',aM.pK own ↑O c c'->Rel S c' O s'.heap->lC g s s'->Q ac s')->
  (∀x r,rest=x::r->∀c' v s',aM.pK own ↑O c c'->Rel S c' O s'.heap->lC g s s'->J r c' s'->dk S.w c'.F v x->Q (aa v) s')->wpAny (MM S.w) A (pyNext I) Q E s
 self:∀ {O:List AO} {rest:List PV} {c:aM} {s:bb},J rest c s->Rel S c O s.heap->jD k A->∀(E:VS) (Q:VS),Q I s->wpAny (MM S.w) A (pyIter I) Q E s
 Vj:∀ {O:List AO} {rest:List PV} {c:aM} {s:bb},J rest c s->Rel S c O s.heap->∀(cD:Expr) (v:Value) (E:VS) (Q:Unit->bb->Prop),Q () s->wpAny (MM S.w) A (letOwnedTupleGo cD I v) Q E s
noncomputable def wV:List String:=["enumerate", "zip", "dict_itemiterator", "dict_reverseitemiterator", "odict_iterator", "itertools.zip_longest", "itertools.pairwise"]
def rI (ho:s.heap.get? I=aa o) (hc:o.cls= .type T) (hT:wV.contains T=false) (cD:Expr) (v:Value) (h:Q () s):
  wpAny M A (letOwnedTupleGo cD (.ref I) v) Q E s:=by
 have key:∀a,wpAny M A (do
   let o <- load I
   match o.cls,o.data with
   | .type n,.fields vs=>
    if wV.contains n&&vs[0]? ==aa (rawInt a) then
     rule "for.unpacks-the-owned-tuple"
     updateField I 0 .none
   |_,_=>pure ()) Q E s:=by
  intro a;refine am (Ks ho ?_);rw[hc];induction o.data with
  |fields vs=>refine wpAny_ite ?_;rw[if_neg (by rw[hT];exact bF)];exact aR h
  |_=>exact aR h
 cases cD with
 |Tuple=>induction v with
  |ref a=>exact key a
  |_=>exact aR h
 |List=>induction v with
  |ref a=>exact key a
  |_=>exact aR h
 |_=>exact aR h
def aM.nq (c:aM) (I:Addr) (o:Obj):aM:= {c with pin:=λa=>if a=I then aa o else c.pin a}
def Rel.nq (R:Rel S c O h) (hp:c.pin I=aa o) (hk:∀b x,b≠I->h.get? b=aa x->h'.get? b=aa x) (ho:h'.get? I=aa o'):Rel S (c.nq I o') O h':=by
 let ⟨p1,p2,p3,p4⟩:=R.pins I o hp;refine⟨λa x e=>hk _ _ (by rintro rfl;have e':c.F a=aa x:=e;rw[p2]at e';nomatch e') (R.frozen a x e),R.base,λi ao e=> ?_,R.apart,R.inj,λa x e=> ?_,λq hq=> ?_⟩
 ·let ⟨x,h1,h2⟩:=R.own i ao e;have kR:i< ↑O:=by
   rcases bS i ↑O with h|h
   ·exact h
   ·rw[bB h]at e;nomatch e
  exact⟨x,hk _ _ (p3 i kR) h1,h2.j5 (λz z e=>e) (λz z=>rfl) (ab _)⟩
 ·have e':(if a=I then aa o' else c.pin a)=aa x:=e;by_cases ha:a=I
  ·subst ha;rw[if_pos rfl]at e';obtain rfl:=ag e';exact⟨ho,p2,p3,p4⟩
  ·rw[if_neg ha]at e';left;let ⟨q1,q2,q3,q4⟩:=R.pins a x e';right;exact⟨hk _ _ ha q1,q2,q3,q4⟩
 ·let ⟨a,b,ps,d,e,f⟩:=R.tabs q hq;exact⟨a,b,ps,hk _ _ (p4 q hq) d,e,f⟩
def aM.oT:aM.pK (· =I) n c (c.nq I o):=⟨λq q e=>e,λq q=>rfl,λq ha=>if_neg ha⟩
def Rel.Gv (R:Rel S c O h) (hp:c.pin I=aa o) (hk:∀b x,b≠I->h.get? b=aa x->h'.get? b=aa x):Rel S {c with pin:=λa=>if a=I then ac else c.pin a} O h':=by
 let ⟨p1,p2,p3,p4⟩:=R.pins _ _ hp;refine⟨λa x e=>hk _ _ (by rintro rfl;have e':c.F a=aa x:=e;rw[p2]at e';nomatch e') (R.frozen a x e),R.base,λj ao e=> ?_,R.apart,R.inj,λa x e=> ?_,λq hq=> ?_⟩
 ·let ⟨x,q1,q2⟩:=R.own j ao e;have kR:j< ↑O:=by
   rcases bS j ↑O with h|h
   ·exact h
   ·rw[bB h]at e;nomatch e
  exact⟨x,hk _ _ (p3 j kR) q1,q2.j5 (λz z e=>e) (λz z=>rfl) (ab _)⟩
 ·have e':(if a=I then ac else c.pin a)=aa x:=e;by_cases ha:a=I
  ·rw[if_pos ha]at e';nomatch e'
  ·rw[if_neg ha]at e';let ⟨q1,q2,q3,q4⟩:=R.pins a x e';exact⟨hk _ _ ha q1,q2,q3,q4⟩
 ·let ⟨a,b,ps,d,e,f⟩:=R.tabs q hq;exact⟨a,b,ps,hk _ _ (p4 q hq) d,e,f⟩
structure WJ (I:Addr) (fp:List Addr) (n:Nat) (St:Nat->iQ->Prop) (Vn:Addr->Option Obj) (l rest:List PV) (c:aM) (s:bb):Prop where
 here:∃i,i<=n/\rest=l.drop i/\St i s.heap
 pin:∃o,c.pin I=aa o
 fp:∀b∈fp,b=I\/∃o,c.F b=aa o
 F:∀a o,Vn a=aa o->c.F a=aa o
def sk.ofWalks {I:Addr} {fp:List Addr} {n:Nat} {P:Nat->Value->Prop} {St:Nat->iQ->Prop} {g oP:Nat} {ok:List AO->Prop} {T:String} {l:List PV} {Vn:Addr->Option Obj}
  (W:∀A:cR,A.handled=ac->Walks pw S.w A I fp [I] n P St) (hSt:∀i h,St i h->∃o,h.get? I=aa o/\o.cls= .type T) (hT:wV.contains T=false) (hl: ↑l=n)
  (hP:∀i v,i<n->P i v->∃x,l[i]? =aa x/\dk S.w Vn v x) (A:cR):sk S k A (· =I) g oP ok (.ref I) (WJ I fp n St Vn l) where
 keep:=λ{m rest c c' O bv s s'} hJ _ wb _ R R'=>by
  let ⟨⟨i,hi,hr,rp⟩,⟨o,ho⟩,hfp,hF⟩:=hJ;refine⟨⟨i,hi,hr,?_⟩,⟨o,by rw[wb.pin];exact ho⟩,λb hb=>(hfp b hb).imp id λ⟨x,hx⟩=>⟨x,wb.F _ _ hx⟩,λa x e=>wb.F _ _ (hF a x e)⟩;refine(W {} rfl).frame _ _ _ rp λb hb x e=> ?_;rcases hfp b hb with rfl|⟨y,hy⟩
  ·have e1:=(R.pins _ _ ho).1;rw[e1]at e;obtain rfl:=ag e;exact(R'.pins b o (by rw[wb.pin];exact ho)).1
  ·have e1:=R.frozen _ _ hy;rw[e1]at e;obtain rfl:=ag e;exact R'.frozen _ _ (wb.F _ _ hy)
 next:=λ{O rest c s} hJ R _ _ hA E Q h0 h1=>by
  let ⟨⟨i,hi,hr,rp⟩,⟨o,ho⟩,hfp,hF⟩:=hJ;have hI:=R.pins _ _ ho;rcases bS i n with kR|Aw
  ·refine(W A hA.hn).item i s Q E kR rp λv h' tk hPv Sd hk=> ?_;let ⟨x,hx,hv⟩:=hP i v kR hPv;let ⟨o',rZ,_⟩:=hSt _ _ Sd;have yc:∀b x,b≠I->s.heap.get? b=aa x->h'.get? b=aa x:=λb x hb e=>hk b x (by simpa using hb) e;refine h1 x (l.drop (i+1)) ?_ (c.nq I o') v {s with heap:=h',toks:=tk} aM.oT (R.nq ho yc rZ) (dZ.heap ..).P ⟨⟨i+1,kR,rfl,Sd⟩,⟨o',if_pos rfl⟩,hfp,hF⟩ (hv.mono hF);rw[hr];have F7:i< ↑l:=by exact CF kR hl
   rw[gU F7];rw[aq F7]at hx;obtain rfl:=ag hx;rfl
  ·have:i=n:=by exact aiD hi Aw
   subst this;refine(W A hA.hn).done s Q E rp λh' tk hk=> ?_;have yc:∀b x,b≠I->s.heap.get? b=aa x->h'.get? b=aa x:=λb x hb e=>hk b x (by simpa using hb) e;have W6:rest=[]:=by rw[hr];exact sO (by exact aiE hl)
   cases e:h'.get? I with
   |some o'=>exact h0 W6 (c.nq I o') {s with heap:=h',toks:=tk} aM.oT (R.nq ho yc e) (dZ.heap ..).P
   |none=>exact h0 W6 {c with pin:=λa=>if a=I then ac else c.pin a} {s with heap:=h',toks:=tk} ⟨λq q e=>e,λq q=>rfl,λa ha=>if_neg ha⟩ (R.Gv ho yc) (dZ.heap ..).P
 self:=λ{O rest c s} hJ R hA E Q h=>by left;let ⟨⟨i,hi,hr,rp⟩,_⟩:=hJ;right;exact(W A hA.hn).self i s Q E rp h
 Vj:=λ{O rest c s} hJ R cD v E Q h=>by left;let ⟨⟨i,hi,hr,rp⟩,_⟩:=hJ;let ⟨o,ho,hc⟩:=hSt _ _ rp;right;exact rI ho hc hT cD v h
def kZ (S:cz) (k:Nat) (O:List AO) (ae:iv) (e:Expr) (ok:List AO->Prop) (xs:List PV):Prop:=
 ∀A c s env,jD k A->cY c ↑O ae env->Rel S c O s.heap->∀(E:VS) (Q:VS),
  (∀(c':aM) (s':bb) (I:Value) (own:Addr->Prop) (J:List PV->aM->bb->Prop),aM.pK own ↑O c c'->(∀a,own a->c.pin a=ac)->Rel S c' O s'.heap->dZ s s'->
   sk S k A own s.gens.size ↑O ok I J->ok O->J xs c' s'->Q I s')->
  wpAny (MM S.w) A (eval e env) (λx eG=>wpAny (MM S.w) A (pyIter x) Q E eG) E s
def Rel.IY {s:bb} (R:Rel S c O s.heap) (ho:o.isFreed=false):Rel S (c.pinned [(s.heap.objs.size,o)]) O (s.heap.push o):=by have R':Rel S c O (s.heap.push o):=R.ext λb x e=>aJ _ e;exact R'.pinned (λp hp=>by rw[aB]at hp;subst hp;exact(R.free (ab s.heap.objs.size))) λp hp=>by rw[aB]at hp;subst hp;exact aV _ ho
def aM.lD (c:aM) (I:Addr) (o:Obj):(c.pinned [(I,o)]).pin I=aa o:=by show(gP I [(I,o)]).or (c.pin I)=aa o;rw[di,beq_self_eq_true];rfl
def aM.vA:aM.pK (· =I) n c (c.pinned [(I,o)]):=by refine⟨λq q e=>e,λq q=>rfl,λa ha=> ?_⟩;show(gP a [(I,o)]).or (c.pin a)=c.pin a;rw[di,beq_false_of_ne ha];rfl
structure LJ (I:Addr) (w:jB) (oP:Nat) (d:AV) (l rest:List PV) (c:aM) (s:bb):Prop where
 here:∃i ax,rest=l.drop i/\s.heap.IsListIter I ax i/\cT w c oP (.ref ax) d
 pin:∃o,c.pin I=aa o
def sk.list {A:cR} {I:Addr} {g oP:Nat} {d:AV} {l:List PV}:sk S k A (· =I) g oP (λO=>IsL O d l) (.ref I) (LJ I S.w oP d l) where
 keep:=λ{m rest c c' O bv s s'} hJ hn wb _ R R'=>by left;let ⟨⟨i,ax,hr,hit,hv⟩,⟨o,ho⟩⟩:=hJ;right;refine⟨⟨i,ax,hr,?_,hv.mono (wb.weak hn) (ab _)⟩,⟨o,by rw[wb.pin];exact ho⟩⟩;have e1:=(R.pins _ _ ho).1;have e2:=(R'.pins I o (by rw[wb.pin];exact ho)).1;let ⟨x,hx,r⟩:=hit;rw[e1]at hx;cases hx;exact⟨_,e2,r⟩
 next:=λ{O rest c s} hJ R hn mY hA E Q h0 h1=>by
  left;let ⟨⟨i,ax,hr,hit,hv⟩,⟨o,ho⟩⟩:=hJ;let ⟨a,vs,m,e,hl,hs,hp⟩:=mY.at R (hv.mono (.refl ..) hn);right;cases e;rcases bS i ↑l with(kR|Aw)
  ·have hx:vs[i]? =aa (vs[i]'(by simp_all)):=by simp[hs,kR]
   refine wpAny_pyNext_list_item hit (IsL.isList hl) hx λh' agf qa=> ?_;let ⟨o',rZ,r'⟩:=id agf;refine h1 l[i] (l.drop (i+1)) (by rw[hr];exact gU kR) (c.nq I o') _ {s with heap:=h'} aM.oT (R.nq ho qa.extBut rZ) (dZ.gF ..).P ⟨⟨i+1,ax,rfl,agf,?_⟩,⟨o',if_pos rfl⟩⟩ (hp i _ _ hx (by simp[kR]));exact hv.j5 (λq q e=>e) (λq q=>rfl) (ab _)
  ·refine wpAny_pyNext_list_end hA.hn hit (IsL.isList hl) (by simp;simp_all) λh' hk=> ?_;have W6:rest=[]:=by rw[hr];exact sO Aw
   cases e:h'.get? I with
   |some o'=>exact h0 W6 (c.nq I o') {s with heap:=h'} aM.oT (R.nq ho hk e) (dZ.gF ..).P
   |none=>exact h0 W6 {c with pin:=λa=>if a=I then ac else c.pin a} {s with heap:=h'} ⟨λq q e=>e,λq q=>rfl,λa ha=>if_neg ha⟩ (R.Gv ho hk) (dZ.gF ..).P
 self:=λ{O rest c s} hJ R hA E Q h=>by left;let ⟨⟨i,ax,hr,hit,hv⟩,_⟩:=hJ;right;exact wpAny_pyIter_listiter hit h
 Vj:=λ{O rest c s} hJ R cD v E Q h=>by left;let ⟨⟨i,ax,hr,⟨o,ho,hc,_⟩,hv⟩,_⟩:=hJ;right;exact rI ho hc rfl cD v h
def kZ.list (h:Ev S k O ae e d O) (hl:IsL O d l):kZ S k O ae e (λO=>IsL O d l) l:=by
 intro A c s env hA hE R E Q hQ;refine h.run A c s env hA hE R _ _ λc1 v1 s1 l1 R1 K1 a1=> ?_;left;let ⟨a,vs,m,rfl,ho,hs,hr⟩:=hl.at R1 a1;right;refine wpAny_pyIter_list (IsL.isList ho) ?_;refine hQ _ _ (.ref s1.heap.objs.size) (· =s1.heap.objs.size) _ (l1.P.trans aM.vA (ab _)) (λa ha=>by subst ha;exact l1.pin▸((R1.free (ab s1.heap.objs.size)).pin)) (R1.IY rfl) (K1.trans (.gF ..)) sk.list hl
  ⟨⟨0,a,rfl,⟨_,aV _ rfl,rfl,rfl⟩,a1.pinned⟩,⟨_,aM.lD ..⟩⟩
def kZ.ofWalks
  (h:∀A c s env,jD k A->cY c ↑O ae env->Rel S c O s.heap->∀(E:VS) (Q:VS),
   (∀(c1:aM) (s1:bb) (o:Obj) (fp:List Addr) (n:Nat) (P:Nat->Value->Prop) (St:Nat->iQ->Prop) (T:String),aM.le ↑O c c1->Rel S c1 O s1.heap->dZ s s1->o.isFreed=false->
    (∀A:cR,A.handled=ac->Walks pw S.w A s1.heap.objs.size fp [s1.heap.objs.size] n P St)->(∀i h,St i h->∃o,h.get? s1.heap.objs.size=aa o/\o.cls= .type T)->wV.contains T=false-> ↑xs=n->
    (∀i v,i<n->P i v->∃x,xs[i]? =aa x/\dk S.w c1.F v x)->(∀b∈fp,b=s1.heap.objs.size\/∃x,c1.F b=aa x)->St 0 (s1.heap.push o)->Q (.ref s1.heap.objs.size) {s1 with heap:=s1.heap.push o})->
   wpAny (MM S.w) A (eval e env) (λx eG=>wpAny (MM S.w) A (pyIter x) Q E eG) E s) (mY:ok O):kZ S k O ae e ok xs:=by
 intro A c s env hA hE R E Q hQ;refine h A c s env hA hE R E Q λc1 s1 o fp n P St T l1 R1 K1 ho W hSt hT hl hP hfp h0=> ?_;refine hQ _ _ (.ref s1.heap.objs.size) (· =s1.heap.objs.size) _ (l1.P.trans aM.vA (ab _)) (λa ha=>by subst ha;exact l1.pin▸((R1.free (ab s1.heap.objs.size)).pin)) (R1.IY ho) (K1.trans (.gF ..)) (sk.ofWalks W hSt hT hl hP A) mY ?_;exact⟨⟨0,cI _,rfl,h0⟩,⟨_,aM.lD ..⟩,hfp,λq q e=>e⟩
def kZ.tuple (h:nH S k O ae e (.tup l)) (mY:ok O):kZ S k O ae e ok l:=by
 refine kZ.ofWalks (λA c s env hA hE R E Q hQ=> ?_) mY;refine h.run A c s env hA hE R _ _ λc1 v1 s1 l1 R1 K1 a1=> ?_;have Kb:=a1.gh;let ⟨a,vs,n,rfl,hF,hs,hr⟩:=Kb.En;have ho:=R1.frozen _ _ hF;have hT:s1.heap.IsTuple a vs:=⟨_,ho,rfl,_,rfl⟩;refine Ce hT ?_;refine hQ c1 s1 _ [s1.heap.objs.size,a] vs.size _ _ "tuple_iterator" l1 R1 K1 rfl (λA' ID=>uV ID _ a (cU (bW ho)) vs) (λi h st=>xe13 (st.1) λo ho hc q=>⟨o,ho,hc⟩) rfl hs.symm ?_ ?_ ?_
 ·intro i v _ hv;have hi:=(iS.mp hv).1;exact⟨l[i]'(by simp_all),aq (by simp_all),hr i v _ hv (aq (by simp_all))⟩
 ·intro b hb;rcases aH.mp hb with(e|hb)
  ·exact .inl e
  ·rw[aB]at hb;subst hb;exact .inr ⟨_,hF⟩
 ·exact⟨⟨_,aV _ rfl,rfl,rfl⟩,hT.push _⟩
noncomputable def ym (x:Str):List PV:=x.cps.toList.map λc=> .str ⟨#[c]⟩
def kZ.str (h:nH S k O ae e (.str x)) (ha:x.cps.all (· <128)=true) (mY:ok O):kZ S k O ae e ok (ym x):=by
 refine kZ.ofWalks (λA c s env hA hE R E Q hQ=> ?_) mY;refine h.run A c s env hA hE R _ _ λc1 v1 s1 l1 R1 K1 a1=> ?_;have Kb:=a1.gh;let ⟨t,rfl⟩:=Kb.mD;refine wpAny_pyIter_ascii ha ?_;refine hQ c1 s1 _ [s1.heap.objs.size] x.cps.size _ _ "str_ascii_iterator" l1 R1 K1 rfl (λA' ID=>Walks.strAscii ID _ x t) (λi h st=>xe13 (st) λo ho hc q=>⟨o,ho,hc⟩) rfl (by simp[ym]) ?_ ?_ ?_
 ·rintro i v _ ⟨c,u,hc,rfl⟩;exact⟨.str ⟨#[c]⟩,by simp[ym,hc],.str ..⟩
 ·intro b hb;rw[aB]at hb;exact .inl hb
 ·exact⟨_,aV _ rfl,rfl,rfl⟩
def kZ.dict (h:nH S k O ae e (.oK l)) (mY:ok O):kZ S k O ae e ok (l.map λp=> .str p.1):=by
 refine kZ.ofWalks (λA c s env hA hE R E Q hQ=> ?_) mY;refine h.run A c s env hA hE R _ _ λc1 v1 s1 l1 R1 K1 a1=> ?_;let ⟨a,es,n,kvs,rfl,hm,ho,nd,hp⟩:=S6.val.at R1 a1;have Kb:=a1.gh;let ⟨_,_,q,_,hF,_,_,rfl,_⟩:=Kb.XX;cases q;have hA:=hp.dictOf ho nd;have hk:=hp.keys;refine wpAny_pyIter_dict hm hA ?_;refine hQ c1 s1 _ [s1.heap.objs.size,a] ↑kvs _ _ "dict_keyiterator" l1 R1 K1 rfl (λA' ID=>Walks.dictKeys (knd:=strKind pw S.w) ID _ a (cU (bW ho)) kvs n) (λi h st=>xe13 (st.1) λo ho hc z=>⟨o,ho,hc⟩) rfl (by rw[aw,(by have:=congrArg eX hk;simpa using this: ↑kvs= ↑l)]) ?_ ?_ ?_
 ·rintro i v _ ⟨kk,x,hx,hv⟩;let ⟨t,rfl⟩:=vY hv;have sI:(l.map (·.1))[i]? =aa kk:=by rw[<- hk,bN,hx];rfl
  rw[bN]at sI;simp only[ar]at sI;let ⟨p,W9,rfl⟩:=sI;exact⟨.str p.1,by rw[bN,W9];rfl,.str ..⟩
 ·intro b hb;rcases aH.mp hb with(e|hb)
  ·exact .inl e
  ·rw[aB]at hb;subst hb;exact .inr ⟨_,hF⟩
 ·exact⟨⟨_,aV _ rfl,rfl,rfl⟩,hA.keep λb o e=>aJ _ e⟩
noncomputable def iI (n:Nat):List PV:=(cJ n).map λ(i:Nat)=>PV.int (i:Int)
def y9 {n:Nat} (h:n<2 ^ 20):Cz 0 n 1=true/\pG 0 n 1=n:=by
 have e:pG 0 n 1=n:=by unfold pG;simp;exact aiF
 refine⟨?_,e⟩;unfold Cz;rw[e];unfold Builtin.Range.rangeFitsLong;simp;exact aiG h
def kZ.range {n:Nat} (hf:nH S k O ae (.Name f np) (.con (.type "range"))) (h:nH S k O ae x (.int n)) (hn:n<2 ^ 20) (hs:notStar x=true) (mY:ok O):
  kZ S k O ae (.Call (.Name f np) [x] [] pos) ok (iI n):=by
 refine kZ.ofWalks (λA c s env hA hE R E Q hQ=> ?_) mY;have hv:nk S k O (.type "range") [.pv (.int n)] (.pv (.con .none)) O->True:=λq=>trivial;have ha:ck S k O ae [x] [.pv (.int n)]:= .cons h .nil hs;refine cn (hf.run A c s env hA hE R _ _ λc1 v1 s1 l1 R1 K1 a1=> ?_);have e:=a1.dn;subst e;refine ed (noStar ha pos env) ?_;refine eg ha _ pos A c1 s1 env hA (hE.mono l1 (ab _)) R1 _ _ λc2 vs s2 l2 R2 K2 a2=> ?_;have h9:=a2.i1;clear a2;let ⟨_,_,rfl,a2,b2⟩:=h9;obtain rfl:=b2.i0;have D7:=a2.gh;let ⟨t,rfl⟩:=D7.kH;refine call_range_1 ?_;let ⟨hsm,hsz⟩:=y9 hn;refine wpAny_pyIter_range (a:=0) (b:=n) (c:=1) (t:=s2.toks) (u:=t) (v:=s2.toks+1) (aV _ rfl) hsm ?_;rw[hsz];have R3:Rel S c2 O (s2.heap.push {cls:= .type "range",data:= .fields #[.int 0 s2.toks,.int n t,.int 1 (s2.toks+1)]}):=R2.ext λb o e=>aJ _ e;refine hQ c2 {s2 with heap:=s2.heap.push {cls:= .type "range",data:= .fields #[.int 0 s2.toks,.int n t,.int 1 (s2.toks+1)]},toks:=s2.toks+1+1} _ [_] n _ _ "range_iterator" (l1.trans l2 (ab _)) R3 ((K1.trans K2).trans (.heap ..)) rfl
  (λA' ID=>Walks.range ID _ 0 1 n) (λi h st=>⟨_,st,rfl⟩) rfl (by simp[iI]) ?_ ?_ ?_
 ·rintro i v hi ⟨t',rfl⟩;exact⟨.int i,by simp[iI,hi],by rw[show(0:Int)+(i:Int)*1=i by exact aaT];exact .int ..⟩
 ·intro b hb;rw[aB]at hb;exact .inl hb
 ·show IsRangeIter _ _ (0+((0:Nat):Int)*1) ((n:Int)- ((0:Nat):Int)) 1;rw[show(0:Int)+((0:Nat):Int)*1=0 by omega,show(n:Int)- ((0:Nat):Int)=n by exact aiH];exact aV _ rfl
def dg.ofItems {vs:Vs}:∀ {ds:List PV},↑vs= ↑ds->(∀(i:Nat) (v:Value) (d:PV),vs[i]? =aa v->ds[i]? =aa d->dk w c.F v d)->dg w c n vs (ds.map AV.pv):=by
 induction vs with
 |nil=>
  intro ds h _;induction ds with
  |nil=>exact .nil
  |cons=>cases h
 |cons v vs ih=>
  intro ds h hr;induction ds with
  |nil=>cases h
  |cons d ds=>exact .cons (.pv (hr 0 v d rfl rfl)) (ih (lX h) λi=>hr (i+1))
inductive A6 (S:cz) (k:Nat) (ae:iv):List AO->List Expr->List PV->List AO->Prop
 |nil {O:List AO}:A6 S k ae O [] [] O
 |cons {O bw bP:List AO} {t:Expr} {rest:List Expr} {d:PV} {ds:List PV}:Di S k O ae t (.pv d) bw->A6 S k ae bw rest ds bP->notStar t=true->A6 S k ae O (t::rest) (d::ds) bP
def A6.len (h:A6 S k ae O ts ds bv): ↑O<= ↑bv:=by
 induction h with
 |nil=>exact ab _
 |cons h _ _ ih=>exact aA h.len ih
def lm (h:notStar e=true):assignEach (e::rest) env=(false,assign e env)::assignEach rest env:=by cases e<;>first|rfl|cases h
def A6.shape (h:A6 S k ae O ts ds bv) (env:lW): ↑(assignEach ts env)= ↑ds/\(assignEach ts env).findIdx? (·.1)=ac:=by
 induction h with
 |nil=>exact⟨rfl,rfl⟩
 |cons _ _ hn ih=>rw[lm hn];refine⟨by rw[az,az,ih.1],?_⟩;rw[OQ];simp[ih.2]
def A6.run (h:A6 S k ae O ts ds bv):∀(A:cR) (c:aM) (s:bb) (env:lW) (vs:Vs),jD k A->cY c ↑O ae env->Rel S c O s.heap->dg S.w c ↑O vs (ds.map AV.pv)->
  ∀(E:VS) (Q:Unit->bb->Prop),(∀c' s',aM.le ↑O c c'->Rel S c' bv s'.heap->dZ s s'->Q () s')->wpAny (MM S.w) A (assignInOrder ((assignEach ts env).map (·.2)) vs) Q E s:=by
 induction h with
 |nil=>intro A c s env vs hA hE R hv E Q hQ;obtain rfl:=hv.i0;exact aR (hQ c s (.refl ..) R (.refl ..))
 |cons h1 h2 hn ih=>intro A c s env vs hA hE R hv E Q hQ;let ⟨_,_,rfl,a,b⟩:=hv.i1;rw[lm hn];refine am (dH (h1.run A c s env _ hA hE R a _ _ λc1 s1 l1 R1 K1=> ?_));exact ih A c1 s1 env _ hA (hE.mono l1 h1.len) R1 (b.mono l1 h1.len) E Q λc2 s2 l2 R2 K2=>hQ c2 s2 (l1.trans l2 h1.len) R2 (K1.trans K2)
def Di.tup (h:A6 S k ae O ts ds bv):Di S k O ae (.Tuple ts n pos) (.pv (.tup ds)) bv:=by refine⟨h.len,λA c s env v hA hE R hv E Q hQ=> ?_⟩;have vU:=hv.gh;obtain(⟨_,_,_,rfl,hF,hs,hr⟩):=vU.En;obtain(⟨e1,e2⟩):=h.shape env;refine Cf hA.hn ⟨_,R.frozen _ _ hF,rfl,_,rfl⟩ (by rw[e1,hs]) e2 λh' hk=> ?_;have R':Rel S c O h':=R.ext λb o e=>hk b o (cU (bW e)) e;refine h.run A c {s with heap:=h'} env _ hA hE R' ?_ E Q λc1 s1 l1 R1 K1=>hQ c1 s1 l1 R1 ((dZ.gF ..).trans K1);exact dg.ofItems (by rw[bz];exact hs) (dk.TU hr)
def cY.pf {own:Addr->Prop} {c c':aM} {n n':Nat} {ae:iv} {env:lW} (h:cY c n ae env) (hc:aM.pK own n c c') (hn:n<=n'):cY c' n' ae env where
 scope:=h.scope
 kind:=h.kind
 locals:=h.locals.trans (hc.Z _ h.fi).symm
 fi:=a8 h.fi hn
 globals:=h.globals
 builtins:=h.builtins
 cells:=h.cells.trans (cj λp hp=>by rw[hc.Z _ (h.jp p hp)])
 jp:=λp hp=>a8 (h.jp p hp) hn
 code:=h.code
 frame:=h.frame
def sE.gN (h:sE w c n f g):sE w (c.gN c₀) n f g:=by
 induction h with
 |next=>exact .next
 |brk=>exact .brk
 |cont=>exact .cont
 |ret h=>exact .ret h.gN
def aM.pK.Gw {own:Addr->Prop} (h:aM.pK own n c c') (ho:∀a,own a->c.pin a=ac):(∀a o,c.pin a=aa o->c'.pin a=aa o)/\aM.le n c (c'.gN c):=
 ⟨λa o e=>by rw[h.pin a λh=>by rw[ho a h]at e;cases e];exact e,⟨h.F,h.Z,rfl⟩⟩
inductive S7 (S:cz) (k:Nat) (ae:iv) (cD:Expr) (body:List Stmt):List AO->List PV->nU->List AO->Prop
 |nil {O:List AO}:S7 S k ae cD body O [] .next O
 |cons {O bw bP rl:List AO} {x:PV} {rest:List PV} {f:nU}:Di S k O ae cD (.pv x) bw->cG S k bw ae body .next bP->S7 S k ae cD body bP rest f rl->S7 S k ae cD body O (x::rest) f rl
 |ret {O bw bP:List AO} {x:PV} {rest:List PV} {d:AV}:Di S k O ae cD (.pv x) bw->cG S k bw ae body (.ret d) bP->S7 S k ae cD body O (x::rest) (.ret d) bP
def S7.len (h:S7 S k ae cD body O xs f bv): ↑O<= ↑bv:=by
 induction h with
 |nil=>exact ab _
 |cons a b _ ih=>exact aA (aA a.len b.len) ih
 |ret a b=>exact aA a.len b.len
def S7.run (h:S7 S k ae cD body O xs f bv):∀ {own:Addr->Prop} {g oP:Nat} {I:Value} {J:List PV->aM->bb->Prop}
  (A:cR) (c:aM) (s:bb) (env:lW),sk S k A own g oP (λq=>True) I J->J xs c s->oP<= ↑O->jD k A->cY c ↑O ae env->Rel S c O s.heap->
  ∀(Q:Cj->bb->Prop),(∀c' v s',aM.pK own ↑O c c'->Rel S c' bv s'.heap->lC g s s'->sE S.w c' ↑bv v f->Q v s')->
   codeAny (MM S.w) A (.forLoop cD I body [] env) (λr s'=>match r with| .ok f=>Q f s'| .error e=>False) s:=by
 induction h with
 |nil=>intro own g oP I J A c s env P hJ hn hA hE R Q hQ;refine fb ?_;rw[cy (by rfl)];show wpAny _ A ((forTurn _ _ _ _ env).onRaise (λx=>do noteFrame x env;theTreesLotGoes x)) _ _ s;refine jA ?_;simp only[forTurn];refine am (cV (am (kA (P.next hJ R hn trivial hA _ _ (λq c1 s1 l1 R1 K1=> ?_) λx r e=>by nomatch e))));exact aR ⟨rfl,Ax (jy (hQ c1 .next s1 l1 R1 K1 .next))⟩
 | @cons O bw bP rl x rest f h1 h2 h3 ih=>
  intro own g oP I J A c s env P hJ hn hA hE R Q hQ;refine fb ?_;rw[cy (by rfl)];show wpAny _ A ((forTurn _ _ _ _ env).onRaise (λx=>do noteFrame x env;theTreesLotGoes x)) _ _ s;refine jA ?_;simp only[forTurn];refine am (cV (am (kA (P.next hJ R hn trivial hA _ _ (λe=>by nomatch e) λy r e c1 v s1 l1 R1 K1 J1 a1=> ?_))));injection e with e1 e2;subst e1 e2;refine am (P.Vj J1 R1 cD v _ _ ?_);have rq:=hE.pf l1 (ab _);refine am (h1.run A c1 s1 env v hA rq R1 (.pv a1) _ _ λc2 s2 l2 R2 K2=> ?_);have H4:=rq.mono l2 h1.len;refine am (h2.run A c2 s2 env hA H4 R2 _ _ λc3 v3 s3 l3 R3 K3 f3=> ?_);obtain rfl:=f3.wL;have FG:=l2.trans l3 h1.len;refine aR ⟨rfl,?_⟩;have cH: ↑O<= ↑bP:=aA h1.len h2.len;exact ih A c3 s3 env P (P.keep J1 hn FG (K2.trans K3) R1 R3) (aA hn cH) hA (rq.mono FG cH) R3 Q λc4 v4 s4 l4 R4 K4 f4=>
   hQ c4 v4 s4 ((l1.trans FG.P (ab _)).trans l4 cH) R4 ((K1.trans (K2.trans K3).P).trans K4) f4
 | @ret O bw bP x rest d h1 h2=>intro own g oP I J A c s env P hJ hn hA hE R Q hQ;refine fb ?_;rw[cy (by rfl)];show wpAny _ A ((forTurn _ _ _ _ env).onRaise (λx=>do noteFrame x env;theTreesLotGoes x)) _ _ s;refine jA ?_;simp only[forTurn];refine am (cV (am (kA (P.next hJ R hn trivial hA _ _ (λe=>by nomatch e) λy r e c1 v s1 l1 R1 K1 J1 a1=> ?_))));injection e with e1 e2;subst e1 e2;refine am (P.Vj J1 R1 cD v _ _ ?_);have rq:=hE.pf l1 (ab _);refine am (h1.run A c1 s1 env v hA rq R1 (.pv a1) _ _ λc2 s2 l2 R2 K2=> ?_);have H4:=rq.mono l2 h1.len;refine am (h2.run A c2 s2 env hA H4 R2 _ _ λc3 v3 s3 l3 R3 K3 f3=> ?_);have h9:=f3.Mx;clear f3;let ⟨_,rfl,f3⟩:=h9;exact aR (hQ c3 _ s3 (l1.trans (l2.trans l3 h1.len).P (ab _)) R3 (K1.trans (K2.trans K3).P) (.ret f3))
def iW.for (hi:kZ S k O ae ky (λq=>True) xs) (hl:S7 S k ae cD body O xs f bv) (hs:∀env x,foldedSetIterable ky env x=pure x):
  iW S k O ae (.For cD ky body [] pos) f bv:=by
 refine⟨hl.len,λA c s env hA hE R E Q hQ=> ?_⟩;refine OH (hi A c s env hA hE R _ _ λc1 s1 I own J l1 ho R1 K1 P q J1=> ?_) (hs env);refine vX (hl.run A c1 s1 env P J1 (ab _) hA (hE.pf l1 (ab _)) R1 Q λc2 v2 s2 l2 R2 K2 f2=> ?_) (λr s' x=>by induction r with|ok f=>exact x|error e=>exact x.elim);let ⟨u1,u2⟩:=(l1.trans l2 (ab _)).Gw ho;exact hQ _ v2 s2 u2 (R2.gN u1) (lC.K (K1.P.trans K2)) f2.gN
noncomputable def z5 (II:List Expr) (env:lW):zV Bool:=forIn II true λc r=>if r=true then do let ok <- isTrue c env (eval c env);pure (Ms ok) else pure (Ms r)
def qO (e:Expr) (gens:List dI) (emit:Value->lW->zV Unit):Prop:=
 ∀(w:jB) (A:cR) (E:VS) (Q:Fin->bb->Prop) (s:bb) (d:Nat) (it dA:Value) (env:lW) (g:dI),gens[d]? =aa g->g.is_async=0->
  (∀g',gens[d+1]? =aa g'->g'.is_async=0/\∀x,foldedSetIterable g'.iter env x=pure x)->
  wpAny (MM w) A (pyNext it) (λr eG=>match r with
   |none=>Q (.done .next) eG
   |some v=>wpAny (MM w) A (letOwnedTupleGo g.target it v) (λq rk=>wpAny (MM w) A (assign g.target env v) (λq agg=>wpAny (MM w) A (z5 g.ifs env) (λok Vo=>
     if ok=true then(match gens[d+1]? with
      |some g'=>wpAny (MM w) A (eval g'.iter env) (λx Se=>wpAny (MM w) A (pyIter x) (λI agh=>codeAny (MM w) A (.compStart e (d+1) I dA env) (λr agi=>match r with
        | .ok _=>Q (.again (.compLoop e d it dA env)) agi
        | .error _=>False) agh) E Se) E Vo
      |none=>wpAny (MM w) A (emit dA env) (λq Se=>Q (.again (.compLoop e d it dA env)) Se) E Vo)
     else Q (.again (.compLoop e d it dA env)) Vo) E agg) E rk) E eG) E s->
  wpAny (MM w) A (compTurn e d it dA env) Q E s
noncomputable def Do (F4:Expr) (dA:Value) (env:lW):zV Unit:=do let x <- eval F4 env;let _ <- call (.builtin "list.append") [dA,x];pure ()
noncomputable def Gx (kx vx:Expr) (dA:Value) (env:lW):zV Unit:=do
 let kv <- eval kx env;let vv <- holding [kv] (eval vx env)
 match dA with
 | .ref d=>do
  standAt {kx.pos with endLine:=vx.pos.endLine,endCol:=vx.pos.endCol}
  holding [kv,vv] (dictSet d kv vv)
 |_=>unsupported "internal:dictcomp"
def Gy {emit:Value->lW->zV Unit} (he:(∃F4 scope pos,e=Expr.ListComp F4 gens scope pos/\emit=Do F4)\/
  ∃kx vx scope pos,e=Expr.DictComp kx vx gens scope pos/\emit=Gx kx vx):qO e gens emit:=by
 intro w A E Q s d it dA env g hg ha hn h;let ⟨t,it0,fs,as⟩:=g;obtain rfl:as=0:=ha;unfold compTurn;generalize hM:compTurn.match_3 _ e _ _ _ _ _=M;obtain rfl:M=(gens,emit dA env):=by rw[<- hM];rcases he with⟨_,_,_,rfl,rfl⟩|⟨_,_,_,_,rfl,rfl⟩<;>rfl
 clear hM;clear he;dsimp only;generalize gens[d]? =o at hg⊢;subst hg;refine am (cV ?_);refine am (fZ h (λr eG H5=> ?_) λq q x=>x);induction r with
 |none=>exact aR H5
 |some v=>
  refine am (fZ H5 (λq rk H6=> ?_) λq q x=>x);refine am (fZ H6 (λq agg ajH=> ?_) λq q x=>x);refine am (fZ ajH (λok Vo Sf=> ?_) λq q x=>x);induction ok with
  |false=>exact aR Sf
  |true=>
   cases wj:gens[d+1]? with
   |none=>rw[wj]at Sf;exact am (fZ Sf (λq Se Zr=>aR Zr) λq q x=>x)
   |some g'=>
    rw[wj]at Sf;let ⟨ha',qa⟩:=hn g' wj;let ⟨t',it1,fs',as'⟩:=g';obtain rfl:as'=0:=ha';refine am (fZ Sf (λx Se Zr=> ?_) λq q x=>x);refine am (cV ?_);refine am (i5 (qa x) ?_);refine am (dH (fZ Zr (λI agh ajJ=> ?_) λq q x=>x));refine am (wpAny_runOwn (vX ajJ λr agi agj=> ?_));induction r with
    |ok f=>exact aR agj
    |error e=>exact agj.elim
def Dp (F4:Expr) (gens:List dI) (scope:Scope) (pos:Pos):qO (.ListComp F4 gens scope pos) gens (Do F4):=Gy (.inl ⟨F4,scope,pos,rfl,rfl⟩)
def MO (kx vx:Expr) (gens:List dI) (scope:Scope) (pos:Pos):qO (.DictComp kx vx gens scope pos) gens (Gx kx vx):=Gy (.inr ⟨kx,vx,scope,pos,rfl,rfl⟩)
inductive mf:Expr->List dI->Prop
 |list (F4:Expr) (gens:List dI) (scope:Scope) (pos:Pos):mf (.ListComp F4 gens scope pos) gens
 |dict (kx vx:Expr) (gens:List dI) (scope:Scope) (pos:Pos):mf (.DictComp kx vx gens scope pos) gens
def mf.Lk (h:mf e gens):clausesOf e=gens:=by cases h<;>rfl
def mf.loop (h:mf e gens)
  (hc:wpAny (MM w) A (compTurn e d it dA env) (λfin s'=>match fin with| .done f=>R (.ok f) s'| .again c'=>c'.quiet=true/\codeAny (MM w) A c' R s') (λq q=>False) s):
  codeAny (MM w) A (.compLoop e d it dA env) R s:=by
 have key:wpAny (MM w) A ((compTurn e d it dA env).onRaise (λx=>do noteFrame x env;theTreesLotGoes x)) (λfin s'=>match fin with| .done f=>R (.ok f) s'| .again c'=>c'.quiet=true/\codeAny (MM w) A c' R s') (λe s'=>R (.error e) s') s:=
  jA (fZ hc (λq q x=>x) λq q f=>f.elim)
 refine fb ?_;induction h with
 |list=>rw[cy (by rfl)];exact key
 |dict=>rw[cy (by rfl)];exact key
def mf.start (h:mf e gens) (hg:∀g∈gens,g.is_async=0)
  (h0:codeAny (MM w) A (.compLoop e d it dA env) R s) (h1:∀(E:VS) (Q:VS),Q it s->wpAny (MM w) A (pyIter it) Q E s):codeAny (MM w) A (.compStart e d it dA env) R s:=by
 have hq:(Code.compLoop e d it dA env).quiet=true:=by cases h<;>rfl
 have Sg:((clausesOf e)[d]?).elim false (λg=>g.is_async !=0)=false:=by
  rw[h.Lk];cases e:gens[d]? with
  |none=>rfl
  |some g=>show(g.is_async !=0)=false;rw[hg g (bo e)];rfl
 have key:wpAny (MM w) A ((compStart e d it dA env).onRaise (λx=>do noteFrame x env;standAt theWindowsPlace)) (λfin s'=>match fin with| .done f=>R (.ok f) s'| .again c'=>c'.quiet=true/\codeAny (MM w) A c' R s') (λe s'=>R (.error e) s') s:=by
  refine wpAny_notedAt ?_;unfold compStart;rw[Sg];show wpAny _ _ (ask >>= _) _ _ s;refine am (wpAny_askSetting (wpAny_ite ?_));split
  ·first
    |exact am (aR (aR (VO hq h0)))
    |exact aR (VO hq h0)
  ·refine am (Kr ?_);have fin:wpAny (MM w) A (pyIter it >>= λit'=>(pure (Fin.again (.compLoop e d it' dA env)):zV Fin)) (λfin s'=>match fin with| .done f=>R (.ok f) s'| .again c'=>c'.quiet=true/\codeAny (MM w) A c' R s') (notedBy (MM w) A env λe s'=>R (.error e) s') s:=
    am (h1 _ _ (aR ⟨hq,h0⟩))
   cases hd:(clausesOf e)[d]? with
   |none=>exact fin
   |some g=>exact am (cV fin)
 refine fb ?_;induction h with
 |list=>rw[cy (by rfl)];exact key
 |dict=>rw[cy (by rfl)];exact key
def pg (S:cz) (k:Nat) (O:List AO) (ae:iv) (II:List Expr) (b:Bool):Prop:=
 ∀A c s env,jD k A->cY c ↑O ae env->Rel S c O s.heap->
  ∀(E:VS) (Q:Bool->bb->Prop),(∀c' s',aM.le ↑O c c'->Rel S c' O s'.heap->dZ s s'->Q b s')->wpAny (MM S.w) A (z5 II env) Q E s
def pg.nil:pg S k O ae [] true:=λA c s env q q R E Q hQ=>by unfold z5;rw[qx];exact aR (hQ c s (.refl ..) R (.refl ..))
def pg.one (h:ou S k O ae t b):pg S k O ae [t] b:=λA c s env hA hE R E Q hQ=>by unfold z5;rw[ub,if_pos rfl];refine am (am (h A c s env hA hE R _ _ λc1 s1 l1 R1 K1=>aR ?_));show wpAny _ _ (forIn [] b _) _ _ _;rw[qx];exact aR (hQ c1 s1 l1 R1 K1)
def vB (S:cz) (k:Nat) (ae:iv) (emit:Value->lW->zV Unit) (ai:Nat) (O bv:List AO):Prop:=
 ↑O<= ↑bv/\∀A c s env dA,jD k A->cY c ↑O ae env->Rel S c O s.heap->cT S.w c ↑O dA (.fM ai)->
  ∀(E:VS) (Q:Unit->bb->Prop),(∀c' s',aM.le ↑O c c'->Rel S c' bv s'.heap->dZ s s'->Q () s')->wpAny (MM S.w) A (emit dA env) Q E s
inductive Gz (S:cz) (k:Nat) (ae:iv) (gens:List dI) (em:List AO->List AO->Prop):Nat->(List AO->Prop)->List AO->List PV->List AO->Prop
 |nil {d:Nat} {ok:List AO->Prop} {O:List AO}:ok O->Gz S k ae gens em d ok O [] O
 |skip {d:Nat} {ok:List AO->Prop} {O bw bP:List AO} {x:PV} {rest:List PV} {g:dI}:gens[d]? =aa g->ok O->Di S k O ae g.target (.pv x) bw->pg S k bw ae g.ifs false->
   Gz S k ae gens em d ok bw rest bP->Gz S k ae gens em d ok O (x::rest) bP
 |emit {d:Nat} {ok:List AO->Prop} {O bw bP rl:List AO} {x:PV} {rest:List PV} {g:dI}:gens[d]? =aa g->gens[d+1]? =ac->ok O->Di S k O ae g.target (.pv x) bw->pg S k bw ae g.ifs true->
   em bw bP->Gz S k ae gens em d ok bP rest rl->Gz S k ae gens em d ok O (x::rest) rl
 |inner {d:Nat} {ok ok':List AO->Prop} {O bw bP rl:List AO} {x:PV} {rest xs:List PV} {g g':dI}:gens[d]? =aa g->gens[d+1]? =aa g'->ok O->Di S k O ae g.target (.pv x) bw->pg S k bw ae g.ifs true->
   kZ S k bw ae g'.iter ok' xs->Gz S k ae gens em (d+1) ok' bw xs bP->Gz S k ae gens em d ok bP rest rl->Gz S k ae gens em d ok O (x::rest) rl
def Gz.len (hem:∀a b,em a b-> ↑a<= ↑b) (h:Gz S k ae gens em d ok O xs bv): ↑O<= ↑bv:=by
 induction h with
 |nil=>exact ab _
 |skip _ _ a _ _ ih=>exact aA a.len ih
 |emit _ _ _ a _ e _ ih=>exact aA (aA a.len (hem _ _ e)) ih
 |inner _ _ _ a _ _ _ _ ih1 ih2=>exact aA (aA a.len ih1) ih2
def cT.MP (h:cT w c n v d) (hc:aM.pK own n c c') (hn:n<=n'):cT w c' n' v d:=h.j5 hc.F hc.Z hn
def Gz.run {emit:Value->lW->zV Unit} (he:mf e gens) (zy:qO e gens emit) (hg:∀g∈gens,g.is_async=0) (hf:∀g∈gens,∀env x,foldedSetIterable g.iter env x=pure x)
  (h:Gz S k ae gens (vB S k ae emit ai) d ok O xs bv):(gens[d]?).isSome->∀ {own:Addr->Prop} {vV oP:Nat} {I:Value} {J:List PV->aM->bb->Prop}
  (A:cR) (c:aM) (s:bb) (env:lW) (dA:Value),sk S k A own vV oP ok I J->J xs c s->oP<= ↑O->jD k A->cY c ↑O ae env->Rel S c O s.heap->cT S.w c ↑O dA (.fM ai)->
  ∀(Q:bb->Prop),(∀c' s',aM.pK own ↑O c c'->Rel S c' bv s'.heap->lC vV s s'->Q s')->
   codeAny (MM S.w) A (.compLoop e d I dA env) (λr s'=>match r with| .ok f=>Q s'| .error e=>False) s:=by
 have vj:∀d env g',gens[d+1]? =aa g'->g'.is_async=0/\∀x,foldedSetIterable g'.iter env x=pure x:=λd env g' e=>⟨hg _ (bo e),hf _ (bo e) env⟩;have hqu:∀d I dA env,(Code.compLoop e d I dA env).quiet=true:=λd I dA env=>by cases he<;>rfl
 induction h with
 | @nil d ok O mY=>intro hd own vV oP I J A c s env dA P hJ hn hA hE R ha Q hQ;let ⟨g,hd⟩:=ji.mp hd;refine he.loop (zy _ _ _ _ _ _ _ _ _ _ hd (hg _ (bo hd)) (vj d env) ?_);exact P.next hJ R hn mY hA _ _ (λq c1 s1 l1 R1 K1=>hQ c1 s1 l1 R1 K1) λx r e=>by nomatch e
 | @skip d ok O bw bP x rest g hd mY h1 h2 h3 ih=>intro Av own vV oP I J A c s env dA P hJ hn hA hE R ha Q hQ;refine he.loop (zy _ _ _ _ _ _ _ _ _ _ hd (hg _ (bo hd)) (vj d env) ?_);refine P.next hJ R hn mY hA _ _ (λe=>by nomatch e) λy r e c1 v s1 l1 R1 K1 J1 a1=> ?_;injection e with e1 e2;subst e1 e2;have rq:=hE.pf l1 (ab _);refine P.Vj J1 R1 g.target v _ _ (h1.run A c1 s1 env v hA rq R1 (.pv a1) _ _ λc2 s2 l2 R2 K2=> ?_);have H4:=rq.mono l2 h1.len;refine h2 A c2 s2 env hA H4 R2 _ _ λc3 s3 l3 R3 K3=> ?_;have FG:=l2.trans l3 h1.len;rw[if_neg bF];refine⟨hqu ..,ih Av A c3 s3 env dA P (P.keep J1 hn FG (K2.trans K3) R1 R3) (aA hn h1.len) hA (rq.mono FG h1.len) R3 ((ha.MP l1 (ab _)).mono FG h1.len) Q λc4 s4 l4 R4 K4=> ?_⟩;exact hQ c4 s4 ((l1.trans FG.P (ab _)).trans l4 h1.len) R4 ((K1.trans (K2.trans K3).P).trans K4)
 | @emit d ok O bw bP rl x rest g hd hnx mY h1 h2 h3 h4 ih=>intro Av own vV oP I J A c s env dA P hJ hn hA hE R ha Q hQ;refine he.loop (zy _ _ _ _ _ _ _ _ _ _ hd (hg _ (bo hd)) (vj d env) ?_);refine P.next hJ R hn mY hA _ _ (λe=>by nomatch e) λy r e c1 v s1 l1 R1 K1 J1 a1=> ?_;injection e with e1 e2;subst e1 e2;have rq:=hE.pf l1 (ab _);refine P.Vj J1 R1 g.target v _ _ (h1.run A c1 s1 env v hA rq R1 (.pv a1) _ _ λc2 s2 l2 R2 K2=> ?_);have H4:=rq.mono l2 h1.len;refine h2 A c2 s2 env hA H4 R2 _ _ λc3 s3 l3 R3 K3=> ?_;have FG:=l2.trans l3 h1.len;rw[if_pos rfl,hnx];have Zs:=rq.mono FG h1.len;have ha3:=(ha.MP l1 (ab _)).mono FG h1.len;refine h3.2 A c3 s3 env dA hA Zs R3 ha3 _ _ λc4 s4 l4 R4 K4=> ?_;have C1:=aA h1.len h3.1;have Vp:=FG.trans l4 h1.len;have J4:=P.keep J1 hn Vp ((K2.trans K3).trans K4) R1 R4;refine⟨hqu ..,ih Av A c4 s4 env dA P J4 (aA hn C1) hA (rq.mono Vp C1) R4 ((ha.MP l1 (ab _)).mono Vp C1) Q λc5 s5 l5 R5 K5=> ?_⟩;exact hQ c5 s5 ((l1.trans Vp.P (ab _)).trans l5 C1) R5 ((K1.trans ((K2.trans K3).trans K4).P).trans K5)
 | @inner d ok ok' O bw bP rl x rest ys g g' hd hnx mY h1 h2 h3 h4 h5 ih1 ih2=>intro Av own vV oP I J A c s env dA P hJ hn hA hE R ha Q hQ;refine he.loop (zy _ _ _ _ _ _ _ _ _ _ hd (hg _ (bo hd)) (vj d env) ?_);refine P.next hJ R hn mY hA _ _ (λe=>by nomatch e) λy r e c1 v s1 l1 R1 K1 J1 a1=> ?_;injection e with e1 e2;subst e1 e2;have rq:=hE.pf l1 (ab _);refine P.Vj J1 R1 g.target v _ _ (h1.run A c1 s1 env v hA rq R1 (.pv a1) _ _ λc2 s2 l2 R2 K2=> ?_);refine h2 A c2 s2 env hA (rq.mono l2 h1.len) R2 _ _ λc3 s3 l3 R3 K3=> ?_;have FG:=l2.trans l3 h1.len;rw[if_pos rfl,hnx];have Zs:=rq.mono FG h1.len;refine h3 A c3 s3 env hA Zs R3 _ _ λc4 s4 I' AK J' l4 ho R4 K4 P' anw J4=> ?_;refine he.start hg (vX (ih1 (by rw[hnx];rfl) A c4 s4 env dA P' J4 (ab _) hA (Zs.pf l4 (ab _)) R4 (((ha.MP l1 (ab _)).mono FG h1.len).MP l4 (ab _)) _ λc5 s5 l5 R5 K5=> ?_) λr s' x=>x) λE Q hq=>P'.self J4 R4 hA E Q hq;let ⟨u1,u2⟩:=(l4.trans l5 (ab _)).Gw ho;have R6:=R5.gN u1;have K5':dZ s3 s5:=lC.K (K4.P.trans K5);have C1:=aA h1.len ((λ{d:Nat} {ok:List AO->Prop} {O bv:List AO} {xs:List PV} (h:Gz S k ae gens (vB S k ae emit ai) d ok O xs bv)=>h.len (λa b h=>h.1)) h4);have Vq:=FG.trans u2 h1.len;refine⟨hqu ..,ih2 Av A _ s5 env dA P (P.keep J1 hn Vq ((K2.trans K3).trans K5') R1 R6) (aA hn C1) hA (rq.mono Vq C1) R6 ((ha.MP l1 (ab _)).mono Vq C1) Q λc7 s7 l7 R7 K7=> ?_⟩;exact hQ c7 s7 ((l1.trans Vq.P (ab _)).trans l7 C1) R7 ((K1.trans ((K2.trans K3).trans K5').P).trans K7)
noncomputable def j8 {α:Type} (cells:List (Str×α)):List (Str×qd)->List (Str×α)->Option (List (Str×α))
 | [],dA=>aa dA
 |p::r,dA=>if p.2== .free then(cells.lookup p.1).bind λa=>j8 cells r ((p.1,a)::dA) else j8 cells r dA
def ph:j8 cells (p::r) dA=if p.2== .free then(cells.lookup p.1).bind λa=>j8 cells r ((p.1,a)::dA) else j8 cells r dA:=rfl
def mS (h:j8 env.cells scope.names []=aa cl):closureFor scope env=pure cl:=by
 have key:∀(names:List (Str×qd)) (dA:List (Str×Addr)) (f:Str×qd->List (Str×Addr)->zV (ForInStep (List (Str×Addr)))),
   (∀n k cs,f (n,k) cs=if k== .free then(do let a <- cellOf env n;pure (.yield ((n,a)::cs))) else pure (.yield cs))->∀r,j8 env.cells names dA=aa r->forIn names dA f=(pure r:zV _):=by
  intro names;induction names with
  |nil=>intro dA f hf r h;obtain rfl:=ag h;rfl
  |cons p names ih=>
   let ⟨n,k⟩:=p;intro dA f hf r h;rw[ph]at h;rw[ub,hf];cases hk:k==SQ with
   |true=>
    rw[hk,if_pos rfl]at h;cases hl:env.cells.lookup n with
    |none=>rw[hl]at h;nomatch h
    |some a=>rw[hl]at h;rw[if_pos rfl,(by unfold cellOf;rw[hl]:cellOf env n=pure a)];exact ih _ f hf r h
   |false=>rw[hk,if_neg bF]at h;rw[if_neg bF];exact ih _ f hf r h
 simp only[closureFor];rw[key scope.names [] _ (λn k cs=>by cases hk:k==SQ<;>simp[hk]) cl h];rfl
def X4 (f:α->β) (cells:List (Str×α)):(cells.map λp=>(p.1,f p.2)).lookup n=(cells.lookup n).map f:=by
 induction cells with
 |nil=>rfl
 |cons p l ih=>rw[bx,di,di,ih];cases n==p.1<;>rfl
def qP (f:α->β) (cells:List (Str×α)) (names:List (Str×qd)):∀(dA r:List (Str×α)),j8 cells names dA=aa r->
  j8 (cells.map λp=>(p.1,f p.2)) names (dA.map λp=>(p.1,f p.2))=aa (r.map λp=>(p.1,f p.2)):=by
 induction names with
 |nil=>intro dA r h;exact ag h▸rfl
 |cons q names ih=>
  intro dA r h;rw[ph]at h⊢;by_cases e:(q.2== .free)=true
  ·rw[if_pos e]at h;rw[if_pos e,X4];exact a9 h λa hl h=>by rw[hl];exact ih _ r h
  ·rw[if_neg e]at h;rw[if_neg e];exact ih _ r h
def sZ (hc:∀p∈cells,p.2<n) (names:List (Str×qd)):∀(dA r:Sn),(∀p∈dA,p.2<n)->j8 cells names dA=aa r->∀p∈r,p.2<n:=by
 induction names with
 |nil=>intro dA r ha h;exact ag h▸ha
 |cons q names ih=>
  intro dA r ha h;rw[ph]at h;by_cases e:(q.2== .free)=true
  ·rw[if_pos e]at h;refine a9 h λa hl h=>ih _ r (λp hp=> ?_) h;rcases aH.mp hp with e|e
   ·exact e▸hc _ (XZ hl)
   ·exact ha p e
  ·rw[if_neg e]at h;exact ih _ r ha h
def pR
  (h:Q (newEnv scope s.heap.objs.size globals (cellsFrom (s.heap.objs.size+1) scope.names cl) qual ac .none (aa env) builtinsNs) {s with heap:=pushCells (s.heap.push {cls:= .type "dict",data:= .dict #[]}) scope.names}):
  wpAny M A (newFunctionEnv scope globals cl [] qual ac .none (aa env)) Q E s:=by
 simp only[newFunctionEnv,Option.isSome_some,if_true];refine am (F9 ?_);refine am (Kt _ (λname kind cells=>by cases hkc:kind==kX<;>simp[hkc]) _ _ _ _ ?_);rw[show({s with heap:=s.heap.push {cls:= .type "dict",data:= .dict #[]}}:bb).heap.objs.size=s.heap.objs.size+1 from eU ..];refine am ?_;rw[qx];exact aR (aR h)
noncomputable def fj (names:List (Str×qd)):Nat:= ↑(names.filter λp=>p.2== .cell)
def Rel.A7 (names:List (Str×qd)):∀ {c:aM} {O:List AO} {h:iQ} (dA:Sn),Rel S c O h->(∀p∈dA,p.2< ↑O)->
  ∃c',aM.le ↑O c c'/\Rel S c' (O++bQ (fj names) (.cell ac)) (pushCells h names)/\
   cellsFrom h.objs.size names (dA.map λp=>(p.1,c.Z p.2))=(cellsFrom ↑O names dA).map (λp=>(p.1,c'.Z p.2))/\∀p∈cellsFrom ↑O names dA,p.2< ↑O+fj names:=by
 induction names with
 |nil=>intro c O h dA R ha;exact⟨c,.refl ..,by simpa[fj,pushCells]using R,rfl,by simpa[fj,cellsFrom]using ha⟩
 |cons q9 names ih=>
  intro c O h dA R ha;obtain(⟨n,k⟩):=q9;unfold pushCells cellsFrom;cases hk:k==kX with
  |false=>
   have e:fj ((n,k)::names)=fj names:=by simp[fj,hk]
   rw[e];exact ih dA R ha
  |true=>
   have e:fj ((n,k)::names)=fj names+1:=by simp[fj,hk]
   rw[e];simp only[if_true];have R1:Rel S (c.own ↑O h.objs.size) (O++[.cell ac]) (h.push {cls:= .type "cell",data:= .cell ac}):=
    R.AK (λb o e=>aJ _ e) (ab _) (aV _ rfl) (.cell rfl rfl (λx e=>by cases e) λq=>rfl)
   have ha':∀p∈(n,↑O)::dA,p.2< ↑(O++[AO.cell ac]):=by
    intro p hp;rw[aj,be];rcases aH.mp hp with e|e
    ·subst e;exact ez _
    ·exact eI (ha p e)
   left;let ⟨c',l1,R2,h3,h4⟩:=ih ((n,↑O)::dA) R1 ha';have cH: ↑(O++[AO.cell ac])= ↑O+1:=by rw[aj,be]
   right;refine⟨c',aM.ja.trans l1 (aaU cH),?_,?_,?_⟩
   ·rw[wu,List.append_cons];exact R2
   ·rw[cH]at h3;rw[<- h3,eU,bx];rw[(aM.lZ ..)];congr 2;exact cj λp hp=>by rw[aM.ja.Z _ (ha p hp)]
   ·intro p hp;rw[cH]at h4;exact a8 (h4 p hp) (aiI)
noncomputable def wW (scope outer:Scope):Scope:=
 {scope with names:=scope.names.map λ(n,k)=>if (k== .free&&outer.kind== .function&&outer.names.lookup n==aa .cell) then(n,.cell) else(n,k)}
def A8 (ae:iv) (scope:Scope) (n:Nat) (cl:Sn):iv:= {scope:=wW scope ae.scope,fi:=n+1,cells:=cellsFrom (n+2) scope.names cl,code:=ae.code}
def Rel.T6 {c:aM} {h h':iQ} {a:Addr} (R:Rel S c O h) (ha:qz c ↑O a) (hk:∀b o,b≠a->h.get? b=aa o->h'.get? b=aa o):Rel S c O h' where
 frozen:=λx o e=>hk _ _ (by rintro rfl;rw[ha.F]at e;nomatch e) (R.frozen x o e)
 base:=R.base
 own:=λi ao e=>xe12 (R.own i ao e) λo p q=>⟨o,hk _ _ (ha.Z i (by
  rcases bS i ↑O with h|h
  ·exact h
  ·rw[bB h]at e;nomatch e)) p,q⟩
 apart:=R.apart
 inj:=R.inj
 pins:=λx o e=>⟨hk _ _ (by rintro rfl;rw[ha.pin]at e;nomatch e) (R.pins x o e).1,(R.pins x o e).2⟩
 tabs:=λq hq=>let ⟨x,b,ps,d,e⟩:=R.tabs q hq;⟨x,b,ps,hk _ _ (ha.tab q hq) d,e⟩
def MQ {loc:List Str}
  (he:mf e gens) (zy:qO e gens emit) (Kd:gens=g::gs) (hg:∀g∈gens,g.is_async=0) (hf:∀g∈gens,∀env x,foldedSetIterable g.iter env x=pure x)
  (H7:j8 ae.cells scope.names []=aa cl) (qr:scope.kind= .function) (FE:∀x∈scope.names,x.2= .local->scope.names.lookup x.1=aa .local) (Xa:loc.Nodup)
  (hi:kZ S k O ae g.iter ok xs)
  (ku:∀(A:cR) (s:bb) (E:VS) (Q:VS),Q (.ref s.heap.objs.size) {s with heap:=s.heap.push accObj}->wpAny (MM S.w) A newAcc Q E s) (uH:accObj.isFreed=false)
  (Sh:∀(c:aM) (n:Nat),ic S.w c n accObj qt)
  (H8:Gz S k (A8 ae scope ↑O cl) gens (vB S k (A8 ae scope ↑O cl) emit ↑O) 0 ok (O++(qt:: .ns (loc.map λx=>(x,ac))::bQ (fj scope.names) (.cell ac))) xs (O++Cb:: .ns m'::τ'))
  (hz:Gm (Cb:: .ns m'::τ') ↑O (.fM (↑O+0)) (.pv d)):
  ∀(A:cR) (c:aM) (s:bb) (env:lW),jD k A->cY c ↑O ae env->Rel S c O s.heap->∀(use:Option (Value->zV Unit)) (E:VS) (Q:VS),
   (∀c' dA s' fa m,aM.le ↑O c c'->Rel S c' O s'.heap->dZ s s'->dk S.w c'.F dA d->qz c' ↑O fa->s'.heap.Ns fa m->compPost (MM S.w) A E use Q dA fa (.ok .next) s')->
   wpAny (MM S.w) A (comprehension e scope env pos newAcc false (eval g.iter env) use) Q E s:=by
 intro A c s env hA hE R use E Q hQ;have D8:closureFor scope env=pure (cl.map λp=>(p.1,c.Z p.2)):=by refine mS ?_;rw[hE.cells];exact qP c.Z ae.cells scope.names [] cl H7
 have sG:∀p∈cl,p.2< ↑O:=sZ hE.jp scope.names [] cl (λp hp=>by nomatch hp) H7;refine wpAny_comprehension_free (by rw[he.Lk,Kd]) (hf g (by rw[Kd];exact ay) env) D8 qr FE ?_;refine hi A c s env hA hE R _ _ λc1 s1 I own J l1 ho R1 K1 P mY J1=> ?_;refine ku A s1 E _ ?_;have l2:aM.le ↑O c1 (c1.own ↑O s1.heap.objs.size):=aM.ja;have R2:Rel S (c1.own ↑O s1.heap.objs.size) (O++[qt]) (s1.heap.push accObj):=R1.AK (λb o e=>aJ _ e) (ab _) (aV _ uH) (Sh _ _);refine pR ?_;have C1: ↑(O++[qt])= ↑O+1:=by rw[aj,be]
 generalize Zt:c1.own ↑O s1.heap.objs.size=c2 at l2 R2;have L9:c2.Z ↑O=s1.heap.objs.size:=by exact Zt▸(aM.lZ ..)
 generalize hH2:s1.heap.push accObj=H2 at R2;have R3:Rel S (c2.own ↑(O++[qt]) H2.objs.size) (O++[qt]++[.ns (loc.map λx=>(x,ac))]) (H2.push {cls:= .type "dict",data:= .dict #[]}):=
  R2.AK (λb o e=>aJ _ e) (ab _) (aV _ rfl) (.ns (es:= #[]) (ep:=0) rfl (λe he=>by simp at he) (by rw[bC];simpa[KA]using Xa)
   (λx d hx=>by let ⟨y,_,e⟩:=aQ.mp hx;nomatch e) λx q=>rfl)
 have l3:aM.le ↑(O++[qt]) c2 (c2.own ↑(O++[qt]) H2.objs.size):=aM.ja;generalize OC:c2.own ↑(O++[qt]) H2.objs.size=c3 at R3 l3;have Vr:c3.Z (↑O+1)=H2.objs.size:=by rw[<- OC,<- C1];exact aM.lZ ..
 have Zu: ↑(O++[qt]++[AO.ns (loc.map λx=>(x,ac))])= ↑O+2:=by rw[aj,C1,be]
 have l13:aM.le ↑O c1 c3:=l2.trans l3 (aaU C1);let ⟨c4,l4,R4,mO,FH⟩:=Rel.A7 scope.names cl R3 (λp hp=>by rw[Zu];exact a8 (sG p hp) (aiJ));rw[Zu]at mO FH;rw[eU]at mO;have l14:aM.le ↑O c1 c4:=l13.trans l4 (aiK Zu);have ajN:O++[qt]++[AO.ns (loc.map λx=>(x,ac))]++bQ (fj scope.names) (AO.cell ac)=O++(qt:: .ns (loc.map λx=>(x,ac))::bQ (fj scope.names) (.cell ac)):=by simp
 rw[ajN]at R4;generalize HY:O++(qt:: .ns (loc.map λx=>(x,ac))::bQ (fj scope.names) (.cell ac))=σ4 at R4 H8;have Cc: ↑σ4= ↑O+2+fj scope.names:=by rw[<- HY,aj,az,az,nD];exact aiL
 rw[(cj λp hp=>by rw[(l1.trans l13.P (ab _)).Z _ (sG p hp)]:(cl.map λp=>(p.1,c.Z p.2))=cl.map λp=>(p.1,c3.Z p.2)),mO];have hE4:cY c4 ↑σ4 (A8 ae scope ↑O cl) {newEnv scope H2.objs.size env.globals ((cellsFrom (↑O+2) scope.names cl).map λp=>(p.1,c4.Z p.2)) env.qual ac .none (aa env) builtinsNs with scope:=relabel scope env}:= {
  scope:=by show relabel scope env=wW scope ae.scope;unfold relabel wW Env.kindOf;rw[hE.scope]
  kind:=qr
  locals:=by
   show H2.objs.size=c4.Z (↑O+1);rw[l4.Z _ (aaW Zu),Vr]
  fi:=by show ↑O+1< ↑σ4;exact aaX Cc
  globals:=hE.globals
  builtins:=hE.builtins
  cells:=rfl
  jp:=λp hp=>by rw[Cc];exact FH p hp
  code:=hE.code
  frame:=hE.frame}
 have K4:dZ s1 {s1 with heap:=pushCells (H2.push {cls:= .type "dict",data:= .dict #[]}) scope.names}:= .gF ..;have J4:=P.keep J1 (ab _) l14 K4 R1 R4;have ha4:cT S.w c4 ↑σ4 (.ref s1.heap.objs.size) (.fM ↑O):=by
  have e:c4.Z ↑O=s1.heap.objs.size:=by rw[l4.Z _ (aaY Zu),l3.Z _ (aaZ C1),L9]
  rw[<- e];exact .fM (aa0 Cc)
 refine he.start hg (vX (H8.run he zy hg hf (by rw[Kd];rfl) A c4 _ _ _ P J4 (aa1 Cc) hA hE4 R4 ha4 (λs'=>compPost (MM S.w) A E use Q (.ref s1.heap.objs.size) H2.objs.size (.ok .next) s') λc5 s5 l5 R5 K5=> ?_) λr s' x=> ?_) λE Q hq=>P.self J4 R4 hA E Q hq
 ·have XJ:aM.pK own ↑O c c5:=(l1.trans l14.P (ab _)).trans l5 (aa1 Cc);let ⟨u1,u2⟩:=XJ.Gw ho;have R6:=R5.gN u1;have e5:c5.Z ↑O=s1.heap.objs.size:=by rw[l5.Z _ (aa0 Cc),l4.Z _ (aaY Zu),l3.Z _ (aaZ C1),L9]
  have agn: ↑O< ↑(O++Cb:: .ns m'::τ'):=by rw[aj,az];exact XO
  have ago: ↑O+1< ↑(O++Cb:: .ns m'::τ'):=by rw[aj,az,az];exact aiM
  have hv:cT S.w (c5.gN c) ↑(O++Cb:: .ns m'::τ') (.ref s1.heap.objs.size) (.fM (↑O+0)):=by exact e5▸(.fM agn)
  have tU:(O++Cb:: .ns m'::τ')[↑O+1]? =aa (.ns m'):=by rw[aE (bh ..),bO];rfl
  left;let ⟨f,Si,_⟩:=R6.ns tU;let ⟨c7,l7,R7,a7,fr7⟩:=Gm.run R R6 rfl (λq q h=> .inl h) hz hv;right;have oO:(eM s1.heap.objs.size)≠ .ref ((c5.gN c).Z (↑O+1)):=by intro e;injection e with e;have:=R6.inj ↑O (↑O+1) agn ago (e5.trans e);exact aiN this
  have:=hQ c7 _ s5 _ f (u2.trans l7 (ab _)) R7 (lC.K (K1.P.trans (K4.P.trans K5))) a7.gh (fr7 _ (R6.KW (bh _ 1) ago) oO) Si;rw[((by rw[l5.Z _ (aaX Cc),l4.Z _ (aaW Zu),Vr]):(c5.gN c).Z (↑O+1)=H2.objs.size)]at this;exact this
 ·cases r with
  |ok f=>cases use<;>exact x
  |error e=>exact x.elim
def Ev.PG (h:∀(A:cR) (c:aM) (s:bb) (env:lW),jD k A->cY c ↑O ae env->Rel S c O s.heap->∀(E:VS) (Q:VS),
   (∀c' dA s' fa m,aM.le ↑O c c'->Rel S c' O s'.heap->dZ s s'->dk S.w c'.F dA d->qz c' ↑O fa->s'.heap.Ns fa m->compPost (MM S.w) A E ac Q dA fa (.ok .next) s')->
   wpAny (MM S.w) A (eval e env) Q E s):nH S k O ae e d:=by
 refine⟨ab _,λA c s env hA hE R E Q hQ=> ?_⟩;refine h A c s env hA hE R E Q λc1 dA s1 fa m l1 R1 K1 a1 hfa tU=> ?_;exact⟨m,tU,λh' qa=>hQ c1 dA _ l1 (R1.T6 hfa qa.extBut) (K1.trans (.gF ..)) (.pv a1)⟩
section
variable {lay:Lay}
structure ko (lay:Lay) (p:Iz) (st cf:St) (O bv:List AO):Prop where
 len: ↑O<= ↑bv
 len0:lay.grow=false-> ↑bv= ↑O/\ ↑cf.ob= ↑st.ob
 obs: ↑st.ob<= ↑cf.ob
 out:∀i,i< ↑O->i≠p.fi->(∀j,j<lay.own->p.ci[j]? ≠aa i)->(∀j,j< ↑st.ob->i≠p.oi j)->bv[i]? =O[i]?
def ko.refl (p:Iz) (st:St) (O:List AO):ko lay p st st O O:=⟨ab _,λq=>⟨rfl,rfl⟩,ab _,λq q q q q=>rfl⟩
def ko.trans {p:Iz} {st Ma D9:St} {O bw bP:List AO} (h:ko lay p st Ma O bw) (h':ko lay p Ma D9 bw bP) (bc:At lay p st O):ko lay p st D9 O bP where
 len:=aA h.len h'.len
 len0:=λhg=>⟨(h'.len0 hg).1.trans (h.len0 hg).1,(h'.len0 hg).2.trans (h.len0 hg).2⟩
 obs:=aA h.obs h'.obs
 out:=λi hi h1 h2 h3=>by
  refine(h'.out i (a8 hi h.len) h1 h2 λj hj=> ?_).trans (h.out i hi h1 h2 h3);rcases bS j ↑st.ob with kR|Aw
  ·exact h3 j kR
  ·cases hg:lay.grow with
   |false=>have:=(h.len0 hg).2;exact aiO hj this Aw
   |true=>have:=bc.next hg (j- ↑st.ob);rw[show ↑st.ob+(j- ↑st.ob)=j by exact TF Aw]at this;exact aiP hi this
def ie (i:Nat) (v:CV) (st:St):St:= {st with lv:=st.lv.set i (aa v)}
def rJ (i:Nat) (v:CV) (st:St):St:= {st with cv:=st.cv.set i (aa v)}
def iT.zip {loc:List Str}:∀ {m:List (Option AV)} {i:Nat},loc[i]? =aa x->i< ↑m->iT x d (loc.zip m) (loc.zip (m.set i (aa d))):=by
 induction loc with
 |nil=>exact λh q=>gq h
 |cons a loc ih=>
  intro m i h hl;cases m with
  |nil=>exact absurd hl (iy _)
  |cons b m=>
   induction i with
   |zero=>obtain rfl:=ag h;exact .here
   |succ i=>exact .there (ih h (tZ hl))
def getElem?_lt' {l:List α} (h:l[i]? =aa x):i< ↑l:=by
 rcases bS i ↑l with h'|h'
 ·exact h'
 ·rw[bB h']at h;nomatch h
def At.ie (bc:At lay p st O) (h:lay.ni i x=true) (v:CV):
  ∃bv,jY S O (lay.en p) x (v.av p.oi) bv/\At lay p (ie i v st) bv/\ko lay p st (ie i v st) O bv:=by
 unfold Lay.ni at h;simp only[dj,beq_iff_eq]at h;left;let ⟨⟨h1,h2⟩,_⟩:=h;right;have hs:iT x (v.av p.oi) (lay.loc.zip (TY p.oi st.lv)) (lay.loc.zip (TY p.oi (st.lv.set i (aa v)))):=by have:=iT.zip (d:=v.av p.oi) (m:=TY p.oi st.lv) h1 (by simpa using (by rw[bc.N2];exact getElem?_lt' h1));rw[show TY p.oi (st.lv.set i (aa v))=(TY p.oi st.lv).set i (aa (v.av p.oi)) from List.map_set];exact this
 have H9:∀n,n≠p.fi->∀o,(O.set p.fi o)[n]? =O[n]? :=λn hn o=>bD hn.symm;refine⟨_,jY.loc bc.frame h2 hs rfl,?_,?_⟩
 ·refine⟨?_,by simpa[Mine.ie]using bc.N2,bc.xZ,bc.FD,λj w hw=> ?_,λj o ho=> ?_,bc.Zm,bc.Zn,bc.Vh,bc.W3,bc.Vi,λhg j=> ?_⟩
  ·show(O.set p.fi _)[p.fi]? =_;rw[bU (getElem?_lt' bc.frame)];rfl
  ·let ⟨n,hn,hc⟩:=bc.cells j w hw;refine⟨n,hn,?_⟩;show(O.set p.fi _)[n]? =_;rw[H9 n (λe=>bc.Zm (e▸bo hn))];exact hc
  ·show(O.set p.fi _)[p.oi j]? =_;rw[H9 _ (bc.Zn j (getElem?_lt' ho))];exact bc.obs j o ho
  ·show p.oi (↑st.ob+j)= ↑(O.set p.fi _)+j;exact(bi).symm▸(bc.next hg j)
 ·refine⟨by show ↑O<= ↑(O.set p.fi _);rw[bi];exact ab _,λq=>⟨bi,rfl⟩,ab _,λn hn h1 q q=>H9 n h1 _⟩
def Lay.GA (lay:Lay) (i:Nat) (x:Str):Bool:=idxOf x lay.nj==aa i&&lay.scope.names.lookup x==aa .cell&&decide (i<lay.own)
def PH {l:List Str}:∀ {i:Nat},idxOf x l=aa i->i< ↑l:=by
 induction l with
 |nil=>intro i h;nomatch h
 |cons a l ih=>
  intro i h;rw[idxOf_cons]at h;by_cases e:(x==a)=true
  ·rw[if_pos e]at h;obtain rfl:=ag h;exact Nat.zero_lt_succ _
  ·rw[if_neg e]at h;let ⟨j,hj,rfl⟩:=ar.mp h;exact Nat.succ_lt_succ (ih hj)
def At.rJ (bc:At lay p st O) (h:lay.GA i x=true) (v:CV):
  ∃bv,jY S O (lay.en p) x (v.av p.oi) bv/\At lay p (rJ i v st) bv/\ko lay p st (rJ i v st) O bv:=by
 unfold Lay.GA at h;simp only[dj,beq_iff_eq,decide_eq_true_eq]at h;left;let ⟨⟨h1,h2⟩,h3⟩:=h;have H3:i< ↑st.cv:=by rw[bc.xZ];exact(PH h1)
 let ⟨n,hn,hc⟩:=bc.cells i _ (aq H3);have H9:∀m,m≠n->∀o,(O.set n o)[m]? =O[m]? :=λm hm o=>bD hm.symm;have ajO:n≠p.fi:=λe=>bc.Zm (e▸bo hn);right;refine⟨_,jY.cell h2 (AX h1 hn) hc rfl,?_,?_⟩
 ·refine⟨?_,bc.N2,by simpa[Mine.rJ]using bc.xZ,bc.FD,λj w hw=> ?_,λj o ho=> ?_,bc.Zm,bc.Zn,bc.Vh,bc.W3,bc.Vi,λhg j=> ?_⟩
  ·rw[H9 _ ajO.symm];exact bc.frame
  ·have hw':(st.cv.set i (aa v))[j]? =aa w:=hw;by_cases Ke:i=j
   ·subst Ke;rw[bU H3]at hw';obtain rfl:=ag hw';exact⟨n,hn,by rw[bU (getElem?_lt' hc)];rfl⟩
   ·rw[bD Ke]at hw';let ⟨m,hm,hcm⟩:=bc.cells j w hw';refine⟨m,hm,?_⟩;have hmn:m≠n:=by rintro rfl;let ⟨a1,b1⟩:=((eO.mp hn));let ⟨a2,b2⟩:=((eO.mp hm));exact Ke ((AC bc.W3).mp (b1.trans b2.symm))
    rw[H9 m hmn];exact hcm
  ·have:p.oi j≠n:=λe=>bc.Vh j (getElem?_lt' ho) (e▸bo hn);rw[H9 _ this];exact bc.obs j o ho
  ·exact(bi).symm▸(bc.next hg j)
 ·refine⟨by rw[bi];exact ab _,λq=>⟨bi,rfl⟩,ab _,λm hm h1 OA q=>H9 m (λe=>OA i h3 (e▸hn)) _⟩
def Cw (S:cz) (k:Nat) (lay:Lay) (t:Expr) (tg:CV->St->Option St):Prop:=
 ∀p O st v cf,At lay p st O->tg v st=aa cf->∃bv,Di S k O (lay.en p) t (v.av p.oi) bv/\At lay p cf bv/\ko lay p st cf O bv/\cf.ob=st.ob
def bf (i:Nat) (v:CV) (st:St):Option St:=aa (ie i v st)
def jI (i:Nat) (v:CV) (st:St):Option St:=aa (rJ i v st)
def Cw.loc (h:lay.ni i x=true):Cw S k lay (.Name x pos) (bf i):=by intro p O st v cf bc hf;obtain rfl:=ag hf;let ⟨bv,a,b,c⟩:=bc.ie (S:=S) h v;exact⟨bv,Di.name a,b,c,rfl⟩
def Cw.nj (h:lay.GA i x=true):Cw S k lay (.Name x pos) (jI i):=by intro p O st v cf bc hf;obtain rfl:=ag hf;let ⟨bv,a,b,c⟩:=bc.rJ (S:=S) h v;exact⟨bv,Di.name a,b,c,rfl⟩
def MR (S:cz) (k:Nat) (lay:Lay) (ts:List Expr) (tg:List PV->St->Option St):Prop:=
 ∀p O st ds cf,At lay p st O->tg ds st=aa cf->∃bv,A6 S k (lay.en p) O ts ds bv/\At lay p cf bv/\ko lay p st cf O bv/\cf.ob=st.ob
noncomputable def pS:List PV->St->Option St
 | [],st=>aa st
 |_,_=>ac
noncomputable def eT (f:CV->St->Option St) (g:List PV->St->Option St):List PV->St->Option St
 |d::ds,st=>(f (.pv d) st).bind (g ds)
 |_,_=>ac
def MR.nil:MR S k lay [] pS:=by
 intro p O st ds cf bc hf;induction ds with
 |nil=>obtain rfl:=ag hf;exact⟨O,.nil,bc,.refl ..,rfl⟩
 |cons=>nomatch hf
def MR.cons (h1:Cw S k lay t f) (h2:MR S k lay rest g) (hn:notStar t=true):MR S k lay (t::rest) (eT f g):=by
 intro p O st ds cf bc hf;induction ds with
 |nil=>cases hf
 |cons d ds=>unfold eT at hf;simp only[aG]at hf;left;let ⟨st1,Ia,Sj⟩:=hf;let ⟨lI,a1,b1,c1,d1⟩:=h1 p O st _ st1 bc Ia;let ⟨uQ,a2,b2,c2,d2⟩:=h2 p lI st1 ds cf b1 Sj;right;exact⟨uQ,.cons a1 a2 hn,b2,c1.trans c2 bc,d2.trans d1⟩
def pT (g:List PV->St->Option St) (v:CV) (st:St):Option St:=v.aT.bind λds=>g ds st
def Cw.tup (h:MR S k lay ts g):Cw S k lay (.Tuple ts n pos) (pT g):=by intro p O st v cf bc hf;refine a9 hf λds e hf=> ?_;rw[CV.kT e];let ⟨bv,a,b,c,d⟩:=h p O st _ cf bc hf;exact⟨bv,Di.tup a,b,c,d⟩
inductive pj where
 |next
 |ret (v:CV)
def pj.af (oi:NN):pj->nU
 | .next=> .next
 | .ret v=> .ret (v.av oi)
abbrev SF:=St->Option (pj×St)
abbrev OV:=Option CV
abbrev EF:=St->OV
abbrev Sp:=List (Str×PV)
def mu (S:cz) (k:Nat) (lay:Lay) (s:Stmt) (F:St->Option (pj×St)):Prop:=
 ∀p O st fl cf,At lay p st O->F st=aa (fl,cf)->∃bv,iW S k O (lay.en p) s (fl.af p.oi) bv/\At lay p cf bv/\ko lay p st cf O bv
def jZ (S:cz) (k:Nat) (lay:Lay) (ss:List Stmt) (F:St->Option (pj×St)):Prop:=
 ∀p O st fl cf,At lay p st O->F st=aa (fl,cf)->∃bv,cG S k O (lay.en p) ss (fl.af p.oi) bv/\At lay p cf bv/\ko lay p st cf O bv
noncomputable def br (st:St):Option (pj×St):=aa (.next,st)
noncomputable def aC (f g:SF) (st:St):Option (pj×St):=match f st with
 |some (.next,st1)=>g st1
 |some (.ret v,st1)=>aa (.ret v,st1)
 |none=>ac
def jZ.nil:jZ S k lay [] br:=by intro p O st fl cf bc hf;let ⟨rfl,rfl⟩:=bG (ag hf);exact⟨O,.nil,bc,.refl ..⟩
def qQ (h:aC f g st=aa (fl,cf)):(∃s,f st=aa (.next,s)/\g s=aa (fl,cf))\/∃v,f st=aa (.ret v,cf)/\fl= .ret v:=by
 unfold aC at h;induction e:f st with
 |none=>rw[e]at h;nomatch h
 |some q=>
  rw[e]at h;induction q with
  |mk a s=>induction a with
   |next=>exact .inl ⟨s,rfl,h⟩
   |ret v=>have h:=bG (ag h);exact .inr ⟨v,by rw[h.2],h.1.symm⟩
def jZ.cons (h1:mu S k lay s f) (h2:jZ S k lay ss g):jZ S k lay (s::ss) (aC f g):=by
 intro p O st fl cf bc hf;rcases qQ hf with⟨st1,e,hf⟩|⟨v,e,rfl⟩
 ·left;let ⟨lI,a1,b1,c1⟩:=h1 p O st _ st1 bc e;let ⟨uQ,a2,b2,c2⟩:=h2 p lI st1 _ cf b1 hf;right;exact⟨uQ,.cons a1 a2,b2,c1.trans c2 bc⟩
 ·let ⟨lI,a1,b1,c1⟩:=h1 p O st _ _ bc e;exact⟨lI,.ret a1,b1,c1⟩
noncomputable def bZ (f:EF) (tg:CV->St->Option St) (st:St):Option (pj×St):=((f st).bind λv=>tg v st).map λcf=>(.next,cf)
def mu.Ll (h1:cS S k lay gQ f)
  (h2:∀p O st v cf,At lay p st O->tg v st=aa cf->∃bv,jY S O (lay.en p) x (v.av p.oi) bv/\At lay p cf bv/\ko lay p st cf O bv)
  (hs:(λenv:lW=>swapsWith gQ (aa (.Name x jT)) pos.line {env with scope:=lay.scope})=λq=>pure false):mu S k lay (.Assign [.Name x jT] gQ pos) (bZ f tg):=by
 intro p O st fl cf bc hf;unfold bZ at hf;simp only[ar,aG]at hf;left;let ⟨st1,⟨v,hv,ht⟩,e⟩:=hf;let ⟨rfl,rfl⟩:=bG e;let ⟨bv,a,b,c⟩:=h2 p O st v _ bc ht;right;exact⟨bv,iW.assign (h1 p O st v bc hv) a λenv he=>scp (F:=swapsWith gQ (aa (.Name x jT)) pos.line) hs he,b,c⟩
def mu.PI (h1:cS S k lay gQ f) (h:lay.ni i x=true) (hs:(λenv:lW=>swapsWith gQ (aa (.Name x jT)) pos.line {env with scope:=lay.scope})=λq=>pure false):
  mu S k lay (.Assign [.Name x jT] gQ pos) (bZ f (bf i)):=
 mu.Ll h1 (λp O st v cf bc hf=>by obtain rfl:=ag hf;exact bc.ie h v) hs
def mu.ajc (h1:cS S k lay gQ f) (h:lay.GA i x=true) (hs:(λenv:lW=>swapsWith gQ (aa (.Name x jT)) pos.line {env with scope:=lay.scope})=λq=>pure false):
  mu S k lay (.Assign [.Name x jT] gQ pos) (bZ f (jI i)):=
 mu.Ll h1 (λp O st v cf bc hf=>by obtain rfl:=ag hf;exact bc.rJ h v) hs
noncomputable def jz (b:St->Option Bool) (f g:SF) (st:St):Option (pj×St):=(b st).bind λx=>cond x (f st) (g st)
def mu.if (h0:AU S k lay t b) (h1:jZ S k lay body f) (h2:jZ S k lay orelse g):mu S k lay (.If t body orelse pos) (jz b f g):=by
 intro p O st fl cf bc hf;refine a9 hf λx e hf=> ?_;induction x with
 |true=>let ⟨bv,a,c⟩:=h1 p O st _ cf bc hf;exact⟨bv,iW.if (h0 p O st true bc e) a,c⟩
 |false=>let ⟨bv,a,c⟩:=h2 p O st _ cf bc hf;exact⟨bv,iW.if (h0 p O st false bc e) a,c⟩
noncomputable def i6 (f:EF) (st:St):Option (pj×St):=(f st).map λv=>(.ret v,st)
def mu.return (h:cS S k lay e f):mu S k lay (.Return (aa e) pos) (i6 f):=by intro p O st fl cf bc hf;unfold i6 at hf;simp only[ar]at hf;let ⟨v,hv,e⟩:=hf;let ⟨rfl,rfl⟩:=bG e;exact⟨O,iW.return (h p O st v bc hv),bc,.refl ..⟩
noncomputable def lM (tg:CV->St->Option St) (body:SF):List PV->St->Option (pj×St)
 | [],st=>aa (.next,st)
 |x::xs,st=>(tg (.pv x) st).bind λst1=>(body st1).bind λr=>pj.rec (lM tg body xs r.2) (λq=>aa r) r.1
def IZ:lM tg body (x::xs) st=(tg (.pv x) st).bind λst1=>(body st1).bind λr=>pj.rec (lM tg body xs r.2) (λq=>aa r) r.1:=rfl
def zK (S:cz) (k:Nat) (lay:Lay) (e:Expr) (f:St->Option (List PV)):Prop:=∀p O st xs,At lay p st O->f st=aa xs->kZ S k O (lay.en p) e (λq=>True) xs
def mH (it:St->Option (List PV)) (tg:CV->St->Option St) (body:SF) (st:St):Option (pj×St):=(it st).bind λxs=>lM tg body xs st
def mu.for (hi:zK S k lay ky it) (ht:Cw S k lay cD tg) (hb:jZ S k lay body f)
  (hs:∀env x,foldedSetIterable ky env x=pure x):mu S k lay (.For cD ky body [] pos) (mH it tg f):=by
 intro p O st fl cf bc hf;unfold mH at hf;simp only[aG]at hf;let ⟨xs,hx,hf⟩:=hf;have loop:∀(xs:List PV) (O:List AO) (st:St),At lay p st O->lM tg f xs st=aa (fl,cf)->∃bv,S7 S k (lay.en p) cD body O xs (fl.af p.oi) bv/\At lay p cf bv/\ko lay p st cf O bv:=by
  intro xs;induction xs with
  |nil=>intro O st bc hf;let ⟨rfl,rfl⟩:=bG (ag hf);exact⟨O,.nil,bc,.refl ..⟩
  |cons x xs ih=>
   intro O st bc hf;refine a9 hf λst1 Kf hf=>a9 hf λr e hf=> ?_;left;let ⟨lI,a1,b1,c1,_⟩:=ht p O st _ st1 bc Kf;let ⟨f2,st2⟩:=r;induction f2 with
   |next=>let ⟨uQ,a2,b2,c2⟩:=hb p lI st1 _ st2 b1 e;let ⟨σ3,a3,b3,c3⟩:=ih uQ st2 b2 hf;exact kG ⟨σ3,.cons a1 a2 a3,b3,(c1.trans c2 bc).trans c3 bc⟩
   |ret v=>let ⟨rfl,rfl⟩:=bG (ag hf);let ⟨uQ,a2,b2,c2⟩:=hb p lI st1 _ _ b1 e;exact kG ⟨uQ,.ret a1 a2,b2,c1.trans c2 bc⟩
 let ⟨bv,a,b,c⟩:=loop xs O st bc hf;exact⟨bv,iW.for (hi p O st xs bc hx) a hs,b,c⟩
end
section
variable {lay:Lay}
def itV:CV->Option (List PV)
 | .pv (.lst l)=>aa l
 | .pv (.tup l)=>aa l
 | .pv (.str x)=>if x.cps.all (· <128)=true then aa (ym x) else ac
 | .pv (.oK l)=>aa (l.map λp=> .str p.1)
 |_=>ac
def jx (f:EF) (st:St):Option (List PV):=(f st).bind itV
def X6 (h:Ev S k O (lay.en p) e (v.av p.oi) O) (hv:itV v=aa xs) (mY:ok O) (hd:∀l,v= .pv (.lst l)->∀bv,ok bv):kZ S k O (lay.en p) e ok xs:=by
 induction v with
 |pv d=>cases d with
  |lst l=>obtain rfl:=ag hv;intro A c s env hA hE R E Q hQ;refine kZ.list h .val A c s env hA hE R E Q λc' s' I own J a b d e' P q hJ=>hQ c' s' I own J a b d e' ?_ mY hJ;exact⟨P.keep,λhJ R hn q hA E Q=>P.next hJ R hn .val hA E Q,P.self,P.Vj⟩
  |tup l=>obtain rfl:=ag hv;exact kZ.tuple h mY
  |str x=>let ⟨ha,rfl⟩:=dT hv;exact kZ.str h ha mY
  |oK l=>obtain rfl:=ag hv;exact kZ.dict h mY
  |_=>exact gq hv
 |_=>exact gq hv
def zK.val (h:cS S k lay e f):zK S k lay e (jx f):=by intro p O st xs bc hf;unfold jx at hf;let ⟨v,hv,hx⟩:=aG.mp hf;exact X6 (h p O st v bc hv) hx trivial λq q q=>trivial
def rK (f:EF) (st:St):Option (List PV):=((f st).bind CV.aI).bind λn=>if 0<=n/\n<1000 then aa (iI n.toNat) else ac
def zK.range (h:lay.me f=true) (hg:(f,ac)∈cg) (hb:(f,aa (Od "range"))∈lu) (hx:cS S k lay x g) (hs:notStar x=true):zK S k lay (.Call (.Name f np) [x] [] pos) (rK g):=by intro p O st xs bc hf;refine a9 hf λn hn hf=>a9 hn λq hn e=> ?_;rw[CV.kI e]at hn;let ⟨uP,rfl⟩:=dT hf;exact kZ.range (Ev.PA h hg hb) (((ya uP.1)).symm▸(hx p O st _ bc hn)) (aiQ uP) hs trivial
def GB (S:cz) (k:Nat) (lay:Lay) (e:Expr) (f:St->Option (List PV)):Prop:=∀p O st xs,At lay p st O->f st=aa xs->
 ∃ok,kZ S k O (lay.en p) e ok xs/\∀bv,(∀j o,st.ob[j]? =aa o->bv[p.oi j]? =aa (o.ao p.oi))->ok bv
def zK.C (h:zK S k lay e f):GB S k lay e f:=λp O st xs bc hf=>⟨_,h p O st xs bc hf,λq q=>trivial⟩
def GC (f:EF) (st:St):Option (List PV):=(f st).bind st.ow
def GB.store (h:cS S k lay e f):GB S k lay e (GC f):=by intro p O st xs bc hf;refine a9 hf λv hv hx=> ?_;refine⟨_,kZ.list (h p O st v bc hv) (bc.ow hx),λbv ho=> ?_⟩;exact Lf (P:=λv=>IsL bv (v.av p.oi) xs) hx .val λj hl=> .fM (ho j _ hl)
def qB (names:List (Str×qd)):∀(n:Nat) (dA:Sn),cellsFrom n names dA=(cellsFrom 0 names []).map (λq=>(q.1,n+q.2))++dA:=by
 induction names with
 |nil=>intro n dA;exact rfl
 |cons q9 names ih=>
  intro n dA;obtain(⟨x,kd⟩):=q9;unfold cellsFrom;cases hk:kd==kX with
  |false=>simp only[fw,if_false];exact ih n dA
  |true=>simp only[if_true];rw[ih (n+1),ih 1,bH,bC,bE];congr 1;exact cj λq z=>by simp;exact aiR
structure fS where
 scope:Scope
 loc:List Str
 oM:List (Str×Nat)
 su:List (Str×Nat)
noncomputable def fsc (names:List (List Nat×qd)):Scope:= {kind:= .function,names:=names.map λp=>(⟨p.1.toArray⟩,p.2),isGenerator:=false,isCoroutine:=false,more:=[]}
def lO (n:List (List Nat×qd)) (a:List Str) (b c:Sn):fS:=⟨fsc n,a,b,c⟩
def fS.L (cl:fS) (lay:Lay):Lay:= {scope:=wW cl.scope lay.scope,loc:=cl.loc,nj:=cl.oM.map (·.1)++cl.su.map (·.1),own:= ↑cl.oM,grow:=false,code:=lay.code}
structure fS.Ok (cl:fS) (lay:Lay):Prop where
 own:cellsFrom 0 cl.scope.names []=cl.oM
 tm:j8 (lay.nj.zip (cJ ↑lay.nj)) cl.scope.names []=aa cl.su
 kind:cl.scope.kind= .function
 names:∀x∈cl.scope.names,x.2= .local->cl.scope.names.lookup x.1=aa .local
 nd:cl.loc.Nodup
 ndO:(cl.oM.map (·.2)).Nodup
 ndC:(cl.su.map (·.2)).Nodup
 ltO:∀q∈cl.oM,q.2<fj cl.scope.names
def fS.st (cl:fS) (st:St):St:= {lv:=cl.loc.map λz=>ac,cv:=(cl.oM.map λz=>ac)++cl.su.map λq=>(st.cv[q.2]?).join,ob:=st.ob}
def fS.Lm (cl:fS) (p:Iz) (n:Nat):Iz:= {fi:=n+1,ci:=(cl.oM.map λq=>n+2+q.2)++cl.su.map λq=>p.ci.getD q.2 0,oi:=p.oi}
def Dq {α:Type} {l:List Str} (d:α):∀(m:List α) (b:Nat) (pre:List α),↑pre=b-> ↑l= ↑m->l.zip m=(l.zip (List.range' b ↑l)).map λq=>(q.1,(pre++m).getD q.2 d):=by
 induction l with
 |nil=>exact λz z z z z=>rfl
 |cons a l ih=>
  intro m b pre hp h;induction m with
  |nil=>cases h
  |cons x m=>have:=ih m (b+1) (pre++[x]) (by simp[hp]) (lX h);rw[bE]at this;rw[qv,az,Ts,qv,bx,this];exact congrArg (· ::_) (by simp[hp])
def fS.Ok.cells {cl:fS} (h:cl.Ok lay) (Sk: ↑p.ci= ↑lay.nj):j8 (lay.en p).cells cl.scope.names []=aa (cl.su.map λq=>(q.1,p.ci.getD q.2 0)):=by
 have e:(lay.en p).cells=(lay.nj.zip (cJ ↑lay.nj)).map λq=>(q.1,p.ci.getD q.2 0):=by show lay.nj.zip p.ci=_;have:=Dq (l:=lay.nj) 0 p.ci 0 [] rfl Sk.symm;rw[vt];simpa using this
 rw[e];exact qP (λi=>p.ci.getD i 0) _ _ _ _ h.tm
def fS.Ok.en {cl:fS} (h:cl.Ok lay) (p:Iz) (n:Nat):A8 (lay.en p) cl.scope n (cl.su.map λq=>(q.1,p.ci.getD q.2 0))=(cl.L lay).en (cl.Lm p n):=by
 unfold A8 Lay.en fS.L fS.Lm;refine iv.eq ?_;rw[qB,h.own];have zm:∀(l:Sn) (f:NN),(l.map (·.1)).zip (l.map λq=>f q.2)=l.map λq=>(q.1,f q.2):=by
  intro l f;induction l with
  |nil=>rfl
  |cons a l ih=>simp[ih]
 rw[List.zip_append (by simp)];rw[zm cl.oM (λi=>n+2+i),zm cl.su (λi=>p.ci.getD i 0)]
end
def fS.PJ {cl:fS} (h:decide (cellsFrom 0 cl.scope.names []=cl.oM/\j8 (lay.nj.zip (cJ ↑lay.nj)) cl.scope.names []=aa cl.su/\cl.scope.kind= .function/\(∀x∈cl.scope.names,x.2= .local->cl.scope.names.lookup x.1=aa .local)/\cl.loc.Nodup/\(cl.oM.map (·.2)).Nodup/\(cl.su.map (·.2)).Nodup/\∀q∈cl.oM,q.2<fj cl.scope.names)=true):cl.Ok lay:=
 xe08 (of_decide_eq_true h) .mk
section
variable {lay:Lay}
def z6 {l:Nz} (h:l[i]? =aa n):l.getD i 0=n:=by rw[qw,h];rfl
def fS.Ok.PK {cl:fS} (h:cl.Ok lay):∀q∈cl.su,q.2< ↑lay.nj:=by refine sZ (cells:=lay.nj.zip (cJ ↑lay.nj)) (n:= ↑lay.nj) (λq hq=> ?_) _ _ _ (λq hq=>by cases hq) h.tm;have:=(CD hq).2;exact dM.mp this
def fS.Ok.at {cl:fS} (h:cl.Ok lay) {st:St} (bc:At lay p st O) (qt:AO):
  At (cl.L lay) (cl.Lm p ↑O) (cl.st st) (O++(qt:: .ns (cl.loc.map λx=>(x,ac))::bQ (fj cl.scope.names) (.cell ac))):=by
 have Kg:=getElem?_lt' bc.frame;have Sk:∀(i n:Nat),p.ci[i]? =aa n->n< ↑O:=by
  intro i n hn;have F7:i< ↑st.cv:=by rw[bc.xZ,<- bc.FD];exact getElem?_lt' hn
  let ⟨m,hm,hc⟩:=bc.cells i _ (aq F7);rw[hn]at hm;obtain rfl:=ag hm;exact getElem?_lt' hc
 have Xb:∀j,j< ↑st.ob->p.oi j< ↑O:=λj hj=>getElem?_lt' (bc.obs j _ (aq hj));have sG:∀q∈cl.su,∃n,p.ci[q.2]? =aa n/\p.ci.getD q.2 0=n/\n< ↑O:=by intro q hq;have hl:=h.PK q hq;rw[<- bc.FD]at hl;exact⟨p.ci[q.2],aq hl,z6 (aq hl),Sk q.2 _ (aq hl)⟩
 have N5:∀n,n∈(cl.Lm p ↑O).ci->(∃q∈cl.oM,n= ↑O+2+q.2)\/∃q∈cl.su,p.ci[q.2]? =aa n/\n< ↑O:=by
  intro n hn;rcases cb.mp hn with hn|hn
  ·let ⟨q,hq,e⟩:=aQ.mp hn;exact .inl ⟨q,hq,e.symm⟩
  ·let ⟨q,hq,e⟩:=aQ.mp hn;left;let ⟨m,h1,h2,h3⟩:=sG q hq;right;rw[h2]at e;subst e;exact .inr ⟨q,hq,h1,h3⟩
 refine⟨?_,?_,?_,?_,λi v hv=> ?_,λj o ho=>gA (bc.obs j o ho),λhm=> ?_,λj hj e=> ?_,λj hj hm=> ?_,?_,bc.Vi,λhg=>by cases hg⟩
 ·have:(cl.loc.map λx=>((x,ac):Str×Option AV))=cl.loc.zip (TY p.oi (cl.loc.map λz=>ac)):=by
   clear sG N5;induction cl.loc with
   |nil=>rfl
   |cons a l ih=>simp[ih]
  show(O++_)[↑O+1]? =aa (.ns (cl.loc.zip (TY p.oi (cl.loc.map λz=>ac))));rw[aE (bh ..),bO,<- this];rfl
 ·simp[fS.st,fS.L]
 ·simp[fS.st,fS.L]
 ·simp[fS.Lm,fS.L]
 ·have vU:((cl.oM.map λz=>(ac:OV))++cl.su.map λq=>(st.cv[q.2]?).join)[i]? =aa v:=hv;rcases bS i ↑cl.oM with kR|Aw
  ·rw[aW (by simpa using kR),bN,aq kR]at vU;obtain rfl:=ag vU;refine⟨↑O+2+(cl.oM[i]).2,?_,?_⟩
   ·show((cl.oM.map λq=> ↑O+2+q.2)++_)[i]? =_;rw[aW (by simpa using kR),bN,aq kR];rfl
   ·have D6:=h.ltO _ (AB kR);rw[aE (aiS),show ↑O+2+(cl.oM[i]).2- ↑O=(cl.oM[i]).2+1+1 by exact aiT,il,il,Iu,if_pos D6];rfl
  ·rw[aE (by simpa using Aw),aw,bN]at vU;simp only[ar]at vU;let ⟨q,hq,rfl⟩:=vU;let ⟨n,h1,h2,h3⟩:=sG q (bo hq);refine⟨n,?_,?_⟩
   ·show(_++cl.su.map λq=>p.ci.getD q.2 0)[i]? =_;rw[aE (by simpa using Aw),aw,bN,hq,<- h2];rfl
   ·have F7:q.2< ↑st.cv:=by rw[bc.xZ,<- bc.FD];exact getElem?_lt' h1
    left;let ⟨m,hm,hc⟩:=bc.cells q.2 _ (aq F7);right;rw[h1]at hm;obtain rfl:=ag hm;rw[aq F7];exact gA hc
 ·rcases N5 _ hm with⟨q,_,e⟩|⟨q,_,_,e⟩
  ·have e': ↑O+1= ↑O+2+q.2:=e;exact aiU e'
  ·have e': ↑O+1< ↑O:=e;exact aiV e'
 ·have e':p.oi j= ↑O+1:=e;have:=Xb j hj;exact aiW this e'
 ·have Mb:p.oi j∈(cl.Lm p ↑O).ci:=hm;have:=Xb j hj;rcases N5 _ Mb with⟨q,_,e⟩|⟨q,_,e,_⟩
  ·exact aiX this e
  ·exact bc.Vh j hj (bo e)
 ·show((cl.oM.map λq=> ↑O+2+q.2)++cl.su.map λq=>p.ci.getD q.2 0).Nodup;rw[SY];refine⟨?_,?_,λa ha b hb e=> ?_⟩
  ·have:=h.ndO;rw[show(cl.oM.map λq=> ↑O+2+q.2)=(cl.oM.map (·.2)).map (↑O+2+ ·) by rw[bC];rfl];exact gX _ (λa b Mc=>by exact aiY Mc) this
  ·have Xa:=h.ndC;have key:∀l:List (Str×Nat),(∀q∈l,q∈cl.su)->(l.map (·.2)).Nodup->(l.map λq=>p.ci.getD q.2 0).Nodup:=by
    intro l;induction l with
    |nil=>intro _ _;exact kE
    |cons a l ih=>intro hs hn;rw[bx,fE]at hn⊢;refine⟨λhm=> ?_,ih (λq hq=>hs q (aK _ hq)) hn.2⟩;let ⟨b,hb,e⟩:=aQ.mp hm;let ⟨n1,a1,a2,_⟩:=sG a (hs a ay);let ⟨n2,b1,b2,_⟩:=sG b (hs b (aK _ hb));rw[a2,b2]at e;subst e;let ⟨x1,y1⟩:=eO.mp a1;let ⟨x2,y2⟩:=eO.mp b1;have:=(AC bc.W3).mp (y1.trans y2.symm);exact hn.1 (this▸aQ.mpr ⟨b,hb,rfl⟩)
   exact key _ (λq hq=>hq) Xa
  ·subst e;let ⟨q,_,e1⟩:=aQ.mp ha;let ⟨q',Tc,e2⟩:=aQ.mp hb;let ⟨n,_,h2,h3⟩:=sG q' Tc;exact aiZ e1 h3 e2 h2
noncomputable def dN {β:Type} (tg:CV->St->Option St) (test:St->Option Bool) (inner:List β->St->Option (List β×St)):List PV->List β->St->Option (List β×St)
 | [],dA,st=>aa (dA,st)
 |x::xs,dA,st=>(tg (.pv x) st).bind λst1=>(test st1).bind λb=>cond b ((inner dA st1).bind λr=>dN tg test inner xs r.1 r.2) (dN tg test inner xs dA st1)
def yn:dN tg test inner (x::xs) dA st=(tg (.pv x) st).bind λst1=>(test st1).bind λb=>cond b ((inner dA st1).bind λr=>dN tg test inner xs r.1 r.2) (dN tg test inner xs dA st1):=rfl
structure uj (lay:Lay) (p:Iz) (st:St) (n:Nat):Prop where
 fi:n≠p.fi
 ci:n∉p.ci
 oi:∀j,j< ↑st.ob->n≠p.oi j
structure wX (lay:Lay) (p:Iz) (st:St) (n:Nat) (O bv:List AO):Prop where
 len: ↑bv= ↑O
 out:∀i,i< ↑O->i≠n->i≠p.fi->(∀j,j<lay.own->p.ci[j]? ≠aa i)->(∀j,j< ↑st.ob->i≠p.oi j)->bv[i]? =O[i]?
def wX.refl (p:Iz) (st:St) (n:Nat) (O:List AO):wX lay p st n O O:=⟨rfl,λq q q q q q=>rfl⟩
def wX.trans (h:wX lay p st n O bw) (h':wX lay p Ma n bw bP) (FI:Ma.ob=st.ob):wX lay p st n O bP:=
 ⟨h'.len.trans h.len,λi hi h1 h2 h3 h4=>(h'.out i (h.len▸hi) h1 h2 h3 (FI▸h4)).trans (h.out i hi h1 h2 h3 h4)⟩
def ko.C (h:ko lay p st cf O bv) (hg:lay.grow=false):wX lay p st n O bv:=⟨(h.len0 hg).1,λi hi q h2 h3 h4=>h.out i hi h2 h3 h4⟩
def EC {β:Type} (S:cz) (k:Nat) (lay:Lay) (emit:Value->lW->zV Unit) (mk:List β->AO) (f:List β->St->Option (List β×St)):Prop:=
 ∀p O st n dA qG cf,At lay p st O->uj lay p st n->O[n]? =aa (mk dA)->f dA st=aa (qG,cf)->vB S k (lay.en p) emit n O (O.set n (mk qG))/\cf=st
def F5 {β:Type} (S:cz) (k:Nat) (lay:Lay) (gens:List dI) (emit:Value->lW->zV Unit) (mk:List β->AO) (d:Nat) (G:List PV->List β->St->Option (List β×St)):Prop:=
 ∀p O st n dA qG cf xs ok,At lay p st O->uj lay p st n->O[n]? =aa (mk dA)->(∀bv,(∀j o,st.ob[j]? =aa o->bv[p.oi j]? =aa (o.ao p.oi))->ok bv)->G xs dA st=aa (qG,cf)->
  ∃bv,Gz S k (lay.en p) gens (vB S k (lay.en p) emit n) d ok O xs bv/\At lay p cf bv/\bv[n]? =aa (mk qG)/\wX lay p st n O bv/\cf.ob=st.ob
def At.PL (bc:At lay p st O) (ht:uj lay p st n) (o:AO):At lay p st (O.set n o):=by
 have H9:∀m,m≠n->(O.set n o)[m]? =O[m]? :=λm hm=>bD hm.symm;refine⟨?_,bc.N2,bc.xZ,bc.FD,λi v hv=> ?_,λj x hx=> ?_,bc.Zm,bc.Zn,bc.Vh,bc.W3,bc.Vi,λhg j=> ?_⟩
 ·exact(H9 _ ht.fi.symm)▸bc.frame
 ·let ⟨m,hm,hc⟩:=bc.cells i v hv;refine⟨m,hm,?_⟩;exact(H9 m (λe=>ht.ci (e▸bo hm)))▸hc
 ·exact(H9 _ (ht.oi j (getElem?_lt' hx)).symm)▸(bc.obs j x hx)
 ·exact(bi).symm▸(bc.next hg j)
def F5.gen {g:dI} (hd:gens[d]? =aa g) (hgr:lay.grow=false) (ht:Cw S k lay g.target tg) (hi:∀p O st b,At lay p st O->test st=aa b->pg S k O (lay.en p) g.ifs b)
  (Xc:∀p bw st n dA Sl D9,At lay p st bw->uj lay p st n->bw[n]? =aa (mk dA)->inner dA st=aa (Sl,D9)->
   ∃bP,(∀ok O x xs bv,ok O->Di S k O (lay.en p) g.target (.pv x) bw->pg S k bw (lay.en p) g.ifs true->Gz S k (lay.en p) gens (vB S k (lay.en p) emit n) d ok bP xs bv->Gz S k (lay.en p) gens (vB S k (lay.en p) emit n) d ok O (x::xs) bv)/\
    At lay p D9 bP/\bP[n]? =aa (mk Sl)/\wX lay p st n bw bP/\D9.ob=st.ob):F5 S k lay gens emit mk d (dN tg test inner):=by
 intro p O st n dA qG cf xs ok bc Ib ku mY hG;induction xs generalizing O st dA with
 |nil=>let ⟨rfl,rfl⟩:=bG (ag hG);exact⟨O,.nil (mY O λj o h=>bc.obs j o h),bc,ku,.refl ..,rfl⟩
 |cons x xs ih=>
  rw[yn]at hG;refine a9 hG λst1 h1 hG=>a9 hG λb h2 hG=> ?_;left;let ⟨lI,a1,b1,c1,d1⟩:=ht p O st _ st1 bc h1;have Zv:uj lay p st1 n:=⟨Ib.fi,Ib.ci,by rw[d1];exact Ib.oi⟩;have Xd:lI[n]? =aa (mk dA):=(c1.out n (getElem?_lt' ku) Ib.fi (λj q e=>Ib.ci (bo e)) Ib.oi).trans ku;have ok1:ok O:=mY O λj o h=>bc.obs j o h;induction b with
  |false=>let ⟨bv,e1,e2,e3,e4,e5⟩:=ih _ _ _ b1 Zv Xd (d1▸mY) hG;exact kG ⟨bv,.skip hd ok1 a1 (hi p lI st1 _ b1 h2) e1,e2,e3,(c1.C hgr).trans e4 d1,e5.trans d1⟩
  |true=>refine a9 hG λr h3 hG=> ?_;let ⟨uQ,f1,f2,f3,f4,f5⟩:=Xc p lI st1 n dA r.1 r.2 b1 Zv Xd h3;let ⟨bv,e1,e2,e3,e4,e5⟩:=ih _ _ _ f2 ⟨Ib.fi,Ib.ci,by rw[f5];exact Zv.oi⟩ f3 (by rw[f5,d1];exact mY) hG;exact kG ⟨bv,f1 _ _ _ _ _ ok1 a1 (hi p lI _ _ b1 h2) e1,e2,e3,((c1.C hgr).trans f4 d1).trans e4 (f5.trans d1),e5.trans (f5.trans d1)⟩
def F5.last
  (hd:gens[d]? =aa g) (hn:gens[d+1]? =ac) (hgr:lay.grow=false) (ht:Cw S k lay g.target tg) (hi:∀p O st b,At lay p st O->test st=aa b->pg S k O (lay.en p) g.ifs b) (he:EC S k lay emit mk f):
  F5 S k lay gens emit mk d (dN tg test f):=
 .gen hd hgr ht hi λp lI st n dA Vt st2 bc Ib ku h3=>by let ⟨m1,rfl⟩:=he p lI st n dA Vt st2 bc Ib ku h3;exact⟨_,λok O x xs bv ok1 a1 i1=> .emit hd hn ok1 a1 i1 m1,bc.PL Ib (mk Vt),bU (getElem?_lt' ku),⟨bi,λi q h q q q=>bD h.symm⟩,rfl⟩
noncomputable def IA {β:Type} (it:St->Option (List PV)) (G:List PV->List β->St->Option (List β×St)) (dA:List β) (st:St):Option (List β×St):=(it st).bind λxs=>G xs dA st
def F5.more
  (hd:gens[d]? =aa g) (hn:gens[d+1]? =aa g') (hgr:lay.grow=false) (ht:Cw S k lay g.target tg) (hi:∀p O st b,At lay p st O->test st=aa b->pg S k O (lay.en p) g.ifs b) (hit:GB S k lay g'.iter it)
  (hG':F5 S k lay gens emit mk (d+1) G):F5 S k lay gens emit mk d (dN tg test (IA it G)):=
 .gen hd hgr ht hi λp lI st n dA Vt st2 bc Ib ku h3=>a9 h3 λys hy h3=>by let ⟨ok',i1,i2⟩:=hit p lI st ys bc hy;let ⟨uQ,f1,f2⟩:=hG' p lI st n dA Vt st2 ys ok' bc Ib ku i2 h3;exact⟨uQ,λok O x xs bv ok1 a1 j1=> .inner hd hn ok1 a1 j1 i1 f1,f2⟩
end
section
variable {lay:Lay}
def X8 (hl:∀i,i< ↑O->bv[i]? =O[i]?) (h0:bv[↑O]? =aa a) (h1:bv[↑O+1]? =aa b):∃τ,bv=O++a::b::τ:=by
 have ht:bv.take ↑O=O:=by
  apply ro;intro i;rcases bS i ↑O with(h|h)
  ·rw[lJ h];exact hl i h
  ·rw[bB (by rw[cF];exact aa2 h),bB h]
 refine⟨bv.drop (↑O+2),?_⟩;let ⟨l0,e0⟩:=eO.mp h0;let ⟨l1,e1⟩:=eO.mp h1;rw[<- e0,<- e1,<- gU l1,<- gU l0];conv=>lhs;rw[<- nC ↑O bv,ht]
def ED {fin:List β->PV} {cl:fS}
  (he:mf e gens) (zy:qO e gens emit) (Kd:gens=g::gs) (hg:∀g∈gens,g.is_async=0) (hf:∀g∈gens,∀env x,foldedSetIterable g.iter env x=pure x) (mY:cl.Ok lay)
  (hit:GB S k lay g.iter it) (hG:F5 S k (cl.L lay) gens emit mk 0 G)
  (ku:∀(A:cR) (s:bb) (E:VS) (Q:VS),Q (.ref s.heap.objs.size) {s with heap:=s.heap.push accObj}->wpAny (MM S.w) A newAcc Q E s) (uH:accObj.isFreed=false)
  (Sh:∀(c:aM) (n:Nat),ic S.w c n accObj (mk [])) (Sb:∀(r:List β) (n:Nat) (b:AO) (τ:List AO),Gm (mk r::b::τ) n (.fM (n+0)) (.pv (fin r)))
  (bc:At lay p st O) (hx:it st=aa xs) (hr:G xs [] (cl.st st)=aa (r,cf)):
  ∀(A:cR) (c:aM) (s:bb) (env:lW),jD k A->cY c ↑O (lay.en p) env->Rel S c O s.heap->∀(use:Option (Value->zV Unit)) (E:VS) (Q:VS),
   (∀c' dA s' fa m,aM.le ↑O c c'->Rel S c' O s'.heap->dZ s s'->dk S.w c'.F dA (fin r)->qz c' ↑O fa->s'.heap.Ns fa m->compPost (MM S.w) A E use Q dA fa (.ok .next) s')->
   wpAny (MM S.w) A (comprehension e cl.scope env pos newAcc false (eval g.iter env) use) Q E s:=by
 left;let ⟨ok,i1,i2⟩:=hit p O st xs bc hx;right;have Sk:∀(i n:Nat),p.ci[i]? =aa n->n< ↑O:=by
  intro i n hn;have F7:i< ↑st.cv:=by rw[bc.xZ,<- bc.FD];exact getElem?_lt' hn
  let ⟨m,hm,hc⟩:=bc.cells i _ (aq F7);rw[hn]at hm;obtain rfl:=ag hm;exact getElem?_lt' hc
 have Ib:uj (cl.L lay) (cl.Lm p ↑O) (cl.st st) ↑O:=by
  refine⟨by show ↑O≠ ↑O+1;exact ai0,λhm=> ?_,λj hj=> ?_⟩
  ·rcases cb.mp hm with hm|hm
   ·let ⟨q,_,e⟩:=aQ.mp hm;exact ai1 e
   ·let ⟨q,hq,e⟩:=aQ.mp hm;have hl:=mY.PK q hq;rw[<- bc.FD]at hl;have h1:=aq hl;rw[z6 h1]at e;have:=Sk _ _ h1;exact aa3 this e
  ·have:=(λj hj=>getElem?_lt' (bc.obs j _ (aq hj))) j hj;show ↑O≠p.oi j;exact aa4 this
 left;let ⟨bv,e1,e2,e3,e4,e5⟩:=hG (cl.Lm p ↑O) _ (cl.st st) ↑O [] r cf xs ok (mY.at bc (mk [])) Ib (by rw[aE (ab _),dc];rfl) i2 hr;right;have jJ:∀i,i< ↑O->bv[i]? =O[i]? :=by
  intro i hi;by_cases hj:∃j,j< ↑st.ob/\i=p.oi j
  ·let ⟨j,hj,rfl⟩:=hj;exact(e2.obs j st.ob[j] (by rw[e5];exact aq hj)).trans (bc.obs j _ (aq hj)).symm
  ·rw[e4.out i (by rw[aj];exact om6 hi) (ai2 hi) (by show i≠ ↑O+1;exact ai3 hi) (λj hjo hj'=> ?_) (λj Xe e=>hj ⟨j,Xe,e⟩),aW hi];have agq:((cl.oM.map λq=> ↑O+2+q.2)++cl.su.map λq=>p.ci.getD q.2 0)[j]? =aa i:=hj';have agr:j< ↑cl.oM:=hjo;rw[aW (by simpa using agr),bN,aq agr]at agq;have: ↑O+2+(cl.oM[j]).2=i:=ag agq;exact ai4 this hi
 let ⟨τ,hτ⟩:=X8 jJ e3 e2.frame;rw[hτ,<- mY.en p ↑O]at e1;intro A c s env hA hE R use E Q hQ;exact MQ he zy Kd hg hf (mY.cells (p:=p) bc.FD) mY.kind mY.names mY.nd i1 ku uH Sh e1 (Sb r _ _ _) A c s env hA hE R use E Q hQ
def ei (cl:fS) (it:St->Option (List PV)) (G:List PV->List PV->St->Option (List PV×St)) (st:St):Option CV:=
 (it st).bind λxs=>(G xs [] (cl.st st)).map λr=> .pv (.lst r.1)
def za (A:cR) (s:bb) (E:VS) (Q:VS) (h:Q (.ref s.heap.objs.size) {s with heap:=s.heap.push {cls:= .type "list",data:= .seq #[]}}):wpAny (MM w) A (newList []) Q E s:=wpAny_newList h (cI _)
def A9 (c:aM) (n:Nat):ic w c n {cls:= .type "list",data:= .seq #[]} (.list []):= .list rfl λi v d h=>by simp at h
def cS.GD
  (mY:cl.Ok lay) (Zw:scope=cl.scope) (hg:∀g∈gs,g.is_async=0) (hf:∀g∈(⟨cD,ky,II,0⟩::gs:List dI),∀env x,foldedSetIterable g.iter env x=pure x)
  (hit:GB S k lay ky it) (hG:F5 S k (cl.L lay) (⟨cD,ky,II,0⟩::gs) (Do F4) AO.list 0 G):cS S k lay (.ListComp F4 (⟨cD,ky,II,0⟩::gs) scope pos) (ei cl it G):=by
 intro p O st v bc Kc;subst Zw;unfold ei at Kc;simp only[aG,ar]at Kc;left;let ⟨xs,hx,⟨r,cf⟩,hr,rfl⟩:=Kc;right;refine Ev.PG λA c s env hA hE R E Q hQ=> ?_;have wj:∀g∈(⟨cD,ky,II,0⟩::gs:List dI),g.is_async=0:=λg h=>by
  rcases aH.mp h with e|e
  ·subst e;rfl
  ·exact hg g e
 exact ED (fin:=PV.lst) (pos:=ky.pos) (mf.list ..) (Dp F4 _ _ _) rfl wj hf mY hit hG za rfl A9 (λr n b τ=> .list rfl) bc hx hr A c s env hA hE R ac E Q hQ
def z7:∀p O st b,At lay p st O->fG st=aa b->pg S k O (lay.en p) [] b:=λp O st b q h=>by obtain rfl:=ag h;exact pg.nil
def EE (h:AU S k lay t f):∀p O st b,At lay p st O->f st=aa b->pg S k O (lay.en p) [t] b:=λp O st b bc hf=>pg.one (h p O st b bc hf)
def gO (f:EF) (dA:List PV) (st:St):Option (List PV×St):=((f st).bind CV.aP).bind λd=>if ↑dA<100000 then aa (dA++[d],st) else ac
def Rel.PM {vs:Array Value} {v:Value} {L:List PV} {e:Nat} (R:Rel S c O h) (hj:j< ↑O) (hk:rm (c.Z j) h h') (ho:h'.get? (c.Z j)=aa {cls:= .type "list",data:= .seq (vs.push v) e}) (hs:vs.size= ↑L)
  (hp:∀(i:Nat) (v:Value) (d:PV),vs[i]? =aa v->L[i]? =aa d->dk S.w c.F v d) (hv:dk S.w c.F v d):Rel S c (O.set j (.list (L++[d]))) h':=by
 refine R.set hj hk ho (.list (by rw[Array.size_push,aj,be,hs]) λi v x vU hx=> ?_);rcases eH i ↑L with(hi|hi|hi)
 ·rw[aW hi]at hx;rw[Iw (CF hi hs)]at vU;exact hp i v x (by rw[qL (CF hi hs)];exact vU) hx
 ·subst hi;rw[aE (ab _),dc]at hx;rw[<- hs,F3]at vU;obtain rfl:=ag hx;obtain rfl:=ag vU;exact hv
 ·rw[bB (by rw[aj];exact hi)]at hx;exact gq hx
def EC.list (h:cS S k lay F4 f):EC S k lay (Do F4) AO.list (gO f):=by
 intro p O st n dA qG cf bc Ib ku hf;refine a9 hf λd hd hf=>a9 hd λq hd e=> ?_;rw[CV.kP e]at hd;let ⟨hsz,hf⟩:=dT hf;let ⟨rfl,rfl⟩:=bG hf;have Kh:=getElem?_lt' ku;refine⟨⟨by rw[bi];exact ab _,λA c s env av hA hE R ha E Q hQ=> ?_⟩,rfl⟩;unfold Do;refine am ((h p O st _ bc hd).run A c s env hA hE R _ _ λc1 v1 s1 l1 R1 K1 a1=> ?_);let ⟨rfl,kR⟩:=(ha.mono l1 (ab _)).zI;let ⟨o,ho,hr⟩:=R1.own _ _ ku;let ⟨vs,e,rfl,hs,hp⟩:=hr.y6;have Sm:vs.size<=sizeLine:=by have:sizeLine=2 ^ 24:=rfl;exact XQ hs this hsz
 refine am (uS (hsz:=Sm) ⟨_,ho⟩ λh' So hk=> ?_);let ⟨e',rZ⟩:=So;exact aR (hQ c1 _ l1 (R1.PM kR hk.extBut rZ hs hp a1.gh) (K1.trans (.gF ..)))
end
section
variable {lay:Lay}
def Pairs.at {es:List eL} {kvs:List (Str×Value)} (h:Pairs (strKind pw w) es kvs):∀(i:Nat) (e:eL) (p:Str×Value),es[i]? =aa e->kvs[i]? =aa p->(∃t,e.key= .str p.1 t)/\e.val=p.2:=by
 induction h with
 |nil=>exact λi e p h=>gq h
 |cons h1 h2 _ ih=>
  intro i e p a b;induction i with
  |zero=>obtain rfl:=ag a;obtain rfl:=ag b;exact⟨vY h1,h2⟩
  |succ i=>exact ih i e p a b
def ic.PN {h:iQ} (hd:h.DictOf (strKind pw w) a kvs) (hk:kvs.map (·.1)=l.map (·.1))
  (hv:∀(i:Nat) (p:Str×Value) (q:Str×PV),kvs[i]? =aa p->l[i]? =aa q->dk w c.F p.2 q.2):∃o,h.get? a=aa o/\ic w c n o (.dict l):=by
 left;let ⟨o,es,ep,ho,⟨h1,h2,h3⟩,ags,Md,hp,nd⟩:=hd;have cH: ↑kvs= ↑l:=by have:=congrArg eX hk;simpa using this
 right;have heq:o= {cls:= .type "dict",data:= .dict es ep}:=by let ⟨oc,od,odd,os⟩:=o;simp only at h1 h2 h3 ags;subst h1 h2 h3 ags;rfl
 subst heq;have key:∀(i:Nat) (e:eL) (q:Str×PV),es[i]? =aa e->l[i]? =aa q->∃p,kvs[i]? =aa p/\p.1=q.1:=by
  intro i e q h1 h2;have hi:i< ↑kvs:=by rw[cH];exact getElem?_lt' h2
  refine⟨kvs[i],aq hi,?_⟩;have e1:(kvs.map (·.1))[i]? =aa kvs[i].1:=by rw[bN,aq hi];rfl
  rw[hk,bN,h2]at e1;exact(ag e1).symm
 refine⟨_,ho,.dict (by rw[<- cH,<- ↑hp,bz]) (hk▸nd) (λi e k d h1 h2=> ?_) λi e k d h1 h2=> ?_⟩
 ·let ⟨p,W9,Me⟩:=key i e _ h1 h2;let ⟨⟨t,ht⟩,_⟩:=Pairs.at hp i e p (by rw[fR];exact h1) W9;rw[Me]at ht;refine⟨?_,t,ht⟩;let ⟨k',Ic,Ie⟩:=Md e (IH h1);let ⟨t',ht'⟩:=vY Ic;rw[ht]at ht';injection ht' with e1 _;rw[Ie,<- e1];rfl
 ·let ⟨p,W9,_⟩:=key i e _ h1 h2;let ⟨_,he⟩:=Pairs.at hp i e p (by rw[fR];exact h1) W9;rw[he];exact hv i p _ W9 h2
def jM.vals (h:jM w F es l kvs):∀(i:Nat) (p:Str×Value) (q:Str×PV),kvs[i]? =aa p->l[i]? =aa q->dk w F p.2 q.2:=by
 induction h with
 |nil=>intro i p q a;simp at a
 |cons _ _ hv _ ih=>
  intro i p q a b;induction i with
  |zero=>obtain rfl:=ag a;obtain rfl:=ag b;exact hv
  |succ i=>exact ih i p q a b
def ta (f g:EF) (dA:Sp) (st:St):Option (List (Str×PV)×St):=((f st).bind CV.aS).bind λx=>((g st).bind CV.aP).bind λd=>if ↑dA<100000/\dA.lookup x=ac then aa (dA++[(x,d)],st) else ac
def stored_new {kvs:List (Str×Value)} {k:Str} {v:Value} (h:k∉kvs.map (·.1)):stored kvs k v=kvs++[(k,v)]:=by unfold stored;rw[if_neg];intro ha;let ⟨p,hp,e⟩:=AD.mp ha;exact h (aQ.mpr ⟨p,hp,of_decide_eq_true e⟩)
def lookup_none {l:List (Str×α)} (h:l.lookup x=ac):x∉l.map (·.1):=by intro hm;let ⟨p,hp,e⟩:=aQ.mp hm;have:=sv.mp h p hp;rw[e]at this;simp at this
def PO {c:aM} {O:List AO} {n:Nat} {dA:Sp} {x:Str} {t:C6} {v:Value} {d:PV} {s:bb} {A:cR} {E:VS} {Q:Unit->bb->Prop} (R:Rel S c O s.heap) (ku:O[n]? =aa (.dict dA)) (hn:x∉dA.map (·.1)) (hsz: ↑dA<100000) (hv:dk S.w c.F v d)
  (hQ:∀s',Rel S c (O.set n (.dict (dA++[(x,d)]))) s'.heap->dZ s s'->Q () s'):wpAny (MM S.w) A (dictSet (c.Z n) (.str x t) v) Q E s:=by
 have Kh:=getElem?_lt' ku;left;let ⟨a,es,m,kvs,e,_,ho,nd,hp⟩:=(S6.fM ku).at R (v:= .ref (c.Z n)) (.fM Kh);right;cases e;have hm:=mG (hp.dictOf ho nd);have cH: ↑kvs= ↑dA:=by have:=congrArg eX hp.keys;simpa using this
 have hs:sizeLine=2 ^ 24:=rfl;refine wpAny_dictSet_pairs (knd:=strKind pw S.w) (k:=x) (by exact beq_self_eq_true x) hm (λh' Mb qa=> ?_) (by exact XQ cH hs hsz);rw[stored_new (by rw[hp.keys];exact hn)]at Mb;let ⟨o,rZ,hr⟩:=ic.PN (c:=c) (n:= ↑O) (l:=dA++[(x,d)]) Mb (by rw[bH,bH,hp.keys];rfl) (λi p q a b=>by
  rcases eH i ↑dA with hi|hi|hi
  ·rw[aW (by exact CF hi cH)]at a;rw[aW hi]at b;exact hp.vals i p q a b
  ·rw[aE (by exact XS cH hi),show i- ↑kvs=0 by exact aa5 hi cH]at a;rw[aE (by exact TG hi),show i- ↑dA=0 by exact aa6 hi]at b;cases a;cases b;exact hv
  ·rw[bB (by simp;exact XR hi)]at b;cases b)
 exact hQ _ (R.set Kh qa.extBut rZ hr) (.heap ..)
def EC.dict {kx vx:Expr} {f g:EF} (h1:cS S k lay kx f) (h2:cS S k lay vx g):EC S k lay (Gx kx vx) AO.dict (ta f g):=by intro p O st n dA qG cf bc Ib ku hf;refine a9 hf λx hx hf=>a9 hx λq hx e1=>a9 hf λd hd hf=>a9 hd λq hd e2=> ?_;rw[CV.kS e1]at hx;rw[CV.kP e2]at hd;let ⟨hsz,hf⟩:=dT hf;let ⟨rfl,rfl⟩:=bG hf;refine⟨⟨by rw[bi];exact ab _,λA c s env av hA hE R ha E Q hQ=> ?_⟩,rfl⟩;unfold Gx;refine am ((h1 p O st _ bc hx).run A c s env hA hE R _ _ λc1 v1 s1 l1 R1 K1 a1=> ?_);refine am (dH ((h2 p O st _ bc hd).run A c1 s1 env hA (hE.mono l1 (ab _)) R1 _ _ λc2 v2 s2 l2 R2 K2 a2=> ?_));have uG:=l1.trans l2 (ab _);have Zx:=ha.mono uG (ab _);have Kb:=a1.gh;let ⟨t,rfl⟩:=Kb.mD;let ⟨rfl,kR⟩:=Zx.zI;refine am (cV (dH (PO R2 ku (lookup_none hsz.2) hsz.1 a2.gh λs' R3 K3=>hQ c2 s' uG R3 ((K1.trans K2).trans K3))))
def lw (cl:fS) (it:St->Option (List PV)) (G:List PV->List (Str×PV)->St->Option (List (Str×PV)×St)) (st:St):Option CV:=
 (it st).bind λxs=>(G xs [] (cl.st st)).map λr=> .pv (.oK r.1)
def cS.afs
  (mY:cl.Ok lay) (Zw:scope=cl.scope) (hg:∀g∈gs,g.is_async=0) (hf:∀g∈(⟨cD,ky,II,0⟩::gs:List dI),∀env x,foldedSetIterable g.iter env x=pure x)
  (hit:GB S k lay ky it) (hG:F5 S k (cl.L lay) (⟨cD,ky,II,0⟩::gs) (Gx kx vx) AO.dict 0 G):cS S k lay (.DictComp kx vx (⟨cD,ky,II,0⟩::gs) scope pos) (lw cl it G):=by
 intro p O st v bc Kc;subst Zw;unfold lw at Kc;simp only[aG,ar]at Kc;left;let ⟨xs,hx,⟨r,cf⟩,hr,rfl⟩:=Kc;right;refine Ev.PG λA c s env hA hE R E Q hQ=> ?_;have wj:∀g∈(⟨cD,ky,II,0⟩::gs:List dI),g.is_async=0:=λg h=>by
  rcases aH.mp h with e|e
  ·subst e;rfl
  ·exact hg g e
 exact ED (fin:=PV.oK) (pos:=ky.pos) (accObj:= {cls:= .type "dict",data:= .dict #[]}) (newAcc:=newDict) (mf.dict ..) (MO kx vx _ _ _) rfl wj hf mY hit hG (λA s E Q h=>iE h) rfl
  (λc n=> .dict rfl kE (λi e k d h=>by simp at h) λi e k d h=>by simp at h) (λr n b τ=> .dict rfl) bc hx hr A c s env hA hE R ac E Q hQ
end
def iW.I0
  (hc:∀(A:cR) (c:aM) (s:bb) (env:lW),jD k A->cY c ↑O ae env->Rel S c O s.heap->∀(u:Value->zV Unit) (E:VS) (Q:Unit->bb->Prop),
   (∀c' dA s' fa m,aM.le ↑O c c'->Rel S c' O s'.heap->dZ s s'->dk S.w c'.F dA d->qz c' ↑O fa->s'.heap.Ns fa m->compPost (MM S.w) A E (aa u) (λq s=>Q () s) dA fa (.ok .next) s')->
   wpAny (MM S.w) A (evalThenUse gQ env u) Q E s)
  (h2:jY S O ae x (.pv d) bv) (hs:(λenv:lW=>swapsWith gQ (aa (.Name x jT)) pos.line {env with scope:=ae.scope})=λq=>pure true):iW S k O ae (.Assign [.Name x jT] gQ pos) .next bv:=by
 refine⟨h2.len,λA c s env hA hE R E Q hQ=> ?_⟩;rw[exec_Assign_Name_used _ _ _ _ (scp (F:=swapsWith gQ (aa (.Name x jT)) pos.line) hs hE.scope)];refine am (cV (am (hc A c s env hA hE R _ _ _ λc1 dA s1 fa m l1 R1 K1 a1 hfa tU=> ?_)));show wpAny _ A (pE (Expr.Name x jT) env dA) _ _ _;left;let ⟨o,es,ep,ho,hd,hk,hm⟩:=tU;have R1':Rel S (c1.pinned [(fa,o)]) O s1.heap:=R1.pinned (λp hp=>by rw[aB]at hp;subst hp;exact hfa) λp hp=>by rw[aB]at hp;subst hp;exact ho
 right;refine(Di.name (k:=k) h2).run A _ s1 env dA hA ((hE.mono l1 (ab _)).pinned) R1' (.pv a1) _ _ λc2 s2 l2 R2 K2=> ?_;have Me:c2.pin fa=aa o:=by rw[l2.pin];exact aM.lD ..
 refine⟨m,⟨o,es,ep,(R2.pins _ _ Me).1,hd,hk,hm⟩,λh' qa=> ?_⟩;refine aR (hQ {c2 with pin:=λa=>if a=fa then ac else c2.pin a} .next _ ⟨λa y e=>l2.F a y (l1.F a y e),λi hi=>(l2.Z i hi).trans (l1.Z i hi),?_⟩ (R2.Gv Me qa.extBut) ((K1.trans K2).trans (.gF ..)) .next);funext a;show(if a=fa then ac else c2.pin a)=c.pin a;by_cases ha:a=fa
 ·subst ha;rw[if_pos rfl,<- l1.pin];exact hfa.pin.symm
 ·rw[if_neg ha,l2.pin,<- l1.pin];show(gP a [(fa,o)]).or (c1.pin a)=c1.pin a;rw[di,beq_false_of_ne ha];rfl
section
variable {lay:Lay}
def mu.zb
  (mY:cl.Ok lay) (Zw:scope=cl.scope) (hg:∀g∈gs,g.is_async=0) (hf:∀g∈(⟨cD,ky,II,0⟩::gs:List dI),∀env x,foldedSetIterable g.iter env x=pure x)
  (hit:GB S k lay ky it) (hG:F5 S k (cl.L lay) (⟨cD,ky,II,0⟩::gs) (Do F4) AO.list 0 G) (h:lay.ni i x=true)
  (hs:(λenv:lW=>swapsWith (.ListComp F4 (⟨cD,ky,II,0⟩::gs) scope FJ) (aa (.Name x jT)) pos.line {env with scope:=lay.scope})=λq=>pure true):
  mu S k lay (.Assign [.Name x jT] (.ListComp F4 (⟨cD,ky,II,0⟩::gs) scope FJ) pos) (bZ (ei cl it G) (bf i)):=by
 intro p O st fl cf bc Kc;subst Zw;unfold bZ at Kc;simp only[ar,aG]at Kc;let ⟨st1,⟨v,hv,ht⟩,e⟩:=Kc;let ⟨rfl,rfl⟩:=bG e;obtain rfl:=ag ht;unfold ei at hv;simp only[aG,ar]at hv;left;let ⟨xs,hx,⟨r,cf⟩,hr,rfl⟩:=hv;let ⟨bv,a,b,c⟩:=bc.ie (S:=S) h (.pv (.lst r));right;have wj:∀g∈(⟨cD,ky,II,0⟩::gs:List dI),g.is_async=0:=λg h=>by
  rcases aH.mp h with e|e
  ·subst e;rfl
  ·exact hg g e
 refine⟨bv,iW.I0 (d:= .lst r) (λA c s env hA hE R u E Q hQ=> ?_) a hs,b,c⟩;rw[arm_evalThenUse_ListComp];refine am (ED (fin:=PV.lst) (pos:=ky.pos) (mf.list ..) (Dp F4 _ _ _) rfl wj hf mY hit hG za rfl A9 (λr n b τ=> .list rfl) bc hx hr A c s env hA hE R (aa u) E _ λc' dA s' fa m a b d e f g=> ?_);have:=hQ c' dA s' fa m a b d e f g;unfold compPost at this⊢;exact fZ this (λ_ Ea ⟨m,h1,h2⟩=>⟨m,h1,λh' hh=>aR (h2 h' hh)⟩) λq q x=>x
def hV (S:cz) (k:Nat) (r:eh) (g:List PV->Option PV):Prop:=∀(O:List AO) (ds:List PV) (d:PV),g ds=aa d->dy S k O (.pv (.con (.ref r.addr))) (ds.map AV.pv) [] (.pv d) O
def j9 (g:List PV->Option PV) (fa:St->Option (List CV)) (st:St):Option CV:=(((fa st).bind MH).bind g).map .pv
def dy.AW (h:dy S k O f args kw d bv) (hk:k<=k'):dy S k' O f args kw d bv:=
 ⟨h.len,λA c s fv vs kvs hA=>h.run A c s fv vs kvs (hA.le hk)⟩
def cS.ahD (hd:hV S k' r g) (hk:k'<=k) (hr:r∈fV) (h:lay.me f=true) (hg:(f,aa (.ref r.addr))∈cg)
  (ha:pQ S k lay args fa):cS S k lay (.Call (.Name f np) args [] pos) (j9 g fa):=by
 intro p O st v bc hf;unfold j9 at hf;simp only[ar,aG]at hf;left;let ⟨d,⟨ds,⟨l,hl,hp⟩,hgd⟩,rfl⟩:=hf;have hA:=ha p O st l bc hl;right;rw[wR hp]at hA;exact Ev.l8 hr (Ev.Gr h hg) hA .nil ((hd O ds d hgd).AW hk)
end
def Ev.newList:Ev S k O ae (.List [] pos) (.fM ↑O) (O++[.list []]):=by refine⟨by rw[aj];exact bh _ _,λA c s env hA hE R E Q hQ=> ?_⟩;refine wpAny_List (eB ⟨cI _,?_⟩);refine hQ (c.own ↑O s.heap.objs.size) _ _ aM.ja (R.AK (λb o e=>aJ _ e) (ab _) (aV _ rfl) (A9 _ _)) (.gF ..) ?_;have hv:cT S.w (c.own ↑O s.heap.objs.size) ↑(O++[AO.list []]) (.ref ((c.own ↑O s.heap.objs.size).Z ↑O)) (.fM ↑O):= .fM (by rw[aj,be];exact ez _);rw[(aM.lZ ..)]at hv;exact hv
def Ev.newDict:Ev S k O ae (.Dict [] [] pos) (.fM ↑O) (O++[.dict []]):=by
 refine⟨by rw[aj];exact bh _ _,λA c s env hA hE R E Q hQ=> ?_⟩;rw[eval_Dict_empty];refine am (cV (iE ?_));refine hQ (c.own ↑O s.heap.objs.size) _ _ aM.ja (R.AK (λb o e=>aJ _ e) (ab _) (aV _ rfl)
  (.dict rfl kE (λi e k d h=>by simp at h) λi e k d h=>by simp at h)) (.gF ..) ?_
 have hv:cT S.w (c.own ↑O s.heap.objs.size) ↑(O++[AO.dict []]) (.ref ((c.own ↑O s.heap.objs.size).Z ↑O)) (.fM ↑O):= .fM (by rw[aj,be];exact ez _);rw[(aM.lZ ..)]at hv;exact hv
section
variable {lay:Lay}
def alloc (o:CO) (st:St):St:= {st with ob:=st.ob++[o]}
def At.alloc (bc:At lay p st O) (hg:lay.grow=true) (o:CO):At lay p (alloc o st) (O++[o.ao p.oi])/\ko lay p st (alloc o st) O (O++[o.ao p.oi])/\p.oi ↑st.ob= ↑O:=by
 have hn:=bc.next hg;have h0:p.oi ↑st.ob= ↑O:=by have:=hn 0;simpa using this
 have Sk:∀(i n:Nat),p.ci[i]? =aa n->n< ↑O:=by
  intro i n hn;have F7:i< ↑st.cv:=by rw[bc.xZ,<- bc.FD];exact getElem?_lt' hn
  left;let ⟨m,hm,hc⟩:=bc.cells i _ (aq F7);right;rw[hn]at hm;obtain rfl:=ag hm;exact getElem?_lt' hc
 have Xb:∀j,j< ↑st.ob->p.oi j< ↑O:=λj hj=>getElem?_lt' (bc.obs j _ (aq hj));have cH:(Mine.alloc o st).ob.length= ↑st.ob+1:=by show ↑(st.ob++[o])=_;rw[aj,be]
 refine⟨⟨gA bc.frame,bc.N2,bc.xZ,bc.FD,λi v hv=> ?_,λj x hx=> ?_,bc.Zm,λj hj=> ?_,λj hj=> ?_,bc.W3,λi j hi hj e=> ?_,λq j=> ?_⟩,⟨?_,(λh=>by rw[hg]at h;nomatch h),(by rw[cH];exact Gg),λi hi q q q=>aW hi⟩,h0⟩
 ·let ⟨n,h1,h2⟩:=bc.cells i v hv;exact⟨n,h1,gA h2⟩
 ·have sI:(st.ob++[o])[j]? =aa x:=hx;rcases eH j ↑st.ob with h|h|h
  ·rw[aW h]at sI;exact gA (bc.obs j x sI)
  ·subst h;rw[aE (ab _),dc]at sI;obtain rfl:=ag sI;rw[h0,aE (ab _),dc];rfl
  ·rw[bB (by rw[aj,be];exact XR h)]at sI;nomatch sI
 ·rw[cH]at hj;rcases bS j ↑st.ob with h|h
  ·exact bc.Zn j h
  ·rw[show j= ↑st.ob by exact TH hj h,h0];exact aa4 (getElem?_lt' bc.frame)
 ·rw[cH]at hj;rcases bS j ↑st.ob with h|h
  ·exact bc.Vh j h
  ·rw[show j= ↑st.ob by exact TH hj h,h0];intro hm;let ⟨i,hi,e⟩:=wy hm;have:=Sk i _ (aq hi);rw[e]at this;exact aa7 this
 ·rw[cH]at hi hj;rcases bS i ↑st.ob with h|h<;>rcases bS j ↑st.ob with h'|h'
  ·exact bc.Vi i j h h' e
  ·have e1:=Xb i h;rw[e,show j= ↑st.ob by exact TH hj h',h0]at e1;exact aa8 e1
  ·have e1:=Xb j h';rw[<- e,show i= ↑st.ob by exact TH hi h,h0]at e1;exact aa8 e1
  ·exact aa9 hi hj h h'
 ·rw[cH,show ↑st.ob+1+j= ↑st.ob+(j+1) by exact aba,hn (j+1),aj,be];exact KI
 ·rw[aj];exact O0
def CI (o:CO) (tg:CV->St->Option St) (st:St):Option (pj×St):=(tg (.ob ↑st.ob) (alloc o st)).map λcf=>(.next,cf)
def mu.newObj (hg:lay.grow=true) (hv:∀(O:List AO) (ae:iv) (oi:NN),Ev S k O ae gQ (.fM ↑O) (O++[o.ao oi]))
  (h2:∀(p:Iz) (O:List AO) (st:St) (v:CV) (cf:St),At lay p st O->tg v st=aa cf->∃bv,jY S O (lay.en p) x (v.av p.oi) bv/\At lay p cf bv/\ko lay p st cf O bv)
  (hs:swapsWith gQ (aa (.Name x jT)) pos.line=λq=>pure false):mu S k lay (.Assign [.Name x jT] gQ pos) (CI o tg):=by
 intro p O st fl cf bc hf;unfold CI at hf;simp only[ar]at hf;left;let ⟨st1,ht,e⟩:=hf;let ⟨rfl,rfl⟩:=bG e;let ⟨a1,b1,c1⟩:=bc.alloc hg o;let ⟨bv,a,b,c⟩:=h2 p _ _ _ _ a1 ht;right;refine⟨bv,iW.assign (hv O (lay.en p) p.oi) ?_ (λenv q=>congrFun hs env),b,b1.trans c bc⟩;exact((by show AV.fM (p.oi ↑st.ob)=_;rw[c1]))▸a
def mu.GF (hg:lay.grow=true) (h:lay.ni i x=true):mu S k lay (.Assign [.Name x jT] (.List [] agu) pos) (CI (.list []) (bf i)):=
 mu.newObj hg (λO ae oi=>Ev.newList) (λp O st v cf bc hf=>by obtain rfl:=ag hf;exact bc.ie h v) pp
end
def mT (h:n<100000):n<=sizeLine:=by have:sizeLine=2 ^ 24:=rfl;exact abb h this
def Ba {h:iQ} (f:Array Value->Array Value) (ho:h.get? a=aa {cls:=T,data:= .seq vs e}):
  ∃e',(h.update a (Obj.mapSeq f)).get? a=aa {cls:=T,data:= .seq (f vs) e'}:=by
 have hm:∃e',Obj.mapSeq f {cls:=T,data:= .seq vs e}= {cls:=T,data:= .seq (f vs) e'}:=⟨_,rfl⟩;let ⟨e',he⟩:=hm;exact⟨e',by rw[uJ _ ho (by rw[he];rfl),he]⟩
def nk.append (hi:O[i]? =aa (.list l)) (hsz: ↑l<100000):nk S k O (.builtin "list.append") [.fM i,.pv d] (.pv PV.none) (O.set i (.list (l++[d]))):=by refine⟨by rw[bi];exact ab _,λA c s vs hA R ha E Q hQ=> ?_⟩;refine ha.n2 (P:=λvs=>wpAny _ _ (call _ vs) _ _ _) λq q a1 a2=> ?_;let ⟨rfl,kR⟩:=a1.zI;let ⟨o,ho,hr⟩:=R.own _ _ hi;let ⟨vs,e,rfl,hs,hp⟩:=hr.y6;refine uS (hsz:=mT (by simp_all)) ⟨_,ho⟩ λh' So hk=> ?_;let ⟨e',rZ⟩:=So;exact hQ c _ _ (.refl ..) (R.PM kR hk.extBut rZ hs hp a2.gh) (.gF ..) (.pv (.con _))
noncomputable def uL {α:Type} (n:Nat) (d:α) (l:List α):List α:=l.take n++d::l.drop n
def nk.insert {n:Nat} (hm:m=(n:Int)) (hi:O[i]? =aa (.list l)) (hsz: ↑l<100000) (hn:n<= ↑l):
  nk S k O (.builtin "list.insert") [.fM i,.pv (.int m),.pv d] (.pv PV.none) (O.set i (.list (uL n d l))):=by
 refine⟨by rw[bi];exact ab _,λA c s vs hA R ha E Q hQ=> ?_⟩;refine ha.n3 (P:=λvs=>wpAny _ _ (call _ vs) _ _ _) λq q v3 a1 a2 a3=> ?_;let ⟨rfl,kR⟩:=a1.zI;let ⟨o,ho,hr⟩:=R.own _ _ hi;let ⟨vs,e,rfl,hs,hp⟩:=hr.y6;have D7:=a2.gh;let ⟨t,rfl⟩:=D7.kH;have Ka:¬(!iq m)=true:=by unfold iq;simp;exact abc hm hn hsz
 have Sm:vs.size<=sizeLine:=mT (O1 hs hsz);refine Ku F.slot_list_insert ⟨_,ho,rfl⟩ F.entry_list_insert (F.args_list_insert_3 _ _ _) ((((@AutoSeq1.list_insert_list_int_val_1 (c.Z i) vs e) m t v3) Ka) Sm) ⟨ho,?_⟩;generalize hF:(λxs:Array Value=>have k:=if m<0 then(m+(xs.size:Int)).toNat else min m.toNat xs.size;(xs.extract 0 k).push v3++xs.extract k)=F;let ⟨e',rZ⟩:=Ba F ho;have hFv:(F vs).toList=uL n v3 vs.toList:=by
  rw[<- hF];have hk:(if m<0 then(m+(vs.size:Int)).toNat else min m.toNat vs.size)=n:=by rw[if_neg (abd hm)];exact abe hm hs hn
  show((vs.extract 0 (if m<0 then(m+(vs.size:Int)).toNat else min m.toNat vs.size)).push v3++vs.extract (if m<0 then(m+(vs.size:Int)).toNat else min m.toNat vs.size)).toList=_;rw[hk];unfold uL;simp;exact eP (by rw[fH,bz];exact ab _)
 refine hQ c _ _ (.refl ..) (R.set kR (λb o hb e=>(mP ..).extBut b o hb e) rZ ?_) (.gF ..) (.pv (.con _));refine .list (by rw[<- bz,hFv,(by unfold uL;rw[aj,cF,az,fH];exact VU: ↑(uL n d l)= ↑l+1)];unfold uL;rw[aj,cF,az,fH,bz];exact abf hs) λi v x hv hx=> ?_;rw[<- fR,hFv]at hv;unfold uL at hv hx;rcases eH i n with h|h|h
 ·rw[aW (by rw[cF,bz];exact abg h hn hs),lJ h]at hv;rw[aW (by rw[cF];exact abh h hn),lJ h]at hx;exact dk.TU hp i v x hv hx
 ·subst h;rw[aE (by rw[cF,bz];exact VV),cF,bz,show i- min i vs.size=0 by exact abi hn hs]at hv;rw[aE (by rw[cF];exact VV),cF,show i- min i ↑l=0 by exact abj hn]at hx;obtain rfl:=ag hv;obtain rfl:=ag hx;exact a3.gh
 ·rw[aE (by rw[cF,bz];exact VW h),cF,bz,show i- min n vs.size=(i- n- 1)+1 by exact abk h hn hs,il,OP]at hv;rw[aE (by rw[cF];exact VW h),cF,show i- min n ↑l=(i- n- 1)+1 by exact abl h hn,il,OP]at hx;exact dk.TU hp _ v x hv hx
def nk.pop {n:Nat} (hm:m=(n:Int)) (hi:O[i]? =aa (.list l)) (hsz: ↑l<100000) (hn:l[n]? =aa d):
  nk S k O (.builtin "list.pop") [.fM i,.pv (.int m)] (.pv d) (O.set i (.list (l.eraseIdx n))):=by
 refine⟨by rw[bi];exact ab _,λA c s vs hA R ha E Q hQ=> ?_⟩;refine ha.n2 (P:=λvs=>wpAny _ _ (call _ vs) _ _ _) λq q a1 a2=> ?_;let ⟨rfl,kR⟩:=a1.zI;let ⟨o,ho,hr⟩:=R.own _ _ hi;let ⟨vs,e,rfl,hs,hp⟩:=hr.y6;have D7:=a2.gh;let ⟨t,rfl⟩:=D7.kH;have Kh:=getElem?_lt' hn;have Ka:iq m=true:=by unfold iq;simp;exact abm hm Kh hsz
 let ⟨y,hy⟩:=uf hs hn;have Sm:vs.size<=sizeLine:=mT (O1 hs hsz);refine Ku F.slot_list_pop ⟨_,ho,rfl⟩ F.entry_list_pop (F.args_list_pop_2 _ _) (MeetsSeq.list_pop_at (c.Z i) vs e m t n y Ka (by rw[VE (abn hm) (abo hm hs Kh)];congr 1;exact abp hm) hy Sm) ⟨ho,?_⟩;let ⟨e',rZ⟩:=Ba (λxs=>xs.eraseIdxIfInBounds n) ho;have hF:(vs.eraseIdxIfInBounds n).toList=vs.toList.eraseIdx n:=by simp
 refine hQ c _ _ (.refl ..) (R.set kR (λb o hb e=>(mP ..).extBut b o hb e) rZ ?_) (.gF ..) (.pv (hp n _ _ hy hn));refine .list (by rw[<- bz,hF,Ee (by rw[bz];exact CF Kh hs),Ee Kh,bz,hs]) λi v x hv hx=> ?_;rw[<- fR,hF]at hv;rw[List.getElem?_eraseIdx]at hv hx;by_cases h:i<n
 ·rw[if_pos h]at hv hx;exact dk.TU hp i v x hv hx
 ·rw[if_neg h]at hv hx;exact dk.TU hp (i+1) v x hv hx
section
variable {lay:Lay}
def qR (j:Nat) (o:CO) (st:St):St:= {st with ob:=st.ob.set j o}
def At.Bb (bc:At lay p st O) (hj:st.ob[j]? =aa o) (o':CO):At lay p (qR j o' st) (O.set (p.oi j) (o'.ao p.oi))/\ko lay p st (qR j o' st) O (O.set (p.oi j) (o'.ao p.oi)):=by
 have Xe:=getElem?_lt' hj;have H9:∀m,m≠p.oi j->∀x,(O.set (p.oi j) x)[m]? =O[m]? :=λm hm x=>bD hm.symm;have cH:(Mine.qR j o' st).ob.length= ↑st.ob:=by show ↑(st.ob.set j o')=_;exact bi
 refine⟨⟨?_,bc.N2,bc.xZ,bc.FD,λi v hv=> ?_,λi x hx=> ?_,bc.Zm,λi hi=>bc.Zn i (cH▸hi),λi hi=>bc.Vh i (cH▸hi),bc.W3,λa b ha hb=>bc.Vi a b (cH▸ha) (cH▸hb),λhg i=> ?_⟩,
  ⟨by rw[bi];exact ab _,λq=>⟨bi,cH⟩,by rw[cH];exact ab _,λi q q q h=>H9 i (h j Xe) _⟩⟩
 ·rw[H9 _ (bc.Zn j Xe).symm];exact bc.frame
 ·let ⟨n,h1,h2⟩:=bc.cells i v hv;refine⟨n,h1,?_⟩;rw[H9 n (λe=>bc.Vh j Xe (e▸bo h1))];exact h2
 ·have sI:(st.ob.set j o')[i]? =aa x:=hx;by_cases h:j=i
  ·subst h;rw[bU Xe]at sI;obtain rfl:=ag sI;exact bU (getElem?_lt' (bc.obs j o hj))
  ·rw[bD h]at sI;rw[H9 _ (λe=>h (bc.Vi j i Xe (getElem?_lt' sI) e.symm))];exact bc.obs i x sI
 ·rw[cH,bi];exact bc.next hg i
def Bc (S:cz) (k:Nat) (id:String) (g:List PV->List PV->Option (PV×List PV)):Prop:=
 ∀(O:List AO) (i:Nat) (l:List PV) (ds:List PV) (r:PV) (l':List PV),O[i]? =aa (.list l)->g l ds=aa (r,l')->nk S k O (.builtin id) (.fM i::ds.map AV.pv) (.pv r) (O.set i (.list l'))
def gZ (l:List PV):List PV->Option (PV×List PV)
 | []=>ac
 | [d]=>if ↑l<100000 then aa (PV.none,l++[d]) else ac
 |_::_::_=>ac
def X9 (l:List PV):List PV->Option (PV×List PV)
 | []=>ac
 | [a]=>(CV.pv a).aI.bind λm=>if ↑l<100000/\0<=m then(l[m.toNat]?).map λd=>(d,l.eraseIdx m.toNat) else ac
 |_::_::_=>ac
def Bc.append:Bc S k "list.append" gZ:=by
 intro O i l ds r l' hi h;rcases ds with _|⟨d,_|_⟩
 ·exact gq h
 ·let ⟨hh,e⟩:=dT h;let ⟨rfl,rfl⟩:=bG e;exact nk.append hi hh
 ·exact gq h
def Bc.pop:Bc S k "list.pop" X9:=by
 intro O i l ds r l' hi h;rcases ds with _|⟨a,_|_⟩
 ·exact gq h
 ·refine a9 h λm e h=> ?_;obtain rfl:=CV.pvI (CV.kI e);let ⟨hh,h⟩:=Ey h;let ⟨d,hd,e⟩:=ar.mp h;let ⟨rfl,rfl⟩:=bG e;exact nk.pop (ya hh.2).symm hi hh.1 hd
 ·exact gq h
def oy (g:List PV->List PV->Option (PV×List PV)) (f:EF) (fa:St->Option (List CV)) (st:St):Option (pj×St):=
 ((f st).bind CV.aO).bind λj=>((fa st).bind MH).bind λds=>(S5 st.ob[j]?).bind λl=>(g l ds).map λr=>(.next,qR j (.list r.2) st)
def mu.mut {id:String} (hm:Bc S k id g) (KD:Slot "list" name id)
  (hty:typeOf (.builtin id)=pure (.type "method_descriptor")) (h:cS S k lay o f) (ha:pQ S k lay args fa) (ik:∀env,attributeBase o name env (eval o env)=eval o env) (gC:(jw.endLine==pos.line)=true) (hn: ↑args<30)
  (hs:swapsWith (.Call (.Attribute o name jw) args [] pos) ac FK.line=λq=>pure false):mu S k lay (.Expr (.Call (.Attribute o name jw) args [] pos) FK) (oy g f fa):=by
 intro p O st fl cf bc hf;refine a9 hf λj hd hf=>a9 hd λq hd e1=>a9 hf λds Zk hf=>a9 Zk λvs0 hv0 hp0=>a9 hf λl hl hf=> ?_;rw[CV.kO e1]at hd;replace hl:=uh hl;let ⟨⟨r,l'⟩,hg,e⟩:=ar.mp hf;let ⟨rfl,rfl⟩:=bG e;have ID:=ha p O st _ bc hv0;rw[wR hp0]at ID;let ⟨b,c⟩:=bc.Bb hl (.list l');refine⟨_,iW.expr (d:= .pv r) ⟨by rw[bi];exact ab _,λA c s env hA hE R E Q hQ=> ?_⟩ hs,b,c⟩;refine eK (ik env) (A3 ID pos env hn) gC ((h p O st _ bc hd).run A c s env hA hE R _ _ λc1 v1 s1 l1 R1 K1 a1=> ?_);let ⟨hT,tT⟩:=z4 bc (v:= .ob j) (T:= "list") (by show obT st.ob[j]? =_;rw[hl];rfl) R1 a1;refine⟨"list",id,F.plainAttrs_list,KD,hty,hT,tT,cX (noStar ID pos env) ?_⟩;refine eg ID _ pos A c1 s1 env hA (hE.mono l1 (ab _)) R1 _ _ λc2 vs s2 l2 R2 K2 a2=> ?_;exact(hm O (p.oi j) l ds r l' (bc.obs j _ hl) hg).run A c2 s2 (v1::vs) hA R2 (.cons (a1.mono l2 (ab _)) a2) E Q λc3 v3 s3 l3 R3 K3 a3=>hQ c3 v3 s3 ((l1.trans l2 (ab _)).trans l3 (ab _)) R3 ((K1.trans K2).trans K3) a3
end
def S8 {P:List Value->Prop} (h:∀a,P [a]):∀vs:List Value,↑vs=1->P vs:=λvs e=>by
 rcases vs with _|⟨a,_|_⟩
 ·exact absurd e ∅
 ·exact h a
 ·exact absurd (lX e) (Nat.succ_ne_zero _)
def bd2 {P:List Value->Prop} (h:∀a b,P [a,b]):∀vs:List Value,↑vs=2->P vs:=λvs e=>by
 rcases vs with _|⟨a,l⟩
 ·exact absurd e ∅
 ·exact S8 (P:=λl=>P (a::l)) (h a) l (lX e)
def WR {P:List Value->Prop} (h:∀a b c,P [a,b,c]):∀vs:List Value,↑vs=3->P vs:=λvs e=>by
 rcases vs with _|⟨a,l⟩
 ·exact absurd e ∅
 ·exact bd2 (P:=λl=>P (a::l)) (h a) l (lX e)
def nI (r:eh) (names others:List Str):Lay:= {scope:=r.scope,loc:=names++others,nj:=[],own:=0,grow:=true,code:=aa r.code}
noncomputable def Dr (ds:List PV) (others:List Str):St:= {lv:=(ds.map λd=> ~~~d)++others.map λq=>ac,cv:=[],ob:=[]}
noncomputable def obV:Option CO->Option PV
 |some (.list l)=>aa (.lst l)
 |some (.dict l)=>aa (.oK l)
 |_=>ac
def GG (st:St):pj->Option PV
 | .next=>aa PV.none
 | .ret (.pv d)=>aa d
 | .ret (.ob j)=>obV st.ob[j]?
 |_=>ac
def mJ (names others:List Str) (F:St->Option (pj×St)) (ds:List PV):Option PV:=
 if ↑ds= ↑names then(F (Dr ds others)).bind λr=>GG r.2 r.1 else ac
def rL (hl:∀i,i< ↑O->bv[i]? =O[i]?):∃τ,bv=O++τ:=by
 refine⟨bv.drop ↑O,?_⟩;have ht:bv.take ↑O=O:=by
  apply ro;intro i;rcases bS i ↑O with h|h
  ·rw[lJ h];exact hl i h
  ·rw[bB (by rw[cF];exact aa2 h),bB h]
 conv=>lhs;rw[<- nC ↑O bv,ht]
section
variable {lay:Lay}
noncomputable def ajf:mv->Int->Int->Option Int
 | .Add,a,b=>aa (a+b)
 | .Sub,a,b=>aa (a- b)
 |_,_,_=>ac
def I1 (op:mv) (i:Nat) (f:EF) (st:St):Option (pj×St):=((ak i st).bind CV.aI).bind λa=>((f st).bind CV.aI).bind λb=>(ajf op a b).map λr=>(.next,ie i (.pv (.int r)) st)
def mu.aug (h:lay.ni i x=true) (hv:cS S k lay gQ f):mu S k lay (.AugAssign (.Name x jT) op gQ pos) (I1 op i f):=by
 intro p O st fl cf bc hf;refine a9 hf λa ha hf=>a9 ha λq ha e1=>a9 hf λb hb hf=>a9 hb λq hb e2=> ?_;rw[CV.kI e1]at ha;rw[CV.kI e2]at hb;let ⟨r,hr,e⟩:=ar.mp hf;let ⟨rfl,rfl⟩:=bG e;let ⟨bv,a1,b1,c1⟩:=bc.ie (S:=S) h (.pv (.int r));refine⟨bv,⟨a1.len,λA c s env hA hE R E Q hQ=> ?_⟩,b1,c1⟩;have hl:=h;unfold Lay.ni at hl;simp only[dj,beq_iff_eq]at hl;let ⟨⟨h1,h2⟩,h3⟩:=hl;have hvl:st.lv[i]? =aa (~~~(.int a)):=by
  unfold ak at ha;rw[AG]at ha;cases e:st.lv[i]? with
  |none=>rw[e]at ha;exact gq ha
  |some o=>rw[e]at ha;exact congrArg aa ha
 let ⟨fr,uH,_,g1,_⟩:=R.ns bc.frame;let ⟨v,vU,hd⟩:=g1 x (AV.pv (.int a)) (Pz h1 (v:=aa (AV.pv (.int a))) (by rw[bN,hvl];rfl));refine wpAny_AugAssign_Name (qb (by rw[hE.scope];exact hE.kind) (by rw[hE.kindOf];exact h2) (by rw[hE.locals];exact uH) vU ?_);refine(hv p O st _ bc hb).run A c s env hA hE R _ _ λc1 v1 s1 l1 R1 K1 d1=> ?_;let ⟨t,rfl⟩:=d1.gh.kH;let ⟨u,rfl⟩:=hd.gh.kH;have fin:∀tk,wpAny (MM S.w) A (storeName env x (.int r tk)) (λq=>Q .next) E {s1 with toks:=s1.toks+1}:=λtk=>
  a1.run A c1 {s1 with toks:=s1.toks+1} env _ (hE.mono l1 (ab _)) R1 (.pv (.int r tk)) _ _ λc2 s2 l2 R2 K2=>hQ c2 .next s2 (l1.trans l2 (ab _)) R2 ((K1.trans (.toks ..)).trans K2) .next
 induction op with
 |Add=>obtain rfl:=ag hr;exact PyProof.Rows.iadd_int (fin _)
 |Sub=>obtain rfl:=ag hr;exact P.isub_int (fin _)
 |_=>exact gq hr
end
section
variable {lay:Lay}
def MS (R:Rel S c O s.heap) (ku:O[n]? =aa (.dict dA)) (hn:x∉dA.map (·.1)) (hsz: ↑dA<100000) (hv:dk S.w c.F v d)
  (hQ:∀s',Rel S c (O.set n (.dict (dA++[(x,d)]))) s'.heap->dZ s s'->Q () s'):wpAny (MM S.w) A (setItem (.ref (c.Z n)) (.str x t) v) Q E s:=by
 have Kh:=getElem?_lt' ku;left;let ⟨a,es,m,kvs,e,_,ho,nd,hp⟩:=(S6.fM ku).at R (v:= .ref (c.Z n)) (.fM Kh);right;cases e;have cH: ↑kvs= ↑dA:=by have:=congrArg eX hp.keys;simpa using this
 refine wpAny_setItem_pairs (knd:=strKind pw S.w) (k:=x) (beq_self_eq_true x) (mG (hp.dictOf ho nd)) (λh' Mb qa=> ?_) (XQ cH rfl hsz);rw[stored_new (by rw[hp.keys];exact hn)]at Mb;let ⟨o,rZ,hr⟩:=ic.PN (c:=c) (n:= ↑O) (l:=dA++[(x,d)]) Mb (by rw[bH,bH,hp.keys];rfl) (λi p q a b=>by
  rcases eH i ↑dA with hi|hi|hi
  ·rw[aW (CF hi cH)]at a;rw[aW hi]at b;exact hp.vals i p q a b
  ·rw[aE (XS cH hi),show i- ↑kvs=0 by exact aa5 hi cH]at a;rw[aE (TG hi),show i- ↑dA=0 by exact aa6 hi]at b;cases a;cases b;exact hv
  ·rw[bB (by simp;exact XR hi)]at b;cases b)
 exact hQ _ (R.set Kh qa.extBut rZ hr) (.heap ..)
noncomputable def CO.aD:CO->Option (List (Str×PV))
 | .dict l=>aa l
 |_=>ac
def CO.kD {o:CO} (h:o.aD=aa l):o= .dict l:=by
 induction o with
 |dict m=>exact congrArg CO.dict (ag h)
 |_=>exact gq h
def St.aD (st:St) (j:Nat):Option (List (Str×PV)):=(st.ob[j]?).bind CO.aD
def EG (f fo fi:EF) (st:St):Option (pj×St):=((f st).bind CV.aP).bind λd=>((fo st).bind CV.aO).bind λj=>((fi st).bind CV.aS).bind λx=>(st.aD j).bind λl=>
 if ↑l<100000/\l.lookup x=ac then aa (.next,qR j (.dict (l++[(x,d)])) st) else ac
def mu.put (hv:cS S k lay gQ f) (ho:cS S k lay o fo) (hi:cS S k lay i fi) (hs:swapsWith gQ (aa (.Subscript o i FK)) pos.line=λq=>pure false):
  mu S k lay (.Assign [.Subscript o i FK] gQ pos) (EG f fo fi):=by
 intro p O st fl cf bc hf;refine a9 hf λd hd hf=>a9 hd λq hd e1=>a9 hf λj hj hf=>a9 hj λq hj e2=>a9 hf λx hx hf=>a9 hx λq hx e3=>a9 hf λl hl hf=>a9 hl λq hl e4=> ?_;rw[CV.kP e1]at hd;rw[CV.kO e2]at hj;rw[CV.kS e3]at hx;rw[CO.kD e4]at hl;obtain(⟨hsz,e⟩):=dT hf;obtain(⟨rfl,rfl⟩):=bG e;obtain(⟨b,c⟩):=bc.Bb hl (.dict (l++[(x,d)]));refine⟨_,⟨by rw[bi];exact ab _,λA c s env hA hE R E Q hQ=> ?_⟩,b,c⟩;refine wpAny_Assign_Subscript (hs:=congrFun hs env) ((hv p O st _ bc hd).run A c s env hA hE R _ _ λc1 v1 s1 l1 R1 K1 a1=> ?_);have rq:=hE.mono l1 (ab _);refine(ho p O st _ bc hj).run A c1 s1 env hA rq R1 _ _ λc2 v2 s2 l2 R2 K2 a2=> ?_;refine(hi p O st _ bc hx).run A c2 s2 env hA (rq.mono l2 (ab _)) R2 _ _ λc3 v3 s3 l3 R3 K3 a3=> ?_;have FG:=l2.trans l3 (ab _);have a3':=a3.gh;obtain(⟨t,rfl⟩):=a3'.mD;have D7:=a2.mono l3 (ab _);obtain(⟨rfl,kR⟩):=D7.zI;exact MS R3 (bc.obs j _ hl) (lookup_none hsz.2) hsz.1 ((a1.mono FG (ab _)).gh) λs' R4 K4=>hQ c3 .next s' (l1.trans FG (ab _)) R4 (((K1.trans K2).trans K3).trans K4) .next
end
inductive jU (S:cz) (ae:iv):List AO->List (Str×AV)->List AO->Prop
 |nil {O:List AO}:jU S ae O [] O
 |cons {O bw bP:List AO} {x:Str} {d:AV} {rest:List (Str×AV)}:jY S O ae x d bw->jU S ae bw rest bP->jU S ae O ((x,d)::rest) bP
def jU.len (h:jU S ae O bs bv): ↑O<= ↑bv:=by
 induction h with
 |nil=>exact ab _
 |cons a _ ih=>exact aA a.len ih
def jU.run (h:jU S ae O bs bv):∀(A:cR) (c:aM) (s:bb) (env:lW) (vb:List (Str×Value)) (f:Str×Value->PUnit->zV (ForInStep PUnit)),(∀n v u,f (n,v) u=(do storeName env n v;pure (.yield ⟨⟩)))->
  cY c ↑O ae env->Rel S c O s.heap->vb.map (·.1)=bs.map (·.1)->dg S.w c ↑O (vb.map (·.2)) (bs.map (·.2))->
  ∀(E:VS) (Q:PUnit->bb->Prop),(∀c' s',aM.le ↑O c c'->Rel S c' bv s'.heap->dZ s s'->Q ⟨⟩ s')->wpAny (MM S.w) A (forIn vb ⟨⟩ f) Q E s:=by
 induction h with
 |nil=>
  intro A c s env vb f hf hE R hk hv E Q hQ;induction vb with
  |nil=>rw[qx];exact aR (hQ c s (.refl ..) R (.refl ..))
  |cons=>cases hk
 | @cons O bw bP x d rest h1 h2 ih=>
  intro A c s env vb f hf hE R hk hv E Q hQ;cases vb with
  |nil=>cases hk
  |cons p vb=>let ⟨y,v⟩:=p;rw[bx,bx]at hk hv;injection hk with e1 e2;have e1':y=x:=e1;subst e1';let ⟨_,_,q,a,b⟩:=hv.i1;cases q;rw[ub,hf];refine am (am (h1.run A c s env v hE R a _ _ λc1 s1 l1 R1 K1=>aR ?_));exact ih A c1 s1 env vb f hf (hE.mono l1 h1.len) R1 e2 (b.mono l1 h1.len) E Q λc2 s2 l2 R2 K2=>hQ c2 s2 (l1.trans l2 h1.len) R2 (K1.trans K2)
def gB (r:eh) (n:Nat):iv:= {scope:=r.scope,fi:=n,cells:=cellsFrom (n+1) r.scope.names [],code:=aa r.code}
def vC (S:cz) (k:Nat) (O:List AO) (fd:FuncData) (args:List AV) (kw:List (Str×AV)) (binds:List (Str×AV)):Prop:=
 ∀(A:cR) (c:aM) (s:bb) (vs:Vs) (kvs:List (Str×Value)),A.handled=ac->Rel S c O s.heap->dg S.w c ↑O vs args->kvs.map (·.1)=kw.map (·.1)->dg S.w c ↑O (kvs.map (·.2)) (kw.map (·.2))->
  ∀(E:VS) (Q:List (Str×Value)->bb->Prop),(∀c' vb s',aM.le ↑O c c'->Rel S c' O s'.heap->dZ s s'->vb.map (·.1)=binds.map (·.1)->dg S.w c' ↑O (vb.map (·.2)) (binds.map (·.2))->Q vb s')->wpAny (MM S.w) A (bindArgs fd ⟨vs,kvs⟩) Q E s
def jE.B (h:jE S O fd args kw binds):vC S k O fd args kw binds:=by intro A c s vs kvs _ R ha hk HZ E Q hQ;let ⟨vb,h1,h2,h3⟩:=h c s vs kvs R ha hk HZ;exact h3 _ _ _ _ (hQ c vb s (.refl ..) R (.refl _) h1 h2)
structure pU (r:eh) (loc:List Str) (own:Sn):Prop where
 mem:r∈fV
 nd:loc.Nodup
 eqn:cellsFrom 0 r.scope.names []=own
 ndO:(own.map (·.2)).Nodup
 lt:∀q∈own,q.2<fj r.scope.names
 kind:r.scope.kind= .function
 co:r.scope.isCoroutine=false
 gen:r.scope.isGenerator=false
def pU.of (i:Nat) (hi:fV[i]? =aa r) (hk:r.scope.kind= .function) (h:(decide loc.Nodup&&decide (cellsFrom 0 r.scope.names []=own)&&decide (own.map (·.2)).Nodup&&own.all (λq=>decide (q.2<fj r.scope.names))&& !r.scope.isCoroutine&& !r.scope.isGenerator)=true):pU r loc own:=by simp only[dj,decide_eq_true_eq,fI,jk]at h;exact⟨bo hi,h.1.1.1.1.1,h.1.1.1.1.2,h.1.1.1.2,h.1.1.2,hk,h.1.2,h.2⟩
def ent (O:List AO) (r:eh) (loc:List Str):List AO:=O++(.ns (loc.map λx=>(x,ac))::bQ (fj r.scope.names) (.cell ac))
def EH (O:List AO) (r:eh) (loc:List Str): ↑(ent O r loc)= ↑O+1+fj r.scope.names:=by unfold ent;rw[aj,az,nD];exact KI
def wY (F : pU r loc own)
    (gr : ∀ pm, vC S k O (r.fd pm) args kw binds)
    (rp : jU S (gB r ↑O) (ent O r loc) binds bw)
    (hA : jD (k + 1) A) (R : Rel S c O s.heap) (hf : cT S.w c ↑O fv (.pv (.con (.ref r.addr)))) (ha : dg S.w c ↑O vs args) (hk : kvs.map (·.1) = kw.map (·.1)) (HZ : dg S.w c ↑O (kvs.map (·.2)) (kw.map (·.2)))
    (H : ∀ c3 s3 env, aM.le ↑O c c3 → cY c3 ↑bw (gB r ↑O) env → Rel S c3 bw s3.heap → dZ s s3 → s.toks ≤ s3.toks → env.frame = aa env.locals →
      wpAny (MM S.w) (A.deeper env) (execs r.body env) (λf s' => Q (match f with | .ret v => v | _ => .none) s') (λe s' => wpAny (MM S.w) (A.deeper env) (leaving env e) (λ_ => E e) E s') s3) :
    wpAny (MM S.w) A (call fv vs kvs) Q E s := by
  have e := hf.dn; subst e; left; let ⟨o, pm, ho, FL, Cd, C2⟩ := R.fn F.mem; right; refine vW ?_; refine Tf (fd := r.fd pm) (body := r.body) hA.room ho Cd F.co F.gen rfl C2 (mC (ab s.toks) (gr pm A.in1 c s vs kvs hA.hn R ha hk HZ _ _ λcB vb sB lB RB KB hvk hvv hTB => ?_)); show wpAny _ _ (newFunctionEnv r.scope 3 [] vb _ (aa r.addr) (.ref r.code) ac 0) _ _ _; simp only [newFunctionEnv, Mp, fw, if_false]; refine am (F9 ?_); refine am (Kt _ (λname kind cells => by cases hkc : kind == kX <;> simp [hkc]) _ _ _ _ ?_); have R1 : Rel S (cB.own ↑O sB.heap.objs.size) (O ++ [.ns (loc.map λx => (x, ac))]) (sB.heap.push { cls := .type "frame", data := .dict #[] }) :=
    RB.AK (λb o e => aJ _ e) (ab _) (aV _ rfl) (.ns (es := #[]) (ep := 0) rfl (λe he => by simp at he) (by rw [bC]; simpa [KA] using F.nd)
      (λx d hx => by let ⟨y, _, e⟩ := aQ.mp hx; nomatch e) λx _ => rfl)
  have l1 : aM.le ↑O cB (cB.own ↑O sB.heap.objs.size) := aM.ja; generalize hc1 : cB.own ↑O sB.heap.objs.size = c1 at R1 l1; left; let ⟨c2, l2, R2, mO, FH⟩ := Rel.A7 r.scope.names [] R1 (λp hp => by nomatch hp); right; rw [(by rw [aj, be] : ↑(O ++ [AO.ns (loc.map λx => (x, ac))]) = ↑O + 1)] at mO FH l2; rw [(by unfold ent; simp : O ++ [AO.ns (loc.map λx => (x, ac))] ++ bQ (fj r.scope.names) (AO.cell ac) = ent O r loc)] at R2; have zz := EH O r loc; generalize ent O r loc = uQ at R2 rp zz; rw [zG] at mO; generalize hH : ({ sB with heap := sB.heap.push { cls := .type "frame", data := .dict #[] } } : bb) = s1; have Zy : s1.heap = sB.heap.push { cls := .type "frame", data := .dict #[] } := by rw [← hH]
  have Kf : s.toks ≤ s1.toks := by exact hH ▸ hTB
  rw [← Zy] at mO R2; rw [mO]; have H4 : cY c2 ↑uQ (gB r ↑O) { scope := r.scope, locals := sB.heap.objs.size, globals := 3, cells := (cellsFrom (↑O + 1) r.scope.names []).map (λp => (p.1, c2.Z p.2)), qual := (r.fd pm).qualname ++ ".<locals>.", func := aa r.addr, code := .ref r.code, frame := aa sB.heap.objs.size, builtins := 0 } := {
    scope := rfl
    kind := F.kind
    locals := by show sB.heap.objs.size = c2.Z ↑O; rw [l2.Z _ (abq), (by exact hc1 ▸ (aM.lZ ..) : c1.Z ↑O = sB.heap.objs.size)]
    fi := by show ↑O < ↑uQ; exact abr zz
    globals := rfl
    builtins := rfl
    cells := rfl
    jp := λp hp => by rw [zz]; exact FH p hp
    code := λa e => by obtain rfl := ag e; rfl
    frame := ⟨_, rfl⟩ }
  have uG : aM.le ↑O cB c2 := l1.trans l2 (Gg); have K1 : dZ sB { s1 with heap := pushCells s1.heap r.scope.names } := by exact hH ▸ (.gF ..)
  refine am (mC (n := s.toks) Kf (rp.run _ c2 { s1 with heap := pushCells s1.heap r.scope.names } _ vb _ (λ_ _ _ => rfl) H4 R2 hvk (hvv.mono uG (VX zz)) _ _ λc3 s3 l3 R3 K3 ht3 => aR ⟨R3.lim, codeAny_func ?_⟩)); exact H c3 s3 _ (lB.trans (uG.trans l3 (VX zz)) abS) (H4.mono l3 rp.len) R3 (KB.trans (K1.trans K3)) ht3 rfl
def jU.Yb (h:jU S ae (ent O r loc) bs bw): ↑O<= ↑bw:=aA (by unfold ent;rw[aj];exact bh ..) h.len
def dy.Ds (F:pU r loc own)
  (gr:∀pm,vC S k O (r.fd pm) args kw binds)
  (rp:jU S (gB r ↑O) (ent O r loc) binds bw)
  (dY:cG S k bw (gB r ↑O) r.body f (bv++τ))
  (hl: ↑bv= ↑O) (HY:∀(i:Nat) (x:AO),bv[i]? =aa x->O[i]? =aa x\/x.flat=true) (hz:Gm τ ↑bv f.val d):
  dy S (k+1) O (.pv (.con (.ref r.addr))) args kw d bv:=by
 refine⟨by exact TG hl,?_⟩;intro A c s fv vs kvs hA R hf ha hk HZ E Q hQ;refine wY F gr rp hA R hf ha hk HZ λc3 s3 env l3 hE R3 K3 q q=> ?_;refine dY.run _ c3 s3 env hA.deeper hE R3 _ _ λc4 v4 s4 l4 R4 K4 f4=> ?_;have hv4:cT S.w c4 ↑(bv++τ) (TM v4) f.val:=by
  clear hQ;cases f4 with
  |next=>exact .pv (.con _)
  |brk=>exact .pv (.con _)
  |cont=>exact .pv (.con _)
  |ret h=>exact h
 let ⟨c5,l5,R5,hv5,_⟩:=Gm.run R R4 hl HY hz hv4;have fin:=hQ c5 _ s4 ((l3.trans l4 rp.Yb).trans l5 (ab _)) R5 (K3.trans K4) hv5;cases v4<;>exact fin
inductive vD (S:cz) (k:Nat) (ae:iv):List AO->List Expr->List AV->List AO->Prop
 |nil {O:List AO}:vD S k ae O [] [] O
 |cons {O bw bP:List AO} {e:Expr} {rest:List Expr} {d:AV} {ds:List AV}:Ev S k O ae e d bw->vD S k ae bw rest ds bP->notStar e=true->vD S k ae O (e::rest) (d::ds) bP
def vD.len (h:vD S k ae O es ds bv): ↑O<= ↑bv:=by
 induction h with
 |nil=>exact ab _
 |cons h _ _ ih=>exact aA h.len ih
def vD.size (h:vD S k ae O es ds bv): ↑ds= ↑es:=by
 induction h with
 |nil=>rfl
 |cons _ _ _ ih=>rw[az,az,ih]
def vD.run (h:vD S k ae O es ds bv):∀(pos:Pos) (A:cR) (c:aM) (s:bb) (env:lW),jD k A->cY c ↑O ae env->Rel S c O s.heap->
  ∀(E:VS) (Q:List Value->bb->Prop),(∀c' vs s',aM.le ↑O c c'->Rel S c' bv s'.heap->dZ s s'->dg S.w c' ↑bv vs ds->Q vs s')->wpAny (MM S.w) A (spliced (backTo pos (starEach es env))) Q E s:=by
 induction h with
 |nil=>intro pos A c s env _ _ R E Q hQ;exact eB (hQ c [] s (.refl ..) R (.refl _) .nil)
 |cons h1 h2 hn ih=>intro pos A c s env hA hE R E Q hQ;rw[gz hn];show wpAny _ A (spliced ((false,eval _ env)::backTo pos (starEach _ env))) Q E s;refine bX (h1.run A c s env hA hE R _ _ λc1 v1 s1 l1 R1 K1 a1=> ?_);exact ih pos A c1 s1 env hA (hE.mono l1 h1.len) R1 _ _ λc2 vs s2 l2 R2 K2 a2=>hQ c2 _ s2 (l1.trans l2 h1.len) R2 (K1.trans K2) (.cons (a1.mono l2 h2.len) a2)
inductive tb (S:cz) (k:Nat) (ae:iv):List AO->List Expr->List AV->List AO->Prop
 |nil {O:List AO}:tb S k ae O [] [] O
 |cons {O bw bP:List AO} {t:Expr} {rest:List Expr} {d:AV} {ds:List AV}:Di S k O ae t d bw->tb S k ae bw rest ds bP->notStar t=true->tb S k ae O (t::rest) (d::ds) bP
def tb.len (h:tb S k ae O ts ds bv): ↑O<= ↑bv:=by
 induction h with
 |nil=>exact ab _
 |cons h _ _ ih=>exact aA h.len ih
def tb.shape (h:tb S k ae O ts ds bv) (env:lW): ↑(assignEach ts env)= ↑ds/\(assignEach ts env).findIdx? (·.1)=ac:=by
 induction h with
 |nil=>exact⟨rfl,rfl⟩
 |cons _ _ hn ih=>rw[lm hn];refine⟨by rw[az,az,ih.1],?_⟩;rw[OQ];simp[ih.2]
def tb.run (h:tb S k ae O ts ds bv):∀(A:cR) (c:aM) (s:bb) (env:lW) (vs:Vs),jD k A->cY c ↑O ae env->Rel S c O s.heap->dg S.w c ↑O vs ds->
  ∀(E:VS) (Q:Unit->bb->Prop),(∀c' s',aM.le ↑O c c'->Rel S c' bv s'.heap->dZ s s'->Q () s')->wpAny (MM S.w) A (assignInOrder ((assignEach ts env).map (·.2)) vs) Q E s:=by
 induction h with
 |nil=>intro A c s env vs hA hE R hv E Q hQ;obtain rfl:=hv.i0;exact aR (hQ c s (.refl ..) R (.refl ..))
 |cons h1 h2 hn ih=>intro A c s env vs hA hE R hv E Q hQ;let ⟨_,_,rfl,a,b⟩:=hv.i1;rw[lm hn];refine am (dH (h1.run A c s env _ hA hE R a _ _ λc1 s1 l1 R1 K1=> ?_));exact ih A c1 s1 env _ hA (hE.mono l1 h1.len) R1 (b.mono l1 h1.len) E Q λc2 s2 l2 R2 K2=>hQ c2 s2 (l1.trans l2 h1.len) R2 (K1.trans K2)
def dg.put (h:dg w c n vs ds) (ha:c.F a=ac):dg w (c.put a o) n vs ds:=h.mono (aM.dC ha) (ab _)
def vD.tuple (h:vD S k ae O es ds bv) (hsz: ↑es<=1000) (A:cR) (c:aM) (s:bb) (env:lW) (hA:jD k A) (hE:cY c ↑O ae env) (R:Rel S c O s.heap)
  (E:VS) (Q:VS) (hQ:∀c' a vs s',aM.le ↑O c c'->Rel S c' bv s'.heap->dZ s s'->c'.F a=aa {cls:= .type "tuple",data:= .seq vs}->dg S.w c' ↑bv vs.toList ds->Q (.ref a) s'):
  wpAny (MM S.w) A (eval (.Tuple es n pos) env) Q E s:=by
 refine sJ (h.run pos A c s env hA hE R _ _ λc1 vs s1 l1 R1 K1 a1=>⟨?_,?_⟩)
 ·rw[↑a1,h.size];have:sizeLine=2 ^ 24:=rfl;exact XN hsz this
 ·have hF:=R1.oq (ab s1.heap.objs.size);exact hQ (c1.put s1.heap.objs.size {cls:= .type "tuple",data:= .seq vs.toArray}) s1.heap.objs.size vs.toArray _ (l1.trans (aM.dC hF) h.len) R1.sS (K1.trans (.gF ..)) (if_pos rfl) (by simpa using a1.put hF)
def iW.MT (h1:vD S k ae O es ds bw) (h2:tb S k ae bw ts ds bP) (hsz: ↑es<=1000)
  (hw:(λenv:lW=>swappedStores [.Tuple ts n tV] (.Tuple es m Ki) {env with scope:=ae.scope})=λq=>pure ac):iW S k O ae (.Assign [.Tuple ts n tV] (.Tuple es m Ki) pos) .next bP:=by
 refine⟨aA h1.len h2.len,λA c s env hA hE R E Q hQ=> ?_⟩;refine PyProof.Rows.Assign_Tuple (h1.tuple hsz A c s env hA hE R _ _ λc1 a vs s1 l1 R1 K1 hF a1=> ?_) rfl (scp hw hE.scope);let ⟨e1,e2⟩:=h2.shape env;refine Cf hA.hn ⟨_,R1.frozen _ _ hF,rfl,_,rfl⟩ (by rw[e1,<- bz,↑a1]) e2 λh' hk=> ?_;have R':Rel S c1 bw h':=R1.ext λb o e=>hk b o (cU (bW e)) e;exact h2.run A c1 {s1 with heap:=h'} env _ hA (hE.mono l1 h1.len) R' a1 _ _ λc2 s2 l2 R2 K2=>hQ c2 .next s2 (l1.trans l2 h1.len) R2 ((K1.trans (.gF ..)).trans K2) .next
def iW.I2 (h1:vD S k ae O es [d1,d2] bw) (hy:jY S bw ae y d2 bP) (hx:jY S bP ae x d1 rl)
  (hw:(λenv:lW=>swappedStores [.Tuple [.Name x px,.Name y py] n tV] (.Tuple es m Ki) {env with scope:=ae.scope})=λq=>pure (aa [x,y])):iW S k O ae (.Assign [.Tuple [.Name x px,.Name y py] n tV] (.Tuple es m Ki) pos) .next rl:=by
 refine⟨aA h1.len (aA hy.len hx.len),λA c s env hA hE R E Q hQ=> ?_⟩;refine tY (names:=[x,y]) (h1.tuple (by rw[<- h1.size];show 2<=1000;decide) A c s env hA hE R _ _ λc1 a vs s1 l1 R1 K1 hF a1=> ?_) rfl (scp hw hE.scope);have key:∀Q',(∀h',rm s1.heap.objs.size s1.heap h'->Q' vs.toList {s1 with heap:=h'})->wpAny (MM S.w) A (unpackItems (.ref a) vs.size ac) Q' E s1:=λQ' hq=>
  vq (prog:=pw) (w:=S.w) hA.hn ⟨_,R1.frozen _ _ hF,rfl,_,rfl⟩ hq
 rw[(by rw[<- bz,↑a1];rfl:vs.size=2)]at key;refine key _ λh' hk=> ?_;have R':Rel S c1 bw h':=R1.ext λb o e=>hk b o (cU (bW e)) e;generalize vs.toList=l at a1;have h9:=a1.i1;clear a1;let ⟨_,_,rfl,b1,a1⟩:=h9;have h9:=a1.i1;clear a1;let ⟨_,_,rfl,b2,a1⟩:=h9;obtain rfl:=a1.i0;show wpAny _ A (do holding _ (bindName env y _);holding _ (bindName env x _);pure ()) _ _ _;have rq:=hE.mono l1 h1.len;refine am (dH (sb (hy.run A c1 {s1 with heap:=h'} env _ rq R' b2 _ _ λc2 s2 l2 R2 K2=> ?_)));refine am (dH (sb (hx.run A c2 s2 env _ (rq.mono l2 hy.len) R2 (b1.mono l2 hy.len) _ _ λc3 s3 l3 R3 K3=> ?_)));exact aR (hQ c3 .next s3 ((l1.trans l2 h1.len).trans l3 (aA h1.len hy.len)) R3 (((K1.trans (.gF ..)).trans K2).trans K3) .next)
section
variable {lay:Lay}
def MU (S:cz) (k:Nat) (lay:Lay) (e:Expr) (f:St->Option (CV×St)):Prop:=
 ∀p O st v cf,At lay p st O->f st=aa (v,cf)->∃bv,Ev S k O (lay.en p) e (v.av p.oi) bv/\At lay p cf bv/\ko lay p st cf O bv
noncomputable def k9 (f:EF) (st:St):Option (CV×St):=(f st).map λv=>(v,st)
def MU.pure (h:cS S k lay e f):MU S k lay e (k9 f):=by intro p O st v cf bc hf;unfold k9 at hf;let ⟨v',hv,e⟩:=ar.mp hf;let ⟨rfl,rfl⟩:=bG e;exact⟨O,h p O st _ bc hv,bc,.refl ..⟩
def EI (o:CO) (st:St):Option (CV×St):=aa (.ob ↑st.ob,alloc o st)
def MU.new (hg:lay.grow=true) (hv:∀(O:List AO) (ae:iv) (oi:NN),Ev S k O ae e (.fM ↑O) (O++[o.ao oi])):MU S k lay e (EI o):=by intro p O st v cf bc hf;let ⟨rfl,rfl⟩:=bG (ag hf);let ⟨a,b,c⟩:=bc.alloc hg o;refine⟨_,?_,a,b⟩;exact((by show AV.fM (p.oi ↑st.ob)=_;rw[c]:CV.av p.oi (.ob ↑st.ob)= .fM ↑O))▸(hv O _ p.oi)
def MU.newList (hg:lay.grow=true):MU S k lay (.List [] pos) (EI (.list [])):=MU.new hg λq q q=>Ev.newList
def MU.newDict (hg:lay.grow=true):MU S k lay (.Dict [] [] pos) (EI (.dict [])):=MU.new hg λq q q=>Ev.newDict
def GH (S:cz) (k:Nat) (lay:Lay) (es:List Expr) (f:St->Option (List CV×St)):Prop:=
 ∀p O st vs cf,At lay p st O->f st=aa (vs,cf)->∃bv,vD S k (lay.en p) O es (vs.map (CV.av p.oi)) bv/\At lay p cf bv/\ko lay p st cf O bv
noncomputable def EJ (st:St):Option (List CV×St):=aa ([],st)
noncomputable def jh (f:St->Option (CV×St)) (g:St->Option (List CV×St)) (st:St):Option (List CV×St):=(f st).bind λr=>(g r.2).map λq=>(r.1::q.1,q.2)
def GH.nil:GH S k lay [] EJ:=by intro p O st vs cf bc hf;let ⟨rfl,rfl⟩:=bG (ag hf);exact⟨O,.nil,bc,.refl ..⟩
def GH.cons (h1:MU S k lay e f) (h2:GH S k lay rest g) (hn:notStar e=true):GH S k lay (e::rest) (jh f g):=by intro p O st vs cf bc hf;unfold jh at hf;simp only[aG,ar]at hf;left;let ⟨⟨v,st1⟩,Ia,⟨ws,st2⟩,Sj,e⟩:=hf;let ⟨rfl,rfl⟩:=bG e;let ⟨lI,a1,b1,c1⟩:=h1 p O st _ _ bc Ia;let ⟨uQ,a2,b2,c2⟩:=h2 p lI _ _ _ b1 Sj;right;exact⟨uQ,.cons a1 a2 hn,b2,c1.trans c2 bc⟩
def Dt (S:cz) (k:Nat) (lay:Lay) (ts:List Expr) (tg:List CV->St->Option St):Prop:=
 ∀p O st ds cf,At lay p st O->tg ds st=aa cf->∃bv,tb S k (lay.en p) O ts (ds.map (CV.av p.oi)) bv/\At lay p cf bv/\ko lay p st cf O bv
noncomputable def qS:List CV->St->Option St
 | [],st=>aa st
 |_,_=>ac
noncomputable def fB (f:CV->St->Option St) (g:List CV->St->Option St):List CV->St->Option St
 |d::ds,st=>(f d st).bind (g ds)
 |_,_=>ac
def Dt.nil:Dt S k lay [] qS:=by
 intro p O st ds cf bc hf;induction ds with
 |nil=>obtain rfl:=ag hf;exact⟨O,.nil,bc,.refl ..⟩
 |cons=>nomatch hf
def Dt.cons (h1:Cw S k lay t f) (h2:Dt S k lay rest g) (hn:notStar t=true):Dt S k lay (t::rest) (fB f g):=by
 intro p O st ds cf bc hf;induction ds with
 |nil=>cases hf
 |cons d ds=>unfold fB at hf;simp only[aG]at hf;left;let ⟨st1,Ia,Sj⟩:=hf;let ⟨lI,a1,b1,c1,d1⟩:=h1 p O st _ st1 bc Ia;let ⟨uQ,a2,b2,c2⟩:=h2 p lI st1 ds cf b1 Sj;right;exact⟨uQ,.cons a1 a2 hn,b2,c1.trans c2 bc⟩
noncomputable def GI (g:St->Option (List CV×St)) (tg:List CV->St->Option St) (st:St):Option (pj×St):=((g st).bind λr=>tg r.1 r.2).map λcf=>(.next,cf)
def mu.ajg (h1:GH S k lay es g) (h2:Dt S k lay ts tg) (hsz: ↑es<=1000) (hw:(λenv:lW=>swappedStores [.Tuple ts n tV] (.Tuple es m Ki) {env with scope:=lay.scope})=λq=>pure ac):
  mu S k lay (.Assign [.Tuple ts n tV] (.Tuple es m Ki) pos) (GI g tg):=by
 intro p O st fl cf bc hf;unfold GI at hf;simp only[ar,aG]at hf;left;let ⟨st2,⟨⟨vs,st1⟩,hg,ht⟩,e⟩:=hf;let ⟨rfl,rfl⟩:=bG e;let ⟨lI,a1,b1,c1⟩:=h1 p O st _ _ bc hg;let ⟨uQ,a2,b2,c2⟩:=h2 p lI _ _ _ b1 ht;right;exact⟨uQ,iW.MT a1 a2 hsz hw,b2,c1.trans c2 bc⟩
def PP (i j:Nat) (g:St->Option (List CV×St)) (st:St):Option (pj×St):=(g st).bind λq=>match q.1 with
 | [u,v]=>aa (.next,ie i u (ie j v q.2))
 | []=>ac
 | [_]=>ac
 |_::_::_::_=>ac
def mu.swap (h1:GH S k lay es g) (hx:lay.ni i x=true) (hy:lay.ni j y=true)
  (hw:(λenv:lW=>swappedStores [.Tuple [.Name x px,.Name y py] n tV] (.Tuple es m Ki) {env with scope:=lay.scope})=λz=>pure (aa [x,y])):mu S k lay (.Assign [.Tuple [.Name x px,.Name y py] n tV] (.Tuple es m Ki) pos) (PP i j g):=by
 intro p O st fl cf bc hf;refine a9 hf λq hg hf=> ?_;let ⟨l,st1⟩:=q;rcases l with _|⟨u,_|⟨v,_|_⟩⟩
 ·exact gq hf
 ·exact gq hf
 rotate_left
 ·exact gq hf
 left;let ⟨rfl,rfl⟩:=bG (ag hf);let ⟨lI,a1,b1,c1⟩:=h1 p O st _ _ bc hg;let ⟨uQ,a2,b2,c2⟩:=b1.ie (S:=S) hy v;let ⟨σ3,a3,b3,c3⟩:=b2.ie (S:=S) hx u;right;exact⟨σ3,iW.I2 a1 a2 a3 hw,b3,(c1.trans c2 bc).trans c3 bc⟩
def aeq {t:Expr}:(λenv=>[(false,pE t env)])=λenv=>[(false,pE t env)]:=rfl
def iW.T7 (h1:Ev S k O ae gQ d bw) (h2:Di S k bw ae t d bP) (hs:swapsWithSole [t] gQ pos.line=λq=>pure false)
  (hw:swappedStores [t] gQ=λq=>pure ac) (ha:assignEach [t]=λenv=>[(false,pE t env)]):iW S k O ae (.Assign [t] gQ pos) .next bP:=by
 refine⟨aA h1.len h2.len,λA c s env hA hE R E Q hQ=> ?_⟩;rw[PyProof.Rows.exec_Assign];refine am (cV ?_);rw[hs];refine am (aR ?_);rw[if_neg ∅];refine am (h1.run A c s env hA hE R _ _ λc1 v1 s1 l1 R1 K1 a1=> ?_);rw[hw];refine am (aR ?_);rw[ha];show wpAny _ A (do assignAll v1 [pE t env];(pure Flow.next:zV Cj)) _ _ s1;exact am (h2.run A c1 s1 env v1 hA (hE.mono l1 h1.len) R1 a1 _ _ λc2 s2 l2 R2 K2=>aR (hQ c2 .next s2 (l1.trans l2 h1.len) R2 (K1.trans K2) .next))
def mu.ana (h1:cS S k lay gQ f) (h2:Cw S k lay t tg) (hs:swapsWithSole [t] gQ pos.line=λq=>pure false)
  (hw:swappedStores [t] gQ=λq=>pure ac) (ha:assignEach [t]=λenv=>[(false,pE t env)]):mu S k lay (.Assign [t] gQ pos) (bZ f tg):=by
 intro p O st fl cf bc hf;unfold bZ at hf;simp only[ar,aG]at hf;left;let ⟨st1,⟨v,hv,ht⟩,e⟩:=hf;let ⟨rfl,rfl⟩:=bG e;let ⟨bv,a,b,c,_⟩:=h2 p O st v _ bc ht;right;exact⟨bv,iW.T7 (h1 p O st v bc hv) a hs hw ha,b,c⟩
def wZ (f : EF) (st : St) : Option CV := ((f st).bind CV.aI).map λa => .pv (.int (-a))
def cS.neg (h:cS S k lay x f):cS S k lay (.UnaryOp .USub x pos) (wZ f):=by intro p O st v bc hf;let ⟨a,ha,rfl⟩:=ar.mp hf;refine a9 ha λq ha e1=> ?_;rw[CV.kI e1]at ha;refine⟨ab _,λA c s env hA hE R E Q hQ=> ?_⟩;refine Cm ((h p O st _ bc ha).run A c s env hA hE R _ _ λc1 v1 s1 l1 R1 K1 a1=> ?_);have Kb:=a1.gh;let ⟨_,rfl⟩:=Kb.kH;exact CA (hQ c1 _ _ l1 R1 (K1.trans (.toks ..)) (.pv (.int ..)))
def ly (f:EF) (st:St):Option CV:=(rK f st).map λl=> .pv (.lst l)
def cS.Z7 (h:lay.me fl=true) (hg:(fl,ac)∈cg) (hb:(fl,aa (Od "list"))∈lu)
  (h':lay.me fr=true) (wj:(fr,ac)∈cg) (uP:(fr,aa (Od "range"))∈lu) (hx:cS S k lay x g) (hs:notStar x=true):
  cS S k lay (.Call (.Name fl np) [.Call (.Name fr np') [x] [] jT] [] pos) (ly g):=by
 intro p O st v bc hf;let ⟨l,hl,rfl⟩:=ar.mp hf;refine a9 hl λn hn hl=>a9 hn λq hn e=> ?_;rw[CV.kI e]at hn;let ⟨Mf,rfl⟩:=dT hl;let ⟨m,rfl⟩:=Int.eq_ofNat_of_zero_le Mf.1;have hm:m<1000:=by exact aby Mf
 have ha:ck S k O (lay.en p) [x] [.pv (.int m)]:= .cons (hx p O st _ bc hn) .nil hs;refine⟨ab _,λA c s env hA hE R E Q hQ=> ?_⟩;refine cn ((Ev.PA h hg hb).run A c s env hA hE R _ _ λc1 v1 s1 l1 R1 K1 a1=> ?_);have e:=a1.dn;subst e;refine ed rfl ?_;have rq:=hE.mono l1 (ab _);refine lA rfl (bX ?_);refine cn ((Ev.PA h' wj uP).run A c1 s1 env hA rq R1 _ _ λc2 v2 s2 l2 R2 K2 a2=> ?_);have e:=a2.dn;subst e;refine ed (noStar ha jT env) ?_;refine eg ha _ jT A c2 s2 env hA (rq.mono l2 (ab _)) R2 _ _ λc3 vs s3 l3 R3 K3 a3=> ?_;have h9:=a3.i1;clear a3;let ⟨_,_,rfl,a3,b3⟩:=h9;obtain rfl:=b3.i0;have a3':=a3.gh;let ⟨t,rfl⟩:=a3'.kH;refine call_range_1 ?_;refine eB (iG ?_);let ⟨hsm,hsz⟩:=y9 (n:=m) (abz hm);refine call_list_range (a:=0) (b:=m) (c:=1) (t:=s3.toks) (u:=t) (v:=s3.toks+1) (n:=m) hA.hn (aV _ rfl) hsm hsz (abA hm) λh2 tk qG c' hk hS hit=> ?_;have R4:Rel S c3 O (s3.heap.push {cls:= .type "range",data:= .fields #[.int 0 s3.toks,.int m t,.int 1 (s3.toks+1)]}):=R3.ext λb o e=>aJ _ e;refine hQ _ _ _ (((l1.trans l2 (ab _)).trans l3 (ab _)).trans (aM.dC (R4.oq (ab _))) (ab _)) (R4.put hk (ab _) hS) (((K1.trans K2).trans K3).trans (.heap ..)) (.pv (.lst (if_pos rfl) (by rw[hit.1];simp[iI]) λi u d hu hd=> ?_));let ⟨tt,rfl⟩:=hit.2 i u hu;have hi:i<m:=by have:=getElem?_lt' hd;simpa[iI]using this
 have:d= .int i:=by simp[iI,hi]at hd;exact hd.symm
 subst this;rw[show(0:Int)+(i:Int)*1=i by exact aaT];exact .int ..
def pk (f:EF) (st:St):Option CV:=((f st).bind CV.aDc).bind λl=>(jN (l.map (·.2))).bind λns=>(MK ns).map λm=> .pv (.int m)
def vE {l:List PV}:∀ {ns:List Int},jN l=aa ns->l=ns.map PV.int:=by
 induction l with
 |nil=>intro ns h;obtain rfl:=ag h;rfl
 |cons d l ih=>
  intro ns h;cases d with
  |int n=>let ⟨ns',h2,rfl⟩:=ar.mp h;rw[ih h2];rfl
  |_=>exact gq h
def cS.ahE (h:lay.me fm=true) (hg:(fm,ac)∈cg) (hb:(fm,aa (Value.builtin "max"))∈lu) (hx:cS S k lay x f)
  (ik:∀env,attributeBase x "values" env (eval x env)=eval x env) (gC:(jw.endLine==jT.line)=true):cS S k lay (.Call (.Name fm np) [.Call (.Attribute x "values" jw) [] [] jT] [] pos) (pk f):=by
 intro p O st v bc hf;refine a9 hf λl hl hf=>a9 hl λq hl e1=>a9 hf λns tU hf=> ?_;rw[CV.kDc e1]at hl;let ⟨m,hm,rfl⟩:=ar.mp hf;have Zz:=vE tU;refine⟨ab _,λA c s env hA hE R E Q hQ=> ?_⟩;refine cn ((Ev.PA h hg hb).run A c s env hA hE R _ _ λc1 v1 s1 l1 R1 K1 a1=> ?_);have e:=a1.dn;subst e;refine cX rfl ?_;have rq:=hE.mono l1 (ab _);refine lA rfl (bX ?_);refine eK (ik env) rfl gC ((hx p O st _ bc hl).run A c1 s1 env hA rq R1 _ _ λc2 v2 s2 l2 R2 K2 a2=> ?_);let ⟨hT,tT⟩:=z4 bc (v:= .pv (.oK l)) (T:= "dict") rfl R2 a2;refine⟨"dict", "dict.values",F.plainAttrs_dict,F.slot_dict_values,F.type_dict_values,hT,tT,cX rfl ?_⟩;refine eg .nil _ jT A c2 s2 env hA (rq.mono l2 (ab _)) R2 _ _ λc3 vs s3 l3 R3 K3 a3=> ?_;obtain rfl:=a3.i0;let ⟨a,es,ep,kvs,rfl,Sq,ho,nd,hp⟩:=S6.val.at R3 (a2.mono l3 (ab _));have FN:=hp.dictOf ho nd;refine call_meetsIn F.slot_dict_values (mG FN).typeIs F.entry_dict_values (F.args_dict_values_1 _) (meets_dict_values (strKind pw S.w) a Sq) ⟨⟨kvs,mG FN⟩,?_⟩;refine eB (iG ?_);refine call_max_walk (wpAny_pyIter_values (knd:=strKind pw S.w) (kvs:=kvs) (ep:=ep) ⟨_,aV _ rfl,rfl,rfl⟩ (FN.keep λb o e=>aJ _ e) ?_);have kR:=bW ho;have cH: ↑kvs= ↑l:=by have:=congrArg eX hp.keys;simpa using this
 have Kh: ↑ns= ↑l:=by have:=congrArg eX Zz;simpa using this.symm
 have oO:0< ↑ns:=by
  rcases yS ↑ns with h|h
  ·rw[sy.mp h]at hm;nomatch hm
  ·exact h
 have agx:∀(i:Nat) (v:Value),(∃k,kvs[i]? =aa (k,v))->∃t,v=Value.int ((ns[i]?).getD 0) t:=by
  rintro i v ⟨kk,hk⟩;have hi:i< ↑l:=by exact cH▸(getElem?_lt' hk)
  have e1:(l.map (·.2))[i]? =aa (l[i]).2:=by rw[bN,aq hi];rfl
  rw[Zz,bN]at e1;simp only[ar]at e1;let ⟨n,hn,e2⟩:=e1;have vU:dk S.w c3.F v (l[i]).2:=(hp.vals i _ _ hk (aq hi));rw[<- e2]at vU;rw[hn];exact vU.kH
 refine⟨_,_,_,_,_,_,_,rfl,Walks.dictValues (knd:=strKind pw S.w) (A:=A.in1) hA.hn _ a ?_ kvs ep,⟨⟨_,aV _ rfl,rfl,rfl⟩,?_⟩,?_,by exact abB oO cH Kh,CmpOf.ints_gt (λi=>(ns[i]?).getD 0) agx,λv h' tk hP hk=> ?_⟩
 ·rw[eU];exact cU (eI kR)
 ·exact(FN.keep λb o e=>aJ _ e).keep λb o e=>aJ _ e
 ·intro b uP;simp only[eU];rcases aH.mp uP with rfl|uP
  ·simp only[eU];exact ez _
  ·rw[aB]at uP;subst uP;exact eI (eI kR)
 ·let ⟨b1,b2⟩:=argBest_gt (λi=>(ns[i]?).getD 0) (↑kvs- 1);left;let ⟨t,rfl⟩:=agx _ _ hP;let ⟨q1,q2⟩:=Dk hm;let ⟨i,hi,H3⟩:=wy q1;have e1:(ns[i]?).getD 0<=(ns[argBest (λi j=>decide ((ns[i]?).getD 0> (ns[j]?).getD 0)) (↑kvs- 1)]?).getD 0:=b2 i (abC hi cH Kh);have Sr:argBest (λi j=>decide ((ns[i]?).getD 0> (ns[j]?).getD 0)) (↑kvs- 1)< ↑ns:=by exact abD b1 Kh cH hi
  right;have e3:(ns[argBest (λi j=>decide ((ns[i]?).getD 0> (ns[j]?).getD 0)) (↑kvs- 1)]?).getD 0=m:=by rw[aq Sr,zF];rw[aq Sr,aq hi,zF,zF,H3]at e1;exact abE (q2 _ (AB Sr)) e1
  rw[e3];refine hQ c3 _ _ ((l1.trans l2 (ab _)).trans l3 (ab _)) (R3.ext λb o e=>hk b o (λMb=> ?_) (aJ _ (aJ _ e))) (((K1.trans K2).trans K3).trans (.heap ..)) (.pv (.int ..));rw[aB]at Mb;subst Mb;have:=bW e;rw[eU]at this;exact absurd this (fD.mpr (mr _))
end
section
variable {lay:Lay}
def kb (S:cz) (lay:Lay) (names:List Str) (tg:List CV->St->Option St):Prop:=
 ∀p O st ds cf,At lay p st O->tg ds st=aa cf->∃bv,jU S (lay.en p) O (names.zip (ds.map (CV.av p.oi))) bv/\ ↑ds= ↑names/\At lay p cf bv/\ko lay p st cf O bv/\cf.ob=st.ob
def kb.nil:kb S lay [] qS:=by
 intro p O st ds cf bc hf;induction ds with
 |nil=>obtain rfl:=ag hf;exact⟨O,.nil,rfl,bc,.refl ..,rfl⟩
 |cons=>nomatch hf
def kb.step
  (h1:∀p O st v cf,At lay p st O->f v st=aa cf->∃bv,jY S O (lay.en p) x (v.av p.oi) bv/\At lay p cf bv/\ko lay p st cf O bv/\cf.ob=st.ob) (h2:kb S lay names g):kb S lay (x::names) (fB f g):=by
 intro p O st ds cf bc hf;induction ds with
 |nil=>nomatch hf
 |cons d ds=>unfold fB at hf;simp only[aG]at hf;left;let ⟨st1,Ia,Sj⟩:=hf;let ⟨lI,a1,b1,c1,d1⟩:=h1 p O st _ st1 bc Ia;let ⟨uQ,a2,l2,b2,c2,d2⟩:=h2 p lI st1 ds cf b1 Sj;right;exact⟨uQ,.cons a1 a2,by simp[l2],b2,c1.trans c2 bc,d2.trans d1⟩
def kb.loc (h:lay.ni i x=true) (h2:kb S lay names g):kb S lay (x::names) (fB (bf i) g):=
 kb.step (λp O st v cf bc hf=>by obtain rfl:=ag hf;let ⟨bv,a,b,c⟩:=bc.ie (S:=S) h v;exact⟨bv,a,b,c,rfl⟩) h2
def kb.nj (h:lay.GA i x=true) (h2:kb S lay names g):kb S lay (x::names) (fB (jI i) g):=
 kb.step (λp O st v cf bc hf=>by obtain rfl:=ag hf;let ⟨bv,a,b,c⟩:=bc.rJ (S:=S) h v;exact⟨bv,a,b,c,rfl⟩) h2
end
def eW (r:eh) (loc:List Str) (own:Sn):Lay:= {scope:=r.scope,loc:=loc,nj:=own.map (·.1),own:= ↑own,grow:=true,code:=aa r.code}
noncomputable def Du (loc:List Str) (own:Sn) (ob:List CO):St:= {lv:=loc.map λq=>ac,cv:=own.map λq=>ac,ob:=ob}
def Bd (loc:List Str) (own:Sn):St:=Du loc own []
noncomputable def Be (O:List AO) (own:Sn) (oi:NN):Iz:= {fi:= ↑O,ci:=own.map λq=> ↑O+1+q.2,oi:=oi}
def EK (h:n∈(Be O own oi).ci): ↑O<n:=by let ⟨q,_,e⟩:=aQ.mp h;exact abT e
def pU.en (F:pU r loc own):(eW r loc own).en (Be O own oi)=gB r ↑O:=by
 have h:=F.eqn;unfold Lay.en gB eW;refine iv.eq ?_;rw[qB,h,bu];show(own.map (·.1)).zip (own.map λq=> ↑O+1+q.2)=_;clear F h;induction own with
 |nil=>rfl
 |cons a l ih=>simp only[bx,qv];rw[ih]
def pU.at (F:pU r loc own) (h1:∀(j:Nat) (o:CO),ob[j]? =aa o->O[oi j]? =aa (o.ao oi)) (h2:∀i j,i< ↑ob->j< ↑ob->oi i=oi j->i=j) (h3:∀j,oi (↑ob+j)= ↑O+1+fj r.scope.names+j):
  At (eW r loc own) (Be O own oi) (Du loc own ob) (ent O r loc):=by
 have kR:∀j,j< ↑ob->oi j< ↑O:=λj hj=>getElem?_lt' (h1 j _ (aq hj));refine⟨?_,by simp[Du,eW],by simp[Du,eW],by simp[eW,Be],λi v hv=> ?_,λj o ho=>gA (h1 j o ho),λhm=>lS _ (EK hm),λj hj e=>aa3 (kR j hj) e,λj hj hm=>O2 (kR j hj) (EK hm),?_,h2,λz j=>by rw[EH];exact h3 j⟩
 ·unfold ent;show(O++_)[↑O]? =_;rw[aE (ab _),dc];show aa (AO.ns (loc.map λx=>(x,ac)))=aa (AO.ns (loc.zip (TY oi (loc.map λz=>ac))));congr 2;clear F;induction loc with
  |nil=>rfl
  |cons a l ih=>simpa using ih
 ·have vU:(own.map λz=>(ac:OV))[i]? =aa v:=hv;rw[bN]at vU;simp only[ar]at vU;let ⟨q,hq,rfl⟩:=vU;refine⟨↑O+1+q.2,?_,?_⟩
  ·show(own.map λq=> ↑O+1+q.2)[i]? =_;rw[bN,hq];rfl
  ·have D6:=F.lt _ (bo hq);unfold ent;rw[aE (abt),show ↑O+1+q.2- ↑O=q.2+1 by exact abu,il,Iu,if_pos D6];rfl
 ·show(own.map λq=> ↑O+1+q.2).Nodup;rw[show(own.map λq=> ↑O+1+q.2)=(own.map (·.2)).map (↑O+1+ ·) by rw[bC];rfl];exact gX _ (λa b Mc=>by exact abv Mc) F.ndO
def ko.pre (hs:ko (eW r loc own) (Be O own oi) st cf (ent O r loc) bv) (hx:x< ↑O) (hj:∀j,j< ↑st.ob->x≠oi j):bv[x]? =O[x]? :=by rw[hs.out x (by rw[EH];exact abx hx) (cU hx) (λj q e=>O2 hx (EK (bo e))) hj];unfold ent;exact aW hx
def WS (O:List AO) (r:eh) (j:Nat):Nat:= ↑O+1+fj r.scope.names+j
def pU.at0 (F:pU r loc own):At (eW r loc own) (Be O own (WS O r)) (Bd loc own) (ent O r loc):=
 F.at (λj o h=>gq h) (λi j h=>absurd h (iy _)) λj=>abw
def PQ (h:(O++τ)[WS O r j]? =aa x):τ[1+fj r.scope.names+j]? =aa x:=by have e:WS O r j= ↑O+(1+fj r.scope.names+j):=VY;rw[e,aE (bh ..),bO]at h;exact h
def Gm.ob0 (hv:obV st.ob[j]? =aa d) (bc:At lay (Be O own (WS O r)) st (O++τ)):Gm τ ↑O (CV.av (WS O r) (.ob j)) (.pv d):=by
 rw[(by show AV.fM (↑O+1+fj r.scope.names+j)=_;congr 1;exact VY:CV.av (WS O r) (.ob j)= .fM (↑O+(1+fj r.scope.names+j)))];cases e:st.ob[j]? with
 |none=>rw[e]at hv;exact gq hv
 |some o=>
  rw[e]at hv;induction o with
  |list l=>obtain rfl:=ag hv;exact .list (PQ (bc.obs j _ e))
  |dict l=>obtain rfl:=ag hv;exact .dict (PQ (bc.obs j _ e))
  |_=>exact gq hv
def Gm.ajh (h:GG st fl=aa d) (bc:At lay (Be O own (WS O r)) st (O++τ)):Gm τ ↑O (fl.af (WS O r)).val (.pv d):=by
 induction fl with
 |next=>obtain rfl:=ag h;exact .pv
 |ret v=>
  induction v with
  |pv d'=>obtain rfl:=ag h;exact .pv
  |inst j=>exact gq h
  |ob j=>exact .ob0 h bc
def EL (loc:List Str) (own:Sn) (tg:List CV->St->Option St) (F:St->Option (pj×St)) (ds:List PV):Option PV:=
 (tg (ds.map .pv) (Bd loc own)).bind λst=>(F st).bind λr=>GG r.2 r.1
def I3 (oi:NN) (ds:List PV):(ds.map CV.pv).map (CV.av oi)=ds.map AV.pv:=by rw[bC];rfl
def jE.of {r:eh} {names:List Str} {ds:List PV} (hl: ↑(ds.map CV.pv)= ↑names) (gr:∀pm (vs:Vs),↑vs= ↑names->bindArgs (r.fd pm) ⟨vs,[]⟩=pure (names.zip vs)) (pm:Value):jE S O (r.fd pm) (ds.map AV.pv) [] (names.zip (ds.map AV.pv)):=by rw[aw]at hl;exact jE.plain (by rw[aw,hl]) λvs hv=>gr pm vs (by rw[hv,aw,hl])
def hV.cells (F:pU r loc own) (Vu:kb S (eW r loc own) names tg) (dY:jZ S k (eW r loc own) r.body G)
  (gr:∀pm (vs:Vs),↑vs= ↑names->bindArgs (r.fd pm) ⟨vs,[]⟩=pure (names.zip vs)):hV S (k+1) r (EL loc own tg G):=by
 intro O ds d hd;refine a9 hd λst1 ZA hd=> ?_;refine a9 hd λ⟨fl,cf⟩ hF FO=> ?_;let ⟨lI,a1,l1,b1,c1,_⟩:=Vu _ _ _ _ st1 F.at0 ZA;let ⟨bv,a,b,c⟩:=dY _ _ _ fl cf b1 hF;let ⟨τ,rfl⟩:=rL λi hi=>(c1.trans c F.at0).pre hi λj hj=>absurd hj (iy _);rw[F.en]at a a1;rw[I3]at a1;exact dy.Ds F (λpm=>(jE.of l1 gr pm).B) a1 a rfl (λi x h=> .inl h) (.ajh FO b)
noncomputable def T8:Nat->List Str->List CV->St->Option St
 |_,[]=>qS
 |i,_::l=>fB (bf i) (T8 (i+1) l)
def kb.all {r:eh} (others:List Str) (names:List Str):∀(pre:List Str),(∀x∈names,r.scope.names.lookup x=aa .local/\x≠ "__debug__")->kb S (eW r (pre++(names++others)) []) names (T8 ↑pre names):=by
 induction names with
 |nil=>exact λq q=> .nil
 |cons x names ih=>
  intro pre h;refine .loc ?_ ?_
  ·unfold Lay.ni;rw[show(eW r (pre++(x::names++others)) []).scope=r.scope from rfl,(h x (ay ..)).1,show(eW r (pre++(x::names++others)) []).loc=pre++(x::names++others) from rfl,aE (ab _),dc];simp[(h x (ay ..)).2]
  ·have:=ih (pre++[x]) λy hy=>h y (aK _ hy);rw[bE,aj]at this;exact this
def T9 (l:List (Option CV)) (ds:List PV):∀(names:List Str) (pre:List (Option CV)),↑ds= ↑names->T8 ↑pre names (ds.map .pv) ⟨pre++(names.map (λq=>ac)++l),[],[]⟩=aa ⟨pre++(ds.map (λd=> ~~~d)++l),[],[]⟩:=by
 induction ds with
 |nil=>
  intro names pre h;induction names with
  |nil=>rfl
  |cons=>cases h
 |cons d ds ih=>
  intro names pre h;induction names with
  |nil=>cases h
  |cons x names=>have:=ih names (pre++[~~~d]) (lX h);rw[aj]at this;show T8 (↑pre+1) names _ ⟨(pre++(ac::_)).set ↑pre (~~~d),[],[]⟩=_;rw[j4 _ _ (ab _),dc];simpa using this
def hV.plain (F:pU r (names++others) []) (dY:jZ S k (nI r names others) r.body G)
  (gr:∀pm (vs:Vs),↑vs= ↑names->bindArgs (r.fd pm) ⟨vs,[]⟩=pure (names.zip vs)) (Ss:(names.all λx=>r.scope.names.lookup x==aa .local&& !(x==("__debug__" :Str)))=true):
  hV S (k+1) r (mJ names others G):=by
 intro O ds d hd;unfold mJ at hd;by_cases hl: ↑ds= ↑names
 case neg=>rw[if_neg hl]at hd;exact gq hd
 rw[if_pos hl]at hd;refine hV.cells F (.all others names [] λx hx=> ?_) dY gr O ds d ?_
 ·have:=fI.mp Ss x hx;simpa using this
 ·unfold EL;rw[show Bd (names++others) []=⟨[]++(names.map (λq=>ac)++others.map λq=>ac),[],[]⟩ by unfold Bd Du;rw[bH];rfl,T9 _ ds names [] hl];exact hd
def iT.Cv (h:iT x d m m') (l):iT x d (l++m) (l++m'):=by
 induction l with
 |nil=>exact h
 |cons _ _ ih=>exact .there ih
def jU.locs {sc:iv} {O:List AO} (Kg:sc.fi= ↑O) (bs:List (Str×AV)):∀(m l:List (Str×Option AV)),(∀x∈bs.map (·.1),sc.scope.names.lookup x=aa .local)->
  jU S sc (O++[.ns (m++(bs.map (λp=>(p.1,ac))++l))]) bs (O++[.ns (m++(bs.map (λp=>(p.1,aa p.2))++l))]):=by
 induction bs with
 |nil=>intro m l _;exact .nil
 |cons q9 bs ih=>
  intro m l h;obtain(⟨x,d⟩):=q9;exact .cons (bw:=O++[.ns (m++((x,aa d)::(bs.map (λp=>(p.1,ac))++l)))]) (jY.loc (by rw[Kg,aE (ab _),dc];rfl) (h x (ay ..)) (iT.here.Cv m) (by rw[Kg,j4 _ _ (ab _),dc];rfl)) (by
   have:=ih (m++[(x,aa d)]) l λy hy=>h y (aK _ hy);rw[bE,bE]at this;exact this)
def dy.def (F:pU r (binds.map (·.1)++others) [])
  (gr:∀pm,jE S O (r.fd pm) args kw binds) (Ss:∀x∈binds.map (·.1),r.scope.names.lookup x=aa .local) (hn:fj r.scope.names=0)
  (dY:cG S k (O++[.ns (binds.map (λp=>(p.1,aa p.2))++others.map λx=>(x,ac))]) (r.env (↑O+0)) r.body f (bv++τ))
  (hl: ↑bv= ↑O) (HY:∀(i:Nat) (x:AO),bv[i]? =aa x->O[i]? =aa x\/x.flat=true) (hz:Gm τ ↑bv f.val d):
  dy S (k+1) O (.pv (.con (.ref r.addr))) args kw d bv:=by
 have e:gB r ↑O=r.env (↑O+0):=by unfold gB eh.env;rw[qB,F.eqn];rfl
 have hs:=jU.locs (S:=S) (sc:=r.env (↑O+0)) (O:=O) rfl binds [] (others.map λx=>(x,ac)) Ss;refine .Ds F (λpm=>(gr pm).B) ?_ (e▸dY) hl HY hz;rw[e];unfold ent;rw[hn,bH,bC];exact hs
section
variable {M:Model} {A:cR} {R:GenEnd} {Y:Protocol} {n:Nat} {gE:bb} {c:Code} {fs:List Frame} {s:bb} {env:lW}
 {K:Cj->zV Fin} {H:Value->zV Fin} {gd:Bool->Bool} {lv:List Value->List Value}
def w0 (h:wpAny M (A.over c fs) (exec st env) (λf s'=>FR M A R Y n gE c (K f) fs s') (λx s'=>FR M A R Y n gE c (H x) fs s') s):
  FR M A R Y n gE c ((exec st env).wrap K H gd lv) fs s:=yN h
def I4
  (h:wpAny M (A.over c fs) (isTrue test env (eval test env)) (λb s'=>FR M A R Y n gE c ((if b=true then execs body env else execs orelse env).wrap K H gd lv) fs s') (λx s'=>FR M A R Y n gE c (H x) fs s') s):
  FR M A R Y n gE c ((exec (.If test body orelse pos) env).wrap K H gd lv) fs s:=by
 show FR M A R Y n gE c (.at pos λq=>((isTrue test env (eval test env)) >>= λb=>if b=true then execs body env else execs orelse env).wrap K H gd lv) fs s;refine seg_at ?_;rw[jl,lQ];exact yN h
def Ua (hf:∀x,foldedSetIterable ky env x=pure x)
  (h:wpAny M (A.over c fs) (eval ky env) (λx eG=>wpAny M (A.over c fs) (pyIter x) (λit rk=>∀p,FR M A R Y n gE (.forLoop cD it body orelse env) (M.den (.forLoop cD it body orelse env))
   (.ret (λr=>((match r with| .ok f=>(.pure f:zV Cj)| .error e=> .raise e).onRaise λ(x:Value)=>do
    if (<- field x 1)==qc then unsupported "frame.own-activation:exception-without-traceback"
    setFlight x env.frame).wrap K H gd lv) ac (gd false) (lv []) c p []::fs) rk) (λx s'=>FR M A R Y n gE c (H x) fs s') eG) (λx s'=>FR M A R Y n gE c (H x) fs s') s):
  FR M A R Y n gE c ((exec (.For cD ky body orelse pos) env).wrap K H gd lv) fs s:=by
 show FR M A R Y n gE c (.at pos λq=>(eval ky env >>= λv=>(foldedSetIterable ky env v >>= λx=>(standAt ky.pos >>= λq=>(holding [x] (pyIter x) >>= λit=>runOwn (.forLoop cD it body orelse env) env)))).wrap K H gd lv) fs s;refine seg_at ?_;rw[jl,lQ];refine yN (fZ h (λx eG H5=> ?_) λq q x=>x);rw[hf];show FR M A R Y n gE c (.at ky.pos λq=>(holding [x] (pyIter x) >>= λit=>runOwn (.forLoop cD it body orelse env) env).wrap K H gd lv) fs eG;refine seg_at ?_;rw[jl,lQ];refine yN (dH (fZ H5 (λit rk H6=> ?_) λq q x=>x));exact seg_call H6
end
section
variable {prog:Program} {w:jB} {A:cR} {R:GenEnd} {Y:Protocol} {n:Nat} {gE:bb} {fs:List Frame} {s:bb} {env:lW}
def zc
  (h:wpAny (model prog w) (A.over (.forLoop cD it body orelse env) fs) (pyNext it) (λo s'=>match o with
    |none=>FR (model prog w) A R Y n gE (.forLoop cD it body orelse env) (.pure (.again (.block orelse env))) fs s'
    |some v=>wpAny (model prog w) (A.over (.forLoop cD it body orelse env) fs) (letOwnedTupleGo cD it v) (λq eG=>wpAny (model prog w) (A.over (.forLoop cD it body orelse env) fs) (assign cD env v) (λq rk=>
     FR (model prog w) A R Y n gE (.forLoop cD it body orelse env) ((execs body env).wrap (λf=>match f with
      | .next| .cont=> .pure (.again (.forLoop cD it body orelse env))
      | .brk=> .pure (.done .next)
      | .ret v=> .pure (.done (.ret v))) (λe=>(do noteFrame e env;theTreesLotGoes e:zV Unit).wrap (λq=> .raise e) .raise id id) id id) fs rk) (λq q=>False) eG) (λq q=>False) s') (λq q=>False) s):
  FR (model prog w) A R Y n gE (.forLoop cD it body orelse env) ((model prog w).den (.forLoop cD it body orelse env)) fs s:=by
 show FR _ A R Y n gE _ ((forTurn cD it body orelse env).onRaise (λx=>do noteFrame x env;theTreesLotGoes x)) fs s;unfold forTurn;rw[Sem.onRaise_eq_wrap];show FR _ A R Y n gE _ (.at cD.pos λq=>((pyNext it).onRaise (λq=>standAt {cD.pos with line:=0}) >>= λo=>_).wrap _ _ _ _) fs s;refine seg_at ?_;rw[jl,lQ];refine yN (kA (fZ h (λo s' ho=> ?_) λq q x=>x.elim));induction o with
 |none=>exact ho
 |some v=>
  show FR _ A R Y n gE _ ((letOwnedTupleGo cD it v >>= λq=>(assign cD env v >>= λq=>(execs body env >>= λf=>_))).wrap _ _ _ _) fs s';rw[jl,lQ];refine yN (fZ ho (λq eG H5=> ?_) λq q x=>x.elim);rw[jl,lQ];refine yN (fZ H5 (λq rk H6=> ?_) λq q x=>x.elim);rw[jl,lQ];rw[Sem.wrap_congr (execs body env) _ _ (K':=λf=>match f with
      | .next| .cont=> .pure (.again (.forLoop cD it body orelse env))
      | .brk=> .pure (.done .next)
      | .ret v=> .pure (.done (.ret v))) (H':=(λe=>(do noteFrame e env;theTreesLotGoes e:zV Unit).wrap (λq=> .raise e) .raise id id))
    (λf=>by cases f<;>rfl)
    (λe=>by first|exact VH _ _|(show(do noteFrame e env;theTreesLotGoes e:zV Unit).bind (λq=> .raise e)=_;rw[VH]))]
  exact H6
def MV (h:FR (model prog w) A R Y n gE (.block [] env) (.pure (.done .next)) fs s):FR (model prog w) A R Y n gE (.block [] env) ((model prog w).den (.block [] env)) fs s:=h
end
noncomputable abbrev w1:Str:=ah "addr"
noncomputable abbrev oz:Str:=ah "pos"
noncomputable abbrev oA:Str:=ah "escape"
noncomputable abbrev Bf:Str:=ah "ch"
noncomputable abbrev z8:Str:=ah "\\"
noncomputable def iX:Nat->Bool->List Nat->List (Nat×Str)
 |i,e,[]=>if e then [(i- 1,z8)] else []
 |i,e,c::r=>if e then(i,z8++⟨#[c]⟩)::iX (i+1) false r else if ((⟨#[c]⟩:Str)==z8) then iX (i+1) true r else(i,⟨#[c]⟩)::iX (i+1) false r
structure GE (env:lW) (L:Addr):Prop where
 kind:env.scope.kind= .function
 kp:env.kindOf oz=aa .local
 ke:env.kindOf oA=aa .local
 kc:env.kindOf Bf=aa .local
 ka:env.kindOf w1=aa .local
 loc:env.locals=L
 co:env.scope.isCoroutine=false
def GE.inter (h:GE env L):interactive env=false:=by unfold interactive;rw[h.kind];rfl
def GE.plain (h:GE env L):(env.scope.kind== .class||(env.scope.kind== .module&&env.locals !=env.globals))=false:=by rw[h.kind];rfl
structure nW (L E T:Addr) (s s':bb):Prop where
 os:s'.os=s.os
 gens:s'.gens=s.gens
 h:∀b o,b≠L->b≠E->b≠T->s.heap.get? b=aa o->s'.heap.get? b=aa o
def nW.refl (L E T:Addr) (s:bb):nW L E T s s:=⟨rfl,rfl,λq q q q q h=>h⟩
def nW.trans (h:nW L E T a b) (k:nW L E T b c):nW L E T a c:=⟨k.os.trans h.os,k.gens.trans h.gens,λx o h1 h2 h3 e=>k.h x o h1 h2 h3 (h.h x o h1 h2 h3 e)⟩
def nW.ext (k:∀b o,b≠L->b≠E->b≠T->s.heap.get? b=aa o->h'.get? b=aa o):nW L E T s {s with heap:=h',toks:=tk}:=⟨rfl,rfl,k⟩
def Yc (L:Addr) (i:Nat) (e:Bool) (h:iQ):Prop:=∃m,h.Ns L m/\m oA=aa (.bool e)/\(e=true->1<=i/\∃tk,m oz=aa (.int ((i- 1:Nat):Int) tk))
structure GSt (x:Str) (t:C6) (L E T:Addr) (i:Nat) (e:Bool) (h:iQ):Prop where
 ns:Yc L i e h
 en:∃old,IsEnum h E T i old
 it:h.IsStrIter T "str_ascii_iterator" x t i
def z9 (L E T:Addr) (h h':iQ):Prop:=∀b,b=L\/b=E\/b=T->∀o,h.get? b=aa o->h'.get? b=aa o
def Yc.same (x:Yc L i e h) (k:∀o,h.get? L=aa o->h'.get? L=aa o):Yc L i e h':=xe12 (x) λm hn r=>⟨m,hn.at' k,r⟩
def YG (x:Str) (t:C6) (L E T:Addr):Protocol:=λn gE v eG kap=>
 ∃(p:Nat) (y:Str) (t1 t2:C6) (tp:Addr) (l:List (Nat×Str)) (pre:List (Nat×Str)),v= .ref tp/\eG.heap.get? tp=aa {cls:= .type "tuple",data:= .seq #[.int p t1,.str y t2]}/\gE.heap.get? tp=ac/\nW L E T gE eG/\
  pre++(p,y)::l=iX 0 false x.cps.toList/\n= ↑l/\tp≠L/\tp≠E/\tp≠T/\
  (∀b,b=L\/b=E\/b=T->∃o,eG.heap.get? b=aa o)/\∀Ea,z9 L E T eG.heap Ea.heap->kap (.send .none) Ea
def RG (L E T:Addr):GenEnd:=λn gE r eG=>r= .ok (.ret .none)/\n=0/\nW L E T gE eG
section
variable {A:cR} {x5:VS} {s:bb} {env:lW} {L E T:Addr}
def qj (hE:GE env L) (hk:env.kindOf x=aa .local) (hn:s.heap.Ns L m) (hv:m x=aa v) (hd:(x==("__debug__" :Str))=false) (h:Q v s):
  wpAny (MM w) A (eval (.Name x pos) env) Q x5 s:=Cg (qb hE.kind hk (hE.loc▸hn) hv h) hd
def Ln (hE:GE env L) (hk:env.kindOf x=aa .local) (hn:s.heap.Ns L m) (hv:m x=aa (.bool b)) (hd:(x==("__debug__" :Str))=false) (h:Q b s):
  wpAny (MM w) A (isTrue (.Name x pos) env (eval (.Name x pos) env)) Q x5 s:=sa (qj hE hk hn hv hd (gc h)) rfl
def td (hE:GE env L) (hk:env.kindOf x=aa .local) (hn:s.heap.Ns L m)
  (h:∀h',h'.Ns L (λy=>if y=x then aa v else m y)->gH L s.heap h'->Q () {s with heap:=h',toks:=s.toks+1}):wpAny (MM w) A (storeName env x v) Q x5 s:=
 x6 hk (hE.loc▸hn) (λh' a b=>h h' (hE.loc▸a) (hE.loc▸b)) hE.plain
def Dv (hE:GE env L) (hg:Yc L i e s.heap) (hb:b=true->1<=i/\∃m tk,s.heap.Ns L m/\m oz=aa (.int ((i- 1:Nat):Int) tk))
  (h:∀h' tk,Yc L i b h'->gH L s.heap h'->Q .next {s with heap:=h',toks:=tk}):wpAny (MM w) A (exec (.Assign [.Name oA jT] (.Constant (.bool b) n FJ) pos) env) Q x5 s:=by
 left;let ⟨m,hn,h1,h2⟩:=hg;right;refine kW (zT (td hE hE.ke hn λh' vj hs=>h h' _ ⟨_,vj,if_pos rfl,λSu=> ?_⟩ hs)) rfl;left;let ⟨q1,m',tk,Mb,hp⟩:=hb Su;right;refine⟨q1,tk,?_⟩;rw[if_neg ∅];rw[hn.agree Mb];exact hp
end
section
variable {A:cR} {s gE:bb} {env:lW} {L E T:Addr} {x:Str} {t:C6} {w:jB} {c:Code} {fs:List Frame} {K:Cj->zV Fin} {H:Value->zV Fin} {gd:Bool->Bool} {lv:List Value->List Value}
def PR (i c:Nat) (r:Nz):iX i true (c::r)=(i,z8++⟨#[c]⟩)::iX (i+1) false r:=rfl
def EM (i c:Nat) (r:Nz):iX i false (c::r)=if ((⟨#[c]⟩:Str)==z8)=true then iX (i+1) true r else(i,⟨#[c]⟩)::iX (i+1) false r:=rfl
def vF {l pre:List (Nat×Str)} (hE:GE env L) (N6:L≠E) (Mg:L≠T) (OD:E≠T)
  (hn1:notStar e1=true) (Xf:notStar e2=true) (jJ:pre++(p,y)::l=iX 0 false x.cps.toList) (Xg:nW L E T gE s) (Ig:∀b,b=L\/b=E\/b=T->b<s.heap.objs.size) (ZC:∀b,b=L\/b=E\/b=T->∃o,s.heap.get? b=aa o)
  (h1:∀(Q:VS) x5,(∀tk k,Q (.int p tk) {s with toks:=k})->wpAny (MM w) (A.over c fs) (eval e1 env) Q x5 s)
  (h2:∀k (Q:VS) x5,(∀tk k',Q (.str y tk) {s with toks:=k'})->wpAny (MM w) (A.over c fs) (eval e2 env) Q x5 {s with toks:=k})
  (hfs:splitAtGen fs=ac) (hgd:gd false=false) (hfg:fs.any Xu=false)
  (hK:∀Ea,z9 L E T s.heap Ea.heap->FR (MM w) A (RG L E T) (YG x t L E T) ↑l Ea c (K .next) fs Ea):
  FR (MM w) A (RG L E T) (YG x t L E T) (↑l+1) gE c ((exec (.Expr (.Yield (aa (.Tuple [e1,e2] tn tV)) anP) pos) env).wrap K H gd lv) fs s:=by
 refine seg_Expr_Yield hfs hgd hfg ?_ hE.co hE.inter;refine sJ ?_;rw[gz hn1,gz Xf];refine bX (h1 _ _ λt1 k1=>bX (h2 k1 _ _ λt2 k2=>eB ⟨by show 2<=sizeLine;decide,?_⟩));intro kap Sv;have yJ:∀b,b=L\/b=E\/b=T->s.heap.objs.size≠b:=λb hb e=>absurd (e▸Ig b hb) (lS _);refine⟨p,y,t1,t2,s.heap.objs.size,l,pre,rfl,aV _ rfl,?_,Xg.trans (.ext λb o q q q e=>aJ _ e),jJ,rfl,yJ L (.inl rfl),yJ E (.inr (.inl rfl)),yJ T (.inr (.inr rfl)),λb hb=>(ZC b hb).imp λo ho=>aJ _ ho,λEa zS=> ?_⟩
 ·cases e:gE.heap.get? s.heap.objs.size with
  |none=>rfl
  |some o=>have:=Xg.h _ _ (yJ L (.inl rfl)) (yJ E (.inr (.inl rfl))) (yJ T (.inr (.inr rfl))) e;exact absurd (bW this) (lS _)
 ·exact Sv .none Ea (hK Ea λb hb o e=>zS b hb o (aJ _ e))
def GIn (L:Addr) (i:Nat) (e:Bool) (ch:Nat) (h:iQ):Prop:=∃m,h.Ns L m/\m oA=aa (.bool e)/\(∃tk,m oz=aa (.int (i:Int) tk))/\∃tk,m Bf=aa (.str ⟨#[ch]⟩ tk)
structure MW (x:Str) (t:C6) (L E T:Addr) (i:Nat) (e:Bool) (ch:Nat) (h:iQ):Prop where
 ns:GIn L i e ch h
 en:∃old,IsEnum h E T ((i+1:Nat):Int) old
 it:h.IsStrIter T "str_ascii_iterator" x t (i+1)
def MW.same (g:MW x t L E T i e ch h) (k:z9 L E T h h'):MW x t L E T i e ch h':=
 ⟨xe12 (g.ns) λm hn r=>⟨m,hn.at' (k L (.inl rfl)),r⟩,xe11 (g.en) λold h1=>⟨old,k E (.inr (.inl rfl)) _ h1⟩,xe12 (g.it) λo ho r=>⟨o,k T (.inr (.inr rfl)) _ ho,r⟩⟩
def MW.live (g:MW x t L E T i e ch h):∀b,b=L\/b=E\/b=T->∃o,h.get? b=aa o:=by
 intro b hb;rcases hb with rfl|rfl|rfl
 ·let ⟨m,⟨o,_,_,ho,_⟩,_⟩:=g.ns;exact⟨o,ho⟩
 ·let ⟨old,h⟩:=g.en;exact⟨_,h⟩
 ·let ⟨o,ho,_⟩:=g.it;exact⟨o,ho⟩
def GSt.live (g:GSt x t L E T i e h):∀b,b=L\/b=E\/b=T->∃o,h.get? b=aa o:=by
 intro b hb;rcases hb with rfl|rfl|rfl
 ·let ⟨m,⟨o,_,_,ho,_⟩,_⟩:=g.ns;exact⟨o,ho⟩
 ·let ⟨old,h⟩:=g.en;exact⟨_,h⟩
 ·let ⟨o,ho,_⟩:=g.it;exact⟨o,ho⟩
def GK (hE:GE env L) (N6:L≠E) (Mg:L≠T) (OD:E≠T)
  (hfs:splitAtGen fs=ac) (hgd:gd false=false) (hfg:fs.any Xu=false)
  (jJ:pre++iX i e (ch::r)=iX 0 false x.cps.toList) (hg:MW x t L E T i e ch s.heap) (hk:nW L E T gE s)
  (hK:∀e' Ih zA s',Ih++iX (i+1) e' r=iX 0 false x.cps.toList->GSt x t L E T (i+1) e' s'.heap->nW L E T zA s'->FR (MM w) A (RG L E T) (YG x t L E T) ↑(iX (i+1) e' r) zA c (K .next) fs s'):
  FR (MM w) A (RG L E T) (YG x t L E T) ↑(iX i e (ch::r)) gE c ((execs [.If (.Name oA d0) [.Expr (.Yield (aa (.Tuple [.Name oz d1,.BinOp (.Constant (.str z8) n2 d2) .Add (.Name Bf d3) d4] m2 d5)) d6) d7,.Assign [.Name oA d8] (.Constant (.bool false) n3 d9) d10]
   [.If (.Compare (.Name Bf e0) [.Eq] [.Constant (.str z8) n4 e1] e2) [.Assign [.Name oA e3] (.Constant (.bool true) n5 e4) e5] [.Expr (.Yield (aa (.Tuple [.Name oz e6,.Name Bf e7] m3 e8)) e9) ZD] ZE] d11] env).wrap K H gd lv) fs s:=by
 left;let ⟨m,hn,hme,⟨tp,hmp⟩,⟨tc,hmc⟩⟩:=hg.ns;have Ig:=hg.live;have kR:∀b,b=L\/b=E\/b=T->b<s.heap.objs.size:=λb hb=>xe11 (Ig b hb) λo ho=>bW ho;right;refine gT (I4 (Ln hE hE.ke hn hme rfl ?_));induction e with
 |true=>
  rw[if_pos rfl];rw[PR]at jJ⊢;refine gT (vF (l:=iX (i+1) false r) (pre:=pre) hE N6 Mg OD rfl rfl jJ hk kR Ig (λQ x5 hq=>qj hE hE.kp hn hmp ∅ (hq tp _)) (λk Q x5 hq=> ?_) hfs hgd hfg λEa zS=> ?_)
  ·refine Ga (kh (qj (s:= {s with toks:=k+1}) hE hE.kc hn hmc ∅ (SB.add (λt' k'=>hq t' k') ?_)));show ↑z8+1<=sizeLine;decide
  ·have wj:=hg.same zS;refine gT (w0 ?_);left;let ⟨m',vj,Sw,N7,_⟩:=wj.ns;right;refine Dv (i:=i+1) (e:=true) hE ⟨m',vj,Sw,λq=>⟨Nat.succ_pos _,?_⟩⟩ (λh=>by cases h) λh' tk hgn N8=> ?_
   ·let ⟨tk,N7⟩:=N7;exact⟨tk,by simpa using N7⟩
   ·refine gR (gR (hK false (pre++[(i,z8++⟨#[ch]⟩)]) _ _ (by rw[bE];exact jJ) ⟨hgn,?_,?_⟩ (.ext λb o h1 q q e=>N8.extBut b o h1 e)))
    ·let ⟨old,ho⟩:=wj.en;exact⟨old,N8.extBut _ _ N6.symm ho⟩
    ·exact wj.it.extBut N8.extBut Mg.symm
 |false=>
  rw[if_neg bF];rw[EM]at jJ⊢;refine gT (I4 (x7 (qj hE hE.kc hn hmc ∅ (kh (Dc (gc ?_)))) rfl));cases hb:((⟨#[ch]⟩:Str)==z8)with
  |true=>
   rw[hb]at jJ;simp only[if_true]at jJ⊢;refine gT (w0 ?_);refine Dv (s:= {s with toks:=s.toks+1}) (i:=i+1) (e:=false) hE ⟨m,hn,hme,λh=>by cases h⟩ (λq=>⟨Nat.succ_pos _,m,tp,hn,by exact hmp⟩) λh' tk hgn N8=> ?_;refine gR (gR (gR (hK true pre _ _ jJ ⟨hgn,?_,?_⟩ (hk.trans (.ext λb o h1 q q e=>N8.extBut b o h1 e)))))
   ·let ⟨old,ho⟩:=hg.en;exact⟨old,N8.extBut _ _ N6.symm ho⟩
   ·exact hg.it.extBut N8.extBut Mg.symm
  |false=>rw[hb]at jJ;simp only[fw,if_false]at jJ⊢;refine gT (vF (s:= {s with toks:=s.toks+1}) (l:=iX (i+1) false r) (pre:=pre) hE N6 Mg OD rfl rfl jJ (hk.trans ⟨rfl,rfl,λq q q q q e=>e⟩) kR Ig (λQ x5 hq=>qj hE hE.kp hn hmp ∅ (hq tp _)) (λk Q x5 hq=>qj (s:= {s with toks:=k}) hE hE.kc hn hmc ∅ (hq tc _)) hfs hgd hfg λEa zS=> ?_);have wj:=hg.same zS;left;let ⟨m',vj,Sw,N7,_⟩:=wj.ns;right;exact gR (gR (gR (hK false (pre++[(i,⟨#[ch]⟩)]) _ _ (by rw[bE];exact jJ) ⟨⟨m',vj,Sw,λh=>by cases h⟩,wj.en,wj.it⟩ (.refl ..))))
end
section
variable {A:cR} {s gE:bb} {env:lW} {L E T:Addr} {x:Str} {t:C6} {w:jB}
def MX {E:VS} (hh:A.handled=ac) (hit:s.heap.IsStrIter it "str_ascii_iterator" x t i) (hx:x.cps[i]? =ac)
  (hE:∀h' e,rm it s.heap h'->(∃o,h'.get? it=aa o)->(∃o,h'.get? e=aa o/\o.cls= .type "StopIteration")->E (.ref e) {s with heap:=h'}):
  wpAny (MM w) A (uX (.ref it)) Q E s:=by
 left;let ⟨o,ho,hc,hd⟩:=id hit;right;unfold uX;refine am (uU (name:=ah "__next__") hit.typeIs F.slot_str_ascii_iterator_next (uT F.slot_str_ascii_iterator_next hit.typeIs F.entry_str_ascii_iterator_next ?_ (F.args_str_ascii_iterator_next_1 _)));show wpAny _ _ (field (.ref it) 0 >>= _) _ _ s;refine am (F8 ho hd (x:= .str x t) rfl ?_);show wpAny _ _ (field (.ref it) 1 >>= _) _ _ s;refine am (F8 ho hd (x:= .int i 0) rfl ?_);simp only[rx,hx];refine am (Kr (am (wpAny_setField ho hd (by simp) (am (wpAny_letGo ?_)))));show wpAny _ _ (newExc (.type "StopIteration") [] >>= _) _ _ _;simp only[newExc,newTuple];refine am (am (iE (am (m:=firstArgMember _ _) (i5 (a:=qc) (by first|rfl|(simp only[firstArgMember];rfl)) (iE ?_ (by size_fits)))) (by size_fits)));simp only[raiseNew];refine am (wpAny_handled ?_);first|rw[show A.in1.handled=ac from hh]|rw[hh]
 refine am (aR (wpAny_throw ?_));exact hE _ _ (((mP ..).extBut.push _).push _) ⟨_,aJ _ (aJ _ (uJ _ ho (Obj.isFreed_of_fields (Obj.data_mapFields hd _))))⟩ ⟨_,aV _ rfl,rfl⟩
def GL
  (hA:A.handled=ac) (hE:GE env L) (N6:L≠E) (Mg:L≠T) (OD:E≠T)
  (ajU:∀e' i' Ih zA s',Ih++iX i' e' []=iX 0 false x.cps.toList->Yc L i' e' s'.heap->(∀b,b=L\/b=E\/b=T->∃o,s'.heap.get? b=aa o)->nW L E T zA s'->FR (MM w) A (RG L E T) (YG x t L E T) ↑(iX i' e' []) zA ajV (kf (.ok .next)) [] s'):
  ∀(r:Nz) (i:Nat) (e:Bool) (pre:List (Nat×Str)) (gE s:bb),x.cps.toList.drop i=r->pre++iX i e r=iX 0 false x.cps.toList->GSt x t L E T i e s.heap->nW L E T gE s->
   FR (MM w) A (RG L E T) (YG x t L E T) ↑(iX i e r) gE
    (.forLoop (.Tuple [.Name oz c0,.Name Bf c1] mm c2) (.ref E) [.If (.Name oA d0) [.Expr (.Yield (aa (.Tuple [.Name oz d1,.BinOp (.Constant (.str z8) n2 d2) .Add (.Name Bf d3) d4] m2 d5)) d6) d7,.Assign [.Name oA d8] (.Constant (.bool false) n3 d9) d10]
     [.If (.Compare (.Name Bf e0) [.Eq] [.Constant (.str z8) n4 e1] e2) [.Assign [.Name oA e3] (.Constant (.bool true) n5 e4) e5] [.Expr (.Yield (aa (.Tuple [.Name oz e6,.Name Bf e7] m3 e8)) e9) ZD] ZE] d11] [] env)
    ((MM w).den (.forLoop (.Tuple [.Name oz c0,.Name Bf c1] mm c2) (.ref E) [.If (.Name oA d0) [.Expr (.Yield (aa (.Tuple [.Name oz d1,.BinOp (.Constant (.str z8) n2 d2) .Add (.Name Bf d3) d4] m2 d5)) d6) d7,.Assign [.Name oA d8] (.Constant (.bool false) n3 d9) d10]
     [.If (.Compare (.Name Bf e0) [.Eq] [.Constant (.str z8) n4 e1] e2) [.Assign [.Name oA e3] (.Constant (.bool true) n5 e4) e5] [.Expr (.Yield (aa (.Tuple [.Name oz e6,.Name Bf e7] m3 e8)) e9) ZD] ZE] d11] [] env))
    [.ret kf ac false l1 ajV anQ []] s:=by
 intro r;induction r with
 |nil=>
  intro i e pre gE s hd jJ hg hk;refine zc ?_;let ⟨old,Sx⟩:=hg.en;have hi:i>=x.cps.size:=by have:=congrArg eX hd;rw[fH,lU,bz]at this;exact abF this
  have hit:s.heap.IsStrIter T "str_ascii_iterator" x t i:=hg.it;have hTy:s.TypeIs (.ref E) "enumerate" :=⟨_,Sx,rfl⟩;unfold pyNext;refine am (wpAny_attempt (uU (name:=ah "__next__") hTy F.slot_enumerate_next (uT F.slot_enumerate_next hTy F.entry_enumerate_next ?_ (F.args_enumerate_next_1 _))));show wpAny _ _ (field (.ref E) 2 >>= _) _ _ _;refine am (F8 Sx rfl (x:= .ref T) rfl ?_);refine am (MX (hA) hit (by simp;exact aaQ hi) λh' ex hb hTl sI=> ?_);let ⟨o,ho,hc⟩:=sI;refine am (wpAny_isInstance (T:= "StopIteration") (b:=true) ⟨o,ho,hc⟩ isSubtype_stop ?_);refine aR ?_;refine seg_again rfl (MV (seg_leaf (.ok .next) (ajU e i pre gE _ jJ ?_ (λb uP=> ?_) (hk.trans (.ext λb o q q h3 e=>hb b o h3 e)))))
  ·exact hg.ns.same λo ho=>hb _ _ Mg ho
  ·rcases uP with rfl|rfl|rfl
   ·let ⟨o,ho⟩:=hg.live _ (.inl rfl);exact⟨o,hb _ _ Mg ho⟩
   ·exact⟨_,hb _ _ OD Sx⟩
   ·exact hTl
 |cons ch r ih=>
  intro i e pre gE s hd jJ hg hk;refine zc ?_;let ⟨old,Sx⟩:=hg.en;let ⟨m,hn,hme,hmp⟩:=hg.ns;have hi:i<x.cps.size:=by
   rcases bS i x.cps.size with h|h
   ·exact h
   ·rw[sO (by rw[bz];exact h)]at hd;nomatch hd
  have hch:x.cps[i]? =aa ch:=by have:=congrArg (λl=>l[0]?) hd;simpa using this
  have Av:x.cps.toList.drop (i+1)=r:=by have:=congrArg List.tail hd;simpa using this
  refine wpAny_pyNext_enum_itemD (Draws.strAscii (by exact hA) T x t) Sx hg.it hi OD (by simp[OD]) λv h1 tk hP ho hit ht hsz Xh=> ?_;left;let ⟨cc,u,Xi,rfl⟩:=hP;right;rw[hch]at Xi;obtain rfl:=ag Xi;have hLl:L<s.heap.objs.size:=hn.lt;have hTl:T<s.heap.objs.size:=by let ⟨o,ho,_⟩:=hg.it;exact bW ho
  refine wpAny_letOwnedTupleGo_enum ho λh2 he2 hs2=> ?_;have Ii:gH E h1 h2:=hs2;have Xf:h2.Ns L m:=(hn.at' λo e=>Xh L o N6 Mg e).sameBut Ii N6;have ht2:h2.get? s.heap.objs.size=aa {cls:= .type "tuple",data:= .seq #[.int i tk,.str ⟨#[ch]⟩ u]}:=Ii.extBut _ _ (jS (bW Sx)) ht;refine Cf (hA) ⟨_,ht2,rfl,_,rfl⟩ rfl rfl λh3 hk3=> ?_;have anU:h2.objs.size=s.heap.objs.size+1:=by rw[Ii.1,hsz]
  have agD:∀b o,h2.get? b=aa o->h3.get? b=aa o:=λb o e=>hk3 b o (cU (bW e)) e;show wpAny _ _ (do holding _ (assign (.Name oz c0) env (.int i tk));holding _ (assign (.Name Bf c1) env (.str ⟨#[ch]⟩ u));pure ()) _ _ _;refine am (dH (zE (td hE hE.kp (Xf.at' λo e=>agD L o e) λh4 hn4 hs4=> ?_)));refine am (dH (zE (td hE hE.kc hn4 λh5 hn5 hs5=>aR ?_)));have ajW:gH L h3 h4:=hs4;have ajX:gH L h4 h5:=hs5;have CZ:∀b o,b≠L->h2.get? b=aa o->h5.get? b=aa o:=λb o hb e=>ajX.extBut b o hb (ajW.extBut b o hb (agD b o e));refine GK hE N6 Mg OD rfl rfl rfl (i:=i) (e:=e) (ch:=ch) (r:=r) jJ ⟨⟨_,hn5,?_,⟨tk,?_⟩,⟨u,if_pos rfl⟩⟩,⟨.str ⟨#[ch]⟩ u,?_⟩,?_⟩ (hk.trans (.ext λb o h1' OA h3' e=>CZ b o h1' (Ii.extBut b o OA (Xh b o OA h3' e)))) λe' Ih zA s' Ij wj yc=> ?_
  ·rw[if_neg ∅,if_neg ∅];exact hme
  ·rw[if_neg ∅,if_pos rfl]
  ·have:=CZ E _ N6.symm he2;exact this
  ·let ⟨o,rZ,r'⟩:=hit;exact⟨o,CZ T _ Mg.symm (Ii.extBut _ _ OD.symm rZ),r'⟩
  ·exact seg_again rfl (ih (i+1) e' Ih zA s' Av Ij wj yc)
end
section
variable {A:cR} {s:bb} {env:lW} {L:Addr} {x:Str} {t:C6} {w:jB}
noncomputable abbrev w2:Str:=ah "enumerate"
def GN
  (hA:A.handled=ac) (hE:GE env L) (hke:env.kindOf w2=aa .globalImplicit) (hgl:env.globals=mainGlobals) (Sr:env.builtins=builtinsNs) (hx:x.cps.all (· <128)=true)
  (hn:s.heap.Ns L m) (ha:m w1=aa (.str x t)) (agF:∃mg,s.heap.Ns mainGlobals mg/\mg w2=ac) (aj0:∃mb,s.heap.Ns builtinsNs mb/\mb w2=aa (.type "enumerate")) (hgL:mainGlobals≠L) (hbL:builtinsNs≠L)
  (dY:body=[.Assign [.Name oz a0] (.Constant (.int 0) n0 a1) a2,.Assign [.Name oA b0] (.Constant (.bool false) n1 b1) b2,
   .For (.Tuple [.Name oz c0,.Name Bf c1] mm c2) (.Call (.Name w2 c3) [.Name w1 c4] [] c5) [.If (.Name oA d0) [.Expr (.Yield (aa (.Tuple [.Name oz d1,.BinOp (.Constant (.str z8) n2 d2) .Add (.Name Bf d3) d4] m2 d5)) d6) d7,.Assign [.Name oA d8] (.Constant (.bool false) n3 d9) d10]
     [.If (.Compare (.Name Bf e0) [.Eq] [.Constant (.str z8) n4 e1] e2) [.Assign [.Name oA e3] (.Constant (.bool true) n5 e4) e5] [.Expr (.Yield (aa (.Tuple [.Name oz e6,.Name Bf e7] m3 e8)) e9) ZD] ZE] d11] [] c6,
   .If (.Name oA f0) [.Expr (.Yield (aa (.Tuple [.Name oz f1,.Constant (.str z8) n6 f2] m4 f3)) f4) f5] [] f6]):
  FR (MM w) A (RG L (s.heap.objs.size+1) s.heap.objs.size) (YG x t L (s.heap.objs.size+1) s.heap.objs.size) ↑(iX 0 false x.cps.toList) s (.func body env) ((MM w).den (.func body env)) [] s:=by
 have hLs:L<s.heap.objs.size:=hn.lt;have Mg:L≠s.heap.objs.size:=cU hLs;have N6:L≠s.heap.objs.size+1:=cU (eI hLs);have OD:s.heap.objs.size+1≠s.heap.objs.size:=Nat.succ_ne_self _;generalize hEd:s.heap.objs.size+1=E at*;generalize hTd:s.heap.objs.size=T at*;refine seg_func ?_;rw[show execs body env=execs _ env from congrArg (λb=>execs b env) dY];refine gT (w0 (kW (wpAny_Constant_int (td hE hE.kp hn λh1 hn1 Zy=> ?_)) rfl));refine gT (w0 (kW (zT (td hE hE.ke hn1 λh2 Xf hs2=> ?_)) rfl));have agG:gH L s.heap h1:=Zy;have Ii:gH L h1 h2:=hs2;have Ie:∀b o,b≠L->s.heap.get? b=aa o->h2.get? b=aa o:=λb o hb e=>Ii.extBut b o hb (agG.extBut b o hb e);left;let ⟨mg,F6,hg1⟩:=agF;let ⟨mb,hmb,OE⟩:=aj0;right;refine gT (Ua (λq=>rfl) ?_);refine cn (qf hE.kind hke (FU (by rw[hgl];exact F6.at' λo e=>Ie _ o hgL e) hg1 (by rw[Sr];exact hmb.at' λo e=>Ie _ o hbL e) OE ?_) rfl);refine ed rfl (lA rfl (bX (qj hE hE.ka Xf (by rw[if_neg ∅,if_neg ∅];exact ha) rfl (eB (iG ?_)))));refine call_enumerate_str λh3 he3 hi3 an1 hk3=> ?_;have hT3:h2.objs.size=T:=(by rw[Ii.1,agG.1,hTd]);replace he3:IsEnum h3 (h2.objs.size+1) h2.objs.size 0 .none:=he3;replace hi3:h3.IsStrIter h2.objs.size (strIterType x) x t 0:=hi3;show wpAny _ _ (pyIter (.ref (h2.objs.size+1))) _ _ _;rw[hT3]at he3 hi3⊢;rw[(by omega:T+1=E)]at he3⊢;have rp:strIterType x= "str_ascii_iterator" :=by unfold strIterType;rw[hx];rfl
 rw[rp]at hi3;refine wpAny_pyIter_enum he3 λp=> ?_;have hn3:h3.Ns L _:=Xf.at' λo e=>hk3 L o e;refine GL hA hE N6 Mg OD (λe' i' Ih zA s' jJ hgn Sx hk=> ?_) x.cps.toList 0 false [] s _ rfl rfl ⟨⟨_,hn3,?_,λh=>by cases h⟩,⟨_,he3⟩,hi3⟩ (.ext λb o hb q q e=>hk3 b o (Ie b o hb e))
 ·show FR _ _ _ _ _ _ _ ((execs _ env).wrap _ _ _ _) _ _;let ⟨m',vj,Sw,N7⟩:=hgn;refine gT (I4 (Ln hE hE.ke vj Sw rfl ?_));induction e' with
  |true=>rw[if_pos rfl];left;let ⟨_,tk,hmp⟩:=N7 rfl;right;refine gT (vF (l:=[]) (pre:=Ih) hE N6 Mg OD rfl rfl jJ hk (λb hb=>xe11 (Sx b hb) λo ho=>bW ho) Sx (λQ x5 hq=>qj hE hE.kp vj hmp rfl (hq tk _)) (λk Q x5 hq=>kh (hq _ _)) rfl rfl rfl λEa q=> ?_);exact gR (gR (seg_end (.ok (.ret .none)) ⟨rfl,rfl,.refl ..⟩))
  |false=>rw[if_neg bF];exact gR (gR (seg_end (.ok (.ret .none)) ⟨rfl,rfl,hk⟩))
 ·exact if_pos rfl
end
def Rel.step (R:Rel S c O h) (own:Addr->Prop) [DecidablePred own] (zS:∀a,own a->(∃o,c.pin a=aa o)\/h.objs.size<=a) (hk:∀b o,¬own b->h.get? b=aa o->h'.get? b=aa o):
  Rel S {c with pin:=λa=>if own a then h'.get? a else c.pin a} O h':=by
 have hF:∀a o,c.F a=aa o->¬own a:=λa o e ha=>by
  rcases zS a ha with⟨x,hx⟩|hx
  ·rw[(R.pins a x hx).2.1]at e;nomatch e
  ·rw[R.oq hx]at e;nomatch e
 have D5:∀i,i< ↑O->¬own (c.Z i):=λi hi ha=>by
  rcases zS _ ha with⟨x,hx⟩|hx
  ·exact(R.pins _ x hx).2.2.1 i hi rfl
  ·exact absurd (R.Mw hi) (fD.mpr hx)
 have ht:∀q∈cm,¬own q.2:=λq hq ha=>by
  rcases zS _ ha with⟨x,hx⟩|hx
  ·exact(R.pins _ x hx).2.2.2 q hq rfl
  ·exact absurd (R.Gj hq) (fD.mpr hx)
 refine⟨λa o e=>hk a o (hF a o e) (R.frozen a o e),R.base,λi ao e=> ?_,R.apart,R.inj,λa o e=> ?_,λq hq=> ?_⟩
 ·let ⟨o,p,r⟩:=R.own i ao e;exact⟨o,hk _ _ (D5 i (getElem?_lt' e)) p,r.j5 (λz z e=>e) (λz z=>rfl) (ab _)⟩
 ·have e':(if own a then h'.get? a else c.pin a)=aa o:=e;by_cases ha:own a
  ·rw[if_pos ha]at e';refine⟨e',?_,λi hi e=>D5 i hi (e▸ha),λq hq e=>ht q hq (e▸ha)⟩;show c.F a=ac;cases ex:c.F a with
   |none=>rfl
   |some y=>exact absurd ha (hF a y ex)
  ·rw[if_neg ha]at e';left;let ⟨p1,p2,p3,p4⟩:=R.pins a o e';right;exact⟨hk a o ha p1,p2,p3,p4⟩
 ·let ⟨a,b,ps,d,e,f⟩:=R.tabs q hq;exact⟨a,b,ps,hk _ _ (ht q hq) d,e,f⟩
section
variable {A:cR} {E:VS} {s:bb} {w:jB}
def PS {P:Nat->bb->bb->Prop} (hR:∀n gE r eG,R n gE r eG->r= .ok (.ret .none)/\P n gE eG) (hh:A.handled=ac) (hl:s.heap.NoLimit) (Sy:A.depth<recursionLimit)
  (hg:s.heap.IsGen a g) (Kd:s.gens[g]? =aa gs) (hgo:gs.Goes (MM w) A.in1 R Y n (.send .none) (s.setGen g .running))
  (hY:∀v eG Td,Td.bare=true->Y (n- 1) (s.setGen g .running) v eG (λr' Ea=>match n with
    |0=>False
    |m+1=>Td.Goes (MM w) A.in1 R Y m r' Ea)->Q (aa v) (eG.setGen g Td))
  (hP:∀eG,P n (s.setGen g .running) eG->∀h',(∀b o,eG.heap.get? b=aa o->h'.get? b=aa o)->Q ac {eG.setGen g .finished with heap:=h'}):
  wpAny (MM w) A (pyNext (.ref a)) Q E s:=by
 unfold pyNext;refine am (wpAny_attempt (uU (name:=ah "__next__") hg.typeIs slot_gen_next (uT slot_gen_next hg.typeIs entry_gen_next ?_ (args_gen_next _))));show wpAny _ A.in1 (vo (.ref a) (.send .none)) _ _ s;unfold vo;refine am (dH (wpAny_genNumber hg (am (wpAny_genState Kd ?_))));induction gs with
 |running=>exact hgo.elim
 |finished=>exact hgo.elim
 |_=>
  refine am (wpAny_roomToWake hl Sy ?_);show wpAny _ A.in1 (.resume g (.send .none) [] _) _ _ s;refine wpAny_resumeQ Kd hgo (λx eG hx=> ?_) (λv eG Td hb hv=>aR ⟨v,rfl,aR (hY v eG Td hb hv)⟩);let ⟨P',e,hp,hpp⟩:=(λx eG hx=>⟨True,(hR _ _ _ _ hx).1,trivial,λq=>(hR _ _ _ _ hx).2⟩:∀(x:Result) (eG:bb),R n (s.setGen g .running) x eG->∃P',x= .ok (.ret .none)/\P'/\(P'->P n (s.setGen g .running) eG)) x eG hx;subst e;show wpAny _ A.in1 (newExc (.type "StopIteration") [] >>= _) _ _ _;simp only[newExc,newTuple];refine am (am (iE (am (m:=firstArgMember _ _) (i5 (a:=qc) (by first|rfl|(simp only[firstArgMember];rfl)) (iE ?_ (by size_fits)))) (by size_fits)));simp only[raiseNew];refine am (am (wpAny_handled ?_));first|rw[show A.in1.handled=ac from hh]|rw[hh]
  refine wpAny_throw (am (wpAny_isInstance (T:= "StopIteration") (b:=true) ⟨_,aV _ rfl,rfl⟩ isSubtype_stop (aR ?_)));exact hP eG (hpp hp) _ λb o hb=>aJ _ (aJ _ hb)
end
noncomputable def lP (p:Nat×Str):PV:= .tup [.int p.1,.str p.2]
abbrev rE:eh:=ng
def PT:∃(a0 a1 a2 b0 b1 b2 c0 c1 c2 c3 c4 c5 c6 d0 d1 d2 d3 d4 d5 d6 d7 d8 d9 d10 d11 e0 e1 e2 e3 e4 e5 e6 e7 e8 e9 ZD ZE f0 f1 f2 f3 f4 f5 f6:Pos) (n0 n1 mm n2 n3 n4 n5 n6 m2 m3 m4:Nat),rE.body=[.Assign [.Name oz a0] (.Constant (.int 0) n0 a1) a2,.Assign [.Name oA b0] (.Constant (.bool false) n1 b1) b2,
   .For (.Tuple [.Name oz c0,.Name Bf c1] mm c2) (.Call (.Name w2 c3) [.Name w1 c4] [] c5) [.If (.Name oA d0) [.Expr (.Yield (aa (.Tuple [.Name oz d1,.BinOp (.Constant (.str z8) n2 d2) .Add (.Name Bf d3) d4] m2 d5)) d6) d7,.Assign [.Name oA d8] (.Constant (.bool false) n3 d9) d10]
     [.If (.Compare (.Name Bf e0) [.Eq] [.Constant (.str z8) n4 e1] e2) [.Assign [.Name oA e3] (.Constant (.bool true) n5 e4) e5] [.Expr (.Yield (aa (.Tuple [.Name oz e6,.Name Bf e7] m3 e8)) e9) ZD] ZE] d11] [] c6,
   .If (.Name oA f0) [.Expr (.Yield (aa (.Tuple [.Name oz f1,.Constant (.str z8) n6 f2] m4 f3)) f4) f5] [] f6]:=
 ⟨_,_,_,_,_,_,_,_,_,_,_,_,_,_,_,_,_,_,_,_,_,_,_,_,_,_,_,_,_,_,_,_,_,_,_,_,_,_,_,_,_,_,_,_,_,_,_,_,_,_,_,_,_,_,_,rfl⟩
def u9 (c:aM) (a:Addr) (g:Nat):Prop:=∃o nm qn,c.F a=aa o/\o.cls= .type "generator" /\o.data= .fields #[.int g 0,nm,qn]/\o.slots= #[]
def u9.WT (x:u9 c a g) (R:Rel S c O h):h.IsGen a g:=xe32 (x) λo nm qn ho r=>⟨o,nm,qn,R.frozen _ _ ho,r⟩
inductive GJ (w:jB) (A:cR) (x:Str) (t:C6) (L a:Addr) (g:Nat) (env:lW):List PV->aM->bb->Prop
 |fresh {c:aM} {s:bb} {oL:Obj} {m:Str->Option Value}:c.pin L=aa oL->(∀h:iQ,h.get? L=aa oL->h.Ns L m)->m w1=aa (.str x t)->u9 c a g->L<a->s.gens[g]? =aa (.fresh (.func rE.body env))->
   GJ w A x t L a g env ((iX 0 false x.cps.toList).map lP) c s
 |run {c:aM} {s:bb} {E T:Addr} {hr:iQ} {gs:VI} {l pre:List (Nat×Str)}:(∀b,b=L\/b=E\/b=T->∃o,hr.get? b=aa o/\c.pin b=aa o)->u9 c a g->a<T->a<E->s.gens[g]? =aa gs->gs.bare=true->pre++l=iX 0 false x.cps.toList->
   (∀Ea,z9 L E T hr Ea.heap->gs.Goes (MM w) A.in1 (RG L E T) (YG x t L E T) ↑l (.send .none) Ea)->GJ w A x t L a g env (l.map lP) c s
def u9.mono (x:u9 c a g) (hF:∀b o,c.F b=aa o->c'.F b=aa o):u9 c' a g:=xe32 (x) λo nm qn ho r=>⟨o,nm,qn,hF _ _ ho,r⟩
def GO (R:Rel S c O s.heap) (hA:jD k A) (agJ:vV<=g)
  (zS:∀b,b=L\/b=E\/b=T->(∃o,c.pin b=aa o)\/s.heap.objs.size<=b) (haT:a<T) (haE:a<E) (hgo:u9 c a g) (Kd:s.gens[g]? =aa gs) (jJ:pre++l=iX 0 false x.cps.toList)
  (agK:gs.Goes (MM S.w) A.in1 (RG L E T) (YG x t L E T) ↑l (.send .none) (s.setGen g .running)) (Er:VS) (Q:Option Value->bb->Prop)
  (h0:l=[]->∀c' s',aM.pK (λb=>b=L\/a<b) ↑O c c'->Rel S c' O s'.heap->lC vV s s'->Q ac s')
  (h1:∀p r,l=p::r->∀c' v s',aM.pK (λb=>b=L\/a<b) ↑O c c'->Rel S c' O s'.heap->lC vV s s'->GJ S.w A x t L a g env (r.map lP) c' s'->dk S.w c'.F v (lP p)->Q (aa v) s'):
  wpAny (MM S.w) A (pyNext (.ref a)) Q Er s:=by
 have dec:DecidablePred λb:Addr=>b=L\/b=E\/b=T:=λb=>inferInstance;have wb:∀(h':iQ),aM.pK (λb=>b=L\/a<b) ↑O c {c with pin:=λb=>if b=L\/b=E\/b=T then h'.get? b else c.pin b}:=λh'=>⟨λu u e=>e,λu u=>rfl,λb hb=>if_neg λh=>hb (by
  rcases h with rfl|rfl|rfl
  ·exact .inl rfl
  ·exact .inr haE
  ·exact .inr haT)⟩
 have kR:g<s.gens.size:=by
  rcases bS g s.gens.size with h|h
  ·exact h
  ·rw[mw h]at Kd;nomatch Kd
 have Xj:∀(eG:bb) (y:VI),eG.gens=(s.setGen g .running).gens->eG.os=s.os->y.bare=true->∀h' tk,lC vV s {(eG.setGen g y)with heap:=h',toks:=tk}:=by
  intro eG y Aw hos hy h' tk;refine⟨hos,λi z hi hz=> ?_,λhb z hz=> ?_⟩
  ·show(eG.gens.setIfInBounds g y)[i]? =aa z;rw[Aw];have:i≠g:=by exact abG hi agJ
   simp[VG,Ne.symm this,hz]
  ·have hz':z∈eG.gens.setIfInBounds g y:=hz;rw[Aw]at hz';let ⟨i,hi,e⟩:=Array.mem_iff_getElem.mp hz';have e':((s.gens.setIfInBounds g .running).setIfInBounds g y)[i]? =aa z:=by rw[iS];exact⟨hi,e⟩
   by_cases hig:g=i
   ·subst hig;simp[kR]at e';subst e';exact hy
   ·simp[hig]at e';exact hb z (IH e')
 refine PS (P:=λn gE eG=>n=0/\nW L E T gE eG) (λn gE r eG h=>⟨h.1,h.2⟩) hA.hn R.lim hA.room (hgo.WT R) Kd agK (λv eG Td hb hy=> ?_) (λeG hp h' hk=> ?_)
 ·let ⟨p,y,t1,t2,tp,l',Ih,rfl,htp,uH,hK,Ij,hn,hnL,hnE,hnT,hal,Sv⟩:=hy;cases l with
  |nil=>have h1:=congrArg eX jJ;have h2:=congrArg eX Ij;simp only[aj,az,lU]at h1 h2 hn Sv;exact(Sv eG λu u u e=>e).elim
  |cons p0 l=>
   let ⟨e1,e2⟩:=List.append_inj (jJ.trans Ij.symm) (by
    have h1:=congrArg eX jJ;have h2:=congrArg eX Ij;simp only[aj,az]at h1 h2;exact abH h1 h2 (by simpa using hn))
   injection e2 with e3 e4;subst e1 e3 e4;have R1:Rel S _ O eG.heap:=Rel.step (h':=eG.heap) R (λb=>b=L\/b=E\/b=T) zS λb o hb e=>hK.h b o (λh=>hb (.inl h)) (λh=>hb (.inr (.inl h))) (λh=>hb (.inr (.inr h))) e;have Eb:s.heap.get? tp=ac:=uH;have Sz:qz {c with pin:=λb=>if b=L\/b=E\/b=T then eG.heap.get? b else c.pin b} ↑O tp:=by
    refine⟨?_,λi hi e=> ?_,?_,λq hq e=> ?_⟩
    ·show c.F tp=ac;cases e:c.F tp with
     |none=>rfl
     |some o=>rw[R.frozen _ _ e]at Eb;nomatch Eb
    ·let ⟨o,ho,_⟩:=R.own i O[i] (aq hi);rw[show c.Z i=tp from e,Eb]at ho;nomatch ho
    ·show(if tp=L\/tp=E\/tp=T then eG.heap.get? tp else c.pin tp)=ac;rw[if_neg (by rintro(h|h|h);exact hnL h;exact hnE h;exact hnT h)];cases e:c.pin tp with
     |none=>rfl
     |some o=>rw[(R.pins _ _ e).1]at Eb;nomatch Eb
    ·let ⟨_,_,ps,d,_⟩:=R.tabs q hq;rw[e,Eb]at d;nomatch d
   refine h1 (p,y) l rfl (aM.put {c with pin:=λb=>if b=L\/b=E\/b=T then eG.heap.get? b else c.pin b} tp {cls:= .type "tuple",data:= .seq #[.int p t1,.str y t2]}) (.ref tp) (eG.setGen g Td) ⟨λb o e=> ?_,λu u=>rfl,(wb eG.heap).pin⟩ (R1.freeze Sz htp) (Xj eG Td hK.gens hK.os hb _ _) ?_ ?_
   ·exact(aM.dC (n:=0) Sz.F).F b o e
   ·refine .run (E:=E) (T:=T) (hr:=eG.heap) (pre:=pre++[(p,y)]) (λb uP=> ?_) (hgo.mono (aM.dC (n:=0) Sz.F).F) haT haE ?_ hb (by rw[bE];exact jJ) λEa ho=>Sv Ea ho
    ·let ⟨o,ho⟩:=hal b uP;exact⟨o,ho,(if_pos uP).trans ho⟩
    ·show(eG.gens.setIfInBounds g Td)[g]? =aa Td;rw[hK.gens];simp[VG,kR]
   ·refine .tup (if_pos rfl) rfl λi v d hv hd=> ?_
    match i with
    |0=>obtain rfl:=ag hv;obtain rfl:=ag hd;exact .int ..
    |1=>obtain rfl:=ag hv;obtain rfl:=ag hd;exact .str ..
    |i+2=>simp at hd
 ·let ⟨hn,hK⟩:=hp;exact h0 (sy.mp hn) _ _ (wb h') (Rel.step (h':=h') R (λb=>b=L\/b=E\/b=T) zS λb o hb e=>hk b o (hK.h b o (λh=>hb (.inl h)) (λh=>hb (.inr (.inl h))) (λh=>hb (.inr (.inr h))) e)) (Xj eG .finished hK.gens hK.os rfl _ _)
def dZ.Ub (h:dZ s s'):s.gens.size<=s'.gens.size:=by
 rcases bS s'.gens.size s.gens.size with kR|Aw
 ·have:=h.gens s'.gens.size s.gens[s'.gens.size] (qL kR);rw[mw (ab _)]at this;cases this
 ·exact Aw
def sk.esc {A:cR} {x:Str} {t:C6} {L a:Addr} {g vV oP:Nat} {env:lW} {ok:List AO->Prop} (hE:GE env L) (hke:env.kindOf w2=aa .globalImplicit) (hgl:env.globals=mainGlobals) (Sr:env.builtins=builtinsNs) (hx:x.cps.all (· <128)=true) (hg:vV<=g):
  sk S k A (λb=>b=L\/a<b) vV oP ok (.ref a) (GJ S.w A x t L a g env) where
 keep:=λ{m rest c c' O bv s s'} hJ _ wb hK R R'=>by
  induction hJ with
  |fresh h1 h2 h3 h4 h5 h6=>exact .fresh (by exact wb.pin▸h1) h2 h3 (h4.mono wb.F) h5 (hK.gens _ _ h6)
  |run h1 h2 h3 h4 h5 h6 h7 h8=>exact .run (λb hb=>xe12 (h1 b hb) λo p q=>⟨o,p,by rw[wb.pin];exact q⟩) (h2.mono wb.F) h3 h4 (hK.gens _ _ h5) h6 h7 h8
 next:=λ{O rest c s} hJ R hn mY hA E Q h0 h1=>by
  have done:∀(l:List (Nat×Str)),(l.map lP=[]->∀c' s',aM.pK (λb=>b=L\/a<b) ↑O c c'->Rel S c' O s'.heap->lC vV s s'->Q ac s')->l=[]->∀c' s',aM.pK (λb=>b=L\/a<b) ↑O c c'->Rel S c' O s'.heap->lC vV s s'->Q ac s':=λl h hl=>h (by rw[hl];rfl);cases hJ with
  | @fresh _ _ oL m e1 e2 e3 e4 e5 e6=>
   left;let ⟨p1,p2,p3,p4⟩:=R.pins _ _ e1;have haS:a<s.heap.objs.size:=xe32 (e4) λo z z ho z=>bW (R.frozen _ _ ho);let ⟨b0,b1,b2,b3,b4,b5,b6,b7,b8,b9,b10,b11,b12,b13,b14,b15,b16,b17,b18,b19,b20,b21,b22,b23,b24,b25,b26,b27,b28,b29,b30,b31,b32,b33,b34,b35,b36,b37,b38,b39,b40,b41,b42,b43,m0,m1,m2,m3,m4,m5,m6,m7,m8,m9,m10,ZF⟩:=PT;let ⟨mg,F6,hg1⟩:=S.glob;let ⟨mb,hmb,OE⟩:=S.blt;right;have neF:∀b,(∃f,S.h₀.Ns b f)->(∀q∈cm,b≠q.2)->b≠L:=by rintro b ⟨f,o,_,_,ho,_⟩ hb rfl;have:=R.base _ _ ho hb;rw[p2]at this;nomatch this
   refine GO (E:=s.heap.objs.size+1) (T:=s.heap.objs.size) (l:=iX 0 false x.cps.toList) (pre:=[]) R hA hg (λb hb=> ?_) haS (eI haS) e4 e6 rfl ⟨rfl,?_⟩ E Q (done _ h0) λp r e=>h1 _ _ (by rw[e];rfl)
   ·rcases hb with rfl|rfl|rfl
    ·exact .inl ⟨_,e1⟩
    ·exact .inr (mr _)
    ·exact .inr (ab _)
   ·refine GN (s:=s.setGen g .running) (A:=A.in1) hA.hn hE hke hgl Sr hx (e2 _ p1) e3 ⟨mg,R.u6 F6 ∅,hg1 (w2,ac) ?_⟩ ⟨mb,R.u6 hmb ∅,OE (w2,aa (.type "enumerate")) ?_⟩ (neF _ ⟨_,F6⟩ ∅) (neF _ ⟨_,hmb⟩ ∅) ZF
    ·unfold cg;walk_at "a"
    ·unfold lu;walk_at "a"
  | @run _ _ E' T hr gs l pre e1 e2 e3 e4 e5 e6 e7 e8=>refine GO (E:=E') (T:=T) (l:=l) (pre:=pre) R hA hg (λb hb=>xe12 (e1 b hb) λo z q=> .inl ⟨o,q⟩) e3 e4 e2 e5 e7 (e8 _ λb hb o ho=> ?_) E Q (done _ h0) λp r e=>h1 _ _ (by rw[e];rfl);let ⟨o',p,q⟩:=e1 b hb;rw[p]at ho;obtain rfl:=ag ho;exact(R.pins _ _ q).1
 self:=λ{O rest c s} hJ R hA E Q h=>by
  have:u9 c a g:=by cases hJ<;>assumption
  exact wpAny_pyIter_gen (this.WT R) h
 Vj:=λ{O rest c s} hJ R cD v E Q h=>by
  have:u9 c a g:=by cases hJ<;>assumption
  left;let ⟨o,_,_,ho,hc,_⟩:=this;right;exact rI (R.frozen _ _ ho) hc rfl cD v h
def I5:rE∈fV:=by unfold fV;walk_at "a"
def kZ.esc (hf:nH S k O ae (.Name f np) (.con (.ref rE.addr))) (h:nH S k O ae e (.str x)) (hs:notStar e=true) (hx:x.cps.all (· <128)=true) (mY:ok O):
  kZ S k O ae (.Call (.Name f np) [e] [] pos) ok ((iX 0 false x.cps.toList).map lP):=by
 intro A c s env hA hE R E Q hQ;refine cn (hf.run A c s env hA hE R _ _ λc1 v1 s1 l1 R1 K1 a1=> ?_);have e':=a1.dn;subst e';left;let ⟨o,pm,ho,_,hd,_⟩:=R1.fn I5;right;refine fJ (o:=o) (fd:=rE.fd pm) ?_;refine eg (.cons h .nil hs) _ pos A c1 s1 env hA (hE.mono l1 (ab _)) R1 _ _ λc2 vs s2 l2 R2 K2 a2=> ?_;have ho2:s2.heap.get? rE.addr=aa o:=by left;let ⟨FF,_,h0,_,_,_⟩:=S.fns rE I5;have ho1:s1.heap.get? rE.addr=aa o:=ho;right;rw[(R1.old h0 ∅)]at ho1;obtain rfl:=ag ho1;exact(R2.old h0 ∅)
 refine⟨⟨ho2,hd⟩,?_⟩;have h9:=a2.i1;clear a2;let ⟨_,_,rfl,a2,b2⟩:=h9;left;obtain rfl:=b2.i0;have D7:=a2.gh;let ⟨t,rfl⟩:=D7.mD;let ⟨o',pm',rZ,_,Av,C2⟩:=R2.fn I5;right;rw[ho2]at rZ;obtain rfl:=ag rZ;refine vW (codeAny_call_generator hA.room ho2 hd rfl rfl rfl C2 ?_);refine i5 (a:=[(w1,.str x t)]) rfl ?_;refine yL (scope:=rE.scope) (by decide+kernel) (by intro y hy;rw[aB]at hy;subst hy;show rE.scope.names.lookup w1=_;kernel_rfl) (λh' tU N8=> ?_) rfl;have N9:gH s2.heap.objs.size (s2.heap.push {cls:= .type "frame",data:= .dict #[]}) h':=N8;have hsz:h'.objs.size=s2.heap.objs.size+1:=by rw[N9.1,eU]
 have hk:∀b o,s2.heap.get? b=aa o->h'.get? b=aa o:=λb o e=>N9.extBut b o (cU (bW e)) (aJ _ e);refine⟨(sL R2.lim hk),?_⟩;generalize hL:s2.heap.objs.size=L at*;left;let ⟨oL,es,ep,hoL,aj2⟩:=tU;right;generalize hO:({cls:= .type "generator",data:= .fields #[.int s2.gens.size 0,.str (rE.fd pm).name (s2.toks+1),.str (rE.fd pm).qualname (s2.toks+1+1)]}:Obj)=oa;have hFL:qz (c2.put h'.objs.size oa) ↑O L:=by have hf:=R2.free (a:=L) (by simp_all);refine⟨?_,hf.Z,hf.pin,hf.tab⟩;show(if L=h'.objs.size then aa oa else c2.F L)=ac;rw[if_neg (by simp_all)];exact hf.F
 have uG:=l1.trans l2 (ab _);have hE':GE {scope:=rE.scope,locals:=L,globals:=3,cells:=[],qual:=(rE.fd pm).qualname++ ".<locals>.",func:=aa rE.addr,code:= .ref rE.code,frame:=aa L,builtins:=0} L:=
  ⟨rfl,by show rE.scope.names.lookup oz=_;exact so,by show rE.scope.names.lookup oA=_;exact so,by show rE.scope.names.lookup Bf=_;exact so,by show rE.scope.names.lookup w1=_;kernel_rfl,rfl,rfl⟩
 show wpAny (MM S.w) A (pyIter (.ref h'.objs.size)) Q E _;refine wpAny_pyIter_gen (g:=s2.gens.size) ⟨oa,_,_,aV _ (by rw[<- hO];rfl),by rw[<- hO],by rw[<- hO],by rw[<- hO]⟩ ?_;refine hQ ((c2.put h'.objs.size oa).pinned [(L,oL)]) _ (.ref h'.objs.size) (λb=>b=L\/h'.objs.size<b) _ ⟨λb y e=>(aM.dC (n:=0) (R2.oq (by simp_all))).F b y (uG.F b y e),uG.Z,λb hb=> ?_⟩ (λb hb=> ?_) ((R2.put (λb o e=>aJ _ (hk b o e)) (by simp_all) (hO▸(aV _ rfl)):Rel S (c2.put h'.objs.size oa) O (h'.push oa)).pinned (ps:=[(L,oL)]) (λp hp=>by rw[aB]at hp;subst hp;exact hFL) λp hp=>by rw[aB]at hp;subst hp;exact aJ _ hoL) ?_ (sk.esc (t:=t) (L:=L) (a:=h'.objs.size) (g:=s2.gens.size) hE' ?_ rfl rfl hx (K1.trans K2).Ub) mY (.fresh (oL:=oL) (m:=λy=>[(w1,Value.str x t)].reverse.lookup y) (aM.lD ..) (λhh e=>⟨oL,es,ep,e,aj2⟩) ?_ ⟨oa,_,_,if_pos rfl,by rw[<- hO],by rw[<- hO],by rw[<- hO]⟩ (by rw[hsz];exact ez _) ?_)
 ·show(gP b [(L,oL)]).or (c2.pin b)=c.pin b;rw[di,beq_false_of_ne (λe=>hb (.inl e))];exact congrFun uG.pin b
 ·rw[<- uG.pin];cases ep:c2.pin b with
  |none=>rfl
  |some o=>
   have:=(λb o e=>hL▸bW (R2.pins b o e).1:∀(b:Addr) (o:Obj),c2.pin b=aa o->b<L) b o ep;rcases hb with rfl|hb
   ·exact absurd this (lS _)
   ·rw[hsz]at hb;exact absurd (iK this (ez _)) (zW hb)
 ·refine(K1.trans K2).trans ⟨rfl,λi z e=> ?_,λhb=>OJ hb rfl⟩;show(s2.gens.push _)[i]? =aa z;have hi:i<s2.gens.size:=by
   rcases bS i s2.gens.size with h|h
   ·exact h
   ·rw[mw h]at e;nomatch e
  rw[Iw hi];rw[qL hi]at e;exact e
 ·show rE.scope.names.lookup w2=_;decide+kernel
 ·simp
 ·exact F3 ..
def wz (s : String) : List Lean.Syntax :=
  let p := s.splitOn "; "
  let h := p.headD ""
  let f := wf (p.tail.map fun e =>
    let q := (e.replace "%" "").splitOn " "
    let n := if h == "" then q.headD "" else h ++ "." ++ q.headD ""
    let t := wp (if h == "" || q.contains "?" then "refine" else "apply") [wa (wi n) (q.tail.map fun a => if a == "_" then wI a else wi a)]
    [wn (wN "«tactic_<;>_»") [if e.front == '%' then wp "withReducible" [ws [t]] else t, wx, ww "sd"]])
  if h == "" then [f] else [wp "withReducible" [ws [wT (we (wi h))]], f]
local macro_rules | `(tactic| walk_at "sd") => do
  let a := ["cS; int; fF; str; none; bool; loc; bin; nj; item; tup; lst; GD; slice; cmp; afs; neg; and; PC; ahE; Z7; %call fA.sum; %call fA.len; %call fA.max; %call fA.min; %call fA.round; %call fA.int; %call fA.list; %sY fA.upper F.plainAttrs_str F.slot_str_upper F.type_str_upper; %sY fA.lower F.plainAttrs_str F.slot_str_lower F.type_str_lower; %sY fA.join F.plainAttrs_str F.slot_str_join F.type_str_join; %sY fA.index F.plainAttrs_str F.slot_str_index F.type_str_index; alp 612; alp 616; alp 620", "pQ; nil; cons", "jZ; nil; cons", "X2; none; some", "MR; nil; cons", "GH; nil; cons", "Dt; nil; cons", "Ex; alq; andNil; ai8; ahA", "kb; nil; loc; nj", "Cw; loc; nj; tup", "mu; zb; PI; if; return; for; ajc; ana; GF; ajg; aug; put; swap; %mut Bc.append F.slot_list_append F.type_list_append; %mut Bc.pop F.slot_list_pop F.type_list_pop", "AU; cmp; boolOp; not; val; chain", "zK; val; range", "EC; list; dict", "MU; pure; newList; newDict", "MG; cons; one", "GB; store", "F5; more rfl rfl rfl ? ? ? ?; last rfl rfl rfl ? ? ?", "; zK.C ?; Eo so; Nat.le_refl _; Nat.succ_pos _; Nat.le_add_left _ _; Nat.le_of_ble_eq_true tt; tt; so; pp; MI; aeq"].map wz ++ (List.range 25).map fun i => wz ("; afb " ++ toString i ++ " so")
  `(tactic| first | $(⟨wf a⟩) | exact fun _ _ => rfl | exact fun _ => rfl | exact .inl ⟨_, rfl⟩ | exact .inr ⟨_, rfl⟩ | decide | kernel_rfl)
def w3:SF:=(aC (bZ (ba .Add (ba .Add (ba .Mult (jg (.fF 4599075939470750515)) (ak 0)) (ba .Mult (jg (.fF 4603489467105573601)) (ak 1))) (ba .Mult (jg (.fF 4592590756007337001)) (ak 2))) (bf 3)) (aC (bZ (ba .Sub (ba .Mult (jg (.fF 4604840546993784750)) (ba .Sub (ak 0) (ak 3))) (ba .Mult (jg (.fF 4598535507515466056)) (ba .Sub (ak 2) (ak 3)))) (bf 4)) (aC (bZ (ba .Add (ba .Mult (jg (.fF 4602318531202457272)) (ba .Sub (ak 0) (ak 3))) (ba .Mult (jg (.fF 4601057523306793533)) (ba .Sub (ak 2) (ak 3)))) (bf 5)) (aC (i6 (jb (au (ak 3) (au (ak 4) (au (ak 5) aZ))))) br))))
def w4:List PV->Option PV:=mJ ["r", "g", "b"] ["y", "i", "q"] w3
def EN:jZ S 0 (nI n8 ["r", "g", "b"] ["y", "i", "q"]) n8.body w3:=by walk_at "sd"
def Uc:hV S 1 n8 w4:=hV.plain (.of 4 rfl rfl tt) EN (λpm=>WR λq q q=>rfl) tt
def w5:SF:=(aC (bZ (ba .Add (ba .Add (ak 0) (ba .Mult (jg (.fF 4606703976345377586)) (ak 1))) (ba .Mult (jg (.fF 4603791717925830846)) (ak 2))) (bf 3)) (aC (bZ (ba .Sub (ba .Sub (ak 0) (ba .Mult (jg (.fF 4598621754083818298)) (ak 1))) (ba .Mult (jg (.fF 4603901015759978483)) (ak 2))) (bf 4)) (aC (bZ (ba .Add (ba .Sub (ak 0) (ba .Mult (jg (.fF 4607671262177584182)) (ak 1))) (ba .Mult (jg (.fF 4610375502138591871)) (ak 2))) (bf 5)) (aC (jz (bY .Lt (ak 3) (jg (.fF 0))) (aC (bZ (jg (.fF 0)) (bf 3)) br) br) (aC (jz (bY .Lt (ak 4) (jg (.fF 0))) (aC (bZ (jg (.fF 0)) (bf 4)) br) br) (aC (jz (bY .Lt (ak 5) (jg (.fF 0))) (aC (bZ (jg (.fF 0)) (bf 5)) br) br) (aC (jz (bY .Gt (ak 3) (jg (.fF 4607182418800017408))) (aC (bZ (jg (.fF 4607182418800017408)) (bf 3)) br) br) (aC (jz (bY .Gt (ak 4) (jg (.fF 4607182418800017408))) (aC (bZ (jg (.fF 4607182418800017408)) (bf 4)) br) br) (aC (jz (bY .Gt (ak 5) (jg (.fF 4607182418800017408))) (aC (bZ (jg (.fF 4607182418800017408)) (bf 5)) br) br) (aC (i6 (jb (au (ak 3) (au (ak 4) (au (ak 5) aZ))))) br))))))))))
def rM:List PV->Option PV:=mJ ["y", "i", "q"] ["r", "g", "b"] w5
def EO:jZ S 0 (nI n9 ["y", "i", "q"] ["r", "g", "b"]) n9.body w5:=by walk_at "sd"
def Ud:hV S 1 n9 rM:=hV.plain (.of 5 rfl rfl tt) EO (λpm=>WR λq q q=>rfl) tt
def w6:SF:=(aC (bZ (dJ EA (au (ak 0) (au (ak 1) (au (ak 2) aZ)))) (bf 3)) (aC (bZ (dJ MN (au (ak 0) (au (ak 1) (au (ak 2) aZ)))) (bf 4)) (aC (bZ (ba .Add (ak 3) (ak 4)) (bf 5)) (aC (bZ (ba .Sub (ak 3) (ak 4)) (bf 6)) (aC (bZ (ba .Div (ak 5) (jg (.fF 4611686018427387904))) (bf 7)) (aC (jz (bY .Eq (ak 4) (ak 3)) (aC (i6 (jb (au (jg (.fF 0)) (au (ak 7) (au (jg (.fF 0)) aZ))))) br) br) (aC (jz (bY .LtE (ak 7) (jg (.fF 4602678819172646912))) (aC (bZ (ba .Div (ak 6) (ak 5)) (bf 8)) br) (aC (bZ (ba .Div (ak 6) (ba .Sub (ba .Sub (jg (.fF 4611686018427387904)) (ak 3)) (ak 4))) (bf 8)) br)) (aC (bZ (ba .Div (ba .Sub (ak 3) (ak 0)) (ak 6)) (bf 9)) (aC (bZ (ba .Div (ba .Sub (ak 3) (ak 1)) (ak 6)) (bf 10)) (aC (bZ (ba .Div (ba .Sub (ak 3) (ak 2)) (ak 6)) (bf 11)) (aC (jz (bY .Eq (ak 0) (ak 3)) (aC (bZ (ba .Sub (ak 11) (ak 10)) (bf 12)) br) (aC (jz (bY .Eq (ak 1) (ak 3)) (aC (bZ (ba .Sub (ba .Add (jg (.fF 4611686018427387904)) (ak 9)) (ak 11)) (bf 12)) br) (aC (bZ (ba .Sub (ba .Add (jg (.fF 4616189618054758400)) (ak 10)) (ak 9)) (bf 12)) br)) br)) (aC (bZ (ba .Mod (ba .Div (ak 12) (jg (.fF 4618441417868443648))) (jg (.fF 4607182418800017408))) (bf 12)) (aC (i6 (jb (au (ak 12) (au (ak 7) (au (ak 8) aZ))))) br)))))))))))))
def i7:List PV->Option PV:=mJ ["r", "g", "b"] ["maxc", "minc", "sumc", "rangec", "l", "s", "rc", "gc", "bc", "h"] w6
def EP:jZ S 0 (nI og ["r", "g", "b"] ["maxc", "minc", "sumc", "rangec", "l", "s", "rc", "gc", "bc", "h"]) og.body w6:=by walk_at "sd"
def Ue:hV S 1 og i7:=hV.plain (.of 6 rfl rfl tt) EP (λpm=>WR λq q q=>rfl) tt
def afu:SF:=(aC (bZ (ba .Mod (ak 2) (jg (.fF 4607182418800017408))) (bf 2)) (aC (jz (bY .Lt (ak 2) (jg (.fF 4595172819793696085))) (aC (i6 (ba .Add (ak 0) (ba .Mult (ba .Mult (ba .Sub (ak 1) (ak 0)) (ak 2)) (jg (.fF 4618441417868443648))))) br) br) (aC (jz (bY .Lt (ak 2) (jg (.fF 4602678819172646912))) (aC (i6 (ak 1)) br) br) (aC (jz (bY .Lt (ak 2) (jg (.fF 4604180019048437077))) (aC (i6 (ba .Add (ak 0) (ba .Mult (ba .Mult (ba .Sub (ak 1) (ak 0)) (ba .Sub (jg (.fF 4604180019048437077)) (ak 2))) (jg (.fF 4618441417868443648))))) br) br) (aC (i6 (ak 0)) br)))))
def Ug:List PV->Option PV:=mJ ["m1", "m2", "hue"] [] afu
def aji:jZ S 0 (nI r_v ["m1", "m2", "hue"] []) r_v.body afu:=by walk_at "sd"
def anc:hV S 1 r_v Ug:=hV.plain (.of 8 rfl rfl tt) aji (λpm=>WR λq q q=>rfl) tt
local macro_rules | `(tactic| walk_at "sd") => pure (wq (wz "cS; ahD anc"))
def w7:SF:=(aC (jz (bY .Eq (ak 2) (jg (.fF 0))) (aC (i6 (jb (au (ak 1) (au (ak 1) (au (ak 1) aZ))))) br) br) (aC (jz (bY .LtE (ak 1) (jg (.fF 4602678819172646912))) (aC (bZ (ba .Mult (ak 1) (ba .Add (jg (.fF 4607182418800017408)) (ak 2))) (bf 3)) br) (aC (bZ (ba .Sub (ba .Add (ak 1) (ak 2)) (ba .Mult (ak 1) (ak 2))) (bf 3)) br)) (aC (bZ (ba .Sub (ba .Mult (jg (.fF 4611686018427387904)) (ak 1)) (ak 3)) (bf 4)) (aC (i6 (jb (au (j9 Ug (au (ak 4) (au (ak 3) (au (ba .Add (ak 0) (jg (.fF 4599676419421066581))) aZ)))) (au (j9 Ug (au (ak 4) (au (ak 3) (au (ak 0) aZ)))) (au (j9 Ug (au (ak 4) (au (ak 3) (au (ba .Sub (ak 0) (jg (.fF 4599676419421066581))) aZ)))) aZ))))) br))))
def w8:List PV->Option PV:=mJ ["h", "l", "s"] ["m2", "m1"] w7
def EQ:jZ S 1 (nI oh ["h", "l", "s"] ["m2", "m1"]) oh.body w7:=by walk_at "sd"
def Uh:hV S 2 oh w8:=hV.plain (.of 7 rfl rfl tt) EQ (λpm=>WR λq q q=>rfl) tt
def w9:SF:=(aC (bZ (dJ EA (au (ak 0) (au (ak 1) (au (ak 2) aZ)))) (bf 3)) (aC (bZ (dJ MN (au (ak 0) (au (ak 1) (au (ak 2) aZ)))) (bf 4)) (aC (bZ (ba .Sub (ak 3) (ak 4)) (bf 5)) (aC (bZ (ak 3) (bf 6)) (aC (jz (bY .Eq (ak 4) (ak 3)) (aC (i6 (jb (au (jg (.fF 0)) (au (jg (.fF 0)) (au (ak 6) aZ))))) br) br) (aC (bZ (ba .Div (ak 5) (ak 3)) (bf 7)) (aC (bZ (ba .Div (ba .Sub (ak 3) (ak 0)) (ak 5)) (bf 8)) (aC (bZ (ba .Div (ba .Sub (ak 3) (ak 1)) (ak 5)) (bf 9)) (aC (bZ (ba .Div (ba .Sub (ak 3) (ak 2)) (ak 5)) (bf 10)) (aC (jz (bY .Eq (ak 0) (ak 3)) (aC (bZ (ba .Sub (ak 10) (ak 9)) (bf 11)) br) (aC (jz (bY .Eq (ak 1) (ak 3)) (aC (bZ (ba .Sub (ba .Add (jg (.fF 4611686018427387904)) (ak 8)) (ak 10)) (bf 11)) br) (aC (bZ (ba .Sub (ba .Add (jg (.fF 4616189618054758400)) (ak 9)) (ak 8)) (bf 11)) br)) br)) (aC (bZ (ba .Mod (ba .Div (ak 11) (jg (.fF 4618441417868443648))) (jg (.fF 4607182418800017408))) (bf 11)) (aC (i6 (jb (au (ak 11) (au (ak 7) (au (ak 6) aZ))))) br))))))))))))
def xa:List PV->Option PV:=mJ ["r", "g", "b"] ["maxc", "minc", "rangec", "v", "s", "rc", "gc", "bc", "h"] w9
def ER:jZ S 0 (nI oj ["r", "g", "b"] ["maxc", "minc", "rangec", "v", "s", "rc", "gc", "bc", "h"]) oj.body w9:=by walk_at "sd"
def Ui:hV S 1 oj xa:=hV.plain (.of 9 rfl rfl tt) ER (λpm=>WR λq q q=>rfl) tt
def xc:SF:=(aC (jz (bY .Eq (ak 1) (jg (.fF 0))) (aC (i6 (jb (au (ak 2) (au (ak 2) (au (ak 2) aZ))))) br) br) (aC (bZ (dJ afr (au (ba .Mult (ak 0) (jg (.fF 4618441417868443648))) aZ)) (bf 3)) (aC (bZ (ba .Sub (ba .Mult (ak 0) (jg (.fF 4618441417868443648))) (ak 3)) (bf 4)) (aC (bZ (ba .Mult (ak 2) (ba .Sub (jg (.fF 4607182418800017408)) (ak 1))) (bf 5)) (aC (bZ (ba .Mult (ak 2) (ba .Sub (jg (.fF 4607182418800017408)) (ba .Mult (ak 1) (ak 4)))) (bf 6)) (aC (bZ (ba .Mult (ak 2) (ba .Sub (jg (.fF 4607182418800017408)) (ba .Mult (ak 1) (ba .Sub (jg (.fF 4607182418800017408)) (ak 4))))) (bf 7)) (aC (bZ (ba .Mod (ak 3) ⇑6) (bf 3)) (aC (jz (bY .Eq (ak 3) ⇑0) (aC (i6 (jb (au (ak 2) (au (ak 7) (au (ak 5) aZ))))) br) br) (aC (jz (bY .Eq (ak 3) ⇑1) (aC (i6 (jb (au (ak 6) (au (ak 2) (au (ak 5) aZ))))) br) br) (aC (jz (bY .Eq (ak 3) ⇑2) (aC (i6 (jb (au (ak 5) (au (ak 2) (au (ak 7) aZ))))) br) br) (aC (jz (bY .Eq (ak 3) ⇑3) (aC (i6 (jb (au (ak 5) (au (ak 6) (au (ak 2) aZ))))) br) br) (aC (jz (bY .Eq (ak 3) ⇑4) (aC (i6 (jb (au (ak 7) (au (ak 5) (au (ak 2) aZ))))) br) br) (aC (jz (bY .Eq (ak 3) ⇑5) (aC (i6 (jb (au (ak 2) (au (ak 5) (au (ak 6) aZ))))) br) br) br)))))))))))))
def iw:List PV->Option PV:=mJ ["h", "s", "v"] ["i", "f", "p", "q", "t"] xc
def ES:jZ S 0 (nI om ["h", "s", "v"] ["i", "f", "p", "q", "t"]) om.body xc:=by walk_at "sd"
def Uj:hV S 1 om iw:=hV.plain (.of 10 rfl rfl tt) ES (λpm=>WR λq q q=>rfl) tt
noncomputable def peek {α:Type} (F:Addr->Option Obj) (n:Nat):zV α->Option α:=
 Kw (λq=>ac) (λq ih t=>if h:t.ctorIdx=0 then Sem.pure.elim t h aa else if h:t.ctorIdx=6 then Sem.load.elim t h λa q k=>(F a).bind λo=>ih (k o) else ac) n
def Lo (hF:∀a o,F a=aa o->s.heap.get? a=aa o) {v:α} (hQ:Q v s):∀ {t:zV α},peek F n t=aa v->wpAny M A t Q E s:=by
 induction n with
 |zero=>intro t h;exact(y7 h).elim
 |succ n ih=>
  intro t h;induction t with
  |pure a=>obtain rfl:=ag h;exact aR hQ
  |load a p k=>let ⟨o,e,h'⟩:=aG.mp h;exact am (m:=loadPart a p) (f:=k) (wpAny_loadPart (hF _ _ e) (ih h'))
  |_=>exact(y7 h).elim
noncomputable def two (T K:Addr) (o p:Obj) (a:Addr):Option Obj:=if a=T then aa o else if a=K then aa p else ac
def Yd {h:iQ} (h1:h.get? T=aa o) (h2:h.get? K=aa p) (a:Addr) (x:Obj) (e:two T K o p a=aa x):h.get? a=aa x:=by
 unfold two at e;by_cases q:a=T
 ·rw[if_pos q]at e;rw[q,h1,e]
 ·rw[if_neg q]at e;let ⟨r,rfl⟩:=dT e;rw[r,h2]
def sm (S:cz) (k:Nat) (pD:List AO) (key:AV) (g:PV->Option Int):Prop:=∀O,(∀i,i< ↑pD->O[i]? =pD[i]?)->∀d i,g d=aa i->dy S k O key [.pv d] [] (.pv (.int i)) O
inductive qk:AV->Prop
 |mk {args:Arguments} {body:Expr} {scope:Scope} {cells:Sn}:qk (.tm args body scope cells)
def qk.fn (hc:qk d) (h:cT w c n v d):∃a o fd,v= .ref a/\c.F a=aa o/\o.cls= .type "function" /\o.data= .func fd:=by cases hc;obtain(⟨_,rfl,⟨h1,h2,h3⟩,_⟩):=h.XW;exact⟨_,_,_,rfl,h1,h2,h3⟩
def Ev.pn (hfx:f= .Name x np) (hk:qk key) (hf:Ev S k O ae f key O) (ha:ck S k O ae args ds) (hc:dy S k O key ds [] d bv):Ev S k O ae (.Call f args [] pos) d bv:=by subst hfx;refine⟨hc.len,λA c s env hA hE R E Q hQ=> ?_⟩;refine cn (hf.run A c s env hA hE R _ _ λc1 v1 s1 l1 R1 K1 a1=> ?_);left;let ⟨a,o,fd,rfl,ho,_,hd⟩:=hk.fn a1;right;refine fJ (o:=o) (fd:=fd) ?_;refine eg ha _ pos A c1 s1 env hA (hE.mono l1 (ab _)) R1 _ _ λc2 vs s2 l2 R2 K2 a2=>⟨⟨R2.frozen _ _ (l2.F _ _ ho),hd⟩,?_⟩;exact hc.run A c2 s2 _ vs [] hA R2 (a1.mono l2 (ab _)) a2 rfl .nil E Q λc3 v3 s3 l3 R3 K3 a3=>hQ c3 v3 s3 ((l1.trans l2 (ab _)).trans l3 (ab _)) R3 ((K1.trans K2).trans K3) a3
def zJ.qT (hk:qk d):zJ O (compareOp .Is) d (.pv PV.none) (PV.bool false):=by intro S k A c s u v hA R ha hb E Q hQ;let ⟨a,o,fd,rfl,ho,_,hd⟩:=hk.fn ha;have e:=hb.dn;subst e;exact nQ rfl (hQ c _ _ (.refl ..) R (.refl ..) (.pv (.con ..)))
def te:pP cQ.scope [sA,sX,oR,oS,gp,sQ]:=pP.of tt
def GP:ma cQ.scope [afe]:=ma.of tt
def MY {ns:List Int} {lo:Nat} (hl:IsL O d (ns.map PV.int)) (hn: ↑ns<2 ^ 30) (D6:lo<= ↑ns) (H0:∀h,hi=aa h->h<= ↑ns):
  ∃τ,cG S k (O++[AO.ns [(sA,aa d),(sX,~~~(.int x)),(oR,~~~(.int lo)),(oS,~~~(La hi)),(gp,~~~PV.none),(sQ,ac)]])
   (cQ.env (↑O+0)) cQ.body (.ret (.pv (.int (o8 (λm=> !decide (x<ns.getD m 0)) ↑ns lo (hi.getD ↑ns) ac).1))) (O++τ):=by
 have h1:=te;have h2:=GP;apply fX;apply cG.cons
 ·walk_at "f";exact cG.nil
 apply cG.cons (bw:=O++[AO.ns (CH d (.pv (.int x)) lo (hi.getD ↑ns:Nat) (.pv PV.none) ac)])
 ·induction hi with
  |none=>
   dsimp only[La];walk_at "g";apply cG.cons
   ·apply iW.assign
    ·apply Ev.wM
     ·walk_at "b"
     ·apply ck.cons
      ·walk_at "b"
      ·exact .nil
      ·rfl
     ·apply y8.len_list (l:=ns.map PV.int)
      ·cases hl with
       |val=>exact .val
       |fM h=>exact .fM (gA h)
      ·rw[aw];exact aaN hn
    ·apply jY.AM h1
     ·rfl
     ·walk_at "a"
     ·walk_at "e"
     ·walk_at "c"
     ·walk_at "d"
    ·intro _ _;rfl
   ·rw[aw];exact cG.nil
  |some h=>dsimp only[La];walk_at "f";exact cG.nil
 have cH:∀i,i< ↑ns->(ns.map PV.int)[i]? =aa (.int (ns.getD i 0)):=by intro i hi;simp[hi]
 apply cG.cons
 ·walk_at "g";apply cG.cons
  ·apply iW.KU;apply wO (p:=λm=> !decide (x<ns.getD m 0)) (N:= ↑ns) (n:= ↑ns)
   ·intro lo hi mid;walk_at "i"
   ·intro lo hi mid h3 h4;have hm:=cH ((lo+hi)/2) (IM h3 h4);apply cG.cons
    ·walk_at "l"
    cases hc:decide (x<ns.getD ((lo+hi)/2) 0)with
    |true=>
     rw[if_neg ∅];apply cG.cons
     ·walk_at "g";walk_at "h"
     ·exact cG.nil
    |false=>
     rw[if_pos tt];apply cG.cons
     ·walk_at "f";walk_at "h"
     ·exact cG.nil
   ·induction hi with
    |none=>simp
    |some h=>have:=H0 h rfl;simp;exact Mt this
   ·induction hi with
    |none=>simp
    |some h=>have:=H0 h rfl;simpa using this
  ·exact cG.nil
 walk_at "h"
def pq:∀i,i< ↑O->(O++[x])[i]? =O[i]? :=λi hi=>aW hi
def I6 {ns:List Int} {lo:Nat} (hk:qk key) (hg:sm S k O key g) (hl:IsL O d l) (tU:∀(i:Nat) (y:PV),l[i]? =aa y->g y=aa (ns.getD i 0)) (cH: ↑ns= ↑l) (hn: ↑ns<2 ^ 30) (D6:lo<= ↑ns) (H0:∀h,hi=aa h->h<= ↑ns):
  ∃τ,cG S k (O++[.ns [(sA,aa d),(sX,~~~(.int x)),(oR,~~~(.int lo)),(oS,~~~(La hi)),(gp,aa key),(sQ,ac)]])
   (rB.env (↑O+0)) rB.body (.ret (.pv (.int (o8 (λm=>decide (ns.getD m 0<x)) ↑ns lo (hi.getD ↑ns) ac).1))) (O++τ):=by
 have h1:=sR;have h2:=Gn;apply fX;apply cG.cons
 ·walk_at "f";exact cG.nil
 apply cG.cons (bw:=O++[.ns (CH d (.pv (.int x)) lo (hi.getD ↑ns:Nat) key ac)])
 ·induction hi with
  |none=>
   dsimp only[La];walk_at "g";apply cG.cons
   ·apply iW.assign
    ·apply Ev.wM
     ·walk_at "b"
     ·apply ck.cons
      ·walk_at "b"
      ·exact .nil
      ·rfl
     ·apply y8.len_list (l:=l)
      ·exact hl.Cv
      ·exact VZ hn cH
    ·apply jY.AM h1
     ·rfl
     ·walk_at "a"
     ·walk_at "e"
     ·walk_at "c"
     ·walk_at "d"
    ·intro _ _;rfl
   ·exact cH▸cG.nil
  |some h=>dsimp only[La];walk_at "f";exact cG.nil
 have hit:∀i,i< ↑ns->∃y,l[i]? =aa y/\g y=aa (ns.getD i 0):=by
  intro i hi;have H3:i< ↑l:=by exact IO hi cH
  exact⟨l[i],aq H3,tU i _ (aq H3)⟩
 apply cG.cons
 ·apply iW.if (b:=false)
  ·apply ou.jq
   ·walk_at "b"
   ·walk_at "b"
   ·exact zJ.qT hk
   ·rfl
  apply cG.cons
  ·apply iW.KU;apply wO (p:=λm=>decide (ns.getD m 0<x)) (N:= ↑ns) (n:= ↑ns)
   ·intro lo hi mid;walk_at "i"
   ·intro lo hi mid h3 h4;let ⟨y,hm,hgy⟩:=hit ((lo+hi)/2) (IM h3 h4);apply cG.cons
    ·walk_at "l"
    cases hc:decide (ns.getD ((lo+hi)/2) 0<x)with
    |true=>
     rw[if_pos rfl];apply cG.cons
     ·apply iW.if (b:=true)
      ·apply ou.to
       ·apply ou.compare
        ·apply Ev.pn rfl hk
         ·walk_at "b"
         ·apply ck.cons
          ·walk_at "b"
          ·exact .nil
          ·rfl
         ·exact hg _ pq y _ hgy
        ·walk_at "b"
        ·walk_at "m"
        ·rfl
       ·exact hc
      walk_at "h"
     ·exact cG.nil
    |false=>
     rw[if_neg bF];apply cG.cons
     ·apply iW.if (b:=false)
      ·apply ou.to
       ·apply ou.compare
        ·apply Ev.pn rfl hk
         ·walk_at "b"
         ·apply ck.cons
          ·walk_at "b"
          ·exact .nil
          ·rfl
         ·exact hg _ pq y _ hgy
        ·walk_at "b"
        ·walk_at "m"
        ·rfl
       ·exact hc
      walk_at "h"
     ·exact cG.nil
   ·induction hi with
    |none=>simp
    |some h=>have:=H0 h rfl;simp;exact Mt this
   ·induction hi with
    |none=>simp
    |some h=>have:=H0 h rfl;simpa using this
  ·exact cG.nil
 walk_at "h"
def I7 {ns:List Int} {lo:Nat} (hk:qk key) (hg:sm S k O key g) (hl:IsL O d l) (tU:∀(i:Nat) (y:PV),l[i]? =aa y->g y=aa (ns.getD i 0)) (cH: ↑ns= ↑l) (hn: ↑ns<2 ^ 30) (D6:lo<= ↑ns) (H0:∀h,hi=aa h->h<= ↑ns):
  ∃τ,cG S k (O++[.ns [(sA,aa d),(sX,~~~(.int x)),(oR,~~~(.int lo)),(oS,~~~(La hi)),(gp,aa key),(sQ,ac)]])
   (cQ.env (↑O+0)) cQ.body (.ret (.pv (.int (o8 (λm=> !decide (x<ns.getD m 0)) ↑ns lo (hi.getD ↑ns) ac).1))) (O++τ):=by
 have h1:=te;have h2:=GP;apply fX;apply cG.cons
 ·walk_at "f";exact cG.nil
 apply cG.cons (bw:=O++[.ns (CH d (.pv (.int x)) lo (hi.getD ↑ns:Nat) key ac)])
 ·induction hi with
  |none=>
   dsimp only[La];walk_at "g";apply cG.cons
   ·apply iW.assign
    ·apply Ev.wM
     ·walk_at "b"
     ·apply ck.cons
      ·walk_at "b"
      ·exact .nil
      ·rfl
     ·apply y8.len_list (l:=l)
      ·exact hl.Cv
      ·exact VZ hn cH
    ·apply jY.AM h1
     ·rfl
     ·walk_at "a"
     ·walk_at "e"
     ·walk_at "c"
     ·walk_at "d"
    ·intro _ _;rfl
   ·exact cH▸cG.nil
  |some h=>dsimp only[La];walk_at "f";exact cG.nil
 have hit:∀i,i< ↑ns->∃y,l[i]? =aa y/\g y=aa (ns.getD i 0):=by
  intro i hi;have H3:i< ↑l:=by exact IO hi cH
  exact⟨l[i],aq H3,tU i _ (aq H3)⟩
 apply cG.cons
 ·apply iW.if (b:=false)
  ·apply ou.jq
   ·walk_at "b"
   ·walk_at "b"
   ·exact zJ.qT hk
   ·rfl
  apply cG.cons
  ·apply iW.KU;apply wO (p:=λm=> !decide (x<ns.getD m 0)) (N:= ↑ns) (n:= ↑ns)
   ·intro lo hi mid;walk_at "i"
   ·intro lo hi mid h3 h4;let ⟨y,hm,hgy⟩:=hit ((lo+hi)/2) (IM h3 h4);apply cG.cons
    ·walk_at "l"
    cases hc:decide (x<ns.getD ((lo+hi)/2) 0)with
    |true=>
     rw[if_neg ∅];apply cG.cons
     ·apply iW.if (b:=true)
      ·apply ou.to
       ·apply ou.compare
        ·walk_at "b"
        ·apply Ev.pn rfl hk
         ·walk_at "b"
         ·apply ck.cons
          ·walk_at "b"
          ·exact .nil
          ·rfl
         ·exact hg _ pq y _ hgy
        ·walk_at "m"
        ·rfl
       ·exact hc
      walk_at "h"
     ·exact cG.nil
    |false=>
     rw[if_pos tt];apply cG.cons
     ·apply iW.if (b:=false)
      ·apply ou.to
       ·apply ou.compare
        ·walk_at "b"
        ·apply Ev.pn rfl hk
         ·walk_at "b"
         ·apply ck.cons
          ·walk_at "b"
          ·exact .nil
          ·rfl
         ·exact hg _ pq y _ hgy
        ·walk_at "m"
        ·rfl
       ·exact hc
      walk_at "h"
     ·exact cG.nil
   ·induction hi with
    |none=>simp
    |some h=>have:=H0 h rfl;simp;exact Mt this
   ·induction hi with
    |none=>simp
    |some h=>have:=H0 h rfl;simpa using this
  ·exact cG.nil
 walk_at "h"
def dg.snoc (h:dg w c n vs ds) (a:cT w c n v d):dg w c n (vs++[v]) (ds++[d]):=by
 induction h with
 |nil=>exact .cons a .nil
 |cons b _ ih=>exact .cons b ih
inductive GQ (t:C6):List Value->Value->Value->Prop
 |two:GQ t [] (.int 0 t) .none
 |three {lo:Value}:GQ t [lo] lo .none
 |four {lo hi:Value}:GQ t [lo,hi] lo hi
structure nJ (r:eh):Prop where
 mem:r∈fV
 tk:∃T∈[187,196,205,214],∃K∈[188,197,206,215],∀(pm a x kv:Value) (c d t n sl c' d' hs t' n' sl') (tl:Vs) (lo hi:Value),GQ t tl lo hi->
  peek (two T K (dfT c d t n sl) (dfK c' d' hs t' n' sl')) 9 (bindArgs (r.fd pm) ⟨a::x::tl,[]⟩)=aa [(sA,a),(sX,x),(oR,lo),(oS,hi),(gp,.none)]/\
  peek (two T K (dfT c d t n sl) (dfK c' d' hs t' n' sl')) 9 (bindArgs (r.fd pm) ⟨a::x::tl,[(gp,kv)]⟩)=aa [(sA,a),(sX,x),(oR,lo),(oS,hi),(gp,kv)]
def pu:nJ fk:=⟨by unfold fV;walk_at "a",214,by decide,215,by decide,λq q q q q q q q q q q q q q q q q q h=>by cases h<;>exact⟨by kernel_rfl,by kernel_rfl⟩⟩
def pz:nJ cQ:=⟨by unfold fV;walk_at "a",196,by decide,197,by decide,λq q q q q q q q q q q q q q q q q q h=>by cases h<;>exact⟨by kernel_rfl,by kernel_rfl⟩⟩
def th:nJ dQ:=⟨by unfold fV;walk_at "a",205,by decide,206,by decide,λq q q q q q q q q q q q q q q q q q h=>by cases h<;>exact⟨by kernel_rfl,by kernel_rfl⟩⟩
def qU:nJ cP:=⟨by unfold fV;walk_at "a",187,by decide,188,by decide,λq q q q q q q q q q q q q q q q q q h=>by cases h<;>exact⟨by kernel_rfl,by kernel_rfl⟩⟩
inductive mU:List AV->AV->AV->Prop
 |two:mU [] (.pv (.int 0)) (.pv PV.none)
 |three {lo:AV}:mU [lo] lo (.pv PV.none)
 |four {lo hi:AV}:mU [lo,hi] lo hi
def mU.vals (ht:mU tl lo hi) (hv:dg w c n vs tl) (t:C6):∃u v,GQ t vs u v/\cT w c n u lo/\cT w c n v hi:=by
 induction ht with
 |two=>obtain rfl:=hv.i0;exact⟨_,_,.two,.pv (.int ..),.pv (.con _)⟩
 |three=>let ⟨_,_,rfl,a,h1⟩:=hv.i1;obtain rfl:=h1.i0;exact⟨_,_,.three,a,.pv (.con _)⟩
 |four=>let ⟨_,_,rfl,a,h1⟩:=hv.i1;let ⟨_,_,rfl,b,h2⟩:=h1.i1;obtain rfl:=h2.i0;exact⟨_,_,.four,a,b⟩
def Lp:∀T∈[187,196,205,214,188,197,206,215],∀q∈cm,T≠q.2:=by decide
def nJ.PU (hr:nJ r) (ht:mU tl lo hi) (pm kv:Value) (R:Rel S c O s.heap) (hv:dg S.w c ↑O vs (a::x::tl)):
  ∃va vx u v,dg S.w c ↑O [va,vx,u,v] [a,x,lo,hi]/\BindsTo s (r.fd pm) ⟨vs,[]⟩ [(sA,va),(sX,vx),(oR,u),(oS,v),(gp,.none)]/\BindsTo s (r.fd pm) ⟨vs,[(gp,kv)]⟩ [(sA,va),(sX,vx),(oR,u),(oS,v),(gp,kv)]:=by
 left;let ⟨T,hT,K,hK,h⟩:=hr.tk;let ⟨⟨c0,d0,_,sl0⟩,n0,t0,ho,hd⟩:=S.Z9 T hT;let ⟨c1,d1,Zy,t1,n1,sl1,hk⟩:=S.N1 K hK;let ⟨va,_,rfl,h1,hv1⟩:=hv.i1;let ⟨vx,_,rfl,h2,hv2⟩:=hv1.i1;let ⟨u,v,h3,h4,h5⟩:=ht.vals hv2 t0;dsimp only at hd;subst hd;have hF:=Yd (R.old ho (Lp T (show T∈[187,196,205,214]++[188,197,206,215] from fu _ hT))) (R.old hk (Lp K (show K∈[187,196,205,214]++[188,197,206,215] from dS _ hK)));have h6:=h pm va vx kv c0 d0 t0 n0 sl0 c1 d1 Zy t1 n1 sl1 _ _ _ h3;exact kG ⟨va,vx,u,v,.cons h1 (.cons h2 (.cons h4 (.cons h5 .nil))),λq q q q hQ=>Lo hF hQ h6.1,λq q q q hQ=>Lo hF hQ h6.2⟩
def nJ.binds (hr:nJ r) (ht:mU tl lo hi) (pm:Value):jE S O (r.fd pm) (a::x::tl) [] [(sA,a),(sX,x),(oR,lo),(oS,hi),(gp,.pv PV.none)]:=by intro c s vs kvs R hv hk _;obtain rfl:=Ou.mp hk;let ⟨va,vx,u,v,h,b,_⟩:=hr.PU ht pm .none R hv;exact⟨[(sA,va),(sX,vx),(oR,u),(oS,v),(gp,.none)],rfl,h.snoc (v:= .none) (.pv (.con _)),b⟩
def nJ.yo (hr:nJ r) (ht:mU tl lo hi) (pm:Value):jE S O (r.fd pm) (a::x::tl) [(gp,key)] [(sA,a),(sX,x),(oR,lo),(oS,hi),(gp,key)]:=by
 intro c s vs kvs R hv hk HZ;obtain⟨⟨y,vk⟩,kvs,rfl⟩:∃p r,kvs=p::r:=by induction kvs with|nil=>nomatch hk|cons p r=>exact⟨p,r,rfl⟩
 let ⟨hy,Ie⟩:=jH hk;obtain rfl:=Ou.mp Ie;obtain rfl:y=gp:=hy;let ⟨_,_,e,h5,_⟩:=HZ.i1;let ⟨rfl,_⟩:=jH e;let ⟨va,vx,u,v,h,_,b⟩:=hr.PU ht pm vk R hv;exact⟨[(sA,va),(sX,vx),(oR,u),(oS,v),(gp,vk)],rfl,h.snoc (v:=vk) h5,b⟩
noncomputable def Ye (right:Bool) (ns:List Int) (x:Int) (m:Nat):Bool:=if right then !decide (x<ns.getD m 0) else decide (ns.getD m 0<x)
def my (right:Bool) (ns:List Int) (x:Int) (lo:Nat) (hi:Option Nat):Nat:=(o8 (Ye right ns x) ↑ns lo (hi.getD ↑ns) ac).1
def I8 (right:Bool):eh:=if right then cQ else fk
def PW (right:Bool):eh:=if right then cP else dQ
def Lq (right:Bool):nJ (I8 right):=by cases right;exact pu;exact pz
def Lr (right:Bool):nJ (PW right):=by cases right;exact th;exact qU
def lk (h:pP sc l) (l':List Str) (hs:l'.all (λx=>l.any λy=>x==y)=true):∀x∈l',sc.names.lookup x=aa .local:=λx hx=>by
 have:=fI.mp hs x hx;let ⟨y,hy,e⟩:=AD.mp this;have e':x=y:=by simpa using e
 exact e'▸(h y hy)
def dy.Yg (right:Bool) {lo:Nat} (hl:IsL O d (ns.map PV.int)) (hn: ↑ns<2 ^ 30) (D6:lo<= ↑ns) (H0:∀h,hi=aa h->h<= ↑ns)
  (ht:mU tl (.pv (.int lo)) (.pv (La hi))):dy S (k+1) O (.pv (.con (.ref (I8 right).addr))) (d:: .pv (.int x)::tl) [] (.pv (.int (my right ns x lo hi))) O:=by
 induction right with
 |false=>obtain(⟨τ,hb⟩):=MB (S:=S) (k:=k) (x:=x) hl hn D6 H0;exact dy.def (r:=fk) (.of 3 rfl rfl rfl) (others:=[sQ]) (λpm=>pu.binds ht pm) (lk sR [sA,sX,oR,oS,gp] ∅) rfl hb rfl (λi x h=> .inl h) .pv
 |true=>obtain(⟨τ,hb⟩):=MY (S:=S) (k:=k) (x:=x) hl hn D6 H0;exact dy.def (r:=cQ) (.of 1 rfl rfl rfl) (others:=[sQ]) (λpm=>pz.binds ht pm) (lk te [sA,sX,oR,oS,gp] ∅) rfl hb rfl (λi x h=> .inl h) .pv
def dy.Uk (right:Bool) {lo:Nat} (hk:qk key) (hg:sm S k O key g) (hl:IsL O d l) (tU:∀(i:Nat) (y:PV),l[i]? =aa y->g y=aa (ns.getD i 0)) (cH: ↑ns= ↑l) (hn: ↑ns<2 ^ 30) (D6:lo<= ↑ns) (H0:∀h,hi=aa h->h<= ↑ns)
  (ht:mU tl (.pv (.int lo)) (.pv (La hi))):dy S (k+1) O (.pv (.con (.ref (I8 right).addr))) (d:: .pv (.int x)::tl) [(gp,key)] (.pv (.int (my right ns x lo hi))) O:=by
 induction right with
 |false=>obtain(⟨τ,hb⟩):=I6 (S:=S) (k:=k) (x:=x) hk hg hl tU cH hn D6 H0;exact dy.def (r:=fk) (.of 3 rfl rfl rfl) (others:=[sQ]) (λpm=>pu.yo ht pm) (lk sR [sA,sX,oR,oS,gp] ∅) rfl hb rfl (λi x h=> .inl h) .pv
 |true=>obtain(⟨τ,hb⟩):=I7 (S:=S) (k:=k) (x:=x) hk hg hl tU cH hn D6 H0;exact dy.def (r:=cQ) (.of 1 rfl rfl rfl) (others:=[sQ]) (λpm=>pz.yo ht pm) (lk te [sA,sX,oR,oS,gp] ∅) rfl hb rfl (λi x h=> .inl h) .pv
def Ev.uk {id:String} (KD:Slot "list" name id) (hty:typeOf (.builtin id)=pure (.type "method_descriptor"))
  (h:Ev S k O ae o d O) (hl:IsL O d l) (ha:ck S k O ae args ds) (hv:nk S k O (.builtin id) (d::ds) r bv) (ik:∀env,attributeBase o name env (eval o env)=eval o env) (gC:(jw.endLine==pos.line)=true) (hn: ↑args<30):
  Ev S k O ae (.Call (.Attribute o name jw) args [] pos) r bv:=by
 refine⟨hv.len,λA c s env hA hE R E Q hQ=> ?_⟩;refine eK (ik env) (A3 ha pos env hn) gC (h.run A c s env hA hE R _ _ λc1 v1 s1 l1 R1 K1 a1=> ?_);left;let ⟨a,vs,m,rfl,ho,hs,_⟩:=hl.at R1 a1;right;refine⟨"list",id,F.plainAttrs_list,KD,hty,⟨_,ho,rfl⟩,λb e=>by cases e;exact⟨_,ho,rfl⟩,cX (noStar ha pos env) ?_⟩;refine eg ha _ pos A c1 s1 env hA (hE.mono l1 (ab _)) R1 _ _ λc2 vs s2 l2 R2 K2 a2=> ?_;exact hv.run A c2 s2 (_::vs) hA R2 (.cons (a1.mono l2 (ab _)) a2) E Q λc3 v3 s3 l3 R3 K3 a3=>hQ c3 v3 s3 ((l1.trans l2 (ab _)).trans l3 (ab _)) R3 ((K1.trans K2).trans K3) a3
def ti:pP dQ.scope [sA,sX,oR,oS,gp]:=pP.of tt
def tj:pP cP.scope [sA,sX,oR,oS,gp]:=pP.of tt
def PX (p:Nat->Bool) (n:Nat):∀(lo hi:Nat) (m:Option AV),lo<=hi->(o8 p n lo hi m).1<=hi:=by
 induction n with
 |zero=>intro lo hi m h;exact h
 |succ n ih=>
  intro lo hi m h;rw[Es];by_cases h1:lo<hi
  ·rw[if_pos h1];by_cases h2:p ((lo+hi)/2)=true
   ·rw[if_pos h2];exact ih _ _ _ (abI h1)
   ·rw[if_neg h2];exact aA (ih _ _ _ (abJ h1)) (abK h1)
  ·rw[if_neg h1];exact h
def xd (right:Bool) (ns:List Int) (x:Int):my right ns x 0 ac<= ↑ns:=PX _ _ _ _ _ (cI _)
def Bg:ma dQ.scope [ah "bisect_left"]:=ma.of tt
def MZ (hi:O[i]? =aa (.list (ns.map PV.int))) (hn: ↑ns<100000):
  ∃τ,cG S (k+1) (O++[.ns [(sA,aa (.fM i)),(sX,~~~(.int x)),(oR,~~~(.int 0)),(oS,~~~PV.none),(gp,~~~PV.none)]])
   (dQ.env (↑O+0)) dQ.body .next (O.set i (.list (uL (my false ns x 0 ac) (.int x) (ns.map PV.int)))++τ):=by
 have h1:=ti;have h2:=Bg;have hl:IsL O (.fM i) (ns.map PV.int):= .fM hi;apply fX;apply cG.cons (bw:=O++[.ns [(sA,aa (.fM i)),(sX,~~~(.int x)),(oR,~~~(.int (my false ns x 0 ac))),(oS,~~~PV.none),(gp,~~~PV.none)]])
 ·walk_at "g";apply cG.cons
  ·apply iW.assign
   ·apply Ev.l8 (r:=fk) pu.mem
    ·apply Ev.CG (by assumption)
     ·rfl
     ·walk_at "a"
     ·show(_,aa (eM 222))∈cg;unfold cg;walk_at "a"
     ·rfl
    ·apply ck.cons
     ·walk_at "b"
     ·apply ck.cons
      ·walk_at "b"
      ·apply ck.cons
       ·walk_at "b"
       ·apply ck.cons
        ·walk_at "b"
        ·exact .nil
        ·rfl
       ·rfl
      ·rfl
     ·rfl
    ·exact .nil
    ·exact dy.Yg (S:=S) (k:=k) false (lo:=0) (hi:=ac) hl.Cv (KJ hn) (cI _) (λq h=>by cases h) .four
   ·apply jY.AM h1
    ·rfl
    ·walk_at "a"
    ·walk_at "e"
    ·walk_at "c"
    ·walk_at "d"
   ·intro _ _;rfl
  ·exact cG.nil
 apply cG.cons
 ·apply iW.expr
  ·apply Ev.uk (id:= "list.insert") F.slot_list_insert F.type_list_insert
   ·walk_at "b"
   ·exact hl.Cv
   ·apply ck.cons
    ·walk_at "b"
    ·apply ck.cons
     ·walk_at "b"
     ·exact .nil
     ·rfl
    ·rfl
   ·exact nk.insert rfl (gA hi) (by rw[aw];exact V0 hn) (by rw[aw];exact xd ..)
   ·intro _;rfl
   ·rfl
   ·decide
  ·exact pp
 rw[kB _ _ (getElem?_lt' hi)];exact cG.nil
def GR:ma cP.scope [ah "bisect_right"]:=ma.of tt
def M0 (hi:O[i]? =aa (.list (ns.map PV.int))) (hn: ↑ns<100000):
  ∃τ,cG S (k+1) (O++[AO.ns [(sA,aa (.fM i)),(sX,~~~(.int x)),(oR,~~~(.int 0)),(oS,~~~PV.none),(gp,~~~PV.none)]])
   (cP.env (↑O+0)) cP.body .next (O.set i (.list (uL (my true ns x 0 ac) (.int x) (ns.map PV.int)))++τ):=by
 have h1:=tj;have h2:=GR;have hl:IsL O (.fM i) (ns.map PV.int):= .fM hi;apply fX;apply cG.cons (bw:=O++[AO.ns [(sA,aa (.fM i)),(sX,~~~(.int x)),(oR,~~~(.int (my true ns x 0 ac))),(oS,~~~PV.none),(gp,~~~PV.none)]])
 ·walk_at "g";apply cG.cons
  ·apply iW.assign
   ·apply Ev.l8 (r:=cQ) pz.mem
    ·apply Ev.CG (by assumption)
     ·rfl
     ·walk_at "a"
     ·show(_,aa (eM 204))∈cg;unfold cg;walk_at "a"
     ·rfl
    ·apply ck.cons
     ·walk_at "b"
     ·apply ck.cons
      ·walk_at "b"
      ·apply ck.cons
       ·walk_at "b"
       ·apply ck.cons
        ·walk_at "b"
        ·exact .nil
        ·rfl
       ·rfl
      ·rfl
     ·rfl
    ·exact .nil
    ·exact dy.Yg (S:=S) (k:=k) true (lo:=0) (hi:=ac) hl.Cv (KJ hn) (cI _) (λq h=>by cases h) .four
   ·apply jY.AM h1
    ·rfl
    ·walk_at "a"
    ·walk_at "e"
    ·walk_at "c"
    ·walk_at "d"
   ·intro _ _;rfl
  ·exact cG.nil
 apply cG.cons
 ·apply iW.expr
  ·apply Ev.uk (id:= "list.insert") F.slot_list_insert F.type_list_insert
   ·walk_at "b"
   ·exact hl.Cv
   ·apply ck.cons
    ·walk_at "b"
    ·apply ck.cons
     ·walk_at "b"
     ·exact .nil
     ·rfl
    ·rfl
   ·exact nk.insert rfl (gA hi) (by rw[aw];exact V0 hn) (by rw[aw];exact xd ..)
   ·intro _;rfl
   ·rfl
   ·decide
  ·exact pp
 rw[kB _ _ (getElem?_lt' hi)];exact cG.nil
def I9 (hk:qk key) (hg:sm S k O key g) (hi:O[i]? =aa (.list l)) (tU:∀(j:Nat) (z:PV),l[j]? =aa z->g z=aa (ns.getD j 0)) (cH: ↑ns= ↑l) (hn: ↑ns<100000) (hx:g y=aa x):
  ∃τ,cG S (k+1) (O++[AO.ns [(sA,aa (.fM i)),(sX,~~~y),(oR,~~~(.int 0)),(oS,~~~PV.none),(gp,aa key)]])
   (dQ.env (↑O+0)) dQ.body .next (O.set i (.list (uL (my false ns x 0 ac) y l))++τ):=by
 have h1:=ti;have h2:=Bg;have hl:IsL O (.fM i) l:= .fM hi;have wj:sm S k (O++[AO.ns [(sA,aa (.fM i)),(sX,~~~y),(oR,~~~(.int 0)),(oS,~~~PV.none),(gp,aa key)]]) key g:=λbv h' d j hd=>hg bv (λj hj=>(h' j (by rw[aj];exact om6 hj)).trans (pq j hj)) d j hd;apply fX;apply cG.cons (bw:=O++[AO.ns [(sA,aa (.fM i)),(sX,~~~y),(oR,~~~(.int (my false ns x 0 ac))),(oS,~~~PV.none),(gp,aa key)]])
 ·apply iW.if (b:=false)
  ·apply ou.jq
   ·walk_at "b"
   ·walk_at "b"
   ·exact zJ.qT hk
   ·rfl
  apply cG.cons
  ·apply iW.assign
   ·apply Ev.l8 (r:=fk) pu.mem
    ·apply Ev.CG (by assumption)
     ·rfl
     ·walk_at "a"
     ·show(_,aa (eM 222))∈cg;unfold cg;walk_at "a"
     ·rfl
    ·apply ck.cons
     ·walk_at "b"
     ·apply ck.cons
      ·apply Ev.AW (k:=k)
       ·apply Ev.pn rfl hk
        ·walk_at "b"
        ·apply ck.cons
         ·walk_at "b"
         ·exact .nil
         ·rfl
        ·exact wj _ (λq q=>rfl) y _ hx
       ·exact Gg
      ·apply ck.cons
       ·walk_at "b"
       ·apply ck.cons
        ·walk_at "b"
        ·exact .nil
        ·rfl
       ·rfl
      ·rfl
     ·rfl
    ·apply o7.cons
     ·walk_at "b"
     ·exact .nil
    ·exact dy.Uk (S:=S) (k:=k) false (lo:=0) (hi:=ac) hk wj hl.Cv tU cH (KJ hn) (cI _) (λq h=>by cases h) .four
   ·apply jY.AM h1
    ·rfl
    ·walk_at "a"
    ·walk_at "e"
    ·walk_at "c"
    ·walk_at "d"
   ·intro _ _;rfl
  ·exact cG.nil
 apply cG.cons
 ·apply iW.expr
  ·apply Ev.uk (id:= "list.insert") F.slot_list_insert F.type_list_insert
   ·walk_at "b"
   ·exact hl.Cv
   ·apply ck.cons
    ·walk_at "b"
    ·apply ck.cons
     ·walk_at "b"
     ·exact .nil
     ·rfl
    ·rfl
   ·exact nk.insert rfl (gA hi) (V1 hn cH) (cH▸(xd ..))
   ·intro _;rfl
   ·rfl
   ·decide
  ·exact pp
 rw[kB _ _ (getElem?_lt' hi)];exact cG.nil
def Ja (hk:qk key) (hg:sm S k O key g) (hi:O[i]? =aa (.list l)) (tU:∀(j:Nat) (z:PV),l[j]? =aa z->g z=aa (ns.getD j 0)) (cH: ↑ns= ↑l) (hn: ↑ns<100000) (hx:g y=aa x):
  ∃τ,cG S (k+1) (O++[AO.ns [(sA,aa (.fM i)),(sX,~~~y),(oR,~~~(.int 0)),(oS,~~~PV.none),(gp,aa key)]])
   (cP.env (↑O+0)) cP.body .next (O.set i (.list (uL (my true ns x 0 ac) y l))++τ):=by
 have h1:=tj;have h2:=GR;have hl:IsL O (.fM i) l:= .fM hi;have wj:sm S k (O++[AO.ns [(sA,aa (.fM i)),(sX,~~~y),(oR,~~~(.int 0)),(oS,~~~PV.none),(gp,aa key)]]) key g:=λbv h' d j hd=>hg bv (λj hj=>(h' j (by rw[aj];exact om6 hj)).trans (pq j hj)) d j hd;apply fX;apply cG.cons (bw:=O++[AO.ns [(sA,aa (.fM i)),(sX,~~~y),(oR,~~~(.int (my true ns x 0 ac))),(oS,~~~PV.none),(gp,aa key)]])
 ·apply iW.if (b:=false)
  ·apply ou.jq
   ·walk_at "b"
   ·walk_at "b"
   ·exact zJ.qT hk
   ·rfl
  apply cG.cons
  ·apply iW.assign
   ·apply Ev.l8 (r:=cQ) pz.mem
    ·apply Ev.CG (by assumption)
     ·rfl
     ·walk_at "a"
     ·show(_,aa (eM 204))∈cg;unfold cg;walk_at "a"
     ·rfl
    ·apply ck.cons
     ·walk_at "b"
     ·apply ck.cons
      ·apply Ev.AW (k:=k)
       ·apply Ev.pn rfl hk
        ·walk_at "b"
        ·apply ck.cons
         ·walk_at "b"
         ·exact .nil
         ·rfl
        ·exact wj _ (λq q=>rfl) y _ hx
       ·exact Gg
      ·apply ck.cons
       ·walk_at "b"
       ·apply ck.cons
        ·walk_at "b"
        ·exact .nil
        ·rfl
       ·rfl
      ·rfl
     ·rfl
    ·apply o7.cons
     ·walk_at "b"
     ·exact .nil
    ·exact dy.Uk (S:=S) (k:=k) true (lo:=0) (hi:=ac) hk wj hl.Cv tU cH (KJ hn) (cI _) (λq h=>by cases h) .four
   ·apply jY.AM h1
    ·rfl
    ·walk_at "a"
    ·walk_at "e"
    ·walk_at "c"
    ·walk_at "d"
   ·intro _ _;rfl
  ·exact cG.nil
 apply cG.cons
 ·apply iW.expr
  ·apply Ev.uk (id:= "list.insert") F.slot_list_insert F.type_list_insert
   ·walk_at "b"
   ·exact hl.Cv
   ·apply ck.cons
    ·walk_at "b"
    ·apply ck.cons
     ·walk_at "b"
     ·exact .nil
     ·rfl
    ·rfl
   ·exact nk.insert rfl (gA hi) (V1 hn cH) (cH▸(xd ..))
   ·intro _;rfl
   ·rfl
   ·decide
  ·exact pp
 rw[kB _ _ (getElem?_lt' hi)];exact cG.nil
def vd (right:Bool) (ns:List Int) (x:Int) (y:PV) (l:List PV):List PV:=uL (my right ns x 0 ac) y l
def dy.ins (right:Bool) (hi:O[i]? =aa (.list (ns.map PV.int))) (hn: ↑ns<100000):
  dy S (k+2) O (.pv (.con (.ref (PW right).addr))) [.fM i,.pv (.int x)] [] (.pv PV.none) (O.set i (.list (vd right ns x (.int x) (ns.map PV.int)))):=by
 have fl:∀(j:Nat) (y:AO) (z:List PV),(O.set i (.list z))[j]? =aa y->O[j]? =aa y\/y.flat=true:=λj y z h=>by
  by_cases Ke:i=j
  ·subst Ke;rw[bU (getElem?_lt' hi)]at h;obtain rfl:=ag h;exact .inr rfl
  ·rw[bD Ke]at h;exact .inl h
 induction right with
 |false=>obtain(⟨τ,hb⟩):=MZ (S:=S) (k:=k) (x:=x) hi hn;exact dy.def (r:=dQ) (.of 2 rfl rfl rfl) (others:=[]) (λpm=>th.binds .two pm) (lk ti [sA,sX,oR,oS,gp] ∅) rfl hb bi (λj y h=>fl j y _ h) .pv
 |true=>obtain(⟨τ,hb⟩):=M0 (S:=S) (k:=k) (x:=x) hi hn;exact dy.def (r:=cP) (.of 0 rfl rfl rfl) (others:=[]) (λpm=>qU.binds .two pm) (lk tj [sA,sX,oR,oS,gp] ∅) rfl hb bi (λj y h=>fl j y _ h) .pv
def dy.afv (right:Bool) (hk:qk key) (hg:sm S k O key g) (hi:O[i]? =aa (.list l)) (tU:∀(j:Nat) (z:PV),l[j]? =aa z->g z=aa (ns.getD j 0)) (cH: ↑ns= ↑l) (hn: ↑ns<100000) (hx:g y=aa x):
  dy S (k+2) O (.pv (.con (.ref (PW right).addr))) [.fM i,.pv y] [(gp,key)] (.pv PV.none) (O.set i (.list (vd right ns x y l))):=by
 have fl:∀(j:Nat) (y:AO) (z:List PV),(O.set i (.list z))[j]? =aa y->O[j]? =aa y\/y.flat=true:=λj y z h=>by
  by_cases Ke:i=j
  ·subst Ke;rw[bU (getElem?_lt' hi)]at h;obtain rfl:=ag h;exact .inr rfl
  ·rw[bD Ke]at h;exact .inl h
 induction right with
 |false=>obtain(⟨τ,hb⟩):=I9 (S:=S) (k:=k) hk hg hi tU cH hn hx;exact dy.def (r:=dQ) (.of 2 rfl rfl rfl) (others:=[]) (λpm=>th.yo .two pm) (lk ti [sA,sX,oR,oS,gp] ∅) rfl hb bi (λj y h=>fl j y _ h) .pv
 |true=>obtain(⟨τ,hb⟩):=Ja (S:=S) (k:=k) hk hg hi tU cH hn hx;exact dy.def (r:=cP) (.of 0 rfl rfl rfl) (others:=[]) (λpm=>qU.yo .two pm) (lk tj [sA,sX,oR,oS,gp] ∅) rfl hb bi (λj y h=>fl j y _ h) .pv
def ve {pos jT:Pos} (l:Vs) (h:uW l) (hc:codeAmong jT (l++[rawInt pos.line,rawInt pos.col,c])=aa cd):codeAmong jT l=aa cd\/cd=c:=by
 fun_induction uW l with
 |case1=>
  simp only[gf,rawInt,codeAmong]at hc;split at hc
  ·obtain rfl:=ag hc;exact .inr rfl
  ·nomatch hc
 |case2 a t b u x rest ih=>
  simp only[sC,codeAmong]at hc⊢;split at hc
  ·rename_i hh;rw[if_pos hh];exact .inl hc
  ·rename_i hh;rw[if_neg hh];exact ih h hc
 |case3=>exact h.elim
def CJ {pos jT:Pos} (l:Vs) (h:uW l) (hn:codeAmong jT l=ac) (hp:(pos.line==jT.line&&pos.col==jT.col)=false):codeAmong jT (l++[rawInt pos.line,rawInt pos.col,c])=ac:=by
 fun_induction uW l with
 |case1=>
  simp only[gf,rawInt,codeAmong];split
  ·rename_i hh;simp only[dj,beq_iff_eq,Int.natCast_inj]at hh;simp[hh.1,hh.2]at hp
  ·rfl
 |case2 a t b u x rest ih=>
  simp only[sC,codeAmong]at hn⊢;split at hn
  ·nomatch hn
  ·rename_i hh;rw[if_neg hh];exact ih h hn
 |case3=>exact h.elim
def PY:∀r∈cm,∀q∈cm,r.2=q.2->r.1=q.1:=by decide
def Rel.Ls (R:Rel S c O h) (hq:q∈cm) (hx:∀b o,b≠q.2->h.get? b=aa o->h'.get? b=aa o) (hP:h'.get? q.2=aa (tableObj ps)) (ht:uW ps.toList/\(S.yI=true->q.1=324->codeAmong wD ps.toList=ac))
  (hF:∀a o,c.F a=aa o->c'.F a=aa o) (hF':∀a o,c'.F a=aa o->h'.get? a=aa o/\(c.F a=aa o\/h.objs.size<=a)) (D5:c'.Z=c.Z) (ZG:c'.pin=c.pin)
  (C2:∀pos cd,codeAmong pos ps.toList=aa cd->yZ c'.F cd):Rel S c' O h':=by
 let ⟨t1,t2,_⟩:=R.tabs q hq;refine⟨λa o e=>(hF' a o e).1,λa o e k=>hF _ _ (R.base a o e k),λi ao e=> ?_,λi hi=> ?_,λi j hi hj e=>R.inj i j hi hj (D5▸e),λa o e=> ?_,λr hr=> ?_⟩
 ·let ⟨o,p,x⟩:=R.own i ao e;refine⟨o,by exact D5▸(hx _ _ (t2 i (getElem?_lt' e))) p,x.j5 hF (λj z=>by rw[D5]) (ab _)⟩
 ·rw[D5];cases e:c'.F (c.Z i)with
  |none=>rfl
  |some o=>
   rcases(hF' _ _ e).2 with e'|e'
   ·rw[R.apart i hi]at e';nomatch e'
   ·exact absurd (R.Mw hi) (fD.mpr e')
 ·rw[ZG]at e;let ⟨p1,p2,p3,p4⟩:=R.pins a o e;refine⟨hx _ _ (λe'=>p4 q hq e'.symm) p1,?_,λi hi=>by rw[D5];exact p3 i hi,p4⟩;cases e2:c'.F a with
  |none=>rfl
  |some y=>
   rcases(hF' _ _ e2).2 with e'|e'
   ·rw[p2]at e';nomatch e'
   ·exact absurd (bW p1) (fD.mpr e')
 ·let ⟨a1,a2,ps',a3,a4,a5⟩:=R.tabs r hr;have hn:c'.F r.2=ac:=by
   cases e2:c'.F r.2 with
   |none=>rfl
   |some y=>
    rcases(hF' _ _ e2).2 with e'|e'
    ·rw[a1]at e';nomatch e'
    ·exact absurd (R.Gj hr) (fD.mpr e')
  by_cases hrq:r.2=q.2
  ·exact⟨hn,λi hi=>by rw[D5];exact a2 i hi,ps,by rw[hrq];exact hP,⟨ht.1,λhs e=>ht.2 hs ((PY r hr q hq hrq).symm.trans e)⟩,C2⟩
  ·exact⟨hn,λi hi=>by rw[D5];exact a2 i hi,ps',hx _ _ hrq a3,a4,λpos cd hc=>(a5 pos cd hc).mono hF⟩
def Ev.ET (hq:q∈cm) (nZ:ae.code=aa q.1) (Sg:S.yI=true->q.1=324->(pos.line==wD.line&&pos.col==wD.col)=false) (SA:∀env,defaultsOf params env=([],[])) (H7:j8 ae.cells scope.names []=aa cl):
  Ev S k O ae (.Lambda params body scope pos) (.tm params body scope cl) O:=by
 refine⟨ab _,λA c s env hA hE R E Q hQ=> ?_⟩;refine kla_eval (SA env) ?_;have D8:closureFor scope env=pure (cl.map λp=>(p.1,c.Z p.2)):=by refine mS ?_;rw[hE.cells];exact qP c.Z ae.cells scope.names [] cl H7
 have sG:∀p∈cl,p.2< ↑O:=sZ hE.jp scope.names [] cl (λp hp=>by cases hp) H7;left;let ⟨mg,F6,hm⟩:=S.glob;let ⟨ob,FI,OE,Mf,hb3⟩:=S.bmod;let ⟨t1,t2,ps,hP,⟨ht,Ik⟩,C2⟩:=R.tabs q hq;have Kd:=R.u6 F6 ∅;right;have ZH:mg "__builtins__" =aa (.ref 4):=by have:=hm (ah "__builtins__",aa (.ref 4)) (by unfold cg;walk_at "a");exact this
 have agN:∀q∈cm,(4:Addr)≠q.2:=by decide
 have hB:s.heap.BuiltinsAt mg q.2:=⟨4,ob,ZH,by decide,by decide,agN q hq,R.old FI agN,OE,Mf,hb3⟩;have hC:CodeHd s.heap q.1 q.2:=by left;let ⟨_,o,vs,f1,f2,f3,f4,f5,f6,f7,e1,r⟩:=S.tabs q hq;right;exact⟨o,vs,f1,f2,f3,f4,f5,f6,f7,R.old e1 ((by decide:∀r∈cm,∀q∈cm,r.1≠q.2) q hq),r⟩
 have Kj:=hE.code _ nZ;have fin:∀(c1:aM) (h':iQ) (cdv:Value) (Mh:Value) (tk:C6),aM.le ↑O c c1->Rel S c1 O h'->yZ c1.F cdv->
   Q (.ref h'.objs.size) {s with heap:=h'.push {cls:= .type "function",data:= .func (SP "<lambda>" (env.qual++ "<lambda>") params body scope (cl.map λp=>(p.1,c.Z p.2)) ((mg "__name__").getD .none) cdv Mh)},toks:=tk}:=by
  intro c1 h' cdv Mh tk l1 R1 hcf;have hF:=R1.oq (ab h'.objs.size);refine hQ (c1.put h'.objs.size _) _ _ (l1.trans (aM.dC hF) (ab _)) (R1.put (o:= {cls:= .type "function",data:= .func (SP "<lambda>" (env.qual++ "<lambda>") params body scope (cl.map λp=>(p.1,c.Z p.2)) ((mg "__name__").getD .none) cdv Mh)}) (λb o e=>aJ _ e) (ab _) (aV _ rfl)) (.heap ..) ?_;refine .tm ⟨if_pos rfl,rfl,rfl,rfl,rfl,rfl,rfl,hcf.mono (aM.dC (n:=0) hF).F,rfl,rfl,rfl,cj λp hp=> ?_⟩ sG;show(p.1,c.Z p.2)=(p.1,c1.Z p.2);rw[l1.Z _ (sG p hp)]
 cases hca:codeAmong pos ps.toList with
 |some cv=>refine kla_makeFunctionHit D8 hE.globals Kd Kj hC hP ht hca hB λMh h' tk hk z=> ?_;exact fin c h' cv Mh tk (.refl ..) (R.ext hk) (C2 _ _ hca)
 |none=>
  refine kla_makeFunction D8 hE.globals Kd Kj hC hP ht hca ((by decide:∀q∈cm,mainGlobals≠q.2) q hq) hB λc' Mh h' tk hx Aw kR Kk htb=> ?_;left;let ⟨c2,oc,vs,tq,e2,Mi,Xk,hvc⟩:=Kk;right;cases e2;have hF:=R.oq Aw;have sI:∀b o,b≠q.2->s.heap.get? b=aa o->h'.get? b=aa o:=λb o hb e=>hx b o hb e;have hcF:yZ (c.put c' oc).F (.ref c'):=⟨c',oc,vs,_,_,rfl,if_pos rfl,Xk,hvc⟩;have R1:Rel S (c.put c' oc) O h':=R.Ls hq sI htb ⟨by rw[lj];exact TriplesOk_snoc _ _ _ _ ht,λhs Tc=>by rw[lj];exact CJ _ ht (Ik hs Tc) (Sg hs Tc)⟩ (aM.dC (n:=0) hF).F (λa o e=>by
    have e':(if a=c' then aa oc else c.F a)=aa o:=e;by_cases ha:a=c'
    ·rw[if_pos ha]at e';cases e';subst ha;exact⟨Mi,.inr Aw⟩
    ·rw[if_neg ha]at e';exact⟨sI _ _ (λh=>by rw[h,t1]at e';cases e') (R.frozen _ _ e'),.inl e'⟩) rfl rfl λjT cd hc=>by
    rw[lj]at hc;rcases ve _ ht hc with h|h
    ·exact(C2 _ _ h).mono (aM.dC (n:=0) hF).F
    ·subst h;exact hcF
  exact fin _ h' (.ref c') Mh tk (aM.dC hF) R1 hcF
def GS (Sy:A.depth<recursionLimit) (ho:s.heap.get? a=aa o)
  (Av:o.data= .func fd) (Vv:fd.scope.isCoroutine=false) (FP:fd.scope.isGenerator=false) (dY:fd.body= .expr body) (C2:fd.code= .ref c') (Mi:s.heap.get? c'=aa oc) (Xk:oc.data= .fields vs) (hq:vs[1]? =aa (.str q tq))
  (h:wpAny (MM w) A.in1 (bindArgs fd args) (λbinds eG=>wpAny (MM w) A.in1 (newFunctionEnv fd.scope fd.globals fd.closure binds (q++ ".<locals>.") (aa a) fd.code ac fd.builtins)
    (λenv rk=>rk.heap.NoLimit/\codeAny (MM w) A (.expr body env) R rk) (λe s'=>R (.error e) s') eG) (λe s'=>R (.error e) s') s):
  codeAny (MM w) A (.call (.ref a) args) R s:=by
 refine fb ?_;show wpAny _ A.in1 (callAny (.ref a) args) _ _ s;simp only[callAny];refine am (Ks ho ?_);simp only[Av,callFunction,Vv,FP,dY,C2];rw[C2]at h;refine am (m:=field (.ref c') 1) (F8 Mi Xk hq (am (aR ?_)));exact am (fZ h (λbinds eG H5=>am (fZ H5 (λenv rk H6=>am (wpAny_enterFrame H6.1 Sy (aR (VO rfl H6.2)))) λz z h'=>h')) λz z h'=>h')
def dy.tm {names:List Str} (cH: ↑names= ↑args) (Xa:names.Nodup)
  (gr:∀(fd:FuncData) (vs:Vs),fd.params=params->fd.defaults= .none->fd.kwdefaults= .none-> ↑vs= ↑names->bindArgs fd ⟨vs,[]⟩=pure (names.zip vs))
  (Il:∀x∈scope.names,x.2≠ .cell) (Ss:∀x∈names,scope.names.lookup x=aa .local) (qr:scope.kind= .function) (Vv:scope.isCoroutine=false) (FP:scope.isGenerator=false) (sG:∀p∈cells,p.2< ↑O)
  (dY:Ev S k (O++[.ns (names.zip (args.map aa))]) {scope:=scope,fi:= ↑O,cells:=cells} body (.pv d) (O++τ)):dy S (k+1) O (.tm params body scope cells) args [] (.pv d) O:=by
 refine⟨ab _,λA c s fv vs kvs hA R hf ha hk HZ E Q hQ=> ?_⟩;have ZI:kvs=[]:=by induction kvs with|nil=>rfl|cons _ _=>cases hk
 subst ZI;obtain(⟨a,rfl,@⟨o,fd,h1,h2,h3,h4,h5,h6,h7,h8,h9,IB,IC,Oz⟩,h13⟩):=hf.XW;left;let ⟨c',oc,vc,q,tq,e1,e2,e3,e4⟩:=h8;right;refine vW ?_;refine GS hA.room (R.frozen _ _ h1) h3 (by rw[IC];exact Vv) (by rw[IC];exact FP) IB e1 (R.frozen _ _ e2) e3 e4 ?_;have hvl: ↑vs= ↑names:=by rw[↑ha,cH]
 refine i5 (gr fd vs h9 h6 h7 hvl) ?_;rw[IC,h4,h5,e1];refine yL Il (λx hx=>Ss _ (by
  have:=CD hx;exact this.1)) (λh' tU N8=> ?_) qr
 have N9:gH s.heap.objs.size (s.heap.push {cls:= .type "frame",data:= .dict #[]}) h':=N8;have yc:∀b o,s.heap.get? b=aa o->h'.get? b=aa o:=λb o e=>N9.extBut b o (cU (bW e)) (aJ _ e);have Md:(names.zip vs).map (·.1)=names:=kY (by simp_all);let ⟨on,hon,hrn⟩:=ic.Pp (w:=S.w) (c:=c.own ↑O s.heap.objs.size) (n:= ↑O+1) (m:=names.zip (args.map aa)) tU (by rw[kY (by rw[aw];simp_all)];exact Xa)
  (λx d hx=>by
   have sI:(x,d)∈names.zip args:=by rw[OK,aQ]at hx;let ⟨⟨y,e⟩,hy,ey⟩:=hx;cases ey;exact hy
   let ⟨v,hv,hd⟩:=dg.pick (by rw[Md,kY (by simp_all)]) (by rw[(nF (by simp_all)),nF (by simp_all)];exact ha) x d sI;exact⟨v,AL _ (by rw[Md];exact Xa) _ _ hv,hd.mono aM.ja (mr _)⟩)
  (λx hx=>by
   rw[OK,aQ]at hx;let ⟨⟨y,e⟩,hy,ey⟩:=hx;cases ey)
 refine⟨sL R.lim yc,kla_codeExpr ?_⟩;have hE:cY (c.own ↑O s.heap.objs.size) ↑(O++[AO.ns (names.zip (args.map aa))]) {scope:=scope,fi:= ↑O,cells:=cells} {scope:=scope,locals:=s.heap.objs.size,globals:=mainGlobals,cells:=fd.closure,qual:=q++ ".<locals>.",func:=aa a,code:= .ref c',frame:=aa s.heap.objs.size,builtins:=builtinsNs}:= {
  scope:=rfl
  kind:=qr
  locals:=(aM.lZ c ↑O _).symm
  fi:=by rw[aj];exact ez _
  globals:=rfl
  builtins:=rfl
  cells:=Oz.trans (cj λp hp=>by rw[aM.ja.Z _ (sG p hp)])
  jp:=λp hp=>by rw[aj];exact eI (sG p hp)
  code:=λa e=>by cases e
  frame:=⟨_,rfl⟩}
 refine dY.run _ _ _ _ hA.deeper hE (R.AK (h':=h') (o:=on) yc (ab _) hon hrn) _ _ λc1 v1 s1 l1 R2 K1 a1=> ?_;exact hQ c1 _ s1 (aM.ja.trans l1 (by rw[aj];exact bh _ _)) (R.drop R2 rfl λz z h=> .inl h) ((dZ.heap s h' _).trans K1) (.pv a1.gh)
section
variable {lay:Lay}
structure kK where
 scope:Scope
 name:Str
 su:List (Str×Nat)
def kK.L (ll:kK):Lay:= {scope:=ll.scope,loc:=[ll.name],nj:=ll.su.map (·.1),own:=0,grow:=false,code:=ac}
structure kK.Ok (ll:kK) (lay:Lay):Prop where
 tm:j8 (lay.nj.zip (cJ ↑lay.nj)) ll.scope.names []=aa ll.su
 kind:ll.scope.kind= .function
 co:ll.scope.isCoroutine=false
 gen:ll.scope.isGenerator=false
 cell:∀x∈ll.scope.names,x.2≠ .cell
 loc:ll.scope.names.lookup ll.name=aa .local
 ndC:(ll.su.map (·.2)).Nodup
def kK.st (ll:kK) (st:St) (d:PV):St:= {lv:=[~~~d],cv:=ll.su.map λq=>(st.cv[q.2]?).join,ob:=st.ob}
def kK.Lm (ll:kK) (p:Iz) (n:Nat):Iz:= {fi:=n,ci:=ll.su.map λq=>p.ci.getD q.2 0,oi:=p.oi}
def kK.Ok.PK {ll:kK} (h:ll.Ok lay):∀q∈ll.su,q.2< ↑lay.nj:=by refine sZ (cells:=lay.nj.zip (cJ ↑lay.nj)) (n:= ↑lay.nj) (λq hq=> ?_) _ _ _ (λq hq=>by cases hq) h.tm;have:=(CD hq).2;exact dM.mp this
def kK.Ok.cells {ll:kK} (h:ll.Ok lay) (Sk: ↑p.ci= ↑lay.nj):j8 (lay.en p).cells ll.scope.names []=aa (ll.su.map λq=>(q.1,p.ci.getD q.2 0)):=by
 have e:(lay.en p).cells=(lay.nj.zip (cJ ↑lay.nj)).map λq=>(q.1,p.ci.getD q.2 0):=by show lay.nj.zip p.ci=_;have:=Dq (l:=lay.nj) 0 p.ci 0 [] rfl Sk.symm;rw[vt];simpa using this
 rw[e];exact qP (λi=>p.ci.getD i 0) _ _ _ _ h.tm
def kK.Ok.at {ll:kK} (h:ll.Ok lay) {st:St} (bc:At lay p st pD) (jJ:∀i,i< ↑pD->O[i]? =pD[i]?) (wb: ↑pD<= ↑O) (d:PV):
  At ll.L (ll.Lm p ↑O) (ll.st st d) (O++[.ns ([ll.name].zip [aa (AV.pv d)])]):=by
 have Kg:=getElem?_lt' bc.frame;have Sk:∀(i n:Nat),p.ci[i]? =aa n->n< ↑pD:=by
  intro i n hn;have F7:i< ↑st.cv:=by rw[bc.xZ,<- bc.FD];exact getElem?_lt' hn
  let ⟨m,hm,hc⟩:=bc.cells i _ (aq F7);rw[hn]at hm;obtain rfl:=ag hm;exact getElem?_lt' hc
 have Xb:∀j,j< ↑st.ob->p.oi j< ↑pD:=λj hj=>getElem?_lt' (bc.obs j _ (aq hj));have sG:∀q∈ll.su,∃n,p.ci[q.2]? =aa n/\p.ci.getD q.2 0=n/\n< ↑pD:=by intro q hq;have hl:=h.PK q hq;rw[<- bc.FD]at hl;exact⟨p.ci[q.2],aq hl,z6 (aq hl),Sk q.2 _ (aq hl)⟩
 have N5:∀n,n∈(ll.Lm p ↑O).ci->∃q∈ll.su,p.ci[q.2]? =aa n/\n< ↑pD:=by intro n hn;left;let ⟨q,hq,e⟩:=aQ.mp hn;let ⟨m,h1,h2,h3⟩:=sG q hq;right;rw[h2]at e;subst e;exact⟨q,hq,h1,h3⟩
 refine⟨?_,rfl,by simp[kK.st,kK.L],by simp[kK.Lm,kK.L],λi v hv=> ?_,λj o ho=>gA ((jJ _ (Xb j (getElem?_lt' ho))).trans (bc.obs j o ho)),λhm=> ?_,λj hj e=> ?_,λj hj hm=> ?_,?_,bc.Vi,λhg=>by cases hg⟩
 ·show(O++_)[↑O]? =_;rw[aE (ab _),dc];rfl
 ·have vU:(ll.su.map λq=>(st.cv[q.2]?).join)[i]? =aa v:=hv;rw[bN]at vU;simp only[ar]at vU;left;let ⟨q,hq,rfl⟩:=vU;let ⟨n,h1,h2,h3⟩:=sG q (bo hq);right;refine⟨n,?_,?_⟩
  ·show(ll.su.map λq=>p.ci.getD q.2 0)[i]? =_;rw[bN,hq,<- h2];rfl
  ·have F7:q.2< ↑st.cv:=by rw[bc.xZ,<- bc.FD];exact getElem?_lt' h1
   left;let ⟨m,hm,hc⟩:=bc.cells q.2 _ (aq F7);right;rw[h1]at hm;obtain rfl:=ag hm;rw[aq F7];exact gA ((jJ _ h3).trans hc)
 ·let ⟨q,_,_,e⟩:=N5 _ hm;have e': ↑O< ↑pD:=e;exact KL e' wb
 ·have e':p.oi j= ↑O:=e;have:=Xb j hj;exact aaV this e' wb
 ·let ⟨q,_,e,_⟩:=N5 _ hm;exact bc.Vh j hj (bo e)
 ·show(ll.su.map λq=>p.ci.getD q.2 0).Nodup;have key:∀l:List (Str×Nat),(∀q∈l,q∈ll.su)->(l.map (·.2)).Nodup->(l.map λq=>p.ci.getD q.2 0).Nodup:=by
   intro l;induction l with
   |nil=>intro _ _;exact kE
   |cons a l ih=>intro hs hn;rw[bx,fE]at hn⊢;refine⟨λhm=> ?_,ih (λq hq=>hs q (aK _ hq)) hn.2⟩;let ⟨b,hb,e⟩:=aQ.mp hm;let ⟨n1,a1,a2,_⟩:=sG a (hs a ay);let ⟨n2,b1,b2,_⟩:=sG b (hs b (aK _ hb));rw[a2,b2]at e;subst e;let ⟨x1,y1⟩:=eO.mp a1;let ⟨x2,y2⟩:=eO.mp b1;have:=(AC bc.W3).mp (y1.trans y2.symm);exact hn.1 (this▸aQ.mpr ⟨b,hb,rfl⟩)
  exact key _ (λq hq=>hq) h.ndC
def yp (ll:kK) (f:EF) (st:St) (d:PV):Option Int:=(f (ll.st st d)).bind CV.aI
def kK.Ok.key (h:ll.Ok lay) (hf:cS S k ll.L body f) (gr:∀(fd:FuncData) (v:Value),fd.params=params->fd.defaults= .none->fd.kwdefaults= .none->bindArgs fd ⟨[v],[]⟩=pure [(ll.name,v)])
  {st:St} (bc:At lay p st pD):sm S (k+1) pD (.tm params body ll.scope (ll.su.map λq=>(q.1,p.ci.getD q.2 0))) (yp ll f st):=by
 intro O jJ d i hd;refine a9 hd λw Kg ew=> ?_;rw[CV.kI ew]at Kg;have wb: ↑pD<= ↑O:=by
  rcases bS ↑O ↑pD with h|h
  ·have:=jJ ↑O h;rw[bB (ab _),aq h]at this;nomatch this
  ·exact h
 have SD:=h.at bc jJ wb d;have he:=hf _ _ _ _ SD Kg;have Sx:(ll.L).en (ll.Lm p ↑O)= {scope:=ll.scope,fi:= ↑O,cells:=ll.su.map λq=>(q.1,p.ci.getD q.2 0)}:=by
  unfold Lay.en kK.L kK.Lm;refine iv.eq ?_;clear Kg hf gr SD he h;induction ll.su with
  |nil=>rfl
  |cons a l ih=>simpa using ih
 rw[Sx]at he;refine dy.tm (names:=[ll.name]) rfl (by simp) (λfd vs h1 h2 h3 hv=> ?_) h.cell (by intro x hx;rw[aB]at hx;subst hx;exact h.loc) h.kind h.co h.gen (λq hq=> ?_) he
 ·exact S8 (P:=λvs=>bindArgs fd ⟨vs,[]⟩=pure ([ll.name].zip vs)) (λv=>gr fd v h1 h2 h3) vs hv
 ·let ⟨q',Tc,e⟩:=aQ.mp hq;subst e;have hl:=h.PK q' Tc;rw[<- bc.FD]at hl;have h1:=aq hl;show p.ci.getD q'.2 0< ↑O;rw[z6 h1];have F7:q'.2< ↑st.cv:=by rw[bc.xZ,<- bc.FD];exact hl
  let ⟨m,hm,hc⟩:=bc.cells q'.2 _ (aq F7);rw[h1]at hm;obtain rfl:=ag hm;exact a8 (getElem?_lt' hc) wb
end
def kK.PJ {ll:kK} (h:decide (j8 (lay.nj.zip (cJ ↑lay.nj)) ll.scope.names []=aa ll.su/\ll.scope.kind= .function/\ll.scope.isCoroutine=false/\ll.scope.isGenerator=false/\(∀x∈ll.scope.names,x.2≠ .cell)/\ll.scope.names.lookup ll.name=aa .local/\(ll.su.map (·.2)).Nodup)=true):ll.Ok lay:=
 xe07 (of_decide_eq_true h) .mk
section
variable {lay:Lay}
def qC (right:Bool) (f1 fx:EF) (st:St):Option CV:=
 (f1 st).bind λa=>((fx st).bind CV.aI).bind λx=>(st.ow a).bind λl=>(jN l).bind λns=>if ↑ns<1000 then ~~~(.int (my right ns x 0 ac)) else ac
def cS.Yg (right:Bool) (hk:1<=k) (h:lay.me f=true) (hg:(f,aa (.ref (I8 right).addr))∈cg) (h1:cS S k lay e1 f1) (h2:cS S k lay e2 fx) (n1:notStar e1=true) (n2:notStar e2=true):
  cS S k lay (.Call (.Name f np) [e1,e2] [] pos) (qC right f1 fx):=by
 intro p O st v bc hf;refine a9 hf λa ha hf=>a9 hf λx hx hf=>a9 hx λq hx e=>a9 hf λl hl hf=>a9 hf λns hn hf=> ?_;rw[CV.kI e]at hx;let ⟨hsz,rfl⟩:=dT hf;have hL:=bc.ow hl;rw[vE hn]at hL;obtain⟨k',rfl⟩:∃k',k=k'+1:=⟨k- 1,by exact abL hk⟩;exact Ev.l8 (Lq right).mem (Ev.Gr h hg) (.cons (h1 p O st _ bc ha) (.cons (h2 p O st _ bc hx) .nil n2) n1) .nil (dy.Yg (k:=k') right (lo:=0) (hi:=ac) hL (V2 hsz) (cI _) (λq h=>by nomatch h) .two)
noncomputable def keysOf (g:PV->Option Int):List PV->Option (List Int)
 | []=>aa []
 |d::l=>(g d).bind λi=>(keysOf g l).map (i:: ·)
def tr:keysOf g (d::l)=(g d).bind λi=>(keysOf g l).map (i:: ·):=rfl
def Bh {l:List PV}:∀ {ns:List Int},keysOf g l=aa ns-> ↑ns= ↑l/\∀(j:Nat) (z:PV),l[j]? =aa z->g z=aa (ns.getD j 0):=by
 induction l with
 |nil=>intro ns h;obtain rfl:=ag h;exact⟨rfl,λj z h=>by simp at h⟩
 |cons d l ih=>
  intro ns h;rw[tr]at h;simp only[aG,ar]at h;left;let ⟨i,hi,ns',hn,rfl⟩:=h;let ⟨h1,h2⟩:=ih hn;right;refine⟨by simp[h1],λj z hz=> ?_⟩;induction j with
  |zero=>obtain rfl:=ag hz;simpa using hi
  |succ j=>simpa using h2 j z (by simpa using hz)
structure Lu (S:cz) (k:Nat) (lay:Lay) (e:Expr) (ll:kK) (f:EF):Prop where
 run:∀p O st,At lay p st O->∃key,qk key/\Ev S k O (lay.en p) e key O/\sm S (k+1) O key (yp ll f st)
def Lu.mk' (i:Nat) (hq:cm[i]? =aa q) (mY:ll.Ok lay) (Zw:scope=ll.scope) (nZ:lay.code=aa q.1) (SA:∀env,defaultsOf params env=([],[]))
  (gr:∀(fd:FuncData) (v:Value),fd.params=params->fd.defaults= .none->fd.kwdefaults= .none->bindArgs fd ⟨[v],[]⟩=pure [(ll.name,v)]) (hf:cS S k ll.L body f) (Sg:q.1≠324:=by decide):Lu S k lay (.Lambda params body scope pos) ll f:=by
 subst Zw;exact⟨λp O st bc=>⟨_,.mk,Ev.ET (afb i hq) nZ (λz e=>absurd e Sg) SA (mY.cells bc.FD),mY.key hf gr bc⟩⟩
def Bi (right:Bool) (ll:kK) (f1 fx:EF) (f:EF) (st:St):Option CV:=
 (f1 st).bind λa=>((fx st).bind CV.aI).bind λx=>(st.ow a).bind λl=>(keysOf (yp ll f st) l).bind λns=>if ↑ns<1000 then ~~~(.int (my right ns x 0 ac)) else ac
def Ev.PZ (h:Ev S k O ae e d O) (hk:k<=k'):o7 S k' O ae [⟨aa x,e,p⟩] [(x,d)]:= .cons (h.AW hk) .nil
def cS.Uk (right:Bool) (hk:2<=k) (h:lay.me f=true) (hg:(f,aa (.ref (I8 right).addr))∈cg) (h1:cS S k lay e1 f1) (h2:cS S k lay e2 fx) (h3:Lu S 0 lay lam ll fl) (n1:notStar e1=true) (n2:notStar e2=true):
  cS S k lay (.Call (.Name f np) [e1,e2] [⟨aa gp,lam,kp⟩] pos) (Bi right ll f1 fx fl):=by
 intro p O st v bc hf;refine a9 hf λa ha hf=>a9 hf λx hx hf=>a9 hx λq hx e=>a9 hf λl hl hf=>a9 hf λns hn hf=> ?_;rw[CV.kI e]at hx;let ⟨hsz,rfl⟩:=dT hf;left;let ⟨cH,tU⟩:=Bh hn;let ⟨key,hc,he,hko⟩:=h3.run p O st bc;right;exact Ev.l8 (Lq right).mem (Ev.Gr h hg) (.cons (h1 p O st _ bc ha) (.cons (h2 p O st _ bc hx) .nil n2) n1) (he.PZ (abM hk)) ((dy.Uk right (lo:=0) (hi:=ac) hc hko (bc.ow hl) tU cH (V2 hsz) (cI _) (λq h=>by nomatch h) .two).AW hk)
def zL (right:Bool) (fo fx:EF) (st:St):Option (pj×St):=
 ((fo st).bind CV.aO).bind λj=>((fx st).bind CV.aI).bind λx=>(S5 st.ob[j]?).bind λl=>(jN l).bind λns=>if ↑ns<1000 then aa (.next,qR j (.list (vd right ns x (.int x) l)) st) else ac
def mu.ins (right:Bool) (hk:2<=k) (h:lay.me f=true) (hg:(f,aa (.ref (PW right).addr))∈cg) (h1:cS S k lay e1 fo) (h2:cS S k lay e2 fx) (n1:notStar e1=true) (n2:notStar e2=true)
  (hs:swapsWith (.Call (.Name f np) [e1,e2] [] pos) ac FK.line=λq=>pure false):mu S k lay (.Expr (.Call (.Name f np) [e1,e2] [] pos) FK) (zL right fo fx):=by
 intro p O st fl cf bc hf;refine a9 hf λj hj hf=>a9 hj λq hj e1=>a9 hf λx hx hf=>a9 hx λq hx e2=>a9 hf λl hl hf=>a9 hf λns hn hf=> ?_;rw[CV.kO e1]at hj;rw[CV.kI e2]at hx;replace hl:=uh hl;let ⟨hsz,hf⟩:=dT hf;let ⟨rfl,rfl⟩:=bG hf;let ⟨b,c⟩:=bc.Bb hl (.list (vd right ns x (.int x) l));have FI:=bc.obs j _ hl;have hl':=vE hn;rw[hl']at FI;obtain⟨k',rfl⟩:∃k',k=k'+2:=⟨k- 2,by exact abN hk⟩;refine⟨_,iW.expr (d:= .pv PV.none) (Ev.l8 (Lr right).mem (Ev.Gr h hg) (.cons (h1 p O st _ bc hj) (.cons (h2 p O st _ bc hx) .nil n2) n1) .nil ?_) hs,b,c⟩;have:=dy.ins (S:=S) (k:=k') right (x:=x) FI (KN hsz);rw[<- hl']at this;exact this
def Bj (right:Bool) (ll:kK) (fo fx fl:EF) (st:St):Option (pj×St):=
 ((fo st).bind CV.aO).bind λj=>((fx st).bind CV.aP).bind λy=>(S5 st.ob[j]?).bind λl=>(keysOf (yp ll fl st) l).bind λns=>(yp ll fl st y).bind λx=>if ↑ns<1000 then aa (.next,qR j (.list (vd right ns x y l)) st) else ac
def mu.afv (right:Bool) (hk:3<=k) (h:lay.me f=true) (hg:(f,aa (.ref (PW right).addr))∈cg) (h1:cS S k lay e1 fo) (h2:cS S k lay e2 fx) (h3:Lu S 0 lay lam ll fl) (n1:notStar e1=true) (n2:notStar e2=true)
  (hs:swapsWith (.Call (.Name f np) [e1,e2] [⟨aa gp,lam,kp⟩] pos) ac FK.line=λq=>pure false):mu S k lay (.Expr (.Call (.Name f np) [e1,e2] [⟨aa gp,lam,kp⟩] pos) FK) (Bj right ll fo fx fl):=by
 intro p O st fl' cf bc hf;refine a9 hf λj hj hf=>a9 hj λq hj e1=>a9 hf λy hy hf=>a9 hy λq hy e2=>a9 hf λl hl hf=>a9 hf λns hn hf=>a9 hf λx hx hf=> ?_;rw[CV.kO e1]at hj;rw[CV.kP e2]at hy;replace hl:=uh hl;let ⟨hsz,hf⟩:=dT hf;let ⟨rfl,rfl⟩:=bG hf;left;let ⟨b,c⟩:=bc.Bb hl (.list (vd right ns x y l));let ⟨cH,tU⟩:=Bh hn;let ⟨key,hc,he,hko⟩:=h3.run p O st bc;right;exact⟨_,iW.expr (Ev.l8 (Lr right).mem (Ev.Gr h hg) (.cons (h1 p O st _ bc hj) (.cons (h2 p O st _ bc hy) .nil n2) n1) (he.PZ (abO hk)) ((dy.afv right hc hko (bc.obs j _ hl) tU cH (KN hsz) hx).AW hk)) hs,b,c⟩
end
section
variable {lay:Lay}
def zM (f:EF) (st:St):Option (List PV):=((f st).bind CV.aS).bind λx=>if x.cps.all (· <128)=true then aa ((iX 0 false x.cps.toList).map lP) else ac
def zK.esc (h:lay.me f=true) (hg:(f,aa (.ref rE.addr))∈cg) (he:cS S k lay e g) (hs:notStar e=true):zK S k lay (.Call (.Name f np) [e] [] pos) (zM g):=by intro p O st xs bc hf;refine a9 hf λx hx hf=>a9 hx λq hx e=> ?_;rw[CV.kS e]at hx;let ⟨ha,rfl⟩:=dT hf;exact kZ.esc (Ev.Gr h hg) (he p O st _ bc hx) hs ha trivial
end
structure Jb (S:cz) (k:Nat) (O:List AO) (ae:iv) (Vl:List Stmt) (ds:List AV) (bv:List AO):Prop where
 len: ↑O<= ↑bv
 run:∀A c s env,jD k A->cY c ↑O ae env->Rel S c O s.heap->∀(E:VS) (Q:Cj->bb->Prop),
  (∀c' a vs s',aM.le ↑O c c'->Rel S c' bv s'.heap->dZ s s'->c'.F a=aa {cls:= .type "tuple",data:= .seq vs}->dg S.w c' ↑bv vs.toList ds->Q (.ret (.ref a)) s')->wpAny (MM S.w) A (execs Vl env) Q E s
def Jb.cons (h1:iW S k O ae st .next bw) (h2:Jb S k bw ae rest ds bP):Jb S k O ae (st::rest) ds bP:=
 ⟨aA h1.len h2.len,λA c s env hA hE R E Q hQ=>da (h1.run A c s env hA hE R _ _ λc1 v1 s1 l1 R1 K1 f1=>by
  obtain rfl:=f1.wL;exact h2.run A c1 s1 env hA (hE.mono l1 h1.len) R1 E Q λc2 a vs s2 l2 R2 K2 hF a2=>hQ c2 a vs s2 (l1.trans l2 h1.len) R2 (K1.trans K2) hF a2)⟩
def Jb.ret (h:vD S k ae O es ds bv) (hsz: ↑es<=1000):Jb S k O ae [.Return (aa (.Tuple es n tV)) pos] ds bv:=
 ⟨h.len,λA c s env hA hE R E Q hQ=>da (wpAny_Return_some (h.tuple hsz A c s env hA hE R _ _ λc' a vs s' l1 R1 K1 hF a1=>hQ c' a vs s' l1 R1 K1 hF a1))⟩
section
variable {lay:Lay}
def Jc (S:cz) (k:Nat) (lay:Lay) (ss:List Stmt) (F:St->Option (List CV×St)):Prop:=
 ∀p O st vs cf,At lay p st O->F st=aa (vs,cf)->∃bv,Jb S k O (lay.en p) ss (vs.map (CV.av p.oi)) bv/\At lay p cf bv/\ko lay p st cf O bv
noncomputable def nxt:Option (pj×St)->Option St
 |some (.next,st1)=>aa st1
 |some (.ret _,_)=>ac
 |none=>ac
def Lv (h:nxt o=aa st):o=aa (.next,st):=by
 induction o with
 |none=>exact gq h
 |some q=>
  let ⟨f,s⟩:=q;induction f with
  |next=>obtain rfl:=ag h;rfl
  |ret=>exact gq h
def yq (f:SF) (g:St->Option (List CV×St)) (st:St):Option (List CV×St):=(nxt (f st)).bind g
def Jc.cons (h1:mu S k lay s f) (h2:Jc S k lay ss g):Jc S k lay (s::ss) (yq f g):=by intro p O st vs cf bc hf;refine a9 hf λst1 e hf=> ?_;let ⟨lI,a1,b1,c1⟩:=h1 p O st _ st1 bc (Lv e);let ⟨uQ,a2,b2,c2⟩:=h2 p lI st1 _ cf b1 hf;exact⟨uQ,.cons a1 a2,b2,c1.trans c2 bc⟩
def Jc.ret (h:GH S k lay es g) (hsz: ↑es<=1000):Jc S k lay [.Return (aa (.Tuple es n tV)) pos] g:=by intro p O st vs cf bc hf;let ⟨bv,a,b,c⟩:=h p O st vs cf bc hf;exact⟨bv,.ret a hsz,b,c⟩
end
def dy.afw (F:pU r loc own)
  (gr:∀pm,jE S O (r.fd pm) args kw binds)
  (rp:jU S (gB r ↑O) (ent O r loc) binds bw)
  (dY:Jb S k bw (gB r ↑O) r.body (d0::rest.map AV.pv) (O++τ)) (hz:Gm τ ↑O d0 (.pv e0)):
  dy S (k+1) O (.pv (.con (.ref r.addr))) args kw (.pv (.tup (e0::rest))) O:=by
 refine⟨ab _,?_⟩;intro A c s fv vs kvs hA R hf ha hk HZ E Q hQ;refine wY F (λpm=>(gr pm).B) rp hA R hf ha hk HZ λc3 s3 env l3 hE R3 K3 q q=> ?_;refine dY.run _ c3 s3 env hA.deeper hE R3 _ _ λc4 a vs s4 l4 R4 K4 hFa a4=> ?_;generalize Zz:vs.toList=vl at a4;let ⟨v0,vr,rfl,h0,hr⟩:=a4.i1;left;let ⟨c5,l5,R5,hv5,_⟩:=Gm.run R R4 rfl (λi x h=> .inl h) hz h0;right;refine hQ c5 _ s4 ((l3.trans l4 rp.Yb).trans l5 (ab _)) R5 (K3.trans K4) (.pv (.tup (l5.F _ _ hFa) ?_ λi v d hv hd=> ?_))
 ·rw[<- bz,Zz,az,az,↑hr,aw]
 ·rw[<- fR,Zz]at hv;cases i with
  |zero=>obtain rfl:=ag hv;obtain rfl:=ag hd;exact hv5.gh
  |succ i=>exact((dg.WN hr).2 i v d (by simpa using hv) (by simpa using hd)).mono l5.F
def afx (st:St):List CV->Option PV
 | .ob j::rest=>(obV st.ob[j]?).bind λd=>(MH rest).map λds=> .tup (d::ds)
 |_=>ac
def GU (loc:List Str) (own:Sn) (tg:List CV->St->Option St) (F:St->Option (List CV×St)) (ds:List PV):Option PV:=
 (tg (ds.map .pv) (Bd loc own)).bind λst=>(F st).bind λr=>afx r.2 r.1
def hV.Yh (F:pU r loc own) (Vu:kb S (eW r loc own) names tg) (dY:Jc S k (eW r loc own) r.body G)
  (gr:∀pm (vs:Vs),↑vs= ↑names->bindArgs (r.fd pm) ⟨vs,[]⟩=pure (names.zip vs)):hV S (k+1) r (GU loc own tg G):=by
 intro O ds d hd;refine a9 hd λst1 ZA hd=> ?_;refine a9 hd λ⟨fl,cf⟩ hF FO=> ?_;let ⟨lI,a1,l1,b1,c1,_⟩:=Vu _ _ _ _ st1 F.at0 ZA;let ⟨bv,a,b,c⟩:=dY _ _ _ fl cf b1 hF;let ⟨τ,rfl⟩:=rL λi hi=>(c1.trans c F.at0).pre hi λj hj=>absurd hj (iy _);rw[F.en]at a a1;rw[I3]at a1;cases fl with
 |nil=>exact gq FO
 |cons v rest=>cases v with
  |ob j=>refine a9 FO λe0 h0 FO=> ?_;let ⟨ds',hp,rfl⟩:=ar.mp FO;rw[bx,wR hp]at a;exact dy.afw F (jE.of l1 gr) a1 a (.ob0 h0 b)
  |_=>exact gq FO
def fa0 {P:α->Prop}:∀g∈([]:List α),P g:=λg h=>by cases h
def fa1 {P:α->Prop} (h:P a):∀g∈[a],P g:=λg hg=>by rw[aB]at hg;subst hg;exact h
def fa2 {P:α->Prop} (h:P a) (h':P b):∀g∈[a,b],P g:=λg hg=>by
 rcases aH.mp hg with e|hg
 ·subst e;exact h
 ·rw[aB]at hg;subst hg;exact h'
set_option maxHeartbeats 4000000
local macro_rules | `(tactic| walk_at "sd") => do
  let a := ["cS; Yg; ahD anc; ahD Ue; ahD Uh; ahD Ui; ahD Uj; ahD Uc; ahD Ud; Uk", "zK; esc", "mu; ins; afv", "Jc; cons; ret", "Lu; mk' 0 rfl ? ? rfl ? ? ?; mk' 2 rfl ? ? rfl ? ? ?", "; fS.PJ tt; kK.PJ tt; fa0; fa1 rfl; fa1 ?; fa2 ? ?; z7; EE ?"].map wz
  `(tactic| first | $(⟨wf a⟩) | exact fun fd v h1 h2 h3 => by unfold bindArgs; rw [h1, h2, h3]; rfl | fail)
def oB:Lay:=(nI gY ["addr"] ["start", "open_pos", "result", "pos", "ch"])
def gL:SF:=(aC (jz (bY .NotIn ↥"\"" (ak 0)) (aC (i6 (ak 0)) br) br) (aC (bZ ⇑0 (bf 1)) (aC (bZ (jg PV.none) (bf 2)) (aC (CI (.list []) (bf 3)) (aC (mH (zM (ak 0)) (pT (eT (bf 4) (eT (bf 5) pS))) (aC (jz (bY .Eq (ak 5) ↥"\"") (aC (jz (bY .Is (ak 2) (jg PV.none)) (aC (bZ (ak 4) (bf 2)) br) (aC (jz (bY .NotEq (ak 1) (ak 2)) (aC (oy gZ (ak 3) (au (fN (ak 0) (gV (ak 1)) (gV (ak 2)) eD) aZ)) br) br) (aC (bZ (ba .Add (ak 4) ⇑1) (bf 1)) (aC (bZ (jg PV.none) (bf 2)) br)))) br) br) br)) (aC (jz (bY .Lt (ak 1) (dJ km (au (ak 0) aZ))) (aC (oy gZ (ak 3) (au (fN (ak 0) (gV (ak 1)) eD eD) aZ)) br) br) (aC (i6 (eQ "str" A5 ↥"" (au (ak 3) aZ))) br)))))))
def dW:List PV->Option PV:=mJ ["addr"] ["start", "open_pos", "result", "pos", "ch"] gL
def pV:jZ S 0 oB gY.body gL:=by walk_at "sd"
def Cx:hV S 1 gY dW:=hV.plain (.of 12 rfl rfl tt) pV (λpm=>S8 λq=>rfl) tt
local macro_rules | `(tactic| walk_at "sd") => pure (wq (wz "cS; ahD Cx"))
def rN:Lay:=(nI jo ["addr"] ["opens", "pos", "ch"])
def i8:SF:=(aC (bZ (j9 dW (au (ak 0) aZ)) (bf 0)) (aC (bZ ⇑0 (bf 1)) (aC (mH (zM (ak 0)) (pT (eT (bf 2) (eT (bf 3) pS))) (aC (jz (bY .Eq (ak 3) ↥"(") (aC (I1 .Add 1 ⇑1) br) (aC (jz (bY .Eq (ak 3) ↥")") (aC (I1 .Sub 1 ⇑1) (aC (jz (bY .Lt (ak 1) ⇑0) (aC (i6 (jg (PV.bool false))) br) br) br)) br) br)) br)) (aC (i6 (qA (bY .Eq (ak 1) ⇑0))) br))))
def cZ:List PV->Option PV:=mJ ["addr"] ["opens", "pos", "ch"] i8
def tu:jZ S 1 rN jo.body i8:=by walk_at "sd"
def GV:hV S 2 jo cZ:=hV.plain (.of 13 rfl rfl tt) tu (λpm=>S8 λq=>rfl) tt
local macro_rules | `(tactic| walk_at "sd") => pure (wq (wz "cS; ahD GV"))
def pW:Lay:=(nI iu ["email_header_fields"] ["accepted_values", "v"])
def hX:SF:=(aC (CI (.list []) (bf 1)) (aC (mH (jx (ak 0)) (bf 2) (aC (jz (yk (ms (j9 cZ (au (ak 2) aZ)))) (aC (bZ ↥"('', '')" (bf 2)) br) br) (aC (oy gZ (ak 1) (au (ak 2) aZ)) br))) (aC (i6 (ak 1)) br)))
def hZ:List PV->Option PV:=mJ ["email_header_fields"] ["accepted_values", "v"] hX
def qV:jZ S 2 pW iu.body hX:=by walk_at "sd"
def Dw:hV S 3 iu hZ:=hV.plain (.of 14 rfl rfl tt) qV (λpm=>S8 λq=>rfl) tt
def zN:Lay:=(nI oo ["counts"] ["row", "count"])
def la:SF:=(aC (CI (.list []) (bf 1)) (aC (mH (jx (ak 0)) (bf 2) (aC (jz (bY .Eq (qC false (ak 1) (ak 2)) (qC true (ak 1) (ak 2))) (aC (zL false (ak 1) (ak 2)) br) br) br)) (aC (i6 (ak 1)) br)))
def lb:List PV->Option PV:=mJ ["counts"] ["row", "count"] la
def CK:jZ S 2 zN oo.body la:=by walk_at "sd"
def S9:hV S 3 oo lb:=hV.plain (.of 16 rfl rfl tt) CK (λpm=>S8 λq=>rfl) tt
def CL:Lay:=(eW rz ["r", "g", "b", "hue", "spread", "value", "tint", "light", "depth", "luma", "warm", "pink", "right", "back", "far"] [("due",0)])
def Bk:fS:=lO [([46,48],.local),([112,97,114,116],.local),([114,111,117,110,100],.globalImplicit)] ["part"] [] []
def Bl:fS:=lO [([46,48],.local),([112,97,114,116],.local),([109,105,110],.globalImplicit),([109,97,120],.globalImplicit),([100,117,101],.free)] ["part"] [] [("due",0)]
def Bm:fS:=lO [([46,48],.local),([112,97,114,116],.local),([114,111,117,110,100],.globalImplicit)] ["part"] [] []
def zd:SF:=(aC (bZ (j9 xa (au (ba .Div (ak 0) ⇑8) (au (ba .Div (ak 1) ⇑8) (au (ba .Div (ak 2) ⇑8) aZ)))) (pT (eT (bf 3) (eT (bf 4) (eT (bf 5) pS))))) (aC (bZ (j9 i7 (au (ba .Div (ak 0) ⇑8) (au (ba .Div (ak 1) ⇑8) (au (ba .Div (ak 2) ⇑8) aZ)))) (pT (eT (bf 6) (eT (bf 7) (eT (bf 8) pS))))) (aC (bZ (j9 w4 (au (ba .Div (ak 0) ⇑8) (au (ba .Div (ak 1) ⇑8) (au (ba .Div (ak 2) ⇑8) aZ)))) (pT (eT (bf 9) (eT (bf 10) (eT (bf 11) pS))))) (aC (bZ (j7 (au (ba .Add (ba .Add (ba .Mult ⇑30 (ak 0)) (ba .Mult ⇑59 (ak 1))) (ba .Mult ⇑11 (ak 2))) (au (ba .Sub (ba .Sub (ba .Mult ⇑5990 (ak 0)) (ba .Mult ⇑2773 (ak 1))) (ba .Mult ⇑3217 (ak 2))) (au (ba .Add (ba .Sub (ba .Mult ⇑2130 (ak 0)) (ba .Mult ⇑5251 (ak 1))) (ba .Mult ⇑3121 (ak 2))) aZ)))) (jI 0)) (aC (bZ (qA (bY .Eq (j7 (au (dJ rH (au (ba .Mult (ak 9) ⇑800) aZ)) (au (dJ rH (au (ba .Mult (ak 10) ⇑80000) aZ)) (au (dJ rH (au (ba .Mult (ak 11) ⇑80000) aZ)) aZ)))) (aX 0))) (bf 12)) (aC (mH (jx (jb (au (j9 iw (au (ak 3) (au (ak 4) (au (ak 5) aZ)))) (au (j9 w8 (au (ak 6) (au (ak 7) (au (ak 8) aZ)))) (au (j9 rM (au (ak 9) (au (ak 10) (au (ak 11) aZ)))) aZ))))) (bf 13) (aC (bZ (qA (wQ (ms (ak 12)) (ms (qA (bY .Eq (ei Bk (jx (ak 13)) (dN (bf 0) fG (gO (dJ rH (au (ba .Mult (ak 0) ⇑8000) aZ))))) (j7 (au (ba .Mult ⇑1000 (ak 0)) (au (ba .Mult ⇑1000 (ak 1)) (au (ba .Mult ⇑1000 (ak 2)) aZ))))))))) (bf 12)) br)) (aC (bZ (ei Bl (jx (jb (au (ak 0) (au (ak 1) (au (ak 2) aZ))))) (dN (bf 0) fG (gO (ba .Mult ⇑10 (dJ MN (au ⇑800 (au (dJ EA (au ⇑0 (au (ba .Sub (ba .Mult ⇑300 (ak 0)) (ba .Mult ⇑2 (bk (aX 0) ⇑0))) aZ))) aZ))))))) (bf 14)) (aC (bZ (qA (wQ (ms (ak 12)) (ms (qA (bY .Eq (ei Bm (jx (j9 rM (au (ak 9) (au (ba .Mult (ak 10) ⇑3) (au (ba .Mult (ak 11) ⇑3) aZ))))) (dN (bf 0) fG (gO (dJ rH (au (ba .Mult (ak 0) ⇑8000) aZ))))) (ak 14)))))) (bf 12)) (aC (i6 (jb (au (ba .Sub (ba .Mult (ak 7) ⇑16) (ba .Mult (ak 5) ⇑8)) (au (ba .Mult (ak 5) ⇑8) (au (ak 12) aZ))))) br)))))))))
def nr:List PV->Option PV:=EL ["r", "g", "b", "hue", "spread", "value", "tint", "light", "depth", "luma", "warm", "pink", "right", "back", "far"] [("due",0)] (fB (bf 0) (fB (bf 1) (fB (bf 2) qS))) zd
def GW:jZ S 2 CL rz.body zd:=by walk_at "sd"
def WU:hV S 3 rz nr:=hV.cells (.of 15 rfl rfl tt) (names:=["r", "g", "b"]) (.loc tt (.loc tt (.loc tt .nil))) GW λpm=>WR λq q q=>rfl
def CM:Lay:=(eW rA ["text", "number", "lit", "hues", "depth", "deep", "first", "place", "sign", "free", "r", "g", "b"] [("used",0)])
def g6:kK:=⟨fsc [([106],.local),([117,115,101,100],.free)], "j",[("used",0)]⟩
def nu:St->Option (List CV×St):=(yq (GI (jh (EI (.list [])) (jh (EI (.dict [])) (jh (EI (.dict [])) (jh (k9 ⇑0) (jh (k9 ⇑0) (jh (k9 ↥"") EJ)))))) (fB (jI 0) (fB (bf 2) (fB (bf 3) (fB (bf 4) (fB (bf 5) (fB (bf 6) qS))))))) (yq (mH (zM (j9 dW (au (ak 0) aZ))) (pT (eT (bf 7) (eT (bf 8) pS))) (aC (jz (bY .In (ak 8) (jb (au ↥"(" (au ↥")" aZ)))) (aC (I1 .Add 4 (Lg (bY .Eq (ak 8) ↥"(") ⇑1 (wZ ⇑1))) br) (aC (jz (bY .In (ak 8) ↥"abcdef") (aC (bZ (Bi false g6 (ly (dJ km (au (aX 0) aZ))) ⇑1 (Lg (bY .Gt (bk (aX 0) (ak 0)) (ak 0)) ⇑1 ⇑0)) (bf 9)) (aC (zL true (aX 0) (ak 9)) (aC (EG (j9 iw (au (ba .Div (ak 9) ⇑8) (au (ba .Div (ba .Add ⇑1 (ba .Mod (ak 1) ⇑4)) ⇑4) (au (ba .Div (ba .Add ⇑1 (ba .Mod (ba .FloorDiv (ak 1) ⇑4) ⇑8)) ⇑8) aZ)))) (ak 2) (ak 8)) (aC (jz (bY .Gt (ak 4) (ak 5)) (aC (PP 5 6 (jh (k9 (ak 4)) (jh (k9 (ak 8)) EJ))) br) br) br)))) (aC (jz (bY .In (ak 8) ↥"ABCDEF") (aC (bZ (bk (ak 2) (eQ "str" kJ (ak 8) aZ)) (pT (eT (bf 10) (eT (bf 11) (eT (bf 12) pS))))) (aC (EG (ba .Mod (dJ rH (au (ba .Mult (bk (j9 i7 (au (ak 10) (au (ak 11) (au (ak 12) aZ)))) ⇑0) ⇑8) aZ)) ⇑8) (ak 3) (eQ "str" kJ (ak 8) aZ)) (aC (oy X9 (aX 0) (au (qC false (aX 0) (bk (ak 3) (eQ "str" kJ (ak 8) aZ))) aZ)) br))) br) br)) br)) br)) (jh (k9 (ak 3)) (jh (k9 (ak 5)) (jh (k9 (ak 6)) EJ)))))
def tz:List PV->Option PV:=GU ["text", "number", "lit", "hues", "depth", "deep", "first", "place", "sign", "free", "r", "g", "b"] [("used",0)] (fB (bf 0) (fB (bf 1) qS)) nu
def GX:Jc S 2 CM rA.body nu:=by walk_at "sd"
def WV:hV S 3 rA tz:=hV.Yh (.of 17 rfl rfl tt) (names:=["text", "number"]) (.loc tt (.loc tt .nil)) GX λpm=>bd2 λq q=>rfl
set_option maxHeartbeats 200000
def vG:PlainAttrs "re.Pattern" :=
 ⟨⟨"object.__getattribute__",by rw[g5,eA];kernel_rfl,rfl⟩,by rw[g5,eA];kernel_rfl⟩
def ze:Slot "re.Pattern" "search" "re.Pattern.search" :=
 .of (owner:= "re.Pattern") (n:= "search") (by rw[g5,eA];kernel_rfl) (by decide+kernel) (by decide+kernel) (by decide+kernel)
  (.inr (by decide+kernel)) (by rw[yO];kernel_rfl)
def GY:typeOf (.builtin "re.Pattern.search")=pure (.type "method_descriptor"):=by show builtinType _=_;rw[builtinType_eq_fast];rfl
def EU:entryFor table "re.Pattern.search" =aa Builtin.«re.Pattern.search»:=entryFor_of_tree so
def GZ (a b:Value):argsOk "re.Pattern.search" ⟨[a,b],[]⟩:=by unfold argsOk;rfl
noncomputable def xe:Nat->Sre.M->Option Sre.M
 |0,_=>ac
 |n+1,m=>if (m.runFor gu).outcome.isSome then aa (m.runFor gu) else xe n (m.runFor gu)
def CN (j:Nat):∀(n:Nat) (m m':Sre.M),j<=n->xe j m=aa m'->Q m' s->wpAny M A (Gd n m) Q E s:=by
 induction j with
 |zero=>exact λq q q q h q=>gq h
 |succ j ih=>
  intro n m m' hn h hq;induction n with
  |zero=>exact absurd hn (Oi _)
  |succ n=>
   have h:(if (m.runFor gu).outcome.isSome then aa (m.runFor gu) else xe j (m.runFor gu))=aa m':=h;unfold Gd;by_cases hs:(m.runFor gu).outcome.isSome
   ·rw[if_pos hs]at h;obtain rfl:=ag h;exact(if_pos hs)▸(aR hq)
   ·rw[if_neg hs]at h;show wpAny M A (if _ then _ else _) Q E s;rw[if_neg hs];exact am (Kr (ih n _ m' (mQ hn) h hq))
def G0 {f:Nat->PUnit->zV (ForInStep PUnit)} (p:Nat->Bool) (nm:Nat->String) (hf:∀i u,f i u=if p i=true then(do rule (nm i);pure (.yield ⟨⟩)) else pure (.yield ⟨⟩)) (hq:Q ⟨⟩ s) (l:Nz):
  wpAny M A (forIn l ⟨⟩ f) Q E s:=by
 induction l with
 |nil=>rw[qx];exact aR hq
 |cons i l ih=>
  rw[ub,hf];by_cases h:p i=true
  ·rw[if_pos h];exact am (am (Kr (aR ih)))
  ·rw[if_neg h];exact am (aR ih)
def yr (h:xe 1000 m=aa m') (h1:m'.outcome=aa .matched->Q (aa m') s) (h2:m'.outcome=aa .failed->Q ac s) (h3:m'.outcome=aa .matched\/m'.outcome=aa .failed):
  wpAny M A (C9 m) Q E s:=by
 unfold C9;refine am (CN 1000 _ m m' ∅ h ?_);refine am (G0 (λi=>m'.seen.has i) (λi=>Sre.names.getD i "") (λi u=>by by_cases h:m'.seen.has i=true<;>simp[h]) ?_ _);rcases h3 with(h|h)
 ·rw[h];exact aR (h1 h)
 ·rw[h];exact aR (h2 h)
def kM (code:Nz) (x:Str):Option Bool:=(xe 1000 (Sre.forSearch code.toArray x.cps 0 0 (min ((2 ^ 63- 1:Int).toNat) x.cps.size) false)).bind λm=>match m.outcome with
 |some .matched=>aa true
 |some .failed=>aa false
 |_=>ac
structure Lw (h:iQ) (P:Addr) (code:Nz):Prop where
 at':∃o fs oc C items n,h.get? P=aa o/\o.cls= .type "re.Pattern" /\o.data= .fields fs/\o.dict=ac/\fs.getD 6 .none= .int 0 0/\fs.getD 2 .none= .int 0 0/\fs.getD 5 .none= .ref C/\
  h.get? C=aa oc/\oc.data= .seq items n/\((items.map iB).map nS).toList=code
def Rel.pat (R:Rel S c O h) (hp:p∈rD):Lw h p.1 p.2.2:=by left;let ⟨o,fs,oc,items,n,h1,h2,h3,h4,h5,h6,h7,h8,h9,IB⟩:=S.pats p hp;right;exact⟨o,fs,oc,p.2.1,items,n,R.old h1 ((by decide:∀p∈rD,∀q∈cm,p.1≠q.2) p hp),h2,h3,h4,h5,h6,h7,R.old h8 ((by decide:∀p∈rD,∀q∈cm,p.2.1≠q.2) p hp),h9,IB⟩
section
variable {w:jB} {A:cR} {E:VS} {s:bb} {P:Addr} {code:Nz} {x:Str} {t:C6}
def G1 (h:Lw s.heap P code) (hq:Q {pattern:= .ref P,string:= .str x t,code:=code.toArray,text:=x.cps,kind:=0,groups:=0,pos:=0,lim:=min ((2 ^ 63- 1:Int).toNat) x.cps.size} s):
  wpAny (MM w) A (sM "re.Pattern.search" "search" ⟨[.ref P,.str x t],[]⟩) Q E s:=by
 left;let ⟨o,fs,oc,C,items,n,h1,h2,h3,h3',h4,h5,h6,h7,h8,h9⟩:=h.at';right;unfold sM;refine am (i5 (a:=[aa (.str x t),ac,ac]) (by with_unfolding_all rfl) ?_);dsimp only;refine am (aR (am (aR ?_)));refine am (wpAny_fieldsOf h1 h3 ?_);refine am (i5 (a:=(x.cps,0)) (by rfl) ?_);dsimp only;rw[h4,h5,h6];have nZ:(items.map iB).map nS=code.toArray:=by rw[<- h9]
 rw[if_neg ∅,if_neg ∅];refine am (i5 (a:=()) (by rfl) ?_);refine am ?_;unfold Builtin.Re.reRawItems;refine am (wpAny_seqItems h7 h8 (aR (aR ?_)));show Q {pattern:= .ref P,string:= .str x t,code:=(items.map iB).map nS,text:=x.cps,kind:=0,groups:=0,pos:=min 0 x.cps.size,lim:=min ((2 ^ 63- 1:Int).toNat) x.cps.size} s;rw[nZ,Nat.zero_min];exact hq
def G2 (h:Lw s.heap P code) (hb:kM code x=aa b) (h0:b=false->Q .none s)
  (h1:b=true->∀(h':iQ) (o:Obj),(∀a y,s.heap.get? a=aa y->h'.get? a=aa y)->h'.get? (s.heap.objs.size+1)=aa o->o.cls= .type "re.Match" ->o.dict=ac->Q (.ref (s.heap.objs.size+1)) {s with heap:=h'}):
  wpAny (MM w) A (call (.builtin "re.Pattern.search") [.ref P,.str x t]) Q E s:=by
 refine uT ze (by let ⟨o,_,_,_,_,_,h1,h2,_⟩:=h.at';exact⟨o,h1,h2⟩) EU ?_ (GZ _ _);show wpAny _ _ (do let t <- sM "re.Pattern.search" "search" _;FV t (Sre.forSearch t.code t.text t.groups t.pos t.lim false)) _ _ _;refine am (G1 h ?_);unfold FV;unfold kM at hb;let ⟨m,hm,hb⟩:=aG.mp hb;have h3:m.outcome=aa .matched/\b=true\/m.outcome=aa .failed/\b=false:=by
  revert hb;induction m.outcome with
  |none=>intro e;cases e
  |some o=>cases o<;>intro e<;>cases e<;>simp
 refine am (yr hm (λe=> ?_) (λe=> ?_) (h3.imp And.left And.left))
 ·have Su:b=true:=by
   rcases h3 with h|h
   ·exact h.2
   ·rw[h.1]at e;nomatch e
  unfold Builtin.Re.reNewMatch;simp only[List.range_zero,sz,List.any_nil,fw,if_false];refine am (am (wpAny_newTuple ?_));refine iE ?_ (by size_fits);refine aR ⟨_,rfl,?_⟩;rw[eU];refine h1 Su _ {cls:= .type "re.Match",data:= .fields #[.str x t,.ref P,rawInt ((0:Nat):Int),rawInt ((min ((2 ^ 63- 1:Int).toNat) x.cps.size:Nat):Int),rawInt m.lastindex,.ref s.heap.objs.size]} (λa y e=>aJ _ (aJ _ e)) ?_ rfl rfl;have:=aV (s.heap.push {cls:= .type "tuple",data:= .seq #[rawInt m.start,rawInt m.handed]}) (o:= {cls:= .type "re.Match",data:= .fields #[.str x t,.ref P,rawInt ((0:Nat):Int),rawInt ((min ((2 ^ 63- 1:Int).toNat) x.cps.size:Nat):Int),rawInt m.lastindex,.ref s.heap.objs.size]}) rfl;rw[eU]at this;exact this
 ·have Su:b=false:=by
   rcases h3 with h|h
   ·rw[h.1]at e;nomatch e
   ·exact h.2
  exact aR ⟨_,rfl,h0 Su⟩
def EV:typeLookup (.type "re.Match") "__bool__" =pure ac:=by rw[g5,eA];rfl
def G3:typeLookup (.type "re.Match") "__len__" =pure ac:=by rw[g5,eA];rfl
def EW (hT:s.TypeIs (.ref a) "re.Match") (h:Q true s):wpAny (MM w) A (truthy (.ref a)) Q E s:=by unfold truthy;refine am (wpAny_callSpecial?_none hT EV ?_);refine am (wpAny_specialOf hT G3 ?_);exact aR h
def truthy_none (h:Q false s):wpAny (MM w) A (truthy .none) Q E s:=aR h
end
noncomputable abbrev a6:Str:=ah "_headers"
def qW:typeLookup (.type "object") a6=pure ac:=by rw[g5,eA];rfl
def vf:typeLookup (.type "object") "_convert_string_type" =pure ac:=by rw[g5,eA];rfl
def zO:typeLookup (.type "object") "get_all" =pure ac:=by rw[g5,eA];rfl
def Bn:typeLookup (.type "object") "items" =pure ac:=by rw[g5,eA];rfl
def rO:typeLookup (.type "object") "add_header" =pure ac:=by rw[g5,eA];rfl
def Rel.clsAt (R:Rel S c O h):∃nm q bs sn sub OT dd k0 k1 k2 k3 k5 mN,h.get? 182=aa (excClassObj nm q 182 181 bs [.type "object"] true sn sub false OT dd k0 k1 k2 k3 k5 "object.__new__")/\h.Ns 181 mN/\∀p∈iV,mN p.1=p.2:=by left;let ⟨nm,q,bs,sn,sub,OT,dd,k0,k1,k2,k3,k5,h1⟩:=S.cls;let ⟨mN,h2,h3⟩:=S.D3;right;exact⟨nm,q,bs,sn,sub,OT,dd,k0,k1,k2,k3,k5,mN,R.old h1 ∅,R.u6 h2 ∅,h3⟩
def Rel.inst (R:Rel S c O h) (hi:O[i]? =aa (.attrs m)) (hv:cT S.w c ↑O v (.inst i)):
  ∃a o mA,v= .ref a/\c.F a=aa o/\o.dict=aa (c.Z i)/\h.Inst a 182 mA/\(∀x d,(x,d)∈m->∃u,mA x=aa u/\cT S.w c ↑O u d)/\∀x,x∉m.map (·.1)->mA x=ac:=by
 let ⟨a,o,rfl,h1,h2,h3,h4,h5⟩:=hv.afa;obtain(⟨oD,hoD,hr⟩):=R.own _ _ hi;let ⟨es,ep,e1,e2,e3,e4,e5,e6⟩:=hr.XY;refine⟨a,o,λx=>nsFind es x,rfl,h1,h4,⟨o,R.frozen _ _ h1,h2,h3,.inr ⟨c.Z i,h4,λe=> ?_,oD,es,ep,hoD,e1,e2,e3,λq=>rfl⟩⟩,e5,e6⟩;have:=R.apart i h5;rw[e,h1]at this;nomatch this
def Lx (h:ck S k O ae args ds) (hk:o7 S k O ae zR OB) (pos:Pos) (env:lW) (hn: ↑args+ ↑zR<20):
  methodCallForm (↑args+ ↑zR) (backTo pos (starEach args env)) (backToKw pos (keywordEach zR env))=true:=by
 have h1:(backTo pos (starEach args env)).all (λx=> !x.1)=true:=by have:=noStar h pos env;rw[Iv];simpa using this
 unfold methodCallForm;have h3: ↑args+ ↑zR+(if (backToKw pos (keywordEach zR env)).isEmpty=true then 0 else 1)<30:=by
  have:(if (backToKw pos (keywordEach zR env)).isEmpty=true then 0 else 1)<=1:=by split<;>(first|exact abP|exact abQ)
  exact abR hn this
 rw[dj,dj];exact⟨⟨h1,((KX hk pos env).1)⟩,decide_eq_true h3⟩
def Ev.ul (hr:r∈fV) (FL:(name,aa (.ref r.addr))∈iV)
  (ZJ:typeLookup (.type "object") name=pure ac) (h:Ev S k O ae o (.inst i) O) (hi:O[i]? =aa (.attrs m)) (hm:name∉m.map (·.1)) (ha:ck S k O ae args ds) (hk:o7 S k O ae zR OB) (hc:dy S k O (.pv (.con (.ref r.addr))) (.inst i::ds) OB d bv)
  (ik:∀env,attributeBase o name env (eval o env)=eval o env) (gC:(jw.endLine==pos.line)=true) (hn: ↑args+ ↑zR<20):Ev S k O ae (.Call (.Attribute o name jw) args zR pos) d bv:=by
 refine⟨hc.len,λA c s env hA hE R E Q hQ=> ?_⟩;rw[arm_eval_Call,ik];refine am (h.run A c s env hA hE R _ _ λc1 v1 s1 l1 R1 K1 a1=> ?_);refine am (cV ?_);unfold methodCall;rw[(Lx ha hk pos env hn)];left;let ⟨x,ox,mA,rfl,hFx,hdx,hI,ZK,Vw⟩:=R1.inst hi a1;let ⟨nm,q,bs,sn,sub,OT,dd,k0,k1,k2,k3,k5,mN,hC,vj,hN⟩:=R1.clsAt;let ⟨of,pm,Kl,Oa,FQ,_⟩:=R1.fn hr;let ⟨hp,g,d',t,os⟩:=s1;right;refine am (dH (method_of hC vj (hN (ah "__getattribute__",ac) (by unfold iV;walk_at "a")) (hN (ah "__getattr__",ac) (by unfold iV;walk_at "a")) (hN _ FL) Kl Oa ZJ hI (Vw _ hm) ?_));refine am (i5 (by unfold methodCallPos;simp[gC]:methodCallPos true o env jw pos=pure pos) ?_);refine fJ (o:=of) (fd:=r.fd pm) ?_;refine nh ha hk _ pos A c1 _ env hA (hE.mono l1 (ab _)) R1 _ _ λc2 vs kvs s2 l2 R2 K2 a2 k2 b2=> ?_;have Km:s2.heap.get? r.addr=aa of:=by
  let ⟨FF,_,h0,_,_,_⟩:=S.fns r hr;have oO:∀q∈cm,r.addr≠q.2:=by
   have:∀r∈fV,∀q∈cm,r.addr≠q.2:=by decide
   exact this r hr
  have y1:hp.get? r.addr=aa of:=Kl;have x1':hp.get? r.addr=aa FF:=(R1.old h0 oO);rw[x1']at y1;obtain rfl:=ag y1;exact(R2.old h0 oO)
 exact⟨⟨Km,FQ⟩,hc.run A c2 s2 _ (_::vs) kvs hA R2 (.pv (.con _)) (.cons (a1.mono l2 (ab _)) a2) k2 b2 E Q λc3 v3 s3 l3 R3 K3 a3=>hQ c3 v3 s3 ((l1.trans l2 (ab _)).trans l3 (ab _)) R3 ((K1.trans K2).trans K3) a3⟩
def Ev.EX (h:Ev S k O ae (.Name n np) (.inst i) O) (hi:O[i]? =aa (.attrs m)) (hm:(a6,AV.fM j)∈m):Ev S k O ae (.Attribute (.Name n np) a6 pos) (.fM j) O:=by
 refine⟨ab _,λA c s env hA hE R E Q hQ=> ?_⟩;refine PyProof.Rows.Attribute_name (h.run A c s env hA hE R _ _ λc1 v1 s1 l1 R1 K1 a1=> ?_);left;let ⟨x,ox,mA,rfl,hFx,hdx,hI,ZK,Vw⟩:=R1.inst hi a1;let ⟨nm,q,bs,sn,sub,OT,dd,k0,k1,k2,k3,k5,mN,hC,vj,hN⟩:=R1.clsAt;let ⟨u,hu,hd⟩:=ZK _ _ hm;right;have hho:handedOut u=pure u:=by cases hd;rfl
 let ⟨hp,g,d',t,os⟩:=s1;refine load_attr hC vj (hN (ah "__getattribute__",ac) (by unfold iV;walk_at "a")) (hN (ah "_headers",ac) (by unfold iV;walk_at "a")) qW hI hu hho ?_;exact hQ c1 u _ l1 R1 (K1.trans ⟨rfl,λz z e=>e,λe=>e⟩) hd
def P0 (l:List PV):List CO:=[.attrs [(a6,.ob 1)],.list l]
def yt (loc:List Str) (own:Sn) (l:List PV):St:=Du loc own (P0 l)
def oiM (O:List AO) (r:eh) (i h j:Nat):Nat:=if j=0 then i else if j=1 then h else ↑O+1+fj r.scope.names+(j- 2)
def pU.atM (F:pU r loc own) (hi:O[i]? =aa (.attrs [(a6,.fM h)])) (hh:O[h]? =aa (.list l)) (yK:i≠h):At (eW r loc own) (Be O own (oiM O r i h)) (yt loc own l) (ent O r loc):=by
 have h2:∀j,j< ↑(P0 l)->j=0\/j=1:=λj hj=>V3 hj;refine F.at (λj o ho=> ?_) (λa b ha hb e=> ?_) λj=> ?_
 ·rcases h2 j (getElem?_lt' ho)with rfl|rfl
  ·obtain rfl:=ag ho;exact hi
  ·obtain rfl:=ag ho;exact hh
 ·rcases h2 a ha with rfl|rfl<;>rcases h2 b hb with rfl|rfl
  ·rfl
  ·exact absurd e yK
  ·exact absurd e yK.symm
  ·rfl
 ·show(if 2+j=0 then i else if 2+j=1 then h else ↑O+1+fj r.scope.names+(2+j- 2))=_;rw[if_neg abU,if_neg abV];exact abW
def G4 (hs:ko (eW r loc own) (Be O own (oiM O r i h)) (yt loc own l) cf (ent O r loc) nA) (hi:O[i]? =aa (.attrs [(a6,.fM h)])) (hh:h< ↑O)
  (b:At lay (Be O own (oiM O r i h)) cf nA) (h0:cf.ob[0]? =aa (.attrs [(a6,.ob 1)])) (h1:cf.ob[1]? =aa (.list l')):∃τ,nA=O.set h (.list l')++τ:=by
 have aj4:nA[i]? =aa (.attrs [(a6,.fM h)]):=b.obs 0 _ h0;have aj5:nA[h]? =aa (.list l'):=b.obs 1 _ h1;refine rL λx hx=> ?_;rw[bi]at hx;by_cases hxh:h=x
 ·subst hxh;rw[bU hh];exact aj5
 ·rw[bD hxh];by_cases hxi:x=i
  ·subst hxi;rw[hi];exact aj4
  ·exact hs.pre hx λj hj e=>by
    rcases V3 hj with rfl|rfl
    ·exact hxi e
    ·exact hxh e.symm
def flV:pj->Option PV
 | .next=>aa PV.none
 | .ret (.pv d)=>aa d
 |_=>ac
def hdO:Option CO->Option Unit
 |some (.attrs [(n,.ob j)])=>if (n==a6&&j==1)=true then aa () else ac
 |_=>ac
def xf (r1:pj) (a b:Option CO):Option (PV×List PV):=(flV r1).bind λd=>(hdO a).bind λq=>(S5 b).map λl=>(d,l)
def Ul (h:flV r=aa d):r= .next/\d=PV.none\/r= .ret (.pv d):=by
 induction r with
 |next=>exact .inl ⟨rfl,(ag h).symm⟩
 |ret v=>induction v with
  |pv x=>obtain rfl:=ag h;exact .inr rfl
  |_=>exact gq h
def Um (h:hdO a=aa u):a=aa (.attrs [(a6,.ob 1)]):=by
 induction a with
 |none=>exact gq h
 |some o=>induction o with
  |attrs m=>induction m with
   |nil=>exact gq h
   |cons q m=>
    let ⟨n,w⟩:=q;induction w with
    |ob j=>induction m with
     |nil=>have e:=(dT h).1;rw[dj,beq_iff_eq,beq_iff_eq]at e;rw[e.1,e.2]
     |cons=>exact gq h
    |_=>exact gq h
  |_=>exact gq h
def um (loc:List Str) (own:Sn) (tg:List CV->St->Option St) (F:St->Option (pj×St)) (l:List PV) (ds:List PV):Option (PV×List PV):=
 (tg (.inst 0::ds.map CV.pv) (yt loc own l)).bind λst=>(F st).bind λr=>xf r.1 r.2.ob[0]? r.2.ob[1]?
def zf (h:xf r1 a b=aa (d,l')):(r1= .next/\d=PV.none\/r1= .ret (.pv d))/\a=aa (.attrs [(a6,.ob 1)])/\b=aa (.list l'):=by let ⟨d,h1,h⟩:=aG.mp h;let ⟨u,h2,h⟩:=aG.mp h;let ⟨l,h3,h⟩:=ar.mp h;let ⟨rfl,rfl⟩:=bG h;exact⟨Ul h1,Um h2,uh h3⟩
def Ly (oi:NN) (ds:List PV):(CV.inst 0::ds.map CV.pv).map (CV.av oi)=AV.inst (oi 0)::ds.map AV.pv:=by rw[bx,I3];rfl
def dy.sY (F:pU r loc own) (Vu:kb S (eW r loc own) names tg) (dY:jZ S k (eW r loc own) r.body G)
  (hi:O[i]? =aa (.attrs [(a6,.fM h)])) (hh:O[h]? =aa (.list l)) (yK:i≠h) (H8:um loc own tg G l ds=aa (d,l'))
  (gr:∀pm,vC S k O (r.fd pm) args kw (names.zip (AV.inst i::ds.map AV.pv))):
  dy S (k+1) O (.pv (.con (.ref r.addr))) args kw (.pv d) (O.set h (.list l')):=by
 refine a9 H8 λst1 ZA H8=> ?_;refine a9 H8 λ⟨fl,cf⟩ hF FO=> ?_;let ⟨Kn,ho0,ho1⟩:=zf FO;have hhl:=getElem?_lt' hh;have bc:=F.atM hi hh yK;let ⟨lI,a1,l1,b1,c1,_⟩:=Vu _ _ _ _ st1 bc ZA;let ⟨nA,a,b,c⟩:=dY _ _ _ _ cf b1 hF;let ⟨τ,rfl⟩:=G4 (c1.trans c bc) hi hhl b ho0 ho1;rw[F.en]at a a1;rw[Ly]at a1;refine dy.Ds F (binds:=names.zip (AV.inst i::ds.map AV.pv)) gr a1 a bi (λj x hx=> ?_) ?_
 ·by_cases Ke:h=j
  ·subst Ke;rw[bU hhl]at hx;obtain rfl:=ag hx;exact .inr rfl
  ·rw[bD Ke]at hx;exact .inl hx
 ·rcases Kn with⟨rfl,rfl⟩|rfl
  ·exact .pv
  ·exact .pv
noncomputable abbrev codeOf (name:Bool):List Nat:=if name then [14,10,4,1,1,22,0,31,16,127,0,13,7,22,0,31,16,127,0,1] else [14,14,4,1,1,9,4294966783,0,0,2147483648,0,0,0,0,0,13,11,9,4294966783,0,0,2147483648,0,0,0,0,0,1]
noncomputable abbrev xg (name:Bool):Addr:=if name then 48 else 53
def Rel.xg (R:Rel S c O h) (b:Bool):Lw h (Mine.xg b) (codeOf b):=by
 cases b
 ·exact R.pat (p:=(53,52,codeOf false)) (.tail _ (.head _))
 ·exact R.pat (p:=(48,47,codeOf true)) (.head _)
def Ev.PC (h0:ou S k O ae t b) (h1:Ev S k O ae (if b=true then x else y) d O):Ev S k O ae (.IfExp t x y pos) d O:=by refine⟨ab _,λA c s env hA hE R E Q hQ=> ?_⟩;refine VD (h0 A c s env hA hE R _ _ λc1 s1 l1 R1 K1=> ?_);cases b<;>exact h1.run A c1 s1 env hA (hE.mono l1 (ab _)) R1 E Q λc2 v2 s2 l2 R2 K2 a2=>hQ c2 v2 s2 (l1.trans l2 (ab _)) R2 (K1.trans K2) a2
def ou.Bo (h:nH S k O ae e (PV.bool b)) (he:∀env zH,isTrue e env zH=(do let v <- zH;standAt e.pos;holding [v] (truthy v))):ou S k O ae e b:=λA c s env hA hE R E Q hQ=>
 sa (h.run A c s env hA hE R _ _ λc1 v1 s1 l1 R1 K1 a1=>by
  have e:=a1.dn;subst e;exact gc (hQ c1 s1 l1 R1 K1)) (he _ _)
def Ev.Lz (hf:nH S k O ae (.Name f np) (.con (.type "type"))) (h:nH S k O ae e (.str x)) (hs:notStar e=true):nH S k O ae (.Call (.Name f np) [e] [] pos) (.con (.type "str")):=by refine⟨ab _,λA c s env hA hE R E Q hQ=> ?_⟩;refine cn (hf.run A c s env hA hE R _ _ λc1 v1 s1 l1 R1 K1 a1=> ?_);have e':=a1.dn;subst e';refine ed (noStar (.cons h .nil hs) pos env) ?_;refine eg (.cons h .nil hs) _ pos A c1 s1 env hA (hE.mono l1 (ab _)) R1 _ _ λc2 vs s2 l2 R2 K2 a2=> ?_;have h9:=a2.i1;clear a2;let ⟨_,_,rfl,a2,b2⟩:=h9;obtain rfl:=b2.i0;have D7:=a2.gh;let ⟨t,rfl⟩:=D7.mD;exact call_type_of (sd ..) rfl (hQ c2 _ s2 (l1.trans l2 (ab _)) R2 (K1.trans K2) (.pv (.con _)))
def ou.P1 (ho:nH S k O ae o (.con (.ref (xg b)))) (he:nH S k O ae e (.str x)) (hs:notStar e=true) (hr:kM (codeOf b) x=aa r)
  (ik:∀env,attributeBase o "search" env (eval o env)=eval o env) (gC:(jw.endLine==pos.line)=true)
  (hi:∀env zH,isTrue (.Call (.Attribute o "search" jw) [e] [] pos) env zH=(do let v <- zH;standAt (Expr.Call (.Attribute o "search" jw) [e] [] pos).pos;holding [v] (truthy v))):
  ou S k O ae (.Call (.Attribute o "search" jw) [e] [] pos) r:=by
 intro A c s env hA hE R E Q hQ;have ha:ck S k O ae [e] [.pv (.str x)]:= .cons he .nil hs;refine sa ?_ (hi _ _);refine eK (ik env) (A3 ha pos env (by show 1<30;decide)) gC (ho.run A c s env hA hE R _ _ λc1 v1 s1 l1 R1 K1 a1=> ?_);have e':=a1.dn;subst e';left;let ⟨op,fs,oc,C,items,n,h1,h2,h3,h4,_⟩:=(R1.xg b).at';right;refine⟨"re.Pattern", "re.Pattern.search",vG,ze,GY,⟨op,h1,h2⟩,λa e=>by cases e;exact⟨op,h1,h4⟩,cX (noStar ha pos env) ?_⟩;refine eg ha _ pos A c1 s1 env hA (hE.mono l1 (ab _)) R1 _ _ λc2 vs s2 l2 R2 K2 a2=> ?_;have h9:=a2.i1;clear a2;let ⟨_,_,rfl,a2,b2⟩:=h9;cases b2;have D7:=a2.gh;let ⟨t,rfl⟩:=D7.mD;have uG:=l1.trans l2 (ab _);have K12:=K1.trans K2;refine G2 (R2.xg b) hr (λhr0=> ?_) λhr1 h' o hk ho Mi hod=> ?_
 ·subst hr0;exact truthy_none (hQ c2 s2 uG R2 K12)
 ·subst hr1;exact EW ⟨o,ho,Mi⟩ (hQ c2 _ uG (R2.ext hk) (K12.trans (.gF ..)))
noncomputable abbrev iU:Str:=ah "self"
noncomputable abbrev nK:Str:=ah "value"
noncomputable abbrev mz:Str:=ah "name"
noncomputable abbrev tA:Str:=ah "regex"
abbrev rC:eh:=mx
def P2:rC∈fV:=by unfold fV;walk_at "a"
def Bp:pP rC.scope [iU,nK,mz,tA]:=pP.of tt
def P4:ma rC.scope [ah "type",ah "str",ah "_name_disallowed_re",ah "_value_disallowed_re"]:=ma.of tt
def cG.one (hf:f= .ret d) (h:iW S k O ae st f bw):cG S k O ae (st::rest) f bw:=by subst hf;exact cG.ret h
def Bq (pm:Value):jE S O (rC.fd pm) [.inst i,.pv (.str x)] [(mz,.pv (PV.bool b))] [(iU,.inst i),(nK,.pv (.str x)),(mz,.pv (PV.bool b))]:=by
 intro c s vs kvs R ha hk HZ;rcases kvs with _|⟨⟨y,vk⟩,_|_⟩
 ·nomatch hk
 ·obtain rfl:y=mz:=(jH hk).1;let ⟨v5,_,e5,h5,_⟩:=HZ.i1;obtain rfl:vk=v5:=(jH e5).1;let ⟨va,r1,rfl,h1,ha1⟩:=ha.i1;let ⟨vx,r2,rfl,h2,Zx⟩:=ha1.i1;obtain rfl:=Zx.i0;exact⟨[(iU,va),(nK,vx),(mz,vk)],rfl,.cons h1 (.cons h2 (.cons h5 .nil)),Ti (by with_unfolding_all rfl)⟩
 ·nomatch (jH hk).2
def dy.conv (b:Bool) (hi:i< ↑O) (hb:kM (codeOf b) x=aa false):dy S (k+1) O (.pv (.con (.ref rC.addr))) [.inst i,.pv (.str x)] [(mz,.pv (PV.bool b))] (.pv (.str x)) O:=by
 have h1:=Bp;have h2:=P4;have dY:∃τ,cG S k (O++[AO.ns [(iU,aa (.inst i)),(nK,~~~(.str x)),(mz,~~~(PV.bool b)),(tA,ac)]]) (rC.env (↑O+0)) rC.body (.ret (.pv (.str x))) (O++τ):=by
  apply fX;apply cG.one rfl;apply iW.if (b:=true)
  ·apply ou.jq (a:= .pv (.con (.type "str"))) (b:= .pv (.con (.type "str")))
   ·apply Ev.Lz
    ·walk_at "b"
    ·walk_at "b"
    ·rfl
   ·walk_at "b"
   ·intro S k A c s u v hA R ha hb E Q hQ;have e1:=ha.dn;have e2:=hb.dn;subst e1 e2;exact nQ rfl (hQ c _ _ (.refl ..) R (.refl ..) (.pv (.con _)))
   ·rfl
  apply cG.cons (bw:=O++[AO.ns [(iU,aa (.inst i)),(nK,~~~(.str x)),(mz,~~~(PV.bool b)),(tA,~~~(.con (.ref (xg b))))]])
  ·apply iW.assign
   ·apply Ev.PC (b:=b) (d:= .pv (.con (.ref (xg b))))
    ·apply ou.Bo
     ·walk_at "b"
     ·intro _ _;rfl
    ·cases b
     ·rw[if_neg bF];apply Ev.CG (v:= .ref 53) h2
      ·rfl
      ·walk_at "a"
      ·unfold cg;walk_at "a"
      ·rfl
     ·rw[if_pos rfl];apply Ev.CG (v:= .ref 48) h2
      ·rfl
      ·walk_at "a"
      ·unfold cg;walk_at "a"
      ·rfl
   ·apply jY.AM h1
    ·rfl
    ·walk_at "a"
    ·walk_at "e"
    ·walk_at "c"
    ·walk_at "d"
   ·intro _ _;rfl
  apply cG.cons
  ·apply iW.if (b:=false)
   ·apply ou.P1 (b:=b)
    ·walk_at "b"
    ·walk_at "b"
    ·rfl
    ·exact hb
    ·intro _;rfl
    ·rfl
    ·intro _ _;rfl
   ·exact cG.nil
  walk_at "h"
 let ⟨τ,dY⟩:=dY;refine dy.def (.of 21 rfl rfl tt) (binds:=[(iU,.inst i),(nK,.pv (.str x)),(mz,.pv (PV.bool b))]) (others:=[tA]) (λpm=> ?_) (lk Bp [iU,nK,mz] tt) rfl dY rfl (λi x h=> .inl h) .pv;exact Bq pm
section
variable {lay:Lay}
noncomputable def CV.aN:CV->Option Nat
 | .inst a=>aa a
 |_=>ac
def CV.kN {v:CV} (h:v.aN=aa a):v= .inst a:=by
 induction v with
 |inst d=>exact congrArg CV.inst (ag h)
 |_=>exact gq h
noncomputable def CO.a1:CO->Option (Str×CV)
 | .attrs [q]=>aa q
 |_=>ac
def CO.k1 {o:CO} (h:o.a1=aa q):o= .attrs [(q.1,q.2)]:=by
 induction o with
 |attrs m=>
  rcases m with _|⟨u,_|_⟩
  ·exact gq h
  ·exact congrArg (λq:Str×CV=>CO.attrs [q]) (ag h)
  ·exact gq h
 |_=>exact gq h
def sq (f:EF) (st:St):Option CV:=((f st).bind CV.aN).bind λj=>((st.ob[j]?).bind CO.a1).bind λq=>q.2.aO.bind λh=>if (q.1==a6)=true then aa (.ob h) else ac
def Jd (h:sq f st=aa v):∃j g,f st=aa (.inst j)/\st.ob[j]? =aa (CO.attrs [(a6,.ob g)])/\v= .ob g:=by refine a9 h λj h1 h=>a9 h1 λq h1 e1=>a9 h λq h2 h=>a9 h2 λq h2 e2=>a9 h λg e3 h=> ?_;have h:=dT h;refine⟨j,g,(CV.kN e1)▸h1,?_,h.2.symm⟩;rw[h2,CO.k1 e2,CV.kO e3,beq_iff_eq.mp h.1]
def cS.ajm (h:cS S k lay (.Name n np) f):cS S k lay (.Attribute (.Name n np) a6 pos) (sq f):=by intro p O st v bc hf;let ⟨j,g,h1,h2,rfl⟩:=Jd hf;exact Ev.EX (h p O st _ bc h1) (bc.obs j _ h2) (ay)
def Br (w b:Bool) (f fe:EF) (st:St):Option CV:=((f st).bind CV.aN).bind λj=>((fe st).bind CV.aS).bind λx=>((st.ob[j]?).bind CO.a1).bind λq=>
 if q.1==a6/\kM (codeOf b) x=aa w then ~~~(.str x) else ac
def Bs (hf:Br w b f fe st=aa v) {G:Prop} (k:∀j x u,f st=aa (.inst j)->fe st= ~~~(.str x)->st.ob[j]? =aa (.attrs [(a6,u)])->kM (codeOf b) x=aa w->v= .pv (.str x)->G):G:=by refine a9 hf λj hj hf=>a9 hj λz hj e1=>a9 hf λx hx hf=>a9 hx λz hx e2=>a9 hf λq ha hf=>a9 ha λz ha e3=> ?_;let ⟨hh,e⟩:=dT hf;exact k j x q.2 (hj.trans (congrArg aa (CV.kN e1))) (hx.trans (congrArg aa (CV.kS e2))) (by rw[ha,CO.k1 e3,beq_iff_eq.mp hh.1]) hh.2 e.symm
def yu (h1:f st=aa (.inst j)) (h2:fe st= ~~~(.str x)) (h3:st.ob[j]? =aa (.attrs [(a6,v)])) (h4:kM (codeOf b) x=aa w):Br w b f fe st= ~~~(.str x):=by unfold Br;rw[h1,h2];show((st.ob[j]?).bind CO.a1).bind _=_;rw[h3];exact if_pos ⟨beq_self_eq_true a6,h4⟩
def ql:Bool->(St->Option CV)->(St->Option CV)->St->Option CV:=Br false
def cS.conv (hk:1<=k) (h:cS S k lay o f) (he:cS S k lay e fe) (hs:notStar e=true) (ik:∀env,attributeBase o "_convert_string_type" env (eval o env)=eval o env) (gC:(jw.endLine==pos.line)=true):
  cS S k lay (.Call (.Attribute o "_convert_string_type" jw) [e] [⟨aa mz,.Constant (.bool b) n FJ,kp⟩] pos) (ql b f fe):=by
 intro p O st v bc hf;refine Bs hf λj x u hj hx ha hh e=> ?_;subst e;have FI:=bc.obs j _ ha;obtain⟨k',rfl⟩:∃k',k=k'+1:=⟨k- 1,by simp_all⟩;exact Ev.ul (r:=rC) P2 (by unfold iV;show(_,aa (eM 83))∈_;walk_at "a") vf (h p O st _ bc hj) FI (by show _∉ [a6];decide) (.cons (he p O st _ bc hx) .nil hs) (.cons Ev.bool .nil) (dy.conv (k:=k') b (getElem?_lt' FI) hh) ik gC (by show 1+1<20;decide)
def P5 (f:EF) (st:St):Option (pj×St):=((f st).bind CV.aDc).bind λl=>match l with
 | []=>aa (.next,st)
 |_::_=>ac
def mu.M1 (h:cS S k lay o f) (ik:∀env,attributeBase o "items" env (eval o env)=eval o env) (gC:(jw.endLine==FJ.line)=true):
  mu S k lay (.For cD (.Call (.Attribute o "items" jw) [] [] FJ) body [] pos) (P5 f):=by
 intro p O st fl cf bc hf;refine a9 hf λl hd hf=>a9 hd λq hd e=> ?_;rw[CV.kDc e]at hd;cases l
 rotate_left
 ·exact gq hf
 let ⟨rfl,rfl⟩:=bG (ag hf);refine⟨O,⟨ab _,λA c s env hA hE R E Q hQ=> ?_⟩,bc,.refl ..⟩;refine OH ?_ (λq=>rfl);refine eK (ik env) rfl gC ((h p O st _ bc hd).run A c s env hA hE R _ _ λc2 v2 s2 l2 R2 K2 a2=> ?_);let ⟨hT,tT⟩:=z4 bc (v:= .pv (.oK [])) (T:= "dict") rfl R2 a2;refine⟨"dict", "dict.items",F.plainAttrs_dict,F.slot_dict_items,F.type_dict_items,hT,tT,cX rfl ?_⟩;refine eg .nil _ FJ A c2 s2 env hA (hE.mono l2 (ab _)) R2 _ _ λc3 vs s3 l3 R3 K3 a3=> ?_;left;obtain rfl:=a3.i0;let ⟨a,es,ep,kvs,rfl,Sq,ho,nd,hp⟩:=S6.val.at R3 (a2.mono l3 (ab _));have FN:=hp.dictOf ho nd;right;have hk0:kvs=[]:=by have:=congrArg eX hp.keys;simp at this;exact this
 subst hk0;refine call_meetsIn F.slot_dict_items (mG FN).typeIs F.entry_dict_items (F.args_dict_items_1 _) (meets_dict_items (strKind pw S.w) a Sq) ⟨⟨[],mG FN⟩,?_⟩;refine wpAny_pyIter_items (knd:=strKind pw S.w) (kvs:=[]) (ep:=ep) ⟨_,aV _ rfl,rfl,rfl⟩ (FN.keep λb o e=>aJ _ e) ?_;refine fb ?_;rw[cy (by rfl)];show wpAny _ A ((forTurn _ _ _ _ env).onRaise (λx=>do noteFrame x env;theTreesLotGoes x)) _ _ _;refine jA ?_;simp only[forTurn];refine am (cV (am (kA ?_)));refine wpAny_pyNext_items_end (knd:=strKind pw S.w) (kvs:=[]) (i:=0) (ep:=ep) (ok:= .none) (ov:= .none) hA.hn (aV _ rfl) ((FN.keep λb o e=>aJ _ e).keep λb o e=>aJ _ e) rfl λh' hb=> ?_;refine aR ⟨rfl,Ax (jy ?_)⟩;refine hQ c3 .next _ (l2.trans l3 (ab _)) (R3.ext λb o e=> ?_) ((K2.trans K3).trans (.gF ..)) .next;exact hb b o (by simp only[eU];exact cU (eI (bW e))) (aJ _ (aJ _ e))
end
set_option maxHeartbeats 4000000
local macro_rules | `(tactic| walk_at "sd") => pure (wf (["kb; nil; loc; nj", "cS; ajm; conv; ahD Cx; ahD GV; ahD Dw; ahD WU; ahD S9; ahD WV", "mu; M1"].map wz))
def zg:Lay:=eW qM ["self"] [("name",0)]
def xj:fS:=lO [([46,48],.local),([107,118],.local),([110,97,109,101],.free)] ["kv"] [] [("name",0)]
def oU:SF:=(aC (bZ (ql true (ak 0) (eQ "str" kJ (aX 0) aZ)) (jI 0)) (aC (i6 (ei xj (GC (sq (ak 0))) (dN (bf 0) (bY .Eq (eQ "str" kJ (bk (ak 0) ⇑0) aZ) (aX 0)) (gO (bk (ak 0) ⇑1))))) br))
def Dx:List CV->St->Option St:=(fB (bf 0) (fB (jI 0) qS))
def kq:List PV->List PV->Option (PV×List PV):=um ["self"] [("name",0)] Dx oU
def M2:kb S zg ["self", "name"] Dx:=by walk_at "sd"
def M3:jZ S 1 zg qM.body oU:=by walk_at "sd"
def Dy:Lay:=eW wB ["self"] []
def uo:SF:=(aC (i6 (fN (sq (ak 0)) eD eD eD)) br)
def LA:List CV->St->Option St:=(fB (bf 0) qS)
def xk:List PV->List PV->Option (PV×List PV):=um ["self"] [] LA uo
def Un:kb S Dy ["self"] LA:=by walk_at "sd"
def Uo:jZ S 0 Dy wB.body uo:=by walk_at "sd"
def mh:Lay:=eW fy ["self", "_name", "_value", "_params", "parts", "k", "v"] []
def mi:SF:=(aC (CI (.list []) (bf 4)) (aC (jz (bY .IsNot (ak 2) (jg PV.none)) (aC (bZ (ql false (ak 0) (ak 2)) (bf 2)) (aC (oy gZ (ak 4) (au (ak 2) aZ)) br)) br) (aC (P5 (ak 3)) (aC (oy gZ (sq (ak 0)) (au (jb (au (ql true (ak 0) (ak 1)) (au (eQ "str" A5 ↥"; " (au (ak 4) aZ)) aZ))) aZ)) br))))
def oE:List CV->St->Option St:=(fB (bf 0) (fB (bf 1) (fB (bf 2) (fB (bf 3) qS))))
def oF:List PV->List PV->Option (PV×List PV):=um ["self", "_name", "_value", "_params", "parts", "k", "v"] [] oE mi
def rP:kb S mh ["self", "_name", "_value", "_params"] oE:=by walk_at "sd"
def EY:jZ S 1 mh fy.body mi:=by walk_at "sd"
set_option maxHeartbeats 200000
noncomputable abbrev Je:Str:=ah "_name"
noncomputable abbrev EZ:Str:=ah "_value"
noncomputable abbrev Bt:Str:=ah "_params"
def set_same (h:O[i]? =aa x):O.set i x=O:=by
 apply ro;intro j;by_cases Ke:i=j
 ·subst Ke;rw[bU (getElem?_lt' h),h]
 ·rw[bD Ke]
def Yi:qM∈fV:=by unfold fV;walk_at "a"
def Yj:wB∈fV:=by unfold fV;walk_at "a"
def Jf:fy∈fV:=by unfold fV;walk_at "a"
def dy.P6 (hi:O[i]? =aa (.attrs [(a6,.fM h)])) (hh:O[h]? =aa (.list l)) (yK:i≠h) (hm:kq l [.str x]=aa (d,l')):
  dy S 2 O (.pv (.con (.ref qM.addr))) [.inst i,.pv (.str x)] [] (.pv d) (O.set h (.list l')):=
 dy.sY (.of 22 rfl rfl rfl) M2 M3 hi hh yK hm (λpm=>(jE.plain (args:=[.inst i,.pv (.str x)]) rfl (bd2 λq q=>rfl)).B)
def dy.items (hi:O[i]? =aa (.attrs [(a6,.fM h)])) (hh:O[h]? =aa (.list l)) (yK:i≠h) (hm:xk l []=aa (d,l')):
  dy S 1 O (.pv (.con (.ref wB.addr))) [.inst i] [] (.pv d) (O.set h (.list l')):=
 dy.sY (.of 23 rfl rfl rfl) Un Uo hi hh yK hm (λpm=>(jE.plain (args:=[.inst i]) rfl (S8 λq=>rfl)).B)
def nL (pm:Value):vC S k O (fy.fd pm) [.inst i,x,y] [] [(iU,.inst i),(Je,x),(EZ,y),(Bt,.pv (.oK []))]:=by
 intro A c s vs kvs _ R ha hk HZ E Q hQ;have ZI:kvs=[]:=by induction kvs with|nil=>rfl|cons _ _=>nomatch hk
 subst ZI;have h9:=ha.i1;clear ha;let ⟨v0,_,rfl,h0,ha⟩:=h9;have h9:=ha.i1;clear ha;let ⟨v1,_,rfl,h1,ha⟩:=h9;have h9:=ha.i1;clear ha;let ⟨v2,_,rfl,h2,ha⟩:=h9;obtain rfl:=ha.i0;have hF:=R.oq (ab s.heap.objs.size);have hnm:(s.heap.objs.size==sysModules)=false:=by let ⟨o,ho⟩:=S.mods;have:=bW (R.old ho ∅);exact beq_eq_false_iff_ne.mpr (jS this)
 have fin:=hQ (c.put s.heap.objs.size {cls:= .type "dict",data:= .dict #[]}) [(iU,v0),(Je,v1),(EZ,v2),(Bt,.ref s.heap.objs.size)] {s with heap:=s.heap.push {cls:= .type "dict",data:= .dict #[]}} (aM.dC hF)
  (R.put (λb o e=>aJ _ e) (ab _) (aV _ rfl)) (.gF ..) rfl
  (.cons (h0.mono (aM.dC hF) (ab _)) (.cons (h1.mono (aM.dC hF) (ab _)) (.cons (h2.mono (aM.dC hF) (ab _)) (.cons (.pv (.oK hnm (if_pos rfl) rfl kE (λi e k d h=>by simp at h) λi e k d h=>by simp at h)) .nil))))
 have e:bindArgs (fy.fd pm) ⟨[v0,v1,v2],[]⟩=(PySem.alloc {cls:= .type "dict",data:= .dict #[]} >>= λd=>pure [(iU,v0),(Je,v1),(EZ,v2),(Bt,.ref d)]):=by with_unfolding_all rfl
 rw[e];exact am (F9 (aR fin))
def dy.Dz (hi:O[i]? =aa (.attrs [(a6,.fM h)])) (hh:O[h]? =aa (.list l)) (yK:i≠h) (hm:oF l [.str x,.str y,.oK []]=aa (d,l')):
  dy S 2 O (.pv (.con (.ref fy.addr))) [.inst i,.pv (.str x),.pv (.str y)] [] (.pv d) (O.set h (.list l')):=
 dy.sY (.of 24 rfl rfl rfl) rP EY hi hh yK hm (λpm=>nL pm)
section
variable {lay:Lay}
def St.Jg (st:St) (v:CV):Option (Nat×List PV):=v.aN.bind λj=>((st.ob[j]?).bind CO.a1).bind λq=>q.2.aO.bind λh=>(S5 st.ob[h]?).bind λl=>if (q.1==a6)=true then aa (h,l) else ac
def G5 {st:St} (e:st.Jg v=aa (h,l)):∃j,v= .inst j/\st.ob[j]? =aa (CO.attrs [(a6,.ob h)])/\st.ob[h]? =aa (CO.list l):=by refine a9 e λj e1 e=>a9 e λq e2 e=>a9 e2 λq e2 e3=>a9 e λg e4 e=>a9 e λm e5 e=> ?_;let ⟨hn,e⟩:=dT e;let ⟨rfl,rfl⟩:=bG e;exact⟨j,CV.kN e1,by rw[e2,CO.k1 e3,CV.kO e4,beq_iff_eq.mp hn],uh e5⟩
def At.Jg (bc:At lay p st O) (e:st.Jg v=aa (h,l)):∃i,v.av p.oi= .inst i/\O[i]? =aa (.attrs [(a6,.fM (p.oi h))])/\O[p.oi h]? =aa (.list l)/\i≠p.oi h:=by let ⟨j,rfl,h1,h2⟩:=G5 e;refine⟨p.oi j,rfl,(bc.obs j _ h1),(bc.obs h _ h2),λe=> ?_⟩;have:=bc.Vi j h (getElem?_lt' h1) (getElem?_lt' h2) e;subst this;rw[h1]at h2;nomatch h2
def gM (F:St->Option (pj×St)):Prop:=∀st fl cf,F st=aa (fl,cf)->cf.ob=st.ob
def gM.nil:gM br:=λst fl cf h=>by let ⟨rfl,rfl⟩:=bG (ag h);rfl
def gM.cons (h1:gM f) (h2:gM g):gM (aC f g):=λst fl cf h=>by
 rcases qQ h with⟨st1,e,h⟩|⟨v,e,rfl⟩
 ·exact(h2 _ _ _ h).trans (h1 _ _ _ e)
 ·exact h1 _ _ _ e
def gM.ret:gM (i6 f):=λst fl cf h=>by unfold i6 at h;let ⟨v,_,e⟩:=ar.mp h;let ⟨rfl,rfl⟩:=bG e;rfl
def gM.ajn:gM (bZ f (jI i)):=λst fl cf h=>by unfold bZ at h;simp only[ar,aG]at h;let ⟨st1,⟨v,_,e1⟩,e⟩:=h;let ⟨rfl,rfl⟩:=bG e;obtain rfl:=ag e1;rfl
def gM.sY (hF:gM F) (Vu:∀ds st cf,tg ds st=aa cf->cf.ob=st.ob) (h:um loc own tg F l ds=aa (d,l')):l'=l:=by unfold um at h;simp only[aG]at h;let ⟨st1,h1,⟨fl,st2⟩,h2,h3⟩:=h;let ⟨_,_,e⟩:=zf h3;have e':st2.ob[1]? =aa (CO.list l'):=e;rw[hF _ _ _ h2,Vu _ _ _ h1]at e';cases e';rfl
def vH (hg:∀ds st cf,g ds st=aa cf->cf.ob=st.ob) (f:CV->St->Option St) (hf:f=bf i\/f=jI i):∀ds st cf,fB f g ds st=aa cf->cf.ob=st.ob:=λds st cf h=>by
 induction ds with
 |nil=>cases h
 |cons d ds=>
  rcases hf with rfl|rfl
  ·exact(hg ds _ cf h).trans rfl
  ·exact(hg ds _ cf h).trans rfl
def DA:∀ds st cf,qS ds st=aa cf->cf.ob=st.ob:=λds st cf h=>by
 induction ds with
 |nil=>obtain rfl:=ag h;rfl
 |cons=>nomatch h
def E0 (h:kq l ds=aa (d,l')):l'=l:=
 gM.sY (F:=oU) (gM.cons gM.ajn (gM.cons gM.ret gM.nil)) (vH (vH DA _ (.inr rfl)) _ (.inl rfl)) h
def G6 (h:xk l ds=aa (d,l')):l'=l:=
 gM.sY (F:=uo) (gM.cons gM.ret gM.nil) (vH DA _ (.inl rfl)) h
end
def Rel.WW {c:aM} {h:iQ} (R:Rel S c O h) {a:Addr} (ha:h.get? a=ac):qz c ↑O a where
 F:=by
  cases e:c.F a with
  |none=>rfl
  |some o=>rw[R.frozen _ _ e]at ha;nomatch ha
 Z:=λi hi e=>by let ⟨o,ho,_⟩:=R.own i O[i] (aq hi);rw[e,ha]at ho;nomatch ho
 pin:=by
  cases e:c.pin a with
  |none=>rfl
  |some o=>rw[(R.pins a o e).1]at ha;nomatch ha
 tab:=λq hq e=>by let ⟨_,_,ps,d,_⟩:=R.tabs q hq;rw[e,ha]at d;nomatch d
def Rel.ajo {c:aM} {h h':iQ} (R:Rel S c O h) {a:Addr} {o:Obj} {ao:AO} (k:∀b o,h.get? b=aa o->h'.get? b=aa o) (hf:qz c ↑O a) (ho:h'.get? a=aa o)
  (hr:ic S.w (c.own ↑O a) (↑O+1) o ao):Rel S (c.own ↑O a) (O++[ao]) h' where
 frozen:=λx y e=>k _ _ (R.frozen x y e)
 base:=R.base
 own:=λi x e=>by
  rw[aj];rcases eH i ↑O with hi|hi|hi
  ·rw[aW hi]at e;let ⟨o',p,q⟩:=R.own i x e;refine⟨o',?_,q.mono aM.ja (mr _)⟩;exact(aM.ja.Z i hi).symm▸(k _ _ p)
  ·subst hi;rw[aE (ab _),dc]at e;obtain rfl:=ag e;exact⟨o,by rw[aM.lZ];exact ho,hr⟩
  ·rw[aE (ce hi)]at e;have:(i- ↑O)≠0:=by exact om0 hi
   let ⟨j,hj⟩:=oQ this;rw[hj]at e;simp at e
 apart:=λi hi=>by
  rw[aj]at hi;show c.F (if i= ↑O then a else c.Z i)=ac;by_cases e:i= ↑O
  ·rw[if_pos e];exact hf.F
  ·rw[if_neg e];exact R.apart i (by simp at hi;exact IL hi e)
 inj:=λi j hi hj e=>by
  rw[aj]at hi hj;simp only[be]at hi hj;have e':(if i= ↑O then a else c.Z i)=(if j= ↑O then a else c.Z j):=e;by_cases p:i= ↑O<;>by_cases q:j= ↑O
  ·exact om2 p q
  ·rw[if_pos p,if_neg q]at e';exact absurd e'.symm (hf.Z j (by exact IL hj q))
  ·rw[if_neg p,if_pos q]at e';exact absurd e' (hf.Z i (by exact IL hi p))
  ·rw[if_neg p,if_neg q]at e';exact R.inj i j (by exact IL hi p) (by exact IL hj q) e'
 pins:=λx y e=>by
  let ⟨p1,p2,p3,p4⟩:=R.pins x y e;refine⟨k _ _ p1,p2,λi hi=> ?_,p4⟩;rw[aj]at hi;simp only[be]at hi;show(if i= ↑O then a else c.Z i)≠x;by_cases p:i= ↑O
  ·rw[if_pos p];rintro rfl;have e':c.pin a=aa y:=e;rw[hf.pin]at e';nomatch e'
  ·rw[if_neg p];exact p3 i (by exact IL hi p)
 tabs:=λq hq=>by
  left;let ⟨x,b,ps,d,e,f⟩:=R.tabs q hq;right;refine⟨x,λi hi=> ?_,ps,k _ _ d,e,f⟩;rw[aj]at hi;simp only[be]at hi;show(if i= ↑O then a else c.Z i)≠q.2;by_cases p:i= ↑O
  ·rw[if_pos p];exact(hf.tab q hq).symm
  ·rw[if_neg p];exact b i (by exact IL hi p)
def callWith_cls {k:ClassData} (hC:s.heap.get? C=aa oC) (hc:oC.cls= .type "type") (hd:oC.data= .cls k)
  (h:wpAny (MM w) A (call (.ref C) []) Q E s):wpAny (MM w) A (callWith pos (.ref C) [] [] []) Q E s:=by
 unfold callWith;refine am (dH (PyProof.Rows.evalArgs_nil3 (am (cV ?_))));refine am (m:=keeperOf (.ref C)) ?_;unfold keeperOf;refine am (Ks hC ?_);rw[hd];refine am (wpAny_specialOf (T:= "type") ⟨oC,hC,hc⟩ F.lookup_type_call (aR ?_));rw[if_pos tt];exact am (fZ h (λr rk hr=>am (dH (wpAny_point (aR hr)))) λq q x=>x)
def jD.M4 {A:cR} (h:jD (k+1) A):jD k (A.under (.builtin "type.__call__" ⟨[.ref 182],[]⟩)) where
 hn:=h.hn
 depth:=dep h.depth (by decide+kernel)
 units:=dep h.units (by decide+kernel)
 frames:=by let ⟨l,e⟩:=h.frames;exact⟨_,by show pushEnvs (Code.builtin "type.__call__" ⟨[.ref 182],[]⟩).envs A.frames=_;rw[pushEnvs_eq,e];rfl⟩
 guards:=by let ⟨l,e⟩:=h.guards;exact⟨_,by show pushGuards (Code.builtin "type.__call__" ⟨[.ref 182],[]⟩).guards A.guards=_;rw[pushGuards_eq,e];rfl⟩
def Ev.Yk (h0:ou S k O ae t b) (h1:Ev S k O ae (if b=true then x else y) d bv):Ev S k O ae (.IfExp t x y pos) d bv:=by refine⟨h1.len,λA c s env hA hE R E Q hQ=> ?_⟩;refine VD (h0 A c s env hA hE R _ _ λc1 s1 l1 R1 K1=> ?_);cases b<;>exact h1.run A c1 s1 env hA (hE.mono l1 (ab _)) R1 E Q λc2 v2 s2 l2 R2 K2 a2=>hQ c2 v2 s2 (l1.trans l2 (ab _)) R2 (K1.trans K2) a2
def iW.Yl (h:Ev S k O ae ky d O) (hl:IsL O d []) (hs:∀env x,foldedSetIterable ky env x=pure x):iW S k O ae (.For cD ky body [] pos) .next O:=by refine⟨ab _,λA c s env hA hE R E Q hQ=> ?_⟩;refine OH (kZ.list h hl A c s env hA hE R _ _ λc1 s1 I own J l1 ho R1 K1 P mY J1=> ?_) (hs env);refine fb ?_;rw[cy (by rfl)];show wpAny _ A ((forTurn _ _ _ _ env).onRaise (λx=>do noteFrame x env;theTreesLotGoes x)) _ _ _;refine jA ?_;simp only[forTurn];refine am (cV (am (kA (P.next J1 R1 (ab _) mY hA _ _ (λq c2 s2 l2 R2 K2=> ?_) λx r e=>by nomatch e))));let ⟨u1,u2⟩:=(l1.trans l2 (ab _)).Gw ho;exact aR ⟨rfl,Ax (jy (hQ _ .next s2 u2 (R2.gN u1) (lC.K (K1.P.trans K2)) .next))⟩
def Ev.P7 (hf:nH S k O ae (.Name f np) (.con (.type "type"))) (h:Ev S k O ae e d O) (hl:IsL O d l) (hs:notStar e=true):nH S k O ae (.Call (.Name f np) [e] [] pos) (.con (.type "list")):=by refine⟨ab _,λA c s env hA hE R E Q hQ=> ?_⟩;refine cn (hf.run A c s env hA hE R _ _ λc1 v1 s1 l1 R1 K1 a1=> ?_);have e':=a1.dn;subst e';refine ed (noStar (.cons h .nil hs) pos env) ?_;refine eg (.cons h .nil hs) _ pos A c1 s1 env hA (hE.mono l1 (ab _)) R1 _ _ λc2 vs s2 l2 R2 K2 a2=> ?_;have h9:=a2.i1;clear a2;let ⟨_,_,rfl,a2,b2⟩:=h9;left;obtain rfl:=b2.i0;let ⟨a,vs,n,rfl,ho,_,_⟩:=hl.at R2 a2;right;exact call_type_of ⟨_,ho,rfl⟩ rfl (hQ c2 _ s2 (l1.trans l2 (ab _)) R2 (K1.trans K2) (.pv (.con _)))
def Rel.pX (R:Rel S c O h) (hi:i< ↑O):Rel S c (O.set i .pX) h:=by let ⟨o,ho,_⟩:=R.own i _ (aq hi);exact R.set hi (λb o q e=>e) ho (.pX o)
def iW.Jh (hx:Ev S k O ae (.Name x xp) (.fM j) O) (h:Ev S k O ae (.Name n np) (.inst i) O) (hi:O[i]? =aa (.attrs [])):iW S k O ae (.Assign [.Attribute (.Name n np) a6 ap] (.Name x xp) pos) .next (O.set i (.attrs [(a6,.fM j)])):=by
 refine⟨by rw[bi];exact ab _,λA c s env hA hE R E Q hQ=> ?_⟩;refine plainObj_wpAny_Assign_Attribute (hx.run A c s env hA hE R _ _ λc1 v1 s1 l1 R1 K1 a1=> ?_) ?_
 ·refine h.run A c1 s1 env hA (hE.mono l1 (ab _)) R1 _ _ λc2 v2 s2 l2 R2 K2 a2=> ?_;have hF:∃a o,v2= .ref a/\c2.F a=aa o/\o.dict=aa (c2.Z i):=by left;let ⟨a,o,mA,e,h1,h2,_⟩:=R2.inst hi a2;right;exact⟨a,o,e,h1,h2⟩
  left;let ⟨a,o,mA,rfl,h1,h2,hI,hm1,hm2⟩:=R2.inst hi a2;let ⟨nm,q,bs,sn,sub,OT,dd,k0,k1,k2,k3,k5,mN,hC,vj,hN⟩:=R2.clsAt;right;have hxC:a≠182:=by rintro rfl;let ⟨o',rZ,Xi,_⟩:=id hI;rw[R2.frozen _ _ h1]at rZ;obtain rfl:=ag rZ;have:=R2.frozen _ _ h1;rw[hC]at this;obtain rfl:=ag this;nomatch Xi
  let ⟨hp,g,d',t,os⟩:=s2;refine store_attr (ns:=[]) F.store_object hC vj (hN (ah "__setattr__",ac) (by unfold iV;walk_at "a")) (hN (ah "_headers",ac) (by unfold iV;walk_at "a")) qW hxC hI (λh' tk' I' hk qa=> ?_) ?_ ?_
  ·have sI:h'.get? a=aa o:=by let ⟨aj9,e1,e2,e3,e4,e5⟩:=qa o (R2.frozen _ _ h1);rw[e1];let ⟨c1,d1,x1,y1⟩:=aj9;let ⟨c0,d0,x0,y0⟩:=o;have e5':=e5 _ h2;subst e2;subst e3;subst e4;have OA:d0=aa (c2.Z i):=h2;have aka:d1=aa (c2.Z i):=e5';rw[OA,aka]
   have hd:∃oD,h'.get? (c2.Z i)=aa oD/\ic S.w c2 ↑O oD (.attrs [(a6,.fM j)]):=by
    left;let ⟨o',rZ,Xi,hnc,hdx⟩:=I';right;rw[sI]at rZ;obtain rfl:=ag rZ;left;rcases hdx with⟨hn0,_⟩|⟨d',Av,agS,oD,es,ep,hoD,e1,e2,e3,e4⟩
    ·rw[hn0]at h2;nomatch h2
    ·right;rw[h2]at Av;obtain rfl:=ag Av;refine⟨oD,hoD,.attrs e1 e2 e3 (by show [a6].Nodup;simp) (λx d hxd=> ?_) λx hx=> ?_⟩
     ·rw[aB]at hxd;let ⟨rfl,rfl⟩:=bG hxd;exact⟨v1,by rw[e4];exact if_pos rfl,a1.mono l2 (ab _)⟩
     ·rw[e4];have:x≠a6:=λe=>hx (e▸ay);show(if x=a6 then aa v1 else mA x)=_;rw[if_neg this];exact hm2 x (by simp)
   let ⟨oD,hoD,hrD⟩:=hd;refine hQ c2 .next ⟨h',g,d',tk',os⟩ (l1.trans l2 (ab _)) (R2.set (getElem?_lt' hi) (λb ob hb e=> ?_) hoD hrD) ((K1.trans K2).trans (.heap ..)) .next;by_cases hba:b=a
   ·subst hba;rw[R2.frozen _ _ h1]at e;obtain rfl:=ag e;exact sI
   ·exact hk b ob hba (λFF dx e1 e2=>by
     rw[R2.frozen _ _ h1]at e1;obtain rfl:=ag e1;rw[h2]at e2;obtain rfl:=ag e2;exact hb) e
  ·intro y hy;exact absurd (hm2 y (by simp)) hy
  ·decide
 ·rfl
noncomputable abbrev vI:Str:=ah "headers"
noncomputable abbrev sK:Str:=ah "k"
noncomputable abbrev sV:Str:=ah "v"
def Bu:pP j6.scope [iU,vI,sK,sV]:=pP.of tt
def P8:ma j6.scope [ah "type",ah "list"]:=ma.of tt
def Ev.P9 (hj:j= ↑O) (h:bv=O++[AO.list []]):Ev S k O ae (.List [] pos) (.fM j) bv:=by subst hj h;exact Ev.newList
def M5 (hi:O[i]? =aa (.attrs [])):cG S k (O++[.ns [(iU,aa (.inst i)),(vI,~~~PV.none),(sK,ac),(sV,ac)]]) (j6.env (↑O+0)) j6.body .next
  (O.set i (.attrs [(a6,.fM (↑O+1))])++[.ns [(iU,aa (.inst i)),(vI,aa (.fM (↑O+1))),(sK,ac),(sV,ac)],.list []]):=by
 have h1:=Bu;have h2:=P8;apply cG.cons (bw:=O++[.ns [(iU,aa (.inst i)),(vI,aa (.fM (↑O+1))),(sK,ac),(sV,ac)],.list []])
 ·apply iW.assign (bw:=O++[.ns [(iU,aa (.inst i)),(vI,~~~PV.none),(sK,ac),(sV,ac)],.list []]) (d:= .fM (↑O+1))
  ·apply Ev.Yk (b:=false)
   ·apply ou.jq (a:= .pv PV.none) (b:= .pv PV.none)
    ·walk_at "b"
    ·walk_at "b"
    ·intro S k A c s u v hA R ha hb E Q hQ;have e1:=ha.dn;have e2:=hb.dn;subst e1 e2;exact C4 rfl (hQ c _ _ (.refl ..) R (.refl ..) (.pv (.con _)))
    ·rfl
   ·rw[if_neg bF];apply Ev.P9 (by simp) (by simp)
  ·apply jY.AM h1
   ·rfl
   ·walk_at "a"
   ·walk_at "e"
   ·walk_at "c"
   ·walk_at "d"
  ·intro _ _;rfl
 apply cG.cons
 ·apply iW.if (b:=false)
  ·apply ou.jq (a:= .pv (.con (.type "list"))) (b:= .pv (.con (.type "list")))
   ·apply Ev.P7 (d:= .fM (↑O+1)) (l:=[])
    ·walk_at "b"
    ·walk_at "b"
    ·exact IsL.fM (by walk_at "e")
    ·rfl
   ·walk_at "b"
   ·intro S k A c s u v hA R ha hb E Q hQ;have e1:=ha.dn;have e2:=hb.dn;subst e1 e2;exact C4 rfl (hQ c _ _ (.refl ..) R (.refl ..) (.pv (.con _)))
   ·rfl
  ·exact cG.nil
 apply cG.cons
 ·apply iW.Jh (i:=i) (j:= ↑O+1)
  ·walk_at "b"
  ·walk_at "b"
  ·exact gA hi
 rw[kB _ _ (getElem?_lt' hi)];apply cG.cons
 ·apply iW.if (b:=true)
  ·exact ou.Bo Ev.bool λq q=>rfl
  ·rw[if_pos rfl];apply cG.cons
   ·apply iW.Yl (d:= .fM (↑O+1))
    ·rw[show j6.env (↑O+0)=j6.env ((O.set i (.attrs [(a6,.fM (↑O+1))])).length+0) by rw[bi]];apply Ev.loc h1
     ·rfl
     ·walk_at "a"
     ·walk_at "e"
     ·walk_at "a"
     ·kernel_rfl
    ·apply IsL.fM;rw[aE (by rw[bi];exact bh _ _),bi,bO];rfl
    ·intro _ _;rfl
   ·exact cG.nil
 exact cG.nil
def Bv:j6∈fV:=by unfold fV;walk_at "a"
def fc {P:α->Prop} (h:P a) (hl:∀x∈l,P x):∀x∈a::l,P x:=List.forall_mem_cons.mpr ⟨h,hl⟩
def Ev.Ji (hf:nH S (k+2) O ae (.Name f np) (.con (.ref 182))):Ev S (k+2) O ae (.Call (.Name f np) [] [] pos) (.inst ↑O) (O++[.attrs [(a6,.fM (↑O+2))],.pX,.list []]):=by
 refine⟨by rw[aj];exact O0,λA c s env hA hE R E Q hQ=> ?_⟩;refine cn (hf.run A c s env hA hE R _ _ λc1 v1 s1 l1 R1 K1 a1=> ?_);have e':=a1.dn;subst e';left;let ⟨nm,q,bs,sn,sub,OT,dd,k0,k1,k2,k3,k5,mN,hC,vj,hN⟩:=R1.clsAt;have hi:=hN (ah "__init__",aa (.ref 76)) (by unfold iV;walk_at "a");let ⟨o,pm,ho,FL,Cd,C2⟩:=R1.fn Bv;right;refine callWith_cls hC rfl rfl ?_;let ⟨hp,g,d',t,os⟩:=s1;refine wpAny_call_obj_init F.objNew hC vj hi ho FL λh' x dx Mk=> ?_;left;let ⟨ox,hx,hcx,akc,hdx⟩:=Mk.inst;have hdd:=Mk.dict ox hx;right;have tT:dx≠x/\∃oD es ep,h'.get? dx=aa oD/\oD.data= .dict es ep/\C7 es/\VF es/\∀y,nsFind es y=ac:=by
  left;rcases hdx with(⟨hn0,_⟩|⟨d1,Av,agS,oD,es,ep,e0,e1,e2,e3,e4⟩)
  ·right;rw[hn0]at hdd;cases hdd
  ·right;rw[hdd]at Av;cases Av;exact⟨agS,oD,es,ep,e0,e1,e2,e3,e4⟩
 left;let ⟨oO,oD,es,ep,e0,e1,e2,e3,e4⟩:=tT;have f0:=R1.WW Mk.newX;right;have hfx:qz (c1.own ↑O dx) ↑(O++[AO.attrs []]) x:= {
  F:=f0.F
  Z:=λi hi e=>by
   rw[aj,be]at hi;have e':(if i= ↑O then dx else c1.Z i)=x:=e;by_cases h:i= ↑O
   ·rw[if_pos h]at e';exact oO e'
   ·rw[if_neg h]at e';exact f0.Z i (IL hi h) e'
  pin:=f0.pin
  tab:=f0.tab}
 have R3:=(R1.ajo Mk.keeps (R1.WW Mk.newD) e0 (.attrs e1 e2 e3 kE (λx d hx=>by cases hx) λy z=>e4 y):Rel S (c1.own ↑O dx) (O++[.attrs []]) h').freeze hfx hx;generalize OC:(c1.own ↑O dx).put x ox=c3 at R3;have hv:cT S.w c3 ↑(O++[AO.attrs []]) (.ref x) (.inst ↑O):=by rw[<- OC];refine .inst (a:=x) (o:=ox) (if_pos rfl) hcx akc ?_ (by rw[aj];exact ez _);rw[hdd];exact congrArg aa (aM.lZ ..).symm
 have Xl:jD (k+1) (A.under (.builtin "type.__call__" ⟨[.ref 182],[]⟩)):=hA.M4;left;let ⟨o69,n69,h69,akd⟩:=S.D4;have ake:=R3.old h69 ∅;right;have Kj:h'.CodeRec ((j6.fd pm).code) (j6.fd pm).qualname:=by left;let ⟨FF,aga,_,_,_,amh⟩:=S.fns j6 Bv;right;exact C2.keeps Mk.keeps
 refine vW (codeAny_call_def (fd:=j6.fd pm) (body:=j6.body) (binds:=[(iU,.ref x),(vI,.none)]) Xl.room (Mk.keeps _ _ ho) Cd R3.lim Kj rfl (BindsTo.of_defaults rfl ake akd rfl (by with_unfolding_all rfl)) (by decide+kernel:∀x∈j6.scope.names,x.2≠ .cell) ?_ (λh₀ tU agT=> ?_) rfl rfl rfl)
 ·exact fa2 (lk Bu [iU] tt _ ay) (lk Bu [vI] tt _ ay)
 have tW: ↑(O++[AO.attrs []])= ↑O+1:=by rw[aj,be]
 have akf:h₀.Ns h'.objs.size λy=>([(iU,eM x),(vI,qc)]:List (Str×Value)).reverse.lookup y:=tU;have ZL:∀b o,h'.get? b=aa o->h₀.get? b=aa o:=agT;let ⟨on,hon,hrn⟩:=ic.Pp (w:=S.w) (c:=c3.own ↑(O++[AO.attrs []]) h'.objs.size) (n:= ↑(O++[AO.attrs []])+1) (m:=[(iU,aa (.inst ↑O)),(vI,~~~PV.none),(sK,ac),(sV,ac)]) akf (by decide: [iU,vI,sK,sV].Nodup)
  (λy d hy=>fc (P:=λp:Str×Option AV=>∀d,p.2=aa d->∃v,([(iU,eM x),(vI,qc)]:List (Str×Value)).reverse.lookup p.1=aa v/\cT S.w (c3.own ↑(O++[AO.attrs []]) h'.objs.size) (↑(O++[AO.attrs []])+1) v d)
   (λd e=>ag e▸⟨.ref x,rfl,hv.mono aM.ja (mr _)⟩) (fc (λd e=>ag e▸⟨.none,rfl,.pv (.con _)⟩) (fc (λd e=>gq e) (fc (λd e=>gq e) fa0))) _ hy d rfl)
  (λy hy=>fc (P:=λp:Str×Option AV=>ac=p.2->([(iU,eM x),(vI,qc)]:List (Str×Value)).reverse.lookup p.1=ac) gq (fc gq (fc (λz=>rfl) (fc (λz=>rfl) fa0))) _ hy rfl)
 have hE:cY (c3.own ↑(O++[AO.attrs []]) h'.objs.size) (O++[AO.attrs []]++[AO.ns [(iU,aa (.inst ↑O)),(vI,~~~PV.none),(sK,ac),(sV,ac)]]).length (j6.env (↑(O++[AO.attrs []])+0)) (callEnv (j6.fd pm) h'.objs.size j6.addr):= {
  scope:=rfl
  kind:=rfl
  locals:=(aM.lZ c3 ↑(O++[AO.attrs []]) _).symm
  fi:=by rw[aj (as:=O++[AO.attrs []])];exact ez _
  globals:=rfl
  builtins:=rfl
  cells:=rfl
  jp:=λp hp=>by cases hp
  code:=λa e=>by cases e;rfl
  frame:=⟨_,rfl⟩}
 refine(M5 (S:=S) (k:=k) (O:=O++[AO.attrs []]) (i:= ↑O) (by rw[aE (ab _),dc];rfl)).run _ _ {(⟨h',g,d',t,os⟩:bb)with heap:=h₀,toks:=t+2} _ Xl.deeper hE (R3.AK (h':=h₀) (o:=on) ZL (ab _) hon hrn) _ _ λc5 v5 s5 l5 R5 K5 f5=> ?_;cases f5;have hl:(O++[AO.attrs []]).set ↑O (.attrs [(a6,.fM (↑(O++[AO.attrs []])+1))])++[.ns [(iU,aa (.inst ↑O)),(vI,aa (.fM (↑(O++[AO.attrs []])+1))),(sK,ac),(sV,ac)],.list []]
   =O++[.attrs [(a6,.fM (↑O+2))],.ns [(iU,aa (.inst ↑O)),(vI,aa (.fM (↑O+2))),(sK,ac),(sV,ac)],.list []]:=by
  rw[j4 _ _ (ab _),dc,tW,OL,bE];rfl
 rw[hl]at R5;have R6:=R5.pX (i:= ↑O+1) (by rw[aj];show ↑O+1< ↑O+3;exact abX);rw[j4 _ _ (Gg),bO,OM,OL]at R6;have l35:aM.le (↑O+1) c3 c5:=by have:=(aM.ja (c:=c3) (n:= ↑O+1) (a:=h'.objs.size));rw[tW]at l5;exact this.trans (l5.weak (by rw[aj,tW];exact bh ..)) (ab _)
 have K35:dZ (⟨hp,g,d',t,os⟩:bb) {(⟨h',g,d',t,os⟩:bb)with heap:=h₀,toks:=t+2}:= .heap ..;refine⟨rfl,hQ c5 (.ref x) s5 ((l1.trans (by exact OC▸(aM.ja.trans (aM.dC hfx.F)) (ab _)) (ab _)).trans (l35.weak (mr _)) (ab _)) R6 ((K1.trans K35).trans K5) ?_⟩;rw[tW]at hv;exact(hv.mono l35 (ab _)).mono (.refl ..) (by rw[aj];show ↑O+1<= ↑O+3;exact abY)
section
variable {lay:Lay}
def dy.le (x:dy S h O f args kw d bv) (hk:h<=k):dy S k O f args kw d bv:=⟨x.len,λA c s fv vs kvs hA=>x.run A c s fv vs kvs (hA.le hk)⟩
def G7 (st:St):Option (CV×St):=aa (.inst ↑st.ob,alloc (.list []) (alloc .pX (alloc (.attrs [(a6,.ob (↑st.ob+2))]) st)))
def MU.ahJ (hk:2<=k) (hg:lay.grow=true) (h:lay.me "Headers" =true):MU S k lay (.Call (.Name "Headers" np) [] [] pos) G7:=by
 intro p O st v cf bc hf;let ⟨rfl,rfl⟩:=bG (ag hf);obtain⟨k',rfl⟩:∃k',k=k'+2:=⟨k- 2,by simp_all⟩;let ⟨a1,b1,c1⟩:=bc.alloc hg (.attrs [(a6,.ob (↑st.ob+2))]);let ⟨a2,b2,c2⟩:=a1.alloc hg .pX;let ⟨a3,b3,c3⟩:=a2.alloc hg (.list []);refine⟨_,?_,a3,(b1.trans b2 bc).trans b3 bc⟩;have e2:CO.ao p.oi (.attrs [(a6,.ob (↑st.ob+2))])= .attrs [(a6,.fM (↑O+2))]:=by show AO.attrs [(a6,AV.fM (p.oi (↑st.ob+2)))]=_;rw[bc.next hg 2]
 rw[(by show AV.inst (p.oi ↑st.ob)=_;rw[c1]:CV.av p.oi (.inst ↑st.ob)= .inst ↑O),e2,bE,bE];exact(Ev.Ji (S:=S) (k:=k') (O:=O) (ae:=lay.en p) (np:=np) (pos:=pos) (Ev.Gr h (by show(_,aa (eM 182))∈cg;unfold cg;walk_at "a")))
def afy:List CV->Option Str
 | []=>ac
 | [v]=>v.aS
 |_::_::_=>ac
def Qa (h:afy l=aa x):l=[.pv (.str x)]:=by
 rcases l with _|⟨v,_|_⟩
 ·exact gq h
 ·rw[CV.kS h]
 ·exact gq h
def mV (f:EF) (fa:St->Option (List CV)) (st:St):Option CV:=
 (f st).bind λv=>(st.Jg v).bind λq=>((fa st).bind afy).bind λx=>(kq q.2 [.str x]).map λr=> .pv r.1
def cS.P6 (hk:2<=k) (h:cS S k lay o f) (ha:pQ S k lay args fa) (hn: ↑args<20) (ik:∀env,attributeBase o "get_all" env (eval o env)=eval o env) (gC:(jw.endLine==pos.line)=true):
  cS S k lay (.Call (.Attribute o "get_all" jw) args [] pos) (mV f fa):=by
 intro p O st v bc hf;refine a9 hf λov ho hf=>a9 hf λq hq hf=>a9 hf λx hx hf=>a9 hx λz hx e=> ?_;let ⟨hh,l⟩:=q;rw[Qa e]at hx;let ⟨⟨d,l'⟩,hm,rfl⟩:=ar.mp hf;have hl:=E0 hm;subst hl;left;let ⟨i,e1,e2,e3,e4⟩:=bc.Jg hq;have hc:=dy.P6 (S:=S) e2 e3 e4 hm;right;rw[set_same e3]at hc;have h0:=h p O st _ bc ho;rw[e1]at h0;exact Ev.ul Yi (by unfold iV;show(_,aa (eM 121))∈_;walk_at "a") zO h0 e2 (by show _∉ [a6];decide) (ha p O st _ bc hx) .nil (hc.le hk) ik gC hn
def E2 (f:EF) (st:St):Option CV:=
 (f st).bind λv=>(st.Jg v).bind λq=>(xk q.2 []).map λr=> .pv r.1
def cS.items (hk:1<=k) (h:cS S k lay o f) (ik:∀env,attributeBase o "items" env (eval o env)=eval o env) (gC:(jw.endLine==pos.line)=true):
  cS S k lay (.Call (.Attribute o "items" jw) [] [] pos) (E2 f):=by
 intro p O st v bc hf;unfold E2 at hf;simp only[aG,ar]at hf;left;let ⟨ov,ho,⟨hh,l⟩,hq,⟨d,l'⟩,hm,e⟩:=hf;right;subst e;have hl:=G6 hm;subst hl;left;let ⟨i,e1,e2,e3,e4⟩:=bc.Jg hq;have hc:=dy.items (S:=S) e2 e3 e4 hm;right;rw[set_same e3]at hc;have h0:=h p O st _ bc ho;rw[e1]at h0;exact Ev.ul Yj (by unfold iV;show(_,aa (eM 146))∈_;walk_at "a") Bn h0 e2 (by show _∉ [a6];decide) .nil .nil (hc.le hk) ik gC ∅
def eJ (f:EF) (fa:St->Option (List CV)) (st:St):Option (pj×St):=
 (f st).bind λv=>(st.Jg v).bind λq=>((fa st).bind two?).bind λa=>(oF q.2 [.str a.1,.str a.2,.oK []]).map λr=>(.next,qR q.1 (.list r.2) st)
def mu.Dz (hk:2<=k) (h:cS S k lay o f) (ha:pQ S k lay args fa) (hn: ↑args<20) (ik:∀env,attributeBase o "add_header" env (eval o env)=eval o env) (gC:(jw.endLine==pos.line)=true)
  (hs:swapsWith (.Call (.Attribute o "add_header" jw) args [] pos) ac FK.line=λq=>pure false):
  mu S k lay (.Expr (.Call (.Attribute o "add_header" jw) args [] pos) FK) (eJ f fa):=by
 intro p O st fl cf bc hf;let ⟨ov,ho,hf⟩:=aG.mp hf;let ⟨⟨hh,l⟩,hq,hf⟩:=aG.mp hf;let ⟨a,hx,hf⟩:=aG.mp hf;let ⟨as,hx,h2⟩:=aG.mp hx;rw[Lj h2]at hx;let ⟨⟨d,l'⟩,hm,e⟩:=ar.mp hf;let ⟨rfl,rfl⟩:=bG e;let ⟨i,e1,e2,e3,e4⟩:=bc.Jg hq;let ⟨b,c⟩:=bc.Bb (by let ⟨_,_,_,x⟩:=G5 hq;exact x) (.list l');have h0:=h p O st _ bc ho;rw[e1]at h0;exact⟨_,iW.expr (Ev.ul Jf (by unfold iV;show(_,aa (eM 179))∈_;walk_at "a") rO h0 e2 (by show _∉ [a6];decide) (ha p O st _ bc hx) .nil ((dy.Dz (S:=S) e2 e3 e4 hm).le hk) ik gC hn) hs,b,c⟩
end
def Ox (S:cz) (k:Nat) (O:List AO) (ae:iv) (e:Expr) (d:AV) (bv:List AO):Prop:=
 ∀A c s env,jD k A->0<s.toks->cY c ↑O ae env->Rel S c O s.heap->Tr S O A c s (eval e env) d bv
def Ev.T (h:Ev S k O ae e d bv):Ox S k O ae e d bv:=λA c s env hA q hE R=>h.run A c s env hA hE R
def Ox.replace (h:Ox S k O ae o (.pv (.str x)) O) (oO:(q==e)=false) (hx: ↑x<=1048576) (he: ↑e<=14)
  (ik:∀env,attributeBase o "replace" env (eval o env)=eval o env) (gC:(jw.endLine==pos.line)=true):
  Ox S k O ae (.Call (.Attribute o "replace" jw) [.Constant (.str q) n1 p1,.Constant (.str e) n2 p2] [] pos) (.pv (.str (iL x q e))) O:=by
 intro A c s env hA ht hE R E Q hQ;have ha:ck S k O ae [.Constant (.str q) n1 p1,.Constant (.str e) n2 p2] [.pv (.str q),.pv (.str e)]:= .cons Ev.str (.cons Ev.str .nil rfl) rfl;refine eK (ik env) (A3 ha pos env (by show 2<30;decide)) gC (mC (n:=1) ht (h A c s env hA ht hE R _ _ λc1 v1 s1 l1 R1 K1 a1=>λKf=> ?_));have Kb:=a1.gh;let ⟨t1,rfl⟩:=Kb.mD;refine⟨"str", "str.replace",F.plainAttrs_str,F.slot_str_replace,F.type_str_replace,sd ..,(λz e=>nomatch e),cX (noStar ha pos env) ?_⟩;refine lA (rest:=[(false,eval (.Constant (.str e) n2 p2) env)]) (keywords:=[]) rfl ?_;refine bX (kh (k:=n1) (pos:=p1) (bX (kh (k:=n2) (pos:=p2) (eB (iG ?_)))));refine SC.replaceW (u:=s1.toks) (v:=s1.toks+1) (by show s1.toks≠(0:Nat);exact jS ‹_›) (by show s1.toks+1≠(0:Nat);simp) (by show s1.toks≠s1.toks+1;simp) oO hx he λt' k'=> ?_;exact hQ c1 _ _ l1 R1 (K1.trans (.toks ..)) (.pv (.str ..))
def Ox.WF (h1:Ox S k O ae l (.pv a) O) (h2:nH S k O ae r b) (ho:Mz (binaryOp op) a b d):Ox S k O ae (.BinOp l op r pos) (.pv d) O:=
 λA c s env hA ht hE R E Q hQ=>Ga (h1 A c s env hA ht hE R _ _ λc1 v1 s1 l1 R1 K1 a1=>h2.run A c1 s1 env hA (hE.mono l1 (ab _)) R1 _ _ λc2 v2 s2 l2 R2 K2 a2=>
  ho S k O A c2 s2 v1 v2 hA R2 (a1.mono l2 (ab _)).gh a2.gh _ _ λc3 v3 s3 l3 R3 K3 a3=>hQ c3 v3 s3 ((l1.trans l2 (ab _)).trans l3 (ab _)) R3 ((K1.trans K2).trans K3) a3)
structure Top (A:cR) (env:lW):Prop where
 frames:A.frames=aa [env]
 frame:env.frame=aa env.locals
structure Z8 (S:cz) (k:Nat) (O:List AO) (ae:iv) (st:Stmt) (f:nU) (bv:List AO):Prop where
 len: ↑O<= ↑bv
 run:∀A c s env,jD k A->Top A env->0<s.toks->cY c ↑O ae env->Rel S c O s.heap->TrF S O A c s (exec st env) f bv
structure E3 (S:cz) (k:Nat) (O:List AO) (ae:iv) (Vl:List Stmt) (f:nU) (bv:List AO):Prop where
 len: ↑O<= ↑bv
 run:∀A c s env,jD k A->Top A env->0<s.toks->cY c ↑O ae env->Rel S c O s.heap->TrF S O A c s (execs Vl env) f bv
def iW.K (h:iW S k O ae st f bv):Z8 S k O ae st f bv:=⟨h.len,λA c s env hA q q=>h.run A c s env hA⟩
def E3.nil:E3 S k O ae [] .next O:=⟨ab _,λA c s env hA q q=>cG.nil.run A c s env hA⟩
def E3.cons (h1:Z8 S k O ae st .next bw) (h2:E3 S k bw ae rest f bP):E3 S k O ae (st::rest) f bP:=
 ⟨aA h1.len h2.len,λA c s env hA hF ht hE R E Q hQ=>da (mC (n:=1) ht (h1.run A c s env hA hF ht hE R _ _ λc1 v1 s1 l1 R1 K1 f1=>by
  intro Kf;obtain rfl:=f1.wL;exact h2.run A c1 s1 env hA hF Kf (hE.mono l1 h1.len) R1 _ _ λc2 v2 s2 l2 R2 K2 f2=>hQ c2 v2 s2 (l1.trans l2 h1.len) R2 (K1.trans K2) f2))⟩
def E3.ret (h1:Z8 S k O ae st (.ret d) bw):E3 S k O ae (st::rest) (.ret d) bw:=
 ⟨h1.len,λA c s env hA hF ht hE R E Q hQ=>da (h1.run A c s env hA hF ht hE R _ _ λc1 v1 s1 l1 R1 K1 f1=>by
  let ⟨_,q,f2⟩:=f1.Mx;cases q;exact hQ c1 _ s1 l1 R1 K1 (.ret f2))⟩
section
variable {lay:Lay}
def jc (S:cz) (k:Nat) (lay:Lay) (s:Stmt) (F:St->Option (pj×St)):Prop:=
 ∀p O st fl cf,At lay p st O->F st=aa (fl,cf)->∃bv,Z8 S k O (lay.en p) s (fl.af p.oi) bv/\At lay p cf bv/\ko lay p st cf O bv
def tB (S:cz) (k:Nat) (lay:Lay) (ss:List Stmt) (F:St->Option (pj×St)):Prop:=
 ∀p O st fl cf,At lay p st O->F st=aa (fl,cf)->∃bv,E3 S k O (lay.en p) ss (fl.af p.oi) bv/\At lay p cf bv/\ko lay p st cf O bv
def jc.of (h:mu S k lay s F):jc S k lay s F:=λp O st fl cf bc hf=>
 xe13 (h p O st fl cf bc hf) λbv a b c=>⟨bv,a.K,b,c⟩
def tB.nil:tB S k lay [] br:=λp O st fl cf bc hf=>by let ⟨rfl,rfl⟩:=bG (ag hf);exact⟨O,.nil,bc,.refl ..⟩
def tB.cons (h1:jc S k lay s f) (h2:tB S k lay ss g):tB S k lay (s::ss) (aC f g):=by
 intro p O st fl cf bc hf;rcases qQ hf with⟨st1,e,hf⟩|⟨v,e,rfl⟩
 ·left;let ⟨lI,a1,b1,c1⟩:=h1 p O st _ st1 bc e;let ⟨uQ,a2,b2,c2⟩:=h2 p lI st1 _ cf b1 hf;right;exact⟨uQ,.cons a1 a2,b2,c1.trans c2 bc⟩
 ·let ⟨lI,a1,b1,c1⟩:=h1 p O st _ _ bc e;exact⟨lI,.ret a1,b1,c1⟩
def LB (i:Nat) (f:EF) (q q':Str) (g:EF) (st:St):Option (pj×St):=((f st).bind CV.aS).bind λx=>((g st).bind CV.aP).bind λz=>if ↑x<=1048576/\(iL x q "").length<=1048576 then(AR .Add (.str (iL (iL x q "") q' "")) z).map λd=>(.next,ie i (.pv d) st) else ac
def jc.bare (h:cS S k lay o f) (hz:cS S k lay z g) (hx:lay.ni i x=true) (hq:(q==ah "")=false) (Tc:(q'==ah "")=false)
  (ik:∀env,attributeBase o "replace" env (eval o env)=eval o env)
  (ZM:∀env,attributeBase (.Call (.Attribute o "replace" a1) [.Constant (.str q) n1 p1,.Constant (.str "") n2 p2] [] c1) "replace" env (eval (.Call (.Attribute o "replace" a1) [.Constant (.str q) n1 p1,.Constant (.str "") n2 p2] [] c1) env)=eval (.Call (.Attribute o "replace" a1) [.Constant (.str q) n1 p1,.Constant (.str "") n2 p2] [] c1) env)
  (hl1:(a1.endLine==c1.line)=true) (C1:(a2.endLine==c2.line)=true)
  (hs:∀env,env.scope=lay.scope->swapsWith (.BinOp (.Call (.Attribute (.Call (.Attribute o "replace" a1) [.Constant (.str q) n1 p1,.Constant (.str "") n2 p2] [] c1) "replace" a2) [.Constant (.str q') n3 p3,.Constant (.str "") n4 p4] [] c2) .Add z bp) (aa (.Name x xp)) pos.line env=pure false):
  jc S k lay (.Assign [.Name x xp] (.BinOp (.Call (.Attribute (.Call (.Attribute o "replace" a1) [.Constant (.str q) n1 p1,.Constant (.str "") n2 p2] [] c1) "replace" a2) [.Constant (.str q') n3 p3,.Constant (.str "") n4 p4] [] c2) .Add z bp) pos) (LB i f q q' g):=by
 intro p O st fl cf bc hf;refine a9 hf λy hy hf=>a9 hy λy hy e1=>a9 hf λw hw hf=>a9 hw λy hw e2=> ?_;rw[CV.kS e1]at hy;rw[CV.kP e2]at hw;let ⟨cH,hf⟩:=Ey hf;let ⟨d,hd,e⟩:=ar.mp hf;let ⟨rfl,rfl⟩:=bG e;let ⟨bv,a,b,c⟩:=bc.ie (S:=S) hx (.pv d);refine⟨bv,⟨a.len,λA c s env hA hF ht hE R E Q hQ=> ?_⟩,b,c⟩;exact kW ((Ox.WF ((Ox.replace ((Ox.replace (h p O st _ bc hy).T hq cH.1 ∅ ik hl1:Ox S k O (lay.en p) (.Call (.Attribute o "replace" a1) [.Constant (.str q) n1 p1,.Constant (.str "") n2 p2] [] c1) _ O)) Tc cH.2 ∅ ZM C1:Ox S k O (lay.en p) (.Call (.Attribute (.Call (.Attribute o "replace" a1) [.Constant (.str q) n1 p1,.Constant (.str "") n2 p2] [] c1) "replace" a2) [.Constant (.str q') n3 p3,.Constant (.str "") n4 p4] [] c2) _ O)) (hz p O st _ bc hw) (Pu hd) (pos:=bp)) A c s env hA ht hE R _ _ λc1 v1 s1 l1 R1 K1 a1=>a.run A c1 s1 env v1 (hE.mono l1 (ab _)) R1 a1 _ _ λc2 s2 l2 R2 K2=>hQ c2 .next s2 (l1.trans l2 (ab _)) R2 (K1.trans K2) .next) (hs env hE.scope)
end
def Stk (O:List AO) (c:aM) (A:cR):Prop:=∃l,A.frames=aa l/\∀e∈l,e.scope.kind≠ .module/\∃i m,e.frame=aa (c.Z i)/\O[i]? =aa (.ns m)
structure xl (S:cz) (c:aM) (O:List AO) (B h:iQ):Prop where
 rel:Rel S c O h
 F:∀a o,c.F a=aa o->B.get? a=aa o
 pin:∀a o,c.pin a=aa o->B.get? a=aa o
 tab:∀q∈cm,∀o,h.get? q.2=aa o->B.get? q.2=aa o
 own:∀(i:Nat) (x:AO),O[i]? =aa x->(∃m,x= .ns m)\/∀o,h.get? (c.Z i)=aa o->B.get? (c.Z i)=aa o
def xl.step {c:aM} {B h h':iQ} (R:xl S c O B h) (hB:B.StaysIn h') (hu:h.UpToSlots h'):xl S c O B h' where
 rel:= {
  frozen:=λa o e=>hB _ _ (R.F a o e)
  base:=R.rel.base
  own:=λi x e=>by
   let ⟨o,ho,hr⟩:=R.rel.own i x e;rcases R.own i x e with⟨m,rfl⟩|hb
   ·let ⟨_,_,a,b,nd,d,f⟩:=hr.iNs;let ⟨sl,hs⟩:=hu _ o ho λvs q=>by rw[a]at q;nomatch q
    exact⟨_,hs,.ns (o:= {o with slots:=sl}) a b nd d f⟩
   ·exact⟨o,hB _ _ (hb o ho),hr⟩
  apart:=R.rel.apart
  inj:=R.rel.inj
  pins:=λa o e=>⟨hB _ _ (R.pin a o e),(R.rel.pins a o e).2⟩
  tabs:=λq hq=>let ⟨a,b,ps,d,e⟩:=R.rel.tabs q hq;⟨a,b,ps,hB _ _ (R.tab q hq _ d),e⟩}
 F:=R.F
 pin:=R.pin
 tab:=λq hq o e=>by let ⟨_,_,ps,d,_⟩:=R.rel.tabs q hq;have h1:=R.tab q hq _ d;rw[hB _ _ h1]at e;obtain rfl:=ag e;exact h1
 own:=λi x e=>by
  rcases R.own i x e with h1|h1
  ·exact .inl h1
  ·let ⟨o,ho,_⟩:=R.rel.own i x e;refine .inr λo' e'=> ?_;rw[hB _ _ (h1 o ho)]at e';obtain rfl:=ag e';exact h1 o ho
def xl.drop {c₀ c:aM} {h₀ B h:iQ} {τ:List AO} (R:Rel S c₀ O h₀) (R':xl S c (O++τ) B h):xl S c O B h where
 rel:=R.drop R'.rel rfl λi x e=> .inl e
 F:=R'.F
 pin:=R'.pin
 tab:=R'.tab
 own:=λi x e=>R'.own i x (by
  have hi:=getElem?_lt' e;exact(aW hi)▸e)
def xl.hide {l:List lW} (R:Rel S c O h) (hl:∀e∈l,e.scope.kind≠ .module/\∃i m,e.frame=aa (c.Z i)/\O[i]? =aa (.ns m)):xl S c O (hideAll h (l.filterMap (·.frame))) h:=by
 have Xc:∀ {a:Addr},a∈l.filterMap (·.frame)->∃i m,a=c.Z i/\O[i]? =aa (.ns m):=λ{a} ha=>by left;let ⟨e,he,hf⟩:=ye.mp ha;let ⟨_,i,m,h1,h2⟩:=hl e he;right;rw[h1]at hf;exact⟨i,m,(ag hf).symm,h2⟩
 refine⟨R,λa o e=>Gb _ (R.frozen a o e) λha=> ?_,λa o e=>Gb _ (R.pins a o e).1 λha=> ?_,λq hq o e=>Gb _ e λha=> ?_,λi x e=> ?_⟩
 ·let ⟨i,m,rfl,hi⟩:=Xc ha;rw[R.apart i (getElem?_lt' hi)]at e;nomatch e
 ·let ⟨i,m,rfl,hi⟩:=Xc ha;exact(R.pins _ o e).2.2.1 i (getElem?_lt' hi) rfl
 ·let ⟨i,m,h1,hi⟩:=Xc ha;exact(R.tabs q hq).2.1 i (getElem?_lt' hi) h1.symm
 ·by_cases ha:c.Z i∈l.filterMap (·.frame)
  ·let ⟨j,m,h1,hj⟩:=Xc ha;have:=R.inj i j (getElem?_lt' e) (getElem?_lt' hj) h1;subst this;rw[hj]at e;obtain rfl:=ag e;exact .inl ⟨m,rfl⟩
  ·exact .inr λo ho=>Gb _ ho ha
def M6 (R:Rel S c O h) (fs:List Addr) (l:List lW):(∀e∈l,e.scope.kind≠ .module/\∃i m,e.frame=aa (c.Z i)/\O[i]? =aa (.ns m))->(∀e∈l,∀a,e.frame=aa a->a∈fs)->h.FunFrames (hideAll h fs) l:=by
 induction l with
 |nil=>intro _ _;exact trivial
 |cons e l ih=>
  intro hl hf;left;let ⟨h1,i,m,h2,h3⟩:=hl e ay;let ⟨o,ho,hr⟩:=R.own i _ h3;right;refine⟨h1,⟨c.Z i,o,h2,hideAll_none _ (hf e ay _ h2),ho,λvs q=> ?_⟩,ih (λe he=>hl e (aK _ he)) λe he=>hf e (aK _ he)⟩;cases hr with
  |ns a=>rw[a]at q;cases q
noncomputable abbrev Ym:Value:= .type "ValueError"
def Up (S:cz) (c:aM) (O:List AO) (l:List lW) (m:Str) (v:Value) (s:bb):Prop:=
 (∃e h tk,v= .ref e/\Heap.MadeExcOf h s.heap e Ym [.str m tk]/\Rel S c O h)\/∃e t tk B,v= .ref e/\Heap.FlyingW B l e Ym (.ref t) s.heap/\s.heap.TupAt t [.str m tk]/\B.get? t=ac/\xl S c O B s.heap
def Bw (S:cz) (c:aM) (O:List AO) (l:List lW) (m:Str) (v:Value) (s:bb):Prop:=
 ∃e t tk B,v= .ref e/\Heap.FlyingW B l e Ym (.ref t) s.heap/\s.heap.TupAt t [.str m tk]/\B.get? t=ac/\xl S c O B s.heap
def G8 {c:aM} {A:cR} {env:lW} {l:List lW} {m:Str} {v:Value} {s:bb} {E:VS} {Q:Unit->bb->Prop} (uH:A.frames=aa (env::l)) (hS:∀e∈env::l,e.scope.kind≠ .module/\∃i m,e.frame=aa (c.Z i)/\O[i]? =aa (.ns m)) (U:Up S c O (env::l) m v s)
  (hQ:∀s',Bw S c O l m v s'->dZ s s'->Q () s'):wpAny (MM S.w) A (leaving env v) Q E s:=by
 let ⟨_,i,mm,hf,_⟩:=hS env ay;rcases U with⟨e,h,tk,rfl,hx,R⟩|⟨e,t,tk,B,rfl,Kn,ht,Su,RB⟩
 ·have RB:=xl.hide R hS;refine wpAny_leaves_madeW uH hf (λb o q=>of_hideAll _ q) (M6 R _ (env::l) hS λe he a ha=>ye.mpr ⟨e,he,ha⟩) hx λh' t Kn ht Su hu=> ?_;exact hQ _ ⟨e,t,tk,_,rfl,Kn,ht,Su,RB.step Kn.1 ((Heap.UpToSlots.of_keeps hx.keeps).trans hu)⟩ (dZ.gF s h')
 ·refine wpAny_leaves_onW uH hf Kn λh' agU hu=> ?_;exact hQ _ ⟨e,t,tk,B,rfl,agU,ht.of_slots hu,Su,RB.step agU.1 hu⟩ (dZ.gF s h')
def Bw.drop (R:Rel S c₀ O h₀) (T:Bw S c (O++τ) l m v s):Bw S c O l m v s:=by left;let ⟨e,t,tk,B,h1,h2,h3,h5,h4⟩:=T;right;exact⟨e,t,tk,B,h1,h2,h3,h5,xl.drop R h4⟩
def v9 (O bv:List AO):Prop:=∀(i:Nat) (m:List (Str×Option AV)),O[i]? =aa (.ns m)->∃m',bv[i]? =aa (.ns m')
def v9.refl (O:List AO):v9 O O:=λi m h=>⟨m,h⟩
def v9.trans (h:v9 a b) (h':v9 b c):v9 a c:=λi m e=>xe11 (h i m e) λm' e'=>h' i m' e'
def v9.Cv (O τ:List AO):v9 O (O++τ):=λi m e=>⟨m,by rw[aW (getElem?_lt' e)];exact e⟩
abbrev pY (O:List AO) (c:aM) (l:List lW):Prop:=∀e∈l,e.scope.kind≠ .module/\∃i m,e.frame=aa (c.Z i)/\O[i]? =aa (.ns m)
def pY.step (h:pY O c l) (hn:v9 O bv) (hc:aM.le ↑O c c'):pY bv c' l:=λe he=>by left;let ⟨h1,i,m,h2,h3⟩:=h e he;let ⟨m',h4⟩:=hn i m h3;right;exact⟨h1,i,m',by rw[hc.Z i (getElem?_lt' h3)];exact h2,h4⟩
def TrX {α:Type} (S:cz) (O:List AO) (A:cR) (c:aM) (s:bb) (l:List lW) (t:zV α) (m:Str) (bv:List AO):Prop:=
 ∀(E:VS) (Q:α->bb->Prop),(∀c' v s',aM.le ↑O c c'->dZ s s'->Up S c' bv l m v s'->E v s')->wpAny (MM S.w) A t Q E s
structure eZ (S:cz) (k:Nat) (O:List AO) (f:AV) (args:List AV) (kw:List (Str×AV)) (m:Str):Prop where
 run:∀A c s fv vs kvs l,jD k A->A.frames=aa l->pY O c l->Rel S c O s.heap->cT S.w c ↑O fv f->dg S.w c ↑O vs args->kvs.map (·.1)=kw.map (·.1)->dg S.w c ↑O (kvs.map (·.2)) (kw.map (·.2))->TrX S O A c s l (call fv vs kvs) m O
structure yv (S:cz) (k:Nat) (O:List AO) (ae:iv) (e:Expr) (m:Str):Prop where
 run:∀A c s env l,jD k A->A.frames=aa l->pY O c l->cY c ↑O ae env->Rel S c O s.heap->TrX S O A c s l (eval e env) m O
structure qX (S:cz) (k:Nat) (O:List AO) (ae:iv) (st:Stmt) (m:Str) (bv:List AO):Prop where
 len: ↑O<= ↑bv
 Yu:v9 O bv
 run:∀A c s env l,jD k A->A.frames=aa l->pY O c l->cY c ↑O ae env->Rel S c O s.heap->TrX S O A c s l (exec st env) m bv
structure jC (S:cz) (k:Nat) (O:List AO) (ae:iv) (Vl:List Stmt) (m:Str) (bv:List AO):Prop where
 len: ↑O<= ↑bv
 Yu:v9 O bv
 run:∀A c s env l,jD k A->A.frames=aa l->pY O c l->cY c ↑O ae env->Rel S c O s.heap->TrX S O A c s l (execs Vl env) m bv
def eZ.Ds (F:pU r loc own)
  (gr:∀pm,vC S k O (r.fd pm) args kw binds)
  (rp:jU S (gB r ↑O) (ent O r loc) binds bw)
  (ZN:v9 (ent O r loc) bw)
  (dY:jC S k bw (gB r ↑O) r.body m (O++τ)):eZ S (k+1) O (.pv (.con (.ref r.addr))) args kw m:=by
 refine⟨λA c s fv vs kvs l hA hl hS R hf ha hk HZ E Q hQ=> ?_⟩;refine wY F gr rp hA R hf ha hk HZ λc3 s3 env l3 hE R3 K3 q uH=> ?_;have ZO:(A.deeper env).frames=aa (env::l):=by show A.frames.map (env:: ·)=_;rw[hl];rfl
 have hS3:pY bw c3 (env::l):=λe he=>by
  rcases aH.mp he with rfl|he
  ·obtain(⟨m',Mb⟩):=ZN ↑O _ (by unfold ent;rw[aE (ab _),dc];rfl);exact⟨by rw[hE.scope];show r.scope.kind≠_;rw[F.kind];decide,↑O,m',uH.trans (congrArg aa hE.locals),Mb⟩
  ·exact hS.step ((v9.Cv O _).trans ZN) l3 e he
 refine dY.run _ c3 s3 env (env::l) hA.deeper ZO hS3 hE R3 _ _ λc4 v4 s4 l4 K4 U=> ?_;refine G8 ZO (hS3.step dY.Yu l4) U λs5 T K5=> ?_;exact hQ c4 v4 s5 (l3.trans l4 rp.Yb) ((K3.trans K4).trans K5) (.inr (T.drop R))
def tC (h:pY O c l) (hc:aM.le ↑O c c'):pY O c' l:=h.step (.refl _) hc
def qX.raise (hf:nH S k O ae (.Name x np) (.con (.type "ValueError"))):qX S k O ae (.Raise (aa (.Call (.Name x np) [.Constant (.str m) n p] [] FJ)) ac pos) m O:=by refine⟨ab _,.refl _,λA c s env l hA hl hS hE R E Q hQ=> ?_⟩;refine PyProof.Rows.Raise_madeB PySem.F.excCall_ValueError PySem.F.excRaise_ValueError hA.hn (hf.run A c s env hA hE R _ _ λc1 v1 s1 l1 R1 K1 a1=>⟨a1.dn,?_⟩);refine mE (.cons Ev.str .nil rfl) FJ A c1 s1 env hA (hE.mono l1 (ab _)) R1 _ _ λc2 vs s2 l2 R2 K2 a2=> ?_;have h9:=a2.i1;clear a2;let ⟨_,_,rfl,a2,b2⟩:=h9;obtain rfl:=b2.i0;have D7:=a2.gh;let ⟨t,rfl⟩:=D7.mD;refine⟨by show 1<=sizeLine;decide,λh' e hm=> ?_⟩;exact hQ c2 _ _ (l1.trans l2 (ab _)) ((K1.trans K2).trans (.gF s2 h')) (.inl ⟨e,s2.heap,t,rfl,hm.of,R2⟩)
def qX.if (h1:ou S k O ae test b) (h2:jC S k O ae (if b then body else orelse) m bw):qX S k O ae (.If test body orelse pos) m bw:=
 ⟨h2.len,h2.Yu,λA c s env l hA hl hS hE R E Q hQ=>wpAny_If (h1 A c s env hA hE R _ _ λc1 s1 l1 R1 K1=>by
  induction b with
  |true=>exact h2.run A c1 s1 env l hA hl (tC hS l1) (hE.mono l1 (ab _)) R1 _ _ λc2 v2 s2 l2 K2 U=>hQ c2 v2 s2 (l1.trans l2 (ab _)) (K1.trans K2) U
  |false=>exact h2.run A c1 s1 env l hA hl (tC hS l1) (hE.mono l1 (ab _)) R1 _ _ λc2 v2 s2 l2 K2 U=>hQ c2 v2 s2 (l1.trans l2 (ab _)) (K1.trans K2) U)⟩
def jC.here (h:qX S k O ae st m bw):jC S k O ae (st::rest) m bw:=
 ⟨h.len,h.Yu,λA c s env l hA hl hS hE R E Q hQ=>da (h.run A c s env l hA hl hS hE R _ _ hQ)⟩
def jC.next (h1:iW S k O ae st .next bw) (hn:v9 O bw) (h2:jC S k bw ae rest m bP):jC S k O ae (st::rest) m bP:=
 ⟨aA h1.len h2.len,hn.trans h2.Yu,λA c s env l hA hl hS hE R E Q hQ=>da (h1.run A c s env hA hE R _ _ λc1 v1 s1 l1 R1 K1 f1=>by
  obtain rfl:=f1.wL;exact h2.run A c1 s1 env l hA hl (hS.step hn l1) (hE.mono l1 h1.len) R1 _ _ λc2 v2 s2 l2 K2 U=>hQ c2 v2 s2 (l1.trans l2 h1.len) (K1.trans K2) U)⟩
def qX.expr (h:yv S k O ae e m) (hs:swapsWith e ac pos.line=λq=>pure false):qX S k O ae (.Expr e pos) m O:=
 ⟨ab _,.refl _,λA c s env l hA hl hS hE R E Q hQ=>yM (h.run A c s env l hA hl hS hE R _ _ hQ) (by
  unfold interactive;rw[hE.scope,hE.kind];rfl) (congrFun hs env)⟩
def qX.assign (h:yv S k O ae gQ m) (hs:swapsWith gQ (aa (.Name x jT)) pos.line=λq=>pure false):qX S k O ae (.Assign [.Name x jT] gQ pos) m O:=
 ⟨ab _,.refl _,λA c s env l hA hl hS hE R E Q hQ=>kW (h.run A c s env l hA hl hS hE R _ _ hQ) (congrFun hs env)⟩
def yv.E4 (hr:r∈fV) (hf:nH S k O ae (.Name f np) (.con (.ref r.addr))) (ha:ck S k O ae args ds) (hk:o7 S k O ae zR OB) (hc:eZ S k O (.pv (.con (.ref r.addr))) ds OB m):
  yv S k O ae (.Call (.Name f np) args zR pos) m:=by
 refine⟨λA c s env l hA hl hS hE R E Q hQ=> ?_⟩;refine cn (hf.run A c s env hA hE R _ _ λc1 v1 s1 l1 R1 K1 a1=> ?_);have e':=a1.dn;subst e';left;let ⟨of,pm,Kl,Oa,FQ,_⟩:=R1.fn hr;right;refine fJ (o:=of) (fd:=r.fd pm) ?_;refine nh ha hk _ pos A c1 s1 env hA (hE.mono l1 (ab _)) R1 _ _ λc2 vs kvs s2 l2 R2 K2 a2 k2 b2=> ?_;have Km:s2.heap.get? r.addr=aa of:=by
  let ⟨FF,_,h0,_,_,_⟩:=S.fns r hr;have oO:∀q∈cm,r.addr≠q.2:=by
   have:∀r∈fV,∀q∈cm,r.addr≠q.2:=by decide
   exact this r hr
  rw[(R1.old h0 oO)]at Kl;obtain rfl:=ag Kl;exact(R2.old h0 oO)
 refine⟨⟨Km,FQ⟩,?_⟩;have uG:=l1.trans l2 (ab _);exact hc.run A c2 s2 _ vs kvs l hA hl (tC hS uG) R2 (.pv (.con _)) a2 k2 b2 E Q λc3 v3 s3 l3 K3 U=>hQ c3 v3 s3 (uG.trans l3 (ab _)) ((K1.trans K2).trans K3) U
def yv.sY (hr:r∈fV) (FL:(name,aa (.ref r.addr))∈iV)
  (ZJ:typeLookup (.type "object") name=pure ac) (h:Ev S k O ae o (.inst i) O) (hi:O[i]? =aa (.attrs m)) (hm:name∉m.map (·.1)) (ha:ck S k O ae args ds) (hk:o7 S k O ae zR OB) (hc:eZ S k O (.pv (.con (.ref r.addr))) (.inst i::ds) OB msg)
  (ik:∀env,attributeBase o name env (eval o env)=eval o env) (gC:(jw.endLine==pos.line)=true) (hn: ↑args+ ↑zR<20):yv S k O ae (.Call (.Attribute o name jw) args zR pos) msg:=by
 refine⟨λA c s env l hA hl hS hE R E Q hQ=> ?_⟩;rw[arm_eval_Call,ik];refine am (h.run A c s env hA hE R _ _ λc1 v1 s1 l1 R1 K1 a1=> ?_);refine am (cV ?_);unfold methodCall;rw[(Lx ha hk pos env hn)];left;let ⟨x,ox,mA,rfl,hFx,hdx,hI,ZK,Vw⟩:=R1.inst hi a1;let ⟨nm,q,bs,sn,sub,OT,dd,k0,k1,k2,k3,k5,mN,hC,vj,hN⟩:=R1.clsAt;let ⟨of,pm,Kl,Oa,FQ,_⟩:=R1.fn hr;let ⟨hp,g,d',t,os⟩:=s1;right;refine am (dH (method_of hC vj (hN (ah "__getattribute__",ac) (by unfold iV;walk_at "a")) (hN (ah "__getattr__",ac) (by unfold iV;walk_at "a")) (hN _ FL) Kl Oa ZJ hI (Vw _ hm) ?_));refine am (i5 (by unfold methodCallPos;simp[gC]:methodCallPos true o env jw pos=pure pos) ?_);refine fJ (o:=of) (fd:=r.fd pm) ?_;refine nh ha hk _ pos A c1 _ env hA (hE.mono l1 (ab _)) R1 _ _ λc2 vs kvs s2 l2 R2 K2 a2 k2 b2=> ?_;have Km:s2.heap.get? r.addr=aa of:=by
  let ⟨FF,_,h0,_,_,_⟩:=S.fns r hr;have oO:∀q∈cm,r.addr≠q.2:=by
   have:∀r∈fV,∀q∈cm,r.addr≠q.2:=by decide
   exact this r hr
  rw[(R1.old h0 oO)]at Kl;obtain rfl:=ag Kl;exact(R2.old h0 oO)
 refine⟨⟨Km,FQ⟩,?_⟩;have uG:=l1.trans l2 (ab _);refine hc.run A c2 s2 _ _ kvs l hA hl (tC hS uG) R2 (.pv (.con _)) (.cons (a1.mono l2 (ab _)) a2) k2 b2 E Q λc3 v3 s3 l3 K3 U=>hQ c3 v3 s3 (uG.trans l3 (ab _)) ((K1.trans K2).trans K3) U
def v9.ns1:v9 (O++[.ns m]) (O++[.ns m']):=λi x h=>by
 rcases eH i ↑O with hi|hi|hi
 ·rw[aW hi]at h⊢;exact⟨x,h⟩
 ·subst hi;exact⟨m',by rw[aE (ab _),dc];rfl⟩
 ·rw[aE (ce hi)]at h;have:=getElem?_lt' h;simp at this;exact(abZ this hi).elim
def eZ.Qb (F:pU r loc own) (gr:∀pm,jE S O (r.fd pm) args kw binds) (hn:fj r.scope.names=0)
  (rp:jU S (gB r (↑O+0)) (O++[.ns (loc.map λx=>(x,ac))]) binds (O++[.ns akg]))
  (dY:jC S k (O++[.ns akg]) (gB r (↑O+0)) r.body m (O++τ)):eZ S (k+1) O (.pv (.con (.ref r.addr))) args kw m:=
 eZ.Ds F (λpm=>(gr pm).B) (by unfold ent;rw[hn];exact rp) (by unfold ent;rw[hn];exact v9.ns1) dY
noncomputable abbrev jF:Str:=ah "lo must be non-negative"
noncomputable abbrev rQ:Str:=ah "Control characters not allowed in headers"
def M7:ma rB.scope [ah "ValueError"]:=ma.of tt
def M8:ma cQ.scope [ah "ValueError"]:=ma.of tt
def eZ.Yg (right:Bool) (D6:lo<0) (hb:∀pm,jE S O ((I8 right).fd pm) args kw [(sA,a),(sX,x),(oR,.pv (.int lo)),(oS,hi),(gp,key)]):eZ S (k+1) O (.pv (.con (.ref (I8 right).addr))) args kw jF:=by
 induction right with
 |false=>
  have h1:=sR;have h2:=M7;have dY:∃τ,jC S k (O++[AO.ns [(sA,aa a),(sX,aa x),(oR,~~~(.int lo)),(oS,aa hi),(gp,aa key),(sQ,ac)]]) (gB fk (↑O+0)) fk.body jF (O++τ):=by
   apply fX;apply jC.here;apply qX.if (b:=true)
   ·apply ou.to
    ·walk_at "i"
    ·walk_at "k"
   ·apply jC.here;apply qX.raise;walk_at "b"
  let ⟨τ,dY⟩:=dY;refine eZ.Qb (r:=fk) (loc:=[sA,sX,oR,oS,gp,sQ]) (own:=[]) (.of 3 rfl rfl tt) hb rfl ?_ dY;show jU S _ (O++[AO.ns [(sA,ac),(sX,ac),(oR,ac),(oS,ac),(gp,ac),(sQ,ac)]]) _ _;walk_at "x"
 |true=>
  have h1:=te;have h2:=M8;have dY:∃τ,jC S k (O++[AO.ns [(sA,aa a),(sX,aa x),(oR,~~~(.int lo)),(oS,aa hi),(gp,aa key),(sQ,ac)]]) (gB cQ (↑O+0)) cQ.body jF (O++τ):=by
   apply fX;apply jC.here;apply qX.if (b:=true)
   ·apply ou.to
    ·walk_at "i"
    ·walk_at "k"
   ·apply jC.here;apply qX.raise;walk_at "b"
  let ⟨τ,dY⟩:=dY;refine eZ.Qb (r:=cQ) (loc:=[sA,sX,oR,oS,gp,sQ]) (own:=[]) (.of 1 rfl rfl tt) hb rfl ?_ dY;show jU S _ (O++[AO.ns [(sA,ac),(sX,ac),(oR,ac),(oS,ac),(gp,ac),(sQ,ac)]]) _ _;walk_at "x"
def M9:ma rC.scope [ah "type",ah "str",ah "_name_disallowed_re",ah "_value_disallowed_re",ah "ValueError"]:=ma.of tt
def eZ.conv (b:Bool) (hi:i< ↑O) (hb:kM (codeOf b) x=aa true):eZ S (k+1) O (.pv (.con (.ref rC.addr))) [.inst i,.pv (.str x)] [(mz,.pv (PV.bool b))] rQ:=by
 have h1:=Bp;have h2:=M9;have dY:∃τ,jC S k (O++[AO.ns [(iU,aa (.inst i)),(nK,~~~(.str x)),(mz,~~~(PV.bool b)),(tA,ac)]]) (gB rC (↑O+0)) rC.body rQ (O++τ):=by
  apply fX;apply jC.here;apply qX.if (b:=true)
  ·apply ou.jq (a:= .pv (.con (.type "str"))) (b:= .pv (.con (.type "str")))
   ·apply Ev.Lz
    ·walk_at "b"
    ·walk_at "b"
    ·rfl
   ·walk_at "b"
   ·intro S k A c s u v hA R ha hb E Q hQ;have e1:=ha.dn;have e2:=hb.dn;subst e1 e2;exact nQ rfl (hQ c _ _ (.refl ..) R (.refl ..) (.pv (.con _)))
   ·rfl
  apply jC.next (bw:=O++[AO.ns [(iU,aa (.inst i)),(nK,~~~(.str x)),(mz,~~~(PV.bool b)),(tA,~~~(.con (.ref (xg b))))]])
  ·apply iW.assign
   ·apply Ev.PC (b:=b) (d:= .pv (.con (.ref (xg b))))
    ·apply ou.Bo
     ·walk_at "b"
     ·intro _ _;rfl
    ·cases b
     ·rw[if_neg bF];apply Ev.CG (v:= .ref 53) h2
      ·rfl
      ·walk_at "a"
      ·unfold cg;walk_at "a"
      ·rfl
     ·rw[if_pos rfl];apply Ev.CG (v:= .ref 48) h2
      ·rfl
      ·walk_at "a"
      ·unfold cg;walk_at "a"
      ·rfl
   ·apply jY.AM h1
    ·rfl
    ·walk_at "a"
    ·walk_at "e"
    ·walk_at "c"
    ·walk_at "d"
   ·intro _ _;rfl
  ·exact v9.ns1
  apply jC.here;apply qX.if (b:=true)
  ·apply ou.P1 (b:=b)
   ·walk_at "b"
   ·walk_at "b"
   ·rfl
   ·exact hb
   ·intro _;rfl
   ·rfl
   ·intro _ _;rfl
  ·apply jC.here;apply qX.raise;walk_at "b"
 let ⟨τ,dY⟩:=dY;refine eZ.Qb (loc:=[iU,nK,mz,tA]) (own:=[]) (binds:=[(iU,.inst i),(nK,.pv (.str x)),(mz,.pv (PV.bool b))]) (.of 21 rfl rfl tt) (λpm=> ?_) rfl ?_ dY
 ·exact Bq pm
 ·show jU S _ (O++[AO.ns [(iU,ac),(nK,ac),(mz,ac),(tA,ac)]]) _ _;walk_at "x"
def eZ.uL (D6:lo<0):eZ S (k+2) O (.pv (.con (.ref dQ.addr))) [d,x,.pv (.int lo)] [] jF:=by
 have h1:=ti;have h2:=Bg;have dY:∃τ,jC S (k+1) (O++[AO.ns [(sA,aa d),(sX,aa x),(oR,~~~(.int lo)),(oS,~~~PV.none),(gp,~~~PV.none)]]) (gB dQ (↑O+0)) dQ.body jF (O++τ):=by
  apply fX;apply jC.here;apply qX.if (b:=true)
  ·apply ou.to
   ·walk_at "i"
   ·walk_at "k"
  ·apply jC.here;apply qX.assign
   ·apply yv.E4 (r:=fk) pu.mem
    ·apply Ev.CG (by assumption)
     ·rfl
     ·walk_at "a"
     ·show(_,aa (eM 222))∈cg;unfold cg;walk_at "a"
     ·rfl
    ·apply ck.cons
     ·walk_at "b"
     ·apply ck.cons
      ·walk_at "b"
      ·apply ck.cons
       ·walk_at "b"
       ·apply ck.cons
        ·walk_at "b"
        ·exact .nil
        ·rfl
       ·rfl
      ·rfl
     ·rfl
    ·exact .nil
    ·exact eZ.Yg (S:=S) (k:=k) false D6 (λpm=>pu.binds .four pm)
   ·exact pp
 let ⟨τ,dY⟩:=dY;refine eZ.Qb (r:=dQ) (loc:=[sA,sX,oR,oS,gp]) (own:=[]) (.of 2 rfl rfl tt) (λpm=>th.binds .three pm) rfl ?_ dY;show jU S _ (O++[AO.ns [(sA,ac),(sX,ac),(oR,ac),(oS,ac),(gp,ac)]]) _ _;walk_at "x"
def Na:ma cP.scope [ah "bisect_right"]:=ma.of tt
def eZ.afz (hk:qk key) (hg:sm S (k+1) O key g) (hx:g x=aa i) (D6:lo<0):eZ S (k+2) O (.pv (.con (.ref cP.addr))) [d,.pv x,.pv (.int lo)] [(gp,key)] jF:=by
 have h1:=tj;have h2:=Na;have dY:∃τ,jC S (k+1) (O++[AO.ns [(sA,aa d),(sX,~~~x),(oR,~~~(.int lo)),(oS,~~~PV.none),(gp,aa key)]]) (gB cP (↑O+0)) cP.body jF (O++τ):=by
  apply fX;apply jC.here;apply qX.if (b:=false)
  ·apply ou.jq
   ·walk_at "b"
   ·walk_at "b"
   ·exact zJ.qT hk
   ·rfl
  ·apply jC.here;apply qX.assign
   ·apply yv.E4 (r:=cQ) pz.mem
    ·apply Ev.CG (by assumption)
     ·rfl
     ·walk_at "a"
     ·show(_,aa (eM 204))∈cg;unfold cg;walk_at "a"
     ·rfl
    ·apply ck.cons
     ·walk_at "b"
     ·apply ck.cons
      ·apply Ev.pn rfl hk
       ·walk_at "b"
       ·apply ck.cons
        ·walk_at "b"
        ·exact .nil
        ·rfl
       ·exact hg _ pq x _ hx
      ·apply ck.cons
       ·walk_at "b"
       ·apply ck.cons
        ·walk_at "b"
        ·exact .nil
        ·rfl
       ·rfl
      ·rfl
     ·rfl
    ·apply o7.cons
     ·walk_at "b"
     ·exact .nil
    ·exact eZ.Yg (S:=S) (k:=k) true D6 (λpm=>pz.yo .four pm)
   ·exact pp
 let ⟨τ,dY⟩:=dY;refine eZ.Qb (r:=cP) (loc:=[sA,sX,oR,oS,gp]) (own:=[]) (.of 0 rfl rfl tt) (λpm=>qU.yo .three pm) rfl ?_ dY;show jU S _ (O++[AO.ns [(sA,ac),(sX,ac),(oR,ac),(oS,ac),(gp,ac)]]) _ _;walk_at "x"
section
variable {lay:Lay}
def v9.same (bc:At lay p st O) (SD:At lay p cf bv) (h:ko lay p st cf O bv):v9 O bv:=by
 intro i m hi;by_cases h1:i=p.fi
 ·subst h1;exact⟨_,SD.frame⟩
 by_cases h2:∃j,j<lay.own/\p.ci[j]? =aa i
 ·let ⟨j,hj,Xm⟩:=h2;have hl:j< ↑st.cv:=by rw[bc.xZ,<- bc.FD];exact getElem?_lt' Xm
  let ⟨n,hn,hc⟩:=bc.cells j _ (aq hl);rw[Xm]at hn;obtain rfl:=ag hn;rw[hc]at hi;nomatch hi
 by_cases h3:∃j,j< ↑st.ob/\i=p.oi j
 ·let ⟨j,hj,rfl⟩:=h3;have:=bc.obs j _ (aq hj);rw[this]at hi;cases h:st.ob[j]<;>rw[h]at hi<;>nomatch hi
 ·exact⟨m,by rw[h.out i (getElem?_lt' hi) h1 (λj hj e=>h2 ⟨j,hj,e⟩) (λj hj e=>h3 ⟨j,hj,e⟩)];exact hi⟩
def lE (S:cz) (k:Nat) (lay:Lay) (ss:List Stmt) (F:St->Option St) (m:Str):Prop:=
 ∀p O st cf,At lay p st O->F st=aa cf->∃bv,jC S k O (lay.en p) ss m bv/\At lay p cf bv/\ko lay p st cf O bv
def CP (S:cz) (k:Nat) (lay:Lay) (e:Expr) (P:St->Bool) (m:Str):Prop:=∀p O st,At lay p st O->P st=true->yv S k O (lay.en p) e m
def Bx (f:SF) (g:St->Option St) (st:St):Option St:=(nxt (f st)).bind g
def lE.cons (h1:mu S k lay s f) (h2:lE S k lay ss g m):lE S k lay (s::ss) (Bx f g) m:=by intro p O st cf bc hf;refine a9 hf λst1 e hf=> ?_;let ⟨lI,a1,b1,c1⟩:=h1 p O st _ st1 bc (Lv e);let ⟨uQ,a2,b2,c2⟩:=h2 p lI st1 cf b1 hf;exact⟨uQ,.next a1 (v9.same bc b1 c1) a2,b2,c1.trans c2 bc⟩
noncomputable def By (P:St->Bool) (st:St):Option St:=if P st=true then aa st else ac
def lE.expr (h:CP S k lay e P m) (hs:swapsWith e ac pos.line=λq=>pure false):lE S k lay (.Expr e pos::ss) (By P) m:=by intro p O st cf bc hf;let ⟨hp,rfl⟩:=dT hf;exact⟨O,.here (.expr (h p O st bc hp) hs),bc,.refl ..⟩
def lE.asg (h:CP S k lay e P m) (hs:swapsWith e (aa (.Name x np)) pos.line=λq=>pure false):lE S k lay (.Assign [.Name x np] e pos::ss) (By P) m:=by intro p O st cf bc hf;let ⟨hp,rfl⟩:=dT hf;exact⟨O,.here (.assign (h p O st bc hp) hs),bc,.refl ..⟩
noncomputable def yIf (b:St->Option Bool) (g:St->Option St) (st:St):Option St:=(b st).bind λx=>cond x (g st) ac
def lE.ifT (hb:AU S k lay test b) (h:lE S k lay body g m):lE S k lay (.If test body orelse pos::ss) (yIf b g) m:=by
 intro p O st cf bc hf;refine a9 hf λx e hf=> ?_;induction x with
 |true=>let ⟨lI,a1,b1,c1⟩:=h p O st cf bc hf;exact⟨lI,.here (.if (b:=true) (hb p O st _ bc e) a1),b1,c1⟩
 |false=>exact gq hf
def Bz (b:Bool) (f fe:EF) (st:St):Bool:=(Br true b f fe st).isSome
def CP.conv (hk:1<=k) (h:cS S k lay o f) (he:cS S k lay e fe) (hs:notStar e=true) (ik:∀env,attributeBase o "_convert_string_type" env (eval o env)=eval o env) (gC:(jw.endLine==pos.line)=true):
  CP S k lay (.Call (.Attribute o "_convert_string_type" jw) [e] [⟨aa mz,.Constant (.bool b) n FJ,kp⟩] pos) (Bz b f fe) rQ:=by
 intro p O st bc hf;let ⟨v,hf⟩:=ji.mp hf;refine Bs hf λj x u hj hx ha hb e=> ?_;have FI:=bc.obs j _ ha;obtain⟨k',rfl⟩:∃k',k=k'+1:=⟨k- 1,by simp_all⟩;exact yv.sY (r:=rC) P2 (by unfold iV;show(_,aa (eM 83))∈_;walk_at "a") vf (h p O st _ bc hj) FI (by show _∉ [a6];decide) (.cons (he p O st _ bc hx) .nil hs) (.cons Ev.bool .nil) (eZ.conv (k:=k') b (getElem?_lt' FI) hb) ik gC (by show 1+1<20;decide)
def yv.yw (h:Ev S k O ae o d O) (hl:IsL O d l) (hx:yv S k O ae e m) (oO:notStar e=true) (ik:∀env,attributeBase o "append" env (eval o env)=eval o env) (gC:(jw.endLine==pos.line)=true):
  yv S k O ae (.Call (.Attribute o "append" jw) [.Tuple (e::rest) n tV] [] pos) m:=by
 refine⟨λA c s env fr hA uH hS hE R E Q hQ=> ?_⟩;refine eK (ik env) rfl gC (h.run A c s env hA hE R _ _ λc1 v1 s1 l1 R1 K1 a1=> ?_);left;let ⟨a,vs,mm,rfl,ho,hs,_⟩:=hl.at R1 a1;right;refine⟨"list", "list.append",F.plainAttrs_list,F.slot_list_append,F.type_list_append,⟨_,ho,rfl⟩,λb e=>by cases e;exact⟨_,ho,rfl⟩,cX rfl ?_⟩;refine lA (rest:=[]) (keywords:=[]) rfl (bX (sJ (k:=n) ?_));rw[gz oO];exact bX (hx.run A c1 s1 env fr hA uH (tC hS l1) (hE.mono l1 (ab _)) R1 _ _ λc2 v2 s2 l2 K2 U=>hQ c2 v2 s2 (l1.trans l2 (ab _)) (K1.trans K2) U)
def Yn (f:EF) (P:St->Bool) (st:St):Bool:=((f st).bind st.ow).isSome&&P st
def CP.yw (h:cS S k lay o f) (hx:CP S k lay e P m) (oO:notStar e=true) (ik:∀env,attributeBase o "append" env (eval o env)=eval o env) (gC:(jw.endLine==pos.line)=true):
  CP S k lay (.Call (.Attribute o "append" jw) [.Tuple (e::rest) n tV] [] pos) (Yn f P) m:=by
 intro p O st bc hf;let ⟨h1,h2⟩:=dD.mp hf;let ⟨l,hl⟩:=ji.mp h1;exact a9 hl λv hv hl=>yv.yw (h p O st _ bc hv) (bc.ow hl) (hx p O st bc h2) oO ik gC
end
def eZ.sY {l ds:List PV} (F:pU r loc own) (Vu:kb S (eW r loc own) names tg) (dY:lE S k (eW r loc own) r.body G m)
  (hi:O[i]? =aa (.attrs [(a6,.fM h)])) (hh:O[h]? =aa (.list l)) (yK:i≠h) (H8:∃st1 cf,tg (.inst 0::ds.map CV.pv) (yt loc own l)=aa st1/\G st1=aa cf/\cf.ob[0]? =aa (CO.attrs [(a6,.ob 1)])/\cf.ob[1]? =aa (.list l))
  (gr:∀pm,vC S k O (r.fd pm) args kw (names.zip (AV.inst i::ds.map AV.pv))):eZ S (k+1) O (.pv (.con (.ref r.addr))) args kw m:=by
 let ⟨st1,cf,ZA,hF,ho0,ho1⟩:=H8;have bc:=F.atM hi hh yK;let ⟨lI,a1,l1,b1,c1,_⟩:=Vu _ _ _ _ st1 bc ZA;let ⟨nA,a,b,c⟩:=dY _ _ _ cf b1 hF;let ⟨τ,rfl⟩:=G4 (c1.trans c bc) hi (getElem?_lt' hh) b ho0 ho1;rw[F.en]at a a1;rw[Ly]at a1;rw[show O.set h (.list l)=O from ro λj=>by
  by_cases e:h=j
  ·subst e;rw[bU (getElem?_lt' hh),hh]
  ·rw[bD e]]at a
 exact eZ.Ds F (binds:=names.zip (AV.inst i::ds.map AV.pv)) gr a1 (v9.same bc b1 c1) a
def Jj:St->Option St:=(Bx (CI (.list []) (bf 4)) (Bx (jz (bY .IsNot (ak 2) (jg PV.none)) (aC (bZ (ql false (ak 0) (ak 2)) (bf 2)) (aC (oy gZ (ak 4) (au (ak 2) aZ)) br)) br) (Bx (P5 (ak 3)) (By (Yn (sq (ak 0)) (Bz true (ak 0) (ak 1)))))))
def Uq:lE S 1 mh fy.body Jj rQ:=(lE.cons (mu.GF (i:=4) rfl tt) (lE.cons (mu.if (AU.cmp (cS.loc (i:=2) tt) cS.none rfl) (jZ.cons (mu.PI (i:=2) (cS.conv (ab _) (cS.loc (i:=0) tt) (cS.loc (i:=2) tt) rfl (λq=>rfl) rfl) tt pp) (jZ.cons (mu.mut Bc.append F.slot_list_append F.type_list_append (cS.loc (i:=4) tt) (pQ.cons (cS.loc (i:=2) tt) pQ.nil rfl) (λq=>rfl) rfl ∅ pp) jZ.nil)) jZ.nil) (lE.cons (mu.M1 (cS.loc (i:=3) tt) (λq=>rfl) rfl) (lE.expr (CP.yw (cS.ajm (cS.loc (i:=0) tt)) (CP.conv (ab _) (cS.loc (i:=0) tt) (cS.loc (i:=1) tt) rfl (λq=>rfl) rfl) rfl (λq=>rfl) rfl) pp))))
def Jk:St->Option St:=(Bx (CI (.list []) (bf 4)) (yIf (bY .IsNot (ak 2) (jg PV.none)) (By (Bz false (ak 0) (ak 2)))))
def Ur:lE S 1 mh fy.body Jk rQ:=(lE.cons (mu.GF (i:=4) rfl tt) (lE.ifT (AU.cmp (cS.loc (i:=2) tt) cS.none rfl) (lE.asg (CP.conv (ab _) (cS.loc (i:=0) tt) (cS.loc (i:=2) tt) rfl (λq=>rfl) rfl) pp)))
noncomputable abbrev Us:Str:=ah "a\n"
noncomputable abbrev G9:Str:=ah "\x07"
def Yo:kM (codeOf true) Us=aa true:=by kernel_rfl
def Ut:kM (codeOf false) G9=aa true:=by kernel_rfl
def ajp:kM (codeOf false) "b" =aa false:=by kernel_rfl
def Nb (h1:f st=aa (.inst j)) (h2:fe st= ~~~(.str x)) (h3:st.ob[j]? =aa (.attrs [(a6,v)])) (h4:kM (codeOf b) x=aa false):ql b f fe st= ~~~(.str x):=yu h1 h2 h3 h4
def Ha (h1:f st=aa (.inst j)) (h2:fe st= ~~~(.str x)) (h3:st.ob[j]? =aa (.attrs [(a6,v)])) (h4:kM (codeOf b) x=aa true):Bz b f fe st=true:=by unfold Bz;rw[yu h1 h2 h3 h4];rfl
def rR (h:f st=aa (.next,st1)):Bx f g st=g st1:=by unfold Bx;rw[h];rfl
def Hb (h:f st=aa (.next,st1)):aC f g st=g st1:=by unfold aC;rw[h]
def Hc (h:P st=true):By P st=aa st:=by unfold By;rw[if_pos h]
noncomputable abbrev Qc:List Str:=["self", "_name", "_value", "_params", "parts", "k", "v"]
def Qd (l:List PV):∃st1 cf,oE (.inst 0::[PV.str Us,.str "b",.oK []].map CV.pv) (yt Qc [] l)=aa st1/\Jj st1=aa cf/\cf.ob[0]? =aa (CO.attrs [(a6,.ob 1)])/\cf.ob[1]? =aa (.list l):=by
 let s0:St:=⟨[aa (.inst 0),~~~(.str Us),~~~(.str "b"),~~~(.oK []),ac,ac,ac],[],[CO.attrs [(a6,.ob 1)],.list l]⟩;let s1:St:=⟨[aa (.inst 0),~~~(.str Us),~~~(.str "b"),~~~(.oK []),aa (.ob 2),ac,ac],[],[CO.attrs [(a6,.ob 1)],.list l,.list []]⟩;let s2:St:=⟨[aa (.inst 0),~~~(.str Us),~~~(.str "b"),~~~(.oK []),aa (.ob 2),ac,ac],[],[CO.attrs [(a6,.ob 1)],.list l,.list [.str "b"]]⟩;have e2:jz (bY .IsNot (ak 2) (jg PV.none)) (aC (bZ (ql false (ak 0) (ak 2)) (bf 2)) (aC (oy gZ (ak 4) (au (ak 2) aZ)) br)) br s1=aa (.next,s2):=by
  show aC (bZ (ql false (ak 0) (ak 2)) (bf 2)) (aC (oy gZ (ak 4) (au (ak 2) aZ)) br) s1=_;rw[Hb (st1:=s1)]
  ·rfl
  ·unfold bZ;rw[Nb (j:=0) (x:=ah "b") (v:= .ob 1) rfl rfl rfl ajp];rfl
 refine⟨s0,s2,rfl,?_,rfl,rfl⟩;unfold Jj;rw[rR (st1:=s1) rfl,rR e2,rR (st1:=s2) rfl];refine Hc ?_;unfold Yn;have e4:sq (ak 0) s2=aa (.ob 1):=by show(if a6==a6 then aa (CV.ob 1) else ac)=_;rw[if_pos (beq_self_eq_true _)]
 rw[e4];show(true&&Bz true (ak 0) (ak 1) s2)=true;rw[(Ha (j:=0) (x:=Us) (v:= .ob 1) rfl rfl rfl Yo)];rfl
def Qe (l:List PV):∃st1 cf,oE (.inst 0::[PV.str "a",.str G9,.oK []].map CV.pv) (yt Qc [] l)=aa st1/\Jk st1=aa cf/\cf.ob[0]? =aa (CO.attrs [(a6,.ob 1)])/\cf.ob[1]? =aa (.list l):=by let s0:St:=⟨[aa (.inst 0),~~~(.str "a"),~~~(.str G9),~~~(.oK []),ac,ac,ac],[],[.attrs [(a6,.ob 1)],.list l]⟩;let s1:St:=⟨[aa (.inst 0),~~~(.str "a"),~~~(.str G9),~~~(.oK []),aa (.ob 2),ac,ac],[],[.attrs [(a6,.ob 1)],.list l,.list []]⟩;refine⟨s0,s1,rfl,?_,rfl,rfl⟩;unfold Jk;rw[rR (st1:=s1) rfl];show By (Bz false (ak 0) (ak 2)) s1=aa s1;exact Hc (Ha (j:=0) (x:=G9) (v:= .ob 1) rfl rfl rfl Ut)
def eZ.ajq (hi:O[i]? =aa (.attrs [(a6,.fM h)])) (hh:O[h]? =aa (.list l)) (yK:i≠h):eZ S 2 O (.pv (.con (.ref fy.addr))) [.inst i,.pv (.str Us),.pv (.str "b")] [] rQ:=
 eZ.sY (.of 24 rfl rfl (by kernel_rfl)) rP Uq hi hh yK (Qd l) λpm=>nL pm
def eZ.ajr (hi:O[i]? =aa (.attrs [(a6,.fM h)])) (hh:O[h]? =aa (.list l)) (yK:i≠h):eZ S 2 O (.pv (.con (.ref fy.addr))) [.inst i,.pv (.str "a"),.pv (.str G9)] [] rQ:=
 eZ.sY (.of 24 rfl rfl (by kernel_rfl)) rP Ur hi hh yK (Qe l) λpm=>nL pm
def cz.mj (S:cz):cz:= {S with yI:=false}
def Rel.mj (R:Rel S c O h):Rel S.mj c O h:=⟨R.frozen,R.base,R.own,R.apart,R.inj,R.pins,λq hq=>let ⟨a,b,ps,d,e,f⟩:=R.tabs q hq;⟨a,b,ps,d,⟨e.1,λh=>by cases h⟩,f⟩⟩
def Ev.Yp (h:nH S k O ae x (.int i)):nH S k O ae (.UnaryOp .USub x pos) (.int (-i)):=by refine⟨ab _,λA c s env hA hE R E Q hQ=> ?_⟩;refine Cm (h.run A c s env hA hE R _ _ λc1 v1 s1 l1 R1 K1 a1=> ?_);have Kb:=a1.gh;let ⟨_,rfl⟩:=Kb.kH;exact CA (hQ c1 _ _ l1 R1 (K1.trans (.toks ..)) (.pv (.int ..)))
structure qY (c:aM) (a cc:Addr) (params:Arguments) (body:Expr) (scope:Scope) (cells:Sn):Prop where
 obj:∃o fd,c.F a=aa o/\o.cls= .type "function" /\o.data= .func fd/\fd.globals=mainGlobals/\fd.builtins=builtinsNs/\fd.defaults= .none/\fd.kwdefaults= .none/\fd.params=params/\fd.body= .expr body/\fd.scope=scope/\fd.closure=cells.map (λp=>(p.1,c.Z p.2))/\fd.code= .ref cc
 code:∃oc vc q t,c.F cc=aa oc/\oc.data= .fields vc/\vc[1]? =aa (.str q t)
def qY.of (h:cT w c n v (.tm params body scope cells)):∃a cc,v= .ref a/\qY c a cc params body scope cells/\∀p∈cells,p.2<n:=by obtain(⟨a,rfl,@⟨o,fd,h1,h2,h3,h4,h5,h6,h7,h8,h9,IB,IC,Oz⟩,h13⟩):=h.XW;left;let ⟨c',oc,vc,q,tq,e1,e2,e3,e4⟩:=h8;right;exact⟨a,c',rfl,⟨⟨o,fd,h1,h2,h3,h4,h5,h6,h7,h9,IB,IC,Oz,e1⟩,⟨oc,vc,q,tq,e2,e3,e4⟩⟩,h13⟩
def qY.mono (h:qY c a cc params body scope cells) (hF:∀a o,c.F a=aa o->c'.F a=aa o) (D5:∀i,i<n->c'.Z i=c.Z i) (sG:∀p∈cells,p.2<n):qY c' a cc params body scope cells:=by left;let ⟨⟨o,fd,h1,h2,h3,h4,h5,h6,h7,h9,IB,IC,Oz,e1⟩,⟨oc,vc,q,tq,e2,e3⟩⟩:=h;right;exact⟨⟨o,fd,hF _ _ h1,h2,h3,h4,h5,h6,h7,h9,IB,IC,Oz.trans (cj λp hp=>by rw[D5 _ (sG p hp)]),e1⟩,⟨oc,vc,q,tq,hF _ _ e2,e3⟩⟩
def qY.val (h:qY c a cc params body scope cells) (sG:∀p∈cells,p.2<n):cT w c n (.ref a) (.tm params body scope cells):=by left;let ⟨⟨o,fd,h1,h2,h3,h4,h5,h6,h7,h9,IB,IC,Oz,e1⟩,⟨oc,vc,q,tq,e2,e3,e4⟩⟩:=h;right;exact .tm ⟨h1,h2,h3,h4,h5,h6,h7,⟨cc,oc,vc,q,tq,e1,e2,e3,e4⟩,h9,IB,IC,Oz⟩ sG
def pY.LC (h:pY O c l) (hn:v9 O bv) (hc:aM.pK own ↑O c c'):pY bv c' l:=λe he=>by left;let ⟨h1,i,m,h2,h3⟩:=h e he;let ⟨m',h4⟩:=hn i m h3;right;exact⟨h1,i,m',by rw[hc.Z i (getElem?_lt' h3)];exact h2,h4⟩
def E5 (S:cz) (O:List AO) (A:cR) (c:aM) (s:bb) (l:List lW) (v:Value) (m:Str) (own:Addr->Prop):Prop:=
 ∀(E:VS) (Q:VS),(∀c' x s',aM.pK own ↑O c c'->dZ s s'->Bw S c' O l m x s'->E x s')->wpAny (MM S.w) A (call v []) Q E s
def qY.call (X:qY c a cc params body scope cells)
  (gr:∀fd:FuncData,fd.params=params->fd.defaults= .none->fd.kwdefaults= .none->bindArgs fd ⟨[],[]⟩=pure [])
  (Il:∀x∈scope.names,x.2≠ .cell) (qr:scope.kind= .function) (Vv:scope.isCoroutine=false) (FP:scope.isGenerator=false) (sG:∀p∈cells,p.2< ↑O)
  (hA:jD (k+1) A) (hl:A.frames=aa l) (hS:pY O c l) (R:Rel S c O s.heap)
  (dY:∀env h',cY (c.own ↑O s.heap.objs.size) (↑O+1) {scope:=scope,fi:= ↑O,cells:=cells} env->env.code= .ref cc->Rel S (c.own ↑O s.heap.objs.size) (O++[.ns []]) h'->(∀b o,s.heap.get? b=aa o->h'.get? b=aa o)->
   pY (O++[.ns []]) (c.own ↑O s.heap.objs.size) (env::l)->jD k (A.deeper env)->(A.deeper env).frames=aa (env::l)->∀(E:VS) (Q:VS),
   (∀c' v s',aM.pK own (↑O+1) (c.own ↑O s.heap.objs.size) c'->dZ {s with heap:=h'} s'->Up S c' (O++[.ns []]) (env::l) m v s'->E v s')->wpAny (MM S.w) (A.deeper env) (eval body env) Q E {s with heap:=h'}):E5 S O A c s l (.ref a) m own:=by
 intro E Q hE;left;let ⟨⟨o,fd,h1,_,h3,h4,h5,h6,h7,h9,IB,IC,Oz,e1⟩,⟨oc,vc,q,tq,e2,e3,e4⟩⟩:=X;right;refine vW ?_;refine GS hA.room (R.frozen _ _ h1) h3 (by rw[IC];exact Vv) (by rw[IC];exact FP) IB e1 (R.frozen _ _ e2) e3 e4 ?_;refine i5 (gr fd h9 h6 h7) ?_;rw[IC,h4,h5,e1];refine yL Il (λx hx=>by cases hx) (λh' tU N8=> ?_) qr;have N9:gH s.heap.objs.size (s.heap.push {cls:= .type "frame",data:= .dict #[]}) h':=N8;have yc:∀b o,s.heap.get? b=aa o->h'.get? b=aa o:=λb o e=>N9.extBut b o (cU (bW e)) (aJ _ e);let ⟨on,hon,hrn⟩:=ic.Pp (w:=S.w) (c:=c.own ↑O s.heap.objs.size) (n:= ↑O+1) (m:=[]) tU (by trivial) (λx d hx=>by nomatch hx) (λx hx=>by cases hx);refine⟨sL R.lim yc,kla_codeExpr ?_⟩;have rq:cY (c.own ↑O s.heap.objs.size) (↑O+1) {scope:=scope,fi:= ↑O,cells:=cells} (newEnv scope s.heap.objs.size mainGlobals fd.closure (q++ah ".<locals>.") (aa a) (eM cc) ac builtinsNs):= {
  scope:=rfl
  kind:=qr
  locals:=(aM.lZ c ↑O _).symm
  fi:=ez _
  globals:=rfl
  builtins:=rfl
  cells:=Oz.trans (cj λp hp=>by rw[aM.ja.Z _ (sG p hp)])
  jp:=λp hp=>eI (sG p hp)
  code:=λa e=>by cases e
  frame:=⟨_,rfl⟩}
 generalize Ko:(newEnv scope s.heap.objs.size mainGlobals fd.closure (q++ah ".<locals>.") (aa a) (eM cc) ac builtinsNs)=env at rq⊢;have ZO:(A.deeper env).frames=aa (env::l):=by show A.frames.map (env:: ·)=_;rw[hl];rfl
 have Xn:pY (O++[.ns []]) (c.own ↑O s.heap.objs.size) (env::l):=λe he=>by
  rcases aH.mp he with rfl|he
  ·exact⟨(by rw[<- Ko];show scope.kind≠_;rw[qr];decide),↑O,[],(by rw[<- Ko,aM.lZ];rfl),(by rw[aE (ab _),dc];rfl)⟩
  ·exact hS.step (v9.Cv O _) aM.ja e he
 refine dY env h' rq (by rw[<- Ko];rfl) (R.AK (h':=h') (o:=on) yc (ab _) hon hrn) yc Xn hA.deeper ZO _ _ λc1 v1 s1 l1 K1 U=> ?_;refine G8 ZO (Xn.LC (v9.refl _) (by rw[aj];exact l1)) U λs2 T K2=> ?_;exact hE c1 v1 s2 (aM.ja.P.trans l1 (mr _)) (((dZ.gF s h').trans K1).trans K2) (T.drop R)
def E5.tm (gr:∀fd:FuncData,fd.params=params->fd.defaults= .none->fd.kwdefaults= .none->bindArgs fd ⟨[],[]⟩=pure [])
  (Il:∀x∈scope.names,x.2≠ .cell) (qr:scope.kind= .function) (Vv:scope.isCoroutine=false) (FP:scope.isGenerator=false)
  (dY:yv S k (O++[.ns []]) {scope:=scope,fi:= ↑O,cells:=cells} body m) (hA:jD (k+1) A) (hl:A.frames=aa l) (hS:pY O c l) (R:Rel S c O s.heap) (hv:cT S.w c ↑O v (.tm params body scope cells)):E5 S O A c s l v m own:=by
 let ⟨a,cc,rfl,X,sG⟩:=qY.of hv;refine X.call gr Il qr Vv FP sG hA hl hS R λenv h' rq q R1 yc Xn Xl hl1 E Q hQ=> ?_;have cH: ↑(O++[AO.ns []])= ↑O+1:=by rw[aj];rfl
 exact dY.run (A.deeper env) _ {s with heap:=h'} env (env::l) Xl hl1 Xn (by rw[cH];exact rq) R1 E Q λc1 v1 s1 l1 K1 U=>hQ c1 v1 s1 (by rw[cH]at l1;exact l1.P) K1 U
noncomputable abbrev jd:Str:=ah "table"
noncomputable abbrev nM:Str:=ah "row"
abbrev Uu:Scope:= {kind:= .function,names:=[(jd,.free)],isGenerator:=false,isCoroutine:=false}
def yv.d1 (hn:O[n]? =aa (.cell (aa (.inst i)))) (hi:O[i]? =aa (.attrs [(a6,.fM h)])) (hh:O[h]? =aa (.list l)) (yK:i≠h) (gC:(jw.endLine==pos.line)=true):
  yv S 2 (O++[.ns []]) {scope:=Uu,fi:= ↑O,cells:=[(jd,n)]} (.Call (.Attribute (.Name jd np) "add_header" jw) [.Constant (.str Us) n1 p1,.Constant (.str "b") n2 p2] [] pos) rQ:=
 yv.sY (r:=fy) Jf (by unfold iV;show(_,aa (eM 179))∈_;walk_at "a") rO (Ev.qN (i:=n) (by show gP jd Uu.names=_;decide+kernel) rfl (gA hn) rfl rfl) (gA hi) (by show _∉ [a6];decide) (.cons Ev.str (.cons Ev.str .nil rfl) rfl) .nil (eZ.ajq (gA hi) (gA hh) yK) (λq=>rfl) gC (by show 2+0<20;decide)
def yv.d2 (hn:O[n]? =aa (.cell (aa (.inst i)))) (hi:O[i]? =aa (.attrs [(a6,.fM h)])) (hh:O[h]? =aa (.list l)) (yK:i≠h) (gC:(jw.endLine==pos.line)=true):
  yv S 2 (O++[.ns []]) {scope:=Uu,fi:= ↑O,cells:=[(jd,n)]} (.Call (.Attribute (.Name jd np) "add_header" jw) [.Constant (.str "a") n1 p1,.Constant (.str G9) n2 p2] [] pos) rQ:=
 yv.sY (r:=fy) Jf (by unfold iV;show(_,aa (eM 179))∈_;walk_at "a") rO (Ev.qN (i:=n) (by show gP jd Uu.names=_;decide+kernel) rfl (gA hn) rfl rfl) (gA hi) (by show _∉ [a6];decide) (.cons Ev.str (.cons Ev.str .nil rfl) rfl) .nil (eZ.ajr (gA hi) (gA hh) yK) (λq=>rfl) gC (by show 2+0<20;decide)
abbrev Jl (f:Str):Scope:= {kind:= .function,names:=[(nM,.free),(f,.globalImplicit)],isGenerator:=false,isCoroutine:=false}
noncomputable abbrev zh:Str:=ah "insort_left"
noncomputable abbrev sr:Str:=ah "insort_right"
def yv.d3 (hn:O[n]? =aa (.cell (aa d))):
  yv S 2 (O++[.ns []]) {scope:=Jl zh,fi:= ↑O,cells:=[(nM,n)]} (.Call (.Name zh np) [.Name nM p1,.Constant (.int 1) n1 p2,.UnaryOp .USub (.Constant (.int 1) n2 p3) p4] [] pos) jF:=
 yv.E4 (r:=dQ) th.mem (Ev.ue (by show gP zh (Jl zh).names=_;exact so) (by show(_,aa (eM 213))∈cg;unfold cg;walk_at "a") rfl)
  (.cons (Ev.qN (i:=n) (by show gP nM (Jl zh).names=_;exact so) rfl (gA hn) rfl rfl) (.cons Ev.int (.cons (Ev.Yp Ev.int) .nil rfl) rfl) rfl) .nil (eZ.uL (k:=0) ∅)
section
variable {M:Model} {A:cR} {E:VS} {s:bb} {name qual:Str} {params:Arguments} {body:Expr} {scope:Scope} {env:lW} {c P:Addr} {ps:Array Value} {pos:Pos} {firstLine:Nat} {mg:Str->Option Value} {q0:Str×Addr} {r0:List (Str×Addr)} {Q:VS}
def Qf (sG:closureFor scope env=pure (q0::r0)) (akh:env.globals=mainGlobals) (hg:s.heap.Ns mainGlobals mg) (nZ:env.code= .ref c) (C:CodeHd s.heap c P) (hP:s.heap.get? P=aa (tableObj ps)) (ht:uW ps.toList)
  (hnf:codeAmong pos ps.toList=ac) (hgP:mainGlobals≠P) (hb:s.heap.BuiltinsAt mg P)
  (h:∀c' Mh h' tk P',rm P s.heap h'->s.heap.objs.size<=c'->c'<h'.objs.size->h'.CodeRec (.ref c') qual->h'.get? P=aa (tableObj (ps++ #[rawInt pos.line,rawInt pos.col,.ref c']))->s.heap.objs.size<=P'->CodeHd h' c' P'->h'.get? P'=aa (tableObj #[])->
   Q (.ref h'.objs.size) {s with heap:=h'.push {cls:= .type "function",data:= .func (SP name qual params body scope (q0::r0) ((mg "__name__").getD .none) (.ref c') Mh)},toks:=tk}):
  wpAny M A (makeFunction name qual params (.expr body) scope env [] [] [] pos firstLine) Q E s:=by
 have hk:∀(o:Obj),∀b x,s.heap.get? b=aa x->(s.heap.push o).get? b=aa x:=λo b x e=>aJ _ e;left;let ⟨bm,ob,ZH,akj,_,akk,hbo,FL,tT,Cd⟩:=hb;right;rw[makeFunction_eq];simp only[List.zip_nil_right,List.filterMap_nil,List.isEmpty_nil,if_true,pure_bind];unfold makeTail;rw[sG,akh];refine am (aR ?_);simp only[List.isEmpty_cons,fw,if_false];refine am (wpAny_newTextTuple ?_);refine am (wpAny_functionCodeX nZ ((C.keeps (hk _)).code (hk _ _ _ hP) ht) ((C.keeps (hk _)).tab (hk _ _ _ hP)) hnf λc' h' tk hx Aw kR q Kk htb C0=> ?_);left;let ⟨P',ZP,hc1,Kf⟩:=C0;have wj:=(hg.push _).extBut hx hgP;have sI:rm P s.heap h':=λb o uP e=>hx b o uP (hk _ _ _ e);have up:∀(o:Obj) {b:Nat},(s.heap.push o).objs.size<=b->s.heap.objs.size<=b:=λo b e=>aA (by rw[eU];exact bh _ _) e;right;refine am (wpAny_builtinsFor wj ZH akj (sI _ _ akk hbo) FL tT Cd ?_);refine am (wpAny_nsGet wj ?_);exact am (aR (iE (h c' _ h' tk P' sI (up _ Aw) kR Kk htb.2 (up _ ZP) (CodeHd.of hc1 Kf) Kf.2) (by size_fits)))
end
def aM.Nc {c:aM} (h:a≠P):(c.pinned [(P,o)]).pin a=c.pin a:=by show(gP a [(P,o)]).or (c.pin a)=c.pin a;rw[di,beq_false_of_ne h];rfl
def zP {p q:Pos} (hl:p.line=q.line) (hc:p.col=q.col):∀(n:Nat) (l:Vs),↑l<=n->codeAmong p l=codeAmong q l:=by
 intro n;induction n with
 |zero=>intro l h;rw[sy.mp (Oj.mp h)];rfl
 |succ n ih=>
  intro l h;rcases l with _|⟨a,_|⟨b,_|⟨d,r⟩⟩⟩
  ·rfl
  ·cases a<;>rfl
  ·induction a with
   |int=>cases b<;>rfl
   |_=>rfl
  ·induction a with
   |int x t=>induction b with
    |int y u=>show(if (x==p.line&&y==p.col)=true then aa d else codeAmong p r)=(if (x==q.line&&y==q.col)=true then aa d else codeAmong q r);rw[hl,hc,ih r (mQ (Tq (Tq h)))]
    |_=>rfl
   |_=>rfl
def Nd (Ik:S.yI=true) (nZ:ae.code=aa 324) (SA:∀env,defaultsOf params env=([],[])) (H7:j8 ae.cells scope.names []=aa cl) (oO:cl≠ []) (hl:pos.line=wD.line) (hc:pos.col=wD.col)
  (hE:cY c ↑O ae env) (R:Rel S c O s.heap) (E:VS) (Q:VS)
  (hQ:∀c' a cc P s',aM.pK (· =P) ↑O c c'->c.pin P=ac->Rel S.mj c' O s'.heap->dZ s s'->qY c' a cc params body scope cl->c'.pin P=aa (tableObj #[])->ud c'.F cc P->(∀p∈cl,p.2< ↑O)->Q (.ref a) s'):wpAny (MM S.w) A (eval (.Lambda params body scope pos) env) Q E s:=by
 refine kla_eval (SA env) ?_;have hq:((324,320):Addr×Addr)∈cm:=by decide
 have D8:closureFor scope env=pure (cl.map λp=>(p.1,c.Z p.2)):=by refine mS ?_;rw[hE.cells];exact qP c.Z ae.cells scope.names [] cl H7
 obtain⟨q0,r0,hqr⟩:∃q0 r0,(cl.map λp=>(p.1,c.Z p.2))=q0::r0:=by
  induction cl with
  |nil=>exact absurd rfl oO
  |cons a l=>exact⟨_,_,rfl⟩
 left;let ⟨mg,F6,hm⟩:=S.glob;let ⟨ob,FI,OE,Mf,hb3⟩:=S.bmod;let ⟨t1,t2,ps,hP,⟨ht,akl⟩,C2⟩:=R.tabs _ hq;right;have ZH:mg "__builtins__" =aa (.ref 4):=by have:=hm (ah "__builtins__",aa (.ref 4)) (by unfold cg;walk_at "a");exact this
 have hC:CodeHd s.heap 324 320:=by left;let ⟨_,o,vs,f1,f2,f3,f4,f5,f6,f7,e1,r⟩:=S.tabs _ hq;right;exact⟨o,vs,f1,f2,f3,f4,f5,f6,f7,R.old e1 ∅,r⟩
 have hnf:codeAmong pos ps.toList=ac:=by rw[zP hl hc _ _ (ab _)];exact akl Ik rfl
 refine Qf (by rw[D8,hqr]) hE.globals (R.u6 F6 ∅) (hE.code _ nZ) hC hP ht hnf ∅ (⟨4,ob,ZH,by decide,by decide,by decide,R.old FI ∅,OE,Mf,hb3⟩) λc' Mh h' tk P' hx Aw kR Kk htb ZP Kj C0=> ?_;left;let ⟨c2,oc,vs,tq,e2,Mi,Xk,hvc⟩:=Kk;right;cases e2;have hF:=R.oq Aw;have R1:Rel S.mj (c.put c' oc) O h':=R.mj.Ls hq hx htb ⟨by rw[lj];exact TriplesOk_snoc _ _ _ _ ht,λhs=>by cases hs⟩ (aM.dC (n:=0) hF).F (λa o e=>by
   have e':(if a=c' then aa oc else c.F a)=aa o:=e;by_cases ha:a=c'
   ·rw[if_pos ha]at e';cases e';subst ha;exact⟨Mi,.inr Aw⟩
   ·rw[if_neg ha]at e';exact⟨hx _ _ (λh=>by rw[h,t1]at e';cases e') (R.frozen _ _ e'),.inl e'⟩) rfl rfl λjT cd hc=>by
   rw[lj]at hc;rcases ve _ ht hc with h|h
   ·exact(C2 _ _ h).mono (aM.dC (n:=0) hF).F
   ·subst h;exact(⟨c',oc,vs,_,_,rfl,if_pos rfl,Xk,hvc⟩)
 have hcP:c'≠P':=by left;let ⟨_,_,_,_,_,_,_,_,_,_,_,_,_,_,_,_,_,_,h⟩:=Kj;right;exact h
 have hfP:=R.free ZP;have Mj:qz (c.put c' oc) ↑O P':=⟨by
  show(if P'=c' then aa oc else c.F P')=ac;rw[if_neg hcP.symm];exact hfP.F,hfP.Z,hfP.pin,hfP.tab⟩
 have R2:Rel S.mj ((c.put c' oc).pinned [(P',tableObj #[])]) O h':=R1.pinned (λp hp=>by rw[aB]at hp;subst hp;exact Mj) λp hp=>by rw[aB]at hp;subst hp;exact C0
 generalize Zt:(c.put c' oc).pinned [(P',tableObj #[])]=c2 at R2;have hF2:c2.F=(c.put c' oc).F:=by rw[<- Zt];rfl
 generalize Xo:({cls:= .type "function",data:= .func (SP "<lambda>" (env.qual++ "<lambda>") params body scope (q0::r0) ((mg "__name__").getD .none) (.ref c') Mh)}:Obj)=fo;have OC:∀a o,c2.F a=aa o->(c2.put h'.objs.size fo).F a=aa o:=(aM.dC (n:=0) (R2.oq (ab _))).F;have Xi:(c2.put h'.objs.size fo).F c'=aa oc:=OC _ _ (hF2▸(if_pos rfl));refine hQ (c2.put h'.objs.size fo) h'.objs.size c' P' _ ⟨λa o e=>OC _ _ (by exact hF2▸((aM.dC (n:=0)) hF).F _ _ e),λi hi=>by rw[<- Zt];rfl,λa ha=>by
   show c2.pin a=c.pin a;rw[<- Zt,aM.Nc ha];rfl⟩ hfP.pin (R2.put (o:=fo) (λb o e=>aJ _ e) (ab _) (aV _ (by rw[<- Xo];rfl))) (.heap ..) ⟨⟨fo,_,if_pos rfl,by rw[<- Xo],by rw[<- Xo],rfl,rfl,rfl,rfl,rfl,rfl,rfl,?_,rfl⟩,⟨oc,vs,_,_,Xi,Xk,hvc⟩⟩ ?_ ?_ (sZ hE.jp scope.names [] cl (λp hp=>by cases hp) H7)
 ·show q0::r0=_;rw[<- hqr];exact cj λp hp=>by show(p.1,c.Z p.2)=(p.1,c2.Z p.2);rw[<- Zt];rfl
 ·show c2.pin P'=_;exact Zt▸(aM.lD ..)
 ·let ⟨o,Vm,f1,f2,f3,f4,f5,f6,f7,e1,r⟩:=Kj;rw[Mi]at e1;cases e1;exact⟨oc,Vm,f1,f2,f3,f4,f5,f6,f7,Xi,r⟩
noncomputable abbrev sF:Str:=ah "one"
abbrev WX:Scope:= {kind:= .function,names:=[(sF,.local)],isGenerator:=false,isCoroutine:=false}
def ajs (d:PV):Option Int:=(CV.pv d).aI.map (- ·)
def Uv (gr:∀(fd:FuncData) (v:Value),fd.params=params->fd.defaults= .none->fd.kwdefaults= .none->bindArgs fd ⟨[v],[]⟩=pure [(sF,v)]):
  sm S (k+1) O (.tm params (.UnaryOp .USub (.Name sF np) up) WX []) ajs:=by
 intro bv jJ d i hd;let ⟨j,ej,rfl⟩:=ar.mp hd;obtain rfl:=CV.pvI (CV.kI ej);refine dy.tm (names:=[sF]) (τ:=[.ns [(sF,~~~(.int j))]]) rfl (by trivial) (λfd vs h1 h2 h3 hv=> ?_) (by decide+kernel) (by intro x hx;rw[aB]at hx;subst hx;decide+kernel) rfl rfl rfl (λp hp=>by nomatch hp)
  (Ev.Yp (Ev.rF (m:=[(sF,~~~(.int j))]) ?_ (by show gP sF WX.names=_;exact so) ay (by decide+kernel)))
 ·exact S8 (P:=λvs=>bindArgs fd ⟨vs,[]⟩=pure ([sF].zip vs)) (λv=>gr fd v h1 h2 h3) vs hv
 ·show(bv++[AO.ns [(sF,aa (AV.pv (.int j)))]])[↑bv]? =_;rw[aE (ab _),dc];rfl
def afA (hn:O[n]? =aa (.cell (aa d)))
  (X:qY c a cc params (.Call (.Name sr np) [.Name nM p1,.Constant (.int 1) n1 p2,.UnaryOp .USub (.Constant (.int 1) n2 p3) p4] [⟨aa gp,.Lambda lp (.UnaryOp .USub (.Name sF op) up) WX agu,kp⟩] pos) (Jl sr) [(nM,n)])
  (gr:∀fd:FuncData,fd.params=params->fd.defaults= .none->fd.kwdefaults= .none->bindArgs fd ⟨[],[]⟩=pure []) (ZQ:∀(fd:FuncData) (v:Value),fd.params=lp->fd.defaults= .none->fd.kwdefaults= .none->bindArgs fd ⟨[v],[]⟩=pure [(sF,v)])
  (agW:∀env,defaultsOf lp env=([],[])) (hA:jD 3 A) (hl:A.frames=aa l) (hS:pY O c l) (R:Rel S c O s.heap) (ZG:c.pin P=aa (tableObj #[])) (C2:ud c.F cc P):E5 S O A c s l (.ref a) jF (· =P):=by
 refine X.call (k:=2) gr (by decide+kernel) rfl rfl rfl (λp hp=>by rw[aB]at hp;subst hp;exact(getElem?_lt' hn)) hA hl hS R λenv h' ZR nZ R0 yc Xn Xl hl1 E Q hQ=> ?_;have cH: ↑(O++[AO.ns []])= ↑O+1:=by rw[aj];rfl
 have vj:(O++[AO.ns []])[n]? =aa (.cell (aa d)):=gA hn;generalize hc0:c.own ↑O s.heap.objs.size=c0 at ZR R0 Xn hQ;rw[<- cH]at ZR hQ;generalize aoy:O++[AO.ns []]=lI at ZR R0 Xn hQ vj;have hae:({scope:=Jl sr,fi:= ↑O,cells:=[(nM,n)]}:iv).scope=Jl sr:=rfl;generalize akn:({scope:=Jl sr,fi:= ↑O,cells:=[(nM,n)]}:iv)=ae1 at ZR hae;have agX:ck S 2 lI ae1 [.Name nM p1,.Constant (.int 1) n1 p2,.UnaryOp .USub (.Constant (.int 1) n2 p3) p4] [d,.pv (.int 1),.pv (.int (-1))]:=
  .cons (Ev.qN (i:=n) (by rw[hae];show gP nM (Jl sr).names=_;exact so) (by rw[<- akn];rfl) vj (by decide+kernel) (by decide+kernel)) (.cons Ev.int (.cons (Ev.Yp Ev.int) .nil rfl) rfl) rfl
 refine cn ((Ev.ue (by rw[hae];show gP sr (Jl sr).names=_;exact so) (by show(_,aa (eM 195))∈cg;unfold cg;walk_at "a") (by decide+kernel)).run _ c0 _ env Xl ZR R0 _ _ λc1 v1 s1 l1 R1 K1 a1=> ?_);have e':=a1.dn;subst e';left;let ⟨of,pm,Kl,Oa,FQ,_⟩:=R1.fn qU.mem;right;refine fJ (o:=of) (fd:=cP.fd pm) ?_;have Zq:=mE agX pos (A.deeper env) c1 s1 env Xl (ZR.mono l1 (ab _)) R1;rw[gz rfl]at Zq⊢;refine lA rfl (Zq _ _ λc2 vs s2 l2 R2 K2 a2=> ?_);show wpAny _ _ (evalAll [do let v <- eval (.Lambda lp (.UnaryOp .USub (.Name sF op) up) WX agu) env;standAt pos;pure v]) _ _ s2;have uG:=l1.trans l2 (ab _);refine wpAny_evalAll_cons (am (kla_eval (agW env) ?_));have Me:c2.pin P=aa (tableObj #[]):=by rw[uG.pin];exact(by exact hc0▸ZG)
 left;let ⟨hP,hPF,aoA,hPt⟩:=R2.pins P _ Me;let ⟨mg,F6,hm⟩:=S.glob;let ⟨ob,FI,OE,Mf,hb3⟩:=S.bmod;right;have ZH:mg "__builtins__" =aa (.ref 4):=by have:=hm (ah "__builtins__",aa (.ref 4)) (by unfold cg;walk_at "a");exact this
 have h4P:(4:Addr)≠P:=λe=>by have:=R2.base 4 ob FI ∅;rw[e,hPF]at this;cases this
 have h3P:mainGlobals≠P:=λe=>by let ⟨o,es,ep,e1,_⟩:=F6;have:=R2.base mainGlobals o e1 ∅;rw[e,hPF]at this;cases this
 have hC:CodeHd s2.heap cc P:=by left;let ⟨o,Vm,KC,tf,Cu,tg,Zp,text,tt,f0,r⟩:=(by rw[<- hc0];exact C2:ud c0.F cc P);right;exact⟨o,Vm,KC,tf,Cu,tg,Zp,text,tt,R2.frozen _ _ (uG.F _ _ f0),r⟩
 refine kla_makeFunction (mg:=mg) (mS rfl) (ZR.mono uG (ab _)).globals (R2.u6 F6 ∅) nZ hC hP trivial rfl h3P (⟨4,ob,ZH,by decide,by decide,h4P,R2.old FI ∅,OE,Mf,hb3⟩) λc' Mh h2 tk hx Aw kR Kk htb=> ?_;left;let ⟨c2',oc,ws,tq,e2,Mi,Xk,hvc⟩:=Kk;right;cases e2;have R3:=R2.Gv Me hx;generalize OC:({c2 with pin:=λa=>if a=P then ac else c2.pin a}:aM)=c3 at R3;have hF3:c3.F=c2.F:=by rw[<- OC]
 have agY:c3.Z=c2.Z:=by rw[<- OC]
 have hfc:=R2.free Aw;have Mj:qz c3 ↑lI c':=⟨by rw[hF3];exact hfc.F,λi hi=>by rw[agY];exact hfc.Z i hi,by
  rw[<- OC];show(if c'=P then ac else c2.pin c')=ac;split
  ·rfl
  ·exact hfc.pin,hfc.tab⟩
 have R4:=R3.freeze Mj Mi;have hn4:(c3.put c' oc).F h2.objs.size=ac:=R4.oq (ab _);generalize Xo:({cls:= .type "function",data:= .func (SP "<lambda>" (env.qual++ "<lambda>") lp (.UnaryOp .USub (.Name sF op) up) WX [] ((mg "__name__").getD .none) (.ref c') Mh)}:Obj)=fo;have R5:=R4.put (o:=fo) (λb o e=>aJ _ e) (ab _) (aV _ (by rw[<- Xo];rfl));generalize hc5:(c3.put c' oc).put h2.objs.size fo=c5 at R5;have l35:aM.le ↑lI c3 c5:=by exact hc5▸((aM.dC Mj.F)).trans (aM.dC hn4) (ab _)
 have l25:aM.pK (· =P) ↑lI c2 c5:=⟨λa o e=>l35.F _ _ (hF3▸e),λi hi=>by rw[l35.Z i hi,agY],λa ha=>by rw[l35.pin];exact(λa ha=>by rw[<- OC];exact if_neg ha) a ha⟩;have akr:cT S.w c5 ↑lI (.ref h2.objs.size) (.tm lp (.UnaryOp .USub (.Name sF op) up) WX []):=by refine .tm (.mk (o:=fo) (fd:=SP "<lambda>" (env.qual++ "<lambda>") lp (.UnaryOp .USub (.Name sF op) up) WX [] ((mg "__name__").getD .none) (.ref c') Mh) (hc5▸(if_pos rfl)) (by rw[<- Xo]) (by rw[<- Xo]) rfl rfl rfl rfl ?_ rfl rfl rfl rfl) (λp hp=>by cases hp);refine⟨c',oc,ws,_,_,rfl,?_,Xk,hvc⟩;rw[<- hc5];exact(aM.dC (n:=0) hn4).F _ _ (if_pos rfl)
 subst Xo;have aks:∀h5:iQ,Rel S c5 lI h5->h5.get? 195=aa of:=λh5 R=>by left;let ⟨FF,_,h0,_,_,_⟩:=S.fns cP qU.mem;right;rw[(R1.old h0 ∅)]at Kl;cases Kl;exact(R.old h0 ∅)
 refine am (cV (aR (iG ⟨⟨aks _ R5,FQ⟩,?_⟩)));have l05:=uG.P.trans l25 (ab _);have Zz:dg S.w c5 ↑lI vs [d,.pv (.int 1),.pv (.int (-1))]:=by
  have key:∀ {ws:Vs} {ds:List AV},dg S.w c2 ↑lI ws ds->dg S.w c5 ↑lI ws ds:=by
   intro ws ds h;induction h with
   |nil=>exact .nil
   |cons a _ ih=>exact .cons (a.j5 l25.F l25.Z (ab _)) ih
  exact key a2
 refine(eZ.afz (S:=S) (k:=0) (O:=lI) .mk (Uv ZQ) (i:= -1) rfl ∅).run (A.deeper env) c5 _ (.ref 195) vs [(gp,.ref h2.objs.size)] (env::l) Xl hl1 (Xn.LC (v9.refl _) l05) R5 (.pv (.con _)) Zz rfl (.cons akr .nil) E Q λc6 v6 s6 l6 K6 U=> ?_;exact hQ c6 v6 s6 (l05.trans l6.P (ab _)) ((K1.trans K2).trans (dZ.trans (.heap ..) K6)) U
noncomputable abbrev fW:Str:=ah "told"
noncomputable abbrev ft:Str:=ah "deed"
noncomputable abbrev jG:Str:=ah "wrong"
def E6 (hm:O[ae.fi]? =aa (.ns m)) (hk:ae.scope.names.lookup x=aa .local) (hd:(x,aa d)∈m)
  (hx:(x==("__debug__" :Str))=false) (hE:cY c ↑O ae env) (R:Rel S c O s.heap) (hQ:∀v,cT S.w c ↑O v d->Q v s):wpAny (MM S.w) A (eval (.Name x pos) env) Q E s:=by
 left;let ⟨f,hf,_,h1,_⟩:=R.ns hm;let ⟨v,hv,hd⟩:=h1 x d hd;right;exact Cg (qb (hE.scope▸hE.kind) (by rw[hE.kindOf,hk]) (hE.locals▸hf) hv (hQ v hd)) hx
def Yq:isSubtype (.type "ValueError") (.type "BaseException")=pure true:=by rw[yO];rfl
def Yr:isSubtype (.type "ValueError") (.type "ValueError")=pure true:=by rw[yO];rfl
def Ys:isSubtype (.type ((OI "ValueError").elim "type" λx=>x.metatype)) (.type "tuple")=pure false:=by rw[(rfl:((OI "ValueError").elim "type" λx=>x.metatype)= "type"),yO];rfl
def xl.WY {c:aM} {B h:iQ} {e:Addr} (R:xl S c O B h) (he:B.get? e=ac) (tU:∀o es n,h.get? e=aa o->o.data≠ .dict es n):qz c ↑O e where
 F:=by
  cases e':c.F e with
  |none=>rfl
  |some o=>rw[R.F _ _ e']at he;nomatch he
 Z:=λi hi e'=>by
  subst e';let ⟨o,ho,hr⟩:=R.rel.own i _ (aq hi);rcases R.own i O[i] (aq hi)with⟨m,hm⟩|hb
  ·rw[hm]at hr;cases hr with
   |ns a=>exact tU _ _ _ ho a
  ·rw[hb o ho]at he;nomatch he
 pin:=by
  cases e':c.pin e with
  |none=>rfl
  |some o=>rw[R.pin _ _ e']at he;nomatch he
 tab:=λq hq e'=>by let ⟨_,_,ps,d,_⟩:=R.rel.tabs q hq;have:=R.tab q hq _ d;rw[e',he]at this;nomatch this
def Rel.nsSet (R:Rel S c O h) (hi:i< ↑O) (hs:gH (c.Z i) h h') (hf:h'.Ns (c.Z i) f) (nd:(m.map (·.1)).Nodup)
  (h1:∀x d,(x,aa d)∈m->∃v,f x=aa v/\cT S.w c ↑O v d) (h2:∀x,(x,ac)∈m->f x=ac):Rel S c (O.set i (.ns m)) h':=by
 let ⟨o,ho,hr⟩:=ic.Pp (w:=S.w) (c:=c) (n:= ↑O) (m:=m) hf nd h1 h2;exact R.set hi (λb o hb e=>hs.extBut b o hb e) ho hr
abbrev LD (j:Nat) (d:AV):List (Str×Option AV):=[(fW,aa (.fM j)),(ft,aa d)]
abbrev Uw (dp cp ep vp tp ap sp wpo cp2 cp3 ep2 hp tV:Pos):Stmt:=
 .Try [.Expr (.Call (.Name ft dp) [] [] cp) ep] [.ExceptHandler (aa (.Name "ValueError" vp)) (aa jG) [.Expr (.Call (.Attribute (.Name fW tp) "append" ap) [.Call (.Name "str" sp) [.Name jG wpo] [] cp2] [] cp3) ep2] hp] [] [] tV
def Rel.nsW {f:Str->Option Value} {e:Addr} {i j:Nat} {dv:AV} (R:Rel S c O h) (hm:O[i]? =aa (.ns (LD j dv))) (hi:i< ↑O) (hs:gH (c.Z i) h h') (Ia:∀x d,(x,aa d)∈LD j dv->∃v,f x=aa v/\cT S.w c ↑O v d)
  (hf:h'.Ns (c.Z i) λy=>if y=jG then aa (.ref e) else f y):Rel S c (O.set i (.ns [(fW,aa (.fM j)),(ft,aa dv),(jG,~~~(.con (.ref e)))])) h':=by
 refine R.nsSet hi hs hf (by show([fW,ft,jG]:List Str).Nodup;decide) (λx d hx=> ?_) (λx hx=>by simp at hx);rcases aH.mp hx with(hx|hx)
 ·cases hx;let ⟨v,p,q⟩:=Ia fW _ (by walk_at "a");exact⟨v,by rw[if_neg ∅];exact p,q⟩
 ·rcases aH.mp hx with(hx|hx)
  ·cases hx;let ⟨v,p,q⟩:=Ia ft _ (by walk_at "a");exact⟨v,by rw[if_neg ∅];exact p,q⟩
  ·rw[aB]at hx;cases hx;exact⟨.ref e,if_pos rfl,.pv (.con _)⟩
def Rel.nsU {f:Str->Option Value} {u:Option Value} {i j:Nat} {dv w:AV} (R:Rel S c O h) (hi:i< ↑O) (hs:gH (c.Z i) h h') (Ia:∀x d,(x,aa d)∈[(fW,aa (.fM j)),(ft,aa dv),(jG,aa w)]->∃v,f x=aa v/\cT S.w c ↑O v d)
  (hf:h'.Ns (c.Z i) λy=>if y=jG then u else f y):Rel S c (O.set i (.ns (LD j dv))) h':=by
 refine R.nsSet hi hs hf (by show([fW,ft]:List Str).Nodup;decide) (λx d hx=> ?_) (λx hx=>by simp at hx);rcases aH.mp hx with(hx|hx)
 ·cases hx;let ⟨v,p,q⟩:=Ia fW _ (by walk_at "a");exact⟨v,by rw[if_neg ∅];exact p,q⟩
 ·rw[aB]at hx;cases hx;let ⟨v,p,q⟩:=Ia ft _ (by walk_at "a");exact⟨v,by rw[if_neg ∅];exact p,q⟩
def Qg
  (hm:O[ae.fi]? =aa (.ns (LD j dv))) (hj:O[j]? =aa (.list L)) (hL: ↑L<100000) (Ic:pP ae.scope [fW,ft,jG]) (Ie:ma ae.scope [ah "ValueError",ah "str"]) (ZS:∀v1,cT S.w c ↑O v1 dv->∃a o fd,v1= .ref a/\c.F a=aa o/\o.data= .func fd) (gC:(ap.endLine==cp3.line)=true)
  (hA:jD k A) (uH:A.frames=aa (env::l)) (hE:cY c ↑O ae env) (OF:env.frame=aa env.locals) (R:Rel S c O s.heap)
  (SE:∀c1 s1 v1,aM.le ↑O c c1->Rel S c1 O s1.heap->cT S.w c1 ↑O v1 dv->E5 S O A c1 s1 (env::l) v1 msg own) (E:VS) (Q:Cj->bb->Prop)
  (hQ:∀c' s',aM.pK own ↑O c c'->Rel S c' (O.set j (.list (L++[.str msg]))) s'.heap->dZ s s'->Q .next s'):wpAny (MM S.w) A (exec (Uw dp cp ep vp tp ap sp wpo cp2 cp3 ep2 hp tV) env) Q E s:=by
 have hint:∀c1,cY c1 ↑O ae env->interactive env=false:=λc1 hE=>by unfold interactive;rw[hE.scope,hE.kind];rfl
 have Kg:=getElem?_lt' hm;have Xe:=getElem?_lt' hj;have oO:ae.fi≠j:=λe=>by rw[e,hj]at hm;cases hm
 refine wpAny_Try_except (da (yM ?_ (hint _ hE) rfl));refine cn (E6 hm (Ic _ (by walk_at "a")) (by walk_at "a") rfl hE R λv1 a1=> ?_);left;let ⟨a,o,fd,rfl,hF,hd⟩:=ZS v1 a1;right;refine fJ (o:=o) (fd:=fd) ?_;refine eg .nil _ cp A c s env hA hE R _ _ λc1 vs s1 l1 R1 K1 a2=> ?_;cases a2;refine⟨⟨R1.frozen _ _ (l1.F _ _ hF),hd⟩,SE c1 s1 (.ref a) l1 R1 (a1.mono l1 (ab _)) _ _ λc2 v2 s2 l2 K2 T=> ?_⟩;left;let ⟨e,t,tk,B,rfl,Kn,ht,Su,RB⟩:=T;have l02:aM.pK own ↑O c c2:=l1.P.trans l2 (ab _);have H4:=hE.pf l02 (ab _);right;refine wpAny_looks_onW uH OF Kn λh4 SG agZ=> ?_;refine wpAny_landsW SG λh5 ZT ag0=> ?_;have RB5:=(RB.step SG.1 agZ).step ZT.1 ag0;let ⟨ob,FI,akt⟩:=ZT.there;refine wpAny_handleBy_builtin_as (X:= "ValueError") (T:= "ValueError") (b:=true) Yq Ys Yr (Ev.blt H4 RB5.rel (Ie _ (by walk_at "a")) (by unfold cg;walk_at "a") (by unfold lu;walk_at "a") rfl ⟨rfl,⟨ob,FI,akt⟩,?_⟩);rw[if_pos rfl];refine PyProof.Rows.lands_againW ZT λh6 ZU ag1=> ?_;have RB6:=RB5.step ZU.1 ag1;left;let ⟨oe,ws,hoe,akw,ZV,akx⟩:=ZU.first;let ⟨ot,nt,hot,aky,Vx⟩:=((ht.of_slots agZ).of_slots ag0).of_slots ag1;have ag2:=RB6.WY ZU.2.1 (λo es n h q=>by rw[hoe]at h;cases h;rw[ZV]at q;cases q);have SH:=RB6.WY Su (λo es n h q=>by rw[hot]at h;cases h;rw[Vx]at q;cases q);right;have hte:t≠e:=λq=>by rw[q,hoe]at hot;cases hot;rw[ZV]at Vx;cases Vx
 have R7:=(RB6.rel.freeze ag2 hoe).freeze (a:=t) (o:=ot) ⟨by
  show(if t=e then aa oe else c2.F t)=ac;rw[if_neg hte];exact SH.F,SH.Z,SH.pin,SH.tab⟩ hot
 have l7:aM.le ↑O c2 ((c2.put e oe).put t ot):=(aM.dC ag2.F).trans (aM.dC (by
  show(if t=e then aa oe else c2.F t)=ac;rw[if_neg hte];exact SH.F)) (ab _)
 have hFe:((c2.put e oe).put t ot).F e=aa oe:=by show(if e=t then aa ot else(if e=e then aa oe else c2.F e))=_;rw[if_neg hte.symm,if_pos rfl]
 have hFt:((c2.put e oe).put t ot).F t=aa ot:=if_pos rfl;generalize hc7:(c2.put e oe).put t ot=c7 at R7 l7 hFe hFt;have Vy:=H4.mono l7 (ab _);left;let ⟨f,hf,nd,Ia,Sj⟩:=R7.ns hm;have Ml:env.locals=c7.Z ae.fi:=Vy.locals;right;refine x6 (m:=f) (by rw[Vy.kindOf,Ic jG (by walk_at "a")]) (Ml▸hf) (λh8 hn8 hs8=> ?_) (by rw[Vy.scope,Vy.kind];rfl);rw[Ml]at hn8 hs8;have R8:Rel S c7 (O.set ae.fi (.ns [(fW,aa (.fM j)),(ft,aa dv),(jG,~~~(.con (.ref e)))])) h8:=R7.nsW hm Kg hs8 Ia hn8;have SI: ↑(O.set ae.fi (.ns [(fW,aa (.fM j)),(ft,aa dv),(jG,~~~(.con (.ref e)))]))= ↑O:=bi;have hm8:(O.set ae.fi (.ns [(fW,aa (.fM j)),(ft,aa dv),(jG,~~~(.con (.ref e)))]))[ae.fi]? =aa (.ns [(fW,aa (.fM j)),(ft,aa dv),(jG,~~~(.con (.ref e)))]):=bU Kg;have hj8:(O.set ae.fi (.ns [(fW,aa (.fM j)),(ft,aa dv),(jG,~~~(.con (.ref e)))]))[j]? =aa (.list L):=by rw[bD oO];exact hj
 generalize akA:O.set ae.fi (.ns [(fW,aa (.fM j)),(ft,aa dv),(jG,~~~(.con (.ref e)))])=σ8 at R8 SI hm8 hj8;have hE8:cY c7 ↑σ8 ae env:=by exact SI▸Vy
 refine da (yM ?_ (hint _ Vy) rfl);refine eK rfl rfl gC (E6 hm8 (Ic _ (by walk_at "a")) (by walk_at "a") rfl hE8 R8 λv3 a3=> ?_);let ⟨rfl,akC⟩:=a3.zI;let ⟨ol,hol,hrl⟩:=R8.own _ _ hj8;let ⟨vs,ee,rfl,hs,hp⟩:=hrl.y6;refine⟨"list", "list.append",F.plainAttrs_list,F.slot_list_append,F.type_list_append,⟨_,hol,rfl⟩,λb e=>by cases e;exact⟨_,hol,rfl⟩,cX rfl ?_⟩;refine lA (rest:=[]) (keywords:=[]) rfl (bX ?_);refine cn (Ev.blt hE8 R8 (Ie _ (by walk_at "a")) (by unfold cg;walk_at "a") (by unfold lu;walk_at "a") rfl ?_);refine ed rfl ?_;refine lA (rest:=[]) (keywords:=[]) rfl (bX (E6 hm8 (Ic _ (by walk_at "a")) (by walk_at "a") rfl hE8 R8 λv4 a4=>eB (iG ?_)));have e4:=a4.dn;subst e4;refine P.str_of_exc_one PySem.F.excStr_ValueError ?_ ⟨oe,ws,R8.frozen _ _ hFe,akw,ZV,akx⟩ ⟨ot,nt,R8.frozen _ _ hFt,aky,Vx⟩ ?_
 ·have:=hA.units;have e:cLine=9900:=rfl;show A.units+2<cLine;exact ab0 this e
 refine eB (iG ?_);refine uS (hsz:=mT (O1 hs hL)) ⟨_,hol⟩ λh9 So hk9=> ?_;let ⟨e9,ho9⟩:=So;have R9:Rel S c7 (σ8.set j (.list (L++[.str msg]))) h9:=R8.PM akC hk9.extBut ho9 hs hp (.str ..);refine jy ?_;left;let ⟨f9,hf9,nd9,hg1,ZW⟩:=R9.ns (by rw[bD oO.symm];exact hm8);right;refine wpAny_nameGoes_keeps (by rw[Vy.kindOf,Ic jG (by walk_at "a")]) (Ml▸hf9) (by rw[Vy.scope,Vy.kind];rfl) λIB v10 ag5 ag6=> ?_;rw[Ml]at ag5 ag6;have R10:Rel S c7 ((σ8.set j (.list (L++[.str msg]))).set ae.fi (.ns (LD j dv))) IB:=R9.nsU (by rw[bi,SI];exact Kg) ag6 hg1 ag5;have HY:(σ8.set j (.list (L++[.str msg]))).set ae.fi (.ns (LD j dv))=O.set j (.list (L++[.str msg])):=by rw[<- akA,List.set_comm _ _ oO.symm,List.set_set,set_same hm]
 rw[HY]at R10;exact hQ c7 _ (l02.trans l7.P (ab _)) R10 (((K1.trans K2)).trans (dZ.heap ..))
def zJ.twice:zJ O (binaryOp .Mult) (.pv (.lst [x])) (.pv (.int 2)) (.lst [x,x]):=by
 intro S k A c s u v hA R ha hb E Q hQ;let ⟨a,vs,n,rfl,ho,e1,k1⟩:=IsL.val.at R ha;have uP:=hb.gh;let ⟨t,rfl⟩:=uP.kH;have hv:∃v0,vs= #[v0]:=by let ⟨l⟩:=vs;exact S8 (P:=λl=>∃v0,(⟨l⟩:Array Value)= #[v0]) (λv=>⟨v,rfl⟩) l e1
 let ⟨v0,rfl⟩:=hv;refine wpAny_binaryOp_repeat_ref (T:= "list") (U:= "int") rfl ⟨_,ho,rfl⟩ (λs'=>typeIs_int s' 2 t) noFill_list_mul F.fills_int_mul F.slot_int_rmul repeat_list F.slot_int_index.lookup
  (Ku F.slot_int_rmul (typeIs_int s 2 t) F.entry_int_rmul (F.args_int_rmul_2 _ _) (int___rmul___int_list 2 t a #[v0] n)
   ⟨ho,rfl,⟨_,ho,rfl⟩,Ku F.slot_list_mul ⟨_,ho,rfl⟩ F.entry_list_mul (F.args_list_mul_2 _ _)
    (AutoListH.list___mul___list_int_3 a #[v0] n 2 t (by simp[iq]) (by show ¬1*2>_;decide) (by simp[Builtin.List.listTooLong,sizeLine])) ⟨ho,?_⟩⟩)
 have hF:=R.oq (ab s.heap.objs.size);refine hQ (c.put s.heap.objs.size {cls:= .type "list",data:= .seq #[v0,v0]}) _ _ (aM.dC hF) R.sS (.gF ..) (.pv (.lst (vs:= #[v0,v0]) (if_pos rfl) rfl λi v d hv hd=> ?_));have h1:dk S.w (c.put s.heap.objs.size {cls:= .type "list",data:= .seq #[v0,v0]}).F v0 x:=(k1 0 v0 x rfl rfl).mono (aM.dC (n:=0) hF).F
 match i,hv,hd with
 |0,hv,hd=>obtain rfl:=ag hv;obtain rfl:=ag hd;exact h1
 |1,hv,hd=>obtain rfl:=ag hv;obtain rfl:=ag hd;exact h1
def Ev.one (h:nH S k O ae e d) (hn:notStar e=true):nH S k O ae (.List [e] pos) (.lst [d]):=by
 refine⟨ab _,λA c s env hA hE R E Q hQ=> ?_⟩;refine wpAny_List (mE (.cons h .nil hn) pos A c s env hA hE R _ _ λc1 vs s1 l1 R1 K1 a1=>⟨?_,?_⟩)
 ·rw[↑a1];show 1<=sizeLine;decide
 ·have h9:=a1.i1;clear a1;let ⟨v,_,rfl,a1,b1⟩:=h9;obtain rfl:=b1.i0;have hF:=R1.oq (ab s1.heap.objs.size);refine hQ (c1.put s1.heap.objs.size {cls:= .type "list",data:= .seq #[v]}) _ _ (l1.trans (aM.dC hF) (ab _)) R1.sS (K1.trans (.gF ..)) (.pv (.lst (vs:= #[v]) (if_pos rfl) rfl λi w x hv hd=> ?_))
  match i,hv,hd with
  |0,hv,hd=>obtain rfl:=ag hv;obtain rfl:=ag hd;exact a1.gh.mono (aM.dC (n:=0) hF).F
def Ux:iH [.str rQ,.str rQ,.str jF,.str jF] ([.str rQ,.str rQ]++[.str jF,.str jF])=aa true:=rfl
def iW.Yt (hm:O[ae.fi]? =aa (.ns m)) (hd:(fW,aa (.fM j))∈m) (hk:ae.scope.names.lookup fW=aa .local) (hj:O[j]? =aa (.list [.str rQ,.str rQ,.str jF,.str jF])):
  iW S k O ae (.Return (aa (.Compare (.Name fW tp) [.Eq] [.BinOp (.BinOp (.List [.Constant (.str rQ) n1 p1] p2) .Mult (.Constant (.int 2) n2 p3) p4) .Add (.BinOp (.List [.Constant (.str jF) n3 p5] p6) .Mult (.Constant (.int 2) n4 p7) p8) p9] cp)) pos) (.ret (.pv (PV.bool true))) O:=
 iW.return (Ev.jq (Ev.rF hm hk hd rfl) (Ev.Ew (Ev.Ew (Ev.one Ev.str rfl) Ev.int .twice) (Ev.Ew (Ev.one Ev.str rfl) Ev.int .twice) (zJ.PB .val .val (by show 2+2<=sizeLine;decide))) (zJ.eqL (.fM hj) .val Ux).1 rfl)
structure nN (I a:Addr) (vs:Array Value) (i:Nat) (c:aM) (s:bb):Prop where
 st:s.heap.IsTupleIter I a i/\s.heap.IsTuple a vs
 pin:∃o,c.pin I=aa o
 fa:∃o,c.F a=aa o
def nN.ne (J:nN I a vs i c s) (R:Rel S c O s.heap):a≠I:=λe=>by let ⟨o,ho⟩:=J.pin;let ⟨o',rZ⟩:=J.fa;rw[e,(R.pins I o ho).2.1]at rZ;nomatch rZ
def nN.keep (J:nN I a vs i c s) (R:Rel S c O s.heap) (R':Rel S c' bv s'.heap) (hF:∀a o,c.F a=aa o->c'.F a=aa o) (hI:c'.pin I=c.pin I):nN I a vs i c' s':=by
 have oO:=J.ne R;let ⟨st,⟨o,ho⟩,⟨oa,hoa⟩⟩:=J;refine⟨(uV (prog:=pw) (w:=S.w) (A:= {}) rfl I a oO vs).frame i _ _ st λb hb x e=> ?_,⟨o,by rw[hI];exact ho⟩,⟨oa,hF _ _ hoa⟩⟩;rcases aH.mp hb with rfl|hb
 ·have e1:=(R.pins _ _ ho).1;rw[e1]at e;obtain rfl:=ag e;exact(R'.pins b _ (by rw[hI];exact ho)).1
 ·rw[aB]at hb;subst hb;rw[(R.frozen _ _ hoa)]at e;obtain rfl:=ag e;exact R'.frozen _ _ (hF _ _ hoa)
def turn (J:nN I a vs i c s) (hi:vs[i]? =aa v) (hv:cT S.w c ↑O v dv) (hA:jD k A)
  (hE:cY c ↑O ae env) (R:Rel S c O s.heap) (hm:O[ae.fi]? =aa (.ns m0)) (ZX:iT ft dv m0 (LD j dv)) (hk:ae.scope.names.lookup ft=aa .local)
  (dY:∀c1 s1,aM.pK (· =I) ↑O c c1->Rel S c1 (O.set ae.fi (.ns (LD j dv))) s1.heap->dZ s s1->nN I a vs (i+1) c1 s1->∀E,wpAny (MM S.w) A (execs body env) (λf s2=>f= .next/\codeAny (MM S.w) A (.forLoop (.Name ft dp) (.ref I) body [] env) Rr s2) E s1):
  codeAny (MM S.w) A (.forLoop (.Name ft dp) (.ref I) body [] env) Rr s:=by
 have oO:=J.ne R;let ⟨st,⟨o,ho⟩,⟨oa,hoa⟩⟩:=J;refine fb ?_;rw[cy (by rfl)];show wpAny _ A ((forTurn _ _ _ _ env).onRaise (λx=>do noteFrame x env;theTreesLotGoes x)) _ _ s;refine jA ?_;simp only[forTurn];refine am (cV (am (kA ((uV (prog:=pw) (w:=S.w) (A:=A) hA.hn I a oO vs).item i s _ _ (iS.mp hi).1 st λv' h' tk vU Sd yc=> ?_))));have e:v'=v:=by have:=vU.symm.trans hi;injection this
 subst e;left;let ⟨o',rZ,akE,W6⟩:=Sd.1;have R1:=R.nq ho (λb x hb e=>yc b x (by simpa using hb) e) rZ;have l1:aM.pK (· =I) ↑O c (c.nq I o'):=aM.oT;right;refine am (rI rZ akE rfl _ _ ?_);refine am ((Di.name (jY.loc hm hk ZX rfl):Di S k O ae (.Name ft dp) dv _).run A (c.nq I o') {s with heap:=h',toks:=tk} env v' hA (hE.pf l1 (ab _)) R1 (hv.j5 (λq q e=>e) (λq q=>rfl) (ab _)) _ _ λc2 s2 l2 R2 K2=> ?_);have J1:nN I a vs (i+1) (c.nq I o') {s with heap:=h',toks:=tk}:=⟨Sd,⟨o',if_pos rfl⟩,⟨oa,hoa⟩⟩;exact am (fZ (dY c2 s2 (l1.trans l2.P (ab _)) R2 ((dZ.heap s h' tk).trans K2) (J1.keep R1 R2 l2.F (by rw[l2.pin])) _) (λf s3 h3=>by
  let ⟨rfl,h3⟩:=h3;exact aR ⟨rfl,h3⟩) λq q x=>x)
def Qh (J:nN I a vs vs.size c s) (hA:jD k A) (R:Rel S c O s.heap)
  (hq:∀c1 s1,aM.pK (· =I) ↑O c c1->Rel S c1 O s1.heap->dZ s s1->Rr (.ok .next) s1):codeAny (MM S.w) A (.forLoop (.Name ft dp) (.ref I) body [] env) Rr s:=by
 have oO:=J.ne R;left;let ⟨st,⟨o,ho⟩,⟨oa,hoa⟩⟩:=J;right;refine fb ?_;rw[cy (by rfl)];show wpAny _ A ((forTurn _ _ _ _ env).onRaise (λx=>do noteFrame x env;theTreesLotGoes x)) _ _ s;refine jA ?_;simp only[forTurn];refine am (cV (am (kA ((uV (prog:=pw) (w:=S.w) (A:=A) hA.hn I a oO vs).done s _ _ st λh' tk yc=> ?_))));have hko:∀b x,b≠I->s.heap.get? b=aa x->h'.get? b=aa x:=λb x hb e=>yc b x (by simpa using hb) e;refine aR ⟨rfl,Ax (jy ?_)⟩;cases e:h'.get? I with
 |some o'=>exact hq (c.nq I o') {s with heap:=h',toks:=tk} aM.oT (R.nq ho hko e) (dZ.heap ..)
 |none=>exact hq {c with pin:=λa=>if a=I then ac else c.pin a} {s with heap:=h',toks:=tk} ⟨λq q e=>e,λq q=>rfl,λa ha=>if_neg ha⟩ (R.Gv ho hko) (dZ.heap ..)
structure TS (bP:List AO) (fi j:Nat) (bv:List AO) (m0:List (Str×Option AV)) (L:List PV):Prop where
 len: ↑bv= ↑bP
 ns:bv[fi]? =aa (.ns m0)
 N3:bv[j]? =aa (.list L)
 rest:∀x,x≠fi->x≠j->bv[x]? =bP[x]?
def TS.ne (h:TS bP fi j bv m0 L):fi≠j:=λe=>by have h1:=h.ns;rw[e,h.N3]at h1;nomatch h1
def TS.afB (h:TS bP fi j bv m0 L):TS bP fi j (bv.set fi (.ns m1)) m1 L:=
 ⟨by rw[bi];exact h.len,bU (getElem?_lt' h.ns),by rw[bD h.ne];exact h.N3,λx h1 h2=>by rw[bD h1.symm];exact h.rest x h1 h2⟩
def TS.ajt (h:TS bP fi j bv m0 L):TS bP fi j (bv.set j (.list L')) m0 L':=
 ⟨by rw[bi];exact h.len,by rw[bD h.ne.symm];exact h.ns,bU (getElem?_lt' h.N3),λx h1 h2=>by rw[bD h2.symm];exact h.rest x h1 h2⟩
def TS.Yu (h:TS bP fi j bv m0 L) (hj:bP[j]? =aa (.list aoI)):v9 bP bv:=λx m hx=>by
 by_cases h1:x=fi
 ·subst h1;exact⟨m0,h.ns⟩
 ·have h2:x≠j:=λe=>by rw[e,hj]at hx;nomatch hx
  exact⟨m,by rw[h.rest x h1 h2];exact hx⟩
def xm
  (ts:TS bP ae.fi j bv m0 L) (hL: ↑L<100000) (J:nN I a vs i c s) (hi:vs[i]? =aa v) (hv:cT S.w c ↑bv v dv) (ZX:iT ft dv m0 (LD j dv)) (Ic:pP ae.scope [fW,ft,jG]) (Ie:ma ae.scope [ah "ValueError",ah "str"]) (ZS:∀(c1:aM) (n1:Nat) (v1:Value),(∀a o,c.F a=aa o->c1.F a=aa o)->cT S.w c1 n1 v1 dv->∃a o fd,v1= .ref a/\c1.F a=aa o/\o.data= .func fd) (gC:(ap.endLine==cp3.line)=true)
  (hA:jD k A) (uH:A.frames=aa (env::l)) (hE:cY c ↑bv ae env) (OF:env.frame=aa env.locals) (R:Rel S c bv s.heap) (hoI:¬own I)
  (SE:∀nA c1 s1 v1,TS bP ae.fi j nA (LD j dv) L->aM.pK (· =I) ↑bv c c1->Rel S c1 nA s1.heap->cT S.w c1 ↑nA v1 dv->E5 S nA A c1 s1 (env::l) v1 msg own)
  (ag7:∀c1 s1 nA,TS bP ae.fi j nA (LD j dv) (L++[.str msg])->aM.pK (λx=>x=I\/own x) ↑bv c c1->Rel S c1 nA s1.heap->dZ s s1->nN I a vs (i+1) c1 s1->
   codeAny (MM S.w) A (.forLoop (.Name ft OG) (.ref I) [Uw dp cp ep vp tp ap sp wpo cp2 cp3 ep2 hp tV] [] env) Rr s1):
  codeAny (MM S.w) A (.forLoop (.Name ft OG) (.ref I) [Uw dp cp ep vp tp ap sp wpo cp2 cp3 ep2 hp tV] [] env) Rr s:=by
 refine turn J hi hv hA hE R ts.ns ZX (Ic _ (by walk_at "a")) λc1 s1 l1 R1 K1 J1 E=> ?_;have ts1:=ts.afB (m1:=LD j dv);have tW: ↑(bv.set ae.fi (.ns (LD j dv)))= ↑bv:=bi;generalize bv.set ae.fi (.ns (LD j dv))=lI at R1 ts1 tW;refine da (Qg (own:=own) ts1.ns ts1.N3 hL Ic Ie (λv1 a1=>ZS c1 _ v1 l1.F a1) gC hA uH (by rw[tW];exact hE.pf l1 (ab _)) OF R1 (λc2 s2 v2 l2 R2 a2=>SE lI c2 s2 v2 ts1 (l1.trans (tW▸l2.P) (ab _)) R2 a2) _ _ λc2 s2 l2 R2 K2=>jy ⟨rfl,?_⟩);exact ag7 c2 s2 _ ts1.ajt ((⟨l1.F,l1.Z,λa ha=>l1.pin a λe=>ha (.inl e)⟩:aM.pK (λx=>x=I\/own x) ↑bv c c1).trans (⟨l2.F,l2.Z,λa ha=>l2.pin a λe=>ha (.inr e)⟩) (by rw[tW];exact ab _)) R2 (K1.trans K2) (J1.keep R1 R2 l2.F (l2.pin I hoI))
noncomputable abbrev noArgs:Arguments:= {posonlyargs:=[],args:=[],vararg:=ac,kwonlyargs:=[],kw_defaults:=[],kwarg:=ac,defaults:=[]}
abbrev oneArg (p:Pos):Arguments:= {posonlyargs:=[],args:=[⟨sF,ac,p⟩],vararg:=ac,kwonlyargs:=[],kw_defaults:=[],kwarg:=ac,defaults:=[]}
def LF:∀fd:FuncData,fd.params=noArgs->fd.defaults= .none->fd.kwdefaults= .none->bindArgs fd ⟨[],[]⟩=pure []:=λfd h1 h2 h3=>by unfold bindArgs;rw[h1,h2,h3];rfl
def bind1 (p:Pos):∀(fd:FuncData) (v:Value),fd.params=oneArg p->fd.defaults= .none->fd.kwdefaults= .none->bindArgs fd ⟨[v],[]⟩=pure [(sF,v)]:=λfd v h1 h2 h3=>by unfold bindArgs;rw[h1,h2,h3];rfl
def WZ (h:cells.lookup jd=aa n):j8 cells Uu.names []=aa [(jd,n)]:=by show j8 cells [(jd,.free)] []=_;rw[ph,if_pos tt,h];rfl
def W0 (h:cells.lookup nM=aa n):j8 cells (Jl f).names []=aa [(nM,n)]:=by show j8 cells [(nM,.free),(f,.globalImplicit)] []=_;rw[ph,if_pos tt,h];rfl
abbrev bo1 (q1 q2 q3 q4 q5:Pos) (k1 k2:Nat):Expr:= .Call (.Attribute (.Name jd q1) "add_header" q2) [.Constant (.str Us) k1 q3,.Constant (.str "b") k2 q4] [] q5
abbrev bo2 (q1 q2 q3 q4 q5:Pos) (k1 k2:Nat):Expr:= .Call (.Attribute (.Name jd q1) "add_header" q2) [.Constant (.str "a") k1 q3,.Constant (.str G9) k2 q4] [] q5
abbrev bo3 (q1 q2 q3 q4 q5 q6:Pos) (k1 k2:Nat):Expr:= .Call (.Name zh q1) [.Name nM q2,.Constant (.int 1) k1 q3,.UnaryOp .USub (.Constant (.int 1) k2 q4) q5] [] q6
abbrev bo4 (q1 q2 q3 q4 q5 q6 q7 q8 q9 q10 q11:Pos) (k1 k2:Nat):Expr:= .Call (.Name sr q1) [.Name nM q2,.Constant (.int 1) k1 q3,.UnaryOp .USub (.Constant (.int 1) k2 q4) q5] [⟨aa gp,.Lambda (oneArg q6) (.UnaryOp .USub (.Name sF q7) q8) WX q9,q10⟩] q11
abbrev retS (tp p1 p2 p3 p4 p5 p6 p7 p8 p9 cp pos:Pos) (n1 n2 n3 n4:Nat):Stmt:=
 .Return (aa (.Compare (.Name fW tp) [.Eq] [.BinOp (.BinOp (.List [.Constant (.str rQ) n1 p1] p2) .Mult (.Constant (.int 2) n2 p3) p4) .Add (.BinOp (.List [.Constant (.str jF) n3 p5] p6) .Mult (.Constant (.int 2) n4 p7) p8) p9] cp)) pos
def E8 (h:cT w c n v (.tm params body scope cells)):∃a o fd,v= .ref a/\c.F a=aa o/\o.data= .func fd:=
 xe34 (qk.fn .mk h) λa o fd e h1 q h2=>⟨a,o,fd,e,h1,h2⟩
def Uy (hf:∃o fd,c.F a=aa o/\o.data= .func fd) (h:cT w c n v (.pv (.con (.ref a)))):∃a o fd,v= .ref a/\c.F a=aa o/\o.data= .func fd:=by have e:=h.dn;subst e;left;let ⟨o,fd,h1,h2⟩:=hf;right;exact⟨a,o,fd,rfl,h1,h2⟩
def E9 (Ik:S.yI=true)
  (hm:O[ae.fi]? =aa (.ns [(fW,ac),(ft,ac)])) (hct:O[ct]? =aa (.cell (aa (.inst i)))) (hcr:O[cr]? =aa (.cell (~~~(.lst lr)))) (hi:O[i]? =aa (.attrs [(a6,.fM h)])) (hh:O[h]? =aa (.list hl)) (yK:i≠h)
  (hcT:ae.cells.lookup jd=aa ct) (hcR:ae.cells.lookup nM=aa cr) (nZ:ae.code=aa 324) (Ic:pP ae.scope [fW,ft,jG]) (Ie:ma ae.scope [ah "ValueError",ah "str"])
  (W9:(l1.line==wD.line&&l1.col==wD.col)=false) (Me:(l2.line==wD.line&&l2.col==wD.col)=false) (hp3:(l3.line==wD.line&&l3.col==wD.col)=false) (hp4:l4.line=wD.line) (hp5:l4.col=wD.col)
  (hn1:(a2.endLine==a5.line)=true) (Xf:(c2'.endLine==c5'.line)=true) (hn3:(t6.endLine==t10.line)=true)
  (hA:jD 5 A) (uH:A.frames=aa (env::l)) (hS:pY O c (env::l)) (hE:cY c ↑O ae env) (OF:env.frame=aa env.locals) (R:Rel S c O s.heap) (E:VS) (Q:Cj->bb->Prop)
  (hQ:∀(own:Addr->Prop) c' bv s',aM.pK own ↑O c c'->(∀a,own a->c.pin a=ac)->Rel S.mj c' bv s'.heap->(∀x,x< ↑O->x≠ae.fi->bv[x]? =O[x]?)-> ↑O<= ↑bv->dZ s s'->Q (.ret (.bool true)) s'):
  wpAny (MM S.w) A (execs [.Assign [.Name fW o1] (.List [] o2) o3,.For (.Name ft o4) (.Tuple [.Lambda noArgs (bo1 a1 a2 a3 a4 a5 k1 k2) Uu l1,.Lambda noArgs (bo2 c1' c2' c3' c4' c5' k3 k4) Uu l2,.Lambda noArgs (bo3 d1 d2 d3 d4 d5 d6 k5 k6) (Jl zh) l3,.Lambda noArgs (bo4 e1 e2 e3 e4 e5 e6 e7 e8 e9 ZD ZE k7 k8) (Jl sr) l4] kn o5) [Uw t1 t2 t3 t4 t5 t6 t7 t8 t9 t10 t11 t12 t13] [] o6,retS r1 r2 r3 r4 r5 r6 r7 r8 r9 r10 r11 r12 m1 m2 m3 m4] env) Q E s:=by
 have hq:((324,320):Addr×Addr)∈cm:=by decide
 have Kg:=getElem?_lt' hm;have h0:iW S 5 O ae (.Assign [.Name fW o1] (.List [] o2) o3) .next ((O++[AO.list []]).set ae.fi (.ns [(fW,aa (.fM ↑O)),(ft,ac)])):=
  iW.assign Ev.newList (jY.loc (gA hm) (Ic _ (by walk_at "a")) iT.here rfl) (λz z=>rfl)
 refine da (h0.run A c s env hA hE R _ _ λc1 v1 s1 le1 R1 K1 f1=> ?_);obtain rfl:=f1.wL;have ts0:TS ((O++[AO.list []]).set ae.fi (.ns [(fW,aa (.fM ↑O)),(ft,ac)])) ae.fi ↑O ((O++[AO.list []]).set ae.fi (.ns [(fW,aa (.fM ↑O)),(ft,ac)])) [(fW,aa (.fM ↑O)),(ft,ac)] []:=
  ⟨rfl,bU (by rw[aj];exact eI ‹_›),by rw[bD (cU ‹_›),aE (ab _),dc];rfl,λz z z=>rfl⟩
 have pre:∀x,x< ↑O->x≠ae.fi->((O++[AO.list []]).set ae.fi (.ns [(fW,aa (.fM ↑O)),(ft,ac)]))[x]? =O[x]? :=λx hx h1=>by rw[bD h1.symm,aW hx]
 have cH:((O++[AO.list []]).set ae.fi (.ns [(fW,aa (.fM ↑O)),(ft,ac)])).length= ↑O+1:=by rw[bi,aj];rfl
 generalize (O++[AO.list []]).set ae.fi (.ns [(fW,aa (.fM ↑O)),(ft,ac)])=bP at R1 ts0 pre cH;have nf:∀ {x:Nat} {o:AO},O[x]? =aa o->(∀m,o≠ .ns m)->x≠ae.fi/\x≠ ↑O/\bP[x]? =aa o:=λ{x o} hx ho=>by
  have h1:x≠ae.fi:=λe=>by rw[e,hm]at hx;obtain rfl:=ag hx;exact ho _ rfl
  have h2:=getElem?_lt' hx;exact⟨h1,by exact cU ‹_›,by rw[pre x h2 h1];exact hx⟩
 have xct:=nf hct (λm e=>by nomatch e);have xcr:=nf hcr (λm e=>by nomatch e);have xi:=nf hi (λm e=>by nomatch e);have xh:=nf hh (λm e=>by nomatch e);have wb: ↑O<= ↑bP:=by simp_all
 have E1:cY c1 ↑bP ae env:=hE.mono le1 wb;have akF:v9 O bP:=λx m hx=>by
  by_cases h1:x=ae.fi
  ·subst h1;exact⟨_,ts0.ns⟩
  ·exact⟨m,by rw[pre x (getElem?_lt' hx) h1];exact hx⟩
 refine da (OH ?_ (λz=>rfl));refine sJ (k:=kn) ?_;show wpAny _ A (spliced [(false,eval (.Lambda noArgs (bo1 a1 a2 a3 a4 a5 k1 k2) Uu l1) env),(false,eval (.Lambda noArgs (bo2 c1' c2' c3' c4' c5' k3 k4) Uu l2) env),(false,eval (.Lambda noArgs (bo3 d1 d2 d3 d4 d5 d6 k5 k6) (Jl zh) l3) env),(false,eval (.Lambda noArgs (bo4 e1 e2 e3 e4 e5 e6 e7 e8 e9 ZD ZE k7 k8) (Jl sr) l4) env)]) _ _ s1;refine bX ((Ev.ET (k:=5) hq nZ (λz z=>W9) (λz=>rfl) (WZ hcT)).run A c1 s1 env hA E1 R1 _ _ λc2 v2 s2 Yb R2 K2 x2=> ?_);refine bX ((Ev.ET (k:=5) hq nZ (λz z=>Me) (λz=>rfl) (WZ hcT)).run A c2 s2 env hA (E1.mono Yb (ab _)) R2 _ _ λc3 v3 s3 le3 R3 K3 x3=> ?_);have aha:=Yb.trans le3 (ab _);refine bX ((Ev.ET (k:=5) hq nZ (λz z=>hp3) (λz=>rfl) (W0 hcR)).run A c3 s3 env hA (E1.mono aha (ab _)) R3 _ _ λc4 v4 s4 le4 R4 K4 x4=> ?_);have Vz:=aha.trans le4 (ab _);refine bX (Nd Ik nZ (λz=>rfl) (W0 hcR) (by simp) hp4 hp5 (E1.mono Vz (ab _)) R4 _ _ λc5 b5 cc P s5 Te hPn R5 K5 X5 Xp akH ZY=> ?_);refine eB ⟨by show 4<=sizeLine;decide,?_⟩;have R6:=R5.sS (T:= "tuple") (vs:= #[v2,v3,v4,.ref b5]);have hF6:(c5.put s5.heap.objs.size {cls:= .type "tuple",data:= .seq #[v2,v3,v4,.ref b5]}).F s5.heap.objs.size=aa {cls:= .type "tuple",data:= .seq #[v2,v3,v4,.ref b5]}:=if_pos rfl;have Mm:aM.le ↑bP c5 (c5.put s5.heap.objs.size {cls:= .type "tuple",data:= .seq #[v2,v3,v4,.ref b5]}):=aM.dC (R5.oq (ab s5.heap.objs.size));generalize hc6:c5.put s5.heap.objs.size {cls:= .type "tuple",data:= .seq #[v2,v3,v4,.ref b5]}=c6 at R6 hF6 Mm;refine Ce ⟨_,aV _ rfl,rfl,_,rfl⟩ ?_;generalize hs6:({s5 with heap:=s5.heap.push {cls:= .type "tuple",data:= .seq #[v2,v3,v4,.ref b5]}}:bb)=s6;have akJ:s6.heap=s5.heap.push {cls:= .type "tuple",data:= .seq #[v2,v3,v4,.ref b5]}:=by rw[<- hs6]
 rw[<- akJ]at R6;have R7:=R6.IY (o:= {cls:= .type "tuple_iterator",data:= .fields #[.ref s5.heap.objs.size,.int 0 0]}) rfl;have hI7:=aM.lD c6 s6.heap.objs.size {cls:= .type "tuple_iterator",data:= .fields #[.ref s5.heap.objs.size,.int 0 0]};have Im:aM.pK (· =s6.heap.objs.size) ↑bP c6 (c6.pinned [(s6.heap.objs.size,{cls:= .type "tuple_iterator",data:= .fields #[.ref s5.heap.objs.size,.int 0 0]})]):=aM.vA;have SJ:=R6.free (ab s6.heap.objs.size);have hPI:P≠s6.heap.objs.size:=λe=>by have h1:=(R6.pins P _ (Mm.pin▸Xp)).1;exact absurd e (cU (bW h1))
 generalize hc7:c6.pinned [(s6.heap.objs.size,{cls:= .type "tuple_iterator",data:= .fields #[.ref s5.heap.objs.size,.int 0 0]})]=c7 at R7 hI7 Im;generalize hI:s6.heap.objs.size=I at R7 hI7 Im SJ hPI;have ZZ:aM.pK (λx=>x=I\/x=P) ↑bP c1 c7:=by exact((Vz.P.trans (⟨Te.F,Te.Z,λa ha=>Te.pin a λe=>ha (.inr e)⟩) (ab _)).trans Mm.P (ab _)).trans (⟨Im.F,Im.Z,λa ha=>Im.pin a λe=>ha (.inl e)⟩) (ab _)
 have y2:=x2.j5 (λa o e=>Im.F _ _ (Mm.F _ _ (Te.F _ _ (le4.F _ _ (le3.F _ _ e))))) (λx hx=>by rw[Im.Z x hx,Mm.Z x hx,Te.Z x hx,le4.Z x hx,le3.Z x hx]) (ab _);have y4:=x4.j5 (c':=c7) (λa o e=>Im.F _ _ (Mm.F _ _ (Te.F _ _ e))) (λx hx=>by rw[Im.Z x hx,Mm.Z x hx,Te.Z x hx]) (ab _);have X7:qY c7 b5 cc noArgs _ (Jl sr) [(nM,cr)]:=X5.mono (n:= ↑bP) (λa o e=>Im.F _ _ (Mm.F _ _ e)) (λx hx=>by rw[Im.Z x hx,Mm.Z x hx]) ZY;have y5:=X7.val (w:=S.w) ZY;have akK:ud c7.F cc P:=by left;let ⟨o,Vm,KC,tf,Cu,tg,Zp,text,tt,f0,r⟩:=akH;right;exact⟨o,Vm,KC,tf,Cu,tg,Zp,text,tt,Im.F _ _ (Mm.F _ _ f0),r⟩
 have E7:cY c7 ↑bP ae env:=E1.pf ZZ (ab _);generalize hs7:({s6 with heap:=s6.heap.push {cls:= .type "tuple_iterator",data:= .fields #[.ref s5.heap.objs.size,.int 0 0]}}:bb)=s7;have akL:s7.heap=s6.heap.push {cls:= .type "tuple_iterator",data:= .fields #[.ref s5.heap.objs.size,.int 0 0]}:=by rw[<- hs7]
 rw[<- akL]at R7;have J7:nN I s5.heap.objs.size #[v2,v3,v4,.ref b5] 0 c7 s7:=by refine⟨⟨⟨_,(R7.pins I _ hI7).1,rfl,rfl⟩,⟨_,R7.frozen _ _ (Im.F _ _ hF6),rfl,_,rfl⟩⟩,⟨_,hI7⟩,⟨_,Im.F _ _ hF6⟩⟩
 have hA3:jD 3 A:=hA.le ∅;have Xq:∀ {nA:List AO} {m0:List (Str×Option AV)} {L:List PV} {x:Nat} {o:AO},TS bP ae.fi ↑O nA m0 L->(x≠ae.fi/\x≠ ↑O/\bP[x]? =aa o)->nA[x]? =aa o:=λ{nA m0 L x o} ts hx=>by rw[ts.rest x hx.1 hx.2.1];exact hx.2.2
 have stk:∀ {own:Addr->Prop} {nA:List AO} {m0:List (Str×Option AV)} {L:List PV} {c':aM},TS bP ae.fi ↑O nA m0 L->aM.pK own ↑bP c7 c'->pY nA c' (env::l):=λ{own nA m0 L c'} ts lx=>((hS.step akF le1).LC (v9.refl _) ZZ).LC (ts.Yu ts0.N3) lx;refine xm (S:=S.mj) (own:=λz=>False) (i:=0) (msg:=rQ) ts0 ∅ J7 rfl y2 (iT.there iT.here) Ic Ie (λz z z z ax=>E8 ax) hn3 hA uH E7 OF R7 (λh=>h) (λnA cx sx vx ts lx Rx ax=> ?_) λc8 s8 σ8 ts8 le8 R8 K8 J8=> ?_
 ·exact E5.tm (k:=2) LF (by decide+kernel) rfl rfl rfl (yv.d1 (Xq ts xct) (Xq ts xi) (Xq ts xh) yK hn1) hA3 uH (stk ts lx) Rx ax
 have g8:aM.pK (λx=>x=I\/False) ↑bP c7 c8:=le8;refine xm (S:=S.mj) (own:=λz=>False) (i:=1) (msg:=rQ) ts8 ∅ J8 rfl ((x3.j5 (c':=c7) (λa o e=>Im.F _ _ (Mm.F _ _ (Te.F _ _ (le4.F _ _ e)))) (λx hx=>by rw[Im.Z x hx,Mm.Z x hx,Te.Z x hx,le4.Z x hx]) (ab _)).j5 g8.F g8.Z (fg ts8.len.symm)) (iT.there iT.here) Ic Ie (λz z z z ax=>E8 ax) hn3 hA uH (by exact ts8.len▸(E7.pf le8 (ab _))) OF R8 (λh=>h) (λnA cx sx vx ts lx Rx ax=> ?_) λc9 s9 σ9 ts9 le9 R9 K9 J9=> ?_
 ·exact E5.tm (k:=2) LF (by decide+kernel) rfl rfl rfl (yv.d2 (Xq ts xct) (Xq ts xi) (Xq ts xh) yK Xf) hA3 uH (stk ts (g8.trans (own:=λx=>x=I\/False) ⟨lx.F,λx hx=>lx.Z x (by rw[ts8.len];exact hx),λa ha=>lx.pin a λe=>ha (.inl e)⟩ (ab _))) Rx ax
 have g9:aM.pK (λx=>x=I\/False) ↑bP c7 c9:=g8.trans le9 (ts8.len▸(ab _));refine xm (S:=S.mj) (own:=λz=>False) (i:=2) (msg:=jF) ts9 ∅ J9 rfl (y4.j5 g9.F g9.Z (fg ts9.len.symm)) (iT.there iT.here) Ic Ie (λz z z z ax=>E8 ax) hn3 hA uH (by rw[ts9.len];exact E7.pf g9 (ab _)) OF R9 (λh=>h) (λnA cx sx vx ts lx Rx ax=> ?_) λc10 s10 ao0 VA akM R10 K10 J10=> ?_
 ·exact E5.tm (k:=2) LF (by decide+kernel) rfl rfl rfl (yv.d3 (Xq ts xcr)) hA3 uH (stk ts (g9.trans (own:=λx=>x=I\/False) ⟨lx.F,λx hx=>lx.Z x (by rw[ts9.len];exact hx),λa ha=>lx.pin a λe=>ha (.inl e)⟩ (ab _))) Rx ax
 have g10:aM.pK (λx=>x=I\/False) ↑bP c7 c10:=g9.trans akM (ts9.len▸(ab _));refine xm (S:=S.mj) (own:=(· =P)) (i:=3) (msg:=jF) VA ∅ J10 rfl (.pv (.con (.ref b5))) (iT.there iT.here) Ic Ie (λcx z vx hF ax=>Uy (xe24 (X7.obj) λo fd f1 z f2 z=>⟨o,fd,hF _ _ (g10.F _ _ f1),f2⟩) ax) hn3 hA uH (by rw[VA.len];exact E7.pf g10 (ab _)) OF R10 (λh=>hPI h.symm) (λnA cx sx vx ts lx Rx ax=> ?_) λc11 s11 akN Kq akO R11 K11 J11=> ?_
 ·have gx:aM.pK (λx=>x=I\/False) ↑bP c7 cx:=g10.trans (own:=λx=>x=I\/False) ⟨lx.F,λx hx=>lx.Z x (by rw[VA.len];exact hx),λa ha=>lx.pin a λe=>ha (.inl e)⟩ (ab _);have ex:=ax.dn;subst ex;exact afA (Xq ts xcr) (X7.mono (n:= ↑bP) gx.F gx.Z ZY) LF (bind1 e6) (λz=>rfl) hA3 uH (stk ts gx) Rx ((gx.pin P (λh=>by rcases h with h|h;exact hPI h;exact h)).trans (by rw[Im.pin P hPI,Mm.pin];exact Xp)) (by
   left;let ⟨o,Vm,KC,tf,Cu,tg,Zp,text,tt,f0,r⟩:=akK;right;exact⟨o,Vm,KC,tf,Cu,tg,Zp,text,tt,gx.F _ _ f0,r⟩)
 have akP:aM.pK (λx=>x=I\/x=P) ↑bP c7 c10:=⟨g10.F,g10.Z,λa ha=>g10.pin a λh=>by rcases h with h|h;exact ha (.inl h);exact h⟩;refine Qh (S:=S.mj) J11 hA R11 λc12 s12 Z0 R12 K12=> ?_;have g12:aM.pK (λx=>x=I\/x=P) ↑bP c7 c12:=(akP.trans akO (VA.len▸(ab _))).trans (own:=λx=>x=I\/x=P) ⟨Z0.F,λx hx=>Z0.Z x (by rw[Kq.len];exact hx),λa ha=>Z0.pin a λe=>ha (.inl e)⟩ (ab _);show wpAny _ A (execs [retS r1 r2 r3 r4 r5 r6 r7 r8 r9 r10 r11 r12 m1 m2 m3 m4] env) Q E s12;refine da ((iW.Yt (S:=S.mj) (k:=5) Kq.ns (by walk_at "a") (Ic _ (by walk_at "a")) Kq.N3).run A c12 s12 env hA (by exact Kq.len▸(E7.pf g12 (ab _))) R12 _ _ λc13 v13 s13 SK R13 K13 f13=> ?_);have h9:=f13.Mx;clear f13;let ⟨_,q,f13⟩:=h9;cases q;have e13:=f13.dn;subst e13;refine hQ (λx=>x=I\/x=P) c13 akN s13 ((le1.P.trans (ZZ.trans (g12.trans (own:=λx=>x=I\/x=P) (m:= ↑bP) ⟨SK.F,λx hx=>SK.Z x (by rw[Kq.len];exact hx),λa ha=>by rw[SK.pin]⟩ (ab _)) (ab _)) wb)) (λa ha=> ?_) R13 (λx hx h1=>by rw[Kq.rest x h1 (cU ‹_›)];exact pre x hx h1) (Kq.len▸wb) (K1.trans (((((K2.trans K3).trans K4).trans K5).trans ((by exact hs6▸(.gF ..):dZ s5 s6).trans (hs7▸(.gF ..)))).trans ((((K8.trans K9).trans K10).trans K11).trans (K12.trans K13))));rcases ha with rfl|rfl
 ·rw[<- le1.pin,<- Vz.pin,<- Te.pin _ hPI.symm,<- Mm.pin];exact SJ.pin
 ·rw[<- le1.pin,<- Vz.pin];exact hPn
def Yv:bj∈fV:=by unfold fV;walk_at "a"
def Hd:pP bj.scope [fW,ft,jG]:=pP.of tt
def He:ma bj.scope [ah "ValueError",ah "str"]:=ma.of tt
def CQ (n:Nat):cellsFrom (n+1) bj.scope.names []=[(nM,n+2),(jd,n+1)]\/cellsFrom (n+1) bj.scope.names []=[(jd,n+1),(nM,n+2)]:=by
 first
 |exact .inl rfl
 |exact .inr rfl
def Jm (Ik:S.yI=true) (hi:O[i]? =aa (.attrs [(a6,.fM h)])) (hh:O[h]? =aa (.list l)) (yK:i≠h) (hA:jD 6 A) (hS:Stk O c A) (R:Rel S c O s.heap)
  (h1:cT S.w c ↑O v1 (.inst i)) (h2:cT S.w c ↑O v2 (.pv (.lst lr))) (E:VS) (Q:VS) (hQ:∀c' s',aM.le ↑O c c'->Rel S.mj c' O s'.heap->dZ s s'->Q (.bool true) s'):wpAny (MM S.w) A (call (.ref 325) [v1,v2]) Q E s:=by
 left;let ⟨fs,hl,hSL⟩:=hS;let ⟨o,pm,ho,FL,Cd,C2⟩:=R.fn Yv;have Vv:bj.scope.isCoroutine=false:=rfl;have FP:bj.scope.isGenerator=false:=rfl;have qr:bj.scope.kind= .function:=rfl;have gr:bindArgs (bj.fd pm) ⟨[v1,v2],[]⟩=pure [(jd,v1),(nM,v2)]:=by with_unfolding_all rfl
 right;refine vW ?_;refine Tf (fd:=bj.fd pm) (body:=bj.body) hA.room ho Cd Vv FP rfl C2 (i5 gr ?_);show wpAny _ _ (newFunctionEnv bj.scope 3 [] [(jd,v1),(nM,v2)] _ (aa bj.addr) (.ref bj.code) ac 0) _ _ _;simp only[newFunctionEnv,Mp,fw,if_false];refine am (F9 ?_);refine am (Kt _ (λname kind cells=>by cases hkc:kind==kX<;>simp[hkc]) _ _ _ _ ?_);have R1:Rel S (c.own ↑O s.heap.objs.size) (O++[.ns [(fW,ac),(ft,ac)]]) (s.heap.push {cls:= .type "frame",data:= .dict #[]}):=
  R.AK (λb o e=>aJ _ e) (ab _) (aV _ rfl) (.ns (es:= #[]) (ep:=0) rfl (λe he=>by simp at he) ∅
   (λx d hx=>by simp at hx) λx q=>rfl)
 have l1:aM.le ↑O c (c.own ↑O s.heap.objs.size):=aM.ja;generalize hc1:c.own ↑O s.heap.objs.size=c1 at R1 l1;have uH:c1.Z ↑O=s.heap.objs.size:=by exact hc1▸(aM.lZ ..)
 have tW: ↑(O++[AO.ns [(fW,ac),(ft,ac)]])= ↑O+1:=by rw[aj,be]
 left;let ⟨c2,l2,R2,mO,FH⟩:=Rel.A7 bj.scope.names [] R1 (λp hp=>by nomatch hp);right;rw[tW]at mO FH l2;have hnC:fj bj.scope.names=2:=rfl;have akQ:O++[AO.ns [(fW,ac),(ft,ac)]]++bQ (fj bj.scope.names) (AO.cell ac)=O++[.ns [(fW,ac),(ft,ac)],.cell ac,.cell ac]:=by rw[hnC];simp
 rw[akQ]at R2;rw[hnC]at FH;have zz: ↑(O++[AO.ns [(fW,ac),(ft,ac)],.cell ac,.cell ac])= ↑O+3:=by rw[aj];rfl
 rw[zG]at mO;generalize hH:({s with heap:=s.heap.push {cls:= .type "frame",data:= .dict #[]}}:bb)=s1;have Zy:s1.heap=s.heap.push {cls:= .type "frame",data:= .dict #[]}:=by rw[<- hH]
 rw[<- Zy]at mO R2;rw[mO];have Io:(cellsFrom (↑O+1) bj.scope.names []).lookup jd=aa (↑O+1)/\(cellsFrom (↑O+1) bj.scope.names []).lookup nM=aa (↑O+2):=by rcases CQ ↑O with e|e<;>rw[e]<;>exact⟨rfl,rfl⟩
 have H4:cY c2 (↑O+3) (gB bj ↑O) {scope:=bj.scope,locals:=s.heap.objs.size,globals:=3,cells:=(cellsFrom (↑O+1) bj.scope.names []).map (λp=>(p.1,c2.Z p.2)),qual:=(bj.fd pm).qualname++ ".<locals>.",func:=aa bj.addr,code:= .ref bj.code,frame:=aa s.heap.objs.size,builtins:=0}:= {
  scope:=rfl
  kind:=qr
  locals:=by show s.heap.objs.size=c2.Z ↑O;rw[l2.Z _ (ab _),uH]
  fi:=by show ↑O< ↑O+3;simp
  globals:=rfl
  builtins:=rfl
  cells:=rfl
  jp:=λp hp=>by have:=FH p hp;assumption
  code:=λa e=>by obtain rfl:=ag e;rfl
  frame:=⟨_,rfl⟩}
 have uG:aM.le ↑O c c2:=l1.trans l2 (bh _ _);have K1:dZ s {s1 with heap:=pushCells s1.heap bj.scope.names}:=by rw[<- hH];exact .gF ..
 have rp:jU S (gB bj ↑O) (O++[.ns [(fW,ac),(ft,ac)],.cell ac,.cell ac]) [(jd,.inst i),(nM,.pv (.lst lr))] (O++[.ns [(fW,ac),(ft,ac)],.cell (aa (.inst i)),.cell (~~~(.lst lr))]):=
  .cons (jY.cell (i:= ↑O+1) (by show gP jd bj.scope.names=_;exact so) Io.1 (yi rfl) (KY (.succ .zero))) (.cons (jY.cell (i:= ↑O+2) (by show gP nM bj.scope.names=_;exact so) Io.2 (yi rfl) (KY (.succ (.succ .zero)))) .nil)
 rw[<- zz]at H4;have hvv:dg S.w c2 ↑(O++[AO.ns [(fW,ac),(ft,ac)],.cell ac,.cell ac]) [v1,v2] [.inst i,.pv (.lst lr)]:= .cons (h1.mono uG (by simp)) (.cons (h2.mono uG (by simp)) .nil);refine am (rp.run _ c2 {s1 with heap:=pushCells s1.heap bj.scope.names} _ [(jd,v1),(nM,v2)] _ (λq q q=>rfl) H4 R2 rfl hvv _ _ λc3 s3 l3 R3 K3=>aR ⟨R3.lim,codeAny_func ?_⟩);have Zs:=H4.mono l3 rp.len;rw[zz]at l3;have lY:aM.le ↑O c c3:=uG.trans l3 (bh _ _);generalize Ko:({scope:=bj.scope,locals:=s.heap.objs.size,globals:=3,cells:=(cellsFrom (↑O+1) bj.scope.names []).map (λp=>(p.1,c2.Z p.2)),qual:=(bj.fd pm).qualname++ ".<locals>.",func:=aa bj.addr,code:= .ref bj.code,frame:=aa s.heap.objs.size,builtins:=0}:lW)=env at Zs;have OF:env.frame=aa env.locals:=by rw[<- Ko]
 have Vr:env.frame=aa (c3.Z ↑O):=by rw[<- Ko,l3.Z _ (by simp),l2.Z _ (ab _),uH]
 have hkm:env.scope.kind≠ .module:=by rw[<- Ko];show bj.scope.kind≠_;rw[qr];decide
 have ZO:(A.deeper env).frames=aa (env::fs):=by show A.frames.map (env:: ·)=_;rw[hl];rfl
 have hS3:pY (O++[.ns [(fW,ac),(ft,ac)],.cell (aa (.inst i)),.cell (~~~(.lst lr))]) c3 (env::fs):=λe he=>by
  rcases aH.mp he with rfl|he
  ·exact⟨hkm,↑O,_,Vr,yi (j:=0) rfl⟩
  ·exact pY.step hSL (v9.Cv O _) lY e he
 have ahf: ↑(O++[AO.ns [(fW,ac),(ft,ac)],.cell (aa (.inst i)),.cell (~~~(.lst lr))])= ↑O+3:=by rw[aj];rfl
 refine E9 (ae:=gB bj ↑O) Ik (ct:= ↑O+1) (cr:= ↑O+2) (yi (j:=0) rfl) (yi rfl) (yi rfl) (gA hi) (gA hh) yK Io.1 Io.2 rfl Hd He rfl rfl rfl rfl rfl rfl rfl rfl hA.deeper ZO hS3 Zs OF R3 _ _ λown c4 σ4 s4 l4 ho4 R4 ahg akR K4=> ?_;rw[ahf]at l4 ahg akR;have l04:aM.pK own ↑O c c4:=lY.P.trans l4 (bh _ _);let ⟨u1,u2⟩:=l04.Gw (λa ha=>by exact lY.pin▸(ho4 a ha));let ⟨τ,rfl⟩:=rL (O:=O) (bv:=σ4) (λx hx=>by
  rw[ahg x (by solve_by_elim (maxDepth:=4) [ce,a8,bI,aA,gJ,jm,bh,cI]) (by show x≠ ↑O;exact cU ‹_›),aW hx])
 exact hQ (c4.gN c) s4 u2 (R.mj.drop (R4.gN u1) rfl λq q h=> .inl h) ((K1.trans K3).trans K4)
def TrO (S:cz) (O:List AO) (A:cR) (c:aM) (s:bb) (t:zV Value) (d:AV) (bv:List AO):Prop:=
 ∀(E:VS) (Q:VS),(∀c' v s',aM.le ↑O c c'->Rel S.mj c' bv s'.heap->dZ s s'->cT S.w c' ↑bv v d->Q v s')->wpAny (MM S.w) A t Q E s
structure afC (S:cz) (k:Nat) (O:List AO) (ae:iv) (st:Stmt) (f:nU) (bv:List AO):Prop where
 len: ↑O<= ↑bv
 run:∀A c s env,jD k A->Top A env->0<s.toks->cY c ↑O ae env->Rel S c O s.heap->∀(E:VS) (Q:Cj->bb->Prop),
  (∀c' v s',aM.le ↑O c c'->Rel S.mj c' bv s'.heap->dZ s s'->sE S.w c' ↑bv v f->Q v s')->wpAny (MM S.w) A (exec st env) Q E s
structure zi (S:cz) (k:Nat) (O:List AO) (ae:iv) (Vl:List Stmt) (f:nU) (bv:List AO):Prop where
 len: ↑O<= ↑bv
 run:∀A c s env,jD k A->Top A env->0<s.toks->cY c ↑O ae env->Rel S c O s.heap->∀(E:VS) (Q:Cj->bb->Prop),
  (∀c' v s',aM.le ↑O c c'->Rel S.mj c' bv s'.heap->dZ s s'->sE S.w c' ↑bv v f->Q v s')->wpAny (MM S.w) A (execs Vl env) Q E s
def zi.cons (h1:Z8 S k O ae st .next bw) (h2:zi S k bw ae rest f bP):zi S k O ae (st::rest) f bP:=
 ⟨aA h1.len h2.len,λA c s env hA hF ht hE R E Q hQ=>da (mC (n:=1) ht (h1.run A c s env hA hF ht hE R _ _ λc1 v1 s1 l1 R1 K1 f1=>by
  intro Kf;obtain rfl:=f1.wL;exact h2.run A c1 s1 env hA hF Kf (hE.mono l1 h1.len) R1 _ _ λc2 v2 s2 l2 R2 K2 f2=>hQ c2 v2 s2 (l1.trans l2 h1.len) R2 (K1.trans K2) f2))⟩
def zi.turn (h1:afC S k O ae st .next bw) (h2:E3 S.mj k bw ae rest f bP):zi S k O ae (st::rest) f bP:=
 ⟨aA h1.len h2.len,λA c s env hA hF ht hE R E Q hQ=>da (mC (n:=1) ht (h1.run A c s env hA hF ht hE R _ _ λc1 v1 s1 l1 R1 K1 f1=>by
  intro Kf;obtain rfl:=f1.wL;exact h2.run A c1 s1 env hA hF Kf (hE.mono l1 h1.len) R1 _ _ λc2 v2 s2 l2 R2 K2 f2=>hQ c2 v2 s2 (l1.trans l2 h1.len) R2 (K1.trans K2) f2))⟩
def zi.ret (h1:Z8 S k O ae st (.ret d) bw):zi S k O ae (st::rest) (.ret d) bw:=
 ⟨h1.len,λA c s env hA hF ht hE R E Q hQ=>da (h1.run A c s env hA hF ht hE R _ _ λc1 v1 s1 l1 R1 K1 f1=>by
  let ⟨_,q,f2⟩:=f1.Mx;cases q;exact hQ c1 _ s1 l1 R1.mj K1 (.ret f2))⟩
def Ev.refused (Ik:S.yI=true) (hf:nH S k O ae (.Name f np) (.con (.ref 325))) (h1:Ev S k O ae et (.inst i) O) (h2:nH S k O ae er (.lst lr)) (n1:notStar et=true) (n2:notStar er=true)
  (hi:O[i]? =aa (.attrs [(a6,.fM h)])) (hh:O[h]? =aa (.list l)) (yK:i≠h) (Kg:∃m,O[ae.fi]? =aa (.ns m)) (hk:6<=k):∀A c s env,jD k A->Top A env->cY c ↑O ae env->Rel S c O s.heap->TrO S O A c s (eval (.Call (.Name f np) [et,er] [] pos) env) (.pv (PV.bool true)) O:=by
 intro A c s env hA hT hE R E Q hQ;refine cn (hf.run A c s env hA hE R _ _ λc1 v1 s1 l1 R1 K1 a1=> ?_);have e':=a1.dn;subst e';left;let ⟨of,pm,Kl,Oa,FQ,_⟩:=R1.fn (r:=bj) (by unfold fV;walk_at "a");right;refine fJ (o:=of) (fd:=bj.fd pm) ?_;refine eg (.cons h1 (.cons h2 .nil n2) n1) _ pos A c1 s1 env hA (hE.mono l1 (ab _)) R1 _ _ λc2 vs s2 l2 R2 K2 a2=> ?_;have Km:s2.heap.get? 325=aa of:=by let ⟨FF,_,h0,_,_,_⟩:=S.fns bj (by unfold fV;walk_at "a");have x2:=R2.old h0 ∅;rw[(R1.old h0 ∅)]at Kl;obtain rfl:=ag Kl;exact x2
 refine⟨⟨Km,FQ⟩,?_⟩;have h9:=a2.i1;clear a2;let ⟨va,_,rfl,b1,a2⟩:=h9;have h9:=a2.i1;clear a2;let ⟨vb,_,rfl,b2,a2⟩:=h9;obtain rfl:=a2.i0;have uG:=l1.trans l2 (ab _);have hS:Stk O c2 A:=by refine⟨[env],hT.frames,λe he=> ?_⟩;rw[aB]at he;subst he;let ⟨m,hm⟩:=Kg;refine⟨?_,ae.fi,m,by rw[hT.frame,(hE.mono uG (ab _)).locals],hm⟩;rw[hE.scope,hE.kind];decide
 exact Jm Ik hi hh yK (hA.le hk) hS R2 b1 b2 E Q λc3 s3 l3 R3 K3=>hQ c3 _ s3 (uG.trans l3 (ab _)) R3 ((K1.trans K2).trans K3) (.pv (.con _))
section
variable {lay:Lay}
def Qi (S:cz) (k:Nat) (lay:Lay) (s:Stmt) (F:St->Option (pj×St)):Prop:=
 ∀p O st fl cf,At lay p st O->F st=aa (fl,cf)->∃bv,fl= .next/\afC S k O (lay.en p) s .next bv/\At lay p cf bv/\ko lay p st cf O bv
def g7 (S:cz) (k:Nat) (lay:Lay) (ss:List Stmt) (F:St->Option (pj×St)):Prop:=
 ∀p O st fl cf,At lay p st O->F st=aa (fl,cf)->∃bv,zi S k O (lay.en p) ss (fl.af p.oi) bv/\At lay p cf bv/\ko lay p st cf O bv
def g7.cons (h1:jc S k lay s f) (h2:g7 S k lay ss g):g7 S k lay (s::ss) (aC f g):=by
 intro p O st fl cf bc hf;rcases qQ hf with⟨st1,e,hf⟩|⟨v,e,rfl⟩
 ·left;let ⟨lI,a1,b1,c1⟩:=h1 p O st _ st1 bc e;let ⟨uQ,a2,b2,c2⟩:=h2 p lI st1 _ cf b1 hf;right;exact⟨uQ,.cons a1 a2,b2,c1.trans c2 bc⟩
 ·let ⟨lI,a1,b1,c1⟩:=h1 p O st _ _ bc e;exact⟨lI,.ret a1,b1,c1⟩
def g7.turn (h1:Qi S k lay s f) (h2:tB S.mj k lay ss g):g7 S k lay (s::ss) (aC f g):=by
 intro p O st fl cf bc hf;rcases qQ hf with⟨st1,e,hf⟩|⟨v,e,rfl⟩
 ·left;let ⟨lI,_,a1,b1,c1⟩:=h1 p O st _ st1 bc e;let ⟨uQ,a2,b2,c2⟩:=h2 p lI st1 _ cf b1 hf;right;exact⟨uQ,.turn a1 a2,b2,c1.trans c2 bc⟩
 ·left;let ⟨lI,h,_⟩:=h1 p O st _ _ bc e;right;cases h
def xn (i j:Nat) (a b t r:EF) (st:St):Option (pj×St):=((a st).bind CV.aP).bind λva=>((b st).bind IW).bind λx=>(t st).bind λtv=>((r st).bind CV.aL).bind λq=>(st.Jg tv).map λq=>(.next,ie i (.pv va) (ie j (.pv (PV.bool x)) st))
def jc.refused (Ik:S.yI=true) (hk:6<=k) (hf:lay.me f=true) (hg:(f,aa (.ref 325))∈cg)
  (h1:cS S k lay ea a) (h2:cS S k lay eb b) (h3:cS S k lay et t) (h4:cS S k lay er r) (hx:lay.ni i x=true) (hy:lay.ni j y=true)
  (n1:notStar ea=true) (n3:notStar et=true) (n4:notStar er=true)
  (hw:(λenv:lW=>swappedStores [.Tuple [.Name x px,.Name y py] n tp] (.Tuple [ea,.BoolOp .And [eb,.Call (.Name f np) [et,er] [] fp] bp] m vp) {env with scope:=lay.scope})=λq=>pure (aa [x,y])):
  Qi S k lay (.Assign [.Tuple [.Name x px,.Name y py] n tp] (.Tuple [ea,.BoolOp .And [eb,.Call (.Name f np) [et,er] [] fp] bp] m vp) pos) (xn i j a b t r):=by
 intro p O st fl cf bc Si;refine a9 Si λva ha Si=>a9 ha λq ha e1=>a9 Si λxb hb Si=>a9 hb λq hb e2=>a9 Si λtv ht Si=>a9 Si λlr hr Si=>a9 hr λq hr e3=> ?_;rw[CV.kP e1]at ha;rw[rG e2]at hb;rw[CV.kL e3]at hr
 ·let ⟨⟨hh,l⟩,hq,e⟩:=ar.mp Si;let ⟨rfl,rfl⟩:=bG e;left;let ⟨i0,e1,e2,e3,e4⟩:=bc.Jg hq;have h3':=h3 p O st _ bc ht;right;rw[e1]at h3';have Sa:=Ev.refused Ik (np:=np) (pos:=fp) (Ev.Gr hf hg) h3' (h4 p O st _ bc hr) n3 n4 e2 e3 e4 ⟨_,bc.frame⟩ hk;have hand:∀A c s env,jD k A->Top A env->cY c ↑O (lay.en p) env->Rel S c O s.heap->TrO S O A c s (eval (.BoolOp .And [eb,.Call (.Name f np) [et,er] [] fp] bp) env) (.pv (PV.bool xb)) O:=by
   intro A c s env hA hT hE R E Q hQ;rw[show eval (.BoolOp .And [eb,.Call (.Name f np) [et,er] [] fp] bp) env=Ip bp .And (evalEach [eb,.Call (.Name f np) [et,er] [] fp] env) from rfl];show wpAny _ A (do
    let v <- eval eb env
    standAt bp
    let t <- holding [v] (truthy v)
    match BoolOp.And,t with
    | .And,false| .Or,true=>pure v
    |_,_=>eval (.Call (.Name f np) [et,er] [] fp) env) Q E s
   refine am ((h2 p O st _ bc hb).run A c s env hA hE R _ _ λc1 v1 s1 l1 R1 K1 a1=> ?_);have e:=a1.dn;subst e;refine am (cV (am (dH (gc ?_))));induction xb with
   |true=>exact Sa A c1 s1 env hA hT (hE.mono l1 (ab _)) R1 E Q λc2 v2 s2 l2 R2 K2 a2=>hQ c2 v2 s2 (l1.trans l2 (ab _)) R2 (K1.trans K2) a2
   |false=>exact aR (hQ c1 _ s1 l1 R1.mj K1 (.pv (.con _)))
  left;let ⟨uQ,a2,b2,c2⟩:=bc.ie (S:=S.mj) hy (.pv (PV.bool xb));let ⟨σ3,a3,b3,c3⟩:=b2.ie (S:=S.mj) hx (.pv va);right;refine⟨σ3,rfl,⟨aA a2.len a3.len,λA c s env hA hT ht hE R E Q hQ=> ?_⟩,b3,c2.trans c3 bc⟩;refine tY (names:=[x,y]) (sJ ?_) rfl (scp hw hE.scope);rw[gz n1,gz rfl];refine bX ((h1 p O st _ bc ha).run A c s env hA hE R _ _ λc1 u1 s1 l1 R1 K1 a1=> ?_);refine bX (hand A c1 s1 env hA hT (hE.mono l1 (ab _)) R1 _ _ λc2 u2 s2 l2 R2 K2 D7=>eB ⟨by show 2<=2 ^ 24;decide,?_⟩);generalize hcN:c2.put s2.heap.objs.size {cls:= .type "tuple",data:= .seq #[u1,u2]}=cN;have lN:aM.le ↑O c2 cN:=by exact hcN▸(aM.dC (R2.oq (ab s2.heap.objs.size)))
  have RN:Rel S.mj cN O (s2.heap.push {cls:= .type "tuple",data:= .seq #[u1,u2]}):=by rw[<- hcN];exact R2.sS
  have key:∀Q',(∀h',rm (s2.heap.push {cls:= .type "tuple",data:= .seq #[u1,u2]}).objs.size (s2.heap.push {cls:= .type "tuple",data:= .seq #[u1,u2]}) h'->Q' [u1,u2] {s2 with heap:=h'})->wpAny (MM S.w) A (unpackItems (.ref s2.heap.objs.size) 2 ac) Q' E {s2 with heap:=s2.heap.push {cls:= .type "tuple",data:= .seq #[u1,u2]}}:=λQ' hq=>
   vq (prog:=pw) (w:=S.w) (items:= #[u1,u2]) (s:= {s2 with heap:=s2.heap.push {cls:= .type "tuple",data:= .seq #[u1,u2]}}) (Q:=Q') hA.hn ⟨_,aV _ rfl,rfl,_,rfl⟩ hq
  refine key _ λh' yc=> ?_;have R':Rel S.mj cN O h':=RN.ext λb o e=>yc b o (cU (bW e)) e;show wpAny _ A (do holding _ (bindName env y _);holding _ (bindName env x _);pure ()) _ _ _;have l1N:=(l1.trans l2 (ab _)).trans lN (ab _);have rq:=hE.mono l1N (ab _);refine am (dH (sb (a2.run A cN {s2 with heap:=h'} env _ rq R' (D7.mono lN (ab _)) _ _ λc4 s4 l4 R4 K4=> ?_)));refine am (dH (sb (a3.run A c4 s4 env _ (rq.mono l4 a2.len) R4 (((a1.mono l2 (ab _)).mono lN (ab _)).mono l4 a2.len) _ _ λc5 s5 l5 R5 K5=> ?_)));exact aR (hQ c5 .next s5 ((l1N.trans l4 (ab _)).trans l5 a2.len) R5 ((((K1.trans K2).trans (.gF ..)).trans K4).trans K5) .next)
end
set_option maxHeartbeats 4000000
local macro_rules | `(tactic| walk_at "sd") => pure (wf (["jc; of", "mu; Dz", "cS; P6; items", "MU; ahJ"].map wz))
def ij (i:Nat):Stmt:=AI.body.getD i (.Pass default)
def dU:Lay:=eW AI ["script", "y", "laid", "turned", "text", "units", "unit", "opening", "bare", "deep", "first", "wide", "front", "given", "kept", "right", "pair", "due"] [("begin",15),("hues",14),("j",13),("pairs",12),("end",11),("rows",10),("over",9),("under",8),("table",7),("told",6),("pieces",5),("behind",4),("parts",3),("sums",2),("numbers",1),("x",0)]
def Qj:fS:=lO [([46,48],.local),([120],.local)] ["x"] [] []
def Qk:fS:=lO [([46,48],.local),([107],.local),([115,117,109],.globalImplicit),([110,117,109,98,101,114,115],.free)] ["k"] [] [("numbers",14)]
def Ql:fS:=lO [([46,48],.local),([107],.local),([115,117,109,115],.free)] ["k"] [] [("sums",13)]
def Qm:fS:=lO [([46,48],.local),([107],.local),([98,101,104,105,110,100],.free),([115,117,109,115],.free)] ["k"] [] [("sums",13),("behind",11)]
def Hf:fS:=lO [([46,48],.local),([120],.local),([95,108,97,119,95,116,111,108,100],.globalImplicit),([112,97,114,116,115],.free)] ["x"] [] [("parts",12)]
def Hg:fS:=lO [([46,48],.local),([120],.local),([116,97,98,108,101],.free)] ["x"] [] [("table",8)]
def Hh:fS:=lO [([46,48],.local),([120],.local),([116,97,98,108,101],.free)] ["x"] [] [("table",8)]
def Hi:fS:=lO [([46,48],.local),([119,97,121],.cell),([95,108,97,119,95,117,110,108,105,107,101],.globalImplicit),([112,97,114,116,115],.free)] [] [("way",0)] [("parts",12)]
def xo:fS:=lO [([46,48],.local),([120],.local),([108,101,110],.globalImplicit),([119,97,121],.free)] ["x"] [] [("way",0)]
def Qn:fS:=lO [([46,48],.local),([120],.local),([98,105,115,101,99,116,95,108,101,102,116],.globalImplicit),([108,101,110],.globalImplicit),([114,111,119,115],.free),([117,110,100,101,114],.free)] ["x"] [] [("under",7),("rows",5)]
def Nf:fS:=lO [([46,48],.local),([120],.local),([108,101,110],.globalImplicit),([98,105,115,101,99,116,95,114,105,103,104,116],.globalImplicit),([111,118,101,114],.free),([114,111,119,115],.free)] ["x"] [] [("rows",5),("over",6)]
def Ng:fS:=lO [([46,48],.local),([120],.local),([121],.local),([109,97,120],.globalImplicit),([109,105,110],.globalImplicit),([112,97,114,116,115],.free)] ["x", "y"] [] [("parts",12)]
def Nh:fS:=lO [([46,48],.local),([120],.local),([121],.local),([98,101,103,105,110],.free),([101,110,100],.free),([112,97,114,116,115],.free)] ["x", "y"] [] [("parts",12),("end",4),("begin",0)]
def qZ:kK:=⟨fsc [([121],.local),([98,101,103,105,110],.free)], "y",[("begin",0)]⟩
def ra:kK:=⟨fsc [([121],.local),([98,101,103,105,110],.free)], "y",[("begin",0)]⟩
def uq:fS:=lO [([46,48],.local),([120],.local),([117,110,105,116],.local),([98,101,103,105,110],.free),([106],.free),([112,105,101,99,101,115],.free)] ["x", "unit"] [] [("pieces",10),("j",2),("begin",0)]
def ur:fS:=lO [([46,48],.local),([120],.local),([117,110,105,116],.local),([101,110,100],.free),([106],.free)] ["x", "unit"] [] [("j",2),("end",4)]
def DB:fS:=lO [([46,48],.local),([111,110,101],.local)] ["one"] [] []
def yx:fS:=lO [([46,48],.local),([111,110,101],.local),([112,97,105,114,115],.free),([120],.free)] ["one"] [] [("x",15),("pairs",3)]
def DC:fS:=lO [([46,48],.local),([121],.local),([112,97,105,114,115],.free),([120],.free)] ["y"] [] [("x",0),("pairs",1)]
def yy:fS:=lO [([46,48],.local),([112,108,97,99,101],.local),([117,110,105,116],.local)] ["place", "unit"] [] []
def rb:fS:=lO [([46,48],.local),([111,110,101],.local),([108,101,110],.globalImplicit)] ["one"] [] []
def Ni:fS:=lO [([46,48],.local),([120],.local),([121],.local),([104,117,101,115],.free),([112,97,105,114,115],.free),([112,97,114,116,115],.free)] ["x", "y"] [] [("parts",12),("pairs",3),("hues",1)]
def Nj:fS:=lO [([46,48],.local),([120],.cell),([111,118,101,114],.free),([112,97,105,114,115],.free),([112,97,114,116,115],.free),([117,110,100,101,114],.free)] [] [("x",0)] [("under",7),("parts",12),("pairs",3),("over",6)]
def DD:fS:=lO [([46,48],.local),([121],.local),([112,97,105,114,115],.free),([120],.free)] ["y"] [] [("x",0),("pairs",3)]
def DE:fS:=lO [([46,48],.local),([121],.local),([112,97,105,114,115],.free),([120],.free)] ["y"] [] [("x",0),("pairs",3)]
def yz:fS:=lO [([46,48],.local),([120],.local),([116,111,108,100],.free)] ["x"] [] [("told",9)]
def Nk:fS:=lO [([46,48],.local),([112,97,105,114],.local),([111,110,101],.local)] ["pair", "one"] [] []
def Aa:SF:=(bZ (ei Qj (jx (fN (ak 0) eD (gV ⇑60) eD)) (dN (bf 0) fG (gO (ba .Mod (ak 0) ⇑1000000)))) (jI 14))
def Uz:jc S 6 dU (ij 0) Aa:=by walk_at "sd"
def Ab:SF:=(bZ (ei Qk (rK ⇑6) (dN (bf 0) fG (gO (ba .Add (bk (jb (au ⇑2361 (au ⇑1109 (au ⇑445 (au ⇑4291 (au ⇑1933 (au ⇑3006 aZ))))))) (ak 0)) (dJ MJ (au (fN (aX 0) (gV (ak 0)) eD (gV ⇑6)) aZ)))))) (jI 13))
def UA:jc S 6 dU (ij 1) Ab:=by walk_at "sd"
def Ac:SF:=(bZ (lw Ql (rK ⇑6) (dN (bf 0) fG (ta (bk ↥"abcdef" (ak 0)) (j7 (au (ba .Mod (bk (aX 0) (ak 0)) ⇑9) (au (ba .Mod (ba .FloorDiv (bk (aX 0) (ak 0)) ⇑9) ⇑9) (au (ba .Mod (ba .FloorDiv (bk (aX 0) (ak 0)) ⇑81) ⇑9) aZ))))))) (jI 12))
def UB:jc S 6 dU (ij 2) Ac:=by walk_at "sd"
def Fb:SF:=(bZ (jb (au (j7 aZ) (au (j7 (au ↥"\\(" aZ)) (au (j7 (au ↥"\\)" aZ)) (au (j7 (au ↥"\"" (au ↥"(" (au ↥"\"" aZ)))) (au (j7 (au ↥"\"" (au ↥")" (au ↥"\"" aZ)))) (au (j7 (au ↥"\\\"" aZ)) (au (j7 (au ↥"\\\\" aZ)) aZ)))))))) (jI 11))
def UC:jc S 6 dU (ij 3) Fb:=by walk_at "sd"
def Ad:SF:=(bZ (lw Qm (rK ⇑6) (dN (bf 0) fG (ta (bk ↥"abcdef" (ak 0)) (bk (aX 1) (ba .Mod (ba .FloorDiv (bk (aX 0) (ak 0)) ⇑729) ⇑7))))) (jI 10))
def UD:jc S 6 dU (ij 4) Ad:=by walk_at "sd"
def Ae:SF:=(GI (jh (k9 (lw Hf (jx (aX 12)) (dN (bf 0) fG (ta (ak 0) (j9 nr (au (bk (bk (aX 0) (ak 0)) ⇑0) (au (bk (bk (aX 0) (ak 0)) ⇑1) (au (bk (bk (aX 0) (ak 0)) ⇑2) aZ)))))))) (jh G7 EJ)) (fB (jI 9) (fB (jI 8) qS)))
def UE:jc S 6 dU (ij 5) Ae:=by walk_at "sd"
def Af:SF:=(mH (jx (aX 12)) (jI 15) (aC (mH (jx (aX 12)) (bf 1) (aC (jz (bY .Lt (bk (bk (aX 9) (aX 15)) ⇑1) (bk (bk (aX 9) (ak 1)) ⇑0)) (aC (eJ (aX 8) (au (eQ "str" gS (ak 1) aZ) (au (aX 15) aZ))) (aC (eJ (aX 8) (au (ba .Add (aX 15) (eQ "str" gS (aX 15) aZ)) (au (ak 1) aZ))) br)) br) br)) br))
def UG:jc S 6 dU (ij 6) Af:=by walk_at "sd"
def Ag:SF:=(GI (jh (k9 (lw Hg (jx (aX 12)) (dN (bf 0) fG (ta (ak 0) (mV (aX 0) (au (ak 0) aZ)))))) (jh (k9 (lw Hh (jx (aX 12)) (dN (bf 0) fG (ta (ak 0) (mV (aX 0) (au (ba .Add (eQ "str" gS (ak 0) aZ) (ak 0)) aZ)))))) EJ)) (fB (jI 7) (fB (jI 6) qS)))
def UH:jc S 6 dU (ij 7) Ag:=by walk_at "sd"
def Ah:SF:=(bZ (ei Hi (jx (jb (au (aX 7) (au (aX 6) aZ)))) (dN (jI 0) fG (gO (j9 lb (au (ei xo (jx (aX 1)) (dN (bf 0) fG (gO (dJ km (au (bk (aX 0) (ak 0)) aZ))))) aZ))))) (jI 5))
def UI:jc S 6 dU (ij 8) Ah:=by walk_at "sd"
def Ai:SF:=(bZ (lw Qn (jx (aX 12)) (dN (bf 0) fG (ta (ak 0) (qC false (bk (aX 1) ⇑0) (dJ km (au (bk (aX 0) (ak 0)) aZ)))))) (jI 0))
def UJ:jc S 6 dU (ij 9) Ai:=by walk_at "sd"
def xq:SF:=(bZ (lw Nf (jx (aX 12)) (dN (bf 0) fG (ta (ak 0) (ba .Sub (dJ km (au (bk (aX 0) ⇑1) aZ)) (qC true (bk (aX 0) ⇑1) (dJ km (au (bk (aX 1) (ak 0)) aZ))))))) (jI 4))
def Qo:jc S 6 dU (ij 10) xq:=by walk_at "sd"
def xr:SF:=(bZ (ei Ng (jx (aX 12)) (dN (bf 0) fG (IA (jx (aX 0)) (dN (bf 1) (bY .Lt (dJ EA (au (bk (aX 0) (ak 0)) aZ)) (dJ MN (au (bk (aX 0) (ak 1)) aZ))) (gO (ba .Add (ak 0) (ak 1))))))) (jI 3))
def Qp:jc S 6 dU (ij 11) xr:=by walk_at "sd"
def xt:SF:=(jz (bY .NotEq (ei Nh (jx (aX 12)) (dN (bf 0) fG (IA (jx (aX 0)) (dN (bf 1) (bY .Lt (bk (aX 1) (ak 0)) (bk (aX 2) (ak 1))) (gO (ba .Add (ak 0) (ak 1))))))) (aX 3)) (aC (i6 (jg (PV.bool false))) br) br)
def Qq:jc S 6 dU (ij 12) xt:=by walk_at "sd"
def BA:SF:=(GI (jh (EI (.list [])) (jh (EI (.list [])) (jh (k9 ↥"") (jh (EI (.list [])) EJ)))) (fB (bf 2) (fB (bf 3) (fB (bf 4) (fB (bf 5) qS)))))
def Qr:jc S 6 dU (ij 13) BA:=by walk_at "sd"
def xu:SF:=(mH (jx ↥"abcdef") (jI 15) (aC (Bj true qZ (ak 2) (aX 15) (bk (aX 0) (ak 0))) br))
def Qs:jc S 6 dU (ij 14) xu:=by walk_at "sd"
def xv:SF:=(mH (jx ↥"fedcba") (jI 15) (aC (Bj false ra (ak 3) (aX 15) (bk (aX 0) (ak 0))) br))
def Qt:jc S 6 dU (ij 15) xv:=by walk_at "sd"
def xw:SF:=(mH (rK (dJ km (au (bk (aX 5) ⇑0) aZ))) (jI 2) (aC (bZ (ei uq (jx (aX 12)) (dN (bf 0) (bY .Eq (bk (aX 2) (ak 0)) (aX 1)) (IA (jx (ba .Add (j7 (au ↥"(" (au (ak 0) aZ))) (bk (aX 0) (ak 0)))) (dN (bf 1) fG (gO (ak 1)))))) (bf 7)) (aC (mH (jx (ba .Add (ak 7) (ei ur (jx (aX 12)) (dN (bf 0) (bY .Eq (bk (aX 1) (ak 0)) (aX 0)) (IA (jx (jb (au (eQ "str" gS (ak 0) aZ) (au ↥")" aZ)))) (dN (bf 1) fG (gO (ak 1)))))))) (bf 6) (aC (bZ (ba .Add (ak 4) (ak 6)) (bf 4)) (aC (oy gZ (ak 5) (au (jb (au (ba .Sub (dJ km (au (ak 4) aZ)) ⇑1) (au (ak 6) aZ))) aZ)) br))) br)))
def Qu:jc S 6 dU (ij 16) xw:=(jc.of (mu.for (zK.range tt (Eo so) (Eo so) (cS.call (fv:= .builtin "len") fA.len (.inl ⟨_,rfl⟩) tt (Eo so) (Eo so) (pQ.cons (cS.item (cS.nj (i:=5) tt) cS.int MI) pQ.nil rfl)) rfl) (Cw.nj (i:=2) tt) (jZ.cons (mu.zb (i:=7) (fS.PJ tt) rfl (fa1 rfl) (fa2 (λq q=>rfl) (λq q=>rfl)) (zK.C (zK.val (cS.nj (i:=12) tt))) (F5.more rfl rfl rfl (Cw.loc (i:=0) tt) (EE (AU.cmp (cS.item (cS.nj (i:=2) tt) (cS.loc (i:=0) tt) MI) (cS.nj (i:=1) tt) rfl)) (zK.C (zK.val (cS.bin (cS.lst (pQ.cons cS.str (pQ.cons (cS.loc (i:=0) tt) pQ.nil rfl) rfl)) (cS.item (cS.nj (i:=0) tt) (cS.loc (i:=0) tt) MI)))) (F5.last rfl rfl rfl (Cw.loc (i:=1) tt) z7 (EC.list (cS.loc (i:=1) tt)))) tt pp) (jZ.cons (mu.for (zK.val (cS.bin (cS.loc (i:=7) tt) (cS.GD (fS.PJ tt) rfl (fa1 rfl) (fa2 (λq q=>rfl) (λq q=>rfl)) (zK.C (zK.val (cS.nj (i:=12) tt))) (F5.more rfl rfl rfl (Cw.loc (i:=0) tt) (EE (AU.cmp (cS.item (cS.nj (i:=1) tt) (cS.loc (i:=0) tt) MI) (cS.nj (i:=0) tt) rfl)) (zK.C (zK.val (cS.tup (pQ.cons (cS.sY fA.upper F.plainAttrs_str F.slot_str_upper F.type_str_upper (cS.loc (i:=0) tt) pQ.nil (λq=>rfl) rfl ∅) (pQ.cons cS.str pQ.nil rfl) rfl)))) (F5.last rfl rfl rfl (Cw.loc (i:=1) tt) z7 (EC.list (cS.loc (i:=1) tt))))))) (Cw.loc (i:=6) tt) (jZ.cons (mu.PI (i:=4) (cS.bin (cS.loc (i:=4) tt) (cS.loc (i:=6) tt)) tt pp) (jZ.cons (mu.mut Bc.append F.slot_list_append F.type_list_append (cS.loc (i:=5) tt) (pQ.cons (cS.tup (pQ.cons (cS.bin (cS.call (fv:= .builtin "len") fA.len (.inl ⟨_,rfl⟩) tt (Eo so) (Eo so) (pQ.cons (cS.loc (i:=4) tt) pQ.nil rfl)) cS.int) (pQ.cons (cS.loc (i:=6) tt) pQ.nil rfl) rfl)) pQ.nil rfl) (λq=>rfl) rfl ∅ pp) jZ.nil)) (λq q=>rfl)) jZ.nil)) (λq q=>rfl)))
def BB:SF:=(LB 8 (ak 4) "\"(\"" "\")\"" ↥"\"(")
def Qv:jc S 6 dU (ij 17) BB:=(jc.bare (i:=8) (cS.loc (i:=4) tt) cS.str tt ∅ ∅ (λq=>rfl) (λq=>rfl) rfl rfl (λq q=>rfl))
def xx:SF:=(jz (Gs (bY .NotEq (ei DB (zM (ba .Add (ak 4) ↥"\\")) (dN (bf 0) fG (gO (ak 0)))) (ba .Add (ak 5) (j7 (au (jb (au (dJ km (au (ak 4) aZ)) (au ↥"\\" aZ))) aZ)))) (Gs (bY .NotEq (j9 dW (au (ba .Add (ak 4) ↥"\"(") aZ)) (ak 8)) vy)) (aC (i6 (jg (PV.bool false))) br) br)
def Qw:jc S 6 dU (ij 18) xx:=by walk_at "sd"
def xy:SF:=(bZ (j9 tz (au (ak 4) (au (dJ MJ (au (aX 13) aZ)) aZ))) (pT (eT (jI 1) (eT (bf 9) (eT (bf 10) pS)))))
def Qx:jc S 6 dU (ij 19) xy:=by walk_at "sd"
def BC:SF:=(bZ (j7 (au (j7 aZ) aZ)) (bf 11))
def Qy:jc S 6 dU (ij 20) BC:=by walk_at "sd"
def BD:SF:=(mH (jx (aX 12)) (jI 15) (aC (bZ (ba .Add (ak 11) (ei yx (jx (ak 11)) (dN (bf 0) (bY .Eq (ei DC (jx (ak 0)) (dN (bf 0) (Gs (bY .In (ba .Add (aX 0) (ak 0)) (aX 1)) (Gs (bY .In (ba .Add (ak 0) (aX 0)) (aX 1)) vy)) (gO (ak 0)))) (j7 aZ)) (gO (ba .Add (ak 0) (j7 (au (aX 0) aZ))))))) (bf 11)) br))
def Qz:jc S 6 dU (ij 21) BD:=by walk_at "sd"
def xA:SF:=(jz (Gs (yk (vz .Eq .Eq (ak 2) (ak 3) (ei yy (GC (ak 5)) (dN (pT (eT (bf 0) (eT (bf 1) pS))) (bY .In (ak 1) ↥"abcdef") (gO (ak 1)))))) (Gs (yk (vz .Eq .Eq (ba .Add ⇑1 (pk (aX 1))) (ak 9) (dJ EA (au (ei rb (jx (ak 11)) (dN (bf 0) fG (gO (dJ km (au (ak 0) aZ))))) aZ)))) vy)) (aC (i6 (jg (PV.bool false))) br) br)
def QA:jc S 6 dU (ij 22) xA:=by walk_at "sd"
def xB:SF:=(jz (bY .NotEq (ei Ni (jx (aX 12)) (dN (bf 0) fG (IA (jx (aX 0)) (dN (bf 1) (wQ (bY .Lt (ak 0) (ak 1)) (wQ (bY .Eq (bk (aX 2) (ak 0)) (bk (aX 2) (ak 1))) (wQ (bY .NotIn (ba .Add (ak 0) (ak 1)) (aX 1)) (wQ (bY .NotIn (ba .Add (ak 1) (ak 0)) (aX 1)) fG)))) (gO (ba .Add (ak 0) (ak 1))))))) (j7 aZ)) (aC (i6 (jg (PV.bool false))) br) br)
def QB:jc S 6 dU (ij 23) xB:=by walk_at "sd"
def xC:SF:=(bZ (ba .Add (fN (ak 4) eD (gV (eQ "str" A4 (ak 4) (au (ak 10) aZ))) eD) (ba .Mult ↥")" (ak 9))) (bf 12))
def QC:jc S 6 dU (ij 24) xC:=by walk_at "sd"
def xD:SF:=(bZ (j7 (au (ak 12) (au (fN (ak 12) eD (gV (wZ ⇑1)) eD) (au (ba .Add ↥")" (fN (ak 12) eD (gV (wZ ⇑1)) eD)) (au (ak 4) aZ))))) (bf 13))
def QD:jc S 6 dU (ij 25) xD:=by walk_at "sd"
def xE:SF:=(jz (Gs (bY .NotEq (j9 hZ (au (ak 13) aZ)) (j7 (au (ak 12) (au ↥"('', '')" (au ↥"('', '')" (au (ak 4) aZ)))))) (Gs (bY .NotEq (ak 13) (j7 (au (ak 12) (au (fN (ak 12) eD (gV (wZ ⇑1)) eD) (au (ba .Add ↥")" (fN (ak 12) eD (gV (wZ ⇑1)) eD)) (au (ak 4) aZ)))))) vy)) (aC (i6 (jg (PV.bool false))) br) br)
def QE:jc S 6 dU (ij 26) xE:=by walk_at "sd"
def tD:SF:=(jz (bY .NotEq (ei Nj (jx (aX 12)) (dN (jI 0) (Gs (bY .NotEq (bk (aX 1) (aX 0)) (ei DD (jx (aX 2)) (dN (bf 0) (bY .In (ba .Add (ak 0) (aX 0)) (aX 1)) (gO (ak 0))))) (Gs (bY .NotEq (bk (aX 4) (aX 0)) (ei DE (jx (aX 2)) (dN (bf 0) (bY .In (ba .Add (aX 0) (ak 0)) (aX 1)) (gO (ak 0))))) vy)) (gO (aX 0)))) (j7 aZ)) (aC (i6 (jg (PV.bool false))) br) br)
def QF:jc S 6 dU (ij 27) tD:=by walk_at "sd"
def BE:SF:=(xn 14 15 (dJ Li (au (bk (aX 5) ⇑0) aZ)) (qA (bY .Eq (ei yz (jx (aX 12)) (dN (bf 0) (yk (ms (bk (bk (aX 0) (ak 0)) ⇑2))) (gO (ak 0)))) (j7 aZ))) (aX 8) (bk (aX 5) ⇑0))
def QG (Ik:S.yI=true):Qi S 6 dU (ij 28) BE:=(jc.refused Ik (i:=14) (j:=15) (by exact ab _) tt (Eo so) (cS.call (fv:= .type "list") fA.list (.inr ⟨_,rfl⟩) tt (Eo so) (Eo so) (pQ.cons (cS.item (cS.nj (i:=5) tt) cS.int MI) pQ.nil rfl)) (cS.cmp (cS.GD (fS.PJ tt) rfl fa0 (fa1 (λq q=>rfl)) (zK.C (zK.val (cS.nj (i:=12) tt))) (F5.last rfl rfl rfl (Cw.loc (i:=0) tt) (EE (AU.not (AU.val (cS.item (cS.item (cS.nj (i:=0) tt) (cS.loc (i:=0) tt) MI) cS.int MI) (λq q=>rfl)))) (EC.list (cS.loc (i:=0) tt)))) (cS.lst pQ.nil) rfl) (cS.nj (i:=8) tt) (cS.item (cS.nj (i:=5) tt) cS.int MI) tt tt rfl rfl rfl (by kernel_rfl))
def xF:SF:=(bZ (ei Nk (jx (aX 3)) (dN (bf 0) fG (IA (jx (jb (au (jb (au (eQ "str" gS (bk (ak 0) ⇑1) aZ) (au (bk (ak 0) ⇑0) aZ))) (au (jb (au (ba .Add (bk (ak 0) ⇑0) (eQ "str" gS (bk (ak 0) ⇑0) aZ)) (au (bk (ak 0) ⇑1) aZ))) aZ)))) (dN (bf 1) fG (gO (ak 1)))))) (bf 17))
def QH:jc S 6 dU (ij 29) xF:=(jc.of (mu.zb (i:=17) (fS.PJ tt) rfl (fa1 rfl) (fa2 (λq q=>rfl) (λq q=>rfl)) (zK.C (zK.val (cS.nj (i:=3) tt))) (F5.more rfl rfl rfl (Cw.loc (i:=0) tt) z7 (zK.C (zK.val (cS.tup (pQ.cons (cS.tup (pQ.cons (cS.sY fA.upper F.plainAttrs_str F.slot_str_upper F.type_str_upper (cS.item (cS.loc (i:=0) tt) cS.int MI) pQ.nil (λq=>rfl) rfl ∅) (pQ.cons (cS.item (cS.loc (i:=0) tt) cS.int MI) pQ.nil rfl) rfl)) (pQ.cons (cS.tup (pQ.cons (cS.bin (cS.item (cS.loc (i:=0) tt) cS.int MI) (cS.sY fA.upper F.plainAttrs_str F.slot_str_upper F.type_str_upper (cS.item (cS.loc (i:=0) tt) cS.int MI) pQ.nil (λq=>rfl) rfl ∅)) (pQ.cons (cS.item (cS.loc (i:=0) tt) cS.int MI) pQ.nil rfl) rfl)) pQ.nil rfl) rfl)))) (F5.last rfl rfl rfl (Cw.loc (i:=1) tt) z7 (EC.list (cS.loc (i:=1) tt)))) tt pp))
def xG:SF:=(bZ (qA (wQ (ms (ak 15)) (wQ (ms (qA (bY .Eq (bk (aX 5) ⇑0) (ak 14)))) (ms (qA (bY .Eq (E2 (aX 8)) (ak 17))))))) (bf 15))
def QI:jc S 6 dU (ij 30) xG:=by walk_at "sd"
def xH:SF:=(mH (jx (fN (aX 3) (gV (wZ ⇑1)) eD eD)) (bf 16) (aC (eJ (aX 8) (au (bk (ak 16) ⇑1) (au (bk (ak 16) ⇑0) aZ))) (aC (bZ (qA (wQ (ms (ak 15)) (ms (qA (bY .Eq (mV (aX 8) (au (eQ "str" gS (bk (ak 16) ⇑1) aZ) aZ)) (ba .Add (bk (aX 7) (bk (ak 16) ⇑1)) (j7 (au (bk (ak 16) ⇑0) aZ)))))))) (bf 15)) br)))
def QJ:jc S 6 dU (ij 31) xH:=by walk_at "sd"
def BF:SF:=(i6 (ak 15))
def QK:jc S 6 dU (ij 32) BF:=by walk_at "sd"
set_option maxHeartbeats 200000
def QL:SF:=aC Aa (aC Ab (aC Ac (aC Fb (aC Ad (aC Ae (aC Af (aC Ag (aC Ah (aC Ai (aC xq (aC xr (aC xt (aC BA (aC xu (aC xv (aC xw (aC BB (aC xx (aC xy (aC BC (aC BD (aC xA (aC xB (aC xC (aC xD (aC xE (aC tD (aC BE (aC xF (aC xG (aC xH (aC BF (br)))))))))))))))))))))))))))))))))
def afD (Ik:S.yI=true):g7 S 6 dU AI.body QL:=g7.cons Uz (g7.cons UA (g7.cons UB (g7.cons UC (g7.cons UD (g7.cons UE (g7.cons UG (g7.cons UH (g7.cons UI (g7.cons UJ (g7.cons Qo (g7.cons Qp (g7.cons Qq (g7.cons Qr (g7.cons Qs (g7.cons Qt (g7.cons Qu (g7.cons Qv (g7.cons Qw (g7.cons Qx (g7.cons Qy (g7.cons Qz (g7.cons QA (g7.cons QB (g7.cons QC (g7.cons QD (g7.cons QE (g7.cons QF (g7.turn (QG Ik) (tB.cons (QH (S:=S.mj)) (tB.cons (QI (S:=S.mj)) (tB.cons (QJ (S:=S.mj)) (tB.cons (QK (S:=S.mj)) (tB.nil)))))))))))))))))))))))))))))))))
def Jn:List Str:=dU.loc
noncomputable def tE (l:List Int):St:= {lv:=[~~~(.lst (l.map PV.int)),ac,ac,ac,ac,ac,ac,ac,ac,ac,ac,ac,ac,ac,ac,ac,ac,ac],cv:=[ac,ac,ac,ac,ac,ac,ac,ac,ac,ac,ac,ac,ac,ac,ac,ac],ob:=[]}
def iD (h1:tg (.pv x) st=aa st1) (h2:body st1=aa (.next,st2)):lM tg body (x::xs) st=lM tg body xs st2:=by rw[IZ,h1];show(body st1).bind _=_;rw[h2];rfl
def Yw (h1:tg (.pv x) st=aa st1) (h2:test st1=aa false):dN tg test inner (x::xs) dA st=dN tg test inner xs dA st1:=by rw[yn,h1];show(test st1).bind _=_;rw[h2];rfl
def QM (h1:tg (.pv x) st=aa st1) (h2:test st1=aa true) (h3:inner dA st1=aa r):dN tg test inner (x::xs) dA st=dN tg test inner xs r.1 r.2:=by rw[yn,h1];show(test st1).bind _=_;rw[h2];show(inner dA st1).bind _=_;rw[h3];rfl
def QN {xs ys:List PV}:∀ {st st1:St},lM tg body xs st=aa (.next,st1)->lM tg body (xs++ys) st=lM tg body ys st1:=by
 induction xs with
 |nil=>intro st st1 h;cases h;rfl
 |cons x xs ih=>
  intro st st1 h;rw[IZ]at h;refine a9 h λs1 e1 h=>a9 h λr e2 h=> ?_;let ⟨fl,s2⟩:=r;induction fl with
  |next=>rw[sC,iD e1 e2];exact ih h
  |ret v=>cases h
def Jo (J:St->Prop) (p:PV->Bool) (g:PV->List β) (n:Nat) (xs:List PV):∀(dA:List β) (st:St),J st->
  (∀x∈xs,↑(g x)<=n)->
  (∀x∈xs,∀st,J st->∃st1,tg (.pv x) st=aa st1/\test st1=aa (p x)/\J st1/\(p x=true->∀qG:List β,↑qG<= ↑dA+ ↑xs*n->∃st2,inner qG st1=aa (qG++g x,st2)/\J st2))->
  ∃cf,dN tg test inner xs dA st=aa (dA++(xs.filter p).flatMap g,cf)/\J cf:=by
 induction xs with
 |nil=>intro dA st h _ _;exact⟨st,by show aa (dA,st)=_;simp,h⟩
 |cons x xs ih=>
  intro dA st h hl hs;let ⟨st1,h1,h2,h3,h4⟩:=hs x ay st h;have hmul: ↑(x::xs)*n= ↑xs*n+n:=by rw[az,Oo,CC]
  cases hp:p x with
  |false=>
   let ⟨cf,e,j⟩:=ih dA st1 h3 (λy hy=>hl y (aK _ hy)) λy hy st hJ=>by left;let ⟨s1,a,b,c,d⟩:=hs y (aK _ hy) st hJ;right;exact⟨s1,a,b,c,λhp' qG ku=>d hp' qG (ab1 ku hmul)⟩
   refine⟨cf,?_,j⟩;rw[Yw h1 (hp▸h2),e,eu (hp▸bF)]
  |true=>
   let ⟨st2,e2,h5⟩:=h4 hp dA (V4);let ⟨cf,e,j⟩:=ih (dA++g x) st2 h5 (λy hy=>hl y (aK _ hy)) λy hy st hJ=>by let ⟨s1,a,b,c,d⟩:=hs y (aK _ hy) st hJ;exact⟨s1,a,b,c,λhp' qG ku=>d hp' qG (by rw[aj]at ku;exact V5 ku hmul (hl x ay))⟩
   refine⟨cf,?_,j⟩;rw[QM h1 (hp▸h2) e2,e,eo hp,bJ,bE]
def LG (h:f st= ~~~d) (hl: ↑dA<100000):gO f dA st=aa (dA++[d],st):=by unfold gO;rw[h];exact if_pos hl
def UK (h:f st= ~~~(.str x)) (h2:g st= ~~~d) (hl: ↑dA<100000) (hx:dA.lookup x=ac):ta f g dA st=aa (dA++[(x,d)],st):=by unfold ta;rw[h,h2];exact if_pos ⟨hl,hx⟩
def lc (J:St->Prop) (p:PV->Bool) (g:PV->PV) (hit:it st=aa xs) (hn: ↑xs<50000) (h0:J (cl.st st))
  (hs:∀x∈xs,∀st,J st->∃st1,tg (.pv x) st=aa st1/\test st1=aa (p x)/\J st1/\(p x=true->f st1= ~~~(g x))):
  ei cl it (dN tg test (gO f)) st= ~~~(.lst ((xs.filter p).map g)):=by
 unfold ei;rw[hit];let ⟨cf,e,_⟩:=Jo (β:=PV) J p (λx=>[g x]) 1 xs [] (cl.st st) h0 (λq q=>ab _) λx hx st hJ=>by left;let ⟨st1,a,b,c,d⟩:=hs x hx st hJ;right;refine⟨st1,a,b,c,λhp qG ku=>⟨st1,LG (d hp) ?_,c⟩⟩;simp at ku;exact ab2 ku hn
 show((dN tg test (gO f) xs [] (cl.st st)).map λr=>CV.pv (.lst r.1))=_;rw[e];simp[Ov]
def ut (J:St->Prop) (p:PV->Bool) (ys:PV->List PV) (p2:PV->PV->Bool) (g:PV->PV->PV) (hit:it st=aa xs) (hn: ↑xs<=100) (hm:∀x∈xs,↑(ys x)<=100) (h0:J (cl.st st))
  (hs:∀x∈xs,∀st,J st->∃st1,tg (.pv x) st=aa st1/\test st1=aa (p x)/\J st1/\(p x=true->it2 st1=aa (ys x)/\
   ∃J2:St->Prop,J2 st1/\(∀st,J2 st->J st)/\∀y∈ys x,∀st,J2 st->∃st2,tg2 (.pv y) st=aa st2/\Ec st2=aa (p2 x y)/\J2 st2/\(p2 x y=true->f st2= ~~~(g x y)))):
  ei cl it (dN tg test (IA it2 (dN tg2 Ec (gO f)))) st= ~~~(.lst ((xs.filter p).flatMap λx=>((ys x).filter (p2 x)).map (g x))):=by
 unfold ei;rw[hit];let ⟨cf,e,_⟩:=Jo (β:=PV) (tg:=tg) (test:=test) (inner:=IA it2 (dN tg2 Ec (gO f))) J p (λx=>((ys x).filter (p2 x)).map (g x)) 100 xs [] (cl.st st) h0 (λx hx=>by
   rw[aw];exact aA (eY ..) (hm x hx)) λx hx st hJ=>by
  left;let ⟨st1,a,b,c,d⟩:=hs x hx st hJ;right;refine⟨st1,a,b,c,λhp qG ku=> ?_⟩;left;let ⟨e2,J2,j0,jj,hs2⟩:=d hp;right;let ⟨cf,e',j'⟩:=Jo (β:=PV) J2 (p2 x) (λy=>[g x y]) 1 (ys x) qG st1 j0 (λq q=>ab _) λy hy st hJ=>by left;let ⟨s2,a2,b2,c2,d2⟩:=hs2 y hy st hJ;right;refine⟨s2,a2,b2,c2,λMe apg L9=>⟨s2,LG (d2 Me) ?_,c2⟩⟩;have: ↑xs*100<=100*100:=Nat.mul_le_mul_right _ hn;simp at ku;exact ab3 L9 ku (hm x hx) this
  refine⟨cf,?_,jj _ j'⟩;unfold IA;rw[e2];show dN tg2 Ec (gO f) (ys x) qG st1=_;rw[e',Ov]
 show((dN tg test (IA it2 (dN tg2 Ec (gO f))) xs [] (cl.st st)).map λr=>CV.pv (.lst r.1))=_;rw[e];rfl
def uu (J:St->Prop) (kx:PV->Str) (vx:PV->PV) (hit:it st=aa xs) (hn: ↑xs<50000) (Xa:(xs.map kx).Nodup) (h0:J (cl.st st))
  (hs:∀x∈xs,∀st,J st->∃st1,tg (.pv x) st=aa st1/\J st1/\f st1= ~~~(.str (kx x))/\g st1= ~~~(vx x)):
  lw cl it (dN tg fG (ta f g)) st= ~~~(.oK (xs.map λx=>(kx x,vx x))):=by
 unfold lw;rw[hit];have key:∀(ys:List PV) (dA:Sp) (s:St),J s->(∀x∈ys,x∈xs)->(dA.map (·.1)++ys.map kx).Nodup-> ↑dA+ ↑ys<100000->∃cf,dN tg fG (ta f g) ys dA s=aa (dA++ys.map λx=>(kx x,vx x),cf):=by
  intro ys;induction ys with
  |nil=>intro dA s _ _ _ _;exact⟨s,by show aa (dA,s)=_;simp⟩
  |cons y ys ih=>
   intro dA s hJ C0 ahi cH;left;let ⟨st1,a,c,d1,d2⟩:=hs y (C0 y ay) s hJ;right;have akS:dA.lookup (kx y)=ac:=by rw[sv];intro q hq;rw[bne_iff_ne];intro e;have e':kx y=q.1:=e;have:=(SY.mp ahi).2.2 q.1 (aQ.mpr ⟨q,hq,rfl⟩) (kx y) (by simp);exact this e'.symm
   rw[az]at cH;let ⟨cf,e⟩:=ih (dA++[(kx y,vx y)]) st1 c (λx hx=>C0 x (aK _ hx)) (by
    rw[bH,bE];simpa using ahi) (by rw[aj,be];exact ab4 cH)
   refine⟨cf,?_⟩;rw[QM a rfl (UK d1 d2 (show ↑dA<100000 by exact ab5 cH) akS),e];simp
 let ⟨cf,e⟩:=key xs [] (cl.st st) h0 (λz h=>h) (by simpa using Xa) (by simpa using (ab6 hn: ↑xs<100000));show((dN tg fG (ta f g) xs [] (cl.st st)).map λr=>CV.pv (.oK r.1))=_;rw[e];rfl
def tF (f:α->β) (l:List α) (a b c:Option Int):cO (l.map f) a b c=(cO l a b c).map f:=by
 unfold cO;rw[aw];generalize sliceRange _ _ _=is;induction is with
 |nil=>rfl
 |cons i is ih=>
  cases h:l[i]? with
  |none=>rw[lL (by simp[h]),lL (by simp[h]),ih]
  |some x=>rw[lK (b:=f x) (by simp[h]),lK (b:=x) (by simp[h]),ih,bx]
def mK (l:List α) (lo hi:Option Int):cO l lo hi ac=(l.drop (lo.elim 0 (clipAt ↑l))).take (hi.elim ↑l (clipAt ↑l)- lo.elim 0 (clipAt ↑l)):=by unfold cO;rw[sliceBounds_plain];simp only[sliceRange_one];have:=pick_run l.toArray (lo.elim 0 (clipAt ↑l)) (hi.elim ↑l (clipAt ↑l)- lo.elim 0 (clipAt ↑l));simpa using this
def tG (h:x∈cO l a b c):x∈l:=by unfold cO at h;let ⟨i,_,e⟩:=ye.mp h;exact bo e
def aju {n:Nat} {M:Int} (h:0<=M):(if M< (n:Int) then((n:Int)- M+6- 1)/6 else 0).toNat<=n:=by
 by_cases hl:M< (n:Int)
 ·rw[if_pos hl];refine Int.toNat_le.mpr (Int.ediv_le_of_le_mul ∅ ?_);rw[ry,show(n:Int)*6=n+n*5 from Int.mul_add _ 1 5▸by rw[Int.mul_one]];exact F2 (Int.sub_le_self _ h) (Ct (qK h hl:(1:Int)<=n) (by decide:(0:Int)<=5))
 ·rw[if_neg hl];exact cI _
def BG (l:List α) (k:Nat): ↑(cO l (aa (k:Int)) ac (aa 6))<= ↑l:=by unfold cO sliceRange sliceBounds;refine aA (List.length_filterMap_le _ _) ?_;rw[aw,rn];exact aju (XA _ _)
def sum_bound (l:List Int) (h:∀x∈l,0<=x/\x<1000000):0<=l.sum/\l.sum<= ↑l*1000000:=by
 induction l with
 |nil=>exact⟨v8 _,v8 _⟩
 |cons x l ih=>have h1:=h x ay;have h2:=ih λy hy=>h y (aK _ hy);rw[List.sum_cons,az,pI,Int.add_mul,uc x];exact⟨Int.add_nonneg h2.1 h1.1,F2 h2.2 (Int.le_of_lt h1.2)⟩
noncomputable def numsOf (l:List Int):List Int:=(l.take 60).map λx=>x.fmod 1000000
noncomputable def xI (k:Nat):Int:=[2361,1109,445,4291,1933,3006].getD k 0
def sumOf (l:List Int) (k:Nat):Int:=xI k+(cO (numsOf l) (aa (k:Int)) ac (aa 6)).sum
def numsOf_len (l:List Int): ↑(numsOf l)<=60:=by unfold numsOf;rw[aw,cF];exact j3 ..
def Jp (h:x∈numsOf l):0<=x/\x<1000000:=by unfold numsOf at h;let ⟨y,_,e⟩:=aQ.mp h;subst e;exact⟨Int.fmod_nonneg_of_pos _ ∅,Int.fmod_lt_of_pos _ ∅⟩
def BH (k:Nat):0<=xI k/\xI k<=5000:=by
 match k with
 |0=>decide
 |1=>decide
 |2=>decide
 |3=>decide
 |4=>decide
 |5=>decide
 |k+6=>show 0<=(0:Int)/\(0:Int)<=5000;decide
def zj (l:List Int) (k:Nat):0<=sumOf l k/\sumOf l k<=61000000:=by have h1:=BH k;have h2:=sum_bound (cO (numsOf l) (aa (k:Int)) ac (aa 6)) λx hx=>Jp (tG hx);exact⟨Int.add_nonneg h1.1 h2.1,ec (F2 h1.2 (ec h2.2 (Ct (fK.mpr (aA (BG (numsOf l) k) (numsOf_len l))) (by decide:(0:Int)<=1000000)))) ∅⟩
def Fc (l:List Int):St:= {lv:=[~~~(.lst (l.map PV.int)),ac,ac,ac,ac,ac,ac,ac,ac,ac,ac,ac,ac,ac,ac,ac,ac,ac],cv:=[ac,ac,ac,ac,ac,ac,ac,ac,ac,ac,ac,ac,ac,ac,~~~(.lst ((numsOf l).map PV.int)),ac],ob:=[]}
def afE (l:List Int) (hl: ↑l<=63):Aa (tE l)=aa (.next,Fc l):=by
 have hit:jx (fN (ak 0) eD (gV ⇑60) eD) (tE l)=aa ((l.take 60).map PV.int):=by
  have e:fN (ak 0) eD (gV ⇑60) eD (tE l)=(pb (tE l) (.pv (.lst (l.map PV.int))) ac (aa 60) ac).map CV.pv:=rfl;have e2:pb (tE l) (.pv (.lst (l.map PV.int))) ac (aa 60) ac=aa (.lst ((l.take 60).map PV.int)):=by
   show(if ↑(l.map PV.int)<=sizeLine/\(ac:Option Int)≠aa 0 then aa (PV.lst (cO (l.map PV.int) ac (aa 60) ac)) else ac)=_;rw[if_pos ⟨by rw[aw];exact ab7 hl (show sizeLine=2 ^ 24 by decide),by simp⟩,tF,mK];simp only[Option.elim,Ef,Nat.sub_zero];rw[show(60:Int)=((60:Nat):Int) from rfl,clipAt_nat];rcases zX 60 ↑l with h|h
   ·rw[iz h]
   ·rw[VK h,eP (ab _),eP h]
  unfold jx;rw[e,e2];rfl
 unfold Aa bZ;erw [lc (J:=λst=>∃a,st=⟨[a],[],[]⟩) (p:=λq=>true) (g:=λx=>match x with| .int i=> .int (i.fmod 1000000)|x=>x) hit (by rw[aw,cF];exact ab8) ⟨ac,rfl⟩ ?_]
 ·rw[bL.mpr (λq q=>rfl),bC];show aa (pj.next,rJ 14 (.pv (.lst ((l.take 60).map _))) (tE l))=_;unfold Fc numsOf;rw[bC];rfl
 ·rintro x hx st ⟨a,rfl⟩;let ⟨i,_,rfl⟩:=aQ.mp hx;exact⟨_,rfl,rfl,⟨_,rfl⟩,λq=>rfl⟩
def tH (st:St) (a b:Int):MF st .Add (.pv (.int a)) (.pv (.int b))=aa (.int (a+b)):=rfl
def dq (h1:f st=aa a) (h2:g st=aa b) (h:MF st op a b=aa d):ba op f g st= ~~~d:=by unfold ba u7;rw[h1,h2];show(MF st op a b).map _=_;rw[h];rfl
def Hj (h:AR op x y=aa d):MF st op (.pv x) (.pv y)=aa d:=by show(AR op x y).or _=_;rw[h];rfl
def vJ (n:Nat): ↑(iI n)=n:=by unfold iI;rw[aw,rn]
noncomputable def ig (n:Nat->Int):List PV:=(cJ 6).map λk=>PV.int (n k)
def Fd (l:List Int):St:= {lv:=[~~~(.lst (l.map PV.int)),ac,ac,ac,ac,ac,ac,ac,ac,ac,ac,ac,ac,ac,ac,ac,ac,ac],cv:=[ac,ac,ac,ac,ac,ac,ac,ac,ac,ac,ac,ac,ac,~~~(.lst (ig (sumOf l))),~~~(.lst ((numsOf l).map PV.int)),ac],ob:=[]}
def Hk (l:List Int) (k:Nat):fN (aX 0) (gV (ak 0)) eD (gV ⇑6) ⟨[~~~(.int (k:Int))],[~~~(.lst ((numsOf l).map PV.int))],[]⟩= ~~~(.lst ((cO (numsOf l) (aa (k:Int)) ac (aa 6)).map PV.int)):=by
 have e2:pb ⟨[~~~(.int (k:Int))],[~~~(.lst ((numsOf l).map PV.int))],[]⟩ (.pv (.lst ((numsOf l).map PV.int))) (aa (k:Int)) ac (aa 6)=aa (.lst ((cO (numsOf l) (aa (k:Int)) ac (aa 6)).map PV.int)):=by show(if ↑((numsOf l).map PV.int)<=sizeLine/\(aa 6:Option Int)≠aa 0 then aa (PV.lst (cO ((numsOf l).map PV.int) (aa (k:Int)) ac (aa 6))) else ac)=_;rw[if_pos ⟨by rw[aw];exact aA (numsOf_len l) ∅,by simp⟩,tF]
 show(pb _ _ _ _ _).map CV.pv=_;rw[e2];rfl
def Nl (l:List Int) (k:Nat):dJ MJ (au (fN (aX 0) (gV (ak 0)) eD (gV ⇑6)) aZ) ⟨[~~~(.int (k:Int))],[~~~(.lst ((numsOf l).map PV.int))],[]⟩= ~~~(.int (cO (numsOf l) (aa (k:Int)) ac (aa 6)).sum):=by unfold dJ au aZ;rw[Hk];show((jN ((cO (numsOf l) (aa (k:Int)) ac (aa 6)).map PV.int)).map λns=>CV.pv (.int ns.sum))=_;rw[pe];rfl
abbrev QO:St->Option CV:=bk (jb (au ⇑2361 (au ⇑1109 (au ⇑445 (au ⇑4291 (au ⇑1933 (au ⇑3006 aZ))))))) (ak 0)
@[elab_as_elim] theorem Ta {P:Nat->Prop} (h:k<6) (h0:P 0) (h1:P 1) (h2:P 2) (h3:P 3) (h4:P 4) (h5:P 5):P k:=by
 match k with
 |0=>exact h0
 |1=>exact h1
 |2=>exact h2
 |3=>exact h3
 |4=>exact h4
 |5=>exact h5
 |k+6=>exact absurd h (dE (gn ..))
def Hl (c:CV) (k:Nat) (hk:k<6):QO ⟨[~~~(.int (k:Int))],[aa c],[]⟩= ~~~(.int (xI k)):=Ta hk rfl rfl rfl rfl rfl rfl
def Nm (l:List Int) (k:Nat) (hk:k<6):ba .Add QO (dJ MJ (au (fN (aX 0) (gV (ak 0)) eD (gV ⇑6)) aZ)) ⟨[~~~(.int (k:Int))],[~~~(.lst ((numsOf l).map PV.int))],[]⟩= ~~~(.int (sumOf l k)):=by rw[dq (Hl _ k hk) (Nl l k) (tH _ _ _)];unfold sumOf;rfl
def afF (l:List Int):Ab (Fc l)=aa (.next,Fd l):=by
 unfold Ab bZ;erw [lc (J:=λst=>∃a,st=⟨[a],[~~~(.lst ((numsOf l).map PV.int))],[]⟩) (p:=λq=>true) (xs:=iI 6) (g:=λx=>match x with| .int i=> .int (sumOf l i.toNat)|x=>x) rfl (by rw[vJ];exact gn _ _) ⟨ac,rfl⟩ ?_]
 ·rw[bL.mpr (λq q=>rfl)];unfold iI;rw[bC];rfl
 ·rintro x hx st ⟨a,rfl⟩;let ⟨k,hk,rfl⟩:=aQ.mp hx;rw[dM]at hk;exact⟨⟨[~~~(.int (k:Int))],[~~~(.lst ((numsOf l).map PV.int))],[]⟩,rfl,rfl,⟨_,rfl⟩,λq=>Nm l k hk⟩
noncomputable def fl (n:Nat):UInt64:=C8 (n:Int)
noncomputable def nm (i:Nat):Str:=⟨#[97+i]⟩
noncomputable def up (i:Nat):Str:=⟨#[65+i]⟩
noncomputable def L6:List Nat:=cJ 6
def fY:i∈L6↔i<6:=dM
def Jq (h:nm i=nm j):i=j:=by have:=congrArg (λs:Str=>s.cps.toList) h;simp[nm]at this;exact this
def Jr (i j:Nat):(nm i==nm j)=(i==j):=by rw[dr,beq_iff_eq,beq_iff_eq];exact⟨Jq,λh=>by rw[h]⟩
def Hm:∀ {l:Nz},l.Nodup->(l.map nm).Nodup:=λh=>gX _ (λa b Mc e=>Mc (Jq e)) h
def lg:L6.Nodup:=Tt
def cq (F:Nat->PV):PV:= .oK (L6.map λi=>(nm i,F i))
def vK {F:Nat->PV} {l:Nz}:j∈l->(l.map λi=>(nm i,F i)).lookup (nm j)=aa (F j):=by
 induction l with
 |nil=>intro h;nomatch h
 |cons a l ih=>
  intro h;rw[bx,di,Jr];cases e:(j==a)with
  |true=>rw[beq_iff_eq]at e;subst e;rfl
  |false=>
   rcases aH.mp h with rfl|h
   ·rw[beq_self_eq_true]at e;nomatch e
   ·exact ih h
def gi (st:St) (F:Nat->PV) (hj:j∈L6):nV st (.pv (cq F)) (.pv (.str (nm j)))=aa (F j):=by show((aa (L6.map λi=>(nm i,F i))).bind (·.lookup (nm j)))=_;rw[bK,vK hj]
def cA (h1:f st=aa o) (h2:g st=aa i) (h:nV st o i=aa d):bk f g st= ~~~d:=by unfold bk u7;rw[h1,h2];show(nV st o i).map _=_;rw[h];rfl
def UL (n:Nat) (hn:n<100):0<=(n:Int)/\(n:Int)<2 ^ 63:=⟨dO n,jn (cL.mpr hn) ∅⟩
def UM (h:0<=i/\i<2 ^ 63):nV st o (.pv (.int i))=Lh st o i.toNat:=if_pos h
def Aj {n:Nat} (h:n<100):nV st o (.pv (.int (n:Int)))=Lh st o n:=UM (UL n h)
def kr (st:St) (l:List PV) (n:Nat) (hn:n<100) (h:l[n]? =aa d):nV st (.pv (.lst l)) (.pv (.int (n:Int)))=aa d:=(Aj hn).trans h
def mL (st:St) (l:List PV) (n:Nat) (hn:n<100) (h:l[n]? =aa d):nV st (.pv (.tup l)) (.pv (.int (n:Int)))=aa d:=(Aj hn).trans h
def uv (st:St) (x:Str) (n:Nat) (hn:n<100) (h:x.cps[n]? =aa c):nV st (.pv (.str x)) (.pv (.int (n:Int)))=aa (.str ⟨#[c]⟩):=(Aj hn).trans (by
 show(x.cps[n]?).map _=_;rw[h];rfl)
def qD (st:St) (F:Nat->PV) (h:f st= ~~~(cq F)):jx f st=aa (L6.map λi=> .str (nm i)):=by unfold jx;rw[h];show aa ((L6.map λi=>(nm i,F i)).map λp=>PV.str p.1)=_;rw[bC]
def afG (a b:Nat):Int.fmod (a:Int) (b:Int)=((a%b:Nat):Int):=by rw[Int.fmod_eq_emod_of_nonneg _ (dO b)];rfl
def afH (a b:Nat):Int.fdiv (a:Int) (b:Int)=((a/b:Nat):Int):=by rw[F1 _ (dO b)];rfl
def rc (st:St) (a b:Nat) (hb:b≠0):MF st .Mod (.pv (.int a)) (.pv (.int b))=aa (.int ((a%b:Nat):Int)):=by
 have e:AR .Mod (.int a) (.int b)=aa (.int ((a%b:Nat):Int)):=by show(if (b:Int)≠0 then aa (PV.int (Int.fmod a b)) else ac)=_;rw[if_pos λe=>hb (qh e),afG]
 exact Hj e
def W1 {a:Nat} (h:a<500000000):AP (a:Int)=true:=dD.mpr ⟨decide_eq_true (S2 ∅ (dO a)),decide_eq_true (jn (cL.mpr h) ∅)⟩
def xJ (st:St) (a b:Nat) (hb:b≠0) (ha:a<500000000) (uP:b<500000000):MF st .FloorDiv (.pv (.int a)) (.pv (.int b))=aa (.int ((a/b:Nat):Int)):=by
 have e:AR .FloorDiv (.int a) (.int b)=aa (.int ((a/b:Nat):Int)):=by show(if (b:Int)≠0/\AP a=true/\AP b=true then aa (PV.int (Int.fdiv a b)) else ac)=_;rw[if_pos ⟨λe=>hb (qh e),W1 ha,W1 uP⟩,afH]
 exact Hj e
def bA (h1:f st=aa a) (h2:g st=aa l):au f g st=aa (a::l):=by unfold au;rw[h1,h2];rfl
def rS (h:g st=aa l) (hp:MH l=aa ds) (hl: ↑ds<=1000):j7 g st= ~~~(.lst ds):=by unfold j7;rw[h,bK,hp,bK,if_pos hl]
def qm (h:g st=aa l) (hp:MH l=aa ds) (hl: ↑ds<=1000):jb g st= ~~~(.tup ds):=by unfold jb;rw[h,bK,hp,bK,if_pos hl]
def aU (h:f st=aa (.next,st1)):aC f g st=g st1:=by unfold aC;rw[h]
def tI (h:b st=aa true):jz b f g st=f st:=by unfold jz;rw[h];rfl
def jV (h:b st=aa false):jz b f g st=g st:=by unfold jz;rw[h];rfl
def fT (h1:f st=aa a) (h2:g st=aa b) (h:sT st op a b=aa r):bY op f g st=aa r:=by unfold bY u7;rw[h1,h2];exact h
def dw (h:f st=aa (.next,cf)):aC f br st=aa (.next,cf):=aU h
def uw (h:f st=aa (.ret v,st1)):aC f g st=aa (.ret v,st1):=by unfold aC;rw[h]
def mW (h:fa st=aa l) (hp:MH l=aa ds) (hv:g ds=aa d):j9 g fa st= ~~~d:=by unfold j9;erw [h,bK,hp,bK,hv];rfl
def BI {l:List PV} (h:∀x∈l,f x x=aa true):sj f l l=aa true:=by
 induction l with
 |nil=>rfl
 |cons a l ih=>show((f a a).bind λx=>(sj f l l).map (x&& ·))=_;rw[h a ay,ih λx hx=>h x (aK _ hx)];rfl
def lF (h:∀x∈l,PV.Et 3 x x=aa true):iH l l=aa true:=by unfold iH;exact(if_pos rfl)▸(BI h)
def ux (n:Nat) (x:Str):PV.Et (n+1) (.str x) (.str x)=aa true:=by show aa (x==x)=_;rw[beq_self_eq_true]
def LH (n:Nat) (x:Int):PV.Et (n+1) (.int x) (.int x)=aa true:=by show aa (x==x)=_;rw[beq_self_eq_true]
def LI (n:Nat) (h:∀x∈l,PV.Et n x x=aa true):PV.Et (n+1) (.tup l) (.tup l)=aa true:=by show(sj (PV.Et n) l l).map (λr=>r&& ↑l== ↑l)=_;rw[BI h,Az,beq_self_eq_true];rfl
def tJ (l:List Str):iH (l.map PV.str) (l.map PV.str)=aa true:=lF λx hx=>by let ⟨s,_,rfl⟩:=aQ.mp hx;exact ux 2 s
def Hn (l:List Int):iH (l.map PV.int) (l.map PV.int)=aa true:=lF λx hx=>by let ⟨s,_,rfl⟩:=aQ.mp hx;exact LH 2 s
def iJ (h:fa st=aa l) (hg:g st l=aa v):dJ g fa st=aa v:=by unfold dJ;exact h▸hg
def rT (h1:f st=aa a) (h2:g st=aa b):wQ f g st=aa (a&&b):=by
 unfold wQ;rw[h1];cases a
 ·rfl
 ·exact h2
def LK (h:b st=aa r):qA b st= ~~~(PV.bool r):=by unfold qA;rw[h];rfl
def Js (h:b st=aa true):ms (qA b) st=aa true:=by unfold ms qA;rw[h];rfl
def yA (h:TV op x y=aa r):sT st op (.pv x) (.pv y)=aa r:=by show(TV op x y).or _=_;rw[h];rfl
def Fe (st:St) (h:iH l l=aa true):sT st .Eq (.pv (.lst l)) (.pv (.lst l))=aa true:=yA h
def vL (st:St) (h:iH l l=aa true):sT st .NotEq (.pv (.lst l)) (.pv (.lst l))=aa false:=yA (by show(iH l l).map (!·)=_;rw[h];rfl)
noncomputable def afI (a b:Bool):Bool:= @sD (λq=>Bool) false b a
def LL {a b:Bool} (h:afI a b=true):a=true/\b=true:=by
 cases a
 ·nomatch h
 ·exact⟨rfl,h⟩
noncomputable def Nn (f:Nat->Bool) (n:Nat):Bool:=Kw true (λk r=>afI (f k) r) n
def xK {f:Nat->Bool} {n:Nat} (h:Nn f n=true) {k:Nat} (hk:k<n):f k=true:=by
 induction n with
 |zero=>nomatch hk
 |succ n ih=>exact(Nat.lt_succ_iff_lt_or_eq.mp hk).elim (ih (LL h).2) λe=>e▸(LL h).1
noncomputable def eqU (x y:UInt64):Bool:=rv x.toNat y.toNat
def QP {x y:UInt64} (h:eqU x y=true):x=y:=UInt64.toNat_inj.mp (Nat.eq_of_beq_eq_true h)
def QQ {P:Prop} (h:false=true):P:=eV h
def afJ (a b:UInt64):Option PV->Bool
 |some (.tup [.fF x,.fF y,.con (.bool true)])=>eqU x a&&eqU y b
 |_=>false
def UN {a b:UInt64} {o:Option PV} (h:afJ a b o=true):o=aa (.tup [.fF a,.fF b,PV.bool true]):=by
 cases o with
 |none=>exact QQ h
 |some p=>cases p with
  |tup l=>cases l with
   |nil=>exact QQ h
   |cons x l=>cases x with
    |fF x=>cases l with
     |nil=>exact QQ h
     |cons y l=>cases y with
      |fF y=>cases l with
       |nil=>exact QQ h
       |cons z l=>cases z with
        |con v=>cases v with
         |bool c=>cases c with
          |false=>exact QQ h
          |true=>cases l with
           |nil=>have h:=(dD.mp h);rw[QP h.1,QP h.2]
           |cons=>exact QQ h
         |_=>exact QQ h
        |_=>exact QQ h
      |_=>exact QQ h
    |_=>exact QQ h
  |_=>exact QQ h
noncomputable def afK (r g b:Nat):Bool:=afJ (MD ((min r (min g b):Nat):Int)) (MD ((max r (max g b):Nat):Int)) (nr [.int r,.int g,.int b])
noncomputable def vg (r:Nat):Bool:=Nn (λg=>Nn (afK r g) 9) 9
def Yx:vg (nat_lit 0)=true:=by kernel_rfl
def Yy:vg (nat_lit 1)=true:=by kernel_rfl
def Yz:vg (nat_lit 2)=true:=by kernel_rfl
def YA:vg (nat_lit 3)=true:=by kernel_rfl
def YB:vg (nat_lit 4)=true:=by kernel_rfl
def YC:vg (nat_lit 5)=true:=by kernel_rfl
def YD:vg (nat_lit 6)=true:=by kernel_rfl
def YE:vg (nat_lit 7)=true:=by kernel_rfl
def YF:vg (nat_lit 8)=true:=by kernel_rfl
def QR {r:Nat} (hr:r<9):vg r=true:=by
 rcases r with _|_|_|_|_|_|_|_|_|r
 ·exact Yx
 ·exact Yy
 ·exact Yz
 ·exact YA
 ·exact YB
 ·exact YC
 ·exact YD
 ·exact YE
 ·exact YF
 ·exact absurd (gn 9 r) (Cp hr)
def UO {r g b:Nat} (hr:r<9) (hg:g<9) (hb:b<9):nr [.int r,.int g,.int b]=aa (.tup [.fF (fl (min r (min g b))),.fF (fl (max r (max g b))),PV.bool true]):=by unfold fl;rw[<- z2,<- z2];exact UN (xK (xK (QR hr) hg) hb)
noncomputable def UP (f a c:Nat):List PV:=[.fF (md f 8),.fF (md ((1+a:Nat):Int) 4),.fF (md ((1+c:Nat):Int) 8)]
noncomputable def fl? :PV->Option UInt64
 | .fF y=>aa y
 |_=>ac
noncomputable def t3? :PV->Option (PV×PV×PV)
 | .tup [a,b,c]=>aa (a,b,c)
 |_=>ac
def flE {d:PV} {y:UInt64} (h:fl? d=aa y):d= .fF y:=by
 cases d with
 |fF z=>exact congrArg PV.fF (ag h)
 |_=>exact gq h
def t3E {d:PV} {a:PV×PV×PV} (h:t3? d=aa a):d= .tup [a.1,a.2.1,a.2.2]:=by
 cases d with
 |tup l=>
  rcases l with _|⟨x,_|⟨y,_|⟨z,_|_⟩⟩⟩
  ·exact gq h
  ·exact gq h
  ·exact gq h
  ·obtain rfl:=ag h;rfl
  ·exact gq h
 |_=>exact gq h
noncomputable def ajw (f:Nat) (y:UInt64):Option Unit:=if (jv y&&(qu ia y).fmod 8==f)=true then aa () else ac
def afL (f:Nat) (l:List PV):Option Unit:=(iw l).bind λp=>(t3? p).bind λa=>(i7 [a.1,a.2.1,a.2.2]).bind λq=>(t3? q).bind λb=>(AR .Mult b.1 (.int 8)).bind λr=>(fl? r).bind (ajw f)
def UQ:Nn (λc=>Nn (λa=>Nn (λf=>(afL f (UP f a c)).isSome) 6) 4) 8=true:=by kernel_rfl
def UR {f:Nat} {l:List PV} {u:Unit} (h:afL f l=aa u):∃(r g b h l' s:PV) (y:UInt64),iw l=aa (.tup [r,g,b])/\i7 [r,g,b]=aa (.tup [h,l',s])/\AR .Mult h (.int 8)=aa (.fF y)/\jv y=true/\(qu ia y).fmod 8=f:=
 have⟨_,e1,h⟩:=aG.mp h;have⟨_,k1,h⟩:=aG.mp h;have⟨_,e2,h⟩:=aG.mp h;have⟨_,k2,h⟩:=aG.mp h;have⟨_,e3,h⟩:=aG.mp h;have⟨_,k3,h⟩:=aG.mp h;have h:=dD.mp (dT h).1
 ⟨_,_,_,_,_,_,_,t3E k1▸e1,t3E k2▸e2,flE k3▸e3,h.1,beq_iff_eq.mp h.2⟩
def QS {f a c:Nat} (hf:f<6) (ha:a<4) (hc:c<8):∃(r g b h l s:PV) (y:UInt64),iw (UP f a c)=aa (.tup [r,g,b])/\i7 [r,g,b]=aa (.tup [h,l,s])/\AR .Mult h (.int 8)=aa (.fF y)/\jv y=true/\(qu ia y).fmod 8=f:=
 have⟨_,h⟩:=ji.mp (xK (xK (xK UQ hc) ha) hf)
 UR h
noncomputable def dR (n:Nat):Nat:=n%9
noncomputable def dG (n:Nat):Nat:=n/9%9
noncomputable def dB (n:Nat):Nat:=n/81%9
noncomputable def dP (n:Nat):Nat:=n/729%7
def cE (n:Nat):PV:= .lst [.int (dR n:Int),.int (dG n:Int),.int (dB n:Int)]
noncomputable def Ak:List (List Str):=[[],[ah "\\("],[ah "\\)"],[ah "\"",ah "(",ah "\""],[ah "\"",ah ")",ah "\""],[ah "\\\""],[ah "\\\\"]]
def jr:PV:= .tup (Ak.map λl=> .lst (l.map PV.str))
def Ff (p:Nat):List Str:=Ak.getD p []
def g0 (p:Nat):PV:= .lst ((Ff p).map PV.str)
def lo (n:Nat):Nat:=min (dR n) (min (dG n) (dB n))
def hi (n:Nat):Nat:=max (dR n) (max (dG n) (dB n))
def jO (n:Nat):PV:= .tup [.fF (fl (lo n)),.fF (fl (hi n)),PV.bool true]
def hU (qi:List PV):List CO:=[.attrs [(a6,.ob 2)],.pX,.list qi]
def st3 (l:List Int) (n:NN):St:= {lv:=[~~~(.lst (l.map PV.int)),ac,ac,ac,ac,ac,ac,ac,ac,ac,ac,ac,ac,ac,ac,ac,ac,ac],cv:=[ac,ac,ac,ac,ac,ac,ac,ac,ac,ac,ac,ac,ac,~~~(.lst (ig λk=>(n k:Int))),~~~(.lst ((numsOf l).map PV.int)),ac],ob:=[]}
def st4 (l:List Int) (n:NN):St:= {lv:=[~~~(.lst (l.map PV.int)),ac,ac,ac,ac,ac,ac,ac,ac,ac,ac,ac,ac,ac,ac,ac,ac,ac],cv:=[ac,ac,ac,ac,ac,ac,ac,ac,ac,ac,ac,ac,~~~(cq λk=>cE (n k)),~~~(.lst (ig λk=>(n k:Int))),~~~(.lst ((numsOf l).map PV.int)),ac],ob:=[]}
def st5 (l:List Int) (n:NN):St:= {lv:=[~~~(.lst (l.map PV.int)),ac,ac,ac,ac,ac,ac,ac,ac,ac,ac,ac,ac,ac,ac,ac,ac,ac],cv:=[ac,ac,ac,ac,ac,ac,ac,ac,ac,ac,ac,~~~jr,~~~(cq λk=>cE (n k)),~~~(.lst (ig λk=>(n k:Int))),~~~(.lst ((numsOf l).map PV.int)),ac],ob:=[]}
def st6 (l:List Int) (n:NN):St:= {lv:=[~~~(.lst (l.map PV.int)),ac,ac,ac,ac,ac,ac,ac,ac,ac,ac,ac,ac,ac,ac,ac,ac,ac],cv:=[ac,ac,ac,ac,ac,ac,ac,ac,ac,ac,~~~(cq λk=>g0 (dP (n k))),~~~jr,~~~(cq λk=>cE (n k)),~~~(.lst (ig λk=>(n k:Int))),~~~(.lst ((numsOf l).map PV.int)),ac],ob:=[]}
def st7 (l:List Int) (n:NN):St:= {lv:=[~~~(.lst (l.map PV.int)),ac,ac,ac,ac,ac,ac,ac,ac,ac,ac,ac,ac,ac,ac,ac,ac,ac],cv:=[ac,ac,ac,ac,ac,ac,ac,ac,aa (.inst 0),~~~(cq λk=>jO (n k)),~~~(cq λk=>g0 (dP (n k))),~~~jr,~~~(cq λk=>cE (n k)),~~~(.lst (ig λk=>(n k:Int))),~~~(.lst ((numsOf l).map PV.int)),ac],ob:=hU []}
def LM {k:Nat} (hk:k<6):(ah "abcdef").cps[k]? =aa (97+k):=by refine Ta hk ?_ ?_ ?_ ?_ ?_ ?_<;>decide
def Ho (n:NN) (hk:k<6):(ig λk=>(n k:Int))[k]? =aa (.int (n k:Int)):=by unfold ig;rw[bN,List.getElem?_range hk];rfl
def DF (F:Nat->PV) (g:PV->PV) (hg:∀k:Nat,g (.int (k:Int))=F k) (kx:PV->Str) (hk:∀k:Nat,kx (.int (k:Int))=nm k):PV.oK ((iI 6).map λx=>(kx x,g x))=cq F:=by unfold iI cq L6;rw[bC];congr 1;apply cj;intro k _;show(kx (.int (k:Int)),g (.int (k:Int)))=_;rw[hg,hk]
def kxI:PV->Str
 | .int i=>nm i.toNat
 |_=>nm 0
def xM:((iI 6).map kxI).Nodup:=by unfold iI;rw[bC];exact gX _ (λa b Mc e=>Mc (Jq (by simpa[kxI]using e))) Tt
def BJ (h:x∈iI m):∃k:Nat,k<m/\x= .int (k:Int):=by let ⟨k,hk,e⟩:=aQ.mp h;exact⟨k,dM.mp hk,e.symm⟩
def afN (l:List Int) (n:NN) (hn:∀k,n k<=100000000):Ac (st3 l n)=aa (.next,st4 l n):=by
 unfold Ac bZ;erw [uu (J:=λst=>∃a,st=⟨[a],[~~~(.lst (ig λk=>(n k:Int)))],[]⟩) (kx:=kxI) (xs:=iI 6) (vx:=λx=>match x with| .int i=>cE (n i.toNat)|x=>x) rfl (by rw[vJ];exact V8) xM ⟨ac,rfl⟩ ?_]
 ·rw[DF (λk=>cE (n k)) _ (λk=>rfl) _ (λk=>rfl)];rfl
 ·rintro x hx st ⟨a,rfl⟩;let ⟨k,hk,rfl⟩:=BJ hx;have SM:bk (aX 0) (ak 0) ⟨[~~~(.int (k:Int))],[~~~(.lst (ig λk=>(n k:Int)))],[]⟩= ~~~(.int (n k:Int)):=cA rfl rfl (kr _ _ k (by exact Gi hk) (Ho n hk));have ZN:=hn k;refine⟨⟨[~~~(.int (k:Int))],[~~~(.lst (ig λk=>(n k:Int)))],[]⟩,rfl,⟨_,rfl⟩,cA rfl rfl (uv _ _ k (by exact Gi hk) (LM hk)),?_⟩;exact rS (bA (dq SM rfl (rc _ (n k) 9 ∅)) (bA (dq (dq SM rfl (xJ _ (n k) 9 ∅ (by exact O3 ZN) ∅)) rfl (rc _ (n k/9) 9 ∅)) (bA (dq (dq SM rfl (xJ _ (n k) 81 ∅ (by exact O3 ZN) ∅)) rfl (rc _ (n k/81) 9 ∅)) rfl))) rfl (by simp)
def afO (l:List Int) (n:NN):Fb (st4 l n)=aa (.next,st5 l n):=by rfl
def afP (l:List Int) (n:NN) (hn:∀k,n k<=100000000):Ad (st5 l n)=aa (.next,st6 l n):=by
 unfold Ad bZ;erw [uu (J:=λst=>∃a,st=⟨[a],[~~~(.lst (ig λk=>(n k:Int))),~~~jr],[]⟩) (kx:=kxI) (xs:=iI 6) (vx:=λx=>match x with| .int i=>g0 (dP (n i.toNat))|x=>x) rfl (by rw[vJ];exact V8) xM ⟨ac,rfl⟩ ?_]
 ·rw[DF (λk=>g0 (dP (n k))) _ (λk=>rfl) _ (λk=>rfl)];rfl
 ·rintro x hx st ⟨a,rfl⟩;let ⟨k,hk,rfl⟩:=BJ hx;have SM:bk (aX 0) (ak 0) ⟨[~~~(.int (k:Int))],[~~~(.lst (ig λk=>(n k:Int))),~~~jr],[]⟩= ~~~(.int (n k:Int)):=cA rfl rfl (kr _ _ k (by exact Gi hk) (Ho n hk));have ZN:=hn k;refine⟨⟨[~~~(.int (k:Int))],[~~~(.lst (ig λk=>(n k:Int))),~~~jr],[]⟩,rfl,⟨_,rfl⟩,cA rfl rfl (uv _ _ k (by exact Gi hk) (LM hk)),?_⟩;have hp:dP (n k)<7:=fO _ ∅;refine cA rfl (dq (dq SM rfl (xJ _ (n k) 729 ∅ (by exact O3 ZN) ∅)) rfl (rc _ (n k/729) 7 ∅)) ?_;refine mL _ _ (dP (n k)) (by exact ace hp) ?_;show(Ak.map λl=>PV.lst (l.map PV.str))[dP (n k)]? =aa (g0 (dP (n k)));rw[bN];unfold g0 Ff;rw[qw];have cH: ↑Ak=7:=rfl;rw[aq (by rw[cH];exact hp)];rfl
def afQ (l:List Int) (n:NN):Ae (st6 l n)=aa (.next,st7 l n):=by
 have h:lw Hf (jx (aX 12)) (dN (bf 0) fG (ta (ak 0) (j9 nr (au (bk (bk (aX 0) (ak 0)) ⇑0) (au (bk (bk (aX 0) (ak 0)) ⇑1) (au (bk (bk (aX 0) (ak 0)) ⇑2) aZ)))))) (st6 l n)= ~~~(cq λk=>jO (n k)):=by
  erw [uu (J:=λst=>∃a,st=⟨[a],[~~~(cq λk=>cE (n k))],[]⟩) (kx:=λx=>match x with| .str s=>s|_=>nm 0) (xs:=L6.map λi=> .str (nm i)) (vx:=λx=>match x with| .str s=>jO (n (s.cps.toList.headD 0- 97))|x=>x) (qD _ (λk=>cE (n k)) rfl) ∅ (by rw[bC];exact Hm lg) ⟨ac,rfl⟩ ?_]
  ·rw[bC];unfold cq;congr 4;funext k;show(nm k,jO (n ((nm k).cps.toList.headD 0- 97)))=_;rw[show(nm k).cps.toList.headD 0- 97=k by simp[nm]]
  ·rintro x hx st ⟨a,rfl⟩;let ⟨k,hk,rfl⟩:=aQ.mp hx;have hp:bk (aX 0) (ak 0) ⟨[~~~(.str (nm k))],[~~~(cq λk=>cE (n k))],[]⟩= ~~~(cE (n k)):=cA rfl rfl (gi _ _ hk);refine⟨⟨[~~~(.str (nm k))],[~~~(cq λk=>cE (n k))],[]⟩,rfl,⟨_,rfl⟩,rfl,?_⟩;rw[mW (bA (cA hp rfl (kr ⟨[~~~(.str (nm k))],[~~~(cq λk=>cE (n k))],[]⟩ [.int (dR (n k):Int),.int (dG (n k):Int),.int (dB (n k):Int)] 0 ∅ rfl) (g:= ⇑0)) (bA (cA hp rfl (kr _ _ 1 ∅ rfl) (g:= ⇑1)) (bA (cA hp rfl (kr _ _ 2 ∅ rfl) (g:= ⇑2)) (rfl:aZ _=aa [])))) rfl (UO (fO _ ∅) (fO _ ∅) (fO _ ∅))];show aa (CV.pv (jO (n k)))=aa (CV.pv (jO (n ((nm k).cps.toList.headD 0- 97))));rw[show(nm k).cps.toList.headD 0- 97=k by simp[nm]]
 unfold Ae GI jh k9;rw[h];rfl
def uy (h1:f st=aa (.ob j)) (h2:fa st=aa cs) (h3:MH cs=aa ds) (h4:st.ob[j]? =aa (.list l)) (h5:g l ds=aa (r,l')):
  oy g f fa st=aa (.next,qR j (.list l') st):=by
 unfold oy;rw[h1,h2];show(MH cs).bind _=_;rw[h3];show(S5 st.ob[j]?).bind _=_;rw[h4];show(g l ds).map _=_;rw[h5];rfl
def pA (h: ↑l<100000):gZ l [d]=aa (PV.none,l++[d]):=if_pos h
def BK (h1:f st=aa (.inst j)) (h2:fe st= ~~~(.str x)) (h3:st.ob[j]? =aa (.attrs [(a6,v)])) (h4:kM (codeOf b) x=aa false):ql b f fe st= ~~~(.str x):=yu h1 h2 h3 h4
def BL (h1:f st=aa (.inst j)) (h3:st.ob[j]? =aa (.attrs [(a6,.ob h)])):sq f st=aa (.ob h):=by unfold sq;rw[h1];show((st.ob[j]?).bind CO.a1).bind _=_;rw[h3];show(if (a6==a6)=true then aa (CV.ob h) else ac)=_;exact if_pos (beq_self_eq_true a6)
def pB (h1:f st=aa o) (h2:fa st=aa ds) (h3:T5 st o=aa T) (h4:g st (o::ds)=aa v):eQ T g f fa st=aa v:=by unfold eQ;rw[h1,h2];show(if T5 st o=aa T then g st (o::ds) else ac)=_;rw[if_pos h3];exact h4
def Plain (x:Str):Prop:=kM (codeOf true) x=aa false/\kM (codeOf false) x=aa false
noncomputable abbrev zk:Str:=ah "; "
def US (ha:Plain a) (hb:Plain b) (hj:FS zk [b]=true) (hjj:zU zk [b]=b) (hl: ↑qi<100000):oF qi [.str a,.str b,.oK []]=aa (PV.none,qi++[.tup [.str a,.str b]]):=by
 let s0:St:=⟨[aa (.inst 0),~~~(.str a),~~~(.str b),~~~(.oK []),ac,ac,ac],[],[.attrs [(a6,.ob 1)],.list qi]⟩;let s1:St:=⟨[aa (.inst 0),~~~(.str a),~~~(.str b),~~~(.oK []),aa (.ob 2),ac,ac],[],[.attrs [(a6,.ob 1)],.list qi,.list []]⟩;let s2:St:=⟨[aa (.inst 0),~~~(.str a),~~~(.str b),~~~(.oK []),aa (.ob 2),ac,ac],[],[.attrs [(a6,.ob 1)],.list qi,.list [.str b]]⟩;let s3:St:=⟨[aa (.inst 0),~~~(.str a),~~~(.str b),~~~(.oK []),aa (.ob 2),ac,ac],[],[.attrs [(a6,.ob 1)],.list (qi++[.tup [.str a,.str b]]),.list [.str b]]⟩;have e2:jz (bY .IsNot (ak 2) (jg PV.none)) (aC (bZ (ql false (ak 0) (ak 2)) (bf 2)) (aC (oy gZ (ak 4) (au (ak 2) aZ)) br)) br s1=aa (.next,s2):=by
  show aC (bZ (ql false (ak 0) (ak 2)) (bf 2)) (aC (oy gZ (ak 4) (au (ak 2) aZ)) br) s1=_;rw[aU (st1:=s1)]
  ·rfl
  ·unfold bZ;rw[BK (j:=0) (x:=b) (v:= .ob 1) rfl rfl rfl hb.2];rfl
 have ht:jb (au (ql true (ak 0) (ak 1)) (au (eQ "str" A5 ↥"; " (au (ak 4) aZ)) aZ)) s2= ~~~(.tup [.str a,.str b]):=by refine qm (bA (BK (j:=0) (x:=a) (v:= .ob 1) rfl rfl rfl ha.1) (bA (pB (o:= .pv (.str zk)) (ds:=[.ob 2]) (v:= .pv (.str b)) rfl rfl rfl ?_) rfl)) rfl (by simp);show(if FS zk [b]=true then aa (CV.pv (.str (zU zk [b]))) else ac)=_;rw[if_pos hj,hjj]
 have e4:oy gZ (sq (ak 0)) (au (jb (au (ql true (ak 0) (ak 1)) (au (eQ "str" A5 ↥"; " (au (ak 4) aZ)) aZ))) aZ) s2=aa (.next,s3):=
  uy (BL (j:=0) (h:=1) rfl rfl) (bA ht rfl) rfl rfl (pA hl)
 have eF:mi s0=aa (.next,s3):=by unfold mi;rw[aU (st1:=s1) rfl,aU e2,aU (st1:=s2) rfl,aU e4];rfl
 show((aa s0).bind λst=>(mi st).bind λr=>xf r.1 r.2.ob[0]? r.2.ob[1]?)=_;rw[bK,eF];rfl
def join_one (x:Str):zU zk [x]=x:=rfl
def i9 (h:i<6):Plain (nm i)/\Plain (up i)/\Plain (nm i++up i):=by refine Ta h ?_ ?_ ?_ ?_ ?_ ?_<;>exact⟨⟨so,so⟩,⟨so,so⟩,⟨so,so⟩⟩
def Fg (h: ↑x<=100):FS zk [x]=true:=by have e: ↑zk=2:=rfl;unfold FS cw;simp[e,(by decide:sizeLine=2 ^ 24)];exact acf h
def Jt (ha:Plain a) (hb:Plain b) (Sr: ↑b<=100) (hl: ↑qi<100000):oF qi [.str a,.str b,.oK []]=aa (PV.none,qi++[PV.tup [.str a,.str b]]):=
 US ha hb (Fg Sr) (join_one b) hl
noncomputable def cW (r:Str×Str):PV:= .tup [.str r.1,.str r.2]
def yB (st:St) (h:cw ↑(cM x)=false):kJ st [.pv (.str x)]= ~~~(.str (cM x)):=by show(if cw ↑(cM x)=true then ac else aa (CV.pv (.str (cM x))))=_;exact if_neg (kl.mp h)
def Np (st:St) (h:cw ↑(sH x)=false):gS st [.pv (.str x)]= ~~~(.str (sH x)):=by show(if cw ↑(sH x)=true then ac else aa (CV.pv (.str (sH x))))=_;exact if_neg (kl.mp h)
def vM (rs:SS) (hx:Plain (cM x)) (hlx:cw ↑(cM x)=false) (hrs:∀r∈rs,cw ↑(cM r.1)=false) (hn: ↑rs<50000):
  kq (rs.map cW) [.str x]=aa (.lst ((rs.filter λr=>cM r.1==cM x).map λr=> .str r.2),rs.map cW):=by
 let s0:St:=⟨[aa (.inst 0)],[~~~(.str x)],[.attrs [(a6,.ob 1)],.list (rs.map cW)]⟩;let s1:St:=⟨[aa (.inst 0)],[~~~(.str (cM x))],[.attrs [(a6,.ob 1)],.list (rs.map cW)]⟩;have e1:bZ (ql true (ak 0) (eQ "str" kJ (aX 0) aZ)) (jI 0) s0=aa (.next,s1):=by unfold bZ;rw[BK (j:=0) (x:=cM x) (v:= .ob 1) rfl (pB (o:= .pv (.str x)) (ds:=[]) rfl rfl rfl (yB _ hlx)) rfl hx.1];rfl
 have e2:ei xj (GC (sq (ak 0))) (dN (bf 0) (bY .Eq (eQ "str" kJ (bk (ak 0) ⇑0) aZ) (aX 0)) (gO (bk (ak 0) ⇑1))) s1= ~~~(.lst ((rs.filter λr=>cM r.1==cM x).map λr=> .str r.2)):=by
  erw [lc (J:=λst=>∃a,st=⟨[a],[~~~(.str (cM x))],[.attrs [(a6,.ob 1)],.list (rs.map cW)]⟩) (xs:=rs.map cW) (p:=λr=>match r with| .tup [.str a,.str _]=>cM a==cM x|_=>false) (g:=λr=>match r with| .tup [.str _,.str b]=> .str b|x=>x) ?_ (by rw[aw];exact hn) ⟨ac,rfl⟩ ?_]
  ·rw[dF,bC];rfl
  ·unfold GC;rw[BL (j:=0) (h:=1) rfl rfl];rfl
  ·rintro r hr st ⟨a,rfl⟩;let ⟨q,hq,rfl⟩:=aQ.mp hr;refine⟨⟨[~~~(cW q)],[~~~(.str (cM x))],[.attrs [(a6,.ob 1)],.list (rs.map cW)]⟩,rfl,?_,⟨_,rfl⟩,λz=>cA rfl rfl (mL _ _ 1 ∅ rfl)⟩;have hl:eQ "str" kJ (bk (ak 0) ⇑0) aZ ⟨[~~~(cW q)],[~~~(.str (cM x))],[.attrs [(a6,.ob 1)],.list (rs.map cW)]⟩= ~~~(.str (cM q.1)):=
    pB (o:= .pv (.str q.1)) (ds:=[]) (cA rfl rfl (mL _ [.str q.1,.str q.2] 0 ∅ rfl)) rfl rfl (yB _ (hrs q hq))
   unfold bY u7;rw[hl];rfl
 have eF:oU s0=aa (.ret (.pv (.lst ((rs.filter λr=>cM r.1==cM x).map λr=> .str r.2))),s1):=by unfold oU;rw[aU e1];unfold aC i6;rw[e2];rfl
 show((aa s0).bind λst=>(oU st).bind λr=>xf r.1 r.2.ob[0]? r.2.ob[1]?)=_;rw[bK,eF];rfl
def QT (qi:List PV) (hn: ↑qi<=50000):xk qi []=aa (.lst qi,qi):=by
 let s0:St:=⟨[aa (.inst 0)],[],[.attrs [(a6,.ob 1)],.list qi]⟩;have eF:uo s0=aa (.ret (.pv (.lst qi)),s0):=by
  have e:fN (sq (ak 0)) eD eD eD s0= ~~~(.lst qi):=by
   unfold fN;rw[BL (j:=0) (h:=1) rfl rfl];show(pb s0 (.ob 1) ac ac ac).map CV.pv=_;have e:pb s0 (.ob 1) ac ac ac=aa (.lst qi):=by show(if ↑qi<=sizeLine/\(ac:Option Int)≠aa 0 then aa (PV.lst (cO qi ac ac ac)) else ac)=_;rw[if_pos ⟨by exact acg hn rfl,by simp⟩,mK];simp
   rw[e];rfl
  unfold uo aC i6;rw[e];rfl
 show((aa s0).bind λst=>(uo st).bind λr=>xf r.1 r.2.ob[0]? r.2.ob[1]?)=_;rw[bK,eF];rfl
def DG (J:List γ->St->Prop) (g:PV->List γ) (m:Nat) (xs:List PV):∀(dA:List γ) (st:St),J dA st->(∀x∈xs,↑(g x)<=m)->
  (∀x∈xs,∀(a:List γ) (st:St),J a st-> ↑a<= ↑dA+ ↑xs*m->∃st1 st2,tg (.pv x) st=aa st1/\body st1=aa (.next,st2)/\J (a++g x) st2)->∃cf,lM tg body xs st=aa (.next,cf)/\J (dA++xs.flatMap g) cf:=by
 induction xs with
 |nil=>intro dA st h _ _;exact⟨st,rfl,by simpa using h⟩
 |cons x xs ih=>intro dA st h hl hs;left;let ⟨st1,st2,h1,h2,h3⟩:=hs x ay dA st h (V4);let ⟨cf,e,h4⟩:=ih (dA++g x) st2 h3 (λy hy=>hl y (aK _ hy)) λy hy a st hJ hb=>hs y (aK _ hy) a st hJ (by rw[aj]at hb;exact V5 hb (by rw[az,Oo,CC]) (hl x ay));right;exact⟨cf,(iD h1 h2).trans e,by rw[bJ,<- bE];exact h4⟩
noncomputable def iY:PV->Nat
 | .str s=>s.cps.toList.headD 0- 97
 |_=>0
def fU (i:Nat):iY (.str (nm i))=i:=by simp[iY,nm]
def rel (n:NN) (i j:Nat):Bool:=decide (hi (n i)<lo (n j))
def BM (n:Nat):lo n<=hi n:=aA (j3 ..) (Nat.le_max_left ..)
def W2 (n:Nat):hi n<9:=by unfold hi;exact aca (fO _ ∅) (fO _ ∅) (fO _ ∅)
def afR (ha:a<9) (hb:b<9):(dK (fl a) (fl b)==aa nc)=decide (a<b):=by exact(by decide+kernel:∀a∈cJ 9,∀b∈cJ 9,(dK (fl a) (fl b)==aa nc)=decide (a<b)) a (dM.mpr ha) b (dM.mpr hb)
def rowsOf (n:NN) (i j:Nat):List (Str×Str):=if rel n i j then [(up j,nm i),(nm i++up i,nm j)] else []
def bV (n:NN):List (Str×Str):=L6.flatMap λi=>L6.flatMap λj=>rowsOf n i j
def zQ (l:List Int) (n:NN) (y x:OV) (rs:SS):St:= {lv:=[~~~(.lst (l.map PV.int)),y,ac,ac,ac,ac,ac,ac,ac,ac,ac,ac,ac,ac,ac,ac,ac,ac],cv:=[ac,ac,ac,ac,ac,ac,ac,ac,aa (.inst 0),~~~(cq λk=>jO (n k)),~~~(cq λk=>g0 (dP (n k))),~~~jr,~~~(cq λk=>cE (n k)),~~~(.lst (ig λk=>(n k:Int))),~~~(.lst ((numsOf l).map PV.int)),x],ob:=hU (rs.map cW)}
def Hp (h:i<6):sH (nm i)=up i/\cw ↑(sH (nm i))=false:=by refine Ta h ?_ ?_ ?_ ?_ ?_ ?_<;>exact⟨rfl,rfl⟩
def kg (st:St) (a b:Str) (h: ↑a+ ↑b<=10000):MF st .Add (.pv (.str a)) (.pv (.str b))=aa (.str (a++b)):=by have e:AR .Add (.str a) (.str b)=aa (.str (a++b)):=if_pos (O4 h rfl);show(AR .Add (.str a) (.str b)).or _=_;rw[e];rfl
def jP (i:Nat): ↑(nm i)=1:=rfl
def Ju (i:Nat): ↑(up i)=1:=rfl
def vN (hi:i<6) (h:f st= ~~~(.str (nm i))):eQ "str" gS f aZ st= ~~~(.str (up i)):=by have:=Np st (Hp hi).2;rw[(Hp hi).1]at this;exact pB (o:= .pv (.str (nm i))) (ds:=[]) h rfl rfl this
def Fh (h1:f st=aa v) (h2:st.Jg v=aa (h,rs.map cW)) (h3:fa st=aa [.pv (.str a),.pv (.str b)]) (ha:Plain a) (hb:Plain b) (Sr: ↑b<=100) (hl: ↑rs<100000):
  eJ f fa st=aa (.next,qR h (.list ((rs++[(a,b)]).map cW)) st):=by
 unfold eJ;rw[h1];simp only[bK,h2,h3,two?,CV.aS,Az,Jt ha hb Sr (show ↑(rs.map cW)<100000 by rw[aw];exact hl)];rw[bH];rfl
def jW (h:it st=aa xs):mH it tg body st=lM tg body xs st:=by unfold mH;rw[h];rfl
def afS (l:List Int) (n:NN):∃y x,Af (st7 l n)=aa (.next,zQ l n y x (bV n)):=by
 unfold Af;rw[jW (qD (st7 l n) (λk=>cE (n k)) rfl)];obtain(⟨cf,e,y,x,rfl⟩):=DG (tg:=jI 15) (body:=aC (mH (jx (aX 12)) (bf 1) (aC (jz (bY .Lt (bk (bk (aX 9) (aX 15)) ⇑1) (bk (bk (aX 9) (ak 1)) ⇑0)) (aC (eJ (aX 8) (au (eQ "str" gS (ak 1) aZ) (au (aX 15) aZ))) (aC (eJ (aX 8) (au (ba .Add (aX 15) (eQ "str" gS (aX 15) aZ)) (au (ak 1) aZ))) br)) br) br)) br)
  (λrs st=>∃y x,st=zQ l n y x rs) (λx=>L6.flatMap λj=>rowsOf n (iY x) j) 12 (L6.map λi=> .str (nm i)) [] (st7 l n) ⟨ac,ac,rfl⟩
  (λx q=>by
   rw[pH];have:∀j,↑(rowsOf n (iY x) j)<=2:=λj=>by unfold rowsOf;split<;>simp
   have h0:=this 0;have h1:=this 1;have h2:=this 2;have h3:=this 3;have h4:=this 4;have h5:=this 5;show(L6.map λj=> ↑(rowsOf n (iY x) j)).sum<=12;simp[L6,lT];exact V9 h0 h1 h2 h3 h4 h5)
  (by
   rintro x hx rs st ⟨y0,x0,rfl⟩ hb;let ⟨i,hi,rfl⟩:=aQ.mp hx;have hi6:=fY.mp hi;simp only[lU,aw]at hb;refine⟨zQ l n y0 (~~~(.str (nm i))) rs,?_⟩;obtain(⟨cf,e,y,rfl⟩):=DG (tg:=bf 1) (body:=aC (jz (bY .Lt (bk (bk (aX 9) (aX 15)) ⇑1) (bk (bk (aX 9) (ak 1)) ⇑0)) (aC (eJ (aX 8) (au (eQ "str" gS (ak 1) aZ) (au (aX 15) aZ))) (aC (eJ (aX 8) (au (ba .Add (aX 15) (eQ "str" gS (aX 15) aZ)) (au (ak 1) aZ))) br)) br) br)
    (λrs st=>∃y,st=zQ l n y (~~~(.str (nm i))) rs) (λy=>rowsOf n i (iY y)) 2 (L6.map λi=> .str (nm i)) rs (zQ l n y0 (~~~(.str (nm i))) rs) ⟨y0,rfl⟩ (λy q=>by unfold rowsOf;split<;>simp)
    (by
     rintro y hy Ob st ⟨y1,rfl⟩ uP;let ⟨j,hj,rfl⟩:=aQ.mp hy;have hj6:=fY.mp hj;have Xr: ↑L6=6:=rfl;rw[aw,Xr]at uP;rw[Xr]at hb;rw[fU];refine⟨zQ l n (~~~(.str (nm j))) (~~~(.str (nm i))) Ob,zQ l n (~~~(.str (nm j))) (~~~(.str (nm i))) (Ob++rowsOf n i j),rfl,?_,⟨_,rfl⟩⟩;have Kf:bk (bk (aX 9) (aX 15)) ⇑1 (zQ l n (~~~(.str (nm j))) (~~~(.str (nm i))) Ob)= ~~~(.fF (fl (Mine.hi (n i)))):=
      cA (cA (f:=aX 9) (g:=aX 15) rfl rfl (gi _ (λk=>jO (n k)) hi)) rfl (mL _ [.fF (fl (lo (n i))),.fF (fl (Mine.hi (n i))),PV.bool true] 1 ∅ rfl)
     have ht0:bk (bk (aX 9) (ak 1)) ⇑0 (zQ l n (~~~(.str (nm j))) (~~~(.str (nm i))) Ob)= ~~~(.fF (fl (lo (n j)))):=
      cA (cA (f:=aX 9) (g:=ak 1) rfl rfl (gi _ (λk=>jO (n k)) hj)) rfl (mL _ [.fF (fl (lo (n j))),.fF (fl (Mine.hi (n j))),PV.bool true] 0 ∅ rfl)
     have hc:bY .Lt (bk (bk (aX 9) (aX 15)) ⇑1) (bk (bk (aX 9) (ak 1)) ⇑0) (zQ l n (~~~(.str (nm j))) (~~~(.str (nm i))) Ob)=aa (rel n i j):=by unfold bY u7;rw[Kf,ht0];show aa (dK (fl (Mine.hi (n i))) (fl (lo (n j)))==aa nc)=_;rw[afR (W2 _) (bI (BM _) (W2 _))];rfl
     cases hr:rel n i j with
     |false=>
      have e:jz (bY .Lt (bk (bk (aX 9) (aX 15)) ⇑1) (bk (bk (aX 9) (ak 1)) ⇑0)) (aC (eJ (aX 8) (au (eQ "str" gS (ak 1) aZ) (au (aX 15) aZ))) (aC (eJ (aX 8) (au (ba .Add (aX 15) (eQ "str" gS (aX 15) aZ)) (au (ak 1) aZ))) br)) br (zQ l n (~~~(.str (nm j))) (~~~(.str (nm i))) Ob)=aa (.next,zQ l n (~~~(.str (nm j))) (~~~(.str (nm i))) Ob):=by unfold jz;rw[hc,hr];rfl
      rw[aU e];unfold rowsOf;rw[hr,if_neg bF,bu];rfl
     |true=>
      have a1:eJ (aX 8) (au (eQ "str" gS (ak 1) aZ) (au (aX 15) aZ)) (zQ l n (~~~(.str (nm j))) (~~~(.str (nm i))) Ob)=aa (.next,zQ l n (~~~(.str (nm j))) (~~~(.str (nm i))) (Ob++[(up j,nm i)])):=
       Fh (v:= .inst 0) (h:=2) rfl rfl (bA (vN hj6 rfl) rfl) (i9 hj6).2.1 (i9 hi6).1 (by rw[jP];decide) (ach uP hb)
      have a2:eJ (aX 8) (au (ba .Add (aX 15) (eQ "str" gS (aX 15) aZ)) (au (ak 1) aZ)) (zQ l n (~~~(.str (nm j))) (~~~(.str (nm i))) (Ob++[(up j,nm i)]))=aa (.next,zQ l n (~~~(.str (nm j))) (~~~(.str (nm i))) (Ob++[(up j,nm i)]++[(nm i++up i,nm j)])):=
       Fh (v:= .inst 0) (h:=2) rfl rfl (bA (dq (a:= .pv (.str (nm i))) (f:=aX 15) rfl (vN hi6 rfl) (kg _ _ _ (by rw[jP,Ju];decide))) rfl) (i9 hi6).2.2 (i9 hj6).1 (by rw[jP];decide) (by rw[aj,be];exact aci uP hb)
      have e:jz (bY .Lt (bk (bk (aX 9) (aX 15)) ⇑1) (bk (bk (aX 9) (ak 1)) ⇑0)) (aC (eJ (aX 8) (au (eQ "str" gS (ak 1) aZ) (au (aX 15) aZ))) (aC (eJ (aX 8) (au (ba .Add (aX 15) (eQ "str" gS (aX 15) aZ)) (au (ak 1) aZ))) br)) br (zQ l n (~~~(.str (nm j))) (~~~(.str (nm i))) Ob)=aa (.next,zQ l n (~~~(.str (nm j))) (~~~(.str (nm i))) (Ob++[(up j,nm i)]++[(nm i++up i,nm j)])):=by unfold jz;rw[hc,hr];show aC _ (aC _ br) _=_;rw[aU a1,aU a2];rfl
      rw[aU e];unfold rowsOf;rw[hr,if_pos rfl,bE];rfl)
   refine⟨zQ l n y (~~~(.str (nm i))) (rs++L6.flatMap λj=>rowsOf n i j),rfl,?_,⟨_,_,by rw[fU]⟩⟩;have e':mH (jx (aX 12)) (bf 1) (aC (jz (bY .Lt (bk (bk (aX 9) (aX 15)) ⇑1) (bk (bk (aX 9) (ak 1)) ⇑0)) (aC (eJ (aX 8) (au (eQ "str" gS (ak 1) aZ) (au (aX 15) aZ))) (aC (eJ (aX 8) (au (ba .Add (aX 15) (eQ "str" gS (aX 15) aZ)) (au (ak 1) aZ))) br)) br) br) (zQ l n y0 (~~~(.str (nm i))) rs)=aa (.next,zQ l n y (~~~(.str (nm i))) (rs++L6.flatMap λj=>rowsOf n i j)):=by erw [jW (qD (zQ l n y0 (~~~(.str (nm i))) rs) (λk=>cE (n k)) rfl),e,iP];simp only[fU]
   rw[aU e'];rfl)
 refine⟨y,x,?_⟩;rw[e,gf,iP];simp only[fU];rfl
def uz (J:St->Prop) (F:Nat->PV) (hit:it st=aa (L6.map λi=> .str (nm i))) (h0:J (cl.st st))
  (hs:∀i,i<6->∀st,J st->∃st1,tg (.pv (.str (nm i))) st=aa st1/\J st1/\f st1= ~~~(.str (nm i))/\g st1= ~~~(F i)):lw cl it (dN tg fG (ta f g)) st= ~~~(cq F):=by
 erw [uu J (λx=>match x with| .str s=>s|_=>nm 0) (λx=>F (iY x)) hit ∅ (by rw[bC];exact Hm lg) h0 ?_]
 ·rw[bC];unfold cq;congr 4;funext k;show(nm k,F (iY (.str (nm k))))=_;rw[fU]
 ·intro x hx st hJ;let ⟨i,hi,rfl⟩:=aQ.mp hx;rw[fU];exact hs i (fY.mp hi) st hJ
def xN (J:St->Prop) (p:Nat->Bool) (F:Nat->PV) (hit:it st=aa (L6.map λi=> .str (nm i))) (h0:J (cl.st st))
  (hs:∀i,i<6->∀st,J st->∃st1,tg (.pv (.str (nm i))) st=aa st1/\test st1=aa (p i)/\J st1/\(p i=true->f st1= ~~~(F i))):ei cl it (dN tg test (gO f)) st= ~~~(.lst ((L6.filter p).map F)):=by
 erw [lc J (λx=>p (iY x)) (λx=>F (iY x)) hit ∅ h0 ?_]
 ·have e:(λx=>F (iY x)) ∘ (λi=>PV.str (nm i))=F:=by funext k;show F (iY (.str (nm k)))=_;rw[fU]
  rw[dF,bC,e,(by funext k;show p (iY (.str (nm k)))=_;rw[fU]:((λy=>p (iY y)) ∘ λi=>PV.str (nm i))=p)]
 ·intro x hx st hJ;let ⟨i,hi,rfl⟩:=aQ.mp hx;rw[fU];exact hs i (fY.mp hi) st hJ
def yC (J:St->Prop) (p2:Nat->Nat->Bool) (F:Nat->Nat->PV) (hit:it st=aa (L6.map λi=> .str (nm i))) (h0:J (cl.st st))
  (hs:∀i,i<6->∀st,J st->∃st1,tg (.pv (.str (nm i))) st=aa st1/\test st1=aa true/\J st1/\it2 st1=aa (L6.map λi=> .str (nm i))/\
   ∃J2:St->Prop,J2 st1/\(∀st,J2 st->J st)/\∀j,j<6->∀st,J2 st->∃st2,tg2 (.pv (.str (nm j))) st=aa st2/\Ec st2=aa (p2 i j)/\J2 st2/\(p2 i j=true->f st2= ~~~(F i j))):
  ei cl it (dN tg test (IA it2 (dN tg2 Ec (gO f)))) st= ~~~(.lst (L6.flatMap λi=>(L6.filter (p2 i)).map (F i))):=by
 erw [ut J (λq=>true) (λq=>L6.map λi=> .str (nm i)) (λx y=>p2 (iY x) (iY y)) (λx y=>F (iY x) (iY y)) hit ∅ (λq q=>by decide) h0 ?_]
 ·rw[bL.mpr (λq q=>rfl),iP];simp only[dF,bC,fU];simp only[(λi=>by funext k;show F i (iY (.str (nm k)))=_;rw[fU]:∀i,(λx=>F i (iY x)) ∘ (λi=>PV.str (nm i))=F i),(λi=>by funext k;show p2 i (iY (.str (nm k)))=_;rw[fU]:∀i,((λy=>p2 i (iY y)) ∘ λi=>PV.str (nm i))=p2 i)]
 ·intro x hx st hJ;left;let ⟨i,hi,rfl⟩:=aQ.mp hx;let ⟨st1,a,b,c,d,J2,j0,jj,h2⟩:=hs i (fY.mp hi) st hJ;right;refine⟨st1,a,b,c,λq=>⟨d,J2,j0,jj,λy hy st hJ2=> ?_⟩⟩;let ⟨j,hj,rfl⟩:=aQ.mp hy;rw[fU,fU];exact h2 j (fY.mp hj) st hJ2
def eR {l:List α}:(∀x∈l,f x=g x)->l.flatMap f=l.flatMap g:=by
 induction l with
 |nil=>intro _;exact rfl
 |cons a l ih=>intro h;rw[bJ,bJ,h a ay,ih λx hx=>h x (aK _ hx)]
def zl {α β:Type} (p:α->Bool) (f:α->β):∀l:List α,(l.flatMap λk=>if p k then [f k] else [])=(l.filter p).map f:=by
 intro l9;induction l9 with
 |nil=>exact rfl
 |cons a l ih=>
  rw[bJ,ih];cases h:p a with
  |true=>rw[eo h];rfl
  |false=>rw[eu (h▸bF)];rfl
def zo (hi:i<6) (X:Nat->List β):(L6.flatMap λj=>if j=i then X j else [])=X i:=by refine Ta hi ?_ ?_ ?_ ?_ ?_ ?_<;>exact bu _
def ii (n:NN) (i:Nat):List Nat:=L6.filter λk=>rel n k i
def kz (n:NN) (i:Nat):List Nat:=L6.filter λj=>rel n i j
def fL (l:Nz):PV:= .lst (l.map λi=> .str (nm i))
def gj (h:i<6):cM (nm i)=nm i/\cM (up i)=nm i/\cM (nm i++up i)=nm i++nm i/\cM (up i++nm i)=nm i++nm i:=by refine Ta h ?_ ?_ ?_ ?_ ?_ ?_<;>exact⟨rfl,rfl,rfl,rfl⟩
def js {x:Str} (h: ↑x<=100):cw ↑x=false:=by unfold cw;exact decide_eq_false (acj rfl h)
def Fi (i j:Nat): ↑(nm i++nm j)=2:=rfl
def YH (i j:Nat):(nm i++nm i==nm j++nm j)=(i==j):=by rw[dr,beq_iff_eq,beq_iff_eq];refine⟨λh=> ?_,λh=>by rw[h]⟩;have:=congrArg (λs:Str=>s.cps.toList.headD 0) h;have e:∀i:Nat,(nm i++nm i).cps.toList.headD 0=97+i:=λi=>rfl;simp only[e]at this;simp_all
def QU (i j:Nat):(nm i==nm j++nm j)=false:=by rw[beq_eq_false_iff_ne];intro h;have:=congrArg Str.length h;rw[jP,Fi]at this;simp_all
def QV (i j:Nat):(nm i++nm i==nm j)=false:=by rw[beq_eq_false_iff_ne];intro h;have:=congrArg Str.length h;rw[jP,Fi]at this;simp_all
def Hq (h:r∈bV n):∃i j,i<6/\j<6/\(r=(up j,nm i)\/r=(nm i++up i,nm j)):=by
 unfold bV at h;left;let ⟨i,hi,h⟩:=iO.mp h;let ⟨j,hj,h⟩:=iO.mp h;right;refine⟨i,j,fY.mp hi,fY.mp hj,?_⟩;unfold rowsOf at h;split at h
 ·simpa using h
 ·nomatch h
def tK (h:r∈bV n):cw ↑(cM r.1)=false:=by
 obtain⟨i,j,hi,hj,rfl|rfl⟩:=Hq h
 ·rw[(gj hj).2.1];exact js (by rw[jP];decide)
 ·rw[(gj hi).2.2.1];exact js (by rw[Fi];decide)
def qo (n:NN): ↑(bV n)<=72:=by
 have this:∀i j,↑(rowsOf n i j)<=2:=λi j=>by unfold rowsOf;split<;>simp
 have h6:∀i,↑(L6.flatMap λj=>rowsOf n i j)<=12:=λi=>by rw[pH];have h0:=this i 0;have h1:=this i 1;have h2:=this i 2;have h3:=this i 3;have h4:=this i 4;have h5:=this i 5;simp[L6,lT];exact V9 h0 h1 h2 h3 h4 h5
 unfold bV;rw[pH];have h0:=h6 0;have h1:=h6 1;have h2:=h6 2;have h3:=h6 3;have h4:=h6 4;have h5:=h6 5;show(L6.map λi=> ↑(L6.flatMap λj=>rowsOf n i j)).sum<=72;rw[show(L6.map λi=> ↑(L6.flatMap λj=>rowsOf n i j)).sum= ↑(L6.flatMap λj=>rowsOf n 0 j)+(↑(L6.flatMap λj=>rowsOf n 1 j)+(↑(L6.flatMap λj=>rowsOf n 2 j)+(↑(L6.flatMap λj=>rowsOf n 3 j)+(↑(L6.flatMap λj=>rowsOf n 4 j)+(↑(L6.flatMap λj=>rowsOf n 5 j)+0))))) from rfl];exact ack h0 h1 h2 h3 h4 h5
def BN (n:NN) (hi:i<6):((bV n).filter λr=>cM r.1==nm i).map (λr=>PV.str r.2)=(ii n i).map λk=> .str (nm k):=by
 unfold bV ii;rw[lq,gy,<- zl];refine eR ?_;intro k hk;rw[lq,gy];have e:∀j∈L6,((rowsOf n k j).filter λr=>cM r.1==nm i).map (λr=>PV.str r.2)=if j=i then(if rel n k j then [PV.str (nm k)] else []) else []:=by
  intro j hj;unfold rowsOf;cases hr:rel n k j with
  |false=>simp
  |true=>
   simp only[if_true,bl,oZ,(gj (fY.mp hj)).2.1,(gj (fY.mp hk)).2.2.1,Jr,QV];by_cases Xm:j=i
   ·subst Xm;simp
   ·simp[Xm]
 rw[eR e,zo hi]
def Nq (n:NN) (hi:i<6):((bV n).filter λr=>cM r.1==nm i++nm i).map (λr=>PV.str r.2)=(kz n i).map λk=> .str (nm k):=by
 unfold bV kz;rw[lq,gy];have e0:∀k∈L6,((L6.flatMap λj=>rowsOf n k j).filter λr=>cM r.1==nm i++nm i).map (λr=>PV.str r.2)=if k=i then(L6.filter λj=>rel n k j).map (λj=>PV.str (nm j)) else []:=by
  intro k hk;rw[lq,gy];have e:∀j∈L6,((rowsOf n k j).filter λr=>cM r.1==nm i++nm i).map (λr=>PV.str r.2)=if k=i then(if rel n k j then [PV.str (nm j)] else []) else []:=by
   intro j hj;unfold rowsOf;cases hr:rel n k j with
   |false=>simp
   |true=>
    simp only[if_true,bl,oZ,(gj (fY.mp hj)).2.1,(gj (fY.mp hk)).2.2.1,YH,QU];by_cases Xm:k=i
    ·subst Xm;simp
    ·simp[Xm]
  rw[eR e];by_cases yc:k=i
  ·simp only[yc,if_true];exact zl _ _ _
  ·simp only[yc,if_false];simp
 rw[eR e0,zo hi]
def st9 (l:List Int) (n:NN) (y x:OV) (rs:SS):St:= {lv:=[~~~(.lst (l.map PV.int)),y,ac,ac,ac,ac,ac,ac,ac,ac,ac,ac,ac,ac,ac,ac,ac,ac],cv:=[ac,ac,ac,ac,ac,ac,~~~(cq λi=>fL (kz n i)),~~~(cq λi=>fL (ii n i)),aa (.inst 0),~~~(cq λk=>jO (n k)),~~~(cq λk=>g0 (dP (n k))),~~~jr,~~~(cq λk=>cE (n k)),~~~(.lst (ig λk=>(n k:Int))),~~~(.lst ((numsOf l).map PV.int)),x],ob:=hU (rs.map cW)}
def afT (l:List Int) (n:NN) (y x:OV):Ag (zQ l n y x (bV n))=aa (.next,st9 l n y x (bV n)):=by
 have hn:=qo n;have h1:lw Hg (jx (aX 12)) (dN (bf 0) fG (ta (ak 0) (mV (aX 0) (au (ak 0) aZ)))) (zQ l n y x (bV n))= ~~~(cq λi=>fL (ii n i)):=by refine uz (λst=>∃a,st=⟨[a],[aa (.inst 0)],hU ((bV n).map cW)⟩) _ (qD _ (λk=>cE (n k)) rfl) ⟨ac,rfl⟩ ?_;rintro i hi st ⟨a,rfl⟩;refine⟨⟨[~~~(.str (nm i))],[aa (.inst 0)],hU ((bV n).map cW)⟩,rfl,⟨_,rfl⟩,rfl,?_⟩;have hg:=vM (bV n) (x:=nm i) (by rw[(gj hi).1];exact(i9 hi).1) (by rw[(gj hi).1];exact js (by rw[jP];decide)) (λr hr=>tK hr) (Wa hn);rw[(gj hi).1,BN n hi]at hg;show((aa (2,(bV n).map cW)).bind λq=>(kq q.2 [.str (nm i)]).map λr=>CV.pv r.1)=_;rw[bK,hg];rfl
 have h2:lw Hh (jx (aX 12)) (dN (bf 0) fG (ta (ak 0) (mV (aX 0) (au (ba .Add (eQ "str" gS (ak 0) aZ) (ak 0)) aZ)))) (zQ l n y x (bV n))= ~~~(cq λi=>fL (kz n i)):=by
  refine uz (λst=>∃a,st=⟨[a],[aa (.inst 0)],hU ((bV n).map cW)⟩) _ (qD _ (λk=>cE (n k)) rfl) ⟨ac,rfl⟩ ?_;rintro i hi st ⟨a,rfl⟩;refine⟨⟨[~~~(.str (nm i))],[aa (.inst 0)],hU ((bV n).map cW)⟩,rfl,⟨_,rfl⟩,rfl,?_⟩;have So:Plain (nm i++nm i):=by refine Ta hi ?_ ?_ ?_ ?_ ?_ ?_<;>exact⟨so,so⟩
  have hg:=vM (bV n) (x:=up i++nm i) (by rw[(gj hi).2.2.2];exact So) (by rw[(gj hi).2.2.2];exact js (by rw[Fi];decide)) (λr hr=>tK hr) (Wa hn);rw[(gj hi).2.2.2,Nq n hi]at hg;have akU:au (ba .Add (eQ "str" gS (ak 0) aZ) (ak 0)) aZ ⟨[~~~(.str (nm i))],[aa (.inst 0)],hU ((bV n).map cW)⟩=aa [.pv (.str (up i++nm i))]:=
   bA (dq (vN hi rfl) (b:= .pv (.str (nm i))) rfl (kg _ _ _ (by rw[jP,Ju];decide))) rfl
  unfold mV;rw[akU];show((aa (2,(bV n).map cW)).bind λq=>(kq q.2 [.str (up i++nm i)]).map λr=>CV.pv r.1)=_;rw[bK,hg];rfl
 unfold Ag GI jh k9;rw[h1];simp only[Az,bK];rw[h2];rfl
def Jv (hp:∀m,m<t->p m=true) (hq:∀m,t<=m->m<N->p m=false):∀(n lo hi:Nat) (mm:Option AV),hi- lo<=n->lo<=t->t<=hi->hi<=N->(o8 p n lo hi mm).1=t:=by
 intro l9;induction l9 with
 |zero=>intro lo hi mm h1 h2 h3 _;show lo=t;exact acl h2 h3 h1
 |succ n ih=>
  intro lo hi mm h1 h2 h3 h4;rw[Es];by_cases h:lo<hi
  ·rw[if_pos h];by_cases hm:(lo+hi)/2<t
   ·rw[hp _ hm,if_pos rfl];exact ih _ hi _ (KZ h1 h) (acm hm) h3 h4
   ·rw[hq _ (Wb hm) (IM h h4),if_neg bF];exact ih lo _ _ (K0 h1 h) h2 (Wb hm) (aaM h h4)
  ·rw[if_neg h];show lo=t;exact acn h2 h3 h
def xO {ns:List Int}:ns.Pairwise (· <= ·)->(∀a b,a<=b->q b=true->q a=true)->
  (∀m,m< ↑ns->(q (ns.getD m 0)=true↔m< ↑(ns.filter q)))/\ns.take ↑(ns.filter q)=ns.filter q/\ns.drop ↑(ns.filter q)=ns.filter (λa=> !q a):=by
 induction ns with
 |nil=>intro _ _;exact⟨λm h=>by simp at h,rfl,rfl⟩
 |cons a ns ih=>
  intro hs hq;left;let ⟨h1,h2⟩:=ef.mp hs;let ⟨i1,i2,i3⟩:=ih h2 hq;right;cases ha:q a with
  |true=>
   rw[eo ha,eu (by rw[ha];decide)];refine⟨λm hm=> ?_,by rw[az,List.take_succ_cons,i2],by rw[az,List.drop_succ_cons,i3]⟩;induction m with
   |zero=>simp[ha]
   |succ m=>rw[az]at hm;simpa using i1 m (fQ ‹_›)
  |false=>
   have CZ:∀b∈ns,q b=false:=λb hb=>by
    cases uP:q b with
    |false=>rfl
    |true=>rw[hq a b (h1 b hb) uP]at ha;nomatch ha
   rw[eu (by rw[ha];decide),eo (by rw[ha];rfl),(cK.mpr λb hb=>by rw[CZ b hb];decide),(bL.mpr λb hb=>by rw[CZ b hb];rfl)];refine⟨λm hm=>⟨λh=> ?_,λh=>by simp at h⟩,rfl,rfl⟩;induction m with
   |zero=>simp[ha]at h
   |succ m=>rw[az]at hm;rw[List.getD_cons_succ]at h;have:=CZ (ns.getD m 0) (by rw[qw,aq (fQ ‹_›)];exact AB _);rw[this]at h;nomatch h
noncomputable def below (right:Bool) (x y:Int):Bool:=if right then decide (y<=x) else decide (y<x)
def below_1 (h:y<=x):below true x y=true:=decide_eq_true h
def below_2 (h:x<y):below true x y=false:=decide_eq_false (S1.mpr h)
def below_3 (h:y<x):below false x y=true:=decide_eq_true h
def below_4 (h:x<=y):below false x y=false:=decide_eq_false (nT.mpr h)
def vO (Mc:a<=b) (h:below right x b=true):below right x a=true:=by
 induction right with
 |true=>exact decide_eq_true (ec Mc (of_decide_eq_true h))
 |false=>exact decide_eq_true (qK Mc (of_decide_eq_true h))
def oG (right:Bool) (hs:ns.Pairwise (· <= ·)) (x:Int):my right ns x 0 ac= ↑(ns.filter (below right x)):=by
 let ⟨i1,_,_⟩:=xO (q:=below right x) hs λa b=>vO;have wb: ↑(ns.filter (below right x))<= ↑ns:=eY ..;have e:∀m,Ye right ns x m=below right x (ns.getD m 0):=λm=>by
  unfold Ye below;cases right
  ·simp
  ·simp only[if_true];rw[<- decide_not];congr 1;exact propext nT
 unfold my;refine Jv (N:= ↑ns) (λm hm=> ?_) (λm h1 h2=> ?_) _ _ _ _ (by simp) (cI _) wb (ab _)
 ·rw[e];exact(i1 m (O5 hm wb)).mpr hm
 ·rw[e];cases h:below right x (ns.getD m 0)with
  |false=>rfl
  |true=>have:=(i1 m h2).mp h;exact(KL this h1).elim
def Fj (right:Bool) (hs:ns.Pairwise (· <= ·)) (x:Int):vd right ns x (.int x) (ns.map PV.int)=(ns.filter (below right x)++x::ns.filter (λy=> !below right x y)).map PV.int:=by let ⟨_,i2,i3⟩:=xO (q:=below right x) hs λa b=>vO;unfold vd uL;rw[oG right hs,<- List.map_take,<- List.map_drop,i2,i3,bH,bx]
noncomputable def bM (l:Nz):List PV:=l.map λc:Nat=>PV.int (c:Int)
def vP (l:Nz):bM l=(l.map λc:Nat=>(c:Int)).map PV.int:=by unfold bM;rw[bC];rfl
def vh (l:Nz):jN (bM l)=aa (l.map λc:Nat=>(c:Int)):=by rw[vP,pe]
def LO {l:Nz} (h:l.Pairwise (· <= ·)):(l.map λc:Nat=>(c:Int)).Pairwise (· <= ·):=gX _ (λa b Mc=>by exact AH Mc) h
def Nr (right:Bool) {l:Nz} (hs:l.Pairwise (· <= ·)) (x:Nat):my right (l.map λc:Nat=>(c:Int)) (x:Int) 0 ac= ↑(l.filter λy=>if right then decide (y<=x) else decide (y<x)):=by rw[oG right (LO hs),dF,aw];congr 2;funext y;show below right (x:Int) (y:Int)=_;unfold below;cases right<;>simp
def Nt (right:Bool) (hs:l.Pairwise (· <= ·)) (x:Nat):vd right (l.map λc:Nat=>(c:Int)) (x:Int) (.int (x:Int)) (bM l)=bM (l.filter (λy=>if right then decide (y<=x) else decide (y<x))++x::l.filter (λy=> !(if right then decide (y<=x) else decide (y<x)))):=by
 rw[vP,Fj right (LO hs),dF,dF,vP];have e:(below right (x:Int)) ∘ (λc:Nat=>(c:Int))=λy=>if right then decide (y<=x) else decide (y<x):=by funext y;show below right (x:Int) (y:Int)=_;unfold below;cases right<;>simp
 have e2:(λy=> !below right (x:Int) y) ∘ (λc:Nat=>(c:Int))=λy=> !(if right then decide (y<=x) else decide (y<x)):=by funext y;have:=congrFun e y;show(!below right (x:Int) (y:Int))=_;rw[show below right (x:Int) (y:Int)=_ from this]
 rw[e,e2];simp only[bH,bx]
def Al (right:Bool) (h1:f st=aa a) (h2:g st= ~~~(.int (x:Int))) (h3:st.ow a=aa (bM r)) (hs:r.Pairwise (· <= ·)) (hl: ↑r<1000):
  qC right f g st= ~~~(.int (↑(r.filter λy=>if right then decide (y<=x) else decide (y<x)):Nat)):=by
 unfold qC;rw[h1,h2];show(st.ow a).bind _=_;rw[h3];show(jN _).bind _=_;rw[vh];show(if _ then _ else _)=_;rw[if_pos (by rw[aw];exact hl),Nr right hs]
def LP (right:Bool) {r:Nz} (h1:f st=aa (.ob j)) (h2:g st= ~~~(.int (x:Int))) (h3:st.ob[j]? =aa (.list (bM r))) (hs:r.Pairwise (· <= ·)) (hl: ↑r<1000):
  zL right f g st=aa (.next,qR j (.list (bM (r.filter (λy=>if right then decide (y<=x) else decide (y<x))++x::r.filter (λy=> !(if right then decide (y<=x) else decide (y<x)))))) st):=by
 unfold zL;rw[h1,h2];show(S5 st.ob[j]?).bind _=_;rw[h3];show(jN _).bind _=_;rw[vh];show(if _ then _ else _)=_;rw[if_pos (by rw[aw];exact hl),Nt right hs]
def DH {l:Nz} (h:l.Pairwise (· < ·)):l.Pairwise (· <= ·):=h.imp λh=>ce h
def CR {l:Nz} (hs:l.Pairwise (· < ·)) (x:Nat):(↑(l.filter λy=>decide (y<x))= ↑(l.filter λy=>decide (y<=x)))↔x∉l:=by
 induction l with
 |nil=>simp
 |cons a l ih=>
  let ⟨h1,h2⟩:=ef.mp hs;have ih:=ih h2;rcases eH a x with h|h|h
  ·rw[eo (by simpa using h),eo (by simpa using ce h),az,az];simp only[aH,not_or];constructor
   ·intro e;exact⟨by exact aco h,ih.mp (acp e)⟩
   ·intro e;have:=ih.mpr e.2;exact acq this
  ·subst h;rw[eu (by simp),eo (by simp),az];rw[(cK.mpr λb hb=>by have:=h1 b hb;simp;exact KO this)];simp
  ·rw[eu (by simp;exact KO h),eu (by simp;exact acr h)];simp only[aH,not_or];constructor
   ·intro e;exact⟨by exact Wc h,ih.mp e⟩
   ·intro e;exact ih.mpr e.2
def rd (p:α->Bool):∀l:List α,↑(l.filter p)+ ↑(l.filter λa=> !p a)= ↑l:=by
 intro l9;induction l9 with
 |nil=>exact rfl
 |cons a l ih=>
  have ih:=ih;cases h:p a with
  |true=>rw[eo h,eu (by rw[h];decide),az,az,yU,ih]
  |false=>rw[eu (by rw[h];decide),eo (by rw[h];rfl),az,az,<- ih];rfl
noncomputable def nO (r:Nz) (c:Nat):List Nat:=if c∈r then r else r.filter (λy=>decide (y<c))++c::r.filter (λy=> !decide (y<c))
def DI (hs:r.Pairwise (· < ·)) (c:Nat):(nO r c).Pairwise (· < ·)/\∀v,v∈nO r c↔v=c\/v∈r:=by
 unfold nO;by_cases h:c∈r
 ·rw[if_pos h];exact⟨hs,λv=>⟨λe=> .inr e,λe=>by rcases e with rfl|e;exact h;exact e⟩⟩
 ·rw[if_neg h];refine⟨?_,λv=> ?_⟩
  ·rw[ib];refine⟨hs.filter _,?_,?_⟩
   ·rw[ef];refine⟨λb hb=> ?_,hs.filter _⟩;left;let ⟨OE,Mf⟩:=aY.mp hb;right;simp at Mf;have:b≠c:=λe=>h (e▸OE);exact acs Mf this
   ·intro a ha b hb;let ⟨ha1,Zx⟩:=aY.mp ha;simp at Zx;rcases aH.mp hb with rfl|hb
    ·exact Zx
    ·let ⟨OE,Mf⟩:=aY.mp hb;simp at Mf;exact O5 Zx Mf
  ·simp only[cb,aH,aY,decide_eq_true_eq,jk,decide_eq_false_iff_not];constructor
   ·rintro(⟨a,_⟩|rfl|⟨a,_⟩)
    ·exact .inr a
    ·exact .inl rfl
    ·exact .inr a
   ·rintro(rfl|a)
    ·exact .inr (.inl rfl)
    ·rcases bS v c with h'|h'
     ·exact .inl ⟨a,h'⟩
     ·exact .inr (.inr ⟨a,by exact V6 h'⟩)
def Hr (cs:Nz):∀(r:Nz),r.Pairwise (· < ·)->(cs.foldl nO r).Pairwise (· < ·)/\∀v,v∈cs.foldl nO r↔v∈cs\/v∈r:=by
 induction cs with
 |nil=>intro r h;exact⟨h,λv=>by simp⟩
 |cons c cs ih=>
  intro r h;let ⟨h1,h2⟩:=DI h c;let ⟨h3,h4⟩:=ih (nO r c) h1;refine⟨h3,λv=> ?_⟩;rw[jf,h4 v,h2 v,aH];constructor
  ·rintro(a|a|a)
   ·exact .inl (.inr a)
   ·exact .inl (.inl a)
   ·exact .inr a
  ·rintro((a|a)|a)
   ·exact .inr (.inl a)
   ·exact .inl a
   ·exact .inr (.inr a)
def Hs (r:Nz) (c:Nat): ↑(nO r c)<= ↑r+1:=by
 unfold nO;split
 ·exact Gg
 ·rw[aj,az];have:=rd (λy=>decide (y<c)) r;exact acu this
def CS (cs:Nz) (hl: ↑cs<=100):lb [.lst (bM cs)]=aa (.lst (bM (cs.foldl nO []))):=by
 let s0:St:=⟨[~~~(.lst (bM cs)),ac,ac],[],[]⟩;have SN:∃a,mH (jx (ak 0)) (bf 2) (aC (jz (bY .Eq (qC false (ak 1) (ak 2)) (qC true (ak 1) (ak 2))) (aC (zL false (ak 1) (ak 2)) br) br) br) ⟨[~~~(.lst (bM cs)),aa (.ob 0),ac],[],[.list []]⟩=aa (.next,⟨[~~~(.lst (bM cs)),aa (.ob 0),a],[],[.list (bM (cs.foldl nO []))]⟩):=by
  have key:∀(ds r:Nz) (a:OV),r.Pairwise (· < ·)-> ↑r+ ↑ds<=500->∃a',lM (bf 2) (aC (jz (bY .Eq (qC false (ak 1) (ak 2)) (qC true (ak 1) (ak 2))) (aC (zL false (ak 1) (ak 2)) br) br) br) (bM ds) ⟨[~~~(.lst (bM cs)),aa (.ob 0),a],[],[.list (bM r)]⟩=aa (.next,⟨[~~~(.lst (bM cs)),aa (.ob 0),a'],[],[.list (bM (ds.foldl nO r))]⟩):=by
   intro ds;induction ds with
   |nil=>intro r a _ _;exact⟨a,rfl⟩
   |cons d ds ih=>
    intro r a hr cH;rw[az]at cH;let ⟨a',e⟩:=ih (nO r d) (~~~(.int (d:Int))) (DI hr d).1 (acv (Hs r d) cH);refine⟨a',?_⟩;let s1:St:=⟨[~~~(.lst (bM cs)),aa (.ob 0),~~~(.int (d:Int))],[],[.list (bM r)]⟩;have hb:∀right,qC right (ak 1) (ak 2) s1= ~~~(.int (↑(r.filter λy=>if right then decide (y<=d) else decide (y<d)):Nat)):=λright=>Al right (a:= .ob 0) rfl rfl rfl (DH hr) (Wd cH);have hc:bY .Eq (qC false (ak 1) (ak 2)) (qC true (ak 1) (ak 2)) s1=aa (decide (d∉r)):=by unfold bY u7;rw[hb,hb];show aa (((↑(r.filter λy=>decide (y<d)):Nat):Int)==((↑(r.filter λy=>decide (y<=d)):Nat):Int))=_;congr 1;rw[dr,beq_iff_eq,decide_eq_true_iff,<- CR hr d];exact O6
    have dY:aC (jz (bY .Eq (qC false (ak 1) (ak 2)) (qC true (ak 1) (ak 2))) (aC (zL false (ak 1) (ak 2)) br) br) br s1=aa (.next,⟨[~~~(.lst (bM cs)),aa (.ob 0),~~~(.int (d:Int))],[],[.list (bM (nO r d))]⟩):=by
     have e:jz (bY .Eq (qC false (ak 1) (ak 2)) (qC true (ak 1) (ak 2))) (aC (zL false (ak 1) (ak 2)) br) br s1=aa (.next,⟨[~~~(.lst (bM cs)),aa (.ob 0),~~~(.int (d:Int))],[],[.list (bM (nO r d))]⟩):=by
      unfold jz;rw[hc];by_cases hd:d∈r
      ·rw[decide_eq_false (by simpa using hd)];unfold nO;rw[if_pos hd];rfl
      ·rw[decide_eq_true hd];show aC (zL false (ak 1) (ak 2)) br s1=_;rw[aU (LP false (f:=ak 1) (g:=ak 2) (st:=s1) (j:=0) (x:=d) (r:=r) rfl rfl rfl (DH hr) (Wd cH))];unfold nO;rw[if_neg hd];rfl
     rw[aU e];rfl
    show lM _ _ (PV.int (d:Int)::bM ds) _=_;rw[iD (st1:=s1) rfl dY,jf];exact e
  let ⟨a,e⟩:=key cs [] ac gW (by simp;exact acw hl);exact⟨a,by rw[jW (xs:=bM cs) rfl];exact e⟩
 let ⟨a,SN⟩:=SN;have eF:la s0=aa (.ret (.ob 0),⟨[~~~(.lst (bM cs)),aa (.ob 0),a],[],[.list (bM (cs.foldl nO []))]⟩):=by unfold la;rw[aU (st1:=⟨[~~~(.lst (bM cs)),aa (.ob 0),ac],[],[.list []]⟩) rfl,aU SN];rfl
 show(la s0).bind (λr=>GG r.2 r.1)=_;rw[eF];rfl
def uN (n:NN) (i:Nat):Nat:= ↑(ii n i)
def oN (n:NN) (i:Nat):Nat:= ↑(kz n i)
def lz (n:NN):List Nat:=(L6.map (uN n)).foldl nO []
def rf (n:NN):List Nat:=(L6.map (oN n)).foldl nO []
def bg (n:NN) (i:Nat):Nat:= ↑((lz n).filter λy=>decide (y<uN n i))
def Cy (n:NN) (i:Nat):Int:=(↑(rf n):Int)- (↑((rf n).filter λy=>decide (y<=oN n i)):Nat)
def jQ (n:NN):List Str:=L6.flatMap λi=>(L6.filter (rel n i)).map λj=>nm i++nm j
def g4 (n:NN):PV:= .lst ((jQ n).map PV.str)
def mM (n:NN):PV:= .lst [.lst (bM (lz n)),.lst (bM (rf n))]
def rg (n:NN):(lz n).Pairwise (· < ·)/\∀v,v∈lz n↔∃i,i<6/\uN n i=v:=by let ⟨h1,h2⟩:=Hr (L6.map (uN n)) [] gW;refine⟨h1,λv=> ?_⟩;rw[show v∈lz n↔_ from h2 v];simp[aQ,fY]
def yD (n:NN):(rf n).Pairwise (· < ·)/\∀v,v∈rf n↔∃i,i<6/\oN n i=v:=by let ⟨h1,h2⟩:=Hr (L6.map (oN n)) [] gW;refine⟨h1,λv=> ?_⟩;rw[show v∈rf n↔_ from h2 v];simp[aQ,fY]
def LQ (cs:Nz):∀(r:Nz),↑(cs.foldl nO r)<= ↑r+ ↑cs:=by
 induction cs with
 |nil=>intro r;simp
 |cons c cs ih=>intro r;rw[jf,az];exact acx (ih (nO r c)) (Hs r c)
def xP (n:NN): ↑(lz n)<=6:=by have:=LQ (L6.map (uN n)) [];rw[aw]at this;exact this
def QW (n:NN): ↑(rf n)<=6:=by have:=LQ (L6.map (oN n)) [];rw[aw]at this;exact this
def tL (st:St) (l:List PV) (h: ↑l<=10000):km st [.pv (.lst l)]= ~~~(.int (↑l:Nat)):=by show((aa l).bind λl=>if ↑l<=sizeLine then aa (CV.pv (.int ↑l)) else ac)=_;rw[bK,if_pos (KP h rfl)]
def jK (p:Nat->Bool): ↑(L6.filter p)<=6:=eY p L6
def afU (l:List Int) (n:NN) (y x:OV) (rs:SS):St:= {lv:=[~~~(.lst (l.map PV.int)),y,ac,ac,ac,ac,ac,ac,ac,ac,ac,ac,ac,ac,ac,ac,ac,ac],cv:=[ac,ac,ac,ac,ac,~~~(mM n),~~~(cq λi=>fL (kz n i)),~~~(cq λi=>fL (ii n i)),aa (.inst 0),~~~(cq λk=>jO (n k)),~~~(cq λk=>g0 (dP (n k))),~~~jr,~~~(cq λk=>cE (n k)),~~~(.lst (ig λk=>(n k:Int))),~~~(.lst ((numsOf l).map PV.int)),x],ob:=hU (rs.map cW)}
def afV (l:List Int) (n:NN) (y x:OV) (rs:SS):St:= {lv:=[~~~(.lst (l.map PV.int)),y,ac,ac,ac,ac,ac,ac,ac,ac,ac,ac,ac,ac,ac,ac,ac,ac],cv:=[~~~(cq λi=> .int (bg n i:Nat)),ac,ac,ac,ac,~~~(mM n),~~~(cq λi=>fL (kz n i)),~~~(cq λi=>fL (ii n i)),aa (.inst 0),~~~(cq λk=>jO (n k)),~~~(cq λk=>g0 (dP (n k))),~~~jr,~~~(cq λk=>cE (n k)),~~~(.lst (ig λk=>(n k:Int))),~~~(.lst ((numsOf l).map PV.int)),x],ob:=hU (rs.map cW)}
def afW (l:List Int) (n:NN) (y x:OV) (rs:SS):St:= {lv:=[~~~(.lst (l.map PV.int)),y,ac,ac,ac,ac,ac,ac,ac,ac,ac,ac,ac,ac,ac,ac,ac,ac],cv:=[~~~(cq λi=> .int (bg n i:Nat)),ac,ac,ac,~~~(cq λi=> .int (Cy n i)),~~~(mM n),~~~(cq λi=>fL (kz n i)),~~~(cq λi=>fL (ii n i)),aa (.inst 0),~~~(cq λk=>jO (n k)),~~~(cq λk=>g0 (dP (n k))),~~~jr,~~~(cq λk=>cE (n k)),~~~(.lst (ig λk=>(n k:Int))),~~~(.lst ((numsOf l).map PV.int)),x],ob:=hU (rs.map cW)}
def UT (l:List Int) (n:NN) (y x:OV) (rs:SS):St:= {lv:=[~~~(.lst (l.map PV.int)),y,ac,ac,ac,ac,ac,ac,ac,ac,ac,ac,ac,ac,ac,ac,ac,ac],cv:=[~~~(cq λi=> .int (bg n i:Nat)),ac,ac,~~~(g4 n),~~~(cq λi=> .int (Cy n i)),~~~(mM n),~~~(cq λi=>fL (kz n i)),~~~(cq λi=>fL (ii n i)),aa (.inst 0),~~~(cq λk=>jO (n k)),~~~(cq λk=>g0 (dP (n k))),~~~jr,~~~(cq λk=>cE (n k)),~~~(.lst (ig λk=>(n k:Int))),~~~(.lst ((numsOf l).map PV.int)),x],ob:=hU (rs.map cW)}
def afX (l:List Int) (n:NN) (y x:OV) (rs:SS):Ah (st9 l n y x rs)=aa (.next,afU l n y x rs):=by
 have inner:∀(W:Nat->List Nat),(∀i,↑(W i)<=6)->ei xo (jx (aX 1)) (dN (bf 0) fG (gO (dJ km (au (bk (aX 0) (ak 0)) aZ)))) ⟨[],[~~~(cq λi=>fL (W i)),~~~(cq λk=>cE (n k))],hU (rs.map cW)⟩= ~~~(.lst (bM (L6.map λi=> ↑(W i)))):=by
  intro W hW;erw [xN (λst=>∃a,st=⟨[a],[~~~(cq λi=>fL (W i))],hU (rs.map cW)⟩) (λq=>true) (λi=> .int (↑(W i):Nat)) (qD _ (λk=>cE (n k)) rfl) ⟨ac,rfl⟩ ?_]
  ·rw[bL.mpr (λq q=>rfl)];unfold bM;rw[bC];rfl
  ·rintro i hi st ⟨a,rfl⟩;refine⟨⟨[~~~(.str (nm i))],[~~~(cq λi=>fL (W i))],hU (rs.map cW)⟩,rfl,rfl,⟨_,rfl⟩,λq=> ?_⟩;refine iJ (bA (cA rfl rfl (gi _ (λi=>fL (W i)) (fY.mpr hi))) rfl) ?_;have:=tL ⟨[~~~(.str (nm i))],[~~~(cq λi=>fL (W i))],hU (rs.map cW)⟩ ((W i).map λi=> .str (nm i)) (by rw[aw];have:=hW i;exact Dg this);rw[aw]at this;exact this
 unfold Ah bZ;have h:ei Hi (jx (jb (au (aX 7) (au (aX 6) aZ)))) (dN (jI 0) fG (gO (j9 lb (au (ei xo (jx (aX 1)) (dN (bf 0) fG (gO (dJ km (au (bk (aX 0) (ak 0)) aZ))))) aZ)))) (st9 l n y x rs)= ~~~(mM n):=by
  erw [lc (J:=λst=>∃a,st=⟨[],[a,~~~(cq λk=>cE (n k))],hU (rs.map cW)⟩) (p:=λq=>true) (xs:=[cq λi=>fL (ii n i),cq λi=>fL (kz n i)]) (g:=λx=>match x with| .oK l=> .lst (bM ((l.map λp=>match p.2 with| .lst m=> ↑m|_=>0).foldl nO []))|x=>x) ?_ (by show 2<50000;decide) ⟨ac,rfl⟩ ?_]
  ·rw[bL.mpr (λq q=>rfl)];have e:∀W:Nat->List Nat,((L6.map λi=>(nm i,fL (W i))).map λp=>match p.2 with| .lst m=> ↑m|_=>0)=L6.map λi=> ↑(W i):=λW=>by rw[bC];apply cj;intro i _;show ↑((W i).map λi=>PV.str (nm i))=_;rw[aw]
   show aa (CV.pv (.lst [.lst (bM (((L6.map λi=>(nm i,fL (ii n i))).map λp=>match p.2 with| .lst m=> ↑m|_=>0).foldl nO [])),.lst (bM (((L6.map λi=>(nm i,fL (kz n i))).map λp=>match p.2 with| .lst m=> ↑m|_=>0).foldl nO []))]))=_;rw[e,e];rfl
  ·unfold jx;rw[qm (l:=[.pv (cq λi=>fL (ii n i)),.pv (cq λi=>fL (kz n i))]) rfl rfl (by simp)];rfl
  ·have step:∀(W:Nat->List Nat),(∀i,↑(W i)<=6)->∀a,∃st1,jI 0 (.pv (cq λi=>fL (W i))) ⟨[],[a,~~~(cq λk=>cE (n k))],hU (rs.map cW)⟩=aa st1/\fG st1=aa true/\(∃a,st1=⟨[],[a,~~~(cq λk=>cE (n k))],hU (rs.map cW)⟩)/\(true=true->j9 lb (au (ei xo (jx (aX 1)) (dN (bf 0) fG (gO (dJ km (au (bk (aX 0) (ak 0)) aZ))))) aZ) st1= ~~~(.lst (bM (((L6.map λi=>(nm i,fL (W i))).map λp=>match p.2 with| .lst m=> ↑m|_=>0).foldl nO [])))):=by
    intro W hW a;refine⟨⟨[],[~~~(cq λi=>fL (W i)),~~~(cq λk=>cE (n k))],hU (rs.map cW)⟩,rfl,rfl,⟨_,rfl⟩,λq=> ?_⟩;have e:((L6.map λi=>(nm i,fL (W i))).map λp=>match p.2 with| .lst m=> ↑m|_=>0)=L6.map λi=> ↑(W i):=by rw[bC];apply cj;intro i _;show ↑((W i).map λi=>PV.str (nm i))=_;rw[aw]
    rw[e];exact mW (bA (inner W hW) rfl) rfl (CS _ (by simp[L6]))
   rintro x hx st ⟨a,rfl⟩;rcases aH.mp hx with rfl|hx
   ·exact step _ (λi=>jK _) a
   ·rcases aH.mp hx with rfl|hx
    ·exact step _ (λi=>jK _) a
    ·nomatch hx
 rw[h];rfl
def LR (st:St) (W:Nat->List Nat) (hW:∀i,↑(W i)<=6) (hi:i<6) (h1:f st= ~~~(cq λi=>fL (W i))) (h2:g st= ~~~(.str (nm i))):dJ km (au (bk f g) aZ) st= ~~~(.int (↑(W i):Nat)):=by refine iJ (bA (cA h1 h2 (gi _ (λi=>fL (W i)) (fY.mpr hi))) rfl) ?_;have:=tL st ((W i).map λi=> .str (nm i)) (by rw[aw];have:=hW i;exact Dg this);rw[aw]at this;exact this
def afY (l:List Int) (n:NN) (y x:OV) (rs:SS):Ai (afU l n y x rs)=aa (.next,afV l n y x rs):=by
 unfold Ai bZ;erw [uz (λst=>∃a,st=⟨[a],[~~~(cq λi=>fL (ii n i)),~~~(mM n)],hU (rs.map cW)⟩) (λi=> .int (bg n i:Nat)) (qD _ (λk=>cE (n k)) rfl) ⟨ac,rfl⟩ ?_]
 ·rfl
 ·rintro i hi st ⟨a,rfl⟩;refine⟨⟨[~~~(.str (nm i))],[~~~(cq λi=>fL (ii n i)),~~~(mM n)],hU (rs.map cW)⟩,rfl,⟨_,rfl⟩,rfl,?_⟩;have:=xP n;exact Al false (a:= .pv (.lst (bM (lz n)))) (r:=lz n) (cA rfl rfl (kr _ [.lst (bM (lz n)),.lst (bM (rf n))] 0 ∅ rfl)) (LR _ (ii n) (λi=>jK _) hi rfl rfl) rfl (DH (rg n).1) (O7 this)
def YI (l:List Int) (n:NN) (y x:OV) (rs:SS):xq (afV l n y x rs)=aa (.next,afW l n y x rs):=by
 unfold xq bZ;erw [uz (λst=>∃a,st=⟨[a],[~~~(mM n),~~~(cq λi=>fL (kz n i))],hU (rs.map cW)⟩) (λi=> .int (Cy n i)) (qD _ (λk=>cE (n k)) rfl) ⟨ac,rfl⟩ ?_]
 ·rfl
 ·rintro i hi st ⟨a,rfl⟩;refine⟨⟨[~~~(.str (nm i))],[~~~(mM n),~~~(cq λi=>fL (kz n i))],hU (rs.map cW)⟩,rfl,⟨_,rfl⟩,rfl,?_⟩;have hl:=QW n;have hit:bk (aX 0) ⇑1 ⟨[~~~(.str (nm i))],[~~~(mM n),~~~(cq λi=>fL (kz n i))],hU (rs.map cW)⟩= ~~~(.lst (bM (rf n))):=cA rfl rfl (kr _ [.lst (bM (lz n)),.lst (bM (rf n))] 1 ∅ rfl);have cH:=tL ⟨[~~~(.str (nm i))],[~~~(mM n),~~~(cq λi=>fL (kz n i))],hU (rs.map cW)⟩ (bM (rf n)) (by unfold bM;rw[aw];exact Dg hl);rw[show ↑(bM (rf n))= ↑(rf n) by unfold bM;erw [aw]]at cH;exact dq (iJ (bA hit rfl) cH) (Al true (a:= .pv (.lst (bM (rf n)))) (r:=rf n) hit (LR _ (kz n) (λi=>jK _) hi (g:=ak 0) (f:=aX 1) rfl rfl) rfl (DH (yD n).1) (O7 hl)) rfl
def QX (st:St) (m:Nat):EA st [.pv (cE m)]= ~~~(.int (hi m:Nat)):=by show aa (CV.pv (.int ([(dG m:Int),(dB m:Int)].foldl max (dR m:Int))))=_;congr 3;show max (max (dR m:Int) (dG m)) (dB m)=_;unfold hi;exact acy
def QY (st:St) (m:Nat):MN st [.pv (cE m)]= ~~~(.int (lo m:Nat)):=by show aa (CV.pv (.int ([(dG m:Int),(dB m:Int)].foldl min (dR m:Int))))=_;congr 3;show min (min (dR m:Int) (dG m)) (dB m)=_;unfold lo;exact acz
def DJ (n:NN) (p:Nat->Nat->Bool) (h:∀i,i<6->∀j,j<6->p i j=rel n i j):PV.lst (L6.flatMap λi=>(L6.filter (p i)).map λj=>PV.str (nm i++nm j))=g4 n:=by unfold g4 jQ;rw[gy];congr 1;refine eR λi hi=> ?_;rw[bC,io λj hj=>h i (fY.mp hi) j (fY.mp hj)];rfl
def YJ (l:List Int) (n:NN) (y x:OV) (rs:SS):xr (afW l n y x rs)=aa (.next,UT l n y x rs):=by
 unfold xr bZ;erw [yC (λst=>∃a b,st=⟨[a,b],[~~~(cq λk=>cE (n k))],hU (rs.map cW)⟩) (rel n) (λi j=> .str (nm i++nm j)) (qD _ (λk=>cE (n k)) rfl) ⟨ac,ac,rfl⟩ ?_]
 ·rw[DJ n (rel n) λq q q q=>rfl];rfl
 ·rintro i hi st ⟨a,b,rfl⟩;refine⟨⟨[~~~(.str (nm i)),b],[~~~(cq λk=>cE (n k))],hU (rs.map cW)⟩,rfl,rfl,⟨_,_,rfl⟩,qD _ (λk=>cE (n k)) rfl,λst=>∃b,st=⟨[~~~(.str (nm i)),b],[~~~(cq λk=>cE (n k))],hU (rs.map cW)⟩,⟨_,rfl⟩,λst ⟨b,h⟩=>⟨_,b,h⟩,?_⟩;rintro j hj st ⟨b,rfl⟩;refine⟨⟨[~~~(.str (nm i)),~~~(.str (nm j))],[~~~(cq λk=>cE (n k))],hU (rs.map cW)⟩,rfl,?_,⟨_,rfl⟩,λq=>dq (f:=ak 0) (g:=ak 1) rfl rfl (kg _ _ _ (by rw[jP,jP];decide))⟩;unfold bY u7;rw[iJ (bA (cA (f:=aX 0) (g:=ak 0) rfl rfl (gi _ (λk=>cE (n k)) (fY.mpr hi))) rfl) (QX _ (n i)),iJ (bA (cA (f:=aX 0) (g:=ak 1) rfl rfl (gi _ (λk=>cE (n k)) (fY.mpr hj))) rfl) (QY _ (n j))];show aa (decide (((Mine.hi (n i):Nat):Int)< ((lo (n j):Nat):Int)))=_;unfold rel;congr 2;exact propext cL
def filter_le {l:List α}:(∀a∈l,p a=true->q a=true)-> ↑(l.filter p)<= ↑(l.filter q):=by
 induction l with
 |nil=>intro _;exact ab _
 |cons a l ih=>intro h;have ih:=ih λb hb=>h b (aK _ hb);have ha:=h a ay;rw[bl,bl];cases e:p a<;>cases e':q a<;>simp_all<;>(exact jm ‹_›)
def filter_lt {l:List α}:(∀a∈l,p a=true->q a=true)->∀ {b:α},b∈l->p b=false->q b=true-> ↑(l.filter p)< ↑(l.filter q):=by
 induction l with
 |nil=>intro _ _ hb _ _;cases hb
 |cons a l ih=>
  intro h b hb h1 h2;have h':∀a∈l,p a=true->q a=true:=λb hb=>h b (aK _ hb);have ha:=h a ay;rcases aH.mp hb with rfl|hb
  ·have ih:=filter_le h';rw[bl,bl,h1,h2];simp;exact gJ ‹_›
  ·have ih:=ih h' hb h1 h2;rw[bl,bl];cases e:p a<;>cases e':q a<;>simp_all<;>(exact eI ‹_›)
theorem Jw (f:α->Nat):∀l:List α,l≠ []->∃a∈l,∀b∈l,f b<=f a
 | [],h=>absurd rfl h
 | [a],_=>⟨a,ay,λb hb=>by rw[aB.mp hb];exact ab _⟩
 |a::c::l,_=>by
  let ⟨d,hd,h⟩:=Jw f (c::l) (by simp);by_cases e:f d<=f a
  ·refine⟨a,ay,λb hb=> ?_⟩;rcases aH.mp hb with rfl|hb
   ·exact ab _
   ·exact aA (h b hb) e
  ·refine⟨d,aK _ hd,λb hb=> ?_⟩;rcases aH.mp hb with rfl|hb
   ·exact We e
   ·exact h b hb
def YK (f:α->Nat) (l:List α) (h:l≠ []):∃a∈l,∀b∈l,f a<=f b:=by
 have key:∀l:List α,l≠ []->∃a∈l,∀b∈l,f a<=f b:=by
  intro l;induction l with
  |nil=>exact λh=>absurd rfl h
  |cons a l ih=>
   intro _;by_cases e:l=[]
   ·subst e;exact⟨a,ay,λb hb=>by rw[aB.mp hb];exact ab _⟩
   ·let ⟨d,hd,h⟩:=ih e;by_cases e:f a<=f d
    ·refine⟨a,ay,λb hb=> ?_⟩;rcases aH.mp hb with rfl|hb
     ·exact ab _
     ·exact aA e (h b hb)
    ·refine⟨d,aK _ hd,λb hb=> ?_⟩;rcases aH.mp hb with rfl|hb
     ·exact We e
     ·exact h b hb
 exact key l h
def BO (hx:x<6) (h:rel n x y=true) (hu:uN n y<=uN n z):rel n x z=true:=by
 by_cases hz:rel n x z=true
 ·exact hz
 ·have h1:hi (n x)<lo (n y):=of_decide_eq_true h;have:=filter_lt (l:=L6) (p:=λk=>rel n k z) (q:=λk=>rel n k y) (λa v ha=>by
   have:hi (n a)<lo (n z):=of_decide_eq_true ha;exact decide_eq_true (acA this h1 (λe=>hz (decide_eq_true e)))) (fY.mpr hx) (kl.mpr hz) h
  exact(acB this rfl rfl hu).elim
def LS (n:NN) (x:Nat):rel n x x=false:=by have:=BM (n x);exact decide_eq_false (V6 this)
def Am (hi:i<6):∃c,c∈lz n/\∀y,y<6->(rel n i y=true↔c<uN n y):=by
 left;let ⟨z,hz,h⟩:=Jw (uN n) (L6.filter λy=> !rel n i y) (List.ne_nil_of_mem (aY.mpr ⟨fY.mpr hi,by rw[LS];rfl⟩));right;rw[aY]at hz;refine⟨uN n z,((rg n).2 _).mpr ⟨z,fY.mp hz.1,rfl⟩,λy hy=>⟨λe=> ?_,λe=> ?_⟩⟩
 ·by_cases hc:uN n z<uN n y
  ·exact hc
  ·have:=BO hi e (iR hc);rw[this]at hz;nomatch hz.2
 ·by_cases hc:rel n i y=true
  ·exact hc
  ·have:=h y (aY.mpr ⟨fY.mpr hy,by simpa using hc⟩);exact absurd ‹_› (dE ‹_›)
def QZ (hc:c∈lz n):∃z,z<6/\∀y,y<6->(rel n z y=true↔c<uN n y):=by
 let ⟨w,hw,rfl⟩:=((rg n).2 _).mp hc;by_cases he:(L6.filter λy=>decide (uN n w<uN n y))=[]
 ·let ⟨z,hz,h⟩:=Jw (λy=>hi (n y)) L6 ∅;refine⟨z,fY.mp hz,λy hy=>⟨λe=> ?_,λe=> ?_⟩⟩
  ·have h1:hi (n z)<lo (n y):=of_decide_eq_true e;exact acC h1 (BM (n y)) (h y (fY.mpr hy))
  ·have:y∈L6.filter λy=>decide (uN n w<uN n y):=aY.mpr ⟨fY.mpr hy,decide_eq_true e⟩;rw[he]at this;nomatch this
 ·let ⟨y1,h1,h⟩:=YK (uN n) _ he;rw[aY]at h1;have h1':uN n w<uN n y1:=of_decide_eq_true h1.2;have hz:∃z,z<6/\rel n z y1=true/\rel n z w=false:=by
   apply pJ;intro hn;have:uN n y1<=uN n w:=filter_le (l:=L6) λa ha e=>by
    cases hr:rel n a w with
    |true=>rfl
    |false=>exact absurd ⟨a,fY.mp ha,e,hr⟩ hn
   exact KL h1' this
  let ⟨z,hz,e1,e2⟩:=hz;refine⟨z,hz,λy hy=>⟨λe=> ?_,λe=> ?_⟩⟩
  ·by_cases hc:uN n w<uN n y
   ·exact hc
   ·rw[BO hz e (iR hc)]at e2;nomatch e2
  ·exact BO hz e1 (h y (aY.mpr ⟨fY.mpr hy,decide_eq_true e⟩))
def en (n:NN) (i:Nat):Nat:=(Cy n i).toNat
def Q0 (n:NN) (c:Nat):Nat:= ↑(L6.filter λy=>decide (c<uN n y))
def Fk (hd:d∈lz n) (h:c<d):Q0 n d<Q0 n c:=by
 let ⟨w,hw,rfl⟩:=((rg n).2 _).mp hd;exact filter_lt (λa q ha=>by
  have:uN n w<uN n a:=of_decide_eq_true ha;exact decide_eq_true (Wf h this)) (fY.mpr hw) (decide_eq_false (O8)) (decide_eq_true h)
def Jx (h:∀y,y<6->(rel n i y=true↔c<uN n y)):oN n i=Q0 n c:=by unfold oN kz Q0;rw[io λy hy=> ?_];rw[dr,decide_eq_true_iff];exact h y (fY.mp hy)
def Ht {l:Nz} (h:l.Pairwise (· < ·)):l.Nodup:=h.imp λh e=>by simp_all
def Nu (n:NN):((lz n).map (Q0 n)).Perm (rf n):=by
 refine(kC ?_ (Ht (yD n).1)).mpr λv=> ?_
 ·refine gX _ (λq q h=>h) (gK ?_ (rg n).1);intro a b _ hb Mc e;have:=Fk hb Mc;simp_all
 ·rw[(yD n).2,aQ];constructor
  ·rintro⟨c,hc,rfl⟩;let ⟨z,hz,h⟩:=QZ hc;exact⟨z,hz,Jx h⟩
  ·rintro⟨i,hi,rfl⟩;let ⟨c,hc,h⟩:=Am hi;exact⟨c,hc,(Jx h).symm⟩
def Fl (hc:c∈lz n) (h:∀y,y<6->(rel n i y=true↔c<uN n y)):Cy n i=(↑((lz n).filter λy=>decide (y<c)):Nat):=by
 have h2: ↑((rf n).filter λa=> !decide (a<=oN n i))= ↑((lz n).filter λy=>decide (y<c)):=by
  erw [<- ((Nu n).filter _).length_eq,dF,aw];erw [io λd hd=> ?_];rw[Jx h,dr];simp only[Function.comp_apply,jk,decide_eq_false_iff_not,decide_eq_true_iff];rcases eH d c with h3|h3|h3
  ·have:=Fk hc h3;exact acD this h3
  ·subst h3;exact acE
  ·have:=Fk hd h3;exact acF this h3
 unfold Cy;exact acG (rd (λy=>decide (y<=oN n i)) (rf n)) h2
def UU (hc:c∈lz n): ↑((lz n).filter λy=>decide (y<c))< ↑((lz n).filter λy=>decide (y<d))↔c<d:=by
 constructor
 ·intro h;apply Cr;intro h';have:=filter_le (l:=lz n) (p:=λy=>decide (y<d)) (q:=λy=>decide (y<c)) λa z ha=>by have:a<d:=of_decide_eq_true ha;exact decide_eq_true (O5 this h')
  exact KL h this
 ·intro h;exact filter_lt (λa z ha=>by
   have:a<c:=of_decide_eq_true ha;exact decide_eq_true (Wf this h)) hc (decide_eq_false (O8)) (decide_eq_true h)
def mN (n:NN):Nat:= ↑(lz n)
def Fm (hi:i<6):Cy n i=(en n i:Int):=by let ⟨c,hc,h⟩:=Am (n:=n) hi;unfold en;rw[Fl hc h];rfl
def rU (hi:i<6) (hj:j<6):rel n i j=decide (en n i<bg n j):=by let ⟨c,hc,h⟩:=Am (n:=n) hi;have e:=Fl hc h;rw[Fm hi]at e;rw[dr,h j hj,decide_eq_true_iff,<- UU hc];unfold bg;exact acH e
def BP (hi:i<6):bg n i<=en n i:=by have:=rU (n:=n) hi hi;rw[LS]at this;have:=of_decide_eq_false this.symm;exact V7 this
def LU (hi:i<6):en n i<mN n:=by let ⟨c,hc,h⟩:=Am (n:=n) hi;have e:=Fl hc h;rw[Fm hi]at e;have:=filter_lt (l:=lz n) (p:=λy=>decide (y<c)) (q:=λz=>true) (λz z z=>rfl) hc (decide_eq_false (O8)) rfl;rw[bL.mpr λz z=>rfl]at this;unfold mN;exact acI e this
def pl (n:NN) (c:Nat):Nat:=if c<6 then bg n c else en n (c- 6)
def xQ (h:x<6):pl n x=bg n x:=if_pos h
def Hu (n:NN) (x:Nat):pl n (6+x)=en n x:=by unfold pl;rw[if_neg (by simp)];congr 1;simp
def afZ (h:c<12):pl n c<mN n:=by
 unfold pl;split
 ·exact bI (BP (by assumption)) (LU (by assumption))
 ·exact LU (Wg h)
def BQ (n:NN) (a c:Nat):Prop:=pl n a<pl n c\/(pl n a=pl n c/\a<c)
def UV (n:NN) (K m:Nat):List Nat:=(cJ m).flatMap λj=>(cJ K).filter λc=>pl n c==j
def LV:c∈UV n K m↔c<K/\pl n c<m:=by unfold UV;simp only[iO,dM,aY,beq_iff_eq];exact⟨λ⟨j,h1,h2,h3⟩=>⟨h2,h3▸h1⟩,λ⟨h1,h2⟩=>⟨_,h2,h1,rfl⟩⟩
def BR (n:NN) (K:Nat):∀m,(UV n K m).Pairwise (BQ n):=by
 intro l9;induction l9 with
 |zero=>exact gW
 |succ m ih=>
  unfold UV;rw[lT,iC,ib];refine⟨ih,?_,λa ha c hc=> ?_⟩
  ·rw[bJ,sz,bu];refine gK ?_ (List.Pairwise.filter _ (List.pairwise_lt_range));intro a c ha hc h;have h1:=(aY.mp ha).2;have h2:=(aY.mp hc).2;rw[beq_iff_eq]at h1 h2;exact .inr ⟨by rw[h1,h2],h⟩
  ·have h1:=(LV.mp ha).2;rw[bJ,sz,bu]at hc;have h2:=(aY.mp hc).2;rw[beq_iff_eq]at h2;exact .inl (by simp_all)
def toks (n:NN):List Nat:=UV n 12 (mN n)
def Hv (n:NN):List Nat:=UV n 6 (mN n)
def gk:c∈toks n↔c<12:=LV.trans ⟨λh=>h.1,λh=>⟨h,afZ h⟩⟩
def mX (h:BQ n a a):False:=by unfold BQ at h;simp_all
def DK (h:BQ n a c) (h':BQ n c a):False:=
 h.elim (λh=>h'.elim (zW h) λh'=>jS h h'.1) λh=>h'.elim (λh'=>jS h' h.1) λh'=>zW h.2 h'.2
def Q1 (hy:y<6) (hx:x<6) (h:BQ n y x):bg n y<=bg n x:=xQ (n:=n) hy▸xQ (n:=n) hx▸h.elim ce λh=>fg h.1
def yE (h:a≠c):BQ n a c\/BQ n c a:=by unfold BQ;exact acJ h
def oH (h:toks n=P++c::Q):a∈P↔a<12/\BQ n a c:=by
 have hs:=BR n 12 (mN n);rw[show UV n 12 (mN n)=_ from h,ib]at hs;constructor
 ·intro ha;exact⟨gk.mp (by rw[h];exact fu _ ha),hs.2.2 a ha c ay⟩
 ·rintro⟨h1,h2⟩;have:=(gk (n:=n)).mpr h1;rw[h]at this;rcases cb.mp this with h3|h3
  ·exact h3
  ·rcases aH.mp h3 with rfl|h3
   ·exact(mX h2).elim
   ·exact(DK h2 ((ef.mp hs.2.1).1 a h3)).elim
def mj (P:Nz):List Nat:=L6.filter λy=>P.contains y&& !P.contains (6+y)
def YL (n:NN) (a c:Nat):Bool:=decide (pl n a<pl n c\/(pl n a=pl n c/\a<c))
def vi (n:NN) (x:Nat):List Nat:=L6.filter λy=>YL n y x&&decide (bg n x<=en n y)
def jX:y∈vi n x↔y<6/\BQ n y x/\bg n x<=en n y:=by unfold vi YL BQ;rw[aY,fY,dj,decide_eq_true_iff,decide_eq_true_iff]
def oI:y∈mj P↔y<6/\y∈P/\6+y∉P:=by unfold mj;rw[aY,fY];simp
def Jy (h:toks n=P++x::Q) (hx:x<6):mj P=vi n x:=by unfold mj vi;apply io;intro y hy;rw[fY]at hy;rw[dr];simp only[dj,List.contains_iff_mem,jk,<- Bool.not_eq_true,YL,decide_eq_true_iff];rw[oH h,oH h];unfold BQ;rw[Hu,xQ hx,xQ hy];exact acK hy hx
def rh (P:Nz):(mj P).Nodup:=lg.filter _
def BS (h:toks n=P++x::Q) (hx:x<6):x∉mj P/\(mj (P++[x])).Perm (x::mj P):=by
 have h1:x∉mj P:=λhm=>by rw[Jy h hx,jX]at hm;exact mX hm.2.1
 refine⟨h1,(kC (rh _) (fE.mpr ⟨h1,rh _⟩)).mpr λy=> ?_⟩;have h2:6+x∉P:=λhm=>by rw[oH h]at hm;have:=BP (n:=n) hx;unfold BQ at hm;rw[Hu,xQ hx]at hm;exact acL hm this
 rw[aH,oI,oI];simp only[cb,aB];constructor
 ·rintro⟨h3,h4|h4,h5⟩
  ·exact .inr ⟨h3,h4,λe=>h5 (.inl e)⟩
  ·exact .inl h4
 ·rintro(rfl|⟨h3,h4,h5⟩)
  ·exact⟨hx,.inr rfl,λe=>e.elim h2 (acM)⟩
  ·exact⟨h3,.inl h4,λe=>e.elim h5 (acN hx)⟩
def DL (h:toks n=P++(6+x)::Q) (hx:x<6):(mj P).Perm (x::mj (P++[6+x])):=by
 have h1:x∉mj (P++[6+x]):=λhm=>by rw[oI]at hm;exact hm.2.2 (dS _ ay)
 have h2:x∈P:=by rw[oH h];have:=BP (n:=n) hx;unfold BQ;rw[Hu,xQ hx];exact acO hx this
 have h3:6+x∉P:=λhm=>by rw[oH h]at hm;exact mX hm.2
 refine(kC (rh _) (fE.mpr ⟨h1,rh _⟩)).mpr λy=> ?_;rw[aH,oI,oI];simp only[cb,aB];constructor
 ·rintro⟨h4,h5,h6⟩;by_cases e:y=x
  ·exact .inl e
  ·exact .inr ⟨h4,.inl h5,λh=>h.elim h6 (acP e)⟩
 ·rintro(rfl|⟨h4,h5,h6⟩)
  ·exact⟨hx,h2,h3⟩
  ·exact⟨h4,h5.elim id λe=>absurd (e▸h4) (dE (bh ..)),λe=>h6 (.inl e)⟩
def Q2 (n:NN):mj (toks n)=[]:=by rw[nG];intro y hy;rw[oI,gk,gk]at hy;exact acQ hy
def inc (n:NN) (x y:Nat):Prop:=rel n x y=false/\rel n y x=false
def LW (hx:x<6) (hy:y<6):inc n x y↔bg n y<=en n x/\bg n x<=en n y:=by unfold inc;rw[rU hx hy,rU hy hx,decide_eq_false_iff_not,decide_eq_false_iff_not];simp
def xR (h:inc n x y):inc n y x:=⟨h.2,h.1⟩
def An (hx:x<6) (h:y∈vi n x):inc n y x:=by rw[jX]at h;rw[LW h.1 hx];exact⟨h.2.2,aA (Q1 h.1 hx h.2.1) (BP hx)⟩
def BU (hx:x<6) (hy:y<6) (h:inc n x y) (hb:BQ n x y):x∈vi n y:=by rw[LW hx hy]at h;exact jX.mpr ⟨hx,hb,h.1⟩
def Hw (hx:x<6) (hy:y∈vi n x) (hz:z∈vi n x) (hb:BQ n y z):y∈vi n z:=by rw[jX]at hy hz⊢;exact⟨hy.1,hb,aA (Q1 hz.1 hx hz.2.1) hy.2.2⟩
def UW {A:Nz}:A≠ []->∃x∈A,∀y∈A,y≠x->BQ n y x:=by
 induction A with
 |nil=>intro h;exact absurd rfl h
 |cons a A ih=>
  intro _;by_cases e:A=[]
  ·subst e;exact⟨a,ay,λy hy h=>absurd (aB.mp hy) h⟩
  ·let ⟨x,hx,h⟩:=ih e;by_cases hb:BQ n x a
   ·refine⟨a,ay,λy hy hn=> ?_⟩;rcases aH.mp hy with rfl|hy
    ·exact absurd rfl hn
    ·by_cases e2:y=x
     ·exact e2▸hb
     ·have:=h y hy e2;unfold BQ at this hb⊢;exact acR this hb
   ·refine⟨x,aK _ hx,λy hy hn=> ?_⟩;rcases aH.mp hy with rfl|hy
    ·exact(yE hn).resolve_right hb
    ·exact h y hy hn
def Fn (n:NN) (A:Nz):Prop:=A.Pairwise λx y=>inc n x y
def UX {A:Nz} (h6:∀x∈A,x<6) (hn:A.Nodup) (ha:∀x∈A,∀y∈A,x≠y->inc n x y) (hd:∀x,x<6-> ↑(vi n x)+1<=d): ↑A<=d:=by
 by_cases e:A=[]
 ·subst e;exact cI _
 ·let ⟨x,hx,h⟩:=UW (n:=n) e;have:=fq hn (l₂:=x::vi n x) λy hy=>by
   by_cases e:y=x
   ·exact e▸ay
   ·exact aK _ (BU (h6 y hy) (h6 x hx) (ha y hy x hx e) (h y hy e))
  have:=hd x (h6 x hx);rw[az]at*;exact aA ‹_› ‹_›
def qp (n:NN) (W:LN) (x:Nat):List (List Nat):=W++(W.filter λA=>A.all λy=> !(rel n x y||rel n y x)).map (· ++[x])
def Nv (R:Nz):∀(D:Nz) (W:LN),(D++R).Nodup->(∀A∈W,A.Sublist D/\Fn n A)->(∀A:List Nat,A.Sublist D->Fn n A->A∈W)->
  (∀A∈R.foldl (qp n) W,A.Sublist (D++R)/\Fn n A)/\∀A:List Nat,A.Sublist (D++R)->Fn n A->A∈R.foldl (qp n) W:=by
 induction R with
 |nil=>intro D W _ h1 h2;rw[bu];exact⟨h1,h2⟩
 |cons x R ih=>
  intro D W hn h1 h2;rw[(by simp:D++x::R=(D++[x])++R)]at hn⊢;refine ih (D++[x]) (qp n W x) hn ?_ ?_
  ·intro A hA;rcases cb.mp hA with hA|hA
   ·exact⟨(h1 A hA).1.trans (List.sublist_append_left _ _),(h1 A hA).2⟩
   ·let ⟨B,hB,rfl⟩:=aQ.mp hA;rw[aY,fI]at hB;refine⟨(h1 B hB.1).1.append (F0 _),ib.mpr ⟨(h1 B hB.1).2,List.pairwise_singleton _ _,λa ha b hb=> ?_⟩⟩;rw[aB.mp hb];have:=hB.2 a ha;simp only[jk,vu]at this;exact⟨this.2,this.1⟩
  ·intro A hs ha;rcases List.sublist_append_iff.mp hs with⟨B,C,rfl,hB,hC⟩;unfold qp;rw[cb];have hC':C=[]\/C=[x]:=by
    cases hC with
    |cons _ h=>exact .inl (AA.mp h)
    |cons_cons _ h=>exact .inr (by rw[AA.mp h])
   rcases hC' with rfl|rfl
   ·rw[bu]at ha⊢;exact .inl (h2 B hB ha)
   ·apply Or.inr;rw[Fn,ib]at ha;refine aQ.mpr ⟨B,aY.mpr ⟨h2 B hB ha.1,fI.mpr λy hy=> ?_⟩,rfl⟩;have:=ha.2.2 y hy x ay;simp only[jk,vu];exact⟨this.2,this.1⟩
def nv (n:NN):List (List Nat):=L6.foldl (qp n) [[]]
def Ao (n:NN):(∀A∈nv n,A.Sublist L6/\Fn n A)/\∀A:List Nat,A.Sublist L6->Fn n A->A∈nv n:=by
 refine Nv L6 [] [[]] lg (λA h=> ?_) λA h q=> ?_
 ·rw[aB.mp h];exact⟨F0 _,gW⟩
 ·rw[AA.mp h];exact ay
def LX {A:Nz}:Fn n A->∀x∈A,∀y∈A,x≠y->inc n x y:=by
 induction A with
 |nil=>intro _ _ hx _ _ _;cases hx
 |cons a A ih=>
  intro h x hx y hy e;rw[Fn,ef]at h;rcases aH.mp hx with rfl|hx1<;>rcases aH.mp hy with rfl|hy1
  ·exact absurd rfl e
  ·exact h.1 y hy1
  ·exact xR (h.1 x hx1)
  ·exact ih h.2 x hx1 y hy1 e
def Hx (hf:f<6) (hd:∀x,x<6-> ↑(vi n x)+1<=d) (hfd: ↑(vi n f)+1=d):(∀A∈nv n,↑A<=d)/\∃A∈nv n,↑A=d:=by
 refine⟨λA hA=> ?_,?_⟩
 ·let ⟨h1,h2⟩:=(Ao n).1 A hA;have hn:=h1.nodup lg;exact UX (λx hx=>fY.mp (h1.subset hx)) hn (LX h2) hd
 ·let A:=L6.filter λy=>decide (y=f\/y∈vi n f);have hm:∀y,y∈A↔y=f\/y∈vi n f:=λy=>by show y∈L6.filter _↔_;rw[aY,fY,decide_eq_true_iff];exact⟨λh=>h.2,λh=>⟨h.elim (λe=>e▸hf) λh=>(jX.mp h).1,h⟩⟩
  have hA:A.Nodup:=lg.filter _;refine⟨A,(Ao n).2 A List.filter_sublist (gK ?_ hA),?_⟩
  ·intro x y hx hy oO;rcases(hm x).mp hx with rfl|hx<;>rcases(hm y).mp hy with rfl|hy
   ·exact absurd rfl oO
   ·exact xR (An hf hy)
   ·exact An hf hx
   ·rcases yE (n:=n) oO with hb|hb
    ·exact An (jX.mp hy).1 (Hw hf hx hy hb)
    ·exact xR (An (jX.mp hx).1 (Hw hf hy hx hb))
  ·have hn:(f::vi n f).Nodup:=fE.mpr ⟨λh=>mX (jX.mp h).2.1,lg.filter _⟩;have:=((kC hA hn).mpr λy=>by rw[hm,aH]).length_eq;rw[this,az,hfd]
structure Nw (n:NN) (h:NN):Prop where
 le:∀x,x<6->h x<= ↑(vi n x)
 ne:∀x,x<6->∀y∈vi n x,h y≠h x
def Nw.inc (H:Nw n h) (hx:x<6) (hy:y<6) (oO:x≠y) (hi:inc n x y):h x≠h y:=by
 rcases yE (n:=n) oO with hb|hb
 ·exact H.ne y hy x (BU hx hy hi hb)
 ·exact λe=>H.ne x hx y (BU hy hx (xR hi) hb) e.symm
def Nw.max (H:Nw n h) (hf:f<6) (hd:∀x,x<6-> ↑(vi n x)+1<=d) (hfd: ↑(vi n f)+1=d):(∀x,x<6->h x+1<=d)/\∃x,x<6/\h x+1=d:=by
 have h1:∀x,x<6->h x+1<=d:=λx hx=>by exact aA (Cn (H.le x hx)) (hd x hx)
 refine⟨h1,pJ λSg=> ?_⟩;let ⟨A,hA,hl⟩:=(Hx hf hd hfd).2;let ⟨hs,ha⟩:=(Ao n).1 A hA;have h6:∀x∈A,x<6:=λx hx=>fY.mp (hs.subset hx);have:=fq (gX _ (λq q h=>h) (gK (λhx hy oO=>H.inc (h6 _ hx) (h6 _ hy) oO (LX ha _ hx _ hy oO)) (hs.nodup lg))) (l₂:=cJ (d- 1)) λv hv=>by let ⟨x,hx,rfl⟩:=aQ.mp hv;exact dM.mpr (acS (λe=>Sg ⟨x,h6 x hx,e⟩) (h1 x (h6 x hx)))
 rw[aw,rn,hl]at this;exact acT hfd this
noncomputable def T (l:Nz):Str:=⟨l.toArray⟩
def DM (a b:Nz):T a++T b=T (a++b):=by show(⟨a.toArray++b.toArray⟩:Str)=_;unfold T;simp
def gG (a:Nz): ↑(T a)= ↑a:=by show a.toArray.size=_;simp
def qE (a:Nz):(T a).cps.toList=a:=rfl
def af0 (h:T a=T b):a=b:=congrArg (λx:Str=>x.cps.toList) h
def LY (a b:Nz):(T a==T b)=decide (a=b):=by rw[dr,beq_iff_eq,decide_eq_true_iff];exact⟨af0,λh=>h▸rfl⟩
inductive Rp (p:Nz):List Nat->List Nat->Prop
 |nil:Rp p [] []
 |hit {l r:Nz}:Rp p l r->Rp p (p++l) r
 |skip {c:Nat} {l r:Nz}:¬p<+:(c::l)->Rp p l r->Rp p (c::l) (c::r)
def Fo (hp:1<= ↑p):Ci (T l) (T p) ↑(T l) k↔p<+:l.drop k:=by
 unfold Ci Builtin.Str.subAt;rw[gG,gG];have e:((T l).cps.extract k (k+ ↑p)==(T p).cps)=true↔(l.drop k).take ↑p=p:=by rw[beq_iff_eq];unfold T;simp only[Mr];show(l.extract k (k+ ↑p)).toArray=p.toArray↔_;rw[show((l.extract k (k+ ↑p)).toArray=p.toArray)=(l.extract k (k+ ↑p)=p) from Array.mk.injEq _ _];rw[FZ,show k+ ↑p- k= ↑p from bO ..]
 rw[e,List.prefix_iff_eq_take];constructor
 ·exact λh=>h.2.symm
 ·intro h;refine⟨?_,h.symm⟩;have:=congrArg eX h;rw[cF,fH]at this;have q:=this▸Cq ..;exact Nat.add_le_of_le_sub' (ce (Nat.lt_of_sub_pos (a8 hp q))) q
def UY (h:Rp p l r):∀ {X:Nz} {a:Nat},l=X.drop a->(∀k,a<=k->¬p<+:X.drop k)->r=l:=by
 induction h with
 |nil=>exact λq q=>rfl
 |hit h ih=>exact λe hn=>absurd (e▸ON _ _) (hn _ (ab _))
 |skip h1 h ih=>intro X a e hn;rw[ih (X:=X) (a:=a+1) (by rw[<- qy,<- e];rfl) λk hk=>hn k (ce ‹_›)]
def af1 {p X:Nz} (hp:1<= ↑p) (d:Nat):∀(a:Nat) (r:Nz),(∀k,a<=k->k<a+d->¬p<+:X.drop k)->a+d<= ↑X->Rp p (X.drop a) r->∃r',r=(X.drop a).take d++r'/\Rp p (X.drop (a+d)) r':=by
 induction d with
 |zero=>intro a r _ _ h;exact⟨r,rfl,h⟩
 |succ d ih=>
  intro a r hn hl h;have e:X.drop a=X[a]'(Wh hl)::X.drop (a+1):=gU (Wh hl);generalize hL:X.drop a=L at h;induction h with
  |nil=>rw[hL]at e;cases e
  |hit h=>exact absurd (hL▸ON _ _) (hn a (ab _) (XO))
  |skip h1 h=>rw[hL]at e;injection e with e1 e2;subst e2;let ⟨r',h2,h3⟩:=ih (a+1) _ (λk hk yc=>hn k (O9 hk) (acU yc)) (acV hl) h;exact⟨r',by rw[h2];rfl,by rw[show a+(d+1)=a+1+d by exact KI];exact h3⟩
def af2 {p X:Nz} (hp:1<= ↑p) (hn:p<+:X.drop a) (h:Rp p (X.drop a) r):Rp p (X.drop (a+ ↑p)) r:=by
 generalize hL:X.drop a=L at h;induction h with
 |nil=>rw[hL]at hn;have:=hn.length_le;rw[lU]at this;exact absurd ‹_› (dE ‹_›)
 |hit h=>rw[<- qy,hL,Xx];exact h
 |skip h1 h=>exact absurd (hL▸hn) h1
def BV (X:Nz) (a c:Nat):(nR (T X) a c).cps.toList=(X.drop a).take (c- a):=by unfold nR T;simp only[Mr,FZ]
def Q3 (hp:1<= ↑p) (VB:Nz):∀(a f:Nat) (r:Nz),StrLaws.ChainG (T X) (T p) ↑(T X) a VB f->(∀k,f<=k->¬Ci (T X) (T p) ↑(T X) k)->Rp p (X.drop a) r->
  (Mn (T X) ↑p a VB).flatMap (λs=>s.cps.toList)=r:=by
 induction VB with
 |nil=>intro a f r h hn hr;have h':f=a:=h;subst h';show(nR (T X) f ↑(T X)).cps.toList++[]=r;rw[bu,BV,gG,UY hr rfl λk hk e=>hn k hk ((Fo hp).mpr e)];rw[eP (by rw[fH];exact ab _)]
 |cons c VB ih=>intro a f r h hn hr;left;let ⟨h1,h2,h3,h4⟩:=h;let ⟨r',e1,e2⟩:=af1 hp (c- a) a r (λk hk yc e=>h3 k hk (acW yc hk) ((Fo hp).mpr e)) (acX h1 (by have:=h2.1;rw[gG,gG]at this;exact this)) hr;right;rw[show a+(c- a)=c by exact TF h1]at e2;rw[gG]at h4;rw[Mn,bJ];rw[ih (c+ ↑p) f r' h4 hn (af2 hp ((Fo hp).mp h2) e2),BV,e1]
def BW (ps:List Str):∀(dA:Array Nat),(ps.foldl (λdA p=>dA++(ah "").cps++p.cps) dA).toList=dA.toList++ps.flatMap λs=>s.cps.toList:=by
 induction ps with
 |nil=>intro dA;simp
 |cons p ps ih=>intro dA;have e:(ah "").cps= #[]:=rfl;rw[jf,ih,e,bJ];simp
def vQ (hp:1<= ↑p) (h:Rp p X r):iL (T X) (T p) "" =T r:=by
 let ⟨f,h1,h2⟩:=StrLaws.occ_tight (T X) (T p) (by rw[gG];exact hp);have key:=Q3 hp _ 0 f r h1 h2 h;unfold iL;have hy:((↑(T p)==0)&&("".length==0))=false:=by rw[gG,show(↑p==0)=false by simp;intro h;subst h;cases hp];rfl
 rw[hy,Bool.or_false];split
 ·rename_i he;rw[Tu]at he;rw[he]at key;have:(nR (T X) 0 ↑(T X)).cps.toList++[]=r:=key;rw[bu,BV,gG]at this;rw[<- this];congr 1;rw[Ef,Nat.sub_zero,List.take_length]
 ·rw[StrLaws.partsBetween_eq,gG];let ⟨q,rs,e⟩:=StrLaws.partsFrom_ne (T X) ↑p 0 (je (T X) (T p) 0 ↑(T X) (↑(T X)+1));rw[e]at key⊢;unfold Builtin.Str.glued T;congr 1;apply si.mp;show(rs.foldl _ q.cps).toList=r;rw[BW,<- key,bJ]
def Q4 (h:c∉A):∃is,je (T (A++c::B)) (T [c]) 0 ↑(T (A++c::B)) 1= ↑A::is:=by
 have bc:∀k,Ci (T (A++c::B)) (T [c]) ↑(T (A++c::B)) k↔(A++c::B)[k]? =aa c:=λk=>by
  rw[Fo (ab _)];rcases bS k ↑(A++c::B)with hk|hk
  ·rw[gU hk,aq hk,i4];simp[eq_comm]
  ·rw[sP hk,bB hk];simp
 rcases StrLaws.occ_head (T (A++c::B)) (T [c]) 1 (ab _)with⟨_,h2⟩|⟨i,is,h1,h2,h3⟩
 ·exact absurd ((bc ↑A).mpr (by simp)) (h2 ↑A)
 ·refine⟨is,?_⟩;rw[h1];congr 1;rcases eH i ↑A with hi|hi|hi
  ·rw[bc,aW hi]at h2;exact absurd (bo h2) h
  ·exact hi
  ·exact absurd ((bc ↑A).mpr (by simp)) (h3 ↑A hi)
def Jz (u:Nz):Prop:=(∃c,c≠92/\u=[c])\/∃c,u=[92,c]
noncomputable def ml:Nat->List (List Nat)->List (Nat×Str)
 |_,[]=>[]
 |i,u::us=>(i+ ↑u- 1,T u)::ml (i+ ↑u) us
def af3:z8=T [92]:=rfl
def Q5 (c:Nat):((⟨#[c]⟩:Str)==z8)=decide (c=92):=by rw[af3,show(⟨#[c]⟩:Str)=T [c] from rfl,LY];simp
def BX (us:LN):∀(i:Nat) (rest:Nz),(∀u∈us,Jz u)->iX i false (us.flatten++rest)=ml i us++iX (i+ ↑us.flatten) false rest:=by
 induction us with
 |nil=>intro i rest _;exact rfl
 |cons u us ih=>
  intro i rest h;have ih:=λi=>ih i rest λv hv=>h v (aK _ hv);rcases h u ay with⟨c,hc,rfl⟩|⟨c,rfl⟩
  ·show iX i false (c::(us.flatten++rest))=(i,T [c])::(ml (i+1) us++iX (i+ ↑([c]++us.flatten)) false rest);rw[EM,Q5,decide_eq_false hc,if_neg ∅,ih];rw[show i+ ↑([c]++us.flatten)=i+1+ ↑us.flatten by simp;exact KI];rfl
  ·show iX i false (92::c::(us.flatten++rest))=(i+1,T [92,c])::(ml (i+2) us++iX (i+ ↑([92,c]++us.flatten)) false rest);rw[EM,Q5,decide_eq_true rfl,if_pos rfl,PR,ih];rw[show i+ ↑([92,c]++us.flatten)=i+1+1+ ↑us.flatten by simp;exact acY];rfl
def Q6 (us:LN) (h:∀u∈us,Jz u):iX 0 false us.flatten=ml 0 us:=by have:=BX us 0 [] h;rw[bu]at this;rw[this];show ml 0 us++[]=_;rw[bu]
def Fp (h:f st= ~~~(.str (T us.flatten))) (hu:∀u∈us,Jz u) (ha:∀c∈us.flatten,c<128):zM f st=aa ((ml 0 us).map lP):=by unfold zM;rw[h];show(if (T us.flatten).cps.all (· <128)=true then aa ((iX 0 false (T us.flatten).cps.toList).map lP) else ac)=_;rw[if_pos,qE,Q6 us hu];rw[yX];intro c hc;exact decide_eq_true (ha c ((qE us.flatten)▸(XB.mp hc)))
noncomputable def gD:Option (List (List Nat))->List (List Nat)->List (List Nat)
 |none,[]=>[]
 |some k,[]=>k
 |none,u::us=>if u=[34] then gD (aa [[34]]) us else u::gD ac us
 |some k,u::us=>if u=[34] then gD ac us else gD (aa (k++[u])) us
def xS (a:Nz) (s:Nat) (o:Option Nat) (res:LN) (v w:OV):St:=
 ⟨[~~~(.str (T a)),~~~(.int (s:Nat)),~~~(match o with|none=>PV.none|some p=> .int (p:Nat)),aa (.ob 0),v,w],[],[.list (res.map λr=> .str (T r))]⟩
def YM {i j:Nat} (h1:i<=j) (h2:j<= ↑a):lh (T a) (aa (i:Int)) (aa (j:Int))=T ((a.drop i).take (j- i)):=by have:=PyProof.Rows.slice_closesL (x:=T a) (i:=(i:Int)) (j:=(j:Int)) (Gh) (AH h1) (by rw[gG];exact AH h2);rw[OR this];show T _=_;erw [qE,rx,show((j:Int)- (i:Int)).toNat=j- i by exact acZ]
def YN {i:Nat} (h1:i<= ↑a):lh (T a) (aa (i:Int)) ac=T (a.drop i):=by have:=PyProof.Rows.slice_from_eq (x:=T a) (i:=(i:Int)) (b:=(↑a:Int)) (Gh) (by rw[gG];exact AH h1) (by rw[gG]);rw[this];show T _=_;erw [qE,rx,eP];rw[fH];exact ac0
def Q7 {j:Nat} (h2:j<= ↑a):lh (T a) ac (aa (j:Int))=T (a.take j):=by have:=PyProof.Rows.slice_closes_to (x:=T a) (j:=(j:Int)) ⟨by exact Gh,by rw[qE];exact AH h2⟩;rw[OR this];show T _=_;rw[qE,show((0:Int)).toNat=0 from rfl,show((j:Int)- 0).toNat=j by exact ac1,Ef]
def JA (st:St) (x:Str) (lo hi:Option Int) (h: ↑x<=10000):pb st (.pv (.str x)) lo hi ac=aa (.str (lh x lo hi)):=by show(if (ac:Option Int)=ac/\ ↑x<=sizeLine then aa (PV.str (lh x lo hi)) else ac).or _=_;rw[if_pos ⟨rfl,by exact KP h rfl⟩];rfl
def uA {lo hi:St->Option (Option Int)} (h:f st= ~~~(.str x)) (h1:lo st=aa i) (h2:hi st=aa j) (hl: ↑x<=10000):fN f lo hi eD st= ~~~(.str (lh x i j)):=by unfold fN;rw[h,h1,h2];show(pb st (.pv (.str x)) i j ac).map CV.pv=_;rw[JA _ _ _ _ hl];rfl
def BY (ls:LN):(ls.map T).flatMap (λs=>s.cps.toList)=ls.flatten:=by rw[iP];show ls.flatMap id=_;simp
def Nx:∀ls:List (List Nat),zU (ah "") (ls.map T)=T ls.flatten
 | []=>rfl
 |l::ls=>by show(⟨(ls.map T).foldl (λdA p=>dA++(ah "").cps++p.cps) (T l).cps⟩:Str)=_;unfold T;congr 1;apply si.mp;rw[BW];show l++(ls.map T).flatMap (λs=>s.cps.toList)=l++ls.flatten;rw[BY]
def Hy (ls:LN) (h: ↑ls.flatten<=10000):FS "" (ls.map T)=true:=by
 have e:∀(ps:List Str) (m:Nat),ps.foldl (λ(x:Nat) (p:Str)=>x+ ↑p+ "".length) m=m+ ↑(ps.flatMap λs=>s.cps.toList):=by
  intro ps;induction ps with
  |nil=>intro m;rfl
  |cons p ps ih=>intro m;have: ↑p.cps.toList= ↑p:=bz;rw[jf,ih,(rfl: "".length=0),bJ,aj];exact ac2 this
 unfold FS cw;rw[List.foldl_toArray,e,BY];rw[jk,decide_eq_false_iff_not];exact ac3 rfl h
def isStr (st:St) (u v:Nz) (c:Str) (hc:c=T v):sT st .Eq (.pv (.str (T u))) (.pv (.str c))=aa (decide (u=v)):=by show aa (T u==c)=_;rw[hc,LY]
abbrev lG:St->Option (pj×St):=aC (jz (bY .Eq (ak 5) ↥"\"") (aC (jz (bY .Is (ak 2) (jg PV.none)) (aC (bZ (ak 4) (bf 2)) br) (aC (jz (bY .NotEq (ak 1) (ak 2)) (aC (oy gZ (ak 3) (au (fN (ak 0) (gV (ak 1)) (gV (ak 2)) eD) aZ)) br) br) (aC (bZ (ba .Add (ak 4) ⇑1) (bf 1)) (aC (bZ (jg PV.none) (bf 2)) br)))) br) br) br
def Hz (hu:u≠ [34]):lG (xS a s o res (~~~(.int (i:Nat))) (~~~(.str (T u))))=aa (.next,xS a s o res (~~~(.int (i:Nat))) (~~~(.str (T u)))):=
 dw (by rw[jV ((fT rfl rfl (isStr _ u [34] _ rfl)).trans (by rw[decide_eq_false hu]))];rfl)
def JB:lG (xS a s ac res (~~~(.int (i:Nat))) (~~~(.str (T [34]))))=aa (.next,xS a s (aa i) res (~~~(.int (i:Nat))) (~~~(.str (T [34])))):=rfl
def YO (st:St) (i:Nat):MF st .Add (.pv (.int (i:Nat))) (.pv (.int 1))=aa (.int ((i+1:Nat):Int)):=tH st i 1
def HA (h1:s<=p) (h2:p<= ↑a) (hl: ↑a<=10000) (hr: ↑res<10000):
  ∃uR:List (List Nat),↑uR<= ↑res+1/\uR.flatten=res.flatten++(a.drop s).take (p- s)/\lG (xS a s (aa p) res (~~~(.int (i:Nat))) (~~~(.str (T [34]))))=aa (.next,xS a (i+1) ac uR (~~~(.int (i:Nat))) (~~~(.str (T [34])))):=by
 have hc:bY .NotEq (ak 1) (ak 2) (xS a s (aa p) res (~~~(.int (i:Nat))) (~~~(.str (T [34]))))=aa (decide (s≠p)):=by show aa ((s:Int) != (p:Int))=_;congr 1;rw[dr,bne_iff_ne,decide_eq_true_iff];exact ac4
 have fin:∀uR:List (List Nat),jz (bY .NotEq (ak 1) (ak 2)) (aC (oy gZ (ak 3) (au (fN (ak 0) (gV (ak 1)) (gV (ak 2)) eD) aZ)) br) br (xS a s (aa p) res (~~~(.int (i:Nat))) (~~~(.str (T [34]))))=aa (.next,xS a s (aa p) uR (~~~(.int (i:Nat))) (~~~(.str (T [34]))))->
   lG (xS a s (aa p) res (~~~(.int (i:Nat))) (~~~(.str (T [34]))))=aa (.next,xS a (i+1) ac uR (~~~(.int (i:Nat))) (~~~(.str (T [34])))):=by
  intro uR h;refine dw ?_;rw[tI (by rfl)];refine dw ?_;rw[jV (by rfl),aU h];unfold bZ;rw[aU (st1:=xS a (i+1) (aa p) uR (~~~(.int (i:Nat))) (~~~(.str (T [34])))) (by rw[dq rfl rfl (YO _ i)];rfl)];rfl
 by_cases e:s=p
 ·subst e;refine⟨res,by exact Gg,by simp,fin res ?_⟩;rw[jV (hc.trans (by simp))];rfl
 ·refine⟨res++[(a.drop s).take (p- s)],by simp,by simp,fin _ ?_⟩;rw[tI (hc.trans (by rw[decide_eq_true e]))];refine dw ?_;rw[uy (j:=0) (l:=res.map λr=> .str (T r)) rfl (bA (uA (i:=aa (s:Int)) (j:=aa (p:Int)) rfl rfl rfl (by rw[gG];exact hl)) rfl) rfl rfl (pA (by rw[aw];exact Wi hr))];rw[YM h1 h2];unfold xS;rw[bH];rfl
def ajz (a:Nz) (s i:Nat) (pd:Nz):Option (Nat×List (List Nat))->Prop
 |none=>s<=i/\pd=(a.drop s).take (i- s)
 |some q=>s<=q.1/\q.1<=i/\pd=(a.drop s).take (q.1- s)/\q.2.flatten=(a.drop q.1).take (i- q.1)
def tM (a:Nz) (r:Option (pj×St)) (t:Nz):Prop:=∃s o res v w,r=aa (.next,xS a s o res v w)/\s<= ↑a/\ ↑res<10000/\res.flatten++a.drop s=t
def DN {a u r:Nz} (hs:s<=i) (h:a.drop i=u++r):(a.drop s).take (i+ ↑u- s)=(a.drop s).take (i- s)++u:=by
 have e:a.drop s=(a.drop s).take (i- s)++(u++r):=by rw[<- h];conv=>lhs;rw[<- nC (i- s) (a.drop s)];rw[qy,show s+(i- s)=i by exact TF hs]
 have hl: ↑((a.drop s).take (i- s))=i- s\/u=[]:=by
  rcases bS ↑a i with(h3|h3)
  ·rw[sP (KO h3)]at h;exact .inr (List.append_eq_nil_iff.mp h.symm).1
  ·apply Or.inl;rw[cF,fH];exact ac5 h3
 rcases hl with(hl|rfl)
 ·conv=>lhs;rw[e]
  rw[<- bE,List.take_append_of_le_length (by rw[aj,hl];exact ac6),eP (by rw[aj,hl];exact ac7 hs)]
 ·simp
def JC (hl: ↑a<=10000) (us:LN):∀(i s:Nat) (q:Option (Nat×List (List Nat))) (pd:Nz) (res:LN) (v w:OV),a.drop i=us.flatten->i+ ↑us.flatten= ↑a->ajz a s i pd q-> ↑res+ ↑us<10000->
  tM a (lM (pT (eT (bf 4) (eT (bf 5) pS))) lG ((ml i us).map lP) (xS a s (q.map (·.1)) res v w)) (res.flatten++pd++(gD (q.map (·.2)) us).flatten):=by
 induction us with
 |nil=>
  intro i s q pd res v w hd hi hp hr;obtain rfl:i= ↑a:=hi;induction q with
  |none=>let ⟨h1,rfl⟩:=hp;exact⟨s,ac,res,v,w,rfl,h1,hr,by rw[eP (by rw[fH];exact Wj)];exact(bu _).symm⟩
  |some q=>let ⟨h1,h2,rfl,h3⟩:=hp;refine⟨s,aa q.1,res,v,w,rfl,aA h1 h2,hr,?_⟩;show _=_++_++q.2.flatten;rw[h3,eP (l:=a.drop q.1) (by rw[fH];exact Wj),bE];conv=>lhs;rw[<- nC (q.1- s) (a.drop s)];rw[qy,show s+(q.1- s)=q.1 by exact TF h1]
 |cons u us ih=>
  intro i s q pd res v w hd hi hp hr;rw[fP]at hd;rw[fP,aj]at hi;rw[az]at hr;have Av:a.drop (i+ ↑u)=us.flatten:=by rw[<- qy,hd,Xx]
  have step:∀s1 o1 SO t,lG (xS a s (q.map (·.1)) res (~~~(.int (i+ ↑u- 1:Nat))) (~~~(.str (T u))))=aa (.next,xS a s1 o1 SO (~~~(.int (i+ ↑u- 1:Nat))) (~~~(.str (T u))))->
    tM a (lM (pT (eT (bf 4) (eT (bf 5) pS))) lG ((ml (i+ ↑u) us).map lP) (xS a s1 o1 SO (~~~(.int (i+ ↑u- 1:Nat))) (~~~(.str (T u))))) t->
    tM a (lM (pT (eT (bf 4) (eT (bf 5) pS))) lG ((ml i (u::us)).map lP) (xS a s (q.map (·.1)) res v w)) t:=λs1 o1 SO t h k=>
   (iD (tg:=pT (eT (bf 4) (eT (bf 5) pS))) (st:=xS a s (q.map (·.1)) res v w) (st1:=xS a s (q.map (·.1)) res (~~~(.int (i+ ↑u- 1:Nat))) (~~~(.str (T u)))) rfl h:lM _ _ (lP (i+ ↑u- 1,T u)::(ml (i+ ↑u) us).map lP) _=_)▸k
  by_cases hu:u=[34]
  ·subst hu;induction q with
   |none=>exact step _ _ _ _ JB (ih (i+1) s (aa (i,[[34]])) pd res _ _ Av ((iM ..).trans hi) ⟨hp.1,by exact Gg,hp.2,by rw[hd,show i+1- i=1 by exact ac8];rfl⟩ (Pa hr))
   |some q=>let ⟨SO,hr1,hr2,hs⟩:=HA (a:=a) (s:=s) (p:=q.1) (i:=i) (res:=res) hp.1 (ac9 hp.2.1 hi) hl (ada hr);have k:=ih (i+1) (i+1) ac [] SO (~~~(.int (i:Nat))) (~~~(.str (T [34]))) Av ((iM ..).trans hi) ⟨ab _,by rw[dc];rfl⟩ (adb hr1 hr);rw[hr2,<- hp.2.2.1,bu]at k;exact step _ _ _ _ hs k
  ·refine step _ _ _ _ (Hz hu) ?_;induction q with
   |none=>have k:=ih (i+ ↑u) s ac _ res (~~~(.int (i+ ↑u- 1:Nat))) (~~~(.str (T u))) Av (Wk hi) ⟨by exact Mt hp.1,rfl⟩ (Pa hr);rw[DN hp.1 hd,<- hp.2]at k;show tM a _ (_++(if u=[34] then gD (aa [[34]]) us else u::gD ac us).flatten);rw[if_neg hu,fP,<- bE,bE res.flatten];exact k
   |some q=>show tM a _ (_++(if u=[34] then gD ac us else gD (aa (q.2++[u])) us).flatten);rw[if_neg hu];exact ih (i+ ↑u) s (aa (q.1,q.2++[u])) pd res (~~~(.int (i+ ↑u- 1:Nat))) (~~~(.str (T u))) Av (Wk hi) ⟨hp.1,by exact Mt hp.2.1,hp.2.2.1,by rw[DN hp.2.1 hd,<- hp.2.2.2];simp⟩ (Pa hr)
def BZ (st:St) (x:Str) (h: ↑x<=10000):km st [.pv (.str x)]= ~~~(.int (↑x:Nat)):=by show(if ↑x<=sizeLine then aa (CV.pv (.int ↑x)) else ac)=_;rw[if_pos (KP h rfl)]
def UZ (us:LN):∀ok:Option (List (List Nat)),(gD ok us).flatten.length<=(ok.getD []).flatten.length+ ↑us.flatten:=by
 induction us with
 |nil=>
  intro ok;induction ok with
  |none=>exact cI _
  |some k=>exact ab _
 |cons u us ih=>
  intro ok;rw[fP,aj];induction ok with
  |none=>
   show(if u=[34] then gD (aa [[34]]) us else u::gD ac us).flatten.length<=_;by_cases h:u=[34]
   ·rw[if_pos h,h];exact aA (ih _) (fg (qg _).symm)
   ·rw[if_neg h,fP,aj];have q:=dX (ih ac) ↑u;exact aA q (fg (Nat.add_left_comm ..))
  |some k=>
   show(if u=[34] then gD ac us else gD (aa (k++[u])) us).flatten.length<=_;by_cases h:u=[34]
   ·rw[if_pos h];exact aA (ih ac) (gb (cI _) (gn ..))
   ·rw[if_neg h];refine aA (ih _) (fg ?_);show(k++[u]).flatten.length+_= ↑k.flatten+_;rw[dz,aj,iM];exact congrArg (λz=> ↑k.flatten+(z+ ↑us.flatten)) (congrArg eX (bu u))
def DO:∀us:List (List Nat),[34] ∉us->gD ac us=us:=by
 intro l9;induction l9 with
 |nil=>intro _;exact rfl
 |cons u us ih=>intro h;show(if u=[34] then gD (aa [[34]]) us else u::gD ac us)=_;rw[if_neg (λe=>h (e▸ay):u≠ [34]),ih λe=>h (aK _ e)]
def oJ (x:Str) (c:Nat):eS x ⟨#[c]⟩=decide (c∈x.cps.toList):=StrLaws.found_one x c
def B0 (hu:∀u∈us,Jz u) (ha:∀c∈us.flatten,c<128) (hl: ↑us.flatten<=9000) (hn: ↑us<=9000):dW [.str (T us.flatten)]=aa (.str (T (gD ac us).flatten)):=by
 have h0:bY .NotIn ↥"\"" (ak 0) (Dr [.str (T us.flatten)] [ah "start",ah "open_pos",ah "result",ah "pos",ah "ch"])=aa (!decide (34∈us.flatten)):=by show aa (!eS (T us.flatten) ⟨#[34]⟩)=_;rw[oJ,qE]
 show(gL (Dr [.str (T us.flatten)] [ah "start",ah "open_pos",ah "result",ah "pos",ah "ch"])).bind (λr=>GG r.2 r.1)=_;unfold gL;by_cases hm:34∈us.flatten
 ·rw[aU (st1:=Dr [.str (T us.flatten)] [ah "start",ah "open_pos",ah "result",ah "pos",ah "ch"]) (by rw[jV (h0.trans (by rw[decide_eq_true hm];rfl))];rfl)];rw[aU (f:=bZ ⇑0 (bf 1)) (st1:=⟨[~~~(.str (T us.flatten)),~~~(.int 0),ac,ac,ac,ac],[],[]⟩) rfl];rw[aU (f:=bZ (jg PV.none) (bf 2)) (st1:=⟨[~~~(.str (T us.flatten)),~~~(.int 0),~~~PV.none,ac,ac,ac],[],[]⟩) rfl];rw[aU (f:=CI (.list []) (bf 3)) (st1:=xS us.flatten 0 ac [] ac ac) rfl];left;let ⟨s',o',uR,v',w',e1,e2,e3,e4⟩:=JC (a:=us.flatten) (Pb hl) us 0 0 ac [] [] ac ac rfl (ade) ⟨ab _,rfl⟩ (by simp;exact adf hn);right;rw[aU (f:=mH _ _ _) (st1:=xS us.flatten s' o' uR v' w') (by rw[jW (Fp (us:=us) rfl hu ha)];exact e1)];have kR:bY .Lt (ak 1) (dJ km (au (ak 0) aZ)) (xS us.flatten s' o' uR v' w')=aa (decide (s'< ↑us.flatten)):=by have hs:sizeLine=2 ^ 24:=rfl;refine fT rfl (iJ (bA rfl rfl) (BZ _ _ (by rw[gG];exact Pb hl))) ?_;rw[gG];show aa (decide ((s':Int)< (↑us.flatten:Int)))=_;congr 2;exact propext cL
  have fin:∀zB:List (List Nat),zB.flatten=(gD ac us).flatten->jz (bY .Lt (ak 1) (dJ km (au (ak 0) aZ))) (aC (oy gZ (ak 3) (au (fN (ak 0) (gV (ak 1)) eD eD) aZ)) br) br (xS us.flatten s' o' uR v' w')=aa (.next,xS us.flatten s' o' zB v' w')->
    ((aC (jz (bY .Lt (ak 1) (dJ km (au (ak 0) aZ))) (aC (oy gZ (ak 3) (au (fN (ak 0) (gV (ak 1)) eD eD) aZ)) br) br) (aC (i6 (eQ "str" A5 ↥"" (au (ak 3) aZ))) br)) (xS us.flatten s' o' uR v' w')).bind (λr=>GG r.2 r.1)=aa (.str (T (gD ac us).flatten)):=by
   intro zB h1 h2;rw[aU h2];have hj:eQ "str" A5 ↥"" (au (ak 3) aZ) (xS us.flatten s' o' zB v' w')= ~~~(.str (T (gD ac us).flatten)):=by refine pB (o:= .pv (.str "")) (ds:=[.ob 0]) rfl rfl rfl ?_;show((aa (zB.map λr=>PV.str (T r))).bind λl=>(yl l).bind λns=>if FS "" ns then aa (CV.pv (.str (zU "" ns))) else ac)=_;rw[bK,show(zB.map λr=>PV.str (T r))=(zB.map T).map PV.str by rw[bC];rfl,IX,bK,if_pos (Hy zB ?_),Nx,h1];rw[h1];exact adg (UZ us ac) hl
   unfold aC i6;rw[hj];rfl
  by_cases qa:s'< ↑us.flatten
  ·refine fin (uR++[us.flatten.drop s']) (by rw[dz];simpa using e4) ?_;rw[tI (kR.trans (by rw[decide_eq_true qa]))];refine dw ?_;rw[uy (j:=0) (l:=uR.map λr=> .str (T r)) rfl (bA (uA (i:=aa (s':Int)) (j:=ac) rfl rfl rfl (by rw[gG];exact Pb hl)) rfl) rfl rfl (pA (by rw[aw];exact Wi e3))];rw[YN (KO qa)];unfold xS;rw[bH];rfl
  ·refine fin uR ?_ ?_
   ·have:us.flatten.drop s'=[]:=sP (V7 qa);rw[this]at e4;simpa using e4
   ·rw[jV (kR.trans (by rw[decide_eq_false qa]))];rfl
 ·have hf:gD ac us=us:=DO us λh=>hm (nE.mpr ⟨[34],h,ay⟩);unfold aC;rw[tI (h0.trans (by rw[decide_eq_false hm];rfl)),hf];rfl
noncomputable def uB:Nat->List (List Nat)->Option Nat
 |o,[]=>aa o
 |o,u::us=>if u=[40] then uB (o+1) us else if u=[41] then(if o=0 then ac else uB (o- 1) us) else uB o us
def Q8:uB o (u::us)=if u=[40] then uB (o+1) us else if u=[41] then(if o=0 then ac else uB (o- 1) us) else uB o us:=rfl
def stC (a:Nz) (o:Int) (v w:OV):St:=⟨[~~~(.str (T a)),~~~(.int o),v,w],[],[]⟩
abbrev xT:St->Option (pj×St):=aC (jz (bY .Eq (ak 3) ↥"(") (aC (I1 .Add 1 ⇑1) br) (aC (jz (bY .Eq (ak 3) ↥")") (aC (I1 .Sub 1 ⇑1) (aC (jz (bY .Lt (ak 1) ⇑0) (aC (i6 (jg (PV.bool false))) br) br) br)) br) br)) br
def Q9 (h1:tg (.pv x) st=aa st1) (h2:body st1=aa (.ret v,st2)):lM tg body (x::xs) st=aa (.ret v,st2):=by rw[IZ,h1];show(body st1).bind _=_;rw[h2];rfl
def Ra (a:Nz) (us:LN):∀(i o:Nat) (v w:OV),
  (uB o us=ac->∃cf,lM (pT (eT (bf 2) (eT (bf 3) pS))) xT ((ml i us).map lP) (stC a o v w)=aa (.ret (.pv (PV.bool false)),cf))/\
  ∀o',uB o us=aa o'->∃v' w',lM (pT (eT (bf 2) (eT (bf 3) pS))) xT ((ml i us).map lP) (stC a o v w)=aa (.next,stC a o' v' w'):=by
 induction us with
 |nil=>intro i o v w;exact⟨λh=>(nomatch h),λo' h=>(by obtain rfl:=ag h;exact⟨v,w,rfl⟩)⟩
 |cons u us ih=>
  intro i o v w;have hl:(ml i (u::us)).map lP=lP (i+ ↑u- 1,T u)::(ml (i+ ↑u) us).map lP:=rfl;let stU:St:=stC a o (~~~(.int (i+ ↑u- 1:Nat))) (~~~(.str (T u)));have c1:bY .Eq (ak 3) ↥"(" stU=aa (decide (u=[40])):=fT rfl rfl (isStr _ u [40] _ rfl);have c2:bY .Eq (ak 3) ↥")" stU=aa (decide (u=[41])):=fT rfl rfl (isStr _ u [41] _ rfl);have step:∀o1:Nat,xT stU=aa (.next,stC a o1 (~~~(.int (i+ ↑u- 1:Nat))) (~~~(.str (T u))))->lM (pT (eT (bf 2) (eT (bf 3) pS))) xT ((ml i (u::us)).map lP) (stC a o v w)=lM (pT (eT (bf 2) (eT (bf 3) pS))) xT ((ml (i+ ↑u) us).map lP) (stC a o1 (~~~(.int (i+ ↑u- 1:Nat))) (~~~(.str (T u)))):=λo1 h=>by rw[hl];exact iD (st1:=stU) rfl h
  rw[Q8];by_cases h1:u=[40]
  ·rw[if_pos h1,step (o+1) (dw (by rw[tI (c1.trans (by rw[decide_eq_true h1]))];rfl))];exact ih _ (o+1) _ _
  ·rw[if_neg h1];by_cases h2:u=[41]
   ·rw[if_pos h2];by_cases h3:o=0
    ·rw[if_pos h3];refine⟨λq=>⟨stC a (-1) (~~~(.int (i+ ↑u- 1:Nat))) (~~~(.str (T u))),?_⟩,λq h=>(nomatch h)⟩;rw[hl];refine Q9 (st1:=stU) rfl ?_;subst h3;refine uw ?_;rw[jV (c1.trans (by rw[decide_eq_false h1]))];refine uw ?_;rw[tI (c2.trans (by rw[decide_eq_true h2]))];rfl
    ·rw[if_neg h3,step (o- 1) (dw (by
      rw[jV (c1.trans (by rw[decide_eq_false h1]))];refine dw ?_;rw[tI (c2.trans (by rw[decide_eq_true h2]))];rw[aU (st1:=stC a ((o- 1:Nat):Int) (~~~(.int (i+ ↑u- 1:Nat))) (~~~(.str (T u)))) (by
       rw[show((o- 1:Nat):Int)=(o:Int)- 1 by exact adh h3];rfl)]
      refine dw ?_;rw[jV (show aa (decide (((o- 1:Nat):Int)<0))=aa false by rw[decide_eq_false (adi)])];rfl))]
     exact ih _ (o- 1) _ _
   ·rw[if_neg h2,step o (dw (by
     rw[jV (c1.trans (by rw[decide_eq_false h1]))];refine dw ?_;rw[jV (c2.trans (by rw[decide_eq_false h2]))];rfl))]
    exact ih _ o _ _
def HB (us:LN):∀(ok:Option (List (List Nat))) (u:Nz),u∈gD ok us->u∈ok.getD []\/u∈us\/u=[34]:=by
 induction us with
 |nil=>
  intro ok u h;induction ok with
  |none=>nomatch h
  |some k=>exact .inl h
 |cons v us ih=>
  intro ok u h;have t:∀ {P:Prop},(u∈us\/u=[34])->P\/u∈v::us\/u=[34]:=λh=> .inr (h.imp_left (aK _));induction ok with
  |none=>
   have h:u∈(if v=[34] then gD (aa [[34]]) us else v::gD ac us):=h;by_cases e:v=[34]
   ·rw[if_pos e]at h;exact(ih _ u h).elim (λh=> .inr (.inr (aB.mp h))) t
   ·rw[if_neg e]at h;exact(aH.mp h).elim (λe=> .inr (.inl (e▸ay))) λh=>(ih _ u h).elim (λh=>nomatch h) t
  |some k=>
   have h:u∈(if v=[34] then gD ac us else gD (aa (k++[v])) us):=h;by_cases e:v=[34]
   ·rw[if_pos e]at h;exact(ih _ u h).elim (λh=>nomatch h) t
   ·rw[if_neg e]at h;exact(ih _ u h).elim (λh=>(cb.mp h).imp_right λh=> .inl (by rw[aB.mp h];exact ay)) t
structure Good (us:LN):Prop where
 unit:∀u∈us,Jz u
 ascii:∀u∈us,∀c∈u,c<128
 size: ↑us.flatten<=9000
 count: ↑us<=9000
def Good.cps (h:Good us):∀c∈us.flatten,c<128:=λc hc=>by let ⟨u,hu,hc⟩:=nE.mp hc;exact h.ascii u hu c hc
def Good.gD (h:Good us):(∀u∈gD ac us,Jz u)/\∀c∈(Mine.gD ac us).flatten,c<128:=by
 refine⟨λu hu=> ?_,λc hc=> ?_⟩
 ·rcases HB us ac u hu with h1|h1|h1
  ·nomatch h1
  ·exact h.unit u h1
  ·exact h1▸ .inl ⟨34,by decide,rfl⟩
 ·let ⟨u,hu,hc⟩:=nE.mp hc;rcases HB us ac u hu with h1|h1|h1
  ·nomatch h1
  ·exact h.ascii u h1 c hc
  ·rw[h1]at hc;rw[aB.mp hc];decide
def xU (h:Good us):cZ [.str (T us.flatten)]=aa (PV.bool (uB 0 (gD ac us)==aa 0)):=by
 show(i8 (Dr [.str (T us.flatten)] [ah "opens",ah "pos",ah "ch"])).bind (λr=>GG r.2 r.1)=_;unfold i8;rw[aU (st1:=⟨[~~~(.str (T (gD ac us).flatten)),ac,ac,ac],[],[]⟩) (by
  unfold bZ;rw[mW (l:=[.pv (.str (T us.flatten))]) rfl rfl (B0 h.unit h.cps h.size h.count)];rfl)]
 rw[aU (st1:=stC (gD ac us).flatten ((0:Nat):Int) ac ac) rfl];have hit:zM (ak 0) (stC (gD ac us).flatten ((0:Nat):Int) ac ac)=aa ((ml 0 (gD ac us)).map lP):=Fp rfl h.gD.1 h.gD.2;let ⟨h1,h2⟩:=Ra (gD ac us).flatten (gD ac us) 0 0 ac ac;cases e:uB 0 (gD ac us)with
 |none=>let ⟨cf,h1⟩:=h1 e;rw[uw (f:=mH _ _ _) (st1:=cf) (v:= .pv (PV.bool false)) (by rw[jW hit];exact h1)];rfl
 |some o=>let ⟨v',w',h2⟩:=h2 o e;rw[aU (f:=mH _ _ _) (st1:=stC (gD ac us).flatten (o:Int) v' w') (by rw[jW hit];exact h2)];show aa (PV.bool ((o:Int)==0))=_;congr 2;rw[dr,beq_iff_eq,beq_iff_eq,uY];simp
noncomputable abbrev Rb:Str:=ah "('', '')"
def CT (r:Str×Bool):PV:= .str (if r.2 then r.1 else Rb)
def YP {rs:List (Str×Bool)} (h:∀r∈rs,cZ [.str r.1]=aa (PV.bool r.2)) (hn: ↑rs<1000):hZ [.lst (rs.map λr=> .str r.1)]=aa (.lst (rs.map CT)):=by
 let Xs (l:List PV) (v:OV):St:=⟨[~~~(.lst (rs.map λr=> .str r.1)),aa (.ob 0),v],[],[.list l]⟩;have loop:∀(qs:List (Str×Bool)) (l:List PV) (v:OV),(∀r∈qs,cZ [.str r.1]=aa (PV.bool r.2))-> ↑l+ ↑qs<1000->∃v',lM (bf 2) (aC (jz (yk (ms (j9 cZ (au (ak 2) aZ)))) (aC (bZ ↥"('', '')" (bf 2)) br) br) (aC (oy gZ (ak 1) (au (ak 2) aZ)) br)) (qs.map λr=> .str r.1) (Xs l v)=aa (.next,Xs (l++qs.map CT) v'):=by
  intro qs;induction qs with
  |nil=>exact λl v z z=>⟨v,by rw[zG,bu];rfl⟩
  |cons r qs ih=>
   intro l v hq hl;rw[az]at hl;let ⟨v',e⟩:=ih (l++[CT r]) (~~~(CT r)) (λq Tc=>hq q (aK _ Tc)) (by simp;exact adj hl);refine⟨v',?_⟩;rw[bx,bx,iD (st1:=Xs l (~~~(.str r.1))) (st2:=Xs (l++[CT r]) (~~~(CT r))) rfl ?_,e,bE]
   ·rfl
   ·have hb:yk (ms (j9 cZ (au (ak 2) aZ))) (Xs l (~~~(.str r.1)))=aa (!r.2):=by unfold yk ms;rw[mW (l:=[.pv (.str r.1)]) rfl rfl (hq r ay)];rfl
    rw[aU (st1:=Xs l (~~~(CT r))) (by
     unfold CT;cases e2:r.2 with
     |true=>rw[jV (hb.trans (by rw[e2];rfl))];rfl
     |false=>rw[tI (hb.trans (by rw[e2];rfl))];rfl)]
    refine dw ?_;rw[uy (j:=0) (l:=l) (ds:=[CT r]) rfl rfl rfl rfl (pA (adk hl))];rfl
 show(hX (Dr [.lst (rs.map λr=> .str r.1)] [ah "accepted_values",ah "v"])).bind (λr=>GG r.2 r.1)=_;unfold hX;let ⟨v',e⟩:=loop rs [] ac h (by simp;exact adl hn);rw[aU (st1:=Xs [] ac) rfl,aU (f:=mH _ _ _) (st1:=Xs ([]++rs.map CT) v') (by rw[jW (xs:=rs.map λr=> .str r.1) rfl];exact e)];rfl
noncomputable def gI (p:Nat):List (List Nat):=[[],[[92,40]],[[92,41]],[[34],[40],[34]],[[34],[41],[34]],[[92,34]],[[92,92]]].getD p []
noncomputable def xV (p:Nat):List (List Nat):=[[],[[92,40]],[[92,41]],[],[],[[92,34]],[[92,92]]].getD p []
noncomputable def qF (pc:Nat->List (List Nat)) (c:Nat):List (List Nat):=if c<6 then [40]::[97+c]::pc c else [[65+(c- 6)],[41]]
def unitsOf (n:NN):Nat->List (List Nat):=qF λx=>gI (dP (n x))
def jt (n:NN):Nat->List (List Nat):=qF λx=>xV (dP (n x))
def nX (m:Nat):dP m<7:=fO _ ∅
@[elab_as_elim] theorem U0 {P:Nat->Prop} (h:k<7) (h0:P 0) (h1:P 1) (h2:P 2) (h3:P 3) (h4:P 4) (h5:P 5) (h6:P 6):P k:=by
 rcases yR (fQ h)with h|rfl
 ·exact Ta h h0 h1 h2 h3 h4 h5
 ·exact h6
def JD (h:p<7) (r:LN):gD ac (gI p++r)=xV p++gD ac r:=by refine U0 h ?_ ?_ ?_ ?_ ?_ ?_ ?_<;>rfl
def oV (h:u≠ [34]):gD ac (u::us)=u::gD ac us:=if_neg h
def JE (n:NN) (c:Nat) (r:LN):gD ac (unitsOf n c++r)=jt n c++gD ac r:=by
 unfold unitsOf jt qF;split
 ·show gD ac ([40]::[97+c]::(gI (dP (n c))++r))=_;rw[oV ∅,oV (by simp;exact adm),JD (nX _)];rfl
 ·show gD ac ([65+(c- 6)]::[41]::r)=_;rw[oV (by simp;exact adn),oV ∅];rfl
def uC (n:NN) (cs:Nz):∀(r:LN),gD ac (cs.flatMap (unitsOf n)++r)=cs.flatMap (jt n)++gD ac r:=by
 induction cs with
 |nil=>intro r;exact rfl
 |cons c cs ih=>intro r;rw[bJ,bE,JE,ih,bJ,bE]
noncomputable def af4:List Nat->Bool
 | []=>false
 | [a]=>decide (a≠92)&&decide (a<128)
 | [a,b]=>decide (a=92)&&decide (b<128)
 |_::_::_::_=>false
def Rc (h:af4 u=true):Jz u/\∀c∈u,c<128:=by
 rcases u with _|⟨a,_|⟨b,_|_⟩⟩
 ·exact eV h
 ·let ⟨h1,h2⟩:=dD.mp h;exact⟨.inl ⟨a,of_decide_eq_true h1,rfl⟩,λc hc=>aB.mp hc▸of_decide_eq_true h2⟩
 ·let ⟨h1,h2⟩:=dD.mp h;obtain rfl:=of_decide_eq_true h1;refine⟨.inr ⟨b,rfl⟩,λc hc=> ?_⟩;rcases aH.mp hc with rfl|hc
  ·decide
  ·exact aB.mp hc▸of_decide_eq_true h2
 ·exact eV h
def Ny:((cJ 7).all λp=>(gI p).all af4&&decide (↑(gI p)<=3)&&decide ((gI p).flatten.length<=3))=true:=tt
def vR (h:p<7):(∀u∈gI p,Jz u/\∀c∈u,c<128)/\ ↑(gI p)<=3/\(gI p).flatten.length<=3:=by let ⟨k,h3⟩:=dD.mp (fI.mp Ny p (dM.mpr h));let ⟨h1,h2⟩:=dD.mp k;exact⟨λu hu=>Rc (fI.mp h1 u hu),of_decide_eq_true h2,of_decide_eq_true h3⟩
def JF (n:NN) (h:c<12):(∀u∈unitsOf n c,Jz u/\∀c∈u,c<128)/\ ↑(unitsOf n c)<=5/\(unitsOf n c).flatten.length<=5:=by
 have one:∀a,a≠92->a<128->Jz [a]/\∀c∈[a],c<128:=λa h1 h2=>⟨.inl ⟨a,h1,rfl⟩,λc hc=>aB.mp hc▸h2⟩;unfold unitsOf qF;split
 ·let ⟨h1,h2,h3⟩:=vR (nX (n c));refine⟨λu hu=> ?_,by simp;exact Wl h2,by simp at h3⊢;exact Wl h3⟩;rcases aH.mp hu with rfl|hu
  ·exact one 40 ∅ ∅
  ·rcases aH.mp hu with rfl|hu
   ·exact one _ (ado) (adp ‹_›)
   ·exact h1 u hu
 ·refine⟨λu hu=> ?_,by simp,by simp⟩;rcases aH.mp hu with rfl|hu
  ·exact one _ (adq h) (ads h)
  ·exact aB.mp hu▸one 41 ∅ ∅
def uD (n:NN) (cs:Nz):(∀c∈cs,c<12)->(∀u∈cs.flatMap (unitsOf n),Jz u/\∀c∈u,c<128)/\ ↑(cs.flatMap (unitsOf n))<=5* ↑cs/\(cs.flatMap (unitsOf n)).flatten.length<=5* ↑cs:=by
 induction cs with
 |nil=>intro _;exact⟨λu hu=>(by cases hu),cI _,cI _⟩
 |cons c cs ih=>intro h;left;let ⟨a1,a2,a3⟩:=JF n (h c ay);let ⟨b1,b2,b3⟩:=ih λc hc=>h c (aK _ hc);right;rw[bJ,dz,aj,aj,az];exact⟨λu hu=>(cb.mp hu).elim (a1 u) (b1 u),by exact Wm a2 b2,by exact Wm a3 b3⟩
def ri (n:NN): ↑(toks n)<=12:=by have:=fq (List.Pairwise.imp (R:=BQ n) (λ{a b} (h:BQ n a b) (e:a=b)=>by subst e;exact mX h) (BR n 12 (mN n))) (l₂:=cJ 12) λc hc=>dM.mpr (gk.mp hc);rw[rn]at this;exact this
def Ap (h:toks n=P++Q) (hr:∀u∈r,Jz u/\∀c∈u,c<128) (hl: ↑r<=100) (hf: ↑r.flatten<=100):Good (P.flatMap (unitsOf n)++r):=by
 let ⟨a1,a2,a3⟩:=uD n P λc hc=>(gk (n:=n)).mp (by rw[h];exact fu _ hc);have:=ri n;rw[h,aj]at this;refine⟨λu hu=> ?_,λu hu=> ?_,by rw[dz,aj];exact Wn a3 hf this,by rw[aj];exact Wn a2 hl this⟩
 ·exact((cb.mp hu).elim (a1 u) (hr u)).1
 ·exact((cb.mp hu).elim (a1 u) (hr u)).2
def HC (h1:u≠ [40]) (h2:u≠ [41]):uB o (u::us)=uB o us:=by show(if u=[40] then uB (o+1) us else if u=[41] then(if o=0 then ac else uB (o- 1) us) else uB o us)=_;rw[if_neg h1,if_neg h2]
def Rd (h:p<7) (o:Nat) (us:LN):uB o (xV p++us)=uB o us:=by refine U0 h ?_ ?_ ?_ ?_ ?_ ?_ ?_<;>rfl
def ne1 {a b x:Nat} (h:b<a): [a+x]≠ [b]:=λe=>jS (a8 h (bh a x)) (jH e).1
def YQ (hx:x<6) (o:Nat) (us:LN):uB o (jt n x++us)=uB (o+1) us:=by unfold jt qF;rw[if_pos hx];show uB (o+1) ([97+x]::(xV (dP (n x))++us))=_;rw[HC (ne1 ∅) (ne1 ∅),Rd (nX _)]
def YR (hx:x<6) (o:Nat) (us:LN):uB (o+1) (jt n (6+x)++us)=uB o us:=by unfold jt qF;rw[if_neg (by simp)];show uB (o+1) ([65+(6+x- 6)]::[41]::us)=_;rw[HC (ne1 ∅) (ne1 ∅)];rfl
def HD (M:Nz):∀(P Q:Nz),toks n=P++M++Q->∀us,uB ↑(mj P) (M.flatMap (jt n)++us)=uB ↑(mj (P++M)) us:=by
 induction M with
 |nil=>intro P Q h us;rw[bu];rfl
 |cons c M ih=>
  intro P Q h us;have e1:toks n=P++c::(M++Q):=by rw[h];simp
  rw[bJ,bE,show P++c::M=P++[c]++M by simp,<- (ih (P++[c]) Q (by rw[h];simp) us)];have hc:c<12:=(gk (n:=n)).mp (by rw[e1];exact dS _ ay);rcases bS c 6 with(h6|h6)
  ·rw[YQ h6,(BS e1 h6).2.length_eq,az]
  ·obtain⟨x,rfl⟩:∃x,c=6+x:=⟨c- 6,by exact Wo h6⟩;rw[(DL e1 (Pc hc)).length_eq,az,YR (Pc hc)]
def NA (d:Nat):∀(o:Nat),uB o (bQ d [41])=if d<=o then aa (o- d) else ac:=by
 induction d with
 |zero=>intro o;exact rfl
 |succ d ih=>
  intro o;rw[wu];show(if o=0 then ac else uB (o- 1) (bQ d [41]))=_;by_cases h:o=0
  ·subst h;rfl
  ·rw[if_neg h,ih (o- 1)];by_cases h2:d+1<=o
   ·rw[if_pos h2,if_pos (adt h2)];congr 1;exact adu
   ·rw[if_neg h2,if_neg (adv h2 h)]
def B1:∀d:Nat,gD ac (bQ d [41])=bQ d [41]:=λd=>DO _ λh=>by have:=Ge h;exact absurd this ∅
abbrev LZ:St->Option (pj×St):=(aC (bZ (Bi false g6 (ly (dJ km (au (aX 0) aZ))) ⇑1 (Lg (bY .Gt (bk (aX 0) (ak 0)) (ak 0)) ⇑1 ⇑0)) (bf 9)) (aC (zL true (aX 0) (ak 9)) (aC (EG (j9 iw (au (ba .Div (ak 9) ⇑8) (au (ba .Div (ba .Add ⇑1 (ba .Mod (ak 1) ⇑4)) ⇑4) (au (ba .Div (ba .Add ⇑1 (ba .Mod (ba .FloorDiv (ak 1) ⇑4) ⇑8)) ⇑8) aZ)))) (ak 2) (ak 8)) (aC (jz (bY .Gt (ak 4) (ak 5)) (aC (PP 5 6 (jh (k9 (ak 4)) (jh (k9 (ak 8)) EJ))) br) br) br))))
abbrev Rf:St->Option (pj×St):=(aC (bZ (bk (ak 2) (eQ "str" kJ (ak 8) aZ)) (pT (eT (bf 10) (eT (bf 11) (eT (bf 12) pS))))) (aC (EG (ba .Mod (dJ rH (au (ba .Mult (bk (j9 i7 (au (ak 10) (au (ak 11) (au (ak 12) aZ)))) ⇑0) ⇑8) aZ)) ⇑8) (ak 3) (eQ "str" kJ (ak 8) aZ)) (aC (oy X9 (aX 0) (au (qC false (aX 0) (bk (ak 3) (eQ "str" kJ (ak 8) aZ))) aZ)) br)))
abbrev zp:St->Option (pj×St):=(aC (jz (bY .In (ak 8) (jb (au ↥"(" (au ↥")" aZ)))) (aC (I1 .Add 4 (Lg (bY .Eq (ak 8) ↥"(") ⇑1 (wZ ⇑1))) br) (aC (jz (bY .In (ak 8) ↥"abcdef") LZ (aC (jz (bY .In (ak 8) ↥"ABCDEF") Rf br) br)) br)) br)
abbrev hTg:CV->St->Option St:=pT (eT (bf 7) (eT (bf 8) pS))
def stH (tx yb:PV) (us:Nz) (kU hu:Sp) (dp de:Int) (fi:Str) (a b c d e f:OV):St:=
 ⟨[~~~tx,~~~yb,aa (.ob 1),aa (.ob 2),~~~(.int dp),~~~(.int de),~~~(.str fi),a,b,c,d,e,f],[aa (.ob 0)],[.list (bM us),.dict kU,.dict hu]⟩
def qq (m f:Nat):PV:=(iw (UP f (m%4) (m/4%8))).getD PV.none
noncomputable def nx:Nat->List Nat->Nat
 |k,[]=>k
 |k,u::us=>if k<u then k else nx (k+1) us
def JG:nx k (u::us)=if k<u then k else nx (k+1) us:=rfl
noncomputable def xW:Nat->List Nat->List Int
 |_,[]=>[]
 |k,u::us=>(if k<u then 1 else 0)::xW (k+1) us
def rV:xW k (u::us)=(if k<u then 1 else 0)::xW (k+1) us:=rfl
def NB (us:Nz):∀(k:Nat),us.Pairwise (· < ·)->(∀v∈us,k<v)->∀x∈xW k us,x=1:=by
 induction us with
 |nil=>intro _ _ _ x hx;cases hx
 |cons u us ih=>
  intro k hs h x hx;rw[ef]at hs;have hu:=h u ay;rw[rV,if_pos hu]at hx;rcases aH.mp hx with rfl|hx
  ·rfl
  ·exact ih (k+1) hs.2 (λv hv=>by have:=hs.1 v hv;exact bI ‹_› ‹_›) x hx
def Rg (us:Nz):∀(k:Nat),∀x∈xW k us,x=0\/x=1:=by
 induction us with
 |nil=>intro _ x hx;cases hx
 |cons u us ih=>
  intro k x hx;rw[rV]at hx;rcases aH.mp hx with rfl|hx
  ·split
   ·exact .inr rfl
   ·exact .inl rfl
  ·exact ih (k+1) x hx
def vS (us:Nz):∀(k:Nat),us.Pairwise (· < ·)->(∀v∈us,k<=v)->
  (xW k us).Pairwise (· <= ·)/\k+ ↑((xW k us).filter (below false 1))=nx k us/\nx k us<=k+ ↑us/\k<=nx k us/\nx k us∉us:=by
 induction us with
 |nil=>intro k _ _;exact⟨gW,rfl,ab _,ab _,λh=>by cases h⟩
 |cons u us ih=>
  intro k hs h;have qa:=ef.mp hs;rw[rV,JG];by_cases e:k<u
  ·have h1:=NB us (k+1) qa.2 λv hv=>by have:=qa.1 v hv;exact adw e this
   rw[if_pos e,if_pos e];refine⟨ef.mpr ⟨λx hx=>by rw[h1 x hx];decide,gK (R:=λq q=>True) (λ{a b} ha hb _=>by rw[h1 a ha,h1 b hb];decide) (It (λq q=>trivial))⟩,?_,bh _ _,ab _,λhm=> ?_⟩
   ·rw[cK.mpr]
    ·rfl
    ·intro x hx;rcases aH.mp hx with rfl|hx
     ·decide
     ·rw[h1 x hx];decide
   ·rcases aH.mp hm with rfl|hm
    ·exact aa7 e
    ·have:=qa.1 _ hm;exact O2 e this
  ·have huk:u=k:=by exact adx (h u ay) e
   rw[if_neg e,if_neg e];left;let ⟨a1,a2,a3,a4,a5⟩:=ih (k+1) qa.2 λv hv=>by have:=qa.1 v hv;exact ady this huk
   right;refine⟨ef.mpr ⟨λx hx=>by rcases Rg us (k+1) x hx with rfl|rfl<;>decide,a1⟩,?_,by rw[az];exact adz a3,by exact O9 a4,λhm=> ?_⟩
   ·rw[bl,if_pos tt,az];exact adA a2
   ·rcases aH.mp hm with hm|hm
    ·exact adB a4 hm huk
    ·exact a5 hm
def Rh (st:St) (n:Nat) (hn:n<100) (hj:st.ow (.ob j)=aa l) (h:l[n]? =aa d):nV st (.ob j) (.pv (.int (n:Int)))=aa d:=(Aj hn).trans (by
 show(st.ow (.ob j)).bind _=_;rw[hj];exact h)
def U1 (st:St) (j:Nat) (hc:st.cv=[aa (.ob 0)]):g6.st st (.int (j:Int))=⟨[~~~(.int (j:Int))],[aa (.ob 0)],st.ob⟩:=by unfold kK.st g6;simp[hc]
def gtN (a b:Nat):sT st .Gt (.pv (.int (b:Int))) (.pv (.int (a:Int)))=aa (decide (a<b)):=by show aa (decide ((a:Int)< (b:Int)))=_;refine congrArg aa ?_;rw[dr,decide_eq_true_iff,decide_eq_true_iff];exact cL
def af5 (h:b st=aa true):Lg b f g st=f st:=by unfold Lg;rw[h]
def af6 (h:b st=aa false):Lg b f g st=g st:=by unfold Lg;rw[h]
def U2 {j u:Nat} (hc:st.cv=[aa (.ob 0)]) (ho:st.ob[0]? =aa (.list (bM df))) (hj:j<100) (hu:df[j]? =aa u):
  yp g6 (Lg (bY .Gt (bk (aX 0) (ak 0)) (ak 0)) ⇑1 ⇑0) st (.int (j:Int))=aa (if j<u then 1 else 0):=by
 have h1:nV ⟨[~~~(.int (j:Int))],[aa (.ob 0)],st.ob⟩ (.ob 0) (.pv (.int (j:Int)))=aa (.int (u:Int)):=by
  refine Rh _ j hj (l:=bM df) ?_ ?_
  ·show(match st.ob[0]? with|some (.list l)=>aa l|_=>ac)=_;rw[ho]
  ·unfold bM;rw[bN,hu];rfl
 have h2:bY .Gt (bk (aX 0) (ak 0)) (ak 0) ⟨[~~~(.int (j:Int))],[aa (.ob 0)],st.ob⟩=aa (decide (j<u)):=
  fT (cA rfl rfl h1) rfl (gtN j u)
 unfold yp;rw[U1 st j hc];by_cases h:j<u
 ·rw[af5 (h2.trans (by rw[decide_eq_true h])),if_pos h];rfl
 ·rw[af6 (h2.trans (by rw[decide_eq_false h])),if_neg h];rfl
def NC (hc:st.cv=[aa (.ob 0)]) (ho:st.ob[0]? =aa (.list (bM df))) (hl: ↑df<100) (suf:Nz):∀(pre:Nz),df=pre++suf->
  keysOf (yp g6 (Lg (bY .Gt (bk (aX 0) (ak 0)) (ak 0)) ⇑1 ⇑0) st) ((List.range' ↑pre ↑suf).map λi:Nat=>PV.int (i:Int))=aa (xW ↑pre suf):=by
 induction suf with
 |nil=>exact λq q=>rfl
 |cons u suf ih=>intro pre h;have ih:=ih (pre++[u]) (by rw[h];simp);rw[aj,be]at ih;rw[az,Ts,bx,tr,ih,U2 hc ho (adC (by rw[h,aj,az];exact XO) hl) (u:=u) (by rw[h];simp)];rfl
def DP (h:f st= ~~~(.int (n:Int))) (hn:n<1000):rK f st=aa (iI n):=by unfold rK;rw[h];show(if (0:Int)<=(n:Int)/\(n:Int)<1000 then aa (iI (n:Int).toNat) else ac)=_;rw[if_pos ⟨dO _,cL.mpr hn⟩];rfl
def Ri (h1:f1 st=aa a) (h2:fx st= ~~~(.int x)) (h3:st.ow a=aa l) (h4:keysOf (yp ll f st) l=aa ns) (hs:ns.Pairwise (· <= ·)) (hl: ↑ns<1000):
  Bi right ll f1 fx f st= ~~~(.int (↑(ns.filter (below right x)):Nat)):=by
 unfold Bi;rw[h1,h2];show(st.ow a).bind _=_;rw[h3];show(keysOf _ _).bind _=_;rw[h4];show(if ↑ns<1000 then _ else _)=_;rw[if_pos hl,oG right hs]
def ND (us:Nz):∀(k:Nat),↑(xW k us)= ↑us:=by
 induction us with
 |nil=>intro _;exact rfl
 |cons u us ih=>intro k;rw[rV,az,az,ih]
def Rj (hl: ↑df<100) (hs:df.Pairwise (· < ·)):
  Bi false g6 (ly (dJ km (au (aX 0) aZ))) ⇑1 (Lg (bY .Gt (bk (aX 0) (ak 0)) (ak 0)) ⇑1 ⇑0) (stH tx yb df kU hu dp de fi a b c d e f)= ~~~(.int (nx 0 df:Nat)):=by
 left;let ⟨h1,h2,h3,h4,h5⟩:=vS df 0 hs λv q=>cI v;right;have hr:ly (dJ km (au (aX 0) aZ)) (stH tx yb df kU hu dp de fi a b c d e f)= ~~~(.lst (iI ↑df)):=by
  have:dJ km (au (aX 0) aZ) (stH tx yb df kU hu dp de fi a b c d e f)= ~~~(.int (↑df:Nat)):=by refine iJ (l:=[.ob 0]) rfl ?_;show(if ↑(bM df)<=sizeLine then aa (CV.pv (.int ↑(bM df))) else ac)=_;unfold bM;rw[aw,if_pos (adE hl rfl)]
  unfold ly;rw[DP this (Pd hl)];rfl
 have hk:=NC (st:=stH tx yb df kU hu dp de fi a b c d e f) rfl rfl hl df [] rfl;rw[lU,<- vt]at hk;rw[Ri (l:=iI ↑df) hr rfl rfl hk h1 (by rw[ND];exact Pd hl)];rw[qg]at h2;rw[h2]
def JH {us:Nz}:∀ {x:Nat},us.Pairwise (· < ·)->x∈us->us[↑(us.filter λy=>decide (y<x))]? =aa x/\us.eraseIdx ↑(us.filter λy=>decide (y<x))=us.filter λy=>decide (y≠x):=by
 induction us with
 |nil=>intro x _ h;cases h
 |cons u us ih=>
  intro x hs h;have qa:=ef.mp hs;rcases aH.mp h with rfl|hx
  ·have h0:us.filter (λy=>decide (y<x))=[]:=cK.mpr λy hy=>by have:=qa.1 y hy;simp;exact ce ‹_›
   have h1:us.filter (λy=>decide (y≠x))=us:=bL.mpr λy hy=>by have:=qa.1 y hy;simp;exact jS ‹_›
   rw[bl,if_neg (by simp),h0,bl,if_neg (by simp),h1];exact⟨rfl,rfl⟩
  ·have hu:=qa.1 x hx;let ⟨h1,h2⟩:=ih qa.2 hx;rw[bl,if_pos (decide_eq_true hu),bl,if_pos (decide_eq_true (cU ‹_›)),az,il,List.eraseIdx_cons_succ,h2];exact⟨h1,rfl⟩
def CU {x:Nat} (hs:us.Pairwise (· < ·)) (h:x∉us):(us.filter (λy=>decide (y<=x))++x::us.filter (λy=> !decide (y<=x))).Pairwise (· < ·)/\(us.filter (λy=>decide (y<=x))++x::us.filter (λy=> !decide (y<=x))).Perm (x::us):=by
 refine⟨ib.mpr ⟨hs.filter _,ef.mpr ⟨λy hy=> ?_,hs.filter _⟩,λa ha b hb=> ?_⟩,List.perm_middle.trans (Ow _ (List.filter_append_perm _ _))⟩
 ·have:=(aY.mp hy).2;simp at this;exact this
 ·have h1:=(aY.mp ha);have h2:a<=x:=of_decide_eq_true h1.2;rcases aH.mp hb with rfl|hb
  ·exact adF (λe=>h (e▸h1.1)) h2
  ·have:=(aY.mp hb).2;simp at this;exact adG h2 this
def Rk:
  zp (stH tx yb df kU hu dp de fi a (~~~(.str (T [40]))) c d e f)=aa (.next,stH tx yb df kU hu (dp+1) de fi a (~~~(.str (T [40]))) c d e f)/\
  zp (stH tx yb df kU hu dp de fi a (~~~(.str (T [41]))) c d e f)=aa (.next,stH tx yb df kU hu (dp+ -1) de fi a (~~~(.str (T [41]))) c d e f):=⟨rfl,rfl⟩
def Fq (tx yb:PV) (df:Nz) (kU hu:Sp) (dp de:Int) (fi:Str) (a c d e f:OV) (h1:u≠ [40]) (h2:u≠ [41]):bY .In (ak 8) (jb (au ↥"(" (au ↥")" aZ))) (stH tx yb df kU hu dp de fi a (~~~(.str (T u))) c d e f)=aa false:=by show aa ((T [40]==T u)||((T [41]==T u)||false))=_;rw[LY,LY,decide_eq_false λe=>h1 e.symm,decide_eq_false λe=>h2 e.symm];rfl
def Rl (h:u=[92,40]\/u=[92,41]\/u=[92,34]\/u=[92,92]):
  zp (stH tx yb df kU hu dp de fi a (~~~(.str (T u))) c d e f)=aa (.next,stH tx yb df kU hu dp de fi a (~~~(.str (T u))) c d e f):=by
 have k1:eS "abcdef" (T u)=false/\eS "ABCDEF" (T u)=false/\u≠ [40]/\u≠ [41]:=by rcases h with rfl|rfl|rfl|rfl<;>decide+kernel
 refine dw ?_;rw[jV (Fq _ _ _ _ _ _ _ _ _ _ _ _ _ k1.2.2.1 k1.2.2.2)];refine dw ?_;rw[jV (show aa (eS "abcdef" (T u))=aa false by rw[k1.1])];refine dw ?_;rw[jV (show aa (eS "ABCDEF" (T u))=aa false by rw[k1.2.1])];rfl
def Fs (st:St) (f:Nat) (d:Int) (hf:f<1000) (hd:d≠0) (hi:mZ (md f d)=false):MF st .Div (.pv (.int (f:Nat))) (.pv (.int d))=aa (.fF (md f d)):=by
 have e:AR .Div (.int f) (.int d)=aa (.fF (md f d)):=by show(if _ then ff _ else ac)=_;rw[if_pos ⟨hd,by unfold AP;rw[(rfl:(2:Int) ^ 29=536870912)];simp;exact adH hf,hi⟩,Lc]
 show(AR .Div (.int f) (.int d)).or _=_;rw[e];rfl
def Ft:∀f∈cJ 9,mZ (md (f:Nat) 8)=false/\mZ (md (f:Nat) 4)=false:=by decide+kernel
def L0 {f fo fi:EF} {st:St} {d:PV} {j:Nat} {x:Str} {l:Sp} (h1:f st= ~~~d) (h2:fo st=aa (.ob j)) (h3:fi st= ~~~(.str x)) (h4:st.ob[j]? =aa (.dict l)) (hl: ↑l<100000) (hx:l.lookup x=ac):EG f fo fi st=aa (.next,qR j (.dict (l++[(x,d)])) st):=by unfold EG;rw[h1,h2,h3];show((st.ob[j]?).bind CO.aD).bind _=_;rw[h4];exact if_pos ⟨hl,hx⟩
noncomputable def U3 (us:Nz) (x:Nat):List Nat:=us.filter (λy=>decide (y<=x))++x::us.filter (λy=> !decide (y<=x))
def B2 (hx:x<6):eS "abcdef" (T [97+x])=true/\eS "abcdef" (T [65+x])=false/\eS "ABCDEF" (T [65+x])=true:=by rw[show T [97+x]=⟨#[97+x]⟩ from rfl,show T [65+x]=⟨#[65+x]⟩ from rfl,oJ,oJ,oJ];refine Ta hx ?_ ?_ ?_ ?_ ?_ ?_<;>decide
def JI {tx:PV} {m:Nat} (hm:m<500000000) {df:Nz} {kU hu:Sp} {dp de:Int} {fi:Str} {a c d e f g:OV} {x:Nat} (hx:x<6) (hl: ↑df<6) (hs:df.Pairwise (· < ·)) (Z1:kU.lookup (nm x)=ac) (hll: ↑kU<1000):
  zp (stH tx (.int (m:Nat)) df kU hu dp de fi a (~~~(.str (T [97+x]))) c d e f)=aa (.next,stH tx (.int (m:Nat)) (U3 df (nx 0 df)) (kU++[(nm x,qq m (nx 0 df))]) hu dp (if de<dp then dp else de) (if de<dp then nm x else fi) a (~~~(.str (T [97+x]))) (~~~(.int (nx 0 df:Nat))) d e f):=by
 left;let ⟨_,_,h3,_,_⟩:=vS df 0 hs λv q=>cI v;have hf:nx 0 df<6:=by exact adI h3 hl
 right;refine dw ?_;rw[jV (Fq _ _ _ _ _ _ _ _ _ _ _ _ _ (by simp;exact adJ) (by simp;exact adK))];refine dw ?_;rw[tI (show aa (eS "abcdef" (T [97+x]))=aa true by rw[(B2 hx).1])];generalize uH:nx 0 df=fr at*;let st1:St:=stH tx (.int (m:Nat)) df kU hu dp de fi a (~~~(.str (T [97+x]))) (~~~(.int (fr:Nat))) d e f;let st2:St:=stH tx (.int (m:Nat)) (U3 df fr) kU hu dp de fi a (~~~(.str (T [97+x]))) (~~~(.int (fr:Nat))) d e f;let st3:St:=stH tx (.int (m:Nat)) (U3 df fr) (kU++[(nm x,qq m fr)]) hu dp de fi a (~~~(.str (T [97+x]))) (~~~(.int (fr:Nat))) d e f;have e1:bZ (Bi false g6 (ly (dJ km (au (aX 0) aZ))) ⇑1 (Lg (bY .Gt (bk (aX 0) (ak 0)) (ak 0)) ⇑1 ⇑0)) (bf 9) (stH tx (.int (m:Nat)) df kU hu dp de fi a (~~~(.str (T [97+x]))) c d e f)=aa (.next,st1):=by unfold bZ;rw[Rj (by exact Gi hl) hs,uH];rfl
 have e2:zL true (aX 0) (ak 9) st1=aa (.next,st2):=by rw[LP true (j:=0) (x:=fr) (r:=df) rfl rfl rfl (DH hs) (by exact Wp hl)];rfl
 left;let ⟨r,gg,b,_,_,_,_,hv,_⟩:=QS (f:=fr) (a:=m%4) (c:=m/4%8) hf (fO _ ∅) (fO _ ∅);have hm4:m%4<4:=fO _ ∅;have hm8:m/4%8<8:=fO _ ∅;right;have e3:EG (j9 iw (au (ba .Div (ak 9) ⇑8) (au (ba .Div (ba .Add ⇑1 (ba .Mod (ak 1) ⇑4)) ⇑4) (au (ba .Div (ba .Add ⇑1 (ba .Mod (ba .FloorDiv (ak 1) ⇑4) ⇑8)) ⇑8) aZ)))) (ak 2) (ak 8) st2=aa (.next,st3):=by
  erw [L0 (d:=qq m fr) (j:=1) (x:=nm x) (l:=kU) ?_ rfl rfl rfl (by exact KN hll) Z1]
  ·rfl
  ·have a1:ba .Div (ak 9) ⇑8 st2= ~~~(.fF (md fr 8)):=dq rfl rfl (Fs _ fr 8 (by exact Wp hf) ∅ (Ft fr (dM.mpr (by exact acb hf))).1);have a2:ba .Div (ba .Add ⇑1 (ba .Mod (ak 1) ⇑4)) ⇑4 st2= ~~~(.fF (md ((1+m%4:Nat):Int) 4)):=dq (dq rfl (dq rfl rfl (rc _ m 4 ∅)) (tH _ 1 (m%4))) rfl (Fs _ (1+m%4) 4 (by exact adL) ∅ (Ft _ (dM.mpr (by exact adN))).2);have a3:ba .Div (ba .Add ⇑1 (ba .Mod (ba .FloorDiv (ak 1) ⇑4) ⇑8)) ⇑8 st2= ~~~(.fF (md ((1+m/4%8:Nat):Int) 8)):=dq (dq rfl (dq (dq rfl rfl (xJ _ m 4 ∅ hm ∅)) rfl (rc _ (m/4) 8 ∅)) (tH _ 1 (m/4%8))) rfl (Fs _ (1+m/4%8) 8 (by exact adO) ∅ (Ft _ (dM.mpr (by exact adP))).1);refine mW (bA a1 (bA a2 (bA a3 rfl))) (ds:=UP fr (m%4) (m/4%8)) rfl ?_;unfold qq;rw[hv];rfl
 unfold LZ;rw[aU e1,aU e2,aU e3];refine dw ?_;by_cases hd:de<dp
 ·rw[tI (show aa (decide (de<dp))=aa true by rw[decide_eq_true hd]),if_pos hd,if_pos hd];rfl
 ·rw[jV (show aa (decide (de<dp))=aa false by rw[decide_eq_false hd]),if_neg hd,if_neg hd];rfl
def Rm (hx:x<6) (st:St):kJ st [.pv (.str (T [65+x]))]= ~~~(.str (nm x)):=by
 have h:cM (T [65+x])=nm x/\cw ↑(cM (T [65+x]))=false:=by refine Ta hx ?_ ?_ ?_ ?_ ?_ ?_<;>exact⟨rfl,rfl⟩
 rw[yB st h.2,h.1]
def DQ (st:St) (hj:st.WO (.ob j)=aa l) (h:l.lookup x=aa d):nV st (.ob j) (.pv (.str x))=aa d:=by show(st.WO (.ob j)).bind _=_;rw[hj];exact h
def HE {x:Str} {d:PV} (h:l.lookup x=ac):(l++[(x,d)]).lookup x=aa d:=by rw[OO,h];simp
def NE {α β:Type} (f:α->β) (l:List α):∀i:Nat,(l.map f).eraseIdx i=(l.eraseIdx i).map f:=by
 induction l with
 |nil=>exact λq=>rfl
 |cons a l ih=>
  intro i;induction i with
  |zero=>rfl
  |succ i=>exact congrArg (f a:: ·) (ih i)
def NF {tx:PV} {m:Nat} {df:Nz} {kU hu:Sp} {dp de:Int} {fi:Str} {a c d e f g:OV} {x h:Nat} (hx:x<6) (hl: ↑df<100) (hs:df.Pairwise (· < ·)) (Z1:kU.lookup (nm x)=aa (qq m h)) (hhu:hu.lookup (nm x)=ac) (hll: ↑hu<1000) (hu6:h<6) (Xc:h∈df):
  ∃d' e' f',zp (stH tx (.int (m:Nat)) df kU hu dp de fi a (~~~(.str (T [65+x]))) c d e f)=aa (.next,stH tx (.int (m:Nat)) (df.filter λy=>decide (y≠h)) kU (hu++[(nm x,.int (h:Nat))]) dp de fi a (~~~(.str (T [65+x]))) c d' e' f'):=by
 left;let ⟨r,gg,b,hh,ll,ss,y,hv,hw,hy,Sb,Sq⟩:=QS (f:=h) (a:=m%4) (c:=m/4%8) hu6 (fO _ ∅) (fO _ ∅);have akW:qq m h= .tup [r,gg,b]:=by unfold qq;rw[hv];rfl
 right;let st1:St:=stH tx (.int (m:Nat)) df kU hu dp de fi a (~~~(.str (T [65+x]))) c (~~~r) (~~~gg) (~~~b);let st2:St:=stH tx (.int (m:Nat)) df kU (hu++[(nm x,.int (h:Nat))]) dp de fi a (~~~(.str (T [65+x]))) c (~~~r) (~~~gg) (~~~b);have low:∀st:St,ak 8 st= ~~~(.str (T [65+x]))->eQ "str" kJ (ak 8) aZ st= ~~~(.str (nm x)):=λst h8=>pB (o:= .pv (.str (T [65+x]))) (ds:=[]) h8 rfl rfl (Rm hx st);refine⟨~~~r,~~~gg,~~~b,dw ?_⟩;rw[jV (Fq _ _ _ _ _ _ _ _ _ _ _ _ _ (by simp;exact adQ) (by simp;exact adR))];refine dw ?_;rw[jV (show aa (eS "abcdef" (T [65+x]))=aa false by rw[(B2 hx).2.1])];refine dw ?_;rw[tI (show aa (eS "ABCDEF" (T [65+x]))=aa true by rw[(B2 hx).2.2])];unfold Rf;rw[aU (f:=bZ _ _) (st1:=st1) (by
  unfold bZ;rw[cA (o:= .ob 1) (i:= .pv (.str (nm x))) (d:= .tup [r,gg,b]) rfl (low _ rfl) (DQ _ (l:=kU) rfl (akW▸Z1))];rfl)]
 rw[aU (f:=EG _ _ _) (st1:=st2) (by
  erw [L0 (d:= .int (h:Nat)) (j:=2) (x:=nm x) (l:=hu) ?_ rfl (low _ rfl) rfl (by exact KN hll) hhu]
  ·rfl
  ·have hq:dJ rH (au (ba .Mult (bk (j9 i7 (au (ak 10) (au (ak 11) (au (ak 12) aZ)))) ⇑0) ⇑8) aZ) st1= ~~~(.int (qu ia y)):=by
    refine iJ (bA (dq (cA (mW (l:=[.pv r,.pv gg,.pv b]) rfl rfl hw) rfl (mL _ [hh,ll,ss] 0 ∅ rfl)) rfl (d:= .fF y) ?_) rfl) ?_
    ·exact Hj hy
    ·show(if jv y then aa (CV.pv (.int (qu ia y))) else ac)=_;rw[if_pos Sb]
   refine dq hq rfl ?_;have e:AR .Mod (.int (qu ia y)) (.int 8)=aa (.int (h:Nat)):=by show(if (8:Int)≠0 then aa (PV.int (Int.fmod (qu ia y) 8)) else ac)=_;rw[if_pos ∅,Sq]
   exact Hj e)]
 refine dw ?_;let ⟨p1,p2⟩:=JH hs Xc;have akX:qC false (aX 0) (bk (ak 3) (eQ "str" kJ (ak 8) aZ)) st2= ~~~(.int (↑(df.filter λy=>decide (y<h)):Nat)):=
  Al false (a:= .ob 0) (r:=df) rfl (cA (o:= .ob 2) (i:= .pv (.str (nm x))) rfl (low _ rfl) (DQ _ (l:=hu++[(nm x,.int (h:Nat))]) rfl (HE hhu))) rfl (DH hs) (by exact Pd hl)
 erw [uy (j:=0) (l:=bM df) (r:= .int (h:Nat)) (l':=bM (df.filter λy=>decide (y≠h))) rfl (bA akX rfl) rfl rfl ?_]
 ·rfl
 ·show(if ↑(bM df)<100000/\(0:Int)<=(↑(df.filter λy=>decide (y<h)):Nat) then((bM df)[((↑(df.filter λy=>decide (y<h)):Nat):Int).toNat]?).map λd=>(d,(bM df).eraseIdx ((↑(df.filter λy=>decide (y<h)):Nat):Int).toNat) else ac)=_;unfold bM;rw[aw,if_pos ⟨by exact adT hl,by exact Gh⟩,rx,bN,p1,NE,p2];rfl
def HF (us:LN):∀(vs:LN) (i:Nat),ml i (us++vs)=ml i us++ml (i+ ↑us.flatten) vs:=by
 induction us with
 |nil=>intro vs i;exact rfl
 |cons u us ih=>intro vs i;show _::ml (i+ ↑u) (us++vs)=_::(ml (i+ ↑u) us++_);rw[ih vs,fP,aj,iM]
def Runs (us:LN) (tx yb:PV) (df:Nz) (kU hu:Sp) (dp de:Int) (fi:Str) (vm:Nz) (C3 L8:Sp) (OG Z2:Int) (Z3:Str):Prop:=
 ∀(i:Nat) (a b c d e f:OV),∃a' b' c' d' e' f',lM hTg zp ((ml i us).map lP) (stH tx yb df kU hu dp de fi a b c d e f)=aa (.next,stH tx yb vm C3 L8 OG Z2 Z3 a' b' c' d' e' f')
section
variable {tx yb:PV} {us vs:LN} {df u1 u2:Nz} {kU hu l1 h1 l2 h2:Sp} {dp de d1 e1 d2 e2:Int} {fi f1 f2:Str}
def Runs.nil:Runs [] tx yb df kU hu dp de fi df kU hu dp de fi:=λi a b c d e f=>⟨a,b,c,d,e,f,rfl⟩
def Runs.Cv (h:Runs us tx yb df kU hu dp de fi u1 l1 h1 d1 e1 f1) (h':Runs vs tx yb u1 l1 h1 d1 e1 f1 u2 l2 h2 d2 e2 f2):Runs (us++vs) tx yb df kU hu dp de fi u2 l2 h2 d2 e2 f2:=by intro i a b c d e f;left;let ⟨a',b',c',d',e',f',x⟩:=h i a b c d e f;let ⟨a2,b2,c2,d2,e2,f2,y⟩:=h' (i+ ↑us.flatten) a' b' c' d' e' f';right;exact⟨a2,b2,c2,d2,e2,f2,by rw[HF,bH,QN x];exact y⟩
def Runs.one (h:∀(a c d e f:OV),∃a' b' c' d' e' f',zp (stH tx yb df kU hu dp de fi a (~~~(.str (T u))) c d e f)=aa (.next,stH tx yb u1 l1 h1 d1 e1 f1 a' b' c' d' e' f')):Runs [u] tx yb df kU hu dp de fi u1 l1 h1 d1 e1 f1:=by intro i a b c d e f;left;let ⟨a',b',c',d',e',f',x⟩:=h (~~~(.int ((i+ ↑u- 1:Nat):Int))) c d e f;right;exact⟨a',b',c',d',e',f',(iD (st1:=stH tx yb df kU hu dp de fi (~~~(.int ((i+ ↑u- 1:Nat):Int))) (~~~(.str (T u))) c d e f) rfl x).trans rfl⟩
def Runs.op:Runs [[40]] tx yb df kU hu dp de fi df kU hu (dp+1) de fi:= .one λa c d e f=>⟨_,_,_,_,_,_,Rk.1⟩
def Runs.cl:Runs [[41]] tx yb df kU hu dp de fi df kU hu (dp+ -1) de fi:= .one λa c d e f=>⟨_,_,_,_,_,_,Rk.2⟩
def Runs.skip (h:u=[92,40]\/u=[92,41]\/u=[92,34]\/u=[92,92]):Runs [u] tx yb df kU hu dp de fi df kU hu dp de fi:= .one λa c d e f=>⟨_,_,_,_,_,_,Rl h⟩
def Runs.bare (h:p<7):Runs (xV p) tx yb df kU hu dp de fi df kU hu dp de fi:=by
 refine U0 h ?_ ?_ ?_ ?_ ?_ ?_ ?_
 ·exact .nil
 ·exact .skip (.inl rfl)
 ·exact .skip (.inr (.inl rfl))
 ·exact .nil
 ·exact .nil
 ·exact .skip (.inr (.inr (.inl rfl)))
 ·exact .skip (.inr (.inr (.inr rfl)))
end
def zq {F:Nat->PV} {l:Nz} (h:x∉l):(l.map λy=>(nm y,F y)).lookup (nm x)=ac:=by
 induction l with
 |nil=>rfl
 |cons a l ih=>rw[bx,di,Jr,show(x==a)=false from beq_false_of_ne λe=>h (e▸ay)];exact ih λe=>h (aK _ e)
structure HI (n:NN) (m:Nat) (P:Nz) (h:NN) (df:Nz) (kU hu:Sp) (dp de:Nat) (fi:Str):Prop where
 le:∀x∈P,x<6->h x<= ↑(vi n x)
 ne:∀x∈P,x<6->∀y∈vi n x,h y≠h x
 Zo:df.Pairwise (· < ·)
 perm:df.Perm ((mj P).map h)
 lt:kU=(P.filter λc=>decide (c<6)).map λy=>(nm y,qq m (h y))
 hv:hu=((P.filter λc=>decide (6<=c)).map λc=>c- 6).map λy=>(nm y,.int (h y:Nat))
 dl:dp= ↑(mj P)
 dm:∀y∈P,y<6-> ↑(vi n y)+1<=de
 fm:((∀y∈P,6<=y)/\de=0)\/∃f∈P,f<6/\ ↑(vi n f)+1=de/\fi=nm f
def YS (h:toks n=P++x::Q) (hx:x<6): ↑(mj P)<6:=by
 have:=fq (fE.mpr ⟨(BS h hx).1,rh P⟩) (l₂:=L6) λy hy=>by
  rcases aH.mp hy with rfl|hy
  ·exact fY.mpr hx
  ·exact fY.mpr (oI.mp hy).1
 rw[az]at this;have: ↑L6=6:=rfl;assumption
def af7 (hm:m<500000000) (ht:toks n=P++x::Q) (hx:x<6) (H:HI n m P h df kU hu dp de fi):
  ∃(h':NN) (vm:Nz) (C3 L8:Sp) (OG Z2:Nat) (Z3:Str),Runs (jt n x) tx (.int (m:Nat)) df kU hu dp de fi vm C3 L8 OG Z2 Z3/\HI n m (P++[x]) h' vm C3 L8 OG Z2 Z3:=by
 let ⟨Sg,Ed⟩:=BS ht hx;have VC:=Jy ht hx;have hxP:x∉P:=λe=>mX ((oH ht).mp e).2;have hcP:6+x∉P:=λe=>by have h1:=((oH ht).mp e).2;have:=BP (n:=n) hx;unfold BQ at h1;erw [Hu,xQ hx]at h1;exact adU h1 this
 have hul: ↑df= ↑(mj P):=by erw [H.perm.length_eq,aw]
 left;let ⟨_,_,Ia,_,Sj⟩:=vS df 0 H.Zo λv q=>cI v;let ⟨hi1,hi2⟩:=CU H.Zo Sj;right;let f:=nx 0 df;let h':Nat->Nat:=λy=>if y=x then f else h y;have sI:h' x=f:=if_pos rfl;have W7:∀y,y≠x->h' y=h y:=λy hy=>if_neg hy;have ZP:∀y,y∈P->h' y=h y:=λy hy=>W7 y λe=>hxP (e▸hy);refine⟨h',U3 df f,kU++[(nm x,qq m f)],hu,dp+1,if de<dp+1 then dp+1 else de,if de<dp+1 then nm x else fi,?_,?_⟩
 ·have e:jt n x=[[40]]++([[97+x]]++xV (dP (n x))):=by unfold jt qF;erw [if_pos hx];rfl
  erw [e];refine Runs.op.Cv (Runs.Cv ?_ (Runs.bare (nX _)));refine .one λa c d e f=>⟨a,~~~(.str (T [97+x])),~~~(.int (nx 0 df:Nat)),d,e,f,?_⟩;erw [JI (g:=ac) hm hx (adV hul (YS ht hx)) H.Zo ?_ ?_]
  rotate_left
  ·erw [H.lt];exact zq (F:=λy=>qq m (h y)) λe=>hxP (aY.mp e).1
  ·have:=ri n;erw [ht,aj]at this;erw [H.lt,aw];exact Wq (eY (λc=>decide (c<6)) P) this
  ·by_cases hd:de<dp+1
   ·erw [if_pos hd,if_pos hd,if_pos (show(de:Int)< (dp:Int)+1 by exact Wr hd),if_pos (show(de:Int)< (dp:Int)+1 by exact Wr hd)];rfl
   ·erw [if_neg hd,if_neg hd,if_neg (show ¬(de:Int)< (dp:Int)+1 by exact Ws hd),if_neg (show ¬(de:Int)< (dp:Int)+1 by exact Ws hd)];rfl
 ·refine⟨λy hy IE=> ?_,λy hy IE z hz=> ?_,hi1,?_,?_,?_,?_,λy hy IE=> ?_,.inr ?_⟩
  ·rcases cb.mp hy with hy|hy
   ·erw [ZP y hy];exact H.le y hy IE
   ·erw [aB.mp hy,sI,<- VC];show nx 0 df<=_;exact adW Ia hul
  ·rcases cb.mp hy with hy|hy
   ·erw [ZP y hy,W7 z λe=>DK (n:=n) (a:=x) (c:=y) (e▸(jX.mp hz).2.1) ((oH ht).mp hy).2];exact H.ne y hy IE z hz
   ·erw [aB.mp hy]at hz⊢;erw [sI,W7 z λe=>mX (n:=n) (a:=x) (e▸(jX.mp hz).2.1)];erw [<- VC]at hz;refine λe=>Sj ?_;have h4:=H.perm.mem_iff.mpr (Ot (f:=h) hz);erw [show h z=nx 0 df from e]at h4;exact h4
  ·refine hi2.trans ?_;refine List.Perm.trans ?_ (Ed.map h').symm;erw [bx,sI];refine Ow _ (H.perm.trans ?_);erw [cj λy hy=>(W7 y λe=>Sg (e▸hy)).symm]
  ·erw [H.lt,bT,bH,cj λy hy=>by erw [<- ZP y (aY.mp hy).1]];erw [bl,if_pos (decide_eq_true hx)];show _++[(nm x,qq m f)]=_++[(nm x,qq m (h' x))];erw [sI]
  ·erw [H.hv,bT,bl,if_neg (by simp;exact adX hx),oZ,bu];refine cj λy hy=> ?_;let ⟨c,hc,rfl⟩:=aQ.mp hy;erw [aY]at hc;erw [W7 (c- 6) λe=>hcP (by have:=of_decide_eq_true hc.2;exact(show 6+x=c by exact Wt this e)▸hc.1)]
  ·erw [Ed.length_eq,az,H.dl]
  ·rcases cb.mp hy with hy|hy
   ·have:=H.dm y hy IE;split<;>(first|exact adY this ‹_› |exact adZ this)
   ·erw [aB.mp hy,<- VC,<- H.dl];split<;>(first|exact ad0|exact ad1 ‹_›)
  ·by_cases hd:de<dp+1
   ·erw [if_pos hd,if_pos hd];exact⟨x,dS _ ay,hx,by erw [<- VC,H.dl],rfl⟩
   ·erw [if_neg hd,if_neg hd];rcases H.fm with⟨_,h0⟩|⟨g,h1,h2⟩
    ·exact(ad2 h0 hd).elim
    ·exact⟨g,fu _ h1,h2⟩
def af8 (ht:toks n=P++(6+x)::Q) (hx:x<6) (H:HI n m P h df kU hu dp de fi):
  ∃(vm:Nz) (C3 L8:Sp) (OG:Nat),Runs (jt n (6+x)) tx (.int (m:Nat)) df kU hu dp de fi vm C3 L8 OG de fi/\HI n m (P++[6+x]) h vm C3 L8 OG de fi:=by
 have Ed:=DL ht hx;have hxo:x∈mj P:=Ed.mem_iff.mpr ay;have hxP:x∈P:=(oI.mp hxo).2.1;have Me:df.Perm (h x::(mj (P++[6+x])).map h):=H.perm.trans (Ed.map h);have akZ: ↑(vi n x)<6:=by
  have:=fq (l₁:=x::vi n x) (fE.mpr ⟨λh=>mX (jX.mp h).2.1,lg.filter _⟩) (l₂:=L6) λy hy=>by
   rcases aH.mp hy with rfl|hy
   ·exact fY.mpr hx
   ·exact fY.mpr (jX.mp hy).1
  rw[az]at this;exact this
 refine⟨df.filter λy=>decide (y≠h x),kU,hu++[(nm x,.int (h x:Nat))],↑(mj (P++[6+x])),?_,?_⟩
 ·have k1:kU.lookup (nm x)=aa (qq m (h x)):=by rw[H.lt];exact vK (F:=λy=>qq m (h y)) (aY.mpr ⟨hxP,decide_eq_true hx⟩)
  have k2:hu.lookup (nm x)=ac:=by rw[H.hv];refine zq (F:=λy=> .int (h y:Nat)) λe=> ?_;let ⟨c,hc,e⟩:=aQ.mp e;rw[aY]at hc;have:=of_decide_eq_true hc.2;exact((oI.mp hxo).2.2) (by rw[show 6+x=c by exact Wt this e];exact hc.1)
  have k3: ↑hu<1000:=by have:=ri n;rw[ht,aj]at this;rw[H.hv,aw,aw];exact Wq (eY (λc=>decide (6<=c)) P) this
  have e:jt n (6+x)=[[65+x]]++[[41]]:=by unfold jt qF;rw[if_neg (Wu),show 6+x- 6=x by exact KQ];rfl
  rw[e];rw[(by exact ad4 (by rw[H.dl,Ed.length_eq,az]):(↑(mj (P++[6+x])):Int)=(dp:Int)+ -1)];refine Runs.Cv (.one λa c d e f=> ?_) Runs.cl;left;let ⟨d',e',f',hh⟩:=NF (g:=ac) (tx:=tx) (m:=m) (dp:=(dp:Int)) (de:=(de:Int)) (fi:=fi) (a:=a) (c:=c) (d:=d) (e:=e) (f:=f) hx (ad5 (by rw[H.perm.length_eq,aw]: ↑df= ↑(mj P)) (eY _ L6)) H.Zo k1 k2 k3 (by have:=H.le x hxP hx;exact ad3 this akZ) (H.perm.mem_iff.mpr (Ot hxo));right;exact⟨_,_,_,_,_,_,hh⟩
 ·have old:∀y,y∈P++[6+x]->y<6->y∈P:=λy hy IE=>(cb.mp hy).elim id λe=>by have:=aB.mp e;exact(ad6 IE this).elim
  refine⟨λy hy IE=>H.le y (old y hy IE) IE,λy hy IE=>H.ne y (old y hy IE) IE,H.Zo.filter _,?_,?_,?_,rfl,λy hy IE=>H.dm y (old y hy IE) IE,?_⟩
  ·refine(Me.filter _).trans ?_;erw [bl,if_neg (by simp),bL.mpr λy hy=> ?_];exact decide_eq_true λe=>(fE.mp (Me.nodup_iff.mp (Ht H.Zo))).1 (e▸hy)
  ·rw[H.lt,bT,bl (x:=6+x),if_neg (by simp),oZ,bu]
  ·rw[H.hv,bT,bH,bH,bl (x:=6+x),if_pos (by simp),oZ];show _=_++[(nm (6+x- 6),PV.int (h (6+x- 6):Nat))];rw[show 6+x- 6=x by exact KQ]
  ·rcases H.fm with⟨h1,h0⟩|⟨g,h1,h2⟩
   ·exact absurd (h1 x hxP) (ad7 hx)
   ·exact .inr ⟨g,fu _ h1,h2⟩
def YT (hm:m<500000000) (Q:Nz):∀(P:Nz) (h:NN) (df:Nz) (kU hu:Sp) (dp de:Nat) (fi:Str),toks n=P++Q->HI n m P h df kU hu dp de fi->
  ∃(h':NN) (vm:Nz) (C3 L8:Sp) (OG Z2:Nat) (Z3:Str),Runs (Q.flatMap (jt n)) tx (.int (m:Nat)) df kU hu dp de fi vm C3 L8 OG Z2 Z3/\HI n m (toks n) h' vm C3 L8 OG Z2 Z3:=by
 induction Q with
 |nil=>intro P h df kU hu dp de fi ht H;exact⟨h,df,kU,hu,dp,de,fi,.nil,by rw[ht,bu];exact H⟩
 |cons c Q ih=>
  intro P h df kU hu dp de fi ht H;have hc:c<12:=(gk (n:=n)).mp (by rw[ht];exact dS _ ay);have ht':toks n=(P++[c])++Q:=by rw[ht];simp
  rw[bJ];rcases bS c 6 with(h6|h6)
  ·let ⟨h1,u1,l1,k1,d1,e1,f1,r1,H1⟩:=af7 (tx:=tx) hm ht h6 H;left;let ⟨h2,u2,l2,k2,d2,e2,f2,r2,H2⟩:=ih _ h1 u1 l1 k1 d1 e1 f1 ht' H1;right;exact⟨h2,u2,l2,k2,d2,e2,f2,r1.Cv r2,H2⟩
  ·obtain⟨x,rfl⟩:∃x,c=6+x:=⟨c- 6,by exact Wo h6⟩;left;let ⟨u1,l1,k1,d1,r1,H1⟩:=af8 (tx:=tx) ht (Pc hc) H;let ⟨h2,u2,l2,k2,d2,e2,f2,r2,H2⟩:=ih _ h u1 l1 k1 d1 de fi ht' H1;right;exact⟨h2,u2,l2,k2,d2,e2,f2,r1.Cv r2,H2⟩
def zr (n:NN):List Nat:=((toks n).filter λc=>decide (6<=c)).map λc=>c- 6
def iA (n:NN):List Nat:=((toks n).flatMap (unitsOf n)).flatten
def zt (h:f st=aa (.next,st1)):yq f g st=g st1:=by unfold yq;rw[h];rfl
def YU (n:NN) (m:Nat):HI n m [] (λq=>0) [] [] [] 0 0 "" where
 le:=λx hx=>absurd hx gw
 ne:=λx hx=>absurd hx gw
 Zo:=gW
 perm:=List.Perm.nil
 lt:=rfl
 hv:=rfl
 dl:=rfl
 dm:=λx hx=>absurd hx gw
 fm:= .inl ⟨λx hx=>absurd hx gw,rfl⟩
def U4 (hm:m<500000000):∃(h:NN) (de f:Nat),Nw n h/\f<6/\ ↑(vi n f)+1=de/\(∀x,x<6-> ↑(vi n x)+1<=de)/\
  tz [.str (T (iA n)),.int (m:Nat)]=aa (.tup [.oK ((zr n).map λy=>(nm y,.int (h y:Nat))),.int (de:Nat),.str (nm f)]):=by
 have hg:Good ((toks n).flatMap (unitsOf n)):=by have:=Ap (n:=n) (P:=toks n) (Q:=[]) (by simp) (r:=[]) (λu hu=>by cases hu) ∅ ∅;rwa [bu]at this
 have rp:gD ac ((toks n).flatMap (unitsOf n))=(toks n).flatMap (jt n):=by have:=uC n (toks n) [];rw[bu]at this;rw[this];show _++[]=_;rw[bu]
 let tx:PV:= .str (T (iA n));let ⟨h,df,kU,hu,dp,de,fi,hr,H⟩:=YT (n:=n) (m:=m) hm (tx:=tx) (toks n) [] (λq=>0) [] [] [] 0 0 "" (gf _).symm
  (YU n m)
 left;obtain⟨f,hf,hf6,hfd,rfl⟩:∃f∈toks n,f<6/\ ↑(vi n f)+1=de/\fi=nm f:=H.fm.resolve_left λe=>absurd (e.1 0 (gk.mpr ∅)) ∅;right;refine⟨h,de,f,⟨λx hx=>H.le x (gk.mpr (Pe hx)) hx,λx hx=>H.ne x (gk.mpr (Pe hx)) hx⟩,hf6,hfd,λx hx=>H.dm x (gk.mpr (Pe hx)) hx,?_⟩;left;let ⟨a,b,c,d,e,g,hr⟩:=hr 0 ac ac ac ac ac ac;right;let s0:St:=⟨[~~~tx,~~~(.int (m:Nat)),ac,ac,ac,ac,ac,ac,ac,ac,ac,ac,ac],[ac],[]⟩;have e1:yq (mH (zM (j9 dW (au (ak 0) aZ))) hTg zp) (jh (k9 (ak 3)) (jh (k9 (ak 5)) (jh (k9 (ak 6)) EJ))) (stH tx (.int (m:Nat)) [] [] [] 0 0 "" ac ac ac ac ac ac)=aa ([.ob 2,.pv (.int (de:Nat)),.pv (.str (nm f))],stH tx (.int (m:Nat)) df kU hu dp de (nm f) a b c d e g):=by rw[zt (st1:=stH tx (.int (m:Nat)) df kU hu dp de (nm f) a b c d e g) (by rw[jW (Fp (us:=(toks n).flatMap (jt n)) (mW (l:=[.pv tx]) rfl rfl (rp▸B0 hg.unit hg.cps hg.size hg.count)) (rp▸hg.gD.1) (rp▸hg.gD.2))];exact hr)];rfl
 have e2:nu s0=aa ([.ob 2,.pv (.int (de:Nat)),.pv (.str (nm f))],stH tx (.int (m:Nat)) df kU hu dp de (nm f) a b c d e g):=by unfold nu;rw[zt (st1:=stH tx (.int (m:Nat)) [] [] [] 0 0 "" ac ac ac ac ac ac) rfl];exact e1
 show(nu s0).bind (λr=>afx r.2 r.1)=_;rw[e2];show aa (PV.tup [.oK hu,_,_])=_;rw[H.hv];rfl
def Fu (l:List Int) (n:NN) (rs:SS) (ob:List CO) (y x j hu:OV) (text unit opening bare AW first wide front given kept right pair due:Option CV:=ac):St:=
 {lv:=[~~~(.lst (l.map PV.int)),y,aa (.ob 3),aa (.ob 4),text,aa (.ob 5),unit,opening,bare,AW,first,wide,front,given,kept,right,pair,due],
  cv:=[~~~(cq λi=> .int (bg n i:Nat)),hu,j,~~~(g4 n),~~~(cq λi=> .int (Cy n i)),~~~(mM n),~~~(cq λi=>fL (kz n i)),~~~(cq λi=>fL (ii n i)),aa (.inst 0),~~~(cq λk=>jO (n k)),~~~(cq λk=>g0 (dP (n k))),~~~jr,~~~(cq λk=>cE (n k)),~~~(.lst (ig λk=>(n k:Int))),~~~(.lst ((numsOf l).map PV.int)),x],
  ob:=hU (rs.map cW)++ob}
def YV (l:List Int) (n:NN) (y x:OV) (rs:SS):xt (UT l n y x rs)=aa (.next,UT l n y x rs):=by
 unfold xt;erw [jV (fT (a:= .pv (g4 n)) (b:= .pv (g4 n)) ?_ rfl ?_)]
 ·rfl
 ·erw [yC (λst=>∃a b,st=⟨[a,b],[~~~(cq λk=>cE (n k)),~~~(cq λi=> .int (Cy n i)),~~~(cq λi=> .int (bg n i:Nat))],hU (rs.map cW)⟩) (λi j=>decide (Cy n i< (bg n j:Nat))) (λi j=> .str (nm i++nm j)) (qD _ (λk=>cE (n k)) rfl) ⟨ac,ac,rfl⟩ ?_]
  ·erw [DJ n (λi j=>decide (Cy n i< (bg n j:Nat))) λi hi j hj=> ?_];rw[rU hi hj,Fm hi,dr,decide_eq_true_iff,decide_eq_true_iff];simp
  ·rintro i hi st ⟨a,b,rfl⟩;refine⟨⟨[~~~(.str (nm i)),b],[~~~(cq λk=>cE (n k)),~~~(cq λi=> .int (Cy n i)),~~~(cq λi=> .int (bg n i:Nat))],hU (rs.map cW)⟩,rfl,rfl,⟨_,_,rfl⟩,qD _ (λk=>cE (n k)) rfl,λst=>∃b,st=⟨[~~~(.str (nm i)),b],[~~~(cq λk=>cE (n k)),~~~(cq λi=> .int (Cy n i)),~~~(cq λi=> .int (bg n i:Nat))],hU (rs.map cW)⟩,⟨_,rfl⟩,λst ⟨b,h⟩=>⟨_,b,h⟩,?_⟩;rintro j hj st ⟨b,rfl⟩;refine⟨⟨[~~~(.str (nm i)),~~~(.str (nm j))],[~~~(cq λk=>cE (n k)),~~~(cq λi=> .int (Cy n i)),~~~(cq λi=> .int (bg n i:Nat))],hU (rs.map cW)⟩,rfl,?_,⟨_,rfl⟩,λq=>dq (f:=ak 0) (g:=ak 1) rfl rfl (kg _ _ _ (by rw[jP,jP];decide))⟩;exact fT (cA (f:=aX 1) (g:=ak 0) rfl rfl (gi _ (λi=> .int (Cy n i)) (fY.mpr hi))) (cA (f:=aX 2) (g:=ak 1) rfl rfl (gi _ (λi=> .int (bg n i:Nat)) (fY.mpr hj))) rfl
 ·refine yA ?_;show(iH ((jQ n).map PV.str) ((jQ n).map PV.str)).map (!·)=aa false;rw[tJ];rfl
def YW (l:List Int) (n:NN) (y x:OV) (rs:SS):BA (UT l n y x rs)=aa (.next,Fu l n rs [.list [],.list [],.list []] y x ac ac (text:= ~~~(.str ""))):=rfl
def ny (n:NN) (P:Nz) (m:Nat):List Nat:=(cJ m).flatMap λj=>P.filter λc=>bg n c==j
def oW (n:NN) (P:Nz) (m:Nat):ny n P (m+1)=ny n P m++P.filter λc=>bg n c==m:=by unfold ny;rw[lT,iC,bJ,sz,bu]
def pC:c∈ny n P m↔c∈P/\bg n c<m:=by unfold ny;simp only[iO,dM,aY,beq_iff_eq];exact⟨λ⟨j,h1,h2,h3⟩=>⟨h2,h3▸h1⟩,λ⟨h1,h2⟩=>⟨_,h2,h1,rfl⟩⟩
def zu (n:NN) (P:Nz):∀m,(ny n P m).Pairwise λa c=>bg n a<=bg n c:=by
 intro l9;induction l9 with
 |zero=>exact gW
 |succ m ih=>
  rw[oW,ib];refine⟨ih,?_,λa ha c hc=> ?_⟩
  ·refine gK (R:=λq q=>True) ?_ (It λq q=>trivial);intro a c ha hc _;have h1:=(aY.mp ha).2;have h2:=(aY.mp hc).2;rw[beq_iff_eq]at h1 h2;exact XS h1 h2
  ·have h1:=(pC.mp ha).2;have h2:=(aY.mp hc).2;rw[beq_iff_eq]at h2;exact ad8 h1 h2
def NG {m:Nat}:m<=bg n x->ny n (P++x::R) m=ny n (P++R) m:=by
 induction m with
 |zero=>intro _;exact rfl
 |succ m ih=>intro h;erw [oW,oW,ih (O9 h),bT,bT,bl,if_neg (by simp;exact ad9 h)]
theorem B3 (q:Nat->Bool) (kR:∀c,bg n c<bg n x->q c=true) (hgt:∀c,bg n x<bg n c->q c=false) (hP:∀c∈P,bg n c=bg n x->q c=true) (hR:∀c∈R,bg n c=bg n x->q c=false):∀ {m:Nat},bg n x<m->ny n (P++x::R) m=(ny n (P++R) m).filter q++x::(ny n (P++R) m).filter λc=> !q c
 |m+1,h=>by
  erw [oW,oW];by_cases hm:bg n x<m
  ·have e1:((P++R).filter λc=>bg n c==m).filter q=[]:=cK.mpr λc hc=>by have:=(aY.mp hc).2;erw [beq_iff_eq]at this;erw [hgt c (CF hm this)];decide
   have e2:((P++R).filter λc=>bg n c==m).filter (λc=> !q c)=(P++R).filter λc=>bg n c==m:=bL.mpr λc hc=>by have:=(aY.mp hc).2;erw [beq_iff_eq]at this;erw [hgt c (CF hm this)];rfl
   erw [bT (p:=q),bT (p:=λc=> !q c),e1,e2,B3 q kR hgt hP hR hm,bT (p:=λc=>bg n c==m),bT (p:=λc=>bg n c==m),bl (x:=x),if_neg (by simp;exact Wc hm)];simp
  ·have hx:bg n x=m:=by exact aea h hm
   have e3:(P.filter λc=>bg n c==m).filter q=P.filter λc=>bg n c==m:=bL.mpr λc hc=>by erw [aY,beq_iff_eq]at hc;exact hP c hc.1 (hc.2.trans hx.symm)
   have e4:(R.filter λc=>bg n c==m).filter q=[]:=cK.mpr λc hc=>by erw [aY,beq_iff_eq]at hc;erw [hR c hc.1 (hc.2.trans hx.symm)];decide
   have e5:(P.filter λc=>bg n c==m).filter (λc=> !q c)=[]:=cK.mpr λc hc=>by erw [aY,beq_iff_eq]at hc;erw [hP c hc.1 (hc.2.trans hx.symm)];decide
   have e6:(R.filter λc=>bg n c==m).filter (λc=> !q c)=R.filter λc=>bg n c==m:=bL.mpr λc hc=>by erw [aY,beq_iff_eq]at hc;erw [hR c hc.1 (hc.2.trans hx.symm)];rfl
   erw [bT (p:=q),bT (p:=λc=> !q c),(bL.mpr λc hc=>kR c (by have:=(pC.mp hc).2;exact CF this hx)),(cK.mpr λc hc=>by erw [kR c (by have:=(pC.mp hc).2;exact CF this hx)];decide:(ny n (P++R) m).filter (λc=> !q c)=[]),NG (TG hx),bT (p:=λc=>bg n c==m) (l₁:=P) (l₂:=R),bT (p:=q),bT (p:=λc=> !q c),e3,e4,e5,e6,bT,bl (x:=x),if_pos (by simp;exact ab9 hx)];simp
def Rn (q:α->Bool) {l:List α}:l.Pairwise (λa c=>q c=true->q a=true)->l.filter q++l.filter (λc=> !q c)=l:=by
 induction l with
 |nil=>intro _;exact rfl
 |cons a l ih=>
  intro h;rw[ef]at h;cases e:q a with
  |true=>rw[bl,if_pos e,bl,if_neg (by simp[e]),sC,ih h.2]
  |false=>
   have h1:∀c∈l,q c=false:=λc hc=>by
    cases e2:q c with
    |false=>rfl
    |true=>rw[h.1 c hc e2]at e;nomatch e
   rw[bl,if_neg (by simp[e]),bl,if_pos (by simp[e]),cK.mpr λc hc=>by rw[h1 c hc];decide,bL.mpr λc hc=>by rw[h1 c hc];rfl];rfl
def DR (hi:i<6) (hc:st.cv[0]? =aa (~~~(cq λi=> .int (bg n i:Nat)))) (right:Bool):yp (if right then qZ else ra) (bk (aX 0) (ak 0)) st (.str (nm i))=aa ((bg n i:Nat):Int):=by
 have e:∀ll:kK,ll.su=[(ah "begin",0)]->ll.st st (.str (nm i))=⟨[~~~(.str (nm i))],[~~~(cq λi=> .int (bg n i:Nat))],st.ob⟩:=λll h=>by unfold kK.st;rw[h];simp[hc]
 unfold yp;rw[e _ (by cases right<;>rfl),cA (f:=aX 0) (g:=ak 0) rfl rfl (gi _ (λi=> .int (bg n i:Nat)) (fY.mpr hi))];rfl
def Ro (hc:st.cv[0]? =aa (~~~(cq λi=> .int (bg n i:Nat)))) (right:Bool) {A:Nz} (h:∀i∈A,i<6):keysOf (yp (if right then qZ else ra) (bk (aX 0) (ak 0)) st) (A.map λi=> .str (nm i))=aa (A.map λi=>(bg n i:Int)):=by
 induction A with
 |nil=>rfl
 |cons a A ih=>rw[bx,tr,DR (h a ay) hc,ih λi hi=>h i (aK _ hi)];rfl
def L1 (right:Bool) (hc:st.cv[0]? =aa (~~~(cq λi=> .int (bg n i:Nat)))) {A:Nz} (h1:fo st=aa (.ob j)) (h2:fx st= ~~~(.str (nm x))) (hx:x<6) (hA:∀i∈A,i<6) (hl: ↑A<1000) (hs:A.Pairwise λa c=>bg n a<=bg n c) (h3:st.ob[j]? =aa (.list (A.map λi=> .str (nm i)))):
  Bj right (if right then qZ else ra) fo fx (bk (aX 0) (ak 0)) st=aa (.next,qR j (.list ((A.filter (λc=>below right (bg n x) (bg n c))++x::A.filter (λc=> !below right (bg n x) (bg n c))).map λi=> .str (nm i))) st):=by
 have Zq:=Rn (λc=>below right (bg n x:Int) (bg n c:Int)) (hs.imp λ{a c} hac h=>vO (fK.mpr hac) h);have Z4:my right (A.map λi=>(bg n i:Int)) (bg n x:Int) 0 ac= ↑(A.filter λc=>below right (bg n x) (bg n c)):=by rw[oG right (gX _ (λa b h=>by exact AH h) hs),dF,aw];rfl
 unfold Bj;rw[h1,h2];show(S5 st.ob[j]?).bind _=_;rw[h3];show(keysOf _ _).bind _=_;rw[Ro hc right hA];show(yp _ _ st _).bind _=_;rw[DR hx hc right];show(if _<1000 then _ else _)=_;rw[if_pos (by rw[aw];exact hl)];unfold vd uL;rw[Z4];have e:∀A1 A2:List Nat,A1++A2=A->(A.map λi=>PV.str (nm i)).take ↑A1++PV.str (nm x)::(A.map λi=>PV.str (nm i)).drop ↑A1=(A1++x::A2).map λi=>PV.str (nm i):=by rintro A1 A2 rfl;rw[bH,bH,bx,List.take_left' (by rw[aw]),List.drop_left' (by rw[aw])]
 rw[e _ _ Zq]
def Rq (n:NN) (P:Nz):∀m,↑(ny n P m)<=m* ↑P:=by
 intro l9;induction l9 with
 |zero=>exact cI _
 |succ m ih=>rw[oW,aj,Oo,CC];exact aeb (ih) (eY (λc=>bg n c==m) P)
def B4 (h: ↑P<=6): ↑(ny n P (mN n))<1000:=by exact aec (Rq n P (mN n)) (Nat.mul_le_mul (xP n) h)
def Rt (R:Nz):∀(P:Nz) (x:OV),P++R=L6->
  ∃x',lM (jI 15) (aC (Bj true qZ (ak 2) (aX 15) (bk (aX 0) (ak 0))) br) (R.map λi=> .str (nm i)) (Fu l n rs [.list ((ny n P (mN n)).map λi=> .str (nm i)),.list [],.list []] y x j hu (text:=tx))=aa (.next,Fu l n rs [.list ((ny n L6 (mN n)).map λi=> .str (nm i)),.list [],.list []] y x' j hu (text:=tx)):=by
 induction R with
 |nil=>intro P x h;exact⟨x,by erw [bu]at h;subst h;rfl⟩
 |cons i R ih=>
  intro P x h;have hi:i<6:=fY.mp (h▸(dS _ ay));obtain(⟨x',e⟩):=ih (P++[i]) (~~~(.str (nm i))) (by erw [<- h];simp);refine⟨x',?_⟩;erw [bx,iD (st1:=Fu l n rs [.list ((ny n P (mN n)).map λi=> .str (nm i)),.list [],.list []] y (~~~(.str (nm i))) j hu (text:=tx)) (st2:=Fu l n rs [.list ((ny n (P++[i]) (mN n)).map λi=> .str (nm i)),.list [],.list []] y (~~~(.str (nm i))) j hu (text:=tx)) rfl ?_,e];refine dw ?_;refine(L1 true (j:=3) (x:=i) (A:=ny n P (mN n)) rfl rfl rfl hi (λc hc=> ?_) (B4 (n:=n) (P:=P) (by have:=congrArg eX h;erw [aj]at this;exact aA (bh _ _) (fg this))) (zu n P _) rfl).trans ?_
  ·exact fY.mp (by erw [<- h];exact fu _ (pC.mp hc).1)
  ·have e2:=B3 (n:=n) (P:=P) (R:=[]) (x:=i) (λc=>below true (bg n i:Int) (bg n c:Int)) (λc hc=>below_1 (fK.mpr (ce hc))) (λc hc=>below_2 (cL.mpr hc)) (λc q hc=>below_1 (fK.mpr (fg hc))) (λc hc=>absurd hc gw) (bI (BP hi) (LU hi))
   ·erw [bu]at e2;erw [e2];rfl
def NH (R:Nz):∀(P:Nz) (x:OV),R.reverse++P=L6->
  ∃x',lM (jI 15) (aC (Bj false ra (ak 3) (aX 15) (bk (aX 0) (ak 0))) br) (R.map λi=> .str (nm i)) (Fu l n rs [.list A,.list ((ny n P (mN n)).map λi=> .str (nm i)),.list []] y x j hu (text:=tx))=aa (.next,Fu l n rs [.list A,.list ((ny n L6 (mN n)).map λi=> .str (nm i)),.list []] y x' j hu (text:=tx)):=by
 induction R with
 |nil=>intro P x h;exact⟨x,by erw [List.reverse_nil,gf]at h;subst h;rfl⟩
 |cons i R ih=>
  intro P x h;erw [SX,bE]at h;have hi:i<6:=fY.mp (h▸(dS _ ay));obtain(⟨x',e⟩):=ih (i::P) (~~~(.str (nm i))) h;refine⟨x',?_⟩;erw [bx,iD (st1:=Fu l n rs [.list A,.list ((ny n P (mN n)).map λi=> .str (nm i)),.list []] y (~~~(.str (nm i))) j hu (text:=tx)) (st2:=Fu l n rs [.list A,.list ((ny n (i::P) (mN n)).map λi=> .str (nm i)),.list []] y (~~~(.str (nm i))) j hu (text:=tx)) rfl ?_,e];refine dw ?_;refine(L1 false (j:=4) (x:=i) (A:=ny n P (mN n)) rfl rfl rfl hi (λc hc=> ?_) (B4 (n:=n) (P:=P) (by have:=congrArg eX h;erw [aj,aj]at this;have h6: ↑L6=6:=rfl;exact aed this h6)) (zu n P _) rfl).trans ?_
  ·exact fY.mp (by erw [<- h];exact dS _ (dS _ (pC.mp hc).1))
  ·have e2:=B3 (n:=n) (P:=[]) (R:=P) (x:=i) (λc=>below false (bg n i:Int) (bg n c:Int)) (λc hc=>below_3 (cL.mpr hc)) (λc hc=>below_4 (fK.mpr (ce hc))) (λc hc=>absurd hc gw) (λc q hc=>below_4 (fK.mpr (fg hc.symm))) (bI (BP hi) (LU hi))
   ·erw [gf,gf]at e2;erw [e2];rfl
def ju (n:NN):List PV:=(Hv n).map λi=> .str (nm i)
def HG (n:NN):ny n L6 (mN n)=Hv n:=by unfold ny Hv UV;refine eR λj q=>io λc hc=> ?_;rw[xQ (dM.mp hc)]
def L2 (st:St) (s:Str) (ls:Nz) (h:s=T ls) (h7:ls.all (· <128)=true):jx (jg (.str s)) st=aa (ls.map λc=> .str ⟨#[c]⟩):=by subst h;show(if (T ls).cps.all (· <128)=true then aa (ym (T ls)) else ac)=_;rw[if_pos (by unfold T;simpa using h7)];unfold ym;rw[qE]
def YX (l:List Int) (n:NN) (y x:OV) (rs:SS) (tx:OV):∃x',xu (Fu l n rs [.list [],.list [],.list []] y x ac ac (text:=tx))=aa (.next,Fu l n rs [.list (ju n),.list [],.list []] y x' ac ac (text:=tx)):=by let ⟨x',e⟩:=Rt (l:=l) (n:=n) (y:=y) (hu:=ac) (j:=ac) (rs:=rs) (tx:=tx) L6 [] x rfl;refine⟨x',?_⟩;rw[(nG.mpr λc hc=>absurd (pC.mp hc).1 gw),HG]at e;unfold xu;rw[jW (xs:=L6.map λi=> .str (nm i)) (L2 _ "abcdef" [97,98,99,100,101,102] rfl rfl)];exact e
def YY (l:List Int) (n:NN) (y x:OV) (rs:SS) (tx:OV):∃x',xv (Fu l n rs [.list (ju n),.list [],.list []] y x ac ac (text:=tx))=aa (.next,Fu l n rs [.list (ju n),.list (ju n),.list []] y x' ac ac (text:=tx)):=by let ⟨x',e⟩:=NH (l:=l) (n:=n) (y:=y) (hu:=ac) (j:=ac) (rs:=rs) (tx:=tx) (A:=ju n) [5,4,3,2,1,0] [] x rfl;refine⟨x',?_⟩;rw[(nG.mpr λc hc=>absurd (pC.mp hc).1 gw),HG]at e;unfold xv;rw[jW (xs:=[5,4,3,2,1,0].map λi=> .str (nm i)) (L2 _ "fedcba" [102,101,100,99,98,97] rfl rfl)];exact e
def nP (us:LN):List PV:=us.map λu=> .str (T u)
def L3 (h:p<7):(Ff p).map PV.str=nP (gI p):=by refine U0 h ?_ ?_ ?_ ?_ ?_ ?_ ?_<;>rfl
def nz (n:NN) (j:Nat):List Nat:=(cJ 12).filter λc=>pl n c==j
def Ru (n:NN) (j:Nat):nz n j=(L6.filter λx=>bg n x==j)++(L6.filter λx=>en n x==j).map (6+ ·):=by
 have e2:L6.filter ((λc=>pl n c==j) ∘ (6+ ·))=L6.filter (λx=>en n x==j):=io λc hc=>by show(pl n (6+c)==j)=_;rw[Hu]
 unfold nz;erw [show cJ 12=L6++L6.map (6+ ·) by decide,bT,dF,(io λc hc=>by rw[xQ (fY.mp hc)]),e2]
def NI (n:NN) (j:Nat):(nz n j).flatMap (unitsOf n)=((L6.filter λx=>bg n x==j).flatMap λx=>[40]::[97+x]::gI (dP (n x)))++(L6.filter λx=>en n x==j).flatMap λx=>[[65+x],[41]]:=by
 have e1:(L6.filter λx=>bg n x==j).flatMap (unitsOf n)=(L6.filter λx=>bg n x==j).flatMap λx=>[40]::[97+x]::gI (dP (n x)):=eR λx hx=>by unfold unitsOf qF;rw[if_pos (fY.mp (aY.mp hx).1)]
 have e2:(L6.filter λx=>en n x==j).flatMap (λx=>unitsOf n (6+x))=(L6.filter λx=>en n x==j).flatMap λx=>[[65+x],[41]]:=eR λx hx=>by unfold unitsOf qF;rw[if_neg (Wu),show 6+x- 6=x by exact KQ]
 erw [Ru,iC,iP,e1,e2]
def HH (n:NN):toks n=(cJ (mN n)).flatMap (nz n):=rfl
def tN (st:St) (a b:List PV) (h: ↑a+ ↑b<=10000):MF st .Add (.pv (.lst a)) (.pv (.lst b))=aa (.lst (a++b)):=by show(if ↑a+ ↑b<=sizeLine then aa (PV.lst (a++b)) else ac)=_;exact if_pos (O4 h rfl)
def Rv (st:St) (ha:st.ow a=aa l) (hb:st.ow b=aa m) (hn:∀x,a≠ .pv x) (h: ↑l+ ↑m<=10000):MF st .Add a b=aa (.lst (l++m)):=by
 have hs:sizeLine=2 ^ 24:=rfl;induction a with
 |pv x=>exact absurd rfl (hn x)
 |ob i=>show(ac:Option PV).or ((st.ow (.ob i)).bind λl=>(st.ow b).bind (PB l))=_;rw[ha,hb];exact if_pos (O4 h hs)
 |inst i=>exact gq ha
def JJ {st:St} {n:NN} {j:Nat} (h:uq.st st=⟨[ac,ac],[~~~(cq λk=>g0 (dP (n k))),~~~(.int (j:Nat)),~~~(cq λi=> .int (bg n i:Nat))],st.ob⟩) (hp:st.cv[12]? =aa (~~~(cq λk=>cE (n k)))):
  ei uq (jx (aX 12)) (dN (bf 0) (bY .Eq (bk (aX 2) (ak 0)) (aX 1)) (IA (jx (ba .Add (j7 (au ↥"(" (au (ak 0) aZ))) (bk (aX 0) (ak 0)))) (dN (bf 1) fG (gO (ak 1))))) st= ~~~(.lst (nP ((L6.filter λx=>bg n x==j).flatMap λx=>[40]::[97+x]::gI (dP (n x))))):=by
 have Io:aX 12 st= ~~~(cq λk=>cE (n k)):=by unfold aX;erw [AG,hp];rfl
 erw [ut (λcf=>∃a b,cf=⟨[a,b],[~~~(cq λk=>g0 (dP (n k))),~~~(.int (j:Nat)),~~~(cq λi=> .int (bg n i:Nat))],st.ob⟩) (λx=>bg n (iY x)==j) (λx=>nP ([40]::[97+iY x]::gI (dP (n (iY x))))) (λq q=>true) (λq y=>y) (qD st (λk=>cE (n k)) Io) ∅ ?_ (h▸⟨ac,ac,rfl⟩) ?_]
 ·erw [dF,iP];have e:(λx=>bg n (iY x)==j) ∘ (λi=>PV.str (nm i))=λx=>bg n x==j:=by funext x;show(bg n (iY (.str (nm x)))==j)=_;erw [fU]
  erw [e];have e3:((L6.filter λx=>bg n x==j).flatMap λx=>((nP ([40]::[97+iY (.str (nm x))]::gI (dP (n (iY (.str (nm x))))))).filter λq=>true).map λy=>y)=nP ((L6.filter λx=>bg n x==j).flatMap λx=>[40]::[97+x]::gI (dP (n x))):=by unfold nP;erw [gy];exact eR λx q=>by erw [fU,bL.mpr λq q=>rfl,sN]
  erw [e3]
 ·intro x hx;let ⟨i,hi,rfl⟩:=aQ.mp hx;have:=(vR (nX (n i))).2.1;erw [fU];unfold nP;simp;exact aee this
 ·rintro x hx cf ⟨a,b,rfl⟩;let ⟨i,hi,rfl⟩:=aQ.mp hx;erw [fU];refine⟨⟨[~~~(.str (nm i)),b],[~~~(cq λk=>g0 (dP (n k))),~~~(.int (j:Nat)),~~~(cq λi=> .int (bg n i:Nat))],st.ob⟩,rfl,?_,⟨_,_,rfl⟩,λq=>⟨?_,λcf=>∃b,cf=⟨[~~~(.str (nm i)),b],[~~~(cq λk=>g0 (dP (n k))),~~~(.int (j:Nat)),~~~(cq λi=> .int (bg n i:Nat))],st.ob⟩,⟨_,rfl⟩,λcf ⟨b,h⟩=>⟨_,b,h⟩,?_⟩⟩
  ·refine fT (cA (f:=aX 2) (g:=ak 0) rfl rfl (gi _ (λi=> .int (bg n i:Nat)) hi)) rfl ?_;show aa ((bg n i:Int)==(j:Int))=_;refine congrArg aa ?_;erw [dr,beq_iff_eq,beq_iff_eq];exact O6
  ·have hpc:bk (aX 0) (ak 0) ⟨[~~~(.str (nm i)),b],[~~~(cq λk=>g0 (dP (n k))),~~~(.int (j:Nat)),~~~(cq λi=> .int (bg n i:Nat))],st.ob⟩= ~~~(g0 (dP (n i))):=cA rfl rfl (gi _ (λk=>g0 (dP (n k))) hi);have hl:=(vR (nX (n i))).2.1;unfold jx;erw [dq (rS (l:=[.pv (.str "("),.pv (.str (nm i))]) rfl rfl (by simp)) hpc (tN _ _ _ ?_)]
   ·show aa (_++(Ff (dP (n i))).map PV.str)=_;erw [L3 (nX _)];rfl
   ·erw [L3 (nX _)];unfold nP;erw [aw];show 2+_<=_;exact aef hl
  ·rintro u hu cf ⟨b,rfl⟩;exact⟨⟨[~~~(.str (nm i)),~~~u],[~~~(cq λk=>g0 (dP (n k))),~~~(.int (j:Nat)),~~~(cq λi=> .int (bg n i:Nat))],st.ob⟩,rfl,rfl,⟨_,rfl⟩,λq=>rfl⟩
def JK {st:St} {n:NN} {j:Nat} (h:ur.st st=⟨[ac,ac],[~~~(.int (j:Nat)),~~~(cq λi=> .int (Cy n i))],st.ob⟩) (hp:st.cv[12]? =aa (~~~(cq λk=>cE (n k)))):
  ei ur (jx (aX 12)) (dN (bf 0) (bY .Eq (bk (aX 1) (ak 0)) (aX 0)) (IA (jx (jb (au (eQ "str" gS (ak 0) aZ) (au ↥")" aZ)))) (dN (bf 1) fG (gO (ak 1))))) st= ~~~(.lst (nP ((L6.filter λx=>en n x==j).flatMap λx=>[[65+x],[41]]))):=by
 have Io:aX 12 st= ~~~(cq λk=>cE (n k)):=by unfold aX;erw [AG,hp];rfl
 erw [ut (λcf=>∃a b,cf=⟨[a,b],[~~~(.int (j:Nat)),~~~(cq λi=> .int (Cy n i))],st.ob⟩) (λx=>en n (iY x)==j) (λx=>nP [[65+iY x],[41]]) (λq q=>true) (λq y=>y) (qD st (λk=>cE (n k)) Io) ∅ (λq q=>by show 2<=100;decide) (h▸⟨ac,ac,rfl⟩) ?_]
 ·erw [dF,iP];have e:(λx=>en n (iY x)==j) ∘ (λi=>PV.str (nm i))=λx=>en n x==j:=by funext x;show(en n (iY (.str (nm x)))==j)=_;erw [fU]
  erw [e];have e3:((L6.filter λx=>en n x==j).flatMap λx=>((nP [[65+iY (.str (nm x))],[41]]).filter λq=>true).map λy=>y)=nP ((L6.filter λx=>en n x==j).flatMap λx=>[[65+x],[41]]):=by unfold nP;erw [gy];exact eR λx q=>by erw [fU,bL.mpr λq q=>rfl,sN]
  erw [e3]
 ·rintro x hx cf ⟨a,b,rfl⟩;obtain(⟨i,hi,rfl⟩):=aQ.mp hx;have hi6:=fY.mp hi;erw [fU];refine⟨⟨[~~~(.str (nm i)),b],[~~~(.int (j:Nat)),~~~(cq λi=> .int (Cy n i))],st.ob⟩,rfl,?_,⟨_,_,rfl⟩,λq=>⟨?_,λcf=>∃b,cf=⟨[~~~(.str (nm i)),b],[~~~(.int (j:Nat)),~~~(cq λi=> .int (Cy n i))],st.ob⟩,⟨_,rfl⟩,λcf ⟨b,h⟩=>⟨_,b,h⟩,?_⟩⟩
  ·refine fT (cA (f:=aX 1) (g:=ak 0) rfl rfl (gi _ (λi=> .int (Cy n i)) hi)) rfl ?_;show aa (Cy n i==(j:Int))=_;refine congrArg aa ?_;erw [Fm hi6,dr,beq_iff_eq,beq_iff_eq];exact O6
  ·unfold jx;erw [qm (l:=[.pv (.str (up i)),.pv (.str ")")]) (bA (vN hi6 rfl) rfl) rfl (by simp)];rfl
  ·rintro u hu cf ⟨b,rfl⟩;exact⟨⟨[~~~(.str (nm i)),~~~u],[~~~(.int (j:Nat)),~~~(cq λi=> .int (Cy n i))],st.ob⟩,rfl,rfl,⟨_,rfl⟩,λq=>rfl⟩
def mB (us:LN):List PV:=(ml 0 us).map lP
def JL (us:LN) (u:Nz):mB (us++[u])=mB us++[.tup [.int ((↑us.flatten+ ↑u- 1:Nat):Int),.str (T u)]]:=by unfold mB;rw[HF,bH,qg];rfl
def Rw (us:LN):∀(i:Nat),↑(ml i us)= ↑us:=by
 induction us with
 |nil=>intro _;exact rfl
 |cons u us ih=>intro i;rw[ml,az,az,ih]
def uE (us:LN): ↑(mB us)= ↑us:=by unfold mB;rw[aw,Rw]
abbrev NJ (l:List Int) (n:NN) (rs:SS) (us:LN) (y x j un op:OV):St:=Fu l n rs [.list (ju n),.list (ju n),.list (mB us)] y x j ac (text:= ~~~(.str (T us.flatten))) (unit:=un) (opening:=op)
abbrev HJ:St->Option (pj×St):=(aC (bZ (ba .Add (ak 4) (ak 6)) (bf 4)) (aC (oy gZ (ak 5) (au (jb (au (ba .Sub (dJ km (au (ak 4) aZ)) ⇑1) (au (ak 6) aZ))) aZ)) br))
def NK (vs:LN):∀(us:LN) (un:OV),(∀u∈vs,Jz u)-> ↑us.flatten+ ↑vs.flatten<=1000-> ↑us+ ↑vs<=1000->
  ∃Z5,lM (bf 6) HJ (nP vs) (NJ l n rs us y x j un op)=aa (.next,NJ l n rs (us++vs) y x j Z5 op):=by
 induction vs with
 |nil=>intro us un _ _ _;exact⟨un,by rw[bu];rfl⟩
 |cons u vs ih=>
  intro us un hu h1 h2;rw[fP,aj]at h1;rw[az]at h2;let ⟨Z5,e⟩:=ih (us++[u]) (~~~(.str (T u))) (λv hv=>hu v (aK _ hv)) (by simp at h1⊢;exact aeg h1) (by simp;exact aeh h2);refine⟨Z5,?_⟩;have Z4:1<= ↑u:=by rcases hu u ay with⟨c,_,rfl⟩|⟨c,rfl⟩<;>simp
  have Kn:(us++[u]).flatten=us.flatten++u:=by simp
  erw [show nP (u::vs)= .str (T u)::nP vs from rfl,iD (st1:=NJ l n rs us y x j (~~~(.str (T u))) op) (st2:=NJ l n rs (us++[u]) y x j (~~~(.str (T u))) op) rfl ?_,e,bE]
  ·rfl
  ·unfold HJ;let s1:St:=Fu l n rs [.list (ju n),.list (ju n),.list (mB us)] y x j ac (text:= ~~~(.str (T (us++[u]).flatten))) (unit:= ~~~(.str (T u))) (opening:=op);rw[aU (st1:=s1) (by
    unfold bZ;rw[dq rfl rfl (kg _ (T us.flatten) (T u) (by rw[gG,gG];exact Wv h1)),DM,<- Kn];rfl)]
   refine dw ?_;have cH:dJ km (au (ak 4) aZ) s1= ~~~(.int ((us++[u]).flatten.length:Nat)):=by have:=BZ s1 (T (us++[u]).flatten) (by rw[gG,Kn,aj];exact Wv h1);rw[gG]at this;exact iJ (bA rfl rfl) this
   have C0:ba .Sub (dJ km (au (ak 4) aZ)) ⇑1 s1= ~~~(.int ((↑us.flatten+ ↑u- 1:Nat):Int)):=by refine dq cH rfl ?_;rw[Kn,aj];show aa (PV.int (((↑us.flatten+ ↑u:Nat):Int)- 1))=_;refine congrArg (λz=>aa (PV.int z)) ?_;exact aei Z4
   rw[uy (j:=5) (l:=mB us) rfl (bA (qm (bA C0 (bA rfl rfl)) rfl (by simp)) rfl) rfl rfl (pA (by rw[uE];exact aej h2))];rw[<- JL];rfl
def xX (h:f st= ~~~(.lst l)):jx f st=aa l:=by unfold jx;rw[h];rfl
abbrev Ry:St->Option (pj×St):=(aC (bZ (ei uq (jx (aX 12)) (dN (bf 0) (bY .Eq (bk (aX 2) (ak 0)) (aX 1)) (IA (jx (ba .Add (j7 (au ↥"(" (au (ak 0) aZ))) (bk (aX 0) (ak 0)))) (dN (bf 1) fG (gO (ak 1)))))) (bf 7)) (aC (mH (jx (ba .Add (ak 7) (ei ur (jx (aX 12)) (dN (bf 0) (bY .Eq (bk (aX 1) (ak 0)) (aX 0)) (IA (jx (jb (au (eQ "str" gS (ak 0) aZ) (au ↥")" aZ)))) (dN (bf 1) fG (gO (ak 1)))))))) (bf 6) (aC (bZ (ba .Add (ak 4) (ak 6)) (bf 4)) (aC (oy gZ (ak 5) (au (jb (au (ba .Sub (dJ km (au (ak 4) aZ)) ⇑1) (au (ak 6) aZ))) aZ)) br))) br))
def Rz (R:Nz):∀(P:Nz) (j un op:OV),P++R=cJ (mN n)->
  ∃j' Z5 op',lM (jI 2) Ry (R.map λi:Nat=> .int (i:Int)) (NJ l n rs ((P.flatMap (nz n)).flatMap (unitsOf n)) y x j un op)=aa (.next,NJ l n rs ((toks n).flatMap (unitsOf n)) y x j' Z5 op'):=by
 induction R with
 |nil=>intro P j un op h;exact⟨j,un,op,by erw [bu]at h;erw [HH,<- h];rfl⟩
 |cons i R ih=>
  intro P j un op h;have jJ:toks n=(P++[i]).flatMap (nz n)++R.flatMap (nz n):=by erw [HH,<- h,<- iC];simp
  let ⟨a1,a2,a3⟩:=uD n _ (λc hc=>(gk (n:=n)).mp (by erw [jJ];exact fu _ hc));have hl:=ri n;erw [jJ,aj]at hl;have hus:((P++[i]).flatMap (nz n)).flatMap (unitsOf n)=(P.flatMap (nz n)).flatMap (unitsOf n)++(nz n i).flatMap (unitsOf n):=by erw [(by erw [iC];simp:(P++[i]).flatMap (nz n)=P.flatMap (nz n)++nz n i),iC]
  erw [hus]at a1 a2 a3;erw [dz,aj]at a3;erw [aj]at a2;let us:=(P.flatMap (nz n)).flatMap (unitsOf n);have D7: ↑us+ ↑((nz n i).flatMap (unitsOf n))<=_:=a2;have a3': ↑us.flatten+((nz n i).flatMap (unitsOf n)).flatten.length<=_:=a3;let A:=(L6.filter λx=>bg n x==i).flatMap λx=>[40]::[97+x]::gI (dP (n x));let B:=(L6.filter λx=>en n x==i).flatMap λx=>[[65+x],[41]];have hAB:(nz n i).flatMap (unitsOf n)=A++B:=NI n i;let op1:Option CV:= ~~~(.lst (nP A));left;let ⟨un1,e1⟩:=NK (l:=l) (n:=n) (rs:=rs) (y:=y) (x:=x) (j:= ~~~(.int (i:Nat))) (op:=op1) (A++B) us un (λu hu=>(a1 u (dS _ (hAB▸hu))).1) (by erw [<- hAB];exact Ww a3' hl) (by erw [<- hAB];exact Ww D7 hl);let ⟨j',Z5,op',e⟩:=ih (P++[i]) (~~~(.int (i:Nat))) un1 op1 (by erw [<- h];simp);right;refine⟨j',Z5,op',?_⟩;erw [bx,iD (st1:=NJ l n rs us y x (~~~(.int (i:Nat))) un op) (st2:=NJ l n rs (us++(A++B)) y x (~~~(.int (i:Nat))) un1 op1) rfl ?_]
  ·erw [hus,hAB]at e;exact e
  ·unfold Ry;erw [aU (st1:=NJ l n rs us y x (~~~(.int (i:Nat))) un op1) (by
    unfold bZ;erw [JJ (n:=n) (j:=i) rfl rfl];rfl)]
   refine dw ?_;have hAl: ↑(nP A)+ ↑(nP B)<=10000:=by unfold nP;erw [aw,aw,<- aj,<- hAB];exact aek D7 hl
   erw [jW (xX (dq (a:= .pv (.lst (nP A))) rfl (JK (n:=n) (j:=i) rfl rfl) (tN _ _ _ hAl))),show nP A++nP B=nP (A++B) by unfold nP;erw [bH]];exact e1
def YZ (l:List Int) (n:NN) (y x:OV) (rs:SS):∃j un op,xw (Fu l n rs [.list (ju n),.list (ju n),.list []] y x ac ac (text:= ~~~(.str "")))=aa (.next,NJ l n rs ((toks n).flatMap (unitsOf n)) y x j un op):=by
 have hm:mN n<=6:=xP n;have hit:rK (dJ km (au (bk (aX 5) ⇑0) aZ)) (NJ l n rs [] y x ac ac ac)=aa (iI (mN n)):=by refine DP ?_ (O7 hm);have cH:=tL (NJ l n rs [] y x ac ac ac) (bM (lz n)) (by unfold bM;erw [aw];show mN n<=_;exact Dg hm);erw [show ↑(bM (lz n))=mN n by unfold bM;erw [aw];rfl]at cH;exact iJ (bA (cA rfl rfl (kr _ [.lst (bM (lz n)),.lst (bM (rf n))] 0 ∅ rfl)) rfl) cH
 let ⟨j,un,op,e⟩:=Rz (l:=l) (n:=n) (rs:=rs) (y:=y) (x:=x) (cJ (mN n)) [] ac ac ac (gf _);refine⟨j,un,op,?_⟩;unfold xw;exact(jW hit).trans e
noncomputable def HK (p:Nat):List (List Nat):=[[],[[92,40]],[[92,41]],[],[[34],[41],[34]],[[92,34]],[[92,92]]].getD p []
def ix (h:c≠34) (hr:Rp [34,a,34] l r):Rp [34,a,34] (c::l) (c::r):=
 .skip (λe=>h (i4.mp e).1.symm) hr
def Aq (h:¬ [a,34]<+:l) (hr:Rp [34,a,34] l r):Rp [34,a,34] (34::l) (34::r):=
 .skip (λe=>h (i4.mp e).2) hr
def RA (l:Nz):Prop:=¬ [40,34]<+:l/\¬ [41,34]<+:l
def Ar (h:a≠c):¬ [a,b]<+:c::l:=λe=>h (i4.mp e).1
def uF (h:p<7) (hs:RA l) (hr:Rp [34,40,34] l r):Rp [34,40,34] ((gI p).flatten++l) ((HK p).flatten++r):=by
 refine U0 h ?_ ?_ ?_ ?_ ?_ ?_ ?_
 ·exact hr
 ·exact ix ∅ (ix ∅ hr)
 ·exact ix ∅ (ix ∅ hr)
 ·exact Rp.hit (p:=[34,40,34]) hr
 ·exact Aq (Ar ∅) (ix ∅ (Aq hs.1 hr))
 ·exact ix ∅ (Aq hs.1 hr)
 ·exact ix ∅ (ix ∅ hr)
def DS (h:p<7) (hs:RA l) (hr:Rp [34,41,34] l r):Rp [34,41,34] ((HK p).flatten++l) ((xV p).flatten++r):=by
 refine U0 h ?_ ?_ ?_ ?_ ?_ ?_ ?_
 ·exact hr
 ·exact ix ∅ (ix ∅ hr)
 ·exact ix ∅ (ix ∅ hr)
 ·exact hr
 ·exact Rp.hit (p:=[34,41,34]) hr
 ·exact ix ∅ (Aq hs.2 hr)
 ·exact ix ∅ (ix ∅ hr)
def yF (pc:Nat->List (List Nat)) (c:Nat) (l:Nz):(qF pc c).flatten++l=if c<6 then 40::(97+c)::((pc c).flatten++l) else(65+(c- 6))::41::l:=by unfold qF;split<;>simp
def RC (pc:Nat->List (List Nat)) (c:Nat) (l:Nz):RA ((qF pc c).flatten++l):=by
 rw[yF];split
 ·exact⟨λe=>by have:=(i4.mp (i4.mp e).2).1;exact ael this,Ar ∅⟩
 ·exact⟨Ar (aem),Ar (aen)⟩
theorem rW (hp:∀(c:Nat) (l r:Nz),RA l->Rp [34,a,34] l r->Rp [34,a,34] ((U c).flatten++l) ((V c).flatten++r)) (ha:a≠34):∀cs:List Nat,RA (cs.flatMap (qF U)).flatten/\Rp [34,a,34] (cs.flatMap (qF U)).flatten (cs.flatMap (qF V)).flatten
 | []=>⟨⟨λe=>by have:=e.length_le;simp at this,λe=>by have:=e.length_le;simp at this⟩,.nil⟩
 |c::cs=>by
  let ⟨h1,h2⟩:=rW hp ha cs;rw[bJ,bJ,dz,dz];refine⟨RC _ _ _,?_⟩;rw[yF,yF];split
  ·exact ix ∅ (ix (aeo) (hp c _ _ h1 h2))
  ·exact ix (aep) (ix ∅ h2)
def DT (n:NN):List Nat:=((toks n).flatMap (jt n)).flatten
def U5 (n:NN):iL (iL (T (iA n)) "\"(\"" "") "\")\"" "" =T (DT n):=by rw[show ah "\"(\"" =T [34,40,34] from rfl,show ah "\")\"" =T [34,41,34] from rfl];erw [show iA n=((toks n).flatMap (qF λx=>gI (dP (n x)))).flatten from rfl,vQ ∅ ((rW (U:=λx=>gI (dP (n x))) (V:=λx=>HK (dP (n x))) (λc l r hs hr=>uF (nX _) hs hr) ∅ (toks n)).2),vQ ∅ ((rW (U:=λx=>HK (dP (n x))) (V:=λx=>xV (dP (n x))) (λc l r hs hr=>DS (nX _) hs hr) ∅ (toks n)).2)];rfl
def JM (h:Rp p l r): ↑r<= ↑l:=by
 induction h with
 |nil=>exact ab _
 |hit h ih=>rw[aj];exact aA ih (gn ..)
 |skip _ h ih=>rw[az,az];exact gJ ‹_›
def oX (n:NN): ↑(iA n)<=60:=by unfold iA;exact aer ((uD n (toks n) λc hc=>gk.mp hc).2.2) (ri n)
def NL (n:NN): ↑(DT n)<=60:=by exact aA (JM (rW (U:=λx=>HK (dP (n x))) (V:=λx=>xV (dP (n x))) (λc l r hs hr=>DS (nX _) hs hr) ∅ (toks n)).2) (aA (JM (rW (U:=λx=>gI (dP (n x))) (V:=λx=>HK (dP (n x))) (λc l r hs hr=>uF (nX _) hs hr) ∅ (toks n)).2) (oX n))
abbrev B5 (n:NN):PV:= .str (T (DT n++[34,40]))
abbrev Oy (l:List Int) (n:NN) (rs:SS) (y x j un op:OV):St:=Fu l n rs [.list (ju n),.list (ju n),.list (mB ((toks n).flatMap (unitsOf n)))] y x j ac (text:= ~~~(.str (T (iA n)))) (unit:=un) (opening:=op) (bare:= ~~~(B5 n))
def U6 {st:St} (h1:(f st).bind CV.aS=aa x) (h2:(g st).bind CV.aP=aa z) (h3: ↑x<=1048576) (h4:(iL x q "").length<=1048576) (h5:AR .Add (.str (iL (iL x q "") q' "")) z=aa d):LB i f q q' g st=aa (.next,ie i (.pv d) st):=by unfold LB;rw[h1];show Option.bind ((g st).bind CV.aP) _=_;rw[h2];show(if _ then _ else ac)=_;rw[if_pos ⟨h3,h4⟩,h5];rfl
def Y0 (l:List Int) (n:NN) (rs:SS) (y x j un op:OV):BB (NJ l n rs ((toks n).flatMap (unitsOf n)) y x j un op)=aa (.next,Oy l n rs y x j un op):=by
 have h2:(iL (T (iA n)) "\"(\"" "").length<=60:=by erw [show ah "\"(\"" =T [34,40,34] from rfl,show iA n=((toks n).flatMap (qF λx=>gI (dP (n x)))).flatten from rfl,vQ ∅ (rW (U:=λx=>gI (dP (n x))) (V:=λx=>HK (dP (n x))) (λc l r hs hr=>uF (nX _) hs hr) ∅ (toks n)).2,gG];exact aA (JM (rW (U:=λx=>gI (dP (n x))) (V:=λx=>HK (dP (n x))) (λc l r hs hr=>uF (nX _) hs hr) ∅ (toks n)).2) (oX n)
 have ha:AR .Add (.str (T (DT n))) (.str "\"(")=aa (B5 n):=by erw [show ah "\"(" =T [34,40] from rfl];show(if ↑(T (DT n))+ ↑(T [34,40])<=sizeLine then aa (PV.str (T (DT n)++T [34,40])) else ac)=_;erw [gG,gG,DM,if_pos (by erw [(by decide:sizeLine=2 ^ 24)];simp;exact aes (NL n))]
 exact(U6 rfl rfl (by erw [gG];exact Wx (oX n)) (Wx h2) (by rw[U5];exact ha)).trans rfl
def B6 (n:NN):Good ((toks n).flatMap (unitsOf n)):=by have:=Ap (n:=n) (P:=toks n) (Q:=[]) (by simp) (r:=[]) (λu hu=>absurd hu gw) ∅ ∅;rwa [bu]at this
def L4 (i:Int) (s:Str):PV.Et 3 (.tup [.int i,.str s]) (.tup [.int i,.str s])=aa true:=LI 2 λx hx=>by
 rcases aH.mp hx with rfl|hx
 ·exact LH 1 i
 ·exact(aB.mp hx)▸(ux 1 s)
def ne_str (st:St) (x:Str):sT st .NotEq (.pv (.str x)) (.pv (.str x))=aa false:=by show aa (x !=x)=_;rw[bne_self_eq_false]
def zv (h:f st=aa false):Gs f g st=g st:=by unfold Gs;rw[h];rfl
def RD (h:f st= ~~~(.str (T a))) (ha:∀c∈a,c<128):zM f st=aa ((iX 0 false a).map lP):=by unfold zM;rw[h];show(if (T a).cps.all (· <128)=true then aa ((iX 0 false (T a).cps.toList).map lP) else ac)=_;rw[if_pos,qE];rw[yX];intro c hc;exact decide_eq_true (ha c ((qE a)▸(XB.mp hc)))
def U7 (k:Nat):iX k false [92]=[(k,z8)]:=by rw[EM,Q5,decide_eq_true rfl,if_pos rfl];show [(k+1- 1,z8)]=_;rw[Nat.add_sub_cancel]
def RE (hu:∀u∈us,Jz u):(iX 0 false (us.flatten++[92])).map lP=mB us++[.tup [.int (↑us.flatten:Nat),.str "\\"]]:=by unfold mB;rw[BX us 0 [92] hu,bH,qg,U7];rfl
def Y1 (l:List Int) (n:NN) (rs:SS) (y x j un op:OV):xx (Oy l n rs y x j un op)=aa (.next,Oy l n rs y x j un op):=by
 have hg:=B6 n;have htl:=oX n;have het:(iX 0 false (iA n++[92])).map lP=mB ((toks n).flatMap (unitsOf n))++[.tup [.int (↑(iA n):Nat),.str "\\"]]:=RE hg.unit;have hca:∀c∈iA n++[92],c<128:=λc hc=>by
  rcases cb.mp hc with hc|hc
  ·exact hg.cps c hc
  ·erw [aB.mp hc];decide
 have hxl: ↑((iX 0 false (iA n++[92])).map lP)<50000:=by erw [het,aj,uE];have:=hg.count;show _+1<_;exact aet this
 have h1:ei DB (zM (ba .Add (ak 4) ↥"\\")) (dN (bf 0) fG (gO (ak 0))) (Oy l n rs y x j un op)= ~~~(.lst (mB ((toks n).flatMap (unitsOf n))++[.tup [.int (↑(iA n):Nat),.str "\\"]])):=by
  have hs:ba .Add (ak 4) ↥"\\" (Oy l n rs y x j un op)= ~~~(.str (T (iA n++[92]))):=dq rfl rfl (by
   erw [<- DM];exact kg _ (T (iA n)) (T [92]) (by erw [gG,gG];simp;exact aeu htl))
  erw [lc (λst=>∃a,st=⟨[a],[],(Oy l n rs y x j un op).ob⟩) (λz=>true) (λx=>x) (RD hs hca) hxl ⟨ac,rfl⟩ ?_]
  ·erw [bL.mpr (λz z=>rfl),sN,het]
  ·rintro v _ st ⟨a,rfl⟩;exact⟨⟨[~~~v],[],(Oy l n rs y x j un op).ob⟩,rfl,rfl,⟨_,rfl⟩,λz=>rfl⟩
 have h2:ba .Add (ak 5) (j7 (au (jb (au (dJ km (au (ak 4) aZ)) (au ↥"\\" aZ))) aZ)) (Oy l n rs y x j un op)= ~~~(.lst (mB ((toks n).flatMap (unitsOf n))++[.tup [.int (↑(iA n):Nat),.str "\\"]])):=by have cH:=BZ (Oy l n rs y x j un op) (T (iA n)) (by erw [gG];exact Wy htl);erw [gG]at cH;have:=hg.count;exact dq (a:= .ob 5) rfl (rS (bA (qm (bA (iJ (bA rfl rfl) cH) (bA rfl rfl)) rfl (by simp)) rfl) rfl (by simp)) (Rv _ rfl rfl (λx h=>by cases h) (by erw [uE];show _+1<=_;exact aev this))
 have h3:j9 dW (au (ba .Add (ak 4) ↥"\"(") aZ) (Oy l n rs y x j un op)= ~~~(B5 n):=by
  have ZW:=Ap (n:=n) (P:=toks n) (Q:=[]) (by simp) (r:=[[34],[40]]) (λu hu=>by
   rcases aH.mp hu with rfl|hu
   ·exact⟨.inl ⟨34,by decide,rfl⟩,by decide⟩
   ·exact(aB.mp hu)▸(⟨.inl ⟨40,by decide,rfl⟩,by decide⟩)) ∅ ∅
  have hs:ba .Add (ak 4) ↥"\"(" (Oy l n rs y x j un op)= ~~~(.str (T ((toks n).flatMap (unitsOf n)++[[34],[40]]).flatten)):=dq rfl rfl (by
   erw [dz,<- DM];exact kg _ (T (iA n)) (T [34,40]) (by erw [gG,gG];simp;exact aew htl))
  refine mW (bA hs rfl) rfl ?_;erw [B0 ZW.unit ZW.cps ZW.size ZW.count,uC,dz];rfl
 unfold xx;erw [jV]
 ·rfl
 ·erw [zv (fT h1 h2 (vL _ (lF λv hv=> ?_))),zv (fT h3 rfl (ne_str _ _))]
  ·rfl
  ·rcases cb.mp hv with hv|hv
   ·let ⟨q,_,rfl⟩:=aQ.mp hv;exact L4 _ _
   ·erw [aB.mp hv];exact L4 _ _
noncomputable def U8 (n:NN):Nat:=((cJ 6).map n).sum
def Y2 (st:St) (n:NN):MJ st [.pv (.lst (ig λk=>(n k:Int)))]= ~~~(.int (U8 n:Nat)):=by show(aa (ig λk=>(n k:Int))).bind (λl=>(jN l).map λns=>CV.pv (.int ns.sum))=_;rw[bK,(by unfold ig;rw[bC];rfl:ig (λk=>(n k:Int))=((cJ 6).map λk=>(n k:Int)).map PV.int),pe];show aa (CV.pv (.int ((cJ 6).map λk=>(n k:Int)).sum))=_;refine congrArg (λz=>aa (CV.pv (.int z))) ?_;unfold U8;simp[lT]
abbrev B7 (n h:NN):PV:= .oK ((zr n).map λy=>(nm y,.int (h y:Nat)))
structure tO (n h:NN) (de f:Nat):Prop where
 hue:Nw n h
 f6:f<6
 fd: ↑(vi n f)+1=de
 all:∀x,x<6-> ↑(vi n x)+1<=de
abbrev pZ (l:List Int) (n:NN) (h:NN) (de f:Nat) (rs:SS) (y x j un op wd:OV):St:=Fu l n rs [.list (ju n),.list (ju n),.list (mB ((toks n).flatMap (unitsOf n)))] y x j (~~~(B7 n h)) (text:= ~~~(.str (T (iA n)))) (unit:=un) (opening:=op) (bare:= ~~~(B5 n)) (AW:= ~~~(.int (de:Nat))) (first:= ~~~(.str (nm f))) (wide:=wd)
def Y3 (l:List Int) (n:NN) (hn:∀k,n k<=61000000) (rs:SS) (y x j un op:OV):∃h de f,tO n h de f/\xy (Oy l n rs y x j un op)=aa (.next,pZ l n h de f rs y x j un op ac):=by
 have hm:U8 n<500000000:=by have h1:=hn 1;have h2:=hn 2;have h3:=hn 3;have h4:=hn 4;have h5:=hn 5;unfold U8;simp[lT];exact aex (hn 0) h1 h2 h3 h4 h5
 left;let ⟨h,de,f,h1,h2,h3,h4,h5⟩:=U4 (n:=n) hm;right;refine⟨h,de,f,⟨h1,h2,h3,h4⟩,?_⟩;unfold xy bZ;rw[mW (bA rfl (bA (iJ (bA rfl rfl) (Y2 _ n)) rfl)) rfl h5];rfl
def Y4 (l:List Int) (n:NN) (h:NN) (de f:Nat) (rs:SS) (y x j un op:OV):BC (pZ l n h de f rs y x j un op ac)=aa (.next,pZ l n h de f rs y x j un op (~~~(.lst [.lst []]))):=rfl
def JN (x:Str) (l:List Str):anyStr x (l.map PV.str)=aa (l.any λy=>y==x):=by
 induction l with
 |nil=>rfl
 |cons y l ih=>show(anyStr x (l.map PV.str)).map ((y==x)|| ·)=_;rw[ih];rfl
def U9 (h:nm a++nm b=nm i++nm j):a=i/\b=j:=by have:=congrArg (λs:Str=>s.cps.toList) h;have e: [97+a,97+b]=[97+i,97+j]:=this;simp at e;exact e
def HL (hi:i<6) (hj:j<6):anyStr (nm i++nm j) ((jQ n).map PV.str)=aa (rel n i j):=by
 rw[JN];refine congrArg aa ?_;rw[dr,AD];unfold jQ;constructor
 ·rintro⟨s,hs,e⟩;rw[beq_iff_eq]at e;subst e;let ⟨a,_,hs⟩:=iO.mp hs;let ⟨b,hb,e⟩:=aQ.mp hs;let ⟨rfl,rfl⟩:=U9 e;exact(aY.mp hb).2
 ·intro h;exact⟨_,iO.mpr ⟨i,fY.mpr hi,aQ.mpr ⟨j,aY.mpr ⟨fY.mpr hj,h⟩,rfl⟩⟩,beq_self_eq_true _⟩
def oY (hi:i<6) (hj:j<6) (h1:f st= ~~~(.str (nm i))) (h2:g st= ~~~(.str (nm j))) (h3:h st= ~~~(g4 n)):
  bY .In (ba .Add f g) h st=aa (rel n i j)/\bY .NotIn (ba .Add f g) h st=aa (!rel n i j):=by
 have e:=dq h1 h2 (kg st (nm i) (nm j) (by rw[jP,jP];decide));refine⟨fT e h3 (yA (HL hi hj)),fT e h3 (yA ?_)⟩;show(anyStr (nm i++nm j) ((jQ n).map PV.str)).map (!·)=_;rw[HL hi hj];rfl
def JO (l:List PV):iH l []=aa l.isEmpty:=by
 unfold iH;induction l with
 |nil=>rfl
 |cons a l=>rw[if_neg (by simp)];rfl
def CW (A:Nz):List PV:=A.map λi=> .str (nm i)
def kQ (W:LN):PV:= .lst (W.map λA=> .lst (CW A))
def DU (n:NN) (W:LN) (x:Nat): ↑(qp n W x)<=2* ↑W:=by unfold qp;have:=eY (λA=>A.all λy=> !(rel n x y||rel n y x)) W;rw[aj,aw];exact aey this
def RF (h1:f st=aa a) (h2:g st=aa b):Gs f g st=aa (a||b):=by
 unfold Gs;rw[h1];cases a
 ·exact h2
 ·rfl
abbrev RH:St->Option CV:=ei DC (jx (ak 0)) (dN (bf 0) (Gs (bY .In (ba .Add (aX 0) (ak 0)) (aX 1)) (Gs (bY .In (ba .Add (ak 0) (aX 0)) (aX 1)) vy)) (gO (ak 0)))
def uM (n:NN) (x y:Nat):Bool:=rel n x y||rel n y x
def Y5 (hx:x<6) (hA:∀y∈A,y<6) (hl: ↑A<=6):RH ⟨[~~~(.lst (CW A))],[~~~(.str (nm x)),~~~(g4 n)],ob⟩= ~~~(.lst (CW (A.filter λy=>uM n x y))):=by
 unfold RH;erw [lc (λst=>∃a,st=⟨[a],[~~~(.str (nm x)),~~~(g4 n)],ob⟩) (λv=>uM n x (iY v)) (λv=>v) (xX rfl) (by unfold CW;rw[aw];lia) ⟨ac,rfl⟩ ?_]
 ·unfold CW;rw[sN,dF];rw[(by funext k;show uM n x (iY (.str (nm k)))=_;rw[fU]:(λv=>uM n x (iY v)) ∘ (λi=>PV.str (nm i))=λy=>uM n x y)]
 ·rintro v hv st ⟨a,rfl⟩;left;let ⟨y,hy,rfl⟩:=aQ.mp hv;right;refine⟨⟨[~~~(.str (nm y))],[~~~(.str (nm x)),~~~(g4 n)],ob⟩,rfl,?_,⟨_,rfl⟩,λq=>rfl⟩;rw[fU];rw[RF (oY (n:=n) hx (hA y hy) rfl rfl rfl).1 (RF (oY (n:=n) (hA y hy) hx rfl rfl rfl).1 rfl),Bool.or_false];rfl
abbrev Fv:St->Option CV:=ei yx (jx (ak 11)) (dN (bf 0) (bY .Eq RH (j7 aZ)) (gO (ba .Add (ak 0) (j7 (au (aX 0) aZ)))))
def Va (hx:x<6) (hW:∀A∈W,(∀y∈A,y<6)/\ ↑A<=6) (hl: ↑W<=64) (h1:yx.st st=⟨[ac],[~~~(.str (nm x)),~~~(g4 n)],st.ob⟩) (h2:ak 11 st= ~~~(kQ W)):
  ba .Add (ak 11) Fv st= ~~~(kQ (qp n W x)):=by
 have hg:Fv st= ~~~(.lst ((W.filter λA=>A.all λy=> !(rel n x y||rel n y x)).map λA=> .lst (CW (A++[x])))):=by
  unfold Fv;erw [lc (λcf=>∃a,cf=⟨[a],[~~~(.str (nm x)),~~~(g4 n)],st.ob⟩) (λv=>match v with| .lst l=>(l.filter λy=>uM n x (iY y)).isEmpty|_=>false) (λv=>match v with| .lst l=> .lst (l++[.str (nm x)])|_=>v) (xX h2) (by rw[aw];exact Wz hl) (h1▸⟨ac,rfl⟩) ?_]
  ·rw[dF,bC];have e:∀A:List Nat,((CW A).filter λy=>uM n x (iY y)).isEmpty=A.all λy=> !(rel n x y||rel n y x):=λA=>by
    unfold CW;rw[dF,List.isEmpty_map];have e:(λv=>uM n x (iY v)) ∘ (λi=>PV.str (nm i))=λy=>uM n x y:=by funext k;show uM n x (iY (.str (nm k)))=_;rw[fU]
    rw[e];rw[dr,Tu,cK,fI];simp[uM]
   rw[(funext e:((λv:PV=>match v with| .lst l=>(l.filter λy=>uM n x (iY y)).isEmpty|_=>false) ∘ λA=>PV.lst (CW A))=λA=>A.all λy=> !(rel n x y||rel n y x))];have e3:((λv:PV=>match v with| .lst l=>PV.lst (l++[.str (nm x)])|_=>v) ∘ λA=>PV.lst (CW A))=λA=>PV.lst (CW (A++[x])):=by funext A;show PV.lst (CW A++[.str (nm x)])=_;unfold CW;rw[bH];rfl
   rw[e3]
  ·rintro v hv cf ⟨a,rfl⟩;obtain(⟨A,hA,rfl⟩):=aQ.mp hv;obtain(⟨h6,hA6⟩):=hW A hA;refine⟨⟨[~~~(.lst (CW A))],[~~~(.str (nm x)),~~~(g4 n)],st.ob⟩,rfl,?_,⟨_,rfl⟩,λq=> ?_⟩
   ·refine fT (Y5 hx h6 hA6) rfl (yA ?_);show iH _ []=_;rw[JO];unfold CW;show _=aa ((A.map λi=>PV.str (nm i)).filter λy=>uM n x (iY y)).isEmpty;rw[dF];rw[(by funext k;show uM n x (iY (.str (nm k)))=_;rw[fU]:(λv=>uM n x (iY v)) ∘ (λi=>PV.str (nm i))=λy=>uM n x y)]
   ·exact dq rfl (rS (bA rfl rfl) rfl (by simp)) (tN _ _ _ (by unfold CW;rw[aw];show _+1<=_;exact WA hA6))
 rw[dq h2 hg (tN _ _ _ (by rw[aw,aw];exact aez hl (eY (λA=>A.all λy=> !(rel n x y||rel n y x)) W)))];unfold kQ qp;rw[bH,bC];rfl
def NM (R:Nz):∀(P:Nz) (W:LN) (x:OV),P++R=L6-> ↑W<=2 ^ ↑P->(∀A∈W,(∀y∈A,y<6)/\ ↑A<= ↑P)->
  ∃x',lM (jI 15) (aC (bZ (ba .Add (ak 11) Fv) (bf 11)) br) (R.map λi=> .str (nm i)) (pZ l n h de f rs y x j un op (~~~(kQ W)))=aa (.next,pZ l n h de f rs y x' j un op (~~~(kQ (R.foldl (qp n) W)))):=by
 induction R with
 |nil=>intro P W x _ _ _;exact⟨x,rfl⟩
 |cons i R ih=>
  intro P W x hp hl hW;have hi:i<6:=fY.mp (hp▸(dS _ ay));have hP: ↑P<6:=by have:=congrArg eX hp;rw[aj,az]at this;exact aeA this rfl
  let ⟨x',e⟩:=ih (P++[i]) (qp n W i) (~~~(.str (nm i))) (by rw[<- hp];simp) (by
   have:=DU n W i;rw[aj,be,Nat.pow_succ];exact aeB this hl) (λA hA=>by
   rw[aj,be];rcases cb.mp hA with hA|hA
   ·exact⟨(hW A hA).1,by have:=(hW A hA).2;exact aeC this⟩
   ·let ⟨B,hB,rfl⟩:=aQ.mp hA;have hB:=hW B (aY.mp hB).1;refine⟨λz hz=> ?_,by rw[aj,be];exact Cn hB.2⟩;rcases cb.mp hz with hz|hz
    ·exact hB.1 z hz
    ·exact(aB.mp hz)▸hi)
  refine⟨x',?_⟩;erw [bx,iD (st1:=pZ l n h de f rs y (~~~(.str (nm i))) j un op (~~~(kQ W))) (st2:=pZ l n h de f rs y (~~~(.str (nm i))) j un op (~~~(kQ (qp n W i)))) rfl ?_,e]
  ·rfl
  ·refine dw ?_;unfold bZ;rw[Va (n:=n) (x:=i) (W:=W) hi (λA hA=>⟨(hW A hA).1,by have:=(hW A hA).2;exact aeD this hP⟩) (aeE hl (Nat.pow_le_pow_right ∅ (acd hP))) rfl rfl];rfl
def Y6 (l:List Int) (n h:NN) (de f:Nat) (rs:SS) (y x j un op:OV):∃x',BD (pZ l n h de f rs y x j un op (~~~(.lst [.lst []])))=aa (.next,pZ l n h de f rs y x' j un op (~~~(kQ (nv n)))):=by let ⟨x',e⟩:=NM (l:=l) (n:=n) (h:=h) (de:=de) (f:=f) (rs:=rs) (y:=y) (j:=j) (un:=un) (op:=op) L6 [] [[]] x (gf _) ∅ (λA hA=>by exact(aB.mp hA).symm▸(⟨λz hz=>absurd hz gw,ab _⟩));exact⟨x',(jW (qD _ (λk=>cE (n k)) rfl)).trans e⟩
def L5 (h1:M∈ns) (h2:∀a∈ns,a<=M):MK ns=aa M:=by
 induction ns with
 |nil=>cases h1
 |cons a r=>
  show aa (r.foldl max a)=aa M;let ⟨p,q,s⟩:=sW r a;refine congrArg aa (uK ?_ ?_)
  ·rcases p with p|p
   ·exact(p).symm▸(h2 a ay)
   ·exact h2 _ (aK _ p)
  ·rcases aH.mp h1 with rfl|h1
   ·exact q
   ·exact s _ h1
def yG:x∈zr n↔x<6:=by
 unfold zr;rw[aQ];constructor
 ·rintro⟨c,hc,rfl⟩;rw[aY,gk]at hc;exact Nat.sub_lt_left_of_lt_add (of_decide_eq_true hc.2) hc.1
 ·intro h;exact⟨6+x,aY.mpr ⟨gk.mpr (aeF h),decide_eq_true (aeG)⟩,by exact KQ⟩
def HM (h:f st= ~~~(.oK l)):pk f st=(jN (l.map (·.2))).bind λns=>(MK ns).map λm=>CV.pv (.int m):=by unfold pk;rw[h];rfl
def RI (h1:st.ow a=aa l) (h2:st.ow b=aa m) (ha:a.aP=ac) (h:iH l m=aa r):sT st .Eq a b=aa r:=by show(a.aP.bind _).or (afo .Eq ((st.ow a).bind λl=>(st.ow b).bind (iH l)))=_;rw[ha,h1,h2];exact h
def RJ (H:tO n h de f) (hg:g st= ~~~(B7 n h)):pk g st= ~~~(.int ((de:Int)- 1)):=by
 left;let ⟨h1,x,hx,h2⟩:=H.hue.max H.f6 H.all H.fd;right;erw [HM (l:=(zr n).map λy=>(nm y,PV.int (h y:Nat))) hg,(by erw [bC,bC];rfl:((zr n).map λy=>(nm y,PV.int (h y:Nat))).map (·.2)=((zr n).map λy=>(h y:Int)).map PV.int),pe,bK,L5 (M:=(de:Int)- 1)]
 ·rfl
 ·exact aQ.mpr ⟨x,yG.mpr hx,by exact aeH h2⟩
 ·intro a ha;let ⟨y,hy,rfl⟩:=aQ.mp ha;have:=h1 y (yG.mp hy);exact aeI this
def zw (u:Nz):Bool:=eS "abcdef" (T u)
def JP (us:LN):∀(i:Nat),((((ml i us).map lP).filter λv=>match v with| .tup [_,.str s]=>eS "abcdef" s|_=>false).map λv=>match v with| .tup [_,.str s]=>PV.str s|v=>v)=(us.filter zw).map λu=> .str (T u):=by
 induction us with
 |nil=>intro _;exact rfl
 |cons u us ih=>
  intro i;rw[ml,bx,bl,bl];have ih:=ih (i+ ↑u);show List.map _ (if zw u=true then _ else _)=_;split
  ·rw[bx,ih];rfl
  ·exact ih
def NO (h:p<7):(gI p).filter zw=[]:=by refine U0 h ?_ ?_ ?_ ?_ ?_ ?_ ?_<;>decide+kernel
def NP (hc:c<12):(unitsOf n c).filter zw=if c<6 then [[97+c]] else []:=by
 unfold unitsOf qF;split
 ·rename_i h;rw[bl,if_neg (by decide+kernel),bl,if_pos (show zw [97+c]=true from(B2 h).1),NO (nX _)]
 ·rename_i h;rw[bl,if_neg (by rw[show zw [65+(c- 6)]=false from(B2 (show c- 6<6 by exact Wg hc)).2.1];decide),bl,if_neg (by decide+kernel)];rfl
def RK (n:NN):((toks n).flatMap (unitsOf n)).filter zw=(Hv n).map λx=>[97+x]:=by
 have key:∀cs:List Nat,(∀c∈cs,c<12)->(cs.flatMap (unitsOf n)).filter zw=(cs.filter λc=>decide (c<6)).map λx=>[97+x]:=by
  intro cs;induction cs with
  |nil=>exact λq=>rfl
  |cons c cs ih=>
   intro h;erw [bJ,bT,NP (h c ay),ih λc hc=>h c (aK _ hc),bl];by_cases hc:c<6
   ·erw [if_pos hc,if_pos (decide_eq_true hc)];rfl
   ·erw [if_neg hc,if_neg (by simpa using hc)];rfl
 erw [key _ λc hc=>gk.mp hc];refine congrArg _ ?_;unfold toks Hv UV;erw [lq];refine eR λj q=> ?_;erw [List.filter_filter,show cJ 12=L6++L6.map (6+ ·) by decide,bT,dF];erw [cK (l:=L6) (p:=_ ∘ _)|>.mpr λc q=>by simp;intro h;exact aeJ h,zG,bu];exact io λc hc=>by erw [decide_eq_true (fY.mp hc),Bool.true_and]
def HN:ei yy (GC (ak 5)) (dN (pT (eT (bf 0) (eT (bf 1) pS))) (bY .In (ak 1) ↥"abcdef") (gO (ak 1))) (pZ l n h de f rs y x j un op wd)= ~~~(.lst (ju n)):=by
 erw [lc (λst=>∃a b,st=⟨[a,b],[],(pZ l n h de f rs y x j un op wd).ob⟩) (λv=>match v with| .tup [_,.str s]=>eS "abcdef" s|_=>false) (λv=>match v with| .tup [_,.str s]=>PV.str s|v=>v) (rfl:GC (ak 5) (pZ l n h de f rs y x j un op wd)=aa (mB ((toks n).flatMap (unitsOf n)))) (by erw [uE];have:=(B6 n).count;exact aeK this) ⟨ac,ac,rfl⟩ ?_]
 ·unfold mB;erw [JP,RK,bC];rfl
 ·rintro v hv st ⟨a,b,rfl⟩;let ⟨q,_,rfl⟩:=aQ.mp hv;exact⟨⟨[~~~(.int q.1),~~~(.str q.2)],[],(pZ l n h de f rs y x j un op wd).ob⟩,rfl,rfl,⟨_,_,rfl⟩,λz=>rfl⟩
def zx (n:NN):iH (ju n) (ju n)=aa true:=lF λv hv=>by let ⟨i,_,rfl⟩:=aQ.mp hv;exact ux 2 _
def DV (h1:f st=aa a) (h2:g st=aa b) (h3:h st=aa d) (h4:sT st o1 a b=aa p) (h5:sT st o2 b d=aa q):vz o1 o2 f g h st=aa (p&&q):=by unfold vz;rw[h1,h2,h3];show(sT st o1 a b).bind _=_;rw[h4];show(sT st o2 b d).map _=_;rw[h5];rfl
def Fw (h:f st=aa a):yk f st=aa (!a):=by unfold yk;rw[h];rfl
def Vb (H:tO n h de f) (hw:ak 11 st= ~~~(kQ (nv n))) (sG:rb.st st=⟨[ac],[],st.ob⟩) (hwl: ↑(nv n)<50000):
  dJ EA (au (ei rb (jx (ak 11)) (dN (bf 0) fG (gO (dJ km (au (ak 0) aZ))))) aZ) st= ~~~(.int (de:Nat)):=by
 left;let ⟨h1,A,hA,h2⟩:=Hx H.f6 H.all H.fd;right;have hc:ei rb (jx (ak 11)) (dN (bf 0) fG (gO (dJ km (au (ak 0) aZ)))) st= ~~~(.lst (((nv n).map λA=>(↑A:Int)).map PV.int)):=by
  erw [lc (λcf=>∃a,cf=⟨[a],[],st.ob⟩) (λq=>true) (λv=>match v with| .lst l=> .int (↑l:Nat)|v=>v) (xX hw) (by rw[aw];exact hwl) (sG▸⟨ac,rfl⟩) ?_]
  ·rw[bL.mpr λq q=>rfl,bC,bC];have e:((λv:PV=>match v with| .lst l=>PV.int (↑l:Nat)|v=>v) ∘ λA=>PV.lst (CW A))=PV.int ∘ λA=>(↑A:Int):=by funext A;show PV.int (↑(CW A):Nat)=_;unfold CW;rw[aw];rfl
   rw[e]
  ·rintro v hv cf ⟨a,rfl⟩;let ⟨A,hA,rfl⟩:=aQ.mp hv;have:=h1 A hA;exact⟨⟨[~~~(.lst (CW A))],[],st.ob⟩,rfl,rfl,⟨_,rfl⟩,λq=>iJ (bA rfl rfl) (tL _ _ (by unfold CW;rw[aw];exact Dg ((((Ao n).1 A hA).1.length_le))))⟩
 refine iJ (bA hc rfl) ?_;show(aa (((nv n).map λA=>(↑A:Int)).map PV.int)).bind (λl=>(jN l).bind λns=>(MK ns).map λm=>CV.pv (.int m))=_;rw[bK,pe,bK,L5 (M:=(de:Int))]
 ·rfl
 ·exact aQ.mpr ⟨A,hA,by rw[h2]⟩
 ·intro a ha;let ⟨B,hB,rfl⟩:=aQ.mp ha;have:=h1 B hB;exact AH this
def NQ (n:NN): ↑(nv n)<=64:=by
 have key:∀(R:Nz) (W:LN),↑(R.foldl (qp n) W)<=2 ^ ↑R* ↑W:=by
  intro R;induction R with
  |nil=>intro W;simp
  |cons i R ih=>intro W;rw[jf,az,Nat.pow_succ,Nat.mul_assoc];exact aA (ih (qp n W i)) (pM (2 ^ ↑R) (DU n W i))
 exact key L6 [[]]
def Y7 (l:List Int) (n h:NN) (de f:Nat) (H:tO n h de f) (rs:SS) (y x j un op:OV):xA (pZ l n h de f rs y x j un op (~~~(kQ (nv n))))=aa (.next,pZ l n h de f rs y x j un op (~~~(kQ (nv n)))):=by
 have h1:vz .Eq .Eq (ak 2) (ak 3) (ei yy (GC (ak 5)) (dN (pT (eT (bf 0) (eT (bf 1) pS))) (bY .In (ak 1) ↥"abcdef") (gO (ak 1)))) (pZ l n h de f rs y x j un op (~~~(kQ (nv n))))=aa true:=
  DV (p:=true) (q:=true) (a:= .ob 3) (b:= .ob 4) rfl rfl HN (RI (a:= .ob 3) rfl rfl rfl (zx n)) (RI (a:= .ob 4) rfl rfl rfl (zx n))
 have h2:vz .Eq .Eq (ba .Add ⇑1 (pk (aX 1))) (ak 9) (dJ EA (au (ei rb (jx (ak 11)) (dN (bf 0) fG (gO (dJ km (au (ak 0) aZ))))) aZ)) (pZ l n h de f rs y x j un op (~~~(kQ (nv n))))=aa true:=by
  have e:∀a:Int,sT (pZ l n h de f rs y x j un op (~~~(kQ (nv n)))) .Eq (.pv (.int a)) (.pv (.int a))=aa true:=λa=>by show aa (a==a)=_;erw [beq_self_eq_true]
  have h3:ba .Add ⇑1 (pk (aX 1)) (pZ l n h de f rs y x j un op (~~~(kQ (nv n))))= ~~~(.int (de:Nat)):=by erw [dq rfl (RJ H rfl) (tH _ 1 _)];refine congrArg (λz=>aa (CV.pv (.int z))) ?_;exact aeL
  exact DV (p:=true) (q:=true) h3 rfl (Vb H rfl rfl (by have:=NQ n;exact Wz this)) (e _) (e _)
 unfold xA;erw [jV]
 ·rfl
 ·erw [zv (Fw h1),zv (Fw h2)];rfl
def RL (h:st.WO o=aa l) (k:l.lookup x=aa d):nV st o (.pv (.str x))=aa d:=by show(st.WO o).bind _=_;rw[h];exact k
def DW (st:St) (hx:x<6):nV st (.pv (B7 n h)) (.pv (.str (nm x)))=aa (.int (h x:Nat)):=
 RL (l:=(zr n).map λy=>(nm y,PV.int (h y:Nat))) rfl (vK (F:=λy=>PV.int (h y:Nat)) (yG.mpr hx))
def Y8 (l:List Int) (n h:NN) (de f:Nat) (H:tO n h de f) (rs:SS) (y x j un op wd:OV):xB (pZ l n h de f rs y x j un op wd)=aa (.next,pZ l n h de f rs y x j un op wd):=by
 let ob:=(pZ l n h de f rs y x j un op wd).ob;let cv:List (Option CV):=[~~~(cq λk=>cE (n k)),~~~(g4 n),~~~(B7 n h)];have Sg:∀a b,a<6->b<6->(decide ((nm a).cps.toList< (nm b).cps.toList)&&((h a:Int)==(h b:Int)&&(!rel n a b&&(!rel n b a&&true))))=false:=by
  intro a b ha hb;by_cases e:a=b
  ·subst e;rw[decide_eq_false (List.lt_irrefl _)];rfl
  ·cases h1:rel n a b with
   |true=>simp
   |false=>
    cases h2:rel n b a with
    |true=>simp
    |false=>have:=H.hue.inc ha hb e ⟨h1,h2⟩;rw[show((h a:Int)==(h b:Int))=false from beq_false_of_ne (aeM this)];simp
 unfold xB;rw[jV]
 ·rfl
 ·refine fT (a:= .pv (.lst [])) ?_ rfl (vL _ rfl);erw [yC (λst=>∃a b,st=⟨[a,b],cv,ob⟩) (λq q=>false) (λi j=> .str (nm i++nm j)) (qD _ (λk=>cE (n k)) rfl) ⟨ac,ac,rfl⟩ ?_]
  ·rfl
  ·rintro a ha st ⟨u,v,rfl⟩;refine⟨⟨[~~~(.str (nm a)),v],cv,ob⟩,rfl,rfl,⟨_,_,rfl⟩,qD _ (λk=>cE (n k)) rfl,λst=>∃v,st=⟨[~~~(.str (nm a)),v],cv,ob⟩,⟨_,rfl⟩,λst ⟨v,h⟩=>⟨_,v,h⟩,?_⟩;rintro b hb st ⟨v,rfl⟩;refine⟨⟨[~~~(.str (nm a)),~~~(.str (nm b))],cv,ob⟩,rfl,?_,⟨_,rfl⟩,λe=>(by cases e)⟩;rw[<- Sg a b ha hb];exact rT rfl (rT (fT (cA (f:=aX 2) (g:=ak 0) rfl rfl (DW _ ha)) (cA (f:=aX 2) (g:=ak 1) rfl rfl (DW _ hb)) rfl) (rT (oY (n:=n) ha hb rfl rfl rfl).2 (rT (oY (n:=n) hb ha rfl rfl rfl).2 rfl)))
def JQ (a:Nz) (h:1<= ↑a):lh (T a) ac (aa (-1))=T (a.take (↑a- 1)):=by
 have e:lh (T a) ac (aa (-1))=lh (T a) ac (aa ((↑a- 1:Nat):Int)):=by
  unfold lh;have:nB ac (aa (-1)) 1 ↑(T a)=nB ac (aa ((↑a- 1:Nat):Int)) 1 ↑(T a):=by unfold nB;rw[gG];simp only[show(1:Int)>0 by decide,if_true,show((-1:Int)<0) by decide];rw[if_neg (nT.mpr (dO _)),sf h,uc (-1)];rfl
  rw[this]
 rw[e,Q7 (jR _ _)]
def NR (h2:d<=6):Txt.mul (T [41]) (d:Nat)=T (bQ d 41):=U0 (gJ h2) rfl rfl rfl rfl rfl rfl rfl
def B8 (n:NN) (P:Nz):List Nat:=(P.flatMap (unitsOf n)).flatten++[40]
def fC (n:NN) (P:Nz) (d:Nat):List Nat:=B8 n P++bQ d 41
def B9 (ht:toks n=P++f::Q) (hf:f<6):∃r,iA n=B8 n P++(97+f)::r:=by refine⟨(gI (dP (n f))).flatten++(Q.flatMap (unitsOf n)).flatten,?_⟩;unfold iA B8;rw[ht,iC,bJ,dz,dz,show unitsOf n f=[40]::[97+f]::gI (dP (n f)) by unfold unitsOf qF;rw[if_pos hf]];simp
def JR (h:p<7):∀c∈(gI p).flatten,c<97:=by refine U0 h ?_ ?_ ?_ ?_ ?_ ?_ ?_<;>decide
def RM (ht:toks n=P++f::Q) (hf:f<6):97+f∉B8 n P:=by
 intro h;unfold B8 at h;rcases cb.mp h with h|h
 ·let ⟨u,hu,hc⟩:=nE.mp h;let ⟨c,hcP,hu⟩:=iO.mp hu;unfold unitsOf qF at hu;split at hu
  ·rcases aH.mp hu with rfl|hu
   ·have:=aB.mp hc;exact WB this
   ·rcases aH.mp hu with rfl|hu
    ·have:=aB.mp hc;exact aeN this (λe=>mX ((oH ht).mp (e▸hcP)).2)
    ·have:=JR (nX (n c)) _ (nE.mpr ⟨u,hu,hc⟩);exact aeO this
  ·rcases aH.mp hu with rfl|hu
   ·have:=aB.mp hc;exact aeP this ((gk (n:=n)).mp (by rw[ht];exact fu _ hcP))
   ·rw[aB.mp hu]at hc;have:=aB.mp hc;exact aeQ this
 ·have:=aB.mp h;exact WB this
def DX (H:tO n h de f):1<=de/\de<=6:=by
 have:=fq (l₁:=f::vi n f) (fE.mpr ⟨λh=>mX (jX.mp h).2.1,lg.filter _⟩) (l₂:=L6) λy hy=>by
  rcases aH.mp hy with rfl|hy
  ·exact fY.mpr H.f6
  ·exact fY.mpr (jX.mp hy).1
 rw[az]at this;exact aeR H.fd this rfl
abbrev NS (l:List Int) (n:NN) (h:NN) (de f:Nat) (rs:SS) (y x j un op:OV) (fr gv kp rt pr du:OV):St:=Fu l n rs [.list (ju n),.list (ju n),.list (mB ((toks n).flatMap (unitsOf n)))] y x j (~~~(B7 n h)) (text:= ~~~(.str (T (iA n)))) (unit:=un) (opening:=op) (bare:= ~~~(B5 n)) (AW:= ~~~(.int (de:Nat))) (first:= ~~~(.str (nm f))) (wide:= ~~~(kQ (nv n))) (front:=fr) (given:=gv) (kept:=kp) (right:=rt) (pair:=pr) (due:=du)
def As (ht:toks n=P++f::Q) (hf:f<6): ↑(B8 n P)<60:=by let ⟨r,hr⟩:=B9 ht hf;have:=oX n;rw[hr,aj,az]at this;exact aeS this
def Y9 (l:List Int) (n h:NN) (H:tO n h de f) (ht:toks n=P++f::Q) (rs:SS) (y x j un op:OV):xC (NS l n h de f rs y x j un op ac ac ac ac ac ac)=aa (.next,NS l n h de f rs y x j un op (~~~(.str (T (fC n P de)))) ac ac ac ac ac):=by
 left;let ⟨r,hr⟩:=B9 ht H.f6;let ⟨d1,d2⟩:=DX H;right;have hix:eQ "str" A4 (ak 4) (au (ak 10) aZ) (NS l n h de f rs y x j un op ac ac ac ac ac ac)= ~~~(.int (↑(B8 n P):Nat)):=by let ⟨is,hi⟩:=Q4 (B:=r) (RM ht H.f6);rw[<- hr]at hi;refine pB (o:= .pv (.str (T (iA n)))) (ds:=[.pv (.str (nm f))]) rfl rfl rfl ?_;show WQ (je (T (iA n)) (T [97+f]) 0 ↑(T (iA n)) 1)=_;rw[hi];rfl
 have hsl:fN (ak 4) eD (gV (eQ "str" A4 (ak 4) (au (ak 10) aZ))) eD (NS l n h de f rs y x j un op ac ac ac ac ac ac)= ~~~(.str (T (B8 n P))):=by
  have ho:gV (eQ "str" A4 (ak 4) (au (ak 10) aZ)) (NS l n h de f rs y x j un op ac ac ac ac ac ac)=aa (aa (↑(B8 n P):Int)):=by unfold gV;rw[hix];rfl
  erw [uA rfl rfl ho (by erw [gG];exact Wy (oX n)),Q7 (by erw [hr,aj];exact O0),hr,List.take_left]
 have hmu:ba .Mult ↥")" (ak 9) (NS l n h de f rs y x j un op ac ac ac ac ac ac)= ~~~(.str (T (bQ de 41))):=by
  refine dq rfl rfl ?_;have e:AR .Mult (.str (T [41])) (.int (de:Nat))=aa (.str (T (bQ de 41))):=by show(if ↑(T [41])=1/\(0:Int)<=(de:Nat)/\((de:Nat):Int)<=1000 then aa (PV.str (Txt.mul (T [41]) (de:Nat))) else ac)=_;rw[if_pos ⟨rfl,by exact Gh,by exact aeT d2⟩,NR d2]
  rw[show ah ")" =T [41] from rfl];exact Hj e
 unfold xC bZ;rw[dq hsl hmu (kg _ _ _ (by rw[gG,gG,nD];exact aeU (As ht H.f6) d2)),DM];rfl
def mn (n:NN) (P:Nz) (d:Nat):List Str:=[T (fC n P d),T (fC n P (d- 1)),T (41::fC n P (d- 1)),T (iA n)]
def rj (n:NN) (P:Nz) (d:Nat): ↑(fC n P d)= ↑(B8 n P)+d:=by unfold fC;rw[aj,nD]
def NT (h:1<=d):(fC n P d).take (↑(fC n P d)- 1)=fC n P (d- 1):=by rw[rj,Nat.add_sub_assoc h];unfold fC;rw[List.take_length_add_append,List.take_replicate,iz (jR _ _)]
def Za (ht:toks n=P++f::Q) (hf:f<6) (h1:1<=d) (h2:d<=6) (h:ak 12 st= ~~~(.str (T (fC n P d)))):fN (ak 12) eD (gV (wZ ⇑1)) eD st= ~~~(.str (T (fC n P (d- 1)))):=by have So:=As ht hf;rw[uA (i:=ac) (j:=aa (-1)) h rfl rfl (by rw[gG,rj];exact aA (gb (ce So) h2) ∅),JQ _ (by rw[rj];exact aA h1 (gn ..)),NT h1]
def HO {st:St} {n:NN} {P Q:Nz} {f d:Nat} (ht:toks n=P++f::Q) (hf:f<6) (h1:1<=d) (h2:d<=6) (h:ak 12 st= ~~~(.str (T (fC n P d)))) (h':ak 4 st= ~~~(.str (T (iA n)))):
  j7 (au (ak 12) (au (fN (ak 12) eD (gV (wZ ⇑1)) eD) (au (ba .Add ↥")" (fN (ak 12) eD (gV (wZ ⇑1)) eD)) (au (ak 4) aZ)))) st= ~~~(.lst ((mn n P d).map PV.str)):=by
 have So:=As ht hf;have hc:=Za ht hf h1 h2 h;have ha:ba .Add ↥")" (fN (ak 12) eD (gV (wZ ⇑1)) eD) st= ~~~(.str (T (41::fC n P (d- 1)))):=by rw[dq rfl hc (kg st (T [41]) (T (fC n P (d- 1))) (by rw[gG,gG,rj];exact aA (dX (gb (ce So) (aA (jR _ _) h2)) 1) ∅)),DM];rfl
 exact rS (bA h (bA hc (bA ha (bA h' rfl)))) rfl (by show 4<=1000;decide)
def Zb (l:List Int) (n h:NN) (H:tO n h de f) (ht:toks n=P++f::Q) (rs:SS) (y x j un op:OV):xD (NS l n h de f rs y x j un op (~~~(.str (T (fC n P de)))) ac ac ac ac ac)=aa (.next,NS l n h de f rs y x j un op (~~~(.str (T (fC n P de)))) (~~~(.lst ((mn n P de).map PV.str))) ac ac ac ac):=by unfold xD bZ;rw[HO ht H.f6 (DX H).1 (DX H).2 rfl rfl];rfl
def xY (d:Nat) (h:d<=6):(∀u∈([[40]]++bQ d [41]:LN),Jz u/\∀c∈u,c<128)/\ ↑([[40]]++bQ d [41]:LN)<=100/\([[40]]++bQ d [41]:LN).flatten.length<=100:=by
 refine⟨λu hu=> ?_,by simp;exact aA h ∅,by simp;exact aA h ∅⟩;rcases cb.mp hu with hu|hu
 ·rw[aB.mp hu];exact⟨.inl ⟨40,by decide,rfl⟩,by decide⟩
 ·rw[Ge hu];exact⟨.inl ⟨41,by decide,rfl⟩,by decide⟩
def rX (n:NN) (P:Nz) (d:Nat):List (List Nat):=P.flatMap (unitsOf n)++([[40]]++bQ d [41])
def RO:∀d:Nat,(bQ d [41]:LN).flatten=bQ d 41:=by
 intro l9;induction l9 with
 |zero=>exact rfl
 |succ d ih=>rw[wu,fP,ih];rfl
def tP (n:NN) (P:Nz) (d:Nat):(rX n P d).flatten=fC n P d:=by unfold rX fC B8;rw[dz,dz,RO];simp
def tQ (ht:toks n=P++f::Q) (h:d<=6):Good (rX n P d):=Ap ht (xY d h).1 (xY d h).2.1 (xY d h).2.2
def HP (n:NN) (P:Nz) (d:Nat):gD ac (rX n P d)=P.flatMap (jt n)++([40]::bQ d [41]):=by unfold rX;rw[uC];show _++gD ac ([40]::bQ d [41])=_;rw[oV ∅,B1]
def DY (H:tO n h de f) (ht:toks n=P++f::Q) (d:Nat):uB 0 (gD ac (rX n P d))=if d<=de then aa (de- d) else ac:=by have h1:=HD (n:=n) P [] (f::Q) (by rw[ht];rfl) ([40]::bQ d [41]);rw[gf]at h1;rw[HP];refine(show uB 0 _=uB ↑(mj ([]:Nz)) _ from rfl).trans (h1.trans ?_);show uB (↑(mj P)+1) (bQ d [41])=_;rw[(by rw[Jy ht H.f6,H.fd]: ↑(mj P)+1=de),NA]
def HQ (H:tO n h de f) (ht:toks n=P++f::Q):cZ [.str (T (fC n P de))]=aa (PV.bool true)/\cZ [.str (T (fC n P (de- 1)))]=aa (PV.bool false)/\cZ [.str (T (41::fC n P (de- 1)))]=aa (PV.bool false)/\cZ [.str (T (iA n))]=aa (PV.bool true):=by
 let ⟨d1,d2⟩:=DX H;refine⟨?_,?_,?_,?_⟩
 ·rw[<- tP,xU (tQ ht d2),DY H ht,if_pos (ab _),dc];rfl
 ·rw[<- tP,xU (tQ ht (Pf d2)),DY H ht,if_pos (aeV),show de- (de- 1)=1 by exact aeW d1];rfl
 ·have hg:=tQ (d:=de- 1) ht (Pf d2);have Kn:=rj n P (de- 1);rw[<- tP]at Kn⊢;have sG: ↑(rX n P (de- 1))<=8000:=by let ⟨_,a2,_⟩:=uD n P λc hc=>(gk (n:=n)).mp (by rw[ht];exact fu _ hc);have:=ri n;rw[ht,aj]at this;have h2:=(xY (de- 1) (Pf d2)).2.1;unfold rX;rw[aj];exact aeX a2 h2 this
  have ZW:Good ([41]::rX n P (de- 1)):=⟨λu hu=>by
    rcases aH.mp hu with rfl|hu
    ·exact .inl ⟨41,by decide,rfl⟩
    ·exact hg.unit u hu,λu hu=>by
    rcases aH.mp hu with rfl|hu
    ·decide
    ·exact hg.ascii u hu,by rw[fP,aj,Kn];simp;exact aeY (As ht H.f6) d2,by rw[az];exact aeZ sG⟩
  have:=xU ZW;rw[fP]at this;refine Eq.trans this ?_;rw[oV ∅];rfl
 ·refine(xU (B6 n)).trans ?_;have h1:=HD (n:=n) (toks n) [] [] (by simp) [];rw[gf,Q2,bu]at h1;have h2:=uC n (toks n) [];rw[bu]at h2;rw[h2];show aa (PV.bool (uB 0 (_++[])==aa 0))=_;rw[bu,show uB 0 ((toks n).flatMap (jt n))=aa 0 from h1];rfl
def Zc (l:List Int) (n h:NN) (H:tO n h de f) (ht:toks n=P++f::Q) (rs:SS) (y x j un op:OV):xE (NS l n h de f rs y x j un op (~~~(.str (T (fC n P de)))) (~~~(.lst ((mn n P de).map PV.str))) ac ac ac ac)=aa (.next,NS l n h de f rs y x j un op (~~~(.str (T (fC n P de)))) (~~~(.lst ((mn n P de).map PV.str))) ac ac ac ac):=by
 left;let ⟨c1,c2,c3,c4⟩:=HQ H ht;right;let rs4:List (Str×Bool):=[(T (fC n P de),true),(T (fC n P (de- 1)),false),(T (41::fC n P (de- 1)),false),(T (iA n),true)];have hp:hZ [.lst ((mn n P de).map PV.str)]=aa (.lst ([T (fC n P de),Rb,Rb,T (iA n)].map PV.str)):=YP (rs:=rs4) (λr hr=>by
  rcases aH.mp hr with rfl|hr
  ·exact c1
  ·rcases aH.mp hr with rfl|hr
   ·exact c2
   ·rcases aH.mp hr with rfl|hr
    ·exact c3
    ·exact(aB.mp hr)▸c4) (by show 4<1000;decide)
 unfold xE;rw[jV]
 ·rfl
 ·have e1:=fT (op:= .NotEq) (mW (bA (f:=ak 13) (g:=aZ) (l:=[]) (st:=NS l n h de f rs y x j un op (~~~(.str (T (fC n P de)))) (~~~(.lst ((mn n P de).map PV.str))) ac ac ac ac) rfl rfl) rfl hp) (rS (bA (f:=ak 12) rfl (bA (f:= ↥"('', '')") rfl (bA (f:= ↥"('', '')") rfl (bA (f:=ak 4) (g:=aZ) (l:=[]) rfl rfl)))) rfl (by show 4<=1000;decide)) (vL _ (tJ [T (fC n P de),Rb,Rb,T (iA n)]));rw[zv e1,zv (fT (op:= .NotEq) (f:=ak 13) (st:=NS l n h de f rs y x j un op (~~~(.str (T (fC n P de)))) (~~~(.lst ((mn n P de).map PV.str))) ac ac ac ac) rfl (HO ht H.f6 (DX H).1 (DX H).2 rfl rfl) (vL _ (tJ (mn n P de))))];rfl
def FT (l:List Int) (n h:NN) (de f:Nat) (rs:SS) (y x j un op fr gv kp rt pr du:OV):St:=NS l n h de f rs y x j un op fr gv kp rt pr du
def L7 (sG:cl.st st=⟨[ac],[~~~(.str (nm x)),~~~(g4 n)],ob⟩) (hit:it st=aa (L6.map λi=> .str (nm i)))
  (ht:∀i,i<6->test ⟨[~~~(.str (nm i))],[~~~(.str (nm x)),~~~(g4 n)],ob⟩=aa (p i)):ei cl it (dN (bf 0) test (gO (ak 0))) st= ~~~(fL (L6.filter p)):=by
 erw [xN (λst=>∃a,st=⟨[a],[~~~(.str (nm x)),~~~(g4 n)],ob⟩) p (λi=> .str (nm i)) hit (sG▸⟨ac,rfl⟩) ?_]
 ·rfl
 ·rintro i hi st ⟨a,rfl⟩;exact⟨⟨[~~~(.str (nm i))],[~~~(.str (nm x)),~~~(g4 n)],ob⟩,rfl,ht i hi,⟨_,rfl⟩,λq=>rfl⟩
def vT (A:Nz):iH (A.map λi=>PV.str (nm i)) (A.map λi=>PV.str (nm i))=aa true:=lF λv hv=>by let ⟨i,_,rfl⟩:=aQ.mp hv;exact ux 2 _
def Zd (l:List Int) (n h:NN) (de f:Nat) (rs:SS) (y x j un op fr gv:OV):tD (FT l n h de f rs y x j un op fr gv ac ac ac ac)=aa (.next,FT l n h de f rs y x j un op fr gv ac ac ac ac):=by
 let ob:=(FT l n h de f rs y x j un op fr gv ac ac ac ac).ob;let C (a:OV):List (Option CV):=[a,~~~(cq λi=>fL (ii n i)),~~~(cq λk=>cE (n k)),~~~(g4 n),~~~(cq λi=>fL (kz n i))];unfold tD;rw[jV]
 ·rfl
 ·refine fT (a:= .pv (.lst [])) ?_ rfl (vL _ rfl);erw [xN (λst=>∃a,st=⟨[],C a,ob⟩) (λq=>false) (λi=> .str (nm i)) (qD _ (λk=>cE (n k)) rfl) ⟨ac,rfl⟩ ?_]
  ·rw[cK.mpr λq q=>by decide];rfl
  ·rintro i hi st ⟨a,rfl⟩;refine⟨⟨[],C (~~~(.str (nm i))),ob⟩,rfl,?_,⟨_,rfl⟩,λe=>(by cases e)⟩;have h1:bY .NotEq (bk (aX 1) (aX 0)) (ei DD (jx (aX 2)) (dN (bf 0) (bY .In (ba .Add (ak 0) (aX 0)) (aX 1)) (gO (ak 0)))) ⟨[],C (~~~(.str (nm i))),ob⟩=aa false:=
    fT (cA (f:=aX 1) (g:=aX 0) rfl rfl (gi _ (λi=>fL (ii n i)) (fY.mpr hi))) (L7 (n:=n) (x:=i) (ob:=ob) (p:=λk=>rel n k i) rfl (qD _ (λk=>cE (n k)) rfl) λk hk=>(oY hk hi rfl rfl rfl).1) (vL _ (vT (ii n i)))
   have h2:bY .NotEq (bk (aX 4) (aX 0)) (ei DE (jx (aX 2)) (dN (bf 0) (bY .In (ba .Add (aX 0) (ak 0)) (aX 1)) (gO (ak 0)))) ⟨[],C (~~~(.str (nm i))),ob⟩=aa false:=
    fT (cA (f:=aX 4) (g:=aX 0) rfl rfl (gi _ (λi=>fL (kz n i)) (fY.mpr hi))) (L7 (n:=n) (x:=i) (ob:=ob) (p:=λk=>rel n i k) rfl (qD _ (λk=>cE (n k)) rfl) λk hk=>(oY hi hk rfl rfl rfl).1) (vL _ (vT (kz n i)))
   rw[zv h1,zv h2];rfl
def HR (st:St) (n:NN) (h:aX 5 st= ~~~(mM n)):bk (aX 5) ⇑0 st= ~~~(.lst (bM (lz n))):=
 cA h rfl (kr _ [.lst (bM (lz n)),.lst (bM (rf n))] 0 ∅ rfl)
abbrev nY (n:NN):Option CV:= ~~~(.lst (bM (lz n)))
abbrev uO:Option CV:= ~~~(PV.bool true)
def RP (st:St) (l:List PV) (h: ↑l<=10000):Li st [.pv (.lst l)]= ~~~(.lst l):=by show((aa l).bind λl=>if ↑l<=sizeLine then aa (CV.pv (.lst l)) else ac)=_;rw[bK,if_pos (KP h rfl)]
def HS (h1:a st= ~~~va) (h2:b st= ~~~(PV.bool x)) (h3:t st=aa tv) (h4:r st= ~~~(.lst q)) (h5:st.Jg tv=aa w):xn i j a b t r st=aa (.next,ie i (.pv va) (ie j (.pv (PV.bool x)) st)):=by unfold xn;rw[h1,h2,h3,h4];show(st.Jg tv).map _=_;rw[h5];rfl
def Ze (l:List Int) (n h:NN) (de f:Nat) (rs:SS) (y x j un op fr gv:OV):BE (FT l n h de f rs y x j un op fr gv ac ac ac ac)=aa (.next,FT l n h de f rs y x j un op fr gv (nY n) uO ac ac):=by
 let st:=FT l n h de f rs y x j un op fr gv ac ac ac ac;have hr:bk (aX 5) ⇑0 st= ~~~(.lst (bM (lz n))):=HR _ n rfl;have h1:dJ Li (au (bk (aX 5) ⇑0) aZ) st= ~~~(.lst (bM (lz n))):=by refine iJ (bA hr rfl) ?_;have:=xP n;exact RP _ _ (by unfold bM;rw[aw];exact Dg this)
 have h2:qA (bY .Eq (ei yz (jx (aX 12)) (dN (bf 0) (yk (ms (bk (bk (aX 0) (ak 0)) ⇑2))) (gO (ak 0)))) (j7 aZ)) st= ~~~(PV.bool true):=by
  have hc:ei yz (jx (aX 12)) (dN (bf 0) (yk (ms (bk (bk (aX 0) (ak 0)) ⇑2))) (gO (ak 0))) st= ~~~(.lst []):=by
   erw [xN (λcf=>∃a,cf=⟨[a],[~~~(cq λk=>jO (n k))],st.ob⟩) (λq=>false) (λi=> .str (nm i)) (qD _ (λk=>cE (n k)) rfl) ⟨ac,rfl⟩ ?_]
   ·rw[cK.mpr λq q=>by decide];rfl
   ·rintro i hi cf ⟨a,rfl⟩;refine⟨⟨[~~~(.str (nm i))],[~~~(cq λk=>jO (n k))],st.ob⟩,rfl,?_,⟨_,rfl⟩,λe=>(by cases e)⟩;refine Fw (a:=true) ?_;unfold ms;rw[cA (cA (f:=aX 0) (g:=ak 0) rfl rfl (gi _ (λk=>jO (n k)) (fY.mpr hi))) rfl (mL _ [.fF (fl (lo (n i))),.fF (fl (Mine.hi (n i))),PV.bool true] 2 ∅ rfl)];rfl
  unfold qA;rw[fT hc rfl (Fe _ rfl)];rfl
 exact HS h1 h2 (tv:= .inst 0) (w:=(2,rs.map cW)) rfl hr rfl
def tR (i j:Nat):List PV:=[cW (up j,nm i),cW (nm i++up i,nm j)]
def DZ (h:v∈(jQ n).map PV.str):∃i j,i<6/\j<6/\rel n i j=true/\v= .str (nm i++nm j):=by left;let ⟨s,hs,rfl⟩:=aQ.mp h;let ⟨i,hi,hs⟩:=iO.mp hs;let ⟨j,hj,rfl⟩:=aQ.mp hs;right;rw[aY]at hj;exact⟨i,j,fY.mp hi,fY.mp hj.1,hj.2,rfl⟩
noncomputable def RQ (v:PV):Nat×Nat:=match v with
 | .str s=>(s.cps.toList.headD 0- 97,s.cps.toList.getD 1 0- 97)
 |_=>(0,0)
def RR (i j:Nat):RQ (.str (nm i++nm j))=(i,j):=by show(97+i- 97,97+j- 97)=_;rw[bO,bO]
def yH (h:f st= ~~~(.str (nm i++nm j))):bk f ⇑0 st= ~~~(.str (nm i))/\bk f ⇑1 st= ~~~(.str (nm j)):=
 ⟨cA h rfl (uv _ _ 0 ∅ (c:=97+i) rfl),cA h rfl (uv _ _ 1 ∅ (c:=97+j) rfl)⟩
def pairs_len (n:NN): ↑(jQ n)<=36:=by
 have h6:∀i,↑((L6.filter (rel n i)).map λj=>nm i++nm j)<=6:=λi=>by rw[aw];exact jK _
 unfold jQ;rw[pH];have h0:=h6 0;have h1:=h6 1;have h2:=h6 2;have h3:=h6 3;have h4:=h6 4;have h5:=h6 5;rw[show(L6.map λi=> ↑((L6.filter (rel n i)).map λj=>nm i++nm j)).sum= ↑((L6.filter (rel n 0)).map λj=>nm 0++nm j)+(↑((L6.filter (rel n 1)).map λj=>nm 1++nm j)+(↑((L6.filter (rel n 2)).map λj=>nm 2++nm j)+(↑((L6.filter (rel n 3)).map λj=>nm 3++nm j)+(↑((L6.filter (rel n 4)).map λj=>nm 4++nm j)+(↑((L6.filter (rel n 5)).map λj=>nm 5++nm j)+0))))) from rfl];exact ae0 h0 h1 h2 h3 h4 h5
def JS (n:NN):((jQ n).map PV.str).flatMap (λv=>tR (RQ v).1 (RQ v).2)=(bV n).map cW:=by
 unfold jQ bV;rw[gy,gy,List.flatMap_assoc];refine eR λi q=> ?_;rw[bC,iP,gy];have key:∀l:List Nat,(l.filter (rel n i)).flatMap (λj=>tR (RQ (PV.str (nm i++nm j))).1 (RQ (PV.str (nm i++nm j))).2)=l.flatMap λj=>(rowsOf n i j).map cW:=by
  intro l;induction l with
  |nil=>rfl
  |cons a l ih=>
   rw[bl,bJ,<- ih];unfold rowsOf;split
   ·rw[bJ,RR];rfl
   ·rfl
 exact key L6
def Zf (l:List Int) (n h:NN) (de f:Nat) (rs:SS) (y x j un op fr gv:OV):xF (FT l n h de f rs y x j un op fr gv (nY n) uO ac ac)=aa (.next,FT l n h de f rs y x j un op fr gv (nY n) uO ac (~~~(.lst ((bV n).map cW)))):=by
 let ob:=(FT l n h de f rs y x j un op fr gv (nY n) uO ac ac).ob;unfold xF bZ;have hl:=pairs_len n;erw [ut (λst=>∃a b,st=⟨[a,b],[],ob⟩) (λq=>true) (λv=>tR (RQ v).1 (RQ v).2) (λq q=>true) (λq v=>v) (xs:=(jQ n).map PV.str) rfl (by rw[aw];exact aA hl ∅) (λq q=>by show 2<=100;decide) ⟨ac,ac,rfl⟩ ?_]
 ·rw[bL.mpr λq q=>rfl];rw[(by funext v;rw[bL.mpr λq q=>rfl,sN]:(λv=>((tR (RQ v).1 (RQ v).2).filter λq=>true).map λv=>v)=λv=>tR (RQ v).1 (RQ v).2),JS];rfl
 ·rintro v hv st ⟨a,b,rfl⟩;left;let ⟨i,k,hi,hk,_,rfl⟩:=DZ hv;right;refine⟨⟨[~~~(.str (nm i++nm k)),b],[],ob⟩,rfl,rfl,⟨_,_,rfl⟩,λq=>⟨?_,λst=>∃b,st=⟨[~~~(.str (nm i++nm k)),b],[],ob⟩,⟨_,rfl⟩,λst ⟨b,h⟩=>⟨_,b,h⟩,?_⟩⟩
  ·rw[RR];let ⟨p0,p1⟩:=yH (f:=ak 0) (st:=⟨[~~~(.str (nm i++nm k)),b],[],ob⟩) (i:=i) (j:=k) rfl;unfold jx;rw[qm (bA (qm (bA (vN hk p1) (bA p0 rfl)) rfl (by simp)) (bA (qm (bA (dq p0 (vN hi p0) (kg _ (nm i) (up i) (by rw[jP,Ju];decide))) (bA p1 rfl)) rfl (by simp)) rfl)) rfl (by simp)];rfl
  ·rintro u hu st ⟨b,rfl⟩;exact⟨⟨[~~~(.str (nm i++nm k)),~~~u],[],ob⟩,rfl,rfl,⟨_,rfl⟩,λq=>rfl⟩
def NU (r:Str×Str):PV.Et 3 (cW r) (cW r)=aa true:=LI 2 λx hx=>by
 rcases aH.mp hx with rfl|hx
 ·exact ux 1 _
 ·exact(aB.mp hx)▸(ux 1 _)
def HT (rs:SS):iH (rs.map cW) (rs.map cW)=aa true:=lF λv hv=>by let ⟨r,_,rfl⟩:=aQ.mp hv;exact NU r
def Zg (l:List Int) (n h:NN) (de f:Nat) (y x j un op fr gv:OV):xG (FT l n h de f (bV n) y x j un op fr gv (nY n) uO ac (~~~(.lst ((bV n).map cW))))=aa (.next,FT l n h de f (bV n) y x j un op fr gv (nY n) uO ac (~~~(.lst ((bV n).map cW)))):=by
 have hl:=qo n;have h1:bY .Eq (bk (aX 5) ⇑0) (ak 14) (FT l n h de f (bV n) y x j un op fr gv (nY n) uO ac (~~~(.lst ((bV n).map cW))))=aa true:=
  fT (HR _ n rfl) rfl (Fe _ (by unfold bM;rw[show(λc:Nat=>PV.int (c:Int))=PV.int ∘ λc:Nat=>(c:Int) from rfl,<- bC];exact Hn _))
 have h2:E2 (aX 8) (FT l n h de f (bV n) y x j un op fr gv (nY n) uO ac (~~~(.lst ((bV n).map cW))))= ~~~(.lst ((bV n).map cW)):=by show(xk ((bV n).map cW) []).map (λr=>CV.pv r.1)=_;rw[QT _ (by rw[aw];exact aA hl ∅)];rfl
 unfold xG bZ;rw[LK (rT (f:=ms (ak 15)) (a:=true) rfl (rT (Js h1) (Js (fT h2 (g:=ak 17) rfl (Fe _ (HT (bV n)))))))];rfl
def Fx (l:List α):cO l (aa (-1)) ac ac=[]\/∃a∈l,cO l (aa (-1)) ac ac=[a]:=by
 have h: ↑(cO l (aa (-1)) ac ac)<=1:=by rw[mK,cF,fH];refine aA (Cq ..) (Og (fK.mp ?_));exact Int.le_add_of_neg_add_le (b:=1) (ec (Int.le_min.mpr ⟨v8 _,ec (Int.add_le_add_right (by decide:(-1:Int)<=0) _) (Int.le_of_eq (Int.zero_add _))⟩) (ec (VN 0 _) (Int.self_le_toNat _)))
 have m:∀a∈cO l (aa (-1)) ac ac,a∈l:=λa=>tG;revert h m;cases cO l (aa (-1)) ac ac with
 |nil=>exact λq q=> .inl rfl
 |cons a t=>
  induction t with
  |nil=>exact λq m=> .inr ⟨a,m a ay,rfl⟩
  |cons=>exact λh=>absurd (mQ h) (Oi _)
def JT (h1:f st=aa v) (h2:st.Jg v=aa q) (h3:fa st=aa [.pv (.str x)]) (h4:kq q.2 [.str x]=aa r):mV f fa st= ~~~r.1:=by unfold mV;rw[h1,bK,h2,bK,h3];show(kq _ _).map _=_;rw[h4];rfl
def Vc (hi:i<6) (hj:j<6):kq ((bV n++[(nm j,nm i)]).map cW) [.str (up j)]=aa (.lst (((ii n j)++[i]).map λk=> .str (nm k)),(bV n++[(nm j,nm i)]).map cW):=by
 have hl:=qo n;have h1:=gj hj;erw [vM (x:=up j) (bV n++[(nm j,nm i)]) (by rw[h1.2.1];exact(i9 hj).1) (by rw[h1.2.1];exact js (by rw[jP];decide)) (λr hr=> ?_) (by rw[aj,be];lia)]
 ·rw[h1.2.1,bT,bH,bH (l₁:=ii n j)];have e2: [(nm j,nm i)].filter (λr:Str×Str=>cM r.1==nm j)=[(nm j,nm i)]:=by rw[bl,if_pos (by rw[h1.1];exact beq_self_eq_true _)];rfl
  rw[(BN n hj),e2];rfl
 ·rcases cb.mp hr with hr|hr
  ·exact tK hr
  ·rw[aB.mp hr,h1.1];exact js (by rw[jP];decide)
def Zh (l:List Int) (n h:NN) (de f:Nat) (y x j un op fr gv:OV):∃rs pr,xH (FT l n h de f (bV n) y x j un op fr gv (nY n) uO ac (~~~(.lst ((bV n).map cW))))=aa (.next,FT l n h de f rs y x j un op fr gv (nY n) uO pr (~~~(.lst ((bV n).map cW)))):=by
 let du:Option CV:= ~~~(.lst ((bV n).map cW));let st:=FT l n h de f (bV n) y x j un op fr gv (nY n) uO ac du;have hit:jx (fN (aX 3) (gV (wZ ⇑1)) eD eD) st=aa (cO ((jQ n).map PV.str) (aa (-1)) ac ac):=by
  have e2:pb st (.pv (g4 n)) (aa (-1)) ac ac=aa (.lst (cO ((jQ n).map PV.str) (aa (-1)) ac ac)):=by show(if ↑((jQ n).map PV.str)<=sizeLine/\(ac:Option Int)≠aa 0 then aa (PV.lst (cO ((jQ n).map PV.str) (aa (-1)) ac ac)) else ac)=_;rw[if_pos ⟨by rw[aw];exact ae2 (pairs_len n) rfl,by simp⟩]
  have e1:fN (aX 3) (gV (wZ ⇑1)) eD eD st=(pb st (.pv (g4 n)) (aa (-1)) ac ac).map CV.pv:=rfl;exact xX (by rw[e1,e2];rfl)
 unfold xH;rw[jW hit];rcases Fx ((jQ n).map PV.str)with e|⟨v,hv,e⟩
 ·rw[e];exact⟨bV n,ac,rfl⟩
 ·rw[e];left;let ⟨i,k,hi,hk,hr,rfl⟩:=DZ hv;right;let st1:=FT l n h de f (bV n) y x j un op fr gv (nY n) uO (~~~(.str (nm i++nm k))) du;let st2:=FT l n h de f (bV n++[(nm k,nm i)]) y x j un op fr gv (nY n) uO (~~~(.str (nm i++nm k))) du;refine⟨bV n++[(nm k,nm i)],~~~(.str (nm i++nm k)),?_⟩;let ⟨p0,p1⟩:=yH (f:=ak 16) (st:=st1) (i:=i) (j:=k) rfl;have a1:eJ (aX 8) (au (bk (ak 16) ⇑1) (au (bk (ak 16) ⇑0) aZ)) st1=aa (.next,st2):=
   (Fh (v:= .inst 0) (h:=2) (rs:=bV n) rfl rfl (bA p1 (bA p0 rfl)) (i9 hk).1 (i9 hi).1 (by rw[jP];decide) (ae3 (qo n))).trans rfl
  let ⟨q0,q1⟩:=yH (f:=ak 16) (st:=st2) (i:=i) (j:=k) rfl;have a2:mV (aX 8) (au (eQ "str" gS (bk (ak 16) ⇑1) aZ) aZ) st2= ~~~(.lst (((ii n k)++[i]).map λk=> .str (nm k))):=by exact JT (v:= .inst 0) (q:=(2,(bV n++[(nm k,nm i)]).map cW)) rfl rfl (bA (vN hk q1) rfl) (Vc hi hk)
  have a3:ba .Add (bk (aX 7) (bk (ak 16) ⇑1)) (j7 (au (bk (ak 16) ⇑0) aZ)) st2= ~~~(.lst (((ii n k)++[i]).map λk=> .str (nm k))):=by
   erw [dq (cA (f:=aX 7) rfl q1 (gi _ (λi=>fL (ii n i)) (fY.mpr hk))) (rS (bA q0 rfl) rfl (by simp)) (tN _ _ _ ?_)]
   ·rw[bH];rfl
   ·rw[aw];have: ↑(ii n k)<=6:=jK _;show _+1<=_;exact WA this
  rw[iD (st1:=st1) (st2:=st2) rfl]
  ·rfl
  ·rw[aU a1];refine dw ?_;unfold bZ;rw[LK (rT (f:=ms (ak 15)) (a:=true) rfl (Js (fT a2 a3 (Fe _ (vT _)))))];rfl
def Zi (l:List Int) (n h:NN) (de f:Nat) (rs:SS) (y x j un op fr gv pr du:OV):BF (FT l n h de f rs y x j un op fr gv (nY n) uO pr du)=aa (.ret (.pv (PV.bool true)),FT l n h de f rs y x j un op fr gv (nY n) uO pr du):=rfl
def RS (l:List Int) (hl: ↑l<=63):∃cf,QL (tE l)=aa (.ret (.pv (PV.bool true)),cf):=by
 let n:Nat->Nat:=λk=>(sumOf l k).toNat;have hn:∀k,n k<=61000000:=λk=>Int.toNat_le.mpr (zj l k).2;have vj:∀k,n k<=100000000:=λk=>aA (hn k) ∅;have h3:Fd l=st3 l n:=by unfold Fd st3;rw[show sumOf l=λk=>(n k:Int) from funext λk=>(ya (zj l k).1).symm]
 left;let ⟨y,x,e6⟩:=afS l n;let ⟨x14,e14⟩:=YX l n y x (bV n) (~~~(.str ""));let ⟨x15,e15⟩:=YY l n y x14 (bV n) (~~~(.str ""));let ⟨j,un,op,e16⟩:=YZ l n y x15 (bV n);let ⟨h,de,f,H,e19⟩:=Y3 l n hn (bV n) y x15 j un op;let ⟨Oc,e21⟩:=Y6 l n h de f (bV n) y x15 j un op;let ⟨P,Q,ht⟩:=List.append_of_mem ((gk (n:=n) (c:=f)).mpr (a8 H.f6 ∅));let ⟨rs,pr,e31⟩:=Zh l n h de f y Oc j un op (~~~(.str (T (fC n P de)))) (~~~(.lst ((mn n P de).map PV.str)));right;refine⟨FT l n h de f rs y Oc j un op (~~~(.str (T (fC n P de)))) (~~~(.lst ((mn n P de).map PV.str))) (nY n) uO pr (~~~(.lst ((bV n).map cW))),?_⟩;unfold QL;rw[aU (afE l hl),aU (afF l),h3,aU (afN l n vj),aU (afO l n),aU (afP l n vj),aU (afQ l n),aU e6,aU (afT l n y x)];rw[aU (afX l n y x _),aU (afY l n y x _),aU (YI l n y x _),aU (YJ l n y x _),aU (YV l n y x _),aU (YW l n y x _)];rw[aU e14,aU e15,aU e16,aU (Y0 l n _ y x15 j un op),aU (Y1 l n _ y x15 j un op),aU e19,aU (Y4 l n h de f _ y x15 j un op),aU e21];rw[aU (Y7 l n h de f H _ y Oc j un op),aU (Y8 l n h de f H _ y Oc j un op _)];rw[aU (Y9 l n h H ht _ y Oc j un op),aU (Zb l n h H ht _ y Oc j un op),aU (Zc l n h H ht _ y Oc j un op)];change aC tD _ (FT l n h de f (bV n) y Oc j un op (~~~(.str (T (fC n P de)))) (~~~(.lst ((mn n P de).map PV.str))) ac ac ac ac)=_;rw[aU (Zd l n h de f _ y Oc j un op _ _),aU (Ze l n h de f _ y Oc j un op _ _),aU (Zf l n h de f _ y Oc j un op _ _),aU (Zg l n h de f y Oc j un op _ _),aU e31];exact uw (Zi l n h de f rs y Oc j un op _ _ pr _)
noncomputable def JU:List (Str×Nat):=[("begin",15),("hues",14),("j",13),("pairs",12),("end",11),("rows",10),("over",9),("under",8),("table",7),("told",6),("pieces",5),("behind",4),("parts",3),("sums",2),("numbers",1),("x",0)]
def RT (Ik:S.yI=true) {l:List Int} (hl: ↑l<=63) (hA:jD 7 A) (uH:A.frames=aa []) (ht:0<s.toks) (R:Rel S c O s.heap)
  (hv:cT S.w c ↑O v (.pv (.lst (l.map PV.int)))) (E:VS) (Q:VS) (hQ:∀c' bv s',aM.le ↑O c c'->Rel S.mj c' bv s'.heap->dZ s s'->Q (.bool true) s'):wpAny (MM S.w) A (call (.ref 330) [v]) Q E s:=by
 let ⟨cf,ak4⟩:=RS l hl;have F:pU AI Jn JU:= .of 19 rfl rfl tt;let ⟨lI,rp,hl1,ak5,ak6,_⟩:=(kb.loc (S:=S) (lay:=eW AI Jn JU) (x:= "script") (i:=0) tt .nil) _ _ _ [.pv (.lst (l.map PV.int))] (tE l) (F.at0 (O:=O)) rfl;let ⟨bv,hb,SD,ak7⟩:=afD Ik _ _ _ _ cf ak5 ak4;rw[show dU=eW AI Jn JU from rfl]at hb;rw[F.en]at rp hb;refine wY (k:=6) F (λpm=>(jE.plain (names:=["script"]) (args:=[.pv (.lst (l.map PV.int))]) rfl (S8 λz=>rfl)).B) rp hA R (.pv (.con _)) (.cons hv .nil) rfl .nil λc3 s3 env l3 hE R3 K3 ht3 OF=> ?_;refine hb.run _ c3 s3 env hA.deeper ⟨(by show A.frames.map (env:: ·)=_;rw[uH];rfl),?_⟩ (a8 ht ht3) hE R3 _ _ λc4 v4 s4 l4 R4 K4 f4=> ?_
 ·exact OF
 have h9:=f4.Mx;clear f4;let ⟨_,q,f4⟩:=h9;cases q;have e4:=f4.dn;subst e4;exact hQ c4 _ s4 (l3.trans l4 rp.Yb) R4 (K3.trans K4)
def lH {α:Type} {h:iQ} {a:Addr} {f:Obj->α} {x:α} (e:look h a f=aa x):∃o,h.get? a=aa o/\f o=x:=ar.mp e
def rY {α β:Type} {f g:α->β} {l:List α} (e:l.map f=l.map g) {x:α} (hx:x∈l):f x=g x:=List.map_inj_left.mp e x hx
def JV {h:iQ} {a:Addr} {l:List (Str×Option Value)} (e:nsLook h a l=(true,l.map (·.2))):∃m,h.Ns a m/\∀p∈l,m p.1=p.2:=
 ⟨h.nsMap a,.of_isNs (congrArg Prod.fst e),λp hp=>rY (congrArg Prod.snd e) hp⟩
def RU (h:ae7 v=true):∃t,v= .int 0 t:=by
 induction v with
 |int n t=>obtain rfl:n=0:=of_decide_eq_true h;exact⟨t,rfl⟩
 |_=>exact eV h
def D0 (h:Pg v=true):v= .none:=by
 induction v with
 |none=>rfl
 |_=>exact eV h
def HU {o:Obj} {r:eh} (e:Ej o=aa (.type "function",r.fd .none)):∃pm,o.cls= .type "function" /\o.data= .func (r.fd pm):=by
 let ⟨c,d,dt,sl⟩:=o;induction dt with
 |func fd=>let ⟨e1,e2⟩:=bG (ag e);exact⟨fd.pyModule,e1,congrArg Data.func (congrArg (λx:FuncData=> {x with pyModule:=fd.pyModule}) e2:_)⟩
 |_=>exact gq e
def D1 (e:strOf? x=aa q):∃t,x=aa (.str q t):=by
 induction x with
 |none=>exact gq e
 |some v=>induction v with
  |str a t=>obtain rfl:=ag e;exact⟨t,rfl⟩
  |_=>exact gq e
def CX {o:Obj} {q:Str} (e:wG o=aa q):∃vs t,o.data= .fields vs/\vs[1]? =aa (.str q t):=by
 let ⟨c,d,dt,sl⟩:=o;induction dt with
 |fields vs=>let ⟨t,h⟩:=D1 e;exact⟨vs,t,rfl,h⟩
 |_=>exact gq e
def HV {o:Obj} {P:Addr} {t:Nat} (e:yf o=aa (.type "code",aa (.ref P),.ref P,.str "/claim/cut.py" t,.int 3 0,.bool true,.int 276 0)):
  ∃vs,o.cls= .type "code" /\o.data= .fields vs/\vs[11]? =aa (.ref P)/\vs.getD 11 .none= .ref P/\vs.getD 18 .none= .str "/claim/cut.py" t/\vs.getD 7 .none= .int 3 0/\vs.getD 9 .none= .bool true/\vs.getD 10 .none= .int 276 0:=by
 let ⟨c,d,dt,sl⟩:=o;induction dt with
 |fields vs=>simp only[yf,uY,Tj]at e;exact⟨vs,e.1,rfl,e.2.1,e.2.2.1,e.2.2.2.1,e.2.2.2.2.1,e.2.2.2.2.2.1,e.2.2.2.2.2.2⟩
 |_=>exact gq e
def RV {l:Vs} (e:WD l=true):∃t,l=[.int 0 t,.none]:=by
 rcases l with _|⟨a,_|⟨b,_|_⟩⟩
 ·exact eV e
 ·exact eV e
 ·let ⟨h1,h2⟩:=dD.mp e;let ⟨t,rfl⟩:=RU h1;obtain rfl:=D0 h2;exact⟨t,rfl⟩
 ·exact eV e
def Fy {o:Obj} (e:z0 o=true):∃n t,o.data= .seq #[.int 0 t,.none] n:=by
 let ⟨c,d,dt,sl⟩:=o;induction dt with
 |seq vs n=>let ⟨t,ht⟩:=RV e;exact⟨n,t,congrArg (Data.seq · n) (si.mp ht)⟩
 |_=>exact eV e
def NV {l:List eL} (e:Ph l=true):∃hs t,l=[⟨hs,.str "key" t,.none⟩]:=by
 rcases l with _|⟨⟨hs,k,v⟩,_|_⟩
 ·exact eV e
 ·let ⟨h1,h2⟩:=dD.mp e;let ⟨t,h⟩:=D1 (beq_iff_eq.mp h1);obtain rfl:=ag h;obtain rfl:=D0 h2;exact⟨hs,t,rfl⟩
 ·exact eV e
def CY {o:Obj} (e:wH o=true):∃c d hs t n sl,o=dfK c d hs t n sl:=by
 let ⟨c,d,dt,sl⟩:=o;induction dt with
 |dict es n=>let ⟨hs,t,ht⟩:=NV e;obtain rfl:es= #[_]:=si.mp ht;exact⟨c,d,hs,t,n,sl,rfl⟩
 |_=>exact eV e
def Fz {o:Obj} {vs:Array Value} (e:Ek o=aa vs):∃n,o.data= .seq vs n:=by
 let ⟨c,d,dt,sl⟩:=o;induction dt with
 |seq Vm n=>obtain rfl:=ag e;exact⟨n,rfl⟩
 |_=>exact gq e
def FA {o:Obj} {a:Addr} (e:wJ o=aa (.type "re.Pattern",ac,.int 0 0,.int 0 0,.ref a)):
  ∃fs,o.cls= .type "re.Pattern" /\o.data= .fields fs/\o.dict=ac/\fs.getD 6 .none= .int 0 0/\fs.getD 2 .none= .int 0 0/\fs.getD 5 .none= .ref a:=by
 let ⟨c,d,dt,sl⟩:=o;induction dt with
 |fields fs=>simp only[wJ,uY,Tj]at e;exact⟨fs,e.1,rfl,e.2.1,e.2.2.1,e.2.2.2.1,e.2.2.2.2⟩
 |_=>exact gq e
def FC {o:Obj} {l:Nz} (e:z1 o=aa l):∃items n,o.data= .seq items n/\((items.map iB).map nS).toList=l:=by
 let ⟨c,d,dt,sl⟩:=o;induction dt with
 |seq vs n=>obtain rfl:=ag e;exact⟨vs,n,rfl,rfl⟩
 |_=>exact gq e
section
variable {h h':iQ} (e:obs h=good) (hk:∀a o,h.get? a=aa o->h'.get? a=aa o)
include e hk
theorem Au {a:Addr} {l:List (Str×Option Value)} (q:nsLook h a l=(true,l.map (·.2))):∃m,h'.Ns a m/\∀p∈l,m p.1=p.2:=
 xe12 (JV q) λm x y=>⟨m,x.keeps hk,y⟩
theorem NW:∀r∈fV,∃o pm,h'.get? r.addr=aa o/\o.cls= .type "function" /\o.data= .func (r.fd pm)/\h'.CodeRec (.ref r.code) r.qual:=λr hr=>by have a1:look h r.addr Ej=aa (aa (.type "function",r.fd .none)):=rY (f:=λr:eh=>look h r.addr Ej) (g:=λr=>aa (aa (.type "function",r.fd .none))) (congrArg Dh.fns e) hr;have a2:look h r.code wG=aa (aa r.qual):=rY (f:=λr:eh=>look h r.code wG) (g:=λr=>aa (aa r.qual)) (congrArg Dh.RX e) hr;left;let ⟨o,ho,hl⟩:=lH a1;let ⟨pm,h1,h2⟩:=HU hl;let ⟨oc,Mi,C1⟩:=lH a2;let ⟨vs,t,h3,h4⟩:=CX C1;right;exact⟨o,pm,hk _ _ ho,h1,h2,⟨r.code,oc,vs,t,rfl,hk _ _ Mi,h3,h4⟩⟩
theorem JW:∀q∈cm,h'.get? q.2=aa (tableObj #[])/\ud h'.get? q.1 q.2:=λq hq=>by
 have a1:h.get? q.2=aa (tableObj #[]):=rY (f:=λq:Addr×Addr=>h.get? q.2) (g:=λz=>aa (tableObj #[])) (congrArg Dh.tabs e) hq;have a2:∀p∈Pj,look h p.1 yf=aa (aa (.type "code",aa (.ref p.2.1),.ref p.2.1,.str "/claim/cut.py" p.2.2,.int 3 0,.bool true,.int 276 0)):=
  λp hp=>rY (f:=λq:Addr×Addr×Nat=>look h q.1 yf) (g:=λq=>aa (aa (.type "code",aa (.ref q.2.1),.ref q.2.1,.str "/claim/cut.py" q.2.2,.int 3 0,.bool true,.int 276 0))) (congrArg Dh.Zk e) hp
 refine⟨hk _ _ a1,?_⟩;have a3:∃t,look h q.1 yf=aa (aa (.type "code",aa (.ref q.2),.ref q.2,.str "/claim/cut.py" t,.int 3 0,.bool true,.int 276 0)):=by
  rcases aH.mp hq with rfl|hq
  ·exact⟨_,a2 (317,313,795) (.head _)⟩
  ·rcases aH.mp hq with rfl|hq
   ·exact⟨_,a2 (324,320,808) (.tail _ (.head _))⟩
   ·rcases aH.mp hq with rfl|hq
    ·exact⟨_,a2 (329,327,814) (.tail _ (.tail _ (.head _)))⟩
    ·nomatch hq
 left;let ⟨t,a3⟩:=a3;let ⟨o,ho,hl⟩:=lH a3;let ⟨vs,b1,b2,b3,b4,b5,b6,b7,b8⟩:=HV hl;right;refine⟨o,vs,_,_,_,_,_,_,_,hk _ _ ho,b1,b2,b3,b4,b5,b6,b7,b8,?_⟩;exact(by decide:∀q∈cm,q.1≠q.2) q hq
theorem NX:∀a∈[187,196,205,214],∃o n t,h'.get? a=aa o/\o.data= .seq #[.int 0 t,.none] n:=λa ha=>by have a1:look h a z0=aa true:=rY (f:=λa:Addr=>look h a z0) (g:=λq=>aa true) (congrArg Dh.Z9 e) ha;left;let ⟨o,ho,hl⟩:=lH a1;let ⟨n,t,hd⟩:=Fy hl;right;exact⟨o,n,t,hk _ _ ho,hd⟩
theorem JX:∀a∈[188,197,206,215],∃c d hs t n sl,h'.get? a=aa (dfK c d hs t n sl):=λa ha=>by have a1:look h a wH=aa true:=rY (f:=λa:Addr=>look h a wH) (g:=λq=>aa true) (congrArg Dh.N1 e) ha;let ⟨o,ho,hl⟩:=lH a1;let ⟨c,d,hs,t,n,sl,rfl⟩:=CY hl;exact⟨c,d,hs,t,n,sl,hk _ _ ho⟩
theorem JY:∀p∈rD,∃o fs oc items n,h'.get? p.1=aa o/\o.cls= .type "re.Pattern" /\o.data= .fields fs/\o.dict=ac/\fs.getD 6 .none= .int 0 0/\fs.getD 2 .none= .int 0 0/\fs.getD 5 .none= .ref p.2.1/\
  h'.get? p.2.1=aa oc/\oc.data= .seq items n/\((items.map iB).map nS).toList=p.2.2:=λp hp=>by
 have a1:look h p.1 wJ=aa (aa (.type "re.Pattern",ac,.int 0 0,.int 0 0,.ref p.2.1)):=rY (f:=λp:Addr×Addr×List Nat=>look h p.1 wJ) (g:=λp=>aa (aa (.type "re.Pattern",ac,.int 0 0,.int 0 0,.ref p.2.1))) (congrArg Dh.pats e) hp;have a2:look h p.2.1 z1=aa (aa p.2.2):=rY (f:=λp:Addr×Addr×List Nat=>look h p.2.1 z1) (g:=λp=>aa (aa p.2.2)) (congrArg Dh.Zl e) hp;left;let ⟨o,ho,hl⟩:=lH a1;let ⟨fs,b1,b2,b3,b4,b5,b6⟩:=FA hl;let ⟨oc,Mi,C1⟩:=lH a2;let ⟨items,n,b7,b8⟩:=FC C1;right;exact⟨o,fs,oc,items,n,hk _ _ ho,b1,b2,b3,b4,b5,b6,hk _ _ Mi,b7,b8⟩
theorem NY:h'.NoLimit:=
 xe12 (Au e hk (congrArg Dh.lim e)) λm x y=>⟨m,x,y _ (.head _)⟩
theorem JZ:∃o,h'.get? sysModules=aa o:=
 xe11 (ji.mp (congrArg Dh.mods e:(h.get? sysModules).isSome=true)) λo ho=>⟨o,hk _ _ ho⟩
theorem J0:∃o,h'.get? 4=aa o/\o.cls= .type "module" /\o.dict=aa builtinsNs/\o.data= .plain:=
 ⟨_,hk _ _ (congrArg Dh.bmod e:h.get? 4=_),rfl,rfl,rfl⟩
theorem NZ:∃nm q bs sn sub OT dd k0 k1 k2 k3 k5,h'.get? 182=aa (excClassObj nm q 182 181 bs [.type "object"] true sn sub false OT dd k0 k1 k2 k3 k5 "object.__new__"):=
 ⟨_,_,_,_,_,_,_,_,_,_,_,_,hk _ _ (congrArg Dh.cls e:h.get? 182=aa Pl)⟩
theorem HW:∃o n,h'.get? 69=aa o/\o.data= .seq #[.none] n:=
 xe12 (lH (congrArg Dh.D4 e:look h 69 Ek=aa (aa #[.none]))) λo ho hl=>xe11 (Fz hl) λn hd=>⟨o,n,hk _ _ ho,hd⟩
def HX (w:jB) (os:OsState):cz where
 w:=w
 h₀:=h'
 os:=os
 yI:=true
 glob:=Au e hk (congrArg Dh.glob e)
 blt:=Au e hk (congrArg Dh.blt e)
 lim:=NY e hk
 fns:=NW e hk
 tabs:=JW e hk
 Z9:=NX e hk
 N1:=JX e hk
 mods:=JZ e hk
 bmod:=J0 e hk
 cls:=NZ e hk
 D3:=Au e hk (congrArg Dh.D3 e)
 pats:=JY e hk
 D4:=HW e hk
end
noncomputable def tS (h:iQ) (a:Addr):Option Obj:=if a=313\/a=320\/a=327 then ac else h.get? a
def Zj (h:iQ):aM:=⟨tS h,λq=>0,λq=>ac⟩
def J3 {h:iQ} {a:Addr} {o:Obj} (e:tS h a=aa o):h.get? a=aa o:=by
 unfold tS at e;split at e
 ·nomatch e
 ·exact e
def D2 {h:iQ} {a:Addr} {o:Obj} (e:h.get? a=aa o) (n:∀q∈cm,a≠q.2):tS h a=aa o:=by
 unfold tS;rw[if_neg,e];rintro(r|r|r)
 ·exact n (317,313) (.head _) r
 ·exact n (324,320) (.tail _ (.head _)) r
 ·exact n (329,327) (.tail _ (.tail _ (.head _))) r
def J5 (h:iQ):∀q∈cm,tS h q.2=ac:=λq hq=>by unfold tS;rw[if_pos];revert q hq;decide
def N0 (S:cz):Rel S (Zj S.h₀) [] S.h₀ where
 frozen:=λz z e=>J3 e
 base:=λz z e n=>D2 e n
 own:=λi ao e=>by simp at e
 apart:=λi hi=>absurd hi (iy _)
 inj:=λi j hi=>absurd hi (iy _)
 pins:=λa o e=>by cases e
 tabs:=λq hq=>⟨J5 _ q hq,λi hi=>absurd hi (iy _),#[],(S.tabs q hq).1,⟨by exact trivial,λz z=>rfl⟩,λpos cd e=>by cases e⟩
def Vd {c:aM} {h:iQ} (R:Rel S c O h):OldK S.h₀ h:=by
 have key:∀b o,S.h₀.get? b=aa o->asItWas S.h₀ h b o:=λb o e=>by
  by_cases n:∀q∈cm,b≠q.2
  ·exact .inl (R.frozen _ _ (R.base _ _ e n))
  ·obtain⟨q,hq,rfl⟩:∃q∈cm,b=q.2:=pJ λm=>n λq hq x=>m ⟨q,hq,x⟩;left;let ⟨e0,x,vs,_,_,_,_,_,_,_,y1,y2,y3,y4,_⟩:=S.tabs q hq;let ⟨_,_,ps,hp,_⟩:=R.tabs q hq;right;rw[e0]at e;obtain rfl:=ag e;refine .inr (.inl ⟨⟨q.1,x,vs,y1,y2,y3,y4⟩,rfl,#[],ps,rfl,hp.trans ?_⟩);rw[Array.empty_append];rfl
 exact⟨key,λb o e=>by
  rcases key b o e with x|⟨_,_,_,_,_,x⟩|⟨_,_,⟨o',_,_,x,_⟩,_⟩
  ·exact⟨_,x⟩
  ·exact⟨_,x⟩
  ·exact⟨_,x⟩⟩
def Ve {w:jB} {F:Addr->Option Obj} {vs:Vs} {l:List Int} (h:rr vs l): ↑vs= ↑l/\∀(i:Nat) (v:Value) (d:PV),vs[i]? =aa v->(l.map PV.int)[i]? =aa d->dk w F v d:=by
 induction h with
 |nil=>exact⟨rfl,λi v d e=>by simp at e⟩
 |cons n t _ ih=>
  refine⟨congrArg (· +1) ih.1,λi v d e1 e2=> ?_⟩;induction i with
  |zero=>cases e1;cases e2;exact .int _ _
  |succ i=>exact ih.2 i v d e1 e2
def Vf {h:iQ} {a:Addr} {f g:Str->Option Value} (x:h.Ns a f) (y:h.Ns a g) (n:Str):f n=g n:=by let ⟨o,es,ep,e1,e2,_,e3⟩:=x;let ⟨o',es',ep',f1,f2,_,f3⟩:=y;rw[e1]at f1;cases f1;rw[e2]at f2;cases f2;exact(e3 n).symm.trans (f3 n)
def J6:jD 7 callerA:=⟨rfl,by decide,by decide,⟨_,rfl⟩,⟨_,rfl⟩⟩
def Vg {w:jB} {gE eG:bb} (e:obs gE.heap=good) (ht:gE.toks=816) {l:List Int} {v:Value} {as:List Addr} (L:Laid cu.row.records w gE eG [ofPy (IG (l.map Mo))] [v] as)
  {a:Addr} {vs:Vs} (hva:v= .ref a) (hL:eG.heap.IsList a vs.toArray) (hi:rr vs l) (hl: ↑l<=63):
  wpAny (MM w) callerA (call (.ref 330) [v]) (λv s'=>GoodWG cu.row.claim (classAt gE.heap) (Th gE.heap) [ofPy (IG (l.map Mo))] eG (.ok (.ret v)) s')
   (λe s'=>GoodWG cu.row.claim (classAt gE.heap) (Th gE.heap) [ofPy (IG (l.map Mo))] eG (.error e) s') eG:=by
 subst hva;have ho:=script_obj L hL;have hz:gE.heap.objs.size=331:=congrArg Dh.size e;have ha:a=331:=(script_at L).1.trans hz;have htk:=script_toks L ht;have hS:(HX e L.keeps w eG.os).h₀=eG.heap:=rfl;let ⟨h1,h2⟩:=Ve (w:=w) (F:=tS eG.heap) hi;refine RT (S:=HX e L.keeps w eG.os) (O:=[]) rfl hl J6 rfl (by exact ae4 htk) (N0 _) (.pv (.lst (D2 ho (by subst ha;decide)) ?_ ?_)) _ _ λc' bv s' q R' K=> ?_
 ·simpa using h1
 ·intro i v d e1 e2;exact h2 i v d (by simpa using e1) e2
 ·exact⟨.inl ⟨.bool true,.bool true,[],rfl,λq=>rfl,.bool true,by wrow_post,λq=>⟨kE,λq h=>nomatch h⟩⟩,Vd R',K.os,K.bare (by rw[L.gens];intro y hy;simp at hy)⟩
def RW:WalkX wF AJ (λq q=>True) IP (λq=>(good,816)) cu.row.toRowW yg [] λf vs=>PySem.call f vs:=by
 intro w gE eG mg mb G y a o pm cd doc dV kV ho hd C2 hD F6 hg args vals as L jJ ak8 hrd hwl D6;have hms:=Vf G.T.g ((Heap.Ns.of_isNs (congrArg (λx=>x.1.glob.1) y:gE.heap.isNs mainGlobals=true)).keeps L.keeps) "law";have hml:mg "law" =aa (.ref a):=F6;have h0:gE.heap.nsMap mainGlobals "law" =aa (.ref 330):=congrArg (λx=>x.1.own) y;rw[hml,h0]at hms;cases hms;clear hd ho C2 hD F6 hml
 wrow_args jJ ak8 hrd hwl D6
 rename rr _ _=>hi
 rename PySem.Heap.IsList _ _ _=>hL
 rename ¬_<_=>hc
 exact Vg (congrArg Prod.fst y) (congrArg Prod.snd y) L rfl hL hi (by exact ae5 hc)
def holds:cu.Holds:=
 holds_law Pm λs1=>holds_openX (q:=wF) (loose:=AJ) (Xt:=λs=>recOk [] s) (XP:=λz z=>True) (Yf:=IP) (Ya:=λz=>(good,816)) (d:=yg) (kwd:=[]) (N:=3728)
  Mv (λz z=>trivial) (λz z z h z=>h) TK TL rfl (λz e=>recFacts_of e) rfl s1 XU Pn El RW
end Mine
theorem PySem.Challenge.cw_ti0077_01_holds : PySem.Challenge.rw_ti0077_01.Holds := by
 exact Mine.holds
