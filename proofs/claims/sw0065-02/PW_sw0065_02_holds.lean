import PyProof.Rows.All
import KE.KUnpack
import ObjForm.ListNI
import Wide.FinOn
import OpenK.AllK
import Wide.All
import PySem.Challenge.RW_sw0065_02
set_option Elab.async false
set_option autoImplicit true
set_option relaxedAutoImplicit true
set_option linter.all false
set_option maxHeartbeats 2000000
set_option genInjectivity false
set_option genSizeOf false
set_option bootstrap.genMatcherCode false
set_option tactic.hygienic false
noncomputable section
open PySem.Float64 (div isZero divmod ofInt fmod isInf ofFrac truncOf sub val add mul one)
open Nat renaming le_trans->aa,lt_of_lt_of_le->ac,sub_add_cancel->ae,le_refl->ah,not_lt->av,le_antisymm->az,add_le_add_right->bn,le_of_eq->ce,ne_of_gt->cj,le_of_lt->da,lt_succ_self->dh,ne_of_lt->ez,le_add_of_sub_le->fc,le_max_right->ge,le_succ_of_le->gj,two_pow_pos->gq,lt_of_le_of_lt->gy,lt_irrefl->ii,lt_succ_of_lt->ik,le_max_left->ip,zero_le->iq,le_add_right->iv,mul_comm->iy,lt_trans->iz,mul_assoc->lf,le_succ->lj,le_add_left->lr,zero_add->mz,mul_left_comm->na,sub_eq_zero_of_le->og,pow_add->om,lt_or_ge->ot,min_le_right->ow,sub_lt_sub_left->pn,mul_le_mul_left->po,div_add_mod->ry,min_eq_left->sb,add_le_add_left->sj,ble->so,succ_pos->ta,mod_lt->tm,one_pos->tz,sub_pos_of_lt->ui,add_mod->un,le_of_not_lt->uw,add_sub_cancel_left->vt,min_eq_right->vy,not_lt_of_le->wb,le_of_succ_le_succ->wf,sub_le->wg,le_sub_one_of_lt->xo,not_succ_le_zero->xz,add_le_add->za,one_mul->zb,mul_le_mul_right->ze,pos_iff_ne_zero->zn,add_sub_cancel'->zu,eq_zero_or_pos->Ag,zero_mul->Ao,pow_succ->Aq,succ->Bb,le_of_succ_le->Be,add_zero->Bo,add_comm->Br,zero_lt_succ->Cb,not_le_of_lt->Ck,mul_one->Cu,mul_eq_zero->Dh,min_le_left->Dj,mul_le_mul->Dm,sub_lt->Dt,mul_div_le->Ei,min_assoc->Et,succ_mul->Fm,pow_zero->Fp,le_total->Fq,min_self->Fs,mul_zero->Ft,mul_add->Gn,not_le->Hb
open PySem.Float64 renaming sub->ab,isZero->bx,divmod->bz,ofInt->cr,fmod->df,cmp->eo,zero->lg,val_eq->mj,truncOf->mq,isInf->pq,val_natAbs->qg,decode->qp,sgn->rk,copysign->vx,isFinite->vz,lt->wi,floorOf->xf,ofFrac_right->zd,V->zm,decode_pack->zw,ofBin->Aa,add_right->Bk,mul_right->Bl,decode_ge->Bn,V_at->Fo,neg->Gp
open List renaming replicate->af,mem_cons_self->aj,map_cons->ak,all_eq_true->am,mem_cons->ax,cons_append->bf,getElem?_eq_getElem->bk,mem_append->cb,mem_singleton->cf,append_assoc->cg,map_map->co,range->cv,length_append->cw,replicate_succ->cy,length_cons->db,getElem?_eq_some_iff->de,map_append->di,lookup_cons->dk,getElem?_map->dp,length_map->dx,nil_append->eb,map_congr_left->ei,mem_cons_of_mem->en,filterMap_cons->ex,mem_map->fg,contains_eq_mem->fm,length->fo,mem_range->fw,append_nil->fy,map_nil->gp,mem_of_getElem?->ic,getD_eq_getElem?_getD->il,mem_map_of_mem->im,not_mem_nil->iw,sum_cons->lc,length_pos_iff->lw,length_eq_one_iff->ly,getElem?_toArray->mn,length_nil->mr,flatten_cons->mw,take_length->ni,zip_cons_cons->ny,getElem?_eq_none->oe,drop_eq_getElem_cons->pg,length_filterMap_le->pr,getD->qj,range_succ_eq_map->qo,take_of_length_le->qq,length_range->qr,forIn_nil->qt,contains_iff_mem->qx,length_filter_le->qy,getElem_mem->qz,length_drop->rd,length_take->re,getLast?_concat->ri,dropLast_concat->rj,mem_of_mem_take->rn,mem_of_mem_drop->ro,mem_filter->rx,length_reverse->si,all_map->su,getElem?_drop->tj,pairwise_cons->tq,take_left->tt,countP_cons->ux,mem_singleton_self->vd,drop_length->vf,any_eq_true->vm,getElem?_cons_zero->vn,getElem?_cons_succ->vo,isEmpty_map->wa,sum_append->wm,range_succ->xd,dropLast_eq_take->xj,getElem?_reverse->xk,take_append_drop->xm,countP_replicate->xn,drop_zero->zk,append_toArray->zp,toList_toArray->zq,length_flatten->zy,drop_nil->Ac,mem_filterMap->Af,countP_append->Aj,mem_replicate->Ak,zip_nil_right->Al,map->Aw,toArray->Ba,push_toArray->Bc,sum_nil->Bg,contains_nil->Bh,reverse_cons->Bt,mem_toArray->Bz,map_reverse->Ci,drop_append->Cj,lookup->Cp,foldl_cons->Dc,forIn_cons->De,of_mem_zip->Dg,filter_map->Dk,drop_drop->Eb,drop_take->Ed,map_take->Ev,map_drop->Ew,map_id'->Fv
open PySem renaming Value->ag,Shared->ai,Expr->ao,wpAny_bind->bh,wpAny_pure->cu,Around->dt,Addr->er,Operator->iD,Stmt->ig,wpAny_standAt->ij,Heap->li,wpAny_mono->lq,Scope->md,NameKind->my,Comprehension->rf,Keyword->we,UnaryOp->Ay,seqSlot_of->Bu,Result->Ce,IsEnum->Cf,BoolOp->Du,Flow->Dv,Frame->Dx,DictEntry->Ex,CmpOp->Ey,Const->Ez,Arguments->Fb,Program->Fe,Builtin->Fh,IsRangeIter->Gj,Protocol->Gm,JoinOk->Gy,Code->Ha,ExcName->Hc,Walks->Hh,Meets->Hr,Model->Hs
open Rat renaming intCast_le_intCast->al,le_of_lt->ar,intCast_lt_intCast->bg,lt_of_mul_lt_mul_right->ec,le_refl->eh,zero_mul->ej,mul_nonneg->em,intCast_natCast->fk,mul_le_mul_of_nonneg_right->fz,le_total->gf,not_le->gw,mul_lt_mul_of_pos_right->ie,natCast_mul->ln,le_antisymm->lu,not_lt->mf,div_mul_cancel->mi,natCast_pos->mo,natCast_ofNat->mv,intCast_pow->od,one_mul->on,ne_of_gt->oq,sub_eq_add_neg->qh,pow_zero->qk,natCast_le_natCast->ql,div_def->rh,pow_succ->sk,intCast_nonneg->tb,add_nonneg->tc,natCast_lt_natCast->wc,natCast_inj->wj,intCast_sub->wk,intCast_neg->wl,add_mul->zf,natCast_nonneg->Ad,neg_mul->Cv,mul_eq_zero->Cy,intCast_mul->Cz,natCast_add->DL,intCast_add->Da,intCast_inj->Db,mul_comm->Fc,ne_of_lt->Fu,mul_one->Ge
open Int renaming natAbs_of_nonneg->an,le_trans->au,sub_nonneg_of_le->bo,toNat_of_nonneg->bt,le_antisymm->ca,le_of_eq->ck,le_of_lt->dd,toNat_natCast->dg,not_lt->dr,emod_lt_of_pos->eg,ne_of_gt->ew,emod_nonneg->fj,natAbs_mul->fr,sub_pos_of_lt->gm,lt_irrefl->gn,le_refl->ia,lt_of_lt_of_le->ir,add_le_add_left->lx,natAbs_natCast->ml,add_nonneg->mm,sub_le_self->mu,add_left_cancel->ng,add_le_add->nj,ofNat_le->nz,lt_of_le_of_lt->oa,not_le->oj,le_add_of_nonneg_right->oo,sub_self->ov,ne_of_lt->pf,eq_ofNat_of_zero_le->qi,toNat_le->qm,add_zero->qv,add_le_add_right->rm,natCast_mul->sa,fdiv_eq_ediv_of_nonneg->tf,ofNat_natAbs_of_nonpos->tn,mul_neg->uj,add_sub_assoc->um,toNat->vw,mul_comm->wh,emod_two_eq->xh,mul_ediv_add_emod->xl,neg_le_of_neg_le->zc,sub_le_sub_right->zh,neg_le_neg->zi,sub_lt_sub_right->zj,sub_le_sub_left->zx,natAbs->Ah,natCast_nonneg->Ai,le_total->Bm,lt_trans->Bp,ofNat_lt->Bq,min_eq_right->Cg,max_eq_right->Ch,neg_mul->Cs,one_mul->Ct,min_eq_left->Di,natAbs_neg->Ee,pow_nonneg->Ef,add_lt_add->Eh,mul_assoc->Es,le_natAbs->Eu,pow_zero->Fd,ediv_one->Fk,mul_one->Gk,neg_neg->Go
open Option renaming isSome_iff_exists->aq,map_eq_some_iff->bj,map_some->bl,bind_eq_some_iff->dm,getD_none->iu,bind_some->nu,none->oh,getD_some->rW
open Bool renaming false_eq_true->aw,and_eq_true->ay,not_eq_true'->dq,or_eq_true->oc,or_eq_true_iff->ph,eq_iff_iff->qd,false_ne_true->qf,rec->td,or_eq_false_iff->xw,not_true->Ab,not_eq_true->Cd,not_false->Eg
open PySem.Heap renaming size_push->bm,get?_push_of_some->bw,get?_push_size->ci,lt_size->dL,SameBut->sv,size_update->Ca
open PySem.Builtin.Str renaming occurrences->dc,strSliceIndices->lz,tooLong->zo
open PySem.NameKind renaming free->dj,cell->fx
open Lean renaming RArray->ds
open PySem.Calls renaming docDef->dv,spliced_cons->fe,evalArgs_plain->ib,spliced_nil->lm,callWith_builtin->nx,callWith_function->va
open Pure renaming pure->dw
open PySem.Builtin.Range renaming rangeSize->fb,small->nc,rangeFitsLong->sw
open PySem.Challenge renaming rw_sw0065_02->fi
open Eq renaming subst->gh,trans->Dr
open Option.some renaming injEq->gk,inj->io
open OfNat renaming ofNat->ma
open Array renaming getElem?_eq_some_iff->mh,eq_empty_of_size_eq_zero->nh,toList->Fj
open Ordering renaming eq->nw,lt->Cm,gt->Cn
open PySem.Value renaming float->oi,int->zl,ref->Bx,none->Ec,bool->Gx
open PyProof.Rows renaming callWith_type->ol,AllBare->pw,assign_Tuple->tw,Assign_Tuple_swapped->An,getItem_tuple->Ds,isTrue_plain->En,Assign_Tuple->Eo,isTrue_not->Fa,IntsAre->Ff,mul_int->Gf,mod_int->Gg
open PySem.Builtin.Int renaming intBits->pi,intTooBig->xi
open Function renaming comp->pt,comp_def->Hi
open PySem.Expr.Tuple renaming elim->pz
open PySem.Expr.ListComp renaming elim->qe
open PySem.Sem renaming bind_eq_wrap'->qu,wrap_wrap->rg,bind_eq_wrap->vp,onRaise_eq_wrap->zs,wrap_congr->Ea,pure->Gq
open PySem.F renaming plainAttrs_list->qw,slot_int_rmul->rr,slot_tuple_mul->ut,slot_dict_getitem->zr,slot_tuple_rmul->Ar,args_int_rmul_2->As,slot_list_count->Ax,slot_int_index->Bv,entry_int_rmul->Bw,plainAttrs_str->Cc,fills_int_mul->Dd
open PySem.Expr.Subscript renaming elim->sd
open PySem.Expr.Attribute renaming elim->se
open PySem.Stmt.AugAssign renaming elim->sh
open Nat.succ renaming inj->sr
open PySem.Expr.Constant renaming elim->th
open Prod renaming ext->tu
open PySem.Builtin.Generator renaming genWake->ty
open PySem.AutoFloatOps renaming eq_0->ua,lt_0->Au,gt_0->Av,truediv_1->Fi,add_0->Gs,sub_0->Gu,mul_0->Gv,mod_1->Gw,ne_0->He,le_0->Hf,ge_0->Hg
open Ne renaming symm->uc
open PySem.Expr.UnaryOp renaming elim->ud
open PySem.Expr.Compare renaming elim->ue
open PySem.Code renaming weight->uf,cUnits->uh
open Int.le renaming dest->uk
open PySem.StrLaws renaming found_one->ul
open PySem.Shared renaming setGen->uo
open Int.ofNat renaming inj->uq
open PySem.Around renaming in1_depth->uu,in1_units->uv
open PySem.Expr.BoolOp renaming elim->uy
open PySem.Expr renaming Call->uz,UnaryOp->Az
open PySem.Stmt.Assign renaming elim->vh
open PySem.Stmt.Return renaming elim->vk
open PyProof renaming noPylong_small->wd
open PySem.Expr.BinOp renaming elim->wn
open PySem.Expr.IfExp renaming elim->wo
open PySem.Expr.Slice renaming elim->wq
open PySem.Stmt.While renaming elim->wu
open PySem.Stmt.Break renaming elim->wv
open PySem.Expr.Yield renaming elim->ww
open PySem.Expr.Name renaming elim->xp
open PySem.Expr.List renaming elim->xq
open PySem.Expr.Dict renaming elim->xt
open PySem.Expr.Call renaming elim->xu
open PySem.Const.int renaming elim->xv
open PySem.Stmt.Expr renaming elim->xy
open PySem.Stmt.For renaming elim->zz
open PySem.Walks renaming list->Ae,tuple->Cq
open PySem.AutoListH renaming list___mul___list_int_3->Am
open PySem.Stmt.If renaming elim->Bf
open PySem.End renaming susp->Bj
open PySem.IsRange renaming new->Cr
open Lean.Grind.Semiring renaming pow_zero->Cw
open ForInStep renaming yield->Df
open PySem.Str renaming cps_append->Dl,ext'->Gi,join->Hv
open PySem.Builtin.List renaming listFitsIndex->Dp,listTooLong->Ep
open PySem.isSame renaming created->Dq
open PyProof.Rows.Copied renaming pop_at->Dw
open Classical renaming byContradiction->Ej,epsilon_spec->Fg,choose_spec->Gd,epsilon->Hd,choose->Hp
open PySem.AutoFloatOpsIf renaming truediv_fi->Ek,add_fi->Fw,sub_fi->Fx,mul_fi->Fy,add_if->Fz,sub_if->Ga,mul_if->Gb
open PySem.MeetsSeq renaming seqIndex_none_lo->El,seqIndex_none_hi->Em,seqIndex_neg->Gc
open PySem.Expr.Set renaming elim->Er
open PySem.AutoIntOps renaming truediv_2->Gh,pow_0->Hj,pow_4->Hk,add_0->Hl,sub_0->Hm
open Decidable renaming of_not_not->Gl
open PUnit renaming unit->Gz
open PySem.IntMulOk renaming of_left->Hn
open PySem.P renaming neg_int->Ho
open PySem.Heap.DictOf renaming new->Hq
open PySem.Txt renaming join->Ht
open PySem.Const.str renaming elim->Hu
open List.cons renaming inj->Hw
section
namespace Mine
@[elab_as_elim] theorem O{α:Sort _}{a b:α}{motive:α->Prop}(h:a=b) (k:motive b):motive a:=Eq.substr h k
@[elab_as_elim] theorem XO{α:Sort _}{a b:α}{motive:α->Prop}(h:b=a) (k:motive b):motive a:=gh h k
namespace LA
open Lean.Grind Lean.Grind.CommRing
inductive LX where | V (i:Nat) | N (k:Nat) | A (a b:LX) | S (a b:LX) | M (a b:LX) | D (a b:LX) | P (a:LX) (k:Nat) | G (a:LX) | C (a:LX)
inductive LH where | L (c:Nat) (a b:LX) | T (c:Nat) (a b:LX) | U (c:Nat) (a b:LX) | X (c:Nat) (a b:LX) | Y (c:Nat) (a b:LX) | Z (c:Nat) (a b:LX)
abbrev Cx:=ds Rat
noncomputable def LX.den (v:Cx) (e:LX):Rat:=LX.rec (λi=>v.get i) (λk=>ma k) (λ_ _ a b=>a+b) (λ_ _ a b=>a-b) (λ_ _ a b=>a*b) (λ_ _ a b=>a/b) (λ_ k a=>a ^ k) (λ_ a=>-a) (λ_ a=>a) e
noncomputable def cst:Poly->Nat
 | .num k=>k.toNat
 | _=>0
def LX.tr (e:LX):CommRing.Expr × Nat:=LX.rec (λi=>(.var i,1)) (λk=>(.num k,1))
 (λ_ _ a b=>(.add (.mul a.1 (.num b.2)) (.mul b.1 (.num a.2)),a.2*b.2)) (λ_ _ a b=>(.sub (.mul a.1 (.num b.2)) (.mul b.1 (.num a.2)),a.2*b.2))
 (λ_ _ a b=>(.mul a.1 b.1,a.2*b.2)) (λ_ _ a b=>(.mul a.1 (.num (b.2*b.2:Nat)),a.2*(cst b.1.toPoly*b.2))) (λ_ k a=>(.pow a.1 k,a.2 ^ k)) (λ_ a=>(.neg a.1,a.2)) (λ_ a=>a) e
theorem FL (k:Int):denoteInt k=(k:Rat):=denoteInt_eq k
theorem OG (v:Cx):∀{p:Poly},0<cst p->p.denote v=((cst p:Nat):Rat)
 | .num k,h=>by
  have h1:((k.toNat:Nat):Int)=k:=bt (by have:0<k.toNat:=h;omega);show Poly.denote v (.num k)=((k.toNat:Nat):Rat);rw[<- fk,h1];rfl
 | .add _ _ _,h=>absurd h (ii 0)
theorem u6{a b:Nat}(h:0<a*b):0<a:=Nat.pos_of_ne_zero λe=>by rw[e,Ao] at h;exact ii 0 h
theorem rI{a b:Nat}(h:0<a*b):0<b:=u6 (iy a b ▸ h)
theorem IA (a b:Rat):∀k:Nat,(a*b) ^ k=a ^ k*b ^ k
 | 0=>by rw[qk,qk,qk,Ge]
 | k+1=>by rw[sk,sk,sk,IA a b k];grind
theorem wP (a:Nat):∀k:Nat,((a ^ k:Nat):Rat)=(a:Rat) ^ k
 | 0=>by rw[qk];rfl
 | k+1=>by rw[sk,Aq,ln,wP a k]
theorem LX.tr_den (v:Cx):∀e:LX,0<e.tr.2->e.den v*((e.tr.2:Nat):Rat)=e.tr.1.denote v
 | .V i,_=>by show v.get i*((1:Nat):Rat)=v.get i;grind
 | .N k,_=>by
  show(ma k:Rat)*((1:Nat):Rat)=denoteInt (k:Int);rw[FL,fk,<- mv];exact Ge _
 | .A a b,h=>by
  have h1:=a.tr_den v (u6 h);have h2:=b.tr_den v (rI h);show(a.den v+b.den v)*((a.tr.2*b.tr.2:Nat):Rat)=a.tr.1.denote v*denoteInt (b.tr.2:Int)+b.tr.1.denote v*denoteInt (a.tr.2:Int);rw[FL,FL,fk,fk,ln];grind
 | .S a b,h=>by
  have h1:=a.tr_den v (u6 h);have h2:=b.tr_den v (rI h);show(a.den v-b.den v)*((a.tr.2*b.tr.2:Nat):Rat)=a.tr.1.denote v*denoteInt (b.tr.2:Int)-b.tr.1.denote v*denoteInt (a.tr.2:Int);rw[FL,FL,fk,fk,ln];grind
 | .M a b,h=>by
  have h1:=a.tr_den v (u6 h);have h2:=b.tr_den v (rI h);show(a.den v*b.den v)*((a.tr.2*b.tr.2:Nat):Rat)=a.tr.1.denote v*b.tr.1.denote v;rw[ln];grind
 | .D a b,h=>by
  have h1:=a.tr_den v (u6 h);have hp:0<b.tr.2:=rI (rI h);have Pp:0<cst b.tr.1.toPoly:=u6 (rI h);have hc:=OG v Pp;rw[CommRing.Expr.denote_toPoly,<- b.tr_den v hp] at hc;show(a.den v/b.den v)*((a.tr.2*(cst b.tr.1.toPoly*b.tr.2):Nat):Rat)=a.tr.1.denote v*denoteInt ((b.tr.2*b.tr.2:Nat):Int);rw[FL,fk,ln,ln,ln,<- hc,<- h1];have:b.den v≠0:=λe=>by
   rw[e,ej] at hc;exact absurd (wj.mp hc.symm) (zn.mp Pp)
  grind
 | .P a k,h=>by
  have hp:k=0\/0<a.tr.2:=by
   cases k with
   | zero=>exact .inl rfl
   | succ k=>exact .inr (rI (show 0<a.tr.2 ^ k*a.tr.2 from h))
  show a.den v ^ k*((a.tr.2 ^ k:Nat):Rat)=a.tr.1.denote v ^ k;rw[wP,<- IA];rcases hp with e | hp
  ·rw[e,qk];exact(Cw _).symm
  ·rw[a.tr_den v hp]
 | .G a,h=>by
  have h1:=a.tr_den v h;show -a.den v*((a.tr.2:Nat):Rat)=-a.tr.1.denote v;grind
 | .C a,h=>a.tr_den v h
theorem OH{a b:Rat}(h:0<=a) (k:0<b):0<a+b:=by grind
theorem WX{a b:Rat}(h:0<a) (k:0<=b):0<a+b:=by grind
theorem R4{a b:Rat}(h:a=b):a<=b:=h ▸ eh
noncomputable def S1:Mon->Bool
 | .unit=>true
 | .mult p m=>so 32 p.x&&S1 m
def okP (s:Bool):Poly->Bool
 | .num k=>if s then decide (0<k) else decide (0<=k)
 | .add c m r=>decide (0<=c)&&(S1 m&&okP s r)
def ok (T:LX) (s:Bool):Bool:=decide (0<T.tr.2)&&okP s T.tr.1.toPoly
def Nn (v:Cx):Prop:=∀i,so 32 i=true->0<=v.get i
theorem aV{a b:Bool}(h:(a&&b)=true):a=true/\b=true:=Bool.and_eq_true_iff.mp h
theorem nT{v:Cx}(hv:Nn v):∀{m:Mon},S1 m=true->0<=m.denote v
 | .unit,_=>ar (mo.mpr tz)
 | .mult ⟨x,0⟩ m,h=>em (ar (mo.mpr tz)) (nT hv (aV h).2)
 | .mult ⟨x,1⟩ m,h=>em (hv x (aV h).1) (nT hv (aV h).2)
 | .mult ⟨x,k+2⟩ m,h=>em (Rat.pow_nonneg (hv x (aV h).1)) (nT hv (aV h).2)
theorem DQ{v:Cx}(hv:Nn v){s:Bool}:∀{p:Poly},okP s p=true->0<=p.denote v/\(s=true->0<p.denote v)
 | .num k,h=>by
  cases s
  ·have h1:0<=k:=_root_.of_decide_eq_true h;exact⟨tb.mpr h1,λq=>nomatch q⟩
  ·have h1:0<k:=_root_.of_decide_eq_true h;exact⟨tb.mpr (dd h1),λ_=>Rat.intCast_pos.mpr h1⟩
 | .add c m r,h=>by
  have h1:0<=c:=_root_.of_decide_eq_true (aV h).1;have h2:=nT hv (aV (aV h).2).1;have h3:=DQ hv (aV (aV h).2).2;have h4:0<=c • m.denote v:=by
   rw[Ring.zsmul_eq_intCast_mul];exact em (tb.mpr h1) h2
  show 0<=c • m.denote v+r.denote v/\(s=true->0<c • m.denote v+r.denote v);exact⟨tc h4 h3.1,λq=>OH h4 (h3.2 q)⟩
theorem DS{a b:Rat}(hb:0<b) (h:0<=a*b):0<=a:=mf.mp λe=>by
 have:=ie e hb;rw[ej] at this;exact absurd h (gw.mpr this)
theorem yC{a b:Rat}(hb:0<b) (h:0<a*b):0<a:=gw.mp λe=>by
 have:=fz e (ar hb);rw[ej] at this;exact absurd h (mf.mpr this)
theorem IB{v:Cx}(hv:Nn v){T:LX}{s:Bool}(h:ok T s=true):0<=T.den v/\(s=true->0<T.den v):=by
 have h0:=aV h;have hp:=_root_.of_decide_eq_true h0.1;have hq:(0:Rat)<((T.tr.2:Nat):Rat):=mo.mpr hp;have hd:=T.tr_den v hp;rw[<- CommRing.Expr.denote_toPoly] at hd;have h1:=DQ hv h0.2;rw[<- hd] at h1;exact⟨DS hq h1.1,λq=>yC hq (h1.2 q)⟩
noncomputable def sum:List LH->LX
 | []=>.N 0
 | .L c a b::r | .T c a b::r | .U c a b::r=>.A (.M (.N c) (.S b a)) (sum r)
 | _::r=>sum r
noncomputable def IC:List LH->Bool
 | []=>false
 | .T c _ _::r=>decide (0<c)||IC r
 | _::r=>IC r
def Dn (v:Cx) (g:Prop):List LH->Prop
 | []=>g
 | .L _ a b::r=>a.den v<=b.den v->Dn v g r
 | .T _ a b::r=>a.den v<b.den v->Dn v g r
 | .U _ a b::r=>a.den v=b.den v->Dn v g r
 | _::r=>Dn v g r
theorem wt (c:Nat){a b:Rat}(h:a<=b):0<=(ma c:Rat)*(b-a):=by
 rw[<- mv];exact em Ad (by grind)
theorem wt' {c:Nat}(hc:0<c){a b:Rat}(h:a<b):0<(ma c:Rat)*(b-a):=by
 rw[<- mv];exact Rat.mul_pos (mo.mpr hc) (by grind)
theorem pS (v:Cx){g:Prop}:∀{hs:List LH},((0<=(sum hs).den v/\(IC hs=true->0<(sum hs).den v))->g)->Dn v g hs
 | [],h=>h ⟨eh,λq=>nomatch q⟩
 | .L c a b::r,h=>λh1=>pS v fun⟨q1,q2⟩=>h ⟨tc (wt c h1) q1,λq=>OH (wt c h1) (q2 q)⟩
 | .T c a b::r,h=>λh1=>pS v fun⟨q1,q2⟩=>h ⟨tc (wt c (ar h1)) q1,λq=>by
   rcases ph.mp q with q | q
   ·exact WX (wt' (_root_.of_decide_eq_true q) h1) q1
   ·exact OH (wt c (ar h1)) (q2 q)⟩
 | .U c a b::r,h=>λh1=>pS v fun⟨q1,q2⟩=>h ⟨tc (wt c (R4 h1)) q1,λq=>OH (wt c (R4 h1)) (q2 q)⟩
 | .X _ _ _::r,h=>pS (hs:=r) v h
 | .Y _ _ _::r,h=>pS (hs:=r) v h
 | .Z _ _ _::r,h=>pS (hs:=r) v h
noncomputable def S2:List LH->Bool
 | []=>true
 | .U _ _ _::r=>S2 r
 | _=>false
noncomputable def is0:Poly->Bool
 | .num k=>k==0
 | _=>false
def okE (T:LX):Bool:=decide (0<T.tr.2)&&is0 T.tr.1.toPoly
theorem OI{v:Cx}{T:LX}(h:okE T=true):T.den v=0:=by
 have hp:=_root_.of_decide_eq_true (aV h).1;have hd:=T.tr_den v hp;have h2:=(aV h).2;rw[<- CommRing.Expr.denote_toPoly] at hd;revert hd h2;cases T.tr.1.toPoly with
 | add _ _ _=>exact λ_ h=>nomatch h
 | num k =>
  intro hd h2;rw[eq_of_beq h2] at hd;exact(Cy.mp (hd.trans rfl)).resolve_right λe=>absurd (wj.mp (e.trans rfl:((T.tr.2:Nat):Rat)=((0:Nat):Rat))) (zn.mp hp)
theorem du (v:Cx){g:Prop}:∀{hs:List LH},S2 hs=true->((sum hs).den v=0->g)->Dn v g hs
 | [],_,h=>h rfl
 | .U c a b::r,q,h=>λh1=>du v (hs:=r) q λq1=>h (by
   show(ma c:Rat)*(b.den v-a.den v)+(sum r).den v=0;rw[q1,h1];grind)
def chk:LH->List LH->Bool
 | .U c a b,hs=>decide (0<c)&&(S2 hs&&okE (.S (.M (.N c) (.S b a)) (sum hs)))
 | .L c a b,hs=>decide (0<c)&&ok (.S (.M (.N c) (.S b a)) (sum hs)) false
 | .T c a b,hs=>decide (0<c)&&ok (.S (.M (.N c) (.S b a)) (sum hs)) (!IC hs)
 | _,_=>false
def LH.go (v:Cx):LH->Prop
 | .L _ a b=>a.den v<=b.den v
 | .T _ a b=>a.den v<b.den v
 | .U _ a b=>a.den v=b.den v
 | _=>True
theorem out{c:Nat}(hc:0<c){a b s:Rat}(h:0<=(ma c:Rat)*(b-a)-s) (hs:0<=s):a<=b:=by
 have hc:(0:Rat)<((c:Nat):Rat):=mo.mpr hc;rw[<- mv] at h;have:0<=(b-a)*(c:Rat):=by rw[Fc];change 0<=(c:Rat)*_-s at h;grind
 have:=DS hc this;grind
theorem WY{c:Nat}(hc:0<c){a b s:Rat}(h:0<=(ma c:Rat)*(b-a)-s) (hs:0<=s) (h2:0<s\/0<(ma c:Rat)*(b-a)-s):a<b:=by
 have hc:(0:Rat)<((c:Nat):Rat):=mo.mpr hc;rw[<- mv] at h h2;have:0<(b-a)*(c:Rat):=by rw[Fc];change 0<=(c:Rat)*_-s at h;change _\/0<(c:Rat)*_-s at h2;grind
 have:=yC hc this;grind
theorem WZ{c:Nat}(hc:0<c){a b s:Rat}(h:(ma c:Rat)*(b-a)-s=0) (hs:s=0):a=b:=by
 have hc:(0:Rat)<((c:Nat):Rat):=mo.mpr hc;rw[<- mv,hs] at h;change (c:Rat)*(b-a)-0=0 at h;have h2:(c:Rat)*(b-a)=0:=by grind
 have:=(Cy.mp h2).resolve_left (oq hc);grind
theorem main (v:Cx) (hv:Nn v) (g:LH) (hs:List LH) (h:chk g hs=true):Dn v (g.go v) hs:=by
 cases g with
 | L c a b=>exact pS v fun⟨q1,q2⟩=>out (_root_.of_decide_eq_true (aV h).1) (IB hv (aV h).2).1 q1
 | T c a b =>
  refine pS v fun⟨q1,q2⟩=>?_;have h1:=aV h;have h2:=IB hv h1.2;refine WY (_root_.of_decide_eq_true h1.1) h2.1 q1 ?_;cases e:IC hs
  ·exact .inr (h2.2 (by rw[e];rfl))
  ·exact .inl (q2 e)
 | U c a b =>
  have h1:=aV h;have h2:=aV h1.2;exact du v h2.1 λq=>WZ (_root_.of_decide_eq_true h1.1) (OI h2.2) q
 | _=>exact nomatch h
/- whole and natural numbers -/
noncomputable def mp{α:Type}(f:α->Rat):ds α->Cx
 | .leaf a=>.leaf (f a)
 | .branch k a b=>.branch k (mp f a) (mp f b)
theorem rJ{α:Type}(f:α->Rat) (i:Nat):∀v:ds α,(mp f v).get i=f (v.get i)
 | .leaf a=>rfl
 | .branch k a b=>by
  show td ((mp f a).get i) ((mp f b).get i) (k.ble i)=f (td (a.get i) (b.get i) (k.ble i));cases k.ble i
  ·exact rJ f i a
  ·exact rJ f i b
noncomputable def LX.denN (w:ds Nat) (e:LX):Nat:=LX.rec (λi=>w.get i) (λk=>ma k) (λ_ _ a b=>a+b) (λ_ _ a b=>a-b) (λ_ _ a b=>a*b) (λ_ _ a b=>a/b) (λ_ k a=>a ^ k) (λ_ a=>a) (λ_ a=>a) e
def LX.denZ (v:ds Int) (w:ds Nat) (e:LX):Int:=LX.rec (λi=>td (v.get i) ((w.get i:Nat):Int) (so 32 i)) (λk=>ma k) (λ_ _ a b=>a+b) (λ_ _ a b=>a-b) (λ_ _ a b=>a*b) (λ_ _ a b=>a/b) (λ_ k a=>a ^ k) (λ_ a=>-a) (λa _=>((a.denN w:Nat):Int)) e
noncomputable def LX.isN:LX->Bool
 | .V i=>so 32 i
 | .N _=>true
 | .A a b | .M a b=>a.isN&&b.isN
 | .P a _=>a.isN
 | _=>false
def LX.isZ:LX->Bool
 | .V _ | .N _=>true
 | .A a b | .S a b | .M a b=>a.isZ&&b.isZ
 | .P a _ | .G a=>a.isZ
 | .C a=>a.isN
 | _=>false
noncomputable def cz (z:Int):Rat:=z
noncomputable def cn (n:Nat):Rat:=n
def mc (v:ds Int) (w:ds Nat):Cx:=.branch 32 (mp cz v) (mp cn w)
theorem U9 (v:ds Int) (w:ds Nat){i:Nat}(h:so 32 i=true):(mc v w).get i=((w.get i:Nat):Rat):=by
 show(td ((mp cz v).get i) ((mp cn w).get i) (so 32 i):Rat)=_;rw[h];exact rJ cn i w
theorem VA (v:ds Int) (w:ds Nat):Nn (mc v w):=λi h=>by
 rw[U9 v w h];exact Ad
theorem c2{x x' y y':Rat}(f:Rat->Rat->Rat) (h:x=x') (k:y=y'):f x y=f x' y':=h ▸ k ▸ rfl
theorem VB (a:Int):∀k:Nat,((a ^ k:Int):Rat)=(a:Rat) ^ k
 | 0=>by rw[qk,Fd];rfl
 | k+1=>by rw[sk,Int.pow_succ,Cz,VB a k]
section
variable (v:ds Int) (w:ds Nat)
theorem fW:∀e:LX,e.isN=true->((e.denN w:Nat):Rat)=e.den (mc v w)
 | .V i,h=>(U9 v w h).symm
 | .N k,_=>rfl
 | .A a b,h=>(DL _ _).trans (c2 (·+·) (fW a (aV h).1) (fW b (aV h).2))
 | .M a b,h=>(ln _ _).trans (c2 (·*·) (fW a (aV h).1) (fW b (aV h).2))
 | .P a k,h=>(wP _ k).trans (congrArg (· ^ k) (fW a h))
theorem e9:∀e:LX,e.isZ=true->((e.denZ v w:Int):Rat)=e.den (mc v w)
 | .V i,_=>by
  show((td (v.get i) ((w.get i:Nat):Int) (so 32 i):Int):Rat)=(td ((mp cz v).get i) ((mp cn w).get i) (so 32 i):Rat);cases so 32 i
  ·exact(rJ cz i v).symm
  ·exact(fk _).trans (rJ cn i w).symm
 | .N k,_=>rfl
 | .A a b,h=>(Da _ _).trans (c2 (·+·) (e9 a (aV h).1) (e9 b (aV h).2))
 | .S a b,h=>(wk _ _).trans (c2 (· - ·) (e9 a (aV h).1) (e9 b (aV h).2))
 | .M a b,h=>(Cz _ _).trans (c2 (·*·) (e9 a (aV h).1) (e9 b (aV h).2))
 | .P a k,h=>(VB _ k).trans (congrArg (· ^ k) (e9 a h))
 | .G a,h=>(wl _).trans (congrArg (- ·) (e9 a h))
 | .C a,h=>(fk _).trans (fW v w a h)
end
noncomputable def LH.z:LH->LH
 | .T c a b | .Y c a b=>.L c (.A a (.N 1)) b
 | .X c a b=>.L c a b
 | .Z c a b=>.U c a b
 | h=>h
noncomputable def LH.zg:LH->LH
 | .L c a b | .X c a b=>.T c a (.A b (.N 1))
 | .Y c a b=>.T c a b
 | .Z c a b=>.U c a b
 | h=>h
def LH.all:LH->Bool
 | .L _ a b | .T _ a b | .U _ a b=>a.isZ&&b.isZ
 | .X _ a b | .Y _ a b | .Z _ a b=>a.isN&&b.isN
def oZ (g:LH) (hs:List LH):Bool:=g.all&&(hs.all LH.all&&chk g.zg (hs.map LH.z))
def LH.gz (v:ds Int) (w:ds Nat):LH->Prop
 | .L _ a b=>a.denZ v w<=b.denZ v w
 | .T _ a b=>a.denZ v w<b.denZ v w
 | .U _ a b=>a.denZ v w=b.denZ v w
 | .X _ a b=>a.denN w<=b.denN w
 | .Y _ a b=>a.denN w<b.denN w
 | .Z _ a b=>a.denN w=b.denN w
def Dz (v:ds Int) (w:ds Nat) (g:Prop):List LH->Prop
 | []=>g
 | h::r=>h.gz v w->Dz v w g r
theorem sZ (a:Int):(a:Rat)+1=((a+1:Int):Rat):=by rw[Da];rfl
theorem sN (a:Nat):(a:Rat)+1=((a+1:Nat):Rat):=by rw[DL];rfl
section
variable{v:ds Int}{w:ds Nat}{a b:LX}
theorem lZ (h:(a.isZ&&b.isZ)=true) (k:a.denZ v w<=b.denZ v w):a.den (mc v w)<=b.den (mc v w):=by
 rw[<- e9 v w a (aV h).1,<- e9 v w b (aV h).2];exact al.mpr k
theorem tZ (h:(a.isZ&&b.isZ)=true) (k:a.denZ v w<b.denZ v w):a.den (mc v w)+1<=b.den (mc v w):=by
 rw[<- e9 v w a (aV h).1,<- e9 v w b (aV h).2,sZ];exact al.mpr k
theorem eZ (h:(a.isZ&&b.isZ)=true) (k:a.denZ v w=b.denZ v w):a.den (mc v w)=b.den (mc v w):=by
 rw[<- e9 v w a (aV h).1,<- e9 v w b (aV h).2,k]
theorem lN (h:(a.isN&&b.isN)=true) (k:a.denN w<=b.denN w):a.den (mc v w)<=b.den (mc v w):=by
 rw[<- fW v w a (aV h).1,<- fW v w b (aV h).2];exact ql.mpr k
theorem tN (h:(a.isN&&b.isN)=true) (k:a.denN w<b.denN w):a.den (mc v w)+1<=b.den (mc v w):=by
 rw[<- fW v w a (aV h).1,<- fW v w b (aV h).2,sN];exact ql.mpr k
theorem eN (h:(a.isN&&b.isN)=true) (k:a.denN w=b.denN w):a.den (mc v w)=b.den (mc v w):=by
 rw[<- fW v w a (aV h).1,<- fW v w b (aV h).2,k]
theorem gLZ (h:(a.isZ&&b.isZ)=true) (k:a.den (mc v w)<b.den (mc v w)+1):a.denZ v w<=b.denZ v w:=by
 rw[<- e9 v w a (aV h).1,<- e9 v w b (aV h).2,sZ] at k;exact Int.le_of_lt_add_one (bg.mp k)
theorem gTZ (h:(a.isZ&&b.isZ)=true) (k:a.den (mc v w)<b.den (mc v w)):a.denZ v w<b.denZ v w:=by
 rw[<- e9 v w a (aV h).1,<- e9 v w b (aV h).2] at k;exact bg.mp k
theorem gLN (h:(a.isN&&b.isN)=true) (k:a.den (mc v w)<b.den (mc v w)+1):a.denN w<=b.denN w:=by
 rw[<- fW v w a (aV h).1,<- fW v w b (aV h).2,sN] at k;exact Nat.le_of_lt_succ (wc.mp k)
theorem geZ (h:(a.isZ&&b.isZ)=true) (k:a.den (mc v w)=b.den (mc v w)):a.denZ v w=b.denZ v w:=by
 rw[<- e9 v w a (aV h).1,<- e9 v w b (aV h).2] at k;exact Db.mp k
theorem geN (h:(a.isN&&b.isN)=true) (k:a.den (mc v w)=b.den (mc v w)):a.denN w=b.denN w:=by
 rw[<- fW v w a (aV h).1,<- fW v w b (aV h).2] at k;exact wj.mp k
theorem gTN (h:(a.isN&&b.isN)=true) (k:a.den (mc v w)<b.den (mc v w)):a.denN w<b.denN w:=by
 rw[<- fW v w a (aV h).1,<- fW v w b (aV h).2] at k;exact wc.mp k
end
theorem dz{v:ds Int}{w:ds Nat}{g g':Prop}(hg:g'->g):∀{hs:List LH},hs.all LH.all=true->Dn (mc v w) g' (hs.map LH.z)->Dz v w g hs
 | [],_,h=>hg h
 | .L c a b::r,q,h=>λk=>dz hg (aV q).2 (h (lZ (aV q).1 k))
 | .T c a b::r,q,h=>λk=>dz hg (aV q).2 (h (tZ (aV q).1 k))
 | .U c a b::r,q,h=>λk=>dz hg (aV q).2 (h (eZ (aV q).1 k))
 | .X c a b::r,q,h=>λk=>dz hg (aV q).2 (h (lN (aV q).1 k))
 | .Y c a b::r,q,h=>λk=>dz hg (aV q).2 (h (tN (aV q).1 k))
 | .Z c a b::r,q,h=>λk=>dz hg (aV q).2 (h (eN (aV q).1 k))
noncomputable def rl{α:Type}(z:α):List α->Nat->ds α
 | [],_=>.leaf z
 | [a],_=>.leaf a
 | a::r,k=>.branch (k+1) (.leaf a) (rl z r (k+1))
noncomputable def LX.a:LX:=.V 0
noncomputable def LX.b:LX:=.V 1
noncomputable def LX.c:LX:=.V 2
noncomputable def LX.d:LX:=.V 3
noncomputable def LX.e:LX:=.V 4
noncomputable def LX.f:LX:=.V 5
noncomputable def LX.g:LX:=.V 6
noncomputable def LX.h:LX:=.V 7
noncomputable def LX.i:LX:=.V 8
noncomputable def LX.j:LX:=.V 9
noncomputable def LX.k:LX:=.V 10
noncomputable def LX.o:LX:=.V 11
noncomputable def LX.p:LX:=.V 12
noncomputable def LX.q:LX:=.V 32
noncomputable def LX.r:LX:=.V 33
noncomputable def LX.s:LX:=.V 34
noncomputable def LX.t:LX:=.V 35
noncomputable def LX.u:LX:=.V 36
noncomputable def LX.v:LX:=.V 37
noncomputable def LX.w:LX:=.V 38
noncomputable def LX.x:LX:=.V 39
noncomputable def LX.y:LX:=.V 40
noncomputable def LX.z:LX:=.V 41
noncomputable def LX.n0:LX:=.N 0
noncomputable def LX.n1:LX:=.N 1
noncomputable def LX.n2:LX:=.N 2
noncomputable def LX.n3:LX:=.N 3
noncomputable def LX.n4:LX:=.N 4
noncomputable def LX.n5:LX:=.N 5
noncomputable def LX.n6:LX:=.N 6
noncomputable def LX.n7:LX:=.N 7
noncomputable def LX.n8:LX:=.N 8
noncomputable def LX.E (k:Nat):LX:=.D (.N k) (.P (.N 2) 54)
noncomputable def LH.l (a b:LX):LH:=.L 1 a b
noncomputable def LH.t (a b:LX):LH:=.T 1 a b
noncomputable def LH.e (a b:LX):LH:=.U 1 a b
noncomputable def LH.x (a b:LX):LH:=.X 1 a b
noncomputable def LH.y (a b:LX):LH:=.Y 1 a b
noncomputable def LH.z1 (a b:LX):LH:=.Z 1 a b
noncomputable def LX.ka:LX:=.S .a .b
noncomputable def LX.kb:LX:=.A .a .b
noncomputable def LX.kc:LX:=.A .q .n1
noncomputable def LX.kd:LX:=.M .a .b
noncomputable def LX.ke:LX:=.A .r .n1
noncomputable def LX.kf:LX:=.D .n1 .n2
noncomputable def LX.kg:LX:=.M .n6 .a
noncomputable def LX.kh:LX:=.A .n1 (.D .n1 (.P .n2 52))
noncomputable def LX.ki:LX:=.P .n2 53
noncomputable def LX.kj:LX:=.N 1000
noncomputable def LX.kk:LX:=.A .a .n1
noncomputable def LX.kl:LX:=.E 1
noncomputable def LX.km:LX:=.D .n1 (.P .n2 17)
noncomputable def LX.kn:LX:=.G .n1
noncomputable def LX.ko:LX:=.A .q .r
noncomputable def LX.kp:LX:=.P .n2 50
noncomputable def LX.kq:LX:=.M .b .c
noncomputable def LX.kr:LX:=.S .a .n2
noncomputable def LX.ks:LX:=.A (.N 97) .q
noncomputable def LX.kt:LX:=.D .n1 (.P .n2 48)
noncomputable def LX.ku:LX:=.N 6004799503160661
noncomputable def LX.kv:LX:=.N 100000
noncomputable def LX.kw:LX:=.P .n2 40
noncomputable def LX.kx:LX:=.S .b .c
noncomputable def LX.ky:LX:=.P .n2 63
noncomputable def LX.kz:LX:=.D .n1 (.P .n2 49)
noncomputable def LX.kA:LX:=.M .n6 .b
noncomputable def LX.kB:LX:=.D .n1 .n8
noncomputable def LX.kC:LX:=.P .n2 54
noncomputable def LX.kD:LX:=.M .c .d
noncomputable def LX.kE:LX:=.E 4
noncomputable def LX.kF:LX:=.D .kb .n2
noncomputable def LX.kG:LX:=.E 32
noncomputable def LX.kH:LX:=.A .b .c
noncomputable def LX.kI:LX:=.D .n5 (.P .n2 52)
noncomputable def LX.kJ:LX:=.M .n6 .n0
noncomputable def LX.kK:LX:=.D .n3 .n2
noncomputable def LX.kL:LX:=.A .s .n1
noncomputable def LX.kM:LX:=.N 18014398509481984
noncomputable def LX.kN:LX:=.D .b .n2
noncomputable def LX.kO:LX:=.A .q .ke
noncomputable def LX.kP:LX:=.E 6004799503160661
noncomputable def LX.kQ:LX:=.A .a .n2
noncomputable def LX.kR:LX:=.S (.S (.M .n2 .q) .a) .b
noncomputable def LX.kS:LX:=.N 1000000
noncomputable def LX.kT:LX:=.E 2
noncomputable def LX.kU:LX:=.S (.D .n2 .n3) .b
noncomputable def LX.kV:LX:=.G .n2
noncomputable def LX.kW:LX:=.M .a .c
noncomputable def LX.kX:LX:=.M .n6 .c
noncomputable def LX.kY:LX:=.P .n2 17
noncomputable def LX.kZ:LX:=.E 1024
noncomputable def LX.k0:LX:=.G .a
noncomputable def LX.k1:LX:=.S .a .n3
noncomputable def LX.k2:LX:=.D .n1 (.P .n2 41)
noncomputable def LX.k3:LX:=.D .n1 (.P .n2 12)
noncomputable def LX.k4:LX:=.D .n1 (.P .n2 21)
noncomputable def LX.k5:LX:=.A .r .s
noncomputable def LX.k6:LX:=.M .c .b
noncomputable def LX.k7:LX:=.A .b .n1
noncomputable def LX.k8:LX:=.S .n6 .a
noncomputable def LX.k9:LX:=.A .q .n2
noncomputable def LX.ja:LX:=.N 9007199254740992
noncomputable def LX.jb:LX:=.M .q .r
noncomputable def LX.jc:LX:=.S .c .d
noncomputable def LX.jd:LX:=.S .n4 .a
noncomputable def LX.je:LX:=.E 16
noncomputable def LX.jf:LX:=.D .n1 .kw
noncomputable def LX.jg:LX:=.A .kc .r
noncomputable def LX.jh:LX:=.A .b .kl
noncomputable def LX.ji:LX:=.S .n2 .a
noncomputable def LX.jj:LX:=.S .n1 .a
noncomputable def LX.jk:LX:=.N 9000
noncomputable def LX.jl:LX:=.A .n1 .kl
noncomputable def LX.jm:LX:=.P .n2 62
noncomputable def LX.jn:LX:=.A .n2 .a
noncomputable def LX.jo:LX:=.D .n1 (.P .n2 42)
noncomputable def LX.jp:LX:=.M .d .b
noncomputable def LX.jq:LX:=.N 1074
noncomputable def LX.jr:LX:=.M .n6 .kn
noncomputable def LX.js:LX:=.M .n6 .n1
noncomputable def LX.jt:LX:=.N 100
noncomputable def LX.ju:LX:=.M .n6 .d
noncomputable def LX.jv:LX:=.A .c .d
noncomputable def LX.jw:LX:=.S .n1 .n1
noncomputable def LX.jx:LX:=.M .n2 .q
noncomputable def LX.jy:LX:=.M .ka .c
noncomputable def LX.jz:LX:=.S .c .kl
noncomputable def LX.jA:LX:=.S .a .n4
noncomputable def LX.jB:LX:=.A .a .kN
noncomputable def LX.jC:LX:=.M .n6 .ka
noncomputable def LX.jD:LX:=.E 64
noncomputable def LX.jE:LX:=.A .n4 .a
noncomputable def LX.jF:LX:=.A .t .u
noncomputable def LX.jG:LX:=.M .b .d
noncomputable def LX.jH:LX:=.M .d .c
noncomputable def LX.jI:LX:=.S .e .d
noncomputable def LX.jJ:LX:=.S (.S (.S (.S .q .n1) .kn) .kn) .n1
noncomputable def LX.jK:LX:=.G (.N 1125899906842624)
noncomputable def LX.jL:LX:=.D .ku (.P .n2 55)
noncomputable def LX.jM:LX:=.N 5000
noncomputable def LX.jN:LX:=.M .kd .c
noncomputable def LX.jO:LX:=.M .n2 .a
noncomputable def LX.jP:LX:=.M .n2 .r
noncomputable def LX.jQ:LX:=.N 9223372036854775808
noncomputable def LX.jR:LX:=.M .e .d
noncomputable def LX.jS:LX:=.A .kx .kl
noncomputable def LX.jT:LX:=.M .n2 .n2
noncomputable def LX.jU:LX:=.D .ka .n2
noncomputable def LX.jV:LX:=.S .n1 .kF
noncomputable def LX.jW:LX:=.N 900
noncomputable def LX.jX:LX:=.G .n4
noncomputable def LX.jY:LX:=.S .jf (.E 4096)
noncomputable def LX.jZ:LX:=.E 1073741824
noncomputable def LX.j0:LX:=.A .r .n2
noncomputable def LX.j1:LX:=.S .a .c
noncomputable def LX.j2:LX:=.S (.G .k1) .n1
noncomputable def LX.j3:LX:=.S .n2 (.G .kr)
noncomputable def LX.j4:LX:=.S .n1 .d
noncomputable def LX.j5:LX:=.S .n1 .b
noncomputable def LX.j6:LX:=.S .a .kN
noncomputable def LX.j7:LX:=.M .n6 .h
noncomputable def LX.j8:LX:=.M .n6 .i
noncomputable def LX.j9:LX:=.N 114688
end LA
open LA
theorem ear (v:List Rat) (g:LH) (hs:List LH) (h:chk g hs=true):Dn (.branch 32 (rl 0 v 0) (.leaf 0)) (g.go (.branch 32 (rl 0 v 0) (.leaf 0))) hs:=main _ (λi h=>by
 show 0<=(td ((rl 0 v 0).get i) 0 (so 32 i):Rat);rw[h];exact eh) g hs h
theorem eam (v:List Int) (w:List Nat) (g:LH) (hs:List LH) (h:oZ g hs=true):Dz (rl 0 v 0) (rl 0 w 32) (g.gz (rl 0 v 0) (rl 0 w 32)) hs:=by
 refine dz ?_ (aV (aV h).2).1 (main _ (VA _ _) g.zg (hs.map LH.z) (aV (aV h).2).2);cases g with
 | L c a b=>exact gLZ (aV h).1
 | T c a b=>exact gTZ (aV h).1
 | X c a b=>exact gLN (aV h).1
 | Y c a b=>exact gTN (aV h).1
 | U c a b=>exact geZ (aV h).1
 | Z c a b=>exact geN (aV h).1
def Iff1 (P:Prop) (b:Bool):Prop:=@td (λ_=>Prop) True P b
theorem if1{P:Prop}:∀{b:Bool},(b=true->P)->Iff1 P b
 | true,h=>h rfl
 | false,_=>trivial
theorem far (v:List Rat) (g:LH) (hs:List LH):Iff1 (Dn (.branch 32 (rl 0 v 0) (.leaf 0)) (g.go (.branch 32 (rl 0 v 0) (.leaf 0))) hs) (chk g hs):=if1 (ear v g hs)
theorem fam (v:List Int) (w:List Nat) (g:LH) (hs:List LH):Iff1 (Dz (rl 0 v 0) (rl 0 w 32) (g.gz (rl 0 v 0) (rl 0 w 32)) hs) (oZ g hs):=if1 (eam v w g hs)
theorem faz (v:List Int) (g:LH) (hs:List LH):Iff1 (Dz (rl 0 v 0) (.leaf 0) (g.gz (rl 0 v 0) (.leaf 0)) hs) (oZ g hs):=fam v [] g hs
theorem fan (w:List Nat) (g:LH) (hs:List LH):Iff1 (Dz (.leaf 0) (rl 0 w 32) (g.gz (.leaf 0) (rl 0 w 32)) hs) (oZ g hs):=fam [] w g hs
def fr0 (g:LH) (hs:List LH):=far [] g hs
def fr1{a:Rat}(g:LH) (hs:List LH):=far [a] g hs
def fr2{a b:Rat}(g:LH) (hs:List LH):=far [a,b] g hs
def fr3{a b c:Rat}(g:LH) (hs:List LH):=far [a,b,c] g hs
def fr4{a b c d:Rat}(g:LH) (hs:List LH):=far [a,b,c,d] g hs
def fr5{a b c d e:Rat}(g:LH) (hs:List LH):=far [a,b,c,d,e] g hs
def fr6{a b c d e f:Rat}(g:LH) (hs:List LH):=far [a,b,c,d,e,f] g hs
def fz0 (g:LH) (hs:List LH):=faz [] g hs
def fz1{a:Int}(g:LH) (hs:List LH):=faz [a] g hs
def fz2{a b:Int}(g:LH) (hs:List LH):=faz [a,b] g hs
def fz3{a b c:Int}(g:LH) (hs:List LH):=faz [a,b,c] g hs
def fz4{a b c d:Int}(g:LH) (hs:List LH):=faz [a,b,c,d] g hs
def fz5{a b c d e:Int}(g:LH) (hs:List LH):=faz [a,b,c,d,e] g hs
def fz6{a b c d e f:Int}(g:LH) (hs:List LH):=faz [a,b,c,d,e,f] g hs
def fn0 (g:LH) (hs:List LH):=fan [] g hs
def fn1{a:Nat}(g:LH) (hs:List LH):=fan [a] g hs
def fn2{a b:Nat}(g:LH) (hs:List LH):=fan [a,b] g hs
def fn3{a b c:Nat}(g:LH) (hs:List LH):=fan [a,b,c] g hs
def fn4{a b c d:Nat}(g:LH) (hs:List LH):=fan [a,b,c,d] g hs
def fn5{a b c d e:Nat}(g:LH) (hs:List LH):=fan [a,b,c,d,e] g hs
def fn6{a b c d e f:Nat}(g:LH) (hs:List LH):=fan [a,b,c,d,e,f] g hs
theorem eaz (v:List Int) (g:LH) (hs:List LH) (h:oZ g hs=true):Dz (rl 0 v 0) (.leaf 0) (g.gz (rl 0 v 0) (.leaf 0)) hs:=eam v [] g hs h
theorem ean (w:List Nat) (g:LH) (hs:List LH) (h:oZ g hs=true):Dz (.leaf 0) (rl 0 w 32) (g.gz (.leaf 0) (rl 0 w 32)) hs:=eam [] w g hs h
def en1{a:Nat}(g:LH) (hs:List LH) (h:oZ g hs=true):=ean [a] g hs h
def en2{a b:Nat}(g:LH) (hs:List LH) (h:oZ g hs=true):=ean [a,b] g hs h
def er0 (g:LH) (hs:List LH) (h:chk g hs=true):=ear [] g hs h
def er1{a:Rat}(g:LH) (hs:List LH) (h:chk g hs=true):=ear [a] g hs h
def er2{a b:Rat}(g:LH) (hs:List LH) (h:chk g hs=true):=ear [a,b] g hs h
def er3{a b c:Rat}(g:LH) (hs:List LH) (h:chk g hs=true):=ear [a,b,c] g hs h
def er4{a b c d:Rat}(g:LH) (hs:List LH) (h:chk g hs=true):=ear [a,b,c,d] g hs h
def er5{a b c d e:Rat}(g:LH) (hs:List LH) (h:chk g hs=true):=ear [a,b,c,d,e] g hs h
def er6{a b c d e f:Rat}(g:LH) (hs:List LH) (h:chk g hs=true):=ear [a,b,c,d,e,f] g hs h
def ez1{a:Int}(g:LH) (hs:List LH) (h:oZ g hs=true):=eaz [a] g hs h
def ez2{a b:Int}(g:LH) (hs:List LH) (h:oZ g hs=true):=eaz [a,b] g hs h
def ez3{a b c:Int}(g:LH) (hs:List LH) (h:oZ g hs=true):=eaz [a,b,c] g hs h
def ez4{a b c d:Int}(g:LH) (hs:List LH) (h:oZ g hs=true):=eaz [a,b,c,d] g hs h
def ez5{a b c d e:Int}(g:LH) (hs:List LH) (h:oZ g hs=true):=eaz [a,b,c,d,e] g hs h
noncomputable def ya{a:Nat}:=@fn1 a (.l .n0 .q) []
noncomputable def yb{a:Rat}:=@er1 a (.t .n0 .a) [.l .n1 .a] rfl
noncomputable def yc{a b:Int}:=@fz2 a b (.l .kb .kY) [.l .a .j9,.l .b (.N 7168)]
noncomputable def yd{a b:Int}:=@fz2 a b (.l .n0 .kb) [.l .n0 .a,.l .n0 .b]
noncomputable def ye{a b c d e:Rat}:=@er5 a b c d e (.l .kV .a) [.l .n0 .b,.l .c (.A .d .kG),.l (.S (.A .d .b) .je) .e,.l (.S (.S .e .c) .kT) .a] rfl
noncomputable def yf{a b c d e:Rat}:=@er5 a b c d e (.l (.G (.E 50)) .ka) [.l .c (.A .d .kG),.l (.S (.A .d .b) .je) .e,.l (.S (.S .e .c) .kT) .a] rfl
noncomputable def yg{a b c d e:Rat}:=@er5 a b c d e (.l .a .n2) [.l .n0 .b,.l .kH .n1,.l (.S .b .kG) .d,.l .e (.A .kH .je),.l .a (.A .jI .kT)] rfl
noncomputable def yh{a b c:Rat}:=@er3 a b c (.e (.S .kb (.A .b .jy)) (.A .b (.M .ka (.S .n1 .c)))) [] rfl
noncomputable def yi{a b c d e:Rat}:=@er5 a b c d e (.l .ka (.E 50)) [.l (.S .c .kG) .d,.l .e (.A (.A .c .b) .je),.l .a (.A .jI .kT)] rfl
noncomputable def yj{a b c d e f:Nat}:=@fn6 a b c d e f (.x .q (.M .r .s)) [.x .jF (.A .v .v),.x .q (.A .t (.M .r .s)),.Z 2 (.A .v .q) .q]
noncomputable def yk{a:Rat}:=@er1 a (.l .n1 .kk) [.l .n0 .a] rfl
noncomputable def yl{a b:Rat}:=@er2 a b (.l .a .n1) [.l .n0 (.S .b (.D .a .n2)),.l (.A .b (.D .a .n2)) .n1] rfl
noncomputable def ym{a:Int}:=@fz1 a (.l (.G .ky) .a) [.t (.G .kw) .a]
noncomputable def yn{a b c d e f:Nat}:=@fn6 a b c d e f (.x .jb .s) [.x .jF (.A .v .v),.x .jb (.A .u .s),.Z 2 (.A .v .s) .s]
noncomputable def yq{a b c d e:Nat}:=@fn5 a b c d e (.x .q .kj) [.X 8 .r .n7,.X 8 .s .r,.x .k9 (.M .n8 .t),.Z 8 .jF .s]
noncomputable def yr{a:Nat}:=@fn1 a (.y (.N 92) .ks) []
noncomputable def ys{a b:Rat}:=@er2 a b (.l (.G .kl) .ka) [.l (.S .b .kl) .a] rfl
noncomputable def yt{a b c d e:Nat}:=@fn5 a b c d e (.x .q .jt) [.x .r .n7,.z1 .q .s,.x .t .r,.z1 (.A .s .u) .t]
noncomputable def yu{a b:Int}:=@ez2 a b (.t .n0 .kb) [.L 2 .n0 .b,.t .b .a] rfl
noncomputable def yv{a b:Nat}:=@fn2 a b (.x (.A .q (.A .j0 .n1)) .kj) [.x .q (.N 300),.x .r (.N 300)]
noncomputable def yw{a b c:Nat}:=@fn3 a b c (.x .q (.A .r .kL)) [.x .q (.A .ke .s)]
noncomputable def yx{a b c:Rat}:=@er3 a b c (.l .a .kh) [.l .a .jS,.t .kx .n1] rfl
noncomputable def yy{a:Rat}:=@er1 a (.l .n0 .kr) [.l .n2 .a] rfl
noncomputable def yz{a:Rat}:=@er1 a (.l .kk .n2) [.l .a .n1] rfl
noncomputable def Ya{a b:Rat}:=@er2 a b (.l .n0 .ka) [.l .b .a] rfl
noncomputable def Yb{a b:Int}:=@ez2 a b (.l .n0 .ka) [.t .b .a] rfl
noncomputable def Yc{a b:Int}:=@ez2 a b (.t .n0 .ka) [.t .b .a] rfl
noncomputable def Yd{a b:Rat}:=@er2 a b (.l (.S .a (.E 128)) .b) [.l (.S .a (.M .n2 .jD)) .b] rfl
noncomputable def Ye{a b:Rat}:=@er2 a b (.l .a (.A .b (.E 128))) [.l .a (.A .b (.M .n2 .jD))] rfl
noncomputable def Yf{a:Nat}:=@fn1 a (.T 3 .n0 .q) [.x .n3 .q]
noncomputable def Yg{a b c:Rat}:=@er3 a b c (.l .a .b) [.t .c .n6,.l (.S (.S .a .jr) .b) .c] rfl
noncomputable def Yh{a b c:Rat}:=@er3 a b c (.l .a .b) [.t .c .n6,.l .a (.A (.S .c .js) .b)] rfl
noncomputable def Yi{a b:Rat}:=@er2 a b (.l .kV .kd) [.l (.G .kK) .kd] rfl
noncomputable def Yj{a b c:Rat}:=@er3 a b c (.l .kg (.A .n6 .jD)) [.T 6 .kx .n1,.L 6 .a .jS] rfl
noncomputable def Yk{a b:Nat}:=@fn2 a b (.x .q .kj) [.x .q .r,.x .r .n7]
noncomputable def Yl{a:Int}:=@fz1 a (.t .a .ky) [.t .a .kw]
noncomputable def Ym{a b:Nat}:=@fn2 a b (.l (.S .q .n1) .r) [.z1 .q .ke]
noncomputable def Yn{a b:Nat}:=@fn2 a b (.l .q (.S .r .n1)) [.z1 .kc .r]
noncomputable def Yo{a:Rat}:=@fr1 a (.t .n0 .a) [.l .n1 .a]
noncomputable def Yp{a b:Rat}:=@er2 a b (.l .kV .a) [.l .b .kh,.l (.S .kU (.E 3)) .a] rfl
noncomputable def Yq{a b:Rat}:=@er2 a b (.l .a .n2) [.l .n0 .b,.l .a (.A .kU (.E 3))] rfl
noncomputable def Yr{a:Nat}:=@fn1 a (.t .n0 .q) [.y .n0 .q]
noncomputable def Ys{a:Int}:=@fz1 a (.t .jK .a) [.l .n0 .a]
noncomputable def Yt{a b c d:Int}:=@ez4 a b c d (.t .n0 .ka) [.t .c .d,.e .d .a,.e .b .c] rfl
noncomputable def Yu{a b:Int}:=@fz2 a b (.l .kb (.C .kY)) [.l .kb .kY]
noncomputable def Yv{a b c:Nat}:=@fn3 a b c (.x .ko (.A .q .s)) [.x .r .s]
noncomputable def Yw{a b:Nat}:=@fn2 a b (.z1 .jg .kO) []
noncomputable def Yx{a b:Rat}:=@er2 a b (.l .n5 .a) [.l (.S .n6 .b) .a,.l .b .kB] rfl
noncomputable def Yy{a b:Rat}:=@er2 a b (.t .n0 .a) [.l .kT .b,.l (.S .b .kl) .a] rfl
noncomputable def Yz{a b:Rat}:=@er2 a b (.l .a .n1) [.l .n0 .b,.l (.A .b .a) .n1] rfl
noncomputable def YA{a b:Rat}:=@er2 a b (.l .kd .n2) [.l .kd .kK] rfl
noncomputable def YB{a:Rat}:=@er1 a (.l .kr .n0) [.l .a .n2] rfl
noncomputable def YC{a:Rat}:=@er1 a (.l .kQ .n3) [.l .a .n1] rfl
noncomputable def YD{a:Rat}:=@er1 a (.l .n2 .kk) [.l .n1 .a] rfl
noncomputable def YE{a:Rat}:=@er1 a (.l .n3 .kk) [.l .n2 .a] rfl
noncomputable def YF{a:Rat}:=@er1 a (.l .n4 .kk) [.l .n3 .a] rfl
noncomputable def YG{a b:Rat}:=@er2 a b (.l .ka .kl) [.l .a .jh] rfl
noncomputable def YH{a:Rat}:=@er1 a (.l .jE .n5) [.l .a .n1] rfl
noncomputable def YI{a b:Int}:=@ez2 a b (.l .n1 .ka) [.t .b .a] rfl
noncomputable def YJ{a:Int}:=@ez1 a (.l .a .n0) [.t .a .n1] rfl
noncomputable def YK{a:Int}:=@ez1 a (.l .n0 .a) [.t .kn .a] rfl
noncomputable def YL{a:Nat}:=@fn1 a (.y (.N 41) .ks) []
noncomputable def YM{a:Nat}:=@fn1 a (.y (.N 40) .ks) []
noncomputable def YN{a b:Nat}:=@fn2 a b (.x .q .r) [.x .kc .r]
noncomputable def YO{a b c:Nat}:=@fn3 a b c (.x .q .k5) [.x .q .s]
end Mine
end
section
namespace Mine
theorem xa{p0:Prop}{p1:Prop}{G:Prop}(h:(p0)/\(p1)) (k:(p0)->(p1)->G):G :=k h.1 h.2
theorem xe{A:Sort _}{p1:A->Prop}{G:Prop}(h:∃a:A,((p1 a))) (k:∀(a:A),(p1 a)->G):G :=h.elim λx0 w0=>k x0 w0
theorem xr{Y0:Sort _}{y0:Y0}{t0:Y0}{p1:Prop}{G:Y0->Prop}(h:y0=t0/\(p1)) (k:(p1)->G (t0)):G y0:=gh (motive:=λz=>G z) h.1.symm (k h.2)
theorem xaa{p0:Prop}{p1:Prop}{p2:Prop}{G:Prop}(h:(p0)/\(p1)/\(p2)) (k:(p0)->(p1)->(p2)->G):G :=k h.1 h.2.1 h.2.2
theorem xeR{A:Sort _}{Y1:Sort _}{y1:Y1}{t1:A->Y1}{G:Y1->Prop}(h:∃a:A,(y1=t1 a)) (k:∀(a:A),G (t1 a)):G y1:=h.elim λx0 w0=>gh (motive:=λz=>G z) w0.symm (k x0)
theorem xea{A:Sort _}{p1:A->Prop}{p2:A->Prop}{G:Prop}(h:∃a:A,((p1 a)/\(p2 a))) (k:∀(a:A),(p1 a)->(p2 a)->G):G :=h.elim λx0 w0=>k x0 w0.1 w0.2
theorem xee{A:Sort _}{B:Sort _}{p2:A->B->Prop}{G:Prop}(h:∃a:A,(∃b:B,((p2 a b)))) (k:∀(a:A),∀(b:B),(p2 a b)->G):G :=h.elim λx0 w0=>w0.elim λx1 w1=>k x0 x1 w1
theorem xer{A:Sort _}{Y1:Sort _}{y1:Y1}{t1:A->Y1}{p2:A->Prop}{G:Y1->Prop}(h:∃a:A,(y1=t1 a/\(p2 a))) (k:∀(a:A),(p2 a)->G (t1 a)):G y1:=h.elim λx0 w0=>gh (motive:=λz=>G z) w0.1.symm (k x0 w0.2)
theorem aP{p0:Prop}{p1:Prop}{p2:Prop}{p3:Prop}{G:Prop}(h:(p0)/\(p1)/\(p2)/\(p3)) (k:(p0)->(p1)->(p2)->(p3)->G):G :=k h.1 h.2.1 h.2.2.1 h.2.2.2
theorem qK{p0:Prop}{A:Sort _}{p2:A->Prop}{p3:A->Prop}{G:Prop}(h:(p0)/\∃a:A,((p2 a)/\(p3 a))) (k:(p0)->∀(a:A),(p2 a)->(p3 a)->G):G :=h.2.elim λx1 w1=>k h.1 x1 w1.1 w1.2
theorem VC{A:Sort _}{p1:A->Prop}{Y2:Sort _}{y2:Y2}{t2:A->Y2}{G:Y2->Prop}(h:∃a:A,((p1 a)/\y2=t2 a)) (k:∀(a:A),(p1 a)->G (t2 a)):G y2:=h.elim λx0 w0=>gh (motive:=λz=>G z) w0.2.symm (k x0 w0.1)
theorem gW{A:Sort _}{p1:A->Prop}{Y2:Sort _}{y2:Y2}{t2:A->Y2}{G:Y2->Prop}(h:∃a:A,((p1 a)/\t2 a=y2)) (k:∀(a:A),(p1 a)->G (t2 a)):G y2:=h.elim λx0 w0=>gh (motive:=λz=>G z) w0.2 (k x0 w0.1)
theorem lC{A:Sort _}{p1:A->Prop}{p2:A->Prop}{p3:A->Prop}{G:Prop}(h:∃a:A,((p1 a)/\(p2 a)/\(p3 a))) (k:∀(a:A),(p1 a)->(p2 a)->(p3 a)->G):G :=h.elim λx0 w0=>k x0 w0.1 w0.2.1 w0.2.2
theorem IE{A:Sort _}{B:Sort _}{Y2:Sort _}{y2:Y2}{t2:A->B->Y2}{G:Y2->Prop}(h:∃a:A,(∃b:B,(y2=t2 a b))) (k:∀(a:A),∀(b:B),G (t2 a b)):G y2:=h.elim λx0 w0=>w0.elim λx1 w1=>gh (motive:=λz=>G z) w1.symm (k x0 x1)
theorem jE{A:Sort _}{B:Sort _}{p2:A->B->Prop}{p3:A->B->Prop}{G:Prop}(h:∃a:A,(∃b:B,((p2 a b)/\(p3 a b)))) (k:∀(a:A),∀(b:B),(p2 a b)->(p3 a b)->G):G :=h.elim λx0 w0=>w0.elim λx1 w1=>k x0 x1 w1.1 w1.2
theorem gB{A:Sort _}{B:Sort _}{C:Sort _}{p3:A->B->C->Prop}{G:Prop}(h:∃a:A,(∃b:B,(∃c:C,((p3 a b c))))) (k:∀(a:A),∀(b:B),∀(c:C),(p3 a b c)->G):G :=h.elim λx0 w0=>w0.elim λx1 w1=>w1.elim λx2 w2=>k x0 x1 x2 w2
theorem wQ{A:Sort _}{B:Sort _}{Y2:Sort _}{y2:Y2}{t2:A->B->Y2}{p3:A->B->Prop}{G:Y2->Prop}(h:∃a:A,(∃b:B,(y2=t2 a b/\(p3 a b)))) (k:∀(a:A),∀(b:B),(p3 a b)->G (t2 a b)):G y2:=h.elim λx0 w0=>w0.elim λx1 w1=>gh (motive:=λz=>G z) w1.1.symm (k x0 x1 w1.2)
theorem VD{A:Sort _}{Y1:Sort _}{y1:Y1}{t1:A->Y1}{Y2:Sort _}{y2:Y2}{t2:A->Y2}{G:Y1->Y2->Prop}(h:∃a:A,(y1=t1 a/\t2 a=y2)) (k:∀(a:A),G (t1 a) (t2 a)):G y1 y2:=h.elim λx0 w0=>gh (motive:=λz=>G z _) w0.1.symm (gh (motive:=λz=>G _ z) w0.2 (k x0))
theorem gC{p0:Prop}{p1:Prop}{p2:Prop}{p3:Prop}{p4:Prop}{G:Prop}(h:(p0)/\(p1)/\(p2)/\(p3)/\(p4)) (k:(p0)->(p1)->(p2)->(p3)->(p4)->G):G :=k h.1 h.2.1 h.2.2.1 h.2.2.2.1 h.2.2.2.2
theorem bV{A:Sort _}{p1:A->Prop}{p2:A->Prop}{p3:A->Prop}{p4:A->Prop}{G:Prop}(h:∃a:A,((p1 a)/\(p2 a)/\(p3 a)/\(p4 a))) (k:∀(a:A),(p1 a)->(p2 a)->(p3 a)->(p4 a)->G):G :=h.elim λx0 w0=>k x0 w0.1 w0.2.1 w0.2.2.1 w0.2.2.2
theorem eA{A:Sort _}{B:Sort _}{p2:A->B->Prop}{p3:A->B->Prop}{p4:A->B->Prop}{G:Prop}(h:∃a:A,(∃b:B,((p2 a b)/\(p3 a b)/\(p4 a b)))) (k:∀(a:A),∀(b:B),(p2 a b)->(p3 a b)->(p4 a b)->G):G :=h.elim λx0 w0=>w0.elim λx1 w1=>k x0 x1 w1.1 w1.2.1 w1.2.2
theorem lD{A:Sort _}{B:Sort _}{C:Sort _}{p3:A->B->C->Prop}{p4:A->B->C->Prop}{G:Prop}(h:∃a:A,(∃b:B,(∃c:C,((p3 a b c)/\(p4 a b c))))) (k:∀(a:A),∀(b:B),∀(c:C),(p3 a b c)->(p4 a b c)->G):G :=h.elim λx0 w0=>w0.elim λx1 w1=>w1.elim λx2 w2=>k x0 x1 x2 w2.1 w2.2
theorem eJ{A:Sort _}{B:Sort _}{C:Sort _}{D:Sort _}{p4:A->B->C->D->Prop}{G:Prop}(h:∃a:A,(∃b:B,(∃c:C,(∃d:D,((p4 a b c d)))))) (k:∀(a:A),∀(b:B),∀(c:C),∀(d:D),(p4 a b c d)->G):G :=h.elim λx0 w0=>w0.elim λx1 w1=>w1.elim λx2 w2=>w2.elim λx3 w3=>k x0 x1 x2 x3 w3
theorem dP{A:Sort _}{B:Sort _}{Y2:Sort _}{y2:Y2}{t2:A->B->Y2}{p3:A->B->Prop}{p4:A->B->Prop}{G:Y2->Prop}(h:∃a:A,(∃b:B,(y2=t2 a b/\(p3 a b)/\(p4 a b)))) (k:∀(a:A),∀(b:B),(p3 a b)->(p4 a b)->G (t2 a b)):G y2:=h.elim λx0 w0=>w0.elim λx1 w1=>gh (motive:=λz=>G z) w1.1.symm (k x0 x1 w1.2.1 w1.2.2)
theorem R5{A:Sort _}{Y1:Sort _}{y1:Y1}{t1:A->Y1}{p2:A->Prop}{p3:A->Prop}{p4:A->Prop}{G:Y1->Prop}(h:∃a:A,(y1=t1 a/\(p2 a)/\(p3 a)/\(p4 a))) (k:∀(a:A),(p2 a)->(p3 a)->(p4 a)->G (t1 a)):G y1:=h.elim λx0 w0=>gh (motive:=λz=>G z) w0.1.symm (k x0 w0.2.1 w0.2.2.1 w0.2.2.2)
theorem mW{p0:Prop}{p1:Prop}{p2:Prop}{p3:Prop}{p4:Prop}{p5:Prop}{G:Prop}(h:(p0)/\(p1)/\(p2)/\(p3)/\(p4)/\(p5)) (k:(p0)->(p1)->(p2)->(p3)->(p4)->(p5)->G):G :=k h.1 h.2.1 h.2.2.1 h.2.2.2.1 h.2.2.2.2.1 h.2.2.2.2.2
theorem wR{A:Sort _}{B:Sort _}{p2:A->B->Prop}{p3:A->B->Prop}{Y4:Sort _}{y4:Y4}{t4:A->B->Y4}{G:Y4->Prop}(h:∃a:A,(∃b:B,((p2 a b)/\(p3 a b)/\t4 a b=y4))) (k:∀(a:A),∀(b:B),(p2 a b)->(p3 a b)->G (t4 a b)):G y4:=h.elim λx0 w0=>w0.elim λx1 w1=>gh (motive:=λz=>G z) w1.2.2 (k x0 x1 w1.1 w1.2.1)
theorem cC{A:Sort _}{B:Sort _}{p2:A->B->Prop}{p3:A->B->Prop}{p4:A->B->Prop}{p5:A->B->Prop}{G:Prop}(h:∃a:A,(∃b:B,((p2 a b)/\(p3 a b)/\(p4 a b)/\(p5 a b)))) (k:∀(a:A),∀(b:B),(p2 a b)->(p3 a b)->(p4 a b)->(p5 a b)->G):G :=h.elim λx0 w0=>w0.elim λx1 w1=>k x0 x1 w1.1 w1.2.1 w1.2.2.1 w1.2.2.2
theorem mX{A:Sort _}{B:Sort _}{C:Sort _}{p3:A->B->C->Prop}{p4:A->B->C->Prop}{p5:A->B->C->Prop}{G:Prop}(h:∃a:A,(∃b:B,(∃c:C,((p3 a b c)/\(p4 a b c)/\(p5 a b c))))) (k:∀(a:A),∀(b:B),∀(c:C),(p3 a b c)->(p4 a b c)->(p5 a b c)->G):G :=h.elim λx0 w0=>w0.elim λx1 w1=>w1.elim λx2 w2=>k x0 x1 x2 w2.1 w2.2.1 w2.2.2
theorem kB{A:Sort _}{B:Sort _}{C:Sort _}{Y3:Sort _}{y3:Y3}{t3:A->B->C->Y3}{p4:A->B->C->Prop}{p5:A->B->C->Prop}{G:Y3->Prop}(h:∃a:A,(∃b:B,(∃c:C,(y3=t3 a b c/\(p4 a b c)/\(p5 a b c))))) (k:∀(a:A),∀(b:B),∀(c:C),(p4 a b c)->(p5 a b c)->G (t3 a b c)):G y3:=h.elim λx0 w0=>w0.elim λx1 w1=>w1.elim λx2 w2=>gh (motive:=λz=>G z) w2.1.symm (k x0 x1 x2 w2.2.1 w2.2.2)
theorem iB{A:Sort _}{B:Sort _}{Y2:Sort _}{y2:Y2}{t2:A->B->Y2}{p3:A->B->Prop}{p4:A->B->Prop}{p5:A->B->Prop}{G:Y2->Prop}(h:∃a:A,(∃b:B,(y2=t2 a b/\(p3 a b)/\(p4 a b)/\(p5 a b)))) (k:∀(a:A),∀(b:B),(p3 a b)->(p4 a b)->(p5 a b)->G (t2 a b)):G y2:=h.elim λx0 w0=>w0.elim λx1 w1=>gh (motive:=λz=>G z) w1.1.symm (k x0 x1 w1.2.1 w1.2.2.1 w1.2.2.2)
theorem BA{A:Sort _}{B:Sort _}{Y2:Sort _}{y2:Y2}{t2:A->B->Y2}{Y3:Sort _}{y3:Y3}{t3:A->B->Y3}{p4:A->B->Prop}{p5:A->B->Prop}{G:Y2->Y3->Prop}(h:∃a:A,(∃b:B,(y2=t2 a b/\y3=t3 a b/\(p4 a b)/\(p5 a b)))) (k:∀(a:A),∀(b:B),(p4 a b)->(p5 a b)->G (t2 a b) (t3 a b)):G y2 y3:=h.elim λx0 w0=>w0.elim λx1 w1=>gh (motive:=λz=>G z _) w1.1.symm (gh (motive:=λz=>G _ z) w1.2.1.symm (k x0 x1 w1.2.2.1 w1.2.2.2))
theorem BB{A:Sort _}{Y1:Sort _}{y1:Y1}{t1:A->Y1}{p2:A->Prop}{B:Sort _}{p4:A->B->Prop}{p5:A->B->Prop}{G:Y1->Prop}(h:∃a:A,(y1=t1 a/\(p2 a)/\∃b:B,((p4 a b)/\(p5 a b)))) (k:∀(a:A),(p2 a)->∀(b:B),(p4 a b)->(p5 a b)->G (t1 a)):G y1:=h.elim λx0 w0=>w0.2.2.elim λx3 w3=>gh (motive:=λz=>G z) w0.1.symm (k x0 w0.2.1 x3 w3.1 w3.2)
theorem qR{p0:Prop}{p1:Prop}{p2:Prop}{p3:Prop}{p4:Prop}{p5:Prop}{p6:Prop}{G:Prop}(h:(p0)/\(p1)/\(p2)/\(p3)/\(p4)/\(p5)/\(p6)) (k:(p0)->(p1)->(p2)->(p3)->(p4)->(p5)->(p6)->G):G :=k h.1 h.2.1 h.2.2.1 h.2.2.2.1 h.2.2.2.2.1 h.2.2.2.2.2.1 h.2.2.2.2.2.2
theorem iT{A:Sort _}{B:Sort _}{p2:A->B->Prop}{p3:A->B->Prop}{p4:A->B->Prop}{p5:A->B->Prop}{p6:A->B->Prop}{G:Prop}(h:∃a:A,(∃b:B,((p2 a b)/\(p3 a b)/\(p4 a b)/\(p5 a b)/\(p6 a b)))) (k:∀(a:A),∀(b:B),(p2 a b)->(p3 a b)->(p4 a b)->(p5 a b)->(p6 a b)->G):G :=h.elim λx0 w0=>w0.elim λx1 w1=>k x0 x1 w1.1 w1.2.1 w1.2.2.1 w1.2.2.2.1 w1.2.2.2.2
theorem bI{A:Sort _}{B:Sort _}{C:Sort _}{p3:A->B->C->Prop}{p4:A->B->C->Prop}{p5:A->B->C->Prop}{p6:A->B->C->Prop}{G:Prop}(h:∃a:A,(∃b:B,(∃c:C,((p3 a b c)/\(p4 a b c)/\(p5 a b c)/\(p6 a b c))))) (k:∀(a:A),∀(b:B),∀(c:C),(p3 a b c)->(p4 a b c)->(p5 a b c)->(p6 a b c)->G):G :=h.elim λx0 w0=>w0.elim λx1 w1=>w1.elim λx2 w2=>k x0 x1 x2 w2.1 w2.2.1 w2.2.2.1 w2.2.2.2
theorem OJ{A:Sort _}{B:Sort _}{C:Sort _}{Y3:Sort _}{y3:Y3}{t3:A->B->C->Y3}{p4:A->B->C->Prop}{p5:A->B->C->Prop}{p6:A->B->C->Prop}{G:Y3->Prop}(h:∃a:A,(∃b:B,(∃c:C,(y3=t3 a b c/\(p4 a b c)/\(p5 a b c)/\(p6 a b c))))) (k:∀(a:A),∀(b:B),∀(c:C),(p4 a b c)->(p5 a b c)->(p6 a b c)->G (t3 a b c)):G y3:=h.elim λx0 w0=>w0.elim λx1 w1=>w1.elim λx2 w2=>gh (motive:=λz=>G z) w2.1.symm (k x0 x1 x2 w2.2.1 w2.2.2.1 w2.2.2.2)
theorem jM{p0:Prop}{p1:Prop}{A:Sort _}{p3:A->Prop}{p4:A->Prop}{p5:A->Prop}{p6:A->Prop}{p7:A->Prop}{G:Prop}(h:(p0)/\(p1)/\∃a:A,((p3 a)/\(p4 a)/\(p5 a)/\(p6 a)/\(p7 a))) (k:(p0)->(p1)->∀(a:A),(p3 a)->(p4 a)->(p5 a)->(p6 a)->(p7 a)->G):G :=h.2.2.elim λx2 w2=>k h.1 h.2.1 x2 w2.1 w2.2.1 w2.2.2.1 w2.2.2.2.1 w2.2.2.2.2
theorem jN{A:Sort _}{B:Sort _}{C:Sort _}{D:Sort _}{Y4:Sort _}{y4:Y4}{t4:A->B->C->D->Y4}{p5:A->B->C->D->Prop}{p6:A->B->C->D->Prop}{p7:A->B->C->D->Prop}{G:Y4->Prop}(h:∃a:A,(∃b:B,(∃c:C,(∃d:D,(y4=t4 a b c d/\(p5 a b c d)/\(p6 a b c d)/\(p7 a b c d)))))) (k:∀(a:A),∀(b:B),∀(c:C),∀(d:D),(p5 a b c d)->(p6 a b c d)->(p7 a b c d)->G (t4 a b c d)):G y4:=h.elim λx0 w0=>w0.elim λx1 w1=>w1.elim λx2 w2=>w2.elim λx3 w3=>gh (motive:=λz=>G z) w3.1.symm (k x0 x1 x2 x3 w3.2.1 w3.2.2.1 w3.2.2.2)
theorem fJ{A:Sort _}{B:Sort _}{C:Sort _}{Y3:Sort _}{y3:Y3}{t3:A->B->C->Y3}{p4:A->B->C->Prop}{p5:A->B->C->Prop}{p6:A->B->C->Prop}{p7:A->B->C->Prop}{G:Y3->Prop}(h:∃a:A,(∃b:B,(∃c:C,(y3=t3 a b c/\(p4 a b c)/\(p5 a b c)/\(p6 a b c)/\(p7 a b c))))) (k:∀(a:A),∀(b:B),∀(c:C),(p4 a b c)->(p5 a b c)->(p6 a b c)->(p7 a b c)->G (t3 a b c)):G y3:=h.elim λx0 w0=>w0.elim λx1 w1=>w1.elim λx2 w2=>gh (motive:=λz=>G z) w2.1.symm (k x0 x1 x2 w2.2.1 w2.2.2.1 w2.2.2.2.1 w2.2.2.2.2)
theorem FM{A:Sort _}{B:Sort _}{C:Sort _}{D:Sort _}{Y4:Sort _}{y4:Y4}{t4:A->B->C->D->Y4}{p5:A->B->C->D->Prop}{p6:A->B->C->D->Prop}{p7:A->B->C->D->Prop}{p8:A->B->C->D->Prop}{G:Y4->Prop}(h:∃a:A,(∃b:B,(∃c:C,(∃d:D,(y4=t4 a b c d/\(p5 a b c d)/\(p6 a b c d)/\(p7 a b c d)/\(p8 a b c d)))))) (k:∀(a:A),∀(b:B),∀(c:C),∀(d:D),(p5 a b c d)->(p6 a b c d)->(p7 a b c d)->(p8 a b c d)->G (t4 a b c d)):G y4:=h.elim λx0 w0=>w0.elim λx1 w1=>w1.elim λx2 w2=>w2.elim λx3 w3=>gh (motive:=λz=>G z) w3.1.symm (k x0 x1 x2 x3 w3.2.1 w3.2.2.1 w3.2.2.2.1 w3.2.2.2.2)
theorem iC{A:Sort _}{B:Sort _}{C:Sort _}{D:Sort _}{Y4:Sort _}{y4:Y4}{t4:A->B->C->D->Y4}{p5:A->B->C->D->Prop}{p6:A->B->C->D->Prop}{p7:A->B->C->D->Prop}{p8:A->B->C->D->Prop}{p9:A->B->C->D->Prop}{G:Y4->Prop}(h:∃a:A,(∃b:B,(∃c:C,(∃d:D,(y4=t4 a b c d/\(p5 a b c d)/\(p6 a b c d)/\(p7 a b c d)/\(p8 a b c d)/\(p9 a b c d)))))) (k:∀(a:A),∀(b:B),∀(c:C),∀(d:D),(p5 a b c d)->(p6 a b c d)->(p7 a b c d)->(p8 a b c d)->(p9 a b c d)->G (t4 a b c d)):G y4:=h.elim λx0 w0=>w0.elim λx1 w1=>w1.elim λx2 w2=>w2.elim λx3 w3=>gh (motive:=λz=>G z) w3.1.symm (k x0 x1 x2 x3 w3.2.1 w3.2.2.1 w3.2.2.2.1 w3.2.2.2.2.1 w3.2.2.2.2.2)
theorem iaa{p0:Prop}{p1:Prop}{p2:Prop}(h0:p0) (h1:p1) (h2:p2):p0/\p1/\p2:=⟨h0,h1,h2⟩
theorem iae{p0:Prop}{A:Sort _}{p2:A->Prop}(h0:p0) (a:A) (h2:p2 a):p0/\∃a,p2 a:=⟨h0,a,h2⟩
theorem iea{A:Sort _}{p1:A->Prop}{p2:A->Prop}(a:A) (h1:p1 a) (h2:p2 a):∃a,p1 a/\p2 a:=⟨a,h1,h2⟩
theorem iee{A:Sort _}{B:Sort _}{p2:A->B->Prop}(a:A) (b:B) (h2:p2 a b):∃a,∃b,p2 a b:=⟨a,b,h2⟩
theorem cS{p0:Prop}{p1:Prop}{p2:Prop}{p3:Prop}(h0:p0) (h1:p1) (h2:p2) (h3:p3):p0/\p1/\p2/\p3:=⟨h0,h1,h2,h3⟩
theorem o4{p0:Prop}{A:Sort _}{p2:A->Prop}{p3:A->Prop}(h0:p0) (a:A) (h2:p2 a) (h3:p3 a):p0/\∃a,p2 a/\p3 a:=⟨h0,a,h2,h3⟩
theorem gE{A:Sort _}{p1:A->Prop}{p2:A->Prop}{p3:A->Prop}(a:A) (h1:p1 a) (h2:p2 a) (h3:p3 a):∃a,p1 a/\p2 a/\p3 a:=⟨a,h1,h2,h3⟩
theorem kC{A:Sort _}{B:Sort _}{p2:A->B->Prop}{p3:A->B->Prop}(a:A) (b:B) (h2:p2 a b) (h3:p3 a b):∃a,∃b,p2 a b/\p3 a b:=⟨a,b,h2,h3⟩
theorem eH{A:Sort _}{B:Sort _}{C:Sort _}{p3:A->B->C->Prop}(a:A) (b:B) (c:C) (h3:p3 a b c):∃a,∃b,∃c,p3 a b c:=⟨a,b,c,h3⟩
theorem gF{p0:Prop}{p1:Prop}{p2:Prop}{p3:Prop}{p4:Prop}(h0:p0) (h1:p1) (h2:p2) (h3:p3) (h4:p4):p0/\p1/\p2/\p3/\p4:=⟨h0,h1,h2,h3,h4⟩
theorem DT{p0:Prop}{A:Sort _}{B:Sort _}{p3:A->B->Prop}{p4:A->B->Prop}(h0:p0) (a:A) (b:B) (h3:p3 a b) (h4:p4 a b):p0/\∃a,∃b,p3 a b/\p4 a b:=⟨h0,a,b,h3,h4⟩
theorem fK{A:Sort _}{p1:A->Prop}{p2:A->Prop}{p3:A->Prop}{p4:A->Prop}(a:A) (h1:p1 a) (h2:p2 a) (h3:p3 a) (h4:p4 a):∃a,p1 a/\p2 a/\p3 a/\p4 a:=⟨a,h1,h2,h3,h4⟩
theorem bE{A:Sort _}{B:Sort _}{p2:A->B->Prop}{p3:A->B->Prop}{p4:A->B->Prop}(a:A) (b:B) (h2:p2 a b) (h3:p3 a b) (h4:p4 a b):∃a,∃b,p2 a b/\p3 a b/\p4 a b:=⟨a,b,h2,h3,h4⟩
theorem gG{A:Sort _}{B:Sort _}{C:Sort _}{p3:A->B->C->Prop}{p4:A->B->C->Prop}(a:A) (b:B) (c:C) (h3:p3 a b c) (h4:p4 a b c):∃a,∃b,∃c,p3 a b c/\p4 a b c:=⟨a,b,c,h3,h4⟩
theorem bW{A:Sort _}{B:Sort _}{p2:A->B->Prop}{p3:A->B->Prop}{p4:A->B->Prop}{p5:A->B->Prop}(a:A) (b:B) (h2:p2 a b) (h3:p3 a b) (h4:p4 a b) (h5:p5 a b):∃a,∃b,p2 a b/\p3 a b/\p4 a b/\p5 a b:=⟨a,b,h2,h3,h4,h5⟩
theorem o5{A:Sort _}{B:Sort _}{C:Sort _}{p3:A->B->C->Prop}{p4:A->B->C->Prop}{p5:A->B->C->Prop}(a:A) (b:B) (c:C) (h3:p3 a b c) (h4:p4 a b c) (h5:p5 a b c):∃a,∃b,∃c,p3 a b c/\p4 a b c/\p5 a b c:=⟨a,b,c,h3,h4,h5⟩
theorem cD{A:Sort _}{B:Sort _}{C:Sort _}{p3:A->B->C->Prop}{p4:A->B->C->Prop}{p5:A->B->C->Prop}{p6:A->B->C->Prop}(a:A) (b:B) (c:C) (h3:p3 a b c) (h4:p4 a b c) (h5:p5 a b c) (h6:p6 a b c):∃a,∃b,∃c,p3 a b c/\p4 a b c/\p5 a b c/\p6 a b c:=⟨a,b,c,h3,h4,h5,h6⟩
theorem f8{A:Sort _}{B:Sort _}{C:Sort _}{D:Sort _}{p4:A->B->C->D->Prop}{p5:A->B->C->D->Prop}{p6:A->B->C->D->Prop}(a:A) (b:B) (c:C) (d:D) (h4:p4 a b c d) (h5:p5 a b c d) (h6:p6 a b c d):∃a,∃b,∃c,∃d,p4 a b c d/\p5 a b c d/\p6 a b c d:=⟨a,b,c,d,h4,h5,h6⟩
theorem dF{A:Sort _}{B:Sort _}{C:Sort _}{p3:A->B->C->Prop}{p4:A->B->C->Prop}{p5:A->B->C->Prop}{p6:A->B->C->Prop}{p7:A->B->C->Prop}(a:A) (b:B) (c:C) (h3:p3 a b c) (h4:p4 a b c) (h5:p5 a b c) (h6:p6 a b c) (h7:p7 a b c):∃a,∃b,∃c,p3 a b c/\p4 a b c/\p5 a b c/\p6 a b c/\p7 a b c:=⟨a,b,c,h3,h4,h5,h6,h7⟩
theorem bO{A:Sort _}{B:Sort _}{C:Sort _}{D:Sort _}{p4:A->B->C->D->Prop}{p5:A->B->C->D->Prop}{p6:A->B->C->D->Prop}{p7:A->B->C->D->Prop}{p8:A->B->C->D->Prop}(a:A) (b:B) (c:C) (d:D) (h4:p4 a b c d) (h5:p5 a b c d) (h6:p6 a b c d) (h7:p7 a b c d) (h8:p8 a b c d):∃a,∃b,∃c,∃d,p4 a b c d/\p5 a b c d/\p6 a b c d/\p7 a b c d/\p8 a b c d:=⟨a,b,c,d,h4,h5,h6,h7,h8⟩
theorem gH{A:Sort _}{B:Sort _}{C:Sort _}{D:Sort _}{H:Sort _}{I:Sort _}{p6:A->B->C->D->H->I->Prop}{p7:A->B->C->D->H->I->Prop}{p8:A->B->C->D->H->I->Prop}{p9:A->B->C->D->H->I->Prop}{p10:A->B->C->D->H->I->Prop}(a:A) (b:B) (c:C) (d:D) (h:H) (i:I) (h6:p6 a b c d h i) (h7:p7 a b c d h i) (h8:p8 a b c d h i) (h9:p9 a b c d h i) (Sk:p10 a b c d h i):∃a,∃b,∃c,∃d,∃h,∃i,p6 a b c d h i/\p7 a b c d h i/\p8 a b c d h i/\p9 a b c d h i/\p10 a b c d h i:=⟨a,b,c,d,h,i,h6,h7,h8,h9,Sk⟩
end Mine
end
section
open PySem PySem.W PyProof.Rows PySem.W.X
namespace Mine
inductive SV where
 | i (n:Int)
 | t (s:Str)
 deriving DecidableEq
inductive PV where
 | none
 | bool (b:Bool)
 | int (n:Int)
 | flt (x:UInt64)
 | str (s:Str)
 | tup (l:List PV)
 | lst (l:List PV)
 | dcti (l:List (Int × SV))
 | dcts (l:List (Str × SV))
namespace Co
noncomputable def iU:PV:=(.flt 0x3fd5555555555555)
noncomputable def lE:PV:=(.flt 0x3fc5555555555555)
noncomputable def iV:PV:=(.flt 0x3fe5555555555555)
noncomputable def dQ:PV:=(.int 256)
noncomputable def iW:PV:=(.int 0)
noncomputable def aQ:PV:=.dcts [(("!":Str),.i 54),(("!=":Str),.i 28),(("%":Str),.i 24),(("%=":Str),.i 40),(("&":Str),.i 19),(("&=":Str),.i 41),(("(":Str),.i 7),((")":Str),.i 8),(("*":Str),.i 16),(("**":Str),.i 35),(("**=":Str),.i 46),(("*=":Str),.i 38),(("+":Str),.i 14),(("+=":Str),.i 36),((",":Str),.i 12),(("-":Str),.i 15),(("-=":Str),.i 37),(("->":Str),.i 51),((".":Str),.i 23),(("...":Str),.i 52),(("/":Str),.i 17),(("//":Str),.i 47),(("//=":Str),.i 48),(("/=":Str),.i 39),((":":Str),.i 11),((":=":Str),.i 53),((";":Str),.i 13),(("<":Str),.i 20),(("<<":Str),.i 33),(("<<=":Str),.i 44),(("<=":Str),.i 29),(("=":Str),.i 22),(("==":Str),.i 27),((">":Str),.i 21),((">=":Str),.i 30),((">>":Str),.i 34),((">>=":Str),.i 45),(("@":Str),.i 49),(("@=":Str),.i 50),(("[":Str),.i 9),(("]":Str),.i 10),(("^":Str),.i 32),(("^=":Str),.i 43),(("{":Str),.i 25),(("|":Str),.i 18),(("|=":Str),.i 42),(("}":Str),.i 26),(("~":Str),.i 31)]
end Co
abbrev Fn:=Nat->List PV->Option PV
abbrev Vs:=ag->ai->Prop
abbrev Ap:=er->Prop
inductive Bi where
 | len | sum | min | max | int
 deriving DecidableEq
inductive G where
 | bi (b:Bi)
 | fn (f:Nat)
 | cst (p:PV)
 | rng
 | enum
 | gen
open Co in
def GL:List (Str × G):=[(("int":Str),.bi .int),(("len":Str),.bi .len),(("max":Str),.bi .max),(("min":Str),.bi .min),(("sum":Str),.bi .sum),(("range":Str),.rng),(("enumerate":Str),.enum),(("_iter_escaped_chars":Str),.gen),(("ONE_THIRD":Str),.cst iU),(("ONE_SIXTH":Str),.cst lE),(("TWO_THIRD":Str),.cst iV),(("NT_OFFSET":Str),.cst dQ),(("ENDMARKER":Str),.cst iW),(("EXACT_TOKEN_TYPES":Str),.cst aQ),(("ISTERMINAL":Str),.fn 0),(("ISNONTERMINAL":Str),.fn 1),(("ISEOF":Str),.fn 2),(("rgb_to_hls":Str),.fn 3),(("hls_to_rgb":Str),.fn 4),(("_v":Str),.fn 5),(("rgb_to_hsv":Str),.fn 6),(("hsv_to_rgb":Str),.fn 7),(("_strip_quoted_realnames":Str),.fn 8),(("_check_parenthesis":Str),.fn 9),(("_law_read":Str),.fn 10),(("_law_spelled":Str),.fn 11),(("_law_other":Str),.fn 12),(("_law_like":Str),.fn 13),(("_law_lamps":Str),.fn 14),(("_law_mark":Str),.fn 15),(("_law_melted":Str),.fn 16),(("_law_due":Str),.fn 17),(("_law_fewest":Str),.fn 18),(("_law_told_back":Str),.fn 19),(("law":Str),.fn 20)]
noncomputable def nmS:List Str:=[("ISTERMINAL":Str),("ISNONTERMINAL":Str),("ISEOF":Str),("rgb_to_hls":Str),("hls_to_rgb":Str),("_v":Str),("rgb_to_hsv":Str),("hsv_to_rgb":Str),("_strip_quoted_realnames":Str),("_check_parenthesis":Str),("_law_read":Str),("_law_spelled":Str),("_law_other":Str),("_law_like":Str),("_law_lamps":Str),("_law_mark":Str),("_law_melted":Str),("_law_due":Str),("_law_fewest":Str),("_law_told_back":Str),("law":Str)]
structure Step (h:li) (N:Ap) (h':li) (N':Ap):Prop where
 keep:∀b o,¬N b->h.get? b=some o->h'.get? b=some o
 grow:h.objs.size<=h'.objs.size
 new:∀b,N' b->N b\/h.objs.size<=b
structure Ext (s:ai) (N:Ap) (s':ai) (N':Ap):Prop where
 step:Step s.heap N s'.heap N'
 gens:∀(i:Nat) (g:GenState),s.gens[i]?=some g->s'.gens[i]?=some g
 bare:pw s.gens->pw s'.gens
 os:s'.os=s.os
 drawn:s'.drawn=s.drawn
 toks:s.toks<=s'.toks
def No0:Ap:=λ_=>False
abbrev Pure (s s':ai):Prop:=Ext s No0 s' No0
noncomputable def R6 (b:UInt64):Option ag->Bool
 | some (.float c t)=>c==b&&!(t==0)
 | _=>false
def EntP (P:Params):List Ex->List (Str × Int)->Prop
 | [],[]=>True
 | e::es,(k,n)::l=>(∃t,e.key=.str k t)/\e.hash=PyData.keyHash P k/\(∃u,e.val=.int n u)/\EntP P es l
 | _,_=>False
structure TreeFacts (P:Params) (t:KT) (fls:List (Str × UInt64)) (dn:Str) (dl:List (Str × Int)):Prop where
 stat:∃o ep,t.get 2=some o/\o.data=.dict #[] ep
 glob:∃o es ep,t.get 3=some o/\o.data=.dict es ep/\(fls.all λx=>R6 x.2 (nsFind es x.1))=true /\
  ∃a o' es' ep',nsFind es dn=some (.ref a)/\(a==sysModules)=false/\t.get a=some o'/\o'.ExactDict/\o'.data=.dict es' ep'/\EntP P es'.toList dl
open Co in
def dl:List (Str × Int):=match aQ with
 | .dcts l=>l.map λx=>(x.1,match x.2 with | .i n=>n | _=>0)
 | _=>[]
noncomputable def fls:List (Str × UInt64):=[("ONE_THIRD",4599676419421066581),("ONE_SIXTH",4595172819793696085),("TWO_THIRD",4604180019048437077)]
noncomputable def Vw:Fe:={fi.row.prog with main:={fi.row.prog.main with body:=(cv 80).filterMap λi=>if i==0||i==55||i==64||i==68 then none else fi.row.prog.main.body[i]?}}
def Lw:List Str:=looseW Vw ["EXACT_TOKEN_TYPES","ONE_THIRD","ONE_SIXTH","TWO_THIRD"]
@[irreducible] noncomputable def Pg:Fe:=fi.row.prog
structure XX where
 w:World
 h:li
 mg:Str->Option ag
def Gol (P:Fe) (x:XX):Prop:=∀(mean:Hc->Option ag) (mb:Str->Option ag) (bc:ai) (t:KT) (fa a:er) (vs:List ag) (ns:List Int) (Q E:Vs),bc.heap=x.h ->
 Top Vw Lw mean x.mg mb x.h->KT.Holds x.h 1 0 t->TreeFacts x.w.params t fls "EXACT_TOKEN_TYPES" dl->bc.gens=#[]->0<bc.toks->x.mg "law"=some (.ref fa) ->
 x.h.get? a=some {cls:=.type "list",data:=.seq vs.toArray}->Ff vs ns->ns.length<=63->(∀v s',Pure bc s'->v=.bool true->Q v s')->wpAny (model P x.w) callerA (call (.ref fa) [.ref a]) Q E bc
@[irreducible] noncomputable def X0:XX:=@Hd XX ⟨⟨⟨λ_ _=>0,{strHash:=λ_=>0,shareClass:=λ_=>0,mergeTok:=λt=>t,idOf:=λ_=>0,idOfShared:=λ_ _=>0,followText:=λ_=>false,idOfImm:=λ_=>0}⟩,default,λ_=>none⟩⟩ λx=>¬Gol Pg x
theorem OK (h:Gol Pg X0) (x:XX):Gol Pg x:=Ej λc=>by
 unfold X0 at h;exact Fg (p:=λx=>¬Gol Pg x) ⟨x,c⟩ h
@[irreducible] noncomputable def W0:World:=X0.w
@[irreducible] noncomputable def H0:li:=X0.h
noncomputable def BC (k:Nat):Str:=if k=1000 then("_iter_escaped_chars":Str) else nmS[k]?.getD ""
@[irreducible] noncomputable def mG:Str->Option ag:=X0.mg
def fA (k:Nat):er:=match mG (BC k) with
 | some (.ref a)=>a
 | _=>0
end Mine
end
section
open PySem PySem.W PyProof.Rows
namespace Mine
inductive SVR:ag->SV->Prop
 | i (n:Int) (t:Tok):SVR (.int n t) (.i n)
 | t (s:Str) (t:Tok):SVR (.str s t) (.t s)
inductive KVR{K:Type}:List (K × ag)->List (K × SV)->Prop
 | nil:KVR [] []
 | cons{k:K}{v:ag}{a:SV}{es:List (K × ag)}{l:List (K × SV)}:SVR v a->KVR es l->KVR ((k,v)::es) ((k,a)::l)
def PlainTup (h:li) (a:er) (items:Array ag):Prop:=∃n,h.get? a=some {cls:=.type "tuple",data:=.seq items n}
def PlainDictI (h:li) (a:er) (l:List (Int × SV)):Prop:=(a==sysModules)=false/\∃Ij,h.DictOf (intKind Pg W0) a Ij/\KVR Ij l
def PlainDictS (h:li) (a:er) (l:List (Str × SV)):Prop:=(a==sysModules)=false/\∃Ij,h.DictOf (strKind Pg W0) a Ij/\KVR Ij l
mutual
inductive RV (h:li) (N:Ap):ag->PV->Prop
 | none:RV h N .none .none
 | bool (b:Bool):RV h N (.bool b) (.bool b)
 | int (n:Int) (t:Tok):RV h N (.int n t) (.int n)
 | flt (x:UInt64) (t:Tok):t≠0->RV h N (.float x t) (.flt x)
 | str (s:Str) (t:Tok):RV h N (.str s t) (.str s)
 | tup{a:er}{vs:List ag}{l:List PV}:¬N a->PlainTup h a vs.toArray->RVs h N vs l->RV h N (.ref a) (.tup l)
 | lst{a:er}{vs:List ag}{l:List PV}:¬N a->h.PlainList a vs.toArray->RVs h N vs l->RV h N (.ref a) (.lst l)
 | dcti{a:er}{l:List (Int × SV)}:¬N a->PlainDictI h a l->RV h N (.ref a) (.dcti l)
 | dcts{a:er}{l:List (Str × SV)}:¬N a->PlainDictS h a l->RV h N (.ref a) (.dcts l)
inductive RVs (h:li) (N:Ap):List ag->List PV->Prop
 | nil:RVs h N [] []
 | cons{v:ag}{p:PV}{vs:List ag}{ps:List PV}:RV h N v p->RVs h N vs ps->RVs h N (v::vs) (p::ps)
end
theorem Step.trans (a:Step h N h' N') (b:Step h' N' Zg N''):Step h N Zg N'' where
 keep:=λx o hn e=>b.keep x o (λRe=>by
  rcases a.new x Re with q | q
  ·exact hn q
  ·exact absurd (dL e) (av.mpr q)) (a.keep x o hn e)
 grow:=aa a.grow b.grow
 new:=λx hx=>by
  rcases b.new x hx with q | q
  ·exact a.new x q
  ·exact .inr (aa a.grow q)
theorem Step.refl (h:li) (N:Ap):Step h N h N:=⟨λ_ _ _ e=>e,ah _,λ_ q=>.inl q⟩
theorem Step.of_keeps (k:∀b o,h.get? b=some o->h'.get? b=some o) (g:h.objs.size<=h'.objs.size):Step h N h' N:=⟨λb o _ e=>k b o e,g,λ_ q=>.inl q⟩
theorem Step.or (s:Step h N h' N') (Na:Ap):Step h (λb=>Na b\/N b) h' (λb=>Na b\/N' b) where
 keep:=λb o hn e=>s.keep b o (λq=>hn (.inr q)) e
 grow:=s.grow
 new:=λb hb=>by
  rcases hb with q | q
  ·exact .inl (.inl q)
  ·rcases s.new b q with q | q
   ·exact .inl (.inr q)
   ·exact .inr q
section
variable{h h':li}{N N':Ap}
theorem Step.notN (s:Step h N h' N') (hn:¬N a) (e:h.get? a=some o):¬N' a:=λq=>by
 rcases s.new a q with q | q
 ·exact hn q
 ·exact absurd (dL e) (av.mpr q)
theorem PlainTup.st (s:Step h N h' N') (hn:¬N a) (p:PlainTup h a x):¬N' a/\PlainTup h' a x:=p.elim λn e=>(iae (s.notN hn e) n (s.keep _ _ hn e))
theorem gX (s:Step h N h' N') (hn:¬N a) (p:h.PlainList a x):¬N' a/\h'.PlainList a x:=p.elim λn e=>(iae (s.notN hn e) n (s.keep _ _ hn e))
theorem u7 (s:Step h N h' N'){K:Type}[DecidableEq K] {k:PySem.KeyKind Pg W0 K}{x:List (K × ag)}(hn:¬N a) (p:h.DictOf k a x):¬N' a/\h'.DictOf k a x:=by
 refine lD p λo es ep e r=>?_;exact(iae (s.notN hn e) o (kC es ep (s.keep _ _ hn e) r))
theorem PlainDictI.st (s:Step h N h' N') (hn:¬N a) (p:PlainDictI h a l):¬N' a/\PlainDictI h' a l:=by
 refine qK p λhs Ij d r=>?_;clear p;have q:=u7 s hn d;exact(iaa q.1 hs (iea Ij q.2 r))
theorem PlainDictS.st (s:Step h N h' N') (hn:¬N a) (p:PlainDictS h a l):¬N' a/\PlainDictS h' a l:=by
 refine qK p λhs Ij d r=>?_;clear p;have q:=u7 s hn d;exact(iaa q.1 hs (iea Ij q.2 r))
theorem RV.step (s:Step h N h' N') (r:RV h N v p):RV h' N' v p:=RV.rec (motive_1:=λv p _=>RV h' N' v p) (motive_2:=λvs ps _=>RVs h' N' vs ps) .none .bool .int .flt .str (λn e _ r=>.tup (e.st s n).1 (e.st s n).2 r) (λn e _ r=>.lst (gX s n e).1 (gX s n e).2 r) (λn e=>.dcti (e.st s n).1 (e.st s n).2) (λn e=>.dcts (e.st s n).1 (e.st s n).2) .nil (λ_ _ a b=>.cons a b) r
theorem RVs.step (s:Step h N h' N') (r:RVs h N vs ps):RVs h' N' vs ps:=RVs.rec (motive_1:=λv p _=>RV h' N' v p) (motive_2:=λvs ps _=>RVs h' N' vs ps) .none .bool .int .flt .str (λn e _ r=>.tup (e.st s n).1 (e.st s n).2 r) (λn e _ r=>.lst (gX s n e).1 (gX s n e).2 r) (λn e=>.dcti (e.st s n).1 (e.st s n).2) (λn e=>.dcts (e.st s n).1 (e.st s n).2) .nil (λ_ _ a b=>.cons a b) r
theorem Step.sub (hn:∀b,N' b->N b):Step h N h N':=⟨λ_ _ _ e=>e,ah _,λ_ q=>.inl (hn _ q)⟩
theorem RVs.length (r:RVs h N vs ps):vs.length=ps.length:=by
 induction ps generalizing vs with
 | nil=>cases r;rfl
 | cons p ps ih=>cases r with | cons a b=>simp[ih b]
theorem RVs.append (r:RVs h N vs ps) (q:RVs h N ws qs):RVs h N (vs++ws) (ps++qs):=by
 induction ps generalizing vs with
 | nil=>cases r;exact q
 | cons p ps ih=>cases r with | cons a b=>exact .cons a (ih b)
theorem RVs.get{vs:List ag}{ps:List PV}(r:RVs h N vs ps){k:Nat}{p:PV}(hp:ps[k]?=some p):∃v,vs[k]?=some v/\RV h N v p:=by
 induction ps generalizing vs k with
 | nil=>trivial
 | cons q ps ih =>
  cases r with
  | cons a b =>
   cases k with
   | zero=>simp at hp;subst hp;exact(iea _ (by rfl) a)
   | succ k=>simp at hp;refine xea (ih b hp) λv hv hr=>?_;exact(iea v (by simpa using hv) hr)
theorem RVs.take (r:RVs h N vs ps) (k:Nat):RVs h N (vs.take k) (ps.take k):=by
 induction ps generalizing vs k with
 | nil=>cases r;simp;exact .nil
 | cons q ps ih =>
  cases r with
  | cons a b =>
   cases k with
   | zero=>simp;exact .nil
   | succ k=>simpa using .cons a (ih b k)
theorem RVs.drop (r:RVs h N vs ps) (k:Nat):RVs h N (vs.drop k) (ps.drop k):=by
 induction ps generalizing vs k with
 | nil=>cases r;simp;exact .nil
 | cons q ps ih =>
  cases r with
  | cons a b =>
   cases k with
   | zero=>simpa using .cons a b
   | succ k=>simpa using ih b k
theorem RVs.reverse (r:RVs h N vs ps):RVs h N vs.reverse ps.reverse:=by
 induction ps generalizing vs with
 | nil=>cases r;exact .nil
 | cons q ps ih=>cases r with | cons a b=>simpa using RVs.append (ih b) (.cons a .nil)
theorem RVs.one (a:RV h N v p):RVs h N [v] [p]:=.cons a .nil
theorem RVs.rep (r:RVs h N vs ps):∀k:Nat,RVs h N (af k vs).flatten (af k ps).flatten
 | 0=>.nil
 | k+1=>by simpa [cy] using RVs.append r (RVs.rep r k)
end
inductive RT (h:li) (N:Ap):ag->PV->Prop
 | none:RT h N .none .none
 | bool (b:Bool):RT h N (.bool b) (.bool b)
 | int (n:Int) (t:Tok):RT h N (.int n t) (.int n)
 | flt (x:UInt64) (t:Tok):t≠0->RT h N (.float x t) (.flt x)
 | str (s:Str) (t:Tok):RT h N (.str s t) (.str s)
 | tup{a:er}{vs:List ag}{l:List PV}:PlainTup h a vs.toArray->RVs h N vs l->RT h N (.ref a) (.tup l)
 | lst{a:er}{vs:List ag}{l:List PV}:h.PlainList a vs.toArray->RVs h N vs l->RT h N (.ref a) (.lst l)
 | dcti{a:er}{l:List (Int × SV)}:PlainDictI h a l->RT h N (.ref a) (.dcti l)
 | dcts{a:er}{l:List (Str × SV)}:PlainDictS h a l->RT h N (.ref a) (.dcts l)
inductive RTs (h:li) (N:Ap):List ag->List PV->Prop
 | nil:RTs h N [] []
 | cons{v:ag}{p:PV}{vs:List ag}{ps:List PV}:RT h N v p->RTs h N vs ps->RTs h N (v::vs) (p::ps)
theorem RV.rt (r:RV h N v p):RT h N v p:=by
 cases r with
 | none=>exact .none
 | bool b=>exact .bool b
 | int n t=>exact .int n t
 | flt x t ht=>exact .flt x t ht
 | str x t=>exact .str x t
 | tup a b c=>exact .tup b c
 | lst a b c=>exact .lst b c
 | dcti a b=>exact .dcti b
 | dcts a b=>exact .dcts b
noncomputable def PV.scalar:PV->Bool
 | .tup _=>false
 | .lst _=>false
 | .dcti _=>false
 | .dcts _=>false
 | _=>true
theorem RV.of_scalar (r:RV h N v p) (s:p.scalar=true):RV h' N' v p:=by
 cases r with
 | none=>exact .none
 | bool b=>exact .bool b
 | int n t=>exact .int n t
 | flt x t ht=>exact .flt x t ht
 | str x t=>exact .str x t
 | tup=>cases s
 | lst=>cases s
 | dcti=>cases s
 | dcts=>cases s
theorem Ext.refl (s:ai) (N:Ap):Ext s N s N:=⟨Step.refl _ _,λ_ _ e=>e,λx=>x,rfl,rfl,ah _⟩
theorem Ext.trans (a:Ext s N s' N') (b:Ext s' N' Jl N''):Ext s N Jl N'' :=
 ⟨a.step.trans b.step,λi g e=>b.gens i g (a.gens i g e),λx=>b.bare (a.bare x),b.os.trans a.os,b.drawn.trans a.drawn,aa a.toks b.toks⟩
theorem Pure.keep (x:Pure s s'):∀b o,s.heap.get? b=some o->s'.heap.get? b=some o:=λb o e=>x.step.keep b o (λq=>q) e
theorem Pure.stepAt (x:Pure s s') (N:Ap):Step s.heap N s'.heap N:=Step.of_keeps x.keep x.step.grow
theorem Pure.toks (s:ai) (ht:s.toks<=t:=by omega):Pure s {s with toks:=t}:=⟨Step.refl _ _,λ_ _ e=>e,λx=>x,rfl,rfl,ht⟩
theorem Pure.push (s:ai) (o:Obj) (ht:s.toks<=t:=by omega):Pure s {s with heap:=s.heap.push o,toks:=t} :=
 ⟨⟨λ_ _ _ e=>bw _ e,by simp[bm],λ_ q=>q.elim⟩,λ_ _ e=>e,λx=>x,rfl,rfl,ht⟩
theorem Pure.of_heap (k:∀b o,s.heap.get? b=some o->h.get? b=some o) (g:s.heap.objs.size<=h.objs.size) (ht:s.toks<=t:=by omega):Pure s {s with heap:=h,toks:=t} :=
 ⟨Step.of_keeps k g,λ_ _ e=>e,λx=>x,rfl,rfl,ht⟩
structure Room (A:dt) (k:Nat):Prop where
 hh:A.handled=oh
 depth:A.depth+k<900
 units:A.units+8*k<9000
theorem Room.le (r:Room A k) (h:j<=k):Room A j:=⟨r.hh,by have:=r.depth;exact fn3 (.y .ko .jW) [.x .r .s,.y (.A .q .s) .jW] h this,by have:=r.units;exact fn3 (.y (.A .q (.M .n8 .r)) .jk) [.X 8 .r .s,.y (.A .q (.M .n8 .s)) .jk] h this⟩
theorem Room.lim (r:Room A k):A.depth<recursionLimit:=by have:=r.depth;unfold recursionLimit;exact fn2 (.y .q .kj) [.y .ko .jW] this
theorem Room.line (r:Room A k):A.units<cLine:=by have:=r.units;unfold cLine;exact fn2 (.y .q (.N 9900)) [.y (.A .q (.M .n8 .r)) .jk] this
def RTd (h:li) (N:Ap) (v:ag):PV->Prop
 | .none=>v=.none
 | .bool b=>v=.bool b
 | .int n=>∃t,v=.int n t
 | .flt x=>∃t,v=.float x t/\t≠0
 | .str s=>∃t,v=.str s t
 | .tup l=>∃a vs,v=.ref a/\PlainTup h a vs.toArray/\RVs h N vs l
 | .lst l=>∃a vs,v=.ref a/\h.PlainList a vs.toArray/\RVs h N vs l
 | .dcti l=>∃a,v=.ref a/\PlainDictI h a l
 | .dcts l=>∃a,v=.ref a/\PlainDictS h a l
theorem RT.inv (r:RT h N v p):RTd h N v p:=by
 cases r with
 | none=>exact rfl
 | bool b=>exact rfl
 | int n t=>exact⟨t,rfl⟩
 | flt x t ht=>exact(iea t rfl ht)
 | str x t=>exact⟨t,rfl⟩
 | tup b c=>exact(bE _ _ rfl b c)
 | lst b c=>exact(bE _ _ rfl b c)
 | dcti b=>exact(iea _ rfl b)
 | dcts b=>exact(iea _ rfl b)
def RVd (h:li) (N:Ap) (v:ag):PV->Prop
 | .tup l=>∃a vs,v=.ref a/\¬N a/\PlainTup h a vs.toArray/\RVs h N vs l
 | .lst l=>∃a vs,v=.ref a/\¬N a/\h.PlainList a vs.toArray/\RVs h N vs l
 | .dcti l=>∃a,v=.ref a/\¬N a/\PlainDictI h a l
 | .dcts l=>∃a,v=.ref a/\¬N a/\PlainDictS h a l
 | p=>RTd h N v p
theorem RV.inv (r:RV h N v p):RVd h N v p:=by
 cases r with
 | none=>exact rfl
 | bool b=>exact rfl
 | int n t=>exact⟨t,rfl⟩
 | flt x t ht=>exact(iea t rfl ht)
 | str x t=>exact⟨t,rfl⟩
 | tup a b c=>exact(bW _ _ rfl a b c)
 | lst a b c=>exact(bW _ _ rfl a b c)
 | dcti a b=>exact(gE _ rfl a b)
 | dcts a b=>exact(gE _ rfl a b)
def RVsd (h:li) (N:Ap) (vs:List ag):List PV->Prop
 | []=>vs=[]
 | p::ps=>∃v vs',vs=v::vs'/\RV h N v p/\RVs h N vs' ps
theorem RVs.inv (r:RVs h N vs ps):RVsd h N vs ps:=by
 cases r with
 | nil=>exact rfl
 | cons a b=>exact(bE _ _ rfl a b)
theorem wS{G:Prop}(h:∀C:Prop,(G->C)->C):G:=h G id
theorem nn{α:Type}{r:α}{C:Prop}(h:oh=some r):C:=nomatch h
theorem nf{C:Prop}(h:false=true):C:=nomatch h
theorem sm{α:Type}{a r:α}(h:some a=some r):a=r:=io h
theorem aL{c:Prop}[Decidable c] {α:Type}{o:Option α}{r:α}(h:(if c then o else oh)=some r):c/\o=some r:=by
 by_cases hc:c
 ·rw[if_pos hc] at h;exact⟨hc,h⟩
 ·rw[if_neg hc] at h;exact nn h
theorem u8{c:Prop}[Decidable c] {α:Type}{o:Option α}{r:α}(h:(if c then oh else o)=some r):¬c/\o=some r:=by
 by_cases hc:c
 ·rw[if_pos hc] at h;exact nn h
 ·rw[if_neg hc] at h;exact⟨hc,h⟩
theorem aB (h:(a&&b)=true):a=true/\b=true:=by cases a <;> cases b <;> first | exact⟨rfl,rfl⟩ | cases h
noncomputable def lF (x:Int):Bool:=decide (-(2 ^ 62)<x)&&decide (x<2 ^ 62)
noncomputable def okF (n:Int):Bool:=!isInf (cr n)
def DU (x y:Int):iD->Option PV
 | .Add=>some (.int (x+y))
 | .Sub=>some (.int (x-y))
 | .Mult=>if lF x then some (.int (x*y)) else none
 | .FloorDiv=>if 0<y/\y<1000000000 then some (.int (x/y)) else none
 | .Mod=>if 0<y then some (.int (x%y)) else none
 | .Pow=>if 2<=x/\x<100/\0<=y/\y<100 then some (.int (x ^ y.toNat)) else none
 | .Div=>if 0<y/\pq (ofFrac (decide (x<0) != decide (y<0)) x.natAbs y.natAbs)=false then some (.flt (ofFrac (decide (x<0) != decide (y<0)) x.natAbs y.natAbs)) else none
 | _=>none
noncomputable def IG (x y:UInt64):iD->Option PV
 | .Add=>some (.flt (add x y))
 | .Sub=>some (.flt (ab x y))
 | .Mult=>some (.flt (mul x y))
 | .Div=>if bx y then none else some (.flt (div x y))
 | .Mod=>if bx y then none else some (.flt (bz x y).2)
 | _=>none
def S3 (x:UInt64) (y:Int):iD->Option PV
 | .Add=>if okF y then some (.flt (add x (cr y))) else none
 | .Sub=>if okF y then some (.flt (ab x (cr y))) else none
 | .Mult=>if okF y then some (.flt (mul x (cr y))) else none
 | .Div=>if okF y&&!isZero (cr y) then some (.flt (div x (cr y))) else none
 | _=>none
def S4 (x:Int) (y:UInt64):iD->Option PV
 | .Add=>if okF x then some (.flt (add (cr x) y)) else none
 | .Sub=>if okF x then some (.flt (ab (cr x) y)) else none
 | .Mult=>if okF x then some (.flt (mul (cr x) y)) else none
 | _=>none
noncomputable def S5 (x y:Str):Option PV:=if x.length+y.length<=100000 then some (.str (x++y)) else none
noncomputable def OL (x:Str) (y:Int):Option PV:=if x.length<=1000/\y<1000/\-1000<y then some (.str ⟨(af y.toNat x.cps.toList).flatten.toArray⟩) else none
noncomputable def VE (x y:List PV):Option PV:=if x.length+y.length<=100000 then some (.lst (x++y)) else none
noncomputable def OM (x:List PV) (y:Int):Option PV:=if x.length<=1000/\y<1000/\-1000<y then some (.lst (af y.toNat x).flatten) else none
noncomputable def VF (x:List PV) (y:Int):Option PV:=if x.length=1/\(y=3\/y=4) then some (.tup (af y.toNat x).flatten) else none
noncomputable def VG (x y:List PV):Option PV:=if x.length+y.length<=100000/\x.isEmpty=false/\y.isEmpty=false then some (.tup (x++y)) else none
noncomputable def rK (op:iD) (r:Option PV):Option PV:=match op with | .Add=>r | _=>none
noncomputable def rL (op:iD) (r:Option PV):Option PV:=match op with | .Mult=>r | _=>none
def dM (op:iD) (p q:PV):Option PV:=match p with
 | .int x=>(match q with | .int y=>DU x y op | .flt y=>S4 x y op | _=>none)
 | .flt x=>(match q with | .int y=>S3 x y op | .flt y=>IG x y op | _=>none)
 | .str x=>(match q with | .int y=>rL op (OL x y) | .str y=>rK op (S5 x y) | _=>none)
 | .lst x=>(match q with | .int y=>rL op (OM x y) | .lst y=>rK op (VE x y) | _=>none)
 | .tup x=>(match q with | .int y=>rL op (VF x y) | .tup y=>rK op (VG x y) | _=>none)
 | _=>none
def FreshL (h h':li) (N:Ap) (v:ag) (l:List PV):Prop :=
 ∃(a:er) (vs:List ag),v=.ref a/\h.objs.size<=a/\h'.PlainList a vs.toArray/\RVs h' (λb=>N b\/b=a) vs l
def Res (s s':ai) (N:Ap) (v:ag) (r:PV):Prop :=
 RV s'.heap N v r/\∀l,r=.lst l->FreshL s.heap s'.heap N v l
theorem Res.of_scalar (x:RV s'.heap N v r) (h:∀l,r≠.lst l):Res s s' N v r:=⟨x,λl e=>absurd e (h l)⟩
def Low (N:Ap) (h:li):Prop:=∀b,N b->b<h.objs.size
theorem RVs.avoid (k:∀b o,h.get? b=some o->h'.get? b=some o) (g:h.objs.size<=h'.objs.size) (r:RVs h N vs l) (ha:h.objs.size<=a):RVs h' (λb=>N b\/b=a) vs l :=
 r.step ⟨λb o _ e=>k b o e,g,λb hb=>hb.elim .inl λe=>.inr (e ▸ ha)⟩
section
variable{A:dt}{E:Vs}{s:ai}{N:Ap}
theorem pT{Q:Vs}{vs:List ag}{l:List PV}(hN:Low N s.heap) (r:RVs s.heap N vs l){t:Nat}(ht:s.toks<=t)
  (h:∀v s',Pure s s'->Res s s' N v (.lst l)->Q v s'):Q (.ref s.heap.objs.size) {s with heap:=s.heap.push {cls:=.type "list",data:=.seq vs.toArray},toks:=t}:=by
 have hk:∀b o,s.heap.get? b=some o->(s.heap.push {cls:=.type "list",data:=.seq vs.toArray}).get? b=some o:=λ_ _ e=>bw _ e;have hg:s.heap.objs.size<=(s.heap.push {cls:=.type "list",data:=.seq vs.toArray}).objs.size:=by simp[bm]
 have hp:(s.heap.push {cls:=.type "list",data:=.seq vs.toArray}).PlainList s.heap.objs.size vs.toArray:=⟨0,ci _ rfl⟩;refine h _ _ (Pure.push _ _ ht) ⟨.lst (λhn=>ii _ (hN _ hn)) hp (r.step (Step.of_keeps hk hg)),λl' e=>?_⟩;cases e;exact(bW _ vs rfl (ah _) hp (r.avoid hk hg (ah _)))
theorem rM{Q:Vs}{vs:List ag}{l:List PV}(hN:Low N s.heap) (r:RVs s.heap N vs l){t:Nat}(ht:s.toks<=t)
  (h:∀v s',Pure s s'->Res s s' N v (.tup l)->Q v s'):Q (.ref s.heap.objs.size) {s with heap:=s.heap.push {cls:=.type "tuple",data:=.seq vs.toArray},toks:=t}:=by
 have hk:∀b o,s.heap.get? b=some o->(s.heap.push {cls:=.type "tuple",data:=.seq vs.toArray}).get? b=some o:=λ_ _ e=>bw _ e;have hg:s.heap.objs.size<=(s.heap.push {cls:=.type "tuple",data:=.seq vs.toArray}).objs.size:=by simp[bm]
 have hp:PlainTup (s.heap.push {cls:=.type "tuple",data:=.seq vs.toArray}) s.heap.objs.size vs.toArray:=⟨0,ci _ rfl⟩;exact h _ _ (Pure.push _ _ ht) ⟨.tup (λhn=>ii _ (hN _ hn)) hp (r.step (Step.of_keeps hk hg)),λl' e=>by cases e⟩
theorem BD (h:lF x=true):-(2 ^ 62)<x/\x<2 ^ 62:=by
 unfold lF at h;simp only[ay,decide_eq_true_eq] at h;exact h
theorem fY{α:Type}(xs:Array α):∀(n:Nat) (acc:Array α),(af n xs).foldl (·++·) acc=acc++(af n xs.toList).flatten.toArray
 | 0,acc=>by rfl
 | n+1,acc=>by
  (refine O cy (O Dc ?_);rw[fY xs n];refine O cy (O mw ?_))
  apply Array.ext';simp
theorem IH (ht:0<t):Res s s' N (.float x t) (.flt x):=.of_scalar (.flt x t (cj ht)) λ_ e=>by cases e
theorem II:Res s s' N (.int x t) (.int x):=.of_scalar (.int x t) λ_ e=>by cases e
theorem IJ:Res s s' N (.str x t) (.str x):=.of_scalar (.str x t) λ_ e=>by cases e
set_option maxHeartbeats 1600000 in
set_option maxRecDepth 100000 in
theorem BE (l:er) (v:ag) (n:Nat) (u:Tok) :
  Hr (Fh.«tuple.__mul__» ⟨[.ref l,.int 3 u],[]⟩) (λ_ R s=>s.heap.get? l=some {cls:=.type "tuple",dict:=none,data:=.seq #[v] n,slots:=#[]} /\
   R (.ok (.ret (.ref s.heap.objs.size))) {s with heap:=s.heap.push {cls:=.type "tuple",data:=.seq #[v,v,v]},toks:=s.toks}) :=
 .of_wp λPg W0 A R s h=>by
  obtain⟨hp,g,d,tk,os⟩:=s;refine xa h λhl h=>?_;wp_walk;exact(iea _ rfl h)
set_option maxRecDepth 100000 in
theorem BF (l:er) (v:ag) (n:Nat) (u:Tok) :
  Hr (Fh.«tuple.__mul__» ⟨[.ref l,.int 4 u],[]⟩) (λ_ R s=>s.heap.get? l=some {cls:=.type "tuple",dict:=none,data:=.seq #[v] n,slots:=#[]} /\
   R (.ok (.ret (.ref s.heap.objs.size))) {s with heap:=s.heap.push {cls:=.type "tuple",data:=.seq #[v,v,v,v]},toks:=s.toks}) :=
 .of_wp λPg W0 A R s h=>by
  obtain⟨hp,g,d,tk,os⟩:=s;refine xa h λhl h=>?_;wp_walk;exact(iea _ rfl h)
set_option maxRecDepth 100000 in
theorem rN (a:Int) (t:Tok) (l:er) (items:Array ag) (n:Nat) :
  Hr (Fh.«int.__rmul__» ⟨[.int a t,.ref l],[]⟩) (λ_ R s=>s.heap.get? l=some {cls:=.type "tuple",dict:=none,data:=.seq items n,slots:=#[]}/\R (.ok (.ret ag.notImplemented)) s) :=
 .of_wp λPg W0 A R s h=>by obtain⟨hp,g,d,tk,os⟩:=s;refine xa h λhl h=>?_;wp_walk;exact(iea _ rfl h)
theorem o6:fillsNumberSlot (.type "tuple") "mul"=pure false :=
 PySem.fillsNumberSlot_seq (id:="tuple.__mul__") (r:=some (.builtin "tuple.__rmul__")) ut.lookup (by decide +kernel) Ar.lookup (by decide +kernel)
theorem wT:seqRepeat? (.type "tuple")=pure (some (.builtin "tuple.__mul__")):=by
 unfold seqRepeat?;refine O (Bu (T:="tuple") (name:="__mul__") (id:="tuple.__mul__") ut.lookup (by decide +kernel)) (O (Bu (T:="tuple") (name:="__rmul__") (id:="tuple.__rmul__") Ar.lookup (by decide +kernel)) ?_);rfl
theorem o7 (h:rK op o=some r):op=.Add/\o=some r:=by cases op <;> first | exact nn h | exact⟨rfl,h⟩
theorem o8 (h:rL op o=some r):op=.Mult/\o=some r:=by cases op <;> first | exact nn h | exact⟨rfl,h⟩
theorem scF (ht:0<t) (e:some (PV.flt x)=some r):Res s s' N (.float x t) r:=sm e ▸ IH ht
theorem scI (e:some (PV.int x)=some r):Res s s' N (.int x t) r:=sm e ▸ II
theorem scS (e:some (PV.str x)=some r) (h:x=y):Res s s' N (.str y t) r:=h ▸ sm e ▸ IJ
theorem yD (h:lF x=true):pi x<=64:=by
 have:=BD h;exact intBits_le_64 (fz1 (.t (.G (.P .n2 64)) .a) [.t (.G .jm) .a] this.1) (fz1 (.t .a (.P .n2 64)) [.t .a .jm] this.2)
theorem W1 (h:0<y/\y<1000000000):Fh.divisionGoesByPylong x y=false:=wd (fam [_] [_] (.y .q (.N 1073741824)) [.t .a (.N 1000000000),.e .q .a] h.2 (an (faz [_] (.l .n0 .a) [.t .n0 .a] h.1)))
theorem ON (hs:2<=x/\x<100/\0<=y/\y<100):¬xi (((pi x:Nat):Int)*y)=true:=by
 have h1:pi x<=64:=intBits_le_64 (fz1 (.t (.G (.P .n2 64)) .a) [.l .n2 .a] hs.1) (fz1 (.t .a (.P .n2 64)) [.t .a .jt] hs.2.1);have h2:((pi x:Nat):Int)*y<=64*100:=Int.mul_le_mul (fn1 (.l .q (.N 64)) [.x .q (.N 64)] h1) (dd hs.2.2.2) (hs.2.2.1) (fn0 (.l .n0 (.N 64)) []);unfold xi bitsLine;simp only[gt_iff_lt,decide_eq_true_eq,dr];exact fam [_] [_] (.l (.M .q .a) (.C (.P .n2 27))) [.l (.M .q .a) (.M (.N 64) .jt)] h2
theorem R7 (h:2<=x):¬(x==0||x==1)=true/\¬(x==-1)=true:=by simp;exact⟨⟨ew (fz1 (.t .n0 .a) [.l .n2 .a] h),ew (fz1 (.t .n1 .a) [.l .n2 .a] h)⟩,ew (fz1 (.t .kn .a) [.l .n2 .a] h)⟩
theorem VH{y:Int}(h:0<y):¬(y==0)=true:=by simp;exact ew (h)
theorem mY (h:okF x=true):¬pq (cr x)=true:=by simpa [okF] using h
theorem DV (h:(okF x&&!isZero (cr x))=true):¬pq (cr x)=true/\¬bx (cr x)=true:=⟨mY (aB h).1,by simpa using (aB h).2⟩
section
variable{x y:Int}{f g:UInt64}{t u:Tok}{r:PV}{Q:Vs}{op:iD}
theorem VI (h:DU x y .Pow=some r) (hQ:∀v s',Pure s s'->Res s s' N v r->Q v s'):wpAny (model Pg W0) A (binaryOp .Pow (.int x t) (.int y u)) Q E s:=by
 refine xa (aL h) λhs h=>?_
 by_cases Ot:y=0
 ·subst Ot;exact Hj (ia _) rfl (hQ _ _ (Pure.toks _) (scI ((Fd x) ▸ h)))
 exact Hk hs.2.2.1 (λe=>Ot (eq_of_beq e)) (R7 hs.1).1 (R7 hs.1).2 (ON hs) (hQ _ _ (Pure.toks _) (scI h))
theorem S6 (hT:0<s.toks) (h:DU x y op=some r) (hQ:∀v s',Pure s s'->Res s s' N v r->Q v s'):wpAny (model Pg W0) A (binaryOp op (.int x t) (.int y u)) Q E s:=by
 cases op <;> try (exact nn h)
 case Add=>exact Hl (hQ _ _ (Pure.toks _) (scI h))
 case Sub=>exact Hm (hQ _ _ (Pure.toks _) (scI h))
 case Mult=>exact Gf (hm:=Hn (yD (aL h).1)) (hQ _ _ (Pure.toks _) (scI (aL h).2))
 case FloorDiv=>exact floordiv_int (ew (aL h).1.1) (hQ _ _ (Pure.toks _) (tf x (dd (aL h).1.1) ▸ scI (aL h).2)) (Or.inl (W1 (aL h).1))
 case Mod=>exact Gg (ew (aL h).1) (hQ _ _ (Pure.toks _) (Int.fmod_eq_emod_of_nonneg x (dd (aL h).1) ▸ scI (aL h).2))
 case Pow=>exact VI h hQ
 case Div=>exact Gh (VH (aL h).1.1) (λe=>nf ((aL h).1.2.symm.trans e)) (hQ _ _ (Pure.toks _) (scF hT (aL h).2))
theorem S7 (hT:0<s.toks) (h:IG f g op=some r) (hQ:∀v s',Pure s s'->Res s s' N v r->Q v s'):wpAny (model Pg W0) A (binaryOp op (.float f t) (.float g u)) Q E s:=by
 cases op <;> try (exact nn h)
 case Add=>exact Gs (hQ _ _ (Pure.toks _) (scF hT h))
 case Sub=>exact Gu (hQ _ _ (Pure.toks _) (scF hT h))
 case Mult=>exact Gv (hQ _ _ (Pure.toks _) (scF hT h))
 case Div=>exact Fi (u8 h).1 (hQ _ _ (Pure.toks _) (scF hT (u8 h).2))
 case Mod=>exact Gw (u8 h).1 (hQ _ _ (Pure.toks _) (scF hT (u8 h).2))
theorem S8 (hT:0<s.toks) (h:S3 f y op=some r) (hQ:∀v s',Pure s s'->Res s s' N v r->Q v s'):wpAny (model Pg W0) A (binaryOp op (.float f t) (.int y u)) Q E s:=by
 cases op <;> try (exact nn h)
 case Add=>exact Fw (by exact O (if_neg (mY (aL h).1)) (hQ _ _ (Pure.toks _) (scF hT (aL h).2)))
 case Sub=>exact Fx (by exact O (if_neg (mY (aL h).1)) (hQ _ _ (Pure.toks _) (scF hT (aL h).2)))
 case Mult=>exact Fy (by exact O (if_neg (mY (aL h).1)) (hQ _ _ (Pure.toks _) (scF hT (aL h).2)))
 case Div=>exact Ek (by exact O (if_neg (DV (aL h).1).1) (O (if_neg (DV (aL h).1).2) (hQ _ _ (Pure.toks _) (scF hT (aL h).2))))
theorem S9 (hT:0<s.toks) (h:S4 x g op=some r) (hQ:∀v s',Pure s s'->Res s s' N v r->Q v s'):wpAny (model Pg W0) A (binaryOp op (.int x t) (.float g u)) Q E s:=by
 cases op <;> try (exact nn h)
 case Add=>exact Fz (by exact O (if_neg (mY (aL h).1)) (hQ _ _ (Pure.toks _) (scF hT (aL h).2)))
 case Sub=>exact Ga (by exact O (if_neg (mY (aL h).1)) (hQ _ _ (Pure.toks _) (scF hT (aL h).2)))
 case Mult=>exact Gb (by exact O (if_neg (mY (aL h).1)) (hQ _ _ (Pure.toks _) (scF hT (aL h).2)))
theorem OO{X Y:Str}(h:X.length=0):X++Y=Y:=by
 apply Gi;have Lv:X.cps.size=0:=h;simp[Dl,nh Lv]
theorem IK{X Y:Str}(h:Y.length=0):X++Y=X:=by
 apply Gi;have Lv:Y.cps.size=0:=h;simp[Dl,nh Lv]
theorem W2{X:Str}{y:Int}(h:y<=0):(⟨(af y.toNat X.cps.toList).flatten.toArray⟩:Str)=⟨#[]⟩:=by refine O (show y.toNat=0 by lia) ?_;rfl
theorem W3 (h:(y==1||X.length==0)=true):(⟨(af y.toNat X.cps.toList).flatten.toArray⟩:Str)=X:=by
 simp only[oc,beq_iff_eq] at h;apply Gi;rcases h with h | h
 ·subst h;simp
 ·have Lv:X.cps=#[]:=nh h;simp[Lv]
theorem VJ{X:Str}{y:Int}:(⟨(af y.toNat X.cps).foldl (·++·) #[]⟩:Str)=⟨(af y.toNat X.cps.toList).flatten.toArray⟩:=by
 refine O (fY ..) ?_;simp
theorem OP{X:Str}{y:Int}(hs:X.length<=1000/\y<1000/\-1000<y):X.length*y.toNat<=sizeLine/\((⟨(af y.toNat X.cps).foldl (·++·) #[]⟩:Str).length<=sizeLine):=by
 have h3:X.length*y.toNat<=1000*1000:=Dm (hs.1) (by lia);refine O VJ ?_;have:((af y.toNat X.cps.toList).flatten).length=y.toNat*X.cps.size:=by simp
 simp only[Str.length,List.size_toArray,this] at h3 ⊢;rw[iy y.toNat];unfold sizeLine;exact⟨fn2 (.x .jb (.P .n2 24)) [.x .jb (.M .kj .kj)] h3,fn2 (.x .jb (.P .n2 24)) [.x .jb (.M .kj .kj)] h3⟩
end
section
variable{x:Str}{y:Int}{t u:Tok}{r:PV}{l m:List PV}{a b:er}{vs us:List ag}{Q:Vs}
theorem sz5:100000<=sizeLine:=by decide
theorem VK{z:Str}(h:S5 x z=some r) (hQ:∀v s',Pure s s'->Res s s' N v r->Q v s'):wpAny (model Pg W0) A (binaryOp .Add (.str x t) (.str z u)) Q E s:=by
 refine xa (aL h) λhs h=>?_;refine P.add_str ?_;split
 ·rename_i hx;exact hQ _ _ (Ext.refl _ _) (scS h (OO (eq_of_beq hx)))
 ·split
  ·rename_i hy;exact hQ _ _ (Ext.refl _ _) (scS h (IK (eq_of_beq hy)))
  ·exact⟨by exact O (Str.length_append ..) (aa hs sz5),hQ _ _ (Pure.toks _) (scS h rfl)⟩
theorem VL (hs:k<=1000/\i<1000/\-1000<i):k*i.toNat<=1000000:=Dm hs.1 (qm.mpr (dd hs.2.1))
theorem TA{k:Nat}{y:Int}(hs:k<=1000/\y<1000/\-1000<y):¬y<1->(2 ^ 63-1)/y<(k:Int)->False:=by
 intro h1 h2;have:(1000:Int)<=(2 ^ 63-1)/y:=by
  exact O (propext (Int.le_ediv_iff_mul_le ((dr.mp h1)))) (fz1 (.l (.M .kj .a) (.S .ky .n1)) [.T 1000 .a .kj] hs.2.1)
 exact absurd (fam [_] [_] (.t .n0 .n0) [.x .q .kj,.t .a .q,.l .kj .a] hs.1 h2 this) (gn _)
theorem TB (h:OL x y=some r) (hQ:∀v s',Pure s s'->Res s s' N v r->Q v s'):wpAny (model Pg W0) A (binaryOp .Mult (.str x t) (.int y u)) Q E s:=by
 refine xa (aL h) λhs h=>?_;refine P.mul_str (by simp;exact⟨fz1 (.l (.G .jQ) .a) [.t (.G .kj) .a] hs.2.2,ir hs.2.1 (by decide)⟩) ?_ ?_ ?_
 ·intro h1 h2;exact λq=>TA hs h1 q
 ·intro h1 h2;have:=VL hs;simp only[zo,sizeLine,gt_iff_lt,decide_eq_false_iff_not,av];exact aa this (by decide)
 ·split
  ·rename_i h1;exact⟨by decide,hQ _ _ (Pure.toks _) (scS h (W2 (Int.lt_add_one_iff.mp h1)))⟩
  ·split
   ·rename_i h2;exact hQ _ _ (Ext.refl _ _) (scS h (W3 h2))
   ·exact⟨(OP hs).2,hQ _ _ (Pure.toks _) (scS h VJ.symm)⟩
theorem TC (h:some (PV.lst l)=some r) (hN:Low N s.heap) (rs:RVs s.heap N vs l) (ho:o=vs.toArray) (hQ:∀v s',Pure s s'->Res s s' N v r->Q v s') :
  Q (.ref s.heap.objs.size) {s with heap:=s.heap.push {cls:=.type "list",data:=.seq o}}:=by
 subst ho;exact pT (t:=s.toks) hN rs (ah _) (sm h ▸ hQ)
theorem VM (h:some (PV.tup l)=some r) (hN:Low N s.heap) (rs:RVs s.heap N vs l) (ho:o=vs.toArray) (hQ:∀v s',Pure s s'->Res s s' N v r->Q v s') :
  Q (.ref s.heap.objs.size) {s with heap:=s.heap.push {cls:=.type "tuple",data:=.seq o}}:=by
 subst ho;exact rM (t:=s.toks) hN rs (ah _) (sm h ▸ hQ)
theorem VN (hN:Low N s.heap) (pa:s.heap.PlainList a vs.toArray) (KE:RVs s.heap N vs l) (pb:s.heap.PlainList b us.toArray) (rsb:RVs s.heap N us m) (h:VE l m=some r)
  (hQ:∀v s',Pure s s'->Res s s' N v r->Q v s'):wpAny (model Pg W0) A (binaryOp .Add (.ref a) (.ref b)) Q E s:=by
 refine xa (aL h) λhs h=>?_;rw[<- KE.length,<- rsb.length] at hs;refine xe pa λn1 e1=>?_;clear pa;refine xe pb λn2 e2=>?_;exact P.add_list e1 e2 (TC h hN (KE.append rsb) (zp _ _) hQ) (aa hs sz5)
theorem yE (h:vs.length=l.length) (e:l.isEmpty=false) (q:vs.toArray.isEmpty=true):False:=by
 cases vs with
 | nil=>cases l with
  | nil=>cases e
  | cons=>cases h
 | cons=>trivial
theorem VO (hN:Low N s.heap) (pa:PlainTup s.heap a vs.toArray) (KE:RVs s.heap N vs l) (pb:PlainTup s.heap b us.toArray) (rsb:RVs s.heap N us m) (h:VG l m=some r)
  (hQ:∀v s',Pure s s'->Res s s' N v r->Q v s'):wpAny (model Pg W0) A (binaryOp .Add (.ref a) (.ref b)) Q E s:=by
 refine xa (aL h) λhs h=>?_;refine xe pa λn1 e1=>?_;clear pa;refine xe pb λn2 e2=>?_;clear pb;have hl:=hs.1;rw[<- KE.length,<- rsb.length] at hl;exact P.add_tuple e1 e2 (λq=>yE KE.length hs.2.1 q) (λq=>yE rsb.length hs.2.2 q) (VM h hN (KE.append rsb) (zp _ _) hQ) (aa hl sz5)
theorem IL:List.foldl (λx1 x2=>x1++x2) #[] (af (if vs.toArray.isEmpty=true then 0 else y.toNat) vs.toArray)=(af y.toNat vs).flatten.toArray:=by
 refine O (fY ..) ?_;cases vs with
 | nil=>simp
 | cons v vs=>simp
theorem TD (hN:Low N s.heap) (pa:s.heap.PlainList a vs.toArray) (KE:RVs s.heap N vs l) (h:OM l y=some r)
  (hQ:∀v s',Pure s s'->Res s s' N v r->Q v s'):wpAny (model Pg W0) A (binaryOp .Mult (.ref a) (.int y u)) Q E s:=by
 refine xa (aL h) λhs h=>?_;rw[<- KE.length] at hs;have h3:=VL hs;refine xe pa λn1 e1=>?_;exact wpAny_binaryOp_repeat_ref (T:="list") (U:="int") (by decide) (iea _ e1 rfl) (λs'=>typeIs_int s' _ _) noFill_list_mul Dd rr repeat_list Bv.lookup
   (call_meets rr (typeIs_int s _ _) Bw (As _ _) (int___rmul___int_list _ _ _ _ _)
    ⟨e1,rfl,(iea _ e1 rfl),call_meets F.slot_list_mul (iea _ e1 rfl) F.entry_list_mul (F.args_list_mul_2 _ _)
     (Am _ _ _ _ _ (by simp[Dp];exact⟨fz1 (.l (.G .jQ) .a) [.t (.G .kj) .a] hs.2.2,ir hs.2.1 (by decide)⟩) (by simp;exact aa h3 (by decide)) (by simp[Ep,sizeLine];exact aa h3 (by decide)))
     ⟨e1,TC h hN (KE.rep y.toNat) IL hQ⟩⟩)
theorem VP (hN:Low N s.heap) (pa:PlainTup s.heap a vs.toArray) (KE:RVs s.heap N vs l) (h:VF l y=some r)
  (hQ:∀v s',Pure s s'->Res s s' N v r->Q v s'):wpAny (model Pg W0) A (binaryOp .Mult (.ref a) (.int y u)) Q E s:=by
 refine xa (aL h) λhs h=>?_;refine xe pa λn1 e1=>?_;clear pa;obtain⟨v,rfl⟩:∃v,vs=[v]:=ly.mp (KE.length.trans hs.1);have key:∀{o:Array ag},Hr (Fh.«tuple.__mul__» ⟨[.ref a,.int y u],[]⟩) (λ_ R s=>s.heap.get? a=some {cls:=.type "tuple",dict:=none,data:=.seq #[v] n1,slots:=#[]} /\
   R (.ok (.ret (.ref s.heap.objs.size))) {s with heap:=s.heap.push {cls:=.type "tuple",data:=.seq o},toks:=s.toks})->o=(af y.toNat [v]).flatten.toArray->wpAny (model Pg W0) A (binaryOp .Mult (.ref a) (.int y u)) Q E s:=λm e =>
  wpAny_binaryOp_repeat_ref (T:="tuple") (U:="int") (by decide) (iea _ e1 rfl) (λs'=>typeIs_int s' _ _) o6 Dd rr wT Bv.lookup
    (call_meets rr (typeIs_int s _ _) Bw (As _ _) (rN _ _ _ _ _)
     (cS e1 rfl (iea _ e1 rfl) (call_meets ut (iea _ e1 rfl) F.entry_tuple_mul (F.args_tuple_mul_2 _ _) m ⟨e1,VM h hN (KE.rep y.toNat) e hQ⟩)))
 rcases hs.2 with rfl | rfl
 ·exact key (BE _ _ _ _) rfl
 ·exact key (BF _ _ _ _) rfl
end
set_option maxHeartbeats 1000000 in
theorem FN (R:Room A k) (hT:0<s.toks) (hN:Low N s.heap) (ra:RT s.heap N a p) (rb:RT s.heap N b q) (h:dM op p q=some r)
  (hQ:∀v s',Pure s s'->Res s s' N v r->Q v s'):wpAny (model Pg W0) A (binaryOp op a b) Q E s:=by
 have ra:=ra.inv;have rb:=rb.inv;clear R;cases p <;> try (exact nn h)
 case int x =>
  apply xeR ra;intro t;clear ra;cases q <;> try (exact nn h)
  ·apply xeR rb;intro u;exact S6 hT (show DU _ _ op=some r from h) hQ
  ·apply xer rb;intro u _;exact S9 hT (show S4 _ _ op=some r from h) hQ
 case flt x =>
  apply xer ra;intro t _;clear ra;cases q <;> try (exact nn h)
  ·apply xeR rb;intro u;exact S8 hT (show S3 _ _ op=some r from h) hQ
  ·apply xer rb;intro u _;exact S7 hT (show IG _ _ op=some r from h) hQ
 case str x =>
  apply xeR ra;intro t;clear ra;cases q <;> try (exact nn h)
  ·apply xeR rb;intro u;clear rb;apply xr (o8 (show rL op _=some r from h));intro h;exact TB h hQ
  ·apply xeR rb;intro u;clear rb;apply xr (o7 (show rK op _=some r from h));intro h;exact VK h hQ
 case tup l =>
  apply dP ra;intro a vs pa KE;clear ra;cases q <;> try (exact nn h)
  ·apply xeR rb;intro u;clear rb;apply xr (o8 (show rL op _=some r from h));intro h;exact VP hN pa KE h hQ
  ·apply dP rb;intro _ _ pb rsb;clear rb;apply xr (o7 (show rK op _=some r from h));intro h;exact VO hN pa KE pb rsb h hQ
 case lst l =>
  apply dP ra;intro a vs pa KE;clear ra;cases q <;> try (exact nn h)
  ·apply xeR rb;intro u;clear rb;apply xr (o8 (show rL op _=some r from h));intro h;exact TD hN pa KE h hQ
  ·apply dP rb;intro _ _ pb rsb;clear rb;apply xr (o7 (show rK op _=some r from h));intro h;exact VN hN pa KE pb rsb h hQ
end
noncomputable def mK (f:PV->PV->Option Bool):List PV->List PV->Option Bool
 | [],[]=>some true
 | a::l,b::m=>match f a b,mK f l m with
  | some x,some y=>some (x&&y)
  | _,_=>none
 | [],_::_=>some false
 | _::_,[]=>some false
def mZ (f:Option (PV->PV->Option Bool)) (p q:PV):Option Bool:=match p with
 | .none=>(match q with | .none=>some true | _=>none)
 | .bool a=>(match q with | .bool b=>some (a==b) | _=>none)
 | .int a=>(match q with | .int b=>some (a==b) | _=>none)
 | .str a=>(match q with | .str b=>some (a==b) | _=>none)
 | .flt a=>(match q with | .flt b=>(if eo a b==some nw then some true else none) | _=>none)
 | .tup a=>(match q with | .tup b=>(match f with | some f=>(if a.length==b.length then mK f a b else none) | none=>none) | _=>none)
 | .lst a=>(match q with | .lst b=>(match f with | some f=>(if a.length==b.length then mK f a b else some false) | none=>none) | _=>none)
 | _=>none
def eqF:Nat->PV->PV->Option Bool
 | 0=>mZ none
 | n+1=>mZ (some (eqF n))
def eqP:Nat->Option (PV->PV->Option Bool)
 | 0=>none
 | n+1=>some (eqF n)
theorem yF (n:Nat):eqF n=mZ (eqP n):=by cases n <;> rfl
set_option tactic.hygienic true in
theorem gZ{f:Option (PV->PV->Option Bool)}{p q:PV}{r:Bool}{C:PV->PV->Bool->Prop}(h:mZ f p q=some r) (h0:C .none .none true) (h1:∀a b,C (.bool a) (.bool b) (a==b)) (h2:∀a b,C (.int a) (.int b) (a==b))
  (h3:∀a b,C (.str a) (.str b) (a==b)) (h4:∀x y,(eo x y==some nw)=true->C (.flt x) (.flt y) true) (h5:∀g l m,f=some g->l.length=m.length->mK g l m=some r->C (.tup l) (.tup m) r)
  (h6:∀g l m,f=some g->l.length=m.length->mK g l m=some r->C (.lst l) (.lst m) r) (h7:∀l m,l.length≠m.length->C (.lst l) (.lst m) false):C p q r:=by
 cases p <;> try (exact nn h)
 case none =>
  cases q <;> try (exact nn h)
  exact sm h ▸ h0
 case bool =>
  cases q <;> try (exact nn h)
  exact sm h ▸ h1 _ _
 case int =>
  cases q <;> try (exact nn h)
  exact sm h ▸ h2 _ _
 case str =>
  cases q <;> try (exact nn h)
  exact sm h ▸ h3 _ _
 case flt =>
  cases q <;> try (exact nn h)
  exact sm (aL h).2 ▸ h4 _ _ (aL h).1
 case tup =>
  cases q <;> try (exact nn h)
  cases f with
  | none=>exact nn h
  | some g=>exact h5 g _ _ rfl (eq_of_beq (aL h).1) (aL h).2
 case lst l =>
  cases q <;> try (exact nn h)
  rename_i m;cases f with
  | none=>exact nn h
  | some g =>
   have h:(if l.length==m.length then mK g l m else some false)=some r:=h
   by_cases hl:l.length=m.length
   ·rw[if_pos (beq_iff_eq.mpr hl)] at h;exact h6 g _ _ rfl hl h
   ·rw[if_neg (λq=>hl (eq_of_beq q))] at h;exact sm h ▸ h7 _ _ hl
noncomputable def mL (f:PV->Option Bool):List PV->Option Bool
 | []=>some false
 | a::l=>match f a,mL f l with
  | some x,some y=>some (x||y)
  | _,_=>none
def inF (p q:PV):Option Bool:=match q with
 | .str x=>(match p with | .str y=>some !(dc x y 0 x.length 1).isEmpty | _=>none)
 | .tup l=>if l.all PV.scalar then mL (λy=>eqF 0 y p) l else none
 | .lst l=>if l.all PV.scalar then mL (λy=>eqF 0 y p) l else none
 | .dcts l=>(match p with | .str k=>some (l.lookup k).isSome | _=>none)
 | _=>none
def VQ (p q:PV):Option Bool:=match q with
 | .str x=>(match p with | .str y=>some (!(!(dc x y 0 x.length 1).isEmpty)) | _=>none)
 | .tup l=>if l.all PV.scalar then(mL (λy=>eqF 0 y p) l).map (!·) else none
 | .lst l=>if l.all PV.scalar then(mL (λy=>eqF 0 y p) l).map (!·) else none
 | .dcts l=>(match p with | .str k=>some (!(l.lookup k).isSome) | _=>none)
 | _=>none
noncomputable def IM (f:Int->Int->Bool) (g:UInt64->UInt64->Bool) (p q:PV):Option Bool:=match p with
 | .int a=>(match q with | .int b=>some (f a b) | _=>none)
 | .flt a=>(match q with | .flt b=>some (g a b) | _=>none)
 | _=>none
noncomputable def isF (p q:PV):Option Bool:=match p with
 | .bool a=>(match q with | .bool b=>some (a==b) | _=>none)
 | .none=>(match q with | .none=>some true | _=>none)
 | .int _=>(match q with | .none=>some false | _=>none)
 | _=>none
noncomputable def VR (p q:PV):Option Bool:=match p with
 | .bool a=>(match q with | .bool b=>some (!(a==b)) | _=>none)
 | _=>none
def TG (p q:PV):Option Bool:=match p with
 | .flt a=>(match q with | .flt b=>some (eo a b==some nw) | q=>eqF 3 (.flt a) q)
 | p=>eqF 3 p q
def bF (op:Ey) (p q:PV):Option Bool:=match op with
 | .Is=>isF p q
 | .IsNot=>VR p q
 | .Eq=>TG p q
 | .NotEq=>(eqF 3 p q).map (!·)
 | .Lt=>IM (λa b=>decide (a<b)) (λa b=>eo a b==some Cm) p q
 | .LtE=>IM (λa b=>decide (a<=b)) (λa b=>eo a b==some Cm||eo a b==some nw) p q
 | .Gt=>IM (λa b=>decide (a>b)) (λa b=>eo a b==some Cn) p q
 | .GtE=>IM (λa b=>decide (a>=b)) (λa b=>eo a b==some Cn||eo a b==some nw) p q
 | .In=>inF p q
 | .NotIn=>VQ p q
section
variable{h:li}{N:Ap}
theorem DW (h:Bx a=Bx b):a=b:=by cases h;rfl
theorem DX (h:some ({cls:=c,data:=.seq x n}:Obj)=some {cls:=c,data:=.seq y m}):x=y:=by cases h;rfl
theorem IP (a:RV h N v (.tup p)) (b:RV h N v (.tup q)):∃vs,RVs h N vs p/\RVs h N vs q:=by
 obtain⟨x,vs,rfl,_,⟨n,e1⟩,r1⟩:=a.inv;obtain⟨y,us,e,_,⟨m,e2⟩,r2⟩:=b.inv;rw[DW e,e2] at e1;have e:us=vs:=congrArg Fj (DX e1);exact(iea vs r1 (e ▸ r2))
theorem nU (a:RV h N v (.lst p)) (b:RV h N v (.lst q)):∃vs,RVs h N vs p/\RVs h N vs q:=by
 obtain⟨x,vs,rfl,_,⟨n,e1⟩,r1⟩:=a.inv;obtain⟨y,us,e,_,⟨m,e2⟩,r2⟩:=b.inv;rw[DW e,e2] at e1;have e:us=vs:=congrArg Fj (DX e1);exact(iea vs r1 (e ▸ r2))
theorem IQ (p:RV h N v (.int a)) (q:RV h N v (.int b)):a=b:=by
 refine xe p.inv λt aT=>?_;subst aT;refine xe q.inv λu e=>?_;cases e;rfl
theorem IR (p:RV h N v (.str a)) (q:RV h N v (.str b)):a=b:=by
 refine xe p.inv λt aT=>?_;subst aT;refine xe q.inv λu e=>?_;cases e;rfl
theorem FO (p:RV h N v (.bool a)) (q:RV h N v (.bool b)):a=b:=by
 have e:=p.inv.symm.trans q.inv;cases e;rfl
theorem u9 (h:mK f (a::l) (b::m)=some r):∃x y,f a b=some x/\mK f l m=some y/\(x&&y)=r:=by
 have h:(match f a b,mK f l m with | some x,some y=>some (x&&y) | _,_=>none)=some r:=h;revert h;cases f a b with
 | none=>exact nn
 | some x=>cases mK f l m with
  | none=>exact nn
  | some y=>exact λh=>(bE x y rfl rfl (sm h))
theorem rO (hf:∀(v:ag) (p q:PV) (b:Bool),RV h N v p->RV h N v q->f p q=some b->b=true):∀(ps qs:List PV) (vs:List ag) (b:Bool),RVs h N vs ps->RVs h N vs qs->mK f ps qs=some b->b=true:=by
 intro ps
 induction ps with
 | nil =>
  intro qs vs b r1 r2 e;cases r1;cases r2;exact(sm e).symm
 | cons p ps ih =>
  intro qs vs b r1 r2 e;cases r1 with
  | cons a r1=>cases r2 with
   | cons c r2 =>
    apply wR (u9 e);intro x y hx hy;refine O (hf _ _ _ _ a c hx) (O (ih _ _ _ r1 r2 hy) ?_);rfl
theorem yG (n:Nat):∀(v:ag) (p q:PV) (b:Bool),RV h N v p->RV h N v q->eqF n p q=some b->b=true:=by
 induction n using Nat.strongRecOn with
 | ind n ih =>
  intro v p q b r1 r2 e;rw[yF] at e;have up:∀{g:PV->PV->Option Bool},eqP n=some g->∃k,k<n/\g=eqF k:=λ{g} hg=>by
   cases n with
   | zero=>exact nn hg
   | succ n=>exact(iea n (dh n) ((sm hg).symm))
  refine gZ (C:=λp q b=>RV h N v p->RV h N v q->b=true) e ?_ ?_ ?_ ?_ ?_ ?_ ?_ ?_ r1 r2
  ·exact λ_ _=>rfl
  ·exact λa b p q=>beq_iff_eq.mpr (FO p q)
  ·exact λa b p q=>beq_iff_eq.mpr (IQ p q)
  ·exact λa b p q=>beq_iff_eq.mpr (IR p q)
  ·exact λ_ _ _ _ _=>rfl
  ·intro g l m hg _ h5 p q;refine xea (up hg) λk hk aT=>?_;subst aT;refine xea (IP p q) λvs a b=>?_;exact rO (ih k hk) _ _ _ _ a b h5
  ·intro g l m hg _ h5 p q;refine xea (up hg) λk hk aT=>?_;subst aT;refine xea (nU p q) λvs a b=>?_;exact rO (ih k hk) _ _ _ _ a b h5
  ·intro l m hl p q;refine xea (nU p q) λvs a b=>?_;exact absurd (a.length.symm.trans b.length) hl
end
theorem Room.in1 (r:Room A (k+1)):Room A.in1 k:=⟨r.hh,by have:=r.depth;dsimp only[uu];exact fn2 (.y .ko .jW) [.y .kO .jW] this,by have:=r.units;dsimp only[uv];exact fn2 (.y (.A .kc (.M .n8 .r)) .jk) [.y (.A .q (.M .n8 .ke)) .jk] this⟩
def NoShare (h:li):Prop:=∃mc,h.Ns cStatics mc/\mc sharingNotToldKey=none
theorem NoShare.keeps (x:NoShare h) (k:∀b o,h.get? b=some o->h'.get? b=some o):NoShare h':=let ⟨mc,a,b⟩:=x;⟨mc,a.keeps k,b⟩
theorem mP (Ic:NoShare s.heap) (h:Q false s):wpAny M A (sharingNotTold t) Q E s:=by
 refine xea Ic λmc hn hm=>?_;clear Ic;unfold sharingNotTold;refine bh (wpAny_nsGet hn ?_);exact O hm (cu h)
open SeqAt in
theorem rP (Ic:NoShare s.heap) (ht:t≠0) (hu:u≠0) (he:(eo x y==some nw)=true):EqAt A s (.float x t) (.float y u) true:=by
 intro Pg W0 E Q h;unfold eqBool;refine wpAny_holding ?_;have tail:wpAny (model Pg W0) A (do truthOfDropped (<- richCompare .Eq (.float x t) (.float y u))) Q E s :=
  bh (ua (Q:=λv s'=>wpAny (model Pg W0) A (truthOfDropped v) Q E s') (wpAny_truthy_bool (by exact O he h)))
 by_cases hb:(oi x t==oi y u)=true
 ·exact O (if_pos hb) (bh (wpAny_rule (cu h)))
 ·refine O (if_neg hb) (bh ?_);have hz:(t==0||u==0)=false:=by simp[ht,hu]
  show wpAny (model Pg W0) A (Dq (x==y&&!Float64.isNaN x) t u) _ E s;unfold Dq;refine O hz ?_
  dsimp only[aw,if_false]
  have aV:∀b:Bool,wpAny (model Pg W0) A (if b=true then pure true else(do truthOfDropped (<- richCompare .Eq (.float x t) (.float y u)))) Q E s:=by
   intro b;cases b with
   | true=>exact cu h
   | false=>exact tail
  by_cases X1:(t==u)=true
  ·exact O (if_pos X1) (cu (aV true))
  ·refine O (if_neg X1) ?_
   by_cases Va:(!(x==y&&!Float64.isNaN x))=true
   ·exact O (if_pos Va) (cu (aV false))
   ·refine O (if_neg Va) (bh (mP Ic ?_));simp only[aw,if_false];refine bh (mP Ic ?_);simp only[aw,if_false];exact bh (wpAny_rule (bh (wpAny_askSetting (cu (aV _)))))
theorem PlainTup.isTuple (x:PlainTup h a items):h.IsTuple a items:=let ⟨n,e⟩:=x;(gE _ e rfl ⟨n,rfl⟩)
theorem yH:∀{m:List PV}{b:Bool},l.length=m.length->mK f l m=some b ->
  ∃e:Nat->Bool,(∀j p q,l[j]?=some p->m[j]?=some q->f p q=some (e j))/\b=(cv l.length).all e:=by
 induction l with
 | nil =>
  intro m b hl h;cases m with
  | nil=>exact(iea (λ_=>true) (λj p q hp=>nn hp) ((sm h).symm))
  | cons=>cases hl
 | cons a l ih =>
  intro m b hl h;cases m with
  | nil=>cases hl
  | cons c m =>
   apply wR (u9 h);intro x y hx hy;refine xea (ih (sr hl) hy) λe h1 h2=>?_;refine(iea (λj=>Nat.rec x (λj _=>e j) j) (λj p q hp hq=>?_) ?_)
   ·cases j with
    | zero=>exact sm hp ▸ sm hq ▸ hx
    | succ j=>exact h1 j p q hp hq
   ·refine O h2 (O db (O qo (O List.all_cons (O su ?_))));rfl
section
open SeqAt
variable{s:ai}{N:Ap}
theorem nV{f:PV->PV->Option Bool}{B:dt}(hf:∀(v u:ag) (p q:PV) (b:Bool),RV s.heap N v p->RV s.heap N u q->f p q=some b->EqAt B s v u b){vs us:List ag}{l m:List PV}{e:Nat->Bool}(ra:RVs s.heap N vs l) (rc:RVs s.heap N us m)
  (h1:∀j p q,l[j]?=some p->m[j]?=some q->f p q=some (e j)) (j:Nat) (h3:j<vs.toArray.size) (h4:j<us.toArray.size):EqAt B s vs.toArray[j] us.toArray[j] (e j):=by
 refine xea (ra.get (bk (ra.length ▸ h3:j<l.length))) λv' Sv Lq=>?_;refine xea (rc.get (bk (rc.length ▸ h4:j<m.length))) λu' Zh ru'=>?_;have e1:vs.toArray[j]=v':=(de.mp Sv).2;have e2:us.toArray[j]=u':=(de.mp Zh).2;exact O e1 (O e2 (hf _ _ _ _ _ Lq ru' (h1 j _ _ (bk _) (bk _))))
theorem OQ{e:Nat->Bool}{vs us:List ag}{l m:List PV}(l1:vs.length=l.length) (l2:us.length=m.length) (hl:l.length=m.length) :
  ((cv (min vs.toArray.size us.toArray.size)).all e&&vs.toArray.size==us.toArray.size)=(cv l.length).all e:=by
 simp[l1,l2,hl]
theorem IS{f:PV->PV->Option Bool}{A:dt}(hu:A.units<cLine) (hf:∀(v u:ag) (p q:PV) (b:Bool),RV s.heap N v p->RV s.heap N u q->f p q=some b->EqAt A.in1 s v u b){a c:er}{vs us:List ag}{l m:List PV}{b:Bool}
  (pa:PlainTup s.heap a vs.toArray) (ra:RVs s.heap N vs l) (pc:PlainTup s.heap c us.toArray) (rc:RVs s.heap N us m) (hl:l.length=m.length) (h:mK f l m=some b):RcAt A s (.ref a) (.ref c) b/\RcNeAt A s (.ref a) (.ref c) (!b):=by
 apply VC (yH hl h);intro e h1;exact XO (OQ ra.length rc.length hl) ⟨RcAt.tuples pa.isTuple pc.isTuple hu (nV hf ra rc h1),RcNeAt.tuples pa.isTuple pc.isTuple hu (nV hf ra rc h1)⟩
theorem IT{f:PV->PV->Option Bool}{A:dt}(hu:A.units<cLine) (hf:∀(v u:ag) (p q:PV) (b:Bool),RV s.heap N v p->RV s.heap N u q->f p q=some b->EqAt A.in1 s v u b){a c:er}{vs us:List ag}{l m:List PV}{b:Bool}
  (pa:s.heap.PlainList a vs.toArray) (ra:RVs s.heap N vs l) (pc:s.heap.PlainList c us.toArray) (rc:RVs s.heap N us m) (hl:l.length=m.length) (h:mK f l m=some b):RcAt A s (.ref a) (.ref c) b/\RcNeAt A s (.ref a) (.ref c) (!b):=by
 apply VC (yH hl h);intro e h1;have hs:vs.toArray.size=us.toArray.size:=ra.length.trans (hl.trans rc.length.symm);exact XO ra.length ⟨RcAt.lists pa.isList pc.isList hs hu (nV hf ra rc h1),RcNeAt.lists pa.isList pc.isList hs hu (nV hf ra rc h1)⟩
theorem BG (hu:A.units<cLine) (pa:s.heap.PlainList a vs.toArray) (ra:RVs s.heap N vs l) (pc:s.heap.PlainList c us.toArray) (rc:RVs s.heap N us m) (hl:l.length≠m.length) :
  RcAt A s (.ref a) (.ref c) false/\RcNeAt A s (.ref a) (.ref c) true:=by
 have hs:(vs.toArray.size != us.toArray.size)=true:=bne_iff_ne.mpr λq=>hl (ra.length.symm.trans (Dr q rc.length));exact⟨RcAt.lists_lengths pa.isList pc.isList hs hu,RcNeAt.lists_lengths pa.isList pc.isList hs hu⟩
theorem m7 (Ic:NoShare s.heap):∀(n:Nat){A:dt}{v u:ag}{p q:PV}{b:Bool},Room A n->RV s.heap N v p->RV s.heap N u q->eqF n p q=some b->EqAt A s v u b:=by
 intro n
 induction n with
 | zero =>
  intro A v u p q b R rv ru h;refine gZ (C:=λp q b=>RV s.heap N v p->RV s.heap N u q->EqAt A s v u b) (show mZ none p q=some b from h) ?_ ?_ ?_ ?_ ?_ (λ_ _ _ e=>nn e) (λ_ _ _ e=>nn e) ?_ rv ru
  ·exact λa b=>a.inv ▸ b.inv ▸ EqAt.same _
  ·exact λx y a b=>a.inv ▸ b.inv ▸ EqAt.bool_bool x y
  ·exact λx y a b=>by refine xe a.inv λ_ aT=>?_;subst aT;refine xe b.inv λ_ aT=>?_;subst aT;exact EqAt.int_int _ _ _ _
  ·exact λx y a b=>by refine xe a.inv λ_ aT=>?_;subst aT;refine xe b.inv λ_ aT=>?_;subst aT;exact(eqGives_str _ _ _ _).at _ _
  ·exact λx y e a b=>by refine xea a.inv λ_ aT h1=>?_;subst aT;refine xea b.inv λ_ aT h2=>?_;subst aT;exact rP Ic h1 h2 e
  ·intro l m hl a b;refine cC a.inv λ_ _ aT _ pa ra=>?_;subst aT;refine cC b.inv λ_ _ aT _ pb rb=>?_;subst aT;refine EqAt.of_refs (λe=>?_) (BG R.line pa ra pb rb hl).1;subst e;refine xea (nU a b) λvs x y=>?_;exact hl (x.length.symm.trans y.length)
 | succ n ih =>
  intro A v u p q b R rv ru h;have hf:∀(v u:ag) (p q:PV) (b:Bool),RV s.heap N v p->RV s.heap N u q->eqF n p q=some b->EqAt A.in1 s v u b:=λ_ _ _ _ _ a b e=>ih R.in1 a b e;refine gZ (C:=λp q b=>RV s.heap N v p->RV s.heap N u q->eqF (n+1) p q=some b->EqAt A s v u b) (show mZ (some (eqF n)) p q=some b from h) ?_ ?_ ?_ ?_ ?_ ?_ ?_ ?_ rv ru h
  ·exact λa b _=>a.inv ▸ b.inv ▸ EqAt.same _
  ·exact λx y a b _=>a.inv ▸ b.inv ▸ EqAt.bool_bool x y
  ·exact λx y a b _=>by refine xe a.inv λ_ aT=>?_;subst aT;refine xe b.inv λ_ aT=>?_;subst aT;exact EqAt.int_int _ _ _ _
  ·exact λx y a b _=>by refine xe a.inv λ_ aT=>?_;subst aT;refine xe b.inv λ_ aT=>?_;subst aT;exact(eqGives_str _ _ _ _).at _ _
  ·exact λx y e a b _=>by refine xea a.inv λ_ aT h1=>?_;subst aT;refine xea b.inv λ_ aT h2=>?_;subst aT;exact rP Ic h1 h2 e
  ·intro g l m hg hl h5 a b h;cases hg;refine cC a.inv λx _ aT _ pa ra=>?_;subst aT;refine cC b.inv λy _ aT _ pb rb=>?_;subst aT
   by_cases e:x=y
   ·subst e;exact O (yG _ _ _ _ _ a b h) (EqAt.same _)
   ·exact EqAt.of_refs e (IS R.line hf pa ra pb rb hl h5).1
  ·intro g l m hg hl h5 a b h;cases hg;refine cC a.inv λx _ aT _ pa ra=>?_;subst aT;refine cC b.inv λy _ aT _ pb rb=>?_;subst aT
   by_cases e:x=y
   ·subst e;exact O (yG _ _ _ _ _ a b h) (EqAt.same _)
   ·exact EqAt.of_refs e (IT R.line hf pa ra pb rb hl h5).1
  ·intro l m hl a b h;refine cC a.inv λx _ aT _ pa ra=>?_;subst aT;refine cC b.inv λy _ aT _ pb rb=>?_;subst aT;refine EqAt.of_refs (λe=>?_) (BG R.line pa ra pb rb hl).1;subst e;refine xea (nU a b) λvs x y=>?_;exact hl (x.length.symm.trans y.length)
end
section
open SeqAt
variable{s:ai}{N:Ap}
theorem TH (h:(eo x y==some nw)=true):RcAt A s (.float x t) (.float y u) true/\RcNeAt A s (.float x t) (.float y u) false :=
 ⟨λPg W0 E Q hq=>ua (by exact O h hq),λPg W0 E Q hq=>He (by refine O (eq_of_beq h) ?_;exact hq)⟩
theorem rQ (Ic:NoShare s.heap) (n:Nat) (R:Room A n) (rv:RT s.heap N v p) (ru:RT s.heap N u q) (h:eqF n p q=some b):RcAt A s v u b/\RcNeAt A s v u (!b):=by
 have up:∀{g:PV->PV->Option Bool},eqP n=some g->∀(v u:ag) (p q:PV) (b:Bool),RV s.heap N v p->RV s.heap N u q->g p q=some b->EqAt A.in1 s v u b:=λ{g} hg=>by
  cases n with
  | zero=>exact nn hg
  | succ n=>cases hg;exact λ_ _ _ _ _ a b e=>m7 Ic n R.in1 a b e
 rw[yF] at h;refine gZ (C:=λp q b=>RT s.heap N v p->RT s.heap N u q->RcAt A s v u b/\RcNeAt A s v u (!b)) h ?_ ?_ ?_ ?_ ?_ ?_ ?_ ?_ rv ru
 ·exact λa b=>by have e:=a.inv;cases e;have e:=b.inv;cases e;exact⟨RcAt.none_none,RcNeAt.none_none⟩
 ·exact λx y a b=>a.inv ▸ b.inv ▸ ⟨RcAt.bool_bool _ _,RcNeAt.bool_bool _ _⟩
 ·exact λx y a b=>by apply xeR a.inv;intro _;apply xeR b.inv;intro _;exact⟨RcAt.int_int _ _ _ _,RcNeAt.int_int _ _ _ _⟩
 ·exact λx y a b=>by apply xeR a.inv;intro _;apply xeR b.inv;intro _;exact⟨RcAt.str_str _ _ _ _,RcNeAt.str_str _ _ _ _⟩
 ·exact λx y e a b=>by apply xer a.inv;intro _ _;apply xer b.inv;intro _ _;exact TH e
 ·intro g l m hg hl h5 a b;apply dP a.inv;intro x _ pa ra;apply dP b.inv;intro y _ pb rb;exact IS R.line (up hg) pa ra pb rb hl h5
 ·intro g l m hg hl h5 a b;apply dP a.inv;intro x _ pa ra;apply dP b.inv;intro y _ pb rb;exact IT R.line (up hg) pa ra pb rb hl h5
 ·intro l m hl a b;apply dP a.inv;intro x _ pa ra;apply dP b.inv;intro y _ pb rb;exact BG R.line pa ra pb rb hl
noncomputable def IU:ag->Option PV
 | .none=>some PV.none
 | .bool b=>some (PV.bool b)
 | .int n _=>some (.int n)
 | .float x _=>some (.flt x)
 | .str x _=>some (.str x)
 | _=>oh
theorem RV.scal (r:Mine.RV h N v p) (hs:p.scalar=true):IU v=some p:=by
 cases r <;> first | rfl | exact nf hs
theorem RV.unscal (r:Mine.RV h N v p) (hs:p.scalar=false):IU v=oh:=by
 cases r <;> first | rfl | cases hs
theorem RV.same (rp:RV h N v p) (rq:RV h N v q) (hs:p.scalar=true):p=q:=by
 cases e:q.scalar with
 | true=>exact sm ((rp.scal hs).symm.trans (rq.scal e))
 | false=>exact nn ((rq.unscal e).symm.trans (rp.scal hs))
open Classical in
def eqW (h:li) (N:Ap) (x:PV) (y:ag):Bool:=decide (∃p,p.scalar=true/\RV h N y p/\eqF 0 p x=some true)
open Classical in
theorem IV (rp:RV s.heap N y p) (hs:p.scalar=true) (h:eqF 0 p x=some b):eqW s.heap N x y=b:=by
 unfold eqW;cases b with
 | true=>exact decide_eq_true (gE p hs rp h)
 | false =>
  refine decide_eq_false ?_
  rintro ⟨q,hq,rq,hh⟩
  have:=RV.same rp rq hs;subst this;rw[h] at hh;cases hh
theorem FP (h:mL f (a::l)=some r):∃x y,f a=some x/\mL f l=some y/\(x||y)=r:=by
 have h:(match f a,mL f l with | some x,some y=>some (x||y) | _,_=>none)=some r:=h;revert h;cases f a with
 | none=>exact nn
 | some x=>cases mL f l with
  | none=>exact nn
  | some y=>exact λh=>(bE x y rfl rfl (sm h))
theorem OR:∀{vs:List ag}{b:Bool},RVs s.heap N vs l->l.all PV.scalar=true->mL (λy=>eqF 0 y x) l=some b ->
  (∀y∈vs,∃p,RV s.heap N y p/\eqF 0 p x=some (eqW s.heap N x y))/\vs.any (eqW s.heap N x)=b:=by
 induction l with
 | nil =>
  intro vs b r _ h;cases r;exact⟨λy hy=>(nomatch hy),sm h⟩
 | cons p l ih =>
  intro vs b r hs h;cases r with
  | cons a r =>
   have hs:=aB hs;apply wR (FP h);intro y z hy hz;refine xa (ih r hs.2 hz) λh1 h2=>?_;have h3:=IV a hs.1 hy;refine⟨λu hu=>?_,by exact O List.any_cons (O h3 (O h2 rfl))⟩;rcases ax.mp hu with rfl | hu
   ·exact(iea _ a (h3 ▸ hy))
   ·exact h1 u hu
end
section
variable{A:dt}{E:Vs}{s:ai}{N:Ap}
theorem KVR.lookup{K:Type}[DecidableEq K] {k:K}{Ij:List (K × ag)}{l:List (K × SV)}(r:KVR Ij l):(valueAt Ij k=none/\l.lookup k=none)\/∃v x,valueAt Ij k=some v/\l.lookup k=some x/\SVR v x:=by
 induction r with
 | nil=>exact .inl ⟨rfl,rfl⟩
 | @cons c v a es l hv r ih =>
  by_cases hk:c=k
  ·subst hk;exact .inr (bE v a (by simp[valueAt]) (by simp) hv)
  ·have h1:valueAt ((c,v)::es) k=valueAt es k:=by simp[valueAt,hk]
   have h2:Cp k ((c,a)::l)=Cp k l:=by
    exact O dk (O (beq_false_of_ne (uc hk)) rfl)
   exact O h1 (O h2 ih)
theorem IW (h:eqF 0 c p=some r):p.scalar=true:=by
 cases c <;> try (exact nn h)
 all_goals (cases p <;> first | exact nn h | rfl)
theorem RT.sc (ra:RT s.heap N a p) (h:p.scalar=true):RV s.heap N a p:=by
 cases ra with
 | none=>exact .none
 | bool b=>exact .bool b
 | int n t=>exact .int n t
 | flt x t ht=>exact .flt x t ht
 | str x t=>exact .str x t
 | tup=>exact nf h
 | lst=>exact nf h
 | dcti=>exact nf h
 | dcts=>exact nf h
theorem rR (h:eqF 0 c p=some r) (ra:RT s.heap N a p):RV s.heap N a p:=ra.sc (IW h)
theorem OS (f:ag->Bool) (l:List ag):l.toArray.any f=l.any f:=by simp
section
variable{a b:ag}{p q:PV}{r:Bool}{Q:Vs}
theorem DY (x y:Bool):(Gx x==Gx y)=(x==y):=by cases x <;> cases y <;> rfl
set_option tactic.hygienic true in
theorem IX (ra:RT s.heap N a p) (rb:RT s.heap N b q) (h:isF p q=some r) (hQ:Q (.bool r) s):wpAny (model Pg W0) A (compareOp .Is a b) Q E s:=by
 cases p <;> try (exact nn h)
 case bool x =>
  cases q <;> try (exact nn h)
  have e:=ra.inv;cases e;have e:=rb.inv;cases e;exact wpAny_is_plain rfl (by exact O (DY ..) (sm h ▸ hQ))
 case none =>
  cases q <;> try (exact nn h)
  have e:=ra.inv;cases e;have e:=rb.inv;cases e;exact wpAny_is_plain rfl (show Q (.bool true) s from sm h ▸ hQ)
 case int n =>
  cases q <;> try (exact nn h)
  apply xeR ra.inv;intro t;have e:=rb.inv;cases e;exact wpAny_is_plain rfl (show Q (.bool false) s from sm h ▸ hQ)
theorem FQ (ra:RT s.heap N a p) (rb:RT s.heap N b q) (h:VR p q=some r) (hQ:Q (.bool r) s):wpAny (model Pg W0) A (compareOp .IsNot a b) Q E s:=by
 cases p <;> try (exact nn h)
 cases q <;> try (exact nn h)
 have e:=ra.inv;cases e;have e:=rb.inv;cases e;exact wpAny_isNot_plain rfl (by exact O (DY ..) (sm h ▸ hQ))
theorem qS{C:Prop}(ra:RT s.heap N a p) (rb:RT s.heap N b q) (h:IM f g p q=some r) (h1:∀x y t u,a=.int x t->b=.int y u->f x y=r->C) (h2:∀x y t u,a=.float x t->b=.float y u->g x y=r->C):C:=by
 cases p <;> try (exact nn h)
 all_goals cases q <;> try (exact nn h)
 ·refine xe ra.inv λt e=>?_;refine xe rb.inv λu e'=>?_;exact h1 _ _ t u e e' (sm h)
 ·refine xea ra.inv λt e _=>?_;refine xea rb.inv λu e' _=>?_;exact h2 _ _ t u e e' (sm h)
theorem wU (Ic:NoShare s.heap) (R:Room B 0) (ra:RT s.heap N a p) (rs:RVs s.heap N vs l) (hs:l.all PV.scalar=true) (h:mL (λy=>eqF 0 y p) l=some r) :
  (∀y,y∈vs.toArray->SeqAt.EqAt B s y a (eqW s.heap N p y))/\vs.toArray.any (eqW s.heap N p)=r:=by
 refine xa (OR rs hs h) λh1 h2=>?_;refine⟨λy hy=>?_,(OS _ _).trans h2⟩;refine xea (h1 y (Bz.mp hy)) λc rc hc=>?_;exact m7 Ic 0 R rc (rR hc ra) hc
theorem vA{k:Str}{Ij:List (Str × ag)}{l:List (Str × SV)}(r:KVR Ij l):(valueAt Ij k).isSome=(l.lookup k).isSome:=by
 rcases r.lookup (k:=k) with ⟨h1,h2⟩ | ⟨v,y,h1,h2,_⟩ <;> refine O h1 (O h2 ?_) <;> rfl
set_option tactic.hygienic true in
theorem IY (R:Room A 1) (Ic:NoShare s.heap) (ra:RT s.heap N a p) (rb:RT s.heap N b q) (h:inF p q=some r) (hQ:∀s',Pure s s'->Q (.bool r) s'):wpAny (model Pg W0) A (compareOp .In a b) Q E s:=by
 cases q <;> try (exact nn h)
 case str x =>
  cases p <;> try (exact nn h)
  apply xeR ra.inv;intro t;apply xeR rb.inv;intro u;exact P.in_str (sm h ▸ hQ _ (Ext.refl _ _))
 case tup l =>
  apply dP rb.inv;intro _ _ pb rs;refine xa (wU Ic R.in1 ra rs (aL h).1 (aL h).2) λh1 h2=>?_;exact SeqAt.in_tupleAt (eqW s.heap N p) pb.isTuple h1 (h2 ▸ hQ _ (Ext.refl _ _))
 case lst l =>
  apply dP rb.inv;intro _ _ pb rs;refine xa (wU Ic R.in1 ra rs (aL h).1 (aL h).2) λh1 h2=>?_;exact SeqAt.in_listAt (eqW s.heap N p) pb.isList h1 (h2 ▸ hQ _ (Ext.refl _ _))
 case dcts l =>
  cases p <;> try (exact nn h)
  apply xeR ra.inv;intro t;apply BB rb.inv;intro _ Ou Ij Ov La;exact wpAny_in_of (strKind_is Pg W0 _ t) Ou Ov.mapOf (by exact O (vA La) (sm h ▸ hQ _ (Pure.toks _)))
set_option tactic.hygienic true in
theorem FR (R:Room A 1) (Ic:NoShare s.heap) (ra:RT s.heap N a p) (rb:RT s.heap N b q) (h:VQ p q=some r) (hQ:∀s',Pure s s'->Q (.bool r) s'):wpAny (model Pg W0) A (compareOp .NotIn a b) Q E s:=by
 cases q <;> try (exact nn h)
 case str x =>
  cases p <;> try (exact nn h)
  refine xe ra.inv λt aT=>?_;subst aT;refine xe rb.inv λu aT=>?_;subst aT;exact P.notIn_str (sm h ▸ hQ _ (Ext.refl _ _))
 case tup l =>
  refine eA rb.inv λ_ _ aT pb rs=>?_;subst aT;refine xea (bj.mp (aL h).2) λx hx aT=>?_;subst aT;refine xa (wU Ic R.in1 ra rs (aL h).1 hx) λh1 h2=>?_;exact SeqAt.notIn_tupleAt (eqW s.heap N p) pb.isTuple h1 (h2 ▸ hQ _ (Ext.refl _ _))
 case lst l =>
  refine eA rb.inv λ_ _ aT pb rs=>?_;subst aT;refine xea (bj.mp (aL h).2) λx hx aT=>?_;subst aT;refine xa (wU Ic R.in1 ra rs (aL h).1 hx) λh1 h2=>?_;exact SeqAt.notIn_listAt (eqW s.heap N p) pb.isList h1 (h2 ▸ hQ _ (Ext.refl _ _))
 case dcts l =>
  cases p <;> try (exact nn h)
  refine xe ra.inv λt aT=>?_;subst aT;refine lC rb.inv λ_ aT Ou zt=>?_;refine xea zt λIj Ov La=>?_;clear zt;subst aT;exact wpAny_notIn_of (strKind_is Pg W0 _ t) Ou Ov.mapOf (by exact O (vA La) (sm h ▸ hQ _ (Pure.toks _)))
theorem OT (h:TG p q=some r):eqF 3 p q=some r\/∃x y,p=.flt x/\q=.flt y/\(eo x y==some nw)=r:=by
 cases p <;> try (exact .inl h)
 cases q <;> try (exact .inl h)
 exact .inr (bE _ _ rfl rfl (sm h))
end
theorem fB (hk:3<=k) (R:Room A k) (Ic:NoShare s.heap) (ra:RT s.heap N a p) (rb:RT s.heap N b q) (h:bF op p q=some r)
  (hQ:∀s',Pure s s'->Q (.bool r) s'):wpAny (model Pg W0) A (compareOp op a b) Q E s:=by
 have R3:=R.le hk;have R1:=R3.le (show 1<=3 by decide);have hq:=hQ _ (Ext.refl _ _);cases op
 case Is=>exact IX ra rb h hq
 case IsNot=>exact FQ ra rb h hq
 case Eq =>
  rcases OT h with h | ⟨x,y,rfl,rfl,rfl⟩
  ·exact(rQ Ic 3 R3 ra rb h).1 Pg W0 E Q hq
  ·refine xea ra.inv λt aT _=>?_;subst aT;refine xea rb.inv λu aT _=>?_;subst aT;exact ua hq
 case NotEq =>
  refine xea (bj.mp h) λx hx aT=>?_;subst aT;exact(rQ Ic 3 R3 ra rb hx).2 Pg W0 E Q hq
 case Lt=>exact qS ra rb h (λx y t u e e' o=>e ▸ e' ▸ P.lt_int (o ▸ hq)) (λx y t u e e' o=>e ▸ e' ▸ Au (o ▸ hq))
 case LtE=>exact qS ra rb h (λx y t u e e' o=>e ▸ e' ▸ P.le_int (o ▸ hq)) (λx y t u e e' o=>e ▸ e' ▸ Hf (o ▸ hq))
 case Gt=>exact qS ra rb h (λx y t u e e' o=>e ▸ e' ▸ P.gt_int (o ▸ hq)) (λx y t u e e' o=>e ▸ e' ▸ Av (o ▸ hq))
 case GtE=>exact qS ra rb h (λx y t u e e' o=>e ▸ e' ▸ P.ge_int (o ▸ hq)) (λx y t u e e' o=>e ▸ e' ▸ Hg (o ▸ hq))
 case In=>exact IY R1 Ic ra rb h hQ
 case NotIn=>exact FR R1 Ic ra rb h hQ
end
theorem rS (h:Runs M Γ p t fs s e s'):s.heap.objs.size<=s'.heap.objs.size:=by
 induction h <;> (try simp only[uo,bm,Ca] at *) <;> lia
theorem yI (h:Returns M Γ p s r s'):s.heap.objs.size<=s'.heap.objs.size:=rS h
theorem FS (h:Wakes M Γ p g r s res s'):s.heap.objs.size<=s'.heap.objs.size:=by
 delta Wakes at h
 split at h
 ·exact h.elim
 ·split at h
  ·obtain⟨Jq,bc,hr,_,_,rfl⟩:=h;exact(rS hr:(s.setGen g .running).heap.objs.size<=bc.heap.objs.size)
  all_goals (refine O h.2 ?_;exact ah _)
 ·obtain⟨Jq,bc,hr,_,_,rfl⟩:=h;exact(rS hr:(s.setGen g .running).heap.objs.size<=bc.heap.objs.size)
 all_goals (refine O h.2 ?_;exact ah _)
theorem TI{α:Type}(M:Hs) (Γ:Ctx) (n:Nat) (t:Sem α):∀(Q:α->Pos->ai->Prop) (E:ag->Pos->ai->Prop) (p:Pos) (s:ai),n<=s.heap.objs.size->Sem.wp M Γ t Q E p s ->
  Sem.wp M Γ t (λa p' s'=>n<=s'.heap.objs.size/\Q a p' s') (λe p' s'=>n<=s'.heap.objs.size/\E e p' s') p s:=by
 induction t with
 | pure a=>exact λQ E p s hn h=>⟨hn,h⟩
 | raise e=>exact λQ E p s hn h=>⟨hn,h⟩
 | unsupported | finish | register | yield | fork | await=>exact λQ E p s _ h=>h
 | rule _ k ih | «at» _ k ih | point _ k ih=>exact λQ E p s hn h=>ih () Q E _ s hn h
 | load a _ k ih=>exact λQ E p s hn ⟨o,ho,h⟩=>⟨o,ho,ih o Q E p s hn h⟩
 | update a _ f k ih=>exact λQ E p s hn h=>⟨h.1,ih () Q E p _ (by simpa only[Ca] using hn) h.2⟩
 | alloc o k ih=>exact λQ E p s hn h=>ih _ Q E p _ (by simp only[bm];exact fn2 (.x .q .ke) [.x .q .r] hn) h
 | loadIfAlive a k ih=>exact λQ E p s hn h=>ih _ Q E p _ hn h
 | fresh k ih=>exact λQ E p s hn h=>ih _ Q E p _ hn h
 | ask k ih=>exact λQ E p s hn h=>ih _ Q E p _ hn h
 | os _ _ k ih=>exact λQ E p s hn h=>ih _ Q E p _ hn h
 | handled _ k ih=>exact λQ E p s hn h=>ih _ Q E p _ hn h
 | newGen _ k ih=>exact λQ E p s hn h=>ih _ Q E p _ hn h
 | stack k ih=>exact λQ E p s hn h=>ih _ Q E p _ hn h
 | thread k ih=>exact λQ E p s hn h=>ih _ Q E p _ hn h
 | choose src m k ih=>exact λQ E p s hn h=>⟨h.1,ih _ Q E p _ hn h.2⟩
 | call c hd _ _ k ih=>exact λQ E p s hn ⟨r,s',hr,h⟩=>⟨r,s',hr,ih r Q E p s' (aa hn (yI hr)) h⟩
 | genState g k ih=>exact λQ E p s hn ⟨st,hs,h⟩=>⟨st,hs,ih _ Q E p s hn h⟩
 | resume g r _ k ih=>exact λQ E p s hn ⟨res,s',hw,h⟩=>⟨res,s',hw,ih res Q E p s' (aa hn (FS hw)) h⟩
def Mono (s s':ai):Prop:=s.heap.objs.size<=s'.heap.objs.size/\s.toks<=s'.toks
theorem aU{α:Type}{t:Sem α}{Q:α->ai->Prop} 
  (h:wpAny M A t (λa s'=>Mono s s'->Q a s') E s):wpAny M A t Q E s:=by
 have h1:wpAny M A t (λa s'=>s.heap.objs.size<=s'.heap.objs.size/\(Mono s s'->Q a s')) (λe s'=>s.heap.objs.size<=s'.heap.objs.size/\E e s') s :=
  λΓ p hΓ=>TI M Γ _ t _ _ p s (ah _) (h Γ p hΓ)
 have h2:=wpAny_toks h1;exact lq h2 (λa s' x=>x.2.2 ⟨x.2.1,x.1⟩) (λe s' x=>x.2.2)
theorem Pure.mk' (k:∀b o,s.heap.get? b=some o->h.get? b=some o) (m:Mono s {s with heap:=h,toks:=t}):Pure s {s with heap:=h,toks:=t} :=
 Pure.of_heap k m.1 m.2
noncomputable def SV.pv:SV->PV
 | .i n=>.int n
 | .t x=>.str x
theorem SVR.rv (r:SVR v a):RV h N v a.pv:=by
 cases r with
 | i n t=>exact .int n t
 | t x t=>exact .str x t
noncomputable def ixF (k:Int) (n:Nat):Option Nat:=if -(2 ^ 62)<k/\k<2 ^ 62 then seqIndex? k n else none
def cX (p q:PV):Option PV:=match p with
 | .lst l=>(match q with | .int k=>(ixF k l.length).bind (l[·]?) | _=>none)
 | .tup l=>(match q with | .int k=>(ixF k l.length).bind (l[·]?) | _=>none)
 | .str x=>(match q with | .int k=>((ixF k x.length).bind (x.cps[·]?)).map λc=>.str ⟨#[c]⟩ | _=>none)
 | .dcts l=>(match q with | .str k=>(l.lookup k).map SV.pv | _=>none)
 | .dcti l=>(match q with | .int k=>(l.lookup k).map SV.pv | _=>none)
 | _=>none
theorem yJ (h:seqIndex? k n=some j):(0<=k/\k<n/\j=k.toNat)\/(k<0/\0<=k+n/\j=(k+n).toNat):=by
 by_cases h0:k<0
 ·by_cases h1:0<=k+n
  ·rw[Gc h0 h1] at h;cases h;exact .inr (iaa h0 h1 rfl)
  ·rw[El ((oj.mp h1))] at h;cases h
 ·by_cases h1:k<n
  ·rw[seqIndex_of ((dr.mp h0)) h1] at h;cases h;exact .inl (iaa ((dr.mp h0)) h1 rfl)
  ·rw[Em ((dr.mp h1))] at h;cases h
theorem yK (h:ixF k n=some j):-(2 ^ 62)<k/\k<2 ^ 62/\seqIndex? k n=some j:=by
 delta ixF at h
 split at h
 ·rename_i hc;exact(iaa hc.1 hc.2 h)
 ·cases h
section
variable{A:dt}{E:Vs}{s:ai}{N:Ap}
theorem IZ (hl:s.heap.PlainList l items) (h1:-(2 ^ 62)<k) (h2:k<2 ^ 62) (hj:seqIndex? k items.size=some j) (hx:items[j]?=some x)
  (h:Q x s):wpAny (model Pg W0) A (getItem (.ref l) (.int k t)) Q E s:=by
 rcases yJ hj with ⟨h0,h3,rfl⟩ | ⟨h0,h3,rfl⟩
 ·exact wpAny_getItem_list hl.isList h0 (fz1 (.t .a .ky) [.t .a .jm] h2) hx h
 ·exact wpAny_getItem_list_neg hl.isList h0 (fam [_] [_] (.l (.G .q) .a) [.l .n0 (.A .a .q)] h3) (fz1 (.l (.G .ky) .a) [.t (.G .jm) .a] h1) hx h
theorem I0 (ra:RVs s.heap N vs l) (h:(ixF k l.length).bind (l[·]?)=some r):∃j v,-(2 ^ 62)<k/\k<2 ^ 62/\seqIndex? k vs.toArray.size=some j/\vs.toArray[j]?=some v/\RV s.heap N v r:=by
 refine xea (dm.mp h) λj hj hl=>?_;refine xaa (yK hj) λh1 h2 h3=>?_;refine xea (ra.get hl) λv hv rv=>?_;exact(bW j v h1 h2 (show seqIndex? k vs.length=some j from ra.length.symm ▸ h3) ⟨((mn).trans hv),rv⟩)
theorem yL{K:Type}[DecidableEq K] {k:K}{Ij:List (K × ag)}{l:List (K × SV)}(La:KVR Ij l) (h:(l.lookup k).map SV.pv=some r):∃v,valueAt Ij k=some v/\RV s.heap N v r:=by
 apply gW (bj.mp h);intro y hy;rcases La.lookup (k:=k) with ⟨_,h2⟩ | ⟨v,z,h1,h2,hv⟩
 ·exact nn (h2.symm.trans hy)
 ·exact(iea v h1 (sm (h2.symm.trans hy) ▸ hv.rv))
theorem OU{p:PV}{v:ag}{s':ai}(h:∀x,p≠.str x):(∃x,p=.str x)->∀y t,v=.str y t->t≠0/\t<s'.toks:=fun⟨x,e⟩=>absurd e (h x)
theorem FU{a b:ag}{p q r:PV}{Q:Vs}{k:Nat}(R:Room A k) (ra:RT s.heap N a p) (rb:RT s.heap N b q) (h:cX p q=some r)
  (hT:0<s.toks) (hQ:∀v s',Pure s s'->RV s'.heap N v r->((∃x,p=.str x)->∀y t,v=.str y t->t≠0/\t<s'.toks)->Q v s'):wpAny (model Pg W0) A (getItem a b) Q E s:=by
 clear R;have ra:=ra.inv;have rb:=rb.inv;cases p <;> try (exact nn h)
 case lst l =>
  cases q <;> try (exact nn h)
  refine xe rb λt aT=>?_;subst aT;clear rb;obtain⟨_,vs,rfl,pa,ra⟩:=ra;obtain⟨j,v,h1,h2,h3,hv,rv⟩:=I0 ra h;exact IZ pa h1 h2 h3 hv (hQ _ _ (Ext.refl _ _) rv (OU λ_ e=>nomatch e))
 case tup l =>
  cases q <;> try (exact nn h)
  obtain⟨t,rfl⟩:=rb;obtain⟨_,vs,rfl,pa,ra⟩:=ra;obtain⟨j,v,h1,h2,h3,hv,rv⟩:=I0 ra h;exact Ds pa.isTuple (by clear h h3 ra rv hv pa;exact fz1 (.l (.G .ky) .a) [.t (.G .jm) .a] h1) (by clear h h3 ra rv hv pa;exact fz1 (.t .a .ky) [.t .a .jm] h2) h3 hv (hQ _ _ (Ext.refl _ _) rv (OU λ_ e=>nomatch e))
 case str x =>
  cases q <;> try (exact nn h)
  obtain⟨t,rfl⟩:=rb;obtain⟨u,rfl⟩:=ra;obtain⟨c,hc,rfl⟩:=bj.mp h;obtain⟨j,hj,hl⟩:=dm.mp hc;obtain⟨h1,h2,h3⟩:=yK hj;exact P.getItem_str (by clear hQ h hc hj hl;simp;exact⟨fz1 (.l (.G .jQ) .a) [.t (.G .jm) .a] h1,fz1 (.t .a .jQ) [.t .a .jm] h2⟩) (by exact O h3 hl) (hQ _ _ (Pure.toks _) (.str _ _) (λ_ y t e=>by cases e;exact⟨cj hT,dh _⟩))
 case dcts l =>
  cases q <;> try (exact nn h)
  obtain⟨t,rfl⟩:=rb;obtain⟨_,rfl,Ou,Ij,Ov,La⟩:=ra;obtain⟨v,h1,rv⟩:=yL La h;exact wpAny_getItem_of (strKind_is Pg W0 _ t) Ov.mapOf h1 (hQ _ _ (Pure.toks _) rv (OU λ_ e=>nomatch e))
 case dcti l =>
  cases q <;> try (exact nn h)
  obtain⟨t,rfl⟩:=rb;obtain⟨_,rfl,Ou,Ij,Ov,La⟩:=ra;obtain⟨v,h1,rv⟩:=yL La h;exact wpAny_getItem_of (intKind_is Pg W0 _ t) Ov.mapOf h1 (hQ _ _ (Pure.toks _) rv (OU λ_ e=>nomatch e))
theorem kD (r:RVs h N vs l):∀ix:List Nat,RVs h N (ix.filterMap (vs[·]?)) (ix.filterMap (l[·]?))
 | []=>.nil
 | i::ix=>by
  simp only[ex];have hlen:=r.length
  by_cases hi:i<l.length
  ·refine xea (r.get (bk hi)) λv hv rv=>?_;exact O hv (O (bk hi) (.cons rv (kD r ix)))
  ·exact O (oe (by exact fn3 (.x .q .r) [.z1 .q .s,.x .s .r] hlen (av.mp hi))) (O (oe (by exact(av.mp hi))) (kD r ix))
noncomputable def dK (lo hi st:Option Int) (n:Nat):List Nat:=sliceRange (sliceBounds lo hi st n).1 (sliceBounds lo hi st n).2.1 (sliceBounds lo hi st n).2.2
noncomputable def iX (lo hi st:Option Int) (n:Nat):List Nat:=lz lo hi (st.getD 1) n
def cY:PV->Option Int->Option Int->Option Int->Option PV
 | .lst l,lo,hi,st=>if l.length<=100000/\st≠some 0 then some (.lst ((dK lo hi st l.length).filterMap (l[·]?))) else none
 | .str x,lo,hi,st=>if st=none/\(iX lo hi none x.length).length<=100000 then
   some (.str (if (iX lo hi none x.length).length==x.length then x else⟨((iX lo hi none x.length).filterMap (x.cps[·]?)).toArray⟩)) else none
 | _,_,_,_=>none
inductive PartR:ag->Option Int->Prop
 | none:PartR .none none
 | int (i:Int) (t:Tok):PartR (.int i t) (some i)
theorem PartR.part (h:PartR v o):IsPart v o:=by cases h <;> constructor
theorem PartR.pv (h:PartR v o):∃p:Option (Int × Tok),v=partValue p/\p.map (·.1)=o:=by
 cases h with
 | none=>exact(iea oh rfl rfl)
 | int i t=>exact(iea (some (i,t)) rfl rfl)
theorem OV{us:List ag}{n:Nat}{lo hi st:Option Int}(hn:us.length=n):slicePick us.toArray lo hi st=((dK lo hi st n).filterMap (us[·]?)).toArray:=by
 subst hn
 delta slicePick dK
 refine O (show(λi:Nat=>us.toArray[i]?)=λi=>us[i]? from funext λi=>by simp) ?_;rfl
theorem OW{l:List PV}{vl vu vs:ag}{a:er}{us:List ag}{r:PV}{lo hi st:Option Int}{Q:Vs}{sl:er}(hN:Low N s.heap) (pa:s.heap.PlainList a us.toArray) (ra:RVs s.heap N us l) (hl:PartR vl lo) (hu:PartR vu hi) (hs:PartR vs st) (Mk:s.heap.get? sl=some {cls:=.type "slice",data:=.fields #[vl,vu,vs]})
  (hc:l.length<=100000/\st≠some 0) (h:some (PV.lst ((dK lo hi st l.length).filterMap (l[·]?)))=some r) (hQ:∀v s',Pure s s'->Res s s' N v r->Q v s'):wpAny (model Pg W0) A (getItem (.ref a) (.ref sl)) Q E s :=
 wpAny_getItem_list_slice pa.isList (gE _ Mk rfl rfl) hl.part hu.part hs.part hc.2 (TC h hN (kD ra _) (OV ra.length) hQ) (aa (ce ra.length) (aa hc.1 sz5))
theorem OX{x:Str}{t:Tok}{vl vu vs:ag}{r:PV}{lo hi st:Option Int}{Q:Vs}{sl:er}(hl:PartR vl lo) (hu:PartR vu hi) (hs:PartR vs st) (Mk:s.heap.get? sl=some {cls:=.type "slice",data:=.fields #[vl,vu,vs]})
  (hc:st=none/\(iX lo hi none x.length).length<=100000) (h:some (PV.str (if (iX lo hi none x.length).length==x.length then x else⟨((iX lo hi none x.length).filterMap (x.cps[·]?)).toArray⟩))=some r) (hQ:∀v s',Pure s s'->Res s s' N v r->Q v s'):wpAny (model Pg W0) A (getItem (.str x t) (.ref sl)) Q E s:=by
 obtain⟨rfl,hc⟩:=hc;obtain⟨pl,rfl,el⟩:=hl.pv;obtain⟨pu,rfl,eu⟩:=hu.pv;obtain⟨ps,rfl,es⟩:=hs.pv;refine wpAny_getItem_str_slice (l:=pl) (u:=pu) (st:=ps) (gE _ Mk rfl rfl) (by refine O es ?_;rfl) ?_
 delta sliceMade slicePicked
 refine O el (O eu (O es ?_))
 delta iX at h hc
 clear hl hu hs Mk el eu es;simp only[iu,beq_self_eq_true,Bool.true_and] at h hc ⊢;split
 ·rename_i hh;rw[if_pos hh] at h;exact hQ _ _ (Ext.refl _ _) (scS h rfl)
 ·rename_i hh;rw[if_neg hh] at h;exact⟨aa (aa (pr _ _) hc) sz5,hQ _ _ (Pure.toks _) (scS h rfl)⟩
theorem yM{a vl vu vs:ag}{p r:PV}{lo hi st:Option Int}{Q:Vs}{sl:er}(hT:0<s.toks) (hN:Low N s.heap) (ra:RT s.heap N a p) (hl:PartR vl lo) (hu:PartR vu hi) (hs:PartR vs st) (Mk:s.heap.get? sl=some {cls:=.type "slice",data:=.fields #[vl,vu,vs]}) (h:cY p lo hi st=some r)
  (hQ:∀v s',Pure s s'->Res s s' N v r->Q v s'):wpAny (model Pg W0) A (getItem a (.ref sl)) Q E s:=by
 have ra:=ra.inv;clear hT;cases p <;> try (exact nn h)
 case lst l =>
  apply dP ra;intro _ us pa ra;exact OW hN pa ra hl hu hs Mk (aL h).1 (aL h).2 hQ
 case str x =>
  apply xeR ra;intro t;exact OX hl hu hs Mk (aL h).1 (aL h).2 hQ
end
noncomputable def yN:PV->Option Int
 | .int n=>some n
 | _=>none
def cT:List PV->Option (List Int)
 | []=>some []
 | a::l=>match yN a,cT l with
  | some n,some r=>some (n::r)
  | _,_=>none
theorem yO:cT []=some []:=rfl
theorem yP:cT (a::l)=match yN a,cT l with
  | some n,some r=>some (n::r)
  | _,_=>none:=rfl
noncomputable def eW (n:Int):Bool:=decide (-(2 ^ 50)<n)&&decide (n<2 ^ 50)
noncomputable def b9:List Int->Int
 | []=>0
 | [a]=>a
 | a::l=>if b9 l<a then b9 l else a
noncomputable def bJ:List Int->Int
 | []=>0
 | [a]=>a
 | a::l=>if a<bJ l then bJ l else a
noncomputable def gtB (a b:UInt64):Bool:=eo a b==some Cn
noncomputable def ltB (a b:UInt64):Bool:=eo a b==some Cm
noncomputable def VS:PV->Option PV
 | .lst l=>if l.length<=100000 then some (.int l.length) else none
 | .str x=>if x.length<=100000 then some (.int x.length) else none
 | _=>none
def OY (f:List Int->Option PV):PV->Option PV
 | .lst l=>(cT l).bind f
 | _=>none
noncomputable def W4 (f:UInt64->Option PV):PV->Option PV
 | .flt x=>f x
 | _=>none
noncomputable def rT (x:UInt64):Option PV:=match qp x with
  | .fin sg m e=>some (.int (mq sg m e))
  | _=>none
noncomputable def TJ (f:Int->Int->Bool) (p q:PV):Option PV:=match p with
 | .int a=>(match q with | .int b=>some (.int (if f a b then b else a)) | _=>none)
 | _=>none
noncomputable def TK (f:UInt64->UInt64->Bool) (p q r:PV):Option PV:=match p with
 | .flt a=>(match q with
  | .flt b=>(match r with
   | .flt c=>some (.flt (if f b a then(if f c b then c else b) else(if f c a then c else a)))
   | _=>none)
  | _=>none)
 | _=>none
noncomputable def rU (f:PV->Option PV) (ps:List PV):Option PV:=match ps with
 | []=>none
 | a::ps=>(match ps with | []=>f a | _=>none)
noncomputable def I1 (f:PV->Option PV) (g:PV->PV->Option PV) (h:PV->PV->PV->Option PV) (ps:List PV):Option PV:=match ps with
 | []=>none
 | a::ps=>(match ps with
  | []=>f a
  | b::ps=>(match ps with
   | []=>g a b
   | c::ps=>(match ps with | []=>h a b c | _=>none)))
def TL (ns:List Int):Option PV:=if ns.all eW&&decide (ns.length<=1000) then some (.int ns.sum) else none
noncomputable def yQ (f:List Int->Int) (ns:List Int):Option PV:=if ns.isEmpty then none else some (.int (f ns))
def biF (f:Bi) (ps:List PV):Option PV:=match f with
 | .len=>rU VS ps
 | .sum=>rU (OY TL) ps
 | .max=>I1 (OY (yQ bJ)) (TJ λa b=>decide (b>a)) (TK gtB) ps
 | .min=>I1 (OY (yQ b9)) (TJ λa b=>decide (b<a)) (TK ltB) ps
 | .int=>rU (W4 rT) ps
noncomputable def biV:Bi->ag
 | .len=>.builtin "len"
 | .sum=>.builtin "sum"
 | .min=>.builtin "min"
 | .max=>.builtin "max"
 | .int=>.type "int"
section
variable{A:dt}{E:Vs}{s:ai}{N:Ap}
theorem yR (h:cT (a::l)=some r):∃n ns,a=.int n/\cT l=some ns/\n::ns=r:=by
 have h:(match yN a,cT l with | some n,some r=>some (n::r) | _,_=>none)=some r:=h;revert h;cases a <;> try (exact nn)
 cases cT l with
 | none=>exact nn
 | some ns=>exact λh=>(bE _ ns rfl rfl (sm h))
theorem kE:∀{vs:List ag}{ns:List Int},RVs h N vs l->cT l=some ns->∃xs:List (Int × Tok),vs=xs.map (λp=>zl p.1 p.2)/\xs.map (·.1)=ns:=by
 induction l with
 | nil=>exact λr h=>(iea ([]) r.inv (sm h))
 | cons p l ih =>
  intro vs ns r h;obtain⟨n,ns,rfl,h2,rfl⟩:=yR h;apply dP r.inv;intro _ _ rv ru;apply xeR rv.inv;intro t;apply VD (ih ru h2);intro xs;exact(iea ((n,t)::xs) rfl rfl)
theorem rV (hh:A.handled=oh) (hl:s.heap.IsList l items)
  (h:∀s₂,s₂={s with heap:=s.heap.push {cls:=.type "list_iterator",data:=.fields #[.ref l,.int 0 0]}}->s₂.heap.IsListIter s.heap.objs.size l 0->s₂.heap.IsList l items->(∀b∈[s.heap.objs.size,l],b<s₂.heap.objs.size)->l≠s.heap.objs.size->Q (.ref s.heap.objs.size) s₂) :
  wpAny (model Pg W0) A (pyIter (.ref l)) Q E s:=by
 have Im:l<s.heap.objs.size:=by refine xea (id hl) λo ho _=>?_;exact dL ho
 refine wpAny_pyIter_list hl (h _ rfl ⟨_,ci _ rfl,rfl,rfl⟩ (let ⟨o,ho,r⟩:=hl;⟨o,bw _ ho,r⟩) ?_ (ez Im));intro b hb;simp only[bm];rcases ax.mp hb with rfl | hb
 ·exact dh _
 ·rcases ax.mp hb with rfl | hb
  ·exact ik Im
  ·cases hb
theorem rX{s₂:ai}{o:Obj}{h':li}(hk:∀b x,b∉[s.heap.objs.size]->(s.heap.push o).get? b=some x->h'.get? b=some x):∀b x,s.heap.get? b=some x->h'.get? b=some x :=
 λb x e=>hk b x (λhm=>by
  rw[cf] at hm;exact ez (dL e) hm) (bw _ e)
theorem vB (hv:∀j,-(2 ^ 50)<vv j/\vv j<2 ^ 50):∀n:Nat,n<=2000->-(2 ^ 50)*(n:Int)<=preSum vv n/\preSum vv n<=2 ^ 50*(n:Int)
 | 0,_=>by simp[preSum]
 | n+1,h=>by
  have:=vB hv n (fn1 (.x .q (.N 2000)) [.x .kc (.N 2000)] h);have h2:=hv n;simp only[preSum];exact⟨fam [_,_] [_] (.l (.M (.G .kp) (.C .kc)) .kb) [.l (.M (.G .kp) .q) .a,.t (.G .kp) .b] this.1 h2.1,fam [_,_] [_] (.l .kb (.M .kp (.C .kc))) [.l .a (.M .kp .q),.t .b .kp] this.2 h2.2⟩
theorem pU (ns:List Int):∀n:Nat,preSum (λi=>ns.getD i 0) n=(ns.take n).sum
 | 0=>by simp[preSum]
 | n+1=>by
  simp only[preSum,pU ns n]
  by_cases h:n<ns.length
  ·refine O List.take_add_one (O wm (O (bk h) ?_));simp[h]
  ·refine O (qq (by exact(av.mp h))) (O (qq (by exact fn2 (.x .q .ke) [.x .q .r] (av.mp h))) ?_);simp[il,oe (uw h)]
theorem rY{ns:List Int}(h:ns.all eW=true) (j:Nat):-(2 ^ 50)<ns.getD j 0/\ns.getD j 0<2 ^ 50:=by
 by_cases hj:j<ns.length
 ·have:=am.mp h _ (qz hj);unfold eW at this;simp only[ay,decide_eq_true_eq] at this
  simpa [hj] using this
 ·simp[il,oe (uw hj)]
theorem FV{a:er}{vs:List ag}{l:List PV}{ns:List Int}{Q:Vs}{k:Nat}(R:Room A k) (pa:s.heap.PlainList a vs.toArray) (ra:RVs s.heap N vs l) (h1:cT l=some ns) (h2:ns.all eW=true) (h3:ns.length<=1000)
  (hQ:∀t s',Pure s s'->Q (.int ns.sum t) s'):wpAny (model Pg W0) A (call (.builtin "sum") [.ref a]) Q E s:=by
 refine xea (kE ra h1) λxs aT Ik=>?_;subst aT;subst Ik;refine aU ?_;refine call_sum_walk (rV (A:=A.in1) R.hh pa.isList λs₂ e hit hl hfp Io=>?_);subst e;refine(eH _ _ _ (bO _ _ _ (λi=>(xs.map (·.1)).getD i 0) rfl (Ae (A:=A.in1) R.hh _ a Io _) ⟨hit,hl⟩ hfp (iaa (λi v hv=>?_) (λj _=>?_) (λh' tk t' hk hm=>?_))))
 ·simp only[mn,dp,bj] at hv;refine xea hv λp hp aT=>?_;subst aT;exact⟨p.2,by simp[il,hp]⟩
 ·rename_i hj;have Lr:j<xs.length:=by simpa using hj
  have q1:=rY h2 j;have q2:=vB (rY h2) (j+1) (by simp at h3;exact fn2 (.x .kc (.N 2000)) [.y .q .r,.x .r .kj] Lr h3);simp at h3
  delta InLong
  dsimp only
  exact⟨⟨fz1 (.l (.G .ky) .a) [.t (.G .kp) .a] q1.1,fz1 (.t .a .ky) [.t .a .kp] q1.2⟩,⟨fam [_] [_,_] (.l (.G .ky) .a) [.Y 1125899906842624 .q .r,.l (.M (.G .kp) (.C .kc)) .a,.X 1125899906842624 .r .kj] Lr q2.1 h3,fam [_] [_,_] (.t .a .ky) [.Y 1125899906842624 .q .r,.l .a (.M .kp (.C .kc)),.X 1125899906842624 .r .kj] Lr q2.2 h3⟩⟩
 ·have:preSum (λi=>(xs.map (·.1)).getD i 0) ((Aw (λp=>zl p.1 p.2) xs).toArray).size=(xs.map (·.1)).sum:=by
   exact O (pU ..) (O (qq (by simp)) rfl)
  exact O this (hQ _ _ (Pure.mk' (rX (s₂:=s) hk) hm))
theorem yS{f:List Int->Int}{c:Int->Int->Bool}(h1:∀a,f [a]=a) (h2:∀a b l,f (a::b::l)=bif c (f (b::l)) a then f (b::l) else a){l:List Int}(h:l≠[]):f l∈l:=by
 induction l with
 | nil=>exact absurd rfl h
 | cons a l ih =>
  cases l with
  | nil=>exact cf.mpr (h1 a)
  | cons b l =>
   refine O (h2 ..) ?_;cases c (f (b::l)) a with
   | true=>exact en _ (ih (λq=>nomatch q))
   | false=>exact aj
theorem yT (a b:Int) (l:List Int):b9 (a::b::l)=bif decide (b9 (b::l)<a) then b9 (b::l) else a:=by
 show(if b9 (b::l)<a then b9 (b::l) else a)=_
 by_cases h:b9 (b::l)<a <;> simp[h]
theorem yU (a b:Int) (l:List Int):bJ (a::b::l)=bif decide (a<bJ (b::l)) then bJ (b::l) else a:=by
 show(if a<bJ (b::l) then bJ (b::l) else a)=_
 by_cases h:a<bJ (b::l) <;> simp[h]
theorem OZ (x a:Int):(bif decide (x<a) then x else a)<=x/\(bif decide (x<a) then x else a)<=a:=by
 by_cases h:x<a <;> simp[h] <;> lia
theorem O0 (x a:Int):x<=(bif decide (a<x) then x else a)/\a<=(bif decide (a<x) then x else a):=by
 by_cases h:a<x <;> simp[h] <;> lia
theorem vC (l:List Int) (h:l≠[]):b9 l∈l/\∀x∈l,b9 l<=x:=by
 refine⟨yS (c:=λx a=>decide (x<a)) (λ_=>rfl) yT h,?_⟩;clear h
 induction l with
 | nil=>exact λx hx=>nomatch hx
 | cons a l ih =>
  intro x hx;cases l with
  | nil=>exact ck (cf.mp hx).symm
  | cons b l =>
   have h:=OZ (b9 (b::l)) a;rw[<- yT] at h;rcases ax.mp hx with rfl | hx
   ·exact h.2
   ·exact au h.1 (ih x hx)
theorem vD (l:List Int) (h:l≠[]):bJ l∈l/\∀x∈l,x<=bJ l:=by
 refine⟨yS (c:=λx a=>decide (a<x)) (λ_=>rfl) yU h,?_⟩;clear h
 induction l with
 | nil=>exact λx hx=>nomatch hx
 | cons a l ih =>
  intro x hx;cases l with
  | nil=>exact ck (cf.mp hx)
  | cons b l =>
   have h:=O0 (bJ (b::l)) a;rw[<- yU] at h;rcases ax.mp hx with rfl | hx
   ·exact h.2
   ·exact au (ih x hx) h.1
theorem iY{xs:List (Int × Tok)}{i:Nat}{v:ag}(h:(Aw (λp:Int × Tok=>zl p.1 p.2) xs).toArray[i]?=some v):∃t,v=.int ((xs.map (·.1)).getD i 0) t:=by
 rw[mn,dp] at h;apply gW (bj.mp h);intro p hp;exact⟨p.2,by simp[il,hp]⟩
theorem yV{ns:List Int}{j:Nat}(h:j<ns.length):ns.getD j 0∈ns:=by simp[h]
theorem yW{ns:List Int}{x:Int}(h:x∈ns):∃i,i<ns.length/\ns.getD i 0=x:=by
 obtain⟨i,hi,e⟩:=List.getElem_of_mem h;exact(iea i hi (by refine O (il) (O (bk hi) (O e ?_));rfl))
theorem qT (xs:List (Int × Tok)):((Aw (λp:Int × Tok=>zl p.1 p.2) xs).toArray).size=(xs.map (·.1)).length:=by simp
theorem I2 (h2:ns≠[]):ns.getD (argBest (λi j=>decide (ns.getD i 0<ns.getD j 0)) (ns.length-1)) 0=b9 ns:=by
 have hb:=argBest_lt (λi=>ns.getD i 0) (ns.length-1);have hl:=lw.mpr h2;refine xa (vC _ h2) λsp1 sp2=>?_;refine xea (yW sp1) λi hi e=>?_;exact ca (e ▸ hb.2 i (xo hi)) (sp2 _ (yV (gy hb.1 (Dt hl tz))))
theorem I3 (h2:ns≠[]):ns.getD (argBest (λi j=>decide (ns.getD i 0>ns.getD j 0)) (ns.length-1)) 0=bJ ns:=by
 have hb:=argBest_gt (λi=>ns.getD i 0) (ns.length-1);have hl:=lw.mpr h2;refine xa (vD _ h2) λsp1 sp2=>?_;refine xea (yW sp1) λi hi e=>?_;exact ca (sp2 _ (yV (gy hb.1 (Dt hl tz)))) (e ▸ hb.2 i (xo hi))
theorem FW{a:er}{vs:List ag}{l:List PV}{ns:List Int}{Q:Vs}{k:Nat}(R:Room A k) (pa:s.heap.PlainList a vs.toArray) (ra:RVs s.heap N vs l) (h1:cT l=some ns) (h2:ns≠[])
  (hQ:∀t s',Pure s s'->Q (.int (b9 ns) t) s'):wpAny (model Pg W0) A (call (.builtin "min") [.ref a]) Q E s:=by
 refine xea (kE ra h1) λxs aT Ik=>?_;subst aT;subst Ik;refine aU (call_min_walk (rV (A:=A.in1) R.hh pa.isList λs₂ e hit hl hfp Io=>?_));subst e;refine(eH _ _ _ (bO _ _ _ _ rfl (Ae (A:=A.in1) R.hh _ a Io _) ⟨hit,hl⟩ hfp (iaa (by exact O (qT ..) (lw.mpr h2)) (CmpOf.ints_lt (λi=>(xs.map (·.1)).getD i 0) (λi v hv=>iY hv)) (λv h' tk hP hk hm=>?_))));rw[qT] at hP;refine xe (iY hP) λt aT=>?_;subst aT;exact I2 h2 ▸ hQ _ _ (Pure.mk' (rX (s₂:=s) hk) hm)
theorem FX{a:er}{vs:List ag}{l:List PV}{ns:List Int}{Q:Vs}{k:Nat}(R:Room A k) (pa:s.heap.PlainList a vs.toArray) (ra:RVs s.heap N vs l) (h1:cT l=some ns) (h2:ns≠[])
  (hQ:∀t s',Pure s s'->Q (.int (bJ ns) t) s'):wpAny (model Pg W0) A (call (.builtin "max") [.ref a]) Q E s:=by
 refine xea (kE ra h1) λxs aT Ik=>?_;subst aT;subst Ik;refine aU (call_max_walk (rV (A:=A.in1) R.hh pa.isList λs₂ e hit hl hfp Io=>?_));subst e;refine(eH _ _ _ (bO _ _ _ _ rfl (Ae (A:=A.in1) R.hh _ a Io _) ⟨hit,hl⟩ hfp (iaa (by exact O (qT ..) (lw.mpr h2)) (CmpOf.ints_gt (λi=>(xs.map (·.1)).getD i 0) (λi v hv=>iY hv)) (λv h' tk hP hk hm=>?_))));rw[qT] at hP;refine xe (iY hP) λt aT=>?_;subst aT;exact I3 h2 ▸ hQ _ _ (Pure.mk' (rX (s₂:=s) hk) hm)
noncomputable def kX{α:Type}(f:UInt64->UInt64->Bool) (a b c:UInt64) (x y z:α):α:=if f b a then(if f c b then z else y) else(if f c a then z else x)
theorem W5 (f:UInt64->UInt64->Bool) (a b c:UInt64):argBest (λi j=>f ([a,b,c].getD i 0) ([a,b,c].getD j 0)) 2=kX f a b c 0 1 2:=by
 cases h1:f b a <;> cases h2:f c b <;> cases h3:f c a <;> simp[argBest,kX,h1,h2,h3]
theorem vE{α β:Type}(g:α->β) (f:UInt64->UInt64->Bool) (a b c:UInt64) (x y z:α):g (kX f a b c x y z)=kX f a b c (g x) (g y) (g z):=by
 cases h1:f b a <;> cases h2:f c b <;> cases h3:f c a <;> simp[kX,h1,h2,h3]
theorem O1{C:ag->PV->Prop}{f:UInt64->UInt64->Bool}{a b c:UInt64}{x y z:ag}(h1:C x (.flt a)) (h2:C y (.flt b)) (h3:C z (.flt c)):C (kX f a b c x y z) (.flt (kX f a b c a b c)):=by
 delta kX;split <;> split <;> assumption
theorem VT (f:UInt64->UInt64->Bool) (a b c:UInt64) (t u x:Tok) (v:ag)
  (h:(#[oi a t,.float b u,.float c x]:Array ag)[argBest (λi j=>f ([a,b,c].getD i 0) ([a,b,c].getD j 0)) 2]?=some v) :
  v=kX f a b c (.float a t) (.float b u) (.float c x):=by
 rw[W5,vE (λi=>(#[oi a t,.float b u,.float c x]:Array ag)[i]?)] at h;refine(io (Dr ?_ h)).symm;exact vE some f a b c _ _ _
theorem at3{a b c:UInt64}{t u x:Tok}{i:Nat}{v:ag}(h:(#[oi a t,.float b u,.float c x]:Array ag)[i]?=some v):∃tk,v=.float ([a,b,c].getD i 0) tk:=by
 cases i with
 | zero=>exact⟨_,(sm h).symm⟩
 | succ i=>cases i with
  | zero=>exact⟨_,(sm h).symm⟩
  | succ i=>cases i with
   | zero=>exact⟨_,(sm h).symm⟩
   | succ i=>exact nn h
theorem VU{a b c:UInt64}{t u x:Tok}:CmpOf Pg W0 A .Gt (λi v=>(#[oi a t,.float b u,.float c x]:Array ag)[i]?=some v) (λi j=>gtB ([a,b,c].getD i 0) ([a,b,c].getD j 0)):=by
 intro i j vi vj s' Q' E' hi hj hq;apply xeR (at3 hi);intro _;apply xeR (at3 hj);intro _;exact Av (s:=s') hq
theorem VV{a b c:UInt64}{t u x:Tok}:CmpOf Pg W0 A .Lt (λi v=>(#[oi a t,.float b u,.float c x]:Array ag)[i]?=some v) (λi j=>ltB ([a,b,c].getD i 0) ([a,b,c].getD j 0)):=by
 intro i j vi vj s' Q' E' hi hj hq;apply xeR (at3 hi);intro _;apply xeR (at3 hj);intro _;exact Au (s:=s') hq
theorem yX{h:li}{o o':Obj}{d:er}(hd:d∈[(h.push o).objs.size,h.objs.size]):d<((h.push o).push o').objs.size:=by
 refine O (bm ..) ?_;rcases ax.mp hd with rfl | hd
 ·exact dh _
 ·exact O (cf.mp hd) (O (bm ..) (ik (dh _)))
theorem R8{h h':li}{o o':Obj}(hk:∀b x,b∉[(h.push o).objs.size]->((h.push o).push o').get? b=some x->h'.get? b=some x) (d:er) (x:Obj) (e:h.get? d=some x):h'.get? d=some x :=
 hk d x (λhm=>ii _ (Nat.lt_of_succ_lt (gy (ce ((bm ..).symm.trans (cf.mp hm).symm)) (dL e)))) (bw _ (bw _ e))
theorem BH{a b c:UInt64}{t u x:Tok}{Q:Vs}{k:Nat}(R:Room A k)
  (hQ:∀s',Pure s s'->Q (kX gtB a b c (.float a t) (.float b u) (.float c x)) s') :
  wpAny (model Pg W0) A (call (.builtin "max") [.float a t,.float b u,.float c x]) Q E s:=by
 have hT:(s.heap.push {cls:=.type "tuple",data:=.seq #[.float a t,.float b u,.float c x]}).IsTuple s.heap.objs.size #[.float a t,.float b u,.float c x]:=(gE _ (ci _ rfl) rfl ⟨0,rfl⟩);refine aU (call_max_three (wpAny_pyIter_tuple hT ?_));refine(eH _ ([_,s.heap.objs.size]) ([_]) (bO _ _ _ _ rfl (Cq (A:=A.in1) R.hh _ s.heap.objs.size (by rw[bm];exact ez (dh _)) _) ⟨(gE _ (ci _ rfl) rfl rfl),hT.push _⟩ (λd hd=>yX hd) (iaa (Cb _) VU (λv h' tk hP hk hm=>?_))));exact O (VT gtB a b c t u x v hP) (hQ _ (Pure.mk' (R8 hk) hm))
theorem BI{a b c:UInt64}{t u x:Tok}{Q:Vs}{k:Nat}(R:Room A k)
  (hQ:∀s',Pure s s'->Q (kX ltB a b c (.float a t) (.float b u) (.float c x)) s') :
  wpAny (model Pg W0) A (call (.builtin "min") [.float a t,.float b u,.float c x]) Q E s:=by
 have hT:(s.heap.push {cls:=.type "tuple",data:=.seq #[.float a t,.float b u,.float c x]}).IsTuple s.heap.objs.size #[.float a t,.float b u,.float c x]:=(gE _ (ci _ rfl) rfl ⟨0,rfl⟩);refine aU (call_min_three (wpAny_pyIter_tuple hT ?_));refine(eH _ ([_,s.heap.objs.size]) ([_]) (bO _ _ _ _ rfl (Cq (A:=A.in1) R.hh _ s.heap.objs.size (by rw[bm];exact ez (dh _)) _) ⟨(gE _ (ci _ rfl) rfl rfl),hT.push _⟩ (λd hd=>yX hd) (iaa (Cb _) VV (λv h' tk hP hk hm=>?_))));exact O (VT ltB a b c t u x v hP) (hQ _ (Pure.mk' (R8 hk) hm))
theorem RTs.cons_inv (r:RTs h N vs (p::ps)):∃v us,vs=v::us/\RT h N v p/\RTs h N us ps:=by
 cases r with | cons a b=>exact(bE _ _ rfl a b)
theorem RTs.nil_inv (r:RTs h N vs []):vs=[]:=by cases r;rfl
theorem g9 (ra:RTs h N vs ps) (e:rU f ps=some r):∃v p,vs=[v]/\ps=[p]/\RT h N v p/\f p=some r:=by
 cases ps with
 | nil=>exact nn e
 | cons p ps=>cases ps with
  | nil=>apply dP ra.cons_inv;intro v _ rv ru;exact(bW v p (ru.nil_inv ▸ rfl) rfl rv e)
  | cons=>exact nn e
theorem vG{C:Prop}(ra:RTs h N vs ps) (e:I1 f g h3 ps=some r)
  (c1:∀v p,vs=[v]->RT h N v p->f p=some r->C) (c2:∀v p v' p',vs=[v,v']->RT h N v p->RT h N v' p'->g p p'=some r->C)
  (c3:∀v p v' p' v'' p'',vs=[v,v',v'']->RT h N v p->RT h N v' p'->RT h N v'' p''->h3 p p' p''=some r->C):C:=by
 cases ps with
 | nil=>exact nn e
 | cons p ps =>
  refine eA ra.cons_inv λv _ aT rv ru=>?_;subst aT;cases ps with
  | nil=>exact c1 v p (ru.nil_inv ▸ rfl) rv e
  | cons p' ps =>
   obtain⟨v',_,rfl,Lq,ru⟩:=ru.cons_inv;cases ps with
   | nil=>exact c2 v p v' p' (ru.nil_inv ▸ rfl) rv Lq e
   | cons p'' ps =>
    obtain⟨v'',_,rfl,Lx,ru⟩:=ru.cons_inv;cases ps with
    | nil=>exact c3 v p v' p' v'' p'' (ru.nil_inv ▸ rfl) rv Lq Lx e
    | cons=>exact nn e
theorem rZ (rv:RT h N v p) (e:OY f p=some r):∃a vs l ns,v=.ref a/\h.PlainList a vs.toArray/\RVs h N vs l/\cT l=some ns/\f ns=some r:=by
 cases p <;> try (exact nn e)
 apply dP rv.inv;intro a vs pa ra;refine xea (dm.mp e) λns h1 h2=>?_;exact(bO a vs _ ns rfl pa ra h1 h2)
theorem yY (rv:RT h N v p) (Lq:RT h N v' q) (e:TJ f p q=some r):∃a b t u,v=.int a t/\v'=.int b u/\r=.int (if f a b then b else a):=by
 cases p <;> try (exact nn e)
 cases q <;> try (exact nn e)
 apply xeR rv.inv;intro t;apply xeR Lq.inv;intro u;exact(f8 _ _ t u rfl rfl ((sm e).symm))
theorem yZ (rv:RT h N v p) (Lq:RT h N v' q) (Lx:RT h N v'' q') (e:TK f p q q'=some r) :
  ∃a b c t u x,v=.float a t/\v'=.float b u/\v''=.float c x/\∀h',RV h' N (kX f a b c v v' v'') r:=by
 cases p <;> try (exact nn e)
 cases q <;> try (exact nn e)
 cases q' <;> try (exact nn e)
 apply xer rv.inv;intro t ht;apply xer Lq.inv;intro u hu;apply xer Lx.inv;intro x hx;refine(eH _ _ _ (cD t u x rfl rfl rfl (λh'=>?_)));refine XO (sm e) ?_;exact O1 (C:=RV h' N) (.flt _ _ ht) (.flt _ _ hu) (.flt _ _ hx)
theorem I4 (h:TL ns=some r):ns.all eW=true/\ns.length<=1000/\r=.int ns.sum:=by
 have e:=aL h;exact(iaa ((aB e.1).1) (of_decide_eq_true (aB e.1).2) ((sm e.2).symm))
theorem vH (h:yQ f ns=some r):ns≠[]/\r=.int (f ns):=by
 have e:=u8 h;exact⟨λq=>e.1 (q ▸ rfl),(sm e.2).symm⟩
theorem BJ (h:rT x=some r):∃sg m e,qp x=.fin sg m e/\r=.int (mq sg m e):=by
 delta rT at h
 cases e:qp x <;> rw[e] at h <;> try (exact nn h)
 exact(gG _ _ _ rfl ((sm h).symm))
theorem wV{p:Prop}[Decidable p] {α:Type}(a b:α):(if decide p=true then a else b)=if p then a else b:=by
 by_cases h:p <;> simp[h]
theorem DZ{c:Prop}[Decidable c] {a b:Int}{t u:Tok}{Q:Vs}{s s':ai}(hQ:∀v s',Pure s s'->RV s'.heap N v (.int (if c then b else a))->Q v s') (hp:Pure s s'):Q (if c then .int b u else .int a t) s':=by
 by_cases h:c
 ·rw[if_pos h] at hQ ⊢;exact hQ _ _ hp (.int _ _)
 ·rw[if_neg h] at hQ ⊢;exact hQ _ _ hp (.int _ _)
theorem FY (vs:List ag):vs.toArray.size=vs.length:=rfl
section
variable{vs:List ag}{ps:List PV}{r:PV}{Q:Vs}{k:Nat}
theorem FZ (hT:0<s.toks) (rv:RT s.heap N v p) (h:VS p=some r) (hQ:∀v s',Pure s s'->RV s'.heap N v r->Q v s'):wpAny (model Pg W0) A (call (.builtin "len") [v]) Q E s:=by
 cases p <;> try (exact nn h)
 ·apply xeR rv.inv;intro t;have hl:=aL h;exact P.len_str (by have:=hl.1;exact oj.mpr (fn1 (.t .q .ky) [.x .q .kv] hl.1)) (hQ _ _ (Pure.toks _) (sm hl.2 ▸ .int _ _))
 ·apply dP rv.inv;intro a us pa ra;have hl:=aL h;have e:=ra.length;refine Calls.call_len_list pa.isList (by have:=hl.1;clear hQ;refine O (FY ..) ?_;exact fn2 (.t .q .ky) [.x .r .kv,.z1 .q .r] hl.1 e) ?_;exact hQ _ _ (Pure.toks _) (sm hl.2 ▸ e ▸ .int _ _)
theorem I5 (R:Room A k) (hT:0<s.toks) (ra:RTs s.heap N vs ps) (h:biF f ps=some r)
  (hQ:∀v s',Pure s s'->RV s'.heap N v r->Q v s'):wpAny (model Pg W0) A (call (biV f) vs) Q E s:=by
 cases f with
 | len =>
  refine cC (g9 ra h) λv p aT Ik rv h=>?_;subst aT;subst Ik;exact FZ hT rv h hQ
 | sum =>
  refine cC (g9 ra h) λv p aT Ik rv h=>?_;subst aT;subst Ik;obtain⟨a,us,l,ns,rfl,pa,ra,h1,h2⟩:=rZ rv h;obtain⟨q2,q3,rfl⟩:=I4 h2;exact FV R pa ra h1 q2 q3 λt s' hp=>hQ _ _ hp (.int _ _)
 | int =>
  obtain⟨v,p,rfl,rfl,rv,h⟩:=g9 ra h;cases p <;> try (exact nn h)
  obtain⟨t,rfl,_⟩:=rv.inv;obtain⟨sg,m,e,hd,rfl⟩:=BJ h;exact call_int_float hd (hQ _ _ (Pure.toks _) (.int _ _))
 | max =>
  refine vG ra h ?_ ?_ ?_
  ·rintro v p rfl rv h
   obtain⟨a,us,l,ns,rfl,pa,ra,h1,h2⟩:=rZ rv h;obtain⟨q2,rfl⟩:=vH h2;exact FX R pa ra h1 q2 λt s' hp=>hQ _ _ hp (.int _ _)
  ·rintro v p v' p' rfl rv Lq h
   obtain⟨a,b,t,u,rfl,rfl,rfl⟩:=yY rv Lq h;rw[wV] at hQ;exact aU (max_two_ints R.hh λh' tk hk hm=>DZ hQ (Pure.mk' hk hm))
  ·rintro v p v' p' v'' p'' rfl rv Lq Lx h
   obtain⟨a,b,c,t,u,x,rfl,rfl,rfl,q⟩:=yZ rv Lq Lx h;exact BH R λs' hp=>hQ _ _ hp (q _)
 | min =>
  refine vG ra h ?_ ?_ ?_
  ·rintro v p rfl rv h
   obtain⟨a,us,l,ns,rfl,pa,ra,h1,h2⟩:=rZ rv h;obtain⟨q2,rfl⟩:=vH h2;exact FW R pa ra h1 q2 λt s' hp=>hQ _ _ hp (.int _ _)
  ·rintro v p v' p' rfl rv Lq h
   obtain⟨a,b,t,u,rfl,rfl,rfl⟩:=yY rv Lq h;rw[wV] at hQ;exact aU (min_two_ints R.hh λh' tk hk hm=>DZ hQ (Pure.mk' hk hm))
  ·rintro v p v' p' v'' p'' rfl rv Lq Lx h
   obtain⟨a,b,c,t,u,x,rfl,rfl,rfl,q⟩:=yZ rv Lq Lx h;exact BI R λs' hp=>hQ _ _ hp (q _)
end
end
inductive Me where
 | join | count | index
 deriving DecidableEq
noncomputable def Me.id:Me->String
 | .join=>"str.join"
 | .count=>"list.count"
 | .index=>"str.index"
noncomputable def I6:PV->Option Str
 | .str n=>some n
 | _=>none
def jF:List PV->Option (List Str)
 | []=>some []
 | a::l=>match I6 a,jF l with
  | some n,some r=>some (n::r)
  | _,_=>none
noncomputable def iE (f:PV->Option Bool):List PV->Option Nat
 | []=>some 0
 | a::l=>match f a,iE f l with
  | some b,some n=>some (if b then n+1 else n)
  | _,_=>none
def R9 (x:Str) (q:PV):Option PV:=match q with
 | .lst l=>(jF l).bind λts=>if Gy x ts then some (.str (Ht x ts)) else none
 | _=>none
def I7 (l:List PV) (p:PV):Option PV:=if l.all PV.scalar then(iE (λy=>eqF 0 y p) l).map (λn:Nat=>PV.int (n:Int)) else none
noncomputable def I8 (x:Str) (q:PV):Option PV:=match q with
 | .str y=>(match dc x y 0 x.length 1 with
  | i::_=>some (.int (i:Int))
  | []=>none)
 | _=>none
def meF (f:Me) (p:PV) (ps:List PV):Option PV:=match f with
 | .join=>(match p with | .str x=>rU (R9 x) ps | _=>none)
 | .count=>(match p with | .lst l=>rU (I7 l) ps | _=>none)
 | .index=>(match p with | .str x=>rU (I8 x) ps | _=>none)
section
variable{A:dt}{E:Vs}{s:ai}{N:Ap}
theorem y5 (h:jF (a::l)=some r):∃n ns,a=.str n/\jF l=some ns/\n::ns=r:=by
 have h:(match I6 a,jF l with | some n,some r=>some (n::r) | _,_=>none)=some r:=h;revert h;cases a <;> try (exact nn)
 cases jF l with
 | none=>exact nn
 | some ns=>exact λh=>(bE _ ns rfl rfl (sm h))
theorem uP:∀{vs:List ag}{ns:List Str},RVs h N vs l->jF l=some ns->∃xs:List (Str × Tok),vs=strValues xs/\xs.map (·.1)=ns:=by
 induction l with
 | nil=>exact λr h=>(iea ([]) r.inv (sm h))
 | cons p l ih =>
  intro vs ns r h;obtain⟨n,ns,rfl,h2,rfl⟩:=y5 h;apply dP r.inv;intro _ _ rv ru;apply xeR rv.inv;intro t;apply VD (ih ru h2);intro xs;exact(iea ((n,t)::xs) rfl rfl)
theorem y9 (h:iE f (a::l)=some r):∃b n,f a=some b/\iE f l=some n/\(if b then n+1 else n)=r:=by
 have h:(match f a,iE f l with | some b,some n=>some (if b then n+1 else n) | _,_=>none)=some r:=h;revert h;cases f a with
 | none=>exact nn
 | some b=>cases iE f l with
  | none=>exact nn
  | some n=>exact λh=>(bE b n rfl rfl (sm h))
theorem F0:∀{vs:List ag}{n:Nat},RVs s.heap N vs l->l.all PV.scalar=true->iE (λy=>eqF 0 y x) l=some n ->
  (∀y∈vs,∃p,RV s.heap N y p/\eqF 0 p x=some (eqW s.heap N x y))/\vs.countP (eqW s.heap N x)=n:=by
 induction l with
 | nil =>
  intro vs n r _ h;cases r;exact⟨λy hy=>(nomatch hy),sm h⟩
 | cons p l ih =>
  intro vs n r hs h;cases r with
  | cons a r =>
   have hs:=aB hs;apply wR (y9 h);intro y z hy hz;refine xa (ih r hs.2 hz) λh1 h2=>?_;have h3:=IV a hs.1 hy;refine⟨λu hu=>?_,by refine O ux (O h3 (O h2 ?_));cases y <;> rfl⟩;rcases ax.mp hu with rfl | hu
   ·exact(iea _ a (h3 ▸ hy))
   ·exact h1 u hu
theorem RVs.cons_inv (r:RVs h N vs (p::ps)):∃v us,vs=v::us/\RV h N v p/\RVs h N us ps:=by
 cases r with | cons a b=>exact(bE _ _ rfl a b)
theorem RVs.nil_inv (r:RVs h N vs []):vs=[]:=by cases r;rfl
section
variable{v v2:ag}{p q r:PV}{ps:List PV}{vs:List ag}{Q:Vs}{k:Nat}
theorem BK (rv:RT s.heap N v q) (h:R9 x q=some r) (hQ:∀v s',Pure s s'->RV s'.heap N v r->Q v s'):wpAny (model Pg W0) A (call (.builtin "str.join") [.str x t,v]) Q E s:=by
 cases q <;> try (exact nn h)
 refine eA rv.inv λa us aT pa rl=>?_;subst aT;refine xea (dm.mp h) λts h1 h2=>?_;have h2:=aL h2;refine xea (uP rl h1) λxs aT hx=>?_;subst aT;exact aU (SC.join pa.isList hx h2.1 λt' k' hm=>hQ _ _ (Pure.toks _ hm.2) (sm h2.2 ▸ .str _ _))
theorem zA (R:Room A 1) (Ic:NoShare s.heap) (pa:s.heap.PlainList a us.toArray) (rl:RVs s.heap N us l) (rv:RT s.heap N v q) (h:I7 l q=some r)
  (hQ:∀v s',Pure s s'->RV s'.heap N v r->Q v s'):wpAny (model Pg W0) A (call (.builtin "list.count") [.ref a,v]) Q E s:=by
 have h:=aL h;refine xea (bj.mp h.2) λn Re aT=>?_;subst aT;refine xa (F0 rl h.1 Re) λh1 h2=>?_;refine xe pa λm e=>?_;clear pa;refine call_meets Ax (iea _ e rfl) F.entry_list_count (F.args_list_count_2 _ _) (SeqAt.list_countAt a us.toArray m none #[] v (eqW s.heap N q)) (iaa e (λy hy=>?_) ?_)
 ·refine xea (h1 y (Bz.mp hy)) λz rz hz=>?_;exact m7 Ic 0 R.in1 rz (rR hz rv) hz
 ·exact O zq (O h2 (hQ _ _ (Pure.toks _) (.int _ _)))
set_option tactic.hygienic true in
theorem BL (h:I8 x q=some r):∃y i l,q=.str y/\dc x y 0 x.length 1=i::l/\r=.int (i:Int):=by
 cases q <;> try (exact nn h)
 rename_i y;have h:(match dc x y 0 x.length 1 with | i::_=>some (PV.int (i:Int)) | []=>none)=some r:=h;cases e:dc x y 0 x.length 1 with
 | nil=>rw[e] at h;exact nn h
 | cons i l=>rw[e] at h;exact(o5 y i l rfl e ((sm h).symm))
theorem I9 (hk:1<=k) (R:Room A k) (hT:0<s.toks) (Ic:NoShare s.heap) (rp:RT s.heap N a p) (ra:RTs s.heap N vs ps) (h:meF f p ps=some r)
  (hQ:∀v s',Pure s s'->RV s'.heap N v r->Q v s'):wpAny (model Pg W0) A (call (.builtin f.id) (a::vs)) Q E s:=by
 cases f with
 | join =>
  cases p <;> try (exact nn h)
  apply xeR rp.inv;intro t;apply BA (g9 ra h);intro v q rv h;exact BK rv h hQ
 | count =>
  cases p <;> try (exact nn h)
  apply dP rp.inv;intro c us pa rl;apply BA (g9 ra h);intro v q rv h;exact zA (R.le hk) Ic pa rl rv h hQ
 | index =>
  cases p <;> try (exact nn h)
  apply xeR rp.inv;intro t;apply BA (g9 ra h);intro v q rv h;obtain⟨y,i,l,rfl,ho,rfl⟩:=BL h;apply xeR rv.inv;intro t;exact SC.index ho (hQ _ _ (Pure.toks _) (.int _ _))
end
end
abbrev PEnv:=List (Option PV)
noncomputable def lk:PEnv->Nat->Option PV
 | [],_=>none
 | a::_,0=>a
 | _::l,n+1=>lk l n
noncomputable def st:PEnv->Nat->PV->PEnv
 | [],_,_=>[]
 | _::l,0,p=>some p::l
 | a::l,n+1,p=>a::st l n p
theorem lG{n:Nat}:lk [] n=none:=rfl
theorem k9{a:Option PV}{l:PEnv}:lk (a::l) 0=a:=rfl
theorem lA{a:Option PV}{l:PEnv}{n:Nat}:lk (a::l) (n+1)=lk l n:=rfl
theorem zB{n:Nat}{p:PV}:st [] n p=[]:=rfl
theorem aY{a:Option PV}{l:PEnv}{p:PV}:st (a::l) 0 p=some p::l:=rfl
theorem aZ{a:Option PV}{l:PEnv}{n:Nat}{p:PV}:st (a::l) (n+1) p=a::st l n p:=rfl
theorem r0:∀{pe:PEnv}{i:Nat}{p:PV},lk (st pe i p) j=some q->(j=i/\q=p)\/(j≠i/\lk pe j=some q)
 | [],_,_,h=>by simp[zB,aY,aZ,lG,k9,lA] at h
 | a::l,0,p,h=>by
  cases j with
  | zero=>simp[zB,aY,aZ,lG,k9,lA] at h;exact .inl ⟨rfl,h.symm⟩
  | succ j=>exact .inr ⟨by simp,by simpa [zB,aY,aZ,lG,k9,lA] using h⟩
 | a::l,n+1,p,h=>by
  cases j with
  | zero=>exact .inr ⟨by simp,by simpa [zB,aY,aZ,lG,k9,lA] using h⟩
  | succ j =>
   dsimp only[zB,aY,aZ,lG,k9,lA] at h ⊢
   rcases r0 (pe:=l) h with ⟨h1,h2⟩ | ⟨h1,h2⟩
   ·exact .inl ⟨by exact az (fn2 (.x .kc .ke) [.z1 .q .r] h1) (fn2 (.x .kc .ke) [.z1 .q .r] h1.symm),h2⟩
   ·exact .inr ⟨by lia,h2⟩
structure Cx where
 vars:List (Str × Nat)
 kinds:List (Str × my)
 own:List Nat
 tk:List Nat
 top:Bool
inductive BindAt (env:Env) (h:li) (x:Str) (v:ag):Prop
 | loc (m:Str->Option ag):env.kindOf x=some .local->h.Ns env.locals m->m x=some v->BindAt env h x v
 | cell (c:er):(env.kindOf x=some .cell\/env.kindOf x=some .free)->env.cells.lookup x=some c->h.IsCell c (some v)->BindAt env h x v
def OwnR (h:li) (N:Ap) (a:er):PV->Prop
 | .lst l=>∃vs:List ag,h.PlainList a vs.toArray/\RVs h N vs l
 | .dcti l=>PlainDictI h a l
 | _=>False
def SlotR (cx:Cx) (env:Env) (s:ai) (N:Ap) (i:Nat) (v:ag) (p:PV):Prop :=
 (if cx.own.contains i then ∃a,v=.ref a/\N a/\a≠env.locals/\OwnR s.heap N a p else RV s.heap N v p) /\
 (cx.tk.contains i=true->∀x t,v=.str x t->t≠0/\t<s.toks)
theorem RV.weak' (hn:∀b,N' b->N b) (r:RV h N v p):RV h N' v p:=r.step (Step.sub hn)
theorem RVs.weak' (hn:∀b,N' b->N b) (r:RVs h N vs ps):RVs h N' vs ps:=r.step (Step.sub hn)
inductive StoreAt (env:Env) (h:li) (No:Ap) (x:Str):Prop
 | loc:env.kindOf x=some .local->StoreAt env h No x
 | cell (c:er) (Jr:Option ag):env.kindOf x=some .cell->env.cells.lookup x=some c->No c->h.IsCell c Jr->StoreAt env h No x
structure Base (s:ai) (N:Ap):Prop where
 keep:∀b o,H0.get? b=some o->s.heap.get? b=some o
 above:∀b,N b->H0.objs.size<=b
 size:H0.objs.size<=s.heap.objs.size
 low:Low N s.heap
 toks:0<s.toks
 bare:pw s.gens
structure EnvR (cx:Cx) (asg:List Str) (env:Env) (s:ai) (Na No:Ap) (pe:PEnv):Prop where
 base:Base s (λb=>Na b\/No b)
 kind:env.scope.kind=.function
 glb:env.globals=mainGlobals
 blt:env.builtins=builtinsNs
 gl:∀x,cx.kinds.lookup x=some .globalImplicit->env.kindOf x=some .globalImplicit
 cl:∀x,(cx.kinds.lookup x=some .cell\/cx.kinds.lookup x=some .free)->(env.kindOf x=some .cell\/env.kindOf x=some .free)/\∃c v,env.cells.lookup x=some c/\s.heap.IsCell c v
 ns:∃m,s.heap.Ns env.locals m
 noL:No env.locals
 apart:∀x y c,env.cells.lookup x=some c->env.cells.lookup y=some c->x=y
 cellsLow:∀x c,env.cells.lookup x=some c->c<s.heap.objs.size
 vars:∀x i p,cx.vars.lookup x=some i->lk pe i=some p->∃v,BindAt env s.heap x v/\SlotR cx env s (λb=>Na b\/No b) i v p
 stores:∀x∈asg,StoreAt env s.heap No x
 inj:∀x y i,cx.vars.lookup x=some i->cx.vars.lookup y=some i->x=y
 alone:∀x y i j a,cx.vars.lookup x=some i->cx.vars.lookup y=some j->(lk pe i).isSome->(lk pe j).isSome->cx.own.contains i=true->cx.own.contains j=true->BindAt env s.heap x (.ref a)->BindAt env s.heap y (.ref a)->i=j
 disj:∀b,No b->¬Na b
 turns:∀x i a,cx.vars.lookup x=some i->cx.own.contains i=true->(lk pe i).isSome->BindAt env s.heap x (.ref a)->No a
theorem BindAt.same (a:BindAt env h x v) (b:BindAt env h x u):v=u:=by
 cases a with
 | loc m k n e =>
  cases b with
  | loc m' k' n' e' =>
   refine bI n λo es ep h1 h2 h3 h4=>?_;clear n;refine bI n' λo' es' ep' Pq Ml Pr Sl=>?_;clear n';rw[h1] at Pq;cases Pq;rw[h2] at Ml;cases Ml;have:=(h4 x).symm.trans (Sl x);rw[e,e'] at this;exact io this
  | cell c k'=>rw[k] at k';rcases k' with k' | k' <;> cases k'
 | cell c k e f =>
  cases b with
  | loc m k'=>rw[k'] at k;rcases k with k | k <;> cases k
  | cell c' k' e' f' =>
   rw[e] at e';cases e';refine xea f λo h1 h2=>?_;clear f;refine xea f' λo' Pq Ml=>?_;clear f';rw[h1] at Pq;cases Pq;rw[h2] at Ml;cases Ml;rfl
theorem BindAt.keeps (a:BindAt env h x v) (k:∀b o,h.get? b=some o->h'.get? b=some o):BindAt env h' x v:=by
 cases a with
 | loc m q n e=>exact .loc m q (n.keeps k) e
 | cell c q e f=>exact .cell c q e (f.keeps k)
section
variable{cx:Cx}{asg:List Str}{env:Env}{s s':ai}{Na No:Ap}{pe:PEnv}
structure Wider (s:ai) (No:Ap) (s':ai) (No':Ap):Prop where
 pure:Pure s s'
 sub:∀b,No b->No' b
 new:∀b,No' b->No b\/s.heap.objs.size<=b
 low:Low No' s'.heap
theorem Wider.of_pure (x:Pure s s') (h:Low No s.heap):Wider s No s' No:=⟨x,λ_ h=>h,λ_ h=>.inl h,λb hb=>ac (h b hb) x.step.grow⟩
theorem Wider.one (x:Pure s s') (h:Low No s.heap) (h1:s.heap.objs.size<=a) (h2:a<s'.heap.objs.size):Wider s No s' (λb=>No b\/b=a) :=
 ⟨x,λ_ h=>.inl h,λb hb=>hb.elim .inl λe=>.inr (e ▸ h1),λb hb=>hb.elim (λq=>ac (h b q) x.step.grow) λe=>e ▸ h2⟩
theorem Wider.stepAt (x:Wider s No s' No'):Step s.heap (λb=>Na b\/No b) s'.heap (λb=>Na b\/No' b) :=
 ⟨λb o _ e=>x.pure.keep b o e,x.pure.step.grow,λb hb=>hb.elim (λq=>.inl (.inl q)) λq=>(x.new b q).elim (λq=>.inl (.inr q)) .inr⟩
theorem SlotR.wide (r:SlotR cx env s (λb=>Na b\/No b) i v p) (x:Wider s No s' No'):SlotR cx env s' (λb=>Na b\/No' b) i v p:=by
 refine⟨?_,λht y t e=>⟨(r.2 ht y t e).1,ac (r.2 ht y t e).2 (Ext.toks x.pure)⟩⟩;have r1:=r.1;split
 ·rename_i hc;rw[if_pos hc] at r1;refine bV r1 λa e h1 h2 h3=>?_;clear r1;refine(fK a e (h1.elim .inl (λq=>.inr (x.sub _ q))) h2 ?_);cases p <;> dsimp only[OwnR] at h3 ⊢
  ·refine xea h3 λvs h4 h5=>?_;exact(iea vs (h4.at λo e=>x.pure.keep _ _ e) (h5.step x.stepAt))
  ·refine qK h3 λhs Ij hd hk=>?_;exact(o4 hs Ij (hd.keep x.pure.keep) hk)
 ·rename_i hc;rw[if_neg hc] at r1;exact r1.step x.stepAt
theorem Base.pure (b:Base s N) (x:Pure s s'):Base s' N where
 keep:=λa o e=>x.keep a o (b.keep a o e)
 above:=b.above
 size:=aa b.size x.step.grow
 low:=λa h=>ac (b.low a h) x.step.grow
 toks:=ac b.toks (Ext.toks x)
 bare:=x.bare b.bare
theorem EnvR.bind_back (r:EnvR cx asg env s Na No pe) (x:Pure s s') (hy:cx.vars.lookup y=some i) (hp:lk pe i=some p) (b:BindAt env s'.heap y v):BindAt env s.heap y v:=by
 refine xea (r.vars y i p hy hp) λu hu _=>?_;have:=(hu.keeps x.keep).same b;subst this;exact hu
theorem EnvR.wide (r:EnvR cx asg env s Na No pe) (x:Wider s No s' No'):EnvR cx asg env s' Na No' pe where
 base:={(r.base.pure x.pure) with
  above:=λb hb=>hb.elim (λq=>r.base.above b (.inl q)) λq=>(x.new b q).elim (λq=>r.base.above b (.inr q)) λq=>aa r.base.size q
  low:=λb hb=>hb.elim (λq=>ac (r.base.low b (.inl q)) x.pure.step.grow) λq=>x.low b q}
 kind:=r.kind
 glb:=r.glb
 blt:=r.blt
 gl:=r.gl
 cl:=λy hy=>let ⟨h1,c,v,h2,h3⟩:=r.cl y hy;⟨h1,c,v,h2,h3.keeps x.pure.keep⟩
 ns:=let ⟨m,hm⟩:=r.ns;⟨m,hm.keeps x.pure.keep⟩
 noL:=x.sub _ r.noL
 apart:=r.apart
 cellsLow:=λy c h=>ac (r.cellsLow y c h) x.pure.step.grow
 vars:=λy i p h1 h2=>let ⟨v,hb,hs⟩:=r.vars y i p h1 h2;⟨v,hb.keeps x.pure.keep,hs.wide x⟩
 stores:=λy hy=>by
  cases r.stores y hy with
  | loc h=>exact .loc h
  | cell c Jr h1 h2 h3 h4=>exact .cell c Jr h1 h2 (x.sub _ h3) (h4.keeps x.pure.keep)
 inj:=r.inj
 alone:=λy z i j a h1 h2 h3 h4 h5 h6 h7 h8=>by
  refine xe (aq.mp h3) λp hp=>?_;refine xe (aq.mp h4) λq hq=>?_;exact r.alone y z i j a h1 h2 h3 h4 h5 h6 (r.bind_back x.pure h1 hp h7) (r.bind_back x.pure h2 hq h8)
 disj:=λb hb ha=>(x.new b hb).elim (λq=>r.disj b q ha) λq=>ii _ (ac (r.base.low b (.inl ha)) q)
 turns:=λy i a h1 h2 h3 h4=>by
  refine xe (aq.mp h3) λp hp=>?_;exact x.sub _ (r.turns y i a h1 h2 h3 (r.bind_back x.pure h1 hp h4))
theorem EnvR.lowO (r:EnvR cx asg env s Na No pe):Low No s.heap:=λb hb=>r.base.low b (.inr hb)
theorem EnvR.pure (r:EnvR cx asg env s Na No pe) (x:Pure s s'):EnvR cx asg env s' Na No pe:=r.wide (Wider.of_pure x r.lowO)
theorem iG{h:li}{c L:er}{v:Option ag}{m:Str->Option ag}(a:h.IsCell c v) (b:h.Ns L m):c≠L:=by
 rintro rfl
 refine xea a λo h1 h2=>?_;clear a;refine mX b λo' es ep h3 h4 _=>?_;clear b;rw[h1] at h3;cases h3;rw[h2] at h4;cases h4
theorem pV (x:OwnR h N a p) (y:h.IsCell c v):a≠c:=by
 rintro rfl
 refine xea y λo h1 h2=>?_;clear y;cases p <;> dsimp only[OwnR] at x
 ·obtain⟨vs,⟨n,e⟩,_⟩:=x;rw[e] at h1;cases h1;cases h2
 ·obtain⟨_,Ij,⟨o',es,ep,e,_,hd,_⟩,_⟩:=x;rw[e] at h1;cases h1;rw[hd] at h2;cases h2
theorem SlotR.other (r:SlotR cx env s N i v p) (hb:N b0) (hs:sv b0 s.heap h') (Io:∀a,v=.ref a->cx.own.contains i=true->OwnR s.heap N a p->a≠env.locals->a≠b0) (ht:s.toks<=t') :
  SlotR cx env {s with heap:=h',toks:=t'} N i v p:=by
 have S:Step s.heap N h' N:=⟨λb o hn e=>hs.extBut b o (λq=>hn (q ▸ hb)) e,ce hs.1.symm,λ_ q=>.inl q⟩;refine⟨?_,λhtk y t e=>⟨(r.2 htk y t e).1,ac (r.2 htk y t e).2 ht⟩⟩;have r1:=r.1;split
 ·rename_i hc;rw[if_pos hc] at r1;refine bV r1 λa e h1 h2 h3=>?_;clear r1;have Sx:=Io a e hc h3 h2;refine(fK a e h1 h2 ?_);cases p <;> dsimp only[OwnR] at h3 ⊢
  ·refine xea h3 λvs h4 h5=>?_;exact(iea vs (h4.at λo e=>hs.extBut _ _ Sx e) (h5.step S))
  ·refine qK h3 λJs Ij hd hk=>?_;exact(o4 Js Ij (hd.extBut hs.extBut Sx) hk)
 ·rename_i hc;rw[if_neg hc] at r1;exact r1.step S
theorem dC (r:EnvR cx asg env s Na No pe) (hx:x∈asg) (hi:cx.vars.lookup x=some i)
  (hv:SlotR cx env s (λb=>Na b\/No b) i v p)
  (Zi:∀a,v=.ref a->cx.own.contains i=true->No a)
  (X2:∀a,v=.ref a->cx.own.contains i=true->∀y j,cx.vars.lookup y=some j->j≠i->(lk pe j).isSome->cx.own.contains j=true->¬BindAt env s.heap y (.ref a))
  (hQ:∀s' b0,No b0->(b0=env.locals\/env.cells.lookup x=some b0)->sv b0 s.heap s'.heap->s'.gens=s.gens->Ext s No s' No->EnvR cx asg env s' Na No (st pe i p)->Q () s'):wpAny M A (storeName env x v) Q E s:=by
 have key:∀(b0:er) (h':li) (t':Nat),(b0=env.locals\/env.cells.lookup x=some b0)->(∀c u,s.heap.IsCell c u->∃u,h'.IsCell c u)->No b0->sv b0 s.heap h'->s.toks<=t'->(∃m,h'.Ns env.locals m)->BindAt env h' x v ->
   (∀y u,y≠x->BindAt env s.heap y u->BindAt env h' y u)->(∀y∈asg,StoreAt env h' No y)->(∀a p N,OwnR s.heap N a p->a≠env.locals->a≠b0) ->
   Q () {s with heap:=h',toks:=t'}:=by
  intro b0 h' t' Lb hcells hb hs ht Ic Vb X3 Vm hown;have S:Step s.heap No h' No:=⟨λb o hn e=>hs.extBut b o (λq=>hn (q ▸ hb)) e,ce hs.1.symm,λ_ q=>.inl q⟩;have Lr:h'.objs.size=s.heap.objs.size:=hs.1;refine hQ {s with heap:=h',toks:=t'} b0 hb Lb hs rfl ⟨S,λ_ _ e=>e,λq=>q,rfl,rfl,ht⟩ ?_;have back:∀y u,y≠x->(∃j q,cx.vars.lookup y=some j/\lk pe j=some q)->BindAt env h' y u->BindAt env s.heap y u:=by
   rintro y u hy ⟨j,q,h1,h2⟩ Jf
   refine xea (r.vars y j q h1 h2) λz hz _=>?_;have:=(X3 y z hy hz).same Jf;subst this;exact hz
  exact{
   base:={
    keep:=λb o e=>hs.extBut b o (λq=>by have:=r.base.above b0 (.inr hb);have h2:=dL e;rw[q] at h2;exact absurd h2 (av.mpr this)) (r.base.keep b o e)
    above:=r.base.above
    size:=by show _<=h'.objs.size;exact O Lr r.base.size
    low:=λb q=>by show b<h'.objs.size;exact O Lr (r.base.low b q)
    toks:=ac r.base.toks ht
    bare:=r.base.bare}
   kind:=r.kind
   glb:=r.glb
   blt:=r.blt
   gl:=r.gl
   cl:=λy hy=>let ⟨h1,c,v,h2,h3⟩:=r.cl y hy;let ⟨u,hu⟩:=hcells c v h3;⟨h1,c,u,h2,hu⟩
   ns:=Ic
   noL:=r.noL
   apart:=r.apart
   cellsLow:=λy c h=>by show c<h'.objs.size;exact O Lr (r.cellsLow y c h)
   vars:=λy j q h1 h2=>by
    rcases r0 h2 with ⟨rfl,rfl⟩ | ⟨hj,h2⟩
    ·have:y=x:=r.inj y x _ h1 hi;subst this;exact⟨v,Vb,hv.other (.inr hb) hs (λa _ _ ho hl=>hown a _ _ ho hl) ht⟩
    ·have Sy:y≠x:=λe=>by subst e;rw[hi] at h1;exact hj (io h1).symm
     refine xea (r.vars y j q h1 h2) λz hz Mk=>?_;exact⟨z,X3 y z Sy hz,Mk.other (.inr hb) hs (λa _ _ ho hl=>hown a _ _ ho hl) ht⟩
   stores:=Vm
   inj:=r.inj
   alone:=λy z j k a h1 h2 h3 h4 h5 h6 h7 h8=>by
    refine xe (aq.mp h3) λpj h3=>?_;refine xe (aq.mp h4) λpk h4=>?_;rcases r0 h3 with ⟨rfl,rfl⟩ | ⟨hj,Pr⟩ <;> rcases r0 h4 with ⟨rfl,rfl⟩ | ⟨hk,Sl⟩
    ·rfl
    ·have e1:y=x:=r.inj y x _ h1 hi;subst e1;have Sz:z≠y:=λe=>by subst e;rw[h1] at h2;exact hk (io h2).symm
     have e2:=Vb.same h7;exact absurd (back z _ Sz ⟨k,_,h2,Sl⟩ h8) (X2 a e2 h5 z k h2 hk (by refine O Sl ?_;rfl) h6)
    ·have e1:z=x:=r.inj z x _ h2 hi;subst e1;have Sz:y≠z:=λe=>by subst e;rw[h1] at h2;exact hj (io h2)
     have e2:=Vb.same h8;exact absurd (back y _ Sz ⟨j,_,h1,Pr⟩ h7) (X2 a e2 h6 y j h1 hj (by refine O Pr ?_;rfl) h5)
    ·have Sy:y≠x:=λe=>by subst e;rw[hi] at h1;exact hj (io h1).symm
     have Sz:z≠x:=λe=>by subst e;rw[hi] at h2;exact hk (io h2).symm
     exact r.alone y z j k a h1 h2 (by refine O Pr ?_;rfl) (by refine O Sl ?_;rfl) h5 h6 (back y _ Sy ⟨j,_,h1,Pr⟩ h7) (back z _ Sz ⟨k,_,h2,Sl⟩ h8)
   disj:=r.disj
   turns:=λy j a h1 h2 h3 h4=>by
    refine xe (aq.mp h3) λpj h3=>?_;rcases r0 h3 with ⟨rfl,rfl⟩ | ⟨hj,Pr⟩
    ·have e1:y=x:=r.inj y x _ h1 hi;subst e1;exact Zi a (Vb.same h4) h2
    ·have Sy:y≠x:=λe=>by subst e;rw[hi] at h1;exact hj (io h1).symm
     exact r.turns y j a h1 h2 (by refine O Pr ?_;rfl) (back y _ Sy ⟨j,_,h1,Pr⟩ h4)}
 refine xe r.ns λm Ic=>?_;cases r.stores x hx with
 | loc hl =>
  refine wpAny_storeName_local hl Ic (λh' Re Js=>key env.locals h' _ (.inl rfl) (λc u hc=>⟨u,hc.sameBut Js (iG hc Ic)⟩) r.noL Js (lj _) ⟨_,Re⟩ (.loc _ hl Re (by simp)) ?_ ?_ (λa p N _ q=>q)) (by refine O r.kind ?_;rfl)
  ·intro y u hy hb;cases hb with
   | loc m' h1 h2 h3 =>
    refine .loc _ h1 Re ?_;simp only[if_neg hy];have:=BindAt.same (.loc m' h1 h2 h3) (env:=env) (h:=s.heap) (x:=y) (u:=u) (.loc m' h1 h2 h3);refine bI Ic λo es ep a1 a2 a3 a4=>?_;clear Ic;refine bI h2 λo' es' ep' b1 b2 b3 b4=>?_;clear h2;rw[a1] at b1;cases b1;rw[a2] at b2;cases b2;exact(a4 y).symm.trans ((b4 y).trans h3)
   | cell c h1 h2 h3=>exact .cell c h1 h2 (h3.sameBut Js (iG h3 Ic))
  ·intro y hy;cases r.stores y hy with
   | loc h=>exact .loc h
   | cell c Jr h1 h2 h3 h4=>exact .cell c Jr h1 h2 h3 (h4.sameBut Js (iG h4 Ic))
 | cell c Jr hl hc Ls Il =>
  refine wpAny_storeName_cell r.kind hl hc Il λh' Sv Js=>key c h' s.toks (.inr hc) (λc' u Sm=>by
   by_cases e:c'=c
   ·subst e;exact⟨_,Sv⟩
   ·exact⟨u,Sm.sameBut Js e⟩) Ls Js (ah _) ⟨m,Ic.sameBut Js (uc (iG Il Ic))⟩ (.cell c (.inl hl) hc Sv) ?_ ?_ (λa p N ho _=>pV ho Il)
  ·intro y u hy hb;cases hb with
   | loc m' h1 h2 h3=>exact .loc m' h1 (h2.sameBut Js (uc (iG Il h2))) h3
   | cell c' h1 h2 h3=>exact .cell c' h1 h2 (h3.sameBut Js λe=>hy (r.apart y x c' h2 (e ▸ hc)))
  ·intro y hy;cases r.stores y hy with
   | loc h=>exact .loc h
   | cell c' Ta h1 h2 h3 h4 =>
    by_cases e:c'=c
    ·subst e;exact .cell c' _ h1 h2 h3 Sv
    ·exact .cell c' Ta h1 h2 h3 (h4.sameBut Js e)
theorem EnvR.poke (r:EnvR cx asg env s Na No pe) (hb:Na b0) (ho:s.heap.get? b0=some o0) (Il:∀v,o0.data≠.cell v)
  (hk:∀b o,b≠b0->s.heap.get? b=some o->s'.heap.get? b=some o) (hg:s.heap.objs.size<=s'.heap.objs.size) (ht:s.toks<=s'.toks) (Nm:pw s.gens->pw s'.gens):EnvR cx asg env s' Na No pe:=by
 have Ls:¬No b0:=λq=>r.disj b0 q hb;have S:Step s.heap (λb=>Na b\/No b) s'.heap (λb=>Na b\/No b):=⟨λb o hn e=>hk b o (λq=>hn (.inl (q ▸ hb))) e,hg,λ_ q=>.inl q⟩;have Pp:∀c v,s.heap.IsCell c v->c≠b0:=by
  rintro c v ⟨o,h1,h2⟩ rfl
  rw[ho] at h1;cases h1;exact Il _ h2
 have Np:∀c v,s.heap.IsCell c v->s'.heap.IsCell c v:=λc v h=>let ⟨o,h1,h2⟩:=h;⟨o,hk c o (Pp c v h) h1,h2⟩;have hL:env.locals≠b0:=λe=>Ls (e ▸ r.noL);have Ic:∀m,s.heap.Ns env.locals m->s'.heap.Ns env.locals m:=λm h=>let ⟨o,es,ep,x,q⟩:=h;⟨o,es,ep,hk _ _ hL x,q⟩;have hB:∀y v,BindAt env s.heap y v->BindAt env s'.heap y v:=λy v h=>by
  cases h with
  | loc m a b c=>exact .loc m a (Ic m b) c
  | cell c a b d=>exact .cell c a b (Np c _ d)
 have back:∀y i p v,cx.vars.lookup y=some i->lk pe i=some p->BindAt env s'.heap y v->BindAt env s.heap y v:=λy i p v hy hp b=>by
  refine xea (r.vars y i p hy hp) λu hu _=>?_;have:=(hB y u hu).same b;subst this;exact hu
 exact{
  base:={
   keep:=λb o e=>hk b o (λq=>by have:=r.base.above b0 (.inl hb);have h2:=dL e;rw[q] at h2;exact absurd h2 (av.mpr this)) (r.base.keep b o e)
   above:=r.base.above
   size:=aa r.base.size hg
   low:=λb q=>ac (r.base.low b q) hg
   toks:=ac r.base.toks ht
   bare:=Nm r.base.bare}
  kind:=r.kind
  glb:=r.glb
  blt:=r.blt
  gl:=r.gl
  cl:=λy hy=>let ⟨h1,c,v,h2,h3⟩:=r.cl y hy;⟨h1,c,v,h2,Np c v h3⟩
  ns:=let ⟨m,hm⟩:=r.ns;⟨m,Ic m hm⟩
  noL:=r.noL
  apart:=r.apart
  cellsLow:=λy c h=>ac (r.cellsLow y c h) hg
  vars:=λy i p h1 h2=>by
   refine xea (r.vars y i p h1 h2) λv Jf hs=>?_;refine⟨v,hB y v Jf,?_,λh x t e=>⟨(hs.2 h x t e).1,ac (hs.2 h x t e).2 ht⟩⟩;have h3:=hs.1;split
   ·rename_i hc;rw[if_pos hc] at h3;refine bV h3 λa e q1 q2 q3=>?_;clear h3;subst e;have Io:a≠b0:=λe=>Ls (e ▸ r.turns y i a h1 hc (by refine O h2 ?_;rfl) Jf);refine⟨a,rfl,q1,q2,?_⟩;cases p <;> dsimp only[OwnR] at q3 ⊢
    ·refine xea q3 λvs h4 h5=>?_;exact⟨vs,h4.at λo e=>hk _ _ Io e,h5.step S⟩
    ·refine qK q3 λJs Ij hd Nq=>?_;clear q3;refine lD hd λo es ep e q=>?_;exact⟨Js,Ij,⟨o,es,ep,hk _ _ Io e,q⟩,Nq⟩
   ·rename_i hc;rw[if_neg hc] at h3;exact h3.step S
  stores:=λy hy=>by
   cases r.stores y hy with
   | loc h=>exact .loc h
   | cell c Jr h1 h2 h3 h4=>exact .cell c Jr h1 h2 h3 (Np c _ h4)
  inj:=r.inj
  alone:=λy z i j a h1 h2 h3 h4 h5 h6 h7 h8=>by
   refine xe (aq.mp h3) λp hp=>?_;refine xe (aq.mp h4) λq hq=>?_;exact r.alone y z i j a h1 h2 h3 h4 h5 h6 (back y i p _ h1 hp h7) (back z j q _ h2 hq h8)
  disj:=r.disj
  turns:=λy i a h1 h2 h3 h4=>by
   refine xe (aq.mp h3) λp hp=>?_;exact r.turns y i a h1 h2 h3 (back y i p _ h1 hp h4)}
theorem EnvR.pokes{Z Na':Ap}(r:EnvR cx asg env s Na No pe) (hZ:∀b,Z b->Na b) (Il:∀y c,env.cells.lookup y=some c->¬Z c) (n1:∀b,Na b->Na' b) (n2:∀b,Na' b->Na b\/s.heap.objs.size<=b) (n3:Low Na' s'.heap)
  (hk:∀b o,¬Z b->s.heap.get? b=some o->s'.heap.get? b=some o) (hg:s.heap.objs.size<=s'.heap.objs.size) (ht:s.toks<=s'.toks) (Nm:pw s.gens->pw s'.gens):EnvR cx asg env s' Na' No pe:=by
 have Ls:∀b,Z b->¬No b:=λb z q=>r.disj b q (hZ b z);have S:Step s.heap (λb=>Na b\/No b) s'.heap (λb=>Na' b\/No b):=⟨λb o hn e=>hk b o (λq=>hn (.inl (hZ b q))) e,hg,λb q=>q.elim (λq=>(n2 b q).elim (λq=>.inl (.inl q)) .inr) λq=>.inl (.inr q)⟩;have Np:∀c v,¬Z c->s.heap.IsCell c v->s'.heap.IsCell c v:=λc v hz h=>let ⟨o,h1,h2⟩:=h;⟨o,hk c o hz h1,h2⟩;have hL:¬Z env.locals:=λe=>Ls _ e r.noL;have Ic:∀m,s.heap.Ns env.locals m->s'.heap.Ns env.locals m:=λm h=>let ⟨o,es,ep,x,q⟩:=h;⟨o,es,ep,hk _ _ hL x,q⟩;have hB:∀y v,BindAt env s.heap y v->BindAt env s'.heap y v:=λy v h=>by
  cases h with
  | loc m a b c=>exact .loc m a (Ic m b) c
  | cell c a b d=>exact .cell c a b (Np c _ (Il y c b) d)
 have back:∀y i p v,cx.vars.lookup y=some i->lk pe i=some p->BindAt env s'.heap y v->BindAt env s.heap y v:=λy i p v hy hp b=>by
  refine xea (r.vars y i p hy hp) λu hu _=>?_;have:=(hB y u hu).same b;subst this;exact hu
 exact{
  base:={
   keep:=λb o e=>hk b o (λq=>absurd (dL e) (av.mpr (r.base.above b (.inl (hZ b q))))) (r.base.keep b o e)
   above:=λb q=>q.elim (λq=>(n2 b q).elim (λq=>r.base.above b (.inl q)) λq=>aa r.base.size q) λq=>r.base.above b (.inr q)
   size:=aa r.base.size hg
   low:=λb q=>q.elim (n3 b) λq=>ac (r.base.low b (.inr q)) hg
   toks:=ac r.base.toks ht
   bare:=Nm r.base.bare}
  kind:=r.kind
  glb:=r.glb
  blt:=r.blt
  gl:=r.gl
  cl:=λy hy=>let ⟨h1,c,v,h2,h3⟩:=r.cl y hy;⟨h1,c,v,h2,Np c v (Il y c h2) h3⟩
  ns:=let ⟨m,hm⟩:=r.ns;⟨m,Ic m hm⟩
  noL:=r.noL
  apart:=r.apart
  cellsLow:=λy c h=>ac (r.cellsLow y c h) hg
  vars:=λy i p h1 h2=>by
   refine xea (r.vars y i p h1 h2) λv Jf hs=>?_;refine⟨v,hB y v Jf,?_,λh x t e=>⟨(hs.2 h x t e).1,ac (hs.2 h x t e).2 ht⟩⟩;have h3:=hs.1;split
   ·rename_i hc;rw[if_pos hc] at h3;refine bV h3 λa e q1 q2 q3=>?_;clear h3;subst e;have Io:¬Z a:=λe=>Ls a e (r.turns y i a h1 hc (by refine O h2 ?_;rfl) Jf);refine⟨a,rfl,q1.elim (λq=>.inl (n1 a q)) .inr,q2,?_⟩;cases p <;> dsimp only[OwnR] at q3 ⊢
    ·refine xea q3 λvs h4 h5=>?_;exact⟨vs,h4.at λo e=>hk _ _ Io e,h5.step S⟩
    ·refine qK q3 λJs Ij hd Nq=>?_;clear q3;refine lD hd λo es ep e q=>?_;exact⟨Js,Ij,⟨o,es,ep,hk _ _ Io e,q⟩,Nq⟩
   ·rename_i hc;rw[if_neg hc] at h3;exact h3.step S
  stores:=λy hy=>by
   cases r.stores y hy with
   | loc h=>exact .loc h
   | cell c Jr h1 h2 h3 h4=>exact .cell c Jr h1 h2 h3 (Np c _ (Il y c h2) h4)
  inj:=r.inj
  alone:=λy z i j a h1 h2 h3 h4 h5 h6 h7 h8=>by
   refine xe (aq.mp h3) λp hp=>?_;refine xe (aq.mp h4) λq hq=>?_;exact r.alone y z i j a h1 h2 h3 h4 h5 h6 (back y i p _ h1 hp h7) (back z j q _ h2 hq h8)
  disj:=λb hb ha=>(n2 b ha).elim (r.disj b hb) λq=>ii _ (ac (r.base.low b (.inr hb)) q)
  turns:=λy i a h1 h2 h3 h4=>by
   refine xe (aq.mp h3) λp hp=>?_;exact r.turns y i a h1 h2 h3 (back y i p _ h1 hp h4)}
theorem EnvR.wideA (r:EnvR cx asg env s Na No pe) (x:Pure s s') (h1:∀b,Na b->Na' b) (h2:∀b,Na' b->Na b\/s.heap.objs.size<=b) (h3:Low Na' s'.heap):EnvR cx asg env s' Na' No pe:=by
 have r':=r.pure x;have S:Step s.heap (λb=>Na b\/No b) s'.heap (λb=>Na' b\/No b):=⟨λb o _ e=>x.keep b o e,x.step.grow,λb q=>q.elim (λq=>(h2 b q).elim (λq=>.inl (.inl q)) .inr) λq=>.inl (.inr q)⟩;exact{r' with
  base:={r'.base with
   above:=λb q=>q.elim (λq=>(h2 b q).elim (λq=>r.base.above b (.inl q)) λq=>aa r.base.size q) λq=>r.base.above b (.inr q)
   low:=λb q=>q.elim (h3 b) λq=>r'.base.low b (.inr q)}
  vars:=λy i p q1 q2=>by
   refine xea (r.vars y i p q1 q2) λv hb hs=>?_;refine(gE v (hb.keeps x.keep) ?_ (λh z t e=>⟨(hs.2 h z t e).1,ac (hs.2 h z t e).2 (Ext.toks x)⟩));have h3:=hs.1;split
   ·rename_i hc;rw[if_pos hc] at h3;refine bV h3 λa e q1 q2 q3=>?_;clear h3;refine(fK a e (q1.elim (λq=>.inl (h1 a q)) .inr) q2 ?_);cases p <;> dsimp only[OwnR] at q3 ⊢
    ·refine xea q3 λvs h4 h5=>?_;exact(iea vs (h4.at λo e=>x.keep _ _ e) (h5.step S))
    ·refine qK q3 λJs Ij hd Nq=>?_;exact(o4 Js Ij (hd.keep x.keep) Nq)
   ·rename_i hc;rw[if_neg hc] at h3;exact h3.step S
  disj:=λb hb ha=>(h2 b ha).elim (r.disj b hb) λq=>ii _ (ac (r.base.low b (.inr hb)) q)}
theorem EnvR.narrow (r:EnvR cx asg env s Na' No pe) (h1:∀b,Na b->Na' b):EnvR cx asg env s Na No pe :=
 {r with
  base:={r.base with
   above:=λb q=>r.base.above b (q.elim (λq=>.inl (h1 b q)) .inr)
   low:=λb q=>r.base.low b (q.elim (λq=>.inl (h1 b q)) .inr)}
  vars:=λy i p q1 q2=>by
   refine xea (r.vars y i p q1 q2) λv hb hs=>?_;refine(gE v hb ?_ hs.2);have h3:=hs.1;split
   ·rename_i hc;rw[if_pos hc] at h3;refine bV h3 λa e q3 q4 q5=>?_;clear h3;subst e;refine(fK a rfl (.inr (r.turns y i a q1 hc (by refine O q2 ?_;rfl) hb)) q4 ?_);cases p <;> dsimp only[OwnR] at q5 ⊢
    ·refine xea q5 λvs h4 h5=>?_;exact(iea vs h4 (h5.weak' λb q=>q.elim (λq=>.inl (h1 b q)) .inr))
    ·exact q5
   ·rename_i hc;rw[if_neg hc] at h3;exact h3.weak' λb q=>q.elim (λq=>.inl (h1 b q)) .inr
  disj:=λb hb ha=>r.disj b hb (h1 b ha)}
theorem EnvR.grow (r:EnvR cx asg env s Na No pe) (x:Pure s s') (h1:∀b,Na b->Na' b) (h2:∀b,Na' b->Na b\/s.heap.objs.size<=b) (h3:Low Na' s'.heap)
  (k1:∀b,No b->No' b) (k2:∀b,No' b->No b\/s.heap.objs.size<=b) (k3:Low No' s'.heap) (hd:∀b,No' b->¬Na' b):EnvR cx asg env s' Na' No' pe:=by
 have r':=r.wide (No':=No') ⟨x,k1,k2,k3⟩;have S:Step s.heap (λb=>Na b\/No b) s'.heap (λb=>Na' b\/No' b):=⟨λb o _ e=>x.keep b o e,x.step.grow,λb q=>q.elim (λq=>(h2 b q).elim (λq=>.inl (.inl q)) .inr) λq=>(k2 b q).elim (λq=>.inl (.inr q)) .inr⟩;exact{r' with
  base:={r'.base with
   above:=λb q=>q.elim (λq=>(h2 b q).elim (λq=>r.base.above b (.inl q)) λq=>aa r.base.size q) λq=>r'.base.above b (.inr q)
   low:=λb q=>q.elim (h3 b) λq=>r'.base.low b (.inr q)}
  vars:=λy i p q1 q2=>by
   refine xea (r.vars y i p q1 q2) λv hb hs=>?_;refine(gE v (hb.keeps x.keep) ?_ (λh z t e=>⟨(hs.2 h z t e).1,ac (hs.2 h z t e).2 (Ext.toks x)⟩));have h3:=hs.1;split
   ·rename_i hc;rw[if_pos hc] at h3;refine bV h3 λa e q1 q2 q3=>?_;clear h3;refine(fK a e (q1.elim (λq=>.inl (h1 a q)) (λq=>.inr (k1 a q))) q2 ?_);cases p <;> dsimp only[OwnR] at q3 ⊢
    ·refine xea q3 λvs h4 h5=>?_;exact(iea vs (h4.at λo e=>x.keep _ _ e) (h5.step S))
    ·refine qK q3 λJs Ij hd Nq=>?_;exact(o4 Js Ij (hd.keep x.keep) Nq)
   ·rename_i hc;rw[if_neg hc] at h3;exact h3.step S
  disj:=hd}
end
mutual
inductive PE where
 | cst (c:PV)
 | gcst (c:PV)
 | var (i:Nat)
 | bin (op:iD) (a b:PE)
 | neg (a:PE)
 | not (a:PE)
 | and (a b:PE)
 | or (a b:PE)
 | ite (t a b:PE)
 | cmp (op:Ey) (a b:PE)
 | cmp2 (op Ks:Ey) (a b c:PE)
 | sub (a i:PE)
 | slc (a lo hi st:PE)
 | list (es:PEs)
 | tup (es:PEs)
 | comp (Iw:PE) (tgt:Nat) (src:PI) (At:Bool) (cond:PE)
 | call (f:Nat) (es:PEs)
 | bi (f:Bi) (es:PEs)
 | me (f:Me) (o:PE) (es:PEs)
inductive PEs where
 | nil
 | cons (e:PE) (es:PEs)
inductive PI where
 | val (e:PE)
 | rng1 (e:PE)
 | rng2 (e f:PE)
 | rng3 (e f:PE)
end
inductive Fl where
 | next
 | brk
 | ret (p:PV)
mutual
inductive PS where
 | asg (i:Nat) (e:PE)
 | asgO (i:Nat) (e:PE)
 | newD (i:Nat)
 | asgT (ts:List Nat) (e:PE)
 | aug (i:Nat) (op:iD) (e:PE)
 | app (i:Nat) (e:PE)
 | pop (j i:Nat)
 | setI (i:Nat) (k v:PE)
 | ite (t:PE) (a b:PSs)
 | for (ts:List Nat) (src:PI) (body:PSs)
 | esc (ts:List Nat) (e:PE) (body:PSs)
 | while (fuel:Nat) (t:PE) (body:PSs)
 | ret (e:PE)
 | brk
inductive PSs where
 | nil
 | cons (s:PS) (ss:PSs)
end
noncomputable def m8:PV->Option (List PV)
 | .lst l=>if l.length<=100000 then some l else none
 | .tup l=>if l.length<=100000 then some l else none
 | .str x=>if x.length<=100000/\x.cps.all (·<128) then some (x.cps.toList.map λc=>.str ⟨#[c]⟩) else none
 | _=>none
noncomputable def kF (a b:Int):Option (List PV) :=
 if -(2 ^ 40)<a/\a<2 ^ 40/\-(2 ^ 40)<b/\b<2 ^ 40/\b-a<=100000 then some ((cv (b-a).toNat).map λk:Nat=>PV.int (a+(k:Int))) else none
noncomputable def r7 (a b:Int):Option (List PV) :=
 if -(2 ^ 40)<a/\a<2 ^ 40/\-(2 ^ 40)<b/\b<2 ^ 40/\a-b<=100000 then some ((cv (a-b).toNat).map λk:Nat=>PV.int (a-(k:Int))) else none
def dW:List Nat->List PV->PEnv->Option PEnv
 | [],l,pe=>match l with
  | []=>some pe
  | _::_=>none
 | i::ts,l,pe=>match l with
  | []=>none
  | p::ps=>dW ts ps (st pe i p)
def fC (ts:List Nat) (p:PV) (pe:PEnv):Option PEnv:=match ts with
 | []=>none
 | i::ts=>match ts with
  | []=>some (st pe i p)
  | j::ts=>match p with
   | .tup l=>dW (i::j::ts) l pe
   | .lst l=>dW (i::j::ts) l pe
   | _=>none
def cF (c:PEnv->Option PV) (e:PEnv->Option PV) (At:Bool) (tg:Nat) (pe:PEnv):List PV->Option (List PV)
 | []=>some []
 | p::l=>match (if At then c (st pe tg p) else some (.bool true)) with
  | some (.bool true)=>match e (st pe tg p),cF c e At tg pe l with
   | some v,some r=>some (v::r)
   | _,_=>none
  | some (.bool false)=>cF c e At tg pe l
  | _=>none
theorem l7 (h1:ee (st pe tg p)=some v) (h2:cF cc ee false tg pe l=some r):cF cc ee false tg pe (p::l)=some (v::r):=by
 show(match ee (st pe tg p),cF cc ee false tg pe l with | some v,some r=>some (v::r) | _,_=>none)=_;rw[h1,h2]
theorem O2 (h:cc (st pe tg p)=some (.bool false)) (h2:cF cc ee true tg pe l=some r):cF cc ee true tg pe (p::l)=some r:=by
 show(match cc (st pe tg p) with
  | some (.bool true)=>(match ee (st pe tg p),cF cc ee true tg pe l with | some v,some r=>some (v::r) | _,_=>none)
  | some (.bool false)=>cF cc ee true tg pe l
  | _=>none)=_
 rw[h];exact h2
theorem O3 (h:cc (st pe tg p)=some (.bool true)) (h1:ee (st pe tg p)=some v) (h2:cF cc ee true tg pe l=some r):cF cc ee true tg pe (p::l)=some (v::r):=by
 show(match cc (st pe tg p) with
  | some (.bool true)=>(match ee (st pe tg p),cF cc ee true tg pe l with | some v,some r=>some (v::r) | _,_=>none)
  | some (.bool false)=>cF cc ee true tg pe l
  | _=>none)=_
 rw[h];show(match ee (st pe tg p),cF cc ee true tg pe l with | some v,some r=>some (v::r) | _,_=>none)=_;rw[h1,h2]
noncomputable def eB:PV->Option (Option Int)
 | .none=>some none
 | .int i=>some (some i)
 | _=>none
theorem kG:eB .none=some none:=rfl
theorem kH:eB (.int i)=some (some i):=rfl
theorem r8:m8 (.lst l)=if l.length<=100000 then some l else none:=rfl
theorem r9:m8 (.tup l)=if l.length<=100000 then some l else none:=rfl
mutual
def aA (F:Fn):PE->PEnv->Option PV
 | .cst c,_=>some c
 | .gcst c,_=>some c
 | .var i,pe=>lk pe i
 | .bin op a b,pe=>match aA F a pe,aA F b pe with
  | some x,some y=>dM op x y
  | _,_=>none
 | .neg a,pe=>match aA F a pe with
  | some (.int x)=>some (.int (-x))
  | _=>none
 | .not a,pe=>match aA F a pe with
  | some (.bool x)=>some (.bool (!x))
  | _=>none
 | .and a b,pe=>match aA F a pe with
  | some (.bool true)=>match aA F b pe with
   | some (.bool x)=>some (.bool x)
   | _=>none
  | some (.bool false)=>some (.bool false)
  | _=>none
 | .or a b,pe=>match aA F a pe with
  | some (.bool false)=>match aA F b pe with
   | some (.bool x)=>some (.bool x)
   | _=>none
  | some (.bool true)=>some (.bool true)
  | _=>none
 | .ite t a b,pe=>match aA F t pe with
  | some (.bool true)=>aA F a pe
  | some (.bool false)=>aA F b pe
  | _=>none
 | .cmp op a b,pe=>match aA F a pe,aA F b pe with
  | some x,some y=>(bF op x y).map .bool
  | _,_=>none
 | .cmp2 op Ks a b c,pe=>match aA F a pe,aA F b pe with
  | some x,some y=>match bF op x y with
   | some true=>match aA F c pe with
    | some z=>(bF Ks y z).map .bool
    | none=>none
   | some false=>some (.bool false)
   | none=>none
  | _,_=>none
 | .sub a i,pe=>match aA F a pe,aA F i pe with
  | some x,some y=>cX x y
  | _,_=>none
 | .slc a lo hi st,pe=>match aA F a pe,aA F lo pe,aA F hi pe,aA F st pe with
  | some x,some l,some h,some s=>match eB l,eB h,eB s with
   | some l,some h,some s=>cY x l h s
   | _,_,_=>none
  | _,_,_,_=>none
 | .list es,pe=>(bK F es pe).map .lst
 | .tup es,pe=>(bK F es pe).map .tup
 | .comp Iw tg src At c,pe=>match fH F src pe with
  | some items=>(cF (aA F c) (aA F Iw) At tg pe items).map .lst
  | none=>none
 | .call f es,pe=>match bK F es pe with
  | some l=>F f l
  | none=>none
 | .bi f es,pe=>match bK F es pe with
  | some l=>biF f l
  | none=>none
 | .me f o es,pe=>match aA F o pe,bK F es pe with
  | some x,some l=>meF f x l
  | _,_=>none
def bK (F:Fn):PEs->PEnv->Option (List PV)
 | .nil,_=>some []
 | .cons e es,pe=>match aA F e pe,bK F es pe with
  | some x,some l=>some (x::l)
  | _,_=>none
def fH (F:Fn):PI->PEnv->Option (List PV)
 | .val e,pe=>match aA F e pe with
  | some p=>m8 p
  | none=>none
 | .rng1 e,pe=>match aA F e pe with
  | some (.int n)=>kF 0 n
  | _=>none
 | .rng2 e f,pe=>match aA F e pe,aA F f pe with
  | some (.int a),some (.int b)=>kF a b
  | _,_=>none
 | .rng3 e f,pe=>match aA F e pe,aA F f pe with
  | some (.int a),some (.int b)=>r7 a b
  | _,_=>none
end
def dD (body:PEnv->Option (PEnv × Fl)) (tg:List Nat):List PV->PEnv->Option (PEnv × Fl)
 | [],pe=>some (pe,.next)
 | p::l,pe=>match fC tg p pe with
  | none=>none
  | some Jk=>match body Jk with
   | some (Ia,.next)=>dD body tg l Ia
   | some (Ia,.brk)=>some (Ia,.next)
   | some (Ia,.ret v)=>some (Ia,.ret v)
   | none=>none
theorem BM (h:fC tg p pe=some Jk) (h1:body Jk=some x):dD body tg (p::l) pe=match (generalizing:=false) x with
   | (Ia,.next)=>dD body tg l Ia
   | (Ia,.brk)=>some (Ia,.next)
   | (Ia,.ret v)=>some (Ia,.ret v):=by
 show(match fC tg p pe with
  | none=>none
  | some Jk=>match body Jk with
   | some (Ia,.next)=>dD body tg l Ia
   | some (Ia,.brk)=>some (Ia,.next)
   | some (Ia,.ret v)=>some (Ia,.ret v)
   | none=>none)=_
 rw[h];show(match body Jk with
   | some (Ia,.next)=>dD body tg l Ia
   | some (Ia,.brk)=>some (Ia,.next)
   | some (Ia,.ret v)=>some (Ia,.ret v)
   | none=>none)=_
 rw[h1];obtain⟨a,b⟩:=x;cases b <;> rfl
noncomputable def eX (t:PEnv->Option PV) (body:PEnv->Option (PEnv × Fl)):Nat->PEnv->Option (PEnv × Fl)
 | 0,_=>none
 | n+1,pe=>match t pe with
  | some (.bool false)=>some (pe,.next)
  | some (.bool true)=>match body pe with
   | some (Ia,.next)=>eX t body n Ia
   | some (Ia,.brk)=>some (Ia,.next)
   | some (Ia,.ret v)=>some (Ia,.ret v)
   | none=>none
  | _=>none
noncomputable def eK:Nat->Bool->List Nat->List PV
 | k,true,[]=>[.tup [.int ((k:Int)-1),.str ⟨#[92]⟩]]
 | _,false,[]=>[]
 | k,true,c::l=>.tup [.int k,.str ⟨#[92,c]⟩]::eK (k+1) false l
 | k,false,c::l=>if c=92 then eK (k+1) true l else .tup [.int k,.str ⟨#[c]⟩]::eK (k+1) false l
theorem BN:eK k true []=[.tup [.int ((k:Int)-1),.str ⟨#[92]⟩]]:=rfl
theorem BO:eK k false []=[]:=rfl
theorem BP:eK k true (c::l)=.tup [.int k,.str ⟨#[92,c]⟩]::eK (k+1) false l:=rfl
theorem BQ:eK k false (c::l)=if c=92 then eK (k+1) true l else .tup [.int k,.str ⟨#[c]⟩]::eK (k+1) false l:=rfl
def eO:PV->Option (List PV)
 | .str x=>if x.length<=10000/\x.cps.all (·<128) then some (eK 0 false x.cps.toList) else none
 | _=>none
noncomputable def wW:iD->PV->PV->Option PV
 | .Add,.int x,.int y=>some (.int (x+y))
 | .Sub,.int x,.int y=>some (.int (x-y))
 | .Add,.str x,.str y=>if x.length+y.length<=100000 then some (.str (x++y)) else none
 | _,_,_=>none
mutual
def cP (F:Fn):PS->PEnv->Option (PEnv × Fl)
 | .asg i e,pe=>match aA F e pe with
  | some p=>some (st pe i p,.next)
  | none=>none
 | .asgO i e,pe=>match aA F e pe with
  | some (.lst l)=>some (st pe i (.lst l),.next)
  | _=>none
 | .newD i,pe=>some (st pe i (.dcti []),.next)
 | .asgT ts e,pe=>match aA F e pe with
  | some p=>match fC ts p pe with
   | some pe'=>some (pe',.next)
   | none=>none
  | none=>none
 | .aug i op e,pe=>match lk pe i,aA F e pe with
  | some x,some y=>match wW op x y with
   | some z=>some (st pe i z,.next)
   | none=>none
  | _,_=>none
 | .app i e,pe=>match lk pe i,aA F e pe with
  | some (.lst x),some y=>if x.length<=100000 then some (st pe i (.lst (x++[y])),.next) else none
  | _,_=>none
 | .pop j i,pe=>match lk pe i with
  | some (.lst x)=>match x.getLast? with
   | some y=>if x.length<=100000 then some (st (st pe i (.lst x.dropLast)) j y,.next) else none
   | none=>none
  | _=>none
 | .setI i k v,pe=>match lk pe i,aA F k pe,aA F v pe with
  | some (.dcti l),some (.int k),some (.str v) =>
   if (l.lookup k).isSome||decide (l.length>10000) then none else some (st pe i (.dcti (l++[(k,.t v)])),.next)
  | _,_,_=>none
 | .ite t a b,pe=>match aA F t pe with
  | some (.bool true)=>aE F a pe
  | some (.bool false)=>aE F b pe
  | _=>none
 | .for ts src body,pe=>match fH F src pe with
  | some items=>dD (aE F body) ts items pe
  | none=>none
 | .esc ts e body,pe=>match aA F e pe with
  | some p=>match eO p with
   | some items=>dD (aE F body) ts items pe
   | none=>none
  | none=>none
 | .while n t body,pe=>eX (aA F t) (aE F body) n pe
 | .ret e,pe=>match aA F e pe with
  | some p=>some (pe,.ret p)
  | none=>none
 | .brk,pe=>some (pe,.brk)
def aE (F:Fn):PSs->PEnv->Option (PEnv × Fl)
 | .nil,pe=>some (pe,.next)
 | .cons s ss,pe=>match cP F s pe with
  | some (pe',.next)=>aE F ss pe'
  | r=>r
end
theorem a7{α:Type}{m n:Nat}{f:m=n->Option α}{x:α}(h:(if h:m=n then f h else none)=some x):∃c,f c=some x:=by
 by_cases c:m=n
 ·rw[dif_pos c] at h;exact⟨c,h⟩
 ·rw[dif_neg c] at h;exact nn h
theorem aD{α:Type}{o:Option α}{f:α->Bool}(h:o.any f=true):∃x,o=some x/\f x=true:=by
 cases o with
 | none=>exact nf h
 | some x=>exact(iea x rfl h)
noncomputable def lz0{α:Type}(l:List α):Bool:=l.isEmpty
theorem cK{α:Type}{l:List α}(h:lz0 l=true):l=[]:=by cases l with | nil=>rfl | cons=>exact nf h
noncomputable def lz1{α:Type}(l:List α):Option α:=match l with
 | []=>none
 | a::l=>if l.isEmpty then some a else none
theorem cQ{α:Type}{l:List α}{a:α}(h:lz1 l=some a):l=[a]:=by
 cases l with
 | nil=>exact nn h
 | cons b l=>exact O (cK (aL h).1) (O (sm (aL h).2) rfl)
def lz2{α:Type}(l:List α):Option (α × α):=match l with
 | []=>none
 | a::l=>(lz1 l).map λb=>(a,b)
theorem iZ{α:Type}{l:List α}{x:α × α}(h:lz2 l=some x):l=[x.1,x.2]:=by
 cases l with
 | nil=>exact nn h
 | cons b l=>apply gW (bj.mp h);intro c h1;exact O (cQ h1) rfl
def lz3{α:Type}(l:List α):Option (α × α × α):=match l with
 | []=>none
 | a::l=>(lz2 l).map λb=>(a,b)
theorem O4{α:Type}{l:List α}{x:α × α × α}(h:lz3 l=some x):l=[x.1,x.2.1,x.2.2]:=by
 cases l with
 | nil=>exact nn h
 | cons b l=>apply gW (bj.mp h);intro c h1;exact O (iZ h1) rfl
noncomputable def BR (e:ao):Option (Ez):=if h:e.ctorIdx=19 then th (motive_1:=λ_=>Option (Ez)) e h (λk _ _=>some k) else none
theorem sA{e:ao}{x:Ez}(h:BR e=some x):∃n' p',e=.Constant x n' p':=by
 obtain⟨c,h⟩:=a7 h;exact th (motive_1:=λe=>∀c,th (motive_1:=λ_=>Option (Ez)) e c (λk _ _=>some k)=some x->∃n' p',e=.Constant x n' p') e c (λ_ _ _ c h=>by cases sm h;exact(iee _ _ rfl)) c h
noncomputable def lH (e:ao):Option (Str):=if h:e.ctorIdx=23 then xp (motive_1:=λ_=>Option (Str)) e h (λx1 _=>some x1) else none
theorem fD{e:ao}{x:Str}(h:lH e=some x):∃p',e=.Name x p':=by
 obtain⟨c,h⟩:=a7 h;exact xp (motive_1:=λe=>∀c,xp (motive_1:=λ_=>Option (Str)) e c (λx1 _=>some x1)=some x->∃p',e=.Name x p') e c (λ_ _ c h=>by cases sm h;exact⟨_,rfl⟩) c h
noncomputable def VW (e:ao):Option (ao × iD × ao):=if h:e.ctorIdx=2 then wn (motive_1:=λ_=>Option (ao × iD × ao)) e h (λl o r _=>some (l,o,r)) else none
theorem JA{e:ao}{x:ao × iD × ao}(h:VW e=some x):∃p',e=.BinOp x.1 x.2.1 x.2.2 p':=by
 obtain⟨c,h⟩:=a7 h;exact wn (motive_1:=λe=>∀c,wn (motive_1:=λ_=>Option (ao × iD × ao)) e c (λl o r _=>some (l,o,r))=some x->∃p',e=.BinOp x.1 x.2.1 x.2.2 p') e c (λ_ _ _ _ c h=>by cases sm h;exact⟨_,rfl⟩) c h
noncomputable def vUn (e:ao):Option (Ay × ao):=if h:e.ctorIdx=3 then ud (motive_1:=λ_=>Option (Ay × ao)) e h (λo a _=>some (o,a)) else none
theorem wX{e:ao}{x:Ay × ao}(h:vUn e=some x):∃p',e=.UnaryOp x.1 x.2 p':=by
 obtain⟨c,h⟩:=a7 h;exact ud (motive_1:=λe=>∀c,ud (motive_1:=λ_=>Option (Ay × ao)) e c (λo a _=>some (o,a))=some x->∃p',e=.UnaryOp x.1 x.2 p') e c (λ_ _ _ c h=>by cases sm h;exact⟨_,rfl⟩) c h
noncomputable def JB (e:ao):Option (Du × List ao):=if h:e.ctorIdx=0 then uy (motive_1:=λ_=>Option (Du × List ao)) e h (λo l _=>some (o,l)) else none
theorem vI{e:ao}{x:Du × List ao}(h:JB e=some x):∃p',e=.BoolOp x.1 x.2 p':=by
 obtain⟨c,h⟩:=a7 h;exact uy (motive_1:=λe=>∀c,uy (motive_1:=λ_=>Option (Du × List ao)) e c (λo l _=>some (o,l))=some x->∃p',e=.BoolOp x.1 x.2 p') e c (λ_ _ _ c h=>by cases sm h;exact⟨_,rfl⟩) c h
noncomputable def vIf (e:ao):Option (ao × ao × ao):=if h:e.ctorIdx=5 then wo (motive_1:=λ_=>Option (ao × ao × ao)) e h (λc1 a b _=>some (c1,a,b)) else none
theorem O5{e:ao}{x:ao × ao × ao}(h:vIf e=some x):∃p',e=.IfExp x.1 x.2.1 x.2.2 p':=by
 obtain⟨c,h⟩:=a7 h;exact wo (motive_1:=λe=>∀c,wo (motive_1:=λ_=>Option (ao × ao × ao)) e c (λc1 a b _=>some (c1,a,b))=some x->∃p',e=.IfExp x.1 x.2.1 x.2.2 p') e c (λ_ _ _ _ c h=>by cases sm h;exact⟨_,rfl⟩) c h
noncomputable def TM (e:ao):Option (ao × List Ey × List ao):=if h:e.ctorIdx=15 then ue (motive_1:=λ_=>Option (ao × List Ey × List ao)) e h (λl o r _=>some (l,o,r)) else none
theorem zC{e:ao}{x:ao × List Ey × List ao}(h:TM e=some x):∃p',e=.Compare x.1 x.2.1 x.2.2 p':=by
 obtain⟨c,h⟩:=a7 h;exact ue (motive_1:=λe=>∀c,ue (motive_1:=λ_=>Option (ao × List Ey × List ao)) e c (λl o r _=>some (l,o,r))=some x->∃p',e=.Compare x.1 x.2.1 x.2.2 p') e c (λ_ _ _ _ c h=>by cases sm h;exact⟨_,rfl⟩) c h
noncomputable def O6 (e:ao):Option (ao × ao):=if h:e.ctorIdx=21 then sd (motive_1:=λ_=>Option (ao × ao)) e h (λa i _=>some (a,i)) else none
theorem sB{e:ao}{x:ao × ao}(h:O6 e=some x):∃p',e=.Subscript x.1 x.2 p':=by
 obtain⟨c,h⟩:=a7 h;exact sd (motive_1:=λe=>∀c,sd (motive_1:=λ_=>Option (ao × ao)) e c (λa i _=>some (a,i))=some x->∃p',e=.Subscript x.1 x.2 p') e c (λ_ _ _ c h=>by cases sm h;exact⟨_,rfl⟩) c h
noncomputable def JC (e:ao):Option (Option ao × Option ao × Option ao):=if h:e.ctorIdx=26 then wq (motive_1:=λ_=>Option (Option ao × Option ao × Option ao)) e h (λl u s _=>some (l,u,s)) else none
theorem BS{e:ao}{x:Option ao × Option ao × Option ao}(h:JC e=some x):∃p',e=.Slice x.1 x.2.1 x.2.2 p':=by
 obtain⟨c,h⟩:=a7 h;exact wq (motive_1:=λe=>∀c,wq (motive_1:=λ_=>Option (Option ao × Option ao × Option ao)) e c (λl u s _=>some (l,u,s))=some x->∃p',e=.Slice x.1 x.2.1 x.2.2 p') e c (λ_ _ _ _ c h=>by cases sm h;exact⟨_,rfl⟩) c h
noncomputable def SA (e:ao):Option (List ao):=if h:e.ctorIdx=24 then xq (motive_1:=λ_=>Option (List ao)) e h (λl _=>some l) else none
theorem F1{e:ao}{x:List ao}(h:SA e=some x):∃p',e=.List x p':=by
 obtain⟨c,h⟩:=a7 h;exact xq (motive_1:=λe=>∀c,xq (motive_1:=λ_=>Option (List ao)) e c (λl _=>some l)=some x->∃p',e=.List x p') e c (λ_ _ c h=>by cases sm h;exact⟨_,rfl⟩) c h
noncomputable def F2 (e:ao):Option (List ao):=if h:e.ctorIdx=25 then pz (motive_1:=λ_=>Option (List ao)) e h (λl _ _=>some l) else none
theorem sC{e:ao}{x:List ao}(h:F2 e=some x):∃k' p',e=.Tuple x k' p':=by
 obtain⟨c,h⟩:=a7 h;exact pz (motive_1:=λe=>∀c,pz (motive_1:=λ_=>Option (List ao)) e c (λl _ _=>some l)=some x->∃k' p',e=.Tuple x k' p') e c (λ_ _ _ c h=>by cases sm h;exact(iee _ _ rfl)) c h
noncomputable def SD (e:ao):Option (List (Option ao) × List ao):=if h:e.ctorIdx=6 then xt (motive_1:=λ_=>Option (List (Option ao) × List ao)) e h (λk v _=>some (k,v)) else none
theorem F3{e:ao}{x:List (Option ao) × List ao}(h:SD e=some x):∃p',e=.Dict x.1 x.2 p':=by
 obtain⟨c,h⟩:=a7 h;exact xt (motive_1:=λe=>∀c,xt (motive_1:=λ_=>Option (List (Option ao) × List ao)) e c (λk v _=>some (k,v))=some x->∃p',e=.Dict x.1 x.2 p') e c (λ_ _ _ c h=>by cases sm h;exact⟨_,rfl⟩) c h
noncomputable def SE (e:ao):Option (ao × List rf × md):=if h:e.ctorIdx=8 then qe (motive_1:=λ_=>Option (ao × List rf × md)) e h (λa g s _=>some (a,g,s)) else none
theorem F4{e:ao}{x:ao × List rf × md}(h:SE e=some x):∃p',e=.ListComp x.1 x.2.1 x.2.2 p':=by
 obtain⟨c,h⟩:=a7 h;exact qe (motive_1:=λe=>∀c,qe (motive_1:=λ_=>Option (ao × List rf × md)) e c (λa g s _=>some (a,g,s))=some x->∃p',e=.ListComp x.1 x.2.1 x.2.2 p') e c (λ_ _ _ _ c h=>by cases sm h;exact⟨_,rfl⟩) c h
noncomputable def lI (e:ao):Option (ao × List ao × List we × Pos):=if h:e.ctorIdx=16 then xu (motive_1:=λ_=>Option (ao × List ao × List we × Pos)) e h (λg a k p=>some (g,a,k,p)) else none
theorem dX{e:ao}{x:ao × List ao × List we × Pos}(h:lI e=some x):e=.Call x.1 x.2.1 x.2.2.1 x.2.2.2:=by
 obtain⟨c,h⟩:=a7 h;exact xu (motive_1:=λe=>∀c,xu (motive_1:=λ_=>Option (ao × List ao × List we × Pos)) e c (λg a k p=>some (g,a,k,p))=some x->e=.Call x.1 x.2.1 x.2.2.1 x.2.2.2) e c (λ_ _ _ _ c h=>by cases sm h;rfl) c h
noncomputable def JD (e:ao):Option (ao × Str × Pos):=if h:e.ctorIdx=20 then se (motive_1:=λ_=>Option (ao × Str × Pos)) e h (λa n p=>some (a,n,p)) else none
theorem vJ{e:ao}{x:ao × Str × Pos}(h:JD e=some x):e=.Attribute x.1 x.2.1 x.2.2:=by
 obtain⟨c,h⟩:=a7 h;exact se (motive_1:=λe=>∀c,se (motive_1:=λ_=>Option (ao × Str × Pos)) e c (λa n p=>some (a,n,p))=some x->e=.Attribute x.1 x.2.1 x.2.2) e c (λ_ _ _ c h=>by cases sm h;rfl) c h
noncomputable def BU (o:Ay):Bool:=o.ctorIdx==Ay.USub.ctorIdx
noncomputable def SF (o:Ay):Bool:=o.ctorIdx==Ay.Not.ctorIdx
noncomputable def SG (o:Du):Bool:=o.ctorIdx==Du.And.ctorIdx
noncomputable def VX (o:Du):Bool:=o.ctorIdx==Du.Or.ctorIdx
theorem sD (h:BU o=true):o=.USub:=by cases o <;> first | rfl | exact nf h
theorem F5 (h:SF o=true):o=.Not:=by cases o <;> first | rfl | exact nf h
theorem F6 (h:SG o=true):o=.And:=by cases o <;> first | rfl | exact nf h
theorem JE (h:VX o=true):o=.Or:=by cases o <;> first | rfl | exact nf h
noncomputable def wY:Ez->Option PV
 | .none=>some .none
 | .bool a=>some (.bool a)
 | .int a=>some (.int a)
 | .float a=>some (.flt a)
 | .str a=>some (.str a)
 | _=>none
noncomputable def TN (p q:PV):Bool:=match p with
 | .none=>q.ctorIdx==PV.none.ctorIdx
 | .bool a=>(match q with | .bool b=>a==b | _=>false)
 | .int a=>(match q with | .int b=>a==b | _=>false)
 | .flt a=>(match q with | .flt b=>a==b | _=>false)
 | .str a=>(match q with | .str b=>a==b | _=>false)
 | _=>false
theorem D0 (h:TN p q=true):p=q:=by
 cases p <;> try (exact nf h)
 all_goals (cases q <;> first | rfl | exact nf h | exact congrArg _ (eq_of_beq h))
def O7 (k:Ez) (p:PV):Bool:=(wY k).any λq=>TN q p
def VY (p q:PV):Bool:=match p with
 | .dcts a=>(match q with | .dcts b=>a==b | _=>false)
 | p=>TN p q
theorem O8 (h:VY p q=true):p=q:=by
 cases p <;> try (exact D0 h)
 cases q <;> first | exact nf h | exact congrArg _ (eq_of_beq h)
def W6 (e:ao) (x:Str):Bool:=(lH e).any λy=>y==x
noncomputable def cR (x:Str):Bool:=!(x==("__debug__":Str))&&!(x==("__classdict__":Str))
def fL (cx:Cx) (names:List (Str × my)) (x:Str) (i:Nat):Cx :=
 {vars:=(x,i)::names.filterMap λ(n,k)=>if k==.free then(cx.vars.lookup n).map λj=>(n,j) else none
  kinds:=names,own:=cx.own,tk:=[],top:=cx.top}
noncomputable def cU{α:Type}[BEq α]:List α->Bool
 | []=>true
 | a::l=>!l.contains a&&cU l
theorem jO{α:Type}[BEq α] {a:α}{l:List α}:cU (a::l)=(!l.contains a&&cU l):=rfl
def TO (b:Bi):G->Bool
 | .bi c=>b==c
 | _=>false
noncomputable def O9 (f:Nat):G->Bool
 | .fn g=>f==g
 | _=>false
noncomputable def pW:G->Bool
 | .rng=>true
 | _=>false
noncomputable def wZ:G->Bool
 | .enum=>true
 | _=>false
noncomputable def BV:G->Bool
 | .gen=>true
 | _=>false
def SH (p:PV):G->Bool
 | .cst q=>VY q p
 | _=>false
noncomputable def bZ (e:ao):Bool:=!(e.ctorIdx==22)
def sE (e:ao):Bool:=match lI e with
 | none=>true
 | some x=>!(x.2.1.isEmpty&&x.2.2.1.isEmpty)
noncomputable def f9 (p:PE):Bool:=if h:p.ctorIdx=0 then PE.cst.elim (motive_1:=λ_=>Bool) p h (λc=>c.ctorIdx==PV.none.ctorIdx) else false
theorem zE (h:f9 p=true):p=.cst .none:=by
 unfold f9 at h
 by_cases c:p.ctorIdx=0
 ·rw[dif_pos c] at h;exact PE.cst.elim (motive_1:=λp=>∀c,PE.cst.elim (motive_1:=λ_=>Bool) p c (λc=>c.ctorIdx==PV.none.ctorIdx)=true->p=.cst .none) p c (λq c h=>congrArg PE.cst (by cases q <;> first | rfl | exact nf h)) c h
 ·rw[dif_neg c] at h;exact nf h
section
def fX (cx:Cx) (e:ao) (f:G->Bool):Bool:=(lH e).any λx=>cx.kinds.lookup x==some .globalImplicit&&(cR x&&(GL.lookup x).any f)
def m9 (cx:Cx) (sc:md) (x:Str) (i:Nat):Bool :=
 sc.kind==.function&&!sc.isGenerator&&!sc.isCoroutine&&cU (sc.names.map (·.1)) &&
 (sc.names.lookup x==some .local||sc.names.lookup x==some .cell) &&
 (sc.names.all λnk=>(nk.2==.local&&(nk.1==x||nk.1==(".0":Str)))||(nk.2==.cell&&nk.1==x)||nk.2==.globalImplicit||(nk.2==.free&&(cx.vars.lookup nk.1).isSome&&!(cx.vars.lookup nk.1==some i)&&(cx.kinds.lookup nk.1==some .cell||cx.kinds.lookup nk.1==some .free))) &&
 !cx.own.contains i
def XK (f:ao->PE->Bool) (o:Option ao) (p:PE):Bool:=match o with
 | none=>f9 p
 | some e=>f e p
noncomputable def meN (f:Me):Str:=match f with | .join=>("join":Str) | .count=>("count":Str) | .index=>("index":Str)
noncomputable def XM (k:Ez):Option Str:=if h:k.ctorIdx=5 then Hu (motive:=λ_=>Option Str) k h some else none
def JF (e:ao):Bool:=(BR e).any λk=>k.ctorIdx==2&&(if h:k.ctorIdx=2 then xv (motive:=λ_=>Bool) k h (λn=>n==1) else false)
theorem BW (h:JF e=true):∃n p,e=.Constant (.int 1) n p:=by
 refine xea (aD h) λk h1 h=>?_;apply IE (sA h1);intro n p;have h:=(aB h).2
 by_cases c:k.ctorIdx=2
 ·rw[dif_pos c] at h;exact(iee n p (congrArg (λk=>ao.Constant k n p) (xv (motive:=λk=>∀c,xv (motive:=λ_=>Bool) k c (λn=>n==1)=true->k=.int 1) k c (λn c h=>congrArg _ (eq_of_beq h)) c h)))
 ·rw[dif_neg c] at h;exact nf h
mutual
def aH (cx:Cx) (b:Bool):ao->PE->Bool
 | e,.cst c=>(BR e).any λk=>O7 k c
 | e,.gcst c=>fX cx e (SH c)
 | e,.var i=>(lH e).any λx=>cx.vars.lookup x==some i&&(cR x&&(b||!cx.own.contains i))
 | e,.bin op p q=>(VW e).any λx=>x.2.1==op&&(aH cx true x.1 p&&aH cx true x.2.2 q)
 | e,.neg p=>(vUn e).any λx=>BU x.1&&aH cx true x.2 p
 | e,.not p=>(vUn e).any λx=>SF x.1&&aH cx true x.2 p
 | e,.and p q=>(JB e).any λx=>SG x.1&&(lz2 x.2).any λy=>aH cx true y.1 p&&aH cx true y.2 q
 | e,.or p q=>(JB e).any λx=>VX x.1&&(lz2 x.2).any λy=>aH cx true y.1 p&&aH cx true y.2 q
 | e,.ite t p q=>(vIf e).any λx=>aH cx true x.1 t&&(aH cx b x.2.1 p&&aH cx b x.2.2 q)
 | e,.cmp op p q=>(TM e).any λx=>(lz1 x.2.1).any λo=>(lz1 x.2.2).any λr=>o==op&&(aH cx true x.1 p&&aH cx true r q)
 | e,.cmp2 op Ks p q r=>(TM e).any λx=>(lz2 x.2.1).any λo=>(lz2 x.2.2).any λm=>o.1==op&&(o.2==Ks&&(aH cx true x.1 p&&(aH cx true m.1 q&&aH cx true m.2 r)))
 | e,.sub p q=>(O6 e).any λx=>aH cx true x.1 p&&aH cx true x.2 q
 | e,.slc p lo hi st=>(O6 e).any λx=>(JC x.2).any λy=>aH cx true x.1 p&&(
   (match y.1 with | none=>f9 lo | some e=>aH cx true e lo)&&((match y.2.1 with | none=>f9 hi | some e=>aH cx true e hi)&&(match y.2.2 with | none=>f9 st | some e=>aH cx true e st)))
 | e,.list es=>(SA e).any λxs=>eP cx false xs es&&decide (xs.length<=100)
 | e,.tup es=>(F2 e).any λxs=>eP cx false xs es&&decide (xs.length<=100)
 | e,.comp Iw tg src At c=>(SE e).any λx=>(lz1 x.2.1).any λg=>(lH g.target).any λy =>
   g.is_async==0&&(qL cx g.iter src&&(m9 cx x.2.2 y tg&&(aH (fL cx x.2.2.names y tg) false x.1 Iw&&(match g.ifs with
    | []=>!At
    | t::ts=>ts.isEmpty&&(At&&aH (fL cx x.2.2.names y tg) true t c)))))
 | e,.call f es=>(lI e).any λx=>fX cx x.1 (O9 f)&&(x.2.2.1.isEmpty&&(eP cx false x.2.1 es&&decide (0<x.2.1.length/\x.2.1.length<=20)))
 | e,.bi f es=>(lI e).any λx=>fX cx x.1 (TO f)&&(x.2.2.1.isEmpty&&(eP cx true x.2.1 es&&decide (0<x.2.1.length/\x.2.1.length<=20)))
 | e,.me f o es=>(lI e).any λx=>(JD x.1).any λy=>y.2.1==meN f&&(x.2.2.1.isEmpty&&(aH cx true y.1 o&&(eP cx true x.2.1 es&&(decide (0<x.2.1.length/\x.2.1.length<=20)&&(y.2.2.endLine==x.2.2.2.line&&sE y.1)))))
def eP (cx:Cx) (b:Bool):List ao->PEs->Bool
 | xs,.nil=>xs.isEmpty
 | xs,.cons p ps=>match xs with
  | x::xs=>bZ x&&(aH cx b x p&&eP cx b xs ps)
  | []=>false
def qL (cx:Cx):ao->PI->Bool
 | e,.val p=>aH cx false e p
 | e,.rng1 p=>(lI e).any λx=>(lz1 x.2.1).any λa=>x.2.2.1.isEmpty&&(fX cx x.1 pW&&(aH cx true a p&&bZ a))
 | e,.rng2 p q=>(lI e).any λx=>(lz2 x.2.1).any λa=>x.2.2.1.isEmpty&&(fX cx x.1 pW&&(aH cx true a.1 p&&(aH cx true a.2 q&&(bZ a.1&&bZ a.2))))
 | e,.rng3 p q=>(lI e).any λx=>(lz3 x.2.1).any λa=>(vUn a.2.2).any λu=>BU u.1&&(JF u.2&&(x.2.2.1.isEmpty&&(fX cx x.1 pW&&(aH cx true a.1 p&&(aH cx true a.2.1 q&&(bZ a.1&&bZ a.2.1))))))
end
end
mutual
noncomputable def nd:PE->Nat
 | .cst _ | .gcst _ | .var _=>0
 | .bin _ a b | .and a b | .or a b | .cmp _ a b | .sub a b=>max (nd a) (nd b)
 | .neg a | .not a=>nd a
 | .ite a b c | .cmp2 _ _ a b c=>max (nd a) (max (nd b) (nd c))
 | .slc a b c d=>max (max (nd a) (nd b)) (max (nd c) (nd d))
 | .list es | .tup es | .call _ es | .bi _ es=>nds es
 | .me _ o es=>max (nd o) (nds es)
 | .comp e _ src _ c=>max (ndi src) (max (nd e) (nd c))+3
noncomputable def nds:PEs->Nat
 | .nil=>0
 | .cons e es=>max (nd e) (nds es)
noncomputable def ndi:PI->Nat
 | .val e | .rng1 e=>nd e
 | .rng2 e f | .rng3 e f=>max (nd e) (nd f)
end
section
variable{cx:Cx}{b:Bool}{e:ao}
theorem PA (h:aH cx b e (.cst c)=true):∃k n p,e=.Constant k n p/\wY k=some c:=by
 replace h:=aD h
 refine xea h λk h1 h=>?_;apply IE (sA h1);intro n p
 replace h:=aD h
 refine xea h λq h2 h=>?_;exact(gG k n p rfl (h2.trans (congrArg some (D0 h))))
theorem PB (h:aH cx b e (.var i)=true):∃x p,e=.Name x p/\cx.vars.lookup x=some i/\cR x=true/\(b||!cx.own.contains i)=true:=by
 replace h:=aD h
 refine xea h λx h1 h=>?_;apply xeR (fD h1);intro p;exact(bW x p rfl (eq_of_beq (aB h).1) ((aB (aB h).2).1) ((aB (aB h).2).2))
theorem PC (h:aH cx b e (.bin op p q)=true):∃l r k,e=.BinOp l op r k/\aH cx true l p=true/\aH cx true r q=true:=by
 replace h:=aD h
 refine xea h λx h1 h=>?_;apply xeR (JA h1);intro k;exact(gG _ _ k (congrArg (λo=>ao.BinOp x.1 o x.2.2 k) (eq_of_beq (aB h).1)) (aB (aB h).2))
theorem PD (h:aH cx b e (.neg p)=true):∃x k,e=.UnaryOp .USub x k/\aH cx true x p=true:=by
 replace h:=aD h
 refine xea h λx h1 h=>?_;apply xeR (wX h1);intro k;exact(kC _ k (congrArg (λo=>Az o x.2 k) (sD (aB h).1)) ((aB h).2))
theorem D1 (h:aH cx b e (.not p)=true):∃x k,e=.UnaryOp .Not x k/\aH cx true x p=true:=by
 replace h:=aD h
 refine xea h λx h1 h=>?_;apply xeR (wX h1);intro k;exact(kC _ k (congrArg (λo=>Az o x.2 k) (F5 (aB h).1)) ((aB h).2))
theorem D2 (h:aH cx b e (.and p q)=true):∃x y k,e=.BoolOp .And [x,y] k/\aH cx true x p=true/\aH cx true y q=true:=by
 replace h:=aD h
 refine xea h λx h1 h=>?_;apply xeR (vI h1);intro k;refine xea (aD (aB h).2) λy h2 h3=>?_;exact O (F6 (aB h).1) (O (iZ h2) (gG _ _ k rfl (aB h3)))
theorem JG (h:aH cx b e (.or p q)=true):∃x y k,e=.BoolOp .Or [x,y] k/\aH cx true x p=true/\aH cx true y q=true:=by
 replace h:=aD h
 refine xea h λx h1 h=>?_;apply xeR (vI h1);intro k;refine xea (aD (aB h).2) λy h2 h3=>?_;exact O (JE (aB h).1) (O (iZ h2) (gG _ _ k rfl (aB h3)))
theorem D3 (h:aH cx b e (.ite t p q)=true):∃c x y k,e=.IfExp c x y k/\aH cx true c t=true/\aH cx b x p=true/\aH cx b y q=true:=by
 replace h:=aD h
 refine xea h λx h1 h=>?_;apply xeR (O5 h1);intro k;exact(f8 _ _ _ k rfl ((aB h).1) (aB (aB h).2))
theorem D4 (h:aH cx b e (.cmp op p q)=true):∃l r k,e=.Compare l [op] [r] k/\aH cx true l p=true/\aH cx true r q=true:=by
 replace h:=aD h
 refine xea h λx h1 h=>?_;apply xeR (zC h1);intro k
 replace h:=aD h
 refine xea h λo h2 h=>?_
 replace h:=aD h
 refine xea h λr h3 h=>?_;exact O (cQ h2) (O (cQ h3) (O (eq_of_beq (aB h).1) (gG _ _ k rfl (aB (aB h).2))))
theorem zF (h:aH cx b e (.cmp2 op Ks p q r)=true):∃l m n k,e=.Compare l [op,Ks] [m,n] k/\aH cx true l p=true/\aH cx true m q=true/\aH cx true n r=true:=by
 replace h:=aD h
 refine xea h λx h1 h=>?_;apply xeR (zC h1);intro k
 replace h:=aD h
 refine xea h λo h2 h=>?_
 replace h:=aD h
 refine xea h λm h3 h=>?_;have h4:=aB (aB h).2;exact O (iZ h2) (O (iZ h3) (O (eq_of_beq (aB h).1) (O (eq_of_beq h4.1) (f8 _ _ _ k rfl ((aB h4.2).1) (aB (aB h4.2).2)))))
theorem PF (h:aH cx b e (.sub p q)=true):∃x i k,e=.Subscript x i k/\aH cx true x p=true/\aH cx true i q=true:=by
 replace h:=aD h
 refine xea h λx h1 h=>?_;apply xeR (sB h1);intro k;exact(gG _ _ k rfl (aB h))
theorem PG{p lo hi st:PE}(h:aH cx b e (.slc p lo hi st)=true):∃x l u s k k',e=.Subscript x (.Slice l u s k) k'/\aH cx true x p=true /\
  (match l with | none=>f9 lo | some e=>aH cx true e lo)=true/\(match u with | none=>f9 hi | some e=>aH cx true e hi)=true/\(match s with | none=>f9 st | some e=>aH cx true e st)=true:=by
 replace h:=aD h
 refine xea h λx h1 h=>?_;apply xeR (sB h1);intro k
 replace h:=aD h
 refine xea h λy h2 h=>?_;refine xe (BS h2) λk' h2=>?_;refine O h2 ?_;have h3:=aB (aB h).2;exact(eH _ _ _ (cD _ _ _ rfl ((aB h).1) h3.1 (aB h3.2)))
theorem JH (h:aH cx b e (.list es)=true):∃xs k,e=.List xs k/\eP cx false xs es=true/\xs.length<=100:=by
 replace h:=aD h
 refine xea h λx h1 h=>?_;apply xeR (F1 h1);intro k;exact(bE x k rfl ((aB h).1) (of_decide_eq_true (aB h).2))
theorem PH (h:aH cx b e (.tup es)=true):∃xs n k,e=.Tuple xs n k/\eP cx false xs es=true/\xs.length<=100:=by
 replace h:=aD h
 refine xea h λx h1 h=>?_;apply IE (sC h1);intro n k;exact(o5 x n k rfl ((aB h).1) (of_decide_eq_true (aB h).2))
def o9 (cx:Cx) (ifs:List ao) (At:Bool) (c:PE):Bool:=match ifs with
 | []=>!At
 | t::ts=>ts.isEmpty&&(At&&aH cx true t c)
theorem BX (h:o9 cx ifs At c=true):(ifs=[]/\At=false)\/∃t,ifs=[t]/\At=true/\aH cx true t c=true:=by
 cases ifs with
 | nil=>cases At with
  | true=>exact nf h
  | false=>exact .inl ⟨rfl,rfl⟩
 | cons t ts =>
  have h1:=aB h;exact .inr (iea t (congrArg _ (cK h1.1)) (aB h1.2))
theorem JI{g:rf}{x:Str}{p:Pos}(h:g.target=.Name x p) (h2:(g.is_async==0)=true):g=⟨.Name x p,g.iter,g.ifs,0⟩:=by
 cases g with | mk t i f a =>
 replace h:t=.Name x p:=h
 replace h2:a=0:=eq_of_beq h2
 subst h h2;rfl
theorem zG{Iw c:PE}{tg:Nat}{src:PI}{At:Bool}(h:aH cx b e (.comp Iw tg src At c)=true):∃el x px it ifs sc k,e=.ListComp el [⟨.Name x px,it,ifs,0⟩] sc k/\qL cx it src=true/\m9 cx sc x tg=true /\
  aH (fL cx sc.names x tg) false el Iw=true/\o9 (fL cx sc.names x tg) ifs At c=true:=by
 replace h:=aD h
 refine xea h λx h1 h=>?_;apply xeR (F4 h1);intro k
 replace h:=aD h
 refine xea h λg h2 h=>?_
 replace h:=aD h
 refine xea h λy h3 h=>?_;refine xe (fD h3) λp h3=>?_;refine O (cQ h2) (O (JI h3 (aB h).1) ?_);have h4:=aB (aB h).2;have h5:=aB h4.2;exact(eH _ _ _ (f8 _ _ _ _ rfl h4.1 ⟨h5.1,(aB h5.2)⟩))
theorem jP (h:(ks.isEmpty&&(c&&d))=true):uz g xs ks p=.Call g xs [] p/\c=true/\d=true :=
 ⟨congrArg (λk=>uz g xs k p) (cK (aB h).1),aB (aB h).2⟩
theorem JJ (h:aH cx b e (.call f es)=true):∃g xs k,e=.Call g xs [] k/\fX cx g (O9 f)=true/\eP cx false xs es=true/\0<xs.length/\xs.length<=20:=by
 refine wS λG hG=>?_
 replace h:=aD h
 refine xea h λx h1 h=>?_;have h2:=jP (g:=x.1) (xs:=x.2.1) (p:=x.2.2.2) (aB h).2;exact hG (cD _ _ _ ((dX h1).trans h2.1) ((aB h).1) h2.2.1 (of_decide_eq_true h2.2.2))
theorem TP (h:aH cx b e (.bi f es)=true):∃g xs k,e=.Call g xs [] k/\fX cx g (TO f)=true/\eP cx true xs es=true/\0<xs.length/\xs.length<=20:=by
 refine wS λG hG=>?_
 replace h:=aD h
 refine xea h λx h1 h=>?_;have h2:=jP (g:=x.1) (xs:=x.2.1) (p:=x.2.2.2) (aB h).2;exact hG (cD _ _ _ ((dX h1).trans h2.1) ((aB h).1) h2.2.1 (of_decide_eq_true h2.2.2))
theorem TQ (h:aH cx b e (.me f o es)=true):∃x ap xs k,e=.Call (.Attribute x (meN f) ap) xs [] k/\aH cx true x o=true/\eP cx true xs es=true/\(0<xs.length/\xs.length<=20)/\(ap.endLine==k.line)=true/\sE x=true:=by
 refine wS λG hG=>?_
 replace h:=aD h
 refine xea h λx h1 h=>?_
 replace h:=aD h
 refine xea h λy h2 h=>?_;have h3:=aB h;have h4:=jP (g:=x.1) (xs:=x.2.1) (p:=x.2.2.2) h3.2;have h5:=aB h4.2.2;have h6:=aB h5.2;have e1:=vJ h2;rw[eq_of_beq h3.1] at e1;exact hG (bO _ _ _ _ ((dX h1).trans (h4.1.trans (congrArg (λg=>uz g x.2.1 [] x.2.2.2) e1))) h4.2.1 h5.1 (of_decide_eq_true h6.1) (aB h6.2))
theorem pA (h:eP cx b xs (.cons p ps)=true):∃x us,xs=x::us/\bZ x=true/\aH cx b x p=true/\eP cx b us ps=true:=by
 cases xs with
 | nil=>exact nf h
 | cons x us=>exact(bE x us rfl ((aB h).1) (aB (aB h).2))
theorem sF (h:eP cx b xs .nil=true):xs=[]:=cK h
theorem JK (h:qL cx e (.rng1 p)=true):∃g x k,e=.Call g [x] [] k/\fX cx g pW=true/\aH cx true x p=true/\bZ x=true:=by
 refine wS λG hG=>?_
 replace h:=aD h
 refine xea h λx h1 h=>?_
 replace h:=aD h
 refine xea h λa h2 h=>?_;have h3:=jP (g:=x.1) (xs:=x.2.1) (p:=x.2.2.2) h;exact hG (o5 _ a _ ((dX h1).trans (h3.1.trans (congrArg (λl=>uz x.1 l [] x.2.2.2) (cQ h2)))) h3.2.1 (aB h3.2.2))
theorem JL (h:qL cx e (.rng2 p q)=true):∃g x y k,e=.Call g [x,y] [] k/\fX cx g pW=true/\aH cx true x p=true/\aH cx true y q=true/\bZ x=true/\bZ y=true:=by
 refine wS λG hG=>?_
 replace h:=aD h
 refine xea h λx h1 h=>?_
 replace h:=aD h
 refine xea h λa h2 h=>?_;have h3:=jP (g:=x.1) (xs:=x.2.1) (p:=x.2.2.2) h;have h4:=aB h3.2.2;exact hG (bO _ _ _ _ ((dX h1).trans (h3.1.trans (congrArg (λl=>uz x.1 l [] x.2.2.2) (iZ h2)))) h3.2.1 h4.1 ((aB h4.2).1) (aB (aB h4.2).2))
theorem JM (h:qL cx e (.rng3 p q)=true):∃g x y n p1 p2 k,e=.Call g [x,y,.UnaryOp .USub (.Constant (.int 1) n p1) p2] [] k/\fX cx g pW=true/\aH cx true x p=true/\aH cx true y q=true/\bZ x=true/\bZ y=true:=by
 refine wS λG hG=>?_
 replace h:=aD h
 refine xea h λx h1 h=>?_
 replace h:=aD h
 refine xea h λa h2 h=>?_
 replace h:=aD h
 refine xea h λu h3 h=>?_;have q1:=aB h;have q2:=aB q1.2;have h4:=jP (g:=x.1) (xs:=x.2.1) (p:=x.2.2.2) q2.2;have h5:=aB h4.2.2;have e2:=O4 h2;refine xe (wX h3) λp2 e3=>?_;refine xee (BW q2.1) λn p1 e5=>?_;rw[sD q1.1,e5] at e3;rw[e3] at e2;exact hG (eH _ _ _ (bO n p1 p2 _ ((dX h1).trans (h4.1.trans (congrArg (λl=>uz x.1 l [] x.2.2.2) e2))) h4.2.1 h5.1 ((aB h5.2).1) (aB (aB h5.2).2)))
end
section
variable{α β γ:Type}
set_option tactic.hygienic true in
theorem SI{o:Option PV}{f g:Option α}{r:α}(h:(match o with | some (.bool true)=>f | some (.bool false)=>g | _=>none)=some r):(o=some (.bool true)/\f=some r)\/(o=some (.bool false)/\g=some r):=by
 cases o with
 | none=>exact nn h
 | some p =>
  cases p <;> try (exact nn h)
  rename_i b;cases b with
  | true=>exact .inl ⟨rfl,h⟩
  | false=>exact .inr ⟨rfl,h⟩
theorem BZ{o:Option PV}{f:Bool->Option α}{r:α}(h:(match o with | some (.bool x)=>f x | _=>none)=some r):∃x,o=some (.bool x)/\f x=some r:=by
 cases o with
 | none=>exact nn h
 | some p =>
  cases p <;> try (exact nn h)
  exact(iea _ rfl h)
theorem JN{o:Option PV}{f:Int->Option α}{r:α}(h:(match o with | some (.int x)=>f x | _=>none)=some r):∃x,o=some (.int x)/\f x=some r:=by
 cases o with
 | none=>exact nn h
 | some p =>
  cases p <;> try (exact nn h)
  exact(iea _ rfl h)
end
section
variable{F:Fn}{pe:PEnv}{a c d:PE}{r:PV}
theorem PJ (h:aA F (.bin op a c) pe=some r):∃x y,aA F a pe=some x/\aA F c pe=some y/\dM op x y=some r:=by
 have h:(match aA F a pe,aA F c pe with | some x,some y=>dM op x y | _,_=>none)=some r:=h;revert h;cases aA F a pe with
 | none=>exact nn
 | some x=>cases aA F c pe with
  | none=>exact nn
  | some y=>exact λh=>(bE x y rfl rfl h)
theorem PK (h:aA F (.neg a) pe=some r):∃x,aA F a pe=some (.int x)/\r=.int (-x):=by
 refine xea (JN h) λx h1 h2=>?_;exact(iea x h1 ((sm h2).symm))
theorem D5 (h:aA F (.not a) pe=some r):∃x,aA F a pe=some (.bool x)/\r=.bool (!x):=by
 refine xea (BZ h) λx h1 h2=>?_;exact(iea x h1 ((sm h2).symm))
theorem D6 (h:aA F (.and a c) pe=some r):(aA F a pe=some (.bool true)/\∃x,aA F c pe=some (.bool x)/\r=.bool x)\/(aA F a pe=some (.bool false)/\r=.bool false):=by
 rcases SI h with ⟨h1,h2⟩ | ⟨h1,h2⟩
 ·refine xea (BZ h2) λx h3 h4=>?_;exact .inl (o4 h1 x h3 ((sm h4).symm))
 ·exact .inr ⟨h1,(sm h2).symm⟩
set_option tactic.hygienic true in
theorem JO (h:aA F (.or a c) pe=some r):(aA F a pe=some (.bool true)/\r=.bool true)\/(aA F a pe=some (.bool false)/\∃x,aA F c pe=some (.bool x)/\r=.bool x):=by
 have h:(match aA F a pe with | some (.bool false)=>(match aA F c pe with | some (.bool x)=>some (.bool x) | _=>none) | some (.bool true)=>some (PV.bool true) | _=>none)=some r:=h;revert h;cases aA F a pe with
 | none=>exact nn
 | some p =>
  cases p <;> try (exact nn)
  rename_i b;cases b with
  | true=>exact λh=>.inl ⟨rfl,(sm h).symm⟩
  | false=>exact λh=>by refine xea (BZ h) λx h3 h4=>?_;exact .inr (o4 rfl x h3 ((sm h4).symm))
theorem D7 (h:aA F (.ite a c d) pe=some r):(aA F a pe=some (.bool true)/\aA F c pe=some r)\/(aA F a pe=some (.bool false)/\aA F d pe=some r):=SI h
theorem D8 (h:aA F (.cmp op a c) pe=some r):∃x y z,aA F a pe=some x/\aA F c pe=some y/\bF op x y=some z/\r=.bool z:=by
 have h:(match aA F a pe,aA F c pe with | some x,some y=>(bF op x y).map PV.bool | _,_=>none)=some r:=h;revert h;cases aA F a pe with
 | none=>exact nn
 | some x=>cases aA F c pe with
  | none=>exact nn
  | some y=>exact λh=>by apply gW (bj.mp h);intro z h4;exact(cD x y z rfl rfl h4 rfl)
theorem zH (h:aA F (.cmp2 op Ks a c d) pe=some r):∃x y,aA F a pe=some x/\aA F c pe=some y/\((bF op x y=some true/\∃z b,aA F d pe=some z/\bF Ks y z=some b/\r=.bool b)\/(bF op x y=some false/\r=.bool false)):=by
 have h:(match aA F a pe,aA F c pe with | some x,some y=>(match bF op x y with | some true=>(match aA F d pe with | some z=>(bF Ks y z).map PV.bool | none=>none) | some false=>some (.bool false) | none=>none) | _,_=>none)=some r:=h;revert h;cases aA F a pe with
 | none=>exact nn
 | some x=>cases aA F c pe with
  | none=>exact nn
  | some y=>
   intro h;refine(bE x y rfl rfl ?_);have h:(match bF op x y with | some true=>(match aA F d pe with | some z=>(bF Ks y z).map PV.bool | none=>none) | some false=>some (.bool false) | none=>none)=some r:=h;revert h;cases bF op x y with
   | none=>exact nn
   | some c=>cases c with
    | false=>exact λh=>.inr ⟨rfl,(sm h).symm⟩
    | true =>
      intro h;have h:(match aA F d pe with | some z=>(bF Ks y z).map PV.bool | none=>none)=some r:=h;revert h;cases aA F d pe with
      | none=>exact nn
      | some z=>exact λh=>by apply gW (bj.mp h);intro b h8;exact .inl (DT rfl z b rfl ⟨h8,rfl⟩)
theorem PL (h:aA F (.sub a c) pe=some r):∃x y,aA F a pe=some x/\aA F c pe=some y/\cX x y=some r:=by
 have h:(match aA F a pe,aA F c pe with | some x,some y=>cX x y | _,_=>none)=some r:=h;revert h;cases aA F a pe with
 | none=>exact nn
 | some x=>cases aA F c pe with
  | none=>exact nn
  | some y=>exact λh=>(bE x y rfl rfl h)
theorem JP (h:aA F (.call f es) pe=some r):∃l,bK F es pe=some l/\F f l=some r:=by
 have h:(match bK F es pe with | some l=>F f l | none=>none)=some r:=h;revert h;cases bK F es pe with
 | none=>exact nn
 | some l=>exact λh=>(iea l rfl h)
theorem TR (h:aA F (.bi f es) pe=some r):∃l,bK F es pe=some l/\biF f l=some r:=by
 have h:(match bK F es pe with | some l=>biF f l | none=>none)=some r:=h;revert h;cases bK F es pe with
 | none=>exact nn
 | some l=>exact λh=>(iea l rfl h)
theorem TS (h:aA F (.me f a es) pe=some r):∃x l,aA F a pe=some x/\bK F es pe=some l/\meF f x l=some r:=by
 have h:(match aA F a pe,bK F es pe with | some x,some y=>meF f x y | _,_=>none)=some r:=h;revert h;cases aA F a pe with
 | none=>exact nn
 | some x=>cases bK F es pe with
  | none=>exact nn
  | some y=>exact λh=>(bE x y rfl rfl h)
theorem JQ (h:aA F (.list es) pe=some r):∃l,bK F es pe=some l/\r=.lst l:=by
 apply gW (bj.mp h);intro d h3;exact(iea d h3 rfl)
theorem PM (h:aA F (.tup es) pe=some r):∃l,bK F es pe=some l/\r=.tup l:=by
 apply gW (bj.mp h);intro d h3;exact(iea d h3 rfl)
theorem zI (h:aA F (.comp e i src At c) pe=some r):∃items rs,fH F src pe=some items/\cF (aA F c) (aA F e) At i pe items=some rs/\r=.lst rs:=by
 have h:(match fH F src pe with | some l=>(cF (aA F c) (aA F e) At i pe l).map PV.lst | none=>none)=some r:=h;revert h;cases fH F src pe with
 | none=>exact nn
 | some l=>exact λh=>by apply gW (bj.mp h);intro d h3;exact(bE l d rfl h3 rfl)
theorem PN{lo hi st:PE}(h:aA F (.slc a lo hi st) pe=some r):∃x l u s l' u' s',aA F a pe=some x/\(aA F lo pe=some l/\eB l=some l')/\(aA F hi pe=some u/\eB u=some u')/\(aA F st pe=some s/\eB s=some s')/\cY x l' u' s'=some r:=by
 have h:(match aA F a pe,aA F lo pe,aA F hi pe,aA F st pe with
  | some x,some l,some h,some s=>(match eB l,eB h,eB s with
   | some l,some h,some s=>cY x l h s
   | _,_,_=>none)
  | _,_,_,_=>none)=some r:=h
 revert h;cases aA F a pe with
 | none=>exact nn
 | some x=>cases aA F lo pe with
  | none=>exact nn
  | some l=>cases aA F hi pe with
   | none=>exact nn
   | some u=>cases aA F st pe with
    | none=>exact nn
    | some s =>
     intro h;have h:(match eB l,eB u,eB s with
      | some l,some h,some s=>cY x l h s
      | _,_,_=>none)=some r:=h
     revert h;cases e1:eB l with
     | none=>exact nn
     | some l'=>cases e2:eB u with
      | none=>exact nn
      | some u'=>cases e3:eB s with
       | none=>exact nn
       | some s'=>exact λh=>(eH x l u (bO s l' u' s' rfl ⟨rfl,e1⟩ ⟨rfl,e2⟩ ⟨rfl,e3⟩ h))
theorem F7 (h:bK F (.cons a es) pe=some l):∃x m,aA F a pe=some x/\bK F es pe=some m/\l=x::m:=by
 have h:(match aA F a pe,bK F es pe with | some x,some y=>some (x::y) | _,_=>none)=some l:=h;revert h;cases aA F a pe with
 | none=>exact nn
 | some x=>cases bK F es pe with
  | none=>exact nn
  | some y=>exact λh=>(bE x y rfl rfl ((sm h).symm))
theorem PO (h:fH F (.val a) pe=some l):∃p,aA F a pe=some p/\m8 p=some l:=by
 have h:(match aA F a pe with | some p=>m8 p | none=>none)=some l:=h;revert h;cases aA F a pe with
 | none=>exact nn
 | some p=>exact λh=>(iea p rfl h)
theorem JR{l:List PV}(h:fH F (.rng1 a) pe=some l):∃n,aA F a pe=some (.int n)/\kF 0 n=some l:=JN h
theorem JS (h:fH F (.rng2 a c) pe=some l):∃n m,aA F a pe=some (.int n)/\aA F c pe=some (.int m)/\kF n m=some l:=by
 have h:(match aA F a pe,aA F c pe with | some (.int x),some (.int y)=>kF x y | _,_=>none)=some l:=h;revert h;cases aA F a pe with
 | none=>exact nn
 | some p =>
  cases p <;> try (exact nn)
  cases aA F c pe with
  | none=>exact nn
  | some q =>
   cases q <;> try (exact nn)
   exact λh=>(bE _ _ rfl rfl h)
theorem JT (h:fH F (.rng3 a c) pe=some l):∃n m,aA F a pe=some (.int n)/\aA F c pe=some (.int m)/\r7 n m=some l:=by
 have h:(match aA F a pe,aA F c pe with | some (.int x),some (.int y)=>r7 x y | _,_=>none)=some l:=h;revert h;cases aA F a pe with
 | none=>exact nn
 | some p =>
  cases p <;> try (exact nn)
  cases aA F c pe with
  | none=>exact nn
  | some q =>
   cases q <;> try (exact nn)
   exact λh=>(bE _ _ rfl rfl h)
end
def GV (v:ag):G->Prop
 | .bi b=>v=biV b
 | .fn f=>v=.ref (fA f)/\∃o fd,H0.get? (fA f)=some o/\o.data=.func fd
 | .cst p=>RV H0 No0 v p
 | .rng=>v=.type "range"
 | .enum=>v=.type "enumerate"
 | .gen=>v=.ref (fA 1000)/\∃o fd,H0.get? (fA 1000)=some o/\o.data=.func fd
structure Glo:Prop where
 noshare:NoShare H0
 nolimit:H0.NoLimit
 big:sysModules<H0.objs.size
 names:∃mg mb,H0.Ns mainGlobals mg/\H0.Ns builtinsNs mb/\∀x g,GL.lookup x=some g->∃v,(mg x=some v\/(mg x=none/\mb x=some v))/\GV v g
def FunOK (F:Fn) (B:Nat):Prop :=
 ∀(f:Nat) (A:dt) (s:ai) (N:Ap) (vs:List ag) (ps:List PV) (r:PV) (Q:Vs) (E:Vs),
  Room A B->Base s N->RVs s.heap N vs ps->F f ps=some r->(∀v s',Pure s s'->RV s'.heap N v r->Q v s')->wpAny (model Pg W0) A (call (.ref (fA f)) vs) Q E s
noncomputable def w4 (p:PE):Bool:=p.ctorIdx==12||p.ctorIdx==13||p.ctorIdx==15||p.ctorIdx==3
noncomputable def B0 (p:PE):Bool:=if h:p.ctorIdx=0 then PE.cst.elim (motive_1:=λ_=>Bool) p h (λc=>c.ctorIdx==4) else false
theorem B1 (h:B0 p=true):∃x,p=.cst (.str x):=by
 unfold B0 at h
 by_cases c:p.ctorIdx=0
 ·rw[dif_pos c] at h;exact PE.cst.elim (motive_1:=λp=>∀c,PE.cst.elim (motive_1:=λ_=>Bool) p c (λc=>c.ctorIdx==4)=true->∃x,p=.cst (.str x)) p c (λq c h=>by cases q <;> first | exact nf h | exact⟨_,rfl⟩) c h
 ·rw[dif_neg c] at h;exact nf h
def zJ (p:PE):Bool:=if h:p.ctorIdx=11 then PE.sub.elim (motive_1:=λ_=>Bool) p h (λa _=>B0 a) else false
structure Out (top:Bool) (s s':ai) (Na No:Ap) (b:Bool) (p:PE) (v:ag) (r:PV):Prop where
 t:RT s'.heap (λb=>Na b\/No b) v r
 a:top=true->RV s'.heap Na v r
 f:b=false->RV s'.heap (λb=>Na b\/No b) v r
 fresh:w4 p=true->∀l,r=.lst l->FreshL s.heap s'.heap (λb=>Na b\/No b) v l
 tok:zJ p=true->∀y t,v=.str y t->t≠0/\t<s'.toks
theorem RV.weak (hn:∀b,N' b->N b) (r:RV h N v p):RV h N' v p:=r.step (Step.sub hn)
theorem RVs.weak (hn:∀b,N' b->N b) (r:RVs h N vs ps):RVs h N' vs ps:=r.step (Step.sub hn)
theorem Out.of (h:RV s'.heap (λb=>Na b\/No b) v r) (hf:w4 p=false) (ht:zJ p=false):Out top s s' Na No b p v r :=
 ⟨h.rt,λ_=>h.weak λ_ q=>.inl q,λ_=>h,λq=>by rw[hf] at q;(cases q),λq=>by rw[ht] at q;(cases q)⟩
theorem Out.res (hp:Pure By s) (h:Res s s' (λb=>Na b\/No b) v r) (ht:zJ p=false):Out top By s' Na No b p v r :=
 ⟨h.1.rt,λ_=>h.1.weak λ_ q=>.inl q,λ_=>h.1,λ_ l e=>by
  refine cC (h.2 l e) λa vs h1 h2 h3 h4=>?_;exact(bW a vs h1 (aa hp.step.grow h2) h3 h4),λq=>by rw[ht] at q;(cases q)⟩
theorem RT.pure (r:RT s.heap N v p) (x:Pure s s'):RT s'.heap N v p:=by
 have S:=x.stepAt N;cases r with
 | none=>exact .none
 | bool b=>exact .bool b
 | int n t=>exact .int n t
 | flt x t ht=>exact .flt x t ht
 | str x t=>exact .str x t
 | tup b c=>refine xe b λn e=>?_;exact .tup ⟨n,x.keep _ _ e⟩ (c.step S)
 | lst b c=>refine xe b λn e=>?_;exact .lst ⟨n,x.keep _ _ e⟩ (c.step S)
 | dcti b=>refine qK b λhs Ij hd hk=>?_;exact .dcti (o4 hs Ij (hd.keep x.keep) hk)
 | dcts b=>refine qK b λhs Ij hd hk=>?_;exact .dcts (o4 hs Ij (hd.keep x.keep) hk)
section
variable (F:Fn) (B:Nat)
def EvalP (p:PE):Prop:=∀{A:dt}{cx:Cx}{asg:List Str}{env:Env}{s:ai}{Na No:Ap}{pe:PEnv}{b:Bool}{e:ao}{r:PV}{Q:Vs}{E:Vs},
 Room A (nd p+B)->EnvR cx asg env s Na No pe->aH cx b e p=true->aA F p pe=some r ->
 (∀v s',Pure s s'->Out cx.top s s' Na No b p v r->Q v s')->wpAny (model Pg W0) A (eval e env) Q E s
def TrueP (p:PE):Prop:=∀{A:dt}{cx:Cx}{asg:List Str}{env:Env}{s:ai}{Na No:Ap}{pe:PEnv}{b:Bool}{e:ao}{r:Bool}{Q:Bool->ai->Prop}{E:Vs},
 Room A (nd p+B)->EnvR cx asg env s Na No pe->aH cx b e p=true->aA F p pe=some (.bool r) ->
 (∀s',Pure s s'->Q r s')->wpAny (model Pg W0) A (isTrue e env (eval e env)) Q E s
def EvalsP (ps:PEs):Prop:=∀{A:dt}{cx:Cx}{asg:List Str}{env:Env}{s:ai}{Na No:Ap}{pe:PEnv}{b:Bool}{es:List ao}{rs:List PV}{pos:Pos}{Q:List ag->ai->Prop}{E:Vs},
 Room A (nds ps+B)->EnvR cx asg env s Na No pe->eP cx b es ps=true->bK F ps pe=some rs ->
 (∀vs s',Pure s s'->RTs s'.heap (λb=>Na b\/No b) vs rs->(cx.top=true->RVs s'.heap Na vs rs)->(b=false->RVs s'.heap (λb=>Na b\/No b) vs rs)->vs.length=es.length->Q vs s') ->
 wpAny (model Pg W0) A (spliced (backTo pos (starEach es env))) Q E s
end
section
variable{F:Fn}{B:Nat}
variable{A:dt}{cx:Cx}{asg:List Str}{env:Env}{s:ai}{Na No:Ap}{pe:PEnv}{E:Vs}
theorem fZ (GK:Glo) (r:EnvR cx asg env s Na No pe) (h1:cx.kinds.lookup x=some .globalImplicit) (h2:cR x=true) (h3:GL.lookup x=some g)
  (hQ:∀v,GV v g->Q v s):wpAny (model Pg W0) A (eval (.Name x pos) env) Q E s:=by
 refine eA GK.names λmg mb hg hb hn=>?_;refine xea (hn x g h3) λv hv X4=>?_;refine Calls.Name_function_global r.kind (r.gl x h1) ?_ (by simp only[cR,ay,dq] at h2;exact h2.1);rcases hv with hv | ⟨h4,h5⟩
 ·exact Calls.loadGlobal_global (by exact O r.glb (hg.keeps r.base.keep)) hv (hQ v X4)
 ·exact Calls.loadGlobal_builtin (by exact O r.glb (hg.keeps r.base.keep)) h4 (by refine O r.blt ?_;exact hb.keeps r.base.keep) h5 (hQ v X4)
theorem hO (h:fX cx e f=true):∃x pos g,e=.Name x pos/\cx.kinds.lookup x=some .globalImplicit/\cR x=true/\GL.lookup x=some g/\f g=true:=by
 replace h:=aD h
 refine xea h λx h1 h=>?_;apply xeR (fD h1);intro p;have h2:=aB (aB h).2;refine xea (aD h2.2) λg h3 h4=>?_;exact(dF x p g rfl (eq_of_beq (aB h).1) h2.1 h3 h4)
theorem zK (hT:0<s.toks) (h:wY k=some c) (hQ:∀v s',Pure s s'->(∀N,RV s'.heap N v c)->Q v s'):wpAny (model Pg W0) A (constValue env k) Q E s:=by
 cases k <;> try (exact nn h)
 all_goals cases sm h
 ·exact cu (hQ _ _ (Ext.refl _ _) λ_=>.none)
 ·exact cu (hQ _ _ (Ext.refl _ _) λ_=>.bool _)
 ·exact wpAny_mkInt (hQ _ _ (Pure.toks _) λ_=>.int _ _)
 ·exact wpAny_mkFloat (hQ _ _ (Pure.toks _) λ_=>.flt _ _ (cj hT))
 ·exact wpAny_mkText (hQ _ _ (Pure.toks _) λ_=>.str _ _)
theorem zL (c:PV):EvalP F B (.cst c):=by
 intro A cx asg env s Na No pe b e r Q E R X hc hd hQ;cases sm hd;refine gB (PA hc) λk n p zt=>?_;apply xr zt;intro h;exact zK X.base.toks h λv s' P rv=>hQ v s' P (.of (rv _) rfl rfl)
theorem F8 (h:SH p g=true):g=.cst p:=by
 cases g <;> first | exact nf h | exact congrArg _ (O8 h)
theorem vK (GK:Glo) (c:PV):EvalP F B (.gcst c):=by
 intro A cx asg env s Na No pe b e r Q E R X hc hd hQ;cases sm hd;apply fJ (hO hc);intro x pos g h1 h2 h3 h4;cases F8 h4;exact fZ GK X h1 h2 h3 λv hv=>hQ _ _ (Ext.refl _ _) (.of (RV.step (h:=H0) (N:=No0) ⟨λb o _ e=>X.base.keep b o e,X.base.size,λb hb=>.inr (X.base.above b hb)⟩ hv) rfl rfl)
theorem BindAt.name (k:env.scope.kind=.function) (b:BindAt env s.heap x v) (h2:cR x=true) (h:Q v s):wpAny (model Pg W0) A (eval (.Name x pos) env) Q E s:=by
 have hd:(x==("__debug__":Str))=false/\(x==("__classdict__":Str))=false:=by simpa only[cR,ay,dq] using h2
 refine wpAny_Name ?_ hd.1;cases b with
 | loc m h1 h3 h4=>exact wpAny_loadName_local k h1 h3 h4 h
 | cell c h1 h3 h4 =>
  rcases h1 with h1 | h1
  ·exact wpAny_loadName_cell k h1 h3 h4 h
  ·exact wpAny_loadName_free k h1 h3 h4 h hd.2
theorem OwnR.cases (r:OwnR h N a p):(∃l vs,p=.lst l/\h.PlainList a (Ba vs)/\RVs h N vs l)\/∃l,p=.dcti l/\PlainDictI h a l:=by
 cases p <;> try (exact r.elim)
 ·refine xea r λvs h1 h2=>?_;exact .inl (bE _ vs rfl h1 h2)
 ·exact .inr (iea _ rfl r)
theorem TT (h:(b||!c)=true) (hc:c=true):b=true:=by cases b <;> cases c <;> first | rfl | exact nf h | exact nf hc
theorem SlotR.out (hs:SlotR cx env s (λb=>Na b\/No b) i v p) (hb:(b||!cx.own.contains i)=true) (hx:cx.top=true->∀a,v=.ref a->cx.own.contains i=true->¬Na a) :
  Out cx.top s s Na No b (.var i) v p:=by
 have h1:=hs.1
 by_cases ho:cx.own.contains i=true
 ·rw[if_pos ho] at h1;refine bV h1 λa aT ha hl hr=>?_;subst aT;clear h1;have Zj:=TT hb ho;subst Zj;rcases hr.cases with ⟨l,vs,rfl,h4,h5⟩ | ⟨l,rfl,hr⟩
  ·exact{t:=.lst h4 h5,a:=λht=>.lst (hx ht a rfl ho) h4 (h5.weak λ_ q=>.inl q),f:=λq=>(nomatch q),fresh:=λq=>(nomatch q),tok:=λq=>(nomatch q)}
  ·exact{t:=.dcti hr,a:=λht=>.dcti (hx ht a rfl ho) hr,f:=λq=>(nomatch q),fresh:=λq=>(nomatch q),tok:=λq=>(nomatch q)}
 ·rw[if_neg ho] at h1;exact .of h1 rfl rfl
theorem zN (i:Nat):EvalP F B (.var i):=by
 intro A cx asg env s Na No pe b e r Q E R X hc hd hQ;apply iB (PB hc);intro x pos hi h2 h3;refine xea (X.vars x i r hi hd) λv hb hs=>?_;refine hb.name X.kind h2 (hQ _ _ (Ext.refl _ _) (hs.out h3 λht a hv ho Zk=>?_));subst hv;exact X.disj a (X.turns x i a hi ho (Option.isSome_of_eq_some hd) hb) Zk
theorem EnvR.low (X:EnvR cx asg env s Na No pe):Low (λb=>Na b\/No b) s.heap:=X.base.low
theorem EnvR.ns0 (GK:Glo) (X:EnvR cx asg env s Na No pe):NoShare s.heap:=GK.noshare.keeps X.base.keep
theorem two{p q:PE}{x y:PV}{e f:ao}{b c:Bool}{Q:ag->Vs}(hp:EvalP F B p) (hq:EvalP F B q) (R:Room A (max (nd p) (nd q)+B)) (X:EnvR cx asg env s Na No pe)
  (h1:aH cx b e p=true) (h2:aH cx c f q=true) (d1:aA F p pe=some x) (d2:aA F q pe=some y)
  (h:∀v u s',Pure s s'->RT s'.heap (λb=>Na b\/No b) v x->RT s'.heap (λb=>Na b\/No b) u y->EnvR cx asg env s' Na No pe->Q v u s') :
  wpAny (model Pg W0) A (eval e env) (λv bc=>wpAny (model Pg W0) A (eval f env) (λu s₂=>Q v u s₂) E bc) E s:=by
 refine hp (R.le (bn (ip _ _) _)) X h1 d1 λv bc dO Hx=>?_;have Ie:=X.pure dO;refine hq (R.le (bn (ge _ _) _)) Ie h2 d2 λu s₂ iF Iu=>?_;exact h v u s₂ (dO.trans iF) (Hx.t.pure iF) Iu.t (Ie.pure iF)
theorem zO (hp:EvalP F B p) (hq:EvalP F B q):EvalP F B (.bin op p q):=by
 intro A cx asg env s Na No pe b e r Q E R X hc hd hQ;apply kB (PC hc);intro l r' k h1 h2;refine eA (PJ hd) λx y d1 d2 d3=>?_;exact wpAny_BinOp (two hp hq R X h1 h2 d1 d2 λv u s' P rv ru X'=>FN R X'.base.toks X'.low rv ru d3 λz s₂ iF hz=>hQ _ _ (P.trans iF) (.res P hz rfl))
theorem D9 (h:aH cx b (.Set l k pos) p=true):False:=by
 cases p <;> exact nf h
theorem kI (h:aH cx b e p=true):behindInMarks op e=false:=by
 by_cases c:e.ctorIdx=7
 ·exact Er (motive_1:=λe=>aH cx b e p=true->behindInMarks op e=false) e c (λl k p h=>(D9 h).elim) h
 ·clear h;cases e <;> first | rfl | exact absurd rfl c
theorem JU (hB:3<=B) (GK:Glo) (hp:EvalP F B p) (hq:EvalP F B q):EvalP F B (.cmp op p q):=by
 intro A cx asg env s Na No pe b e r Q E R X hc hd hQ;apply kB (D4 hc);intro l r' k h1 h2;obtain⟨x,y,z,d1,d2,d3,rfl⟩:=D8 hd;exact wpAny_Compare1 (two hp hq R X h1 h2 d1 d2 λv u s' P rv ru X'=>fB (k:=3) (ah _) (R.le (aa hB (lr _ _))) (X'.ns0 GK) rv ru d3 λs₂ iF=>hQ _ _ (P.trans iF) (.of (.bool _) rfl rfl)) (kI h2)
theorem Out.int (o:Out top s s' Na No b p v (.int n)):∃t,v=.int n t:=o.t.inv
theorem Out.bool (o:Out top s s' Na No b p v (.bool n)):v=.bool n:=o.t.inv
theorem zP (hp:EvalP F B p):EvalP F B (.neg p):=by
 intro A cx asg env s Na No pe b e r Q E R X hc hd hQ;refine jE (PD hc) λx k aT h1=>?_;subst aT;refine xea (PK hd) λn d1 aT=>?_;subst aT;refine wpAny_UnaryOp (hp R X h1 d1 λv bc dO Hx=>?_);refine xe Hx.int λt aT=>?_;subst aT;exact Ho (hQ _ _ (dO.trans (Pure.toks _)) (.of (.int _ _) rfl rfl))
theorem jQ{p:PE}(hp:EvalP F B p){b:Bool}{e:ao}{r:Bool}{Q:ag->Bool->ai->Prop}(R:Room A (nd p+B)) (X:EnvR cx asg env s Na No pe) (hc:aH cx b e p=true) (hd:aA F p pe=some (.bool r))
  (h:∀s',Pure s s'->EnvR cx asg env s' Na No pe->Q (.bool r) r s'):wpAny (model Pg W0) A (eval e env) (λv bc=>wpAny (model Pg W0) A (truthy v) (λc s₂=>Q v c s₂) E bc) E s:=by
 refine hp R X hc hd λv bc dO Hx=>?_;cases Hx.bool;exact wpAny_truthy_bool (h _ dO (X.pure dO))
theorem JV{p:PE}(hp:EvalP F B p):EvalP F B (.not p):=by
 intro A cx asg env s Na No pe b e r Q E R X hc hd hQ;refine jE (D1 hc) λx k aT h1=>?_;subst aT;refine xea (D5 hd) λn d1 aT=>?_;subst aT;refine wpAny_UnaryOp (lq (jQ (Q:=λv c s'=>v=.bool n/\c=n/\Pure s s') hp R X h1 d1 λs' P _=>(iaa rfl rfl P)) (λv bc h=>?_) λ_ _ e=>e);exact not_of (lq h (λc s₂ h=>by refine xaa h λaT Ik P=>?_;subst aT;subst Ik;exact hQ _ _ P (.of (.bool _) rfl rfl)) λ_ _ e=>e)
section
variable{p q:PE}
theorem Room.lz2 (R:Room A (max (nd p) (nd q)+B)):Room A (nd p+B):=R.le (bn (ip _ _) _)
theorem Room.r2 (R:Room A (max (nd p) (nd q)+B)):Room A (nd q+B):=R.le (bn (ge _ _) _)
theorem Room.m1 (R:Room A (max a (max b c)+B)):Room A (a+B):=R.le (bn (ip _ _) _)
theorem Room.m2 (R:Room A (max a (max b c)+B)):Room A (b+B):=R.le (bn (aa (ip _ _) (ge _ _)) _)
theorem Room.m3 (R:Room A (max a (max b c)+B)):Room A (c+B):=R.le (bn (aa (ge _ _) (ge _ _)) _)
end
theorem JW{p q:PE}(hp:EvalP F B p) (hq:EvalP F B q):EvalP F B (.and p q):=by
 intro A cx asg env s Na No pe b e r Q E R X hc hd hQ;apply kB (D2 hc);intro x y k h1 h2;rcases D6 hd with ⟨d1,n,d2,rfl⟩ | ⟨d1,rfl⟩
 ·refine BoolOp_and (jQ hp R.lz2 X h1 d1 λs' P X'=>BoolOp_one (hq R.r2 X' h2 d2 λv s₂ iF Iu=>?_));cases Iu.bool;exact hQ _ _ (P.trans iF) (.of (.bool _) rfl rfl)
 ·exact BoolOp_and (jQ hp R.lz2 X h1 d1 λs' P X'=>hQ _ _ P (.of (.bool _) rfl rfl))
theorem PP{p q:PE}(hp:EvalP F B p) (hq:EvalP F B q):EvalP F B (.or p q):=by
 intro A cx asg env s Na No pe b e r Q E R X hc hd hQ;apply kB (JG hc);intro x y k h1 h2;rcases JO hd with ⟨d1,rfl⟩ | ⟨d1,n,d2,rfl⟩
 ·exact BoolOp_or (jQ hp R.lz2 X h1 d1 λs' P X'=>hQ _ _ P (.of (.bool _) rfl rfl))
 ·refine BoolOp_or (jQ hp R.lz2 X h1 d1 λs' P X'=>BoolOp_one (hq R.r2 X' h2 d2 λv s₂ iF Iu=>?_));cases Iu.bool;exact hQ _ _ (P.trans iF) (.of (.bool _) rfl rfl)
theorem Out.ite{top b:Bool}{t p q u:PE}{s s' s₂:ai}{v:ag}{r:PV}(P:Pure s s') (o:Out top s' s₂ Na No b u v r):Out top s s₂ Na No b (.ite t p q) v r :=
 {t:=o.t,a:=o.a,f:=o.f,fresh:=λq=>(nomatch q),tok:=λq=>(nomatch q)}
theorem JX (ht:TrueP F B t) (hp:EvalP F B p) (hq:EvalP F B q):EvalP F B (.ite t p q):=by
 intro A cx asg env s Na No pe b e r Q E R X hc hd hQ;apply jN (D3 hc);intro c x y k h1 h2 h3;rcases D7 hd with ⟨d1,d2⟩ | ⟨d1,d2⟩
 ·exact IfExp_ (ht R.m1 X h1 d1 λs' P=>hp R.m2 (X.pure P) h2 d2 λv s₂ iF Iu=>hQ _ _ (P.trans iF) (.ite P Iu))
 ·exact IfExp_ (ht R.m1 X h1 d1 λs' P=>hq R.m3 (X.pure P) h3 d2 λv s₂ iF Iu=>hQ _ _ (P.trans iF) (.ite P Iu))
set_option tactic.hygienic true in
theorem uQ (slice:ao) (o i:ag):∃l,subscripted slice false o i=operate l (getItem o i):=by
 cases slice <;> try (exact⟨_,rfl⟩)
 rename_i a b c d;cases c <;> exact⟨_,rfl⟩
theorem zQ{value slice:ao}{o i:ag}{T id:String}{Q:Vs}(hT:s.TypeIs o T)
  (hl:typeLookup (.type T) "__getitem__"=pure (some (.builtin id))) (h:wpAny (model Pg W0) A (getItem o i) Q E s) :
  wpAny (model Pg W0) A (subscriptTail value slice o i) Q E s:=by
 unfold subscriptTail;refine bh ?_;refine O (getitemInPython_of_ne hT.not_modules) (bh (wpAny_specialOf hT hl ?_));have fin:wpAny (model Pg W0) A (subscripted slice false o i) (λr iN=>wpAny (model Pg W0) A (letTemporaryGo value o r >>= λ_=>pure r) Q E iN) E s:=by
  have h2:wpAny (model Pg W0) A (getItem o i) (λr iN=>wpAny (model Pg W0) A (letTemporaryGo value o r >>= λ_=>pure r) Q E iN) E s :=
   lq h (λr iN Mw=>bh (wpAny_letTemporaryGo (cu Mw))) λ_ _ x=>x
  refine xe (uQ slice o i) λl e=>?_;exact O e (wpAny_operate' h2)
 first
  | exact cu (bh fin)
  | exact bh (cu (bh fin))
  | exact bh fin
noncomputable def TU (p:PV):Bool:=match p with
 | .lst _=>true
 | .tup _=>true
 | .str _=>true
 | .dcti _=>true
 | .dcts _=>true
 | _=>false
theorem sG (r:RT s.heap N v p) (h:TU p=true):∃T id,s.TypeIs v T/\typeLookup (.type T) "__getitem__"=pure (some (.builtin id)):=by
 cases p <;> try (exact nf h)
 ·apply xeR r.inv;intro t;exact(kC ("str") _ rfl F.slot_str_getitem.lookup)
 ·apply dP r.inv;intro _ _ a _;exact(kC ("tuple") _ a.isTuple.typeIs F.slot_tuple_getitem.lookup)
 ·apply dP r.inv;intro _ _ a _;exact(kC ("list") _ a.isList.typeIs F.slot_list_getitem.lookup)
 ·apply BB r.inv;intro _ _ _ hd _;exact(kC ("dict") _ hd.typeIs zr.lookup)
 ·apply BB r.inv;intro _ _ _ hd _;exact(kC ("dict") _ hd.typeIs zr.lookup)
theorem F9 (h:cX p q=some r):TU p=true:=by
 cases p <;> first | rfl | exact nn h
theorem zR (h:cY p a b c=some r):TU p=true:=by
 cases p <;> first | rfl | exact nn h
theorem JY (h:zJ (.sub p q)=true):∃x,p=.cst (.str x):=B1 h
theorem zS (hp:EvalP F B p) (hq:EvalP F B q):EvalP F B (.sub p q):=by
 intro A cx asg env s Na No pe b e r Q E R X hc hd hQ;refine mX (PF hc) λx i k aT h1 h2=>?_;subst aT;refine eA (PL hd) λa c d1 d2 d3=>?_;refine Subscript_ (two hp hq R X h1 h2 d1 d2 λv u s' P rv ru X'=>?_);refine jE (sG rv (F9 d3)) λT id hT hl=>?_;refine zQ hT hl (FU R rv ru d3 X'.base.toks λz s₂ iF hz ht=>hQ _ _ (P.trans iF) ?_);refine{t:=hz.rt,a:=λ_=>hz.weak λ_ q=>.inl q,f:=λ_=>hz,fresh:=λq=>(nomatch q),tok:=λhk=>ht ?_};refine xe (JY hk) λy aT=>?_;subst aT;exact⟨y,(sm d1).symm⟩
theorem PQ (r:RT h N v p) (e:eB p=some o):PartR v o:=by
 cases p <;> try (exact nn e)
 ·cases sm e;cases r.inv;exact .none
 ·cases sm e;apply xeR r.inv;intro t;exact .int _ _
theorem pB (hp:EvalP F B p) (R:Room A (nd p+B)) (X:EnvR cx asg env s Na No pe)
  (hc:(match x with | none=>f9 p | some e=>aH cx true e p)=true) (hd:aA F p pe=some r/\eB r=some o)
  (h:∀v s',Pure s s'->PartR v o->EnvR cx asg env s' Na No pe->Q v s'):wpAny (model Pg W0) A (evalPart x env) Q E s:=by
 cases x with
 | none =>
  cases zE hc;cases sm hd.1;cases sm hd.2;exact wpAny_evalPart_none (h _ _ (Ext.refl _ _) .none X)
 | some e =>
  exact wpAny_evalPart_some (hp R X hc hd.1 λv s' P o=>h _ _ P (PQ o.t hd.2) (X.pure P))
theorem Room.s1 (R:Room A (max (max a b) (max c d)+B)):Room A (a+B)/\Room A (b+B)/\Room A (c+B)/\Room A (d+B) :=
 (cS (R.le (bn (aa (ip _ _) (ip _ _)) _)) (R.le (bn (aa (ge _ _) (ip _ _)) _)) (R.le (bn (aa (ip _ _) (ge _ _)) _)) (R.le (bn (aa (ge _ _) (ge _ _)) _)))
theorem zT (hp:EvalP F B p) (ha:EvalP F B a) (hb:EvalP F B b) (Sm:EvalP F B c):EvalP F B (.slc p a b c):=by
 intro A cx asg env s Na No pe bb e r Q E R X hc hd hQ;have R:=R.s1;refine eJ (PG hc) λx l u t zt=>?_;apply iB zt;intro k k' h1 h2 zt;refine xa zt λh3 h4=>?_;clear zt;refine eJ (PN hd) λx l u t zt=>?_;refine bI zt λl' u' t' d1 d2 d3 zt=>?_;refine xa zt λd4 d5=>?_;clear zt;refine Subscript_ (hp R.1 X h1 d1 λv bc dO Hx=>wpAny_Slice ?_);refine pB ha R.2.1 (X.pure dO) h2 d2 λvl s₂ iF pl Hz=>?_;refine pB hb R.2.2.1 Hz h3 d3 λvu iN Ip pu Ig=>?_;refine pB Sm R.2.2.2 Ig h4 d4 λvs s₄ Ji ps Ix=>?_;have Ja:Pure s₄ {s₄ with heap:=s₄.heap.push {cls:=.type "slice",data:=.fields #[vl,vu,vs]}}:=Pure.push s₄ _ (ah _);have Iq:=Ix.pure Ja;have P25:=((iF.trans Ip).trans Ji).trans Ja;have Tb:=Hx.t.pure P25;refine jE (sG Tb (zR d5)) λT id hT hl=>?_;have P14:=dO.trans P25;exact zQ hT hl (yM Iq.base.toks Iq.low Tb pl pu ps (ci _ rfl) d5 λz Iv Mx hz=>hQ _ _ (P14.trans Mx) (.res P14 hz rfl))
theorem GA (hB:3<=B) (GK:Glo) (hp:EvalP F B p) (hq:EvalP F B q) (hr:EvalP F B c):EvalP F B (.cmp2 op Ks p q c):=by
 intro A cx asg env s Na No pe b e r Q E R X hc hd hQ;apply jN (zF hc);intro l m n k h1 h2 h3;refine eA (zH hd) λx y d1 d2 d3=>?_;have R3:Room A 3:=R.le (aa hB (lr _ _));refine Compare_chain (hp R.m1 X h1 d1 λv bc dO Hx=>chain_link ?_) (kI (op:=Ks) h3);have Ie:=X.pure dO;refine hq R.m2 Ie h2 d2 λu s₂ iF Iu=>?_;have Hz:=Ie.pure iF;have P12:=dO.trans iF;rcases d3 with ⟨hz,z,t,d3,Ow,rfl⟩ | ⟨hz,rfl⟩
 ·refine fB (k:=3) (ah _) R3 (Hz.ns0 GK) (Hx.t.pure iF) Iu.t hz λiN Ip=>wpAny_truthy_bool ?_;have Ig:=Hz.pure Ip;refine chain_last (hr R.m3 Ig h3 d3 λm s₄ Ji Rg=>?_);have P34:=Ip.trans Ji;exact fB (k:=3) (ah _) R3 ((Ig.pure Ji).ns0 GK) (Iu.t.pure P34) Rg.t Ow λIh Ja=>hQ _ _ ((P12.trans P34).trans Ja) (.of (.bool _) rfl rfl)
 ·exact fB (k:=3) (ah _) R3 (Hz.ns0 GK) (Hx.t.pure iF) Iu.t hz λiN Ip=>wpAny_truthy_bool (hQ _ _ (P12.trans Ip) (.of (.bool _) rfl rfl))
end
section
variable (F:Fn) (B:Nat)
def AllE:PEs->Prop
 | .nil=>True
 | .cons p ps=>(EvalP F B p/\TrueP F B p)/\AllE ps
end
section
variable{F:Fn}{B:Nat}
variable{A:dt}{cx:Cx}{asg:List Str}{env:Env}{s:ai}{Na No:Ap}{pe:PEnv}{E:Vs}
theorem uR (h:bZ e=true):starEach (e::DO) env=(false,eval e env)::starEach DO env:=by
 cases e <;> first | rfl | exact nf h
theorem RTs.pure (r:RTs s.heap N vs ps) (x:Pure s s'):RTs s'.heap N vs ps:=by
 induction ps generalizing vs with
 | nil=>cases r;exact .nil
 | cons p ps ih=>cases r with | cons a b=>exact .cons (a.pure x) (ih b)
theorem Room.n1 (R:Room A (max a b+B)):Room A (a+B):=R.le (bn (ip _ _) _)
theorem Room.n2 (R:Room A (max a b+B)):Room A (b+B):=R.le (bn (ge _ _) _)
theorem Room.b (R:Room A (a+B)):Room A B:=R.le (lr _ _)
theorem bL (h:bZ e=true):backTo pos (starEach (e::es) env)=(false,eval e env)::backTo pos (starEach es env):=by refine O (uR h) ?_;rfl
theorem EvalsP.nil (h:ps=.nil):EvalsP F B ps:=by
 subst h;intro A cx asg env s Na No pe b es rs pos Q E R X hc hd hQ;cases sm hd;cases sF hc;exact lm (hQ _ _ (Ext.refl _ _) .nil (λ_=>.nil) (λ_=>.nil) rfl)
theorem EvalsP.cons (hp:EvalP F B p) (ih:EvalsP F B ps):EvalsP F B (.cons p ps):=by
 intro A cx asg env s Na No pe b es rs pos Q E R X hc hd hQ;refine eA (F7 hd) λx l d1 d2 aT=>?_;subst aT;refine cC (pA hc) λe es aT h1 h2 h3=>?_;subst aT;refine O (bL h1) (fe (hp R.n1 X h2 d1 λv bc dO Hx=>ih R.n2 (X.pure dO) h3 d2 λvs s₂ iF Nt Tc Td hl=>?_));exact hQ _ _ (dO.trans iF) (.cons (Hx.t.pure iF) Nt) (λht=>.cons ((Hx.a ht).step (iF.stepAt _)) (Tc ht)) (λhb=>.cons ((Hx.f hb).step (iF.stepAt _)) (Td hb)) (congrArg Bb hl)
theorem dR:∀{ps:PEs},AllE F B ps->EvalsP F B ps
 | .nil,_=>EvalsP.nil rfl
 | .cons _ _,H=>EvalsP.cons H.1.1 (dR H.2)
theorem kJ:∀{ps:PEs}{es:List ao}{cx:Cx}{b:Bool},eP cx b es ps=true->(backTo pos (starEach es env)).any (·.1)=false
 | .nil,es,cx,b,h=>by cases sF h;rfl
 | .cons p ps,es,cx,b,h=>by
  apply iB (pA h);intro e es h1 h2 h3;exact O (bL h1) (kJ (pos:=pos) h3)
theorem w5 (hc:eP cx b es ps=true) (Io:0<es.length) (h:wpAny (model Pg W0) A (spliced (backTo pos (starEach es env))) (λvs s'=>Q ⟨vs,[]⟩ s') E s) :
  wpAny (model Pg W0) A (evalArgs f true (backTo pos (starEach es env)) []) Q E s:=by
 cases ps with
 | nil =>
  cases sF hc;exact absurd Io (ii 0)
 | cons p ps =>
  refine cC (pA hc) λe es aT h1 h2 h3=>?_;subst aT;rw[bL h1] at h ⊢;exact ib h
theorem nA (h:n<=100) (e:m=n):m<=sizeLine:=by unfold sizeLine;exact fn2 (.x .q (.P .n2 24)) [.x .r .jt,.z1 .q .r] h e
theorem vL (H:AllE F B ps):EvalP F B (.list ps):=by
 intro A cx asg env s Na No pe b e r Q E R X hc hd hQ;refine eA (JH hc) λxs k aT h1 h2=>?_;subst aT;refine xea (JQ hd) λl d1 aT=>?_;subst aT;refine wpAny_List (dR H R X h1 d1 λvs bc dO Ly My Ki hl=>⟨nA h2 hl,?_⟩);exact pT (X.pure dO).low (Ki rfl) (ah _) λv s' P hr=>hQ _ _ (dO.trans P) (.res dO hr rfl)
theorem zU (H:AllE F B ps):EvalP F B (.tup ps):=by
 intro A cx asg env s Na No pe b e r Q E R X hc hd hQ;refine mX (PH hc) λxs n k aT h1 h2=>?_;subst aT;refine xea (PM hd) λl d1 aT=>?_;subst aT;refine wpAny_Tuple (dR H R X h1 d1 λvs bc dO Ly My Ki hl=>⟨nA h2 hl,?_⟩);exact rM (X.pure dO).low (Ki rfl) (ah _) λv s' P hr=>hQ _ _ (dO.trans P) (.res dO hr rfl)
theorem JZ (h:O9 f g=true):g=.fn f:=by cases g <;> first | exact nf h | exact congrArg _ (eq_of_beq h).symm
theorem J0 (h:TO f g=true):g=.bi f:=by cases g <;> first | exact nf h | exact congrArg _ (eq_of_beq h).symm
theorem GB (h:pW g=true):g=.rng:=by cases g <;> first | exact nf h | rfl
theorem PR (GK:Glo) (H:AllE F B ps) (R:Room A (nds ps+B)) (X:EnvR cx asg env s Na No pe)
  (h1:fX cx g (O9 f)=true) (h2:eP cx b xs ps=true) (Io:0<xs.length) (d1:bK F ps pe=some l)
  (hQ:∀vs s',Pure s s'->EnvR cx asg env s' Na No pe->(cx.top=true->RVs s'.heap Na vs l)->(b=false->RVs s'.heap (λb=>Na b\/No b) vs l)->wpAny (model Pg W0) A (call (.ref (fA f)) vs) Q E s') :
  wpAny (model Pg W0) A (eval (.Call g xs [] k) env) Q E s:=by
 apply fJ (hO h1);intro x pos g k1 k2 k3 k4;refine wpAny_Call_NameR (fZ GK X k1 k2 k3 λv hv=>?_);cases JZ k4;apply xr hv;intro zt;refine jE zt λo fd hg Vn=>?_;clear zt;exact va (o:=o) (fd:=fd) (w5 h2 Io (dR H R X h2 d1 λvs bc dO Ly My Ki hl=>⟨⟨dO.keep _ _ (X.base.keep _ _ hg),Vn⟩,hQ vs bc dO (X.pure dO) My Ki⟩))
theorem vM (GK:Glo) (FK:FunOK F B) (H:AllE F B ps):EvalP F B (.call f ps):=by
 intro A cx asg env s Na No pe b e r Q E R X hc hd hQ;apply fJ (JJ hc);intro g xs k h1 h2 Io _;refine xea (JP hd) λl d1 d2=>?_;exact PR GK H R X h1 h2 Io d1 λvs bc dO Ie My Ki=>FK f A bc (λb=>Na b\/No b) vs l r Q E R.b Ie.base (Ki rfl) d2 λv s₂ iF hv=>hQ _ _ (dO.trans iF) (.of hv rfl rfl)
theorem Base.weak (b:Base s N) (h:∀x,N' x->N x):Base s N':=⟨b.keep,λx q=>b.above x (h x q),b.size,λx q=>b.low x (h x q),b.toks,b.bare⟩
theorem J1 (h:(backTo posc (starEach xs env)).any (·.1)=false)
  (k:wpAny (model Pg W0) A (evalArgs (biV f) true (backTo posc (starEach xs env)) []) (λa bc=>wpAny (model Pg W0) A (call (biV f) ([]++a.pos) a.kw) Q E bc) E s) :
  wpAny (model Pg W0) A (callWith pos (biV f) [] (backTo posc (starEach xs env)) []) Q E s:=by
 cases f with
 | int=>exact ol h k
 | _=>exact nx h k
theorem EA (GK:Glo) (hB:3<=B) (H:AllE F B ps):EvalP F B (.bi f ps):=by
 intro A cx asg env s Na No pe b e r Q E R X hc hd hQ;apply fJ (TP hc);intro g xs k h1 h2 Io _;refine xea (TR hd) λl d1 d2=>?_;apply fJ (hO h1);intro x pos g k1 k2 k3 k4;refine wpAny_Call_NameR (fZ GK X k1 k2 k3 λv hv=>?_);cases J0 k4;cases hv;exact J1 (kJ h2) (w5 h2 Io (dR H R X h2 d1 λvs bc dO Ly My Ki hl=>I5 R (X.pure dO).base.toks Ly d2 λv s₂ iF hv=>hQ _ _ (dO.trans iF) (.of hv rfl rfl)))
theorem GC (h:(!(args.isEmpty&&kws.isEmpty))=true):attributeBase (.Call g args kws pos) n env whole=whole:=by
 cases args <;> cases kws
 ·exact nf h
 all_goals (cases g <;> rfl)
theorem PT (h:sE o=true):attributeBase o n env whole=whole:=by
 cases o <;> try rfl
 exact GC h
theorem PU{α:Type}{f:α->Bool}{l:List α}(h:l.any f=false):l.all (λx=>!f x)=true:=by
 induction l with
 | nil=>rfl
 | cons a l ih =>
  have h:=xw.mp (show(f a||l.any f)=false from h);show(!f a&&l.all _)=true;refine O h.1 (O (ih h.2) ?_);rfl
theorem B2 (hc:eP cx b es ps=true) (hl:es.length<=20):((backTo pos (starEach es env)).all (λx=>!x.1)&&(backToKw pos (keywordEach [] env)).all (λx=>x.1.isSome)&&decide (es.length+([]:List we).length+(if ([]:List we).isEmpty then 0 else 1)<30))=true:=by
 have h:=kJ (env:=env) (pos:=pos) hc;have h1:=PU h;have h2:decide (es.length+([]:List we).length+(if ([]:List we).isEmpty then 0 else 1)<30)=true:=decide_eq_true (gy (show es.length<=20 from hl) (by decide));refine O h1 (O h2 ?_);rfl
theorem J2 (f:Me):∃(T:String),PlainAttrs T/\Slot T (meN f) f.id/\typeOf (.builtin f.id)=dw (.type "method_descriptor") /\
  ∀{s:ai}{N:Ap}{v:ag}{p:PV}{l:List PV}{r:PV},RT s.heap N v p->meF f p l=some r->s.TypeIs v T/\(∀a,v=.ref a->∃ob,s.heap.get? a=some ob/\ob.dict=none):=by
 cases f
 ·refine(fK ("str") Cc F.slot_str_join F.type_str_join (λ{s N v p l r} h1 h2=>?_));cases p <;> try (exact nn h2)
  apply xeR h1.inv;intro t;exact⟨rfl,λa e=>(nomatch e)⟩
 ·refine(fK ("list") qw Ax F.type_list_count (λ{s N v p l r} h1 h2=>?_));cases p <;> try (exact nn h2)
  apply dP h1.inv;intro _ _ q _;exact⟨q.isList.typeIs,λa e=>by cases e;refine xe q λn e=>?_;exact(iea _ e rfl)⟩
 ·refine(fK ("str") Cc F.slot_str_index F.type_str_index (λ{s N v p l r} h1 h2=>?_));cases p <;> try (exact nn h2)
  apply xeR h1.inv;intro t;exact⟨rfl,λa e=>(nomatch e)⟩
theorem EB (GK:Glo) (hB:3<=B) (ho:EvalP F B o) (H:AllE F B ps):EvalP F B (.me f o ps):=by
 intro A cx asg env s Na No pe b e r Q E R X hc hd hQ;apply iC (TQ hc);intro x ap xs k h1 h2 Io h4 h5;refine eA (TS hd) λy l d1 d2 d3=>?_;refine bV (J2 f) λT pa sl Zl hk=>?_;refine wpAny_Call_method (PT h5) (B2 h2 Io.2) h4 pa sl Zl (ho R.n1 X h1 d1 λv bc dO Hx=>?_);have Ie:=X.pure dO;have hq:=hk (s:=bc) Hx.t d3;refine(iaa hq.1 hq.2 (nx (kJ h2) (w5 h2 Io.1 (dR H R.n2 Ie h2 d2 λvs s₂ iF Nt Tc Td hl=>?_))));have Hz:=Ie.pure iF;exact I9 (k:=1) (ah _) (R.le (aa (aa (by decide) hB) (lr _ _))) Hz.base.toks (Hz.ns0 GK) (Hx.t.pure iF) Nt d3 λz iN Ip hz=>hQ _ _ ((dO.trans iF).trans Ip) (.of hz rfl rfl)
theorem KVR.keys{K:Type}{Ij:List (K × ag)}{l:List (K × SV)}(r:KVR Ij l):Ij.map (·.1)=l.map (·.1):=by
 induction r with
 | nil=>rfl
 | cons a b ih=>simp[ih]
end
noncomputable def nB (p:PE):Bool:=!(p.ctorIdx==5||p.ctorIdx==6||p.ctorIdx==7||p.ctorIdx==8||p.ctorIdx==9||p.ctorIdx==10)
section
variable{F:Fn}{B:Nat}
variable{A:dt}{cx:Cx}{asg:List Str}{env:Env}{s:ai}{Na No:Ap}{pe:PEnv}{E:Vs}
theorem J3 (h:aH cx b (.BoolOp o l pos) p=true):nB p=false:=by cases p <;> first | rfl | exact nf h
theorem TV (h:aH cx b (.IfExp x y z pos) p=true):nB p=false:=by cases p <;> first | rfl | exact nf h
theorem TY (h:aH cx b (.Compare x y z pos) p=true):nB p=false:=by cases p <;> first | rfl | exact nf h
theorem TZ (h:aH cx b (.UnaryOp .Not x pos) p=true):nB p=false:=by cases p <;> first | rfl | exact nf h
theorem ff{C:Prop}(h:a=true) (h':a=false):C:=nf (h'.symm.trans h)
theorem J4 (h:aH cx b (.UnaryOp o x pos) p=true) (hp:nB p=true) :
  isTrue (.UnaryOp o x pos) env whole=(do let v <- whole;standAt (Az o x pos).pos;holding [v] (truthy v)):=by
 cases o <;> first | rfl | exact ff hp (TZ h)
theorem w6 (h:aH cx b e p=true) (hp:nB p=true) :
  isTrue e env whole=(do let v <- whole;standAt e.pos;holding [v] (truthy v)):=by
 cases e <;> first | rfl | exact J4 h hp | exact ff hp (J3 h) | exact ff hp (TV h) | exact ff hp (TY h)
theorem bP (Ld:nB p=true) (hp:EvalP F B p):TrueP F B p:=by
 intro A cx asg env s Na No pe b e r Q E R X hc hd hQ;refine En (jQ hp R X hc hd λs' P _=>hQ s' P) (w6 hc Ld)
theorem J5 (hp:TrueP F B p):TrueP F B (.not p):=by
 intro A cx asg env s Na No pe b e r Q E R X hc hd hQ;apply wQ (D1 hc);intro x k h1;refine xea (D5 hd) λn d1 e=>?_;cases e;exact Fa (hp R X h1 d1 λs' P=>hQ s' P)
theorem true_and (hp:TrueP F B p) (hq:TrueP F B q):TrueP F B (.and p q):=by
 intro A cx asg env s Na No pe b e r Q E R X hc hd hQ;apply kB (D2 hc);intro x y k h1 h2;rcases D6 hd with ⟨d1,n,d2,e⟩ | ⟨d1,e⟩
 ·cases e;refine isTrue_and (hp R.lz2 X h1 d1 λs' P=>isTrue_and (hq R.r2 (X.pure P) h2 d2 λs₂ iF=>?_));cases r
  ·exact hQ _ (P.trans iF)
  ·exact isTrue_and_nil (hQ _ (P.trans iF))
 ·cases e;exact isTrue_and (hp R.lz2 X h1 d1 λs' P=>hQ _ P)
theorem true_or (hp:TrueP F B p) (hq:TrueP F B q):TrueP F B (.or p q):=by
 intro A cx asg env s Na No pe b e r Q E R X hc hd hQ;apply kB (JG hc);intro x y k h1 h2;rcases JO hd with ⟨d1,e⟩ | ⟨d1,n,d2,e⟩
 ·cases e;exact isTrue_or (hp R.lz2 X h1 d1 λs' P=>hQ _ P)
 ·cases e;refine isTrue_or (hp R.lz2 X h1 d1 λs' P=>isTrue_or (hq R.r2 (X.pure P) h2 d2 λs₂ iF=>?_));cases r
  ·exact isTrue_or_nil (hQ _ (P.trans iF))
  ·exact hQ _ (P.trans iF)
theorem J6 (ht:TrueP F B t) (hp:TrueP F B p) (hq:TrueP F B q):TrueP F B (.ite t p q):=by
 intro A cx asg env s Na No pe b e r Q E R X hc hd hQ;apply jN (D3 hc);intro c x y k h1 h2 h3;rcases D7 hd with ⟨d1,d2⟩ | ⟨d1,d2⟩
 ·exact isTrue_IfExp (ht R.m1 X h1 d1 λs' P=>hp R.m2 (X.pure P) h2 d2 λs₂ iF=>hQ _ (P.trans iF))
 ·exact isTrue_IfExp (ht R.m1 X h1 d1 λs' P=>hq R.m3 (X.pure P) h3 d2 λs₂ iF=>hQ _ (P.trans iF))
theorem J7 (hB:3<=B) (GK:Glo) (hp:EvalP F B p) (hq:EvalP F B q):TrueP F B (.cmp op p q):=by
 intro A cx asg env s Na No pe b e r Q E R X hc hd hQ;apply kB (D4 hc);intro l r' k h1 h2;refine bI (D8 hd) λx y z d1 d2 d3 e=>?_;cases e;exact wpAny_isTrue_Compare1 (two hp hq R X h1 h2 d1 d2 λv u s' P rv ru X'=>fB (k:=3) (ah _) (R.le (aa hB (lr _ _))) (X'.ns0 GK) rv ru d3 λs₂ iF=>wpAny_truthy_bool (hQ _ (P.trans iF))) (kI h2)
theorem GD (hB:3<=B) (GK:Glo) (hp:EvalP F B p) (hq:EvalP F B q) (hr:EvalP F B c):TrueP F B (.cmp2 op Ks p q c):=by
 intro A cx asg env s Na No pe b e r Q E R X hc hd hQ;apply jN (zF hc);intro l m n k h1 h2 h3;refine eA (zH hd) λx y d1 d2 d3=>?_;have R3:Room A 3:=R.le (aa hB (lr _ _));refine isTrue_chain (hp R.m1 X h1 d1 λv bc dO Hx=>test_link ?_) (kI (op:=Ks) h3);have Ie:=X.pure dO;refine hq R.m2 Ie h2 d2 λu s₂ iF Iu=>?_;have Hz:=Ie.pure iF;have P12:=dO.trans iF;rcases d3 with ⟨hz,z,t,d3,Ow,e⟩ | ⟨hz,e⟩
 ·cases e;refine fB (k:=3) (ah _) R3 (Hz.ns0 GK) (Hx.t.pure iF) Iu.t hz λiN Ip=>wpAny_truthy_bool ?_;have Ig:=Hz.pure Ip;refine test_last (hr R.m3 Ig h3 d3 λm s₄ Ji Rg=>?_);have P34:=Ip.trans Ji;exact fB (k:=3) (ah _) R3 ((Ig.pure Ji).ns0 GK) (Iu.t.pure P34) Rg.t Ow λIh Ja=>wpAny_truthy_bool (hQ _ ((P12.trans P34).trans Ja))
 ·cases e;exact fB (k:=3) (ah _) R3 (Hz.ns0 GK) (Hx.t.pure iF) Iu.t hz λiN Ip=>wpAny_truthy_bool (hQ _ (P12.trans Ip))
end
noncomputable def vN (n:String):Bool:=["enumerate","zip","dict_itemiterator","dict_reverseitemiterator","odict_iterator","itertools.zip_longest","itertools.pairwise"].contains n
def IterOK (s:ai) (N:Ap) (I:er) (items:List PV):Prop :=
 ∃(fp:List er) (P:Nat->ag->Prop) (St:Nat->li->Prop),
  (∀A:dt,A.handled=none->Hh Pg W0 A I fp [I] items.length P St)/\St 0 s.heap/\(∀i h,St i h->∃o,h.get? I=some o/\(∀v,o.data≠.cell v)/\∃n,o.cls=.type n/\vN n=false) /\
  (∀b∈fp,b=I\/¬N b/\b<s.heap.objs.size)/\(∀i v,i<items.length->P i v->∃p,items[i]?=some p/\RV s.heap (λb=>N b\/b=I) v p)
section
variable (F:Fn) (B:Nat)
def IterP (p:PI):Prop:=∀{A:dt}{cx:Cx}{asg:List Str}{env:Env}{s:ai}{Na No:Ap}{pe:PEnv}{e:ao}{items:List PV}{Q:Vs}{E:Vs},
 Room A (ndi p+B)->EnvR cx asg env s Na No pe->qL cx e p=true->fH F p pe=some items ->
 (∀I s',Pure s s'->s.heap.objs.size<=I->I<s'.heap.objs.size->items.length<=100000->IterOK s' (λb=>Na b\/No b) I items->Q (.ref I) s') ->
 wpAny (model Pg W0) A (eval e env) (λx bc=>wpAny (model Pg W0) A (pyIter x) Q E bc) E s
end
section
variable{F:Fn}{B:Nat}
variable{A:dt}{cx:Cx}{asg:List Str}{env:Env}{s:ai}{Na No:Ap}{pe:PEnv}{E:Vs}
theorem kK{s:ai}{N:Ap}{o:Obj}{fp:List er}{P:Nat->ag->Prop}{St:Nat->li->Prop}{items:List PV}{n:String}(Vo:o.cls=.type n) (Il:∀v,o.data≠.cell v) (hg:vN n=false)
  (hw:∀A:dt,A.handled=none->Hh Pg W0 A s.heap.objs.size fp [s.heap.objs.size] items.length P St) (h0:St 0 (s.heap.push o)) (ho:∀i h,St i h->∃o',h.get? s.heap.objs.size=some o'/\o'.cls=o.cls/\∀v,o'.data≠.cell v)
  (hf:∀b∈fp,b=s.heap.objs.size\/¬N b/\b<s.heap.objs.size) (hv:∀i v,i<items.length->P i v->∃p,items[i]?=some p/\RV (s.heap.push o) (λb=>N b\/b=s.heap.objs.size) v p) :
  IterOK {s with heap:=s.heap.push o} N s.heap.objs.size items :=
 ⟨fp,P,St,hw,h0,λi h st=>let ⟨o',h1,h2,h3⟩:=ho i h st;⟨o',h1,h3,n,h2.trans Vo,hg⟩,λb hb=>(hf b hb).imp id λq=>⟨q.1,ac q.2 (by rw[bm];exact lj _)⟩,hv⟩
theorem zV (ra:RVs s.heap N vs l) (Im:i<l.length) (hv:vs.toArray[i]?=some v):∃p,l[i]?=some p/\RV (s.heap.push o) (λb=>N b\/b=s.heap.objs.size) v p:=by
 have r:=ra.avoid (h':=s.heap.push o) (a:=s.heap.objs.size) (λ_ _ e=>bw _ e) (by exact O (bm ..) (lj _)) (ah _);have e:=bk Im;refine xea (r.get e) λu hu hr=>?_;rw[mn] at hv;rw[hv] at hu;cases hu;exact(iea _ e hr)
theorem J8{N:Ap}{a b n:er}(hn:¬N a) (Im:a<n) (hb:b∈[n,a]):b=n\/¬N b/\b<n:=by
 rcases ax.mp hb with rfl | hb
 ·exact .inl rfl
 ·exact O (cf.mp hb) (.inr ⟨hn,Im⟩)
theorem l8{h:li}{o:Obj}:h.objs.size<(h.push o).objs.size:=by exact O (bm ..) (dh _)
section
variable{v:ag}{p:PV}{items:List PV}{Q:Vs}{N:Ap}
def ItQ (s:ai) (N:Ap) (items:List PV) (Q:Vs):Prop:=∀I s',Pure s s'->s.heap.objs.size<=I->I<s'.heap.objs.size->items.length<=100000->IterOK s' N I items->Q (.ref I) s'
theorem T0{a:er}{vs:List ag}{l:List PV}(hn:¬N a) (pa:s.heap.PlainList a vs.toArray) (ra:RVs s.heap N vs l) (hl:l.length<=100000) (hQ:ItQ s N l Q):wpAny (model Pg W0) A (pyIter (.ref a)) Q E s:=by
 have Im:a<s.heap.objs.size:=let ⟨n,e⟩:=pa;dL e;refine wpAny_pyIter_list pa.isList (hQ _ _ (Pure.push s _ (ah _)) (ah _) l8 hl (kK (fp:=[s.heap.objs.size,a]) (P:=λi v=>vs.toArray[i]?=some v) (St:=λi h=>h.IsListIter s.heap.objs.size a i/\h.IsList a vs.toArray) (n:="list_iterator") rfl (λv e=>nomatch e) (by decide) (λA' hA=>?_)
  ⟨⟨_,ci _ rfl,rfl,rfl⟩,pa.isList.at λo e=>bw _ e⟩ (λi h st=>let ⟨⟨o,ho,hc,hd⟩,_⟩:=st;⟨o,ho,hc,λv e=>by rw[hd] at e;cases e⟩) (λb hb=>J8 hn Im hb) (λi v=>zV ra)))
 have:=Ae (prog:=Pg) (w:=W0) hA s.heap.objs.size a (ez Im) vs.toArray;rw[show vs.toArray.size=l.length from ra.length] at this;exact this
theorem T2{a:er}{vs:List ag}{l:List PV}(hn:¬N a) (pa:PlainTup s.heap a vs.toArray) (ra:RVs s.heap N vs l) (hl:l.length<=100000) (hQ:ItQ s N l Q):wpAny (model Pg W0) A (pyIter (.ref a)) Q E s:=by
 have Im:a<s.heap.objs.size:=let ⟨n,e⟩:=pa;dL e;refine wpAny_pyIter_tuple pa.isTuple (hQ _ _ (Pure.push s _ (ah _)) (ah _) l8 hl (kK (fp:=[s.heap.objs.size,a]) (P:=λi v=>vs.toArray[i]?=some v) (St:=λi h=>h.IsTupleIter s.heap.objs.size a i/\h.IsTuple a vs.toArray) (n:="tuple_iterator") rfl (λv e=>nomatch e) (by decide) (λA' hA=>?_)
  ⟨⟨_,ci _ rfl,rfl,rfl⟩,let ⟨o,h1,h2⟩:=pa.isTuple;⟨o,bw _ h1,h2⟩⟩ (λi h st=>let ⟨⟨o,ho,hc,hd⟩,_⟩:=st;⟨o,ho,hc,λv e=>by rw[hd] at e;cases e⟩) (λb hb=>J8 hn Im hb) (λi v=>zV ra)))
 have:=Cq (prog:=Pg) (w:=W0) hA s.heap.objs.size a (ez Im) vs.toArray;rw[show vs.toArray.size=l.length from ra.length] at this;exact this
theorem J9 (hv:SignAt x i v):∃p,(x.cps.toList.map λc=>PV.str ⟨#[c]⟩)[i]?=some p/\RV h N v p:=by
 obtain⟨c,u,hc,rfl⟩:=hv;exact(iea (.str ⟨#[c]⟩) (by simp[hc]) (.str _ _))
theorem T3{x:Str}{t:Tok}(hc:x.length<=100000/\x.cps.all (·<128)) (hQ:ItQ s N (x.cps.toList.map λc=>.str ⟨#[c]⟩) Q):wpAny (model Pg W0) A (pyIter (.str x t)) Q E s:=by
 have hl:(x.cps.toList.map λc=>PV.str ⟨#[c]⟩).length=x.cps.size:=dx ..;refine wpAny_pyIter_ascii hc.2 (hQ _ _ (Pure.push s _ (ah _)) (ah _) l8 (by exact O hl hc.1) (kK (fp:=[s.heap.objs.size]) (P:=SignAt x) (St:=λi h=>h.IsStrIter s.heap.objs.size "str_ascii_iterator" x t i) (n:="str_ascii_iterator") rfl (λv e=>nomatch e) (by decide) (λA' hA=>?_)
  ⟨_,ci _ rfl,rfl,rfl⟩ (λi h st=>let ⟨o,ho,hc,hd⟩:=st;⟨o,ho,hc,λv e=>by rw[hd] at e;cases e⟩) (λb hb=>.inl (cf.mp hb)) (λi v _ hv=>J9 hv)))
 have:=Hh.strAscii (prog:=Pg) (w:=W0) hA s.heap.objs.size x t;rw[<- hl] at this;exact this
theorem KA (hN:Low N s.heap) (rv:RV s.heap N v p) (h:m8 p=some items) (hQ:ItQ s N items Q):wpAny (model Pg W0) A (pyIter v) Q E s:=by
 cases p <;> try (exact nn h)
 ·apply xeR rv.inv;intro t;have h:=aL h;cases sm h.2;exact T3 h.1 hQ
 ·apply iB rv.inv;intro a vs hn pa ra;have h:=aL h;cases sm h.2;exact T2 hn pa ra h.1 hQ
 ·apply iB rv.inv;intro a vs hn pa ra;have h:=aL h;cases sm h.2;exact T0 hn pa ra h.1 hQ
end
theorem nC{s':ai}{r:er}{a b c:Int}{t u v:Tok}{n:Nat}{items:List PV}{Q:Vs}{N:Ap}(P:Pure s s') (hr:IsRange s'.heap r a b c t u v) (hs:nc a b c=true)
  (hn:fb a b c=n) (hi:items=(cv n).map λk:Nat=>PV.int (a+(k:Int)*c)) (hlen:n<=100000)
  (hQ:ItQ s N items Q):wpAny (model Pg W0) A (pyIter (.ref r)) Q E s':=by
 have hl:items.length=n:=by exact O hi (O (dx ..) (O qr rfl))
 subst hl;refine wpAny_pyIter_range hr hs (hQ _ _ (P.trans (Pure.push s' _ (ah _))) P.step.grow l8 hlen (kK (fp:=[s'.heap.objs.size]) (P:=λi v=>∃t,v=.int (a+i*c) t) (St:=λi h=>Gj h s'.heap.objs.size (a+(i:Nat)*c) ((items.length:Int)-(i:Nat)) c) (n:="range_iterator") rfl (λv e=>nomatch e) (by decide)
  (λA' hA=>Hh.range (prog:=Pg) (w:=W0) hA s'.heap.objs.size a c items.length) ?_ (λi h st=>(gE _ st rfl (λv e=>nomatch e))) (λb hb=>.inl (cf.mp hb)) (λi v Im hv=>?_)))
 ·have:=ci s'.heap (o:={cls:=.type "range_iterator",data:=.fields #[rawInt a,rawInt (fb a b c),rawInt c]}) rfl;rw[hn] at this ⊢
  simpa [Gj] using this
 ·apply xeR hv;intro t;clear hv;refine(iea (.int (a+(i:Int)*c)) ?_ (.int _ _));refine O hi (O (dp) (O (List.getElem?_range Im) ?_));rfl
theorem rsz (a b:Int):(if a<b then(b-a-1)/1+1 else 0)=((b-a).toNat:Int):=by
 by_cases h:a<b
 ·rw[if_pos h,Fk,Int.sub_add_cancel,bt (bo (dd h))]
 ·rw[if_neg h,Int.toNat_eq_zero.mpr (Int.sub_nonpos_of_le (dr.mp h))];rfl
theorem sH (h:kF a b=some items):nc a b 1=true/\fb a b 1=((b-a).toNat:Nat)/\items=(cv (b-a).toNat).map (λk:Nat=>PV.int (a+(k:Int)*1))/\(b-a).toNat<=100000:=by
 have h:=aL h;have hc:=h.1;cases sm h.2;clear h;have hs:fb a b 1=((b-a).toNat:Nat):=by
  unfold fb;exact O (if_pos (by decide)) (rsz a b)
 refine(cS ?_ hs (ei λk _=>by exact O (Gk ..) rfl) (qm.mpr hc.2.2.2.2));unfold nc;refine O hs ?_;clear hs;simp only[sw,ay,oc,decide_eq_true_eq,beq_iff_eq];refine⟨⟨⟨⟨by exact⟨ym hc.1,Yl hc.2.1⟩,by exact⟨ym hc.2.2.1,Yl hc.2.2.2.1⟩⟩,by exact⟨fn0 (.l (.G .ky) .n1) [],fn0 (.t .n1 .ky) []⟩⟩,by have hn:(b-a).toNat<=100000:=qm.mpr hc.2.2.2.2;clear hc;generalize (b-a).toNat=n at *;lia⟩,.inr ?_⟩;refine O (if_pos (by decide)) ?_;simp only[ay,decide_eq_true_eq];exact⟨fz1 (.l (.G .ky) (.A .a .jw)) [.t (.G .kw) .a] hc.2.2.1,fz1 (.t (.A .a .jw) .ky) [.t .a .kw] hc.2.2.2.1⟩
theorem B3 (h:r7 a b=some items):nc a b (-1)=true/\fb a b (-1)=((a-b).toNat:Nat)/\items=(cv (a-b).toNat).map (λk:Nat=>PV.int (a+(k:Int)*(-1)))/\(a-b).toNat<=100000:=by
 have h:=aL h;have hc:=h.1;cases sm h.2;clear h;have hs:fb a b (-1)=((a-b).toNat:Nat):=by
  unfold fb;exact O (if_neg (by decide)) (rsz b a)
 refine(cS ?_ hs (ei λk _=>congrArg PV.int (by clear hs hc;exact fam [_] [_] (.e (.S .a .q) (.A .a (.M .q .kn))) [])) (qm.mpr hc.2.2.2.2));unfold nc;refine O hs ?_;clear hs;simp only[sw,ay,oc,decide_eq_true_eq,beq_iff_eq];refine⟨⟨⟨⟨by exact⟨ym hc.1,Yl hc.2.1⟩,by exact⟨ym hc.2.2.1,Yl hc.2.2.2.1⟩⟩,by exact⟨fn0 (.l (.G .ky) .kn) [],fn0 (.t .kn .ky) []⟩⟩,by have hn:(a-b).toNat<=100000:=qm.mpr hc.2.2.2.2;clear hc;generalize (a-b).toNat=n at *;lia⟩,.inr ?_⟩;refine O (if_neg (by decide)) ?_;simp only[ay,decide_eq_true_eq];exact⟨fz1 (.l (.G .ky) (.A .a (.A .kn .n1))) [.t (.G .kw) .a] hc.2.2.1,fz1 (.t (.A .a (.A .kn .n1)) .ky) [.t .a .kw] hc.2.2.2.1⟩
theorem KB (hp:EvalP F B p):IterP F B (.val p):=by
 intro A cx asg env s Na No pe e items Q E R X hc hd hQ;refine xea (PO hd) λq d1 hd=>?_;exact hp R X hc d1 λv bc dO Hx=>KA (X.pure dO).low (Hx.f rfl) hd λI s₂ iF h1 h2 h3 h4=>hQ I s₂ (dO.trans iF) (aa dO.step.grow h1) h2 h3 h4
theorem sI (GK:Glo) (X:EnvR cx asg env s Na No pe) (h1:fX cx g pW=true) (hb:backTo k (starEach xs env)=args) (hp:args.any (·.1)=false)
  (h:wpAny (model Pg W0) A (evalArgs (.type "range") true args []) (λa bc=>wpAny (model Pg W0) A (call (.type "range") ([]++a.pos) a.kw) Q E bc) E s):wpAny (model Pg W0) A (eval (.Call g xs [] k) env) Q E s:=by
 apply fJ (hO h1);intro y ypos g k1 k2 k3 k4;refine wpAny_Call_NameR (fZ GK X k1 k2 k3 λv hv=>?_);cases GB k4;cases hv;exact O hb (ol hp h)
theorem GE (GK:Glo){p:PE}(hp:EvalP F B p):IterP F B (.rng1 p):=by
 intro A cx asg env s Na No pe e items Q E R X hc hd hQ;apply OJ (JK hc);intro g x k h1 h2 h3;refine xea (JR hd) λn d1 hd=>?_;refine aP (sH hd) λq1 q2 q3 q4=>?_;refine sI GK X h1 (bL h3) rfl (ib (fe (hp R X h2 d1 λv bc dO Hx=>lm ?_)));apply xeR Hx.int;intro t;exact call_range_1 (nC (dO.trans (Pure.push bc _ (gj (lj _)))) (Cr _ _ _ _ _ _ _) q1 q2 q3 q4 hQ)
theorem GF (GK:Glo){p q:PE}(hp:EvalP F B p) (hq:EvalP F B q):IterP F B (.rng2 p q):=by
 intro A cx asg env s Na No pe e items Q E R X hc hd hQ;apply iC (JL hc);intro g x z k h1 h2 h3 h4 h5;refine eA (JS hd) λa b d1 d2 hd=>?_;refine aP (sH hd) λq1 q2 q3 q4=>?_;refine sI GK X h1 ((bL h4).trans (congrArg _ (bL h5))) rfl (ib (fe (hp R.n1 X h2 d1 λv bc dO Hx=>fe (hq R.n2 (X.pure dO) h3 d2 λu s₂ iF Iu=>lm ?_))));apply xeR Hx.int;intro t;apply xeR Iu.int;intro u;exact call_range_2 (nC ((dO.trans iF).trans (Pure.push s₂ _ (iv _ _))) (Cr _ _ _ _ _ _ _) q1 q2 q3 q4 hQ)
theorem GG (GK:Glo){p q:PE}(hp:EvalP F B p) (hq:EvalP F B q):IterP F B (.rng3 p q):=by
 intro A cx asg env s Na No pe e items Q E R X hc hd hQ;refine eJ (JM hc) λg x z n zt=>?_;apply fJ zt;intro p1 p2 k h1 h2 h3 zt;refine xa zt λh4 h5=>?_;clear zt;refine eA (JT hd) λa b d1 d2 hd=>?_;refine aP (B3 hd) λq1 q2 q3 q4=>?_;refine sI GK X h1 ((bL h4).trans (congrArg _ (bL h5))) rfl (ib (fe (hp R.n1 X h2 d1 λv bc dO Hx=>fe (hq R.n2 (X.pure dO) h3 d2 λu s₂ iF Iu=>fe (wpAny_UnaryOp (wpAny_mkInt (Ho (lm ?_))))))));apply xeR Hx.int;intro t;apply xeR Iu.int;intro u;exact call_range_3 (by decide) (nC ((dO.trans iF).trans (Pure.push s₂ _ (gj (lj _)))) (Cr _ _ _ _ _ _ _) q1 q2 q3 q4 hQ) (Or.inl (wd (by decide)))
end
noncomputable def clr:PEnv->Nat->PEnv
 | [],_=>[]
 | _::l,0=>none::l
 | a::l,n+1=>a::clr l n
theorem EC:clr [] n=[]:=rfl
theorem vO:clr (a::l) 0=none::l:=rfl
theorem vP:clr (a::l) (n+1)=a::clr l n:=rfl
theorem B4:∀{pe:PEnv}{i:Nat},lk (clr pe i) j=some q->j≠i/\lk pe j=some q
 | [],_,h=>by simp[EC,vO,vP,lG,k9,lA] at h
 | a::l,0,h=>by
  cases j with
  | zero=>simp[EC,vO,vP,lG,k9,lA] at h
  | succ j=>exact⟨by simp,by simpa [vO,vP,lG,k9,lA] using h⟩
 | a::l,n+1,h=>by
  cases j with
  | zero=>exact⟨by simp,by simpa [vO,vP,lG,k9,lA] using h⟩
  | succ j =>
   dsimp only[EC,vO,vP,lG,k9,lA] at h ⊢
   have:=B4 (pe:=l) h;exact⟨by lia,this.2⟩
theorem KC:∀{pe:PEnv}{i:Nat},st (clr pe i) i p=st pe i p
 | [],_=>rfl
 | _::_,0=>rfl
 | a::l,n+1=>by simp only[EC,vO,vP,zB,aY,aZ,KC]
theorem SJ:∀{pe:PEnv}{i:Nat},st (st pe i p) i q=st pe i q
 | [],_=>rfl
 | _::_,0=>rfl
 | a::l,n+1=>by simp only[zB,aY,aZ,SJ]
noncomputable def clo (env:Env):List (Str × my)->List (Str × er)->List (Str × er)
 | [],acc=>acc
 | (n,k)::r,acc=>if k==.free then clo env r ((n,(env.cells.lookup n).getD 0)::acc) else clo env r acc
theorem KD:clo env ((n,k)::r) acc=if k==.free then clo env r ((n,(env.cells.lookup n).getD 0)::acc) else clo env r acc:=rfl
theorem jG (f:Str × my->List (Str × er)->Sem (ForInStep (List (Str × er))))
  (hf:∀n k cs,f (n,k) cs=if k==.free then(do let a <- cellOf env n;dw (.yield ((n,a)::cs))) else dw (.yield cs)) :
  ∀(names:List (Str × my)) (acc:List (Str × er)),(∀n,(n,dj)∈names->∃c,env.cells.lookup n=some c)->forIn names acc f=dw (clo env names acc)
 | [],acc,_=>by refine O qt ?_;rfl
 | (n,k)::r,acc,h=>by
  refine O (De ..) (O (hf ..) ?_);refine O KD ?_
  by_cases hk:(k==dj)=true
  ·refine O (if_pos hk) (O (if_pos hk) ?_);refine xe (h n (by exact O (eq_of_beq hk) aj)) λc hc=>?_;unfold cellOf;refine O hc ?_
   dsimp only[pure_bind,rW]
   exact jG f hf r _ λm hm=>h m (en _ hm)
  ·refine O (if_neg hk) (O (if_neg hk) ?_);simp only[pure_bind];exact jG f hf r _ λm hm=>h m (en _ hm)
theorem sJ (h:∀n,(n,dj)∈scope.names->∃c,env.cells.lookup n=some c):closureFor scope env=dw (clo env scope.names []):=by
 unfold closureFor
 dsimp only
 refine O (jG (env:=env) _ (λn k cs=>by
  by_cases hk:(k==dj)=true
  ·dsimp only[hk,if_true]
  ·simp only[Cd] at hk;simp only[hk,aw,if_false]) scope.names [] h) ?_
 rfl
theorem bR{V:Type}{l:List (Str × V)}:∀{x:Str}{v:V},cU (l.map (·.1))=true->(x,v)∈l->l.lookup x=some v:=by
 induction l with
 | nil=>exact λ_ hm=>nomatch hm
 | cons a l ih =>
  obtain⟨y,u⟩:=a;intro x v h hm;simp only[ak,jO,ay,dq,fm,decide_eq_false_iff_not] at h;rcases ax.mp hm with e | hm
  ·cases e;simp
  ·have Io:x≠y:=λe=>h.1 (e ▸ im (f:=(·.1)) hm);exact O dk (O (show(x==y)=false from by simpa using Io) (ih h.2 hm))
theorem aS{V:Type}:∀{l:List (Str × V)}{x:Str}{v:V},l.lookup x=some v->(x,v)∈l
 | (y,u)::l,x,v,h=>by
  rw[dk] at h;split at h
  ·rename_i e;cases h;exact O (eq_of_beq e) aj
  ·exact en _ (aS h)
theorem jR:∀{names:List (Str × my)}{acc:List (Str × er)},(y,dj)∉names->(clo env names acc).lookup y=acc.lookup y
 | [],_,_=>rfl
 | (n,k)::r,acc,h=>by
  refine O KD ?_;have hr:(y,dj)∉r:=λq=>h (en _ q);split
  ·rename_i hk;refine O (jR hr) (O dk ?_);have:(y==n)=false:=by
    simp only[beq_eq_false_iff_ne,ne_eq]
    rintro rfl
    exact h (by exact O (eq_of_beq hk) aj)
   exact O this rfl
  ·exact jR hr
theorem sK:∀{names:List (Str × my)}{acc:List (Str × er)},cU (names.map (·.1))=true->(y,dj)∈names->(clo env names acc).lookup y=some ((env.cells.lookup y).getD 0)
 | (n,k)::r,acc,hn,h=>by
  refine O KD ?_;simp only[ak,jO,ay,dq,fm,decide_eq_false_iff_not] at hn;rcases ax.mp h with e | h'
  ·cases e;refine O (if_pos (by rfl)) (O (jR (λq=>hn.1 (im (f:=(·.1)) q))) ?_);simp
  ·split
   ·exact sK hn.2 h'
   ·exact sK hn.2 h'
theorem cG:∀{names:List (Str × my)}{n:Nat}{acc:List (Str × er)},(y,fx)∉names->(cellsFrom n names acc).lookup y=acc.lookup y
 | [],_,_,_=>rfl
 | (m,k)::r,n,acc,h=>by
  unfold cellsFrom;have hr:(y,fx)∉r:=λq=>h (en _ q);split
  ·rename_i hk;refine O (cG hr) (O dk ?_);have:(y==m)=false:=by
    simp only[beq_eq_false_iff_ne,ne_eq]
    rintro rfl
    exact h (by exact O (eq_of_beq hk) aj)
   exact O this rfl
  ·exact cG hr
theorem iH{names:List (Str × my)}:∀{h:li}{acc:List (Str × er)},cU (names.map (·.1))=true->(y,fx)∈names ->
  ∃c,(cellsFrom h.objs.size names acc).lookup y=some c/\h.objs.size<=c/\(pushCells h names).IsCell c none:=by
 induction names with
 | nil=>exact λ_ hm=>nomatch hm
 | cons a r ih =>
  obtain⟨m,k⟩:=a;intro h acc hn hm;unfold cellsFrom pushCells;simp only[ak,jO,ay,dq,fm,decide_eq_false_iff_not] at hn;rcases ax.mp hm with e | h'
  ·cases e;refine O (if_pos (by rfl)) (O (if_pos (by rfl)) (gE h.objs.size ?_ (ah _) ?_))
   ·refine O (cG (λq=>hn.1 (im (f:=(·.1)) q))) ?_;simp
   ·exact(iea _ (pushCells_keeps r _ _ _ (ci _ rfl)) rfl)
  ·split
   ·have:=ih (h:=h.push {cls:=.type "cell",data:=.cell none}) (acc:=(m,h.objs.size)::acc) hn.2 h';rw[bm] at this;refine lC this λc h1 h2 h3=>?_;exact(gE c h1 (by exact YN h2) h3)
   ·exact ih hn.2 h'
theorem fM:∀(names:List (Str × my)) (h:li),h.objs.size<=(pushCells h names).objs.size
 | [],_=>ah _
 | (_,k)::r,h=>by
  unfold pushCells;split
  ·exact aa (by simp[bm]) (fM r _)
  ·exact fM r h
section
variable{M:Hs}{A:dt}{E:Vs}{s:ai}{env:Env}
theorem uS 
  (h:Q {scope,locals:=s.heap.objs.size,globals,cells:=cellsFrom (s.heap.objs.size+1) scope.names cl,qual,func:=none,code:=env.code,frame:=env.frame,builtins:=env.builtins}
   {s with heap:=pushCells (s.heap.push {cls:=.type "dict",data:=.dict #[]}) scope.names}) :
  wpAny M A (newFunctionEnv scope globals cl [] qual none .none (some env)) Q E s:=by
 unfold newFunctionEnv;refine bh (wpAny_alloc ?_);refine bh (wpAny_layCells _ (λname kind cells=>?_) scope.names cl _ _ ?_)
 ·by_cases hk:(kind==fx)=true
  ·simp only[hk,if_true]
  ·simp only[Cd] at hk;simp only[hk,aw,if_false]
 ·dsimp only[Option.isSome_some,if_true]
  refine O (bm ..) (O qt ?_);exact bh (cu (cu h))
end
theorem lJ{env:Env}{names:List (Str × my)}{y:Str}{k:my}(h:names.lookup y=some k) :
  (k≠.free->(names.map λ(n,k)=>if (k==dj&&env.scope.kind==.function&&env.kindOf n==some .cell) then(n,fx) else(n,k)).lookup y=some k) /\
  (k=.free->(names.map λ(n,k)=>if (k==dj&&env.scope.kind==.function&&env.kindOf n==some .cell) then(n,fx) else(n,k)).lookup y=some .cell \/
   (names.map λ(n,k)=>if (k==dj&&env.scope.kind==.function&&env.kindOf n==some .cell) then(n,fx) else(n,k)).lookup y=some .free):=by
 induction names with
 | nil=>simp at h
 | cons a r ih =>
  obtain⟨n,k'⟩:=a;rw[dk] at h;simp only[ak];cases hx:y==n with
  | true =>
   simp only[hx] at h;cases h
   by_cases hc:(k==dj&&env.scope.kind==.function&&env.kindOf n==some .cell)=true
   ·refine O (if_pos hc) (O dk ?_);simp only[hx];simp only[ay] at hc;exact⟨λq=>absurd (eq_of_beq hc.1.1) q,λ_=>.inl trivial⟩
   ·refine O (if_neg hc) (O dk ?_);simp only[hx];exact⟨λ_=>trivial,λq=>.inr (by exact O q rfl)⟩
  | false =>
   simp only[hx] at h;have:=ih h
   by_cases hc:(k'==dj&&env.scope.kind==.function&&env.kindOf n==some .cell)=true
   ·refine O (if_pos hc) (O dk ?_);simp only[hx];exact this
   ·refine O (if_neg hc) (O dk ?_);simp only[hx];exact this
theorem nD (h:m9 cx sc x i=true):sc.kind=.function/\cU (sc.names.map (·.1))=true/\((x,my.local)∈sc.names\/(x,fx)∈sc.names) /\
  (∀y k,(y,k)∈sc.names->k=.local\/(k=.cell/\y=x)\/k=.globalImplicit\/(k=.free/\(cx.vars.lookup y).isSome=true/\cx.vars.lookup y≠some i/\(cx.kinds.lookup y=some .cell\/cx.kinds.lookup y=some .free)))/\cx.own.contains i=false:=by
 unfold m9 at h;simp only[ay,dq,oc,am] at h;obtain⟨⟨⟨⟨⟨⟨h1,_⟩,_⟩,h2⟩,h3⟩,h4⟩,h5⟩:=h;refine(gF (eq_of_beq h1) h2 (h3.imp (λq=>aS (eq_of_beq q)) (λq=>aS (eq_of_beq q))) (λy k hm=>?_) h5);have:=h4 (y,k) hm;simp only at this;rcases this with ((⟨q,_⟩ | ⟨q1,q2⟩) | q) | ⟨⟨⟨q1,q2⟩,q3⟩,q4⟩
 ·exact .inl (eq_of_beq q)
 ·exact .inr (.inl ⟨eq_of_beq q1,eq_of_beq q2⟩)
 ·exact .inr (.inr (.inl (eq_of_beq q)))
 ·exact .inr (.inr (.inr (cS (eq_of_beq q1) q2 (by simpa using q3) (q4.imp (λq=>eq_of_beq q) (λq=>eq_of_beq q)))))
theorem fE (h:(fL cx names x i).vars.lookup y=some j):(y=x/\j=i)\/(y≠x/\(y,dj)∈names/\cx.vars.lookup y=some j):=by
 unfold fL at h
 dsimp only[dk] at h
 split at h
 ·rename_i e;cases h;exact .inl ⟨eq_of_beq e,rfl⟩
 ·rename_i e;have hm:=aS h;obtain⟨⟨n,k⟩,hn,he⟩:=Af.mp hm;simp only at he;split at he
  ·rename_i hk;cases hl:cx.vars.lookup n with
   | none=>rw[hl] at he;cases he
   | some j' =>
    rw[hl] at he;simp only[bl,gk,Prod.mk.injEq] at he;refine xa he λaT Ik=>?_;subst aT;subst Ik;exact .inr (iaa (by simpa using e) (by exact XO (eq_of_beq hk) hn) hl)
  ·cases he
section
variable{F:Fn}{B:Nat}
variable{A:dt}{cx:Cx}{asg:List Str}{env:Env}{s:ai}{Na No:Ap}{pe:PEnv}{E:Vs}
def nE (sc:md) (env:Env) (C:er):Env :=
 {scope:=relabel sc env,locals:=C,globals:=env.globals,cells:=cellsFrom (C+1) sc.names (clo env sc.names []),qual:=env.qual,func:=none,code:=env.code,frame:=env.frame,builtins:=env.builtins}
noncomputable def iI (sc:md) (h:li):li:=pushCells (h.push {cls:=.type "dict",data:=.dict #[]}) sc.names
theorem sL (sc:md) (s:ai):Pure s {s with heap:=iI sc s.heap} :=
 Pure.of_heap (t:=s.toks) (λb o e=>pushCells_keeps _ _ _ _ (bw _ e)) (aa (by simp[bm]) (fM _ _)) (ah _)
theorem nW (sc:md) (h:li):h.objs.size<(iI sc h).objs.size:=ac (by simp[bm]) (fM sc.names _)
theorem KF{sc:md}{x:Str}{i:Nat}(X:EnvR cx asg env s Na No pe) (Jb:m9 cx sc x i=true) :
  EnvR (fL cx sc.names x i) [x] (nE sc env s.heap.objs.size) {s with heap:=iI sc s.heap} Na (λb=>No b\/(s.heap.objs.size<=b/\b<(iI sc s.heap).objs.size)) (clr pe i):=by
 refine gC (nD Jb) λhk Lc hx Kj hown=>?_;have P:=sL sc s;have Lr:s.heap.objs.size+1=(s.heap.push {cls:=.type "dict",data:=.dict #[]}).objs.size:=by simp[bm]
 have W:Wider s No {s with heap:=iI sc s.heap} (λb=>No b\/(s.heap.objs.size<=b/\b<(iI sc s.heap).objs.size)) :=
  ⟨P,λ_ q=>.inl q,λb q=>q.imp id (·.1),λb q=>q.elim (λq=>ac (X.lowO b q) P.step.grow) (·.2)⟩
 have X':=X.wide W;have Ic:(iI sc s.heap).Ns s.heap.objs.size (λ_=>none):=(li.Ns.new s.heap (.type "dict")).keeps (pushCells_keeps sc.names _);have Il:∀y,(y,fx)∈sc.names->∃c,(nE sc env s.heap.objs.size).cells.lookup y=some c/\s.heap.objs.size+1<=c/\(iI sc s.heap).IsCell c none:=by
  intro y hy;have:=iH (h:=s.heap.push {cls:=.type "dict",data:=.dict #[]}) (acc:=clo env sc.names []) Lc hy;rw[<- Lr] at this;exact this
 have Mm:∀y,(y,dj)∈sc.names->∃c v,(nE sc env s.heap.objs.size).cells.lookup y=some c/\env.cells.lookup y=some c/\s.heap.IsCell c v/\(env.kindOf y=some .cell\/env.kindOf y=some .free):=by
  intro y hy;rcases Kj y _ hy with h | ⟨h,_⟩ | h | ⟨_,h1,h2,h3⟩
  ·cases h
  ·cases h
  ·cases h
  refine xa (X.cl y h3) λq1 zt=>?_;refine jE zt λc v q2 q3=>?_;clear zt;refine(bW c v ?_ q2 q3 q1);show(cellsFrom _ _ _).lookup y=some c
  (rw[cG];refine O (sK Lc hy) (O q2 ?_))
  ·rfl
  ·intro hc;have h1:=bR Lc hc;have h2:=bR Lc hy;rw[h1] at h2;cases h2
 have X5:∀y,(y,dj)∈sc.names->(nE sc env s.heap.objs.size).kindOf y=some .cell\/(nE sc env s.heap.objs.size).kindOf y=some .free:=λy hy =>
  (lJ (env:=env) (bR Lc hy)).2 rfl
 have Kt:∀y k,k≠dj->(y,k)∈sc.names->(nE sc env s.heap.objs.size).kindOf y=some k:=λy k hk hy =>
  (lJ (env:=env) (bR Lc hy)).1 hk
 have fwd:∀y v,(y,dj)∈sc.names->BindAt env s.heap y v->BindAt (nE sc env s.heap.objs.size) (iI sc s.heap) y v:=by
  intro y v hy hb;refine cC (Mm y hy) λc u q1 q2 q3 q4=>?_;cases hb with
  | loc m h1=>rw[h1] at q4;rcases q4 with q4 | q4 <;> cases q4
  | cell c' h1 h2 h3 =>
   rw[q2] at h2;cases h2;exact .cell c (X5 y hy) q1 (h3.keeps P.keep)
 have back:∀y j v,(y,dj)∈sc.names->cx.vars.lookup y=some j->(lk pe j).isSome=true->BindAt (nE sc env s.heap.objs.size) (iI sc s.heap) y v->BindAt env s.heap y v:=by
  intro y j v hy h1 h2 hb;refine xe (aq.mp h2) λp hp=>?_;refine xea (X.vars y j p h1 hp) λu hu _=>?_;have:=(fwd y u hy hu).same hb;subst this;exact hu
 have clrS:∀j,(lk (clr pe i) j).isSome=true->j≠i/\(lk pe j).isSome=true:=by
  intro j h;refine xe (aq.mp h) λp hp=>?_;have:=B4 hp;exact⟨this.1,by refine O this.2 ?_;rfl⟩
 exact{
  base:=X'.base
  kind:=hk
  glb:=X.glb
  blt:=X.blt
  gl:=λy hy=>Kt y _ (by decide) (aS hy)
  cl:=λy hy=>by
   rcases hy with hy | hy
   ·refine lC (Il y (aS hy)) λc q1 q2 q3=>?_;exact(DT (.inl (Kt y _ (by decide) (aS hy))) c none q1 q3)
   ·refine cC (Mm y (aS hy)) λc u q1 q2 q3 q4=>?_;exact(DT (X5 y (aS hy)) c u q1 (q3.keeps P.keep))
  ns:=⟨_,Ic⟩
  noL:=.inr ⟨ah _,nW sc s.heap⟩
  cellsLow:=λy c h=>by
   by_cases hc:(y,fx)∈sc.names
   ·refine lC (Il y hc) λc' q1 q2 q3=>?_;rw[q1] at h;cases h;exact q3.lt
   ·by_cases hf:(y,dj)∈sc.names
    ·refine cC (Mm y hf) λc' u q1 q2 q3 q4=>?_;rw[q1] at h;cases h;exact ac q3.lt P.step.grow
    ·exfalso;change (cellsFrom _ _ _).lookup y=some c at h;rw[cG hc,jR hf] at h;cases h
  apart:=by
   have one:∀y c,(nE sc env s.heap.objs.size).cells.lookup y=some c->(y=x/\s.heap.objs.size<c)\/(c<s.heap.objs.size/\env.cells.lookup y=some c):=by
    intro y c h
    by_cases hc:(y,fx)∈sc.names
    ·refine lC (Il y hc) λc' q1 q2 q3=>?_;rw[q1] at h;cases h;rcases Kj y _ hc with h | ⟨_,h⟩ | h | ⟨h,_⟩
     ·cases h
     ·exact .inl ⟨h,q2⟩
     ·cases h
     ·cases h
    ·by_cases hf:(y,dj)∈sc.names
     ·refine cC (Mm y hf) λc' u q1 q2 q3 q4=>?_;rw[q1] at h;cases h;exact .inr ⟨q3.lt,q2⟩
     ·exfalso;change (cellsFrom _ _ _).lookup y=some c at h;rw[cG hc,jR hf] at h;cases h
   intro y z c h1 h2;rcases one y c h1 with ⟨rfl,q1⟩ | ⟨q1,q2⟩ <;> rcases one z c h2 with ⟨rfl,q3⟩ | ⟨q3,q4⟩
   ·rfl
   ·exact absurd q3 (av.mpr (da q1))
   ·exact absurd q1 (av.mpr (da q3))
   ·exact X.apart y z c q2 q4
  vars:=λy j p h1 h2=>by
   refine xa (B4 h2) λhj Ml=>?_;rcases fE h1 with ⟨_,rfl⟩ | ⟨hy,hf,hv⟩
   ·exact absurd rfl hj
   ·refine xea (X.vars y j p hv Ml) λv hb hs=>?_;have Js:=hs.wide W;refine(gE v (fwd y v hf hb) ?_ (λh=>(nomatch h)));have h3:=Js.1;show if cx.own.contains j then _ else _;split
    ·rename_i hc;rw[if_pos hc] at h3;refine bV h3 λa e q1 q2 q3=>?_;clear h3;refine(fK a e q1 ?_ q3);have h4:=hs.1;rw[if_pos hc] at h4;refine bV h4 λa' e' q1' q2' q3'=>?_;clear h4;rw[e] at e';cases e';exact ez (X.base.low a q1')
    ·rename_i hc;rw[if_neg hc] at h3;exact h3
  stores:=λy hy=>by
   obtain rfl:y=x:=by simpa using hy
   rcases hx with hx | hx
   ·exact .loc (Kt y _ (by decide) hx)
   ·refine lC (Il y hx) λc q1 q2 q3=>?_;exact .cell c none (Kt y _ (by decide) hx) q1 (.inr ⟨by exact YN q2,q3.lt⟩) q3
  inj:=λy z j h1 h2=>by
   rcases fE h1 with ⟨rfl,rfl⟩ | ⟨hy,hf,hv⟩ <;> rcases fE h2 with ⟨rfl,e⟩ | ⟨hz,hg,hu⟩
   ·rfl
   ·rcases Kj z _ hg with h | ⟨h,_⟩ | h | ⟨_,_,h,_⟩
    ·cases h
    ·cases h
    ·cases h
    ·exact absurd hu h
   ·subst e;rcases Kj y _ hf with h | ⟨h,_⟩ | h | ⟨_,_,h,_⟩
    ·cases h
    ·cases h
    ·cases h
    ·exact absurd hv h
   ·exact X.inj y z j hv hu
  alone:=λy z j k a h1 h2 h3 h4 h5 h6 h7 h8=>by
   refine xa (clrS j h3) λj1 j2=>?_;refine xa (clrS k h4) λk1 k2=>?_;rcases fE h1 with ⟨_,e⟩ | ⟨hy,hf,hv⟩
   ·exact absurd e j1
   rcases fE h2 with ⟨_,e⟩ | ⟨hz,hg,hu⟩
   ·exact absurd e k1
   exact X.alone y z j k a hv hu j2 k2 h5 h6 (back y j _ hf hv j2 h7) (back z k _ hg hu k2 h8)
  disj:=λb hb ha=>hb.elim (λq=>X.disj b q ha) λq=>by exact absurd (X.base.low b (.inl ha)) (av.mpr q.1)
  turns:=λy j a h1 h2 h3 h4=>by
   refine xa (clrS j h3) λj1 j2=>?_;rcases fE h1 with ⟨_,e⟩ | ⟨hy,hf,hv⟩
   ·exact absurd e j1
   exact .inl (X.turns y j a hv h2 j2 (back y j _ hf hv j2 h4))}
theorem Pure.skip (P:Pure s s') (hk:∀b o,b<s.heap.objs.size->s'.heap.get? b=some o->bc.heap.get? b=some o) (hm:Mono s' bc) (hg:bc.gens=s'.gens) (ho:bc.os=s'.os) (hd:bc.drawn=s'.drawn):Pure s bc :=
 ⟨⟨λb o _ e=>hk b o (dL e) (Pure.keep P b o e),aa P.step.grow hm.1,λ_ q=>q.elim⟩,λi g e=>by exact O hg (P.gens i g e),λq=>by refine O hg ?_;exact P.bare q,ho.trans P.os,hd.trans P.drawn,aa (Ext.toks P) hm.2⟩
theorem KG (h:qL cx (.Set l k pos) p=true):False:=by
 cases p with
 | val p=>exact D9 (b:=false) h
 | _=>exact nf h
theorem ED (h:qL cx e p=true) (x:ag):foldedSetIterable e env x=dw x:=by
 by_cases c:e.ctorIdx=7
 ·exact Er (motive_1:=λe=>qL cx e p=true->foldedSetIterable e env x=dw x) e c (λl k p h=>(KG h).elim) h
 ·clear h;cases e <;> first | rfl | exact absurd rfl c
set_option tactic.hygienic true in
theorem B5 (h:cF c e At i pe (p::l)=some DO):∃ok,(if At then c (st pe i p) else some (.bool true))=some (.bool ok) /\
  (ok=false->cF c e At i pe l=some DO)/\(ok=true->∃v r,e (st pe i p)=some v/\cF c e At i pe l=some r/\DO=v::r):=by
 have h:(match (if At then c (st pe i p) else some (.bool true)) with
  | some (.bool true)=>(match e (st pe i p),cF c e At i pe l with
   | some v,some r=>some (v::r)
   | _,_=>none)
  | some (.bool false)=>cF c e At i pe l
  | _=>none)=some DO:=h
 revert h;cases (if At then c (st pe i p) else some (.bool true)) with
 | none=>exact nn
 | some q =>
  cases q <;> try (exact nn)
  rename_i b;cases b with
  | false=>exact λh=>(gE false rfl (λ_=>h) (λq=>nomatch q))
  | true =>
   intro h;have h:(match e (st pe i p),cF c e At i pe l with | some v,some r=>some (v::r) | _,_=>none)=some DO:=h;revert h;cases e (st pe i p) with
   | none=>exact nn
   | some v=>cases cF c e At i pe l with
    | none=>exact nn
    | some r=>exact λh=>(gE true rfl (λq=>nomatch q) (λ_=>(bE v r rfl rfl ((sm h).symm))))
theorem B6 (hT:TrueP F B c) (R:Room A (nd c+B)) (h4:o9 cx ifs At c=true) (Jb:(if At then aA F c pe else some (.bool true))=some (.bool ok))
  (X:EnvR cx asg Ii s Na No pe) (hQ:∀iN,Pure s iN->Q ok iN) :
  wpAny (model Pg W0) A (forIn ifs true λc r=>if r=true then do let ok <- isTrue c Ii (eval c Ii);dw (Df ok) else dw (Df r)) Q E s:=by
 rcases BX h4 with ⟨rfl,rfl⟩ | ⟨t,rfl,rfl,h5⟩
 ·refine O qt ?_;cases Jb;exact cu (hQ s (Ext.refl _ _))
 ·refine O (De ..) (bh (bh (hT R X h5 Jb λiN Ip=>cu ?_)))
  dsimp only
  exact O qt (cu (hQ iN Ip))
theorem EnvR.bindRV{Jj:Cx}(X:EnvR Jj asg env s Na No pe){x:Str}{i:Nat}{v:ag}{p:PV}(ho:Jj.own.contains i=false) (ht:Jj.tk=[]) (r:RV s.heap (λb=>Na b\/No b) v p):SlotR Jj env s (λb=>Na b\/No b) i v p :=
 ⟨by exact O ho r,λh=>by rw[ht] at h;cases h⟩
theorem pC{α:Type}{l:List α}{a:α}(h:l[k]?=some a):l.drop k=a::l.drop (k+1):=by
 obtain⟨h1,h2⟩:=de.mp h;exact XO h2 (pg h1)
structure CompC (F:Fn) (B:Nat) (A:dt) (Jj:Cx) (Ii:Env) (x:Str) (i:Nat) (Iw c:PE) (At:Bool) (el:ao) (ifs:List ao) (Na:Ap) (s:ai) (I acc:er) (n:Nat) (fp:List er) (P:Nat->ag->Prop) (St:Nat->li->Prop):Prop where
 hE:EvalP F B Iw
 hT:TrueP F B c
 R2:Room A (nd Iw+B)
 R3:Room A (nd c+B)
 h3:aH Jj false el Iw=true
 h4:o9 Jj ifs At c=true
 hlen:n<=100000
 W:Hh Pg W0 A I fp [I] n P St
 hoI:∀i h,St i h->∃o,h.get? I=some o/\(∀v,o.data≠.cell v)/\∃n,o.cls=.type n/\vN n=false
 hfp:∀b∈fp,b<Ii.locals/\b≠acc
 hIa:I≠acc
 hIC:I<Ii.locals
 haC:acc<Ii.locals
 hsI:s.heap.objs.size<=I
 hsa:s.heap.objs.size<=acc
 hxi:Jj.vars.lookup x=some i
 hown:Jj.own.contains i=false
 htk:Jj.tk=[]
 hNI:Na I
 hNa:Na acc
 hcells:∀b0,(b0=Ii.locals\/Ii.cells.lookup x=some b0)->Ii.locals<=b0
def NaNo (Na No:Ap):Ap:=λb=>Na b\/No b
structure CompS (Jj:Cx) (Ii:Env) (x:Str) (i:Nat) (pe:PEnv) (Na No:Ap) (s:ai) (Jz:Nat) (acc:er) (items:List PV) (P:Nat->ag->Prop) (s':ai) (vs:List ag) (ps:List PV) (pe':PEnv):Prop where
 pure:Pure s s'
 g:Jz<=s'.heap.objs.size
 acc:s'.heap.PlainList acc vs.toArray
 vs:RVs s'.heap (NaNo Na No) vs ps
 X:EnvR Jj [x] Ii s' Na No pe'
 hpe:∀q,st pe' i q=st pe i q
 P:∀j v,j<items.length->P j v->∃p,items[j]?=some p/\RV s'.heap (NaNo Na No) v p
section
variable{Jj:Cx}{Ii:Env}{x:Str}{i:Nat}{Iw c:PE}{At:Bool}{el:ao}{ifs:List ao}{I acc:er}{Jz:Nat}{items:List PV}{fp:List er}{P:Nat->ag->Prop}{St:Nat->li->Prop}{s' bc:ai}{vs:List ag}{ps:List PV}{pe' Do:PEnv}
theorem CompS.move (S:CompS Jj Ii x i pe Na No s Jz acc items P s' vs ps pe') (Q:Pure s bc) (T:Step s'.heap (NaNo Na No) bc.heap (NaNo Na No)) (a:bc.heap.PlainList acc vs.toArray) (X:EnvR Jj [x] Ii bc Na No Do) (hpe:∀q,st Do i q=st pe i q) :
  CompS Jj Ii x i pe Na No s Jz acc items P bc vs ps Do :=
 ⟨Q,aa S.g T.grow,a,S.vs.step T,X,hpe,λj v hj hv=>let ⟨p,q1,q2⟩:=S.P j v hj hv;⟨p,q1,q2.step T⟩⟩
theorem CompS.pureS (S:CompS Jj Ii x i pe Na No s Jz acc items P s' vs ps pe') (Q:Pure s' bc):CompS Jj Ii x i pe Na No s Jz acc items P bc vs ps pe' :=
 S.move (S.pure.trans Q) (Q.stepAt _) (S.acc.at λo e=>Pure.keep Q acc o e) (S.X.pure Q) S.hpe
theorem CompS.poke (K:CompC F B A Jj Ii x i Iw c At el ifs Na s I acc items.length fp P St) (S:CompS Jj Ii x i pe Na No s Jz acc items P s' vs ps pe') (st:St k s'.heap) (hk:∀b o,b∉[I]->s'.heap.get? b=some o->h'.get? b=some o) (hm:Mono s' {s' with heap:=h',toks:=tk}) :
  CompS Jj Ii x i pe Na No s Jz acc items P {s' with heap:=h',toks:=tk} vs ps pe':=by
 refine lC (K.hoI _ _ st) λo ho Ox _=>?_;refine S.move (S.pure.skip (λb o hb e=>hk b o (λq=>?_) e) hm rfl rfl rfl) ⟨λb o hn e=>hk b o (λq=>hn (.inl ((cf.mp q) ▸ K.hNI))) e,hm.1,λ_ q=>.inl q⟩ (S.acc.at λo e=>hk acc o (λq=>K.hIa (cf.mp q).symm) e) (S.X.poke K.hNI ho Ox (λb o hb e=>hk b o (λq=>hb (cf.mp q)) e) hm.1 hm.2 id) S.hpe;rw[cf.mp q] at hb;exact av.mpr K.hsI hb
theorem B7 (K:CompC F B A Jj Ii x i Iw c At el ifs Na s I acc items.length fp P St) (S:CompS Jj Ii x i pe Na No s Jz acc items P s' vs ps pe'){k:Nat}(Jy:St k s'.heap){v:ag}{p:PV}{px:Pos}{Q:Unit->ai->Prop}(hv:RV s'.heap (NaNo Na No) v p)
  (hQ:∀s₂,CompS Jj Ii x i pe Na No s Jz acc items P s₂ vs ps (st pe i p)->St k s₂.heap->Q () s₂):wpAny (model Pg W0) A (assign (.Name x px) Ii v) Q E s':=by
 have no:∀{C:Prop},Jj.own.contains i=true->C:=λh=>nf (K.hown.symm.trans h);refine wpAny_assign_Name (dC S.X (vd x) K.hxi (S.X.bindRV (x:=x) K.hown K.htk hv) (λa e h=>no h) (λa e h=>no h) λs₂ b0 _ Lb Kh Mn he Hz=>?_);rw[S.hpe] at Hz;have hk:∀b o,b<Ii.locals->s'.heap.get? b=some o->s₂.heap.get? b=some o:=λb o hb e=>Kh.extBut b o (λq=>av.mpr (K.hcells b0 Lb) (q ▸ hb)) e;exact hQ s₂ (S.move (S.pure.skip (λb o hb e=>hk b o (ac hb (aa K.hsI (da K.hIC))) e) ⟨he.step.grow,Ext.toks he⟩ Mn he.os he.drawn) (he.step.or Na) (S.acc.at λo e=>hk acc o K.haC e) Hz λq=>SJ) (K.W.frame _ _ _ Jy λb hb o e=>hk b o (K.hfp b hb).1 e)
theorem KH (h:n<=100000):n<sizeLine:=by unfold sizeLine;exact fn1 (.y .q (.P .n2 24)) [.x .q .kv] h
theorem zW (K:CompC F B A Jj Ii x i Iw c At el ifs Na s I acc items.length fp P St) (S:CompS Jj Ii x i pe Na No s Jz acc items P s' vs ps pe') (Jy:St k s'.heap) (Te:vs.length<=100000) (hy:RV s'.heap (NaNo Na No) y r)
  (hQ:∀s₂,CompS Jj Ii x i pe Na No s Jz acc items P s₂ (vs++[y]) (ps++[r]) pe'->St k s₂.heap->Q .none s₂):wpAny (model Pg W0) A (call (.builtin "list.append") [.ref acc,y]) Q E s':=by
 refine wpAny_list_append_plain S.acc (λh' Nu Ku=>?_) (da (KH Te));refine xe S.acc λn ha=>?_;have hk:∀b o,b≠acc->s'.heap.get? b=some o->h'.get? b=some o:=λb o hb e=>Ku.extBut b o hb e;have T:Step s'.heap (NaNo Na No) h' (NaNo Na No):=⟨λb o hn e=>hk b o (λq=>hn (.inl (q ▸ K.hNa))) e,ce Ku.1.symm,λ_ q=>.inl q⟩;rw[Bc] at Nu;refine hQ _ ⟨S.pure.skip (λb o hb e=>hk b o (λq=>?_) e) ⟨ce Ku.1.symm,ah _⟩ rfl rfl rfl,aa S.g T.grow,Nu,RVs.append (S.vs.step T) (RVs.one (hy.step T)),S.X.poke K.hNa ha (λv q=>nomatch q) hk (ce Ku.1.symm) (ah _) id,S.hpe,λj v hj hv=>let ⟨p,q1,q2⟩:=S.P j v hj hv;⟨p,q1,q2.step T⟩⟩ (K.W.frame _ _ _ Jy λb hb o e=>hk b o (K.hfp b hb).2 e);rw[q] at hb;exact av.mpr K.hsa hb
theorem GH (K:CompC F B A Jj Ii x i Iw c At el ifs Na s I acc items.length fp P St)
  (S:CompS Jj Ii x i pe Na No s s₄.heap.objs.size acc items P s₄ [] [] Tf) (Kv:St 0 s₄.heap) (d2:cF (aA F c) (aA F Iw) At i pe items=some rs)
  (hR:∀s' vs,Pure s s'->s₄.heap.objs.size<=s'.heap.objs.size->s'.heap.PlainList acc vs.toArray->RVs s'.heap (NaNo Na No) vs rs->(∃m,s'.heap.Ns Ii.locals m)->RR (.ok .next) s') :
  codeAny (model Pg W0) A (.compLoop (.ListComp el [⟨.Name x px,it,ifs,0⟩] sc pos) 0 (.ref I) (.ref acc) Ii) RR s₄:=by
 refine codeAny_compLoop_tests (λn s'=>∃k vs ps DO pe',k<=items.length/\n=items.length+1-k/\CompS Jj Ii x i pe Na No s s₄.heap.objs.size acc items P s' vs ps pe'/\St k s'.heap/\cF (aA F c) (aA F Iw) At i pe (items.drop k)=some DO/\ps++DO=rs/\vs.length<=k) ?_ (items.length+1)
  (eH 0 ([]) ([]) (bW rs Tf (iq _) rfl S (cS Kv d2 rfl (ah _))))
 clear S Kv d2
 rintro n s' ⟨k,vs,ps,DO,pe',hk,rfl,S,Kv,Jg,Vc,Te⟩
 rcases ot k items.length with Im | Vp
 ·refine aU (K.W.item k s' _ _ Im Kv λv Ib tk hv Rh Nv hm=>?_);have Ka:=S.poke K Kv Nv hm;refine xea (Ka.P k v Im hv) λp hp Nw=>?_;rw[pC hp] at Jg;refine lC (B5 Jg) λok Jb Pp Zm=>?_;refine B7 K Ka Rh Nw λs₂ Mz Nx=>?_;refine B6 K.hT K.R3 K.h4 Jb Mz.X λiN Ip=>?_;have Ri:=Mz.pureS Ip;have Mo:St (k+1) iN.heap:=K.W.frame _ _ _ Nx λb hb o e=>Pure.keep Ip b o e;clear Ka Mz Jg Jb;cases ok with
  | false=>exact(iea (items.length+1-(k+1)) (pn (ik Im) (dh k)) (eH (k+1) vs ps (bW DO _ Im rfl Ri (cS Mo (Pp rfl) Vc (gj Te)))))
  | true =>
   refine eA (Zm rfl) λr rest' hr hc aT=>?_;subst aT;refine K.hE K.R2 Ri.X K.h3 hr λy Ih Ja Vq=>?_;exact zW K (Ri.pureS Ja) (K.W.frame _ _ _ Mo λb hb o e=>Pure.keep Ja b o e) (aa Te (aa hk K.hlen)) (Vq.f rfl) λIv Vr Ny =>
    (iea (items.length+1-(k+1)) (pn (ik Im) (dh k)) (eH (k+1) (vs++[y]) (ps++[r]) (bW rest' _ Im rfl Vr (cS Ny hc (by refine XO Vc (O (cg ..) ?_);rfl) (by exact O cw (Nat.succ_le_succ Te))))))
 ·cases az hk Vp;refine aU (K.W.done s' _ _ Kv λIb tk Nv hm=>?_);have Ka:=S.poke K Kv Nv hm;rw[vf] at Jg;cases sm Jg;rw[fy] at Vc;cases Vc;exact hR _ vs Ka.pure Ka.g Ka.acc Ka.vs Ka.X.ns
end
def Na3 (Na:Ap) (a I:er):Ap:=λb=>Na b\/b=a\/b=I
def No3 (No:Ap) (sc:md) (h:li):Ap:=λb=>No b\/(h.objs.size<=b/\b<(iI sc h).objs.size)
theorem GI{sc:md}{x:Str}{h:li}{b0:er}(Lc:cU (sc.names.map (·.1))=true) (hx:(x,my.local)∈sc.names\/(x,fx)∈sc.names) (hb:(nE sc env h.objs.size).cells.lookup x=some b0):h.objs.size<=b0:=by
 by_cases hc:(x,fx)∈sc.names
 ·refine lC (iH (h:=h.push {cls:=.type "dict",data:=.dict #[]}) (acc:=clo env sc.names []) Lc hc) λc' q1 q2 _=>?_;rw[bm] at q1 q2;cases sm (q1.symm.trans hb);exact Be q2
 ·have hl:(x,my.local)∈sc.names:=hx.resolve_right hc;exfalso;have e:(nE sc env h.objs.size).cells.lookup x=none:=(cG hc).trans (jR λhf=>by
   have q1:=bR Lc hl;have q2:=bR Lc hf;rw[q1] at q2;cases q2)
  exact nn (e.symm.trans hb)
theorem B8{sc:md}{x:Str}{i:Nat}{Iw c:PE}{At:Bool}{el it:ao}{ifs:List ao}{px pos:Pos}{items rs:List PV}{use:Option (ag->Sem Unit)}{Q:Vs}{s₂ iN:ai}{I:er}{fp:List er}{P:Nat->ag->Prop}{St:Nat->li->Prop}
  (hE:EvalP F B Iw) (hT:TrueP F B c) (hh:A.handled=none) (R2:Room A (nd Iw+B)) (R3:Room A (nd c+B)) (X:EnvR cx asg env s Na No pe) (h2:m9 cx sc x i=true) (h3:aH (fL cx sc.names x i) false el Iw=true)
  (h4:o9 (fL cx sc.names x i) ifs At c=true) (d2:cF (aA F c) (aA F Iw) At i pe items=some rs) (iF:Pure s s₂) (Oy:s.heap.objs.size<=I) (Nz:I<s₂.heap.objs.size) (hlen:items.length<=100000)
  (W:∀A:dt,A.handled=none->Hh Pg W0 A I fp [I] items.length P St) (Kv:St 0 s₂.heap) (hcI:∀i h,St i h->∃o,h.get? I=some o/\(∀v,o.data≠.cell v)/\∃n,o.cls=.type n/\vN n=false)
  (hfp:∀b∈fp,b=I\/¬(Na b\/No b)/\b<s₂.heap.objs.size) (hP:∀j v,j<items.length->P j v->∃p,items[j]?=some p/\RV s₂.heap (λb=>(Na b\/No b)\/b=I) v p)
  (P23:Pure s₂ iN) (L3:s₂.heap.objs.size<iN.heap.objs.size) (Vd:iN.heap.PlainList s₂.heap.objs.size ([]:List ag).toArray)
  (hK:∀acc C s' vs,Pure s s'->s.heap.objs.size<=acc->s.heap.objs.size<=C->acc≠C->C<s'.heap.objs.size->acc<s'.heap.objs.size->s'.heap.PlainList acc vs.toArray->RVs s'.heap (λb=>(Na b\/No b)\/b=acc\/b=C) vs rs->(∃m,s'.heap.Ns C m) ->
   compPost (model Pg W0) A E use Q (.ref acc) C (.ok .next) s') :
  codeAny (model Pg W0) A (.compStart (.ListComp el [⟨.Name x px,it,ifs,0⟩] sc pos) 0 (.ref I) (.ref s₂.heap.objs.size) (nE sc env iN.heap.objs.size)) (compPost (model Pg W0) A E use Q (.ref s₂.heap.objs.size) iN.heap.objs.size) {iN with heap:=iI sc iN.heap}:=by
 refine gC (nD h2) λhk Lc hx Kj hown=>?_;have Ip:=iF.trans P23;have Kk:=iF.step.grow;have Ig:EnvR cx asg env iN (Na3 Na s₂.heap.objs.size I) No pe:=by
  refine X.wideA Ip (λb q=>.inl q) (λb q=>?_) (λb q=>?_)
  ·rcases q with q | q | q
   ·exact .inl q
   ·exact .inr (q ▸ Kk)
   ·exact .inr (q ▸ Oy)
  ·rcases q with q | q | q
   ·exact ac (X.base.low b (.inl q)) Ip.step.grow
   ·exact O q L3
   ·exact O q (iz Nz L3)
 have Ji:=sL sc iN;have P24:=P23.trans Ji;have Tg:=(W A hh).frame _ _ _ Kv λb _ o e=>Pure.keep P24 b o e;have K:CompC F B A (fL cx sc.names x i) (nE sc env iN.heap.objs.size) x i Iw c At el ifs (Na3 Na s₂.heap.objs.size I) s I s₂.heap.objs.size items.length fp P St :=
  {hE,hT,R2,R3,h3,h4,hlen,W:=W A hh,hoI:=hcI,hIa:=ez Nz,hIC:=iz Nz L3,haC:=L3,hsI:=Oy,hsa:=Kk,hxi:=by simp[fL],hown,htk:=rfl,hNI:=.inr (.inr rfl),hNa:=.inr (.inl rfl)
   hfp:=λb hb=>(hfp b hb).elim (λe=>by exact O e ⟨iz Nz L3,ez Nz⟩) λq=>⟨iz q.2 L3,ez q.2⟩
   hcells:=λb0 q=>q.elim (λe=>ce e.symm) (GI Lc hx)}
 have S:CompS (fL cx sc.names x i) (nE sc env iN.heap.objs.size) x i pe (Na3 Na s₂.heap.objs.size I) (No3 No sc iN.heap) s (iI sc iN.heap).objs.size s₂.heap.objs.size items P {iN with heap:=iI sc iN.heap} [] [] (clr pe i) :=
  {pure:=Ip.trans Ji,g:=ah _,acc:=Vd.at λo e=>Pure.keep Ji _ o e,vs:=.nil,X:=KF Ig h2,hpe:=λq=>KC
   P:=λj v hj hv=>by
    refine xea (hP j v hj hv) λp q1 q2=>?_;refine(iea p q1 (RV.step (h:=s₂.heap) ⟨λb o _ e=>Pure.keep P24 _ _ e,P24.step.grow,λb hb=>?_⟩ q2));rcases hb with (hb | hb | hb) | (hb | hb)
    ·exact .inl (.inl (.inl hb))
    ·exact .inr (ce hb.symm)
    ·exact .inl (.inr hb)
    ·exact .inl (.inl (.inr hb))
    ·exact .inr (da (ac L3 hb.1))}
 have key:=GH (it:=it) (px:=px) (pos:=pos) (sc:=sc) (RR:=compPost (model Pg W0) A E use Q (.ref s₂.heap.objs.size) iN.heap.objs.size) K S Tg d2 λs' vs P' hg hl hr Ic=>by
  refine hK s₂.heap.objs.size iN.heap.objs.size s' vs P' Kk (aa Kk (da L3)) (ez L3) (ac (nW sc _) hg) (iz L3 (ac (nW sc _) hg)) hl (RVs.weak' (λb hb=>?_) hr) Ic;rcases hb with (hb | hb) | hb | hb
  ·exact .inl (.inl hb)
  ·exact .inr (.inl hb)
  ·exact .inl (.inr (.inl hb))
  ·exact .inr (.inr ⟨ce hb.symm,hb ▸ nW sc _⟩)
 exact codeAny_compStart_list key ((W A hh).self 0 _ _ _ Tg key)
theorem vQ{sc:md}{x:Str}{i:Nat}{Iw c:PE}{src:PI}{At:Bool}{el it:ao}{ifs:List ao}{px pos cpos:Pos}{items rs:List PV}{use:Option (ag->Sem Unit)}{Q:Vs}
  (hE:EvalP F B Iw) (hT:TrueP F B c) (hI:IterP F B src)
  (R:Room A (nd (.comp Iw i src At c)+B)) (X:EnvR cx asg env s Na No pe) (h1:qL cx it src=true) (h2:m9 cx sc x i=true) (h3:aH (fL cx sc.names x i) false el Iw=true)
  (h4:o9 (fL cx sc.names x i) ifs At c=true) (d1:fH F src pe=some items) (d2:cF (aA F c) (aA F Iw) At i pe items=some rs)
  (hK:∀acc C s' vs,Pure s s'->s.heap.objs.size<=acc->s.heap.objs.size<=C->acc≠C->C<s'.heap.objs.size->acc<s'.heap.objs.size->s'.heap.PlainList acc vs.toArray->RVs s'.heap (λb=>(Na b\/No b)\/b=acc\/b=C) vs rs->(∃m,s'.heap.Ns C m) ->
   compPost (model Pg W0) A E use Q (.ref acc) C (.ok .next) s') :
  wpAny (model Pg W0) A (comprehension (.ListComp el [⟨.Name x px,it,ifs,0⟩] sc pos) sc env cpos (newList []) false (eval it env) use) Q E s:=by
 have RR:Room A (max (ndi src) (max (nd Iw) (nd c))+B):=R.le (bn (iv _ 3) _);refine gC (nD h2) λhk Lc hx Kj hown=>?_;refine wpAny_comprehension_free (cl:=clo env sc.names []) rfl (ED h1) (sJ λn hn=>?_) hk (λy hy hl=>bR Lc (by exact XO hl hy)) ?_
 ·rcases Kj n _ hn with h | ⟨h,_⟩ | h | ⟨_,_,_,h⟩
  ·cases h
  ·cases h
  ·cases h
  ·refine xa (X.cl n h) λ_ zt=>?_;refine jE zt λc _ h _=>?_;exact⟨c,h⟩
 refine hI RR.m1 X h1 d1 λI s₂ iF Oy Nz hlen hit=>wpAny_newList ?_;refine bI hit λfp P St W Kv hcI zt=>?_;refine xa zt λhfp hP=>?_;clear zt;clear hit;refine uS ?_;have L3:s₂.heap.objs.size<({s₂ with heap:=s₂.heap.push {cls:=.type "list",data:=.seq ([]:List ag).toArray}}:ai).heap.objs.size:=l8;have P23:Pure s₂ {s₂ with heap:=s₂.heap.push {cls:=.type "list",data:=.seq ([]:List ag).toArray}}:=Pure.push s₂ _ (ah _);have Vd:({s₂ with heap:=s₂.heap.push {cls:=.type "list",data:=.seq ([]:List ag).toArray}}:ai).heap.PlainList s₂.heap.objs.size ([]:List ag).toArray:=⟨0,ci _ rfl⟩;show codeAny _ _ (.compStart _ _ _ _ (nE sc env ({s₂ with heap:=s₂.heap.push {cls:=.type "list",data:=.seq ([]:List ag).toArray}}:ai).heap.objs.size)) (compPost _ _ _ _ _ _ ({s₂ with heap:=s₂.heap.push {cls:=.type "list",data:=.seq ([]:List ag).toArray}}:ai).heap.objs.size) {({s₂ with heap:=s₂.heap.push {cls:=.type "list",data:=.seq ([]:List ag).toArray}}:ai) with heap:=iI sc ({s₂ with heap:=s₂.heap.push {cls:=.type "list",data:=.seq ([]:List ag).toArray}}:ai).heap};generalize ({s₂ with heap:=s₂.heap.push {cls:=.type "list",data:=.seq ([]:List ag).toArray}}:ai)=iN at *;exact B8 hE hT R.hh RR.m2 RR.m3 X h2 h3 h4 d2 iF Oy Nz hlen W Kv hcI hfp hP P23 L3 Vd hK
theorem vR (hE:EvalP F B Iw) (hT:TrueP F B c) (hI:IterP F B src):EvalP F B (.comp Iw i src At c):=by
 intro A cx asg env s Na No pe b e r Q E R X hc hd hQ;refine eJ (zG hc) λel x px it zt=>?_;refine bI zt λifs sc pos aT h1 h2 zt=>?_;refine xa zt λh3 h4=>?_;clear zt;subst aT;refine eA (zI hd) λitems rs d1 d2 aT=>?_;subst aT;refine O (PySem.eval_ListComp ..) (vQ (use:=none) hE hT hI R X h1 h2 h3 h4 d1 d2 λacc C s' vs P ha hC Io Th Oz hl hr Ic=>?_);refine xe Ic λm hm=>?_;clear Ic;refine(iea m hm (λh' Kh=>?_));have P':Pure s {s' with heap:=h'}:=P.skip (λb o hb e=>Kh.extBut b o (λq=>by rw[q] at hb;exact absurd hb (av.mpr hC)) e) ⟨ce Kh.1.symm,ah _⟩ rfl rfl rfl;have Nu:h'.PlainList acc vs.toArray:=hl.at λo e=>Kh.extBut _ _ Io e;have Ve:RVs h' (λb=>(Na b\/No b)\/b=acc\/b=C) vs rs:=hr.step ⟨λb o hn e=>Kh.extBut b o (λq=>hn (.inr (.inr q))) e,ce Kh.1.symm,λ_ q=>.inl q⟩;have Mp:¬(Na acc\/No acc):=λq=>absurd (X.low acc q) (av.mpr ha);have Nw:RV h' (λb=>Na b\/No b) (.ref acc) (.lst rs):=.lst Mp Nu (RVs.weak (λb q=>.inl q) Ve);refine hQ _ _ P' {t:=Nw.rt,a:=λ_=>Nw.weak λ_ q=>.inl q,f:=λ_=>Nw,fresh:=λ_ l e=>?_,tok:=λq=>(nomatch q)};cases e;exact(bW acc vs rfl ha Nu (RVs.weak (λb q=>q.elim .inl λq=>.inr (.inl q)) Ve))
mutual
theorem aC (hB:3<=B) (GK:Glo) (FK:FunOK F B):∀p:PE,EvalP F B p/\TrueP F B p
 | .cst c=>⟨zL c,bP rfl (zL c)⟩
 | .gcst c=>⟨vK GK c,bP rfl (vK GK c)⟩
 | .var i=>⟨zN i,bP rfl (zN i)⟩
 | .bin op a b=>⟨zO (aC hB GK FK a).1 (aC hB GK FK b).1,bP rfl (zO (aC hB GK FK a).1 (aC hB GK FK b).1)⟩
 | .neg a=>⟨zP (aC hB GK FK a).1,bP rfl (zP (aC hB GK FK a).1)⟩
 | .not a=>⟨JV (aC hB GK FK a).1,J5 (aC hB GK FK a).2⟩
 | .and a b=>⟨JW (aC hB GK FK a).1 (aC hB GK FK b).1,true_and (aC hB GK FK a).2 (aC hB GK FK b).2⟩
 | .or a b=>⟨PP (aC hB GK FK a).1 (aC hB GK FK b).1,true_or (aC hB GK FK a).2 (aC hB GK FK b).2⟩
 | .ite t a b=>⟨JX (aC hB GK FK t).2 (aC hB GK FK a).1 (aC hB GK FK b).1,J6 (aC hB GK FK t).2 (aC hB GK FK a).2 (aC hB GK FK b).2⟩
 | .cmp op a b=>⟨JU hB GK (aC hB GK FK a).1 (aC hB GK FK b).1,J7 hB GK (aC hB GK FK a).1 (aC hB GK FK b).1⟩
 | .cmp2 op Ks a b c=>⟨GA hB GK (aC hB GK FK a).1 (aC hB GK FK b).1 (aC hB GK FK c).1,GD hB GK (aC hB GK FK a).1 (aC hB GK FK b).1 (aC hB GK FK c).1⟩
 | .sub a i=>⟨zS (aC hB GK FK a).1 (aC hB GK FK i).1,bP rfl (zS (aC hB GK FK a).1 (aC hB GK FK i).1)⟩
 | .slc a l h s=>⟨zT (aC hB GK FK a).1 (aC hB GK FK l).1 (aC hB GK FK h).1 (aC hB GK FK s).1,bP rfl (zT (aC hB GK FK a).1 (aC hB GK FK l).1 (aC hB GK FK h).1 (aC hB GK FK s).1)⟩
 | .list es=>⟨vL (dG hB GK FK es),bP rfl (vL (dG hB GK FK es))⟩
 | .tup es=>⟨zU (dG hB GK FK es),bP rfl (zU (dG hB GK FK es))⟩
 | .comp Iw i src At c=>⟨vR (aC hB GK FK Iw).1 (aC hB GK FK c).2 (i4 hB GK FK src),bP rfl (vR (aC hB GK FK Iw).1 (aC hB GK FK c).2 (i4 hB GK FK src))⟩
 | .call f es=>⟨vM GK FK (dG hB GK FK es),bP rfl (vM GK FK (dG hB GK FK es))⟩
 | .bi f es=>⟨EA GK hB (dG hB GK FK es),bP rfl (EA GK hB (dG hB GK FK es))⟩
 | .me f o es=>⟨EB GK hB (aC hB GK FK o).1 (dG hB GK FK es),bP rfl (EB GK hB (aC hB GK FK o).1 (dG hB GK FK es))⟩
theorem dG (hB:3<=B) (GK:Glo) (FK:FunOK F B):∀ps:PEs,AllE F B ps
 | .nil=>trivial
 | .cons p ps=>⟨aC hB GK FK p,dG hB GK FK ps⟩
theorem i4 (hB:3<=B) (GK:Glo) (FK:FunOK F B):∀p:PI,IterP F B p
 | .val e=>KB (aC hB GK FK e).1
 | .rng1 e=>GE GK (aC hB GK FK e).1
 | .rng2 e f=>GF GK (aC hB GK FK e).1 (aC hB GK FK f).1
 | .rng3 e f=>GG GK (aC hB GK FK e).1 (aC hB GK FK f).1
end
end
noncomputable def sM (e:ao):Bool:=e.ctorIdx==8
noncomputable def KI (e:ao):Bool:=e.ctorIdx==25
theorem nF (h:sM e=true):∃el gens sc pos,e=.ListComp el gens sc pos:=qe (motive_1:=λe=>∃el gens sc pos,e=.ListComp el gens sc pos) e (eq_of_beq h) λa b c d=>(eH a b c ⟨d,rfl⟩)
noncomputable def PW (e:ig):Option (List ao × ao):=if h:e.ctorIdx=5 then vh (motive_2:=λ_=>Option (List ao × ao)) e h (λt v _=>some (t,v)) else none
theorem sO (h:PW e=some x):∃p',e=.Assign x.1 x.2 p':=by
 obtain⟨c,h⟩:=a7 h;exact vh (motive_2:=λe=>∀c,vh (motive_2:=λ_=>Option (List ao × ao)) e c (λt v _=>some (t,v))=some x->∃p',e=.Assign x.1 x.2 p') e c (λ_ _ _ c h=>by cases sm h;exact⟨_,rfl⟩) c h
noncomputable def VZ (e:ig):Option (ao × iD × ao):=if h:e.ctorIdx=7 then sh (motive_2:=λ_=>Option (ao × iD × ao)) e h (λt o v _=>some (t,o,v)) else none
theorem KJ (h:VZ e=some x):∃p',e=.AugAssign x.1 x.2.1 x.2.2 p':=by
 obtain⟨c,h⟩:=a7 h;exact sh (motive_2:=λe=>∀c,sh (motive_2:=λ_=>Option (ao × iD × ao)) e c (λt o v _=>some (t,o,v))=some x->∃p',e=.AugAssign x.1 x.2.1 x.2.2 p') e c (λ_ _ _ _ c h=>by cases sm h;exact⟨_,rfl⟩) c h
noncomputable def vEx (e:ig):Option (ao):=if h:e.ctorIdx=24 then xy (motive_2:=λ_=>Option (ao)) e h (λe1 _=>some e1) else none
theorem EE (h:vEx e=some x):∃p',e=.Expr x p':=by
 obtain⟨c,h⟩:=a7 h;exact xy (motive_2:=λe=>∀c,xy (motive_2:=λ_=>Option (ao)) e c (λe1 _=>some e1)=some x->∃p',e=.Expr x p') e c (λ_ _ c h=>by cases sm h;exact⟨_,rfl⟩) c h
noncomputable def KL (e:ig):Option (ao × List ig × List ig):=if h:e.ctorIdx=12 then Bf (motive_2:=λ_=>Option (ao × List ig × List ig)) e h (λt a b _=>some (t,a,b)) else none
theorem nX (h:KL e=some x):∃p',e=.If x.1 x.2.1 x.2.2 p':=by
 obtain⟨c,h⟩:=a7 h;exact Bf (motive_2:=λe=>∀c,Bf (motive_2:=λ_=>Option (ao × List ig × List ig)) e c (λt a b _=>some (t,a,b))=some x->∃p',e=.If x.1 x.2.1 x.2.2 p') e c (λ_ _ _ _ c h=>by cases sm h;exact⟨_,rfl⟩) c h
noncomputable def PX (e:ig):Option (ao × ao × List ig × List ig):=if h:e.ctorIdx=9 then zz (motive_2:=λ_=>Option (ao × ao × List ig × List ig)) e h (λt i a b _=>some (t,i,a,b)) else none
theorem sP (h:PX e=some x):∃p',e=.For x.1 x.2.1 x.2.2.1 x.2.2.2 p':=by
 obtain⟨c,h⟩:=a7 h;exact zz (motive_2:=λe=>∀c,zz (motive_2:=λ_=>Option (ao × ao × List ig × List ig)) e c (λt i a b _=>some (t,i,a,b))=some x->∃p',e=.For x.1 x.2.1 x.2.2.1 x.2.2.2 p') e c (λ_ _ _ _ _ c h=>by cases sm h;exact⟨_,rfl⟩) c h
noncomputable def KM (e:ig):Option (ao × List ig × List ig):=if h:e.ctorIdx=11 then wu (motive_2:=λ_=>Option (ao × List ig × List ig)) e h (λt a b _=>some (t,a,b)) else none
theorem B9 (h:KM e=some x):∃p',e=.While x.1 x.2.1 x.2.2 p':=by
 obtain⟨c,h⟩:=a7 h;exact wu (motive_2:=λe=>∀c,wu (motive_2:=λ_=>Option (ao × List ig × List ig)) e c (λt a b _=>some (t,a,b))=some x->∃p',e=.While x.1 x.2.1 x.2.2 p') e c (λ_ _ _ _ c h=>by cases sm h;exact⟨_,rfl⟩) c h
noncomputable def V0 (e:ig):Option (Option ao):=if h:e.ctorIdx=3 then vk (motive_2:=λ_=>Option (Option ao)) e h (λv _=>some v) else none
theorem KN (h:V0 e=some x):∃p',e=.Return x p':=by
 obtain⟨c,h⟩:=a7 h;exact vk (motive_2:=λe=>∀c,vk (motive_2:=λ_=>Option (Option ao)) e c (λv _=>some v)=some x->∃p',e=.Return x p') e c (λ_ _ c h=>by cases sm h;exact⟨_,rfl⟩) c h
noncomputable def V1 (e:ig):Option (Pos):=if h:e.ctorIdx=26 then wv (motive_2:=λ_=>Option (Pos)) e h (λp=>some p) else none
theorem KO (h:V1 e=some x):e=.Break x:=by
 obtain⟨c,h⟩:=a7 h;exact wv (motive_2:=λe=>∀c,wv (motive_2:=λ_=>Option (Pos)) e c (λp=>some p)=some x->e=.Break x) e c (λ_ c h=>by cases sm h;rfl) c h
def KP (s:ig):Option (Str × ao):=(PW s).bind λa=>(lz1 a.1).bind λt=>(lH t).map λx=>(x,a.2)
theorem nY (h:KP s=some x):∃px pos,s=.Assign [.Name x.1 px] x.2 pos:=by
 refine xea (dm.mp h) λa h1 h=>?_;refine xea (dm.mp h) λt h2 h=>?_;apply gW (bj.mp h);intro y h3;apply xeR (sO h1);intro pos;refine xe (fD h3) λpx e=>?_;exact O (cQ h2) (O e (iee px pos rfl))
def KQ (e:ao) (m:Str):Option (Str × List ao):=(lI e).bind λc=>(JD c.1).bind λa=>if (a.2.1==m&&(c.2.2.1.isEmpty&&a.2.2.endLine==c.2.2.2.line))=true then(lH a.1).map λx=>(x,c.2.1) else none
theorem vS (h:KQ e m=some x):∃px ap k,e=.Call (.Attribute (.Name x.1 px) m ap) x.2 [] k/\(ap.endLine==k.line)=true:=by
 refine xea (dm.mp h) λc h1 h=>?_;refine xea (dm.mp h) λa h2 h=>?_;have h:=aL h;apply gW (bj.mp h.2);intro y h3;have q:=aB h.1;have e1:=vJ h2;refine xe (fD h3) λpx e2=>?_;rw[eq_of_beq q.1,e2] at e1;have q2:=aB q.2;exact(gG px a.2.2 c.2.2.2 ((dX h1).trans (by exact O e1 (O (cK q2.1) rfl))) q2.2)
section
def GJ (cx:Cx) (asg:List Str) (e:ao) (i:Nat):Bool:=(lH e).any λx=>cx.vars.lookup x==some i&&(asg.contains x&&(!cx.own.contains i&&!cx.tk.contains i))
def kY (cx:Cx) (asg:List Str):List ao->List Nat->Bool
 | es,[]=>es.isEmpty
 | es,i::is=>match es with
  | []=>false
  | e::es=>GJ cx asg e i&&kY cx asg es is
termination_by structural _ is=>is
noncomputable def jH:List Nat->Bool
 | []=>true
 | a::l=>!l.contains a&&jH l
theorem KR:jH (a::l)=(!l.contains a&&jH l):=rfl
def nZ (cx:Cx) (asg:List Str) (e:ao) (ts:List Nat):Bool:=match lz1 ts with
 | some i=>GJ cx asg e i
 | none=>(F2 e).any λes=>kY cx asg es ts&&(decide (2<=ts.length)&&jH ts)
def qU (e:ao):Bool:=match F2 e with
 | some vs=>vs.all (foldedForSure 8)||!vs.all (constantsAlone 8)
 | none=>true
def CA (cx:Cx) (x:Str) (i:Nat):Bool:=cx.vars.lookup x==some i&&(cx.own.contains i&&cR x)
noncomputable def XJ (o:iD):Bool:=o==.Add
mutual
def gI (cx:Cx) (asg:List Str):ig->PS->Bool
 | s,.asg i e=>(KP s).any λx=>cx.vars.lookup x.1==some i&&(asg.contains x.1&&(!cx.own.contains i&&(aH cx false x.2 e&&(!cx.tk.contains i||zJ e))))
 | s,.asgO i e=>(KP s).any λx=>cx.vars.lookup x.1==some i&&(asg.contains x.1&&(cx.own.contains i&&(aH cx false x.2 e&&(!cx.tk.contains i&&w4 e))))
 | s,.newD i=>(KP s).any λx=>(SD x.2).any λd=>d.1.isEmpty&&(d.2.isEmpty&&(cx.vars.lookup x.1==some i&&(asg.contains x.1&&(cx.own.contains i&&!cx.tk.contains i))))
 | s,.asgT ts e=>(PW s).any λa=>(lz1 a.1).any λt=>KI t&&(nZ cx asg t ts&&(decide (2<=ts.length)&&(aH cx false a.2 e&&qU a.2)))
 | s,.aug i op e=>(VZ s).any λa=>(lH a.1).any λx=>a.2.1==op&&(cx.vars.lookup x==some i&&(asg.contains x&&(!cx.own.contains i&&(!cx.tk.contains i&&(cR x&&aH cx true a.2.2 e)))))
 | s,.app i e=>(vEx s).any λc=>(KQ c ("append":Str)).any λx=>(lz1 x.2).any λa=>CA cx x.1 i&&(aH cx false a e&&bZ a)
 | s,.pop j i=>(KP s).any λy=>(KQ y.2 ("pop":Str)).any λx=>x.2.isEmpty&&(CA cx x.1 i&&(cx.vars.lookup y.1==some j&&(asg.contains y.1&&(!cx.own.contains j&&!cx.tk.contains j))))
 | s,.setI i k v=>(PW s).any λa=>(lz1 a.1).any λt=>(O6 t).any λu=>(lH u.1).any λx=>CA cx x i&&(aH cx true u.2 k&&aH cx true a.2 v)
 | s,.ite t a b=>(KL s).any λx=>aH cx true x.1 t&&(fN cx asg x.2.1 a&&fN cx asg x.2.2 b)
 | s,.for ts src body=>(PX s).any λx=>x.2.2.2.isEmpty&&(nZ cx asg x.1 ts&&(qL cx x.2.1 src&&fN cx asg x.2.2.1 body))
 | s,.esc ts e body=>(PX s).any λx=>(lI x.2.1).any λc=>(lz1 c.2.1).any λa=>x.2.2.2.isEmpty&&(c.2.2.1.isEmpty&&(nZ cx asg x.1 ts&&(fX cx c.1 BV&&(bZ a&&(aH cx true a e&&fN cx asg x.2.2.1 body)))))
 | s,.while n t body=>(KM s).any λx=>x.2.2.isEmpty&&(aH cx true x.1 t&&fN cx asg x.2.1 body)
 | s,.ret e=>(V0 s).any λv=>v.any λv=>aH cx true v e
 | s,.brk=>(V1 s).isSome
def fN (cx:Cx) (asg:List Str):List ig->PSs->Bool
 | ss,.nil=>ss.isEmpty
 | ss,.cons p ps=>match ss with
  | s::ss=>gI cx asg s p&&fN cx asg ss ps
  | []=>false
end
end
section
variable{cx:Cx}{asg:List Str}{st:ig}
theorem kZ (h:(!a)=true):a=false:=by cases a <;> first | rfl | exact nf h
theorem pD{l:List Str}{x:Str}(h:l.contains x=true):x∈l:=qx.mp h
theorem V2 (h:(!a||b)=true):a=false\/b=true:=by cases a <;> first | exact .inl rfl | exact .inr h
theorem PY{i:Nat}{e:PE}(h:gI cx asg st (.asg i e)=true):∃x px v pos,st=.Assign [.Name x px] v pos/\cx.vars.lookup x=some i/\x∈asg/\cx.own.contains i=false/\aH cx false v e=true/\(cx.tk.contains i=false\/zJ e=true):=by
 refine xea (aD h) λx h1 h2=>?_;refine xee (nY h1) λpx pos e1=>?_;have q1:=aB h2;have q2:=aB q1.2;have q3:=aB q2.2;have q4:=aB q3.2;exact(bO _ px _ pos e1 (eq_of_beq q1.1) (pD q2.1) (kZ q3.1) ⟨q4.1,(V2 q4.2)⟩)
theorem KS{i:Nat}{e:PE}(h:gI cx asg st (.asgO i e)=true):∃x px v pos,st=.Assign [.Name x px] v pos/\cx.vars.lookup x=some i/\x∈asg/\cx.own.contains i=true/\aH cx false v e=true/\cx.tk.contains i=false/\w4 e=true:=by
 refine xea (aD h) λx h1 h2=>?_;refine xee (nY h1) λpx pos e1=>?_;have q1:=aB h2;have q2:=aB q1.2;have q3:=aB q2.2;have q4:=aB q3.2;have q5:=aB q4.2;exact(bO _ px _ pos e1 (eq_of_beq q1.1) (pD q2.1) q3.1 (iaa q4.1 (kZ q5.1) q5.2))
theorem KU{i:Nat}(h:gI cx asg st (.newD i)=true):∃x px pd pos,st=.Assign [.Name x px] (.Dict [] [] pd) pos/\cx.vars.lookup x=some i/\x∈asg/\cx.own.contains i=true/\cx.tk.contains i=false:=by
 refine xea (aD h) λx h1 h2=>?_;refine xea (aD h2) λd h3 h4=>?_;refine xee (nY h1) λpx pos e1=>?_;refine xe (F3 h3) λpd e2=>?_;have q1:=aB h4;have q2:=aB q1.2;have q3:=aB q2.2;have q4:=aB q3.2;have q5:=aB q4.2;rw[cK q1.1,cK q2.1] at e2;rw[e2] at e1;exact(bO _ px pd pos e1 (eq_of_beq q3.1) (pD q4.1) q5.1 (kZ q5.2))
theorem KV (h:gI cx asg st (.asgT ts e)=true):∃es k p v pos,st=.Assign [.Tuple es k p] v pos/\nZ cx asg (.Tuple es k p) ts=true/\2<=ts.length/\aH cx false v e=true/\qU v=true:=by
 refine xea (aD h) λa h1 h2=>?_;refine xea (aD h2) λt h3 h4=>?_;refine xe (sO h1) λpos e1=>?_;have q1:=aB h4;have q2:=aB q1.2;have q3:=aB q2.2;rw[cQ h3] at e1;have e2:∃es k p,t=.Tuple es k p:=pz (motive_1:=λe=>∃a b c,e=.Tuple a b c) t (eq_of_beq q1.1) λa b c=>(eH a b c rfl);refine gB e2 λes k p e2=>?_;subst e2;exact(eH es k p (bW _ pos e1 q2.1 (of_decide_eq_true q3.1) (aB q3.2)))
theorem PZ{i:Nat}{op:iD}{e:PE}(h:gI cx asg st (.aug i op e)=true):∃x px v pos,st=.AugAssign (.Name x px) op v pos/\cx.vars.lookup x=some i/\x∈asg/\cx.own.contains i=false/\cx.tk.contains i=false/\cR x=true/\aH cx true v e=true:=by
 refine xea (aD h) λa h1 h2=>?_;refine xea (aD h2) λx h3 h4=>?_;refine xe (KJ h1) λpos e1=>?_;refine xe (fD h3) λpx e2=>?_;have q1:=aB h4;have q2:=aB q1.2;have q3:=aB q2.2;have q4:=aB q3.2;have q5:=aB q4.2;rw[e2,eq_of_beq q1.1] at e1;exact(bO x px _ pos e1 (eq_of_beq q2.1) (pD q3.1) (kZ q4.1) ⟨(kZ q5.1),(aB q5.2)⟩)
theorem P0 (h:gI cx asg st (.app i e)=true):∃x px ap a k pos,st=.Expr (.Call (.Attribute (.Name x px) ("append":Str) ap) [a] [] k) pos/\CA cx x i=true/\aH cx false a e=true/\bZ a=true/\(ap.endLine==k.line)=true:=by
 refine xea (aD h) λc h1 h2=>?_;refine xea (aD h2) λx h3 h4=>?_;refine xea (aD h4) λa h5 h6=>?_;refine xe (EE h1) λpos e1=>?_;refine lD (vS h3) λpx ap k e2 q=>?_;rw[e2,cQ h5] at e1;exact(gH _ px ap a k pos e1 ((aB h6).1) ((aB (aB h6).2).1) ((aB (aB h6).2).2) q)
theorem P2{j i:Nat}(h:gI cx asg st (.pop j i)=true):∃y py x px ap k pos,st=.Assign [.Name y py] (.Call (.Attribute (.Name x px) ("pop":Str) ap) [] [] k) pos/\CA cx x i=true/\(ap.endLine==k.line)=true/\cx.vars.lookup y=some j/\y∈asg/\cx.own.contains j=false/\cx.tk.contains j=false:=by
 refine xea (aD h) λy h1 h2=>?_;refine xea (aD h2) λx h3 h4=>?_;refine xee (nY h1) λpy pos e1=>?_;refine lD (vS h3) λpx ap k e2 q=>?_;have q1:=aB h4;have q2:=aB q1.2;have q3:=aB q2.2;have q4:=aB q3.2;have q5:=aB q4.2;rw[e2,cK q1.1] at e1;exact(eH _ py _ (bO px ap k pos e1 q2.1 q (eq_of_beq q3.1) (iaa (pD q4.1) (kZ q5.1) (kZ q5.2))))
theorem KW (h:gI cx asg st (.setI i k v)=true):∃x px ke sp ve pos,st=.Assign [.Subscript (.Name x px) ke sp] ve pos/\CA cx x i=true/\aH cx true ke k=true/\aH cx true ve v=true:=by
 refine xea (aD h) λa h1 h2=>?_;refine xea (aD h2) λt h3 h4=>?_;refine xea (aD h4) λu h5 h6=>?_;refine xea (aD h6) λx h7 h8=>?_;refine xe (sO h1) λpos e1=>?_;refine xe (sB h5) λsp e2=>?_;refine xe (fD h7) λpx e3=>?_;rw[e3] at e2;rw[cQ h3,e2] at e1;exact(eH x px _ (o5 sp _ pos e1 ((aB h8).1) (aB (aB h8).2)))
theorem KY (h:gI cx asg st (.ite t a b)=true):∃te bs os pos,st=.If te bs os pos/\aH cx true te t=true/\fN cx asg bs a=true/\fN cx asg os b=true:=by
 refine xea (aD h) λx h1 h2=>?_;refine xe (nX h1) λpos e1=>?_;exact(f8 _ _ _ pos e1 ((aB h2).1) (aB (aB h2).2))
theorem P3 (h:gI cx asg st (.for ts src body)=true):∃tgt it bs pos,st=.For tgt it bs [] pos/\nZ cx asg tgt ts=true/\qL cx it src=true/\fN cx asg bs body=true:=by
 refine xea (aD h) λx h1 h2=>?_;refine xe (sP h1) λpos e1=>?_;rw[cK (aB h2).1] at e1;exact(f8 _ _ _ pos e1 ((aB (aB h2).2).1) (aB (aB (aB h2).2).2))
theorem P4 (h:gI cx asg st (.esc ts e body)=true):∃tgt g a k bs pos,st=.For tgt (.Call g [a] [] k) bs [] pos/\nZ cx asg tgt ts=true/\fX cx g BV=true/\bZ a=true/\aH cx true a e=true/\fN cx asg bs body=true:=by
 refine xea (aD h) λx h1 h2=>?_;refine xea (aD h2) λc h3 h4=>?_;refine xea (aD h4) λa h5 h6=>?_;refine xe (sP h1) λpos e1=>?_;have q1:=aB h6;have q2:=aB q1.2;have q3:=aB q2.2;have q4:=aB q3.2;have q5:=aB q4.2;rw[dX h3,cQ h5,cK q1.1,cK q2.1] at e1;exact(gH _ _ a _ _ pos e1 q3.1 q4.1 q5.1 (aB q5.2))
theorem GM (h:gI cx asg st (.while n t body)=true):∃te bs pos,st=.While te bs [] pos/\aH cx true te t=true/\fN cx asg bs body=true:=by
 refine xea (aD h) λx h1 h2=>?_;refine xe (B9 h1) λpos e1=>?_;rw[cK (aB h2).1] at e1;exact(gG _ _ pos e1 (aB (aB h2).2))
theorem P5 (h:gI cx asg st (.ret e)=true):∃v pos,st=.Return (some v) pos/\aH cx true v e=true:=by
 refine xea (aD h) λx h1 h2=>?_;refine xea (aD h2) λv h3 h4=>?_;refine xe (KN h1) λpos e1=>?_;rw[h3] at e1;exact(kC v pos e1 h4)
theorem P6 (h:gI cx asg st .brk=true):∃pos,st=.Break pos:=by
 refine xe (aq.mp h) λx h1=>?_;exact⟨x,KO h1⟩
theorem CB (h:fN cx asg ss (.cons p ps)=true):∃s us,ss=s::us/\gI cx asg s p=true/\fN cx asg us ps=true:=by
 cases ss with
 | nil=>exact nf h
 | cons s us=>exact(kC s us rfl (aB h))
theorem sQ{e:ao}{i:Nat}(h:GJ cx asg e i=true):∃x pos,e=.Name x pos/\cx.vars.lookup x=some i/\x∈asg/\cx.own.contains i=false/\cx.tk.contains i=false:=by
 refine xea (aD h) λx h1 h2=>?_;refine xe (fD h1) λpos e1=>?_;have q1:=aB h2;have q2:=aB q1.2;have q3:=aB q2.2;exact(bW x pos e1 (eq_of_beq q1.1) (pD q2.1) ⟨(kZ q3.1),(kZ q3.2)⟩)
theorem sR (h:kY cx asg es (i::is)=true):∃e us,es=e::us/\GJ cx asg e i=true/\kY cx asg us is=true:=by
 cases es with
 | nil=>exact nf h
 | cons e us=>exact(kC e us rfl (aB h))
theorem sS (h:nZ cx asg e ts=true):(∃i,ts=[i]/\GJ cx asg e i=true)\/∃es k p,e=.Tuple es k p/\kY cx asg es ts=true/\2<=ts.length/\jH ts=true:=by
 unfold nZ at h;cases c:lz1 ts with
 | some i=>rw[c] at h;exact .inl (iea i (cQ c) h)
 | none =>
  rw[c] at h;refine xea (aD (show(F2 e).any _=true from h)) λes h1 h2=>?_;refine xee (sC h1) λk p e1=>?_;exact .inr (cD es k p e1 ((aB h2).1) (of_decide_eq_true (aB (aB h2).2).1) ((aB (aB h2).2).2))
end
section
variable{F:Fn}{pe pe':PEnv}{fl:Fl}{e:PE}
theorem bX (h:some (a,c)=some (b,d)):b=a/\d=c:=by cases h;exact⟨rfl,rfl⟩
theorem P7 (h:cP F (.asg i e) pe=some (pe',fl)):∃p,aA F e pe=some p/\pe'=st pe i p/\fl=.next:=by
 have h:(match aA F e pe with | some p=>some (st pe i p,Fl.next) | none=>none)=some (pe',fl):=h;revert h;cases aA F e pe with
 | none=>exact nn
 | some p=>exact λh=>(iea p rfl (bX h))
theorem KZ (h:cP F (.asgO i e) pe=some (pe',fl)):∃l,aA F e pe=some (.lst l)/\pe'=st pe i (.lst l)/\fl=.next:=by
 have h:(match aA F e pe with | some (.lst l)=>some (st pe i (.lst l),Fl.next) | _=>none)=some (pe',fl):=h;revert h;cases aA F e pe with
 | none=>exact nn
 | some p =>
  cases p <;> try (exact nn)
  exact λh=>(iea _ rfl (bX h))
theorem K0 (h:cP F (.asgT ts e) pe=some (pe',fl)):∃p,aA F e pe=some p/\fC ts p pe=some pe'/\fl=.next:=by
 have h:(match aA F e pe with | some p=>(match fC ts p pe with | some pe'=>some (pe',Fl.next) | none=>none) | none=>none)=some (pe',fl):=h;revert h;cases aA F e pe with
 | none=>exact nn
 | some p =>
  intro h;refine(iea p rfl ?_);have h:(match fC ts p pe with | some pe'=>some (pe',Fl.next) | none=>none)=some (pe',fl):=h;revert h;cases fC ts p pe with
  | none=>exact nn
  | some q=>exact λh=>by cases h;exact⟨rfl,rfl⟩
theorem P8 (h:cP F (.aug i op e) pe=some (pe',fl)):∃x y z,lk pe i=some x/\aA F e pe=some y/\wW op x y=some z/\pe'=st pe i z/\fl=.next:=by
 have h:(match lk pe i,aA F e pe with | some x,some y=>(match wW op x y with | some z=>some (st pe i z,Fl.next) | none=>none) | _,_=>none)=some (pe',fl):=h;revert h;cases lk pe i with
 | none=>exact nn
 | some x=>cases aA F e pe with
  | none=>exact nn
  | some y =>
   intro h;have h:(match wW op x y with | some z=>some (st pe i z,Fl.next) | none=>none)=some (pe',fl):=h;revert h;cases c:wW op x y with
   | none=>exact nn
   | some z=>exact λh=>(cD x y z rfl rfl c (bX h))
theorem P9 (h:cP F (.app i e) pe=some (pe',fl)):∃x y,lk pe i=some (.lst x)/\aA F e pe=some y/\x.length<=100000/\pe'=st pe i (.lst (x++[y]))/\fl=.next:=by
 have h:(match lk pe i,aA F e pe with | some (.lst x),some y=>if x.length<=100000 then some (st pe i (.lst (x++[y])),Fl.next) else none | _,_=>none)=some (pe',fl):=h;revert h;cases lk pe i with
 | none=>exact nn
 | some x =>
  cases x <;> try (exact nn)
  cases aA F e pe with
  | none=>exact nn
  | some y=>exact λh=>(bW _ _ rfl rfl ((aL h).1) (bX (aL h).2))
set_option tactic.hygienic true in
theorem QA (h:cP F (.pop j i) pe=some (pe',fl)):∃x y,lk pe i=some (.lst x)/\x.getLast?=some y/\x.length<=100000/\pe'=st (st pe i (.lst x.dropLast)) j y/\fl=.next:=by
 have h:(match lk pe i with | some (.lst x)=>(match x.getLast? with | some y=>if x.length<=100000 then some (st (st pe i (.lst x.dropLast)) j y,Fl.next) else none | none=>none) | _=>none)=some (pe',fl):=h;revert h;cases lk pe i with
 | none=>exact nn
 | some x =>
  cases x <;> try (exact nn)
  rename_i x;intro h;have h:(match x.getLast? with | some y=>if x.length<=100000 then some (st (st pe i (.lst x.dropLast)) j y,Fl.next) else none | none=>none)=some (pe',fl):=h;revert h;cases c:x.getLast? with
  | none=>exact nn
  | some y=>exact λh=>(bW _ _ rfl c ((aL h).1) (bX (aL h).2))
theorem K1 (h:cP F (.setI i k v) pe=some (pe',fl)):∃l a x,lk pe i=some (.dcti l)/\aA F k pe=some (.int a)/\aA F v pe=some (.str x)/\(l.lookup a).isSome=false/\l.length<=10000/\pe'=st pe i (.dcti (l++[(a,.t x)]))/\fl=.next:=by
 have h:(match lk pe i,aA F k pe,aA F v pe with
  | some (.dcti l),some (.int k),some (.str v)=>if (l.lookup k).isSome||decide (l.length>10000) then none else some (st pe i (.dcti (l++[(k,.t v)])),Fl.next)
  | _,_,_=>none)=some (pe',fl):=h
 revert h;cases lk pe i with
 | none=>exact nn
 | some x =>
  cases x <;> try (exact nn)
  cases aA F k pe with
  | none=>exact nn
  | some y =>
   cases y <;> try (exact nn)
   cases aA F v pe with
   | none=>exact nn
   | some z =>
    cases z <;> try (exact nn)
    intro h;have h:=u8 h;have q:=xw.mp (Bool.eq_false_iff.mpr h.1);exact(dF _ _ _ rfl rfl rfl q.1 ⟨(uw (of_decide_eq_false q.2)),(bX h.2)⟩)
set_option tactic.hygienic true in
theorem K2 (h:cP F (.ite t a b) pe=some (pe',fl)):(aA F t pe=some (.bool true)/\aE F a pe=some (pe',fl))\/(aA F t pe=some (.bool false)/\aE F b pe=some (pe',fl)):=by
 have h:(match aA F t pe with | some (.bool true)=>aE F a pe | some (.bool false)=>aE F b pe | _=>none)=some (pe',fl):=h;revert h;cases aA F t pe with
 | none=>exact nn
 | some x =>
  cases x <;> try (exact nn)
  rename_i c;cases c with
  | true=>exact λh=>.inl ⟨rfl,h⟩
  | false=>exact λh=>.inr ⟨rfl,h⟩
theorem QB (h:cP F (.for ts src body) pe=some (pe',fl)):∃items,fH F src pe=some items/\dD (aE F body) ts items pe=some (pe',fl):=by
 have h:(match fH F src pe with | some items=>dD (aE F body) ts items pe | none=>none)=some (pe',fl):=h;revert h;cases fH F src pe with
 | none=>exact nn
 | some l=>exact λh=>(iea l rfl h)
theorem QC (h:cP F (.esc ts e body) pe=some (pe',fl)):∃p items,aA F e pe=some p/\eO p=some items/\dD (aE F body) ts items pe=some (pe',fl):=by
 have h:(match aA F e pe with | some p=>(match eO p with | some items=>dD (aE F body) ts items pe | none=>none) | none=>none)=some (pe',fl):=h;revert h;cases aA F e pe with
 | none=>exact nn
 | some p =>
  intro h;have h:(match eO p with | some items=>dD (aE F body) ts items pe | none=>none)=some (pe',fl):=h;revert h;cases c:eO p with
  | none=>exact nn
  | some l=>exact λh=>(bE p l rfl c h)
theorem QD (h:cP F (.ret e) pe=some (pe',fl)):∃p,aA F e pe=some p/\pe'=pe/\fl=.ret p:=by
 have h:(match aA F e pe with | some p=>some (pe,Fl.ret p) | none=>none)=some (pe',fl):=h;revert h;cases aA F e pe with
 | none=>exact nn
 | some p=>exact λh=>(iea p rfl (bX h))
theorem vT (h:dD body tg (p::l) pe=some (pe',fl)):∃Jk Ia f2,fC tg p pe=some Jk/\body Jk=some (Ia,f2) /\
  ((f2=.next/\dD body tg l Ia=some (pe',fl))\/(f2=.brk/\pe'=Ia/\fl=.next)\/∃v,f2=.ret v/\pe'=Ia/\fl=.ret v):=by
 have h:(match fC tg p pe with
  | none=>none
  | some Jk=>(match body Jk with
   | some (Ia,.next)=>dD body tg l Ia
   | some (Ia,.brk)=>some (Ia,.next)
   | some (Ia,.ret v)=>some (Ia,.ret v)
   | none=>none))=some (pe',fl):=h
 revert h;cases fC tg p pe with
 | none=>exact nn
 | some Jk =>
  intro h;refine wS λG hG=>?_;have h:(match body Jk with
   | some (Ia,.next)=>dD body tg l Ia
   | some (Ia,.brk)=>some (Ia,.next)
   | some (Ia,.ret v)=>some (Ia,.ret v)
   | none=>none)=some (pe',fl):=h
  cases c:body Jk with
  | none=>rw[c] at h;exact nn h
  | some q =>
   rw[c] at h;obtain⟨Ia,f2⟩:=q;refine hG (o5 Jk Ia f2 rfl c ?_);cases f2 with
   | next=>exact .inl ⟨rfl,h⟩
   | brk=>exact .inr (.inl ⟨rfl,bX h⟩)
   | ret v=>exact .inr (.inr (iea v rfl (bX h)))
set_option tactic.hygienic true in
theorem zX (h:eX t body (n+1) pe=some (pe',fl)):(t pe=some (.bool false)/\pe'=pe/\fl=.next)\/(t pe=some (.bool true)/\∃Ia f2,body pe=some (Ia,f2) /\
  ((f2=.next/\eX t body n Ia=some (pe',fl))\/(f2=.brk/\pe'=Ia/\fl=.next)\/∃v,f2=.ret v/\pe'=Ia/\fl=.ret v)):=by
 have h:(match t pe with
  | some (.bool false)=>some (pe,.next)
  | some (.bool true)=>(match body pe with
   | some (Ia,.next)=>eX t body n Ia
   | some (Ia,.brk)=>some (Ia,.next)
   | some (Ia,.ret v)=>some (Ia,.ret v)
   | none=>none)
  | _=>none)=some (pe',fl):=h
 revert h;cases t pe with
 | none=>exact nn
 | some x =>
  cases x <;> try (exact nn)
  rename_i c;cases c with
  | false=>exact λh=>.inl ⟨rfl,bX h⟩
  | true =>
   intro h;refine .inr ⟨rfl,?_⟩;have h:(match body pe with
    | some (Ia,.next)=>eX t body n Ia
    | some (Ia,.brk)=>some (Ia,.next)
    | some (Ia,.ret v)=>some (Ia,.ret v)
    | none=>none)=some (pe',fl):=h
   cases c:body pe with
   | none=>rw[c] at h;exact nn h
   | some q =>
    rw[c] at h;obtain⟨Ia,f2⟩:=q;refine(kC Ia f2 rfl ?_);cases f2 with
    | next=>exact .inl ⟨rfl,h⟩
    | brk=>exact .inr (.inl ⟨rfl,bX h⟩)
    | ret v=>exact .inr (.inr (iea v rfl (bX h)))
theorem CC (h:aE F (.cons s ss) pe=some (pe',fl)):∃Jk f1,cP F s pe=some (Jk,f1)/\((f1=.next/\aE F ss Jk=some (pe',fl))\/(f1=fl/\pe'=Jk/\fl≠.next)):=by
 have h:(match cP F s pe with
  | some (pe',.next)=>aE F ss pe'
  | r=>r)=some (pe',fl):=h
 revert h;cases cP F s pe with
 | none=>exact nn
 | some q =>
  obtain⟨Jk,f1⟩:=q;intro h;refine(kC Jk f1 rfl ?_);cases f1 with
  | next=>exact .inl ⟨rfl,h⟩
  | brk=>exact .inr (by cases h;exact(iaa rfl rfl (λq=>nomatch q)))
  | ret v=>exact .inr (by cases h;exact(iaa rfl rfl (λq=>nomatch q)))
end
mutual
def ns:PS->Nat
 | .asg _ e | .asgO _ e | .asgT _ e | .aug _ _ e | .app _ e | .ret e=>nd e
 | .newD _ | .pop _ _ | .brk=>0
 | .setI _ k v=>max (nd k) (nd v)
 | .ite t a b=>max (nd t) (max (nss a) (nss b))+1
 | .for _ src b=>max (ndi src) (nss b)+1
 | .esc _ e b=>max (nd e) (nss b)+12
 | .while _ t b=>max (nd t) (nss b)+1
def nss:PSs->Nat
 | .nil=>0
 | .cons s ss=>max (ns s) (nss ss)
end
inductive FlR (h:li) (Na:Ap):Fl->Dv->Prop
 | next:FlR h Na .next .next
 | brk:FlR h Na .brk .brk
 | ret{p:PV}{v:ag}:RV h Na v p->FlR h Na (.ret p) (.ret v)
section
variable (F:Fn) (B:Nat)
def ExecP (p:PS):Prop:=∀{A:dt}{cx:Cx}{asg:List Str}{env:Env}{s:ai}{Na No:Ap}{pe pe':PEnv}{fl:Fl}{st:ig}{Q:Dv->ai->Prop}{E:Vs},
 cx.top=true->Room A (ns p+B)->EnvR cx asg env s Na No pe->gI cx asg st p=true->cP F p pe=some (pe',fl) ->
 (∀f s' No',Ext s No s' No'->EnvR cx asg env s' Na No' pe'->FlR s'.heap Na fl f->Q f s')->wpAny (model Pg W0) A (exec st env) Q E s
def ExecsP (p:PSs):Prop:=∀{A:dt}{cx:Cx}{asg:List Str}{env:Env}{s:ai}{Na No:Ap}{pe pe':PEnv}{fl:Fl}{st:List ig}{Q:Dv->ai->Prop}{E:Vs},
 cx.top=true->Room A (nss p+B)->EnvR cx asg env s Na No pe->fN cx asg st p=true->aE F p pe=some (pe',fl) ->
 (∀f s' No',Ext s No s' No'->EnvR cx asg env s' Na No' pe'->FlR s'.heap Na fl f->Q f s')->wpAny (model Pg W0) A (execs st env) Q E s
end
section
variable{F:Fn}{B:Nat}
variable{A:dt}{cx:Cx}{asg:List Str}{env:Env}{s:ai}{Na No:Ap}{pe:PEnv}{E:Vs}
theorem K3 (h:aH cx b (.SetComp el g sc pos) p=true):False:=by cases p <;> exact nf h
theorem GN (h:aH cx b (.DictComp k v g sc pos) p=true):False:=by cases p <;> exact nf h
theorem K4 (h:aH cx b (.ListComp el g sc pos) p=true):∃Iw tg src At c,p=.comp Iw tg src At c:=by
 cases p <;> first | exact nf h | exact(eH _ _ _ (iee _ _ rfl))
theorem qM (h:aH cx b e p=true) (hc:sM e=false):swapsWith e t l env=dw false:=by
 cases e <;> first | rfl | exact nf hc.symm | exact(K3 h).elim | exact(GN h).elim
theorem sT:∃b,swapsWith (.ListComp el gens sc pos) (some (.Name x px)) l env=dw b:=⟨_,rfl⟩
theorem Pure.toExt (P:Pure s s') (h:∀b,No' b->No b\/s.heap.objs.size<=b):Ext s No s' No' :=
 ⟨⟨λb o _ e=>Pure.keep P b o e,P.step.grow,h⟩,P.gens,P.bare,P.os,P.drawn,Ext.toks P⟩
theorem Ns.obj{h:li}{C:er}{m:Str->Option ag}(n:h.Ns C m):∃o,h.get? C=some o/\∀v,o.data≠.cell v:=by
 refine mX n λo es ep h1 h2 _=>?_;exact(iea o h1 (λv e=>by rw[h2] at e;cases e))
theorem GO{e:PE}{i:Nat}{x:Str}{px pos:Pos}{v:ao}{p:PV}{Q:Dv->ai->Prop}(hE:∀p,EvalP F B p) (hT:∀p,TrueP F B p) (hI:∀p,IterP F B p)
  (R:Room A (nd e+B)) (X:EnvR cx asg env s Na No pe) (hc:aH cx false v e=true) (hv:sM v=true) (hd:aA F e pe=some p) (hi:cx.vars.lookup x=some i) (hx:x∈asg) (htk:cx.tk.contains i=false)
  (Zn:swapsWith v (some (.Name x px)) pos.line env=dw true)
  (hQ:∀s' No',Ext s No s' No'->EnvR cx asg env s' Na No' (st pe i p)->Q .next s'):wpAny (model Pg W0) A (exec (.Assign [.Name x px] v pos) env) Q E s:=by
 refine O (exec_Assign_Name_used _ _ _ _ Zn) ?_;refine eJ (nF hv) λel gens sc cpos aT=>?_;subst aT;refine eJ (K4 hc) λIw tg src At zt=>?_;refine xe zt λc aT=>?_;clear zt;subst aT;refine eJ (zG hc) λel' y py it zt=>?_;refine bI zt λifs sc' cpos' Pa h1 h2 zt=>?_;refine xa zt λh3 h4=>?_;clear zt;cases Pa;refine eA (zI hd) λitems rs d1 d2 aT=>?_;subst aT;clear hc hd hv;refine bh (ij (bh ?_));show wpAny _ _ (do let _ <- comprehension (.ListComp el [⟨.Name y py,it,ifs,0⟩] sc cpos) sc env (firstIterPos [⟨.Name y py,it,ifs,0⟩] cpos) (newList []) false (eval it env) (some (assign (.Name x px) env));dw Gz) _ E s;refine bh (vQ (use:=some (assign (.Name x px) env)) (Q:=λ_ s'=>wpAny (model Pg W0) A (dw Gz) (λ_ s'=>wpAny (model Pg W0) A (dw Dv.next) Q E s') E s') (hE Iw) (hT c) (hI src) R X h1 h2 h3 h4 d1 d2 λacc C s' vs P ha hC Io Th Oz hl hr Ic=>?_);refine xe Ic λmC Zo=>?_;clear Ic;have Kl:=X.low;have X':EnvR cx asg env s' (λb=>Na b\/b=C) (λb=>No b\/(cx.own.contains i=true/\b=acc)) pe:=by
  refine X.grow P (λb q=>.inl q) (λb q=>q.elim .inl λq=>.inr (by exact O q hC)) (λb q=>?_) (λb q=>.inl q) (λb q=>q.elim .inl λq=>.inr (by refine O q.2 ?_;exact ha)) (λb q=>?_) (λb q1 q2=>?_)
  ·rcases q with q | q
   ·exact ac (Kl b (.inl q)) P.step.grow
   ·exact q ▸ Th
  ·rcases q with q | q
   ·exact ac (Kl b (.inr q)) P.step.grow
   ·exact q.2 ▸ Oz
  ·rcases q1 with q1 | ⟨_,q1⟩ <;> rcases q2 with q2 | q2
   ·exact X.disj b q1 q2
   ·exact absurd (Kl b (.inr q1)) (av.mpr (q2 ▸ hC))
   ·exact absurd (Kl b (.inl q2)) (av.mpr (q1 ▸ ha))
   ·exact Io (q1.symm.trans q2)
 have Mp:¬(Na acc\/No acc):=λq=>absurd (Kl acc q) (av.mpr ha);have slot:SlotR cx env s' (λb=>(Na b\/b=C)\/(No b\/(cx.own.contains i=true/\b=acc))) i (.ref acc) (.lst rs):=by
  refine⟨?_,λhk=>by rw[htk] at hk;cases hk⟩
  by_cases ho:cx.own.contains i=true
  ·refine O (if_pos ho) (fK acc rfl (.inr (.inr ⟨ho,rfl⟩)) ?_ (iea vs hl (RVs.weak' (λb q=>?_) hr)))
   ·exact cj (ac (X.base.low _ (.inr X.noL)) ha)
   ·rcases q with (q | q) | (q | q)
    ·exact .inl (.inl q)
    ·exact .inr (.inr q)
    ·exact .inl (.inr q)
    ·exact .inr (.inl q.2)
  ·refine O (if_neg ho) (.lst (λq=>?_) hl (RVs.weak' (λb q=>?_) hr))
   ·rcases q with (q | q) | (q | q)
    ·exact Mp (.inl q)
    ·exact Io q
    ·exact Mp (.inr q)
    ·exact ho q.1
   ·rcases q with (q | q) | (q | q)
    ·exact .inl (.inl q)
    ·exact .inr (.inr q)
    ·exact .inl (.inr q)
    ·exact absurd q.1 ho
 refine wpAny_assign_Name (dC X' hx hi slot (λa ea ho=>?_) (λa ea ho y' j hj X6 hs Rj hb=>?_) λs₂ b0 Lb _ Kh Mn Je Hz=>?_)
 ·cases ea;exact .inr ⟨ho,rfl⟩
 ·cases ea;have:BindAt env s.heap y' (.ref acc):=by
   refine xe (aq.mp hs) λq hq=>?_;exact X.bind_back P hj hq hb
  exact absurd (X.lowO acc (X.turns y' j acc hj Rj hs this)) (av.mpr ha)
 ·have Zp:C≠b0:=by
   intro e;subst e;rcases Lb with Lb | Lb
   ·exact absurd (Kl C (.inr Lb)) (av.mpr hC)
   ·exact Io Lb.2.symm
  have X7:s₂.heap.Ns C mC:=Zo.sameBut Kh Zp;refine(iea mC X7 (λh' Ku=>cu (cu ?_)));refine xea (Ns.obj X7) λoC Zq Zr=>?_;have Ig:EnvR cx asg env {s₂ with heap:=h'} (λb=>Na b\/b=C) (λb=>No b\/(cx.own.contains i=true/\b=acc)) (st pe i (.lst rs)) :=
   Hz.poke (.inr rfl) Zq Zr (λb o hb e=>Ku.extBut b o hb e) (ce Ku.1.symm) (ah _) id
  refine hQ _ (λb=>No b\/(cx.own.contains i=true/\b=acc)) ?_ (Ig.narrow λb q=>.inl q);refine⟨⟨λb o hn e=>?_,?_,λb q=>q.elim .inl λq=>.inr (by exact O q.2 ha)⟩,λg gs e=>?_,λq=>?_,Je.os.trans P.os,Je.drawn.trans P.drawn,aa (Ext.toks P) (show s'.toks<=s₂.toks from Ext.toks Je)⟩
  ·have hb:b<s.heap.objs.size:=dL e;refine Ku.extBut b o (λq=>by rw[q] at hb;exact absurd hb (av.mpr hC)) (Kh.extBut b o (λq=>?_) (Pure.keep P b o e));subst q;rcases Lb with Lb | Lb
   ·exact hn Lb
   ·rw[Lb.2] at hb;exact absurd hb (av.mpr ha)
  ·show s.heap.objs.size<=h'.objs.size;exact O Ku.1 (O Kh.1 P.step.grow)
  ·exact Je.gens g gs (P.gens g gs e)
  ·exact Je.bare (P.bare q)
theorem K5 (h4:aH cx b v e=true) (hv:sM v=true):zJ e=false:=by
 obtain⟨el,gens,sc,cpos,rfl⟩:=nF hv;refine eJ (K4 h4) λIw tg src At zt=>?_;apply xeR zt;intro c;clear zt;rfl
theorem vU (hE:∀p,EvalP F B p) (hT:∀p,TrueP F B p) (hI:∀p,IterP F B p)
  (R:Room A (nd e+B)) (X:EnvR cx asg env s Na No pe) (hc:aH cx false v e=true) (hd:aA F e pe=some p) (hi:cx.vars.lookup x=some i) (hx:x∈asg) (htk:cx.tk.contains i=false\/zJ e=true)
  (plain:swapsWith v (some (.Name x px)) pos.line env=dw false->wpAny (model Pg W0) A (exec (.Assign [.Name x px] v pos) env) Q E s)
  (hQ:∀s' No',Ext s No s' No'->EnvR cx asg env s' Na No' (st pe i p)->Q .next s'):wpAny (model Pg W0) A (exec (.Assign [.Name x px] v pos) env) Q E s:=by
 cases hv:sM v with
 | false=>exact plain (qM hc hv)
 | true =>
  have htk:cx.tk.contains i=false:=htk.resolve_right λq=>nf ((K5 hc hv).symm.trans q);obtain⟨b,hb⟩:∃b,swapsWith v (some (.Name x px)) pos.line env=dw b:=by
   obtain⟨el,gens,sc,cpos,rfl⟩:=nF hv;exact sT
  cases b with
  | false=>exact plain hb
  | true=>exact GO hE hT hI R X hc hv hd hi hx htk hb hQ
theorem n9 (hE:∀p,EvalP F B p) (hT:∀p,TrueP F B p) (hI:∀p,IterP F B p) (i:Nat) (e:PE):ExecP F B (.asg i e):=by
 intro A cx asg env s Na No pe pe' fl Kw Q E htop R X hc hd hQ;apply iC (PY hc);intro x px v pos hi hx h3 h4 h5;obtain⟨p,d1,rfl,rfl⟩:=P7 hd;refine vU hE hT hI R X h4 d1 hi hx h5 (λhs=>?_) λs' No' he X'=>hQ _ _ No' he X' .next;refine wpAny_Assign_Name (hE e R X h4 d1 λu bc dO Hx=>?_) hs;have no:∀{C:Prop},cx.own.contains i=true->C:=λh=>nf (h3.symm.trans h);refine dC (X.pure dO) hx hi ⟨by exact O h3 (Hx.f rfl),λhk y t ey=>?_⟩ (λa ea h=>no h) (λa ea h=>no h) λs₂ b0 _ _ _ _ he Hz=>hQ _ _ No ((dO.toExt λb q=>.inl q).trans he) Hz .next;exact Hx.tok (h5.resolve_left λq=>nf (q.symm.trans hk)) y t ey
theorem EF{bc:ai}{a:er}{x:Str}{i:Nat}(X:EnvR cx asg env s Na No pe) (dO:Pure s bc) (ha:s.heap.objs.size<=a){y:Str}{j:Nat}(hj:cx.vars.lookup y=some j) (hs:(lk pe j).isSome=true) (Rj:cx.own.contains j=true) (hb:BindAt env bc.heap y (.ref a)):False:=by
 refine xe (aq.mp hs) λq hq=>?_;exact absurd (X.lowO a (X.turns y j a hj Rj hs (X.bind_back dO hj hq hb))) (av.mpr ha)
theorem GP (hE:∀p,EvalP F B p) (hT:∀p,TrueP F B p) (hI:∀p,IterP F B p) (i:Nat) (e:PE):ExecP F B (.asgO i e):=by
 intro A cx asg env s Na No pe pe' fl Kw Q E htop R X hc hd hQ;apply iC (KS hc);intro x px v pos hi hx h3 h4 zt;refine xa zt λh5 h6=>?_;clear zt;obtain⟨l,d1,rfl,rfl⟩:=KZ hd;refine vU hE hT hI R X h4 d1 hi hx (.inl h5) (λhs=>?_) λs' No' he X'=>hQ _ _ No' he X' .next;refine wpAny_Assign_Name (hE e R X h4 d1 λu bc dO Hx=>?_) hs;apply iB (Hx.fresh h6 l rfl);intro a vs ha hl hr;have Oz:a<bc.heap.objs.size:=let ⟨n,e⟩:=hl;dL e;refine dC (X.wide (Wider.one dO X.lowO ha Oz)) hx hi ⟨?_,λhk=>nf (h5.symm.trans hk)⟩ (λa' ea h=>by cases ea;exact .inr rfl) (λa' ea h y j hj X6 hs Rj hb=>by cases ea;exact(EF (x:=x) (i:=i) X dO ha hj hs Rj hb).elim) λs₂ b0 _ _ _ _ he Hz=>hQ _ _ _ ((dO.toExt λb q=>q.elim .inl λq=>.inr (by exact O q ha)).trans he) Hz .next;exact O (if_pos h3) (fK a rfl (.inr (.inr rfl)) (cj (ac (X.base.low _ (.inr X.noL)) ha)) (iea vs hl (RVs.weak' (λb q=>q.elim (λq=>.inl (.inl q)) λq=>q.elim (λq=>.inl (.inr q)) .inr) hr)))
end
section
variable{A:dt}{E:Vs}{s:ai}
end
section
variable{F:Fn}{B:Nat}
variable{A:dt}{cx:Cx}{asg:List Str}{env:Env}{s:ai}{Na No:Ap}{pe:PEnv}{E:Vs}
theorem BindAt.load (k:env.scope.kind=.function) (b:BindAt env s.heap x v) (h2:cR x=true) (h:Q v s):wpAny (model Pg W0) A (loadName env x) Q E s:=by
 have hd:(x==("__debug__":Str))=false/\(x==("__classdict__":Str))=false:=by simpa only[cR,ay,dq] using h2
 cases b with
 | loc m h1 h3 h4=>exact wpAny_loadName_local k h1 h3 h4 h
 | cell c h1 h3 h4 =>
  rcases h1 with h1 | h1
  ·exact wpAny_loadName_cell k h1 h3 h4 h
  ·exact wpAny_loadName_free k h1 h3 h4 h hd.2
theorem OwnR.move (r:OwnR h N a p) (k:∀o,h.get? a=some o->h'.get? a=some o) (S:Step h N h' N'):OwnR h' N' a p:=by
 rcases r.cases with ⟨l,vs,rfl,h4,h5⟩ | ⟨l,rfl,Js,Ij,hd,Nq⟩
 ·exact(iea vs (h4.at k) (h5.step S))
 ·refine lD hd λo es ep e q=>?_;exact(o4 Js Ij (gG o es ep (k _ e) q) Nq)
theorem EnvR.mutate (r:EnvR cx asg env s Na No pe) (hi:cx.vars.lookup x=some i) (hown:cx.own.contains i=true) (hb:BindAt env s.heap x (.ref a)) (hp:lk pe i=some p)
  (Kh:sv a s.heap h') (ht:s.toks<=t') (Vt:OwnR h' (λb=>Na b\/No b) a p'):EnvR cx asg env {s with heap:=h',toks:=t'} Na No (st pe i p')/\Ext s No {s with heap:=h',toks:=t'} No/\BindAt env h' x (.ref a):=by
 have Ls:No a:=r.turns x i a hi hown (by refine O hp ?_;rfl) hb;refine xea (r.vars x i p hi hp) λv0 Lb Vu=>?_;have Nh:=Lb.same hb;subst Nh;have Ti:=Vu.1;rw[if_pos hown] at Ti;refine bV Ti λa' ea _ X8 Vv=>?_;clear Ti;cases ea;have hk:∀b o,b≠a->s.heap.get? b=some o->h'.get? b=some o:=λb o hb e=>Kh.extBut b o hb e;have hg:s.heap.objs.size=h'.objs.size:=Kh.1.symm;have S:Step s.heap (λb=>Na b\/No b) h' (λb=>Na b\/No b):=⟨λb o hn e=>hk b o (λq=>hn (.inr (q ▸ Ls))) e,ce hg,λ_ q=>.inl q⟩;have Pp:∀c v,s.heap.IsCell c v->c≠a:=λc v h e=>pV Vv h e.symm;have Np:∀c v,s.heap.IsCell c v->h'.IsCell c v:=λc v h=>let ⟨o,h1,h2⟩:=h;⟨o,hk c o (Pp c v h) h1,h2⟩;have Ic:∀m,s.heap.Ns env.locals m->h'.Ns env.locals m:=λm h=>let ⟨o,es,ep,x,q⟩:=h;⟨o,es,ep,hk _ _ (uc X8) x,q⟩;have hB:∀y v,BindAt env s.heap y v->BindAt env h' y v:=λy v h=>by
  cases h with
  | loc m a b c=>exact .loc m a (Ic m b) c
  | cell c a b d=>exact .cell c a b (Np c _ d)
 have back:∀y j q v,cx.vars.lookup y=some j->lk pe j=some q->BindAt env h' y v->BindAt env s.heap y v:=λy j q v hy hq b=>by
  refine xea (r.vars y j q hy hq) λu hu _=>?_;have:=(hB y u hu).same b;subst this;exact hu
 have lkS:∀j,(lk (st pe i p') j).isSome=true->∃q,lk pe j=some q:=λj h=>by
  refine xe (aq.mp h) λq hq=>?_;rcases r0 hq with ⟨rfl,_⟩ | ⟨_,h2⟩
  ·exact⟨p,hp⟩
  ·exact⟨q,h2⟩
 refine⟨{
  base:={
   keep:=λb o e=>hk b o (λq=>by have:=r.base.above a (.inr Ls);have h2:=dL e;rw[q] at h2;exact absurd h2 (av.mpr this)) (r.base.keep b o e)
   above:=r.base.above
   size:=aa r.base.size (ce hg)
   low:=λb q=>ac (r.base.low b q) (ce hg)
   toks:=ac r.base.toks ht
   bare:=r.base.bare}
  kind:=r.kind
  glb:=r.glb
  blt:=r.blt
  gl:=r.gl
  cl:=λy hy=>let ⟨h1,c,v,h2,h3⟩:=r.cl y hy;⟨h1,c,v,h2,Np c v h3⟩
  ns:=let ⟨m,hm⟩:=r.ns;⟨m,Ic m hm⟩
  noL:=r.noL
  apart:=r.apart
  cellsLow:=λy c h=>ac (r.cellsLow y c h) (ce hg)
  vars:=λy j q h1 h2=>by
   rcases r0 h2 with ⟨rfl,rfl⟩ | ⟨hj,h2⟩
   ·have:y=x:=r.inj y x _ h1 hi;subst this;refine⟨.ref a,hB _ _ hb,?_,λh x t e=>by cases e⟩;exact O (if_pos hown) ⟨a,rfl,.inr Ls,X8,Vt⟩
   ·refine xea (r.vars y j q h1 h2) λv Jf hs=>?_;refine⟨v,hB y v Jf,?_,λh x t e=>⟨(hs.2 h x t e).1,ac (hs.2 h x t e).2 ht⟩⟩;have h3:=hs.1;split
    ·rename_i hc;rw[if_pos hc] at h3;refine bV h3 λa2 e q1 q2 q3=>?_;clear h3;subst e;have Io:a2≠a:=λe=>by
      subst e;exact hj (r.alone y x j i a2 h1 hi (by refine O h2 ?_;rfl) (by refine O hp ?_;rfl) hc hown Jf hb)
     refine⟨a2,rfl,q1,q2,?_⟩;exact q3.move (λo e=>hk _ _ Io e) S
    ·rename_i hc;rw[if_neg hc] at h3;exact h3.step S
  stores:=λy hy=>by
   cases r.stores y hy with
   | loc h=>exact .loc h
   | cell c Jr h1 h2 h3 h4=>exact .cell c Jr h1 h2 h3 (Np c _ h4)
  inj:=r.inj
  alone:=λy z j k b h1 h2 h3 h4 h5 h6 h7 h8=>by
   refine xe (lkS j h3) λq1 e1=>?_;refine xe (lkS k h4) λq2 e2=>?_;exact r.alone y z j k b h1 h2 (by refine O e1 ?_;rfl) (by refine O e2 ?_;rfl) h5 h6 (back y j q1 _ h1 e1 h7) (back z k q2 _ h2 e2 h8)
  disj:=r.disj
  turns:=λy j b h1 h2 h3 h4=>by
   refine xe (lkS j h3) λq1 e1=>?_;exact r.turns y j b h1 h2 (by refine O e1 ?_;rfl) (back y j q1 _ h1 e1 h4)},?_⟩
 exact⟨⟨⟨λb o hn e=>hk b o (λq=>hn (q ▸ Ls)) e,ce hg,λ_ q=>.inl q⟩,λ_ _ e=>e,id,rfl,rfl,ht⟩,hB _ _ hb⟩
theorem GQ (GK:Glo) (i:Nat):ExecP F B (.newD i):=by
 intro A cx asg env s Na No pe pe' fl Kw Q E htop R X hc hd hQ;apply FM (KU hc);intro x px pd pos hi hx h3 h4;obtain⟨rfl,rfl⟩:=bX hd;refine wpAny_Assign_Name (wpAny_Dict_empty ?_);have dO:Pure s {s with heap:=s.heap.push {cls:=.type "dict",data:=.dict #[]}}:=Pure.push s _ (ah _);have Vx:(s.heap.objs.size==sysModules)=false:=beq_false_of_ne (cj (ac GK.big X.base.size));refine dC (X.wide (Wider.one dO X.lowO (ah _) l8)) hx hi ⟨?_,λhk=>nf (h4.symm.trans hk)⟩ (λa' ea h=>by cases ea;exact .inr rfl) (λa' ea h y j hj X6 hs Rj hb=>by cases ea;exact(EF (x:=x) (i:=i) X dO (ah _) hj hs Rj hb).elim) λs₂ b0 _ _ _ _ he Hz=>hQ _ _ _ ((dO.toExt λb q=>q.elim .inl λq=>.inr (ce q.symm)).trans he) Hz .next;exact O (if_pos h3) (fK _ rfl (.inr (.inr rfl)) (cj (X.base.low _ (.inr X.noL))) (o4 Vx ([]) (Hq s.heap) .nil))
theorem GR (ru:RV s.heap N u p) (rv:RT s.heap N v q) (h:wW op p q=some z)
  (hQ:∀zv s₂,Pure s s₂->(∀(h:li) (N:Ap),RV h N zv z)->Q zv s₂):wpAny (model Pg W0) A (inplaceOp op u v) Q E s:=by
 cases op <;> try (exact nn h)
 ·cases p <;> try (exact nn h)
  ·cases q <;> try (exact nn h)
   apply xeR ru.inv;intro t;apply xeR rv.inv;intro t';cases sm h;exact P.iadd_int (hQ _ _ (Pure.toks _) λh N=>.int _ _)
  ·cases q <;> try (exact nn h)
   apply xeR ru.inv;intro t;apply xeR rv.inv;intro t';have h:=aL h;cases sm h.2;refine aU (SB.iadd (λt' k hm=>hQ _ _ (Pure.toks _ hm.2) λh N=>.str _ _) ?_);have:=h.1;clear hQ rv ru;unfold sizeLine;exact fn2 (.x .ko (.P .n2 24)) [.x .ko .kv] h.1
 ·cases p <;> try (exact nn h)
  cases q <;> try (exact nn h)
  apply xeR ru.inv;intro t;apply xeR rv.inv;intro t';cases sm h;exact P.isub_int (hQ _ _ (Pure.toks _) λh N=>.int _ _)
theorem K6 (hE:∀p,EvalP F B p) (i:Nat) (op:iD) (e:PE):ExecP F B (.aug i op e):=by
 intro A cx asg env s Na No pe pe' fl Kw Q E htop R X hc hd hQ;apply iC (PZ hc);intro x px v pos hi hx h3 h4 zt;refine xa zt λh5 h6=>?_;clear zt;obtain⟨p,q,z,d1,d2,hz,rfl,rfl⟩:=P8 hd;refine xea (X.vars x i p hi d1) λu hb hs=>?_;have no:∀{C:Prop},cx.own.contains i=true->C:=λh=>nf (h3.symm.trans h);refine wpAny_AugAssign_Name (hb.load X.kind h5 (hE e R X h6 d2 λv' bc dO Hx=>?_));have ou:=hs.1;rw[if_neg (λq=>no q)] at ou;refine GR (ou.step (dO.stepAt _)) Hx.t hz λzv s₂ iF hr=>?_;exact dC (X.pure (dO.trans iF)) hx hi ⟨by exact O h3 (hr _ _),λhk=>nf (h4.symm.trans hk)⟩ (λa ea h=>no h) (λa ea h=>no h) λiN b0 _ _ _ _ he Ig=>hQ _ _ No ((Pure.toExt (dO.trans iF) λb q=>.inl q).trans he) Ig .next
theorem K7 (hE:∀p,EvalP F B p) (e:PE):ExecP F B (.ret e):=by
 intro A cx asg env s Na No pe pe' fl Kw Q E htop R X hc hd hQ;apply wQ (P5 hc);intro v pos h1;obtain⟨p,d1,rfl,rfl⟩:=QD hd;exact wpAny_Return_some (hE e R X h1 d1 λv bc dO Hx=>hQ _ _ No (dO.toExt λb q=>.inl q) (X.pure dO) (.ret (Hx.a htop)))
theorem K8:ExecP F B .brk:=by
 intro A cx asg env s Na No pe pe' fl Kw Q E htop R X hc hd hQ;refine xe (P6 hc) λpos aT=>?_;subst aT;refine xa (bX hd) λaT Ik=>?_;subst aT;subst Ik;show wpAny _ A (do standAt _;dw Dv.brk) Q E s;exact bh (ij (cu (hQ _ _ No (Ext.refl _ _) X .brk)))
theorem EnvR.ownList (X:EnvR cx asg env s Na No pe) (hi:cx.vars.lookup x=some i) (ho:cx.own.contains i=true) (hp:lk pe i=some (.lst l)) :
  ∃a vs,BindAt env s.heap x (.ref a)/\No a/\a≠env.locals/\s.heap.PlainList a (Ba vs)/\RVs s.heap (λb=>Na b\/No b) vs l:=by
 refine xea (X.vars x i _ hi hp) λv hb hs=>?_;have h1:=hs.1;rw[if_pos ho] at h1;refine bV h1 λa aT _ h3 zt=>?_;refine xea zt λvs h4 h5=>?_;clear zt;subst aT;exact(bW a vs hb (X.turns x i a hi ho (by refine O hp ?_;rfl) hb) h3 ⟨h4,h5⟩)
theorem sU (h:CA cx x i=true):cx.vars.lookup x=some i/\cx.own.contains i=true/\cR x=true :=
 (iaa (eq_of_beq (aB h).1) ((aB (aB h).2).1) ((aB (aB h).2).2))
theorem vV (hs:sv a h h') (hN:N a):Step h N h' N :=
 ⟨λb o hn e=>hs.extBut b o (λq=>hn (q ▸ hN)) e,ce hs.1.symm,λ_ q=>.inl q⟩
theorem vW (X:EnvR cx asg env s Na No pe):interactive env=false:=by
 unfold interactive;refine O X.kind ?_;rfl
theorem KVR.snoc{K:Type}{k:K}{Ij:List (K × ag)}{l:List (K × SV)}(r:KVR Ij l) (h:SVR v a):KVR (Ij++[(k,v)]) (l++[(k,a)]):=by
 induction r with
 | nil=>exact .cons h .nil
 | cons a b ih=>exact .cons a ih
theorem sV{V:Type}:∀{l:List (Int × V)},k∈l.map (·.1)->(l.lookup k).isSome=true
 | (a,b)::l,h=>by
  refine O dk ?_
  by_cases e:k=a
  ·subst e;simp
  ·refine O (show(k==a)=false by simpa using e) ?_;simp only[ak,ax] at h;exact sV (h.resolve_left e)
theorem l9 (h:n<=100000) (e:m=n):m<sizeLine:=by unfold sizeLine;exact fn2 (.y .q (.P .n2 24)) [.x .r .kv,.z1 .q .r] h e
theorem zY (hl:s.heap.PlainList a x):∀q,Bx a=.ref q->∃ob,s.heap.get? q=some ob/\ob.dict=none:=λq e=>by
 cases e;refine xe hl λn e=>?_;exact(iea _ e rfl)
theorem K9 (hE:∀p,EvalP F B p) (i:Nat) (e:PE):ExecP F B (.app i e):=by
 intro A cx asg env s Na No pe pe' fl Kw Q E htop R X hc hd hQ;refine eJ (P0 hc) λx px ap a zt=>?_;apply iB zt;intro k pos h1 h2 zt;refine xa zt λh4 h3=>?_;clear zt;refine xaa (sU h1) λhi ho Tj=>?_;obtain⟨l,y,d1,d2,hlen,rfl,rfl⟩:=P9 hd;refine iT (X.ownList hi ho d1) λad vs hb Ls hL hl hr=>?_;refine wpAny_Expr_any (wpAny_Call_method rfl (by refine O (bL h4) ?_;rfl) h3 qw PySem.F.slot_list_append PySem.F.type_list_append (hb.name X.kind Tj (iaa hl.isList.typeIs (zY hl) ?_))) (vW X) rfl;refine O (bL h4) (nx rfl (ib (fe (hE e R X h2 d2 λv bc dO Hx=>lm ?_))));refine wpAny_list_append_plain (hl.at λo e=>Pure.keep dO _ o e) (λh' Nu Kh=>?_) (by first | exact l9 hlen hr.length | exact da (l9 hlen hr.length));have S:=vV (N:=λb=>Na b\/No b) Kh (.inr Ls);refine xaa ((X.pure dO).mutate hi ho (hb.keeps dO.keep) d1 Kh (ah _) (p':=.lst (l++[y])) (iea (vs++[v]) (by rw[Bc] at Nu;exact Nu) (RVs.append ((hr.step (dO.stepAt _)).step S) (RVs.one ((Hx.f rfl).step S))))) λHz he _=>?_;exact hQ _ _ No ((dO.toExt λb q=>.inl q).trans he) Hz .next
theorem LB (hr:RVs s.heap N vs l) (hq:l.getLast?=some q):∃v,vs[vs.length-1]?=some v/\RV s.heap N v q/\RVs s.heap N vs.dropLast l.dropLast:=by
 rw[List.getLast?_eq_getElem?] at hq;refine xea (hr.get hq) λv hv rv=>?_;refine(gE v (by exact O hr.length hv) rv ?_);exact O xj (O xj (O hr.length (hr.take _)))
theorem LC (j i:Nat):ExecP F B (.pop j i):=by
 intro A cx asg env s Na No pe pe' fl Kw Q E htop R X hc hd hQ;refine eJ (P2 hc) λy py x px zt=>?_;apply fJ zt;intro ap k pos h1 h2 hj zt;refine xaa zt λhy h5 h6=>?_;clear zt;refine xaa (sU h1) λhi ho Tj=>?_;obtain⟨l,q,d1,hq,hlen,rfl,rfl⟩:=QA hd;refine iT (X.ownList hi ho d1) λad vs hb Ls hL hl hr=>?_;refine lC (LB hr hq) λv hv rv Tk=>?_;refine wpAny_Assign_Name (wpAny_Call_method rfl rfl h2 qw PySem.F.slot_list_pop PySem.F.type_list_pop (hb.name X.kind Tj (iaa hl.isList.typeIs (zY hl) (nx rfl (PySem.evalArgs_none ?_)))));refine xe hl λk hk=>?_;clear hl;refine Dw (y:=v) hk (by exact O (mn) hv) (λh' Kh Nq=>?_) (by first | exact l9 hlen hr.length | exact da (l9 hlen hr.length));have S:=vV (N:=λb=>Na b\/No b) Kh (.inr Ls);refine xaa (X.mutate hi ho hb d1 Kh (ah _) (p':=.lst l.dropLast) (iea vs.dropLast ⟨k+1,by refine O Nq ?_;congr 3⟩ (Tk.step S))) λHz he _=>?_;have no:∀{C:Prop},cx.own.contains j=true->C:=λh=>nf (h5.symm.trans h);exact dC Hz hy hj ⟨by exact O h5 (rv.step S),λhk=>nf (h6.symm.trans hk)⟩ (λa ea h=>no h) (λa ea h=>no h) λiN b0 _ _ _ _ Jh Ig=>hQ _ _ No (he.trans Jh) Ig .next
theorem CD{Ij:List (Int × ag)}{l:List (Int × SV)}{k:Int}{v:ag}(La:KVR Ij l) (On:(l.lookup k).isSome=false):stored Ij k v=Ij++[(k,v)]:=by
 unfold stored;rw[if_neg];intro hx;refine xea (vm.mp hx) λq hq e=>?_;have hm:k∈l.map (·.1):=by exact XO La.keys (of_decide_eq_true e ▸ im hq)
 exact nf (On.symm.trans (sV hm))
theorem EG (La:KVR Ij l):Ij.length=l.length:=by
 have:=congrArg fo La.keys
 rwa [dx,dx] at this
theorem GS (hE:∀p,EvalP F B p) (i:Nat) (k v:PE):ExecP F B (.setI i k v):=by
 intro A cx asg env s Na No pe pe' fl Kw Q E htop R X hc hd hQ;refine eJ (KW hc) λx px ke sp zt=>?_;refine cC zt λve pos aT h1 h2 h3=>?_;clear zt;subst aT;refine xaa (sU h1) λhi ho Tj=>?_;refine bI (K1 hd) λl kk vv d1 d2 d3 zt=>?_;refine aP zt λOn hlen aT Ik=>?_;clear zt;subst aT;subst Ik;refine wpAny_Assign_Subscript (hE v R.n2 X h3 d3 λZs bc dO Hx=>?_) (by clear hc hd hQ X R d1 d2 d3 h3;cases ve <;> rfl);have Ie:=X.pure dO;refine xea (Ie.vars x i _ hi d1) λu hb hs=>?_;have h4:=hs.1;rw[if_pos ho] at h4;refine bV h4 λad aT _ hL zt=>?_;refine qK zt λOu Ij Ov La=>?_;clear zt;subst aT;clear h4;refine hb.name X.kind Tj (hE k R.n1 Ie h2 d2 λZt s₂ iF Iu=>?_);refine xe Iu.int λtk aT=>?_;subst aT;refine xe Hx.t.inv λtv aT=>?_;subst aT;refine wpAny_setItem_pairs (intKind_is Pg W0 kk tk) (Ov.keep iF.keep) (λh' Kb Kh=>?_) (by first | exact l9 (aa hlen (by decide)) (EG La) | exact da (l9 (aa hlen (by decide)) (EG La)));rw[CD La On] at Kb;refine xaa ((Ie.pure iF).mutate hi ho (hb.keeps iF.keep) d1 Kh (lj _) (p':=.dcti (l++[(kk,.t vv)])) (o4 Ou _ Kb (La.snoc (.t _ _)))) λIg he hbb=>?_;exact hQ _ _ No ((Pure.toExt (dO.trans iF) λb q=>.inl q).trans he) Ig .next
def ActOK (cx:Cx) (asg:List Str) (env:Env) (act:ag->Sem Unit) (i:Nat):Prop :=
 ∀{A:dt}{s:ai}{Na No:Ap}{pe:PEnv}{E:Vs}{v:ag}{p:PV}{Q:Unit->ai->Prop},EnvR cx asg env s Na No pe->RV s.heap (λb=>Na b\/No b) v p ->
  (∀s',Ext s No s' No->EnvR cx asg env s' Na No (st pe i p)->Q () s')->wpAny (model Pg W0) A (act v) Q E s
theorem vX (h1:cx.vars.lookup x=some i) (h2:x∈asg) (h3:cx.own.contains i=false) (h4:cx.tk.contains i=false)
  (ha:∀{A:dt}{s:ai}{E:Vs}{v:ag}{Q:Unit->ai->Prop},wpAny (model Pg W0) A (storeName env x v) Q E s->wpAny (model Pg W0) A (act v) Q E s):ActOK cx asg env act i:=by
 intro A s Na No pe E v p Q X rv hQ;have no:∀{C:Prop},cx.own.contains i=true->C:=λh=>nf (h3.symm.trans h);exact ha (dC X h2 h1 ⟨by exact O h3 rv,λhk=>nf (h4.symm.trans hk)⟩ (λa ea h=>no h) (λa ea h=>no h) λiN b0 _ _ _ _ he Ig=>hQ _ he Ig)
theorem sW (h:GJ cx asg e i=true):ActOK cx asg env (assign e env) i:=by
 apply iB (sQ h);intro x pos h1 h2 zt;refine xa zt λh3 h4=>?_;exact vX h1 h2 h3 h4 λh=>wpAny_assign_Name h
theorem oA (h:dW (i::ts) l pe=some pe'):∃p ps,l=p::ps/\dW ts ps (st pe i p)=some pe':=by
 cases l with
 | nil=>exact nn h
 | cons p ps=>exact(kC p ps rfl h)
theorem pX (h:dW [] l pe=some pe'):l=[]/\pe'=pe:=by
 cases l with
 | nil=>exact⟨rfl,(sm h).symm⟩
 | cons p ps=>exact nn h
def ActsOK (cx:Cx) (asg:List Str) (env:Env):List (ag->Sem Unit)->List Nat->Prop
 | [],is=>is=[]
 | a::Jm,is=>∃i js,is=i::js/\ActOK cx asg env a i/\ActsOK cx asg env Jm js
theorem ActsOK.get:∀{is:List Nat},Jm.length=is.length->(∀(k:Nat) (a:ag->Sem Unit) (i:Nat),Jm[k]?=some a->is[k]?=some i->ActOK cx asg env a i)->ActsOK cx asg env Jm is:=by
 induction Jm with
 | nil=>exact λ{is} h _=>List.length_eq_zero_iff.mp h.symm
 | cons a Jm ih =>
  intro is hl h;cases is with
  | nil=>cases hl
  | cons i js=>exact(bE i js rfl (h 0 a i rfl rfl) (ih (sr hl) λk b j h1 h2=>h (k+1) b j h1 h2))
theorem LD:∀{is:List Nat}{vs:List ag}{ps:List PV}{s:ai}{pe pe':PEnv},ActsOK cx asg env Jm is->EnvR cx asg env s Na No pe->RVs s.heap (λb=>Na b\/No b) vs ps->dW is ps pe=some pe' ->
  (∀s',Ext s No s' No->EnvR cx asg env s' Na No pe'->Q () s')->wpAny (model Pg W0) A (assignInOrder Jm vs) Q E s:=by
 induction Jm with
 | nil =>
  intro is vs ps s pe pe' ha X r hb hQ;cases ha;refine xa (pX hb) λaT Ik=>?_;subst aT;subst Ik;cases r.inv;exact cu (hQ _ (Ext.refl _ _) X)
 | cons a Jm ih =>
  intro is vs ps s pe pe' ha X r hb hQ;refine eA ha λi js aT h1 h2=>?_;subst aT;clear ha;refine jE (oA hb) λp ps aT hb=>?_;subst aT;refine eA r.inv λv vs aT r1 r2=>?_;subst aT;show wpAny _ A (do holding vs (a v);assignInOrder Jm vs) Q E s;exact bh (wpAny_holding (h1 X r1 λbc Jq Ie=>ih h2 Ie (r2.step (Jq.step.or Na)) hb λs' e' X'=>hQ _ (Jq.trans e') X'))
theorem w7 (hl:Jm.length=is.length) (ha:∀(k:Nat) (a:ag->Sem Unit) (i:Nat),Jm[k]?=some a->is[k]?=some i->ActOK cx asg env a i)
  (X:EnvR cx asg env s Na No pe) (r:RVs s.heap (λb=>Na b\/No b) vs ps) (hb:dW is ps pe=some pe') (hQ:∀s',Ext s No s' No->EnvR cx asg env s' Na No pe'->Q () s'):wpAny (model Pg W0) A (assignInOrder Jm vs) Q E s :=
 LD (.get hl ha) X r hb hQ
theorem nG:∀{es:List ao},kY cx asg es ts=true ->
  (assignEach es env).length=ts.length/\(assignEach es env).findIdx? (·.1)=none/\es.length=ts.length/\∀(k:Nat) (a:ag->Sem Unit) (i:Nat),((assignEach es env).map (·.2))[k]?=some a->ts[k]?=some i->ActOK cx asg env a i:=by
 induction ts with
 | nil =>
  intro es h;cases cK h;exact(cS rfl rfl rfl (λk a i h=>nn h))
 | cons t ts ih =>
  intro es h;refine eA (sR h) λe es aT hn hc=>?_;subst aT;refine jE (sQ hn) λx pos aT _=>?_;subst aT;refine aP (ih hc) λh1 h2 h3 h4=>?_;have he:assignEach (.Name x pos::es) env=(false,assign (.Name x pos) env)::assignEach es env:=rfl;refine(cS (congrArg Bb h1) (by refine O he (O (List.findIdx?_cons) (O h2 ?_));rfl) (congrArg Bb h3) (λk a i ha hi=>?_));cases k with
  | zero=>exact sm ha ▸ sm hi ▸ sW hn
  | succ k=>exact h4 k a i ha hi
theorem sX{vs:List ag}{l:List PV}{h':li}{Q:List ag->ai->Prop}(X:EnvR cx asg env s Na No pe) (he:li.ExtBut s.heap.objs.size s.heap h') (hm:Mono s {s with heap:=h'}) (hr:RVs s.heap (λb=>Na b\/No b) vs l)
  (hQ:∀vs s',Pure s s'->RVs s'.heap (λb=>Na b\/No b) vs l->EnvR cx asg env s' Na No pe->Q vs s'):Q vs {s with heap:=h'}:=by
 have P:Pure s {s with heap:=h'}:=Pure.mk' (t:=s.toks) (λb o e=>he b o (ez (dL e)) e) hm;exact hQ _ _ P (hr.step (P.stepAt _)) (X.pure P)
theorem oB (hh:A.handled=none) (X:EnvR cx asg env s Na No pe) (rv:RV s.heap (λb=>Na b\/No b) v p) (hp:p=.tup l\/p=.lst l) (hn:l.length=n)
  (hQ:∀vs s',Pure s s'->RVs s'.heap (λb=>Na b\/No b) vs l->EnvR cx asg env s' Na No pe->Q vs s'):wpAny (model Pg W0) A (unpackItems v n none) Q E s:=by
 rcases hp with rfl | rfl
 ·apply iB rv.inv;intro a vs _ pa ra;exact XO hn (XO ra.length (aU (wpAny_unpackItems_tuple hh pa.isTuple λh' he hm=>sX X he hm ra hQ)))
 ·apply iB rv.inv;intro a vs _ pa ra;exact XO hn (XO ra.length (aU (kun_itemsOf hh pa.isList λh' he hm=>sX X he hm ra hQ)))
theorem i5:∀{l:List PV}{pe pe':PEnv},dW ts l pe=some pe'->l.length=ts.length:=by
 induction ts with
 | nil=>exact λh=>(pX h).1 ▸ rfl
 | cons t ts ih=>exact λh=>by apply wQ (oA h);intro p ps h;exact congrArg Bb (ih h)
theorem sY (h:fC ts p pe=some pe') (h2:2<=ts.length):∃l,(p=.tup l\/p=.lst l)/\dW ts l pe=some pe':=by
 cases ts with
 | nil=>cases h2
 | cons i ts=>cases ts with
  | nil=>exact absurd (wf h2) (xz 0)
  | cons j ts=>cases p <;> first | exact nn h | exact(iea _ (.inl rfl) h) | exact(iea _ (.inr rfl) h)
theorem s5 (hh:A.handled=none) (X:EnvR cx asg env s Na No pe) (hc:kY cx asg es ts=true) (h2:2<=ts.length)
  (rv:RV s.heap (λb=>Na b\/No b) v p) (hb:fC ts p pe=some pe') (hQ:∀s',Ext s No s' No->EnvR cx asg env s' Na No pe'->Q () s'):wpAny (model Pg W0) A (assign (.Tuple es k tp) env v) Q E s:=by
 refine xea (sY hb h2) λl hp Jf=>?_;refine aP (nG (env:=env) hc) λh1 Ml h3 h4=>?_;refine O (tw ..) (bh (ij ?_));unfold unpack;refine O h1 (O Ml (bh (wpAny_holding (oB hh X rv hp (i5 Jf) λvs bc dO Ly Ie=>?_))));exact w7 (by simp[h1]) h4 Ie Ly Jf λs' e' X'=>hQ _ ((dO.toExt λb q=>.inl q).trans e') X'
theorem s6 (hh:A.handled=none) (X:EnvR cx asg env s Na No pe) (hc:nZ cx asg tgt ts=true)
  (rv:RV s.heap (λb=>Na b\/No b) v p) (hb:fC ts p pe=some pe') (hQ:∀s',Ext s No s' No->EnvR cx asg env s' Na No pe'->Q () s'):wpAny (model Pg W0) A (assign tgt env v) Q E s:=by
 rcases sS hc with ⟨i,rfl,h1⟩ | ⟨es,k,tp,rfl,h1,h2,h3⟩
 ·cases sm hb;exact sW h1 X rv hQ
 ·exact s5 hh X h1 h2 rv hb hQ
end
section
variable{A:dt}{E:Vs}{s:ai}{R:Ce->ai->Prop}
theorem s7 (I:Nat->ai->Prop)
  (turn:∀n s,I n s->∀E',wpAny (model Pg W0) A (pyNext it) (λr bc=>match r with
   | none=>R (.ok .next) bc
   | some v=>wpAny (model Pg W0) A (letOwnedTupleGo target it v) (λ_ Jn=>wpAny (model Pg W0) A (assign target env v) (λ_ s₂ =>
     wpAny (model Pg W0) A (execs body env) (λf iN=>match f with
      | .next | .cont=>∃m,m<n/\I m iN
      | .brk=>R (.ok .next) iN
      | .ret v=>R (.ok (.ret v)) iN) E' s₂) E' Jn) E' bc) E' s)
  (n:Nat) (h:I n s):codeAny (model Pg W0) A (.forLoop target it body [] env) R s:=by
 refine codeAny_loop' rfl I (λn s hI=>?_) n h;show wpAny _ _ ((forTurn target it body [] env).onRaise (λx=>do noteFrame x env;theTreesLotGoes x)) _ _ s;refine wpAny_noted ?_
 dsimp only[forTurn]
 refine bh (ij (bh (wpAny_onRaise (lq (turn n s hI _) (λr bc Ib=>?_) λ_ _ h'=>ij h'))));cases r with
 | none=>exact cu (.inr ⟨rfl,codeAny_block (wpAny_execs_nil Ib)⟩)
 | some v =>
  refine bh (lq Ib (λ_ Jn Oa=>?_) λ_ _ h'=>h');refine bh (lq Oa (λ_ s₂ Km=>bh (lq Km (λf iN Mw=>?_) λ_ _ h'=>h')) λ_ _ h'=>h');cases f with
  | next=>exact cu (.inl ⟨rfl,Mw⟩)
  | cont=>exact cu (.inl ⟨rfl,Mw⟩)
  | brk=>exact cu Mw
  | ret v=>exact cu Mw
theorem pY (ho:s.heap.get? I=some o) (hc:o.cls=.type n) (hn:vN n=false) (h:Q () s) :
  wpAny (model Pg W0) A (letOwnedTupleGo target (.ref I) v) Q E s:=by
 have key:wpAny (model Pg W0) A (do
   let (.ref r,.ref a):=((.ref I:ag),v) | return
   let o <- load r
   match o.cls,o.data with
   | .type n,.fields vs =>
    if ["enumerate","zip","dict_itemiterator","dict_reverseitemiterator","odict_iterator","itertools.zip_longest","itertools.pairwise"].contains n&&vs[0]?==some (rawInt a) then
     rule "for.unpacks-the-owned-tuple"
     updateField r 0 .none
   | _,_=>pure ():Sem Unit) Q E s:=by
  cases v with
  | ref a =>
   refine bh (wpAny_load ho ?_);refine O hc ?_;cases o.data with
   | fields vs =>
    refine(congrArg (λm:Sem Unit=>wpAny (model Pg W0) A m Q E s) (if_neg ?_)).mpr (cu h);exact O (show List.contains _ n=false from hn) qf
   | _=>exact cu h
  | _=>exact cu h
 cases target with
 | Tuple _ _ _=>exact key
 | List _ _=>exact key
 | _=>exact cu h
end
section
variable{F:Fn}{B:Nat}
variable{A:dt}{cx:Cx}{asg:List Str}{env:Env}{s:ai}{Na No:Ap}{pe:PEnv}{E:Vs}
theorem LF (hT:∀p,TrueP F B p) (ha:ExecsP F B a) (hb:ExecsP F B b):ExecP F B (.ite t a b):=by
 intro A cx asg env s Na No pe pe' fl Kw Q E htop R X hc hd hQ;have R':Room A (max (nd t) (max (nss a) (nss b))+B):=R.le (bn (lj _) _);apply jN (KY hc);intro te bs os pos h1 h2 h3;rcases K2 hd with ⟨d1,d2⟩ | ⟨d1,d2⟩
 ·exact wpAny_If (hT t R'.m1 X h1 d1 λbc dO=>ha htop R'.m2 (X.pure dO) h2 d2 λf s' No' e' X' hf=>hQ f s' No' ((dO.toExt λb q=>.inl q).trans e') X' hf)
 ·exact wpAny_If (hT t R'.m1 X h1 d1 λbc dO=>hb htop R'.m3 (X.pure dO) h3 d2 λf s' No' e' X' hf=>hQ f s' No' ((dO.toExt λb q=>.inl q).trans e') X' hf)
theorem FlR.next_inv (r:FlR h N .next f):f=.next:=by cases r;rfl
theorem FlR.brk_inv (r:FlR h N .brk f):f=.brk:=by cases r;rfl
theorem FlR.ret_inv (r:FlR h N (.ret p) f):∃v,f=.ret v/\RV h N v p:=by cases r with | ret h=>exact(iea _ rfl h)
theorem CE (hT:∀p,TrueP F B p){k:Nat}{t:PE}{a:PSs}{te:ao}{bs:List ig}{pe':PEnv}{fl:Fl}{Q:Dv->ai->Prop}{I:Nat->ai->Prop}(ha:ExecsP F B a) (htop:cx.top=true) (R1:Room A (nd t+B)) (R2:Room A (nss a+B)) (X:EnvR cx asg env s Na No pe)
  (h1:aH cx true te t=true) (h2:fN cx asg bs a=true) (hw:eX (aA F t) (aE F a) (k+1) pe=some (pe',fl)) (hQ:∀f s' No',Ext s No s' No'->EnvR cx asg env s' Na No' pe'->FlR s'.heap Na fl f->Q f s')
  (hI:∀s' No' It,Ext s No s' No'->EnvR cx asg env s' Na No' It->eX (aA F t) (aE F a) k It=some (pe',fl)->I k s') :
  wpAny (model Pg W0) A (isTrue te env (eval te env)) (λb bc=>if b=true then wpAny (model Pg W0) A (execs bs env) (λf s₂=>match f with
   | .next | .cont=>∃m,m<k+1/\I m s₂
   | .brk=>Q .next s₂
   | .ret v=>Q (.ret v) s₂) E bc else wpAny (model Pg W0) A (execs [] env) Q E bc) E s:=by
 rcases zX hw with ⟨d1,rfl,rfl⟩ | ⟨d1,Ia,f2,d2,h⟩
 ·exact hT t R1 X h1 d1 λs₂ iF=>wpAny_execs_nil (hQ _ _ No (iF.toExt λb q=>.inl q) (X.pure iF) .next)
 ·refine hT t R1 X h1 d1 λs₂ iF=>?_;have Jt:Ext s No s₂ No:=Pure.toExt iF λb q=>.inl q;rcases h with ⟨rfl,h⟩ | ⟨rfl,rfl,rfl⟩ | ⟨v,rfl,rfl,rfl⟩
  ·refine ha htop R2 (X.pure iF) h2 d2 λf iN Le Lz Ig hf=>?_;cases hf.next_inv;exact(iea k (dh _) (hI iN Le Ia (Jt.trans Lz) Ig h))
  ·refine ha htop R2 (X.pure iF) h2 d2 λf iN Le Lz Ig hf=>?_;cases hf.brk_inv;exact hQ _ _ Le (Jt.trans Lz) Ig .next
  ·refine ha htop R2 (X.pure iF) h2 d2 λf iN Le Lz Ig hf=>?_;apply xer hf.ret_inv;intro v hr;exact hQ _ _ Le (Jt.trans Lz) Ig (.ret hr)
theorem CF (hT:∀p,TrueP F B p){n:Nat}{t:PE}{a:PSs}(ha:ExecsP F B a):ExecP F B (.while n t a):=by
 intro A cx asg env s Na No pe pe' fl Kw Q E htop R X hc hd hQ;have R':Room A (max (nd t) (nss a)+B):=R.le (bn (lj _) _);apply kB (GM hc);intro te bs pos h1 h2;refine wpAny_While (codeAny_whileLoop (λk s'=>∃Do BY,Ext s No s' BY/\EnvR cx asg env s' Na BY Do/\eX (aA F t) (aE F a) k Do=some (pe',fl)) ?_ n (bE pe No (Ext.refl _ _) X hd))
 rintro k s' ⟨Do,BY,Jq,Ie,hw⟩
 cases k with
 | zero=>exact nn hw
 | succ k=>exact CE hT ha htop R'.n1 R'.n2 Ie h1 h2 hw (λf s₂ ID Jt Hz hf=>hQ f s₂ ID (Jq.trans Jt) Hz hf) λs₂ ID It Jt Hz hw=>(bE It ID (Jq.trans Jt) Hz hw)
theorem GT:ExecsP F B .nil:=by
 intro A cx asg env s Na No pe pe' fl Kw Q E htop R X hc hd hQ;cases cK hc;refine xa (bX hd) λaT Ik=>?_;subst aT;subst Ik;exact wpAny_execs_nil (hQ _ _ No (Ext.refl _ _) X .next)
theorem CG (hp:ExecP F B p) (Zu:ExecsP F B ps):ExecsP F B (.cons p ps):=by
 intro A cx asg env s Na No pe pe' fl Kw Q E htop R X hc hd hQ;apply dP (CB hc);intro st ss h1 h2;refine jE (CC hd) λDo f1 d1 h=>?_;refine wpAny_execs_cons (hp htop R.n1 X h1 d1 λf bc BY Jq Ie hf=>?_);rcases h with ⟨rfl,d2⟩ | ⟨rfl,rfl,Io⟩
 ·cases hf.next_inv;exact Zu htop R.n2 Ie h2 d2 λf s₂ ID Jt Hz hf=>hQ _ _ ID (Jq.trans Jt) Hz hf
 ·cases f1 with
  | next=>exact absurd rfl Io
  | brk=>cases hf.brk_inv;exact hQ _ _ BY Jq Ie .brk
  | ret v=>apply xer hf.ret_inv;intro u hr;exact hQ _ _ BY Jq Ie (.ret hr)
structure ForC (F:Fn) (B:Nat) (A:dt) (cx:Cx) (asg:List Str) (env:Env) (Na:Ap) (By:ai) (ts:List Nat) (a:PSs) (tgt:ao) (bs:List ig) (I:er) (items:List PV) (fp:List er) (P:Nat->ag->Prop) (St:Nat->li->Prop):Prop where
 ha:ExecsP F B a
 htop:cx.top=true
 R:Room A (nss a+B)
 h1:nZ cx asg tgt ts=true
 h3:fN cx asg bs a=true
 W:Hh Pg W0 A I fp [I] items.length P St
 hcI:∀i h,St i h->∃o,h.get? I=some o/\(∀v,o.data≠.cell v)/\∃n,o.cls=.type n/\vN n=false
 hI:By.heap.objs.size<=I
structure ForS (cx:Cx) (asg:List Str) (env:Env) (Na:Ap) (By:ai) (IF:Ap) (I:er) (items:List PV) (fp:List er) (P:Nat->ag->Prop) (s:ai) (No:Ap) (pe:PEnv):Prop where
 e:Ext By IF s No
 X:EnvR cx asg env s (λb=>Na b\/b=I) No pe
 fp:∀b∈fp,b=I\/¬(Na b\/No b)/\b<s.heap.objs.size
 P:∀j v,j<items.length->P j v->∃p,items[j]?=some p/\RV s.heap (λb=>(Na b\/b=I)\/No b) v p
section
variable{By:ai}{IF:Ap}{ts:List Nat}{a:PSs}{tgt:ao}{bs:List ig}{I:er}{items:List PV}{fp:List er}{P:Nat->ag->Prop}{St:Nat->li->Prop}
theorem ForS.poke (K:ForC F B A cx asg env Na By ts a tgt bs I items fp P St) (S:ForS cx asg env Na By IF I items fp P s No pe) (st:St k s.heap) (Kc:∀b o,b∉[I]->s.heap.get? b=some o->h'.get? b=some o) (hm:Mono s {s with heap:=h',toks:=tk}) :
  ForS cx asg env Na By IF I items fp P {s with heap:=h',toks:=tk} No pe:=by
 refine lC (K.hcI _ _ st) λo ho Zv _=>?_;have T:Step s.heap (λb=>(Na b\/b=I)\/No b) h' (λb=>(Na b\/b=I)\/No b):=⟨λb o hn e=>Kc b o (λq=>hn (.inl (.inr (cf.mp q)))) e,hm.1,λ_ q=>.inl q⟩;refine⟨⟨⟨λb o hn e=>Kc b o (λq=>?_) (S.e.step.keep b o hn e),aa S.e.step.grow hm.1,S.e.step.new⟩,S.e.gens,S.e.bare,S.e.os,S.e.drawn,aa (Ext.toks S.e) hm.2⟩,S.X.poke (.inr rfl) ho Zv (λb o hb e=>Kc b o (λq=>hb (cf.mp q)) e) hm.1 hm.2 id,
  λb hb=>(S.fp b hb).imp id λq=>⟨q.1,ac q.2 hm.1⟩,λj v hj hv=>let ⟨p,q1,q2⟩:=S.P j v hj hv;⟨p,q1,q2.step T⟩⟩
 have h5:=dL e;rw[cf.mp q] at h5;exact av.mpr K.hI h5
theorem ForS.step (S:ForS cx asg env Na By IF I items fp P s No pe) (e:Ext s No s' No') (X:EnvR cx asg env s' (λb=>Na b\/b=I) No' pe'):ForS cx asg env Na By IF I items fp P s' No' pe':=by
 refine⟨S.e.trans e,X,λb hb=>(S.fp b hb).imp id λq=>⟨λq'=>?_,ac q.2 e.step.grow⟩,λj v hj hv=>let ⟨p,q1,q2⟩:=S.P j v hj hv;⟨p,q1,q2.step (e.step.or (λb=>Na b\/b=I))⟩⟩;rcases q' with q' | q'
 ·exact q.1 (.inl q')
 ·rcases e.step.new b q' with q'' | q''
  ·exact q.1 (.inr q'')
  ·exact absurd q.2 (av.mpr q'')
theorem ForS.frame (K:ForC F B A cx asg env Na By ts a tgt bs I items fp P St) (S:ForS cx asg env Na By IF I items fp P s No pe) (st:St k s.heap) (e:Ext s No s' No'):St k s'.heap :=
 K.W.frame _ _ _ st λb hb o h=>e.step.keep b o (λq=>by
  rcases S.fp b hb with rfl | ⟨q1,_⟩
  ·exact S.X.disj _ q (.inr rfl)
  ·exact q1 (.inr q)) h
theorem LG{k:Nat}{v:ag}{pe':PEnv}{fl:Fl}{Q:Dv->ai->Prop}{J:Nat->ai->Prop}{n:Nat}(hh:A.handled=none) (K:ForC F B A cx asg env Na By ts a tgt bs I items fp P St) (S:ForS cx asg env Na By IF I items fp P s No pe) (Im:k<items.length) (st:St (k+1) s.heap) (hv:P k v)
  (hf:dD (aE F a) ts (items.drop k) pe=some (pe',fl)) (hQ:∀f s' No',Ext By IF s' No'->EnvR cx asg env s' (λb=>Na b\/b=I) No' pe'->FlR s'.heap (λb=>Na b\/b=I) fl f->Q f s')
  (hJ:∀s' No' It,ForS cx asg env Na By IF I items fp P s' No' It->St (k+1) s'.heap->dD (aE F a) ts (items.drop (k+1)) It=some (pe',fl)->∃m,m<n/\J m s') :
  wpAny (model Pg W0) A (letOwnedTupleGo tgt (.ref I) v) (λ_ Jn=>wpAny (model Pg W0) A (assign tgt env v) (λ_ s₂=>wpAny (model Pg W0) A (execs bs env) (λf iN=>match f with
   | .next | .cont=>∃m,m<n/\J m iN
   | .brk=>Q .next iN
   | .ret v=>Q (.ret v) iN) E s₂) E Jn) E s:=by
 refine xea (S.P k v Im hv) λp hp Nw=>?_;rw[pC hp] at hf;refine mX (vT hf) λJk Ia f2 hb d2 h=>?_;refine lC (K.hcI _ _ st) λo ho _ zt=>?_;refine xea zt λnm Zw Vy=>?_;clear zt;refine pY ho Zw Vy (s6 hh S.X K.h1 Nw hb λs₄ Tl Ix=>?_);have Pb:=S.step Tl Ix;have Mq:=S.frame K st Tl;rcases h with ⟨rfl,h⟩ | ⟨rfl,rfl,rfl⟩ | ⟨v,rfl,rfl,rfl⟩
 ·refine K.ha K.htop K.R Ix K.h3 d2 λf Ih Kd Lf Iq hf=>?_;cases hf.next_inv;exact hJ Ih Kd Ia (Pb.step Lf Iq) (Pb.frame K Mq Lf) h
 ·refine K.ha K.htop K.R Ix K.h3 d2 λf Ih Kd Lf Iq hf=>?_;cases hf.brk_inv;exact hQ _ _ Kd (Pb.step Lf Iq).e Iq .next
 ·refine K.ha K.htop K.R Ix K.h3 d2 λf Ih Kd Lf Iq hf=>?_;apply xer hf.ret_inv;intro v hr;exact hQ _ _ Kd (Pb.step Lf Iq).e Iq (.ret hr)
theorem LI{pe':PEnv}{fl:Fl}{RR:Ce->ai->Prop}(hh:A.handled=none) (K:ForC F B A cx asg env Na By ts a tgt bs I items fp P St) (S:ForS cx asg env Na By IF I items fp P s No pe) (st:St 0 s.heap) (hf:dD (aE F a) ts items pe=some (pe',fl))
  (hQ:∀f s' No',Ext By IF s' No'->EnvR cx asg env s' (λb=>Na b\/b=I) No' pe'->FlR s'.heap (λb=>Na b\/b=I) fl f->RR (.ok f) s') :
  codeAny (model Pg W0) A (.forLoop tgt (.ref I) bs [] env) RR s:=by
 refine s7 (λn s'=>∃k Do BY,k<=items.length/\n=items.length-k/\ForS cx asg env Na By IF I items fp P s' BY Do/\St k s'.heap/\dD (aE F a) ts (items.drop k) Do=some (pe',fl)) ?_ items.length (dF 0 pe No (iq _) rfl S st hf)
 rintro n s' ⟨k,Do,BY,hk,rfl,Ka,Jy,hf⟩ E'
 rcases ot k items.length with Im | Vp
 ·exact aU (K.W.item k s' _ _ Im Jy λv h' tk hv Nx Kc hm=>LG (Q:=λf s=>RR (.ok f) s) hh K (Ka.poke K Jy Kc hm) Im Nx hv hf hQ λIh Kd It Vz Ob hf=>(iea (items.length-(k+1)) (pn Im (dh k)) (dF (k+1) It Kd Im rfl Vz Ob hf)))
 ·cases az hk Vp;rw[vf] at hf;refine xa (bX hf) λaT Ik=>?_;subst aT;subst Ik;refine aU (K.W.done s' _ _ Jy λh' tk Kc hm=>?_);have Mz:=Ka.poke K Jy Kc hm;exact hQ _ _ BY Mz.e Mz.X .next
end
theorem FlR.narrow (r:FlR h N' fl f) (hn:∀b,N b->N' b):FlR h N fl f:=by
 cases r with
 | next=>exact .next
 | brk=>exact .brk
 | ret hr=>exact .ret (hr.weak' hn)
theorem LJ (hI:∀p,IterP F B p) (ha:ExecsP F B a):ExecP F B (.for ts src a):=by
 intro A cx asg env s Na No pe pe' fl Kw Q E htop R X hc hd hQ;have R':Room A (max (ndi src) (nss a)+B):=R.le (bn (lj _) _);apply jN (P3 hc);intro tgt it bs pos h1 h2 h3;refine xea (QB hd) λitems d1 hf=>?_;refine wpAny_For (hI src R'.n1 X h2 d1 λI s₂ iF Oy Nz hlen hit=>?_) (ED h2);refine bI hit λfp P St W Kv hcI zt=>?_;refine xa zt λhfp hP=>?_;clear zt;clear hit;have Hz:EnvR cx asg env s₂ (λb=>Na b\/b=I) No pe :=
  X.wideA iF (λb q=>.inl q) (λb q=>q.elim .inl λq=>.inr (q ▸ Oy)) λb q=>q.elim (λq=>ac (X.low b (.inl q)) iF.step.grow) λq=>q ▸ Nz
 exact LI R.hh ⟨ha,htop,R'.n2,h1,h3,W A R.hh,hcI,Oy⟩ ⟨iF.toExt λb q=>.inl q,Hz,hfp,λj v hj hv=>let ⟨p,q1,q2⟩:=hP j v hj hv;⟨p,q1,q2.weak' λb q=>q.elim (λq=>q.elim (λq=>.inl (.inl q)) .inr) λq=>.inl (.inr q)⟩⟩ Kv hf
  λf s' No' e' X' hf=>hQ f s' No' e' (X'.narrow λb q=>.inl q) (hf.narrow λb q=>.inl q)
def s8 (e:ao):Option Str:=lH e
theorem s9{f:ao->Option Str}(hf:∀e x,f e=some x->s8 e=some x){es:List ao}(h:(es.filterMap f).length=es.length):es.map s8=(es.filterMap f).map some:=by
 induction es with
 | nil=>rfl
 | cons e es ih =>
  rw[ex] at h ⊢;cases hx:f e with
  | none =>
   rw[hx] at h;exact absurd (ce h.symm) (Nat.not_le_of_gt (Nat.lt_succ_of_le (pr f es)))
  | some x =>
   rw[hx] at h;exact O ak (O (hf e x hx) (O ak (O (ih (sr h)) rfl)))
def Sw (es:List ao) (m:Sem (Option (List Str))):Prop:=m=dw none\/∃names,m=dw (some names)/\es.map s8=names.map some/\(es.length=2\/es.length=3)
theorem tA{c:Prop}[Decidable c] (h1:c->Sw es a) (h2:¬c->Sw es b):Sw es (if c then a else b):=by
 by_cases h:c
 ·exact O (if_pos h) (h1 h)
 ·exact O (if_neg h) (h2 h)
theorem oD:Sw es (dw none):=.inl rfl
theorem CH (e:ao) (x:Str) (h:(match e with | .Name id pos=>if (env.kindOf id==some .local&&pos.line==l)=true then some id else none | _=>none)=some x):s8 e=some x:=by
 cases e with
 | Name id pos=>exact(aL h).2
 | _=>exact nn h
theorem T4{a b:Nat}{c d e:Bool}(h:¬((!(a==2||a==3)||d)||e)=true):a=2\/a=3:=by
 by_cases h2:a=2
 ·exact .inl h2
 ·by_cases h3:a=3
  ·exact .inr h3
  ·exact absurd (by simp[h2,h3]) h
theorem uT{es:List ao}{k:Nat}{p:Pos}{v:ao}(ho:qU v=true):Sw es (swappedStores [.Tuple es k p] v env):=by
 by_cases hv:v.ctorIdx=25
 ·refine pz (motive_1:=λv=>qU v=true->Sw es (swappedStores [.Tuple es k p] v env)) v hv (λvs a b ho=>?_) ho;have ho:(vs.all (foldedForSure 8)||!vs.all (constantsAlone 8))=true:=ho;refine tA (λ_=>oD) λh1=>?_;refine tA (λ_=>oD) λ_=>?_;refine tA (λ_=>oD) λh3=>?_;refine tA (λ_=>oD) λh4=>?_;refine tA (λh5=>?_) λ_=>.inr ?_
  ·exfalso;rcases ph.mp ho with ho | ho
   ·exact h4 ho
   ·rw[kZ ho] at h5;exact nf h5
  ·refine(gE _ rfl (s9 CH ?_) (T4 (b:=0) (c:=true) h1));exact Gl λe=>h3 (ph.mpr (.inl (bne_iff_ne.mpr e)))
 ·clear ho;cases v <;> first | exact oD | exact absurd rfl hv
theorem qV (h:i≠j):∀{pe:PEnv},st (st pe i p) j q=st (st pe j q) i p:=by
 induction i generalizing j with
 | zero =>
  intro pe;cases pe with
  | nil=>rfl
  | cons a l =>
   cases j with
   | zero=>exact absurd rfl h
   | succ j=>rfl
 | succ i ih =>
  intro pe;cases pe with
  | nil=>rfl
  | cons a l =>
   cases j with
   | zero=>rfl
   | succ j=>dsimp only[zB,aY,aZ];exact O (ih (by lia)) rfl
theorem T5{α:Type}{l:List α}(h:l.length=2):∃a b,l=[a,b]:=by
 cases l with
 | nil=>cases h
 | cons a l=>cases l with
  | nil=>cases h
  | cons b l=>cases l with
   | nil=>exact(iee a b rfl)
   | cons=>cases h
theorem V3{α:Type}{l:List α}(h:l.length=3):∃a b c,l=[a,b,c]:=by
 cases l with
 | nil=>cases h
 | cons a l=>apply IE (T5 (sr h));intro b c;exact(eH a b c rfl)
theorem i6 (h:jH (i::l)=true) (hj:j∈l):j≠i:=λe=>by
 have:=kZ (aB h).1;rw[qx.mpr (e ▸ hj)] at this;exact nf this.symm
theorem zZ (hn:jH ts=true) (hl:ts.length=2\/ts.length=3) (h:dW ts l pe=some pe'):dW ts.reverse l.reverse pe=some pe':=by
 have Sn:=i5 h;rcases hl with h2 | h3
 ·rw[h2] at Sn;refine xee (T5 Sn) λp q aT=>?_;subst aT;refine xee (T5 h2) λi j aT=>?_;subst aT;cases sm h;exact congrArg some (qV (i6 hn aj))
 ·rw[h3] at Sn;refine gB (V3 Sn) λp q r aT=>?_;subst aT;refine gB (V3 h3) λi j k aT=>?_;subst aT;cases sm h;have h1:=i6 hn (aj (a:=j));have h2:=i6 hn (en j (aj (a:=k)));have h3:=i6 (aB hn).2 (aj (a:=k));show some (st (st (st pe k r) j q) i p)=some (st (st (st pe i p) j q) k r);exact O (qV h3) (O (qV h2) (O (qV (i:=j) (j:=i) h1) rfl))
theorem z4:∀{es:List ao}{names:List Str},kY cx asg es ts=true->es.map s8=names.map some->names.length=ts.length/\∀(k:Nat) (n:Str) (i:Nat),names[k]?=some n->ts[k]?=some i->ActOK cx asg env (bindName env n) i:=by
 induction ts with
 | nil =>
  intro es names hc h;cases cK hc;cases names with
  | nil=>exact⟨rfl,λk n i h=>nn h⟩
  | cons=>cases h
 | cons t ts ih =>
  intro es names hc h;obtain⟨e,es,rfl,hn,hc⟩:=sR hc;cases names with
  | nil=>cases h
  | cons n names =>
   obtain⟨h0,h'⟩:=Hw h;obtain⟨h1,h2⟩:=ih hc h';refine⟨congrArg Bb h1,λk m i hm hi=>?_⟩;cases k with
   | zero =>
    cases sm hm;cases sm hi;obtain⟨x,pos,rfl,q1,q2,q3,q4⟩:=sQ hn;have e:x=n:=sm h0;subst e;intro A' s' Na' No' pe' E' v' p' Q' X' r' Zx;exact vX (act:=bindName env x) q1 q2 q3 q4 (λh=>wpAny_bindName h) X' r' Zx
   | succ k=>exact h2 k m i hm hi
theorem mQ:swapsWithSole [.Tuple es k tp] v l env=dw false:=by
 delta swapsWithSole
 cases v <;> rfl
theorem z5 (h:nZ cx asg (.Tuple es k tp) ts=true) (h2:2<=ts.length):kY cx asg es ts=true/\jH ts=true:=by
 rcases sS h with ⟨i,rfl,_⟩ | ⟨es',k',p',e,h1,_,h3⟩
 ·exact absurd (wf h2) (xz 0)
 ·cases e;exact⟨h1,h3⟩
theorem LK{names:List Str}{ts:List Nat}(On:names.length=ts.length) (h:∀(k:Nat) (n:Str) (i:Nat),names[k]?=some n->ts[k]?=some i->ActOK cx asg env (bindName env n) i) (m:Nat) (a:ag->Sem Unit) (i:Nat) (ha:(names.reverse.map (bindName env))[m]?=some a) (hi:ts.reverse[m]?=some i):ActOK cx asg env a i:=by
 rw[dp] at ha;apply gW (bj.mp ha);intro n hn;have Oo:m<ts.length:=by
  have:=(de.mp hi).1
  rwa [si] at this
 rw[xk (by exact O On Oo),On] at hn;rw[xk Oo] at hi;exact @h _ n i hn hi
theorem GU (hE:∀p,EvalP F B p) (ts:List Nat) (e:PE):ExecP F B (.asgT ts e):=by
 intro A cx asg env s Na No pe pe' fl Kw Q E htop R X hc hd hQ;refine eJ (KV hc) λes k tp v zt=>?_;apply R5 zt;intro pos h1 h2 zt;refine xa zt λh3 h4=>?_;clear zt;obtain⟨p,d1,hb,rfl⟩:=K0 hd;have Ic:=z5 h1 h2;rcases uT (env:=env) (es:=es) (k:=k) (p:=tp) h4 with hw | ⟨names,hw,Rk,hlen⟩
 ·refine Eo (hE e R X h3 d1 λu bc dO Hx=>?_) mQ hw;exact s5 R.hh (X.pure dO) Ic.1 h2 (Hx.f rfl) hb λs₂ Jt Hz=>hQ _ _ No ((dO.toExt λb q=>.inl q).trans Jt) Hz .next
 ·refine xea (sY hb h2) λl hp Jf=>?_;refine xa (z4 (env:=env) Ic.1 Rk) λOn Tm=>?_;have So:es.length=ts.length:=(nG (env:=env) Ic.1).2.2.1;refine An (hE e R X h3 d1 λu bc dO Hx=>oB R.hh (X.pure dO) (Hx.f rfl) hp (by exact O (i5 Jf) (O On rfl)) λvs s₂ iF Nt Hz=>?_) mQ hw;exact w7 (is:=ts.reverse) (ps:=l.reverse) (by exact O (dx ..) (O si (O si (O On rfl)))) (LK On Tm) Hz Nt.reverse (zZ Ic.2 (by exact XO So hlen) Jf) λiN Lz Ig=>hQ _ _ No ((Pure.toExt (dO.trans iF) λb q=>.inl q).trans Lz) Ig .next
end
structure FSpec where
 pars:List Str
 n:Nat
 vars:List (Str × Nat)
 own:List Nat
 tk:List Nat
 code:PSs
def FSpec.cx (f:FSpec) (sc:md):Cx:=⟨f.vars,sc.names,f.own,f.tk,true⟩
noncomputable def cE (sc:md):List Str:=(sc.names.filter λnk=>nk.2==.local||nk.2==.cell).map (·.1)
def tB (f:FSpec) (sc:md):Nat->List Str->Bool
 | _,[]=>true
 | k,x::l=>f.vars.lookup x==some k&&!f.own.contains k&&!f.tk.contains k&&(sc.names.lookup x==some .local||sc.names.lookup x==some .cell)&&tB f sc (k+1) l
theorem LL:tB f sc k (x::l)=(f.vars.lookup x==some k&&!f.own.contains k&&!f.tk.contains k&&(sc.names.lookup x==some .local||sc.names.lookup x==some .cell)&&tB f sc (k+1) l):=rfl
def QE (f:FSpec) (body:List ig) (sc:md):Bool :=
 sc.kind==.function&&!sc.isGenerator&&!sc.isCoroutine&&cU (sc.names.map (·.1))&&cU (f.vars.map (·.1))&&jH (f.vars.map (·.2))&&sc.names.all (λnk=>nk.2==.local||nk.2==.cell||nk.2==.globalImplicit) &&
 cU f.pars&&tB f sc 0 f.pars&&fN (f.cx sc) (cE sc) body f.code
noncomputable def jI (args:List PV) (n:Nat):PEnv:=args.map some++af (n-args.length) none
def dJ (F:Fn) (f:FSpec) (args:List PV):Option PV :=
 if args.length=f.pars.length then match aE F f.code (jI args f.n) with
  | some (_,.ret v)=>some v
  | _=>none
 else none
theorem QF (h:lk (jI args n) i=some p):args[i]?=some p:=by
 unfold jI at h;have none_lk:∀(m i:Nat),lk (af m none) i=none:=by
  intro m
  induction m with
  | zero=>intro i;rfl
  | succ m ih =>
   intro i;cases i with
   | zero=>rfl
   | succ i=>simpa [cy,lG,k9,lA] using ih i
 generalize n-args.length=m at h
 induction args generalizing i with
 | nil=>simp only[gp,eb] at h;rw[none_lk] at h;cases h
 | cons a l ih =>
  cases i with
  | zero=>simp only[ak,bf,lG,k9,lA] at h;simpa using h
  | succ i=>simp only[ak,bf,lG,k9,lA] at h;simpa using ih h
theorem mA:∀{l:List Str}{k j:Nat}{x:Str},tB f sc k l=true->l[j]?=some x ->
  f.vars.lookup x=some (k+j)/\f.own.contains (k+j)=false/\f.tk.contains (k+j)=false/\(sc.names.lookup x=some .local\/sc.names.lookup x=some .cell)
 | [],_,_,_,_,h=>by trivial
 | y::l,k,j,x,hp,h=>by
  simp only[LL,ay,dq,oc] at hp;cases j with
  | zero =>
   simp only[vn,gk] at h;subst h;exact(cS (eq_of_beq hp.1.1.1.1) hp.1.1.1.2 hp.1.1.2 (hp.1.2.imp (λq=>eq_of_beq q) (λq=>eq_of_beq q)))
  | succ j =>
   have:=mA (j:=j) hp.2 (by simpa using h);rw[show k+1+j=k+(j+1) by exact Yw] at this;exact this
theorem iJ:∀{l:List (Str × Nat)}{x y:Str}{i:Nat},jH (l.map (·.2))=true->l.lookup x=some i->l.lookup y=some i->x=y
 | (z,j)::l,x,y,i,hn,h1,h2=>by
  simp only[ak,KR,ay,dq,fm,decide_eq_false_iff_not] at hn;rw[dk] at h1 h2;split at h1
  ·rename_i e1;cases h1;split at h2
   ·rename_i e2;exact O (eq_of_beq e1) (O (eq_of_beq e2) rfl)
   ·exact absurd (im (f:=(·.2)) (aS h2)) hn.1
  ·split at h2
   ·cases h2;exact absurd (im (f:=(·.2)) (aS h1)) hn.1
   ·exact iJ hn.2 h1 h2
theorem pZ:∀{bs:List (Str × ag)}{m:Str->Option ag},x∉bs.map (·.1)->bindL ko bs m x=m x
 | [],m,_=>rfl
 | (n,v)::r,m,h=>by
  simp only[ak,ax,not_or] at h;unfold bindL;refine O (pZ h.2) ?_;split
  ·exact if_neg h.1
  ·rfl
theorem qA:∀{bs:List (Str × ag)}{m:Str->Option ag},x∉bs.map (·.1)->bindC ko bs m x=m x
 | [],m,_=>rfl
 | (n,v)::r,m,h=>by
  simp only[ak,ax,not_or] at h;unfold bindC;refine O (qA h.2) ?_;split
  ·rfl
  ·exact if_neg h.1
theorem w8:∀{pars:List Str}{vs:List ag}{m m':Str->Option ag}{j:Nat}{x:Str}{v:ag},cU pars=true->pars[j]?=some x->vs[j]?=some v ->
  (ko x=some .local->bindL ko (pars.zip vs) m x=some v)/\(ko x≠some .local->bindC ko (pars.zip vs) m' x=some v)
 | [],_,_,_,_,_,_,_,h,_=>by trivial
 | _::_,[],_,_,_,_,_,_,_,h=>by trivial
 | y::pars,u::vs,m,m',j,x,v,hn,h1,h2=>by
  simp only[jO,ay,dq,fm,decide_eq_false_iff_not] at hn;cases j with
  | zero =>
   simp only[vn,gk] at h1 h2;subst h1 h2;have hx:y∉(pars.zip vs).map (·.1):=λq=>by
    obtain⟨⟨a,b⟩,hm,e⟩:=fg.mp q;simp only at e;subst e;exact hn.1 (Dg hm).1
   refine⟨λhk=>?_,λhk=>?_⟩
   ·dsimp only[ny,bindL]
    (refine O (pZ hx) ?_;rw[if_pos hk])
    simp
   ·dsimp only[ny,bindC]
    (refine O (qA hx) ?_;rw[if_neg hk])
    simp
  | succ j =>
   simp only[vo] at h1 h2;simp only[ny,bindL,bindC];exact w8 hn.2 h1 h2
section
variable{M:Hs}{A:dt}{R:GenEnd}{Y:Gm}{n:Nat}{By:ai}{c:Ha}{fs:List Dx}{s:ai}{env:Env}
 {K:Dv->Sem Fin}{H:ag->Sem Fin}{gd:Bool->Bool}{lv:List ag->List ag}
theorem jS{α β:Type}{m:Sem α}{f:α->Sem β}{K:β->Sem Fin} 
  (h:wpAny M (A.over c fs) m (λa s'=>Seg M A R Y n By c ((f a).wrap K H gd lv) fs s') (λx s'=>Seg M A R Y n By c (H x) fs s') s) :
  Seg M A R Y n By c ((m >>= f).wrap K H gd lv) fs s:=by
 exact O (qu ..) (O (rg ..) (seg_wrap h))
theorem LM{st:ig}(h:wpAny M (A.over c fs) (exec st env) (λf s'=>Seg M A R Y n By c (K f) fs s') (λx s'=>Seg M A R Y n By c (H x) fs s') s) :
  Seg M A R Y n By c ((exec st env).wrap K H gd lv) fs s:=seg_wrap h
theorem CI 
  (h:wpAny M (A.over c fs) (isTrue test env (eval test env)) (λb s'=>Seg M A R Y n By c ((if b=true then execs body env else execs orelse env).wrap K H gd lv) fs s') (λx s'=>Seg M A R Y n By c (H x) fs s') s) :
  Seg M A R Y n By c ((exec (.If test body orelse pos) env).wrap K H gd lv) fs s:=by
 refine O (exec_If ..) (jS (ij ?_));exact jS h
end
section
variable{A:dt}{R:GenEnd}{Y:Gm}{n:Nat}{By:ai}{fs:List Dx}{s:ai}{env:Env}
theorem qB 
  (h:∀E,wpAny (model Pg W0) (A.over (.forLoop target it body [] env) fs) (pyNext it) (λr bc=>match r with
   | none=>Seg (model Pg W0) A R Y n By (.forLoop target it body [] env) (.pure (.again (.block [] env))) fs bc
   | some v=>wpAny (model Pg W0) (A.over (.forLoop target it body [] env) fs) (letOwnedTupleGo target it v) (λ_ Jn=>wpAny (model Pg W0) (A.over (.forLoop target it body [] env) fs) (assign target env v) (λ_ s₂ =>
     Seg (model Pg W0) A R Y n By (.forLoop target it body [] env) ((execs body env).wrap (λf=>match f with
      | .next | .cont=>.pure (.again (.forLoop target it body [] env))
      | .brk=>.pure (.done .next)
      | .ret v=>.pure (.done (.ret v))) (λe=>(do noteFrame e env;theTreesLotGoes e:Sem Unit).wrap (λ_=>.raise e) .raise id id) id id) fs s₂) E Jn) E bc) E s) :
  Seg (model Pg W0) A R Y n By (.forLoop target it body [] env) ((model Pg W0).den (.forLoop target it body [] env)) fs s:=by
 show Seg _ A R Y n By _ ((forTurn target it body [] env).onRaise (λx=>do noteFrame x env;theTreesLotGoes x)) fs s;unfold forTurn;refine O (zs ..) (jS (ij (jS (wpAny_onRaise (lq (h _) (λr bc Ib=>?_) λx s' hx=>ij hx)))));cases r with
 | none=>exact Ib
 | some v =>
  refine jS (lq Ib (λ_ Jn Oa=>?_) λx s' hx=>hx);refine jS (lq Oa (λ_ s₂ Km=>?_) λx s' hx=>hx);refine O (qu ..) (O (rg ..) ?_);refine O (Ea (execs body env) _ _ (K':=λf=>match f with
      | .next | .cont=>.pure (.again (.forLoop target it body [] env))
      | .brk=>.pure (.done .next)
      | .ret v=>.pure (.done (.ret v))) (H':=(λe=>(do noteFrame e env;theTreesLotGoes e:Sem Unit).wrap (λ_=>.raise e) .raise id id))
    (λf=>by cases f <;> rfl)
    (λe=>by first | exact vp _ _ | (show(do noteFrame e env;theTreesLotGoes e:Sem Unit).bind (λ_=>.raise e)=_;rw[vp]))) ?_
  exact Km
theorem z7{code c:Ha}{K:Ce->Sem Fin}{hd:Option ag}{g:Bool}{l:List ag}{p:Pos}(h:Seg (model Pg W0) A R Y n By c (K (.ok .next)) fs s) :
  Seg (model Pg W0) A R Y n By code (.pure (.again (.block [] env))) (.ret K hd g l c p []::fs) s:=by
 refine seg_again rfl ?_;exact seg_leaf (.ok .next) h
end
section
variable{A:dt}{E:Vs}{s:ai}
end
theorem QG (R:Room A (k+2)):Room (A.in1.over (.func body env) []) k:=by
 refine⟨R.hh,?_,?_⟩
 ·have:=R.depth;show A.in1.depth+frameCount []+uf (.func body env)+k<900;have e:uf (.func body env)=1:=rfl
  dsimp only[uu,frameCount,gp,Bg]
  exact fn3 (.y (.A (.A (.A .q .n0) .r) .s) .jW) [.y (.A .q (.A .s .n2)) .jW,.z1 .r .n1] this e
 ·have:=R.units;show A.in1.units+unitsOf []+uh (.func body env)+8*k<9000;have e:uh (.func body env)=3:=rfl
  dsimp only[uv,unitsOf_nil]
  exact fn3 (.y (.A (.A (.A .kc .n0) .r) (.M .n8 .s)) .jk) [.y (.A .q (.M .n8 (.A .s .n2))) .jk,.z1 .r .n3] this e
theorem QH{A:dt}{k:Nat}{body b o:List ig}{env env':Env}{t:ao}{it:ag}{K:Ce->Sem Fin}{g:Bool}{l:List ag}{p:Pos}(R:Room A (k+2)) :
  Room (A.in1.over (.forLoop t it b o env') [.ret K none g l (.func body env) p []]) k:=by
 refine⟨R.hh,?_,?_⟩
 ·have:=R.depth;show A.in1.depth+frameCount [(.func body env,p)]+uf (.forLoop t it b o env')+k<900;have e:uf (.func body env)=1:=rfl;have e2:uf (.forLoop t it b o env')=0:=rfl
  dsimp only[uu,frameCount,ak,gp,lc,Bg]
  exact fn4 (.y (.A (.A (.A .q (.A .r .n0)) .s) .t) .jW) [.y (.A .q (.A .t .n2)) .jW,.z1 .r .n1,.z1 .s .n0] this e e2
 ·have:=R.units;show A.in1.units+unitsOf [(.func body env,p)]+uh (.forLoop t it b o env')+8*k<9000;have e:uh (.func body env)=3:=rfl;have e2:uh (.forLoop t it b o env')=0:=rfl
  dsimp only[uv,unitsOf_cons,unitsOf_nil]
  exact fn4 (.y (.A (.A (.A .kc (.A .r .n0)) .s) (.M .n8 .t)) .jk) [.y (.A .q (.M .n8 (.A .t .n2))) .jk,.z1 .r .n3,.z1 .s .n0] this e e2
structure Later (Ng:Ap) (s s':ai):Prop where
 own:∀b o,Ng b->s.heap.get? b=some o->s'.heap.get? b=some o
 keep:∀b o,H0.get? b=some o->s'.heap.get? b=some o
 grow:s.heap.objs.size<=s'.heap.objs.size
 toks:0<s'.toks
 bare:pw s'.gens
section
variable{F:Fn}{B:Nat}
variable{A:dt}{cx:Cx}{asg:List Str}{env:Env}{s s':ai}{Na No Ng:Ap}{pe:PEnv}{E:Vs}
theorem EnvR.again (X:EnvR cx asg env s Na No pe) (Ps:∀i p,lk pe i=some p->p.scalar=true) (hown:cx.own=[]) (htk:cx.tk=[]) (Iy:∀x,env.kindOf x≠some .cell/\env.kindOf x≠some .free)
  (hL:Later Ng s s') (Wa:Ng env.locals) (hN:∀b,Na' b\/No' b->H0.objs.size<=b/\b<s'.heap.objs.size) (Zy:No' env.locals) (Zz:∀b,No' b->¬Na' b):EnvR cx asg env s' Na' No' pe:=by
 have Ic:∀m,s.heap.Ns env.locals m->s'.heap.Ns env.locals m:=λm h=>let ⟨o,es,ep,x,q⟩:=h;⟨o,es,ep,hL.own _ _ Wa x,q⟩;have hB:∀y v,BindAt env s.heap y v->BindAt env s'.heap y v:=λy v h=>by
  cases h with
  | loc m a b c=>exact .loc m a (Ic m b) c
  | cell c a=>rcases a with a | a <;> exact absurd a (by first | exact(Iy y).1 | exact(Iy y).2)
 exact{
  base:={keep:=hL.keep,above:=λb q=>(hN b q).1,size:=aa X.base.size hL.grow,low:=λb q=>(hN b q).2,toks:=hL.toks,bare:=hL.bare}
  kind:=X.kind
  glb:=X.glb
  blt:=X.blt
  gl:=X.gl
  cl:=λy hy=>by
   refine xa (X.cl y hy) λh1 _=>?_;rcases h1 with h1 | h1
   ·exact absurd h1 (Iy y).1
   ·exact absurd h1 (Iy y).2
  ns:=let ⟨m,hm⟩:=X.ns;⟨m,Ic m hm⟩
  noL:=Zy
  apart:=X.apart
  cellsLow:=λy c h=>ac (X.cellsLow y c h) hL.grow
  vars:=λy i p h1 h2=>by
   refine xea (X.vars y i p h1 h2) λv hb hs=>?_;refine⟨v,hB y v hb,?_,λh=>by rw[htk] at h;cases h⟩;have h3:=hs.1;rw[hown] at h3 ⊢
   dsimp only[Bh,aw,if_false] at h3 ⊢
   exact h3.of_scalar (Ps i p h2)
  stores:=λy hy=>by
   cases X.stores y hy with
   | loc h=>exact .loc h
   | cell c Jr h1=>exact absurd h1 (Iy y).1
  inj:=X.inj
  alone:=λy z i j a h1 h2 h3 h4 h5=>by rw[hown] at h5;cases h5
  disj:=Zz
  turns:=λy i a h1 h2=>by rw[hown] at h2;cases h2}
noncomputable def LN:List (Str × Nat):=[("addr",0),("pos",1),("escape",2),("ch",3)]
def gcx (sc:md):Cx:=⟨LN,sc.names,[],[],true⟩
noncomputable def bs:PE:=.cst (.str ⟨#[92]⟩)
def gE1:PEs:=.cons (.var 1) (.cons (.bin .Add bs (.var 3)) .nil)
noncomputable def gE2:PEs:=.cons (.var 1) (.cons (.var 3) .nil)
def gE3:PEs:=.cons (.var 1) (.cons bs .nil)
def uU (cx:Cx) (e:ao) (ps:PEs):Bool:=(F2 e).any λxs=>eP cx false xs ps&&decide (xs.length<=100)
theorem LO (h:uU cx e ps=true):∃xs n k,e=.Tuple xs n k/\eP cx false xs ps=true/\xs.length<=100:=by
 refine xea (aD h) λx h1 h2=>?_;apply IE (sC h1);intro n k;exact(o5 x n k rfl ((aB h2).1) (of_decide_eq_true (aB h2).2))
noncomputable def vYl (e:ao):Option (Option ao):=if h:e.ctorIdx=13 then ww (motive_1:=λ_=>Option (Option ao)) e h (λv _=>some v) else none
theorem QI (h:vYl e=some x):∃p,e=.Yield x p:=by
 obtain⟨c,h⟩:=a7 h;exact ww (motive_1:=λe=>∀c,ww (motive_1:=λ_=>Option (Option ao)) e c (λv _=>some v)=some x->∃p,e=.Yield x p) e c (λ_ _ c h=>by cases sm h;exact⟨_,rfl⟩) c h
def w9 (s:ig):Option ao:=(vEx s).bind λe=>(vYl e).bind id
theorem nH{s:ig}{y:ao}(h:w9 s=some y):∃yp ep,s=.Expr (.Yield (some y) yp) ep:=by
 refine xea (dm.mp h) λe h1 h=>?_;refine xea (dm.mp h) λv h2 h=>?_;apply xeR (EE h1);intro ep;apply xeR (QI h2);intro yp;cases (show v=some y from h);exact(iee yp ep rfl)
def EH (sc:md) (st:ig):Bool:=(KL st).any λx=>(lz2 x.2.1).any λb=>(w9 b.1).any λy1=>(lz1 x.2.2).any λo=>(KL o).any λz=>(lz1 z.2.1).any λs4=>(lz1 z.2.2).any λyo=>(w9 yo).any λy2 =>
 aH (gcx sc) true x.1 (.var 2)&&(uU (gcx sc) y1 gE1&&(gI (gcx sc) (cE sc) b.2 (.asg 2 (.cst (.bool false)))&&(aH (gcx sc) true z.1 (.cmp .Eq (.var 3) bs)&&(gI (gcx sc) (cE sc) s4 (.asg 2 (.cst (.bool true)))&&uU (gcx sc) y2 gE2))))
def EI (sc:md) (st:ig):Bool:=(KL st).any λx=>(lz1 x.2.1).any λb=>(w9 b).any λy3=>x.2.2.isEmpty&&(aH (gcx sc) true x.1 (.var 2)&&uU (gcx sc) y3 gE3)
def EJ (sc:md):Bool:=sc.kind==.function&&(sc.isGenerator&&(!sc.isCoroutine&&(cU (sc.names.map (·.1))&&(sc.names.all (λnk=>nk.2==.local||nk.2==.globalImplicit)&&sc.names.lookup ("addr":Str)==some .local))))
def xA (body:List ig) (sc:md):Bool:=EJ sc&&match body with
 | []=>false
 | s1::l=>match l with
  | []=>false
  | s2::l=>(lz2 l).any λq=>(PX q.1).any λf=>(lI f.2.1).any λc=>(lz1 c.2.1).any λa=>(lz1 f.2.2.1).any λlp =>
   KI f.1&&(f.2.2.2.isEmpty&&(c.2.2.1.isEmpty&&(gI (gcx sc) (cE sc) s1 (.asg 1 (.cst (.int 0)))&&(gI (gcx sc) (cE sc) s2 (.asg 2 (.cst (.bool false)))&&(nZ (gcx sc) (cE sc) f.1 [1,3] &&
   (fX (gcx sc) c.1 wZ&&(bZ a&&(aH (gcx sc) false a (.var 0)&&(EH sc lp&&EI sc q.2)))))))))
def Handed (Ng:Ap) (By s':ai) (v:ag) (p:PV):Prop :=
 ∃T vs l,v=.ref T/\p=.tup l/\¬Ng T/\By.heap.objs.size<=T/\PlainTup s'.heap T (Ba vs)/\∀(h:li) (N:Ap),RVs h N vs l
def gY (Ng:Ap) (items:List PV):Gm:=λm By v s' kap =>
 m<items.length/\(∃p,items[items.length-(m+1)]?=some p/\Handed Ng By s' v p)/\Ext By Ng s' Ng/\∀Jl,Later Ng s' Jl->kap (.send .none) Jl
def gP (Ng:Ap):Nat->ai->ai->Prop:=λn By s'=>n=0/\Ext By Ng s' Ng
theorem RVs.allScalar (r:RVs h N vs l) (hs:∀p∈l,p.scalar=true):∀(h':li) (N':Ap),RVs h' N' vs l:=by
 intro h' N'
 induction l generalizing vs with
 | nil=>cases r;exact .nil
 | cons p l ih=>cases r with | cons a b=>exact .cons (a.of_scalar (hs p (by simp))) (ih b λq hq=>hs q (by simp[hq]))
theorem nI (hB:3<=B) (GK:Glo) (FK:FunOK F B){c:Ha}{fs:List Dx}{K:Dv->Sem Fin}{H:ag->Sem Fin}{gd:Bool->Bool}{lv:List ag->List ag}{n:Nat}{By:ai}{y:ao}{yp ep:Pos}{ps:PEs}{l:List PV}{items:List PV}{R:GenEnd}
  (Z0:splitAtGen fs=none) (Z1:gd false=false) (Wb:fs.any Dx.guarded=false) (Rm:Room (A.over c fs) (nds ps+B)) (X:EnvR cx asg env s Na No pe) (hc:uU cx y ps=true) (hd:bK F ps pe=some l) (Ps:∀p∈l,p.scalar=true)
  (hn:n<items.length) (hit:items[items.length-(n+1)]?=some (.tup l)) (Je:Ext By Ng s Ng) (Wa:∀b,Ng b->b<s.heap.objs.size) (Ox:env.scope.isCoroutine=false)
  (hK:∀s' Jl,Pure s s'->Later Ng s' Jl->Seg (model Pg W0) A R (gY Ng items) n Jl c (K .next) fs Jl) :
  Seg (model Pg W0) A R (gY Ng items) (n+1) By c ((exec (.Expr (.Yield (some y) yp) ep) env).wrap K H gd lv) fs s:=by
 apply kB (LO hc);intro xs n' k' h1 h2;refine seg_Expr_Yield Z0 Z1 Wb (wpAny_Tuple (dR (dG hB GK FK ps) Rm X h1 hd λvs bc dO Ly My Ki hl=>⟨nA h2 hl,?_⟩)) Ox (vW X);intro kap Wc;have iF:Pure s {bc with heap:=bc.heap.push {cls:=.type "tuple",data:=.seq vs.toArray}}:=dO.trans (Pure.push bc _ (ah _));refine(cS hn (iea _ hit (dF bc.heap.objs.size vs l rfl rfl (λq=>absurd (Wa _ q) (av.mpr dO.step.grow)) (aa Je.step.grow dO.step.grow) ⟨⟨0,ci _ rfl⟩,((Ki rfl).allScalar Ps)⟩)) (Je.trans (iF.toExt λb q=>.inl q)) (λJl hL=>Wc _ _ ?_));exact hK _ _ iF hL
theorem GW (hh:A.handled=none) (X:EnvR cx asg env s Na No pe) (hc:kY cx asg es ts=true)
  (hT:s.heap.IsTuple T vs.toArray) (hl:∀(h:li) (N:Ap),RVs h N vs l) (hb:dW ts l pe=some pe') (hQ:∀s',Ext s No s' No->EnvR cx asg env s' Na No pe'->Q () s'):wpAny (model Pg W0) A (assign (.Tuple es k tp) env (.ref T)) Q E s:=by
 refine aP (nG (env:=env) hc) λh1 Ml h3 h4=>?_;refine O (tw ..) (bh (ij ?_))
 delta unpack
 refine O h1 (O Ml ?_);have e:ts.length=vs.toArray.size:=by refine XO (i5 hb) (XO ((hl s.heap No0).length) ?_);rfl
 refine O e (bh (wpAny_holding (aU (wpAny_unpackItems_tuple hh hT λh' he hm=>?_))));have P:Pure s {s with heap:=h'}:=Pure.mk' (t:=s.toks) (λb o e=>he b o (ez (dL e)) e) hm;exact w7 (by simp[h1]) h4 (X.pure P) (hl _ _) hb λs' e' X'=>hQ _ ((P.toExt λb q=>.inl q).trans e') X'
noncomputable def gpe (x:Str) (Iz:Int) (esc:Bool) (ch:Option PV):PEnv:=[some (.str x),some (.int Iz),some (.bool esc),ch]
theorem kL (Ju:∀p,ch=some p->p.scalar=true):∀i p,lk (gpe x Iz esc ch) i=some p->p.scalar=true:=by
 intro i p h
 delta gpe at h
 match i with
 | 0=>simp only[lG,k9,lA,gk] at h;subst h;rfl
 | 1=>simp only[lG,k9,lA,gk] at h;subst h;rfl
 | 2=>simp only[lG,k9,lA,gk] at h;subst h;rfl
 | 3=>simp only[lG,k9,lA] at h;exact Ju p h
 | n+4=>trivial
structure GParts (sc:md) where
 es:List ao
 ek:Nat
 ep:Pos
 t1:ao
 y1:ao
 yp1:Pos
 ep1:Pos
 s3:ig
 t2:ao
 s4:ig
 y2:ao
 yp2:Pos
 ep2:Pos
 ip1:Pos
 ip2:Pos
 hes:kY (gcx sc) (cE sc) es [1,3]=true
 h1:aH (gcx sc) true t1 (.var 2)=true
 h2:uU (gcx sc) y1 gE1=true
 h3:gI (gcx sc) (cE sc) s3 (.asg 2 (.cst (.bool false)))=true
 h4:aH (gcx sc) true t2 (.cmp .Eq (.var 3) bs)=true
 h5:gI (gcx sc) (cE sc) s4 (.asg 2 (.cst (.bool true)))=true
 h6:uU (gcx sc) y2 gE2=true
def GParts.tgt{sc:md}(p:GParts sc):ao:=.Tuple p.es p.ek p.ep
def GParts.body{sc:md}(p:GParts sc):List ig :=
 [.If p.t1 [.Expr (.Yield (some p.y1) p.yp1) p.ep1,p.s3] [.If p.t2 [p.s4] [.Expr (.Yield (some p.y2) p.yp2) p.ep2] p.ip2] p.ip1]
theorem z8{sc:md}{st:ig}(es:List ao) (ek:Nat) (ep:Pos) (hes:kY (gcx sc) (cE sc) es [1,3]=true) (h:EH sc st=true):∃p:GParts sc,p.tgt=.Tuple es ek ep/\p.body=[st]:=by
 refine wS λG hG=>?_
 replace h:=aD h
 refine xea h λx h1 h=>?_
 replace h:=aD h
 refine xea h λb h2 h=>?_
 replace h:=aD h
 refine xea h λy1 h3 h=>?_
 replace h:=aD h
 refine xea h λo h4 h=>?_
 replace h:=aD h
 refine xea h λz h5 h=>?_
 replace h:=aD h
 refine xea h λs4 h6 h=>?_
 replace h:=aD h
 refine xea h λyo h7 h=>?_
 replace h:=aD h
 refine xea h λy2 h8 h=>?_;refine xe (nX h1) λip1 e1=>?_;refine xee (nH h3) λyp1 ep1 e3=>?_;refine xe (nX h5) λip2 e5=>?_;refine xee (nH h8) λyp2 ep2 e8=>?_;have e2:=iZ h2;have e4:=cQ h4;have e6:=cQ h6;have e7:=cQ h7;have q1:=aB h;have q2:=aB q1.2;have q3:=aB q2.2;have q4:=aB q3.2;have q5:=aB q4.2;refine hG (iea ⟨es,ek,ep,x.1,y1,yp1,ep1,b.2,z.1,s4,y2,yp2,ep2,ip1,ip2,hes,q1.1,q2.1,q3.1,q4.1,q5.1,q5.2⟩ rfl ?_);refine O e1 (O e2 (O e4 (O e5 (O e6 (O e7 (O e3 (O e8 ?_)))))));rfl
theorem z9{sc:md}{st:ig}(h:EI sc st=true):∃t3 y3 yp3 ep3 ip3,st=.If t3 [.Expr (.Yield (some y3) yp3) ep3] [] ip3/\aH (gcx sc) true t3 (.var 2)=true/\uU (gcx sc) y3 gE3=true:=by
 refine xea (aD h) λx h1 h2=>?_;refine xea (aD h2) λb h3 h4=>?_;refine xea (aD h4) λy h5 h6=>?_;refine xe (nX h1) λip3 e1=>?_;refine xee (nH h5) λyp3 ep3 e5=>?_;rw[cQ h3,e5,cK (aB h6).1] at e1;exact(eH _ y yp3 (kC ep3 ip3 e1 (aB (aB h6).2)))
structure HeadOK (sc:md):Prop where
 c1:sc.kind=.function
 c2:sc.isGenerator=true
 c3:sc.isCoroutine=false
 c4:cU (sc.names.map (·.1))=true
 c5:sc.names.all (λnk=>nk.2==.local||nk.2==.globalImplicit)=true
 c6:sc.names.lookup ("addr":Str)=some .local
theorem AA (h:EJ sc=true):HeadOK sc:=by
 have q1:=aB h;have q2:=aB q1.2;have q3:=aB q2.2;have q4:=aB q3.2;have q5:=aB q4.2;exact⟨eq_of_beq q1.1,q2.1,kZ q3.1,q4.1,q5.1,eq_of_beq q5.2⟩
structure GenTxt (sc:md) (body:List ig) where
 s1:ig
 s2:ig
 g:ao
 a:ao
 cpos:Pos
 fpos:Pos
 p:GParts sc
 t3:ao
 y3:ao
 yp3:Pos
 ep3:Pos
 ip3:Pos
 eq:body=[s1,s2,.For p.tgt (.Call g [a] [] cpos) p.body [] fpos,.If t3 [.Expr (.Yield (some y3) yp3) ep3] [] ip3]
 k1:gI (gcx sc) (cE sc) s1 (.asg 1 (.cst (.int 0)))=true
 k2:gI (gcx sc) (cE sc) s2 (.asg 2 (.cst (.bool false)))=true
 k4:fX (gcx sc) g wZ=true
 k5:bZ a=true
 k6:aH (gcx sc) false a (.var 0)=true
 k13:aH (gcx sc) true t3 (.var 2)=true
 k14:uU (gcx sc) y3 gE3=true
theorem tC (h:xA body sc=true):HeadOK sc/\Nonempty (GenTxt sc body):=by
 refine⟨AA (aB h).1,?_⟩;refine wS λG hG=>?_
 replace h:=(aB h).2
 cases body with
 | nil=>exact nf h
 | cons s1 l=>cases l with
  | nil=>exact nf h
  | cons s2 l =>
   replace h:=aD h
   refine xea h λq h1 h=>?_
   replace h:=aD h
   refine xea h λf h2 h=>?_
   replace h:=aD h
   refine xea h λc h3 h=>?_
   replace h:=aD h
   refine xea h λa h4 h=>?_
   replace h:=aD h
   refine xea h λlp h5 h=>?_;have q1:=aB h;have q2:=aB q1.2;have q3:=aB q2.2;have q4:=aB q3.2;have q5:=aB q4.2;have q6:=aB q5.2;have q7:=aB q6.2;have q8:=aB q7.2;have q9:=aB q8.2;have q10:=aB q9.2;rcases sS q6.1 with ⟨i,e,_⟩ | ⟨es,ek,ep,et,hes,_⟩
   ·cases e
   refine xea (z8 es ek ep hes q10.1) λp ep1 ep2=>?_;refine eJ (z9 q10.2) λt3 y3 yp3 ep3 zt=>?_;refine lC zt λip3 e3 k13 k14=>?_;clear zt;refine xe (sP h2) λfpos ef=>?_;have e1:=iZ h1;rw[et,<- ep1,dX h3,cQ h4,cK q3.1,cQ h5,<- ep2,cK q2.1] at ef;rw[ef,e3] at e1;exact hG ⟨⟨s1,s2,c.1,a,c.2.2.2,fpos,p,t3,y3,yp3,ep3,ip3,by exact O e1 rfl,q4.1,q5.1,q7.1,q8.1,q9.1,k13,k14⟩⟩
def Ng1 (L:er):Ap:=λb=>b=L
def Ng2 (e i:er):Ap:=λb=>b=e\/b=i
def Ng3 (L e i:er):Ap:=λb=>b=L\/b=e\/b=i
theorem xB{items l:List PV}{a:PV}{n:Nat}(h:items.drop (items.length-(n+1))=a::l) (hl:l.length=n):n<items.length/\items[items.length-(n+1)]?=some a/\items.drop (items.length-n)=l:=by
 have hlen:=congrArg fo h;simp only[rd,db] at hlen;have hn:n<items.length:=by exact fn3 (.y .q .r) [.z1 (.A .s .kc) .r] (ae (fan [_,_,_,_] (.x .kc .r) [.z1 .q .s,.z1 .kL .t,.x .t .r] hl.symm hlen.symm (wg _ _)))
 refine(iaa hn ?_ ?_)
 ·have:=congrArg (·[0]?) h
  simpa [tj] using this
 ·have e:items.length-n=items.length-(n+1)+1:=by rw[Nat.sub_add_eq,ae (ui hn)]
  refine O e (XO Eb (O h ?_));rfl
theorem Room.z (R:Room A (B+8)):Room A (0+B):=R.le (aa (ce (mz _)) (iv _ 8))
theorem xC (h1:aA F e pe=some x) (h2:bK F es pe=some l):bK F (.cons e es) pe=some (x::l):=by
 show(match aA F e pe,bK F es pe with | some x,some l=>some (x::l) | _,_=>none)=_;exact O h1 (O h2 rfl)
theorem EK (h1:aA F a pe=some x) (h2:aA F c pe=some y) (h3:dM op x y=some z):aA F (.bin op a c) pe=some z:=by
 show(match aA F a pe,aA F c pe with | some x,some y=>dM op x y | _,_=>none)=_;exact O h1 (O h2 h3)
theorem nJ{a b:PV}(ha:a.scalar=true) (hb:b.scalar=true):∀p∈[a,b],p.scalar=true:=λp hp=>by
 rcases ax.mp hp with rfl | hp
 ·exact ha
 ·exact O (cf.mp hp) hb
theorem QJ (hl:(⟨#[92]⟩:Str).length+(⟨#[c]⟩:Str).length<=100000):bK F gE1 (gpe x k esc (some (.str ⟨#[c]⟩)))=some [.int k,.str ⟨#[92,c]⟩]:=by
 have h:S5 ⟨#[92]⟩ ⟨#[c]⟩=some (.str ⟨#[92,c]⟩):=if_pos hl;exact xC (F:=F) (pe:=gpe x k esc (some (.str ⟨#[c]⟩))) (e:=.var 1) (x:=.int k) rfl (xC (EK (op:=.Add) (a:=bs) (c:=.var 3) (x:=.str ⟨#[92]⟩) (y:=.str ⟨#[c]⟩) rfl rfl h) rfl)
theorem W7 (c:Nat):Option.map PV.bool (TG (.str ⟨#[c]⟩) (.str ⟨#[92]⟩))=some (.bool (decide (c=92))):=by
 have h:((⟨#[c]⟩:Str)==⟨#[92]⟩)=decide (c=92):=by
  by_cases h:c=92
  ·subst h;rfl
  ·exact O (decide_eq_false h) (O (propext beq_eq_false_iff_ne) (λq=>h (by simpa using congrArg Str.cps q)))
 exact congrArg (λb=>some (PV.bool b)) h
set_option maxHeartbeats 1600000 in
theorem LP (hB:3<=B) (GK:Glo) (FK:FunOK F B){sc:md}{bY:Env}(Ps:bY.scope=sc) (Ox:sc.isCoroutine=false) (Iy:∀x,bY.kindOf x≠some .cell/\bY.kindOf x≠some .free)
  (p:GParts sc){fbody:List ig}{Kfr:Ce->Sem Fin}{lfr:List ag}{pfr:Pos}{e it:er}{x:Str}{tx:Tok}{items:List PV}(Rm:Room A (B+10)) (X9:e≠it) (Sp:e≠bY.locals) (Sq:it≠bY.locals) (hx:x.length<=10000)
  (XP:H0.objs.size<=e) (Tn:H0.objs.size<=it)
  (Wd:∀s By n Iz esc ch,EnvR (gcx sc) (cE sc) bY s (Ng2 e it) (Ng1 bY.locals) (gpe x Iz esc ch)->(∀p,ch=some p->p.scalar=true)->(0<x.cps.size->Iz=(x.cps.size:Int)-1)->(x.cps.size=0->esc=false) ->
   items.drop (items.length-n)=eK x.cps.size esc []->n=(eK x.cps.size esc []).length->Ext By (Ng3 bY.locals e it) s (Ng3 bY.locals e it) ->
   Seg (model Pg W0) A.in1 (λn By r bc=>r=.ok (.ret .none)/\gP (Ng3 bY.locals e it) n By bc) (gY (Ng3 bY.locals e it) items) n By (.func fbody bY) (Kfr (.ok .next)) [] s) :
  ∀(DO:List Nat) (k:Nat) (s By:ai) (n:Nat) (Iz:Int) (esc:Bool) (ch:Option PV),x.cps.toList.drop k=DO->k<=x.cps.size->EnvR (gcx sc) (cE sc) bY s (Ng2 e it) (Ng1 bY.locals) (gpe x Iz esc ch) ->
   (∀p,ch=some p->p.scalar=true)->(0<k->Iz=(k:Int)-1)->(k=0->esc=false)->items.drop (items.length-n)=eK k esc DO->n=(eK k esc DO).length->Ext By (Ng3 bY.locals e it) s (Ng3 bY.locals e it) ->
   ((∃Nb,Cf s.heap e it k Nb)/\s.heap.IsStrIter it "str_ascii_iterator" x tx k) ->
   Seg (model Pg W0) A.in1 (λn By r bc=>r=.ok (.ret .none)/\gP (Ng3 bY.locals e it) n By bc) (gY (Ng3 bY.locals e it) items) n By (.forLoop p.tgt (.ref e) p.body [] bY) ((model Pg W0).den (.forLoop p.tgt (.ref e) p.body [] bY)) [.ret Kfr none false lfr (.func fbody bY) pfr []] s:=by
 have Ro:Room (A.in1.over (.forLoop p.tgt (.ref e) p.body [] bY) [.ret Kfr none false lfr (.func fbody bY) pfr []]) (B+8):=QH Rm;have W:=WalksT.enumerateD (prog:=Pg) (w:=W0) (A:=A.in1.over (.forLoop p.tgt (.ref e) p.body [] bY) [.ret Kfr none false lfr (.func fbody bY) pfr []]) (Draws.strAscii (prog:=Pg) (w:=W0) (A:=(A.in1.over (.forLoop p.tgt (.ref e) p.body [] bY) [.ret Kfr none false lfr (.func fbody bY) pfr []]).in1) Ro.hh it x tx) e X9 (by simpa using X9) (vd _);have again:∀{s s':ai}{Iz:Int}{esc:Bool}{ch:Option PV},EnvR (gcx sc) (cE sc) bY s (Ng2 e it) (Ng1 bY.locals) (gpe x Iz esc ch)->(∀p,ch=some p->p.scalar=true)->Later (Ng1 bY.locals) s s' ->
   EnvR (gcx sc) (cE sc) bY s' (Ng2 e it) (Ng1 bY.locals) (gpe x Iz esc ch):=λX Ju hl=>X.again (kL Ju) rfl rfl Iy hl rfl
    (λb q=>⟨X.base.above b q,ac (X.base.low b q) hl.grow⟩) rfl (λb q1 q2=>q2.elim (λq=>Sp (q.symm.trans q1)) λq=>Sq (q.symm.trans q1))
 have reset:∀{s:ai}{BY:Ap}{Iz:Int}{esc:Bool}{ch:Option PV},EnvR (gcx sc) (cE sc) bY s (Ng2 e it) BY (gpe x Iz esc ch)->(∀p,ch=some p->p.scalar=true) ->
   EnvR (gcx sc) (cE sc) bY s (Ng2 e it) (Ng1 bY.locals) (gpe x Iz esc ch):=λ{s _ _ _ _} X Ju=>X.again (s':=s) (Ng:=Ng1 bY.locals) (kL Ju) rfl rfl Iy ⟨λb o _ h=>h,X.base.keep,ah _,X.base.toks,X.base.bare⟩ rfl
    (λb q=>q.elim (λq=>⟨X.base.above b (.inl q),X.base.low b (.inl q)⟩) λq=>⟨by exact O q (X.base.above _ (.inr X.noL)),by refine O q ?_;exact X.base.low _ (.inr X.noL)⟩) rfl (λb q1 q2=>q2.elim (λq=>Sp (q.symm.trans q1)) λq=>Sq (q.symm.trans q1))
 intro DO
 induction DO with
 | nil =>
  intro k s By n Iz esc ch hr hk X Ju hp Sr hit hn Je Kv;have Z2:k=x.cps.size:=by
   have:=congrArg fo hr;simp at this;exact az (hk) (fn3 (.x .q .r) [.z1 .s .n0,.z1 .q (.A .s .r)] this (ae (fan [_,_] (.x .q .r) [.x .q .r] hk)).symm)
  subst Z2;refine qB λE=>aU (W.done s _ _ Kv λh' tk Kc hm=>?_);refine z7 (Wd _ By n Iz esc ch (again X Ju ⟨λb o hb ho=>Kc b o ?_ ho,λb o ho=>Kc b o ?_ (X.base.keep b o ho),hm.1,ac X.base.toks hm.2,X.base.bare⟩) Ju hp Sr hit hn (Je.trans ⟨⟨λb o hb ho=>Kc b o ?_ ho,hm.1,λb q=>.inl q⟩,λ_ _ h=>h,id,rfl,rfl,hm.2⟩))
  ·subst hb;simp[uc Sp,uc Sq]
  ·have:=dL ho;simp only[ax,iw,or_false,not_or];exact⟨λq=>absurd this (av.mpr (q ▸ XP)),λq=>absurd this (av.mpr (q ▸ Tn))⟩
  ·simp only[ax,iw,or_false,not_or];exact⟨λq=>hb (.inr (.inl q)),λq=>hb (.inr (.inr q))⟩
 | cons c DO ih =>
  intro k s By n Iz esc ch hr hk X Ju hp Sr hit hn Je Kv;have Im:k<x.cps.size:=by
   have:=congrArg fo hr;simp at this;exact fn4 (.y .q .r) [.z1 .kL .t,.z1 (.A .t .q) .r] this.symm (ae (fan [_,_] (.x .q .r) [.x .q .r] hk))
  have Z3:x.cps[k]?=some c:=by
   have:=congrArg (·[0]?) hr
   simpa [tj] using this
  have Ve:x.cps.toList.drop (k+1)=DO:=by refine XO Eb (O hr ?_);rfl
  have wr:∀b,b∉[e,it]<->b≠e/\b≠it:=λb=>by simp
  have To:∀b o,H0.get? b=some o->b∉[e,it]:=λb o ho=>by
   have:=dL ho;exact O (propext (wr ..)) ⟨λq=>absurd this (av.mpr (q ▸ XP)),λq=>absurd this (av.mpr (q ▸ Tn))⟩
  have Tp:bY.locals∉[e,it]:=by exact O (propext (wr ..)) ⟨uc Sp,uc Sq⟩
  refine qB λE=>aU (W.item k s _ _ Im Kv λT vals Ib tk Z4 XQ We Tq Kc hm=>?_);obtain⟨ti,v,⟨c',u,Sm,rfl⟩,rfl⟩:=Z4;rw[Z3] at Sm;cases Sm;have Wf:=W.apart _ _ _ Tq;have Wg:Later (Ng1 bY.locals) s {s with heap:=Ib,toks:=tk}:=⟨λb o hb ho=>by subst hb;exact Kc _ o Tp ho,λb o ho=>Kc b o (To b o ho) (X.base.keep b o ho),hm.1,ac X.base.toks hm.2,X.base.bare⟩;have Ie:=again X Ju Wg;have Rl:Ext s (Ng3 bY.locals e it) {s with heap:=Ib,toks:=tk} (Ng3 bY.locals e it) :=
   ⟨⟨λb o hb ho=>Kc b o ((wr b).mpr ⟨λq=>hb (.inr (.inl q)),λq=>hb (.inr (.inr q))⟩) ho,hm.1,λb q=>.inl q⟩,λ_ _ h=>h,id,rfl,rfl,hm.2⟩
  dsimp only
  refine aU (W.go p.es p.ek p.ep k T _ _ _ Tq λKm Rn Mr Oc=>?_);have Wh:Later (Ng1 bY.locals) {s with heap:=Ib,toks:=tk} {s with heap:=Km,toks:=tk}:=⟨λb o hb ho=>by subst hb;exact Mr _ o Tp ho,λb o ho=>Mr b o (To b o ho) (Ie.base.keep b o ho),Oc.1,Ie.base.toks,X.base.bare⟩;have Hz:=again Ie Ju Wh;have Rp:Ext {s with heap:=Ib,toks:=tk} (Ng3 bY.locals e it) {s with heap:=Km,toks:=tk} (Ng3 bY.locals e it) :=
   ⟨⟨λb o hb ho=>Mr b o ((wr b).mpr ⟨λq=>hb (.inr (.inl q)),λq=>hb (.inr (.inr q))⟩) ho,Oc.1,λb q=>.inl q⟩,λ_ _ h=>h,id,rfl,rfl,Oc.2⟩
  have Pd:Km.IsTuple T ([zl k ti,.str ⟨#[c]⟩ u]:List ag).toArray:=let ⟨o,q1,q2⟩:=We;⟨o,Mr T o Wf q1,q2⟩;refine GW Ro.hh Hz p.hes Pd (l:=[.int k,.str ⟨#[c]⟩]) (λh N=>.cons (.int _ _) (.cons (.str _ _) .nil)) (pe':=gpe x k esc (some (.str ⟨#[c]⟩))) rfl λiN Jh Ig=>?_;have Od:∀p,(some (PV.str ⟨#[c]⟩))=some p->p.scalar=true:=λp h=>by cases h;rfl
  have Pe:∀b o,b≠bY.locals->Km.get? b=some o->iN.heap.get? b=some o:=λb o hb ho=>Jh.step.keep b o hb ho;have Mo:(∃Nb,Cf iN.heap e it (k+1:Nat) Nb)/\iN.heap.IsStrIter it "str_ascii_iterator" x tx (k+1):=W.frame _ _ _ Rn λb hb o ho=>Pe b o (by
   simp only[ax,iw,or_false] at hb;rcases hb with rfl | rfl
   ·exact Sp
   ·exact Sq) ho
  have Rq:Ext By (Ng3 bY.locals e it) iN (Ng3 bY.locals e it):=by
   refine(Je.trans (Rl.trans Rp)).trans ⟨⟨λb o hb ho=>Jh.step.keep b o (λq=>hb (.inl q)) ho,Jh.step.grow,λb q=>.inl q⟩,Jh.gens,Jh.bare,Jh.os,Jh.drawn,Jh.toks⟩
  have NgLow:∀{s':ai},EnvR (gcx sc) (cE sc) bY s' (Ng2 e it) (Ng1 bY.locals) (gpe x k esc (some (.str ⟨#[c]⟩)))->∀b,(b=bY.locals\/b=e\/b=it)->b<s'.heap.objs.size :=
   λX b q=>q.elim (λq=>X.base.low b (.inr q)) λq=>X.base.low b (.inl q)
  have TE:=λq=>aC hB GK FK q;have Z5:(0<k+1->(k:Int)=((k+1:Nat):Int)-1):=λ_=>by push_cast;exact fn1 (.e .q (.S .kc .n1)) []
  have Ts:bY.scope.isCoroutine=false:=by exact O Ps Ox
  show Seg _ _ _ _ n By _ ((execs [.If p.t1 [.Expr (.Yield (some p.y1) p.yp1) p.ep1,p.s3] [.If p.t2 [p.s4] [.Expr (.Yield (some p.y2) p.yp2) p.ep2] p.ip2] p.ip1] bY).wrap _ _ _ _) _ iN;refine seg_execs_cons (CI ((TE (.var 2)).2 (r:=esc) Ro.z Ig p.h1 rfl λs₄ Ji=>?_));have Ix:=Ig.pure Ji;have Oe:=Rq.trans (Ji.toExt (No:=Ng3 bY.locals e it) (No':=Ng3 bY.locals e it) λb q=>.inl q);have Mq:(∃Nb,Cf s₄.heap e it (k+1:Nat) Nb)/\s₄.heap.IsStrIter it "str_ascii_iterator" x tx (k+1):=W.frame _ _ _ Mo λb _ o ho=>Pure.keep Ji b o ho;have eL:∀b,(b=e\/b=it)->b≠bY.locals:=λb q=>q.elim (λq=>q ▸ Sp) λq=>q ▸ Sq;have back:∀(Ih IN:ai) (n':Nat) (Jv:Bool),EnvR (gcx sc) (cE sc) bY Ih (Ng2 e it) (Ng1 bY.locals) (gpe x k Jv (some (.str ⟨#[c]⟩)))->items.drop (items.length-n')=eK (k+1) Jv DO->n'=(eK (k+1) Jv DO).length ->
    Ext IN (Ng3 bY.locals e it) Ih (Ng3 bY.locals e it)->((∃Nb,Cf Ih.heap e it (k+1:Nat) Nb)/\Ih.heap.IsStrIter it "str_ascii_iterator" x tx (k+1)) ->
    Seg (model Pg W0) A.in1 (λn By r bc=>r=.ok (.ret .none)/\gP (Ng3 bY.locals e it) n By bc) (gY (Ng3 bY.locals e it) items) n' IN (.forLoop p.tgt (.ref e) p.body [] bY) (.pure (.again (.forLoop p.tgt (.ref e) p.body [] bY))) [.ret Kfr none false lfr (.func fbody bY) pfr []] Ih :=
   λIh IN n' Jv Iq h1 h2 h3 h4=>seg_again rfl (ih (k+1) Ih IN n' k Jv (some (.str ⟨#[c]⟩)) Ve Im Iq Od Z5 (λq=>by lia) h1 h2 h3 h4)
  have flag:∀(Ih IN:ai) (n':Nat) (Jw Jv:Bool) (Kw:ig) (K':Dv->Sem Fin) (H':ag->Sem Fin) (gd':Bool->Bool) (lv':List ag->List ag),gI (gcx sc) (cE sc) Kw (.asg 2 (.cst (.bool Jv)))=true ->
    EnvR (gcx sc) (cE sc) bY Ih (Ng2 e it) (Ng1 bY.locals) (gpe x k Jw (some (.str ⟨#[c]⟩)))->items.drop (items.length-n')=eK (k+1) Jv DO->n'=(eK (k+1) Jv DO).length ->
    Ext IN (Ng3 bY.locals e it) Ih (Ng3 bY.locals e it)->((∃Nb,Cf Ih.heap e it (k+1:Nat) Nb)/\Ih.heap.IsStrIter it "str_ascii_iterator" x tx (k+1)) ->
    K' .next=.pure (.again (.forLoop p.tgt (.ref e) p.body [] bY)) ->
    Seg (model Pg W0) A.in1 (λn By r bc=>r=.ok (.ret .none)/\gP (Ng3 bY.locals e it) n By bc) (gY (Ng3 bY.locals e it) items) n' IN (.forLoop p.tgt (.ref e) p.body [] bY) ((exec Kw bY).wrap K' H' gd' lv') [.ret Kfr none false lfr (.func fbody bY) pfr []] Ih:=by
   intro Ih IN n' Jw Jv Kw K' H' gd' lv' hc Iq h1 h2 h3 h4 Z6;refine LM (n9 (λp=>(aC hB GK FK p).1) (λp=>(aC hB GK FK p).2) (λp=>i4 hB GK FK p) 2 (.cst (.bool Jv)) rfl Ro.z Iq hc (pe':=gpe x k Jv (some (.str ⟨#[c]⟩))) (fl:=.next) rfl λf Iv Kp Jo Jp hf=>?_);cases hf;refine O Z6 (back Iv IN n' Jv (reset Jp Od) h1 h2 (h3.trans ⟨⟨λb o hb ho=>Jo.step.keep b o (λq=>hb (.inl q)) ho,Jo.step.grow,λb q=>.inl q⟩,Jo.gens,Jo.bare,Jo.os,Jo.drawn,Jo.toks⟩) (W.frame _ _ _ h4 λb hb o ho=>Jo.step.keep b o (eL b (by simpa using hb)) ho))
  have later:∀{Ih Iv:ai}{Jw:Bool},Pure s₄ Ih->Later (Ng3 bY.locals e it) Ih Iv->EnvR (gcx sc) (cE sc) bY s₄ (Ng2 e it) (Ng1 bY.locals) (gpe x k Jw (some (.str ⟨#[c]⟩))) ->
    EnvR (gcx sc) (cE sc) bY Iv (Ng2 e it) (Ng1 bY.locals) (gpe x k Jw (some (.str ⟨#[c]⟩)))/\((∃Nb,Cf Iv.heap e it (k+1:Nat) Nb)/\Iv.heap.IsStrIter it "str_ascii_iterator" x tx (k+1)):=by
   intro Ih Iv Jw Ja Lg X;exact⟨again (X.pure Ja) Od ⟨λb o hb ho=>Lg.own b o (.inl hb) ho,Lg.keep,Lg.grow,Lg.toks,Lg.bare⟩,W.frame _ _ _ Mq λb hb o ho=>Lg.own b o (.inr (by simpa using hb)) (Pure.keep Ja b o ho)⟩
  cases esc with
  | true =>
   simp only[if_true];have Tt:eK k true (c::DO)=.tup [.int k,.str ⟨#[92,c]⟩]::eK (k+1) false DO:=rfl;rw[Tt] at hit hn;simp only[db] at hn;subst hn;refine xaa (xB hit rfl) λi1 i2 i3=>?_;refine seg_execs_cons (nI (ps:=gE1) hB GK FK (by rfl) (by rfl) (by rfl) Ro.z Ix p.h2 (l:=[.int k,.str ⟨#[92,c]⟩]) ?_ (nJ rfl rfl) i1 i2 Oe (NgLow Ix) Ts λIh Iv Ja Lg=>?_)
   ·have hl:((⟨#[92]⟩:Str).length+(⟨#[c]⟩:Str).length<=100000):=by show 1+1<=100000;exact fn0 (.x (.A .n1 .n1) .kv) []
    exact QJ hl
   ·refine xa (later Ja Lg Ix) λJp Ny=>?_;exact seg_execs_cons (flag Iv Iv _ true false p.s3 _ _ _ _ p.h3 Jp i3 rfl (Ext.refl _ _) Ny rfl)
  | false =>
   simp only[aw,if_false];refine seg_execs_cons (CI ((TE (.cmp .Eq (.var 3) bs)).2 (r:=decide (c=92)) Ro.z Ix p.h4 ?_ λIh Ja=>?_))
   ·exact W7 c
   have Iq:=Ix.pure Ja;have Of:=Oe.trans (Ja.toExt (No:=Ng3 bY.locals e it) (No':=Ng3 bY.locals e it) λb q=>.inl q);have Ob:(∃Nb,Cf Ih.heap e it (k+1:Nat) Nb)/\Ih.heap.IsStrIter it "str_ascii_iterator" x tx (k+1):=W.frame _ _ _ Mq λb _ o ho=>Pure.keep Ja b o ho
   by_cases Pf:c=92
   ·simp only[Pf,decide_true,if_true];have Tt:eK k false (c::DO)=eK (k+1) true DO:=by exact if_pos Pf
    rw[Tt] at hit hn;exact seg_execs_cons (flag Ih By n false true p.s4 _ _ _ _ p.h5 Iq hit hn Of Ob rfl)
   ·simp only[Pf,decide_false,aw,if_false];have Tt:eK k false (c::DO)=.tup [.int k,.str ⟨#[c]⟩]::eK (k+1) false DO:=by exact if_neg Pf
    rw[Tt] at hit hn;simp only[db] at hn;subst hn;refine xaa (xB hit rfl) λi1 i2 i3=>?_;refine seg_execs_cons (nI (ps:=gE2) hB GK FK (by rfl) (by rfl) (by rfl) Ro.z Iq p.h6 (l:=[.int k,.str ⟨#[c]⟩]) rfl (nJ rfl rfl) i1 i2 Of (NgLow Iq) Ts λIv Rr Mx Wi=>?_);refine xa (later (Ja.trans Mx) Wi Ix) λWj Tu=>?_;exact back Rr Rr _ false Wj i3 rfl (Ext.refl _ _) Tu
end
end Mine
end
section
open PySem PySem.W PyProof.Rows PySem.W.X
namespace Mine
section
variable{M:Hs}{A:dt}{c:Ha}{fs:List Dx}{s:ai}{env:Env}{P:End->ai->Prop}
 {K:Dv->Sem Fin}{H:ag->Sem Fin}{gd:Bool->Bool}{lv:List ag->List ag}
theorem pE{α:Type}{m:Sem α}{K:α->Sem Fin} 
  (h:wpAny M (A.over c fs) m (λa s'=>SegX M A c (K a) fs s' P) (λx s'=>SegX M A c (H x) fs s' P) s):SegX M A c (m.wrap K H gd lv) fs s P:=by
 rintro Γ p rfl hΓ
 refine jE (runs_wrap_of_wp (Φ:=λe s'=>e.quiet=true/\P e s') K H gd lv m (h (Γ.over fs) p (hΓ.over fs)) (λa p' s' h'=>h' Γ p' rfl hΓ) (λx p' s' h'=>h' Γ p' rfl hΓ)) λe s' hr hq=>?_;exact(kC e s' hr hq)
theorem jT{α β:Type}{m:Sem α}{f:α->Sem β}{K:β->Sem Fin} 
  (h:wpAny M (A.over c fs) m (λa s'=>SegX M A c ((f a).wrap K H gd lv) fs s' P) (λx s'=>SegX M A c (H x) fs s' P) s):SegX M A c ((m >>= f).wrap K H gd lv) fs s P:=by
 exact O (qu ..) (O (rg ..) (pE h))
theorem vY{st:ig}(h:wpAny M (A.over c fs) (exec st env) (λf s'=>SegX M A c (K f) fs s' P) (λx s'=>SegX M A c (H x) fs s' P) s) :
  SegX M A c ((exec st env).wrap K H gd lv) fs s P:=pE h
theorem gO{st:ig}{DO:List ig}
  (h:SegX M A c ((exec st env).wrap (λf=>match f with | .next=>(execs DO env).wrap K H gd lv | f=>K f) H gd lv) fs s P):SegX M A c ((execs (st::DO) env).wrap K H gd lv) fs s P:=by
 exact O (execs_cons_wrap ..) h
theorem GX {h g l} (hc:∀p,SegX M A c' (M.den c') (.ret k h g l c p []::fs) s P):SegX M A c (.call c' h g l k) fs s P:=by
 rintro Γ p rfl hΓ
 refine jE (hc p (Γ.goto c') p rfl (hΓ.goto c')) λe s' hr he=>?_;exact(kC e s' (runs_call_seg hr) he)
theorem LQ (hs:∀x,foldedSetIterable iter env x=dw x)
  (h:wpAny M (A.over c fs) (eval iter env) (λx bc=>wpAny M (A.over c fs) (pyIter x) (λit s₂ =>
   ∀p,SegX M A (.forLoop target it body orelse env) (M.den (.forLoop target it body orelse env))
   (.ret (λr=>((match r with | .ok f=>(.pure f:Sem Dv) | .error e=>.raise e).onRaise λ(x:ag)=>do
    if (<- field x 1)==Ec then unsupported "frame.own-activation:exception-without-traceback"
    setFlight x env.frame).wrap K H gd lv) none (gd false) (lv []) c p []::fs) s₂ P) (λx s'=>SegX M A c (H x) fs s' P) bc) (λx s'=>SegX M A c (H x) fs s' P) s) :
  SegX M A c ((exec (.For target iter body orelse pos) env).wrap K H gd lv) fs s P:=by
 refine O (exec_For ..) (jT (ij (jT (lq h (λx bc Ib=>?_) λ_ _ h'=>h'))));refine jT (wpAny_of_eq (hs x) ?_);refine jT (ij ?_);refine jT (wpAny_holding (lq Ib (λit s₂ Km=>?_) λ_ _ h'=>h'));exact GX Km
end
section
variable{A:dt}{fs:List Dx}{s:ai}{env:Env}{P:End->ai->Prop}
theorem GY 
  (h:SegX (model Pg W0) A (.func body env) ((execs body env).wrap (λf=>.pure (.done (.ret (match f with | .ret v=>v | _=>.none))))
   (λe=>(leaving env e).wrap (λ_=>.raise e) .raise id id) id id) fs s P) :
  SegX (model Pg W0) A (.func body env) ((model Pg W0).den (.func body env)) fs s P:=by
 show SegX _ A _ (.point [] λ_=>((execs body env).onRaise (leaving env)) >>= _) fs s P;refine pE (m:=point) (H:=.raise) (gd:=id) (lv:=λ_=>[]) (wpAny_point ?_);refine O (zs ..) (O (qu ..) (O (rg ..) ?_));refine O (Ea (execs body env) _ _ (K':=λf=>.pure (.done (.ret (match f with | .ret v=>v | _=>.none))))
  (H':=λe=>(leaving env e).wrap (λ_=>.raise e) .raise id id) (λf=>by cases f <;> rfl)
  (λe=>by rw[vp,rg];rfl)) ?_
 exact h
end
def Run (A:dt) (items:List PV):Nat->(Ap)->Ha->Sem Fin->List Dx->ai->Prop
 | 0=>λNg c t fs s=>SegX (model Pg W0) A c t fs s λe bc=>∃Ng',(∀b,Ng b->Ng' b)/\Ext s Ng bc Ng'/\Low Ng' bc.heap/\e=.ret (.ok (.ret .none))
 | n + 1 => fun Ng c t fs s => SegX (model Pg W0) A c t fs s fun e bc => ∃ Ng', (∀ b, Ng b -> Ng' b) /\ Ext s Ng bc Ng' /\ Low Ng' bc.heap /\
   ∃v g l k c' p Nc,e=.susp v g l k c' p Nc/\n<items.length/\(∃q,items[items.length-(n+1)]?=some q/\Handed Ng' s bc v q) /\
    ∀Jl,Later Ng' bc Jl->Run A items n Ng' c' (k (.send .none)) Nc Jl
def RunP (A:dt) (items:List PV):Nat->(Ap)->ai->End->ai->Prop
 | 0=>λNg s e bc=>∃Ng',(∀b,Ng b->Ng' b)/\Ext s Ng bc Ng'/\Low Ng' bc.heap/\e=.ret (.ok (.ret .none))
 | n + 1 => fun Ng s e bc => ∃ Ng', (∀ b, Ng b -> Ng' b) /\ Ext s Ng bc Ng' /\ Low Ng' bc.heap /\
   ∃v g l k c' p Nc,e=.susp v g l k c' p Nc/\n<items.length/\(∃q,items[items.length-(n+1)]?=some q/\Handed Ng' s bc v q) /\
    ∀Jl,Later Ng' bc Jl->Run A items n Ng' c' (k (.send .none)) Nc Jl
theorem qW :
  Run A items n Ng c t fs s<->SegX (model Pg W0) A c t fs s (RunP A items n Ng s):=by cases n <;> rfl
theorem RunP.back (h:RunP A items n Pt s₂ e bc) (hs:∀b,Ng b->Pt b) (hx:Ext s Ng s₂ Pt):RunP A items n Ng s e bc:=by
 cases n with
 | zero =>
  refine bV h λN h1 h2 h3 h4=>?_;exact(fK N (λb q=>h1 b (hs b q)) (hx.trans h2) h3 h4)
 | succ n =>
  obtain⟨N,h1,h2,h3,v,g,l,k,c',p,Nc,h4,h5,⟨q,h6,T,vs,l',a1,a2,a0,a3,a4,a5⟩,h7⟩:=h;exact(fK N (λb q=>h1 b (hs b q)) (hx.trans h2) h3 (eH v g l (f8 k c' p Nc h4 h5 ⟨(iea q h6 (dF T vs l' a1 a2 a0 (aa hx.step.grow a3) ⟨a4,a5⟩)),h7⟩)))
section
variable{A:dt}{items:List PV}{Ng:Ap}
theorem Base.ext (b:Base s N) (x:Ext s N s' N):Base s' N where
 keep:=λa o e=>x.step.keep a o (λq=>by have:=b.above a q;have h2:=dL e;exact absurd h2 (av.mpr this)) (b.keep a o e)
 above:=b.above
 size:=aa b.size x.step.grow
 low:=λa h=>ac (b.low a h) x.step.grow
 toks:=ac b.toks (Ext.toks x)
 bare:=x.bare b.bare
theorem Base.later (b:Base s N) (x:Later N s s'):Base s' N where
 keep:=x.keep
 above:=b.above
 size:=aa b.size x.grow
 low:=λa h=>ac (b.low a h) x.grow
 toks:=x.toks
 bare:=x.bare
theorem Base.refl (b:Base s N):Later N s s:=⟨λ_ _ _ h=>h,b.keep,ah _,b.toks,b.bare⟩
theorem tD:∀(n:Nat) (c:Ha) (t:Sem Fin) (fs:List Dx) (s:ai),Base s Ng ->
  Seg (model Pg W0) A (λn By r bc=>r=.ok (.ret .none)/\gP Ng n By bc) (gY Ng items) n s c t fs s->Run A items n Ng c t fs s
 | 0,c,t,fs,s,hl,h=>by
  intro Γ p hc hΓ;refine jE (seg_iff.mp h Γ p hc hΓ) λe bc hr he=>?_;cases e with
  | ret r =>
   refine xaa he λaT _ hx=>?_;subst aT;exact(bE _ bc hr rfl (fK Ng (λb q=>q) hx ((hl.ext hx).low) rfl))
  | susp v g l k c' p' Nc =>
   exfalso;refine gC he λhq h1 h2 h3 h4=>?_;exact h4 bc (hl.ext h3).refl
 | n+1,c,t,fs,s,hl,h=>by
  intro Γ p hc hΓ;refine jE (seg_iff.mp h Γ p hc hΓ) λe bc hr he=>?_;cases e with
  | ret r =>
   refine xaa he λ_ h0 _=>?_;clear he;cases h0
  | susp v g l k c' p' Nc =>
   refine gC he λhq h1 h2 h3 h4=>?_;clear he;have Nu:=hl.ext h3;exact(bE _ bc hr hq (fK Ng (λb q=>q) h3 Nu.low (eH v g l (f8 k c' p' Nc rfl h1 ⟨h2,(λJl hL=>tD n c' _ Nc Jl (Nu.later hL) (h4 Jl hL))⟩))))
end
end Mine
end
section
open PySem PySem.W PyProof.Rows PySem.W.X
namespace Mine
section
variable{F:Fn}{B:Nat}
variable{A:dt}{cx:Cx}{asg:List Str}{env:Env}{s s':ai}{Na No Ng:Ap}{pe:PEnv}{E:Vs}
theorem uV (h:x.cps.all (·<128)=true):strIterType x="str_ascii_iterator":=by unfold strIterType;exact O (if_pos h) rfl
noncomputable def XN (bY:Env) (body:List ig):Ha:=.func body bY
theorem QK (hB:3<=B) (GK:Glo) (FK:FunOK F B) (Ox:bY.scope.isCoroutine=false) (k13:aH (gcx sc) true t3 (.var 2)=true) (k14:uU (gcx sc) y3 gE3=true)
  (Rf:Room (A.in1.over (.func body bY) []) (B+8)) (X:EnvR (gcx sc) (cE sc) bY s (Ng2 e it) (Ng1 bY.locals) (gpe x Iz esc ch))
  (hp:0<x.cps.size->Iz=(x.cps.size:Int)-1) (Sr:x.cps.size=0->esc=false) (hit:items.drop (items.length-n)=eK x.cps.size esc []) (hn:n=(eK x.cps.size esc []).length) (Je:Ext By (Ng3 bY.locals e it) s (Ng3 bY.locals e it)) :
  Seg (model Pg W0) A.in1 (λn By r bc=>r=.ok (.ret .none)/\gP (Ng3 bY.locals e it) n By bc) (gY (Ng3 bY.locals e it) items) n By (.func body bY)
   ((execs [.If t3 [.Expr (.Yield (some y3) yp3) ep3] [] ip3] bY).wrap (λf=>.pure (.done (.ret (match f with | .ret v=>v | _=>.none)))) (λe=>(leaving bY e).wrap (λ_=>.raise e) .raise id id) id id) [] s:=by
 have fin:∀Iv IN,Ext IN (Ng3 bY.locals e it) Iv (Ng3 bY.locals e it)->Seg (model Pg W0) A.in1 (λn By r bc=>r=.ok (.ret .none)/\gP (Ng3 bY.locals e it) n By bc) (gY (Ng3 bY.locals e it) items) 0 IN (.func body bY) (.pure (.done (.ret .none))) [] Iv :=
  λIv IN he=>seg_end (.ok (.ret .none)) (iaa rfl rfl he)
 refine seg_execs_cons (CI ((aC hB GK FK (.var 2)).2 (r:=esc) Rf.z X k13 rfl λIv Mx=>?_));have Og:=Je.trans (Mx.toExt (No:=Ng3 bY.locals e it) (No':=Ng3 bY.locals e it) λb q=>.inl q);cases esc with
 | true =>
  cases (show n=0+1 from hn);have Ke:0<x.cps.size:=(Ag x.cps.size).resolve_left λh=>absurd (Sr h) (by decide);refine xaa (xB hit rfl) λi1 i2 i3=>?_;have Jp:=X.pure Mx;exact seg_execs_cons (nI (ps:=gE3) hB GK FK (by rfl) (by rfl) (by rfl) Rf.z Jp k14 (l:=[.int Iz,.str ⟨#[92]⟩]) rfl (nJ rfl rfl) i1 (by exact O (hp Ke) i2) Og (λb q=>Jp.base.low b (q.elim .inr .inl)) Ox λRr Tv Z7 Z8=>fin Tv Tv (Ext.refl _ _))
 | false =>
  cases (show n=0 from hn);exact fin Iv By Og
theorem EnvR.reset1 (hown:cx.own=[]) (htk:cx.tk=[]) (Iy:∀x,bY.kindOf x≠some .cell/\bY.kindOf x≠some .free) (hs:∀i q,lk pe i=some q->q.scalar=true) (X:EnvR cx asg bY s (λ_=>False) BY pe):EnvR cx asg bY s (λ_=>False) (Ng1 bY.locals) pe :=
 X.again (s':=s) (Ng:=Ng1 bY.locals) hs hown htk Iy ⟨λb o _ h=>h,X.base.keep,ah _,X.base.toks,X.base.bare⟩ rfl (λb q=>q.elim (λq=>q.elim) λq=>⟨by exact O q (X.base.above _ (.inr X.noL)),by refine O q ?_;exact X.base.low _ (.inr X.noL)⟩) rfl (λb _ q=>q)
theorem CJ (h:lk [some (.str x),none,none,none] i=some q):q.scalar=true:=by
 cases i with
 | zero=>exact sm h ▸ rfl
 | succ i=>cases i with
  | zero=>exact nn h
  | succ i=>cases i with
   | zero=>exact nn h
   | succ i=>cases i with
    | zero=>exact nn h
    | succ i=>exact nn h
theorem CK (h:lk [some (.str x),some (.int n),none,none] i=some q):q.scalar=true:=by
 cases i with
 | zero=>exact sm h ▸ rfl
 | succ i=>cases i with
  | zero=>exact sm h ▸ rfl
  | succ i=>cases i with
   | zero=>exact nn h
   | succ i=>cases i with
    | zero=>exact nn h
    | succ i=>exact nn h
theorem AB (h:wZ g=true):g=.enum:=by cases g <;> first | exact nf h | rfl
theorem Ext.toL (e:Ext s (Ng1 L) s' BY):Ext s (Ng1 L) s' (Ng1 L):=⟨⟨e.step.keep,e.step.grow,λb q=>.inl q⟩,e.gens,e.bare,e.os,e.drawn,e.toks⟩
theorem GZ (Iy:∀x,bY.kindOf x≠some .cell/\bY.kindOf x≠some .free) (X:EnvR (gcx sc) (cE sc) bY s (λ_=>False) (Ng1 bY.locals) (gpe x 0 false none)) (Lr:h'.objs.size=s.heap.objs.size+2) (Kc:∀b o,s.heap.get? b=some o->h'.get? b=some o) :
  EnvR (gcx sc) (cE sc) bY {s with heap:=h'} (Ng2 (s.heap.objs.size+1) s.heap.objs.size) (Ng1 bY.locals) (gpe x 0 false none)/\Ext s (Ng1 bY.locals) {s with heap:=h'} (Ng3 bY.locals (s.heap.objs.size+1) s.heap.objs.size):=by
 have hL:=X.base.low _ (.inr rfl);have Tw:=X.base.size;have hg:s.heap.objs.size<=h'.objs.size:=by exact O Lr (iv _ _)
 have lt1:s.heap.objs.size<h'.objs.size:=by exact O Lr (ik (dh _))
 have lt2:s.heap.objs.size+1<h'.objs.size:=by exact O Lr (dh _)
 have Z9:Later (Ng1 bY.locals) s {s with heap:=h'}:=⟨λb o _ ho=>Kc b o ho,λb o ho=>Kc b o (X.base.keep b o ho),hg,X.base.toks,X.base.bare⟩;refine⟨X.again (Ng:=Ng1 bY.locals) (kL (λq h=>nn h)) rfl rfl Iy Z9 rfl (λb q=>?_) rfl (λb q1 q2=>?_),⟨λb o _ ho=>Kc b o ho,hg,λb q=>q.elim .inl λq=>.inr (q.elim (λq=>by exact O q (lj _)) λq=>by refine O q ?_;exact ah _)⟩,λ_ _ h=>h,id,rfl,rfl,ah _⟩
 ·rcases q with (q | q) | q
  ·exact⟨by exact O q (gj Tw),by refine O q ?_;exact lt2⟩
  ·exact⟨by exact O q Tw,by refine O q ?_;exact lt1⟩
  ·exact⟨by exact O q (X.base.above _ (.inr rfl)),by refine O q ?_;exact iz hL lt1⟩
 ·rcases q2 with q2 | q2
  ·exact absurd hL (av.mpr (by exact XO q1 (O q2 (lj _))))
  ·exact absurd hL (av.mpr (by exact XO q1 (O q2 (ah _))))
set_option maxHeartbeats 1600000 in
theorem G0 (hB:3<=B) (GK:Glo) (FK:FunOK F B) (Ps:bY.scope=sc) (Iy:∀x,bY.kindOf x≠some .cell/\bY.kindOf x≠some .free)
  (hc:xA body sc=true) (hx:x.length<=10000) (Wk:x.cps.all (·<128)=true) (Rm:Room A (B+10))
  (X:EnvR (gcx sc) (cE sc) bY s (λ_=>False) (Ng1 bY.locals) [some (.str x),none,none,none]) :
  Run A.in1 (eK 0 false x.cps.toList) (eK 0 false x.cps.toList).length (Ng1 bY.locals) (.func body bY) ((model Pg W0).den (.func body bY)) [] s:=by
 obtain⟨HD,⟨T⟩⟩:=tC hc;clear hc;have c3:=HD.c3;have Ox:bY.scope.isCoroutine=false:=by exact O Ps c3
 have Rf:Room (A.in1.over (.func body bY) []) (B+8):=QG Rm;refine O (propext qW) (GY ?_);refine O (show execs body bY=execs [T.s1,T.s2,.For T.p.tgt (.Call T.g [T.a] [] T.cpos) T.p.body [] T.fpos,.If T.t3 [.Expr (.Yield (some T.y3) T.yp3) T.ep3] [] T.ip3] bY from congrArg (λb=>execs b bY) T.eq) (gO (vY (n9 (λp=>(aC hB GK FK p).1) (λp=>(aC hB GK FK p).2) (λp=>i4 hB GK FK p) 1 (.cst (.int 0)) rfl Rf.z X T.k1 (pe':=[some (.str x),some (.int 0),none,none]) (fl:=.next) rfl λf bc BY Jq Ie hf=>?_)));cases hf.next_inv;refine gO (vY (n9 (λp=>(aC hB GK FK p).1) (λp=>(aC hB GK FK p).2) (λp=>i4 hB GK FK p) 2 (.cst (.bool false)) rfl Rf.z (Ie.reset1 rfl rfl Iy λi q h=>CK h) T.k2 (pe':=gpe x 0 false none) (fl:=.next) rfl λf s₂ ID Jt Hz hf=>?_));cases hf.next_inv;have e12:=Jq.toL.trans Jt.toL;have Ms:=Hz.reset1 rfl rfl Iy (kL (λq h=>nn h));clear X Ie Hz;refine bI (hO T.k4) λgx gpos gg hg q1 q2 zt=>?_;refine xa zt λq3 q4=>?_;clear zt;refine gO (LQ (λ_=>rfl) ?_);refine O hg (wpAny_Call_NameR (fZ GK Ms q1 q2 q3 λv hv=>?_));cases AB q4;cases hv;refine O (bL T.k5) (ol (by rfl) (ib (fe ((aC hB GK FK (.var 0)).1 Rf.z Ms T.k6 (r:=.str x) rfl λv iN Ip Tx=>lm ?_))));apply xeR Tx.t.inv;intro tx;have Ig:=Ms.pure Ip;have E3:=e12.trans (Ip.toExt (No:=Ng1 bY.locals) (No':=Ng1 bY.locals) λb q=>.inl q);clear Tx Ms e12 Ip;refine call_enumerate_str λh' XR hit Lr Kc=>?_;rw[uV Wk] at hit;refine wpAny_pyIter_enum XR λpp=>?_;refine xa (GZ Iy Ig Lr Kc) λIx Ext4=>?_;have Pu:bY.locals<iN.heap.objs.size:=Ig.base.low _ (.inr rfl);have Tw:=Ig.base.size;have Tz:Base ({iN with heap:=h'}:ai) (Ng3 bY.locals (iN.heap.objs.size+1) iN.heap.objs.size) :=
  ⟨Ix.base.keep,λb q=>Ix.base.above b (q.elim .inr .inl),Ix.base.size,λb q=>Ix.base.low b (q.elim .inr .inl),Ix.base.toks,Ix.base.bare⟩
 refine SegX.mono (qW.mp (tD _ _ _ _ _ Tz (LP (A:=A) hB GK FK Ps c3 Iy T.p (fbody:=body)
  (Kfr:=_) (lfr:=_) (pfr:=pp) (e:=iN.heap.objs.size+1) (it:=iN.heap.objs.size) (x:=x) (tx:=tx) (items:=eK 0 false x.cps.toList) Rm (Nat.succ_ne_self _) (λq=>absurd Pu (av.mpr (by exact XO q (lj _)))) (λq=>absurd Pu (av.mpr (by refine XO q ?_;exact ah _))) hx
  (gj Tw) Tw (λIh By n Iz esc ch Iq Ju hp Sr Wl hn Je=>QK hB GK FK Ox T.k13 T.k14 Rf Iq hp Sr Wl hn Je) x.cps.toList 0 _ _ _ 0 false none rfl (iq _) Ix (λq h=>nn h) (λq=>absurd q (ii _)) (λ_=>rfl) (by refine O (Nat.sub_self ..) ?_;rfl) rfl (Ext.refl _ _) ⟨⟨_,XR⟩,hit⟩))) λe s' hr=>RunP.back hr (λb q=>.inl q) (E3.trans Ext4)
end
end Mine
end
section
open PySem PySem.W PyProof.Rows PySem.W.X
namespace Mine
structure GenRec (ga:er) where
 name:Str
 params:Fb
 body:List ig
 sc:md
 pm:ag
 cd:ag
 doc:ag
 o:Obj
 chk:xA body sc=true
 at_:H0.get? ga=some o
 data:o.data=.func (dv name params body sc pm cd doc)
 code:H0.CodeRec cd name
 bind:∀v:ag,bindArgs (dv name params body sc pm cd doc) ⟨[v],[]⟩=dw [(("addr":Str),v)]
section
variable{F:Fn}{B:Nat}
variable{A:dt}{cx:Cx}{asg:List Str}{env:Env}{s s':ai}{Na No Ng:Ap}{pe:PEnv}{E:Vs}
theorem HeadOK.locs (h:HeadOK sc) (y:Str):sc.names.lookup y≠some .cell/\sc.names.lookup y≠some .free:=by
 refine⟨λq=>?_,λq=>?_⟩
 ·exact nf (am.mp h.c5 _ (aS q))
 ·exact nf (am.mp h.c5 _ (aS q))
theorem QL (h:lk [some (.str x),none,none,none] i=some q):i=0/\q=.str x:=by
 cases i with
 | zero=>exact⟨rfl,(sm h).symm⟩
 | succ i=>cases i with
  | zero=>exact nn h
  | succ i=>cases i with
   | zero=>exact nn h
   | succ i=>cases i with
    | zero=>exact nn h
    | succ i=>exact nn h
theorem QM (h:HeadOK sc) (hy:n∈cE sc):sc.names.lookup n=some .local:=by
 obtain⟨⟨n',k⟩,Wm,e⟩:=fg.mp hy;have e:n'=n:=e;subst e;refine xa (rx.mp Wm) λMa Jd=>?_;have Pv:=bR h.c4 Ma;rcases ph.mp Jd with Jd | Jd
 ·exact O Pv (congrArg some (eq_of_beq Jd))
 ·exact absurd (Pv.trans (congrArg some (eq_of_beq Jd))) (h.locs n').1
theorem LR (GK:Glo) (g:GenRec ga) (Rm:Room A 1) (Bs:Base s N)
  (hQ:∀s' bY,Pure s s'->bY.scope=g.sc->(∀x,bY.kindOf x≠some .cell/\bY.kindOf x≠some .free)->s.heap.objs.size<=bY.locals->bY.locals+1<s'.heap.objs.size+1->bY.locals≠s'.heap.objs.size-1->s.heap.objs.size<=s'.heap.objs.size-1->s'.heap.objs.size-1<s'.heap.objs.size ->
   EnvR (gcx g.sc) (cE g.sc) bY s' (λ_=>False) (Ng1 bY.locals) [some (.str x),none,none,none] ->
   s'.heap.IsGen (s'.heap.objs.size-1) s.gens.size->s'.gens[s.gens.size]?=some (.fresh (.func g.body bY))->Q (.ref (s'.heap.objs.size-1)) s') :
  wpAny (model Pg W0) A (call (.ref ga) [.str x t]) Q E s:=by
 have HD:=(tC g.chk).1;have Lh:=HD.c1;have c3:=HD.c3;have c2:=HD.c2;have c4:=HD.c4;have Rs:=HD.c6;have Iy:=HD.locs;refine wpAny_call (codeAny_call_generator Rm.lim (Bs.keep _ _ g.at_) g.data c3 c2 rfl (g.code.keeps Bs.keep) ?_);refine O (g.bind ..) ?_;refine cu (aU (wpAny_newFunctionEnv_cells Lh (λy hy=>.inl (by simp only[cf] at hy;subst hy;exact Rs)) λenv he bc xx hm=>?_));have Kt:∀y,env.kindOf y=g.sc.names.lookup y:=λy=>by refine O he ?_;rfl
 have hL:env.locals=s.heap.objs.size:=by refine O he ?_;rfl
 have hS:env.scope=g.sc:=by refine O he ?_;rfl
 have hG:env.globals=mainGlobals:=by refine O he ?_;rfl
 have Wn:env.builtins=builtinsNs:=by refine O he ?_;rfl
 refine xee xx.toInCall.same λIb tk aT=>?_;subst aT;refine⟨GK.nolimit.keeps λb o e=>xx.toInCall.keep b o (Bs.keep b o e),?_⟩;have Ic:=xx.toInCall.ns;have Kx:s.heap.objs.size<Ib.objs.size:=by refine XO hL ?_;refine lD Ic λo _ _ e _=>?_;exact dL e
 have P:Pure s {s with heap:=Ib,toks:=tk}:=Pure.mk' (λb o e=>xx.toInCall.keep b o e) hm;have e1:(Ib.push {cls:=.type "generator",data:=.fields #[.int s.gens.size 0,.str g.name tk,.str g.name (tk+1)]}).objs.size-1=Ib.objs.size:=by simp[bm]
 have Jd:s.toks<=tk:=hm.2;have iF:Pure s {s with gens:=s.gens.push (.fresh (.func g.body env)),heap:=Ib.push {cls:=.type "generator",data:=.fields #[.int s.gens.size 0,.str g.name tk,.str g.name (tk+1)]},toks:=tk+1+1}:=by
  refine⟨⟨λb o _ e=>bw _ (xx.toInCall.keep b o e),?_,λ_ q=>q.elim⟩,λi y e=>?_,λq=>q.push rfl,rfl,rfl,?_⟩
  ·show s.heap.objs.size<=(Ib.push _).objs.size;exact O (bm ..) (gj (da Kx))
  ·show(s.gens.push _)[i]?=some y;have:=(mh.mp e).1;refine O (Array.getElem?_push_lt this) ?_
   simpa [this] using e
  ·show s.toks<=tk+1+1;exact fn2 (.x .q (.A .ke .n1)) [.x .q .r] Jd
 have hb:=w8 (ko:=env.kindOf) (m:=λ_=>none) (m':=λ_=>none) (pars:=[("addr":Str)]) (vs:=[.str x t]) (j:=0) (x:="addr") (v:=.str x t) rfl rfl rfl;have X:EnvR (gcx g.sc) (cE g.sc) env {s with gens:=s.gens.push (.fresh (.func g.body env)),heap:=Ib.push {cls:=.type "generator",data:=.fields #[.int s.gens.size 0,.str g.name tk,.str g.name (tk+1)]},toks:=tk+1+1} (λ_=>False) (Ng1 env.locals) [some (.str x),none,none,none]:={
  base:={(Bs.pure iF) with
   above:=λb q=>q.elim (λq=>q.elim) λq=>by exact O q (O hL Bs.size)
   low:=λb q=>q.elim (λq=>q.elim) λq=>by
    show b<(Ib.push _).objs.size;refine O q (O hL (O (bm ..) ?_));exact ik Kx}
  kind:=by exact O hS Lh
  glb:=hG
  blt:=Wn
  gl:=λy hy=>by exact O (Kt ..) hy
  cl:=λy hy=>by rcases hy with hy | hy;exact absurd hy (Iy y).1;exact absurd hy (Iy y).2
  ns:=⟨_,Ic.keeps λ_ _ e=>bw _ e⟩
  noL:=rfl
  apart:=λy z c h1 h2=>name_of_addr xx.apart (aS h1) (aS h2)
  cellsLow:=λy c h=>by
   show c<(Ib.push _).objs.size;exact O (bm ..) (ik (xx.cell y c h).lt)
  vars:=λy i p h1 h2=>by
   refine xa (QL h2) λaT Ik=>?_;subst aT;subst Ik;have hy:y="addr":=iJ (l:=LN) (i:=0) rfl h1 rfl;subst hy;refine(gE (.str x t) (.loc _ (by exact O (Kt ..) Rs) (Ic.keeps λ_ _ e=>bw _ e) (hb.1 (by refine O (Kt ..) ?_;exact Rs))) (.str _ _) (λh=>(nomatch h)))
  stores:=λy hy=>.loc (by exact O (Kt ..) (QM HD hy))
  inj:=λy z i h1 h2=>iJ (l:=LN) rfl h1 h2
  alone:=λy z i j a h1 h2 h3 h4 h5=>(nomatch h5)
  disj:=λb _ q=>q
  turns:=λy i a h1 h2=>(nomatch h2)}
 have fin:=hQ _ env iF hS (λy=>by exact O (Kt ..) (Iy y)) (by refine O hL ?_;exact ah _) ?_ ?_ ?_ ?_ X ?_ ?_
 ·rw[e1] at fin;exact fin
 ·show env.locals+1<(Ib.push _).objs.size+1;exact O hL (O (bm ..) (Nat.succ_lt_succ (ik Kx)))
 ·show env.locals≠(Ib.push _).objs.size-1;exact O e1 (O hL (ez Kx))
 ·show s.heap.objs.size<=(Ib.push _).objs.size-1;exact O e1 (da Kx)
 ·show(Ib.push _).objs.size-1<(Ib.push _).objs.size;exact O e1 (O (bm ..) (fn1 (.y .q .kc) []))
 ·show li.IsGen (Ib.push _) ((Ib.push _).objs.size-1) _;exact O e1 (cD _ _ _ (ci _ rfl) rfl rfl rfl)
 ·show(s.gens.push _)[s.gens.size]?=_;simp
end
end Mine
end
section
open PySem PySem.W PyProof.Rows PySem.W.X
namespace Mine
section
variable{A:dt}{E:Vs}{s:ai}
def Woke (A:dt) (gs:GenState) (s:ai) (P:End->ai->Prop):Prop :=
 (∃c,gs=.fresh c/\SegX (model Pg W0) A c ((model Pg W0).den c) [] s P)\/(∃k l c p fs cl,gs=.suspended k l c p fs cl/\SegX (model Pg W0) A c (k (.send .none)) fs s P)
def NextEnd (P:End->ai->Prop) (Q:Option ag->ai->Prop) (g:Nat):Prop :=
 (∀v gl l k c p fs bc,P (.susp v gl l k c p fs) bc->(Bj v gl l k c p fs).quiet=true->Q (some v) (bc.setGen g (Bj v gl l k c p fs).genState)) /\
 (∀r bc,P (.ret r) bc->r=.ok (.ret .none)/\∀h',(∀b o,bc.heap.get? b=some o->h'.get? b=some o)->Q none {bc.setGen g .finished with heap:=h'})
theorem CL (hh:A.handled=none)
  (hl:s.heap.NoLimit) (Ua:A.depth<recursionLimit) (hg:s.heap.IsGen a g) (Op:s.gens[g]?=some gs) (Vy:Woke A.in1 gs (s.setGen g .running) P)
  (hN:NextEnd P Q g):wpAny (model Pg W0) A (pyNext (.ref a)) Q E s:=by
 unfold pyNext;refine bh (wpAny_attempt (wpAny_callSpecial?_slot (name:=Str.ofString "__next__") hg.typeIs slot_gen_next
  (wpAny_call_entry slot_gen_next hg.typeIs entry_gen_next ?_ (args_gen_next _))))
 show wpAny _ A.in1 (ty (.ref a) (.send .none)) _ _ s;unfold ty;refine bh (wpAny_holding (wpAny_genNumber hg (bh (wpAny_genState Op ?_))));rcases Vy with ⟨c,rfl,hx⟩ | ⟨k,l,c,p,fs,cl,rfl,hx⟩
 all_goals
  refine bh (wpAny_roomToWake hl Ua ?_);refine λΓ p' hΓ=>wake_any _ Pg W0 Op (by first | exact .inl (cS rfl rfl rfl rfl) | exact .inr (eH _ _ _ (iea _ rfl rfl))) (λΓ=>Γ.In A.in1) (λ_ h=>h) (c₀:=c) (λΓ p hc hΓ=>?_) Γ p' hΓ;refine eA (hx Γ p hc hΓ) λe bc hr hq hp=>?_;refine⟨e,bc,hr,hq,λΓ p hΓ=>?_⟩;cases e with
  | ret r =>
   apply xr (hN.2 r bc hp);intro Ni;refine(?_:wpAny (model Pg W0) A.in1 (newExc (.type "StopIteration") [] >>= _) _ _ _) Γ p hΓ;refine bh ?_
   dsimp only[newExc,newTuple]
   refine bh (wpAny_newObj_type ?_ (by size_fits));refine bh (m:=firstArgMember _ _) (wpAny_of_eq (a:=Ec) (by first | rfl | (dsimp only[firstArgMember];rfl)) ?_);refine wpAny_newObj_type ?_ (by size_fits)
   delta raiseNew;dsimp only
   refine bh (bh (wpAny_handled ?_))
   first | refine O (show A.in1.handled=none from hh) ?_ | rw[hh]
   refine wpAny_throw ?_;refine bh (wpAny_isInstance (T:="StopIteration") (b:=true) ⟨_,ci _ rfl,rfl⟩ isSubtype_stop ?_);exact cu (Ni _ λb o hb=>bw _ (bw _ hb))
  | susp v gl l k c p' fs =>
   have:=hN.1 v gl l k c p' fs bc hp hq;exact(cu ⟨v,rfl,cu this⟩:wpAny (model Pg W0) A.in1 (dw _) _ _ _) Γ p hΓ
end
section
variable{F:Fn}{B:Nat}
variable{A:dt}{cx:Cx}{asg:List Str}{env:Env}{s s':ai}{Na No Ng:Ap}{pe:PEnv}{E:Vs}
theorem gJ (h:pw s.gens) (hg:gs.bare=true):pw (s.setGen g gs).gens:=by
 intro y hy;unfold uo at hy;simp only at hy;rcases Array.mem_or_eq_of_mem_setIfInBounds hy with h1 | rfl
 ·exact h y h1
 ·exact hg
theorem kM (Io:i≠g) (h:s.gens[i]?=some y):(s.setGen g gs).gens[i]?=some y:=by
 unfold uo;simp only;exact O (Array.getElem?_setIfInBounds_ne (uc Io)) h
theorem Later.trans' (h1:∀b o,Ng b->s.heap.get? b=some o->s'.heap.get? b=some o) (hg:s.heap.objs.size<=s'.heap.objs.size) (h:Later Ng s' Jl):Later Ng s Jl :=
 ⟨λb o hb e=>h.own b o hb (h1 b o hb e),h.keep,aa hg h.grow,h.toks,h.bare⟩
def Ng4 (Na Ng:Ap) (I:er):Ap:=λb=>Na b\/Ng b\/b=I
structure EscInv (A:dt) (cx:Cx) (asg:List Str) (env:Env) (items:List PV) (s:ai) (Na No:Ap) (I:er) (gi:Nat) (k:Nat) (pe:PEnv) (Ng BY:Ap) (s':ai):Prop where
 ext:Ext s No s' BY
 env_:EnvR cx asg env s' (Ng4 Na Ng I) BY pe
 gen:s'.heap.IsGen I gi
 high:∀b,Ng b->s.heap.objs.size<=b
 apart:¬Ng I
 run:∃gs,s'.gens[gi]?=some gs/\∀Jl,Later Ng s' Jl->Woke A.in1 gs Jl (RunP A.in1 items (items.length-k) Ng Jl)
structure Woken (s' iN s₄:ai) (Ng Ne Ng':Ap) (gi:Nat):Prop where
 sub:∀b,Ng b->Ng' b
 new:∀b,Ng' b->Ng b\/s'.heap.objs.size<=b
 e:Ext (s'.setGen gi .running) Ng iN Ne
 low:Low Ng' s₄.heap
 keep:∀b o,iN.heap.get? b=some o->s₄.heap.get? b=some o
 grow:s'.heap.objs.size<=s₄.heap.objs.size
 toks:s₄.toks=iN.toks
 bare:pw s₄.gens
 os:s₄.os=iN.os
 drawn:s₄.drawn=iN.drawn
 gens:∀i y,i≠gi->iN.gens[i]?=some y->s₄.gens[i]?=some y
theorem tE{items:List PV}{I:er}{gi k:Nat}{BY Ne Ng':Ap}(Li:EnvR cx asg env s Na No pe){Do:PEnv}(Px:s.gens.size<=gi) (V:EscInv A cx asg env items s Na No I gi k Do Ng BY s'){iN s₄:ai}(W:Woken s' iN s₄ Ng Ne Ng' gi) :
  Ext s No s₄ BY/\EnvR cx asg env s₄ (Ng4 Na Ng' I) BY Do/\s₄.heap.IsGen I gi:=by
 have X:=V.env_;have Vf:=W.grow;have htk:s'.toks<=s₄.toks:=by exact O W.toks (show(s'.setGen gi .running).toks<=iN.toks from Ext.toks W.e)
 refine(iaa ⟨⟨λb o hn e=>?_,aa V.ext.step.grow Vf,V.ext.step.new⟩,λi y e=>?_,λ_=>W.bare,?_,?_,aa (Ext.toks V.ext) htk⟩ ?_ ?_)
 ·exact W.keep b o (W.e.step.keep b o (λq=>absurd (dL e) (av.mpr (V.high b q))) (V.ext.step.keep b o hn e))
 ·have Io:i≠gi:=λq=>absurd (mh.mp e).1 (av.mpr (q ▸ Px));exact W.gens i y Io (W.e.gens i y (kM Io (V.ext.gens i y e)))
 ·exact O W.os (O W.e.os V.ext.os)
 ·exact O W.drawn (O W.e.drawn V.ext.drawn)
 ·refine X.pokes (Z:=Ng) (λb q=>.inr (.inl q)) (λy c h q=>absurd (Li.cellsLow y c h) (av.mpr (V.high c q))) (λb q=>q.imp id λq=>q.imp (W.sub b) id) (λb q=>?_) (λb q=>?_) (λb o hn e=>W.keep b o (W.e.step.keep b o hn e)) Vf htk (λ_=>W.bare)
  ·rcases q with q | q | q
   ·exact .inl (.inl q)
   ·exact(W.new b q).imp (λq=>.inr (.inl q)) id
   ·exact .inl (.inr (.inr q))
  ·rcases q with q | q | q
   ·exact ac (X.base.low b (.inl (.inl q))) Vf
   ·exact W.low b q
   ·exact ac (X.base.low b (.inl (.inr (.inr q)))) Vf
 ·refine lD V.gen λo nm qn e r=>?_;exact(gG o nm qn (W.keep I o (W.e.step.keep I o V.apart e)) r)
theorem vZ (h:s.gens[g]?=some y):(s.setGen g gs).gens[g]?=some gs:=by
 unfold uo;have:=(mh.mp h).1;simp[this]
theorem AC (h:RunP A items 0 Ng s₂ e iN):∃Ng',(∀b,Ng b->Ng' b)/\Ext s₂ Ng iN Ng'/\Low Ng' iN.heap/\e=.ret (.ok (.ret .none)):=h
theorem EL{a k:Nat}(h:a-k≠0):∃m,a-k=m+1/\k<a/\a-(m+1)=k/\a-(k+1)=m:=by
 have h1:=Nat.lt_of_sub_ne_zero h;have e:a-k-1+1=a-k:=ae (ui h1);exact⟨a-k-1,e.symm,h1,by exact O e (Nat.sub_sub_self (da h1)),(Nat.sub_sub a k 1).symm⟩
theorem G1{items:List PV}{I:er}{gi k:Nat}{BY:Ap}{Q:Option ag->ai->Prop}(Li:EnvR cx asg env s Na No pe){Do:PEnv}(Px:s.gens.size<=gi) (V:EscInv A cx asg env items s Na No I gi k Do Ng BY s'){v:ag}{gl:Bool}{l:List ag}{kk:Resume->Sem Fin}{c:Ha}{p:Pos}{fs:List Dx}{iN:ai}
  (hp:RunP A.in1 items (items.length-k) Ng (s'.setGen gi .running) (.susp v gl l kk c p fs) iN) (hq:(Bj v gl l kk c p fs).quiet=true)
  (Oh:k<items.length->∀v q s₂ Ng',items[k]?=some q->(∀b,Ng b->Ng' b)->RV s₂.heap (λb=>Ng4 Na Ng' I b\/BY b) v q->EscInv A cx asg env items s Na No I gi (k+1) Do Ng' BY s₂->Q (some v) s₂) :
  Q (some v) (iN.setGen gi (Bj v gl l kk c p fs).genState):=by
 by_cases h0:items.length-k=0
 ·rw[h0] at hp;refine bV (AC hp) λ_ _ _ _ h=>?_;cases h
 ·refine bV (EL h0) λm hm Im Vg Jd=>?_;rw[hm] at hp;obtain⟨Ng',Mb,he,Kl,v',gl',l',k',c',p',Nc,Pa,Oo,⟨q,XS,T,vs,tl,hv,rfl,ZA,XQ,ZB,ZC⟩,Ub⟩:=hp;cases Pa;subst hv;rw[Vg] at XS;have X:=V.env_;refine xea V.run λgs Op _=>?_;have Wo:pw (s'.setGen gi .running).gens:=gJ X.base.bare rfl;have a:=tE Li Px V (s₄:=iN.setGen gi (Bj (Bx T) gl l kk c p fs).genState) ⟨Mb,he.step.new,he,Kl,λ_ _ e=>e,he.step.grow,rfl,gJ (he.bare Wo) (End.bare_of_quiet hq),rfl,rfl,λi y Io e=>kM Io e⟩;have nlow:∀{b},b<s'.heap.objs.size->b≠T:=λhb e=>absurd hb (av.mpr (e ▸ XQ));refine Oh Im _ _ _ Ng' XS Mb (.tup (λq=>?_) ZB (ZC _ _)) ⟨a.1,a.2.1,a.2.2,λb q=>(he.step.new b q).elim (V.high b) λq=>aa V.ext.step.grow q,λq=>(he.step.new I q).elim V.apart λq=>absurd (X.base.low I (.inl (.inr (.inr rfl)))) (av.mpr q),?_⟩
  ·rcases q with (q | q | q) | q
   ·exact nlow (X.base.low T (.inl (.inl q))) rfl
   ·exact ZA q
   ·exact nlow (X.base.low T (.inl (.inr (.inr q)))) rfl
   ·exact nlow (X.base.low T (.inr q)) rfl
  ·refine(iea _ (vZ (he.gens gi _ (vZ Op))) (λJl Rt=>.inr (eH kk l c (gG p fs _ rfl ?_))));exact O Jd (qW.mp (Ub Jl ⟨Rt.own,Rt.keep,Rt.grow,Rt.toks,Rt.bare⟩))
theorem LU{items:List PV}{I:er}{gi k:Nat}{BY:Ap}{Q:Option ag->ai->Prop}(Li:EnvR cx asg env s Na No pe){Do:PEnv}(Px:s.gens.size<=gi) (hk:k<=items.length) (V:EscInv A cx asg env items s Na No I gi k Do Ng BY s'){r:Ce}{iN:ai}
  (hp:RunP A.in1 items (items.length-k) Ng (s'.setGen gi .running) (.ret r) iN) (Oi:k=items.length->∀s₂,Ext s No s₂ BY->EnvR cx asg env s₂ Na BY Do->Q none s₂) :
  r=.ok (.ret .none)/\∀h',(∀b o,iN.heap.get? b=some o->h'.get? b=some o)->s'.heap.objs.size<=h'.objs.size->Q none {iN.setGen gi .finished with heap:=h'}:=by
 by_cases h0:items.length-k=0
 ·rw[h0] at hp;refine bV (AC hp) λNg' Mb he Kl h=>?_;cases h;refine⟨rfl,λh' Kc hg=>?_⟩;have Wo:pw (s'.setGen gi .running).gens:=gJ V.env_.base.bare rfl;have a:=tE Li Px V (s₄:={iN.setGen gi .finished with heap:=h'}) (Ng':=Ng) ⟨λ_ q=>q,λ_ q=>.inl q,he,λb q=>ac (V.env_.base.low b (.inl (.inr (.inl q)))) hg,Kc,hg,rfl,gJ (he.bare Wo) rfl,rfl,rfl,λi y Io e=>kM Io e⟩;exact Oi (az hk (Nat.le_of_sub_eq_zero h0)) _ a.1 (a.2.1.narrow λb q=>.inl q)
 ·refine xea (EL h0) λm hm _=>?_;rw[hm] at hp;refine bV hp λNg' Mb he Kl zt=>?_;refine eJ zt λv' gl' l' k' zt=>?_;refine lD zt λc' p' Nc Pa _=>?_;clear zt;clear hp;cases Pa
theorem LV (GK:Glo){items:List PV}{I:er}{gi k:Nat}{BY:Ap}{Q:Option ag->ai->Prop}(R:Room A 3) (Li:EnvR cx asg env s Na No pe){Do:PEnv}(Px:s.gens.size<=gi) (hk:k<=items.length)
  (V:EscInv A cx asg env items s Na No I gi k Do Ng BY s')
  (Oi:k=items.length->∀s₂,Ext s No s₂ BY->EnvR cx asg env s₂ Na BY Do->Q none s₂)
  (Oh:k<items.length->∀v q s₂ Ng',items[k]?=some q->(∀b,Ng b->Ng' b)->RV s₂.heap (λb=>Ng4 Na Ng' I b\/BY b) v q->EscInv A cx asg env items s Na No I gi (k+1) Do Ng' BY s₂->Q (some v) s₂) :
  wpAny (model Pg W0) A (pyNext (.ref I)) Q E s':=by
 refine xea V.run λgs Op Ru=>?_;have X:=V.env_;refine aU (CL R.hh (GK.nolimit.keeps X.base.keep) R.lim V.gen Op (Ru _ ⟨λ_ _ _ e=>e,X.base.keep,ah _,X.base.toks,gJ X.base.bare rfl⟩) ⟨λv gl l kk c p fs iN hp hq _=>G1 Li Px V hp hq Oh,λr iN hp=>?_⟩);have h:=LU Li Px hk V hp Oi;exact⟨h.1,λh' Kc hm=>h.2 h' Kc hm.1⟩
theorem CM (h:BV g=true):g=.gen:=by cases g <;> first | exact nf h | rfl
theorem xD (h:eO p=some items):∃x,p=.str x/\(x.length<=10000/\x.cps.all (·<128)=true)/\eK 0 false x.cps.toList=items:=by
 cases p <;> try (exact nn h)
 exact(gE _ rfl ((aL h).1) (sm (aL h).2))
theorem G2 (P:Pure s bc):s.gens.size<=bc.gens.size:=by
 rcases Ag s.gens.size with h0 | hp
 ·exact O h0 (iq _)
 ·have h1:s.gens[s.gens.size-1]?=some s.gens[s.gens.size-1]:=Array.getElem?_eq_getElem (Dt hp tz);have:=(mh.mp (P.gens _ _ h1)).1;exact fn3 (.x .q .r) [.y .s .r,.z1 .q .kL] this (ae (fan [_] (.x .n1 .q) [.y .n0 .q] hp)).symm
theorem EscInv.step (V:EscInv A cx asg env items s Na No I gi k Do Ng BY s') (e:Ext s' BY s₂ ID) (X:EnvR cx asg env s₂ (Ng4 Na Ng I) ID It):EscInv A cx asg env items s Na No I gi k It Ng ID s₂:=by
 refine⟨V.ext.trans e,X,?_,V.high,V.apart,?_⟩
 ·refine lD V.gen λoI nm qn hoI r=>?_;exact(gG oI nm qn (e.step.keep _ _ (λq=>V.env_.disj _ q (.inr (.inr rfl))) hoI) r)
 ·refine xea V.run λgs Op Ru=>?_;exact(iea gs (e.gens _ _ Op) (λJl hL=>Ru Jl (Later.trans' (λb o hb ho=>e.step.keep b o (λq=>V.env_.disj b q (.inr (.inl hb))) ho) e.step.grow hL)))
theorem LW{items:List PV}{I:er}{gi k n:Nat}{BY:Ap}{Do pe':PEnv}{fl:Fl}{ts:List Nat}{body:PSs}{tgt:ao}{bs:List ig}{v:ag}{q:PV}{Q:Dv->ai->Prop}{J:Nat->ai->Prop}(hh:A.handled=none) (ha:ExecsP F B body) (htop:cx.top=true) (R2:Room A (nss body+B))
  (h1:nZ cx asg tgt ts=true) (h5:fN cx asg bs body=true) (hq:items[k]?=some q) (Nw:RV s'.heap (λb=>Ng4 Na Ng I b\/BY b) v q) (V:EscInv A cx asg env items s Na No I gi (k+1) Do Ng BY s') (hf:dD (aE F body) ts (items.drop k) Do=some (pe',fl))
  (hQ:∀f s' No',Ext s No s' No'->EnvR cx asg env s' (Ng4 Na Ng I) No' pe'->FlR s'.heap (Ng4 Na Ng I) fl f->Q f s')
  (hJ:∀s₂ ID It,EscInv A cx asg env items s Na No I gi (k+1) It Ng ID s₂->dD (aE F body) ts (items.drop (k+1)) It=some (pe',fl)->∃m,m<n/\J m s₂) :
  wpAny (model Pg W0) A (letOwnedTupleGo tgt (.ref I) v) (λ_ Jn=>wpAny (model Pg W0) A (assign tgt env v) (λ_ s₂=>wpAny (model Pg W0) A (execs bs env) (λf iN=>match f with
   | .next | .cont=>∃m,m<n/\J m iN
   | .brk=>Q .next iN
   | .ret v=>Q (.ret v) iN) E s₂) E Jn) E s':=by
 rw[pC hq] at hf;refine mX (vT hf) λJk Ia f2 hb d2 h=>?_;refine mX V.gen λoI nm qn hoI hcI _=>?_;refine pY hoI hcI (by decide) (s6 hh V.env_ h1 Nw hb λIh Lf Iq=>?_);have Rv:=V.step Lf Iq;rcases h with ⟨rfl,h⟩ | ⟨rfl,rfl,rfl⟩ | ⟨v,rfl,rfl,rfl⟩
 ·refine ha htop R2 Iq h5 d2 λf Iv Kp Jo Jp hf=>?_;cases hf.next_inv;exact hJ Iv Kp Ia (Rv.step Jo Jp) h
 ·refine ha htop R2 Iq h5 d2 λf Iv Kp Jo Jp hf=>?_;cases hf.brk_inv;exact hQ _ _ Kp (Rv.step Jo Jp).ext Jp .next
 ·refine ha htop R2 Iq h5 d2 λf Iv Kp Jo Jp hf=>?_;apply xer hf.ret_inv;intro v hr;exact hQ _ _ Kp (Rv.step Jo Jp).ext Jp (.ret hr)
theorem LY (GK:Glo){items:List PV}{I:er}{gi:Nat}{pe':PEnv}{fl:Fl}{ts:List Nat}{body:PSs}{tgt:ao}{bs:List ig}{RR:Ce->ai->Prop}(R:Room A 3) (X:EnvR cx asg env s Na No pe) (ZD:s.gens.size<=gi) (ha:ExecsP F B body) (htop:cx.top=true) (R2:Room A (nss body+B))
  (h1:nZ cx asg tgt ts=true) (h5:fN cx asg bs body=true) (V:EscInv A cx asg env items s Na No I gi 0 pe Ng No s') (hf:dD (aE F body) ts items pe=some (pe',fl))
  (hQ:∀f s' No',Ext s No s' No'->EnvR cx asg env s' Na No' pe'->FlR s'.heap Na fl f->RR (.ok f) s'):codeAny (model Pg W0) A (.forLoop tgt (.ref I) bs [] env) RR s':=by
 refine s7 (λn s'=>∃k Do Ng BY,k<=items.length/\n=items.length-k/\EscInv A cx asg env items s Na No I gi k Do Ng BY s'/\dD (aE F body) ts (items.drop k) Do=some (pe',fl)) ?_ items.length (f8 0 pe Ng No (iq _) rfl ⟨V,hf⟩);clear V hf
 rintro n s' ⟨k,Do,Ng,BY,hk,rfl,V,hf⟩ E'
 refine LV GK R X ZD hk V (λZE s₂ he X'=>?_) (λIm v q s₄ Ng' hq Mb Nw V'=>?_)
 ·subst ZE;rw[vf] at hf;refine xa (bX hf) λaT Ik=>?_;subst aT;subst Ik;exact hQ _ _ BY he X' .next
 ·exact LW (Q:=λf s=>RR (.ok f) s) R.hh ha htop R2 h1 h5 hq Nw V' hf (λf s' No' e X' hf=>hQ f s' No' e (X'.narrow λb q=>.inl q) (hf.narrow λb q=>.inl q)) λs₂ ID It Wp hf=>(iea (items.length-(k+1)) (pn Im (dh k)) (f8 (k+1) It Ng' ID Im rfl ⟨Wp,hf⟩))
set_option maxHeartbeats 1600000 in
theorem LZ (hB:3<=B) (GK:Glo) (FK:FunOK F B) (g:GenRec (fA 1000)) (ha:ExecsP F B body):ExecP F B (.esc ts e body):=by
 intro A cx asg env s Na No pe pe' fl Kw Q E htop R X hc hd hQ;have R':Room A (max (nd e) (nss body)+B):=R.le (bn (iv _ 12) _);have R3:Room A (B+10):=R.le (by show B+10<=max (nd e) (nss body)+12+B;exact fn2 (.x (.A .q (.N 10)) (.A (.A .r (.N 12)) .q)) []);refine eJ (P4 hc) λtgt g' a cpos zt=>?_;apply iB zt;intro bs pos h1 h2 zt;refine xaa zt λh3 h4 h5=>?_;clear zt;refine eA (QC hd) λp items d1 hit hf=>?_;obtain⟨x,rfl,hx,rfl⟩:=xD hit;clear hc hd hit;apply fJ (hO h2);intro gx gpos gg q1 q2 q3 q4;refine wpAny_For (wpAny_Call_NameR (fZ GK X q1 q2 q3 λv hv=>?_)) (λ_=>rfl);cases CM q4;apply xr hv;intro zt;refine jE zt λo fd hg Vn=>?_;clear zt;clear hv;refine O (bL h3) (va (o:=o) (fd:=fd) (ib (fe ((aC hB GK FK e).1 R'.n1 X h4 d1 λv bc dO Hx=>lm ⟨⟨dO.keep _ _ (X.base.keep _ _ hg),Vn⟩,?_⟩))));apply xeR Hx.t.inv;intro tx;refine LR GK g (R3.le (aa (by decide) (lr 10 B))) (X.pure dO).base λs₂ bY iF Op XT ZF Rt ZG Oy Nz Xg Uc Mn=>?_;refine wpAny_pyIter_gen Uc ?_;generalize s₂.heap.objs.size-1=I at *;have P12:=dO.trans iF;have XU:s.heap.objs.size<=bY.locals:=aa dO.step.grow ZF;have hsI:s.heap.objs.size<=I:=aa dO.step.grow Oy;have Hz:EnvR cx asg env s₂ (Ng4 Na (Ng1 bY.locals) I) No pe:=by
  refine X.wideA P12 (λb q=>.inl q) (λb q=>?_) λb q=>?_
  ·rcases q with q | q | q
   ·exact .inl q
   ·exact .inr (by exact O q XU)
   ·exact .inr (by exact O q hsI)
  ·rcases q with q | q | q
   ·exact ac (X.base.low b (.inl q)) P12.step.grow
   ·exact O q (Nat.lt_of_succ_lt_succ Rt)
   ·exact O q Nz
 refine LY GK (R3.le (aa (by decide) (lr 10 B))) X (G2 dO) ha htop R'.n2 h1 h5 (Ng:=Ng1 bY.locals) ⟨Pure.toExt P12 λb q=>.inl q,Hz,Uc,λb q=>by exact O q XU,λq=>ZG q.symm,_,Mn,λJl hL=>.inl ⟨_,rfl,?_⟩⟩ hf hQ;have Xg':=Xg.again (Ng:=Ng1 bY.locals) (Na':=λ_=>False) (No':=Ng1 bY.locals) (λi q h=>CJ h) rfl rfl XT hL rfl
  (λb q=>q.elim (λq=>q.elim) λq=>⟨by exact O q (Xg.base.above _ (.inr rfl)),by refine O q ?_;exact ac (Xg.base.low _ (.inr rfl)) hL.grow⟩) rfl (λb _ q=>q)
 exact qW.mp (G0 (A:=A) hB GK FK Op XT g.chk hx.1 hx.2 R3 Xg')
end
end Mine
end
section
set_option tactic.hygienic true
open PySem PySem.W PyProof.Rows
namespace Mine
section
variable{F:Fn}{B:Nat}
mutual
theorem QN (hB:3<=B) (GK:Glo) (FK:FunOK F B) (g:GenRec (fA 1000)):∀p:PS,ExecP F B p
 | .asg i e=>n9 (λp=>(aC hB GK FK p).1) (λp=>(aC hB GK FK p).2) (λp=>i4 hB GK FK p) i e
 | .asgO i e=>GP (λp=>(aC hB GK FK p).1) (λp=>(aC hB GK FK p).2) (λp=>i4 hB GK FK p) i e
 | .newD i=>GQ GK i
 | .asgT ts e=>GU (λp=>(aC hB GK FK p).1) ts e
 | .aug i op e=>K6 (λp=>(aC hB GK FK p).1) i op e
 | .app i e=>K9 (λp=>(aC hB GK FK p).1) i e
 | .pop j i=>LC j i
 | .setI i k v=>GS (λp=>(aC hB GK FK p).1) i k v
 | .ite t a b=>LF (λp=>(aC hB GK FK p).2) (iK hB GK FK g a) (iK hB GK FK g b)
 | .for ts src body=>LJ (λp=>i4 hB GK FK p) (iK hB GK FK g body)
 | .esc ts e body=>LZ hB GK FK g (iK hB GK FK g body)
 | .while n t body=>CF (λp=>(aC hB GK FK p).2) (iK hB GK FK g body)
 | .ret e=>K7 (λp=>(aC hB GK FK p).1) e
 | .brk=>K8
theorem iK (hB:3<=B) (GK:Glo) (FK:FunOK F B) (g:GenRec (fA 1000)):∀p:PSs,ExecsP F B p
 | .nil=>GT
 | .cons s ss=>CG (QN hB GK FK g s) (iK hB GK FK g ss)
end
theorem L0{F:Fn}(hd:dJ F f ps=some r):ps.length=f.pars.length/\∃pe',aE F f.code (jI ps f.n)=some (pe',.ret r):=by
 have h:=aL hd;refine⟨h.1,?_⟩;have h2:=h.2;revert h2;cases aE F f.code (jI ps f.n) with
 | none=>exact nn
 | some x =>
  obtain⟨p,fl⟩:=x;cases fl with
  | ret v=>exact λh=>⟨p,congrArg (λv=>some (p,Fl.ret v)) (sm h)⟩
  | _=>exact nn
theorem G3 (hB:3<=B) (GK:Glo) (FK:FunOK F B) (g:GenRec (fA 1000)) 
  (hc:QE f body sc=true) (ho:H0.get? a=some o) (Ud:o.data=.func (dv name params body sc pm cd doc)) (XV:H0.CodeRec cd name)
  (Ue:∀vs:List ag,vs.length=f.pars.length->bindArgs (dv name params body sc pm cd doc) ⟨vs,[]⟩=dw (f.pars.zip vs))
  (R:Room A (nss f.code+B+1)) (Bs:Base s N) (rs:RVs s.heap N vs ps) (hd:dJ F f ps=some r) (hQ:∀v s',Pure s s'->RV s'.heap N v r->Q v s'):wpAny (model Pg W0) A (call (.ref a) vs) Q E s:=by
 obtain⟨hlen,pe',Wq⟩:=L0 hd;simp only[QE,ay,dq] at hc;obtain⟨⟨⟨⟨⟨⟨⟨⟨⟨c1,c2⟩,c3⟩,c4⟩,c5⟩,c6⟩,c7⟩,c8⟩,c9⟩,c10⟩:=hc;have Lh:sc.kind=.function:=eq_of_beq c1;have ZI:vs.length=f.pars.length:=by exact O rs.length (O hlen rfl)
 have hz:∀x∈f.pars.zip vs,sc.names.lookup x.1=some .local\/sc.names.lookup x.1=some .cell:=by
  intro x hx;refine xe (List.mem_iff_getElem?.mp (Dg hx).1) λj hj=>?_;exact(mA c9 hj).2.2.2
 have Vh:∀y,sc.names.lookup y=some .cell->∃c,(cellsFrom (s.heap.objs.size+1) sc.names []).lookup y=some c/\s.heap.objs.size+1<=c:=by
  intro y hy;have:=iH (h:=s.heap.push {cls:=.type "dict",data:=.dict #[]}) (acc:=[]) c4 (aS hy);rw[bm] at this;refine lC this λc q1 q2 _=>?_;exact(iea c q1 q2)
 refine wpAny_call (codeAny_call_function R.lim (Bs.keep _ _ ho) Ud c3 c2 rfl (XV.keeps Bs.keep) ?_);refine O (Ue vs ZI) ?_;refine cu (aU (wpAny_newFunctionEnv_cells Lh (λx hx=>(hz x hx).imp id λq=>⟨q,by refine xea (Vh _ q) λc q1 _=>?_;show(Cp x.1 (cellsFrom _ sc.names [])).isSome=true;refine O q1 ?_;rfl⟩) λenv he bc x hm=>?_));subst he;refine⟨GK.nolimit.keeps λb o e=>x.toInCall.keep b o (Bs.keep b o e),codeAny_func ?_⟩;refine xee x.toInCall.same λIb tk aT=>?_;subst aT;have Oj:(newEnv (dv name params body sc pm cd doc).scope s.heap.objs.size (dv name params body sc pm cd doc).globals (cellsFrom (s.heap.objs.size+1) (dv name params body sc pm cd doc).scope.names [])
   ((dv name params body sc pm cd doc).qualname++".<locals>.") (some a) (dv name params body sc pm cd doc).code none (dv name params body sc pm cd doc).builtins).kindOf=λy=>sc.names.lookup y:=rfl
 generalize Ol:(newEnv (dv name params body sc pm cd doc).scope s.heap.objs.size (dv name params body sc pm cd doc).globals (cellsFrom (s.heap.objs.size+1) (dv name params body sc pm cd doc).scope.names [])
   ((dv name params body sc pm cd doc).qualname++".<locals>.") (some a) (dv name params body sc pm cd doc).code none (dv name params body sc pm cd doc).builtins)=env at *
 have hL:env.locals=s.heap.objs.size:=by refine XO Ol ?_;rfl
 have hC:env.cells=cellsFrom (s.heap.objs.size+1) sc.names []:=by refine XO Ol ?_;rfl
 have hS:env.scope=sc:=by refine XO Ol ?_;rfl
 have hG:env.globals=mainGlobals:=by refine XO Ol ?_;rfl
 have Wn:env.builtins=builtinsNs:=by refine XO Ol ?_;rfl
 have Kt:∀y,env.kindOf y=sc.names.lookup y:=λy=>congrFun Oj y;have Ic:=x.toInCall.ns;have Kx:s.heap.objs.size<Ib.objs.size:=by refine XO hL ?_;refine lD Ic λo _ _ e _=>?_;exact dL e
 have P:Pure s {s with heap:=Ib,toks:=tk}:=Pure.mk' (λb o e=>x.toInCall.keep b o e) hm;have arg:∀(y:Str) (i:Nat) (p:PV),(f.cx sc).vars.lookup y=some i->lk (jI ps f.n) i=some p->f.pars[i]?=some y/\ps[i]?=some p/\f.own.contains i=false/\f.tk.contains i=false:=by
  intro y i p h1 h2;have h3:=QF h2;have hi:i<f.pars.length:=by exact XO hlen ((de.mp h3).1)
  have h4:f.pars[i]?=some f.pars[i]:=by simp[hi]
  refine aP (mA c9 h4) λq1 q2 q3 _=>?_;simp only[mz] at q1 q2 q3;have:y=f.pars[i]:=iJ c6 h1 q1;exact(cS (by exact O this h4) h3 q2 q3)
 have X:EnvR (f.cx sc) (cE sc) env {s with heap:=Ib,toks:=tk} N (λb=>s.heap.objs.size<=b/\b<Ib.objs.size) (jI ps f.n):={
  base:={(Bs.pure P) with
   above:=λb q=>q.elim (Bs.above b) λq=>aa Bs.size q.1
   low:=λb q=>q.elim (λq=>iz (Bs.low b q) Kx) λq=>q.2}
  kind:=by exact O hS Lh
  glb:=hG
  blt:=Wn
  gl:=λy hy=>by exact O (Kt ..) hy
  cl:=λy hy=>by
   have Oq:sc.names.lookup y=some .cell:=by
    rcases hy with hy | hy
    ·exact hy
    ·have:=am.mp c7 _ (aS hy);simp at this
   refine xea (Vh y Oq) λc q1 q2=>?_;exact(DT (.inl (by exact O (Kt ..) Oq)) c _ (by refine O hC ?_;exact q1) (x.cell y c (by exact O hC q1)))
  ns:=⟨_,Ic⟩
  noL:=by exact O hL ⟨ah _,Kx⟩
  apart:=λy z c h1 h2=>name_of_addr x.apart (aS h1) (aS h2)
  cellsLow:=λy c h=>(x.cell y c h).lt
  vars:=λy i p h1 h2=>by
   refine aP (arg y i p h1 h2) λh3 h4 h5 h6=>?_;refine xea (rs.get h4) λv hv rv=>?_;have hb:=w8 (ko:=env.kindOf) (m:=λ_=>none) (m':=λ_=>none) c8 h3 hv;refine(gE v ?_ ?_ (λh=>by rw[show(f.cx sc).tk.contains i=f.tk.contains i from rfl,h6] at h;cases h))
   ·have hk:=(mA c9 h3).2.2.2;rcases hk with hk | hk
    ·exact .loc _ (by exact O (Kt ..) hk) Ic (hb.1 (by refine O (Kt ..) ?_;exact hk))
    ·refine xea (Vh y hk) λc q1 q2=>?_;have:=x.cell y c (by exact O hC q1);rw[hb.2 (by refine O (Kt ..) (O hk ?_);decide)] at this;exact .cell c (.inl (by exact O (Kt ..) hk)) (by refine O hC ?_;exact q1) this
   ·exact O (show(f.cx sc).own.contains i=f.own.contains i from rfl) (O h5 (rv.step ⟨λb o _ e=>Pure.keep P b o e,da Kx,λb q=>q.elim .inl λq=>.inr q.1⟩))
  stores:=λy hy=>by
   obtain⟨⟨n,k⟩,Wm,e⟩:=fg.mp hy;simp only at e;subst e;refine xa (rx.mp Wm) λMa Jd=>?_;simp only[oc] at Jd;rcases Jd with Jd | Jd
   ·exact .loc (by exact O (Kt ..) (O (bR c4 Ma) (O (eq_of_beq Jd) rfl)))
   ·have hk:sc.names.lookup n=some .cell:=by exact O (bR c4 Ma) (O (eq_of_beq Jd) rfl)
    refine xea (Vh n hk) λc q1 q2=>?_;have Il:=x.cell n c (by exact O hC q1);exact .cell c _ (by exact O (Kt ..) hk) (by refine O hC ?_;exact q1) ⟨Be q2,Il.lt⟩ Il
  inj:=λy z i h1 h2=>iJ c6 h1 h2
  alone:=λy z i j b h1 h2 h3 h4 h5 h6 h7 h8=>by
   refine xe (aq.mp h3) λp hp=>?_;have:=(arg y i p h1 hp).2.2.1;rw[show(f.cx sc).own.contains i=f.own.contains i from rfl,this] at h5;cases h5
  disj:=λb hb ha=>absurd (Bs.low b ha) (av.mpr hb.1)
  turns:=λy i b h1 h2 h3 h4=>by
   refine xe (aq.mp h3) λp hp=>?_;have:=(arg y i p h1 hp).2.2.1;rw[show(f.cx sc).own.contains i=f.own.contains i from rfl,this] at h2;cases h2}
 have R':Room (A.deeper env) (nss f.code+B):=⟨R.hh,by have:=R.depth;show A.depth+1+_<900;exact fn3 (.y (.A .kc .k5) .jW) [.y (.A .q (.A .k5 .n1)) .jW] this,by have:=R.units;show A.units+3+_<9000;exact fn3 (.y (.A (.A .q .n3) (.M .n8 .k5)) .jk) [.y (.A .q (.M .n8 (.A .k5 .n1))) .jk] this⟩;refine iK hB GK FK g f.code rfl R' X c10 Wq λfl s' No' he X' hf=>?_;cases hf with
 | ret hr =>
  have ZJ:=P.toExt (No:=λ_=>False) (No':=λb=>s.heap.objs.size<=b/\b<Ib.objs.size) λb q=>.inr q.1;have Rw:=ZJ.trans he;exact hQ _ s' ⟨⟨λb o _ e=>Rw.step.keep b o (λq=>q) e,Rw.step.grow,λ_ q=>q.elim⟩,Rw.gens,Rw.bare,Rw.os,Rw.drawn,Ext.toks Rw⟩ hr
end
end Mine
end
section
open PySem PySem.W PyProof.Rows
namespace Mine
def FT (aI:List FSpec):Nat->Fn
 | 0=>λ_ _=>none
 | n+1=>λf args=>match aI[f]? with
  | some fs=>dJ (FT aI n) fs args
  | none=>none
structure FunRec (a:er) (f:FSpec) where
 name:Str
 params:Fb
 body:List ig
 sc:md
 pm:ag
 cd:ag
 doc:ag
 o:Obj
 chk:QE f body sc=true
 at_:H0.get? a=some o
 data:o.data=.func (dv name params body sc pm cd doc)
 code:H0.CodeRec cd name
 bind:∀vs:List ag,vs.length=f.pars.length->bindArgs (dv name params body sc pm cd doc) ⟨vs,[]⟩=dw (f.pars.zip vs)
section
set_option tactic.hygienic true in
theorem qC{aI:List FSpec}{mx:Nat}(GK:Glo) (g:GenRec (fA 1000)) (hr:∀k f,aI[k]?=some f->Nonempty (FunRec (fA k) f)) (hm:∀f∈aI,nss f.code<=mx) :
  ∀n:Nat,FunOK (FT aI n) (3+n*(mx+1))
 | 0=>by
  intro f A s N vs ps r Q E R Bs rs hd;cases hd
 | n+1=>by
  intro f A s N vs ps r Q E R Bs rs hd hQ;have hd:(match aI[f]? with | some fs=>dJ (FT aI n) fs ps | none=>none)=some r:=hd;revert hd;cases hf:aI[f]? with
  | none=>exact nn
  | some fs =>
   intro hd;obtain⟨x⟩:=hr f fs hf;have Kf:=hm fs (ic hf);exact G3 (by exact fn2 (.x .n3 (.A .n3 (.M .q .ke))) []) GK (qC GK g hr hm n) g x.chk x.at_ x.data x.code x.bind (R.le (by exact O (Fm ..) (fn3 (.x (.A (.A .q (.A .n3 (.M .r .kL))) .n1) (.A .n3 (.A (.M .r .kL) .kL))) [.x .q .s] Kf))) Bs rs hd hQ
end
section
open PySem.Float64 (decode Right sgn dist infMag pack)
def FinF (x:UInt64):Prop:=∃a m e,decode x=.fin a m e
theorem V_rep:∀(k q:Nat),q<=2 ^ 53->∃t,zm t=q*2 ^ k
 | 0,q,h=>⟨_,Fo (k:=0) h (.inr rfl)⟩
 | k+1,q,h=>by
  by_cases h2:2 ^ 52<=q
  ·exact⟨_,Fo (k:=k+1) h (.inl h2)⟩
  ·refine xe (V_rep k (2*q) (fn1 (.x .jx .ki) [.Y 2 .q (.P .n2 52)] (Hb.mp h2))) λt ht=>?_;exact⟨t,by refine O ht (O (Aq ..) ?_);(refine O (iy 2 q) (O (lf ..) ?_);rw[iy 2])⟩
theorem dmc{a b:Rat}(h:0<b):a/b*b=a:=mi (oq h)
theorem T6 (h:a<=W):dist W a=W-a:=by unfold dist;refine O (og h) ?_;rfl
theorem T7 (h:W<=a):dist W a=a-W:=by unfold dist;exact O (og h) (O (mz ..) rfl)
theorem T8 (d0:dist W c<=dist W a) (d1:dist W c<=dist W (a+b)) (e:a+r=W) (h:r<b):2*dist W c<=b:=by
 subst e;rw[T6 (iv a r),vt] at d0;rw[T7 (sj (da h) a),Nat.add_sub_add_left] at d1;exact O (Nat.two_mul ..) (XO (zu (da h)) (za d0 d1))
theorem jJ (h:Right r neg W D) (hD:0<D) (k:Nat) (hk:k<=2040) (hW:W<=D*(2 ^ 53*2 ^ k)) :
  FinF r/\∃U:Nat,val r=sgn neg U/\2*dist W (D*U)<=D*2 ^ k/\(∀q,q<=2 ^ 53->W=D*(q*2 ^ k)->W=D*U):=by
 apply R5 h;intro t ht Uf hn;clear h;have Im:t<infMag:=by
  rcases ot t infMag with h | h
  ·exact h
  ·exfalso;have:=Uf.mp (az (ht) (h));have h2:D*((2 ^ 54-1)*2 ^ 2045)<=D*(2*(2 ^ 53*2 ^ k)):=by
    refine aa this ?_;exact O (na ..) (po 2 hW)
   have h3:=Nat.le_of_mul_le_mul_left h2 hD;have h4:(2:Nat) ^ k<=2 ^ 2040:=Nat.pow_le_pow_right (by decide) hk;have h5:2*(2 ^ 53*2 ^ k)<=2*(2 ^ 53*2 ^ 2040):=po 2 (po _ h4);have h6:=aa h3 h5;exact absurd h6 (by decide +kernel)
 have hn:=hn Im;refine jE (zw neg Im) λm e hd hv=>?_;have Wr:val (pack neg t)=sgn neg (zm t):=by exact O (mj hd) (O hv rfl)
 refine(o4 (eH _ _ _ hd) _ Wr ⟨?_,?_⟩)
 ·have hp:0<2 ^ k:=gq k;have ZK:0<D*2 ^ k:=Nat.mul_pos hD hp;have e1:=ry W (D*2 ^ k);have e2:=tm W ZK;generalize hq:W/(D*2 ^ k)=q at e1;have Ug:q<=2 ^ 53:=by
   refine XO hq (Nat.div_le_of_le_mul ?_);refine aa hW (ce ?_);simp only[lf,iy,na]
  refine xe (V_rep k q Ug) λt0 Uh=>?_;have d0:=(hn t0).1;rw[Uh] at d0;have e3:D*(q*2 ^ k)=D*2 ^ k*q:=by simp only[lf,iy,na]
  rw[e3] at d0;rcases ot q (2 ^ 53) with Ws | Ws
  ·refine xe (V_rep k (q+1) Ws) λt1 ZL=>?_;have d1:=(hn t1).1;rw[ZL] at d1;have e4:D*((q+1)*2 ^ k)=D*2 ^ k*q+D*2 ^ k:=by exact O (Nat.add_mul ..) (O (zb ..) (O (Gn ..) (O e3 rfl)))
   rw[e4] at d1;exact T8 d0 d1 e1 e2
  ·have:q=2 ^ 53:=by exact az (Ug) (Ws)
   have ZM:W<=D*2 ^ k*q:=by
    refine aa hW (ce ?_);refine O this ?_;simp only[lf,iy,na]
   generalize D*2 ^ k*q=a at *;generalize D*2 ^ k=b at *;generalize D*zm t=c at *;unfold dist at *;exact fan [_,_,_,_,_,_,_] (.x (.M .n2 .ko) .s) [.X 2 .ko .jF,.Z 2 (.A .t .v) .w,.Z 2 (.A .u .w) .v] d0 (ae (fan [_,_,_] (.x .q .r) [.z1 (.A .q .s) .r] e1)) (ae (fan [_,_] (.x .q .r) [.x .q .r] ZM))
 ·intro q hq ZO;refine xe (V_rep k q hq) λt0 Uh=>?_;have d0:=(hn t0).1;rw[Uh,<- ZO] at d0;unfold dist at d0;exact az (yj d0 (fc (ah _)) (ae (fan [_] (.x .q .q) []))) (yn d0 (fc (ah _)) (ae (fan [_] (.x .q .q) [])))
end
end Mine
end
section
open PySem PySem.W PyProof.Rows
set_option exponentiation.threshold 3000
namespace Mine
open PySem.Float64 (decode Right sgn dist infMag pack)
noncomputable def K:Nat:=2 ^ 1074
theorem K_pos:0<K:=gq 1074
theorem K_eq:2 ^ 1074=K:=rfl
theorem K_split (j:Nat):2 ^ 53*2 ^ (1021+j)=K*2 ^ j:=by
 refine O (om ..) (XO (lf ..) (XO (om ..) ?_));rfl
theorem K_part (h:g<=1074):2 ^ (1074-g)*2 ^ g=K:=by
 refine XO (om ..) (O (ae h) ?_);rfl
def R (x:UInt64):Rat:=(val x:Rat)/(K:Rat)
theorem Kq_pos:(0:Rat)<(K:Rat):=by exact_mod_cast K_pos
theorem R_val (x:UInt64):(val x:Rat)=R x*(K:Rat):=by
 unfold R;exact(dmc Kq_pos).symm
theorem qD (b:Bool):decode (pack b infMag)=.inf b:=by cases b <;> kernel_rfl
theorem jU (h:Right r neg W D) (hD:0<D) (hj:j<=1000) (hW:W<=D*(K*2 ^ j)) :
  FinF r/\(-((D*(K*2 ^ j):Nat):Int)<=(val r*(D:Int)-sgn neg W)*2 ^ 54/\(val r*(D:Int)-sgn neg W)*2 ^ 54<=((D*(K*2 ^ j):Nat):Int)) /\
   (∀q g,g<=1074->q<=2 ^ 53->W*2 ^ g=D*(q*K)->val r*(D:Int)=sgn neg W):=by
 refine qK (jJ h hD (1021+j) (fn1 (.x (.A (.N 1021) .q) (.N 2040)) [.x .q .kj] hj) (by exact O (K_split ..) hW)) λhf U hv zt=>?_;refine xa zt λhd he=>?_;clear zt;refine(iaa hf ?_ ?_)
 ·have e1:2 ^ 53*(D*2 ^ (1021+j))=D*(K*2 ^ j):=by refine XO (K_split ..) ?_;simp only[na]
  have e2:2 ^ 54*dist W (D*U)<=D*(K*2 ^ j):=by
   refine XO e1 ?_;have:=po (2 ^ 53) hd;exact fn3 (.x (.M .kC .q) (.M .ki (.M .r .s))) [.x (.M .ki .jx) (.M .ki (.M .r .s))] this
  refine O hv ?_;generalize D*(K*2 ^ j)=B at *;have e3:sgn neg U*(D:Int)=sgn neg (D*U):=by
   unfold sgn;cases neg
   ·simp[wh]
   ·simp[wh,uj]
  refine O e3 ?_;generalize D*U=c at *;unfold sgn;unfold dist at e2;cases neg
  ·simp only[aw,if_false];exact⟨fn5 (.l (.G .q) (.M (.S .r .s) .kC)) [.x (.M .kC .jF) .q,.X 18014398509481984 .s (.A .t .r)] e2 (fc (ah _)),fn5 (.l (.M (.S .q .r) .kC) .s) [.x (.M .kC .jF) .s,.X 18014398509481984 .q (.A .u .r)] e2 (fc (ah _))⟩
  ·simp only[if_true];exact⟨fn5 (.l (.G .q) (.M (.S (.G .r) (.G .s)) .kC)) [.x (.M .kC .jF) .q,.X 18014398509481984 .r (.A .u .s)] e2 (fc (ah _)),fn5 (.l (.M (.S (.G .q) (.G .r)) .kC) .s) [.x (.M .kC .jF) .s,.X 18014398509481984 .r (.A .t .q)] e2 (fc (ah _))⟩
 ·intro q g hg hq ZP;have e4:W=D*(q*2 ^ (1074-g)):=by
   have:W*2 ^ g=D*(q*2 ^ (1074-g))*2 ^ g:=by refine O ZP (XO (K_part hg) ?_);simp only[lf]
   exact Nat.eq_of_mul_eq_mul_right (gq g) this
  have hk:W=D*U:=by
   by_cases hb:1074-g<=2040
   ·-- use exactness at the finer grid
    have hh:=jJ h hD (1021+j) (fn1 (.x (.A (.N 1021) .q) (.N 2040)) [.x .q .kj] hj) (by exact O (K_split ..) hW);refine bV h λt aT ht Uf hn=>?_;subst aT;clear h;refine xe (V_rep (1074-g) q hq) λt0 Uh=>?_;have Im:t<infMag:=by
     rcases ot t infMag with h | h
     ·exact h
     ·exfalso;have:t=infMag:=by exact az (ht) (h)
      subst this;refine gB hf λa m e Kb=>?_;clear hf;revert Kb;refine O (qD ..) ?_;intro Kb;cases Kb
    have d0:=(hn Im t0).1;rw[Uh,<- e4] at d0;refine jE (zw neg Im) λm e ZQ ZR=>?_;have:val (pack neg t)=sgn neg (zm t):=by exact O (mj ZQ) (O ZR rfl)
    rw[this] at hv;have hU:U=zm t:=by
     unfold sgn at hv;cases neg
     ·simp only[aw,if_false] at hv;exact fn2 (.z1 .q .r) [.e .q .r] hv.symm
     ·simp only[if_true] at hv;exact fn2 (.z1 .q .r) [.e (.G .r) (.G .q)] hv
    refine O hU ?_;unfold dist at d0;exact az (yj d0 (fc (ah _)) (ae (fan [_] (.x .q .q) []))) (yn d0 (fc (ah _)) (ae (fan [_] (.x .q .q) [])))
   ·grind
  refine O hv (O hk ?_);unfold sgn;cases neg
  ·simp[wh]
  ·simp[wh,uj]
theorem kN (h:decode x=.fin a m e):sgn a (val x).natAbs=val x:=by
 exact O (qg h) (O (mj h) rfl)
theorem L4 (a b:Bool) (m n:Nat):sgn (a != b) (m*n)=sgn a m*sgn b n:=by
 unfold sgn;cases a <;> cases b <;> simp[sa,Cs,uj]
theorem CN (w:Int):sgn (decide (w<0)) w.natAbs=w:=by
 unfold sgn
 by_cases h:w<0
 ·rw[decide_eq_true h,if_pos rfl];exact(congrArg Neg.neg (tn (dd h))).trans (Go w)
 ·simp[h];exact ca (ck (an ((dr.mp h)))) (ck (an ((dr.mp h))).symm)
theorem pF (a:Bool) (m n:Nat):sgn a (m*n)=sgn a m*(n:Int):=Float64.sgn_mul a m n
theorem oE (b:Bool):decode (lg b)=.fin b 0 (-1074):=by cases b <;> kernel_rfl
theorem AD (b:Bool):FinF (lg b):=(eH _ _ _ (oE b))
theorem tF (b:Bool):val (lg b)=0:=by refine O (mj (oE b)) ?_;cases b <;> simp[sgn]
section
variable{x y:UInt64}
theorem QO (hx:FinF x) (hy:FinF y) (hj:j<=1000) (hb:(val x+val y).natAbs<=K*2 ^ j) :
  FinF (add x y)/\(-((K*2 ^ j:Nat):Int)<=(val (add x y)-(val x+val y))*2 ^ 54/\(val (add x y)-(val x+val y))*2 ^ 54<=((K*2 ^ j:Nat):Int)) /\
   (∀q g,g<=1074->q<=2 ^ 53->(val x+val y).natAbs*2 ^ g=q*K->val (add x y)=val x+val y):=by
 refine gB hx λa m e hx=>?_;refine gB hy λb k f hy=>?_;refine xa (Bk hx hy) λh0 h1=>?_;generalize val x+val y=w at *
 by_cases hw:w=0
 ·refine O (h0 hw) (O (tF ..) (O hw (iaa (AD _) ?_ (λ_ _ _ _ _=>rfl))));exact⟨fn2 (.l (.G (.C .jb)) (.M (.S .n0 .n0) .kC)) [],fn2 (.l (.M (.S .n0 .n0) .kC) (.C .jb)) []⟩
 ·have:=jU (h1 hw) (by decide) hj (by exact O (zb ..) hb);rw[CN] at this
  simpa using this
theorem mul_int (hx:FinF x) (hy:FinF y) (hj:j<=1000) (hb:(val x*val y).natAbs<=K*(K*2 ^ j)) :
  FinF (mul x y)/\(-((K*(K*2 ^ j):Nat):Int)<=(val (mul x y)*(K:Int)-(val x*val y))*2 ^ 54/\(val (mul x y)*(K:Int)-(val x*val y))*2 ^ 54<=((K*(K*2 ^ j):Nat):Int)) /\
   (∀q g,g<=1074->q<=2 ^ 53->(val x*val y).natAbs*2 ^ g=K*(q*K)->val (mul x y)*(K:Int)=val x*val y):=by
 refine gB hx λa m e hx=>?_;refine gB hy λb k f hy=>?_;have h1:=Bl hx hy;rw[fr] at hb ⊢;have:=jU h1 K_pos hj hb;rw[L4,kN hx,kN hy,K_eq] at this;exact this
theorem QP (hx:FinF x) (hy:FinF y) (h0:val y≠0) (hj:j<=1000) (hb:(val x).natAbs*K<=(val y).natAbs*(K*2 ^ j)) :
  FinF (div x y)/\(-(((val y).natAbs*(K*2 ^ j):Nat):Int)<=(val (div x y)*val y-val x*(K:Int))*2 ^ 54/\(val (div x y)*val y-val x*(K:Int))*2 ^ 54<=(((val y).natAbs*(K*2 ^ j):Nat):Int)) /\
   (∀q g,g<=1074->q<=2 ^ 53->(val x).natAbs*K*2 ^ g=(val y).natAbs*(q*K)->val (div x y)*val y=val x*(K:Int)):=by
 refine gB hx λa m e hx=>?_;refine gB hy λb k f hy=>?_;have hk:k≠0:=by
  intro h;subst h;rw[mj hy] at h0;apply h0;cases b <;> simp[sgn]
 have h1:=Float64.div_right hx hy hk;have Ke:0<(val y).natAbs:=Int.natAbs_pos.mpr h0;have:=jU h1 Ke hj hb;have sx:=kN hx;have sy:=kN hy;rw[K_eq] at this;rw[pF] at this;generalize val (div x y)=z at *;have key:sgn (a != b) (val x).natAbs*(K:Int)=(if b then -1 else 1)*(val x*(K:Int))/\((val y).natAbs:Int)=(if b then -1 else 1)*val y:=by
  constructor
  ·refine XO (Es ..) ?_;congr 1;refine XO sx ?_;unfold sgn;cases a <;> cases b <;> simp
  ·conv=>rhs;rw[<- sy]
   unfold sgn;cases b <;> simp
 refine xa key λk1 k2=>?_;clear key;rw[k1] at this;refine xaa this λt1 t2 t3=>?_;clear this;refine(iaa t1 ?_ (λq g hg hq he=>?_))
 ·cases b
  ·simp only[aw,if_false,Ct] at k2 t2;rw[k2] at t2;rw[sa,k2] at t2 ⊢;exact t2
  ·simp only[if_true,Cs,Ct] at k2 t2;rw[k2] at t2;rw[sa,k2] at t2 ⊢;have:z*-val y - -(val x*(K:Int))=-(z*val y-val x*(K:Int)):=by exact O (uj ..) (fam [_,_,_] [_] (.e (.S (.G .kd) (.G (.M .c .q))) (.G (.S .kd (.M .c .q)))) [])
   rw[this] at t2;generalize z*val y-val x*(K:Int)=d at *;generalize -val y*((K*2 ^ j:Nat):Int)=c at *;exact⟨fz2 (.l .k0 (.M .b .kC)) [.l (.M (.G .b) .kC) .a] t2.2,fz2 (.l (.M .a .kC) .b) [.l (.G .b) (.M .k0 .kC)] t2.1⟩
 ·have:=t3 q g hg hq he;rw[k2] at this;cases b
  ·simpa using this
  ·simp only[if_true,Cs,Ct,uj] at this;exact fam [_,_,_] [_] (.e .kd (.M .c .q)) [.e (.G (.M .c .q)) (.G .kd)] this.symm
end
end Mine
end
section
open PySem PySem.W PyProof.Rows
set_option exponentiation.threshold 3000
namespace Mine
open PySem.Float64 (decode Right sgn dist infMag pack)
theorem kO{z:Int}{n:Nat}(h1:-(n:Int)<=z) (h2:z<=(n:Int)):z.natAbs<=n:=by
 rcases Bm 0 z with h | h
 ·exact nz.mp (by rw[an h];exact h2)
 ·exact nz.mp (by rw[tn h];exact zc h1)
structure Pw (M:Nat) where
 j:Nat
 le:j<=1000
 eq:M=2 ^ j
theorem cV{a b c:Rat}(hc:0<c) (h:a*c<=b*c):a<=b:=Rat.le_of_mul_le_mul_right h hc
theorem eQ{a b c:Rat}(hc:0<c) (h:a*c=b*c):a=b:=by
 refine lu (cV hc (by exact O h eh)) (cV hc (by refine O h ?_;exact eh))
theorem qN{a b c:Rat}(hc:0<c) (h:a<=b):a*c<=b*c:=fz h (ar hc)
def Dy (q:Rat):Prop:=∃(n:Int) (g:Nat),g<=1074/\n.natAbs<=2 ^ 53/\q*(2 ^ g:Nat)=n
section
variable{x y:UInt64}
theorem jV (hx:FinF x) (hy:FinF y){M:Nat}(p:Pw M) (h1:-(M:Rat)<=R x+R y) (h2:R x+R y<=(M:Rat)) :
  FinF (add x y)/\R x+R y-(M:Rat)/2 ^ 54<=R (add x y)/\R (add x y)<=R x+R y+(M:Rat)/2 ^ 54/\(Dy (R x+R y)->R (add x y)=R x+R y):=by
 obtain⟨j,hj,rfl⟩:=p;have kp:=Kq_pos;have b1:-(((K*2 ^ j:Nat):Int):Rat)<=((val x+val y:Int):Rat):=by
  push_cast;refine O (R_val ..) (O (R_val ..) ?_);have:=qN kp h1;push_cast at this;exact fr4 (.l (.G .kd) (.A (.M .c .a) (.M .d .a))) [.l (.M (.G .b) .a) (.M .jv .a)] this
 have b2:((val x+val y:Int):Rat)<=(((K*2 ^ j:Nat):Int):Rat):=by
  push_cast;refine O (R_val ..) (O (R_val ..) ?_);have:=qN kp h2;push_cast at this;exact fr4 (.l (.A .kd .k6) .jG) [.l (.M (.A .a .c) .b) .jp] this
 obtain⟨hf,⟨d1,d2⟩,d3⟩:=QO hx hy hj (kO (by exact_mod_cast b1) (by exact_mod_cast b2));have e1:-(((K*2 ^ j:Nat):Int):Rat)<=(((val (add x y)-(val x+val y))*2 ^ 54:Int):Rat):=by exact_mod_cast d1
 have e2:(((val (add x y)-(val x+val y))*2 ^ 54:Int):Rat)<=(((K*2 ^ j:Nat):Int):Rat):=by exact_mod_cast d2
 push_cast at e1 e2;rw[R_val,R_val,R_val] at e1 e2;refine(cS hf (cV kp ?_) (cV kp ?_) ?_)
 ·push_cast;exact fr5 (.L 18014398509481984 (.M (.S .kb (.D .c .kC)) .d) .jR) [.l (.G .jH) (.M (.S .jR (.A (.M .a .d) .jG)) .kM)] e1
 ·push_cast;exact fr5 (.L 18014398509481984 .kd (.M (.A .jv (.D .e .kC)) .b)) [.l (.M (.S .kd (.A .k6 .jp)) .kM) (.M .b .e)] e2
 ·rintro ⟨n,g,hg,hn,he⟩
  have h5:(((val x+val y)*((2 ^ g:Nat):Int):Int):Rat)=((n*(K:Int):Int):Rat):=by
   push_cast;refine O (R_val ..) (O (R_val ..) ?_);push_cast at he;grind
  have h6:(val x+val y)*((2 ^ g:Nat):Int)=n*(K:Int):=by exact_mod_cast h5
  have h7:=congrArg Ah h6;rw[fr,fr] at h7;simp only[ml] at h7;have h8:=d3 n.natAbs g hg hn h7;refine eQ kp ?_;have h9:((val (add x y):Int):Rat)=((val x+val y:Int):Rat):=by exact O h8 rfl
  push_cast at h9;rw[R_val,R_val,R_val] at h9;exact lu (fr4 (.l .kd (.M .jv .b)) [.e .kd (.A .k6 .jp)] h9) (fr4 (.l (.M .kb .c) .jH) [.e (.A .kW .kq) .jH] h9.symm)
theorem jW (hx:FinF x) (hy:FinF y){M:Nat}(p:Pw M) (h1:-(M:Rat)<=R x*R y) (h2:R x*R y<=(M:Rat)) :
  FinF (mul x y)/\R x*R y-(M:Rat)/2 ^ 54<=R (mul x y)/\R (mul x y)<=R x*R y+(M:Rat)/2 ^ 54/\(Dy (R x*R y)->R (mul x y)=R x*R y):=by
 obtain⟨j,hj,rfl⟩:=p;have kp:=Kq_pos;have b1:-(((K*(K*2 ^ j):Nat):Int):Rat)<=((val x*val y:Int):Rat):=by
  push_cast;refine O (R_val ..) (O (R_val ..) ?_);have:=qN kp (qN kp h1);push_cast at this;exact fr4 (.l (.G (.M .a .kd)) (.M (.M .c .a) (.M .d .a))) [.l (.M (.M (.G .b) .a) .a) (.M (.M .kD .a) .a)] this
 have b2:((val x*val y:Int):Rat)<=(((K*(K*2 ^ j):Nat):Int):Rat):=by
  push_cast;refine O (R_val ..) (O (R_val ..) ?_);have:=qN kp (qN kp h2);push_cast at this;exact fr4 (.l (.M .kd .k6) (.M .b .jG)) [.l (.M (.M .kW .b) .b) (.M .jp .b)] this
 obtain⟨hf,⟨d1,d2⟩,d3⟩:=mul_int hx hy hj (kO (by exact_mod_cast b1) (by exact_mod_cast b2));have e1:-(((K*(K*2 ^ j):Nat):Int):Rat)<=(((val (mul x y)*(K:Int)-(val x*val y))*2 ^ 54:Int):Rat):=by exact_mod_cast d1
 have e2:(((val (mul x y)*(K:Int)-(val x*val y))*2 ^ 54:Int):Rat)<=(((K*(K*2 ^ j):Nat):Int):Rat):=by exact_mod_cast d2
 push_cast at e1 e2;rw[R_val,R_val,R_val] at e1 e2;refine(cS hf (cV kp (cV kp ?_)) (cV kp (cV kp ?_)) ?_)
 ·push_cast;exact fr5 (.L 18014398509481984 (.M (.M (.S .kd (.D .c .kC)) .d) .d) (.M .jR .d)) [.l (.G (.M .d .jH)) (.M (.S (.M .jR .d) (.M (.M .a .d) .jG)) .kM)] e1
 ·push_cast;exact fr5 (.L 18014398509481984 (.M .kd .b) (.M (.M (.A .kD (.D .e .kC)) .b) .b)) [.l (.M (.S (.M .kd .b) (.M .k6 .jp)) .kM) (.M .b (.M .b .e))] e2
 ·rintro ⟨n,g,hg,hn,he⟩
  have h5:(((val x*val y)*((2 ^ g:Nat):Int):Int):Rat)=(((K:Int)*(n*(K:Int)):Int):Rat):=by
   push_cast;refine O (R_val ..) (O (R_val ..) ?_);push_cast at he;grind
  have h6:(val x*val y)*((2 ^ g:Nat):Int)=(K:Int)*(n*(K:Int)):=by exact_mod_cast h5
  have h7:=congrArg Ah h6;rw[fr,fr,fr] at h7;rw[fr] at h7;simp only[ml] at h7;have h8:=d3 n.natAbs g hg hn (by exact O (fr ..) h7);refine eQ kp (eQ kp ?_);have h9:((val (mul x y)*(K:Int):Int):Rat)=((val x*val y:Int):Rat):=by exact O h8 rfl
  push_cast at h9;rw[R_val,R_val,R_val] at h9;exact lu (fr4 (.l (.M .kd .b) (.M (.M .kD .b) .b)) [.e (.M .kd .b) (.M .k6 .jp)] h9) (fr4 (.l (.M .jN .c) (.M .jH .c)) [.e (.M .kW .kq) (.M .jH .c)] h9.symm)
theorem AE (hx:FinF x) (hy:FinF y) (h0:0<R y){M:Nat}(p:Pw M) (h1:-((M:Rat)*R y)<=R x) (h2:R x<=(M:Rat)*R y) :
  FinF (div x y)/\R x/R y-(M:Rat)/2 ^ 54<=R (div x y)/\R (div x y)<=R x/R y+(M:Rat)/2 ^ 54/\(Dy (R x/R y)->R (div x y)=R x/R y):=by
 obtain⟨j,hj,rfl⟩:=p;have kp:=Kq_pos;have Ot:0<val y:=by
  have:(0:Rat)*(K:Rat)<R y*(K:Rat):=ie h0 kp;rw[<- R_val,ej] at this
  exact_mod_cast this
 have ZS:((val y).natAbs:Int)=val y:=by exact ca (ck (an (faz [_] (.l .n0 .a) [.t .n0 .a] Ot))) (ck (an (faz [_] (.l .n0 .a) [.t .n0 .a] Ot)).symm)
 have Wt:(((val y).natAbs:Nat):Rat)=R y*(K:Rat):=by
  refine XO (R_val ..) ?_;exact_mod_cast congrArg (λz:Int=>(z:Rat)) ZS
 have b1:-((((val y).natAbs*(K*2 ^ j):Nat):Int):Rat)<=((val x*(K:Int):Int):Rat):=by
  push_cast;refine O Wt (O (R_val ..) ?_);have:=qN kp (qN kp h1);push_cast at this;exact fr4 (.l (.G (.M .kd .kq)) (.M .jp .b)) [.l (.M (.M (.G (.M .c .a)) .b) .b) (.M .jp .b)] this
 have b2:((val x*(K:Int):Int):Rat)<=((((val y).natAbs*(K*2 ^ j):Nat):Int):Rat):=by
  push_cast;refine O Wt (O (R_val ..) ?_);have:=qN kp (qN kp h2);push_cast at this;exact fr4 (.l (.M .kd .b) (.M .k6 .jG)) [.l (.M .kd .b) (.M (.M .jH .b) .b)] this
 have hb:=kO (by exact_mod_cast b1:-(((val y).natAbs*(K*2 ^ j):Nat):Int)<=val x*(K:Int)) (by exact_mod_cast b2);rw[fr,ml] at hb;obtain⟨hf,⟨d1,d2⟩,d3⟩:=QP hx hy (ew (Ot)) hj hb;have e1:-((((val y).natAbs*(K*2 ^ j):Nat):Int):Rat)<=(((val (div x y)*val y-val x*(K:Int))*2 ^ 54:Int):Rat):=by exact_mod_cast d1
 have e2:(((val (div x y)*val y-val x*(K:Int))*2 ^ 54:Int):Rat)<=((((val y).natAbs*(K*2 ^ j):Nat):Int):Rat):=by exact_mod_cast d2
 push_cast at e1 e2;rw[Wt,R_val,R_val,R_val] at e1 e2;have hd:R x/R y*R y=R x:=dmc (by assumption);generalize R x/R y=Q at *;rw[<- hd] at e1 e2;refine(cS hf (cV h0 (cV kp (cV kp ?_))) (cV h0 (cV kp (cV kp ?_))) ?_)
 ·push_cast;exact fr5 (.L 18014398509481984 (.M (.M (.M (.S .a (.D .b .kC)) .c) .d) .d) (.M (.M (.M .e .c) .d) .d)) [.l (.G (.M .kD .jp)) (.M (.S (.M .jR .kD) (.M (.M .kW .d) .d)) .kM)] e1
 ·push_cast;exact fr5 (.L 18014398509481984 (.M .jN .c) (.M (.M (.M (.A .d (.D .e .kC)) .b) .c) .c)) [.l (.M (.S (.M .kW .kq) (.M (.M .jp .c) .c)) .kM) (.M .kq (.M .c .e))] e2
 ·rintro ⟨n,g,hg,hn,he⟩
  have h5:(((val x*(K:Int))*((2 ^ g:Nat):Int):Int):Rat)=(((val y)*(n*(K:Int)):Int):Rat):=by
   push_cast;refine O (R_val ..) (O (R_val ..) ?_);push_cast at he;exact XO hd (XO he (lu (fr4 (.l (.M (.M .jN .c) .d) (.M .kq (.M (.M .a .d) .c))) []) (fr4 (.l (.M .kd (.M .kD .b)) (.M (.M (.M (.M .c .a) .b) .b) .d)) [])))
  have h6:(val x*(K:Int))*((2 ^ g:Nat):Int)=(val y)*(n*(K:Int)):=by exact_mod_cast h5
  have h7:=congrArg Ah h6;simp only[fr,ml] at h7;have h8:=d3 n.natAbs g hg hn h7;refine eQ h0 (eQ kp (eQ kp ?_));have h9:((val (div x y)*val y:Int):Rat)=((val x*(K:Int):Int):Rat):=by exact O h8 rfl
  push_cast at h9;rw[R_val,R_val,R_val] at h9;grind
end
end Mine
end
section
open PySem PySem.W PyProof.Rows
set_option exponentiation.threshold 3000
namespace Mine
open PySem.Float64 (decode Right sgn dist infMag pack)
section
variable{x y:UInt64}
theorem QQ (hy:FinF y):FinF (Gp y):=let ⟨_,_,_,h⟩:=hy;⟨_,_,_,Float64.neg_decode h⟩
theorem R_neg (hy:FinF y):R (Gp y)=-R y:=by
 refine gB hy λb k f h=>?_;clear hy;unfold R;refine O (Float64.neg_val h) ?_;push_cast;grind
theorem gV (hx:FinF x) (hy:FinF y) (p:Pw M) (h1:-(M:Rat)<=R x-R y) (h2:R x-R y<=(M:Rat)) :
  FinF (ab x y)/\R x-R y-(M:Rat)/2 ^ 54<=R (ab x y)/\R (ab x y)<=R x-R y+(M:Rat)/2 ^ 54/\(Dy (R x-R y)->R (ab x y)=R x-R y):=by
 have:=jV hx (QQ hy) p (by exact O (R_neg hy) (fr3 (.l .k0 (.A .b (.G .c))) [.l .k0 .kx] h1)) (by refine O (R_neg hy) ?_;exact fr3 (.l (.A .a (.G .b)) .c) [.l .ka .c] h2);rw[R_neg hy,<- qh] at this;unfold ab;exact this
theorem R_of_val (hd:0<d) (h:val x*d=n*(K:Int)):R x=(n:Rat)/(d:Rat):=by
 have kp:=Kq_pos;have h1:((val x*d:Int):Rat)=((n*(K:Int):Int):Rat):=by exact O h rfl
 push_cast at h1;rw[R_val] at h1;have Kb:(0:Rat)<(d:Rat):=by exact_mod_cast hd
 refine eQ Kb (eQ kp ?_);have:(n:Rat)/(d:Rat)*(d:Rat)=n:=dmc (by assumption);exact O this (lu (fr4 (.l .jN .jH) [.e (.M .kW .b) .jH] h1) (fr4 (.l .kd (.M .kD .b)) [.e .kd (.M .k6 .d)] h1.symm))
theorem L5 (hd:0<d) (p:Pw M) (hM:n<=d*M) :
  FinF (ofFrac s n d)/\((sgn s n:Int):Rat)/(d:Rat)-(M:Rat)/2 ^ 54<=R (ofFrac s n d)/\R (ofFrac s n d)<=((sgn s n:Int):Rat)/(d:Rat)+(M:Rat)/2 ^ 54 /\
   (Dy (((sgn s n:Int):Rat)/(d:Rat))->R (ofFrac s n d)=((sgn s n:Int):Rat)/(d:Rat)):=by
 obtain⟨j,hj,rfl⟩:=p;have kp:=Kq_pos;have hr:Right (ofFrac s n d) s (n*K) d:=zd hd (by exact O K_eq rfl) hd;have hW:n*K<=d*(K*2 ^ j):=by
  rw[iy K,<- lf];exact ze _ hM
 obtain⟨hf,⟨d1,d2⟩,d3⟩:=jU hr hd hj hW;rw[pF] at d1 d2 d3;have Kb:(0:Rat)<(d:Rat):=by exact_mod_cast hd
 have e1:-(((d*(K*2 ^ j):Nat):Int):Rat)<=(((val (ofFrac s n d)*(d:Int)-sgn s n*(K:Int))*2 ^ 54:Int):Rat):=by exact_mod_cast d1
 have e2:(((val (ofFrac s n d)*(d:Int)-sgn s n*(K:Int))*2 ^ 54:Int):Rat)<=(((d*(K*2 ^ j):Nat):Int):Rat):=by exact_mod_cast d2
 push_cast at e1 e2;rw[R_val] at e1 e2;have hq:((sgn s n:Int):Rat)/(d:Rat)*(d:Rat)=((sgn s n:Int):Rat):=dmc (by assumption);generalize hS:((sgn s n:Int):Rat)/(d:Rat)=Q at *;rw[<- hq] at e1 e2;refine(cS hf (cV Kb (cV kp ?_)) (cV Kb (cV kp ?_)) ?_)
 ·push_cast;exact fr5 (.L 18014398509481984 (.M (.M (.S .a (.D .b .kC)) .c) .d) (.M (.M .e .c) .d)) [.l (.G (.M .c .jp)) (.M (.S (.M .jR .c) (.M .kW .d)) .kM)] e1
 ·push_cast;exact fr5 (.L 18014398509481984 .jN (.M (.M (.A .d (.D .e .kC)) .b) .c)) [.l (.M (.S (.M .kW .b) (.M .jp .c)) .kM) (.M .b (.M .c .e))] e2
 ·rintro ⟨m,g,hg,hm,he⟩
  have h5:((sgn s n*((2 ^ g:Nat):Int):Int):Rat)=((m*(d:Int):Int):Rat):=by
   push_cast;push_cast at he;refine XO hq ?_;grind
  have h6:sgn s n*((2 ^ g:Nat):Int)=m*(d:Int):=by exact_mod_cast h5
  have h7:=congrArg Ah h6;rw[fr,fr,Float64.sgn_natAbs] at h7
  dsimp only[ml] at h7
  have h8:=d3 m.natAbs g hg hm (by refine O (Nat.mul_right_comm ..) (O h7 ?_);simp only[lf,iy,na]);refine eQ Kb (eQ kp ?_);have h9:((val (ofFrac s n d)*(d:Int):Int):Rat)=((sgn s n*(K:Int):Int):Rat):=by exact O h8 rfl
  push_cast at h9;rw[R_val] at h9;exact O hq (lu (fr4 (.l .jN .jH) [.e (.M .kW .b) .jH] h9) (fr4 (.l .kd (.M .kD .b)) [.e .kd (.M .k6 .d)] h9.symm))
theorem qX (hi:i.natAbs<=2 ^ 53):FinF (cr i)/\R (cr i)=(i:Rat):=by
 have:=L5 (n:=i.natAbs) (d:=1) (s:=decide (i<0)) (by decide) (M:=2 ^ 53) ⟨53,by decide,rfl⟩ (by omega);rw[CN] at this;refine aP this λh1 aT Ik h4=>?_;clear aT;clear Ik;clear this;have e:(i:Rat)/((1:Nat):Rat)=(i:Rat):=by push_cast;exact fr1 (.e (.D .a .n1) .a) []
 rw[e] at h4;unfold cr;exact⟨h1,h4 (bE i 0 (by decide) hi (by push_cast;exact fr1 (.e (.M .a .n1) .a) []))⟩
theorem V4 (hx:FinF x) (hy:FinF y):(eo x y=some .lt<->R x<R y)/\(eo x y=some .eq<->R x=R y)/\(eo x y=some .gt<->R y<R x):=by
 refine gB hx λa m e hx=>?_;refine gB hy λb k f hy=>?_;refine O (Float64.cmp_right hx hy) ?_;have kp:=Kq_pos;have lt:∀u v:UInt64,val u<val v<->R u<R v:=by
  intro u v;constructor
  ·intro h;have h1:((val u:Int):Rat)<((val v:Int):Rat):=by exact_mod_cast h
   rw[R_val,R_val] at h1;exact ec h1 (ar kp)
  ·intro h;have h1:=ie h kp;rw[<- R_val,<- R_val] at h1
   exact_mod_cast h1
 refine(iaa ?_ ?_ ?_)
 ·exact O (gk ..) (O (propext Int.compare_eq_lt) (lt x y))
 ·refine O (gk ..) (O (propext Int.compare_eq_eq) ?_);constructor
  ·intro h;unfold R;exact O h rfl
  ·intro h;have h1:R x*(K:Rat)=R y*(K:Rat):=by exact O h rfl
   rw[<- R_val,<- R_val] at h1
   exact_mod_cast h1
 ·exact O (gk ..) (O (propext Int.compare_eq_gt) (lt y x))
theorem lK (hx:FinF x) (hy:FinF y):eo x y=some (if R x<R y then .lt else if R x=R y then .eq else .gt):=by
 refine xaa (V4 hx hy) λh1 h2 h3=>?_;split
 ·exact h1.mpr (by assumption)
 ·split
  ·exact h2.mpr (by assumption)
  ·exact h3.mpr (by grind)
theorem tG (hx:FinF x):bx x=decide (R x=0):=by
 refine gB hx λa m e hx=>?_;unfold bx;refine O hx ?_;have hv:=mj hx;have kp:=Kq_pos;have:R x=0<->m=0:=by
  constructor
  ·intro h;have h1:((val x:Int):Rat)=((0:Int):Rat):=by refine O (R_val ..) (O h ?_);push_cast;exact fr1 (.e (.M .n0 .a) .n0) []
   have h2:val x=0:=by exact_mod_cast h1
   have h3:=qg hx;rw[h2] at h3
   dsimp only[Int.natAbs_zero] at h3
   rcases Dh.mp h3.symm with h | h
   ·exact h
   ·exact absurd h (cj (gq _))
  ·intro h;subst h;unfold R;refine O hv ?_;have:sgn a (0*2 ^ (e+1074).toNat)=0:=by refine O (Ao ..) ?_;unfold sgn;cases a <;> rfl
   refine O this ?_;simp[rh]
 cases m with
 | zero=>exact(decide_eq_true (this.mpr rfl)).symm
 | succ m=>exact(decide_eq_false λq=>nomatch this.mp q).symm
theorem G4 (h:decode x=.fin a m e):m<2 ^ 53:=by
 unfold decode at h;simp only at h;split at h
 ·split at h <;> cases h
 ·split at h
  ·cases h;omega
  ·cases h;omega
theorem tH:decode one=.fin false (2 ^ 52) (-52):=by kernel_rfl
theorem EM:FinF one:=(eH _ _ _ tH)
theorem R_one:R one=1:=by
 have:val one*1=1*(K:Int):=by decide +kernel
 refine O (R_of_val (by decide) this) ?_;push_cast;exact fr0 (.e (.D .n1 .n1) .n1) []
theorem L6 (hx:decode x=.fin a m e):FinF (df x one)/\val (df x one)=sgn a ((val x).natAbs%K):=by
 have he:=Bn hx;have hm:=G4 hx;have XW:df x one=Aa a (m*2 ^ (e-min e (-52)).toNat%(2 ^ 52*2 ^ (-52-min e (-52)).toNat)) (min e (-52)):=by
  unfold df;refine O hx (O tH ?_)
  dsimp only[Float64.align,sgn,aw,if_false]
  refine O (if_neg (by decide)) ?_;rfl
 have Wu:-1074<=min e (-52):=Int.le_min.mpr ⟨he,by decide⟩;generalize hg:min e (-52)=g at *;have XY:g<=-52:=by exact fz2 (.l .a (.G (.N 52))) [.e .a .b,.l .b (.G (.N 52))] hg.symm (Int.min_le_right _ _)
 obtain⟨k,hk⟩:=uk XY;obtain⟨l,hl⟩:=uk Wu;obtain⟨j,hj⟩:=uk (show g<=e by exact XO hg (Int.min_le_left _ _));have a1:(-52-g).toNat=k:=congrArg vw (show -52-g=(k:Int) by exact fam [_] [_] (.e (.S (.G (.N 52)) .a) .q) [.e (.G (.N 52)) (.A .a .q)] hk.symm);have a2:(-g).toNat=52+k:=congrArg vw (show -g=((52+k:Nat):Int) by exact fam [_] [_] (.e .k0 (.C (.A (.N 52) .q))) [.e (.G (.N 52)) (.A .a .q)] hk.symm);have a3:(g+1074).toNat=l:=congrArg vw (show g+1074=(l:Int) by exact fam [_] [_] (.e (.A .a .jq) .q) [.e .a (.A (.G .jq) .q)] hl.symm);have a4:(e-g).toNat=j:=congrArg vw (show e-g=(j:Int) by exact fam [_,_] [_] (.e .ka .q) [.e .a (.A .b .q)] hj.symm);have a5:(e+1074).toNat=j+l:=congrArg vw (show e+1074=((j+l:Nat):Int) by exact fam [_,_] [_,_] (.e (.A .a .jq) (.C .ko)) [.e .a (.A .b .q),.e .b (.A (.G .jq) .r)] hj.symm hl.symm);have a6:52+k+l=1074:=uq (show((52+k+l:Nat):Int)=1074 by exact fam [_] [_,_] (.e (.C (.A (.A (.N 52) .q) .r)) .jq) [.e (.A .a .q) (.G (.N 52)),.e (.A (.G .jq) .r) .a] hk hl);have eq:2 ^ 52*2 ^ (-52-g).toNat=2 ^ (-g).toNat:=by exact XO (om ..) (O a1 (O a2 rfl))
 rw[eq] at XW;generalize hn:m*2 ^ (e-g).toNat%2 ^ (-g).toNat=n at *;have Wv:n<=2 ^ 53:=by
  refine XO hn ?_;rcases Bm e (-52) with h | h
  ·have:(e-g).toNat=0:=by refine O (hg.symm.trans (Di h)) (O (ov ..) ?_);rfl
   exact O this (O (Fp ..) (O (Cu ..) (aa (Nat.mod_le _ _) (da hm))))
  ·have:(-g).toNat=52:=by refine O (hg.symm.trans (Cg h)) ?_;rfl
   refine O this ?_;have:=tm (m*2 ^ (e-g).toNat) (y:=2 ^ 52) (by decide);exact fn1 (.x .q .ki) [.y .q (.P .n2 52)] this
 have ZU:n<=2 ^ (-g).toNat:=by exact XO hn (da (tm _ (gq _)))
 have hK:2 ^ (-g).toNat*2 ^ (g+1074).toNat=K:=by refine XO (om ..) (O a2 (O a3 (O a6 ?_)));rfl
 have hr:Right (Aa a n g) a (n*2 ^ (g+1074).toNat) 1:=by
  unfold Aa;refine zd (Float64.shift_pos _ _ _ (by decide)) ?_ (by decide);have:=Float64.shift_one n g 1074 (fz1 (.l (.G (.C .jq)) .a) [.l (.G .jq) .a] Wu);exact O (Cu ..) this
 refine xaa (jU (j:=0) hr (by decide) (by decide) (by
  refine O (zb ..) (O (Fp ..) (O (Cu ..) (XO hK ?_)));exact ze _ ZU)) λh1 aT h3=>?_;clear aT
 have h4:=h3 n (-g).toNat (fam [_] [_] (.x .q .jq) [.l (.G .jq) .a,.e .q .k0] Wu (bt (faz [_] (.l .n0 .k0) [.l .a (.G (.N 52))] XY))) Wv (by(refine O (lf ..) ?_;rw[iy (2 ^ (g+1074).toNat)];exact O hK (O (zb ..) rfl)));refine O XW ⟨h1,?_⟩;rw[show((1:Nat):Int)=1 from rfl,Gk] at h4;refine O h4 ?_;congr 1;refine O (qg hx) ?_;have e2:m*2 ^ (e+1074).toNat=m*2 ^ (e-g).toNat*2 ^ (g+1074).toNat:=by
  exact O (lf ..) (XO (om ..) (O a3 (O a4 (O a5 rfl))))
 exact O e2 (XO hK (O (Nat.mul_mod_mul_right ..) (O hn rfl)))
end
end Mine
end
section
open PySem PySem.W PyProof.Rows
set_option exponentiation.threshold 3000
namespace Mine
open PySem.Float64 (decode Right sgn dist infMag pack)
section
variable{x y:UInt64}
theorem R_nonneg_iff:0<=R x<->0<=val x:=by
 have kp:=Kq_pos;constructor
 ·intro h;have h1:=qN kp h;rw[<- R_val,ej] at h1
  exact_mod_cast h1
 ·intro h;have h1:((0:Int):Rat)<=((val x:Int):Rat):=by exact_mod_cast h
  rw[R_val] at h1;refine cV kp ?_;refine O (ej ..) ?_
  exact_mod_cast h1
theorem oF (h:Right r false W D) (hf:FinF r):0<=val r:=by
 refine bV h λt aT ht Ik zq2=>?_;subst aT;clear Ik;clear zq2;clear h;have Im:t<infMag:=by
  rcases ot t infMag with h | h
  ·exact h
  ·exfalso;have:t=infMag:=by exact az (ht) (h)
   subst this;refine gB hf λa m e Kb=>?_;clear hf;rw[qD] at Kb;cases Kb
 refine O (Float64.val_pack false Im) ?_;unfold sgn;simp
theorem add_nonneg (hx:FinF x) (hy:FinF y) (hf:FinF (add x y)) (h:0<=R x+R y):0<=R (add x y):=by
 have kp:=Kq_pos;refine gB hx λa m e Lv=>?_;clear hx;refine gB hy λb k f Oq=>?_;clear hy;refine xa (Bk Lv Oq) λh0 h1=>?_;have hw:0<=val x+val y:=by
  have h2:=qN kp h;rw[ej,zf,<- R_val,<- R_val] at h2
  exact_mod_cast h2
 refine O (propext R_nonneg_iff) ?_
 by_cases hz:val x+val y=0
 ·exact O (h0 hz) (O (tF ..) (ia _))
 ·have:=h1 hz;rw[show decide (val x+val y<0)=false by simp;grind] at this;exact oF this hf
theorem oG:decode (vx (lg false) one)=.fin false 0 (-1074):=by kernel_rfl
theorem mB (hx:FinF x):FinF (bz x one).2/\0<=R (bz x one).2 /\
  (∃n:Int,R x-n-1/2 ^ 54<=R (bz x one).2/\R (bz x one).2<=R x-n+1/2 ^ 54/\0<=R x-n/\R x-n<1/\(0<=R x->R (bz x one).2=R x-n)):=by
 refine gB hx λa m e hx=>?_;have kp:=Kq_pos;refine xa (L6 hx) λhf hv=>?_;have ZV:=kN hx;have Ww:=ry (val x).natAbs K;have Im:=tm (val x).natAbs K_pos;generalize hq:(val x).natAbs/K=q at *;generalize hr:(val x).natAbs%K=r at *;have Wx:(bz x one).2=(if bx (df x one) then vx (lg false) one
   else if wi one (lg false) != wi (df x one) (lg false) then add (df x one) one else df x one):=by
  unfold bz;simp only;split
  ·rfl
  ·split <;> rfl
 have Mc:R (df x one)*(K:Rat)=((sgn a r:Int):Rat):=by exact XO (R_val ..) (O hv rfl)
 have Rx:R x*(K:Rat)=((sgn a (K*q+r):Int):Rat):=by exact XO (R_val ..) (O Ww (O ZV rfl))
 have XZ:((r:Nat):Rat)<(K:Rat):=by exact_mod_cast Im
 have Wy:(0:Rat)<=((r:Nat):Rat):=by exact_mod_cast iq r
 have ZW:=AD false;have ZX:R (lg false)=0:=by unfold R;refine O (tF ..) ?_;simp[rh]
 refine O Wx ?_
 by_cases Ph:r=0
 ·-- no remainder
  have Wz:R (df x one)=0:=by
   refine eQ kp ?_;refine O Mc (O Ph ?_);cases a <;> simp[sgn]
  refine O (tG hf) (O Wz ?_);simp only[decide_true,if_true];have hc:R (vx (lg false) one)=0:=by
   unfold R;refine O (mj oG) ?_;simp[sgn,rh]
  refine O hc (iaa (eH _ _ _ oG) eh ⟨(sgn a q),?_⟩);have Ui:R x=((sgn a q:Int):Rat):=by
   refine eQ kp ?_;refine O Rx (O Ph (O (Bo ..) (O (iy ..) (O (pF ..) ?_))));push_cast;rfl
  refine O Ui ?_;grind
 ·have Wz:R (df x one)≠0:=by
   intro h;rw[h] at Mc;have:((sgn a r:Int):Rat)=((0:Int):Rat):=by refine XO Mc ?_;push_cast;exact fr1 (.e (.M .n0 .a) .n0) []
   have h2:sgn a r=0:=by exact_mod_cast this
   unfold sgn at h2;cases a
   ·exact absurd (uq h2) Ph
   ·exact absurd (uq (Int.neg_eq_zero.mp h2)) Ph
  refine O (tG hf) ?_;simp only[Wz,decide_false,aw,if_false];have l1:wi one (lg false)=false:=by decide +kernel
  refine O l1 ?_;have l2:wi (df x one) (lg false)=a:=by
   unfold wi;refine O (lK hf ZW) (O ZX ?_);cases a
   ·have:¬R (df x one)<0:=by
     intro h;have h2:=ie h kp;rw[Mc] at h2
     dsimp only[sgn] at h2
     push_cast at h2;grind
    refine O (if_neg this) ?_;split <;> rfl
   ·have:R (df x one)<0:=by
     have h1:R (df x one)<=0:=by
      refine cV kp ?_;refine O Mc ?_
      dsimp only[sgn,if_true]
      push_cast;exact fr2 (.l .k0 (.M .n0 .b)) [.l .n0 .a] Wy
     grind
    refine O (if_pos this) ?_;rfl
  refine O l2 ?_;cases a
  ·simp only[bne_self_eq_false,aw,if_false]
   dsimp only[sgn,aw,if_false] at Mc Rx
   push_cast at Mc Rx;have Ui:R x=R (df x one)+(q:Rat):=by
    refine eQ kp ?_;exact O Rx (O (zf ..) (O Mc (fr3 (.e (.A .kd .c) (.A .c (.M .b .a))) [])))
   have Ma:0<=R (df x one):=cV kp (by exact O Mc (fr2 (.l (.M .n0 .a) .b) [.l .n0 .b] Wy));have Jd:R (df x one)<1:=by
    refine ec (c:=(K:Rat)) ?_ (ar kp);exact O Mc (fr2 (.t .a (.M .n1 .b)) [.t .a .b] XZ)
   refine(iaa hf Ma ⟨(q:Int),?_⟩);push_cast;refine O Ui ?_;grind
  ·simp only[show(false != true)=true from rfl,if_true];simp only[sgn,if_true] at Mc Rx;push_cast at Mc Rx;have Ui:R x=R (df x one)-(q:Rat):=by
    refine eQ kp ?_;exact O Rx (O (show(R (df x one)-(q:Rat))*(K:Rat)=R (df x one)*(K:Rat)-(q:Rat)*(K:Rat) by exact fr3 (.e .jy (.S .kW .kq)) []) (O Mc (fr3 (.e (.G (.A .kd .c)) (.S (.G .c) (.M .b .a))) [])))
   have Ma:R (df x one)<=0:=cV kp (by exact O Mc (fr2 (.l .k0 (.M .n0 .b)) [.l .n0 .a] Wy));have Jd:-1<R (df x one):=by
    refine ec (c:=(K:Rat)) ?_ (ar kp);exact O Mc (fr2 (.t (.M .kn .a) (.G .b)) [.t .b .a] XZ)
   refine aP (jV (M:=1) hf EM ⟨0,by decide,rfl⟩ (by refine O R_one ?_;push_cast;exact fr1 (.l .kn .kk) [.t .kn .a] Jd) (by refine O R_one ?_;push_cast;exact fr1 (.l .kk .n1) [.l .a .n0] Ma)) λf1 f2 f3 aT=>?_;clear aT;rw[R_one] at f2 f3;push_cast at f2 f3;refine(iaa f1 (add_nonneg hf EM f1 (by exact O R_one (fr1 (.l .n0 .kk) [.t .kn .a] Jd))) ⟨(-(q:Int)-1),?_⟩);push_cast;refine O Ui ?_;have hq0:(0:Rat)<=(q:Rat):=by exact_mod_cast iq q
   refine(gF (fr3 (.l (.S (.S .ka (.S (.G .b) .n1)) .kl) .c) [.l (.S .kk .kl) .c] f2) (fr3 (.l .a (.A (.S .kx (.S (.G .c) .n1)) .kl)) [.l .a (.A .k7 .kl)] f3) (fr2 (.l .n0 (.S .ka (.S (.G .b) .n1))) [.t .kn .a] Jd) (by grind) (λh=>?_));exfalso;grind
end
end Mine
end
section
open PySem PySem.W
namespace Mine
noncomputable abbrev Qa:PE:=(.cst .none)
noncomputable abbrev Qb:PE:=(.cst (.int 1))
noncomputable abbrev Qc:PE:=(.cst (.int 2))
noncomputable abbrev Qd:PE:=(.cst (.int 0))
noncomputable abbrev Q0U:PE:=(.var 11)
abbrev Qe:PE:=(.call 13 (.cons (.bin .Add (.bin .Add (.slc Q0U Qa (.var 35) Qa) (.list (.cons (.call 12 (.cons (.sub Q0U (.var 35)) .nil)) .nil))) (.slc Q0U (.bin .Add (.var 35) Qc) Qa Qa)) .nil))
noncomputable abbrev Q03:PE:=(.var 2)
noncomputable abbrev Qv:PE:=(.var 0)
noncomputable abbrev Qu:PE:=(.var 1)
abbrev Qf:PE:=(.bin .Add (.sub Q03 (.var 46)) (.bi .sum (.cons (.comp (.bin .Mod (.var 47) (.bin .Pow (.cst (.int 10)) (.cst (.int 6)))) 47 (.val (.slc Qv (.var 46) Qa Qu)) false Qa) .nil)))
noncomputable abbrev Q0E:PE:=(.var 6)
noncomputable abbrev Q0k:PE:=(.var 4)
abbrev Qg:PE:=(.cmp .NotEq (.tup (.cons (.var 27) (.cons (.var 26) .nil))) (.call 17 (.cons (.slc Q0E (.var 24) (.var 25) Qa) (.cons (.slc Q0k (.var 24) (.var 25) Qa) .nil))))
noncomputable abbrev Q0l:PE:=(.var 7)
abbrev Qh:PE:=(.call 16 (.cons (.sub Q0l (.var 23)) (.cons (.sub Q0l (.bin .Add (.var 23) Qb)) (.cons (.var 8) (.cons (.bin .Mod (.bin .Add (.var 23) (.var 19)) Qc) .nil)))))
abbrev Q0m:PEs:=(.cons Q0U .nil)
abbrev Qi:PE:=(.comp (.var 36) 36 (.rng1 (.bin .Sub (.bi .len Q0m) Qb)) true (.cmp .Eq (.sub Q0U (.var 36)) (.sub Q0U (.bin .Add (.var 36) Qb))))
abbrev Qj:PS:=(.asg 18 (.bin .Add (.bin .Add (.slc (.var 18) Qa (.var 23) Qa) (.list (.cons (.tup (.cons (.var 24) (.cons (.var 25) .nil))) .nil))) (.slc (.var 18) (.bin .Add (.var 23) Qc) Qa Qa)))
noncomputable abbrev Qk:PSs:=(.cons (.ret (.cst (.bool false))) .nil)
abbrev Ql:PSs:=(.cons (.ite (.cmp .Is Q03 Qa) (.cons (.asg 2 Q0k) .nil) (.cons (.ite (.cmp .NotEq Qu Q03) (.cons (.app 3 (.slc Qv Qu Q03 Qa)) .nil) .nil) (.cons (.asg 1 (.bin .Add Q0k Qb)) (.cons (.asg 2 Qa) .nil)))) .nil)
noncomputable abbrev Qt:PE:=(.var 3)
abbrev Qm:PE:=(.sub (.var 22) (.bin .Mod (.bin .FloorDiv (.sub Qt (.var 19)) (.cst (.int 16384))) (.bi .len (.cons (.var 22) .nil))))
abbrev Qn:PE:=(.comp (.call 16 (.cons (.sub Q0l (.var 15)) (.cons (.var 16) (.cons (.var 8) (.cons (.var 38) .nil))))) 38 (.val (.tup (.cons Qd (.cons Qb .nil)))) false Qa)
abbrev Qo:PE:=(.tup (.cons (.sub (.sub (.var 18) (.var 23)) Qd) (.cons (.sub (.sub (.var 18) (.bin .Add (.var 23) Qb)) Qb) .nil)))
abbrev Qp:PS:=(.asg 11 (.bin .Add (.bin .Add (.slc Q0U Qa (.var 23) Qa) (.list (.cons (.var 27) .nil))) (.slc Q0U (.bin .Add (.var 23) Qc) Qa Qa)))
abbrev Qq:PS:=(.asg 7 (.bin .Add (.bin .Add (.slc Q0l Qa (.var 23) Qa) (.list (.cons (.var 26) .nil))) (.slc Q0l (.bin .Add (.var 23) Qc) Qa Qa)))
abbrev Qr:PE:=(.list (.cons (.list (.cons Qd (.cons Qd (.cons Qd .nil)))) (.cons (.list (.cons Qd (.cons Qd (.cons Qd .nil)))) .nil)))
noncomputable abbrev Q0v:PE:=(.cst (.int 3))
abbrev Qs:PSs:=(.cons (.asg 4 (.bin .Mod (.bin .Sub (.bin .Mult Q0v Qv) Qt) (.cst (.int 1536)))) (.cons (.app 2 (.bin .Mult Qu (.bi .max (.cons Qd (.cons (.bi .min (.cons (.cst (.int 256)) (.cons (.bin .Sub (.cst (.int 512)) (.bi .min (.cons Q0k (.cons (.bin .Sub (.cst (.int 1536)) Q0k) .nil)))) .nil))) .nil))))) .nil))
abbrev Qw:PSs:=(.cons (.asgO 2 (.bin .Add Q03 (.list (.cons (.bin .Sub (.cst (.int 513)) (.var 8)) (.cons (.bin .Sub (.cst (.int 513)) (.var 8)) .nil))))) .nil)
noncomputable abbrev Qx:PEs:=(.cons (.var 8) .nil)
abbrev Qy:PSs:=(.cons (.aug 17 .Add (.ite (.cmp2 .LtE .Lt (.var 24) (.var 15) (.var 25)) Qb Qd)) .nil)
noncomputable abbrev Qz:PE:=(.cst (.flt 0x3ff0000000000000))
noncomputable abbrev Q00:PE:=(.cst (.flt 0x3fe0000000000000))
abbrev Q01:PS:=(.ite (.cmp .Eq Qv Qt) (.cons (.asg 12 (.bin .Sub Q0U (.var 10))) .nil) (.cons (.ite (.cmp .Eq Qu Qt) (.cons (.asg 12 (.bin .Sub (.bin .Add (.cst (.flt 0x4000000000000000)) (.var 9)) Q0U)) .nil) (.cons (.asg 12 (.bin .Sub (.bin .Add (.cst (.flt 0x4010000000000000)) (.var 10)) (.var 9))) .nil)) .nil))
abbrev Q02:PS:=(.ite (.cmp .Eq Qv Qt) (.cons (.asg 11 (.bin .Sub (.var 10) (.var 9))) .nil) (.cons (.ite (.cmp .Eq Qu Qt) (.cons (.asg 11 (.bin .Sub (.bin .Add (.cst (.flt 0x4000000000000000)) (.var 8)) (.var 10))) .nil) (.cons (.asg 11 (.bin .Sub (.bin .Add (.cst (.flt 0x4010000000000000)) (.var 9)) (.var 8))) .nil)) .nil))
noncomputable abbrev Q0p:PE:=(.var 5)
abbrev Q04:PE:=(.comp (.call 14 (.cons (.bin .Add (.bin .Mod (.bin .FloorDiv (.sub Qt (.var 42)) Qc) (.cst (.int 256))) (.bin .Mult (.cst (.int 256)) (.bin .Mod (.sub Qt (.var 42)) Qc))) (.cons (.sub Q0p (.var 42)) .nil))) 42 (.rng1 Qu) false Qa)
noncomputable abbrev Q0R:PE:=(.list .nil)
abbrev Q05:PS:=(.ite (.cmp .NotEq Q0E (.bin .Sub (.bi .len (.cons Q0k .nil)) Qb)) (.cons (.ret Q0R) .nil) .nil)
abbrev Q06:PE:=(.call 14 (.cons (.bin .Add (.bin .Mod (.bin .FloorDiv (.sub Qt (.var 15)) Qc) (.cst (.int 256))) (.bin .Mult (.cst (.int 256)) (.bin .Sub Qb (.bin .Mod (.sub Qt (.var 15)) Qc)))) (.cons (.sub Q0p (.var 15)) .nil)))
abbrev Q07:PE:=(.cmp .NotEq (.var 14) (.bin .Add (.bin .Mult (.list (.cons (.cst (.int 52)) .nil)) (.bin .FloorDiv (.var 13) Q0v)) (.bin .Mult (.list (.cons (.cst (.int 23)) .nil)) (.bin .Mod (.var 13) Q0v))))
abbrev Q08:PS:=(.asg 22 (.ite (.cmp .NotEq (.var 21) Q0R) (.var 21) (.var 20)))
abbrev Q09:PSs:=(.cons (.aug 1 .Sub Qb) (.cons (.ite (.cmp .Lt Qu Qd) Qk .nil) .nil))
abbrev Q0a:PS:=(.ite (.cmp .LtE Q0l Q00) (.cons (.asg 8 (.bin .Div Q0E Q0p)) .nil) (.cons (.asg 8 (.bin .Div Q0E (.bin .Sub (.bin .Sub (.cst (.flt 0x4000000000000000)) Qt) Q0k))) .nil))
abbrev Q0b:PS:=(.ite (.cmp .Eq (.var 20) Q0R) (.cons .brk .nil) .nil)
abbrev Q0c:PE:=(.comp (.var 35) 35 (.val (.var 20)) true Qe)
abbrev Q0d:PSs:=(.cons (.ret (.comp (.bin .Sub (.bi .int (.cons (.bin .Add (.bin .Mult (.bin .Pow Qc (.cst (.int 17))) (.var 12)) Q00) .nil)) Q03) 12 (.val Q0U) false Qa)) .nil)
abbrev Q0e:PE:=(.comp (.call 14 (.cons (.bin .Mod (.bin .FloorDiv (.sub Qt (.var 43)) Qc) (.cst (.int 256))) (.cons (.sub Q0p (.var 43)) .nil))) 43 (.rng1 Qu) false Qa)
abbrev Q0f:PE:=(.sub (.var 10) (.bin .Add (.var 23) Qb))
abbrev Q0g:PS:=(.ite (.cmp .LtE Qu Q00) (.cons (.asg 3 (.bin .Mult Qu (.bin .Add Qz Q03))) .nil) (.cons (.asg 3 (.bin .Sub (.bin .Add Qu Q03) (.bin .Mult Qu Q03))) .nil))
noncomputable abbrev Q0h:PE:=(.cst (.flt 0x4018000000000000))
noncomputable abbrev Q0i:PE:=(.cst (.flt 0x0000000000000000))
abbrev Q0j:PE:=(.ite (.and (.cmp .NotIn (.cst (.int 33)) (.var 12)) (.cmp .NotIn (.cst (.int 34)) (.var 12))) Qu (.ite (.call 2 (.cons (.var 28) .nil)) Qc Qb))
abbrev Q0n:PE:=(.slc (.var 10) (.bin .Add (.var 23) Qc) Qa Qa)
abbrev Q0o:PEs:=(.cons Q03 .nil)
abbrev Q0q:PS:=(.ite (.not (.call 1 Qx)) (.cons (.ret Q0R) .nil) .nil)
abbrev Q0r:PE:=(.bin .Mult (.bin .Mod (.bin .FloorDiv (.sub Qt Qd) (.cst (.int 2048))) (.cst (.int 15))) (.bin .Pow Qc (.cst (.int 13))))
abbrev Q0s:PE:=(.comp (.bin .Add Qb (.bin .Mod (.bin .FloorDiv (.var 44) (.cst (.int 512))) (.cst (.int 4)))) 44 (.val Qt) false Qa)
abbrev Q0t:PE:=(.cmp .Eq (.bi .len (.cons Q0l .nil)) Qb)
abbrev Q0u:PS:=(.asg 27 (.call 15 (.cons (.var 26) Qx)))
abbrev Q0w:PE:=(.sub (.var 9) (.bin .Mod (.bin .FloorDiv (.sub Qt (.var 41)) (.cst (.int 2048))) (.cst (.int 8))))
abbrev Q0x:PE:=(.bin .Add (.sub Qv (.var 14)) (.sub Qu (.var 14)))
abbrev Q0y:PE:=(.or (.cmp .NotEq (.bi .len Q0m) (.var 29)) (.cmp .NotEq (.call 18 (.cons Q0k .nil)) (.var 29)))
noncomputable abbrev Q0z:PE:=(.sub (.var 10) (.var 23))
noncomputable abbrev Q0A:PEs:=(.cons (.cst (.bool false)) .nil)
abbrev Q0B:PE:=(.comp (.tup (.cons (.var 37) (.cons (.bin .Add (.var 37) Qb) .nil))) 37 (.rng1 Qu) false Qa)
abbrev Q0C:PE:=(.ite (.cmp .Lt (.bi .len (.cons Qv .nil)) (.cst (.int 6))) (.cst (.int 5)) (.cst (.int 7)))
abbrev Q0D:PE:=(.slc (.var 10) Qa (.var 23) Qa)
abbrev Q0F:PE:=(.or (.cmp .NotEq Q0U Q0k) (.cmp .NotEq (.var 12) (.call 11 (.cons Q0k .nil))))
abbrev Q0G:PE:=(.slc Qv Qa Q03 Qa)
abbrev Q0H:PE:=(.comp (.sub Q0E Q0p) 6 (.val Qv) false Qa)
abbrev Q0I:PSs:=(.cons (.aug 2 .Sub Qb) .nil)
abbrev Q0J:PSs:=(.cons (.aug 1 .Add Qb) .nil)
noncomputable abbrev Q0K:PE:=(.cmp .Eq (.var 8) (.cst (.int 256)))
abbrev Q0L:PEs:=(.cons Qv (.cons Qu Q0o))
abbrev Q0M:PE:=(.bin .Mod (.bin .FloorDiv (.sub Qt Qc) (.cst (.int 2048))) Qu)
abbrev Q0N:PE:=(.comp (.call 15 (.cons (.var 40) Qx)) 40 (.val Q0l) false Qa)
abbrev Q0O:PE:=(.tup (.cons (.var 31) (.cons (.cmp .Eq (.var 17) Qd) .nil)))
abbrev Q0P:PE:=(.comp (.bin .Sub (.bi .max Q0o) Qt) 3 (.val Q03) false Qa)
noncomputable abbrev Q0Q:PE:=(.tup (.cons (.var 32) (.cons (.cst (.bool true)) .nil)))
noncomputable abbrev Q0S:PE:=(.cmp .IsNot (.call 9 (.cons (.var 33) .nil)) (.var 34))
abbrev Q0T:PE:=(.cmp .In (.var 41) (.tup (.cons Qb (.cons Q0v .nil))))
noncomputable abbrev Q0V:PE:=(.me .count (.var 14) (.cons (.cst (.int 23)) .nil))
end Mine
end
section
open PySem PySem.W PyProof.Rows
namespace Mine.Co
def fO:FSpec :=
 {pars:=[("x":Str)],n:=1,vars:=[(("x":Str),0)],own:=[],tk:=[],code:=(.cons (.ret (.cmp .Lt Qv (.gcst dQ))) .nil)}
def dH:FSpec :=
 {pars:=[("x":Str)],n:=1,vars:=[(("x":Str),0)],own:=[],tk:=[],code:=(.cons (.ret (.cmp .GtE Qv (.gcst dQ))) .nil)}
def oH:FSpec :=
 {pars:=[("x":Str)],n:=1,vars:=[(("x":Str),0)],own:=[],tk:=[],code:=(.cons (.ret (.cmp .Eq Qv (.gcst iW))) .nil)}
noncomputable def bB:FSpec :=
 {pars:=[("r":Str),("g":Str),("b":Str)],n:=13,vars:=[(("r":Str),0),(("g":Str),1),(("b":Str),2),(("maxc":Str),3),(("minc":Str),4),(("sumc":Str),5),(("rangec":Str),6),(("l":Str),7),(("s":Str),8),(("rc":Str),9),(("gc":Str),10),(("bc":Str),11),(("h":Str),12)],own:=[],tk:=[],code:=(.cons (.asg 3 (.bi .max Q0L)) (.cons (.asg 4 (.bi .min Q0L)) (.cons (.asg 5 (.bin .Add Qt Q0k)) (.cons (.asg 6 (.bin .Sub Qt Q0k)) (.cons (.asg 7 (.bin .Div Q0p (.cst (.flt 0x4000000000000000)))) (.cons (.ite (.cmp .Eq Q0k Qt) (.cons (.ret (.tup (.cons Q0i (.cons Q0l (.cons Q0i .nil))))) .nil) .nil) (.cons Q0a (.cons (.asg 9 (.bin .Div (.bin .Sub Qt Qv) Q0E)) (.cons (.asg 10 (.bin .Div (.bin .Sub Qt Qu) Q0E)) (.cons (.asg 11 (.bin .Div (.bin .Sub Qt Q03) Q0E)) (.cons Q01 (.cons (.asg 12 (.bin .Mod (.bin .Div (.var 12) Q0h) Qz)) (.cons (.ret (.tup (.cons (.var 12) (.cons Q0l Qx)))) .nil)))))))))))))}
def a8 (k:Nat):FSpec :=
 {pars:=[("h":Str),("l":Str),("s":Str)],n:=5,vars:=[(("h":Str),0),(("l":Str),1),(("s":Str),2),(("m2":Str),3),(("m1":Str),4)],own:=[],tk:=[],code:=(.cons (.ite (.cmp .Eq Q03 Q0i) (.cons (.ret (.tup (.cons Qu (.cons Qu (.cons Qu .nil))))) .nil) .nil) (.cons Q0g (.cons (.asg 4 (.bin .Sub (.bin .Mult (.cst (.flt 0x4000000000000000)) Qu) Qt)) (.cons (.ret (.tup (.cons (.call k (.cons Q0k (.cons Qt (.cons (.bin .Add Qv (.gcst iU)) .nil)))) (.cons (.call k (.cons Q0k (.cons Qt (.cons Qv .nil)))) (.cons (.call k (.cons Q0k (.cons Qt (.cons (.bin .Sub Qv (.gcst iU)) .nil)))) .nil))))) .nil))))}
def f_v:FSpec :=
 {pars:=[("m1":Str),("m2":Str),("hue":Str)],n:=3,vars:=[(("m1":Str),0),(("m2":Str),1),(("hue":Str),2)],own:=[],tk:=[],code:=(.cons (.asg 2 (.bin .Mod Q03 Qz)) (.cons (.ite (.cmp .Lt Q03 (.gcst lE)) (.cons (.ret (.bin .Add Qv (.bin .Mult (.bin .Mult (.bin .Sub Qu Qv) Q03) Q0h))) .nil) .nil) (.cons (.ite (.cmp .Lt Q03 Q00) (.cons (.ret Qu) .nil) .nil) (.cons (.ite (.cmp .Lt Q03 (.gcst iV)) (.cons (.ret (.bin .Add Qv (.bin .Mult (.bin .Mult (.bin .Sub Qu Qv) (.bin .Sub (.gcst iV) Q03)) Q0h))) .nil) .nil) (.cons (.ret Qv) .nil)))))}
noncomputable def bC:FSpec :=
 {pars:=[("r":Str),("g":Str),("b":Str)],n:=12,vars:=[(("r":Str),0),(("g":Str),1),(("b":Str),2),(("maxc":Str),3),(("minc":Str),4),(("rangec":Str),5),(("v":Str),6),(("s":Str),7),(("rc":Str),8),(("gc":Str),9),(("bc":Str),10),(("h":Str),11)],own:=[],tk:=[],code:=(.cons (.asg 3 (.bi .max Q0L)) (.cons (.asg 4 (.bi .min Q0L)) (.cons (.asg 5 (.bin .Sub Qt Q0k)) (.cons (.asg 6 Qt) (.cons (.ite (.cmp .Eq Q0k Qt) (.cons (.ret (.tup (.cons Q0i (.cons Q0i (.cons Q0E .nil))))) .nil) .nil) (.cons (.asg 7 (.bin .Div Q0p Qt)) (.cons (.asg 8 (.bin .Div (.bin .Sub Qt Qv) Q0p)) (.cons (.asg 9 (.bin .Div (.bin .Sub Qt Qu) Q0p)) (.cons (.asg 10 (.bin .Div (.bin .Sub Qt Q03) Q0p)) (.cons Q02 (.cons (.asg 11 (.bin .Mod (.bin .Div Q0U Q0h) Qz)) (.cons (.ret (.tup (.cons Q0U (.cons Q0l (.cons Q0E .nil))))) .nil))))))))))))}
noncomputable def bA:FSpec :=
 {pars:=[("h":Str),("s":Str),("v":Str)],n:=8,vars:=[(("h":Str),0),(("s":Str),1),(("v":Str),2),(("i":Str),3),(("f":Str),4),(("p":Str),5),(("q":Str),6),(("t":Str),7)],own:=[],tk:=[],code:=(.cons (.ite (.cmp .Eq Qu Q0i) (.cons (.ret (.tup (.cons Q03 (.cons Q03 Q0o)))) .nil) .nil) (.cons (.asg 3 (.bi .int (.cons (.bin .Mult Qv Q0h) .nil))) (.cons (.asg 4 (.bin .Sub (.bin .Mult Qv Q0h) Qt)) (.cons (.asg 5 (.bin .Mult Q03 (.bin .Sub Qz Qu))) (.cons (.asg 6 (.bin .Mult Q03 (.bin .Sub Qz (.bin .Mult Qu Q0k)))) (.cons (.asg 7 (.bin .Mult Q03 (.bin .Sub Qz (.bin .Mult Qu (.bin .Sub Qz Q0k))))) (.cons (.asg 3 (.bin .Mod Qt (.cst (.int 6)))) (.cons (.ite (.cmp .Eq Qt Qd) (.cons (.ret (.tup (.cons Q03 (.cons Q0l (.cons Q0p .nil))))) .nil) .nil) (.cons (.ite (.cmp .Eq Qt Qb) (.cons (.ret (.tup (.cons Q0E (.cons Q03 (.cons Q0p .nil))))) .nil) .nil) (.cons (.ite (.cmp .Eq Qt Qc) (.cons (.ret (.tup (.cons Q0p (.cons Q03 (.cons Q0l .nil))))) .nil) .nil) (.cons (.ite (.cmp .Eq Qt Q0v) (.cons (.ret (.tup (.cons Q0p (.cons Q0E Q0o)))) .nil) .nil) (.cons (.ite (.cmp .Eq Qt (.cst (.int 4))) (.cons (.ret (.tup (.cons Q0l (.cons Q0p Q0o)))) .nil) .nil) (.cons (.ite (.cmp .Eq Qt (.cst (.int 5))) (.cons (.ret (.tup (.cons Q03 (.cons Q0p (.cons Q0E .nil))))) .nil) .nil) .nil)))))))))))))}
noncomputable def aO:FSpec :=
 {pars:=[("addr":Str)],n:=6,vars:=[(("addr":Str),0),(("start":Str),1),(("open_pos":Str),2),(("result":Str),3),(("pos":Str),4),(("ch":Str),5)],own:=[3],tk:=[],code:=(.cons (.ite (.cmp .NotIn (.cst (.str ("\"":Str))) Qv) (.cons (.ret Qv) .nil) .nil) (.cons (.asg 1 Qd) (.cons (.asg 2 Qa) (.cons (.asgO 3 Q0R) (.cons (.esc [4,5] Qv (.cons (.ite (.cmp .Eq Q0p (.cst (.str ("\"":Str)))) Ql .nil) .nil)) (.cons (.ite (.cmp .Lt Qu (.bi .len (.cons Qv .nil))) (.cons (.app 3 (.slc Qv Qu Qa Qa)) .nil) .nil) (.cons (.ret (.me .join (.cst (.str ("":Str))) (.cons Qt .nil))) .nil)))))))}
noncomputable def aW (k:Nat):FSpec :=
 {pars:=[("addr":Str)],n:=4,vars:=[(("addr":Str),0),(("opens":Str),1),(("pos":Str),2),(("ch":Str),3)],own:=[],tk:=[],code:=(.cons (.asg 0 (.call k (.cons Qv .nil))) (.cons (.asg 1 Qd) (.cons (.esc [2,3] Qv (.cons (.ite (.cmp .Eq Qt (.cst (.str ("(":Str)))) Q0J (.cons (.ite (.cmp .Eq Qt (.cst (.str (")":Str)))) Q09 .nil) .nil)) .nil)) (.cons (.ret (.cmp .Eq Qu Qd)) .nil))))}
def dS:FSpec :=
 {pars:=[("text":Str)],n:=3,vars:=[(("text":Str),0),(("numbers":Str),1),(("size":Str),2)],own:=[1],tk:=[],code:=(.cons (.asgO 1 Q0R) (.cons (.while 1000 (.cmp .NotEq Qv (.cst (.str ("":Str)))) (.cons (.asg 2 Q0v) (.cons (.while 1000 (.cmp .NotIn Q0G (.gcst aQ)) Q0I) (.cons (.app 1 (.sub (.gcst aQ) Q0G)) (.cons (.asg 0 (.slc Qv Q03 Qa Qa)) .nil))))) (.cons (.ret Qu) .nil)))}
end Mine.Co
end
section
open PySem PySem.W PyProof.Rows
namespace Mine.L2
open Co
def fO:FSpec :=
 {pars:=[("x":Str)],n:=1,vars:=[(("x":Str),0)],own:=[],tk:=[],code:=(.cons (.ret (.cmp .Lt Qv (.gcst dQ))) .nil)}
def dH:FSpec :=
 {pars:=[("x":Str)],n:=1,vars:=[(("x":Str),0)],own:=[],tk:=[],code:=(.cons (.ret (.cmp .GtE Qv (.gcst dQ))) .nil)}
def oH:FSpec :=
 {pars:=[("x":Str)],n:=1,vars:=[(("x":Str),0)],own:=[],tk:=[],code:=(.cons (.ret (.cmp .Eq Qv (.gcst iW))) .nil)}
noncomputable def bB:FSpec:=Co.bB
def a8:FSpec:=Co.a8 5
def f_v:FSpec:=Co.f_v
noncomputable def bC:FSpec:=Co.bC
noncomputable def bA:FSpec:=Co.bA
noncomputable def aO:FSpec:=Co.aO
noncomputable def aW:FSpec:=Co.aW 8
def dS:FSpec:=Co.dS
noncomputable def uW:FSpec :=
 {pars:=[("marks":Str)],n:=4,vars:=[(("marks":Str),0),(("numbers":Str),1),(("mark":Str),2),(("number":Str),3)],own:=[1],tk:=[],code:=(.cons (.asgO 1 Q0R) (.cons (.for [2] (.val Qv) (.cons (.asg 3 (.ite (.cmp .Eq Q03 (.cst (.str ("<":Str)))) (.cst (.int 20)) (.cst (.int 21)))) (.cons (.ite (.cmp .Eq (.slc Qu (.neg Qb) Qa Qa) (.list (.cons Qt .nil))) (.cons (.asgO 1 (.bin .Add (.slc Qu Qa (.neg Qb) Qa) (.list (.cons (.bin .Add Qt (.cst (.int 13))) .nil)))) .nil) (.cons (.app 1 Qt) .nil)) .nil))) (.cons (.ret Qu) .nil)))}
noncomputable def i7:FSpec :=
 {pars:=[("mark":Str)],n:=1,vars:=[(("mark":Str),0)],own:=[],tk:=[],code:=(.cons (.ret (.ite (.cmp .Eq Qv (.cst (.str ("<":Str)))) (.cst (.str (">":Str))) (.cst (.str ("<":Str))))) .nil)}
noncomputable def kP:FSpec :=
 {pars:=[("marks":Str)],n:=2,vars:=[(("marks":Str),0),(("numbers":Str),1)],own:=[],tk:=[],code:=(.cons (.asg 1 (.call 10 (.cons (.me .join (.cst (.str ("":Str))) (.cons Qv .nil)) .nil))) (.cons (.ret (.or (.cmp .In (.cst (.int 33)) Qu) (.cmp .In (.cst (.int 34)) Qu))) .nil))}
noncomputable def i8:FSpec :=
 {pars:=[("place":Str),("share":Str)],n:=5,vars:=[(("place":Str),0),(("share":Str),1),(("lamps":Str),2),(("corner":Str),3),(("far":Str),4)],own:=[2],tk:=[],code:=(.cons (.asgO 2 Q0R) (.cons (.for [3] (.val (.tup (.cons Qd (.cons (.cst (.int 512)) (.cons (.cst (.int 1024)) .nil))))) Qs) (.cons (.ret Q03) .nil)))}
noncomputable def kQ:FSpec :=
 {pars:=[("parts":Str),("white":Str)],n:=10,vars:=[(("parts":Str),0),(("white":Str),1),(("red":Str),2),(("green":Str),3),(("blue":Str),4),(("hue":Str),5),(("share":Str),6),(("level":Str),7),(("place":Str),8)],own:=[],tk:=[],code:=(.cons (.asgT [2,3,4] (.comp (.bin .Div (.bin .Add Qu (.var 9)) (.bin .Pow Qc (.cst (.int 17)))) 9 (.val Qv) false Qa)) (.cons (.asgT [5,6,7] (.call 6 (.cons Q03 (.cons Qt (.cons Q0k .nil))))) (.cons (.asg 8 (.bi .int (.cons (.bin .Mult (.cst (.int 512)) Q0p) .nil))) (.cons (.ite (.cmp .Eq (.call 0 Qx) (.call 1 Qx)) (.cons (.ret (.cst (.str ("":Str)))) .nil) .nil) (.cons (.ret (.ite (.call 0 Qx) (.cst (.str ("<":Str))) (.cst (.str (">":Str))))) .nil)))))}
noncomputable def g8:FSpec :=
 {pars:=[("one":Str),("two":Str),("white":Str),("way":Str)],n:=15,vars:=[(("one":Str),0),(("two":Str),1),(("white":Str),2),(("way":Str),3),(("mixed":Str),4),(("red":Str),5),(("green":Str),6),(("blue":Str),7),(("hue":Str),8),(("share":Str),9),(("level":Str),10),(("shown":Str),11)],own:=[],tk:=[],code:=(.cons (.asg 4 (.comp Q0x 14 (.rng1 Q0v) false Qa)) (.cons (.asgT [5,6,7] (.comp (.bin .Div (.bin .Sub (.bin .Add Q03 (.var 13)) (.bi .min (.cons Q0k .nil))) (.bin .Pow Qc (.cst (.int 17)))) 13 (.val Q0k) false Qa)) (.cons (.ite (.cmp .Eq Qt Qd) (.cons (.asgT [8,9,10] (.call 6 (.cons Q0p (.cons Q0E (.cons Q0l .nil))))) (.cons (.asg 11 (.call 7 (.cons (.bin .Add (.var 8) Q00) (.cons (.var 9) (.cons (.var 10) .nil))))) .nil)) (.cons (.asgT [8,10,9] (.call 3 (.cons Q0p (.cons Q0E (.cons Q0l .nil))))) (.cons (.asg 11 (.call 4 (.cons (.bin .Sub (.var 8) Q00) (.cons (.var 10) (.cons (.var 9) .nil))))) .nil))) Q0d)))}
noncomputable def mD:FSpec :=
 {pars:=[("lights":Str),("drawn":Str)],n:=7,vars:=[(("lights":Str),0),(("drawn":Str),1),(("total":Str),2)],own:=[],tk:=[],code:=(.cons (.asg 2 (.comp (.bi .sum (.cons Q0H .nil)) 5 (.rng1 Q0v) false Qa)) (.cons (.asg 2 (.comp (.bin .Sub Q0k (.bi .min Q0o)) 4 (.val Q03) false Qa)) (.cons (.ite (.cmp .Eq (.bin .Mod (.bin .Add (.me .count Qu (.cons (.cst (.str ("<":Str))) .nil)) (.bin .Mult Qc (.me .count Qu (.cons (.cst (.str (">":Str))) .nil)))) Q0v) Qb) (.cons (.ret (.tup (.cons (.cst (.str ("<":Str))) Q0o))) .nil) .nil) (.cons (.ret (.tup (.cons (.cst (.str (">":Str))) (.cons Q0P .nil)))) .nil))))}
noncomputable def xE:FSpec :=
 {pars:=[("drawn":Str)],n:=9,vars:=[(("drawn":Str),0),(("can":Str),1),(("fewest":Str),2),(("last":Str),3),(("counts":Str),4),(("first":Str),5),(("ways":Str),6),(("cut":Str),7),(("mark":Str),8)],own:=[2,4,1],tk:=[],code:=(.cons (.newD 1) (.cons (.asgO 2 (.list (.cons Qd .nil))) (.cons (.for [3] (.rng2 Qb (.bin .Add (.bi .len (.cons Qv .nil)) Qb)) (.cons (.asgO 4 Q0R) (.cons (.for [5] (.rng3 (.bin .Sub Qt Qb) (.neg Qb)) (.cons (.asg 6 (.ite (.cmp .Eq Q0p (.bin .Sub Qt Qb)) (.sub Qv Q0p) (.cst (.str ("":Str))))) (.cons (.for [7] (.rng2 (.bin .Add Q0p Qb) Qt) (.cons (.for [8] (.val (.sub Qu (.bin .Add (.bin .Mult (.cst (.int 16)) Q0l) Q0p))) (.cons (.ite (.and (.cmp .In (.var 8) (.sub Qu (.bin .Add (.bin .Mult (.cst (.int 16)) Qt) Q0l))) (.cmp .NotIn (.call 12 Qx) Q0E)) (.cons (.aug 6 .Add (.call 12 Qx)) .nil) .nil) .nil)) .nil)) (.cons (.setI 1 (.bin .Add (.bin .Mult (.cst (.int 16)) Qt) Q0p) Q0E) (.cons (.ite (.cmp .NotEq Q0E (.cst (.str ("":Str)))) (.cons (.app 4 (.bin .Add (.sub Q03 Q0p) Qb)) .nil) .nil) .nil))))) (.cons (.app 2 (.bi .min (.cons Q0k .nil))) .nil)))) (.cons (.ret (.sub Q03 (.neg Qb))) .nil))))}
noncomputable def eU:FSpec :=
 {pars:=[("whole":Str),("marks":Str)],n:=10,vars:=[(("whole":Str),0),(("marks":Str),1),(("pile":Str),2),(("seen":Str),3),(("units":Str),4),(("told":Str),5),(("at":Str),6),(("sign":Str),7),(("number":Str),8)],own:=[2,5],tk:=[],code:=(.cons (.asgO 2 (.bin .Add (.list (.cons Qd .nil)) (.comp (.ite (.cmp .Eq (.var 9) (.cst (.str ("<":Str)))) (.cst (.int 256)) (.cst (.int 257))) 9 (.val (.slc Qu Qa Qa (.neg Qb))) false Qa))) (.cons (.asg 3 (.call 8 (.cons (.bin .Add Qv (.cst (.str ("\\":Str)))) .nil))) (.cons (.asg 4 (.cst (.str ("":Str)))) (.cons (.asgO 5 Q0R) (.cons (.esc [6,7] Qt (.cons (.aug 4 .Add Q0l) (.cons Q05 (.cons (.ite (.and Q0t (.cmp .NotIn Q0l (.cst (.str (")\\":Str))))) (.cons (.pop 8 2) (.cons Q0q (.cons (.ite (.cmp .Eq Q0l (.cst (.str ("(":Str)))) Qw (.cons (.app 5 (.ite Q0K (.cst (.str ("<":Str))) (.cst (.str (">":Str))))) .nil)) .nil))) .nil) .nil)))) (.cons (.ret (.ite (.and (.cmp .Eq Q0k Qt) (.call 2 (.cons (.sub Q03 (.neg Qb)) .nil))) Q0p Q0R)) .nil))))))}
noncomputable def EN:FSpec :=
 {pars:=[("script":Str)],n:=48,vars:=[(("script":Str),0),(("count":Str),1),(("plain":Str),2),(("numbers":Str),3),(("drawn":Str),4),(("shares":Str),5),(("lights":Str),6),(("colours":Str),7),(("white":Str),8),(("kinds":Str),9),(("texts":Str),10),(("marks":Str),11),(("signs":Str),12),(("many":Str),13),(("points":Str),14),(("spot":Str),15),(("turned":Str),16),(("deep":Str),17),(("spans":Str),18),(("step":Str),19),(("like":Str),20),(("good":Str),21),(("choice":Str),22),(("p":Str),23),(("first":Str),24),(("last":Str),25),(("parts":Str),26),(("mark":Str),27),(("rest":Str),28),(("due":Str),29),(("whole":Str),30),(("front":Str),31),(("closed":Str),32),(("text":Str),33),(("shut":Str),34)],own:=[],tk:=[],code:=(.cons (.asg 1 Q0C) (.cons (.asg 2 (.tup (.cons (.cst (.int 19344)) (.cons (.cst (.int 8193)) (.cons (.cst (.int 7678)) (.cons (.cst (.int 2122)) (.cons (.cst (.int 1777)) (.cons (.cst (.int 641)) (.cons (.cst (.int 300)) .nil))))))))) (.cons (.asg 3 (.comp Qf 46 (.rng1 Qu) false Qa)) (.cons (.asg 4 (.comp (.sub (.cst (.str ("<>":Str))) (.bin .Mod (.var 45) Qc)) 45 (.val Qt) false Qa)) (.cons (.asg 5 Q0s) (.cons (.asg 6 Q0e) (.cons (.asg 7 Q04) (.cons (.asg 8 Q0r) (.cons (.asg 9 (.list (.cons (.cst (.str ("":Str))) (.cons (.cst (.str ("\\(":Str))) (.cons (.cst (.str ("\\)":Str))) (.cons (.cst (.str ("\"(\"":Str))) (.cons (.cst (.str ("\")\"":Str))) (.cons (.cst (.str ("\"\\\")\"":Str))) (.cons (.cst (.str ("\\\\":Str))) (.cons (.cst (.str ("\\\"":Str))) .nil)))))))))) (.cons (.asg 10 (.comp (.bin .Add (.sub (.cst (.str ("abcdefg":Str))) (.var 41)) (.ite Q0T Q0w (.cst (.str ("":Str))))) 41 (.rng1 Qu) false Qa)) (.cons (.asg 11 Q0N) (.cons (.asg 12 (.call 10 (.cons (.me .join (.cst (.str ("":Str))) Q0m) .nil))) (.cons (.ite Q0F Qk .nil) (.cons (.asg 13 (.bin .Add (.me .count Q0k (.cons (.cst (.str ("<":Str))) .nil)) (.bin .Mult Qc (.me .count Q0k (.cons (.cst (.str (">":Str))) .nil))))) (.cons (.asg 14 (.call 10 (.cons (.me .join (.cst (.str ("":Str))) (.cons (.comp (.ite (.cmp .Eq (.var 39) (.cst (.str ("<":Str)))) (.cst (.str (".":Str))) (.cst (.str ("..":Str)))) 39 (.val Q0U) false Qa) .nil)) .nil))) (.cons (.ite Q07 Qk .nil) (.cons (.asg 15 Q0M) (.cons (.asg 16 Q06) (.cons (.ite (.cmp .NotEq Qn Qr) Qk .nil) (.cons (.asg 17 Qd) (.cons (.asg 18 Q0B) (.cons (.for [19] (.rng1 (.bin .Sub Qu Qb)) (.cons (.asg 20 Qi) (.cons Q0b (.cons (.asg 21 Q0c) (.cons Q08 (.cons (.asg 23 Qm) (.cons (.asgT [24,25] Qo) (.cons (.asg 26 Qh) (.cons Q0u (.cons (.ite Qg Qk .nil) (.cons Qq (.cons Qp (.cons Qj (.cons (.asg 10 (.bin .Add (.bin .Add Q0D (.list (.cons (.bin .Add (.bin .Add (.bin .Add (.cst (.str ("(":Str))) Q0z) Q0f) (.cst (.str (")":Str)))) .nil))) Q0n)) Qy)))))))))))))) (.cons (.asg 28 Q0V) (.cons (.asg 29 Q0j) (.cons (.ite Q0y Qk .nil) (.cons (.ite (.and (.cmp .Eq (.var 29) Qb) (.cmp .NotEq Q0U (.list (.cons (.ite (.call 2 (.cons (.bin .Sub (.var 28) Qc) .nil)) (.cst (.str (">":Str))) (.cst (.str ("<":Str)))) .nil)))) Qk .nil) (.cons (.asg 30 (.me .join (.cst (.str ("":Str))) (.cons (.var 10) .nil))) (.cons (.ite (.cmp .NotEq (.call 19 (.cons (.var 30) Q0m)) Q0k) Qk .nil) (.cons (.asg 31 (.slc (.var 30) Qa (.bin .Add (.me .index (.var 30) (.cons (.sub (.cst (.str ("abcdefg":Str))) (.var 15)) .nil)) Qb) Qa)) (.cons (.asg 32 (.bin .Add (.var 31) (.bin .Mult (.cst (.str (")":Str))) (.var 17)))) (.cons (.for [33,34] (.val (.tup (.cons Q0O (.cons Q0Q (.cons (.tup (.cons (.bin .Add (.var 32) (.cst (.str (")(":Str)))) Q0A)) (.cons (.tup (.cons (.bin .Add (.var 32) (.cst (.str ("\")":Str)))) Q0A)) .nil)))))) (.cons (.ite Q0S Qk .nil) .nil)) (.cons (.ret (.cst (.bool true))) .nil))))))))))))))))))))))))))))))))}
def aI:List FSpec:=[fO,dH,oH,bB,a8,f_v,bC,bA,aO,aW,dS,uW,i7,kP,i8,kQ,g8,mD,xE,eU,EN]
end Mine.L2
end
section
open PySem PySem.W PyProof.Rows
namespace Mine
theorem aF:(∀(F:Fn) c (pe:PEnv),aA F (.cst c) pe=(some c)) /\
 (∀(F:Fn) c (pe:PEnv),aA F (.gcst c) pe=(some c)) /\
 (∀(F:Fn) i (pe:PEnv),aA F (.var i) pe=(lk pe i)) /\
 (∀(F:Fn) op a b (pe:PEnv),aA F (.bin op a b) pe=(match aA F a pe,aA F b pe with
  | some x,some y=>dM op x y
  | _,_=>none)) /\
 (∀(F:Fn) a (pe:PEnv),aA F (.neg a) pe=(match aA F a pe with
  | some (.int x)=>some (.int (-x))
  | _=>none)) /\
 (∀(F:Fn) a (pe:PEnv),aA F (.not a) pe=(match aA F a pe with
  | some (.bool x)=>some (.bool (!x))
  | _=>none)) /\
 (∀(F:Fn) a b (pe:PEnv),aA F (.and a b) pe=(match aA F a pe with
  | some (.bool true)=>match aA F b pe with
   | some (.bool x)=>some (.bool x)
   | _=>none
  | some (.bool false)=>some (.bool false)
  | _=>none)) /\
 (∀(F:Fn) a b (pe:PEnv),aA F (.or a b) pe=(match aA F a pe with
  | some (.bool false)=>match aA F b pe with
   | some (.bool x)=>some (.bool x)
   | _=>none
  | some (.bool true)=>some (.bool true)
  | _=>none)) /\
 (∀(F:Fn) t a b (pe:PEnv),aA F (.ite t a b) pe=(match aA F t pe with
  | some (.bool true)=>aA F a pe
  | some (.bool false)=>aA F b pe
  | _=>none)) /\
 (∀(F:Fn) op a b (pe:PEnv),aA F (.cmp op a b) pe=(match aA F a pe,aA F b pe with
  | some x,some y=>(bF op x y).map .bool
  | _,_=>none)) /\
 (∀(F:Fn) op Ks a b c (pe:PEnv),aA F (.cmp2 op Ks a b c) pe=(match aA F a pe,aA F b pe with
  | some x,some y=>match bF op x y with
   | some true=>match aA F c pe with
    | some z=>(bF Ks y z).map .bool
    | none=>none
   | some false=>some (.bool false)
   | none=>none
  | _,_=>none)) /\
 (∀(F:Fn) a i (pe:PEnv),aA F (.sub a i) pe=(match aA F a pe,aA F i pe with
  | some x,some y=>cX x y
  | _,_=>none)) /\
 (∀(F:Fn) a lo hi st (pe:PEnv),aA F (.slc a lo hi st) pe=(match aA F a pe,aA F lo pe,aA F hi pe,aA F st pe with
  | some x,some l,some h,some s=>match eB l,eB h,eB s with
   | some l,some h,some s=>cY x l h s
   | _,_,_=>none
  | _,_,_,_=>none)) /\
 (∀(F:Fn) es (pe:PEnv),aA F (.list es) pe=((bK F es pe).map .lst)) /\
 (∀(F:Fn) es (pe:PEnv),aA F (.tup es) pe=((bK F es pe).map .tup)) /\
 (∀(F:Fn) Iw tg src At c (pe:PEnv),aA F (.comp Iw tg src At c) pe=(match fH F src pe with
  | some items=>(cF (aA F c) (aA F Iw) At tg pe items).map .lst
  | none=>none)) /\
 (∀(F:Fn) f es (pe:PEnv),aA F (.call f es) pe=(match bK F es pe with
  | some l=>F f l
  | none=>none)) /\
 (∀(F:Fn) f es (pe:PEnv),aA F (.bi f es) pe=(match bK F es pe with
  | some l=>biF f l
  | none=>none)) /\
 (∀(F:Fn) f o es (pe:PEnv),aA F (.me f o es) pe=(match aA F o pe,bK F es pe with
  | some x,some l=>meF f x l
  | _,_=>none)) /\
 (∀(F:Fn)  (pe:PEnv),bK F .nil pe=(some [])) /\
 (∀(F:Fn) e es (pe:PEnv),bK F (.cons e es) pe=(match aA F e pe,bK F es pe with
  | some x,some l=>some (x::l)
  | _,_=>none)) /\
 (∀(F:Fn) e (pe:PEnv),fH F (.val e) pe=(match aA F e pe with
  | some p=>m8 p
  | none=>none)) /\
 (∀(F:Fn) e (pe:PEnv),fH F (.rng1 e) pe=(match aA F e pe with
  | some (.int n)=>kF 0 n
  | _=>none)) /\
 (∀(F:Fn) e f (pe:PEnv),fH F (.rng2 e f) pe=(match aA F e pe,aA F f pe with
  | some (.int a),some (.int b)=>kF a b
  | _,_=>none)) /\
 (∀(F:Fn) e f (pe:PEnv),fH F (.rng3 e f) pe=(match aA F e pe,aA F f pe with
  | some (.int a),some (.int b)=>r7 a b
  | _,_=>none)):=by
 and_intros <;> intros <;> rfl
section
variable{F:Fn}{pe pe':PEnv}{s:PS}{ss a b:PSs}{e t:PE}{p:PV}{i j:Nat}{R:Option (PEnv × Fl)}
theorem seq (h1:cP F s pe=some (pe',.next)) (h2:aE F ss pe'=R):aE F (.cons s ss) pe=R:=by
 show(match cP F s pe with | some (pe',.next)=>aE F ss pe' | r=>r)=R;exact O h1 h2
theorem aG (h1:cP F s pe=some (pe',.next)):aE F (.cons s .nil) pe=some (pe',.next):=seq h1 rfl
theorem bG:aE F .nil pe=some (pe,.next):=rfl
theorem dY (h:aA F e pe=some p):aE F (.cons (.ret e) ss) pe=some (pe,.ret p):=by
 show(match (match aA F e pe with | some p=>some (pe,Fl.ret p) | none=>none) with | some (pe',.next)=>aE F ss pe' | r=>r)=_;exact O h rfl
theorem fP (h1:cP F s pe=some (pe',fl)) (h:fl≠.next):aE F (.cons s ss) pe=some (pe',fl):=by
 show(match cP F s pe with | some (pe',.next)=>aE F ss pe' | r=>r)=_;refine O h1 ?_;cases fl with
 | next=>exact absurd rfl h
 | _=>rfl
theorem asg (h:aA F e pe=some p):cP F (.asg i e) pe=some (st pe i p,.next):=by
 show(match aA F e pe with | some p=>some (st pe i p,Fl.next) | none=>none)=_;exact O h rfl
theorem asgO (h:aA F e pe=some (.lst l)):cP F (.asgO i e) pe=some (st pe i (.lst l),.next):=by
 show(match aA F e pe with | some (.lst l)=>some (st pe i (.lst l),Fl.next) | _=>none)=_;exact O h rfl
theorem asgT (h:aA F e pe=some p) (hb:fC ts p pe=some pe'):cP F (.asgT ts e) pe=some (pe',.next):=by
 show(match aA F e pe with | some p=>(match fC ts p pe with | some pe'=>some (pe',Fl.next) | none=>none) | none=>none)=_;refine O h ?_;show(match fC ts p pe with | some pe'=>some (pe',Fl.next) | none=>none)=_;exact O hb rfl
theorem app (h0:lk pe i=some (.lst l)) (h:aA F e pe=some p) (hl:l.length<=100000):cP F (.app i e) pe=some (st pe i (.lst (l++[p])),.next):=by
 show(match lk pe i,aA F e pe with | some (.lst x),some y=>if x.length<=100000 then some (st pe i (.lst (x++[y])),Fl.next) else none | _,_=>none)=_;exact O h0 (O h (if_pos hl))
theorem dT (h:aA F t pe=some (.bool true)) (h2:aE F a pe=R):cP F (.ite t a b) pe=R:=by
 show(match aA F t pe with | some (.bool true)=>aE F a pe | some (.bool false)=>aE F b pe | _=>none)=_;exact O h h2
theorem cA (h:aA F t pe=some (.bool false)) (h2:aE F b pe=R):cP F (.ite t a b) pe=R:=by
 show(match aA F t pe with | some (.bool true)=>aE F a pe | some (.bool false)=>aE F b pe | _=>none)=_;exact O h h2
theorem v3 (h:aA F t pe=some (.bool c)) (h1:c=true->aE F a pe=R) (h2:c=false->aE F b pe=R):cP F (.ite t a b) pe=R:=by
 cases c
 ·exact cA h (h2 rfl)
 ·exact dT h (h1 rfl)
theorem aug (h0:lk pe i=some x) (h:aA F e pe=some y) (hz:wW op x y=some z):cP F (.aug i op e) pe=some (st pe i z,.next):=by
 show(match lk pe i,aA F e pe with | some x,some y=>(match wW op x y with | some z=>some (st pe i z,Fl.next) | none=>none) | _,_=>none)=_;refine O h0 (O h ?_);show(match wW op x y with | some z=>some (st pe i z,Fl.next) | none=>none)=_;exact O hz rfl
theorem pop (h0:lk pe i=some (.lst (l++[y]))) (hl:l.length+1<=100000):cP F (.pop j i) pe=some (st (st pe i (.lst l)) j y,.next):=by
 show(match lk pe i with | some (.lst x)=>(match x.getLast? with | some y=>if x.length<=100000 then some (st (st pe i (.lst x.dropLast)) j y,Fl.next) else none | none=>none) | _=>none)=_;simp only[h0,ri,cw,db,mr,mz,hl,if_true,rj]
theorem L7 (h:fH F src pe=some items) (h2:dD (aE F a) ts items pe=R):cP F (.for ts src a) pe=R:=by
 show(match fH F src pe with | some items=>dD (aE F a) ts items pe | none=>none)=_;exact O h h2
theorem EO (h:aA F e pe=some p) (hi:eO p=some items) (h2:dD (aE F a) ts items pe=R):cP F (.esc ts e a) pe=R:=by
 show(match aA F e pe with | some p=>(match eO p with | some items=>dD (aE F a) ts items pe | none=>none) | none=>none)=_;refine O h ?_;show(match eO p with | some items=>dD (aE F a) ts items pe | none=>none)=_;exact O hi h2
theorem EP (h2:eX (aA F t) (aE F a) n pe=R):cP F (.while n t a) pe=R:=h2
theorem i9 (hl:args.length=f.pars.length) (h:aE F f.code (jI args f.n)=some (pe',.ret v)):dJ F f args=some v:=by
 show(if args.length=f.pars.length then(match aE F f.code (jI args f.n) with | some (_,.ret v)=>some v | _=>none) else none)=_;exact O (if_pos hl) (O h rfl)
noncomputable def fV:Option (PEnv × Fl)->Option PV
 | some (_,.ret v)=>some v
 | _=>none
theorem iL (hl:args.length=f.pars.length) (h:fV (aE F f.code (jI args f.n))=some v):dJ F f args=some v:=(if_pos hl).trans h
theorem aR (h1:cP F s pe=some (pe',.next)) (h2:fV (aE F ss pe')=v):fV (aE F (.cons s ss) pe)=v:=by
 show fV (match cP F s pe with | some (pe',.next)=>aE F ss pe' | r=>r)=v;exact O h1 h2
theorem dU (h:aA F e pe=some p):fV (aE F (.cons (.ret e) ss) pe)=some p:=by refine O (dY h) ?_;rfl
theorem SK (h:fV (cP F s pe)=some v):fV (aE F (.cons s ss) pe)=some v:=by
 show fV (match cP F s pe with | some (pe',.next)=>aE F ss pe' | r=>r)=_;revert h;cases cP F s pe with
 | none=>exact λh=>nn h
 | some x =>
  obtain⟨q,fl⟩:=x;cases fl with
  | ret u=>exact id
  | next=>exact λh=>nn h
  | brk=>exact λh=>nn h
theorem jA (h:aA F t pe=some (.bool true)) (h2:fV (aE F a pe)=some v):fV (aE F (.cons (.ite t a b) ss) pe)=some v:=SK (by exact O (dT h rfl) h2)
theorem b8 (h:aA F t pe=some (.bool false)) (h2:fV (aE F ss pe)=v):fV (aE F (.cons (.ite t a .nil) ss) pe)=v:=aR (cA h bG) h2
end
theorem cH (x y:Int):dM .Add (.int x) (.int y)=some (.int (x+y)):=rfl
theorem lL (x y:Int):dM .Sub (.int x) (.int y)=some (.int (x-y)):=rfl
theorem jX (x y:Int) (h:lF x=true):dM .Mult (.int x) (.int y)=some (.int (x*y)):=by show(if _ then _ else _)=_;exact O (if_pos h) rfl
theorem cI (x y:Int) (h:0<y):dM .Mod (.int x) (.int y)=some (.int (x%y)):=by show(if _ then _ else _)=_;exact O (if_pos h) rfl
theorem dZ (x y:Int) (h:0<y/\y<1000000000):dM .FloorDiv (.int x) (.int y)=some (.int (x/y)):=by show(if _ then _ else _)=_;exact O (if_pos h) rfl
theorem tI (x y:Int) (h:2<=x/\x<100/\0<=y/\y<100):dM .Pow (.int x) (.int y)=some (.int (x ^ y.toNat)):=by show(if _ then _ else _)=_;exact O (if_pos h) rfl
theorem L8 (x y:UInt64):dM .Add (.flt x) (.flt y)=some (.flt (add x y)):=rfl
theorem L9 (x y:UInt64):dM .Sub (.flt x) (.flt y)=some (.flt (ab x y)):=rfl
theorem MA (x y:UInt64):dM .Mult (.flt x) (.flt y)=some (.flt (mul x y)):=rfl
theorem cZ (x y:UInt64) (h:bx y=false):dM .Div (.flt x) (.flt y)=some (.flt (div x y)):=by show(if _ then _ else _)=_;refine O h ?_;rfl
theorem tJ (x y:UInt64) (h:bx y=false):dM .Mod (.flt x) (.flt y)=some (.flt (bz x y).2):=by show(if _ then _ else _)=_;refine O h ?_;rfl
theorem MB (x:UInt64) (y:Int) (h:okF y=true):dM .Sub (.flt x) (.int y)=some (.flt (ab x (cr y))):=by show(if _ then _ else _)=_;exact O (if_pos h) rfl
theorem oJ (x:Int) (y:UInt64) (h:okF x=true):dM .Mult (.int x) (.flt y)=some (.flt (mul (cr x) y)):=by show(if _ then _ else _)=_;exact O (if_pos h) rfl
theorem MC (x y:Str) (h:x.length+y.length<=100000):dM .Add (.str x) (.str y)=some (.str (x++y)):=by show(if _ then _ else _)=_;exact O (if_pos h) rfl
theorem iM (x y:List PV) (h:x.length+y.length<=100000):dM .Add (.lst x) (.lst y)=some (.lst (x++y)):=by show(if _ then _ else _)=_;exact O (if_pos h) rfl
noncomputable def eqB (a b:UInt64):Bool:=eo a b==some nw
theorem QR (x y:UInt64):bF .Eq (.flt x) (.flt y)=some (eqB x y):=rfl
theorem QS (x y:UInt64):bF .Lt (.flt x) (.flt y)=some (ltB x y):=rfl
theorem QT (x y:UInt64):bF .LtE (.flt x) (.flt y)=some (ltB x y||eqB x y):=rfl
theorem xF (x y:Int):bF .Lt (.int x) (.int y)=some (decide (x<y)):=rfl
theorem EQ (x y:Int):bF .LtE (.int x) (.int y)=some (decide (x<=y)):=rfl
theorem QU (x y:Int):bF .Gt (.int x) (.int y)=some (decide (x>y)):=rfl
theorem QV (x y:Int):bF .GtE (.int x) (.int y)=some (decide (x>=y)):=rfl
theorem MD (l:List PV) (n:Int):dM .Mult (.lst l) (.int n)=OM l n:=rfl
theorem ME (x:Str) (n:Int):dM .Mult (.str x) (.int n)=OL x n:=rfl
theorem T9 (x y:Int):biF .max [.int x,.int y]=some (.int (if y>x then y else x)):=congrArg (λn=>some (PV.int n)) (wV _ _)
theorem UA (x y:Int):biF .min [.int x,.int y]=some (.int (if y<x then y else x)):=congrArg (λn=>some (PV.int n)) (wV _ _)
theorem xG (x y:Int):bF .Eq (.int x) (.int y)=some (x==y):=by
 show eqF 3 (.int x) (.int y)=_;rfl
def mx3 (r g b:UInt64):UInt64:=if gtB g r then(if gtB b g then b else g) else(if gtB b r then b else r)
def mn3 (r g b:UInt64):UInt64:=if ltB g r then(if ltB b g then b else g) else(if ltB b r then b else r)
theorem UB (r g b:UInt64):biF .max [.flt r,.flt g,.flt b]=some (.flt (mx3 r g b)):=rfl
theorem UC (r g b:UInt64):biF .min [.flt r,.flt g,.flt b]=some (.flt (mn3 r g b)):=rfl
theorem EVL:(∀(a:Option PV) (l:PEnv),lk (a::l) 0=a)/\(∀(a:Option PV) (l:PEnv) (n:Nat),lk (a::l) (n+1)=lk l n)/\(∀(a:Option PV) (l:PEnv) (p:PV),st (a::l) 0 p=some p::l)/\(∀(a:Option PV) (l:PEnv) (n:Nat) (p:PV),st (a::l) (n+1) p=a::st l n p)/\(∀x y:Int,dM .Add (.int x) (.int y)=some (.int (x+y)))/\(∀x y:Int,dM .Sub (.int x) (.int y)=some (.int (x-y)))/\(∀x y:UInt64,dM .Add (.flt x) (.flt y)=some (.flt (add x y)))/\(∀x y:UInt64,dM .Sub (.flt x) (.flt y)=some (.flt (ab x y)))/\(∀x y:UInt64,dM .Mult (.flt x) (.flt y)=some (.flt (mul x y)))/\(∀x y:UInt64,bF .Eq (.flt x) (.flt y)=some (eqB x y))/\(∀x y:UInt64,bF .Lt (.flt x) (.flt y)=some (ltB x y))/\(∀x y:UInt64,bF .LtE (.flt x) (.flt y)=some (ltB x y||eqB x y))/\(∀x y:Int,bF .Lt (.int x) (.int y)=some (decide (x<y)))/\(∀x y:Int,bF .LtE (.int x) (.int y)=some (decide (x<=y)))/\(∀x y:Int,bF .Gt (.int x) (.int y)=some (decide (x>y)))/\(∀x y:Int,bF .GtE (.int x) (.int y)=some (decide (x>=y)))/\(∀x y:Int,bF .Eq (.int x) (.int y)=some (x==y))/\(∀x y:Int,biF .max [.int x,.int y]=some (.int (if y>x then y else x)))/\(∀x y:Int,biF .min [.int x,.int y]=some (.int (if y<x then y else x)))/\(∀r g b:UInt64,biF .max [.flt r,.flt g,.flt b]=some (.flt (mx3 r g b)))/\(∀r g b:UInt64,biF .min [.flt r,.flt g,.flt b]=some (.flt (mn3 r g b)))/\(∀(α β:Type) (f:α->β) (a:α),(some a).map f=some (f a)) :=
 ⟨λ_ _=>rfl,λ_ _ _=>rfl,λ_ _ _=>rfl,λ_ _ _ _=>rfl,cH,lL,L8,L9,MA,QR,QS,QT,xF,EQ,QU,QV,xG,T9,UA,UB,UC,λ_ _ _ _=>rfl⟩
noncomputable def sx (l:List Nat):Str:=⟨l.toArray⟩
theorem iO (l:List Nat):(sx l).length=l.length:=by rfl
theorem lM (l:List Nat):(sx l).cps.toList=l:=by simp[sx]
theorem UD (h:sx a=sx b):a=b:=by exact XO (lM a) (O h (O (lM ..) rfl))
theorem xH (a b:List Nat):sx a++sx b=sx (a++b):=by
 show Str.mk _=Str.mk _;simp[sx]
theorem MF (a b:List Nat):(sx a==sx b)=(a==b):=by
 by_cases h:a=b
 ·subst h;simp
 ·exact O (beq_eq_false_iff_ne.mpr h) (O (propext beq_eq_false_iff_ne) (λe=>h (UD e)))
theorem tK{α:Type}(l:List α):∀(n a:Nat),((cv n).map (a+·)).filterMap (l[·]?)=(l.drop a).take n
 | 0,a=>by rfl
 | n+1,a=>by
  refine O xd (O di (O List.filterMap_append (O (tK l n a) ?_)));simp only[ak,gp,ex,List.filterMap_nil];refine O List.take_succ (O (tj) ?_);cases l[a+n]? <;> rfl
theorem UE (a b:Nat):sliceRange (a:Int) (b:Int) 1=(cv (b-a)).map (a+·):=sliceRange_one a b
theorem bnd (h:0<=k) (n:Nat):max 0 (min (if k<0 then k+(n:Int) else k) (n:Int))=((min k.toNat n:Nat):Int):=by
 refine xe (qi h) λm aT=>?_;subst aT;refine O (if_neg (dr.mpr h)) ?_;show max 0 (min (m:Int) (n:Int))=((min m n:Nat):Int);rcases Fq m n with q | q
 ·exact O (sb q) (O (Di (nz.mpr q)) (Ch h))
 ·exact O (vy q) (O (Cg (nz.mpr q)) (Ch (Ai n)))
theorem QW (a b n:Nat):min b n-min a n=min b n-a:=by
 rcases Fq a n with q | q
 ·exact O (sb q) rfl
 ·exact O (vy q) (O (og (ow b n)) (O (og (aa (ow b n) q)) rfl))
noncomputable def iP (a b n:Nat):List Nat:=(cv (min b n-min a n)).map (min a n+·)
theorem MG{α:Type}(l:List α) (a b:Nat):(iP a b l.length).filterMap (l[·]?)=(l.take b).drop a:=by
 delta iP
 refine O (tK ..) (XO Ed (O (List.take_eq_take_iff.mpr (show min (min b l.length) l.length=min b l.length by rw[Et,Fs])) (List.drop_eq_drop_iff.mpr ?_)));exact O re (O (Et ..) (O (vy (ow b l.length)) rfl))
theorem tL{α:Type}(l:List α) (a b:Nat):(iP a b l.length).length=((l.take b).drop a).length:=by
 rw[iP,dx,qr,QW,rd,re]
theorem xI (a b n:Nat):sliceRange ((min a n:Nat):Int) ((min b n:Nat):Int) 1=iP a b n:=UE _ _
theorem ER (a n:Nat):sliceRange ((min a n:Nat):Int) (n:Int) 1=iP a n n:=by exact XO (xI ..) (O (Fs ..) rfl)
theorem ES (b n:Nat):sliceRange 0 ((min b n:Nat):Int) 1=iP 0 b n:=by refine XO (xI ..) (O (Nat.zero_min ..) ?_);rfl
theorem xJ{l:List PV}{lo hi:Option Int}{a b:Nat}(hl:l.length<=100000) (h:dK lo hi none l.length=iP a b l.length):cY (.lst l) lo hi none=some (.lst ((l.take b).drop a)):=by
 show(if _ then _ else _)=_;exact O (if_pos ⟨hl,λq=>nomatch q⟩) (O h (O (MG ..) rfl))
theorem QX (h:0<=a) (h':0<=b) (n:Nat):dK (some a) (some b) none n=iP a.toNat b.toNat n:=by
 delta dK sliceBounds
 dsimp only[iu,show(1:Int)>0 by decide,if_true]
 (rw[bnd h,bnd h'];exact O (xI ..) rfl)
theorem MH (h:0<=a) (n:Nat):dK (some a) none none n=iP a.toNat n n:=by
 delta dK sliceBounds
 dsimp only[iu,show(1:Int)>0 by decide,if_true]
 (rw[bnd h];exact O (ER ..) rfl)
theorem MI (h:0<=b) (n:Nat):dK none (some b) none n=iP 0 b.toNat n:=by
 delta dK sliceBounds
 dsimp only[iu,show(1:Int)>0 by decide,if_true]
 (rw[bnd h];exact O (ES ..) rfl)
theorem MJ (l:List PV) (k:Int) (h:0<=k) (hl:l.length<=100000):cY (.lst l) none (some k) none=some (.lst (l.take k.toNat)):=xJ (a:=0) hl (MI h _)
theorem MK (l:List PV) (k:Int) (h:0<=k) (hl:l.length<=100000):cY (.lst l) (some k) none none=some (.lst (l.drop k.toNat)):=by
 exact O (xJ hl (MH h _)) (O ni rfl)
theorem V5 (l:List PV) (a b:Int) (h:0<=a) (h':0<=b) (hl:l.length<=100000):cY (.lst l) (some a) (some b) none=some (.lst ((l.take b.toNat).drop a.toNat)):=xJ hl (QX h h' _)
theorem v5{α β:Type}{f g:α->Option β}:∀{l:List α},(∀x∈l,f x=g x)->l.filterMap f=l.filterMap g
 | [],_=>rfl
 | a::l,h=>by exact O ex (O ex (O (h a (aj)) (O (v5 λx hx=>h x (by simp[hx])) rfl)))
theorem UF (l:List Nat) (ix:List Nat) (r:List Nat) (h:ix.filterMap (l[·]?)=r) (Vg:ix.length=r.length) (hr:r.length=l.length->r=l) :
  (if (ix.length==l.length)=true then sx l else(⟨(ix.filterMap ((sx l).cps[·]?)).toArray⟩:Str))=sx r:=by
 have e:∀i:Nat,(sx l).cps[i]?=l[i]?:=by intro i;simp[sx]
 have e2:ix.filterMap ((sx l).cps[·]?)=r:=by exact XO h (v5 λi _=>e i)
 refine O e2 ?_
 by_cases hc:ix.length=l.length
 ·exact O (if_pos (by simpa using hc)) (O (hr (az (fn3 (.x .q .r) [.z1 .q .s,.z1 .s .r] Vg.symm hc) (fn3 (.x .q .r) [.z1 .s .r,.z1 .q .s] Vg hc.symm))) rfl)
 ·refine O (if_neg (by simpa using hc)) ?_;rfl
theorem QY (h:0<=a) (h':0<=b) (n:Nat):iX (some a) (some b) none n=iP a.toNat b.toNat n:=by
 delta iX lz
 dsimp only[iu,show(1:Int)>0 by decide,if_true]
 (rw[bnd h,bnd h'];exact O (xI ..) rfl)
theorem ML (h:0<=a) (n:Nat):iX (some a) none none n=iP a.toNat n n:=by
 delta iX lz
 dsimp only[iu,show(1:Int)>0 by decide,if_true]
 (rw[bnd h];exact O (ER ..) rfl)
theorem MM (h:0<=b) (n:Nat):iX none (some b) none n=iP 0 b.toNat n:=by
 delta iX lz
 dsimp only[iu,show(1:Int)>0 by decide,if_true]
 (rw[bnd h];exact O (ES ..) rfl)
theorem xK{l:List Nat}{lo hi:Option Int}{a b:Nat}(hl:l.length<=100000) (h:iX lo hi none l.length=iP a b l.length):cY (.str (sx l)) lo hi none=some (.str (sx ((l.take b).drop a))):=by
 have hs:((l.take b).drop a).Sublist l:=(List.drop_sublist a _).trans (List.take_sublist b l);show(if _ then _ else _)=_;exact O (iO ..) (O h (O (if_pos ⟨rfl,by rw[tL];exact aa hs.length_le hl⟩) (O (UF l _ _ (MG l a b) (tL l a b) hs.eq_of_length) rfl)))
theorem CP (l:List Nat) (k:Int) (h:0<=k) (hl:l.length<=100000):cY (.str (sx l)) none (some k) none=some (.str (sx (l.take k.toNat))):=xK (a:=0) hl (MM h _)
theorem MN (l:List Nat) (k:Int) (h:0<=k) (hl:l.length<=100000):cY (.str (sx l)) (some k) none none=some (.str (sx (l.drop k.toNat))):=by
 exact O (xK hl (ML h _)) (O ni rfl)
theorem V6 (l:List Nat) (a b:Int) (h:0<=a) (h':0<=b) (hl:l.length<=100000):cY (.str (sx l)) (some a) (some b) none=some (.str (sx ((l.take b.toNat).drop a.toNat))):=xK hl (QY h h' _)
theorem jB (a b:List Nat):bF .Eq (.str (sx a)) (.str (sx b))=some (a==b):=by
 show some (sx a==sx b)=_;exact O (MF ..) rfl
theorem fQ (a b:List Nat) (h:a.length+b.length<=100000):dM .Add (.str (sx a)) (.str (sx b))=some (.str (sx (a++b))):=by
 exact O (MC _ _ (by rw[iO,iO];exact h)) (O (xH ..) rfl)
section
section
variable{F:Fn}{pe pe':PEnv}{a:PSs}{t:PE}{n:Nat}{R:Option (PEnv × Fl)}
theorem QZ (h:aA F t pe=some (.bool false)):eX (aA F t) (aE F a) (n+1) pe=some (pe,.next):=by
 show(match aA F t pe with | some (.bool false)=>_ | some (.bool true)=>_ | _=>_)=_;exact O h rfl
theorem Q0 (h:aA F t pe=some (.bool true)) (hb:aE F a pe=some (pe',.next)) (h2:eX (aA F t) (aE F a) n pe'=R):eX (aA F t) (aE F a) (n+1) pe=R:=by
 show(match aA F t pe with | some (.bool false)=>_ | some (.bool true)=>_ | _=>_)=_;refine O h ?_;show(match aE F a pe with | some (Ia,.next)=>_ | some (Ia,.brk)=>_ | some (Ia,.ret v)=>_ | none=>_)=_;exact O hb h2
end
def uX:List (Str × SV):=match Co.aQ with | .dcts l=>l | _=>[]
theorem ET:Co.aQ=.dcts uX:=rfl
def tk (l:List Nat):Option Int:=match uX.lookup (sx l) with
 | some (.i n)=>some n
 | _=>none
theorem MO:∀x∈uX,∃n,x.2=SV.i n:=by
 have:(uX.all λx=>match x.2 with | .i _=>true | _=>false)=true:=by decide +kernel
 intro x hx;have:=am.mp this x hx;cases h:x.2 with
 | i n=>exact⟨n,rfl⟩
 | t s=>rw[h] at this;cases this
set_option tactic.hygienic true in
theorem qY (h:tk l=some n):uX.lookup (sx l)=some (.i n):=by
 delta tk at h
 revert h;cases uX.lookup (sx l) with
 | none=>exact nn
 | some v=>cases v with
  | i m=>exact λh=>congrArg (λn=>some (SV.i n)) (sm h)
  | _=>exact nn
theorem EU (h:tk l=none):uX.lookup (sx l)=none:=by
 cases hl:uX.lookup (sx l) with
 | none=>rfl
 | some v =>
  refine xe (MO _ (aS hl)) λn hn=>?_;simp only at hn;subst hn;unfold tk at h;rw[hl] at h;cases h
def AF (l:List Nat):Option (Int × Nat):=match tk (l.take 3) with
 | some n=>some (n,3)
 | none=>match tk (l.take 2) with
  | some n=>some (n,2)
  | none=>match tk (l.take 1) with
   | some n=>some (n,1)
   | none=>none
def toks:Nat->List Nat->Option (List Int)
 | _,[]=>some []
 | 0,_::_=>none
 | f+1,c::l=>match AF (c::l) with
  | some (n,k)=>(toks f ((c::l).drop k)).map (n::·)
  | none=>none
variable{F:Fn}
theorem CQ (l:List Nat) (nums:PV) (hl:l.length<=100000) (h:AF l=some (n,k)) :
  eX (aA F (.cmp .NotIn Q0G (.gcst Co.aQ))) (aE F Q0I) 1000 [some (.str (sx l)),some nums,some (.int 3)] =
   some ([some (.str (sx l)),some nums,some (.int (k:Int))],.next)/\tk (l.take k)=some n/\1<=k:=by
 have test:∀m:Int,0<=m->aA F (.cmp .NotIn Q0G (.gcst Co.aQ)) [some (.str (sx l)),some nums,some (.int m)]=some (.bool (!(uX.lookup (sx (l.take m.toNat))).isSome)):=by
  intro m hm;refine O ET ?_;simp only[aF,EVL,kG,kH,CP l m hm hl];rfl
 have dec:∀m:Int,aE F Q0I [some (.str (sx l)),some nums,some (.int m)]=some ([some (.str (sx l)),some nums,some (.int (m-1))],.next):=λm=>aG (aug rfl rfl rfl);unfold AF at h;cases h3:tk (l.take 3) with
 | some n3 =>
  rw[h3] at h;cases h;refine(iaa (QZ ?_) h3 (by decide));refine O (test 3 (by decide)) (O (show(3:Int).toNat=3 from rfl) (O (qY h3) ?_));rfl
 | none =>
  rw[h3] at h;simp only at h;have t3:=test 3 (by decide);rw[show(3:Int).toNat=3 from rfl,EU h3] at t3;cases h2:tk (l.take 2) with
  | some n2 =>
   rw[h2] at h;cases h;refine(iaa (Q0 t3 (dec 3) (QZ ?_)) h2 (by decide));refine O (show(3-1:Int)=2 from rfl) (O (test 2 (by decide)) (O (show(2:Int).toNat=2 from rfl) (O (qY h2) ?_)));rfl
  | none =>
   rw[h2] at h;simp only at h;have t2:=test 2 (by decide);rw[show(2:Int).toNat=2 from rfl,EU h2] at t2;cases h1:tk (l.take 1) with
   | some n1 =>
    rw[h1] at h;cases h;refine(iaa (Q0 t3 (dec 3) (Q0 t2 (dec 2) (QZ ?_))) h1 (by decide));refine O (show(2-1:Int)=1 from rfl) (O (test 1 (by decide)) (O (show(1:Int).toNat=1 from rfl) (O (qY h1) ?_)));rfl
   | none=>rw[h1] at h;cases h
theorem UG:toks f []=some []:=by cases f <;> rfl
theorem UH:toks (f+1) (c::l)=match AF (c::l) with
  | some (n,k)=>(toks f ((c::l).drop k)).map (n::·)
  | none=>none:=rfl
theorem v6:∀(f:Nat) (l:List Nat) (r:List Int) (acc:List PV) (sz:Option PV),toks f l=some r->l.length<=1000->acc.length+f<=10000 ->
  ∃sz',eX (aA F (.cmp .NotEq Qv (.cst (.str ("":Str))))) (aE F (.cons (.asg 2 Q0v) (.cons (.while 1000 (.cmp .NotIn Q0G (.gcst Co.aQ)) Q0I) (.cons (.app 1 (.sub (.gcst Co.aQ) Q0G)) (.cons (.asg 0 (.slc Qv Q03 Qa Qa)) .nil)))))
   (f+1) [some (.str (sx l)),some (.lst acc),sz]=some ([some (.str (sx [])),some (.lst (acc++r.map .int)),sz'],.next)
 | f,[],r,acc,sz,h,_,_=>by
  simp[UG] at h;subst h;refine⟨sz,?_⟩;refine O gp (O (fy ..) (QZ ?_));refine O (show("":Str)=sx [] from rfl) ?_;rfl
 | 0,_::_,_,_,_,h,_,_=>by trivial
 | f+1,c::l,r,acc,sz,h,hl,ha=>by
  rw[UH] at h;cases hm:AF (c::l) with
  | none=>rw[hm] at h;cases h
  | some x =>
   obtain⟨n,k⟩:=x;rw[hm] at h;simp only at h;cases ht:toks f ((c::l).drop k) with
   | none=>rw[ht] at h;cases h
   | some r' =>
    rw[ht] at h;cases h;refine xaa (CQ (F:=F) (c::l) (.lst acc) (aa hl (by decide)) hm) λi1 i2 i3=>?_;refine xe (v6 f ((c::l).drop k) r' (acc++[.int n]) (some (.int (k:Int))) ht (by simp;simp at hl;exact fn2 (.x .kc (.A .kj .r)) [.x .q (.N 999)] hl) (by simp;exact fn2 (.x .jg (.N 10000)) [.x .kO (.N 10000)] ha)) λsz' ih=>?_;refine⟨sz',Q0 (pe':=[some (.str (sx ((c::l).drop k))),some (.lst (acc++[.int n])),some (.int (k:Int))]) ?_ ?_ ?_⟩
    ·refine O (show("":Str)=sx [] from rfl) ?_;rfl
    ·refine seq (asg (by rfl)) ?_;simp only[aY,aZ];refine seq (EP i1) ?_;refine seq (app (p:=.int n) (l:=acc) rfl ?_ (fn2 (.x .q .kv) [.x .kO (.N 10000)] ha)) ?_
     ·refine O ET ?_;simp only[aF,EVL,kG,kH,CP (c::l) (k:Int) (ya) (aa hl (by decide)),dg];show(uX.lookup (sx ((c::l).take k))).map SV.pv=_;refine O (qY i2) ?_;rfl
     ·simp only[aY,aZ];refine aG (asg ?_);exact MN (c::l) (k:Int) (ya) (by lia)
    ·refine O ih ?_;simp
theorem tM (h:toks 999 l=some r) (hl:l.length<=1000):dJ F Co.dS [.str (sx l)]=some (.lst (r.map .int)):=by
 apply iL rfl;show fV (aE F Co.dS.code [some (.str (sx l)),none,none])=_
 delta Co.dS
 refine aR (asgO (l:=[]) (by rfl)) ?_;simp only[aY,aZ];refine xe (v6 (F:=F) 999 l r [] none h hl (by decide)) λsz' hw=>?_;refine aR (EP hw) ?_;refine dU ?_;simp only[aF,EVL];simp
end
def itm (x:Nat × List Nat):PV:=.tup [.int (x.1:Int),.str (sx x.2)]
noncomputable def esc:Nat->Bool->List Nat->List (Nat × List Nat)
 | k,true,[]=>[(k-1,[92])]
 | _,false,[]=>[]
 | k,true,c::l=>(k,[92,c])::esc (k+1) false l
 | k,false,c::l=>if c=92 then esc (k+1) true l else(k,[c])::esc (k+1) false l
theorem eC:esc k true []=[(k-1,[92])]:=rfl
theorem eE:esc k false []=[]:=rfl
theorem eF:esc k true (c::l)=(k,[92,c])::esc (k+1) false l:=rfl
theorem eG:esc k false (c::l)=if c=92 then esc (k+1) true l else(k,[c])::esc (k+1) false l:=rfl
theorem qZ:∀(l:List Nat) (k:Nat) (b:Bool),(b=true->0<k)->eK k b l=(esc k b l).map itm
 | [],k,true,h=>by
  have:=h rfl
  dsimp only[BN,BO,BP,BQ,eC,eE,eF,eG,ak,gp,itm,sx]
  exact O (show((k:Int)-1)=((k-1:Nat):Int) by exact ca (Ym (ae (fan [_] (.x .n1 .q) [.y .n0 .q] this)).symm) (Yn (ae (fan [_] (.x .n1 .q) [.y .n0 .q] this)))) rfl
 | [],k,false,_=>rfl
 | c::l,k,true,_=>by
  dsimp only[BN,BO,BP,BQ,eC,eE,eF,eG,ak,itm,sx]
  exact O (qZ l (k+1) false (by simp)) rfl
 | c::l,k,false,_=>by
  dsimp only[BN,BO,BP,BQ,eC,eE,eF,eG]
  split
  ·exact qZ l (k+1) true (by simp)
  ·simp only[ak,itm,sx];exact O (qZ l (k+1) false (by simp)) rfl
theorem jC (hl:l.length<=10000) (ha:l.all (·<128)=true):eO (.str (sx l))=some ((esc 0 false l).map itm):=by
 show(if _ then _ else _)=_;exact O (if_pos ⟨by rw[iO];exact hl,by simpa [sx] using ha⟩) (O (lM ..) (XO (qZ l 0 false (by simp)) rfl))
noncomputable def jK:Bool->List Nat->Bool
 | b,[]=>b
 | true,_::l=>jK false l
 | false,c::l=>jK (c==92) l
theorem nK:jK b []=b:=rfl
theorem nL:jK true (c::l)=jK false l:=rfl
theorem nM:jK false (c::l)=jK (c==92) l:=rfl
theorem jD:∀(a b:List Nat) (k:Nat) (p:Bool),jK p a=false->esc k p (a++b)=esc k p a++esc (k+a.length) false b
 | [],b,k,p,h=>by
  dsimp only[nK,nL,nM] at h
  subst h;rfl
 | c::a,b,k,true,h=>by
  dsimp only[nK,nL,nM] at h
  dsimp only[bf,eC,eE,eF,eG,db]
  refine O (jD a b (k+1) false h) ?_;congr 3;exact Yw
 | c::a,b,k,false,h=>by
  dsimp only[nK,nL,nM] at h
  dsimp only[bf,eC,eE,eF,eG,db]
  split
  ·rename_i hc;rw[hc] at h;refine O (jD a b (k+1) true h) ?_;congr 2;exact Yw
  ·rename_i hc;have:(c==92)=false:=by simpa using hc
   rw[this] at h;refine O bf (O (jD a b (k+1) false h) ?_);congr 3;exact Yw
structure SQ where
 start:Nat
 op:Option Nat
 acc:List (List Nat)
def bH (AT:List Nat) (s:SQ) (x:Nat × List Nat):SQ :=
 if x.2=[34] then match s.op with
  | none=>{s with op:=some x.1}
  | some o=>⟨x.1+1,none,if s.start=o then s.acc else s.acc++[(AT.take o).drop s.start]⟩
 else s
def sq (AT:List Nat) (s:SQ) (l:List (Nat × List Nat)):SQ:=l.foldl (bH AT) s
noncomputable def CR:Option Nat->PV
 | none=>.none
 | some o=>.int (o:Int)
def mM (l:List (List Nat)):PV:=.lst (l.map λx=>.str (sx x))
section
variable{F:Fn}
theorem lO (l:List Nat) (h:l.length<=100000):biF .len [.str (sx l)]=some (.int (l.length:Int)):=by
 show(if _ then _ else _)=_;exact O (if_pos (by rw[iO];exact h)) (O (iO ..) rfl)
theorem rA (x y:Int):bF .NotEq (.int x) (.int y)=some (!(x==y)):=rfl
theorem Q1 (AT:List Nat) (hf:AT.length<=10000) (s:SQ) (x:Nat × List Nat) (p q:Option PV) (Kk:s.acc.length<=10000) :
  aE F (.cons (.ite (.cmp .Eq Q0p (.cst (.str ("\"":Str)))) Ql .nil) .nil)
   [some (.str (sx AT)),some (.int (s.start:Int)),some (CR s.op),some (mM s.acc),some (.int (x.1:Int)),some (.str (sx x.2))] =
   some ([some (.str (sx AT)),some (.int ((bH AT s x).start:Int)),some (CR (bH AT s x).op),some (mM (bH AT s x).acc),some (.int (x.1:Int)),some (.str (sx x.2))],.next):=by
 obtain⟨k,u⟩:=x;obtain⟨start,op,acc⟩:=s;simp only at Kk ⊢;refine O (show("\"":Str)=sx [34] from rfl) ?_
 delta bH
 simp only
 by_cases hu:u=[34]
 ·refine O (if_pos hu) ?_;subst hu;refine aG (dT (by rfl) ?_);cases op with
  | none =>
   refine aG (dT (by rfl) ?_);exact aG (asg (by rfl))
  | some o =>
   refine aG (cA (by rfl) ?_);simp only
   by_cases hs:start=o
   ·refine O (if_pos hs) (seq (cA ?_ bG) ?_)
    ·show aA F _ _=_;simp only[aF,EVL,CR,rA];subst hs;simp
    ·refine seq (asg (by rfl)) ?_
     dsimp only[aY,aZ]
     exact aG (asg (by rfl))
   ·refine O (if_neg hs) ?_;refine seq (dT ?_ (aG (app (l:=acc.map λx=>.str (sx x)) rfl (p:=.str (sx ((AT.take o).drop start))) ?_ (by simp;exact aa Kk (by decide))))) ?_
    ·simp only[aF,EVL,CR,rA];have:((start:Int)==(o:Int))=false:=by simp;lia
     refine O this ?_;rfl
    ·exact V6 AT (start:Int) (o:Int) (ya) (ya) (aa hf (by decide))
    ·dsimp only[aY,aZ]
     refine seq (asg (by rfl)) ?_
     dsimp only[aY,aZ]
     refine(aG (asg (by rfl))).trans ?_;simp only[aY,aZ,mM,di,ak,gp,CR];push_cast;rfl
 ·refine O (if_neg hu) (aG (cA ?_ bG));simp only[aF,EVL,jB];have:(u==[34])=false:=by simpa using hu
  exact O this rfl
theorem xL:dD body tg [] pe=some (pe,.next):=rfl
theorem cB{body:PEnv->Option (PEnv × Fl)}{tg:List Nat}{p:PV}{l:List PV}{pe Jk Ia:PEnv}{R:Option (PEnv × Fl)}(h1:fC tg p pe=some Jk) (h2:body Jk=some (Ia,.next)) (h3:dD body tg l Ia=R):dD body tg (p::l) pe=R:=by
 exact(BM h1 h2).trans h3
theorem Q2 (h1:fC tg p pe=some Jk) (h2:body Jk=some (Ia,.brk)):dD body tg (p::l) pe=some (Ia,.next):=BM h1 h2
theorem Q3 (h1:fC tg p pe=some Jk) (h2:body Jk=some (Ia,.ret v)):dD body tg (p::l) pe=some (Ia,.ret v):=BM h1 h2
theorem MP (AT:List Nat) (s:SQ) (x:Nat × List Nat):(bH AT s x).acc.length<=s.acc.length+1:=by
 delta bH
 split
 ·split
  ·simp
  ·simp only;split <;> simp
 ·exact fn1 (.x .q .kc) []
theorem EV (AT:List Nat) (hf:AT.length<=10000):∀(l:List (Nat × List Nat)) (s:SQ) (p q:Option PV),s.acc.length+l.length<=10000 ->
  ∃p' q',dD (aE F (.cons (.ite (.cmp .Eq Q0p (.cst (.str ("\"":Str)))) Ql .nil) .nil)) [4,5] (l.map itm)
   [some (.str (sx AT)),some (.int (s.start:Int)),some (CR s.op),some (mM s.acc),p,q] =
   some ([some (.str (sx AT)),some (.int ((sq AT s l).start:Int)),some (CR (sq AT s l).op),some (mM (sq AT s l).acc),p',q'],.next)
 | [],s,p,q,_=>(iee p q rfl)
 | x::l,s,p,q,h=>by
  dsimp only[db] at h
  refine xee (EV AT hf l (bH AT s x) (some (.int (x.1:Int))) (some (.str (sx x.2))) (by have:=MP AT s x;exact fn3 (.x .ko (.N 10000)) [.x (.A .s .ke) (.N 10000),.x .q .kL] h this)) λp' q' ih=>?_;exact(iee p' q' (cB rfl (Q1 AT hf s x p q (fn2 (.x .q (.N 10000)) [.x .kO (.N 10000)] h)) ih))
theorem tO:∀(l:List (List Nat)),jF (l.map λx=>PV.str (sx x))=some (l.map sx)
 | []=>rfl
 | x::l=>by
  show(match I6 (PV.str (sx x)),jF (l.map λx=>PV.str (sx x)) with | some a,some b=>some (a::b) | _,_=>none)=_;refine O (tO l) ?_;rfl
noncomputable def tP (sep:List Nat):List (List Nat)->List Nat
 | []=>[]
 | [x]=>x
 | x::y::l=>x++sep++tP sep (y::l)
theorem Q4:tP sep [x]=x:=rfl
theorem Q5:tP sep (x::y::l)=x++sep++tP sep (y::l):=rfl
theorem hV:∀(l:List (List Nat)),tP [] l=l.flatten
 | []=>rfl
 | [x]=>by simp[Q4]
 | x::y::l=>by rw[Q5,hV (y::l)];simp
theorem EW (sep:List Nat):∀(l:List (List Nat)),Hv (sx sep) (l.map sx)=sx (tP sep l)
 | []=>rfl
 | [x]=>rfl
 | x::y::l=>by
  show sx x++sx sep++Hv (sx sep) ((y::l).map sx)=_
  (refine O (EW sep (y::l)) ?_;rw[xH];refine O (xH ..) ?_)
  rfl
theorem UI (sep:List Nat) (l:List (List Nat)) (h:(l.map fo).sum+l.length*sep.length<=100000):Gy (sx sep) (l.map sx)=true:=by
 have key:∀(l:List (List Nat)) (a:Nat),(l.map sx).foldl (·+·.length+(sx sep).length) a=a+(l.map fo).sum+l.length*sep.length:=by
  intro l
  induction l with
  | nil=>intro a;simp
  | cons x l ih =>
   intro a;refine O ak (O Dc (O (ih ..) (O (iO ..) (O (iO ..) ?_))));simp only[ak,lc,db,Fm];exact fn5 (.z1 (.A (.A (.A .ko .s) .t) (.M .u .s)) (.A (.A .q (.A .r .t)) (.A (.M .u .s) .s))) []
 delta Gy
 refine XO (Array.foldl_toList ..) (O zq (O (key l 0) ?_))
 delta zo sizeLine
 simp;exact aa h (by decide)
theorem lP (sep:List Nat) (l:List (List Nat)) (h:(l.map fo).sum+l.length*sep.length<=100000):meF .join (.str (sx sep)) [mM l]=some (.str (sx (tP sep l))):=by
 show(jF (l.map λx=>PV.str (sx x))).bind (λts=>if Gy (sx sep) ts then some (PV.str (Ht (sx sep) ts)) else none)=_;refine O (tO ..) ((if_pos (UI sep l h)).trans ?_);congr 2;exact XO (EW sep l) (eq_of_beq (join_plain_closes _ _))
def lQ (l:List Nat):List Nat :=
 if 34∈l then(let s:=sq l ⟨0,none,[]⟩ (esc 0 false l);(s.acc++(if s.start<l.length then[l.drop s.start] else[])).flatten) else l
theorem tQ (AT:List Nat):∀(l:List (Nat × List Nat)) (s:SQ),(sq AT s l).acc.length<=s.acc.length+l.length
 | [],s=>by simp[sq]
 | x::l,s=>by
  have:=tQ AT l (bH AT s x);have h2:=MP AT s x;show(sq AT (bH AT s x) l).acc.length<=_
  dsimp only[db];exact fn4 (.x .q (.A .r .kL)) [.x .q (.A .t .s),.x .t .ke] this h2
theorem MQ (AT:List Nat):∀(l:List (Nat × List Nat)) (s:SQ) (w:Nat),(∀o,s.op=some o->o<=w)->(s.acc.map fo).sum<=s.start->s.start<=w->(∀o,s.op=some o->s.start<=o)->(∀x∈l,w<=x.1)->l.Pairwise (λa b=>a.1<b.1) ->
  ((sq AT s l).acc.map fo).sum<=(sq AT s l).start
 | [],s,w,_,h,_,_,_,_=>h
 | x::l,s,w,ho,h,hs,Y5,hx,hp=>by
  have Py:=hx x (aj);have Y6:=tq.mp hp;show((sq AT (bH AT s x) l).acc.map fo).sum<=(sq AT (bH AT s x) l).start;refine MQ AT l (bH AT s x) (x.1+1) ?_ ?_ ?_ ?_ ?_ Y6.2
  ·intro o h'
   delta bH at h'
   split at h'
   ·split at h'
    ·cases h';exact fn1 (.x .q .kc) []
    ·cases h'
   ·have:=ho o h';exact fn3 (.x .q .ke) [.x .s .r,.x .q .s] Py this
  ·delta bH
   split
   ·split
    ·exact h
    ·rename_i o Y7;have h1:=Y5 o Y7;have h2:=ho o Y7;simp only;split
     ·exact fn4 (.x .q .ke) [.x .q .s,.x .s .t,.x .t .r] h hs Py
     ·simp only[di,wm,ak,gp,lc,Bg,rd,re];exact aa (za h (Nat.sub_le_sub_right (Dj o AT.length) s.start)) (by rw[zu h1];exact gj (aa h2 Py))
   ·exact h
  ·delta bH
   split
   ·split
    ·exact gj (aa hs Py)
    ·exact ah _
   ·exact gj (aa hs Py)
  ·intro o h'
   delta bH at h' ⊢
   split at h'
   ·rename_i hu;refine O (if_pos hu) ?_;split at h'
    ·rename_i hn;cases h'
     dsimp only[hn];exact aa hs Py
    ·cases h'
   ·rename_i hu;exact O (if_neg hu) (Y5 o h')
  ·intro y hy;have:=Y6.1 y hy;exact fn2 (.x .kc .r) [.y .q .r] this
theorem rB:∀(l:List Nat) (k:Nat) (b:Bool),(∀x∈esc k b l,k<=x.1+(if b then 1 else 0))/\(esc k b l).Pairwise (λa b=>a.1<b.1)
 | [],k,true=>by simp[eC,eE,eF,eG];exact(fc (ah _))
 | [],k,false=>by simp[eC,eE,eF,eG]
 | c::l,k,true=>by
  refine xa (rB l (k+1) false) λh1 h2=>?_
  dsimp only[eC,eE,eF,eG]
  refine⟨λx hx=>?_,tq.mpr ⟨λy hy=>?_,h2⟩⟩
  ·rcases ax.mp hx with rfl | hx
   ·simp
   ·have:=h1 x hx;simp at this ⊢;exact fn2 (.x .q .ke) [.x .kc .r] this
  ·have:=h1 y hy;simp at this;lia
 | c::l,k,false=>by
  dsimp only[eC,eE,eF,eG]
  split
  ·refine xa (rB l (k+1) true) λh1 h2=>?_;refine⟨λx hx=>?_,h2⟩;have:=h1 x hx;simp at this ⊢;lia
  ·refine xa (rB l (k+1) false) λh1 h2=>?_;refine⟨λx hx=>?_,tq.mpr ⟨λy hy=>?_,h2⟩⟩
   ·rcases ax.mp hx with rfl | hx
    ·simp
    ·have:=h1 x hx;simp at this ⊢;exact YN this
   ·have:=h1 y hy;simp at this;lia
theorem mE:∀(l:List Nat) (k:Nat) (b:Bool),(esc k b l).length<=l.length+1
 | [],k,true=>by exact ta _
 | [],k,false=>by simp[eC,eE,eF,eG]
 | c::l,k,true=>by have:=mE l (k+1) false;simp[eC,eE,eF,eG];lia
 | c::l,k,false=>by
  dsimp only[eC,eE,eF,eG]
  split
  ·have:=mE l (k+1) true;simp;exact fn2 (.x .q (.A .ke .n1)) [.x .q .ke] this
  ·have:=mE l (k+1) false;simp;lia
theorem xM:∀(l:List Nat) (k:Nat) (b:Bool),∀x∈esc k b l,x.1<=k+l.length
 | [],k,true,x,hx=>by simp[eC,eE,eF,eG] at hx;subst hx;simp
 | [],k,false,x,hx=>by simp[eC,eE,eF,eG] at hx
 | c::l,k,true,x,hx=>by
  dsimp only[eC,eE,eF,eG] at hx
  rcases ax.mp hx with rfl | hx
  ·simp
  ·have:=xM l (k+1) false x hx;simp;exact yw this
 | c::l,k,false,x,hx=>by
  dsimp only[eC,eE,eF,eG] at hx
  split at hx
  ·have:=xM l (k+1) true x hx;simp;exact yw this
  ·rcases ax.mp hx with rfl | hx
   ·simp
   ·have:=xM l (k+1) false x hx;simp;lia
theorem AG (AT:List Nat):∀(l:List (Nat × List Nat)) (s:SQ) (n:Nat),s.start<=n->(∀x∈l,x.1+1<=n)->(sq AT s l).start<=n
 | [],s,n,h,_=>h
 | x::l,s,n,h,hx=>by
  show(sq AT (bH AT s x) l).start<=n;refine AG AT l _ n ?_ (λy hy=>hx y (by simp[hy]));have:=hx x (aj)
  delta bH
  split
  ·split
   ·exact h
   ·exact this
  ·exact h
theorem v7 (hl:l.length<=9000) (ha:l.all (·<128)=true):dJ F Co.aO [.str (sx l)]=some (.str (sx (lQ l))):=by
 apply iL rfl;show fV (aE F Co.aO.code [some (.str (sx l)),none,none,none,none,none])=_
 delta Co.aO
 have occ:bF .NotIn (.str ("\"":Str)) (.str (sx l))=some (!decide (34∈l)):=by
  show some (!(!(dc (sx l) ⟨#[34]⟩ 0 (sx l).length 1).isEmpty))=_;exact O (ul ..) (O (lM ..) rfl)
 delta lQ
 by_cases Ry:34∈l
 ·refine O (if_pos Ry) ?_;refine b8 (by simp only[aF,EVL,occ];simp[Ry]) ?_;refine aR (asg (by rfl)) ?_;refine aR (asg (by rfl)) ?_;refine aR (asgO (l:=[]) (by rfl)) ?_
  dsimp only[aY,aZ]
  have hE:=mE l 0 false;refine xee (EV (F:=F) l (aa hl (by decide)) (esc 0 false l) ⟨0,none,[]⟩ none none (by simp;exact fn2 (.x .q (.N 10000)) [.x .r .jk,.x .q .ke] hl hE)) λp' q' hw=>?_;have Nd:=MQ l (esc 0 false l) ⟨0,none,[]⟩ 0 (by trivial) (by simp) (by simp) (by trivial) (by simp) (rB l 0 false).2;have Kk:=tQ l (esc 0 false l) ⟨0,none,[]⟩
  dsimp only[mr] at Kk
  have Rz:(sq l ⟨0,none,[]⟩ (esc 0 false l)).start<=l.length+1:=AG l (esc 0 false l) ⟨0,none,[]⟩ (l.length+1) (iq _) (λx hx=>by have:=xM l 0 false x hx;exact fn2 (.x .kc .ke) [.x .q (.A .n0 .r)] this);generalize sq l ⟨0,none,[]⟩ (esc 0 false l)=s at *;refine aR (EO (by rfl) (jC (aa hl (by decide)) ha) hw) ?_
  by_cases hs:s.start<l.length
  ·refine O (if_pos hs) ?_;refine aR (dT ?_ (aG (app (l:=s.acc.map λx=>.str (sx x)) rfl (p:=.str (sx (l.drop s.start))) ?_ (by simp;exact fn3 (.x .q .kv) [.x .r .jk,.x .s .ke,.x .q (.A .n0 .s)] hl hE Kk)))) ?_
   ·simp only[aF,EVL,lO l (aa hl (by decide))];simp[hs]
   ·exact MN l (s.start:Int) (ya) (aa hl (by decide))
   ·dsimp only[aY,aZ]
    refine dU ?_;refine O (show("":Str)=sx [] from rfl) ?_;simp only[aF,EVL];have:=lP [] (s.acc++[l.drop s.start]) (by simp;exact fn4 (.x .ko .kv) [.x .s .jk,.x .q .t,.z1 (.A .r .t) .s] hl Nd (ae (fan [_,_] (.x .q .r) [.y .q .r] hs)));rw[hV] at this;simp only[mM,di,ak,gp] at this;exact this
  ·refine O (if_neg hs) (O (fy ..) (b8 ?_ ?_))
   ·simp only[aF,EVL,lO l (by lia)];simp[hs]
   ·refine dU ?_;refine O (show("":Str)=sx [] from rfl) ?_;simp only[aF,EVL];have:=lP [] s.acc (by simp;exact fn3 (.x .q .kv) [.x .r .jk,.x .q .s,.x .s .ke] hl Nd Rz);rw[hV] at this;exact this
 ·refine O (if_neg Ry) ?_;refine jA (by simp only[aF,EVL,occ];simp[Ry]) (dU (by rfl))
end
noncomputable def uns:Bool->List Nat->List (List Nat)
 | true,[]=>[[92]]
 | false,[]=>[]
 | true,c::l=>[92,c]::uns false l
 | false,c::l=>if c=92 then uns true l else[c]::uns false l
theorem mR:uns true []=[[92]]:=rfl
theorem mS:uns false []=[]:=rfl
theorem mT:uns true (c::l)=[92,c]::uns false l:=rfl
theorem mU:uns false (c::l)=if c=92 then uns true l else[c]::uns false l:=rfl
theorem dE:∀(l:List Nat) (k:Nat) (b:Bool),(esc k b l).map (·.2)=uns b l
 | [],k,true=>rfl
 | [],k,false=>rfl
 | c::l,k,true=>by simp[eC,eE,eF,eG,mR,mS,mT,mU,dE l]
 | c::l,k,false=>by
  dsimp only[eC,eE,eF,eG,mR,mS,mT,mU]
  split
  ·exact dE l (k+1) true
  ·simp[dE l]
theorem d8 (a b:List Nat) (h:jK false a=false):uns false (a++b)=uns false a++uns false b:=by
 have:=congrArg (Aw (·.2)) (jD a b 0 false h);rw[di,dE,dE,dE] at this;exact this
theorem lR:∀(a b:List Nat) (p:Bool),jK p (a++b)=jK (jK p a) b
 | [],b,p=>by cases p <;> rfl
 | c::a,b,true=>by dsimp only[bf,nK,nL,nM];exact lR a b false
 | c::a,b,false=>by dsimp only[bf,nK,nL,nM];exact lR a b _
def Pl (l:List Nat):Prop:=jK false l=false/\∀u∈uns false l,u≠[34]
theorem Pl.app (ha:Pl a) (hb:Pl b):Pl (a++b):=by
 refine⟨by exact O (lR ..) (O ha.1 (O hb.1 rfl)),?_⟩;refine O (d8 a b ha.1) ?_;intro u hu;rcases cb.mp hu with h | h
 ·exact ha.2 u h
 ·exact hb.2 u h
theorem Pl.nil:Pl []:=⟨rfl,by trivial⟩
theorem xN (AT:List Nat) (s:SQ) (a b:List (Nat × List Nat)):sq AT s (a++b)=sq AT (sq AT s a) b:=List.foldl_append
theorem jY (AT:List Nat):∀(l:List (Nat × List Nat)) (s:SQ),(∀u∈l.map (·.2),u≠[34])->sq AT s l=s
 | [],s,_=>rfl
 | x::l,s,h=>by
  have hx:x.2≠[34]:=h x.2 (aj);show sq AT (bH AT s x) l=s;have:bH AT s x=s:=by unfold bH;exact O (if_neg hx) rfl
  refine O this ?_;exact jY AT l s λu hu=>h u (by simp at hu ⊢;exact .inr hu)
noncomputable def quo (b:List Nat):List Nat:=34::(b++[34])
theorem Q6 (b:List Nat):(quo b).length=b.length+2:=by simp[quo]
theorem MR (h:jK false b=false):jK false (quo b)=false:=by
 unfold quo;show jK false ((34:Nat)::(b++[34]))=false;show jK ((34:Nat)==92) (b++[34])=false;refine O (show((34:Nat)==92)=false from rfl) (O (lR ..) (O h ?_));rfl
theorem Q7 (h:jK false b=false) (k:Nat):esc k false (quo b)=(k,[34])::(esc (k+1) false b++[(k+1+b.length,[34])]):=by
 unfold quo
 dsimp only[eC,eE,eF,eG]
 refine O (if_neg (by decide)) (O (jD b [34] (k+1) false h) ?_);rfl
theorem UJ (AT:List Nat) (hb:Pl b) (k start:Nat) (acc:List (List Nat)) :
  sq AT ⟨start,none,acc⟩ (esc k false (quo b))=⟨k+(quo b).length,none,if start=k then acc else acc++[(AT.take k).drop start]⟩:=by
 rw[Q7 hb.1];show sq AT (bH AT ⟨start,none,acc⟩ (k,[34])) _=_;have h1:bH AT ⟨start,none,acc⟩ (k,[34])=⟨start,some k,acc⟩:=by unfold bH;rfl
 refine O h1 (O (xN ..) (O (jY AT (esc (k+1) false b) _ (by rw[dE];exact hb.2)) ?_));show bH AT ⟨start,some k,acc⟩ (k+1+b.length,[34])=_;unfold bH;simp only[if_true,Q6];congr 1;exact fn2 (.z1 (.A .jg .n1) (.A .q .j0)) []
def jZ (Ir:List (List Nat × List Nat)) (last:List Nat):List Nat:=(Ir.map λx=>x.1++quo x.2).flatten++last
def LastOk (l:List Nat):Prop:=(∀u∈uns false l,u≠[34])\/∃p q,l=p++34::q/\Pl p/\∀u∈uns false q,u≠[34]
theorem Q8 (AT:List Nat) (h:LastOk l) (k start:Nat) (acc:List (List Nat)):(sq AT ⟨start,none,acc⟩ (esc k false l)).start=start/\(sq AT ⟨start,none,acc⟩ (esc k false l)).acc=acc:=by
 rcases h with h | ⟨p,q,rfl,hp,hq⟩
 ·refine O (jY AT _ _ (by rw[dE];exact h)) ?_;exact⟨rfl,rfl⟩
 ·refine O (jD _ _ _ _ hp.1) (O (xN ..) (O (jY AT (esc k false p) _ (by rw[dE];exact hp.2)) ?_))
  dsimp only[eC,eE,eF,eG]
  refine O (if_neg (by decide)) ?_;show(sq AT (bH AT ⟨start,none,acc⟩ (k+p.length,[34])) _).start=_/\(sq AT (bH AT ⟨start,none,acc⟩ (k+p.length,[34])) _).acc=_;refine O (jY AT (esc (k+p.length+1) false q) _ (by rw[dE];exact hq)) ?_;unfold bH;trivial
theorem EX (AT:List Nat):∀(Ir:List (List Nat × List Nat)) (last pre:List Nat) (acc:List (List Nat)),AT=pre++jZ Ir last->(∀x∈Ir,Pl x.1/\Pl x.2)->LastOk last ->
  ((sq AT ⟨pre.length,none,acc⟩ (esc pre.length false (jZ Ir last))).acc++(if (sq AT ⟨pre.length,none,acc⟩ (esc pre.length false (jZ Ir last))).start<AT.length then[AT.drop (sq AT ⟨pre.length,none,acc⟩ (esc pre.length false (jZ Ir last))).start] else[])).flatten=acc.flatten++(Ir.map (·.1)).flatten++last
 | [],last,pre,acc,hf,_,hl=>by
  have e:jZ [] last=last:=by rfl
  rw[e] at hf ⊢;refine xa (Q8 AT hl pre.length pre.length acc) λh1 h2=>?_;refine O h1 (O h2 (O hf ?_))
  by_cases h0:last=[]
  ·subst h0;simp
  ·have:pre.length<(pre++last).length:=by
    have:=lw.mpr h0;simp;exact this
   refine O (if_pos this) ?_;simp
 | (s,b)::Ir,last,pre,acc,hf,hs,hl=>by
  refine xa (hs (s,b) (aj)) λp1 p2=>?_;have e:jZ ((s,b)::Ir) last=s++(quo b++jZ Ir last):=by simp[jZ]
  rw[e] at hf ⊢;have hk:esc pre.length false (s++(quo b++jZ Ir last))=esc pre.length false s++(esc (pre.length+s.length) false (quo b)++esc (pre++s++quo b).length false (jZ Ir last)):=by
   refine O (jD _ _ _ _ p1.1) (O (jD _ _ _ _ (MR p2.1)) ?_);congr 3;simp;exact fn3 (.z1 (.A .ko .s) (.A .q .k5)) []
  (refine O hk (O (xN ..) (O (jY AT (esc pre.length false s) _ (by rw[dE];exact p1.2)) (O (xN ..) ?_)));rw[UJ AT p2])
  have hlen:pre.length+s.length+(quo b).length=(pre++s++quo b).length:=by simp;exact fn3 (.z1 (.A .ko .s) (.A .q .k5)) []
  refine O hlen ?_;refine O (EX AT Ir last (pre++s++quo b) _ (by rw[hf];simp) (λx hx=>hs x (by simp[hx])) hl) ?_
  by_cases h0:pre.length=pre.length+s.length
  ·have:s=[]:=List.eq_nil_of_length_eq_zero (fn2 (.z1 .q .n0) [.z1 (.A .r .q) .r] h0.symm);subst this;simp
  ·refine O (if_neg h0) ?_;have:(AT.take (pre.length+s.length)).drop pre.length=s:=by
    refine O hf (O (show pre++(s++(quo b++jZ Ir last))=(pre++s)++(quo b++jZ Ir last) by simp) (O (show pre.length+s.length=(pre++s).length by simp) (O tt ?_)));simp
   refine O this ?_;simp
theorem uY (Ir:List (List Nat × List Nat)) (last:List Nat) (hs:∀x∈Ir,Pl x.1/\Pl x.2) (hl:LastOk last):lQ (jZ Ir last)=(Ir.map (·.1)).flatten++last:=by
 unfold lQ
 by_cases h:34∈jZ Ir last
 ·refine O (if_pos h) ?_;have:=EX (jZ Ir last) Ir last [] [] (by simp) hs hl
  simpa using this
 ·refine O (if_neg h) ?_;cases Ir with
  | nil=>rfl
  | cons x Ir=>exfalso;apply h;simp[jZ,quo]
noncomputable def par:Nat->List (List Nat)->Option Nat
 | o,[]=>some o
 | o,u::us=>if u=[40] then par (o+1) us else if u=[41] then(if o=0 then none else par (o-1) us) else par o us
theorem SL:par o []=some o:=rfl
theorem tR:par o (u::us)=if u=[40] then par (o+1) us else if u=[41] then(if o=0 then none else par (o-1) us) else par o us:=rfl
theorem gA:∀(a b:List (List Nat)) (o:Nat),par o (a++b)=(par o a).bind λo'=>par o' b
 | [],b,o=>rfl
 | u::a,b,o=>by
  dsimp only[bf,tR]
  split
  ·exact gA a b _
  ·split
   ·split
    ·rfl
    ·exact gA a b _
   ·exact gA a b _
section
variable{F:Fn}
theorem oK (x:PV):∀(l:List (Nat × List Nat)) (o:Nat) (p q:Option PV),
  (∃p' q' o',par o (l.map (·.2))=some o'/\dD (aE F (.cons (.ite (.cmp .Eq Qt (.cst (.str ("(":Str)))) Q0J (.cons (.ite (.cmp .Eq Qt (.cst (.str (")":Str)))) Q09 .nil) .nil)) .nil)) [2,3] (l.map itm) [some x,some (.int (o:Int)),p,q] =
   some ([some x,some (.int (o':Int)),p',q'],.next)) \/
  (par o (l.map (·.2))=none/\∃pe,dD (aE F (.cons (.ite (.cmp .Eq Qt (.cst (.str ("(":Str)))) Q0J (.cons (.ite (.cmp .Eq Qt (.cst (.str (")":Str)))) Q09 .nil) .nil)) .nil)) [2,3] (l.map itm) [some x,some (.int (o:Int)),p,q] =
   some (pe,.ret (.bool false)))
 | [],o,p,q=>.inl (gG p q o rfl rfl)
 | (k,u)::l,o,p,q=>by
  rw[show("(":Str)=sx [40] from rfl,show(")":Str)=sx [41] from rfl];simp only[ak,tR];have Jc:aA F (.cmp .Eq Qt (.cst (.str (sx [40])))) [some x,some (.int (o:Int)),some (.int (k:Int)),some (.str (sx u))]=some (.bool (u==[40])):=by simp only[aF,EVL,jB]
  have Jx:aA F (.cmp .Eq Qt (.cst (.str (sx [41])))) [some x,some (.int (o:Int)),some (.int (k:Int)),some (.str (sx u))]=some (.bool (u==[41])):=by simp only[aF,EVL,jB]
  by_cases Pi:u=[40]
  ·refine O (if_pos Pi) ?_;have b40:(u==[40])=true:=by simp[Pi]
   rw[b40] at Jc;rcases oK x l (o+1) (some (.int (k:Int))) (some (.str (sx u))) with ⟨p',q',o',h1,h2⟩ | ⟨h1,pe,h2⟩
   ·exact .inl (gG p' q' o' h1 (cB rfl (aG (dT Jc (aG (aug rfl rfl rfl)))) h2))
   ·exact .inr (iae h1 pe (cB rfl (aG (dT Jc (aG (aug rfl rfl rfl)))) h2))
  ·refine O (if_neg Pi) ?_;have b40:(u==[40])=false:=by simpa using Pi
   rw[b40] at Jc
   by_cases RW:u=[41]
   ·refine O (if_pos RW) ?_;have b41:(u==[41])=true:=by simp[RW]
    rw[b41] at Jx
    by_cases ho:o=0
    ·refine O (if_pos ho) ?_;subst ho;refine .inr ⟨rfl,?_⟩;refine⟨_,Q3 rfl (fP (cA Jc (fP (dT Jx (seq (aug rfl rfl rfl) (fP (dT ?_ (dY rfl)) (by simp)))) (by simp))) (by simp))⟩;rfl
    ·refine O (if_neg ho) ?_;have step:aE F (.cons (.ite (.cmp .Eq Qt (.cst (.str (sx [40])))) Q0J (.cons (.ite (.cmp .Eq Qt (.cst (.str (sx [41])))) Q09 .nil) .nil)) .nil)
       [some x,some (.int (o:Int)),some (.int (k:Int)),some (.str (sx u))]=some ([some x,some (.int ((o-1:Nat):Int)),some (.int (k:Int)),some (.str (sx u))],.next):=by
      refine aG (cA Jc (aG (dT Jx (seq (aug rfl rfl rfl) (aG ?_)))))
      dsimp only[aY,aZ]
      refine O (show((o:Int)-1)=((o-1:Nat):Int) by lia) (cA ?_ bG);simp only[aF,EVL];rfl
     rcases oK x l (o-1) (some (.int (k:Int))) (some (.str (sx u))) with ⟨p',q',o',h1,h2⟩ | ⟨h1,pe,h2⟩
     ·exact .inl (gG p' q' o' h1 (cB rfl step h2))
     ·exact .inr (iae h1 pe (cB rfl step h2))
   ·refine O (if_neg RW) ?_;have b41:(u==[41])=false:=by simpa using RW
    rw[b41] at Jx;rcases oK x l o (some (.int (k:Int))) (some (.str (sx u))) with ⟨p',q',o',h1,h2⟩ | ⟨h1,pe,h2⟩
    ·exact .inl (gG p' q' o' h1 (cB rfl (aG (cA Jc (aG (cA Jx bG)))) h2))
    ·exact .inr (iae h1 pe (cB rfl (aG (cA Jc (aG (cA Jx bG)))) h2))
def tS (l:List Nat):Bool:=par 0 (uns false l)==some 0
theorem G5 (hF:F k [.str (sx l)]=some (.str (sx r))) (hr:r.length<=9000) (ha:r.all (·<128)=true):dJ F (Co.aW k) [.str (sx l)]=some (.bool (tS r)):=by
 apply iL rfl;show fV (aE F (Co.aW k).code [some (.str (sx l)),none,none,none])=_;unfold Co.aW;refine aR (asg (by simp only[aF,EVL,hF];try rfl)) ?_;refine aR (asg (by rfl)) ?_
 dsimp only[aY,aZ]
 unfold tS;refine XO (dE r 0 false) ?_;rcases oK (F:=F) (.str (sx r)) (esc 0 false r) 0 none none with ⟨p',q',o',h1,h2⟩ | ⟨h1,pe,h2⟩
 ·refine aR (EO (by rfl) (jC (aa hr (by decide)) ha) h2) ?_;refine dU ?_;simp only[aF,EVL];refine O h1 ?_;congr 2;refine O (propext qd) ?_;simp
 ·refine SK ?_;rw[show((0:Nat):Int)=0 from rfl] at h2;refine O (EO (e:=.var 0) (p:=.str (sx r)) rfl (jC (aa hr (by decide)) ha) h2) (O h1 ?_);rfl
end
abbrev Pc:=List Nat × Bool
def aJ:List Pc->List Nat
 | []=>[]
 | (s,false)::l=>s++aJ l
 | (b,true)::l=>quo b++aJ l
theorem bS:aJ []=[]:=rfl
theorem bT:aJ ((s,false)::l)=s++aJ l:=rfl
theorem bU:aJ ((b,true)::l)=quo b++aJ l:=rfl
noncomputable def aX:List Pc->List Nat
 | []=>[]
 | (s,false)::l=>s++aX l
 | (_,true)::l=>aX l
theorem cL:aX []=[]:=rfl
theorem cM:aX ((s,false)::l)=s++aX l:=rfl
theorem cN:aX ((b,true)::l)=aX l:=rfl
theorem b7:∀a b:List Pc,aJ (a++b)=aJ a++aJ b
 | [],b=>rfl
 | (s,false)::a,b=>by simp[bS,bT,bU,b7 a b]
 | (s,true)::a,b=>by simp[bS,bT,bU,b7 a b]
theorem fF:∀a b:List Pc,aX (a++b)=aX a++aX b
 | [],b=>rfl
 | (s,false)::a,b=>by simp[cL,cM,cN,fF a b]
 | (s,true)::a,b=>by exact fF a b
def PcsOk (l:List Pc):Prop:=∀p∈l,Pl p.1
theorem eV:∀{l:List Pc},PcsOk l->Pl (aX l)
 | [],_=>Pl.nil
 | (s,false)::l,h=>Pl.app (h (s,false) (aj)) (eV λp hp=>h p (by simp[hp]))
 | (s,true)::l,h=>by
  exact eV (l:=l) λp hp=>h p (by simp[hp])
noncomputable def eI:List Pc->List (List Nat × List Nat) × List Nat
 | []=>([],[])
 | (s,false)::l=>match eI l with
  | ([],t)=>([],s++t)
  | ((s',b)::r,t)=>((s++s',b)::r,t)
 | (b,true)::l=>(([],b)::(eI l).1,(eI l).2)
theorem oL:eI []=([],[]):=rfl
theorem oM:eI ((s,false)::l)=match eI l with
  | ([],t)=>([],s++t)
  | ((s',b)::r,t)=>((s++s',b)::r,t):=rfl
theorem oN:eI ((b,true)::l)=(([],b)::(eI l).1,(eI l).2):=rfl
theorem lS:∀(l:List Pc) (last:List Nat),PcsOk l->aJ l++last=jZ (eI l).1 ((eI l).2++last)/\aX l=((eI l).1.map (·.1)).flatten++(eI l).2/\(∀x∈(eI l).1,Pl x.1/\Pl x.2)/\Pl (eI l).2
 | [],last,_=>(cS (by rfl) (by simp[cL,cM,cN,oL,oM,oN]) (by simp[oL,oM,oN]) Pl.nil)
 | (s,false)::l,last,h=>by
  refine aP (lS l last λp hp=>h p (by simp[hp])) λh1 h2 h3 h4=>?_;have hs:Pl s:=h (s,false) (aj)
  dsimp only[bS,bT,bU,cL,cM,cN,oL,oM,oN]
  refine O (cg ..) (O h1 (O h2 ?_));rcases he:eI l with ⟨sg,t⟩;rw[he] at h3 h4;cases sg with
  | nil=>dsimp only[jZ] at *;exact(cS (by simp) (by rfl) (by trivial) (hs.app h4))
  | cons x r =>
   obtain⟨s',b⟩:=x
   dsimp only[jZ] at *
   refine(cS (by simp) (by simp) ?_ h4);intro y hy;rcases ax.mp hy with rfl | hy
   ·have:=h3 (s',b) (aj);exact⟨hs.app this.1,this.2⟩
   ·exact h3 y (by simp[hy])
 | (b,true)::l,last,h=>by
  refine aP (lS l last λp hp=>h p (by simp[hp])) λh1 h2 h3 h4=>?_;have hb:Pl b:=h (b,true) (aj)
  dsimp only[bS,bT,bU,cL,cM,cN,oL,oM,oN]
  refine O (cg ..) (O h1 (O h2 (cS (by simp[jZ]) (by rfl) ?_ h4)));intro y hy;rcases ax.mp hy with rfl | hy
  ·exact⟨Pl.nil,hb⟩
  ·exact h3 y hy
theorem LastOk.pre (ha:Pl a) (h:LastOk l):LastOk (a++l):=by
 rcases h with h | ⟨p,q,rfl,hp,hq⟩
 ·left;refine O (d8 a l ha.1) ?_;intro u hu;rcases cb.mp hu with hu | hu
  ·exact ha.2 u hu
  ·exact h u hu
 ·exact .inr (bE (a++p) q (by simp) (ha.app hp) hq)
theorem v8 (h:PcsOk l) (hl:LastOk last):lQ (aJ l++last)=aX l++last:=by
 refine aP (lS l last h) λh1 h2 h3 h4=>?_;refine O h1 (O (uY _ _ h3 (hl.pre h4)) (O h2 ?_));simp
theorem oO:∀(l:List Nat) (b:Bool),(uns b l).flatten=(if b then[92] else[])++l
 | [],true=>rfl
 | [],false=>rfl
 | c::l,true=>by simp[mR,mS,mT,mU,oO l false]
 | c::l,false=>by
  dsimp only[mR,mS,mT,mU]
  split
  ·rename_i h;refine O (oO l true) (O h ?_);rfl
  ·simp[oO l false]
def PosOk:Nat->List (Nat × List Nat)->Prop
 | _,[]=>True
 | k,(p,u)::r=>p+1=k+u.length/\PosOk (k+u.length) r
theorem PosOk_n:PosOk k []=True:=rfl
theorem PosOk_c:PosOk k ((p,u)::r)=(p+1=k+u.length/\PosOk (k+u.length) r):=rfl
theorem EY:∀(l:List Nat) (k:Nat) (b:Bool),(b=true->0<k)->PosOk (if b then k-1 else k) (esc k b l)
 | [],k,true,h=>by have:=h rfl;trivial
 | [],k,false,_=>trivial
 | c::l,k,true,h=>by
  have:=h rfl
  dsimp only[eC,eE,eF,eG,PosOk_n,PosOk_c,if_true]
  refine⟨by simp;exact az (ce (ae (fan [_] (.x .n1 .q) [.y .n0 .q] this)).symm) (ce (ae (fan [_] (.x .n1 .q) [.y .n0 .q] this))),?_⟩;have:=EY l (k+1) false (by simp);simp only[aw,if_false] at this;exact O (show k-1+[92,c].length=k+1 by simp;lia) this
 | c::l,k,false,_=>by
  dsimp only[eC,eE,eF,eG,aw,if_false]
  by_cases hc:c=92
  ·refine O (if_pos hc) ?_;have:=EY l (k+1) true (by simp)
   simpa using this
  ·refine O (if_neg hc) ?_;have:=EY l (k+1) false (by simp);simp only[aw,if_false] at this;exact⟨by rfl,by simpa using this⟩
theorem Q9 (hX:c∉X) (hY:c∉Y) (hl:(X++c::Y).length<=100000):meF .index (.str (sx (X++c::Y))) [.str (sx [c])]=some (.int (X.length:Int)):=by
 show(match dc (sx (X++c::Y)) ⟨#[c]⟩ 0 (sx (X++c::Y)).length 1 with | i::_=>some (PV.int (i:Int)) | []=>none)=_;have Io:(!(dc (sx (X++c::Y)) ⟨#[c]⟩ 0 (sx (X++c::Y)).length 1).isEmpty)=true:=by
  refine O (ul ..) (O (lM ..) ?_);simp
 have ZY:=StrLaws.occ_spec (sx (X++c::Y)) ⟨#[c]⟩ 0 (sx (X++c::Y)).length 1;generalize dc (sx (X++c::Y)) ⟨#[c]⟩ 0 (sx (X++c::Y)).length 1=o at *;cases o with
 | nil=>simp at Io
 | cons i r =>
  have h1:=ZY i (aj);have h2:=(StrLaws.subAt_one _ c i).mp h1;rw[lM] at h2;have:i=X.length:=by
   rcases Nat.lt_trichotomy i X.length with h | h | h
   ·rw[List.getElem?_append_left h] at h2;exact absurd (ic h2) hX
   ·exact h
   ·rw[List.getElem?_append_right (da h)] at h2;have e:i-X.length=(i-X.length-1)+1:=by exact az (ce (ae (fan [_,_,_] (.x .n1 .q) [.y .r .s,.z1 .s .ko] h (ae (fan [_,_] (.x .q .r) [.y .q .r] h)).symm)).symm) (ce (ae (fan [_,_,_] (.x .n1 .q) [.y .r .s,.z1 .s .ko] h (ae (fan [_,_] (.x .q .r) [.y .q .r] h)).symm)))
    rw[e,vo] at h2;exact absurd (ic h2) hY
  exact O this rfl
section
def j3 (r g b M D:UInt64):UInt64 :=
 if eqB r M then ab (div (ab M b) D) (div (ab M g) D)
 else if eqB g M then ab (add 0x4000000000000000 (div (ab M r) D)) (div (ab M b) D)
 else ab (add 0x4010000000000000 (div (ab M g) D)) (div (ab M r) D)
theorem z6:bx 0x4018000000000000=false:=by decide +kernel
theorem z1:bx 0x3ff0000000000000=false:=by decide +kernel
theorem z2:bx 0x4000000000000000=false:=by decide +kernel
theorem xO:one=0x3ff0000000000000:=by decide +kernel
variable{F:Fn}{r g b:UInt64}
theorem UK (h:eqB (mn3 r g b) (mx3 r g b)=true) :
  dJ F Co.bC [.flt r,.flt g,.flt b]=some (.tup [.flt 0,.flt 0,.flt (mx3 r g b)]):=by
 apply i9 rfl;show aE F Co.bC.code [some (.flt r),some (.flt g),some (.flt b),none,none,none,none,none,none,none,none,none]=_;unfold Co.bC;refine seq (asg (by simp only[aF,EVL];try rfl)) ?_;refine seq (asg (by simp only[aF,EVL];try rfl)) ?_;refine seq (asg (by simp only[aF,EVL];try rfl)) ?_;refine seq (asg (by simp only[aF,EVL];try rfl)) ?_;refine fP (dT (by simp only[aF,EVL,h]) (dY (by simp only[aF,EVL];try rfl))) (by simp)
theorem UL (h:eqB (mn3 r g b) (mx3 r g b)=false) (hM:bx (mx3 r g b)=false) (hD:bx (ab (mx3 r g b) (mn3 r g b))=false) :
  dJ F Co.bC [.flt r,.flt g,.flt b]=some (.tup [.flt (bz (div (j3 r g b (mx3 r g b) (ab (mx3 r g b) (mn3 r g b))) 0x4018000000000000) one).2,
   .flt (div (ab (mx3 r g b) (mn3 r g b)) (mx3 r g b)),.flt (mx3 r g b)]):=by
 rw[xO];apply i9 rfl;show aE F Co.bC.code [some (.flt r),some (.flt g),some (.flt b),none,none,none,none,none,none,none,none,none]=_;unfold Co.bC;refine seq (asg (by simp only[aF,EVL];try rfl)) ?_;refine seq (asg (by simp only[aF,EVL];try rfl)) ?_;refine seq (asg (by simp only[aF,EVL];try rfl)) ?_;refine seq (asg (by simp only[aF,EVL];try rfl)) ?_;refine seq (cA (by simp only[aF,EVL,h]) bG) ?_;refine seq (asg (by simp only[aF,EVL,cZ _ _ hM];try rfl)) ?_;refine seq (asg (by simp only[aF,EVL,cZ _ _ hD];try rfl)) ?_;refine seq (asg (by simp only[aF,EVL,cZ _ _ hD];try rfl)) ?_;refine seq (asg (by simp only[aF,EVL,cZ _ _ hD];try rfl)) ?_
 dsimp only[aY,aZ]
 have key:∀N M D hh:UInt64,j3 r g b M D=hh->cP F Q02
   [some (.flt r),some (.flt g),some (.flt b),some (.flt M),some (.flt N),some (.flt D),some (.flt M),some (.flt (div D M)),some (.flt (div (ab M r) D)),some (.flt (div (ab M g) D)),some (.flt (div (ab M b) D)),none] =
   some ([some (.flt r),some (.flt g),some (.flt b),some (.flt M),some (.flt N),some (.flt D),some (.flt M),some (.flt (div D M)),some (.flt (div (ab M r) D)),some (.flt (div (ab M g) D)),some (.flt (div (ab M b) D)),some (.flt hh)],.next):=by
  intro N M D hh e;refine v3 (c:=eqB r M) (by rfl) (λc=>?_) (λc=>?_)
  ·refine aG ?_;have:hh=ab (div (ab M b) D) (div (ab M g) D):=by rw[<- e];unfold j3;rw[if_pos c]
   subst this;exact asg (by rfl)
  ·refine aG (v3 (c:=eqB g M) (by rfl) (λc'=>?_) (λc'=>?_))
   ·refine aG ?_;have:hh=ab (add 0x4000000000000000 (div (ab M r) D)) (div (ab M b) D):=by rw[<- e];unfold j3;rw[if_neg (by simp[c]),if_pos c']
    subst this;exact asg (by rfl)
   ·refine aG ?_;have:hh=ab (add 0x4010000000000000 (div (ab M g) D)) (div (ab M r) D):=by rw[<- e];unfold j3;rw[if_neg (by simp[c]),if_neg (by simp[c'])]
    subst this;exact asg (by rfl)
 refine seq (key _ _ _ _ rfl) ?_;refine seq (asg (by simp only[aF,EVL,cZ _ _ z6,tJ _ _ z1];try rfl)) ?_;exact dY (by rfl)
end
section
variable{F:Fn}{r g b h s v l:UInt64}
def leB (a b:UInt64):Bool:=ltB a b||eqB a b
theorem UM (h:eqB (mn3 r g b) (mx3 r g b)=true) :
  dJ F Co.bB [.flt r,.flt g,.flt b]=some (.tup [.flt 0,.flt (div (add (mx3 r g b) (mn3 r g b)) 0x4000000000000000),.flt 0]):=by
 apply i9 rfl;show aE F Co.bB.code [some (.flt r),some (.flt g),some (.flt b),none,none,none,none,none,none,none,none,none,none]=_;unfold Co.bB;refine seq (asg (by simp only[aF,EVL];try rfl)) ?_;refine seq (asg (by simp only[aF,EVL];try rfl)) ?_;refine seq (asg (by simp only[aF,EVL];try rfl)) ?_;refine seq (asg (by simp only[aF,EVL];try rfl)) ?_;refine seq (asg (by simp only[aF,EVL,cZ _ _ z2];try rfl)) ?_;refine fP (dT (by simp only[aF,EVL,h]) (dY (by simp only[aF,EVL];try rfl))) (by simp)
def qO (M N D l:UInt64):UInt64:=if leB l 0x3fe0000000000000 then div D (add M N) else div D (ab (ab 0x4000000000000000 M) N)
theorem UN (h:eqB (mn3 r g b) (mx3 r g b)=false) (hD:bx (ab (mx3 r g b) (mn3 r g b))=false)
  (Ti:leB (div (add (mx3 r g b) (mn3 r g b)) 0x4000000000000000) 0x3fe0000000000000=true->bx (add (mx3 r g b) (mn3 r g b))=false)
  (ZZ:leB (div (add (mx3 r g b) (mn3 r g b)) 0x4000000000000000) 0x3fe0000000000000=false->bx (ab (ab 0x4000000000000000 (mx3 r g b)) (mn3 r g b))=false) :
  dJ F Co.bB [.flt r,.flt g,.flt b]=some (.tup [.flt (bz (div (j3 r g b (mx3 r g b) (ab (mx3 r g b) (mn3 r g b))) 0x4018000000000000) one).2,
   .flt (div (add (mx3 r g b) (mn3 r g b)) 0x4000000000000000),.flt (qO (mx3 r g b) (mn3 r g b) (ab (mx3 r g b) (mn3 r g b)) (div (add (mx3 r g b) (mn3 r g b)) 0x4000000000000000))]):=by
 refine O xO ?_;apply i9 rfl;show aE F Co.bB.code [some (.flt r),some (.flt g),some (.flt b),none,none,none,none,none,none,none,none,none,none]=_;unfold Co.bB;refine seq (asg (by simp only[aF,EVL];try rfl)) ?_;refine seq (asg (by simp only[aF,EVL];try rfl)) ?_;refine seq (asg (by simp only[aF,EVL];try rfl)) ?_;refine seq (asg (by simp only[aF,EVL];try rfl)) ?_;refine seq (asg (by simp only[aF,EVL,cZ _ _ z2];try rfl)) ?_;refine seq (cA (by simp only[aF,EVL,h]) bG) ?_
 dsimp only[aY,aZ]
 have key0:∀N M S D l ss:UInt64,qO M N D l=ss->S=add M N->(leB l 0x3fe0000000000000=true->bx (add M N)=false)->(leB l 0x3fe0000000000000=false->bx (ab (ab 0x4000000000000000 M) N)=false) ->
   cP F Q0a
   [some (.flt r),some (.flt g),some (.flt b),some (.flt M),some (.flt N),some (.flt S),some (.flt D),some (.flt l),none,none,none,none,none] =
   some ([some (.flt r),some (.flt g),some (.flt b),some (.flt M),some (.flt N),some (.flt S),some (.flt D),some (.flt l),some (.flt ss),none,none,none,none],.next):=by
  intro N M S D l ss e1 e2 e3 e4;subst e2;refine v3 (c:=leB l 0x3fe0000000000000) (by simp only[aF,EVL];rfl) (λc=>?_) (λc=>?_)
  ·refine aG ?_;have:ss=div D (add M N):=by refine XO e1 ?_;unfold qO;exact O (if_pos c) rfl
   subst this;exact asg (by simp only[aF,EVL,cZ _ _ (e3 c)];try rfl)
  ·refine aG ?_;have:ss=div D (ab (ab 0x4000000000000000 M) N):=by refine XO e1 ?_;unfold qO;exact O (if_neg (by simp[c])) rfl
   subst this;exact asg (by simp only[aF,EVL,cZ _ _ (e4 c)];try rfl)
 refine seq (key0 _ _ _ _ _ _ rfl rfl Ti ZZ) ?_;refine seq (asg (by simp only[aF,EVL,cZ _ _ hD];try rfl)) ?_;refine seq (asg (by simp only[aF,EVL,cZ _ _ hD];try rfl)) ?_;refine seq (asg (by simp only[aF,EVL,cZ _ _ hD];try rfl)) ?_
 dsimp only[aY,aZ]
 have key:∀N M S D l ss hh:UInt64,j3 r g b M D=hh->cP F Q01
   [some (.flt r),some (.flt g),some (.flt b),some (.flt M),some (.flt N),some (.flt S),some (.flt D),some (.flt l),some (.flt ss),some (.flt (div (ab M r) D)),some (.flt (div (ab M g) D)),some (.flt (div (ab M b) D)),none] =
   some ([some (.flt r),some (.flt g),some (.flt b),some (.flt M),some (.flt N),some (.flt S),some (.flt D),some (.flt l),some (.flt ss),some (.flt (div (ab M r) D)),some (.flt (div (ab M g) D)),some (.flt (div (ab M b) D)),some (.flt hh)],.next):=by
  intro N M S D l ss hh e;refine v3 (c:=eqB r M) (by rfl) (λc=>?_) (λc=>?_)
  ·refine aG ?_;have:hh=ab (div (ab M b) D) (div (ab M g) D):=by refine XO e ?_;unfold j3;exact O (if_pos c) rfl
   subst this;exact asg (by rfl)
  ·refine aG (v3 (c:=eqB g M) (by rfl) (λc'=>?_) (λc'=>?_))
   ·refine aG ?_;have:hh=ab (add 0x4000000000000000 (div (ab M r) D)) (div (ab M b) D):=by refine XO e ?_;unfold j3;exact O (if_neg (by simp[c])) (O (if_pos c') rfl)
    subst this;exact asg (by rfl)
   ·refine aG ?_;have:hh=ab (add 0x4010000000000000 (div (ab M g) D)) (div (ab M r) D):=by refine XO e ?_;unfold j3;exact O (if_neg (by simp[c])) (O (if_neg (by simp[c'])) rfl)
    subst this;exact asg (by rfl)
 refine seq (key _ _ _ _ _ _ _ rfl) ?_;refine seq (asg (by simp only[aF,EVL,cZ _ _ z6,tJ _ _ z1];try rfl)) ?_;exact dY (by rfl)
theorem RA (h0:eqB s 0=true):dJ F Co.bA [.flt h,.flt s,.flt v]=some (.tup [.flt v,.flt v,.flt v]):=by
 apply i9 rfl;show aE F Co.bA.code [some (.flt h),some (.flt s),some (.flt v),none,none,none,none,none]=_;unfold Co.bA;refine fP (dT (by simp only[aF,EVL,h0]) (dY (by rfl))) (by simp)
noncomputable def W8 (k:Int) (v t p q:UInt64):List PV :=
 if k=0 then[.flt v,.flt t,.flt p] else if k=1 then[.flt q,.flt v,.flt p] else if k=2 then[.flt p,.flt v,.flt t]
 else if k=3 then[.flt p,.flt q,.flt v] else if k=4 then[.flt t,.flt p,.flt v] else[.flt v,.flt p,.flt q]
theorem RB (h0:eqB s 0=false) (hi:biF .int [.flt (mul h 0x4018000000000000)]=some (.int i)) (ho:okF i=true) :
  dJ F Co.bA [.flt h,.flt s,.flt v]=some (.tup (W8 (i%6) v
   (mul v (ab 0x3ff0000000000000 (mul s (ab 0x3ff0000000000000 (ab (mul h 0x4018000000000000) (cr i))))))
   (mul v (ab 0x3ff0000000000000 s))
   (mul v (ab 0x3ff0000000000000 (mul s (ab (mul h 0x4018000000000000) (cr i))))))):=by
 apply iL rfl;show fV (aE F Co.bA.code [some (.flt h),some (.flt s),some (.flt v),none,none,none,none,none])=_;unfold Co.bA;refine b8 (by simp only[aF,EVL,h0]) ?_;refine aR (asg (by simp only[aF,EVL,hi];try rfl)) ?_;refine aR (asg (by simp only[aF,EVL,MB _ _ ho];try rfl)) ?_;refine aR (asg (by rfl)) ?_;refine aR (asg (by rfl)) ?_;refine aR (asg (by rfl)) ?_;refine aR (asg (by rfl)) ?_
 dsimp only[aY,aZ]
 generalize hk:i%6=k;have Uj:k=0\/k=1\/k=2\/k=3\/k=4\/k=5:=by lia
 clear hk;rcases Uj with rfl | rfl | rfl | rfl | rfl | rfl
 ·exact jA (by rfl) (dU (by rfl))
 ·refine b8 (by rfl) ?_;exact jA (by rfl) (dU (by rfl))
 ·refine b8 (by rfl) ?_;refine b8 (by rfl) ?_;exact jA (by rfl) (dU (by rfl))
 ·refine b8 (by rfl) ?_;refine b8 (by rfl) ?_;refine b8 (by rfl) ?_;exact jA (by rfl) (dU (by rfl))
 ·refine b8 (by rfl) ?_;refine b8 (by rfl) ?_;refine b8 (by rfl) ?_;refine b8 (by rfl) ?_;exact jA (by rfl) (dU (by rfl))
 ·refine b8 (by rfl) ?_;refine b8 (by rfl) ?_;refine b8 (by rfl) ?_;refine b8 (by rfl) ?_;refine b8 (by rfl) ?_;exact jA (by rfl) (dU (by rfl))
def vF (m1 m2 u:UInt64):UInt64 :=
 if ltB u 0x3fc5555555555555 then add m1 (mul (mul (ab m2 m1) u) 0x4018000000000000)
 else if ltB u 0x3fe0000000000000 then m2
 else if ltB u 0x3fe5555555555555 then add m1 (mul (mul (ab m2 m1) (ab 0x3fe5555555555555 u)) 0x4018000000000000)
 else m1
theorem V7:dJ F Co.f_v [.flt m1,.flt m2,.flt u]=some (.flt (vF m1 m2 (bz u one).2)):=by
 refine O xO ?_;apply i9 rfl;show aE F Co.f_v.code [some (.flt m1),some (.flt m2),some (.flt u)]=_;unfold Co.f_v Co.lE Co.iV;refine seq (asg (by simp only[aF,EVL,tJ _ _ z1];try rfl)) ?_
 dsimp only[aY,aZ]
 unfold vF;cases c1:ltB (bz u 4607182418800017408).2 0x3fc5555555555555
 ·refine seq (cA (by simp only[aF,EVL,c1]) bG) ?_;cases c2:ltB (bz u 4607182418800017408).2 0x3fe0000000000000
  ·refine seq (cA (by simp only[aF,EVL,c2]) bG) ?_;cases c3:ltB (bz u 4607182418800017408).2 0x3fe5555555555555
   ·refine seq (cA (by simp only[aF,EVL,c3]) bG) ?_;exact dY (by rfl)
   ·exact fP (dT (by simp only[aF,EVL,c3]) (dY (by rfl))) (by simp)
  ·exact fP (dT (by simp only[aF,EVL,c2]) (dY (by rfl))) (by simp)
 ·exact fP (dT (by simp only[aF,EVL,c1]) (dY (by rfl))) (by simp)
theorem RC (h0:eqB s 0=true):dJ F (Co.a8 k) [.flt h,.flt l,.flt s]=some (.tup [.flt l,.flt l,.flt l]):=by
 apply i9 rfl;show aE F (Co.a8 k).code [some (.flt h),some (.flt l),some (.flt s),none,none]=_;unfold Co.a8;refine fP (dT (by simp only[aF,EVL,h0]) (dY (by rfl))) (by simp)
def k7 (l s:UInt64):UInt64:=if leB l 0x3fe0000000000000 then mul l (add 0x3ff0000000000000 s) else ab (add l s) (mul l s)
theorem RD (h0:eqB s 0=false) (hF:∀m1 m2 u:UInt64,F k [.flt m1,.flt m2,.flt u]=some (.flt (vF m1 m2 (bz u one).2))) :
  dJ F (Co.a8 k) [.flt h,.flt l,.flt s]=some (.tup [
   .flt (vF (ab (mul 0x4000000000000000 l) (k7 l s)) (k7 l s) (bz (add h 0x3fd5555555555555) one).2),
   .flt (vF (ab (mul 0x4000000000000000 l) (k7 l s)) (k7 l s) (bz h one).2),
   .flt (vF (ab (mul 0x4000000000000000 l) (k7 l s)) (k7 l s) (bz (ab h 0x3fd5555555555555) one).2)]):=by
 apply i9 rfl;show aE F (Co.a8 k).code [some (.flt h),some (.flt l),some (.flt s),none,none]=_;unfold Co.a8 Co.iU;refine seq (cA (by simp only[aF,EVL,h0]) bG) ?_;have key:∀m2:UInt64,k7 l s=m2->cP F Q0g
   [some (.flt h),some (.flt l),some (.flt s),none,none]=some ([some (.flt h),some (.flt l),some (.flt s),some (.flt m2),none],.next):=by
  intro m2 e;refine v3 (c:=leB l 0x3fe0000000000000) (by rfl) (λc=>?_) (λc=>?_)
  ·refine aG ?_;have:m2=mul l (add 0x3ff0000000000000 s):=by refine XO e ?_;unfold k7;exact O (if_pos c) rfl
   subst this;exact asg (by rfl)
  ·refine aG ?_;have:m2=ab (add l s) (mul l s):=by refine XO e ?_;unfold k7;exact O (if_neg (by simp[c])) rfl
   subst this;exact asg (by rfl)
 refine seq (key _ rfl) ?_;refine seq (asg (by rfl)) ?_;exact dY (by simp only[aF,EVL,hF];try rfl)
end
def Gr (S:Nat) (x:UInt64) (n:Int):Prop:=FinF x/\R x*(S:Rat)=(n:Rat)
structure Sc (S:Nat) where
 e:Nat
 le:e<=1000
 eq:S=2 ^ e
theorem Sc.pos{S:Nat}(h:Sc S):(1:Rat)<=(S:Rat):=by
 have:1<=S:=by exact O h.eq Nat.one_le_two_pow
 exact_mod_cast this
theorem Sc.dy{S:Nat}(h:Sc S){q:Rat}{n:Int}(hq:q*(S:Rat)=n) (hn:n.natAbs<=2 ^ 53):Dy q:=(bE n h.e (aa h.le (by decide)) hn (by exact XO h.eq hq))
theorem SM{n:Int}(h:n.natAbs<=2 ^ 53):-(2 ^ 53:Rat)<=(n:Rat)/\(n:Rat)<=2 ^ 53:=by
 have h1:-(2 ^ 53:Int)<=n:=zc (au (Ee n ▸ Eu) (nz.mpr h));have h2:n<=(2 ^ 53:Int):=by exact fam [_] [_] (.l .a .ki) [.x .q .ki,.l .a .q] h Eu
 have Pq:=al.mpr h1;have Ml:=al.mpr h2;rw[wl,od] at Pq;rw[od] at Ml;exact⟨Pq,Ml⟩
theorem gK{q s b:Rat}(hs:1<=s) (hb:0<=b) (h:q*s<=b):q<=b:=by
 rcases(gf:q<=0\/0<=q) with hq | hq
 ·exact Rat.le_trans hq hb
 ·have:=Rat.mul_le_mul_of_nonneg_left hs hq;exact fr3 (.l .a .b) [.l .kW .b,.l (.M .a .n1) .kW] h this
section
variable{S:Nat}{x y:UInt64}{n m:Int}
theorem gQ (hS:Sc S) (hx:Gr S x n) (hy:Gr S y m) (h:(n-m).natAbs<=2 ^ 53):Gr S (ab x y) (n-m):=by
 refine xa hx λf1 e1=>?_;clear hx;refine xa hy λf2 e2=>?_;clear hy;have hp:=hS.pos;have hb:=SM h;have he:(R x-R y)*(S:Rat)=((n-m:Int):Rat):=by push_cast;exact fr5 (.e .jy (.S .d .e)) [.e .kW .d,.e .e .kq] e1 e2.symm
 refine aP (gV f1 f2 (M:=2 ^ 53) ⟨53,by decide,rfl⟩
  (by
   have:-(R x-R y)<=2 ^ 53:=gK hp (fr0 (.l .n0 .ki) []) (fr4 (.l (.M (.G .ka) .c) .ki) [.l (.G .ki) .d,.e .d .jy] hb.1 he.symm);push_cast;exact fr2 (.l (.G .ja) .ka) [.l (.G .ka) .ki] this)
  (by
   have:(R x-R y)<=2 ^ 53:=gK hp (fr0 (.l .n0 .ki) []) (fr4 (.l .jy .ki) [.l .d .ki,.e .jy .d] hb.2 he);push_cast;exact fr2 (.l .ka .ja) [.l .ka .ki] this)) λa aT Ik b=>?_;clear aT;exact⟨a,by exact O (b (hS.dy he h)) he⟩
theorem MS (hS:Sc S) (hx:Gr S x n) (hy:Gr S y m) (h:(n+m).natAbs<=2 ^ 53):Gr S (add x y) (n+m):=by
 refine xa hx λf1 e1=>?_;clear hx;refine xa hy λf2 e2=>?_;clear hy;have hp:=hS.pos;have hb:=SM h;have he:(R x+R y)*(S:Rat)=((n+m:Int):Rat):=by push_cast;exact fr5 (.e (.M .kb .c) (.A .d .e)) [.e .kW .d,.e .kq .e] e1 e2
 refine aP (jV f1 f2 (M:=2 ^ 53) ⟨53,by decide,rfl⟩
  (by
   have:-(R x+R y)<=2 ^ 53:=gK hp (fr0 (.l .n0 .ki) []) (fr4 (.l (.M (.G .kb) .c) .ki) [.l (.G .ki) .d,.e .d (.M .kb .c)] hb.1 he.symm);push_cast;exact fr2 (.l (.G .ja) .kb) [.l (.G .kb) .ki] this)
  (by
   have:(R x+R y)<=2 ^ 53:=gK hp (fr0 (.l .n0 .ki) []) (fr4 (.l (.M .kb .c) .ki) [.l .d .ki,.e (.M .kb .c) .d] hb.2 he);push_cast;exact fr2 (.l .kb .ja) [.l .kb .ki] this)) λa aT Ik b=>?_;clear aT;exact⟨a,by exact O (b (hS.dy he h)) he⟩
theorem v9 (hS:Sc S) (hx:Gr S x n) (hy:Gr S y m):R x<R y<->n<m:=by
 refine xa hx λf1 e1=>?_;clear hx;refine xa hy λf2 e2=>?_;clear hy;have hp:(0:Rat)<(S:Rat):=by have:=hS.pos;exact Yo this
 constructor
 ·intro h;have:=ie h hp;rw[e1,e2] at this
  exact_mod_cast this
 ·intro h;have:(n:Rat)<(m:Rat):=by exact_mod_cast h
  rw[<- e1,<- e2] at this;exact ec this (ar hp)
theorem MT (hS:Sc S) (hx:Gr S x n) (hy:Gr S y m):R x=R y<->n=m:=by
 have h1:=v9 hS hx hy;have h2:=v9 hS hy hx;constructor
 ·intro h;have a:¬n<m:=λq=>by have:=h1.mpr q;grind
  have b:¬m<n:=λq=>by have:=h2.mpr q;grind
  exact ca ((dr.mp b)) ((dr.mp a))
 ·intro h;have a:¬R x<R y:=λq=>by have:=h1.mp q;exact absurd (fz2 (.t .n0 .n0) [.e .a .b,.t .b .a] h.symm this) (gn _)
  have b:¬R y<R x:=λq=>by have:=h2.mp q;exact absurd (fz2 (.t .n0 .n0) [.e .a .b,.t .b .a] h this) (gn _)
  exact lu ((mf.mp b)) ((mf.mp a))
theorem kR (hS:Sc S) (hx:Gr S x n) (hy:Gr S y m):eqB x y=decide (n=m):=by
 have h:=MT hS hx hy;have h1:=v9 hS hx hy
 delta eqB
 refine O (lK hx.1 hy.1) ?_
 by_cases hc:n=m
 ·refine O (if_neg (by rw[h1];exact dr.mpr (ck hc.symm))) (O (if_pos (h.mpr hc)) ?_);simp[hc]
 ·have:¬R x=R y:=λq=>hc (h.mp q);simp only[hc,decide_false];split
  ·rfl
  ·first | rw[if_neg this];rfl | rfl
theorem CS (hS:Sc S) (hx:Gr S x n) (hy:Gr S y m):gtB x y=decide (n>m):=by
 have h:=MT hS hx hy;have h1:=v9 hS hx hy
 delta gtB
 refine O (lK hx.1 hy.1) ?_
 by_cases hc:n<m
 ·refine O (if_pos (h1.mpr hc)) ?_;have:¬n>m:=by exact dr.mpr (dd hc)
  simp[this]
 ·refine O (if_neg (λq=>hc (h1.mp q))) ?_
  by_cases hd:n=m
  ·refine O (if_pos (h.mpr hd)) ?_;have:¬n>m:=by exact dr.mpr (ck hd)
   simp[this]
  ·refine O (if_neg (λq=>hd (h.mp q))) ?_;have:n>m:=by lia
   simp[this]
theorem CT (hS:Sc S) (hx:Gr S x n) (hy:Gr S y m):ltB x y=decide (n<m):=by
 have h:=MT hS hx hy;have h1:=v9 hS hx hy
 delta ltB
 refine O (lK hx.1 hy.1) ?_
 by_cases hc:n<m
 ·refine O (if_pos (h1.mpr hc)) ?_;simp[hc]
 ·refine O (if_neg (λq=>hc (h1.mp q))) ?_
  by_cases hd:n=m
  ·refine O (if_pos (h.mpr hd)) ?_;simp[hc]
  ·refine O (if_neg (λq=>hd (h.mp q))) ?_;simp[hc]
theorem oP (hS:Sc S) (hx:Gr S x n):bx x=decide (n=0):=by
 refine O (tG hx.1) ?_;have hp:(0:Rat)<(S:Rat):=by have:=hS.pos;exact Yo this
 have:R x=0<->n=0:=by
  constructor
  ·intro h;have:=hx.2;rw[h,ej] at this;have h2:((0:Int):Rat)=(n:Rat):=by exact_mod_cast this
   have h3:(0:Int)=n:=by exact_mod_cast h2
   exact h3.symm
  ·intro h;have h2:=hx.2;rw[h] at h2;refine eQ hp ?_;refine O h2 (O (ej ..) ?_);push_cast;rfl
 simp[this]
noncomputable def aK (a b c:Int):Int:=if b>a then(if c>b then c else b) else(if c>a then c else a)
noncomputable def aN (a b c:Int):Int:=if b<a then(if c<b then c else b) else(if c<a then c else a)
variable{r g b:UInt64}{A B C:Int}
theorem tT (hS:Sc S) (hr:Gr S r A) (hg:Gr S g B) (hb:Gr S b C):Gr S (mx3 r g b) (aK A B C):=by
 delta mx3 aK
 refine O (CS hS hg hr) (O (CS hS hb hg) (O (CS hS hb hr) ?_));simp only[decide_eq_true_eq];split
 ·split
  ·exact hb
  ·exact hg
 ·split
  ·exact hb
  ·exact hr
theorem tU (hS:Sc S) (hr:Gr S r A) (hg:Gr S g B) (hb:Gr S b C):Gr S (mn3 r g b) (aN A B C):=by
 delta mn3 aN
 refine O (CT hS hg hr) (O (CT hS hb hg) (O (CT hS hb hr) ?_));simp only[decide_eq_true_eq];split
 ·split
  ·exact hb
  ·exact hg
 ·split
  ·exact hb
  ·exact hr
theorem nN (hS:Sc S) (hx:Gr S x n) (hy:Gr S y m) (h0:0<=n) (h1:n<=m) (h2:0<m) :
  FinF (div x y)/\(n:Rat)/(m:Rat)-1/2 ^ 54<=R (div x y)/\R (div x y)<=(n:Rat)/(m:Rat)+1/2 ^ 54/\(n=0->R (div x y)=0)/\(n=m->R (div x y)=1):=by
 have hp:(0:Rat)<(S:Rat):=by have:=hS.pos;exact Yo this
 refine xa hx λf1 e1=>?_;clear hx;refine xa hy λf2 e2=>?_;clear hy;have hm:(0:Rat)<(m:Rat):=by exact_mod_cast h2
 have hn:(0:Rat)<=(n:Rat):=by exact_mod_cast h0
 have Rk:(n:Rat)<=(m:Rat):=by exact_mod_cast h1
 have Ot:0<R y:=ec (c:=(S:Rat)) (by exact O (ej ..) (O e2 hm)) (ar hp);have Py:0<=R x:=cV hp (by exact O (ej ..) (O e1 hn));have Va:R x<=R y:=cV hp (by exact O e1 (O e2 Rk));refine aP (AE f1 f2 Ot (M:=1) ⟨0,by decide,rfl⟩ (by push_cast;exact fr2 (.l (.G (.M .n1 .a)) .b) [.t .n0 .a,.l .n0 .b] Ot Py) (by push_cast;exact fr2 (.l .a (.M .n1 .b)) [.l .a .b] Va)) λa b c d=>?_;have hq:R x/R y=(n:Rat)/(m:Rat):=by
  have q1:R x/R y*R y=R x:=dmc (by assumption);have q2:(n:Rat)/(m:Rat)*(m:Rat)=n:=dmc (by assumption);generalize R x/R y=Q at *;generalize (n:Rat)/(m:Rat)=P at *;refine eQ hm ?_;exact O q2 (XO e1 (XO q1 (XO e2 (fr3 (.e (.M .a .kq) .jN) []))))
 rw[hq] at b c d;push_cast at b c;refine(gF a b c (λe=>?_) (λe=>?_))
 ·have:(n:Rat)/(m:Rat)=0:=by refine O e ?_;push_cast;simp[rh]
  rw[this] at d;exact d (bE 0 0 (by decide) (by decide) (by push_cast;exact fr0 (.e (.M .n0 .n1) .n0) []))
 ·have:(n:Rat)/(m:Rat)=1:=by refine O e ?_;exact eQ hm ((dmc hm).trans (on _).symm)
  rw[this] at d;exact d (bE 1 0 (by decide) (by decide) (by push_cast;exact fr0 (.e (.M .n1 .n1) .n1) []))
end
theorem UO (h:vz x=true):FinF x:=by
 delta vz at h
 delta FinF
 cases hd:qp x with
 | fin a m e=>exact(eH a m e rfl)
 | _=>rw[hd] at h;cases h
theorem oQ (hf:vz x=true) (hd:0<d) (h:val x*d=n*(K:Int)):FinF x/\R x=(n:Rat)/(d:Rat):=⟨UO hf,R_of_val hd h⟩
theorem l2:FinF 0x4000000000000000/\R 0x4000000000000000=2:=by
 have:=oQ (x:=0x4000000000000000) (n:=2) (d:=1) (by decide +kernel) (by decide) (by decide +kernel);exact⟨this.1,by refine O this.2 ?_;push_cast;exact er0 (.e (.D .n2 .n1) .n2) [] rfl⟩
theorem l4:FinF 0x4010000000000000/\R 0x4010000000000000=4:=by
 have:=oQ (x:=0x4010000000000000) (n:=4) (d:=1) (by decide +kernel) (by decide) (by decide +kernel);exact⟨this.1,by refine O this.2 ?_;push_cast;exact er0 (.e (.D .n4 .n1) .n4) [] rfl⟩
theorem l6:FinF 0x4018000000000000/\R 0x4018000000000000=6:=by
 have:=oQ (x:=0x4018000000000000) (n:=6) (d:=1) (by decide +kernel) (by decide) (by decide +kernel);exact⟨this.1,by refine O this.2 ?_;push_cast;exact er0 (.e (.D .n6 .n1) .n6) [] rfl⟩
theorem l1:FinF 0x3ff0000000000000/\R 0x3ff0000000000000=1:=by
 have:=oQ (x:=0x3ff0000000000000) (n:=1) (d:=1) (by decide +kernel) (by decide) (by decide +kernel);exact⟨this.1,by refine O this.2 ?_;push_cast;exact er0 (.e (.D .n1 .n1) .n1) [] rfl⟩
theorem lh:FinF 0x3fe0000000000000/\R 0x3fe0000000000000=1/2:=by
 have:=oQ (x:=0x3fe0000000000000) (n:=1) (d:=2) (by decide +kernel) (by decide) (by decide +kernel);exact⟨this.1,by refine O this.2 ?_;push_cast;exact er0 (.e .kf .kf) [] rfl⟩
theorem l0:FinF 0/\R 0=0:=by
 have:=oQ (x:=0) (n:=0) (d:=1) (by decide +kernel) (by decide) (by decide +kernel);exact⟨this.1,by refine O this.2 ?_;push_cast;exact er0 (.e (.D .n0 .n1) .n0) [] rfl⟩
theorem l13:FinF 0x3fd5555555555555/\R 0x3fd5555555555555=6004799503160661/2 ^ 54:=by
 have:=oQ (x:=0x3fd5555555555555) (n:=6004799503160661) (d:=2 ^ 54) (by decide +kernel) (by decide) (by decide +kernel);exact⟨this.1,by refine O this.2 ?_;push_cast;exact er0 (.e (.D .ku .kM) .kP) [] rfl⟩
theorem l16:FinF 0x3fc5555555555555/\R 0x3fc5555555555555=6004799503160661/2 ^ 55:=by
 have:=oQ (x:=0x3fc5555555555555) (n:=6004799503160661) (d:=2 ^ 55) (by decide +kernel) (by decide) (by decide +kernel);exact⟨this.1,by refine O this.2 ?_;push_cast;exact er0 (.e (.D .ku (.N 36028797018963968)) .jL) [] rfl⟩
theorem l23:FinF 0x3fe5555555555555/\R 0x3fe5555555555555=6004799503160661/2 ^ 53:=by
 have:=oQ (x:=0x3fe5555555555555) (n:=6004799503160661) (d:=2 ^ 53) (by decide +kernel) (by decide) (by decide +kernel);exact⟨this.1,by refine O this.2 ?_;push_cast;exact er0 (.e (.D .ku .ja) (.D .ku .ki)) [] rfl⟩
def gR (A B C:Int):Rat :=
 if A=aK A B C then((B-C:Int):Rat)/((aK A B C-aN A B C:Int):Rat)
 else if B=aK A B C then 2+((C-A:Int):Rat)/((aK A B C-aN A B C:Int):Rat)
 else 4+((A-B:Int):Rat)/((aK A B C-aN A B C:Int):Rat)
theorem d9 (A B C:Int):A<=aK A B C/\B<=aK A B C/\C<=aK A B C/\(aK A B C=A\/aK A B C=B\/aK A B C=C):=by
 delta aK
 by_cases h:B>A
 ·refine O (if_pos h) ?_
  by_cases h':C>B
  ·exact O (if_pos h') (cS (dd (Bp h h')) (dd h') (ia _) (.inr (.inr rfl)))
  ·exact O (if_neg h') (cS (dd h) (ia _) (dr.mp h') (.inr (.inl rfl)))
 ·refine O (if_neg h) ?_
  by_cases h':C>A
  ·exact O (if_pos h') (cS (dd h') (au (dr.mp h) (dd h')) (ia _) (.inr (.inr rfl)))
  ·exact O (if_neg h') (cS (ia _) (dr.mp h) (dr.mp h') (.inl rfl))
theorem dI (A B C:Int):aN A B C<=A/\aN A B C<=B/\aN A B C<=C/\(aN A B C=A\/aN A B C=B\/aN A B C=C):=by
 delta aN
 by_cases h:B<A
 ·refine O (if_pos h) ?_
  by_cases h':C<B
  ·exact O (if_pos h') (cS (dd (Bp h' h)) (dd h') (ia _) (.inr (.inr rfl)))
  ·exact O (if_neg h') (cS (dd h) (ia _) (dr.mp h') (.inr (.inl rfl)))
 ·refine O (if_neg h) ?_
  by_cases h':C<A
  ·exact O (if_pos h') (cS (dd h') (au (dd h') (dr.mp h)) (ia _) (.inr (.inr rfl)))
  ·exact O (if_neg h') (cS (ia _) (dr.mp h) (dr.mp h') (.inl rfl))
theorem SN (hA:0<=A/\A<=S) (hB:0<=B/\B<=S) (hC:0<=C/\C<=S):aK A B C-aN A B C<=S:=by
 refine au (mu _ ?_) ?_
 ·rcases(dI A B C).2.2.2 with e | e | e <;> refine O e ?_
  ·exact hA.1
  ·exact hB.1
  ·exact hC.1
 ·rcases(d9 A B C).2.2.2 with e | e | e <;> refine O e ?_
  ·exact hA.2
  ·exact hB.2
  ·exact hC.2
theorem wA{x S:Int}(h0:0<=x) (h1:x<=S) (hS:S<=2 ^ 53):x.natAbs<=2 ^ 53:=nz.mp (by exact O (an h0) (au h1 hS))
theorem UP{a b S:Int}(ha:0<=a/\a<=S) (hb:0<=b/\b<=S) (hS:S<=2 ^ 53):(a-b).natAbs<=2 ^ 53:=by
 rcases Bm b a with h | h
 ·exact wA (bo h) (au (mu _ hb.1) ha.2) hS
 ·exact XO (Ee ..) (O (Int.neg_sub ..) (wA (bo h) (au (mu _ ha.1) hb.2) hS))
theorem xP (h1:A<=m) (h2:B<=m) (h3:C<=m) (h4:m=A\/m=B\/m=C):aK A B C=m:=by
 refine aP (d9 A B C) λq1 q2 q3 q4=>?_;refine ca ?_ ?_
 ·rcases q4 with e | e | e <;> refine O e ?_ <;> assumption
 ·rcases h4 with rfl | rfl | rfl <;> assumption
theorem EZ (h1:m<=A) (h2:m<=B) (h3:m<=C) (h4:m=A\/m=B\/m=C):aN A B C=m:=by
 refine aP (dI A B C) λq1 q2 q3 q4=>?_;refine ca ?_ ?_
 ·rcases h4 with rfl | rfl | rfl <;> assumption
 ·rcases q4 with e | e | e <;> refine O e ?_ <;> assumption
theorem SO (h:¬(A=B/\B=C)):aN A B C<aK A B C:=by
 refine aP (dI A B C) λq1 q2 q3 q4=>?_;refine aP (d9 A B C) λp1 p2 p3 p4=>?_;refine oj.mp λq=>h ⟨ca (au p1 (au q q2)) (au p2 (au q q1)),ca (au p2 (au q q3)) (au p3 (au q q2))⟩
theorem W9{a:Int}{S:Nat}(h:0<=a/\a<=S) (hS:S<=2 ^ 50):0<=a/\a<=2 ^ 50:=⟨h.1,au h.2 (nz.mpr hS)⟩
section
variable{S:Nat}{r g b:UInt64}{A B C:Int}
theorem j4{n m:Int}(h0:0<=n) (h1:n<=m) (h2:0<m):(0:Rat)<=(n:Rat)/(m:Rat)/\(n:Rat)/(m:Rat)<=1:=by
 have hm:(0:Rat)<(m:Rat):=by exact_mod_cast h2
 have hn:(0:Rat)<=(n:Rat):=by exact_mod_cast h0
 have Rk:(n:Rat)<=(m:Rat):=by exact_mod_cast h1
 have q:(n:Rat)/(m:Rat)*(m:Rat)=n:=dmc (by assumption);exact⟨cV hm (by exact O q (O (ej ..) hn)),cV hm (by refine O q (O (on ..) ?_);exact Rk)⟩
theorem V8{a b:Int}(ha:0<=a/\a<=2 ^ 50) (hb:0<=b/\b<=2 ^ 50):(a-b).natAbs<=2 ^ 53:=UP ha hb (by decide)
theorem tV{X Y x:UInt64}{M N A:Int}(hS:Sc S) (gM:Gr S X M) (gN:Gr S Y N) (gr:Gr S x A) (n:N<=A) (m:A<=M) (hA:0<=A/\A<=2 ^ 50) (hM:0<=M/\M<=2 ^ 50) (hN:0<=N/\N<=2 ^ 50) (hd:N<M) :
  FinF (div (ab X x) (ab X Y))/\((M-A:Int):Rat)/((M-N:Int):Rat)-1/2 ^ 54<=R (div (ab X x) (ab X Y))/\R (div (ab X x) (ab X Y))<=((M-A:Int):Rat)/((M-N:Int):Rat)+1/2 ^ 54 /\
  0<=((M-A:Int):Rat)/((M-N:Int):Rat)/\((M-A:Int):Rat)/((M-N:Int):Rat)<=1:=by
 have gD:=gQ hS gM gN (V8 hM hN);have gx:=gQ hS gM gr (V8 hM hA);refine aP (nN hS gx gD (bo m) (zx n M) (gm hd)) λr1 r2 r3 aT=>?_;clear aT;refine xa (j4 (n:=M-A) (m:=M-N) (bo m) (zx n M) (gm hd)) λru rv=>?_;exact(gF r1 r2 r3 ru rv)
theorem MU{X Y M D:Int}(h:0<D):((X-Y:Int):Rat)/(D:Rat)=((M-Y:Int):Rat)/(D:Rat)-((M-X:Int):Rat)/(D:Rat):=by
 have hd:(0:Rat)<(D:Rat):=by exact_mod_cast h
 refine eQ hd ?_;rw[qh,zf,Cv,dmc hd,dmc hd,dmc hd];push_cast;exact er3 (.e .ka (.A (.S .c .b) (.G (.S .c .a)))) [] rfl
theorem SR{A B C m:Int}{P:Int->Prop}(h:m=A\/m=B\/m=C) (hA:P A) (hB:P B) (hC:P C):P m:=by rcases h with e | e | e <;> refine O e ?_ <;> assumption
theorem V9 (hS:Sc S) (hr:Gr S r A) (hg:Gr S g B) (hb:Gr S b C) (hA:0<=A/\A<=2 ^ 50) (hB:0<=B/\B<=2 ^ 50) (hC:0<=C/\C<=2 ^ 50) (hd:aN A B C<aK A B C) :
  FinF (j3 r g b (mx3 r g b) (ab (mx3 r g b) (mn3 r g b))) /\
  gR A B C-5/2 ^ 52<=R (j3 r g b (mx3 r g b) (ab (mx3 r g b) (mn3 r g b)))/\R (j3 r g b (mx3 r g b) (ab (mx3 r g b) (mn3 r g b)))<=gR A B C+5/2 ^ 52/\-1<=gR A B C/\gR A B C<=5:=by
 have gM:=tT hS hr hg hb;have gN:=tU hS hr hg hb;refine aP (d9 A B C) λm1 m2 m3 m4=>?_;refine aP (dI A B C) λn1 n2 n3 n4=>?_
 delta j3 gR
 refine O (kR hS hr gM) (O (kR hS hg gM) ?_);generalize mx3 r g b=X at *;generalize mn3 r g b=Y at *;generalize aK A B C=M at *;generalize aN A B C=N at *;have hM:0<=M/\M<=2 ^ 50:=SR (P:=λm=>0<=m/\m<=2 ^ 50) m4 hA hB hC;have hN:0<=N/\N<=2 ^ 50:=SR (P:=λm=>0<=m/\m<=2 ^ 50) n4 hA hB hC;refine gC (tV hS gM gN hr n1 m1 hA hM hN hd) λr1 r2 r3 ru rv=>?_;refine gC (tV hS gM gN hg n2 m2 hB hM hN hd) λg1 g2 g3 gu gv=>?_;refine gC (tV hS gM gN hb n3 m3 hC hM hN hd) λb1 b2 b3 bu bv=>?_;have e1:=MU (X:=B) (Y:=C) (M:=M) (gm hd);have e2:=MU (X:=C) (Y:=A) (M:=M) (gm hd);have e3:=MU (X:=A) (Y:=B) (M:=M) (gm hd);refine O e1 (O e2 (O e3 ?_));generalize ((M-A:Int):Rat)/((M-N:Int):Rat)=qa at *;generalize ((M-B:Int):Rat)/((M-N:Int):Rat)=qb at *;generalize ((M-C:Int):Rat)/((M-N:Int):Rat)=qc at *;generalize div (ab X r) (ab X Y)=xa at *;generalize div (ab X g) (ab X Y)=xb at *;generalize div (ab X b) (ab X Y)=xc at *;clear e1 e2 e3 gM gN m1 m2 m3 m4 n1 n2 n3 n4 hA hB hC hM hN hd hr hg hb;simp only[decide_eq_true_eq];split
 ·refine aP (gV b1 g1 (M:=2) ⟨1,by decide,rfl⟩ (by push_cast;exact er4 (.l .kV .ka) [.l .c .n1,.l .n0 .d,.l .b (.A .c .kl),.l (.S .d .kl) .a] rfl gv bu g3 b2) (by push_cast;exact er4 (.l .ka .n2) [.l .n0 .c,.l .d .n1,.l .jz .b,.l .a (.A .d .kl)] rfl gu bv g2 b3)) λa1 a2 a3 aT=>?_;clear aT;push_cast at a2 a3;exact(gF a1 (er5 (.l (.S .ka .kI) .c) [.l .d .jh,.l (.S .a .kl) .e,.l (.S .jI .kT) .c] rfl g3 b2 a2) (er5 (.l .a (.A .kx .kI)) [.l .jz .d,.l .e .jh,.l .a (.A .jI .kT)] rfl g2 b3 a3) (er2 (.l .kn .ka) [.l .b .n1,.l .n0 .a] rfl gv bu) (er2 (.l .ka .n5) [.l .n0 .b,.l .a .n1] rfl gu bv))
 ·split
  ·obtain⟨t1,t2⟩:=l2;obtain⟨a1,a2,a3,-⟩:=jV t1 r1 (M:=4) ⟨2,by decide,rfl⟩ (by push_cast;exact er3 (.l .jX .kb) [.l .n0 .c,.l .jz .b,.e .n2 .a] rfl ru r2 t2.symm) (by push_cast;exact er3 (.l .kb .n4) [.l .c .n1,.l .b (.A .c .kl),.e .a .n2] rfl rv r3 t2);push_cast at a2 a3;obtain⟨c1,c2,c3,-⟩:=gV a1 b1 (M:=4) ⟨2,by decide,rfl⟩ (by push_cast;exact er6 (.l .jX .ka) [.l .n0 .c,.l .d .n1,.l .jz .e,.l .b (.A .d .kl),.e .n2 .f,.l (.S (.A .f .e) .kE) .a] rfl ru bv r2 b3 t2.symm a2) (by push_cast;exact er6 (.l .ka .n4) [.l .c .n1,.l .n0 .d,.l .e (.A .c .kl),.l (.S .d .kl) .b,.e .f .n2,.l .a (.A (.A .f .e) .kE)] rfl rv bu r3 b2 t2 a3);push_cast at c2 c3;exact(gF c1 (ear [_,_,_,_,_,_,_] (.l (.S (.A .n2 .ka) .kI) .c) [.l (.S .a .kl) .d,.l .e .jh,.e .n2 .f,.l (.S (.A .f .d) .kE) .g,.l (.S (.S .g .e) .kE) .c] rfl r2 b3 t2.symm a2 c2) (ear [_,_,_,_,_,_,_] (.l .a (.A (.A .n2 .kx) .kI)) [.l .d .jh,.l .jz .e,.e .f .n2,.l .g (.A (.A .f .d) .kE),.l .a (.A (.S .g .e) .kE)] rfl r3 b2 t2 a3 c3) (er2 (.l .kn (.A .n2 .ka)) [.l .n0 .a,.l .b .n1] rfl ru bv) (er2 (.l (.A .n2 .ka) .n5) [.l .a .n1,.l .n0 .b] rfl rv bu))
  ·obtain⟨t1,t2⟩:=l4;obtain⟨a1,a2,a3,-⟩:=jV t1 g1 (M:=8) ⟨3,by decide,rfl⟩ (by push_cast;exact er3 (.l (.G .n8) .kb) [.l .n0 .c,.l .jz .b,.e .n4 .a] rfl gu g2 t2.symm) (by push_cast;exact er3 (.l .kb .n8) [.l .c .n1,.l .b (.A .c .kl),.e .a .n4] rfl gv g3 t2);push_cast at a2 a3;obtain⟨c1,c2,c3,-⟩:=gV a1 r1 (M:=8) ⟨3,by decide,rfl⟩ (by push_cast;exact er6 (.l (.G .n8) .ka) [.l .c .n1,.l .n0 .d,.l .b (.A .c .kl),.l (.S .d .kl) .e,.e .n4 .f,.l (.S (.A .f .e) (.E 8)) .a] rfl rv gu r3 g2 t2.symm a2) (by push_cast;exact er6 (.l .ka .n8) [.l .n0 .c,.l .d .n1,.l .jz .b,.l .e (.A .d .kl),.e .f .n4,.l .a (.A (.A .f .e) (.E 8))] rfl ru gv r2 g3 t2 a3);push_cast at c2 c3;exact(gF c1 (ear [_,_,_,_,_,_,_] (.l (.S (.A .n4 .ka) .kI) .c) [.l .d .jh,.l (.S .a .kl) .e,.e .n4 .f,.l (.S (.A .f .e) (.E 8)) .g,.l (.S (.S .g .d) (.E 8)) .c] rfl r3 g2 t2.symm a2 c2) (ear [_,_,_,_,_,_,_] (.l .a (.A (.A .n4 .kx) .kI)) [.l .jz .d,.l .e .jh,.e .f .n4,.l .g (.A (.A .f .e) (.E 8)),.l .a (.A (.S .g .d) (.E 8))] rfl r2 g3 t2 a3 c3) (er2 (.l .kn (.A .n4 .ka)) [.l .b .n1,.l .n0 .a] rfl rv gu) (er2 (.l (.A .n4 .ka) .n5) [.l .n0 .b,.l .a .n1] rfl ru gv))
def iS (r g b:UInt64):UInt64:=(bz (div (j3 r g b (mx3 r g b) (ab (mx3 r g b) (mn3 r g b))) 0x4018000000000000) one).2
theorem CU (hS:Sc S) (hr:Gr S r A) (hg:Gr S g B) (hb:Gr S b C) (hA:0<=A/\A<=2 ^ 50) (hB:0<=B/\B<=2 ^ 50) (hC:0<=C/\C<=2 ^ 50) (hd:aN A B C<aK A B C) :
  FinF (iS r g b)/\0<=R (iS r g b)/\R (iS r g b)<=1+1/2 ^ 52/\∃n:Int,gR A B C-6*n-1/2 ^ 49<=6*R (iS r g b)/\6*R (iS r g b)<=gR A B C-6*n+1/2 ^ 49:=by
 refine gC (V9 hS hr hg hb hA hB hC hd) λh1 h2 h3 h4 h5=>?_
 delta iS
 generalize j3 r g b (mx3 r g b) (ab (mx3 r g b) (mn3 r g b))=H at *;refine xa l6 λs1 s2=>?_;refine aP (AE h1 s1 (by exact O s2 (er0 (.t .n0 .n6) [] rfl)) (M:=1) ⟨0,by decide,rfl⟩ (by refine O s2 ?_;push_cast;exact er2 (.l (.G (.M .n1 .n6)) .a) [.l .kn .b,.l (.S .b .kI) .a] rfl h4 h2) (by refine O s2 ?_;push_cast;exact er2 (.l .a (.M .n1 .n6)) [.l .b .n5,.l .a (.A .b .kI)] rfl h5 h3)) λa1 a2 a3 aT=>?_;clear aT;rw[s2] at a2 a3;push_cast at a2 a3;refine jM (mB a1) λm1 m2 n m3 m4 m5 m6 aT=>?_;exact(cS m1 m2 (yx m4 m6) (iea n (er5 (.l (.S (.S .a .kA) .kz) .kX) [.l (.S .a .kI) .d,.L 6 (.S (.D .d .n6) .kl) .e,.L 6 (.S (.S .e .b) .kl) .c] rfl h2 a2 m3) (er5 (.l .kg (.A (.S .b .kX) .kz)) [.l .d (.A .b .kI),.L 6 .e (.A (.D .d .n6) .kl),.L 6 .a (.A (.S .e .c) .kl)] rfl h3 a3 m4)))
end
noncomputable def gL (x:Rat):Rat:=if x<0 then 0 else if 1<x then 1 else x
noncomputable def nO (x:Rat):Rat:=if x<0 then -x else x
def dN (u:Rat):Rat:=gL (nO (u-3)-1)
def bQ (u:Rat):Rat:=gL (2-nO (u-2))
def fI (u:Rat):Rat:=gL (2-nO (u-4))
theorem oR (h:x<=0):gL x=0:=by delta gL;grind
theorem mF (h:1<=x):gL x=1:=by delta gL;grind
theorem mH (h0:0<=x) (h1:x<=1):gL x=x:=by delta gL;grind
theorem lT (h:0<=x):nO x=x:=by delta nO;grind
theorem lU (h:x<=0):nO x=-x:=by delta nO;grind
theorem tW (h:y<=t) (h0:0<=t):gL y<=t:=by
 by_cases k:y<=0
 ·exact O (oR k) h0
 ·by_cases k1:y<=1
  ·exact O (mH (ar (gw.mp k)) k1) h
  ·exact O (mF (ar (gw.mp k1))) (er2 (.l .n1 .a) [.l .b .a,.t .n1 .b] rfl h (gw.mp k1))
theorem G6 (y:Rat):gL y<=1:=by
 by_cases k1:y<=1
 ·exact tW k1 (er0 (.l .n0 .n1) [] rfl)
 ·exact O (mF (ar (gw.mp k1))) eh
theorem AH (e0:0<=e) (h:y<=x+e):gL y<=gL x+e:=by
 by_cases k:x<=0
 ·exact O (oR k) (tW (er3 (.l .a (.A .n0 .b)) [.l .a (.A .c .b),.l .c .n0] rfl h k) (er1 (.l .n0 (.A .n0 .a)) [.l .n0 .a] rfl e0))
 ·by_cases k1:x<=1
  ·exact O (mH (ar (gw.mp k)) k1) (tW h (er2 (.l .n0 .kb) [.l .n0 .b,.t .n0 .a] rfl e0 (gw.mp k)))
  ·have:=G6 y;exact O (mF (x:=x) (ar (gw.mp k1))) (er2 (.l .a (.A .n1 .b)) [.l .n0 .b,.l .a .n1] rfl e0 this)
theorem WA{x y e:Rat}(h0:x-e<=y) (h1:y<=x+e):0<=e/\x<=y+e:=⟨by exact er3 (.L 2 .n0 .a) [.l (.S .b .a) .c,.l .c (.A .b .a)] rfl h0 h1,by exact er3 (.l .a .kH) [.l .j1 .b] rfl h0⟩
theorem pG{x y e:Rat}(h0:x-e<=y) (h1:y<=x+e):gL x-e<=gL y/\gL y<=gL x+e:=by
 have h:=WA h0 h1;have k:=AH h.1 h.2;exact⟨by exact er3 (.l .ka .c) [.l .a (.A .c .b)] rfl k,AH h.1 h1⟩
theorem E0 (x:Rat):x<=nO x/\-x<=nO x:=by
 by_cases k:0<=x
 ·exact O (lT k) ⟨by exact eh,by exact er1 (.l .k0 .a) [.L 2 .n0 .a] rfl k⟩
 ·exact O (lU (ar (gw.mp k))) ⟨by exact er1 (.l .a .k0) [.T 2 .a .n0] rfl (gw.mp k),by exact eh⟩
theorem E1 (h:y<=t) (h':-y<=t):nO y<=t:=by
 by_cases k:0<=y
 ·exact O (lT k) h
 ·exact O (lU (ar (gw.mp k))) h'
theorem tX (h0:x-e<=y) (h1:y<=x+e):nO x-e<=nO y/\nO y<=nO x+e:=by
 have hx:=E0 x;have hy:=E0 y;have k:=E1 (y:=x) (t:=nO y+e) (er4 (.l .a .kH) [.l .j1 .d,.l .d .b] rfl h0 hy.1) (er4 (.l .k0 .kH) [.l .d (.A .a .c),.l (.G .d) .b] rfl h1 hy.2);exact⟨by exact er3 (.l .ka .c) [.l .a (.A .c .b)] rfl k,E1 (er4 (.l .a .kH) [.l .a (.A .d .c),.l .d .b] rfl h1 hx.1) (er4 (.l .k0 .kH) [.l (.S .d .c) .a,.l (.G .d) .b] rfl h0 hx.2)⟩
theorem E2 (a:Rat) (h0:x-e<=y) (h1:y<=x+e):(x-a)-e<=y-a/\y-a<=(x-a)+e:=by exact⟨er4 (.l (.S .ka .c) (.S .d .b)) [.l .j1 .d] rfl h0,er4 (.l .ka (.A (.S .c .b) .d)) [.l .a .jv] rfl h1⟩
theorem MV (a:Rat) (h:x-e<=y/\y<=x+e):(a-x)-e<=a-y/\a-y<=(a-x)+e:=by exact⟨er4 (.l (.S .ka .c) (.S .a .d)) [.l .d .kH] rfl h.2,er4 (.l .ka (.A .j1 .d)) [.l .jc .b] rfl h.1⟩
theorem j5 (h0:u-e<=w) (h1:w<=u+e):bQ u-e<=bQ w/\bQ w<=bQ u+e:=by
 have a:=E2 2 h0 h1;have b:=MV 2 (tX a.1 a.2);exact pG b.1 b.2
theorem MW (h0:u-e<=w) (h1:w<=u+e):fI u-e<=fI w/\fI w<=fI u+e:=by
 have a:=E2 4 h0 h1;have b:=MV 2 (tX a.1 a.2);exact pG b.1 b.2
theorem MX (h0:u-e<=w) (h1:w<=u+e):dN u-e<=dN w/\dN w<=dN u+e:=by
 have a:=E2 3 h0 h1;have b:=tX a.1 a.2;have c:=E2 1 b.1 b.2;exact pG c.1 c.2
theorem R_1 (h:u<=1):dN u=1:=by delta dN;exact O (lU (by exact er1 (.l .k1 .n0) [.l .a .n1] rfl h)) (mF (by exact er1 (.l .n1 .j2) [.l .a .n1] rfl h))
theorem R_2 (h:1<=u) (h':u<=2):dN u=2-u:=by delta dN;exact O (lU (by exact er1 (.l .k1 .n0) [.l .a .n2] rfl h')) (O (mH (by exact er1 (.l .n0 .j2) [.l .a .n2] rfl h') (by exact er1 (.l .j2 .n1) [.l .n1 .a] rfl h)) (er1 (.e .j2 .ji) [] rfl))
theorem R_3 (h:2<=u) (h':u<=4):dN u=0:=by
 delta dN
 refine oR ?_;rcases gf (a:=u) (b:=3) with q | q
 ·exact O (lU (by exact er1 (.l .k1 .n0) [.l .a .n3] rfl q)) (er1 (.l .j2 .n0) [.l .n2 .a] rfl h)
 ·exact O (lT (by exact er1 (.l .n0 .k1) [.l .n3 .a] rfl q)) (er1 (.l (.S .k1 .n1) .n0) [.l .a .n4] rfl h')
theorem R_4 (h:4<=u) (h':u<=5):dN u=u-4:=by delta dN;exact O (lT (by exact er1 (.l .n0 .k1) [.l .n4 .a] rfl h)) (O (mH (by exact er1 (.l .n0 (.S .k1 .n1)) [.l .n4 .a] rfl h) (by exact er1 (.l (.S .k1 .n1) .n1) [.l .a .n5] rfl h')) (er1 (.e (.S .k1 .n1) .jA) [] rfl))
theorem R_5 (h:5<=u):dN u=1:=by delta dN;exact O (lT (by exact er1 (.l .n0 .k1) [.l .n5 .a] rfl h)) (mF (by exact er1 (.l .n1 (.S .k1 .n1)) [.l .n5 .a] rfl h))
theorem G_0 (h:u<=0):bQ u=0:=by delta bQ;exact O (lU (by exact er1 (.l .kr .n0) [.l .a .n0] rfl h)) (oR (by exact er1 (.l .j3 .n0) [.l .a .n0] rfl h))
theorem G_1 (h:0<=u) (h':u<=1):bQ u=u:=by delta bQ;exact O (lU (by exact er1 (.l .kr .n0) [.l .a .n1] rfl h')) (O (mH (by exact er1 (.l .n0 .j3) [.l .n0 .a] rfl h) (by exact er1 (.l .j3 .n1) [.l .a .n1] rfl h')) (er1 (.e .j3 .a) [] rfl))
theorem G_2 (h:1<=u) (h':u<=3):bQ u=1:=by
 delta bQ
 refine mF ?_;rcases gf (a:=u) (b:=2) with q | q
 ·exact O (lU (by exact YB q)) (er1 (.l .n1 .j3) [.l .n1 .a] rfl h)
 ·exact O (lT (by exact yy q)) (er1 (.l .n1 (.S .n2 .kr)) [.l .a .n3] rfl h')
theorem G_3 (h:3<=u) (h':u<=4):bQ u=4-u:=by delta bQ;exact O (lT (by exact er1 (.l .n0 .kr) [.l .n3 .a] rfl h)) (O (mH (by exact er1 (.l .n0 (.S .n2 .kr)) [.l .a .n4] rfl h') (by exact er1 (.l (.S .n2 .kr) .n1) [.l .n3 .a] rfl h)) (er1 (.e (.S .n2 .kr) .jd) [] rfl))
theorem G_4 (h:4<=u):bQ u=0:=by delta bQ;exact O (lT (by exact er1 (.l .n0 .kr) [.l .n4 .a] rfl h)) (oR (by exact er1 (.l (.S .n2 .kr) .n0) [.l .n4 .a] rfl h))
theorem B_G (u:Rat):fI u=bQ (u-2):=by
 delta fI bQ
 exact O (show u-2-2=u-4 by exact er1 (.e (.S .kr .n2) .jA) [] rfl) rfl
theorem B_0 (h:u<=2):fI u=0:=by exact O (B_G ..) (G_0 (YB h))
theorem B_1 (h:2<=u) (h':u<=3):fI u=u-2:=by exact O (B_G ..) (G_1 (yy h) (er1 (.l .kr .n1) [.l .a .n3] rfl h'))
theorem B_2 (h:3<=u) (h':u<=5):fI u=1:=by exact O (B_G ..) (G_2 (er1 (.l .n1 .kr) [.l .n3 .a] rfl h) (er1 (.l .kr .n3) [.l .a .n5] rfl h'))
theorem B_3 (h:5<=u) (h':u<=6):fI u=6-u:=by exact O (B_G ..) (O (G_3 (by exact er1 (.l .n3 .kr) [.l .n5 .a] rfl h) (by exact er1 (.l .kr .n4) [.l .a .n6] rfl h')) (er1 (.e (.S .n4 .kr) .k8) [] rfl))
theorem R_G (h:u<=4) (h':0<=u):dN u=bQ (u+2):=by
 rcases gf (a:=u) (b:=1) with q | q
 ·exact O (R_1 q) (O (G_2 (by exact er1 (.l .n1 .kQ) [.l .n0 .a] rfl h') (by exact YC q)) rfl)
 ·rcases gf (a:=u) (b:=2) with r | r
  ·exact O (R_2 q r) (O (G_3 (by exact er1 (.l .n3 .kQ) [.l .n1 .a] rfl q) (by exact er1 (.l .kQ .n4) [.l .a .n2] rfl r)) (er1 (.e .ji (.S .n4 .kQ)) [] rfl))
  ·exact O (R_3 r h) (O (G_4 (by exact er1 (.l .n4 .kQ) [.l .n2 .a] rfl r)) rfl)
theorem R_G' (h:4<=u) (h':u<=6):dN u=bQ (u-4):=by
 rcases gf (a:=u) (b:=5) with q | q
 ·exact O (R_4 h q) (O (G_1 (by exact er1 (.l .n0 .jA) [.l .n4 .a] rfl h) (by exact er1 (.l .jA .n1) [.l .a .n5] rfl q)) rfl)
 ·exact O (R_5 q) (O (G_2 (by exact er1 (.l .n1 .jA) [.l .n5 .a] rfl q) (by exact er1 (.l .jA .n3) [.l .a .n6] rfl h')) rfl)
theorem MY (h0:0<=w) (h1:w<6) (h:w'=(if w<5 then w+1 else w-5)):dN w'=1-bQ w/\bQ w'=1-fI w/\fI w'=1-dN w:=by
 by_cases c:w<5
 ·rw[if_pos c] at h;subst h;rcases gf (a:=w) (b:=1) with q | q
  ·exact O (R_2 (by exact yk h0) (by exact yz q)) (O (G_1 h0 q) (O (G_2 (by exact yk h0) (by exact er1 (.l .kk .n3) [.l .a .n1] rfl q)) (O (B_0 (by exact er1 (.l .a .n2) [.l .a .n1] rfl q)) (O (B_0 (by exact yz q)) (O (R_1 q) ⟨er1 (.e (.S .n2 .kk) .jj) [] rfl,⟨er0 (.e .n1 (.S .n1 .n0)) [] rfl,er0 (.e .n0 .jw) [] rfl⟩⟩)))))
  ·rcases gf (a:=w) (b:=2) with r | r
   ·exact O (R_3 (by exact YD q) (by exact er1 (.l .kk .n4) [.l .a .n2] rfl r)) (O (G_2 q (by exact er1 (.l .a .n3) [.l .a .n2] rfl r)) (O (G_2 (by exact yk h0) (by exact er1 (.l .kk .n3) [.l .a .n2] rfl r)) (O (B_0 r) (O (B_1 (by exact YD q) (by exact er1 (.l .kk .n3) [.l .a .n2] rfl r)) (O (R_2 q r) ⟨er0 (.e .n0 .jw) [] rfl,⟨er0 (.e .n1 (.S .n1 .n0)) [] rfl,er1 (.e (.S .kk .n2) (.S .n1 .ji)) [] rfl⟩⟩)))))
   ·rcases gf (a:=w) (b:=3) with t | t
    ·exact O (R_3 (by exact YD q) (by exact er1 (.l .kk .n4) [.l .a .n3] rfl t)) (O (G_2 q t) (O (G_3 (by exact YE r) (by exact er1 (.l .kk .n4) [.l .a .n3] rfl t)) (O (B_1 r t) (O (B_2 (by exact YE r) (by exact er1 (.l .kk .n5) [.l .a .n3] rfl t)) (O (R_3 r (by exact er1 (.l .a .n4) [.l .a .n3] rfl t)) ⟨er0 (.e .n0 .jw) [] rfl,⟨er1 (.e (.S .n4 .kk) (.S .n1 .kr)) [] rfl,er0 (.e .n1 (.S .n1 .n0)) [] rfl⟩⟩)))))
    ·rcases gf (a:=w) (b:=4) with v | v
     ·exact O (R_4 (by exact YF t) (by exact er1 (.l .kk .n5) [.l .a .n4] rfl v)) (O (G_3 t v) (O (G_4 (by exact YF t)) (O (B_2 t (by exact ar c)) (O (B_2 (by exact YE r) (by exact er1 (.l .kk .n5) [.l .a .n4] rfl v)) (O (R_3 r v) ⟨er1 (.e (.S .kk .n4) (.S .n1 .jd)) [] rfl,⟨er0 (.e .n0 .jw) [] rfl,er0 (.e .n1 (.S .n1 .n0)) [] rfl⟩⟩)))))
     ·exact O (R_5 (by exact er1 (.l .n5 .kk) [.l .n4 .a] rfl v)) (O (G_4 v) (O (G_4 (by exact YF t)) (O (B_2 t (by exact ar c)) (O (B_3 (by exact er1 (.l .n5 .kk) [.l .n4 .a] rfl v) (by exact er1 (.l .kk .n6) [.t .a .n5] rfl c)) (O (R_4 v (by exact ar c)) ⟨er0 (.e .n1 (.S .n1 .n0)) [] rfl,⟨er0 (.e .n0 .jw) [] rfl,er1 (.e (.S .n6 .kk) (.S .n1 .jA)) [] rfl⟩⟩)))))
 ·rw[if_neg c] at h;subst h;exact O (R_1 (by exact er1 (.l (.S .a .n5) .n1) [.t .a .n6] rfl h1)) (O (G_4 (by exact er1 (.l .n4 .a) [.l .n5 .a] rfl (mf.mp c))) (O (G_1 (by exact er1 (.l .n0 (.S .a .n5)) [.l .n5 .a] rfl (mf.mp c)) (by exact er1 (.l (.S .a .n5) .n1) [.t .a .n6] rfl h1)) (O (B_3 (by exact(mf.mp c)) (by exact ar h1)) (O (B_0 (by exact er1 (.l (.S .a .n5) .n2) [.t .a .n6] rfl h1)) (O (R_5 (by exact(mf.mp c))) ⟨er0 (.e .n1 (.S .n1 .n0)) [] rfl,⟨er1 (.e (.S .a .n5) (.S .n1 .k8)) [] rfl,er0 (.e .n0 .jw) [] rfl⟩⟩)))))
theorem eY{a b:Int}(h:(a:Rat)<(b:Rat)):a<b:=bg.mp h
theorem nn3{a b e:Rat}(h0:0<=a) (h1:a<=e) (h2:0<=b) (h3:b<=e):a-e<=b/\b<=a+e:=by exact⟨er3 (.l .ka .c) [.l .a .b,.l .n0 .c] rfl h1 h2,er3 (.l .a .kH) [.l .n0 .b,.l .a .c] rfl h0 h3⟩
theorem E4{a b e:Rat}(h:a=b) (e0:0<=e):a-e<=b/\b<=a+e:=by exact⟨er3 (.l .ka .c) [.e .a .c,.l .n0 .b] rfl h e0,er3 (.l .a .kH) [.e .a .b,.l .n0 .c] rfl h.symm e0⟩
theorem AI (u0:0<=u) (u1:u<=e) (w0:6-e<=w) (w1:w<=6) (e0:0<=e) (e1:e<=1/8):dN u=dN w/\(bQ u=u/\bQ w=0)/\(fI u=0/\fI w=6-w) :=
 (cS ((R_1 (er2 (.l .a .n1) [.l .a .b,.l .b .kB] rfl u1 e1)).trans (R_5 (Yx w0 e1)).symm) ⟨G_1 u0 (er2 (.l .a .n1) [.l .a .b,.l .b .kB] rfl u1 e1),G_4 (er2 (.l .n4 .a) [.l (.S .n6 .b) .a,.l .b .kB] rfl w0 e1)⟩ (B_0 (er2 (.l .a .n2) [.l .a .b,.l .b .kB] rfl u1 e1)) (B_3 (Yx w0 e1) w1))
theorem G7{u w e:Rat}{j:Int}(u0:0<=u) (u1:u<6) (w0:0<=w) (w1:w<6) (e0:0<=e) (e1:e<=1/8) (h0:w-6*(j:Rat)-e<=u) (h1:u<=w-6*(j:Rat)+e) :
  (dN w-e<=dN u/\dN u<=dN w+e)/\(bQ w-e<=bQ u/\bQ u<=bQ w+e)/\(fI w-e<=fI u/\fI u<=fI w+e):=by
 have j0:-2<j:=eY (by push_cast;exact er4 (.T 6 .kV .a) [.t .b .n6,.l .n0 .c,.l .d .kB,.l (.S (.S .c .kg) .d) .b] rfl u1 w0 e1 h0);have j1:j<2:=eY (by push_cast;exact er4 (.T 6 .a .n2) [.l .n0 .b,.t .c .n6,.l .d .kB,.l .b (.A (.S .c .kg) .d)] rfl u0 w1 e1 h1);have:j=-1\/j=0\/j=1:=by grind
 rcases this with rfl | rfl | rfl
 ·push_cast at h0 h1;obtain⟨a,⟨b1,b2⟩,c1,c2⟩:=AI w0 (show w<=e by exact Yg u1 h0) (show 6-e<=u by exact er3 (.l .k8 .b) [.l .n0 .c,.l (.S (.S .c .jr) .a) .b] rfl w0 h0) (ar u1) e0 e1;exact O a (O b1 (O b2 (O c1 (O c2 (iaa (E4 rfl e0) (nn3 w0 (Yg u1 h0) (eh) e0) (nn3 (eh) e0 (er1 (.l .n0 .k8) [.t .a .n6] rfl u1) (er3 (.l .k8 .b) [.l .n0 .c,.l (.S (.S .c .jr) .b) .a] rfl w0 h0)))))))
 ·push_cast at h0 h1;exact(iaa (MX (er3 (.l .ka .c) [.l (.S (.S .a .kJ) .b) .c] rfl h0) (er3 (.l .a .kH) [.l .a (.A (.S .b .kJ) .c)] rfl h1)) (j5 (er3 (.l .ka .c) [.l (.S (.S .a .kJ) .b) .c] rfl h0) (er3 (.l .a .kH) [.l .a (.A (.S .b .kJ) .c)] rfl h1)) (MW (by grind) (by grind)))
 ·push_cast at h0 h1;obtain⟨a,⟨b1,b2⟩,c1,c2⟩:=AI u0 (show u<=e by exact Yh w1 h1) (show 6-e<=w by exact er3 (.l .k8 .b) [.l .n0 .c,.l .c (.A (.S .b .js) .a)] rfl u0 h1) (ar w1) e0 e1;exact O a (O b1 (O b2 (O c1 (O c2 (iaa (E4 rfl e0) (nn3 (by grind) e0 u0 (Yh w1 h1)) (nn3 (er1 (.l .n0 .k8) [.t .a .n6] rfl w1) (er3 (.l .k8 .b) [.l .n0 .c,.l .c (.A (.S .a .js) .b)] rfl u0 h1) (by grind) e0))))))
theorem wid{a b e:Rat}(e0:0<=e) (h:a-e<=b/\b<=a+e):a-2*e<=b/\b<=a+2*e:=by exact⟨er3 (.l (.S .a (.M .n2 .b)) .c) [.l .n0 .b,.l .ka .c] rfl e0 h.1,er3 (.l .a (.A .b (.M .n2 .c))) [.l .n0 .c,.l .a .kH] rfl e0 h.2⟩
theorem RE{u w:Rat}{j:Int}{e:Rat}(u0:0<=u) (u1:u<6) (w0:-e<=w) (w1:w<=6+e) (e0:0<=e) (e1:e<=1/8) (h0:u+2-6*(j:Rat)-e<=w) (h1:w<=u+2-6*(j:Rat)+e):dN u-2*e<=bQ w/\bQ w<=dN u+2*e:=by
 have j0:-1<j:=eY (by push_cast;exact er4 (.T 6 .kn .a) [.l .n0 .b,.l .c (.A .n6 .d),.L 2 .d .kB,.l (.S (.S (.A .b .n2) .kg) .d) .c] rfl u0 w1 e1 h0);have j1:j<2:=eY (by push_cast;exact er4 (.T 6 .a .n2) [.t .b .n6,.l (.G .c) .d,.L 2 .c .kB,.l .d (.A (.S (.A .b .n2) .kg) .c)] rfl u1 w0 e1 h1);have:j=0\/j=1:=by grind
 rcases this with rfl | rfl
 ·push_cast at h0 h1;rcases gf (a:=u) (b:=4) with q | q
  ·exact O (R_G q u0) (wid e0 (j5 (er3 (.l (.S .kQ .b) .c) [.l (.S (.S .kQ .kJ) .b) .c] rfl h0) (er3 (.l .a (.A (.A .b .n2) .c)) [.l .a (.A (.S (.A .b .n2) .kJ) .c)] rfl h1)))
  ·exact O (R_4 q (by exact er3 (.l .a .n5) [.l .b (.A .n6 .c),.L 2 .c .kB,.l (.S (.S .kQ .kJ) .c) .b] rfl w1 e1 h0)) (O (G_4 (by exact er3 (.l .n4 .a) [.l .b .kB,.l (.S (.S (.A .c .n2) .kJ) .b) .a,.l .n4 .c] rfl e1 h0 q)) ⟨er3 (.l (.S .jA (.M .n2 .b)) .n0) [.l .c (.A .n6 .b),.l (.S (.S .kQ .kJ) .b) .c] rfl w1 h0,er2 (.l .n0 (.A .jA (.M .n2 .b))) [.L 2 .n0 .b,.l .n4 .a] rfl e0 q⟩)
 ·push_cast at h0 h1;rcases gf (a:=u) (b:=4) with q | q
  ·refine O (R_3 (by exact er3 (.l .n2 .a) [.l (.G .b) .c,.L 2 .b .kB,.l .c (.A (.S .kQ .js) .b)] rfl w0 e1 h1) q) ?_;have:=j5 (u:=0) (w:=w) (e:=e) (er2 (.l (.S .n0 .a) .b) [.l .k0 .b] rfl w0) (er3 (.l .a (.A .n0 .b)) [.l .a (.A (.S (.A .c .n2) .js) .b),.l .c .n4] rfl h1 q);rw[G_0 (eh)] at this;exact⟨er2 (.l (.S .n0 .jO) .b) [.l .n0 .a,.l (.S .n0 .a) .b] rfl e0 this.1,er2 (.l .a (.A .n0 (.M .n2 .b))) [.l .n0 .b,.l .a (.A .n0 .b)] rfl e0 this.2⟩
  ·exact O (R_G' q (ar u1)) (wid e0 (j5 (er3 (.l (.S .jA .b) .c) [.l (.S (.S .kQ .js) .b) .c] rfl h0) (er3 (.l .a (.A (.S .b .n4) .c)) [.l .a (.A (.S (.A .b .n2) .js) .c)] rfl h1)))
theorem MZ{u w:Rat}{j:Int}{e:Rat}(u0:0<=u) (u1:u<6) (w0:-e<=w) (w1:w<=6+e) (e0:0<=e) (e1:e<=1/8) (h0:u-2-6*(j:Rat)-e<=w) (h1:w<=u-2-6*(j:Rat)+e):fI u-2*e<=bQ w/\bQ w<=fI u+2*e:=by
 have j0:-2<j:=eY (by push_cast;exact er4 (.T 6 .kV .a) [.l .n0 .b,.l .c (.A .n6 .d),.L 2 .d .kB,.l (.S (.S (.S .b .n2) .kg) .d) .c] rfl u0 w1 e1 h0);have j1:j<1:=eY (by push_cast;exact er4 (.T 6 .a .n1) [.t .b .n6,.l (.G .c) .d,.L 2 .c .kB,.l .d (.A (.S (.S .b .n2) .kg) .c)] rfl u1 w0 e1 h1);have:j=-1\/j=0:=by grind
 refine O (B_G ..) ?_;rcases this with rfl | rfl
 ·push_cast at h0 h1;have p:0<=bQ w/\bQ w<=2*e:=by
   rcases gf (a:=w) (b:=4) with q | q
   ·exact O (G_3 (by exact er3 (.l .n3 .a) [.l .n0 .b,.l .c .kB,.l (.S (.S (.S .b .n2) .jr) .c) .a] rfl u0 e1 h0) q) ⟨er1 (.l .n0 .jd) [.l .a .n4] rfl q,er3 (.l .jd (.M .n2 .b)) [.l .n0 .c,.l .n0 .b,.l (.S (.S (.S .c .n2) .jr) .b) .a] rfl u0 e0 h0⟩
   ·exact O (G_4 q) ⟨eh,er1 (.l .n0 .jO) [.L 2 .n0 .a] rfl e0⟩
  rcases gf (a:=u) (b:=2) with q | q
  ·exact O (G_0 (by exact YB q)) (nn3 (by exact eh) (by exact er1 (.l .n0 .jO) [.L 2 .n0 .a] rfl e0) p.1 p.2)
  ·exact O (G_1 (by exact yy q) (by exact er3 (.l .kr .n1) [.l .b (.A .n6 .c),.L 2 .c .kB,.l (.S (.S .kr .jr) .c) .b] rfl w1 e1 h0)) (nn3 (by exact yy q) (by exact er3 (.l .kr (.M .n2 .b)) [.l .c (.A .n6 .b),.l (.S (.S .kr .jr) .b) .c] rfl w1 h0) p.1 p.2)
 ·push_cast at h0 h1;exact wid e0 (j5 (er3 (.l (.S .kr .b) .c) [.l (.S (.S .kr .kJ) .b) .c] rfl h0) (er3 (.l .a (.A (.S .b .n2) .c)) [.l .a (.A (.S (.S .b .n2) .kJ) .c)] rfl h1))
theorem G8 (e0:0<=e) (h0:u-e<=w) (h1:w<=u+e):bQ u-e<=bQ w/\bQ w<=bQ u+e:=j5 h0 h1
theorem UQ (φ:Rat) (h0:0<=φ) (h1:φ<=1) :
  (dN (φ+(0:Int))=1/\bQ (φ+(0:Int))=φ/\fI (φ+(0:Int))=0) /\
  (dN (φ+(1:Int))=1-φ/\bQ (φ+(1:Int))=1/\fI (φ+(1:Int))=0) /\
  (dN (φ+(2:Int))=0/\bQ (φ+(2:Int))=1/\fI (φ+(2:Int))=φ) /\
  (dN (φ+(3:Int))=0/\bQ (φ+(3:Int))=1-φ/\fI (φ+(3:Int))=1) /\
  (dN (φ+(4:Int))=φ/\bQ (φ+(4:Int))=0/\fI (φ+(4:Int))=1) /\
  (dN (φ+(5:Int))=1/\bQ (φ+(5:Int))=0/\fI (φ+(5:Int))=1-φ):=by
 push_cast;refine(gF (iaa (R_1 (er1 (.l (.A .a .n0) .n1) [.l .a .n1] rfl h1)) ((G_1 (er1 (.l .n0 (.A .a .n0)) [.l .n0 .a] rfl h0) (er1 (.l (.A .a .n0) .n1) [.l .a .n1] rfl h1)).trans (er1 (.e (.A .a .n0) .a) [] rfl)) (B_0 (er1 (.l (.A .a .n0) .n2) [.l .a .n1] rfl h1))) (iaa ((R_2 (yk h0) (yz h1)).trans (er1 (.e (.S .n2 .kk) .jj) [] rfl)) (G_2 (yk h0) (er1 (.l .kk .n3) [.l .a .n1] rfl h1)) (B_0 (yz h1))) (iaa (R_3 (er1 (.l .n2 .kQ) [.l .n0 .a] rfl h0) (er1 (.l .kQ .n4) [.l .a .n1] rfl h1)) (G_2 (er1 (.l .n1 .kQ) [.l .n0 .a] rfl h0) (YC h1)) ((B_1 (er1 (.l .n2 .kQ) [.l .n0 .a] rfl h0) (YC h1)).trans (er1 (.e (.S .kQ .n2) .a) [] rfl))) (iaa (R_3 (er1 (.l .n2 (.A .a .n3)) [.l .n0 .a] rfl h0) (er1 (.l (.A .a .n3) .n4) [.l .a .n1] rfl h1)) ((G_3 (er1 (.l .n3 (.A .a .n3)) [.l .n0 .a] rfl h0) (er1 (.l (.A .a .n3) .n4) [.l .a .n1] rfl h1)).trans (er1 (.e (.S .n4 (.A .a .n3)) .jj) [] rfl)) (B_2 (er1 (.l .n3 (.A .a .n3)) [.l .n0 .a] rfl h0) (er1 (.l (.A .a .n3) .n5) [.l .a .n1] rfl h1))) ⟨(iaa ((R_4 (er1 (.l .n4 (.A .a .n4)) [.l .n0 .a] rfl h0) (er1 (.l (.A .a .n4) .n5) [.l .a .n1] rfl h1)).trans (er1 (.e (.S (.A .a .n4) .n4) .a) [] rfl)) (G_4 (er1 (.l .n4 (.A .a .n4)) [.l .n0 .a] rfl h0)) (B_2 (er1 (.l .n3 (.A .a .n4)) [.l .n0 .a] rfl h0) (er1 (.l (.A .a .n4) .n5) [.l .a .n1] rfl h1))),(iaa (R_5 (er1 (.l .n5 (.A .a .n5)) [.l .n0 .a] rfl h0)) (G_4 (er1 (.l .n4 (.A .a .n5)) [.l .n0 .a] rfl h0)) ((B_3 (er1 (.l .n5 (.A .a .n5)) [.l .n0 .a] rfl h0) (er1 (.l (.A .a .n5) .n6) [.l .a .n1] rfl h1)).trans (er1 (.e (.S .n6 (.A .a .n5)) .jj) [] rfl)))⟩)
theorem fR{v x e:Rat}(h0:0<=v) (h1:v<=1) (h2:-e<=x) (h3:x<=e):-e<=v*x/\v*x<=e:=by
 have he:0<=e:=by exact er2 (.L 2 .n0 .a) [.l .k0 .b,.l .b .a] rfl h2 h3
 have a:=em h0 (show 0<=e-x by exact Ya h3);have b:=em h0 (show 0<=e+x by exact er2 (.l .n0 .kb) [.l .k0 .b] rfl h2);have c:=em (show 0<=1-v by exact er1 (.l .n0 .jj) [.l .a .n1] rfl h1) he;constructor <;> grind
theorem nP{v x e:Rat}(h0:-2<=v) (h1:v<=2) (h2:-e<=x) (h3:x<=e):-(2*e)<=v*x/\v*x<=2*e:=by
 have he:0<=e:=by exact er2 (.L 2 .n0 .a) [.l .k0 .b,.l .b .a] rfl h2 h3
 have a:=em (show 0<=2-v by exact er1 (.l .n0 .ji) [.l .a .n2] rfl h1) (show 0<=e-x by exact Ya h3);have b:=em (show 0<=2-v by grind) (show 0<=e+x by exact er2 (.l .n0 .kb) [.l .k0 .b] rfl h2);have c:=em (show 0<=2+v by exact er1 (.l .n0 .jn) [.l .kV .a] rfl h0) (show 0<=e-x by grind);have d:=em (show 0<=2+v by grind) (show 0<=e+x by grind);constructor <;> grind
section
variable{v s f:UInt64}{d φ:Rat}
theorem M0 (fv:FinF v) (fs:FinF s) (ff:FinF f) (v0:0<=R v) (v1:R v<=1) (d0:0<=d) (d1:d<=1) (s0:0<=R s) (s1:R s<=1+1/2 ^ 54)
  (w1:d-1/2 ^ 54<=R v*R s) (w2:R v*R s<=d+1/2 ^ 54) (p0:0<=φ) (p1:φ<=1) (f1:φ-4/2 ^ 54<=R f) (f2:R f<=φ+4/2 ^ 54) :
  FinF (mul v (ab 0x3ff0000000000000 (mul s f)))/\R v-d*φ-32/2 ^ 54<=R (mul v (ab 0x3ff0000000000000 (mul s f))) /\
  R (mul v (ab 0x3ff0000000000000 (mul s f)))<=R v-d*φ+32/2 ^ 54:=by
 refine xa l1 λo1 o2=>?_;have sf:=nP (v:=R s) (x:=R f) (e:=3/2) (er1 (.l .kV .a) [.l .n0 .a] rfl s0) (er1 (.l .a .n2) [.l .a .jl] rfl s1) (er2 (.l (.G .kK) .a) [.l .n0 .b,.l (.S .b .kE) .a] rfl p0 f1) (er2 (.l .a .kK) [.l .b .n1,.l .a (.A .b .kE)] rfl p1 f2);refine aP (jW fs ff (M:=4) ⟨2,by decide,rfl⟩ (by push_cast;exact er2 (.l .jX .kd) [.l (.G (.M .n2 .kK)) .kd] rfl sf.1) (by push_cast;exact er2 (.l .kd .n4) [.l .kd (.M .n2 .kK)] rfl sf.2)) λa1 a2 a3 aT=>?_;clear aT;push_cast at a2 a3;have sf0:-(8/2 ^ 54)<=R s*R f:=by
  have:=nP (v:=R s) (x:=R f-φ) (e:=4/2 ^ 54) (by grind) (by grind) (er2 (.l (.G .kE) .ka) [.l (.S .b .kE) .a] rfl f1) (er2 (.l .ka .kE) [.l .a (.A .b .kE)] rfl f2);have:=em s0 p0;grind
 have sf1:R s*R f<=1+16/2 ^ 54:=by
  have:=nP (v:=R s) (x:=R f-φ) (e:=4/2 ^ 54) (by grind) (by grind) (by grind) (by grind);have:=em s0 (show 0<=1-φ by exact er1 (.l .n0 .jj) [.l .a .n1] rfl p1);grind
 generalize mul s f=p at *;refine aP (gV o1 a1 (M:=2) ⟨1,by decide,rfl⟩ (by refine O o2 ?_;push_cast;exact er3 (.l .kV .jj) [.l .kq (.A .n1 .je),.l .a (.A .kq .kE)] rfl sf1 a3) (by refine O o2 ?_;push_cast;exact er3 (.l .jj .n2) [.l (.G (.E 8)) .kq,.l (.S .kq .kE) .a] rfl sf0 a2)) λb1 b2 b3 aT=>?_;clear aT;rw[o2] at b2 b3;push_cast at b2 b3;generalize ab 0x3ff0000000000000 p=q at *;have vq:=fR v0 v1 (x:=R q) (e:=3/2) (er4 (.l (.G .kK) .a) [.l .kq (.A .n1 .je),.l .d (.A .kq .kE),.l (.S .j4 .kT) .a] rfl sf1 a3 b2) (er4 (.l .a .kK) [.l (.G (.E 8)) .kq,.l (.S .kq .kE) .d,.l .a (.A .j4 .kT)] rfl sf0 a2 b3);refine aP (jW fv b1 (M:=2) ⟨1,by decide,rfl⟩ (by push_cast;exact Yi vq.1) (by push_cast;exact YA vq.2)) λc1 c2 c3 aT=>?_;clear aT;push_cast at c2 c3;generalize mul v q=z at *;have e1:=fR v0 v1 (x:=R q-(1-R s*R f)) (e:=6/2 ^ 54) (er4 (.l (.G (.E 6)) (.S .a (.S .n1 .kq))) [.l .d (.A .kq .kE),.l (.S .j4 .kT) .a] rfl a3 b2) (er4 (.l (.S .a (.S .n1 .kq)) (.E 6)) [.l (.S .kq .kE) .d,.l .a (.A .j4 .kT)] rfl a2 b3);have e2:=nP (v:=R f) (x:=R v*R s-d) (e:=1/2 ^ 54) (er2 (.l .kV .a) [.l .n0 .b,.l (.S .b .kE) .a] rfl p0 f1) (er2 (.l .a .n2) [.l .b .n1,.l .a (.A .b .kE)] rfl p1 f2) (er3 (.l (.G .kl) (.S .kd .c)) [.l .jz .kd] rfl w1) (er3 (.l (.S .kd .c) .kl) [.l .kd (.A .c .kl)] rfl w2);have e3:=fR d0 d1 (x:=R f-φ) (e:=4/2 ^ 54) (by grind) (by grind);exact(iaa c1 (ear [_,_,_,_,_,_,_] (.l (.S (.S .a .kq) .kG) .d) [.l (.S (.M .a .e) .kT) .d,.l (.G (.E 6)) (.M .a (.S .e (.S .n1 (.M .f .g)))),.l (.M .g (.S (.M .a .f) .b)) (.M .n2 .kl),.l (.M .b (.S .g .c)) .kE] rfl c2 e1.1 e2.2 e3.2) (ear [_,_,_,_,_,_,_] (.l .a (.A (.S .b .kD) .kG)) [.l .a (.A (.M .b .e) .kT),.l (.M .b (.S .e (.S .n1 (.M .f .g)))) (.E 6),.l (.G (.M .n2 .kl)) (.M .g (.S (.M .b .f) .c)),.l (.G .kE) (.M .c (.S .g .d))] rfl c3 e1.2 e2.1 e3.1))
theorem UR (fv:FinF v) (fs:FinF s) (v0:0<=R v) (v1:R v<=1) (d0:0<=d) (d1:d<=1) (s0:0<=R s) (s1:R s<=1+1/2 ^ 54)
  (w1:d-1/2 ^ 54<=R v*R s) (w2:R v*R s<=d+1/2 ^ 54) :
  FinF (mul v (ab 0x3ff0000000000000 s))/\R v-d-32/2 ^ 54<=R (mul v (ab 0x3ff0000000000000 s)) /\
  R (mul v (ab 0x3ff0000000000000 s))<=R v-d+32/2 ^ 54:=by
 refine xa l1 λo1 o2=>?_;refine aP (gV o1 fs (M:=2) ⟨1,by decide,rfl⟩ (by refine O o2 ?_;push_cast;exact er1 (.l .kV .jj) [.l .a .jl] rfl s1) (by refine O o2 ?_;push_cast;exact er1 (.l .jj .n2) [.l .n0 .a] rfl s0)) λb1 b2 b3 aT=>?_;clear aT;rw[o2] at b2 b3;push_cast at b2 b3;generalize ab 0x3ff0000000000000 s=q at *;have vq:=fR v0 v1 (x:=R q) (e:=3/2) (er2 (.l (.G .kK) .a) [.l .b .jl,.l (.S .j5 .kT) .a] rfl s1 b2) (er2 (.l .a .kK) [.l .n0 .b,.l .a (.A .j5 .kT)] rfl s0 b3);refine aP (jW fv b1 (M:=2) ⟨1,by decide,rfl⟩ (by push_cast;exact Yi vq.1) (by push_cast;exact YA vq.2)) λc1 c2 c3 aT=>?_;clear aT;push_cast at c2 c3;generalize mul v q=z at *;have e1:=fR v0 v1 (x:=R q-(1-R s)) (e:=2/2 ^ 54) (er2 (.l (.G .kT) (.S .a .j5)) [.l (.S .j5 .kT) .a] rfl b2) (er2 (.l (.S .a .j5) .kT) [.l .a (.A .j5 .kT)] rfl b3);exact(iaa c1 (er5 (.l (.S .ka .kG) .c) [.l (.M .a .d) .jh,.l (.S (.M .a .e) .kT) .c,.l (.G .kT) (.M .a (.S .e .j4))] rfl w2 c2 e1.1) (er5 (.l .a (.A .kx .kG)) [.l .jz .jG,.l .a (.A (.M .b .e) .kT),.l (.M .b (.S .e .j4)) .kT] rfl w1 c3 e1.2))
end
def Nr (x:UInt64) (q e:Rat):Prop:=FinF x/\q-e<=R x/\R x<=q+e
theorem Nr.self (h:FinF x) (he:0<=e):Nr x (R x) e:=(iaa h (er2 (.l .ka .a) [.l .n0 .b] rfl he) (er2 (.l .a .kb) [.l .n0 .b] rfl he))
def Hats (l:List PV) (N d u e:Rat):Prop:=∃x y z:UInt64,l=[.flt x,.flt y,.flt z]/\Nr x (N+d*dN u) e/\Nr y (N+d*bQ u) e/\Nr z (N+d*fI u) e
theorem RF (hx:qp x=.fin a m e) (h:0<=R x):((mq a m e:Int):Rat)<=R x/\R x<((mq a m e:Int):Rat)+1/\0<=mq a m e:=by
 have kp:=Kq_pos;have hv:=mj hx;have he:=Bn hx;have Nh:=R_nonneg_iff.mp h;have hs:mq a m e=xf false m e:=by
  cases a
  ·rfl
  ·have hm:m=0:=by
    rw[hv] at Nh
    delta rk at Nh
    simp only[if_true] at Nh;have:m*2 ^ (e+1074).toNat=0:=by exact az (en2 (.x .jb .n0) [.l .n0 (.G (.C .jb))] rfl Nh) (iq _)
    rcases Dh.mp this with h | h
    ·exact h
    ·exact absurd h (cj (gq _))
   subst hm
   delta mq Float64.ceilOf xf rk
   simp
 have Y8:val x=((m*2 ^ (e+1074).toNat:Nat):Int):=by
  have:=qg hx;exact ca (eam [_] [_,_,_] (.l .a (.C .jb)) [.z1 .s .jb,.e .a .s] rfl this (an (eaz [_] (.l .n0 .a) [.l .n0 .a] rfl Nh)).symm) (eam [_] [_,_,_] (.l (.C .jb) .a) [.z1 .jb .s,.e .s .a] rfl this.symm (an (eaz [_] (.l .n0 .a) [.l .n0 .a] rfl Nh)))
 refine O hs ?_
 delta xf rk
 simp only[aw,if_false]
 by_cases h0:e>=0
 ·refine O (if_pos h0) ?_;have:val x=((m:Int)*2 ^ e.toNat)*(K:Int):=by
   refine O Y8 ?_;have e1:(e+1074).toNat=e.toNat+1074:=(qi h0).elim λn hn=>by refine O hn ?_;rfl
   rw[e1,om,K_eq];push_cast;rw[Es]
  have hr:R x=(((m:Int)*2 ^ e.toNat:Int):Rat):=by
   refine eQ kp ?_;refine XO (R_val ..) (O this ?_);push_cast;rfl
  refine O hr (iaa eh (er1 (.t .a .kk) [] rfl) ?_);exact Int.mul_nonneg (en1 (.l .n0 .q) [] rfl) (Ef (by decide))
 ·refine O (if_neg h0) ?_;have hK:((2 ^ (-e).toNat:Nat):Int)*((2 ^ (e+1074).toNat:Nat):Int)=(K:Int):=by
   refine XO (sa ..) (XO (om ..) ?_);have:(-e).toNat+(e+1074).toNat=1074:=(uk (dd (oj.mp h0))).elim λk hk=>(uk he).elim λl hl=>by
    exact O (show -e=(k:Int) by exact eam [_] [_] (.e .k0 .q) [.e .n0 (.A .a .q)] rfl hk.symm) (O (show e+1074=(l:Int) by exact eam [_] [_] (.e (.A .a .jq) .q) [.e .a (.A (.G .jq) .q)] rfl hl.symm) (uq (show((k+l:Nat):Int)=1074 by exact eam [_] [_,_] (.e (.C .ko) .jq) [.e (.A .a .q) .n0,.e (.A (.G .jq) .r) .a] rfl hk hl)))
   exact O this (O K_eq rfl)
  have hq:(m:Int).fdiv (2 ^ (-e).toNat)=((m/2 ^ (-e).toNat:Nat):Int):=by
   refine O (tf _ (Ef (by decide))) ?_;push_cast;rfl
  refine O hq ?_;have Ww:=ry m (2 ^ (-e).toNat);have Im:=tm m (gq (-e).toNat);generalize m/2 ^ (-e).toNat=q at *;generalize m%2 ^ (-e).toNat=r at *;generalize hA:2 ^ (-e).toNat=A at *;generalize hB:2 ^ (e+1074).toNat=B at *;have hBp:(0:Rat)<(B:Rat):=by
   have:0<B:=by exact XO hB (gq _)
   exact_mod_cast this
  have Y9:(0:Rat)<(A:Rat):=by
   have:0<A:=by exact XO hA (gq _)
   exact_mod_cast this
  have hKR:(A:Rat)*(B:Rat)=(K:Rat):=by exact_mod_cast congrArg (λz:Int=>(z:Rat)) hK
  have h1:R x*(A:Rat)=(m:Rat):=by
   refine eQ hBp ?_;have:R x*(A:Rat)*(B:Rat)=R x*(K:Rat):=by rw[<- hKR];exact er3 (.e .jN (.M .a .kq)) [] rfl
   refine O this (XO (R_val ..) (O Y8 ?_));push_cast;rfl
  have h2:(m:Rat)=(A:Rat)*(q:Rat)+(r:Rat):=by exact_mod_cast congrArg (λz:Nat=>(z:Rat)) Ww.symm
  have h3:(r:Rat)<(A:Rat):=by exact_mod_cast Im
  have h4:(0:Rat)<=(r:Rat):=by exact_mod_cast iq r
  refine(iaa (cV Y9 ?_) (ec (c:=(A:Rat)) ?_ (ar Y9)) (Ai _))
  ·push_cast;exact O h1 (O h2 (er3 (.l .kd (.A (.M .b .a) .c)) [.l .n0 .c] rfl h4))
  ·push_cast;exact O h1 (O h2 (er3 (.t (.A .kd .c) (.M .k7 .a)) [.t .c .a] rfl h3))
theorem M1 (hx:FinF x) (h:0<=R x):∃n:Int,0<=n/\biF .int [.flt x]=some (.int n)/\(n:Rat)<=R x/\R x<(n:Rat)+1:=by
 refine gB hx λa m e hd=>?_;clear hx;refine xaa (RF hd h) λh1 h2 h3=>?_;refine(fK _ h3 ?_ h1 h2);show rT x=_
 delta rT
 exact O hd rfl
theorem US (hx:FinF x) (n:Int) (h0:0<=n) (h1:(n:Rat)<=R x) (h2:R x<(n:Rat)+1):biF .int [.flt x]=some (.int n):=by
 have hn:((0:Int):Rat)<=(n:Rat):=al.mpr h0;refine bV (M1 hx (by have:((0:Int):Rat)=0:=rfl;exact er3 (.l .n0 .a) [.l .b .a,.l .c .b,.e .n0 .c] rfl h1 hn this.symm)) λk k0 k1 k2 k3=>?_;have a:k<n+1:=by
  have:(k:Rat)<((n+1:Int):Rat):=by push_cast;exact er3 (.t .a .k7) [.t .c .k7,.l .a .c] rfl h2 k2
  exact bg.mp this
 have b:n<k+1:=by
  have:(n:Rat)<((k+1:Int):Rat):=by push_cast;exact er3 (.t .a .k7) [.l .a .c,.t .c .k7] rfl h1 k3
  exact bg.mp this
 exact O k1 (O (show k=n by exact ca (ez2 (.l .a .b) [.t .a .k7] rfl a) (ez2 (.l .a .b) [.t .a .k7] rfl b)) rfl)
theorem qE (hx:FinF x) (hy:FinF y) (h0:0<=R x) (h1:0<=R y) (hf:FinF (mul x y)):0<=R (mul x y):=by
 refine gB hx λa m e hx=>?_;refine gB hy λb k f hy=>?_;have hr:=Bl hx hy;rw[R_nonneg_iff] at h0 h1 ⊢
 by_cases Pz:(a != b)=false
 ·rw[Pz] at hr;exact oF hr hf
 ·-- one of them is nought
  have s1:=kN hx;have s2:=kN hy;have hz:(val x).natAbs*(val y).natAbs=0:=by
   unfold rk at s1 s2;cases a <;> cases b
   ·exact absurd rfl Pz
   ·simp only[if_true] at s2;have:(val y).natAbs=0:=by exact eam [_] [_] (.Z 2 .q .n0) [.e .a (.G .q),.e .q .a] rfl s2.symm (an (eaz [_] (.l .n0 .a) [.l .n0 .a] rfl h1))
    exact O this (O (Ft ..) rfl)
   ·simp only[if_true] at s1;have:(val x).natAbs=0:=by grind
    exact O this (O (Ao ..) rfl)
   ·exact absurd rfl Pz
  rw[hz] at hr;refine xaa (jU (j:=0) hr K_pos (by decide) (iq _)) λaT Ik h3=>?_;clear aT;clear Ik;have:=h3 0 0 (by decide) (by decide) (by simp);have h4:rk (a != b) 0=0:=by delta rk;simp
  rw[h4] at this;rcases Int.mul_eq_zero.mp this with h | h
  ·exact eaz [_] (.L 202402253307310618352495346718917307049556649764142118356901358027430339567995346891960383701437124495187077864316811911389808737385793476867013399940738509921517424276566361364466907742093216341239767678472745068562007483424692698618103355649159556340810056512358769552333414615230502532186327508646006263307707741093494784 .n0 .a) [.e .n0 (.M .a (.C (.P .n2 1074)))] (by kernel_rfl) this.symm
  ·exact absurd h (ew (Bq.mpr K_pos))
theorem UT (fh:FinF h) (fv:FinF v) (fs:FinF s) (h0:0<=R h) (h1:R h<=100) (v0:0<=R v) (v1:R v<=1) (d0:0<d) (d1:d<=1) (s0:0<R s) (s1:R s<=1+1/2 ^ 54)
  (w1:d-1/2 ^ 54<=R v*R s) (w2:R v*R s<=d+1/2 ^ 54) :
  ∃l,dJ F Co.bA [.flt h,.flt s,.flt v]=some (.tup l)/\∃(u:Rat) (m:Int),0<=u/\u<6/\Hats l (R v-d) d u (32/2 ^ 54)/\6*R h-6*m-1024/2 ^ 54<=u/\u<=6*R h-6*m+1024/2 ^ 54:=by
 refine xa l6 λo1 o2=>?_;refine aP (jW fh o1 (M:=1024) ⟨10,by decide,rfl⟩ (by refine O o2 ?_;push_cast;exact er1 (.l (.G (.N 1024)) (.M .a .n6)) [.L 6 .n0 .a] rfl h0) (by refine O o2 ?_;push_cast;exact er1 (.l (.M .a .n6) (.N 1024)) [.L 6 .a .jt] rfl h1)) λa1 a2 a3 aT=>?_;clear aT;rw[o2] at a2 a3;push_cast at a2 a3;have hH:0<=R (mul h 0x4018000000000000):=qE fh o1 h0 (by exact O o2 (er0 (.l .n0 .n6) [] rfl)) a1;refine bV (M1 a1 hH) λi Tn hi Ss Uk=>?_;have YP:i<=1000:=by
  have:(i:Rat)<=((1000:Int):Rat):=by push_cast;exact er3 (.l .a .kj) [.L 6 .b .jt,.l .c (.A (.M .b .n6) .kZ),.l .a .c] rfl h1 a3 Ss
  exact al.mp this
 refine xa (qX (i:=i) (eam [_] [_] (.x .q .ki) [.l .a .kj,.e .q .a] rfl YP (an (eaz [_] (.l .n0 .a) [.l .n0 .a] rfl Tn)))) λf1 f2=>?_;have ho:okF i=true:=by
  delta okF
  refine gB f1 λa m e hd=>?_;clear f1
  delta pq
  refine O hd ?_;rfl
 have hs:eqB s 0=false:=by
  delta eqB
  refine O (lK fs l0.1) (O l0.2 ?_);split
  ·rfl
  ·refine O (if_neg ((Fu (s0)).symm)) ?_;rfl
 refine(iea _ (RB hs hi ho) ?_);refine aP (gV a1 f1 (M:=1) ⟨0,by decide,rfl⟩ (by refine O f2 ?_;push_cast;exact er2 (.l .kn .ka) [.l .b .a] rfl Ss) (by refine O f2 ?_;push_cast;exact er2 (.l .ka .n1) [.t .a .k7] rfl Uk)) λg1 g2 g3 aT=>?_;clear aT;rw[f2] at g2 g3;push_cast at g2 g3;generalize mul h 0x4018000000000000=H at *;generalize ab H (cr i)=f at *;refine xa l1 λt1 t2=>?_;refine aP (gV t1 g1 (M:=2) ⟨1,by decide,rfl⟩ (by refine O t2 ?_;push_cast;exact er3 (.l .kV .jj) [.t .b (.A .c .n1),.l .a .jS] rfl Uk g3) (by refine O t2 ?_;push_cast;exact er3 (.l .jj .n2) [.l .b .c,.l (.S (.S .c .b) .kl) .a] rfl Ss g2)) λk1 k2 k3 aT=>?_;clear aT;rw[t2] at k2 k3;push_cast at k2 k3;have cq:=M0 (φ:=R H-i) (d:=d) fv fs g1 v0 v1 (ar d0) d1 (ar s0) s1 w1 w2 (Ya Ss) (er2 (.l .ka .n1) [.t .a .k7] rfl Uk) (er3 (.l (.S .ka .kE) .c) [.l (.S .ka .kl) .c] rfl g2) (er3 (.l .a (.A .kx .kE)) [.l .a .jS] rfl g3);have cp:=UR (d:=d) fv fs v0 v1 (by grind) d1 (by grind) s1 w1 w2;have ct:Nr (mul v (ab 0x3ff0000000000000 (mul s (ab 0x3ff0000000000000 f)))) (R v-d*(1-(R H-i))) (32/2 ^ 54) :=
  M0 (φ:=1-(R H-i)) (d:=d) fv fs k1 v0 v1 (by grind) d1 (by grind) s1 w1 w2 (er2 (.l .n0 (.S .n1 .ka)) [.t .a .k7] rfl Uk) (er2 (.l (.S .n1 .ka) .n1) [.l .b .a] rfl Ss) (er4 (.l (.S (.S .n1 .ka) .kE) .c) [.l .d (.A .ka .kl),.l (.S .j4 .kT) .c] rfl g3 k2) (er4 (.l .a (.A (.S .n1 .kx) .kE)) [.l (.S .kx .kl) .d,.l .a (.A .j4 .kT)] rfl g2 k3)
 generalize mul v (ab 0x3ff0000000000000 (mul s (ab 0x3ff0000000000000 f)))=T at *;generalize mul v (ab 0x3ff0000000000000 (mul s f))=Q at *;generalize mul v (ab 0x3ff0000000000000 s)=P at *;have hk:i=6*(i/6)+i%6:=by exact ca (ck (xl _ _).symm) (ck (xl _ _))
 have YQ:(i:Rat)=6*((i/6:Int):Rat)+((i%6:Int):Rat):=by exact_mod_cast congrArg (λz:Int=>(z:Rat)) hk
 refine(iee (R H-6*((i/6:Int):Rat)) (i/6) ?_);have Uj:i%6=0\/i%6=1\/i%6=2\/i%6=3\/i%6=4\/i%6=5:=by grind
 generalize i/6=j at *;generalize i%6=k at *;clear hk hi ho Tn YP f1 f2 hs g1 g2 g3 k1 k2 k3 a1 w1 w2 s0 s1 fs fh;generalize R H=U at *;refine(gF (by rcases Uj with e | e | e | e | e | e <;> (subst e;push_cast at *;grind)) (by rcases Uj with e | e | e | e | e | e <;> (subst e;push_cast at *;grind)) ?_ (er3 (.l (.S (.S .kg .kA) .kZ) (.S .c .kA)) [.l (.S (.M .a .n6) .kZ) .c] rfl a2) (er3 (.l (.S .a .kA) (.A (.S .kX .kA) .kZ)) [.l .a (.A (.M .c .n6) .kZ)] rfl a3));have hφ0:0<=U-(i:Rat):=by exact Ya Ss
 have hφ1:U-(i:Rat)<1:=by exact er2 (.t .ka .n1) [.t .a .k7] rfl Uk
 generalize hφ:U-(i:Rat)=φ at *;have hu:U-6*(j:Rat)=φ+(k:Rat):=by exact lu (er5 (.l (.S .a .kA) .jv) [.e .e (.A .kA .d),.e (.S .a .e) .c] rfl YQ hφ) (er5 (.l .kb (.S .c .ju)) [.e (.A .ju .b) .e,.e .a (.S .c .e)] rfl YQ.symm hφ.symm)
 refine O hu ?_;have e0:(0:Rat)<=32/2 ^ 54:=by exact er0 (.l .n0 .kG) [] rfl
 have hv:=Nr.self fv e0;obtain⟨⟨a1,a2,a3⟩,⟨b1,b2,b3⟩,⟨c1,c2,c3⟩,⟨d1',d2',d3'⟩,⟨e1,e2,e3⟩,⟨g1,g2,g3⟩⟩:=UQ φ hφ0 (ar hφ1);have jJ:∀{x:UInt64}{p q:Rat},Nr x p (32/2 ^ 54)->p=q->Nr x q (32/2 ^ 54):=λh e=>e ▸ h
 delta Hats
 rcases Uj with e | e | e | e | e | e <;> subst e
 ·exact(cD _ _ _ rfl (jJ hv (by exact O a1 (er2 (.e .a (.A .ka (.M .b .n1))) [] rfl))) (jJ ct (by refine O a2 ?_;exact er3 (.e (.S .a (.M .b (.S .n1 .c))) (.A .ka .kq)) [] rfl)) (jJ cp (by exact O a3 (er2 (.e .ka (.A .ka (.M .b .n0))) [] rfl))))
 ·exact(cD _ _ _ rfl (jJ cq (by exact O b1 (er3 (.e (.S .a .kq) (.A .ka (.M .b (.S .n1 .c)))) [] rfl))) (jJ hv (by refine O b2 ?_;grind)) (jJ cp (by refine O b3 ?_;grind)))
 ·exact(cD _ _ _ rfl (jJ cp (by refine O c1 ?_;grind)) (jJ hv (by refine O c2 ?_;grind)) (jJ ct (by refine O c3 ?_;grind)))
 ·exact(cD _ _ _ rfl (jJ cp (by refine O d1' ?_;grind)) (jJ cq (by refine O d2' ?_;grind)) (jJ hv (by refine O d3' ?_;grind)))
 ·exact(cD _ _ _ rfl (jJ ct (by refine O e1 ?_;grind)) (jJ cp (by refine O e2 ?_;grind)) (jJ hv (by refine O e3 ?_;grind)))
 ·exact(cD _ _ _ rfl (jJ hv (by refine O g1 ?_;grind)) (jJ cp (by refine O g2 ?_;grind)) (jJ cq (by refine O g3 ?_;grind)))
theorem M2{x y:UInt64}(hx:FinF x) (hy:FinF y):leB x y=decide (R x<=R y):=by
 delta leB ltB eqB
 refine O (lK hx hy) ?_
 by_cases h:R x<R y
 ·refine O (if_pos h) ?_;have:R x<=R y:=ar h;simp[this]
 ·refine O (if_neg h) ?_
  by_cases h2:R x=R y
  ·refine O (if_pos h2) ?_;have:R x<=R y:=by exact er2 (.l .a .b) [.e .a .b] rfl h2
   simp[this]
  ·refine O (if_neg h2) ?_;have:¬R x<=R y:=by grind
   simp[this]
theorem M3{x y:UInt64}(hx:FinF x) (hy:FinF y):ltB x y=decide (R x<R y):=by
 delta ltB
 refine O (lK hx hy) ?_
 by_cases h:R x<R y
 ·refine O (if_pos h) ?_;simp[h]
 ·refine O (if_neg h) ?_
  by_cases h2:R x=R y
  ·refine O (if_pos h2) ?_;simp[h]
  ·refine O (if_neg h2) ?_;simp[h]
section
variable{S:Nat}{M N:UInt64}{m n:Int}
theorem WB (hS:Sc S) (hM:Gr S M m) (hN:Gr S N n) (h0:0<=n) (h1:n<m) (h2:m<=(S:Int)) (h3:m+n<2*(S:Int)) (Kn:S<=2 ^ 50) :
  (FinF (div (add M N) 0x4000000000000000)/\R (div (add M N) 0x4000000000000000)=(R M+R N)/2) /\
  (R (div (add M N) 0x4000000000000000)<=1/2->bx (add M N)=false) /\
  (bx (ab (ab 0x4000000000000000 M) N)=false) /\
  FinF (qO M N (ab M N) (div (add M N) 0x4000000000000000))/\0<R (qO M N (ab M N) (div (add M N) 0x4000000000000000)) /\
  R (qO M N (ab M N) (div (add M N) 0x4000000000000000))<=1+1/2 ^ 54 /\
  (((R M+R N)/2<=1/2/\(R M-R N)/2-1/2 ^ 54<=(R M+R N)/2*R (qO M N (ab M N) (div (add M N) 0x4000000000000000))/\(R M+R N)/2*R (qO M N (ab M N) (div (add M N) 0x4000000000000000))<=(R M-R N)/2+1/2 ^ 54) \/
   (1/2<(R M+R N)/2/\(R M-R N)/2-1/2 ^ 54<=(1-(R M+R N)/2)*R (qO M N (ab M N) (div (add M N) 0x4000000000000000))/\(1-(R M+R N)/2)*R (qO M N (ab M N) (div (add M N) 0x4000000000000000))<=(R M-R N)/2+1/2 ^ 54)):=by
 have hp:=hS.pos;have Nj:(0:Rat)<(S:Rat):=by exact yb hp
 have hSi:(S:Int)<=2 ^ 50:=by exact en1 (.l .q .kp) [.x .q .kp] rfl Kn
 refine xa l2 λt1 t2=>?_;have g2:Gr S 0x4000000000000000 (2*(S:Int)):=⟨t1,by refine O t2 ?_;push_cast;exact er1 (.e .jO .jO) [] rfl⟩;have gS:=MS hS hM hN (eam [_,_] [_,_] (.x .q .ki) [.t .kb .jP,.X 2 .r .kp,.e .q .kb] rfl h3 Kn (an (eaz [_,_] (.l .n0 .kb) [.L 2 .n0 .b,.t .b .a] rfl h0 h1)));have gD:=gQ hS hM hN (eam [_,_] [_,_] (.x .q .ki) [.l .n0 .a,.l .b .r,.x .r .kp,.e .q (.S .b .a)] rfl h0 h2 Kn (an (eaz [_,_] (.l .n0 .ka) [.t .b .a] rfl h1)));have gT:=gQ hS (gQ hS g2 hM (eam [_,_] [_,_] (.x .q .ki) [.l .n0 .a,.t .a .b,.X 2 .r .kp,.e .q (.S .jP .b)] rfl h0 h1 Kn (an (eam [_] [_] (.l .n0 (.S .jx .a)) [.l .a .q] rfl h2)))) hN (eam [_,_] [_,_] (.x .q .ki) [.L 2 .n0 .a,.t .a .b,.X 2 .r .kp,.e .q (.S (.S .jP .b) .a)] rfl h0 h1 Kn (an (eam [_,_] [_] (.l .n0 .kR) [.t .kb .jx] rfl h3)));have eM:=hM.2;have eN:=hN.2;have i0:((0:Int):Rat)<=(n:Rat):=al.mpr h0;have i1:(n:Rat)<(m:Rat):=bg.mpr h1;have i2:(m:Rat)<=((S:Int):Rat):=al.mpr h2;have i3:((m+n:Int):Rat)<((2*(S:Int):Int):Rat):=bg.mpr h3;push_cast at i0 i1 i2 i3;have u0:0<=R N:=cV Nj (by exact O eN (er2 (.l (.M .n0 .a) .b) [.l .n0 .b] rfl i0));have u1:R N<R M:=(v9 hS hN hM).mpr h1;have u2:R M<=1:=cV Nj (by exact O eM (er2 (.l .a (.M .n1 .b)) [.l .a .b] rfl i2));have eS:R (add M N)=R M+R N:=by
  refine eQ Nj ?_;refine O gS.2 ?_;push_cast;exact er5 (.e .kb (.M .jv .e)) [.e .a (.M .c .e),.e .b (.M .d .e)] rfl eM.symm eN.symm
 have eT:R (ab (ab 0x4000000000000000 M) N)=2-R M-R N:=by
  refine eQ Nj ?_;refine O gT.2 ?_;push_cast;exact er5 (.e (.S (.S .jO .b) .c) (.M (.S (.S .n2 .d) .e) .a)) [.e (.M .d .a) .b,.e (.M .e .a) .c] rfl eM eN
 have eD:R (ab M N)=R M-R N:=by
  refine eQ Nj ?_;refine O gD.2 ?_;push_cast;exact er5 (.e .ka (.M .jc .e)) [.e .a (.M .c .e),.e (.M .d .e) .b] rfl eM.symm eN
 refine aP (AE gS.1 t1 (by exact O t2 (er0 (.t .n0 .n2) [] rfl)) (M:=2) ⟨1,by decide,rfl⟩ (by refine O t2 (O eS ?_);push_cast;exact er2 (.l (.G .jT) .kb) [.L 2 .n0 .b,.t .b .a] rfl u0 u1) (by refine O t2 (O eS ?_);push_cast;exact er2 (.l .kb .jT) [.t .b .a,.L 2 .a .n1] rfl u1 u2)) λq1 aT Ik q4=>?_;clear aT;clear Ik;rw[t2,eS] at q4;have hl:R (div (add M N) 0x4000000000000000)=(R M+R N)/2:=by
  refine q4 (bE (m+n) (hS.e+1) ?_ (eam [_,_] [_,_] (.x .q .ki) [.t .kb .jP,.X 2 .r .kp,.e .q .kb] rfl h3 Kn (an (eaz [_,_] (.l .n0 .kb) [.L 2 .n0 .b,.t .b .a] rfl h0 h1))) ?_)
  ·have:=hS.le;exact en1 (.x .kc .jq) [.x .q .kj] rfl this
  ·refine O (Aq ..) (XO hS.eq ?_);push_cast;exact er5 (.e (.M .kF (.M .c .n2)) (.A .d .e)) [.e .kW .d,.e .kq .e] rfl eM eN
 have z1:bx (add M N)=false:=by refine O (oP hS gS) ?_;simp;exact ew (yu h0 h1)
 have z2':bx (ab (ab 0x4000000000000000 M) N)=false:=by refine O (oP hS gT) ?_;simp;exact ew (eam [_,_] [_] (.t .n0 .kR) [.t .kb .jx] rfl h3)
 refine xa lh λv1 v2=>?_;refine(cS ⟨q1,hl⟩ (λ_=>z1) z2' ?_)
 delta qO
 refine O (M2 q1 v1) (O hl (O v2 ?_));have small:∀k:Int,0<k->k<=2*(S:Int)->2/2 ^ 54<=((m-n:Int):Rat)/(k:Rat):=by
  intro k k0 k1;have a0:(0:Rat)<(k:Rat):=by have:=bg.mpr k0;exact_mod_cast this
  have a1:(k:Rat)<=((2 ^ 51:Int):Rat):=al.mpr (eam [_] [_] (.l .a (.P .n2 51)) [.X 2 .q .kp,.l .a .jx] rfl Kn k1);have a2:((1:Int):Rat)<=((m-n:Int):Rat):=al.mpr (YI h1);rw[od] at a1;have a3:((m-n:Int):Rat)/(k:Rat)*(k:Rat)=((m-n:Int):Rat):=dmc (by assumption);refine cV a0 ?_;refine O a3 ?_;have:((1:Int):Rat)=1:=rfl;have:((2:Int):Rat)=2:=rfl;grind
 by_cases hc:(R M+R N)/2<=1/2
 ·simp only[hc,decide_true,if_true];refine aP (nN hS gD gS (Yb h1) (ez2 (.l .ka .kb) [.L 2 .n0 .b] rfl h0) (yu h0 h1)) λd1 d2 d3 aT=>?_;clear aT;refine xa (j4 (n:=m-n) (m:=m+n) (Yb h1) (ez2 (.l .ka .kb) [.L 2 .n0 .b] rfl h0) (yu h0 h1)) λd4 d5=>?_;have d6:=small (m+n) (by lia) (dd h3);have d7:((m-n:Int):Rat)/((m+n:Int):Rat)*((R M+R N)/2)=(R M-R N)/2:=by
   have b0:(0:Rat)<((m+n:Int):Rat):=by
    have:=bg.mpr (show(0:Int)<m+n by lia)
    exact_mod_cast this
   have b1:((m-n:Int):Rat)/((m+n:Int):Rat)*((m+n:Int):Rat)=((m-n:Int):Rat):=dmc (by assumption);generalize ((m-n:Int):Rat)/((m+n:Int):Rat)=P at *;refine eQ Nj ?_;push_cast at b1;grind
  generalize ((m-n:Int):Rat)/((m+n:Int):Rat)=P at *;generalize div (ab M N) (add M N)=s at *;have e:=fR (v:=(R M+R N)/2) (x:=R s-P) (e:=1/2 ^ 54) (er2 (.L 2 .n0 .kF) [.L 2 .n0 .b,.t .b .a] rfl u0 u1) (er2 (.l .kF .n1) [.l .kF .kf] rfl hc) (ys d2) (YG d3);exact(cS d1 (Yy d6 d2) (er2 (.l .a .jl) [.l .b .n1,.l .a .jh] rfl d5 d3) (.inl (iaa trivial (er4 (.l (.S .jU .kl) (.M .kF .c)) [.e .jU (.M .d .kF),.l (.G .kl) (.M .kF .jc)] rfl d7.symm e.1) (er4 (.l (.M .kF .c) (.A .jU .kl)) [.e (.M .d .kF) .jU,.l (.M .kF .jc) .kl] rfl d7 e.2))))
 ·simp only[hc,decide_false,aw,if_false];refine aP (nN hS gD gT (by lia) (eam [_,_] [_] (.l .ka .kR) [.L 2 .a .q] rfl h2) (eam [_,_] [_] (.t .n0 .kR) [.t .kb .jx] rfl h3)) λd1 d2 d3 aT=>?_;clear aT;refine xa (j4 (n:=m-n) (m:=2*(S:Int)-m-n) (by lia) (eam [_,_] [_] (.l .ka .kR) [.L 2 .a .q] rfl h2) (eam [_,_] [_] (.t .n0 .kR) [.t .kb .jx] rfl h3)) λd4 d5=>?_;have d6:=small (2*(S:Int)-m-n) (by lia) (eam [_,_] [_] (.l .kR .jx) [.L 2 .n0 .b,.t .b .a] rfl h0 h1);have d7:((m-n:Int):Rat)/((2*(S:Int)-m-n:Int):Rat)*(1-(R M+R N)/2)=(R M-R N)/2:=by
   have b0:(0:Rat)<((2*(S:Int)-m-n:Int):Rat):=by
    have:=bg.mpr (show(0:Int)<2*(S:Int)-m-n by lia)
    exact_mod_cast this
   have b1:((m-n:Int):Rat)/((2*(S:Int)-m-n:Int):Rat)*((2*(S:Int)-m-n:Int):Rat)=((m-n:Int):Rat):=dmc (by assumption);generalize ((m-n:Int):Rat)/((2*(S:Int)-m-n:Int):Rat)=P at *;refine eQ Nj ?_;push_cast at b1;grind
  generalize ((m-n:Int):Rat)/((2*(S:Int)-m-n:Int):Rat)=P at *;generalize div (ab M N) (ab (ab 0x4000000000000000 M) N)=s at *;have e:=fR (v:=1-(R M+R N)/2) (x:=R s-P) (e:=1/2 ^ 54) (er2 (.L 2 .n0 .jV) [.t .b .a,.L 2 .a .n1] rfl u1 u2) (er2 (.l .jV .n1) [.t .kf .kF] rfl (gw.mp hc)) (ys d2) (YG d3);exact(cS d1 (Yy d6 d2) (er2 (.l .a .jl) [.l .b .n1,.l .a .jh] rfl d5 d3) (.inr (iaa ((gw.mp hc)) (er4 (.l (.S .jU .kl) (.M .jV .c)) [.e .jU (.M .d .jV),.l (.G .kl) (.M .jV .jc)] rfl d7.symm e.1) (er4 (.l (.M .jV .c) (.A .jU .kl)) [.e (.M .d .jV) .jU,.l (.M .jV .jc) .kl] rfl d7 e.2))))
end
section
variable{l s:UInt64}{δ:Rat}
theorem XA (fl:FinF l) (fs:FinF s) (l0:0<=R l) (Nk:R l<=1) (s0:0<=R s) (s1:R s<=1+1/2 ^ 54)
  (h:(R l<=1/2/\δ/2-1/2 ^ 54<=R l*R s/\R l*R s<=δ/2+1/2 ^ 54)\/(1/2<R l/\δ/2-1/2 ^ 54<=(1-R l)*R s/\(1-R l)*R s<=δ/2+1/2 ^ 54)) :
  Nr (k7 l s) (R l+δ/2) (16/2 ^ 54):=by
 refine xa l1 λo1 o2=>?_;refine xa lh λv1 v2=>?_;unfold k7;refine O (M2 fl v1) (O v2 ?_)
 by_cases hc:R l<=1/2
 ·simp only[hc,decide_true,if_true];rcases h with ⟨-,h1,h2⟩ | ⟨h0,-⟩
  ·refine aP (jV o1 fs (M:=4) ⟨2,by decide,rfl⟩ (by refine O o2 ?_;push_cast;exact er1 (.l .jX (.A .n1 .a)) [.l .n0 .a] rfl s0) (by refine O o2 ?_;push_cast;exact er1 (.l (.A .n1 .a) .n4) [.l .a .jl] rfl s1)) λa1 a2 a3 aT=>?_;clear aT;rw[o2] at a2 a3;push_cast at a2 a3;generalize add 0x3ff0000000000000 s=q at *;have e:=fR l0 Nk (x:=R q-(1+R s)) (e:=4/2 ^ 54) (er2 (.l (.G .kE) (.S .a (.A .n1 .b))) [.l (.S (.A .n1 .b) .kE) .a] rfl a2) (er2 (.l (.S .a (.A .n1 .b)) .kE) [.l .a (.A (.A .n1 .b) .kE)] rfl a3);have e':=fR l0 Nk (x:=R s) (e:=2) (er1 (.l .kV .a) [.l .n0 .a] rfl s0) (er1 (.l .a .n2) [.l .a .jl] rfl s1);refine aP (jW fl a1 (M:=4) ⟨2,by decide,rfl⟩ (by push_cast;exact er3 (.l .jX .kd) [.l .n0 .a,.l (.G .kE) (.M .a (.S .b (.A .n1 .c))),.l .kV .kW] rfl l0 e.1 e'.1) (by push_cast;exact er3 (.l .kd .n4) [.l .a .n1,.l (.M .a (.S .b (.A .n1 .c))) .kE,.l .kW .n2] rfl Nk e.2 e'.2)) λb1 b2 b3 aT=>?_;clear aT;push_cast at b2 b3;exact(iaa b1 (er5 (.l (.S .jB .je) .c) [.l (.S .kN .kl) (.M .a .d),.l (.G .kE) (.M .a (.S .e (.A .n1 .d))),.l (.S (.M .a .e) .kE) .c] rfl h1 e.1 b2) (er5 (.l .a (.A (.A .b (.D .c .n2)) .je)) [.l .jG (.A (.D .c .n2) .kl),.l (.M .b (.S .e (.A .n1 .d))) .kE,.l .a (.A (.M .b .e) .kE)] rfl h2 e.2 b3))
  ·grind
 ·simp only[hc,decide_false,aw,if_false];rcases h with ⟨h0,-⟩ | ⟨-,h1,h2⟩
  ·exact absurd h0 hc
  ·have e':=fR l0 Nk (x:=R s) (e:=3/2) (er1 (.l (.G .kK) .a) [.l .n0 .a] rfl s0) (er1 (.l .a .kK) [.l .a .jl] rfl s1);refine aP (jV fl fs (M:=4) ⟨2,by decide,rfl⟩ (by push_cast;exact er2 (.l .jX .kb) [.l .n0 .a,.l .n0 .b] rfl l0 s0) (by push_cast;exact er2 (.l .kb .n4) [.l .a .n1,.l .b .jl] rfl Nk s1)) λa1 a2 a3 aT=>?_;clear aT;push_cast at a2 a3;refine aP (jW fl fs (M:=2) ⟨1,by decide,rfl⟩ (by push_cast;exact Yi e'.1) (by push_cast;exact YA e'.2)) λb1 b2 b3 aT=>?_;clear aT;push_cast at b2 b3;generalize add l s=q at *;generalize mul l s=q' at *;refine aP (gV a1 b1 (M:=8) ⟨3,by decide,rfl⟩ (by push_cast;exact er4 (.l (.G .n8) .ka) [.l .n0 .c,.l .n0 .d,.l .kD .kK,.l (.S .jv .kE) .a,.l .b (.A .kD .kT)] rfl l0 s0 e'.2 a2 b3) (by push_cast;exact er4 (.l .ka .n8) [.l .c .n1,.l .d .jl,.l (.G .kK) .kD,.l .a (.A .jv .kE),.l (.S .kD .kT) .b] rfl Nk s1 e'.1 a3 b2)) λc1 c2 c3 aT=>?_;clear aT;push_cast at c2 c3;exact(iaa c1 (er6 (.l (.S .jB .je) .c) [.l (.S .kN .kl) (.M .jj .d),.l (.S (.A .a .d) .kE) .e,.l .f (.A (.M .a .d) .kT),.l (.S (.S .e .f) (.E 8)) .c] rfl h1 a2 b3 c2) (er6 (.l .a (.A (.A .b (.D .c .n2)) .je)) [.l (.M .j5 .d) (.A (.D .c .n2) .kl),.l .e (.A (.A .b .d) .kE),.l (.S .jG .kT) .f,.l .a (.A (.S .e .f) (.E 8))] rfl h2 a3 b2 c3))
theorem XB{m2:UInt64}(fl:FinF l) (l0:0<=R l) (Nk:R l<=1) (d0:0<=δ) (d1:δ<=1) (h:Nr m2 (R l+δ/2) (16/2 ^ 54)) :
  Nr (ab (mul 0x4000000000000000 l) m2) (R l-δ/2) (32/2 ^ 54):=by
 refine xa l2 λo1 o2=>?_;refine xaa h λh1 h2 h3=>?_;clear h;refine aP (jW o1 fl (M:=4) ⟨2,by decide,rfl⟩ (by refine O o2 ?_;push_cast;exact er1 (.l .jX .jO) [.L 2 .n0 .a] rfl l0) (by refine O o2 ?_;push_cast;exact er1 (.l .jO .n4) [.L 2 .a .n1] rfl Nk)) λb1 b2 b3 aT=>?_;clear aT;rw[o2] at b2 b3;push_cast at b2 b3;generalize mul 0x4000000000000000 l=q at *;refine aP (gV b1 h1 (M:=4) ⟨2,by decide,rfl⟩ (by push_cast;exact er4 (.L 2 .jX .ka) [.L 2 .n0 .c,.l .d .n1,.L 2 .b (.A (.A .c (.D .d .n2)) .je),.L 2 (.S (.M .n2 .c) .kE) .a] rfl l0 d1 h3 b2) (by push_cast;exact er4 (.L 2 .ka .n4) [.L 2 .c .n1,.l .n0 .d,.L 2 (.S (.A .c (.D .d .n2)) .je) .b,.L 2 .a (.A (.M .n2 .c) .kE)] rfl Nk d0 h2 b3)) λc1 c2 c3 aT=>?_;clear aT;push_cast at c2 c3;exact(iaa c1 (er5 (.l (.S .j6 .kG) .c) [.l .d (.A .jB .je),.l (.S .jO .kE) .e,.l (.S .jI .kE) .c] rfl h3 b2 c2) (er5 (.l .a (.A (.S .b (.D .c .n2)) .kG)) [.l (.S (.A .b (.D .c .n2)) .je) .d,.l .e (.A (.M .n2 .b) .kE),.l .a (.A .jI .kE)] rfl h2 b3 c3))
end
section
variable{m1 m2 u:UInt64}{N δ:Rat}
theorem UU (h1:Nr m1 N (32/2 ^ 54)) (h2:Nr m2 (N+δ) (16/2 ^ 54)) (n0:0<=N) (n1:N<=1) (d0:0<=δ) (d1:N+δ<=1) (fu:FinF u) (u0:0<=R u) (u1:R u<=1+1/2 ^ 52) :
  Nr (vF m1 m2 u) (N+δ*bQ (6*R u)) (1024/2 ^ 54):=by
 refine xaa h1 λf1 a1 b1=>?_;clear h1;refine xaa h2 λf2 a2 b2=>?_;clear h2;refine xa l16 λc1 c2=>?_;refine xa lh λe1 e2=>?_;refine xa l23 λg1 g2=>?_;refine xa l6 λs1 s2=>?_;unfold vF;refine O (M3 fu c1) (O (M3 fu e1) (O (M3 fu g1) (O c2 (O e2 (O g2 ?_)))));refine aP (gV f2 f1 (M:=2) ⟨1,by decide,rfl⟩ (by push_cast;exact er4 (.l .kV .ka) [.l .n0 .c,.l .b (.A .d .kG),.l (.S (.A .d .c) .je) .a] rfl d0 b1 a2) (by push_cast;exact er4 (.l .ka .n2) [.l .n0 .c,.l .jv .n1,.l (.S .c .kG) .b,.l .a (.A .jv .je)] rfl n0 d1 a1 b2)) λx1 x2 x3 aT=>?_;clear aT;push_cast at x2 x3;generalize hU:R u=U at *
 by_cases k1:U<6004799503160661/2 ^ 55
 ·simp only[k1,decide_true,if_true];have hg:bQ (6*U)=6*U:=G_1 (er1 (.l .n0 .kg) [.L 6 .n0 .a] rfl u0) (er1 (.l .kg .n1) [.T 6 .a .jL] rfl k1);refine O hg ?_;generalize ab m2 m1=D at *;have p1:=fR (v:=U) u0 (er1 (.l .a .n1) [.t .a .jL] rfl k1) (x:=R D-δ) (e:=50/2 ^ 54) (yf b1 a2 x2) (yi a1 b2 x3);have p2:=fR (v:=U) u0 (er1 (.l .a .n1) [.t .a .jL] rfl k1) (x:=R D) (e:=2) (ye d0 b1 a2 x2) (yg n0 d1 a1 b2 x3);refine aP (jW x1 fu (M:=2) ⟨1,by decide,rfl⟩ (by refine O hU ?_;push_cast;exact er2 (.l .kV .kd) [.l .kV (.M .b .a)] rfl p2.1) (by refine O hU ?_;push_cast;exact er2 (.l .kd .n2) [.l (.M .b .a) .n2] rfl p2.2)) λy1 y2 y3 aT=>?_;clear aT;rw[hU] at y2 y3;push_cast at y2 y3;generalize mul D u=E at *;refine aP (jW y1 s1 (M:=16) ⟨4,by decide,rfl⟩ (by refine O s2 ?_;push_cast;exact er3 (.l (.G (.N 16)) (.M .a .n6)) [.L 6 .kV .kq,.L 6 (.S .k6 .kT) .a] rfl p2.1 y2) (by refine O s2 ?_;push_cast;exact er3 (.l (.M .a .n6) (.N 16)) [.L 6 .kq .n2,.L 6 .a (.A .k6 .kT)] rfl p2.2 y3)) λz1 z2 z3 aT=>?_;clear aT;rw[s2] at z2 z3;push_cast at z2 z3;generalize mul E 0x4018000000000000=G at *;have p3:=fR (v:=U) u0 (by grind) (x:=δ) (e:=1) (er1 (.l .kn .a) [.l .n0 .a] rfl d0) (Yz n0 d1);refine aP (jV f1 z1 (M:=32) ⟨5,by decide,rfl⟩ (by push_cast;exact er6 (.l (.G (.N 32)) .kb) [.l .n0 .c,.l (.S .c .kG) .a,.L 6 .kV (.M .d .e),.L 6 (.S .jR .kT) .f,.l (.S (.M .f .n6) .je) .b] rfl n0 a1 p2.1 y2 z2) (by push_cast;exact er6 (.l .kb (.N 32)) [.l .c .n1,.l .a (.A .c .kG),.L 6 (.M .d .e) .n2,.L 6 .f (.A .jR .kT),.l .b (.A (.M .f .n6) .je)] rfl n1 b1 p2.2 y3 z3)) λw1 w2 w3 aT=>?_;clear aT;push_cast at w2 w3;exact(iaa w1 (ear [_,_,_,_,_,_,_,_] (.l (.S (.A .a (.M .b .kX)) .kZ) .d) [.l (.S .a .kG) .e,.L 6 (.G (.E 50)) (.M .c (.S .f .b)),.L 6 (.S (.M .f .c) .kT) .g,.l (.S (.M .g .n6) .je) .h,.l (.S (.A .e .h) .kG) .d] rfl a1 p1.1 y2 z2 w2) (ear [_,_,_,_,_,_,_,_] (.l .a (.A (.A .b (.M .c .ju)) .kZ)) [.l .e (.A .b .kG),.L 6 (.M .d (.S .f .c)) (.E 50),.L 6 .g (.A (.M .f .d) .kT),.l .h (.A (.M .g .n6) .je),.l .a (.A (.A .e .h) .kG)] rfl b1 p1.2 y3 z3 w3))
 ·simp only[k1,decide_false,aw,if_false]
  by_cases k2:U<1/2
  ·simp only[k2,decide_true,if_true];have hg:1-6/2 ^ 54<=bQ (6*U)/\bQ (6*U)<=1:=by
    by_cases q:6*U<=1
    ·exact O (G_1 (by exact er1 (.l .n0 .kg) [.L 6 .n0 .a] rfl u0) q) ⟨by exact er1 (.l (.S .n1 (.E 6)) .kg) [.L 6 .jL .a] rfl (mf.mp k1),q⟩
    ·exact O (G_2 (ar (gw.mp q)) (er1 (.l .kg .n3) [.T 6 .a .kf] rfl k2)) ⟨by exact er0 (.l (.S .n1 (.E 6)) .n1) [] rfl,by exact eh⟩
   have p:=fR d0 (Yz n0 d1) (x:=bQ (6*U)-1) (e:=6/2 ^ 54) (er1 (.l (.G (.E 6)) (.S .a .n1)) [.l (.S .n1 (.E 6)) .a] rfl hg.1) (er1 (.l (.S .a .n1) (.E 6)) [.l .a .n1] rfl hg.2);exact(iaa f2 (er4 (.l (.S (.A .a .kq) .kZ) .d) [.l (.S .kb .je) .d,.l (.M .b (.S .c .n1)) (.E 6)] rfl a2 p.2) (er4 (.l .a (.A (.A .b .kD) .kZ)) [.l .a (.A .kH .je),.l (.G (.E 6)) (.M .c (.S .d .n1))] rfl b2 p.1))
  ·simp only[k2,decide_false,aw,if_false]
   by_cases k3:U<6004799503160661/2 ^ 53
   ·simp only[k3,decide_true,if_true];have hg:bQ (6*U)=4-6*U:=G_3 (er1 (.l .n3 .kg) [.L 6 .kf .a] rfl (mf.mp k2)) (er1 (.l .kg .n4) [.T 6 .a (.D .ku .ki)] rfl k3);refine O hg ?_;generalize ab m2 m1=D at *;refine aP (gV g1 fu (M:=1) ⟨0,by decide,rfl⟩ (by refine O hU (O g2 ?_);push_cast;exact er1 (.l .kn (.S (.D .ku .ki) .a)) [.l .a .kh] rfl u1) (by refine O hU (O g2 ?_);push_cast;exact er1 (.l (.S (.D .ku .ki) .a) .n1) [.l .n0 .a] rfl u0)) λq1 q2 q3 aT=>?_;clear aT;rw[hU,g2] at q2 q3;push_cast at q2 q3;generalize ab 0x3fe5555555555555 u=T at *;have hT:2/3-U-3/2 ^ 54<=R T/\R T<=2/3-U+3/2 ^ 54:=⟨by exact er2 (.l (.S (.S (.D .n2 .n3) .a) (.E 3)) .b) [.l (.S (.S (.D .ku .ki) .a) .kl) .b] rfl q2,by exact er2 (.l .a (.A .kU (.E 3))) [.l .a (.A (.S (.D .ku .ki) .b) .kl)] rfl q3⟩;have p1:=nP (v:=R T) (Yp u1 hT.1) (Yq u0 hT.2) (x:=R D-δ) (e:=50/2 ^ 54) (yf b1 a2 x2) (yi a1 b2 x3);have p2:=nP (v:=R T) (Yp u1 hT.1) (Yq u0 hT.2) (x:=R D) (e:=2) (ye d0 b1 a2 x2) (yg n0 d1 a1 b2 x3);have p4:=fR d0 (by grind) (x:=R T-(2/3-U)) (e:=3/2 ^ 54) (er2 (.l (.G (.E 3)) (.S .a .kU)) [.l (.S .kU (.E 3)) .a] rfl hT.1) (er2 (.l (.S .a .kU) (.E 3)) [.l .a (.A .kU (.E 3))] rfl hT.2);refine aP (jW x1 q1 (M:=4) ⟨2,by decide,rfl⟩ (by push_cast;exact er2 (.l .jX .kd) [.l (.G .jT) (.M .b .a)] rfl p2.1) (by push_cast;exact er2 (.l .kd .n4) [.l (.M .b .a) .jT] rfl p2.2)) λy1 y2 y3 aT=>?_;clear aT;push_cast at y2 y3;generalize mul D T=E at *;refine aP (jW y1 s1 (M:=32) ⟨5,by decide,rfl⟩ (by refine O s2 ?_;push_cast;exact er3 (.l (.G (.N 32)) (.M .a .n6)) [.L 6 (.G .jT) .kq,.L 6 (.S .k6 .kE) .a] rfl p2.1 y2) (by refine O s2 ?_;push_cast;exact er3 (.l (.M .a .n6) (.N 32)) [.L 6 .kq .jT,.L 6 .a (.A .k6 .kE)] rfl p2.2 y3)) λz1 z2 z3 aT=>?_;clear aT;rw[s2] at z2 z3;push_cast at z2 z3;generalize mul E 0x4018000000000000=G at *;have p3:=nP (v:=2/3-U) (er1 (.l .kV (.S (.D .n2 .n3) .a)) [.l .a .kh] rfl u1) (er1 (.l (.S (.D .n2 .n3) .a) .n2) [.l .n0 .a] rfl u0) (x:=δ) (e:=1) (er1 (.l .kn .a) [.l .n0 .a] rfl d0) (by grind);refine aP (jV f1 z1 (M:=32) ⟨5,by decide,rfl⟩ (by push_cast;exact er6 (.l (.G (.N 32)) .kb) [.l .n0 .c,.l (.S .c .kG) .a,.L 6 (.G .jT) (.M .d .e),.L 6 (.S .jR .kE) .f,.l (.S (.M .f .n6) .kG) .b] rfl n0 a1 p2.1 y2 z2) (by push_cast;exact er6 (.l .kb (.N 32)) [.l .c .n1,.l .a (.A .c .kG),.L 6 (.M .d .e) .jT,.L 6 .f (.A .jR .kE),.l .b (.A (.M .f .n6) .kG)] rfl n1 b1 p2.2 y3 z3)) λw1 w2 w3 aT=>?_;clear aT;push_cast at w2 w3;exact(iaa w1 (ear [_,_,_,_,_,_,_,_,_] (.l (.S (.A .a (.M .b (.S .n4 .kX))) .kZ) .d) [.l (.S .a .kG) .e,.L 6 (.G (.M .n2 (.E 50))) (.M .f (.S .g .b)),.L 6 (.G (.E 3)) (.M .b (.S .f (.S (.D .n2 .n3) .c))),.L 6 (.S (.M .g .f) .kE) .h,.l (.S (.M .h .n6) .kG) .i,.l (.S (.A .e .i) .kG) .d] rfl a1 p1.1 p4.1 y2 z2 w2) (ear [_,_,_,_,_,_,_,_,_] (.l .a (.A (.A .b (.M .c (.S .n4 .ju))) .kZ)) [.l .e (.A .b .kG),.L 6 (.M .f (.S .g .c)) (.M .n2 (.E 50)),.L 6 (.M .c (.S .f (.S (.D .n2 .n3) .d))) (.E 3),.L 6 .h (.A (.M .g .f) .kE),.l .i (.A (.M .h .n6) .kG),.l .a (.A (.A .e .i) .kG)] rfl b1 p1.2 p4.2 y3 z3 w3))
   ·simp only[k3,decide_false,aw,if_false];have hg:0<=bQ (6*U)/\bQ (6*U)<=12/2 ^ 54:=by
     by_cases q:6*U<=4
     ·exact O (G_3 (by exact er1 (.l .n3 .kg) [.L 6 .kf .a] rfl (mf.mp k2)) q) ⟨by exact er1 (.l .n0 (.S .n4 .kg)) [.l .kg .n4] rfl q,by exact er1 (.l (.S .n4 .kg) (.E 12)) [.L 6 (.D .ku .ki) .a] rfl (mf.mp k3)⟩
     ·exact O (G_4 (ar (gw.mp q))) ⟨by exact eh,by exact er0 (.l .n0 (.E 12)) [] rfl⟩
    have p:=fR d0 (by grind) (x:=bQ (6*U)) (e:=12/2 ^ 54) (er1 (.l (.G (.E 12)) .a) [.l .n0 .a] rfl hg.1) (hg.2);exact(iaa f1 (er4 (.l (.S (.A .a .kq) .kZ) .d) [.l (.S .a .kG) .d,.l .kq (.E 12)] rfl a1 p.2) (er4 (.l .a (.A (.A .b .kD) .kZ)) [.l .a (.A .b .kG),.l (.G (.E 12)) .kD] rfl b1 p.1))
end
theorem CV (d0:0<=δ) (d1:δ<=1) (h:Nr x (N+δ*g) (1024/2 ^ 54)) (h0:g'-e<=g) (h1:g<=g'+e) (he:e<=3072/2 ^ 54):Nr x (N+δ*g') (4096/2 ^ 54):=by
 refine xaa h λf a b=>?_;clear h;have p:=fR d0 d1 (x:=g-g') (e:=e) (er3 (.l .k0 .kx) [.l (.S .c .a) .b] rfl h0) (er3 (.l .ka .c) [.l .a .kH] rfl h1);exact(iaa f (er6 (.l (.S (.A .a .kq) (.E 4096)) .d) [.l .e (.E 3072),.l (.S (.A .a (.M .b .f)) .kZ) .d,.l (.G .e) (.M .b (.S .f .c))] rfl he a p.1) (er6 (.l .a (.A (.A .b .kD) (.E 4096))) [.l .e (.E 3072),.l .a (.A (.A .b (.M .c .f)) .kZ),.l (.M .c (.S .f .d)) .e] rfl he b p.2))
theorem UV (hF:∀m1 m2 u:UInt64,F k [.flt m1,.flt m2,.flt u]=some (.flt (vF m1 m2 (bz u one).2)))
  (fh:FinF h) (h0:-1<=R h) (h1:R h<=2) (fl:FinF l) (fs:FinF s) (n0:0<=R l-δ/2) (n1:R l+δ/2<=1) (d0:0<δ) (s0:0<R s) (s1:R s<=1+1/2 ^ 54)
  (hw:(R l<=1/2/\δ/2-1/2 ^ 54<=R l*R s/\R l*R s<=δ/2+1/2 ^ 54)\/(1/2<R l/\δ/2-1/2 ^ 54<=(1-R l)*R s/\(1-R l)*R s<=δ/2+1/2 ^ 54)) :
  ∃c,dJ F (Co.a8 k) [.flt h,.flt l,.flt s]=some (.tup c)/\∃(u:Rat) (m:Int),0<=u/\u<6/\Hats c (R l-δ/2) δ u (4096/2 ^ 54)/\6*R h-6*m-1024/2 ^ 54<=u/\u<=6*R h-6*m+1024/2 ^ 54:=by
 have hs:eqB s 0=false:=by
  unfold eqB;refine O (lK fs l0.1) (O l0.2 ?_);split
  ·rfl
  ·refine O (if_neg ((Fu (s0)).symm)) ?_;rfl
 refine(iea _ (RD hs hF) ?_);have Jd:=XA (δ:=δ) fl fs (er2 (.L 2 .n0 .a) [.L 2 .n0 .j6,.t .n0 .b] rfl n0 d0) (er2 (.L 2 .a .n1) [.L 2 .jB .n1,.t .n0 .b] rfl n1 d0) (ar s0) s1 hw;have Ma:=XB (δ:=δ) fl (er2 (.L 2 .n0 .a) [.L 2 .n0 .j6,.t .n0 .b] rfl n0 d0) (er2 (.L 2 .a .n1) [.L 2 .jB .n1,.t .n0 .b] rfl n1 d0) (ar d0) (yl n0 n1) Jd;generalize k7 l s=m2 at *;generalize ab (mul 0x4000000000000000 l) m2=m1 at *;refine xa l13 λt1 t2=>?_;refine aP (jV fh t1 (M:=4) ⟨2,by decide,rfl⟩ (by refine O t2 ?_;push_cast;exact er1 (.l .jX (.A .a .kP)) [.l .kn .a] rfl h0) (by refine O t2 ?_;push_cast;exact er1 (.l (.A .a .kP) .n4) [.l .a .n2] rfl h1)) λa1 a2 a3 aT=>?_;clear aT;refine aP (gV fh t1 (M:=4) ⟨2,by decide,rfl⟩ (by refine O t2 ?_;push_cast;exact er1 (.l .jX (.S .a .kP)) [.l .kn .a] rfl h0) (by refine O t2 ?_;push_cast;exact er1 (.l (.S .a .kP) .n4) [.l .a .n2] rfl h1)) λb1 b2 b3 aT=>?_;clear aT;rw[t2] at a2 a3 b2 b3;push_cast at a2 a3 b2 b3;generalize add h 0x3fd5555555555555=hr at *;generalize ab h 0x3fd5555555555555=hb at *;refine jM (mB fh) λp1 p2 n p3 p4 p5 p6 aT=>?_;clear aT;refine jM (mB a1) λq1 q2 nr q3 q4 q5 q6 aT=>?_;clear aT;refine jM (mB b1) λr1 r2 nb r3 r4 r5 r6 aT=>?_;clear aT;have e2:R l+δ/2=(R l-δ/2)+δ:=by exact er2 (.e .jB (.A .j6 .b)) [] rfl
 rw[e2] at Jd;have vg:=UU Ma Jd n0 (er2 (.l .j6 .n1) [.l .jB .n1,.t .n0 .b] rfl n1 d0) (ar d0) (er2 (.l (.A .j6 .b) .n1) [.l .jB .n1] rfl n1) p1 p2 (yx p4 p6);have vr:=UU Ma Jd n0 (er2 (.l .j6 .n1) [.l .jB .n1,.t .n0 .b] rfl n1 d0) (by grind) (er2 (.l (.A .j6 .b) .n1) [.l .jB .n1] rfl n1) q1 q2 (yx q4 q6);have vb:=UU Ma Jd n0 (by grind) (by grind) (by grind) r1 r2 (by grind);generalize (bz h one).2=ug at *;generalize (bz hr one).2=ur at *;generalize (bz hb one).2=ub at *;generalize vF m1 m2 ug=xg at *;generalize vF m1 m2 ur=xr at *;generalize vF m1 m2 ub=xb at *;clear Ma Jd hw hF hs;refine(bW (6*(R h-n)) n (er2 (.l .n0 .jC) [.L 6 .n0 .ka] rfl p5) (er2 (.t .jC .n6) [.T 6 .ka .n1] rfl p6) (cD _ _ _ rfl ?_ ?_ ?_) ⟨(er2 (.l (.S (.S .kg .kA) .kZ) .jC) [] rfl),(er2 (.l .jC (.A (.S .kg .kA) .kZ)) [] rfl)⟩)
 ·refine xa (RE (u:=6*(R h-n)) (w:=6*R ur) (j:=nr-n) (e:=64/2 ^ 54) (er2 (.l .n0 .jC) [.L 6 .n0 .ka] rfl p5) (er2 (.t .jC .n6) [.T 6 .ka .n1] rfl p6) (er1 (.l (.G .jD) .kg) [.L 6 .n0 .a] rfl q2) (Yj q6 q4) (er0 (.l .n0 .jD) [] rfl) (er0 (.l .jD .kB) [] rfl) (by push_cast;exact er5 (.l (.S (.S (.A .jC .n2) (.M .n6 (.S .c .b))) .jD) .ju) [.L 6 (.S (.A .a .kP) .kE) .e,.L 6 (.S (.S .e .c) .kl) .d] rfl a2 q3) (by push_cast;exact er5 (.l .kg (.A (.S (.A (.M .n6 .kx) .n2) (.M .n6 (.S .d .c))) .jD)) [.L 6 .e (.A (.A .b .kP) .kE),.L 6 .a (.A .jI .kl)] rfl a3 q4)) λz1 z2=>?_;exact CV (by grind) (yl n0 n1) vr (e:=128/2 ^ 54) (Yd z1) (Ye z2) (er0 (.l (.E 128) (.E 3072)) [] rfl)
 ·refine xa (G8 (u:=6*(R h-n)) (w:=6*R ug) (e:=64/2 ^ 54) (er0 (.l .n0 .jD) [] rfl) (er3 (.l (.S .jC .jD) .kX) [.L 6 (.S .ka .kl) .c] rfl p3) (er3 (.l .kg (.A (.M .n6 .kx) .jD)) [.L 6 .a .jS] rfl p4)) λz1 z2=>?_;exact CV (by grind) (by grind) vg (e:=64/2 ^ 54) (z1) (z2) (er0 (.l .jD (.E 3072)) [] rfl)
 ·refine xa (MZ (u:=6*(R h-n)) (w:=6*R ub) (j:=nb-n) (e:=64/2 ^ 54) (by grind) (by grind) (er1 (.l (.G .jD) .kg) [.L 6 .n0 .a] rfl r2) (Yj r6 r4) (by grind) (er0 (.l .jD .kB) [] rfl) (by push_cast;exact er5 (.l (.S (.S (.S .jC .n2) (.M .n6 (.S .c .b))) .jD) .ju) [.L 6 (.S (.S .a .kP) .kE) .e,.L 6 (.S (.S .e .c) .kl) .d] rfl b2 r3) (by push_cast;exact er5 (.l .kg (.A (.S (.S (.M .n6 .kx) .n2) (.M .n6 (.S .d .c))) .jD)) [.L 6 .e (.A (.S .b .kP) .kE),.L 6 .a (.A .jI .kl)] rfl b3 r4)) λz1 z2=>?_;exact CV (by grind) (by grind) vb (e:=128/2 ^ 54) (Yd z1) (Ye z2) (er0 (.l (.E 128) (.E 3072)) [] rfl)
noncomputable def rot (Z A B C:Int):Nat->Int × Int × Int
 | 0=>(A,B,C)
 | t+1=>(Z-(rot Z A B C t).2.1,Z-(rot Z A B C t).2.2,Z-(rot Z A B C t).1)
theorem WC:rot Z A B C 0=(A,B,C):=rfl
theorem E5:rot Z A B C (t+1)=(Z-(rot Z A B C t).2.1,Z-(rot Z A B C t).2.2,Z-(rot Z A B C t).1):=rfl
theorem iA (hd:N<M) (h0:N<=X) (h1:X<=M):∃q:Rat,((X-N:Int):Rat)/((M-N:Int):Rat)=q/\0<=q/\q<=1/\(X:Rat)=(N:Rat)+((M-N:Int):Rat)*q:=by
 have dpos:(0:Rat)<((M-N:Int):Rat):=by
  have:=bg.mpr (gm hd)
  exact_mod_cast this
 refine(iea _ rfl ?_);refine xa (j4 (n:=X-N) (m:=M-N) (bo h0) (zh h1 N) (gm hd)) λu1 u2=>?_;refine(iaa u1 u2 ?_);have:((X-N:Int):Rat)/((M-N:Int):Rat)*((M-N:Int):Rat)=((X-N:Int):Rat):=dmc dpos;clear u1 u2;generalize ((X-N:Int):Rat)/((M-N:Int):Rat)=Q at *;push_cast at this ⊢;exact er4 (.e .a (.A .b (.M (.S .c .b) .d))) [.e .ka (.M .d (.S .c .b))] rfl this.symm
theorem pH (N M:Int):(M:Rat)=(N:Rat)+((M-N:Int):Rat)*1:=by push_cast;exact er2 (.e .a (.A .b (.M .ka .n1))) [] rfl
theorem nQ (N:Int) (d:Rat):(N:Rat)=(N:Rat)+d*0:=by exact er2 (.e .a (.A .a (.M .b .n0))) [] rfl
theorem pI (e:((X-N:Int):Rat)/((M-N:Int):Rat)=q) (h:Y=N):((Y-X:Int):Rat)/((M-N:Int):Rat)=-q:=by
 refine XO e (O h ?_);push_cast;grind
theorem pJ (e:((X-N:Int):Rat)/((M-N:Int):Rat)=q) (h:Y=N):((X-Y:Int):Rat)/((M-N:Int):Rat)=q:=by exact XO e (O h rfl)
def HatB (A B C N M:Int) (hue:Rat):Prop:=∃(w:Rat) (j:Int),0<=w/\w<6/\w=hue-6*j/\(A:Rat)=(N:Rat)+((M-N:Int):Rat)*dN w/\(B:Rat)=(N:Rat)+((M-N:Int):Rat)*bQ w/\(C:Rat)=(N:Rat)+((M-N:Int):Rat)*fI w
theorem HatB.mk' {A B C N M:Int}{hue w a b c:Rat}(j:Int) (w0:0<=w) (w1:w<6) (hw:w=hue-6*j) (ha:dN w=a) (hb:bQ w=b) (hc:fI w=c) (h1:(A:Rat)=(N:Rat)+((M-N:Int):Rat)*a) (h2:(B:Rat)=(N:Rat)+((M-N:Int):Rat)*b) (h3:(C:Rat)=(N:Rat)+((M-N:Int):Rat)*c):HatB A B C N M hue :=
 (bW w j w0 w1 hw (iaa (by exact O ha h1) (by refine O hb ?_;exact h2) (by exact O hc h3)))
theorem m0 (x:Rat):x=x-6*((0:Int):Rat):=by push_cast;exact er1 (.e .a (.S .a .kJ)) [] rfl
section
variable{A B C N M:Int}
theorem UW (hd:N<M) (hA:A=M) (hB:N<=B/\B<=M) (hC:N<=C/\C<=M) (n:B=N\/C=N):HatB A B C N M (((B-C:Int):Rat)/((M-N:Int):Rat)):=by
 subst hA
 by_cases Ra:C=N
 ·refine bV (iA hd hB.1 hB.2) λq e q0 q1 h=>?_;refine O (pJ e Ra) ?_;exact .mk' 0 q0 (er1 (.t .a .n6) [.l .a .n1] rfl q1) (m0 q) (R_1 q1) (G_1 q0 q1) (B_0 (er1 (.l .a .n2) [.l .a .n1] rfl q1)) (pH N A) h (by exact O Ra (nQ N _))
 ·have Ul:B=N:=n.resolve_right Ra;refine bV (iA hd hC.1 hC.2) λq e q0 q1 h=>?_;have hq:q≠0:=λhq=>Ra (by rw[hq] at h;exact Db.mp (h.trans (nQ N _).symm));refine O (pI e Ul) ?_;exact .mk' (w:=6-q) (-1) (er1 (.l .n0 .k8) [.l .a .n1] rfl q1) (by grind) (by push_cast;exact er1 (.e .k8 (.S .k0 .jr)) [] rfl) (R_5 (er1 (.l .n5 .k8) [.l .a .n1] rfl q1)) (G_4 (er1 (.l .n4 .k8) [.l .a .n1] rfl q1)) ((B_3 (er1 (.l .n5 .k8) [.l .a .n1] rfl q1) (er1 (.l .k8 .n6) [.l .n0 .a] rfl q0)).trans (er1 (.e (.S .n6 .k8) .a) [] rfl:6-(6-q)=q)) (pH N A) (by exact O Ul (nQ N _)) h
theorem M4 (hd:N<M) (hB:B=M) (hA:N<=A/\A<=M) (hC:N<=C/\C<=M) (n:A=N\/C=N):HatB A B C N M (2+((C-A:Int):Rat)/((M-N:Int):Rat)):=by
 subst hB
 by_cases Ra:C=N
 ·refine bV (iA hd hA.1 hA.2) λq e q0 q1 h=>?_;refine O (pI e Ra) ?_;exact .mk' (w:=2-q) 0 (er1 (.l .n0 .ji) [.l .a .n1] rfl q1) (er1 (.t .ji .n6) [.l .n0 .a] rfl q0) (by push_cast;exact er1 (.e .ji (.S (.A .n2 .k0) .kJ)) [] rfl) ((R_2 (er1 (.l .n1 .ji) [.l .a .n1] rfl q1) (er1 (.l .ji .n2) [.l .n0 .a] rfl q0)).trans (er1 (.e (.S .n2 .ji) .a) [] rfl:2-(2-q)=q)) (G_2 (er1 (.l .n1 .ji) [.l .a .n1] rfl q1) (er1 (.l .ji .n3) [.l .n0 .a] rfl q0)) (B_0 (er1 (.l .ji .n2) [.l .n0 .a] rfl q0)) h (pH N B) (by exact O Ra (nQ N _))
 ·have Su:A=N:=n.resolve_right Ra;refine bV (iA hd hC.1 hC.2) λq e q0 q1 h=>?_;refine O (pJ e Su) ?_;exact .mk' (w:=2+q) 0 (er1 (.l .n0 .jn) [.l .n0 .a] rfl q0) (er1 (.t .jn .n6) [.l .a .n1] rfl q1) (m0 _) (R_3 (er1 (.l .n2 .jn) [.l .n0 .a] rfl q0) (er1 (.l .jn .n4) [.l .a .n1] rfl q1)) (G_2 (er1 (.l .n1 .jn) [.l .n0 .a] rfl q0) (er1 (.l .jn .n3) [.l .a .n1] rfl q1)) ((B_1 (er1 (.l .n2 .jn) [.l .n0 .a] rfl q0) (er1 (.l .jn .n3) [.l .a .n1] rfl q1)).trans (er1 (.e (.S .jn .n2) .a) [] rfl:2+q-2=q)) (by exact O Su (nQ N _)) (pH N B) h
theorem RG (hd:N<M) (hC:C=M) (hA:N<=A/\A<=M) (hB:N<=B/\B<=M) (n:A=N\/B=N):HatB A B C N M (4+((A-B:Int):Rat)/((M-N:Int):Rat)):=by
 subst hC
 by_cases Su:A=N
 ·refine bV (iA hd hB.1 hB.2) λq e q0 q1 h=>?_;refine O (pI e Su) ?_;exact .mk' (w:=4-q) 0 (er1 (.l .n0 .jd) [.l .a .n1] rfl q1) (er1 (.t .jd .n6) [.l .n0 .a] rfl q0) (by push_cast;exact er1 (.e .jd (.S (.A .n4 .k0) .kJ)) [] rfl) (R_3 (er1 (.l .n2 .jd) [.l .a .n1] rfl q1) (er1 (.l .jd .n4) [.l .n0 .a] rfl q0)) ((G_3 (er1 (.l .n3 .jd) [.l .a .n1] rfl q1) (er1 (.l .jd .n4) [.l .n0 .a] rfl q0)).trans (er1 (.e (.S .n4 .jd) .a) [] rfl:4-(4-q)=q)) (B_2 (er1 (.l .n3 .jd) [.l .a .n1] rfl q1) (er1 (.l .jd .n5) [.l .n0 .a] rfl q0)) (by exact O Su (nQ N _)) h (pH N C)
 ·have Ul:B=N:=n.resolve_left Su;refine bV (iA hd hA.1 hA.2) λq e q0 q1 h=>?_;refine O (pJ e Ul) ?_;exact .mk' (w:=4+q) 0 (er1 (.l .n0 .jE) [.l .n0 .a] rfl q0) (er1 (.t .jE .n6) [.l .a .n1] rfl q1) (m0 _) ((R_4 (er1 (.l .n4 .jE) [.l .n0 .a] rfl q0) (YH q1)).trans (er1 (.e (.S .jE .n4) .a) [] rfl:4+q-4=q)) (G_4 (er1 (.l .n4 .jE) [.l .n0 .a] rfl q0)) (B_2 (er1 (.l .n3 .jE) [.l .n0 .a] rfl q0) (YH q1)) h (by exact O Ul (nQ N _)) (pH N C)
end
theorem M5 (hd:aN A B C<aK A B C):HatB A B C (aN A B C) (aK A B C) (gR A B C):=by
 refine aP (d9 A B C) λm1 m2 m3 m4=>?_;refine aP (dI A B C) λn1 n2 n3 n4=>?_;unfold gR;generalize aK A B C=M at *;generalize aN A B C=N at *
 by_cases hA:A=M
 ·refine O (if_pos hA) (UW hd hA ⟨n2,m2⟩ ⟨n3,m3⟩ ?_);rcases n4 with e | e | e
  ·exact absurd (e.trans hA) (pf hd)
  ·exact .inl e.symm
  ·exact .inr e.symm
 ·refine O (if_neg hA) ?_
  by_cases hB:B=M
  ·refine O (if_pos hB) (M4 hd hB ⟨n1,m1⟩ ⟨n3,m3⟩ ?_);rcases n4 with e | e | e
   ·exact .inl e.symm
   ·exact absurd (e.trans hB) (pf hd)
   ·exact .inr e.symm
  ·refine O (if_neg hB) ?_;have hC:C=M:=by
    rcases m4 with e | e | e
    ·exact absurd e.symm hA
    ·exact absurd e.symm hB
    ·exact e.symm
   refine RG hd hC ⟨n1,m1⟩ ⟨n2,m2⟩ ?_;rcases n4 with e | e | e
   ·exact .inl e.symm
   ·exact .inr e.symm
   ·exact absurd (e.trans hC) (pf hd)
theorem E6{A B C:Int}(hd:aN A B C<aK A B C):∀t:Nat,∃(w:Rat) (j:Int),0<=w/\w<6/\w=gR A B C+(t:Rat)-6*j /\
  ((rot (aK A B C+aN A B C) A B C t).1:Rat)=(aN A B C:Rat)+((aK A B C-aN A B C:Int):Rat)*dN w /\
  ((rot (aK A B C+aN A B C) A B C t).2.1:Rat)=(aN A B C:Rat)+((aK A B C-aN A B C:Int):Rat)*bQ w /\
  ((rot (aK A B C+aN A B C) A B C t).2.2:Rat)=(aN A B C:Rat)+((aK A B C-aN A B C:Int):Rat)*fI w
 | 0=>by
  refine cC (M5 hd) λw j h0 h1 h2 h3=>?_;exact(bW w j h0 h1 (by refine O h2 ?_;push_cast;exact er2 (.e (.S .a .kA) (.S (.A .a .n0) .kA)) [] rfl) h3)
 | t+1=>by
  refine iT (E6 hd t) λw j h0 h1 h2 h3 zt=>?_;refine xa zt λh4 h5=>?_;clear zt;refine xaa (MY h0 h1 rfl) λs1 s2 s3=>?_;have hj:∃j':Int,(if w<5 then w+1 else w-5)=gR A B C+((t+1:Nat):Rat)-6*j':=by
   by_cases h:w<5
   ·refine O (if_pos h) ?_;exact⟨j,by refine O h2 ?_;push_cast;exact er3 (.e (.A (.S .kb .kX) .n1) (.S (.A .a .k7) .kX)) [] rfl⟩
   ·refine O (if_neg h) ?_;exact⟨j+1,by refine O h2 ?_;push_cast;exact er3 (.e (.S (.S .kb .kX) .n5) (.S (.A .a .k7) (.M .n6 (.A .c .n1)))) [] rfl⟩
  refine xe hj λj' hj=>?_;refine(bW _ j' ?_ ?_ hj (iaa ?_ ?_ ?_))
  ·split <;> grind
  ·split <;> grind
  ·refine O s1 ?_;dsimp only[E5];push_cast;refine O h4 ?_;push_cast;exact yh
  ·refine O s2 ?_;dsimp only[E5];push_cast;refine O h5 ?_;push_cast;exact yh
  ·refine O s3 ?_;dsimp only[E5];push_cast;refine O h3 ?_;push_cast;exact yh
theorem AJ{S:Nat}(hS:(1:Rat)<=(S:Rat)){A B C:Int}(hd:aN A B C<aK A B C){t:Nat}{l:List PV}{n δ u η e:Rat}{m:Int}(hn:n*S=(aN A B C:Rat)) (hδ:δ*S=((aK A B C-aN A B C:Int):Rat)) (d1:δ<=1)
  (h:Hats l n δ u η) (u0:0<=u) (u1:u<6) (e0:0<=e) (e1:e<=1/8) (h0:gR A B C+(t:Rat)-6*(m:Rat)-e<=u) (h1:u<=gR A B C+(t:Rat)-6*(m:Rat)+e) :
  ∃x y z:UInt64,l=[.flt x,.flt y,.flt z]/\Nr x (((rot (aK A B C+aN A B C) A B C t).1:Rat)/S) (η+e)/\Nr y (((rot (aK A B C+aN A B C) A B C t).2.1:Rat)/S) (η+e)/\Nr z (((rot (aK A B C+aN A B C) A B C t).2.2:Rat)/S) (η+e):=by
 refine iT (E6 hd t) λw j w0 w1 h2 h3 zt=>?_;refine xa zt λh4 h5=>?_;clear zt;obtain⟨⟨r1,r2⟩,⟨g1,g2⟩,⟨b1,b2⟩⟩:=G7 (j:=m-j) u0 u1 w0 w1 e0 e1 (by push_cast;exact ear [_,_,_,_,_,_,_] (.l (.S (.S .a (.M .n6 .kx)) .d) .e) [.l (.S (.S (.A .f .g) .kA) .d) .e,.e .a (.S (.A .f .g) .kX)] rfl h0 h2) (by push_cast;exact ear [_,_,_,_,_,_,_] (.l .a (.A (.S .b (.M .n6 .jc)) .e)) [.l .a (.A (.S (.A .f .g) .kX) .e),.e (.S (.A .f .g) .ju) .b] rfl h1 h2.symm);refine bI h λx y z hl hx hy hz=>?_;clear h;have hp:(0:Rat)<(S:Rat):=by exact yb hS
 have dpos:0<=δ:=by
  refine cV hp ?_;refine O hδ (O (ej ..) ?_);have:=bg.mpr (show(0:Int)<aK A B C-aN A B C by exact Yc hd);have h0:((0:Int):Rat)=0:=rfl;exact er2 (.l .n0 .a) [.t .b .a,.e .n0 .b] rfl this h0.symm
 have key:∀{x:UInt64}{v:Int}{g g':Rat},Nr x (n+δ*g) η->(v:Rat)=(aN A B C:Rat)+((aK A B C-aN A B C:Int):Rat)*g'->g'-e<=g->g<=g'+e->Nr x ((v:Rat)/S) (η+e):=by
  intro x v g g' ⟨f,a,b⟩ hv k1 k2;have ev:(v:Rat)/S=n+δ*g':=by
   refine O hv (XO hn (XO hδ ?_));have:(n*S+δ*S*g')=(n+δ*g')*S:=by exact er4 (.e (.A .kd (.M .k6 .d)) (.M (.A .a .kD) .b)) [] rfl
   refine O this ?_;grind
  refine O ev ?_;have p:=fR dpos d1 (x:=g-g') (e:=e) (er3 (.l .k0 .kx) [.l (.S .c .a) .b] rfl k1) (er3 (.l .ka .c) [.l .a .kH] rfl k2);exact⟨f,by exact ear [_,_,_,_,_,_,_] (.l (.S (.A .a .kq) (.A .d .e)) .f) [.l (.S (.A .a (.M .b .g)) .d) .f,.l (.G .e) (.M .b (.S .g .c))] rfl a p.1,by exact ear [_,_,_,_,_,_,_] (.l .a (.A (.A .b .kD) (.A .e .f))) [.l .a (.A (.A .b (.M .c .g)) .e),.l (.M .c (.S .g .d)) .f] rfl b p.2⟩
 exact⟨x,y,z,hl,key hx h3 r1 r2,key hy h4 g1 g2,key hz h5 b1 b2⟩
noncomputable def fq (x y:Int):UInt64:=ofFrac (decide (x<0) != decide (y<0)) x.natAbs y.natAbs
theorem j6 (x y:Int) (hy:0<y) (h:FinF (fq x y)):dM .Div (.int x) (.int y)=some (.flt (fq x y)):=by
 show(if _ then _ else _)=_;rw[if_pos]
 ·rfl
 ·refine⟨hy,?_⟩;refine gB h λa m e hd=>?_;clear h;unfold fq at hd;unfold pq;exact O hd rfl
theorem XC (hy:0<y) (p:Pw M) (h:x.natAbs<=y*M):FinF (fq x (y:Int))/\(x:Rat)/(y:Rat)-(M:Rat)/2 ^ 54<=R (fq x (y:Int))/\R (fq x (y:Int))<=(x:Rat)/(y:Rat)+(M:Rat)/2 ^ 54/\(Dy ((x:Rat)/(y:Rat))->R (fq x (y:Int))=(x:Rat)/(y:Rat)):=by
 have:=L5 (n:=x.natAbs) (d:=y) (s:=decide (x<0)) hy p h;rw[CN] at this;unfold fq;have e:(decide (x<0) != decide ((y:Int)<0))=decide (x<0):=by
  have:decide ((y:Int)<0)=false:=by rfl
  refine O this ?_;simp
 (refine O e ?_;rw[ml])
 exact this
theorem WD (hS:Sc S) (h:x.natAbs<=2 ^ 53):Gr S (fq x (S:Int)) x:=by
 have h0:0<S:=by exact O hS.eq (gq _)
 have hp:(0:Rat)<(S:Rat):=by have:=hS.pos;exact yb this
 refine aP (XC (x:=x) h0 (M:=2 ^ 53) ⟨53,by decide,rfl⟩ (aa h (Nat.le_mul_of_pos_left _ h0))) λa aT Ik d=>?_;clear aT;clear Ik;have e:(x:Rat)/(S:Rat)*(S:Rat)=x:=dmc (by assumption);refine⟨a,?_⟩;exact O (d (hS.dy e h)) e
structure Hsv (S:Nat) (A B C:Int) (h s v:UInt64):Prop where
 fh:FinF h
 fs:FinF s
 fv:FinF v
 lv:R v*(S:Rat)=((aK A B C:Int):Rat)
 h0:0<=R h
 h1:R h<=1+1/2 ^ 52
 hue:∃n:Int,gR A B C-6*n-1/2 ^ 49<=6*R h/\6*R h<=gR A B C-6*n+1/2 ^ 49
 s0:0<R s
 s1:R s<=1+1/2 ^ 54
 w1:((aK A B C-aN A B C:Int):Rat)/(S:Rat)-1/2 ^ 54<=R v*R s
 w2:R v*R s<=((aK A B C-aN A B C:Int):Rat)/(S:Rat)+1/2 ^ 54
theorem WE{k d:Int}(hk:1<=k) (hd:0<d) (h:d<=2 ^ 50):1/2 ^ 50<=(k:Rat)/(d:Rat):=by
 have a0:(0:Rat)<(d:Rat):=by have:=bg.mpr hd;exact_mod_cast this
 have a1:=al.mpr h;have a2:=al.mpr hk;rw[od] at a1;have a3:(k:Rat)/(d:Rat)*(d:Rat)=(k:Rat):=dmc (by assumption);refine cV a0 ?_;refine O a3 ?_;have:((1:Int):Rat)=1:=rfl;have:((2:Int):Rat)=2:=rfl;grind
section
variable{S:Nat}{r g b:UInt64}{A B C:Int}{F:Fn}
theorem SS (hS:Sc S) (Kn:S<=2 ^ 50) (hr:Gr S r A) (hg:Gr S g B) (hb:Gr S b C) (hA:0<=A/\A<=S) (hB:0<=B/\B<=S) (hC:0<=C/\C<=S) (hd:aN A B C<aK A B C) :
  ∃s v,dJ F Co.bC [.flt r,.flt g,.flt b]=some (.tup [.flt (iS r g b),.flt s,.flt v])/\Hsv S A B C (iS r g b) s v:=by
 have gM:=tT hS hr hg hb;have gN:=tU hS hr hg hb;refine aP (d9 A B C) λm1 m2 m3 m4=>?_;refine aP (dI A B C) λn1 n2 n3 n4=>?_;have hM:aK A B C<=(S:Int):=m4.elim (λe=>au (ck e) hA.2) λh=>h.elim (λe=>au (ck e) hB.2) λe=>au (ck e) hC.2;have hN:0<=aN A B C:=n4.elim (λe=>au hA.1 (ck e.symm)) λh=>h.elim (λe=>au hB.1 (ck e.symm)) λe=>au hC.1 (ck e.symm);clear m1 m2 m3 m4 n1 n2 n3 n4;have gD:=gQ hS gM gN (eam [_,_] [_,_] (.x .q .ki) [.x .r .kp,.l .a .r,.l .n0 .b,.e .q .ka] rfl Kn hM hN (an (eaz [_,_] (.l .n0 .ka) [.t .b .a] rfl hd)));have Pa:eqB (mn3 r g b) (mx3 r g b)=false:=by refine O (kR hS gN gM) ?_;simp;exact pf (hd)
 have zM:bx (mx3 r g b)=false:=by refine O (oP hS gM) ?_;simp;exact ew (oa hN hd)
 have zD:bx (ab (mx3 r g b) (mn3 r g b))=false:=by refine O (oP hS gD) ?_;simp;exact ew (Yc hd)
 refine aP (CU hS hr hg hb ⟨hA.1,by exact eam [_] [_] (.l .a .kp) [.x .q .kp,.l .a .q] rfl Kn hA.2⟩ ⟨hB.1,by exact eam [_] [_] (.l .a .kp) [.x .q .kp,.l .a .q] rfl Kn hB.2⟩ ⟨hC.1,by lia⟩ hd) λf1 f2 f3 f4=>?_;refine(kC _ _ (UL Pa zM zD) ?_);refine aP (nN hS gD gM (Yb hd) (ez2 (.l .ka .a) [.l .n0 .b] rfl hN) (oa hN hd)) λd1 d2 d3 aT=>?_;clear aT;refine xa (j4 (n:=aK A B C-aN A B C) (m:=aK A B C) (Yb hd) (by lia) (by lia)) λd4 d5=>?_;have hp:(0:Rat)<(S:Rat):=by have:=hS.pos;exact yb this
 have hl:=WE (k:=aK A B C-aN A B C) (d:=aK A B C) (YI hd) (by lia) (eam [_] [_] (.l .a .kp) [.x .q .kp,.l .a .q] rfl Kn hM);have hm:(0:Rat)<((aK A B C:Int):Rat):=by
  have:=bg.mpr (show 0<aK A B C by lia)
  exact_mod_cast this
 have hmS:((aK A B C:Int):Rat)<=(S:Rat):=by
  have:=al.mpr (show aK A B C<=(S:Int) by exact hM)
  exact_mod_cast this
 have e1:R (mx3 r g b)*(((aK A B C-aN A B C:Int):Rat)/((aK A B C:Int):Rat))=((aK A B C-aN A B C:Int):Rat)/(S:Rat):=by
  have q1:((aK A B C-aN A B C:Int):Rat)/((aK A B C:Int):Rat)*((aK A B C:Int):Rat)=((aK A B C-aN A B C:Int):Rat):=mi (oq hm);have q2:((aK A B C-aN A B C:Int):Rat)/(S:Rat)*(S:Rat)=((aK A B C-aN A B C:Int):Rat):=mi (oq hp);have q3:=gM.2;generalize ((aK A B C-aN A B C:Int):Rat)/((aK A B C:Int):Rat)=P at *;generalize ((aK A B C-aN A B C:Int):Rat)/(S:Rat)=Q at *;refine eQ hp ?_;exact O q2 (XO q1 (XO q3 (er3 (.e .jN (.M .b .kW)) [] rfl)))
 have v0:0<=R (mx3 r g b):=cV hp (by exact O gM.2 (O (ej ..) (ar hm)));have v1:R (mx3 r g b)<=1:=cV hp (by exact O gM.2 (O (on ..) hmS));generalize ((aK A B C-aN A B C:Int):Rat)/((aK A B C:Int):Rat)=P at *;have p:=fR v0 v1 (x:=R (div (ab (mx3 r g b) (mn3 r g b)) (mx3 r g b))-P) (e:=1/2 ^ 54) (ys d2) (YG d3);exact⟨f1,d1,gM.1,gM.2,f2,f3,f4,by exact er2 (.t .n0 .a) [.l (.S .b .kl) .a,.l (.D .n1 .kp) .b] rfl d2 hl,by exact er2 (.l .a .jl) [.l .a .jh,.l .b .n1] rfl d3 d5,by exact er4 (.l (.S .a .kl) .kq) [.e .a .jG,.l (.G .kl) (.M .b .jc)] rfl e1.symm p.1,by exact er4 (.l .kd (.A .c .kl)) [.e (.M .a .d) .c,.l (.M .a (.S .b .d)) .kl] rfl e1 p.2⟩
theorem AK (hS:Sc S) (hr:Gr S r A) (hg:Gr S g A) (hb:Gr S b A) :
  ∃v,dJ F Co.bC [.flt r,.flt g,.flt b]=some (.tup [.flt 0,.flt 0,.flt v])/\Gr S v A:=by
 have gM:=tT hS hr hg hb;have gN:=tU hS hr hg hb;have e1:aK A A A=A:=by unfold aK;simp
 have e2:aN A A A=A:=by unfold aN;trivial
 rw[e1] at gM;rw[e2] at gN;exact(iea _ (UK (by refine O (kR hS gN gM) ?_;simp)) gM)
end
theorem G9:dJ F Co.bA [.flt h,.flt 0,.flt v]=some (.tup [.flt v,.flt v,.flt v]) :=
 RA (by decide +kernel)
theorem HA:dJ F (Co.a8 k) [.flt h,.flt l,.flt 0]=some (.tup [.flt l,.flt l,.flt l]) :=
 RC (by decide +kernel)
theorem M6{S:Nat}{A B C:Int}{h h' s v:UInt64}{t:Nat}{F:Fn}{e:Rat}{m:Int}(hS:Sc S) (hx:Hsv S A B C h s v) (hd:aN A B C<aK A B C) (Pj:0<=aN A B C) (Pk:aK A B C<=S)
  (fh:FinF h') (h0:0<=R h') (h1:R h'<=100) (e0:0<=e) (e1:e<=1/2 ^ 42) (k0:6*R h+(t:Rat)-6*m-e<=6*R h') (k1:6*R h'<=6*R h+(t:Rat)-6*m+e) :
  ∃x y z:UInt64,dJ F Co.bA [.flt h',.flt s,.flt v]=some (.tup [.flt x,.flt y,.flt z]) /\
   Nr x (((rot (aK A B C+aN A B C) A B C t).1:Rat)/S) (1/2 ^ 41)/\Nr y (((rot (aK A B C+aN A B C) A B C t).2.1:Rat)/S) (1/2 ^ 41)/\Nr z (((rot (aK A B C+aN A B C) A B C t).2.2:Rat)/S) (1/2 ^ 41):=by
 have Lu:=hS.pos;have hp:(0:Rat)<(S:Rat):=by exact yb Lu
 have i0:(0:Rat)<=((aN A B C:Int):Rat):=by have:=al.mpr Pj;exact_mod_cast this
 have i1:((aN A B C:Int):Rat)<((aK A B C:Int):Rat):=bg.mpr hd;have i2:((aK A B C:Int):Rat)<=(S:Rat):=by have:=al.mpr Pk;exact_mod_cast this
 have eD:((aK A B C-aN A B C:Int):Rat)/(S:Rat)*(S:Rat)=((aK A B C-aN A B C:Int):Rat):=mi (oq hp);have hv:=hx.lv;have w1:=hx.w1;have w2:=hx.w2;refine xea hx.hue λn Xa Xb=>?_;generalize ((aK A B C-aN A B C:Int):Rat)/(S:Rat)=δ at *;have eD':=eD;rw[wk] at eD';have v0:0<=R v:=cV hp (by exact O hv (O (ej ..) (er2 (.l .n0 .a) [.l .n0 .b,.t .b .a] rfl i0 i1)));have v1:R v<=1:=cV hp (by exact O hv (O (on ..) i2));have d0:0<δ:=ec (c:=(S:Rat)) (by exact O eD' (O (ej ..) (er2 (.t .n0 .ka) [.t .b .a] rfl i1))) (ar hp);have d1:δ<=1:=cV hp (by exact O eD' (O (on ..) (er3 (.l .ka .c) [.l .n0 .b,.l .a .c] rfl i0 i2)));refine xea (UT (F:=F) fh hx.fv hx.fs h0 h1 v0 v1 d0 d1 hx.s0 hx.s1 w1 w2) λl hl zt=>?_;refine iT zt λu m' u0 u1 hh u2 u3=>?_;clear zt;refine bI (AJ (S:=S) Lu hd (t:=t) (n:=R v-δ) (δ:=δ) (e:=1/2 ^ 41-32/2 ^ 54) (m:=m+m'+n) (er5 (.e .jy .d) [.e .kW .e,.e .jI .kq] rfl hv eD'.symm) eD d1 hh u0 u1 (er0 (.l .n0 (.S .k2 .kG)) [] rfl) (er0 (.l (.S .k2 .kG) .kB) [] rfl) (by push_cast;exact ear [_,_,_,_,_,_,_,_,_] (.l (.S (.S .kb (.M .n6 (.A .jv .e))) (.S .k2 .kG)) .f) [.l .g .jo,.l (.S (.S (.A .j7 .b) .kX) .g) .j8,.l (.S (.S .a (.M .n6 .e)) .kz) .j7,.l (.S (.S .j8 .ju) .kZ) .f] rfl e1 k0 Xa u2) (by push_cast;exact ear [_,_,_,_,_,_,_,_,_] (.l .a (.A (.S .kH (.M .n6 (.A (.A .d .e) .f))) (.S .k2 .kG))) [.l .g .jo,.l .j7 (.A (.S (.A .j8 .c) .ju) .g),.l .j8 (.A (.S .b (.M .n6 .f)) .kz),.l .a (.A (.S .j7 (.M .n6 .e)) .kZ)] rfl e1 k1 Xb u3)) λx y z aT Lv Oq Ow=>?_;subst aT;have e3:(32/2 ^ 54+(1/2 ^ 41-32/2 ^ 54):Rat)=1/2 ^ 41:=by exact er0 (.e (.A .kG (.S .k2 .kG)) .k2) [] rfl
 rw[e3] at Lv Oq Ow;exact(cD x y z hl Lv Oq Ow)
structure Hls (S:Nat) (A B C:Int) (h l s:UInt64):Prop where
 fh:FinF h
 fl:FinF l
 fs:FinF s
 lv:R l=(((aK A B C:Int):Rat)/(S:Rat)+((aN A B C:Int):Rat)/(S:Rat))/2
 h0:0<=R h
 h1:R h<=1+1/2 ^ 52
 hue:∃n:Int,gR A B C-6*n-1/2 ^ 49<=6*R h/\6*R h<=gR A B C-6*n+1/2 ^ 49
 s0:0<R s
 s1:R s<=1+1/2 ^ 54
 w:(R l<=1/2/\(((aK A B C:Int):Rat)/(S:Rat)-((aN A B C:Int):Rat)/(S:Rat))/2-1/2 ^ 54<=R l*R s/\R l*R s<=(((aK A B C:Int):Rat)/(S:Rat)-((aN A B C:Int):Rat)/(S:Rat))/2+1/2 ^ 54) \/
  (1/2<R l/\(((aK A B C:Int):Rat)/(S:Rat)-((aN A B C:Int):Rat)/(S:Rat))/2-1/2 ^ 54<=(1-R l)*R s/\(1-R l)*R s<=(((aK A B C:Int):Rat)/(S:Rat)-((aN A B C:Int):Rat)/(S:Rat))/2+1/2 ^ 54)
section
variable{S:Nat}{r g b:UInt64}{A B C:Int}{F:Fn}
theorem M7 (hS:Sc S) (Kn:S<=2 ^ 50) (hr:Gr S r A) (hg:Gr S g B) (hb:Gr S b C) (hA:0<=A/\A<=S) (hB:0<=B/\B<=S) (hC:0<=C/\C<=S) (hd:aN A B C<aK A B C) :
  ∃l s,dJ F Co.bB [.flt r,.flt g,.flt b]=some (.tup [.flt (iS r g b),.flt l,.flt s])/\Hls S A B C (iS r g b) l s:=by
 have gM:=tT hS hr hg hb;have gN:=tU hS hr hg hb;refine aP (d9 A B C) λm1 m2 m3 m4=>?_;refine aP (dI A B C) λn1 n2 n3 n4=>?_;have hM:aK A B C<=(S:Int):=m4.elim (λe=>au (ck e) hA.2) λh=>h.elim (λe=>au (ck e) hB.2) λe=>au (ck e) hC.2;have hN:0<=aN A B C:=n4.elim (λe=>au hA.1 (ck e.symm)) λh=>h.elim (λe=>au hB.1 (ck e.symm)) λe=>au hC.1 (ck e.symm);clear m1 m2 m3 m4 n1 n2 n3 n4;have gD:=gQ hS gM gN (eam [_,_] [_,_] (.x .q .ki) [.x .r .kp,.l .a .r,.l .n0 .b,.e .q .ka] rfl Kn hM hN (an (eaz [_,_] (.l .n0 .ka) [.t .b .a] rfl hd)));have Pa:eqB (mn3 r g b) (mx3 r g b)=false:=by refine O (kR hS gN gM) ?_;simp;exact pf (hd)
 have zD:bx (ab (mx3 r g b) (mn3 r g b))=false:=by refine O (oP hS gD) ?_;simp;exact ew (Yc hd)
 refine aP (CU hS hr hg hb ⟨hA.1,by exact eam [_] [_] (.l .a .kp) [.x .q .kp,.l .a .q] rfl Kn hA.2⟩ ⟨hB.1,by exact eam [_] [_] (.l .a .kp) [.x .q .kp,.l .a .q] rfl Kn hB.2⟩ ⟨hC.1,by exact eam [_] [_] (.l .a .kp) [.x .q .kp,.l .a .q] rfl Kn hC.2⟩ hd) λf1 f2 f3 f4=>?_;obtain⟨⟨Nk,Xc⟩,z1',z2',s1,s2,s3,s4⟩:=WB hS gM gN (by omega) hd (by omega) (eam [_,_] [_] (.t .kb .jx) [.t .b .a,.L 2 .a .q] rfl hd hM) Kn;refine(kC _ _ (UN Pa zD (λKf=>z1' (by rw[M2 Nk lh.1,lh.2] at Kf;simpa using Kf)) (λ_=>z2')) ?_);have hp:(0:Rat)<(S:Rat):=by have:=hS.pos;exact yb this
 have eM:R (mx3 r g b)=((aK A B C:Int):Rat)/(S:Rat):=by
  refine eQ hp ?_;exact O gM.2 ((mi (oq hp)).symm)
 have eN:R (mn3 r g b)=((aN A B C:Int):Rat)/(S:Rat):=by
  refine eQ hp ?_;exact O gN.2 ((mi (oq hp)).symm)
 rw[<- Xc] at s4;rw[eM,eN] at Xc s4;exact⟨f1,Nk,s1,Xc,f2,f3,f4,s2,s3,s4⟩
theorem M8 (hS:Sc S) (hr:Gr S r A) (hg:Gr S g A) (hb:Gr S b A) (hA:0<=A/\A<=2 ^ 50) :
  ∃v,dJ F Co.bB [.flt r,.flt g,.flt b]=some (.tup [.flt 0,.flt v,.flt 0])/\Gr S v A:=by
 have gM:=tT hS hr hg hb;have gN:=tU hS hr hg hb;have e1:aK A A A=A:=by unfold aK;simp
 have e2:aN A A A=A:=by unfold aN;trivial
 rw[e1] at gM;rw[e2] at gN;refine(iea _ (UM (by refine O (kR hS gN gM) ?_;simp)) ?_);have gS:=MS hS gM gN (eam [_] [_] (.x .q .ki) [.L 2 .a .kp,.e .q (.A .a .a)] rfl hA.2 (an (eaz [_] (.l .n0 (.A .a .a)) [.L 2 .n0 .a] rfl hA.1)));refine xa l2 λt1 t2=>?_;have Lu:=hS.pos;have hp:(0:Rat)<(S:Rat):=by exact yb Lu
 have h0:((0:Int):Rat)<=((A+A:Int):Rat):=al.mpr (ez1 (.l .n0 (.A .a .a)) [.L 2 .n0 .a] rfl hA.1);have h00:((0:Int):Rat)=0:=rfl;have hA2:((A+A:Int):Rat)<=((2 ^ 51:Int):Rat):=al.mpr (ez1 (.l (.A .a .a) (.P .n2 51)) [.L 2 .a .kp] rfl hA.2);rw[od] at hA2;have h2:((2:Int):Rat)=2:=rfl;have Lb:0<=R (add (mx3 r g b) (mn3 r g b)):=cV hp (by exact O gS.2 (O (ej ..) (er2 (.l .n0 .a) [.l .b .a,.e .n0 .b] rfl h0 h00.symm)));have hb1:R (add (mx3 r g b) (mn3 r g b))<=2 ^ 52:=gK Lu (er0 (.l .n0 (.P .n2 52)) [] rfl) (by refine O gS.2 ?_;grind);have gS2:=gS.2;refine aP (AE gS.1 t1 (by exact O t2 (er0 (.t .n0 .n2) [] rfl)) (M:=2 ^ 53) ⟨53,by decide,rfl⟩ (by refine O t2 ?_;push_cast;exact er1 (.l (.G (.M .ja .n2)) .a) [.l .n0 .a] rfl Lb) (by refine O t2 ?_;push_cast;exact er1 (.l .a (.M .ja .n2)) [.l .a (.P .n2 52)] rfl hb1)) λq1 aT Ik q4=>?_;clear aT;clear Ik;rw[t2] at q4;have YR:R (add (mx3 r g b) (mn3 r g b))/2*(S:Rat)=(A:Rat):=by push_cast at gS2;exact er3 (.U 2 (.M (.D .a .n2) .b) .c) [.e .kd (.A .c .c)] rfl gS2
 exact⟨q1,by exact O (q4 (hS.dy YR (eam [_] [_] (.x .q .ki) [.l .a .kp,.e .q .a] rfl hA.2 (an (eaz [_] (.l .n0 .a) [.l .n0 .a] rfl hA.1))))) YR⟩
end
theorem M9{S:Nat}{A B C:Int}{h h' l s:UInt64}{t k:Nat}{F:Fn}{e:Rat}{m:Int}(hF:∀m1 m2 u:UInt64,F k [.flt m1,.flt m2,.flt u]=some (.flt (vF m1 m2 (bz u one).2)))
  (hS:Sc S) (hx:Hls S A B C h l s) (hd:aN A B C<aK A B C) (Pj:0<=aN A B C) (Pk:aK A B C<=S)
  (fh:FinF h') (h0:-1<=R h') (h1:R h'<=2) (e0:0<=e) (e1:e<=1/2 ^ 42) (k0:6*R h+(t:Rat)-6*m-e<=6*R h') (k1:6*R h'<=6*R h+(t:Rat)-6*m+e) :
  ∃x y z:UInt64,dJ F (Co.a8 k) [.flt h',.flt l,.flt s]=some (.tup [.flt x,.flt y,.flt z]) /\
   Nr x (((rot (aK A B C+aN A B C) A B C t).1:Rat)/S) (1/2 ^ 40)/\Nr y (((rot (aK A B C+aN A B C) A B C t).2.1:Rat)/S) (1/2 ^ 40)/\Nr z (((rot (aK A B C+aN A B C) A B C t).2.2:Rat)/S) (1/2 ^ 40):=by
 have Lu:=hS.pos;have hp:(0:Rat)<(S:Rat):=by exact yb Lu
 have i0:(0:Rat)<=((aN A B C:Int):Rat):=by have:=al.mpr Pj;exact_mod_cast this
 have i1:((aN A B C:Int):Rat)<((aK A B C:Int):Rat):=bg.mpr hd;have i2:((aK A B C:Int):Rat)<=(S:Rat):=by have:=al.mpr Pk;exact_mod_cast this
 have eM:((aK A B C:Int):Rat)/(S:Rat)*(S:Rat)=((aK A B C:Int):Rat):=dmc (by assumption);have eN:((aN A B C:Int):Rat)/(S:Rat)*(S:Rat)=((aN A B C:Int):Rat):=dmc (by assumption);have hv:=hx.lv;have w:=hx.w;refine xea hx.hue λn Xa Xb=>?_;generalize ((aK A B C:Int):Rat)/(S:Rat)=μ at *;generalize ((aN A B C:Int):Rat)/(S:Rat)=ν at *;have n0:0<=ν:=cV hp (by exact O eN (O (ej ..) i0));have m1:μ<=1:=cV hp (by exact O eM (O (on ..) i2));have nm:ν<μ:=ec (c:=(S:Rat)) (by exact O eM (O eN i1)) (ar hp);refine xea (UV (δ:=μ-ν) hF fh h0 h1 hx.fl hx.fs (er3 (.l .n0 (.S .a (.D .kx .n2))) [.e (.D .kH .n2) .a,.l .n0 .c] rfl hv.symm n0) (er3 (.l (.A .a (.D .kx .n2)) .n1) [.e .a (.D .kH .n2),.l .b .n1] rfl hv m1) (er2 (.t .n0 .ka) [.t .b .a] rfl nm) hx.s0 hx.s1 w) λc hl zt=>?_;refine iT zt λu m' u0 u1 hh u2 u3=>?_;clear zt;refine bI (AJ (S:=S) Lu hd (t:=t) (n:=R l-(μ-ν)/2) (δ:=μ-ν) (e:=1/2 ^ 40-4096/2 ^ 54) (m:=m+m'+n) (by grind) (by push_cast;exact er5 (.e .jy (.S .d .e)) [.e .kW .d,.e .e .kq] rfl eM eN.symm) (er2 (.l .ka .n1) [.l .n0 .b,.l .a .n1] rfl n0 m1) hh u0 u1 (er0 (.l .n0 .jY) [] rfl) (er0 (.l .jY .kB) [] rfl) (by push_cast;exact ear [_,_,_,_,_,_,_,_,_] (.l (.S (.S .kb (.M .n6 (.A .jv .e))) .jY) .f) [.l .g .jo,.l (.S (.S (.A .j7 .b) .kX) .g) .j8,.l (.S (.S .a (.M .n6 .e)) .kz) .j7,.l (.S (.S .j8 .ju) .kZ) .f] rfl e1 k0 Xa u2) (by push_cast;exact ear [_,_,_,_,_,_,_,_,_] (.l .a (.A (.S .kH (.M .n6 (.A (.A .d .e) .f))) .jY)) [.l .g .jo,.l .j7 (.A (.S (.A .j8 .c) .ju) .g),.l .j8 (.A (.S .b (.M .n6 .f)) .kz),.l .a (.A (.S .j7 (.M .n6 .e)) .kZ)] rfl e1 k1 Xb u3)) λx y z aT Lv Oq Ow=>?_;subst aT;have e3:(4096/2 ^ 54+(1/2 ^ 40-4096/2 ^ 54):Rat)=1/2 ^ 40:=by exact er0 (.e (.A (.E 4096) .jY) .jf) [] rfl
 rw[e3] at Lv Oq Ow;exact(cD x y z hl Lv Oq Ow)
theorem E7{i:Int}(h:i.natAbs<=2 ^ 53):okF i=true:=by
 obtain⟨⟨a,m,e,hd⟩,-⟩:=qX h
 delta okF pq
 refine O hd ?_;rfl
theorem tY{S:Nat}(hS:1<=S) (Kn:S<=2 ^ 28){x:UInt64}{V:Int}(h0:0<=V) (h1:V<=S) (h:Nr x ((V:Rat)/S) (1/2 ^ 40)) :
  biF .int [.flt (add (mul (cr (S:Int)) x) 0x3fe0000000000000)]=some (.int V):=by
 refine xaa h λf a b=>?_;clear h;refine xa (qX (i:=(S:Int)) (en2 (.x .q .ki) [.x .r (.P .n2 28),.e .q .r] rfl Kn (an (ean [_] (.l .n0 .q) [] rfl)))) λs1 s2=>?_;have Lu:(1:Rat)<=(S:Rat):=by exact_mod_cast hS
 have hp:(0:Rat)<(S:Rat):=by exact yb Lu
 have Nf:(S:Rat)<=2 ^ 28:=by
  have:=ql.mpr Kn;rw[Rat.natCast_pow] at this
  exact_mod_cast this
 have Nh:(0:Rat)<=(V:Rat):=by have:=al.mpr h0;exact_mod_cast this
 have YS:(V:Rat)<=(S:Rat):=by have:=al.mpr h1;exact_mod_cast this
 have e1:(V:Rat)/S*S=V:=dmc (by assumption);generalize (V:Rat)/S=q at *;have s3:R (cr (S:Int))=(S:Rat):=by refine O s2 ?_;push_cast;rfl
 have hx:=fz a (ar hp);have Lv:=fz b (ar hp);have p1:(S:Rat)*R x<=(V:Rat)+1/2 ^ 12:=by exact er4 (.L 1099511627776 .kd (.A .c .k3)) [.l .a (.P .n2 28),.U 1099511627776 (.M .d .a) .c,.L 1099511627776 (.M .b .a) (.M (.A .d .jf) .a)] rfl Nf e1 Lv
 have p2:(V:Rat)-1/2 ^ 12<=(S:Rat)*R x:=by exact er4 (.L 1099511627776 (.S .a .k3) .kq) [.l .b (.P .n2 28),.U 1099511627776 .a .jp,.L 1099511627776 (.M (.S .d .jf) .b) .k6] rfl Nf e1.symm hx
 refine aP (jW s1 f (M:=2 ^ 30) ⟨30,by decide,rfl⟩ (by refine O s3 ?_;push_cast;exact er3 (.l (.G (.N 1073741824)) .kd) [.l .n0 .c,.l (.S .c .k3) .kd] rfl Nh p2) (by refine O s3 ?_;push_cast;exact er3 (.l .kd (.N 1073741824)) [.l .a (.P .n2 28),.l .c .a,.l .kd (.A .c .k3)] rfl Nf YS p1)) λm1 m2 m3 aT=>?_;clear aT;rw[s3] at m2 m3;push_cast at m2 m3;refine xa lh λt1 t2=>?_;refine aP (jV m1 t1 (M:=2 ^ 30) ⟨30,by decide,rfl⟩ (by refine O t2 ?_;push_cast;exact er4 (.l (.G (.N 1073741824)) (.A .a .kf)) [.l .n0 .b,.l (.S .b .k3) .kD,.l (.S .kD .jZ) .a] rfl Nh p2 m2) (by refine O t2 ?_;push_cast;exact er4 (.l (.A .a .kf) (.N 1073741824)) [.l .b (.P .n2 28),.l .c .b,.l .jG (.A .c .k3),.l .a (.A .jG .jZ)] rfl Nf YS p1 m3)) λc1 c2 c3 aT=>?_;clear aT;rw[t2] at c2 c3;push_cast at c2 c3;exact US c1 V h0 (er5 (.l .a .b) [.l (.S .a .k3) .kD,.l (.S .kD .jZ) .e,.l (.S (.A .e .kf) .jZ) .b] rfl p2 m2 c2) (er5 (.t .a .k7) [.l .kD (.A .b .k3),.l .e (.A .kD .jZ),.l .a (.A (.A .e .kf) .jZ)] rfl p1 m3 c3)
theorem WF (Z A B C:Int):rot Z A B C 3=(Z-A,Z-B,Z-C):=by
 simp only[WC,E5];refine tu ?_ (tu ?_ ?_) <;> simp only <;> lia
section
variable{F:Fn}{pe:PEnv}{src:PI}{e c:PE}{tg:Nat}{items:List PV}
theorem wB (f:PV->PV):∀(items:List PV),(∀p∈items,ee (st pe tg p)=some (f p))->cF cc ee false tg pe items=some (items.map f)
 | [],_=>rfl
 | p::l,h=>by
  have h1:=h p (aj);have h2:=wB (cc:=cc) f l λq hq=>h q (by simp[hq]);exact l7 h1 h2
theorem oS (f:PV->PV) (b:PV->Bool):∀(items:List PV),(∀p∈items,cc (st pe tg p)=some (.bool (b p))/\(b p=true->ee (st pe tg p)=some (f p)))->cF cc ee true tg pe items=some ((items.filter b).map f)
 | [],_=>rfl
 | p::l,h=>by
  refine xa (h p (aj)) λh0 h1=>?_;have h2:=oS f b l λq hq=>h q (by simp[hq]);cases hb:b p
  ·exact(O2 (by rw[h0,hb]) h2).trans (by rw[List.filter_cons_of_neg (by rw[hb];exact qf)])
  ·exact(O3 (by rw[h0,hb]) (h1 hb) h2).trans (by rw[List.filter_cons_of_pos hb];rfl)
theorem iQ (f:PV->PV) (hs:fH F src pe=some items) (h:∀p∈items,aA F e (st pe tg p)=some (f p)):aA F (.comp e tg src false c) pe=some (.lst (items.map f)):=by
 simp only[aF,hs,wB f items h,bl]
theorem qF (f:PV->PV) (b:PV->Bool) (hs:fH F src pe=some items) (h:∀p∈items,aA F c (st pe tg p)=some (.bool (b p))/\(b p=true->aA F e (st pe tg p)=some (f p))):aA F (.comp e tg src true c) pe=some (.lst ((items.filter b).map f)):=by
 simp only[aF,hs,oS f b items h,bl]
theorem jL (h:aA F a pe=some (.lst l)) (hl:l.length<=100000):fH F (.val a) pe=some l:=by
 simp only[aF,h,r8,r9,hl,if_true]
theorem NA (h:aA F a pe=some (.tup l)) (hl:l.length<=100000):fH F (.val a) pe=some l:=by
 simp only[aF,h,r8,r9,hl,if_true]
noncomputable def rng (n:Nat):List PV:=(cv n).map λk:Nat=>PV.int (k:Int)
theorem t5{n:Nat}{a:PE}(h:aA F a pe=some (.int (n:Int))) (hn:n<=100000):fH F (.rng1 a) pe=some (rng n):=by
 simp only[aF,h]
 delta kF rng
 refine O (if_pos (⟨fn0 (.t (.G .kw) .n0) [],⟨fn0 (.t .n0 .kw) [],⟨fn1 (.t (.G .kw) .q) [],⟨fn1 (.t .q .kw) [.x .q .kv] hn,fn1 (.l (.S .q .n0) .kv) [.x .q .kv] hn⟩⟩⟩⟩)) ?_;congr 1;simp
end
noncomputable def aM (l:List Int):PV:=.lst (l.map .int)
namespace L2
variable{n:Nat}
theorem ft (n k:Nat) (fs:FSpec) (args:List PV) (h:aI[k]?=some fs):FT aI (n+1) k args=dJ (FT aI n) fs args:=by
 show(match aI[k]? with | some fs=>dJ (FT aI n) fs args | none=>none)=_;exact O h rfl
noncomputable def qG (place bN Hy:Int):Int :=
 bN*(if (if 512-(if 1536-(3*place-Hy)%1536<(3*place-Hy)%1536 then 1536-(3*place-Hy)%1536 else(3*place-Hy)%1536)<256 then 512-(if 1536-(3*place-Hy)%1536<(3*place-Hy)%1536 then 1536-(3*place-Hy)%1536 else(3*place-Hy)%1536) else 256)>0 then
  (if 512-(if 1536-(3*place-Hy)%1536<(3*place-Hy)%1536 then 1536-(3*place-Hy)%1536 else(3*place-Hy)%1536)<256 then 512-(if 1536-(3*place-Hy)%1536<(3*place-Hy)%1536 then 1536-(3*place-Hy)%1536 else(3*place-Hy)%1536) else 256) else 0)
theorem pK (place bN:Int) (hs:lF bN=true):FT aI (n+1) 14 [.int place,.int bN]=some (aM [qG place bN 0,qG place bN 512,qG place bN 1024]):=by
 refine O (ft n 14 i8 _ rfl) ?_;apply iL rfl;show fV (aE _ i8.code [some (.int place),some (.int bN),none,none,none])=_
 delta i8
 have turn:∀(Hy:Int) (acc:List PV) (x y:Option PV),acc.length<=10->aE (FT aI n) Qs
   [some (.int place),some (.int bN),some (.lst acc),some (.int Hy),y]=some ([some (.int place),some (.int bN),some (.lst (acc++[.int (qG place bN Hy)])),some (.int Hy),some (.int ((3*place-Hy)%1536))],.next):=by
  intro Hy acc x y ha;refine seq (asg (by rfl)) ?_;simp only[aY,aZ];refine aG ((app (l:=acc) (p:=.int (qG place bN Hy)) rfl ?_ (aa ha (by decide))).trans ?_)
  ·simp only[aF,EVL,jX bN _ hs];rfl
  ·rfl
 refine aR (asgO (l:=[]) (by rfl)) ?_;simp only[aY,aZ];refine aR (L7 (NA (l:=[.int 0,.int 512,.int 1024]) (by rfl) (by decide)) (cB rfl (turn 0 [] none none (by decide)) (cB rfl (turn 512 _ none _ (ta _)) (cB rfl (turn 1024 _ none _ (by simp)) xL)))) ?_;refine dU ?_;rfl
theorem AL (x:Int):FT aI (n+1) 0 [.int x]=some (.bool (decide (x<256))):=by
 refine O (ft n 0 fO _ rfl) ?_;apply iL rfl;show fV (aE _ fO.code [some (.int x)])=_
 delta fO Co.dQ
 exact dU (by rfl)
theorem AM (x:Int):FT aI (n+1) 1 [.int x]=some (.bool (decide (x>=256))):=by
 refine O (ft n 1 dH _ rfl) ?_;apply iL rfl;show fV (aE _ dH.code [some (.int x)])=_
 delta dH Co.dQ
 exact dU (by rfl)
theorem E8 (x:Int):FT aI (n+1) 2 [.int x]=some (.bool (x==0)):=by
 refine O (ft n 2 oH _ rfl) ?_;apply iL rfl;show fV (aE _ oH.code [some (.int x)])=_
 delta oH Co.iW
 exact dU (by rfl)
end L2
theorem xQ{k d:Int}(hk:1<=k) (hd:0<d) (h:d<=2 ^ 17):1/2 ^ 17<=(k:Rat)/(d:Rat):=by
 have a0:(0:Rat)<(d:Rat):=by have:=bg.mpr hd;exact_mod_cast this
 have a1:=al.mpr h;have a2:=al.mpr hk;rw[od] at a1;have a3:(k:Rat)/(d:Rat)*(d:Rat)=(k:Rat):=dmc (by assumption);refine cV a0 ?_;refine O a3 ?_;have:((1:Int):Rat)=1:=rfl;have:((2:Int):Rat)=2:=rfl;grind
section
variable{r g b:UInt64}{A B C:Int}
theorem wC{x y:UInt64}{q:Rat}(hx:FinF x) (hy:FinF y) (h0:0<R y) (hq:R x=q*R y) (q0:0<=q) (q1:q<=8) (hd:Dy q):FinF (div x y)/\R (div x y)=q:=by
 have e:R x/R y=q:=by refine O hq ?_;exact eQ h0 (dmc h0)
 have p:=em q0 (ar h0);have p':=fz q1 (ar h0);refine aP (AE hx hy h0 (M:=8) ⟨3,by decide,rfl⟩ (by push_cast;exact er3 (.l (.G (.M .n8 .a)) .b) [.e (.M .c .a) .b,.L 2 .n0 (.M .c .a),.l (.M .c .a) (.M .n8 .a)] rfl hq.symm p p') (by push_cast;exact er3 (.l .a (.M .n8 .b)) [.e .a .k6,.l .k6 (.M .n8 .b)] rfl hq p')) λa aT Ik d=>?_;clear aT;clear Ik;rw[e] at d;exact⟨a,d hd⟩
theorem qH{k d:Int}(hd:0<d):(0:Rat)<(d:Rat)/\(k:Rat)/(d:Rat)*(d:Rat)=(k:Rat):=by
 have a0:(0:Rat)<(d:Rat):=by have:=bg.mpr hd;exact_mod_cast this
 exact⟨a0,dmc a0⟩
theorem NB{a b d:Int}(hd:0<d) (h:a<=b):(a:Rat)/(d:Rat)<=(b:Rat)/(d:Rat):=by
 refine cV (qH (k:=a) hd).1 ?_;exact O ((qH hd).2) (O ((qH hd).2) (al.mpr h))
theorem NC (k d:Int):((-k:Int):Rat)/(d:Rat)=-((k:Rat)/(d:Rat)):=by rw[wl,rh,rh,Cv]
theorem WG{d:Int}(hd:0<d):(d:Rat)/(d:Rat)=1:=eQ (qH (k:=d) hd).1 ((qH hd).2.trans (on _).symm)
theorem WH{k d:Int}(hd:0<d) (h:d<=2 ^ 17) (hk:k<=d-1):(k:Rat)/(d:Rat)<=1-1/2 ^ 17:=by
 have h1:=NB hd hk;have h2:=xQ (k:=1) (d:=d) (by decide) hd h;have h3:((d-1:Int):Rat)/(d:Rat)=1-((1:Int):Rat)/(d:Rat):=by
  refine eQ (qH (k:=d) hd).1 ?_;rw[(qH hd).2,qh,zf,Cv,(qH hd).2,on,wk,qh]
 exact er3 (.l .a (.S .n1 .km)) [.l .a .b,.l .km .c,.e .b (.S .n1 .c)] rfl h1 h2 h3
theorem XD{k d:Int}(hd:0<d) (h:d<=2 ^ 17) (hk:1-d<=k):-1+1/2 ^ 17<=(k:Rat)/(d:Rat):=by
 have h1:=WH (k:=-k) hd h (ez2 (.l .k0 (.S .b .n1)) [.l .j5 .a] rfl hk);rw[NC] at h1;exact er1 (.l (.A .kn .km) .a) [.l .k0 (.S .n1 .km)] rfl h1
theorem ND{k d:Int}(hd:0<d) (hk:k<=d):(k:Rat)/(d:Rat)<=1:=by have:=NB hd hk;rw[WG hd] at this;exact this
theorem SU{k d:Int}(hd:0<d) (hk:-d<=k):-1<=(k:Rat)/(d:Rat):=by
 have h1:=ND (k:=-k) hd (ez2 (.l .k0 .b) [.l (.G .b) .a] rfl hk);rw[NC] at h1;exact er1 (.l .kn .a) [.l .k0 .n1] rfl h1
theorem HB (hd:aN A B C<aK A B C) (Lj:aK A B C-aN A B C<=2 ^ 17) (h:C<B):1/2 ^ 17<=gR A B C/\gR A B C<=3-1/2 ^ 17:=by
 refine aP (d9 A B C) λm1 m2 m3 m4=>?_;refine aP (dI A B C) λn1 n2 n3 aT=>?_;clear aT;unfold gR;generalize aK A B C=M at *;generalize aN A B C=N at *;have Kb:=gm hd
 by_cases hA:A=M
 ·refine O (if_pos hA) ?_;have q1:=xQ (k:=B-C) (d:=M-N) (YI h) Kb Lj;have q2:=ND (k:=B-C) Kb (ez4 (.l .ka .jc) [.l .a .c,.l .d .b] rfl m2 n3);exact⟨q1,by exact er1 (.l .a (.S .n3 .km)) [.l .a .n1] rfl q2⟩
 ·have hB:B=M:=m4.elim (λe=>absurd e.symm hA) λe=>e.elim Eq.symm λe=>absurd (ir h m2) (e ▸ gn _);refine O (if_neg hA) (O (if_pos hB) ?_);have q1:=SU (k:=C-A) Kb (ez4 (.l (.G .ka) .jc) [.l .d .a,.l .b .c] rfl m1 n3);have q2:=WH (k:=C-A) Kb Lj (ez5 (.l .ka (.S .jc .n1)) [.t .a .e,.l .e .c,.l .d .b] rfl h m2 n1);exact⟨by exact er1 (.l .km .jn) [.l .kn .a] rfl q1,by exact er1 (.l .jn (.S .n3 .km)) [.l .a (.S .n1 .km)] rfl q2⟩
theorem CW (hd:aN A B C<aK A B C) (Lj:aK A B C-aN A B C<=2 ^ 17) (h:B<C):(-1<=gR A B C/\gR A B C<=-(1/2 ^ 17))\/(3+1/2 ^ 17<=gR A B C/\gR A B C<=5):=by
 refine aP (d9 A B C) λm1 m2 m3 m4=>?_;refine aP (dI A B C) λn1 n2 n3 aT=>?_;clear aT;unfold gR;generalize aK A B C=M at *;generalize aN A B C=N at *;have Kb:=gm hd
 by_cases hA:A=M
 ·refine O (if_pos hA) ?_;have q1:=SU (k:=B-C) Kb (ez4 (.l (.G .ka) .jc) [.l .d .a,.l .b .c] rfl m3 n2);have q2:=xQ (k:=-(B-C)) (d:=M-N) (ez2 (.l .n1 (.G .ka)) [.t .a .b] rfl h) Kb Lj;rw[NC] at q2;exact .inl ⟨q1,by exact er1 (.l .a (.G .km)) [.l .km .k0] rfl q2⟩
 ·have hB:B≠M:=by exact pf (ir h m3)
  refine O (if_neg hA) (O (if_neg hB) ?_);have q1:=XD (k:=A-B) Kb Lj (ez5 (.l (.S .n1 .ka) .jc) [.t .d .e,.l .e .a,.l .b .c] rfl h m3 n1);have q2:=ND (k:=A-B) Kb (ez4 (.l .ka .jc) [.l .a .c,.l .d .b] rfl m1 n2);exact .inr ⟨by exact er1 (.l (.A .n3 .km) .jE) [.l (.A .kn .km) .a] rfl q1,by exact YH q2⟩
theorem NE{q x:Rat}{n:Int}(q0:1/2 ^ 17<=q) (q1:q<=5) (x0:0<=x) (x1:x<=1+1/2 ^ 52) (f4:q-6*n-1/2 ^ 49<=6*x) (f5:6*x<=q-6*n+1/2 ^ 49):n=0:=by
 have k0:n<1:=eY (by push_cast;exact er3 (.T 6 .a .n1) [.l .b .n5,.L 6 .n0 .c,.l .kX (.A (.S .b .kg) .kz)] rfl q1 x0 f5);have k1:-1<n:=eY (by push_cast;exact er3 (.T 6 .kn .a) [.l .km .b,.L 6 .c .kh,.l (.S (.S .b .kg) .kz) .kX] rfl q0 x1 f4);exact ca (YJ k0) (YK k1)
theorem WI{q x:Rat}{n:Int}(q0:-1<=q) (q1:q<=-(1/2 ^ 17)) (x0:0<=x) (x1:x<=1+1/2 ^ 52) (f4:q-6*n-1/2 ^ 49<=6*x) (f5:6*x<=q-6*n+1/2 ^ 49):n=-1:=by
 have k0:n<0:=eY (by push_cast;exact er3 (.T 6 .a .n0) [.l .b (.G .km),.L 6 .n0 .c,.l .kX (.A (.S .b .kg) .kz)] rfl q1 x0 f5);have k1:-2<n:=eY (by push_cast;exact er3 (.T 6 .kV .a) [.l .kn .b,.L 6 .c .kh,.l (.S (.S .b .kg) .kz) .kX] rfl q0 x1 f4);exact ca (ez1 (.l .a .kn) [.t .a .n0] rfl k0) (ez1 (.l .kn .a) [.t .kV .a] rfl k1)
theorem b50{a:Int}(h:0<=a/\a<=2 ^ 17):0<=a/\a<=2 ^ 50:=⟨h.1,au h.2 (by decide)⟩
theorem NF (hr:Gr (2 ^ 17) r A) (hg:Gr (2 ^ 17) g B) (hA:0<=A/\A<=2 ^ 17) (hB:0<=B/\B<=2 ^ 17) (hd:aN A B B<aK A B B) (Mt:B<=A):R (iS r g g)=0:=by
 have hS:Sc (2 ^ 17):=⟨17,by decide,rfl⟩;have gM:=tT hS hr hg hg;have gN:=tU hS hr hg hg;refine xa l6 λs1 s2=>?_;have Um:aK A B B=A:=xP (ia _) Mt Mt (.inl rfl);refine aP (dI A B B) λn1 n2 n3 n4=>?_;unfold iS;have e6:j3 r g g (mx3 r g g) (ab (mx3 r g g) (mn3 r g g))=ab (div (ab (mx3 r g g) g) (ab (mx3 r g g) (mn3 r g g))) (div (ab (mx3 r g g) g) (ab (mx3 r g g) (mn3 r g g))):=by
  unfold j3;exact O (kR hS hr gM) (O (if_pos (by simp;exact ca (ck Um.symm) (ck Um))) rfl)
 refine O e6 ?_;have gD:=gQ hS gM gN (wA (bo (dd hd)) (SN hA hB hB) (by decide));have gg:=gQ hS gM hg (eam [_,_,_] [_] (.x .q .ki) [.l .a .kY,.l .n0 .b,.e .c .a,.e .q (.S .c .b)] rfl hA.2 hB.1 Um (an (eaz [_,_,_] (.l .n0 .ka) [.l .b .c,.e .c .a] rfl Mt Um.symm)));refine aP (nN hS gg gD (ez3 (.l .n0 .ka) [.l .b .c,.e .c .a] rfl Mt Um.symm) (ez3 (.l .ka .j1) [.l .c .b] rfl n2) (Yc hd)) λd1 d2 d3 aT=>?_;clear aT;generalize div (ab (mx3 r g g) g) (ab (mx3 r g g) (mn3 r g g))=z at *;refine aP (gV d1 d1 (M:=1) ⟨0,by decide,rfl⟩ (by push_cast;exact er1 (.l .kn (.S .a .a)) [] rfl) (by push_cast;exact er1 (.l (.S .a .a) .n1) [] rfl)) λa1 aT Ik a4=>?_;clear aT;clear Ik;have a5:=a4 (bE 0 0 (by decide) (by decide) (by push_cast;exact er1 (.e (.M (.S .a .a) .n1) .n0) [] rfl));have a6:R (ab z z)=0:=by exact O a5 (er1 (.e (.S .a .a) .n0) [] rfl)
 refine xa (wC (q:=0) a1 s1 (by exact O s2 (er0 (.t .n0 .n6) [] rfl)) (by refine O a6 ?_;exact er1 (.e .n0 (.M .n0 .a)) [] rfl) (eh) (er0 (.l .n0 .n8) [] rfl) (bE 0 0 (by decide) (by decide) (by push_cast;exact er0 (.e (.M .n0 .n1) .n0) [] rfl))) λb1 b2=>?_;refine jM (mB b1) λc1 c2 k c3 c4 c5 c6 c7=>?_;refine O (c7 (by rw[b2];exact eh)) (O b2 ?_);rw[b2] at c5 c6;have k0:k<1:=eY (by push_cast;exact er1 (.t .a .n1) [.l .n0 (.S .n0 .a)] rfl c5);have k1:-1<k:=eY (by push_cast;exact er1 (.t .kn .a) [.t (.S .n0 .a) .n1] rfl c6);have:k=0:=by exact ca (YJ k0) (YK k1)
 subst this;push_cast;exact er0 (.e (.S .n0 .n0) .n0) [] rfl
theorem NG (hr:Gr (2 ^ 17) r A) (hg:Gr (2 ^ 17) g B) (hA:0<=A/\A<=2 ^ 17) (hB:0<=B/\B<=2 ^ 17) (Mt:¬B<=A):R (iS r g g)=1/2:=by
 have hS:Sc (2 ^ 17):=⟨17,by decide,rfl⟩;have gM:=tT hS hr hg hg;have gN:=tU hS hr hg hg;refine xa l6 λs1 s2=>?_;have Sa:A<=B:=dd (oj.mp Mt);have Mu:aK A B B=B:=xP Sa (ia _) (ia _) (.inr (.inl rfl));have Sb:aN A B B=A:=EZ (ia _) Sa Sa (.inl rfl);unfold iS;have e6:j3 r g g (mx3 r g g) (ab (mx3 r g g) (mn3 r g g))=ab (add 0x4000000000000000 (div (ab (mx3 r g g) r) (ab (mx3 r g g) (mn3 r g g)))) (div (ab (mx3 r g g) g) (ab (mx3 r g g) (mn3 r g g))):=by
  unfold j3;exact O (kR hS hr gM) (O (kR hS hg gM) (O (if_neg (by simp;exact pf (ez3 (.t .a .b) [.t .a .c,.e .c .b] rfl (oj.mp Mt) Mu.symm))) (O (if_pos (by simp;exact ca (ck Mu.symm) (ck Mu))) rfl)))
 refine O e6 ?_;have gD:=gQ hS gM gN (eam [_,_,_,_] [_] (.x .q .ki) [.l .n0 .a,.l .b .kY,.e .c .b,.e .a .d,.e .q .jc] rfl hA.1 hB.2 Mu Sb.symm (an (eaz [_,_,_,_] (.l .n0 .ka) [.l .c .d,.e .d .a,.e .b .c] rfl Sa Mu.symm Sb)));have gg:=gQ hS gM hg (eam [_,_] [_] (.x .q .ki) [.e .a .b,.e .q .ka] rfl Mu (an (eaz [_,_] (.l .n0 .ka) [.e .b .a] rfl Mu.symm)));have gr':=gQ hS gM hr (eam [_,_,_] [_] (.x .q .ki) [.l .n0 .a,.l .b .kY,.e .c .b,.e .q (.S .c .a)] rfl hA.1 hB.2 Mu (an (eaz [_,_,_] (.l .n0 .ka) [.l .b .c,.e .c .a] rfl Sa Mu.symm)));refine gC (nN hS gg gD (ez2 (.l .n0 .ka) [.e .b .a] rfl Mu.symm) (ez4 (.l .ka .j1) [.l .d .b,.e .c .d] rfl Sa Sb) (Yt (oj.mp Mt) Mu.symm Sb)) λd1 aT Ik d4 zq2=>?_;clear aT;clear Ik;clear zq2;refine gC (nN hS gr' gD (ez3 (.l .n0 .ka) [.l .b .c,.e .c .a] rfl Sa Mu.symm) (ez3 (.l .ka .j1) [.e .c .b] rfl Sb) (Yt (oj.mp Mt) Mu.symm Sb)) λe1 aT Ik zq2 e5=>?_;clear aT;clear Ik;clear zq2;have d5:=d4 (ez2 (.e .ka .n0) [.e .a .b] rfl Mu);have ey:=e5 (ez3 (.e .ka .j1) [.e .c .b] rfl Sb);generalize div (ab (mx3 r g g) g) (ab (mx3 r g g) (mn3 r g g))=z at *;generalize div (ab (mx3 r g g) r) (ab (mx3 r g g) (mn3 r g g))=y at *;refine xa l2 λt1 t2=>?_;refine aP (jV t1 e1 (M:=4) ⟨2,by decide,rfl⟩ (by refine O t2 (O ey ?_);push_cast;exact er0 (.l .jX (.A .n2 .n1)) [] rfl) (by refine O t2 (O ey ?_);push_cast;exact er0 (.l (.A .n2 .n1) .n4) [] rfl)) λa1 aT Ik a4=>?_;clear aT;clear Ik;have a5:R (add 0x4000000000000000 y)=3:=by
  refine O (a4 (bE 3 0 (by decide) (by decide) (by rw[t2,ey];push_cast;exact er0 (.e (.M (.A .n2 .n1) .n1) .n3) [] rfl))) (O t2 (O ey ?_));exact er0 (.e (.A .n2 .n1) .n3) [] rfl
 refine aP (gV a1 d1 (M:=4) ⟨2,by decide,rfl⟩ (by refine O a5 (O d5 ?_);push_cast;exact er0 (.l .jX (.S .n3 .n0)) [] rfl) (by refine O a5 (O d5 ?_);push_cast;exact er0 (.l (.S .n3 .n0) .n4) [] rfl)) λb1 aT Ik b4=>?_;clear aT;clear Ik;have b5:R (ab (add 0x4000000000000000 y) z)=3:=by
  refine O (b4 (bE 3 0 (by decide) (by decide) (by rw[a5,d5];push_cast;exact er0 (.e (.M (.S .n3 .n0) .n1) .n3) [] rfl))) (O a5 (O d5 ?_));exact er0 (.e (.S .n3 .n0) .n3) [] rfl
 refine xa (wC (q:=1/2) b1 s1 (by exact O s2 (er0 (.t .n0 .n6) [] rfl)) (by refine O b5 (O s2 ?_);exact er0 (.e .n3 (.M .kf .n6)) [] rfl) (er0 (.l .n0 .kf) [] rfl) (er0 (.l .kf .n8) [] rfl) (bE 1 1 (by decide) (by decide) (by push_cast;exact er0 (.e (.M .kf .n2) .n1) [] rfl))) λc1 c2=>?_;refine jM (mB c1) λg1 g2 k g3 g4 g5 g6 g7=>?_;refine O (g7 (by rw[c2];exact er0 (.l .n0 .kf) [] rfl)) (O c2 ?_);rw[c2] at g5 g6;have k0:k<1:=eY (by push_cast;exact er1 (.t .a .n1) [.l .n0 (.S .kf .a)] rfl g5);have k1:-1<k:=eY (by push_cast;exact er1 (.t .kn .a) [.t (.S .kf .a) .n1] rfl g6);have:k=0:=by exact ca (YJ k0) (YK k1)
 subst this;push_cast;exact er0 (.e (.S .kf .n0) .kf) [] rfl
theorem NH (hr:Gr (2 ^ 17) r A) (hg:Gr (2 ^ 17) g B) (hb:Gr (2 ^ 17) b C) (hA:0<=A/\A<=2 ^ 17) (hB:0<=B/\B<=2 ^ 17) (hC:0<=C/\C<=2 ^ 17) (hd:aN A B C<aK A B C) (hgb:B=C->g=b) :
  FinF (iS r g b)/\((C<B\/(B=C/\B<=A))->0<=R (iS r g b)/\R (iS r g b)<=1/2-1/2 ^ 21)/\(¬(C<B\/(B=C/\B<=A))->R (iS r g b)=1/2\/(1/2+1/2 ^ 21<=R (iS r g b)/\R (iS r g b)<=2)):=by
 have hS:Sc (2 ^ 17):=⟨17,by decide,rfl⟩;refine aP (CU hS hr hg hb (b50 hA) (b50 hB) (b50 hC) hd) λf1 f2 f3 zt=>?_;refine xea zt λn f4 f5=>?_;clear zt;have Lj:=SN hA hB hC;refine⟨f1,?_⟩
 by_cases Vi:B=C
 ·cases hgb Vi;subst Vi
  by_cases Mt:B<=A
  ·exact⟨λ_=>by refine O (NF hr hg hA hB hd Mt) ?_;exact⟨eh,er0 (.l .n0 (.S .kf .k4)) [] rfl⟩,λh=>absurd (.inr ⟨rfl,Mt⟩) h⟩
  ·exact⟨λh=>h.elim (λh=>absurd h (gn _)) λh=>absurd h.2 Mt,λ_=>.inl (NG hr hg hA hB Mt)⟩
 ·by_cases Vj:C<B
  ·refine⟨λ_=>⟨f2,?_⟩,λh=>absurd (.inl Vj) h⟩;refine xa (HB hd Lj Vj) λq1 q2=>?_;have:=NE q1 (by clear f4 f5;exact er1 (.l .a .n5) [.l .a (.S .n3 .km)] rfl q2) f2 f3 f4 f5;subst this;push_cast at f5;exact er2 (.L 6 .a (.S .kf .k4)) [.l .b (.S .n3 .km),.l .kg (.A (.S .b .kJ) .kz)] rfl q2 f5
  ·refine⟨λh=>h.elim (λh=>absurd h Vj) λh=>absurd h.1 Vi,λ_=>.inr ?_⟩;rcases CW hd Lj (Int.lt_iff_le_and_ne.mpr ⟨dr.mp Vj,Vi⟩) with ⟨q1,q2⟩ | ⟨q1,q2⟩
   ·have:=WI q1 q2 f2 f3 f4 f5;subst this;push_cast at f4;exact⟨by clear f5 q2 f2 f3;exact er2 (.L 6 (.A .kf .k4) .a) [.l .kn .b,.l (.S (.S .b .jr) .kz) .kg] rfl q1 f4,by clear f4 f5 q1 q2;exact er1 (.l .a .n2) [.l .a .kh] rfl f3⟩
   ·have:=NE (by clear f4 f5;exact er1 (.l .km .a) [.l (.A .n3 .km) .a] rfl q1) q2 f2 f3 f4 f5;subst this;push_cast at f4;exact⟨by clear f5 q2 f2 f3;exact er2 (.L 6 (.A .kf .k4) .a) [.l (.A .n3 .km) .b,.l (.S (.S .b .kJ) .kz) .kg] rfl q1 f4,by clear f4 f5 q1 q2;exact er1 (.l .a .n2) [.l .a .kh] rfl f3⟩
end
theorem qP (h:x.natAbs<=2 ^ 53):Gr (2 ^ 17) (fq x 131072) x:=WD (S:=2 ^ 17) ⟨17,by decide,rfl⟩ h
theorem NI:dM .Pow (.int 2) (.int 17)=some (.int 131072):=by refine O (tI _ _ (by decide)) ?_;rfl
def mkS (b:Bool):PV:=.str (sx [if b then 62 else 60])
theorem RH (a b:Bool):bF .Eq (.bool a) (.bool b)=some (a==b):=rfl
namespace L2
variable{n:Nat}
theorem WJ (n:Nat) (args:List PV):FT aI (n+1) 6 args=dJ (FT aI n) Co.bC args:=ft n 6 bC args rfl
theorem WK (n:Nat) (args:List PV):FT aI (n+1) 7 args=dJ (FT aI n) Co.bA args:=ft n 7 bA args rfl
theorem XE (n:Nat) (args:List PV):FT aI (n+1) 3 args=dJ (FT aI n) Co.bB args:=ft n 3 bB args rfl
theorem WL (n:Nat) (args:List PV):FT aI (n+1) 4 args=dJ (FT aI n) (Co.a8 5) args:=ft n 4 a8 args rfl
theorem vc (n:Nat) (m1 m2 u:UInt64):FT aI (n+1) 5 [.flt m1,.flt m2,.flt u]=some (.flt (vF m1 m2 (bz u one).2)):=by
 exact O (ft n 5 f_v _ rfl) V7
noncomputable def fS (a b c:Int):Bool:=decide (c<b\/(b=c/\b<=a))
theorem HC (fh:FinF h) (b:Bool) (hb:b=true->0<=R h/\R h<=1/2-1/2 ^ 21) (Jf:b=false->R h=1/2\/(1/2+1/2 ^ 21<=R h/\R h<=2)) :
  ∃p:Int,biF .int [.flt (mul (cr 512) h)]=some (.int p)/\(decide (p<256))=b:=by
 refine xa (qX (i:=512) (by decide)) λs1 s2=>?_;have s3:R (cr 512)=512:=by refine O s2 ?_;rfl
 have h0:0<=R h:=by
  cases b
  ·rcases Jf rfl with h | ⟨h,-⟩
   ·exact O h (fr0 (.l .n0 .kf) [])
   ·exact fr1 (.l .n0 .a) [.l (.A .kf .k4) .a] h
  ·exact(hb rfl).1
 have h2:R h<=2:=by
  cases b
  ·rcases Jf rfl with h | ⟨-,h⟩
   ·exact O h (fr0 (.l .kf .n2) [])
   ·exact h
  ·have:=(hb rfl).2;exact fr1 (.l .a .n2) [.l .a (.S .kf .k4)] this
 refine aP (jW s1 fh (M:=1024) ⟨10,by decide,rfl⟩ (by refine O s3 ?_;push_cast;exact fr1 (.l (.G (.N 1024)) (.M (.N 512) .a)) [.L 512 .n0 .a] h0) (by refine O s3 ?_;push_cast;exact fr1 (.l (.M (.N 512) .a) (.N 1024)) [.L 512 .a .n2] h2)) λm1 m2 m3 m4=>?_;rw[s3] at m2 m3 m4;push_cast at m2 m3;have hm:=qE s1 fh (by exact O s3 (fr0 (.l .n0 (.N 512)) [])) h0 m1;refine bV (M1 m1 hm) λp p0 p1 p2 p3=>?_;refine(iea p p1 ?_);cases b
 ·have:¬p<256:=by
   intro Im;have:(p:Rat)+1<=((256:Int):Rat):=by
    have:=al.mpr (show p+1<=256 by exact fz1 (.l .kk (.N 256)) [.t .a (.N 256)] Im);push_cast at this ⊢;exact this
   have e:((256:Int):Rat)=256:=rfl;rcases Jf rfl with h | ⟨h,-⟩
   ·have:=m4 (bE 256 0 (by decide) (by decide) (by refine O h ?_;push_cast;exact fr0 (.e (.M (.M (.N 512) .kf) .n1) (.N 256)) []));rw[h] at this;clear hb Jf m4 m2 m3;grind
   ·grind
  simp[this]
 ·have:p<256:=by
   have e:((256:Int):Rat)=256:=rfl;refine eY ?_;have:=(hb rfl).2;exact fr4 (.t .a .b) [.l .c (.A (.M (.N 512) .d) .kZ),.l .a .c,.e (.N 256) .b,.L 512 .d (.S .kf .k4)] m3 p2 e.symm this
  simp[this]
theorem AN (ha:0<=w+a/\w+a<=2 ^ 17) (hb:0<=w+b/\w+b<=2 ^ 17) (hc:0<=w+c/\w+c<=2 ^ 17) :
  FT aI (n+2) 15 [aM [a,b,c],.int w]=some (mkS (!fS a b c)):=by
 refine O (ft (n+1) 15 kQ _ rfl) ?_;apply iL rfl;show fV (aE _ kQ.code [some (aM [a,b,c]),some (.int w),none,none,none,none,none,none,none,none])=_;unfold kQ;have ga:=qP (x:=w+a) (wA ha.1 ha.2 (by decide));have gb:=qP (x:=w+b) (wA hb.1 hb.2 (by decide));have gc:=qP (x:=w+c) (wA hc.1 hc.2 (by decide));have hS:Sc (2 ^ 17):=⟨17,by decide,rfl⟩;refine aR (asgT (p:=.lst [.flt (fq (w+a) 131072),.flt (fq (w+b) 131072),.flt (fq (w+c) 131072)]) ?_ rfl) ?_
 ·refine iQ (items:=[.int a,.int b,.int c]) (λp=>match p with | .int i=>.flt (fq (w+i) 131072) | _=>.none) (jL (by rfl) (by simp)) ?_;intro p hp;simp only[ax,iw,or_false] at hp;rcases hp with rfl | rfl | rfl
  ·exact j6 (w+a) 131072 (by decide) ga.1
  ·exact j6 (w+b) 131072 (by decide) gb.1
  ·exact j6 (w+c) 131072 (by decide) gc.1
 have key:∃(h s v:UInt64),FT aI (n+1) 6 [.flt (fq (w+a) 131072),.flt (fq (w+b) 131072),.flt (fq (w+c) 131072)]=some (.tup [.flt h,.flt s,.flt v])/\FinF h /\
   (fS a b c=true->0<=R h/\R h<=1/2-1/2 ^ 21)/\(fS a b c=false->R h=1/2\/(1/2+1/2 ^ 21<=R h/\R h<=2)):=by
  refine O (WJ ..) ?_
  by_cases hg:a=b/\b=c
  ·refine xa hg λaT Ik=>?_;subst aT;subst Ik;clear hg;refine xea (AK (F:=FT aI n) hS ga ga ga) λv hv aT=>?_;clear aT;refine(cD 0 0 v hv l0.1 (λ_=>?_) (λh=>?_))
   ·exact O l0.2 ⟨eh,fr0 (.l .n0 (.S .kf .k4)) []⟩
   ·simp[fS] at h
  ·have hd:aN (w+a) (w+b) (w+c)<aK (w+a) (w+b) (w+c):=SO λq=>hg ⟨ng q.1,ng q.2⟩;refine jE (SS (F:=FT aI n) hS (by decide) ga gb gc ⟨ha.1,by exact Yu ha.2⟩ ⟨hb.1,by exact Yu hb.2⟩ ⟨hc.1,by exact Yu hc.2⟩ hd) λs v hv aT=>?_;clear aT;refine xaa (NH ga gb gc ha hb hc hd (λe=>by exact O e rfl)) λf h1 h2=>?_;refine(cD _ s v hv f (λh=>h1 ?_) (λh=>h2 ?_))
   ·exact(of_decide_eq_true h).imp (λq=>Int.add_lt_add_left q w) λq=>⟨congrArg _ q.1,lx q.2 w⟩
   ·exact λq=>of_decide_eq_false h (q.imp Int.lt_of_add_lt_add_left λq=>⟨ng q.1,Int.le_of_add_le_add_left q.2⟩)
 refine bI key λh s v e1 f e2 e3=>?_;clear key;refine aR (asgT (p:=.tup [.flt h,.flt s,.flt v]) ?_ rfl) ?_
 ·trivial
 refine xea (HC f (fS a b c) e2 e3) λp p1 p2=>?_
 dsimp only[aY,aZ]
 refine aR (asg (p:=.int p) ?_) ?_
 ·simp only[aF,EVL,oJ 512 h (E7 (by decide)),p1]
 dsimp only[aY,aZ]
 refine b8 ?_ ?_
 ·simp only[aF,EVL,AL,AM,RH];have:(decide (p<256)==decide (p>=256))=false:=by
   by_cases h:p<256
   ·have:¬p>=256:=by exact oj.mpr (h)
    simp[h]
   ·have:p>=256:=by exact(dr.mp h)
    simp[h,this]
  exact O this rfl
 ·refine dU ?_;simp only[aF,EVL,AL,p2];cases fS a b c <;> rfl
end L2
theorem f0 (hs:fH F src pe=some [p,q,r]) (h1:aA F e (st pe tg p)=some p') (h2:aA F e (st pe tg q)=some q') (h3:aA F e (st pe tg r)=some r') :
  aA F (.comp e tg src false c) pe=some (.lst [p',q',r']):=by
 simp only[aF,hs,l7 h1 (l7 h2 (l7 (l:=[]) h3 rfl)),bl]
theorem kS:∀(l:List Int),cT (l.map .int)=some l
 | []=>rfl
 | a::l=>by
  show(match yN (PV.int a),cT (l.map .int) with | some x,some y=>some (x::y) | _,_=>none)=_;refine O (kS l) ?_;rfl
theorem E9 (l:List Int) (h:l.isEmpty=false):biF .min [aM l]=some (.int (b9 l)):=by
 show(cT (l.map .int)).bind (yQ b9)=_;refine O (kS ..) ?_;exact if_neg (by exact O h qf)
theorem RI (l:List Int) (h:l.isEmpty=false):biF .max [aM l]=some (.int (bJ l)):=by
 show(cT (l.map .int)).bind (yQ bJ)=_;refine O (kS ..) ?_;exact if_neg (by exact O h qf)
theorem WM{α:Type}{a b c x:α}(h:x∈[a,b,c]):x=a\/x=b\/x=c:=by
 rcases ax.mp h with h | h
 ·exact .inl h
 ·rcases ax.mp h with h | h
  ·exact .inr (.inl h)
  ·exact .inr (.inr (cf.mp h))
theorem in3{α:Type}(a b c:α):a∈[a,b,c]/\b∈[a,b,c]/\c∈[a,b,c]:=(iaa aj (en _ aj) (en _ (en _ aj)))
theorem wD (a b c:Int):b9 [a,b,c]<=a/\b9 [a,b,c]<=b/\b9 [a,b,c]<=c/\(b9 [a,b,c]=a\/b9 [a,b,c]=b\/b9 [a,b,c]=c):=by
 have h:=vC [a,b,c] (λq=>nomatch q);have m:=in3 a b c;exact(cS (h.2 _ m.1) (h.2 _ m.2.1) (h.2 _ m.2.2) (WM h.1))
theorem oT (a b c:Int):a<=bJ [a,b,c]/\b<=bJ [a,b,c]/\c<=bJ [a,b,c]/\(bJ [a,b,c]=a\/bJ [a,b,c]=b\/bJ [a,b,c]=c):=by
 have h:=vD [a,b,c] (λq=>nomatch q);have m:=in3 a b c;exact(cS (h.2 _ m.1) (h.2 _ m.2.1) (h.2 _ m.2.2) (WM h.1))
theorem RJ{a b c k:Int}(ha:0<=a/\a<=k) (hb:0<=b/\b<=k) (hc:0<=c/\c<=k):bJ [a,b,c]-b9 [a,b,c]<=k:=by
 refine au (mu _ ?_) ?_
 ·rcases(wD a b c).2.2.2 with e | e | e <;> refine O e ?_
  ·exact ha.1
  ·exact hb.1
  ·exact hc.1
 ·rcases(oT a b c).2.2.2 with e | e | e <;> refine O e ?_
  ·exact ha.2
  ·exact hb.2
  ·exact hc.2
theorem fT (h0:0<=k) (h1:k<1000000) (h:l[k.toNat]?=some v):cX (.lst l) (.int k)=some v:=by
 show(ixF k l.length).bind (l[·]?)=_;unfold ixF;refine O (if_pos (⟨fz1 (.t (.G .jm) .a) [.l .n0 .a] h0,fz1 (.t .a .jm) [.t .a .kS] h1⟩)) ?_;have hl:=(de.mp h).1;exact O (seqIndex_of h0 (by exact fam [_] [_,_] (.t .a .q) [.y .r .q,.e .a .r] hl (bt (faz [_] (.l .n0 .a) [.l .n0 .a] h0)).symm)) h
theorem UX (h0:0<=k) (h1:k<1000000) (h:l[k.toNat]?=some v):cX (.tup l) (.int k)=some v:=by
 show(ixF k l.length).bind (l[·]?)=_;unfold ixF;refine O (if_pos (⟨fz1 (.t (.G .jm) .a) [.l .n0 .a] h0,fz1 (.t .a .jm) [.t .a .kS] h1⟩)) ?_;have hl:=(de.mp h).1;exact O (seqIndex_of h0 (by exact fam [_] [_,_] (.t .a .q) [.y .r .q,.e .a .r] hl (bt (faz [_] (.l .n0 .a) [.l .n0 .a] h0)).symm)) h
namespace L2
variable{n:Nat}
def SW (x y z:Int):List Int:=[bJ [x,y,z]-x,bJ [x,y,z]-y,bJ [x,y,z]-z]
theorem NJ (fh:FinF h) (h0:0<=R h) (h1:R h<=1+1/2 ^ 52):FinF (add h 0x3fe0000000000000)/\0<=R (add h 0x3fe0000000000000)/\R (add h 0x3fe0000000000000)<=100 /\
  6*R h+3-1/2 ^ 48<=6*R (add h 0x3fe0000000000000)/\6*R (add h 0x3fe0000000000000)<=6*R h+3+1/2 ^ 48:=by
 refine xa lh λt1 t2=>?_;refine aP (jV fh t1 (M:=2) ⟨1,by decide,rfl⟩ (by refine O t2 ?_;push_cast;exact fr1 (.l .kV (.A .a .kf)) [.l .n0 .a] h0) (by refine O t2 ?_;push_cast;exact fr1 (.l (.A .a .kf) .n2) [.l .a .kh] h1)) λa1 a2 a3 aT=>?_;clear aT;rw[t2] at a2 a3;push_cast at a2 a3;exact(gF a1 (fr2 (.l .n0 .a) [.l .n0 .b,.l (.S (.A .b .kf) .kT) .a] h0 a2) (fr2 (.l .a .jt) [.l .b .kh,.l .a (.A (.A .b .kf) .kT)] h1 a3) (fr2 (.l (.S (.A .kg .n3) .kt) .kA) [.L 6 (.S (.A .a .kf) .kT) .b] a2) (fr2 (.l .kg (.A (.A .kA .n3) .kt)) [.L 6 .a (.A (.A .b .kf) .kT)] a3))
theorem NK (fh:FinF h) (h0:0<=R h) (h1:R h<=1+1/2 ^ 52):FinF (ab h 0x3fe0000000000000)/\-1<=R (ab h 0x3fe0000000000000)/\R (ab h 0x3fe0000000000000)<=2 /\
  6*R h+3-6-1/2 ^ 48<=6*R (ab h 0x3fe0000000000000)/\6*R (ab h 0x3fe0000000000000)<=6*R h+3-6+1/2 ^ 48:=by
 refine xa lh λt1 t2=>?_;refine aP (gV fh t1 (M:=2) ⟨1,by decide,rfl⟩ (by refine O t2 ?_;push_cast;exact fr1 (.l .kV (.S .a .kf)) [.l .n0 .a] h0) (by refine O t2 ?_;push_cast;exact fr1 (.l (.S .a .kf) .n2) [.l .a .kh] h1)) λa1 a2 a3 aT=>?_;clear aT;rw[t2] at a2 a3;push_cast at a2 a3;exact(gF a1 (fr2 (.l .kn .a) [.l .n0 .b,.l (.S (.S .b .kf) .kT) .a] h0 a2) (fr2 (.l .a .n2) [.l .b .kh,.l .a (.A (.S .b .kf) .kT)] h1 a3) (fr2 (.l (.S (.S (.A .kg .n3) .n6) .kt) .kA) [.L 6 (.S (.S .a .kf) .kT) .b] a2) (fr2 (.l .kg (.A (.S (.A .kA .n3) .n6) .kt)) [.L 6 .a (.A (.S .b .kf) .kT)] a3))
theorem SX (hS:Sc S) (h:Gr S x v) (he:0<=e):Nr x ((v:Rat)/S) e:=by
 have hp:(0:Rat)<(S:Rat):=by have:=hS.pos;exact Yo this
 have:(v:Rat)/S=R x:=by
  refine eQ hp ?_;refine O h.2 ?_;grind
 exact O this (Nr.self h.1 he)
theorem UY{α β:Type}{x y z m:α}(f:α->β) (h:m=x\/m=y\/m=z):f m=f x\/f m=f y\/f m=f z:=h.imp (congrArg f) λh=>h.imp (congrArg f) (congrArg f)
theorem pL (w u:Int):w+u-w=u:=by exact ca (fz2 (.l (.S .kb .a) .b) []) (fz2 (.l .a (.S (.A .b .a) .b)) [])
theorem j7 (w M x:Int):w+(M-x)=w+M+w-(w+x):=by exact fz3 (.e (.A .a .kx) (.S (.A .kb .a) (.A .a .c))) []
section
variable{w x y z:Int}(hw:0<=w) (hx:0<=x/\w+x<=2 ^ 17) (hy:0<=y/\w+y<=2 ^ 17) (hz:0<=z/\w+z<=2 ^ 17)
theorem mN (hw:0<=w) (hx:0<=x/\w+x<=2 ^ 17):0<=w+x/\w+x<=((2 ^ 17:Nat):Int):=⟨mm hw hx.1,hx.2⟩
theorem oU (h:0<=a/\a<=((2 ^ 17:Nat):Int)):a.natAbs<=2 ^ 53:=by exact fam [_] [_] (.x .q .ki) [.l .a (.C .kY),.e .q .a] h.2 (an (faz [_] (.l .n0 .a) [.l .n0 .a] h.1))
theorem CX (n1:m<=A) (m1:A<=M) (hM:w+(M-m)<=2 ^ 17):0<=A-m/\w+(A-m)<=2 ^ 17:=⟨bo n1,au (lx (zh m1 m) w) hM⟩
theorem UZ{A B C m:Int}(h:m=A\/m=B\/m=C):A-m=0\/B-m=0\/C-m=0:=h.imp (λq=>by exact O q (O (ov ..) rfl)) λh=>h.imp (λq=>by exact O q (O (ov ..) rfl)) λq=>by exact O q (O (ov ..) rfl)
theorem SY (hx:0<=x/\w+x<=2 ^ 17) (hy:0<=y/\w+y<=2 ^ 17) (hz:0<=z/\w+z<=2 ^ 17) (h0:x=0\/y=0\/z=0):aN (w+x) (w+y) (w+z)=w :=
 EZ (oo hx.1) (oo hy.1) (oo hz.1) (h0.imp (λq=>by exact O q (O (qv ..) rfl)) λh=>h.imp (λq=>by exact O q (O (qv ..) rfl)) λq=>by exact O q (O (qv ..) rfl))
theorem SZ:aK (w+x) (w+y) (w+z)=w+bJ [x,y,z]:=by
 refine aP (oT x y z) λk1 k2 k3 k4=>?_;exact xP (lx k1 w) (lx k2 w) (lx k3 w) (UY (w+·) k4)
theorem CY (hx:0<=x/\w+x<=2 ^ 17) (hy:0<=y/\w+y<=2 ^ 17) (hz:0<=z/\w+z<=2 ^ 17):w+bJ [x,y,z]<=2 ^ 17:=by
 refine aP (oT x y z) λk1 k2 k3 k4=>?_;rcases k4 with e | e | e <;> refine O e ?_
 ·exact hx.2
 ·exact hy.2
 ·exact hz.2
theorem WN (hg:¬(x=y/\y=z)):aN (w+x) (w+y) (w+z)<aK (w+x) (w+y) (w+z):=SO λq=>hg ⟨ng q.1,ng q.2⟩
theorem AO (h0:x=0\/x=0\/x=0):w+(bJ [x,x,x]-x)=w+x:=by
 refine aP (oT x x x) λk1 k2 k3 k4=>?_;have e:bJ [x,x,x]=x:=k4.elim id λh=>h.elim id id;have h0:x=0:=h0.elim id λh=>h.elim id id;exact O e (O (ov ..) (O h0 rfl))
theorem xR (hw:0<=w) (hM:w+bJ [x,y,z]<=2 ^ 17) (h0:0<=u) (h1:u<=bJ [x,y,z]):0<=w+(bJ [x,y,z]-u)/\w+(bJ [x,y,z]-u)<=((2 ^ 17:Nat):Int) :=
 ⟨mm hw (bo h1),au (lx (mu _ h0) w) hM⟩
end
theorem HE (hw:0<=w) (hx:0<=x/\w+x<=2 ^ 17) (hy:0<=y/\w+y<=2 ^ 17) (hz:0<=z/\w+z<=2 ^ 17) (h0:x=0\/y=0\/z=0) :
  ∃h s v p q r:UInt64,FT aI (n+1) 6 [.flt (fq (w+x) 131072),.flt (fq (w+y) 131072),.flt (fq (w+z) 131072)]=some (.tup [.flt h,.flt s,.flt v]) /\
   FT aI (n+1) 7 [.flt (add h 0x3fe0000000000000),.flt s,.flt v]=some (.tup [.flt p,.flt q,.flt r]) /\
   Nr p (((w+(bJ [x,y,z]-x):Int):Rat)/(2 ^ 17:Nat)) (1/2 ^ 40)/\Nr q (((w+(bJ [x,y,z]-y):Int):Rat)/(2 ^ 17:Nat)) (1/2 ^ 40)/\Nr r (((w+(bJ [x,y,z]-z):Int):Rat)/(2 ^ 17:Nat)) (1/2 ^ 40):=by
 have hS:Sc (2 ^ 17):=⟨17,by decide,rfl⟩;have ga:=qP (x:=w+x) (oU (mN hw hx));have gb:=qP (x:=w+y) (oU (mN hw hy));have gc:=qP (x:=w+z) (oU (mN hw hz));refine O (WJ ..) ?_;simp only[WK]
 by_cases hg:x=y/\y=z
 ·refine xa hg λaT Ik=>?_;subst aT;subst Ik;clear hg;refine xea (AK (F:=FT aI n) hS ga ga ga) λv hv gv=>?_;refine O (AO h0) ?_;have nv:=SX hS gv (e:=1/2 ^ 40) (fr0 (.l .n0 .jf) []);exact(gH 0 0 v v v v hv G9 nv nv nv)
 ·have hd:aN (w+x) (w+y) (w+z)<aK (w+x) (w+y) (w+z):=WN hg;have Pj:=SY hx hy hz h0;have Pk:=SZ (w:=w) (x:=x) (y:=y) (z:=z);refine jE (SS (F:=FT aI n) hS (by decide) ga gb gc (mN hw hx) (mN hw hy) (mN hw hz) hd) λs v hv H=>?_;generalize iS (fq (w+x) 131072) (fq (w+y) 131072) (fq (w+z) 131072)=h at *;refine gC (NJ H.fh H.h0 H.h1) λf1 f2 f3 f4 f5=>?_;refine bI (M6 (t:=3) (F:=FT aI n) (m:=0) (e:=1/2 ^ 48) hS H hd (by exact O Pj hw) (by refine O Pk ?_;exact CY hx hy hz) f1 f2 f3 (fr0 (.l .n0 .kt) []) (fr0 (.l .kt .jo) []) (by push_cast;exact fr2 (.l (.S (.S (.A .kg .n3) .kJ) .kt) .kA) [.l (.S (.A .kg .n3) .kt) .kA] f4) (by push_cast;exact fr2 (.l .kg (.A (.S (.A .kA .n3) .kJ) .kt)) [.l .kg (.A (.A .kA .n3) .kt)] f5)) λp q r hp np nq nr=>?_;rw[WF,Pj,Pk] at np nq nr;simp only at np nq nr;have loose:∀{x:UInt64}{q:Rat},Nr x q (1/2 ^ 41)->Nr x q (1/2 ^ 40):=fun⟨a,b,c⟩=>⟨a,by exact fr2 (.l (.S .a .jf) .b) [.l (.S .a .k2) .b] b,by exact fr2 (.l .a (.A .b .jf)) [.l .a (.A .b .k2)] c⟩;refine⟨h,s,v,p,q,r,hv,hp,?_,?_,?_⟩
  ·exact O (j7 ..) (loose np)
  ·exact O (j7 ..) (loose nq)
  ·exact O (j7 ..) (loose nr)
theorem HF (hw:0<=w) (hx:0<=x/\w+x<=2 ^ 17) (hy:0<=y/\w+y<=2 ^ 17) (hz:0<=z/\w+z<=2 ^ 17) (h0:x=0\/y=0\/z=0) :
  ∃h s v p q r:UInt64,FT aI (n+2) 3 [.flt (fq (w+x) 131072),.flt (fq (w+y) 131072),.flt (fq (w+z) 131072)]=some (.tup [.flt h,.flt v,.flt s]) /\
   FT aI (n+2) 4 [.flt (ab h 0x3fe0000000000000),.flt v,.flt s]=some (.tup [.flt p,.flt q,.flt r]) /\
   Nr p (((w+(bJ [x,y,z]-x):Int):Rat)/(2 ^ 17:Nat)) (1/2 ^ 40)/\Nr q (((w+(bJ [x,y,z]-y):Int):Rat)/(2 ^ 17:Nat)) (1/2 ^ 40)/\Nr r (((w+(bJ [x,y,z]-z):Int):Rat)/(2 ^ 17:Nat)) (1/2 ^ 40):=by
 have hS:Sc (2 ^ 17):=⟨17,by decide,rfl⟩;have ga:=qP (x:=w+x) (oU (mN hw hx));have gb:=qP (x:=w+y) (oU (mN hw hy));have gc:=qP (x:=w+z) (oU (mN hw hz));refine O (XE ..) ?_;simp only[WL]
 by_cases hg:x=y/\y=z
 ·refine xa hg λaT Ik=>?_;subst aT;subst Ik;clear hg;refine xea (M8 (F:=FT aI (n+1)) hS ga ga ga (W9 (mN hw hx) (by decide))) λv hv gv=>?_;refine O (AO h0) ?_;have nv:=SX hS gv (e:=1/2 ^ 40) (fr0 (.l .n0 .jf) []);exact(gH 0 0 v v v v hv HA nv nv nv)
 ·have hd:aN (w+x) (w+y) (w+z)<aK (w+x) (w+y) (w+z):=WN hg;have Pj:=SY hx hy hz h0;have Pk:=SZ (w:=w) (x:=x) (y:=y) (z:=z);refine jE (M7 (F:=FT aI (n+1)) hS (by decide) ga gb gc (mN hw hx) (mN hw hy) (mN hw hz) hd) λl s hv H=>?_;generalize iS (fq (w+x) 131072) (fq (w+y) 131072) (fq (w+z) 131072)=h at *;refine gC (NK H.fh H.h0 H.h1) λf1 f2 f3 f4 f5=>?_;refine bI (M9 (t:=3) (k:=5) (F:=FT aI (n+1)) (m:=1) (e:=1/2 ^ 48) (vc n) hS H hd (by exact O Pj hw) (by refine O Pk ?_;exact CY hx hy hz) f1 f2 f3 (fr0 (.l .n0 .kt) []) (fr0 (.l .kt .jo) []) (by push_cast;exact fr2 (.l (.S (.S (.A .kg .n3) .js) .kt) .kA) [.l (.S (.S (.A .kg .n3) .n6) .kt) .kA] f4) (by push_cast;exact fr2 (.l .kg (.A (.S (.A .kA .n3) .js) .kt)) [.l .kg (.A (.S (.A .kA .n3) .n6) .kt)] f5)) λp q r hp np nq nr=>?_;rw[WF,Pj,Pk] at np nq nr;simp only at np nq nr;refine(gH h s l p q r hv hp ?_ ?_ ?_)
  ·exact O (j7 ..) np
  ·exact O (j7 ..) nq
  ·exact O (j7 ..) nr
theorem t6{a b c a' b' c' w way:Int}(hw:0<=w) (Md:way=0\/way=1) (hM:w+(bJ [a+a',b+b',c+c']-b9 [a+a',b+b',c+c'])<=2 ^ 17) :
  FT aI (n+3) 16 [aM [a,b,c],aM [a',b',c'],.int w,.int way] =
   some (aM (SW (a+a'-b9 [a+a',b+b',c+c']) (b+b'-b9 [a+a',b+b',c+c']) (c+c'-b9 [a+a',b+b',c+c']))):=by
 refine O (ft (n+2) 16 g8 _ rfl) ?_;apply iL rfl;show fV (aE _ g8.code [some (aM [a,b,c]),some (aM [a',b',c']),some (.int w),some (.int way),none,none,none,none,none,none,none,none,none,none,none])=_;unfold g8;have Sd:∀pe,lk pe 0=some (aM [a,b,c])->lk pe 1=some (aM [a',b',c'])->(∀v,lk (st pe 14 v) 14=some v/\lk (st pe 14 v) 0=lk pe 0/\lk (st pe 14 v) 1=lk pe 1) ->
   aA (FT aI (n+2)) (.comp Q0x 14 (.rng1 Q0v) false Qa) pe=some (aM [a+a',b+b',c+c']):=by
  intro pe h0 h1 Kv;have it:∀(k:Int) (u v:Int),([a,b,c].map PV.int)[k.toNat]?=some (.int u)->([a',b',c'].map PV.int)[k.toNat]?=some (.int v)->0<=k->k<1000000->aA (FT aI (n+2)) Q0x (st pe 14 (.int k))=some (.int (u+v)):=by
   intro k u v hu hv k0 k1;refine xaa (Kv (.int k)) λq1 q2 q3=>?_;simp only[aF,q1,q2,q3,h0,h1,aM,fT k0 k1 hu,fT k0 k1 hv,cH]
  refine f0 (p:=.int 0) (q:=.int 1) (r:=.int 2) (t5 (n:=3) rfl (by decide)) (it 0 _ _ rfl rfl (by decide) (by decide)) (it 1 _ _ rfl rfl (by decide) (by decide)) (it 2 _ _ rfl rfl (by decide) (by decide))
 refine aR (asg (Sd _ rfl rfl (λv=>(iaa rfl rfl rfl)))) ?_
 dsimp only[aY,aZ]
 refine aP (wD (a+a') (b+b') (c+c')) λn1 n2 n3 n4=>?_;refine aP (oT (a+a') (b+b') (c+c')) λm1 m2 m3 m4=>?_;have Mf:=E9 [a+a',b+b',c+c'] rfl;generalize b9 [a+a',b+b',c+c']=m at *;generalize bJ [a+a',b+b',c+c']=M at *;have wx:=CX n1 m1 hM;have wy:=CX n2 m2 hM;have wz:=CX n3 m3 hM;have w0:=UZ n4;clear n1 n2 n3 n4 m1 m2 m3 m4 hM;have ga:=qP (x:=w+(a+a'-m)) (oU (mN hw wx));have gb:=qP (x:=w+(b+b'-m)) (oU (mN hw wy));have gc:=qP (x:=w+(c+c'-m)) (oU (mN hw wz));refine aR (asgT (p:=.lst [.flt (fq (w+(a+a'-m)) 131072),.flt (fq (w+(b+b'-m)) 131072),.flt (fq (w+(c+c'-m)) 131072)]) ?_ rfl) ?_
 ·refine f0 (p:=.int (a+a')) (q:=.int (b+b')) (r:=.int (c+c')) (jL (by rfl) (by simp)) ?_ ?_ ?_
  ·simp only[aF,EVL,Mf];rw[um w];exact j6 (w+(a+a'-m)) 131072 (by decide) ga.1
  ·simp only[aF,EVL,Mf];rw[um w];exact j6 (w+(b+b'-m)) 131072 (by decide) gb.1
  ·simp only[aF,EVL,Mf];rw[um w];exact j6 (w+(c+c'-m)) 131072 (by decide) gc.1
 dsimp only[aY,aZ]
 generalize hx:a+a'-m=x at *;generalize hy:b+b'-m=y at *;generalize hz:c+c'-m=z at *;have Lj:=CY wx wy wz;refine aP (oT x y z) λq1 q2 q3 aT=>?_;clear aT;have ox:=xR hw Lj wx.1 q1;have oy:=xR hw Lj wy.1 q2;have oz:=xR hw Lj wz.1 q3;clear q1 q2 q3 Lj;have fin:∀(p q r:UInt64) (p5 p6 p7 p8 p9 p10:Option PV),Nr p (((w+(bJ [x,y,z]-x):Int):Rat)/(2 ^ 17:Nat)) (1/2 ^ 40)->Nr q (((w+(bJ [x,y,z]-y):Int):Rat)/(2 ^ 17:Nat)) (1/2 ^ 40)->Nr r (((w+(bJ [x,y,z]-z):Int):Rat)/(2 ^ 17:Nat)) (1/2 ^ 40) ->
   fV (aE (FT aI (n+2)) Q0d
    [some (aM [a,b,c]),some (aM [a',b',c']),some (.int w),some (.int way),some (aM [a+a',b+b',c+c']),p5,p6,p7,p8,p9,p10,some (.tup [.flt p,.flt q,.flt r]),none,none,none])=some (aM (SW x y z)):=by
  intro p q r p5 p6 p7 p8 p9 p10 np nq nr;refine dU ?_;have bp:=tY (S:=2 ^ 17) (by decide) (by decide) (V:=w+(bJ [x,y,z]-x)) ox.1 ox.2 np;have bq:=tY (S:=2 ^ 17) (by decide) (by decide) (V:=w+(bJ [x,y,z]-y)) oy.1 oy.2 nq;have br:=tY (S:=2 ^ 17) (by decide) (by decide) (V:=w+(bJ [x,y,z]-z)) oz.1 oz.2 nr;rw[show(((2 ^ 17:Nat):Int))=131072 from rfl] at bp bq br;refine(f0 (p:=.flt p) (q:=.flt q) (r:=.flt r) (NA (by rfl) (by simp)) (p':=.int (bJ [x,y,z]-x)) (q':=.int (bJ [x,y,z]-y)) (r':=.int (bJ [x,y,z]-z)) ?_ ?_ ?_).trans rfl
  ·simp only[aF,EVL,NI,oJ 131072 p (E7 (by decide)),bp];exact congrArg (λu=>some (PV.int u)) (pL w _)
  ·simp only[aF,EVL,NI,oJ 131072 q (E7 (by decide)),bq];exact congrArg (λu=>some (PV.int u)) (pL w _)
  ·simp only[aF,EVL,NI,oJ 131072 r (E7 (by decide)),br];exact congrArg (λu=>some (PV.int u)) (pL w _)
 rcases Md with rfl | rfl
 ·refine eJ (HE (n:=n+1) (w:=w) (x:=x) (y:=y) (z:=z) hw wx wy wz w0) λh s v p zt=>?_;refine iT zt λq r e1 e2 np nq nr=>?_;clear zt;refine aR (dT (by rfl) (seq (asgT (p:=.tup [.flt h,.flt s,.flt v]) ?_ rfl) (aG (asg (p:=.tup [.flt p,.flt q,.flt r]) ?_)))) ?_
  ·trivial
  ·trivial
  ·dsimp only[aY,aZ]
   exact fin p q r _ _ _ _ _ _ np nq nr
 ·refine eJ (HF (n:=n) (w:=w) (x:=x) (y:=y) (z:=z) hw wx wy wz w0) λh s v p zt=>?_;refine iT zt λq r e1 e2 np nq nr=>?_;clear zt;refine aR (cA (by rfl) (seq (asgT (p:=.tup [.flt h,.flt v,.flt s]) ?_ rfl) (aG (asg (p:=.tup [.flt p,.flt q,.flt r]) ?_)))) ?_
  ·trivial
  ·trivial
  ·dsimp only[aY,aZ]
   exact fin p q r _ _ _ _ _ _ np nq nr
end L2
theorem NL:iE f (a::l)=match f a,iE f l with
  | some b,some n=>some (if b then n+1 else n)
  | _,_=>none:=rfl
theorem U0:mL f (a::l)=match f a,mL f l with
  | some x,some y=>some (x||y)
  | _,_=>none:=rfl
theorem wE:∀{l:List PV},(∀x∈l,f x x=some true)->mK f l l=some true
 | [],_=>rfl
 | a::l,h=>by
  have h1:=h a (aj);have h2:=wE (f:=f) (l:=l) λx hx=>h x (by simp[hx]);show(match f a a,mK f l l with | some x,some y=>some (x&&y) | _,_=>none)=_;refine O h1 (O h2 ?_);rfl
noncomputable def CZ (f:Option (PV->Bool)) (p:PV):Bool:=match p with
 | .none=>true
 | .bool _=>true
 | .int _=>true
 | .str _=>true
 | .tup l=>(match f with | some f=>l.all f | none=>false)
 | .lst l=>(match f with | some f=>l.all f | none=>false)
 | _=>false
def pM:Nat->PV->Bool
 | 0=>CZ none
 | n+1=>CZ (some (pM n))
theorem rC{α:Type}{f:α->PV}(hf:∀a,pM 2 (f a)=true) (l:List α):pM 3 (.lst (l.map f))=true:=by
 refine am.mpr λy hy=>?_;obtain⟨a,_,rfl⟩:=fg.mp hy;exact hf a
theorem AP (Wb:∀f',f=some f'->∃g',g=some g'/\∀x,f' x=true->g' x x=some true) (h:CZ f p=true):mZ g p p=some true:=by
 cases p <;> try (exact nf h)
 case none=>rfl
 case bool=>exact congrArg some (beq_self_eq_true _)
 case int=>exact congrArg some (beq_self_eq_true _)
 case str=>exact congrArg some (beq_self_eq_true _)
 all_goals
  cases f with
  | none=>exact nf h
  | some f' =>
   apply xer (Wb f' rfl);intro g' hg;exact(if_pos (beq_self_eq_true _)).trans (wE λx hx=>hg x (am.mp h x hx))
theorem NM (h:pM n p=true):eqF n p p=some true:=by
 induction n generalizing p with
 | zero=>exact AP (f:=none) (g:=none) (λ_ e=>nn e) h
 | succ n ih=>exact AP (f:=some (pM n)) (g:=some (eqF n)) (λf' e=>(iea _ rfl (λx hx=>ih (sm e ▸ hx)))) h
theorem kT (h:pM 3 p=true) (hf:∀x,p≠.flt x):bF .NotEq p p=some false:=by
 have:bF .NotEq p p=(eqF 3 p p).map (!·):=by cases p <;> rfl
 refine O this (O (NM h) ?_);rfl
theorem NN (l:List PV):bF .Eq (.lst l) (.lst [])=some l.isEmpty:=by
 cases l <;> rfl
theorem U1 (l:List PV):bF .NotEq (.lst l) (.lst [])=some (!l.isEmpty):=by
 cases l <;> rfl
theorem AQ (a b:Bool):bF .Eq (mkS a) (mkS b)=some (a==b):=by
 unfold mkS;refine O (jB ..) ?_;cases a <;> cases b <;> rfl
noncomputable def j8 (bs:List Bool):List Nat:=bs.map λb=>if b then 62 else 60
theorem C0 (bs:List Bool):(bs.map λb:Bool=>[if b then 62 else 60]).flatten=j8 bs:=by
 induction bs with
 | nil=>rfl
 | cons b l ih=>simp[j8] at ih ⊢;exact O ih rfl
theorem t7 (bs:List Bool) (h:bs.length<=100000):meF .join (.str (sx [])) [.lst (bs.map mkS)]=some (.str (sx (j8 bs))):=by
 have:=lP [] (bs.map λb:Bool=>[if b then 62 else 60]) (by
  have:((bs.map λb:Bool=>[if b then 62 else 60]).map fo).sum=bs.length:=by
   clear h
   induction bs with
   | nil=>rfl
   | cons b l ih=>(rw[ak];refine O ak (O lc (O ih ?_)));simp;exact fn1 (.z1 (.A .n1 .q) .kc) []
  refine O this ?_;simpa using h)
 rw[hV,C0] at this;refine XO this ?_;congr 2;unfold mM;refine O co ?_;rfl
noncomputable def adj:List Bool->Bool
 | a::b::l=>a==b||adj (b::l)
 | _=>false
noncomputable def t8:Nat->List (List Bool)
 | 0=>[[]]
 | n+1=>(t8 n).flatMap λl=>[false::l,true::l]
theorem NO:t8 0=[[]]:=rfl
theorem NP:t8 (n+1)=(t8 n).flatMap λl=>[false::l,true::l]:=rfl
theorem iR:∀(l:List Bool),l∈t8 l.length
 | []=>by simp[NO,NP]
 | b::l=>by
  simp only[db,NO,NP,List.mem_flatMap];exact(iea l (iR l) (by cases b <;> simp))
def xS (ms:List Bool):Bool:=match toks 999 (j8 ms) with
 | some r=>(r.contains 33||r.contains 34)==adj ms
 | none=>false
theorem NQ:((cv 8).all λn=>(t8 n).all xS)=true:=by decide +kernel
theorem FA (h:ms.length<=7):xS ms=true:=by
 have:=am.mp NQ ms.length (by simp;exact gy h (by decide));exact am.mp this ms (iR ms)
theorem xT (k:Int):∀(l:List Int),mL (λy=>eqF 0 y (.int k)) (l.map .int)=some (l.contains k)
 | []=>rfl
 | a::l=>by
  have e:eqF 0 (.int a) (.int k)=some (a==k):=rfl;simp only[ak,U0,xT k l,e,List.contains_cons];congr 2;exact O (propext qd) (O (propext beq_iff_eq) (O (propext beq_iff_eq) eq_comm))
theorem RK (k:Int) (l:List Int):bF .In (.int k) (aM l)=some (l.contains k):=by
 show(if (l.map PV.int).all PV.scalar then mL (λy=>eqF 0 y (.int k)) (l.map .int) else none)=_;exact O (if_pos (by rw[su];exact am.mpr λ_ _=>rfl)) (O (xT ..) rfl)
theorem t9 (k:Int) (l:List Int):bF .NotIn (.int k) (aM l)=some (!l.contains k):=by
 show(if (l.map PV.int).all PV.scalar then(mL (λy=>eqF 0 y (.int k)) (l.map .int)).map (!·) else none)=_;refine O (if_pos (by rw[su];exact am.mpr λ_ _=>rfl)) (O (xT ..) ?_);rfl
theorem wF{α:Type}(f:α->PV) (hs:∀a,(f a).scalar=true) (p:PV) (q:α->Bool) (h:∀a,eqF 0 (f a) p=some (q a)):∀l:List α,meF .count (.lst (l.map f)) [p]=some (.int ((l.countP q:Nat):Int)):=by
 intro l;have key:∀l:List α,iE (λy=>eqF 0 y p) (l.map f)=some (l.countP q):=by
  intro l
  induction l with
  | nil=>rfl
  | cons a l ih =>
   simp only[ak,NL,h a,ih,ux];cases q a <;> rfl
 show(if (l.map f).all PV.scalar then(iE (λy=>eqF 0 y p) (l.map f)).map (λn:Nat=>PV.int (n:Int)) else none)=_;refine O (if_pos (by simp[hs])) (O (key ..) ?_);rfl
theorem uA (b:Bool) (bs:List Bool):meF .count (.lst (bs.map mkS)) [mkS b]=some (.int ((bs.countP (·==b):Nat):Int)) :=
 wF mkS (λa=>rfl) _ (·==b) (λa=>by
  unfold mkS;show some (sx _==sx _)=_;refine O (MF ..) ?_;cases a <;> cases b <;> rfl) bs
theorem HG (k:Int) (l:List Int):meF .count (aM l) [.int k]=some (.int ((l.countP (·==k):Nat):Int)) :=
 wF PV.int (λa=>rfl) _ (·==k) (λa=>rfl) l
namespace L2
variable{n:Nat}
theorem HH (b:Bool):FT aI (n+1) 12 [mkS b]=some (mkS (!b)):=by
 refine O (ft n 12 i7 _ rfl) ?_;apply iL rfl;show fV (aE _ i7.code [some (mkS b)])=_;unfold i7;refine dU ?_;refine O (show("<":Str)=sx [60] from rfl) (O (show(">":Str)=sx [62] from rfl) ?_);unfold mkS;simp only[aF,EVL,jB];cases b <;> rfl
theorem NR (n:Nat) (args:List PV):FT aI (n+1) 10 args=dJ (FT aI n) Co.dS args:=ft n 10 dS args rfl
set_option tactic.hygienic true in
theorem NS (h:ms.length<=7):FT aI (n+2) 13 [.lst (ms.map mkS)]=some (.bool (adj ms)):=by
 have hl:=FA h;unfold xS at hl;split at hl
 ·rename_i r hr;refine O (ft (n+1) 13 kP _ rfl) ?_;apply iL rfl;show fV (aE _ kP.code [some (.lst (ms.map mkS)),none])=_;unfold kP;have Lk:FT aI (n+1) 10 [.str (sx (j8 ms))]=some (aM r):=by
   refine O (NR ..) ?_;exact tM hr (by simp[j8];exact aa h (by decide))
  refine aR (asg (p:=aM r) ?_) ?_
  ·refine O (show("":Str)=sx [] from rfl) ?_;simp only[aF,EVL,t7 ms (aa h (by decide)),Lk]
  ·simp only[aY,aZ];refine dU ?_;have hh:=eq_of_beq hl;simp only[aF,EVL,RK];refine XO hh ?_;cases r.contains 33 <;> rfl
 ·cases hl
end L2
abbrev Col:=Int × Int × Int
def lp (t:Col):PV:=aM [t.1,t.2.1,t.2.2]
noncomputable def cJ:List Col->Col
 | []=>(0,0,0)
 | t::l=>(t.1+(cJ l).1,t.2.1+(cJ l).2.1,t.2.2+(cJ l).2.2)
theorem C1:cJ []=(0,0,0):=rfl
theorem pN{t:Col}{l:List Col}:cJ (t::l)=(t.1+(cJ l).1,t.2.1+(cJ l).2.1,t.2.2+(cJ l).2.2):=rfl
def cO (t:Col):Col:=(t.1-b9 [t.1,t.2.1,t.2.2],t.2.1-b9 [t.1,t.2.1,t.2.2],t.2.2-b9 [t.1,t.2.1,t.2.2])
def opp (t:Col):Col:=(bJ [t.1,t.2.1,t.2.2]-t.1,bJ [t.1,t.2.1,t.2.2]-t.2.1,bJ [t.1,t.2.1,t.2.2]-t.2.2)
noncomputable def pts (bs:List Bool):Nat:=bs.countP (·==false)+2*bs.countP (·==true)
def small (t:Col):Bool:=eW t.1&&eW t.2.1&&eW t.2.2
theorem NT (l:List Int) (h:l.all eW=true) (hl:l.length<=1000):biF .sum [aM l]=some (.int l.sum):=by
 show(cT (l.map .int)).bind TL=_;refine O (kS ..) ?_;exact if_pos (by refine O h (O (decide_eq_true hl) ?_);rfl)
theorem WO:∀ls:List Col,(ls.map (·.1)).sum=(cJ ls).1
 | []=>rfl
 | t::l=>by simp only[ak,lc,pN];exact O (WO l) rfl
theorem WP:∀ls:List Col,(ls.map (·.2.1)).sum=(cJ ls).2.1
 | []=>rfl
 | t::l=>by simp only[ak,lc,pN];exact O (WP l) rfl
theorem WQ:∀ls:List Col,(ls.map (·.2.2)).sum=(cJ ls).2.2
 | []=>rfl
 | t::l=>by simp only[ak,lc,pN];exact O (WQ l) rfl
namespace L2
variable{n:Nat}
theorem RL{ls:List Col}{bs:List Bool}(h:ls.all small=true) (hl:ls.length<=100) (hb:bs.length<=100) :
  FT aI (n+1) 17 [.lst (ls.map lp),.lst (bs.map mkS)]=some (.tup [mkS (!decide (pts bs%3=1)),lp (if pts bs%3=1 then cO (cJ ls) else opp (cO (cJ ls)))]):=by
 refine O (ft n 17 mD _ rfl) ?_;apply iL rfl;show fV (aE _ mD.code [some (.lst (ls.map lp)),some (.lst (bs.map mkS)),none,none,none,none,none])=_;unfold mD;have hs:∀t∈ls,eW t.1=true/\eW t.2.1=true/\eW t.2.2=true:=by
  intro t ht;have:=am.mp h t ht;unfold small at this;simp only[ay] at this;exact(iaa this.1.1 this.1.2 this.2)
 have item:∀(k:Int) (g:Col->Int) (v4:Option PV),(∀t,cX (lp t) (.int k)=some (.int (g t)))->(∀t∈ls,eW (g t)=true) ->
   aA (FT aI n) (.bi .sum (.cons Q0H .nil)) (st [some (.lst (ls.map lp)),some (.lst (bs.map mkS)),none,none,none,none,none] 5 (.int k))=some (.int (ls.map g).sum):=by
  intro k g v4 hg Js;have hc:aA (FT aI n) Q0H (st [some (.lst (ls.map lp)),some (.lst (bs.map mkS)),none,none,none,none,none] 5 (.int k))=some (aM (ls.map g)):=by
   have:=iQ (F:=FT aI n) (pe:=st [some (.lst (ls.map lp)),some (.lst (bs.map mkS)),none,none,none,none,none] 5 (.int k)) (src:=.val Qv) (e:=.sub Q0E Q0p) (c:=.cst .none) (tg:=6) (items:=ls.map lp) (λp=>match cX p (.int k) with | some v=>v | none=>.none) (jL (by rfl) (by simp;exact aa hl (by decide))) (by
    intro p hp;apply gW (fg.mp hp);intro t ht;simp only[aF,EVL,hg])
   refine O this ?_;congr 2;refine O co (O co (ei λt ht=>?_));simp only[pt,hg]
  simp only[aF] at hc ⊢;refine O hc ?_;simp only;exact NT _ (by simp only[su,am];exact λt ht=>Js t ht) (by simp;exact aa hl (by decide))
 refine aR (asg (p:=lp (cJ ls)) ?_) ?_
 ·refine(f0 (p:=.int 0) (q:=.int 1) (r:=.int 2) (t5 (n:=3) rfl (by decide)) (item 0 (·.1) none (λt=>fT (by decide) (by decide) rfl) (λt ht=>(hs t ht).1)) (item 1 (·.2.1) none (λt=>fT (by decide) (by decide) rfl) (λt ht=>(hs t ht).2.1)) (item 2 (·.2.2) none (λt=>fT (by decide) (by decide) rfl) (λt ht=>(hs t ht).2.2))).trans ?_;refine O (WO ..) (O (WP ..) (O (WQ ..) ?_));rfl
 simp only[aY,aZ];refine aR (asg (p:=lp (cO (cJ ls))) ?_) ?_
 ·have Mf:=E9 [(cJ ls).1,(cJ ls).2.1,(cJ ls).2.2] rfl;refine(f0 (p:=.int (cJ ls).1) (q:=.int (cJ ls).2.1) (r:=.int (cJ ls).2.2) (p':=.int (cO (cJ ls)).1) (q':=.int (cO (cJ ls)).2.1) (r':=.int (cO (cJ ls)).2.2) (jL rfl (by simp)) ?_ ?_ ?_).trans rfl
  ·unfold lp;rfl
  ·unfold lp;rfl
  ·unfold lp;rfl
 simp only[aY,aZ];have Pm:aA (FT aI n) (.cmp .Eq (.bin .Mod (.bin .Add (.me .count Qu (.cons (.cst (.str ("<":Str))) .nil)) (.bin .Mult Qc (.me .count Qu (.cons (.cst (.str (">":Str))) .nil)))) Q0v) Qb)
   [some (.lst (ls.map lp)),some (.lst (bs.map mkS)),some (lp (cO (cJ ls))),none,none,none,none]=some (.bool (decide (pts bs%3=1))):=by
  refine O (show PV.str ("<":Str)=mkS false from rfl) (O (show PV.str (">":Str)=mkS true from rfl) ?_);simp only[aF,EVL,uA,jX 2 _ (by decide),cI _ 3 (by decide)];congr 2;unfold pts;refine O (propext qd) ?_;simp only[beq_iff_eq,decide_eq_true_eq];exact⟨λh=>by exact_mod_cast h,λh=>by exact_mod_cast h⟩
 by_cases hp:pts bs%3=1
 ·refine O (if_pos hp) ?_;simp only[hp,decide_true,Ab] at Pm ⊢;refine jA Pm (dU ?_);rfl
 ·refine O (if_neg hp) ?_;simp only[hp,decide_false,Eg] at Pm ⊢;refine aR (cA Pm bG) ?_;refine dU ?_;have Un:=RI [(cO (cJ ls)).1,(cO (cJ ls)).2.1,(cO (cJ ls)).2.2] rfl;generalize cO (cJ ls)=t at *;have hc:aA (FT aI n) Q0P [some (.lst (ls.map lp)),some (.lst (bs.map mkS)),some (lp t),none,none,none,none]=some (lp (opp t)):=by
   refine(f0 (p:=.int t.1) (q:=.int t.2.1) (r:=.int t.2.2) (p':=.int (opp t).1) (q':=.int (opp t).2.1) (r':=.int (opp t).2.2) (jL rfl (by simp)) ?_ ?_ ?_).trans rfl
   ·unfold lp;rfl
   ·unfold lp;rfl
   ·unfold lp;rfl
  simp only[aF] at hc ⊢;refine O hc ?_;rfl
end L2
namespace L2
def f6 (ls:List Col) (bs:List Bool):Col:=if pts bs%3=1 then cO (cJ ls) else opp (cO (cJ ls))
structure Lt (k:Int) (t:Col):Prop where
 a0:0<=t.1
 b0:0<=t.2.1
 c0:0<=t.2.2
 a1:t.1<=k
 b1:t.2.1<=k
 c1:t.2.2<=k
 pl:t.2.2<t.2.1\/(t.2.1=t.2.2/\t.2.1<t.1)
theorem Lt.add (h:Lt k t) (h':Lt m u):Lt (k+m) (t.1+u.1,t.2.1+u.2.1,t.2.2+u.2.2) where
 a0:=mm h.a0 h'.a0
 b0:=mm h.b0 h'.b0
 c0:=mm h.c0 h'.c0
 a1:=nj h.a1 h'.a1
 b1:=nj h.b1 h'.b1
 c1:=nj h.c1 h'.c1
 pl:=by
  rcases h.pl with q | ⟨q1,q2⟩ <;> rcases h'.pl with r | ⟨r1,r2⟩
  ·exact .inl (Eh q r)
  ·exact .inl (Int.add_lt_add_of_lt_of_le q (ck r1.symm))
  ·exact .inl (Int.add_lt_add_of_le_of_lt (ck q1.symm) r)
  ·exact .inr ⟨by show t.2.1+u.2.1=t.2.2+u.2.2;rw[q1,r1],Eh q2 r2⟩
theorem C2 (h:∀t∈ls,Lt 1024 t) (hn:ls≠[]):Lt (1024*ls.length) (cJ ls):=by
 induction ls with
 | nil=>exact absurd rfl hn
 | cons t l ih =>
  by_cases hl:l=[]
  ·subst hl;have h1:=h t aj;have e:cJ [t]=t:=by show(t.1+0,t.2.1+0,t.2.2+0)=t;rw[qv,qv,qv]
   rw[e];exact h1
  ·have h1:=Lt.add (h t (by simp)) (ih (λu hu=>h u (by simp[hu])) hl);have e:(1024:Int)*((t::l).length:Int)=1024+1024*(l.length:Int):=by simp;exact fn1 (.e (.M (.N 1024) .kc) (.A (.N 1024) (.M (.N 1024) .q))) []
   rw[e];exact h1
theorem C3 (h1:m<=x) (h2:m<=y) (h3:m<=z) (h4:m=x\/m=y\/m=z):b9 [x,y,z]=m:=by
 refine aP (wD x y z) λq1 q2 q3 q4=>?_;refine ca ?_ ?_
 ·rcases h4 with rfl | rfl | rfl <;> assumption
 ·rcases q4 with e | e | e <;> rw[e] <;> assumption
theorem or3{α β:Type}{x y z m:α}(f:α->β) (h:m=x\/m=y\/m=z):f m=f x\/f m=f y\/f m=f z:=h.imp (congrArg f) λh=>h.imp (congrArg f) (congrArg f)
theorem HI (x y z c:Int):b9 [x+c,y+c,z+c]=b9 [x,y,z]+c:=by
 refine aP (wD x y z) λq1 q2 q3 q4=>?_;exact C3 (rm q1 c) (rm q2 c) (rm q3 c) (or3 (·+c) q4)
theorem RM (x y z:Int):bJ [x,y,z]=-b9 [-x,-y,-z]:=by
 refine aP (oT x y z) λq1 q2 q3 q4=>?_;rw[C3 (m:=-bJ [x,y,z]) (zi q1) (zi q2) (zi q3) (or3 (- ·) q4),Go]
theorem pO (a b c:Int):a+c-(b+c)=a-b:=by exact fz3 (.e (.S .kb (.A .c .b)) .j1) []
theorem uB (x y z c:Int):cO (x+c,y+c,z+c)=cO (x,y,z):=by
 delta cO
 show(x+c-b9 [x+c,y+c,z+c],y+c-b9 [x+c,y+c,z+c],z+c-b9 [x+c,y+c,z+c])=_;rw[HI,pO,pO,pO]
theorem NU (t:Col):opp t=cO (-t.1,-t.2.1,-t.2.2):=by
 delta opp cO
 rw[RM];refine tu ?_ (tu ?_ ?_) <;> exact Int.add_comm _ _
theorem xU (h:Lt k t):Lt k (cO t)/\b9 [(cO t).1,(cO t).2.1,(cO t).2.2]=0:=by
 refine aP (wD t.1 t.2.1 t.2.2) λq1 q2 q3 q4=>?_;have hm:0<=b9 [t.1,t.2.1,t.2.2]:=by
  rcases q4 with e | e | e <;> rw[e]
  ·exact h.a0
  ·exact h.b0
  ·exact h.c0
 delta cO
 generalize b9 [t.1,t.2.1,t.2.2]=m at *;have up:∀{x:Int},x<=k->x-m<=k:=λhx=>au (mu _ hm) hx;refine⟨⟨bo q1,bo q2,bo q3,up h.a1,up h.b1,up h.c1,?_⟩,?_⟩
 ·exact h.pl.imp (λq=>zj q m) λq=>⟨congrArg (· - m) q.1,zj q.2 m⟩
 ·refine C3 (m:=0) (bo q1) (bo q2) (bo q3) ?_;have:=or3 (· - m) q4;rw[show m-m=0 from ov m] at this;exact this
def Bd (k:Int) (t:Col):Prop:=0<=t.1/\t.1<=k/\0<=t.2.1/\t.2.1<=k/\0<=t.2.2/\t.2.2<=k
theorem Bd.opp (h:Bd k t):Bd k (opp t):=by
 refine mW h λh1 h2 h3 h4 h5 h6=>?_;clear h;refine aP (oT t.1 t.2.1 t.2.2) λq1 q2 q3 q4=>?_;have hm:bJ [t.1,t.2.1,t.2.2]<=k:=by rcases q4 with e | e | e <;> rw[e] <;> assumption
 delta Mine.opp
 generalize bJ [t.1,t.2.1,t.2.2]=m at *;have up:∀{x:Int},0<=x->m-x<=k:=λhx=>au (mu _ hx) hm;exact(gF (bo q1) (up h1) (bo q2) (up h3) ⟨(bo q3),(up h5)⟩)
theorem Lt.bd (h:Lt k t):Bd k t:=(gF h.a0 h.a1 h.b0 h.b1 ⟨h.c0,h.c1⟩)
theorem NV{ls:List Col}{bs:List Bool}(h:∀t∈ls,Lt 1024 t) (hn:ls≠[]):Bd (1024*ls.length) (f6 ls bs):=by
 have:=xU (C2 h hn)
 delta f6
 split
 ·exact this.1.bd
 ·exact this.1.bd.opp
theorem C4 (h:Lt k t):fS (cO t).1 (cO t).2.1 (cO t).2.2=true:=by
 refine decide_eq_true ?_;exact(xU h).1.pl.imp id λq=>⟨q.1,dd q.2⟩
theorem HJ (h:Lt k t):fS (opp t).1 (opp t).2.1 (opp t).2.2=false:=by
 refine decide_eq_false ?_;show ¬(_-t.2.2<_-t.2.1\/(_-t.2.1=_-t.2.2/\_-t.2.1<=_-t.1));intro q;rcases q with q | ⟨q,r⟩
 ·have q:=Int.lt_of_sub_lt_sub_left q;exact h.pl.elim (λp=>absurd (Bp p q) (gn _)) λp=>absurd q (p.1 ▸ gn _)
 ·have q:=(Int.sub_right_inj ..).mp q;have r:=Int.le_of_sub_le_sub_left r;exact h.pl.elim (λp=>absurd p (q ▸ gn _)) λp=>absurd p.2 (dr.mpr r)
theorem uC{ls:List Col}{bs:List Bool}(h:∀t∈ls,Lt 1024 t) (hn:ls≠[]):fS (f6 ls bs).1 (f6 ls bs).2.1 (f6 ls bs).2.2=decide (pts bs%3=1):=by
 delta f6
 by_cases hp:pts bs%3=1
 ·rw[if_pos hp];simp only[hp,decide_true];exact C4 (C2 h hn)
 ·rw[if_neg hp];simp only[hp,decide_false];exact HJ (xU (C2 h hn)).1
theorem FB:∀(a b:List Col),cJ (a++b)=((cJ a).1+(cJ b).1,(cJ a).2.1+(cJ b).2.1,(cJ a).2.2+(cJ b).2.2)
 | [],b=>by simp[C1,pN]
 | t::a,b=>by
  simp only[bf,C1,pN,FB a b];refine tu ?_ (tu ?_ ?_) <;> simp only <;> exact fz3 (.e (.A .a .kH) (.A .kb .c)) []
theorem rD (a b:List Bool):pts (a++b)=pts a+pts b:=by
 delta pts;simp only[Aj];exact fn4 (.z1 (.A .ko (.M .n2 (.A .s .t))) (.A (.A .q (.M .n2 .s)) (.A .r (.M .n2 .t)))) []
noncomputable def AR (t u:Col):Col:=(t.1+u.1,t.2.1+u.2.1,t.2.2+u.2.2)
noncomputable def XF (t:Col):Col:=(-t.1,-t.2.1,-t.2.2)
theorem AS (t u:Col):cO (AR (cO t) (cO u))=cO (AR t u):=by
 have e:AR (cO t) (cO u)=(t.1+u.1+-(b9 [t.1,t.2.1,t.2.2]+b9 [u.1,u.2.1,u.2.2]),t.2.1+u.2.1+-(b9 [t.1,t.2.1,t.2.2]+b9 [u.1,u.2.1,u.2.2]),t.2.2+u.2.2+-(b9 [t.1,t.2.1,t.2.2]+b9 [u.1,u.2.1,u.2.2])):=by
  delta AR cO
  generalize b9 [t.1,t.2.1,t.2.2]=m;generalize b9 [u.1,u.2.1,u.2.2]=m';have k:∀a b:Int,a-m+(b-m')=a+b+-(m+m'):=λa b=>by exact fz4 (.e (.A .ka .jc) (.A (.A .a .c) (.G (.A .b .d)))) []
  show(t.1-m+(u.1-m'),t.2.1-m+(u.2.1-m'),t.2.2-m+(u.2.2-m'))=_;rw[k,k,k]
 rw[e];exact uB _ _ _ _
theorem lV (t:Col):opp (cO t)=cO (XF t):=by
 rw[NU];have k:∀a m:Int,-(a-m)=-a+m:=λa m=>by exact fz2 (.e (.G .ka) (.A .k0 .b)) []
 show cO (-(t.1-_),-(t.2.1-_),-(t.2.2-_))=cO (-t.1,-t.2.1,-t.2.2);rw[k,k,k];exact uB _ _ _ _
theorem C5 (h0:pts ba%3=1\/pts ba%3=2) (h:pts ba%3=pts bb%3):opp (cO (AR (f6 la ba) (f6 lb bb)))=f6 (la++lb) (ba++bb):=by
 delta f6
 rw[rD,FB];show _=if (pts ba+pts bb)%3=1 then cO (AR (cJ la) (cJ lb)) else opp (cO (AR (cJ la) (cJ lb)));generalize cJ la=x;generalize cJ lb=y;rcases h0 with h0 | h0
 ·rw[if_pos h0,if_pos (h ▸ h0),if_neg (by rw[un,<- h,h0];decide),AS]
 ·rw[if_neg (by exact cj (fn1 (.y .n1 .q) [.z1 .n2 .q] h0.symm)),if_neg (by exact cj (fn2 (.y .n1 .q) [.z1 .r .q,.z1 .n2 .r] h h0.symm)),if_pos (by rw[un,<- h,h0]),lV x,lV y,AS,lV];have k:∀a b:Int,-(-a+-b)=a+b:=λa b=>by exact fz2 (.e (.G (.A .k0 (.G .b))) .kb) []
  show cO (-(-x.1+-y.1),-(-x.2.1+-y.2.1),-(-x.2.2+-y.2.2))=_;rw[k,k,k];rfl
noncomputable def bN (x:Int):Int:=1+x/512%4
def bD (p s:Int):Col:=(qG p s 0,qG p s 512,qG p s 1024)
theorem lW (x:Int):bN x=1\/bN x=2\/bN x=3\/bN x=4:=by
 have h1:=fj (x/512) (by decide:(4:Int)≠0);have h2:=eg (x/512) (by decide:(0:Int)<4)
 delta bN
 generalize x/512%4=y at *
 lia
def RN (p s:Nat):Bool :=
 decide (0<=(bD p s).1)&&(decide (0<=(bD p s).2.1)&&(decide (0<=(bD p s).2.2)&&(decide ((bD p s).1<=1024)&&(decide ((bD p s).2.1<=1024)&&(decide ((bD p s).2.2<=1024) &&
 (decide ((bD p s).2.2<(bD p s).2.1\/((bD p s).2.1=(bD p s).2.2/\(bD p s).2.1<(bD p s).1))&&(decide (cO (bD p s)=bD p s)&&decide (bD (p+256) s=opp (bD p s)))))))))
theorem HK:((cv 256).all λp=>[1,2,3,4].all λs=>RN p s)=true:=by decide +kernel
theorem mI{p s:Nat}(h1:p<256) (hs:s∈[1,2,3,4]):Lt 1024 (bD p s)/\cO (bD p s)=bD p s/\bD (p+256) s=opp (bD p s):=by
 have h:=am.mp (am.mp HK p (fw.mpr h1)) s hs;have q1:=aB h;have q2:=aB q1.2;have q3:=aB q2.2;have q4:=aB q3.2;have q5:=aB q4.2;have q6:=aB q5.2;have q7:=aB q6.2;have q8:=aB q7.2;exact(iaa ⟨of_decide_eq_true q1.1,of_decide_eq_true q2.1,of_decide_eq_true q3.1,of_decide_eq_true q4.1,of_decide_eq_true q5.1,of_decide_eq_true q6.1,of_decide_eq_true q7.1⟩ (of_decide_eq_true q8.1) (of_decide_eq_true q8.2))
theorem AU{p s:Int}(h0:0<=p) (h1:p<256) (hs:s=1\/s=2\/s=3\/s=4):Lt 1024 (bD p s)/\cO (bD p s)=bD p s/\bD (p+256) s=opp (bD p s):=by
 refine xe (qi h0) λn aT=>?_;subst aT;have hn:n<256:=Bq.mp h1;rcases hs with rfl | rfl | rfl | rfl
 ·exact mI hn (s:=1) (by decide)
 ·exact mI hn (s:=2) (by decide)
 ·exact mI hn (s:=3) (by decide)
 ·exact mI hn (s:=4) (by decide)
end L2
namespace L2
inductive Tr where
 | leaf (k:Nat) (kd:List Pc)
 | node (a b:Tr)
noncomputable def Tr.f:Tr->Nat
 | .leaf k _=>k
 | .node a _=>a.f
noncomputable def Tr.l:Tr->Nat
 | .leaf k _=>k+1
 | .node _ b=>b.l
noncomputable def Tr.pcs:Tr->List Pc
 | .leaf k kd=>([97+k],false)::kd
 | .node a b=>([40],false)::(a.pcs++(b.pcs++[([41],false)]))
def Tr.dep (s:Nat):Tr->Nat
 | .leaf _ _=>0
 | .node a b=>(if a.f<=s/\s<b.l then 1 else 0)+a.dep s+b.dep s
theorem AV{a b:Tr}:(Tr.node a b).dep s=(if a.f<=s/\s<b.l then 1 else 0)+a.dep s+b.dep s:=rfl
theorem f_l:(Tr.leaf k kd).f=k:=rfl
theorem f_n{a b:Tr}:(Tr.node a b).f=a.f:=rfl
theorem l_l:(Tr.leaf k kd).l=k+1:=rfl
theorem l_n{a b:Tr}:(Tr.node a b).l=b.l:=rfl
theorem p_l:(Tr.leaf k kd).pcs=([97+k],false)::kd:=rfl
theorem p_n{a b:Tr}:(Tr.node a b).pcs=([40],false)::(a.pcs++(b.pcs++[([41],false)])):=rfl
def seg{α:Type}(x:List α) (t:Tr):List α:=(x.take t.l).drop t.f
def mkT (bs:List Bool) (t:Tr):Bool:=!decide (pts (seg bs t)%3=1)
structure KdOk (kd:List Pc):Prop where
 ok:PcsOk kd
 two:∀u∈uns false (aX kd),u.length=2
 low:∀c∈aJ kd,c<97
 len:(aJ kd).length<=5
inductive Ok (bs:List Bool):Tr->Prop
 | leaf{k:Nat}{kd:List Pc}:k<bs.length->KdOk kd->Ok bs (.leaf k kd)
 | node{a b:Tr}:Ok bs a->Ok bs b->a.l=b.f->pts (seg bs a)%3=pts (seg bs b)%3->Ok bs (.node a b)
theorem Ok.lt{bs:List Bool}{t:Tr}(h:Ok bs t):t.f<t.l/\t.l<=bs.length:=by
 induction h with
 | leaf h _=>exact⟨dh _,h⟩
 | node ha hb h _ x y=>exact⟨iz x.1 (h ▸ y.1),y.2⟩
theorem FC{α:Type}{x:List α}(h1:i<=j) (h2:j<=k) (h3:j<=x.length):(x.take k).drop i=(x.take j).drop i++(x.take k).drop j:=by
 have e:x.take k=x.take j++(x.take k).drop j:=by
  have:=xm j (x.take k);rw[List.take_take,sb h2] at this;exact this.symm
 conv=>lhs;rw[e]
 exact O (List.drop_append_of_le_length (by simp;lia)) rfl
theorem lX{α:Type}{x:List α}{bs:List Bool}(hx:x.length=bs.length){a b:Tr}(ha:Ok bs a) (hb:Ok bs b) (h:a.l=b.f):seg x (.node a b)=seg x a++seg x b:=by
 delta seg
 simp only[f_l,f_n,l_l,l_n];refine XO h ?_;have:=ha.lt;have:=hb.lt;exact FC (by lia) (fn3 (.x .q .r) [.z1 .q .s,.y .s .r] h this.1) (fn5 (.x .q .r) [.z1 .s .r,.z1 .q .t,.y .t .u,.x .u .s] hx.symm h this.1 this.2)
theorem seg_leaf{α:Type}{x:List α}(h:k<x.length):seg x (.leaf k kd)=[x[k]]:=by
 delta seg
 simp only[f_l,f_n,l_l,l_n];refine O Ed (O (show k+1-k=1 by exact az (fn2 (.x .q .n1) [.z1 .ko .ke] (ae (fan [_] (.x .q .kc) []))) (fn2 (.x .n1 .q) [.z1 .ke .ko] (ae (fan [_] (.x .q .kc) [])).symm)) (O List.take_one (O (List.head?_drop) ?_)));simp[h]
theorem Ok.pts{bs:List Bool}{t:Tr}(h:Ok bs t):pts (seg bs t)%3=1\/pts (seg bs t)%3=2:=by
 induction h with
 | @leaf k _ h _ =>
  refine O (seg_leaf h) ?_
  delta Mine.pts
  cases bs[k] <;> simp
 | node ha hb h hm x y =>
  refine O (lX rfl ha hb h) (O (rD ..) (O (un ..) (XO hm ?_)));rcases x with e | e <;> refine O e ?_ <;> decide
theorem FD{bs:List Bool}{a b:Tr}(ha:Ok bs a) (hb:Ok bs b) (h:a.l=b.f) (hm:Mine.pts (seg bs a)%3=Mine.pts (seg bs b)%3):mkT bs a=!mkT bs (.node a b)/\mkT bs b=!mkT bs (.node a b):=by
 have:=ha.pts
 delta mkT
 refine O (lX rfl ha hb h) (O (rD ..) ?_)
 by_cases h1:Mine.pts (seg bs a)%3=1
 ·have h2:Mine.pts (seg bs b)%3=1:=by exact fn2 (.z1 .q .n1) [.z1 .q .r,.z1 .r .n1] hm.symm h1
  have h3:¬(Mine.pts (seg bs a)+Mine.pts (seg bs b))%3=1:=by refine O (un ..) (O h1 (O h2 ?_));decide
  simp[h1,h2,h3]
 ·have h2:¬Mine.pts (seg bs b)%3=1:=hm ▸ h1;have h3:(Mine.pts (seg bs a)+Mine.pts (seg bs b))%3=1:=by exact O (un ..) (XO hm (O (this.resolve_left h1) rfl))
  simp[h1,h2,h3]
theorem C6 (h:c≠92) (h':c≠34):Pl [c]:=by
 refine⟨by simp[nK,nL,nM,h],?_⟩;intro u hu;simp[mR,mS,mT,mU,h] at hu;subst hu
 simpa using h'
theorem fU (h:c≠92) (r:List Nat):uns false (c::r)=[c]::uns false r:=by
 simp only[mR,mS,mT,mU,h,if_false]
theorem Ok.pcsOk{bs:List Bool}(hb:bs.length<=20){t:Tr}(h:Ok bs t):PcsOk t.pcs:=by
 induction h with
 | leaf h hk =>
  intro p hp;rcases ax.mp hp with rfl | hp
  ·exact C6 (cj (yr)) (cj (fn1 (.y (.N 34) .ks) []))
  ·exact hk.ok p hp
 | node ha Jf h hm x y =>
  intro p hp;simp only[p_l,p_n,ax,cb,iw,or_false] at hp;rcases hp with rfl | hp | hp | rfl
  ·exact C6 (by decide) (by decide)
  ·exact x p hp
  ·exact y p hp
  ·exact C6 (by decide) (by decide)
theorem Ok.low{bs:List Bool}{t:Tr}(h:Ok bs t):∀c∈aJ t.pcs,c<97\/(97+t.f<=c/\c<97+t.l):=by
 induction h with
 | leaf h hk =>
  intro c hc;simp only[p_l,p_n,bS,bT,bU,cb,ax,iw,or_false] at hc;rcases hc with rfl | hc
  ·right;simp[f_l,f_n,l_l,l_n]
  ·left;exact hk.low c hc
 | node ha hb h hm x y =>
  intro c hc;have h1:=ha.lt;have h2:=hb.lt;simp only[p_l,p_n,bS,bT,bU,b7,cb,ax,iw,or_false,fy] at hc;simp only[f_l,f_n,l_l,l_n];rcases hc with rfl | hc | hc | rfl
  ·left;decide
  ·rcases x c hc with q | q
   ·exact .inl q
   ·exact .inr ⟨q.1,ac q.2 (sj (da (h ▸ h2.1)) 97)⟩
  ·rcases y c hc with q | q
   ·exact .inl q
   ·exact .inr ⟨aa (sj (da (h ▸ h1.1)) 97) q.1,q.2⟩
  ·left;decide
theorem HL{a b f l m g x:Nat}(h1:f<m) (h2:m<l) (e:m=g) (h3:a+2<=8*(m-f)) (h4:b+2<=8*(l-g)) (hx:x=a+(b+1)+1):x+2<=8*(l-f):=by
 subst e hx;exact XO (Nat.sub_add_sub_cancel (da h2) (da h1)) (O (Gn ..) (aa (by exact fn2 (.x (.A (.A .kO .n1) .n2) (.A .j0 .k9)) []) (za h4 h3)))
theorem Ok.len{bs:List Bool}{t:Tr}(h:Ok bs t):(aJ t.pcs).length+2<=8*(t.l-t.f):=by
 induction h with
 | leaf h hk =>
  have:=hk.len;simp only[p_l,p_n,bS,bT,bU,f_l,f_n,l_l,l_n,cw,db,mr];exact fn3 (.x (.A (.A (.A .n0 .n1) .q) .n2) (.M .n8 .r)) [.x .q .n5,.Z 8 .kL .k5] this (ae (fan [_] (.x .q .kc) [])).symm
 | node ha hb h hm x y =>
  refine HL ha.lt.1 (h ▸ hb.lt.1) h x y ?_;simp only[p_l,p_n,bS,bT,bU,b7,cw,db,mr];exact Br 1 _
noncomputable def uD (b:Bool):Int:=if b then 257 else 256
noncomputable def k8 (s:List Int × List Bool) (u:List Nat):Option (List Int × List Bool) :=
 if u.length=1/\u≠[41]/\u≠[92] then match s.1.getLast? with
  | some n=>if 256<=n then(if u=[40] then some (s.1.dropLast++[513-n,513-n],s.2) else some (s.1.dropLast,s.2++[!(n==256)])) else none
  | none=>none
 else some s
def qQ:List Int × List Bool->List (List Nat)->Option (List Int × List Bool)
 | s,[]=>some s
 | s,u::us=>match k8 s u with
  | some s'=>qQ s' us
  | none=>none
theorem uE:qQ s []=some s:=rfl
theorem uF:qQ s (u::us)=match k8 s u with
  | some s'=>qQ s' us
  | none=>none:=rfl
theorem wG:∀(us:List (List Nat)) (s:List Int × List Bool) (DO:List (List Nat)),(∀u∈us,u.length=2)->qQ s (us++DO)=qQ s DO
 | [],s,DO,_=>rfl
 | u::us,s,DO,h=>by
  have hu:=h u (aj);have:k8 s u=some s:=by delta k8;exact O (if_neg (by lia)) rfl
  simp only[bf,uE,uF,this];exact wG us s DO λv hv=>h v (by simp[hv])
theorem HM{bs:List Bool}(hb:bs.length<=20){t:Tr}(h:Ok bs t):∀(P:List Int) (T:List Bool) (DO:List (List Nat)),qQ (P++[uD (mkT bs t)],T) (uns false (aX t.pcs)++DO)=qQ (P,T++seg bs t) DO:=by
 induction h with
 | @leaf k kd h hk =>
  intro P T DO;simp only[p_l,p_n,cL,cM,cN,bf,eb]
  (rw[fU (by exact cj (yr))];refine O bf ?_)
  simp only[uE,uF];have Ll:k8 (P++[uD (mkT bs (.leaf k kd))],T) [97+k]=some (P,T++seg bs (.leaf k kd)):=by
   delta k8
   refine O (if_pos ⟨rfl,by simp;exact cj (YL),by simp;exact cj (yr)⟩) ?_;simp only[ri,rj];refine O (seg_leaf h) ?_;have hm:mkT bs (.leaf k kd)=bs[k]:=by
    delta mkT
    refine O (seg_leaf h) ?_
    delta Mine.pts
    cases bs[k] <;> rfl
   refine O hm (O (if_pos (by delta uD;split <;> decide)) (O (if_neg (by simp;exact cj (YM))) ?_));cases bs[k] <;> rfl
  exact O Ll (wG _ _ _ hk.two)
 | @node a b ha Jf h hm x y =>
  intro P T DO;refine xa (FD ha Jf h hm) λm1 m2=>?_;simp only[p_l,p_n,cL,cM,cN,fF,bf,eb,fy]
  (rw[fU (by decide)];refine O bf (O (d8 _ _ (eV (ha.pcsOk hb)).1) (O (d8 _ _ (eV (Jf.pcsOk hb)).1) ?_)))
  simp only[uE,uF];have Ll:k8 (P++[uD (mkT bs (.node a b))],T) [40]=some ((P++[uD (mkT bs b)])++[uD (mkT bs a)],T):=by
   delta k8
   refine O (if_pos ⟨rfl,by decide,by decide⟩) ?_;simp only[ri,rj];refine O (if_pos (by delta uD;split <;> decide)) (O (if_pos trivial) (O m1 (O m2 ?_)));congr 2;refine O (cg ..) ?_;congr 1;cases mkT bs (.node a b) <;> rfl
  refine O Ll ?_;simp only
  (rw[cg (uns false (aX a.pcs))];refine O (x ..) ?_;rw[cg (uns false (aX b.pcs))];refine O (y ..) (O (lX rfl ha Jf h) (XO (cg ..) ?_)))
  simp only[mR,mS,mT,mU,uE,uF,bf,eb];refine O (if_neg (by decide)) ?_;rfl
theorem AW:∀(us:List (List Nat)) (o:Nat),(∀u∈us,u.length=2)->par o us=some o
 | [],o,_=>rfl
 | u::us,o,h=>by
  have hu:=h u (by exact aj);have h1:u≠[40]:=λe=>by rw[e] at hu;simp at hu
  have h2:u≠[41]:=λe=>by rw[e] at hu;simp at hu
  simp only[tR,h1,h2,if_false];exact AW us o λv hv=>h v (by simp[hv])
theorem nR (k o:Nat) (us:List (List Nat)):par o ([97+k]::us)=par o us:=by
 simp only[tR];exact O (if_neg (by simp;exact cj (YM))) (O (if_neg (by simp;exact cj (YL))) rfl)
theorem uG (o:Nat) (us:List (List Nat)):par o ([40]::us)=par (o+1) us:=by rfl
theorem wH (o:Nat) (us:List (List Nat)):par (o+1) ([41]::us)=par o us:=by
 simp only[tR];refine O (if_neg (by decide)) (O (if_pos trivial) (O (if_neg (by exact cj (fn1 (.y .n0 .kc) []))) ?_));rfl
theorem uH{bs:List Bool}(hb:bs.length<=20){t:Tr}(h:Ok bs t):∀o:Nat,par o (uns false (aX t.pcs))=some o:=by
 induction h with
 | leaf h hk =>
  intro o;simp only[p_l,p_n,cL,cM,cN,bf,eb]
  (rw[fU (by exact cj (yr))];exact O (nR ..) (AW _ _ hk.two))
 | node ha Jf h hm x y =>
  intro o;simp only[p_l,p_n,cL,cM,cN,fF,bf,eb,fy]
  (rw[fU (by decide)];refine O (uG ..) (O (d8 _ _ (eV (ha.pcsOk hb)).1) (O (d8 _ _ (eV (Jf.pcsOk hb)).1) (O (gA ..) (O (x ..) ?_)))))
  dsimp only[nu]
  refine O (gA ..) (O (y ..) ?_)
  dsimp only[nu,mR,mS,mT,mU]
  refine O (if_neg (by decide)) (O (wH ..) ?_);rfl
theorem HN{bs:List Bool}(hb:bs.length<=20){s:Nat}{t:Tr}(h:Ok bs t):t.f<=s->s<t.l ->
  ∃A B,t.pcs=A++(([97+s],false):Pc)::B/\(∀o,par o (uns false (aX A))=some (o+t.dep s))/\97+s∉aJ A/\97+s∉aJ B:=by
 induction h with
 | @leaf k kd h hk =>
  intro h1 h2
  dsimp only[f_l,f_n,l_l,l_n] at h1 h2
  have:k=s:=by exact az (h1) (fn2 (.x .q .r) [.y .q .ke] h2)
  subst this;exact(bW ([]) kd rfl (λo=>rfl) (by simp[bS,bT,bU]) (λhc=>by have:=hk.low _ hc;exact absurd (fn1 (.t .n0 .n0) [.y .ks (.N 97)] this) (gn _)))
 | @node a b ha Jf h hm x y =>
  intro h1 h2
  dsimp only[f_l,f_n,l_l,l_n] at h1 h2
  have l1:=ha.lt;have l2:=Jf.lt;have notIn:∀{t:Tr},Ok bs t->(s<t.f\/t.l<=s)->97+s∉aJ t.pcs:=by
   intro t ht hs hc;rcases ht.low _ hc with h | h
   ·exact absurd (fn1 (.t .n0 .n0) [.y .ks (.N 97)] h) (gn _)
   ·lia
  have dep0:∀{t:Tr},Ok bs t->(s<t.f\/t.l<=s)->t.dep s=0:=by
   intro t ht
   induction ht with
   | leaf=>intro _;rfl
   | node ha hb h hm iha ihb =>
    intro hs;have l1:=ha.lt;have l2:=hb.lt
    dsimp only[f_l,f_n,l_l,l_n] at hs
    simp only[AV];exact O (if_neg (by lia)) (O (iha (by lia)) (O (ihb (by lia)) rfl))
  by_cases hs:s<a.l
  ·refine cC (x h1 hs) λA B e hp hA hB=>?_;refine(bW (([40],false)::A) (B++(b.pcs++[([41],false)])) (by simp[p_l,p_n,e]) (λo=>?_) ?_ ?_)
   ·simp only[cL,cM,cN,bf,eb]
    (rw[fU (by decide)];refine O (uG ..) (O (hp ..) ?_))
    simp only[AV];refine O (if_pos (by exact⟨h1,h2⟩)) (O (dep0 Jf (by lia)) ?_);congr 1;exact fn2 (.z1 .jg (.A .q (.A (.A .n1 .r) .n0))) []
   ·simp only[bS,bT,bU,cb,not_or];exact⟨by simp;exact cj (YM),hA⟩
   ·simp only[b7,bS,bT,bU,cb,not_or];exact(cS hB (notIn Jf (by lia)) (by simp;exact cj (YL)) (by simp))
  ·refine cC (y (by exact fn3 (.x .q .r) [.z1 .q .s,.x .s .r] h.symm (av.mp hs)) h2) λA B e hp hA hB=>?_;refine(bW (([40],false)::(a.pcs++A)) (B++[([41],false)]) (by simp[p_l,p_n,e]) (λo=>?_) ?_ ?_)
   ·simp only[cL,cM,cN,fF,bf,eb]
    (rw[fU (by decide)];refine O (uG ..) (O (d8 _ _ (eV (ha.pcsOk hb)).1) (O (gA ..) ?_));rw[uH hb ha])
    dsimp only[nu]
    refine O (hp ..) ?_
    dsimp only[AV]
    refine O (if_pos (⟨h1,h2⟩)) (O (dep0 ha (by lia)) ?_);congr 1;exact fn2 (.z1 .jg (.A .q (.A (.A .n1 .n0) .r))) []
   ·simp only[bS,bT,bU,b7,cb,not_or];exact(iaa (by simp;exact cj (YM)) (notIn ha (by lia)) hA)
   ·simp only[b7,bS,bT,bU,cb,not_or];exact(iaa hB (by simp;exact cj (YL)) (by simp))
def Chain:Nat->List Tr->Nat->Prop
 | i,[],j=>i=j
 | i,t::r,j=>t.f=i/\Chain t.l r j
def dA (ts:List Tr):List Pc:=(ts.map Tr.pcs).flatten
def lB (s:Nat) (ts:List Tr):Nat:=(ts.map (Tr.dep s)).sum
end L2
theorem wI:∀n:Nat,(cv n).reverse=(cv n).map (λk=>n-1-k)
 | 0=>rfl
 | n+1=>by
  refine O xd (O List.reverse_append (O (wI n) (O di ?_)));have h:∀m:Nat,(cv (m+1)).map (λk=>m-k)=m::(cv m).map (λk=>m-1-k):=by
   intro m;refine O qo ?_;simp[Hi];intro a _;lia
  have:=h n;rw[xd,di] at this;simp only[Bt,List.reverse_nil,eb,bf] at *;exact O (show n+1-1=n by exact az (fn2 (.x .q .r) [.z1 .kc .ke] (ae (fan [_] (.x .n1 .kc) []))) (fn2 (.x .q .r) [.z1 .kc .ke] (ae (fan [_] (.x .n1 .kc) [])).symm)) this.symm
theorem WR (l:List PV) (hl:l.length<=100000):cY (.lst l) none none (some (-1))=some (.lst l.reverse):=by
 show(if _ then _ else _)=_;refine O (if_pos ⟨hl,by simp⟩) ?_;congr 2
 delta dK sliceBounds sliceRange
 simp only[rW,show ¬((-1:Int)>0) by decide,if_false];have e:(if ((l.length:Int)-1 > -1) then((l.length:Int)-1 - -1 - -1-1)/(- -1) else 0).toNat=l.length:=by
  split
  ·exact O (show(- -1:Int)=1 by decide) (O (Fk ..) (az (fn2 (.x .q .r) [.e .q (.S (.S (.S (.S .r .n1) .kn) .kn) .n1)] (bt (fan [_] (.l .n0 .jJ) []))) (fn2 (.x .q .r) [.e .jJ .r] (bt (fan [_] (.l .n0 .jJ) [])).symm)))
  ·rename_i hz;have:l.length=0:=Nat.le_zero.mp (av.mp λq=>hz (fn1 (.t .kn (.S .q .n1)) [.y .n0 .q] q));exact az (fn2 (.x .q .r) [.e .q .n0] (bt (fan [] (.l .n0 .n0) []))) (fn2 (.x .q .r) [.z1 .q .n0] this)
 refine O e ?_;have e2:(cv l.length).map (λk:Nat=>((l.length:Int)-1+-1*(k:Int)).toNat)=(cv l.length).reverse:=by
  refine O (wI ..) (ei λk hk=>?_);obtain⟨r,e⟩:=Nat.exists_eq_add_of_lt (fw.mp hk);rw[e,Nat.add_sub_cancel,vt];exact congrArg vw (show(((k+r+1:Nat):Int)-1+-1*(k:Int))=(r:Int) by exact fn2 (.e (.A (.S (.C (.A .ko .n1)) .n1) (.M .kn .q)) .r) [])
 rw[e2,List.filterMap_reverse];have:=tK l l.length 0;rw[zk,ni] at this;rw[show(λx=>0+x)=(id:Nat->Nat) by funext x;simp,List.map_id] at this;rw[this]
namespace L2
variable{n:Nat}
set_option tactic.hygienic true in
theorem HO (w m sn:PV) (P:List Int) (T:List Bool) (acc u:List Nat) (p:Nat) (x8 x9:Option PV) (h:k8 (P,T) u=some (P',T')) (hp:p+1=acc.length+u.length)
  (hl:acc.length+u.length<=5000) (hP:P.length<=5000) (hT:T.length<=5000) (hu:∀c∈u,c<128) :
  ∃y8,aE (FT aI (n+1)) (.cons (.aug 4 .Add Q0l) (.cons Q05 (.cons (.ite (.and Q0t (.cmp .NotIn Q0l (.cst (.str (")\\":Str))))) (.cons (.pop 8 2) (.cons Q0q (.cons (.ite (.cmp .Eq Q0l (.cst (.str ("(":Str)))) Qw (.cons (.app 5 (.ite Q0K (.cst (.str ("<":Str))) (.cst (.str (">":Str))))) .nil)) .nil))) .nil) .nil)))
   [some w,some m,some (aM P),some sn,some (.str (sx acc)),some (.lst (T.map mkS)),some (.int (p:Int)),some (.str (sx u)),x8,x9] =
   some ([some w,some m,some (aM P'),some sn,some (.str (sx (acc++u))),some (.lst (T'.map mkS)),some (.int (p:Int)),some (.str (sx u)),y8,x9],.next):=by
 have pos:aA (FT aI (n+1)) (.cmp .NotEq Q0E (.bin .Sub (.bi .len (.cons Q0k .nil)) Qb)) [some w,some m,some (aM P),some sn,some (.str (sx (acc++u))),some (.lst (T.map mkS)),some (.int (p:Int)),some (.str (sx u)),x8,x9]=some (.bool false):=by
  simp only[aF,EVL,lO (acc++u) (by simp;exact aa hl (by decide)),rA];congr 2;have:((p:Int)==((acc++u).length:Int)-1)=true:=by simp;exact fn3 (.e .q (.S .k5 .n1)) [.z1 .kc .k5] hp
  rw[this];rfl
 have first:cP (FT aI (n+1)) (.aug 4 .Add Q0l) [some w,some m,some (aM P),some sn,some (.str (sx acc)),some (.lst (T.map mkS)),some (.int (p:Int)),some (.str (sx u)),x8,x9] =
   some ([some w,some m,some (aM P),some sn,some (.str (sx (acc++u))),some (.lst (T.map mkS)),some (.int (p:Int)),some (.str (sx u)),x8,x9],.next):=by
  refine(aug (x:=.str (sx acc)) (y:=.str (sx u)) (z:=.str (sx (acc++u))) rfl rfl ?_).trans rfl;show(if _ then _ else _)=_;rw[if_pos (by rw[iO,iO];exact aa hl (by decide)),xH]
 have test:aA (FT aI (n+1)) (.and Q0t (.cmp .NotIn Q0l (.cst (.str (")\\":Str))))) [some w,some m,some (aM P),some sn,some (.str (sx (acc++u))),some (.lst (T.map mkS)),some (.int (p:Int)),some (.str (sx u)),x8,x9]=some (.bool (decide (u.length=1/\u≠[41]/\u≠[92]))):=by
  by_cases h1:u.length=1
  ·apply xeR (ly.mp h1);intro c;have occ:bF .NotIn (.str (sx [c])) (.str (")\\":Str))=some (!decide (c∈[41,92])):=by
    show some (!(!(dc (sx [41,92]) ⟨#[c]⟩ 0 (sx [41,92]).length 1).isEmpty))=_;rw[ul,lM]
   simp only[aF,EVL,lO [c] (ta _),occ];congr 2
   by_cases RW:c=41
   ·subst RW;rfl
   ·by_cases YT:c=92
    ·subst YT;rfl
    ·simp[RW,YT]
  ·have:((u.length:Int)==1)=false:=by simp;lia
   simp only[aF,EVL,lO u (fn2 (.x .q .kv) [.x (.A .r .q) .jM] hl),this];simp[h1]
 delta k8 at h
 by_cases hc:u.length=1/\u≠[41]/\u≠[92]
 ·rw[if_pos hc] at h;rw[decide_eq_true hc] at test;simp only at h;split at h
  ·rename_i k hk;split at h
   ·rename_i Xd;have hPe:P=P.dropLast++[k]:=by
     have Io:P≠[]:=by intro e;rw[e] at hk;trivial
     have:=List.dropLast_concat_getLast Io;rw[List.getLast?_eq_some_getLast Io] at hk;cases hk;exact this.symm
    generalize hQ:P.dropLast=Q at *;subst hPe;have nt:FT aI (n+1) 1 [.int k]=some (.bool true):=by rw[AM];simp[Xd]
    have Uo:cP (FT aI (n+1)) (.pop 8 2) [some w,some m,some (aM (Q++[k])),some sn,some (.str (sx (acc++u))),some (.lst (T.map mkS)),some (.int (p:Int)),some (.str (sx u)),x8,x9] =
      some ([some w,some m,some (aM Q),some sn,some (.str (sx (acc++u))),some (.lst (T.map mkS)),some (.int (p:Int)),some (.str (sx u)),some (.int k),x9],.next):=by
     refine(pop (l:=Q.map .int) (y:=.int k) (by simp[k9,lA,aM]) (by simp at hP ⊢;exact aa hP (by decide))).trans rfl
    by_cases Pi:u=[40]
    ·rw[if_pos Pi] at h;cases h;refine⟨some (.int k),seq first (seq (cA pos bG) (aG (dT test (seq Uo (seq (cA ?_ bG) (aG (dT ?_ (aG (asgO (l:=(Q++[513-k,513-k]).map .int) ?_))))))))) ⟩
     ·simp only[aF,EVL,nt];rfl
     ·rw[show("(":Str)=sx [40] from rfl]
      simp only[aF,EVL,jB,Pi];rfl
     ·simp only[aF,EVL]
      delta aM
      rw[iM _ _ (by simp at hP ⊢;exact aa hP (by decide))];simp
    ·rw[if_neg Pi] at h;cases h;refine⟨some (.int k),seq first (seq (cA pos bG) (aG (dT test (seq Uo (seq (cA ?_ bG) (aG (cA ?_ (aG ((app (l:=T.map mkS) (p:=mkS (!(k==256))) rfl ?_ (by simp;exact aa hT (by decide))).trans ?_)))))))))⟩
     ·simp only[aF,EVL,nt];rfl
     ·rw[show("(":Str)=sx [40] from rfl]
      simp only[aF,EVL,jB];have:(u==[40])=false:=by simpa using Pi
      rw[this]
     ·simp only[aF,EVL];cases k==256 <;> rfl
     ·simp only[aY,aZ,di,ak,gp]
   ·cases h
  ·cases h
 ·rw[if_neg hc] at h;cases h;rw[decide_eq_false hc] at test;exact⟨x8,seq first (seq (cA pos bG) (aG (cA test bG)))⟩
theorem HP (h:k8 (P,T) u=some (P',T')):P'.length<=P.length+1/\T'.length<=T.length+1:=by
 delta k8 at h
 split at h
 ·simp only at h;split at h
  ·rename_i k hk;have Io:0<P.length:=by
    cases P with
    | nil=>trivial
    | cons a l=>simp
   split at h
   ·split at h
    ·cases h;simp;exact ce (ae (Io))
    ·cases h;simp;exact fn1 (.x .q (.A .kc .n1)) []
   ·cases h
  ·cases h
 ·cases h;simp
set_option tactic.hygienic true in
theorem wJ (w m sn:PV) (x9:Option PV):∀(its:List (Nat × List Nat)) (P:List Int) (T:List Bool) (acc:List Nat) (x6 x7 x8:Option PV) (P':List Int) (T':List Bool),
  qQ (P,T) (its.map (·.2))=some (P',T')->PosOk acc.length its->acc.length+(its.map (·.2)).flatten.length<=2000->P.length+its.length<=5000->T.length+its.length<=5000->(∀x∈its,∀c∈x.2,c<128) ->
  ∃y6 y7 y8,dD (aE (FT aI (n+1)) (.cons (.aug 4 .Add Q0l) (.cons Q05 (.cons (.ite (.and Q0t (.cmp .NotIn Q0l (.cst (.str (")\\":Str))))) (.cons (.pop 8 2) (.cons Q0q (.cons (.ite (.cmp .Eq Q0l (.cst (.str ("(":Str)))) Qw (.cons (.app 5 (.ite Q0K (.cst (.str ("<":Str))) (.cst (.str (">":Str))))) .nil)) .nil))) .nil) .nil)))) [6,7] (its.map itm) [some w,some m,some (aM P),some sn,some (.str (sx acc)),some (.lst (T.map mkS)),x6,x7,x8,x9] =
   some ([some w,some m,some (aM P'),some sn,some (.str (sx (acc++(its.map (·.2)).flatten))),some (.lst (T'.map mkS)),y6,y7,y8,x9],.next)
 | [],P,T,acc,x6,x7,x8,P',T',h,_,_,_,_,_=>by
  cases h;exact(eH x6 x7 x8 (by simp[xL]))
 | (p,u)::its,P,T,acc,x6,x7,x8,P',T',h,hp,hl,hP,hT,hc=>by
  simp only[ak,uE,uF] at h;split at h
  ·rename_i s hs;obtain⟨P1,T1⟩:=s;have hlen:=HP hs;refine xa hp λLu Nf=>?_;clear hp;simp only[ak,mw,cw,db] at hl hP hT;refine xe (HO (n:=n) w m sn P T acc u p x8 x9 hs Lu (fn3 (.x .ko .jM) [.x (.A .q .k5) (.N 2000)] hl) (fn2 (.x .q .jM) [.x .kO .jM] hP) (fn2 (.x .q .jM) [.x .kO .jM] hT) (hc (p,u) (aj))) λy8 Ll=>?_;refine gB (wJ w m sn x9 its P1 T1 (acc++u) (some (.int (p:Int))) (some (.str (sx u))) y8 P' T' h (by rw[cw];exact Nf) (by rw[cw];exact fn3 (.x (.A .ko .s) (.N 2000)) [.x (.A .q .k5) (.N 2000)] hl) (fn3 (.x .ko .jM) [.x (.A .s .ke) .jM,.x .q .kL] hP hlen.1) (fn3 (.x .ko .jM) [.x (.A .s .ke) .jM,.x .q .kL] hT hlen.2) (λx hx=>hc x (by simp[hx]))) λy6' y7' y8' ih=>?_;refine(eH y6' y7' y8' (cB rfl Ll ?_));rw[ih];simp
  ·cases h
theorem j9{bs:List Bool}(hb:bs.length<=20):∀{ts:List Tr}{i j:Nat},(∀t∈ts,Ok bs t)->Chain i ts j ->
  PcsOk (dA ts)/\(∀c∈aJ (dA ts),c<97\/(97+i<=c/\c<97+j))/\(aJ (dA ts)).length<=8*(j-i)/\i<=j/\(ts≠[]->j<=bs.length)/\(∀o,par o (uns false (aX (dA ts)))=some o) /\
  (∀(P:List Int) (T:List Bool) DO,qQ (P++(ts.map λt=>uD (mkT bs t)).reverse,T) (uns false (aX (dA ts))++DO)=qQ (P,T++(bs.take j).drop i) DO)
 | [],i,j,_,h=>by
  have h:i=j:=h;subst h;refine(gF (by simp[PcsOk,dA]) (by simp[dA,bS,bT,bU]) (iq _) (ah _) (iaa (by simp) (λo=>rfl) (λP T DO=>?_)));simp[dA,cL,cM,cN,mR,mS,mT,mU]
 | t::ts,i,j,Jb,h=>by
  refine xa h λh1 h2=>?_;clear h;have ht:=Jb t (aj);refine qR (j9 hb (λu hu=>Jb u (by simp[hu])) h2) λq1 q2 q3 q4 q5 q6 q7=>?_;have l1:=ht.lt;have e:dA (t::ts)=t.pcs++dA ts:=by rfl
  rw[e];have p1:=ht.pcsOk hb;refine(gF ?_ ?_ ?_ (fn4 (.x .q .r) [.z1 .q .s,.x .t .r,.y .s .t] h1.symm q4 l1.1) (iaa ?_ ?_ ?_))
  ·intro p hp;rcases cb.mp hp with hp | hp
   ·exact p1 p hp
   ·exact q1 p hp
  ·intro c hc;rw[b7] at hc;rcases cb.mp hc with hc | hc
   ·rcases ht.low c hc with h | h
    ·left;exact h
    ·right;exact⟨fn3 (.x .ks .r) [.z1 .q .s,.x (.A (.N 97) .s) .r] h1.symm h.1,fn3 (.y .q (.A (.N 97) .r)) [.x .s .r,.y .q (.A (.N 97) .s)] q4 h.2⟩
   ·rcases q2 c hc with h | h
    ·left;exact h
    ·right;exact⟨fn4 (.x .ks .r) [.z1 .q .s,.y .s .t,.x (.A (.N 97) .t) .r] h1.symm l1.1 h.1,h.2⟩
  ·have:=ht.len;rw[b7,cw];exact fan [_,_,_,_,_,_,_,_,_] (.x .ko (.M .n8 .s)) [.Z 8 .t .u,.x .r (.M .n8 .v),.x .k9 (.M .n8 .w),.Z 8 .x (.A .s .t),.Z 8 (.A .v .y) .x,.Z 8 (.A .w .u) .y] h1.symm q3 this (ae (fn4 (.x .q .r) [.z1 .q .s,.x .t .r,.y .s .t] h1.symm q4 l1.1)).symm (ae (q4)) (ae (da l1.1))
  ·intro _;cases ts with
   | nil=>have:t.l=j:=h2;exact fn3 (.x .q .r) [.x .s .r,.z1 .q .s] l1.2 this.symm
   | cons u r=>exact q5 (by simp)
  ·intro o;rw[fF,d8 _ _ (eV p1).1,gA,uH hb ht];exact q6 o
  ·intro P T DO;rw[fF,d8 _ _ (eV p1).1,ak,Bt,<- cg,cg (uns false (aX t.pcs)),HM hb ht,q7];congr 2;rw[cg];congr 1
   delta seg
   rw[h1];exact(FC (fn3 (.x .q .r) [.z1 .q .s,.y .s .r] h1.symm l1.1) q4 (l1.2)).symm
theorem NW (n:Nat) (args:List PV):FT aI (n+1) 8 args=dJ (FT aI n) Co.aO args:=ft n 8 aO args rfl
theorem U2 (n:Nat) (args:List PV):FT aI (n+1) 9 args=dJ (FT aI n) (Co.aW 8) args:=ft n 9 aW args rfl
theorem NX{bs:List Bool}(hb:bs.length<=20){ts:List Tr}(Jb:∀t∈ts,Ok bs t) (Ju:Chain 0 ts bs.length) (Lm:ts.length<=20) :
  FT aI (n+2) 19 [.str (sx (aJ (dA ts))),.lst (ts.map λt=>mkS (mkT bs t))]=some (.lst (bs.map mkS)):=by
 refine qR (j9 hb Jb Ju) λq1 q2 q3 q4 q5 q6 q7=>?_;rw[ft (n+1) 19 eU _ rfl];apply iL rfl;show fV (aE _ eU.code [some (.str (sx (aJ (dA ts)))),some (.lst (ts.map λt=>mkS (mkT bs t))),none,none,none,none,none,none,none,none])=_
 delta eU
 have Up:LastOk [92]:=by
  left;trivial
 have Se:=v8 q1 Up;have Uq:FT aI (n+1) 8 [.str (sx (aJ (dA ts)++[92]))]=some (.str (sx (aX (dA ts)++[92]))):=by
  rw[NW,<- Se];refine v7 (by simp;exact fn3 (.x .q (.N 8999)) [.X 8 .r (.N 20),.x .q (.M .n8 .s),.Z 8 (.A .s .n0) .r] hb q3 (ae (fan [_] (.x .n0 .q) []))) ?_;rw[am];intro c hc;simp only[decide_eq_true_eq];rcases cb.mp hc with hc | hc
  ·rcases q2 c hc with h | h <;> lia
  ·simp at hc;exact fn1 (.y .q (.N 128)) [.z1 .q (.N 92)] hc
 have Ky:∀(l:List Pc),(∀c∈aX l,c∈aJ l)/\(aX l).length<=(aJ l).length:=by
  intro l
  induction l with
  | nil=>trivial
  | cons p l ih =>
   obtain⟨s,b⟩:=p;cases b
   ·simp only[cL,cM,cN,bS,bT,bU,cb,cw];exact⟨λc hc=>hc.imp id (ih.1 c),by exact Yv ih.2⟩
   ·simp only[cL,cM,cN,bS,bT,bU,cb,cw];exact⟨λc hc=>.inr (ih.1 c hc),by exact YO ih.2⟩
 have Ko:=Ky (dA ts);have Kj:(aX (dA ts)++[92]).all (·<128)=true:=by
  rw[am];intro c hc;simp only[decide_eq_true_eq];rcases cb.mp hc with hc | hc
  ·rcases q2 c (Ko.1 c hc) with h | h <;> lia
  ·simp at hc;exact fn1 (.y .q (.N 128)) [.z1 .q (.N 92)] hc
 refine aR (asgO (l:=([0]++(ts.map λt=>uD (mkT bs t)).reverse).map .int) ?_) ?_
 ·have hs:aA (FT aI (n+1)) (.slc Qu Qa Qa (.neg Qb)) [some (.str (sx (aJ (dA ts)))),some (.lst (ts.map λt=>mkS (mkT bs t))),none,none,none,none,none,none,none,none]=some (.lst (ts.map λt=>mkS (mkT bs t)).reverse):=by
   exact WR _ (by simp;exact aa Lm (by decide):(ts.map λt=>mkS (mkT bs t)).length<=100000)
  have hc:=iQ (F:=FT aI (n+1)) (pe:=[some (.str (sx (aJ (dA ts)))),some (.lst (ts.map λt=>mkS (mkT bs t))),none,none,none,none,none,none,none,none]) (src:=.val (.slc Qu Qa Qa (.neg Qb))) (e:=.ite (.cmp .Eq (.var 9) (.cst (.str ("<":Str)))) (.cst (.int 256)) (.cst (.int 257))) (c:=.cst .none) (tg:=9) (items:=(ts.map λt=>mkS (mkT bs t)).reverse)
   (λp=>match bF .Eq p (.str ("<":Str)) with | some true=>.int 256 | _=>.int 257) (jL hs (by simp;exact aa Lm (by decide))) (by
    intro p hp;rw[List.mem_reverse] at hp;apply gW (fg.mp hp);intro t ht;rw[show PV.str ("<":Str)=mkS false from rfl];simp only[aF,EVL,AQ];cases mkT bs t <;> rfl)
  have e:((ts.map λt=>mkS (mkT bs t)).reverse.map λp=>match bF .Eq p (.str ("<":Str)) with | some true=>PV.int 256 | _=>PV.int 257)=((ts.map λt=>uD (mkT bs t)).reverse).map .int:=by
   rw[<- Ci,<- Ci,co,co];refine ei λt _=>?_
   dsimp only[pt,show PV.str ("<":Str)=mkS false from rfl,AQ]
   cases mkT bs t <;> rfl
  rw[e] at hc;simp only[aF] at hc ⊢;rw[hc]
  dsimp only[bl]
  rw[iM _ _ (by simp;exact fn1 (.x (.A .n1 .q) .kv) [.x .q (.N 20)] Lm)];rfl
 dsimp only[aY,aZ]
 refine aR (asg (p:=.str (sx (aX (dA ts)++[92]))) ?_) ?_
 ·rw[show("\\":Str)=sx [92] from rfl];simp only[aF,EVL,fQ (aJ (dA ts)) [92] (by simp;exact fn3 (.x .q (.N 99999)) [.X 8 .r (.N 20),.x .q (.M .n8 .s),.Z 8 (.A .s .n0) .r] hb q3 (ae (fan [_] (.x .n0 .q) []))),Uq]
 refine aR (asg (by rfl)) ?_;refine aR (asgO (l:=[]) (by rfl)) ?_
 dsimp only[aY,aZ]
 have Ur:qQ ([0]++(ts.map λt=>uD (mkT bs t)).reverse,[]) ((esc 0 false (aX (dA ts)++[92])).map (·.2))=some ([0],bs):=by
  rw[dE,d8 _ _ (eV q1).1,q7 [0] []];simp only[eb,zk,ni];rfl
 have Kg:((esc 0 false (aX (dA ts)++[92])).map (·.2)).flatten=aX (dA ts)++[92]:=by rw[dE,oO];rfl
 have So:=mE (aX (dA ts)++[92]) 0 false;have Om:∀x∈esc 0 false (aX (dA ts)++[92]),∀c∈x.2,c<128:=by
  intro x hx c hc;have:c∈((esc 0 false (aX (dA ts)++[92])).map (·.2)).flatten:=List.mem_flatten.mpr (iea x.2 (im hx) hc);rw[Kg] at this;have:=am.mp Kj c this
  simpa using this
 have Ke:=EY (aX (dA ts)++[92]) 0 false (by simp);simp only[aw,if_false] at Ke;refine gB (wJ (n:=n) (.str (sx (aJ (dA ts)))) (.lst (ts.map λt=>mkS (mkT bs t))) (.str (sx (aX (dA ts)++[92]))) none (esc 0 false (aX (dA ts)++[92])) _ [] [] none none none [0] bs Ur Ke
  (by rw[Kg];simp;exact fn4 (.x .q (.N 1999)) [.X 8 .r (.N 20),.x .s (.M .n8 .t),.x .q .s,.Z 8 (.A .t .n0) .r] hb q3 Ko.2 (ae (fan [_] (.x .n0 .q) []))) (by simp at So ⊢;exact fn6 (.x .jg .jM) [.X 8 .s (.N 20),.x .q (.N 20),.x .t (.M .n8 .u),.x .v .t,.x .r (.A (.A .v .n1) .n1),.Z 8 (.A .u .n0) .s] hb Lm q3 Ko.2 So (ae (fan [_] (.x .n0 .q) []))) (by simp at So ⊢;exact fn5 (.x .q .jM) [.X 8 .r (.N 20),.x .s (.M .n8 .t),.x .u .s,.x .q (.A (.A .u .n1) .n1),.Z 8 (.A .t .n0) .r] hb q3 Ko.2 So (ae (fan [_] (.x .n0 .q) []))) Om) λy6 y7 y8 Kq=>?_
 rw[Kg] at Kq;refine aR (EO (p:=.str (sx (aX (dA ts)++[92]))) (by rfl) (jC (by simp;exact fn4 (.x .q (.N 9999)) [.X 8 .r (.N 20),.x .s (.M .n8 .t),.x .q .s,.Z 8 (.A .t .n0) .r] hb q3 Ko.2 (ae (fan [_] (.x .n0 .q) []))) Kj) Kq) ?_;refine dU ?_;simp only[aF,EVL,jB,eb,beq_self_eq_true];have hg:cX (aM [0]) (.int (-1))=some (.int 0):=rfl;rfl
end L2
namespace L2
variable{n:Nat}
noncomputable def mV (ms:List Bool) (p:Nat):List Bool:=ms.take p++[!(ms.getD p false)]++ms.drop (p+2)
noncomputable def fG (ms:List Bool):List Nat:=(cv (ms.length-1)).filter λp=>ms.getD p false==ms.getD (p+1) false
def oV (ms:List Bool):List Nat:=(fG ms).filter λp=>adj (mV ms p)
def bM (ms:List Bool):List Nat:=if (oV ms).isEmpty then fG ms else oV ms
def oW (ms:List Bool):Nat:=if adj ms then(if pts ms%3=0 then 2 else 1) else ms.length
def xV (ms:List Bool):Bool:=(bM ms).all (λp=>oW (mV ms p)==oW ms)&&(adj ms==!(fG ms).isEmpty)
theorem NY:((cv 8).all λn=>(t8 n).all xV)=true:=by decide +kernel
theorem xW{ms:List Bool}(h:ms.length<=7):xV ms=true:=by
 have:=am.mp NY ms.length (by simp;exact gy h (by decide));exact am.mp this ms (iR ms)
theorem uI{α:Type}(f:α->PV) (l:List α) (k:Nat) (d:α) (h:k<l.length):(l.map f)[k]?=some (f (l.getD k d)):=by
 refine O (dp) (O (bk h) ?_);simp[qj,h]
theorem C7 (m:Nat) (q:Nat->Bool) (b:PV->Bool) (h:∀k<m,b (.int (k:Int))=q k):(rng m).filter b=((cv m).filter q).map λk:Nat=>PV.int (k:Int):=by
 unfold rng;refine O Dk ?_;congr 1;refine List.filter_congr λk hk=>?_;exact h k (fw.mp hk)
noncomputable def mO (l:List Nat):PV:=.lst (l.map λk:Nat=>PV.int (k:Int))
section
variable{pe:PEnv}{ms:List Bool}
theorem wK (Mg:lk pe 11=some (.lst (ms.map mkS))) (hs:∀v,lk (st pe 36 v) 36=some v/\lk (st pe 36 v) 11=lk pe 11) (h1:1<=ms.length) (h2:ms.length<=1000) :
  aA (FT aI n) Qi pe=some (mO (fG ms)):=by
 have hlen:aA (FT aI n) (.bin .Sub (.bi .len Q0m) Qb) pe=some (.int ((ms.length-1:Nat):Int)):=by
  simp only[aF,Mg];have:biF .len [.lst (ms.map mkS)]=some (.int (ms.length:Int)):=by
   show(if _ then _ else _)=_;refine O (if_pos (by simp;exact aa h2 (by decide))) ?_;simp
  refine O this ?_;simp only[lL];congr 2;exact ca (Ym (ae (fan [_] (.x .n1 .q) [.x .n1 .q] h1)).symm) (Yn (ae (fan [_] (.x .n1 .q) [.x .n1 .q] h1)))
 have key:∀k<ms.length-1,aA (FT aI n) (.cmp .Eq (.sub Q0U (.var 36)) (.sub Q0U (.bin .Add (.var 36) Qb))) (st pe 36 (.int (k:Int)))=some (.bool (ms.getD k false==ms.getD (k+1) false)):=by
  intro k hk;refine xa (hs (.int (k:Int))) λq1 q2=>?_;have g1:cX (.lst (ms.map mkS)) (.int (k:Int))=some (mkS (ms.getD k false)):=fT (ya) (fn3 (.t .q .kS) [.x .r .kj,.y .q .s,.z1 .kL .r] h2 hk (ae (fan [_] (.x .n1 .q) [.x .n1 .q] h1))) (by exact O (dg ..) (uI mkS ms k false (fn3 (.y .q .r) [.y .q .s,.z1 .kL .r] hk (ae (fan [_] (.x .n1 .q) [.x .n1 .q] h1)))));have g2:cX (.lst (ms.map mkS)) (.int ((k:Int)+1))=some (mkS (ms.getD (k+1) false)):=fT (fn1 (.l .n0 .kc) []) (fn3 (.t .kc .kS) [.x .r .kj,.y .q .s,.z1 .kL .r] h2 hk (ae (fan [_] (.x .n1 .q) [.x .n1 .q] h1))) (by exact O (show((k:Int)+1).toNat=k+1 by exact az (fn2 (.x .q .ke) [.e .q .ke] (bt (fan [_] (.l .n0 .kc) []))) (fn2 (.x .kc .r) [.e .kc .r] (bt (fan [_] (.l .n0 .kc) [])).symm)) (uI mkS ms (k+1) false (fn3 (.y .kc .r) [.y .q .s,.z1 .kL .r] hk (ae (fan [_] (.x .n1 .q) [.x .n1 .q] h1)))));simp only[aF,q1,q2,Mg,cH,g1,g2,AQ,bl]
 have:=qF (F:=FT aI n) (pe:=pe) (src:=.rng1 (.bin .Sub (.bi .len Q0m) Qb)) (e:=.var 36) (c:=.cmp .Eq (.sub Q0U (.var 36)) (.sub Q0U (.bin .Add (.var 36) Qb))) (tg:=36) (items:=rng (ms.length-1))
  (λp=>p) (λp=>match p with | .int k=>ms.getD k.toNat false==ms.getD (k.toNat+1) false | _=>false) (t5 hlen (fn2 (.x .q .kv) [.x .r .kj,.z1 .kc .r] h2 (ae (fan [_] (.x .n1 .q) [.x .n1 .q] h1)))) (by
   intro p hp;apply gW (fg.mp hp);intro k hk;rw[fw] at hk;refine⟨?_,λ_=>?_⟩
   ·simp only[dg];exact key k hk
   ·exact(hs _).1)
 (refine O this (O (Fv ..) ?_);rw[C7 _ (λp=>ms.getD p false==ms.getD (p+1) false)])
 ·rfl
 ·intro k hk;rfl
theorem AX{p:Nat}(h:p∈fG ms):p+1<ms.length/\ms.getD p false=ms.getD (p+1) false:=by
 unfold fG at h;rw[rx,fw] at h;exact⟨by omega,eq_of_beq h.2⟩
theorem HQ (Mg:lk pe 11=some (.lst (ms.map mkS))) (h20:lk pe 20=some (mO (fG ms))) (hs:∀v,lk (st pe 35 v) 35=some v/\lk (st pe 35 v) 11=lk pe 11) (h2:ms.length<=7) :
  aA (FT aI (n+2)) Q0c pe=some (mO (oV ms)):=by
 have key:∀k∈fG ms,aA (FT aI (n+2)) Qe (st pe 35 (.int (k:Int)))=some (.bool (adj (mV ms k))):=by
  intro k hk;refine xa (AX hk) λXe hk2=>?_;refine xa (hs (.int (k:Int))) λq1 q2=>?_;have g1:cX (.lst (ms.map mkS)) (.int (k:Int))=some (mkS (ms.getD k false)):=fT (ya) (fn2 (.t .q .kS) [.x .r .n7,.y .kc .r] h2 Xe) (by exact O (dg ..) (uI mkS ms k false (fn2 (.y .q .r) [.y .kc .r] Xe)));have Oo:(mV ms k).length<=7:=by unfold mV;simp;exact fn4 (.x .kO .n7) [.x .s .n7,.x .q .t,.z1 (.A .r (.A .t .n2)) .s] h2 (Dj _ _) (ae (fan [_,_] (.x .k9 .r) [.y .kc .r] Xe))
  simp only[aF,q1,q2,Mg,kG,kH,MJ _ (k:Int) (ya) (by simp;exact aa h2 (by decide):(ms.map mkS).length<=100000),g1,HH,cH,MK _ ((k:Int)+2) (fn1 (.l .n0 .k9) []) (by simp;exact aa h2 (by decide):(ms.map mkS).length<=100000),bl];refine O (iM _ _ (by simp;exact fn2 (.x .q (.N 99999)) [.x .r .n7,.x .q .r] h2 (ow _ _))) ?_;simp only;refine O (iM _ _ (by simp;exact fn3 (.x .jg .kv) [.X 2 .s .n7,.x .q .s,.x .r .s] h2 (ow _ _) (wg _ _))) ?_;simp only;have e:(ms.map mkS).take (k:Int).toNat++[mkS (!ms.getD k false)]++(ms.map mkS).drop ((k:Int)+2).toNat=(mV ms k).map mkS:=by
   unfold mV;refine O (dg ..) (O (show((k:Int)+2).toNat=k+2 by exact az (fn2 (.x .q .j0) [.e .q .j0] (bt (fan [_] (.l .n0 .k9) []))) (fn2 (.x .k9 .r) [.e .k9 .r] (bt (fan [_] (.l .n0 .k9) [])).symm)) ?_);simp[di,Ev,Ew]
  exact O e (O (NS Oo) rfl)
 have:=qF (F:=FT aI (n+2)) (pe:=pe) (src:=.val (.var 20)) (e:=.var 35) (c:=Qe) (tg:=35) (items:=(fG ms).map λk:Nat=>PV.int (k:Int))
  (λp=>p) (λp=>match p with | .int k=>adj (mV ms k.toNat) | _=>false) (jL (by simp only[aF,h20];rfl) (by
   have:(fG ms).length<=ms.length-1:=by unfold fG;exact aa (qy ..) (by simp)
   simp;exact fn3 (.x .q .kv) [.x .r .n7,.x .q .s,.x .s .r] h2 this (wg _ _))) (by
   intro p hp;apply gW (fg.mp hp);intro k hk;refine⟨?_,λ_=>?_⟩
   ·simp only[dg];exact key k hk
   ·exact(hs _).1)
 refine O this (O (Fv ..) (O Dk ?_));rfl
end
end L2
namespace L2
def spP (t:Tr):PV:=.tup [.int (t.f:Int),.int (t.l:Int)]
def txP (t:Tr):PV:=.str (sx (aJ t.pcs))
def pc (ls:List Col) (bs:List Bool) (t:Tr):Col:=f6 (seg ls t) (seg bs t)
structure Cst where
 a0:Option PV
 a1:Option PV
 a2:Option PV
 a5:Option PV
 a9:Option PV
 a12:Option PV
 a13:Option PV
 a14:Option PV
 a16:Option PV
structure Tmp where
 x19:Option PV
 x20:Option PV
 x21:Option PV
 x22:Option PV
 x23:Option PV
 x24:Option PV
 x25:Option PV
 x26:Option PV
 x27:Option PV
def env (k:Cst) (nums:List Int) (bs:List Bool) (ls:List Col) (w:Int) (s:Nat) (ts:List Tr) (d:Nat) (x:Tmp):PEnv :=
 [k.a0,k.a1,k.a2,some (aM nums),some (.lst (bs.map mkS)),k.a5,some (.lst (ls.map lp)),some (.lst (ts.map λt=>lp (pc ls bs t))),some (.int w),k.a9,some (.lst (ts.map txP)),some (.lst (ts.map λt=>mkS (mkT bs t))),
  k.a12,k.a13,k.a14,some (.int (s:Int)),k.a16,some (.int (d:Int)),some (.lst (ts.map spP)),x.x19,x.x20,x.x21,x.x22,x.x23,x.x24,x.x25,x.x26,x.x27,
  none,none,none,none,none,none,none,none,none,none,none,none,none,none,none,none,none,none,none,none]
theorem xX{α:Type}(f:α->PV){pre post:List α}{a:α}(k:Int) (hk:k=(pre.length:Int)) (h:pre.length<1000):cX (.lst ((pre++a::post).map f)) (.int k)=some (f a):=by
 subst hk;refine fT (ya) (fn1 (.t .q .kS) [.y .q .kj] h) ?_;refine O (dg ..) ?_;simp
theorem iY{α:Type}{pre post:List α}{a d:α}:(pre++a::post).getD pre.length d=a:=by simp[qj]
theorem NZ{α:Type}{ts:List α}(h:p+1<ts.length):∃pre a b post,ts=pre++a::b::post/\pre.length=p:=by
 refine(eH (ts.take p) (ts[p]) (ts[p+1]) (iea (ts.drop (p+2)) ?_ (by simp;lia)));exact XO (pg h) (XO (pg (by exact fn2 (.y .q .r) [.y .kc .r] h)) (O (xm ..) rfl))
theorem N0{α:Type}(f:α->Bool){pre post:List α}{a b c:α}(h:f c=!f a):(pre++c::post).map f=mV ((pre++a::b::post).map f) pre.length:=by
 delta mV
 have e1:((pre++a::b::post).map f).getD pre.length false=f a:=by
  refine O di (O ak ?_);have:=iY (pre:=pre.map f) (post:=(b::post).map f) (a:=f a) (d:=false);rw[dx] at this;exact this
 refine O e1 (XO h ?_);have e2:((pre++a::b::post).map f).take pre.length=pre.map f:=by
  refine O di ?_;have:pre.length=(pre.map f).length:=by simp
  exact O this (O tt rfl)
 have e3:((pre++a::b::post).map f).drop (pre.length+2)=post.map f:=by
  refine O di (O ak (O ak ?_));have:pre.length+2=(pre.map f).length+2:=by simp
  refine O this (O Cj ?_);simp
 refine O e2 (O e3 ?_);simp
theorem AY{ts:List Tr}{bs:List Bool}:∀{pre:List Tr}{i j:Nat}{a b:Tr}{post:List Tr},Chain i (pre++a::b::post) j->a.l=b.f/\Chain i (pre++Tr.node a b::post) j
 | [],i,j,a,b,post,h=>by
  refine xaa h λh1 h2 h3=>?_;exact(iaa h2.symm h1 h3)
 | t::pre,i,j,a,b,post,h=>by
  refine xa h λh1 h2=>?_;clear h;refine xa (AY (ts:=ts) (bs:=bs) h2) λh3 h4=>?_;exact(iaa h3 h1 h4)
theorem U3{bs:List Bool}{a b:Tr}(ha:Ok bs a) (hb:Ok bs b) (h:mkT bs a=mkT bs b):Mine.pts (seg bs a)%3=Mine.pts (seg bs b)%3:=by
 have:=ha.pts;have:=hb.pts
 delta mkT at h
 by_cases h1:Mine.pts (seg bs a)%3=1
 ·by_cases h2:Mine.pts (seg bs b)%3=1
  ·exact fn2 (.z1 .q .r) [.z1 .q .n1,.z1 .n1 .r] h1 h2.symm
  ·simp[h1,h2] at h
 ·by_cases h2:Mine.pts (seg bs b)%3=1
  ·simp[h1,h2] at h
  ·exact(ha.pts.resolve_left h1).trans (hb.pts.resolve_left h2).symm
structure Fr (nums:List Int) (bs:List Bool) (ls:List Col) (w:Int) (s:Nat):Prop where
 c7:bs.length<=7
 nl:nums.length=bs.length
 ll:ls.length=bs.length
 n0:∀x∈nums,0<=x
 lt:∀t∈ls,Lt 1024 t
 w0:0<=w
 w1:w<=114688
 sp:s<bs.length
theorem rE{α:Type}{x:List α}{bs:List Bool}(hx:x.length=bs.length){t:Tr}(h:Ok bs t):(seg x t).length=t.l-t.f:=by
 delta seg
 rw[rd,re,sb (hx ▸ h.lt.2)]
theorem C8{α:Type}{x:List α}{bs:List Bool}(hx:x.length=bs.length){t:Tr}(h:Ok bs t):seg x t≠[]:=λe=>ez (ui h.lt.1) (by refine XO (rE hx h) (O e ?_);rfl)
theorem FE{nums:List Int}{bs:List Bool}{ls:List Col}{w:Int}{s:Nat}(X:Fr nums bs ls w s){t:Tr}(h:Ok bs t):Bd 7168 (pc ls bs t):=by
 have hm:∀u∈seg ls t,Lt 1024 u:=λu hu=>X.lt u (rn (ro hu));have hk:1024*((seg ls t).length:Int)<=7168:=by
  exact O (rE X.ll h) (Int.mul_le_mul_of_nonneg_left (b:=7) (nz.mpr (aa (wg _ _) (aa h.lt.2 X.c7))) (by decide))
 refine mW (NV (bs:=seg bs t) hm (C8 X.ll h)) λh1 h2 h3 h4 h5 h6=>?_;exact⟨h1,au h2 hk,h3,au h4 hk,h5,au h6 hk⟩
theorem N1 (l:List Nat) (h:l.length<=100000):biF .len [mO l]=some (.int (l.length:Int)):=by
 show(if (l.map λk:Nat=>PV.int (k:Int)).length<=100000 then some (PV.int ((l.map λk:Nat=>PV.int (k:Int)).length:Int)) else none)=_;exact O (dx ..) (O (if_pos h) rfl)
theorem N2{l:List Nat}{k:Int}{p:Nat}(h0:0<=k) (h1:k<1000000) (h:l[k.toNat]?=some p):cX (mO l) (.int k)=some (.int (p:Int)) :=
 fT h0 h1 (by refine O (dp) (O h ?_);rfl)
theorem N3 (h0:0<=k) (h1:k<1000000) (h:l[k.toNat]?=some v):cX (aM l) (.int k)=some (.int v) :=
 fT h0 h1 (by refine O (dp) (O h ?_);rfl)
theorem HR (h22:lk pe 22=some C) (h3:lk pe 3=some N) (Xf:lk pe 19=some (.int i)) (g1:cX N (.int i)=some (.int v)) (g2:biF .len [C]=some (.int L)) (hL:0<L) (g3:cX C (.int (v/16384%L))=some P) :
  aA F Qm pe=some P:=by
 have f1:=dZ v 16384 ⟨by exact fn0 (.t .n0 (.N 16384)) [],by exact fn0 (.t (.N 16384) (.N 1000000000)) []⟩;have f2:=cI (v/16384) L hL;simp only[aF,h22,h3,Xf,g1,g2,f1,f2,g3]
theorem HS (Xh:lk pe 18=some SP) (Us:lk pe 23=some (.int p)) (g1:cX SP (.int p)=some X) (g2:cX SP (.int (p+1))=some Y) (z0:cX X (.int 0)=some u) (z1:cX Y (.int 1)=some v) :
  aA F Qo pe=some (.tup [u,v]):=by
 simp only[aF,Xh,Us,g1,cH,g2,z0,z1,bl]
theorem HT (h7:lk pe 7=some CO) (Us:lk pe 23=some (.int p)) (h8:lk pe 8=some W) (Xf:lk pe 19=some (.int i)) (g1:cX CO (.int p)=some X) (g2:cX CO (.int (p+1))=some Y)
  (h:F 16 [X,Y,W,.int ((p+i)%2)]=some r):aA F Qh pe=some r:=by
 have f:=cI (p+i) 2 (by decide);simp only[aF,h7,Us,h8,Xf,g1,cH,g2,f,h]
theorem HU (Xi:lk pe 26=some P) (h8:lk pe 8=some W) (h:F 15 [P,W]=some r):aA F (.call 15 (.cons (.var 26) Qx)) pe=some r:=by
 simp only[aF,Xi,h8,h]
theorem N4{F:Fn}{pe:PEnv}{P M LS DR l1 l2:PV}{f l:Int}(Xi:lk pe 26=some P) (h27:lk pe 27=some M) (h6:lk pe 6=some LS) (h4:lk pe 4=some DR) (Xj:lk pe 24=some (.int f)) (Xk:lk pe 25=some (.int l))
  (s1:cY LS (some f) (some l) none=some l1) (s2:cY DR (some f) (some l) none=some l2) (h:F 17 [l1,l2]=some (.tup [M,P])) (ne:bF .NotEq (.tup [M,P]) (.tup [M,P])=some false):aA F Qg pe=some (.bool false):=by
 simp only[aF,Xi,h27,h6,h4,Xj,Xk,kG,kH,s1,s2,h,ne,bl]
theorem oX{α:Type}(f:α->PV){pre post:List α}{a b c:α}(hp:p=(pre.length:Int)) (tl:(pre++a::b::post).length<=1000)
  (h1:lk pe i=some (.lst ((pre++a::b::post).map f))) (h2:lk pe 23=some (.int p)) (h3:aA F e pe=some (f c)) :
  aA F (.bin .Add (.bin .Add (.slc (.var i) Qa (.var 23) Qa) (.list (.cons e .nil))) (.slc (.var i) (.bin .Add (.var 23) Qc) Qa Qa)) pe=some (.lst ((pre++c::post).map f)):=by
 subst hp;have L:((pre++a::b::post).map f).length<=100000:=by exact O (dx ..) (aa tl (by decide))
 have s1:=MJ _ (pre.length:Int) (ya) L;have s2:=MK _ ((pre.length:Int)+2) (fn1 (.l .n0 .k9) []) L;have e1:((pre++a::b::post).map f).take (pre.length:Int).toNat=pre.map f:=by
  refine O (dg ..) (O di ?_);have:pre.length=(pre.map f).length:=by simp
  exact O this (O tt rfl)
 have e2:((pre++a::b::post).map f).drop ((pre.length:Int)+2).toNat=post.map f:=by
  refine O (show((pre.length:Int)+2).toNat=pre.length+2 by exact az (fn2 (.x .q .j0) [.e .q .j0] (bt (fan [_] (.l .n0 .k9) []))) (fn2 (.x .k9 .r) [.e .k9 .r] (bt (fan [_] (.l .n0 .k9) [])).symm)) (O di (O ak (O ak ?_)));have:pre.length+2=(pre.map f).length+2:=by simp
  refine O this (O Cj ?_);simp
 rw[e1] at s1;rw[e2] at s2;have L1:(pre.map f).length+[f c].length<=100000:=by simp at tl ⊢;exact fn2 (.x .q (.N 99999)) [.x (.A .q (.A .ke .n1)) .kj] tl
 have L2:(pre.map f++[f c]).length+(post.map f).length<=100000:=by simp at tl ⊢;exact fn2 (.x .jg .kv) [.x (.A .q (.A .ke .n1)) .kj] tl
 have b1:=iM _ _ L1;have b2:=iM _ _ L2;simp only[aF,h1,h2,h3,kG,kH,s1,s2,cH,bl,b1,b2];simp
theorem RO (Sk:lk pe 10=some TX) (Us:lk pe 23=some (.int p)) (g1:cX TX (.int p)=some (.str (sx x))) (g2:cX TX (.int (p+1))=some (.str (sx y))) (hx:x.length<=1000) (hy:y.length<=1000) :
  aA F (.bin .Add (.bin .Add (.bin .Add (.cst (.str ("(":Str))) Q0z) Q0f) (.cst (.str (")":Str)))) pe=some (.str (sx ([40]++x++y++[41]))):=by
 have c1:=fQ [40] x (by simp;exact fn1 (.x (.A .n1 .q) .kv) [.x .q .kj] hx);have c2:=fQ ([40]++x) y (by simp;exact fn2 (.x .jg .kv) [.x .q .kj,.x .r .kj] hx hy);have c3:=fQ ([40]++x++y) [41] (by simp;exact fn2 (.x .ko (.N 99998)) [.x .q .kj,.x .r .kj] hx hy);rw[show("(":Str)=sx [40] from rfl,show(")":Str)=sx [41] from rfl];simp only[aF,Sk,Us,g1,cH,g2,c1,c2,c3]
theorem HV{F:Fn}{pe:PEnv}{f l s:Nat}(Xj:lk pe 24=some (.int (f:Int))) (Xk:lk pe 25=some (.int (l:Int))) (Sf:lk pe 15=some (.int (s:Int))) :
  aA F (.ite (.cmp2 .LtE .Lt (.var 24) (.var 15) (.var 25)) Qb Qd) pe=some (.int ((if f<=s/\s<l then 1 else 0:Nat):Int)):=by
 simp only[aF,Xj,Xk,Sf,EQ,xF]
 by_cases q1:f<=s
 ·have:decide ((f:Int)<=(s:Int))=true:=by simp;omega
  refine O this ?_
  by_cases q2:s<l
  ·have:decide ((s:Int)<(l:Int))=true:=by simp;omega
   refine O this ?_;simp[q1,q2]
  ·have:decide ((s:Int)<(l:Int))=false:=by simp;exact(av.mp q2)
   refine O this ?_;simp[q1,q2]
 ·have:decide ((f:Int)<=(s:Int))=false:=by simp;exact(Hb.mp q1)
  refine O this ?_;simp[q1]
theorem uJ{α:Type}(f:α->PV){pre post:List α}{a b:α}(k:Int) (hk:k=(pre.length:Int)) (h:pre.length<900):cX (.lst ((pre++a::b::post).map f)) (.int (k+1))=some (f b):=by
 have:=xX f (pre:=pre++[a]) (post:=post) (a:=b) (k+1) (by simp;exact hk) (by simp;exact fn1 (.y .kc .kj) [.y .q .jW] h)
 simpa using this
theorem wL{α:Type}(f:α->PV) (x:List α) (t:Tr) (h:x.length<=1000):cY (.lst (x.map f)) (some (t.f:Int)) (some (t.l:Int)) none=some (.lst ((seg x t).map f)):=by
 refine O (V5 _ _ _ (by exact ya) (by exact ya) (by simp;exact aa h (by decide))) ?_;simp[seg,Ev,Ew]
theorem U4 (b:Bool) (t:Col):bF .NotEq (.tup [mkS b,lp t]) (.tup [mkS b,lp t])=some false:=kT (by rfl) (λx h=>by cases h)
theorem sp0 (t:Tr):cX (spP t) (.int 0)=some (.int (t.f:Int)):=rfl
theorem sp1 (t:Tr):cX (spP t) (.int 1)=some (.int (t.l:Int)):=rfl
theorem HW{nums:List Int}{bs:List Bool}{ls:List Col}{w:Int}{s:Nat}(X:Fr nums bs ls w s) (k:Cst){ts:List Tr}(Jb:∀t∈ts,Ok bs t) (Ju:Chain 0 ts bs.length) (hlen:ts.length<=bs.length) (d:Nat) (x:Tmp){i:Nat}(hi:i<bs.length)
  (Kz:adj (ts.map (mkT bs))=true) (h1:1<=ts.length) :
  ∃(Ln:List Tr) (d':Nat) (x':Tmp),aE (FT aI 5) (.cons (.asg 20 Qi) (.cons Q0b (.cons (.asg 21 Q0c) (.cons Q08 (.cons (.asg 23 Qm) (.cons (.asgT [24,25] Qo) (.cons (.asg 26 Qh) (.cons Q0u (.cons (.ite Qg Qk .nil) (.cons Qq (.cons Qp (.cons Qj (.cons (.asg 10 (.bin .Add (.bin .Add Q0D (.list (.cons (.bin .Add (.bin .Add (.bin .Add (.cst (.str ("(":Str))) Q0z) Q0f) (.cst (.str (")":Str)))) .nil))) Q0n)) Qy))))))))))))) (env k nums bs ls w s ts d {x with x19:=some (.int (i:Int))})=some (env k nums bs ls w s Ln d' x',.next) /\
   (∀t∈Ln,Ok bs t)/\Chain 0 Ln bs.length/\Ln.length+1=ts.length/\oW (Ln.map (mkT bs))=oW (ts.map (mkT bs))/\d'+lB s ts=d+lB s Ln:=by
 have Lo:=X.c7;have Oo:(ts.map (mkT bs)).length<=7:=by simp;exact aa hlen Lo
 have hm:=xW Oo;unfold xV at hm;rw[ay,beq_iff_eq] at hm;refine xa hm λMa Jd=>?_;clear hm;have Kf:(fG (ts.map (mkT bs))).isEmpty=false:=by rw[Kz] at Jd;simpa using Jd.symm
 have Vk:(ts.map λt=>mkS (mkT bs t))=(ts.map (mkT bs)).map mkS:=by refine O co ?_;rfl
 have Xl:(bM (ts.map (mkT bs)))≠[]:=by
  delta bM
  cases hg:(oV (ts.map (mkT bs))).isEmpty
  ·refine O (if_neg (by simp)) ?_;intro e;rw[e] at hg;simp at hg
  ·refine O (if_pos rfl) ?_;intro e;rw[e] at Kf;simp at Kf
 have Rb:(bM (ts.map (mkT bs))).length<=6:=by
  have YU:(fG (ts.map (mkT bs))).length<=6:=by
   delta fG
   refine aa (qy ..) ?_;simp;exact aa hlen Lo
  delta bM oV
  split
  ·exact YU
  ·exact aa (qy ..) YU
 have Mb:∀p∈bM (ts.map (mkT bs)),p∈fG (ts.map (mkT bs)):=by
  intro p hp
  delta bM oV at hp
  split at hp
  ·exact hp
  ·exact(rx.mp hp).1
 have Ut:∃v,nums[i]?=some v/\0<=v:=by
  have:i<nums.length:=by exact O X.nl hi
  exact(iea (nums[i]) (by simp[this]) (X.n0 _ (qz _)))
 refine xea Ut λv hv Nh=>?_;clear Ut;have Ke:0<(bM (ts.map (mkT bs))).length:=lw.mpr Xl;have Rc:(0:Int)<((bM (ts.map (mkT bs))).length:Int):=Bq.mpr Ke;have Xm:((v/16384)%((bM (ts.map (mkT bs))).length:Int)).toNat<(bM (ts.map (mkT bs))).length:=by
  have h1:=fj (v/16384) (b:=((bM (ts.map (mkT bs))).length:Int)) (ew (Yr Ke));have h2:=eg (v/16384) (b:=((bM (ts.map (mkT bs))).length:Int)) (Yr Ke);exact fam [_] [_,_] (.y .q .r) [.t .a .r,.e .q .a] h2 (bt (faz [_] (.l .n0 .a) [.l .n0 .a] h1))
 obtain⟨p,hp⟩:∃p,(bM (ts.map (mkT bs)))[((v/16384)%((bM (ts.map (mkT bs))).length:Int)).toNat]?=some p:=⟨_,bk Xm⟩;have YV:p∈bM (ts.map (mkT bs)):=ic hp;refine xa (AX (Mb p YV)) λLu Nf=>?_;have Mh:=eq_of_beq (am.mp Ma p YV);refine eJ (NZ (ts:=ts) (p:=p) (by simpa using Lu)) λpre a b post zt=>?_;refine xa zt λLm Ld=>?_;clear zt;have Mi:pre.length<900:=by refine O Ld ?_;simp at Lu;exact fn3 (.y .q .jW) [.x .r .s,.x .s .n7,.y .kc .r] hlen Lo Lu
 have ha:Ok bs a:=Jb a (by refine O Lm ?_;simp);have hb:Ok bs b:=Jb b (by refine O Lm ?_;simp);refine xa (AY (ts:=ts) (bs:=bs) (by exact XO Lm Ju)) λPz Od=>?_;have Xn:mkT bs a=mkT bs b:=by
  rw[Lm] at Nf;rw[<- Ld] at Nf;have e1:=iY (pre:=pre.map (mkT bs)) (post:=(b::post).map (mkT bs)) (a:=mkT bs a) (d:=false);have e2:=iY (pre:=(pre++[a]).map (mkT bs)) (post:=post.map (mkT bs)) (a:=mkT bs b) (d:=false);simp only[dx,di,ak,gp,cw,db,mr,cg,bf,eb] at e1 e2 Nf;rw[e1] at Nf;rw[show pre.length+(0+1)=pre.length+1 by exact fn1 (.z1 (.A .q (.A .n0 .n1)) .kc) []] at e2;rw[e2] at Nf;exact Nf
 have Sg:=U3 ha hb Xn;have Kr:Ok bs (.node a b):=.node ha hb Pz Sg;refine xa (FD ha hb Pz Sg) λmk1 mk2=>?_;have YW:=ha.lt;have YX:=hb.lt;have hA:=FE X ha;have hB:=FE X hb;have hN:=FE X Kr;have Rd:=X.w0;have Nl:=X.w1;have Uu:opp (cO (AR (pc ls bs a) (pc ls bs b)))=pc ls bs (.node a b):=by
  delta pc
  exact O (lX X.ll ha hb Pz) (O (lX rfl ha hb Pz) (C5 ha.pts Sg))
 have e16:∀way:Int,way=0\/way=1->FT aI 5 16 [lp (pc ls bs a),lp (pc ls bs b),.int w,.int way]=some (lp (pc ls bs (.node a b))):=by
  intro way Md;refine XO Uu ?_;refine mW hA λa1 a2 a3 a4 a5 a6=>?_;clear hA;refine mW hB λb1 b2 b3 b4 b5 b6=>?_;exact t6 (n:=2) (a:=(pc ls bs a).1) (b:=(pc ls bs a).2.1) (c:=(pc ls bs a).2.2) (a':=(pc ls bs b).1) (b':=(pc ls bs b).2.1) (c':=(pc ls bs b).2.2) Rd Md (au (nj Nl (RJ (k:=7168+7168) ⟨mm a1 b1,nj a2 b2⟩ ⟨mm a3 b3,nj a4 b4⟩ ⟨mm a5 b5,nj a6 b6⟩)) (by decide))
 have Mj:seg ls (.node a b)≠[]:=C8 X.ll Kr;have Mv:∀u∈seg ls (.node a b),Lt 1024 u:=λu hu=>X.lt u (rn (ro hu));have e15:FT aI 5 15 [lp (pc ls bs (.node a b)),.int w]=some (mkS (mkT bs (.node a b))):=by
  refine mW hN λa1 a2 a3 a4 a5 a6=>?_;clear hN;have:=AN (n:=3) (w:=w) (a:=(pc ls bs (.node a b)).1) (b:=(pc ls bs (.node a b)).2.1) (c:=(pc ls bs (.node a b)).2.2) ⟨by exact yd Rd a1,by exact yc Nl a2⟩ ⟨by exact yd Rd a3,by exact yc Nl a4⟩ ⟨by exact yd Rd a5,by exact yc Nl a6⟩;have pm:fS (pc ls bs (.node a b)).1 (pc ls bs (.node a b)).2.1 (pc ls bs (.node a b)).2.2=decide (Mine.pts (seg bs (.node a b))%3=1):=uC Mv Mj;rw[pm] at this;exact this
 have Ou:(seg ls (.node a b)).all small=true:=by
  refine O (propext am) ?_;intro u hu;obtain⟨a0,b0,c0,a1,b1,c1,-⟩:=Mv u hu
  delta small eW
  simp;exact⟨⟨⟨Ys a0,oa a1 (by decide)⟩,⟨Ys b0,oa b1 (by decide)⟩⟩,⟨Ys c0,oa c1 (by decide)⟩⟩
 have e17:FT aI 5 17 [.lst ((seg ls (.node a b)).map lp),.lst ((seg bs (.node a b)).map mkS)]=some (.tup [mkS (mkT bs (.node a b)),lp (pc ls bs (.node a b))]):=by
  have Sh:=rE X.ll Kr;have Pn:=rE (x:=bs) rfl Kr;have:=Kr.lt;exact RL (n:=4) Ou (yt Lo Sh this.2 (ae (fan [_,_] (.x .q .r) [.y .q .r] this.1))) (yt Lo Pn this.2 (ae (fan [_,_] (.x .q .r) [.y .q .r] this.1)))
 refine(dF (pre++.node a b::post) (d+(if a.f<=s/\s<b.l then 1 else 0)) ⟨some (.int (i:Int)),some (mO (fG (ts.map (mkT bs)))),some (mO (oV (ts.map (mkT bs)))),some (mO (bM (ts.map (mkT bs)))),some (.int (p:Int)),some (.int (a.f:Int)),some (.int (b.l:Int)),some (lp (pc ls bs (.node a b))),some (mkS (mkT bs (.node a b)))⟩ ?_ ?_ Od ?_ ⟨?_,?_⟩)
 ·delta env
  simp only;refine O Vk ?_;refine seq (asg (p:=mO (fG (ts.map (mkT bs)))) (wK rfl (λv=>⟨rfl,rfl⟩) (by simp;exact h1) (by simp;exact Yk hlen Lo))) ?_
  dsimp only[aY,aZ]
  refine seq (cA (by simp only[aF,EVL,mO,NN,wa,Kf]) bG) ?_;refine seq (asg (p:=mO (oV (ts.map (mkT bs)))) (HQ (n:=3) rfl rfl (λv=>⟨rfl,rfl⟩) Oo)) ?_
  dsimp only[aY,aZ]
  refine seq (asg (p:=mO (bM (ts.map (mkT bs)))) ?_) ?_
  ·simp only[aF,EVL,mO,U1,wa]
   delta bM
   cases (oV (ts.map (mkT bs))).isEmpty <;> rfl
  dsimp only[aY,aZ]
  refine seq (asg (p:=.int (p:Int)) ?_) ?_
  ·have g1:=N3 (l:=nums) (k:=(i:Int)) (v:=v) (ya) (fn2 (.t .q .kS) [.y .q .r,.x .r .n7] hi Lo) (by exact O (dg ..) hv);have g2:=N1 (bM (ts.map (mkT bs))) (aa Rb (by decide));have q1:=fj (v/16384) (b:=((bM (ts.map (mkT bs))).length:Int)) (ew (Yr Ke));have q2:=eg (v/16384) Rc;have g3:=N2 (l:=bM (ts.map (mkT bs))) (p:=p) q1 (fam [_] [_] (.t .a .kS) [.x .q .n6,.t .a .q] Rb q2) hp;exact HR rfl rfl rfl g1 g2 Rc g3
  dsimp only[aY,aZ]
  refine XO Vk (O Lm ?_);have Ni:(p:Int)=(pre.length:Int):=by exact fn2 (.e .q .r) [.z1 .q .r] Ld.symm
  have tl:(pre++a::b::post).length<=1000:=by exact XO Lm (Yk hlen Lo)
  have Sn:=X.ll;have t1:=ha.len;have t2:=hb.len;refine seq (asgT (HS rfl rfl (xX spP _ Ni (ac Mi (by decide))) (uJ spP _ Ni Mi) (sp0 a) (sp1 b)) rfl) ?_
  dsimp only[aY,aZ]
  refine seq (asg (HT rfl rfl rfl rfl (xX (λt=>lp (pc ls bs t)) _ Ni (ac Mi (by decide))) (uJ (λt=>lp (pc ls bs t)) _ Ni Mi) (e16 _ (by lia)))) ?_
  dsimp only[aY,aZ]
  refine seq (asg (HU rfl rfl e15)) ?_
  dsimp only[aY,aZ]
  refine seq (cA (N4 rfl rfl rfl rfl rfl rfl (wL lp ls (.node a b) (fn2 (.x .q .kj) [.x .r .n7,.z1 .q .r] Lo Sn)) (wL mkS bs (.node a b) (aa Lo (by decide))) e17 (U4 _ _)) bG) ?_;refine seq (asg (oX (λt=>lp (pc ls bs t)) (c:=.node a b) Ni tl rfl rfl rfl)) ?_
  dsimp only[aY,aZ]
  refine seq (asg (oX (λt=>mkS (mkT bs t)) (c:=.node a b) Ni tl rfl rfl rfl)) ?_
  dsimp only[aY,aZ]
  refine seq (asg (oX spP (c:=.node a b) Ni tl rfl rfl rfl)) ?_
  dsimp only[aY,aZ]
  refine seq (asg (oX txP (c:=.node a b) Ni tl rfl rfl ?_)) ?_
  ·refine O (RO (x:=aJ a.pcs) (y:=aJ b.pcs) rfl rfl (xX txP _ Ni (by lia)) (uJ txP _ Ni Mi) (yq Lo YW.2 t1 (ae (fan [_,_] (.x .q .r) [.y .q .r] YW.1))) (yq Lo YX.2 t2 (ae (fan [_,_] (.x .q .r) [.y .q .r] YX.1)))) ?_;simp[txP,p_l,p_n,bS,bT,bU,b7]
  dsimp only[aY,aZ]
  refine(aG (aug (x:=.int (d:Int)) rfl (HV rfl rfl rfl) rfl)).trans ?_
  dsimp only[aY,aZ]
  exact O (Int.natCast_add ..) rfl
 ·intro t ht;rcases cb.mp ht with ht | ht
  ·exact Jb t (by refine O Lm ?_;simp[ht])
  ·rcases ax.mp ht with rfl | ht
   ·exact Kr
   ·exact Jb t (by refine O Lm ?_;simp[ht])
 ·refine O Lm ?_;simp;exact fn2 (.z1 (.A .kO .n1) (.A .q (.A .ke .n1))) []
 ·exact O Lm (O (N0 (mkT bs) (a:=a) (b:=b) (by rw[mk1];simp)) (O Ld (XO Lm Mh)))
 ·refine O Lm ?_
  delta lB
  simp only[di,ak,wm,lc,AV];split <;> lia
end L2
namespace L2
theorem N5{nums:List Int}{bs:List Bool}{ls:List Col}{w:Int}{s:Nat}(X:Fr nums bs ls w s) (k:Cst){ts:List Tr}(hlen:ts.length<=bs.length) (d:Nat) (x:Tmp){i:Nat}
  (Kz:adj (ts.map (mkT bs))=false) (h1:1<=ts.length) :
  ∃x':Tmp,aE (FT aI 5) (.cons (.asg 20 Qi) (.cons Q0b (.cons (.asg 21 Q0c) (.cons Q08 (.cons (.asg 23 Qm) (.cons (.asgT [24,25] Qo) (.cons (.asg 26 Qh) (.cons Q0u (.cons (.ite Qg Qk .nil) (.cons Qq (.cons Qp (.cons Qj (.cons (.asg 10 (.bin .Add (.bin .Add Q0D (.list (.cons (.bin .Add (.bin .Add (.bin .Add (.cst (.str ("(":Str))) Q0z) Q0f) (.cst (.str (")":Str)))) .nil))) Q0n)) Qy))))))))))))) (env k nums bs ls w s ts d {x with x19:=some (.int (i:Int))})=some (env k nums bs ls w s ts d x',.brk):=by
 have Lo:=X.c7;have Oo:(ts.map (mkT bs)).length<=7:=by simp;exact aa hlen Lo
 have hm:=xW Oo;unfold xV at hm;rw[ay,beq_iff_eq] at hm;refine xa hm λaT Jd=>?_;clear aT;clear hm;have Kf:(fG (ts.map (mkT bs))).isEmpty=true:=by rw[Kz] at Jd;simpa using Jd.symm
 have Vk:(ts.map λt=>mkS (mkT bs t))=(ts.map (mkT bs)).map mkS:=by refine O co ?_;rfl
 refine⟨⟨some (.int (i:Int)),some (mO (fG (ts.map (mkT bs)))),x.x21,x.x22,x.x23,x.x24,x.x25,x.x26,x.x27⟩,?_⟩;unfold env;simp only;refine O Vk ?_;refine seq (asg (p:=mO (fG (ts.map (mkT bs)))) (wK rfl (λv=>⟨rfl,rfl⟩) (by simp;exact h1) (by simp;exact Yk hlen Lo))) ?_;simp only[aY,aZ];refine fP (dT (by simp only[aF,EVL,mO,NN,wa,Kf]) ?_) (by simp);rfl
theorem wM{nums:List Int}{bs:List Bool}{ls:List Col}{w:Int}{s:Nat}(X:Fr nums bs ls w s) (k:Cst):∀(is:List Nat) (ts:List Tr) (d:Nat) (x:Tmp),(∀i∈is,i<bs.length)->(∀t∈ts,Ok bs t)->Chain 0 ts bs.length->ts.length<=bs.length->1<=ts.length->ts.length<=is.length+1 ->
  ∃(Ln:List Tr) (d':Nat) (x':Tmp),dD (aE (FT aI 5) (.cons (.asg 20 Qi) (.cons Q0b (.cons (.asg 21 Q0c) (.cons Q08 (.cons (.asg 23 Qm) (.cons (.asgT [24,25] Qo) (.cons (.asg 26 Qh) (.cons Q0u (.cons (.ite Qg Qk .nil) (.cons Qq (.cons Qp (.cons Qj (.cons (.asg 10 (.bin .Add (.bin .Add Q0D (.list (.cons (.bin .Add (.bin .Add (.bin .Add (.cst (.str ("(":Str))) Q0z) Q0f) (.cst (.str (")":Str)))) .nil))) Q0n)) Qy)))))))))))))) [19] (is.map λi:Nat=>PV.int (i:Int)) (env k nums bs ls w s ts d x)=some (env k nums bs ls w s Ln d' x',.next) /\
   (∀t∈Ln,Ok bs t)/\Chain 0 Ln bs.length/\Ln.length<=bs.length/\1<=Ln.length/\adj (Ln.map (mkT bs))=false/\oW (Ln.map (mkT bs))=oW (ts.map (mkT bs))/\d'+lB s ts=d+lB s Ln
 | [],ts,d,x,_,Jb,Ju,Kf,h1,h2=>by
  refine(dF ts d x rfl Jb Ju Kf (cS h1 ?_ rfl rfl));have:ts.length=1:=by simp at h2;exact az (h2) (h1)
  refine xe (ly.mp this) λt aT=>?_;subst aT;rfl
 | i::is,ts,d,x,hi,Jb,Ju,Kf,h1,h2=>by
  cases Kz:adj (ts.map (mkT bs))
  ·refine xe (N5 X k Kf d x (i:=i) Kz h1) λx' hb=>?_;exact(dF ts d x' (Q2 rfl hb) Jb Ju Kf (cS h1 Kz rfl rfl))
  ·refine bI (HW X k Jb Ju Kf d x (i:=i) (hi i (by exact aj)) Kz h1) λts1 d1 x1 hb Xo Xp zt=>?_;refine xaa zt λSh Xq YY=>?_;clear zt;have h3:1<=ts1.length:=by
    have hq:=xW (ms:=ts.map (mkT bs)) (by have:=X.c7;simp;exact aa Kf this);have:2<=ts.length:=by
     rcases ot ts.length 2 with h | h
     ·have:ts.length=1:=by exact az (fn1 (.x .q .n1) [.y .q .n2] h) (h1)
      refine xe (ly.mp this) λt aT=>?_;subst aT;trivial
     ·exact h
    exact fn2 (.x .n1 .q) [.z1 .r .kc,.x .n2 .r] Sh.symm this
   refine bI (wM X k is ts1 d1 x1 (λj hj=>hi j (by simp[hj])) Xo Xp (by exact fn3 (.x .q .r) [.x .s .r,.z1 .kc .s] Kf Sh) h3 (by simp at h2;exact fn3 (.x .q .ke) [.x .s (.A .ke .n1),.z1 .kc .s] h2 Sh)) λLn d' x' hf q1 q2 zt=>?_;refine gC zt λq3 q4 q5 q6 q7=>?_;exact(dF Ln d' x' (cB rfl hb hf) q1 q2 q3 (cS q4 q5 (by exact O q6 (O Xq rfl)) (by exact az (fn6 (.x .ko (.A .s .t)) [.z1 (.A .u .r) (.A .s .v),.z1 (.A .q .v) (.A .u .t)] YY q7) (fn6 (.x .ko (.A .s .t)) [.z1 (.A .q .u) (.A .v .t),.z1 (.A .v .r) (.A .s .u)] YY.symm q7.symm))))
def rF (bs:List Bool):Bool:=match toks 999 (j8 bs),FT aI 5 11 [.lst (bs.map mkS)] with
 | some r,some (.lst l)=>cT l==some r
 | _,_=>false
theorem RP:(t8 5).all rF=true:=by decide +kernel
theorem RQ:(t8 7).all rF=true:=by decide +kernel
def FF (m:Nat):Bool:=toks 999 (af m 46)==some (af (m/3) 52++af (m%3) 23)
theorem HX:(cv 15).all FF=true:=by decide +kernel
end L2
theorem f7{β:Type}(f:Int->β):∀(l:List Int),(cv l.length).map (λk=>f (l.getD k 0))=l.map f
 | []=>rfl
 | a::l=>by
  refine O db (O qo (O ak (O co (O ak ?_))));congr 1;exact f7 f l
theorem lY{F:Fn}{pe:PEnv}{e a c:PE}{tg:Nat}{m:Nat}(g:Nat->PV) (ha:aA F a pe=some (.int (m:Int))) (hm:m<=1000) (h:∀k<m,aA F e (st pe tg (.int (k:Int)))=some (g k)) :
  aA F (.comp e tg (.rng1 a) false c) pe=some (.lst ((cv m).map g)):=by
 rw[iQ (items:=rng m) (λp=>match p with | .int k=>g k.toNat | _=>.none) (t5 ha (aa hm (by decide))) ?_]
 ·congr 2
  delta rng
  refine O co (ei λk _=>?_);simp
 ·intro p hp;apply gW (fg.mp hp);intro k hk
  dsimp only[dg]
  exact h k (fw.mp hk)
theorem pP (g:Int->PV) (ha:aA F a pe=some (aM l)) (hm:l.length<=1000) (h:∀x∈l,aA F e (st pe tg (.int x))=some (g x)) :
  aA F (.comp e tg (.val a) false c) pe=some (.lst (l.map g)):=by
 rw[iQ (items:=l.map .int) (λp=>match p with | .int k=>g k | _=>.none) (jL ha (by simp;exact aa hm (by decide))) ?_]
 ·refine O co ?_;rfl
 ·intro p hp;apply gW (fg.mp hp);intro k hk;exact h k hk
theorem HY{l:List Int}{k:Nat}(h:k<l.length) (hk:k<1000000):cX (aM l) (.int (k:Int))=some (.int (l.getD k 0)) :=
 fT (ya) (fn1 (.t .q .kS) [.y .q .kS] hk) (by refine O (dg ..) (O (dp) (O (bk h) ?_));simp[qj,h])
theorem N6{l:List Int}{k:Nat}(h:k<l.length):cX (aM l) (.int (k:Int))=if k<1000000 then some (.int (l.getD k 0)) else cX (aM l) (.int (k:Int)):=by
 by_cases hk:k<1000000
 ·exact O (if_pos hk) (HY h hk)
 ·exact O (if_neg hk) rfl
theorem kU{l:List Int}{k:Nat}(h:k<l.length) (hk:k<1000000):cX (aM l) (.int (k:Int))=some (.int (l.getD k 0)):=by
 exact O (N6 h) (O (if_pos hk) rfl)
theorem C9 (hl:l.length<=100) (k c:Nat) (hc:0<c) (Lo:c<=10):∃l':List Int,cY (aM l) (some (k:Int)) none (some (c:Int))=some (aM l')/\l'.length<=200/\∀x∈l',x∈l:=by
 refine(gE ((dK (some (k:Int)) none (some (c:Int)) (l.map PV.int).length).filterMap (l[·]?)) ?_ ?_ ?_)
 ·show(if _ then _ else _)=_;refine O (if_pos ⟨by simp;exact aa hl (by decide),by simp;exact cj (hc)⟩) ?_;congr 2;have:∀ix:List Nat,ix.filterMap ((l.map PV.int)[·]?)=(ix.filterMap (l[·]?)).map PV.int:=by
   intro ix
   induction ix with
   | nil=>rfl
   | cons a r ih =>
    refine O ex (O ex (O (dp) ?_));cases l[a]? with
    | none=>exact ih
    | some x =>
     dsimp only[bl,ak]
     exact O ih rfl
  exact this _
 ·refine aa (pr ..) ?_
  delta dK sliceRange sliceBounds
  simp only[rW,dx];have hcp:((c:Int)>0):=by exact Yr hc
  simp only[hcp,if_true]
  (refine O qr ?_;rw[if_neg (show ¬(k:Int)<0 by exact dr.mpr (ya))])
  have hA0:0<=max 0 (min (k:Int) (l.length:Int)):=by exact(Int.le_max_left _ _)
  generalize max 0 (min (k:Int) (l.length:Int))=A at *;split
  ·rename_i h;have h2:((l.length:Int)-A+(c:Int)-1)/(c:Int)<=(l.length:Int)-A+(c:Int)-1:=Int.ediv_le_self _ (fam [_] [_,_] (.l .n0 (.S (.A (.S .q .a) .r) .n1)) [.t .a .q] h);exact qm.mpr (au h2 (by exact fam [_] [_,_] (.l (.S (.A (.S .q .a) .r) .n1) (.C (.N 200))) [.x .q .jt,.x .r (.N 10),.l .n0 .a] hl Lo hA0))
  ·simp
 ·intro x hx;refine xea (Af.mp hx) λi hi he=>?_;exact ic he
namespace L2
theorem xY{F:Fn}{pe:PEnv}{l:List Int}{c:Nat}{pl:List Int}(hc:c=5\/c=7) (hl:l.length<=63) (Ld:pl.length=7) (Nj:∀x∈pl,0<=x) (h0:lk pe 0=some (aM l)) (h1:lk pe 1=some (.int (c:Int))) (h2:lk pe 2=some (.tup (pl.map .int)))
  (hs:∀v,lk (st pe 46 v) 46=some v/\lk (st pe 46 v) 0=lk pe 0/\lk (st pe 46 v) 1=lk pe 1/\lk (st pe 46 v) 2=lk pe 2/\∀u,lk (st (st pe 46 v) 47 u) 47=some u) :
  ∃nums:List Int,aA F (.comp Qf 46 (.rng1 Qu) false Qa) pe=some (aM nums)/\nums.length=c/\∀x∈nums,0<=x:=by
 have item:∀k<c,∃x:Int,0<=x/\aA F Qf (st pe 46 (.int (k:Int)))=some (.int x):=by
  intro k hk;refine gC (hs (.int (k:Int))) λq1 q2 q3 q4 q5=>?_;refine lC (C9 (l:=l) (aa hl (by decide)) k c (fn2 (.y .n0 .q) [.y .r .q] hk) (by lia)) λl' Sh Pn Vd=>?_;have Mk:aA F (.slc Qv (.var 46) Qa Qu) (st pe 46 (.int (k:Int)))=some (aM l'):=by
   simp only[aF,q1,q2,q3,h0,h1,kG,kH,Sh]
  have Jg:aA F (.comp (.bin .Mod (.var 47) (.bin .Pow (.cst (.int 10)) (.cst (.int 6)))) 47 (.val (.slc Qv (.var 46) Qa Qu)) false Qa) (st pe 46 (.int (k:Int)))=some (aM (l'.map (·%1000000))):=by
   have:=pP (F:=F) (pe:=st pe 46 (.int (k:Int))) (e:=.bin .Mod (.var 47) (.bin .Pow (.cst (.int 10)) (.cst (.int 6)))) (a:=.slc Qv (.var 46) Qa Qu) (c:=.cst .none) (tg:=47) (l:=l') (λx=>.int (x%1000000)) Mk (aa Pn (by decide)) (by
    intro x hx;have p6:dM .Pow (.int 10) (.int 6)=some (.int 1000000):=by refine O (tI _ _ (by decide)) ?_;rfl
    have m6:=cI x 1000000 (by decide);simp only[aF,q5,p6,m6])
   rw[this,aM,co];rfl
  have Nd:biF .sum [aM (l'.map (·%1000000))]=some (.int (l'.map (·%1000000)).sum):=by
   refine NT _ ?_ (by simp;exact aa Pn (by decide));refine O su (O (propext am) ?_);intro x _
   delta eW
   simp;exact⟨Ys (fj _ (by decide)),ir (eg _ (by decide)) (by decide)⟩
  have hnn:∀r:List Int,(∀x∈r,0<=x)->0<=r.sum:=by
   intro r
   induction r with
   | nil=>trivial
   | cons a r ih =>
    intro h;have:=ih λx hx=>h x (by simp[hx]);have:=h a (aj)
    dsimp only[lc];lia
  have Vu:=hnn (l'.map (·%1000000)) (by
   intro x hx;apply gW (fg.mp hx);intro y _;exact(fj _ (by decide)))
  have YZ:k<pl.length:=by lia
  have hg:cX (.tup (pl.map .int)) (.int (k:Int))=some (.int pl[k]):=UX (ya) (fn2 (.t .q .kS) [.z1 .r .n7,.y .q .r] Ld YZ) (by refine O (dg ..) (O (dp) (O (bk YZ) ?_));rfl);have hp:=Nj pl[k] (qz _);refine(iea (pl[k]+(l'.map (·%1000000)).sum) (fz2 (.l .n0 .kb) [.l .n0 .b,.l .n0 .a] Vu hp) ?_);refine EK (x:=.int pl[k]) (y:=.int (l'.map (·%1000000)).sum) ?_ ?_ (cH _ _)
  ·simp only[aF,q1,q4,h2,hg]
  ·show(match bK F (.cons _ .nil) _ with | some l=>biF .sum l | none=>none)=_;exact O (xC Jg (show bK F .nil _=some [] from rfl)) Nd
 have:∃g:Nat->Int,∀k<c,0<=g k/\aA F Qf (st pe 46 (.int (k:Int)))=some (.int (g k)):=by
  refine⟨λk=>if h:k<c then Hp (item k h) else 0,λk hk=>?_⟩;simp only[hk,↓reduceDIte];exact Gd (item k hk)
 refine xe this λg hg=>?_;clear this;refine(gE ((cv c).map g) ?_ (by simp) ?_)
 ·have:=lY (F:=F) (pe:=pe) (e:=Qf) (a:=.var 1) (c:=.cst .none) (tg:=46) (m:=c) (λk=>.int (g k)) (by trivial) (by lia) (λk hk=>(hg k hk).2);rw[this,aM,co];rfl
 ·intro x hx;apply gW (fg.mp hx);intro k hk;exact(hg k (fw.mp hk)).1
end L2
namespace L2
noncomputable def bit (x:Int):Bool:=decide (x%2=1)
def cW (x:Int):Col:=bD (x/2%256) (bN x)
def eR (x:Int):Col:=bD (x/2%256+256*(x%2)) (bN x)
section
variable{F:Fn}{pe:PEnv}{nums:List Int}{c:Nat}
theorem DA (h3:lk pe 3=some (aM nums)) (hl:nums.length<=10) (hs:∀v,lk (st pe 45 v) 45=some v):aA F (.comp (.sub (.cst (.str ("<>":Str))) (.bin .Mod (.var 45) Qc)) 45 (.val Qt) false Qa) pe=some (.lst ((nums.map bit).map mkS)):=by
 (rw[pP (l:=nums) (λx=>mkS (bit x)) (by trivial) (aa hl (by decide)) ?_];refine O co ?_)
 ·rfl
 ·intro x _;have m:=cI x 2 (by decide);simp only[aF,hs,m];have:=xh x;rcases this with h | h
  ·refine O h ?_;delta bit;refine O h ?_;rfl
  ·refine O h ?_;delta bit;refine O h ?_;rfl
theorem AZ (h3:lk pe 3=some (aM nums)) (hl:nums.length<=10) (hs:∀v,lk (st pe 44 v) 44=some v):aA F Q0s pe=some (aM (nums.map bN)):=by
 rw[pP (l:=nums) (λx=>.int (bN x)) (by trivial) (aa hl (by decide)) ?_,aM,co]
 ·rfl
 ·intro x _;have d:=dZ x 512 ⟨by decide,by decide⟩;have m:=cI (x/512) 4 (by decide);simp only[aF,hs,d,m,cH];rfl
end
variable{n:Nat}{pe:PEnv}{nums:List Int}{c:Nat}
theorem l3 (x:Int):lF (bN x)=true:=by
 rcases lW x with e | e | e | e <;> refine O e ?_ <;> decide
theorem pQ (h:k<nums.length) (h2:nums.length<=10):cX (aM (nums.map bN)) (.int (k:Int))=some (.int (bN (nums.getD k 0))):=by
 refine O (kU (by simp;omega) (by exact fn2 (.y .q .kS) [.y .q .r,.x .r (.N 10)] h h2)) ?_;simp[qj,h]
theorem A0 (h1:lk pe 1=some (.int (nums.length:Int))) (h3:lk pe 3=some (aM nums)) (h5:lk pe 5=some (aM (nums.map bN))) (hl:nums.length<=10)
  (hs:∀v,lk (st pe 43 v) 43=some v/\lk (st pe 43 v) 3=lk pe 3/\lk (st pe 43 v) 5=lk pe 5):aA (FT aI (n+1)) Q0e pe=some (.lst ((nums.map cW).map lp)):=by
 (rw[lY (m:=nums.length) (λk=>lp (cW (nums.getD k 0))) (by trivial) (aa hl (by decide)) ?_,f7 (λx=>lp (cW x))];refine O co ?_)
 ·rfl
 ·intro k hk;refine xaa (hs (.int (k:Int))) λq1 q2 q3=>?_;have g1:=kU (l:=nums) hk (fn2 (.y .q .kS) [.x .r (.N 10),.y .q .r] hl hk);have g2:=pQ (nums:=nums) hk hl;have d:=dZ (nums.getD k 0) 2 ⟨by decide,by decide⟩;have m:=cI (nums.getD k 0/2) 256 (by decide);simp only[aF,q1,q2,q3,h3,h5,g1,g2,d,m];exact pK _ _ (l3 _)
theorem xZ (h1:lk pe 1=some (.int (nums.length:Int))) (h3:lk pe 3=some (aM nums)) (h5:lk pe 5=some (aM (nums.map bN))) (hl:nums.length<=10)
  (hs:∀v,lk (st pe 42 v) 42=some v/\lk (st pe 42 v) 3=lk pe 3/\lk (st pe 42 v) 5=lk pe 5):aA (FT aI (n+1)) Q04 pe=some (.lst ((nums.map eR).map lp)):=by
 (rw[lY (m:=nums.length) (λk=>lp (eR (nums.getD k 0))) (by trivial) (aa hl (by decide)) ?_,f7 (λx=>lp (eR x))];refine O co ?_)
 ·rfl
 ·intro k hk;refine xaa (hs (.int (k:Int))) λq1 q2 q3=>?_;have g1:=kU (l:=nums) hk (fn2 (.y .q .kS) [.x .r (.N 10),.y .q .r] hl hk);have g2:=pQ (nums:=nums) hk hl;have d:=dZ (nums.getD k 0) 2 ⟨by decide,by decide⟩;have m:=cI (nums.getD k 0/2) 256 (by decide);have m2:=cI (nums.getD k 0) 2 (by decide);have p:=jX 256 (nums.getD k 0%2) (by decide);simp only[aF,q1,q2,q3,h3,h5,g1,g2,d,m,m2,p,cH];exact pK _ _ (l3 _)
noncomputable def kdL:List (List Pc):=[[],[([92,40],false)],[([92,41],false)],[([40],true)],[([41],true)],[([92,34,41],true)],[([92,92],false)],[([92,34],false)]]
theorem N7:∀kd∈kdL,KdOk kd:=by
 have h:∀kd∈kdL,(∀p∈kd,jK false p.1=false/\∀u∈uns false p.1,u≠[34])/\(∀u∈uns false (aX kd),u.length=2)/\(∀c∈aJ kd,c<97)/\(aJ kd).length<=5:=by decide +kernel
 exact λkd m=>⟨(h kd m).1,(h kd m).2.1,(h kd m).2.2.1,(h kd m).2.2.2⟩
theorem HZ:aA (FT aI n) (.list (.cons (.cst (.str ("":Str))) (.cons (.cst (.str ("\\(":Str))) (.cons (.cst (.str ("\\)":Str))) (.cons (.cst (.str ("\"(\"":Str))) (.cons (.cst (.str ("\")\"":Str))) (.cons (.cst (.str ("\"\\\")\"":Str))) (.cons (.cst (.str ("\\\\":Str))) (.cons (.cst (.str ("\\\"":Str))) .nil))))))))) pe=some (mM (kdL.map aJ)):=by
 rfl
def RS (k:Nat) (x:Int):List Pc:=if k=1\/k=3 then kdL.getD (x/2048%8).toNat [] else[]
theorem RU (k:Nat) (x:Int):KdOk (RS k x):=by
 delta RS
 split
 ·refine N7 _ ?_;have h:(x/2048%8).toNat<kdL.length:=by simp[kdL];exact(eg _ (by decide))
  simp only[qj,bk h,rW];exact qz h
 ·exact N7 [] (by simp[kdL])
def leaf (nums:List Int) (k:Nat):Tr:=.leaf k (RS k (nums.getD k 0))
theorem lt7{k:Nat}(h:k<7):k=0\/k=1\/k=2\/k=3\/k=4\/k=5\/k=6:=(by decide:∀k<7,k=0\/k=1\/k=2\/k=3\/k=4\/k=5\/k=6) k h
theorem DB (h1:lk pe 1=some (.int (nums.length:Int))) (h3:lk pe 3=some (aM nums)) (h9:lk pe 9=some (mM (kdL.map aJ))) (hl:nums.length<=7) (hn:∀x∈nums,0<=x)
  (hs:∀v,lk (st pe 41 v) 41=some v/\lk (st pe 41 v) 3=lk pe 3/\lk (st pe 41 v) 9=lk pe 9):aA F (.comp (.bin .Add (.sub (.cst (.str ("abcdefg":Str))) (.var 41)) (.ite Q0T Q0w (.cst (.str ("":Str))))) 41 (.rng1 Qu) false Qa) pe=some (.lst (((cv nums.length).map (leaf nums)).map txP)):=by
 (rw[lY (m:=nums.length) (λk=>txP (leaf nums k)) (by trivial) (aa hl (by decide)) ?_];refine O co ?_)
 ·rfl
 ·intro k hk;refine xaa (hs (.int (k:Int))) λq1 q2 q3=>?_;have g0:cX (.str ("abcdefg":Str)) (.int (k:Int))=some (.str (sx [97+k])):=by
   have:k=0\/k=1\/k=2\/k=3\/k=4\/k=5\/k=6:=lt7 (ac hk hl);rcases this with rfl | rfl | rfl | rfl | rfl | rfl | rfl <;> rfl
  have hin:bF .In (.int (k:Int)) (.tup [.int 1,.int 3])=some (decide (k=1\/k=3)):=by
   have:k=0\/k=1\/k=2\/k=3\/k=4\/k=5\/k=6:=lt7 (ac hk hl);rcases this with rfl | rfl | rfl | rfl | rfl | rfl | rfl <;> rfl
  have g1:=kU (l:=nums) hk (fn2 (.y .q .kS) [.x .r .n7,.y .q .r] hl hk);have d:=dZ (nums.getD k 0) 2048 ⟨by decide,by decide⟩;have m:=cI (nums.getD k 0/2048) 8 (by decide);simp only[aF,q1,q2,q3,h3,h9,g0,g1,d,m,hin,bl]
  delta txP leaf RS
  by_cases Po:k=1\/k=3
  ·refine O (decide_eq_true Po) (O (if_pos Po) ?_);have Im:(nums.getD k 0/2048%8).toNat<kdL.length:=by simp[kdL];exact(eg _ (by decide))
   obtain⟨kd,Xr⟩:∃kd,kdL[(nums.getD k 0/2048%8).toNat]?=some kd:=⟨_,bk Im⟩;have e:kdL.getD (nums.getD k 0/2048%8).toNat []=kd:=by rw[qj,Xr];rfl
   have g2:cX (mM (kdL.map aJ)) (.int (nums.getD k 0/2048%8))=some (.str (sx (aJ kd))):=by
    refine fT ((fj _ (by decide))) (ir (eg _ (by decide)) (by decide)) ?_;refine O (dp) (O (dp) (O Xr ?_));rfl
   have hlen:=(N7 kd (ic Xr)).len;have b1:=fQ [97+k] (aJ kd) (by simp;exact fn1 (.x (.A .n1 .q) .kv) [.x .q .n5] hlen);simp only[g2,b1];refine O e ?_;rfl
  ·refine O (decide_eq_false Po) (O (if_neg Po) ?_);simp only;refine O (show PV.str ("":Str)=.str (sx []) from rfl) (O (fQ _ _ (by simp)) ?_);rfl
end L2
namespace L2
variable{n:Nat}
theorem wN{nums:List Int}{bs:List Bool}{ls:List Col}{w:Int}{s:Nat}(X:Fr nums bs ls w s){t:Tr}(h:Ok bs t):FT aI (n+2) 15 [lp (pc ls bs t),.int w]=some (mkS (mkT bs t)):=by
 have Rd:=X.w0;have Nl:=X.w1;have Mj:seg ls t≠[]:=C8 X.ll h;have Mv:∀u∈seg ls t,Lt 1024 u:=λu hu=>X.lt u (rn (ro hu));refine mW (FE X h) λa1 a2 a3 a4 a5 a6=>?_;have:=AN (n:=n) (w:=w) (a:=(pc ls bs t).1) (b:=(pc ls bs t).2.1) (c:=(pc ls bs t).2.2) ⟨by exact yd Rd a1,by exact yc Nl a2⟩ ⟨by exact yd Rd a3,by exact yc Nl a4⟩ ⟨by exact yd Rd a5,by exact yc Nl a6⟩;have pm:fS (pc ls bs t).1 (pc ls bs t).2.1 (pc ls bs t).2.2=decide (Mine.pts (seg bs t)%3=1):=uC Mv Mj;rw[pm] at this;exact this
theorem A1 (x:Int):Lt 1024 (cW x)/\cO (cW x)=cW x/\eR x=if bit x then opp (cW x) else cW x:=by
 refine xaa (AU (p:=x/2%256) (s:=bN x) ((fj _ (by decide))) ((eg _ (by decide))) (lW x)) λh1 h2 h3=>?_;refine(iaa h1 h2 ?_)
 delta eR cW bit
 have:=xh x;rcases this with h | h
 ·refine O h (O (if_neg (by decide)) ?_);congr 1;exact fz1 (.e (.A .a (.M (.N 256) .n0)) .a) []
 ·refine O h (O (if_pos (by decide)) (XO h3 ?_));congr 1
theorem H1 (x:Int):f6 [cW x] [bit x]=eR x:=by
 refine xaa (A1 x) λaT h2 h3=>?_;clear aT;have hs:cJ [cW x]=cW x:=by
  simp only[C1,pN];refine tu ?_ (tu ?_ ?_) <;> simp
 delta f6
 refine O hs (O h2 (O h3 ?_));cases bit x
 ·(rw[if_pos (by decide)];exact O (if_neg (by decide)) rfl)
 ·(rw[if_neg (by decide)];exact O (if_pos (by decide)) rfl)
def ts0 (nums:List Int):List Tr:=(cv nums.length).map (leaf nums)
theorem rG (nums:List Int):(ts0 nums).length=nums.length:=by simp[ts0]
theorem N8 (nums:List Int):∀t∈ts0 nums,Ok (nums.map bit) t:=by
 intro t ht;apply gW (fg.mp ht);intro k hk;exact .leaf (by simpa using hk) (RU _ _)
theorem qI (nums:List Int):∀(m i:Nat),Chain i ((List.range' i m).map (leaf nums)) (i+m)
 | 0,i=>rfl
 | m+1,i=>by
  refine O List.range'_succ (O ak ⟨rfl,?_⟩);have:=qI nums m (i+1);rw[show i+1+m=i+(m+1) by exact Yw] at this;exact this
theorem H2 (nums:List Int):Chain 0 (ts0 nums) (nums.map bit).length:=by
 have:=qI nums nums.length 0;rw[<- List.range_eq_range',mz] at this;exact O (dx ..) this
theorem RX (nums:List Int) (s:Nat):lB s (ts0 nums)=0:=by
 delta lB ts0
 refine O co ?_;have:∀l:List Nat,(l.map (Tr.dep s ∘ leaf nums)).sum=0:=by
  intro l
  induction l with
  | nil=>rfl
  | cons a l ih=>refine O ak (O lc (O ih ?_));rfl
 exact this _
theorem RY (nums:List Int) (hk:k<nums.length):pc (nums.map cW) (nums.map bit) (leaf nums k)=eR (nums.getD k 0):=by
 delta pc leaf
 refine O (seg_leaf (by simpa using hk)) (O (seg_leaf (by simpa using hk)) (XO (H1 ..) ?_));congr 2 <;> simp[qj,hk]
theorem FG (nums:List Int) (hk:k<nums.length):mkT (nums.map bit) (leaf nums k)=bit (nums.getD k 0):=by
 delta mkT leaf
 refine O (seg_leaf (by simpa using hk)) ?_;have:(nums.map bit)[k]'(by simpa using hk)=bit (nums.getD k 0):=by simp[qj,hk]
 refine O this ?_;cases bit (nums.getD k 0) <;> rfl
theorem A2 (nums:List Int):(nums.map eR).map lp=(ts0 nums).map λt=>lp (pc (nums.map cW) (nums.map bit) t):=by
 refine O co ?_;have:=f7 (λx=>lp (eR x)) nums;refine O (show(lp ∘ eR)=λx=>lp (eR x) from rfl) (XO this ?_)
 delta ts0
 refine O co (ei λk hk=>?_);rw[fw] at hk;simp only[pt,RY nums hk]
theorem wO (nums:List Int):(nums.map bit).map mkS=(ts0 nums).map λt=>mkS (mkT (nums.map bit) t):=by
 refine O co ?_;have:=f7 (λx=>mkS (bit x)) nums;refine O (show(mkS ∘ bit)=λx=>mkS (bit x) from rfl) (XO this ?_)
 delta ts0
 refine O co (ei λk hk=>?_);rw[fw] at hk;simp only[pt,FG nums hk]
theorem RZ (nums:List Int):(ts0 nums).map (mkT (nums.map bit))=nums.map bit:=by
 have:=f7 bit nums;refine Dr ?_ this
 delta ts0
 refine O co (ei λk hk=>?_);rw[fw] at hk;exact FG nums hk
noncomputable def rH (nums:List Int):Int:=nums.getD 0 0/2048%15*8192
theorem frame (hl:nums.length<=7) (hn:∀x∈nums,0<=x) (hs:s<nums.length):Fr nums (nums.map bit) (nums.map cW) (rH nums) s where
 c7:=by simpa using hl
 nl:=by simp
 ll:=by simp
 n0:=hn
 lt:=by
  intro t ht;apply gW (fg.mp ht);intro x _;exact(A1 x).1
 w0:=by delta rH;exact fz1 (.l .n0 (.M .a (.N 8192))) [.L 8192 .n0 .a] (fj _ (by decide))
 w1:=by delta rH;exact fz1 (.l (.M .a (.N 8192)) .j9) [.T 8192 .a (.N 15)] (eg _ (by decide))
 sp:=by simpa using hs
section
variable{pe:PEnv}{nums:List Int}
theorem DC (h3:lk pe 3=some (aM nums)) (h:0<nums.length):aA F Q0r pe=some (.int (rH nums)):=by
 have g:=kU (l:=nums) (k:=0) h (by decide);rw[show((0:Nat):Int)=0 from rfl] at g;have d:=dZ (nums.getD 0 0) 2048 ⟨by decide,by decide⟩;have m:=cI (nums.getD 0 0/2048) 15 (by decide);have p:dM .Pow (.int 2) (.int 13)=some (.int 8192):=by refine O (tI _ _ (by decide)) ?_;rfl
 have q:=jX (nums.getD 0 0/2048%15) 8192 (by delta lF;simp;exact⟨fz1 (.t (.G (.N 4611686018427387904)) .a) [.l .n0 .a] (fj _ (by decide)),ir (eg _ (by decide)) (by decide)⟩);simp only[aF,h3,g,d,m,p,q];rfl
theorem DD{bs:List Bool}{ls:List Col}{w:Int}{s:Nat}(X:Fr nums bs ls w s){ts:List Tr}(Jb:∀t∈ts,Ok bs t) (hl:ts.length<=100) (h7:lk pe 7=some (.lst (ts.map λt=>lp (pc ls bs t)))) (h8:lk pe 8=some (.int w))
  (hs:∀v,lk (st pe 40 v) 40=some v/\lk (st pe 40 v) 8=lk pe 8):aA (FT aI (n+2)) Q0N pe=some (.lst (ts.map λt=>mkS (mkT bs t))):=by
 rw[iQ (items:=ts.map λt=>lp (pc ls bs t)) (λp=>match FT aI (n+2) 15 [p,.int w] with | some r=>r | none=>.none) (jL (by simp only[aF,h7]) (by simp;exact aa hl (by decide))) ?_]
 ·congr 2;refine O co (ei λt ht=>?_);simp only[pt,wN X (Jb t ht)]
 ·intro p hp;apply gW (fg.mp hp);intro t ht;refine xa (hs (lp (pc ls bs t))) λq1 q2=>?_;simp only[aF,q1,q2,h8,wN X (Jb t ht)]
theorem DE{bs:List Bool}{r:List Int}(Mg:lk pe 11=some (.lst (bs.map mkS))) (hl:bs.length<=100) (hr:toks 999 (j8 bs)=some r):aA (FT aI (n+1)) (.call 10 (.cons (.me .join (.cst (.str ("":Str))) Q0m) .nil)) pe=some (aM r):=by
 have j:=t7 bs (aa hl (by decide));have Lk:FT aI (n+1) 10 [.str (sx (j8 bs))]=some (aM r):=by
  refine O (NR ..) ?_;exact tM hr (by simp[j8];exact aa hl (by decide))
 refine O (show PV.str ("":Str)=.str (sx []) from rfl) ?_;simp only[aF,Mg,j,Lk]
end
end L2
namespace L2
variable{n:Nat}
theorem FH{bs:List Bool}{s:Nat}{t:Tr}(ht:Ok bs t):(s<t.f\/t.l<=s)->t.dep s=0:=by
 induction ht with
 | leaf=>intro _;rfl
 | node ha hb h hm iha ihb =>
  intro hs;have l1:=ha.lt;have l2:=hb.lt;simp only[f_l,f_n,l_l,l_n] at hs;simp only[AV];exact O (if_neg λq=>hs.elim (wb q.1) (Ck q.2)) (O (iha (hs.imp id λq=>aa (da (h ▸ l2.1)) q)) (O (ihb (hs.imp (λq=>iz q (h ▸ l1.1)) id)) rfl))
theorem A3{bs:List Bool}(hb:bs.length<=20){s:Nat}:∀{ts:List Tr}{i j:Nat},(∀t∈ts,Ok bs t)->Chain i ts j->(s<i\/j<=s)->lB s ts=0
 | [],_,_,_,_,_=>rfl
 | t::ts,i,j,Jb,h,hs=>by
  refine xa h λh1 h2=>?_;clear h;have ht:=Jb t (by exact aj);have l:=ht.lt;have Kf:=(j9 hb (λu hu=>Jb u (by simp[hu])) h2).2.2.2.1;have e:lB s (t::ts)=t.dep s+lB s ts:=by rfl
  exact O e (O (FH ht (hs.imp (λq=>h1.symm ▸ q) (aa Kf))) (O (A3 hb (λu hu=>Jb u (by simp[hu])) h2 (hs.imp (λq=>iz (h1.symm ▸ q) l.1) id)) rfl))
theorem qJ{bs:List Bool}(hb:bs.length<=20){s:Nat}:∀{ts:List Tr}{i j:Nat},(∀t∈ts,Ok bs t)->Chain i ts j->i<=s->s<j ->
  ∃A B,dA ts=A++(([97+s],false):Pc)::B/\(∀o,par o (uns false (aX A))=some (o+lB s ts))/\97+s∉aJ A/\97+s∉aJ B
 | [],i,j,_,h,h1,h2=>by
  have h:i=j:=h;exact absurd (gy h1 h2) (h ▸ ii _)
 | t::ts,i,j,Jb,h,h1,h2=>by
  refine xa h λh3 h4=>?_;clear h;have ht:=Jb t (by exact aj);have l:=ht.lt;have Si:∀u∈ts,Ok bs u:=λu hu=>Jb u (by simp[hu]);refine qR (j9 hb Si h4) λq1 q2 q3 q4 q5 q6 q7=>?_;have e:dA (t::ts)=t.pcs++dA ts:=by rfl
  have ed:lB s (t::ts)=t.dep s+lB s ts:=by rfl
  refine O e (O ed ?_)
  by_cases hs:s<t.l
  ·refine cC (HN hb ht (by exact fn3 (.x .q .r) [.x .s .r,.z1 .q .s] h1 h3) hs) λA B e1 p1 a1 b1=>?_;refine(bW A (B++dA ts) (by refine O e1 ?_;simp) (λo=>?_) a1 ?_)
   ·(refine O (p1 ..) (O (A3 hb Si h4 (.inl hs)) ?_);rw[Bo])
   ·exact O (b7 ..) (O (propext cb) (O (propext not_or) ⟨b1,λhc=>(q2 _ hc).elim (wb (iv 97 s)) λh=>Ck hs (Nat.le_of_add_le_add_left h.1)⟩))
  ·refine cC (qJ hb Si h4 ((av.mp hs)) h2) λA B e1 p1 a1 b1=>?_;refine(bW (t.pcs++A) B (by refine O e1 ?_;simp) (λo=>?_) ?_ b1)
   ·(refine O (fF ..) (O (d8 _ _ (eV (ht.pcsOk hb)).1) (O (gA ..) ?_));rw[uH hb ht])
    simp only[nu];refine O (p1 ..) (O (FH ht (.inr (av.mp hs))) ?_);congr 1;exact fn2 (.z1 .ko (.A .q (.A .n0 .r))) []
   ·exact O (b7 ..) (O (propext cb) (O (propext not_or) ⟨λhc=>(ht.low _ hc).elim (wb (iv 97 s)) λh=>hs (Nat.lt_of_add_lt_add_left h.2),a1⟩))
theorem mJ (h:PcsOk l) (hl:LastOk last) (hlen:(aJ l).length+last.length<=1000) (ha:∀c∈aJ l,c<128) (Za:∀c∈last,c<128) :
  FT aI (n+2) 9 [.str (sx (aJ l++last))]=some (.bool (tS (aX l++last))):=by
 have Ky:∀(l:List Pc),(∀c∈aX l,c∈aJ l)/\(aX l).length<=(aJ l).length:=by
  intro l
  induction l with
  | nil=>trivial
  | cons p l ih =>
   obtain⟨s,b⟩:=p;cases b
   ·simp only[cL,cM,cN,bS,bT,bU,cb,cw];exact⟨λc hc=>hc.imp id (ih.1 c),by exact Yv ih.2⟩
   ·simp only[cL,cM,cN,bS,bT,bU,cb,cw];exact⟨λc hc=>.inr (ih.1 c hc),by exact YO ih.2⟩
 refine xa (Ky l) λb1 b2=>?_;refine O (U2 ..) ?_;refine G5 (r:=aX l++last) ?_ (by simp;exact fn3 (.x .ko .jk) [.x (.A .s .r) .kj,.x .q .s] hlen b2) ?_
 ·refine O (NW ..) (XO (v8 h hl) ?_);refine v7 (by simp;exact aa hlen (by decide)) ?_;refine O (propext am) ?_;intro c hc;simp only[decide_eq_true_eq];rcases cb.mp hc with hc | hc
  ·exact ha c hc
  ·exact Za c hc
 ·refine O (propext am) ?_;intro c hc;simp only[decide_eq_true_eq];rcases cb.mp hc with hc | hc
  ·exact ha c (b1 c hc)
  ·exact Za c hc
theorem pR:∀(d:Nat) (r:List Nat),uns false (af d 41++r)=af d [41]++uns false r
 | 0,r=>rfl
 | d+1,r=>by
  (refine O cy (O bf ?_);rw[fU (by decide)];exact O (pR d r) (O cy (O bf rfl)))
theorem uK:∀(d o:Nat) (us:List (List Nat)),par (o+d) (af d [41]++us)=par o us
 | 0,o,us=>rfl
 | d+1,o,us=>by
  exact O cy (O bf (O (show o+(d+1)=(o+d)+1 by exact fn2 (.z1 .kO (.A .ko .n1)) []) (O (wH ..) (O (uK d o us) rfl))))
theorem U5 (hs:s<20) (hA:PcsOk A) (hp:par 0 (uns false (aX A))=some d) (hlen:(aJ A).length<=300) (hd:d<=300) (ha:∀c∈aJ A,c<128) :
  FT aI (n+2) 9 [.str (sx (aJ A++[97+s]))]=some (.bool (d==0))/\FT aI (n+2) 9 [.str (sx (aJ A++[97+s]++af d 41))]=some (.bool true) /\
  FT aI (n+2) 9 [.str (sx (aJ A++[97+s]++af d 41++[41,40]))]=some (.bool false)/\FT aI (n+2) 9 [.str (sx (aJ A++[97+s]++af d 41++[34,41]))]=some (.bool false):=by
 have Zb:=eV hA;have Xs:∀c∈af d 41,c<128:=λc hc=>by rw[Ak] at hc;exact fn1 (.y .q (.N 128)) [.z1 .q (.N 41)] hc.2
 have Om:∀r:List Nat,(∀c∈r,c<128)->∀c∈([97+s]++af d 41++r),c<128:=by
  intro r hr c hc;simp only[cb,ax,iw,or_false] at hc;rcases hc with (rfl | hc) | hc
  ·exact fn1 (.y .ks (.N 128)) [.y .q (.N 20)] hs
  ·exact Xs c hc
  ·exact hr c hc
 have run:∀r:List Nat,par 0 (uns false (aX A++([97+s]++af d 41++r)))=par 0 (uns false r):=by
  intro r;refine O (d8 _ _ Zb.1) (O (gA ..) (O hp ?_));simp only[nu]
  (refine O (cg ..) (O bf (O (eb ..) ?_));rw[fU (by exact cj (yr))];refine O (nR ..) (O (pR ..) ?_))
  have:=uK d 0 (uns false r);rw[mz] at this;exact this
 have okr:∀r:List Nat,(∀u∈uns false r,u≠[34])->∀u∈uns false ([97+s]++af d 41++r),u≠[34]:=by
  intro r hr u hu;rw[cg,bf,eb,fU (by exact cj (yr)),pR] at hu;simp only[ax,cb,Ak] at hu;rcases hu with rfl | ⟨-,rfl⟩ | hu
  ·intro e;simp at e;exact absurd (fn1 (.T 63 .n0 .n0) [.z1 .ks (.N 34)] e) (gn _)
  ·decide
  ·exact hr u hu
 refine(cS ?_ ?_ ?_ ?_)
 ·have h:=mJ (n:=n) (l:=A) (last:=[97+s]) hA (.inl (by intro u hu;rw[fU (by lia)] at hu;simp[mR,mS,mT,mU] at hu;subst hu;intro e;simp at e;exact absurd (fn1 (.T 63 .n0 .n0) [.z1 .ks (.N 34)] e) (gn _))) (by simp;exact aa hlen (by decide)) ha (by simp;exact fn1 (.y .ks (.N 128)) [.y .q (.N 20)] hs);refine O h ?_;congr 2
  delta tS
  refine O (d8 _ _ Zb.1) (O (gA ..) (O hp ?_));simp only[nu]
  (rw[fU (by lia)];refine O (nR ..) ?_)
  show(some d==some 0)=_;rfl
 ·have h:=mJ (n:=n) (l:=A) (last:=[97+s]++af d 41++[]) hA (.inl (okr [] (by trivial))) (by simp;exact fn2 (.x .kO .kj) [.x .q (.N 300),.x .r (.N 300)] hlen hd) ha (Om [] (by trivial));rw[fy] at h;refine O (cg ..) (O h ?_)
  delta tS
  have:=run [];rw[fy] at this;refine O this ?_;rfl
 ·have h:=mJ (n:=n) (l:=A) (last:=[97+s]++af d 41++[41,40]) hA (.inl (okr [41,40] (by trivial))) (by simp;exact yv hlen hd) ha (Om [41,40] (by trivial))
  (refine O (cg ..) (O (cg ..) ?_);rw[<- cg [97+s]];refine O h ?_)
  delta tS
  refine O (run ..) ?_;rfl
 ·have Ld:Pl ([97+s]++af d 41):=by
   refine⟨?_,?_⟩
   ·refine O (lR ..) ?_;have:jK false [97+s]=false:=by simp[nK,nL,nM];lia
    refine O this ?_;have:∀m:Nat,jK false (af m 41)=false:=by
     intro m
     induction m with
     | zero=>rfl
     | succ m ih=>exact O cy ih
    exact this d
   ·have:=okr [] (by trivial);rw[fy] at this;exact this
  have h:=mJ (n:=n) (l:=A) (last:=[97+s]++af d 41++[34,41]) hA (.inr (bE ([97+s]++af d 41) ([41]) rfl Ld (by trivial))) (by simp;exact yv hlen hd) ha (Om [34,41] (by trivial))
  (refine O (cg ..) (O (cg ..) ?_);rw[<- cg [97+s]];refine O h ?_)
  delta tS
  refine O (run ..) ?_;rfl
end L2
namespace L2
variable{n:Nat}{pe:PEnv}
theorem WS (bs:List Bool):(bs.map λb:Bool=>if b then[46,46] else[46]).flatten=af (pts bs) 46:=by
 induction bs with
 | nil=>rfl
 | cons b l ih =>
  refine O ak (O mw (O ih ?_));have e:pts (b::l)=pts [b]+pts l:=by refine XO (rD ..) ?_;rfl
  refine O e ?_;cases b
  ·show[46]++_=_;refine O (show pts [false]=1 from rfl) (O (Br ..) (O cy ?_));rfl
  ·show[46,46]++_=_;refine O (show pts [true]=2 from rfl) (O (Br ..) (O cy (O cy ?_)));rfl
theorem N9 (bs:List Bool):pts bs<=2*bs.length:=by
 have:bs.countP (·==false)+bs.countP (·==true)=bs.length:=by
  induction bs with
  | nil=>rfl
  | cons b l ih=>cases b <;> simp[ux] at*<;> lia
 delta pts;exact fn3 (.x (.A .q .jP) (.M .n2 .s)) [.Z 2 .ko .s] this
noncomputable def gU (m:Nat):List Int:=af (m/3) 52++af (m%3) 23
theorem H3{F:Fn}{bs:List Bool}(h4:lk pe 4=some (.lst (bs.map mkS))):aA F (.bin .Add (.me .count Q0k (.cons (.cst (.str ("<":Str))) .nil)) (.bin .Mult Qc (.me .count Q0k (.cons (.cst (.str (">":Str))) .nil)))) pe=some (.int (pts bs:Int)):=by
 refine O (show PV.str ("<":Str)=mkS false from rfl) (O (show PV.str (">":Str)=mkS true from rfl) ?_);have c1:=uA false bs;have c2:=uA true bs;have m:=jX 2 ((bs.countP (·==true):Nat):Int) (by decide);simp only[aF,h4,c1,c2,m,cH]
 delta pts
 congr 2
theorem A4{bs:List Bool}(hl:bs.length<=7) (Mg:lk pe 11=some (.lst (bs.map mkS))) (hs:∀v,lk (st pe 39 v) 39=some v):aA (FT aI (n+1)) (.call 10 (.cons (.me .join (.cst (.str ("":Str))) (.cons (.comp (.ite (.cmp .Eq (.var 39) (.cst (.str ("<":Str)))) (.cst (.str (".":Str))) (.cst (.str ("..":Str)))) 39 (.val Q0U) false Qa) .nil)) .nil)) pe=some (aM (gU (pts bs))):=by
 have Jg:aA (FT aI (n+1)) (.comp (.ite (.cmp .Eq (.var 39) (.cst (.str ("<":Str)))) (.cst (.str (".":Str))) (.cst (.str ("..":Str)))) 39 (.val Q0U) false Qa) pe=some (mM (bs.map λb:Bool=>if b then[46,46] else[46])):=by
  rw[iQ (items:=bs.map mkS) (λp=>match bF .Eq p (mkS false) with | some true=>.str (sx [46]) | _=>.str (sx [46,46])) (jL (by trivial) (by simp;exact aa hl (by decide))) ?_]
  ·congr 1
   delta mM
   refine O co (O co ?_);congr 1;refine ei λb _=>?_;simp only[pt,AQ];cases b <;> rfl
  ·intro p hp;apply gW (fg.mp hp);intro b hb;refine O (show PV.str ("<":Str)=mkS false from rfl) ?_;simp only[aF,hs,AQ,bl];cases b <;> rfl
 have Nd:((bs.map λb:Bool=>if b then[46,46] else[46]).map fo).sum=pts bs:=by
  have:=congrArg fo (WS bs);rw[zy,List.length_replicate] at this;exact this
 have Ld:=N9 bs;have j:=lP [] (bs.map λb:Bool=>if b then[46,46] else[46]) (by refine O Nd ?_;simp;exact fn2 (.x .q .kv) [.X 2 .r .n7,.x .q .jP] hl Ld);rw[hV,WS] at j;have hp:FF (pts bs)=true:=am.mp HX _ (by exact O (propext fw) (fn2 (.y .q (.N 15)) [.X 2 .r .n7,.x .q .jP] hl Ld));have Lk:FT aI (n+1) 10 [.str (sx (af (pts bs) 46))]=some (aM (gU (pts bs))):=by
  refine O (NR ..) ?_;exact tM (eq_of_beq hp) (by simp;exact fn2 (.x .q .kj) [.X 2 .r .n7,.x .q .jP] hl Ld)
 refine O (show PV.str ("":Str)=.str (sx []) from rfl) ?_;simp only[aF] at Jg ⊢;refine O Jg ?_;simp only[j,Lk]
theorem OA (k:Nat) (x:Int):(af k [PV.int x]).flatten=(af k x).map PV.int:=by
 induction k with
 | zero=>rfl
 | succ k ih=>refine O cy (O mw (O ih (O cy ?_)));rfl
theorem S0 (x:Int) (k:Nat) (h:k<1000):dM .Mult (.lst [.int x]) (.int (k:Int))=some (aM (af k x)):=by
 rw[MD,OM,if_pos (iaa (by exact ta _) (by exact fn1 (.t .q .kj) [.y .q .kj] h) (by exact fn1 (.t (.G .kj) .q) [])),dg,OA];rfl
theorem DF{F:Fn}{m:Nat}(hm:m<=14) (h13:lk pe 13=some (.int (m:Int))) (Xt:lk pe 14=some (aM (gU m))):aA F Q07 pe=some (.bool false):=by
 have d:=dZ (m:Int) 3 ⟨by decide,by decide⟩;have r:=cI (m:Int) 3 (by decide);have m1:=S0 52 (m/3) (fn2 (.Y 3 .q .kj) [.x .r (.N 14),.x (.M .n3 .q) .r] hm (Ei _ _));have m2:=S0 23 (m%3) (ac (tm _ (show 0<3 by decide)) (by decide));rw[show((m/3:Nat):Int)=(m:Int)/3 by exact ca (fam [_] [_,_] (.L 3 .q .a) [.t .r (.A (.M .n3 .a) .n3),.x (.M .n3 .q) .r] (Int.lt_mul_ediv_self_add (show(0:Int)<3 by decide)) (Ei _ _)) (fam [_] [_,_] (.L 3 .a .q) [.l (.M .n3 .a) .r,.y .r (.M .n3 .kc)] (Int.mul_ediv_self_le (show(3:Int)≠0 by decide)) (Nat.lt_mul_div_succ _ (show 0<3 by decide)))] at m1;rw[show((m%3:Nat):Int)=(m:Int)%3 by lia] at m2;have a:=iM ((af (m/3) (52:Int)).map .int) ((af (m%3) (23:Int)).map .int) (by simp;exact fn3 (.x .ko .kv) [.x .s (.N 14),.z1 (.A (.M .n3 .q) .r) .s] hm (ry _ _));have e:PV.lst ((af (m/3) (52:Int)).map .int++(af (m%3) (23:Int)).map .int)=aM (gU m):=by
  delta aM gU;exact O di rfl
 rw[e] at a;have ne:bF .NotEq (aM (gU m)) (aM (gU m))=some false:=kT (rC (λ_=>rfl) _) (λx h=>by cases h);simp only[aF,h13,Xt,d,r,bl,m1,m2]
 delta aM at a ne ⊢
 simp only[a,ne,bl]
noncomputable def dB (nums:List Int):Nat:=(nums.getD 2 0/2048%(nums.length:Int)).toNat
theorem H4 (hl:3<=nums.length) (h1:lk pe 1=some (.int (nums.length:Int))) (h3:lk pe 3=some (aM nums)):aA F Q0M pe=some (.int (dB nums:Int)):=by
 have g:=kU (l:=nums) (k:=2) (fn1 (.y .n2 .q) [.x .n3 .q] hl) (by decide);rw[show((2:Nat):Int)=2 from rfl] at g;have d:=dZ (nums.getD 2 0) 2048 ⟨by decide,by decide⟩;have m:=cI (nums.getD 2 0/2048) (nums.length:Int) (Yf hl);simp only[aF,h1,h3,g,d,m]
 delta dB
 have:=fj (nums.getD 2 0/2048) (b:=(nums.length:Int)) (ew (Yf hl));exact O (bt this) rfl
theorem oY (hl:3<=nums.length):dB nums<nums.length:=by
 delta dB
 have h1:=fj (nums.getD 2 0/2048) (b:=(nums.length:Int)) (ew (Yf hl));have h2:=eg (nums.getD 2 0/2048) (b:=(nums.length:Int)) (Yf hl);exact fam [_] [_,_] (.y .q .r) [.t .a .r,.e .q .a] h2 (bt (faz [_] (.l .n0 .a) [.l .n0 .a] h1))
def l5 (x:Int):Col:=bD (x/2%256+256*(1-x%2)) (bN x)
theorem A5{nums:List Int}{s:Nat}(hl:nums.length<=7) (hs:s<nums.length) (h3:lk pe 3=some (aM nums)) (h5:lk pe 5=some (aM (nums.map bN))) (Sf:lk pe 15=some (.int (s:Int))) :
  aA (FT aI (n+1)) Q06 pe=some (lp (l5 (nums.getD s 0))):=by
 have g1:=kU (l:=nums) hs (fn2 (.y .q .kS) [.x .r .n7,.y .q .r] hl hs);have g2:=pQ (nums:=nums) hs (aa hl (by decide));have d:=dZ (nums.getD s 0) 2 ⟨by decide,by decide⟩;have m:=cI (nums.getD s 0/2) 256 (by decide);have m2:=cI (nums.getD s 0) 2 (by decide);have p:=jX 256 (1-nums.getD s 0%2) (by decide);simp only[aF,h3,h5,Sf,g1,g2,d,m,m2,p,cH,lL];exact pK _ _ (l3 _)
theorem OB (x:Int):∃m:Int,(eR x).1+(l5 x).1=m/\(eR x).2.1+(l5 x).2.1=m/\(eR x).2.2+(l5 x).2.2=m:=by
 refine xaa (AU (p:=x/2%256) (s:=bN x) ((fj _ (show(256:Int)≠0 by decide))) ((eg _ (show(0:Int)<256 by decide))) (lW x)) λh1 h2 h3=>?_;obtain⟨m,e⟩:∃m,opp (bD (x/2%256) (bN x))=(m-(bD (x/2%256) (bN x)).1,m-(bD (x/2%256) (bN x)).2.1,m-(bD (x/2%256) (bN x)).2.2):=⟨_,rfl⟩;refine⟨m,?_⟩
 delta eR l5
 have:=xh x;rcases this with h | h
 ·refine O h (O (show x/2%256+256*0=x/2%256 by exact fz1 (.e (.A .a (.M (.N 256) .n0)) .a) []) (O (show x/2%256+256*(1-0)=x/2%256+256 by exact fz1 (.e (.A .a (.M (.N 256) (.S .n1 .n0))) (.A .a (.N 256))) []) (O h3 (O e ?_))));refine(iaa ?_ ?_ ?_) <;> simp only <;> exact fz2 (.e (.A .a (.S .b .a)) .b) []
 ·refine O h (O (show x/2%256+256*1=x/2%256+256 by exact fz1 (.e (.A .a (.M (.N 256) .n1)) (.A .a (.N 256))) []) (O (show x/2%256+256*(1-1)=x/2%256 by exact fz1 (.e (.A .a (.M (.N 256) .jw)) .a) []) (O h3 (O e ?_))));refine(iaa ?_ ?_ ?_) <;> simp only <;> exact fz2 (.e (.A .ka .b) .a) []
theorem XG (hw:0<=w) (Nl:w<=114688) (Md:way=0\/way=1):FT aI (n+3) 16 [lp (eR x),lp (l5 x),.int w,.int way]=some (aM [0,0,0]):=by
 refine lC (OB x) λm e1 e2 e3=>?_;have Mf:b9 [m,m,m]=m:=by rcases(wD m m m).2.2.2 with e | e | e <;> exact e
 have Un:bJ [m,m,m]=m:=by rcases(oT m m m).2.2.2 with e | e | e <;> exact e
 have:=t6 (n:=n) (a:=(eR x).1) (b:=(eR x).2.1) (c:=(eR x).2.2) (a':=(l5 x).1) (b':=(l5 x).2.1) (c':=(l5 x).2.2) (w:=w) (way:=way) hw Md (by exact O e1 (O e2 (O e3 (O Mf (O Un (fz2 (.l (.A .a (.S .b .b)) .kY) [.l .a .j9] Nl))))));rw[e1,e2,e3,Mf,ov] at this;exact this
theorem uZ{nums:List Int}{s:Nat}{w:Int}{CO:PV}(hw:0<=w) (Nl:w<=114688) (h7:lk pe 7=some CO) (g:cX CO (.int (s:Int))=some (lp (eR (nums.getD s 0)))) (h8:lk pe 8=some (.int w)) (Sf:lk pe 15=some (.int (s:Int))) (h16:lk pe 16=some (lp (l5 (nums.getD s 0))))
  (hs:∀v,lk (st pe 38 v) 38=some v/\lk (st pe 38 v) 7=lk pe 7/\lk (st pe 38 v) 8=lk pe 8/\lk (st pe 38 v) 15=lk pe 15/\lk (st pe 38 v) 16=lk pe 16) :
  aA (FT aI (n+3)) (.cmp .NotEq Qn Qr) pe=some (.bool false):=by
 have item:∀way:Int,way=0\/way=1->aA (FT aI (n+3)) (.call 16 (.cons (.sub Q0l (.var 15)) (.cons (.var 16) (.cons (.var 8) (.cons (.var 38) .nil))))) (st pe 38 (.int way))=some (aM [0,0,0]):=by
  intro way Md;refine gC (hs (.int way)) λq1 q2 q3 q4 q5=>?_;have e:=XG (n:=n) (x:=nums.getD s 0) hw Nl Md;simp only[aF,q1,q2,q3,q4,q5,h7,h8,Sf,h16,g,e]
 have hc:aA (FT aI (n+3)) Qn pe=some (.lst [aM [0,0,0],aM [0,0,0]]):=by
  have hd:fH (FT aI (n+3)) (.val (.tup (.cons Qd (.cons Qb .nil)))) pe=some [.int 0,.int 1]:=rfl;simp only[aF,hd,l7 (item 0 (.inl rfl)) (l7 (l:=[]) (item 1 (.inr rfl)) rfl),bl]
 have hr:aA (FT aI (n+3)) Qr pe=some (.lst [aM [0,0,0],aM [0,0,0]]):=rfl;have ne:bF .NotEq (.lst [aM [0,0,0],aM [0,0,0]]) (.lst [aM [0,0,0],aM [0,0,0]])=some false:=kT (by rfl) (λx h=>by cases h);show(match aA (FT aI (n+3)) Qn pe,aA (FT aI (n+3)) Qr pe with | some x,some y=>(bF .NotEq x y).map PV.bool | _,_=>none)=_;refine O hc (O hr ?_);rfl
theorem H5 (Xt:lk pe 14=some (aM (gU m))):aA F Q0V pe=some (.int ((m%3:Nat):Int)):=by
 have c:=HG 23 (gU m);have e:(gU m).countP (·==23)=m%3:=by
  delta gU
  refine O Aj (O xn (O xn ?_));simp
 rw[e] at c;simp only[aF,Xt,c]
theorem DG{bs:List Bool}{r:List Int}(hl:bs.length<=7) (hr:toks 999 (j8 bs)=some r) (h1:lk pe 1=some (.int (bs.length:Int))) (Xu:lk pe 12=some (aM r)) (Xv:lk pe 28=some (.int ((pts bs%3:Nat):Int))) :
  aA (FT aI (n+1)) Q0j pe=some (.int (oW bs:Int)):=by
 have Pv:=FA hl;unfold xS at Pv;rw[hr] at Pv;have Pv:=eq_of_beq Pv;have n1:=t9 33 r;have n2:=t9 34 r;have e:=E8 (n:=n) ((pts bs%3:Nat):Int);simp only[aF,h1,Xu,Xv,n1,n2,e,bl]
 delta oW
 refine XO Pv ?_;cases Zc:r.contains 33
 ·cases Ry:r.contains 34
  ·rfl
  ·simp only[Eg,Ab,Bool.false_or,if_true]
   by_cases h0:pts bs%3=0
   ·refine O h0 (O (if_pos rfl) ?_);rfl
   ·refine O (if_neg h0) ?_;have:(((pts bs%3:Nat):Int)==0)=false:=by simp;lia
    refine O this ?_;rfl
 ·simp only[Ab,Bool.true_or,if_true]
  by_cases h0:pts bs%3=0
  ·refine O h0 (O (if_pos rfl) ?_);rfl
  ·refine O (if_neg h0) ?_;have:(((pts bs%3:Nat):Int)==0)=false:=by simp;lia
   refine O this ?_;rfl
theorem x4 (Mg:lk pe 11=some (.lst l)) (hl:l.length=f) (hf:f<=1000) (Vl:lk pe 29=some (.int (f:Int))) (h4:lk pe 4=some D) (Xh:F 18 [D]=some (.int (f:Int))):aA F Q0y pe=some (.bool false):=by
 have b:biF .len [.lst l]=some (.int (f:Int)):=by
  show(if _ then _ else _)=_;exact O (if_pos (by exact fn2 (.x .q .kv) [.z1 .q .r,.x .r .kj] hl hf)) (O hl rfl)
 have c:bF .NotEq (.int (f:Int)) (.int (f:Int))=some false:=by refine O (rA ..) ?_;simp
 simp only[aF,Mg,Vl,h4,b,Xh,c,bl]
theorem OC{f m:Nat}{ms:List PV}(Vl:lk pe 29=some (.int (f:Int))) (Xv:lk pe 28=some (.int ((m%3:Nat):Int))) (Mg:lk pe 11=some (.lst ms)) (h:f=1->ms=[mkS (decide (m%3=2))]):aA (FT aI (n+1)) (.and (.cmp .Eq (.var 29) Qb) (.cmp .NotEq Q0U (.list (.cons (.ite (.call 2 (.cons (.bin .Sub (.var 28) Qc) .nil)) (.cst (.str (">":Str))) (.cst (.str ("<":Str)))) .nil)))) pe=some (.bool false):=by
 refine O (show PV.str ("<":Str)=mkS false from rfl) (O (show PV.str (">":Str)=mkS true from rfl) ?_)
 by_cases hf:f=1
 ·have hms:=h hf;subst hms;subst hf;have e:=E8 (n:=n) (((m%3:Nat):Int)-2);have e2:((((m%3:Nat):Int)-2)==0)=decide (m%3=2):=by
   refine O (propext qd) ?_;simp;lia
  rw[e2] at e;have ne:∀q:Bool,bF .NotEq (.lst [mkS q]) (.lst [mkS q])=some false:=λq=>kT (by rfl) (λx h=>by cases h);have c1:bF .Eq (.int ((1:Nat):Int)) (.int 1)=some true:=rfl;simp only[aF,Vl,Xv,Mg,lL,e,c1,bl];cases decide (m%3=2)
  ·rfl
  ·rfl
 ·have c1:bF .Eq (.int (f:Int)) (.int 1)=some false:=by refine O (xG ..) ?_;congr 1;simp;lia
  simp only[aF,Vl,c1,bl]
theorem DH (Sk:lk pe 10=some (.lst (ts.map txP))) (hl:(aJ (dA ts)).length<=1000):aA F (.me .join (.cst (.str ("":Str))) (.cons (.var 10) .nil)) pe=some (.str (sx (aJ (dA ts)))):=by
 have e:(ts.map λt=>aJ t.pcs).flatten=aJ (dA ts):=by
  clear hl Sk
  induction ts with
  | nil=>rfl
  | cons t r ih =>
   refine O ak (O mw (O ih ?_));have:dA (t::r)=t.pcs++dA r:=by rfl
   exact O this (O (b7 ..) rfl)
 have hs:((ts.map λt=>aJ t.pcs).map fo).sum<=1000:=by
  have:=congrArg fo e;rw[zy] at this;exact fn2 (.x .q .kj) [.x .r .kj,.z1 .q .r] hl this
 have j:=lP [] (ts.map λt=>aJ t.pcs) (by simp only[mr,Ft];exact fn1 (.x (.A .q .n0) .kv) [.x .q .kj] hs);rw[hV,e] at j;refine O (show PV.str ("":Str)=.str (sx []) from rfl) ?_;have e2:mM (ts.map λt=>aJ t.pcs)=.lst (ts.map txP):=by delta mM;refine O co ?_;rfl
 rw[e2] at j;simp only[aF,Sk,j]
theorem H6{F:Fn}{W M:PV}{bs:List Bool}(Xw:lk pe 30=some W) (Mg:lk pe 11=some M) (h4:lk pe 4=some (.lst (bs.map mkS))) (h:F 19 [W,M]=some (.lst (bs.map mkS))):aA F (.cmp .NotEq (.call 19 (.cons (.var 30) Q0m)) Q0k) pe=some (.bool false):=by
 have ne:bF .NotEq (.lst (bs.map mkS)) (.lst (bs.map mkS))=some false:=kT (rC (λ_=>rfl) _) (λx h=>by cases h);simp only[aF,Xw,Mg,h4,h,ne,bl]
theorem DI{F:Fn}{X Y:List Nat}{s:Nat}(hs:s<7) (hX:97+s∉X) (hY:97+s∉Y) (hl:(X++(97+s)::Y).length<=1000) (Xw:lk pe 30=some (.str (sx (X++(97+s)::Y)))) (Sf:lk pe 15=some (.int (s:Int))) :
  aA F (.slc (.var 30) Qa (.bin .Add (.me .index (.var 30) (.cons (.sub (.cst (.str ("abcdefg":Str))) (.var 15)) .nil)) Qb) Qa) pe=some (.str (sx (X++[97+s]))):=by
 have g0:cX (.str ("abcdefg":Str)) (.int (s:Int))=some (.str (sx [97+s])):=by
  have:s=0\/s=1\/s=2\/s=3\/s=4\/s=5\/s=6:=lt7 hs;rcases this with rfl | rfl | rfl | rfl | rfl | rfl | rfl <;> rfl
 have ix:=Q9 hX hY (aa hl (by decide));have u:=CP (X++(97+s)::Y) ((X.length:Int)+1) (fn1 (.l .n0 .kc) []) (aa hl (by decide));have e:(X++(97+s)::Y).take ((X.length:Int)+1).toNat=X++[97+s]:=by
  exact O (show((X.length:Int)+1).toNat=X.length+1 by exact az (fn2 (.x .q .ke) [.e .q .ke] (bt (fan [_] (.l .n0 .kc) []))) (fn2 (.x .kc .r) [.e .kc .r] (bt (fan [_] (.l .n0 .kc) [])).symm)) (O (show X++(97+s)::Y=(X++[97+s])++Y by simp) (O (show X.length+1=(X++[97+s]).length by simp) (O tt rfl)))
 rw[e] at u;simp only[aF,Xw,Sf,g0,ix,cH,kG,kH,u]
theorem WT (c d:Nat) (h:d<1000):dM .Mult (.str (sx [c])) (.int (d:Int))=some (.str (sx (af d c))):=by
 rw[ME,OL,if_pos (iaa (by exact O (iO ..) (ta _)) (by exact fn1 (.t .q .kj) [.y .q .kj] h) (by exact fn1 (.t (.G .kj) .q) [])),dg,lM];have:(af d [c]).flatten=af d c:=by
  clear h
  induction d with
  | zero=>rfl
  | succ d ih=>rw[cy,mw,ih,cy];rfl
 rw[this];rfl
theorem A6{F:Fn}{X:List Nat}{d:Nat}(hd:d<300) (hl:X.length<=1000) (Xx:lk pe 31=some (.str (sx X))) (Lj:lk pe 17=some (.int (d:Int))):aA F (.bin .Add (.var 31) (.bin .Mult (.cst (.str (")":Str))) (.var 17))) pe=some (.str (sx (X++af d 41))):=by
 have m:=WT 41 d (ac hd (by decide));have a:=fQ X (af d 41) (by simp;exact fn2 (.x .ko .kv) [.y .r (.N 300),.x .q .kj] hd hl);rw[show(")":Str)=sx [41] from rfl]
 simp only[aF,Xx,Lj,m,a]
end L2
end Mine
end
section
open PySem PySem.W PyProof.Rows
set_option maxRecDepth 100000
namespace Mine
namespace L2
def FI (bs:List Bool):Bool:=match FT aI 5 18 [.lst (bs.map mkS)] with
 | some (.int m)=>m==(oW bs:Int)
 | _=>false
theorem XH (a b:Bool):((t8 3).all λl=>FI (a::b::l))=true:=by cases a <;> cases b <;> decide +kernel
set_option maxHeartbeats 0 in
theorem XI (a b c d:Bool):((t8 3).all λl=>FI (a::b::c::d::l))=true:=by cases a <;> cases b <;> cases c <;> cases d <;> decide +kernel
theorem kA{α:Type}{l:List α}{n:Nat}(h:l.length=n+1):∃a r,l=a::r/\r.length=n:=by
 cases l with
 | nil=>cases h
 | cons a r=>exact⟨a,r,rfl,sr h⟩
theorem B2{bs:List Bool}(h:bs.length=5\/bs.length=7):FI bs=true:=by
 rcases h with h | h
 ·apply wQ (kA h);intro a r h;apply wQ (kA h);intro b r h;exact am.mp (XH a b) _ (h ▸ iR r)
 ·apply wQ (kA h);intro a r h;apply wQ (kA h);intro b r h;apply wQ (kA h);intro c r h;apply wQ (kA h);intro d r h;exact am.mp (XI a b c d) _ (h ▸ iR r)
end L2
end Mine
end
section
open PySem PySem.W PyProof.Rows
namespace Mine
namespace L2
set_option tactic.hygienic true in
theorem uL:∀{l:List PV}{r:List Int},cT l=some r->l=r.map .int
 | [],r,h=>by simp[yO,yP] at h;subst h;rfl
 | p::l,r,h=>by
  dsimp only[yO,yP] at h
  split at h
  ·rename_i x y h1 h2;cases h;refine O ak (XO (uL h2) ?_);cases p <;> simp[yN] at h1;subst h1;rfl
  ·cases h
set_option tactic.hygienic true in
theorem DJ{bs:List Bool}(h:bs.length=5\/bs.length=7):∃r,toks 999 (j8 bs)=some r/\FT aI 5 11 [.lst (bs.map mkS)]=some (aM r):=by
 have hs:rF bs=true:=by
  rcases h with h | h
  ·exact am.mp RP bs (h ▸ iR bs)
  ·exact am.mp RQ bs (h ▸ iR bs)
 delta rF at hs
 revert hs;cases toks 999 (j8 bs) with
 | none=>exact nf
 | some r=>cases FT aI 5 11 [.lst (bs.map mkS)] with
  | none=>exact nf
  | some p=>cases p with
   | lst l=>exact λhs=>iea r rfl (O (uL (eq_of_beq hs)) rfl)
   | _=>exact nf
set_option tactic.hygienic true in
theorem H7{bs:List Bool}(h:bs.length=5\/bs.length=7):FT aI 5 18 [.lst (bs.map mkS)]=some (.int (oW bs:Int)):=by
 have hs:=B2 h;unfold FI at hs;revert hs;cases FT aI 5 18 [.lst (bs.map mkS)] with
 | none=>exact nf
 | some p=>cases p with
  | int m=>exact λhs=>congrArg (λn=>some (PV.int n)) (eq_of_beq hs)
  | _=>exact nf
section
variable{F:Fn}{pe:PEnv}
theorem DK (hl:l.length<=63) (h0:lk pe 0=some (aM l)):aA F Q0C pe=some (.int ((if l.length<6 then 5 else 7:Nat):Int)):=by
 have b:biF .len [aM l]=some (.int (l.length:Int)):=by
  show(if (l.map PV.int).length<=100000 then some (PV.int ((l.map PV.int).length:Int)) else none)=_;exact O (dx ..) (O (if_pos (by exact aa hl (by decide))) rfl)
 simp only[aF,h0,b,xF,bl]
 by_cases h:l.length<6
 ·have:decide ((l.length:Int)<6)=true:=by simp;exact fn1 (.t .q .n6) [.y .q .n6] h
  refine O this (O (if_pos h) ?_);rfl
 ·have:decide ((l.length:Int)<6)=false:=by simp;exact fn1 (.l .n6 .q) [.x .n6 .q] (av.mp h)
  refine O this (O (if_neg h) ?_);rfl
theorem u4{M S:PV}{bs:List Bool}{r:List Int}(Mg:lk pe 11=some (.lst (bs.map mkS))) (h4:lk pe 4=some (.lst (bs.map mkS))) (Xu:lk pe 12=some (aM r)) (h:F 11 [.lst (bs.map mkS)]=some (aM r)):aA F Q0F pe=some (.bool false):=by
 have ne1:bF .NotEq (.lst (bs.map mkS)) (.lst (bs.map mkS))=some false:=kT (rC (λ_=>rfl) _) (λx h=>by cases h);have ne2:bF .NotEq (aM r) (aM r)=some false:=kT (rC (λ_=>rfl) _) (λx h=>by cases h);simp only[aF,Mg,h4,Xu,h,ne1,ne2,bl]
theorem DM (hl:nums.length<=10) (h1:lk pe 1=some (.int (nums.length:Int))) (hs:∀v,lk (st pe 37 v) 37=some v):aA F Q0B pe=some (.lst ((ts0 nums).map spP)):=by
 rw[lY (m:=nums.length) (λk=>spP (leaf nums k)) (by trivial) (by exact aa hl (by decide)) ?_]
 ·delta ts0
  refine O co ?_;rfl
 ·intro k hk;simp only[aF,hs,cH,bl];rfl
theorem kW (Zc:lk pe 33=some (.str (sx x))) (Ry:lk pe 34=some (.bool b)) (h:F 9 [.str (sx x)]=some (.bool b)):aA F Q0S pe=some (.bool false):=by
 have c:bF .IsNot (.bool b) (.bool b)=some false:=by
  show some (!(b==b))=_;rw[beq_self_eq_true];rfl
 simp only[aF,Zc,Ry,h,c,bl]
theorem H8{x y:List Nat}{d:Nat}(hy:y.length<=1000) (Xx:lk pe 31=some (.str (sx x))) (h32:lk pe 32=some (.str (sx y))) (Lj:lk pe 17=some (.int (d:Int))) :
  fH F (.val (.tup (.cons Q0O (.cons Q0Q (.cons (.tup (.cons (.bin .Add (.var 32) (.cst (.str (")(":Str)))) Q0A)) (.cons (.tup (.cons (.bin .Add (.var 32) (.cst (.str ("\")":Str)))) Q0A)) .nil)))))) pe=some [.tup [.str (sx x),.bool (d==0)],.tup [.str (sx y),.bool true],.tup [.str (sx (y++[41,40])),.bool false],.tup [.str (sx (y++[34,41])),.bool false]]:=by
 have a1:=fQ y [41,40] (by simp;exact aa hy (by decide));have a2:=fQ y [34,41] (by simp;lia);have c:bF .Eq (.int (d:Int)) (.int 0)=some (d==0):=by
  rw[xG];congr 1;rw[qd];simp
 rw[show(")(":Str)=sx [41,40] from rfl,show("\")":Str)=sx [34,41] from rfl]
 simp only[aF,Xx,h32,Lj,a1,a2,c,bl,r8,r9];rfl
end
theorem math (l:List Int) (hl:l.length<=63):FT aI 6 20 [.lst (l.map .int)]=some (.bool true):=by
 refine O (ft 5 20 EN _ rfl) ?_;apply iL rfl;show fV (aE _ EN.code [some (aM l),none,none,none,none,none,none,none,none,none,none,none,none,none,none,none,none,none,none,none,none,none,none,none,none,none,none,none,none,none,none,none,none,none,none,none,none,none,none,none,none,none,none,none,none,none,none,none])=_
 delta EN
 refine aR (asg (DK hl rfl)) ?_
 dsimp only[aY,aZ]
 have hc:(if l.length<6 then 5 else 7:Nat)=5\/(if l.length<6 then 5 else 7:Nat)=7:=by split <;> simp
 generalize (if l.length<6 then 5 else 7:Nat)=c at *;refine aR (asg (p:=.tup ([19344,8193,7678,2122,1777,641,300].map .int)) rfl) ?_
 dsimp only[aY,aZ]
 refine lC (xY (F:=FT aI 5) (pl:=[19344,8193,7678,2122,1777,641,300]) (l:=l) (c:=c) (pe:=[some (aM l),some (.int (c:Int)),some (.tup ([19344,8193,7678,2122,1777,641,300].map .int)),none,none,none,none,none,none,none,none,none,none,none,none,none,none,none,none,none,none,none,none,none,none,none,none,none,none,none,none,none,none,none,none,none,none,none,none,none,none,none,none,none,none,none,none,none]) hc hl rfl (by simp) rfl rfl rfl (λv=>(gF rfl rfl rfl rfl (λu=>rfl)))) λnums hn1 hn2 Zd=>?_;refine aR (asg hn1) ?_
 dsimp only[aY,aZ]
 subst hn2;have h7:nums.length<=7:=by lia
 have h3:3<=nums.length:=by lia
 refine aR (asg (DA (nums:=nums) rfl (by exact aa h7 (by decide)) (λv=>rfl))) ?_
 dsimp only[aY,aZ]
 refine aR (asg (AZ (nums:=nums) rfl (by lia) (λv=>rfl))) ?_
 dsimp only[aY,aZ]
 refine aR (asg (A0 (n:=4) (nums:=nums) rfl rfl rfl (by lia) (λv=>(iaa rfl rfl rfl)))) ?_
 dsimp only[aY,aZ]
 refine aR (asg (xZ (n:=4) (nums:=nums) rfl rfl rfl (by lia) (λv=>(iaa rfl rfl rfl)))) ?_
 dsimp only[aY,aZ]
 refine aR (asg (DC (nums:=nums) rfl (by exact fn1 (.Y 3 .n0 .q) [.x .n3 .q] h3))) ?_
 dsimp only[aY,aZ]
 refine aR (asg HZ) ?_
 dsimp only[aY,aZ]
 refine aR (asg (DB (nums:=nums) rfl rfl rfl (by exact h7) Zd (λv=>(iaa rfl rfl rfl)))) ?_
 dsimp only[aY,aZ]
 have X:=frame (s:=dB nums) h7 Zd (oY h3);have Ko:(nums.map bit).length=nums.length:=by simp
 refine O (A2 ..) ?_;refine aR (asg (DD (n:=3) X (N8 nums) (by refine O (rG ..) ?_;exact aa h7 (by decide)) rfl rfl (λv=>⟨rfl,rfl⟩))) ?_
 dsimp only[aY,aZ]
 refine XO (wO ..) ?_;refine xea (DJ (bs:=nums.map bit) (by refine O Ko ?_;exact hc)) λr Ze hr2=>?_;refine aR (asg (DE (n:=4) (bs:=nums.map bit) rfl (by refine O Ko ?_;lia) Ze)) ?_
 dsimp only[aY,aZ]
 refine b8 (u4 (M:=.none) (S:=.none) rfl rfl rfl hr2) ?_;refine aR (asg (H3 (bs:=nums.map bit) rfl)) ?_
 dsimp only[aY,aZ]
 refine aR (asg (A4 (n:=4) (bs:=nums.map bit) (by refine O Ko ?_;lia) rfl (λv=>rfl))) ?_
 dsimp only[aY,aZ]
 have Ld:=N9 (nums.map bit);rw[Ko] at Ld;refine b8 (DF (m:=pts (nums.map bit)) (by exact fn2 (.x .q (.N 14)) [.X 2 .r .n7,.x .q .jP] h7 Ld) rfl rfl) ?_;refine aR (asg (H4 (nums:=nums) h3 rfl rfl)) ?_
 dsimp only[aY,aZ]
 refine aR (asg (A5 (n:=4) (nums:=nums) h7 (oY h3) rfl rfl rfl)) ?_
 dsimp only[aY,aZ]
 have hgc:cX (.lst ((ts0 nums).map λt=>lp (pc (nums.map cW) (nums.map bit) t))) (.int (dB nums:Int))=some (lp (eR (nums.getD (dB nums) 0))):=by
  refine XO (A2 ..) ?_;have:=oY h3;refine fT (by exact ya) (by exact fn2 (.t .q .kS) [.x .r .n7,.y .q .r] h7 this) ?_;refine O (dg ..) (O (dp) (O (dp) (O (bk this) ?_)));simp[qj,this]
 refine b8 (uZ (n:=2) (nums:=nums) X.w0 X.w1 rfl hgc rfl rfl rfl (λv=>(gF rfl rfl rfl rfl rfl))) ?_;refine aR (asg (p:=.int 0) rfl) ?_
 dsimp only[aY,aZ]
 refine aR (asg (DM (nums:=nums) (by lia) rfl (λv=>rfl))) ?_
 dsimp only[aY,aZ]
 refine bI (wM X ⟨some (aM l),some (.int (nums.length:Int)),some (.tup ([19344,8193,7678,2122,1777,641,300].map .int)),some (aM (nums.map bN)),some (mM (kdL.map aJ)),some (aM r),some (.int (pts (nums.map bit):Int)),some (aM (gU (pts (nums.map bit)))),some (lp (l5 (nums.getD (dB nums) 0)))⟩
  (cv (nums.length-1)) (ts0 nums) 0 ⟨none,none,none,none,none,none,none,none,none⟩ (λi hi=>by rw[fw] at hi;exact fn4 (.y .q .r) [.z1 .s .r,.y .q .t,.z1 (.A .t .n1) .s] Ko.symm hi (ae (fan [_] (.X 3 .n1 .q) [.x .n3 .q] h3))) (N8 nums) (H2 nums) (by refine O (rG ..) ?_;exact ce Ko.symm) (by refine O (rG ..) ?_;exact fn1 (.X 3 .n1 .q) [.x .n3 .q] h3) (by refine O (rG ..) (O qr ?_);exact ce (ae (fan [_] (.X 3 .n1 .q) [.x .n3 .q] h3)).symm)) λts d x Kq Jb Ju zt=>?_;refine gC zt λKf h1 Kz Mh Uv=>?_;clear zt
 rw[RX,Bo,mz] at Uv;subst Uv;rw[RZ] at Mh;have Sj:∀pe,lk pe 1=some (.int (nums.length:Int))->fH (FT aI 5) (.rng1 (.bin .Sub Qu Qb)) pe=some ((cv (nums.length-1)).map λi:Nat=>PV.int (i:Int)):=by
  intro pe h;have h':aA (FT aI 5) (.bin .Sub Qu Qb) pe=some (.int ((nums.length-1:Nat):Int)):=by
   simp only[aF,h,lL];exact O (show((nums.length-1:Nat):Int)=(nums.length:Int)-1 by exact ca (Yn (ae (fan [_] (.X 3 .n1 .q) [.x .n3 .q] h3))) (Ym (ae (fan [_] (.X 3 .n1 .q) [.x .n3 .q] h3)).symm)) rfl
  exact t5 h' (by exact fn2 (.x .q .kv) [.x .r .n7,.z1 .kc .r] h7 (ae (fan [_] (.X 3 .n1 .q) [.x .n3 .q] h3)))
 dsimp only[env] at Kq
 rw[<- wO nums] at Kq;refine aR (L7 (Sj _ rfl) Kq) ?_;refine aR (asg (H5 rfl)) ?_
 dsimp only[aY,aZ]
 refine aR (asg (DG (n:=4) (bs:=nums.map bit) (by exact fn2 (.x .q .n7) [.x .r .n7,.z1 .q .r] h7 Ko) Ze (by refine O Ko ?_;rfl) rfl rfl)) ?_
 dsimp only[aY,aZ]
 have hfN:oW (ts.map (mkT (nums.map bit)))=ts.length:=by delta oW;refine O Kz ?_;simp
 rw[hfN] at Mh;refine b8 (x4 (f:=oW (nums.map bit)) rfl (by refine O (dx ..) ?_;exact Mh) (by exact fn4 (.x .q .kj) [.x .r .n7,.z1 .s .r,.x .t .s,.z1 .q .t] h7 Ko Kf Mh.symm) rfl rfl (H7 (by refine O Ko ?_;exact hc))) ?_;refine b8 (OC (n:=4) (f:=oW (nums.map bit)) (m:=pts (nums.map bit)) rfl rfl rfl ?_) ?_
 ·intro Xq;have:ts.length=1:=by exact az (fn2 (.x .q .n1) [.z1 .q .r,.z1 .r .n1] Mh Xq) (h1)
  refine xe (ly.mp this) λt aT=>?_;subst aT;refine xa Ju λc1 c2=>?_;clear Ju;have c2:t.l=(nums.map bit).length:=c2;have Uw:seg (nums.map bit) t=nums.map bit:=by
   delta seg
   exact O c1 (O c2 (O zk (O ni rfl)))
  have hp:=(Jb t (by simp)).pts;rw[Uw] at hp;simp only[ak,gp]
  delta mkT
  refine O Uw ?_;rcases hp with h | h
  ·refine O h ?_;rfl
  ·refine O h ?_;rfl
 refine qR (j9 (by exact fn2 (.x .q (.N 20)) [.x .r .n7,.z1 .q .r] h7 Ko) Jb Ju) λq1 q2 q3 q4 q5 q6 q7=>?_;refine aR (asg (DH (ts:=ts) rfl (by exact fn4 (.x .q .kj) [.X 8 .r .n7,.Z 8 .s .r,.x .q (.M .n8 .t),.Z 8 (.A .t .n0) .s] h7 Ko q3 (ae (fan [_] (.x .n0 .q) []))))) ?_
 dsimp only[aY,aZ]
 refine b8 (H6 (bs:=nums.map bit) rfl rfl rfl (NX (n:=3) (by lia) Jb Ju (by exact fn3 (.x .q (.N 20)) [.x .r .n7,.z1 .s .r,.x .q .s] h7 Ko Kf))) ?_;refine cC (qJ (s:=dB nums) (by lia) Jb Ju (iq _) (by refine O Ko ?_;exact oY h3)) λA B eAB Ux hA hB=>?_;have Mk:=oY h3;have Kg:aJ (dA ts)=aJ A++(97+dB nums)::aJ B:=by refine O eAB (O (b7 ..) ?_);rfl
 have Xy:PcsOk A:=λp hp=>q1 p (by refine O eAB ?_;simp[hp]);have Lp:(aJ A).length+(aJ B).length+1<=100:=by
  have:=congrArg fo Kg;simp only[cw,db] at this;exact fn6 (.x (.A .ko .n1) .jt) [.X 8 .s .n7,.Z 8 .t .s,.x .u (.M .n8 .v),.z1 .kO .u,.Z 8 (.A .v .n0) .t] h7 Ko q3 this.symm (ae (fan [_] (.x .n0 .q) []))
 refine O Kg ?_;refine aR (asg (DI (X:=aJ A) (Y:=aJ B) (s:=dB nums) (by exact ac Mk h7) hA hB (by simp;exact fn2 (.x .kO .kj) [.x (.A .ko .n1) .jt] Lp) rfl rfl)) ?_
 dsimp only[aY,aZ]
 have Tk:lB (dB nums) ts<=100:=by
  have h0:=Ux 0;rw[mz] at h0;have key:∀(us:List (List Nat)) (o o':Nat),par o us=some o'->o'<=o+us.length:=by
   intro us
   induction us with
   | nil=>intro o o' h;simp[SL,tR] at h;exact fn3 (.x .q .k5) [.z1 .q .r] h.symm
   | cons u us ih =>
    intro o o' h
    dsimp only[SL,tR] at h
    split at h
    ·have:=ih _ _ h;simp;exact yw this
    ·split at h
     ·split at h
      ·cases h
      ·have:=ih _ _ h;simp;exact fn4 (.x .q (.A .r .kL)) [.x .q (.A .t .s),.x .t .r] this (wg _ _)
     ·have:=ih _ _ h;simp;exact fn3 (.x .q (.A .r .kL)) [.x .q .k5] this
  have h1:=key _ _ _ h0;have h2:(uns false (aX A)).length<=(aX A).length+1:=by
   refine XO (dE (aX A) 0 false) (O (dx ..) ?_);exact mE _ 0 false
  have h3:(aX A).length<=(aJ A).length:=by
   have:∀l:List Pc,(aX l).length<=(aJ l).length:=by
    intro l
    induction l with
    | nil=>simp[cL,cM,cN]
    | cons p l ih =>
     obtain⟨s,b⟩:=p;cases b
     ·simp only[cL,cM,cN,bS,bT,bU,cw];exact Yv ih
     ·simp only[cL,cM,cN,bS,bT,bU,cw];exact YO ih
   exact this A
  exact fn5 (.x .q .jt) [.x (.A .k5 .n1) .jt,.x .q (.A .n0 .t),.x .t (.A .u .n1),.x .u .r] Lp h1 h2 h3
 refine aR (asg (A6 (X:=aJ A++[97+dB nums]) (d:=lB (dB nums) ts) (by exact gy Tk (by decide)) (by simp;exact fn2 (.x .q (.N 999)) [.x (.A .ko .n1) .jt] Lp) rfl rfl)) ?_
 dsimp only[aY,aZ]
 have Uy:∀c∈aJ A,c<128:=by
  intro c hcA;rcases q2 c (by refine O Kg ?_;simp[hcA]) with h | h <;> lia
 have Nj:=Ux 0;rw[mz] at Nj;refine aP (U5 (n:=3) (A:=A) (s:=dB nums) (d:=lB (dB nums) ts) (by exact fn2 (.y .q (.N 20)) [.x .r .n7,.y .q .r] h7 Mk) Xy Nj (by exact fn2 (.x .q (.N 300)) [.x (.A .ko .n1) .jt] Lp) (by exact aa Tk (by decide)) Uy) λf1 f2 f3 f4=>?_;refine aR (L7 (H8 (x:=aJ A++[97+dB nums]) (y:=aJ A++[97+dB nums]++af (lB (dB nums) ts) 41) (d:=lB (dB nums) ts) (by simp;exact fn3 (.x .kO .kj) [.x (.A (.A .q .s) .n1) .jt,.x .r .jt] Lp Tk) rfl rfl rfl)
  (cB rfl (aG (cA (kW rfl rfl f1) bG)) (cB rfl (aG (cA (kW rfl rfl f2) bG)) (cB rfl (aG (cA (kW rfl rfl f3) bG)) (cB rfl (aG (cA (kW rfl rfl f4) bG)) xL))))) ?_
 exact dU rfl
end L2
def x5 (pars:List Str) (p:Fb):Bool :=
 p.posonlyargs.isEmpty&&p.args.map (·.arg)==pars&&p.vararg.isNone&&p.kwonlyargs.isEmpty&&p.kwarg.isNone&&cU pars
theorem A7{α β:Type}{f g:α->Option β}:∀{l:List α},(∀x∈l,f x=g x)->l.filterMap f=l.filterMap g
 | [],_=>rfl
 | a::l,h=>by
  exact O ex (O ex (O (h a (by exact aj)) (O (A7 λx hx=>h x (by simp[hx])) rfl)))
theorem u5{α β:Type}(x:α) (f:α->Sem β):(Gq x).bind f=f x:=rfl
theorem yA:notAStandIn Ec=Gq ():=rfl
theorem DN:∀{pars:List Str}{vs:List ag},vs.length=pars.length->cU pars=true ->
  ((pars.filter λn=>((pars.zip vs).lookup n).isNone)=[])/\(pars.filterMap λn=>((pars.zip vs).lookup n).map (n,·))=pars.zip vs:=by
 intro pars vs hl hn;have key:∀n∈pars,∃v,(pars.zip vs).lookup n=some v:=by
  clear hn
  induction pars generalizing vs with
  | nil=>simp
  | cons p pars ih =>
   cases vs with
   | nil=>trivial
   | cons v vs =>
    intro n hm
    dsimp only[ny,dk]
    split
    ·exact⟨_,rfl⟩
    ·rename_i Io;rcases ax.mp hm with h | h
     ·subst h;simp at Io
     ·exact ih (by simpa using hl) n h
 refine⟨?_,?_⟩
 ·refine O (propext List.filter_eq_nil_iff) ?_;intro n hm;refine xe (key n hm) λv hv=>?_;simp[hv]
 ·clear key
  induction pars generalizing vs with
  | nil=>simp
  | cons p pars ih =>
   cases vs with
   | nil=>trivial
   | cons v vs =>
    simp only[jO,ay,dq,fm,decide_eq_false_iff_not] at hn;refine O ny (O ex ?_);simp only[dk,beq_self_eq_true,bl];congr 1;have:=ih (vs:=vs) (by simpa using hl) hn.2;refine Dr ?_ this;refine A7 λn hm=>?_;have:(n==p)=false:=by
     refine O (propext beq_eq_false_iff_ne) ?_;intro e;subst e;exact hn.1 hm
    simp only[this]
theorem uM (hb:x5 pars params=true) (hv:vs.length=pars.length) :
  bindArgs (dv name params body sc pm cd doc) ⟨vs,[]⟩=dw (pars.zip vs):=by
 obtain⟨p1,p2,p3,p4,p5,p6,p7⟩:=params;simp only[x5,ay,List.isEmpty_iff,Option.isNone_iff_eq_none] at hb;obtain⟨⟨⟨⟨⟨h1,h2⟩,h3⟩,h4⟩,h5⟩,h6⟩:=hb;subst h1 h3 h4 h5;have h2:=eq_of_beq h2;subst h2;refine xa (DN hv h6) λz1 z2=>?_
 delta bindArgs dv
 dsimp only[gp,eb,fy,seqItems?,u5,yA,bind,pure,qt,iu,Ac,mr,Nat.sub_zero,Option.isNone_none,Option.isNone,Bool.and_true,Al,Bh]
 refine(if_neg ?_).trans ?_
 ·refine O hv ?_;simp
 refine(if_neg ?_).trans ?_
 ·intro q;rw[Ac] at q;exact Bool.noConfusion ((congrArg (λl:List Str=>!l.isEmpty) ((congrArg (List.filter _) (ni (l:=Aw (λx=>x.arg) p2))).trans z1)).symm.trans q)
 exact O Ac (O Al (congrArg Gq ((congrArg (List.filterMap _) (fy _)).trans z2)))
end Mine
end
section
open PySem PySem.W PyProof.Rows PySem.W.X
namespace Mine
noncomputable def WU:ag->ag->Bool
 | .builtin i,.builtin j=>i==j
 | .type i,.type j=>i==j
 | _,_=>false
theorem R0:∀{u v:ag},WU u v=true->u=v:=by
 intro u v h;cases u with
 | builtin i=>cases v with
  | builtin j=>exact congrArg ag.builtin (eq_of_beq h)
  | _=>exact nf h
 | type i=>cases v with
  | type j=>exact congrArg ag.type (eq_of_beq h)
  | _=>exact nf h
 | _=>exact nf h
theorem H9 (h:R6 b o=true):∃t,o=some (.float b t)/\t≠0:=by
 cases o with
 | none=>exact nf h
 | some v=>cases v with
  | float c t=>exact⟨t,congrArg (λc=>some (oi c t)) (eq_of_beq (aB h).1),λe=>by have:=(aB h).2;rw[e] at this;exact nf this⟩
  | _=>exact nf h
section
theorem A8{h:li}{a:er}{o:Obj}{es:Array Ex}{ep:Nat}{dl:List (Str × Int)}(ha:(a==sysModules)=false) (ho:h.get? a=some o) (he:o.ExactDict) (hd:o.data=.dict es ep)
  (hn:cU (dl.map (·.1))=true) (hE:EntP W0.params es.toList dl):PlainDictS h a (dl.map λx=>(x.1,SV.i x.2)):=by
 have key:∀(es:List Ex) (dl:List (Str × Int)),EntP W0.params es dl->∃Ij:List (Str × ag),(∀e∈es,∃k,(strKind Pg W0).is k e.key=true/\e.hash=(strKind Pg W0).hash k)/\Pairs (strKind Pg W0) es Ij /\
   Ij.map (·.1)=dl.map (·.1)/\KVR Ij (dl.map λx=>(x.1,SV.i x.2)):=by
  intro es
  induction es with
  | nil =>
   intro dl h;cases dl with
   | nil=>exact(fK ([]) (by simp) .nil rfl .nil)
   | cons x l=>cases h
  | cons e es ih =>
   intro dl h;cases dl with
   | nil=>cases h
   | cons x l =>
    obtain⟨k,n⟩:=x;obtain⟨⟨t,h1⟩,h2,⟨u,h3⟩,h4⟩:=h;refine bV (ih l h4) λIj q1 q2 q3 q4=>?_;refine(fK ((k,e.val)::Ij) ?_ (.cons (by exact O h1 (strKind_is Pg W0 k t)) rfl q2) (by simp[q3]) (by refine O h3 ?_;exact .cons (.i n u) q4));intro e' hm;rcases ax.mp hm with rfl | hm
    ·exact(iea k (by exact O h1 (strKind_is Pg W0 k t)) h2)
    ·exact q1 e' hm
 refine bV (key es.toList dl hE) λIj q1 q2 q3 q4=>?_;refine(o4 ha Ij (dF o es ep ho he hd (λe hm=>q1 e (by simpa using hm)) ⟨q2,?_⟩) q4);refine O q3 ?_;clear q3 q2 q1 q4 hE key;generalize dl.map (·.1)=l at *
 induction l with
 | nil=>exact .nil
 | cons x l ih =>
  simp only[jO,ay,dq,fm,decide_eq_false_iff_not] at hn;exact List.nodup_cons.mpr ⟨hn.1,ih hn.2⟩
noncomputable def OD (x:Str):Bool :=
 !startupNames.contains x&&!Lw.contains x&&!((recsOf Vw).map (·.name)).contains x&&!((litsOf Vw).map (·.1)).contains x&&!((clssOf Vw Lw).map (·.name)).contains x&&!(x==("__name__":Str))
def A9 (x:Str) (v:ag):Bool:=OD x&&(match bootBuiltins x with | some u=>WU u v | none=>false)
def WV:Str × G->Bool
 | (x,.bi b)=>A9 x (biV b)
 | (x,.rng)=>A9 x (.type "range")
 | (x,.enum)=>A9 x (.type "enumerate")
 | (x,.fn k)=>nmS[k]?==some x
 | (x,.gen)=>x==("_iter_escaped_chars":Str)
 | (x,.cst (.int n))=>(match valOf Vw x with | some (.int m)=>m==n | _=>false)
 | (x,.cst (.flt b))=>fls.contains (x,b)
 | (x,.cst (.dcts l))=>x==("EXACT_TOKEN_TYPES":Str)&&decide (l=dl.map λx=>(x.1,SV.i x.2))
 | _=>false
def FJ (nf:Str × FSpec):Bool:=(recsOf Vw).any λd=>d.name==nf.1&&QE nf.2 d.body d.scope&&x5 nf.2.pars d.params
def OE:Bool:=(recsOf Vw).any λd=>d.name==("_iter_escaped_chars":Str)&&xA d.body d.scope&&x5 [("addr":Str)] d.params
variable{mean:Hc->Option ag}{mb:Str->Option ag}{bc:ai}{t:KT}{aI:List FSpec}
theorem yB (h:BC k=x) (hm:mG x=some (.ref a)):fA k=a:=by
 delta fA;exact O h (O hm rfl)
set_option tactic.hygienic true in
theorem nS (T:Top Vw Lw mean mG mb H0) (h:A9 x v=true):mG x=none/\mb x=some v:=by
 delta A9 OD at h
 simp only[ay,dq,fm,decide_eq_false_iff_not,beq_eq_false_iff_ne] at h;obtain⟨⟨⟨⟨⟨⟨h1,h2⟩,h3⟩,h4⟩,h5⟩,h6⟩,h7⟩:=h;refine⟨T.free x h1 h2 h3 h4 h5,?_⟩;refine O (T.builtins x h6) ?_;revert h7;cases bootBuiltins x with
 | none=>exact nf
 | some u=>exact λh7=>congrArg some (R0 h7)
theorem uN (T:Top Vw Lw mean mG mb H0) (hk:BC k=x) (h:FJ (x,f)=true):Nonempty (FunRec (fA k) f)/\mG x=some (.ref (fA k)):=by
 refine xea (vm.mp h) λd hd h=>?_;simp only[ay] at h;obtain⟨⟨h1,h2⟩,h3⟩:=h;have h1:=eq_of_beq h1;refine eJ (T.fn d hd) λa o pm cd zt=>?_;refine bV zt λdoc q1 q2 q3 q4=>?_;clear zt;rw[h1] at q1;have Uz:=yB hk q1;exact O Uz ⟨⟨⟨d.name,d.params,d.body,d.scope,pm,cd,doc,o,h2,q2,q3,q4,λvs hv=>uM h3 hv⟩⟩,q1⟩
theorem uO (T:Top Vw Lw mean mG mb H0) (h:OE=true):Nonempty (GenRec (fA 1000))/\mG ("_iter_escaped_chars":Str)=some (.ref (fA 1000)):=by
 refine xea (vm.mp h) λd hd h=>?_;simp only[ay] at h;obtain⟨⟨h1,h2⟩,h3⟩:=h;have h1:=eq_of_beq h1;refine eJ (T.fn d hd) λa o pm cd zt=>?_;refine bV zt λdoc q1 q2 q3 q4=>?_;clear zt;rw[h1] at q1;have Uz:=yB (k:=1000) rfl q1;exact O Uz ⟨⟨⟨d.name,d.params,d.body,d.scope,pm,cd,doc,o,h2,q2,q3,q4,λv=>uM h3 rfl⟩⟩,q1⟩
theorem U6 (T:Top Vw Lw mean mG mb H0) (ZH:KT.Holds H0 1 0 t) (TF:TreeFacts W0.params t fls "EXACT_TOKEN_TYPES" dl) (Lc:cU (dl.map (·.1))=true)
  (c1:∀(k:Nat) x f,nmS[k]?=some x->aI[k]?=some f->FJ (x,f)=true) (hl:nmS.length=aI.length) (Pn:nmS.length<=1000) (c2:OE=true) (c3:∀xg∈GL,WV xg=true):Glo:=by
 refine jE TF.stat λo2 ep2 g2 d2=>?_;refine bI TF.glob λo3 es ep3 g3 d3 hf zt=>?_;refine eJ zt λa o' es' ep' zt=>?_;refine mW zt λn1 n2 n3 n4 n5 n6=>?_;clear zt;have g2:=kt_at ZH g2;have g3:=kt_at ZH g3;have n3:=kt_at ZH n3;have Os:∀x,mG x=nsFind es x:=by
  refine bI T.g λo Zf ep e1 e2 _ e4=>?_;rw[show mainGlobals=3 from rfl,g3] at e1;cases e1;rw[d3] at e2;cases e2;exact λx=>(e4 x).symm
 refine⟨?_,T.nolimit,?_,mG,mb,T.g,T.b,?_⟩
 ·refine⟨λ_=>none,⟨o2,#[],ep2,g2,d2,λe he=>by simp at he,λx=>by rfl⟩,rfl⟩
 ·exact iz (by decide) (dL g3)
 ·intro x g hx;have hm:=aS hx;have hc:=c3 _ hm;have fnAt:∀k,nmS[k]?=some x->∃v,mG x=some v/\GV v (.fn k):=by
   intro k hk;have Im:k<nmS.length:=(de.mp hk).1;have hf:aI[k]?=some aI[k]:=by simp
   have Rk:BC k=x:=by delta BC;refine O (if_neg (by exact ez (ac Im Pn))) (O hk ?_);rfl
   obtain⟨⟨R⟩,q⟩:=uN T Rk (c1 k x _ hk hf);exact⟨_,q,rfl,R.o,_,R.at_,R.data⟩
  cases g with
  | bi b=>refine xa (nS T (v:=biV b) hc) λq1 q2=>?_;exact⟨_,.inr ⟨q1,q2⟩,rfl⟩
  | rng=>refine xa (nS T (v:=.type "range") hc) λq1 q2=>?_;exact⟨_,.inr ⟨q1,q2⟩,rfl⟩
  | enum=>refine xa (nS T (v:=.type "enumerate") hc) λq1 q2=>?_;exact⟨_,.inr ⟨q1,q2⟩,rfl⟩
  | fn k=>refine xea (fnAt k (eq_of_beq hc)) λv q1 q2=>?_;exact⟨v,.inl q1,q2⟩
  | gen =>
   have hx:=eq_of_beq (show(x==("_iter_escaped_chars":Str))=true from hc);subst hx;obtain⟨⟨R⟩,q⟩:=uO T c2;exact⟨_,.inl q,rfl,R.o,_,R.at_,R.data⟩
  | cst c =>
   cases c with
   | int n =>
    have hc:(match valOf Vw x with | some (.int m)=>m==n | _=>false)=true:=hc;revert hc;cases e:valOf Vw x with
    | none=>exact nf
    | some q=>cases q with
     | int m =>
      intro hc;rw[eq_of_beq hc] at e;refine xea (T.const x _ e) λv q1 q2=>?_;have q2:=q2 H0;cases q2;exact⟨_,.inl q1,.int _ _⟩
     | _=>exact nf
   | flt b =>
    refine xea (H9 (am.mp hf (x,b) (qx.mp hc))) λu e e2=>?_;exact⟨_,.inl (by exact O (Os ..) e),.flt _ _ e2⟩
   | dcts l =>
    refine xa (aB hc) λe1 e2=>?_;clear hc;have e1:=eq_of_beq e1;have e2:=of_decide_eq_true e2;subst e1 e2;exact⟨_,.inl (by exact O (Os ..) n1),.dcts (λq=>q) (A8 n2 n3 n4 n5 Lc n6)⟩
   | _=>exact nf hc
theorem OF{vs:List ag}{ns:List Int}(h:Ff vs ns):RVs h0 N vs (ns.map .int):=by
 induction h with
 | nil=>exact .nil
 | cons n t r x=>exact .cons (.int n t) x
theorem DP (hh:bc.heap=H0) (T:Top Vw Lw mean mG mb H0) (ZH:KT.Holds H0 1 0 t) (TF:TreeFacts W0.params t fls "EXACT_TOKEN_TYPES" dl) (Lc:cU (dl.map (·.1))=true)
  (c1:((nmS.zip aI).all (FJ))=true) (hl:nmS.length=aI.length) (Pn:nmS.length<=1000) (c2:OE=true) (c3:(GL.all (WV))=true)
  (hm:(aI.all λf=>decide (nss f.code<=15))=true)
  (hg:bc.gens=#[]) (htk:0<bc.toks){k:Nat}{x:Str}{fa a:er}(hk:nmS[k]?=some x) (Os:mG x=some (.ref fa)){vs:List ag}{ns:List Int}
  (ho:H0.get? a=some {cls:=.type "list",data:=.seq vs.toArray}) (hI:Ff vs ns) (hd:FT aI 6 k [.lst (ns.map .int)]=some (.bool true))
  {Q:Vs}{E:Vs}(hQ:∀v s',Pure bc s'->v=.bool true->Q v s'):wpAny (model Pg W0) callerA (call (.ref fa) [.ref a]) Q E bc:=by
 have c1':∀(k:Nat) x f,nmS[k]?=some x->aI[k]?=some f->FJ (x,f)=true:=by
  intro k x f h1 h2;refine am.mp c1 _ ?_;refine ic (i:=k) ?_;exact O (propext (List.getElem?_zip_eq_some)) ⟨h1,h2⟩
 have GK:=U6 T ZH TF Lc c1' hl Pn c2 (λxg h=>am.mp c3 xg h);obtain⟨⟨g⟩,-⟩:=uO T c2;have nmk:∀{k:Nat}{x:Str},nmS[k]?=some x->BC k=x:=by
  intro k x h;have Im:k<nmS.length:=(de.mp h).1
  delta BC;refine O (if_neg (by exact ez (ac Im Pn))) (O h ?_);rfl
 have hr:∀k f,aI[k]?=some f->Nonempty (FunRec (fA k) f):=by
  intro k f h;have Im:k<nmS.length:=by exact O hl ((de.mp h).1)
  have h1:nmS[k]?=some nmS[k]:=by simp
  exact(uN T (nmk h1) (c1' k _ f h1 h)).1
 have FK:=qC GK g hr (λf hf=>by simpa using am.mp hm f hf) 6;have Uz:=yB (nmk hk) Os;refine XO Uz ?_;refine FK k callerA bc No0 [.ref a] _ _ Q E ⟨rfl,by decide,by decide⟩ ⟨λ_ _ e=>by exact O hh e,λb q=>q.elim,by refine O hh ?_;exact ah _,λb q=>q.elim,htk,by refine O hg ?_;intro g hgm;simp at hgm⟩ (.cons (.lst (λq=>q) ⟨_,by exact O hh ho⟩ (OF hI)) .nil) hd ?_;intro v s' P r;cases r;exact hQ _ s' P rfl
theorem WW (P:Pure bc s') (hg:bc.gens=#[])
  (hr:∀cls,c.raises args cls=false) (hp:c.post args (.bool true) args=true):GoodWG c cl mean' args bc (.ok (.ret (.bool true))) s' :=
 (cS (.inl (dF _ _ ([]) rfl hr (ReadsW.bool true) hp (λ_=>⟨List.nodup_nil,λ_ hm=>(nomatch hm)⟩))) (OldK.of_keep λb o e=>P.step.keep b o (λq=>q) e) P.os (P.bare (by exact O hg pw.empty)))
end
end Mine
end
section
open PySem PySem.W PyProof.Rows PySem.W.X PySem.W.ZRun
namespace Mine.L2
theorem cm:(aI.all λf=>decide (nss f.code<=15))=true:=by decide +kernel
theorem cdn:cU (dl.map (·.1))=true:=by decide +kernel
theorem gol:Gol Pg X0:=by
 intro mean mb bc t fa a vs ns Q E hh T ZH TF hg htk Os ho hI hn hQ;have hh:bc.heap=H0:=by unfold H0;exact hh
 have T:Top Vw Lw mean mG mb H0:=by unfold mG H0;exact T
 have ZH:KT.Holds H0 1 0 t:=by unfold H0;exact ZH
 have TF:TreeFacts W0.params t fls "EXACT_TOKEN_TYPES" dl:=by unfold W0;exact TF
 have Os:mG "law"=some (.ref fa):=by unfold mG;exact Os
 have ho:H0.get? a=some {cls:=.type "list",data:=.seq vs.toArray}:=by unfold H0;exact ho
 have c:=DP hh T ZH TF cdn (k:=20) (aI:=aI) (by decide +kernel) rfl (by decide) (by decide +kernel) (by decide +kernel) cm hg htk rfl Os ho hI (math _ hn) (E:=E) hQ;unfold W0 at c;exact c
theorem U7{p:Fe}{l:List Str}{mean:Hc->Option ag}{mg mb:Str->Option ag}{h:li}(e:(p,l)=(Vw,Lw)) (T:Top p l mean mg mb h):Top Vw Lw mean mg mb h:=by
 cases e;exact T
theorem U8 (w:World) (h:li) (mg:Str->Option ag):Gol fi.row.prog ⟨w,h,mg⟩:=by
 have g:=OK gol ⟨w,h,mg⟩;unfold Pg at g;exact g
set_option Elab.async true
namespace main
theorem tw13767196840033043385:1=1:=rfl
theorem tw13748169137248023566:1=1:=rfl
theorem tw9960279763924929858:1=1:=rfl
theorem tw1284133851029558817:1=1:=rfl
theorem tw10231640520124113809:1=1:=rfl
theorem tw16262485267612473230:1=1:=rfl
theorem tw16908913680208186647:1=1:=rfl
theorem tw6550502643716466530:1=1:=rfl
theorem tw12252246504875206082:1=1:=rfl
theorem tw4828451741976635651:1=1:=rfl
theorem tw2912869823147480465:1=1:=rfl
theorem tw17161176056286944022:1=1:=rfl
theorem tw12947736369649479349:1=1:=rfl
theorem tw14129361235818393050:1=1:=rfl
theorem tw13820546993740034878:1=1:=rfl
theorem tw10421328512042795812:1=1:=rfl
theorem tw17717110454792707531:1=1:=rfl
theorem tw15266117254989187786:1=1:=rfl
theorem tw1503715745255644668:1=1:=rfl
theorem tw13619204493517199215:1=1:=rfl
theorem tw3535298097417781007:1=1:=rfl
theorem tw17904598562110171561:1=1:=rfl
theorem tw10679867299238200453:1=1:=rfl
theorem tw15209264476516694914:1=1:=rfl
theorem tw5284393808749169669:1=1:=rfl
theorem tw2246686480840793823:1=1:=rfl
theorem tw10021153346340719643:1=1:=rfl
theorem tw10250637076664573298:1=1:=rfl
theorem tw10595480477013955020:1=1:=rfl
theorem tw10619561948842833253:1=1:=rfl
theorem tw10627109589045031416:1=1:=rfl
theorem tw10646886728061803221:1=1:=rfl
theorem tw10745629030038263092:1=1:=rfl
theorem tw10934330873542809332:1=1:=rfl
theorem tw10954045377073310696:1=1:=rfl
theorem tw10981376502683060452:1=1:=rfl
theorem tw11065013078929939563:1=1:=rfl
theorem tw11080393372660877700:1=1:=rfl
theorem tw11140887632564363571:1=1:=rfl
theorem tw11376683966290177967:1=1:=rfl
theorem tw11492372890208215984:1=1:=rfl
theorem tw11604341645370147296:1=1:=rfl
theorem tw11739102640590237181:1=1:=rfl
theorem tw11745794054035035372:1=1:=rfl
theorem tw11994947126377125563:1=1:=rfl
theorem tw12255622907869322194:1=1:=rfl
theorem tw12459145279392647399:1=1:=rfl
theorem tw12522820006812358283:1=1:=rfl
theorem tw12620476658868265700:1=1:=rfl
theorem tw12696271265220768675:1=1:=rfl
theorem tw12965373477792128724:1=1:=rfl
theorem tw13046620219155413540:1=1:=rfl
theorem tw13054754952697759389:1=1:=rfl
theorem tw13067608063964746582:1=1:=rfl
theorem tw13182966127279451750:1=1:=rfl
theorem tw13369896539834659272:1=1:=rfl
theorem tw13569115156862083265:1=1:=rfl
theorem tw13770383903170022817:1=1:=rfl
theorem tw1379365428245128706:1=1:=rfl
theorem tw14061327726715336148:1=1:=rfl
theorem tw14067208205631941978:1=1:=rfl
theorem tw1436578998779397012:1=1:=rfl
theorem tw14464728394815665015:1=1:=rfl
theorem tw14565041854700376118:1=1:=rfl
theorem tw14699176610267097541:1=1:=rfl
theorem tw14710829285472873340:1=1:=rfl
theorem tw14993492554025853190:1=1:=rfl
theorem tw15323809478113033076:1=1:=rfl
theorem tw15465508373670800122:1=1:=rfl
theorem tw15612023140216913929:1=1:=rfl
theorem tw15647479803148185167:1=1:=rfl
theorem tw15650034975836300442:1=1:=rfl
theorem tw15823959654058927758:1=1:=rfl
theorem tw16067632708561041242:1=1:=rfl
theorem tw16187808761413617275:1=1:=rfl
theorem tw16266116500517948701:1=1:=rfl
theorem tw16355342317191960694:1=1:=rfl
theorem tw16431066664207061078:1=1:=rfl
theorem tw16442037542971074831:1=1:=rfl
theorem tw16508760260868687356:1=1:=rfl
theorem tw16532805668926285731:1=1:=rfl
theorem tw16769307395564302470:1=1:=rfl
theorem tw1686482573736325607:1=1:=rfl
theorem tw16876365955864352765:1=1:=rfl
theorem tw16942215534296381981:1=1:=rfl
theorem tw17246406272573063386:1=1:=rfl
theorem tw17374643516635832508:1=1:=rfl
theorem tw17435042462397108571:1=1:=rfl
theorem tw17556777152801393452:1=1:=rfl
theorem tw1764000637244573279:1=1:=rfl
theorem tw17820328777069312259:1=1:=rfl
theorem tw1784938367784881480:1=1:=rfl
theorem tw17983495851058141691:1=1:=rfl
theorem tw18031771169488832972:1=1:=rfl
theorem tw1812127647038032938:1=1:=rfl
theorem tw1812617158167736266:1=1:=rfl
theorem tw18285394209598149913:1=1:=rfl
theorem tw18418050667527768384:1=1:=rfl
theorem tw1899453082664686514:1=1:=rfl
theorem tw1984615660262058620:1=1:=rfl
theorem tw1998012472422649787:1=1:=rfl
theorem tw2136118790687687892:1=1:=rfl
theorem tw2144673767982910851:1=1:=rfl
theorem tw2172274745220904897:1=1:=rfl
theorem tw2242974340867889337:1=1:=rfl
theorem tw2665801021181447021:1=1:=rfl
theorem tw3034798036276051264:1=1:=rfl
theorem tw3047881841475859557:1=1:=rfl
theorem tw3145496782919052911:1=1:=rfl
theorem tw3173007386172800211:1=1:=rfl
theorem tw3389001460184677071:1=1:=rfl
theorem tw3442296962715124618:1=1:=rfl
theorem tw3464632028660713389:1=1:=rfl
theorem tw34749942188807484:1=1:=rfl
theorem tw3652388799556462935:1=1:=rfl
theorem tw3965176532821225790:1=1:=rfl
theorem tw4183906573399271828:1=1:=rfl
theorem tw4390734119716235383:1=1:=rfl
theorem tw4535261654632465198:1=1:=rfl
theorem tw461085900525874700:1=1:=rfl
theorem tw5087393970279904021:1=1:=rfl
theorem tw5178289440732429739:1=1:=rfl
theorem tw5264794226619544523:1=1:=rfl
theorem tw5284393808748169669:1=1:=rfl
theorem tw5309437889940958566:1=1:=rfl
theorem tw5416029784201320350:1=1:=rfl
theorem tw5609276715730500484:1=1:=rfl
theorem tw5656902625841734303:1=1:=rfl
theorem tw5740362637227135306:1=1:=rfl
theorem tw5876413754129326892:1=1:=rfl
theorem tw590301791517758684:1=1:=rfl
theorem tw6109279912686963854:1=1:=rfl
theorem tw6323650216058538088:1=1:=rfl
theorem tw6988575870353996398:1=1:=rfl
theorem tw7264281813739215591:1=1:=rfl
theorem tw7334022344496404692:1=1:=rfl
theorem tw7731120239835211629:1=1:=rfl
theorem tw7981104282891164952:1=1:=rfl
theorem tw8061433547365139294:1=1:=rfl
theorem tw8106871702016302497:1=1:=rfl
theorem tw8250408316120837298:1=1:=rfl
theorem tw8584575541446657670:1=1:=rfl
theorem tw8775116940779892234:1=1:=rfl
theorem tw8894541790217916655:1=1:=rfl
theorem tw9165570379717241128:1=1:=rfl
theorem tw9273895668415652037:1=1:=rfl
theorem tw9438125174917442576:1=1:=rfl
theorem tw9537127554292764476:1=1:=rfl
theorem tw9637377207811869733:1=1:=rfl
theorem tw9908319317946063135:1=1:=rfl
theorem tw9967387111504653387:1=1:=rfl
end main
set_option maxRecDepth 100000 in
set_option maxHeartbeats 0 in
set_option pp.deepTerms false in
set_option pp.maxSteps 1500 in
theorem main:fi.Holds:=by
 w_on;o_law;z_head;(case hw=>w_witness2)
 k_fill
 intro w By bc mg mb G y fa o pm cd doc dV kV ho hd XV hD Os hg args vals as L Mi Xz hrd hwl hlo
 z_open y L KX ZH ZN ZT
 refine Ground.open G ?_;intro T B D TE TW
 wrow_args Mi Xz hrd hwl hlo
 obtain⟨hat,Lr⟩:=script_at L;have htk:=script_toks L ZT
 rename li.IsList _ _ _=>hL
 rename Ff _ _=>hI
 rename ¬_=>hc
 have hob:=script_obj L hL;refine U8 w bc.heap mg _ mb bc _ fa _ _ _ _ _ rfl (U7 (by kernel_rfl) T) ZH ?_ hg (ac (by decide) htk) Os hob hI (by omega) ?_
 ·refine⟨⟨_,_,rfl,rfl⟩,⟨_,_,_,rfl,rfl,by kernel_rfl,_,_,_,_,rfl,rfl,rfl,⟨rfl,rfl,rfl⟩,rfl,?_⟩⟩
  repeat (refine⟨⟨_,rfl⟩,rfl,⟨_,rfl⟩,?_⟩)
  trivial
 ·intro v s' P hv;subst hv;refine WW P hg ?_ ?_
  ·intro cls;rfl
  ·kernel_rfl
end Mine.L2
end
end
theorem PySem.Challenge.cw_sw0065_02_holds : PySem.Challenge.rw_sw0065_02.Holds := by
 exact Mine.L2.main
