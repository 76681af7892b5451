import PyProof.Rows.All
import KE.KUnpack
import ObjForm.ListNI
import Wide.FinOn
import OpenK.AllK
import Wide.All
import PySem.Challenge.RW_sw0065_02
set_option Elab.async false
set_option autoImplicit true
set_option relaxedAutoImplicit true
set_option linter.all false
set_option maxHeartbeats 2000000
set_option genInjectivity false
set_option genSizeOf false
set_option bootstrap.genMatcherCode false
set_option tactic.hygienic false
noncomputable section
open PySem.Float64 (div isZero divmod ofInt fmod isInf ofFrac truncOf sub val add mul one)
open Nat renaming le_trans->aa,lt_of_lt_of_le->ae,sub_add_cancel->af,le_refl->ai,not_lt->ax,le_antisymm->bf,add_le_add_right->bo,le_of_eq->cf,ne_of_gt->ck,le_of_lt->db,lt_succ_self->di,ne_of_lt->fc,le_add_of_sub_le->fg,le_max_right->gh,le_succ_of_le->gm,two_pow_pos->gy,lt_of_le_of_lt->ia,lt_irrefl->ik,lt_succ_of_lt->im,le_max_left->ir,zero_le->iu,le_add_right->iy,mul_comm->jb,lt_trans->jc,mul_assoc->je,le_succ->jh,le_add_left->jl,zero_add->lq,mul_left_comm->lr,sub_eq_zero_of_le->mo,pow_add->mw,lt_or_ge->nc,min_le_right->nh,sub_lt_sub_left->nx,mul_le_mul_left->ny,div_add_mod->qq,min_eq_left->qt,add_le_add_left->qy,ble->rW,succ_pos->rh,mod_lt->rr,one_pos->si,sub_pos_of_lt->sw,add_mod->tf,le_of_not_lt->tq,add_sub_cancel_left->uj,min_eq_right->um,not_lt_of_le->uq,le_of_succ_le_succ->ux,sub_le->uy,le_sub_one_of_lt->wg,not_succ_le_zero->wo,add_le_add->wq,one_mul->wu,mul_le_mul_right->xd,pos_iff_ne_zero->xn,add_sub_cancel'->xv,eq_zero_or_pos->ym,zero_mul->yw,pow_succ->yx,succ->zj,le_of_succ_le->zl,add_zero->zw,add_comm->zz,zero_lt_succ->Ah,not_le_of_lt->Ar,mul_one->Ba,mul_eq_zero->Bp,min_le_left->Br,mul_le_mul->Bv,sub_lt->Cb,mul_div_le->Cr,min_assoc->Da,succ_mul->Ds,pow_zero->Du,le_total->Dv,min_self->Dw,mul_zero->Dx,mul_add->Ev,not_le->Fh
open PySem.Float64 renaming sub->ab,isZero->bz,divmod->ca,ofInt->cu,fmod->dg,cmp->ex,zero->jf,val_eq->jw,truncOf->lf,isInf->nz,val_natAbs->oj,decode->ow,sgn->qj,copysign->ul,isFinite->un,lt->va,floorOf->vy,ofFrac_right->ww,V->xm,decode_pack->xw,ofBin->yf,add_right->zq,mul_right->zr,decode_ge->zu,V_at->Dt,neg->Ex
open Inhabited renaming default->ac
open PySem renaming Value->ag,Shared->aj,Expr->ar,wpAny_bind->bj,wpAny_pure->cv,Around->dm,Addr->ew,Stmt->ib,Operator->ic,wpAny_standAt->il,Scope->ja,Heap->jg,wpAny_mono->jk,NameKind->ln,Comprehension->qe,Keyword->uw,Result->yl,UnaryOp->zf,seqSlot_of->Ab,IsEnum->Ak,Arguments->Al,BoolOp->Cc,Flow->Cd,Frame->Cf,DictEntry->De,CmpOp->Df,Const->Dg,Program->Dk,Builtin->Dm,GenState->El,IsRangeIter->Er,Protocol->Eu,JoinOk->Fe,Code->Fg,ExcName->Fi,Model->Fo,Walks->Fp,Meets->Ga
open List renaming replicate->ah,mem_cons_self->ak,map_cons->al,all_eq_true->ao,mem_cons->az,cons_append->bg,getElem?_eq_getElem->bl,mem_append->ce,mem_singleton->cg,append_assoc->ci,map_map->cr,range->cw,length_append->cy,replicate_succ->dL,length_cons->dc,getElem?_eq_some_iff->df,map_append->dj,lookup_cons->dp,getElem?_map->dr,length_map->eb,nil_append->ec,map_congr_left->ej,mem_cons_of_mem->er,filterMap_cons->fb,mem_map->fj,contains_eq_mem->fr,length->fw,mem_range->fy,append_nil->ge,map_nil->gw,mem_of_getElem?->ii,getD_eq_getElem?_getD->io,mem_map_of_mem->ip,not_mem_nil->iz,sum_cons->jd,length_pos_iff->jn,length_eq_one_iff->jp,getElem?_toArray->jz,length_nil->lg,flatten_cons->lm,take_length->ly,zip_cons_cons->mh,getElem?_eq_none->mn,drop_eq_getElem_cons->nj,length_filterMap_le->oa,getD->on,range_succ_eq_map->ov,take_of_length_le->pf,length_range->pg,forIn_nil->ph,contains_iff_mem->pq,length_filter_le->pr,getElem_mem->pt,length_drop->pz,length_take->qd,getLast?_concat->qh,dropLast_concat->qi,mem_of_mem_take->ql,mem_of_mem_drop->qm,mem_filter->qp,length_reverse->qx,all_map->re,getElem?_drop->ro,pairwise_cons->ry,take_left->sa,countP_cons->tt,mem_singleton_self->tz,drop_length->ua,any_eq_true->ue,getElem?_cons_zero->uf,getElem?_cons_succ->uh,isEmpty_map->uo,sum_append->vk,range_succ->vx,dropLast_eq_take->wb,getElem?_reverse->wc,take_append_drop->we,countP_replicate->wf,drop_zero->xk,append_toArray->xp,toList_toArray->xq,length_flatten->xz,drop_nil->yh,mem_filterMap->yk,countP_append->yr,mem_replicate->ys,zip_nil_right->yt,map->zd,toArray->zi,push_toArray->zk,sum_nil->zn,contains_nil->zo,reverse_cons->Aa,mem_toArray->Af,map_reverse->Ao,drop_append->Aq,lookup->Av,foldl_cons->Bk,forIn_cons->Bm,of_mem_zip->Bo,filter_map->Bt,drop_drop->Ci,drop_take->Ck,map_take->Dc,map_drop->Dd,map_id'->Eb
open LawfulBEq renaming eq_of_beq->am
open Rat renaming intCast_le_intCast->an,le_of_lt->av,intCast_lt_intCast->bh,lt_of_mul_lt_mul_right->eg,le_refl->ei,zero_mul->en,mul_nonneg->eo,intCast_natCast->fo,mul_le_mul_of_nonneg_right->gf,le_total->gj,not_le->iD,mul_lt_mul_of_pos_right->ij,natCast_mul->jj,le_antisymm->jm,not_lt->jt,div_mul_cancel->jv,natCast_pos->lc,natCast_ofNat->lj,intCast_pow->mm,one_mul->my,ne_of_gt->na,sub_eq_add_neg->ol,pow_zero->oo,natCast_le_natCast->oq,div_def->qg,pow_succ->qz,intCast_nonneg->ri,add_nonneg->rj,natCast_lt_natCast->ut,natCast_inj->vd,intCast_sub->vf,intCast_neg->vh,add_mul->xf,natCast_nonneg->yi,neg_mul->Bb,mul_eq_zero->Be,intCast_mul->Bf,natCast_add->Bg,intCast_add->Bh,intCast_inj->Bj,mul_comm->Di,ne_of_lt->Ea,mul_one->Ek
open Int renaming natAbs_of_nonneg->aq,le_trans->aw,sub_nonneg_of_le->bt,toNat_of_nonneg->bw,le_antisymm->cb,le_of_eq->co,le_of_lt->de,toNat_natCast->dh,not_lt->dt,emod_lt_of_pos->eh,ne_of_gt->ez,emod_nonneg->fm,natAbs_mul->fx,sub_pos_of_lt->gp,lt_irrefl->gq,le_refl->ie,lt_of_lt_of_le->iv,add_le_add_left->jo,natAbs_natCast->jx,add_nonneg->jy,sub_le_self->li,add_left_cancel->lw,add_le_add->lz,ofNat_le->mi,lt_of_le_of_lt->mj,not_le->mu,le_add_of_nonneg_right->mz,sub_self->ng,ne_of_lt->ni,eq_ofNat_of_zero_le->om,toNat_le->ot,add_zero->pn,add_le_add_right->qk,natCast_mul->qr,fdiv_eq_ediv_of_nonneg->rm,ofNat_natAbs_of_nonpos->rx,mul_neg->ta,add_sub_assoc->td,toNat->uk,mul_comm->uz,emod_two_eq->vz,mul_ediv_add_emod->wd,neg_le_of_neg_le->wv,sub_le_sub_right->xh,neg_le_neg->xi,sub_lt_sub_right->xj,sub_le_sub_left->xy,natAbs->yn,natCast_nonneg->yq,le_total->zs,lt_trans->zx,ofNat_lt->zy,min_eq_right->Am,max_eq_right->An,neg_mul->Ay,one_mul->Az,min_eq_left->Bq,natAbs_neg->Cm,pow_nonneg->Cn,add_lt_add->Cq,mul_assoc->DL,le_natAbs->Db,pow_zero->Dj,ediv_one->Dr,mul_one->Es,neg_neg->Ew
open Option renaming isSome_iff_exists->au,map_eq_some_iff->bk,map_some->bm,bind_eq_some_iff->dq,getD_none->iw,bind_some->ma,none->mq,getD_some->pw
open Bool renaming false_eq_true->ay,and_eq_true->be,not_eq_true'->ds,or_eq_true->ml,or_eq_true_iff->nu,eq_iff_iff->og,false_ne_true->oi,rec->rk,or_eq_false_iff->wm,not_true->yg,not_eq_true->Aj,not_false->Cp
open PySem.Heap renaming size_push->bn,get?_push_of_some->bx,get?_push_size->cj,lt_size->da,SameBut->rf,size_update->Ag
open PySem.Builtin.Str renaming occurrences->dd,strSliceIndices->jq,tooLong->xo
open PySem.NameKind renaming free->dk,cell->fz
open Lean renaming RArray->dv
open PySem.Calls renaming docDef->dw,spliced_cons->fi,evalArgs_plain->ig,spliced_nil->ji,callWith_builtin->mf,callWith_function->ty
open Pure renaming pure->dx
open PySem.Builtin.Range renaming rangeSize->fe,small->lu,rangeFitsLong->rg
open PySem.Challenge renaming rw_sw0065_02->fk
open Eq renaming subst->gk,trans->Bz
open Option.some renaming injEq->gn,inj->iq
open OfNat renaming ofNat->jr
open Array renaming getElem?_eq_some_iff->ju,eq_empty_of_size_eq_zero->lx,toList->Dq
open Ordering renaming eq->md,lt->As,gt->Au
open PySem.Value renaming float->mr,int->xl,ref->Ae,none->Cj,bool->Fd
open PyProof.Rows renaming callWith_type->mv,AllBare->od,assign_Tuple->se,Assign_Tuple_swapped->yv,getItem_tuple->Ca,isTrue_plain->Cv,Assign_Tuple->Cw,isTrue_not->Dh,IntsAre->Dl,mul_int->Em,mod_int->En
open PySem.Builtin.Int renaming intBits->nw,intTooBig->wa
open Function renaming comp->oc,comp_def->Fq
open PySem.Expr.Tuple renaming elim->oe
open PySem.Expr.ListComp renaming elim->oh
open PySem.Sem renaming bind_eq_wrap'->pi,wrap_wrap->qf,bind_eq_wrap->ui,onRaise_eq_wrap->xu,wrap_congr->Cg,pure->Ey
open PySem.F renaming plainAttrs_list->po,slot_int_rmul->qo,slot_tuple_mul->tm,slot_dict_getitem->xt,slot_tuple_rmul->yz,args_int_rmul_2->za,slot_list_count->ze,slot_int_index->Ac,entry_int_rmul->Ad,plainAttrs_str->Ai,fills_int_mul->Bl
open PySem.Expr.Subscript renaming elim->qu
open PySem.Expr.Attribute renaming elim->qv
open PySem.Stmt.AugAssign renaming elim->qw
open Nat.succ renaming inj->rd
open PySem.Expr.Constant renaming elim->rn
open Prod renaming ext->sb
open Classical renaming byContradiction->sd,epsilon_spec->uu,epsilon->yy,choose_spec->Ej,choose->Fy
open PySem.Builtin.Generator renaming genWake->sh
open PySem.AutoFloatOps renaming eq_0->sj,lt_0->zb,gt_0->zc,truediv_1->Dp,add_0->Ez,sub_0->Fa,mul_0->Fb,mod_1->Fc,ne_0->Fj,le_0->Fk,ge_0->Fm
open Ne renaming symm->sk
open PySem.Expr.UnaryOp renaming elim->so
open PySem.Expr.Compare renaming elim->sr
open PySem.Code renaming weight->su,cUnits->sv
open Int.le renaming dest->tb
open PySem.StrLaws renaming found_one->tc
open PySem.Shared renaming setGen->th
open Int.ofNat renaming inj->tj
open PySem.Around renaming in1_depth->tn,in1_units->to
open PySem.Expr.BoolOp renaming elim->tu
open PySem.Expr renaming Call->tw,UnaryOp->zh
open PySem.Stmt.Assign renaming elim->uc
open PySem.Stmt.Return renaming elim->ud
open PyProof renaming noPylong_small->uv
open PySem.Expr.BinOp renaming elim->vm
open PySem.Expr.IfExp renaming elim->vn
open PySem.Expr.Slice renaming elim->vo
open PySem.Stmt.While renaming elim->vp
open PySem.Stmt.Break renaming elim->vt
open PySem.Expr.Yield renaming elim->vw
open PySem.Expr.Name renaming elim->wh
open PySem.Expr.List renaming elim->wi
open PySem.Expr.Dict renaming elim->wj
open PySem.Expr.Call renaming elim->wk
open PySem.Const.int renaming elim->wl
open PySem.Stmt.Expr renaming elim->wn
open PySem.Stmt.For renaming elim->ye
open PySem.Walks renaming list->yj,tuple->Aw
open PySem.AutoListH renaming list___mul___list_int_3->yu
open PySem.Stmt.If renaming elim->zm
open PySem.End renaming susp->zp
open PySem.IsRange renaming new->Ax
open Lean.Grind.Semiring renaming pow_zero->Bc
open ForInStep renaming yield->Bn
open PySem.Str renaming cps_append->Bu,ext'->Ep,join->Gd
open PySem.Builtin.List renaming listFitsIndex->Bw,listTooLong->Cy
open PySem.isSame renaming created->Bx
open PyProof.Rows.Copied renaming pop_at->Ce
open PySem.AutoFloatOpsIf renaming truediv_fi->Cs,add_fi->Ec,sub_fi->Ed,mul_fi->Ee,add_if->Ef,sub_if->Eg,mul_if->Eh
open PySem.MeetsSeq renaming seqIndex_none_lo->Ct,seqIndex_none_hi->Cu,seqIndex_neg->Ei
open PySem.Expr.Set renaming elim->Cz
open PySem.AutoIntOps renaming truediv_2->Eo,pow_0->Fs,pow_4->Ft,add_0->Fu,sub_0->Fv
open Decidable renaming of_not_not->Et
open PUnit renaming unit->Ff
open PySem.IntMulOk renaming of_left->Fw
open PySem.P renaming neg_int->Fx
open PySem.Heap.DictOf renaming new->Fz
open PySem.Txt renaming join->Gb
open PySem.Const.str renaming elim->Gc
open List.cons renaming inj->Ge
section
namespace Mine
@[elab_as_elim] theorem O{α:Sort _}{a b:α}{motive:α->Prop}(h:a=b) (k:motive b):motive a:=Eq.substr h k
@[elab_as_elim] theorem aBD{α:Sort _}{a b:α}{motive:α->Prop}(h:b=a) (k:motive b):motive a:=gk h k
namespace LA
open Lean.Grind Lean.Grind.CommRing
inductive LX where|V (i:Nat)|N (k:Nat)|A (a b:LX)|S (a b:LX)|M (a b:LX)|D (a b:LX)|P (a:LX) (k:Nat)|G (a:LX)|C (a:LX)
inductive LH where|L (c:Nat) (a b:LX)|T (c:Nat) (a b:LX)|U (c:Nat) (a b:LX)|X (c:Nat) (a b:LX)|Y (c:Nat) (a b:LX)|Z (c:Nat) (a b:LX)
abbrev Cx:=dv Rat
noncomputable def LX.den (v:Cx) (e:LX):Rat:=LX.rec (λi=>v.get i) (λk=>jr k) (λ_ _ a b=>a+b) (λ_ _ a b=>a-b) (λ_ _ a b=>a*b) (λ_ _ a b=>a/b) (λ_ k a=>a^k) (λ_ a=>-a) (λ_ a=>a) e
noncomputable def cst:Poly->Nat
 |.num k=>k.toNat
 |_=>0
def LX.tr (e:LX):CommRing.Expr×Nat:=LX.rec (λi=>(.var i,1)) (λk=>(.num k,1))
 (λ_ _ a b=>(.add (.mul a.1 (.num b.2)) (.mul b.1 (.num a.2)),a.2*b.2)) (λ_ _ a b=>(.sub (.mul a.1 (.num b.2)) (.mul b.1 (.num a.2)),a.2*b.2))
 (λ_ _ a b=>(.mul a.1 b.1,a.2*b.2)) (λ_ _ a b=>(.mul a.1 (.num (b.2*b.2:Nat)),a.2*(cst b.1.toPoly*b.2))) (λ_ k a=>(.pow a.1 k,a.2^k)) (λ_ a=>(.neg a.1,a.2)) (λ_ a=>a) e
theorem IL (k:Int):denoteInt k=(k:Rat):=denoteInt_eq k
theorem RM (v:Cx):∀{p:Poly},0<cst p->p.denote v=((cst p:Nat):Rat)
 |.num k,h=>by
  have h1:((k.toNat:Nat):Int)=k:=bw (by have:0<k.toNat:=h;omega);show Poly.denote v (.num k)=((k.toNat:Nat):Rat);rw[<-fo,h1];rfl
 |.add _ _ _,h=>absurd h (ik 0)
theorem xR{a b:Nat}(h:0<a*b):0<a:=Nat.pos_of_ne_zero λe=>by rw[e,yw] at h;exact ik 0 h
theorem uE{a b:Nat}(h:0<a*b):0<b:=xR (jb a b▸h)
theorem LK (a b:Rat):∀k:Nat,(a*b)^k=a^k*b^k
 |0=>by rw[oo,oo,oo,Ek]
 |k+1=>by rw[qz,qz,qz,LK a b k];grind
theorem zP (a:Nat):∀k:Nat,((a^k:Nat):Rat)=(a:Rat)^k
 |0=>by rw[oo];rfl
 |k+1=>by rw[qz,yx,jj,zP a k]
theorem LX.tr_den (v:Cx):∀e:LX,0<e.tr.2->e.den v*((e.tr.2:Nat):Rat)=e.tr.1.denote v
 |.V i,_=>by show v.get i*((1:Nat):Rat)=v.get i;grind
 |.N k,_=>by
  show(jr k:Rat)*((1:Nat):Rat)=denoteInt (k:Int);rw[IL,fo,<-lj];exact Ek _
 |.A a b,h=>by
  have h1:=a.tr_den v (xR h);have h2:=b.tr_den v (uE h);show(a.den v+b.den v)*((a.tr.2*b.tr.2:Nat):Rat)=a.tr.1.denote v*denoteInt (b.tr.2:Int)+b.tr.1.denote v*denoteInt (a.tr.2:Int);rw[IL,IL,fo,fo,jj];grind
 |.S a b,h=>by
  have h1:=a.tr_den v (xR h);have h2:=b.tr_den v (uE h);show(a.den v-b.den v)*((a.tr.2*b.tr.2:Nat):Rat)=a.tr.1.denote v*denoteInt (b.tr.2:Int)-b.tr.1.denote v*denoteInt (a.tr.2:Int);rw[IL,IL,fo,fo,jj];grind
 |.M a b,h=>by
  have h1:=a.tr_den v (xR h);have h2:=b.tr_den v (uE h);show(a.den v*b.den v)*((a.tr.2*b.tr.2:Nat):Rat)=a.tr.1.denote v*b.tr.1.denote v;rw[jj];grind
 |.D a b,h=>by
  have h1:=a.tr_den v (xR h);have hp:0<b.tr.2:=uE (uE h);have Nw:0<cst b.tr.1.toPoly:=xR (uE h);have hc:=RM v Nw;rw[CommRing.Expr.denote_toPoly,<-b.tr_den v hp] at hc;show(a.den v/b.den v)*((a.tr.2*(cst b.tr.1.toPoly*b.tr.2):Nat):Rat)=a.tr.1.denote v*denoteInt ((b.tr.2*b.tr.2:Nat):Int);rw[IL,fo,jj,jj,jj,<-hc,<-h1];have:b.den v≠0:=λe=>by
   rw[e,en] at hc;exact absurd (vd.mp hc.symm) (xn.mp Nw)
  grind
 |.P a k,h=>by
  have hp:k=0\/0<a.tr.2:= by
   cases k with
   |zero=>exact .inl rfl
   |succ k=>exact .inr (uE (show 0<a.tr.2^k*a.tr.2 from h))
  show a.den v^k*((a.tr.2^k:Nat):Rat)=a.tr.1.denote v^k;rw[zP,<-LK];rcases hp with e|hp
  ·rw[e,oo];exact(Bc _).symm
  ·rw[a.tr_den v hp]
 |.G a,h=>by
  have h1:=a.tr_den v h;show -a.den v*((a.tr.2:Nat):Rat)=-a.tr.1.denote v;grind
 |.C a,h=>a.tr_den v h
theorem RN{a b:Rat}(h:0<=a) (k:0<b):0<a+b:=by grind
theorem aAO{a b:Rat}(h:0<a) (k:0<=b):0<a+b:=by grind
theorem VK{a b:Rat}(h:a=b):a<=b:=h▸ei
noncomputable def WC:Mon->Bool
 |.unit=>true
 |.mult p m=>rW 32 p.x&&WC m
def okP (s:Bool):Poly->Bool
 |.num k=>if s then decide (0<k) else decide (0<=k)
 |.add c m r=>decide (0<=c)&&(WC m&&okP s r)
def ok (T:LX) (s:Bool):Bool:=decide (0<T.tr.2)&&okP s T.tr.1.toPoly
def Nn (v:Cx):Prop:=∀i,rW 32 i=true->0<=v.get i
theorem bL{a b:Bool}(h:(a&&b)=true):a=true/\b=true:=Bool.and_eq_true_iff.mp h
theorem qK{v:Cx}(hv:Nn v):∀{m:Mon},WC m=true->0<=m.denote v
 |.unit,_=>av (lc.mpr si)
 |.mult ⟨x,0⟩ m,h=>eo (av (lc.mpr si)) (qK hv (bL h).2)
 |.mult ⟨x,1⟩ m,h=>eo (hv x (bL h).1) (qK hv (bL h).2)
 |.mult ⟨x,k+2⟩ m,h=>eo (Rat.pow_nonneg (hv x (bL h).1)) (qK hv (bL h).2)
theorem GO{v:Cx}(hv:Nn v){s:Bool}:∀{p:Poly},okP s p=true->0<=p.denote v/\(s=true->0<p.denote v)
 |.num k,h=>by
  cases s
  ·have h1:0<=k:=_root_.of_decide_eq_true h;exact⟨ri.mpr h1,λq=>nomatch q⟩
  ·have h1:0<k:=_root_.of_decide_eq_true h;exact⟨ri.mpr (de h1),λ_=>Rat.intCast_pos.mpr h1⟩
 |.add c m r,h=>by
  have h1:0<=c:=_root_.of_decide_eq_true (bL h).1;have h2:=qK hv (bL (bL h).2).1;have h3:=GO hv (bL (bL h).2).2;have h4:0<=c • m.denote v:= by
   rw[Ring.zsmul_eq_intCast_mul];exact eo (ri.mpr h1) h2
  show 0<=c • m.denote v+r.denote v/\(s=true->0<c • m.denote v+r.denote v);exact⟨rj h4 h3.1,λq=>RN h4 (h3.2 q)⟩
theorem GP{a b:Rat}(hb:0<b) (h:0<=a*b):0<=a:=jt.mp λe=>by
 have:=ij e hb;rw[en] at this;exact absurd h (iD.mpr this)
theorem BB{a b:Rat}(hb:0<b) (h:0<a*b):0<a:=iD.mp λe=>by
 have:=gf e (av hb);rw[en] at this;exact absurd h (jt.mpr this)
theorem LL{v:Cx}(hv:Nn v){T:LX}{s:Bool}(h:ok T s=true):0<=T.den v/\(s=true->0<T.den v):= by
 have h0:=bL h;have hp:=_root_.of_decide_eq_true h0.1;have hq:(0:Rat)<((T.tr.2:Nat):Rat):=lc.mpr hp;have hd:=T.tr_den v hp;rw[<-CommRing.Expr.denote_toPoly] at hd;have h1:=GO hv h0.2;rw[<-hd] at h1;exact⟨GP hq h1.1,λq=>BB hq (h1.2 q)⟩
noncomputable def sum:List LH->LX
 |[]=>.N 0
 |.L c a b::r|.T c a b::r|.U c a b::r=>.A (.M (.N c) (.S b a)) (sum r)
 |_::r=>sum r
noncomputable def LM:List LH->Bool
 |[]=>false
 |.T c _ _::r=>decide (0<c)||LM r
 |_::r=>LM r
def Dn (v:Cx) (g:Prop):List LH->Prop
 |[]=>g
 |.L _ a b::r=>a.den v<=b.den v->Dn v g r
 |.T _ a b::r=>a.den v<b.den v->Dn v g r
 |.U _ a b::r=>a.den v=b.den v->Dn v g r
 |_::r=>Dn v g r
theorem wt (c:Nat){a b:Rat}(h:a<=b):0<=(jr c:Rat)*(b-a):= by
 rw[<-lj];exact eo yi (by grind)
theorem wt' {c:Nat}(hc:0<c){a b:Rat}(h:a<b):0<(jr c:Rat)*(b-a):= by
 rw[<-lj];exact Rat.mul_pos (lc.mpr hc) (by grind)
theorem sR (v:Cx){g:Prop}:∀{hs:List LH},((0<=(sum hs).den v/\(LM hs=true->0<(sum hs).den v))->g)->Dn v g hs
 |[],h=>h ⟨ei,λq=>nomatch q⟩
 |.L c a b::r,h=>λh1=>sR v fun⟨q1,q2⟩=>h ⟨rj (wt c h1) q1,λq=>RN (wt c h1) (q2 q)⟩
 |.T c a b::r,h=>λh1=>sR v fun⟨q1,q2⟩=>h ⟨rj (wt c (av h1)) q1,λq=>by
   rcases nu.mp q with q|q
   ·exact aAO (wt' (_root_.of_decide_eq_true q) h1) q1
   ·exact RN (wt c (av h1)) (q2 q)⟩
 |.U c a b::r,h=>λh1=>sR v fun⟨q1,q2⟩=>h ⟨rj (wt c (VK h1)) q1,λq=>RN (wt c (VK h1)) (q2 q)⟩
 |.X _ _ _::r,h=>sR (hs:=r) v h
 |.Y _ _ _::r,h=>sR (hs:=r) v h
 |.Z _ _ _::r,h=>sR (hs:=r) v h
noncomputable def WD:List LH->Bool
 |[]=>true
 |.U _ _ _::r=>WD r
 |_=>false
noncomputable def is0:Poly->Bool
 |.num k=>k==0
 |_=>false
def okE (T:LX):Bool:=decide (0<T.tr.2)&&is0 T.tr.1.toPoly
theorem RO{v:Cx}{T:LX}(h:okE T=true):T.den v=0:= by
 have hp:=_root_.of_decide_eq_true (bL h).1;have hd:=T.tr_den v hp;have h2:=(bL h).2;rw[<-CommRing.Expr.denote_toPoly] at hd;revert hd h2;cases T.tr.1.toPoly with
 |add _ _ _=>exact λ_ h=>nomatch h
 |num k=>
  intro hd h2;rw[am h2] at hd;exact(Be.mp (hd.trans rfl)).resolve_right λe=>absurd (vd.mp (e.trans rfl:((T.tr.2:Nat):Rat)=((0:Nat):Rat))) (xn.mp hp)
theorem du (v:Cx){g:Prop}:∀{hs:List LH},WD hs=true->((sum hs).den v=0->g)->Dn v g hs
 |[],_,h=>h rfl
 |.U c a b::r,q,h=>λh1=>du v (hs:=r) q λq1=>h (by
   show(jr c:Rat)*(b.den v-a.den v)+(sum r).den v=0;rw[q1,h1];grind)
def chk:LH->List LH->Bool
 |.U c a b,hs=>decide (0<c)&&(WD hs&&okE (.S (.M (.N c) (.S b a)) (sum hs)))
 |.L c a b,hs=>decide (0<c)&&ok (.S (.M (.N c) (.S b a)) (sum hs)) false
 |.T c a b,hs=>decide (0<c)&&ok (.S (.M (.N c) (.S b a)) (sum hs)) (!LM hs)
 |_,_=>false
def LH.go (v:Cx):LH->Prop
 |.L _ a b=>a.den v<=b.den v
 |.T _ a b=>a.den v<b.den v
 |.U _ a b=>a.den v=b.den v
 |_=>True
theorem out{c:Nat}(hc:0<c){a b s:Rat}(h:0<=(jr c:Rat)*(b-a)-s) (hs:0<=s):a<=b:= by
 have hc:(0:Rat)<((c:Nat):Rat):=lc.mpr hc;rw[<-lj] at h;have:0<=(b-a)*(c:Rat):=by rw[Di];change 0<=(c:Rat)*_-s at h;grind
 have:=GP hc this;grind
theorem aAP{c:Nat}(hc:0<c){a b s:Rat}(h:0<=(jr c:Rat)*(b-a)-s) (hs:0<=s) (h2:0<s\/0<(jr c:Rat)*(b-a)-s):a<b:= by
 have hc:(0:Rat)<((c:Nat):Rat):=lc.mpr hc;rw[<-lj] at h h2;have:0<(b-a)*(c:Rat):=by rw[Di];change 0<=(c:Rat)*_-s at h;change _\/0<(c:Rat)*_-s at h2;grind
 have:=BB hc this;grind
theorem aAQ{c:Nat}(hc:0<c){a b s:Rat}(h:(jr c:Rat)*(b-a)-s=0) (hs:s=0):a=b:= by
 have hc:(0:Rat)<((c:Nat):Rat):=lc.mpr hc;rw[<-lj,hs] at h;change (c:Rat)*(b-a)-0=0 at h;have h2:(c:Rat)*(b-a)=0:=by grind
 have:=(Be.mp h2).resolve_left (na hc);grind
theorem main (v:Cx) (hv:Nn v) (g:LH) (hs:List LH) (h:chk g hs=true):Dn v (g.go v) hs:= by
 cases g with
 |L c a b=>exact sR v fun⟨q1,q2⟩=>out (_root_.of_decide_eq_true (bL h).1) (LL hv (bL h).2).1 q1
 |T c a b=>
  refine sR v fun⟨q1,q2⟩=>?_;have h1:=bL h;have h2:=LL hv h1.2;refine aAP (_root_.of_decide_eq_true h1.1) h2.1 q1 ?_;cases e:LM hs
  ·exact .inr (h2.2 (by rw[e];rfl))
  ·exact .inl (q2 e)
 |U c a b=>
  have h1:=bL h;have h2:=bL h1.2;exact du v h2.1 λq=>aAQ (_root_.of_decide_eq_true h1.1) (RO h2.2) q
 |_=>exact nomatch h
/- whole and natural numbers -/
noncomputable def mp{α:Type}(f:α->Rat):dv α->Cx
 |.leaf a=>.leaf (f a)
 |.branch k a b=>.branch k (mp f a) (mp f b)
theorem uF{α:Type}(f:α->Rat) (i:Nat):∀v:dv α,(mp f v).get i=f (v.get i)
 |.leaf a=>rfl
 |.branch k a b=>by
  show rk ((mp f a).get i) ((mp f b).get i) (k.ble i)=f (rk (a.get i) (b.get i) (k.ble i));cases k.ble i
  ·exact uF f i a
  ·exact uF f i b
noncomputable def LX.denN (w:dv Nat) (e:LX):Nat:=LX.rec (λi=>w.get i) (λk=>jr k) (λ_ _ a b=>a+b) (λ_ _ a b=>a-b) (λ_ _ a b=>a*b) (λ_ _ a b=>a/b) (λ_ k a=>a^k) (λ_ a=>a) (λ_ a=>a) e
def LX.denZ (v:dv Int) (w:dv Nat) (e:LX):Int:=LX.rec (λi=>rk (v.get i) ((w.get i:Nat):Int) (rW 32 i)) (λk=>jr k) (λ_ _ a b=>a+b) (λ_ _ a b=>a-b) (λ_ _ a b=>a*b) (λ_ _ a b=>a/b) (λ_ k a=>a^k) (λ_ a=>-a) (λa _=>((a.denN w:Nat):Int)) e
noncomputable def LX.isN:LX->Bool
 |.V i=>rW 32 i
 |.N _=>true
 |.A a b|.M a b=>a.isN&&b.isN
 |.P a _=>a.isN
 |_=>false
def LX.isZ:LX->Bool
 |.V _|.N _=>true
 |.A a b|.S a b|.M a b=>a.isZ&&b.isZ
 |.P a _|.G a=>a.isZ
 |.C a=>a.isN
 |_=>false
noncomputable def cz (z:Int):Rat:=z
noncomputable def cn (n:Nat):Rat:=n
def mc (v:dv Int) (w:dv Nat):Cx:=.branch 32 (mp cz v) (mp cn w)
theorem YQ (v:dv Int) (w:dv Nat){i:Nat}(h:rW 32 i=true):(mc v w).get i=((w.get i:Nat):Rat):= by
 show(rk ((mp cz v).get i) ((mp cn w).get i) (rW 32 i):Rat)=_;rw[h];exact uF cn i w
theorem YR (v:dv Int) (w:dv Nat):Nn (mc v w):=λi h=>by
 rw[YQ v w h];exact yi
theorem c2{x x' y y':Rat}(f:Rat->Rat->Rat) (h:x=x') (k:y=y'):f x y=f x' y':=h▸k▸rfl
theorem YS (a:Int):∀k:Nat,((a^k:Int):Rat)=(a:Rat)^k
 |0=>by rw[oo,Dj];rfl
 |k+1=>by rw[qz,Int.pow_succ,Bf,YS a k]
section
variable (v:dv Int) (w:dv Nat)
theorem iS:∀e:LX,e.isN=true->((e.denN w:Nat):Rat)=e.den (mc v w)
 |.V i,h=>(YQ v w h).symm
 |.N k,_=>rfl
 |.A a b,h=>(Bg _ _).trans (c2 (·+·) (iS a (bL h).1) (iS b (bL h).2))
 |.M a b,h=>(jj _ _).trans (c2 (·*·) (iS a (bL h).1) (iS b (bL h).2))
 |.P a k,h=>(zP _ k).trans (congrArg (·^k) (iS a h))
theorem gL:∀e:LX,e.isZ=true->((e.denZ v w:Int):Rat)=e.den (mc v w)
 |.V i,_=>by
  show((rk (v.get i) ((w.get i:Nat):Int) (rW 32 i):Int):Rat)=(rk ((mp cz v).get i) ((mp cn w).get i) (rW 32 i):Rat);cases rW 32 i
  ·exact(uF cz i v).symm
  ·exact(fo _).trans (uF cn i w).symm
 |.N k,_=>rfl
 |.A a b,h=>(Bh _ _).trans (c2 (·+·) (gL a (bL h).1) (gL b (bL h).2))
 |.S a b,h=>(vf _ _).trans (c2 (· - ·) (gL a (bL h).1) (gL b (bL h).2))
 |.M a b,h=>(Bf _ _).trans (c2 (·*·) (gL a (bL h).1) (gL b (bL h).2))
 |.P a k,h=>(YS _ k).trans (congrArg (·^k) (gL a h))
 |.G a,h=>(vh _).trans (congrArg (- ·) (gL a h))
 |.C a,h=>(fo _).trans (iS v w a h)
end
noncomputable def LH.z:LH->LH
 |.T c a b|.Y c a b=>.L c (.A a (.N 1)) b
 |.X c a b=>.L c a b
 |.Z c a b=>.U c a b
 |h=>h
noncomputable def LH.zg:LH->LH
 |.L c a b|.X c a b=>.T c a (.A b (.N 1))
 |.Y c a b=>.T c a b
 |.Z c a b=>.U c a b
 |h=>h
def LH.all:LH->Bool
 |.L _ a b|.T _ a b|.U _ a b=>a.isZ&&b.isZ
 |.X _ a b|.Y _ a b|.Z _ a b=>a.isN&&b.isN
def rS (g:LH) (hs:List LH):Bool:=g.all&&(hs.all LH.all&&chk g.zg (hs.map LH.z))
def LH.gz (v:dv Int) (w:dv Nat):LH->Prop
 |.L _ a b=>a.denZ v w<=b.denZ v w
 |.T _ a b=>a.denZ v w<b.denZ v w
 |.U _ a b=>a.denZ v w=b.denZ v w
 |.X _ a b=>a.denN w<=b.denN w
 |.Y _ a b=>a.denN w<b.denN w
 |.Z _ a b=>a.denN w=b.denN w
def Dz (v:dv Int) (w:dv Nat) (g:Prop):List LH->Prop
 |[]=>g
 |h::r=>h.gz v w->Dz v w g r
theorem sZ (a:Int):(a:Rat)+1=((a+1:Int):Rat):=by rw[Bh];rfl
theorem sN (a:Nat):(a:Rat)+1=((a+1:Nat):Rat):=by rw[Bg];rfl
section
variable{v:dv Int}{w:dv Nat}{a b:LX}
theorem lZ (h:(a.isZ&&b.isZ)=true) (k:a.denZ v w<=b.denZ v w):a.den (mc v w)<=b.den (mc v w):= by
 rw[<-gL v w a (bL h).1,<-gL v w b (bL h).2];exact an.mpr k
theorem tZ (h:(a.isZ&&b.isZ)=true) (k:a.denZ v w<b.denZ v w):a.den (mc v w)+1<=b.den (mc v w):= by
 rw[<-gL v w a (bL h).1,<-gL v w b (bL h).2,sZ];exact an.mpr k
theorem eZ (h:(a.isZ&&b.isZ)=true) (k:a.denZ v w=b.denZ v w):a.den (mc v w)=b.den (mc v w):= by
 rw[<-gL v w a (bL h).1,<-gL v w b (bL h).2,k]
theorem lN (h:(a.isN&&b.isN)=true) (k:a.denN w<=b.denN w):a.den (mc v w)<=b.den (mc v w):= by
 rw[<-iS v w a (bL h).1,<-iS v w b (bL h).2];exact oq.mpr k
theorem tN (h:(a.isN&&b.isN)=true) (k:a.denN w<b.denN w):a.den (mc v w)+1<=b.den (mc v w):= by
 rw[<-iS v w a (bL h).1,<-iS v w b (bL h).2,sN];exact oq.mpr k
theorem eN (h:(a.isN&&b.isN)=true) (k:a.denN w=b.denN w):a.den (mc v w)=b.den (mc v w):= by
 rw[<-iS v w a (bL h).1,<-iS v w b (bL h).2,k]
theorem gLZ (h:(a.isZ&&b.isZ)=true) (k:a.den (mc v w)<b.den (mc v w)+1):a.denZ v w<=b.denZ v w:= by
 rw[<-gL v w a (bL h).1,<-gL v w b (bL h).2,sZ] at k;exact Int.le_of_lt_add_one (bh.mp k)
theorem gTZ (h:(a.isZ&&b.isZ)=true) (k:a.den (mc v w)<b.den (mc v w)):a.denZ v w<b.denZ v w:= by
 rw[<-gL v w a (bL h).1,<-gL v w b (bL h).2] at k;exact bh.mp k
theorem gLN (h:(a.isN&&b.isN)=true) (k:a.den (mc v w)<b.den (mc v w)+1):a.denN w<=b.denN w:= by
 rw[<-iS v w a (bL h).1,<-iS v w b (bL h).2,sN] at k;exact Nat.le_of_lt_succ (ut.mp k)
theorem geZ (h:(a.isZ&&b.isZ)=true) (k:a.den (mc v w)=b.den (mc v w)):a.denZ v w=b.denZ v w:= by
 rw[<-gL v w a (bL h).1,<-gL v w b (bL h).2] at k;exact Bj.mp k
theorem geN (h:(a.isN&&b.isN)=true) (k:a.den (mc v w)=b.den (mc v w)):a.denN w=b.denN w:= by
 rw[<-iS v w a (bL h).1,<-iS v w b (bL h).2] at k;exact vd.mp k
theorem gTN (h:(a.isN&&b.isN)=true) (k:a.den (mc v w)<b.den (mc v w)):a.denN w<b.denN w:= by
 rw[<-iS v w a (bL h).1,<-iS v w b (bL h).2] at k;exact ut.mp k
end
theorem dz{v:dv Int}{w:dv Nat}{g g':Prop}(hg:g'->g):∀{hs:List LH},hs.all LH.all=true->Dn (mc v w) g' (hs.map LH.z)->Dz v w g hs
 |[],_,h=>hg h
 |.L c a b::r,q,h=>λk=>dz hg (bL q).2 (h (lZ (bL q).1 k))
 |.T c a b::r,q,h=>λk=>dz hg (bL q).2 (h (tZ (bL q).1 k))
 |.U c a b::r,q,h=>λk=>dz hg (bL q).2 (h (eZ (bL q).1 k))
 |.X c a b::r,q,h=>λk=>dz hg (bL q).2 (h (lN (bL q).1 k))
 |.Y c a b::r,q,h=>λk=>dz hg (bL q).2 (h (tN (bL q).1 k))
 |.Z c a b::r,q,h=>λk=>dz hg (bL q).2 (h (eN (bL q).1 k))
noncomputable def rl{α:Type}(z:α):List α->Nat->dv α
 |[],_=>.leaf z
 |[a],_=>.leaf a
 |a::r,k=>.branch (k+1) (.leaf a) (rl z r (k+1))
noncomputable def LX.a:LX:=.V 0
noncomputable def LX.b:LX:=.V 1
noncomputable def LX.c:LX:=.V 2
noncomputable def LX.d:LX:=.V 3
noncomputable def LX.e:LX:=.V 4
noncomputable def LX.f:LX:=.V 5
noncomputable def LX.g:LX:=.V 6
noncomputable def LX.h:LX:=.V 7
noncomputable def LX.i:LX:=.V 8
noncomputable def LX.j:LX:=.V 9
noncomputable def LX.k:LX:=.V 10
noncomputable def LX.o:LX:=.V 11
noncomputable def LX.p:LX:=.V 12
noncomputable def LX.q:LX:=.V 32
noncomputable def LX.r:LX:=.V 33
noncomputable def LX.s:LX:=.V 34
noncomputable def LX.t:LX:=.V 35
noncomputable def LX.u:LX:=.V 36
noncomputable def LX.v:LX:=.V 37
noncomputable def LX.w:LX:=.V 38
noncomputable def LX.x:LX:=.V 39
noncomputable def LX.y:LX:=.V 40
noncomputable def LX.z:LX:=.V 41
noncomputable def LX.n0:LX:=.N 0
noncomputable def LX.n1:LX:=.N 1
noncomputable def LX.n2:LX:=.N 2
noncomputable def LX.n3:LX:=.N 3
noncomputable def LX.n4:LX:=.N 4
noncomputable def LX.n5:LX:=.N 5
noncomputable def LX.n6:LX:=.N 6
noncomputable def LX.n7:LX:=.N 7
noncomputable def LX.n8:LX:=.N 8
noncomputable def LX.E (k:Nat):LX:=.D (.N k) (.P (.N 2) 54)
noncomputable def LH.l (a b:LX):LH:=.L 1 a b
noncomputable def LH.t (a b:LX):LH:=.T 1 a b
noncomputable def LH.e (a b:LX):LH:=.U 1 a b
noncomputable def LH.x (a b:LX):LH:=.X 1 a b
noncomputable def LH.y (a b:LX):LH:=.Y 1 a b
noncomputable def LH.z1 (a b:LX):LH:=.Z 1 a b
noncomputable def LX.ka:LX:=.S .a .b
noncomputable def LX.kb:LX:=.A .a .b
noncomputable def LX.kc:LX:=.A .q .n1
noncomputable def LX.kd:LX:=.M .a .b
noncomputable def LX.ke:LX:=.A .r .n1
noncomputable def LX.kf:LX:=.D .n1 .n2
noncomputable def LX.kg:LX:=.M .n6 .a
noncomputable def LX.kh:LX:=.A .n1 (.D .n1 (.P .n2 52))
noncomputable def LX.ki:LX:=.P .n2 53
noncomputable def LX.kj:LX:=.N 1000
noncomputable def LX.kk:LX:=.A .a .n1
noncomputable def LX.kl:LX:=.E 1
noncomputable def LX.km:LX:=.D .n1 (.P .n2 17)
noncomputable def LX.kn:LX:=.G .n1
noncomputable def LX.ko:LX:=.A .q .r
noncomputable def LX.kp:LX:=.P .n2 50
noncomputable def LX.kq:LX:=.M .b .c
noncomputable def LX.kr:LX:=.S .a .n2
noncomputable def LX.ks:LX:=.A (.N 97) .q
noncomputable def LX.kt:LX:=.D .n1 (.P .n2 48)
noncomputable def LX.ku:LX:=.N 6004799503160661
noncomputable def LX.kv:LX:=.N 100000
noncomputable def LX.kw:LX:=.P .n2 40
noncomputable def LX.kx:LX:=.S .b .c
noncomputable def LX.ky:LX:=.P .n2 63
noncomputable def LX.kz:LX:=.D .n1 (.P .n2 49)
noncomputable def LX.kA:LX:=.M .n6 .b
noncomputable def LX.kB:LX:=.D .n1 .n8
noncomputable def LX.kC:LX:=.P .n2 54
noncomputable def LX.kD:LX:=.M .c .d
noncomputable def LX.kE:LX:=.E 4
noncomputable def LX.kF:LX:=.D .kb .n2
noncomputable def LX.kG:LX:=.E 32
noncomputable def LX.kH:LX:=.A .b .c
noncomputable def LX.kI:LX:=.D .n5 (.P .n2 52)
noncomputable def LX.kJ:LX:=.M .n6 .n0
noncomputable def LX.kK:LX:=.D .n3 .n2
noncomputable def LX.kL:LX:=.A .s .n1
noncomputable def LX.kM:LX:=.N 18014398509481984
noncomputable def LX.kN:LX:=.D .b .n2
end LA
open LA
theorem Ę (v:List Rat) (g:LH) (hs:List LH) (h:chk g hs=true):Dn (.branch 32 (rl 0 v 0) (.leaf 0)) (g.go (.branch 32 (rl 0 v 0) (.leaf 0))) hs:=main _ (λi h=>by
 show 0<=(rk ((rl 0 v 0).get i) 0 (rW 32 i):Rat);rw[h];exact ei) g hs h
theorem ý (v:List Int) (w:List Nat) (g:LH) (hs:List LH) (h:rS g hs=true):Dz (rl 0 v 0) (rl 0 w 32) (g.gz (rl 0 v 0) (rl 0 w 32)) hs:= by
 refine dz ?_ (bL (bL h).2).1 (main _ (YR _ _) g.zg (hs.map LH.z) (bL (bL h).2).2);cases g with
 |L c a b=>exact gLZ (bL h).1
 |T c a b=>exact gTZ (bL h).1
 |X c a b=>exact gLN (bL h).1
 |Y c a b=>exact gTN (bL h).1
 |U c a b=>exact geZ (bL h).1
 |Z c a b=>exact geN (bL h).1
def Ŧ (P:Prop) (b:Bool):Prop:=@rk (λ_=>Prop) True P b
theorem if1{P:Prop}:∀{b:Bool},(b=true->P)->Ŧ P b
 |true,h=>h rfl
 |false,_=>trivial
theorem Ο (v:List Rat) (g:LH) (hs:List LH):Ŧ (Dn (.branch 32 (rl 0 v 0) (.leaf 0)) (g.go (.branch 32 (rl 0 v 0) (.leaf 0))) hs) (chk g hs):=if1 (Ę v g hs)
theorem Ď (v:List Int) (w:List Nat) (g:LH) (hs:List LH):Ŧ (Dz (rl 0 v 0) (rl 0 w 32) (g.gz (rl 0 v 0) (rl 0 w 32)) hs) (rS g hs):=if1 (ý v w g hs)
theorem Ņ (v:List Int) (g:LH) (hs:List LH):Ŧ (Dz (rl 0 v 0) (.leaf 0) (g.gz (rl 0 v 0) (.leaf 0)) hs) (rS g hs):=Ď v [] g hs
theorem ã (w:List Nat) (g:LH) (hs:List LH):Ŧ (Dz (.leaf 0) (rl 0 w 32) (g.gz (.leaf 0) (rl 0 w 32)) hs) (rS g hs):=Ď [] w g hs
def ĺ (g:LH) (hs:List LH):=Ο [] g hs
def ı{a:Rat}(g:LH) (hs:List LH):=Ο [a] g hs
def ė{a b:Rat}(g:LH) (hs:List LH):=Ο [a,b] g hs
def Ź{a b c:Rat}(g:LH) (hs:List LH):=Ο [a,b,c] g hs
def Ī{a b c d:Rat}(g:LH) (hs:List LH):=Ο [a,b,c,d] g hs
def Ů{a b c d e:Rat}(g:LH) (hs:List LH):=Ο [a,b,c,d,e] g hs
def fr6{a b c d e f:Rat}(g:LH) (hs:List LH):=Ο [a,b,c,d,e,f] g hs
def fz0 (g:LH) (hs:List LH):=Ņ [] g hs
def ñ{a:Int}(g:LH) (hs:List LH):=Ņ [a] g hs
def Ĺ{a b:Int}(g:LH) (hs:List LH):=Ņ [a,b] g hs
def fz3{a b c:Int}(g:LH) (hs:List LH):=Ņ [a,b,c] g hs
def fz4{a b c d:Int}(g:LH) (hs:List LH):=Ņ [a,b,c,d] g hs
def fz5{a b c d e:Int}(g:LH) (hs:List LH):=Ņ [a,b,c,d,e] g hs
def fz6{a b c d e f:Int}(g:LH) (hs:List LH):=Ņ [a,b,c,d,e,f] g hs
def ů (g:LH) (hs:List LH):=ã [] g hs
def à{a:Nat}(g:LH) (hs:List LH):=ã [a] g hs
def Ò{a b:Nat}(g:LH) (hs:List LH):=ã [a,b] g hs
def æ{a b c:Nat}(g:LH) (hs:List LH):=ã [a,b,c] g hs
def Ľ{a b c d:Nat}(g:LH) (hs:List LH):=ã [a,b,c,d] g hs
def Ŝ{a b c d e:Nat}(g:LH) (hs:List LH):=ã [a,b,c,d,e] g hs
def Ι{a b c d e f:Nat}(g:LH) (hs:List LH):=ã [a,b,c,d,e,f] g hs
theorem ī (v:List Int) (g:LH) (hs:List LH) (h:rS g hs=true):Dz (rl 0 v 0) (.leaf 0) (g.gz (rl 0 v 0) (.leaf 0)) hs:=ý v [] g hs h
theorem ean (w:List Nat) (g:LH) (hs:List LH) (h:rS g hs=true):Dz (.leaf 0) (rl 0 w 32) (g.gz (.leaf 0) (rl 0 w 32)) hs:=ý [] w g hs h
def en1{a:Nat}(g:LH) (hs:List LH) (h:rS g hs=true):=ean [a] g hs h
def en2{a b:Nat}(g:LH) (hs:List LH) (h:rS g hs=true):=ean [a,b] g hs h
def å (g:LH) (hs:List LH) (h:chk g hs=true):=Ę [] g hs h
def Æ{a:Rat}(g:LH) (hs:List LH) (h:chk g hs=true):=Ę [a] g hs h
def Ï{a b:Rat}(g:LH) (hs:List LH) (h:chk g hs=true):=Ę [a,b] g hs h
def Ø{a b c:Rat}(g:LH) (hs:List LH) (h:chk g hs=true):=Ę [a,b,c] g hs h
def õ{a b c d:Rat}(g:LH) (hs:List LH) (h:chk g hs=true):=Ę [a,b,c,d] g hs h
def ĉ{a b c d e:Rat}(g:LH) (hs:List LH) (h:chk g hs=true):=Ę [a,b,c,d,e] g hs h
def ŝ{a b c d e f:Rat}(g:LH) (hs:List LH) (h:chk g hs=true):=Ę [a,b,c,d,e,f] g hs h
def Ű{a:Int}(g:LH) (hs:List LH) (h:rS g hs=true):=ī [a] g hs h
def Ğ{a b:Int}(g:LH) (hs:List LH) (h:rS g hs=true):=ī [a,b] g hs h
def π{a b c:Int}(g:LH) (hs:List LH) (h:rS g hs=true):=ī [a,b,c] g hs h
def Ρ{a b c d:Int}(g:LH) (hs:List LH) (h:rS g hs=true):=ī [a,b,c,d] g hs h
def ez5{a b c d e:Int}(g:LH) (hs:List LH) (h:rS g hs=true):=ī [a,b,c,d,e] g hs h
noncomputable def ya{a b:Int}:=@Ĺ a b (.l .kb (.P .n2 17)) [.l .a (.N 114688),.l .b (.N 7168)]
noncomputable def yb{a:Nat}:=@à a (.l .n0 .q) []
noncomputable def yc{a:Rat}:=@Æ a (.t .n0 .a) [.l .n1 .a] rfl
noncomputable def yd{a b:Int}:=@Ĺ a b (.l .n0 .kb) [.l .n0 .a,.l .n0 .b]
end Mine
end
section
namespace Mine
theorem xa{p0:Prop}{p1:Prop}{G:Prop}(h:(p0)/\(p1)) (k:(p0)->(p1)->G):G :=k h.1 h.2
theorem xe{A:Sort _}{p1:A->Prop}{G:Prop}(h:∃a:A,((p1 a))) (k:∀(a:A),(p1 a)->G):G :=h.elim λx0 w0=>k x0 w0
theorem xr{Y0:Sort _}{y0:Y0}{t0:Y0}{p1:Prop}{G:Y0->Prop}(h:y0=t0/\(p1)) (k:(p1)->G (t0)):G y0:=gk (motive:=λz=>G z) h.1.symm (k h.2)
theorem Ą{p0:Prop}{p1:Prop}{p2:Prop}{G:Prop}(h:(p0)/\(p1)/\(p2)) (k:(p0)->(p1)->(p2)->G):G :=k h.1 h.2.1 h.2.2
theorem ä{A:Sort _}{Y1:Sort _}{y1:Y1}{t1:A->Y1}{G:Y1->Prop}(h:∃a:A,(y1=t1 a)) (k:∀(a:A),G (t1 a)):G y1:=h.elim λx0 w0=>gk (motive:=λz=>G z) w0.symm (k x0)
theorem É{A:Sort _}{p1:A->Prop}{p2:A->Prop}{G:Prop}(h:∃a:A,((p1 a)/\(p2 a))) (k:∀(a:A),(p1 a)->(p2 a)->G):G :=h.elim λx0 w0=>k x0 w0.1 w0.2
theorem ň{A:Sort _}{B:Sort _}{p2:A->B->Prop}{G:Prop}(h:∃a:A,(∃b:B,((p2 a b)))) (k:∀(a:A),∀(b:B),(p2 a b)->G):G :=h.elim λx0 w0=>w0.elim λx1 w1=>k x0 x1 w1
theorem Ő{A:Sort _}{Y1:Sort _}{y1:Y1}{t1:A->Y1}{p2:A->Prop}{G:Y1->Prop}(h:∃a:A,(y1=t1 a/\(p2 a))) (k:∀(a:A),(p2 a)->G (t1 a)):G y1:=h.elim λx0 w0=>gk (motive:=λz=>G z) w0.1.symm (k x0 w0.2)
theorem bE{p0:Prop}{p1:Prop}{p2:Prop}{p3:Prop}{G:Prop}(h:(p0)/\(p1)/\(p2)/\(p3)) (k:(p0)->(p1)->(p2)->(p3)->G):G :=k h.1 h.2.1 h.2.2.1 h.2.2.2
theorem tF{p0:Prop}{A:Sort _}{p2:A->Prop}{p3:A->Prop}{G:Prop}(h:(p0)/\∃a:A,((p2 a)/\(p3 a))) (k:(p0)->∀(a:A),(p2 a)->(p3 a)->G):G :=h.2.elim λx1 w1=>k h.1 x1 w1.1 w1.2
theorem YT{A:Sort _}{p1:A->Prop}{Y2:Sort _}{y2:Y2}{t2:A->Y2}{G:Y2->Prop}(h:∃a:A,((p1 a)/\y2=t2 a)) (k:∀(a:A),(p1 a)->G (t2 a)):G y2:=h.elim λx0 w0=>gk (motive:=λz=>G z) w0.2.symm (k x0 w0.1)
theorem jQ{A:Sort _}{p1:A->Prop}{Y2:Sort _}{y2:Y2}{t2:A->Y2}{G:Y2->Prop}(h:∃a:A,((p1 a)/\t2 a=y2)) (k:∀(a:A),(p1 a)->G (t2 a)):G y2:=h.elim λx0 w0=>gk (motive:=λz=>G z) w0.2 (k x0 w0.1)
theorem nQ{A:Sort _}{p1:A->Prop}{p2:A->Prop}{p3:A->Prop}{G:Prop}(h:∃a:A,((p1 a)/\(p2 a)/\(p3 a))) (k:∀(a:A),(p1 a)->(p2 a)->(p3 a)->G):G :=h.elim λx0 w0=>k x0 w0.1 w0.2.1 w0.2.2
theorem LN{A:Sort _}{B:Sort _}{Y2:Sort _}{y2:Y2}{t2:A->B->Y2}{G:Y2->Prop}(h:∃a:A,(∃b:B,(y2=t2 a b))) (k:∀(a:A),∀(b:B),G (t2 a b)):G y2:=h.elim λx0 w0=>w0.elim λx1 w1=>gk (motive:=λz=>G z) w1.symm (k x0 x1)
theorem lE{A:Sort _}{B:Sort _}{p2:A->B->Prop}{p3:A->B->Prop}{G:Prop}(h:∃a:A,(∃b:B,((p2 a b)/\(p3 a b)))) (k:∀(a:A),∀(b:B),(p2 a b)->(p3 a b)->G):G :=h.elim λx0 w0=>w0.elim λx1 w1=>k x0 x1 w1.1 w1.2
theorem jA{A:Sort _}{B:Sort _}{C:Sort _}{p3:A->B->C->Prop}{G:Prop}(h:∃a:A,(∃b:B,(∃c:C,((p3 a b c))))) (k:∀(a:A),∀(b:B),∀(c:C),(p3 a b c)->G):G :=h.elim λx0 w0=>w0.elim λx1 w1=>w1.elim λx2 w2=>k x0 x1 x2 w2
theorem zQ{A:Sort _}{B:Sort _}{Y2:Sort _}{y2:Y2}{t2:A->B->Y2}{p3:A->B->Prop}{G:Y2->Prop}(h:∃a:A,(∃b:B,(y2=t2 a b/\(p3 a b)))) (k:∀(a:A),∀(b:B),(p3 a b)->G (t2 a b)):G y2:=h.elim λx0 w0=>w0.elim λx1 w1=>gk (motive:=λz=>G z) w1.1.symm (k x0 x1 w1.2)
theorem YU{A:Sort _}{Y1:Sort _}{y1:Y1}{t1:A->Y1}{Y2:Sort _}{y2:Y2}{t2:A->Y2}{G:Y1->Y2->Prop}(h:∃a:A,(y1=t1 a/\t2 a=y2)) (k:∀(a:A),G (t1 a) (t2 a)):G y1 y2:=h.elim λx0 w0=>gk (motive:=λz=>G z _) w0.1.symm (gk (motive:=λz=>G _ z) w0.2 (k x0))
theorem jB{p0:Prop}{p1:Prop}{p2:Prop}{p3:Prop}{p4:Prop}{G:Prop}(h:(p0)/\(p1)/\(p2)/\(p3)/\(p4)) (k:(p0)->(p1)->(p2)->(p3)->(p4)->G):G :=k h.1 h.2.1 h.2.2.1 h.2.2.2.1 h.2.2.2.2
theorem cW{A:Sort _}{p1:A->Prop}{p2:A->Prop}{p3:A->Prop}{p4:A->Prop}{G:Prop}(h:∃a:A,((p1 a)/\(p2 a)/\(p3 a)/\(p4 a))) (k:∀(a:A),(p1 a)->(p2 a)->(p3 a)->(p4 a)->G):G :=h.elim λx0 w0=>k x0 w0.1 w0.2.1 w0.2.2.1 w0.2.2.2
theorem fR{A:Sort _}{B:Sort _}{p2:A->B->Prop}{p3:A->B->Prop}{p4:A->B->Prop}{G:Prop}(h:∃a:A,(∃b:B,((p2 a b)/\(p3 a b)/\(p4 a b)))) (k:∀(a:A),∀(b:B),(p2 a b)->(p3 a b)->(p4 a b)->G):G :=h.elim λx0 w0=>w0.elim λx1 w1=>k x0 x1 w1.1 w1.2.1 w1.2.2
theorem nR{A:Sort _}{B:Sort _}{C:Sort _}{p3:A->B->C->Prop}{p4:A->B->C->Prop}{G:Prop}(h:∃a:A,(∃b:B,(∃c:C,((p3 a b c)/\(p4 a b c))))) (k:∀(a:A),∀(b:B),∀(c:C),(p3 a b c)->(p4 a b c)->G):G :=h.elim λx0 w0=>w0.elim λx1 w1=>w1.elim λx2 w2=>k x0 x1 x2 w2.1 w2.2
theorem fZ{A:Sort _}{B:Sort _}{C:Sort _}{D:Sort _}{p4:A->B->C->D->Prop}{G:Prop}(h:∃a:A,(∃b:B,(∃c:C,(∃d:D,((p4 a b c d)))))) (k:∀(a:A),∀(b:B),∀(c:C),∀(d:D),(p4 a b c d)->G):G :=h.elim λx0 w0=>w0.elim λx1 w1=>w1.elim λx2 w2=>w2.elim λx3 w3=>k x0 x1 x2 x3 w3
theorem fF{A:Sort _}{B:Sort _}{Y2:Sort _}{y2:Y2}{t2:A->B->Y2}{p3:A->B->Prop}{p4:A->B->Prop}{G:Y2->Prop}(h:∃a:A,(∃b:B,(y2=t2 a b/\(p3 a b)/\(p4 a b)))) (k:∀(a:A),∀(b:B),(p3 a b)->(p4 a b)->G (t2 a b)):G y2:=h.elim λx0 w0=>w0.elim λx1 w1=>gk (motive:=λz=>G z) w1.1.symm (k x0 x1 w1.2.1 w1.2.2)
theorem VL{A:Sort _}{Y1:Sort _}{y1:Y1}{t1:A->Y1}{p2:A->Prop}{p3:A->Prop}{p4:A->Prop}{G:Y1->Prop}(h:∃a:A,(y1=t1 a/\(p2 a)/\(p3 a)/\(p4 a))) (k:∀(a:A),(p2 a)->(p3 a)->(p4 a)->G (t1 a)):G y1:=h.elim λx0 w0=>gk (motive:=λz=>G z) w0.1.symm (k x0 w0.2.1 w0.2.2.1 w0.2.2.2)
theorem pK{p0:Prop}{p1:Prop}{p2:Prop}{p3:Prop}{p4:Prop}{p5:Prop}{G:Prop}(h:(p0)/\(p1)/\(p2)/\(p3)/\(p4)/\(p5)) (k:(p0)->(p1)->(p2)->(p3)->(p4)->(p5)->G):G :=k h.1 h.2.1 h.2.2.1 h.2.2.2.1 h.2.2.2.2.1 h.2.2.2.2.2
theorem zR{A:Sort _}{B:Sort _}{p2:A->B->Prop}{p3:A->B->Prop}{Y4:Sort _}{y4:Y4}{t4:A->B->Y4}{G:Y4->Prop}(h:∃a:A,(∃b:B,((p2 a b)/\(p3 a b)/\t4 a b=y4))) (k:∀(a:A),∀(b:B),(p2 a b)->(p3 a b)->G (t4 a b)):G y4:=h.elim λx0 w0=>w0.elim λx1 w1=>gk (motive:=λz=>G z) w1.2.2 (k x0 x1 w1.1 w1.2.1)
theorem dG{A:Sort _}{B:Sort _}{p2:A->B->Prop}{p3:A->B->Prop}{p4:A->B->Prop}{p5:A->B->Prop}{G:Prop}(h:∃a:A,(∃b:B,((p2 a b)/\(p3 a b)/\(p4 a b)/\(p5 a b)))) (k:∀(a:A),∀(b:B),(p2 a b)->(p3 a b)->(p4 a b)->(p5 a b)->G):G :=h.elim λx0 w0=>w0.elim λx1 w1=>k x0 x1 w1.1 w1.2.1 w1.2.2.1 w1.2.2.2
theorem pL{A:Sort _}{B:Sort _}{C:Sort _}{p3:A->B->C->Prop}{p4:A->B->C->Prop}{p5:A->B->C->Prop}{G:Prop}(h:∃a:A,(∃b:B,(∃c:C,((p3 a b c)/\(p4 a b c)/\(p5 a b c))))) (k:∀(a:A),∀(b:B),∀(c:C),(p3 a b c)->(p4 a b c)->(p5 a b c)->G):G :=h.elim λx0 w0=>w0.elim λx1 w1=>w1.elim λx2 w2=>k x0 x1 x2 w2.1 w2.2.1 w2.2.2
theorem mK{A:Sort _}{B:Sort _}{C:Sort _}{Y3:Sort _}{y3:Y3}{t3:A->B->C->Y3}{p4:A->B->C->Prop}{p5:A->B->C->Prop}{G:Y3->Prop}(h:∃a:A,(∃b:B,(∃c:C,(y3=t3 a b c/\(p4 a b c)/\(p5 a b c))))) (k:∀(a:A),∀(b:B),∀(c:C),(p4 a b c)->(p5 a b c)->G (t3 a b c)):G y3:=h.elim λx0 w0=>w0.elim λx1 w1=>w1.elim λx2 w2=>gk (motive:=λz=>G z) w2.1.symm (k x0 x1 x2 w2.2.1 w2.2.2)
theorem j6{A:Sort _}{B:Sort _}{Y2:Sort _}{y2:Y2}{t2:A->B->Y2}{p3:A->B->Prop}{p4:A->B->Prop}{p5:A->B->Prop}{G:Y2->Prop}(h:∃a:A,(∃b:B,(y2=t2 a b/\(p3 a b)/\(p4 a b)/\(p5 a b)))) (k:∀(a:A),∀(b:B),(p3 a b)->(p4 a b)->(p5 a b)->G (t2 a b)):G y2:=h.elim λx0 w0=>w0.elim λx1 w1=>gk (motive:=λz=>G z) w1.1.symm (k x0 x1 w1.2.1 w1.2.2.1 w1.2.2.2)
theorem D2{A:Sort _}{B:Sort _}{Y2:Sort _}{y2:Y2}{t2:A->B->Y2}{Y3:Sort _}{y3:Y3}{t3:A->B->Y3}{p4:A->B->Prop}{p5:A->B->Prop}{G:Y2->Y3->Prop}(h:∃a:A,(∃b:B,(y2=t2 a b/\y3=t3 a b/\(p4 a b)/\(p5 a b)))) (k:∀(a:A),∀(b:B),(p4 a b)->(p5 a b)->G (t2 a b) (t3 a b)):G y2 y3:=h.elim λx0 w0=>w0.elim λx1 w1=>gk (motive:=λz=>G z _) w1.1.symm (gk (motive:=λz=>G _ z) w1.2.1.symm (k x0 x1 w1.2.2.1 w1.2.2.2))
theorem D3{A:Sort _}{Y1:Sort _}{y1:Y1}{t1:A->Y1}{p2:A->Prop}{B:Sort _}{p4:A->B->Prop}{p5:A->B->Prop}{G:Y1->Prop}(h:∃a:A,(y1=t1 a/\(p2 a)/\∃b:B,((p4 a b)/\(p5 a b)))) (k:∀(a:A),(p2 a)->∀(b:B),(p4 a b)->(p5 a b)->G (t1 a)):G y1:=h.elim λx0 w0=>w0.2.2.elim λx3 w3=>gk (motive:=λz=>G z) w0.1.symm (k x0 w0.2.1 x3 w3.1 w3.2)
theorem tM{p0:Prop}{p1:Prop}{p2:Prop}{p3:Prop}{p4:Prop}{p5:Prop}{p6:Prop}{G:Prop}(h:(p0)/\(p1)/\(p2)/\(p3)/\(p4)/\(p5)/\(p6)) (k:(p0)->(p1)->(p2)->(p3)->(p4)->(p5)->(p6)->G):G :=k h.1 h.2.1 h.2.2.1 h.2.2.2.1 h.2.2.2.2.1 h.2.2.2.2.2.1 h.2.2.2.2.2.2
theorem kL{A:Sort _}{B:Sort _}{p2:A->B->Prop}{p3:A->B->Prop}{p4:A->B->Prop}{p5:A->B->Prop}{p6:A->B->Prop}{G:Prop}(h:∃a:A,(∃b:B,((p2 a b)/\(p3 a b)/\(p4 a b)/\(p5 a b)/\(p6 a b)))) (k:∀(a:A),∀(b:B),(p2 a b)->(p3 a b)->(p4 a b)->(p5 a b)->(p6 a b)->G):G :=h.elim λx0 w0=>w0.elim λx1 w1=>k x0 x1 w1.1 w1.2.1 w1.2.2.1 w1.2.2.2.1 w1.2.2.2.2
theorem cH{A:Sort _}{B:Sort _}{C:Sort _}{p3:A->B->C->Prop}{p4:A->B->C->Prop}{p5:A->B->C->Prop}{p6:A->B->C->Prop}{G:Prop}(h:∃a:A,(∃b:B,(∃c:C,((p3 a b c)/\(p4 a b c)/\(p5 a b c)/\(p6 a b c))))) (k:∀(a:A),∀(b:B),∀(c:C),(p3 a b c)->(p4 a b c)->(p5 a b c)->(p6 a b c)->G):G :=h.elim λx0 w0=>w0.elim λx1 w1=>w1.elim λx2 w2=>k x0 x1 x2 w2.1 w2.2.1 w2.2.2.1 w2.2.2.2
theorem RP{A:Sort _}{B:Sort _}{C:Sort _}{Y3:Sort _}{y3:Y3}{t3:A->B->C->Y3}{p4:A->B->C->Prop}{p5:A->B->C->Prop}{p6:A->B->C->Prop}{G:Y3->Prop}(h:∃a:A,(∃b:B,(∃c:C,(y3=t3 a b c/\(p4 a b c)/\(p5 a b c)/\(p6 a b c))))) (k:∀(a:A),∀(b:B),∀(c:C),(p4 a b c)->(p5 a b c)->(p6 a b c)->G (t3 a b c)):G y3:=h.elim λx0 w0=>w0.elim λx1 w1=>w1.elim λx2 w2=>gk (motive:=λz=>G z) w2.1.symm (k x0 x1 x2 w2.2.1 w2.2.2.1 w2.2.2.2)
theorem lO{p0:Prop}{p1:Prop}{A:Sort _}{p3:A->Prop}{p4:A->Prop}{p5:A->Prop}{p6:A->Prop}{p7:A->Prop}{G:Prop}(h:(p0)/\(p1)/\∃a:A,((p3 a)/\(p4 a)/\(p5 a)/\(p6 a)/\(p7 a))) (k:(p0)->(p1)->∀(a:A),(p3 a)->(p4 a)->(p5 a)->(p6 a)->(p7 a)->G):G :=h.2.2.elim λx2 w2=>k h.1 h.2.1 x2 w2.1 w2.2.1 w2.2.2.1 w2.2.2.2.1 w2.2.2.2.2
theorem lP{A:Sort _}{B:Sort _}{C:Sort _}{D:Sort _}{Y4:Sort _}{y4:Y4}{t4:A->B->C->D->Y4}{p5:A->B->C->D->Prop}{p6:A->B->C->D->Prop}{p7:A->B->C->D->Prop}{G:Y4->Prop}(h:∃a:A,(∃b:B,(∃c:C,(∃d:D,(y4=t4 a b c d/\(p5 a b c d)/\(p6 a b c d)/\(p7 a b c d)))))) (k:∀(a:A),∀(b:B),∀(c:C),∀(d:D),(p5 a b c d)->(p6 a b c d)->(p7 a b c d)->G (t4 a b c d)):G y4:=h.elim λx0 w0=>w0.elim λx1 w1=>w1.elim λx2 w2=>w2.elim λx3 w3=>gk (motive:=λz=>G z) w3.1.symm (k x0 x1 x2 x3 w3.2.1 w3.2.2.1 w3.2.2.2)
theorem hO{A:Sort _}{B:Sort _}{C:Sort _}{Y3:Sort _}{y3:Y3}{t3:A->B->C->Y3}{p4:A->B->C->Prop}{p5:A->B->C->Prop}{p6:A->B->C->Prop}{p7:A->B->C->Prop}{G:Y3->Prop}(h:∃a:A,(∃b:B,(∃c:C,(y3=t3 a b c/\(p4 a b c)/\(p5 a b c)/\(p6 a b c)/\(p7 a b c))))) (k:∀(a:A),∀(b:B),∀(c:C),(p4 a b c)->(p5 a b c)->(p6 a b c)->(p7 a b c)->G (t3 a b c)):G y3:=h.elim λx0 w0=>w0.elim λx1 w1=>w1.elim λx2 w2=>gk (motive:=λz=>G z) w2.1.symm (k x0 x1 x2 w2.2.1 w2.2.2.1 w2.2.2.2.1 w2.2.2.2.2)
theorem IM{A:Sort _}{B:Sort _}{C:Sort _}{D:Sort _}{Y4:Sort _}{y4:Y4}{t4:A->B->C->D->Y4}{p5:A->B->C->D->Prop}{p6:A->B->C->D->Prop}{p7:A->B->C->D->Prop}{p8:A->B->C->D->Prop}{G:Y4->Prop}(h:∃a:A,(∃b:B,(∃c:C,(∃d:D,(y4=t4 a b c d/\(p5 a b c d)/\(p6 a b c d)/\(p7 a b c d)/\(p8 a b c d)))))) (k:∀(a:A),∀(b:B),∀(c:C),∀(d:D),(p5 a b c d)->(p6 a b c d)->(p7 a b c d)->(p8 a b c d)->G (t4 a b c d)):G y4:=h.elim λx0 w0=>w0.elim λx1 w1=>w1.elim λx2 w2=>w2.elim λx3 w3=>gk (motive:=λz=>G z) w3.1.symm (k x0 x1 x2 x3 w3.2.1 w3.2.2.1 w3.2.2.2.1 w3.2.2.2.2)
theorem j7{A:Sort _}{B:Sort _}{C:Sort _}{D:Sort _}{Y4:Sort _}{y4:Y4}{t4:A->B->C->D->Y4}{p5:A->B->C->D->Prop}{p6:A->B->C->D->Prop}{p7:A->B->C->D->Prop}{p8:A->B->C->D->Prop}{p9:A->B->C->D->Prop}{G:Y4->Prop}(h:∃a:A,(∃b:B,(∃c:C,(∃d:D,(y4=t4 a b c d/\(p5 a b c d)/\(p6 a b c d)/\(p7 a b c d)/\(p8 a b c d)/\(p9 a b c d)))))) (k:∀(a:A),∀(b:B),∀(c:C),∀(d:D),(p5 a b c d)->(p6 a b c d)->(p7 a b c d)->(p8 a b c d)->(p9 a b c d)->G (t4 a b c d)):G y4:=h.elim λx0 w0=>w0.elim λx1 w1=>w1.elim λx2 w2=>w2.elim λx3 w3=>gk (motive:=λz=>G z) w3.1.symm (k x0 x1 x2 x3 w3.2.1 w3.2.2.1 w3.2.2.2.1 w3.2.2.2.2.1 w3.2.2.2.2.2)
theorem Ý{p0:Prop}{p1:Prop}{p2:Prop}(h0:p0) (h1:p1) (h2:p2):p0/\p1/\p2:=⟨h0,h1,h2⟩
theorem ο{p0:Prop}{A:Sort _}{p2:A->Prop}(h0:p0) (a:A) (h2:p2 a):p0/\∃a,p2 a:=⟨h0,a,h2⟩
theorem Õ{A:Sort _}{p1:A->Prop}{p2:A->Prop}(a:A) (h1:p1 a) (h2:p2 a):∃a,p1 a/\p2 a:=⟨a,h1,h2⟩
theorem ŭ{A:Sort _}{B:Sort _}{p2:A->B->Prop}(a:A) (b:B) (h2:p2 a b):∃a,∃b,p2 a b:=⟨a,b,h2⟩
theorem d9{p0:Prop}{p1:Prop}{p2:Prop}{p3:Prop}(h0:p0) (h1:p1) (h2:p2) (h3:p3):p0/\p1/\p2/\p3:=⟨h0,h1,h2,h3⟩
theorem rT{p0:Prop}{A:Sort _}{p2:A->Prop}{p3:A->Prop}(h0:p0) (a:A) (h2:p2 a) (h3:p3 a):p0/\∃a,p2 a/\p3 a:=⟨h0,a,h2,h3⟩
theorem jC{A:Sort _}{p1:A->Prop}{p2:A->Prop}{p3:A->Prop}(a:A) (h1:p1 a) (h2:p2 a) (h3:p3 a):∃a,p1 a/\p2 a/\p3 a:=⟨a,h1,h2,h3⟩
theorem mL{A:Sort _}{B:Sort _}{p2:A->B->Prop}{p3:A->B->Prop}(a:A) (b:B) (h2:p2 a b) (h3:p3 a b):∃a,∃b,p2 a b/\p3 a b:=⟨a,b,h2,h3⟩
theorem fX{A:Sort _}{B:Sort _}{C:Sort _}{p3:A->B->C->Prop}(a:A) (b:B) (c:C) (h3:p3 a b c):∃a,∃b,∃c,p3 a b c:=⟨a,b,c,h3⟩
theorem jD{p0:Prop}{p1:Prop}{p2:Prop}{p3:Prop}{p4:Prop}(h0:p0) (h1:p1) (h2:p2) (h3:p3) (h4:p4):p0/\p1/\p2/\p3/\p4:=⟨h0,h1,h2,h3,h4⟩
theorem GQ{p0:Prop}{A:Sort _}{B:Sort _}{p3:A->B->Prop}{p4:A->B->Prop}(h0:p0) (a:A) (b:B) (h3:p3 a b) (h4:p4 a b):p0/\∃a,∃b,p3 a b/\p4 a b:=⟨h0,a,b,h3,h4⟩
theorem hV{A:Sort _}{p1:A->Prop}{p2:A->Prop}{p3:A->Prop}{p4:A->Prop}(a:A) (h1:p1 a) (h2:p2 a) (h3:p3 a) (h4:p4 a):∃a,p1 a/\p2 a/\p3 a/\p4 a:=⟨a,h1,h2,h3,h4⟩
theorem cC{A:Sort _}{B:Sort _}{p2:A->B->Prop}{p3:A->B->Prop}{p4:A->B->Prop}(a:A) (b:B) (h2:p2 a b) (h3:p3 a b) (h4:p4 a b):∃a,∃b,p2 a b/\p3 a b/\p4 a b:=⟨a,b,h2,h3,h4⟩
theorem jE{A:Sort _}{B:Sort _}{C:Sort _}{p3:A->B->C->Prop}{p4:A->B->C->Prop}(a:A) (b:B) (c:C) (h3:p3 a b c) (h4:p4 a b c):∃a,∃b,∃c,p3 a b c/\p4 a b c:=⟨a,b,c,h3,h4⟩
theorem cX{A:Sort _}{B:Sort _}{p2:A->B->Prop}{p3:A->B->Prop}{p4:A->B->Prop}{p5:A->B->Prop}(a:A) (b:B) (h2:p2 a b) (h3:p3 a b) (h4:p4 a b) (h5:p5 a b):∃a,∃b,p2 a b/\p3 a b/\p4 a b/\p5 a b:=⟨a,b,h2,h3,h4,h5⟩
theorem rU{A:Sort _}{B:Sort _}{C:Sort _}{p3:A->B->C->Prop}{p4:A->B->C->Prop}{p5:A->B->C->Prop}(a:A) (b:B) (c:C) (h3:p3 a b c) (h4:p4 a b c) (h5:p5 a b c):∃a,∃b,∃c,p3 a b c/\p4 a b c/\p5 a b c:=⟨a,b,c,h3,h4,h5⟩
theorem dH{A:Sort _}{B:Sort _}{C:Sort _}{p3:A->B->C->Prop}{p4:A->B->C->Prop}{p5:A->B->C->Prop}{p6:A->B->C->Prop}(a:A) (b:B) (c:C) (h3:p3 a b c) (h4:p4 a b c) (h5:p5 a b c) (h6:p6 a b c):∃a,∃b,∃c,p3 a b c/\p4 a b c/\p5 a b c/\p6 a b c:=⟨a,b,c,h3,h4,h5,h6⟩
theorem i6{A:Sort _}{B:Sort _}{C:Sort _}{D:Sort _}{p4:A->B->C->D->Prop}{p5:A->B->C->D->Prop}{p6:A->B->C->D->Prop}(a:A) (b:B) (c:C) (d:D) (h4:p4 a b c d) (h5:p5 a b c d) (h6:p6 a b c d):∃a,∃b,∃c,∃d,p4 a b c d/\p5 a b c d/\p6 a b c d:=⟨a,b,c,d,h4,h5,h6⟩
theorem eV{A:Sort _}{B:Sort _}{C:Sort _}{p3:A->B->C->Prop}{p4:A->B->C->Prop}{p5:A->B->C->Prop}{p6:A->B->C->Prop}{p7:A->B->C->Prop}(a:A) (b:B) (c:C) (h3:p3 a b c) (h4:p4 a b c) (h5:p5 a b c) (h6:p6 a b c) (h7:p7 a b c):∃a,∃b,∃c,p3 a b c/\p4 a b c/\p5 a b c/\p6 a b c/\p7 a b c:=⟨a,b,c,h3,h4,h5,h6,h7⟩
theorem cP{A:Sort _}{B:Sort _}{C:Sort _}{D:Sort _}{p4:A->B->C->D->Prop}{p5:A->B->C->D->Prop}{p6:A->B->C->D->Prop}{p7:A->B->C->D->Prop}{p8:A->B->C->D->Prop}(a:A) (b:B) (c:C) (d:D) (h4:p4 a b c d) (h5:p5 a b c d) (h6:p6 a b c d) (h7:p7 a b c d) (h8:p8 a b c d):∃a,∃b,∃c,∃d,p4 a b c d/\p5 a b c d/\p6 a b c d/\p7 a b c d/\p8 a b c d:=⟨a,b,c,d,h4,h5,h6,h7,h8⟩
theorem jF{A:Sort _}{B:Sort _}{C:Sort _}{D:Sort _}{H:Sort _}{I:Sort _}{p6:A->B->C->D->H->I->Prop}{p7:A->B->C->D->H->I->Prop}{p8:A->B->C->D->H->I->Prop}{p9:A->B->C->D->H->I->Prop}{p10:A->B->C->D->H->I->Prop}(a:A) (b:B) (c:C) (d:D) (h:H) (i:I) (h6:p6 a b c d h i) (h7:p7 a b c d h i) (h8:p8 a b c d h i) (h9:p9 a b c d h i) (Px:p10 a b c d h i):∃a,∃b,∃c,∃d,∃h,∃i,p6 a b c d h i/\p7 a b c d h i/\p8 a b c d h i/\p9 a b c d h i/\p10 a b c d h i:=⟨a,b,c,d,h,i,h6,h7,h8,h9,Px⟩
end Mine
end
section
open PySem PySem.W PyProof.Rows PySem.W.X
namespace Mine
inductive SV where
 |i (n:Int)
 |t (s:Str)
 deriving DecidableEq
inductive PV where
 |none
 |bool (b:Bool)
 |int (n:Int)
 |flt (x:UInt64)
 |str (s:Str)
 |tup (l:List PV)
 |lst (l:List PV)
 |dcti (l:List (Int×SV))
 |dcts (l:List (Str×SV))
namespace Co
noncomputable def kM:PV:=(.flt 0x3fd5555555555555)
noncomputable def nS:PV:=(.flt 0x3fc5555555555555)
noncomputable def kN:PV:=(.flt 0x3fe5555555555555)
noncomputable def fG:PV:=(.int 256)
noncomputable def kO:PV:=(.int 0)
noncomputable def bF:PV:=.dcts [(("!":Str),.i 54),(("!=":Str),.i 28),(("%":Str),.i 24),(("%=":Str),.i 40),(("&":Str),.i 19),(("&=":Str),.i 41),(("(":Str),.i 7),((")":Str),.i 8),(("*":Str),.i 16),(("**":Str),.i 35),(("**=":Str),.i 46),(("*=":Str),.i 38),(("+":Str),.i 14),(("+=":Str),.i 36),((",":Str),.i 12),(("-":Str),.i 15),(("-=":Str),.i 37),(("->":Str),.i 51),((".":Str),.i 23),(("...":Str),.i 52),(("/":Str),.i 17),(("//":Str),.i 47),(("//=":Str),.i 48),(("/=":Str),.i 39),((":":Str),.i 11),((":=":Str),.i 53),((";":Str),.i 13),(("<":Str),.i 20),(("<<":Str),.i 33),(("<<=":Str),.i 44),(("<=":Str),.i 29),(("=":Str),.i 22),(("==":Str),.i 27),((">":Str),.i 21),((">=":Str),.i 30),((">>":Str),.i 34),((">>=":Str),.i 45),(("@":Str),.i 49),(("@=":Str),.i 50),(("[":Str),.i 9),(("]":Str),.i 10),(("^":Str),.i 32),(("^=":Str),.i 43),(("{":Str),.i 25),(("|":Str),.i 18),(("|=":Str),.i 42),(("}":Str),.i 26),(("~":Str),.i 31)]
end Co
abbrev Fn:=Nat->List PV->Option PV
abbrev Vs:=ag->aj->Prop
abbrev Ap:=ew->Prop
inductive Bi where
 |len|sum|min|max|int
 deriving DecidableEq
inductive G where
 |bi (b:Bi)
 |fn (f:Nat)
 |cst (p:PV)
 |rng
 |enum
 |gen
open Co in
def GL:List (Str×G):=[(("int":Str),.bi .int),(("len":Str),.bi .len),(("max":Str),.bi .max),(("min":Str),.bi .min),(("sum":Str),.bi .sum),(("range":Str),.rng),(("enumerate":Str),.enum),(("_iter_escaped_chars":Str),.gen),(("ONE_THIRD":Str),.cst kM),(("ONE_SIXTH":Str),.cst nS),(("TWO_THIRD":Str),.cst kN),(("NT_OFFSET":Str),.cst fG),(("ENDMARKER":Str),.cst kO),(("EXACT_TOKEN_TYPES":Str),.cst bF),(("ISTERMINAL":Str),.fn 0),(("ISNONTERMINAL":Str),.fn 1),(("ISEOF":Str),.fn 2),(("rgb_to_hls":Str),.fn 3),(("hls_to_rgb":Str),.fn 4),(("_v":Str),.fn 5),(("rgb_to_hsv":Str),.fn 6),(("hsv_to_rgb":Str),.fn 7),(("_strip_quoted_realnames":Str),.fn 8),(("_check_parenthesis":Str),.fn 9),(("_law_read":Str),.fn 10),(("_law_spelled":Str),.fn 11),(("_law_other":Str),.fn 12),(("_law_like":Str),.fn 13),(("_law_lamps":Str),.fn 14),(("_law_mark":Str),.fn 15),(("_law_melted":Str),.fn 16),(("_law_due":Str),.fn 17),(("_law_fewest":Str),.fn 18),(("_law_told_back":Str),.fn 19),(("law":Str),.fn 20)]
noncomputable def ļ:List Str:=[("ISTERMINAL":Str),("ISNONTERMINAL":Str),("ISEOF":Str),("rgb_to_hls":Str),("hls_to_rgb":Str),("_v":Str),("rgb_to_hsv":Str),("hsv_to_rgb":Str),("_strip_quoted_realnames":Str),("_check_parenthesis":Str),("_law_read":Str),("_law_spelled":Str),("_law_other":Str),("_law_like":Str),("_law_lamps":Str),("_law_mark":Str),("_law_melted":Str),("_law_due":Str),("_law_fewest":Str),("_law_told_back":Str),("law":Str)]
structure Step (h:jg) (N:Ap) (h':jg) (N':Ap):Prop where
 keep:∀b o,¬N b->h.get? b=some o->h'.get? b=some o
 grow:h.objs.size<=h'.objs.size
 new:∀b,N' b->N b\/h.objs.size<=b
structure Ö (s:aj) (N:Ap) (s':aj) (N':Ap):Prop where
 step:Step s.heap N s'.heap N'
 gens:∀(i:Nat) (g:El),s.gens[i]?=some g->s'.gens[i]?=some g
 bare:od s.gens->od s'.gens
 os:s'.os=s.os
 drawn:s'.drawn=s.drawn
 toks:s.toks<=s'.toks
def υ:Ap:=λ_=>False
abbrev Pure (s s':aj):Prop:=Ö s υ s' υ
noncomputable def VM (b:UInt64):Option ag->Bool
 |some (.float c t)=>c==b&&!(t==0)
 |_=>false
def Ε (P:Params):List De->List (Str×Int)->Prop
 |[],[]=>True
 |e::es,(k,n)::l=>(∃t,e.key=.str k t)/\e.hash=PyData.keyHash P k/\(∃u,e.val=.int n u)/\Ε P es l
 |_,_=>False
structure Ĉ (P:Params) (t:KT) (Ξ:List (Str×UInt64)) (dn:Str) (dl:List (Str×Int)):Prop where
 stat:∃o ep,t.get 2=some o/\o.data=.dict #[] ep
 glob:∃o es ep,t.get 3=some o/\o.data=.dict es ep/\(Ξ.all λx=>VM x.2 (nsFind es x.1))=true/\
  ∃a o' ρ ep',nsFind es dn=some (.ref a)/\(a==sysModules)=false/\t.get a=some o'/\o'.ExactDict/\o'.data=.dict ρ ep'/\Ε P ρ.toList dl
open Co in
def dl:List (Str×Int):=match bF with
 |.dcts l=>l.map λx=>(x.1,match x.2 with|.i n=>n|_=>0)
 |_=>[]
noncomputable def Ξ:List (Str×UInt64):=[("ONE_THIRD",4599676419421066581),("ONE_SIXTH",4595172819793696085),("TWO_THIRD",4604180019048437077)]
noncomputable def Vw:Dk:={fk.row.prog with main:={fk.row.prog.main with body:=(cw 80).filterMap λi=>if i==0||i==55||i==64||i==68 then none else fk.row.prog.main.body[i]?}}
def Lw:List Str:=looseW Vw ["EXACT_TOKEN_TYPES","ONE_THIRD","ONE_SIXTH","TWO_THIRD"]
@[irreducible] noncomputable def Pg:Dk:=fk.row.prog
structure XX where
 w:World
 h:jg
 mg:Str->Option ag
def χ (P:Dk) (x:XX):Prop:=∀(Ě:Fi->Option ag) (mb:Str->Option ag) (bc:aj) (t:KT) (fa a:ew) (vs:List ag) (ns:List Int) (Q E:Vs),bc.heap=x.h->
 Top Vw Lw Ě x.mg mb x.h->KT.Holds x.h 1 0 t->Ĉ x.w.params t Ξ "EXACT_TOKEN_TYPES" dl->bc.gens=#[]->0<bc.toks->x.mg "law"=some (.ref fa)->
 x.h.get? a=some {cls:=.type "list",data:=.seq vs.toArray}->Dl vs ns->ns.length<=63->(∀v s',Pure bc s'->v=.bool true->Q v s')->wpAny (model P x.w) callerA (call (.ref fa) [.ref a]) Q E bc
@[irreducible] noncomputable def X0:XX:=@yy XX ⟨⟨⟨λ_ _=>0,{strHash:=λ_=>0,shareClass:=λ_=>0,mergeTok:=λt=>t,idOf:=λ_=>0,idOfShared:=λ_ _=>0,followText:=λ_=>false,idOfImm:=λ_=>0}⟩,default,λ_=>none⟩⟩ λx=>¬χ Pg x
theorem RQ (h:χ Pg X0) (x:XX):χ Pg x:=sd λc=>by
 unfold X0 at h;exact uu (p:=λx=>¬χ Pg x) ⟨x,c⟩ h
@[irreducible] noncomputable def W0:World:=X0.w
@[irreducible] noncomputable def H0:jg:=X0.h
noncomputable def D4 (k:Nat):Str:=if k=1000 then("_iter_escaped_chars":Str) else ļ[k]?.getD ""
@[irreducible] noncomputable def mG:Str->Option ag:=X0.mg
def fA (k:Nat):ew:=match mG (D4 k) with
 |some (.ref a)=>a
 |_=>0
def gX{α:Type _}[Nonempty α] (P:α->Prop):α:=yy λa=>¬P a
theorem iA{α:Type _}(P:α->Prop) (a:α) (h:P (@gX α ⟨a⟩ P)):P a:=sd λq=>@uu α (λa=>¬P a) ⟨a,q⟩ h
abbrev a7{α:Type _}{β:Type _}{γ:Type _}(f:α->β->γ) (p:α×β):γ:=f p.1 p.2
abbrev bH{α:Type _}{β:Type _}{γ:Type _}{δ:Type _}{ε:Type _}{ζ:Type _}(f:α->β->γ->δ->ε->ζ):=a7 (a7 (a7 (a7 f)))
end Mine
end
section
open PySem PySem.W PyProof.Rows
namespace Mine
inductive Χ:ag->SV->Prop
 |i (n:Int) (t:Tok):Χ (.int n t) (.i n)
 |t (s:Str) (t:Tok):Χ (.str s t) (.t s)
inductive Ł{K:Type}:List (K×ag)->List (K×SV)->Prop
 |nil:Ł [] []
 |cons{k:K}{v:ag}{a:SV}{es:List (K×ag)}{l:List (K×SV)}:Χ v a->Ł es l->Ł ((k,v)::es) ((k,a)::l)
def Ô (h:jg) (a:ew) (À:Array ag):Prop:=∃n,h.get? a=some {cls:=.type "tuple",data:=.seq À n}
def Þ (h:jg) (a:ew) (l:List (Int×SV)):Prop:=(a==sysModules)=false/\∃Gp,h.DictOf (intKind Pg W0) a Gp/\Ł Gp l
def â (h:jg) (a:ew) (l:List (Str×SV)):Prop:=(a==sysModules)=false/\∃Gp,h.DictOf (strKind Pg W0) a Gp/\Ł Gp l
mutual
inductive RV (h:jg) (N:Ap):ag->PV->Prop
 |none:RV h N .none .none
 |bool (b:Bool):RV h N (.bool b) (.bool b)
 |int (n:Int) (t:Tok):RV h N (.int n t) (.int n)
 |flt (x:UInt64) (t:Tok):t≠0->RV h N (.float x t) (.flt x)
 |str (s:Str) (t:Tok):RV h N (.str s t) (.str s)
 |tup{a:ew}{vs:List ag}{l:List PV}:¬N a->Ô h a vs.toArray->Í h N vs l->RV h N (.ref a) (.tup l)
 |lst{a:ew}{vs:List ag}{l:List PV}:¬N a->h.PlainList a vs.toArray->Í h N vs l->RV h N (.ref a) (.lst l)
 |dcti{a:ew}{l:List (Int×SV)}:¬N a->Þ h a l->RV h N (.ref a) (.dcti l)
 |dcts{a:ew}{l:List (Str×SV)}:¬N a->â h a l->RV h N (.ref a) (.dcts l)
inductive Í (h:jg) (N:Ap):List ag->List PV->Prop
 |nil:Í h N [] []
 |cons{v:ag}{p:PV}{vs:List ag}{ps:List PV}:RV h N v p->Í h N vs ps->Í h N (v::vs) (p::ps)
end
theorem Step.trans (a:Step h N h' N') (b:Step h' N' Ya N''):Step h N Ya N'' where
 keep:=λx o hn e=>b.keep x o (λOn=>by
  rcases a.new x On with q|q
  ·exact hn q
  ·exact absurd (da e) (ax.mpr q)) (a.keep x o hn e)
 grow:=aa a.grow b.grow
 new:=λx hx=>by
  rcases b.new x hx with q|q
  ·exact a.new x q
  ·exact .inr (aa a.grow q)
theorem Step.refl (h:jg) (N:Ap):Step h N h N:=⟨λ_ _ _ e=>e,ai _,λ_ q=>.inl q⟩
theorem Step.of_keeps (k:∀b o,h.get? b=some o->h'.get? b=some o) (g:h.objs.size<=h'.objs.size):Step h N h' N:=⟨λb o _ e=>k b o e,g,λ_ q=>.inl q⟩
theorem Step.or (s:Step h N h' N') (Na:Ap):Step h (λb=>Na b\/N b) h' (λb=>Na b\/N' b) where
 keep:=λb o hn e=>s.keep b o (λq=>hn (.inr q)) e
 grow:=s.grow
 new:=λb hb=>by
  rcases hb with q|q
  ·exact .inl (.inl q)
  ·rcases s.new b q with q|q
   ·exact .inl (.inr q)
   ·exact .inr q
section
variable{h h':jg}{N N':Ap}
theorem Step.notN (s:Step h N h' N') (hn:¬N a) (e:h.get? a=some o):¬N' a:=λq=>by
 rcases s.new a q with q|q
 ·exact hn q
 ·exact absurd (da e) (ax.mpr q)
theorem Ô.st (s:Step h N h' N') (hn:¬N a) (p:Ô h a x):¬N' a/\Ô h' a x:=p.elim λn e=>(ο (s.notN hn e) n (s.keep _ _ hn e))
theorem jR (s:Step h N h' N') (hn:¬N a) (p:h.PlainList a x):¬N' a/\h'.PlainList a x:=p.elim λn e=>(ο (s.notN hn e) n (s.keep _ _ hn e))
theorem xS (s:Step h N h' N'){K:Type}[DecidableEq K] {k:PySem.KeyKind Pg W0 K}{x:List (K×ag)}(hn:¬N a) (p:h.DictOf k a x):¬N' a/\h'.DictOf k a x:= by
 refine nR p λo es ep e r=>?_;exact(ο (s.notN hn e) o (mL es ep (s.keep _ _ hn e) r))
theorem Þ.st (s:Step h N h' N') (hn:¬N a) (p:Þ h a l):¬N' a/\Þ h' a l:= by
 refine tF p λhs Gp d r=>?_;clear p;have q:=xS s hn d;exact(Ý q.1 hs (Õ Gp q.2 r))
theorem â.st (s:Step h N h' N') (hn:¬N a) (p:â h a l):¬N' a/\â h' a l:= by
 refine tF p λhs Gp d r=>?_;clear p;have q:=xS s hn d;exact(Ý q.1 hs (Õ Gp q.2 r))
theorem RV.step (s:Step h N h' N') (r:RV h N v p):RV h' N' v p:=RV.rec (motive_1:=λv p _=>RV h' N' v p) (motive_2:=λvs ps _=>Í h' N' vs ps) .none .bool .int .flt .str (λn e _ r=>.tup (e.st s n).1 (e.st s n).2 r) (λn e _ r=>.lst (jR s n e).1 (jR s n e).2 r) (λn e=>.dcti (e.st s n).1 (e.st s n).2) (λn e=>.dcts (e.st s n).1 (e.st s n).2) .nil (λ_ _ a b=>.cons a b) r
theorem Í.step (s:Step h N h' N') (r:Í h N vs ps):Í h' N' vs ps:=Í.rec (motive_1:=λv p _=>RV h' N' v p) (motive_2:=λvs ps _=>Í h' N' vs ps) .none .bool .int .flt .str (λn e _ r=>.tup (e.st s n).1 (e.st s n).2 r) (λn e _ r=>.lst (jR s n e).1 (jR s n e).2 r) (λn e=>.dcti (e.st s n).1 (e.st s n).2) (λn e=>.dcts (e.st s n).1 (e.st s n).2) .nil (λ_ _ a b=>.cons a b) r
theorem Step.sub (hn:∀b,N' b->N b):Step h N h N':=⟨λ_ _ _ e=>e,ai _,λ_ q=>.inl (hn _ q)⟩
theorem Í.length (r:Í h N vs ps):vs.length=ps.length:= by
 induction ps generalizing vs with
 |nil=>cases r;rfl
 |cons p ps ih=>cases r with|cons a b=>simp[ih b]
theorem Í.append (r:Í h N vs ps) (q:Í h N ws qs):Í h N (vs++ws) (ps++qs):= by
 induction ps generalizing vs with
 |nil=>cases r;exact q
 |cons p ps ih=>cases r with|cons a b=>exact .cons a (ih b)
theorem Í.get{vs:List ag}{ps:List PV}(r:Í h N vs ps){k:Nat}{p:PV}(hp:ps[k]?=some p):∃v,vs[k]?=some v/\RV h N v p:= by
 induction ps generalizing vs k with
 |nil=>trivial
 |cons q ps ih=>
  cases r with
  |cons a b=>
   cases k with
   |zero=>simp at hp;subst hp;exact(Õ _ (by rfl) a)
   |succ k=>simp at hp;refine É (ih b hp) λv hv hr=>?_;exact(Õ v (by simpa using hv) hr)
theorem Í.take (r:Í h N vs ps) (k:Nat):Í h N (vs.take k) (ps.take k):= by
 induction ps generalizing vs k with
 |nil=>cases r;simp;exact .nil
 |cons q ps ih=>
  cases r with
  |cons a b=>
   cases k with
   |zero=>simp;exact .nil
   |succ k=>simpa using .cons a (ih b k)
theorem Í.drop (r:Í h N vs ps) (k:Nat):Í h N (vs.drop k) (ps.drop k):= by
 induction ps generalizing vs k with
 |nil=>cases r;simp;exact .nil
 |cons q ps ih=>
  cases r with
  |cons a b=>
   cases k with
   |zero=>simpa using .cons a b
   |succ k=>simpa using ih b k
theorem Í.reverse (r:Í h N vs ps):Í h N vs.reverse ps.reverse:= by
 induction ps generalizing vs with
 |nil=>cases r;exact .nil
 |cons q ps ih=>cases r with|cons a b=>simpa using Í.append (ih b) (.cons a .nil)
theorem Í.one (a:RV h N v p):Í h N [v] [p]:=.cons a .nil
theorem Í.rep (r:Í h N vs ps):∀k:Nat,Í h N (ah k vs).flatten (ah k ps).flatten
 |0=>.nil
 |k+1=>by simpa [dL] using Í.append r (Í.rep r k)
end
inductive RT (h:jg) (N:Ap):ag->PV->Prop
 |none:RT h N .none .none
 |bool (b:Bool):RT h N (.bool b) (.bool b)
 |int (n:Int) (t:Tok):RT h N (.int n t) (.int n)
 |flt (x:UInt64) (t:Tok):t≠0->RT h N (.float x t) (.flt x)
 |str (s:Str) (t:Tok):RT h N (.str s t) (.str s)
 |tup{a:ew}{vs:List ag}{l:List PV}:Ô h a vs.toArray->Í h N vs l->RT h N (.ref a) (.tup l)
 |lst{a:ew}{vs:List ag}{l:List PV}:h.PlainList a vs.toArray->Í h N vs l->RT h N (.ref a) (.lst l)
 |dcti{a:ew}{l:List (Int×SV)}:Þ h a l->RT h N (.ref a) (.dcti l)
 |dcts{a:ew}{l:List (Str×SV)}:â h a l->RT h N (.ref a) (.dcts l)
inductive Ň (h:jg) (N:Ap):List ag->List PV->Prop
 |nil:Ň h N [] []
 |cons{v:ag}{p:PV}{vs:List ag}{ps:List PV}:RT h N v p->Ň h N vs ps->Ň h N (v::vs) (p::ps)
theorem RV.rt (r:RV h N v p):RT h N v p:= by
 cases r with
 |none=>exact .none
 |bool b=>exact .bool b
 |int n t=>exact .int n t
 |flt x t ht=>exact .flt x t ht
 |str x t=>exact .str x t
 |tup a b c=>exact .tup b c
 |lst a b c=>exact .lst b c
 |dcti a b=>exact .dcti b
 |dcts a b=>exact .dcts b
noncomputable def PV.scalar:PV->Bool
 |.tup _=>false
 |.lst _=>false
 |.dcti _=>false
 |.dcts _=>false
 |_=>true
theorem RV.of_scalar (r:RV h N v p) (s:p.scalar=true):RV h' N' v p:= by
 cases r with
 |none=>exact .none
 |bool b=>exact .bool b
 |int n t=>exact .int n t
 |flt x t ht=>exact .flt x t ht
 |str x t=>exact .str x t
 |tup=>cases s
 |lst=>cases s
 |dcti=>cases s
 |dcts=>cases s
theorem Ö.refl (s:aj) (N:Ap):Ö s N s N:=⟨Step.refl _ _,λ_ _ e=>e,λx=>x,rfl,rfl,ai _⟩
theorem Ö.trans (a:Ö s N s' N') (b:Ö s' N' Hu N''):Ö s N Hu N'':=
 ⟨a.step.trans b.step,λi g e=>b.gens i g (a.gens i g e),λx=>b.bare (a.bare x),b.os.trans a.os,b.drawn.trans a.drawn,aa a.toks b.toks⟩
theorem Pure.keep (x:Pure s s'):∀b o,s.heap.get? b=some o->s'.heap.get? b=some o:=λb o e=>x.step.keep b o (λq=>q) e
theorem Pure.stepAt (x:Pure s s') (N:Ap):Step s.heap N s'.heap N:=Step.of_keeps x.keep x.step.grow
theorem Pure.toks (s:aj) (ht:s.toks<=t:=by omega):Pure s {s with toks:=t}:=⟨Step.refl _ _,λ_ _ e=>e,λx=>x,rfl,rfl,ht⟩
theorem Pure.push (s:aj) (o:Obj) (ht:s.toks<=t:=by omega):Pure s {s with heap:=s.heap.push o,toks:=t}:=
 ⟨⟨λ_ _ _ e=>bx _ e,by simp[bn],λ_ q=>q.elim⟩,λ_ _ e=>e,λx=>x,rfl,rfl,ht⟩
theorem Pure.of_heap (k:∀b o,s.heap.get? b=some o->h.get? b=some o) (g:s.heap.objs.size<=h.objs.size) (ht:s.toks<=t:=by omega):Pure s {s with heap:=h,toks:=t}:=
 ⟨Step.of_keeps k g,λ_ _ e=>e,λx=>x,rfl,rfl,ht⟩
structure Ê (A:dm) (k:Nat):Prop where
 hh:A.handled=mq
 depth:A.depth+k<900
 units:A.units+8*k<9000
theorem Ê.le (r:Ê A k) (h:j<=k):Ê A j:=⟨r.hh,by have:=r.depth;exact æ (.y .ko (.N 900)) [.x .r .s,.y (.A .q .s) (.N 900)] h this,by have:=r.units;exact æ (.y (.A .q (.M .n8 .r)) (.N 9000)) [.X 8 .r .s,.y (.A .q (.M .n8 .s)) (.N 9000)] h this⟩
theorem Ê.lim (r:Ê A k):A.depth<recursionLimit:=by have:=r.depth;unfold recursionLimit;exact Ò (.y .q .kj) [.y .ko (.N 900)] this
theorem Ê.line (r:Ê A k):A.units<cLine:=by have:=r.units;unfold cLine;exact Ò (.y .q (.N 9900)) [.y (.A .q (.M .n8 .r)) (.N 9000)] this
def RTd (h:jg) (N:Ap) (v:ag):PV->Prop
 |.none=>v=.none
 |.bool b=>v=.bool b
 |.int n=>∃t,v=.int n t
 |.flt x=>∃t,v=.float x t/\t≠0
 |.str s=>∃t,v=.str s t
 |.tup l=>∃a vs,v=.ref a/\Ô h a vs.toArray/\Í h N vs l
 |.lst l=>∃a vs,v=.ref a/\h.PlainList a vs.toArray/\Í h N vs l
 |.dcti l=>∃a,v=.ref a/\Þ h a l
 |.dcts l=>∃a,v=.ref a/\â h a l
theorem RT.inv (r:RT h N v p):RTd h N v p:= by
 cases r with
 |none=>exact rfl
 |bool b=>exact rfl
 |int n t=>exact⟨t,rfl⟩
 |flt x t ht=>exact(Õ t rfl ht)
 |str x t=>exact⟨t,rfl⟩
 |tup b c=>exact(cC _ _ rfl b c)
 |lst b c=>exact(cC _ _ rfl b c)
 |dcti b=>exact(Õ _ rfl b)
 |dcts b=>exact(Õ _ rfl b)
def RVd (h:jg) (N:Ap) (v:ag):PV->Prop
 |.tup l=>∃a vs,v=.ref a/\¬N a/\Ô h a vs.toArray/\Í h N vs l
 |.lst l=>∃a vs,v=.ref a/\¬N a/\h.PlainList a vs.toArray/\Í h N vs l
 |.dcti l=>∃a,v=.ref a/\¬N a/\Þ h a l
 |.dcts l=>∃a,v=.ref a/\¬N a/\â h a l
 |p=>RTd h N v p
theorem RV.inv (r:RV h N v p):RVd h N v p:= by
 cases r with
 |none=>exact rfl
 |bool b=>exact rfl
 |int n t=>exact⟨t,rfl⟩
 |flt x t ht=>exact(Õ t rfl ht)
 |str x t=>exact⟨t,rfl⟩
 |tup a b c=>exact(cX _ _ rfl a b c)
 |lst a b c=>exact(cX _ _ rfl a b c)
 |dcti a b=>exact(jC _ rfl a b)
 |dcts a b=>exact(jC _ rfl a b)
def RVsd (h:jg) (N:Ap) (vs:List ag):List PV->Prop
 |[]=>vs=[]
 |p::ps=>∃v vs',vs=v::vs'/\RV h N v p/\Í h N vs' ps
theorem Í.inv (r:Í h N vs ps):RVsd h N vs ps:= by
 cases r with
 |nil=>exact rfl
 |cons a b=>exact(cC _ _ rfl a b)
theorem zS{G:Prop}(h:∀C:Prop,(G->C)->C):G:=h G id
theorem nn{α:Type}{r:α}{C:Prop}(h:mq=some r):C:=nomatch h
theorem nf{C:Prop}(h:false=true):C:=nomatch h
theorem sm{α:Type}{a r:α}(h:some a=some r):a=r:=iq h
theorem aZ{c:Prop}[Decidable c] {α:Type}{o:Option α}{r:α}(h:(if c then o else mq)=some r):c/\o=some r:= by
 by_cases hc:c
 ·rw[if_pos hc] at h;exact⟨hc,h⟩
 ·rw[if_neg hc] at h;exact nn h
theorem xT{c:Prop}[Decidable c] {α:Type}{o:Option α}{r:α}(h:(if c then mq else o)=some r):¬c/\o=some r:= by
 by_cases hc:c
 ·rw[if_pos hc] at h;exact nn h
 ·rw[if_neg hc] at h;exact⟨hc,h⟩
theorem aC (h:(a&&b)=true):a=true/\b=true:=by cases a<;>cases b<;>first|exact⟨rfl,rfl⟩|cases h
noncomputable def nT (x:Int):Bool:=decide (-(2^62)<x)&&decide (x<2^62)
noncomputable def Ļ (n:Int):Bool:=!isInf (cu n)
def GR (x y:Int):ic->Option PV
 |.Add=>some (.int (x+y))
 |.Sub=>some (.int (x-y))
 |.Mult=>if nT x then some (.int (x*y)) else none
 |.FloorDiv=>if 0<y/\y<1000000000 then some (.int (x/y)) else none
 |.Mod=>if 0<y then some (.int (x%y)) else none
 |.Pow=>if 2<=x/\x<100/\0<=y/\y<100 then some (.int (x^y.toNat)) else none
 |.Div=>if 0<y/\nz (ofFrac (decide (x<0) != decide (y<0)) x.natAbs y.natAbs)=false then some (.flt (ofFrac (decide (x<0) != decide (y<0)) x.natAbs y.natAbs)) else none
 |_=>none
noncomputable def LO (x y:UInt64):ic->Option PV
 |.Add=>some (.flt (add x y))
 |.Sub=>some (.flt (ab x y))
 |.Mult=>some (.flt (mul x y))
 |.Div=>if bz y then none else some (.flt (div x y))
 |.Mod=>if bz y then none else some (.flt (ca x y).2)
 |_=>none
def WE (x:UInt64) (y:Int):ic->Option PV
 |.Add=>if Ļ y then some (.flt (add x (cu y))) else none
 |.Sub=>if Ļ y then some (.flt (ab x (cu y))) else none
 |.Mult=>if Ļ y then some (.flt (mul x (cu y))) else none
 |.Div=>if Ļ y&&!isZero (cu y) then some (.flt (div x (cu y))) else none
 |_=>none
def WF (x:Int) (y:UInt64):ic->Option PV
 |.Add=>if Ļ x then some (.flt (add (cu x) y)) else none
 |.Sub=>if Ļ x then some (.flt (ab (cu x) y)) else none
 |.Mult=>if Ļ x then some (.flt (mul (cu x) y)) else none
 |_=>none
noncomputable def WG (x y:Str):Option PV:=if x.length+y.length<=100000 then some (.str (x++y)) else none
noncomputable def RS (x:Str) (y:Int):Option PV:=if x.length<=1000/\y<1000/\-1000<y then some (.str ⟨(ah y.toNat x.cps.toList).flatten.toArray⟩) else none
noncomputable def YV (x y:List PV):Option PV:=if x.length+y.length<=100000 then some (.lst (x++y)) else none
noncomputable def RU (x:List PV) (y:Int):Option PV:=if x.length<=1000/\y<1000/\-1000<y then some (.lst (ah y.toNat x).flatten) else none
noncomputable def YW (x:List PV) (y:Int):Option PV:=if x.length=1/\(y=3\/y=4) then some (.tup (ah y.toNat x).flatten) else none
noncomputable def YX (x y:List PV):Option PV:=if x.length+y.length<=100000/\x.isEmpty=false/\y.isEmpty=false then some (.tup (x++y)) else none
noncomputable def uG (op:ic) (r:Option PV):Option PV:=match op with|.Add=>r|_=>none
noncomputable def uH (op:ic) (r:Option PV):Option PV:=match op with|.Mult=>r|_=>none
def fD (op:ic) (p q:PV):Option PV:=match p with
 |.int x=>(match q with|.int y=>GR x y op|.flt y=>WF x y op|_=>none)
 |.flt x=>(match q with|.int y=>WE x y op|.flt y=>LO x y op|_=>none)
 |.str x=>(match q with|.int y=>uH op (RS x y)|.str y=>uG op (WG x y)|_=>none)
 |.lst x=>(match q with|.int y=>uH op (RU x y)|.lst y=>uG op (YV x y)|_=>none)
 |.tup x=>(match q with|.int y=>uH op (YW x y)|.tup y=>uG op (YX x y)|_=>none)
 |_=>none
def ŧ (h h':jg) (N:Ap) (v:ag) (l:List PV):Prop:=
 ∃(a:ew) (vs:List ag),v=.ref a/\h.objs.size<=a/\h'.PlainList a vs.toArray/\Í h' (λb=>N b\/b=a) vs l
def ĕ (s s':aj) (N:Ap) (v:ag) (r:PV):Prop:=
 RV s'.heap N v r/\∀l,r=.lst l->ŧ s.heap s'.heap N v l
theorem ĕ.of_scalar (x:RV s'.heap N v r) (h:∀l,r≠.lst l):ĕ s s' N v r:=⟨x,λl e=>absurd e (h l)⟩
def Ė (N:Ap) (h:jg):Prop:=∀b,N b->b<h.objs.size
theorem Í.avoid (k:∀b o,h.get? b=some o->h'.get? b=some o) (g:h.objs.size<=h'.objs.size) (r:Í h N vs l) (ha:h.objs.size<=a):Í h' (λb=>N b\/b=a) vs l:=
 r.step ⟨λb o _ e=>k b o e,g,λb hb=>hb.elim .inl λe=>.inr (e▸ha)⟩
section
variable{A:dm}{E:Vs}{s:aj}{N:Ap}
theorem sS{Q:Vs}{vs:List ag}{l:List PV}(hN:Ė N s.heap) (r:Í s.heap N vs l){t:Nat}(ht:s.toks<=t)
  (h:∀v s',Pure s s'->ĕ s s' N v (.lst l)->Q v s'):Q (.ref s.heap.objs.size) {s with heap:=s.heap.push {cls:=.type "list",data:=.seq vs.toArray},toks:=t}:= by
 have hk:∀b o,s.heap.get? b=some o->(s.heap.push {cls:=.type "list",data:=.seq vs.toArray}).get? b=some o:=λ_ _ e=>bx _ e;have hg:s.heap.objs.size<=(s.heap.push {cls:=.type "list",data:=.seq vs.toArray}).objs.size:=by simp[bn]
 have hp:(s.heap.push {cls:=.type "list",data:=.seq vs.toArray}).PlainList s.heap.objs.size vs.toArray:=⟨0,cj _ rfl⟩;refine h _ _ (Pure.push _ _ ht) ⟨.lst (λhn=>ik _ (hN _ hn)) hp (r.step (Step.of_keeps hk hg)),λl' e=>?_⟩;cases e;exact(cX _ vs rfl (ai _) hp (r.avoid hk hg (ai _)))
theorem uI{Q:Vs}{vs:List ag}{l:List PV}(hN:Ė N s.heap) (r:Í s.heap N vs l){t:Nat}(ht:s.toks<=t)
  (h:∀v s',Pure s s'->ĕ s s' N v (.tup l)->Q v s'):Q (.ref s.heap.objs.size) {s with heap:=s.heap.push {cls:=.type "tuple",data:=.seq vs.toArray},toks:=t}:= by
 have hk:∀b o,s.heap.get? b=some o->(s.heap.push {cls:=.type "tuple",data:=.seq vs.toArray}).get? b=some o:=λ_ _ e=>bx _ e;have hg:s.heap.objs.size<=(s.heap.push {cls:=.type "tuple",data:=.seq vs.toArray}).objs.size:=by simp[bn]
 have hp:Ô (s.heap.push {cls:=.type "tuple",data:=.seq vs.toArray}) s.heap.objs.size vs.toArray:=⟨0,cj _ rfl⟩;exact h _ _ (Pure.push _ _ ht) ⟨.tup (λhn=>ik _ (hN _ hn)) hp (r.step (Step.of_keeps hk hg)),λl' e=>by cases e⟩
theorem D5 (h:nT x=true):-(2^62)<x/\x<2^62:= by
 unfold nT at h;simp only[be,decide_eq_true_eq] at h;exact h
theorem iV{α:Type}(xs:Array α):∀(n:Nat) (acc:Array α),(ah n xs).foldl (·++·) acc=acc++(ah n xs.toList).flatten.toArray
 |0,acc=>by rfl
 |n+1,acc=>by
  (refine O dL (O Bk ?_);rw[iV xs n];refine O dL (O lm ?_))
  apply Array.ext';simp
theorem LP (ht:0<t):ĕ s s' N (.float x t) (.flt x):=.of_scalar (.flt x t (ck ht)) λ_ e=>by cases e
theorem LQ:ĕ s s' N (.int x t) (.int x):=.of_scalar (.int x t) λ_ e=>by cases e
theorem LR:ĕ s s' N (.str x t) (.str x):=.of_scalar (.str x t) λ_ e=>by cases e
set_option maxHeartbeats 1600000 in
set_option maxRecDepth 100000 in
theorem D6 (l:ew) (v:ag) (n:Nat) (u:Tok):
  Ga (Dm.«tuple.__mul__» ⟨[.ref l,.int 3 u],[]⟩) (λ_ R s=>s.heap.get? l=some {cls:=.type "tuple",dict:=none,data:=.seq #[v] n,slots:=#[]}/\
   R (.ok (.ret (.ref s.heap.objs.size))) {s with heap:=s.heap.push {cls:=.type "tuple",data:=.seq #[v,v,v]},toks:=s.toks}):=
 .of_wp λPg W0 A R s h=>by
  obtain⟨hp,g,d,tk,os⟩:=s;refine xa h λhl h=>?_;wp_walk;exact(Õ _ rfl h)
set_option maxRecDepth 100000 in
theorem D7 (l:ew) (v:ag) (n:Nat) (u:Tok):
  Ga (Dm.«tuple.__mul__» ⟨[.ref l,.int 4 u],[]⟩) (λ_ R s=>s.heap.get? l=some {cls:=.type "tuple",dict:=none,data:=.seq #[v] n,slots:=#[]}/\
   R (.ok (.ret (.ref s.heap.objs.size))) {s with heap:=s.heap.push {cls:=.type "tuple",data:=.seq #[v,v,v,v]},toks:=s.toks}):=
 .of_wp λPg W0 A R s h=>by
  obtain⟨hp,g,d,tk,os⟩:=s;refine xa h λhl h=>?_;wp_walk;exact(Õ _ rfl h)
set_option maxRecDepth 100000 in
theorem uJ (a:Int) (t:Tok) (l:ew) (À:Array ag) (n:Nat):
  Ga (Dm.«int.__rmul__» ⟨[.int a t,.ref l],[]⟩) (λ_ R s=>s.heap.get? l=some {cls:=.type "tuple",dict:=none,data:=.seq À n,slots:=#[]}/\R (.ok (.ret ag.notImplemented)) s):=
 .of_wp λPg W0 A R s h=>by obtain⟨hp,g,d,tk,os⟩:=s;refine xa h λhl h=>?_;wp_walk;exact(Õ _ rfl h)
theorem rV:fillsNumberSlot (.type "tuple") "mul"=pure false:=
 PySem.fillsNumberSlot_seq (id:="tuple.__mul__") (r:=some (.builtin "tuple.__rmul__")) tm.lookup (by decide +kernel) yz.lookup (by decide +kernel)
theorem zT:seqRepeat? (.type "tuple")=pure (some (.builtin "tuple.__mul__")):= by
 unfold seqRepeat?;refine O (Ab (T:="tuple") (name:="__mul__") (id:="tuple.__mul__") tm.lookup (by decide +kernel)) (O (Ab (T:="tuple") (name:="__rmul__") (id:="tuple.__rmul__") yz.lookup (by decide +kernel)) ?_);rfl
theorem rX (h:uG op o=some r):op=.Add/\o=some r:=by cases op<;>first|exact nn h|exact⟨rfl,h⟩
theorem rY (h:uH op o=some r):op=.Mult/\o=some r:=by cases op<;>first|exact nn h|exact⟨rfl,h⟩
theorem ő (ht:0<t) (e:some (PV.flt x)=some r):ĕ s s' N (.float x t) r:=sm e▸LP ht
theorem Ν (e:some (PV.int x)=some r):ĕ s s' N (.int x t) r:=sm e▸LQ
theorem Θ (e:some (PV.str x)=some r) (h:x=y):ĕ s s' N (.str y t) r:=h▸sm e▸LR
theorem BC (h:nT x=true):nw x<=64:= by
 have:=D5 h;exact intBits_le_64 (ñ (.t (.G (.P .n2 64)) .a) [.t (.G (.P .n2 62)) .a] this.1) (ñ (.t .a (.P .n2 64)) [.t .a (.P .n2 62)] this.2)
theorem aAR (h:0<y/\y<1000000000):Dm.divisionGoesByPylong x y=false:=uv (Ď [_] [_] (.y .q (.N 1073741824)) [.t .a (.N 1000000000),.e .q .a] h.2 (aq (Ņ [_] (.l .n0 .a) [.t .n0 .a] h.1)))
theorem RX (hs:2<=x/\x<100/\0<=y/\y<100):¬wa (((nw x:Nat):Int)*y)=true:= by
 have h1:nw x<=64:=intBits_le_64 (ñ (.t (.G (.P .n2 64)) .a) [.l .n2 .a] hs.1) (ñ (.t .a (.P .n2 64)) [.t .a (.N 100)] hs.2.1);have h2:((nw x:Nat):Int)*y<=64*100:=Int.mul_le_mul (à (.l .q (.N 64)) [.x .q (.N 64)] h1) (de hs.2.2.2) (hs.2.2.1) (ů (.l .n0 (.N 64)) []);unfold wa bitsLine;simp only[gt_iff_lt,decide_eq_true_eq,dt];exact Ď [_] [_] (.l (.M .q .a) (.C (.P .n2 27))) [.l (.M .q .a) (.M (.N 64) (.N 100))] h2
theorem VN (h:2<=x):¬(x==0||x==1)=true/\¬(x==-1)=true:=by simp;exact⟨⟨ez (ñ (.t .n0 .a) [.l .n2 .a] h),ez (ñ (.t .n1 .a) [.l .n2 .a] h)⟩,ez (ñ (.t .kn .a) [.l .n2 .a] h)⟩
theorem YY{y:Int}(h:0<y):¬(y==0)=true:=by simp;exact ez (h)
theorem pM (h:Ļ x=true):¬nz (cu x)=true:=by simpa [Ļ] using h
theorem GS (h:(Ļ x&&!isZero (cu x))=true):¬nz (cu x)=true/\¬bz (cu x)=true:=⟨pM (aC h).1,by simpa using (aC h).2⟩
section
variable{x y:Int}{f g:UInt64}{t u:Tok}{r:PV}{Q:Vs}{op:ic}
theorem YZ (h:GR x y .Pow=some r) (hQ:∀v s',Pure s s'->ĕ s s' N v r->Q v s'):wpAny (model Pg W0) A (binaryOp .Pow (.int x t) (.int y u)) Q E s:= by
 refine xa (aZ h) λhs h=>?_
 by_cases Mx:y=0
 ·subst Mx;exact Fs (ie _) rfl (hQ _ _ (Pure.toks _) (Ν ((Dj x)▸h)))
 exact Ft hs.2.2.1 (λe=>Mx (am e)) (VN hs.1).1 (VN hs.1).2 (RX hs) (hQ _ _ (Pure.toks _) (Ν h))
theorem WH (hT:0<s.toks) (h:GR x y op=some r) (hQ:∀v s',Pure s s'->ĕ s s' N v r->Q v s'):wpAny (model Pg W0) A (binaryOp op (.int x t) (.int y u)) Q E s:= by
 cases op<;>try (exact nn h)
 case Add=>exact Fu (hQ _ _ (Pure.toks _) (Ν h))
 case Sub=>exact Fv (hQ _ _ (Pure.toks _) (Ν h))
 case Mult=>exact Em (hm:=Fw (BC (aZ h).1)) (hQ _ _ (Pure.toks _) (Ν (aZ h).2))
 case FloorDiv=>exact floordiv_int (ez (aZ h).1.1) (hQ _ _ (Pure.toks _) (rm x (de (aZ h).1.1)▸Ν (aZ h).2)) (Or.inl (aAR (aZ h).1))
 case Mod=>exact En (ez (aZ h).1) (hQ _ _ (Pure.toks _) (Int.fmod_eq_emod_of_nonneg x (de (aZ h).1)▸Ν (aZ h).2))
 case Pow=>exact YZ h hQ
 case Div=>exact Eo (YY (aZ h).1.1) (λe=>nf ((aZ h).1.2.symm.trans e)) (hQ _ _ (Pure.toks _) (ő hT (aZ h).2))
theorem WI (hT:0<s.toks) (h:LO f g op=some r) (hQ:∀v s',Pure s s'->ĕ s s' N v r->Q v s'):wpAny (model Pg W0) A (binaryOp op (.float f t) (.float g u)) Q E s:= by
 cases op<;>try (exact nn h)
 case Add=>exact Ez (hQ _ _ (Pure.toks _) (ő hT h))
 case Sub=>exact Fa (hQ _ _ (Pure.toks _) (ő hT h))
 case Mult=>exact Fb (hQ _ _ (Pure.toks _) (ő hT h))
 case Div=>exact Dp (xT h).1 (hQ _ _ (Pure.toks _) (ő hT (xT h).2))
 case Mod=>exact Fc (xT h).1 (hQ _ _ (Pure.toks _) (ő hT (xT h).2))
theorem WJ (hT:0<s.toks) (h:WE f y op=some r) (hQ:∀v s',Pure s s'->ĕ s s' N v r->Q v s'):wpAny (model Pg W0) A (binaryOp op (.float f t) (.int y u)) Q E s:= by
 cases op<;>try (exact nn h)
 case Add=>exact Ec (by exact O (if_neg (pM (aZ h).1)) (hQ _ _ (Pure.toks _) (ő hT (aZ h).2)))
 case Sub=>exact Ed (by exact O (if_neg (pM (aZ h).1)) (hQ _ _ (Pure.toks _) (ő hT (aZ h).2)))
 case Mult=>exact Ee (by exact O (if_neg (pM (aZ h).1)) (hQ _ _ (Pure.toks _) (ő hT (aZ h).2)))
 case Div=>exact Cs (by exact O (if_neg (GS (aZ h).1).1) (O (if_neg (GS (aZ h).1).2) (hQ _ _ (Pure.toks _) (ő hT (aZ h).2))))
theorem WK (hT:0<s.toks) (h:WF x g op=some r) (hQ:∀v s',Pure s s'->ĕ s s' N v r->Q v s'):wpAny (model Pg W0) A (binaryOp op (.int x t) (.float g u)) Q E s:= by
 cases op<;>try (exact nn h)
 case Add=>exact Ef (by exact O (if_neg (pM (aZ h).1)) (hQ _ _ (Pure.toks _) (ő hT (aZ h).2)))
 case Sub=>exact Eg (by exact O (if_neg (pM (aZ h).1)) (hQ _ _ (Pure.toks _) (ő hT (aZ h).2)))
 case Mult=>exact Eh (by exact O (if_neg (pM (aZ h).1)) (hQ _ _ (Pure.toks _) (ő hT (aZ h).2)))
theorem RY{X Y:Str}(h:X.length=0):X++Y=Y:= by
 apply Ep;have Kg:X.cps.size=0:=h;simp[Bu,lx Kg]
theorem LU{X Y:Str}(h:Y.length=0):X++Y=X:= by
 apply Ep;have Kg:Y.cps.size=0:=h;simp[Bu,lx Kg]
theorem aAS{X:Str}{y:Int}(h:y<=0):(⟨(ah y.toNat X.cps.toList).flatten.toArray⟩:Str)=⟨#[]⟩:=by refine O (show y.toNat=0 by lia) ?_;rfl
theorem aAT (h:(y==1||X.length==0)=true):(⟨(ah y.toNat X.cps.toList).flatten.toArray⟩:Str)=X:= by
 simp only[ml,beq_iff_eq] at h;apply Ep;rcases h with h|h
 ·subst h;simp
 ·have Kg:X.cps=#[]:=lx h;simp[Kg]
theorem Y5{X:Str}{y:Int}:(⟨(ah y.toNat X.cps).foldl (·++·) #[]⟩:Str)=⟨(ah y.toNat X.cps.toList).flatten.toArray⟩:= by
 refine O (iV ..) ?_;simp
theorem RZ{X:Str}{y:Int}(hs:X.length<=1000/\y<1000/\-1000<y):X.length*y.toNat<=sizeLine/\((⟨(ah y.toNat X.cps).foldl (·++·) #[]⟩:Str).length<=sizeLine):= by
 have h3:X.length*y.toNat<=1000*1000:=Bv (hs.1) (by lia);refine O Y5 ?_;have:((ah y.toNat X.cps.toList).flatten).length=y.toNat*X.cps.size:=by simp
 simp only[Str.length,List.size_toArray,this] at h3⊢;rw[jb y.toNat];unfold sizeLine;exact⟨Ò (.x (.M .q .r) (.P .n2 24)) [.x (.M .q .r) (.M .kj .kj)] h3,Ò (.x (.M .q .r) (.P .n2 24)) [.x (.M .q .r) (.M .kj .kj)] h3⟩
end
section
variable{x:Str}{y:Int}{t u:Tok}{r:PV}{l m:List PV}{a b:ew}{vs us:List ag}{Q:Vs}
theorem sz5:100000<=sizeLine:=by decide
theorem Y6{z:Str}(h:WG x z=some r) (hQ:∀v s',Pure s s'->ĕ s s' N v r->Q v s'):wpAny (model Pg W0) A (binaryOp .Add (.str x t) (.str z u)) Q E s:= by
 refine xa (aZ h) λhs h=>?_;refine P.add_str ?_;split
 ·rename_i hx;exact hQ _ _ (Ö.refl _ _) (Θ h (RY (am hx)))
 ·split
  ·rename_i hy;exact hQ _ _ (Ö.refl _ _) (Θ h (LU (am hy)))
  ·exact⟨by exact O (Str.length_append ..) (aa hs sz5),hQ _ _ (Pure.toks _) (Θ h rfl)⟩
theorem Y7 (hs:k<=1000/\i<1000/\-1000<i):k*i.toNat<=1000000:=Bv hs.1 (ot.mpr (de hs.2.1))
theorem WL{k:Nat}{y:Int}(hs:k<=1000/\y<1000/\-1000<y):¬y<1->(2^63-1)/y<(k:Int)->False:= by
 intro h1 h2;have:(1000:Int)<=(2^63-1)/y:= by
  exact O (propext (Int.le_ediv_iff_mul_le ((dt.mp h1)))) (ñ (.l (.M .kj .a) (.S .ky .n1)) [.T 1000 .a .kj] hs.2.1)
 exact absurd (Ď [_] [_] (.t .n0 .n0) [.x .q .kj,.t .a .q,.l .kj .a] hs.1 h2 this) (gq _)
theorem WM (h:RS x y=some r) (hQ:∀v s',Pure s s'->ĕ s s' N v r->Q v s'):wpAny (model Pg W0) A (binaryOp .Mult (.str x t) (.int y u)) Q E s:= by
 refine xa (aZ h) λhs h=>?_;refine P.mul_str (by simp;exact⟨ñ (.l (.G (.N 9223372036854775808)) .a) [.t (.G .kj) .a] hs.2.2,iv hs.2.1 (by decide)⟩) ?_ ?_ ?_
 ·intro h1 h2;exact λq=>WL hs h1 q
 ·intro h1 h2;have:=Y7 hs;simp only[xo,sizeLine,gt_iff_lt,decide_eq_false_iff_not,ax];exact aa this (by decide)
 ·split
  ·rename_i h1;exact⟨by decide,hQ _ _ (Pure.toks _) (Θ h (aAS (Int.lt_add_one_iff.mp h1)))⟩
  ·split
   ·rename_i h2;exact hQ _ _ (Ö.refl _ _) (Θ h (aAT h2))
   ·exact⟨(RZ hs).2,hQ _ _ (Pure.toks _) (Θ h Y5.symm)⟩
theorem WN (h:some (PV.lst l)=some r) (hN:Ė N s.heap) (rs:Í s.heap N vs l) (ho:o=vs.toArray) (hQ:∀v s',Pure s s'->ĕ s s' N v r->Q v s'):
  Q (.ref s.heap.objs.size) {s with heap:=s.heap.push {cls:=.type "list",data:=.seq o}}:= by
 subst ho;exact sS (t:=s.toks) hN rs (ai _) (sm h▸hQ)
theorem Y8 (h:some (PV.tup l)=some r) (hN:Ė N s.heap) (rs:Í s.heap N vs l) (ho:o=vs.toArray) (hQ:∀v s',Pure s s'->ĕ s s' N v r->Q v s'):
  Q (.ref s.heap.objs.size) {s with heap:=s.heap.push {cls:=.type "tuple",data:=.seq o}}:= by
 subst ho;exact uI (t:=s.toks) hN rs (ai _) (sm h▸hQ)
theorem Y9 (hN:Ė N s.heap) (pa:s.heap.PlainList a vs.toArray) (Jk:Í s.heap N vs l) (pb:s.heap.PlainList b us.toArray) (ũ:Í s.heap N us m) (h:YV l m=some r)
  (hQ:∀v s',Pure s s'->ĕ s s' N v r->Q v s'):wpAny (model Pg W0) A (binaryOp .Add (.ref a) (.ref b)) Q E s:= by
 refine xa (aZ h) λhs h=>?_;rw[<-Jk.length,<-ũ.length] at hs;refine xe pa λn1 e1=>?_;clear pa;refine xe pb λn2 e2=>?_;exact P.add_list e1 e2 (WN h hN (Jk.append ũ) (xp _ _) hQ) (aa hs sz5)
theorem BD (h:vs.length=l.length) (e:l.isEmpty=false) (q:vs.toArray.isEmpty=true):False:= by
 cases vs with
 |nil=>cases l with
  |nil=>cases e
  |cons=>cases h
 |cons=>trivial
theorem ZA (hN:Ė N s.heap) (pa:Ô s.heap a vs.toArray) (Jk:Í s.heap N vs l) (pb:Ô s.heap b us.toArray) (ũ:Í s.heap N us m) (h:YX l m=some r)
  (hQ:∀v s',Pure s s'->ĕ s s' N v r->Q v s'):wpAny (model Pg W0) A (binaryOp .Add (.ref a) (.ref b)) Q E s:= by
 refine xa (aZ h) λhs h=>?_;refine xe pa λn1 e1=>?_;clear pa;refine xe pb λn2 e2=>?_;clear pb;have hl:=hs.1;rw[<-Jk.length,<-ũ.length] at hl;exact P.add_tuple e1 e2 (λq=>BD Jk.length hs.2.1 q) (λq=>BD ũ.length hs.2.2 q) (Y8 h hN (Jk.append ũ) (xp _ _) hQ) (aa hl sz5)
theorem LV:List.foldl (λx1 x2=>x1++x2) #[] (ah (if vs.toArray.isEmpty=true then 0 else y.toNat) vs.toArray)=(ah y.toNat vs).flatten.toArray:= by
 refine O (iV ..) ?_;cases vs with
 |nil=>simp
 |cons v vs=>simp
theorem WO (hN:Ė N s.heap) (pa:s.heap.PlainList a vs.toArray) (Jk:Í s.heap N vs l) (h:RU l y=some r)
  (hQ:∀v s',Pure s s'->ĕ s s' N v r->Q v s'):wpAny (model Pg W0) A (binaryOp .Mult (.ref a) (.int y u)) Q E s:= by
 refine xa (aZ h) λhs h=>?_;rw[<-Jk.length] at hs;have h3:=Y7 hs;refine xe pa λn1 e1=>?_;exact wpAny_binaryOp_repeat_ref (T:="list") (U:="int") (by decide) (Õ _ e1 rfl) (λs'=>typeIs_int s' _ _) noFill_list_mul Bl qo repeat_list Ac.lookup
   (call_meets qo (typeIs_int s _ _) Ad (za _ _) (int___rmul___int_list _ _ _ _ _)
    ⟨e1,rfl,(Õ _ e1 rfl),call_meets F.slot_list_mul (Õ _ e1 rfl) F.entry_list_mul (F.args_list_mul_2 _ _)
     (yu _ _ _ _ _ (by simp[Bw];exact⟨ñ (.l (.G (.N 9223372036854775808)) .a) [.t (.G .kj) .a] hs.2.2,iv hs.2.1 (by decide)⟩) (by simp;exact aa h3 (by decide)) (by simp[Cy,sizeLine];exact aa h3 (by decide)))
     ⟨e1,WN h hN (Jk.rep y.toNat) LV hQ⟩⟩)
theorem ZB (hN:Ė N s.heap) (pa:Ô s.heap a vs.toArray) (Jk:Í s.heap N vs l) (h:YW l y=some r)
  (hQ:∀v s',Pure s s'->ĕ s s' N v r->Q v s'):wpAny (model Pg W0) A (binaryOp .Mult (.ref a) (.int y u)) Q E s:= by
 refine xa (aZ h) λhs h=>?_;refine xe pa λn1 e1=>?_;clear pa;obtain⟨v,rfl⟩:∃v,vs=[v]:=jp.mp (Jk.length.trans hs.1);have key:∀{o:Array ag},Ga (Dm.«tuple.__mul__» ⟨[.ref a,.int y u],[]⟩) (λ_ R s=>s.heap.get? a=some {cls:=.type "tuple",dict:=none,data:=.seq #[v] n1,slots:=#[]}/\
   R (.ok (.ret (.ref s.heap.objs.size))) {s with heap:=s.heap.push {cls:=.type "tuple",data:=.seq o},toks:=s.toks})->o=(ah y.toNat [v]).flatten.toArray->wpAny (model Pg W0) A (binaryOp .Mult (.ref a) (.int y u)) Q E s:=λm e=>
  wpAny_binaryOp_repeat_ref (T:="tuple") (U:="int") (by decide) (Õ _ e1 rfl) (λs'=>typeIs_int s' _ _) rV Bl qo zT Ac.lookup
    (call_meets qo (typeIs_int s _ _) Ad (za _ _) (uJ _ _ _ _ _)
     (d9 e1 rfl (Õ _ e1 rfl) (call_meets tm (Õ _ e1 rfl) F.entry_tuple_mul (F.args_tuple_mul_2 _ _) m ⟨e1,Y8 h hN (Jk.rep y.toNat) e hQ⟩)))
 rcases hs.2 with rfl|rfl
 ·exact key (D6 _ _ _ _) rfl
 ·exact key (D7 _ _ _ _) rfl
end
set_option maxHeartbeats 1000000 in
theorem IP (R:Ê A k) (hT:0<s.toks) (hN:Ė N s.heap) (ra:RT s.heap N a p) (rb:RT s.heap N b q) (h:fD op p q=some r)
  (hQ:∀v s',Pure s s'->ĕ s s' N v r->Q v s'):wpAny (model Pg W0) A (binaryOp op a b) Q E s:= by
 have ra:=ra.inv;have rb:=rb.inv;clear R;cases p<;>try (exact nn h)
 case int x=>
  apply ä ra;intro t;clear ra;cases q<;>try (exact nn h)
  ·apply ä rb;intro u;exact WH hT (show GR _ _ op=some r from h) hQ
  ·apply Ő rb;intro u _;exact WK hT (show WF _ _ op=some r from h) hQ
 case flt x=>
  apply Ő ra;intro t _;clear ra;cases q<;>try (exact nn h)
  ·apply ä rb;intro u;exact WJ hT (show WE _ _ op=some r from h) hQ
  ·apply Ő rb;intro u _;exact WI hT (show LO _ _ op=some r from h) hQ
 case str x=>
  apply ä ra;intro t;clear ra;cases q<;>try (exact nn h)
  ·apply ä rb;intro u;clear rb;apply xr (rY (show uH op _=some r from h));intro h;exact WM h hQ
  ·apply ä rb;intro u;clear rb;apply xr (rX (show uG op _=some r from h));intro h;exact Y6 h hQ
 case tup l=>
  apply fF ra;intro a vs pa Jk;clear ra;cases q<;>try (exact nn h)
  ·apply ä rb;intro u;clear rb;apply xr (rY (show uH op _=some r from h));intro h;exact ZB hN pa Jk h hQ
  ·apply fF rb;intro _ _ pb ũ;clear rb;apply xr (rX (show uG op _=some r from h));intro h;exact ZA hN pa Jk pb ũ h hQ
 case lst l=>
  apply fF ra;intro a vs pa Jk;clear ra;cases q<;>try (exact nn h)
  ·apply ä rb;intro u;clear rb;apply xr (rY (show uH op _=some r from h));intro h;exact WO hN pa Jk h hQ
  ·apply fF rb;intro _ _ pb ũ;clear rb;apply xr (rX (show uG op _=some r from h));intro h;exact Y9 hN pa Jk pb ũ h hQ
end
noncomputable def o8 (f:PV->PV->Option Bool):List PV->List PV->Option Bool
 |[],[]=>some true
 |a::l,b::m=>match f a b,o8 f l m with
  |some x,some y=>some (x&&y)
  |_,_=>none
 |[],_::_=>some false
 |_::_,[]=>some false
def pN (f:Option (PV->PV->Option Bool)) (p q:PV):Option Bool:=match p with
 |.none=>(match q with|.none=>some true|_=>none)
 |.bool a=>(match q with|.bool b=>some (a==b)|_=>none)
 |.int a=>(match q with|.int b=>some (a==b)|_=>none)
 |.str a=>(match q with|.str b=>some (a==b)|_=>none)
 |.flt a=>(match q with|.flt b=>(if ex a b==some md then some true else none)|_=>none)
 |.tup a=>(match q with|.tup b=>(match f with|some f=>(if a.length==b.length then o8 f a b else none)|none=>none)|_=>none)
 |.lst a=>(match q with|.lst b=>(match f with|some f=>(if a.length==b.length then o8 f a b else some false)|none=>none)|_=>none)
 |_=>none
def ü:Nat->PV->PV->Option Bool
 |0=>pN none
 |n+1=>pN (some (ü n))
def eqP:Nat->Option (PV->PV->Option Bool)
 |0=>none
 |n+1=>some (ü n)
theorem BE (n:Nat):ü n=pN (eqP n):=by cases n<;>rfl
set_option tactic.hygienic true in
theorem jS{f:Option (PV->PV->Option Bool)}{p q:PV}{r:Bool}{C:PV->PV->Bool->Prop}(h:pN f p q=some r) (h0:C .none .none true) (h1:∀a b,C (.bool a) (.bool b) (a==b)) (h2:∀a b,C (.int a) (.int b) (a==b))
  (h3:∀a b,C (.str a) (.str b) (a==b)) (h4:∀x y,(ex x y==some md)=true->C (.flt x) (.flt y) true) (h5:∀g l m,f=some g->l.length=m.length->o8 g l m=some r->C (.tup l) (.tup m) r)
  (h6:∀g l m,f=some g->l.length=m.length->o8 g l m=some r->C (.lst l) (.lst m) r) (h7:∀l m,l.length≠m.length->C (.lst l) (.lst m) false):C p q r:= by
 cases p<;>try (exact nn h)
 case none=>
  cases q<;>try (exact nn h)
  exact sm h▸h0
 case bool=>
  cases q<;>try (exact nn h)
  exact sm h▸h1 _ _
 case int=>
  cases q<;>try (exact nn h)
  exact sm h▸h2 _ _
 case str=>
  cases q<;>try (exact nn h)
  exact sm h▸h3 _ _
 case flt=>
  cases q<;>try (exact nn h)
  exact sm (aZ h).2▸h4 _ _ (aZ h).1
 case tup=>
  cases q<;>try (exact nn h)
  cases f with
  |none=>exact nn h
  |some g=>exact h5 g _ _ rfl (am (aZ h).1) (aZ h).2
 case lst l=>
  cases q<;>try (exact nn h)
  rename_i m;cases f with
  |none=>exact nn h
  |some g=>
   have h:(if l.length==m.length then o8 g l m else some false)=some r:=h
   by_cases hl:l.length=m.length
   ·rw[if_pos (beq_iff_eq.mpr hl)] at h;exact h6 g _ _ rfl hl h
   ·rw[if_neg (λq=>hl (am q))] at h;exact sm h▸h7 _ _ hl
noncomputable def o9 (f:PV->Option Bool):List PV->Option Bool
 |[]=>some false
 |a::l=>match f a,o9 f l with
  |some x,some y=>some (x||y)
  |_,_=>none
def inF (p q:PV):Option Bool:=match q with
 |.str x=>(match p with|.str y=>some !(dd x y 0 x.length 1).isEmpty|_=>none)
 |.tup l=>if l.all PV.scalar then o9 (λy=>ü 0 y p) l else none
 |.lst l=>if l.all PV.scalar then o9 (λy=>ü 0 y p) l else none
 |.dcts l=>(match p with|.str k=>some (l.lookup k).isSome|_=>none)
 |_=>none
def ZC (p q:PV):Option Bool:=match q with
 |.str x=>(match p with|.str y=>some (!(!(dd x y 0 x.length 1).isEmpty))|_=>none)
 |.tup l=>if l.all PV.scalar then(o9 (λy=>ü 0 y p) l).map (!·) else none
 |.lst l=>if l.all PV.scalar then(o9 (λy=>ü 0 y p) l).map (!·) else none
 |.dcts l=>(match p with|.str k=>some (!(l.lookup k).isSome)|_=>none)
 |_=>none
noncomputable def LW (f:Int->Int->Bool) (g:UInt64->UInt64->Bool) (p q:PV):Option Bool:=match p with
 |.int a=>(match q with|.int b=>some (f a b)|_=>none)
 |.flt a=>(match q with|.flt b=>some (g a b)|_=>none)
 |_=>none
noncomputable def isF (p q:PV):Option Bool:=match p with
 |.bool a=>(match q with|.bool b=>some (a==b)|_=>none)
 |.none=>(match q with|.none=>some true|_=>none)
 |.int _=>(match q with|.none=>some false|_=>none)
 |_=>none
noncomputable def ZD (p q:PV):Option Bool:=match p with
 |.bool a=>(match q with|.bool b=>some (!(a==b))|_=>none)
 |_=>none
def WP (p q:PV):Option Bool:=match p with
 |.flt a=>(match q with|.flt b=>some (ex a b==some md)|q=>ü 3 (.flt a) q)
 |p=>ü 3 p q
def cD (op:Df) (p q:PV):Option Bool:=match op with
 |.Is=>isF p q
 |.IsNot=>ZD p q
 |.Eq=>WP p q
 |.NotEq=>(ü 3 p q).map (!·)
 |.Lt=>LW (λa b=>decide (a<b)) (λa b=>ex a b==some As) p q
 |.LtE=>LW (λa b=>decide (a<=b)) (λa b=>ex a b==some As||ex a b==some md) p q
 |.Gt=>LW (λa b=>decide (a>b)) (λa b=>ex a b==some Au) p q
 |.GtE=>LW (λa b=>decide (a>=b)) (λa b=>ex a b==some Au||ex a b==some md) p q
 |.In=>inF p q
 |.NotIn=>ZC p q
section
variable{h:jg}{N:Ap}
theorem GT (h:Ae a=Ae b):a=b:=by cases h;rfl
theorem GU (h:some ({cls:=c,data:=.seq x n}:Obj)=some {cls:=c,data:=.seq y m}):x=y:=by cases h;rfl
theorem LY (a:RV h N v (.tup p)) (b:RV h N v (.tup q)):∃vs,Í h N vs p/\Í h N vs q:= by
 obtain⟨x,vs,rfl,_,⟨n,e1⟩,r1⟩:=a.inv;obtain⟨y,us,e,_,⟨m,e2⟩,r2⟩:=b.inv;rw[GT e,e2] at e1;have e:us=vs:=congrArg Dq (GU e1);exact(Õ vs r1 (e▸r2))
theorem qL (a:RV h N v (.lst p)) (b:RV h N v (.lst q)):∃vs,Í h N vs p/\Í h N vs q:= by
 obtain⟨x,vs,rfl,_,⟨n,e1⟩,r1⟩:=a.inv;obtain⟨y,us,e,_,⟨m,e2⟩,r2⟩:=b.inv;rw[GT e,e2] at e1;have e:us=vs:=congrArg Dq (GU e1);exact(Õ vs r1 (e▸r2))
theorem LZ (p:RV h N v (.int a)) (q:RV h N v (.int b)):a=b:= by
 refine xe p.inv λt aT=>?_;subst aT;refine xe q.inv λu e=>?_;cases e;rfl
theorem L0 (p:RV h N v (.str a)) (q:RV h N v (.str b)):a=b:= by
 refine xe p.inv λt aT=>?_;subst aT;refine xe q.inv λu e=>?_;cases e;rfl
theorem IQ (p:RV h N v (.bool a)) (q:RV h N v (.bool b)):a=b:= by
 have e:=p.inv.symm.trans q.inv;cases e;rfl
theorem xU (h:o8 f (a::l) (b::m)=some r):∃x y,f a b=some x/\o8 f l m=some y/\(x&&y)=r:= by
 have h:(match f a b,o8 f l m with|some x,some y=>some (x&&y)|_,_=>none)=some r:=h;revert h;cases f a b with
 |none=>exact nn
 |some x=>cases o8 f l m with
  |none=>exact nn
  |some y=>exact λh=>(cC x y rfl rfl (sm h))
theorem uK (hf:∀(v:ag) (p q:PV) (b:Bool),RV h N v p->RV h N v q->f p q=some b->b=true):∀(ps qs:List PV) (vs:List ag) (b:Bool),Í h N vs ps->Í h N vs qs->o8 f ps qs=some b->b=true:= by
 intro ps
 induction ps with
 |nil=>
  intro qs vs b r1 r2 e;cases r1;cases r2;exact(sm e).symm
 |cons p ps ih=>
  intro qs vs b r1 r2 e;cases r1 with
  |cons a r1=>cases r2 with
   |cons c r2=>
    apply zR (xU e);intro x y hx hy;refine O (hf _ _ _ _ a c hx) (O (ih _ _ _ r1 r2 hy) ?_);rfl
theorem BF (n:Nat):∀(v:ag) (p q:PV) (b:Bool),RV h N v p->RV h N v q->ü n p q=some b->b=true:= by
 induction n using Nat.strongRecOn with
 |ind n ih=>
  intro v p q b r1 r2 e;rw[BE] at e;have up:∀{g:PV->PV->Option Bool},eqP n=some g->∃k,k<n/\g=ü k:=λ{g} hg=>by
   cases n with
   |zero=>exact nn hg
   |succ n=>exact(Õ n (di n) ((sm hg).symm))
  refine jS (C:=λp q b=>RV h N v p->RV h N v q->b=true) e ?_ ?_ ?_ ?_ ?_ ?_ ?_ ?_ r1 r2
  ·exact λ_ _=>rfl
  ·exact λa b p q=>beq_iff_eq.mpr (IQ p q)
  ·exact λa b p q=>beq_iff_eq.mpr (LZ p q)
  ·exact λa b p q=>beq_iff_eq.mpr (L0 p q)
  ·exact λ_ _ _ _ _=>rfl
  ·intro g l m hg _ h5 p q;refine É (up hg) λk hk aT=>?_;subst aT;refine É (LY p q) λvs a b=>?_;exact uK (ih k hk) _ _ _ _ a b h5
  ·intro g l m hg _ h5 p q;refine É (up hg) λk hk aT=>?_;subst aT;refine É (qL p q) λvs a b=>?_;exact uK (ih k hk) _ _ _ _ a b h5
  ·intro l m hl p q;refine É (qL p q) λvs a b=>?_;exact absurd (a.length.symm.trans b.length) hl
end
theorem Ê.in1 (r:Ê A (k+1)):Ê A.in1 k:=⟨r.hh,by have:=r.depth;dsimp only[tn];exact Ò (.y .ko (.N 900)) [.y (.A .q .ke) (.N 900)] this,by have:=r.units;dsimp only[to];exact Ò (.y (.A .kc (.M .n8 .r)) (.N 9000)) [.y (.A .q (.M .n8 .ke)) (.N 9000)] this⟩
def ß (h:jg):Prop:=∃mc,h.Ns cStatics mc/\mc sharingNotToldKey=none
theorem ß.keeps (x:ß h) (k:∀b o,h.get? b=some o->h'.get? b=some o):ß h':=let ⟨mc,a,b⟩:=x;⟨mc,a.keeps k,b⟩
theorem pD (Gk:ß s.heap) (h:Q false s):wpAny M A (sharingNotTold t) Q E s:= by
 refine É Gk λmc hn hm=>?_;clear Gk;unfold sharingNotTold;refine bj (wpAny_nsGet hn ?_);exact O hm (cv h)
open SeqAt in
theorem uL (Gk:ß s.heap) (ht:t≠0) (hu:u≠0) (he:(ex x y==some md)=true):EqAt A s (.float x t) (.float y u) true:= by
 intro Pg W0 E Q h;unfold eqBool;refine wpAny_holding ?_;have tail:wpAny (model Pg W0) A (do truthOfDropped (<-richCompare .Eq (.float x t) (.float y u))) Q E s:=
  bj (sj (Q:=λv s'=>wpAny (model Pg W0) A (truthOfDropped v) Q E s') (wpAny_truthy_bool (by exact O he h)))
 by_cases hb:(mr x t==mr y u)=true
 ·exact O (if_pos hb) (bj (wpAny_rule (cv h)))
 ·refine O (if_neg hb) (bj ?_);have hz:(t==0||u==0)=false:=by simp[ht,hu]
  show wpAny (model Pg W0) A (Bx (x==y&&!Float64.isNaN x) t u) _ E s;unfold Bx;refine O hz ?_
  dsimp only[ay,if_false]
  have bL:∀b:Bool,wpAny (model Pg W0) A (if b=true then pure true else(do truthOfDropped (<-richCompare .Eq (.float x t) (.float y u)))) Q E s:= by
   intro b;cases b with
   |true=>exact cv h
   |false=>exact tail
  by_cases Wn:(t==u)=true
  ·exact O (if_pos Wn) (cv (bL true))
  ·refine O (if_neg Wn) ?_
   by_cases Tk:(!(x==y&&!Float64.isNaN x))=true
   ·exact O (if_pos Tk) (cv (bL false))
   ·refine O (if_neg Tk) (bj (pD Gk ?_));simp only[ay,if_false];refine bj (pD Gk ?_);simp only[ay,if_false];exact bj (wpAny_rule (bj (wpAny_askSetting (cv (bL _)))))
theorem Ô.isTuple (x:Ô h a À):h.IsTuple a À:=let ⟨n,e⟩:=x;(jC _ e rfl ⟨n,rfl⟩)
theorem BG:∀{m:List PV}{b:Bool},l.length=m.length->o8 f l m=some b->
  ∃e:Nat->Bool,(∀j p q,l[j]?=some p->m[j]?=some q->f p q=some (e j))/\b=(cw l.length).all e:= by
 induction l with
 |nil=>
  intro m b hl h;cases m with
  |nil=>exact(Õ (λ_=>true) (λj p q hp=>nn hp) ((sm h).symm))
  |cons=>cases hl
 |cons a l ih=>
  intro m b hl h;cases m with
  |nil=>cases hl
  |cons c m=>
   apply zR (xU h);intro x y hx hy;refine É (ih (rd hl) hy) λe h1 h2=>?_;refine(Õ (λj=>Nat.rec x (λj _=>e j) j) (λj p q hp hq=>?_) ?_)
   ·cases j with
    |zero=>exact sm hp▸sm hq▸hx
    |succ j=>exact h1 j p q hp hq
   ·refine O h2 (O dc (O ov (O List.all_cons (O re ?_))));rfl
section
open SeqAt
variable{s:aj}{N:Ap}
theorem qM{f:PV->PV->Option Bool}{B:dm}(hf:∀(v u:ag) (p q:PV) (b:Bool),RV s.heap N v p->RV s.heap N u q->f p q=some b->EqAt B s v u b){vs us:List ag}{l m:List PV}{e:Nat->Bool}(ra:Í s.heap N vs l) (rc:Í s.heap N us m)
  (h1:∀j p q,l[j]?=some p->m[j]?=some q->f p q=some (e j)) (j:Nat) (h3:j<vs.toArray.size) (h4:j<us.toArray.size):EqAt B s vs.toArray[j] us.toArray[j] (e j):= by
 refine É (ra.get (bl (ra.length▸h3:j<l.length))) λv' Rh Kb=>?_;refine É (rc.get (bl (rc.length▸h4:j<m.length))) λu' Yb ru'=>?_;have e1:vs.toArray[j]=v':=(df.mp Rh).2;have e2:us.toArray[j]=u':=(df.mp Yb).2;exact O e1 (O e2 (hf _ _ _ _ _ Kb ru' (h1 j _ _ (bl _) (bl _))))
theorem R0{e:Nat->Bool}{vs us:List ag}{l m:List PV}(l1:vs.length=l.length) (l2:us.length=m.length) (hl:l.length=m.length):
  ((cw (min vs.toArray.size us.toArray.size)).all e&&vs.toArray.size==us.toArray.size)=(cw l.length).all e:= by
 simp[l1,l2,hl]
theorem L4{f:PV->PV->Option Bool}{A:dm}(hu:A.units<cLine) (hf:∀(v u:ag) (p q:PV) (b:Bool),RV s.heap N v p->RV s.heap N u q->f p q=some b->EqAt A.in1 s v u b){a c:ew}{vs us:List ag}{l m:List PV}{b:Bool}
  (pa:Ô s.heap a vs.toArray) (ra:Í s.heap N vs l) (pc:Ô s.heap c us.toArray) (rc:Í s.heap N us m) (hl:l.length=m.length) (h:o8 f l m=some b):RcAt A s (.ref a) (.ref c) b/\RcNeAt A s (.ref a) (.ref c) (!b):= by
 apply YT (BG hl h);intro e h1;exact aBD (R0 ra.length rc.length hl) ⟨RcAt.tuples pa.isTuple pc.isTuple hu (qM hf ra rc h1),RcNeAt.tuples pa.isTuple pc.isTuple hu (qM hf ra rc h1)⟩
theorem L5{f:PV->PV->Option Bool}{A:dm}(hu:A.units<cLine) (hf:∀(v u:ag) (p q:PV) (b:Bool),RV s.heap N v p->RV s.heap N u q->f p q=some b->EqAt A.in1 s v u b){a c:ew}{vs us:List ag}{l m:List PV}{b:Bool}
  (pa:s.heap.PlainList a vs.toArray) (ra:Í s.heap N vs l) (pc:s.heap.PlainList c us.toArray) (rc:Í s.heap N us m) (hl:l.length=m.length) (h:o8 f l m=some b):RcAt A s (.ref a) (.ref c) b/\RcNeAt A s (.ref a) (.ref c) (!b):= by
 apply YT (BG hl h);intro e h1;have hs:vs.toArray.size=us.toArray.size:=ra.length.trans (hl.trans rc.length.symm);exact aBD ra.length ⟨RcAt.lists pa.isList pc.isList hs hu (qM hf ra rc h1),RcNeAt.lists pa.isList pc.isList hs hu (qM hf ra rc h1)⟩
theorem D8 (hu:A.units<cLine) (pa:s.heap.PlainList a vs.toArray) (ra:Í s.heap N vs l) (pc:s.heap.PlainList c us.toArray) (rc:Í s.heap N us m) (hl:l.length≠m.length):
  RcAt A s (.ref a) (.ref c) false/\RcNeAt A s (.ref a) (.ref c) true:= by
 have hs:(vs.toArray.size != us.toArray.size)=true:=bne_iff_ne.mpr λq=>hl (ra.length.symm.trans (Bz q rc.length));exact⟨RcAt.lists_lengths pa.isList pc.isList hs hu,RcNeAt.lists_lengths pa.isList pc.isList hs hu⟩
theorem pO (Gk:ß s.heap):∀(n:Nat){A:dm}{v u:ag}{p q:PV}{b:Bool},Ê A n->RV s.heap N v p->RV s.heap N u q->ü n p q=some b->EqAt A s v u b:= by
 intro n
 induction n with
 |zero=>
  intro A v u p q b R rv ru h;refine jS (C:=λp q b=>RV s.heap N v p->RV s.heap N u q->EqAt A s v u b) (show pN none p q=some b from h) ?_ ?_ ?_ ?_ ?_ (λ_ _ _ e=>nn e) (λ_ _ _ e=>nn e) ?_ rv ru
  ·exact λa b=>a.inv▸b.inv▸EqAt.same _
  ·exact λx y a b=>a.inv▸b.inv▸EqAt.bool_bool x y
  ·exact λx y a b=>by refine xe a.inv λ_ aT=>?_;subst aT;refine xe b.inv λ_ aT=>?_;subst aT;exact EqAt.int_int _ _ _ _
  ·exact λx y a b=>by refine xe a.inv λ_ aT=>?_;subst aT;refine xe b.inv λ_ aT=>?_;subst aT;exact(eqGives_str _ _ _ _).at _ _
  ·exact λx y e a b=>by refine É a.inv λ_ aT h1=>?_;subst aT;refine É b.inv λ_ aT h2=>?_;subst aT;exact uL Gk h1 h2 e
  ·intro l m hl a b;refine dG a.inv λ_ _ aT _ pa ra=>?_;subst aT;refine dG b.inv λ_ _ aT _ pb rb=>?_;subst aT;refine EqAt.of_refs (λe=>?_) (D8 R.line pa ra pb rb hl).1;subst e;refine É (qL a b) λvs x y=>?_;exact hl (x.length.symm.trans y.length)
 |succ n ih=>
  intro A v u p q b R rv ru h;have hf:∀(v u:ag) (p q:PV) (b:Bool),RV s.heap N v p->RV s.heap N u q->ü n p q=some b->EqAt A.in1 s v u b:=λ_ _ _ _ _ a b e=>ih R.in1 a b e;refine jS (C:=λp q b=>RV s.heap N v p->RV s.heap N u q->ü (n+1) p q=some b->EqAt A s v u b) (show pN (some (ü n)) p q=some b from h) ?_ ?_ ?_ ?_ ?_ ?_ ?_ ?_ rv ru h
  ·exact λa b _=>a.inv▸b.inv▸EqAt.same _
  ·exact λx y a b _=>a.inv▸b.inv▸EqAt.bool_bool x y
  ·exact λx y a b _=>by refine xe a.inv λ_ aT=>?_;subst aT;refine xe b.inv λ_ aT=>?_;subst aT;exact EqAt.int_int _ _ _ _
  ·exact λx y a b _=>by refine xe a.inv λ_ aT=>?_;subst aT;refine xe b.inv λ_ aT=>?_;subst aT;exact(eqGives_str _ _ _ _).at _ _
  ·exact λx y e a b _=>by refine É a.inv λ_ aT h1=>?_;subst aT;refine É b.inv λ_ aT h2=>?_;subst aT;exact uL Gk h1 h2 e
  ·intro g l m hg hl h5 a b h;cases hg;refine dG a.inv λx _ aT _ pa ra=>?_;subst aT;refine dG b.inv λy _ aT _ pb rb=>?_;subst aT
   by_cases e:x=y
   ·subst e;exact O (BF _ _ _ _ _ a b h) (EqAt.same _)
   ·exact EqAt.of_refs e (L4 R.line hf pa ra pb rb hl h5).1
  ·intro g l m hg hl h5 a b h;cases hg;refine dG a.inv λx _ aT _ pa ra=>?_;subst aT;refine dG b.inv λy _ aT _ pb rb=>?_;subst aT
   by_cases e:x=y
   ·subst e;exact O (BF _ _ _ _ _ a b h) (EqAt.same _)
   ·exact EqAt.of_refs e (L5 R.line hf pa ra pb rb hl h5).1
  ·intro l m hl a b h;refine dG a.inv λx _ aT _ pa ra=>?_;subst aT;refine dG b.inv λy _ aT _ pb rb=>?_;subst aT;refine EqAt.of_refs (λe=>?_) (D8 R.line pa ra pb rb hl).1;subst e;refine É (qL a b) λvs x y=>?_;exact hl (x.length.symm.trans y.length)
end
section
open SeqAt
variable{s:aj}{N:Ap}
theorem WQ (h:(ex x y==some md)=true):RcAt A s (.float x t) (.float y u) true/\RcNeAt A s (.float x t) (.float y u) false:=
 ⟨λPg W0 E Q hq=>sj (by exact O h hq),λPg W0 E Q hq=>Fj (by refine O (am h) ?_;exact hq)⟩
theorem uM (Gk:ß s.heap) (n:Nat) (R:Ê A n) (rv:RT s.heap N v p) (ru:RT s.heap N u q) (h:ü n p q=some b):RcAt A s v u b/\RcNeAt A s v u (!b):= by
 have up:∀{g:PV->PV->Option Bool},eqP n=some g->∀(v u:ag) (p q:PV) (b:Bool),RV s.heap N v p->RV s.heap N u q->g p q=some b->EqAt A.in1 s v u b:=λ{g} hg=>by
  cases n with
  |zero=>exact nn hg
  |succ n=>cases hg;exact λ_ _ _ _ _ a b e=>pO Gk n R.in1 a b e
 rw[BE] at h;refine jS (C:=λp q b=>RT s.heap N v p->RT s.heap N u q->RcAt A s v u b/\RcNeAt A s v u (!b)) h ?_ ?_ ?_ ?_ ?_ ?_ ?_ ?_ rv ru
 ·exact λa b=>by have e:=a.inv;cases e;have e:=b.inv;cases e;exact⟨RcAt.none_none,RcNeAt.none_none⟩
 ·exact λx y a b=>a.inv▸b.inv▸⟨RcAt.bool_bool _ _,RcNeAt.bool_bool _ _⟩
 ·exact λx y a b=>by apply ä a.inv;intro _;apply ä b.inv;intro _;exact⟨RcAt.int_int _ _ _ _,RcNeAt.int_int _ _ _ _⟩
 ·exact λx y a b=>by apply ä a.inv;intro _;apply ä b.inv;intro _;exact⟨RcAt.str_str _ _ _ _,RcNeAt.str_str _ _ _ _⟩
 ·exact λx y e a b=>by apply Ő a.inv;intro _ _;apply Ő b.inv;intro _ _;exact WQ e
 ·intro g l m hg hl h5 a b;apply fF a.inv;intro x _ pa ra;apply fF b.inv;intro y _ pb rb;exact L4 R.line (up hg) pa ra pb rb hl h5
 ·intro g l m hg hl h5 a b;apply fF a.inv;intro x _ pa ra;apply fF b.inv;intro y _ pb rb;exact L5 R.line (up hg) pa ra pb rb hl h5
 ·intro l m hl a b;apply fF a.inv;intro x _ pa ra;apply fF b.inv;intro y _ pb rb;exact D8 R.line pa ra pb rb hl
noncomputable def L6:ag->Option PV
 |.none=>some PV.none
 |.bool b=>some (PV.bool b)
 |.int n _=>some (.int n)
 |.float x _=>some (.flt x)
 |.str x _=>some (.str x)
 |_=>mq
theorem RV.scal (r:Mine.RV h N v p) (hs:p.scalar=true):L6 v=some p:= by
 cases r<;>first|rfl|exact nf hs
theorem RV.unscal (r:Mine.RV h N v p) (hs:p.scalar=false):L6 v=mq:= by
 cases r<;>first|rfl|cases hs
theorem RV.same (rp:RV h N v p) (rq:RV h N v q) (hs:p.scalar=true):p=q:= by
 cases e:q.scalar with
 |true=>exact sm ((rp.scal hs).symm.trans (rq.scal e))
 |false=>exact nn ((rq.unscal e).symm.trans (rp.scal hs))
open Classical in
def œ (h:jg) (N:Ap) (x:PV) (y:ag):Bool:=decide (∃p,p.scalar=true/\RV h N y p/\ü 0 p x=some true)
open Classical in
theorem L7 (rp:RV s.heap N y p) (hs:p.scalar=true) (h:ü 0 p x=some b):œ s.heap N x y=b:= by
 unfold œ;cases b with
 |true=>exact decide_eq_true (jC p hs rp h)
 |false=>
  refine decide_eq_false ?_
  rintro ⟨q,hq,rq,hh⟩
  have:=RV.same rp rq hs;subst this;rw[h] at hh;cases hh
theorem IR (h:o9 f (a::l)=some r):∃x y,f a=some x/\o9 f l=some y/\(x||y)=r:= by
 have h:(match f a,o9 f l with|some x,some y=>some (x||y)|_,_=>none)=some r:=h;revert h;cases f a with
 |none=>exact nn
 |some x=>cases o9 f l with
  |none=>exact nn
  |some y=>exact λh=>(cC x y rfl rfl (sm h))
theorem R4:∀{vs:List ag}{b:Bool},Í s.heap N vs l->l.all PV.scalar=true->o9 (λy=>ü 0 y x) l=some b->
  (∀y∈vs,∃p,RV s.heap N y p/\ü 0 p x=some (œ s.heap N x y))/\vs.any (œ s.heap N x)=b:= by
 induction l with
 |nil=>
  intro vs b r _ h;cases r;exact⟨λy hy=>(nomatch hy),sm h⟩
 |cons p l ih=>
  intro vs b r hs h;cases r with
  |cons a r=>
   have hs:=aC hs;apply zR (IR h);intro y z hy hz;refine xa (ih r hs.2 hz) λh1 h2=>?_;have h3:=L7 a hs.1 hy;refine⟨λu hu=>?_,by exact O List.any_cons (O h3 (O h2 rfl))⟩;rcases az.mp hu with rfl|hu
   ·exact(Õ _ a (h3▸hy))
   ·exact h1 u hu
end
section
variable{A:dm}{E:Vs}{s:aj}{N:Ap}
theorem Ł.lookup{K:Type}[DecidableEq K] {k:K}{Gp:List (K×ag)}{l:List (K×SV)}(r:Ł Gp l):(valueAt Gp k=none/\l.lookup k=none)\/∃v x,valueAt Gp k=some v/\l.lookup k=some x/\Χ v x:= by
 induction r with
 |nil=>exact .inl ⟨rfl,rfl⟩
 |@cons c v a es l hv r ih=>
  by_cases hk:c=k
  ·subst hk;exact .inr (cC v a (by simp[valueAt]) (by simp) hv)
  ·have h1:valueAt ((c,v)::es) k=valueAt es k:=by simp[valueAt,hk]
   have h2:Av k ((c,a)::l)=Av k l:= by
    exact O dp (O (beq_false_of_ne (sk hk)) rfl)
   exact O h1 (O h2 ih)
theorem L8 (h:ü 0 c p=some r):p.scalar=true:= by
 cases c<;>try (exact nn h)
 all_goals (cases p<;>first|exact nn h|rfl)
theorem RT.sc (ra:RT s.heap N a p) (h:p.scalar=true):RV s.heap N a p:= by
 cases ra with
 |none=>exact .none
 |bool b=>exact .bool b
 |int n t=>exact .int n t
 |flt x t ht=>exact .flt x t ht
 |str x t=>exact .str x t
 |tup=>exact nf h
 |lst=>exact nf h
 |dcti=>exact nf h
 |dcts=>exact nf h
theorem uN (h:ü 0 c p=some r) (ra:RT s.heap N a p):RV s.heap N a p:=ra.sc (L8 h)
theorem R5 (f:ag->Bool) (l:List ag):l.toArray.any f=l.any f:=by simp
section
variable{a b:ag}{p q:PV}{r:Bool}{Q:Vs}
theorem GW (x y:Bool):(Fd x==Fd y)=(x==y):=by cases x<;>cases y<;>rfl
set_option tactic.hygienic true in
theorem L9 (ra:RT s.heap N a p) (rb:RT s.heap N b q) (h:isF p q=some r) (hQ:Q (.bool r) s):wpAny (model Pg W0) A (compareOp .Is a b) Q E s:= by
 cases p<;>try (exact nn h)
 case bool x=>
  cases q<;>try (exact nn h)
  have e:=ra.inv;cases e;have e:=rb.inv;cases e;exact wpAny_is_plain rfl (by exact O (GW ..) (sm h▸hQ))
 case none=>
  cases q<;>try (exact nn h)
  have e:=ra.inv;cases e;have e:=rb.inv;cases e;exact wpAny_is_plain rfl (show Q (.bool true) s from sm h▸hQ)
 case int n=>
  cases q<;>try (exact nn h)
  apply ä ra.inv;intro t;have e:=rb.inv;cases e;exact wpAny_is_plain rfl (show Q (.bool false) s from sm h▸hQ)
theorem IS (ra:RT s.heap N a p) (rb:RT s.heap N b q) (h:ZD p q=some r) (hQ:Q (.bool r) s):wpAny (model Pg W0) A (compareOp .IsNot a b) Q E s:= by
 cases p<;>try (exact nn h)
 cases q<;>try (exact nn h)
 have e:=ra.inv;cases e;have e:=rb.inv;cases e;exact wpAny_isNot_plain rfl (by exact O (GW ..) (sm h▸hQ))
theorem tO{C:Prop}(ra:RT s.heap N a p) (rb:RT s.heap N b q) (h:LW f g p q=some r) (h1:∀x y t u,a=.int x t->b=.int y u->f x y=r->C) (h2:∀x y t u,a=.float x t->b=.float y u->g x y=r->C):C:= by
 cases p<;>try (exact nn h)
 all_goals cases q<;>try (exact nn h)
 ·refine xe ra.inv λt e=>?_;refine xe rb.inv λu e'=>?_;exact h1 _ _ t u e e' (sm h)
 ·refine É ra.inv λt e _=>?_;refine É rb.inv λu e' _=>?_;exact h2 _ _ t u e e' (sm h)
theorem zU (Gk:ß s.heap) (R:Ê B 0) (ra:RT s.heap N a p) (rs:Í s.heap N vs l) (hs:l.all PV.scalar=true) (h:o9 (λy=>ü 0 y p) l=some r):
  (∀y,y∈vs.toArray->SeqAt.EqAt B s y a (œ s.heap N p y))/\vs.toArray.any (œ s.heap N p)=r:= by
 refine xa (R4 rs hs h) λh1 h2=>?_;refine⟨λy hy=>?_,(R5 _ _).trans h2⟩;refine É (h1 y (Af.mp hy)) λc rc hc=>?_;exact pO Gk 0 R rc (uN hc ra) hc
theorem xV{k:Str}{Gp:List (Str×ag)}{l:List (Str×SV)}(r:Ł Gp l):(valueAt Gp k).isSome=(l.lookup k).isSome:= by
 rcases r.lookup (k:=k) with⟨h1,h2⟩|⟨v,y,h1,h2,_⟩<;>refine O h1 (O h2 ?_)<;>rfl
set_option tactic.hygienic true in
theorem MA (R:Ê A 1) (Gk:ß s.heap) (ra:RT s.heap N a p) (rb:RT s.heap N b q) (h:inF p q=some r) (hQ:∀s',Pure s s'->Q (.bool r) s'):wpAny (model Pg W0) A (compareOp .In a b) Q E s:= by
 cases q<;>try (exact nn h)
 case str x=>
  cases p<;>try (exact nn h)
  apply ä ra.inv;intro t;apply ä rb.inv;intro u;exact P.in_str (sm h▸hQ _ (Ö.refl _ _))
 case tup l=>
  apply fF rb.inv;intro _ _ pb rs;refine xa (zU Gk R.in1 ra rs (aZ h).1 (aZ h).2) λh1 h2=>?_;exact SeqAt.in_tupleAt (œ s.heap N p) pb.isTuple h1 (h2▸hQ _ (Ö.refl _ _))
 case lst l=>
  apply fF rb.inv;intro _ _ pb rs;refine xa (zU Gk R.in1 ra rs (aZ h).1 (aZ h).2) λh1 h2=>?_;exact SeqAt.in_listAt (œ s.heap N p) pb.isList h1 (h2▸hQ _ (Ö.refl _ _))
 case dcts l=>
  cases p<;>try (exact nn h)
  apply ä ra.inv;intro t;apply D3 rb.inv;intro _ My Gp Mz Jl;exact wpAny_in_of (strKind_is Pg W0 _ t) My Mz.mapOf (by exact O (xV Jl) (sm h▸hQ _ (Pure.toks _)))
set_option tactic.hygienic true in
theorem IT (R:Ê A 1) (Gk:ß s.heap) (ra:RT s.heap N a p) (rb:RT s.heap N b q) (h:ZC p q=some r) (hQ:∀s',Pure s s'->Q (.bool r) s'):wpAny (model Pg W0) A (compareOp .NotIn a b) Q E s:= by
 cases q<;>try (exact nn h)
 case str x=>
  cases p<;>try (exact nn h)
  refine xe ra.inv λt aT=>?_;subst aT;refine xe rb.inv λu aT=>?_;subst aT;exact P.notIn_str (sm h▸hQ _ (Ö.refl _ _))
 case tup l=>
  refine fR rb.inv λ_ _ aT pb rs=>?_;subst aT;refine É (bk.mp (aZ h).2) λx hx aT=>?_;subst aT;refine xa (zU Gk R.in1 ra rs (aZ h).1 hx) λh1 h2=>?_;exact SeqAt.notIn_tupleAt (œ s.heap N p) pb.isTuple h1 (h2▸hQ _ (Ö.refl _ _))
 case lst l=>
  refine fR rb.inv λ_ _ aT pb rs=>?_;subst aT;refine É (bk.mp (aZ h).2) λx hx aT=>?_;subst aT;refine xa (zU Gk R.in1 ra rs (aZ h).1 hx) λh1 h2=>?_;exact SeqAt.notIn_listAt (œ s.heap N p) pb.isList h1 (h2▸hQ _ (Ö.refl _ _))
 case dcts l=>
  cases p<;>try (exact nn h)
  refine xe ra.inv λt aT=>?_;subst aT;refine nQ rb.inv λ_ aT My zt=>?_;refine É zt λGp Mz Jl=>?_;clear zt;subst aT;exact wpAny_notIn_of (strKind_is Pg W0 _ t) My Mz.mapOf (by exact O (xV Jl) (sm h▸hQ _ (Pure.toks _)))
theorem R6 (h:WP p q=some r):ü 3 p q=some r\/∃x y,p=.flt x/\q=.flt y/\(ex x y==some md)=r:= by
 cases p<;>try (exact .inl h)
 cases q<;>try (exact .inl h)
 exact .inr (cC _ _ rfl rfl (sm h))
end
theorem gO (hk:3<=k) (R:Ê A k) (Gk:ß s.heap) (ra:RT s.heap N a p) (rb:RT s.heap N b q) (h:cD op p q=some r)
  (hQ:∀s',Pure s s'->Q (.bool r) s'):wpAny (model Pg W0) A (compareOp op a b) Q E s:= by
 have R3:=R.le hk;have R1:=R3.le (show 1<=3 by decide);have hq:=hQ _ (Ö.refl _ _);cases op
 case Is=>exact L9 ra rb h hq
 case IsNot=>exact IS ra rb h hq
 case Eq=>
  rcases R6 h with h|⟨x,y,rfl,rfl,rfl⟩
  ·exact(uM Gk 3 R3 ra rb h).1 Pg W0 E Q hq
  ·refine É ra.inv λt aT _=>?_;subst aT;refine É rb.inv λu aT _=>?_;subst aT;exact sj hq
 case NotEq=>
  refine É (bk.mp h) λx hx aT=>?_;subst aT;exact(uM Gk 3 R3 ra rb hx).2 Pg W0 E Q hq
 case Lt=>exact tO ra rb h (λx y t u e e' o=>e▸e'▸P.lt_int (o▸hq)) (λx y t u e e' o=>e▸e'▸zb (o▸hq))
 case LtE=>exact tO ra rb h (λx y t u e e' o=>e▸e'▸P.le_int (o▸hq)) (λx y t u e e' o=>e▸e'▸Fk (o▸hq))
 case Gt=>exact tO ra rb h (λx y t u e e' o=>e▸e'▸P.gt_int (o▸hq)) (λx y t u e e' o=>e▸e'▸zc (o▸hq))
 case GtE=>exact tO ra rb h (λx y t u e e' o=>e▸e'▸P.ge_int (o▸hq)) (λx y t u e e' o=>e▸e'▸Fm (o▸hq))
 case In=>exact MA R1 Gk ra rb h hQ
 case NotIn=>exact IT R1 Gk ra rb h hQ
end
theorem uO (h:Runs M Γ p t fs s e s'):s.heap.objs.size<=s'.heap.objs.size:= by
 induction h<;>(try simp only[th,bn,Ag] at*)<;>lia
theorem BH (h:Returns M Γ p s r s'):s.heap.objs.size<=s'.heap.objs.size:=uO h
theorem IU (h:Wakes M Γ p g r s res s'):s.heap.objs.size<=s'.heap.objs.size:= by
 delta Wakes at h
 split at h
 ·exact h.elim
 ·split at h
  ·obtain⟨Ia,bc,hr,_,_,rfl⟩:=h;exact(uO hr:(s.setGen g .running).heap.objs.size<=bc.heap.objs.size)
  all_goals (refine O h.2 ?_;exact ai _)
 ·obtain⟨Ia,bc,hr,_,_,rfl⟩:=h;exact(uO hr:(s.setGen g .running).heap.objs.size<=bc.heap.objs.size)
 all_goals (refine O h.2 ?_;exact ai _)
theorem WR{α:Type}(M:Fo) (Γ:Ctx) (n:Nat) (t:Sem α):∀(Q:α->Pos->aj->Prop) (E:ag->Pos->aj->Prop) (p:Pos) (s:aj),n<=s.heap.objs.size->Sem.wp M Γ t Q E p s->
  Sem.wp M Γ t (λa p' s'=>n<=s'.heap.objs.size/\Q a p' s') (λe p' s'=>n<=s'.heap.objs.size/\E e p' s') p s:= by
 induction t with
 |pure a=>exact λQ E p s hn h=>⟨hn,h⟩
 |raise e=>exact λQ E p s hn h=>⟨hn,h⟩
 |unsupported|finish|register|yield|fork|await=>exact λQ E p s _ h=>h
 |rule _ k ih|«at» _ k ih|point _ k ih=>exact λQ E p s hn h=>ih () Q E _ s hn h
 |load a _ k ih=>exact λQ E p s hn ⟨o,ho,h⟩=>⟨o,ho,ih o Q E p s hn h⟩
 |update a _ f k ih=>exact λQ E p s hn h=>⟨h.1,ih () Q E p _ (by simpa only[Ag] using hn) h.2⟩
 |alloc o k ih=>exact λQ E p s hn h=>ih _ Q E p _ (by simp only[bn];exact Ò (.x .q .ke) [.x .q .r] hn) h
 |loadIfAlive a k ih=>exact λQ E p s hn h=>ih _ Q E p _ hn h
 |fresh k ih=>exact λQ E p s hn h=>ih _ Q E p _ hn h
 |ask k ih=>exact λQ E p s hn h=>ih _ Q E p _ hn h
 |os _ _ k ih=>exact λQ E p s hn h=>ih _ Q E p _ hn h
 |handled _ k ih=>exact λQ E p s hn h=>ih _ Q E p _ hn h
 |newGen _ k ih=>exact λQ E p s hn h=>ih _ Q E p _ hn h
 |stack k ih=>exact λQ E p s hn h=>ih _ Q E p _ hn h
 |thread k ih=>exact λQ E p s hn h=>ih _ Q E p _ hn h
 |choose src m k ih=>exact λQ E p s hn h=>⟨h.1,ih _ Q E p _ hn h.2⟩
 |call c hd _ _ k ih=>exact λQ E p s hn ⟨r,s',hr,h⟩=>⟨r,s',hr,ih r Q E p s' (aa hn (BH hr)) h⟩
 |genState g k ih=>exact λQ E p s hn ⟨st,hs,h⟩=>⟨st,hs,ih _ Q E p s hn h⟩
 |resume g r _ k ih=>exact λQ E p s hn ⟨res,s',hw,h⟩=>⟨res,s',hw,ih res Q E p s' (aa hn (IU hw)) h⟩
def Ŋ (s s':aj):Prop:=s.heap.objs.size<=s'.heap.objs.size/\s.toks<=s'.toks
theorem bJ{α:Type}{t:Sem α}{Q:α->aj->Prop}
  (h:wpAny M A t (λa s'=>Ŋ s s'->Q a s') E s):wpAny M A t Q E s:= by
 have h1:wpAny M A t (λa s'=>s.heap.objs.size<=s'.heap.objs.size/\(Ŋ s s'->Q a s')) (λe s'=>s.heap.objs.size<=s'.heap.objs.size/\E e s') s:=
  λΓ p ĸ=>WR M Γ _ t _ _ p s (ai _) (h Γ p ĸ)
 have h2:=wpAny_toks h1;exact jk h2 (λa s' x=>x.2.2 ⟨x.2.1,x.1⟩) (λe s' x=>x.2.2)
theorem Pure.mk' (k:∀b o,s.heap.get? b=some o->h.get? b=some o) (m:Ŋ s {s with heap:=h,toks:=t}):Pure s {s with heap:=h,toks:=t}:=
 Pure.of_heap k m.1 m.2
noncomputable def SV.pv:SV->PV
 |.i n=>.int n
 |.t x=>.str x
theorem Χ.rv (r:Χ v a):RV h N v a.pv:= by
 cases r with
 |i n t=>exact .int n t
 |t x t=>exact .str x t
noncomputable def ū (k:Int) (n:Nat):Option Nat:=if -(2^62)<k/\k<2^62 then seqIndex? k n else none
def eG (p q:PV):Option PV:=match p with
 |.lst l=>(match q with|.int k=>(ū k l.length).bind (l[·]?)|_=>none)
 |.tup l=>(match q with|.int k=>(ū k l.length).bind (l[·]?)|_=>none)
 |.str x=>(match q with|.int k=>((ū k x.length).bind (x.cps[·]?)).map λc=>.str ⟨#[c]⟩|_=>none)
 |.dcts l=>(match q with|.str k=>(l.lookup k).map SV.pv|_=>none)
 |.dcti l=>(match q with|.int k=>(l.lookup k).map SV.pv|_=>none)
 |_=>none
theorem BI (h:seqIndex? k n=some j):(0<=k/\k<n/\j=k.toNat)\/(k<0/\0<=k+n/\j=(k+n).toNat):= by
 by_cases h0:k<0
 ·by_cases h1:0<=k+n
  ·rw[Ei h0 h1] at h;cases h;exact .inr (Ý h0 h1 rfl)
  ·rw[Ct ((mu.mp h1))] at h;cases h
 ·by_cases h1:k<n
  ·rw[seqIndex_of ((dt.mp h0)) h1] at h;cases h;exact .inl (Ý ((dt.mp h0)) h1 rfl)
  ·rw[Cu ((dt.mp h1))] at h;cases h
theorem BJ (h:ū k n=some j):-(2^62)<k/\k<2^62/\seqIndex? k n=some j:= by
 delta ū at h
 split at h
 ·rename_i hc;exact(Ý hc.1 hc.2 h)
 ·cases h
section
variable{A:dm}{E:Vs}{s:aj}{N:Ap}
theorem MB (hl:s.heap.PlainList l À) (h1:-(2^62)<k) (h2:k<2^62) (hj:seqIndex? k À.size=some j) (hx:À[j]?=some x)
  (h:Q x s):wpAny (model Pg W0) A (getItem (.ref l) (.int k t)) Q E s:= by
 rcases BI hj with⟨h0,h3,rfl⟩|⟨h0,h3,rfl⟩
 ·exact wpAny_getItem_list hl.isList h0 (ñ (.t .a .ky) [.t .a (.P .n2 62)] h2) hx h
 ·exact wpAny_getItem_list_neg hl.isList h0 (Ď [_] [_] (.l (.G .q) .a) [.l .n0 (.A .a .q)] h3) (ñ (.l (.G .ky) .a) [.t (.G (.P .n2 62)) .a] h1) hx h
theorem MC (ra:Í s.heap N vs l) (h:(ū k l.length).bind (l[·]?)=some r):∃j v,-(2^62)<k/\k<2^62/\seqIndex? k vs.toArray.size=some j/\vs.toArray[j]?=some v/\RV s.heap N v r:= by
 refine É (dq.mp h) λj hj hl=>?_;refine Ą (BJ hj) λh1 h2 h3=>?_;refine É (ra.get hl) λv hv rv=>?_;exact(cX j v h1 h2 (show seqIndex? k vs.length=some j from ra.length.symm▸h3) ⟨((jz).trans hv),rv⟩)
theorem BK{K:Type}[DecidableEq K] {k:K}{Gp:List (K×ag)}{l:List (K×SV)}(Jl:Ł Gp l) (h:(l.lookup k).map SV.pv=some r):∃v,valueAt Gp k=some v/\RV s.heap N v r:= by
 apply jQ (bk.mp h);intro y hy;rcases Jl.lookup (k:=k) with⟨_,h2⟩|⟨v,z,h1,h2,hv⟩
 ·exact nn (h2.symm.trans hy)
 ·exact(Õ v h1 (sm (h2.symm.trans hy)▸hv.rv))
theorem R7{p:PV}{v:ag}{s':aj}(h:∀x,p≠.str x):(∃x,p=.str x)->∀y t,v=.str y t->t≠0/\t<s'.toks:=fun⟨x,e⟩=>absurd e (h x)
theorem IV{a b:ag}{p q r:PV}{Q:Vs}{k:Nat}(R:Ê A k) (ra:RT s.heap N a p) (rb:RT s.heap N b q) (h:eG p q=some r)
  (hT:0<s.toks) (hQ:∀v s',Pure s s'->RV s'.heap N v r->((∃x,p=.str x)->∀y t,v=.str y t->t≠0/\t<s'.toks)->Q v s'):wpAny (model Pg W0) A (getItem a b) Q E s:= by
 clear R;have ra:=ra.inv;have rb:=rb.inv;cases p<;>try (exact nn h)
 case lst l=>
  cases q<;>try (exact nn h)
  refine xe rb λt aT=>?_;subst aT;clear rb;obtain⟨_,vs,rfl,pa,ra⟩:=ra;obtain⟨j,v,h1,h2,h3,hv,rv⟩:=MC ra h;exact MB pa h1 h2 h3 hv (hQ _ _ (Ö.refl _ _) rv (R7 λ_ e=>nomatch e))
 case tup l=>
  cases q<;>try (exact nn h)
  obtain⟨t,rfl⟩:=rb;obtain⟨_,vs,rfl,pa,ra⟩:=ra;obtain⟨j,v,h1,h2,h3,hv,rv⟩:=MC ra h;exact Ca pa.isTuple (by clear h h3 ra rv hv pa;exact ñ (.l (.G .ky) .a) [.t (.G (.P .n2 62)) .a] h1) (by clear h h3 ra rv hv pa;exact ñ (.t .a .ky) [.t .a (.P .n2 62)] h2) h3 hv (hQ _ _ (Ö.refl _ _) rv (R7 λ_ e=>nomatch e))
 case str x=>
  cases q<;>try (exact nn h)
  obtain⟨t,rfl⟩:=rb;obtain⟨u,rfl⟩:=ra;obtain⟨c,hc,rfl⟩:=bk.mp h;obtain⟨j,hj,hl⟩:=dq.mp hc;obtain⟨h1,h2,h3⟩:=BJ hj;exact P.getItem_str (by clear hQ h hc hj hl;simp;exact⟨ñ (.l (.G (.N 9223372036854775808)) .a) [.t (.G (.P .n2 62)) .a] h1,ñ (.t .a (.N 9223372036854775808)) [.t .a (.P .n2 62)] h2⟩) (by exact O h3 hl) (hQ _ _ (Pure.toks _) (.str _ _) (λ_ y t e=>by cases e;exact⟨ck hT,di _⟩))
 case dcts l=>
  cases q<;>try (exact nn h)
  obtain⟨t,rfl⟩:=rb;obtain⟨_,rfl,My,Gp,Mz,Jl⟩:=ra;obtain⟨v,h1,rv⟩:=BK Jl h;exact wpAny_getItem_of (strKind_is Pg W0 _ t) Mz.mapOf h1 (hQ _ _ (Pure.toks _) rv (R7 λ_ e=>nomatch e))
 case dcti l=>
  cases q<;>try (exact nn h)
  obtain⟨t,rfl⟩:=rb;obtain⟨_,rfl,My,Gp,Mz,Jl⟩:=ra;obtain⟨v,h1,rv⟩:=BK Jl h;exact wpAny_getItem_of (intKind_is Pg W0 _ t) Mz.mapOf h1 (hQ _ _ (Pure.toks _) rv (R7 λ_ e=>nomatch e))
theorem mM (r:Í h N vs l):∀ix:List Nat,Í h N (ix.filterMap (vs[·]?)) (ix.filterMap (l[·]?))
 |[]=>.nil
 |i::ix=>by
  simp only[fb];have hlen:=r.length
  by_cases hi:i<l.length
  ·refine É (r.get (bl hi)) λv hv rv=>?_;exact O hv (O (bl hi) (.cons rv (mM r ix)))
  ·exact O (mn (by exact æ (.x .q .r) [.z1 .q .s,.x .s .r] hlen (ax.mp hi))) (O (mn (by exact(ax.mp hi))) (mM r ix))
noncomputable def fC (lo hi st:Option Int) (n:Nat):List Nat:=sliceRange (sliceBounds lo hi st n).1 (sliceBounds lo hi st n).2.1 (sliceBounds lo hi st n).2.2
noncomputable def kP (lo hi st:Option Int) (n:Nat):List Nat:=jq lo hi (st.getD 1) n
def eH:PV->Option Int->Option Int->Option Int->Option PV
 |.lst l,lo,hi,st=>if l.length<=100000/\st≠some 0 then some (.lst ((fC lo hi st l.length).filterMap (l[·]?))) else none
 |.str x,lo,hi,st=>if st=none/\(kP lo hi none x.length).length<=100000 then
   some (.str (if (kP lo hi none x.length).length==x.length then x else⟨((kP lo hi none x.length).filterMap (x.cps[·]?)).toArray⟩)) else none
 |_,_,_,_=>none
inductive ê:ag->Option Int->Prop
 |none:ê .none none
 |int (i:Int) (t:Tok):ê (.int i t) (some i)
theorem ê.part (h:ê v o):IsPart v o:=by cases h<;>constructor
theorem ê.pv (h:ê v o):∃p:Option (Int×Tok),v=partValue p/\p.map (·.1)=o:= by
 cases h with
 |none=>exact(Õ mq rfl rfl)
 |int i t=>exact(Õ (some (i,t)) rfl rfl)
theorem R8{us:List ag}{n:Nat}{lo hi st:Option Int}(hn:us.length=n):slicePick us.toArray lo hi st=((fC lo hi st n).filterMap (us[·]?)).toArray:= by
 subst hn
 delta slicePick fC
 refine O (show(λi:Nat=>us.toArray[i]?)=λi=>us[i]? from funext λi=>by simp) ?_;rfl
theorem R9{l:List PV}{vl vu vs:ag}{a:ew}{us:List ag}{r:PV}{lo hi st:Option Int}{Q:Vs}{sl:ew}(hN:Ė N s.heap) (pa:s.heap.PlainList a us.toArray) (ra:Í s.heap N us l) (hl:ê vl lo) (hu:ê vu hi) (hs:ê vs st) (Kt:s.heap.get? sl=some {cls:=.type "slice",data:=.fields #[vl,vu,vs]})
  (hc:l.length<=100000/\st≠some 0) (h:some (PV.lst ((fC lo hi st l.length).filterMap (l[·]?)))=some r) (hQ:∀v s',Pure s s'->ĕ s s' N v r->Q v s'):wpAny (model Pg W0) A (getItem (.ref a) (.ref sl)) Q E s:=
 wpAny_getItem_list_slice pa.isList (jC _ Kt rfl rfl) hl.part hu.part hs.part hc.2 (WN h hN (mM ra _) (R8 ra.length) hQ) (aa (cf ra.length) (aa hc.1 sz5))
theorem SA{x:Str}{t:Tok}{vl vu vs:ag}{r:PV}{lo hi st:Option Int}{Q:Vs}{sl:ew}(hl:ê vl lo) (hu:ê vu hi) (hs:ê vs st) (Kt:s.heap.get? sl=some {cls:=.type "slice",data:=.fields #[vl,vu,vs]})
  (hc:st=none/\(kP lo hi none x.length).length<=100000) (h:some (PV.str (if (kP lo hi none x.length).length==x.length then x else⟨((kP lo hi none x.length).filterMap (x.cps[·]?)).toArray⟩))=some r) (hQ:∀v s',Pure s s'->ĕ s s' N v r->Q v s'):wpAny (model Pg W0) A (getItem (.str x t) (.ref sl)) Q E s:= by
 obtain⟨rfl,hc⟩:=hc;obtain⟨pl,rfl,el⟩:=hl.pv;obtain⟨pu,rfl,eu⟩:=hu.pv;obtain⟨ps,rfl,es⟩:=hs.pv;refine wpAny_getItem_str_slice (l:=pl) (u:=pu) (st:=ps) (jC _ Kt rfl rfl) (by refine O es ?_;rfl) ?_
 delta sliceMade slicePicked
 refine O el (O eu (O es ?_))
 delta kP at h hc
 clear hl hu hs Kt el eu es;simp only[iw,beq_self_eq_true,Bool.true_and] at h hc⊢;split
 ·rename_i hh;rw[if_pos hh] at h;exact hQ _ _ (Ö.refl _ _) (Θ h rfl)
 ·rename_i hh;rw[if_neg hh] at h;exact⟨aa (aa (oa _ _) hc) sz5,hQ _ _ (Pure.toks _) (Θ h rfl)⟩
theorem BL{a vl vu vs:ag}{p r:PV}{lo hi st:Option Int}{Q:Vs}{sl:ew}(hT:0<s.toks) (hN:Ė N s.heap) (ra:RT s.heap N a p) (hl:ê vl lo) (hu:ê vu hi) (hs:ê vs st) (Kt:s.heap.get? sl=some {cls:=.type "slice",data:=.fields #[vl,vu,vs]}) (h:eH p lo hi st=some r)
  (hQ:∀v s',Pure s s'->ĕ s s' N v r->Q v s'):wpAny (model Pg W0) A (getItem a (.ref sl)) Q E s:= by
 have ra:=ra.inv;clear hT;cases p<;>try (exact nn h)
 case lst l=>
  apply fF ra;intro _ us pa ra;exact R9 hN pa ra hl hu hs Kt (aZ h).1 (aZ h).2 hQ
 case str x=>
  apply ä ra;intro t;exact SA hl hu hs Kt (aZ h).1 (aZ h).2 hQ
end
noncomputable def BM:PV->Option Int
 |.int n=>some n
 |_=>none
def eA:List PV->Option (List Int)
 |[]=>some []
 |a::l=>match BM a,eA l with
  |some n,some r=>some (n::r)
  |_,_=>none
theorem BN:eA []=some []:=rfl
theorem BO:eA (a::l)=match BM a,eA l with
  |some n,some r=>some (n::r)
  |_,_=>none:=rfl
noncomputable def gF (n:Int):Bool:=decide (-(2^50)<n)&&decide (n<2^50)
noncomputable def dD:List Int->Int
 |[]=>0
 |[a]=>a
 |a::l=>if dD l<a then dD l else a
noncomputable def cI:List Int->Int
 |[]=>0
 |[a]=>a
 |a::l=>if a<cI l then cI l else a
noncomputable def Ÿ (a b:UInt64):Bool:=ex a b==some Au
noncomputable def Ģ (a b:UInt64):Bool:=ex a b==some As
noncomputable def ZE:PV->Option PV
 |.lst l=>if l.length<=100000 then some (.int l.length) else none
 |.str x=>if x.length<=100000 then some (.int x.length) else none
 |_=>none
def SD (f:List Int->Option PV):PV->Option PV
 |.lst l=>(eA l).bind f
 |_=>none
noncomputable def aAU (f:UInt64->Option PV):PV->Option PV
 |.flt x=>f x
 |_=>none
noncomputable def uP (x:UInt64):Option PV:=match ow x with
  |.fin sg m e=>some (.int (lf sg m e))
  |_=>none
noncomputable def WS (f:Int->Int->Bool) (p q:PV):Option PV:=match p with
 |.int a=>(match q with|.int b=>some (.int (if f a b then b else a))|_=>none)
 |_=>none
noncomputable def WT (f:UInt64->UInt64->Bool) (p q r:PV):Option PV:=match p with
 |.flt a=>(match q with
  |.flt b=>(match r with
   |.flt c=>some (.flt (if f b a then(if f c b then c else b) else(if f c a then c else a)))
   |_=>none)
  |_=>none)
 |_=>none
noncomputable def uQ (f:PV->Option PV) (ps:List PV):Option PV:=match ps with
 |[]=>none
 |a::ps=>(match ps with|[]=>f a|_=>none)
noncomputable def MD (f:PV->Option PV) (g:PV->PV->Option PV) (h:PV->PV->PV->Option PV) (ps:List PV):Option PV:=match ps with
 |[]=>none
 |a::ps=>(match ps with
  |[]=>f a
  |b::ps=>(match ps with
   |[]=>g a b
   |c::ps=>(match ps with|[]=>h a b c|_=>none)))
def WU (ns:List Int):Option PV:=if ns.all gF&&decide (ns.length<=1000) then some (.int ns.sum) else none
noncomputable def BP (f:List Int->Int) (ns:List Int):Option PV:=if ns.isEmpty then none else some (.int (f ns))
def Ē (f:Bi) (ps:List PV):Option PV:=match f with
 |.len=>uQ ZE ps
 |.sum=>uQ (SD WU) ps
 |.max=>MD (SD (BP cI)) (WS λa b=>decide (b>a)) (WT Ÿ) ps
 |.min=>MD (SD (BP dD)) (WS λa b=>decide (b<a)) (WT Ģ) ps
 |.int=>uQ (aAU uP) ps
noncomputable def Τ:Bi->ag
 |.len=>.builtin "len"
 |.sum=>.builtin "sum"
 |.min=>.builtin "min"
 |.max=>.builtin "max"
 |.int=>.type "int"
section
variable{A:dm}{E:Vs}{s:aj}{N:Ap}
theorem BQ (h:eA (a::l)=some r):∃n ns,a=.int n/\eA l=some ns/\n::ns=r:= by
 have h:(match BM a,eA l with|some n,some r=>some (n::r)|_,_=>none)=some r:=h;revert h;cases a<;>try (exact nn)
 cases eA l with
 |none=>exact nn
 |some ns=>exact λh=>(cC _ ns rfl rfl (sm h))
theorem mN:∀{vs:List ag}{ns:List Int},Í h N vs l->eA l=some ns->∃xs:List (Int×Tok),vs=xs.map (λp=>xl p.1 p.2)/\xs.map (·.1)=ns:= by
 induction l with
 |nil=>exact λr h=>(Õ ([]) r.inv (sm h))
 |cons p l ih=>
  intro vs ns r h;obtain⟨n,ns,rfl,h2,rfl⟩:=BQ h;apply fF r.inv;intro _ _ rv ru;apply ä rv.inv;intro t;apply YU (ih ru h2);intro xs;exact(Õ ((n,t)::xs) rfl rfl)
theorem uR (hh:A.handled=mq) (hl:s.heap.IsList l À)
  (h:∀Ã,Ã={s with heap:=s.heap.push {cls:=.type "list_iterator",data:=.fields #[.ref l,.int 0 0]}}->Ã.heap.IsListIter s.heap.objs.size l 0->Ã.heap.IsList l À->(∀b∈[s.heap.objs.size,l],b<Ã.heap.objs.size)->l≠s.heap.objs.size->Q (.ref s.heap.objs.size) Ã):
  wpAny (model Pg W0) A (pyIter (.ref l)) Q E s:= by
 have Gu:l<s.heap.objs.size:=by refine É (id hl) λo ho _=>?_;exact da ho
 refine wpAny_pyIter_list hl (h _ rfl ⟨_,cj _ rfl,rfl,rfl⟩ (let ⟨o,ho,r⟩:=hl;⟨o,bx _ ho,r⟩) ?_ (fc Gu));intro b hb;simp only[bn];rcases az.mp hb with rfl|hb
 ·exact di _
 ·rcases az.mp hb with rfl|hb
  ·exact im Gu
  ·cases hb
theorem uS{Ã:aj}{o:Obj}{h':jg}(hk:∀b x,b∉[s.heap.objs.size]->(s.heap.push o).get? b=some x->h'.get? b=some x):∀b x,s.heap.get? b=some x->h'.get? b=some x:=
 λb x e=>hk b x (λhm=>by
  rw[cg] at hm;exact fc (da e) hm) (bx _ e)
theorem xW (hv:∀j,-(2^50)<vv j/\vv j<2^50):∀n:Nat,n<=2000->-(2^50)*(n:Int)<=preSum vv n/\preSum vv n<=2^50*(n:Int)
 |0,_=>by simp[preSum]
 |n+1,h=>by
  have:=xW hv n (à (.x .q (.N 2000)) [.x .kc (.N 2000)] h);have h2:=hv n;simp only[preSum];exact⟨Ď [_,_] [_] (.l (.M (.G .kp) (.C .kc)) .kb) [.l (.M (.G .kp) .q) .a,.t (.G .kp) .b] this.1 h2.1,Ď [_,_] [_] (.l .kb (.M .kp (.C .kc))) [.l .a (.M .kp .q),.t .b .kp] this.2 h2.2⟩
theorem sT (ns:List Int):∀n:Nat,preSum (λi=>ns.getD i 0) n=(ns.take n).sum
 |0=>by simp[preSum]
 |n+1=>by
  simp only[preSum,sT ns n]
  by_cases h:n<ns.length
  ·refine O List.take_add_one (O vk (O (bl h) ?_));simp[h]
  ·refine O (pf (by exact(ax.mp h))) (O (pf (by exact Ò (.x .q .ke) [.x .q .r] (ax.mp h))) ?_);simp[io,mn (tq h)]
theorem uT{ns:List Int}(h:ns.all gF=true) (j:Nat):-(2^50)<ns.getD j 0/\ns.getD j 0<2^50:= by
 by_cases hj:j<ns.length
 ·have:=ao.mp h _ (pt hj);unfold gF at this;simp only[be,decide_eq_true_eq] at this
  simpa [hj] using this
 ·simp[io,mn (tq hj)]
theorem IW{a:ew}{vs:List ag}{l:List PV}{ns:List Int}{Q:Vs}{k:Nat}(R:Ê A k) (pa:s.heap.PlainList a vs.toArray) (ra:Í s.heap N vs l) (h1:eA l=some ns) (h2:ns.all gF=true) (h3:ns.length<=1000)
  (hQ:∀t s',Pure s s'->Q (.int ns.sum t) s'):wpAny (model Pg W0) A (call (.builtin "sum") [.ref a]) Q E s:= by
 refine É (mN ra h1) λxs aT Gq=>?_;subst aT;subst Gq;refine bJ ?_;refine call_sum_walk (uR (A:=A.in1) R.hh pa.isList λÃ e đ hl hfp Gv=>?_);subst e;refine(fX _ _ _ (cP _ _ _ (λi=>(xs.map (·.1)).getD i 0) rfl (yj (A:=A.in1) R.hh _ a Gv _) ⟨đ,hl⟩ hfp (Ý (λi v hv=>?_) (λj _=>?_) (λh' tk t' hk hm=>?_))))
 ·simp only[jz,dr,bk] at hv;refine É hv λp hp aT=>?_;subst aT;exact⟨p.2,by simp[io,hp]⟩
 ·rename_i hj;have Kc:j<xs.length:=by simpa using hj
  have q1:=uT h2 j;have q2:=xW (uT h2) (j+1) (by simp at h3;exact Ò (.x .kc (.N 2000)) [.y .q .r,.x .r .kj] Kc h3);simp at h3
  delta InLong
  dsimp only
  exact⟨⟨ñ (.l (.G .ky) .a) [.t (.G .kp) .a] q1.1,ñ (.t .a .ky) [.t .a .kp] q1.2⟩,⟨Ď [_] [_,_] (.l (.G .ky) .a) [.Y 1125899906842624 .q .r,.l (.M (.G .kp) (.C .kc)) .a,.X 1125899906842624 .r .kj] Kc q2.1 h3,Ď [_] [_,_] (.t .a .ky) [.Y 1125899906842624 .q .r,.l .a (.M .kp (.C .kc)),.X 1125899906842624 .r .kj] Kc q2.2 h3⟩⟩
 ·have:preSum (λi=>(xs.map (·.1)).getD i 0) ((zd (λp=>xl p.1 p.2) xs).toArray).size=(xs.map (·.1)).sum:= by
   exact O (sT ..) (O (pf (by simp)) rfl)
  exact O this (hQ _ _ (Pure.mk' (uS (Ã:=s) hk) hm))
theorem BR{f:List Int->Int}{c:Int->Int->Bool}(h1:∀a,f [a]=a) (h2:∀a b l,f (a::b::l)=bif c (f (b::l)) a then f (b::l) else a){l:List Int}(h:l≠[]):f l∈l:= by
 induction l with
 |nil=>exact absurd rfl h
 |cons a l ih=>
  cases l with
  |nil=>exact cg.mpr (h1 a)
  |cons b l=>
   refine O (h2 ..) ?_;cases c (f (b::l)) a with
   |true=>exact er _ (ih (λq=>nomatch q))
   |false=>exact ak
theorem BS (a b:Int) (l:List Int):dD (a::b::l)=bif decide (dD (b::l)<a) then dD (b::l) else a:= by
 show(if dD (b::l)<a then dD (b::l) else a)=_
 by_cases h:dD (b::l)<a<;>simp[h]
theorem BU (a b:Int) (l:List Int):cI (a::b::l)=bif decide (a<cI (b::l)) then cI (b::l) else a:= by
 show(if a<cI (b::l) then cI (b::l) else a)=_
 by_cases h:a<cI (b::l)<;>simp[h]
theorem SE (x a:Int):(bif decide (x<a) then x else a)<=x/\(bif decide (x<a) then x else a)<=a:= by
 by_cases h:x<a<;>simp[h]<;>lia
theorem SF (x a:Int):x<=(bif decide (a<x) then x else a)/\a<=(bif decide (a<x) then x else a):= by
 by_cases h:a<x<;>simp[h]<;>lia
theorem xX (l:List Int) (h:l≠[]):dD l∈l/\∀x∈l,dD l<=x:= by
 refine⟨BR (c:=λx a=>decide (x<a)) (λ_=>rfl) BS h,?_⟩;clear h
 induction l with
 |nil=>exact λx hx=>nomatch hx
 |cons a l ih=>
  intro x hx;cases l with
  |nil=>exact co (cg.mp hx).symm
  |cons b l=>
   have h:=SE (dD (b::l)) a;rw[<-BS] at h;rcases az.mp hx with rfl|hx
   ·exact h.2
   ·exact aw h.1 (ih x hx)
theorem xY (l:List Int) (h:l≠[]):cI l∈l/\∀x∈l,x<=cI l:= by
 refine⟨BR (c:=λx a=>decide (a<x)) (λ_=>rfl) BU h,?_⟩;clear h
 induction l with
 |nil=>exact λx hx=>nomatch hx
 |cons a l ih=>
  intro x hx;cases l with
  |nil=>exact co (cg.mp hx)
  |cons b l=>
   have h:=SF (cI (b::l)) a;rw[<-BU] at h;rcases az.mp hx with rfl|hx
   ·exact h.2
   ·exact aw (ih x hx) h.1
theorem kQ{xs:List (Int×Tok)}{i:Nat}{v:ag}(h:(zd (λp:Int×Tok=>xl p.1 p.2) xs).toArray[i]?=some v):∃t,v=.int ((xs.map (·.1)).getD i 0) t:= by
 rw[jz,dr] at h;apply jQ (bk.mp h);intro p hp;exact⟨p.2,by simp[io,hp]⟩
theorem BV{ns:List Int}{j:Nat}(h:j<ns.length):ns.getD j 0∈ns:=by simp[h]
theorem BW{ns:List Int}{x:Int}(h:x∈ns):∃i,i<ns.length/\ns.getD i 0=x:= by
 obtain⟨i,hi,e⟩:=List.getElem_of_mem h;exact(Õ i hi (by refine O (io) (O (bl hi) (O e ?_));rfl))
theorem tP (xs:List (Int×Tok)):((zd (λp:Int×Tok=>xl p.1 p.2) xs).toArray).size=(xs.map (·.1)).length:=by simp
theorem ME (h2:ns≠[]):ns.getD (argBest (λi j=>decide (ns.getD i 0<ns.getD j 0)) (ns.length-1)) 0=dD ns:= by
 have hb:=argBest_lt (λi=>ns.getD i 0) (ns.length-1);have hl:=jn.mpr h2;refine xa (xX _ h2) λsp1 sp2=>?_;refine É (BW sp1) λi hi e=>?_;exact cb (e▸hb.2 i (wg hi)) (sp2 _ (BV (ia hb.1 (Cb hl si))))
theorem MF (h2:ns≠[]):ns.getD (argBest (λi j=>decide (ns.getD i 0>ns.getD j 0)) (ns.length-1)) 0=cI ns:= by
 have hb:=argBest_gt (λi=>ns.getD i 0) (ns.length-1);have hl:=jn.mpr h2;refine xa (xY _ h2) λsp1 sp2=>?_;refine É (BW sp1) λi hi e=>?_;exact cb (sp2 _ (BV (ia hb.1 (Cb hl si)))) (e▸hb.2 i (wg hi))
theorem IX{a:ew}{vs:List ag}{l:List PV}{ns:List Int}{Q:Vs}{k:Nat}(R:Ê A k) (pa:s.heap.PlainList a vs.toArray) (ra:Í s.heap N vs l) (h1:eA l=some ns) (h2:ns≠[])
  (hQ:∀t s',Pure s s'->Q (.int (dD ns) t) s'):wpAny (model Pg W0) A (call (.builtin "min") [.ref a]) Q E s:= by
 refine É (mN ra h1) λxs aT Gq=>?_;subst aT;subst Gq;refine bJ (call_min_walk (uR (A:=A.in1) R.hh pa.isList λÃ e đ hl hfp Gv=>?_));subst e;refine(fX _ _ _ (cP _ _ _ _ rfl (yj (A:=A.in1) R.hh _ a Gv _) ⟨đ,hl⟩ hfp (Ý (by exact O (tP ..) (jn.mpr h2)) (CmpOf.ints_lt (λi=>(xs.map (·.1)).getD i 0) (λi v hv=>kQ hv)) (λv h' tk hP hk hm=>?_))));rw[tP] at hP;refine xe (kQ hP) λt aT=>?_;subst aT;exact ME h2▸hQ _ _ (Pure.mk' (uS (Ã:=s) hk) hm)
theorem IY{a:ew}{vs:List ag}{l:List PV}{ns:List Int}{Q:Vs}{k:Nat}(R:Ê A k) (pa:s.heap.PlainList a vs.toArray) (ra:Í s.heap N vs l) (h1:eA l=some ns) (h2:ns≠[])
  (hQ:∀t s',Pure s s'->Q (.int (cI ns) t) s'):wpAny (model Pg W0) A (call (.builtin "max") [.ref a]) Q E s:= by
 refine É (mN ra h1) λxs aT Gq=>?_;subst aT;subst Gq;refine bJ (call_max_walk (uR (A:=A.in1) R.hh pa.isList λÃ e đ hl hfp Gv=>?_));subst e;refine(fX _ _ _ (cP _ _ _ _ rfl (yj (A:=A.in1) R.hh _ a Gv _) ⟨đ,hl⟩ hfp (Ý (by exact O (tP ..) (jn.mpr h2)) (CmpOf.ints_gt (λi=>(xs.map (·.1)).getD i 0) (λi v hv=>kQ hv)) (λv h' tk hP hk hm=>?_))));rw[tP] at hP;refine xe (kQ hP) λt aT=>?_;subst aT;exact MF h2▸hQ _ _ (Pure.mk' (uS (Ã:=s) hk) hm)
noncomputable def nH{α:Type}(f:UInt64->UInt64->Bool) (a b c:UInt64) (x y z:α):α:=if f b a then(if f c b then z else y) else(if f c a then z else x)
theorem aAV (f:UInt64->UInt64->Bool) (a b c:UInt64):argBest (λi j=>f ([a,b,c].getD i 0) ([a,b,c].getD j 0)) 2=nH f a b c 0 1 2:= by
 cases h1:f b a<;>cases h2:f c b<;>cases h3:f c a<;>simp[argBest,nH,h1,h2,h3]
theorem xZ{α β:Type}(g:α->β) (f:UInt64->UInt64->Bool) (a b c:UInt64) (x y z:α):g (nH f a b c x y z)=nH f a b c (g x) (g y) (g z):= by
 cases h1:f b a<;>cases h2:f c b<;>cases h3:f c a<;>simp[nH,h1,h2,h3]
theorem SG{C:ag->PV->Prop}{f:UInt64->UInt64->Bool}{a b c:UInt64}{x y z:ag}(h1:C x (.flt a)) (h2:C y (.flt b)) (h3:C z (.flt c)):C (nH f a b c x y z) (.flt (nH f a b c a b c)):= by
 delta nH;split<;>split<;>assumption
theorem ZF (f:UInt64->UInt64->Bool) (a b c:UInt64) (t u x:Tok) (v:ag)
  (h:(#[mr a t,.float b u,.float c x]:Array ag)[argBest (λi j=>f ([a,b,c].getD i 0) ([a,b,c].getD j 0)) 2]?=some v):
  v=nH f a b c (.float a t) (.float b u) (.float c x):= by
 rw[aAV,xZ (λi=>(#[mr a t,.float b u,.float c x]:Array ag)[i]?)] at h;refine(iq (Bz ?_ h)).symm;exact xZ some f a b c _ _ _
theorem at3{a b c:UInt64}{t u x:Tok}{i:Nat}{v:ag}(h:(#[mr a t,.float b u,.float c x]:Array ag)[i]?=some v):∃tk,v=.float ([a,b,c].getD i 0) tk:= by
 cases i with
 |zero=>exact⟨_,(sm h).symm⟩
 |succ i=>cases i with
  |zero=>exact⟨_,(sm h).symm⟩
  |succ i=>cases i with
   |zero=>exact⟨_,(sm h).symm⟩
   |succ i=>exact nn h
theorem ZG{a b c:UInt64}{t u x:Tok}:CmpOf Pg W0 A .Gt (λi v=>(#[mr a t,.float b u,.float c x]:Array ag)[i]?=some v) (λi j=>Ÿ ([a,b,c].getD i 0) ([a,b,c].getD j 0)):= by
 intro i j vi vj s' Q' E' hi hj hq;apply ä (at3 hi);intro _;apply ä (at3 hj);intro _;exact zc (s:=s') hq
theorem ZI{a b c:UInt64}{t u x:Tok}:CmpOf Pg W0 A .Lt (λi v=>(#[mr a t,.float b u,.float c x]:Array ag)[i]?=some v) (λi j=>Ģ ([a,b,c].getD i 0) ([a,b,c].getD j 0)):= by
 intro i j vi vj s' Q' E' hi hj hq;apply ä (at3 hi);intro _;apply ä (at3 hj);intro _;exact zb (s:=s') hq
theorem BX{h:jg}{o o':Obj}{d:ew}(hd:d∈[(h.push o).objs.size,h.objs.size]):d<((h.push o).push o').objs.size:= by
 refine O (bn ..) ?_;rcases az.mp hd with rfl|hd
 ·exact di _
 ·exact O (cg.mp hd) (O (bn ..) (im (di _)))
theorem VO{h h':jg}{o o':Obj}(hk:∀b x,b∉[(h.push o).objs.size]->((h.push o).push o').get? b=some x->h'.get? b=some x) (d:ew) (x:Obj) (e:h.get? d=some x):h'.get? d=some x:=
 hk d x (λhm=>ik _ (Nat.lt_of_succ_lt (ia (cf ((bn ..).symm.trans (cg.mp hm).symm)) (da e)))) (bx _ (bx _ e))
theorem D9{a b c:UInt64}{t u x:Tok}{Q:Vs}{k:Nat}(R:Ê A k)
  (hQ:∀s',Pure s s'->Q (nH Ÿ a b c (.float a t) (.float b u) (.float c x)) s'):
  wpAny (model Pg W0) A (call (.builtin "max") [.float a t,.float b u,.float c x]) Q E s:= by
 have hT:(s.heap.push {cls:=.type "tuple",data:=.seq #[.float a t,.float b u,.float c x]}).IsTuple s.heap.objs.size #[.float a t,.float b u,.float c x]:=(jC _ (cj _ rfl) rfl ⟨0,rfl⟩);refine bJ (call_max_three (wpAny_pyIter_tuple hT ?_));refine(fX _ ([_,s.heap.objs.size]) ([_]) (cP _ _ _ _ rfl (Aw (A:=A.in1) R.hh _ s.heap.objs.size (by rw[bn];exact fc (di _)) _) ⟨(jC _ (cj _ rfl) rfl rfl),hT.push _⟩ (λd hd=>BX hd) (Ý (Ah _) ZG (λv h' tk hP hk hm=>?_))));exact O (ZF Ÿ a b c t u x v hP) (hQ _ (Pure.mk' (VO hk) hm))
theorem EA{a b c:UInt64}{t u x:Tok}{Q:Vs}{k:Nat}(R:Ê A k)
  (hQ:∀s',Pure s s'->Q (nH Ģ a b c (.float a t) (.float b u) (.float c x)) s'):
  wpAny (model Pg W0) A (call (.builtin "min") [.float a t,.float b u,.float c x]) Q E s:= by
 have hT:(s.heap.push {cls:=.type "tuple",data:=.seq #[.float a t,.float b u,.float c x]}).IsTuple s.heap.objs.size #[.float a t,.float b u,.float c x]:=(jC _ (cj _ rfl) rfl ⟨0,rfl⟩);refine bJ (call_min_three (wpAny_pyIter_tuple hT ?_));refine(fX _ ([_,s.heap.objs.size]) ([_]) (cP _ _ _ _ rfl (Aw (A:=A.in1) R.hh _ s.heap.objs.size (by rw[bn];exact fc (di _)) _) ⟨(jC _ (cj _ rfl) rfl rfl),hT.push _⟩ (λd hd=>BX hd) (Ý (Ah _) ZI (λv h' tk hP hk hm=>?_))));exact O (ZF Ģ a b c t u x v hP) (hQ _ (Pure.mk' (VO hk) hm))
theorem Ň.cons_inv (r:Ň h N vs (p::ps)):∃v us,vs=v::us/\RT h N v p/\Ň h N us ps:= by
 cases r with|cons a b=>exact(cC _ _ rfl a b)
theorem Ň.nil_inv (r:Ň h N vs []):vs=[]:=by cases r;rfl
theorem jZ (ra:Ň h N vs ps) (e:uQ f ps=some r):∃v p,vs=[v]/\ps=[p]/\RT h N v p/\f p=some r:= by
 cases ps with
 |nil=>exact nn e
 |cons p ps=>cases ps with
  |nil=>apply fF ra.cons_inv;intro v _ rv ru;exact(cX v p (ru.nil_inv▸rfl) rfl rv e)
  |cons=>exact nn e
theorem x4{C:Prop}(ra:Ň h N vs ps) (e:MD f g h3 ps=some r)
  (c1:∀v p,vs=[v]->RT h N v p->f p=some r->C) (c2:∀v p v' p',vs=[v,v']->RT h N v p->RT h N v' p'->g p p'=some r->C)
  (c3:∀v p v' p' Ŵ ι,vs=[v,v',Ŵ]->RT h N v p->RT h N v' p'->RT h N Ŵ ι->h3 p p' ι=some r->C):C:= by
 cases ps with
 |nil=>exact nn e
 |cons p ps=>
  refine fR ra.cons_inv λv _ aT rv ru=>?_;subst aT;cases ps with
  |nil=>exact c1 v p (ru.nil_inv▸rfl) rv e
  |cons p' ps=>
   obtain⟨v',_,rfl,Kb,ru⟩:=ru.cons_inv;cases ps with
   |nil=>exact c2 v p v' p' (ru.nil_inv▸rfl) rv Kb e
   |cons ι ps=>
    obtain⟨Ŵ,_,rfl,Kh,ru⟩:=ru.cons_inv;cases ps with
    |nil=>exact c3 v p v' p' Ŵ ι (ru.nil_inv▸rfl) rv Kb Kh e
    |cons=>exact nn e
theorem uU (rv:RT h N v p) (e:SD f p=some r):∃a vs l ns,v=.ref a/\h.PlainList a vs.toArray/\Í h N vs l/\eA l=some ns/\f ns=some r:= by
 cases p<;>try (exact nn e)
 apply fF rv.inv;intro a vs pa ra;refine É (dq.mp e) λns h1 h2=>?_;exact(cP a vs _ ns rfl pa ra h1 h2)
theorem BZ (rv:RT h N v p) (Kb:RT h N v' q) (e:WS f p q=some r):∃a b t u,v=.int a t/\v'=.int b u/\r=.int (if f a b then b else a):= by
 cases p<;>try (exact nn e)
 cases q<;>try (exact nn e)
 apply ä rv.inv;intro t;apply ä Kb.inv;intro u;exact(i6 _ _ t u rfl rfl ((sm e).symm))
theorem B0 (rv:RT h N v p) (Kb:RT h N v' q) (Kh:RT h N Ŵ q') (e:WT f p q q'=some r):
  ∃a b c t u x,v=.float a t/\v'=.float b u/\Ŵ=.float c x/\∀h',RV h' N (nH f a b c v v' Ŵ) r:= by
 cases p<;>try (exact nn e)
 cases q<;>try (exact nn e)
 cases q'<;>try (exact nn e)
 apply Ő rv.inv;intro t ht;apply Ő Kb.inv;intro u hu;apply Ő Kh.inv;intro x hx;refine(fX _ _ _ (dH t u x rfl rfl rfl (λh'=>?_)));refine aBD (sm e) ?_;exact SG (C:=RV h' N) (.flt _ _ ht) (.flt _ _ hu) (.flt _ _ hx)
theorem MG (h:WU ns=some r):ns.all gF=true/\ns.length<=1000/\r=.int ns.sum:= by
 have e:=aZ h;exact(Ý ((aC e.1).1) (of_decide_eq_true (aC e.1).2) ((sm e.2).symm))
theorem x5 (h:BP f ns=some r):ns≠[]/\r=.int (f ns):= by
 have e:=xT h;exact⟨λq=>e.1 (q▸rfl),(sm e.2).symm⟩
theorem EB (h:uP x=some r):∃sg m e,ow x=.fin sg m e/\r=.int (lf sg m e):= by
 delta uP at h
 cases e:ow x<;>rw[e] at h<;>try (exact nn h)
 exact(jE _ _ _ rfl ((sm h).symm))
theorem zV{p:Prop}[Decidable p] {α:Type}(a b:α):(if decide p=true then a else b)=if p then a else b:= by
 by_cases h:p<;>simp[h]
theorem GX{c:Prop}[Decidable c] {a b:Int}{t u:Tok}{Q:Vs}{s s':aj}(hQ:∀v s',Pure s s'->RV s'.heap N v (.int (if c then b else a))->Q v s') (hp:Pure s s'):Q (if c then .int b u else .int a t) s':= by
 by_cases h:c
 ·rw[if_pos h] at hQ⊢;exact hQ _ _ hp (.int _ _)
 ·rw[if_neg h] at hQ⊢;exact hQ _ _ hp (.int _ _)
theorem IZ (vs:List ag):vs.toArray.size=vs.length:=rfl
section
variable{vs:List ag}{ps:List PV}{r:PV}{Q:Vs}{k:Nat}
theorem I0 (hT:0<s.toks) (rv:RT s.heap N v p) (h:ZE p=some r) (hQ:∀v s',Pure s s'->RV s'.heap N v r->Q v s'):wpAny (model Pg W0) A (call (.builtin "len") [v]) Q E s:= by
 cases p<;>try (exact nn h)
 ·apply ä rv.inv;intro t;have hl:=aZ h;exact P.len_str (by have:=hl.1;exact mu.mpr (à (.t .q .ky) [.x .q .kv] hl.1)) (hQ _ _ (Pure.toks _) (sm hl.2▸.int _ _))
 ·apply fF rv.inv;intro a us pa ra;have hl:=aZ h;have e:=ra.length;refine Calls.call_len_list pa.isList (by have:=hl.1;clear hQ;refine O (IZ ..) ?_;exact Ò (.t .q .ky) [.x .r .kv,.z1 .q .r] hl.1 e) ?_;exact hQ _ _ (Pure.toks _) (sm hl.2▸e▸.int _ _)
theorem MH (R:Ê A k) (hT:0<s.toks) (ra:Ň s.heap N vs ps) (h:Ē f ps=some r)
  (hQ:∀v s',Pure s s'->RV s'.heap N v r->Q v s'):wpAny (model Pg W0) A (call (Τ f) vs) Q E s:= by
 cases f with
 |len=>
  refine dG (jZ ra h) λv p aT Gq rv h=>?_;subst aT;subst Gq;exact I0 hT rv h hQ
 |sum=>
  refine dG (jZ ra h) λv p aT Gq rv h=>?_;subst aT;subst Gq;obtain⟨a,us,l,ns,rfl,pa,ra,h1,h2⟩:=uU rv h;obtain⟨q2,q3,rfl⟩:=MG h2;exact IW R pa ra h1 q2 q3 λt s' hp=>hQ _ _ hp (.int _ _)
 |int=>
  obtain⟨v,p,rfl,rfl,rv,h⟩:=jZ ra h;cases p<;>try (exact nn h)
  obtain⟨t,rfl,_⟩:=rv.inv;obtain⟨sg,m,e,hd,rfl⟩:=EB h;exact call_int_float hd (hQ _ _ (Pure.toks _) (.int _ _))
 |max=>
  refine x4 ra h ?_ ?_ ?_
  ·rintro v p rfl rv h
   obtain⟨a,us,l,ns,rfl,pa,ra,h1,h2⟩:=uU rv h;obtain⟨q2,rfl⟩:=x5 h2;exact IY R pa ra h1 q2 λt s' hp=>hQ _ _ hp (.int _ _)
  ·rintro v p v' p' rfl rv Kb h
   obtain⟨a,b,t,u,rfl,rfl,rfl⟩:=BZ rv Kb h;rw[zV] at hQ;exact bJ (max_two_ints R.hh λh' tk hk hm=>GX hQ (Pure.mk' hk hm))
  ·rintro v p v' p' Ŵ ι rfl rv Kb Kh h
   obtain⟨a,b,c,t,u,x,rfl,rfl,rfl,q⟩:=B0 rv Kb Kh h;exact D9 R λs' hp=>hQ _ _ hp (q _)
 |min=>
  refine x4 ra h ?_ ?_ ?_
  ·rintro v p rfl rv h
   obtain⟨a,us,l,ns,rfl,pa,ra,h1,h2⟩:=uU rv h;obtain⟨q2,rfl⟩:=x5 h2;exact IX R pa ra h1 q2 λt s' hp=>hQ _ _ hp (.int _ _)
  ·rintro v p v' p' rfl rv Kb h
   obtain⟨a,b,t,u,rfl,rfl,rfl⟩:=BZ rv Kb h;rw[zV] at hQ;exact bJ (min_two_ints R.hh λh' tk hk hm=>GX hQ (Pure.mk' hk hm))
  ·rintro v p v' p' Ŵ ι rfl rv Kb Kh h
   obtain⟨a,b,c,t,u,x,rfl,rfl,rfl,q⟩:=B0 rv Kb Kh h;exact EA R λs' hp=>hQ _ _ hp (q _)
end
end
inductive Me where
 |join|count|index
 deriving DecidableEq
noncomputable def Me.id:Me->String
 |.join=>"str.join"
 |.count=>"list.count"
 |.index=>"str.index"
noncomputable def MI:PV->Option Str
 |.str n=>some n
 |_=>none
def lF:List PV->Option (List Str)
 |[]=>some []
 |a::l=>match MI a,lF l with
  |some n,some r=>some (n::r)
  |_,_=>none
noncomputable def j8 (f:PV->Option Bool):List PV->Option Nat
 |[]=>some 0
 |a::l=>match f a,j8 f l with
  |some b,some n=>some (if b then n+1 else n)
  |_,_=>none
def VP (x:Str) (q:PV):Option PV:=match q with
 |.lst l=>(lF l).bind λts=>if Fe x ts then some (.str (Gb x ts)) else none
 |_=>none
def MJ (l:List PV) (p:PV):Option PV:=if l.all PV.scalar then(j8 (λy=>ü 0 y p) l).map (λn:Nat=>PV.int (n:Int)) else none
noncomputable def MK (x:Str) (q:PV):Option PV:=match q with
 |.str y=>(match dd x y 0 x.length 1 with
  |i::_=>some (.int (i:Int))
  |[]=>none)
 |_=>none
def ś (f:Me) (p:PV) (ps:List PV):Option PV:=match f with
 |.join=>(match p with|.str x=>uQ (VP x) ps|_=>none)
 |.count=>(match p with|.lst l=>uQ (MJ l) ps|_=>none)
 |.index=>(match p with|.str x=>uQ (MK x) ps|_=>none)
section
variable{A:dm}{E:Vs}{s:aj}{N:Ap}
theorem B1 (h:lF (a::l)=some r):∃n ns,a=.str n/\lF l=some ns/\n::ns=r:= by
 have h:(match MI a,lF l with|some n,some r=>some (n::r)|_,_=>none)=some r:=h;revert h;cases a<;>try (exact nn)
 cases lF l with
 |none=>exact nn
 |some ns=>exact λh=>(cC _ ns rfl rfl (sm h))
theorem xD:∀{vs:List ag}{ns:List Str},Í h N vs l->lF l=some ns->∃xs:List (Str×Tok),vs=strValues xs/\xs.map (·.1)=ns:= by
 induction l with
 |nil=>exact λr h=>(Õ ([]) r.inv (sm h))
 |cons p l ih=>
  intro vs ns r h;obtain⟨n,ns,rfl,h2,rfl⟩:=B1 h;apply fF r.inv;intro _ _ rv ru;apply ä rv.inv;intro t;apply YU (ih ru h2);intro xs;exact(Õ ((n,t)::xs) rfl rfl)
theorem B2 (h:j8 f (a::l)=some r):∃b n,f a=some b/\j8 f l=some n/\(if b then n+1 else n)=r:= by
 have h:(match f a,j8 f l with|some b,some n=>some (if b then n+1 else n)|_,_=>none)=some r:=h;revert h;cases f a with
 |none=>exact nn
 |some b=>cases j8 f l with
  |none=>exact nn
  |some n=>exact λh=>(cC b n rfl rfl (sm h))
theorem I1:∀{vs:List ag}{n:Nat},Í s.heap N vs l->l.all PV.scalar=true->j8 (λy=>ü 0 y x) l=some n->
  (∀y∈vs,∃p,RV s.heap N y p/\ü 0 p x=some (œ s.heap N x y))/\vs.countP (œ s.heap N x)=n:= by
 induction l with
 |nil=>
  intro vs n r _ h;cases r;exact⟨λy hy=>(nomatch hy),sm h⟩
 |cons p l ih=>
  intro vs n r hs h;cases r with
  |cons a r=>
   have hs:=aC hs;apply zR (B2 h);intro y z hy hz;refine xa (ih r hs.2 hz) λh1 h2=>?_;have h3:=L7 a hs.1 hy;refine⟨λu hu=>?_,by refine O tt (O h3 (O h2 ?_));cases y<;>rfl⟩;rcases az.mp hu with rfl|hu
   ·exact(Õ _ a (h3▸hy))
   ·exact h1 u hu
theorem Í.cons_inv (r:Í h N vs (p::ps)):∃v us,vs=v::us/\RV h N v p/\Í h N us ps:= by
 cases r with|cons a b=>exact(cC _ _ rfl a b)
theorem Í.nil_inv (r:Í h N vs []):vs=[]:=by cases r;rfl
section
variable{v v2:ag}{p q r:PV}{ps:List PV}{vs:List ag}{Q:Vs}{k:Nat}
theorem EC (rv:RT s.heap N v q) (h:VP x q=some r) (hQ:∀v s',Pure s s'->RV s'.heap N v r->Q v s'):wpAny (model Pg W0) A (call (.builtin "str.join") [.str x t,v]) Q E s:= by
 cases q<;>try (exact nn h)
 refine fR rv.inv λa us aT pa rl=>?_;subst aT;refine É (dq.mp h) λts h1 h2=>?_;have h2:=aZ h2;refine É (xD rl h1) λxs aT hx=>?_;subst aT;exact bJ (SC.join pa.isList hx h2.1 λt' k' hm=>hQ _ _ (Pure.toks _ hm.2) (sm h2.2▸.str _ _))
theorem B3 (R:Ê A 1) (Gk:ß s.heap) (pa:s.heap.PlainList a us.toArray) (rl:Í s.heap N us l) (rv:RT s.heap N v q) (h:MJ l q=some r)
  (hQ:∀v s',Pure s s'->RV s'.heap N v r->Q v s'):wpAny (model Pg W0) A (call (.builtin "list.count") [.ref a,v]) Q E s:= by
 have h:=aZ h;refine É (bk.mp h.2) λn On aT=>?_;subst aT;refine xa (I1 rl h.1 On) λh1 h2=>?_;refine xe pa λm e=>?_;clear pa;refine call_meets ze (Õ _ e rfl) F.entry_list_count (F.args_list_count_2 _ _) (SeqAt.list_countAt a us.toArray m none #[] v (œ s.heap N q)) (Ý e (λy hy=>?_) ?_)
 ·refine É (h1 y (Af.mp hy)) λz rz hz=>?_;exact pO Gk 0 R.in1 rz (uN hz rv) hz
 ·exact O xq (O h2 (hQ _ _ (Pure.toks _) (.int _ _)))
set_option tactic.hygienic true in
theorem ED (h:MK x q=some r):∃y i l,q=.str y/\dd x y 0 x.length 1=i::l/\r=.int (i:Int):= by
 cases q<;>try (exact nn h)
 rename_i y;have h:(match dd x y 0 x.length 1 with|i::_=>some (PV.int (i:Int))|[]=>none)=some r:=h;cases e:dd x y 0 x.length 1 with
 |nil=>rw[e] at h;exact nn h
 |cons i l=>rw[e] at h;exact(rU y i l rfl e ((sm h).symm))
theorem ML (hk:1<=k) (R:Ê A k) (hT:0<s.toks) (Gk:ß s.heap) (rp:RT s.heap N a p) (ra:Ň s.heap N vs ps) (h:ś f p ps=some r)
  (hQ:∀v s',Pure s s'->RV s'.heap N v r->Q v s'):wpAny (model Pg W0) A (call (.builtin f.id) (a::vs)) Q E s:= by
 cases f with
 |join=>
  cases p<;>try (exact nn h)
  apply ä rp.inv;intro t;apply D2 (jZ ra h);intro v q rv h;exact EC rv h hQ
 |count=>
  cases p<;>try (exact nn h)
  apply fF rp.inv;intro c us pa rl;apply D2 (jZ ra h);intro v q rv h;exact B3 (R.le hk) Gk pa rl rv h hQ
 |index=>
  cases p<;>try (exact nn h)
  apply ä rp.inv;intro t;apply D2 (jZ ra h);intro v q rv h;obtain⟨y,i,l,rfl,ho,rfl⟩:=ED h;apply ä rv.inv;intro t;exact SC.index ho (hQ _ _ (Pure.toks _) (.int _ _))
end
end
abbrev Å:=List (Option PV)
noncomputable def lk:Å->Nat->Option PV
 |[],_=>none
 |a::_,0=>a
 |_::l,n+1=>lk l n
noncomputable def st:Å->Nat->PV->Å
 |[],_,_=>[]
 |_::l,0,p=>some p::l
 |a::l,n+1,p=>a::st l n p
theorem nU{n:Nat}:lk [] n=none:=rfl
theorem nM{a:Option PV}{l:Å}:lk (a::l) 0=a:=rfl
theorem nN{a:Option PV}{l:Å}{n:Nat}:lk (a::l) (n+1)=lk l n:=rfl
theorem B4{n:Nat}{p:PV}:st [] n p=[]:=rfl
theorem bP{a:Option PV}{l:Å}{p:PV}:st (a::l) 0 p=some p::l:=rfl
theorem bQ{a:Option PV}{l:Å}{n:Nat}{p:PV}:st (a::l) (n+1) p=a::st l n p:=rfl
theorem uV:∀{pe:Å}{i:Nat}{p:PV},lk (st pe i p) j=some q->(j=i/\q=p)\/(j≠i/\lk pe j=some q)
 |[],_,_,h=>by simp[B4,bP,bQ,nU,nM,nN] at h
 |a::l,0,p,h=>by
  cases j with
  |zero=>simp[B4,bP,bQ,nU,nM,nN] at h;exact .inl ⟨rfl,h.symm⟩
  |succ j=>exact .inr ⟨by simp,by simpa [B4,bP,bQ,nU,nM,nN] using h⟩
 |a::l,n+1,p,h=>by
  cases j with
  |zero=>exact .inr ⟨by simp,by simpa [B4,bP,bQ,nU,nM,nN] using h⟩
  |succ j=>
   dsimp only[B4,bP,bQ,nU,nM,nN] at h⊢
   rcases uV (pe:=l) h with⟨h1,h2⟩|⟨h1,h2⟩
   ·exact .inl ⟨by exact bf (Ò (.x .kc .ke) [.z1 .q .r] h1) (Ò (.x .kc .ke) [.z1 .q .r] h1.symm),h2⟩
   ·exact .inr ⟨by lia,h2⟩
structure Cx where
 vars:List (Str×Nat)
 kinds:List (Str×ln)
 own:List Nat
 tk:List Nat
 top:Bool
inductive Ë (Á:Env) (h:jg) (x:Str) (v:ag):Prop
 |loc (m:Str->Option ag):Á.kindOf x=some .local->h.Ns Á.locals m->m x=some v->Ë Á h x v
 |cell (c:ew):(Á.kindOf x=some .cell\/Á.kindOf x=some .free)->Á.cells.lookup x=some c->h.IsCell c (some v)->Ë Á h x v
def ą (h:jg) (N:Ap) (a:ew):PV->Prop
 |.lst l=>∃vs:List ag,h.PlainList a vs.toArray/\Í h N vs l
 |.dcti l=>Þ h a l
 |_=>False
def Ă (cx:Cx) (Á:Env) (s:aj) (N:Ap) (i:Nat) (v:ag) (p:PV):Prop:=
 (if cx.own.contains i then ∃a,v=.ref a/\N a/\a≠Á.locals/\ą s.heap N a p else RV s.heap N v p)/\
 (cx.tk.contains i=true->∀x t,v=.str x t->t≠0/\t<s.toks)
theorem RV.weak' (hn:∀b,N' b->N b) (r:RV h N v p):RV h N' v p:=r.step (Step.sub hn)
theorem Í.weak' (hn:∀b,N' b->N b) (r:Í h N vs ps):Í h N' vs ps:=r.step (Step.sub hn)
inductive ğ (Á:Env) (h:jg) (No:Ap) (x:Str):Prop
 |loc:Á.kindOf x=some .local->ğ Á h No x
 |cell (c:ew) (Ib:Option ag):Á.kindOf x=some .cell->Á.cells.lookup x=some c->No c->h.IsCell c Ib->ğ Á h No x
structure û (s:aj) (N:Ap):Prop where
 keep:∀b o,H0.get? b=some o->s.heap.get? b=some o
 above:∀b,N b->H0.objs.size<=b
 size:H0.objs.size<=s.heap.objs.size
 low:Ė N s.heap
 toks:0<s.toks
 bare:od s.gens
structure Ä (cx:Cx) (asg:List Str) (Á:Env) (s:aj) (Na No:Ap) (pe:Å):Prop where
 base:û s (λb=>Na b\/No b)
 kind:Á.scope.kind=.function
 glb:Á.globals=mainGlobals
 blt:Á.builtins=builtinsNs
 gl:∀x,cx.kinds.lookup x=some .globalImplicit->Á.kindOf x=some .globalImplicit
 cl:∀x,(cx.kinds.lookup x=some .cell\/cx.kinds.lookup x=some .free)->(Á.kindOf x=some .cell\/Á.kindOf x=some .free)/\∃c v,Á.cells.lookup x=some c/\s.heap.IsCell c v
 ns:∃m,s.heap.Ns Á.locals m
 noL:No Á.locals
 apart:∀x y c,Á.cells.lookup x=some c->Á.cells.lookup y=some c->x=y
 cellsLow:∀x c,Á.cells.lookup x=some c->c<s.heap.objs.size
 vars:∀x i p,cx.vars.lookup x=some i->lk pe i=some p->∃v,Ë Á s.heap x v/\Ă cx Á s (λb=>Na b\/No b) i v p
 stores:∀x∈asg,ğ Á s.heap No x
 inj:∀x y i,cx.vars.lookup x=some i->cx.vars.lookup y=some i->x=y
 alone:∀x y i j a,cx.vars.lookup x=some i->cx.vars.lookup y=some j->(lk pe i).isSome->(lk pe j).isSome->cx.own.contains i=true->cx.own.contains j=true->Ë Á s.heap x (.ref a)->Ë Á s.heap y (.ref a)->i=j
 disj:∀b,No b->¬Na b
 turns:∀x i a,cx.vars.lookup x=some i->cx.own.contains i=true->(lk pe i).isSome->Ë Á s.heap x (.ref a)->No a
theorem Ë.same (a:Ë Á h x v) (b:Ë Á h x u):v=u:= by
 cases a with
 |loc m k n e=>
  cases b with
  |loc m' k' n' e'=>
   refine cH n λo es ep h1 h2 h3 h4=>?_;clear n;refine cH n' λo' ρ ep' Nx Ku Ny Py=>?_;clear n';rw[h1] at Nx;cases Nx;rw[h2] at Ku;cases Ku;have:=(h4 x).symm.trans (Py x);rw[e,e'] at this;exact iq this
  |cell c k'=>rw[k] at k';rcases k' with k'|k'<;>cases k'
 |cell c k e f=>
  cases b with
  |loc m k'=>rw[k'] at k;rcases k with k|k<;>cases k
  |cell c' k' e' f'=>
   rw[e] at e';cases e';refine É f λo h1 h2=>?_;clear f;refine É f' λo' Nx Ku=>?_;clear f';rw[h1] at Nx;cases Nx;rw[h2] at Ku;cases Ku;rfl
theorem Ë.keeps (a:Ë Á h x v) (k:∀b o,h.get? b=some o->h'.get? b=some o):Ë Á h' x v:= by
 cases a with
 |loc m q n e=>exact .loc m q (n.keeps k) e
 |cell c q e f=>exact .cell c q e (f.keeps k)
section
variable{cx:Cx}{asg:List Str}{Á:Env}{s s':aj}{Na No:Ap}{pe:Å}
structure ā (s:aj) (No:Ap) (s':aj) (No':Ap):Prop where
 pure:Pure s s'
 sub:∀b,No b->No' b
 new:∀b,No' b->No b\/s.heap.objs.size<=b
 low:Ė No' s'.heap
theorem ā.of_pure (x:Pure s s') (h:Ė No s.heap):ā s No s' No:=⟨x,λ_ h=>h,λ_ h=>.inl h,λb hb=>ae (h b hb) x.step.grow⟩
theorem ā.one (x:Pure s s') (h:Ė No s.heap) (h1:s.heap.objs.size<=a) (h2:a<s'.heap.objs.size):ā s No s' (λb=>No b\/b=a):=
 ⟨x,λ_ h=>.inl h,λb hb=>hb.elim .inl λe=>.inr (e▸h1),λb hb=>hb.elim (λq=>ae (h b q) x.step.grow) λe=>e▸h2⟩
theorem ā.stepAt (x:ā s No s' No'):Step s.heap (λb=>Na b\/No b) s'.heap (λb=>Na b\/No' b):=
 ⟨λb o _ e=>x.pure.keep b o e,x.pure.step.grow,λb hb=>hb.elim (λq=>.inl (.inl q)) λq=>(x.new b q).elim (λq=>.inl (.inr q)) .inr⟩
theorem Ă.wide (r:Ă cx Á s (λb=>Na b\/No b) i v p) (x:ā s No s' No'):Ă cx Á s' (λb=>Na b\/No' b) i v p:= by
 refine⟨?_,λht y t e=>⟨(r.2 ht y t e).1,ae (r.2 ht y t e).2 (Ö.toks x.pure)⟩⟩;have r1:=r.1;split
 ·rename_i hc;rw[if_pos hc] at r1;refine cW r1 λa e h1 h2 h3=>?_;clear r1;refine(hV a e (h1.elim .inl (λq=>.inr (x.sub _ q))) h2 ?_);cases p<;>dsimp only[ą] at h3⊢
  ·refine É h3 λvs h4 h5=>?_;exact(Õ vs (h4.at λo e=>x.pure.keep _ _ e) (h5.step x.stepAt))
  ·refine tF h3 λhs Gp hd hk=>?_;exact(rT hs Gp (hd.keep x.pure.keep) hk)
 ·rename_i hc;rw[if_neg hc] at r1;exact r1.step x.stepAt
theorem û.pure (b:û s N) (x:Pure s s'):û s' N where
 keep:=λa o e=>x.keep a o (b.keep a o e)
 above:=b.above
 size:=aa b.size x.step.grow
 low:=λa h=>ae (b.low a h) x.step.grow
 toks:=ae b.toks (Ö.toks x)
 bare:=x.bare b.bare
theorem Ä.bind_back (r:Ä cx asg Á s Na No pe) (x:Pure s s') (hy:cx.vars.lookup y=some i) (hp:lk pe i=some p) (b:Ë Á s'.heap y v):Ë Á s.heap y v:= by
 refine É (r.vars y i p hy hp) λu hu _=>?_;have:=(hu.keeps x.keep).same b;subst this;exact hu
theorem Ä.wide (r:Ä cx asg Á s Na No pe) (x:ā s No s' No'):Ä cx asg Á s' Na No' pe where
 base:={(r.base.pure x.pure) with
  above:=λb hb=>hb.elim (λq=>r.base.above b (.inl q)) λq=>(x.new b q).elim (λq=>r.base.above b (.inr q)) λq=>aa r.base.size q
  low:=λb hb=>hb.elim (λq=>ae (r.base.low b (.inl q)) x.pure.step.grow) λq=>x.low b q}
 kind:=r.kind
 glb:=r.glb
 blt:=r.blt
 gl:=r.gl
 cl:=λy hy=>let ⟨h1,c,v,h2,h3⟩:=r.cl y hy;⟨h1,c,v,h2,h3.keeps x.pure.keep⟩
 ns:=let ⟨m,hm⟩:=r.ns;⟨m,hm.keeps x.pure.keep⟩
 noL:=x.sub _ r.noL
 apart:=r.apart
 cellsLow:=λy c h=>ae (r.cellsLow y c h) x.pure.step.grow
 vars:=λy i p h1 h2=>let ⟨v,hb,hs⟩:=r.vars y i p h1 h2;⟨v,hb.keeps x.pure.keep,hs.wide x⟩
 stores:=λy hy=>by
  cases r.stores y hy with
  |loc h=>exact .loc h
  |cell c Ib h1 h2 h3 h4=>exact .cell c Ib h1 h2 (x.sub _ h3) (h4.keeps x.pure.keep)
 inj:=r.inj
 alone:=λy z i j a h1 h2 h3 h4 h5 h6 h7 h8=>by
  refine xe (au.mp h3) λp hp=>?_;refine xe (au.mp h4) λq hq=>?_;exact r.alone y z i j a h1 h2 h3 h4 h5 h6 (r.bind_back x.pure h1 hp h7) (r.bind_back x.pure h2 hq h8)
 disj:=λb hb ha=>(x.new b hb).elim (λq=>r.disj b q ha) λq=>ik _ (ae (r.base.low b (.inl ha)) q)
 turns:=λy i a h1 h2 h3 h4=>by
  refine xe (au.mp h3) λp hp=>?_;exact x.sub _ (r.turns y i a h1 h2 h3 (r.bind_back x.pure h1 hp h4))
theorem Ä.lowO (r:Ä cx asg Á s Na No pe):Ė No s.heap:=λb hb=>r.base.low b (.inr hb)
theorem Ä.pure (r:Ä cx asg Á s Na No pe) (x:Pure s s'):Ä cx asg Á s' Na No pe:=r.wide (ā.of_pure x r.lowO)
theorem j9{h:jg}{c L:ew}{v:Option ag}{m:Str->Option ag}(a:h.IsCell c v) (b:h.Ns L m):c≠L:= by
 rintro rfl
 refine É a λo h1 h2=>?_;clear a;refine pL b λo' es ep h3 h4 _=>?_;clear b;rw[h1] at h3;cases h3;rw[h2] at h4;cases h4
theorem sU (x:ą h N a p) (y:h.IsCell c v):a≠c:= by
 rintro rfl
 refine É y λo h1 h2=>?_;clear y;cases p<;>dsimp only[ą] at x
 ·obtain⟨vs,⟨n,e⟩,_⟩:=x;rw[e] at h1;cases h1;cases h2
 ·obtain⟨_,Gp,⟨o',es,ep,e,_,hd,_⟩,_⟩:=x;rw[e] at h1;cases h1;rw[hd] at h2;cases h2
theorem Ă.other (r:Ă cx Á s N i v p) (hb:N b0) (hs:rf b0 s.heap h') (Gv:∀a,v=.ref a->cx.own.contains i=true->ą s.heap N a p->a≠Á.locals->a≠b0) (ht:s.toks<=t'):
  Ă cx Á {s with heap:=h',toks:=t'} N i v p:= by
 have S:Step s.heap N h' N:=⟨λb o hn e=>hs.extBut b o (λq=>hn (q▸hb)) e,cf hs.1.symm,λ_ q=>.inl q⟩;refine⟨?_,λhtk y t e=>⟨(r.2 htk y t e).1,ae (r.2 htk y t e).2 ht⟩⟩;have r1:=r.1;split
 ·rename_i hc;rw[if_pos hc] at r1;refine cW r1 λa e h1 h2 h3=>?_;clear r1;have Ri:=Gv a e hc h3 h2;refine(hV a e h1 h2 ?_);cases p<;>dsimp only[ą] at h3⊢
  ·refine É h3 λvs h4 h5=>?_;exact(Õ vs (h4.at λo e=>hs.extBut _ _ Ri e) (h5.step S))
  ·refine tF h3 λIc Gp hd hk=>?_;exact(rT Ic Gp (hd.extBut hs.extBut Ri) hk)
 ·rename_i hc;rw[if_neg hc] at r1;exact r1.step S
def k_S{x:Str}{i:Nat}{v:ag}{p:PV}{Q:Unit->aj->Prop}{M:Fo}{A:dm}{E:Vs} :Prop:=∀(r:Ä cx asg Á s Na No pe) (hx:x∈asg) (hi:cx.vars.lookup x=some i) (hv:Ă cx Á s (λb=>Na b\/No b) i v p) (Wo:∀a,v=.ref a->cx.own.contains i=true->No a) (Tz:∀a,v=.ref a->cx.own.contains i=true->∀y j,cx.vars.lookup y=some j->j≠i->(lk pe j).isSome->cx.own.contains j=true->¬Ë Á s.heap y (.ref a)) (hQ:∀s' b0,No b0->(b0=Á.locals\/Á.cells.lookup x=some b0)->rf b0 s.heap s'.heap->s'.gens=s.gens->Ö s No s' No->Ä cx asg Á s' Na No (st pe i p)->Q () s'),wpAny M A (storeName Á x v) Q E s
def nO:=@gX _ ⟨((((((((((((((⟨[],[],[],[],false⟩,ac),ac),{}),ac),ac),ac),ac),ac),ac),.none),ac),model Pg W0),{}),ac)⟩ (bH (bH (bH (a7 (a7 @k_S)))))
def VQ:=nO.1.1.1.1.1.1.1.1.1.1.1.1.1.2
def lQ:=nO.1.1.1.1.1.1.1.1.1.1.1.1.2
def Œ:=nO.1.1.1.1.1.1.1.1.1.1.1.2
def ť:=nO.1.1.1.1.1.1.1.1.1.2
def Ħ:=nO.1.1.1.1.1.1.1.2
def v_S:=nO.1.1.1.1.1.2
def p_S:=nO.1.1.1.1.2
theorem zW:@k_S nO.1.1.1.1.1.1.1.1.1.1.1.1.1.1 VQ lQ Œ nO.1.1.1.1.1.1.1.1.1.1.2 ť nO.1.1.1.1.1.1.1.1.2 Ħ nO.1.1.1.1.1.1.2 v_S p_S nO.1.1.1.2 nO.1.1.2 nO.1.2 nO.2:= by
 intro r hx hi hv Wo Tz hQ;have key:∀(b0:ew) (h':jg) (t':Nat),(b0=lQ.locals\/lQ.cells.lookup Ħ=some b0)->(∀c u,Œ.heap.IsCell c u->∃u,h'.IsCell c u)->ť b0->rf b0 Œ.heap h'->Œ.toks<=t'->(∃m,h'.Ns lQ.locals m)->Ë lQ h' Ħ v_S->
   (∀y u,y≠Ħ->Ë lQ Œ.heap y u->Ë lQ h' y u)->(∀y∈VQ,ğ lQ h' ť y)->(∀a p_S N,ą Œ.heap N a p_S->a≠lQ.locals->a≠b0)->
   nO.1.1.1.2 () {Œ with heap:=h',toks:=t'}:= by
  intro b0 h' t' Jm hcells hb hs ht Gk Tl Wp Ua hown;have S:Step Œ.heap ť h' ť:=⟨λb o hn e=>hs.extBut b o (λq=>hn (q▸hb)) e,cf hs.1.symm,λ_ q=>.inl q⟩;have Kc:h'.objs.size=Œ.heap.objs.size:=hs.1;refine hQ {Œ with heap:=h',toks:=t'} b0 hb Jm hs rfl ⟨S,λ_ _ e=>e,λq=>q,rfl,rfl,ht⟩ ?_;have back:∀y u,y≠Ħ->(∃j q,nO.1.1.1.1.1.1.1.1.1.1.1.1.1.1.vars.lookup y=some j/\lk nO.1.1.1.1.1.1.1.1.2 j=some q)->Ë lQ h' y u->Ë lQ Œ.heap y u:= by
   rintro y u hy ⟨j,q,h1,h2⟩ Ho
   refine É (r.vars y j q h1 h2) λz hz _=>?_;have:=(Wp y z hy hz).same Ho;subst this;exact hz
  exact{
   base:={
    keep:=λb o e=>hs.extBut b o (λq=>by have:=r.base.above b0 (.inr hb);have h2:=da e;rw[q] at h2;exact absurd h2 (ax.mpr this)) (r.base.keep b o e)
    above:=r.base.above
    size:=by show _<=h'.objs.size;exact O Kc r.base.size
    low:=λb q=>by show b<h'.objs.size;exact O Kc (r.base.low b q)
    toks:=ae r.base.toks ht
    bare:=r.base.bare}
   kind:=r.kind
   glb:=r.glb
   blt:=r.blt
   gl:=r.gl
   cl:=λy hy=>let ⟨h1,c,v_S,h2,h3⟩:=r.cl y hy;let ⟨u,hu⟩:=hcells c v_S h3;⟨h1,c,u,h2,hu⟩
   ns:=Gk
   noL:=r.noL
   apart:=r.apart
   cellsLow:=λy c h=>by show c<h'.objs.size;exact O Kc (r.cellsLow y c h)
   vars:=λy j q h1 h2=>by
    rcases uV h2 with⟨rfl,rfl⟩|⟨hj,h2⟩
    ·have:y=Ħ:=r.inj y Ħ _ h1 hi;subst this;exact⟨v_S,Tl,hv.other (.inr hb) hs (λa _ _ ho hl=>hown a _ _ ho hl) ht⟩
    ·have Rj:y≠Ħ:=λe=>by subst e;rw[hi] at h1;exact hj (iq h1).symm
     refine É (r.vars y j q h1 h2) λz hz Kt=>?_;exact⟨z,Wp y z Rj hz,Kt.other (.inr hb) hs (λa _ _ ho hl=>hown a _ _ ho hl) ht⟩
   stores:=Ua
   inj:=r.inj
   alone:=λy z j k a h1 h2 h3 h4 h5 h6 h7 h8=>by
    refine xe (au.mp h3) λpj h3=>?_;refine xe (au.mp h4) λpk h4=>?_;rcases uV h3 with⟨rfl,rfl⟩|⟨hj,Ny⟩<;>rcases uV h4 with⟨rfl,rfl⟩|⟨hk,Py⟩
    ·rfl
    ·have e1:y=Ħ:=r.inj y Ħ _ h1 hi;subst e1;have Rk:z≠Ħ:=λe=>by subst e;rw[h1] at h2;exact hk (iq h2).symm
     have e2:=Tl.same h7;exact absurd (back z _ Rk ⟨k,_,h2,Py⟩ h8) (Tz a e2 h5 z k h2 hk (by refine O Py ?_;rfl) h6)
    ·have e1:z=Ħ:=r.inj z Ħ _ h2 hi;subst e1;have Rk:y≠Ħ:=λe=>by subst e;rw[h1] at h2;exact hj (iq h2)
     have e2:=Tl.same h8;exact absurd (back y _ Rk ⟨j,_,h1,Ny⟩ h7) (Tz a e2 h6 y j h1 hj (by refine O Ny ?_;rfl) h5)
    ·have Rj:y≠Ħ:=λe=>by subst e;rw[hi] at h1;exact hj (iq h1).symm
     have Rk:z≠Ħ:=λe=>by subst e;rw[hi] at h2;exact hk (iq h2).symm
     exact r.alone y z j k a h1 h2 (by refine O Ny ?_;rfl) (by refine O Py ?_;rfl) h5 h6 (back y _ Rj ⟨j,_,h1,Ny⟩ h7) (back z _ Rk ⟨k,_,h2,Py⟩ h8)
   disj:=r.disj
   turns:=λy j a h1 h2 h3 h4=>by
    refine xe (au.mp h3) λpj h3=>?_;rcases uV h3 with⟨rfl,rfl⟩|⟨hj,Ny⟩
    ·have e1:y=Ħ:=r.inj y Ħ _ h1 hi;subst e1;exact Wo a (Tl.same h4) h2
    ·have Rj:y≠Ħ:=λe=>by subst e;rw[hi] at h1;exact hj (iq h1).symm
     exact r.turns y j a h1 h2 (by refine O Ny ?_;rfl) (back y _ Rj ⟨j,_,h1,Ny⟩ h4)}
 refine xe r.ns λm Gk=>?_;cases r.stores Ħ hx with
 |loc hl=>
  refine wpAny_storeName_local hl Gk (λh' On Ic=>key lQ.locals h' _ (.inl rfl) (λc u hc=>⟨u,hc.sameBut Ic (j9 hc Gk)⟩) r.noL Ic (jh _) ⟨_,On⟩ (.loc _ hl On (by simp)) ?_ ?_ (λa p_S N _ q=>q)) (by refine O r.kind ?_;rfl)
  ·intro y u hy hb;cases hb with
   |loc m' h1 h2 h3=>
    refine .loc _ h1 On ?_;simp only[if_neg hy];have:=Ë.same (.loc m' h1 h2 h3) (Á:=lQ) (h:=Œ.heap) (x:=y) (u:=u) (.loc m' h1 h2 h3);refine cH Gk λo es ep a1 a2 a3 a4=>?_;clear Gk;refine cH h2 λo' ρ ep' b1 b2 b3 b4=>?_;clear h2;rw[a1] at b1;cases b1;rw[a2] at b2;cases b2;exact(a4 y).symm.trans ((b4 y).trans h3)
   |cell c h1 h2 h3=>exact .cell c h1 h2 (h3.sameBut Ic (j9 h3 Gk))
  ·intro y hy;cases r.stores y hy with
   |loc h=>exact .loc h
   |cell c Ib h1 h2 h3 h4=>exact .cell c Ib h1 h2 h3 (h4.sameBut Ic (j9 h4 Gk))
 |cell c Ib hl hc Kd Gs=>
  refine wpAny_storeName_cell r.kind hl hc Gs λh' Rh Ic=>key c h' Œ.toks (.inr hc) (λc' u Pz=>by
   by_cases e:c'=c
   ·subst e;exact⟨_,Rh⟩
   ·exact⟨u,Pz.sameBut Ic e⟩) Kd Ic (ai _) ⟨m,Gk.sameBut Ic (sk (j9 Gs Gk))⟩ (.cell c (.inl hl) hc Rh) ?_ ?_ (λa p_S N ho _=>sU ho Gs)
  ·intro y u hy hb;cases hb with
   |loc m' h1 h2 h3=>exact .loc m' h1 (h2.sameBut Ic (sk (j9 Gs h2))) h3
   |cell c' h1 h2 h3=>exact .cell c' h1 h2 (h3.sameBut Ic λe=>hy (r.apart y Ħ c' h2 (e▸hc)))
  ·intro y hy;cases r.stores y hy with
   |loc h=>exact .loc h
   |cell c' Rl h1 h2 h3 h4=>
    by_cases e:c'=c
    ·subst e;exact .cell c' _ h1 h2 h3 Rh
    ·exact .cell c' Rl h1 h2 h3 (h4.sameBut Ic e)
theorem eP:@k_S cx asg Á s Na No pe x i v p Q M A E:=iA (bH (bH (bH (a7 (a7 @k_S))))) ((((((((((((((cx,asg),Á),s),Na),No),pe),x),i),v),p),Q),M),A),E) zW
theorem Ä.poke (r:Ä cx asg Á s Na No pe) (hb:Na b0) (ho:s.heap.get? b0=some o0) (Gs:∀v,o0.data≠.cell v)
  (hk:∀b o,b≠b0->s.heap.get? b=some o->s'.heap.get? b=some o) (hg:s.heap.objs.size<=s'.heap.objs.size) (ht:s.toks<=s'.toks) (Lq:od s.gens->od s'.gens):Ä cx asg Á s' Na No pe:= by
 have Kd:¬No b0:=λq=>r.disj b0 q hb;have S:Step s.heap (λb=>Na b\/No b) s'.heap (λb=>Na b\/No b):=⟨λb o hn e=>hk b o (λq=>hn (.inl (q▸hb))) e,hg,λ_ q=>.inl q⟩;have Nw:∀c v,s.heap.IsCell c v->c≠b0:= by
  rintro c v ⟨o,h1,h2⟩ rfl
  rw[ho] at h1;cases h1;exact Gs _ h2
 have Lr:∀c v,s.heap.IsCell c v->s'.heap.IsCell c v:=λc v h=>let ⟨o,h1,h2⟩:=h;⟨o,hk c o (Nw c v h) h1,h2⟩;have hL:Á.locals≠b0:=λe=>Kd (e▸r.noL);have Gk:∀m,s.heap.Ns Á.locals m->s'.heap.Ns Á.locals m:=λm h=>let ⟨o,es,ep,x,q⟩:=h;⟨o,es,ep,hk _ _ hL x,q⟩;have hB:∀y v,Ë Á s.heap y v->Ë Á s'.heap y v:=λy v h=>by
  cases h with
  |loc m a b c=>exact .loc m a (Gk m b) c
  |cell c a b d=>exact .cell c a b (Lr c _ d)
 have back:∀y i p v,cx.vars.lookup y=some i->lk pe i=some p->Ë Á s'.heap y v->Ë Á s.heap y v:=λy i p v hy hp b=>by
  refine É (r.vars y i p hy hp) λu hu _=>?_;have:=(hB y u hu).same b;subst this;exact hu
 exact{
  base:={
   keep:=λb o e=>hk b o (λq=>by have:=r.base.above b0 (.inl hb);have h2:=da e;rw[q] at h2;exact absurd h2 (ax.mpr this)) (r.base.keep b o e)
   above:=r.base.above
   size:=aa r.base.size hg
   low:=λb q=>ae (r.base.low b q) hg
   toks:=ae r.base.toks ht
   bare:=Lq r.base.bare}
  kind:=r.kind
  glb:=r.glb
  blt:=r.blt
  gl:=r.gl
  cl:=λy hy=>let ⟨h1,c,v,h2,h3⟩:=r.cl y hy;⟨h1,c,v,h2,Lr c v h3⟩
  ns:=let ⟨m,hm⟩:=r.ns;⟨m,Gk m hm⟩
  noL:=r.noL
  apart:=r.apart
  cellsLow:=λy c h=>ae (r.cellsLow y c h) hg
  vars:=λy i p h1 h2=>by
   refine É (r.vars y i p h1 h2) λv Ho hs=>?_;refine⟨v,hB y v Ho,?_,λh x t e=>⟨(hs.2 h x t e).1,ae (hs.2 h x t e).2 ht⟩⟩;have h3:=hs.1;split
   ·rename_i hc;rw[if_pos hc] at h3;refine cW h3 λa e q1 q2 q3=>?_;clear h3;subst e;have Gv:a≠b0:=λe=>Kd (e▸r.turns y i a h1 hc (by refine O h2 ?_;rfl) Ho);refine⟨a,rfl,q1,q2,?_⟩;cases p<;>dsimp only[ą] at q3⊢
    ·refine É q3 λvs h4 h5=>?_;exact⟨vs,h4.at λo e=>hk _ _ Gv e,h5.step S⟩
    ·refine tF q3 λIc Gp hd Ls=>?_;clear q3;refine nR hd λo es ep e q=>?_;exact⟨Ic,Gp,⟨o,es,ep,hk _ _ Gv e,q⟩,Ls⟩
   ·rename_i hc;rw[if_neg hc] at h3;exact h3.step S
  stores:=λy hy=>by
   cases r.stores y hy with
   |loc h=>exact .loc h
   |cell c Ib h1 h2 h3 h4=>exact .cell c Ib h1 h2 h3 (Lr c _ h4)
  inj:=r.inj
  alone:=λy z i j a h1 h2 h3 h4 h5 h6 h7 h8=>by
   refine xe (au.mp h3) λp hp=>?_;refine xe (au.mp h4) λq hq=>?_;exact r.alone y z i j a h1 h2 h3 h4 h5 h6 (back y i p _ h1 hp h7) (back z j q _ h2 hq h8)
  disj:=r.disj
  turns:=λy i a h1 h2 h3 h4=>by
   refine xe (au.mp h3) λp hp=>?_;exact r.turns y i a h1 h2 h3 (back y i p _ h1 hp h4)}
theorem Ä.pokes{Z Na':Ap}(r:Ä cx asg Á s Na No pe) (hZ:∀b,Z b->Na b) (Gs:∀y c,Á.cells.lookup y=some c->¬Z c) (n1:∀b,Na b->Na' b) (n2:∀b,Na' b->Na b\/s.heap.objs.size<=b) (n3:Ė Na' s'.heap)
  (hk:∀b o,¬Z b->s.heap.get? b=some o->s'.heap.get? b=some o) (hg:s.heap.objs.size<=s'.heap.objs.size) (ht:s.toks<=s'.toks) (Lq:od s.gens->od s'.gens):Ä cx asg Á s' Na' No pe:= by
 have Kd:∀b,Z b->¬No b:=λb z q=>r.disj b q (hZ b z);have S:Step s.heap (λb=>Na b\/No b) s'.heap (λb=>Na' b\/No b):=⟨λb o hn e=>hk b o (λq=>hn (.inl (hZ b q))) e,hg,λb q=>q.elim (λq=>(n2 b q).elim (λq=>.inl (.inl q)) .inr) λq=>.inl (.inr q)⟩;have Lr:∀c v,¬Z c->s.heap.IsCell c v->s'.heap.IsCell c v:=λc v hz h=>let ⟨o,h1,h2⟩:=h;⟨o,hk c o hz h1,h2⟩;have hL:¬Z Á.locals:=λe=>Kd _ e r.noL;have Gk:∀m,s.heap.Ns Á.locals m->s'.heap.Ns Á.locals m:=λm h=>let ⟨o,es,ep,x,q⟩:=h;⟨o,es,ep,hk _ _ hL x,q⟩;have hB:∀y v,Ë Á s.heap y v->Ë Á s'.heap y v:=λy v h=>by
  cases h with
  |loc m a b c=>exact .loc m a (Gk m b) c
  |cell c a b d=>exact .cell c a b (Lr c _ (Gs y c b) d)
 have back:∀y i p v,cx.vars.lookup y=some i->lk pe i=some p->Ë Á s'.heap y v->Ë Á s.heap y v:=λy i p v hy hp b=>by
  refine É (r.vars y i p hy hp) λu hu _=>?_;have:=(hB y u hu).same b;subst this;exact hu
 exact{
  base:={
   keep:=λb o e=>hk b o (λq=>absurd (da e) (ax.mpr (r.base.above b (.inl (hZ b q))))) (r.base.keep b o e)
   above:=λb q=>q.elim (λq=>(n2 b q).elim (λq=>r.base.above b (.inl q)) λq=>aa r.base.size q) λq=>r.base.above b (.inr q)
   size:=aa r.base.size hg
   low:=λb q=>q.elim (n3 b) λq=>ae (r.base.low b (.inr q)) hg
   toks:=ae r.base.toks ht
   bare:=Lq r.base.bare}
  kind:=r.kind
  glb:=r.glb
  blt:=r.blt
  gl:=r.gl
  cl:=λy hy=>let ⟨h1,c,v,h2,h3⟩:=r.cl y hy;⟨h1,c,v,h2,Lr c v (Gs y c h2) h3⟩
  ns:=let ⟨m,hm⟩:=r.ns;⟨m,Gk m hm⟩
  noL:=r.noL
  apart:=r.apart
  cellsLow:=λy c h=>ae (r.cellsLow y c h) hg
  vars:=λy i p h1 h2=>by
   refine É (r.vars y i p h1 h2) λv Ho hs=>?_;refine⟨v,hB y v Ho,?_,λh x t e=>⟨(hs.2 h x t e).1,ae (hs.2 h x t e).2 ht⟩⟩;have h3:=hs.1;split
   ·rename_i hc;rw[if_pos hc] at h3;refine cW h3 λa e q1 q2 q3=>?_;clear h3;subst e;have Gv:¬Z a:=λe=>Kd a e (r.turns y i a h1 hc (by refine O h2 ?_;rfl) Ho);refine⟨a,rfl,q1.elim (λq=>.inl (n1 a q)) .inr,q2,?_⟩;cases p<;>dsimp only[ą] at q3⊢
    ·refine É q3 λvs h4 h5=>?_;exact⟨vs,h4.at λo e=>hk _ _ Gv e,h5.step S⟩
    ·refine tF q3 λIc Gp hd Ls=>?_;clear q3;refine nR hd λo es ep e q=>?_;exact⟨Ic,Gp,⟨o,es,ep,hk _ _ Gv e,q⟩,Ls⟩
   ·rename_i hc;rw[if_neg hc] at h3;exact h3.step S
  stores:=λy hy=>by
   cases r.stores y hy with
   |loc h=>exact .loc h
   |cell c Ib h1 h2 h3 h4=>exact .cell c Ib h1 h2 h3 (Lr c _ (Gs y c h2) h4)
  inj:=r.inj
  alone:=λy z i j a h1 h2 h3 h4 h5 h6 h7 h8=>by
   refine xe (au.mp h3) λp hp=>?_;refine xe (au.mp h4) λq hq=>?_;exact r.alone y z i j a h1 h2 h3 h4 h5 h6 (back y i p _ h1 hp h7) (back z j q _ h2 hq h8)
  disj:=λb hb ha=>(n2 b ha).elim (r.disj b hb) λq=>ik _ (ae (r.base.low b (.inr hb)) q)
  turns:=λy i a h1 h2 h3 h4=>by
   refine xe (au.mp h3) λp hp=>?_;exact r.turns y i a h1 h2 h3 (back y i p _ h1 hp h4)}
theorem Ä.wideA (r:Ä cx asg Á s Na No pe) (x:Pure s s') (h1:∀b,Na b->Na' b) (h2:∀b,Na' b->Na b\/s.heap.objs.size<=b) (h3:Ė Na' s'.heap):Ä cx asg Á s' Na' No pe:= by
 have r':=r.pure x;have S:Step s.heap (λb=>Na b\/No b) s'.heap (λb=>Na' b\/No b):=⟨λb o _ e=>x.keep b o e,x.step.grow,λb q=>q.elim (λq=>(h2 b q).elim (λq=>.inl (.inl q)) .inr) λq=>.inl (.inr q)⟩;exact{r' with
  base:={r'.base with
   above:=λb q=>q.elim (λq=>(h2 b q).elim (λq=>r.base.above b (.inl q)) λq=>aa r.base.size q) λq=>r.base.above b (.inr q)
   low:=λb q=>q.elim (h3 b) λq=>r'.base.low b (.inr q)}
  vars:=λy i p q1 q2=>by
   refine É (r.vars y i p q1 q2) λv hb hs=>?_;refine(jC v (hb.keeps x.keep) ?_ (λh z t e=>⟨(hs.2 h z t e).1,ae (hs.2 h z t e).2 (Ö.toks x)⟩));have h3:=hs.1;split
   ·rename_i hc;rw[if_pos hc] at h3;refine cW h3 λa e q1 q2 q3=>?_;clear h3;refine(hV a e (q1.elim (λq=>.inl (h1 a q)) .inr) q2 ?_);cases p<;>dsimp only[ą] at q3⊢
    ·refine É q3 λvs h4 h5=>?_;exact(Õ vs (h4.at λo e=>x.keep _ _ e) (h5.step S))
    ·refine tF q3 λIc Gp hd Ls=>?_;exact(rT Ic Gp (hd.keep x.keep) Ls)
   ·rename_i hc;rw[if_neg hc] at h3;exact h3.step S
  disj:=λb hb ha=>(h2 b ha).elim (r.disj b hb) λq=>ik _ (ae (r.base.low b (.inr hb)) q)}
theorem Ä.narrow (r:Ä cx asg Á s Na' No pe) (h1:∀b,Na b->Na' b):Ä cx asg Á s Na No pe:=
 {r with
  base:={r.base with
   above:=λb q=>r.base.above b (q.elim (λq=>.inl (h1 b q)) .inr)
   low:=λb q=>r.base.low b (q.elim (λq=>.inl (h1 b q)) .inr)}
  vars:=λy i p q1 q2=>by
   refine É (r.vars y i p q1 q2) λv hb hs=>?_;refine(jC v hb ?_ hs.2);have h3:=hs.1;split
   ·rename_i hc;rw[if_pos hc] at h3;refine cW h3 λa e q3 q4 q5=>?_;clear h3;subst e;refine(hV a rfl (.inr (r.turns y i a q1 hc (by refine O q2 ?_;rfl) hb)) q4 ?_);cases p<;>dsimp only[ą] at q5⊢
    ·refine É q5 λvs h4 h5=>?_;exact(Õ vs h4 (h5.weak' λb q=>q.elim (λq=>.inl (h1 b q)) .inr))
    ·exact q5
   ·rename_i hc;rw[if_neg hc] at h3;exact h3.weak' λb q=>q.elim (λq=>.inl (h1 b q)) .inr
  disj:=λb hb ha=>r.disj b hb (h1 b ha)}
theorem Ä.grow (r:Ä cx asg Á s Na No pe) (x:Pure s s') (h1:∀b,Na b->Na' b) (h2:∀b,Na' b->Na b\/s.heap.objs.size<=b) (h3:Ė Na' s'.heap)
  (k1:∀b,No b->No' b) (k2:∀b,No' b->No b\/s.heap.objs.size<=b) (k3:Ė No' s'.heap) (hd:∀b,No' b->¬Na' b):Ä cx asg Á s' Na' No' pe:= by
 have r':=r.wide (No':=No') ⟨x,k1,k2,k3⟩;have S:Step s.heap (λb=>Na b\/No b) s'.heap (λb=>Na' b\/No' b):=⟨λb o _ e=>x.keep b o e,x.step.grow,λb q=>q.elim (λq=>(h2 b q).elim (λq=>.inl (.inl q)) .inr) λq=>(k2 b q).elim (λq=>.inl (.inr q)) .inr⟩;exact{r' with
  base:={r'.base with
   above:=λb q=>q.elim (λq=>(h2 b q).elim (λq=>r.base.above b (.inl q)) λq=>aa r.base.size q) λq=>r'.base.above b (.inr q)
   low:=λb q=>q.elim (h3 b) λq=>r'.base.low b (.inr q)}
  vars:=λy i p q1 q2=>by
   refine É (r.vars y i p q1 q2) λv hb hs=>?_;refine(jC v (hb.keeps x.keep) ?_ (λh z t e=>⟨(hs.2 h z t e).1,ae (hs.2 h z t e).2 (Ö.toks x)⟩));have h3:=hs.1;split
   ·rename_i hc;rw[if_pos hc] at h3;refine cW h3 λa e q1 q2 q3=>?_;clear h3;refine(hV a e (q1.elim (λq=>.inl (h1 a q)) (λq=>.inr (k1 a q))) q2 ?_);cases p<;>dsimp only[ą] at q3⊢
    ·refine É q3 λvs h4 h5=>?_;exact(Õ vs (h4.at λo e=>x.keep _ _ e) (h5.step S))
    ·refine tF q3 λIc Gp hd Ls=>?_;exact(rT Ic Gp (hd.keep x.keep) Ls)
   ·rename_i hc;rw[if_neg hc] at h3;exact h3.step S
  disj:=hd}
end
mutual
inductive PE where
 |cst (c:PV)
 |gcst (c:PV)
 |var (i:Nat)
 |bin (op:ic) (a b:PE)
 |neg (a:PE)
 |not (a:PE)
 |and (a b:PE)
 |or (a b:PE)
 |ite (t a b:PE)
 |cmp (op:Df) (a b:PE)
 |cmp2 (op Je:Df) (a b c:PE)
 |sub (a i:PE)
 |slc (a lo hi st:PE)
 |list (es:Į)
 |tup (es:Į)
 |comp (Hd:PE) (tgt:Nat) (src:PI) (iN:Bool) (cond:PE)
 |call (f:Nat) (es:Į)
 |bi (f:Bi) (es:Į)
 |me (f:Me) (o:PE) (es:Į)
inductive Į where
 |nil
 |cons (e:PE) (es:Į)
inductive PI where
 |val (e:PE)
 |rng1 (e:PE)
 |rng2 (e f:PE)
 |rng3 (e f:PE)
end
inductive Fl where
 |next
 |brk
 |ret (p:PV)
mutual
inductive PS where
 |asg (i:Nat) (e:PE)
 |asgO (i:Nat) (e:PE)
 |newD (i:Nat)
 |asgT (ts:List Nat) (e:PE)
 |aug (i:Nat) (op:ic) (e:PE)
 |app (i:Nat) (e:PE)
 |pop (j i:Nat)
 |setI (i:Nat) (k v:PE)
 |ite (t:PE) (a b:ě)
 |for (ts:List Nat) (src:PI) (body:ě)
 |esc (ts:List Nat) (e:PE) (body:ě)
 |while (fuel:Nat) (t:PE) (body:ě)
 |ret (e:PE)
 |brk
inductive ě where
 |nil
 |cons (s:PS) (ss:ě)
end
noncomputable def pP:PV->Option (List PV)
 |.lst l=>if l.length<=100000 then some l else none
 |.tup l=>if l.length<=100000 then some l else none
 |.str x=>if x.length<=100000/\x.cps.all (·<128) then some (x.cps.toList.map λc=>.str ⟨#[c]⟩) else none
 |_=>none
noncomputable def mO (a b:Int):Option (List PV):=
 if -(2^40)<a/\a<2^40/\-(2^40)<b/\b<2^40/\b-a<=100000 then some ((cw (b-a).toNat).map λk:Nat=>PV.int (a+(k:Int))) else none
noncomputable def uW (a b:Int):Option (List PV):=
 if -(2^40)<a/\a<2^40/\-(2^40)<b/\b<2^40/\a-b<=100000 then some ((cw (a-b).toNat).map λk:Nat=>PV.int (a-(k:Int))) else none
def fL:List Nat->List PV->Å->Option Å
 |[],l,pe=>match l with
  |[]=>some pe
  |_::_=>none
 |i::ts,l,pe=>match l with
  |[]=>none
  |p::ps=>fL ts ps (st pe i p)
def gQ (ts:List Nat) (p:PV) (pe:Å):Option Å:=match ts with
 |[]=>none
 |i::ts=>match ts with
  |[]=>some (st pe i p)
  |j::ts=>match p with
   |.tup l=>fL (i::j::ts) l pe
   |.lst l=>fL (i::j::ts) l pe
   |_=>none
def dK (c:Å->Option PV) (e:Å->Option PV) (iN:Bool) (tg:Nat) (pe:Å):List PV->Option (List PV)
 |[]=>some []
 |p::l=>match (if iN then c (st pe tg p) else some (.bool true)) with
  |some (.bool true)=>match e (st pe tg p),dK c e iN tg pe l with
   |some v,some r=>some (v::r)
   |_,_=>none
  |some (.bool false)=>dK c e iN tg pe l
  |_=>none
theorem oR (h1:ee (st pe tg p)=some v) (h2:dK cc ee false tg pe l=some r):dK cc ee false tg pe (p::l)=some (v::r):= by
 show(match ee (st pe tg p),dK cc ee false tg pe l with|some v,some r=>some (v::r)|_,_=>none)=_;rw[h1,h2]
theorem SH (h:cc (st pe tg p)=some (.bool false)) (h2:dK cc ee true tg pe l=some r):dK cc ee true tg pe (p::l)=some r:= by
 show(match cc (st pe tg p) with
  |some (.bool true)=>(match ee (st pe tg p),dK cc ee true tg pe l with|some v,some r=>some (v::r)|_,_=>none)
  |some (.bool false)=>dK cc ee true tg pe l
  |_=>none)=_
 rw[h];exact h2
theorem SI (h:cc (st pe tg p)=some (.bool true)) (h1:ee (st pe tg p)=some v) (h2:dK cc ee true tg pe l=some r):dK cc ee true tg pe (p::l)=some (v::r):= by
 show(match cc (st pe tg p) with
  |some (.bool true)=>(match ee (st pe tg p),dK cc ee true tg pe l with|some v,some r=>some (v::r)|_,_=>none)
  |some (.bool false)=>dK cc ee true tg pe l
  |_=>none)=_
 rw[h];show(match ee (st pe tg p),dK cc ee true tg pe l with|some v,some r=>some (v::r)|_,_=>none)=_;rw[h1,h2]
noncomputable def fS:PV->Option (Option Int)
 |.none=>some none
 |.int i=>some (some i)
 |_=>none
theorem mP:fS .none=some none:=rfl
theorem mQ:fS (.int i)=some (some i):=rfl
theorem uX:pP (.lst l)=if l.length<=100000 then some l else none:=rfl
theorem uY:pP (.tup l)=if l.length<=100000 then some l else none:=rfl
mutual
def aB (F:Fn):PE->Å->Option PV
 |.cst c,_=>some c
 |.gcst c,_=>some c
 |.var i,pe=>lk pe i
 |.bin op a b,pe=>match aB F a pe,aB F b pe with
  |some x,some y=>fD op x y
  |_,_=>none
 |.neg a,pe=>match aB F a pe with
  |some (.int x)=>some (.int (-x))
  |_=>none
 |.not a,pe=>match aB F a pe with
  |some (.bool x)=>some (.bool (!x))
  |_=>none
 |.and a b,pe=>match aB F a pe with
  |some (.bool true)=>match aB F b pe with
   |some (.bool x)=>some (.bool x)
   |_=>none
  |some (.bool false)=>some (.bool false)
  |_=>none
 |.or a b,pe=>match aB F a pe with
  |some (.bool false)=>match aB F b pe with
   |some (.bool x)=>some (.bool x)
   |_=>none
  |some (.bool true)=>some (.bool true)
  |_=>none
 |.ite t a b,pe=>match aB F t pe with
  |some (.bool true)=>aB F a pe
  |some (.bool false)=>aB F b pe
  |_=>none
 |.cmp op a b,pe=>match aB F a pe,aB F b pe with
  |some x,some y=>(cD op x y).map .bool
  |_,_=>none
 |.cmp2 op Je a b c,pe=>match aB F a pe,aB F b pe with
  |some x,some y=>match cD op x y with
   |some true=>match aB F c pe with
    |some z=>(cD Je y z).map .bool
    |none=>none
   |some false=>some (.bool false)
   |none=>none
  |_,_=>none
 |.sub a i,pe=>match aB F a pe,aB F i pe with
  |some x,some y=>eG x y
  |_,_=>none
 |.slc a lo hi st,pe=>match aB F a pe,aB F lo pe,aB F hi pe,aB F st pe with
  |some x,some l,some h,some s=>match fS l,fS h,fS s with
   |some l,some h,some s=>eH x l h s
   |_,_,_=>none
  |_,_,_,_=>none
 |.list es,pe=>(cL F es pe).map .lst
 |.tup es,pe=>(cL F es pe).map .tup
 |.comp Hd tg src iN c,pe=>match gZ F src pe with
  |some À=>(dK (aB F c) (aB F Hd) iN tg pe À).map .lst
  |none=>none
 |.call f es,pe=>match cL F es pe with
  |some l=>F f l
  |none=>none
 |.bi f es,pe=>match cL F es pe with
  |some l=>Ē f l
  |none=>none
 |.me f o es,pe=>match aB F o pe,cL F es pe with
  |some x,some l=>ś f x l
  |_,_=>none
def cL (F:Fn):Į->Å->Option (List PV)
 |.nil,_=>some []
 |.cons e es,pe=>match aB F e pe,cL F es pe with
  |some x,some l=>some (x::l)
  |_,_=>none
def gZ (F:Fn):PI->Å->Option (List PV)
 |.val e,pe=>match aB F e pe with
  |some p=>pP p
  |none=>none
 |.rng1 e,pe=>match aB F e pe with
  |some (.int n)=>mO 0 n
  |_=>none
 |.rng2 e f,pe=>match aB F e pe,aB F f pe with
  |some (.int a),some (.int b)=>mO a b
  |_,_=>none
 |.rng3 e f,pe=>match aB F e pe,aB F f pe with
  |some (.int a),some (.int b)=>uW a b
  |_,_=>none
end
def eR (body:Å->Option (Å×Fl)) (tg:List Nat):List PV->Å->Option (Å×Fl)
 |[],pe=>some (pe,.next)
 |p::l,pe=>match gQ tg p pe with
  |none=>none
  |some Ht=>match body Ht with
   |some (Gi,.next)=>eR body tg l Gi
   |some (Gi,.brk)=>some (Gi,.next)
   |some (Gi,.ret v)=>some (Gi,.ret v)
   |none=>none
theorem EE (h:gQ tg p pe=some Ht) (h1:body Ht=some x):eR body tg (p::l) pe=match (generalizing:=false) x with
   |(Gi,.next)=>eR body tg l Gi
   |(Gi,.brk)=>some (Gi,.next)
   |(Gi,.ret v)=>some (Gi,.ret v):= by
 show(match gQ tg p pe with
  |none=>none
  |some Ht=>match body Ht with
   |some (Gi,.next)=>eR body tg l Gi
   |some (Gi,.brk)=>some (Gi,.next)
   |some (Gi,.ret v)=>some (Gi,.ret v)
   |none=>none)=_
 rw[h];show(match body Ht with
   |some (Gi,.next)=>eR body tg l Gi
   |some (Gi,.brk)=>some (Gi,.next)
   |some (Gi,.ret v)=>some (Gi,.ret v)
   |none=>none)=_
 rw[h1];obtain⟨a,b⟩:=x;cases b<;>rfl
noncomputable def gG (t:Å->Option PV) (body:Å->Option (Å×Fl)):Nat->Å->Option (Å×Fl)
 |0,_=>none
 |n+1,pe=>match t pe with
  |some (.bool false)=>some (pe,.next)
  |some (.bool true)=>match body pe with
   |some (Gi,.next)=>gG t body n Gi
   |some (Gi,.brk)=>some (Gi,.next)
   |some (Gi,.ret v)=>some (Gi,.ret v)
   |none=>none
  |_=>none
noncomputable def f0:Nat->Bool->List Nat->List PV
 |k,true,[]=>[.tup [.int ((k:Int)-1),.str ⟨#[92]⟩]]
 |_,false,[]=>[]
 |k,true,c::l=>.tup [.int k,.str ⟨#[92,c]⟩]::f0 (k+1) false l
 |k,false,c::l=>if c=92 then f0 (k+1) true l else .tup [.int k,.str ⟨#[c]⟩]::f0 (k+1) false l
theorem EF:f0 k true []=[.tup [.int ((k:Int)-1),.str ⟨#[92]⟩]]:=rfl
theorem EG:f0 k false []=[]:=rfl
theorem EH:f0 k true (c::l)=.tup [.int k,.str ⟨#[92,c]⟩]::f0 (k+1) false l:=rfl
theorem EI:f0 k false (c::l)=if c=92 then f0 (k+1) true l else .tup [.int k,.str ⟨#[c]⟩]::f0 (k+1) false l:=rfl
def f6:PV->Option (List PV)
 |.str x=>if x.length<=10000/\x.cps.all (·<128) then some (f0 0 false x.cps.toList) else none
 |_=>none
noncomputable def zX:ic->PV->PV->Option PV
 |.Add,.int x,.int y=>some (.int (x+y))
 |.Sub,.int x,.int y=>some (.int (x-y))
 |.Add,.str x,.str y=>if x.length+y.length<=100000 then some (.str (x++y)) else none
 |_,_,_=>none
mutual
def dY (F:Fn):PS->Å->Option (Å×Fl)
 |.asg i e,pe=>match aB F e pe with
  |some p=>some (st pe i p,.next)
  |none=>none
 |.asgO i e,pe=>match aB F e pe with
  |some (.lst l)=>some (st pe i (.lst l),.next)
  |_=>none
 |.newD i,pe=>some (st pe i (.dcti []),.next)
 |.asgT ts e,pe=>match aB F e pe with
  |some p=>match gQ ts p pe with
   |some pe'=>some (pe',.next)
   |none=>none
  |none=>none
 |.aug i op e,pe=>match lk pe i,aB F e pe with
  |some x,some y=>match zX op x y with
   |some z=>some (st pe i z,.next)
   |none=>none
  |_,_=>none
 |.app i e,pe=>match lk pe i,aB F e pe with
  |some (.lst x),some y=>if x.length<=100000 then some (st pe i (.lst (x++[y])),.next) else none
  |_,_=>none
 |.pop j i,pe=>match lk pe i with
  |some (.lst x)=>match x.getLast? with
   |some y=>if x.length<=100000 then some (st (st pe i (.lst x.dropLast)) j y,.next) else none
   |none=>none
  |_=>none
 |.setI i k v,pe=>match lk pe i,aB F k pe,aB F v pe with
  |some (.dcti l),some (.int k),some (.str v)=>
   if (l.lookup k).isSome||decide (l.length>10000) then none else some (st pe i (.dcti (l++[(k,.t v)])),.next)
  |_,_,_=>none
 |.ite t a b,pe=>match aB F t pe with
  |some (.bool true)=>aF F a pe
  |some (.bool false)=>aF F b pe
  |_=>none
 |.for ts src body,pe=>match gZ F src pe with
  |some À=>eR (aF F body) ts À pe
  |none=>none
 |.esc ts e body,pe=>match aB F e pe with
  |some p=>match f6 p with
   |some À=>eR (aF F body) ts À pe
   |none=>none
  |none=>none
 |.while n t body,pe=>gG (aB F t) (aF F body) n pe
 |.ret e,pe=>match aB F e pe with
  |some p=>some (pe,.ret p)
  |none=>none
 |.brk,pe=>some (pe,.brk)
def aF (F:Fn):ě->Å->Option (Å×Fl)
 |.nil,pe=>some (pe,.next)
 |.cons s ss,pe=>match dY F s pe with
  |some (pe',.next)=>aF F ss pe'
  |r=>r
end
theorem bR{α:Type}{m n:Nat}{f:m=n->Option α}{x:α}(h:(if h:m=n then f h else none)=some x):∃c,f c=some x:= by
 by_cases c:m=n
 ·rw[dif_pos c] at h;exact⟨c,h⟩
 ·rw[dif_neg c] at h;exact nn h
theorem aE{α:Type}{o:Option α}{f:α->Bool}(h:o.any f=true):∃x,o=some x/\f x=true:= by
 cases o with
 |none=>exact nf h
 |some x=>exact(Õ x rfl h)
noncomputable def lz0{α:Type}(l:List α):Bool:=l.isEmpty
theorem dR{α:Type}{l:List α}(h:lz0 l=true):l=[]:=by cases l with|nil=>rfl|cons=>exact nf h
noncomputable def İ{α:Type}(l:List α):Option α:=match l with
 |[]=>none
 |a::l=>if l.isEmpty then some a else none
theorem dZ{α:Type}{l:List α}{a:α}(h:İ l=some a):l=[a]:= by
 cases l with
 |nil=>exact nn h
 |cons b l=>exact O (dR (aZ h).1) (O (sm (aZ h).2) rfl)
def lz2{α:Type}(l:List α):Option (α×α):=match l with
 |[]=>none
 |a::l=>(İ l).map λb=>(a,b)
theorem kR{α:Type}{l:List α}{x:α×α}(h:lz2 l=some x):l=[x.1,x.2]:= by
 cases l with
 |nil=>exact nn h
 |cons b l=>apply jQ (bk.mp h);intro c h1;exact O (dZ h1) rfl
def lz3{α:Type}(l:List α):Option (α×α×α):=match l with
 |[]=>none
 |a::l=>(lz2 l).map λb=>(a,b)
theorem SJ{α:Type}{l:List α}{x:α×α×α}(h:lz3 l=some x):l=[x.1,x.2.1,x.2.2]:= by
 cases l with
 |nil=>exact nn h
 |cons b l=>apply jQ (bk.mp h);intro c h1;exact O (kR h1) rfl
noncomputable def EJ (e:ar):Option (Dg):=if h:e.ctorIdx=19 then rn (motive_1:=λ_=>Option (Dg)) e h (λk _ _=>some k) else none
theorem uZ{e:ar}{x:Dg}(h:EJ e=some x):∃n' p',e=.Constant x n' p':= by
 obtain⟨c,h⟩:=bR h;exact rn (motive_1:=λe=>∀c,rn (motive_1:=λ_=>Option (Dg)) e c (λk _ _=>some k)=some x->∃n' p',e=.Constant x n' p') e c (λ_ _ _ c h=>by cases sm h;exact(ŭ _ _ rfl)) c h
noncomputable def nV (e:ar):Option (Str):=if h:e.ctorIdx=23 then wh (motive_1:=λ_=>Option (Str)) e h (λx1 _=>some x1) else none
theorem gR{e:ar}{x:Str}(h:nV e=some x):∃p',e=.Name x p':= by
 obtain⟨c,h⟩:=bR h;exact wh (motive_1:=λe=>∀c,wh (motive_1:=λ_=>Option (Str)) e c (λx1 _=>some x1)=some x->∃p',e=.Name x p') e c (λ_ _ c h=>by cases sm h;exact⟨_,rfl⟩) c h
noncomputable def ZJ (e:ar):Option (ar×ic×ar):=if h:e.ctorIdx=2 then vm (motive_1:=λ_=>Option (ar×ic×ar)) e h (λl o r _=>some (l,o,r)) else none
theorem MM{e:ar}{x:ar×ic×ar}(h:ZJ e=some x):∃p',e=.BinOp x.1 x.2.1 x.2.2 p':= by
 obtain⟨c,h⟩:=bR h;exact vm (motive_1:=λe=>∀c,vm (motive_1:=λ_=>Option (ar×ic×ar)) e c (λl o r _=>some (l,o,r))=some x->∃p',e=.BinOp x.1 x.2.1 x.2.2 p') e c (λ_ _ _ _ c h=>by cases sm h;exact⟨_,rfl⟩) c h
noncomputable def vUn (e:ar):Option (zf×ar):=if h:e.ctorIdx=3 then so (motive_1:=λ_=>Option (zf×ar)) e h (λo a _=>some (o,a)) else none
theorem zY{e:ar}{x:zf×ar}(h:vUn e=some x):∃p',e=.UnaryOp x.1 x.2 p':= by
 obtain⟨c,h⟩:=bR h;exact so (motive_1:=λe=>∀c,so (motive_1:=λ_=>Option (zf×ar)) e c (λo a _=>some (o,a))=some x->∃p',e=.UnaryOp x.1 x.2 p') e c (λ_ _ _ c h=>by cases sm h;exact⟨_,rfl⟩) c h
noncomputable def MN (e:ar):Option (Cc×List ar):=if h:e.ctorIdx=0 then tu (motive_1:=λ_=>Option (Cc×List ar)) e h (λo l _=>some (o,l)) else none
theorem yA{e:ar}{x:Cc×List ar}(h:MN e=some x):∃p',e=.BoolOp x.1 x.2 p':= by
 obtain⟨c,h⟩:=bR h;exact tu (motive_1:=λe=>∀c,tu (motive_1:=λ_=>Option (Cc×List ar)) e c (λo l _=>some (o,l))=some x->∃p',e=.BoolOp x.1 x.2 p') e c (λ_ _ _ c h=>by cases sm h;exact⟨_,rfl⟩) c h
noncomputable def vIf (e:ar):Option (ar×ar×ar):=if h:e.ctorIdx=5 then vn (motive_1:=λ_=>Option (ar×ar×ar)) e h (λc1 a b _=>some (c1,a,b)) else none
theorem SK{e:ar}{x:ar×ar×ar}(h:vIf e=some x):∃p',e=.IfExp x.1 x.2.1 x.2.2 p':= by
 obtain⟨c,h⟩:=bR h;exact vn (motive_1:=λe=>∀c,vn (motive_1:=λ_=>Option (ar×ar×ar)) e c (λc1 a b _=>some (c1,a,b))=some x->∃p',e=.IfExp x.1 x.2.1 x.2.2 p') e c (λ_ _ _ _ c h=>by cases sm h;exact⟨_,rfl⟩) c h
noncomputable def WV (e:ar):Option (ar×List Df×List ar):=if h:e.ctorIdx=15 then sr (motive_1:=λ_=>Option (ar×List Df×List ar)) e h (λl o r _=>some (l,o,r)) else none
theorem B5{e:ar}{x:ar×List Df×List ar}(h:WV e=some x):∃p',e=.Compare x.1 x.2.1 x.2.2 p':= by
 obtain⟨c,h⟩:=bR h;exact sr (motive_1:=λe=>∀c,sr (motive_1:=λ_=>Option (ar×List Df×List ar)) e c (λl o r _=>some (l,o,r))=some x->∃p',e=.Compare x.1 x.2.1 x.2.2 p') e c (λ_ _ _ _ c h=>by cases sm h;exact⟨_,rfl⟩) c h
noncomputable def SL (e:ar):Option (ar×ar):=if h:e.ctorIdx=21 then qu (motive_1:=λ_=>Option (ar×ar)) e h (λa i _=>some (a,i)) else none
theorem u4{e:ar}{x:ar×ar}(h:SL e=some x):∃p',e=.Subscript x.1 x.2 p':= by
 obtain⟨c,h⟩:=bR h;exact qu (motive_1:=λe=>∀c,qu (motive_1:=λ_=>Option (ar×ar)) e c (λa i _=>some (a,i))=some x->∃p',e=.Subscript x.1 x.2 p') e c (λ_ _ _ c h=>by cases sm h;exact⟨_,rfl⟩) c h
noncomputable def MO (e:ar):Option (Option ar×Option ar×Option ar):=if h:e.ctorIdx=26 then vo (motive_1:=λ_=>Option (Option ar×Option ar×Option ar)) e h (λl u s _=>some (l,u,s)) else none
theorem EK{e:ar}{x:Option ar×Option ar×Option ar}(h:MO e=some x):∃p',e=.Slice x.1 x.2.1 x.2.2 p':= by
 obtain⟨c,h⟩:=bR h;exact vo (motive_1:=λe=>∀c,vo (motive_1:=λ_=>Option (Option ar×Option ar×Option ar)) e c (λl u s _=>some (l,u,s))=some x->∃p',e=.Slice x.1 x.2.1 x.2.2 p') e c (λ_ _ _ _ c h=>by cases sm h;exact⟨_,rfl⟩) c h
noncomputable def VR (e:ar):Option (List ar):=if h:e.ctorIdx=24 then wi (motive_1:=λ_=>Option (List ar)) e h (λl _=>some l) else none
theorem I2{e:ar}{x:List ar}(h:VR e=some x):∃p',e=.List x p':= by
 obtain⟨c,h⟩:=bR h;exact wi (motive_1:=λe=>∀c,wi (motive_1:=λ_=>Option (List ar)) e c (λl _=>some l)=some x->∃p',e=.List x p') e c (λ_ _ c h=>by cases sm h;exact⟨_,rfl⟩) c h
noncomputable def I3 (e:ar):Option (List ar):=if h:e.ctorIdx=25 then oe (motive_1:=λ_=>Option (List ar)) e h (λl _ _=>some l) else none
theorem u5{e:ar}{x:List ar}(h:I3 e=some x):∃k' p',e=.Tuple x k' p':= by
 obtain⟨c,h⟩:=bR h;exact oe (motive_1:=λe=>∀c,oe (motive_1:=λ_=>Option (List ar)) e c (λl _ _=>some l)=some x->∃k' p',e=.Tuple x k' p') e c (λ_ _ _ c h=>by cases sm h;exact(ŭ _ _ rfl)) c h
noncomputable def VS (e:ar):Option (List (Option ar)×List ar):=if h:e.ctorIdx=6 then wj (motive_1:=λ_=>Option (List (Option ar)×List ar)) e h (λk v _=>some (k,v)) else none
theorem I4{e:ar}{x:List (Option ar)×List ar}(h:VS e=some x):∃p',e=.Dict x.1 x.2 p':= by
 obtain⟨c,h⟩:=bR h;exact wj (motive_1:=λe=>∀c,wj (motive_1:=λ_=>Option (List (Option ar)×List ar)) e c (λk v _=>some (k,v))=some x->∃p',e=.Dict x.1 x.2 p') e c (λ_ _ _ c h=>by cases sm h;exact⟨_,rfl⟩) c h
noncomputable def VT (e:ar):Option (ar×List qe×ja):=if h:e.ctorIdx=8 then oh (motive_1:=λ_=>Option (ar×List qe×ja)) e h (λa g s _=>some (a,g,s)) else none
theorem I5{e:ar}{x:ar×List qe×ja}(h:VT e=some x):∃p',e=.ListComp x.1 x.2.1 x.2.2 p':= by
 obtain⟨c,h⟩:=bR h;exact oh (motive_1:=λe=>∀c,oh (motive_1:=λ_=>Option (ar×List qe×ja)) e c (λa g s _=>some (a,g,s))=some x->∃p',e=.ListComp x.1 x.2.1 x.2.2 p') e c (λ_ _ _ _ c h=>by cases sm h;exact⟨_,rfl⟩) c h
noncomputable def nW (e:ar):Option (ar×List ar×List uw×Pos):=if h:e.ctorIdx=16 then wk (motive_1:=λ_=>Option (ar×List ar×List uw×Pos)) e h (λg a k p=>some (g,a,k,p)) else none
theorem fM{e:ar}{x:ar×List ar×List uw×Pos}(h:nW e=some x):e=.Call x.1 x.2.1 x.2.2.1 x.2.2.2:= by
 obtain⟨c,h⟩:=bR h;exact wk (motive_1:=λe=>∀c,wk (motive_1:=λ_=>Option (ar×List ar×List uw×Pos)) e c (λg a k p=>some (g,a,k,p))=some x->e=.Call x.1 x.2.1 x.2.2.1 x.2.2.2) e c (λ_ _ _ _ c h=>by cases sm h;rfl) c h
noncomputable def MP (e:ar):Option (ar×Str×Pos):=if h:e.ctorIdx=20 then qv (motive_1:=λ_=>Option (ar×Str×Pos)) e h (λa n p=>some (a,n,p)) else none
theorem yB{e:ar}{x:ar×Str×Pos}(h:MP e=some x):e=.Attribute x.1 x.2.1 x.2.2:= by
 obtain⟨c,h⟩:=bR h;exact qv (motive_1:=λe=>∀c,qv (motive_1:=λ_=>Option (ar×Str×Pos)) e c (λa n p=>some (a,n,p))=some x->e=.Attribute x.1 x.2.1 x.2.2) e c (λ_ _ _ c h=>by cases sm h;rfl) c h
noncomputable def EL (o:zf):Bool:=o.ctorIdx==zf.USub.ctorIdx
noncomputable def VU (o:zf):Bool:=o.ctorIdx==zf.Not.ctorIdx
noncomputable def VV (o:Cc):Bool:=o.ctorIdx==Cc.And.ctorIdx
noncomputable def ZK (o:Cc):Bool:=o.ctorIdx==Cc.Or.ctorIdx
theorem u6 (h:EL o=true):o=.USub:=by cases o<;>first|rfl|exact nf h
theorem I6 (h:VU o=true):o=.Not:=by cases o<;>first|rfl|exact nf h
theorem I7 (h:VV o=true):o=.And:=by cases o<;>first|rfl|exact nf h
theorem MQ (h:ZK o=true):o=.Or:=by cases o<;>first|rfl|exact nf h
noncomputable def zZ:Dg->Option PV
 |.none=>some .none
 |.bool a=>some (.bool a)
 |.int a=>some (.int a)
 |.float a=>some (.flt a)
 |.str a=>some (.str a)
 |_=>none
noncomputable def WW (p q:PV):Bool:=match p with
 |.none=>q.ctorIdx==PV.none.ctorIdx
 |.bool a=>(match q with|.bool b=>a==b|_=>false)
 |.int a=>(match q with|.int b=>a==b|_=>false)
 |.flt a=>(match q with|.flt b=>a==b|_=>false)
 |.str a=>(match q with|.str b=>a==b|_=>false)
 |_=>false
theorem GY (h:WW p q=true):p=q:= by
 cases p<;>try (exact nf h)
 all_goals (cases q<;>first|rfl|exact nf h|exact congrArg _ (am h))
def SM (k:Dg) (p:PV):Bool:=(zZ k).any λq=>WW q p
def ZL (p q:PV):Bool:=match p with
 |.dcts a=>(match q with|.dcts b=>a==b|_=>false)
 |p=>WW p q
theorem SN (h:ZL p q=true):p=q:= by
 cases p<;>try (exact GY h)
 cases q<;>first|exact nf h|exact congrArg _ (am h)
def aAW (e:ar) (x:Str):Bool:=(nV e).any λy=>y==x
noncomputable def d8 (x:Str):Bool:=!(x==("__debug__":Str))&&!(x==("__classdict__":Str))
def iB (cx:Cx) (names:List (Str×ln)) (x:Str) (i:Nat):Cx:=
 {vars:=(x,i)::names.filterMap λ(n,k)=>if k==.free then(cx.vars.lookup n).map λj=>(n,j) else none
  kinds:=names,own:=cx.own,tk:=[],top:=cx.top}
noncomputable def eB{α:Type}[BEq α]:List α->Bool
 |[]=>true
 |a::l=>!l.contains a&&eB l
theorem lR{α:Type}[BEq α] {a:α}{l:List α}:eB (a::l)=(!l.contains a&&eB l):=rfl
def WX (b:Bi):G->Bool
 |.bi c=>b==c
 |_=>false
noncomputable def SO (f:Nat):G->Bool
 |.fn g=>f==g
 |_=>false
noncomputable def sV:G->Bool
 |.rng=>true
 |_=>false
noncomputable def z4:G->Bool
 |.enum=>true
 |_=>false
noncomputable def EM:G->Bool
 |.gen=>true
 |_=>false
def VW (p:PV):G->Bool
 |.cst q=>ZL q p
 |_=>false
noncomputable def dA (e:ar):Bool:=!(e.ctorIdx==22)
def u7 (e:ar):Bool:=match nW e with
 |none=>true
 |some x=>!(x.2.1.isEmpty&&x.2.2.1.isEmpty)
noncomputable def i7 (p:PE):Bool:=if h:p.ctorIdx=0 then PE.cst.elim (motive_1:=λ_=>Bool) p h (λc=>c.ctorIdx==PV.none.ctorIdx) else false
theorem B6 (h:i7 p=true):p=.cst .none:= by
 unfold i7 at h
 by_cases c:p.ctorIdx=0
 ·rw[dif_pos c] at h;exact PE.cst.elim (motive_1:=λp=>∀c,PE.cst.elim (motive_1:=λ_=>Bool) p c (λc=>c.ctorIdx==PV.none.ctorIdx)=true->p=.cst .none) p c (λq c h=>congrArg PE.cst (by cases q<;>first|rfl|exact nf h)) c h
 ·rw[dif_neg c] at h;exact nf h
section
def iT (cx:Cx) (e:ar) (f:G->Bool):Bool:=(nV e).any λx=>cx.kinds.lookup x==some .globalImplicit&&(d8 x&&(GL.lookup x).any f)
def pQ (cx:Cx) (sc:ja) (x:Str) (i:Nat):Bool:=
 sc.kind==.function&&!sc.isGenerator&&!sc.isCoroutine&&eB (sc.names.map (·.1))&&
 (sc.names.lookup x==some .local||sc.names.lookup x==some .cell)&&
 (sc.names.all λnk=>(nk.2==.local&&(nk.1==x||nk.1==(".0":Str)))||(nk.2==.cell&&nk.1==x)||nk.2==.globalImplicit||(nk.2==.free&&(cx.vars.lookup nk.1).isSome&&!(cx.vars.lookup nk.1==some i)&&(cx.kinds.lookup nk.1==some .cell||cx.kinds.lookup nk.1==some .free)))&&
 !cx.own.contains i
def aBA (f:ar->PE->Bool) (o:Option ar) (p:PE):Bool:=match o with
 |none=>i7 p
 |some e=>f e p
noncomputable def meN (f:Me):Str:=match f with|.join=>("join":Str)|.count=>("count":Str)|.index=>("index":Str)
noncomputable def aBB (k:Dg):Option Str:=if h:k.ctorIdx=5 then Gc (motive:=λ_=>Option Str) k h some else none
def MR (e:ar):Bool:=(EJ e).any λk=>k.ctorIdx==2&&(if h:k.ctorIdx=2 then wl (motive:=λ_=>Bool) k h (λn=>n==1) else false)
theorem EN (h:MR e=true):∃n p,e=.Constant (.int 1) n p:= by
 refine É (aE h) λk h1 h=>?_;apply LN (uZ h1);intro n p;have h:=(aC h).2
 by_cases c:k.ctorIdx=2
 ·rw[dif_pos c] at h;exact(ŭ n p (congrArg (λk=>ar.Constant k n p) (wl (motive:=λk=>∀c,wl (motive:=λ_=>Bool) k c (λn=>n==1)=true->k=.int 1) k c (λn c h=>congrArg _ (am h)) c h)))
 ·rw[dif_neg c] at h;exact nf h
mutual
def aN (cx:Cx) (b:Bool):ar->PE->Bool
 |e,.cst c=>(EJ e).any λk=>SM k c
 |e,.gcst c=>iT cx e (VW c)
 |e,.var i=>(nV e).any λx=>cx.vars.lookup x==some i&&(d8 x&&(b||!cx.own.contains i))
 |e,.bin op p q=>(ZJ e).any λx=>x.2.1==op&&(aN cx true x.1 p&&aN cx true x.2.2 q)
 |e,.neg p=>(vUn e).any λx=>EL x.1&&aN cx true x.2 p
 |e,.not p=>(vUn e).any λx=>VU x.1&&aN cx true x.2 p
 |e,.and p q=>(MN e).any λx=>VV x.1&&(lz2 x.2).any λy=>aN cx true y.1 p&&aN cx true y.2 q
 |e,.or p q=>(MN e).any λx=>ZK x.1&&(lz2 x.2).any λy=>aN cx true y.1 p&&aN cx true y.2 q
 |e,.ite t p q=>(vIf e).any λx=>aN cx true x.1 t&&(aN cx b x.2.1 p&&aN cx b x.2.2 q)
 |e,.cmp op p q=>(WV e).any λx=>(İ x.2.1).any λo=>(İ x.2.2).any λr=>o==op&&(aN cx true x.1 p&&aN cx true r q)
 |e,.cmp2 op Je p q r=>(WV e).any λx=>(lz2 x.2.1).any λo=>(lz2 x.2.2).any λm=>o.1==op&&(o.2==Je&&(aN cx true x.1 p&&(aN cx true m.1 q&&aN cx true m.2 r)))
 |e,.sub p q=>(SL e).any λx=>aN cx true x.1 p&&aN cx true x.2 q
 |e,.slc p lo hi st=>(SL e).any λx=>(MO x.2).any λy=>aN cx true x.1 p&&(
   (match y.1 with|none=>i7 lo|some e=>aN cx true e lo)&&((match y.2.1 with|none=>i7 hi|some e=>aN cx true e hi)&&(match y.2.2 with|none=>i7 st|some e=>aN cx true e st)))
 |e,.list es=>(VR e).any λxs=>f7 cx false xs es&&decide (xs.length<=100)
 |e,.tup es=>(I3 e).any λxs=>f7 cx false xs es&&decide (xs.length<=100)
 |e,.comp Hd tg src iN c=>(VT e).any λx=>(İ x.2.1).any λg=>(nV g.target).any λy=>
   g.is_async==0&&(tG cx g.iter src&&(pQ cx x.2.2 y tg&&(aN (iB cx x.2.2.names y tg) false x.1 Hd&&(match g.ifs with
    |[]=>!iN
    |t::ts=>ts.isEmpty&&(iN&&aN (iB cx x.2.2.names y tg) true t c)))))
 |e,.call f es=>(nW e).any λx=>iT cx x.1 (SO f)&&(x.2.2.1.isEmpty&&(f7 cx false x.2.1 es&&decide (0<x.2.1.length/\x.2.1.length<=20)))
 |e,.bi f es=>(nW e).any λx=>iT cx x.1 (WX f)&&(x.2.2.1.isEmpty&&(f7 cx true x.2.1 es&&decide (0<x.2.1.length/\x.2.1.length<=20)))
 |e,.me f o es=>(nW e).any λx=>(MP x.1).any λy=>y.2.1==meN f&&(x.2.2.1.isEmpty&&(aN cx true y.1 o&&(f7 cx true x.2.1 es&&(decide (0<x.2.1.length/\x.2.1.length<=20)&&(y.2.2.endLine==x.2.2.2.line&&u7 y.1)))))
def f7 (cx:Cx) (b:Bool):List ar->Į->Bool
 |xs,.nil=>xs.isEmpty
 |xs,.cons p ps=>match xs with
  |x::xs=>dA x&&(aN cx b x p&&f7 cx b xs ps)
  |[]=>false
def tG (cx:Cx):ar->PI->Bool
 |e,.val p=>aN cx false e p
 |e,.rng1 p=>(nW e).any λx=>(İ x.2.1).any λa=>x.2.2.1.isEmpty&&(iT cx x.1 sV&&(aN cx true a p&&dA a))
 |e,.rng2 p q=>(nW e).any λx=>(lz2 x.2.1).any λa=>x.2.2.1.isEmpty&&(iT cx x.1 sV&&(aN cx true a.1 p&&(aN cx true a.2 q&&(dA a.1&&dA a.2))))
 |e,.rng3 p q=>(nW e).any λx=>(lz3 x.2.1).any λa=>(vUn a.2.2).any λu=>EL u.1&&(MR u.2&&(x.2.2.1.isEmpty&&(iT cx x.1 sV&&(aN cx true a.1 p&&(aN cx true a.2.1 q&&(dA a.1&&dA a.2.1))))))
end
end
mutual
noncomputable def nd:PE->Nat
 |.cst _|.gcst _|.var _=>0
 |.bin _ a b|.and a b|.or a b|.cmp _ a b|.sub a b=>max (nd a) (nd b)
 |.neg a|.not a=>nd a
 |.ite a b c|.cmp2 _ _ a b c=>max (nd a) (max (nd b) (nd c))
 |.slc a b c d=>max (max (nd a) (nd b)) (max (nd c) (nd d))
 |.list es|.tup es|.call _ es|.bi _ es=>ξ es
 |.me _ o es=>max (nd o) (ξ es)
 |.comp e _ src _ c=>max (ndi src) (max (nd e) (nd c))+3
noncomputable def ξ:Į->Nat
 |.nil=>0
 |.cons e es=>max (nd e) (ξ es)
noncomputable def ndi:PI->Nat
 |.val e|.rng1 e=>nd e
 |.rng2 e f|.rng3 e f=>max (nd e) (nd f)
end
section
variable{cx:Cx}{b:Bool}{e:ar}
theorem SR (h:aN cx b e (.cst c)=true):∃k n p,e=.Constant k n p/\zZ k=some c:= by
 replace h:=aE h
 refine É h λk h1 h=>?_;apply LN (uZ h1);intro n p
 replace h:=aE h
 refine É h λq h2 h=>?_;exact(jE k n p rfl (h2.trans (congrArg some (GY h))))
theorem SS (h:aN cx b e (.var i)=true):∃x p,e=.Name x p/\cx.vars.lookup x=some i/\d8 x=true/\(b||!cx.own.contains i)=true:= by
 replace h:=aE h
 refine É h λx h1 h=>?_;apply ä (gR h1);intro p;exact(cX x p rfl (am (aC h).1) ((aC (aC h).2).1) ((aC (aC h).2).2))
theorem SU (h:aN cx b e (.bin op p q)=true):∃l r k,e=.BinOp l op r k/\aN cx true l p=true/\aN cx true r q=true:= by
 replace h:=aE h
 refine É h λx h1 h=>?_;apply ä (MM h1);intro k;exact(jE _ _ k (congrArg (λo=>ar.BinOp x.1 o x.2.2 k) (am (aC h).1)) (aC (aC h).2))
theorem SW (h:aN cx b e (.neg p)=true):∃x k,e=.UnaryOp .USub x k/\aN cx true x p=true:= by
 replace h:=aE h
 refine É h λx h1 h=>?_;apply ä (zY h1);intro k;exact(mL _ k (congrArg (λo=>zh o x.2 k) (u6 (aC h).1)) ((aC h).2))
theorem GZ (h:aN cx b e (.not p)=true):∃x k,e=.UnaryOp .Not x k/\aN cx true x p=true:= by
 replace h:=aE h
 refine É h λx h1 h=>?_;apply ä (zY h1);intro k;exact(mL _ k (congrArg (λo=>zh o x.2 k) (I6 (aC h).1)) ((aC h).2))
theorem G0 (h:aN cx b e (.and p q)=true):∃x y k,e=.BoolOp .And [x,y] k/\aN cx true x p=true/\aN cx true y q=true:= by
 replace h:=aE h
 refine É h λx h1 h=>?_;apply ä (yA h1);intro k;refine É (aE (aC h).2) λy h2 h3=>?_;exact O (I7 (aC h).1) (O (kR h2) (jE _ _ k rfl (aC h3)))
theorem MS (h:aN cx b e (.or p q)=true):∃x y k,e=.BoolOp .Or [x,y] k/\aN cx true x p=true/\aN cx true y q=true:= by
 replace h:=aE h
 refine É h λx h1 h=>?_;apply ä (yA h1);intro k;refine É (aE (aC h).2) λy h2 h3=>?_;exact O (MQ (aC h).1) (O (kR h2) (jE _ _ k rfl (aC h3)))
theorem G1 (h:aN cx b e (.ite t p q)=true):∃c x y k,e=.IfExp c x y k/\aN cx true c t=true/\aN cx b x p=true/\aN cx b y q=true:= by
 replace h:=aE h
 refine É h λx h1 h=>?_;apply ä (SK h1);intro k;exact(i6 _ _ _ k rfl ((aC h).1) (aC (aC h).2))
theorem G2 (h:aN cx b e (.cmp op p q)=true):∃l r k,e=.Compare l [op] [r] k/\aN cx true l p=true/\aN cx true r q=true:= by
 replace h:=aE h
 refine É h λx h1 h=>?_;apply ä (B5 h1);intro k
 replace h:=aE h
 refine É h λo h2 h=>?_
 replace h:=aE h
 refine É h λr h3 h=>?_;exact O (dZ h2) (O (dZ h3) (O (am (aC h).1) (jE _ _ k rfl (aC (aC h).2))))
theorem B7 (h:aN cx b e (.cmp2 op Je p q r)=true):∃l m n k,e=.Compare l [op,Je] [m,n] k/\aN cx true l p=true/\aN cx true m q=true/\aN cx true n r=true:= by
 replace h:=aE h
 refine É h λx h1 h=>?_;apply ä (B5 h1);intro k
 replace h:=aE h
 refine É h λo h2 h=>?_
 replace h:=aE h
 refine É h λm h3 h=>?_;have h4:=aC (aC h).2;exact O (kR h2) (O (kR h3) (O (am (aC h).1) (O (am h4.1) (i6 _ _ _ k rfl ((aC h4.2).1) (aC (aC h4.2).2)))))
theorem SX (h:aN cx b e (.sub p q)=true):∃x i k,e=.Subscript x i k/\aN cx true x p=true/\aN cx true i q=true:= by
 replace h:=aE h
 refine É h λx h1 h=>?_;apply ä (u4 h1);intro k;exact(jE _ _ k rfl (aC h))
theorem SY{p lo hi st:PE}(h:aN cx b e (.slc p lo hi st)=true):∃x l u s k k',e=.Subscript x (.Slice l u s k) k'/\aN cx true x p=true/\
  (match l with|none=>i7 lo|some e=>aN cx true e lo)=true/\(match u with|none=>i7 hi|some e=>aN cx true e hi)=true/\(match s with|none=>i7 st|some e=>aN cx true e st)=true:= by
 replace h:=aE h
 refine É h λx h1 h=>?_;apply ä (u4 h1);intro k
 replace h:=aE h
 refine É h λy h2 h=>?_;refine xe (EK h2) λk' h2=>?_;refine O h2 ?_;have h3:=aC (aC h).2;exact(fX _ _ _ (dH _ _ _ rfl ((aC h).1) h3.1 (aC h3.2)))
theorem MT (h:aN cx b e (.list es)=true):∃xs k,e=.List xs k/\f7 cx false xs es=true/\xs.length<=100:= by
 replace h:=aE h
 refine É h λx h1 h=>?_;apply ä (I2 h1);intro k;exact(cC x k rfl ((aC h).1) (of_decide_eq_true (aC h).2))
theorem SZ (h:aN cx b e (.tup es)=true):∃xs n k,e=.Tuple xs n k/\f7 cx false xs es=true/\xs.length<=100:= by
 replace h:=aE h
 refine É h λx h1 h=>?_;apply LN (u5 h1);intro n k;exact(rU x n k rfl ((aC h).1) (of_decide_eq_true (aC h).2))
def rZ (cx:Cx) (ifs:List ar) (iN:Bool) (c:PE):Bool:=match ifs with
 |[]=>!iN
 |t::ts=>ts.isEmpty&&(iN&&aN cx true t c)
theorem EO (h:rZ cx ifs iN c=true):(ifs=[]/\iN=false)\/∃t,ifs=[t]/\iN=true/\aN cx true t c=true:= by
 cases ifs with
 |nil=>cases iN with
  |true=>exact nf h
  |false=>exact .inl ⟨rfl,rfl⟩
 |cons t ts=>
  have h1:=aC h;exact .inr (Õ t (congrArg _ (dR h1.1)) (aC h1.2))
theorem MU{g:qe}{x:Str}{p:Pos}(h:g.target=.Name x p) (h2:(g.is_async==0)=true):g=⟨.Name x p,g.iter,g.ifs,0⟩:= by
 cases g with|mk t i f a=>
 replace h:t=.Name x p:=h
 replace h2:a=0:=am h2
 subst h h2;rfl
theorem B8{Hd c:PE}{tg:Nat}{src:PI}{iN:Bool}(h:aN cx b e (.comp Hd tg src iN c)=true):∃el x px it ifs sc k,e=.ListComp el [⟨.Name x px,it,ifs,0⟩] sc k/\tG cx it src=true/\pQ cx sc x tg=true/\
  aN (iB cx sc.names x tg) false el Hd=true/\rZ (iB cx sc.names x tg) ifs iN c=true:= by
 replace h:=aE h
 refine É h λx h1 h=>?_;apply ä (I5 h1);intro k
 replace h:=aE h
 refine É h λg h2 h=>?_
 replace h:=aE h
 refine É h λy h3 h=>?_;refine xe (gR h3) λp h3=>?_;refine O (dZ h2) (O (MU h3 (aC h).1) ?_);have h4:=aC (aC h).2;have h5:=aC h4.2;exact(fX _ _ _ (i6 _ _ _ _ rfl h4.1 ⟨h5.1,(aC h5.2)⟩))
theorem lS (h:(ks.isEmpty&&(c&&d))=true):tw g xs ks p=.Call g xs [] p/\c=true/\d=true:=
 ⟨congrArg (λk=>tw g xs k p) (dR (aC h).1),aC (aC h).2⟩
theorem MV (h:aN cx b e (.call f es)=true):∃g xs k,e=.Call g xs [] k/\iT cx g (SO f)=true/\f7 cx false xs es=true/\0<xs.length/\xs.length<=20:= by
 refine zS λG hG=>?_
 replace h:=aE h
 refine É h λx h1 h=>?_;have h2:=lS (g:=x.1) (xs:=x.2.1) (p:=x.2.2.2) (aC h).2;exact hG (dH _ _ _ ((fM h1).trans h2.1) ((aC h).1) h2.2.1 (of_decide_eq_true h2.2.2))
theorem WY (h:aN cx b e (.bi f es)=true):∃g xs k,e=.Call g xs [] k/\iT cx g (WX f)=true/\f7 cx true xs es=true/\0<xs.length/\xs.length<=20:= by
 refine zS λG hG=>?_
 replace h:=aE h
 refine É h λx h1 h=>?_;have h2:=lS (g:=x.1) (xs:=x.2.1) (p:=x.2.2.2) (aC h).2;exact hG (dH _ _ _ ((fM h1).trans h2.1) ((aC h).1) h2.2.1 (of_decide_eq_true h2.2.2))
theorem WZ (h:aN cx b e (.me f o es)=true):∃x ap xs k,e=.Call (.Attribute x (meN f) ap) xs [] k/\aN cx true x o=true/\f7 cx true xs es=true/\(0<xs.length/\xs.length<=20)/\(ap.endLine==k.line)=true/\u7 x=true:= by
 refine zS λG hG=>?_
 replace h:=aE h
 refine É h λx h1 h=>?_
 replace h:=aE h
 refine É h λy h2 h=>?_;have h3:=aC h;have h4:=lS (g:=x.1) (xs:=x.2.1) (p:=x.2.2.2) h3.2;have h5:=aC h4.2.2;have h6:=aC h5.2;have e1:=yB h2;rw[am h3.1] at e1;exact hG (cP _ _ _ _ ((fM h1).trans (h4.1.trans (congrArg (λg=>tw g x.2.1 [] x.2.2.2) e1))) h4.2.1 h5.1 (of_decide_eq_true h6.1) (aC h6.2))
theorem r0 (h:f7 cx b xs (.cons p ps)=true):∃x us,xs=x::us/\dA x=true/\aN cx b x p=true/\f7 cx b us ps=true:= by
 cases xs with
 |nil=>exact nf h
 |cons x us=>exact(cC x us rfl ((aC h).1) (aC (aC h).2))
theorem u8 (h:f7 cx b xs .nil=true):xs=[]:=dR h
theorem MW (h:tG cx e (.rng1 p)=true):∃g x k,e=.Call g [x] [] k/\iT cx g sV=true/\aN cx true x p=true/\dA x=true:= by
 refine zS λG hG=>?_
 replace h:=aE h
 refine É h λx h1 h=>?_
 replace h:=aE h
 refine É h λa h2 h=>?_;have h3:=lS (g:=x.1) (xs:=x.2.1) (p:=x.2.2.2) h;exact hG (rU _ a _ ((fM h1).trans (h3.1.trans (congrArg (λl=>tw x.1 l [] x.2.2.2) (dZ h2)))) h3.2.1 (aC h3.2.2))
theorem MX (h:tG cx e (.rng2 p q)=true):∃g x y k,e=.Call g [x,y] [] k/\iT cx g sV=true/\aN cx true x p=true/\aN cx true y q=true/\dA x=true/\dA y=true:= by
 refine zS λG hG=>?_
 replace h:=aE h
 refine É h λx h1 h=>?_
 replace h:=aE h
 refine É h λa h2 h=>?_;have h3:=lS (g:=x.1) (xs:=x.2.1) (p:=x.2.2.2) h;have h4:=aC h3.2.2;exact hG (cP _ _ _ _ ((fM h1).trans (h3.1.trans (congrArg (λl=>tw x.1 l [] x.2.2.2) (kR h2)))) h3.2.1 h4.1 ((aC h4.2).1) (aC (aC h4.2).2))
theorem MY (h:tG cx e (.rng3 p q)=true):∃g x y n p1 p2 k,e=.Call g [x,y,.UnaryOp .USub (.Constant (.int 1) n p1) p2] [] k/\iT cx g sV=true/\aN cx true x p=true/\aN cx true y q=true/\dA x=true/\dA y=true:= by
 refine zS λG hG=>?_
 replace h:=aE h
 refine É h λx h1 h=>?_
 replace h:=aE h
 refine É h λa h2 h=>?_
 replace h:=aE h
 refine É h λu h3 h=>?_;have q1:=aC h;have q2:=aC q1.2;have h4:=lS (g:=x.1) (xs:=x.2.1) (p:=x.2.2.2) q2.2;have h5:=aC h4.2.2;have e2:=SJ h2;refine xe (zY h3) λp2 e3=>?_;refine ň (EN q2.1) λn p1 e5=>?_;rw[u6 q1.1,e5] at e3;rw[e3] at e2;exact hG (fX _ _ _ (cP n p1 p2 _ ((fM h1).trans (h4.1.trans (congrArg (λl=>tw x.1 l [] x.2.2.2) e2))) h4.2.1 h5.1 ((aC h5.2).1) (aC (aC h5.2).2)))
end
section
variable{α β γ:Type}
set_option tactic.hygienic true in
theorem VX{o:Option PV}{f g:Option α}{r:α}(h:(match o with|some (.bool true)=>f|some (.bool false)=>g|_=>none)=some r):(o=some (.bool true)/\f=some r)\/(o=some (.bool false)/\g=some r):= by
 cases o with
 |none=>exact nn h
 |some p=>
  cases p<;>try (exact nn h)
  rename_i b;cases b with
  |true=>exact .inl ⟨rfl,h⟩
  |false=>exact .inr ⟨rfl,h⟩
theorem EP{o:Option PV}{f:Bool->Option α}{r:α}(h:(match o with|some (.bool x)=>f x|_=>none)=some r):∃x,o=some (.bool x)/\f x=some r:= by
 cases o with
 |none=>exact nn h
 |some p=>
  cases p<;>try (exact nn h)
  exact(Õ _ rfl h)
theorem MZ{o:Option PV}{f:Int->Option α}{r:α}(h:(match o with|some (.int x)=>f x|_=>none)=some r):∃x,o=some (.int x)/\f x=some r:= by
 cases o with
 |none=>exact nn h
 |some p=>
  cases p<;>try (exact nn h)
  exact(Õ _ rfl h)
end
section
variable{F:Fn}{pe:Å}{a c d:PE}{r:PV}
theorem S0 (h:aB F (.bin op a c) pe=some r):∃x y,aB F a pe=some x/\aB F c pe=some y/\fD op x y=some r:= by
 have h:(match aB F a pe,aB F c pe with|some x,some y=>fD op x y|_,_=>none)=some r:=h;revert h;cases aB F a pe with
 |none=>exact nn
 |some x=>cases aB F c pe with
  |none=>exact nn
  |some y=>exact λh=>(cC x y rfl rfl h)
theorem S1 (h:aB F (.neg a) pe=some r):∃x,aB F a pe=some (.int x)/\r=.int (-x):= by
 refine É (MZ h) λx h1 h2=>?_;exact(Õ x h1 ((sm h2).symm))
theorem G3 (h:aB F (.not a) pe=some r):∃x,aB F a pe=some (.bool x)/\r=.bool (!x):= by
 refine É (EP h) λx h1 h2=>?_;exact(Õ x h1 ((sm h2).symm))
theorem G4 (h:aB F (.and a c) pe=some r):(aB F a pe=some (.bool true)/\∃x,aB F c pe=some (.bool x)/\r=.bool x)\/(aB F a pe=some (.bool false)/\r=.bool false):= by
 rcases VX h with⟨h1,h2⟩|⟨h1,h2⟩
 ·refine É (EP h2) λx h3 h4=>?_;exact .inl (rT h1 x h3 ((sm h4).symm))
 ·exact .inr ⟨h1,(sm h2).symm⟩
set_option tactic.hygienic true in
theorem M0 (h:aB F (.or a c) pe=some r):(aB F a pe=some (.bool true)/\r=.bool true)\/(aB F a pe=some (.bool false)/\∃x,aB F c pe=some (.bool x)/\r=.bool x):= by
 have h:(match aB F a pe with|some (.bool false)=>(match aB F c pe with|some (.bool x)=>some (.bool x)|_=>none)|some (.bool true)=>some (PV.bool true)|_=>none)=some r:=h;revert h;cases aB F a pe with
 |none=>exact nn
 |some p=>
  cases p<;>try (exact nn)
  rename_i b;cases b with
  |true=>exact λh=>.inl ⟨rfl,(sm h).symm⟩
  |false=>exact λh=>by refine É (EP h) λx h3 h4=>?_;exact .inr (rT rfl x h3 ((sm h4).symm))
theorem G5 (h:aB F (.ite a c d) pe=some r):(aB F a pe=some (.bool true)/\aB F c pe=some r)\/(aB F a pe=some (.bool false)/\aB F d pe=some r):=VX h
theorem G6 (h:aB F (.cmp op a c) pe=some r):∃x y z,aB F a pe=some x/\aB F c pe=some y/\cD op x y=some z/\r=.bool z:= by
 have h:(match aB F a pe,aB F c pe with|some x,some y=>(cD op x y).map PV.bool|_,_=>none)=some r:=h;revert h;cases aB F a pe with
 |none=>exact nn
 |some x=>cases aB F c pe with
  |none=>exact nn
  |some y=>exact λh=>by apply jQ (bk.mp h);intro z h4;exact(dH x y z rfl rfl h4 rfl)
theorem B9 (h:aB F (.cmp2 op Je a c d) pe=some r):∃x y,aB F a pe=some x/\aB F c pe=some y/\((cD op x y=some true/\∃z b,aB F d pe=some z/\cD Je y z=some b/\r=.bool b)\/(cD op x y=some false/\r=.bool false)):= by
 have h:(match aB F a pe,aB F c pe with|some x,some y=>(match cD op x y with|some true=>(match aB F d pe with|some z=>(cD Je y z).map PV.bool|none=>none)|some false=>some (.bool false)|none=>none)|_,_=>none)=some r:=h;revert h;cases aB F a pe with
 |none=>exact nn
 |some x=>cases aB F c pe with
  |none=>exact nn
  |some y=>
   intro h;refine(cC x y rfl rfl ?_);have h:(match cD op x y with|some true=>(match aB F d pe with|some z=>(cD Je y z).map PV.bool|none=>none)|some false=>some (.bool false)|none=>none)=some r:=h;revert h;cases cD op x y with
   |none=>exact nn
   |some c=>cases c with
    |false=>exact λh=>.inr ⟨rfl,(sm h).symm⟩
    |true=>
      intro h;have h:(match aB F d pe with|some z=>(cD Je y z).map PV.bool|none=>none)=some r:=h;revert h;cases aB F d pe with
      |none=>exact nn
      |some z=>exact λh=>by apply jQ (bk.mp h);intro b h8;exact .inl (GQ rfl z b rfl ⟨h8,rfl⟩)
theorem S2 (h:aB F (.sub a c) pe=some r):∃x y,aB F a pe=some x/\aB F c pe=some y/\eG x y=some r:= by
 have h:(match aB F a pe,aB F c pe with|some x,some y=>eG x y|_,_=>none)=some r:=h;revert h;cases aB F a pe with
 |none=>exact nn
 |some x=>cases aB F c pe with
  |none=>exact nn
  |some y=>exact λh=>(cC x y rfl rfl h)
theorem M1 (h:aB F (.call f es) pe=some r):∃l,cL F es pe=some l/\F f l=some r:= by
 have h:(match cL F es pe with|some l=>F f l|none=>none)=some r:=h;revert h;cases cL F es pe with
 |none=>exact nn
 |some l=>exact λh=>(Õ l rfl h)
theorem W1 (h:aB F (.bi f es) pe=some r):∃l,cL F es pe=some l/\Ē f l=some r:= by
 have h:(match cL F es pe with|some l=>Ē f l|none=>none)=some r:=h;revert h;cases cL F es pe with
 |none=>exact nn
 |some l=>exact λh=>(Õ l rfl h)
theorem W2 (h:aB F (.me f a es) pe=some r):∃x l,aB F a pe=some x/\cL F es pe=some l/\ś f x l=some r:= by
 have h:(match aB F a pe,cL F es pe with|some x,some y=>ś f x y|_,_=>none)=some r:=h;revert h;cases aB F a pe with
 |none=>exact nn
 |some x=>cases cL F es pe with
  |none=>exact nn
  |some y=>exact λh=>(cC x y rfl rfl h)
theorem M2 (h:aB F (.list es) pe=some r):∃l,cL F es pe=some l/\r=.lst l:= by
 apply jQ (bk.mp h);intro d h3;exact(Õ d h3 rfl)
theorem S3 (h:aB F (.tup es) pe=some r):∃l,cL F es pe=some l/\r=.tup l:= by
 apply jQ (bk.mp h);intro d h3;exact(Õ d h3 rfl)
theorem CA (h:aB F (.comp e i src iN c) pe=some r):∃À rs,gZ F src pe=some À/\dK (aB F c) (aB F e) iN i pe À=some rs/\r=.lst rs:= by
 have h:(match gZ F src pe with|some l=>(dK (aB F c) (aB F e) iN i pe l).map PV.lst|none=>none)=some r:=h;revert h;cases gZ F src pe with
 |none=>exact nn
 |some l=>exact λh=>by apply jQ (bk.mp h);intro d h3;exact(cC l d rfl h3 rfl)
theorem S4{lo hi st:PE}(h:aB F (.slc a lo hi st) pe=some r):∃x l u s l' u' s',aB F a pe=some x/\(aB F lo pe=some l/\fS l=some l')/\(aB F hi pe=some u/\fS u=some u')/\(aB F st pe=some s/\fS s=some s')/\eH x l' u' s'=some r:= by
 have h:(match aB F a pe,aB F lo pe,aB F hi pe,aB F st pe with
  |some x,some l,some h,some s=>(match fS l,fS h,fS s with
   |some l,some h,some s=>eH x l h s
   |_,_,_=>none)
  |_,_,_,_=>none)=some r:=h
 revert h;cases aB F a pe with
 |none=>exact nn
 |some x=>cases aB F lo pe with
  |none=>exact nn
  |some l=>cases aB F hi pe with
   |none=>exact nn
   |some u=>cases aB F st pe with
    |none=>exact nn
    |some s=>
     intro h;have h:(match fS l,fS u,fS s with
      |some l,some h,some s=>eH x l h s
      |_,_,_=>none)=some r:=h
     revert h;cases e1:fS l with
     |none=>exact nn
     |some l'=>cases e2:fS u with
      |none=>exact nn
      |some u'=>cases e3:fS s with
       |none=>exact nn
       |some s'=>exact λh=>(fX x l u (cP s l' u' s' rfl ⟨rfl,e1⟩ ⟨rfl,e2⟩ ⟨rfl,e3⟩ h))
theorem I8 (h:cL F (.cons a es) pe=some l):∃x m,aB F a pe=some x/\cL F es pe=some m/\l=x::m:= by
 have h:(match aB F a pe,cL F es pe with|some x,some y=>some (x::y)|_,_=>none)=some l:=h;revert h;cases aB F a pe with
 |none=>exact nn
 |some x=>cases cL F es pe with
  |none=>exact nn
  |some y=>exact λh=>(cC x y rfl rfl ((sm h).symm))
theorem S5 (h:gZ F (.val a) pe=some l):∃p,aB F a pe=some p/\pP p=some l:= by
 have h:(match aB F a pe with|some p=>pP p|none=>none)=some l:=h;revert h;cases aB F a pe with
 |none=>exact nn
 |some p=>exact λh=>(Õ p rfl h)
theorem M3{l:List PV}(h:gZ F (.rng1 a) pe=some l):∃n,aB F a pe=some (.int n)/\mO 0 n=some l:=MZ h
theorem M4 (h:gZ F (.rng2 a c) pe=some l):∃n m,aB F a pe=some (.int n)/\aB F c pe=some (.int m)/\mO n m=some l:= by
 have h:(match aB F a pe,aB F c pe with|some (.int x),some (.int y)=>mO x y|_,_=>none)=some l:=h;revert h;cases aB F a pe with
 |none=>exact nn
 |some p=>
  cases p<;>try (exact nn)
  cases aB F c pe with
  |none=>exact nn
  |some q=>
   cases q<;>try (exact nn)
   exact λh=>(cC _ _ rfl rfl h)
theorem M5 (h:gZ F (.rng3 a c) pe=some l):∃n m,aB F a pe=some (.int n)/\aB F c pe=some (.int m)/\uW n m=some l:= by
 have h:(match aB F a pe,aB F c pe with|some (.int x),some (.int y)=>uW x y|_,_=>none)=some l:=h;revert h;cases aB F a pe with
 |none=>exact nn
 |some p=>
  cases p<;>try (exact nn)
  cases aB F c pe with
  |none=>exact nn
  |some q=>
   cases q<;>try (exact nn)
   exact λh=>(cC _ _ rfl rfl h)
end
def GV (v:ag):G->Prop
 |.bi b=>v=Τ b
 |.fn f=>v=.ref (fA f)/\∃o fd,H0.get? (fA f)=some o/\o.data=.func fd
 |.cst p=>RV H0 υ v p
 |.rng=>v=.type "range"
 |.enum=>v=.type "enumerate"
 |.gen=>v=.ref (fA 1000)/\∃o fd,H0.get? (fA 1000)=some o/\o.data=.func fd
structure ċ:Prop where
 noshare:ß H0
 nolimit:H0.NoLimit
 big:sysModules<H0.objs.size
 names:∃mg mb,H0.Ns mainGlobals mg/\H0.Ns builtinsNs mb/\∀x g,GL.lookup x=some g->∃v,(mg x=some v\/(mg x=none/\mb x=some v))/\GV v g
def ù (F:Fn) (B:Nat):Prop:=
 ∀(f:Nat) (A:dm) (s:aj) (N:Ap) (vs:List ag) (ps:List PV) (r:PV) (Q:Vs) (E:Vs),
  Ê A B->û s N->Í s.heap N vs ps->F f ps=some r->(∀v s',Pure s s'->RV s'.heap N v r->Q v s')->wpAny (model Pg W0) A (call (.ref (fA f)) vs) Q E s
noncomputable def z5 (p:PE):Bool:=p.ctorIdx==12||p.ctorIdx==13||p.ctorIdx==15||p.ctorIdx==3
noncomputable def EQ (p:PE):Bool:=if h:p.ctorIdx=0 then PE.cst.elim (motive_1:=λ_=>Bool) p h (λc=>c.ctorIdx==4) else false
theorem ER (h:EQ p=true):∃x,p=.cst (.str x):= by
 unfold EQ at h
 by_cases c:p.ctorIdx=0
 ·rw[dif_pos c] at h;exact PE.cst.elim (motive_1:=λp=>∀c,PE.cst.elim (motive_1:=λ_=>Bool) p c (λc=>c.ctorIdx==4)=true->∃x,p=.cst (.str x)) p c (λq c h=>by cases q<;>first|exact nf h|exact⟨_,rfl⟩) c h
 ·rw[dif_neg c] at h;exact nf h
def CB (p:PE):Bool:=if h:p.ctorIdx=11 then PE.sub.elim (motive_1:=λ_=>Bool) p h (λa _=>EQ a) else false
structure ŕ (top:Bool) (s s':aj) (Na No:Ap) (b:Bool) (p:PE) (v:ag) (r:PV):Prop where
 t:RT s'.heap (λb=>Na b\/No b) v r
 a:top=true->RV s'.heap Na v r
 f:b=false->RV s'.heap (λb=>Na b\/No b) v r
 fresh:z5 p=true->∀l,r=.lst l->ŧ s.heap s'.heap (λb=>Na b\/No b) v l
 tok:CB p=true->∀y t,v=.str y t->t≠0/\t<s'.toks
theorem RV.weak (hn:∀b,N' b->N b) (r:RV h N v p):RV h N' v p:=r.step (Step.sub hn)
theorem Í.weak (hn:∀b,N' b->N b) (r:Í h N vs ps):Í h N' vs ps:=r.step (Step.sub hn)
theorem ŕ.of (h:RV s'.heap (λb=>Na b\/No b) v r) (hf:z5 p=false) (ht:CB p=false):ŕ top s s' Na No b p v r:=
 ⟨h.rt,λ_=>h.weak λ_ q=>.inl q,λ_=>h,λq=>by rw[hf] at q;(cases q),λq=>by rw[ht] at q;(cases q)⟩
theorem ŕ.res (hp:Pure By s) (h:ĕ s s' (λb=>Na b\/No b) v r) (ht:CB p=false):ŕ top By s' Na No b p v r:=
 ⟨h.1.rt,λ_=>h.1.weak λ_ q=>.inl q,λ_=>h.1,λ_ l e=>by
  refine dG (h.2 l e) λa vs h1 h2 h3 h4=>?_;exact(cX a vs h1 (aa hp.step.grow h2) h3 h4),λq=>by rw[ht] at q;(cases q)⟩
theorem RT.pure (r:RT s.heap N v p) (x:Pure s s'):RT s'.heap N v p:= by
 have S:=x.stepAt N;cases r with
 |none=>exact .none
 |bool b=>exact .bool b
 |int n t=>exact .int n t
 |flt x t ht=>exact .flt x t ht
 |str x t=>exact .str x t
 |tup b c=>refine xe b λn e=>?_;exact .tup ⟨n,x.keep _ _ e⟩ (c.step S)
 |lst b c=>refine xe b λn e=>?_;exact .lst ⟨n,x.keep _ _ e⟩ (c.step S)
 |dcti b=>refine tF b λhs Gp hd hk=>?_;exact .dcti (rT hs Gp (hd.keep x.keep) hk)
 |dcts b=>refine tF b λhs Gp hd hk=>?_;exact .dcts (rT hs Gp (hd.keep x.keep) hk)
section
variable (F:Fn) (B:Nat)
def Ç (p:PE):Prop:=∀{A:dm}{cx:Cx}{asg:List Str}{Á:Env}{s:aj}{Na No:Ap}{pe:Å}{b:Bool}{e:ar}{r:PV}{Q:Vs}{E:Vs},
 Ê A (nd p+B)->Ä cx asg Á s Na No pe->aN cx b e p=true->aB F p pe=some r->
 (∀v s',Pure s s'->ŕ cx.top s s' Na No b p v r->Q v s')->wpAny (model Pg W0) A (eval e Á) Q E s
def Û (p:PE):Prop:=∀{A:dm}{cx:Cx}{asg:List Str}{Á:Env}{s:aj}{Na No:Ap}{pe:Å}{b:Bool}{e:ar}{r:Bool}{Q:Bool->aj->Prop}{E:Vs},
 Ê A (nd p+B)->Ä cx asg Á s Na No pe->aN cx b e p=true->aB F p pe=some (.bool r)->
 (∀s',Pure s s'->Q r s')->wpAny (model Pg W0) A (isTrue e Á (eval e Á)) Q E s
def ć (ps:Į):Prop:=∀{A:dm}{cx:Cx}{asg:List Str}{Á:Env}{s:aj}{Na No:Ap}{pe:Å}{b:Bool}{es:List ar}{rs:List PV}{pos:Pos}{Q:List ag->aj->Prop}{E:Vs},
 Ê A (ξ ps+B)->Ä cx asg Á s Na No pe->f7 cx b es ps=true->cL F ps pe=some rs->
 (∀vs s',Pure s s'->Ň s'.heap (λb=>Na b\/No b) vs rs->(cx.top=true->Í s'.heap Na vs rs)->(b=false->Í s'.heap (λb=>Na b\/No b) vs rs)->vs.length=es.length->Q vs s')->
 wpAny (model Pg W0) A (spliced (backTo pos (starEach es Á))) Q E s
end
section
variable{F:Fn}{B:Nat}
variable{A:dm}{cx:Cx}{asg:List Str}{Á:Env}{s:aj}{Na No:Ap}{pe:Å}{E:Vs}
theorem iW (GK:ċ) (r:Ä cx asg Á s Na No pe) (h1:cx.kinds.lookup x=some .globalImplicit) (h2:d8 x=true) (h3:GL.lookup x=some g)
  (hQ:∀v,GV v g->Q v s):wpAny (model Pg W0) A (eval (.Name x pos) Á) Q E s:= by
 refine fR GK.names λmg mb hg hb hn=>?_;refine É (hn x g h3) λv hv Wq=>?_;refine Calls.Name_function_global r.kind (r.gl x h1) ?_ (by simp only[d8,be,ds] at h2;exact h2.1);rcases hv with hv|⟨h4,h5⟩
 ·exact Calls.loadGlobal_global (by exact O r.glb (hg.keeps r.base.keep)) hv (hQ v Wq)
 ·exact Calls.loadGlobal_builtin (by exact O r.glb (hg.keeps r.base.keep)) h4 (by refine O r.blt ?_;exact hb.keeps r.base.keep) h5 (hQ v Wq)
theorem j3 (h:iT cx e f=true):∃x pos g,e=.Name x pos/\cx.kinds.lookup x=some .globalImplicit/\d8 x=true/\GL.lookup x=some g/\f g=true:= by
 replace h:=aE h
 refine É h λx h1 h=>?_;apply ä (gR h1);intro p;have h2:=aC (aC h).2;refine É (aE h2.2) λg h3 h4=>?_;exact(eV x p g rfl (am (aC h).1) h2.1 h3 h4)
theorem CC (hT:0<s.toks) (h:zZ k=some c) (hQ:∀v s',Pure s s'->(∀N,RV s'.heap N v c)->Q v s'):wpAny (model Pg W0) A (constValue Á k) Q E s:= by
 cases k<;>try (exact nn h)
 all_goals cases sm h
 ·exact cv (hQ _ _ (Ö.refl _ _) λ_=>.none)
 ·exact cv (hQ _ _ (Ö.refl _ _) λ_=>.bool _)
 ·exact wpAny_mkInt (hQ _ _ (Pure.toks _) λ_=>.int _ _)
 ·exact wpAny_mkFloat (hQ _ _ (Pure.toks _) λ_=>.flt _ _ (ck hT))
 ·exact wpAny_mkText (hQ _ _ (Pure.toks _) λ_=>.str _ _)
theorem CD (c:PV):Ç F B (.cst c):= by
 intro A cx asg Á s Na No pe b e r Q E R X hc hd hQ;cases sm hd;refine jA (SR hc) λk n p zt=>?_;apply xr zt;intro h;exact CC X.base.toks h λv s' P rv=>hQ v s' P (.of (rv _) rfl rfl)
theorem I9 (h:VW p g=true):g=.cst p:= by
 cases g<;>first|exact nf h|exact congrArg _ (SN h)
theorem yC (GK:ċ) (c:PV):Ç F B (.gcst c):= by
 intro A cx asg Á s Na No pe b e r Q E R X hc hd hQ;cases sm hd;apply hO (j3 hc);intro x pos g h1 h2 h3 h4;cases I9 h4;exact iW GK X h1 h2 h3 λv hv=>hQ _ _ (Ö.refl _ _) (.of (RV.step (h:=H0) (N:=υ) ⟨λb o _ e=>X.base.keep b o e,X.base.size,λb hb=>.inr (X.base.above b hb)⟩ hv) rfl rfl)
theorem Ë.name (k:Á.scope.kind=.function) (b:Ë Á s.heap x v) (h2:d8 x=true) (h:Q v s):wpAny (model Pg W0) A (eval (.Name x pos) Á) Q E s:= by
 have hd:(x==("__debug__":Str))=false/\(x==("__classdict__":Str))=false:=by simpa only[d8,be,ds] using h2
 refine wpAny_Name ?_ hd.1;cases b with
 |loc m h1 h3 h4=>exact wpAny_loadName_local k h1 h3 h4 h
 |cell c h1 h3 h4=>
  rcases h1 with h1|h1
  ·exact wpAny_loadName_cell k h1 h3 h4 h
  ·exact wpAny_loadName_free k h1 h3 h4 h hd.2
theorem ą.cases (r:ą h N a p):(∃l vs,p=.lst l/\h.PlainList a (zi vs)/\Í h N vs l)\/∃l,p=.dcti l/\Þ h a l:= by
 cases p<;>try (exact r.elim)
 ·refine É r λvs h1 h2=>?_;exact .inl (cC _ vs rfl h1 h2)
 ·exact .inr (Õ _ rfl r)
theorem W3 (h:(b||!c)=true) (hc:c=true):b=true:=by cases b<;>cases c<;>first|rfl|exact nf h|exact nf hc
theorem Ă.out (hs:Ă cx Á s (λb=>Na b\/No b) i v p) (hb:(b||!cx.own.contains i)=true) (hx:cx.top=true->∀a,v=.ref a->cx.own.contains i=true->¬Na a):
  ŕ cx.top s s Na No b (.var i) v p:= by
 have h1:=hs.1
 by_cases ho:cx.own.contains i=true
 ·rw[if_pos ho] at h1;refine cW h1 λa aT ha hl hr=>?_;subst aT;clear h1;have Yc:=W3 hb ho;subst Yc;rcases hr.cases with⟨l,vs,rfl,h4,h5⟩|⟨l,rfl,hr⟩
  ·exact{t:=.lst h4 h5,a:=λht=>.lst (hx ht a rfl ho) h4 (h5.weak λ_ q=>.inl q),f:=λq=>(nomatch q),fresh:=λq=>(nomatch q),tok:=λq=>(nomatch q)}
  ·exact{t:=.dcti hr,a:=λht=>.dcti (hx ht a rfl ho) hr,f:=λq=>(nomatch q),fresh:=λq=>(nomatch q),tok:=λq=>(nomatch q)}
 ·rw[if_neg ho] at h1;exact .of h1 rfl rfl
theorem CE (i:Nat):Ç F B (.var i):= by
 intro A cx asg Á s Na No pe b e r Q E R X hc hd hQ;apply j6 (SS hc);intro x pos hi h2 h3;refine É (X.vars x i r hi hd) λv hb hs=>?_;refine hb.name X.kind h2 (hQ _ _ (Ö.refl _ _) (hs.out h3 λht a hv ho Yd=>?_));subst hv;exact X.disj a (X.turns x i a hi ho (Option.isSome_of_eq_some hd) hb) Yd
theorem Ä.low (X:Ä cx asg Á s Na No pe):Ė (λb=>Na b\/No b) s.heap:=X.base.low
theorem Ä.ns0 (GK:ċ) (X:Ä cx asg Á s Na No pe):ß s.heap:=GK.noshare.keeps X.base.keep
theorem two{p q:PE}{x y:PV}{e f:ar}{b c:Bool}{Q:ag->Vs}(hp:Ç F B p) (hq:Ç F B q) (R:Ê A (max (nd p) (nd q)+B)) (X:Ä cx asg Á s Na No pe)
  (h1:aN cx b e p=true) (h2:aN cx c f q=true) (d1:aB F p pe=some x) (d2:aB F q pe=some y)
  (h:∀v u s',Pure s s'->RT s'.heap (λb=>Na b\/No b) v x->RT s'.heap (λb=>Na b\/No b) u y->Ä cx asg Á s' Na No pe->Q v u s'):
  wpAny (model Pg W0) A (eval e Á) (λv bc=>wpAny (model Pg W0) A (eval f Á) (λu Ã=>Q v u Ã) E bc) E s:= by
 refine hp (R.le (bo (ir _ _) _)) X h1 d1 λv bc bY Gf=>?_;have Gl:=X.pure bY;refine hq (R.le (bo (gh _ _) _)) Gl h2 d2 λu Ã dO Ha=>?_;exact h v u Ã (bY.trans dO) (Gf.t.pure dO) Ha.t (Gl.pure dO)
theorem CF (hp:Ç F B p) (hq:Ç F B q):Ç F B (.bin op p q):= by
 intro A cx asg Á s Na No pe b e r Q E R X hc hd hQ;apply mK (SU hc);intro l r' k h1 h2;refine fR (S0 hd) λx y d1 d2 d3=>?_;exact wpAny_BinOp (two hp hq R X h1 h2 d1 d2 λv u s' P rv ru X'=>IP R X'.base.toks X'.low rv ru d3 λz Ã dO hz=>hQ _ _ (P.trans dO) (.res P hz rfl))
theorem G7 (h:aN cx b (.Set l k pos) p=true):False:= by
 cases p<;>exact nf h
theorem mR (h:aN cx b e p=true):behindInMarks op e=false:= by
 by_cases c:e.ctorIdx=7
 ·exact Cz (motive_1:=λe=>aN cx b e p=true->behindInMarks op e=false) e c (λl k p h=>(G7 h).elim) h
 ·clear h;cases e<;>first|rfl|exact absurd rfl c
theorem M6 (hB:3<=B) (GK:ċ) (hp:Ç F B p) (hq:Ç F B q):Ç F B (.cmp op p q):= by
 intro A cx asg Á s Na No pe b e r Q E R X hc hd hQ;apply mK (G2 hc);intro l r' k h1 h2;obtain⟨x,y,z,d1,d2,d3,rfl⟩:=G6 hd;exact wpAny_Compare1 (two hp hq R X h1 h2 d1 d2 λv u s' P rv ru X'=>gO (k:=3) (ai _) (R.le (aa hB (jl _ _))) (X'.ns0 GK) rv ru d3 λÃ dO=>hQ _ _ (P.trans dO) (.of (.bool _) rfl rfl)) (mR h2)
theorem ŕ.int (o:ŕ top s s' Na No b p v (.int n)):∃t,v=.int n t:=o.t.inv
theorem ŕ.bool (o:ŕ top s s' Na No b p v (.bool n)):v=.bool n:=o.t.inv
theorem CG (hp:Ç F B p):Ç F B (.neg p):= by
 intro A cx asg Á s Na No pe b e r Q E R X hc hd hQ;refine lE (SW hc) λx k aT h1=>?_;subst aT;refine É (S1 hd) λn d1 aT=>?_;subst aT;refine wpAny_UnaryOp (hp R X h1 d1 λv bc bY Gf=>?_);refine xe Gf.int λt aT=>?_;subst aT;exact Fx (hQ _ _ (bY.trans (Pure.toks _)) (.of (.int _ _) rfl rfl))
theorem lT{p:PE}(hp:Ç F B p){b:Bool}{e:ar}{r:Bool}{Q:ag->Bool->aj->Prop}(R:Ê A (nd p+B)) (X:Ä cx asg Á s Na No pe) (hc:aN cx b e p=true) (hd:aB F p pe=some (.bool r))
  (h:∀s',Pure s s'->Ä cx asg Á s' Na No pe->Q (.bool r) r s'):wpAny (model Pg W0) A (eval e Á) (λv bc=>wpAny (model Pg W0) A (truthy v) (λc Ã=>Q v c Ã) E bc) E s:= by
 refine hp R X hc hd λv bc bY Gf=>?_;cases Gf.bool;exact wpAny_truthy_bool (h _ bY (X.pure bY))
theorem M7{p:PE}(hp:Ç F B p):Ç F B (.not p):= by
 intro A cx asg Á s Na No pe b e r Q E R X hc hd hQ;refine lE (GZ hc) λx k aT h1=>?_;subst aT;refine É (G3 hd) λn d1 aT=>?_;subst aT;refine wpAny_UnaryOp (jk (lT (Q:=λv c s'=>v=.bool n/\c=n/\Pure s s') hp R X h1 d1 λs' P _=>(Ý rfl rfl P)) (λv bc h=>?_) λ_ _ e=>e);exact not_of (jk h (λc Ã h=>by refine Ą h λaT Gq P=>?_;subst aT;subst Gq;exact hQ _ _ P (.of (.bool _) rfl rfl)) λ_ _ e=>e)
section
variable{p q:PE}
theorem Ê.lz2 (R:Ê A (max (nd p) (nd q)+B)):Ê A (nd p+B):=R.le (bo (ir _ _) _)
theorem Ê.r2 (R:Ê A (max (nd p) (nd q)+B)):Ê A (nd q+B):=R.le (bo (gh _ _) _)
theorem Ê.m1 (R:Ê A (max a (max b c)+B)):Ê A (a+B):=R.le (bo (ir _ _) _)
theorem Ê.m2 (R:Ê A (max a (max b c)+B)):Ê A (b+B):=R.le (bo (aa (ir _ _) (gh _ _)) _)
theorem Ê.m3 (R:Ê A (max a (max b c)+B)):Ê A (c+B):=R.le (bo (aa (gh _ _) (gh _ _)) _)
end
theorem M8{p q:PE}(hp:Ç F B p) (hq:Ç F B q):Ç F B (.and p q):= by
 intro A cx asg Á s Na No pe b e r Q E R X hc hd hQ;apply mK (G0 hc);intro x y k h1 h2;rcases G4 hd with⟨d1,n,d2,rfl⟩|⟨d1,rfl⟩
 ·refine BoolOp_and (lT hp R.lz2 X h1 d1 λs' P X'=>BoolOp_one (hq R.r2 X' h2 d2 λv Ã dO Ha=>?_));cases Ha.bool;exact hQ _ _ (P.trans dO) (.of (.bool _) rfl rfl)
 ·exact BoolOp_and (lT hp R.lz2 X h1 d1 λs' P X'=>hQ _ _ P (.of (.bool _) rfl rfl))
theorem S6{p q:PE}(hp:Ç F B p) (hq:Ç F B q):Ç F B (.or p q):= by
 intro A cx asg Á s Na No pe b e r Q E R X hc hd hQ;apply mK (MS hc);intro x y k h1 h2;rcases M0 hd with⟨d1,rfl⟩|⟨d1,n,d2,rfl⟩
 ·exact BoolOp_or (lT hp R.lz2 X h1 d1 λs' P X'=>hQ _ _ P (.of (.bool _) rfl rfl))
 ·refine BoolOp_or (lT hp R.lz2 X h1 d1 λs' P X'=>BoolOp_one (hq R.r2 X' h2 d2 λv Ã dO Ha=>?_));cases Ha.bool;exact hQ _ _ (P.trans dO) (.of (.bool _) rfl rfl)
theorem ŕ.ite{top b:Bool}{t p q u:PE}{s s' Ã:aj}{v:ag}{r:PV}(P:Pure s s') (o:ŕ top s' Ã Na No b u v r):ŕ top s Ã Na No b (.ite t p q) v r:=
 {t:=o.t,a:=o.a,f:=o.f,fresh:=λq=>(nomatch q),tok:=λq=>(nomatch q)}
theorem M9 (ht:Û F B t) (hp:Ç F B p) (hq:Ç F B q):Ç F B (.ite t p q):= by
 intro A cx asg Á s Na No pe b e r Q E R X hc hd hQ;apply lP (G1 hc);intro c x y k h1 h2 h3;rcases G5 hd with⟨d1,d2⟩|⟨d1,d2⟩
 ·exact IfExp_ (ht R.m1 X h1 d1 λs' P=>hp R.m2 (X.pure P) h2 d2 λv Ã dO Ha=>hQ _ _ (P.trans dO) (.ite P Ha))
 ·exact IfExp_ (ht R.m1 X h1 d1 λs' P=>hq R.m3 (X.pure P) h3 d2 λv Ã dO Ha=>hQ _ _ (P.trans dO) (.ite P Ha))
set_option tactic.hygienic true in
theorem xE (Ĭ:ar) (o i:ag):∃l,subscripted Ĭ false o i=operate l (getItem o i):= by
 cases Ĭ<;>try (exact⟨_,rfl⟩)
 rename_i a b c d;cases c<;>exact⟨_,rfl⟩
theorem CH{Š Ĭ:ar}{o i:ag}{T id:String}{Q:Vs}(hT:s.TypeIs o T)
  (hl:typeLookup (.type T) "__getitem__"=pure (some (.builtin id))) (h:wpAny (model Pg W0) A (getItem o i) Q E s):
  wpAny (model Pg W0) A (subscriptTail Š Ĭ o i) Q E s:= by
 unfold subscriptTail;refine bj ?_;refine O (getitemInPython_of_ne hT.not_modules) (bj (wpAny_specialOf hT hl ?_));have fin:wpAny (model Pg W0) A (subscripted Ĭ false o i) (λr iF=>wpAny (model Pg W0) A (letTemporaryGo Š o r >>= λ_=>pure r) Q E iF) E s:= by
  have h2:wpAny (model Pg W0) A (getItem o i) (λr iF=>wpAny (model Pg W0) A (letTemporaryGo Š o r >>= λ_=>pure r) Q E iF) E s:=
   jk h (λr iF Ld=>bj (wpAny_letTemporaryGo (cv Ld))) λ_ _ x=>x
  refine xe (xE Ĭ o i) λl e=>?_;exact O e (wpAny_operate' h2)
 first
  |exact cv (bj fin)
  |exact bj (cv (bj fin))
  |exact bj fin
noncomputable def W4 (p:PV):Bool:=match p with
 |.lst _=>true
 |.tup _=>true
 |.str _=>true
 |.dcti _=>true
 |.dcts _=>true
 |_=>false
theorem u9 (r:RT s.heap N v p) (h:W4 p=true):∃T id,s.TypeIs v T/\typeLookup (.type T) "__getitem__"=pure (some (.builtin id)):= by
 cases p<;>try (exact nf h)
 ·apply ä r.inv;intro t;exact(mL ("str") _ rfl F.slot_str_getitem.lookup)
 ·apply fF r.inv;intro _ _ a _;exact(mL ("tuple") _ a.isTuple.typeIs F.slot_tuple_getitem.lookup)
 ·apply fF r.inv;intro _ _ a _;exact(mL ("list") _ a.isList.typeIs F.slot_list_getitem.lookup)
 ·apply D3 r.inv;intro _ _ _ hd _;exact(mL ("dict") _ hd.typeIs xt.lookup)
 ·apply D3 r.inv;intro _ _ _ hd _;exact(mL ("dict") _ hd.typeIs xt.lookup)
theorem JA (h:eG p q=some r):W4 p=true:= by
 cases p<;>first|rfl|exact nn h
theorem CI (h:eH p a b c=some r):W4 p=true:= by
 cases p<;>first|rfl|exact nn h
theorem NA (h:CB (.sub p q)=true):∃x,p=.cst (.str x):=ER h
theorem CJ (hp:Ç F B p) (hq:Ç F B q):Ç F B (.sub p q):= by
 intro A cx asg Á s Na No pe b e r Q E R X hc hd hQ;refine pL (SX hc) λx i k aT h1 h2=>?_;subst aT;refine fR (S2 hd) λa c d1 d2 d3=>?_;refine Subscript_ (two hp hq R X h1 h2 d1 d2 λv u s' P rv ru X'=>?_);refine lE (u9 rv (JA d3)) λT id hT hl=>?_;refine CH hT hl (IV R rv ru d3 X'.base.toks λz Ã dO hz ht=>hQ _ _ (P.trans dO) ?_);refine{t:=hz.rt,a:=λ_=>hz.weak λ_ q=>.inl q,f:=λ_=>hz,fresh:=λq=>(nomatch q),tok:=λhk=>ht ?_};refine xe (NA hk) λy aT=>?_;subst aT;exact⟨y,(sm d1).symm⟩
theorem S7 (r:RT h N v p) (e:fS p=some o):ê v o:= by
 cases p<;>try (exact nn e)
 ·cases sm e;cases r.inv;exact .none
 ·cases sm e;apply ä r.inv;intro t;exact .int _ _
theorem r7 (hp:Ç F B p) (R:Ê A (nd p+B)) (X:Ä cx asg Á s Na No pe)
  (hc:(match x with|none=>i7 p|some e=>aN cx true e p)=true) (hd:aB F p pe=some r/\fS r=some o)
  (h:∀v s',Pure s s'->ê v o->Ä cx asg Á s' Na No pe->Q v s'):wpAny (model Pg W0) A (evalPart x Á) Q E s:= by
 cases x with
 |none=>
  cases B6 hc;cases sm hd.1;cases sm hd.2;exact wpAny_evalPart_none (h _ _ (Ö.refl _ _) .none X)
 |some e=>
  exact wpAny_evalPart_some (hp R X hc hd.1 λv s' P o=>h _ _ P (S7 o.t hd.2) (X.pure P))
theorem Ê.s1 (R:Ê A (max (max a b) (max c d)+B)):Ê A (a+B)/\Ê A (b+B)/\Ê A (c+B)/\Ê A (d+B):=
 (d9 (R.le (bo (aa (ir _ _) (ir _ _)) _)) (R.le (bo (aa (gh _ _) (ir _ _)) _)) (R.le (bo (aa (ir _ _) (gh _ _)) _)) (R.le (bo (aa (gh _ _) (gh _ _)) _)))
theorem CK (hp:Ç F B p) (ha:Ç F B a) (hb:Ç F B b) (Pz:Ç F B c):Ç F B (.slc p a b c):= by
 intro A cx asg Á s Na No pe bb e r Q E R X hc hd hQ;have R:=R.s1;refine fZ (SY hc) λx l u t zt=>?_;apply j6 zt;intro k k' h1 h2 zt;refine xa zt λh3 h4=>?_;clear zt;refine fZ (S4 hd) λx l u t zt=>?_;refine cH zt λl' u' t' d1 d2 d3 zt=>?_;refine xa zt λd4 d5=>?_;clear zt;refine Subscript_ (hp R.1 X h1 d1 λv bc bY Gf=>wpAny_Slice ?_);refine r7 ha R.2.1 (X.pure bY) h2 d2 λvl Ã dO pl Gh=>?_;refine r7 hb R.2.2.1 Gh h3 d3 λvu iF Gw pu Gm=>?_;refine r7 Pz R.2.2.2 Gm h4 d4 λvs s₄ Hs ps He=>?_;have Hk:Pure s₄ {s₄ with heap:=s₄.heap.push {cls:=.type "slice",data:=.fields #[vl,vu,vs]}}:=Pure.push s₄ _ (ai _);have Gx:=He.pure Hk;have P25:=((dO.trans Gw).trans Hs).trans Hk;have Rn:=Gf.t.pure P25;refine lE (u9 Rn (CI d5)) λT id hT hl=>?_;have P14:=bY.trans P25;exact CH hT hl (BL Gx.base.toks Gx.low Rn pl pu ps (cj _ rfl) d5 λz Hb Le hz=>hQ _ _ (P14.trans Le) (.res P14 hz rfl))
theorem JB (hB:3<=B) (GK:ċ) (hp:Ç F B p) (hq:Ç F B q) (hr:Ç F B c):Ç F B (.cmp2 op Je p q c):= by
 intro A cx asg Á s Na No pe b e r Q E R X hc hd hQ;apply lP (B7 hc);intro l m n k h1 h2 h3;refine fR (B9 hd) λx y d1 d2 d3=>?_;have R3:Ê A 3:=R.le (aa hB (jl _ _));refine Compare_chain (hp R.m1 X h1 d1 λv bc bY Gf=>chain_link ?_) (mR (op:=Je) h3);have Gl:=X.pure bY;refine hq R.m2 Gl h2 d2 λu Ã dO Ha=>?_;have Gh:=Gl.pure dO;have P12:=bY.trans dO;rcases d3 with⟨hz,z,t,d3,Nb,rfl⟩|⟨hz,rfl⟩
 ·refine gO (k:=3) (ai _) R3 (Gh.ns0 GK) (Gf.t.pure dO) Ha.t hz λiF Gw=>wpAny_truthy_bool ?_;have Gm:=Gh.pure Gw;refine chain_last (hr R.m3 Gm h3 d3 λm s₄ Hs Oo=>?_);have P34:=Gw.trans Hs;exact gO (k:=3) (ai _) R3 ((Gm.pure Hs).ns0 GK) (Ha.t.pure P34) Oo.t Nb λGo Hk=>hQ _ _ ((P12.trans P34).trans Hk) (.of (.bool _) rfl rfl)
 ·exact gO (k:=3) (ai _) R3 (Gh.ns0 GK) (Gf.t.pure dO) Ha.t hz λiF Gw=>wpAny_truthy_bool (hQ _ _ (P12.trans Gw) (.of (.bool _) rfl rfl))
end
section
variable (F:Fn) (B:Nat)
def Ķ:Į->Prop
 |.nil=>True
 |.cons p ps=>(Ç F B p/\Û F B p)/\Ķ ps
end
section
variable{F:Fn}{B:Nat}
variable{A:dm}{cx:Cx}{asg:List Str}{Á:Env}{s:aj}{Na No:Ap}{pe:Å}{E:Vs}
theorem xF (h:dA e=true):starEach (e::DO) Á=(false,eval e Á)::starEach DO Á:= by
 cases e<;>first|rfl|exact nf h
theorem Ň.pure (r:Ň s.heap N vs ps) (x:Pure s s'):Ň s'.heap N vs ps:= by
 induction ps generalizing vs with
 |nil=>cases r;exact .nil
 |cons p ps ih=>cases r with|cons a b=>exact .cons (a.pure x) (ih b)
theorem Ê.n1 (R:Ê A (max a b+B)):Ê A (a+B):=R.le (bo (ir _ _) _)
theorem Ê.n2 (R:Ê A (max a b+B)):Ê A (b+B):=R.le (bo (gh _ _) _)
theorem Ê.b (R:Ê A (a+B)):Ê A B:=R.le (jl _ _)
theorem cM (h:dA e=true):backTo pos (starEach (e::es) Á)=(false,eval e Á)::backTo pos (starEach es Á):=by refine O (xF h) ?_;rfl
theorem ć.nil (h:ps=.nil):ć F B ps:= by
 subst h;intro A cx asg Á s Na No pe b es rs pos Q E R X hc hd hQ;cases sm hd;cases u8 hc;exact ji (hQ _ _ (Ö.refl _ _) .nil (λ_=>.nil) (λ_=>.nil) rfl)
theorem ć.cons (hp:Ç F B p) (ih:ć F B ps):ć F B (.cons p ps):= by
 intro A cx asg Á s Na No pe b es rs pos Q E R X hc hd hQ;refine fR (I8 hd) λx l d1 d2 aT=>?_;subst aT;refine dG (r0 hc) λe es aT h1 h2 h3=>?_;subst aT;refine O (cM h1) (fi (hp R.n1 X h2 d1 λv bc bY Gf=>ih R.n2 (X.pure bY) h3 d2 λvs Ã dO Lu Rp Rq hl=>?_));exact hQ _ _ (bY.trans dO) (.cons (Gf.t.pure dO) Lu) (λht=>.cons ((Gf.a ht).step (dO.stepAt _)) (Rp ht)) (λhb=>.cons ((Gf.f hb).step (dO.stepAt _)) (Rq hb)) (congrArg zj hl)
theorem fH:∀{ps:Į},Ķ F B ps->ć F B ps
 |.nil,_=>ć.nil rfl
 |.cons _ _,H=>ć.cons H.1.1 (fH H.2)
theorem mS:∀{ps:Į}{es:List ar}{cx:Cx}{b:Bool},f7 cx b es ps=true->(backTo pos (starEach es Á)).any (·.1)=false
 |.nil,es,cx,b,h=>by cases u8 h;rfl
 |.cons p ps,es,cx,b,h=>by
  apply j6 (r0 h);intro e es h1 h2 h3;exact O (cM h1) (mS (pos:=pos) h3)
theorem z7 (hc:f7 cx b es ps=true) (Gv:0<es.length) (h:wpAny (model Pg W0) A (spliced (backTo pos (starEach es Á))) (λvs s'=>Q ⟨vs,[]⟩ s') E s):
  wpAny (model Pg W0) A (evalArgs f true (backTo pos (starEach es Á)) []) Q E s:= by
 cases ps with
 |nil=>
  cases u8 hc;exact absurd Gv (ik 0)
 |cons p ps=>
  refine dG (r0 hc) λe es aT h1 h2 h3=>?_;subst aT;rw[cM h1] at h⊢;exact ig h
theorem pR (h:n<=100) (e:m=n):m<=sizeLine:=by unfold sizeLine;exact Ò (.x .q (.P .n2 24)) [.x .r (.N 100),.z1 .q .r] h e
theorem yD (H:Ķ F B ps):Ç F B (.list ps):= by
 intro A cx asg Á s Na No pe b e r Q E R X hc hd hQ;refine fR (MT hc) λxs k aT h1 h2=>?_;subst aT;refine É (M2 hd) λl d1 aT=>?_;subst aT;refine wpAny_List (fH H R X h1 d1 λvs bc bY Ki Lf Iw hl=>⟨pR h2 hl,?_⟩);exact sS (X.pure bY).low (Iw rfl) (ai _) λv s' P hr=>hQ _ _ (bY.trans P) (.res bY hr rfl)
theorem CL (H:Ķ F B ps):Ç F B (.tup ps):= by
 intro A cx asg Á s Na No pe b e r Q E R X hc hd hQ;refine pL (SZ hc) λxs n k aT h1 h2=>?_;subst aT;refine É (S3 hd) λl d1 aT=>?_;subst aT;refine wpAny_Tuple (fH H R X h1 d1 λvs bc bY Ki Lf Iw hl=>⟨pR h2 hl,?_⟩);exact uI (X.pure bY).low (Iw rfl) (ai _) λv s' P hr=>hQ _ _ (bY.trans P) (.res bY hr rfl)
theorem NB (h:SO f g=true):g=.fn f:=by cases g<;>first|exact nf h|exact congrArg _ (am h).symm
theorem NC (h:WX f g=true):g=.bi f:=by cases g<;>first|exact nf h|exact congrArg _ (am h).symm
theorem JC (h:sV g=true):g=.rng:=by cases g<;>first|exact nf h|rfl
theorem S8 (GK:ċ) (H:Ķ F B ps) (R:Ê A (ξ ps+B)) (X:Ä cx asg Á s Na No pe)
  (h1:iT cx g (SO f)=true) (h2:f7 cx b xs ps=true) (Gv:0<xs.length) (d1:cL F ps pe=some l)
  (hQ:∀vs s',Pure s s'->Ä cx asg Á s' Na No pe->(cx.top=true->Í s'.heap Na vs l)->(b=false->Í s'.heap (λb=>Na b\/No b) vs l)->wpAny (model Pg W0) A (call (.ref (fA f)) vs) Q E s'):
  wpAny (model Pg W0) A (eval (.Call g xs [] k) Á) Q E s:= by
 apply hO (j3 h1);intro x pos g k1 k2 k3 k4;refine wpAny_Call_NameR (iW GK X k1 k2 k3 λv hv=>?_);cases NB k4;apply xr hv;intro zt;refine lE zt λo fd hg Ub=>?_;clear zt;exact ty (o:=o) (fd:=fd) (z7 h2 Gv (fH H R X h2 d1 λvs bc bY Ki Lf Iw hl=>⟨⟨bY.keep _ _ (X.base.keep _ _ hg),Ub⟩,hQ vs bc bY (X.pure bY) Lf Iw⟩))
theorem yE (GK:ċ) (FK:ù F B) (H:Ķ F B ps):Ç F B (.call f ps):= by
 intro A cx asg Á s Na No pe b e r Q E R X hc hd hQ;apply hO (MV hc);intro g xs k h1 h2 Gv _;refine É (M1 hd) λl d1 d2=>?_;exact S8 GK H R X h1 h2 Gv d1 λvs bc bY Gl Lf Iw=>FK f A bc (λb=>Na b\/No b) vs l r Q E R.b Gl.base (Iw rfl) d2 λv Ã dO hv=>hQ _ _ (bY.trans dO) (.of hv rfl rfl)
theorem û.weak (b:û s N) (h:∀x,N' x->N x):û s N':=⟨b.keep,λx q=>b.above x (h x q),b.size,λx q=>b.low x (h x q),b.toks,b.bare⟩
theorem ND (h:(backTo posc (starEach xs Á)).any (·.1)=false)
  (k:wpAny (model Pg W0) A (evalArgs (Τ f) true (backTo posc (starEach xs Á)) []) (λa bc=>wpAny (model Pg W0) A (call (Τ f) ([]++a.pos) a.kw) Q E bc) E s):
  wpAny (model Pg W0) A (callWith pos (Τ f) [] (backTo posc (starEach xs Á)) []) Q E s:= by
 cases f with
 |int=>exact mv h k
 |_=>exact mf h k
theorem G8 (GK:ċ) (hB:3<=B) (H:Ķ F B ps):Ç F B (.bi f ps):= by
 intro A cx asg Á s Na No pe b e r Q E R X hc hd hQ;apply hO (WY hc);intro g xs k h1 h2 Gv _;refine É (W1 hd) λl d1 d2=>?_;apply hO (j3 h1);intro x pos g k1 k2 k3 k4;refine wpAny_Call_NameR (iW GK X k1 k2 k3 λv hv=>?_);cases NC k4;cases hv;exact ND (mS h2) (z7 h2 Gv (fH H R X h2 d1 λvs bc bY Ki Lf Iw hl=>MH R (X.pure bY).base.toks Ki d2 λv Ã dO hv=>hQ _ _ (bY.trans dO) (.of hv rfl rfl)))
theorem JD (h:(!(args.isEmpty&&kws.isEmpty))=true):attributeBase (.Call g args kws pos) n Á whole=whole:= by
 cases args<;>cases kws
 ·exact nf h
 all_goals (cases g<;>rfl)
theorem S9 (h:u7 o=true):attributeBase o n Á whole=whole:= by
 cases o<;>try rfl
 exact JD h
theorem TA{α:Type}{f:α->Bool}{l:List α}(h:l.any f=false):l.all (λx=>!f x)=true:= by
 induction l with
 |nil=>rfl
 |cons a l ih=>
  have h:=wm.mp (show(f a||l.any f)=false from h);show(!f a&&l.all _)=true;refine O h.1 (O (ih h.2) ?_);rfl
theorem ES (hc:f7 cx b es ps=true) (hl:es.length<=20):((backTo pos (starEach es Á)).all (λx=>!x.1)&&(backToKw pos (keywordEach [] Á)).all (λx=>x.1.isSome)&&decide (es.length+([]:List uw).length+(if ([]:List uw).isEmpty then 0 else 1)<30))=true:= by
 have h:=mS (Á:=Á) (pos:=pos) hc;have h1:=TA h;have h2:decide (es.length+([]:List uw).length+(if ([]:List uw).isEmpty then 0 else 1)<30)=true:=decide_eq_true (ia (show es.length<=20 from hl) (by decide));refine O h1 (O h2 ?_);rfl
theorem NE (f:Me):∃(T:String),PlainAttrs T/\Slot T (meN f) f.id/\typeOf (.builtin f.id)=dx (.type "method_descriptor")/\
  ∀{s:aj}{N:Ap}{v:ag}{p:PV}{l:List PV}{r:PV},RT s.heap N v p->ś f p l=some r->s.TypeIs v T/\(∀a,v=.ref a->∃ob,s.heap.get? a=some ob/\ob.dict=none):= by
 cases f
 ·refine(hV ("str") Ai F.slot_str_join F.type_str_join (λ{s N v p l r} h1 h2=>?_));cases p<;>try (exact nn h2)
  apply ä h1.inv;intro t;exact⟨rfl,λa e=>(nomatch e)⟩
 ·refine(hV ("list") po ze F.type_list_count (λ{s N v p l r} h1 h2=>?_));cases p<;>try (exact nn h2)
  apply fF h1.inv;intro _ _ q _;exact⟨q.isList.typeIs,λa e=>by cases e;refine xe q λn e=>?_;exact(Õ _ e rfl)⟩
 ·refine(hV ("str") Ai F.slot_str_index F.type_str_index (λ{s N v p l r} h1 h2=>?_));cases p<;>try (exact nn h2)
  apply ä h1.inv;intro t;exact⟨rfl,λa e=>(nomatch e)⟩
theorem G9 (GK:ċ) (hB:3<=B) (ho:Ç F B o) (H:Ķ F B ps):Ç F B (.me f o ps):= by
 intro A cx asg Á s Na No pe b e r Q E R X hc hd hQ;apply j7 (WZ hc);intro x ap xs k h1 h2 Gv h4 h5;refine fR (W2 hd) λy l d1 d2 d3=>?_;refine cW (NE f) λT pa sl Ye hk=>?_;refine wpAny_Call_method (S9 h5) (ES h2 Gv.2) h4 pa sl Ye (ho R.n1 X h1 d1 λv bc bY Gf=>?_);have Gl:=X.pure bY;have hq:=hk (s:=bc) Gf.t d3;refine(Ý hq.1 hq.2 (mf (mS h2) (z7 h2 Gv.1 (fH H R.n2 Gl h2 d2 λvs Ã dO Lu Rp Rq hl=>?_))));have Gh:=Gl.pure dO;exact ML (k:=1) (ai _) (R.le (aa (aa (by decide) hB) (jl _ _))) Gh.base.toks (Gh.ns0 GK) (Gf.t.pure dO) Lu d3 λz iF Gw hz=>hQ _ _ ((bY.trans dO).trans Gw) (.of hz rfl rfl)
theorem Ł.keys{K:Type}{Gp:List (K×ag)}{l:List (K×SV)}(r:Ł Gp l):Gp.map (·.1)=l.map (·.1):= by
 induction r with
 |nil=>rfl
 |cons a b ih=>simp[ih]
end
noncomputable def pS (p:PE):Bool:=!(p.ctorIdx==5||p.ctorIdx==6||p.ctorIdx==7||p.ctorIdx==8||p.ctorIdx==9||p.ctorIdx==10)
section
variable{F:Fn}{B:Nat}
variable{A:dm}{cx:Cx}{asg:List Str}{Á:Env}{s:aj}{Na No:Ap}{pe:Å}{E:Vs}
theorem NF (h:aN cx b (.BoolOp o l pos) p=true):pS p=false:=by cases p<;>first|rfl|exact nf h
theorem W5 (h:aN cx b (.IfExp x y z pos) p=true):pS p=false:=by cases p<;>first|rfl|exact nf h
theorem W6 (h:aN cx b (.Compare x y z pos) p=true):pS p=false:=by cases p<;>first|rfl|exact nf h
theorem W7 (h:aN cx b (.UnaryOp .Not x pos) p=true):pS p=false:=by cases p<;>first|rfl|exact nf h
theorem ff{C:Prop}(h:a=true) (h':a=false):C:=nf (h'.symm.trans h)
theorem NG (h:aN cx b (.UnaryOp o x pos) p=true) (hp:pS p=true):
  isTrue (.UnaryOp o x pos) Á whole=(do let v <-whole;standAt (zh o x pos).pos;holding [v] (truthy v)):= by
 cases o<;>first|rfl|exact ff hp (W7 h)
theorem z8 (h:aN cx b e p=true) (hp:pS p=true):
  isTrue e Á whole=(do let v <-whole;standAt e.pos;holding [v] (truthy v)):= by
 cases e<;>first|rfl|exact NG h hp|exact ff hp (NF h)|exact ff hp (W5 h)|exact ff hp (W6 h)
theorem cQ (Jp:pS p=true) (hp:Ç F B p):Û F B p:= by
 intro A cx asg Á s Na No pe b e r Q E R X hc hd hQ;refine Cv (lT hp R X hc hd λs' P _=>hQ s' P) (z8 hc Jp)
theorem NH (hp:Û F B p):Û F B (.not p):= by
 intro A cx asg Á s Na No pe b e r Q E R X hc hd hQ;apply zQ (GZ hc);intro x k h1;refine É (G3 hd) λn d1 e=>?_;cases e;exact Dh (hp R X h1 d1 λs' P=>hQ s' P)
theorem true_and (hp:Û F B p) (hq:Û F B q):Û F B (.and p q):= by
 intro A cx asg Á s Na No pe b e r Q E R X hc hd hQ;apply mK (G0 hc);intro x y k h1 h2;rcases G4 hd with⟨d1,n,d2,e⟩|⟨d1,e⟩
 ·cases e;refine isTrue_and (hp R.lz2 X h1 d1 λs' P=>isTrue_and (hq R.r2 (X.pure P) h2 d2 λÃ dO=>?_));cases r
  ·exact hQ _ (P.trans dO)
  ·exact isTrue_and_nil (hQ _ (P.trans dO))
 ·cases e;exact isTrue_and (hp R.lz2 X h1 d1 λs' P=>hQ _ P)
theorem true_or (hp:Û F B p) (hq:Û F B q):Û F B (.or p q):= by
 intro A cx asg Á s Na No pe b e r Q E R X hc hd hQ;apply mK (MS hc);intro x y k h1 h2;rcases M0 hd with⟨d1,e⟩|⟨d1,n,d2,e⟩
 ·cases e;exact isTrue_or (hp R.lz2 X h1 d1 λs' P=>hQ _ P)
 ·cases e;refine isTrue_or (hp R.lz2 X h1 d1 λs' P=>isTrue_or (hq R.r2 (X.pure P) h2 d2 λÃ dO=>?_));cases r
  ·exact isTrue_or_nil (hQ _ (P.trans dO))
  ·exact hQ _ (P.trans dO)
theorem NI (ht:Û F B t) (hp:Û F B p) (hq:Û F B q):Û F B (.ite t p q):= by
 intro A cx asg Á s Na No pe b e r Q E R X hc hd hQ;apply lP (G1 hc);intro c x y k h1 h2 h3;rcases G5 hd with⟨d1,d2⟩|⟨d1,d2⟩
 ·exact isTrue_IfExp (ht R.m1 X h1 d1 λs' P=>hp R.m2 (X.pure P) h2 d2 λÃ dO=>hQ _ (P.trans dO))
 ·exact isTrue_IfExp (ht R.m1 X h1 d1 λs' P=>hq R.m3 (X.pure P) h3 d2 λÃ dO=>hQ _ (P.trans dO))
theorem NJ (hB:3<=B) (GK:ċ) (hp:Ç F B p) (hq:Ç F B q):Û F B (.cmp op p q):= by
 intro A cx asg Á s Na No pe b e r Q E R X hc hd hQ;apply mK (G2 hc);intro l r' k h1 h2;refine cH (G6 hd) λx y z d1 d2 d3 e=>?_;cases e;exact wpAny_isTrue_Compare1 (two hp hq R X h1 h2 d1 d2 λv u s' P rv ru X'=>gO (k:=3) (ai _) (R.le (aa hB (jl _ _))) (X'.ns0 GK) rv ru d3 λÃ dO=>wpAny_truthy_bool (hQ _ (P.trans dO))) (mR h2)
theorem JE (hB:3<=B) (GK:ċ) (hp:Ç F B p) (hq:Ç F B q) (hr:Ç F B c):Û F B (.cmp2 op Je p q c):= by
 intro A cx asg Á s Na No pe b e r Q E R X hc hd hQ;apply lP (B7 hc);intro l m n k h1 h2 h3;refine fR (B9 hd) λx y d1 d2 d3=>?_;have R3:Ê A 3:=R.le (aa hB (jl _ _));refine isTrue_chain (hp R.m1 X h1 d1 λv bc bY Gf=>test_link ?_) (mR (op:=Je) h3);have Gl:=X.pure bY;refine hq R.m2 Gl h2 d2 λu Ã dO Ha=>?_;have Gh:=Gl.pure dO;have P12:=bY.trans dO;rcases d3 with⟨hz,z,t,d3,Nb,e⟩|⟨hz,e⟩
 ·cases e;refine gO (k:=3) (ai _) R3 (Gh.ns0 GK) (Gf.t.pure dO) Ha.t hz λiF Gw=>wpAny_truthy_bool ?_;have Gm:=Gh.pure Gw;refine test_last (hr R.m3 Gm h3 d3 λm s₄ Hs Oo=>?_);have P34:=Gw.trans Hs;exact gO (k:=3) (ai _) R3 ((Gm.pure Hs).ns0 GK) (Ha.t.pure P34) Oo.t Nb λGo Hk=>wpAny_truthy_bool (hQ _ ((P12.trans P34).trans Hk))
 ·cases e;exact gO (k:=3) (ai _) R3 (Gh.ns0 GK) (Gf.t.pure dO) Ha.t hz λiF Gw=>wpAny_truthy_bool (hQ _ (P12.trans Gw))
end
noncomputable def yF (n:String):Bool:=["enumerate","zip","dict_itemiterator","dict_reverseitemiterator","odict_iterator","itertools.zip_longest","itertools.pairwise"].contains n
def ŋ (s:aj) (N:Ap) (I:ew) (À:List PV):Prop:=
 ∃(fp:List ew) (P:Nat->ag->Prop) (St:Nat->jg->Prop),
  (∀A:dm,A.handled=none->Fp Pg W0 A I fp [I] À.length P St)/\St 0 s.heap/\(∀i h,St i h->∃o,h.get? I=some o/\(∀v,o.data≠.cell v)/\∃n,o.cls=.type n/\yF n=false)/\
  (∀b∈fp,b=I\/¬N b/\b<s.heap.objs.size)/\(∀i v,i<À.length->P i v->∃p,À[i]?=some p/\RV s.heap (λb=>N b\/b=I) v p)
section
variable (F:Fn) (B:Nat)
def ă (p:PI):Prop:=∀{A:dm}{cx:Cx}{asg:List Str}{Á:Env}{s:aj}{Na No:Ap}{pe:Å}{e:ar}{À:List PV}{Q:Vs}{E:Vs},
 Ê A (ndi p+B)->Ä cx asg Á s Na No pe->tG cx e p=true->gZ F p pe=some À->
 (∀I s',Pure s s'->s.heap.objs.size<=I->I<s'.heap.objs.size->À.length<=100000->ŋ s' (λb=>Na b\/No b) I À->Q (.ref I) s')->
 wpAny (model Pg W0) A (eval e Á) (λx bc=>wpAny (model Pg W0) A (pyIter x) Q E bc) E s
end
section
variable{F:Fn}{B:Nat}
variable{A:dm}{cx:Cx}{asg:List Str}{Á:Env}{s:aj}{Na No:Ap}{pe:Å}{E:Vs}
theorem mT{s:aj}{N:Ap}{o:Obj}{fp:List ew}{P:Nat->ag->Prop}{St:Nat->jg->Prop}{À:List PV}{n:String}(Uc:o.cls=.type n) (Gs:∀v,o.data≠.cell v) (hg:yF n=false)
  (hw:∀A:dm,A.handled=none->Fp Pg W0 A s.heap.objs.size fp [s.heap.objs.size] À.length P St) (h0:St 0 (s.heap.push o)) (ho:∀i h,St i h->∃o',h.get? s.heap.objs.size=some o'/\o'.cls=o.cls/\∀v,o'.data≠.cell v)
  (hf:∀b∈fp,b=s.heap.objs.size\/¬N b/\b<s.heap.objs.size) (hv:∀i v,i<À.length->P i v->∃p,À[i]?=some p/\RV (s.heap.push o) (λb=>N b\/b=s.heap.objs.size) v p):
  ŋ {s with heap:=s.heap.push o} N s.heap.objs.size À:=
 ⟨fp,P,St,hw,h0,λi h st=>let ⟨o',h1,h2,h3⟩:=ho i h st;⟨o',h1,h3,n,h2.trans Uc,hg⟩,λb hb=>(hf b hb).imp id λq=>⟨q.1,ae q.2 (by rw[bn];exact jh _)⟩,hv⟩
theorem CM (ra:Í s.heap N vs l) (Gu:i<l.length) (hv:vs.toArray[i]?=some v):∃p,l[i]?=some p/\RV (s.heap.push o) (λb=>N b\/b=s.heap.objs.size) v p:= by
 have r:=ra.avoid (h':=s.heap.push o) (a:=s.heap.objs.size) (λ_ _ e=>bx _ e) (by exact O (bn ..) (jh _)) (ai _);have e:=bl Gu;refine É (r.get e) λu hu hr=>?_;rw[jz] at hv;rw[hv] at hu;cases hu;exact(Õ _ e hr)
theorem NK{N:Ap}{a b n:ew}(hn:¬N a) (Gu:a<n) (hb:b∈[n,a]):b=n\/¬N b/\b<n:= by
 rcases az.mp hb with rfl|hb
 ·exact .inl rfl
 ·exact O (cg.mp hb) (.inr ⟨hn,Gu⟩)
theorem oS{h:jg}{o:Obj}:h.objs.size<(h.push o).objs.size:=by exact O (bn ..) (di _)
section
variable{v:ag}{p:PV}{À:List PV}{Q:Vs}{N:Ap}
def ItQ (s:aj) (N:Ap) (À:List PV) (Q:Vs):Prop:=∀I s',Pure s s'->s.heap.objs.size<=I->I<s'.heap.objs.size->À.length<=100000->ŋ s' N I À->Q (.ref I) s'
theorem W8{a:ew}{vs:List ag}{l:List PV}(hn:¬N a) (pa:s.heap.PlainList a vs.toArray) (ra:Í s.heap N vs l) (hl:l.length<=100000) (hQ:ItQ s N l Q):wpAny (model Pg W0) A (pyIter (.ref a)) Q E s:= by
 have Gu:a<s.heap.objs.size:=let ⟨n,e⟩:=pa;da e;refine wpAny_pyIter_list pa.isList (hQ _ _ (Pure.push s _ (ai _)) (ai _) oS hl (mT (fp:=[s.heap.objs.size,a]) (P:=λi v=>vs.toArray[i]?=some v) (St:=λi h=>h.IsListIter s.heap.objs.size a i/\h.IsList a vs.toArray) (n:="list_iterator") rfl (λv e=>nomatch e) (by decide) (λA' hA=>?_)
  ⟨⟨_,cj _ rfl,rfl,rfl⟩,pa.isList.at λo e=>bx _ e⟩ (λi h st=>let ⟨⟨o,ho,hc,hd⟩,_⟩:=st;⟨o,ho,hc,λv e=>by rw[hd] at e;cases e⟩) (λb hb=>NK hn Gu hb) (λi v=>CM ra)))
 have:=yj (prog:=Pg) (w:=W0) hA s.heap.objs.size a (fc Gu) vs.toArray;rw[show vs.toArray.size=l.length from ra.length] at this;exact this
theorem W9{a:ew}{vs:List ag}{l:List PV}(hn:¬N a) (pa:Ô s.heap a vs.toArray) (ra:Í s.heap N vs l) (hl:l.length<=100000) (hQ:ItQ s N l Q):wpAny (model Pg W0) A (pyIter (.ref a)) Q E s:= by
 have Gu:a<s.heap.objs.size:=let ⟨n,e⟩:=pa;da e;refine wpAny_pyIter_tuple pa.isTuple (hQ _ _ (Pure.push s _ (ai _)) (ai _) oS hl (mT (fp:=[s.heap.objs.size,a]) (P:=λi v=>vs.toArray[i]?=some v) (St:=λi h=>h.IsTupleIter s.heap.objs.size a i/\h.IsTuple a vs.toArray) (n:="tuple_iterator") rfl (λv e=>nomatch e) (by decide) (λA' hA=>?_)
  ⟨⟨_,cj _ rfl,rfl,rfl⟩,let ⟨o,h1,h2⟩:=pa.isTuple;⟨o,bx _ h1,h2⟩⟩ (λi h st=>let ⟨⟨o,ho,hc,hd⟩,_⟩:=st;⟨o,ho,hc,λv e=>by rw[hd] at e;cases e⟩) (λb hb=>NK hn Gu hb) (λi v=>CM ra)))
 have:=Aw (prog:=Pg) (w:=W0) hA s.heap.objs.size a (fc Gu) vs.toArray;rw[show vs.toArray.size=l.length from ra.length] at this;exact this
theorem NL (hv:SignAt x i v):∃p,(x.cps.toList.map λc=>PV.str ⟨#[c]⟩)[i]?=some p/\RV h N v p:= by
 obtain⟨c,u,hc,rfl⟩:=hv;exact(Õ (.str ⟨#[c]⟩) (by simp[hc]) (.str _ _))
theorem XA{x:Str}{t:Tok}(hc:x.length<=100000/\x.cps.all (·<128)) (hQ:ItQ s N (x.cps.toList.map λc=>.str ⟨#[c]⟩) Q):wpAny (model Pg W0) A (pyIter (.str x t)) Q E s:= by
 have hl:(x.cps.toList.map λc=>PV.str ⟨#[c]⟩).length=x.cps.size:=eb ..;refine wpAny_pyIter_ascii hc.2 (hQ _ _ (Pure.push s _ (ai _)) (ai _) oS (by exact O hl hc.1) (mT (fp:=[s.heap.objs.size]) (P:=SignAt x) (St:=λi h=>h.IsStrIter s.heap.objs.size "str_ascii_iterator" x t i) (n:="str_ascii_iterator") rfl (λv e=>nomatch e) (by decide) (λA' hA=>?_)
  ⟨_,cj _ rfl,rfl,rfl⟩ (λi h st=>let ⟨o,ho,hc,hd⟩:=st;⟨o,ho,hc,λv e=>by rw[hd] at e;cases e⟩) (λb hb=>.inl (cg.mp hb)) (λi v _ hv=>NL hv)))
 have:=Fp.strAscii (prog:=Pg) (w:=W0) hA s.heap.objs.size x t;rw[<-hl] at this;exact this
theorem NM (hN:Ė N s.heap) (rv:RV s.heap N v p) (h:pP p=some À) (hQ:ItQ s N À Q):wpAny (model Pg W0) A (pyIter v) Q E s:= by
 cases p<;>try (exact nn h)
 ·apply ä rv.inv;intro t;have h:=aZ h;cases sm h.2;exact XA h.1 hQ
 ·apply j6 rv.inv;intro a vs hn pa ra;have h:=aZ h;cases sm h.2;exact W9 hn pa ra h.1 hQ
 ·apply j6 rv.inv;intro a vs hn pa ra;have h:=aZ h;cases sm h.2;exact W8 hn pa ra h.1 hQ
end
theorem pT{s':aj}{r:ew}{a b c:Int}{t u v:Tok}{n:Nat}{À:List PV}{Q:Vs}{N:Ap}(P:Pure s s') (hr:IsRange s'.heap r a b c t u v) (hs:lu a b c=true)
  (hn:fe a b c=n) (hi:À=(cw n).map λk:Nat=>PV.int (a+(k:Int)*c)) (hlen:n<=100000)
  (hQ:ItQ s N À Q):wpAny (model Pg W0) A (pyIter (.ref r)) Q E s':= by
 have hl:À.length=n:=by exact O hi (O (eb ..) (O pg rfl))
 subst hl;refine wpAny_pyIter_range hr hs (hQ _ _ (P.trans (Pure.push s' _ (ai _))) P.step.grow oS hlen (mT (fp:=[s'.heap.objs.size]) (P:=λi v=>∃t,v=.int (a+i*c) t) (St:=λi h=>Er h s'.heap.objs.size (a+(i:Nat)*c) ((À.length:Int)-(i:Nat)) c) (n:="range_iterator") rfl (λv e=>nomatch e) (by decide)
  (λA' hA=>Fp.range (prog:=Pg) (w:=W0) hA s'.heap.objs.size a c À.length) ?_ (λi h st=>(jC _ st rfl (λv e=>nomatch e))) (λb hb=>.inl (cg.mp hb)) (λi v Gu hv=>?_)))
 ·have:=cj s'.heap (o:={cls:=.type "range_iterator",data:=.fields #[rawInt a,rawInt (fe a b c),rawInt c]}) rfl;rw[hn] at this⊢
  simpa [Er] using this
 ·apply ä hv;intro t;clear hv;refine(Õ (.int (a+(i:Int)*c)) ?_ (.int _ _));refine O hi (O (dr) (O (List.getElem?_range Gu) ?_));rfl
theorem rsz (a b:Int):(if a<b then(b-a-1)/1+1 else 0)=((b-a).toNat:Int):= by
 by_cases h:a<b
 ·rw[if_pos h,Dr,Int.sub_add_cancel,bw (bt (de h))]
 ·rw[if_neg h,Int.toNat_eq_zero.mpr (Int.sub_nonpos_of_le (dt.mp h))];rfl
theorem vA (h:mO a b=some À):lu a b 1=true/\fe a b 1=((b-a).toNat:Nat)/\À=(cw (b-a).toNat).map (λk:Nat=>PV.int (a+(k:Int)*1))/\(b-a).toNat<=100000:= by
 have h:=aZ h;have hc:=h.1;cases sm h.2;clear h;have hs:fe a b 1=((b-a).toNat:Nat):= by
  unfold fe;exact O (if_pos (by decide)) (rsz a b)
 refine(d9 ?_ hs (ej λk _=>by exact O (Es ..) rfl) (ot.mpr hc.2.2.2.2));unfold lu;refine O hs ?_;clear hs;simp only[rg,be,ml,decide_eq_true_eq,beq_iff_eq];refine⟨⟨⟨⟨by exact⟨ñ (.l (.G .ky) .a) [.t (.G .kw) .a] hc.1,ñ (.t .a .ky) [.t .a .kw] hc.2.1⟩,by exact⟨ñ (.l (.G .ky) .a) [.t (.G .kw) .a] hc.2.2.1,ñ (.t .a .ky) [.t .a .kw] hc.2.2.2.1⟩⟩,by exact⟨ů (.l (.G .ky) .n1) [],ů (.t .n1 .ky) []⟩⟩,by have hn:(b-a).toNat<=100000:=ot.mpr hc.2.2.2.2;clear hc;generalize (b-a).toNat=n at*;lia⟩,.inr ?_⟩;refine O (if_pos (by decide)) ?_;simp only[be,decide_eq_true_eq];exact⟨ñ (.l (.G .ky) (.A .a (.S .n1 .n1))) [.t (.G .kw) .a] hc.2.2.1,ñ (.t (.A .a (.S .n1 .n1)) .ky) [.t .a .kw] hc.2.2.2.1⟩
theorem ET (h:uW a b=some À):lu a b (-1)=true/\fe a b (-1)=((a-b).toNat:Nat)/\À=(cw (a-b).toNat).map (λk:Nat=>PV.int (a+(k:Int)*(-1)))/\(a-b).toNat<=100000:= by
 have h:=aZ h;have hc:=h.1;cases sm h.2;clear h;have hs:fe a b (-1)=((a-b).toNat:Nat):= by
  unfold fe;exact O (if_neg (by decide)) (rsz b a)
 refine(d9 ?_ hs (ej λk _=>congrArg PV.int (by clear hs hc;exact Ď [_] [_] (.e (.S .a .q) (.A .a (.M .q .kn))) [])) (ot.mpr hc.2.2.2.2));unfold lu;refine O hs ?_;clear hs;simp only[rg,be,ml,decide_eq_true_eq,beq_iff_eq];refine⟨⟨⟨⟨by exact⟨ñ (.l (.G .ky) .a) [.t (.G .kw) .a] hc.1,ñ (.t .a .ky) [.t .a .kw] hc.2.1⟩,by exact⟨ñ (.l (.G .ky) .a) [.t (.G .kw) .a] hc.2.2.1,ñ (.t .a .ky) [.t .a .kw] hc.2.2.2.1⟩⟩,by exact⟨ů (.l (.G .ky) .kn) [],ů (.t .kn .ky) []⟩⟩,by have hn:(a-b).toNat<=100000:=ot.mpr hc.2.2.2.2;clear hc;generalize (a-b).toNat=n at*;lia⟩,.inr ?_⟩;refine O (if_neg (by decide)) ?_;simp only[be,decide_eq_true_eq];exact⟨ñ (.l (.G .ky) (.A .a (.A .kn .n1))) [.t (.G .kw) .a] hc.2.2.1,ñ (.t (.A .a (.A .kn .n1)) .ky) [.t .a .kw] hc.2.2.2.1⟩
theorem NN (hp:Ç F B p):ă F B (.val p):= by
 intro A cx asg Á s Na No pe e À Q E R X hc hd hQ;refine É (S5 hd) λq d1 hd=>?_;exact hp R X hc d1 λv bc bY Gf=>NM (X.pure bY).low (Gf.f rfl) hd λI Ã dO h1 h2 h3 h4=>hQ I Ã (bY.trans dO) (aa bY.step.grow h1) h2 h3 h4
theorem vB (GK:ċ) (X:Ä cx asg Á s Na No pe) (h1:iT cx g sV=true) (hb:backTo k (starEach xs Á)=args) (hp:args.any (·.1)=false)
  (h:wpAny (model Pg W0) A (evalArgs (.type "range") true args []) (λa bc=>wpAny (model Pg W0) A (call (.type "range") ([]++a.pos) a.kw) Q E bc) E s):wpAny (model Pg W0) A (eval (.Call g xs [] k) Á) Q E s:= by
 apply hO (j3 h1);intro y ypos g k1 k2 k3 k4;refine wpAny_Call_NameR (iW GK X k1 k2 k3 λv hv=>?_);cases JC k4;cases hv;exact O hb (mv hp h)
theorem JF (GK:ċ){p:PE}(hp:Ç F B p):ă F B (.rng1 p):= by
 intro A cx asg Á s Na No pe e À Q E R X hc hd hQ;apply RP (MW hc);intro g x k h1 h2 h3;refine É (M3 hd) λn d1 hd=>?_;refine bE (vA hd) λq1 q2 q3 q4=>?_;refine vB GK X h1 (cM h3) rfl (ig (fi (hp R X h2 d1 λv bc bY Gf=>ji ?_)));apply ä Gf.int;intro t;exact call_range_1 (pT (bY.trans (Pure.push bc _ (gm (jh _)))) (Ax _ _ _ _ _ _ _) q1 q2 q3 q4 hQ)
theorem JG (GK:ċ){p q:PE}(hp:Ç F B p) (hq:Ç F B q):ă F B (.rng2 p q):= by
 intro A cx asg Á s Na No pe e À Q E R X hc hd hQ;apply j7 (MX hc);intro g x z k h1 h2 h3 h4 h5;refine fR (M4 hd) λa b d1 d2 hd=>?_;refine bE (vA hd) λq1 q2 q3 q4=>?_;refine vB GK X h1 ((cM h4).trans (congrArg _ (cM h5))) rfl (ig (fi (hp R.n1 X h2 d1 λv bc bY Gf=>fi (hq R.n2 (X.pure bY) h3 d2 λu Ã dO Ha=>ji ?_))));apply ä Gf.int;intro t;apply ä Ha.int;intro u;exact call_range_2 (pT ((bY.trans dO).trans (Pure.push Ã _ (iy _ _))) (Ax _ _ _ _ _ _ _) q1 q2 q3 q4 hQ)
theorem JH (GK:ċ){p q:PE}(hp:Ç F B p) (hq:Ç F B q):ă F B (.rng3 p q):= by
 intro A cx asg Á s Na No pe e À Q E R X hc hd hQ;refine fZ (MY hc) λg x z n zt=>?_;apply hO zt;intro p1 p2 k h1 h2 h3 zt;refine xa zt λh4 h5=>?_;clear zt;refine fR (M5 hd) λa b d1 d2 hd=>?_;refine bE (ET hd) λq1 q2 q3 q4=>?_;refine vB GK X h1 ((cM h4).trans (congrArg _ (cM h5))) rfl (ig (fi (hp R.n1 X h2 d1 λv bc bY Gf=>fi (hq R.n2 (X.pure bY) h3 d2 λu Ã dO Ha=>fi (wpAny_UnaryOp (wpAny_mkInt (Fx (ji ?_))))))));apply ä Gf.int;intro t;apply ä Ha.int;intro u;exact call_range_3 (by decide) (pT ((bY.trans dO).trans (Pure.push Ã _ (gm (jh _)))) (Ax _ _ _ _ _ _ _) q1 q2 q3 q4 hQ) (Or.inl (uv (by decide)))
end
noncomputable def ű:Å->Nat->Å
 |[],_=>[]
 |_::l,0=>none::l
 |a::l,n+1=>a::ű l n
theorem HA:ű [] n=[]:=rfl
theorem yG:ű (a::l) 0=none::l:=rfl
theorem yH:ű (a::l) (n+1)=a::ű l n:=rfl
theorem EU:∀{pe:Å}{i:Nat},lk (ű pe i) j=some q->j≠i/\lk pe j=some q
 |[],_,h=>by simp[HA,yG,yH,nU,nM,nN] at h
 |a::l,0,h=>by
  cases j with
  |zero=>simp[HA,yG,yH,nU,nM,nN] at h
  |succ j=>exact⟨by simp,by simpa [yG,yH,nU,nM,nN] using h⟩
 |a::l,n+1,h=>by
  cases j with
  |zero=>exact⟨by simp,by simpa [yG,yH,nU,nM,nN] using h⟩
  |succ j=>
   dsimp only[HA,yG,yH,nU,nM,nN] at h⊢
   have:=EU (pe:=l) h;exact⟨by lia,this.2⟩
theorem NO:∀{pe:Å}{i:Nat},st (ű pe i) i p=st pe i p
 |[],_=>rfl
 |_::_,0=>rfl
 |a::l,n+1=>by simp only[HA,yG,yH,B4,bP,bQ,NO]
theorem VY:∀{pe:Å}{i:Nat},st (st pe i p) i q=st pe i q
 |[],_=>rfl
 |_::_,0=>rfl
 |a::l,n+1=>by simp only[B4,bP,bQ,VY]
noncomputable def Ŕ (Á:Env):List (Str×ln)->List (Str×ew)->List (Str×ew)
 |[],acc=>acc
 |(n,k)::r,acc=>if k==.free then Ŕ Á r ((n,(Á.cells.lookup n).getD 0)::acc) else Ŕ Á r acc
theorem NP:Ŕ Á ((n,k)::r) acc=if k==.free then Ŕ Á r ((n,(Á.cells.lookup n).getD 0)::acc) else Ŕ Á r acc:=rfl
theorem lG (f:Str×ln->List (Str×ew)->Sem (ForInStep (List (Str×ew))))
  (hf:∀n k cs,f (n,k) cs=if k==.free then(do let a <-cellOf Á n;dx (.yield ((n,a)::cs))) else dx (.yield cs)):
  ∀(names:List (Str×ln)) (acc:List (Str×ew)),(∀n,(n,dk)∈names->∃c,Á.cells.lookup n=some c)->forIn names acc f=dx (Ŕ Á names acc)
 |[],acc,_=>by refine O ph ?_;rfl
 |(n,k)::r,acc,h=>by
  refine O (Bm ..) (O (hf ..) ?_);refine O NP ?_
  by_cases hk:(k==dk)=true
  ·refine O (if_pos hk) (O (if_pos hk) ?_);refine xe (h n (by exact O (am hk) ak)) λc hc=>?_;unfold cellOf;refine O hc ?_
   dsimp only[pure_bind,pw]
   exact lG f hf r _ λm hm=>h m (er _ hm)
  ·refine O (if_neg hk) (O (if_neg hk) ?_);simp only[pure_bind];exact lG f hf r _ λm hm=>h m (er _ hm)
theorem vC (h:∀n,(n,dk)∈scope.names->∃c,Á.cells.lookup n=some c):closureFor scope Á=dx (Ŕ Á scope.names []):= by
 unfold closureFor
 dsimp only
 refine O (lG (Á:=Á) _ (λn k cs=>by
  by_cases hk:(k==dk)=true
  ·dsimp only[hk,if_true]
  ·simp only[Aj] at hk;simp only[hk,ay,if_false]) scope.names [] h) ?_
 rfl
theorem cS{V:Type}{l:List (Str×V)}:∀{x:Str}{v:V},eB (l.map (·.1))=true->(x,v)∈l->l.lookup x=some v:= by
 induction l with
 |nil=>exact λ_ hm=>nomatch hm
 |cons a l ih=>
  obtain⟨y,u⟩:=a;intro x v h hm;simp only[al,lR,be,ds,fr,decide_eq_false_iff_not] at h;rcases az.mp hm with e|hm
  ·cases e;simp
  ·have Gv:x≠y:=λe=>h.1 (e▸ip (f:=(·.1)) hm);exact O dp (O (show(x==y)=false from by simpa using Gv) (ih h.2 hm))
theorem bI{V:Type}:∀{l:List (Str×V)}{x:Str}{v:V},l.lookup x=some v->(x,v)∈l
 |(y,u)::l,x,v,h=>by
  rw[dp] at h;split at h
  ·rename_i e;cases h;exact O (am e) ak
  ·exact er _ (bI h)
theorem lU:∀{names:List (Str×ln)}{acc:List (Str×ew)},(y,dk)∉names->(Ŕ Á names acc).lookup y=acc.lookup y
 |[],_,_=>rfl
 |(n,k)::r,acc,h=>by
  refine O NP ?_;have hr:(y,dk)∉r:=λq=>h (er _ q);split
  ·rename_i hk;refine O (lU hr) (O dp ?_);have:(y==n)=false:= by
    simp only[beq_eq_false_iff_ne,ne_eq]
    rintro rfl
    exact h (by exact O (am hk) ak)
   exact O this rfl
  ·exact lU hr
theorem vD:∀{names:List (Str×ln)}{acc:List (Str×ew)},eB (names.map (·.1))=true->(y,dk)∈names->(Ŕ Á names acc).lookup y=some ((Á.cells.lookup y).getD 0)
 |(n,k)::r,acc,hn,h=>by
  refine O NP ?_;simp only[al,lR,be,ds,fr,decide_eq_false_iff_not] at hn;rcases az.mp h with e|h'
  ·cases e;refine O (if_pos (by rfl)) (O (lU (λq=>hn.1 (ip (f:=(·.1)) q))) ?_);simp
  ·split
   ·exact vD hn.2 h'
   ·exact vD hn.2 h'
theorem dM:∀{names:List (Str×ln)}{n:Nat}{acc:List (Str×ew)},(y,fz)∉names->(cellsFrom n names acc).lookup y=acc.lookup y
 |[],_,_,_=>rfl
 |(m,k)::r,n,acc,h=>by
  unfold cellsFrom;have hr:(y,fz)∉r:=λq=>h (er _ q);split
  ·rename_i hk;refine O (dM hr) (O dp ?_);have:(y==m)=false:= by
    simp only[beq_eq_false_iff_ne,ne_eq]
    rintro rfl
    exact h (by exact O (am hk) ak)
   exact O this rfl
  ·exact dM hr
theorem kA{names:List (Str×ln)}:∀{h:jg}{acc:List (Str×ew)},eB (names.map (·.1))=true->(y,fz)∈names->
  ∃c,(cellsFrom h.objs.size names acc).lookup y=some c/\h.objs.size<=c/\(pushCells h names).IsCell c none:= by
 induction names with
 |nil=>exact λ_ hm=>nomatch hm
 |cons a r ih=>
  obtain⟨m,k⟩:=a;intro h acc hn hm;unfold cellsFrom pushCells;simp only[al,lR,be,ds,fr,decide_eq_false_iff_not] at hn;rcases az.mp hm with e|h'
  ·cases e;refine O (if_pos (by rfl)) (O (if_pos (by rfl)) (jC h.objs.size ?_ (ai _) ?_))
   ·refine O (dM (λq=>hn.1 (ip (f:=(·.1)) q))) ?_;simp
   ·exact(Õ _ (pushCells_keeps r _ _ _ (cj _ rfl)) rfl)
  ·split
   ·have:=ih (h:=h.push {cls:=.type "cell",data:=.cell none}) (acc:=(m,h.objs.size)::acc) hn.2 h';rw[bn] at this;refine nQ this λc h1 h2 h3=>?_;exact(jC c h1 (by exact Ò (.x .q .r) [.x .kc .r] h2) h3)
   ·exact ih hn.2 h'
theorem iC:∀(names:List (Str×ln)) (h:jg),h.objs.size<=(pushCells h names).objs.size
 |[],_=>ai _
 |(_,k)::r,h=>by
  unfold pushCells;split
  ·exact aa (by simp[bn]) (iC r _)
  ·exact iC r h
section
variable{M:Fo}{A:dm}{E:Vs}{s:aj}{Á:Env}
theorem xG
  (h:Q {scope,locals:=s.heap.objs.size,globals,cells:=cellsFrom (s.heap.objs.size+1) scope.names cl,qual,func:=none,code:=Á.code,frame:=Á.frame,builtins:=Á.builtins}
   {s with heap:=pushCells (s.heap.push {cls:=.type "dict",data:=.dict #[]}) scope.names}):
  wpAny M A (newFunctionEnv scope globals cl [] qual none .none (some Á)) Q E s:= by
 unfold newFunctionEnv;refine bj (wpAny_alloc ?_);refine bj (wpAny_layCells _ (λname kind cells=>?_) scope.names cl _ _ ?_)
 ·by_cases hk:(kind==fz)=true
  ·simp only[hk,if_true]
  ·simp only[Aj] at hk;simp only[hk,ay,if_false]
 ·dsimp only[Option.isSome_some,if_true]
  refine O (bn ..) (O ph ?_);exact bj (cv (cv h))
end
theorem nX{Á:Env}{names:List (Str×ln)}{y:Str}{k:ln}(h:names.lookup y=some k):
  (k≠.free->(names.map λ(n,k)=>if (k==dk&&Á.scope.kind==.function&&Á.kindOf n==some .cell) then(n,fz) else(n,k)).lookup y=some k)/\
  (k=.free->(names.map λ(n,k)=>if (k==dk&&Á.scope.kind==.function&&Á.kindOf n==some .cell) then(n,fz) else(n,k)).lookup y=some .cell\/
   (names.map λ(n,k)=>if (k==dk&&Á.scope.kind==.function&&Á.kindOf n==some .cell) then(n,fz) else(n,k)).lookup y=some .free):= by
 induction names with
 |nil=>simp at h
 |cons a r ih=>
  obtain⟨n,k'⟩:=a;rw[dp] at h;simp only[al];cases hx:y==n with
  |true=>
   simp only[hx] at h;cases h
   by_cases hc:(k==dk&&Á.scope.kind==.function&&Á.kindOf n==some .cell)=true
   ·refine O (if_pos hc) (O dp ?_);simp only[hx];simp only[be] at hc;exact⟨λq=>absurd (am hc.1.1) q,λ_=>.inl trivial⟩
   ·refine O (if_neg hc) (O dp ?_);simp only[hx];exact⟨λ_=>trivial,λq=>.inr (by exact O q rfl)⟩
  |false=>
   simp only[hx] at h;have:=ih h
   by_cases hc:(k'==dk&&Á.scope.kind==.function&&Á.kindOf n==some .cell)=true
   ·refine O (if_pos hc) (O dp ?_);simp only[hx];exact this
   ·refine O (if_neg hc) (O dp ?_);simp only[hx];exact this
def jT{cx:Cx}{sc:ja}{x:Str}{i:Nat} :Prop:=∀(h:pQ cx sc x i=true),sc.kind=.function/\eB (sc.names.map (·.1))=true/\((x,ln.local)∈sc.names\/(x,fz)∈sc.names)/\
  (∀y k,(y,k)∈sc.names->k=.local\/(k=.cell/\y=x)\/k=.globalImplicit\/(k=.free/\(cx.vars.lookup y).isSome=true/\cx.vars.lookup y≠some i/\(cx.kinds.lookup y=some .cell\/cx.kinds.lookup y=some .free)))/\cx.own.contains i=false
def i8:=@gX _ ⟨(((⟨[],[],[],[],false⟩,ac),ac),ac)⟩ (a7 (a7 (a7 @jT)))
theorem CN:@jT i8.1.1.1 i8.1.1.2 i8.1.2 i8.2:= by
 intro h;unfold pQ at h;simp only[be,ds,ml,ao] at h;obtain⟨⟨⟨⟨⟨⟨h1,_⟩,_⟩,h2⟩,h3⟩,h4⟩,h5⟩:=h;refine(jD (am h1) h2 (h3.imp (λq=>bI (am q)) (λq=>bI (am q))) (λy k hm=>?_) h5);have:=h4 (y,k) hm;simp only at this;rcases this with((⟨q,_⟩|⟨q1,q2⟩)|q)|⟨⟨⟨q1,q2⟩,q3⟩,q4⟩
 ·exact .inl (am q)
 ·exact .inr (.inl ⟨am q1,am q2⟩)
 ·exact .inr (.inr (.inl (am q)))
 ·exact .inr (.inr (.inr (d9 (am q1) q2 (by simpa using q3) (q4.imp (λq=>am q) (λq=>am q)))))
theorem pU:@jT cx sc x i:=iA (a7 (a7 (a7 @jT))) (((cx,sc),x),i) CN
theorem gU (h:(iB cx names x i).vars.lookup y=some j):(y=x/\j=i)\/(y≠x/\(y,dk)∈names/\cx.vars.lookup y=some j):= by
 unfold iB at h
 dsimp only[dp] at h
 split at h
 ·rename_i e;cases h;exact .inl ⟨am e,rfl⟩
 ·rename_i e;have hm:=bI h;obtain⟨⟨n,k⟩,hn,he⟩:=yk.mp hm;simp only at he;split at he
  ·rename_i hk;cases hl:cx.vars.lookup n with
   |none=>rw[hl] at he;cases he
   |some j'=>
    rw[hl] at he;simp only[bm,gn,Prod.mk.injEq] at he;refine xa he λaT Gq=>?_;subst aT;subst Gq;exact .inr (Ý (by simpa using e) (by exact aBD (am hk) hn) hl)
  ·cases he
section
variable{F:Fn}{B:Nat}
variable{A:dm}{cx:Cx}{asg:List Str}{Á:Env}{s:aj}{Na No:Ap}{pe:Å}{E:Vs}
def pV (sc:ja) (Á:Env) (C:ew):Env:=
 {scope:=relabel sc Á,locals:=C,globals:=Á.globals,cells:=cellsFrom (C+1) sc.names (Ŕ Á sc.names []),qual:=Á.qual,func:=none,code:=Á.code,frame:=Á.frame,builtins:=Á.builtins}
noncomputable def kB (sc:ja) (h:jg):jg:=pushCells (h.push {cls:=.type "dict",data:=.dict #[]}) sc.names
theorem vE (sc:ja) (s:aj):Pure s {s with heap:=kB sc s.heap}:=
 Pure.of_heap (t:=s.toks) (λb o e=>pushCells_keeps _ _ _ _ (bx _ e)) (aa (by simp[bn]) (iC _ _)) (ai _)
theorem qN (sc:ja) (h:jg):h.objs.size<(kB sc h).objs.size:=ae (by simp[bn]) (iC sc.names _)
def k_E{sc:ja}{x:Str}{i:Nat}:Prop:=∀(X:Ä cx asg Á s Na No pe) (Hj:pQ cx sc x i=true),Ä (iB cx sc.names x i) [x] (pV sc Á s.heap.objs.size) {s with heap:=kB sc s.heap} Na (λb=>No b\/(s.heap.objs.size<=b/\b<(kB sc s.heap).objs.size)) (ű pe i)
def jU:=@gX _ ⟨(((((((((⟨[],[],[],[],false⟩,ac),ac),{}),ac),ac),ac),ac),ac),ac)⟩ (bH (bH (a7 @k_E)))
def iU:=jU.1.1.1.1.1.1.1.2
def Č:=jU.1.1.1.1.1.1.2
def iE:=jU.1.1.2
theorem JI:@k_E jU.1.1.1.1.1.1.1.1.1 jU.1.1.1.1.1.1.1.1.2 iU Č jU.1.1.1.1.1.2 jU.1.1.1.1.2 jU.1.1.1.2 iE jU.1.2 jU.2:= by
 intro X Hj;refine jB (pU Hj) λhk Jn hx Ix hown=>?_;have P:=vE iE Č;have Kc:Č.heap.objs.size+1=(Č.heap.push {cls:=.type "dict",data:=.dict #[]}).objs.size:=by simp[bn]
 have W:ā Č jU.1.1.1.1.2 {Č with heap:=kB iE Č.heap} (λb=>jU.1.1.1.1.2 b\/(Č.heap.objs.size<=b/\b<(kB iE Č.heap).objs.size)):=
  ⟨P,λ_ q=>.inl q,λb q=>q.imp id (·.1),λb q=>q.elim (λq=>ae (X.lowO b q) P.step.grow) (·.2)⟩
 have X':=X.wide W;have Gk:(kB iE Č.heap).Ns Č.heap.objs.size (λ_=>none):=(jg.Ns.new Č.heap (.type "dict")).keeps (pushCells_keeps iE.names _);have Gs:∀y,(y,fz)∈iE.names->∃c,(pV iE iU Č.heap.objs.size).cells.lookup y=some c/\Č.heap.objs.size+1<=c/\(kB iE Č.heap).IsCell c none:= by
  intro y hy;have:=kA (h:=Č.heap.push {cls:=.type "dict",data:=.dict #[]}) (acc:=Ŕ iU iE.names []) Jn hy;rw[<-Kc] at this;exact this
 have Kv:∀y,(y,dk)∈iE.names->∃c v,(pV iE iU Č.heap.objs.size).cells.lookup y=some c/\iU.cells.lookup y=some c/\Č.heap.IsCell c v/\(iU.kindOf y=some .cell\/iU.kindOf y=some .free):= by
  intro y hy;rcases Ix y _ hy with h|⟨h,_⟩|h|⟨_,h1,h2,h3⟩
  ·cases h
  ·cases h
  ·cases h
  refine xa (X.cl y h3) λq1 zt=>?_;refine lE zt λc v q2 q3=>?_;clear zt;refine(cX c v ?_ q2 q3 q1);show(cellsFrom _ _ _).lookup y=some c
  (rw[dM];refine O (vD Jn hy) (O q2 ?_))
  ·rfl
  ·intro hc;have h1:=cS Jn hc;have h2:=cS Jn hy;rw[h1] at h2;cases h2
 have Wr:∀y,(y,dk)∈iE.names->(pV iE iU Č.heap.objs.size).kindOf y=some .cell\/(pV iE iU Č.heap.objs.size).kindOf y=some .free:=λy hy=>
  (nX (Á:=iU) (cS Jn hy)).2 rfl
 have Jf:∀y k,k≠dk->(y,k)∈iE.names->(pV iE iU Č.heap.objs.size).kindOf y=some k:=λy k hk hy=>
  (nX (Á:=iU) (cS Jn hy)).1 hk
 have fwd:∀y v,(y,dk)∈iE.names->Ë iU Č.heap y v->Ë (pV iE iU Č.heap.objs.size) (kB iE Č.heap) y v:= by
  intro y v hy hb;refine dG (Kv y hy) λc u q1 q2 q3 q4=>?_;cases hb with
  |loc m h1=>rw[h1] at q4;rcases q4 with q4|q4<;>cases q4
  |cell c' h1 h2 h3=>
   rw[q2] at h2;cases h2;exact .cell c (Wr y hy) q1 (h3.keeps P.keep)
 have back:∀y j v,(y,dk)∈iE.names->jU.1.1.1.1.1.1.1.1.1.vars.lookup y=some j->(lk jU.1.1.1.2 j).isSome=true->Ë (pV iE iU Č.heap.objs.size) (kB iE Č.heap) y v->Ë iU Č.heap y v:= by
  intro y j v hy h1 h2 hb;refine xe (au.mp h2) λp hp=>?_;refine É (X.vars y j p h1 hp) λu hu _=>?_;have:=(fwd y u hy hu).same hb;subst this;exact hu
 have clrS:∀j,(lk (ű jU.1.1.1.2 jU.2) j).isSome=true->j≠jU.2/\(lk jU.1.1.1.2 j).isSome=true:= by
  intro j h;refine xe (au.mp h) λp hp=>?_;have:=EU hp;exact⟨this.1,by refine O this.2 ?_;rfl⟩
 exact{
  base:=X'.base
  kind:=hk
  glb:=X.glb
  blt:=X.blt
  gl:=λy hy=>Jf y _ (by decide) (bI hy)
  cl:=λy hy=>by
   rcases hy with hy|hy
   ·refine nQ (Gs y (bI hy)) λc q1 q2 q3=>?_;exact(GQ (.inl (Jf y _ (by decide) (bI hy))) c none q1 q3)
   ·refine dG (Kv y (bI hy)) λc u q1 q2 q3 q4=>?_;exact(GQ (Wr y (bI hy)) c u q1 (q3.keeps P.keep))
  ns:=⟨_,Gk⟩
  noL:=.inr ⟨ai _,qN iE Č.heap⟩
  cellsLow:=λy c h=>by
   by_cases hc:(y,fz)∈iE.names
   ·refine nQ (Gs y hc) λc' q1 q2 q3=>?_;rw[q1] at h;cases h;exact q3.lt
   ·by_cases hf:(y,dk)∈iE.names
    ·refine dG (Kv y hf) λc' u q1 q2 q3 q4=>?_;rw[q1] at h;cases h;exact ae q3.lt P.step.grow
    ·exfalso;change (cellsFrom _ _ _).lookup y=some c at h;rw[dM hc,lU hf] at h;cases h
  apart:= by
   have one:∀y c,(pV iE iU Č.heap.objs.size).cells.lookup y=some c->(y=jU.1.2/\Č.heap.objs.size<c)\/(c<Č.heap.objs.size/\iU.cells.lookup y=some c):= by
    intro y c h
    by_cases hc:(y,fz)∈iE.names
    ·refine nQ (Gs y hc) λc' q1 q2 q3=>?_;rw[q1] at h;cases h;rcases Ix y _ hc with h|⟨_,h⟩|h|⟨h,_⟩
     ·cases h
     ·exact .inl ⟨h,q2⟩
     ·cases h
     ·cases h
    ·by_cases hf:(y,dk)∈iE.names
     ·refine dG (Kv y hf) λc' u q1 q2 q3 q4=>?_;rw[q1] at h;cases h;exact .inr ⟨q3.lt,q2⟩
     ·exfalso;change (cellsFrom _ _ _).lookup y=some c at h;rw[dM hc,lU hf] at h;cases h
   intro y z c h1 h2;rcases one y c h1 with⟨rfl,q1⟩|⟨q1,q2⟩<;>rcases one z c h2 with⟨rfl,q3⟩|⟨q3,q4⟩
   ·rfl
   ·exact absurd q3 (ax.mpr (db q1))
   ·exact absurd q1 (ax.mpr (db q3))
   ·exact X.apart y z c q2 q4
  vars:=λy j p h1 h2=>by
   refine xa (EU h2) λhj Ku=>?_;rcases gU h1 with⟨_,rfl⟩|⟨hy,hf,hv⟩
   ·exact absurd rfl hj
   ·refine É (X.vars y j p hv Ku) λv hb hs=>?_;have Ic:=hs.wide W;refine(jC v (fwd y v hf hb) ?_ (λh=>(nomatch h)));have h3:=Ic.1;show if jU.1.1.1.1.1.1.1.1.1.own.contains j then _ else _;split
    ·rename_i hc;rw[if_pos hc] at h3;refine cW h3 λa e q1 q2 q3=>?_;clear h3;refine(hV a e q1 ?_ q3);have h4:=hs.1;rw[if_pos hc] at h4;refine cW h4 λa' e' q1' q2' q3'=>?_;clear h4;rw[e] at e';cases e';exact fc (X.base.low a q1')
    ·rename_i hc;rw[if_neg hc] at h3;exact h3
  stores:=λy hy=>by
   obtain rfl:y=jU.1.2:=by simpa using hy
   rcases hx with hx|hx
   ·exact .loc (Jf jU.1.2 _ (by decide) hx)
   ·refine nQ (Gs jU.1.2 hx) λc q1 q2 q3=>?_;exact .cell c none (Jf jU.1.2 _ (by decide) hx) q1 (.inr ⟨by exact Ò (.x .q .r) [.x .kc .r] q2,q3.lt⟩) q3
  inj:=λy z j h1 h2=>by
   rcases gU h1 with⟨rfl,rfl⟩|⟨hy,hf,hv⟩<;>rcases gU h2 with⟨rfl,e⟩|⟨hz,hg,hu⟩
   ·rfl
   ·rcases Ix z _ hg with h|⟨h,_⟩|h|⟨_,_,h,_⟩
    ·cases h
    ·cases h
    ·cases h
    ·exact absurd hu h
   ·subst e;rcases Ix y _ hf with h|⟨h,_⟩|h|⟨_,_,h,_⟩
    ·cases h
    ·cases h
    ·cases h
    ·exact absurd hv h
   ·exact X.inj y z j hv hu
  alone:=λy z j k a h1 h2 h3 h4 h5 h6 h7 h8=>by
   refine xa (clrS j h3) λj1 j2=>?_;refine xa (clrS k h4) λk1 k2=>?_;rcases gU h1 with⟨_,e⟩|⟨hy,hf,hv⟩
   ·exact absurd e j1
   rcases gU h2 with⟨_,e⟩|⟨hz,hg,hu⟩
   ·exact absurd e k1
   exact X.alone y z j k a hv hu j2 k2 h5 h6 (back y j _ hf hv j2 h7) (back z k _ hg hu k2 h8)
  disj:=λb hb ha=>hb.elim (λq=>X.disj b q ha) λq=>by exact absurd (X.base.low b (.inl ha)) (ax.mpr q.1)
  turns:=λy j a h1 h2 h3 h4=>by
   refine xa (clrS j h3) λj1 j2=>?_;rcases gU h1 with⟨_,e⟩|⟨hy,hf,hv⟩
   ·exact absurd e j1
   exact .inl (X.turns y j a hv h2 j2 (back y j _ hf hv j2 h4))}
theorem NQ:@k_E cx asg Á s Na No pe sc x i:=iA (bH (bH (a7 @k_E))) (((((((((cx,asg),Á),s),Na),No),pe),sc),x),i) JI
theorem Pure.skip (P:Pure s s') (hk:∀b o,b<s.heap.objs.size->s'.heap.get? b=some o->bc.heap.get? b=some o) (hm:Ŋ s' bc) (hg:bc.gens=s'.gens) (ho:bc.os=s'.os) (hd:bc.drawn=s'.drawn):Pure s bc:=
 ⟨⟨λb o _ e=>hk b o (da e) (Pure.keep P b o e),aa P.step.grow hm.1,λ_ q=>q.elim⟩,λi g e=>by exact O hg (P.gens i g e),λq=>by refine O hg ?_;exact P.bare q,ho.trans P.os,hd.trans P.drawn,aa (Ö.toks P) hm.2⟩
theorem NR (h:tG cx (.Set l k pos) p=true):False:= by
 cases p with
 |val p=>exact G7 (b:=false) h
 |_=>exact nf h
theorem HB (h:tG cx e p=true) (x:ag):foldedSetIterable e Á x=dx x:= by
 by_cases c:e.ctorIdx=7
 ·exact Cz (motive_1:=λe=>tG cx e p=true->foldedSetIterable e Á x=dx x) e c (λl k p h=>(NR h).elim) h
 ·clear h;cases e<;>first|rfl|exact absurd rfl c
set_option tactic.hygienic true in
theorem EV (h:dK c e iN i pe (p::l)=some DO):∃ok,(if iN then c (st pe i p) else some (.bool true))=some (.bool ok)/\
  (ok=false->dK c e iN i pe l=some DO)/\(ok=true->∃v r,e (st pe i p)=some v/\dK c e iN i pe l=some r/\DO=v::r):= by
 have h:(match (if iN then c (st pe i p) else some (.bool true)) with
  |some (.bool true)=>(match e (st pe i p),dK c e iN i pe l with
   |some v,some r=>some (v::r)
   |_,_=>none)
  |some (.bool false)=>dK c e iN i pe l
  |_=>none)=some DO:=h
 revert h;cases (if iN then c (st pe i p) else some (.bool true)) with
 |none=>exact nn
 |some q=>
  cases q<;>try (exact nn)
  rename_i b;cases b with
  |false=>exact λh=>(jC false rfl (λ_=>h) (λq=>nomatch q))
  |true=>
   intro h;have h:(match e (st pe i p),dK c e iN i pe l with|some v,some r=>some (v::r)|_,_=>none)=some DO:=h;revert h;cases e (st pe i p) with
   |none=>exact nn
   |some v=>cases dK c e iN i pe l with
    |none=>exact nn
    |some r=>exact λh=>(jC true rfl (λq=>nomatch q) (λ_=>(cC v r rfl rfl ((sm h).symm))))
theorem EW (hT:Û F B c) (R:Ê A (nd c+B)) (h4:rZ cx ifs iN c=true) (Hj:(if iN then aB F c pe else some (.bool true))=some (.bool ok))
  (X:Ä cx asg Gn s Na No pe) (hQ:∀iF,Pure s iF->Q ok iF):
  wpAny (model Pg W0) A (forIn ifs true λc r=>if r=true then do let ok <-isTrue c Gn (eval c Gn);dx (Bn ok) else dx (Bn r)) Q E s:= by
 rcases EO h4 with⟨rfl,rfl⟩|⟨t,rfl,rfl,h5⟩
 ·refine O ph ?_;cases Hj;exact cv (hQ s (Ö.refl _ _))
 ·refine O (Bm ..) (bj (bj (hT R X h5 Hj λiF Gw=>cv ?_)))
  dsimp only
  exact O ph (cv (hQ iF Gw))
theorem Ä.bindRV{Hp:Cx}(X:Ä Hp asg Á s Na No pe){x:Str}{i:Nat}{v:ag}{p:PV}(ho:Hp.own.contains i=false) (ht:Hp.tk=[]) (r:RV s.heap (λb=>Na b\/No b) v p):Ă Hp Á s (λb=>Na b\/No b) i v p:=
 ⟨by exact O ho r,λh=>by rw[ht] at h;cases h⟩
theorem r8{α:Type}{l:List α}{a:α}(h:l[k]?=some a):l.drop k=a::l.drop (k+1):= by
 obtain⟨h1,h2⟩:=df.mp h;exact aBD h2 (nj h1)
structure ł (F:Fn) (B:Nat) (A:dm) (Hp:Cx) (Gn:Env) (x:Str) (i:Nat) (Hd c:PE) (iN:Bool) (el:ar) (ifs:List ar) (Na:Ap) (s:aj) (I acc:ew) (n:Nat) (fp:List ew) (P:Nat->ag->Prop) (St:Nat->jg->Prop):Prop where
 hE:Ç F B Hd
 hT:Û F B c
 R2:Ê A (nd Hd+B)
 R3:Ê A (nd c+B)
 h3:aN Hp false el Hd=true
 h4:rZ Hp ifs iN c=true
 hlen:n<=100000
 W:Fp Pg W0 A I fp [I] n P St
 hoI:∀i h,St i h->∃o,h.get? I=some o/\(∀v,o.data≠.cell v)/\∃n,o.cls=.type n/\yF n=false
 hfp:∀b∈fp,b<Gn.locals/\b≠acc
 hIa:I≠acc
 hIC:I<Gn.locals
 haC:acc<Gn.locals
 hsI:s.heap.objs.size<=I
 hsa:s.heap.objs.size<=acc
 hxi:Hp.vars.lookup x=some i
 hown:Hp.own.contains i=false
 htk:Hp.tk=[]
 hNI:Na I
 hNa:Na acc
 hcells:∀b0,(b0=Gn.locals\/Gn.cells.lookup x=some b0)->Gn.locals<=b0
def ĳ (Na No:Ap):Ap:=λb=>Na b\/No b
structure í (Hp:Cx) (Gn:Env) (x:Str) (i:Nat) (pe:Å) (Na No:Ap) (s:aj) (Ik:Nat) (acc:ew) (À:List PV) (P:Nat->ag->Prop) (s':aj) (vs:List ag) (ps:List PV) (pe':Å):Prop where
 pure:Pure s s'
 g:Ik<=s'.heap.objs.size
 acc:s'.heap.PlainList acc vs.toArray
 vs:Í s'.heap (ĳ Na No) vs ps
 X:Ä Hp [x] Gn s' Na No pe'
 hpe:∀q,st pe' i q=st pe i q
 P:∀j v,j<À.length->P j v->∃p,À[j]?=some p/\RV s'.heap (ĳ Na No) v p
section
variable{Hp:Cx}{Gn:Env}{x:Str}{i:Nat}{Hd c:PE}{iN:Bool}{el:ar}{ifs:List ar}{I acc:ew}{Ik:Nat}{À:List PV}{fp:List ew}{P:Nat->ag->Prop}{St:Nat->jg->Prop}{s' bc:aj}{vs:List ag}{ps:List PV}{pe' Do:Å}
theorem í.move (S:í Hp Gn x i pe Na No s Ik acc À P s' vs ps pe') (Q:Pure s bc) (T:Step s'.heap (ĳ Na No) bc.heap (ĳ Na No)) (a:bc.heap.PlainList acc vs.toArray) (X:Ä Hp [x] Gn bc Na No Do) (hpe:∀q,st Do i q=st pe i q):
  í Hp Gn x i pe Na No s Ik acc À P bc vs ps Do:=
 ⟨Q,aa S.g T.grow,a,S.vs.step T,X,hpe,λj v hj hv=>let ⟨p,q1,q2⟩:=S.P j v hj hv;⟨p,q1,q2.step T⟩⟩
theorem í.pureS (S:í Hp Gn x i pe Na No s Ik acc À P s' vs ps pe') (Q:Pure s' bc):í Hp Gn x i pe Na No s Ik acc À P bc vs ps pe':=
 S.move (S.pure.trans Q) (Q.stepAt _) (S.acc.at λo e=>Pure.keep Q acc o e) (S.X.pure Q) S.hpe
theorem í.poke (K:ł F B A Hp Gn x i Hd c iN el ifs Na s I acc À.length fp P St) (S:í Hp Gn x i pe Na No s Ik acc À P s' vs ps pe') (st:St k s'.heap) (hk:∀b o,b∉[I]->s'.heap.get? b=some o->h'.get? b=some o) (hm:Ŋ s' {s' with heap:=h',toks:=tk}):
  í Hp Gn x i pe Na No s Ik acc À P {s' with heap:=h',toks:=tk} vs ps pe':= by
 refine nQ (K.hoI _ _ st) λo ho Mr _=>?_;refine S.move (S.pure.skip (λb o hb e=>hk b o (λq=>?_) e) hm rfl rfl rfl) ⟨λb o hn e=>hk b o (λq=>hn (.inl ((cg.mp q)▸K.hNI))) e,hm.1,λ_ q=>.inl q⟩ (S.acc.at λo e=>hk acc o (λq=>K.hIa (cg.mp q).symm) e) (S.X.poke K.hNI ho Mr (λb o hb e=>hk b o (λq=>hb (cg.mp q)) e) hm.1 hm.2 id) S.hpe;rw[cg.mp q] at hb;exact ax.mpr K.hsI hb
theorem EX (K:ł F B A Hp Gn x i Hd c iN el ifs Na s I acc À.length fp P St) (S:í Hp Gn x i pe Na No s Ik acc À P s' vs ps pe'){k:Nat}(Ij:St k s'.heap){v:ag}{p:PV}{px:Pos}{Q:Unit->aj->Prop}(hv:RV s'.heap (ĳ Na No) v p)
  (hQ:∀Ã,í Hp Gn x i pe Na No s Ik acc À P Ã vs ps (st pe i p)->St k Ã.heap->Q () Ã):wpAny (model Pg W0) A (assign (.Name x px) Gn v) Q E s':= by
 have no:∀{C:Prop},Hp.own.contains i=true->C:=λh=>nf (K.hown.symm.trans h);refine wpAny_assign_Name (eP S.X (tz x) K.hxi (S.X.bindRV (x:=x) K.hown K.htk hv) (λa e h=>no h) (λa e h=>no h) λÃ b0 _ Jm Iv Kw he Gh=>?_);rw[S.hpe] at Gh;have hk:∀b o,b<Gn.locals->s'.heap.get? b=some o->Ã.heap.get? b=some o:=λb o hb e=>Iv.extBut b o (λq=>ax.mpr (K.hcells b0 Jm) (q▸hb)) e;exact hQ Ã (S.move (S.pure.skip (λb o hb e=>hk b o (ae hb (aa K.hsI (db K.hIC))) e) ⟨he.step.grow,Ö.toks he⟩ Kw he.os he.drawn) (he.step.or Na) (S.acc.at λo e=>hk acc o K.haC e) Gh λq=>VY) (K.W.frame _ _ _ Ij λb hb o e=>hk b o (K.hfp b hb).1 e)
theorem NS (h:n<=100000):n<sizeLine:=by unfold sizeLine;exact à (.y .q (.P .n2 24)) [.x .q .kv] h
theorem CP (K:ł F B A Hp Gn x i Hd c iN el ifs Na s I acc À.length fp P St) (S:í Hp Gn x i pe Na No s Ik acc À P s' vs ps pe') (Ij:St k s'.heap) (Rr:vs.length<=100000) (hy:RV s'.heap (ĳ Na No) y r)
  (hQ:∀Ã,í Hp Gn x i pe Na No s Ik acc À P Ã (vs++[y]) (ps++[r]) pe'->St k Ã.heap->Q .none Ã):wpAny (model Pg W0) A (call (.builtin "list.append") [.ref acc,y]) Q E s':= by
 refine wpAny_list_append_plain S.acc (λh' Lv Jg=>?_) (db (NS Rr));refine xe S.acc λn ha=>?_;have hk:∀b o,b≠acc->s'.heap.get? b=some o->h'.get? b=some o:=λb o hb e=>Jg.extBut b o hb e;have T:Step s'.heap (ĳ Na No) h' (ĳ Na No):=⟨λb o hn e=>hk b o (λq=>hn (.inl (q▸K.hNa))) e,cf Jg.1.symm,λ_ q=>.inl q⟩;rw[zk] at Lv;refine hQ _ ⟨S.pure.skip (λb o hb e=>hk b o (λq=>?_) e) ⟨cf Jg.1.symm,ai _⟩ rfl rfl rfl,aa S.g T.grow,Lv,Í.append (S.vs.step T) (Í.one (hy.step T)),S.X.poke K.hNa ha (λv q=>nomatch q) hk (cf Jg.1.symm) (ai _) id,S.hpe,λj v hj hv=>let ⟨p,q1,q2⟩:=S.P j v hj hv;⟨p,q1,q2.step T⟩⟩ (K.W.frame _ _ _ Ij λb hb o e=>hk b o (K.hfp b hb).2 e);rw[q] at hb;exact ax.mpr K.hsa hb
def k_L{s₄:aj}{Lx:Å}{rs:List PV}{RR:yl->aj->Prop}{px pos:Pos}{it:ar}{sc:ja} :Prop:=∀(K:ł F B A Hp Gn x i Hd c iN el ifs Na s I acc À.length fp P St) (S:í Hp Gn x i pe Na No s s₄.heap.objs.size acc À P s₄ [] [] Lx) (Ja:St 0 s₄.heap) (d2:dK (aB F c) (aB F Hd) iN i pe À=some rs) (hR:∀s' vs,Pure s s'->s₄.heap.objs.size<=s'.heap.objs.size->s'.heap.PlainList acc vs.toArray->Í s'.heap (ĳ Na No) vs rs->(∃m,s'.heap.Ns Gn.locals m)->RR (.ok .next) s'),codeAny (model Pg W0) A (.compLoop (.ListComp el [⟨.Name x px,it,ifs,0⟩] sc pos) 0 (.ref I) (.ref acc) Gn) RR s₄
def dW:=@gX _ ⟨((((((((((((((((((((((((((((ac,{}),{}),ac),ac),ac),⟨[],[],[],[],false⟩),ac),ac),ac),.var 0),.var 0),ac),ac),ac),ac),ac),ac),ac),ac),ac),{}),ac),ac),ac),ac),ac),ac),ac)⟩ (bH (bH (bH (bH (bH (bH (bH (a7 @k_L))))))))
def F_L:=dW.1.1.1.1.1.1.1.1.1.1.1.1.1.1.1.1.1.1.1.1.1.1.1.1.1.1.1.1.1
def s_L:=dW.1.1.1.1.1.1.1.1.1.1.1.1.1.1.1.1.1.1.1.1.1.1.1.1.1.1.2
def XB:=dW.1.1.1.1.1.1.1.1.1.1.1.1.1.1.1.1.1.1.1.1.1.1.1.2
def i_L:=dW.1.1.1.1.1.1.1.1.1.1.1.1.1.1.1.1.1.1.1.2
def jV:=dW.1.1.1.1.1.1.1.1.1.1.1.2
theorem EY:@k_L F_L dW.1.1.1.1.1.1.1.1.1.1.1.1.1.1.1.1.1.1.1.1.1.1.1.1.1.1.1.1.2 dW.1.1.1.1.1.1.1.1.1.1.1.1.1.1.1.1.1.1.1.1.1.1.1.1.1.1.1.2 s_L dW.1.1.1.1.1.1.1.1.1.1.1.1.1.1.1.1.1.1.1.1.1.1.1.1.1.2 dW.1.1.1.1.1.1.1.1.1.1.1.1.1.1.1.1.1.1.1.1.1.1.1.1.2 XB dW.1.1.1.1.1.1.1.1.1.1.1.1.1.1.1.1.1.1.1.1.1.1.2 dW.1.1.1.1.1.1.1.1.1.1.1.1.1.1.1.1.1.1.1.1.1.2 dW.1.1.1.1.1.1.1.1.1.1.1.1.1.1.1.1.1.1.1.1.2 i_L dW.1.1.1.1.1.1.1.1.1.1.1.1.1.1.1.1.1.1.2 dW.1.1.1.1.1.1.1.1.1.1.1.1.1.1.1.1.1.2 dW.1.1.1.1.1.1.1.1.1.1.1.1.1.1.1.1.2 dW.1.1.1.1.1.1.1.1.1.1.1.1.1.1.1.2 dW.1.1.1.1.1.1.1.1.1.1.1.1.1.1.2 dW.1.1.1.1.1.1.1.1.1.1.1.1.1.2 dW.1.1.1.1.1.1.1.1.1.1.1.1.2 jV dW.1.1.1.1.1.1.1.1.1.1.2 dW.1.1.1.1.1.1.1.1.1.2 dW.1.1.1.1.1.1.1.1.2 dW.1.1.1.1.1.1.1.2 dW.1.1.1.1.1.1.2 dW.1.1.1.1.1.2 dW.1.1.1.1.2 dW.1.1.1.2 dW.1.1.2 dW.1.2 dW.2:= by
 intro K S Ja d2 hR;refine codeAny_compLoop_tests (λn s'=>∃k vs ps DO pe',k<=jV.length/\n=jV.length+1-k/\í dW.1.1.1.1.1.1.1.1.1.1.1.1.1.1.1.1.1.1.1.1.1.1.2 dW.1.1.1.1.1.1.1.1.1.1.1.1.1.1.1.1.1.1.1.1.1.2 dW.1.1.1.1.1.1.1.1.1.1.1.1.1.1.1.1.1.1.1.1.2 i_L XB dW.1.1.1.1.1.1.1.1.1.1.1.1.1.1.1.1.1.1.1.1.1.1.1.1.1.2 dW.1.1.1.1.1.1.1.1.1.1.1.1.1.1.1.1.1.1.1.1.1.1.1.1.2 s_L dW.1.1.1.1.1.1.1.2.heap.objs.size dW.1.1.1.1.1.1.1.1.1.1.1.1.2 jV dW.1.1.1.1.1.1.1.1.1.2 s' vs ps pe'/\dW.1.1.1.1.1.1.1.1.2 k s'.heap/\dK (aB F_L dW.1.1.1.1.1.1.1.1.1.1.1.1.1.1.1.1.1.2) (aB F_L dW.1.1.1.1.1.1.1.1.1.1.1.1.1.1.1.1.1.1.2) dW.1.1.1.1.1.1.1.1.1.1.1.1.1.1.1.1.2 i_L XB (jV.drop k)=some DO/\ps++DO=dW.1.1.1.1.1.2/\vs.length<=k) ?_ (jV.length+1)
  (fX 0 ([]) ([]) (cX dW.1.1.1.1.1.2 dW.1.1.1.1.1.1.2 (iu _) rfl S (d9 Ja d2 rfl (ai _))))
 clear S Ja d2
 rintro n s' ⟨k,vs,ps,DO,pe',hk,rfl,S,Ja,Hq,Tm,Rr⟩
 rcases nc k jV.length with Gu|Ud
 ·refine bJ (K.W.item k s' _ _ Gu Ja λv Gj tk hv Op Ly hm=>?_);have Il:=S.poke K Ja Ly hm;refine É (Il.P k v Gu hv) λp hp Lz=>?_;rw[r8 hp] at Hq;refine nQ (EV Hq) λok Hj Nw Yf=>?_;refine EX K Il Op Lz λÃ Lg Ma=>?_;refine EW K.hT K.R3 K.h4 Hj Lg.X λiF Gw=>?_;have Oq:=Lg.pureS Gw;have Kx:dW.1.1.1.1.1.1.1.1.2 (k+1) iF.heap:=K.W.frame _ _ _ Ma λb hb o e=>Pure.keep Gw b o e;clear Il Lg Hq Hj;cases ok with
  |false=>exact(Õ (jV.length+1-(k+1)) (nx (im Gu) (di k)) (fX (k+1) vs ps (cX DO _ Gu rfl Oq (d9 Kx (Nw rfl) Tm (gm Rr)))))
  |true=>
   refine fR (Yf rfl) λr rest' hr hc aT=>?_;subst aT;refine K.hE K.R2 Oq.X K.h3 hr λy Go Hk Ue=>?_;exact CP K (Oq.pureS Hk) (K.W.frame _ _ _ Kx λb hb o e=>Pure.keep Hk b o e) (aa Rr (aa hk K.hlen)) (Ue.f rfl) λHb Uf Mb=>
    (Õ (jV.length+1-(k+1)) (nx (im Gu) (di k)) (fX (k+1) (vs++[y]) (ps++[r]) (cX rest' _ Gu rfl Uf (d9 Mb hc (by refine aBD Tm (O (ci ..) ?_);rfl) (by exact O cy (Nat.succ_le_succ Rr))))))
 ·cases bf hk Ud;refine bJ (K.W.done s' _ _ Ja λGj tk Ly hm=>?_);have Il:=S.poke K Ja Ly hm;rw[ua] at Hq;cases sm Hq;rw[ge] at Tm;cases Tm;exact hR _ vs Il.pure Il.g Il.acc Il.vs Il.X.ns
theorem JJ:@k_L F B A s Na No pe Hp Gn x i Hd c iN el ifs I acc À fp P St s₄ Lx rs RR px pos it sc:=iA (bH (bH (bH (bH (bH (bH (bH (a7 @k_L)))))))) (((((((((((((((((((((((((((((F,B),A),s),Na),No),pe),Hp),Gn),x),i),Hd),c),iN),el),ifs),I),acc),À),fp),P),St),s₄),Lx),rs),RR),px),pos),it),sc) EY
end
def Na3 (Na:Ap) (a I:ew):Ap:=λb=>Na b\/b=a\/b=I
def No3 (No:Ap) (sc:ja) (h:jg):Ap:=λb=>No b\/(h.objs.size<=b/\b<(kB sc h).objs.size)
theorem JK{sc:ja}{x:Str}{h:jg}{b0:ew}(Jn:eB (sc.names.map (·.1))=true) (hx:(x,ln.local)∈sc.names\/(x,fz)∈sc.names) (hb:(pV sc Á h.objs.size).cells.lookup x=some b0):h.objs.size<=b0:= by
 by_cases hc:(x,fz)∈sc.names
 ·refine nQ (kA (h:=h.push {cls:=.type "dict",data:=.dict #[]}) (acc:=Ŕ Á sc.names []) Jn hc) λc' q1 q2 _=>?_;rw[bn] at q1 q2;cases sm (q1.symm.trans hb);exact zl q2
 ·have hl:(x,ln.local)∈sc.names:=hx.resolve_right hc;exfalso;have e:(pV sc Á h.objs.size).cells.lookup x=none:=(dM hc).trans (lU λhf=>by
   have q1:=cS Jn hl;have q2:=cS Jn hf;rw[q1] at q2;cases q2)
  exact nn (e.symm.trans hb)
theorem EZ{sc:ja}{x:Str}{i:Nat}{Hd c:PE}{iN:Bool}{el it:ar}{ifs:List ar}{px pos:Pos}{À rs:List PV}{use:Option (ag->Sem Unit)}{Q:Vs}{Ã iF:aj}{I:ew}{fp:List ew}{P:Nat->ag->Prop}{St:Nat->jg->Prop}
  (hE:Ç F B Hd) (hT:Û F B c) (hh:A.handled=none) (R2:Ê A (nd Hd+B)) (R3:Ê A (nd c+B)) (X:Ä cx asg Á s Na No pe) (h2:pQ cx sc x i=true) (h3:aN (iB cx sc.names x i) false el Hd=true)
  (h4:rZ (iB cx sc.names x i) ifs iN c=true) (d2:dK (aB F c) (aB F Hd) iN i pe À=some rs) (dO:Pure s Ã) (Nc:s.heap.objs.size<=I) (Mc:I<Ã.heap.objs.size) (hlen:À.length<=100000)
  (W:∀A:dm,A.handled=none->Fp Pg W0 A I fp [I] À.length P St) (Ja:St 0 Ã.heap) (hcI:∀i h,St i h->∃o,h.get? I=some o/\(∀v,o.data≠.cell v)/\∃n,o.cls=.type n/\yF n=false)
  (hfp:∀b∈fp,b=I\/¬(Na b\/No b)/\b<Ã.heap.objs.size) (hP:∀j v,j<À.length->P j v->∃p,À[j]?=some p/\RV Ã.heap (λb=>(Na b\/No b)\/b=I) v p)
  (P23:Pure Ã iF) (L3:Ã.heap.objs.size<iF.heap.objs.size) (Tn:iF.heap.PlainList Ã.heap.objs.size ([]:List ag).toArray)
  (hK:∀acc C s' vs,Pure s s'->s.heap.objs.size<=acc->s.heap.objs.size<=C->acc≠C->C<s'.heap.objs.size->acc<s'.heap.objs.size->s'.heap.PlainList acc vs.toArray->Í s'.heap (λb=>(Na b\/No b)\/b=acc\/b=C) vs rs->(∃m,s'.heap.Ns C m)->
   compPost (model Pg W0) A E use Q (.ref acc) C (.ok .next) s'):
  codeAny (model Pg W0) A (.compStart (.ListComp el [⟨.Name x px,it,ifs,0⟩] sc pos) 0 (.ref I) (.ref Ã.heap.objs.size) (pV sc Á iF.heap.objs.size)) (compPost (model Pg W0) A E use Q (.ref Ã.heap.objs.size) iF.heap.objs.size) {iF with heap:=kB sc iF.heap}:= by
 refine jB (pU h2) λhk Jn hx Ix hown=>?_;have Gw:=dO.trans P23;have Iy:=dO.step.grow;have Gm:Ä cx asg Á iF (Na3 Na Ã.heap.objs.size I) No pe:= by
  refine X.wideA Gw (λb q=>.inl q) (λb q=>?_) (λb q=>?_)
  ·rcases q with q|q|q
   ·exact .inl q
   ·exact .inr (q▸Iy)
   ·exact .inr (q▸Nc)
  ·rcases q with q|q|q
   ·exact ae (X.base.low b (.inl q)) Gw.step.grow
   ·exact O q L3
   ·exact O q (jc Mc L3)
 have Hs:=vE sc iF;have P24:=P23.trans Hs;have Rs:=(W A hh).frame _ _ _ Ja λb _ o e=>Pure.keep P24 b o e;have K:ł F B A (iB cx sc.names x i) (pV sc Á iF.heap.objs.size) x i Hd c iN el ifs (Na3 Na Ã.heap.objs.size I) s I Ã.heap.objs.size À.length fp P St:=
  {hE,hT,R2,R3,h3,h4,hlen,W:=W A hh,hoI:=hcI,hIa:=fc Mc,hIC:=jc Mc L3,haC:=L3,hsI:=Nc,hsa:=Iy,hxi:=by simp[iB],hown,htk:=rfl,hNI:=.inr (.inr rfl),hNa:=.inr (.inl rfl)
   hfp:=λb hb=>(hfp b hb).elim (λe=>by exact O e ⟨jc Mc L3,fc Mc⟩) λq=>⟨jc q.2 L3,fc q.2⟩
   hcells:=λb0 q=>q.elim (λe=>cf e.symm) (JK Jn hx)}
 have S:í (iB cx sc.names x i) (pV sc Á iF.heap.objs.size) x i pe (Na3 Na Ã.heap.objs.size I) (No3 No sc iF.heap) s (kB sc iF.heap).objs.size Ã.heap.objs.size À P {iF with heap:=kB sc iF.heap} [] [] (ű pe i):=
  {pure:=Gw.trans Hs,g:=ai _,acc:=Tn.at λo e=>Pure.keep Hs _ o e,vs:=.nil,X:=NQ Gm h2,hpe:=λq=>NO
   P:=λj v hj hv=>by
    refine É (hP j v hj hv) λp q1 q2=>?_;refine(Õ p q1 (RV.step (h:=Ã.heap) ⟨λb o _ e=>Pure.keep P24 _ _ e,P24.step.grow,λb hb=>?_⟩ q2));rcases hb with(hb|hb|hb)|(hb|hb)
    ·exact .inl (.inl (.inl hb))
    ·exact .inr (cf hb.symm)
    ·exact .inl (.inr hb)
    ·exact .inl (.inl (.inr hb))
    ·exact .inr (db (ae L3 hb.1))}
 have key:=JJ (it:=it) (px:=px) (pos:=pos) (sc:=sc) (RR:=compPost (model Pg W0) A E use Q (.ref Ã.heap.objs.size) iF.heap.objs.size) K S Rs d2 λs' vs P' hg hl hr Gk=>by
  refine hK Ã.heap.objs.size iF.heap.objs.size s' vs P' Iy (aa Iy (db L3)) (fc L3) (ae (qN sc _) hg) (jc L3 (ae (qN sc _) hg)) hl (Í.weak' (λb hb=>?_) hr) Gk;rcases hb with(hb|hb)|hb|hb
  ·exact .inl (.inl hb)
  ·exact .inr (.inl hb)
  ·exact .inl (.inr (.inl hb))
  ·exact .inr (.inr ⟨cf hb.symm,hb▸qN sc _⟩)
 exact codeAny_compStart_list key ((W A hh).self 0 _ _ _ Rs key)
theorem yI{sc:ja}{x:Str}{i:Nat}{Hd c:PE}{src:PI}{iN:Bool}{el it:ar}{ifs:List ar}{px pos cpos:Pos}{À rs:List PV}{use:Option (ag->Sem Unit)}{Q:Vs}
  (hE:Ç F B Hd) (hT:Û F B c) (hI:ă F B src)
  (R:Ê A (nd (.comp Hd i src iN c)+B)) (X:Ä cx asg Á s Na No pe) (h1:tG cx it src=true) (h2:pQ cx sc x i=true) (h3:aN (iB cx sc.names x i) false el Hd=true)
  (h4:rZ (iB cx sc.names x i) ifs iN c=true) (d1:gZ F src pe=some À) (d2:dK (aB F c) (aB F Hd) iN i pe À=some rs)
  (hK:∀acc C s' vs,Pure s s'->s.heap.objs.size<=acc->s.heap.objs.size<=C->acc≠C->C<s'.heap.objs.size->acc<s'.heap.objs.size->s'.heap.PlainList acc vs.toArray->Í s'.heap (λb=>(Na b\/No b)\/b=acc\/b=C) vs rs->(∃m,s'.heap.Ns C m)->
   compPost (model Pg W0) A E use Q (.ref acc) C (.ok .next) s'):
  wpAny (model Pg W0) A (comprehension (.ListComp el [⟨.Name x px,it,ifs,0⟩] sc pos) sc Á cpos (newList []) false (eval it Á) use) Q E s:= by
 have RR:Ê A (max (ndi src) (max (nd Hd) (nd c))+B):=R.le (bo (iy _ 3) _);refine jB (pU h2) λhk Jn hx Ix hown=>?_;refine wpAny_comprehension_free (cl:=Ŕ Á sc.names []) rfl (HB h1) (vC λn hn=>?_) hk (λy hy hl=>cS Jn (by exact aBD hl hy)) ?_
 ·rcases Ix n _ hn with h|⟨h,_⟩|h|⟨_,_,_,h⟩
  ·cases h
  ·cases h
  ·cases h
  ·refine xa (X.cl n h) λ_ zt=>?_;refine lE zt λc _ h _=>?_;exact⟨c,h⟩
 refine hI RR.m1 X h1 d1 λI Ã dO Nc Mc hlen đ=>wpAny_newList ?_;refine cH đ λfp P St W Ja hcI zt=>?_;refine xa zt λhfp hP=>?_;clear zt;clear đ;refine xG ?_;have L3:Ã.heap.objs.size<({Ã with heap:=Ã.heap.push {cls:=.type "list",data:=.seq ([]:List ag).toArray}}:aj).heap.objs.size:=oS;have P23:Pure Ã {Ã with heap:=Ã.heap.push {cls:=.type "list",data:=.seq ([]:List ag).toArray}}:=Pure.push Ã _ (ai _);have Tn:({Ã with heap:=Ã.heap.push {cls:=.type "list",data:=.seq ([]:List ag).toArray}}:aj).heap.PlainList Ã.heap.objs.size ([]:List ag).toArray:=⟨0,cj _ rfl⟩;show codeAny _ _ (.compStart _ _ _ _ (pV sc Á ({Ã with heap:=Ã.heap.push {cls:=.type "list",data:=.seq ([]:List ag).toArray}}:aj).heap.objs.size)) (compPost _ _ _ _ _ _ ({Ã with heap:=Ã.heap.push {cls:=.type "list",data:=.seq ([]:List ag).toArray}}:aj).heap.objs.size) {({Ã with heap:=Ã.heap.push {cls:=.type "list",data:=.seq ([]:List ag).toArray}}:aj) with heap:=kB sc ({Ã with heap:=Ã.heap.push {cls:=.type "list",data:=.seq ([]:List ag).toArray}}:aj).heap};generalize ({Ã with heap:=Ã.heap.push {cls:=.type "list",data:=.seq ([]:List ag).toArray}}:aj)=iF at*;exact EZ hE hT R.hh RR.m2 RR.m3 X h2 h3 h4 d2 dO Nc Mc hlen W Ja hcI hfp hP P23 L3 Tn hK
theorem yJ (hE:Ç F B Hd) (hT:Û F B c) (hI:ă F B src):Ç F B (.comp Hd i src iN c):= by
 intro A cx asg Á s Na No pe b e r Q E R X hc hd hQ;refine fZ (B8 hc) λel x px it zt=>?_;refine cH zt λifs sc pos aT h1 h2 zt=>?_;refine xa zt λh3 h4=>?_;clear zt;subst aT;refine fR (CA hd) λÀ rs d1 d2 aT=>?_;subst aT;refine O (PySem.eval_ListComp ..) (yI (use:=none) hE hT hI R X h1 h2 h3 h4 d1 d2 λacc C s' vs P ha hC Gv Rt Nd hl hr Gk=>?_);refine xe Gk λm hm=>?_;clear Gk;refine(Õ m hm (λh' Iv=>?_));have P':Pure s {s' with heap:=h'}:=P.skip (λb o hb e=>Iv.extBut b o (λq=>by rw[q] at hb;exact absurd hb (ax.mpr hC)) e) ⟨cf Iv.1.symm,ai _⟩ rfl rfl rfl;have Lv:h'.PlainList acc vs.toArray:=hl.at λo e=>Iv.extBut _ _ Gv e;have To:Í h' (λb=>(Na b\/No b)\/b=acc\/b=C) vs rs:=hr.step ⟨λb o hn e=>Iv.extBut b o (λq=>hn (.inr (.inr q))) e,cf Iv.1.symm,λ_ q=>.inl q⟩;have Ky:¬(Na acc\/No acc):=λq=>absurd (X.low acc q) (ax.mpr ha);have Lz:RV h' (λb=>Na b\/No b) (.ref acc) (.lst rs):=.lst Ky Lv (Í.weak (λb q=>.inl q) To);refine hQ _ _ P' {t:=Lz.rt,a:=λ_=>Lz.weak λ_ q=>.inl q,f:=λ_=>Lz,fresh:=λ_ l e=>?_,tok:=λq=>(nomatch q)};cases e;exact(cX acc vs rfl ha Lv (Í.weak (λb q=>q.elim .inl λq=>.inr (.inl q)) To))
mutual
theorem aD (hB:3<=B) (GK:ċ) (FK:ù F B):∀p:PE,Ç F B p/\Û F B p
 |.cst c=>⟨CD c,cQ rfl (CD c)⟩
 |.gcst c=>⟨yC GK c,cQ rfl (yC GK c)⟩
 |.var i=>⟨CE i,cQ rfl (CE i)⟩
 |.bin op a b=>⟨CF (aD hB GK FK a).1 (aD hB GK FK b).1,cQ rfl (CF (aD hB GK FK a).1 (aD hB GK FK b).1)⟩
 |.neg a=>⟨CG (aD hB GK FK a).1,cQ rfl (CG (aD hB GK FK a).1)⟩
 |.not a=>⟨M7 (aD hB GK FK a).1,NH (aD hB GK FK a).2⟩
 |.and a b=>⟨M8 (aD hB GK FK a).1 (aD hB GK FK b).1,true_and (aD hB GK FK a).2 (aD hB GK FK b).2⟩
 |.or a b=>⟨S6 (aD hB GK FK a).1 (aD hB GK FK b).1,true_or (aD hB GK FK a).2 (aD hB GK FK b).2⟩
 |.ite t a b=>⟨M9 (aD hB GK FK t).2 (aD hB GK FK a).1 (aD hB GK FK b).1,NI (aD hB GK FK t).2 (aD hB GK FK a).2 (aD hB GK FK b).2⟩
 |.cmp op a b=>⟨M6 hB GK (aD hB GK FK a).1 (aD hB GK FK b).1,NJ hB GK (aD hB GK FK a).1 (aD hB GK FK b).1⟩
 |.cmp2 op Je a b c=>⟨JB hB GK (aD hB GK FK a).1 (aD hB GK FK b).1 (aD hB GK FK c).1,JE hB GK (aD hB GK FK a).1 (aD hB GK FK b).1 (aD hB GK FK c).1⟩
 |.sub a i=>⟨CJ (aD hB GK FK a).1 (aD hB GK FK i).1,cQ rfl (CJ (aD hB GK FK a).1 (aD hB GK FK i).1)⟩
 |.slc a l h s=>⟨CK (aD hB GK FK a).1 (aD hB GK FK l).1 (aD hB GK FK h).1 (aD hB GK FK s).1,cQ rfl (CK (aD hB GK FK a).1 (aD hB GK FK l).1 (aD hB GK FK h).1 (aD hB GK FK s).1)⟩
 |.list es=>⟨yD (eW hB GK FK es),cQ rfl (yD (eW hB GK FK es))⟩
 |.tup es=>⟨CL (eW hB GK FK es),cQ rfl (CL (eW hB GK FK es))⟩
 |.comp Hd i src iN c=>⟨yJ (aD hB GK FK Hd).1 (aD hB GK FK c).2 (kS hB GK FK src),cQ rfl (yJ (aD hB GK FK Hd).1 (aD hB GK FK c).2 (kS hB GK FK src))⟩
 |.call f es=>⟨yE GK FK (eW hB GK FK es),cQ rfl (yE GK FK (eW hB GK FK es))⟩
 |.bi f es=>⟨G8 GK hB (eW hB GK FK es),cQ rfl (G8 GK hB (eW hB GK FK es))⟩
 |.me f o es=>⟨G9 GK hB (aD hB GK FK o).1 (eW hB GK FK es),cQ rfl (G9 GK hB (aD hB GK FK o).1 (eW hB GK FK es))⟩
theorem eW (hB:3<=B) (GK:ċ) (FK:ù F B):∀ps:Į,Ķ F B ps
 |.nil=>trivial
 |.cons p ps=>⟨aD hB GK FK p,eW hB GK FK ps⟩
theorem kS (hB:3<=B) (GK:ċ) (FK:ù F B):∀p:PI,ă F B p
 |.val e=>NN (aD hB GK FK e).1
 |.rng1 e=>JF GK (aD hB GK FK e).1
 |.rng2 e f=>JG GK (aD hB GK FK e).1 (aD hB GK FK f).1
 |.rng3 e f=>JH GK (aD hB GK FK e).1 (aD hB GK FK f).1
end
end
noncomputable def vG (e:ar):Bool:=e.ctorIdx==8
noncomputable def NT (e:ar):Bool:=e.ctorIdx==25
theorem pW (h:vG e=true):∃el gens sc pos,e=.ListComp el gens sc pos:=oh (motive_1:=λe=>∃el gens sc pos,e=.ListComp el gens sc pos) e (am h) λa b c d=>(fX a b c ⟨d,rfl⟩)
noncomputable def TB (e:ib):Option (List ar×ar):=if h:e.ctorIdx=5 then uc (motive_2:=λ_=>Option (List ar×ar)) e h (λt v _=>some (t,v)) else none
theorem vH (h:TB e=some x):∃p',e=.Assign x.1 x.2 p':= by
 obtain⟨c,h⟩:=bR h;exact uc (motive_2:=λe=>∀c,uc (motive_2:=λ_=>Option (List ar×ar)) e c (λt v _=>some (t,v))=some x->∃p',e=.Assign x.1 x.2 p') e c (λ_ _ _ c h=>by cases sm h;exact⟨_,rfl⟩) c h
noncomputable def ZM (e:ib):Option (ar×ic×ar):=if h:e.ctorIdx=7 then qw (motive_2:=λ_=>Option (ar×ic×ar)) e h (λt o v _=>some (t,o,v)) else none
theorem NU (h:ZM e=some x):∃p',e=.AugAssign x.1 x.2.1 x.2.2 p':= by
 obtain⟨c,h⟩:=bR h;exact qw (motive_2:=λe=>∀c,qw (motive_2:=λ_=>Option (ar×ic×ar)) e c (λt o v _=>some (t,o,v))=some x->∃p',e=.AugAssign x.1 x.2.1 x.2.2 p') e c (λ_ _ _ _ c h=>by cases sm h;exact⟨_,rfl⟩) c h
noncomputable def vEx (e:ib):Option (ar):=if h:e.ctorIdx=24 then wn (motive_2:=λ_=>Option (ar)) e h (λe1 _=>some e1) else none
theorem HC (h:vEx e=some x):∃p',e=.Expr x p':= by
 obtain⟨c,h⟩:=bR h;exact wn (motive_2:=λe=>∀c,wn (motive_2:=λ_=>Option (ar)) e c (λe1 _=>some e1)=some x->∃p',e=.Expr x p') e c (λ_ _ c h=>by cases sm h;exact⟨_,rfl⟩) c h
noncomputable def NV (e:ib):Option (ar×List ib×List ib):=if h:e.ctorIdx=12 then zm (motive_2:=λ_=>Option (ar×List ib×List ib)) e h (λt a b _=>some (t,a,b)) else none
theorem qO (h:NV e=some x):∃p',e=.If x.1 x.2.1 x.2.2 p':= by
 obtain⟨c,h⟩:=bR h;exact zm (motive_2:=λe=>∀c,zm (motive_2:=λ_=>Option (ar×List ib×List ib)) e c (λt a b _=>some (t,a,b))=some x->∃p',e=.If x.1 x.2.1 x.2.2 p') e c (λ_ _ _ _ c h=>by cases sm h;exact⟨_,rfl⟩) c h
noncomputable def TC (e:ib):Option (ar×ar×List ib×List ib):=if h:e.ctorIdx=9 then ye (motive_2:=λ_=>Option (ar×ar×List ib×List ib)) e h (λt i a b _=>some (t,i,a,b)) else none
theorem vI (h:TC e=some x):∃p',e=.For x.1 x.2.1 x.2.2.1 x.2.2.2 p':= by
 obtain⟨c,h⟩:=bR h;exact ye (motive_2:=λe=>∀c,ye (motive_2:=λ_=>Option (ar×ar×List ib×List ib)) e c (λt i a b _=>some (t,i,a,b))=some x->∃p',e=.For x.1 x.2.1 x.2.2.1 x.2.2.2 p') e c (λ_ _ _ _ _ c h=>by cases sm h;exact⟨_,rfl⟩) c h
noncomputable def NW (e:ib):Option (ar×List ib×List ib):=if h:e.ctorIdx=11 then vp (motive_2:=λ_=>Option (ar×List ib×List ib)) e h (λt a b _=>some (t,a,b)) else none
theorem E0 (h:NW e=some x):∃p',e=.While x.1 x.2.1 x.2.2 p':= by
 obtain⟨c,h⟩:=bR h;exact vp (motive_2:=λe=>∀c,vp (motive_2:=λ_=>Option (ar×List ib×List ib)) e c (λt a b _=>some (t,a,b))=some x->∃p',e=.While x.1 x.2.1 x.2.2 p') e c (λ_ _ _ _ c h=>by cases sm h;exact⟨_,rfl⟩) c h
noncomputable def ZO (e:ib):Option (Option ar):=if h:e.ctorIdx=3 then ud (motive_2:=λ_=>Option (Option ar)) e h (λv _=>some v) else none
theorem NX (h:ZO e=some x):∃p',e=.Return x p':= by
 obtain⟨c,h⟩:=bR h;exact ud (motive_2:=λe=>∀c,ud (motive_2:=λ_=>Option (Option ar)) e c (λv _=>some v)=some x->∃p',e=.Return x p') e c (λ_ _ c h=>by cases sm h;exact⟨_,rfl⟩) c h
noncomputable def ZP (e:ib):Option (Pos):=if h:e.ctorIdx=26 then vt (motive_2:=λ_=>Option (Pos)) e h (λp=>some p) else none
theorem NY (h:ZP e=some x):e=.Break x:= by
 obtain⟨c,h⟩:=bR h;exact vt (motive_2:=λe=>∀c,vt (motive_2:=λ_=>Option (Pos)) e c (λp=>some p)=some x->e=.Break x) e c (λ_ c h=>by cases sm h;rfl) c h
def NZ (s:ib):Option (Str×ar):=(TB s).bind λa=>(İ a.1).bind λt=>(nV t).map λx=>(x,a.2)
theorem qP (h:NZ s=some x):∃px pos,s=.Assign [.Name x.1 px] x.2 pos:= by
 refine É (dq.mp h) λa h1 h=>?_;refine É (dq.mp h) λt h2 h=>?_;apply jQ (bk.mp h);intro y h3;apply ä (vH h1);intro pos;refine xe (gR h3) λpx e=>?_;exact O (dZ h2) (O e (ŭ px pos rfl))
def N0 (e:ar) (m:Str):Option (Str×List ar):=(nW e).bind λc=>(MP c.1).bind λa=>if (a.2.1==m&&(c.2.2.1.isEmpty&&a.2.2.endLine==c.2.2.2.line))=true then(nV a.1).map λx=>(x,c.2.1) else none
theorem yK (h:N0 e m=some x):∃px ap k,e=.Call (.Attribute (.Name x.1 px) m ap) x.2 [] k/\(ap.endLine==k.line)=true:= by
 refine É (dq.mp h) λc h1 h=>?_;refine É (dq.mp h) λa h2 h=>?_;have h:=aZ h;apply jQ (bk.mp h.2);intro y h3;have q:=aC h.1;have e1:=yB h2;refine xe (gR h3) λpx e2=>?_;rw[am q.1,e2] at e1;have q2:=aC q.2;exact(jE px a.2.2 c.2.2.2 ((fM h1).trans (by exact O e1 (O (dR q2.1) rfl))) q2.2)
section
def JL (cx:Cx) (asg:List Str) (e:ar) (i:Nat):Bool:=(nV e).any λx=>cx.vars.lookup x==some i&&(asg.contains x&&(!cx.own.contains i&&!cx.tk.contains i))
def nI (cx:Cx) (asg:List Str):List ar->List Nat->Bool
 |es,[]=>es.isEmpty
 |es,i::is=>match es with
  |[]=>false
  |e::es=>JL cx asg e i&&nI cx asg es is
termination_by structural _ is=>is
noncomputable def lH:List Nat->Bool
 |[]=>true
 |a::l=>!l.contains a&&lH l
theorem N1:lH (a::l)=(!l.contains a&&lH l):=rfl
def qQ (cx:Cx) (asg:List Str) (e:ar) (ts:List Nat):Bool:=match İ ts with
 |some i=>JL cx asg e i
 |none=>(I3 e).any λes=>nI cx asg es ts&&(decide (2<=ts.length)&&lH ts)
def tQ (e:ar):Bool:=match I3 e with
 |some vs=>vs.all (foldedForSure 8)||!vs.all (constantsAlone 8)
 |none=>true
def E1 (cx:Cx) (x:Str) (i:Nat):Bool:=cx.vars.lookup x==some i&&(cx.own.contains i&&d8 x)
noncomputable def aA9 (o:ic):Bool:=o==.Add
mutual
def jG (cx:Cx) (asg:List Str):ib->PS->Bool
 |s,.asg i e=>(NZ s).any λx=>cx.vars.lookup x.1==some i&&(asg.contains x.1&&(!cx.own.contains i&&(aN cx false x.2 e&&(!cx.tk.contains i||CB e))))
 |s,.asgO i e=>(NZ s).any λx=>cx.vars.lookup x.1==some i&&(asg.contains x.1&&(cx.own.contains i&&(aN cx false x.2 e&&(!cx.tk.contains i&&z5 e))))
 |s,.newD i=>(NZ s).any λx=>(VS x.2).any λd=>d.1.isEmpty&&(d.2.isEmpty&&(cx.vars.lookup x.1==some i&&(asg.contains x.1&&(cx.own.contains i&&!cx.tk.contains i))))
 |s,.asgT ts e=>(TB s).any λa=>(İ a.1).any λt=>NT t&&(qQ cx asg t ts&&(decide (2<=ts.length)&&(aN cx false a.2 e&&tQ a.2)))
 |s,.aug i op e=>(ZM s).any λa=>(nV a.1).any λx=>a.2.1==op&&(cx.vars.lookup x==some i&&(asg.contains x&&(!cx.own.contains i&&(!cx.tk.contains i&&(d8 x&&aN cx true a.2.2 e)))))
 |s,.app i e=>(vEx s).any λc=>(N0 c ("append":Str)).any λx=>(İ x.2).any λa=>E1 cx x.1 i&&(aN cx false a e&&dA a)
 |s,.pop j i=>(NZ s).any λy=>(N0 y.2 ("pop":Str)).any λx=>x.2.isEmpty&&(E1 cx x.1 i&&(cx.vars.lookup y.1==some j&&(asg.contains y.1&&(!cx.own.contains j&&!cx.tk.contains j))))
 |s,.setI i k v=>(TB s).any λa=>(İ a.1).any λt=>(SL t).any λu=>(nV u.1).any λx=>E1 cx x i&&(aN cx true u.2 k&&aN cx true a.2 v)
 |s,.ite t a b=>(NV s).any λx=>aN cx true x.1 t&&(iG cx asg x.2.1 a&&iG cx asg x.2.2 b)
 |s,.for ts src body=>(TC s).any λx=>x.2.2.2.isEmpty&&(qQ cx asg x.1 ts&&(tG cx x.2.1 src&&iG cx asg x.2.2.1 body))
 |s,.esc ts e body=>(TC s).any λx=>(nW x.2.1).any λc=>(İ c.2.1).any λa=>x.2.2.2.isEmpty&&(c.2.2.1.isEmpty&&(qQ cx asg x.1 ts&&(iT cx c.1 EM&&(dA a&&(aN cx true a e&&iG cx asg x.2.2.1 body)))))
 |s,.while n t body=>(NW s).any λx=>x.2.2.isEmpty&&(aN cx true x.1 t&&iG cx asg x.2.1 body)
 |s,.ret e=>(ZO s).any λv=>v.any λv=>aN cx true v e
 |s,.brk=>(ZP s).isSome
def iG (cx:Cx) (asg:List Str):List ib->ě->Bool
 |ss,.nil=>ss.isEmpty
 |ss,.cons p ps=>match ss with
  |s::ss=>jG cx asg s p&&iG cx asg ss ps
  |[]=>false
end
end
section
variable{cx:Cx}{asg:List Str}{st:ib}
theorem nJ (h:(!a)=true):a=false:=by cases a<;>first|rfl|exact nf h
theorem r9{l:List Str}{x:Str}(h:l.contains x=true):x∈l:=pq.mp h
theorem ZQ (h:(!a||b)=true):a=false\/b=true:=by cases a<;>first|exact .inl rfl|exact .inr h
theorem TD{i:Nat}{e:PE}(h:jG cx asg st (.asg i e)=true):∃x px v pos,st=.Assign [.Name x px] v pos/\cx.vars.lookup x=some i/\x∈asg/\cx.own.contains i=false/\aN cx false v e=true/\(cx.tk.contains i=false\/CB e=true):= by
 refine É (aE h) λx h1 h2=>?_;refine ň (qP h1) λpx pos e1=>?_;have q1:=aC h2;have q2:=aC q1.2;have q3:=aC q2.2;have q4:=aC q3.2;exact(cP _ px _ pos e1 (am q1.1) (r9 q2.1) (nJ q3.1) ⟨q4.1,(ZQ q4.2)⟩)
theorem N2{i:Nat}{e:PE}(h:jG cx asg st (.asgO i e)=true):∃x px v pos,st=.Assign [.Name x px] v pos/\cx.vars.lookup x=some i/\x∈asg/\cx.own.contains i=true/\aN cx false v e=true/\cx.tk.contains i=false/\z5 e=true:= by
 refine É (aE h) λx h1 h2=>?_;refine ň (qP h1) λpx pos e1=>?_;have q1:=aC h2;have q2:=aC q1.2;have q3:=aC q2.2;have q4:=aC q3.2;have q5:=aC q4.2;exact(cP _ px _ pos e1 (am q1.1) (r9 q2.1) q3.1 (Ý q4.1 (nJ q5.1) q5.2))
theorem N3{i:Nat}(h:jG cx asg st (.newD i)=true):∃x px pd pos,st=.Assign [.Name x px] (.Dict [] [] pd) pos/\cx.vars.lookup x=some i/\x∈asg/\cx.own.contains i=true/\cx.tk.contains i=false:= by
 refine É (aE h) λx h1 h2=>?_;refine É (aE h2) λd h3 h4=>?_;refine ň (qP h1) λpx pos e1=>?_;refine xe (I4 h3) λpd e2=>?_;have q1:=aC h4;have q2:=aC q1.2;have q3:=aC q2.2;have q4:=aC q3.2;have q5:=aC q4.2;rw[dR q1.1,dR q2.1] at e2;rw[e2] at e1;exact(cP _ px pd pos e1 (am q3.1) (r9 q4.1) q5.1 (nJ q5.2))
theorem N4 (h:jG cx asg st (.asgT ts e)=true):∃es k p v pos,st=.Assign [.Tuple es k p] v pos/\qQ cx asg (.Tuple es k p) ts=true/\2<=ts.length/\aN cx false v e=true/\tQ v=true:= by
 refine É (aE h) λa h1 h2=>?_;refine É (aE h2) λt h3 h4=>?_;refine xe (vH h1) λpos e1=>?_;have q1:=aC h4;have q2:=aC q1.2;have q3:=aC q2.2;rw[dZ h3] at e1;have e2:∃es k p,t=.Tuple es k p:=oe (motive_1:=λe=>∃a b c,e=.Tuple a b c) t (am q1.1) λa b c=>(fX a b c rfl);refine jA e2 λes k p e2=>?_;subst e2;exact(fX es k p (cX _ pos e1 q2.1 (of_decide_eq_true q3.1) (aC q3.2)))
theorem TG{i:Nat}{op:ic}{e:PE}(h:jG cx asg st (.aug i op e)=true):∃x px v pos,st=.AugAssign (.Name x px) op v pos/\cx.vars.lookup x=some i/\x∈asg/\cx.own.contains i=false/\cx.tk.contains i=false/\d8 x=true/\aN cx true v e=true:= by
 refine É (aE h) λa h1 h2=>?_;refine É (aE h2) λx h3 h4=>?_;refine xe (NU h1) λpos e1=>?_;refine xe (gR h3) λpx e2=>?_;have q1:=aC h4;have q2:=aC q1.2;have q3:=aC q2.2;have q4:=aC q3.2;have q5:=aC q4.2;rw[e2,am q1.1] at e1;exact(cP x px _ pos e1 (am q2.1) (r9 q3.1) (nJ q4.1) ⟨(nJ q5.1),(aC q5.2)⟩)
theorem TH (h:jG cx asg st (.app i e)=true):∃x px ap a k pos,st=.Expr (.Call (.Attribute (.Name x px) ("append":Str) ap) [a] [] k) pos/\E1 cx x i=true/\aN cx false a e=true/\dA a=true/\(ap.endLine==k.line)=true:= by
 refine É (aE h) λc h1 h2=>?_;refine É (aE h2) λx h3 h4=>?_;refine É (aE h4) λa h5 h6=>?_;refine xe (HC h1) λpos e1=>?_;refine nR (yK h3) λpx ap k e2 q=>?_;rw[e2,dZ h5] at e1;exact(jF _ px ap a k pos e1 ((aC h6).1) ((aC (aC h6).2).1) ((aC (aC h6).2).2) q)
theorem TI{j i:Nat}(h:jG cx asg st (.pop j i)=true):∃y py x px ap k pos,st=.Assign [.Name y py] (.Call (.Attribute (.Name x px) ("pop":Str) ap) [] [] k) pos/\E1 cx x i=true/\(ap.endLine==k.line)=true/\cx.vars.lookup y=some j/\y∈asg/\cx.own.contains j=false/\cx.tk.contains j=false:= by
 refine É (aE h) λy h1 h2=>?_;refine É (aE h2) λx h3 h4=>?_;refine ň (qP h1) λpy pos e1=>?_;refine nR (yK h3) λpx ap k e2 q=>?_;have q1:=aC h4;have q2:=aC q1.2;have q3:=aC q2.2;have q4:=aC q3.2;have q5:=aC q4.2;rw[e2,dR q1.1] at e1;exact(fX _ py _ (cP px ap k pos e1 q2.1 q (am q3.1) (Ý (r9 q4.1) (nJ q5.1) (nJ q5.2))))
theorem N5 (h:jG cx asg st (.setI i k v)=true):∃x px ke sp ve pos,st=.Assign [.Subscript (.Name x px) ke sp] ve pos/\E1 cx x i=true/\aN cx true ke k=true/\aN cx true ve v=true:= by
 refine É (aE h) λa h1 h2=>?_;refine É (aE h2) λt h3 h4=>?_;refine É (aE h4) λu h5 h6=>?_;refine É (aE h6) λx h7 h8=>?_;refine xe (vH h1) λpos e1=>?_;refine xe (u4 h5) λsp e2=>?_;refine xe (gR h7) λpx e3=>?_;rw[e3] at e2;rw[dZ h3,e2] at e1;exact(fX x px _ (rU sp _ pos e1 ((aC h8).1) (aC (aC h8).2)))
theorem N6 (h:jG cx asg st (.ite t a b)=true):∃te bs os pos,st=.If te bs os pos/\aN cx true te t=true/\iG cx asg bs a=true/\iG cx asg os b=true:= by
 refine É (aE h) λx h1 h2=>?_;refine xe (qO h1) λpos e1=>?_;exact(i6 _ _ _ pos e1 ((aC h2).1) (aC (aC h2).2))
theorem TJ (h:jG cx asg st (.for ts src body)=true):∃tgt it bs pos,st=.For tgt it bs [] pos/\qQ cx asg tgt ts=true/\tG cx it src=true/\iG cx asg bs body=true:= by
 refine É (aE h) λx h1 h2=>?_;refine xe (vI h1) λpos e1=>?_;rw[dR (aC h2).1] at e1;exact(i6 _ _ _ pos e1 ((aC (aC h2).2).1) (aC (aC (aC h2).2).2))
theorem TK (h:jG cx asg st (.esc ts e body)=true):∃tgt g a k bs pos,st=.For tgt (.Call g [a] [] k) bs [] pos/\qQ cx asg tgt ts=true/\iT cx g EM=true/\dA a=true/\aN cx true a e=true/\iG cx asg bs body=true:= by
 refine É (aE h) λx h1 h2=>?_;refine É (aE h2) λc h3 h4=>?_;refine É (aE h4) λa h5 h6=>?_;refine xe (vI h1) λpos e1=>?_;have q1:=aC h6;have q2:=aC q1.2;have q3:=aC q2.2;have q4:=aC q3.2;have q5:=aC q4.2;rw[fM h3,dZ h5,dR q1.1,dR q2.1] at e1;exact(jF _ _ a _ _ pos e1 q3.1 q4.1 q5.1 (aC q5.2))
theorem JM (h:jG cx asg st (.while n t body)=true):∃te bs pos,st=.While te bs [] pos/\aN cx true te t=true/\iG cx asg bs body=true:= by
 refine É (aE h) λx h1 h2=>?_;refine xe (E0 h1) λpos e1=>?_;rw[dR (aC h2).1] at e1;exact(jE _ _ pos e1 (aC (aC h2).2))
theorem TL (h:jG cx asg st (.ret e)=true):∃v pos,st=.Return (some v) pos/\aN cx true v e=true:= by
 refine É (aE h) λx h1 h2=>?_;refine É (aE h2) λv h3 h4=>?_;refine xe (NX h1) λpos e1=>?_;rw[h3] at e1;exact(mL v pos e1 h4)
theorem TM (h:jG cx asg st .brk=true):∃pos,st=.Break pos:= by
 refine xe (au.mp h) λx h1=>?_;exact⟨x,NY h1⟩
theorem E2 (h:iG cx asg ss (.cons p ps)=true):∃s us,ss=s::us/\jG cx asg s p=true/\iG cx asg us ps=true:= by
 cases ss with
 |nil=>exact nf h
 |cons s us=>exact(mL s us rfl (aC h))
theorem vJ{e:ar}{i:Nat}(h:JL cx asg e i=true):∃x pos,e=.Name x pos/\cx.vars.lookup x=some i/\x∈asg/\cx.own.contains i=false/\cx.tk.contains i=false:= by
 refine É (aE h) λx h1 h2=>?_;refine xe (gR h1) λpos e1=>?_;have q1:=aC h2;have q2:=aC q1.2;have q3:=aC q2.2;exact(cX x pos e1 (am q1.1) (r9 q2.1) ⟨(nJ q3.1),(nJ q3.2)⟩)
theorem vK (h:nI cx asg es (i::is)=true):∃e us,es=e::us/\JL cx asg e i=true/\nI cx asg us is=true:= by
 cases es with
 |nil=>exact nf h
 |cons e us=>exact(mL e us rfl (aC h))
theorem vL (h:qQ cx asg e ts=true):(∃i,ts=[i]/\JL cx asg e i=true)\/∃es k p,e=.Tuple es k p/\nI cx asg es ts=true/\2<=ts.length/\lH ts=true:= by
 unfold qQ at h;cases c:İ ts with
 |some i=>rw[c] at h;exact .inl (Õ i (dZ c) h)
 |none=>
  rw[c] at h;refine É (aE (show(I3 e).any _=true from h)) λes h1 h2=>?_;refine ň (u5 h1) λk p e1=>?_;exact .inr (dH es k p e1 ((aC h2).1) (of_decide_eq_true (aC (aC h2).2).1) ((aC (aC h2).2).2))
end
section
variable{F:Fn}{pe pe':Å}{fl:Fl}{e:PE}
theorem cY (h:some (a,c)=some (b,d)):b=a/\d=c:=by cases h;exact⟨rfl,rfl⟩
theorem TN (h:dY F (.asg i e) pe=some (pe',fl)):∃p,aB F e pe=some p/\pe'=st pe i p/\fl=.next:= by
 have h:(match aB F e pe with|some p=>some (st pe i p,Fl.next)|none=>none)=some (pe',fl):=h;revert h;cases aB F e pe with
 |none=>exact nn
 |some p=>exact λh=>(Õ p rfl (cY h))
theorem N7 (h:dY F (.asgO i e) pe=some (pe',fl)):∃l,aB F e pe=some (.lst l)/\pe'=st pe i (.lst l)/\fl=.next:= by
 have h:(match aB F e pe with|some (.lst l)=>some (st pe i (.lst l),Fl.next)|_=>none)=some (pe',fl):=h;revert h;cases aB F e pe with
 |none=>exact nn
 |some p=>
  cases p<;>try (exact nn)
  exact λh=>(Õ _ rfl (cY h))
theorem N8 (h:dY F (.asgT ts e) pe=some (pe',fl)):∃p,aB F e pe=some p/\gQ ts p pe=some pe'/\fl=.next:= by
 have h:(match aB F e pe with|some p=>(match gQ ts p pe with|some pe'=>some (pe',Fl.next)|none=>none)|none=>none)=some (pe',fl):=h;revert h;cases aB F e pe with
 |none=>exact nn
 |some p=>
  intro h;refine(Õ p rfl ?_);have h:(match gQ ts p pe with|some pe'=>some (pe',Fl.next)|none=>none)=some (pe',fl):=h;revert h;cases gQ ts p pe with
  |none=>exact nn
  |some q=>exact λh=>by cases h;exact⟨rfl,rfl⟩
theorem TO (h:dY F (.aug i op e) pe=some (pe',fl)):∃x y z,lk pe i=some x/\aB F e pe=some y/\zX op x y=some z/\pe'=st pe i z/\fl=.next:= by
 have h:(match lk pe i,aB F e pe with|some x,some y=>(match zX op x y with|some z=>some (st pe i z,Fl.next)|none=>none)|_,_=>none)=some (pe',fl):=h;revert h;cases lk pe i with
 |none=>exact nn
 |some x=>cases aB F e pe with
  |none=>exact nn
  |some y=>
   intro h;have h:(match zX op x y with|some z=>some (st pe i z,Fl.next)|none=>none)=some (pe',fl):=h;revert h;cases c:zX op x y with
   |none=>exact nn
   |some z=>exact λh=>(dH x y z rfl rfl c (cY h))
theorem TP (h:dY F (.app i e) pe=some (pe',fl)):∃x y,lk pe i=some (.lst x)/\aB F e pe=some y/\x.length<=100000/\pe'=st pe i (.lst (x++[y]))/\fl=.next:= by
 have h:(match lk pe i,aB F e pe with|some (.lst x),some y=>if x.length<=100000 then some (st pe i (.lst (x++[y])),Fl.next) else none|_,_=>none)=some (pe',fl):=h;revert h;cases lk pe i with
 |none=>exact nn
 |some x=>
  cases x<;>try (exact nn)
  cases aB F e pe with
  |none=>exact nn
  |some y=>exact λh=>(cX _ _ rfl rfl ((aZ h).1) (cY (aZ h).2))
set_option tactic.hygienic true in
theorem TQ (h:dY F (.pop j i) pe=some (pe',fl)):∃x y,lk pe i=some (.lst x)/\x.getLast?=some y/\x.length<=100000/\pe'=st (st pe i (.lst x.dropLast)) j y/\fl=.next:= by
 have h:(match lk pe i with|some (.lst x)=>(match x.getLast? with|some y=>if x.length<=100000 then some (st (st pe i (.lst x.dropLast)) j y,Fl.next) else none|none=>none)|_=>none)=some (pe',fl):=h;revert h;cases lk pe i with
 |none=>exact nn
 |some x=>
  cases x<;>try (exact nn)
  rename_i x;intro h;have h:(match x.getLast? with|some y=>if x.length<=100000 then some (st (st pe i (.lst x.dropLast)) j y,Fl.next) else none|none=>none)=some (pe',fl):=h;revert h;cases c:x.getLast? with
  |none=>exact nn
  |some y=>exact λh=>(cX _ _ rfl c ((aZ h).1) (cY (aZ h).2))
theorem N9 (h:dY F (.setI i k v) pe=some (pe',fl)):∃l a x,lk pe i=some (.dcti l)/\aB F k pe=some (.int a)/\aB F v pe=some (.str x)/\(l.lookup a).isSome=false/\l.length<=10000/\pe'=st pe i (.dcti (l++[(a,.t x)]))/\fl=.next:= by
 have h:(match lk pe i,aB F k pe,aB F v pe with
  |some (.dcti l),some (.int k),some (.str v)=>if (l.lookup k).isSome||decide (l.length>10000) then none else some (st pe i (.dcti (l++[(k,.t v)])),Fl.next)
  |_,_,_=>none)=some (pe',fl):=h
 revert h;cases lk pe i with
 |none=>exact nn
 |some x=>
  cases x<;>try (exact nn)
  cases aB F k pe with
  |none=>exact nn
  |some y=>
   cases y<;>try (exact nn)
   cases aB F v pe with
   |none=>exact nn
   |some z=>
    cases z<;>try (exact nn)
    intro h;have h:=xT h;have q:=wm.mp (Bool.eq_false_iff.mpr h.1);exact(eV _ _ _ rfl rfl rfl q.1 ⟨(tq (of_decide_eq_false q.2)),(cY h.2)⟩)
set_option tactic.hygienic true in
theorem OA (h:dY F (.ite t a b) pe=some (pe',fl)):(aB F t pe=some (.bool true)/\aF F a pe=some (pe',fl))\/(aB F t pe=some (.bool false)/\aF F b pe=some (pe',fl)):= by
 have h:(match aB F t pe with|some (.bool true)=>aF F a pe|some (.bool false)=>aF F b pe|_=>none)=some (pe',fl):=h;revert h;cases aB F t pe with
 |none=>exact nn
 |some x=>
  cases x<;>try (exact nn)
  rename_i c;cases c with
  |true=>exact λh=>.inl ⟨rfl,h⟩
  |false=>exact λh=>.inr ⟨rfl,h⟩
theorem TR (h:dY F (.for ts src body) pe=some (pe',fl)):∃À,gZ F src pe=some À/\eR (aF F body) ts À pe=some (pe',fl):= by
 have h:(match gZ F src pe with|some À=>eR (aF F body) ts À pe|none=>none)=some (pe',fl):=h;revert h;cases gZ F src pe with
 |none=>exact nn
 |some l=>exact λh=>(Õ l rfl h)
theorem TS (h:dY F (.esc ts e body) pe=some (pe',fl)):∃p À,aB F e pe=some p/\f6 p=some À/\eR (aF F body) ts À pe=some (pe',fl):= by
 have h:(match aB F e pe with|some p=>(match f6 p with|some À=>eR (aF F body) ts À pe|none=>none)|none=>none)=some (pe',fl):=h;revert h;cases aB F e pe with
 |none=>exact nn
 |some p=>
  intro h;have h:(match f6 p with|some À=>eR (aF F body) ts À pe|none=>none)=some (pe',fl):=h;revert h;cases c:f6 p with
  |none=>exact nn
  |some l=>exact λh=>(cC p l rfl c h)
theorem TT (h:dY F (.ret e) pe=some (pe',fl)):∃p,aB F e pe=some p/\pe'=pe/\fl=.ret p:= by
 have h:(match aB F e pe with|some p=>some (pe,Fl.ret p)|none=>none)=some (pe',fl):=h;revert h;cases aB F e pe with
 |none=>exact nn
 |some p=>exact λh=>(Õ p rfl (cY h))
theorem yL (h:eR body tg (p::l) pe=some (pe',fl)):∃Ht Gi f2,gQ tg p pe=some Ht/\body Ht=some (Gi,f2)/\
  ((f2=.next/\eR body tg l Gi=some (pe',fl))\/(f2=.brk/\pe'=Gi/\fl=.next)\/∃v,f2=.ret v/\pe'=Gi/\fl=.ret v):= by
 have h:(match gQ tg p pe with
  |none=>none
  |some Ht=>(match body Ht with
   |some (Gi,.next)=>eR body tg l Gi
   |some (Gi,.brk)=>some (Gi,.next)
   |some (Gi,.ret v)=>some (Gi,.ret v)
   |none=>none))=some (pe',fl):=h
 revert h;cases gQ tg p pe with
 |none=>exact nn
 |some Ht=>
  intro h;refine zS λG hG=>?_;have h:(match body Ht with
   |some (Gi,.next)=>eR body tg l Gi
   |some (Gi,.brk)=>some (Gi,.next)
   |some (Gi,.ret v)=>some (Gi,.ret v)
   |none=>none)=some (pe',fl):=h
  cases c:body Ht with
  |none=>rw[c] at h;exact nn h
  |some q=>
   rw[c] at h;obtain⟨Gi,f2⟩:=q;refine hG (rU Ht Gi f2 rfl c ?_);cases f2 with
   |next=>exact .inl ⟨rfl,h⟩
   |brk=>exact .inr (.inl ⟨rfl,cY h⟩)
   |ret v=>exact .inr (.inr (Õ v rfl (cY h)))
set_option tactic.hygienic true in
theorem CQ (h:gG t body (n+1) pe=some (pe',fl)):(t pe=some (.bool false)/\pe'=pe/\fl=.next)\/(t pe=some (.bool true)/\∃Gi f2,body pe=some (Gi,f2)/\
  ((f2=.next/\gG t body n Gi=some (pe',fl))\/(f2=.brk/\pe'=Gi/\fl=.next)\/∃v,f2=.ret v/\pe'=Gi/\fl=.ret v)):= by
 have h:(match t pe with
  |some (.bool false)=>some (pe,.next)
  |some (.bool true)=>(match body pe with
   |some (Gi,.next)=>gG t body n Gi
   |some (Gi,.brk)=>some (Gi,.next)
   |some (Gi,.ret v)=>some (Gi,.ret v)
   |none=>none)
  |_=>none)=some (pe',fl):=h
 revert h;cases t pe with
 |none=>exact nn
 |some x=>
  cases x<;>try (exact nn)
  rename_i c;cases c with
  |false=>exact λh=>.inl ⟨rfl,cY h⟩
  |true=>
   intro h;refine .inr ⟨rfl,?_⟩;have h:(match body pe with
    |some (Gi,.next)=>gG t body n Gi
    |some (Gi,.brk)=>some (Gi,.next)
    |some (Gi,.ret v)=>some (Gi,.ret v)
    |none=>none)=some (pe',fl):=h
   cases c:body pe with
   |none=>rw[c] at h;exact nn h
   |some q=>
    rw[c] at h;obtain⟨Gi,f2⟩:=q;refine(mL Gi f2 rfl ?_);cases f2 with
    |next=>exact .inl ⟨rfl,h⟩
    |brk=>exact .inr (.inl ⟨rfl,cY h⟩)
    |ret v=>exact .inr (.inr (Õ v rfl (cY h)))
theorem E4 (h:aF F (.cons s ss) pe=some (pe',fl)):∃Ht f1,dY F s pe=some (Ht,f1)/\((f1=.next/\aF F ss Ht=some (pe',fl))\/(f1=fl/\pe'=Ht/\fl≠.next)):= by
 have h:(match dY F s pe with
  |some (pe',.next)=>aF F ss pe'
  |r=>r)=some (pe',fl):=h
 revert h;cases dY F s pe with
 |none=>exact nn
 |some q=>
  obtain⟨Ht,f1⟩:=q;intro h;refine(mL Ht f1 rfl ?_);cases f1 with
  |next=>exact .inl ⟨rfl,h⟩
  |brk=>exact .inr (by cases h;exact(Ý rfl rfl (λq=>nomatch q)))
  |ret v=>exact .inr (by cases h;exact(Ý rfl rfl (λq=>nomatch q)))
end
mutual
def ns:PS->Nat
 |.asg _ e|.asgO _ e|.asgT _ e|.aug _ _ e|.app _ e|.ret e=>nd e
 |.newD _|.pop _ _|.brk=>0
 |.setI _ k v=>max (nd k) (nd v)
 |.ite t a b=>max (nd t) (max (ĥ a) (ĥ b))+1
 |.for _ src b=>max (ndi src) (ĥ b)+1
 |.esc _ e b=>max (nd e) (ĥ b)+12
 |.while _ t b=>max (nd t) (ĥ b)+1
def ĥ:ě->Nat
 |.nil=>0
 |.cons s ss=>max (ns s) (ĥ ss)
end
inductive ĵ (h:jg) (Na:Ap):Fl->Cd->Prop
 |next:ĵ h Na .next .next
 |brk:ĵ h Na .brk .brk
 |ret{p:PV}{v:ag}:RV h Na v p->ĵ h Na (.ret p) (.ret v)
section
variable (F:Fn) (B:Nat)
def ì (p:PS):Prop:=∀{A:dm}{cx:Cx}{asg:List Str}{Á:Env}{s:aj}{Na No:Ap}{pe pe':Å}{fl:Fl}{st:ib}{Q:Cd->aj->Prop}{E:Vs},
 cx.top=true->Ê A (ns p+B)->Ä cx asg Á s Na No pe->jG cx asg st p=true->dY F p pe=some (pe',fl)->
 (∀f s' No',Ö s No s' No'->Ä cx asg Á s' Na No' pe'->ĵ s'.heap Na fl f->Q f s')->wpAny (model Pg W0) A (exec st Á) Q E s
def è (p:ě):Prop:=∀{A:dm}{cx:Cx}{asg:List Str}{Á:Env}{s:aj}{Na No:Ap}{pe pe':Å}{fl:Fl}{st:List ib}{Q:Cd->aj->Prop}{E:Vs},
 cx.top=true->Ê A (ĥ p+B)->Ä cx asg Á s Na No pe->iG cx asg st p=true->aF F p pe=some (pe',fl)->
 (∀f s' No',Ö s No s' No'->Ä cx asg Á s' Na No' pe'->ĵ s'.heap Na fl f->Q f s')->wpAny (model Pg W0) A (execs st Á) Q E s
end
section
variable{F:Fn}{B:Nat}
variable{A:dm}{cx:Cx}{asg:List Str}{Á:Env}{s:aj}{Na No:Ap}{pe:Å}{E:Vs}
theorem OB (h:aN cx b (.SetComp el g sc pos) p=true):False:=by cases p<;>exact nf h
theorem JN (h:aN cx b (.DictComp k v g sc pos) p=true):False:=by cases p<;>exact nf h
theorem OC (h:aN cx b (.ListComp el g sc pos) p=true):∃Hd tg src iN c,p=.comp Hd tg src iN c:= by
 cases p<;>first|exact nf h|exact(fX _ _ _ (ŭ _ _ rfl))
theorem tH (h:aN cx b e p=true) (hc:vG e=false):swapsWith e t l Á=dx false:= by
 cases e<;>first|rfl|exact nf hc.symm|exact(OB h).elim|exact(JN h).elim
theorem vM:∃b,swapsWith (.ListComp el gens sc pos) (some (.Name x px)) l Á=dx b:=⟨_,rfl⟩
theorem Pure.toExt (P:Pure s s') (h:∀b,No' b->No b\/s.heap.objs.size<=b):Ö s No s' No':=
 ⟨⟨λb o _ e=>Pure.keep P b o e,P.step.grow,h⟩,P.gens,P.bare,P.os,P.drawn,Ö.toks P⟩
theorem Ns.obj{h:jg}{C:ew}{m:Str->Option ag}(n:h.Ns C m):∃o,h.get? C=some o/\∀v,o.data≠.cell v:= by
 refine pL n λo es ep h1 h2 _=>?_;exact(Õ o h1 (λv e=>by rw[h2] at e;cases e))
theorem JO{e:PE}{i:Nat}{x:Str}{px pos:Pos}{v:ar}{p:PV}{Q:Cd->aj->Prop}(hE:∀p,Ç F B p) (hT:∀p,Û F B p) (hI:∀p,ă F B p)
  (R:Ê A (nd e+B)) (X:Ä cx asg Á s Na No pe) (hc:aN cx false v e=true) (hv:vG v=true) (hd:aB F e pe=some p) (hi:cx.vars.lookup x=some i) (hx:x∈asg) (htk:cx.tk.contains i=false)
  (Yg:swapsWith v (some (.Name x px)) pos.line Á=dx true)
  (hQ:∀s' No',Ö s No s' No'->Ä cx asg Á s' Na No' (st pe i p)->Q .next s'):wpAny (model Pg W0) A (exec (.Assign [.Name x px] v pos) Á) Q E s:= by
 refine O (exec_Assign_Name_used _ _ _ _ Yg) ?_;refine fZ (pW hv) λel gens sc cpos aT=>?_;subst aT;refine fZ (OC hc) λHd tg src iN zt=>?_;refine xe zt λc aT=>?_;clear zt;subst aT;refine fZ (B8 hc) λel' y py it zt=>?_;refine cH zt λifs sc' cpos' Nf h1 h2 zt=>?_;refine xa zt λh3 h4=>?_;clear zt;cases Nf;refine fR (CA hd) λÀ rs d1 d2 aT=>?_;subst aT;clear hc hd hv;refine bj (il (bj ?_));show wpAny _ _ (do let _ <-comprehension (.ListComp el [⟨.Name y py,it,ifs,0⟩] sc cpos) sc Á (firstIterPos [⟨.Name y py,it,ifs,0⟩] cpos) (newList []) false (eval it Á) (some (assign (.Name x px) Á));dx Ff) _ E s;refine bj (yI (use:=some (assign (.Name x px) Á)) (Q:=λ_ s'=>wpAny (model Pg W0) A (dx Ff) (λ_ s'=>wpAny (model Pg W0) A (dx Cd.next) Q E s') E s') (hE Hd) (hT c) (hI src) R X h1 h2 h3 h4 d1 d2 λacc C s' vs P ha hC Gv Rt Nd hl hr Gk=>?_);refine xe Gk λmC Yh=>?_;clear Gk;have Iz:=X.low;have X':Ä cx asg Á s' (λb=>Na b\/b=C) (λb=>No b\/(cx.own.contains i=true/\b=acc)) pe:= by
  refine X.grow P (λb q=>.inl q) (λb q=>q.elim .inl λq=>.inr (by exact O q hC)) (λb q=>?_) (λb q=>.inl q) (λb q=>q.elim .inl λq=>.inr (by refine O q.2 ?_;exact ha)) (λb q=>?_) (λb q1 q2=>?_)
  ·rcases q with q|q
   ·exact ae (Iz b (.inl q)) P.step.grow
   ·exact q▸Rt
  ·rcases q with q|q
   ·exact ae (Iz b (.inr q)) P.step.grow
   ·exact q.2▸Nd
  ·rcases q1 with q1|⟨_,q1⟩<;>rcases q2 with q2|q2
   ·exact X.disj b q1 q2
   ·exact absurd (Iz b (.inr q1)) (ax.mpr (q2▸hC))
   ·exact absurd (Iz b (.inl q2)) (ax.mpr (q1▸ha))
   ·exact Gv (q1.symm.trans q2)
 have Ky:¬(Na acc\/No acc):=λq=>absurd (Iz acc q) (ax.mpr ha);have slot:Ă cx Á s' (λb=>(Na b\/b=C)\/(No b\/(cx.own.contains i=true/\b=acc))) i (.ref acc) (.lst rs):= by
  refine⟨?_,λhk=>by rw[htk] at hk;cases hk⟩
  by_cases ho:cx.own.contains i=true
  ·refine O (if_pos ho) (hV acc rfl (.inr (.inr ⟨ho,rfl⟩)) ?_ (Õ vs hl (Í.weak' (λb q=>?_) hr)))
   ·exact ck (ae (X.base.low _ (.inr X.noL)) ha)
   ·rcases q with(q|q)|(q|q)
    ·exact .inl (.inl q)
    ·exact .inr (.inr q)
    ·exact .inl (.inr q)
    ·exact .inr (.inl q.2)
  ·refine O (if_neg ho) (.lst (λq=>?_) hl (Í.weak' (λb q=>?_) hr))
   ·rcases q with(q|q)|(q|q)
    ·exact Ky (.inl q)
    ·exact Gv q
    ·exact Ky (.inr q)
    ·exact ho q.1
   ·rcases q with(q|q)|(q|q)
    ·exact .inl (.inl q)
    ·exact .inr (.inr q)
    ·exact .inl (.inr q)
    ·exact absurd q.1 ho
 refine wpAny_assign_Name (eP X' hx hi slot (λa ea ho=>?_) (λa ea ho y' j hj Ws hs Os hb=>?_) λÃ b0 Jm _ Iv Kw Hn Gh=>?_)
 ·cases ea;exact .inr ⟨ho,rfl⟩
 ·cases ea;have:Ë Á s.heap y' (.ref acc):= by
   refine xe (au.mp hs) λq hq=>?_;exact X.bind_back P hj hq hb
  exact absurd (X.lowO acc (X.turns y' j acc hj Os hs this)) (ax.mpr ha)
 ·have Yi:C≠b0:= by
   intro e;subst e;rcases Jm with Jm|Jm
   ·exact absurd (Iz C (.inr Jm)) (ax.mpr hC)
   ·exact Gv Jm.2.symm
  have Wt:Ã.heap.Ns C mC:=Yh.sameBut Iv Yi;refine(Õ mC Wt (λh' Jg=>cv (cv ?_)));refine É (Ns.obj Wt) λoC Yj Yk=>?_;have Gm:Ä cx asg Á {Ã with heap:=h'} (λb=>Na b\/b=C) (λb=>No b\/(cx.own.contains i=true/\b=acc)) (st pe i (.lst rs)):=
   Gh.poke (.inr rfl) Yj Yk (λb o hb e=>Jg.extBut b o hb e) (cf Jg.1.symm) (ai _) id
  refine hQ _ (λb=>No b\/(cx.own.contains i=true/\b=acc)) ?_ (Gm.narrow λb q=>.inl q);refine⟨⟨λb o hn e=>?_,?_,λb q=>q.elim .inl λq=>.inr (by exact O q.2 ha)⟩,λg gs e=>?_,λq=>?_,Hn.os.trans P.os,Hn.drawn.trans P.drawn,aa (Ö.toks P) (show s'.toks<=Ã.toks from Ö.toks Hn)⟩
  ·have hb:b<s.heap.objs.size:=da e;refine Jg.extBut b o (λq=>by rw[q] at hb;exact absurd hb (ax.mpr hC)) (Iv.extBut b o (λq=>?_) (Pure.keep P b o e));subst q;rcases Jm with Jm|Jm
   ·exact hn Jm
   ·rw[Jm.2] at hb;exact absurd hb (ax.mpr ha)
  ·show s.heap.objs.size<=h'.objs.size;exact O Jg.1 (O Iv.1 P.step.grow)
  ·exact Hn.gens g gs (P.gens g gs e)
  ·exact Hn.bare (P.bare q)
theorem OD (h4:aN cx b v e=true) (hv:vG v=true):CB e=false:= by
 obtain⟨el,gens,sc,cpos,rfl⟩:=pW hv;refine fZ (OC h4) λHd tg src iN zt=>?_;apply ä zt;intro c;clear zt;rfl
theorem yM (hE:∀p,Ç F B p) (hT:∀p,Û F B p) (hI:∀p,ă F B p)
  (R:Ê A (nd e+B)) (X:Ä cx asg Á s Na No pe) (hc:aN cx false v e=true) (hd:aB F e pe=some p) (hi:cx.vars.lookup x=some i) (hx:x∈asg) (htk:cx.tk.contains i=false\/CB e=true)
  (plain:swapsWith v (some (.Name x px)) pos.line Á=dx false->wpAny (model Pg W0) A (exec (.Assign [.Name x px] v pos) Á) Q E s)
  (hQ:∀s' No',Ö s No s' No'->Ä cx asg Á s' Na No' (st pe i p)->Q .next s'):wpAny (model Pg W0) A (exec (.Assign [.Name x px] v pos) Á) Q E s:= by
 cases hv:vG v with
 |false=>exact plain (tH hc hv)
 |true=>
  have htk:cx.tk.contains i=false:=htk.resolve_right λq=>nf ((OD hc hv).symm.trans q);obtain⟨b,hb⟩:∃b,swapsWith v (some (.Name x px)) pos.line Á=dx b:= by
   obtain⟨el,gens,sc,cpos,rfl⟩:=pW hv;exact vM
  cases b with
  |false=>exact plain hb
  |true=>exact JO hE hT hI R X hc hv hd hi hx htk hb hQ
theorem qR (hE:∀p,Ç F B p) (hT:∀p,Û F B p) (hI:∀p,ă F B p) (i:Nat) (e:PE):ì F B (.asg i e):= by
 intro A cx asg Á s Na No pe pe' fl Jh Q E htop R X hc hd hQ;apply j7 (TD hc);intro x px v pos hi hx h3 h4 h5;obtain⟨p,d1,rfl,rfl⟩:=TN hd;refine yM hE hT hI R X h4 d1 hi hx h5 (λhs=>?_) λs' No' he X'=>hQ _ _ No' he X' .next;refine wpAny_Assign_Name (hE e R X h4 d1 λu bc bY Gf=>?_) hs;have no:∀{C:Prop},cx.own.contains i=true->C:=λh=>nf (h3.symm.trans h);refine eP (X.pure bY) hx hi ⟨by exact O h3 (Gf.f rfl),λhk y t ey=>?_⟩ (λa ea h=>no h) (λa ea h=>no h) λÃ b0 _ _ _ _ he Gh=>hQ _ _ No ((bY.toExt λb q=>.inl q).trans he) Gh .next;exact Gf.tok (h5.resolve_left λq=>nf (q.symm.trans hk)) y t ey
theorem HE{bc:aj}{a:ew}{x:Str}{i:Nat}(X:Ä cx asg Á s Na No pe) (bY:Pure s bc) (ha:s.heap.objs.size<=a){y:Str}{j:Nat}(hj:cx.vars.lookup y=some j) (hs:(lk pe j).isSome=true) (Os:cx.own.contains j=true) (hb:Ë Á bc.heap y (.ref a)):False:= by
 refine xe (au.mp hs) λq hq=>?_;exact absurd (X.lowO a (X.turns y j a hj Os hs (X.bind_back bY hj hq hb))) (ax.mpr ha)
theorem JP (hE:∀p,Ç F B p) (hT:∀p,Û F B p) (hI:∀p,ă F B p) (i:Nat) (e:PE):ì F B (.asgO i e):= by
 intro A cx asg Á s Na No pe pe' fl Jh Q E htop R X hc hd hQ;apply j7 (N2 hc);intro x px v pos hi hx h3 h4 zt;refine xa zt λh5 h6=>?_;clear zt;obtain⟨l,d1,rfl,rfl⟩:=N7 hd;refine yM hE hT hI R X h4 d1 hi hx (.inl h5) (λhs=>?_) λs' No' he X'=>hQ _ _ No' he X' .next;refine wpAny_Assign_Name (hE e R X h4 d1 λu bc bY Gf=>?_) hs;apply j6 (Gf.fresh h6 l rfl);intro a vs ha hl hr;have Nd:a<bc.heap.objs.size:=let ⟨n,e⟩:=hl;da e;refine eP (X.wide (ā.one bY X.lowO ha Nd)) hx hi ⟨?_,λhk=>nf (h5.symm.trans hk)⟩ (λa' ea h=>by cases ea;exact .inr rfl) (λa' ea h y j hj Ws hs Os hb=>by cases ea;exact(HE (x:=x) (i:=i) X bY ha hj hs Os hb).elim) λÃ b0 _ _ _ _ he Gh=>hQ _ _ _ ((bY.toExt λb q=>q.elim .inl λq=>.inr (by exact O q ha)).trans he) Gh .next;exact O (if_pos h3) (hV a rfl (.inr (.inr rfl)) (ck (ae (X.base.low _ (.inr X.noL)) ha)) (Õ vs hl (Í.weak' (λb q=>q.elim (λq=>.inl (.inl q)) λq=>q.elim (λq=>.inl (.inr q)) .inr) hr)))
end
section
variable{A:dm}{E:Vs}{s:aj}
end
section
variable{F:Fn}{B:Nat}
variable{A:dm}{cx:Cx}{asg:List Str}{Á:Env}{s:aj}{Na No:Ap}{pe:Å}{E:Vs}
theorem Ë.load (k:Á.scope.kind=.function) (b:Ë Á s.heap x v) (h2:d8 x=true) (h:Q v s):wpAny (model Pg W0) A (loadName Á x) Q E s:= by
 have hd:(x==("__debug__":Str))=false/\(x==("__classdict__":Str))=false:=by simpa only[d8,be,ds] using h2
 cases b with
 |loc m h1 h3 h4=>exact wpAny_loadName_local k h1 h3 h4 h
 |cell c h1 h3 h4=>
  rcases h1 with h1|h1
  ·exact wpAny_loadName_cell k h1 h3 h4 h
  ·exact wpAny_loadName_free k h1 h3 h4 h hd.2
theorem ą.move (r:ą h N a p) (k:∀o,h.get? a=some o->h'.get? a=some o) (S:Step h N h' N'):ą h' N' a p:= by
 rcases r.cases with⟨l,vs,rfl,h4,h5⟩|⟨l,rfl,Ic,Gp,hd,Ls⟩
 ·exact(Õ vs (h4.at k) (h5.step S))
 ·refine nR hd λo es ep e q=>?_;exact(rT Ic Gp (jE o es ep (k _ e) q) Ls)
theorem Ä.mutate (r:Ä cx asg Á s Na No pe) (hi:cx.vars.lookup x=some i) (hown:cx.own.contains i=true) (hb:Ë Á s.heap x (.ref a)) (hp:lk pe i=some p)
  (Iv:rf a s.heap h') (ht:s.toks<=t') (Ug:ą h' (λb=>Na b\/No b) a p'):Ä cx asg Á {s with heap:=h',toks:=t'} Na No (st pe i p')/\Ö s No {s with heap:=h',toks:=t'} No/\Ë Á h' x (.ref a):= by
 have Kd:No a:=r.turns x i a hi hown (by refine O hp ?_;rfl) hb;refine É (r.vars x i p hi hp) λv0 Jm Uh=>?_;have Lm:=Jm.same hb;subst Lm;have Ru:=Uh.1;rw[if_pos hown] at Ru;refine cW Ru λa' ea _ Wu Ui=>?_;clear Ru;cases ea;have hk:∀b o,b≠a->s.heap.get? b=some o->h'.get? b=some o:=λb o hb e=>Iv.extBut b o hb e;have hg:s.heap.objs.size=h'.objs.size:=Iv.1.symm;have S:Step s.heap (λb=>Na b\/No b) h' (λb=>Na b\/No b):=⟨λb o hn e=>hk b o (λq=>hn (.inr (q▸Kd))) e,cf hg,λ_ q=>.inl q⟩;have Nw:∀c v,s.heap.IsCell c v->c≠a:=λc v h e=>sU Ui h e.symm;have Lr:∀c v,s.heap.IsCell c v->h'.IsCell c v:=λc v h=>let ⟨o,h1,h2⟩:=h;⟨o,hk c o (Nw c v h) h1,h2⟩;have Gk:∀m,s.heap.Ns Á.locals m->h'.Ns Á.locals m:=λm h=>let ⟨o,es,ep,x,q⟩:=h;⟨o,es,ep,hk _ _ (sk Wu) x,q⟩;have hB:∀y v,Ë Á s.heap y v->Ë Á h' y v:=λy v h=>by
  cases h with
  |loc m a b c=>exact .loc m a (Gk m b) c
  |cell c a b d=>exact .cell c a b (Lr c _ d)
 have back:∀y j q v,cx.vars.lookup y=some j->lk pe j=some q->Ë Á h' y v->Ë Á s.heap y v:=λy j q v hy hq b=>by
  refine É (r.vars y j q hy hq) λu hu _=>?_;have:=(hB y u hu).same b;subst this;exact hu
 have lkS:∀j,(lk (st pe i p') j).isSome=true->∃q,lk pe j=some q:=λj h=>by
  refine xe (au.mp h) λq hq=>?_;rcases uV hq with⟨rfl,_⟩|⟨_,h2⟩
  ·exact⟨p,hp⟩
  ·exact⟨q,h2⟩
 refine⟨{
  base:={
   keep:=λb o e=>hk b o (λq=>by have:=r.base.above a (.inr Kd);have h2:=da e;rw[q] at h2;exact absurd h2 (ax.mpr this)) (r.base.keep b o e)
   above:=r.base.above
   size:=aa r.base.size (cf hg)
   low:=λb q=>ae (r.base.low b q) (cf hg)
   toks:=ae r.base.toks ht
   bare:=r.base.bare}
  kind:=r.kind
  glb:=r.glb
  blt:=r.blt
  gl:=r.gl
  cl:=λy hy=>let ⟨h1,c,v,h2,h3⟩:=r.cl y hy;⟨h1,c,v,h2,Lr c v h3⟩
  ns:=let ⟨m,hm⟩:=r.ns;⟨m,Gk m hm⟩
  noL:=r.noL
  apart:=r.apart
  cellsLow:=λy c h=>ae (r.cellsLow y c h) (cf hg)
  vars:=λy j q h1 h2=>by
   rcases uV h2 with⟨rfl,rfl⟩|⟨hj,h2⟩
   ·have:y=x:=r.inj y x _ h1 hi;subst this;refine⟨.ref a,hB _ _ hb,?_,λh x t e=>by cases e⟩;exact O (if_pos hown) ⟨a,rfl,.inr Kd,Wu,Ug⟩
   ·refine É (r.vars y j q h1 h2) λv Ho hs=>?_;refine⟨v,hB y v Ho,?_,λh x t e=>⟨(hs.2 h x t e).1,ae (hs.2 h x t e).2 ht⟩⟩;have h3:=hs.1;split
    ·rename_i hc;rw[if_pos hc] at h3;refine cW h3 λa2 e q1 q2 q3=>?_;clear h3;subst e;have Gv:a2≠a:=λe=>by
      subst e;exact hj (r.alone y x j i a2 h1 hi (by refine O h2 ?_;rfl) (by refine O hp ?_;rfl) hc hown Ho hb)
     refine⟨a2,rfl,q1,q2,?_⟩;exact q3.move (λo e=>hk _ _ Gv e) S
    ·rename_i hc;rw[if_neg hc] at h3;exact h3.step S
  stores:=λy hy=>by
   cases r.stores y hy with
   |loc h=>exact .loc h
   |cell c Ib h1 h2 h3 h4=>exact .cell c Ib h1 h2 h3 (Lr c _ h4)
  inj:=r.inj
  alone:=λy z j k b h1 h2 h3 h4 h5 h6 h7 h8=>by
   refine xe (lkS j h3) λq1 e1=>?_;refine xe (lkS k h4) λq2 e2=>?_;exact r.alone y z j k b h1 h2 (by refine O e1 ?_;rfl) (by refine O e2 ?_;rfl) h5 h6 (back y j q1 _ h1 e1 h7) (back z k q2 _ h2 e2 h8)
  disj:=r.disj
  turns:=λy j b h1 h2 h3 h4=>by
   refine xe (lkS j h3) λq1 e1=>?_;exact r.turns y j b h1 h2 (by refine O e1 ?_;rfl) (back y j q1 _ h1 e1 h4)},?_⟩
 exact⟨⟨⟨λb o hn e=>hk b o (λq=>hn (q▸Kd)) e,cf hg,λ_ q=>.inl q⟩,λ_ _ e=>e,id,rfl,rfl,ht⟩,hB _ _ hb⟩
theorem JQ (GK:ċ) (i:Nat):ì F B (.newD i):= by
 intro A cx asg Á s Na No pe pe' fl Jh Q E htop R X hc hd hQ;apply IM (N3 hc);intro x px pd pos hi hx h3 h4;obtain⟨rfl,rfl⟩:=cY hd;refine wpAny_Assign_Name (wpAny_Dict_empty ?_);have bY:Pure s {s with heap:=s.heap.push {cls:=.type "dict",data:=.dict #[]}}:=Pure.push s _ (ai _);have Uj:(s.heap.objs.size==sysModules)=false:=beq_false_of_ne (ck (ae GK.big X.base.size));refine eP (X.wide (ā.one bY X.lowO (ai _) oS)) hx hi ⟨?_,λhk=>nf (h4.symm.trans hk)⟩ (λa' ea h=>by cases ea;exact .inr rfl) (λa' ea h y j hj Ws hs Os hb=>by cases ea;exact(HE (x:=x) (i:=i) X bY (ai _) hj hs Os hb).elim) λÃ b0 _ _ _ _ he Gh=>hQ _ _ _ ((bY.toExt λb q=>q.elim .inl λq=>.inr (cf q.symm)).trans he) Gh .next;exact O (if_pos h3) (hV _ rfl (.inr (.inr rfl)) (ck (X.base.low _ (.inr X.noL))) (rT Uj ([]) (Fz s.heap) .nil))
theorem JR (ru:RV s.heap N u p) (rv:RT s.heap N v q) (h:zX op p q=some z)
  (hQ:∀zv Ã,Pure s Ã->(∀(h:jg) (N:Ap),RV h N zv z)->Q zv Ã):wpAny (model Pg W0) A (inplaceOp op u v) Q E s:= by
 cases op<;>try (exact nn h)
 ·cases p<;>try (exact nn h)
  ·cases q<;>try (exact nn h)
   apply ä ru.inv;intro t;apply ä rv.inv;intro t';cases sm h;exact P.iadd_int (hQ _ _ (Pure.toks _) λh N=>.int _ _)
  ·cases q<;>try (exact nn h)
   apply ä ru.inv;intro t;apply ä rv.inv;intro t';have h:=aZ h;cases sm h.2;refine bJ (SB.iadd (λt' k hm=>hQ _ _ (Pure.toks _ hm.2) λh N=>.str _ _) ?_);have:=h.1;clear hQ rv ru;unfold sizeLine;exact Ò (.x .ko (.P .n2 24)) [.x .ko .kv] h.1
 ·cases p<;>try (exact nn h)
  cases q<;>try (exact nn h)
  apply ä ru.inv;intro t;apply ä rv.inv;intro t';cases sm h;exact P.isub_int (hQ _ _ (Pure.toks _) λh N=>.int _ _)
theorem OE (hE:∀p,Ç F B p) (i:Nat) (op:ic) (e:PE):ì F B (.aug i op e):= by
 intro A cx asg Á s Na No pe pe' fl Jh Q E htop R X hc hd hQ;apply j7 (TG hc);intro x px v pos hi hx h3 h4 zt;refine xa zt λh5 h6=>?_;clear zt;obtain⟨p,q,z,d1,d2,hz,rfl,rfl⟩:=TO hd;refine É (X.vars x i p hi d1) λu hb hs=>?_;have no:∀{C:Prop},cx.own.contains i=true->C:=λh=>nf (h3.symm.trans h);refine wpAny_AugAssign_Name (hb.load X.kind h5 (hE e R X h6 d2 λv' bc bY Gf=>?_));have ou:=hs.1;rw[if_neg (λq=>no q)] at ou;refine JR (ou.step (bY.stepAt _)) Gf.t hz λzv Ã dO hr=>?_;exact eP (X.pure (bY.trans dO)) hx hi ⟨by exact O h3 (hr _ _),λhk=>nf (h4.symm.trans hk)⟩ (λa ea h=>no h) (λa ea h=>no h) λiF b0 _ _ _ _ he Gm=>hQ _ _ No ((Pure.toExt (bY.trans dO) λb q=>.inl q).trans he) Gm .next
theorem OF (hE:∀p,Ç F B p) (e:PE):ì F B (.ret e):= by
 intro A cx asg Á s Na No pe pe' fl Jh Q E htop R X hc hd hQ;apply zQ (TL hc);intro v pos h1;obtain⟨p,d1,rfl,rfl⟩:=TT hd;exact wpAny_Return_some (hE e R X h1 d1 λv bc bY Gf=>hQ _ _ No (bY.toExt λb q=>.inl q) (X.pure bY) (.ret (Gf.a htop)))
theorem OG:ì F B .brk:= by
 intro A cx asg Á s Na No pe pe' fl Jh Q E htop R X hc hd hQ;refine xe (TM hc) λpos aT=>?_;subst aT;refine xa (cY hd) λaT Gq=>?_;subst aT;subst Gq;show wpAny _ A (do standAt _;dx Cd.brk) Q E s;exact bj (il (cv (hQ _ _ No (Ö.refl _ _) X .brk)))
theorem Ä.ownList (X:Ä cx asg Á s Na No pe) (hi:cx.vars.lookup x=some i) (ho:cx.own.contains i=true) (hp:lk pe i=some (.lst l)):
  ∃a vs,Ë Á s.heap x (.ref a)/\No a/\a≠Á.locals/\s.heap.PlainList a (zi vs)/\Í s.heap (λb=>Na b\/No b) vs l:= by
 refine É (X.vars x i _ hi hp) λv hb hs=>?_;have h1:=hs.1;rw[if_pos ho] at h1;refine cW h1 λa aT _ h3 zt=>?_;refine É zt λvs h4 h5=>?_;clear zt;subst aT;exact(cX a vs hb (X.turns x i a hi ho (by refine O hp ?_;rfl) hb) h3 ⟨h4,h5⟩)
theorem vN (h:E1 cx x i=true):cx.vars.lookup x=some i/\cx.own.contains i=true/\d8 x=true:=
 (Ý (am (aC h).1) ((aC (aC h).2).1) ((aC (aC h).2).2))
theorem yN (hs:rf a h h') (hN:N a):Step h N h' N:=
 ⟨λb o hn e=>hs.extBut b o (λq=>hn (q▸hN)) e,cf hs.1.symm,λ_ q=>.inl q⟩
theorem yO (X:Ä cx asg Á s Na No pe):interactive Á=false:= by
 unfold interactive;refine O X.kind ?_;rfl
theorem Ł.snoc{K:Type}{k:K}{Gp:List (K×ag)}{l:List (K×SV)}(r:Ł Gp l) (h:Χ v a):Ł (Gp++[(k,v)]) (l++[(k,a)]):= by
 induction r with
 |nil=>exact .cons h .nil
 |cons a b ih=>exact .cons a ih
theorem vO{V:Type}:∀{l:List (Int×V)},k∈l.map (·.1)->(l.lookup k).isSome=true
 |(a,b)::l,h=>by
  refine O dp ?_
  by_cases e:k=a
  ·subst e;simp
  ·refine O (show(k==a)=false by simpa using e) ?_;simp only[al,az] at h;exact vO (h.resolve_left e)
theorem oT (h:n<=100000) (e:m=n):m<sizeLine:=by unfold sizeLine;exact Ò (.y .q (.P .n2 24)) [.x .r .kv,.z1 .q .r] h e
theorem CR (hl:s.heap.PlainList a x):∀q,Ae a=.ref q->∃ob,s.heap.get? q=some ob/\ob.dict=none:=λq e=>by
 cases e;refine xe hl λn e=>?_;exact(Õ _ e rfl)
theorem OH (hE:∀p,Ç F B p) (i:Nat) (e:PE):ì F B (.app i e):= by
 intro A cx asg Á s Na No pe pe' fl Jh Q E htop R X hc hd hQ;refine fZ (TH hc) λx px ap a zt=>?_;apply j6 zt;intro k pos h1 h2 zt;refine xa zt λh4 h3=>?_;clear zt;refine Ą (vN h1) λhi ho Rv=>?_;obtain⟨l,y,d1,d2,hlen,rfl,rfl⟩:=TP hd;refine kL (X.ownList hi ho d1) λad vs hb Kd hL hl hr=>?_;refine wpAny_Expr_any (wpAny_Call_method rfl (by refine O (cM h4) ?_;rfl) h3 po PySem.F.slot_list_append PySem.F.type_list_append (hb.name X.kind Rv (Ý hl.isList.typeIs (CR hl) ?_))) (yO X) rfl;refine O (cM h4) (mf rfl (ig (fi (hE e R X h2 d2 λv bc bY Gf=>ji ?_))));refine wpAny_list_append_plain (hl.at λo e=>Pure.keep bY _ o e) (λh' Lv Iv=>?_) (by first|exact oT hlen hr.length|exact db (oT hlen hr.length));have S:=yN (N:=λb=>Na b\/No b) Iv (.inr Kd);refine Ą ((X.pure bY).mutate hi ho (hb.keeps bY.keep) d1 Iv (ai _) (p':=.lst (l++[y])) (Õ (vs++[v]) (by rw[zk] at Lv;exact Lv) (Í.append ((hr.step (bY.stepAt _)).step S) (Í.one ((Gf.f rfl).step S))))) λGh he _=>?_;exact hQ _ _ No ((bY.toExt λb q=>.inl q).trans he) Gh .next
theorem OI (hr:Í s.heap N vs l) (hq:l.getLast?=some q):∃v,vs[vs.length-1]?=some v/\RV s.heap N v q/\Í s.heap N vs.dropLast l.dropLast:= by
 rw[List.getLast?_eq_getElem?] at hq;refine É (hr.get hq) λv hv rv=>?_;refine(jC v (by exact O hr.length hv) rv ?_);exact O wb (O wb (O hr.length (hr.take _)))
theorem OJ (j i:Nat):ì F B (.pop j i):= by
 intro A cx asg Á s Na No pe pe' fl Jh Q E htop R X hc hd hQ;refine fZ (TI hc) λy py x px zt=>?_;apply hO zt;intro ap k pos h1 h2 hj zt;refine Ą zt λhy h5 h6=>?_;clear zt;refine Ą (vN h1) λhi ho Rv=>?_;obtain⟨l,q,d1,hq,hlen,rfl,rfl⟩:=TQ hd;refine kL (X.ownList hi ho d1) λad vs hb Kd hL hl hr=>?_;refine nQ (OI hr hq) λv hv rv Rw=>?_;refine wpAny_Assign_Name (wpAny_Call_method rfl rfl h2 po PySem.F.slot_list_pop PySem.F.type_list_pop (hb.name X.kind Rv (Ý hl.isList.typeIs (CR hl) (mf rfl (PySem.evalArgs_none ?_)))));refine xe hl λk hk=>?_;clear hl;refine Ce (y:=v) hk (by exact O (jz) hv) (λh' Iv Ls=>?_) (by first|exact oT hlen hr.length|exact db (oT hlen hr.length));have S:=yN (N:=λb=>Na b\/No b) Iv (.inr Kd);refine Ą (X.mutate hi ho hb d1 Iv (ai _) (p':=.lst l.dropLast) (Õ vs.dropLast ⟨k+1,by refine O Ls ?_;congr 3⟩ (Rw.step S))) λGh he _=>?_;have no:∀{C:Prop},cx.own.contains j=true->C:=λh=>nf (h5.symm.trans h);exact eP Gh hy hj ⟨by exact O h5 (rv.step S),λhk=>nf (h6.symm.trans hk)⟩ (λa ea h=>no h) (λa ea h=>no h) λiF b0 _ _ _ _ Hr Gm=>hQ _ _ No (he.trans Hr) Gm .next
theorem E5{Gp:List (Int×ag)}{l:List (Int×SV)}{k:Int}{v:ag}(Jl:Ł Gp l) (Ms:(l.lookup k).isSome=false):stored Gp k v=Gp++[(k,v)]:= by
 unfold stored;rw[if_neg];intro hx;refine É (ue.mp hx) λq hq e=>?_;have hm:k∈l.map (·.1):=by exact aBD Jl.keys (of_decide_eq_true e▸ip hq)
 exact nf (Ms.symm.trans (vO hm))
theorem HF (Jl:Ł Gp l):Gp.length=l.length:= by
 have:=congrArg fw Jl.keys
 rwa [eb,eb] at this
theorem JS (hE:∀p,Ç F B p) (i:Nat) (k v:PE):ì F B (.setI i k v):= by
 intro A cx asg Á s Na No pe pe' fl Jh Q E htop R X hc hd hQ;refine fZ (N5 hc) λx px ke sp zt=>?_;refine dG zt λve pos aT h1 h2 h3=>?_;clear zt;subst aT;refine Ą (vN h1) λhi ho Rv=>?_;refine cH (N9 hd) λl kk vv d1 d2 d3 zt=>?_;refine bE zt λMs hlen aT Gq=>?_;clear zt;subst aT;subst Gq;refine wpAny_Assign_Subscript (hE v R.n2 X h3 d3 λYl bc bY Gf=>?_) (by clear hc hd hQ X R d1 d2 d3 h3;cases ve<;>rfl);have Gl:=X.pure bY;refine É (Gl.vars x i _ hi d1) λu hb hs=>?_;have h4:=hs.1;rw[if_pos ho] at h4;refine cW h4 λad aT _ hL zt=>?_;refine tF zt λMy Gp Mz Jl=>?_;clear zt;subst aT;clear h4;refine hb.name X.kind Rv (hE k R.n1 Gl h2 d2 λYm Ã dO Ha=>?_);refine xe Ha.int λtk aT=>?_;subst aT;refine xe Gf.t.inv λtv aT=>?_;subst aT;refine wpAny_setItem_pairs (intKind_is Pg W0 kk tk) (Mz.keep dO.keep) (λh' Im Iv=>?_) (by first|exact oT (aa hlen (by decide)) (HF Jl)|exact db (oT (aa hlen (by decide)) (HF Jl)));rw[E5 Jl Ms] at Im;refine Ą ((Gl.pure dO).mutate hi ho (hb.keeps dO.keep) d1 Iv (jh _) (p':=.dcti (l++[(kk,.t vv)])) (rT My _ Im (Jl.snoc (.t _ _)))) λGm he hbb=>?_;exact hQ _ _ No ((Pure.toExt (bY.trans dO) λb q=>.inl q).trans he) Gm .next
def ē (cx:Cx) (asg:List Str) (Á:Env) (act:ag->Sem Unit) (i:Nat):Prop:=
 ∀{A:dm}{s:aj}{Na No:Ap}{pe:Å}{E:Vs}{v:ag}{p:PV}{Q:Unit->aj->Prop},Ä cx asg Á s Na No pe->RV s.heap (λb=>Na b\/No b) v p->
  (∀s',Ö s No s' No->Ä cx asg Á s' Na No (st pe i p)->Q () s')->wpAny (model Pg W0) A (act v) Q E s
theorem yP (h1:cx.vars.lookup x=some i) (h2:x∈asg) (h3:cx.own.contains i=false) (h4:cx.tk.contains i=false)
  (ha:∀{A:dm}{s:aj}{E:Vs}{v:ag}{Q:Unit->aj->Prop},wpAny (model Pg W0) A (storeName Á x v) Q E s->wpAny (model Pg W0) A (act v) Q E s):ē cx asg Á act i:= by
 intro A s Na No pe E v p Q X rv hQ;have no:∀{C:Prop},cx.own.contains i=true->C:=λh=>nf (h3.symm.trans h);exact ha (eP X h2 h1 ⟨by exact O h3 rv,λhk=>nf (h4.symm.trans hk)⟩ (λa ea h=>no h) (λa ea h=>no h) λiF b0 _ _ _ _ he Gm=>hQ _ he Gm)
theorem vP (h:JL cx asg e i=true):ē cx asg Á (assign e Á) i:= by
 apply j6 (vJ h);intro x pos h1 h2 zt;refine xa zt λh3 h4=>?_;exact yP h1 h2 h3 h4 λh=>wpAny_assign_Name h
theorem qS (h:fL (i::ts) l pe=some pe'):∃p ps,l=p::ps/\fL ts ps (st pe i p)=some pe':= by
 cases l with
 |nil=>exact nn h
 |cons p ps=>exact(mL p ps rfl h)
theorem sW (h:fL [] l pe=some pe'):l=[]/\pe'=pe:= by
 cases l with
 |nil=>exact⟨rfl,(sm h).symm⟩
 |cons p ps=>exact nn h
def ķ (cx:Cx) (asg:List Str) (Á:Env):List (ag->Sem Unit)->List Nat->Prop
 |[],is=>is=[]
 |a::Hv,is=>∃i js,is=i::js/\ē cx asg Á a i/\ķ cx asg Á Hv js
theorem ķ.get:∀{is:List Nat},Hv.length=is.length->(∀(k:Nat) (a:ag->Sem Unit) (i:Nat),Hv[k]?=some a->is[k]?=some i->ē cx asg Á a i)->ķ cx asg Á Hv is:= by
 induction Hv with
 |nil=>exact λ{is} h _=>List.length_eq_zero_iff.mp h.symm
 |cons a Hv ih=>
  intro is hl h;cases is with
  |nil=>cases hl
  |cons i js=>exact(cC i js rfl (h 0 a i rfl rfl) (ih (rd hl) λk b j h1 h2=>h (k+1) b j h1 h2))
theorem OK:∀{is:List Nat}{vs:List ag}{ps:List PV}{s:aj}{pe pe':Å},ķ cx asg Á Hv is->Ä cx asg Á s Na No pe->Í s.heap (λb=>Na b\/No b) vs ps->fL is ps pe=some pe'->
  (∀s',Ö s No s' No->Ä cx asg Á s' Na No pe'->Q () s')->wpAny (model Pg W0) A (assignInOrder Hv vs) Q E s:= by
 induction Hv with
 |nil=>
  intro is vs ps s pe pe' ha X r hb hQ;cases ha;refine xa (sW hb) λaT Gq=>?_;subst aT;subst Gq;cases r.inv;exact cv (hQ _ (Ö.refl _ _) X)
 |cons a Hv ih=>
  intro is vs ps s pe pe' ha X r hb hQ;refine fR ha λi js aT h1 h2=>?_;subst aT;clear ha;refine lE (qS hb) λp ps aT hb=>?_;subst aT;refine fR r.inv λv vs aT r1 r2=>?_;subst aT;show wpAny _ A (do holding vs (a v);assignInOrder Hv vs) Q E s;exact bj (wpAny_holding (h1 X r1 λbc Ia Gl=>ih h2 Gl (r2.step (Ia.step.or Na)) hb λs' e' X'=>hQ _ (Ia.trans e') X'))
theorem z9 (hl:Hv.length=is.length) (ha:∀(k:Nat) (a:ag->Sem Unit) (i:Nat),Hv[k]?=some a->is[k]?=some i->ē cx asg Á a i)
  (X:Ä cx asg Á s Na No pe) (r:Í s.heap (λb=>Na b\/No b) vs ps) (hb:fL is ps pe=some pe') (hQ:∀s',Ö s No s' No->Ä cx asg Á s' Na No pe'->Q () s'):wpAny (model Pg W0) A (assignInOrder Hv vs) Q E s:=
 OK (.get hl ha) X r hb hQ
theorem pX:∀{es:List ar},nI cx asg es ts=true->
  (assignEach es Á).length=ts.length/\(assignEach es Á).findIdx? (·.1)=none/\es.length=ts.length/\∀(k:Nat) (a:ag->Sem Unit) (i:Nat),((assignEach es Á).map (·.2))[k]?=some a->ts[k]?=some i->ē cx asg Á a i:= by
 induction ts with
 |nil=>
  intro es h;cases dR h;exact(d9 rfl rfl rfl (λk a i h=>nn h))
 |cons t ts ih=>
  intro es h;refine fR (vK h) λe es aT hn hc=>?_;subst aT;refine lE (vJ hn) λx pos aT _=>?_;subst aT;refine bE (ih hc) λh1 h2 h3 h4=>?_;have he:assignEach (.Name x pos::es) Á=(false,assign (.Name x pos) Á)::assignEach es Á:=rfl;refine(d9 (congrArg zj h1) (by refine O he (O (List.findIdx?_cons) (O h2 ?_));rfl) (congrArg zj h3) (λk a i ha hi=>?_));cases k with
  |zero=>exact sm ha▸sm hi▸vP hn
  |succ k=>exact h4 k a i ha hi
theorem vQ{vs:List ag}{l:List PV}{h':jg}{Q:List ag->aj->Prop}(X:Ä cx asg Á s Na No pe) (he:jg.ExtBut s.heap.objs.size s.heap h') (hm:Ŋ s {s with heap:=h'}) (hr:Í s.heap (λb=>Na b\/No b) vs l)
  (hQ:∀vs s',Pure s s'->Í s'.heap (λb=>Na b\/No b) vs l->Ä cx asg Á s' Na No pe->Q vs s'):Q vs {s with heap:=h'}:= by
 have P:Pure s {s with heap:=h'}:=Pure.mk' (t:=s.toks) (λb o e=>he b o (fc (da e)) e) hm;exact hQ _ _ P (hr.step (P.stepAt _)) (X.pure P)
theorem qT (hh:A.handled=none) (X:Ä cx asg Á s Na No pe) (rv:RV s.heap (λb=>Na b\/No b) v p) (hp:p=.tup l\/p=.lst l) (hn:l.length=n)
  (hQ:∀vs s',Pure s s'->Í s'.heap (λb=>Na b\/No b) vs l->Ä cx asg Á s' Na No pe->Q vs s'):wpAny (model Pg W0) A (unpackItems v n none) Q E s:= by
 rcases hp with rfl|rfl
 ·apply j6 rv.inv;intro a vs _ pa ra;exact aBD hn (aBD ra.length (bJ (wpAny_unpackItems_tuple hh pa.isTuple λh' he hm=>vQ X he hm ra hQ)))
 ·apply j6 rv.inv;intro a vs _ pa ra;exact aBD hn (aBD ra.length (bJ (kun_itemsOf hh pa.isList λh' he hm=>vQ X he hm ra hQ)))
theorem kT:∀{l:List PV}{pe pe':Å},fL ts l pe=some pe'->l.length=ts.length:= by
 induction ts with
 |nil=>exact λh=>(sW h).1▸rfl
 |cons t ts ih=>exact λh=>by apply zQ (qS h);intro p ps h;exact congrArg zj (ih h)
theorem vR (h:gQ ts p pe=some pe') (h2:2<=ts.length):∃l,(p=.tup l\/p=.lst l)/\fL ts l pe=some pe':= by
 cases ts with
 |nil=>cases h2
 |cons i ts=>cases ts with
  |nil=>exact absurd (ux h2) (wo 0)
  |cons j ts=>cases p<;>first|exact nn h|exact(Õ _ (.inl rfl) h)|exact(Õ _ (.inr rfl) h)
theorem vS (hh:A.handled=none) (X:Ä cx asg Á s Na No pe) (hc:nI cx asg es ts=true) (h2:2<=ts.length)
  (rv:RV s.heap (λb=>Na b\/No b) v p) (hb:gQ ts p pe=some pe') (hQ:∀s',Ö s No s' No->Ä cx asg Á s' Na No pe'->Q () s'):wpAny (model Pg W0) A (assign (.Tuple es k tp) Á v) Q E s:= by
 refine É (vR hb h2) λl hp Ho=>?_;refine bE (pX (Á:=Á) hc) λh1 Ku h3 h4=>?_;refine O (se ..) (bj (il ?_));unfold unpack;refine O h1 (O Ku (bj (wpAny_holding (qT hh X rv hp (kT Ho) λvs bc bY Ki Gl=>?_))));exact z9 (by simp[h1]) h4 Gl Ki Ho λs' e' X'=>hQ _ ((bY.toExt λb q=>.inl q).trans e') X'
theorem vT (hh:A.handled=none) (X:Ä cx asg Á s Na No pe) (hc:qQ cx asg tgt ts=true)
  (rv:RV s.heap (λb=>Na b\/No b) v p) (hb:gQ ts p pe=some pe') (hQ:∀s',Ö s No s' No->Ä cx asg Á s' Na No pe'->Q () s'):wpAny (model Pg W0) A (assign tgt Á v) Q E s:= by
 rcases vL hc with⟨i,rfl,h1⟩|⟨es,k,tp,rfl,h1,h2,h3⟩
 ·cases sm hb;exact vP h1 X rv hQ
 ·exact vS hh X h1 h2 rv hb hQ
end
section
variable{A:dm}{E:Vs}{s:aj}{R:yl->aj->Prop}
theorem vU (I:Nat->aj->Prop)
  (š:∀n s,I n s->∀E',wpAny (model Pg W0) A (pyNext it) (λr bc=>match r with
   |none=>R (.ok .next) bc
   |some v=>wpAny (model Pg W0) A (letOwnedTupleGo target it v) (λ_ Hw=>wpAny (model Pg W0) A (assign target Á v) (λ_ Ã=>
     wpAny (model Pg W0) A (execs body Á) (λf iF=>match f with
      |.next|.cont=>∃m,m<n/\I m iF
      |.brk=>R (.ok .next) iF
      |.ret v=>R (.ok (.ret v)) iF) E' Ã) E' Hw) E' bc) E' s)
  (n:Nat) (h:I n s):codeAny (model Pg W0) A (.forLoop target it body [] Á) R s:= by
 refine codeAny_loop' rfl I (λn s hI=>?_) n h;show wpAny _ _ ((forTurn target it body [] Á).onRaise (λx=>do noteFrame x Á;theTreesLotGoes x)) _ _ s;refine wpAny_noted ?_
 dsimp only[forTurn]
 refine bj (il (bj (wpAny_onRaise (jk (š n s hI _) (λr bc Gj=>?_) λ_ _ h'=>il h'))));cases r with
 |none=>exact cv (.inr ⟨rfl,codeAny_block (wpAny_execs_nil Gj)⟩)
 |some v=>
  refine bj (jk Gj (λ_ Hw Md=>?_) λ_ _ h'=>h');refine bj (jk Md (λ_ Ã ID=>bj (jk ID (λf iF Ld=>?_) λ_ _ h'=>h')) λ_ _ h'=>h');cases f with
  |next=>exact cv (.inl ⟨rfl,Ld⟩)
  |cont=>exact cv (.inl ⟨rfl,Ld⟩)
  |brk=>exact cv Ld
  |ret v=>exact cv Ld
theorem sX (ho:s.heap.get? I=some o) (hc:o.cls=.type n) (hn:yF n=false) (h:Q () s):
  wpAny (model Pg W0) A (letOwnedTupleGo target (.ref I) v) Q E s:= by
 have key:wpAny (model Pg W0) A (do
   let (.ref r,.ref a):=((.ref I:ag),v)|return
   let o <-load r
   match o.cls,o.data with
   |.type n,.fields vs=>
    if ["enumerate","zip","dict_itemiterator","dict_reverseitemiterator","odict_iterator","itertools.zip_longest","itertools.pairwise"].contains n&&vs[0]?==some (rawInt a) then
     rule "for.unpacks-the-owned-tuple"
     updateField r 0 .none
   |_,_=>pure ():Sem Unit) Q E s:= by
  cases v with
  |ref a=>
   refine bj (wpAny_load ho ?_);refine O hc ?_;cases o.data with
   |fields vs=>
    refine(congrArg (λm:Sem Unit=>wpAny (model Pg W0) A m Q E s) (if_neg ?_)).mpr (cv h);exact O (show List.contains _ n=false from hn) oi
   |_=>exact cv h
  |_=>exact cv h
 cases target with
 |Tuple _ _ _=>exact key
 |List _ _=>exact key
 |_=>exact cv h
end
section
variable{F:Fn}{B:Nat}
variable{A:dm}{cx:Cx}{asg:List Str}{Á:Env}{s:aj}{Na No:Ap}{pe:Å}{E:Vs}
theorem OL (hT:∀p,Û F B p) (ha:è F B a) (hb:è F B b):ì F B (.ite t a b):= by
 intro A cx asg Á s Na No pe pe' fl Jh Q E htop R X hc hd hQ;have R':Ê A (max (nd t) (max (ĥ a) (ĥ b))+B):=R.le (bo (jh _) _);apply lP (N6 hc);intro te bs os pos h1 h2 h3;rcases OA hd with⟨d1,d2⟩|⟨d1,d2⟩
 ·exact wpAny_If (hT t R'.m1 X h1 d1 λbc bY=>ha htop R'.m2 (X.pure bY) h2 d2 λf s' No' e' X' hf=>hQ f s' No' ((bY.toExt λb q=>.inl q).trans e') X' hf)
 ·exact wpAny_If (hT t R'.m1 X h1 d1 λbc bY=>hb htop R'.m3 (X.pure bY) h3 d2 λf s' No' e' X' hf=>hQ f s' No' ((bY.toExt λb q=>.inl q).trans e') X' hf)
theorem ĵ.next_inv (r:ĵ h N .next f):f=.next:=by cases r;rfl
theorem ĵ.brk_inv (r:ĵ h N .brk f):f=.brk:=by cases r;rfl
theorem ĵ.ret_inv (r:ĵ h N (.ret p) f):∃v,f=.ret v/\RV h N v p:=by cases r with|ret h=>exact(Õ _ rfl h)
theorem E6 (hT:∀p,Û F B p){k:Nat}{t:PE}{a:ě}{te:ar}{bs:List ib}{pe':Å}{fl:Fl}{Q:Cd->aj->Prop}{I:Nat->aj->Prop}(ha:è F B a) (htop:cx.top=true) (R1:Ê A (nd t+B)) (R2:Ê A (ĥ a+B)) (X:Ä cx asg Á s Na No pe)
  (h1:aN cx true te t=true) (h2:iG cx asg bs a=true) (hw:gG (aB F t) (aF F a) (k+1) pe=some (pe',fl)) (hQ:∀f s' No',Ö s No s' No'->Ä cx asg Á s' Na No' pe'->ĵ s'.heap Na fl f->Q f s')
  (hI:∀s' No' Gz,Ö s No s' No'->Ä cx asg Á s' Na No' Gz->gG (aB F t) (aF F a) k Gz=some (pe',fl)->I k s'):
  wpAny (model Pg W0) A (isTrue te Á (eval te Á)) (λb bc=>if b=true then wpAny (model Pg W0) A (execs bs Á) (λf Ã=>match f with
   |.next|.cont=>∃m,m<k+1/\I m Ã
   |.brk=>Q .next Ã
   |.ret v=>Q (.ret v) Ã) E bc else wpAny (model Pg W0) A (execs [] Á) Q E bc) E s:= by
 rcases CQ hw with⟨d1,rfl,rfl⟩|⟨d1,Gi,f2,d2,h⟩
 ·exact hT t R1 X h1 d1 λÃ dO=>wpAny_execs_nil (hQ _ _ No (dO.toExt λb q=>.inl q) (X.pure dO) .next)
 ·refine hT t R1 X h1 d1 λÃ dO=>?_;have Ie:Ö s No Ã No:=Pure.toExt dO λb q=>.inl q;rcases h with⟨rfl,h⟩|⟨rfl,rfl,rfl⟩|⟨v,rfl,rfl,rfl⟩
  ·refine ha htop R2 (X.pure dO) h2 d2 λf iF Jq Kj Gm hf=>?_;cases hf.next_inv;exact(Õ k (di _) (hI iF Jq Gi (Ie.trans Kj) Gm h))
  ·refine ha htop R2 (X.pure dO) h2 d2 λf iF Jq Kj Gm hf=>?_;cases hf.brk_inv;exact hQ _ _ Jq (Ie.trans Kj) Gm .next
  ·refine ha htop R2 (X.pure dO) h2 d2 λf iF Jq Kj Gm hf=>?_;apply Ő hf.ret_inv;intro v hr;exact hQ _ _ Jq (Ie.trans Kj) Gm (.ret hr)
theorem E7 (hT:∀p,Û F B p){n:Nat}{t:PE}{a:ě}(ha:è F B a):ì F B (.while n t a):= by
 intro A cx asg Á s Na No pe pe' fl Jh Q E htop R X hc hd hQ;have R':Ê A (max (nd t) (ĥ a)+B):=R.le (bo (jh _) _);apply mK (JM hc);intro te bs pos h1 h2;refine wpAny_While (codeAny_whileLoop (λk s'=>∃Do BY,Ö s No s' BY/\Ä cx asg Á s' Na BY Do/\gG (aB F t) (aF F a) k Do=some (pe',fl)) ?_ n (cC pe No (Ö.refl _ _) X hd))
 rintro k s' ⟨Do,BY,Ia,Gl,hw⟩
 cases k with
 |zero=>exact nn hw
 |succ k=>exact E6 hT ha htop R'.n1 R'.n2 Gl h1 h2 hw (λf Ã Hg Ie Gh hf=>hQ f Ã Hg (Ia.trans Ie) Gh hf) λÃ Hg Gz Ie Gh hw=>(cC Gz Hg (Ia.trans Ie) Gh hw)
theorem JT:è F B .nil:= by
 intro A cx asg Á s Na No pe pe' fl Jh Q E htop R X hc hd hQ;cases dR hc;refine xa (cY hd) λaT Gq=>?_;subst aT;subst Gq;exact wpAny_execs_nil (hQ _ _ No (Ö.refl _ _) X .next)
theorem E8 (hp:ì F B p) (Yn:è F B ps):è F B (.cons p ps):= by
 intro A cx asg Á s Na No pe pe' fl Jh Q E htop R X hc hd hQ;apply fF (E2 hc);intro st ss h1 h2;refine lE (E4 hd) λDo f1 d1 h=>?_;refine wpAny_execs_cons (hp htop R.n1 X h1 d1 λf bc BY Ia Gl hf=>?_);rcases h with⟨rfl,d2⟩|⟨rfl,rfl,Gv⟩
 ·cases hf.next_inv;exact Yn htop R.n2 Gl h2 d2 λf Ã Hg Ie Gh hf=>hQ _ _ Hg (Ia.trans Ie) Gh hf
 ·cases f1 with
  |next=>exact absurd rfl Gv
  |brk=>cases hf.brk_inv;exact hQ _ _ BY Ia Gl .brk
  |ret v=>apply Ő hf.ret_inv;intro u hr;exact hQ _ _ BY Ia Gl (.ret hr)
structure Δ (F:Fn) (B:Nat) (A:dm) (cx:Cx) (asg:List Str) (Á:Env) (Na:Ap) (By:aj) (ts:List Nat) (a:ě) (tgt:ar) (bs:List ib) (I:ew) (À:List PV) (fp:List ew) (P:Nat->ag->Prop) (St:Nat->jg->Prop):Prop where
 ha:è F B a
 htop:cx.top=true
 R:Ê A (ĥ a+B)
 h1:qQ cx asg tgt ts=true
 h3:iG cx asg bs a=true
 W:Fp Pg W0 A I fp [I] À.length P St
 hcI:∀i h,St i h->∃o,h.get? I=some o/\(∀v,o.data≠.cell v)/\∃n,o.cls=.type n/\yF n=false
 hI:By.heap.objs.size<=I
structure Ĝ (cx:Cx) (asg:List Str) (Á:Env) (Na:Ap) (By:aj) (Hh:Ap) (I:ew) (À:List PV) (fp:List ew) (P:Nat->ag->Prop) (s:aj) (No:Ap) (pe:Å):Prop where
 e:Ö By Hh s No
 X:Ä cx asg Á s (λb=>Na b\/b=I) No pe
 fp:∀b∈fp,b=I\/¬(Na b\/No b)/\b<s.heap.objs.size
 P:∀j v,j<À.length->P j v->∃p,À[j]?=some p/\RV s.heap (λb=>(Na b\/b=I)\/No b) v p
section
variable{By:aj}{Hh:Ap}{ts:List Nat}{a:ě}{tgt:ar}{bs:List ib}{I:ew}{À:List PV}{fp:List ew}{P:Nat->ag->Prop}{St:Nat->jg->Prop}
theorem Ĝ.poke (K:Δ F B A cx asg Á Na By ts a tgt bs I À fp P St) (S:Ĝ cx asg Á Na By Hh I À fp P s No pe) (st:St k s.heap) (Io:∀b o,b∉[I]->s.heap.get? b=some o->h'.get? b=some o) (hm:Ŋ s {s with heap:=h',toks:=tk}):
  Ĝ cx asg Á Na By Hh I À fp P {s with heap:=h',toks:=tk} No pe:= by
 refine nQ (K.hcI _ _ st) λo ho Yo _=>?_;have T:Step s.heap (λb=>(Na b\/b=I)\/No b) h' (λb=>(Na b\/b=I)\/No b):=⟨λb o hn e=>Io b o (λq=>hn (.inl (.inr (cg.mp q)))) e,hm.1,λ_ q=>.inl q⟩;refine⟨⟨⟨λb o hn e=>Io b o (λq=>?_) (S.e.step.keep b o hn e),aa S.e.step.grow hm.1,S.e.step.new⟩,S.e.gens,S.e.bare,S.e.os,S.e.drawn,aa (Ö.toks S.e) hm.2⟩,S.X.poke (.inr rfl) ho Yo (λb o hb e=>Io b o (λq=>hb (cg.mp q)) e) hm.1 hm.2 id,
  λb hb=>(S.fp b hb).imp id λq=>⟨q.1,ae q.2 hm.1⟩,λj v hj hv=>let ⟨p,q1,q2⟩:=S.P j v hj hv;⟨p,q1,q2.step T⟩⟩
 have h5:=da e;rw[cg.mp q] at h5;exact ax.mpr K.hI h5
theorem Ĝ.step (S:Ĝ cx asg Á Na By Hh I À fp P s No pe) (e:Ö s No s' No') (X:Ä cx asg Á s' (λb=>Na b\/b=I) No' pe'):Ĝ cx asg Á Na By Hh I À fp P s' No' pe':= by
 refine⟨S.e.trans e,X,λb hb=>(S.fp b hb).imp id λq=>⟨λq'=>?_,ae q.2 e.step.grow⟩,λj v hj hv=>let ⟨p,q1,q2⟩:=S.P j v hj hv;⟨p,q1,q2.step (e.step.or (λb=>Na b\/b=I))⟩⟩;rcases q' with q'|q'
 ·exact q.1 (.inl q')
 ·rcases e.step.new b q' with q''|q''
  ·exact q.1 (.inr q'')
  ·exact absurd q.2 (ax.mpr q'')
theorem Ĝ.frame (K:Δ F B A cx asg Á Na By ts a tgt bs I À fp P St) (S:Ĝ cx asg Á Na By Hh I À fp P s No pe) (st:St k s.heap) (e:Ö s No s' No'):St k s'.heap:=
 K.W.frame _ _ _ st λb hb o h=>e.step.keep b o (λq=>by
  rcases S.fp b hb with rfl|⟨q1,_⟩
  ·exact S.X.disj _ q (.inr rfl)
  ·exact q1 (.inr q)) h
theorem OM{k:Nat}{v:ag}{pe':Å}{fl:Fl}{Q:Cd->aj->Prop}{J:Nat->aj->Prop}{n:Nat}(hh:A.handled=none) (K:Δ F B A cx asg Á Na By ts a tgt bs I À fp P St) (S:Ĝ cx asg Á Na By Hh I À fp P s No pe) (Gu:k<À.length) (st:St (k+1) s.heap) (hv:P k v)
  (hf:eR (aF F a) ts (À.drop k) pe=some (pe',fl)) (hQ:∀f s' No',Ö By Hh s' No'->Ä cx asg Á s' (λb=>Na b\/b=I) No' pe'->ĵ s'.heap (λb=>Na b\/b=I) fl f->Q f s')
  (hJ:∀s' No' Gz,Ĝ cx asg Á Na By Hh I À fp P s' No' Gz->St (k+1) s'.heap->eR (aF F a) ts (À.drop (k+1)) Gz=some (pe',fl)->∃m,m<n/\J m s'):
  wpAny (model Pg W0) A (letOwnedTupleGo tgt (.ref I) v) (λ_ Hw=>wpAny (model Pg W0) A (assign tgt Á v) (λ_ Ã=>wpAny (model Pg W0) A (execs bs Á) (λf iF=>match f with
   |.next|.cont=>∃m,m<n/\J m iF
   |.brk=>Q .next iF
   |.ret v=>Q (.ret v) iF) E Ã) E Hw) E s:= by
 refine É (S.P k v Gu hv) λp hp Lz=>?_;rw[r8 hp] at hf;refine pL (yL hf) λHt Gi f2 hb d2 h=>?_;refine nQ (K.hcI _ _ st) λo ho _ zt=>?_;refine É zt λnm Yp Tp=>?_;clear zt;refine sX ho Yp Tp (vT hh S.X K.h1 Lz hb λs₄ Rx He=>?_);have Nh:=S.step Rx He;have Kz:=S.frame K st Rx;rcases h with⟨rfl,h⟩|⟨rfl,rfl,rfl⟩|⟨v,rfl,rfl,rfl⟩
 ·refine K.ha K.htop K.R He K.h3 d2 λf Go Ip Jr Gx hf=>?_;cases hf.next_inv;exact hJ Go Ip Gi (Nh.step Jr Gx) (Nh.frame K Kz Jr) h
 ·refine K.ha K.htop K.R He K.h3 d2 λf Go Ip Jr Gx hf=>?_;cases hf.brk_inv;exact hQ _ _ Ip (Nh.step Jr Gx).e Gx .next
 ·refine K.ha K.htop K.R He K.h3 d2 λf Go Ip Jr Gx hf=>?_;apply Ő hf.ret_inv;intro v hr;exact hQ _ _ Ip (Nh.step Jr Gx).e Gx (.ret hr)
theorem ON{pe':Å}{fl:Fl}{RR:yl->aj->Prop}(hh:A.handled=none) (K:Δ F B A cx asg Á Na By ts a tgt bs I À fp P St) (S:Ĝ cx asg Á Na By Hh I À fp P s No pe) (st:St 0 s.heap) (hf:eR (aF F a) ts À pe=some (pe',fl))
  (hQ:∀f s' No',Ö By Hh s' No'->Ä cx asg Á s' (λb=>Na b\/b=I) No' pe'->ĵ s'.heap (λb=>Na b\/b=I) fl f->RR (.ok f) s'):
  codeAny (model Pg W0) A (.forLoop tgt (.ref I) bs [] Á) RR s:= by
 refine vU (λn s'=>∃k Do BY,k<=À.length/\n=À.length-k/\Ĝ cx asg Á Na By Hh I À fp P s' BY Do/\St k s'.heap/\eR (aF F a) ts (À.drop k) Do=some (pe',fl)) ?_ À.length (eV 0 pe No (iu _) rfl S st hf)
 rintro n s' ⟨k,Do,BY,hk,rfl,Il,Ij,hf⟩ E'
 rcases nc k À.length with Gu|Ud
 ·exact bJ (K.W.item k s' _ _ Gu Ij λv h' tk hv Ma Io hm=>OM (Q:=λf s=>RR (.ok f) s) hh K (Il.poke K Ij Io hm) Gu Ma hv hf hQ λGo Ip Gz Uk Mf hf=>(Õ (À.length-(k+1)) (nx Gu (di k)) (eV (k+1) Gz Ip Gu rfl Uk Mf hf)))
 ·cases bf hk Ud;rw[ua] at hf;refine xa (cY hf) λaT Gq=>?_;subst aT;subst Gq;refine bJ (K.W.done s' _ _ Ij λh' tk Io hm=>?_);have Lg:=Il.poke K Ij Io hm;exact hQ _ _ BY Lg.e Lg.X .next
end
theorem ĵ.narrow (r:ĵ h N' fl f) (hn:∀b,N b->N' b):ĵ h N fl f:= by
 cases r with
 |next=>exact .next
 |brk=>exact .brk
 |ret hr=>exact .ret (hr.weak' hn)
theorem OO (hI:∀p,ă F B p) (ha:è F B a):ì F B (.for ts src a):= by
 intro A cx asg Á s Na No pe pe' fl Jh Q E htop R X hc hd hQ;have R':Ê A (max (ndi src) (ĥ a)+B):=R.le (bo (jh _) _);apply lP (TJ hc);intro tgt it bs pos h1 h2 h3;refine É (TR hd) λÀ d1 hf=>?_;refine wpAny_For (hI src R'.n1 X h2 d1 λI Ã dO Nc Mc hlen đ=>?_) (HB h2);refine cH đ λfp P St W Ja hcI zt=>?_;refine xa zt λhfp hP=>?_;clear zt;clear đ;have Gh:Ä cx asg Á Ã (λb=>Na b\/b=I) No pe:=
  X.wideA dO (λb q=>.inl q) (λb q=>q.elim .inl λq=>.inr (q▸Nc)) λb q=>q.elim (λq=>ae (X.low b (.inl q)) dO.step.grow) λq=>q▸Mc
 exact ON R.hh ⟨ha,htop,R'.n2,h1,h3,W A R.hh,hcI,Nc⟩ ⟨dO.toExt λb q=>.inl q,Gh,hfp,λj v hj hv=>let ⟨p,q1,q2⟩:=hP j v hj hv;⟨p,q1,q2.weak' λb q=>q.elim (λq=>q.elim (λq=>.inl (.inl q)) .inr) λq=>.inl (.inr q)⟩⟩ Ja hf
  λf s' No' e' X' hf=>hQ f s' No' e' (X'.narrow λb q=>.inl q) (hf.narrow λb q=>.inl q)
def vV (e:ar):Option Str:=nV e
theorem vW{f:ar->Option Str}(hf:∀e x,f e=some x->vV e=some x){es:List ar}(h:(es.filterMap f).length=es.length):es.map vV=(es.filterMap f).map some:= by
 induction es with
 |nil=>rfl
 |cons e es ih=>
  rw[fb] at h⊢;cases hx:f e with
  |none=>
   rw[hx] at h;exact absurd (cf h.symm) (Nat.not_le_of_gt (Nat.lt_succ_of_le (oa f es)))
  |some x=>
   rw[hx] at h;exact O al (O (hf e x hx) (O al (O (ih (rd h)) rfl)))
def Sw (es:List ar) (m:Sem (Option (List Str))):Prop:=m=dx none\/∃names,m=dx (some names)/\es.map vV=names.map some/\(es.length=2\/es.length=3)
theorem vX{c:Prop}[Decidable c] (h1:c->Sw es a) (h2:¬c->Sw es b):Sw es (if c then a else b):= by
 by_cases h:c
 ·exact O (if_pos h) (h1 h)
 ·exact O (if_neg h) (h2 h)
theorem qU:Sw es (dx none):=.inl rfl
theorem E9 (e:ar) (x:Str) (h:(match e with|.Name id pos=>if (Á.kindOf id==some .local&&pos.line==l)=true then some id else none|_=>none)=some x):vV e=some x:= by
 cases e with
 |Name id pos=>exact(aZ h).2
 |_=>exact nn h
theorem XC{a b:Nat}{c d e:Bool}(h:¬((!(a==2||a==3)||d)||e)=true):a=2\/a=3:= by
 by_cases h2:a=2
 ·exact .inl h2
 ·by_cases h3:a=3
  ·exact .inr h3
  ·exact absurd (by simp[h2,h3]) h
theorem xH{es:List ar}{k:Nat}{p:Pos}{v:ar}(ho:tQ v=true):Sw es (swappedStores [.Tuple es k p] v Á):= by
 by_cases hv:v.ctorIdx=25
 ·refine oe (motive_1:=λv=>tQ v=true->Sw es (swappedStores [.Tuple es k p] v Á)) v hv (λvs a b ho=>?_) ho;have ho:(vs.all (foldedForSure 8)||!vs.all (constantsAlone 8))=true:=ho;refine vX (λ_=>qU) λh1=>?_;refine vX (λ_=>qU) λ_=>?_;refine vX (λ_=>qU) λh3=>?_;refine vX (λ_=>qU) λh4=>?_;refine vX (λh5=>?_) λ_=>.inr ?_
  ·exfalso;rcases nu.mp ho with ho|ho
   ·exact h4 ho
   ·rw[nJ ho] at h5;exact nf h5
  ·refine(jC _ rfl (vW E9 ?_) (XC (b:=0) (c:=true) h1));exact Et λe=>h3 (nu.mpr (.inl (bne_iff_ne.mpr e)))
 ·clear ho;cases v<;>first|exact qU|exact absurd rfl hv
theorem tR (h:i≠j):∀{pe:Å},st (st pe i p) j q=st (st pe j q) i p:= by
 induction i generalizing j with
 |zero=>
  intro pe;cases pe with
  |nil=>rfl
  |cons a l=>
   cases j with
   |zero=>exact absurd rfl h
   |succ j=>rfl
 |succ i ih=>
  intro pe;cases pe with
  |nil=>rfl
  |cons a l=>
   cases j with
   |zero=>rfl
   |succ j=>dsimp only[B4,bP,bQ];exact O (ih (by lia)) rfl
theorem XD{α:Type}{l:List α}(h:l.length=2):∃a b,l=[a,b]:= by
 cases l with
 |nil=>cases h
 |cons a l=>cases l with
  |nil=>cases h
  |cons b l=>cases l with
   |nil=>exact(ŭ a b rfl)
   |cons=>cases h
theorem ZR{α:Type}{l:List α}(h:l.length=3):∃a b c,l=[a,b,c]:= by
 cases l with
 |nil=>cases h
 |cons a l=>apply LN (XD (rd h));intro b c;exact(fX a b c rfl)
theorem kU (h:lH (i::l)=true) (hj:j∈l):j≠i:=λe=>by
 have:=nJ (aC h).1;rw[pq.mpr (e▸hj)] at this;exact nf this.symm
theorem CS (hn:lH ts=true) (hl:ts.length=2\/ts.length=3) (h:fL ts l pe=some pe'):fL ts.reverse l.reverse pe=some pe':= by
 have Ra:=kT h;rcases hl with h2|h3
 ·rw[h2] at Ra;refine ň (XD Ra) λp q aT=>?_;subst aT;refine ň (XD h2) λi j aT=>?_;subst aT;cases sm h;exact congrArg some (tR (kU hn ak))
 ·rw[h3] at Ra;refine jA (ZR Ra) λp q r aT=>?_;subst aT;refine jA (ZR h3) λi j k aT=>?_;subst aT;cases sm h;have h1:=kU hn (ak (a:=j));have h2:=kU hn (er j (ak (a:=k)));have h3:=kU (aC hn).2 (ak (a:=k));show some (st (st (st pe k r) j q) i p)=some (st (st (st pe i p) j q) k r);exact O (tR h3) (O (tR h2) (O (tR (i:=j) (j:=i) h1) rfl))
theorem CT:∀{es:List ar}{names:List Str},nI cx asg es ts=true->es.map vV=names.map some->names.length=ts.length/\∀(k:Nat) (n:Str) (i:Nat),names[k]?=some n->ts[k]?=some i->ē cx asg Á (bindName Á n) i:= by
 induction ts with
 |nil=>
  intro es names hc h;cases dR hc;cases names with
  |nil=>exact⟨rfl,λk n i h=>nn h⟩
  |cons=>cases h
 |cons t ts ih=>
  intro es names hc h;obtain⟨e,es,rfl,hn,hc⟩:=vK hc;cases names with
  |nil=>cases h
  |cons n names=>
   obtain⟨h0,h'⟩:=Ge h;obtain⟨h1,h2⟩:=ih hc h';refine⟨congrArg zj h1,λk m i hm hi=>?_⟩;cases k with
   |zero=>
    cases sm hm;cases sm hi;obtain⟨x,pos,rfl,q1,q2,q3,q4⟩:=vJ hn;have e:x=n:=sm h0;subst e;intro A' s' Na' No' pe' E' v' p' Q' X' r' Yq;exact yP (act:=bindName Á x) q1 q2 q3 q4 (λh=>wpAny_bindName h) X' r' Yq
   |succ k=>exact h2 k m i hm hi
theorem pE:swapsWithSole [.Tuple es k tp] v l Á=dx false:= by
 delta swapsWithSole
 cases v<;>rfl
theorem CU (h:qQ cx asg (.Tuple es k tp) ts=true) (h2:2<=ts.length):nI cx asg es ts=true/\lH ts=true:= by
 rcases vL h with⟨i,rfl,_⟩|⟨ρ,k',p',e,h1,_,h3⟩
 ·exact absurd (ux h2) (wo 0)
 ·cases e;exact⟨h1,h3⟩
theorem OP{names:List Str}{ts:List Nat}(Ms:names.length=ts.length) (h:∀(k:Nat) (n:Str) (i:Nat),names[k]?=some n->ts[k]?=some i->ē cx asg Á (bindName Á n) i) (m:Nat) (a:ag->Sem Unit) (i:Nat) (ha:(names.reverse.map (bindName Á))[m]?=some a) (hi:ts.reverse[m]?=some i):ē cx asg Á a i:= by
 rw[dr] at ha;apply jQ (bk.mp ha);intro n hn;have Mt:m<ts.length:= by
  have:=(df.mp hi).1
  rwa [qx] at this
 rw[wc (by exact O Ms Mt),Ms] at hn;rw[wc Mt] at hi;exact @h _ n i hn hi
theorem JU (hE:∀p,Ç F B p) (ts:List Nat) (e:PE):ì F B (.asgT ts e):= by
 intro A cx asg Á s Na No pe pe' fl Jh Q E htop R X hc hd hQ;refine fZ (N4 hc) λes k tp v zt=>?_;apply VL zt;intro pos h1 h2 zt;refine xa zt λh3 h4=>?_;clear zt;obtain⟨p,d1,hb,rfl⟩:=N8 hd;have Gk:=CU h1 h2;rcases xH (Á:=Á) (es:=es) (k:=k) (p:=tp) h4 with hw|⟨names,hw,Ot,hlen⟩
 ·refine Cw (hE e R X h3 d1 λu bc bY Gf=>?_) pE hw;exact vS R.hh (X.pure bY) Gk.1 h2 (Gf.f rfl) hb λÃ Ie Gh=>hQ _ _ No ((bY.toExt λb q=>.inl q).trans Ie) Gh .next
 ·refine É (vR hb h2) λl hp Ho=>?_;refine xa (CT (Á:=Á) Gk.1 Ot) λMs Ry=>?_;have Rb:es.length=ts.length:=(pX (Á:=Á) Gk.1).2.2.1;refine yv (hE e R X h3 d1 λu bc bY Gf=>qT R.hh (X.pure bY) (Gf.f rfl) hp (by exact O (kT Ho) (O Ms rfl)) λvs Ã dO Lu Gh=>?_) pE hw;exact z9 (is:=ts.reverse) (ps:=l.reverse) (by exact O (eb ..) (O qx (O qx (O Ms rfl)))) (OP Ms Ry) Gh Lu.reverse (CS Gk.2 (by exact aBD Rb hlen) Ho) λiF Kj Gm=>hQ _ _ No ((Pure.toExt (bY.trans dO) λb q=>.inl q).trans Kj) Gm .next
end
structure Î where
 pars:List Str
 n:Nat
 vars:List (Str×Nat)
 own:List Nat
 tk:List Nat
 code:ě
def Î.cx (f:Î) (sc:ja):Cx:=⟨f.vars,sc.names,f.own,f.tk,true⟩
noncomputable def dI (sc:ja):List Str:=(sc.names.filter λnk=>nk.2==.local||nk.2==.cell).map (·.1)
def vY (f:Î) (sc:ja):Nat->List Str->Bool
 |_,[]=>true
 |k,x::l=>f.vars.lookup x==some k&&!f.own.contains k&&!f.tk.contains k&&(sc.names.lookup x==some .local||sc.names.lookup x==some .cell)&&vY f sc (k+1) l
theorem OQ:vY f sc k (x::l)=(f.vars.lookup x==some k&&!f.own.contains k&&!f.tk.contains k&&(sc.names.lookup x==some .local||sc.names.lookup x==some .cell)&&vY f sc (k+1) l):=rfl
def TU (f:Î) (body:List ib) (sc:ja):Bool:=
 sc.kind==.function&&!sc.isGenerator&&!sc.isCoroutine&&eB (sc.names.map (·.1))&&eB (f.vars.map (·.1))&&lH (f.vars.map (·.2))&&sc.names.all (λnk=>nk.2==.local||nk.2==.cell||nk.2==.globalImplicit)&&
 eB f.pars&&vY f sc 0 f.pars&&iG (f.cx sc) (dI sc) body f.code
noncomputable def lI (args:List PV) (n:Nat):Å:=args.map some++ah (n-args.length) none
def e9 (F:Fn) (f:Î) (args:List PV):Option PV:=
 if args.length=f.pars.length then match aF F f.code (lI args f.n) with
  |some (_,.ret v)=>some v
  |_=>none
 else none
theorem TV (h:lk (lI args n) i=some p):args[i]?=some p:= by
 unfold lI at h;have none_lk:∀(m i:Nat),lk (ah m none) i=none:= by
  intro m
  induction m with
  |zero=>intro i;rfl
  |succ m ih=>
   intro i;cases i with
   |zero=>rfl
   |succ i=>simpa [dL,nU,nM,nN] using ih i
 generalize n-args.length=m at h
 induction args generalizing i with
 |nil=>simp only[gw,ec] at h;rw[none_lk] at h;cases h
 |cons a l ih=>
  cases i with
  |zero=>simp only[al,bg,nU,nM,nN] at h;simpa using h
  |succ i=>simp only[al,bg,nU,nM,nN] at h;simpa using ih h
theorem oU:∀{l:List Str}{k j:Nat}{x:Str},vY f sc k l=true->l[j]?=some x->
  f.vars.lookup x=some (k+j)/\f.own.contains (k+j)=false/\f.tk.contains (k+j)=false/\(sc.names.lookup x=some .local\/sc.names.lookup x=some .cell)
 |[],_,_,_,_,h=>by trivial
 |y::l,k,j,x,hp,h=>by
  simp only[OQ,be,ds,ml] at hp;cases j with
  |zero=>
   simp only[uf,gn] at h;subst h;exact(d9 (am hp.1.1.1.1) hp.1.1.1.2 hp.1.1.2 (hp.1.2.imp (λq=>am q) (λq=>am q)))
  |succ j=>
   have:=oU (j:=j) hp.2 (by simpa using h);rw[show k+1+j=k+(j+1) by exact Ò (.z1 (.A .kc .r) (.A .q .ke)) []] at this;exact this
theorem kC:∀{l:List (Str×Nat)}{x y:Str}{i:Nat},lH (l.map (·.2))=true->l.lookup x=some i->l.lookup y=some i->x=y
 |(z,j)::l,x,y,i,hn,h1,h2=>by
  simp only[al,N1,be,ds,fr,decide_eq_false_iff_not] at hn;rw[dp] at h1 h2;split at h1
  ·rename_i e1;cases h1;split at h2
   ·rename_i e2;exact O (am e1) (O (am e2) rfl)
   ·exact absurd (ip (f:=(·.2)) (bI h2)) hn.1
  ·split at h2
   ·cases h2;exact absurd (ip (f:=(·.2)) (bI h1)) hn.1
   ·exact kC hn.2 h1 h2
theorem sY:∀{bs:List (Str×ag)}{m:Str->Option ag},x∉bs.map (·.1)->bindL ko bs m x=m x
 |[],m,_=>rfl
 |(n,v)::r,m,h=>by
  simp only[al,az,not_or] at h;unfold bindL;refine O (sY h.2) ?_;split
  ·exact if_neg h.1
  ·rfl
theorem s5:∀{bs:List (Str×ag)}{m:Str->Option ag},x∉bs.map (·.1)->bindC ko bs m x=m x
 |[],m,_=>rfl
 |(n,v)::r,m,h=>by
  simp only[al,az,not_or] at h;unfold bindC;refine O (s5 h.2) ?_;split
  ·rfl
  ·exact if_neg h.1
theorem AA:∀{pars:List Str}{vs:List ag}{m m':Str->Option ag}{j:Nat}{x:Str}{v:ag},eB pars=true->pars[j]?=some x->vs[j]?=some v->
  (ko x=some .local->bindL ko (pars.zip vs) m x=some v)/\(ko x≠some .local->bindC ko (pars.zip vs) m' x=some v)
 |[],_,_,_,_,_,_,_,h,_=>by trivial
 |_::_,[],_,_,_,_,_,_,_,h=>by trivial
 |y::pars,u::vs,m,m',j,x,v,hn,h1,h2=>by
  simp only[lR,be,ds,fr,decide_eq_false_iff_not] at hn;cases j with
  |zero=>
   simp only[uf,gn] at h1 h2;subst h1 h2;have hx:y∉(pars.zip vs).map (·.1):=λq=>by
    obtain⟨⟨a,b⟩,hm,e⟩:=fj.mp q;simp only at e;subst e;exact hn.1 (Bo hm).1
   refine⟨λhk=>?_,λhk=>?_⟩
   ·dsimp only[mh,bindL]
    (refine O (sY hx) ?_;rw[if_pos hk])
    simp
   ·dsimp only[mh,bindC]
    (refine O (s5 hx) ?_;rw[if_neg hk])
    simp
  |succ j=>
   simp only[uh] at h1 h2;simp only[mh,bindL,bindC];exact AA hn.2 h1 h2
section
variable{M:Fo}{A:dm}{R:GenEnd}{Y:Eu}{n:Nat}{By:aj}{c:Fg}{fs:List Cf}{s:aj}{Á:Env}
 {K:Cd->Sem Fin}{H:ag->Sem Fin}{gd:Bool->Bool}{lv:List ag->List ag}
theorem lV{α β:Type}{m:Sem α}{f:α->Sem β}{K:β->Sem Fin}
  (h:wpAny M (A.over c fs) m (λa s'=>Seg M A R Y n By c ((f a).wrap K H gd lv) fs s') (λx s'=>Seg M A R Y n By c (H x) fs s') s):
  Seg M A R Y n By c ((m >>= f).wrap K H gd lv) fs s:= by
 exact O (pi ..) (O (qf ..) (seg_wrap h))
theorem OR{st:ib}(h:wpAny M (A.over c fs) (exec st Á) (λf s'=>Seg M A R Y n By c (K f) fs s') (λx s'=>Seg M A R Y n By c (H x) fs s') s):
  Seg M A R Y n By c ((exec st Á).wrap K H gd lv) fs s:=seg_wrap h
theorem FA
  (h:wpAny M (A.over c fs) (isTrue test Á (eval test Á)) (λb s'=>Seg M A R Y n By c ((if b=true then execs body Á else execs orelse Á).wrap K H gd lv) fs s') (λx s'=>Seg M A R Y n By c (H x) fs s') s):
  Seg M A R Y n By c ((exec (.If test body orelse pos) Á).wrap K H gd lv) fs s:= by
 refine O (exec_If ..) (lV (il ?_));exact lV h
end
section
variable{A:dm}{R:GenEnd}{Y:Eu}{n:Nat}{By:aj}{fs:List Cf}{s:aj}{Á:Env}
theorem s6
  (h:∀E,wpAny (model Pg W0) (A.over (.forLoop target it body [] Á) fs) (pyNext it) (λr bc=>match r with
   |none=>Seg (model Pg W0) A R Y n By (.forLoop target it body [] Á) (.pure (.again (.block [] Á))) fs bc
   |some v=>wpAny (model Pg W0) (A.over (.forLoop target it body [] Á) fs) (letOwnedTupleGo target it v) (λ_ Hw=>wpAny (model Pg W0) (A.over (.forLoop target it body [] Á) fs) (assign target Á v) (λ_ Ã=>
     Seg (model Pg W0) A R Y n By (.forLoop target it body [] Á) ((execs body Á).wrap (λf=>match f with
      |.next|.cont=>.pure (.again (.forLoop target it body [] Á))
      |.brk=>.pure (.done .next)
      |.ret v=>.pure (.done (.ret v))) (λe=>(do noteFrame e Á;theTreesLotGoes e:Sem Unit).wrap (λ_=>.raise e) .raise id id) id id) fs Ã) E Hw) E bc) E s):
  Seg (model Pg W0) A R Y n By (.forLoop target it body [] Á) ((model Pg W0).den (.forLoop target it body [] Á)) fs s:= by
 show Seg _ A R Y n By _ ((forTurn target it body [] Á).onRaise (λx=>do noteFrame x Á;theTreesLotGoes x)) fs s;unfold forTurn;refine O (xu ..) (lV (il (lV (wpAny_onRaise (jk (h _) (λr bc Gj=>?_) λx s' hx=>il hx)))));cases r with
 |none=>exact Gj
 |some v=>
  refine lV (jk Gj (λ_ Hw Md=>?_) λx s' hx=>hx);refine lV (jk Md (λ_ Ã ID=>?_) λx s' hx=>hx);refine O (pi ..) (O (qf ..) ?_);refine O (Cg (execs body Á) _ _ (K':=λf=>match f with
      |.next|.cont=>.pure (.again (.forLoop target it body [] Á))
      |.brk=>.pure (.done .next)
      |.ret v=>.pure (.done (.ret v))) (H':=(λe=>(do noteFrame e Á;theTreesLotGoes e:Sem Unit).wrap (λ_=>.raise e) .raise id id))
    (λf=>by cases f<;>rfl)
    (λe=>by first|exact ui _ _|(show(do noteFrame e Á;theTreesLotGoes e:Sem Unit).bind (λ_=>.raise e)=_;rw[ui]))) ?_
  exact ID
theorem CV{code c:Fg}{K:yl->Sem Fin}{hd:Option ag}{g:Bool}{l:List ag}{p:Pos}(h:Seg (model Pg W0) A R Y n By c (K (.ok .next)) fs s):
  Seg (model Pg W0) A R Y n By code (.pure (.again (.block [] Á))) (.ret K hd g l c p []::fs) s:= by
 refine seg_again rfl ?_;exact seg_leaf (.ok .next) h
end
section
variable{A:dm}{E:Vs}{s:aj}
end
theorem TY (R:Ê A (k+2)):Ê (A.in1.over (.func body Á) []) k:= by
 refine⟨R.hh,?_,?_⟩
 ·have:=R.depth;show A.in1.depth+frameCount []+su (.func body Á)+k<900;have e:su (.func body Á)=1:=rfl
  dsimp only[tn,frameCount,gw,zn]
  exact æ (.y (.A (.A (.A .q .n0) .r) .s) (.N 900)) [.y (.A .q (.A .s .n2)) (.N 900),.z1 .r .n1] this e
 ·have:=R.units;show A.in1.units+unitsOf []+sv (.func body Á)+8*k<9000;have e:sv (.func body Á)=3:=rfl
  dsimp only[to,unitsOf_nil]
  exact æ (.y (.A (.A (.A .kc .n0) .r) (.M .n8 .s)) (.N 9000)) [.y (.A .q (.M .n8 (.A .s .n2))) (.N 9000),.z1 .r .n3] this e
theorem TZ{A:dm}{k:Nat}{body b o:List ib}{Á ţ:Env}{t:ar}{it:ag}{K:yl->Sem Fin}{g:Bool}{l:List ag}{p:Pos}(R:Ê A (k+2)):
  Ê (A.in1.over (.forLoop t it b o ţ) [.ret K none g l (.func body Á) p []]) k:= by
 refine⟨R.hh,?_,?_⟩
 ·have:=R.depth;show A.in1.depth+frameCount [(.func body Á,p)]+su (.forLoop t it b o ţ)+k<900;have e:su (.func body Á)=1:=rfl;have e2:su (.forLoop t it b o ţ)=0:=rfl
  dsimp only[tn,frameCount,al,gw,jd,zn]
  exact Ľ (.y (.A (.A (.A .q (.A .r .n0)) .s) .t) (.N 900)) [.y (.A .q (.A .t .n2)) (.N 900),.z1 .r .n1,.z1 .s .n0] this e e2
 ·have:=R.units;show A.in1.units+unitsOf [(.func body Á,p)]+sv (.forLoop t it b o ţ)+8*k<9000;have e:sv (.func body Á)=3:=rfl;have e2:sv (.forLoop t it b o ţ)=0:=rfl
  dsimp only[to,unitsOf_cons,unitsOf_nil]
  exact Ľ (.y (.A (.A (.A .kc (.A .r .n0)) .s) (.M .n8 .t)) (.N 9000)) [.y (.A .q (.M .n8 (.A .t .n2))) (.N 9000),.z1 .r .n3,.z1 .s .n0] this e e2
structure Later (Ng:Ap) (s s':aj):Prop where
 own:∀b o,Ng b->s.heap.get? b=some o->s'.heap.get? b=some o
 keep:∀b o,H0.get? b=some o->s'.heap.get? b=some o
 grow:s.heap.objs.size<=s'.heap.objs.size
 toks:0<s'.toks
 bare:od s'.gens
section
variable{F:Fn}{B:Nat}
variable{A:dm}{cx:Cx}{asg:List Str}{Á:Env}{s s':aj}{Na No Ng:Ap}{pe:Å}{E:Vs}
theorem Ä.again (X:Ä cx asg Á s Na No pe) (Mu:∀i p,lk pe i=some p->p.scalar=true) (hown:cx.own=[]) (htk:cx.tk=[]) (Hc:∀x,Á.kindOf x≠some .cell/\Á.kindOf x≠some .free)
  (hL:Later Ng s s') (Ul:Ng Á.locals) (hN:∀b,Na' b\/No' b->H0.objs.size<=b/\b<s'.heap.objs.size) (Yr:No' Á.locals) (Ys:∀b,No' b->¬Na' b):Ä cx asg Á s' Na' No' pe:= by
 have Gk:∀m,s.heap.Ns Á.locals m->s'.heap.Ns Á.locals m:=λm h=>let ⟨o,es,ep,x,q⟩:=h;⟨o,es,ep,hL.own _ _ Ul x,q⟩;have hB:∀y v,Ë Á s.heap y v->Ë Á s'.heap y v:=λy v h=>by
  cases h with
  |loc m a b c=>exact .loc m a (Gk m b) c
  |cell c a=>rcases a with a|a<;>exact absurd a (by first|exact(Hc y).1|exact(Hc y).2)
 exact{
  base:={keep:=hL.keep,above:=λb q=>(hN b q).1,size:=aa X.base.size hL.grow,low:=λb q=>(hN b q).2,toks:=hL.toks,bare:=hL.bare}
  kind:=X.kind
  glb:=X.glb
  blt:=X.blt
  gl:=X.gl
  cl:=λy hy=>by
   refine xa (X.cl y hy) λh1 _=>?_;rcases h1 with h1|h1
   ·exact absurd h1 (Hc y).1
   ·exact absurd h1 (Hc y).2
  ns:=let ⟨m,hm⟩:=X.ns;⟨m,Gk m hm⟩
  noL:=Yr
  apart:=X.apart
  cellsLow:=λy c h=>ae (X.cellsLow y c h) hL.grow
  vars:=λy i p h1 h2=>by
   refine É (X.vars y i p h1 h2) λv hb hs=>?_;refine⟨v,hB y v hb,?_,λh=>by rw[htk] at h;cases h⟩;have h3:=hs.1;rw[hown] at h3⊢
   dsimp only[zo,ay,if_false] at h3⊢
   exact h3.of_scalar (Mu i p h2)
  stores:=λy hy=>by
   cases X.stores y hy with
   |loc h=>exact .loc h
   |cell c Ib h1=>exact absurd h1 (Hc y).1
  inj:=X.inj
  alone:=λy z i j a h1 h2 h3 h4 h5=>by rw[hown] at h5;cases h5
  disj:=Ys
  turns:=λy i a h1 h2=>by rw[hown] at h2;cases h2}
noncomputable def OS:List (Str×Nat):=[("addr",0),("pos",1),("escape",2),("ch",3)]
def ï (sc:ja):Cx:=⟨OS,sc.names,[],[],true⟩
noncomputable def bs:PE:=.cst (.str ⟨#[92]⟩)
def gE1:Į:=.cons (.var 1) (.cons (.bin .Add bs (.var 3)) .nil)
noncomputable def gE2:Į:=.cons (.var 1) (.cons (.var 3) .nil)
def gE3:Į:=.cons (.var 1) (.cons bs .nil)
def xI (cx:Cx) (e:ar) (ps:Į):Bool:=(I3 e).any λxs=>f7 cx false xs ps&&decide (xs.length<=100)
theorem OT (h:xI cx e ps=true):∃xs n k,e=.Tuple xs n k/\f7 cx false xs ps=true/\xs.length<=100:= by
 refine É (aE h) λx h1 h2=>?_;apply LN (u5 h1);intro n k;exact(rU x n k rfl ((aC h2).1) (of_decide_eq_true (aC h2).2))
noncomputable def vYl (e:ar):Option (Option ar):=if h:e.ctorIdx=13 then vw (motive_1:=λ_=>Option (Option ar)) e h (λv _=>some v) else none
theorem T0 (h:vYl e=some x):∃p,e=.Yield x p:= by
 obtain⟨c,h⟩:=bR h;exact vw (motive_1:=λe=>∀c,vw (motive_1:=λ_=>Option (Option ar)) e c (λv _=>some v)=some x->∃p,e=.Yield x p) e c (λ_ _ c h=>by cases sm h;exact⟨_,rfl⟩) c h
def AB (s:ib):Option ar:=(vEx s).bind λe=>(vYl e).bind id
theorem pY{s:ib}{y:ar}(h:AB s=some y):∃yp ep,s=.Expr (.Yield (some y) yp) ep:= by
 refine É (dq.mp h) λe h1 h=>?_;refine É (dq.mp h) λv h2 h=>?_;apply ä (HC h1);intro ep;apply ä (T0 h2);intro yp;cases (show v=some y from h);exact(ŭ yp ep rfl)
def HG (sc:ja) (st:ib):Bool:=(NV st).any λx=>(lz2 x.2.1).any λb=>(AB b.1).any λy1=>(İ x.2.2).any λo=>(NV o).any λz=>(İ z.2.1).any λs4=>(İ z.2.2).any λyo=>(AB yo).any λy2=>
 aN (ï sc) true x.1 (.var 2)&&(xI (ï sc) y1 gE1&&(jG (ï sc) (dI sc) b.2 (.asg 2 (.cst (.bool false)))&&(aN (ï sc) true z.1 (.cmp .Eq (.var 3) bs)&&(jG (ï sc) (dI sc) s4 (.asg 2 (.cst (.bool true)))&&xI (ï sc) y2 gE2))))
def HH (sc:ja) (st:ib):Bool:=(NV st).any λx=>(İ x.2.1).any λb=>(AB b).any λy3=>x.2.2.isEmpty&&(aN (ï sc) true x.1 (.var 2)&&xI (ï sc) y3 gE3)
def HI (sc:ja):Bool:=sc.kind==.function&&(sc.isGenerator&&(!sc.isCoroutine&&(eB (sc.names.map (·.1))&&(sc.names.all (λnk=>nk.2==.local||nk.2==.globalImplicit)&&sc.names.lookup ("addr":Str)==some .local))))
def AC (body:List ib) (sc:ja):Bool:=HI sc&&match body with
 |[]=>false
 |s1::l=>match l with
  |[]=>false
  |s2::l=>(lz2 l).any λq=>(TC q.1).any λf=>(nW f.2.1).any λc=>(İ c.2.1).any λa=>(İ f.2.2.1).any λlp=>
   NT f.1&&(f.2.2.2.isEmpty&&(c.2.2.1.isEmpty&&(jG (ï sc) (dI sc) s1 (.asg 1 (.cst (.int 0)))&&(jG (ï sc) (dI sc) s2 (.asg 2 (.cst (.bool false)))&&(qQ (ï sc) (dI sc) f.1 [1,3]&&
   (iT (ï sc) c.1 z4&&(dA a&&(aN (ï sc) false a (.var 0)&&(HG sc lp&&HH sc q.2)))))))))
def Ō (Ng:Ap) (By s':aj) (v:ag) (p:PV):Prop:=
 ∃T vs l,v=.ref T/\p=.tup l/\¬Ng T/\By.heap.objs.size<=T/\Ô s'.heap T (zi vs)/\∀(h:jg) (N:Ap),Í h N vs l
def gY (Ng:Ap) (À:List PV):Eu:=λm By v s' kap=>
 m<À.length/\(∃p,À[À.length-(m+1)]?=some p/\Ō Ng By s' v p)/\Ö By Ng s' Ng/\∀Hu,Later Ng s' Hu->kap (.send .none) Hu
def gP (Ng:Ap):Nat->aj->aj->Prop:=λn By s'=>n=0/\Ö By Ng s' Ng
theorem Í.allScalar (r:Í h N vs l) (hs:∀p∈l,p.scalar=true):∀(h':jg) (N':Ap),Í h' N' vs l:= by
 intro h' N'
 induction l generalizing vs with
 |nil=>cases r;exact .nil
 |cons p l ih=>cases r with|cons a b=>exact .cons (a.of_scalar (hs p (by simp))) (ih b λq hq=>hs q (by simp[hq]))
theorem pZ (hB:3<=B) (GK:ċ) (FK:ù F B){c:Fg}{fs:List Cf}{K:Cd->Sem Fin}{H:ag->Sem Fin}{gd:Bool->Bool}{lv:List ag->List ag}{n:Nat}{By:aj}{y:ar}{yp ep:Pos}{ps:Į}{l:List PV}{À:List PV}{R:GenEnd}
  (Yt:splitAtGen fs=none) (Yu:gd false=false) (Um:fs.any Cf.guarded=false) (Rm:Ê (A.over c fs) (ξ ps+B)) (X:Ä cx asg Á s Na No pe) (hc:xI cx y ps=true) (hd:cL F ps pe=some l) (Mu:∀p∈l,p.scalar=true)
  (hn:n<À.length) (đ:À[À.length-(n+1)]?=some (.tup l)) (Hn:Ö By Ng s Ng) (Ul:∀b,Ng b->b<s.heap.objs.size) (Mr:Á.scope.isCoroutine=false)
  (hK:∀s' Hu,Pure s s'->Later Ng s' Hu->Seg (model Pg W0) A R (gY Ng À) n Hu c (K .next) fs Hu):
  Seg (model Pg W0) A R (gY Ng À) (n+1) By c ((exec (.Expr (.Yield (some y) yp) ep) Á).wrap K H gd lv) fs s:= by
 apply mK (OT hc);intro xs n' k' h1 h2;refine seg_Expr_Yield Yt Yu Um (wpAny_Tuple (fH (eW hB GK FK ps) Rm X h1 hd λvs bc bY Ki Lf Iw hl=>⟨pR h2 hl,?_⟩)) Mr (yO X);intro kap Un;have dO:Pure s {bc with heap:=bc.heap.push {cls:=.type "tuple",data:=.seq vs.toArray}}:=bY.trans (Pure.push bc _ (ai _));refine(d9 hn (Õ _ đ (eV bc.heap.objs.size vs l rfl rfl (λq=>absurd (Ul _ q) (ax.mpr bY.step.grow)) (aa Hn.step.grow bY.step.grow) ⟨⟨0,cj _ rfl⟩,((Iw rfl).allScalar Mu)⟩)) (Hn.trans (dO.toExt λb q=>.inl q)) (λHu hL=>Un _ _ ?_));exact hK _ _ dO hL
theorem JV (hh:A.handled=none) (X:Ä cx asg Á s Na No pe) (hc:nI cx asg es ts=true)
  (hT:s.heap.IsTuple T vs.toArray) (hl:∀(h:jg) (N:Ap),Í h N vs l) (hb:fL ts l pe=some pe') (hQ:∀s',Ö s No s' No->Ä cx asg Á s' Na No pe'->Q () s'):wpAny (model Pg W0) A (assign (.Tuple es k tp) Á (.ref T)) Q E s:= by
 refine bE (pX (Á:=Á) hc) λh1 Ku h3 h4=>?_;refine O (se ..) (bj (il ?_))
 delta unpack
 refine O h1 (O Ku ?_);have e:ts.length=vs.toArray.size:=by refine aBD (kT hb) (aBD ((hl s.heap υ).length) ?_);rfl
 refine O e (bj (wpAny_holding (bJ (wpAny_unpackItems_tuple hh hT λh' he hm=>?_))));have P:Pure s {s with heap:=h'}:=Pure.mk' (t:=s.toks) (λb o e=>he b o (fc (da e)) e) hm;exact z9 (by simp[h1]) h4 (X.pure P) (hl _ _) hb λs' e' X'=>hQ _ ((P.toExt λb q=>.inl q).trans e') X'
noncomputable def ĩ (x:Str) (Hf:Int) (esc:Bool) (ch:Option PV):Å:=[some (.str x),some (.int Hf),some (.bool esc),ch]
theorem mU (Hx:∀p,ch=some p->p.scalar=true):∀i p,lk (ĩ x Hf esc ch) i=some p->p.scalar=true:= by
 intro i p h
 delta ĩ at h
 match i with
 |0=>simp only[nU,nM,nN,gn] at h;subst h;rfl
 |1=>simp only[nU,nM,nN,gn] at h;subst h;rfl
 |2=>simp only[nU,nM,nN,gn] at h;subst h;rfl
 |3=>simp only[nU,nM,nN] at h;exact Hx p h
 |n+4=>trivial
structure Đ (sc:ja) where
 es:List ar
 ek:Nat
 ep:Pos
 t1:ar
 y1:ar
 yp1:Pos
 ep1:Pos
 s3:ib
 t2:ar
 s4:ib
 y2:ar
 yp2:Pos
 ep2:Pos
 ip1:Pos
 ip2:Pos
 hes:nI (ï sc) (dI sc) es [1,3]=true
 h1:aN (ï sc) true t1 (.var 2)=true
 h2:xI (ï sc) y1 gE1=true
 h3:jG (ï sc) (dI sc) s3 (.asg 2 (.cst (.bool false)))=true
 h4:aN (ï sc) true t2 (.cmp .Eq (.var 3) bs)=true
 h5:jG (ï sc) (dI sc) s4 (.asg 2 (.cst (.bool true)))=true
 h6:xI (ï sc) y2 gE2=true
def Đ.tgt{sc:ja}(p:Đ sc):ar:=.Tuple p.es p.ek p.ep
def Đ.body{sc:ja}(p:Đ sc):List ib:=
 [.If p.t1 [.Expr (.Yield (some p.y1) p.yp1) p.ep1,p.s3] [.If p.t2 [p.s4] [.Expr (.Yield (some p.y2) p.yp2) p.ep2] p.ip2] p.ip1]
theorem CW{sc:ja}{st:ib}(es:List ar) (ek:Nat) (ep:Pos) (hes:nI (ï sc) (dI sc) es [1,3]=true) (h:HG sc st=true):∃p:Đ sc,p.tgt=.Tuple es ek ep/\p.body=[st]:= by
 refine zS λG hG=>?_
 replace h:=aE h
 refine É h λx h1 h=>?_
 replace h:=aE h
 refine É h λb h2 h=>?_
 replace h:=aE h
 refine É h λy1 h3 h=>?_
 replace h:=aE h
 refine É h λo h4 h=>?_
 replace h:=aE h
 refine É h λz h5 h=>?_
 replace h:=aE h
 refine É h λs4 h6 h=>?_
 replace h:=aE h
 refine É h λyo h7 h=>?_
 replace h:=aE h
 refine É h λy2 h8 h=>?_;refine xe (qO h1) λip1 e1=>?_;refine ň (pY h3) λyp1 ep1 e3=>?_;refine xe (qO h5) λip2 e5=>?_;refine ň (pY h8) λyp2 ep2 e8=>?_;have e2:=kR h2;have e4:=dZ h4;have e6:=dZ h6;have e7:=dZ h7;have q1:=aC h;have q2:=aC q1.2;have q3:=aC q2.2;have q4:=aC q3.2;have q5:=aC q4.2;refine hG (Õ ⟨es,ek,ep,x.1,y1,yp1,ep1,b.2,z.1,s4,y2,yp2,ep2,ip1,ip2,hes,q1.1,q2.1,q3.1,q4.1,q5.1,q5.2⟩ rfl ?_);refine O e1 (O e2 (O e4 (O e5 (O e6 (O e7 (O e3 (O e8 ?_)))))));rfl
theorem CX{sc:ja}{st:ib}(h:HH sc st=true):∃t3 y3 yp3 ep3 ip3,st=.If t3 [.Expr (.Yield (some y3) yp3) ep3] [] ip3/\aN (ï sc) true t3 (.var 2)=true/\xI (ï sc) y3 gE3=true:= by
 refine É (aE h) λx h1 h2=>?_;refine É (aE h2) λb h3 h4=>?_;refine É (aE h4) λy h5 h6=>?_;refine xe (qO h1) λip3 e1=>?_;refine ň (pY h5) λyp3 ep3 e5=>?_;rw[dZ h3,e5,dR (aC h6).1] at e1;exact(fX _ y yp3 (mL ep3 ip3 e1 (aC (aC h6).2)))
structure Ĥ (sc:ja):Prop where
 c1:sc.kind=.function
 c2:sc.isGenerator=true
 c3:sc.isCoroutine=false
 c4:eB (sc.names.map (·.1))=true
 c5:sc.names.all (λnk=>nk.2==.local||nk.2==.globalImplicit)=true
 c6:sc.names.lookup ("addr":Str)=some .local
theorem CY (h:HI sc=true):Ĥ sc:= by
 have q1:=aC h;have q2:=aC q1.2;have q3:=aC q2.2;have q4:=aC q3.2;have q5:=aC q4.2;exact⟨am q1.1,q2.1,nJ q3.1,q4.1,q5.1,am q5.2⟩
structure θ (sc:ja) (body:List ib) where
 s1:ib
 s2:ib
 g:ar
 a:ar
 cpos:Pos
 fpos:Pos
 p:Đ sc
 t3:ar
 y3:ar
 yp3:Pos
 ep3:Pos
 ip3:Pos
 eq:body=[s1,s2,.For p.tgt (.Call g [a] [] cpos) p.body [] fpos,.If t3 [.Expr (.Yield (some y3) yp3) ep3] [] ip3]
 k1:jG (ï sc) (dI sc) s1 (.asg 1 (.cst (.int 0)))=true
 k2:jG (ï sc) (dI sc) s2 (.asg 2 (.cst (.bool false)))=true
 k4:iT (ï sc) g z4=true
 k5:dA a=true
 k6:aN (ï sc) false a (.var 0)=true
 k13:aN (ï sc) true t3 (.var 2)=true
 k14:xI (ï sc) y3 gE3=true
theorem vZ (h:AC body sc=true):Ĥ sc/\Nonempty (θ sc body):= by
 refine⟨CY (aC h).1,?_⟩;refine zS λG hG=>?_
 replace h:=(aC h).2
 cases body with
 |nil=>exact nf h
 |cons s1 l=>cases l with
  |nil=>exact nf h
  |cons s2 l=>
   replace h:=aE h
   refine É h λq h1 h=>?_
   replace h:=aE h
   refine É h λf h2 h=>?_
   replace h:=aE h
   refine É h λc h3 h=>?_
   replace h:=aE h
   refine É h λa h4 h=>?_
   replace h:=aE h
   refine É h λlp h5 h=>?_;have q1:=aC h;have q2:=aC q1.2;have q3:=aC q2.2;have q4:=aC q3.2;have q5:=aC q4.2;have q6:=aC q5.2;have q7:=aC q6.2;have q8:=aC q7.2;have q9:=aC q8.2;have q10:=aC q9.2;rcases vL q6.1 with⟨i,e,_⟩|⟨es,ek,ep,et,hes,_⟩
   ·cases e
   refine É (CW es ek ep hes q10.1) λp ep1 ep2=>?_;refine fZ (CX q10.2) λt3 y3 yp3 ep3 zt=>?_;refine nQ zt λip3 e3 k13 k14=>?_;clear zt;refine xe (vI h2) λfpos ef=>?_;have e1:=kR h1;rw[et,<-ep1,fM h3,dZ h4,dR q3.1,dZ h5,<-ep2,dR q2.1] at ef;rw[ef,e3] at e1;exact hG ⟨⟨s1,s2,c.1,a,c.2.2.2,fpos,p,t3,y3,yp3,ep3,ip3,by exact O e1 rfl,q4.1,q5.1,q7.1,q8.1,q9.1,k13,k14⟩⟩
def Ć (L:ew):Ap:=λb=>b=L
def Ŗ (e i:ew):Ap:=λb=>b=e\/b=i
def ÿ (L e i:ew):Ap:=λb=>b=L\/b=e\/b=i
theorem AD{À l:List PV}{a:PV}{n:Nat}(h:À.drop (À.length-(n+1))=a::l) (hl:l.length=n):n<À.length/\À[À.length-(n+1)]?=some a/\À.drop (À.length-n)=l:= by
 have hlen:=congrArg fw h;simp only[pz,dc] at hlen;have hn:n<À.length:=by exact æ (.y .q .r) [.z1 (.A .s .kc) .r] (af (ã [_,_,_,_] (.x .kc .r) [.z1 .q .s,.z1 .kL .t,.x .t .r] hl.symm hlen.symm (uy _ _)))
 refine(Ý hn ?_ ?_)
 ·have:=congrArg (·[0]?) h
  simpa [ro] using this
 ·have e:À.length-n=À.length-(n+1)+1:=by rw[Nat.sub_add_eq,af (sw hn)]
  refine O e (aBD Ci (O h ?_));rfl
theorem Ê.z (R:Ê A (B+8)):Ê A (0+B):=R.le (aa (cf (lq _)) (iy _ 8))
theorem AE (h1:aB F e pe=some x) (h2:cL F es pe=some l):cL F (.cons e es) pe=some (x::l):= by
 show(match aB F e pe,cL F es pe with|some x,some l=>some (x::l)|_,_=>none)=_;exact O h1 (O h2 rfl)
theorem HJ (h1:aB F a pe=some x) (h2:aB F c pe=some y) (h3:fD op x y=some z):aB F (.bin op a c) pe=some z:= by
 show(match aB F a pe,aB F c pe with|some x,some y=>fD op x y|_,_=>none)=_;exact O h1 (O h2 h3)
theorem qA{a b:PV}(ha:a.scalar=true) (hb:b.scalar=true):∀p∈[a,b],p.scalar=true:=λp hp=>by
 rcases az.mp hp with rfl|hp
 ·exact ha
 ·exact O (cg.mp hp) hb
theorem T2 (hl:(⟨#[92]⟩:Str).length+(⟨#[c]⟩:Str).length<=100000):cL F gE1 (ĩ x k esc (some (.str ⟨#[c]⟩)))=some [.int k,.str ⟨#[92,c]⟩]:= by
 have h:WG ⟨#[92]⟩ ⟨#[c]⟩=some (.str ⟨#[92,c]⟩):=if_pos hl;exact AE (F:=F) (pe:=ĩ x k esc (some (.str ⟨#[c]⟩))) (e:=.var 1) (x:=.int k) rfl (AE (HJ (op:=.Add) (a:=bs) (c:=.var 3) (x:=.str ⟨#[92]⟩) (y:=.str ⟨#[c]⟩) rfl rfl h) rfl)
theorem aAX (c:Nat):Option.map PV.bool (WP (.str ⟨#[c]⟩) (.str ⟨#[92]⟩))=some (.bool (decide (c=92))):= by
 have h:((⟨#[c]⟩:Str)==⟨#[92]⟩)=decide (c=92):= by
  by_cases h:c=92
  ·subst h;rfl
  ·exact O (decide_eq_false h) (O (propext beq_eq_false_iff_ne) (λq=>h (by simpa using congrArg Str.cps q)))
 exact congrArg (λb=>some (PV.bool b)) h
set_option maxHeartbeats 1600000 in
def k_D{sc:ja}{AT:Env}{tg:ar}{bd:List ib}{fbody:List ib}{Kfr:yl->Sem Fin}{lfr:List ag}{pfr:Pos}{e it:ew}{x:Str}{tx:Tok}{À:List PV}:Prop:=∀(hB:3<=B) (GK:ċ) (FK:ù F B) (Mu:AT.scope=sc) (Mr:sc.isCoroutine=false) (Hc:∀x,AT.kindOf x≠some .cell/\AT.kindOf x≠some .free) (p:Đ sc) (htg:p.tgt=tg) (hbd:p.body=bd) (Rm:Ê A (B+10)) (Uo:e≠it) (Ou:e≠AT.locals) (Ov:it≠AT.locals) (hx:x.length<=10000) (Up:H0.objs.size<=e) (Rc:H0.objs.size<=it) (Rz:∀s By n Hf esc ch,Ä (ï sc) (dI sc) AT s (Ŗ e it) (Ć AT.locals) (ĩ x Hf esc ch)->(∀p,ch=some p->p.scalar=true)->(0<x.cps.size->Hf=(x.cps.size:Int)-1)->(x.cps.size=0->esc=false)->
   À.drop (À.length-n)=f0 x.cps.size esc []->n=(f0 x.cps.size esc []).length->Ö By (ÿ AT.locals e it) s (ÿ AT.locals e it)->
   Seg (model Pg W0) A.in1 (λn By r bc=>r=.ok (.ret .none)/\gP (ÿ AT.locals e it) n By bc) (gY (ÿ AT.locals e it) À) n By (.func fbody AT) (Kfr (.ok .next)) [] s),∀(DO:List Nat) (k:Nat) (s By:aj) (n:Nat) (Hf:Int) (esc:Bool) (ch:Option PV),x.cps.toList.drop k=DO->k<=x.cps.size->Ä (ï sc) (dI sc) AT s (Ŗ e it) (Ć AT.locals) (ĩ x Hf esc ch)->
   (∀p,ch=some p->p.scalar=true)->(0<k->Hf=(k:Int)-1)->(k=0->esc=false)->À.drop (À.length-n)=f0 k esc DO->n=(f0 k esc DO).length->Ö By (ÿ AT.locals e it) s (ÿ AT.locals e it)->
   ((∃Lh,Ak s.heap e it k Lh)/\s.heap.IsStrIter it "str_ascii_iterator" x tx k)->
   Seg (model Pg W0) A.in1 (λn By r bc=>r=.ok (.ret .none)/\gP (ÿ AT.locals e it) n By bc) (gY (ÿ AT.locals e it) À) n By (.forLoop tg (.ref e) bd [] AT) ((model Pg W0).den (.forLoop tg (.ref e) bd [] AT)) [.ret Kfr none false lfr (.func fbody AT) pfr []] s
def g8:=@gX _ ⟨((((((((((((((ac,{}),ac),ac),ac),ac),ac),ac),ac),ac),ac),ac),ac),ac),ac)⟩ (bH (bH (bH (a7 (a7 (a7 @k_D))))))
def ω:=g8.1.1.1.1.1.1.1.1.1.1.1.1.1.2
def lJ:=g8.1.1.1.1.1.1.1.1.1.1.1.1.2
def aQ:=g8.1.1.1.1.1.1.1.1.1.1.1.2
def xJ:=g8.1.1.1.1.1.1.1.1.1.1.2
def AF:=g8.1.1.1.1.1.1.1.1.1.2
def oV:=g8.1.1.1.1.1.1.1.1.2
def į:=g8.1.1.1.1.1.1.1.2
def yQ:=g8.1.1.1.1.1.1.2
def yR:=g8.1.1.1.1.1.2
def ð:=g8.1.1.1.1.2
def dJ:=g8.1.1.1.2
def Ġ:=g8.1.1.2
theorem JW:@k_D g8.1.1.1.1.1.1.1.1.1.1.1.1.1.1.1 g8.1.1.1.1.1.1.1.1.1.1.1.1.1.1.2 ω lJ aQ xJ AF oV į yQ yR ð dJ Ġ g8.1.2 g8.2:= by
 intro hB GK FK Mu Mr Hc p htg hbd Rm Uo Ou Ov hx Up Rc Rz;have Ro:Ê (ω.in1.over (.forLoop xJ (.ref ð) AF [] aQ) [.ret į none false yQ (.func oV aQ) yR []]) (g8.1.1.1.1.1.1.1.1.1.1.1.1.1.1.2+8):=TZ Rm;have W:=WalksT.enumerateD (prog:=Pg) (w:=W0) (A:=ω.in1.over (.forLoop xJ (.ref ð) AF [] aQ) [.ret į none false yQ (.func oV aQ) yR []]) (Draws.strAscii (prog:=Pg) (w:=W0) (A:=(ω.in1.over (.forLoop xJ (.ref ð) AF [] aQ) [.ret į none false yQ (.func oV aQ) yR []]).in1) Ro.hh dJ Ġ g8.1.2) ð Uo (by simpa using Uo) (tz _);have again:∀{s s':aj}{Hf:Int}{esc:Bool}{ch:Option PV},Ä (ï lJ) (dI lJ) aQ s (Ŗ ð dJ) (Ć aQ.locals) (ĩ Ġ Hf esc ch)->(∀p,ch=some p->p.scalar=true)->Later (Ć aQ.locals) s s'->
   Ä (ï lJ) (dI lJ) aQ s' (Ŗ ð dJ) (Ć aQ.locals) (ĩ Ġ Hf esc ch):=λX Hx hl=>X.again (mU Hx) rfl rfl Hc hl rfl
    (λb q=>⟨X.base.above b q,ae (X.base.low b q) hl.grow⟩) rfl (λb q1 q2=>q2.elim (λq=>Ou (q.symm.trans q1)) λq=>Ov (q.symm.trans q1))
 have reset:∀{s:aj}{BY:Ap}{Hf:Int}{esc:Bool}{ch:Option PV},Ä (ï lJ) (dI lJ) aQ s (Ŗ ð dJ) BY (ĩ Ġ Hf esc ch)->(∀p,ch=some p->p.scalar=true)->
   Ä (ï lJ) (dI lJ) aQ s (Ŗ ð dJ) (Ć aQ.locals) (ĩ Ġ Hf esc ch):=λ{s _ _ _ _} X Hx=>X.again (s':=s) (Ng:=Ć aQ.locals) (mU Hx) rfl rfl Hc ⟨λb o _ h=>h,X.base.keep,ai _,X.base.toks,X.base.bare⟩ rfl
    (λb q=>q.elim (λq=>⟨X.base.above b (.inl q),X.base.low b (.inl q)⟩) λq=>⟨by exact O q (X.base.above _ (.inr X.noL)),by refine O q ?_;exact X.base.low _ (.inr X.noL)⟩) rfl (λb q1 q2=>q2.elim (λq=>Ou (q.symm.trans q1)) λq=>Ov (q.symm.trans q1))
 intro DO
 induction DO with
 |nil=>
  intro k s By n Hf esc ch hr hk X Hx hp Rd đ hn Hn Ja;have Yv:k=Ġ.cps.size:= by
   have:=congrArg fw hr;simp at this;exact bf (hk) (æ (.x .q .r) [.z1 .s .n0,.z1 .q (.A .s .r)] this (af (ã [_,_] (.x .q .r) [.x .q .r] hk)).symm)
  subst Yv;refine s6 λE=>bJ (W.done s _ _ Ja λh' tk Io hm=>?_);refine CV (Rz _ By n Hf esc ch (again X Hx ⟨λb o hb ho=>Io b o ?_ ho,λb o ho=>Io b o ?_ (X.base.keep b o ho),hm.1,ae X.base.toks hm.2,X.base.bare⟩) Hx hp Rd đ hn (Hn.trans ⟨⟨λb o hb ho=>Io b o ?_ ho,hm.1,λb q=>.inl q⟩,λ_ _ h=>h,id,rfl,rfl,hm.2⟩))
  ·subst hb;simp[sk Ou,sk Ov]
  ·have:=da ho;simp only[az,iz,or_false,not_or];exact⟨λq=>absurd this (ax.mpr (q▸Up)),λq=>absurd this (ax.mpr (q▸Rc))⟩
  ·simp only[az,iz,or_false,not_or];exact⟨λq=>hb (.inr (.inl q)),λq=>hb (.inr (.inr q))⟩
 |cons c DO ih=>
  intro k s By n Hf esc ch hr hk X Hx hp Rd đ hn Hn Ja;have Gu:k<Ġ.cps.size:= by
   have:=congrArg fw hr;simp at this;exact Ľ (.y .q .r) [.z1 .kL .t,.z1 (.A .t .q) .r] this.symm (af (ã [_,_] (.x .q .r) [.x .q .r] hk))
  have Yw:Ġ.cps[k]?=some c:= by
   have:=congrArg (·[0]?) hr
   simpa [ro] using this
  have To:Ġ.cps.toList.drop (k+1)=DO:=by refine aBD Ci (O hr ?_);rfl
  have wr:∀b,b∉[ð,dJ]<->b≠ð/\b≠dJ:=λb=>by simp
  have RW:∀b o,H0.get? b=some o->b∉[ð,dJ]:=λb o ho=>by
   have:=da ho;exact O (propext (wr ..)) ⟨λq=>absurd this (ax.mpr (q▸Up)),λq=>absurd this (ax.mpr (q▸Rc))⟩
  have Sa:aQ.locals∉[ð,dJ]:=by exact O (propext (wr ..)) ⟨sk Ou,sk Ov⟩
  refine s6 λE=>bJ (W.item k s _ _ Gu Ja λT vals Gj tk Yx Wv Uq Sb Io hm=>?_);obtain⟨ti,v,⟨c',u,Pz,rfl⟩,rfl⟩:=Yx;rw[Yw] at Pz;cases Pz;have Ur:=W.apart _ _ _ Sb;have Us:Later (Ć aQ.locals) s {s with heap:=Gj,toks:=tk}:=⟨λb o hb ho=>by subst hb;exact Io _ o Sa ho,λb o ho=>Io b o (RW b o ho) (X.base.keep b o ho),hm.1,ae X.base.toks hm.2,X.base.bare⟩;have Gl:=again X Hx Us;have Ow:Ö s (ÿ aQ.locals ð dJ) {s with heap:=Gj,toks:=tk} (ÿ aQ.locals ð dJ):=
   ⟨⟨λb o hb ho=>Io b o ((wr b).mpr ⟨λq=>hb (.inr (.inl q)),λq=>hb (.inr (.inr q))⟩) ho,hm.1,λb q=>.inl q⟩,λ_ _ h=>h,id,rfl,rfl,hm.2⟩
  dsimp only
  rw[show letOwnedTupleGo xJ=letOwnedTupleGo p.tgt from htg▸rfl,show assign xJ=assign p.tgt from htg▸rfl];refine bJ (W.go p.es p.ek p.ep k T _ _ _ Sb λID Ox KE Mg=>?_);have Ut:Later (Ć aQ.locals) {s with heap:=Gj,toks:=tk} {s with heap:=ID,toks:=tk}:=⟨λb o hb ho=>by subst hb;exact KE _ o Sa ho,λb o ho=>KE b o (RW b o ho) (Gl.base.keep b o ho),Mg.1,Gl.base.toks,X.base.bare⟩;have Gh:=again Gl Hx Ut;have Oy:Ö {s with heap:=Gj,toks:=tk} (ÿ aQ.locals ð dJ) {s with heap:=ID,toks:=tk} (ÿ aQ.locals ð dJ):=
   ⟨⟨λb o hb ho=>KE b o ((wr b).mpr ⟨λq=>hb (.inr (.inl q)),λq=>hb (.inr (.inr q))⟩) ho,Mg.1,λb q=>.inl q⟩,λ_ _ h=>h,id,rfl,rfl,Mg.2⟩
  have Ni:ID.IsTuple T ([xl k ti,.str ⟨#[c]⟩ u]:List ag).toArray:=let ⟨o,q1,q2⟩:=Uq;⟨o,KE T o Ur q1,q2⟩;refine JV Ro.hh Gh p.hes Ni (l:=[.int k,.str ⟨#[c]⟩]) (λh N=>.cons (.int _ _) (.cons (.str _ _) .nil)) (pe':=ĩ Ġ k esc (some (.str ⟨#[c]⟩))) rfl λiF Hr Gm=>?_;have Mh:∀p,(some (PV.str ⟨#[c]⟩))=some p->p.scalar=true:=λp h=>by cases h;rfl
  have Nj:∀b o,b≠aQ.locals->ID.get? b=some o->iF.heap.get? b=some o:=λb o hb ho=>Hr.step.keep b o hb ho;have Kx:(∃Lh,Ak iF.heap ð dJ (k+1:Nat) Lh)/\iF.heap.IsStrIter dJ "str_ascii_iterator" Ġ g8.1.2 (k+1):=W.frame _ _ _ Ox λb hb o ho=>Nj b o (by
   simp only[az,iz,or_false] at hb;rcases hb with rfl|rfl
   ·exact Ou
   ·exact Ov) ho
  have Oz:Ö By (ÿ aQ.locals ð dJ) iF (ÿ aQ.locals ð dJ):= by
   refine(Hn.trans (Ow.trans Oy)).trans ⟨⟨λb o hb ho=>Hr.step.keep b o (λq=>hb (.inl q)) ho,Hr.step.grow,λb q=>.inl q⟩,Hr.gens,Hr.bare,Hr.os,Hr.drawn,Hr.toks⟩
  have NgLow:∀{s':aj},Ä (ï lJ) (dI lJ) aQ s' (Ŗ ð dJ) (Ć aQ.locals) (ĩ Ġ k esc (some (.str ⟨#[c]⟩)))->∀b,(b=aQ.locals\/b=ð\/b=dJ)->b<s'.heap.objs.size:=
   λX b q=>q.elim (λq=>X.base.low b (.inr q)) λq=>X.base.low b (.inl q)
  have TE:=λq=>aD hB GK FK q;have Yy:(0<k+1->(k:Int)=((k+1:Nat):Int)-1):=λ_=>by push_cast;exact à (.e .q (.S .kc .n1)) []
  have Sd:aQ.scope.isCoroutine=false:=by exact O Mu Mr
  rw[show execs AF aQ=execs p.body aQ from hbd▸rfl];show Seg _ _ _ _ n By _ ((execs [.If p.t1 [.Expr (.Yield (some p.y1) p.yp1) p.ep1,p.s3] [.If p.t2 [p.s4] [.Expr (.Yield (some p.y2) p.yp2) p.ep2] p.ip2] p.ip1] aQ).wrap _ _ _ _) _ iF;refine seg_execs_cons (FA ((TE (.var 2)).2 (r:=esc) Ro.z Gm p.h1 rfl λs₄ Hs=>?_));have He:=Gm.pure Hs;have Mi:=Oz.trans (Hs.toExt (No:=ÿ aQ.locals ð dJ) (No':=ÿ aQ.locals ð dJ) λb q=>.inl q);have Kz:(∃Lh,Ak s₄.heap ð dJ (k+1:Nat) Lh)/\s₄.heap.IsStrIter dJ "str_ascii_iterator" Ġ g8.1.2 (k+1):=W.frame _ _ _ Kx λb _ o ho=>Pure.keep Hs b o ho;have eL:∀b,(b=ð\/b=dJ)->b≠aQ.locals:=λb q=>q.elim (λq=>q▸Ou) λq=>q▸Ov;have back:∀(Go Hi:aj) (n':Nat) (Ig:Bool),Ä (ï lJ) (dI lJ) aQ Go (Ŗ ð dJ) (Ć aQ.locals) (ĩ Ġ k Ig (some (.str ⟨#[c]⟩)))->g8.2.drop (g8.2.length-n')=f0 (k+1) Ig DO->n'=(f0 (k+1) Ig DO).length->
    Ö Hi (ÿ aQ.locals ð dJ) Go (ÿ aQ.locals ð dJ)->((∃Lh,Ak Go.heap ð dJ (k+1:Nat) Lh)/\Go.heap.IsStrIter dJ "str_ascii_iterator" Ġ g8.1.2 (k+1))->
    Seg (model Pg W0) ω.in1 (λn By r bc=>r=.ok (.ret .none)/\gP (ÿ aQ.locals ð dJ) n By bc) (gY (ÿ aQ.locals ð dJ) g8.2) n' Hi (.forLoop xJ (.ref ð) AF [] aQ) (.pure (.again (.forLoop xJ (.ref ð) AF [] aQ))) [.ret į none false yQ (.func oV aQ) yR []] Go:=
   λGo Hi n' Ig Gx h1 h2 h3 h4=>seg_again rfl (ih (k+1) Go Hi n' k Ig (some (.str ⟨#[c]⟩)) To Gu Gx Mh Yy (λq=>by lia) h1 h2 h3 h4)
  have flag:∀(Go Hi:aj) (n':Nat) (Ih Ig:Bool) (Jh:ib) (K':Cd->Sem Fin) (H':ag->Sem Fin) (gd':Bool->Bool) (lv':List ag->List ag),jG (ï lJ) (dI lJ) Jh (.asg 2 (.cst (.bool Ig)))=true->
    Ä (ï lJ) (dI lJ) aQ Go (Ŗ ð dJ) (Ć aQ.locals) (ĩ Ġ k Ih (some (.str ⟨#[c]⟩)))->g8.2.drop (g8.2.length-n')=f0 (k+1) Ig DO->n'=(f0 (k+1) Ig DO).length->
    Ö Hi (ÿ aQ.locals ð dJ) Go (ÿ aQ.locals ð dJ)->((∃Lh,Ak Go.heap ð dJ (k+1:Nat) Lh)/\Go.heap.IsStrIter dJ "str_ascii_iterator" Ġ g8.1.2 (k+1))->
    K' .next=.pure (.again (.forLoop xJ (.ref ð) AF [] aQ))->
    Seg (model Pg W0) ω.in1 (λn By r bc=>r=.ok (.ret .none)/\gP (ÿ aQ.locals ð dJ) n By bc) (gY (ÿ aQ.locals ð dJ) g8.2) n' Hi (.forLoop xJ (.ref ð) AF [] aQ) ((exec Jh aQ).wrap K' H' gd' lv') [.ret į none false yQ (.func oV aQ) yR []] Go:= by
   intro Go Hi n' Ih Ig Jh K' H' gd' lv' hc Gx h1 h2 h3 h4 Yz;refine OR (qR (λp=>(aD hB GK FK p).1) (λp=>(aD hB GK FK p).2) (λp=>kS hB GK FK p) 2 (.cst (.bool Ig)) rfl Ro.z Gx hc (pe':=ĩ Ġ k Ig (some (.str ⟨#[c]⟩))) (fl:=.next) rfl λf Hb Jb Hy Hz hf=>?_);cases hf;refine O Yz (back Hb Hi n' Ig (reset Hz Mh) h1 h2 (h3.trans ⟨⟨λb o hb ho=>Hy.step.keep b o (λq=>hb (.inl q)) ho,Hy.step.grow,λb q=>.inl q⟩,Hy.gens,Hy.bare,Hy.os,Hy.drawn,Hy.toks⟩) (W.frame _ _ _ h4 λb hb o ho=>Hy.step.keep b o (eL b (by simpa using hb)) ho))
  have later:∀{Go Hb:aj}{Ih:Bool},Pure s₄ Go->Later (ÿ aQ.locals ð dJ) Go Hb->Ä (ï lJ) (dI lJ) aQ s₄ (Ŗ ð dJ) (Ć aQ.locals) (ĩ Ġ k Ih (some (.str ⟨#[c]⟩)))->
    Ä (ï lJ) (dI lJ) aQ Hb (Ŗ ð dJ) (Ć aQ.locals) (ĩ Ġ k Ih (some (.str ⟨#[c]⟩)))/\((∃Lh,Ak Hb.heap ð dJ (k+1:Nat) Lh)/\Hb.heap.IsStrIter dJ "str_ascii_iterator" Ġ g8.1.2 (k+1)):= by
   intro Go Hb Ih Hk Js X;exact⟨again (X.pure Hk) Mh ⟨λb o hb ho=>Js.own b o (.inl hb) ho,Js.keep,Js.grow,Js.toks,Js.bare⟩,W.frame _ _ _ Kz λb hb o ho=>Js.own b o (.inr (by simpa using hb)) (Pure.keep Hk b o ho)⟩
  cases esc with
  |true=>
   simp only[if_true];have Se:f0 k true (c::DO)=.tup [.int k,.str ⟨#[92,c]⟩]::f0 (k+1) false DO:=rfl;rw[Se] at đ hn;simp only[dc] at hn;subst hn;refine Ą (AD đ rfl) λi1 i2 i3=>?_;refine seg_execs_cons (pZ (ps:=gE1) hB GK FK (by rfl) (by rfl) (by rfl) Ro.z He p.h2 (l:=[.int k,.str ⟨#[92,c]⟩]) ?_ (qA rfl rfl) i1 i2 Mi (NgLow He) Sd λGo Hb Hk Js=>?_)
   ·have hl:((⟨#[92]⟩:Str).length+(⟨#[c]⟩:Str).length<=100000):=by show 1+1<=100000;exact ů (.x (.A .n1 .n1) .kv) []
    exact T2 hl
   ·refine xa (later Hk Js He) λHz Mb=>?_;exact seg_execs_cons (flag Hb Hb _ true false p.s3 _ _ _ _ p.h3 Hz i3 rfl (Ö.refl _ _) Mb rfl)
  |false=>
   simp only[ay,if_false];refine seg_execs_cons (FA ((TE (.cmp .Eq (.var 3) bs)).2 (r:=decide (c=92)) Ro.z He p.h4 ?_ λGo Hk=>?_))
   ·exact aAX c
   have Gx:=He.pure Hk;have Mj:=Mi.trans (Hk.toExt (No:=ÿ aQ.locals ð dJ) (No':=ÿ aQ.locals ð dJ) λb q=>.inl q);have Mf:(∃Lh,Ak Go.heap ð dJ (k+1:Nat) Lh)/\Go.heap.IsStrIter dJ "str_ascii_iterator" Ġ g8.1.2 (k+1):=W.frame _ _ _ Kz λb _ o ho=>Pure.keep Hk b o ho
   by_cases Nk:c=92
   ·simp only[Nk,decide_true,if_true];have Se:f0 k false (c::DO)=f0 (k+1) true DO:=by exact if_pos Nk
    rw[Se] at đ hn;exact seg_execs_cons (flag Go By n false true p.s4 _ _ _ _ p.h5 Gx đ hn Mj Mf rfl)
   ·simp only[Nk,decide_false,ay,if_false];have Se:f0 k false (c::DO)=.tup [.int k,.str ⟨#[c]⟩]::f0 (k+1) false DO:=by exact if_neg Nk
    rw[Se] at đ hn;simp only[dc] at hn;subst hn;refine Ą (AD đ rfl) λi1 i2 i3=>?_;refine seg_execs_cons (pZ (ps:=gE2) hB GK FK (by rfl) (by rfl) (by rfl) Ro.z Gx p.h6 (l:=[.int k,.str ⟨#[c]⟩]) rfl (qA rfl rfl) i1 i2 Mj (NgLow Gx) Sd λHb Pa Le Uu=>?_);refine xa (later (Hk.trans Le) Uu He) λUv Sf=>?_;exact back Pa Pa _ false Uv i3 rfl (Ö.refl _ _) Sf
theorem OU:@k_D F B A sc AT tg bd fbody Kfr lfr pfr e it x tx À:=iA (bH (bH (bH (a7 (a7 (a7 @k_D)))))) (((((((((((((((F,B),A),sc),AT),tg),bd),fbody),Kfr),lfr),pfr),e),it),x),tx),À) JW
end
end Mine
end
section
open PySem PySem.W PyProof.Rows PySem.W.X
namespace Mine
section
variable{M:Fo}{A:dm}{c:Fg}{fs:List Cf}{s:aj}{Á:Env}{P:End->aj->Prop}
 {K:Cd->Sem Fin}{H:ag->Sem Fin}{gd:Bool->Bool}{lv:List ag->List ag}
theorem sA{α:Type}{m:Sem α}{K:α->Sem Fin}
  (h:wpAny M (A.over c fs) m (λa s'=>SegX M A c (K a) fs s' P) (λx s'=>SegX M A c (H x) fs s' P) s):SegX M A c (m.wrap K H gd lv) fs s P:= by
 rintro Γ p rfl ĸ
 refine lE (runs_wrap_of_wp (Φ:=λe s'=>e.quiet=true/\P e s') K H gd lv m (h (Γ.over fs) p (ĸ.over fs)) (λa p' s' h'=>h' Γ p' rfl ĸ) (λx p' s' h'=>h' Γ p' rfl ĸ)) λe s' hr hq=>?_;exact(mL e s' hr hq)
theorem lW{α β:Type}{m:Sem α}{f:α->Sem β}{K:β->Sem Fin}
  (h:wpAny M (A.over c fs) m (λa s'=>SegX M A c ((f a).wrap K H gd lv) fs s' P) (λx s'=>SegX M A c (H x) fs s' P) s):SegX M A c ((m >>= f).wrap K H gd lv) fs s P:= by
 exact O (pi ..) (O (qf ..) (sA h))
theorem yS{st:ib}(h:wpAny M (A.over c fs) (exec st Á) (λf s'=>SegX M A c (K f) fs s' P) (λx s'=>SegX M A c (H x) fs s' P) s):
  SegX M A c ((exec st Á).wrap K H gd lv) fs s P:=sA h
theorem jL{st:ib}{DO:List ib}
  (h:SegX M A c ((exec st Á).wrap (λf=>match f with|.next=>(execs DO Á).wrap K H gd lv|f=>K f) H gd lv) fs s P):SegX M A c ((execs (st::DO) Á).wrap K H gd lv) fs s P:= by
 exact O (execs_cons_wrap ..) h
theorem JX {h g l} (hc:∀p,SegX M A c' (M.den c') (.ret k h g l c p []::fs) s P):SegX M A c (.call c' h g l k) fs s P:= by
 rintro Γ p rfl ĸ
 refine lE (hc p (Γ.goto c') p rfl (ĸ.goto c')) λe s' hr he=>?_;exact(mL e s' (runs_call_seg hr) he)
theorem OV (hs:∀x,foldedSetIterable iter Á x=dx x)
  (h:wpAny M (A.over c fs) (eval iter Á) (λx bc=>wpAny M (A.over c fs) (pyIter x) (λit Ã=>
   ∀p,SegX M A (.forLoop target it body orelse Á) (M.den (.forLoop target it body orelse Á))
   (.ret (λr=>((match r with|.ok f=>(.pure f:Sem Cd)|.error e=>.raise e).onRaise λ(x:ag)=>do
    if (<-field x 1)==Cj then unsupported "frame.own-activation:exception-without-traceback"
    setFlight x Á.frame).wrap K H gd lv) none (gd false) (lv []) c p []::fs) Ã P) (λx s'=>SegX M A c (H x) fs s' P) bc) (λx s'=>SegX M A c (H x) fs s' P) s):
  SegX M A c ((exec (.For target iter body orelse pos) Á).wrap K H gd lv) fs s P:= by
 refine O (exec_For ..) (lW (il (lW (jk h (λx bc Gj=>?_) λ_ _ h'=>h'))));refine lW (wpAny_of_eq (hs x) ?_);refine lW (il ?_);refine lW (wpAny_holding (jk Gj (λit Ã ID=>?_) λ_ _ h'=>h'));exact JX ID
end
section
variable{A:dm}{fs:List Cf}{s:aj}{Á:Env}{P:End->aj->Prop}
theorem JY
  (h:SegX (model Pg W0) A (.func body Á) ((execs body Á).wrap (λf=>.pure (.done (.ret (match f with|.ret v=>v|_=>.none))))
   (λe=>(leaving Á e).wrap (λ_=>.raise e) .raise id id) id id) fs s P):
  SegX (model Pg W0) A (.func body Á) ((model Pg W0).den (.func body Á)) fs s P:= by
 show SegX _ A _ (.point [] λ_=>((execs body Á).onRaise (leaving Á)) >>= _) fs s P;refine sA (m:=point) (H:=.raise) (gd:=id) (lv:=λ_=>[]) (wpAny_point ?_);refine O (xu ..) (O (pi ..) (O (qf ..) ?_));refine O (Cg (execs body Á) _ _ (K':=λf=>.pure (.done (.ret (match f with|.ret v=>v|_=>.none))))
  (H':=λe=>(leaving Á e).wrap (λ_=>.raise e) .raise id id) (λf=>by cases f<;>rfl)
  (λe=>by rw[ui,qf];rfl)) ?_
 exact h
end
def Run (A:dm) (À:List PV):Nat->(Ap)->Fg->Sem Fin->List Cf->aj->Prop
 |0=>λNg c t fs s=>SegX (model Pg W0) A c t fs s λe bc=>∃Ng',(∀b,Ng b->Ng' b)/\Ö s Ng bc Ng'/\Ė Ng' bc.heap/\e=.ret (.ok (.ret .none))
 | n + 1 => fun Ng c t fs s => SegX (model Pg W0) A c t fs s fun e bc => ∃ Ng', (∀ b, Ng b -> Ng' b) /\ Ö s Ng bc Ng' /\ Ė Ng' bc.heap /\
   ∃v g l k c' p Li,e=.susp v g l k c' p Li/\n<À.length/\(∃q,À[À.length-(n+1)]?=some q/\Ō Ng' s bc v q)/\
    ∀Hu,Later Ng' bc Hu->Run A À n Ng' c' (k (.send .none)) Li Hu
def Ĳ (A:dm) (À:List PV):Nat->(Ap)->aj->End->aj->Prop
 |0=>λNg s e bc=>∃Ng',(∀b,Ng b->Ng' b)/\Ö s Ng bc Ng'/\Ė Ng' bc.heap/\e=.ret (.ok (.ret .none))
 | n + 1 => fun Ng s e bc => ∃ Ng', (∀ b, Ng b -> Ng' b) /\ Ö s Ng bc Ng' /\ Ė Ng' bc.heap /\
   ∃v g l k c' p Li,e=.susp v g l k c' p Li/\n<À.length/\(∃q,À[À.length-(n+1)]?=some q/\Ō Ng' s bc v q)/\
    ∀Hu,Later Ng' bc Hu->Run A À n Ng' c' (k (.send .none)) Li Hu
theorem tS:
  Run A À n Ng c t fs s<->SegX (model Pg W0) A c t fs s (Ĳ A À n Ng s):=by cases n<;>rfl
theorem Ĳ.back (h:Ĳ A À n Nz Ã e bc) (hs:∀b,Ng b->Nz b) (hx:Ö s Ng Ã Nz):Ĳ A À n Ng s e bc:= by
 cases n with
 |zero=>
  refine cW h λN h1 h2 h3 h4=>?_;exact(hV N (λb q=>h1 b (hs b q)) (hx.trans h2) h3 h4)
 |succ n=>
  obtain⟨N,h1,h2,h3,v,g,l,k,c',p,Li,h4,h5,⟨q,h6,T,vs,l',a1,a2,a0,a3,a4,a5⟩,h7⟩:=h;exact(hV N (λb q=>h1 b (hs b q)) (hx.trans h2) h3 (fX v g l (i6 k c' p Li h4 h5 ⟨(Õ q h6 (eV T vs l' a1 a2 a0 (aa hx.step.grow a3) ⟨a4,a5⟩)),h7⟩)))
section
variable{A:dm}{À:List PV}{Ng:Ap}
theorem û.ext (b:û s N) (x:Ö s N s' N):û s' N where
 keep:=λa o e=>x.step.keep a o (λq=>by have:=b.above a q;have h2:=da e;exact absurd h2 (ax.mpr this)) (b.keep a o e)
 above:=b.above
 size:=aa b.size x.step.grow
 low:=λa h=>ae (b.low a h) x.step.grow
 toks:=ae b.toks (Ö.toks x)
 bare:=x.bare b.bare
theorem û.later (b:û s N) (x:Later N s s'):û s' N where
 keep:=x.keep
 above:=b.above
 size:=aa b.size x.grow
 low:=λa h=>ae (b.low a h) x.grow
 toks:=x.toks
 bare:=x.bare
theorem û.refl (b:û s N):Later N s s:=⟨λ_ _ _ h=>h,b.keep,ai _,b.toks,b.bare⟩
theorem v3:∀(n:Nat) (c:Fg) (t:Sem Fin) (fs:List Cf) (s:aj),û s Ng->
  Seg (model Pg W0) A (λn By r bc=>r=.ok (.ret .none)/\gP Ng n By bc) (gY Ng À) n s c t fs s->Run A À n Ng c t fs s
 |0,c,t,fs,s,hl,h=>by
  intro Γ p hc ĸ;refine lE (seg_iff.mp h Γ p hc ĸ) λe bc hr he=>?_;cases e with
  |ret r=>
   refine Ą he λaT _ hx=>?_;subst aT;exact(cC _ bc hr rfl (hV Ng (λb q=>q) hx ((hl.ext hx).low) rfl))
  |susp v g l k c' p' Li=>
   exfalso;refine jB he λhq h1 h2 h3 h4=>?_;exact h4 bc (hl.ext h3).refl
 |n+1,c,t,fs,s,hl,h=>by
  intro Γ p hc ĸ;refine lE (seg_iff.mp h Γ p hc ĸ) λe bc hr he=>?_;cases e with
  |ret r=>
   refine Ą he λ_ h0 _=>?_;clear he;cases h0
  |susp v g l k c' p' Li=>
   refine jB he λhq h1 h2 h3 h4=>?_;clear he;have Lv:=hl.ext h3;exact(cC _ bc hr hq (hV Ng (λb q=>q) h3 Lv.low (fX v g l (i6 k c' p' Li rfl h1 ⟨h2,(λHu hL=>v3 n c' _ Li Hu (Lv.later hL) (h4 Hu hL))⟩))))
end
end Mine
end
section
open PySem PySem.W PyProof.Rows PySem.W.X
namespace Mine
section
variable{F:Fn}{B:Nat}
variable{A:dm}{cx:Cx}{asg:List Str}{Á:Env}{s s':aj}{Na No Ng:Ap}{pe:Å}{E:Vs}
theorem xK (h:x.cps.all (·<128)=true):strIterType x="str_ascii_iterator":=by unfold strIterType;exact O (if_pos h) rfl
noncomputable def aBC (AT:Env) (body:List ib):Fg:=.func body AT
theorem T3 (hB:3<=B) (GK:ċ) (FK:ù F B) (Mr:AT.scope.isCoroutine=false) (k13:aN (ï sc) true t3 (.var 2)=true) (k14:xI (ï sc) y3 gE3=true)
  (Rf:Ê (A.in1.over (.func body AT) []) (B+8)) (X:Ä (ï sc) (dI sc) AT s (Ŗ e it) (Ć AT.locals) (ĩ x Hf esc ch))
  (hp:0<x.cps.size->Hf=(x.cps.size:Int)-1) (Rd:x.cps.size=0->esc=false) (đ:À.drop (À.length-n)=f0 x.cps.size esc []) (hn:n=(f0 x.cps.size esc []).length) (Hn:Ö By (ÿ AT.locals e it) s (ÿ AT.locals e it)):
  Seg (model Pg W0) A.in1 (λn By r bc=>r=.ok (.ret .none)/\gP (ÿ AT.locals e it) n By bc) (gY (ÿ AT.locals e it) À) n By (.func body AT)
   ((execs [.If t3 [.Expr (.Yield (some y3) yp3) ep3] [] ip3] AT).wrap (λf=>.pure (.done (.ret (match f with|.ret v=>v|_=>.none)))) (λe=>(leaving AT e).wrap (λ_=>.raise e) .raise id id) id id) [] s:= by
 have fin:∀Hb Hi,Ö Hi (ÿ AT.locals e it) Hb (ÿ AT.locals e it)->Seg (model Pg W0) A.in1 (λn By r bc=>r=.ok (.ret .none)/\gP (ÿ AT.locals e it) n By bc) (gY (ÿ AT.locals e it) À) 0 Hi (.func body AT) (.pure (.done (.ret .none))) [] Hb:=
  λHb Hi he=>seg_end (.ok (.ret .none)) (Ý rfl rfl he)
 refine seg_execs_cons (FA ((aD hB GK FK (.var 2)).2 (r:=esc) Rf.z X k13 rfl λHb Le=>?_));have Mk:=Hn.trans (Le.toExt (No:=ÿ AT.locals e it) (No':=ÿ AT.locals e it) λb q=>.inl q);cases esc with
 |true=>
  cases (show n=0+1 from hn);have Iq:0<x.cps.size:=(ym x.cps.size).resolve_left λh=>absurd (Rd h) (by decide);refine Ą (AD đ rfl) λi1 i2 i3=>?_;have Hz:=X.pure Le;exact seg_execs_cons (pZ (ps:=gE3) hB GK FK (by rfl) (by rfl) (by rfl) Rf.z Hz k14 (l:=[.int Hf,.str ⟨#[92]⟩]) rfl (qA rfl rfl) i1 (by exact O (hp Iq) i2) Mk (λb q=>Hz.base.low b (q.elim .inr .inl)) Mr λPa Sg Za Zb=>fin Sg Sg (Ö.refl _ _))
 |false=>
  cases (show n=0 from hn);exact fin Hb By Mk
theorem Ä.reset1 (hown:cx.own=[]) (htk:cx.tk=[]) (Hc:∀x,AT.kindOf x≠some .cell/\AT.kindOf x≠some .free) (hs:∀i q,lk pe i=some q->q.scalar=true) (X:Ä cx asg AT s (λ_=>False) BY pe):Ä cx asg AT s (λ_=>False) (Ć AT.locals) pe:=
 X.again (s':=s) (Ng:=Ć AT.locals) hs hown htk Hc ⟨λb o _ h=>h,X.base.keep,ai _,X.base.toks,X.base.bare⟩ rfl (λb q=>q.elim (λq=>q.elim) λq=>⟨by exact O q (X.base.above _ (.inr X.noL)),by refine O q ?_;exact X.base.low _ (.inr X.noL)⟩) rfl (λb _ q=>q)
theorem FB (h:lk [some (.str x),none,none,none] i=some q):q.scalar=true:= by
 cases i with
 |zero=>exact sm h▸rfl
 |succ i=>cases i with
  |zero=>exact nn h
  |succ i=>cases i with
   |zero=>exact nn h
   |succ i=>cases i with
    |zero=>exact nn h
    |succ i=>exact nn h
theorem FC (h:lk [some (.str x),some (.int n),none,none] i=some q):q.scalar=true:= by
 cases i with
 |zero=>exact sm h▸rfl
 |succ i=>cases i with
  |zero=>exact sm h▸rfl
  |succ i=>cases i with
   |zero=>exact nn h
   |succ i=>cases i with
    |zero=>exact nn h
    |succ i=>exact nn h
theorem CZ (h:z4 g=true):g=.enum:=by cases g<;>first|exact nf h|rfl
theorem Ö.toL (e:Ö s (Ć L) s' BY):Ö s (Ć L) s' (Ć L):=⟨⟨e.step.keep,e.step.grow,λb q=>.inl q⟩,e.gens,e.bare,e.os,e.drawn,e.toks⟩
theorem JZ (Hc:∀x,AT.kindOf x≠some .cell/\AT.kindOf x≠some .free) (X:Ä (ï sc) (dI sc) AT s (λ_=>False) (Ć AT.locals) (ĩ x 0 false none)) (Kc:h'.objs.size=s.heap.objs.size+2) (Io:∀b o,s.heap.get? b=some o->h'.get? b=some o):
  Ä (ï sc) (dI sc) AT {s with heap:=h'} (Ŗ (s.heap.objs.size+1) s.heap.objs.size) (Ć AT.locals) (ĩ x 0 false none)/\Ö s (Ć AT.locals) {s with heap:=h'} (ÿ AT.locals (s.heap.objs.size+1) s.heap.objs.size):= by
 have hL:=X.base.low _ (.inr rfl);have Sh:=X.base.size;have hg:s.heap.objs.size<=h'.objs.size:=by exact O Kc (iy _ _)
 have lt1:s.heap.objs.size<h'.objs.size:=by exact O Kc (im (di _))
 have lt2:s.heap.objs.size+1<h'.objs.size:=by exact O Kc (di _)
 have Zc:Later (Ć AT.locals) s {s with heap:=h'}:=⟨λb o _ ho=>Io b o ho,λb o ho=>Io b o (X.base.keep b o ho),hg,X.base.toks,X.base.bare⟩;refine⟨X.again (Ng:=Ć AT.locals) (mU (λq h=>nn h)) rfl rfl Hc Zc rfl (λb q=>?_) rfl (λb q1 q2=>?_),⟨λb o _ ho=>Io b o ho,hg,λb q=>q.elim .inl λq=>.inr (q.elim (λq=>by exact O q (jh _)) λq=>by refine O q ?_;exact ai _)⟩,λ_ _ h=>h,id,rfl,rfl,ai _⟩
 ·rcases q with(q|q)|q
  ·exact⟨by exact O q (gm Sh),by refine O q ?_;exact lt2⟩
  ·exact⟨by exact O q Sh,by refine O q ?_;exact lt1⟩
  ·exact⟨by exact O q (X.base.above _ (.inr rfl)),by refine O q ?_;exact jc hL lt1⟩
 ·rcases q2 with q2|q2
  ·exact absurd hL (ax.mpr (by exact aBD q1 (O q2 (jh _))))
  ·exact absurd hL (ax.mpr (by exact aBD q1 (O q2 (ai _))))
set_option maxHeartbeats 1600000 in
def kW{sc:ja}{body:List ib}{AT:Env}{x:Str} :Prop:=∀(hB:3<=B) (GK:ċ) (FK:ù F B) (Mu:AT.scope=sc) (Hc:∀x,AT.kindOf x≠some .cell/\AT.kindOf x≠some .free) (hc:AC body sc=true) (hx:x.length<=10000) (Si:x.cps.all (·<128)=true) (Rm:Ê A (B+10)) (X:Ä (ï sc) (dI sc) AT s (λ_=>False) (Ć AT.locals) [some (.str x),none,none,none]),Run A.in1 (f0 0 false x.cps.toList) (f0 0 false x.cps.toList).length (Ć AT.locals) (.func body AT) ((model Pg W0).den (.func body AT)) [] s
def aJ:=@gX _ ⟨((((((ac,{}),{}),ac),ac),ac),ac)⟩ (bH (a7 (a7 (a7 @kW))))
theorem FD:@kW aJ.1.1.1.1.1.1.1 aJ.1.1.1.1.1.1.2 aJ.1.1.1.1.1.2 aJ.1.1.1.1.2 aJ.1.1.1.2 aJ.1.1.2 aJ.1.2 aJ.2:= by
 intro hB GK FK Mu Hc hc hx Si Rm X;obtain⟨HD,⟨T⟩⟩:=vZ hc;clear hc;have c3:=HD.c3;have Mr:aJ.1.2.scope.isCoroutine=false:=by exact O Mu c3
 have Rf:Ê (aJ.1.1.1.1.1.2.in1.over (.func aJ.1.1.2 aJ.1.2) []) (aJ.1.1.1.1.1.1.2+8):=TY Rm;refine O (propext tS) (JY ?_);refine O (show execs aJ.1.1.2 aJ.1.2=execs [T.s1,T.s2,.For T.p.tgt (.Call T.g [T.a] [] T.cpos) T.p.body [] T.fpos,.If T.t3 [.Expr (.Yield (some T.y3) T.yp3) T.ep3] [] T.ip3] aJ.1.2 from congrArg (λb=>execs b aJ.1.2) T.eq) (jL (yS (qR (λp=>(aD hB GK FK p).1) (λp=>(aD hB GK FK p).2) (λp=>kS hB GK FK p) 1 (.cst (.int 0)) rfl Rf.z X T.k1 (pe':=[some (.str aJ.2),some (.int 0),none,none]) (fl:=.next) rfl λf bc BY Ia Gl hf=>?_)));cases hf.next_inv;refine jL (yS (qR (λp=>(aD hB GK FK p).1) (λp=>(aD hB GK FK p).2) (λp=>kS hB GK FK p) 2 (.cst (.bool false)) rfl Rf.z (Gl.reset1 rfl rfl Hc λi q h=>FC h) T.k2 (pe':=ĩ aJ.2 0 false none) (fl:=.next) rfl λf Ã Hg Ie Gh hf=>?_));cases hf.next_inv;have e12:=Ia.toL.trans Ie.toL;have La:=Gh.reset1 rfl rfl Hc (mU (λq h=>nn h));clear X Gl Gh;refine cH (j3 T.k4) λgx gpos gg hg q1 q2 zt=>?_;refine xa zt λq3 q4=>?_;clear zt;refine jL (OV (λ_=>rfl) ?_);refine O hg (wpAny_Call_NameR (iW GK La q1 q2 q3 λv hv=>?_));cases CZ q4;cases hv;refine O (cM T.k5) (mv (by rfl) (ig (fi ((aD hB GK FK (.var 0)).1 Rf.z La T.k6 (r:=.str aJ.2) rfl λv iF Gw Sj=>ji ?_))));apply ä Sj.t.inv;intro tx;have Gm:=La.pure Gw;have E3:=e12.trans (Gw.toExt (No:=Ć aJ.1.2.locals) (No':=Ć aJ.1.2.locals) λb q=>.inl q);clear Sj La e12 Gw;refine call_enumerate_str λh' Ww đ Kc Io=>?_;rw[xK Si] at đ;refine wpAny_pyIter_enum Ww λpp=>?_;refine xa (JZ Hc Gm Kc Io) λHe Ext4=>?_;have Oa:aJ.1.2.locals<iF.heap.objs.size:=Gm.base.low _ (.inr rfl);have Sh:=Gm.base.size;have Sk:û ({iF with heap:=h'}:aj) (ÿ aJ.1.2.locals (iF.heap.objs.size+1) iF.heap.objs.size):=
  ⟨He.base.keep,λb q=>He.base.above b (q.elim .inr .inl),He.base.size,λb q=>He.base.low b (q.elim .inr .inl),He.base.toks,He.base.bare⟩
 refine SegX.mono (tS.mp (v3 _ _ _ _ _ Sk (OU (A:=aJ.1.1.1.1.1.2) hB GK FK Mu c3 Hc T.p rfl rfl (fbody:=aJ.1.1.2)
  (Kfr:=_) (lfr:=_) (pfr:=pp) (e:=iF.heap.objs.size+1) (it:=iF.heap.objs.size) (x:=aJ.2) (tx:=tx) (À:=f0 0 false aJ.2.cps.toList) Rm (Nat.succ_ne_self _) (λq=>absurd Oa (ax.mpr (by exact aBD q (jh _)))) (λq=>absurd Oa (ax.mpr (by refine aBD q ?_;exact ai _))) hx
  (gm Sh) Sh (λGo By n Hf esc ch Gx Hx hp Rd Uw hn Hn=>T3 hB GK FK Mr T.k13 T.k14 Rf Gx hp Rd Uw hn Hn) aJ.2.cps.toList 0 _ _ _ 0 false none rfl (iu _) He (λq h=>nn h) (λq=>absurd q (ik _)) (λ_=>rfl) (by refine O (Nat.sub_self ..) ?_;rfl) rfl (Ö.refl _ _) ⟨⟨_,Ww⟩,đ⟩))) λe s' hr=>Ĳ.back hr (λb q=>.inl q) (E3.trans Ext4)
theorem J0:@kW F B A s sc body AT x:=iA (bH (a7 (a7 (a7 @kW)))) (((((((F,B),A),s),sc),body),AT),x) FD
end
end Mine
end
section
open PySem PySem.W PyProof.Rows PySem.W.X
namespace Mine
structure ď (ga:ew) where
 name:Str
 params:Al
 body:List ib
 sc:ja
 pm:ag
 cd:ag
 ņ:ag
 o:Obj
 chk:AC body sc=true
 at_:H0.get? ga=some o
 data:o.data=.func (dw name params body sc pm cd ņ)
 code:H0.CodeRec cd name
 bind:∀v:ag,bindArgs (dw name params body sc pm cd ņ) ⟨[v],[]⟩=dx [(("addr":Str),v)]
section
variable{F:Fn}{B:Nat}
variable{A:dm}{cx:Cx}{asg:List Str}{Á:Env}{s s':aj}{Na No Ng:Ap}{pe:Å}{E:Vs}
theorem Ĥ.locs (h:Ĥ sc) (y:Str):sc.names.lookup y≠some .cell/\sc.names.lookup y≠some .free:= by
 refine⟨λq=>?_,λq=>?_⟩
 ·exact nf (ao.mp h.c5 _ (bI q))
 ·exact nf (ao.mp h.c5 _ (bI q))
theorem T4 (h:lk [some (.str x),none,none,none] i=some q):i=0/\q=.str x:= by
 cases i with
 |zero=>exact⟨rfl,(sm h).symm⟩
 |succ i=>cases i with
  |zero=>exact nn h
  |succ i=>cases i with
   |zero=>exact nn h
   |succ i=>cases i with
    |zero=>exact nn h
    |succ i=>exact nn h
theorem T5 (h:Ĥ sc) (hy:n∈dI sc):sc.names.lookup n=some .local:= by
 obtain⟨⟨n',k⟩,Ux,e⟩:=fj.mp hy;have e:n'=n:=e;subst e;refine xa (qp.mp Ux) λKk Hm=>?_;have Ob:=cS h.c4 Kk;rcases nu.mp Hm with Hm|Hm
 ·exact O Ob (congrArg some (am Hm))
 ·exact absurd (Ob.trans (congrArg some (am Hm))) (h.locs n').1
theorem OW (GK:ċ) (g:ď ga) (Rm:Ê A 1) (Bs:û s N)
  (hQ:∀s' AT,Pure s s'->AT.scope=g.sc->(∀x,AT.kindOf x≠some .cell/\AT.kindOf x≠some .free)->s.heap.objs.size<=AT.locals->AT.locals+1<s'.heap.objs.size+1->AT.locals≠s'.heap.objs.size-1->s.heap.objs.size<=s'.heap.objs.size-1->s'.heap.objs.size-1<s'.heap.objs.size->
   Ä (ï g.sc) (dI g.sc) AT s' (λ_=>False) (Ć AT.locals) [some (.str x),none,none,none]->
   s'.heap.IsGen (s'.heap.objs.size-1) s.gens.size->s'.gens[s.gens.size]?=some (.fresh (.func g.body AT))->Q (.ref (s'.heap.objs.size-1)) s'):
  wpAny (model Pg W0) A (call (.ref ga) [.str x t]) Q E s:= by
 have HD:=(vZ g.chk).1;have Jt:=HD.c1;have c3:=HD.c3;have c2:=HD.c2;have c4:=HD.c4;have Pb:=HD.c6;have Hc:=HD.locs;refine wpAny_call (codeAny_call_generator Rm.lim (Bs.keep _ _ g.at_) g.data c3 c2 rfl (g.code.keeps Bs.keep) ?_);refine O (g.bind ..) ?_;refine cv (bJ (wpAny_newFunctionEnv_cells Jt (λy hy=>.inl (by simp only[cg] at hy;subst hy;exact Pb)) λÁ he bc xx hm=>?_));have Jf:∀y,Á.kindOf y=g.sc.names.lookup y:=λy=>by refine O he ?_;rfl
 have hL:Á.locals=s.heap.objs.size:=by refine O he ?_;rfl
 have hS:Á.scope=g.sc:=by refine O he ?_;rfl
 have hG:Á.globals=mainGlobals:=by refine O he ?_;rfl
 have Uy:Á.builtins=builtinsNs:=by refine O he ?_;rfl
 refine ň xx.toInCall.same λGj tk aT=>?_;subst aT;refine⟨GK.nolimit.keeps λb o e=>xx.toInCall.keep b o (Bs.keep b o e),?_⟩;have Gk:=xx.toInCall.ns;have Ji:s.heap.objs.size<Gj.objs.size:=by refine aBD hL ?_;refine nR Gk λo _ _ e _=>?_;exact da e
 have P:Pure s {s with heap:=Gj,toks:=tk}:=Pure.mk' (λb o e=>xx.toInCall.keep b o e) hm;have e1:(Gj.push {cls:=.type "generator",data:=.fields #[.int s.gens.size 0,.str g.name tk,.str g.name (tk+1)]}).objs.size-1=Gj.objs.size:=by simp[bn]
 have Hm:s.toks<=tk:=hm.2;have dO:Pure s {s with gens:=s.gens.push (.fresh (.func g.body Á)),heap:=Gj.push {cls:=.type "generator",data:=.fields #[.int s.gens.size 0,.str g.name tk,.str g.name (tk+1)]},toks:=tk+1+1}:= by
  refine⟨⟨λb o _ e=>bx _ (xx.toInCall.keep b o e),?_,λ_ q=>q.elim⟩,λi y e=>?_,λq=>q.push rfl,rfl,rfl,?_⟩
  ·show s.heap.objs.size<=(Gj.push _).objs.size;exact O (bn ..) (gm (db Ji))
  ·show(s.gens.push _)[i]?=some y;have:=(ju.mp e).1;refine O (Array.getElem?_push_lt this) ?_
   simpa [this] using e
  ·show s.toks<=tk+1+1;exact Ò (.x .q (.A .ke .n1)) [.x .q .r] Hm
 have hb:=AA (ko:=Á.kindOf) (m:=λ_=>none) (m':=λ_=>none) (pars:=[("addr":Str)]) (vs:=[.str x t]) (j:=0) (x:="addr") (v:=.str x t) rfl rfl rfl;have X:Ä (ï g.sc) (dI g.sc) Á {s with gens:=s.gens.push (.fresh (.func g.body Á)),heap:=Gj.push {cls:=.type "generator",data:=.fields #[.int s.gens.size 0,.str g.name tk,.str g.name (tk+1)]},toks:=tk+1+1} (λ_=>False) (Ć Á.locals) [some (.str x),none,none,none]:={
  base:={(Bs.pure dO) with
   above:=λb q=>q.elim (λq=>q.elim) λq=>by exact O q (O hL Bs.size)
   low:=λb q=>q.elim (λq=>q.elim) λq=>by
    show b<(Gj.push _).objs.size;refine O q (O hL (O (bn ..) ?_));exact im Ji}
  kind:=by exact O hS Jt
  glb:=hG
  blt:=Uy
  gl:=λy hy=>by exact O (Jf ..) hy
  cl:=λy hy=>by rcases hy with hy|hy;exact absurd hy (Hc y).1;exact absurd hy (Hc y).2
  ns:=⟨_,Gk.keeps λ_ _ e=>bx _ e⟩
  noL:=rfl
  apart:=λy z c h1 h2=>name_of_addr xx.apart (bI h1) (bI h2)
  cellsLow:=λy c h=>by
   show c<(Gj.push _).objs.size;exact O (bn ..) (im (xx.cell y c h).lt)
  vars:=λy i p h1 h2=>by
   refine xa (T4 h2) λaT Gq=>?_;subst aT;subst Gq;have hy:y="addr":=kC (l:=OS) (i:=0) rfl h1 rfl;subst hy;refine(jC (.str x t) (.loc _ (by exact O (Jf ..) Pb) (Gk.keeps λ_ _ e=>bx _ e) (hb.1 (by refine O (Jf ..) ?_;exact Pb))) (.str _ _) (λh=>(nomatch h)))
  stores:=λy hy=>.loc (by exact O (Jf ..) (T5 HD hy))
  inj:=λy z i h1 h2=>kC (l:=OS) rfl h1 h2
  alone:=λy z i j a h1 h2 h3 h4 h5=>(nomatch h5)
  disj:=λb _ q=>q
  turns:=λy i a h1 h2=>(nomatch h2)}
 have fin:=hQ _ Á dO hS (λy=>by exact O (Jf ..) (Hc y)) (by refine O hL ?_;exact ai _) ?_ ?_ ?_ ?_ X ?_ ?_
 ·rw[e1] at fin;exact fin
 ·show Á.locals+1<(Gj.push _).objs.size+1;exact O hL (O (bn ..) (Nat.succ_lt_succ (im Ji)))
 ·show Á.locals≠(Gj.push _).objs.size-1;exact O e1 (O hL (fc Ji))
 ·show s.heap.objs.size<=(Gj.push _).objs.size-1;exact O e1 (db Ji)
 ·show(Gj.push _).objs.size-1<(Gj.push _).objs.size;exact O e1 (O (bn ..) (à (.y .q .kc) []))
 ·show jg.IsGen (Gj.push _) ((Gj.push _).objs.size-1) _;exact O e1 (dH _ _ _ (cj _ rfl) rfl rfl rfl)
 ·show(s.gens.push _)[s.gens.size]?=_;simp
end
end Mine
end
section
open PySem PySem.W PyProof.Rows PySem.W.X
namespace Mine
section
variable{A:dm}{E:Vs}{s:aj}
def Woke (A:dm) (gs:El) (s:aj) (P:End->aj->Prop):Prop:=
 (∃c,gs=.fresh c/\SegX (model Pg W0) A c ((model Pg W0).den c) [] s P)\/(∃k l c p fs cl,gs=.suspended k l c p fs cl/\SegX (model Pg W0) A c (k (.send .none)) fs s P)
def ſ (P:End->aj->Prop) (Q:Option ag->aj->Prop) (g:Nat):Prop:=
 (∀v gl l k c p fs bc,P (.susp v gl l k c p fs) bc->(zp v gl l k c p fs).quiet=true->Q (some v) (bc.setGen g (zp v gl l k c p fs).genState))/\
 (∀r bc,P (.ret r) bc->r=.ok (.ret .none)/\∀h',(∀b o,bc.heap.get? b=some o->h'.get? b=some o)->Q none {bc.setGen g .finished with heap:=h'})
def k_N{a:ew}{g:Nat}{P:End->aj->Prop}{Q:Option ag->aj->Prop} :Prop:=∀{gs:El}(hh:A.handled=none) (hl:s.heap.NoLimit) (Oc:A.depth<recursionLimit) (hg:s.heap.IsGen a g) (Ml:s.gens[g]?=some gs) (Tp:Woke A.in1 gs (s.setGen g .running) P) (hN:ſ P Q g),wpAny (model Pg W0) A (pyNext (.ref a)) Q E s
def AG:=@gX _ ⟨(((((({},ac),{}),ac),ac),ac),ac)⟩ (bH (a7 (a7 @k_N)))
def ψ:=AG.1.1.1.1.1.1
theorem C0:@k_N ψ AG.1.1.1.1.1.2 AG.1.1.1.1.2 AG.1.1.1.2 AG.1.1.2 AG.1.2 AG.2:= by
 intro gs hh hl Oc hg Ml Tp hN;unfold pyNext;refine bj (wpAny_attempt (wpAny_callSpecial?_slot (name:=Str.ofString "__next__") hg.typeIs slot_gen_next
  (wpAny_call_entry slot_gen_next hg.typeIs entry_gen_next ?_ (args_gen_next _))))
 show wpAny _ ψ.in1 (sh (.ref AG.1.1.1.2) (.send .none)) _ _ AG.1.1.1.1.2;unfold sh;refine bj (wpAny_holding (wpAny_genNumber hg (bj (wpAny_genState Ml ?_))));rcases Tp with⟨c,rfl,hx⟩|⟨k,l,c,p,fs,cl,rfl,hx⟩
 all_goals
  refine bj (wpAny_roomToWake hl Oc ?_);refine λΓ p' ĸ=>wake_any _ Pg W0 Ml (by first|exact .inl (d9 rfl rfl rfl rfl)|exact .inr (fX _ _ _ (Õ _ rfl rfl))) (λΓ=>Γ.In ψ.in1) (λ_ h=>h) (c₀:=c) (λΓ p hc ĸ=>?_) Γ p' ĸ;refine fR (hx Γ p hc ĸ) λe bc hr hq hp=>?_;refine⟨e,bc,hr,hq,λΓ p ĸ=>?_⟩;cases e with
  |ret r=>
   apply xr (hN.2 r bc hp);intro Ln;refine(?_:wpAny (model Pg W0) ψ.in1 (newExc (.type "StopIteration") [] >>= _) _ _ _) Γ p ĸ;refine bj ?_
   dsimp only[newExc,newTuple]
   refine bj (wpAny_newObj_type ?_ (by size_fits));refine bj (m:=firstArgMember _ _) (wpAny_of_eq (a:=Cj) (by first|rfl|(dsimp only[firstArgMember];rfl)) ?_);refine wpAny_newObj_type ?_ (by size_fits)
   delta raiseNew;dsimp only
   refine bj (bj (wpAny_handled ?_))
   first|refine O (show ψ.in1.handled=none from hh) ?_|rw[hh]
   refine wpAny_throw ?_;refine bj (wpAny_isInstance (T:="StopIteration") (b:=true) ⟨_,cj _ rfl,rfl⟩ isSubtype_stop ?_);exact cv (Ln _ λb o hb=>bx _ (bx _ hb))
  |susp v gl l k c p' fs=>
   have:=hN.1 v gl l k c p' fs bc hp hq;exact(cv ⟨v,rfl,cv this⟩:wpAny (model Pg W0) ψ.in1 (dx _) _ _ _) Γ p ĸ
theorem FE:@k_N A E s a g P Q:=iA (bH (a7 (a7 @k_N))) ((((((A,E),s),a),g),P),Q) C0
end
section
variable{F:Fn}{B:Nat}
variable{A:dm}{cx:Cx}{asg:List Str}{Á:Env}{s s':aj}{Na No Ng:Ap}{pe:Å}{E:Vs}
theorem jH (h:od s.gens) (hg:gs.bare=true):od (s.setGen g gs).gens:= by
 intro y hy;unfold th at hy;simp only at hy;rcases Array.mem_or_eq_of_mem_setIfInBounds hy with h1|rfl
 ·exact h y h1
 ·exact hg
theorem mV (Gv:i≠g) (h:s.gens[i]?=some y):(s.setGen g gs).gens[i]?=some y:= by
 unfold th;simp only;exact O (Array.getElem?_setIfInBounds_ne (sk Gv)) h
theorem Later.trans' (h1:∀b o,Ng b->s.heap.get? b=some o->s'.heap.get? b=some o) (hg:s.heap.objs.size<=s'.heap.objs.size) (h:Later Ng s' Hu):Later Ng s Hu:=
 ⟨λb o hb e=>h.own b o hb (h1 b o hb e),h.keep,aa hg h.grow,h.toks,h.bare⟩
def ž (Na Ng:Ap) (I:ew):Ap:=λb=>Na b\/Ng b\/b=I
structure é (A:dm) (cx:Cx) (asg:List Str) (Á:Env) (À:List PV) (s:aj) (Na No:Ap) (I:ew) (gi:Nat) (k:Nat) (pe:Å) (Ng BY:Ap) (s':aj):Prop where
 ext:Ö s No s' BY
 env_:Ä cx asg Á s' (ž Na Ng I) BY pe
 gen:s'.heap.IsGen I gi
 high:∀b,Ng b->s.heap.objs.size<=b
 apart:¬Ng I
 run:∃gs,s'.gens[gi]?=some gs/\∀Hu,Later Ng s' Hu->Woke A.in1 gs Hu (Ĳ A.in1 À (À.length-k) Ng Hu)
structure Woken (s' iF s₄:aj) (Ng Ne Ng':Ap) (gi:Nat):Prop where
 sub:∀b,Ng b->Ng' b
 new:∀b,Ng' b->Ng b\/s'.heap.objs.size<=b
 e:Ö (s'.setGen gi .running) Ng iF Ne
 low:Ė Ng' s₄.heap
 keep:∀b o,iF.heap.get? b=some o->s₄.heap.get? b=some o
 grow:s'.heap.objs.size<=s₄.heap.objs.size
 toks:s₄.toks=iF.toks
 bare:od s₄.gens
 os:s₄.os=iF.os
 drawn:s₄.drawn=iF.drawn
 gens:∀i y,i≠gi->iF.gens[i]?=some y->s₄.gens[i]?=some y
theorem v5{À:List PV}{I:ew}{gi k:Nat}{BY Ne Ng':Ap}(Ju:Ä cx asg Á s Na No pe){Do:Å}(Od:s.gens.size<=gi) (V:é A cx asg Á À s Na No I gi k Do Ng BY s'){iF s₄:aj}(W:Woken s' iF s₄ Ng Ne Ng' gi):
  Ö s No s₄ BY/\Ä cx asg Á s₄ (ž Na Ng' I) BY Do/\s₄.heap.IsGen I gi:= by
 have X:=V.env_;have Tq:=W.grow;have htk:s'.toks<=s₄.toks:=by exact O W.toks (show(s'.setGen gi .running).toks<=iF.toks from Ö.toks W.e)
 refine(Ý ⟨⟨λb o hn e=>?_,aa V.ext.step.grow Tq,V.ext.step.new⟩,λi y e=>?_,λ_=>W.bare,?_,?_,aa (Ö.toks V.ext) htk⟩ ?_ ?_)
 ·exact W.keep b o (W.e.step.keep b o (λq=>absurd (da e) (ax.mpr (V.high b q))) (V.ext.step.keep b o hn e))
 ·have Gv:i≠gi:=λq=>absurd (ju.mp e).1 (ax.mpr (q▸Od));exact W.gens i y Gv (W.e.gens i y (mV Gv (V.ext.gens i y e)))
 ·exact O W.os (O W.e.os V.ext.os)
 ·exact O W.drawn (O W.e.drawn V.ext.drawn)
 ·refine X.pokes (Z:=Ng) (λb q=>.inr (.inl q)) (λy c h q=>absurd (Ju.cellsLow y c h) (ax.mpr (V.high c q))) (λb q=>q.imp id λq=>q.imp (W.sub b) id) (λb q=>?_) (λb q=>?_) (λb o hn e=>W.keep b o (W.e.step.keep b o hn e)) Tq htk (λ_=>W.bare)
  ·rcases q with q|q|q
   ·exact .inl (.inl q)
   ·exact(W.new b q).imp (λq=>.inr (.inl q)) id
   ·exact .inl (.inr (.inr q))
  ·rcases q with q|q|q
   ·exact ae (X.base.low b (.inl (.inl q))) Tq
   ·exact W.low b q
   ·exact ae (X.base.low b (.inl (.inr (.inr q)))) Tq
 ·refine nR V.gen λo nm qn e r=>?_;exact(jE o nm qn (W.keep I o (W.e.step.keep I o V.apart e)) r)
theorem yT (h:s.gens[g]?=some y):(s.setGen g gs).gens[g]?=some gs:= by
 unfold th;have:=(ju.mp h).1;simp[this]
theorem C1 (h:Ĳ A À 0 Ng Ã e iF):∃Ng',(∀b,Ng b->Ng' b)/\Ö Ã Ng iF Ng'/\Ė Ng' iF.heap/\e=.ret (.ok (.ret .none)):=h
theorem HK{a k:Nat}(h:a-k≠0):∃m,a-k=m+1/\k<a/\a-(m+1)=k/\a-(k+1)=m:= by
 have h1:=Nat.lt_of_sub_ne_zero h;have e:a-k-1+1=a-k:=af (sw h1);exact⟨a-k-1,e.symm,h1,by exact O e (Nat.sub_sub_self (db h1)),(Nat.sub_sub a k 1).symm⟩
theorem J1{À:List PV}{I:ew}{gi k:Nat}{BY:Ap}{Q:Option ag->aj->Prop}(Ju:Ä cx asg Á s Na No pe){Do:Å}(Od:s.gens.size<=gi) (V:é A cx asg Á À s Na No I gi k Do Ng BY s'){v:ag}{gl:Bool}{l:List ag}{kk:Resume->Sem Fin}{c:Fg}{p:Pos}{fs:List Cf}{iF:aj}
  (hp:Ĳ A.in1 À (À.length-k) Ng (s'.setGen gi .running) (.susp v gl l kk c p fs) iF) (hq:(zp v gl l kk c p fs).quiet=true)
  (Mm:k<À.length->∀v q Ã Ng',À[k]?=some q->(∀b,Ng b->Ng' b)->RV Ã.heap (λb=>ž Na Ng' I b\/BY b) v q->é A cx asg Á À s Na No I gi (k+1) Do Ng' BY Ã->Q (some v) Ã):
  Q (some v) (iF.setGen gi (zp v gl l kk c p fs).genState):= by
 by_cases h0:À.length-k=0
 ·rw[h0] at hp;refine cW (C1 hp) λ_ _ _ _ h=>?_;cases h
 ·refine cW (HK h0) λm hm Gu Ts Hm=>?_;rw[hm] at hp;obtain⟨Ng',Kl,he,Iz,v',gl',l',k',c',p',Li,Nf,Mt,⟨q,Wx,T,vs,tl,hv,rfl,Zd,Wv,Ze,Zf⟩,Sl⟩:=hp;cases Nf;subst hv;rw[Ts] at Wx;have X:=V.env_;refine É V.run λgs Ml _=>?_;have Uz:od (s'.setGen gi .running).gens:=jH X.base.bare rfl;have a:=v5 Ju Od V (s₄:=iF.setGen gi (zp (Ae T) gl l kk c p fs).genState) ⟨Kl,he.step.new,he,Iz,λ_ _ e=>e,he.step.grow,rfl,jH (he.bare Uz) (End.bare_of_quiet hq),rfl,rfl,λi y Gv e=>mV Gv e⟩;have nlow:∀{b},b<s'.heap.objs.size->b≠T:=λhb e=>absurd hb (ax.mpr (e▸Wv));refine Mm Gu _ _ _ Ng' Wx Kl (.tup (λq=>?_) Ze (Zf _ _)) ⟨a.1,a.2.1,a.2.2,λb q=>(he.step.new b q).elim (V.high b) λq=>aa V.ext.step.grow q,λq=>(he.step.new I q).elim V.apart λq=>absurd (X.base.low I (.inl (.inr (.inr rfl)))) (ax.mpr q),?_⟩
  ·rcases q with(q|q|q)|q
   ·exact nlow (X.base.low T (.inl (.inl q))) rfl
   ·exact Zd q
   ·exact nlow (X.base.low T (.inl (.inr (.inr q)))) rfl
   ·exact nlow (X.base.low T (.inr q)) rfl
  ·refine(Õ _ (yT (he.gens gi _ (yT Ml))) (λHu Pd=>.inr (fX kk l c (jE p fs _ rfl ?_))));exact O Hm (tS.mp (Sl Hu ⟨Pd.own,Pd.keep,Pd.grow,Pd.toks,Pd.bare⟩))
theorem OX{À:List PV}{I:ew}{gi k:Nat}{BY:Ap}{Q:Option ag->aj->Prop}(Ju:Ä cx asg Á s Na No pe){Do:Å}(Od:s.gens.size<=gi) (hk:k<=À.length) (V:é A cx asg Á À s Na No I gi k Do Ng BY s'){r:yl}{iF:aj}
  (hp:Ĳ A.in1 À (À.length-k) Ng (s'.setGen gi .running) (.ret r) iF) (Mn:k=À.length->∀Ã,Ö s No Ã BY->Ä cx asg Á Ã Na BY Do->Q none Ã):
  r=.ok (.ret .none)/\∀h',(∀b o,iF.heap.get? b=some o->h'.get? b=some o)->s'.heap.objs.size<=h'.objs.size->Q none {iF.setGen gi .finished with heap:=h'}:= by
 by_cases h0:À.length-k=0
 ·rw[h0] at hp;refine cW (C1 hp) λNg' Kl he Iz h=>?_;cases h;refine⟨rfl,λh' Io hg=>?_⟩;have Uz:od (s'.setGen gi .running).gens:=jH V.env_.base.bare rfl;have a:=v5 Ju Od V (s₄:={iF.setGen gi .finished with heap:=h'}) (Ng':=Ng) ⟨λ_ q=>q,λ_ q=>.inl q,he,λb q=>ae (V.env_.base.low b (.inl (.inr (.inl q)))) hg,Io,hg,rfl,jH (he.bare Uz) rfl,rfl,rfl,λi y Gv e=>mV Gv e⟩;exact Mn (bf hk (Nat.le_of_sub_eq_zero h0)) _ a.1 (a.2.1.narrow λb q=>.inl q)
 ·refine É (HK h0) λm hm _=>?_;rw[hm] at hp;refine cW hp λNg' Kl he Iz zt=>?_;refine fZ zt λv' gl' l' k' zt=>?_;refine nR zt λc' p' Li Nf _=>?_;clear zt;clear hp;cases Nf
theorem OY (GK:ċ){À:List PV}{I:ew}{gi k:Nat}{BY:Ap}{Q:Option ag->aj->Prop}(R:Ê A 3) (Ju:Ä cx asg Á s Na No pe){Do:Å}(Od:s.gens.size<=gi) (hk:k<=À.length)
  (V:é A cx asg Á À s Na No I gi k Do Ng BY s')
  (Mn:k=À.length->∀Ã,Ö s No Ã BY->Ä cx asg Á Ã Na BY Do->Q none Ã)
  (Mm:k<À.length->∀v q Ã Ng',À[k]?=some q->(∀b,Ng b->Ng' b)->RV Ã.heap (λb=>ž Na Ng' I b\/BY b) v q->é A cx asg Á À s Na No I gi (k+1) Do Ng' BY Ã->Q (some v) Ã):
  wpAny (model Pg W0) A (pyNext (.ref I)) Q E s':= by
 refine É V.run λgs Ml Pe=>?_;have X:=V.env_;refine bJ (FE R.hh (GK.nolimit.keeps X.base.keep) R.lim V.gen Ml (Pe _ ⟨λ_ _ _ e=>e,X.base.keep,ai _,X.base.toks,jH X.base.bare rfl⟩) ⟨λv gl l kk c p fs iF hp hq _=>J1 Ju Od V hp hq Mm,λr iF hp=>?_⟩);have h:=OX Ju Od hk V hp Mn;exact⟨h.1,λh' Io hm=>h.2 h' Io hm.1⟩
theorem FF (h:EM g=true):g=.gen:=by cases g<;>first|exact nf h|rfl
theorem AH (h:f6 p=some À):∃x,p=.str x/\(x.length<=10000/\x.cps.all (·<128)=true)/\f0 0 false x.cps.toList=À:= by
 cases p<;>try (exact nn h)
 exact(jC _ rfl ((aZ h).1) (sm (aZ h).2))
theorem J2 (P:Pure s bc):s.gens.size<=bc.gens.size:= by
 rcases ym s.gens.size with h0|hp
 ·exact O h0 (iu _)
 ·have h1:s.gens[s.gens.size-1]?=some s.gens[s.gens.size-1]:=Array.getElem?_eq_getElem (Cb hp si);have:=(ju.mp (P.gens _ _ h1)).1;exact æ (.x .q .r) [.y .s .r,.z1 .q .kL] this (af (ã [_] (.x .n1 .q) [.y .n0 .q] hp)).symm
theorem é.step (V:é A cx asg Á À s Na No I gi k Do Ng BY s') (e:Ö s' BY Ã Hg) (X:Ä cx asg Á Ã (ž Na Ng I) Hg Gz):é A cx asg Á À s Na No I gi k Gz Ng Hg Ã:= by
 refine⟨V.ext.trans e,X,?_,V.high,V.apart,?_⟩
 ·refine nR V.gen λoI nm qn hoI r=>?_;exact(jE oI nm qn (e.step.keep _ _ (λq=>V.env_.disj _ q (.inr (.inr rfl))) hoI) r)
 ·refine É V.run λgs Ml Pe=>?_;exact(Õ gs (e.gens _ _ Ml) (λHu hL=>Pe Hu (Later.trans' (λb o hb ho=>e.step.keep b o (λq=>V.env_.disj b q (.inr (.inl hb))) ho) e.step.grow hL)))
theorem OZ{À:List PV}{I:ew}{gi k n:Nat}{BY:Ap}{Do pe':Å}{fl:Fl}{ts:List Nat}{body:ě}{tgt:ar}{bs:List ib}{v:ag}{q:PV}{Q:Cd->aj->Prop}{J:Nat->aj->Prop}(hh:A.handled=none) (ha:è F B body) (htop:cx.top=true) (R2:Ê A (ĥ body+B))
  (h1:qQ cx asg tgt ts=true) (h5:iG cx asg bs body=true) (hq:À[k]?=some q) (Lz:RV s'.heap (λb=>ž Na Ng I b\/BY b) v q) (V:é A cx asg Á À s Na No I gi (k+1) Do Ng BY s') (hf:eR (aF F body) ts (À.drop k) Do=some (pe',fl))
  (hQ:∀f s' No',Ö s No s' No'->Ä cx asg Á s' (ž Na Ng I) No' pe'->ĵ s'.heap (ž Na Ng I) fl f->Q f s')
  (hJ:∀Ã Hg Gz,é A cx asg Á À s Na No I gi (k+1) Gz Ng Hg Ã->eR (aF F body) ts (À.drop (k+1)) Gz=some (pe',fl)->∃m,m<n/\J m Ã):
  wpAny (model Pg W0) A (letOwnedTupleGo tgt (.ref I) v) (λ_ Hw=>wpAny (model Pg W0) A (assign tgt Á v) (λ_ Ã=>wpAny (model Pg W0) A (execs bs Á) (λf iF=>match f with
   |.next|.cont=>∃m,m<n/\J m iF
   |.brk=>Q .next iF
   |.ret v=>Q (.ret v) iF) E Ã) E Hw) E s':= by
 rw[r8 hq] at hf;refine pL (yL hf) λHt Gi f2 hb d2 h=>?_;refine pL V.gen λoI nm qn hoI hcI _=>?_;refine sX hoI hcI (by decide) (vT hh V.env_ h1 Lz hb λGo Jr Gx=>?_);have Pf:=V.step Jr Gx;rcases h with⟨rfl,h⟩|⟨rfl,rfl,rfl⟩|⟨v,rfl,rfl,rfl⟩
 ·refine ha htop R2 Gx h5 d2 λf Hb Jb Hy Hz hf=>?_;cases hf.next_inv;exact hJ Hb Jb Gi (Pf.step Hy Hz) h
 ·refine ha htop R2 Gx h5 d2 λf Hb Jb Hy Hz hf=>?_;cases hf.brk_inv;exact hQ _ _ Jb (Pf.step Hy Hz).ext Hz .next
 ·refine ha htop R2 Gx h5 d2 λf Hb Jb Hy Hz hf=>?_;apply Ő hf.ret_inv;intro v hr;exact hQ _ _ Jb (Pf.step Hy Hz).ext Hz (.ret hr)
theorem O0 (GK:ċ){À:List PV}{I:ew}{gi:Nat}{pe':Å}{fl:Fl}{ts:List Nat}{body:ě}{tgt:ar}{bs:List ib}{RR:yl->aj->Prop}(R:Ê A 3) (X:Ä cx asg Á s Na No pe) (Zg:s.gens.size<=gi) (ha:è F B body) (htop:cx.top=true) (R2:Ê A (ĥ body+B))
  (h1:qQ cx asg tgt ts=true) (h5:iG cx asg bs body=true) (V:é A cx asg Á À s Na No I gi 0 pe Ng No s') (hf:eR (aF F body) ts À pe=some (pe',fl))
  (hQ:∀f s' No',Ö s No s' No'->Ä cx asg Á s' Na No' pe'->ĵ s'.heap Na fl f->RR (.ok f) s'):codeAny (model Pg W0) A (.forLoop tgt (.ref I) bs [] Á) RR s':= by
 refine vU (λn s'=>∃k Do Ng BY,k<=À.length/\n=À.length-k/\é A cx asg Á À s Na No I gi k Do Ng BY s'/\eR (aF F body) ts (À.drop k) Do=some (pe',fl)) ?_ À.length (i6 0 pe Ng No (iu _) rfl ⟨V,hf⟩);clear V hf
 rintro n s' ⟨k,Do,Ng,BY,hk,rfl,V,hf⟩ E'
 refine OY GK R X Zg hk V (λZh Ã he X'=>?_) (λGu v q s₄ Ng' hq Kl Lz V'=>?_)
 ·subst Zh;rw[ua] at hf;refine xa (cY hf) λaT Gq=>?_;subst aT;subst Gq;exact hQ _ _ BY he X' .next
 ·exact OZ (Q:=λf s=>RR (.ok f) s) R.hh ha htop R2 h1 h5 hq Lz V' hf (λf s' No' e X' hf=>hQ f s' No' e (X'.narrow λb q=>.inl q) (hf.narrow λb q=>.inl q)) λÃ Hg Gz Va hf=>(Õ (À.length-(k+1)) (nx Gu (di k)) (i6 (k+1) Gz Ng' Hg Gu rfl ⟨Va,hf⟩))
set_option maxHeartbeats 1600000 in
theorem O1 (hB:3<=B) (GK:ċ) (FK:ù F B) (g:ď (fA 1000)) (ha:è F B body):ì F B (.esc ts e body):= by
 intro A cx asg Á s Na No pe pe' fl Jh Q E htop R X hc hd hQ;have R':Ê A (max (nd e) (ĥ body)+B):=R.le (bo (iy _ 12) _);have R3:Ê A (B+10):=R.le (by show B+10<=max (nd e) (ĥ body)+12+B;exact Ò (.x (.A .q (.N 10)) (.A (.A .r (.N 12)) .q)) []);refine fZ (TK hc) λtgt g' a cpos zt=>?_;apply j6 zt;intro bs pos h1 h2 zt;refine Ą zt λh3 h4 h5=>?_;clear zt;refine fR (TS hd) λp À d1 đ hf=>?_;obtain⟨x,rfl,hx,rfl⟩:=AH đ;clear hc hd đ;apply hO (j3 h2);intro gx gpos gg q1 q2 q3 q4;refine wpAny_For (wpAny_Call_NameR (iW GK X q1 q2 q3 λv hv=>?_)) (λ_=>rfl);cases FF q4;apply xr hv;intro zt;refine lE zt λo fd hg Ub=>?_;clear zt;clear hv;refine O (cM h3) (ty (o:=o) (fd:=fd) (ig (fi ((aD hB GK FK e).1 R'.n1 X h4 d1 λv bc bY Gf=>ji ⟨⟨bY.keep _ _ (X.base.keep _ _ hg),Ub⟩,?_⟩))));apply ä Gf.t.inv;intro tx;refine OW GK g (R3.le (aa (by decide) (jl 10 B))) (X.pure bY).base λÃ AT dO Ml Wy Zi Pd Zj Nc Mc Xg Sm Kw=>?_;refine wpAny_pyIter_gen Sm ?_;generalize Ã.heap.objs.size-1=I at*;have P12:=bY.trans dO;have Wz:s.heap.objs.size<=AT.locals:=aa bY.step.grow Zi;have hsI:s.heap.objs.size<=I:=aa bY.step.grow Nc;have Gh:Ä cx asg Á Ã (ž Na (Ć AT.locals) I) No pe:= by
  refine X.wideA P12 (λb q=>.inl q) (λb q=>?_) λb q=>?_
  ·rcases q with q|q|q
   ·exact .inl q
   ·exact .inr (by exact O q Wz)
   ·exact .inr (by exact O q hsI)
  ·rcases q with q|q|q
   ·exact ae (X.base.low b (.inl q)) P12.step.grow
   ·exact O q (Nat.lt_of_succ_lt_succ Pd)
   ·exact O q Mc
 refine O0 GK (R3.le (aa (by decide) (jl 10 B))) X (J2 bY) ha htop R'.n2 h1 h5 (Ng:=Ć AT.locals) ⟨Pure.toExt P12 λb q=>.inl q,Gh,Sm,λb q=>by exact O q Wz,λq=>Zj q.symm,_,Kw,λHu hL=>.inl ⟨_,rfl,?_⟩⟩ hf hQ;have Xg':=Xg.again (Ng:=Ć AT.locals) (Na':=λ_=>False) (No':=Ć AT.locals) (λi q h=>FB h) rfl rfl Wy hL rfl
  (λb q=>q.elim (λq=>q.elim) λq=>⟨by exact O q (Xg.base.above _ (.inr rfl)),by refine O q ?_;exact ae (Xg.base.low _ (.inr rfl)) hL.grow⟩) rfl (λb _ q=>q)
 exact tS.mp (J0 (A:=A) hB GK FK Ml Wy g.chk hx.1 hx.2 R3 Xg')
end
end Mine
end
section
set_option tactic.hygienic true
open PySem PySem.W PyProof.Rows
namespace Mine
section
variable{F:Fn}{B:Nat}
mutual
theorem T6 (hB:3<=B) (GK:ċ) (FK:ù F B) (g:ď (fA 1000)):∀p:PS,ì F B p
 |.asg i e=>qR (λp=>(aD hB GK FK p).1) (λp=>(aD hB GK FK p).2) (λp=>kS hB GK FK p) i e
 |.asgO i e=>JP (λp=>(aD hB GK FK p).1) (λp=>(aD hB GK FK p).2) (λp=>kS hB GK FK p) i e
 |.newD i=>JQ GK i
 |.asgT ts e=>JU (λp=>(aD hB GK FK p).1) ts e
 |.aug i op e=>OE (λp=>(aD hB GK FK p).1) i op e
 |.app i e=>OH (λp=>(aD hB GK FK p).1) i e
 |.pop j i=>OJ j i
 |.setI i k v=>JS (λp=>(aD hB GK FK p).1) i k v
 |.ite t a b=>OL (λp=>(aD hB GK FK p).2) (kD hB GK FK g a) (kD hB GK FK g b)
 |.for ts src body=>OO (λp=>kS hB GK FK p) (kD hB GK FK g body)
 |.esc ts e body=>O1 hB GK FK g (kD hB GK FK g body)
 |.while n t body=>E7 (λp=>(aD hB GK FK p).2) (kD hB GK FK g body)
 |.ret e=>OF (λp=>(aD hB GK FK p).1) e
 |.brk=>OG
theorem kD (hB:3<=B) (GK:ċ) (FK:ù F B) (g:ď (fA 1000)):∀p:ě,è F B p
 |.nil=>JT
 |.cons s ss=>E8 (T6 hB GK FK g s) (kD hB GK FK g ss)
end
theorem O2{F:Fn}(hd:e9 F f ps=some r):ps.length=f.pars.length/\∃pe',aF F f.code (lI ps f.n)=some (pe',.ret r):= by
 have h:=aZ hd;refine⟨h.1,?_⟩;have h2:=h.2;revert h2;cases aF F f.code (lI ps f.n) with
 |none=>exact nn
 |some x=>
  obtain⟨p,fl⟩:=x;cases fl with
  |ret v=>exact λh=>⟨p,congrArg (λv=>some (p,Fl.ret v)) (sm h)⟩
  |_=>exact nn
def k_G{f:Î}{body:List ib}{sc:ja}{a:ew}{o:Obj}{name:Str}{params:Al}{pm cd ņ:ag}{A:dm}{s:aj}{N:Ap}{vs:List ag}{ps:List PV}{r:PV}{Q E:Vs} :Prop:=∀(hB:3<=B) (GK:ċ) (FK:ù F B) (g:ď (fA 1000)) (hc:TU f body sc=true) (ho:H0.get? a=some o) (Oe:o.data=.func (dw name params body sc pm cd ņ)) (Vb:H0.CodeRec cd name) (Of:∀vs:List ag,vs.length=f.pars.length->bindArgs (dw name params body sc pm cd ņ) ⟨vs,[]⟩=dx (f.pars.zip vs)) (R:Ê A (ĥ f.code+B+1)) (Bs:û s N) (rs:Í s.heap N vs ps) (hd:e9 F f ps=some r) (hQ:∀v s',Pure s s'->RV s'.heap N v r->Q v s'),wpAny (model Pg W0) A (call (.ref a) vs) Q E s
def iQ:=@gX _ ⟨((((((((((((((((((ac,⟨[],0,[],[],[],.nil⟩),ac),ac),ac),ac),ac),ac),ac),ac),ac),{}),{}),ac),ac),ac),.none),ac),ac)⟩ (bH (bH (bH (bH (a7 (a7 (a7 @k_G)))))))
def ĝ:=iQ.1.1.1.1.1.1.1.1.1.1.1.1.1.1.1.1.1.2
def iX:=iQ.1.1.1.1.1.1.1.1.1.1.1.1.1.1.1.1.2
def f8:=iQ.1.1.1.1.1.1.1.1.1.1.1.1.1.1.1.2
def a_G:=iQ.1.1.1.1.1.1.1.1.1.1.1.1.1.1.2
def Ţ:=iQ.1.1.1.1.1.1.1.1.1.1.1.1.1.2
def iY:=iQ.1.1.1.1.1.1.1.1.1.1.1.1.2
def eI:=iQ.1.1.1.1.1.1.1.1.1.1.1.2
def sB:=iQ.1.1.1.1.1.1.1.1.1.1.2
def sC:=iQ.1.1.1.1.1.1.1.1.1.2
def lX:=iQ.1.1.1.1.1.1.1.1.2
def ń:=iQ.1.1.1.1.1.1.2
def T7:=iQ.1.1.1.1.2
theorem FG:@k_G iQ.1.1.1.1.1.1.1.1.1.1.1.1.1.1.1.1.1.1.1 iQ.1.1.1.1.1.1.1.1.1.1.1.1.1.1.1.1.1.1.2 ĝ iX f8 a_G Ţ iY eI sB sC lX iQ.1.1.1.1.1.1.1.2 ń iQ.1.1.1.1.1.2 T7 iQ.1.1.1.2 iQ.1.1.2 iQ.1.2 iQ.2:= by
 intro hB GK FK g hc ho Oe Vb Of R Bs rs hd hQ;obtain⟨hlen,pe',Vc⟩:=O2 hd;simp only[TU,be,ds] at hc;obtain⟨⟨⟨⟨⟨⟨⟨⟨⟨c1,c2⟩,c3⟩,c4⟩,c5⟩,c6⟩,c7⟩,c8⟩,c9⟩,c10⟩:=hc;have Jt:f8.kind=.function:=am c1;have Zk:T7.length=ĝ.pars.length:=by exact O rs.length (O hlen rfl)
 have hz:∀x∈ĝ.pars.zip T7,f8.names.lookup x.1=some .local\/f8.names.lookup x.1=some .cell:= by
  intro x hx;refine xe (List.mem_iff_getElem?.mp (Bo hx).1) λj hj=>?_;exact(oU c9 hj).2.2.2
 have Tt:∀y,f8.names.lookup y=some .cell->∃c,(cellsFrom (ń.heap.objs.size+1) f8.names []).lookup y=some c/\ń.heap.objs.size+1<=c:= by
  intro y hy;have:=kA (h:=ń.heap.push {cls:=.type "dict",data:=.dict #[]}) (acc:=[]) c4 (bI hy);rw[bn] at this;refine nQ this λc q1 q2 _=>?_;exact(Õ c q1 q2)
 refine wpAny_call (codeAny_call_function R.lim (Bs.keep _ _ ho) Oe c3 c2 rfl (Vb.keeps Bs.keep) ?_);refine O (Of T7 Zk) ?_;refine cv (bJ (wpAny_newFunctionEnv_cells Jt (λx hx=>(hz x hx).imp id λq=>⟨q,by refine É (Tt _ q) λc q1 _=>?_;show(Av x.1 (cellsFrom _ f8.names [])).isSome=true;refine O q1 ?_;rfl⟩) λÁ he bc x hm=>?_));subst he;refine⟨GK.nolimit.keeps λb Ţ e=>x.toInCall.keep b Ţ (Bs.keep b Ţ e),codeAny_func ?_⟩;refine ň x.toInCall.same λGj tk aT=>?_;subst aT;have Mo:(newEnv (dw iY eI iX f8 sB sC lX).scope ń.heap.objs.size (dw iY eI iX f8 sB sC lX).globals (cellsFrom (ń.heap.objs.size+1) (dw iY eI iX f8 sB sC lX).scope.names [])
   ((dw iY eI iX f8 sB sC lX).qualname++".<locals>.") (some a_G) (dw iY eI iX f8 sB sC lX).code none (dw iY eI iX f8 sB sC lX).builtins).kindOf=λy=>f8.names.lookup y:=rfl
 generalize Mp:(newEnv (dw iY eI iX f8 sB sC lX).scope ń.heap.objs.size (dw iY eI iX f8 sB sC lX).globals (cellsFrom (ń.heap.objs.size+1) (dw iY eI iX f8 sB sC lX).scope.names [])
   ((dw iY eI iX f8 sB sC lX).qualname++".<locals>.") (some a_G) (dw iY eI iX f8 sB sC lX).code none (dw iY eI iX f8 sB sC lX).builtins)=Á at*
 have hL:Á.locals=ń.heap.objs.size:=by refine aBD Mp ?_;rfl
 have hC:Á.cells=cellsFrom (ń.heap.objs.size+1) f8.names []:=by refine aBD Mp ?_;rfl
 have hS:Á.scope=f8:=by refine aBD Mp ?_;rfl
 have hG:Á.globals=mainGlobals:=by refine aBD Mp ?_;rfl
 have Uy:Á.builtins=builtinsNs:=by refine aBD Mp ?_;rfl
 have Jf:∀y,Á.kindOf y=f8.names.lookup y:=λy=>congrFun Mo y;have Gk:=x.toInCall.ns;have Ji:ń.heap.objs.size<Gj.objs.size:=by refine aBD hL ?_;refine nR Gk λŢ _ _ e _=>?_;exact da e
 have P:Pure ń {ń with heap:=Gj,toks:=tk}:=Pure.mk' (λb Ţ e=>x.toInCall.keep b Ţ e) hm;have arg:∀(y:Str) (i:Nat) (p:PV),(ĝ.cx f8).vars.lookup y=some i->lk (lI iQ.1.1.1.2 ĝ.n) i=some p->ĝ.pars[i]?=some y/\iQ.1.1.1.2[i]?=some p/\ĝ.own.contains i=false/\ĝ.tk.contains i=false:= by
  intro y i p h1 h2;have h3:=TV h2;have hi:i<ĝ.pars.length:=by exact aBD hlen ((df.mp h3).1)
  have h4:ĝ.pars[i]?=some ĝ.pars[i]:=by simp[hi]
  refine bE (oU c9 h4) λq1 q2 q3 _=>?_;simp only[lq] at q1 q2 q3;have:y=ĝ.pars[i]:=kC c6 h1 q1;exact(d9 (by exact O this h4) h3 q2 q3)
 have X:Ä (ĝ.cx f8) (dI f8) Á {ń with heap:=Gj,toks:=tk} iQ.1.1.1.1.1.2 (λb=>ń.heap.objs.size<=b/\b<Gj.objs.size) (lI iQ.1.1.1.2 ĝ.n):={
  base:={(Bs.pure P) with
   above:=λb q=>q.elim (Bs.above b) λq=>aa Bs.size q.1
   low:=λb q=>q.elim (λq=>jc (Bs.low b q) Ji) λq=>q.2}
  kind:=by exact O hS Jt
  glb:=hG
  blt:=Uy
  gl:=λy hy=>by exact O (Jf ..) hy
  cl:=λy hy=>by
   have Mv:f8.names.lookup y=some .cell:= by
    rcases hy with hy|hy
    ·exact hy
    ·have:=ao.mp c7 _ (bI hy);simp at this
   refine É (Tt y Mv) λc q1 q2=>?_;exact(GQ (.inl (by exact O (Jf ..) Mv)) c _ (by refine O hC ?_;exact q1) (x.cell y c (by exact O hC q1)))
  ns:=⟨_,Gk⟩
  noL:=by exact O hL ⟨ai _,Ji⟩
  apart:=λy z c h1 h2=>name_of_addr x.apart (bI h1) (bI h2)
  cellsLow:=λy c h=>(x.cell y c h).lt
  vars:=λy i p h1 h2=>by
   refine bE (arg y i p h1 h2) λh3 h4 h5 h6=>?_;refine É (rs.get h4) λv hv rv=>?_;have hb:=AA (ko:=Á.kindOf) (m:=λ_=>none) (m':=λ_=>none) c8 h3 hv;refine(jC v ?_ ?_ (λh=>by rw[show(ĝ.cx f8).tk.contains i=ĝ.tk.contains i from rfl,h6] at h;cases h))
   ·have hk:=(oU c9 h3).2.2.2;rcases hk with hk|hk
    ·exact .loc _ (by exact O (Jf ..) hk) Gk (hb.1 (by refine O (Jf ..) ?_;exact hk))
    ·refine É (Tt y hk) λc q1 q2=>?_;have:=x.cell y c (by exact O hC q1);rw[hb.2 (by refine O (Jf ..) (O hk ?_);decide)] at this;exact .cell c (.inl (by exact O (Jf ..) hk)) (by refine O hC ?_;exact q1) this
   ·exact O (show(ĝ.cx f8).own.contains i=ĝ.own.contains i from rfl) (O h5 (rv.step ⟨λb Ţ _ e=>Pure.keep P b Ţ e,db Ji,λb q=>q.elim .inl λq=>.inr q.1⟩))
  stores:=λy hy=>by
   obtain⟨⟨n,k⟩,Ux,e⟩:=fj.mp hy;simp only at e;subst e;refine xa (qp.mp Ux) λKk Hm=>?_;simp only[ml] at Hm;rcases Hm with Hm|Hm
   ·exact .loc (by exact O (Jf ..) (O (cS c4 Kk) (O (am Hm) rfl)))
   ·have hk:f8.names.lookup n=some .cell:=by exact O (cS c4 Kk) (O (am Hm) rfl)
    refine É (Tt n hk) λc q1 q2=>?_;have Gs:=x.cell n c (by exact O hC q1);exact .cell c _ (by exact O (Jf ..) hk) (by refine O hC ?_;exact q1) ⟨zl q2,Gs.lt⟩ Gs
  inj:=λy z i h1 h2=>kC c6 h1 h2
  alone:=λy z i j b h1 h2 h3 h4 h5 h6 h7 h8=>by
   refine xe (au.mp h3) λp hp=>?_;have:=(arg y i p h1 hp).2.2.1;rw[show(ĝ.cx f8).own.contains i=ĝ.own.contains i from rfl,this] at h5;cases h5
  disj:=λb hb ha=>absurd (Bs.low b ha) (ax.mpr hb.1)
  turns:=λy i b h1 h2 h3 h4=>by
   refine xe (au.mp h3) λp hp=>?_;have:=(arg y i p h1 hp).2.2.1;rw[show(ĝ.cx f8).own.contains i=ĝ.own.contains i from rfl,this] at h2;cases h2}
 have R':Ê (iQ.1.1.1.1.1.1.1.2.deeper Á) (ĥ ĝ.code+iQ.1.1.1.1.1.1.1.1.1.1.1.1.1.1.1.1.1.1.2):=⟨R.hh,by have:=R.depth;show iQ.1.1.1.1.1.1.1.2.depth+1+_<900;exact æ (.y (.A .kc (.A .r .s)) (.N 900)) [.y (.A .q (.A (.A .r .s) .n1)) (.N 900)] this,by have:=R.units;show iQ.1.1.1.1.1.1.1.2.units+3+_<9000;exact æ (.y (.A (.A .q .n3) (.M .n8 (.A .r .s))) (.N 9000)) [.y (.A .q (.M .n8 (.A (.A .r .s) .n1))) (.N 9000)] this⟩;refine kD hB GK FK g ĝ.code rfl R' X c10 Vc λfl s' No' he X' hf=>?_;cases hf with
 |ret hr=>
  have Zl:=P.toExt (No:=λ_=>False) (No':=λb=>ń.heap.objs.size<=b/\b<Gj.objs.size) λb q=>.inr q.1;have Ph:=Zl.trans he;exact hQ _ s' ⟨⟨λb Ţ _ e=>Ph.step.keep b Ţ (λq=>q) e,Ph.step.grow,λ_ q=>q.elim⟩,Ph.gens,Ph.bare,Ph.os,Ph.drawn,Ö.toks Ph⟩ hr
theorem J3:@k_G F B f body sc a o name params pm cd ņ A s N vs ps r Q E:=iA (bH (bH (bH (bH (a7 (a7 (a7 @k_G))))))) (((((((((((((((((((F,B),f),body),sc),a),o),name),params),pm),cd),ņ),A),s),N),vs),ps),r),Q),E) FG
end
end Mine
end
section
open PySem PySem.W PyProof.Rows
namespace Mine
def FT (aP:List Î):Nat->Fn
 |0=>λ_ _=>none
 |n+1=>λf args=>match aP[f]? with
  |some fs=>e9 (FT aP n) fs args
  |none=>none
structure ō (a:ew) (f:Î) where
 name:Str
 params:Al
 body:List ib
 sc:ja
 pm:ag
 cd:ag
 ņ:ag
 o:Obj
 chk:TU f body sc=true
 at_:H0.get? a=some o
 data:o.data=.func (dw name params body sc pm cd ņ)
 code:H0.CodeRec cd name
 bind:∀vs:List ag,vs.length=f.pars.length->bindArgs (dw name params body sc pm cd ņ) ⟨vs,[]⟩=dx (f.pars.zip vs)
section
set_option tactic.hygienic true in
theorem s7{aP:List Î}{mx:Nat}(GK:ċ) (g:ď (fA 1000)) (hr:∀k f,aP[k]?=some f->Nonempty (ō (fA k) f)) (hm:∀f∈aP,ĥ f.code<=mx):
  ∀n:Nat,ù (FT aP n) (3+n*(mx+1))
 |0=>by
  intro f A s N vs ps r Q E R Bs rs hd;cases hd
 |n+1=>by
  intro f A s N vs ps r Q E R Bs rs hd hQ;have hd:(match aP[f]? with|some fs=>e9 (FT aP n) fs ps|none=>none)=some r:=hd;revert hd;cases hf:aP[f]? with
  |none=>exact nn
  |some fs=>
   intro hd;obtain⟨x⟩:=hr f fs hf;have Ir:=hm fs (ii hf);exact J3 (by exact Ò (.x .n3 (.A .n3 (.M .q .ke))) []) GK (s7 GK g hr hm n) g x.chk x.at_ x.data x.code x.bind (R.le (by exact O (Ds ..) (æ (.x (.A (.A .q (.A .n3 (.M .r .kL))) .n1) (.A .n3 (.A (.M .r .kL) .kL))) [.x .q .s] Ir))) Bs rs hd hQ
end
section
open PySem.Float64 (decode Right sgn dist infMag pack)
def È (x:UInt64):Prop:=∃a m e,decode x=.fin a m e
theorem ľ:∀(k q:Nat),q<=2^53->∃t,xm t=q*2^k
 |0,q,h=>⟨_,Dt (k:=0) h (.inr rfl)⟩
 |k+1,q,h=>by
  by_cases h2:2^52<=q
  ·exact⟨_,Dt (k:=k+1) h (.inl h2)⟩
  ·refine xe (ľ k (2*q) (à (.x (.M .n2 .q) .ki) [.Y 2 .q (.P .n2 52)] (Fh.mp h2))) λt ht=>?_;exact⟨t,by refine O ht (O (yx ..) ?_);(refine O (jb 2 q) (O (je ..) ?_);rw[jb 2])⟩
theorem ģ{a b:Rat}(h:0<b):a/b*b=a:=jv (na h)
theorem XE (h:a<=W):dist W a=W-a:=by unfold dist;refine O (mo h) ?_;rfl
theorem XF (h:W<=a):dist W a=a-W:=by unfold dist;exact O (mo h) (O (lq ..) rfl)
theorem XG (d0:dist W c<=dist W a) (d1:dist W c<=dist W (a+b)) (e:a+r=W) (h:r<b):2*dist W c<=b:= by
 subst e;rw[XE (iy a r),uj] at d0;rw[XF (qy (db h) a),Nat.add_sub_add_left] at d1;exact O (Nat.two_mul ..) (aBD (xv (db h)) (wq d0 d1))
theorem lK (h:Right r neg W D) (hD:0<D) (k:Nat) (hk:k<=2040) (hW:W<=D*(2^53*2^k)):
  È r/\∃U:Nat,val r=sgn neg U/\2*dist W (D*U)<=D*2^k/\(∀q,q<=2^53->W=D*(q*2^k)->W=D*U):= by
 apply VL h;intro t ht Sn hn;clear h;have Gu:t<infMag:= by
  rcases nc t infMag with h|h
  ·exact h
  ·exfalso;have:=Sn.mp (bf (ht) (h));have h2:D*((2^54-1)*2^2045)<=D*(2*(2^53*2^k)):= by
    refine aa this ?_;exact O (lr ..) (ny 2 hW)
   have h3:=Nat.le_of_mul_le_mul_left h2 hD;have h4:(2:Nat)^k<=2^2040:=Nat.pow_le_pow_right (by decide) hk;have h5:2*(2^53*2^k)<=2*(2^53*2^2040):=ny 2 (ny _ h4);have h6:=aa h3 h5;exact absurd h6 (by decide +kernel)
 have hn:=hn Gu;refine lE (xw neg Gu) λm e hd hv=>?_;have Vd:val (pack neg t)=sgn neg (xm t):=by exact O (jw hd) (O hv rfl)
 refine(rT (fX _ _ _ hd) _ Vd ⟨?_,?_⟩)
 ·have hp:0<2^k:=gy k;have Zm:0<D*2^k:=Nat.mul_pos hD hp;have e1:=qq W (D*2^k);have e2:=rr W Zm;generalize hq:W/(D*2^k)=q at e1;have So:q<=2^53:= by
   refine aBD hq (Nat.div_le_of_le_mul ?_);refine aa hW (cf ?_);simp only[je,jb,lr]
  refine xe (ľ k q So) λt0 Sp=>?_;have d0:=(hn t0).1;rw[Sp] at d0;have e3:D*(q*2^k)=D*2^k*q:=by simp only[je,jb,lr]
  rw[e3] at d0;rcases nc q (2^53) with Ve|Ve
  ·refine xe (ľ k (q+1) Ve) λt1 Zn=>?_;have d1:=(hn t1).1;rw[Zn] at d1;have e4:D*((q+1)*2^k)=D*2^k*q+D*2^k:=by exact O (Nat.add_mul ..) (O (wu ..) (O (Ev ..) (O e3 rfl)))
   rw[e4] at d1;exact XG d0 d1 e1 e2
  ·have:q=2^53:=by exact bf (So) (Ve)
   have Zo:W<=D*2^k*q:= by
    refine aa hW (cf ?_);refine O this ?_;simp only[je,jb,lr]
   generalize D*2^k*q=a at*;generalize D*2^k=b at*;generalize D*xm t=c at*;unfold dist at*;exact ã [_,_,_,_,_,_,_] (.x (.M .n2 .ko) .s) [.X 2 .ko (.A .t .u),.Z 2 (.A .t .v) .w,.Z 2 (.A .u .w) .v] d0 (af (ã [_,_,_] (.x .q .r) [.z1 (.A .q .s) .r] e1)) (af (ã [_,_] (.x .q .r) [.x .q .r] Zo))
 ·intro q hq Zp;refine xe (ľ k q hq) λt0 Sp=>?_;have d0:=(hn t0).1;rw[Sp,<-Zp] at d0;unfold dist at d0;exact bf (Ι (.x .q (.M .r .s)) [.x (.A .t .u) (.A .v .v),.x .q (.A .t (.M .r .s)),.Z 2 (.A .v .q) .q] d0 (fg (ai _)) (af (ã [_] (.x .q .q) []))) (Ι (.x (.M .q .r) .s) [.x (.A .t .u) (.A .v .v),.x (.M .q .r) (.A .u .s),.Z 2 (.A .v .s) .s] d0 (fg (ai _)) (af (ã [_] (.x .q .q) [])))
end
end Mine
end
section
open PySem PySem.W PyProof.Rows
set_option exponentiation.threshold 3000
namespace Mine
open PySem.Float64 (decode Right sgn dist infMag pack)
noncomputable def K:Nat:=2^1074
theorem ŀ:0<K:=gy 1074
theorem K_eq:2^1074=K:=rfl
theorem Ĵ (j:Nat):2^53*2^(1021+j)=K*2^j:= by
 refine O (mw ..) (aBD (je ..) (aBD (mw ..) ?_));rfl
theorem Ω (h:g<=1074):2^(1074-g)*2^g=K:= by
 refine aBD (mw ..) (O (af h) ?_);rfl
def R (x:UInt64):Rat:=(val x:Rat)/(K:Rat)
theorem ë:(0:Rat)<(K:Rat):=by exact_mod_cast ŀ
theorem Ì (x:UInt64):(val x:Rat)=R x*(K:Rat):= by
 unfold R;exact(ģ ë).symm
theorem s8 (b:Bool):decode (pack b infMag)=.inf b:=by cases b<;>kernel_rfl
theorem lY (h:Right r neg W D) (hD:0<D) (hj:j<=1000) (hW:W<=D*(K*2^j)):
  È r/\(-((D*(K*2^j):Nat):Int)<=(val r*(D:Int)-sgn neg W)*2^54/\(val r*(D:Int)-sgn neg W)*2^54<=((D*(K*2^j):Nat):Int))/\
   (∀q g,g<=1074->q<=2^53->W*2^g=D*(q*K)->val r*(D:Int)=sgn neg W):= by
 refine tF (lK h hD (1021+j) (à (.x (.A (.N 1021) .q) (.N 2040)) [.x .q .kj] hj) (by exact O (Ĵ ..) hW)) λhf U hv zt=>?_;refine xa zt λhd he=>?_;clear zt;refine(Ý hf ?_ ?_)
 ·have e1:2^53*(D*2^(1021+j))=D*(K*2^j):=by refine aBD (Ĵ ..) ?_;simp only[lr]
  have e2:2^54*dist W (D*U)<=D*(K*2^j):= by
   refine aBD e1 ?_;have:=ny (2^53) hd;exact æ (.x (.M .kC .q) (.M .ki (.M .r .s))) [.x (.M .ki (.M .n2 .q)) (.M .ki (.M .r .s))] this
  refine O hv ?_;generalize D*(K*2^j)=B at*;have e3:sgn neg U*(D:Int)=sgn neg (D*U):= by
   unfold sgn;cases neg
   ·simp[uz]
   ·simp[uz,ta]
  refine O e3 ?_;generalize D*U=c at*;unfold sgn;unfold dist at e2;cases neg
  ·simp only[ay,if_false];exact⟨Ŝ (.l (.G .q) (.M (.S .r .s) .kC)) [.x (.M .kC (.A .t .u)) .q,.X 18014398509481984 .s (.A .t .r)] e2 (fg (ai _)),Ŝ (.l (.M (.S .q .r) .kC) .s) [.x (.M .kC (.A .t .u)) .s,.X 18014398509481984 .q (.A .u .r)] e2 (fg (ai _))⟩
  ·simp only[if_true];exact⟨Ŝ (.l (.G .q) (.M (.S (.G .r) (.G .s)) .kC)) [.x (.M .kC (.A .t .u)) .q,.X 18014398509481984 .r (.A .u .s)] e2 (fg (ai _)),Ŝ (.l (.M (.S (.G .q) (.G .r)) .kC) .s) [.x (.M .kC (.A .t .u)) .s,.X 18014398509481984 .r (.A .t .q)] e2 (fg (ai _))⟩
 ·intro q g hg hq Zq;have e4:W=D*(q*2^(1074-g)):= by
   have:W*2^g=D*(q*2^(1074-g))*2^g:=by refine O Zq (aBD (Ω hg) ?_);simp only[je]
   exact Nat.eq_of_mul_eq_mul_right (gy g) this
  have hk:W=D*U:= by
   by_cases hb:1074-g<=2040
   ·-- use exactness at the finer grid
    have hh:=lK h hD (1021+j) (à (.x (.A (.N 1021) .q) (.N 2040)) [.x .q .kj] hj) (by exact O (Ĵ ..) hW);refine cW h λt aT ht Sn hn=>?_;subst aT;clear h;refine xe (ľ (1074-g) q hq) λt0 Sp=>?_;have Gu:t<infMag:= by
     rcases nc t infMag with h|h
     ·exact h
     ·exfalso;have:t=infMag:=by exact bf (ht) (h)
      subst this;refine jA hf λa m e Im=>?_;clear hf;revert Im;refine O (s8 ..) ?_;intro Im;cases Im
    have d0:=(hn Gu t0).1;rw[Sp,<-e4] at d0;refine lE (xw neg Gu) λm e Zr Zs=>?_;have:val (pack neg t)=sgn neg (xm t):=by exact O (jw Zr) (O Zs rfl)
    rw[this] at hv;have hU:U=xm t:= by
     unfold sgn at hv;cases neg
     ·simp only[ay,if_false] at hv;exact Ò (.z1 .q .r) [.e .q .r] hv.symm
     ·simp only[if_true] at hv;exact Ò (.z1 .q .r) [.e (.G .r) (.G .q)] hv
    refine O hU ?_;unfold dist at d0;exact bf (Ι (.x .q (.M .r .s)) [.x (.A .t .u) (.A .v .v),.x .q (.A .t (.M .r .s)),.Z 2 (.A .v .q) .q] d0 (fg (ai _)) (af (ã [_] (.x .q .q) []))) (Ι (.x (.M .q .r) .s) [.x (.A .t .u) (.A .v .v),.x (.M .q .r) (.A .u .s),.Z 2 (.A .v .s) .s] d0 (fg (ai _)) (af (ã [_] (.x .q .q) [])))
   ·grind
  refine O hv (O hk ?_);unfold sgn;cases neg
  ·simp[uz]
  ·simp[uz,ta]
theorem mW (h:decode x=.fin a m e):sgn a (val x).natAbs=val x:= by
 exact O (oj h) (O (jw h) rfl)
theorem O3 (a b:Bool) (m n:Nat):sgn (a != b) (m*n)=sgn a m*sgn b n:= by
 unfold sgn;cases a<;>cases b<;>simp[qr,Ay,ta]
theorem FH (w:Int):sgn (decide (w<0)) w.natAbs=w:= by
 unfold sgn
 by_cases h:w<0
 ·rw[decide_eq_true h,if_pos rfl];exact(congrArg Neg.neg (rx (de h))).trans (Ew w)
 ·simp[h];exact cb (co (aq ((dt.mp h)))) (co (aq ((dt.mp h))).symm)
theorem sD (a:Bool) (m n:Nat):sgn a (m*n)=sgn a m*(n:Int):=Float64.sgn_mul a m n
theorem qV (b:Bool):decode (jf b)=.fin b 0 (-1074):=by cases b<;>kernel_rfl
theorem C2 (b:Bool):È (jf b):=(fX _ _ _ (qV b))
theorem v6 (b:Bool):val (jf b)=0:=by refine O (jw (qV b)) ?_;cases b<;>simp[sgn]
section
variable{x y:UInt64}
theorem T8 (hx:È x) (hy:È y) (hj:j<=1000) (hb:(val x+val y).natAbs<=K*2^j):
  È (add x y)/\(-((K*2^j:Nat):Int)<=(val (add x y)-(val x+val y))*2^54/\(val (add x y)-(val x+val y))*2^54<=((K*2^j:Nat):Int))/\
   (∀q g,g<=1074->q<=2^53->(val x+val y).natAbs*2^g=q*K->val (add x y)=val x+val y):= by
 refine jA hx λa m e hx=>?_;refine jA hy λb k f hy=>?_;refine xa (zq hx hy) λh0 h1=>?_;generalize val x+val y=w at*
 by_cases hw:w=0
 ·refine O (h0 hw) (O (v6 ..) (O hw (Ý (C2 _) ?_ (λ_ _ _ _ _=>rfl))));exact⟨Ò (.l (.G (.C (.M .q .r))) (.M (.S .n0 .n0) .kC)) [],Ò (.l (.M (.S .n0 .n0) .kC) (.C (.M .q .r))) []⟩
 ·have:=lY (h1 hw) (by decide) hj (by exact O (wu ..) hb);rw[FH] at this
  simpa using this
theorem mul_int (hx:È x) (hy:È y) (hj:j<=1000) (hb:(val x*val y).natAbs<=K*(K*2^j)):
  È (mul x y)/\(-((K*(K*2^j):Nat):Int)<=(val (mul x y)*(K:Int)-(val x*val y))*2^54/\(val (mul x y)*(K:Int)-(val x*val y))*2^54<=((K*(K*2^j):Nat):Int))/\
   (∀q g,g<=1074->q<=2^53->(val x*val y).natAbs*2^g=K*(q*K)->val (mul x y)*(K:Int)=val x*val y):= by
 refine jA hx λa m e hx=>?_;refine jA hy λb k f hy=>?_;have h1:=zr hx hy;rw[fx] at hb⊢;have:=lY h1 ŀ hj hb;rw[O3,mW hx,mW hy,K_eq] at this;exact this
theorem T9 (hx:È x) (hy:È y) (h0:val y≠0) (hj:j<=1000) (hb:(val x).natAbs*K<=(val y).natAbs*(K*2^j)):
  È (div x y)/\(-(((val y).natAbs*(K*2^j):Nat):Int)<=(val (div x y)*val y-val x*(K:Int))*2^54/\(val (div x y)*val y-val x*(K:Int))*2^54<=(((val y).natAbs*(K*2^j):Nat):Int))/\
   (∀q g,g<=1074->q<=2^53->(val x).natAbs*K*2^g=(val y).natAbs*(q*K)->val (div x y)*val y=val x*(K:Int)):= by
 refine jA hx λa m e hx=>?_;refine jA hy λb k f hy=>?_;have hk:k≠0:= by
  intro h;subst h;rw[jw hy] at h0;apply h0;cases b<;>simp[sgn]
 have h1:=Float64.div_right hx hy hk;have Iq:0<(val y).natAbs:=Int.natAbs_pos.mpr h0;have:=lY h1 Iq hj hb;have sx:=mW hx;have sy:=mW hy;rw[K_eq] at this;rw[sD] at this;generalize val (div x y)=z at*;have key:sgn (a != b) (val x).natAbs*(K:Int)=(if b then -1 else 1)*(val x*(K:Int))/\((val y).natAbs:Int)=(if b then -1 else 1)*val y:= by
  constructor
  ·refine aBD (DL ..) ?_;congr 1;refine aBD sx ?_;unfold sgn;cases a<;>cases b<;>simp
  ·conv=>rhs;rw[<-sy]
   unfold sgn;cases b<;>simp
 refine xa key λk1 k2=>?_;clear key;rw[k1] at this;refine Ą this λt1 t2 t3=>?_;clear this;refine(Ý t1 ?_ (λq g hg hq he=>?_))
 ·cases b
  ·simp only[ay,if_false,Az] at k2 t2;rw[k2] at t2;rw[qr,k2] at t2⊢;exact t2
  ·simp only[if_true,Ay,Az] at k2 t2;rw[k2] at t2;rw[qr,k2] at t2⊢;have:z*-val y - -(val x*(K:Int))=-(z*val y-val x*(K:Int)):=by exact O (ta ..) (Ď [_,_,_] [_] (.e (.S (.G .kd) (.G (.M .c .q))) (.G (.S .kd (.M .c .q)))) [])
   rw[this] at t2;generalize z*val y-val x*(K:Int)=d at*;generalize -val y*((K*2^j:Nat):Int)=c at*;exact⟨Ĺ (.l (.G .a) (.M .b .kC)) [.l (.M (.G .b) .kC) .a] t2.2,Ĺ (.l (.M .a .kC) .b) [.l (.G .b) (.M (.G .a) .kC)] t2.1⟩
 ·have:=t3 q g hg hq he;rw[k2] at this;cases b
  ·simpa using this
  ·simp only[if_true,Ay,Az,ta] at this;exact Ď [_,_,_] [_] (.e .kd (.M .c .q)) [.e (.G (.M .c .q)) (.G .kd)] this.symm
end
end Mine
end
section
open PySem PySem.W PyProof.Rows
set_option exponentiation.threshold 3000
namespace Mine
open PySem.Float64 (decode Right sgn dist infMag pack)
theorem mX{z:Int}{n:Nat}(h1:-(n:Int)<=z) (h2:z<=(n:Int)):z.natAbs<=n:= by
 rcases zs 0 z with h|h
 ·exact mi.mp (by rw[aq h];exact h2)
 ·exact mi.mp (by rw[rx h];exact wv h1)
structure Pw (M:Nat) where
 j:Nat
 le:j<=1000
 eq:M=2^j
theorem eC{a b c:Rat}(hc:0<c) (h:a*c<=b*c):a<=b:=Rat.le_of_mul_le_mul_right h hc
theorem f9{a b c:Rat}(hc:0<c) (h:a*c=b*c):a=b:= by
 refine jm (eC hc (by exact O h ei)) (eC hc (by refine O h ?_;exact ei))
theorem tI{a b c:Rat}(hc:0<c) (h:a<=b):a*c<=b*c:=gf h (av hc)
def Dy (q:Rat):Prop:=∃(n:Int) (g:Nat),g<=1074/\n.natAbs<=2^53/\q*(2^g:Nat)=n
section
variable{x y:UInt64}
def tT :Prop:=∀(hx:È x) (hy:È y){M:Nat}(p:Pw M) (h1:-(M:Rat)<=R x+R y) (h2:R x+R y<=(M:Rat)),È (add x y)/\R x+R y-(M:Rat)/2^54<=R (add x y)/\R (add x y)<=R x+R y+(M:Rat)/2^54/\(Dy (R x+R y)->R (add x y)=R x+R y)
def b8:=gX (a7 @tT)
theorem XH:@tT b8.1 b8.2:= by
 intro hx hy M p h1 h2;obtain⟨j,hj,rfl⟩:=p;have kp:=ë;have b1:-(((K*2^j:Nat):Int):Rat)<=((val b8.1+val b8.2:Int):Rat):= by
  push_cast;refine O (Ì ..) (O (Ì ..) ?_);have:=tI kp h1;push_cast at this;exact Ī (.l (.G .kd) (.A (.M .c .a) (.M .d .a))) [.l (.M (.G .b) .a) (.M (.A .c .d) .a)] this
 have b2:((val b8.1+val b8.2:Int):Rat)<=(((K*2^j:Nat):Int):Rat):= by
  push_cast;refine O (Ì ..) (O (Ì ..) ?_);have:=tI kp h2;push_cast at this;exact Ī (.l (.A .kd (.M .c .b)) (.M .b .d)) [.l (.M (.A .a .c) .b) (.M .d .b)] this
 obtain⟨hf,⟨d1,d2⟩,d3⟩:=T8 hx hy hj (mX (by exact_mod_cast b1) (by exact_mod_cast b2));have e1:-(((K*2^j:Nat):Int):Rat)<=(((val (add b8.1 b8.2)-(val b8.1+val b8.2))*2^54:Int):Rat):=by exact_mod_cast d1
 have e2:(((val (add b8.1 b8.2)-(val b8.1+val b8.2))*2^54:Int):Rat)<=(((K*2^j:Nat):Int):Rat):=by exact_mod_cast d2
 push_cast at e1 e2;rw[Ì,Ì,Ì] at e1 e2;refine(d9 hf (eC kp ?_) (eC kp ?_) ?_)
 ·push_cast;exact Ů (.L 18014398509481984 (.M (.S .kb (.D .c .kC)) .d) (.M .e .d)) [.l (.G (.M .d .c)) (.M (.S (.M .e .d) (.A (.M .a .d) (.M .b .d))) .kM)] e1
 ·push_cast;exact Ů (.L 18014398509481984 .kd (.M (.A (.A .c .d) (.D .e .kC)) .b)) [.l (.M (.S .kd (.A (.M .c .b) (.M .d .b))) .kM) (.M .b .e)] e2
 ·rintro ⟨n,g,hg,hn,he⟩
  have h5:(((val b8.1+val b8.2)*((2^g:Nat):Int):Int):Rat)=((n*(K:Int):Int):Rat):= by
   push_cast;refine O (Ì ..) (O (Ì ..) ?_);push_cast at he;grind
  have h6:(val b8.1+val b8.2)*((2^g:Nat):Int)=n*(K:Int):=by exact_mod_cast h5
  have h7:=congrArg yn h6;rw[fx,fx] at h7;simp only[jx] at h7;have h8:=d3 n.natAbs g hg hn h7;refine f9 kp ?_;have h9:((val (add b8.1 b8.2):Int):Rat)=((val b8.1+val b8.2:Int):Rat):=by exact O h8 rfl
  push_cast at h9;rw[Ì,Ì,Ì] at h9;exact jm (Ī (.l .kd (.M (.A .c .d) .b)) [.e .kd (.A (.M .c .b) (.M .d .b))] h9) (Ī (.l (.M .kb .c) (.M .d .c)) [.e (.A (.M .a .c) .kq) (.M .d .c)] h9.symm)
theorem l3:@tT x y:=iA (a7 @tT) (x,y) XH
def tU :Prop:=∀(hx:È x) (hy:È y){M:Nat}(p:Pw M) (h1:-(M:Rat)<=R x*R y) (h2:R x*R y<=(M:Rat)),È (mul x y)/\R x*R y-(M:Rat)/2^54<=R (mul x y)/\R (mul x y)<=R x*R y+(M:Rat)/2^54/\(Dy (R x*R y)->R (mul x y)=R x*R y)
def b9:=gX (a7 @tU)
theorem XI:@tU b9.1 b9.2:= by
 intro hx hy M p h1 h2;obtain⟨j,hj,rfl⟩:=p;have kp:=ë;have b1:-(((K*(K*2^j):Nat):Int):Rat)<=((val b9.1*val b9.2:Int):Rat):= by
  push_cast;refine O (Ì ..) (O (Ì ..) ?_);have:=tI kp (tI kp h1);push_cast at this;exact Ī (.l (.G (.M .a .kd)) (.M (.M .c .a) (.M .d .a))) [.l (.M (.M (.G .b) .a) .a) (.M (.M .kD .a) .a)] this
 have b2:((val b9.1*val b9.2:Int):Rat)<=(((K*(K*2^j):Nat):Int):Rat):= by
  push_cast;refine O (Ì ..) (O (Ì ..) ?_);have:=tI kp (tI kp h2);push_cast at this;exact Ī (.l (.M .kd (.M .c .b)) (.M .b (.M .b .d))) [.l (.M (.M (.M .a .c) .b) .b) (.M (.M .d .b) .b)] this
 obtain⟨hf,⟨d1,d2⟩,d3⟩:=mul_int hx hy hj (mX (by exact_mod_cast b1) (by exact_mod_cast b2));have e1:-(((K*(K*2^j):Nat):Int):Rat)<=(((val (mul b9.1 b9.2)*(K:Int)-(val b9.1*val b9.2))*2^54:Int):Rat):=by exact_mod_cast d1
 have e2:(((val (mul b9.1 b9.2)*(K:Int)-(val b9.1*val b9.2))*2^54:Int):Rat)<=(((K*(K*2^j):Nat):Int):Rat):=by exact_mod_cast d2
 push_cast at e1 e2;rw[Ì,Ì,Ì] at e1 e2;refine(d9 hf (eC kp (eC kp ?_)) (eC kp (eC kp ?_)) ?_)
 ·push_cast;exact Ů (.L 18014398509481984 (.M (.M (.S .kd (.D .c .kC)) .d) .d) (.M (.M .e .d) .d)) [.l (.G (.M .d (.M .d .c))) (.M (.S (.M (.M .e .d) .d) (.M (.M .a .d) (.M .b .d))) .kM)] e1
 ·push_cast;exact Ů (.L 18014398509481984 (.M .kd .b) (.M (.M (.A .kD (.D .e .kC)) .b) .b)) [.l (.M (.S (.M .kd .b) (.M (.M .c .b) (.M .d .b))) .kM) (.M .b (.M .b .e))] e2
 ·rintro ⟨n,g,hg,hn,he⟩
  have h5:(((val b9.1*val b9.2)*((2^g:Nat):Int):Int):Rat)=(((K:Int)*(n*(K:Int)):Int):Rat):= by
   push_cast;refine O (Ì ..) (O (Ì ..) ?_);push_cast at he;grind
  have h6:(val b9.1*val b9.2)*((2^g:Nat):Int)=(K:Int)*(n*(K:Int)):=by exact_mod_cast h5
  have h7:=congrArg yn h6;rw[fx,fx,fx] at h7;rw[fx] at h7;simp only[jx] at h7;have h8:=d3 n.natAbs g hg hn (by exact O (fx ..) h7);refine f9 kp (f9 kp ?_);have h9:((val (mul b9.1 b9.2)*(K:Int):Int):Rat)=((val b9.1*val b9.2:Int):Rat):=by exact O h8 rfl
  push_cast at h9;rw[Ì,Ì,Ì] at h9;exact jm (Ī (.l (.M .kd .b) (.M (.M .kD .b) .b)) [.e (.M .kd .b) (.M (.M .c .b) (.M .d .b))] h9) (Ī (.l (.M (.M .kd .c) .c) (.M (.M .d .c) .c)) [.e (.M (.M .a .c) .kq) (.M (.M .d .c) .c)] h9.symm)
theorem l5:@tU x y:=iA (a7 @tU) (x,y) XI
def tV :Prop:=∀(hx:È x) (hy:È y) (h0:0<R y){M:Nat}(p:Pw M) (h1:-((M:Rat)*R y)<=R x) (h2:R x<=(M:Rat)*R y),È (div x y)/\R x/R y-(M:Rat)/2^54<=R (div x y)/\R (div x y)<=R x/R y+(M:Rat)/2^54/\(Dy (R x/R y)->R (div x y)=R x/R y)
def aU:=gX (a7 @tV)
theorem XJ:@tV aU.1 aU.2:= by
 intro hx hy h0 M p h1 h2;obtain⟨j,hj,rfl⟩:=p;have kp:=ë;have Mx:0<val aU.2:= by
  have:(0:Rat)*(K:Rat)<R aU.2*(K:Rat):=ij h0 kp;rw[<-Ì,en] at this
  exact_mod_cast this
 have Zt:((val aU.2).natAbs:Int)=val aU.2:=by exact cb (co (aq (Ņ [_] (.l .n0 .a) [.t .n0 .a] Mx))) (co (aq (Ņ [_] (.l .n0 .a) [.t .n0 .a] Mx)).symm)
 have Vf:(((val aU.2).natAbs:Nat):Rat)=R aU.2*(K:Rat):= by
  refine aBD (Ì ..) ?_;exact_mod_cast congrArg (λz:Int=>(z:Rat)) Zt
 have b1:-((((val aU.2).natAbs*(K*2^j):Nat):Int):Rat)<=((val aU.1*(K:Int):Int):Rat):= by
  push_cast;refine O Vf (O (Ì ..) ?_);have:=tI kp (tI kp h1);push_cast at this;exact Ī (.l (.G (.M .kd .kq)) (.M (.M .d .b) .b)) [.l (.M (.M (.G (.M .c .a)) .b) .b) (.M (.M .d .b) .b)] this
 have b2:((val aU.1*(K:Int):Int):Rat)<=((((val aU.2).natAbs*(K*2^j):Nat):Int):Rat):= by
  push_cast;refine O Vf (O (Ì ..) ?_);have:=tI kp (tI kp h2);push_cast at this;exact Ī (.l (.M .kd .b) (.M (.M .c .b) (.M .b .d))) [.l (.M .kd .b) (.M (.M (.M .d .c) .b) .b)] this
 have hb:=mX (by exact_mod_cast b1:-(((val aU.2).natAbs*(K*2^j):Nat):Int)<=val aU.1*(K:Int)) (by exact_mod_cast b2);rw[fx,jx] at hb;obtain⟨hf,⟨d1,d2⟩,d3⟩:=T9 hx hy (ez (Mx)) hj hb;have e1:-((((val aU.2).natAbs*(K*2^j):Nat):Int):Rat)<=(((val (div aU.1 aU.2)*val aU.2-val aU.1*(K:Int))*2^54:Int):Rat):=by exact_mod_cast d1
 have e2:(((val (div aU.1 aU.2)*val aU.2-val aU.1*(K:Int))*2^54:Int):Rat)<=((((val aU.2).natAbs*(K*2^j):Nat):Int):Rat):=by exact_mod_cast d2
 push_cast at e1 e2;rw[Vf,Ì,Ì,Ì] at e1 e2;have hd:R aU.1/R aU.2*R aU.2=R aU.1:=ģ (by assumption);generalize R aU.1/R aU.2=Q at*;rw[<-hd] at e1 e2;refine(d9 hf (eC h0 (eC kp (eC kp ?_))) (eC h0 (eC kp (eC kp ?_))) ?_)
 ·push_cast;exact Ů (.L 18014398509481984 (.M (.M (.M (.S .a (.D .b .kC)) .c) .d) .d) (.M (.M (.M .e .c) .d) .d)) [.l (.G (.M .kD (.M .d .b))) (.M (.S (.M (.M .e .d) .kD) (.M (.M (.M .a .c) .d) .d)) .kM)] e1
 ·push_cast;exact Ů (.L 18014398509481984 (.M (.M .kd .c) .c) (.M (.M (.M (.A .d (.D .e .kC)) .b) .c) .c)) [.l (.M (.S (.M (.M .a .c) .kq) (.M (.M (.M .d .b) .c) .c)) .kM) (.M .kq (.M .c .e))] e2
 ·rintro ⟨n,g,hg,hn,he⟩
  have h5:(((val aU.1*(K:Int))*((2^g:Nat):Int):Int):Rat)=(((val aU.2)*(n*(K:Int)):Int):Rat):= by
   push_cast;refine O (Ì ..) (O (Ì ..) ?_);push_cast at he;exact aBD hd (aBD he (jm (Ī (.l (.M (.M (.M .kd .c) .c) .d) (.M .kq (.M (.M .a .d) .c))) []) (Ī (.l (.M .kd (.M .kD .b)) (.M (.M (.M (.M .c .a) .b) .b) .d)) [])))
  have h6:(val aU.1*(K:Int))*((2^g:Nat):Int)=(val aU.2)*(n*(K:Int)):=by exact_mod_cast h5
  have h7:=congrArg yn h6;simp only[fx,jx] at h7;have h8:=d3 n.natAbs g hg hn h7;refine f9 h0 (f9 kp (f9 kp ?_));have h9:((val (div aU.1 aU.2)*val aU.2:Int):Rat)=((val aU.1*(K:Int):Int):Rat):=by exact O h8 rfl
  push_cast at h9;rw[Ì,Ì,Ì] at h9;grind
theorem C3:@tV x y:=iA (a7 @tV) (x,y) XJ
end
end Mine
end
section
open PySem PySem.W PyProof.Rows
set_option exponentiation.threshold 3000
namespace Mine
open PySem.Float64 (decode Right sgn dist infMag pack)
section
variable{x y:UInt64}
theorem UA (hy:È y):È (Ex y):=let ⟨_,_,_,h⟩:=hy;⟨_,_,_,Float64.neg_decode h⟩
theorem Ť (hy:È y):R (Ex y)=-R y:= by
 refine jA hy λb k f h=>?_;clear hy;unfold R;refine O (Float64.neg_val h) ?_;push_cast;grind
theorem jP (hx:È x) (hy:È y) (p:Pw M) (h1:-(M:Rat)<=R x-R y) (h2:R x-R y<=(M:Rat)):
  È (ab x y)/\R x-R y-(M:Rat)/2^54<=R (ab x y)/\R (ab x y)<=R x-R y+(M:Rat)/2^54/\(Dy (R x-R y)->R (ab x y)=R x-R y):= by
 have:=l3 hx (UA hy) p (by exact O (Ť hy) (Ź (.l (.G .a) (.A .b (.G .c))) [.l (.G .a) .kx] h1)) (by refine O (Ť hy) ?_;exact Ź (.l (.A .a (.G .b)) .c) [.l .ka .c] h2);rw[Ť hy,<-ol] at this;unfold ab;exact this
theorem Ŀ (hd:0<d) (h:val x*d=n*(K:Int)):R x=(n:Rat)/(d:Rat):= by
 have kp:=ë;have h1:((val x*d:Int):Rat)=((n*(K:Int):Int):Rat):=by exact O h rfl
 push_cast at h1;rw[Ì] at h1;have Im:(0:Rat)<(d:Rat):=by exact_mod_cast hd
 refine f9 Im (f9 kp ?_);have:(n:Rat)/(d:Rat)*(d:Rat)=n:=ģ (by assumption);exact O this (jm (Ī (.l (.M .kd .c) (.M .d .c)) [.e (.M (.M .a .c) .b) (.M .d .c)] h1) (Ī (.l .kd (.M .kD .b)) [.e .kd (.M (.M .c .b) .d)] h1.symm))
theorem O4 (hd:0<d) (p:Pw M) (hM:n<=d*M):
  È (ofFrac s n d)/\((sgn s n:Int):Rat)/(d:Rat)-(M:Rat)/2^54<=R (ofFrac s n d)/\R (ofFrac s n d)<=((sgn s n:Int):Rat)/(d:Rat)+(M:Rat)/2^54/\
   (Dy (((sgn s n:Int):Rat)/(d:Rat))->R (ofFrac s n d)=((sgn s n:Int):Rat)/(d:Rat)):= by
 obtain⟨j,hj,rfl⟩:=p;have kp:=ë;have hr:Right (ofFrac s n d) s (n*K) d:=ww hd (by exact O K_eq rfl) hd;have hW:n*K<=d*(K*2^j):= by
  rw[jb K,<-je];exact xd _ hM
 obtain⟨hf,⟨d1,d2⟩,d3⟩:=lY hr hd hj hW;rw[sD] at d1 d2 d3;have Im:(0:Rat)<(d:Rat):=by exact_mod_cast hd
 have e1:-(((d*(K*2^j):Nat):Int):Rat)<=(((val (ofFrac s n d)*(d:Int)-sgn s n*(K:Int))*2^54:Int):Rat):=by exact_mod_cast d1
 have e2:(((val (ofFrac s n d)*(d:Int)-sgn s n*(K:Int))*2^54:Int):Rat)<=(((d*(K*2^j):Nat):Int):Rat):=by exact_mod_cast d2
 push_cast at e1 e2;rw[Ì] at e1 e2;have hq:((sgn s n:Int):Rat)/(d:Rat)*(d:Rat)=((sgn s n:Int):Rat):=ģ (by assumption);generalize hS:((sgn s n:Int):Rat)/(d:Rat)=Q at*;rw[<-hq] at e1 e2;refine(d9 hf (eC Im (eC kp ?_)) (eC Im (eC kp ?_)) ?_)
 ·push_cast;exact Ů (.L 18014398509481984 (.M (.M (.S .a (.D .b .kC)) .c) .d) (.M (.M .e .c) .d)) [.l (.G (.M .c (.M .d .b))) (.M (.S (.M (.M .e .d) .c) (.M (.M .a .c) .d)) .kM)] e1
 ·push_cast;exact Ů (.L 18014398509481984 (.M .kd .c) (.M (.M (.A .d (.D .e .kC)) .b) .c)) [.l (.M (.S (.M (.M .a .c) .b) (.M (.M .d .b) .c)) .kM) (.M .b (.M .c .e))] e2
 ·rintro ⟨m,g,hg,hm,he⟩
  have h5:((sgn s n*((2^g:Nat):Int):Int):Rat)=((m*(d:Int):Int):Rat):= by
   push_cast;push_cast at he;refine aBD hq ?_;grind
  have h6:sgn s n*((2^g:Nat):Int)=m*(d:Int):=by exact_mod_cast h5
  have h7:=congrArg yn h6;rw[fx,fx,Float64.sgn_natAbs] at h7
  dsimp only[jx] at h7
  have h8:=d3 m.natAbs g hg hm (by refine O (Nat.mul_right_comm ..) (O h7 ?_);simp only[je,jb,lr]);refine f9 Im (f9 kp ?_);have h9:((val (ofFrac s n d)*(d:Int):Int):Rat)=((sgn s n*(K:Int):Int):Rat):=by exact O h8 rfl
  push_cast at h9;rw[Ì] at h9;exact O hq (jm (Ī (.l (.M .kd .c) (.M .d .c)) [.e (.M (.M .a .c) .b) (.M .d .c)] h9) (Ī (.l .kd (.M .kD .b)) [.e .kd (.M (.M .c .b) .d)] h9.symm))
theorem tW (hi:i.natAbs<=2^53):È (cu i)/\R (cu i)=(i:Rat):= by
 have:=O4 (n:=i.natAbs) (d:=1) (s:=decide (i<0)) (by decide) (M:=2^53) ⟨53,by decide,rfl⟩ (by omega);rw[FH] at this;refine bE this λh1 aT Gq h4=>?_;clear aT;clear Gq;clear this;have e:(i:Rat)/((1:Nat):Rat)=(i:Rat):=by push_cast;exact ı (.e (.D .a .n1) .a) []
 rw[e] at h4;unfold cu;exact⟨h1,h4 (cC i 0 (by decide) hi (by push_cast;exact ı (.e (.M .a .n1) .a) []))⟩
theorem ZS (hx:È x) (hy:È y):(ex x y=some .lt<->R x<R y)/\(ex x y=some .eq<->R x=R y)/\(ex x y=some .gt<->R y<R x):= by
 refine jA hx λa m e hx=>?_;refine jA hy λb k f hy=>?_;refine O (Float64.cmp_right hx hy) ?_;have kp:=ë;have lt:∀u v:UInt64,val u<val v<->R u<R v:= by
  intro u v;constructor
  ·intro h;have h1:((val u:Int):Rat)<((val v:Int):Rat):=by exact_mod_cast h
   rw[Ì,Ì] at h1;exact eg h1 (av kp)
  ·intro h;have h1:=ij h kp;rw[<-Ì,<-Ì] at h1
   exact_mod_cast h1
 refine(Ý ?_ ?_ ?_)
 ·exact O (gn ..) (O (propext Int.compare_eq_lt) (lt x y))
 ·refine O (gn ..) (O (propext Int.compare_eq_eq) ?_);constructor
  ·intro h;unfold R;exact O h rfl
  ·intro h;have h1:R x*(K:Rat)=R y*(K:Rat):=by exact O h rfl
   rw[<-Ì,<-Ì] at h1
   exact_mod_cast h1
 ·exact O (gn ..) (O (propext Int.compare_eq_gt) (lt y x))
theorem nY (hx:È x) (hy:È y):ex x y=some (if R x<R y then .lt else if R x=R y then .eq else .gt):= by
 refine Ą (ZS hx hy) λh1 h2 h3=>?_;split
 ·exact h1.mpr (by assumption)
 ·split
  ·exact h2.mpr (by assumption)
  ·exact h3.mpr (by grind)
theorem v7 (hx:È x):bz x=decide (R x=0):= by
 refine jA hx λa m e hx=>?_;unfold bz;refine O hx ?_;have hv:=jw hx;have kp:=ë;have:R x=0<->m=0:= by
  constructor
  ·intro h;have h1:((val x:Int):Rat)=((0:Int):Rat):=by refine O (Ì ..) (O h ?_);push_cast;exact ı (.e (.M .n0 .a) .n0) []
   have h2:val x=0:=by exact_mod_cast h1
   have h3:=oj hx;rw[h2] at h3
   dsimp only[Int.natAbs_zero] at h3
   rcases Bp.mp h3.symm with h|h
   ·exact h
   ·exact absurd h (ck (gy _))
  ·intro h;subst h;unfold R;refine O hv ?_;have:sgn a (0*2^(e+1074).toNat)=0:=by refine O (yw ..) ?_;unfold sgn;cases a<;>rfl
   refine O this ?_;simp[qg]
 cases m with
 |zero=>exact(decide_eq_true (this.mpr rfl)).symm
 |succ m=>exact(decide_eq_false λq=>nomatch this.mp q).symm
theorem J4 (h:decode x=.fin a m e):m<2^53:= by
 unfold decode at h;simp only at h;split at h
 ·split at h<;>cases h
 ·split at h
  ·cases h;omega
  ·cases h;omega
theorem v8:decode one=.fin false (2^52) (-52):=by kernel_rfl
theorem HL:È one:=(fX _ _ _ v8)
theorem ŏ:R one=1:= by
 have:val one*1=1*(K:Int):=by decide +kernel
 refine O (Ŀ (by decide) this) ?_;push_cast;exact ĺ (.e (.D .n1 .n1) .n1) []
def mY{a:Bool}{m:Nat}{e:Int} :Prop:=∀(hx:decode x=.fin a m e),È (dg x one)/\val (dg x one)=sgn a ((val x).natAbs%K)
def aO:=gX (a7 (a7 (a7 @mY)))
theorem J5:@mY aO.1.1.1 aO.1.1.2 aO.1.2 aO.2:= by
 intro hx;have he:=zu hx;have hm:=J4 hx;have Xa:dg aO.1.1.1 one=yf aO.1.1.2 (aO.1.2*2^(aO.2-min aO.2 (-52)).toNat%(2^52*2^(-52-min aO.2 (-52)).toNat)) (min aO.2 (-52)):= by
  unfold dg;refine O hx (O v8 ?_)
  dsimp only[Float64.align,sgn,ay,if_false]
  refine O (if_neg (by decide)) ?_;rfl
 have Vg:-1074<=min aO.2 (-52):=Int.le_min.mpr ⟨he,by decide⟩;generalize hg:min aO.2 (-52)=g at*;have Xb:g<=-52:=by exact Ĺ (.l .a (.G (.N 52))) [.e .a .b,.l .b (.G (.N 52))] hg.symm (Int.min_le_right _ _)
 obtain⟨k,hk⟩:=tb Xb;obtain⟨l,hl⟩:=tb Vg;obtain⟨j,hj⟩:=tb (show g<=aO.2 by exact aBD hg (Int.min_le_left _ _));have a1:(-52-g).toNat=k:=congrArg uk (show -52-g=(k:Int) by exact Ď [_] [_] (.e (.S (.G (.N 52)) .a) .q) [.e (.G (.N 52)) (.A .a .q)] hk.symm);have a2:(-g).toNat=52+k:=congrArg uk (show -g=((52+k:Nat):Int) by exact Ď [_] [_] (.e (.G .a) (.C (.A (.N 52) .q))) [.e (.G (.N 52)) (.A .a .q)] hk.symm);have a3:(g+1074).toNat=l:=congrArg uk (show g+1074=(l:Int) by exact Ď [_] [_] (.e (.A .a (.N 1074)) .q) [.e .a (.A (.G (.N 1074)) .q)] hl.symm);have a4:(aO.2-g).toNat=j:=congrArg uk (show aO.2-g=(j:Int) by exact Ď [_,_] [_] (.e .ka .q) [.e .a (.A .b .q)] hj.symm);have a5:(aO.2+1074).toNat=j+l:=congrArg uk (show aO.2+1074=((j+l:Nat):Int) by exact Ď [_,_] [_,_] (.e (.A .a (.N 1074)) (.C .ko)) [.e .a (.A .b .q),.e .b (.A (.G (.N 1074)) .r)] hj.symm hl.symm);have a6:52+k+l=1074:=tj (show((52+k+l:Nat):Int)=1074 by exact Ď [_] [_,_] (.e (.C (.A (.A (.N 52) .q) .r)) (.N 1074)) [.e (.A .a .q) (.G (.N 52)),.e (.A (.G (.N 1074)) .r) .a] hk hl);have eq:2^52*2^(-52-g).toNat=2^(-g).toNat:=by exact aBD (mw ..) (O a1 (O a2 rfl))
 rw[eq] at Xa;generalize hn:aO.1.2*2^(aO.2-g).toNat%2^(-g).toNat=n at*;have Vh:n<=2^53:= by
  refine aBD hn ?_;rcases zs aO.2 (-52) with h|h
  ·have:(aO.2-g).toNat=0:=by refine O (hg.symm.trans (Bq h)) (O (ng ..) ?_);rfl
   exact O this (O (Du ..) (O (Ba ..) (aa (Nat.mod_le _ _) (db hm))))
  ·have:(-g).toNat=52:=by refine O (hg.symm.trans (Am h)) ?_;rfl
   refine O this ?_;have:=rr (aO.1.2*2^(aO.2-g).toNat) (y:=2^52) (by decide);exact à (.x .q .ki) [.y .q (.P .n2 52)] this
 have Zu:n<=2^(-g).toNat:=by exact aBD hn (db (rr _ (gy _)))
 have hK:2^(-g).toNat*2^(g+1074).toNat=K:=by refine aBD (mw ..) (O a2 (O a3 (O a6 ?_)));rfl
 have hr:Right (yf aO.1.1.2 n g) aO.1.1.2 (n*2^(g+1074).toNat) 1:= by
  unfold yf;refine ww (Float64.shift_pos _ _ _ (by decide)) ?_ (by decide);have:=Float64.shift_one n g 1074 (ñ (.l (.G (.C (.N 1074))) .a) [.l (.G (.N 1074)) .a] Vg);exact O (Ba ..) this
 refine Ą (lY (j:=0) hr (by decide) (by decide) (by
  refine O (wu ..) (O (Du ..) (O (Ba ..) (aBD hK ?_)));exact xd _ Zu)) λh1 aT h3=>?_;clear aT
 have h4:=h3 n (-g).toNat (Ď [_] [_] (.x .q (.N 1074)) [.l (.G (.N 1074)) .a,.e .q (.G .a)] Vg (bw (Ņ [_] (.l .n0 (.G .a)) [.l .a (.G (.N 52))] Xb))) Vh (by(refine O (je ..) ?_;rw[jb (2^(g+1074).toNat)];exact O hK (O (wu ..) rfl)));refine O Xa ⟨h1,?_⟩;rw[show((1:Nat):Int)=1 from rfl,Es] at h4;refine O h4 ?_;congr 1;refine O (oj hx) ?_;have e2:aO.1.2*2^(aO.2+1074).toNat=aO.1.2*2^(aO.2-g).toNat*2^(g+1074).toNat:= by
  exact O (je ..) (aBD (mw ..) (O a3 (O a4 (O a5 rfl))))
 exact O e2 (aBD hK (O (Nat.mul_mod_mul_right ..) (O hn rfl)))
theorem O5:@mY x a m e:=iA (a7 (a7 (a7 @mY))) (((x,a),m),e) J5
end
end Mine
end
section
open PySem PySem.W PyProof.Rows
set_option exponentiation.threshold 3000
namespace Mine
open PySem.Float64 (decode Right sgn dist infMag pack)
section
variable{x y:UInt64}
theorem þ:0<=R x<->0<=val x:= by
 have kp:=ë;constructor
 ·intro h;have h1:=tI kp h;rw[<-Ì,en] at h1
  exact_mod_cast h1
 ·intro h;have h1:((0:Int):Rat)<=((val x:Int):Rat):=by exact_mod_cast h
  rw[Ì] at h1;refine eC kp ?_;refine O (en ..) ?_
  exact_mod_cast h1
theorem qW (h:Right r false W D) (hf:È r):0<=val r:= by
 refine cW h λt aT ht Gq zq2=>?_;subst aT;clear Gq;clear zq2;clear h;have Gu:t<infMag:= by
  rcases nc t infMag with h|h
  ·exact h
  ·exfalso;have:t=infMag:=by exact bf (ht) (h)
   subst this;refine jA hf λa m e Im=>?_;clear hf;rw[s8] at Im;cases Im
 refine O (Float64.val_pack false Gu) ?_;unfold sgn;simp
theorem ŉ (hx:È x) (hy:È y) (hf:È (add x y)) (h:0<=R x+R y):0<=R (add x y):= by
 have kp:=ë;refine jA hx λa m e Kg=>?_;clear hx;refine jA hy λb k f Mv=>?_;clear hy;refine xa (zq Kg Mv) λh0 h1=>?_;have hw:0<=val x+val y:= by
  have h2:=tI kp h;rw[en,xf,<-Ì,<-Ì] at h2
  exact_mod_cast h2
 refine O (propext þ) ?_
 by_cases hz:val x+val y=0
 ·exact O (h0 hz) (O (v6 ..) (ie _))
 ·have:=h1 hz;rw[show decide (val x+val y<0)=false by simp;grind] at this;exact qW this hf
theorem qX:decode (ul (jf false) one)=.fin false 0 (-1074):=by kernel_rfl
def k_M :Prop:=∀(hx:È x),È (ca x one).2/\0<=R (ca x one).2/\
  (∃n:Int,R x-n-1/2^54<=R (ca x one).2/\R (ca x one).2<=R x-n+1/2^54/\0<=R x-n/\R x-n<1/\(0<=R x->R (ca x one).2=R x-n))
def iH:=gX (@k_M)
theorem O6:@k_M iH:= by
 intro hx;refine jA hx λa m e hx=>?_;have kp:=ë;refine xa (O5 hx) λhf hv=>?_;have Zv:=mW hx;have Vi:=qq (val iH).natAbs K;have Gu:=rr (val iH).natAbs ŀ;generalize hq:(val iH).natAbs/K=q at*;generalize hr:(val iH).natAbs%K=r at*;have Vj:(ca iH one).2=(if bz (dg iH one) then ul (jf false) one
   else if va one (jf false) != va (dg iH one) (jf false) then add (dg iH one) one else dg iH one):= by
  unfold ca;simp only;split
  ·rfl
  ·split<;>rfl
 have Km:R (dg iH one)*(K:Rat)=((sgn a r:Int):Rat):=by exact aBD (Ì ..) (O hv rfl)
 have Pi:R iH*(K:Rat)=((sgn a (K*q+r):Int):Rat):=by exact aBD (Ì ..) (O Vi (O Zv rfl))
 have Xc:((r:Nat):Rat)<(K:Rat):=by exact_mod_cast Gu
 have Vk:(0:Rat)<=((r:Nat):Rat):=by exact_mod_cast iu r
 have Zw:=C2 false;have Zx:R (jf false)=0:=by unfold R;refine O (v6 ..) ?_;simp[qg]
 refine O Vj ?_
 by_cases Nl:r=0
 ·-- no remainder
  have Vl:R (dg iH one)=0:= by
   refine f9 kp ?_;refine O Km (O Nl ?_);cases a<;>simp[sgn]
  refine O (v7 hf) (O Vl ?_);simp only[decide_true,if_true];have hc:R (ul (jf false) one)=0:= by
   unfold R;refine O (jw qX) ?_;simp[sgn,qg]
  refine O hc (Ý (fX _ _ _ qX) ei ⟨(sgn a q),?_⟩);have Sq:R iH=((sgn a q:Int):Rat):= by
   refine f9 kp ?_;refine O Pi (O Nl (O (zw ..) (O (jb ..) (O (sD ..) ?_))));push_cast;rfl
  refine O Sq ?_;grind
 ·have Vl:R (dg iH one)≠0:= by
   intro h;rw[h] at Km;have:((sgn a r:Int):Rat)=((0:Int):Rat):=by refine aBD Km ?_;push_cast;exact ı (.e (.M .n0 .a) .n0) []
   have h2:sgn a r=0:=by exact_mod_cast this
   unfold sgn at h2;cases a
   ·exact absurd (tj h2) Nl
   ·exact absurd (tj (Int.neg_eq_zero.mp h2)) Nl
  refine O (v7 hf) ?_;simp only[Vl,decide_false,ay,if_false];have l1:va one (jf false)=false:=by decide +kernel
  refine O l1 ?_;have l2:va (dg iH one) (jf false)=a:= by
   unfold va;refine O (nY hf Zw) (O Zx ?_);cases a
   ·have:¬R (dg iH one)<0:= by
     intro h;have h2:=ij h kp;rw[Km] at h2
     dsimp only[sgn] at h2
     push_cast at h2;grind
    refine O (if_neg this) ?_;split<;>rfl
   ·have:R (dg iH one)<0:= by
     have h1:R (dg iH one)<=0:= by
      refine eC kp ?_;refine O Km ?_
      dsimp only[sgn,if_true]
      push_cast;exact ė (.l (.G .a) (.M .n0 .b)) [.l .n0 .a] Vk
     grind
    refine O (if_pos this) ?_;rfl
  refine O l2 ?_;cases a
  ·simp only[bne_self_eq_false,ay,if_false]
   dsimp only[sgn,ay,if_false] at Km Pi
   push_cast at Km Pi;have Sq:R iH=R (dg iH one)+(q:Rat):= by
    refine f9 kp ?_;exact O Pi (O (xf ..) (O Km (Ź (.e (.A .kd .c) (.A .c (.M .b .a))) [])))
   have Kk:0<=R (dg iH one):=eC kp (by exact O Km (ė (.l (.M .n0 .a) .b) [.l .n0 .b] Vk));have Hm:R (dg iH one)<1:= by
    refine eg (c:=(K:Rat)) ?_ (av kp);exact O Km (ė (.t .a (.M .n1 .b)) [.t .a .b] Xc)
   refine(Ý hf Kk ⟨(q:Int),?_⟩);push_cast;refine O Sq ?_;grind
  ·simp only[show(false != true)=true from rfl,if_true];simp only[sgn,if_true] at Km Pi;push_cast at Km Pi;have Sq:R iH=R (dg iH one)-(q:Rat):= by
    refine f9 kp ?_;exact O Pi (O (show(R (dg iH one)-(q:Rat))*(K:Rat)=R (dg iH one)*(K:Rat)-(q:Rat)*(K:Rat) by exact Ź (.e (.M .ka .c) (.S (.M .a .c) .kq)) []) (O Km (Ź (.e (.G (.A .kd .c)) (.S (.G .c) (.M .b .a))) [])))
   have Kk:R (dg iH one)<=0:=eC kp (by exact O Km (ė (.l (.G .a) (.M .n0 .b)) [.l .n0 .a] Vk));have Hm:-1<R (dg iH one):= by
    refine eg (c:=(K:Rat)) ?_ (av kp);exact O Km (ė (.t (.M .kn .a) (.G .b)) [.t .b .a] Xc)
   refine bE (l3 (M:=1) hf HL ⟨0,by decide,rfl⟩ (by refine O ŏ ?_;push_cast;exact ı (.l .kn .kk) [.t .kn .a] Hm) (by refine O ŏ ?_;push_cast;exact ı (.l .kk .n1) [.l .a .n0] Kk)) λf1 f2 f3 aT=>?_;clear aT;rw[ŏ] at f2 f3;push_cast at f2 f3;refine(Ý f1 (ŉ hf HL f1 (by exact O ŏ (ı (.l .n0 .kk) [.t .kn .a] Hm))) ⟨(-(q:Int)-1),?_⟩);push_cast;refine O Sq ?_;have hq0:(0:Rat)<=(q:Rat):=by exact_mod_cast iu q
   refine(jD (Ź (.l (.S (.S .ka (.S (.G .b) .n1)) .kl) .c) [.l (.S .kk .kl) .c] f2) (Ź (.l .a (.A (.S .kx (.S (.G .c) .n1)) .kl)) [.l .a (.A (.A .b .n1) .kl)] f3) (ė (.l .n0 (.S .ka (.S (.G .b) .n1))) [.t .kn .a] Hm) (by grind) (λh=>?_));exfalso;grind
theorem oW:@k_M x:=iA (@k_M) x O6
end
end Mine
end
section
open PySem PySem.W
namespace Mine
noncomputable abbrev Qa:PE:=(.cst .none)
noncomputable abbrev Qb:PE:=(.cst (.int 1))
noncomputable abbrev Qc:PE:=(.cst (.int 2))
noncomputable abbrev Qd:PE:=(.cst (.int 0))
abbrev Qe:PE:=(.call 13 (.cons (.bin .Add (.bin .Add (.slc (.var 11) Qa (.var 35) Qa) (.list (.cons (.call 12 (.cons (.sub (.var 11) (.var 35)) .nil)) .nil))) (.slc (.var 11) (.bin .Add (.var 35) Qc) Qa Qa)) .nil))
noncomputable abbrev ç:PE:=(.var 2)
noncomputable abbrev Qv:PE:=(.var 0)
noncomputable abbrev Qu:PE:=(.var 1)
abbrev Qf:PE:=(.bin .Add (.sub ç (.var 46)) (.bi .sum (.cons (.comp (.bin .Mod (.var 47) (.bin .Pow (.cst (.int 10)) (.cst (.int 6)))) 47 (.val (.slc Qv (.var 46) Qa Qu)) false Qa) .nil)))
abbrev Qg:PE:=(.cmp .NotEq (.tup (.cons (.var 27) (.cons (.var 26) .nil))) (.call 17 (.cons (.slc (.var 6) (.var 24) (.var 25) Qa) (.cons (.slc (.var 4) (.var 24) (.var 25) Qa) .nil))))
abbrev Qh:PE:=(.call 16 (.cons (.sub (.var 7) (.var 23)) (.cons (.sub (.var 7) (.bin .Add (.var 23) Qb)) (.cons (.var 8) (.cons (.bin .Mod (.bin .Add (.var 23) (.var 19)) Qc) .nil)))))
abbrev Qi:PE:=(.comp (.var 36) 36 (.rng1 (.bin .Sub (.bi .len (.cons (.var 11) .nil)) Qb)) true (.cmp .Eq (.sub (.var 11) (.var 36)) (.sub (.var 11) (.bin .Add (.var 36) Qb))))
abbrev Qj:PS:=(.asg 18 (.bin .Add (.bin .Add (.slc (.var 18) Qa (.var 23) Qa) (.list (.cons (.tup (.cons (.var 24) (.cons (.var 25) .nil))) .nil))) (.slc (.var 18) (.bin .Add (.var 23) Qc) Qa Qa)))
noncomputable abbrev Qk:ě:=(.cons (.ret (.cst (.bool false))) .nil)
abbrev Ql:ě:=(.cons (.ite (.cmp .Is ç Qa) (.cons (.asg 2 (.var 4)) .nil) (.cons (.ite (.cmp .NotEq Qu ç) (.cons (.app 3 (.slc Qv Qu ç Qa)) .nil) .nil) (.cons (.asg 1 (.bin .Add (.var 4) Qb)) (.cons (.asg 2 Qa) .nil)))) .nil)
noncomputable abbrev Qt:PE:=(.var 3)
abbrev Qm:PE:=(.sub (.var 22) (.bin .Mod (.bin .FloorDiv (.sub Qt (.var 19)) (.cst (.int 16384))) (.bi .len (.cons (.var 22) .nil))))
abbrev Qn:PE:=(.comp (.call 16 (.cons (.sub (.var 7) (.var 15)) (.cons (.var 16) (.cons (.var 8) (.cons (.var 38) .nil))))) 38 (.val (.tup (.cons Qd (.cons Qb .nil)))) false Qa)
abbrev Qo:PE:=(.tup (.cons (.sub (.sub (.var 18) (.var 23)) Qd) (.cons (.sub (.sub (.var 18) (.bin .Add (.var 23) Qb)) Qb) .nil)))
abbrev Qp:PS:=(.asg 11 (.bin .Add (.bin .Add (.slc (.var 11) Qa (.var 23) Qa) (.list (.cons (.var 27) .nil))) (.slc (.var 11) (.bin .Add (.var 23) Qc) Qa Qa)))
abbrev Qq:PS:=(.asg 7 (.bin .Add (.bin .Add (.slc (.var 7) Qa (.var 23) Qa) (.list (.cons (.var 26) .nil))) (.slc (.var 7) (.bin .Add (.var 23) Qc) Qa Qa)))
abbrev Qr:PE:=(.list (.cons (.list (.cons Qd (.cons Qd (.cons Qd .nil)))) (.cons (.list (.cons Qd (.cons Qd (.cons Qd .nil)))) .nil)))
abbrev Qs:ě:=(.cons (.asg 4 (.bin .Mod (.bin .Sub (.bin .Mult (.cst (.int 3)) Qv) Qt) (.cst (.int 1536)))) (.cons (.app 2 (.bin .Mult Qu (.bi .max (.cons Qd (.cons (.bi .min (.cons (.cst (.int 256)) (.cons (.bin .Sub (.cst (.int 512)) (.bi .min (.cons (.var 4) (.cons (.bin .Sub (.cst (.int 1536)) (.var 4)) .nil)))) .nil))) .nil))))) .nil))
abbrev Qw:ě:=(.cons (.asgO 2 (.bin .Add ç (.list (.cons (.bin .Sub (.cst (.int 513)) (.var 8)) (.cons (.bin .Sub (.cst (.int 513)) (.var 8)) .nil))))) .nil)
noncomputable abbrev Qx:Į:=(.cons (.var 8) .nil)
abbrev Qy:ě:=(.cons (.aug 17 .Add (.ite (.cmp2 .LtE .Lt (.var 24) (.var 15) (.var 25)) Qb Qd)) .nil)
noncomputable abbrev Qz:PE:=(.cst (.flt 0x3ff0000000000000))
noncomputable abbrev Λ:PE:=(.cst (.flt 0x3fe0000000000000))
abbrev Q01:PS:=(.ite (.cmp .Eq Qv Qt) (.cons (.asg 12 (.bin .Sub (.var 11) (.var 10))) .nil) (.cons (.ite (.cmp .Eq Qu Qt) (.cons (.asg 12 (.bin .Sub (.bin .Add (.cst (.flt 0x4000000000000000)) (.var 9)) (.var 11))) .nil) (.cons (.asg 12 (.bin .Sub (.bin .Add (.cst (.flt 0x4010000000000000)) (.var 10)) (.var 9))) .nil)) .nil))
abbrev Q02:PS:=(.ite (.cmp .Eq Qv Qt) (.cons (.asg 11 (.bin .Sub (.var 10) (.var 9))) .nil) (.cons (.ite (.cmp .Eq Qu Qt) (.cons (.asg 11 (.bin .Sub (.bin .Add (.cst (.flt 0x4000000000000000)) (.var 8)) (.var 10))) .nil) (.cons (.asg 11 (.bin .Sub (.bin .Add (.cst (.flt 0x4010000000000000)) (.var 9)) (.var 8))) .nil)) .nil))
abbrev Q04:PE:=(.comp (.call 14 (.cons (.bin .Add (.bin .Mod (.bin .FloorDiv (.sub Qt (.var 42)) Qc) (.cst (.int 256))) (.bin .Mult (.cst (.int 256)) (.bin .Mod (.sub Qt (.var 42)) Qc))) (.cons (.sub (.var 5) (.var 42)) .nil))) 42 (.rng1 Qu) false Qa)
abbrev Q05:PS:=(.ite (.cmp .NotEq (.var 6) (.bin .Sub (.bi .len (.cons (.var 4) .nil)) Qb)) (.cons (.ret (.list .nil)) .nil) .nil)
abbrev Q06:PE:=(.call 14 (.cons (.bin .Add (.bin .Mod (.bin .FloorDiv (.sub Qt (.var 15)) Qc) (.cst (.int 256))) (.bin .Mult (.cst (.int 256)) (.bin .Sub Qb (.bin .Mod (.sub Qt (.var 15)) Qc)))) (.cons (.sub (.var 5) (.var 15)) .nil)))
noncomputable abbrev Q07:PE:=(.cmp .NotEq (.var 14) (.bin .Add (.bin .Mult (.list (.cons (.cst (.int 52)) .nil)) (.bin .FloorDiv (.var 13) (.cst (.int 3)))) (.bin .Mult (.list (.cons (.cst (.int 23)) .nil)) (.bin .Mod (.var 13) (.cst (.int 3))))))
noncomputable abbrev Q08:PS:=(.asg 22 (.ite (.cmp .NotEq (.var 21) (.list .nil)) (.var 21) (.var 20)))
abbrev Q09:ě:=(.cons (.aug 1 .Sub Qb) (.cons (.ite (.cmp .Lt Qu Qd) Qk .nil) .nil))
abbrev Q0a:PS:=(.ite (.cmp .LtE (.var 7) Λ) (.cons (.asg 8 (.bin .Div (.var 6) (.var 5))) .nil) (.cons (.asg 8 (.bin .Div (.var 6) (.bin .Sub (.bin .Sub (.cst (.flt 0x4000000000000000)) Qt) (.var 4)))) .nil))
end Mine
end
section
open PySem PySem.W PyProof.Rows
namespace Mine.Co
def iI:Î:=
 {pars:=[("x":Str)],n:=1,vars:=[(("x":Str),0)],own:=[],tk:=[],code:=(.cons (.ret (.cmp .Lt Qv (.gcst fG))) .nil)}
def eX:Î:=
 {pars:=[("x":Str)],n:=1,vars:=[(("x":Str),0)],own:=[],tk:=[],code:=(.cons (.ret (.cmp .GtE Qv (.gcst fG))) .nil)}
def qY:Î:=
 {pars:=[("x":Str)],n:=1,vars:=[(("x":Str),0)],own:=[],tk:=[],code:=(.cons (.ret (.cmp .Eq Qv (.gcst kO))) .nil)}
noncomputable def bW:Î:=
 {pars:=[("r":Str),("g":Str),("b":Str)],n:=13,vars:=[(("r":Str),0),(("g":Str),1),(("b":Str),2),(("maxc":Str),3),(("minc":Str),4),(("sumc":Str),5),(("rangec":Str),6),(("l":Str),7),(("s":Str),8),(("rc":Str),9),(("gc":Str),10),(("bc":Str),11),(("h":Str),12)],own:=[],tk:=[],code:=(.cons (.asg 3 (.bi .max (.cons Qv (.cons Qu (.cons ç .nil))))) (.cons (.asg 4 (.bi .min (.cons Qv (.cons Qu (.cons ç .nil))))) (.cons (.asg 5 (.bin .Add Qt (.var 4))) (.cons (.asg 6 (.bin .Sub Qt (.var 4))) (.cons (.asg 7 (.bin .Div (.var 5) (.cst (.flt 0x4000000000000000)))) (.cons (.ite (.cmp .Eq (.var 4) Qt) (.cons (.ret (.tup (.cons (.cst (.flt 0x0000000000000000)) (.cons (.var 7) (.cons (.cst (.flt 0x0000000000000000)) .nil))))) .nil) .nil) (.cons Q0a (.cons (.asg 9 (.bin .Div (.bin .Sub Qt Qv) (.var 6))) (.cons (.asg 10 (.bin .Div (.bin .Sub Qt Qu) (.var 6))) (.cons (.asg 11 (.bin .Div (.bin .Sub Qt ç) (.var 6))) (.cons Q01 (.cons (.asg 12 (.bin .Mod (.bin .Div (.var 12) (.cst (.flt 0x4018000000000000))) Qz)) (.cons (.ret (.tup (.cons (.var 12) (.cons (.var 7) Qx)))) .nil)))))))))))))}
def bS (k:Nat):Î:=
 {pars:=[("h":Str),("l":Str),("s":Str)],n:=5,vars:=[(("h":Str),0),(("l":Str),1),(("s":Str),2),(("m2":Str),3),(("m1":Str),4)],own:=[],tk:=[],code:=(.cons (.ite (.cmp .Eq ç (.cst (.flt 0x0000000000000000))) (.cons (.ret (.tup (.cons Qu (.cons Qu (.cons Qu .nil))))) .nil) .nil) (.cons (.ite (.cmp .LtE Qu Λ) (.cons (.asg 3 (.bin .Mult Qu (.bin .Add Qz ç))) .nil) (.cons (.asg 3 (.bin .Sub (.bin .Add Qu ç) (.bin .Mult Qu ç))) .nil)) (.cons (.asg 4 (.bin .Sub (.bin .Mult (.cst (.flt 0x4000000000000000)) Qu) Qt)) (.cons (.ret (.tup (.cons (.call k (.cons (.var 4) (.cons Qt (.cons (.bin .Add Qv (.gcst kM)) .nil)))) (.cons (.call k (.cons (.var 4) (.cons Qt (.cons Qv .nil)))) (.cons (.call k (.cons (.var 4) (.cons Qt (.cons (.bin .Sub Qv (.gcst kM)) .nil)))) .nil))))) .nil))))}
def f_v:Î:=
 {pars:=[("m1":Str),("m2":Str),("hue":Str)],n:=3,vars:=[(("m1":Str),0),(("m2":Str),1),(("hue":Str),2)],own:=[],tk:=[],code:=(.cons (.asg 2 (.bin .Mod ç Qz)) (.cons (.ite (.cmp .Lt ç (.gcst nS)) (.cons (.ret (.bin .Add Qv (.bin .Mult (.bin .Mult (.bin .Sub Qu Qv) ç) (.cst (.flt 0x4018000000000000))))) .nil) .nil) (.cons (.ite (.cmp .Lt ç Λ) (.cons (.ret Qu) .nil) .nil) (.cons (.ite (.cmp .Lt ç (.gcst kN)) (.cons (.ret (.bin .Add Qv (.bin .Mult (.bin .Mult (.bin .Sub Qu Qv) (.bin .Sub (.gcst kN) ç)) (.cst (.flt 0x4018000000000000))))) .nil) .nil) (.cons (.ret Qv) .nil)))))}
noncomputable def bX:Î:=
 {pars:=[("r":Str),("g":Str),("b":Str)],n:=12,vars:=[(("r":Str),0),(("g":Str),1),(("b":Str),2),(("maxc":Str),3),(("minc":Str),4),(("rangec":Str),5),(("v":Str),6),(("s":Str),7),(("rc":Str),8),(("gc":Str),9),(("bc":Str),10),(("h":Str),11)],own:=[],tk:=[],code:=(.cons (.asg 3 (.bi .max (.cons Qv (.cons Qu (.cons ç .nil))))) (.cons (.asg 4 (.bi .min (.cons Qv (.cons Qu (.cons ç .nil))))) (.cons (.asg 5 (.bin .Sub Qt (.var 4))) (.cons (.asg 6 Qt) (.cons (.ite (.cmp .Eq (.var 4) Qt) (.cons (.ret (.tup (.cons (.cst (.flt 0x0000000000000000)) (.cons (.cst (.flt 0x0000000000000000)) (.cons (.var 6) .nil))))) .nil) .nil) (.cons (.asg 7 (.bin .Div (.var 5) Qt)) (.cons (.asg 8 (.bin .Div (.bin .Sub Qt Qv) (.var 5))) (.cons (.asg 9 (.bin .Div (.bin .Sub Qt Qu) (.var 5))) (.cons (.asg 10 (.bin .Div (.bin .Sub Qt ç) (.var 5))) (.cons Q02 (.cons (.asg 11 (.bin .Mod (.bin .Div (.var 11) (.cst (.flt 0x4018000000000000))) Qz)) (.cons (.ret (.tup (.cons (.var 11) (.cons (.var 7) (.cons (.var 6) .nil))))) .nil))))))))))))}
noncomputable def bT:Î:=
 {pars:=[("h":Str),("s":Str),("v":Str)],n:=8,vars:=[(("h":Str),0),(("s":Str),1),(("v":Str),2),(("i":Str),3),(("f":Str),4),(("p":Str),5),(("q":Str),6),(("t":Str),7)],own:=[],tk:=[],code:=(.cons (.ite (.cmp .Eq Qu (.cst (.flt 0x0000000000000000))) (.cons (.ret (.tup (.cons ç (.cons ç (.cons ç .nil))))) .nil) .nil) (.cons (.asg 3 (.bi .int (.cons (.bin .Mult Qv (.cst (.flt 0x4018000000000000))) .nil))) (.cons (.asg 4 (.bin .Sub (.bin .Mult Qv (.cst (.flt 0x4018000000000000))) Qt)) (.cons (.asg 5 (.bin .Mult ç (.bin .Sub Qz Qu))) (.cons (.asg 6 (.bin .Mult ç (.bin .Sub Qz (.bin .Mult Qu (.var 4))))) (.cons (.asg 7 (.bin .Mult ç (.bin .Sub Qz (.bin .Mult Qu (.bin .Sub Qz (.var 4)))))) (.cons (.asg 3 (.bin .Mod Qt (.cst (.int 6)))) (.cons (.ite (.cmp .Eq Qt Qd) (.cons (.ret (.tup (.cons ç (.cons (.var 7) (.cons (.var 5) .nil))))) .nil) .nil) (.cons (.ite (.cmp .Eq Qt Qb) (.cons (.ret (.tup (.cons (.var 6) (.cons ç (.cons (.var 5) .nil))))) .nil) .nil) (.cons (.ite (.cmp .Eq Qt Qc) (.cons (.ret (.tup (.cons (.var 5) (.cons ç (.cons (.var 7) .nil))))) .nil) .nil) (.cons (.ite (.cmp .Eq Qt (.cst (.int 3))) (.cons (.ret (.tup (.cons (.var 5) (.cons (.var 6) (.cons ç .nil))))) .nil) .nil) (.cons (.ite (.cmp .Eq Qt (.cst (.int 4))) (.cons (.ret (.tup (.cons (.var 7) (.cons (.var 5) (.cons ç .nil))))) .nil) .nil) (.cons (.ite (.cmp .Eq Qt (.cst (.int 5))) (.cons (.ret (.tup (.cons ç (.cons (.var 5) (.cons (.var 6) .nil))))) .nil) .nil) .nil)))))))))))))}
noncomputable def bD:Î:=
 {pars:=[("addr":Str)],n:=6,vars:=[(("addr":Str),0),(("start":Str),1),(("open_pos":Str),2),(("result":Str),3),(("pos":Str),4),(("ch":Str),5)],own:=[3],tk:=[],code:=(.cons (.ite (.cmp .NotIn (.cst (.str ("\"":Str))) Qv) (.cons (.ret Qv) .nil) .nil) (.cons (.asg 1 Qd) (.cons (.asg 2 Qa) (.cons (.asgO 3 (.list .nil)) (.cons (.esc [4,5] Qv (.cons (.ite (.cmp .Eq (.var 5) (.cst (.str ("\"":Str)))) Ql .nil) .nil)) (.cons (.ite (.cmp .Lt Qu (.bi .len (.cons Qv .nil))) (.cons (.app 3 (.slc Qv Qu Qa Qa)) .nil) .nil) (.cons (.ret (.me .join (.cst (.str ("":Str))) (.cons Qt .nil))) .nil)))))))}
noncomputable def bM (k:Nat):Î:=
 {pars:=[("addr":Str)],n:=4,vars:=[(("addr":Str),0),(("opens":Str),1),(("pos":Str),2),(("ch":Str),3)],own:=[],tk:=[],code:=(.cons (.asg 0 (.call k (.cons Qv .nil))) (.cons (.asg 1 Qd) (.cons (.esc [2,3] Qv (.cons (.ite (.cmp .Eq Qt (.cst (.str ("(":Str)))) (.cons (.aug 1 .Add Qb) .nil) (.cons (.ite (.cmp .Eq Qt (.cst (.str (")":Str)))) Q09 .nil) .nil)) .nil)) (.cons (.ret (.cmp .Eq Qu Qd)) .nil))))}
def fI:Î:=
 {pars:=[("text":Str)],n:=3,vars:=[(("text":Str),0),(("numbers":Str),1),(("size":Str),2)],own:=[1],tk:=[],code:=(.cons (.asgO 1 (.list .nil)) (.cons (.while 1000 (.cmp .NotEq Qv (.cst (.str ("":Str)))) (.cons (.asg 2 (.cst (.int 3))) (.cons (.while 1000 (.cmp .NotIn (.slc Qv Qa ç Qa) (.gcst bF)) (.cons (.aug 2 .Sub Qb) .nil)) (.cons (.app 1 (.sub (.gcst bF) (.slc Qv Qa ç Qa))) (.cons (.asg 0 (.slc Qv ç Qa Qa)) .nil))))) (.cons (.ret Qu) .nil)))}
end Mine.Co
end
section
open PySem PySem.W PyProof.Rows
namespace Mine.L2
open Co
def iI:Î:=
 {pars:=[("x":Str)],n:=1,vars:=[(("x":Str),0)],own:=[],tk:=[],code:=(.cons (.ret (.cmp .Lt Qv (.gcst fG))) .nil)}
def eX:Î:=
 {pars:=[("x":Str)],n:=1,vars:=[(("x":Str),0)],own:=[],tk:=[],code:=(.cons (.ret (.cmp .GtE Qv (.gcst fG))) .nil)}
def qY:Î:=
 {pars:=[("x":Str)],n:=1,vars:=[(("x":Str),0)],own:=[],tk:=[],code:=(.cons (.ret (.cmp .Eq Qv (.gcst kO))) .nil)}
noncomputable def bW:Î:=Co.bW
def bS:Î:=Co.bS 5
def f_v:Î:=Co.f_v
noncomputable def bX:Î:=Co.bX
noncomputable def bT:Î:=Co.bT
noncomputable def bD:Î:=Co.bD
noncomputable def bM:Î:=Co.bM 8
def fI:Î:=Co.fI
noncomputable def xL:Î:=
 {pars:=[("marks":Str)],n:=4,vars:=[(("marks":Str),0),(("numbers":Str),1),(("mark":Str),2),(("number":Str),3)],own:=[1],tk:=[],code:=(.cons (.asgO 1 (.list .nil)) (.cons (.for [2] (.val Qv) (.cons (.asg 3 (.ite (.cmp .Eq ç (.cst (.str ("<":Str)))) (.cst (.int 20)) (.cst (.int 21)))) (.cons (.ite (.cmp .Eq (.slc Qu (.neg Qb) Qa Qa) (.list (.cons Qt .nil))) (.cons (.asgO 1 (.bin .Add (.slc Qu Qa (.neg Qb) Qa) (.list (.cons (.bin .Add Qt (.cst (.int 13))) .nil)))) .nil) (.cons (.app 1 Qt) .nil)) .nil))) (.cons (.ret Qu) .nil)))}
noncomputable def kX:Î:=
 {pars:=[("mark":Str)],n:=1,vars:=[(("mark":Str),0)],own:=[],tk:=[],code:=(.cons (.ret (.ite (.cmp .Eq Qv (.cst (.str ("<":Str)))) (.cst (.str (">":Str))) (.cst (.str ("<":Str))))) .nil)}
noncomputable def mZ:Î:=
 {pars:=[("marks":Str)],n:=2,vars:=[(("marks":Str),0),(("numbers":Str),1)],own:=[],tk:=[],code:=(.cons (.asg 1 (.call 10 (.cons (.me .join (.cst (.str ("":Str))) (.cons Qv .nil)) .nil))) (.cons (.ret (.or (.cmp .In (.cst (.int 33)) Qu) (.cmp .In (.cst (.int 34)) Qu))) .nil))}
noncomputable def kY:Î:=
 {pars:=[("place":Str),("share":Str)],n:=5,vars:=[(("place":Str),0),(("share":Str),1),(("lamps":Str),2),(("corner":Str),3),(("far":Str),4)],own:=[2],tk:=[],code:=(.cons (.asgO 2 (.list .nil)) (.cons (.for [3] (.val (.tup (.cons Qd (.cons (.cst (.int 512)) (.cons (.cst (.int 1024)) .nil))))) Qs) (.cons (.ret ç) .nil)))}
noncomputable def m7:Î:=
 {pars:=[("parts":Str),("white":Str)],n:=10,vars:=[(("parts":Str),0),(("white":Str),1),(("red":Str),2),(("green":Str),3),(("blue":Str),4),(("hue":Str),5),(("share":Str),6),(("level":Str),7),(("place":Str),8)],own:=[],tk:=[],code:=(.cons (.asgT [2,3,4] (.comp (.bin .Div (.bin .Add Qu (.var 9)) (.bin .Pow Qc (.cst (.int 17)))) 9 (.val Qv) false Qa)) (.cons (.asgT [5,6,7] (.call 6 (.cons ç (.cons Qt (.cons (.var 4) .nil))))) (.cons (.asg 8 (.bi .int (.cons (.bin .Mult (.cst (.int 512)) (.var 5)) .nil))) (.cons (.ite (.cmp .Eq (.call 0 Qx) (.call 1 Qx)) (.cons (.ret (.cst (.str ("":Str)))) .nil) .nil) (.cons (.ret (.ite (.call 0 Qx) (.cst (.str ("<":Str))) (.cst (.str (">":Str))))) .nil)))))}
noncomputable def jW:Î:=
 {pars:=[("one":Str),("two":Str),("white":Str),("way":Str)],n:=15,vars:=[(("one":Str),0),(("two":Str),1),(("white":Str),2),(("way":Str),3),(("mixed":Str),4),(("red":Str),5),(("green":Str),6),(("blue":Str),7),(("hue":Str),8),(("share":Str),9),(("level":Str),10),(("shown":Str),11)],own:=[],tk:=[],code:=(.cons (.asg 4 (.comp (.bin .Add (.sub Qv (.var 14)) (.sub Qu (.var 14))) 14 (.rng1 (.cst (.int 3))) false Qa)) (.cons (.asgT [5,6,7] (.comp (.bin .Div (.bin .Sub (.bin .Add ç (.var 13)) (.bi .min (.cons (.var 4) .nil))) (.bin .Pow Qc (.cst (.int 17)))) 13 (.val (.var 4)) false Qa)) (.cons (.ite (.cmp .Eq Qt Qd) (.cons (.asgT [8,9,10] (.call 6 (.cons (.var 5) (.cons (.var 6) (.cons (.var 7) .nil))))) (.cons (.asg 11 (.call 7 (.cons (.bin .Add (.var 8) Λ) (.cons (.var 9) (.cons (.var 10) .nil))))) .nil)) (.cons (.asgT [8,10,9] (.call 3 (.cons (.var 5) (.cons (.var 6) (.cons (.var 7) .nil))))) (.cons (.asg 11 (.call 4 (.cons (.bin .Sub (.var 8) Λ) (.cons (.var 10) (.cons (.var 9) .nil))))) .nil))) (.cons (.ret (.comp (.bin .Sub (.bi .int (.cons (.bin .Add (.bin .Mult (.bin .Pow Qc (.cst (.int 17))) (.var 12)) Λ) .nil)) ç) 12 (.val (.var 11)) false Qa)) .nil))))}
noncomputable def oX:Î:=
 {pars:=[("lights":Str),("drawn":Str)],n:=7,vars:=[(("lights":Str),0),(("drawn":Str),1),(("total":Str),2)],own:=[],tk:=[],code:=(.cons (.asg 2 (.comp (.bi .sum (.cons (.comp (.sub (.var 6) (.var 5)) 6 (.val Qv) false Qa) .nil)) 5 (.rng1 (.cst (.int 3))) false Qa)) (.cons (.asg 2 (.comp (.bin .Sub (.var 4) (.bi .min (.cons ç .nil))) 4 (.val ç) false Qa)) (.cons (.ite (.cmp .Eq (.bin .Mod (.bin .Add (.me .count Qu (.cons (.cst (.str ("<":Str))) .nil)) (.bin .Mult Qc (.me .count Qu (.cons (.cst (.str (">":Str))) .nil)))) (.cst (.int 3))) Qb) (.cons (.ret (.tup (.cons (.cst (.str ("<":Str))) (.cons ç .nil)))) .nil) .nil) (.cons (.ret (.tup (.cons (.cst (.str (">":Str))) (.cons (.comp (.bin .Sub (.bi .max (.cons ç .nil)) Qt) 3 (.val ç) false Qa) .nil)))) .nil))))}
noncomputable def AI:Î:=
 {pars:=[("drawn":Str)],n:=9,vars:=[(("drawn":Str),0),(("can":Str),1),(("fewest":Str),2),(("last":Str),3),(("counts":Str),4),(("first":Str),5),(("ways":Str),6),(("cut":Str),7),(("mark":Str),8)],own:=[2,4,1],tk:=[],code:=(.cons (.newD 1) (.cons (.asgO 2 (.list (.cons Qd .nil))) (.cons (.for [3] (.rng2 Qb (.bin .Add (.bi .len (.cons Qv .nil)) Qb)) (.cons (.asgO 4 (.list .nil)) (.cons (.for [5] (.rng3 (.bin .Sub Qt Qb) (.neg Qb)) (.cons (.asg 6 (.ite (.cmp .Eq (.var 5) (.bin .Sub Qt Qb)) (.sub Qv (.var 5)) (.cst (.str ("":Str))))) (.cons (.for [7] (.rng2 (.bin .Add (.var 5) Qb) Qt) (.cons (.for [8] (.val (.sub Qu (.bin .Add (.bin .Mult (.cst (.int 16)) (.var 7)) (.var 5)))) (.cons (.ite (.and (.cmp .In (.var 8) (.sub Qu (.bin .Add (.bin .Mult (.cst (.int 16)) Qt) (.var 7)))) (.cmp .NotIn (.call 12 Qx) (.var 6))) (.cons (.aug 6 .Add (.call 12 Qx)) .nil) .nil) .nil)) .nil)) (.cons (.setI 1 (.bin .Add (.bin .Mult (.cst (.int 16)) Qt) (.var 5)) (.var 6)) (.cons (.ite (.cmp .NotEq (.var 6) (.cst (.str ("":Str)))) (.cons (.app 4 (.bin .Add (.sub ç (.var 5)) Qb)) .nil) .nil) .nil))))) (.cons (.app 2 (.bi .min (.cons (.var 4) .nil))) .nil)))) (.cons (.ret (.sub ç (.neg Qb))) .nil))))}
noncomputable def gB:Î:=
 {pars:=[("whole":Str),("marks":Str)],n:=10,vars:=[(("whole":Str),0),(("marks":Str),1),(("pile":Str),2),(("seen":Str),3),(("units":Str),4),(("told":Str),5),(("at":Str),6),(("sign":Str),7),(("number":Str),8)],own:=[2,5],tk:=[],code:=(.cons (.asgO 2 (.bin .Add (.list (.cons Qd .nil)) (.comp (.ite (.cmp .Eq (.var 9) (.cst (.str ("<":Str)))) (.cst (.int 256)) (.cst (.int 257))) 9 (.val (.slc Qu Qa Qa (.neg Qb))) false Qa))) (.cons (.asg 3 (.call 8 (.cons (.bin .Add Qv (.cst (.str ("\\":Str)))) .nil))) (.cons (.asg 4 (.cst (.str ("":Str)))) (.cons (.asgO 5 (.list .nil)) (.cons (.esc [6,7] Qt (.cons (.aug 4 .Add (.var 7)) (.cons Q05 (.cons (.ite (.and (.cmp .Eq (.bi .len (.cons (.var 7) .nil)) Qb) (.cmp .NotIn (.var 7) (.cst (.str (")\\":Str))))) (.cons (.pop 8 2) (.cons (.ite (.not (.call 1 Qx)) (.cons (.ret (.list .nil)) .nil) .nil) (.cons (.ite (.cmp .Eq (.var 7) (.cst (.str ("(":Str)))) Qw (.cons (.app 5 (.ite (.cmp .Eq (.var 8) (.cst (.int 256))) (.cst (.str ("<":Str))) (.cst (.str (">":Str))))) .nil)) .nil))) .nil) .nil)))) (.cons (.ret (.ite (.and (.cmp .Eq (.var 4) Qt) (.call 2 (.cons (.sub ç (.neg Qb)) .nil))) (.var 5) (.list .nil))) .nil))))))}
noncomputable def HM:Î:=
 {pars:=[("script":Str)],n:=48,vars:=[(("script":Str),0),(("count":Str),1),(("plain":Str),2),(("numbers":Str),3),(("drawn":Str),4),(("shares":Str),5),(("lights":Str),6),(("colours":Str),7),(("white":Str),8),(("kinds":Str),9),(("texts":Str),10),(("marks":Str),11),(("signs":Str),12),(("many":Str),13),(("points":Str),14),(("spot":Str),15),(("turned":Str),16),(("deep":Str),17),(("spans":Str),18),(("step":Str),19),(("like":Str),20),(("good":Str),21),(("choice":Str),22),(("p":Str),23),(("first":Str),24),(("last":Str),25),(("parts":Str),26),(("mark":Str),27),(("rest":Str),28),(("due":Str),29),(("whole":Str),30),(("front":Str),31),(("closed":Str),32),(("text":Str),33),(("shut":Str),34)],own:=[],tk:=[],code:=(.cons (.asg 1 (.ite (.cmp .Lt (.bi .len (.cons Qv .nil)) (.cst (.int 6))) (.cst (.int 5)) (.cst (.int 7)))) (.cons (.asg 2 (.tup (.cons (.cst (.int 19344)) (.cons (.cst (.int 8193)) (.cons (.cst (.int 7678)) (.cons (.cst (.int 2122)) (.cons (.cst (.int 1777)) (.cons (.cst (.int 641)) (.cons (.cst (.int 300)) .nil))))))))) (.cons (.asg 3 (.comp Qf 46 (.rng1 Qu) false Qa)) (.cons (.asg 4 (.comp (.sub (.cst (.str ("<>":Str))) (.bin .Mod (.var 45) Qc)) 45 (.val Qt) false Qa)) (.cons (.asg 5 (.comp (.bin .Add Qb (.bin .Mod (.bin .FloorDiv (.var 44) (.cst (.int 512))) (.cst (.int 4)))) 44 (.val Qt) false Qa)) (.cons (.asg 6 (.comp (.call 14 (.cons (.bin .Mod (.bin .FloorDiv (.sub Qt (.var 43)) Qc) (.cst (.int 256))) (.cons (.sub (.var 5) (.var 43)) .nil))) 43 (.rng1 Qu) false Qa)) (.cons (.asg 7 Q04) (.cons (.asg 8 (.bin .Mult (.bin .Mod (.bin .FloorDiv (.sub Qt Qd) (.cst (.int 2048))) (.cst (.int 15))) (.bin .Pow Qc (.cst (.int 13))))) (.cons (.asg 9 (.list (.cons (.cst (.str ("":Str))) (.cons (.cst (.str ("\\(":Str))) (.cons (.cst (.str ("\\)":Str))) (.cons (.cst (.str ("\"(\"":Str))) (.cons (.cst (.str ("\")\"":Str))) (.cons (.cst (.str ("\"\\\")\"":Str))) (.cons (.cst (.str ("\\\\":Str))) (.cons (.cst (.str ("\\\"":Str))) .nil)))))))))) (.cons (.asg 10 (.comp (.bin .Add (.sub (.cst (.str ("abcdefg":Str))) (.var 41)) (.ite (.cmp .In (.var 41) (.tup (.cons Qb (.cons (.cst (.int 3)) .nil)))) (.sub (.var 9) (.bin .Mod (.bin .FloorDiv (.sub Qt (.var 41)) (.cst (.int 2048))) (.cst (.int 8)))) (.cst (.str ("":Str))))) 41 (.rng1 Qu) false Qa)) (.cons (.asg 11 (.comp (.call 15 (.cons (.var 40) Qx)) 40 (.val (.var 7)) false Qa)) (.cons (.asg 12 (.call 10 (.cons (.me .join (.cst (.str ("":Str))) (.cons (.var 11) .nil)) .nil))) (.cons (.ite (.or (.cmp .NotEq (.var 11) (.var 4)) (.cmp .NotEq (.var 12) (.call 11 (.cons (.var 4) .nil)))) Qk .nil) (.cons (.asg 13 (.bin .Add (.me .count (.var 4) (.cons (.cst (.str ("<":Str))) .nil)) (.bin .Mult Qc (.me .count (.var 4) (.cons (.cst (.str (">":Str))) .nil))))) (.cons (.asg 14 (.call 10 (.cons (.me .join (.cst (.str ("":Str))) (.cons (.comp (.ite (.cmp .Eq (.var 39) (.cst (.str ("<":Str)))) (.cst (.str (".":Str))) (.cst (.str ("..":Str)))) 39 (.val (.var 11)) false Qa) .nil)) .nil))) (.cons (.ite Q07 Qk .nil) (.cons (.asg 15 (.bin .Mod (.bin .FloorDiv (.sub Qt Qc) (.cst (.int 2048))) Qu)) (.cons (.asg 16 Q06) (.cons (.ite (.cmp .NotEq Qn Qr) Qk .nil) (.cons (.asg 17 Qd) (.cons (.asg 18 (.comp (.tup (.cons (.var 37) (.cons (.bin .Add (.var 37) Qb) .nil))) 37 (.rng1 Qu) false Qa)) (.cons (.for [19] (.rng1 (.bin .Sub Qu Qb)) (.cons (.asg 20 Qi) (.cons (.ite (.cmp .Eq (.var 20) (.list .nil)) (.cons .brk .nil) .nil) (.cons (.asg 21 (.comp (.var 35) 35 (.val (.var 20)) true Qe)) (.cons Q08 (.cons (.asg 23 Qm) (.cons (.asgT [24,25] Qo) (.cons (.asg 26 Qh) (.cons (.asg 27 (.call 15 (.cons (.var 26) Qx))) (.cons (.ite Qg Qk .nil) (.cons Qq (.cons Qp (.cons Qj (.cons (.asg 10 (.bin .Add (.bin .Add (.slc (.var 10) Qa (.var 23) Qa) (.list (.cons (.bin .Add (.bin .Add (.bin .Add (.cst (.str ("(":Str))) (.sub (.var 10) (.var 23))) (.sub (.var 10) (.bin .Add (.var 23) Qb))) (.cst (.str (")":Str)))) .nil))) (.slc (.var 10) (.bin .Add (.var 23) Qc) Qa Qa))) Qy)))))))))))))) (.cons (.asg 28 (.me .count (.var 14) (.cons (.cst (.int 23)) .nil))) (.cons (.asg 29 (.ite (.and (.cmp .NotIn (.cst (.int 33)) (.var 12)) (.cmp .NotIn (.cst (.int 34)) (.var 12))) Qu (.ite (.call 2 (.cons (.var 28) .nil)) Qc Qb))) (.cons (.ite (.or (.cmp .NotEq (.bi .len (.cons (.var 11) .nil)) (.var 29)) (.cmp .NotEq (.call 18 (.cons (.var 4) .nil)) (.var 29))) Qk .nil) (.cons (.ite (.and (.cmp .Eq (.var 29) Qb) (.cmp .NotEq (.var 11) (.list (.cons (.ite (.call 2 (.cons (.bin .Sub (.var 28) Qc) .nil)) (.cst (.str (">":Str))) (.cst (.str ("<":Str)))) .nil)))) Qk .nil) (.cons (.asg 30 (.me .join (.cst (.str ("":Str))) (.cons (.var 10) .nil))) (.cons (.ite (.cmp .NotEq (.call 19 (.cons (.var 30) (.cons (.var 11) .nil))) (.var 4)) Qk .nil) (.cons (.asg 31 (.slc (.var 30) Qa (.bin .Add (.me .index (.var 30) (.cons (.sub (.cst (.str ("abcdefg":Str))) (.var 15)) .nil)) Qb) Qa)) (.cons (.asg 32 (.bin .Add (.var 31) (.bin .Mult (.cst (.str (")":Str))) (.var 17)))) (.cons (.for [33,34] (.val (.tup (.cons (.tup (.cons (.var 31) (.cons (.cmp .Eq (.var 17) Qd) .nil))) (.cons (.tup (.cons (.var 32) (.cons (.cst (.bool true)) .nil))) (.cons (.tup (.cons (.bin .Add (.var 32) (.cst (.str (")(":Str)))) (.cons (.cst (.bool false)) .nil))) (.cons (.tup (.cons (.bin .Add (.var 32) (.cst (.str ("\")":Str)))) (.cons (.cst (.bool false)) .nil))) .nil)))))) (.cons (.ite (.cmp .IsNot (.call 9 (.cons (.var 33) .nil)) (.var 34)) Qk .nil) .nil)) (.cons (.ret (.cst (.bool true))) .nil))))))))))))))))))))))))))))))))}
def aP:List Î:=[iI,eX,qY,bW,bS,f_v,bX,bT,bD,bM,fI,xL,kX,mZ,kY,m7,jW,oX,AI,gB,HM]
end Mine.L2
end
section
open PySem PySem.W PyProof.Rows
namespace Mine
theorem aH:(∀(F:Fn) c (pe:Å),aB F (.cst c) pe=(some c))/\
 (∀(F:Fn) c (pe:Å),aB F (.gcst c) pe=(some c))/\
 (∀(F:Fn) i (pe:Å),aB F (.var i) pe=(lk pe i))/\
 (∀(F:Fn) op a b (pe:Å),aB F (.bin op a b) pe=(match aB F a pe,aB F b pe with
  |some x,some y=>fD op x y
  |_,_=>none))/\
 (∀(F:Fn) a (pe:Å),aB F (.neg a) pe=(match aB F a pe with
  |some (.int x)=>some (.int (-x))
  |_=>none))/\
 (∀(F:Fn) a (pe:Å),aB F (.not a) pe=(match aB F a pe with
  |some (.bool x)=>some (.bool (!x))
  |_=>none))/\
 (∀(F:Fn) a b (pe:Å),aB F (.and a b) pe=(match aB F a pe with
  |some (.bool true)=>match aB F b pe with
   |some (.bool x)=>some (.bool x)
   |_=>none
  |some (.bool false)=>some (.bool false)
  |_=>none))/\
 (∀(F:Fn) a b (pe:Å),aB F (.or a b) pe=(match aB F a pe with
  |some (.bool false)=>match aB F b pe with
   |some (.bool x)=>some (.bool x)
   |_=>none
  |some (.bool true)=>some (.bool true)
  |_=>none))/\
 (∀(F:Fn) t a b (pe:Å),aB F (.ite t a b) pe=(match aB F t pe with
  |some (.bool true)=>aB F a pe
  |some (.bool false)=>aB F b pe
  |_=>none))/\
 (∀(F:Fn) op a b (pe:Å),aB F (.cmp op a b) pe=(match aB F a pe,aB F b pe with
  |some x,some y=>(cD op x y).map .bool
  |_,_=>none))/\
 (∀(F:Fn) op Je a b c (pe:Å),aB F (.cmp2 op Je a b c) pe=(match aB F a pe,aB F b pe with
  |some x,some y=>match cD op x y with
   |some true=>match aB F c pe with
    |some z=>(cD Je y z).map .bool
    |none=>none
   |some false=>some (.bool false)
   |none=>none
  |_,_=>none))/\
 (∀(F:Fn) a i (pe:Å),aB F (.sub a i) pe=(match aB F a pe,aB F i pe with
  |some x,some y=>eG x y
  |_,_=>none))/\
 (∀(F:Fn) a lo hi st (pe:Å),aB F (.slc a lo hi st) pe=(match aB F a pe,aB F lo pe,aB F hi pe,aB F st pe with
  |some x,some l,some h,some s=>match fS l,fS h,fS s with
   |some l,some h,some s=>eH x l h s
   |_,_,_=>none
  |_,_,_,_=>none))/\
 (∀(F:Fn) es (pe:Å),aB F (.list es) pe=((cL F es pe).map .lst))/\
 (∀(F:Fn) es (pe:Å),aB F (.tup es) pe=((cL F es pe).map .tup))/\
 (∀(F:Fn) Hd tg src iN c (pe:Å),aB F (.comp Hd tg src iN c) pe=(match gZ F src pe with
  |some À=>(dK (aB F c) (aB F Hd) iN tg pe À).map .lst
  |none=>none))/\
 (∀(F:Fn) f es (pe:Å),aB F (.call f es) pe=(match cL F es pe with
  |some l=>F f l
  |none=>none))/\
 (∀(F:Fn) f es (pe:Å),aB F (.bi f es) pe=(match cL F es pe with
  |some l=>Ē f l
  |none=>none))/\
 (∀(F:Fn) f o es (pe:Å),aB F (.me f o es) pe=(match aB F o pe,cL F es pe with
  |some x,some l=>ś f x l
  |_,_=>none))/\
 (∀(F:Fn)  (pe:Å),cL F .nil pe=(some []))/\
 (∀(F:Fn) e es (pe:Å),cL F (.cons e es) pe=(match aB F e pe,cL F es pe with
  |some x,some l=>some (x::l)
  |_,_=>none))/\
 (∀(F:Fn) e (pe:Å),gZ F (.val e) pe=(match aB F e pe with
  |some p=>pP p
  |none=>none))/\
 (∀(F:Fn) e (pe:Å),gZ F (.rng1 e) pe=(match aB F e pe with
  |some (.int n)=>mO 0 n
  |_=>none))/\
 (∀(F:Fn) e f (pe:Å),gZ F (.rng2 e f) pe=(match aB F e pe,aB F f pe with
  |some (.int a),some (.int b)=>mO a b
  |_,_=>none))/\
 (∀(F:Fn) e f (pe:Å),gZ F (.rng3 e f) pe=(match aB F e pe,aB F f pe with
  |some (.int a),some (.int b)=>uW a b
  |_,_=>none)):= by
 and_intros<;>intros<;>rfl
section
variable{F:Fn}{pe pe':Å}{s:PS}{ss a b:ě}{e t:PE}{p:PV}{i j:Nat}{R:Option (Å×Fl)}
theorem seq (h1:dY F s pe=some (pe',.next)) (h2:aF F ss pe'=R):aF F (.cons s ss) pe=R:= by
 show(match dY F s pe with|some (pe',.next)=>aF F ss pe'|r=>r)=R;exact O h1 h2
theorem aK (h1:dY F s pe=some (pe',.next)):aF F (.cons s .nil) pe=some (pe',.next):=seq h1 rfl
theorem cE:aF F .nil pe=some (pe,.next):=rfl
theorem fN (h:aB F e pe=some p):aF F (.cons (.ret e) ss) pe=some (pe,.ret p):= by
 show(match (match aB F e pe with|some p=>some (pe,Fl.ret p)|none=>none) with|some (pe',.next)=>aF F ss pe'|r=>r)=_;exact O h rfl
theorem iJ (h1:dY F s pe=some (pe',fl)) (h:fl≠.next):aF F (.cons s ss) pe=some (pe',fl):= by
 show(match dY F s pe with|some (pe',.next)=>aF F ss pe'|r=>r)=_;refine O h1 ?_;cases fl with
 |next=>exact absurd rfl h
 |_=>rfl
theorem asg (h:aB F e pe=some p):dY F (.asg i e) pe=some (st pe i p,.next):= by
 show(match aB F e pe with|some p=>some (st pe i p,Fl.next)|none=>none)=_;exact O h rfl
theorem asgO (h:aB F e pe=some (.lst l)):dY F (.asgO i e) pe=some (st pe i (.lst l),.next):= by
 show(match aB F e pe with|some (.lst l)=>some (st pe i (.lst l),Fl.next)|_=>none)=_;exact O h rfl
theorem asgT (h:aB F e pe=some p) (hb:gQ ts p pe=some pe'):dY F (.asgT ts e) pe=some (pe',.next):= by
 show(match aB F e pe with|some p=>(match gQ ts p pe with|some pe'=>some (pe',Fl.next)|none=>none)|none=>none)=_;refine O h ?_;show(match gQ ts p pe with|some pe'=>some (pe',Fl.next)|none=>none)=_;exact O hb rfl
theorem app (h0:lk pe i=some (.lst l)) (h:aB F e pe=some p) (hl:l.length<=100000):dY F (.app i e) pe=some (st pe i (.lst (l++[p])),.next):= by
 show(match lk pe i,aB F e pe with|some (.lst x),some y=>if x.length<=100000 then some (st pe i (.lst (x++[y])),Fl.next) else none|_,_=>none)=_;exact O h0 (O h (if_pos hl))
theorem fJ (h:aB F t pe=some (.bool true)) (h2:aF F a pe=R):dY F (.ite t a b) pe=R:= by
 show(match aB F t pe with|some (.bool true)=>aF F a pe|some (.bool false)=>aF F b pe|_=>none)=_;exact O h h2
theorem dE (h:aB F t pe=some (.bool false)) (h2:aF F b pe=R):dY F (.ite t a b) pe=R:= by
 show(match aB F t pe with|some (.bool true)=>aF F a pe|some (.bool false)=>aF F b pe|_=>none)=_;exact O h h2
theorem yU (h:aB F t pe=some (.bool c)) (h1:c=true->aF F a pe=R) (h2:c=false->aF F b pe=R):dY F (.ite t a b) pe=R:= by
 cases c
 ·exact dE h (h2 rfl)
 ·exact fJ h (h1 rfl)
theorem aug (h0:lk pe i=some x) (h:aB F e pe=some y) (hz:zX op x y=some z):dY F (.aug i op e) pe=some (st pe i z,.next):= by
 show(match lk pe i,aB F e pe with|some x,some y=>(match zX op x y with|some z=>some (st pe i z,Fl.next)|none=>none)|_,_=>none)=_;refine O h0 (O h ?_);show(match zX op x y with|some z=>some (st pe i z,Fl.next)|none=>none)=_;exact O hz rfl
theorem pop (h0:lk pe i=some (.lst (l++[y]))) (hl:l.length+1<=100000):dY F (.pop j i) pe=some (st (st pe i (.lst l)) j y,.next):= by
 show(match lk pe i with|some (.lst x)=>(match x.getLast? with|some y=>if x.length<=100000 then some (st (st pe i (.lst x.dropLast)) j y,Fl.next) else none|none=>none)|_=>none)=_;simp only[h0,qh,cy,dc,lg,lq,hl,if_true,qi]
theorem O7 (h:gZ F src pe=some À) (h2:eR (aF F a) ts À pe=R):dY F (.for ts src a) pe=R:= by
 show(match gZ F src pe with|some À=>eR (aF F a) ts À pe|none=>none)=_;exact O h h2
theorem HN (h:aB F e pe=some p) (hi:f6 p=some À) (h2:eR (aF F a) ts À pe=R):dY F (.esc ts e a) pe=R:= by
 show(match aB F e pe with|some p=>(match f6 p with|some À=>eR (aF F a) ts À pe|none=>none)|none=>none)=_;refine O h ?_;show(match f6 p with|some À=>eR (aF F a) ts À pe|none=>none)=_;exact O hi h2
theorem HO (h2:gG (aB F t) (aF F a) n pe=R):dY F (.while n t a) pe=R:=h2
theorem kZ (hl:args.length=f.pars.length) (h:aF F f.code (lI args f.n)=some (pe',.ret v)):e9 F f args=some v:= by
 show(if args.length=f.pars.length then(match aF F f.code (lI args f.n) with|some (_,.ret v)=>some v|_=>none) else none)=_;exact O (if_pos hl) (O h rfl)
noncomputable def iR:Option (Å×Fl)->Option PV
 |some (_,.ret v)=>some v
 |_=>none
theorem kE (hl:args.length=f.pars.length) (h:iR (aF F f.code (lI args f.n))=some v):e9 F f args=some v:=(if_pos hl).trans h
theorem bG (h1:dY F s pe=some (pe',.next)) (h2:iR (aF F ss pe')=v):iR (aF F (.cons s ss) pe)=v:= by
 show iR (match dY F s pe with|some (pe',.next)=>aF F ss pe'|r=>r)=v;exact O h1 h2
theorem fK (h:aB F e pe=some p):iR (aF F (.cons (.ret e) ss) pe)=some p:=by refine O (fN h) ?_;rfl
theorem VZ (h:iR (dY F s pe)=some v):iR (aF F (.cons s ss) pe)=some v:= by
 show iR (match dY F s pe with|some (pe',.next)=>aF F ss pe'|r=>r)=_;revert h;cases dY F s pe with
 |none=>exact λh=>nn h
 |some x=>
  obtain⟨q,fl⟩:=x;cases fl with
  |ret u=>exact id
  |next=>exact λh=>nn h
  |brk=>exact λh=>nn h
theorem k7 (h:aB F t pe=some (.bool true)) (h2:iR (aF F a pe)=some v):iR (aF F (.cons (.ite t a b) ss) pe)=some v:=VZ (by exact O (fJ h rfl) h2)
theorem dC (h:aB F t pe=some (.bool false)) (h2:iR (aF F ss pe)=v):iR (aF F (.cons (.ite t a .nil) ss) pe)=v:=bG (dE h cE) h2
end
theorem dN (x y:Int):fD .Add (.int x) (.int y)=some (.int (x+y)):=rfl
theorem nZ (x y:Int):fD .Sub (.int x) (.int y)=some (.int (x-y)):=rfl
theorem l7 (x y:Int) (h:nT x=true):fD .Mult (.int x) (.int y)=some (.int (x*y)):=by show(if _ then _ else _)=_;exact O (if_pos h) rfl
theorem dP (x y:Int) (h:0<y):fD .Mod (.int x) (.int y)=some (.int (x%y)):=by show(if _ then _ else _)=_;exact O (if_pos h) rfl
theorem fO (x y:Int) (h:0<y/\y<1000000000):fD .FloorDiv (.int x) (.int y)=some (.int (x/y)):=by show(if _ then _ else _)=_;exact O (if_pos h) rfl
theorem v9 (x y:Int) (h:2<=x/\x<100/\0<=y/\y<100):fD .Pow (.int x) (.int y)=some (.int (x^y.toNat)):=by show(if _ then _ else _)=_;exact O (if_pos h) rfl
theorem O8 (x y:UInt64):fD .Add (.flt x) (.flt y)=some (.flt (add x y)):=rfl
theorem O9 (x y:UInt64):fD .Sub (.flt x) (.flt y)=some (.flt (ab x y)):=rfl
theorem PA (x y:UInt64):fD .Mult (.flt x) (.flt y)=some (.flt (mul x y)):=rfl
theorem eJ (x y:UInt64) (h:bz y=false):fD .Div (.flt x) (.flt y)=some (.flt (div x y)):=by show(if _ then _ else _)=_;refine O h ?_;rfl
theorem wA (x y:UInt64) (h:bz y=false):fD .Mod (.flt x) (.flt y)=some (.flt (ca x y).2):=by show(if _ then _ else _)=_;refine O h ?_;rfl
theorem PB (x:UInt64) (y:Int) (h:Ļ y=true):fD .Sub (.flt x) (.int y)=some (.flt (ab x (cu y))):=by show(if _ then _ else _)=_;exact O (if_pos h) rfl
theorem qZ (x:Int) (y:UInt64) (h:Ļ x=true):fD .Mult (.int x) (.flt y)=some (.flt (mul (cu x) y)):=by show(if _ then _ else _)=_;exact O (if_pos h) rfl
theorem PC (x y:Str) (h:x.length+y.length<=100000):fD .Add (.str x) (.str y)=some (.str (x++y)):=by show(if _ then _ else _)=_;exact O (if_pos h) rfl
theorem kF (x y:List PV) (h:x.length+y.length<=100000):fD .Add (.lst x) (.lst y)=some (.lst (x++y)):=by show(if _ then _ else _)=_;exact O (if_pos h) rfl
noncomputable def Ĕ (a b:UInt64):Bool:=ex a b==some md
theorem UB (x y:UInt64):cD .Eq (.flt x) (.flt y)=some (Ĕ x y):=rfl
theorem UC (x y:UInt64):cD .Lt (.flt x) (.flt y)=some (Ģ x y):=rfl
theorem UD (x y:UInt64):cD .LtE (.flt x) (.flt y)=some (Ģ x y||Ĕ x y):=rfl
theorem AJ (x y:Int):cD .Lt (.int x) (.int y)=some (decide (x<y)):=rfl
theorem HP (x y:Int):cD .LtE (.int x) (.int y)=some (decide (x<=y)):=rfl
theorem UE (x y:Int):cD .Gt (.int x) (.int y)=some (decide (x>y)):=rfl
theorem UF (x y:Int):cD .GtE (.int x) (.int y)=some (decide (x>=y)):=rfl
theorem PD (l:List PV) (n:Int):fD .Mult (.lst l) (.int n)=RU l n:=rfl
theorem PF (x:Str) (n:Int):fD .Mult (.str x) (.int n)=RS x n:=rfl
theorem XK (x y:Int):Ē .max [.int x,.int y]=some (.int (if y>x then y else x)):=congrArg (λn=>some (PV.int n)) (zV _ _)
theorem XM (x y:Int):Ē .min [.int x,.int y]=some (.int (if y<x then y else x)):=congrArg (λn=>some (PV.int n)) (zV _ _)
theorem AK (x y:Int):cD .Eq (.int x) (.int y)=some (x==y):= by
 show ü 3 (.int x) (.int y)=_;rfl
def á (r g b:UInt64):UInt64:=if Ÿ g r then(if Ÿ b g then b else g) else(if Ÿ b r then b else r)
def ó (r g b:UInt64):UInt64:=if Ģ g r then(if Ģ b g then b else g) else(if Ģ b r then b else r)
theorem XN (r g b:UInt64):Ē .max [.flt r,.flt g,.flt b]=some (.flt (á r g b)):=rfl
theorem XO (r g b:UInt64):Ē .min [.flt r,.flt g,.flt b]=some (.flt (ó r g b)):=rfl
theorem Ù:(∀(a:Option PV) (l:Å),lk (a::l) 0=a)/\(∀(a:Option PV) (l:Å) (n:Nat),lk (a::l) (n+1)=lk l n)/\(∀(a:Option PV) (l:Å) (p:PV),st (a::l) 0 p=some p::l)/\(∀(a:Option PV) (l:Å) (n:Nat) (p:PV),st (a::l) (n+1) p=a::st l n p)/\(∀x y:Int,fD .Add (.int x) (.int y)=some (.int (x+y)))/\(∀x y:Int,fD .Sub (.int x) (.int y)=some (.int (x-y)))/\(∀x y:UInt64,fD .Add (.flt x) (.flt y)=some (.flt (add x y)))/\(∀x y:UInt64,fD .Sub (.flt x) (.flt y)=some (.flt (ab x y)))/\(∀x y:UInt64,fD .Mult (.flt x) (.flt y)=some (.flt (mul x y)))/\(∀x y:UInt64,cD .Eq (.flt x) (.flt y)=some (Ĕ x y))/\(∀x y:UInt64,cD .Lt (.flt x) (.flt y)=some (Ģ x y))/\(∀x y:UInt64,cD .LtE (.flt x) (.flt y)=some (Ģ x y||Ĕ x y))/\(∀x y:Int,cD .Lt (.int x) (.int y)=some (decide (x<y)))/\(∀x y:Int,cD .LtE (.int x) (.int y)=some (decide (x<=y)))/\(∀x y:Int,cD .Gt (.int x) (.int y)=some (decide (x>y)))/\(∀x y:Int,cD .GtE (.int x) (.int y)=some (decide (x>=y)))/\(∀x y:Int,cD .Eq (.int x) (.int y)=some (x==y))/\(∀x y:Int,Ē .max [.int x,.int y]=some (.int (if y>x then y else x)))/\(∀x y:Int,Ē .min [.int x,.int y]=some (.int (if y<x then y else x)))/\(∀r g b:UInt64,Ē .max [.flt r,.flt g,.flt b]=some (.flt (á r g b)))/\(∀r g b:UInt64,Ē .min [.flt r,.flt g,.flt b]=some (.flt (ó r g b)))/\(∀(α β:Type) (f:α->β) (a:α),(some a).map f=some (f a)):=
 ⟨λ_ _=>rfl,λ_ _ _=>rfl,λ_ _ _=>rfl,λ_ _ _ _=>rfl,dN,nZ,O8,O9,PA,UB,UC,UD,AJ,HP,UE,UF,AK,XK,XM,XN,XO,λ_ _ _ _=>rfl⟩
noncomputable def sx (l:List Nat):Str:=⟨l.toArray⟩
theorem kG (l:List Nat):(sx l).length=l.length:=by rfl
theorem n9 (l:List Nat):(sx l).cps.toList=l:=by simp[sx]
theorem XP (h:sx a=sx b):a=b:=by exact aBD (n9 a) (O h (O (n9 ..) rfl))
theorem AL (a b:List Nat):sx a++sx b=sx (a++b):= by
 show Str.mk _=Str.mk _;simp[sx]
theorem PG (a b:List Nat):(sx a==sx b)=(a==b):= by
 by_cases h:a=b
 ·subst h;simp
 ·exact O (beq_eq_false_iff_ne.mpr h) (O (propext beq_eq_false_iff_ne) (λe=>h (XP e)))
theorem wB{α:Type}(l:List α):∀(n a:Nat),((cw n).map (a+·)).filterMap (l[·]?)=(l.drop a).take n
 |0,a=>by rfl
 |n+1,a=>by
  refine O vx (O dj (O List.filterMap_append (O (wB l n a) ?_)));simp only[al,gw,fb,List.filterMap_nil];refine O List.take_succ (O (ro) ?_);cases l[a+n]?<;>rfl
theorem XQ (a b:Nat):sliceRange (a:Int) (b:Int) 1=(cw (b-a)).map (a+·):=sliceRange_one a b
theorem Κ (h:0<=k) (n:Nat):max 0 (min (if k<0 then k+(n:Int) else k) (n:Int))=((min k.toNat n:Nat):Int):= by
 refine xe (om h) λm aT=>?_;subst aT;refine O (if_neg (dt.mpr h)) ?_;show max 0 (min (m:Int) (n:Int))=((min m n:Nat):Int);rcases Dv m n with q|q
 ·exact O (qt q) (O (Bq (mi.mpr q)) (An h))
 ·exact O (um q) (O (Am (mi.mpr q)) (An (yq n)))
theorem UG (a b n:Nat):min b n-min a n=min b n-a:= by
 rcases Dv a n with q|q
 ·exact O (qt q) rfl
 ·exact O (um q) (O (mo (nh b n)) (O (mo (aa (nh b n) q)) rfl))
noncomputable def kH (a b n:Nat):List Nat:=(cw (min b n-min a n)).map (min a n+·)
theorem PH{α:Type}(l:List α) (a b:Nat):(kH a b l.length).filterMap (l[·]?)=(l.take b).drop a:= by
 delta kH
 refine O (wB ..) (aBD Ck (O (List.take_eq_take_iff.mpr (show min (min b l.length) l.length=min b l.length by rw[Da,Dw])) (List.drop_eq_drop_iff.mpr ?_)));exact O qd (O (Da ..) (O (um (nh b l.length)) rfl))
theorem wC{α:Type}(l:List α) (a b:Nat):(kH a b l.length).length=((l.take b).drop a).length:= by
 rw[kH,eb,pg,UG,pz,qd]
theorem AM (a b n:Nat):sliceRange ((min a n:Nat):Int) ((min b n:Nat):Int) 1=kH a b n:=XQ _ _
theorem HQ (a n:Nat):sliceRange ((min a n:Nat):Int) (n:Int) 1=kH a n n:=by exact aBD (AM ..) (O (Dw ..) rfl)
theorem HR (b n:Nat):sliceRange 0 ((min b n:Nat):Int) 1=kH 0 b n:=by refine aBD (AM ..) (O (Nat.zero_min ..) ?_);rfl
theorem AN{l:List PV}{lo hi:Option Int}{a b:Nat}(hl:l.length<=100000) (h:fC lo hi none l.length=kH a b l.length):eH (.lst l) lo hi none=some (.lst ((l.take b).drop a)):= by
 show(if _ then _ else _)=_;exact O (if_pos ⟨hl,λq=>nomatch q⟩) (O h (O (PH ..) rfl))
theorem UH (h:0<=a) (h':0<=b) (n:Nat):fC (some a) (some b) none n=kH a.toNat b.toNat n:= by
 delta fC sliceBounds
 dsimp only[iw,show(1:Int)>0 by decide,if_true]
 (rw[Κ h,Κ h'];exact O (AM ..) rfl)
theorem PJ (h:0<=a) (n:Nat):fC (some a) none none n=kH a.toNat n n:= by
 delta fC sliceBounds
 dsimp only[iw,show(1:Int)>0 by decide,if_true]
 (rw[Κ h];exact O (HQ ..) rfl)
theorem PK (h:0<=b) (n:Nat):fC none (some b) none n=kH 0 b.toNat n:= by
 delta fC sliceBounds
 dsimp only[iw,show(1:Int)>0 by decide,if_true]
 (rw[Κ h];exact O (HR ..) rfl)
theorem PL (l:List PV) (k:Int) (h:0<=k) (hl:l.length<=100000):eH (.lst l) none (some k) none=some (.lst (l.take k.toNat)):=AN (a:=0) hl (PK h _)
theorem PM (l:List PV) (k:Int) (h:0<=k) (hl:l.length<=100000):eH (.lst l) (some k) none none=some (.lst (l.drop k.toNat)):= by
 exact O (AN hl (PJ h _)) (O ly rfl)
theorem ZU (l:List PV) (a b:Int) (h:0<=a) (h':0<=b) (hl:l.length<=100000):eH (.lst l) (some a) (some b) none=some (.lst ((l.take b.toNat).drop a.toNat)):=AN hl (UH h h' _)
theorem yV{α β:Type}{f g:α->Option β}:∀{l:List α},(∀x∈l,f x=g x)->l.filterMap f=l.filterMap g
 |[],_=>rfl
 |a::l,h=>by exact O fb (O fb (O (h a (ak)) (O (yV λx hx=>h x (by simp[hx])) rfl)))
theorem XR (l:List Nat) (ix:List Nat) (r:List Nat) (h:ix.filterMap (l[·]?)=r) (Ts:ix.length=r.length) (hr:r.length=l.length->r=l):
  (if (ix.length==l.length)=true then sx l else(⟨(ix.filterMap ((sx l).cps[·]?)).toArray⟩:Str))=sx r:= by
 have e:∀i:Nat,(sx l).cps[i]?=l[i]?:=by intro i;simp[sx]
 have e2:ix.filterMap ((sx l).cps[·]?)=r:=by exact aBD h (yV λi _=>e i)
 refine O e2 ?_
 by_cases hc:ix.length=l.length
 ·exact O (if_pos (by simpa using hc)) (O (hr (bf (æ (.x .q .r) [.z1 .q .s,.z1 .s .r] Ts.symm hc) (æ (.x .q .r) [.z1 .s .r,.z1 .q .s] Ts hc.symm))) rfl)
 ·refine O (if_neg (by simpa using hc)) ?_;rfl
theorem UI (h:0<=a) (h':0<=b) (n:Nat):kP (some a) (some b) none n=kH a.toNat b.toNat n:= by
 delta kP jq
 dsimp only[iw,show(1:Int)>0 by decide,if_true]
 (rw[Κ h,Κ h'];exact O (AM ..) rfl)
theorem PN (h:0<=a) (n:Nat):kP (some a) none none n=kH a.toNat n n:= by
 delta kP jq
 dsimp only[iw,show(1:Int)>0 by decide,if_true]
 (rw[Κ h];exact O (HQ ..) rfl)
theorem PO (h:0<=b) (n:Nat):kP none (some b) none n=kH 0 b.toNat n:= by
 delta kP jq
 dsimp only[iw,show(1:Int)>0 by decide,if_true]
 (rw[Κ h];exact O (HR ..) rfl)
theorem AO{l:List Nat}{lo hi:Option Int}{a b:Nat}(hl:l.length<=100000) (h:kP lo hi none l.length=kH a b l.length):eH (.str (sx l)) lo hi none=some (.str (sx ((l.take b).drop a))):= by
 have hs:((l.take b).drop a).Sublist l:=(List.drop_sublist a _).trans (List.take_sublist b l);show(if _ then _ else _)=_;exact O (kG ..) (O h (O (if_pos ⟨rfl,by rw[wC];exact aa hs.length_le hl⟩) (O (XR l _ _ (PH l a b) (wC l a b) hs.eq_of_length) rfl)))
theorem FI (l:List Nat) (k:Int) (h:0<=k) (hl:l.length<=100000):eH (.str (sx l)) none (some k) none=some (.str (sx (l.take k.toNat))):=AO (a:=0) hl (PO h _)
theorem PP (l:List Nat) (k:Int) (h:0<=k) (hl:l.length<=100000):eH (.str (sx l)) (some k) none none=some (.str (sx (l.drop k.toNat))):= by
 exact O (AO hl (PN h _)) (O ly rfl)
theorem ZV (l:List Nat) (a b:Int) (h:0<=a) (h':0<=b) (hl:l.length<=100000):eH (.str (sx l)) (some a) (some b) none=some (.str (sx ((l.take b.toNat).drop a.toNat))):=AO hl (UI h h' _)
theorem k8 (a b:List Nat):cD .Eq (.str (sx a)) (.str (sx b))=some (a==b):= by
 show some (sx a==sx b)=_;exact O (PG ..) rfl
theorem iK (a b:List Nat) (h:a.length+b.length<=100000):fD .Add (.str (sx a)) (.str (sx b))=some (.str (sx (a++b))):= by
 exact O (PC _ _ (by rw[kG,kG];exact h)) (O (AL ..) rfl)
section
section
variable{F:Fn}{pe pe':Å}{a:ě}{t:PE}{n:Nat}{R:Option (Å×Fl)}
theorem UJ (h:aB F t pe=some (.bool false)):gG (aB F t) (aF F a) (n+1) pe=some (pe,.next):= by
 show(match aB F t pe with|some (.bool false)=>_|some (.bool true)=>_|_=>_)=_;exact O h rfl
theorem UK (h:aB F t pe=some (.bool true)) (hb:aF F a pe=some (pe',.next)) (h2:gG (aB F t) (aF F a) n pe'=R):gG (aB F t) (aF F a) (n+1) pe=R:= by
 show(match aB F t pe with|some (.bool false)=>_|some (.bool true)=>_|_=>_)=_;refine O h ?_;show(match aF F a pe with|some (Gi,.next)=>_|some (Gi,.brk)=>_|some (Gi,.ret v)=>_|none=>_)=_;exact O hb h2
end
def xM:List (Str×SV):=match Co.bF with|.dcts l=>l|_=>[]
theorem HS:Co.bF=.dcts xM:=rfl
def tk (l:List Nat):Option Int:=match xM.lookup (sx l) with
 |some (.i n)=>some n
 |_=>none
theorem PQ:∀x∈xM,∃n,x.2=SV.i n:= by
 have:(xM.all λx=>match x.2 with|.i _=>true|_=>false)=true:=by decide +kernel
 intro x hx;have:=ao.mp this x hx;cases h:x.2 with
 |i n=>exact⟨n,rfl⟩
 |t s=>rw[h] at this;cases this
set_option tactic.hygienic true in
theorem tX (h:tk l=some n):xM.lookup (sx l)=some (.i n):= by
 delta tk at h
 revert h;cases xM.lookup (sx l) with
 |none=>exact nn
 |some v=>cases v with
  |i m=>exact λh=>congrArg (λn=>some (SV.i n)) (sm h)
  |_=>exact nn
theorem HT (h:tk l=none):xM.lookup (sx l)=none:= by
 cases hl:xM.lookup (sx l) with
 |none=>rfl
 |some v=>
  refine xe (PQ _ (bI hl)) λn hn=>?_;simp only at hn;subst hn;unfold tk at h;rw[hl] at h;cases h
def C4 (l:List Nat):Option (Int×Nat):=match tk (l.take 3) with
 |some n=>some (n,3)
 |none=>match tk (l.take 2) with
  |some n=>some (n,2)
  |none=>match tk (l.take 1) with
   |some n=>some (n,1)
   |none=>none
def toks:Nat->List Nat->Option (List Int)
 |_,[]=>some []
 |0,_::_=>none
 |f+1,c::l=>match C4 (c::l) with
  |some (n,k)=>(toks f ((c::l).drop k)).map (n::·)
  |none=>none
variable{F:Fn}
theorem FJ (l:List Nat) (Â:PV) (hl:l.length<=100000) (h:C4 l=some (n,k)):
  gG (aB F (.cmp .NotIn (.slc Qv Qa ç Qa) (.gcst Co.bF))) (aF F (.cons (.aug 2 .Sub Qb) .nil)) 1000 [some (.str (sx l)),some Â,some (.int 3)]=
   some ([some (.str (sx l)),some Â,some (.int (k:Int))],.next)/\tk (l.take k)=some n/\1<=k:= by
 have test:∀m:Int,0<=m->aB F (.cmp .NotIn (.slc Qv Qa ç Qa) (.gcst Co.bF)) [some (.str (sx l)),some Â,some (.int m)]=some (.bool (!(xM.lookup (sx (l.take m.toNat))).isSome)):= by
  intro m hm;refine O HS ?_;simp only[aH,Ù,mP,mQ,FI l m hm hl];rfl
 have dec:∀m:Int,aF F (.cons (.aug 2 .Sub Qb) .nil) [some (.str (sx l)),some Â,some (.int m)]=some ([some (.str (sx l)),some Â,some (.int (m-1))],.next):=λm=>aK (aug rfl rfl rfl);unfold C4 at h;cases h3:tk (l.take 3) with
 |some n3=>
  rw[h3] at h;cases h;refine(Ý (UJ ?_) h3 (by decide));refine O (test 3 (by decide)) (O (show(3:Int).toNat=3 from rfl) (O (tX h3) ?_));rfl
 |none=>
  rw[h3] at h;simp only at h;have t3:=test 3 (by decide);rw[show(3:Int).toNat=3 from rfl,HT h3] at t3;cases h2:tk (l.take 2) with
  |some n2=>
   rw[h2] at h;cases h;refine(Ý (UK t3 (dec 3) (UJ ?_)) h2 (by decide));refine O (show(3-1:Int)=2 from rfl) (O (test 2 (by decide)) (O (show(2:Int).toNat=2 from rfl) (O (tX h2) ?_)));rfl
  |none=>
   rw[h2] at h;simp only at h;have t2:=test 2 (by decide);rw[show(2:Int).toNat=2 from rfl,HT h2] at t2;cases h1:tk (l.take 1) with
   |some n1=>
    rw[h1] at h;cases h;refine(Ý (UK t3 (dec 3) (UK t2 (dec 2) (UJ ?_))) h1 (by decide));refine O (show(2-1:Int)=1 from rfl) (O (test 1 (by decide)) (O (show(1:Int).toNat=1 from rfl) (O (tX h1) ?_)));rfl
   |none=>rw[h1] at h;cases h
theorem XS:toks f []=some []:=by cases f<;>rfl
theorem XT:toks (f+1) (c::l)=match C4 (c::l) with
  |some (n,k)=>(toks f ((c::l).drop k)).map (n::·)
  |none=>none:=rfl
theorem yW:∀(f:Nat) (l:List Nat) (r:List Int) (acc:List PV) (sz:Option PV),toks f l=some r->l.length<=1000->acc.length+f<=10000->
  ∃sz',gG (aB F (.cmp .NotEq Qv (.cst (.str ("":Str))))) (aF F (.cons (.asg 2 (.cst (.int 3))) (.cons (.while 1000 (.cmp .NotIn (.slc Qv Qa ç Qa) (.gcst Co.bF)) (.cons (.aug 2 .Sub Qb) .nil)) (.cons (.app 1 (.sub (.gcst Co.bF) (.slc Qv Qa ç Qa))) (.cons (.asg 0 (.slc Qv ç Qa Qa)) .nil)))))
   (f+1) [some (.str (sx l)),some (.lst acc),sz]=some ([some (.str (sx [])),some (.lst (acc++r.map .int)),sz'],.next)
 |f,[],r,acc,sz,h,_,_=>by
  simp[XS] at h;subst h;refine⟨sz,?_⟩;refine O gw (O (ge ..) (UJ ?_));refine O (show("":Str)=sx [] from rfl) ?_;rfl
 |0,_::_,_,_,_,h,_,_=>by trivial
 |f+1,c::l,r,acc,sz,h,hl,ha=>by
  rw[XT] at h;cases hm:C4 (c::l) with
  |none=>rw[hm] at h;cases h
  |some x=>
   obtain⟨n,k⟩:=x;rw[hm] at h;simp only at h;cases ht:toks f ((c::l).drop k) with
   |none=>rw[ht] at h;cases h
   |some r'=>
    rw[ht] at h;cases h;refine Ą (FJ (F:=F) (c::l) (.lst acc) (aa hl (by decide)) hm) λi1 i2 i3=>?_;refine xe (yW f ((c::l).drop k) r' (acc++[.int n]) (some (.int (k:Int))) ht (by simp;simp at hl;exact Ò (.x .kc (.A .kj .r)) [.x .q (.N 999)] hl) (by simp;exact Ò (.x (.A .kc .r) (.N 10000)) [.x (.A .q .ke) (.N 10000)] ha)) λsz' ih=>?_;refine⟨sz',UK (pe':=[some (.str (sx ((c::l).drop k))),some (.lst (acc++[.int n])),some (.int (k:Int))]) ?_ ?_ ?_⟩
    ·refine O (show("":Str)=sx [] from rfl) ?_;rfl
    ·refine seq (asg (by rfl)) ?_;simp only[bP,bQ];refine seq (HO i1) ?_;refine seq (app (p:=.int n) (l:=acc) rfl ?_ (Ò (.x .q .kv) [.x (.A .q .ke) (.N 10000)] ha)) ?_
     ·refine O HS ?_;simp only[aH,Ù,mP,mQ,FI (c::l) (k:Int) (yb) (aa hl (by decide)),dh];show(xM.lookup (sx ((c::l).take k))).map SV.pv=_;refine O (tX i2) ?_;rfl
     ·simp only[bP,bQ];refine aK (asg ?_);exact PP (c::l) (k:Int) (yb) (by lia)
    ·refine O ih ?_;simp
theorem wD (h:toks 999 l=some r) (hl:l.length<=1000):e9 F Co.fI [.str (sx l)]=some (.lst (r.map .int)):= by
 apply kE rfl;show iR (aF F Co.fI.code [some (.str (sx l)),none,none])=_
 delta Co.fI
 refine bG (asgO (l:=[]) (by rfl)) ?_;simp only[bP,bQ];refine xe (yW (F:=F) 999 l r [] none h hl (by decide)) λsz' hw=>?_;refine bG (HO hw) ?_;refine fK ?_;simp only[aH,Ù];simp
end
def ŷ (x:Nat×List Nat):PV:=.tup [.int (x.1:Int),.str (sx x.2)]
noncomputable def esc:Nat->Bool->List Nat->List (Nat×List Nat)
 |k,true,[]=>[(k-1,[92])]
 |_,false,[]=>[]
 |k,true,c::l=>(k,[92,c])::esc (k+1) false l
 |k,false,c::l=>if c=92 then esc (k+1) true l else(k,[c])::esc (k+1) false l
theorem fT:esc k true []=[(k-1,[92])]:=rfl
theorem fU:esc k false []=[]:=rfl
theorem fV:esc k true (c::l)=(k,[92,c])::esc (k+1) false l:=rfl
theorem fW:esc k false (c::l)=if c=92 then esc (k+1) true l else(k,[c])::esc (k+1) false l:=rfl
theorem tY:∀(l:List Nat) (k:Nat) (b:Bool),(b=true->0<k)->f0 k b l=(esc k b l).map ŷ
 |[],k,true,h=>by
  have:=h rfl
  dsimp only[EF,EG,EH,EI,fT,fU,fV,fW,al,gw,ŷ,sx]
  exact O (show((k:Int)-1)=((k-1:Nat):Int) by exact cb (Ò (.l (.S .q .n1) .r) [.z1 .q .ke] (af (ã [_] (.x .n1 .q) [.y .n0 .q] this)).symm) (Ò (.l .q (.S .r .n1)) [.z1 .kc .r] (af (ã [_] (.x .n1 .q) [.y .n0 .q] this)))) rfl
 |[],k,false,_=>rfl
 |c::l,k,true,_=>by
  dsimp only[EF,EG,EH,EI,fT,fU,fV,fW,al,ŷ,sx]
  exact O (tY l (k+1) false (by simp)) rfl
 |c::l,k,false,_=>by
  dsimp only[EF,EG,EH,EI,fT,fU,fV,fW]
  split
  ·exact tY l (k+1) true (by simp)
  ·simp only[al,ŷ,sx];exact O (tY l (k+1) false (by simp)) rfl
theorem k9 (hl:l.length<=10000) (ha:l.all (·<128)=true):f6 (.str (sx l))=some ((esc 0 false l).map ŷ):= by
 show(if _ then _ else _)=_;exact O (if_pos ⟨by rw[kG];exact hl,by simpa [sx] using ha⟩) (O (n9 ..) (aBD (tY l 0 false (by simp)) rfl))
noncomputable def lL:Bool->List Nat->Bool
 |b,[]=>b
 |true,_::l=>lL false l
 |false,c::l=>lL (c==92) l
theorem qB:lL b []=b:=rfl
theorem qC:lL true (c::l)=lL false l:=rfl
theorem qD:lL false (c::l)=lL (c==92) l:=rfl
theorem lA:∀(a b:List Nat) (k:Nat) (p:Bool),lL p a=false->esc k p (a++b)=esc k p a++esc (k+a.length) false b
 |[],b,k,p,h=>by
  dsimp only[qB,qC,qD] at h
  subst h;rfl
 |c::a,b,k,true,h=>by
  dsimp only[qB,qC,qD] at h
  dsimp only[bg,fT,fU,fV,fW,dc]
  refine O (lA a b (k+1) false h) ?_;congr 3;exact Ò (.z1 (.A .kc .r) (.A .q .ke)) []
 |c::a,b,k,false,h=>by
  dsimp only[qB,qC,qD] at h
  dsimp only[bg,fT,fU,fV,fW,dc]
  split
  ·rename_i hc;rw[hc] at h;refine O (lA a b (k+1) true h) ?_;congr 2;exact Ò (.z1 (.A .kc .r) (.A .q .ke)) []
  ·rename_i hc;have:(c==92)=false:=by simpa using hc
   rw[this] at h;refine O bg (O (lA a b (k+1) false h) ?_);congr 3;exact Ò (.z1 (.A .kc .r) (.A .q .ke)) []
structure SQ where
 start:Nat
 op:Option Nat
 acc:List (List Nat)
def cG (At:List Nat) (s:SQ) (x:Nat×List Nat):SQ:=
 if x.2=[34] then match s.op with
  |none=>{s with op:=some x.1}
  |some o=>⟨x.1+1,none,if s.start=o then s.acc else s.acc++[(At.take o).drop s.start]⟩
 else s
def sq (At:List Nat) (s:SQ) (l:List (Nat×List Nat)):SQ:=l.foldl (cG At) s
noncomputable def FL:Option Nat->PV
 |none=>.none
 |some o=>.int (o:Int)
def pA (l:List (List Nat)):PV:=.lst (l.map λx=>.str (sx x))
section
variable{F:Fn}
theorem oA (l:List Nat) (h:l.length<=100000):Ē .len [.str (sx l)]=some (.int (l.length:Int)):= by
 show(if _ then _ else _)=_;exact O (if_pos (by rw[kG];exact h)) (O (kG ..) rfl)
theorem t5 (x y:Int):cD .NotEq (.int x) (.int y)=some (!(x==y)):=rfl
theorem UL (At:List Nat) (hf:At.length<=10000) (s:SQ) (x:Nat×List Nat) (p q:Option PV) (Iy:s.acc.length<=10000):
  aF F (.cons (.ite (.cmp .Eq (.var 5) (.cst (.str ("\"":Str)))) Ql .nil) .nil)
   [some (.str (sx At)),some (.int (s.start:Int)),some (FL s.op),some (pA s.acc),some (.int (x.1:Int)),some (.str (sx x.2))]=
   some ([some (.str (sx At)),some (.int ((cG At s x).start:Int)),some (FL (cG At s x).op),some (pA (cG At s x).acc),some (.int (x.1:Int)),some (.str (sx x.2))],.next):= by
 obtain⟨k,u⟩:=x;obtain⟨start,op,acc⟩:=s;simp only at Iy⊢;refine O (show("\"":Str)=sx [34] from rfl) ?_
 delta cG
 simp only
 by_cases hu:u=[34]
 ·refine O (if_pos hu) ?_;subst hu;refine aK (fJ (by rfl) ?_);cases op with
  |none=>
   refine aK (fJ (by rfl) ?_);exact aK (asg (by rfl))
  |some o=>
   refine aK (dE (by rfl) ?_);simp only
   by_cases hs:start=o
   ·refine O (if_pos hs) (seq (dE ?_ cE) ?_)
    ·show aB F _ _=_;simp only[aH,Ù,FL,t5];subst hs;simp
    ·refine seq (asg (by rfl)) ?_
     dsimp only[bP,bQ]
     exact aK (asg (by rfl))
   ·refine O (if_neg hs) ?_;refine seq (fJ ?_ (aK (app (l:=acc.map λx=>.str (sx x)) rfl (p:=.str (sx ((At.take o).drop start))) ?_ (by simp;exact aa Iy (by decide))))) ?_
    ·simp only[aH,Ù,FL,t5];have:((start:Int)==(o:Int))=false:=by simp;lia
     refine O this ?_;rfl
    ·exact ZV At (start:Int) (o:Int) (yb) (yb) (aa hf (by decide))
    ·dsimp only[bP,bQ]
     refine seq (asg (by rfl)) ?_
     dsimp only[bP,bQ]
     refine(aK (asg (by rfl))).trans ?_;simp only[bP,bQ,pA,dj,al,gw,FL];push_cast;rfl
 ·refine O (if_neg hu) (aK (dE ?_ cE));simp only[aH,Ù,k8];have:(u==[34])=false:=by simpa using hu
  exact O this rfl
theorem AP:eR body tg [] pe=some (pe,.next):=rfl
theorem dF{body:Å->Option (Å×Fl)}{tg:List Nat}{p:PV}{l:List PV}{pe Ht Gi:Å}{R:Option (Å×Fl)}(h1:gQ tg p pe=some Ht) (h2:body Ht=some (Gi,.next)) (h3:eR body tg l Gi=R):eR body tg (p::l) pe=R:= by
 exact(EE h1 h2).trans h3
theorem UM (h1:gQ tg p pe=some Ht) (h2:body Ht=some (Gi,.brk)):eR body tg (p::l) pe=some (Gi,.next):=EE h1 h2
theorem UN (h1:gQ tg p pe=some Ht) (h2:body Ht=some (Gi,.ret v)):eR body tg (p::l) pe=some (Gi,.ret v):=EE h1 h2
theorem PR (At:List Nat) (s:SQ) (x:Nat×List Nat):(cG At s x).acc.length<=s.acc.length+1:= by
 delta cG
 split
 ·split
  ·simp
  ·simp only;split<;>simp
 ·exact à (.x .q .kc) []
theorem HU (At:List Nat) (hf:At.length<=10000):∀(l:List (Nat×List Nat)) (s:SQ) (p q:Option PV),s.acc.length+l.length<=10000->
  ∃p' q',eR (aF F (.cons (.ite (.cmp .Eq (.var 5) (.cst (.str ("\"":Str)))) Ql .nil) .nil)) [4,5] (l.map ŷ)
   [some (.str (sx At)),some (.int (s.start:Int)),some (FL s.op),some (pA s.acc),p,q]=
   some ([some (.str (sx At)),some (.int ((sq At s l).start:Int)),some (FL (sq At s l).op),some (pA (sq At s l).acc),p',q'],.next)
 |[],s,p,q,_=>(ŭ p q rfl)
 |x::l,s,p,q,h=>by
  dsimp only[dc] at h
  refine ň (HU At hf l (cG At s x) (some (.int (x.1:Int))) (some (.str (sx x.2))) (by have:=PR At s x;exact æ (.x .ko (.N 10000)) [.x (.A .s .ke) (.N 10000),.x .q .kL] h this)) λp' q' ih=>?_;exact(ŭ p' q' (dF rfl (UL At hf s x p q (Ò (.x .q (.N 10000)) [.x (.A .q .ke) (.N 10000)] h)) ih))
theorem wE:∀(l:List (List Nat)),lF (l.map λx=>PV.str (sx x))=some (l.map sx)
 |[]=>rfl
 |x::l=>by
  show(match MI (PV.str (sx x)),lF (l.map λx=>PV.str (sx x)) with|some a,some b=>some (a::b)|_,_=>none)=_;refine O (wE l) ?_;rfl
noncomputable def wF (ę:List Nat):List (List Nat)->List Nat
 |[]=>[]
 |[x]=>x
 |x::y::l=>x++ę++wF ę (y::l)
theorem UO:wF ę [x]=x:=rfl
theorem UP:wF ę (x::y::l)=x++ę++wF ę (y::l):=rfl
theorem j4:∀(l:List (List Nat)),wF [] l=l.flatten
 |[]=>rfl
 |[x]=>by simp[UO]
 |x::y::l=>by rw[UP,j4 (y::l)];simp
theorem HV (ę:List Nat):∀(l:List (List Nat)),Gd (sx ę) (l.map sx)=sx (wF ę l)
 |[]=>rfl
 |[x]=>rfl
 |x::y::l=>by
  show sx x++sx ę++Gd (sx ę) ((y::l).map sx)=_
  (refine O (HV ę (y::l)) ?_;rw[AL];refine O (AL ..) ?_)
  rfl
theorem XU (ę:List Nat) (l:List (List Nat)) (h:(l.map fw).sum+l.length*ę.length<=100000):Fe (sx ę) (l.map sx)=true:= by
 have key:∀(l:List (List Nat)) (a:Nat),(l.map sx).foldl (·+·.length+(sx ę).length) a=a+(l.map fw).sum+l.length*ę.length:= by
  intro l
  induction l with
  |nil=>intro a;simp
  |cons x l ih=>
   intro a;refine O al (O Bk (O (ih ..) (O (kG ..) (O (kG ..) ?_))));simp only[al,jd,dc,Ds];exact Ŝ (.z1 (.A (.A (.A .ko .s) .t) (.M .u .s)) (.A (.A .q (.A .r .t)) (.A (.M .u .s) .s))) []
 delta Fe
 refine aBD (Array.foldl_toList ..) (O xq (O (key l 0) ?_))
 delta xo sizeLine
 simp;exact aa h (by decide)
theorem oB (ę:List Nat) (l:List (List Nat)) (h:(l.map fw).sum+l.length*ę.length<=100000):ś .join (.str (sx ę)) [pA l]=some (.str (sx (wF ę l))):= by
 show(lF (l.map λx=>PV.str (sx x))).bind (λts=>if Fe (sx ę) ts then some (PV.str (Gb (sx ę) ts)) else none)=_;refine O (wE ..) ((if_pos (XU ę l h)).trans ?_);congr 2;exact aBD (HV ę l) (am (join_plain_closes _ _))
def oD (l:List Nat):List Nat:=
 if 34∈l then(let s:=sq l ⟨0,none,[]⟩ (esc 0 false l);(s.acc++(if s.start<l.length then[l.drop s.start] else[])).flatten) else l
theorem wG (At:List Nat):∀(l:List (Nat×List Nat)) (s:SQ),(sq At s l).acc.length<=s.acc.length+l.length
 |[],s=>by simp[sq]
 |x::l,s=>by
  have:=wG At l (cG At s x);have h2:=PR At s x;show(sq At (cG At s x) l).acc.length<=_
  dsimp only[dc];exact Ľ (.x .q (.A .r .kL)) [.x .q (.A .t .s),.x .t .ke] this h2
theorem PT (At:List Nat):∀(l:List (Nat×List Nat)) (s:SQ) (w:Nat),(∀o,s.op=some o->o<=w)->(s.acc.map fw).sum<=s.start->s.start<=w->(∀o,s.op=some o->s.start<=o)->(∀x∈l,w<=x.1)->l.Pairwise (λa b=>a.1<b.1)->
  ((sq At s l).acc.map fw).sum<=(sq At s l).start
 |[],s,w,_,h,_,_,_,_=>h
 |x::l,s,w,ho,h,hs,Xd,hx,hp=>by
  have Og:=hx x (ak);have Xe:=ry.mp hp;show((sq At (cG At s x) l).acc.map fw).sum<=(sq At (cG At s x) l).start;refine PT At l (cG At s x) (x.1+1) ?_ ?_ ?_ ?_ ?_ Xe.2
  ·intro o h'
   delta cG at h'
   split at h'
   ·split at h'
    ·cases h';exact à (.x .q .kc) []
    ·cases h'
   ·have:=ho o h';exact æ (.x .q .ke) [.x .s .r,.x .q .s] Og this
  ·delta cG
   split
   ·split
    ·exact h
    ·rename_i o Xf;have h1:=Xd o Xf;have h2:=ho o Xf;simp only;split
     ·exact Ľ (.x .q .ke) [.x .q .s,.x .s .t,.x .t .r] h hs Og
     ·simp only[dj,vk,al,gw,jd,zn,pz,qd];exact aa (wq h (Nat.sub_le_sub_right (Br o At.length) s.start)) (by rw[xv h1];exact gm (aa h2 Og))
   ·exact h
  ·delta cG
   split
   ·split
    ·exact gm (aa hs Og)
    ·exact ai _
   ·exact gm (aa hs Og)
  ·intro o h'
   delta cG at h'⊢
   split at h'
   ·rename_i hu;refine O (if_pos hu) ?_;split at h'
    ·rename_i hn;cases h'
     dsimp only[hn];exact aa hs Og
    ·cases h'
   ·rename_i hu;exact O (if_neg hu) (Xd o h')
  ·intro y hy;have:=Xe.1 y hy;exact Ò (.x .kc .r) [.y .q .r] this
theorem t6:∀(l:List Nat) (k:Nat) (b:Bool),(∀x∈esc k b l,k<=x.1+(if b then 1 else 0))/\(esc k b l).Pairwise (λa b=>a.1<b.1)
 |[],k,true=>by simp[fT,fU,fV,fW];exact(fg (ai _))
 |[],k,false=>by simp[fT,fU,fV,fW]
 |c::l,k,true=>by
  refine xa (t6 l (k+1) false) λh1 h2=>?_
  dsimp only[fT,fU,fV,fW]
  refine⟨λx hx=>?_,ry.mpr ⟨λy hy=>?_,h2⟩⟩
  ·rcases az.mp hx with rfl|hx
   ·simp
   ·have:=h1 x hx;simp at this⊢;exact Ò (.x .q .ke) [.x .kc .r] this
  ·have:=h1 y hy;simp at this;lia
 |c::l,k,false=>by
  dsimp only[fT,fU,fV,fW]
  split
  ·refine xa (t6 l (k+1) true) λh1 h2=>?_;refine⟨λx hx=>?_,h2⟩;have:=h1 x hx;simp at this⊢;lia
  ·refine xa (t6 l (k+1) false) λh1 h2=>?_;refine⟨λx hx=>?_,ry.mpr ⟨λy hy=>?_,h2⟩⟩
   ·rcases az.mp hx with rfl|hx
    ·simp
    ·have:=h1 x hx;simp at this⊢;exact Ò (.x .q .r) [.x .kc .r] this
   ·have:=h1 y hy;simp at this;lia
theorem oY:∀(l:List Nat) (k:Nat) (b:Bool),(esc k b l).length<=l.length+1
 |[],k,true=>by exact rh _
 |[],k,false=>by simp[fT,fU,fV,fW]
 |c::l,k,true=>by have:=oY l (k+1) false;simp[fT,fU,fV,fW];lia
 |c::l,k,false=>by
  dsimp only[fT,fU,fV,fW]
  split
  ·have:=oY l (k+1) true;simp;exact Ò (.x .q (.A .ke .n1)) [.x .q .ke] this
  ·have:=oY l (k+1) false;simp;lia
theorem AQ:∀(l:List Nat) (k:Nat) (b:Bool),∀x∈esc k b l,x.1<=k+l.length
 |[],k,true,x,hx=>by simp[fT,fU,fV,fW] at hx;subst hx;simp
 |[],k,false,x,hx=>by simp[fT,fU,fV,fW] at hx
 |c::l,k,true,x,hx=>by
  dsimp only[fT,fU,fV,fW] at hx
  rcases az.mp hx with rfl|hx
  ·simp
  ·have:=AQ l (k+1) false x hx;simp;exact æ (.x .q (.A .r .kL)) [.x .q (.A .ke .s)] this
 |c::l,k,false,x,hx=>by
  dsimp only[fT,fU,fV,fW] at hx
  split at hx
  ·have:=AQ l (k+1) true x hx;simp;exact æ (.x .q (.A .r .kL)) [.x .q (.A .ke .s)] this
  ·rcases az.mp hx with rfl|hx
   ·simp
   ·have:=AQ l (k+1) false x hx;simp;lia
theorem C5 (At:List Nat):∀(l:List (Nat×List Nat)) (s:SQ) (n:Nat),s.start<=n->(∀x∈l,x.1+1<=n)->(sq At s l).start<=n
 |[],s,n,h,_=>h
 |x::l,s,n,h,hx=>by
  show(sq At (cG At s x) l).start<=n;refine C5 At l _ n ?_ (λy hy=>hx y (by simp[hy]));have:=hx x (ak)
  delta cG
  split
  ·split
   ·exact h
   ·exact this
  ·exact h
theorem yX (hl:l.length<=9000) (ha:l.all (·<128)=true):e9 F Co.bD [.str (sx l)]=some (.str (sx (oD l))):= by
 apply kE rfl;show iR (aF F Co.bD.code [some (.str (sx l)),none,none,none,none,none])=_
 delta Co.bD
 have occ:cD .NotIn (.str ("\"":Str)) (.str (sx l))=some (!decide (34∈l)):= by
  show some (!(!(dd (sx l) ⟨#[34]⟩ 0 (sx l).length 1).isEmpty))=_;exact O (tc ..) (O (n9 ..) rfl)
 delta oD
 by_cases Pj:34∈l
 ·refine O (if_pos Pj) ?_;refine dC (by simp only[aH,Ù,occ];simp[Pj]) ?_;refine bG (asg (by rfl)) ?_;refine bG (asg (by rfl)) ?_;refine bG (asgO (l:=[]) (by rfl)) ?_
  dsimp only[bP,bQ]
  have hE:=oY l 0 false;refine ň (HU (F:=F) l (aa hl (by decide)) (esc 0 false l) ⟨0,none,[]⟩ none none (by simp;exact Ò (.x .q (.N 10000)) [.x .r (.N 9000),.x .q .ke] hl hE)) λp' q' hw=>?_;have Lj:=PT l (esc 0 false l) ⟨0,none,[]⟩ 0 (by trivial) (by simp) (by simp) (by trivial) (by simp) (t6 l 0 false).2;have Iy:=wG l (esc 0 false l) ⟨0,none,[]⟩
  dsimp only[lg] at Iy
  have Pk:(sq l ⟨0,none,[]⟩ (esc 0 false l)).start<=l.length+1:=C5 l (esc 0 false l) ⟨0,none,[]⟩ (l.length+1) (iu _) (λx hx=>by have:=AQ l 0 false x hx;exact Ò (.x .kc .ke) [.x .q (.A .n0 .r)] this);generalize sq l ⟨0,none,[]⟩ (esc 0 false l)=s at*;refine bG (HN (by rfl) (k9 (aa hl (by decide)) ha) hw) ?_
  by_cases hs:s.start<l.length
  ·refine O (if_pos hs) ?_;refine bG (fJ ?_ (aK (app (l:=s.acc.map λx=>.str (sx x)) rfl (p:=.str (sx (l.drop s.start))) ?_ (by simp;exact æ (.x .q .kv) [.x .r (.N 9000),.x .s .ke,.x .q (.A .n0 .s)] hl hE Iy)))) ?_
   ·simp only[aH,Ù,oA l (aa hl (by decide))];simp[hs]
   ·exact PP l (s.start:Int) (yb) (aa hl (by decide))
   ·dsimp only[bP,bQ]
    refine fK ?_;refine O (show("":Str)=sx [] from rfl) ?_;simp only[aH,Ù];have:=oB [] (s.acc++[l.drop s.start]) (by simp;exact Ľ (.x .ko .kv) [.x .s (.N 9000),.x .q .t,.z1 (.A .r .t) .s] hl Lj (af (ã [_,_] (.x .q .r) [.y .q .r] hs)));rw[j4] at this;simp only[pA,dj,al,gw] at this;exact this
  ·refine O (if_neg hs) (O (ge ..) (dC ?_ ?_))
   ·simp only[aH,Ù,oA l (by lia)];simp[hs]
   ·refine fK ?_;refine O (show("":Str)=sx [] from rfl) ?_;simp only[aH,Ù];have:=oB [] s.acc (by simp;exact æ (.x .q .kv) [.x .r (.N 9000),.x .q .s,.x .s .ke] hl Lj Pk);rw[j4] at this;exact this
 ·refine O (if_neg Pj) ?_;refine k7 (by simp only[aH,Ù,occ];simp[Pj]) (fK (by rfl))
end
noncomputable def ø:Bool->List Nat->List (List Nat)
 |true,[]=>[[92]]
 |false,[]=>[]
 |true,c::l=>[92,c]::ø false l
 |false,c::l=>if c=92 then ø true l else[c]::ø false l
theorem pF:ø true []=[[92]]:=rfl
theorem pG:ø false []=[]:=rfl
theorem pH:ø true (c::l)=[92,c]::ø false l:=rfl
theorem pI:ø false (c::l)=if c=92 then ø true l else[c]::ø false l:=rfl
theorem eU:∀(l:List Nat) (k:Nat) (b:Bool),(esc k b l).map (·.2)=ø b l
 |[],k,true=>rfl
 |[],k,false=>rfl
 |c::l,k,true=>by simp[fT,fU,fV,fW,pF,pG,pH,pI,eU l]
 |c::l,k,false=>by
  dsimp only[fT,fU,fV,fW,pF,pG,pH,pI]
  split
  ·exact eU l (k+1) true
  ·simp[eU l]
theorem fP (a b:List Nat) (h:lL false a=false):ø false (a++b)=ø false a++ø false b:= by
 have:=congrArg (zd (·.2)) (lA a b 0 false h);rw[dj,eU,eU,eU] at this;exact this
theorem oE:∀(a b:List Nat) (p:Bool),lL p (a++b)=lL (lL p a) b
 |[],b,p=>by cases p<;>rfl
 |c::a,b,true=>by dsimp only[bg,qB,qC,qD];exact oE a b false
 |c::a,b,false=>by dsimp only[bg,qB,qC,qD];exact oE a b _
def Pl (l:List Nat):Prop:=lL false l=false/\∀u∈ø false l,u≠[34]
theorem Pl.app (ha:Pl a) (hb:Pl b):Pl (a++b):= by
 refine⟨by exact O (oE ..) (O ha.1 (O hb.1 rfl)),?_⟩;refine O (fP a b ha.1) ?_;intro u hu;rcases ce.mp hu with h|h
 ·exact ha.2 u h
 ·exact hb.2 u h
theorem Pl.nil:Pl []:=⟨rfl,by trivial⟩
theorem AR (At:List Nat) (s:SQ) (a b:List (Nat×List Nat)):sq At s (a++b)=sq At (sq At s a) b:=List.foldl_append
theorem l8 (At:List Nat):∀(l:List (Nat×List Nat)) (s:SQ),(∀u∈l.map (·.2),u≠[34])->sq At s l=s
 |[],s,_=>rfl
 |x::l,s,h=>by
  have hx:x.2≠[34]:=h x.2 (ak);show sq At (cG At s x) l=s;have:cG At s x=s:=by unfold cG;exact O (if_neg hx) rfl
  refine O this ?_;exact l8 At l s λu hu=>h u (by simp at hu⊢;exact .inr hu)
noncomputable def Ĩ (b:List Nat):List Nat:=34::(b++[34])
theorem UQ (b:List Nat):(Ĩ b).length=b.length+2:=by simp[Ĩ]
theorem PU (h:lL false b=false):lL false (Ĩ b)=false:= by
 unfold Ĩ;show lL false ((34:Nat)::(b++[34]))=false;show lL ((34:Nat)==92) (b++[34])=false;refine O (show((34:Nat)==92)=false from rfl) (O (oE ..) (O h ?_));rfl
theorem UR (h:lL false b=false) (k:Nat):esc k false (Ĩ b)=(k,[34])::(esc (k+1) false b++[(k+1+b.length,[34])]):= by
 unfold Ĩ
 dsimp only[fT,fU,fV,fW]
 refine O (if_neg (by decide)) (O (lA b [34] (k+1) false h) ?_);rfl
theorem XW (At:List Nat) (hb:Pl b) (k start:Nat) (acc:List (List Nat)):
  sq At ⟨start,none,acc⟩ (esc k false (Ĩ b))=⟨k+(Ĩ b).length,none,if start=k then acc else acc++[(At.take k).drop start]⟩:= by
 rw[UR hb.1];show sq At (cG At ⟨start,none,acc⟩ (k,[34])) _=_;have h1:cG At ⟨start,none,acc⟩ (k,[34])=⟨start,some k,acc⟩:=by unfold cG;rfl
 refine O h1 (O (AR ..) (O (l8 At (esc (k+1) false b) _ (by rw[eU];exact hb.2)) ?_));show cG At ⟨start,some k,acc⟩ (k+1+b.length,[34])=_;unfold cG;simp only[if_true,UQ];congr 1;exact Ò (.z1 (.A (.A .kc .r) .n1) (.A .q (.A .r .n2))) []
def l9 (Gy:List (List Nat×List Nat)) (last:List Nat):List Nat:=(Gy.map λx=>x.1++Ĩ x.2).flatten++last
def Ā (l:List Nat):Prop:=(∀u∈ø false l,u≠[34])\/∃p q,l=p++34::q/\Pl p/\∀u∈ø false q,u≠[34]
theorem US (At:List Nat) (h:Ā l) (k start:Nat) (acc:List (List Nat)):(sq At ⟨start,none,acc⟩ (esc k false l)).start=start/\(sq At ⟨start,none,acc⟩ (esc k false l)).acc=acc:= by
 rcases h with h|⟨p,q,rfl,hp,hq⟩
 ·refine O (l8 At _ _ (by rw[eU];exact h)) ?_;exact⟨rfl,rfl⟩
 ·refine O (lA _ _ _ _ hp.1) (O (AR ..) (O (l8 At (esc k false p) _ (by rw[eU];exact hp.2)) ?_))
  dsimp only[fT,fU,fV,fW]
  refine O (if_neg (by decide)) ?_;show(sq At (cG At ⟨start,none,acc⟩ (k+p.length,[34])) _).start=_/\(sq At (cG At ⟨start,none,acc⟩ (k+p.length,[34])) _).acc=_;refine O (l8 At (esc (k+p.length+1) false q) _ (by rw[eU];exact hq)) ?_;unfold cG;trivial
theorem HW (At:List Nat):∀(Gy:List (List Nat×List Nat)) (last pre:List Nat) (acc:List (List Nat)),At=pre++l9 Gy last->(∀x∈Gy,Pl x.1/\Pl x.2)->Ā last->
  ((sq At ⟨pre.length,none,acc⟩ (esc pre.length false (l9 Gy last))).acc++(if (sq At ⟨pre.length,none,acc⟩ (esc pre.length false (l9 Gy last))).start<At.length then[At.drop (sq At ⟨pre.length,none,acc⟩ (esc pre.length false (l9 Gy last))).start] else[])).flatten=acc.flatten++(Gy.map (·.1)).flatten++last
 |[],last,pre,acc,hf,_,hl=>by
  have e:l9 [] last=last:=by rfl
  rw[e] at hf⊢;refine xa (US At hl pre.length pre.length acc) λh1 h2=>?_;refine O h1 (O h2 (O hf ?_))
  by_cases h0:last=[]
  ·subst h0;simp
  ·have:pre.length<(pre++last).length:= by
    have:=jn.mpr h0;simp;exact this
   refine O (if_pos this) ?_;simp
 |(s,b)::Gy,last,pre,acc,hf,hs,hl=>by
  refine xa (hs (s,b) (ak)) λp1 p2=>?_;have e:l9 ((s,b)::Gy) last=s++(Ĩ b++l9 Gy last):=by simp[l9]
  rw[e] at hf⊢;have hk:esc pre.length false (s++(Ĩ b++l9 Gy last))=esc pre.length false s++(esc (pre.length+s.length) false (Ĩ b)++esc (pre++s++Ĩ b).length false (l9 Gy last)):= by
   refine O (lA _ _ _ _ p1.1) (O (lA _ _ _ _ (PU p2.1)) ?_);congr 3;simp;exact æ (.z1 (.A .ko .s) (.A .q (.A .r .s))) []
  (refine O hk (O (AR ..) (O (l8 At (esc pre.length false s) _ (by rw[eU];exact p1.2)) (O (AR ..) ?_)));rw[XW At p2])
  have hlen:pre.length+s.length+(Ĩ b).length=(pre++s++Ĩ b).length:=by simp;exact æ (.z1 (.A .ko .s) (.A .q (.A .r .s))) []
  refine O hlen ?_;refine O (HW At Gy last (pre++s++Ĩ b) _ (by rw[hf];simp) (λx hx=>hs x (by simp[hx])) hl) ?_
  by_cases h0:pre.length=pre.length+s.length
  ·have:s=[]:=List.eq_nil_of_length_eq_zero (Ò (.z1 .q .n0) [.z1 (.A .r .q) .r] h0.symm);subst this;simp
  ·refine O (if_neg h0) ?_;have:(At.take (pre.length+s.length)).drop pre.length=s:= by
    refine O hf (O (show pre++(s++(Ĩ b++l9 Gy last))=(pre++s)++(Ĩ b++l9 Gy last) by simp) (O (show pre.length+s.length=(pre++s).length by simp) (O sa ?_)));simp
   refine O this ?_;simp
theorem xN (Gy:List (List Nat×List Nat)) (last:List Nat) (hs:∀x∈Gy,Pl x.1/\Pl x.2) (hl:Ā last):oD (l9 Gy last)=(Gy.map (·.1)).flatten++last:= by
 unfold oD
 by_cases h:34∈l9 Gy last
 ·refine O (if_pos h) ?_;have:=HW (l9 Gy last) Gy last [] [] (by simp) hs hl
  simpa using this
 ·refine O (if_neg h) ?_;cases Gy with
  |nil=>rfl
  |cons x Gy=>exfalso;apply h;simp[l9,Ĩ]
noncomputable def č:Nat->List (List Nat)->Option Nat
 |o,[]=>some o
 |o,u::us=>if u=[40] then č (o+1) us else if u=[41] then(if o=0 then none else č (o-1) us) else č o us
theorem V0:č o []=some o:=rfl
theorem wH:č o (u::us)=if u=[40] then č (o+1) us else if u=[41] then(if o=0 then none else č (o-1) us) else č o us:=rfl
theorem i9:∀(a b:List (List Nat)) (o:Nat),č o (a++b)=(č o a).bind λo'=>č o' b
 |[],b,o=>rfl
 |u::a,b,o=>by
  dsimp only[bg,wH]
  split
  ·exact i9 a b _
  ·split
   ·split
    ·rfl
    ·exact i9 a b _
   ·exact i9 a b _
section
variable{F:Fn}
theorem rA (x:PV):∀(l:List (Nat×List Nat)) (o:Nat) (p q:Option PV),
  (∃p' q' o',č o (l.map (·.2))=some o'/\eR (aF F (.cons (.ite (.cmp .Eq Qt (.cst (.str ("(":Str)))) (.cons (.aug 1 .Add Qb) .nil) (.cons (.ite (.cmp .Eq Qt (.cst (.str (")":Str)))) Q09 .nil) .nil)) .nil)) [2,3] (l.map ŷ) [some x,some (.int (o:Int)),p,q]=
   some ([some x,some (.int (o':Int)),p',q'],.next))\/
  (č o (l.map (·.2))=none/\∃pe,eR (aF F (.cons (.ite (.cmp .Eq Qt (.cst (.str ("(":Str)))) (.cons (.aug 1 .Add Qb) .nil) (.cons (.ite (.cmp .Eq Qt (.cst (.str (")":Str)))) Q09 .nil) .nil)) .nil)) [2,3] (l.map ŷ) [some x,some (.int (o:Int)),p,q]=
   some (pe,.ret (.bool false)))
 |[],o,p,q=>.inl (jE p q o rfl rfl)
 |(k,u)::l,o,p,q=>by
  rw[show("(":Str)=sx [40] from rfl,show(")":Str)=sx [41] from rfl];simp only[al,wH];have Hl:aB F (.cmp .Eq Qt (.cst (.str (sx [40])))) [some x,some (.int (o:Int)),some (.int (k:Int)),some (.str (sx u))]=some (.bool (u==[40])):=by simp only[aH,Ù,k8]
  have Ii:aB F (.cmp .Eq Qt (.cst (.str (sx [41])))) [some x,some (.int (o:Int)),some (.int (k:Int)),some (.str (sx u))]=some (.bool (u==[41])):=by simp only[aH,Ù,k8]
  by_cases Nm:u=[40]
  ·refine O (if_pos Nm) ?_;have b40:(u==[40])=true:=by simp[Nm]
   rw[b40] at Hl;rcases rA x l (o+1) (some (.int (k:Int))) (some (.str (sx u))) with⟨p',q',o',h1,h2⟩|⟨h1,pe,h2⟩
   ·exact .inl (jE p' q' o' h1 (dF rfl (aK (fJ Hl (aK (aug rfl rfl rfl)))) h2))
   ·exact .inr (ο h1 pe (dF rfl (aK (fJ Hl (aK (aug rfl rfl rfl)))) h2))
  ·refine O (if_neg Nm) ?_;have b40:(u==[40])=false:=by simpa using Nm
   rw[b40] at Hl
   by_cases Pm:u=[41]
   ·refine O (if_pos Pm) ?_;have b41:(u==[41])=true:=by simp[Pm]
    rw[b41] at Ii
    by_cases ho:o=0
    ·refine O (if_pos ho) ?_;subst ho;refine .inr ⟨rfl,?_⟩;refine⟨_,UN rfl (iJ (dE Hl (iJ (fJ Ii (seq (aug rfl rfl rfl) (iJ (fJ ?_ (fN rfl)) (by simp)))) (by simp))) (by simp))⟩;rfl
    ·refine O (if_neg ho) ?_;have step:aF F (.cons (.ite (.cmp .Eq Qt (.cst (.str (sx [40])))) (.cons (.aug 1 .Add Qb) .nil) (.cons (.ite (.cmp .Eq Qt (.cst (.str (sx [41])))) Q09 .nil) .nil)) .nil)
       [some x,some (.int (o:Int)),some (.int (k:Int)),some (.str (sx u))]=some ([some x,some (.int ((o-1:Nat):Int)),some (.int (k:Int)),some (.str (sx u))],.next):= by
      refine aK (dE Hl (aK (fJ Ii (seq (aug rfl rfl rfl) (aK ?_)))))
      dsimp only[bP,bQ]
      refine O (show((o:Int)-1)=((o-1:Nat):Int) by lia) (dE ?_ cE);simp only[aH,Ù];rfl
     rcases rA x l (o-1) (some (.int (k:Int))) (some (.str (sx u))) with⟨p',q',o',h1,h2⟩|⟨h1,pe,h2⟩
     ·exact .inl (jE p' q' o' h1 (dF rfl step h2))
     ·exact .inr (ο h1 pe (dF rfl step h2))
   ·refine O (if_neg Pm) ?_;have b41:(u==[41])=false:=by simpa using Pm
    rw[b41] at Ii;rcases rA x l o (some (.int (k:Int))) (some (.str (sx u))) with⟨p',q',o',h1,h2⟩|⟨h1,pe,h2⟩
    ·exact .inl (jE p' q' o' h1 (dF rfl (aK (dE Hl (aK (dE Ii cE)))) h2))
    ·exact .inr (ο h1 pe (dF rfl (aK (dE Hl (aK (dE Ii cE)))) h2))
def wI (l:List Nat):Bool:=č 0 (ø false l)==some 0
theorem J6 (hF:F k [.str (sx l)]=some (.str (sx r))) (hr:r.length<=9000) (ha:r.all (·<128)=true):e9 F (Co.bM k) [.str (sx l)]=some (.bool (wI r)):= by
 apply kE rfl;show iR (aF F (Co.bM k).code [some (.str (sx l)),none,none,none])=_;unfold Co.bM;refine bG (asg (by simp only[aH,Ù,hF];try rfl)) ?_;refine bG (asg (by rfl)) ?_
 dsimp only[bP,bQ]
 unfold wI;refine aBD (eU r 0 false) ?_;rcases rA (F:=F) (.str (sx r)) (esc 0 false r) 0 none none with⟨p',q',o',h1,h2⟩|⟨h1,pe,h2⟩
 ·refine bG (HN (by rfl) (k9 (aa hr (by decide)) ha) h2) ?_;refine fK ?_;simp only[aH,Ù];refine O h1 ?_;congr 2;refine O (propext og) ?_;simp
 ·refine VZ ?_;rw[show((0:Nat):Int)=0 from rfl] at h2;refine O (HN (e:=.var 0) (p:=.str (sx r)) rfl (k9 (aa hr (by decide)) ha) h2) (O h1 ?_);rfl
end
abbrev Pc:=List Nat×Bool
def aW:List Pc->List Nat
 |[]=>[]
 |(s,false)::l=>s++aW l
 |(b,true)::l=>Ĩ b++aW l
theorem cT:aW []=[]:=rfl
theorem cU:aW ((s,false)::l)=s++aW l:=rfl
theorem cV:aW ((b,true)::l)=Ĩ b++aW l:=rfl
noncomputable def bN:List Pc->List Nat
 |[]=>[]
 |(s,false)::l=>s++bN l
 |(_,true)::l=>bN l
theorem dS:bN []=[]:=rfl
theorem dT:bN ((s,false)::l)=s++bN l:=rfl
theorem dU:bN ((b,true)::l)=bN l:=rfl
theorem dB:∀a b:List Pc,aW (a++b)=aW a++aW b
 |[],b=>rfl
 |(s,false)::a,b=>by simp[cT,cU,cV,dB a b]
 |(s,true)::a,b=>by simp[cT,cU,cV,dB a b]
theorem gV:∀a b:List Pc,bN (a++b)=bN a++bN b
 |[],b=>rfl
 |(s,false)::a,b=>by simp[dS,dT,dU,gV a b]
 |(s,true)::a,b=>by exact gV a b
def Ċ (l:List Pc):Prop:=∀p∈l,Pl p.1
theorem gC:∀{l:List Pc},Ċ l->Pl (bN l)
 |[],_=>Pl.nil
 |(s,false)::l,h=>Pl.app (h (s,false) (ak)) (gC λp hp=>h p (by simp[hp]))
 |(s,true)::l,h=>by
  exact gC (l:=l) λp hp=>h p (by simp[hp])
noncomputable def fY:List Pc->List (List Nat×List Nat)×List Nat
 |[]=>([],[])
 |(s,false)::l=>match fY l with
  |([],t)=>([],s++t)
  |((s',b)::r,t)=>((s++s',b)::r,t)
 |(b,true)::l=>(([],b)::(fY l).1,(fY l).2)
theorem rB:fY []=([],[]):=rfl
theorem rC:fY ((s,false)::l)=match fY l with
  |([],t)=>([],s++t)
  |((s',b)::r,t)=>((s++s',b)::r,t):=rfl
theorem rD:fY ((b,true)::l)=(([],b)::(fY l).1,(fY l).2):=rfl
theorem oF:∀(l:List Pc) (last:List Nat),Ċ l->aW l++last=l9 (fY l).1 ((fY l).2++last)/\bN l=((fY l).1.map (·.1)).flatten++(fY l).2/\(∀x∈(fY l).1,Pl x.1/\Pl x.2)/\Pl (fY l).2
 |[],last,_=>(d9 (by rfl) (by simp[dS,dT,dU,rB,rC,rD]) (by simp[rB,rC,rD]) Pl.nil)
 |(s,false)::l,last,h=>by
  refine bE (oF l last λp hp=>h p (by simp[hp])) λh1 h2 h3 h4=>?_;have hs:Pl s:=h (s,false) (ak)
  dsimp only[cT,cU,cV,dS,dT,dU,rB,rC,rD]
  refine O (ci ..) (O h1 (O h2 ?_));rcases he:fY l with⟨sg,t⟩;rw[he] at h3 h4;cases sg with
  |nil=>dsimp only[l9] at*;exact(d9 (by simp) (by rfl) (by trivial) (hs.app h4))
  |cons x r=>
   obtain⟨s',b⟩:=x
   dsimp only[l9] at*
   refine(d9 (by simp) (by simp) ?_ h4);intro y hy;rcases az.mp hy with rfl|hy
   ·have:=h3 (s',b) (ak);exact⟨hs.app this.1,this.2⟩
   ·exact h3 y (by simp[hy])
 |(b,true)::l,last,h=>by
  refine bE (oF l last λp hp=>h p (by simp[hp])) λh1 h2 h3 h4=>?_;have hb:Pl b:=h (b,true) (ak)
  dsimp only[cT,cU,cV,dS,dT,dU,rB,rC,rD]
  refine O (ci ..) (O h1 (O h2 (d9 (by simp[l9]) (by rfl) ?_ h4)));intro y hy;rcases az.mp hy with rfl|hy
  ·exact⟨Pl.nil,hb⟩
  ·exact h3 y hy
theorem Ā.pre (ha:Pl a) (h:Ā l):Ā (a++l):= by
 rcases h with h|⟨p,q,rfl,hp,hq⟩
 ·left;refine O (fP a l ha.1) ?_;intro u hu;rcases ce.mp hu with hu|hu
  ·exact ha.2 u hu
  ·exact h u hu
 ·exact .inr (cC (a++p) q (by simp) (ha.app hp) hq)
theorem yY (h:Ċ l) (hl:Ā last):oD (aW l++last)=bN l++last:= by
 refine bE (oF l last h) λh1 h2 h3 h4=>?_;refine O h1 (O (xN _ _ h3 (hl.pre h4)) (O h2 ?_));simp
theorem rE:∀(l:List Nat) (b:Bool),(ø b l).flatten=(if b then[92] else[])++l
 |[],true=>rfl
 |[],false=>rfl
 |c::l,true=>by simp[pF,pG,pH,pI,rE l false]
 |c::l,false=>by
  dsimp only[pF,pG,pH,pI]
  split
  ·rename_i h;refine O (rE l true) (O h ?_);rfl
  ·simp[rE l false]
def ĭ:Nat->List (Nat×List Nat)->Prop
 |_,[]=>True
 |k,(p,u)::r=>p+1=k+u.length/\ĭ (k+u.length) r
theorem ż:ĭ k []=True:=rfl
theorem Ž:ĭ k ((p,u)::r)=(p+1=k+u.length/\ĭ (k+u.length) r):=rfl
theorem HX:∀(l:List Nat) (k:Nat) (b:Bool),(b=true->0<k)->ĭ (if b then k-1 else k) (esc k b l)
 |[],k,true,h=>by have:=h rfl;trivial
 |[],k,false,_=>trivial
 |c::l,k,true,h=>by
  have:=h rfl
  dsimp only[fT,fU,fV,fW,ż,Ž,if_true]
  refine⟨by simp;exact bf (cf (af (ã [_] (.x .n1 .q) [.y .n0 .q] this)).symm) (cf (af (ã [_] (.x .n1 .q) [.y .n0 .q] this))),?_⟩;have:=HX l (k+1) false (by simp);simp only[ay,if_false] at this;exact O (show k-1+[92,c].length=k+1 by simp;lia) this
 |c::l,k,false,_=>by
  dsimp only[fT,fU,fV,fW,ay,if_false]
  by_cases hc:c=92
  ·refine O (if_pos hc) ?_;have:=HX l (k+1) true (by simp)
   simpa using this
  ·refine O (if_neg hc) ?_;have:=HX l (k+1) false (by simp);simp only[ay,if_false] at this;exact⟨by rfl,by simpa using this⟩
theorem UT (hX:c∉X) (hY:c∉Y) (hl:(X++c::Y).length<=100000):ś .index (.str (sx (X++c::Y))) [.str (sx [c])]=some (.int (X.length:Int)):= by
 show(match dd (sx (X++c::Y)) ⟨#[c]⟩ 0 (sx (X++c::Y)).length 1 with|i::_=>some (PV.int (i:Int))|[]=>none)=_;have Gv:(!(dd (sx (X++c::Y)) ⟨#[c]⟩ 0 (sx (X++c::Y)).length 1).isEmpty)=true:= by
  refine O (tc ..) (O (n9 ..) ?_);simp
 have Zy:=StrLaws.occ_spec (sx (X++c::Y)) ⟨#[c]⟩ 0 (sx (X++c::Y)).length 1;generalize dd (sx (X++c::Y)) ⟨#[c]⟩ 0 (sx (X++c::Y)).length 1=o at*;cases o with
 |nil=>simp at Gv
 |cons i r=>
  have h1:=Zy i (ak);have h2:=(StrLaws.subAt_one _ c i).mp h1;rw[n9] at h2;have:i=X.length:= by
   rcases Nat.lt_trichotomy i X.length with h|h|h
   ·rw[List.getElem?_append_left h] at h2;exact absurd (ii h2) hX
   ·exact h
   ·rw[List.getElem?_append_right (db h)] at h2;have e:i-X.length=(i-X.length-1)+1:=by exact bf (cf (af (ã [_,_,_] (.x .n1 .q) [.y .r .s,.z1 .s .ko] h (af (ã [_,_] (.x .q .r) [.y .q .r] h)).symm)).symm) (cf (af (ã [_,_,_] (.x .n1 .q) [.y .r .s,.z1 .s .ko] h (af (ã [_,_] (.x .q .r) [.y .q .r] h)).symm)))
    rw[e,uh] at h2;exact absurd (ii h2) hY
  exact O this rfl
section
def mA (r g b M D:UInt64):UInt64:=
 if Ĕ r M then ab (div (ab M b) D) (div (ab M g) D)
 else if Ĕ g M then ab (add 0x4000000000000000 (div (ab M r) D)) (div (ab M b) D)
 else ab (add 0x4010000000000000 (div (ab M g) D)) (div (ab M r) D)
theorem z6:bz 0x4018000000000000=false:=by decide +kernel
theorem z1:bz 0x3ff0000000000000=false:=by decide +kernel
theorem z2:bz 0x4000000000000000=false:=by decide +kernel
theorem AS:one=0x3ff0000000000000:=by decide +kernel
variable{F:Fn}{r g b:UInt64}
theorem XY (h:Ĕ (ó r g b) (á r g b)=true):
  e9 F Co.bX [.flt r,.flt g,.flt b]=some (.tup [.flt 0,.flt 0,.flt (á r g b)]):= by
 apply kZ rfl;show aF F Co.bX.code [some (.flt r),some (.flt g),some (.flt b),none,none,none,none,none,none,none,none,none]=_;unfold Co.bX;refine seq (asg (by simp only[aH,Ù];try rfl)) ?_;refine seq (asg (by simp only[aH,Ù];try rfl)) ?_;refine seq (asg (by simp only[aH,Ù];try rfl)) ?_;refine seq (asg (by simp only[aH,Ù];try rfl)) ?_;refine iJ (fJ (by simp only[aH,Ù,h]) (fN (by simp only[aH,Ù];try rfl))) (by simp)
theorem XZ (h:Ĕ (ó r g b) (á r g b)=false) (hM:bz (á r g b)=false) (hD:bz (ab (á r g b) (ó r g b))=false):
  e9 F Co.bX [.flt r,.flt g,.flt b]=some (.tup [.flt (ca (div (mA r g b (á r g b) (ab (á r g b) (ó r g b))) 0x4018000000000000) one).2,
   .flt (div (ab (á r g b) (ó r g b)) (á r g b)),.flt (á r g b)]):= by
 rw[AS];apply kZ rfl;show aF F Co.bX.code [some (.flt r),some (.flt g),some (.flt b),none,none,none,none,none,none,none,none,none]=_;unfold Co.bX;refine seq (asg (by simp only[aH,Ù];try rfl)) ?_;refine seq (asg (by simp only[aH,Ù];try rfl)) ?_;refine seq (asg (by simp only[aH,Ù];try rfl)) ?_;refine seq (asg (by simp only[aH,Ù];try rfl)) ?_;refine seq (dE (by simp only[aH,Ù,h]) cE) ?_;refine seq (asg (by simp only[aH,Ù,eJ _ _ hM];try rfl)) ?_;refine seq (asg (by simp only[aH,Ù,eJ _ _ hD];try rfl)) ?_;refine seq (asg (by simp only[aH,Ù,eJ _ _ hD];try rfl)) ?_;refine seq (asg (by simp only[aH,Ù,eJ _ _ hD];try rfl)) ?_
 dsimp only[bP,bQ]
 have key:∀N M D hh:UInt64,mA r g b M D=hh->dY F Q02
   [some (.flt r),some (.flt g),some (.flt b),some (.flt M),some (.flt N),some (.flt D),some (.flt M),some (.flt (div D M)),some (.flt (div (ab M r) D)),some (.flt (div (ab M g) D)),some (.flt (div (ab M b) D)),none]=
   some ([some (.flt r),some (.flt g),some (.flt b),some (.flt M),some (.flt N),some (.flt D),some (.flt M),some (.flt (div D M)),some (.flt (div (ab M r) D)),some (.flt (div (ab M g) D)),some (.flt (div (ab M b) D)),some (.flt hh)],.next):= by
  intro N M D hh e;refine yU (c:=Ĕ r M) (by rfl) (λc=>?_) (λc=>?_)
  ·refine aK ?_;have:hh=ab (div (ab M b) D) (div (ab M g) D):=by rw[<-e];unfold mA;rw[if_pos c]
   subst this;exact asg (by rfl)
  ·refine aK (yU (c:=Ĕ g M) (by rfl) (λc'=>?_) (λc'=>?_))
   ·refine aK ?_;have:hh=ab (add 0x4000000000000000 (div (ab M r) D)) (div (ab M b) D):=by rw[<-e];unfold mA;rw[if_neg (by simp[c]),if_pos c']
    subst this;exact asg (by rfl)
   ·refine aK ?_;have:hh=ab (add 0x4010000000000000 (div (ab M g) D)) (div (ab M r) D):=by rw[<-e];unfold mA;rw[if_neg (by simp[c]),if_neg (by simp[c'])]
    subst this;exact asg (by rfl)
 refine seq (key _ _ _ _ rfl) ?_;refine seq (asg (by simp only[aH,Ù,eJ _ _ z6,wA _ _ z1];try rfl)) ?_;exact fN (by rfl)
end
section
variable{F:Fn}{r g b h s v l:UInt64}
def Ū (a b:UInt64):Bool:=Ģ a b||Ĕ a b
theorem X1 (h:Ĕ (ó r g b) (á r g b)=true):
  e9 F Co.bW [.flt r,.flt g,.flt b]=some (.tup [.flt 0,.flt (div (add (á r g b) (ó r g b)) 0x4000000000000000),.flt 0]):= by
 apply kZ rfl;show aF F Co.bW.code [some (.flt r),some (.flt g),some (.flt b),none,none,none,none,none,none,none,none,none,none]=_;unfold Co.bW;refine seq (asg (by simp only[aH,Ù];try rfl)) ?_;refine seq (asg (by simp only[aH,Ù];try rfl)) ?_;refine seq (asg (by simp only[aH,Ù];try rfl)) ?_;refine seq (asg (by simp only[aH,Ù];try rfl)) ?_;refine seq (asg (by simp only[aH,Ù,eJ _ _ z2];try rfl)) ?_;refine iJ (fJ (by simp only[aH,Ù,h]) (fN (by simp only[aH,Ù];try rfl))) (by simp)
def tJ (M N D l:UInt64):UInt64:=if Ū l 0x3fe0000000000000 then div D (add M N) else div D (ab (ab 0x4000000000000000 M) N)
theorem X2 (h:Ĕ (ó r g b) (á r g b)=false) (hD:bz (ab (á r g b) (ó r g b))=false)
  (Ru:Ū (div (add (á r g b) (ó r g b)) 0x4000000000000000) 0x3fe0000000000000=true->bz (add (á r g b) (ó r g b))=false)
  (Zz:Ū (div (add (á r g b) (ó r g b)) 0x4000000000000000) 0x3fe0000000000000=false->bz (ab (ab 0x4000000000000000 (á r g b)) (ó r g b))=false):
  e9 F Co.bW [.flt r,.flt g,.flt b]=some (.tup [.flt (ca (div (mA r g b (á r g b) (ab (á r g b) (ó r g b))) 0x4018000000000000) one).2,
   .flt (div (add (á r g b) (ó r g b)) 0x4000000000000000),.flt (tJ (á r g b) (ó r g b) (ab (á r g b) (ó r g b)) (div (add (á r g b) (ó r g b)) 0x4000000000000000))]):= by
 refine O AS ?_;apply kZ rfl;show aF F Co.bW.code [some (.flt r),some (.flt g),some (.flt b),none,none,none,none,none,none,none,none,none,none]=_;unfold Co.bW;refine seq (asg (by simp only[aH,Ù];try rfl)) ?_;refine seq (asg (by simp only[aH,Ù];try rfl)) ?_;refine seq (asg (by simp only[aH,Ù];try rfl)) ?_;refine seq (asg (by simp only[aH,Ù];try rfl)) ?_;refine seq (asg (by simp only[aH,Ù,eJ _ _ z2];try rfl)) ?_;refine seq (dE (by simp only[aH,Ù,h]) cE) ?_
 dsimp only[bP,bQ]
 have key0:∀N M S D l ss:UInt64,tJ M N D l=ss->S=add M N->(Ū l 0x3fe0000000000000=true->bz (add M N)=false)->(Ū l 0x3fe0000000000000=false->bz (ab (ab 0x4000000000000000 M) N)=false)->
   dY F Q0a
   [some (.flt r),some (.flt g),some (.flt b),some (.flt M),some (.flt N),some (.flt S),some (.flt D),some (.flt l),none,none,none,none,none]=
   some ([some (.flt r),some (.flt g),some (.flt b),some (.flt M),some (.flt N),some (.flt S),some (.flt D),some (.flt l),some (.flt ss),none,none,none,none],.next):= by
  intro N M S D l ss e1 e2 e3 e4;subst e2;refine yU (c:=Ū l 0x3fe0000000000000) (by simp only[aH,Ù];rfl) (λc=>?_) (λc=>?_)
  ·refine aK ?_;have:ss=div D (add M N):=by refine aBD e1 ?_;unfold tJ;exact O (if_pos c) rfl
   subst this;exact asg (by simp only[aH,Ù,eJ _ _ (e3 c)];try rfl)
  ·refine aK ?_;have:ss=div D (ab (ab 0x4000000000000000 M) N):=by refine aBD e1 ?_;unfold tJ;exact O (if_neg (by simp[c])) rfl
   subst this;exact asg (by simp only[aH,Ù,eJ _ _ (e4 c)];try rfl)
 refine seq (key0 _ _ _ _ _ _ rfl rfl Ru Zz) ?_;refine seq (asg (by simp only[aH,Ù,eJ _ _ hD];try rfl)) ?_;refine seq (asg (by simp only[aH,Ù,eJ _ _ hD];try rfl)) ?_;refine seq (asg (by simp only[aH,Ù,eJ _ _ hD];try rfl)) ?_
 dsimp only[bP,bQ]
 have key:∀N M S D l ss hh:UInt64,mA r g b M D=hh->dY F Q01
   [some (.flt r),some (.flt g),some (.flt b),some (.flt M),some (.flt N),some (.flt S),some (.flt D),some (.flt l),some (.flt ss),some (.flt (div (ab M r) D)),some (.flt (div (ab M g) D)),some (.flt (div (ab M b) D)),none]=
   some ([some (.flt r),some (.flt g),some (.flt b),some (.flt M),some (.flt N),some (.flt S),some (.flt D),some (.flt l),some (.flt ss),some (.flt (div (ab M r) D)),some (.flt (div (ab M g) D)),some (.flt (div (ab M b) D)),some (.flt hh)],.next):= by
  intro N M S D l ss hh e;refine yU (c:=Ĕ r M) (by rfl) (λc=>?_) (λc=>?_)
  ·refine aK ?_;have:hh=ab (div (ab M b) D) (div (ab M g) D):=by refine aBD e ?_;unfold mA;exact O (if_pos c) rfl
   subst this;exact asg (by rfl)
  ·refine aK (yU (c:=Ĕ g M) (by rfl) (λc'=>?_) (λc'=>?_))
   ·refine aK ?_;have:hh=ab (add 0x4000000000000000 (div (ab M r) D)) (div (ab M b) D):=by refine aBD e ?_;unfold mA;exact O (if_neg (by simp[c])) (O (if_pos c') rfl)
    subst this;exact asg (by rfl)
   ·refine aK ?_;have:hh=ab (add 0x4010000000000000 (div (ab M g) D)) (div (ab M r) D):=by refine aBD e ?_;unfold mA;exact O (if_neg (by simp[c])) (O (if_neg (by simp[c'])) rfl)
    subst this;exact asg (by rfl)
 refine seq (key _ _ _ _ _ _ _ rfl) ?_;refine seq (asg (by simp only[aH,Ù,eJ _ _ z6,wA _ _ z1];try rfl)) ?_;exact fN (by rfl)
theorem UU (h0:Ĕ s 0=true):e9 F Co.bT [.flt h,.flt s,.flt v]=some (.tup [.flt v,.flt v,.flt v]):= by
 apply kZ rfl;show aF F Co.bT.code [some (.flt h),some (.flt s),some (.flt v),none,none,none,none,none]=_;unfold Co.bT;refine iJ (fJ (by simp only[aH,Ù,h0]) (fN (by rfl))) (by simp)
noncomputable def aAY (k:Int) (v t p q:UInt64):List PV:=
 if k=0 then[.flt v,.flt t,.flt p] else if k=1 then[.flt q,.flt v,.flt p] else if k=2 then[.flt p,.flt v,.flt t]
 else if k=3 then[.flt p,.flt q,.flt v] else if k=4 then[.flt t,.flt p,.flt v] else[.flt v,.flt p,.flt q]
theorem UV (h0:Ĕ s 0=false) (hi:Ē .int [.flt (mul h 0x4018000000000000)]=some (.int i)) (ho:Ļ i=true):
  e9 F Co.bT [.flt h,.flt s,.flt v]=some (.tup (aAY (i%6) v
   (mul v (ab 0x3ff0000000000000 (mul s (ab 0x3ff0000000000000 (ab (mul h 0x4018000000000000) (cu i))))))
   (mul v (ab 0x3ff0000000000000 s))
   (mul v (ab 0x3ff0000000000000 (mul s (ab (mul h 0x4018000000000000) (cu i))))))):= by
 apply kE rfl;show iR (aF F Co.bT.code [some (.flt h),some (.flt s),some (.flt v),none,none,none,none,none])=_;unfold Co.bT;refine dC (by simp only[aH,Ù,h0]) ?_;refine bG (asg (by simp only[aH,Ù,hi];try rfl)) ?_;refine bG (asg (by simp only[aH,Ù,PB _ _ ho];try rfl)) ?_;refine bG (asg (by rfl)) ?_;refine bG (asg (by rfl)) ?_;refine bG (asg (by rfl)) ?_;refine bG (asg (by rfl)) ?_
 dsimp only[bP,bQ]
 generalize hk:i%6=k;have Sr:k=0\/k=1\/k=2\/k=3\/k=4\/k=5:=by lia
 clear hk;rcases Sr with rfl|rfl|rfl|rfl|rfl|rfl
 ·exact k7 (by rfl) (fK (by rfl))
 ·refine dC (by rfl) ?_;exact k7 (by rfl) (fK (by rfl))
 ·refine dC (by rfl) ?_;refine dC (by rfl) ?_;exact k7 (by rfl) (fK (by rfl))
 ·refine dC (by rfl) ?_;refine dC (by rfl) ?_;refine dC (by rfl) ?_;exact k7 (by rfl) (fK (by rfl))
 ·refine dC (by rfl) ?_;refine dC (by rfl) ?_;refine dC (by rfl) ?_;refine dC (by rfl) ?_;exact k7 (by rfl) (fK (by rfl))
 ·refine dC (by rfl) ?_;refine dC (by rfl) ?_;refine dC (by rfl) ?_;refine dC (by rfl) ?_;refine dC (by rfl) ?_;exact k7 (by rfl) (fK (by rfl))
def vF (m1 m2 u:UInt64):UInt64:=
 if Ģ u 0x3fc5555555555555 then add m1 (mul (mul (ab m2 m1) u) 0x4018000000000000)
 else if Ģ u 0x3fe0000000000000 then m2
 else if Ģ u 0x3fe5555555555555 then add m1 (mul (mul (ab m2 m1) (ab 0x3fe5555555555555 u)) 0x4018000000000000)
 else m1
theorem ZW:e9 F Co.f_v [.flt m1,.flt m2,.flt u]=some (.flt (vF m1 m2 (ca u one).2)):= by
 refine O AS ?_;apply kZ rfl;show aF F Co.f_v.code [some (.flt m1),some (.flt m2),some (.flt u)]=_;unfold Co.f_v Co.nS Co.kN;refine seq (asg (by simp only[aH,Ù,wA _ _ z1];try rfl)) ?_
 dsimp only[bP,bQ]
 unfold vF;cases c1:Ģ (ca u 4607182418800017408).2 0x3fc5555555555555
 ·refine seq (dE (by simp only[aH,Ù,c1]) cE) ?_;cases c2:Ģ (ca u 4607182418800017408).2 0x3fe0000000000000
  ·refine seq (dE (by simp only[aH,Ù,c2]) cE) ?_;cases c3:Ģ (ca u 4607182418800017408).2 0x3fe5555555555555
   ·refine seq (dE (by simp only[aH,Ù,c3]) cE) ?_;exact fN (by rfl)
   ·exact iJ (fJ (by simp only[aH,Ù,c3]) (fN (by rfl))) (by simp)
  ·exact iJ (fJ (by simp only[aH,Ù,c2]) (fN (by rfl))) (by simp)
 ·exact iJ (fJ (by simp only[aH,Ù,c1]) (fN (by rfl))) (by simp)
theorem UW (h0:Ĕ s 0=true):e9 F (Co.bS k) [.flt h,.flt l,.flt s]=some (.tup [.flt l,.flt l,.flt l]):= by
 apply kZ rfl;show aF F (Co.bS k).code [some (.flt h),some (.flt l),some (.flt s),none,none]=_;unfold Co.bS;refine iJ (fJ (by simp only[aH,Ù,h0]) (fN (by rfl))) (by simp)
def nK (l s:UInt64):UInt64:=if Ū l 0x3fe0000000000000 then mul l (add 0x3ff0000000000000 s) else ab (add l s) (mul l s)
theorem UX (h0:Ĕ s 0=false) (hF:∀m1 m2 u:UInt64,F k [.flt m1,.flt m2,.flt u]=some (.flt (vF m1 m2 (ca u one).2))):
  e9 F (Co.bS k) [.flt h,.flt l,.flt s]=some (.tup [
   .flt (vF (ab (mul 0x4000000000000000 l) (nK l s)) (nK l s) (ca (add h 0x3fd5555555555555) one).2),
   .flt (vF (ab (mul 0x4000000000000000 l) (nK l s)) (nK l s) (ca h one).2),
   .flt (vF (ab (mul 0x4000000000000000 l) (nK l s)) (nK l s) (ca (ab h 0x3fd5555555555555) one).2)]):= by
 apply kZ rfl;show aF F (Co.bS k).code [some (.flt h),some (.flt l),some (.flt s),none,none]=_;unfold Co.bS Co.kM;refine seq (dE (by simp only[aH,Ù,h0]) cE) ?_;have key:∀m2:UInt64,nK l s=m2->dY F (.ite (.cmp .LtE Qu Λ) (.cons (.asg 3 (.bin .Mult Qu (.bin .Add Qz ç))) .nil) (.cons (.asg 3 (.bin .Sub (.bin .Add Qu ç) (.bin .Mult Qu ç))) .nil))
   [some (.flt h),some (.flt l),some (.flt s),none,none]=some ([some (.flt h),some (.flt l),some (.flt s),some (.flt m2),none],.next):= by
  intro m2 e;refine yU (c:=Ū l 0x3fe0000000000000) (by rfl) (λc=>?_) (λc=>?_)
  ·refine aK ?_;have:m2=mul l (add 0x3ff0000000000000 s):=by refine aBD e ?_;unfold nK;exact O (if_pos c) rfl
   subst this;exact asg (by rfl)
  ·refine aK ?_;have:m2=ab (add l s) (mul l s):=by refine aBD e ?_;unfold nK;exact O (if_neg (by simp[c])) rfl
   subst this;exact asg (by rfl)
 refine seq (key _ rfl) ?_;refine seq (asg (by rfl)) ?_;exact fN (by simp only[aH,Ù,hF];try rfl)
end
def Gr (S:Nat) (x:UInt64) (n:Int):Prop:=È x/\R x*(S:Rat)=(n:Rat)
structure Sc (S:Nat) where
 e:Nat
 le:e<=1000
 eq:S=2^e
theorem Sc.pos{S:Nat}(h:Sc S):(1:Rat)<=(S:Rat):= by
 have:1<=S:=by exact O h.eq Nat.one_le_two_pow
 exact_mod_cast this
theorem Sc.dy{S:Nat}(h:Sc S){q:Rat}{n:Int}(hq:q*(S:Rat)=n) (hn:n.natAbs<=2^53):Dy q:=(cC n h.e (aa h.le (by decide)) hn (by exact aBD h.eq hq))
theorem V1{n:Int}(h:n.natAbs<=2^53):-(2^53:Rat)<=(n:Rat)/\(n:Rat)<=2^53:= by
 have h1:-(2^53:Int)<=n:=wv (aw (Cm n▸Db) (mi.mpr h));have h2:n<=(2^53:Int):=by exact Ď [_] [_] (.l .a .ki) [.x .q .ki,.l .a .q] h Db
 have Nx:=an.mpr h1;have Ku:=an.mpr h2;rw[vh,mm] at Nx;rw[mm] at Ku;exact⟨Nx,Ku⟩
theorem jI{q s b:Rat}(hs:1<=s) (hb:0<=b) (h:q*s<=b):q<=b:= by
 rcases(gj:q<=0\/0<=q) with hq|hq
 ·exact Rat.le_trans hq hb
 ·have:=Rat.mul_le_mul_of_nonneg_left hs hq;exact Ź (.l .a .b) [.l (.M .a .c) .b,.l (.M .a .n1) (.M .a .c)] h this
section
variable{S:Nat}{x y:UInt64}{n m:Int}
theorem jM (hS:Sc S) (hx:Gr S x n) (hy:Gr S y m) (h:(n-m).natAbs<=2^53):Gr S (ab x y) (n-m):= by
 refine xa hx λf1 e1=>?_;clear hx;refine xa hy λf2 e2=>?_;clear hy;have hp:=hS.pos;have hb:=V1 h;have he:(R x-R y)*(S:Rat)=((n-m:Int):Rat):=by push_cast;exact Ů (.e (.M .ka .c) (.S .d .e)) [.e (.M .a .c) .d,.e .e .kq] e1 e2.symm
 refine bE (jP f1 f2 (M:=2^53) ⟨53,by decide,rfl⟩
  (by
   have:-(R x-R y)<=2^53:=jI hp (ĺ (.l .n0 .ki) []) (Ī (.l (.M (.G .ka) .c) .ki) [.l (.G .ki) .d,.e .d (.M .ka .c)] hb.1 he.symm);push_cast;exact ė (.l (.G (.N 9007199254740992)) .ka) [.l (.G .ka) .ki] this)
  (by
   have:(R x-R y)<=2^53:=jI hp (ĺ (.l .n0 .ki) []) (Ī (.l (.M .ka .c) .ki) [.l .d .ki,.e (.M .ka .c) .d] hb.2 he);push_cast;exact ė (.l .ka (.N 9007199254740992)) [.l .ka .ki] this)) λa aT Gq b=>?_;clear aT;exact⟨a,by exact O (b (hS.dy he h)) he⟩
theorem PW (hS:Sc S) (hx:Gr S x n) (hy:Gr S y m) (h:(n+m).natAbs<=2^53):Gr S (add x y) (n+m):= by
 refine xa hx λf1 e1=>?_;clear hx;refine xa hy λf2 e2=>?_;clear hy;have hp:=hS.pos;have hb:=V1 h;have he:(R x+R y)*(S:Rat)=((n+m:Int):Rat):=by push_cast;exact Ů (.e (.M .kb .c) (.A .d .e)) [.e (.M .a .c) .d,.e .kq .e] e1 e2
 refine bE (l3 f1 f2 (M:=2^53) ⟨53,by decide,rfl⟩
  (by
   have:-(R x+R y)<=2^53:=jI hp (ĺ (.l .n0 .ki) []) (Ī (.l (.M (.G .kb) .c) .ki) [.l (.G .ki) .d,.e .d (.M .kb .c)] hb.1 he.symm);push_cast;exact ė (.l (.G (.N 9007199254740992)) .kb) [.l (.G .kb) .ki] this)
  (by
   have:(R x+R y)<=2^53:=jI hp (ĺ (.l .n0 .ki) []) (Ī (.l (.M .kb .c) .ki) [.l .d .ki,.e (.M .kb .c) .d] hb.2 he);push_cast;exact ė (.l .kb (.N 9007199254740992)) [.l .kb .ki] this)) λa aT Gq b=>?_;clear aT;exact⟨a,by exact O (b (hS.dy he h)) he⟩
theorem yZ (hS:Sc S) (hx:Gr S x n) (hy:Gr S y m):R x<R y<->n<m:= by
 refine xa hx λf1 e1=>?_;clear hx;refine xa hy λf2 e2=>?_;clear hy;have hp:(0:Rat)<(S:Rat):=by have:=hS.pos;exact ı (.t .n0 .a) [.l .n1 .a] this
 constructor
 ·intro h;have:=ij h hp;rw[e1,e2] at this
  exact_mod_cast this
 ·intro h;have:(n:Rat)<(m:Rat):=by exact_mod_cast h
  rw[<-e1,<-e2] at this;exact eg this (av hp)
theorem PX (hS:Sc S) (hx:Gr S x n) (hy:Gr S y m):R x=R y<->n=m:= by
 have h1:=yZ hS hx hy;have h2:=yZ hS hy hx;constructor
 ·intro h;have a:¬n<m:=λq=>by have:=h1.mpr q;grind
  have b:¬m<n:=λq=>by have:=h2.mpr q;grind
  exact cb ((dt.mp b)) ((dt.mp a))
 ·intro h;have a:¬R x<R y:=λq=>by have:=h1.mp q;exact absurd (Ĺ (.t .n0 .n0) [.e .a .b,.t .b .a] h.symm this) (gq _)
  have b:¬R y<R x:=λq=>by have:=h2.mp q;exact absurd (Ĺ (.t .n0 .n0) [.e .a .b,.t .b .a] h this) (gq _)
  exact jm ((jt.mp b)) ((jt.mp a))
theorem m8 (hS:Sc S) (hx:Gr S x n) (hy:Gr S y m):Ĕ x y=decide (n=m):= by
 have h:=PX hS hx hy;have h1:=yZ hS hx hy
 delta Ĕ
 refine O (nY hx.1 hy.1) ?_
 by_cases hc:n=m
 ·refine O (if_neg (by rw[h1];exact dt.mpr (co hc.symm))) (O (if_pos (h.mpr hc)) ?_);simp[hc]
 ·have:¬R x=R y:=λq=>hc (h.mp q);simp only[hc,decide_false];split
  ·rfl
  ·first|rw[if_neg this];rfl|rfl
theorem FM (hS:Sc S) (hx:Gr S x n) (hy:Gr S y m):Ÿ x y=decide (n>m):= by
 have h:=PX hS hx hy;have h1:=yZ hS hx hy
 delta Ÿ
 refine O (nY hx.1 hy.1) ?_
 by_cases hc:n<m
 ·refine O (if_pos (h1.mpr hc)) ?_;have:¬n>m:=by exact dt.mpr (de hc)
  simp[this]
 ·refine O (if_neg (λq=>hc (h1.mp q))) ?_
  by_cases hd:n=m
  ·refine O (if_pos (h.mpr hd)) ?_;have:¬n>m:=by exact dt.mpr (co hd)
   simp[this]
  ·refine O (if_neg (λq=>hd (h.mp q))) ?_;have:n>m:=by lia
   simp[this]
theorem FN (hS:Sc S) (hx:Gr S x n) (hy:Gr S y m):Ģ x y=decide (n<m):= by
 have h:=PX hS hx hy;have h1:=yZ hS hx hy
 delta Ģ
 refine O (nY hx.1 hy.1) ?_
 by_cases hc:n<m
 ·refine O (if_pos (h1.mpr hc)) ?_;simp[hc]
 ·refine O (if_neg (λq=>hc (h1.mp q))) ?_
  by_cases hd:n=m
  ·refine O (if_pos (h.mpr hd)) ?_;simp[hc]
  ·refine O (if_neg (λq=>hd (h.mp q))) ?_;simp[hc]
theorem rF (hS:Sc S) (hx:Gr S x n):bz x=decide (n=0):= by
 refine O (v7 hx.1) ?_;have hp:(0:Rat)<(S:Rat):=by have:=hS.pos;exact ı (.t .n0 .a) [.l .n1 .a] this
 have:R x=0<->n=0:= by
  constructor
  ·intro h;have:=hx.2;rw[h,en] at this;have h2:((0:Int):Rat)=(n:Rat):=by exact_mod_cast this
   have h3:(0:Int)=n:=by exact_mod_cast h2
   exact h3.symm
  ·intro h;have h2:=hx.2;rw[h] at h2;refine f9 hp ?_;refine O h2 (O (en ..) ?_);push_cast;rfl
 simp[this]
noncomputable def aX (a b c:Int):Int:=if b>a then(if c>b then c else b) else(if c>a then c else a)
noncomputable def bA (a b c:Int):Int:=if b<a then(if c<b then c else b) else(if c<a then c else a)
variable{r g b:UInt64}{A B C:Int}
theorem wJ (hS:Sc S) (hr:Gr S r A) (hg:Gr S g B) (hb:Gr S b C):Gr S (á r g b) (aX A B C):= by
 delta á aX
 refine O (FM hS hg hr) (O (FM hS hb hg) (O (FM hS hb hr) ?_));simp only[decide_eq_true_eq];split
 ·split
  ·exact hb
  ·exact hg
 ·split
  ·exact hb
  ·exact hr
theorem wK (hS:Sc S) (hr:Gr S r A) (hg:Gr S g B) (hb:Gr S b C):Gr S (ó r g b) (bA A B C):= by
 delta ó bA
 refine O (FN hS hg hr) (O (FN hS hb hg) (O (FN hS hb hr) ?_));simp only[decide_eq_true_eq];split
 ·split
  ·exact hb
  ·exact hg
 ·split
  ·exact hb
  ·exact hr
theorem qE (hS:Sc S) (hx:Gr S x n) (hy:Gr S y m) (h0:0<=n) (h1:n<=m) (h2:0<m):
  È (div x y)/\(n:Rat)/(m:Rat)-1/2^54<=R (div x y)/\R (div x y)<=(n:Rat)/(m:Rat)+1/2^54/\(n=0->R (div x y)=0)/\(n=m->R (div x y)=1):= by
 have hp:(0:Rat)<(S:Rat):=by have:=hS.pos;exact ı (.t .n0 .a) [.l .n1 .a] this
 refine xa hx λf1 e1=>?_;clear hx;refine xa hy λf2 e2=>?_;clear hy;have hm:(0:Rat)<(m:Rat):=by exact_mod_cast h2
 have hn:(0:Rat)<=(n:Rat):=by exact_mod_cast h0
 have Ot:(n:Rat)<=(m:Rat):=by exact_mod_cast h1
 have Mx:0<R y:=eg (c:=(S:Rat)) (by exact O (en ..) (O e2 hm)) (av hp);have Og:0<=R x:=eC hp (by exact O (en ..) (O e1 hn));have Tk:R x<=R y:=eC hp (by exact O e1 (O e2 Ot));refine bE (C3 f1 f2 Mx (M:=1) ⟨0,by decide,rfl⟩ (by push_cast;exact ė (.l (.G (.M .n1 .a)) .b) [.t .n0 .a,.l .n0 .b] Mx Og) (by push_cast;exact ė (.l .a (.M .n1 .b)) [.l .a .b] Tk)) λa b c d=>?_;have hq:R x/R y=(n:Rat)/(m:Rat):= by
  have q1:R x/R y*R y=R x:=ģ (by assumption);have q2:(n:Rat)/(m:Rat)*(m:Rat)=n:=ģ (by assumption);generalize R x/R y=Q at*;generalize (n:Rat)/(m:Rat)=P at*;refine f9 hm ?_;exact O q2 (aBD e1 (aBD q1 (aBD e2 (Ź (.e (.M .a .kq) (.M .kd .c)) []))))
 rw[hq] at b c d;push_cast at b c;refine(jD a b c (λe=>?_) (λe=>?_))
 ·have:(n:Rat)/(m:Rat)=0:=by refine O e ?_;push_cast;simp[qg]
  rw[this] at d;exact d (cC 0 0 (by decide) (by decide) (by push_cast;exact ĺ (.e (.M .n0 .n1) .n0) []))
 ·have:(n:Rat)/(m:Rat)=1:=by refine O e ?_;exact f9 hm ((ģ hm).trans (my _).symm)
  rw[this] at d;exact d (cC 1 0 (by decide) (by decide) (by push_cast;exact ĺ (.e (.M .n1 .n1) .n1) []))
end
theorem X3 (h:un x=true):È x:= by
 delta un at h
 delta È
 cases hd:ow x with
 |fin a m e=>exact(fX a m e rfl)
 |_=>rw[hd] at h;cases h
theorem rG (hf:un x=true) (hd:0<d) (h:val x*d=n*(K:Int)):È x/\R x=(n:Rat)/(d:Rat):=⟨X3 hf,Ŀ hd h⟩
theorem l2:È 0x4000000000000000/\R 0x4000000000000000=2:= by
 have:=rG (x:=0x4000000000000000) (n:=2) (d:=1) (by decide +kernel) (by decide) (by decide +kernel);exact⟨this.1,by refine O this.2 ?_;push_cast;exact å (.e (.D .n2 .n1) .n2) [] rfl⟩
theorem l4:È 0x4010000000000000/\R 0x4010000000000000=4:= by
 have:=rG (x:=0x4010000000000000) (n:=4) (d:=1) (by decide +kernel) (by decide) (by decide +kernel);exact⟨this.1,by refine O this.2 ?_;push_cast;exact å (.e (.D .n4 .n1) .n4) [] rfl⟩
theorem l6:È 0x4018000000000000/\R 0x4018000000000000=6:= by
 have:=rG (x:=0x4018000000000000) (n:=6) (d:=1) (by decide +kernel) (by decide) (by decide +kernel);exact⟨this.1,by refine O this.2 ?_;push_cast;exact å (.e (.D .n6 .n1) .n6) [] rfl⟩
theorem l1:È 0x3ff0000000000000/\R 0x3ff0000000000000=1:= by
 have:=rG (x:=0x3ff0000000000000) (n:=1) (d:=1) (by decide +kernel) (by decide) (by decide +kernel);exact⟨this.1,by refine O this.2 ?_;push_cast;exact å (.e (.D .n1 .n1) .n1) [] rfl⟩
theorem lh:È 0x3fe0000000000000/\R 0x3fe0000000000000=1/2:= by
 have:=rG (x:=0x3fe0000000000000) (n:=1) (d:=2) (by decide +kernel) (by decide) (by decide +kernel);exact⟨this.1,by refine O this.2 ?_;push_cast;exact å (.e .kf .kf) [] rfl⟩
theorem l0:È 0/\R 0=0:= by
 have:=rG (x:=0) (n:=0) (d:=1) (by decide +kernel) (by decide) (by decide +kernel);exact⟨this.1,by refine O this.2 ?_;push_cast;exact å (.e (.D .n0 .n1) .n0) [] rfl⟩
theorem l13:È 0x3fd5555555555555/\R 0x3fd5555555555555=6004799503160661/2^54:= by
 have:=rG (x:=0x3fd5555555555555) (n:=6004799503160661) (d:=2^54) (by decide +kernel) (by decide) (by decide +kernel);exact⟨this.1,by refine O this.2 ?_;push_cast;exact å (.e (.D .ku .kM) (.E 6004799503160661)) [] rfl⟩
theorem l16:È 0x3fc5555555555555/\R 0x3fc5555555555555=6004799503160661/2^55:= by
 have:=rG (x:=0x3fc5555555555555) (n:=6004799503160661) (d:=2^55) (by decide +kernel) (by decide) (by decide +kernel);exact⟨this.1,by refine O this.2 ?_;push_cast;exact å (.e (.D .ku (.N 36028797018963968)) (.D .ku (.P .n2 55))) [] rfl⟩
theorem l23:È 0x3fe5555555555555/\R 0x3fe5555555555555=6004799503160661/2^53:= by
 have:=rG (x:=0x3fe5555555555555) (n:=6004799503160661) (d:=2^53) (by decide +kernel) (by decide) (by decide +kernel);exact⟨this.1,by refine O this.2 ?_;push_cast;exact å (.e (.D .ku (.N 9007199254740992)) (.D .ku .ki)) [] rfl⟩
def jN (A B C:Int):Rat:=
 if A=aX A B C then((B-C:Int):Rat)/((aX A B C-bA A B C:Int):Rat)
 else if B=aX A B C then 2+((C-A:Int):Rat)/((aX A B C-bA A B C:Int):Rat)
 else 4+((A-B:Int):Rat)/((aX A B C-bA A B C:Int):Rat)
theorem fQ (A B C:Int):A<=aX A B C/\B<=aX A B C/\C<=aX A B C/\(aX A B C=A\/aX A B C=B\/aX A B C=C):= by
 delta aX
 by_cases h:B>A
 ·refine O (if_pos h) ?_
  by_cases h':C>B
  ·exact O (if_pos h') (d9 (de (zx h h')) (de h') (ie _) (.inr (.inr rfl)))
  ·exact O (if_neg h') (d9 (de h) (ie _) (dt.mp h') (.inr (.inl rfl)))
 ·refine O (if_neg h) ?_
  by_cases h':C>A
  ·exact O (if_pos h') (d9 (de h') (aw (dt.mp h) (de h')) (ie _) (.inr (.inr rfl)))
  ·exact O (if_neg h') (d9 (ie _) (dt.mp h) (dt.mp h') (.inl rfl))
theorem eY (A B C:Int):bA A B C<=A/\bA A B C<=B/\bA A B C<=C/\(bA A B C=A\/bA A B C=B\/bA A B C=C):= by
 delta bA
 by_cases h:B<A
 ·refine O (if_pos h) ?_
  by_cases h':C<B
  ·exact O (if_pos h') (d9 (de (zx h' h)) (de h') (ie _) (.inr (.inr rfl)))
  ·exact O (if_neg h') (d9 (de h) (ie _) (dt.mp h') (.inr (.inl rfl)))
 ·refine O (if_neg h) ?_
  by_cases h':C<A
  ·exact O (if_pos h') (d9 (de h') (aw (de h') (dt.mp h)) (ie _) (.inr (.inr rfl)))
  ·exact O (if_neg h') (d9 (ie _) (dt.mp h) (dt.mp h') (.inl rfl))
theorem V2 (hA:0<=A/\A<=S) (hB:0<=B/\B<=S) (hC:0<=C/\C<=S):aX A B C-bA A B C<=S:= by
 refine aw (li _ ?_) ?_
 ·rcases(eY A B C).2.2.2 with e|e|e<;>refine O e ?_
  ·exact hA.1
  ·exact hB.1
  ·exact hC.1
 ·rcases(fQ A B C).2.2.2 with e|e|e<;>refine O e ?_
  ·exact hA.2
  ·exact hB.2
  ·exact hC.2
theorem y5{x S:Int}(h0:0<=x) (h1:x<=S) (hS:S<=2^53):x.natAbs<=2^53:=mi.mp (by exact O (aq h0) (aw h1 hS))
theorem X4{a b S:Int}(ha:0<=a/\a<=S) (hb:0<=b/\b<=S) (hS:S<=2^53):(a-b).natAbs<=2^53:= by
 rcases zs b a with h|h
 ·exact y5 (bt h) (aw (li _ hb.1) ha.2) hS
 ·exact aBD (Cm ..) (O (Int.neg_sub ..) (y5 (bt h) (aw (li _ ha.1) hb.2) hS))
theorem AU (h1:A<=m) (h2:B<=m) (h3:C<=m) (h4:m=A\/m=B\/m=C):aX A B C=m:= by
 refine bE (fQ A B C) λq1 q2 q3 q4=>?_;refine cb ?_ ?_
 ·rcases q4 with e|e|e<;>refine O e ?_<;>assumption
 ·rcases h4 with rfl|rfl|rfl<;>assumption
theorem HY (h1:m<=A) (h2:m<=B) (h3:m<=C) (h4:m=A\/m=B\/m=C):bA A B C=m:= by
 refine bE (eY A B C) λq1 q2 q3 q4=>?_;refine cb ?_ ?_
 ·rcases h4 with rfl|rfl|rfl<;>assumption
 ·rcases q4 with e|e|e<;>refine O e ?_<;>assumption
theorem V3 (h:¬(A=B/\B=C)):bA A B C<aX A B C:= by
 refine bE (eY A B C) λq1 q2 q3 q4=>?_;refine bE (fQ A B C) λp1 p2 p3 p4=>?_;refine mu.mp λq=>h ⟨cb (aw p1 (aw q q2)) (aw p2 (aw q q1)),cb (aw p2 (aw q q3)) (aw p3 (aw q q2))⟩
theorem aAZ{a:Int}{S:Nat}(h:0<=a/\a<=S) (hS:S<=2^50):0<=a/\a<=2^50:=⟨h.1,aw h.2 (mi.mpr hS)⟩
section
variable{S:Nat}{r g b:UInt64}{A B C:Int}
theorem mB{n m:Int}(h0:0<=n) (h1:n<=m) (h2:0<m):(0:Rat)<=(n:Rat)/(m:Rat)/\(n:Rat)/(m:Rat)<=1:= by
 have hm:(0:Rat)<(m:Rat):=by exact_mod_cast h2
 have hn:(0:Rat)<=(n:Rat):=by exact_mod_cast h0
 have Ot:(n:Rat)<=(m:Rat):=by exact_mod_cast h1
 have q:(n:Rat)/(m:Rat)*(m:Rat)=n:=ģ (by assumption);exact⟨eC hm (by exact O q (O (en ..) hn)),eC hm (by refine O q (O (my ..) ?_);exact Ot)⟩
theorem ZX{a b:Int}(ha:0<=a/\a<=2^50) (hb:0<=b/\b<=2^50):(a-b).natAbs<=2^53:=X4 ha hb (by decide)
theorem wL{X Y x:UInt64}{M N A:Int}(hS:Sc S) (gM:Gr S X M) (gN:Gr S Y N) (gr:Gr S x A) (n:N<=A) (m:A<=M) (hA:0<=A/\A<=2^50) (hM:0<=M/\M<=2^50) (hN:0<=N/\N<=2^50) (hd:N<M):
  È (div (ab X x) (ab X Y))/\((M-A:Int):Rat)/((M-N:Int):Rat)-1/2^54<=R (div (ab X x) (ab X Y))/\R (div (ab X x) (ab X Y))<=((M-A:Int):Rat)/((M-N:Int):Rat)+1/2^54/\
  0<=((M-A:Int):Rat)/((M-N:Int):Rat)/\((M-A:Int):Rat)/((M-N:Int):Rat)<=1:= by
 have gD:=jM hS gM gN (ZX hM hN);have gx:=jM hS gM gr (ZX hM hA);refine bE (qE hS gx gD (bt m) (xy n M) (gp hd)) λr1 r2 r3 aT=>?_;clear aT;refine xa (mB (n:=M-A) (m:=M-N) (bt m) (xy n M) (gp hd)) λru rv=>?_;exact(jD r1 r2 r3 ru rv)
theorem PY{X Y M D:Int}(h:0<D):((X-Y:Int):Rat)/(D:Rat)=((M-Y:Int):Rat)/(D:Rat)-((M-X:Int):Rat)/(D:Rat):= by
 have hd:(0:Rat)<(D:Rat):=by exact_mod_cast h
 refine f9 hd ?_;rw[ol,xf,Bb,ģ hd,ģ hd,ģ hd];push_cast;exact Ø (.e .ka (.A (.S .c .b) (.G (.S .c .a)))) [] rfl
theorem V4{A B C m:Int}{P:Int->Prop}(h:m=A\/m=B\/m=C) (hA:P A) (hB:P B) (hC:P C):P m:=by rcases h with e|e|e<;>refine O e ?_<;>assumption
def k_H :Prop:=∀(hS:Sc S) (hr:Gr S r A) (hg:Gr S g B) (hb:Gr S b C) (hA:0<=A/\A<=2^50) (hB:0<=B/\B<=2^50) (hC:0<=C/\C<=2^50) (hd:bA A B C<aX A B C),È (mA r g b (á r g b) (ab (á r g b) (ó r g b)))/\
  jN A B C-5/2^52<=R (mA r g b (á r g b) (ab (á r g b) (ó r g b)))/\R (mA r g b (á r g b) (ab (á r g b) (ó r g b)))<=jN A B C+5/2^52/\-1<=jN A B C/\jN A B C<=5
def fB:=gX (bH (a7 (a7 @k_H)))
theorem X5:@k_H fB.1.1.1.1.1.1 fB.1.1.1.1.1.2 fB.1.1.1.1.2 fB.1.1.1.2 fB.1.1.2 fB.1.2 fB.2:= by
 intro hS hr hg hb hA hB hC hd;have gM:=wJ hS hr hg hb;have gN:=wK hS hr hg hb;refine bE (fQ fB.1.1.2 fB.1.2 fB.2) λm1 m2 m3 m4=>?_;refine bE (eY fB.1.1.2 fB.1.2 fB.2) λn1 n2 n3 n4=>?_
 delta mA jN
 refine O (m8 hS hr gM) (O (m8 hS hg gM) ?_);generalize á fB.1.1.1.1.1.2 fB.1.1.1.1.2 fB.1.1.1.2=X at*;generalize ó fB.1.1.1.1.1.2 fB.1.1.1.1.2 fB.1.1.1.2=Y at*;generalize aX fB.1.1.2 fB.1.2 fB.2=M at*;generalize bA fB.1.1.2 fB.1.2 fB.2=N at*;have hM:0<=M/\M<=2^50:=V4 (P:=λm=>0<=m/\m<=2^50) m4 hA hB hC;have hN:0<=N/\N<=2^50:=V4 (P:=λm=>0<=m/\m<=2^50) n4 hA hB hC;refine jB (wL hS gM gN hr n1 m1 hA hM hN hd) λr1 r2 r3 ru rv=>?_;refine jB (wL hS gM gN hg n2 m2 hB hM hN hd) λg1 g2 g3 gu gv=>?_;refine jB (wL hS gM gN hb n3 m3 hC hM hN hd) λb1 b2 b3 bu bv=>?_;have e1:=PY (X:=fB.1.2) (Y:=fB.2) (M:=M) (gp hd);have e2:=PY (X:=fB.2) (Y:=fB.1.1.2) (M:=M) (gp hd);have e3:=PY (X:=fB.1.1.2) (Y:=fB.1.2) (M:=M) (gp hd);refine O e1 (O e2 (O e3 ?_));generalize ((M-fB.1.1.2:Int):Rat)/((M-N:Int):Rat)=qa at*;generalize ((M-fB.1.2:Int):Rat)/((M-N:Int):Rat)=qb at*;generalize ((M-fB.2:Int):Rat)/((M-N:Int):Rat)=qc at*;generalize div (ab X fB.1.1.1.1.1.2) (ab X Y)=xa at*;generalize div (ab X fB.1.1.1.1.2) (ab X Y)=xb at*;generalize div (ab X fB.1.1.1.2) (ab X Y)=xc at*;clear e1 e2 e3 gM gN m1 m2 m3 m4 n1 n2 n3 n4 hA hB hC hM hN hd hr hg hb;simp only[decide_eq_true_eq];split
 ·refine bE (jP b1 g1 (M:=2) ⟨1,by decide,rfl⟩ (by push_cast;exact õ (.l (.G .n2) .ka) [.l .c .n1,.l .n0 .d,.l .b (.A .c .kl),.l (.S .d .kl) .a] rfl gv bu g3 b2) (by push_cast;exact õ (.l .ka .n2) [.l .n0 .c,.l .d .n1,.l (.S .c .kl) .b,.l .a (.A .d .kl)] rfl gu bv g2 b3)) λa1 a2 a3 aT=>?_;clear aT;push_cast at a2 a3;exact(jD a1 (ĉ (.l (.S .ka .kI) .c) [.l .d (.A .b .kl),.l (.S .a .kl) .e,.l (.S (.S .e .d) (.E 2)) .c] rfl g3 b2 a2) (ĉ (.l .a (.A .kx .kI)) [.l (.S .c .kl) .d,.l .e (.A .b .kl),.l .a (.A (.S .e .d) (.E 2))] rfl g2 b3 a3) (Ï (.l .kn .ka) [.l .b .n1,.l .n0 .a] rfl gv bu) (Ï (.l .ka .n5) [.l .n0 .b,.l .a .n1] rfl gu bv))
 ·split
  ·obtain⟨t1,t2⟩:=l2;obtain⟨a1,a2,a3,-⟩:=l3 t1 r1 (M:=4) ⟨2,by decide,rfl⟩ (by push_cast;exact Ø (.l (.G .n4) .kb) [.l .n0 .c,.l (.S .c .kl) .b,.e .n2 .a] rfl ru r2 t2.symm) (by push_cast;exact Ø (.l .kb .n4) [.l .c .n1,.l .b (.A .c .kl),.e .a .n2] rfl rv r3 t2);push_cast at a2 a3;obtain⟨c1,c2,c3,-⟩:=jP a1 b1 (M:=4) ⟨2,by decide,rfl⟩ (by push_cast;exact ŝ (.l (.G .n4) .ka) [.l .n0 .c,.l .d .n1,.l (.S .c .kl) .e,.l .b (.A .d .kl),.e .n2 .f,.l (.S (.A .f .e) .kE) .a] rfl ru bv r2 b3 t2.symm a2) (by push_cast;exact ŝ (.l .ka .n4) [.l .c .n1,.l .n0 .d,.l .e (.A .c .kl),.l (.S .d .kl) .b,.e .f .n2,.l .a (.A (.A .f .e) .kE)] rfl rv bu r3 b2 t2 a3);push_cast at c2 c3;exact(jD c1 (Ę [_,_,_,_,_,_,_] (.l (.S (.A .n2 .ka) .kI) .c) [.l (.S .a .kl) .d,.l .e (.A .b .kl),.e .n2 .f,.l (.S (.A .f .d) .kE) .g,.l (.S (.S .g .e) .kE) .c] rfl r2 b3 t2.symm a2 c2) (Ę [_,_,_,_,_,_,_] (.l .a (.A (.A .n2 .kx) .kI)) [.l .d (.A .b .kl),.l (.S .c .kl) .e,.e .f .n2,.l .g (.A (.A .f .d) .kE),.l .a (.A (.S .g .e) .kE)] rfl r3 b2 t2 a3 c3) (Ï (.l .kn (.A .n2 .ka)) [.l .n0 .a,.l .b .n1] rfl ru bv) (Ï (.l (.A .n2 .ka) .n5) [.l .a .n1,.l .n0 .b] rfl rv bu))
  ·obtain⟨t1,t2⟩:=l4;obtain⟨a1,a2,a3,-⟩:=l3 t1 g1 (M:=8) ⟨3,by decide,rfl⟩ (by push_cast;exact Ø (.l (.G .n8) .kb) [.l .n0 .c,.l (.S .c .kl) .b,.e .n4 .a] rfl gu g2 t2.symm) (by push_cast;exact Ø (.l .kb .n8) [.l .c .n1,.l .b (.A .c .kl),.e .a .n4] rfl gv g3 t2);push_cast at a2 a3;obtain⟨c1,c2,c3,-⟩:=jP a1 r1 (M:=8) ⟨3,by decide,rfl⟩ (by push_cast;exact ŝ (.l (.G .n8) .ka) [.l .c .n1,.l .n0 .d,.l .b (.A .c .kl),.l (.S .d .kl) .e,.e .n4 .f,.l (.S (.A .f .e) (.E 8)) .a] rfl rv gu r3 g2 t2.symm a2) (by push_cast;exact ŝ (.l .ka .n8) [.l .n0 .c,.l .d .n1,.l (.S .c .kl) .b,.l .e (.A .d .kl),.e .f .n4,.l .a (.A (.A .f .e) (.E 8))] rfl ru gv r2 g3 t2 a3);push_cast at c2 c3;exact(jD c1 (Ę [_,_,_,_,_,_,_] (.l (.S (.A .n4 .ka) .kI) .c) [.l .d (.A .b .kl),.l (.S .a .kl) .e,.e .n4 .f,.l (.S (.A .f .e) (.E 8)) .g,.l (.S (.S .g .d) (.E 8)) .c] rfl r3 g2 t2.symm a2 c2) (Ę [_,_,_,_,_,_,_] (.l .a (.A (.A .n4 .kx) .kI)) [.l (.S .c .kl) .d,.l .e (.A .b .kl),.e .f .n4,.l .g (.A (.A .f .e) (.E 8)),.l .a (.A (.S .g .d) (.E 8))] rfl r2 g3 t2 a3 c3) (Ï (.l .kn (.A .n4 .ka)) [.l .b .n1,.l .n0 .a] rfl rv gu) (Ï (.l (.A .n4 .ka) .n5) [.l .n0 .b,.l .a .n1] rfl ru gv))
theorem ZY:@k_H S r g b A B C:=iA (bH (a7 (a7 @k_H))) ((((((S,r),g),b),A),B),C) X5
def kK (r g b:UInt64):UInt64:=(ca (div (mA r g b (á r g b) (ab (á r g b) (ó r g b))) 0x4018000000000000) one).2
def rH :Prop:=∀(hS:Sc S) (hr:Gr S r A) (hg:Gr S g B) (hb:Gr S b C) (hA:0<=A/\A<=2^50) (hB:0<=B/\B<=2^50) (hC:0<=C/\C<=2^50) (hd:bA A B C<aX A B C),È (kK r g b)/\0<=R (kK r g b)/\R (kK r g b)<=1+1/2^52/\∃n:Int,jN A B C-6*n-1/2^49<=6*R (kK r g b)/\6*R (kK r g b)<=jN A B C-6*n+1/2^49
def bZ:=gX (bH (a7 (a7 @rH)))
theorem UY:@rH bZ.1.1.1.1.1.1 bZ.1.1.1.1.1.2 bZ.1.1.1.1.2 bZ.1.1.1.2 bZ.1.1.2 bZ.1.2 bZ.2:= by
 intro hS hr hg hb hA hB hC hd;refine jB (ZY hS hr hg hb hA hB hC hd) λh1 h2 h3 h4 h5=>?_
 delta kK
 generalize mA bZ.1.1.1.1.1.2 bZ.1.1.1.1.2 bZ.1.1.1.2 (á bZ.1.1.1.1.1.2 bZ.1.1.1.1.2 bZ.1.1.1.2) (ab (á bZ.1.1.1.1.1.2 bZ.1.1.1.1.2 bZ.1.1.1.2) (ó bZ.1.1.1.1.1.2 bZ.1.1.1.1.2 bZ.1.1.1.2))=H at*;refine xa l6 λs1 s2=>?_;refine bE (C3 h1 s1 (by exact O s2 (å (.t .n0 .n6) [] rfl)) (M:=1) ⟨0,by decide,rfl⟩ (by refine O s2 ?_;push_cast;exact Ï (.l (.G (.M .n1 .n6)) .a) [.l .kn .b,.l (.S .b .kI) .a] rfl h4 h2) (by refine O s2 ?_;push_cast;exact Ï (.l .a (.M .n1 .n6)) [.l .b .n5,.l .a (.A .b .kI)] rfl h5 h3)) λa1 a2 a3 aT=>?_;clear aT;rw[s2] at a2 a3;push_cast at a2 a3;refine lO (oW a1) λm1 m2 n m3 m4 m5 m6 aT=>?_;exact(d9 m1 m2 (Ø (.l .a .kh) [.l .a (.A .kx .kl),.t .kx .n1] rfl m4 m6) (Õ n (ĉ (.l (.S (.S .a .kA) .kz) (.M .n6 .c)) [.l (.S .a .kI) .d,.L 6 (.S (.D .d .n6) .kl) .e,.L 6 (.S (.S .e .b) .kl) .c] rfl h2 a2 m3) (ĉ (.l .kg (.A (.S .b (.M .n6 .c)) .kz)) [.l .d (.A .b .kI),.L 6 .e (.A (.D .d .n6) .kl),.L 6 .a (.A (.S .e .c) .kl)] rfl h3 a3 m4)))
theorem FO:@rH S r g b A B C:=iA (bH (a7 (a7 @rH))) ((((((S,r),g),b),A),B),C) UY
end
noncomputable def jJ (x:Rat):Rat:=if x<0 then 0 else if 1<x then 1 else x
noncomputable def qF (x:Rat):Rat:=if x<0 then -x else x
def fE (u:Rat):Rat:=jJ (qF (u-3)-1)
def cR (u:Rat):Rat:=jJ (2-qF (u-2))
def g9 (u:Rat):Rat:=jJ (2-qF (u-4))
theorem rI (h:x<=0):jJ x=0:=by delta jJ;grind
theorem oZ (h:1<=x):jJ x=1:=by delta jJ;grind
theorem o4 (h0:0<=x) (h1:x<=1):jJ x=x:=by delta jJ;grind
theorem oG (h:0<=x):qF x=x:=by delta qF;grind
theorem oH (h:x<=0):qF x=-x:=by delta qF;grind
theorem wM (h:y<=t) (h0:0<=t):jJ y<=t:= by
 by_cases k:y<=0
 ·exact O (rI k) h0
 ·by_cases k1:y<=1
  ·exact O (o4 (av (iD.mp k)) k1) h
  ·exact O (oZ (av (iD.mp k1))) (Ï (.l .n1 .a) [.l .b .a,.t .n1 .b] rfl h (iD.mp k1))
theorem J7 (y:Rat):jJ y<=1:= by
 by_cases k1:y<=1
 ·exact wM k1 (å (.l .n0 .n1) [] rfl)
 ·exact O (oZ (av (iD.mp k1))) ei
theorem C6 (e0:0<=e) (h:y<=x+e):jJ y<=jJ x+e:= by
 by_cases k:x<=0
 ·exact O (rI k) (wM (Ø (.l .a (.A .n0 .b)) [.l .a (.A .c .b),.l .c .n0] rfl h k) (Æ (.l .n0 (.A .n0 .a)) [.l .n0 .a] rfl e0))
 ·by_cases k1:x<=1
  ·exact O (o4 (av (iD.mp k)) k1) (wM h (Ï (.l .n0 .kb) [.l .n0 .b,.t .n0 .a] rfl e0 (iD.mp k)))
  ·have:=J7 y;exact O (oZ (x:=x) (av (iD.mp k1))) (Ï (.l .a (.A .n1 .b)) [.l .n0 .b,.l .a .n1] rfl e0 this)
theorem ZZ{x y e:Rat}(h0:x-e<=y) (h1:y<=x+e):0<=e/\x<=y+e:=⟨by exact Ø (.L 2 .n0 .a) [.l (.S .b .a) .c,.l .c (.A .b .a)] rfl h0 h1,by exact Ø (.l .a .kH) [.l (.S .a .c) .b] rfl h0⟩
theorem sE{x y e:Rat}(h0:x-e<=y) (h1:y<=x+e):jJ x-e<=jJ y/\jJ y<=jJ x+e:= by
 have h:=ZZ h0 h1;have k:=C6 h.1 h.2;exact⟨by exact Ø (.l .ka .c) [.l .a (.A .c .b)] rfl k,C6 h.1 h1⟩
theorem HZ (x:Rat):x<=qF x/\-x<=qF x:= by
 by_cases k:0<=x
 ·exact O (oG k) ⟨by exact ei,by exact Æ (.l (.G .a) .a) [.L 2 .n0 .a] rfl k⟩
 ·exact O (oH (av (iD.mp k))) ⟨by exact Æ (.l .a (.G .a)) [.T 2 .a .n0] rfl (iD.mp k),by exact ei⟩
theorem H1 (h:y<=t) (h':-y<=t):qF y<=t:= by
 by_cases k:0<=y
 ·exact O (oG k) h
 ·exact O (oH (av (iD.mp k))) h'
theorem wN (h0:x-e<=y) (h1:y<=x+e):qF x-e<=qF y/\qF y<=qF x+e:= by
 have hx:=HZ x;have hy:=HZ y;have k:=H1 (y:=x) (t:=qF y+e) (õ (.l .a .kH) [.l (.S .a .c) .d,.l .d .b] rfl h0 hy.1) (õ (.l (.G .a) .kH) [.l .d (.A .a .c),.l (.G .d) .b] rfl h1 hy.2);exact⟨by exact Ø (.l .ka .c) [.l .a (.A .c .b)] rfl k,H1 (õ (.l .a .kH) [.l .a (.A .d .c),.l .d .b] rfl h1 hx.1) (õ (.l (.G .a) .kH) [.l (.S .d .c) .a,.l (.G .d) .b] rfl h0 hx.2)⟩
theorem H2 (a:Rat) (h0:x-e<=y) (h1:y<=x+e):(x-a)-e<=y-a/\y-a<=(x-a)+e:=by exact⟨õ (.l (.S .ka .c) (.S .d .b)) [.l (.S .a .c) .d] rfl h0,õ (.l .ka (.A (.S .c .b) .d)) [.l .a (.A .c .d)] rfl h1⟩
theorem PZ (a:Rat) (h:x-e<=y/\y<=x+e):(a-x)-e<=a-y/\a-y<=(a-x)+e:=by exact⟨õ (.l (.S .ka .c) (.S .a .d)) [.l .d .kH] rfl h.2,õ (.l .ka (.A (.S .a .c) .d)) [.l (.S .c .d) .b] rfl h.1⟩
theorem mD (h0:u-e<=w) (h1:w<=u+e):cR u-e<=cR w/\cR w<=cR u+e:= by
 have a:=H2 2 h0 h1;have b:=PZ 2 (wN a.1 a.2);exact sE b.1 b.2
theorem P0 (h0:u-e<=w) (h1:w<=u+e):g9 u-e<=g9 w/\g9 w<=g9 u+e:= by
 have a:=H2 4 h0 h1;have b:=PZ 2 (wN a.1 a.2);exact sE b.1 b.2
theorem P2 (h0:u-e<=w) (h1:w<=u+e):fE u-e<=fE w/\fE w<=fE u+e:= by
 have a:=H2 3 h0 h1;have b:=wN a.1 a.2;have c:=H2 1 b.1 b.2;exact sE c.1 c.2
theorem τ (h:u<=1):fE u=1:=by delta fE;exact O (oH (by exact Æ (.l (.S .a .n3) .n0) [.l .a .n1] rfl h)) (oZ (by exact Æ (.l .n1 (.S (.G (.S .a .n3)) .n1)) [.l .a .n1] rfl h))
theorem R_2 (h:1<=u) (h':u<=2):fE u=2-u:=by delta fE;exact O (oH (by exact Æ (.l (.S .a .n3) .n0) [.l .a .n2] rfl h')) (O (o4 (by exact Æ (.l .n0 (.S (.G (.S .a .n3)) .n1)) [.l .a .n2] rfl h') (by exact Æ (.l (.S (.G (.S .a .n3)) .n1) .n1) [.l .n1 .a] rfl h)) (Æ (.e (.S (.G (.S .a .n3)) .n1) (.S .n2 .a)) [] rfl))
theorem Ų (h:2<=u) (h':u<=4):fE u=0:= by
 delta fE
 refine rI ?_;rcases gj (a:=u) (b:=3) with q|q
 ·exact O (oH (by exact Æ (.l (.S .a .n3) .n0) [.l .a .n3] rfl q)) (Æ (.l (.S (.G (.S .a .n3)) .n1) .n0) [.l .n2 .a] rfl h)
 ·exact O (oG (by exact Æ (.l .n0 (.S .a .n3)) [.l .n3 .a] rfl q)) (Æ (.l (.S (.S .a .n3) .n1) .n0) [.l .a .n4] rfl h')
theorem σ (h:4<=u) (h':u<=5):fE u=u-4:=by delta fE;exact O (oG (by exact Æ (.l .n0 (.S .a .n3)) [.l .n4 .a] rfl h)) (O (o4 (by exact Æ (.l .n0 (.S (.S .a .n3) .n1)) [.l .n4 .a] rfl h) (by exact Æ (.l (.S (.S .a .n3) .n1) .n1) [.l .a .n5] rfl h')) (Æ (.e (.S (.S .a .n3) .n1) (.S .a .n4)) [] rfl))
theorem ς (h:5<=u):fE u=1:=by delta fE;exact O (oG (by exact Æ (.l .n0 (.S .a .n3)) [.l .n5 .a] rfl h)) (oZ (by exact Æ (.l .n1 (.S (.S .a .n3) .n1)) [.l .n5 .a] rfl h))
theorem G_0 (h:u<=0):cR u=0:=by delta cR;exact O (oH (by exact Æ (.l .kr .n0) [.l .a .n0] rfl h)) (rI (by exact Æ (.l (.S .n2 (.G .kr)) .n0) [.l .a .n0] rfl h))
theorem ų (h:0<=u) (h':u<=1):cR u=u:=by delta cR;exact O (oH (by exact Æ (.l .kr .n0) [.l .a .n1] rfl h')) (O (o4 (by exact Æ (.l .n0 (.S .n2 (.G .kr))) [.l .n0 .a] rfl h) (by exact Æ (.l (.S .n2 (.G .kr)) .n1) [.l .a .n1] rfl h')) (Æ (.e (.S .n2 (.G .kr)) .a) [] rfl))
theorem ş (h:1<=u) (h':u<=3):cR u=1:= by
 delta cR
 refine oZ ?_;rcases gj (a:=u) (b:=2) with q|q
 ·exact O (oH (by exact Æ (.l .kr .n0) [.l .a .n2] rfl q)) (Æ (.l .n1 (.S .n2 (.G .kr))) [.l .n1 .a] rfl h)
 ·exact O (oG (by exact Æ (.l .n0 .kr) [.l .n2 .a] rfl q)) (Æ (.l .n1 (.S .n2 .kr)) [.l .a .n3] rfl h')
theorem Β (h:3<=u) (h':u<=4):cR u=4-u:=by delta cR;exact O (oG (by exact Æ (.l .n0 .kr) [.l .n3 .a] rfl h)) (O (o4 (by exact Æ (.l .n0 (.S .n2 .kr)) [.l .a .n4] rfl h') (by exact Æ (.l (.S .n2 .kr) .n1) [.l .n3 .a] rfl h)) (Æ (.e (.S .n2 .kr) (.S .n4 .a)) [] rfl))
theorem Ř (h:4<=u):cR u=0:=by delta cR;exact O (oG (by exact Æ (.l .n0 .kr) [.l .n4 .a] rfl h)) (rI (by exact Æ (.l (.S .n2 .kr) .n0) [.l .n4 .a] rfl h))
theorem B_G (u:Rat):g9 u=cR (u-2):= by
 delta g9 cR
 exact O (show u-2-2=u-4 by exact Æ (.e (.S .kr .n2) (.S .a .n4)) [] rfl) rfl
theorem Ζ (h:u<=2):g9 u=0:=by exact O (B_G ..) (G_0 (Æ (.l .kr .n0) [.l .a .n2] rfl h))
theorem B_1 (h:2<=u) (h':u<=3):g9 u=u-2:=by exact O (B_G ..) (ų (Æ (.l .n0 .kr) [.l .n2 .a] rfl h) (Æ (.l .kr .n1) [.l .a .n3] rfl h'))
theorem Μ (h:3<=u) (h':u<=5):g9 u=1:=by exact O (B_G ..) (ş (Æ (.l .n1 .kr) [.l .n3 .a] rfl h) (Æ (.l .kr .n3) [.l .a .n5] rfl h'))
theorem B_3 (h:5<=u) (h':u<=6):g9 u=6-u:=by exact O (B_G ..) (O (Β (by exact Æ (.l .n3 .kr) [.l .n5 .a] rfl h) (by exact Æ (.l .kr .n4) [.l .a .n6] rfl h')) (Æ (.e (.S .n4 .kr) (.S .n6 .a)) [] rfl))
theorem R_G (h:u<=4) (h':0<=u):fE u=cR (u+2):= by
 rcases gj (a:=u) (b:=1) with q|q
 ·exact O (τ q) (O (ş (by exact Æ (.l .n1 (.A .a .n2)) [.l .n0 .a] rfl h') (by exact Æ (.l (.A .a .n2) .n3) [.l .a .n1] rfl q)) rfl)
 ·rcases gj (a:=u) (b:=2) with r|r
  ·exact O (R_2 q r) (O (Β (by exact Æ (.l .n3 (.A .a .n2)) [.l .n1 .a] rfl q) (by exact Æ (.l (.A .a .n2) .n4) [.l .a .n2] rfl r)) (Æ (.e (.S .n2 .a) (.S .n4 (.A .a .n2))) [] rfl))
  ·exact O (Ų r h) (O (Ř (by exact Æ (.l .n4 (.A .a .n2)) [.l .n2 .a] rfl r)) rfl)
theorem R_G' (h:4<=u) (h':u<=6):fE u=cR (u-4):= by
 rcases gj (a:=u) (b:=5) with q|q
 ·exact O (σ h q) (O (ų (by exact Æ (.l .n0 (.S .a .n4)) [.l .n4 .a] rfl h) (by exact Æ (.l (.S .a .n4) .n1) [.l .a .n5] rfl q)) rfl)
 ·exact O (ς q) (O (ş (by exact Æ (.l .n1 (.S .a .n4)) [.l .n5 .a] rfl q) (by exact Æ (.l (.S .a .n4) .n3) [.l .a .n6] rfl h')) rfl)
theorem P3 (h0:0<=w) (h1:w<6) (h:w'=(if w<5 then w+1 else w-5)):fE w'=1-cR w/\cR w'=1-g9 w/\g9 w'=1-fE w:= by
 by_cases c:w<5
 ·rw[if_pos c] at h;subst h;rcases gj (a:=w) (b:=1) with q|q
  ·exact O (R_2 (by exact Æ (.l .n1 .kk) [.l .n0 .a] rfl h0) (by exact Æ (.l .kk .n2) [.l .a .n1] rfl q)) (O (ų h0 q) (O (ş (by exact Æ (.l .n1 .kk) [.l .n0 .a] rfl h0) (by exact Æ (.l .kk .n3) [.l .a .n1] rfl q)) (O (Ζ (by exact Æ (.l .a .n2) [.l .a .n1] rfl q)) (O (Ζ (by exact Æ (.l .kk .n2) [.l .a .n1] rfl q)) (O (τ q) ⟨Æ (.e (.S .n2 .kk) (.S .n1 .a)) [] rfl,⟨å (.e .n1 (.S .n1 .n0)) [] rfl,å (.e .n0 (.S .n1 .n1)) [] rfl⟩⟩)))))
  ·rcases gj (a:=w) (b:=2) with r|r
   ·exact O (Ų (by exact Æ (.l .n2 .kk) [.l .n1 .a] rfl q) (by exact Æ (.l .kk .n4) [.l .a .n2] rfl r)) (O (ş q (by exact Æ (.l .a .n3) [.l .a .n2] rfl r)) (O (ş (by exact Æ (.l .n1 .kk) [.l .n0 .a] rfl h0) (by exact Æ (.l .kk .n3) [.l .a .n2] rfl r)) (O (Ζ r) (O (B_1 (by exact Æ (.l .n2 .kk) [.l .n1 .a] rfl q) (by exact Æ (.l .kk .n3) [.l .a .n2] rfl r)) (O (R_2 q r) ⟨å (.e .n0 (.S .n1 .n1)) [] rfl,⟨å (.e .n1 (.S .n1 .n0)) [] rfl,Æ (.e (.S .kk .n2) (.S .n1 (.S .n2 .a))) [] rfl⟩⟩)))))
   ·rcases gj (a:=w) (b:=3) with t|t
    ·exact O (Ų (by exact Æ (.l .n2 .kk) [.l .n1 .a] rfl q) (by exact Æ (.l .kk .n4) [.l .a .n3] rfl t)) (O (ş q t) (O (Β (by exact Æ (.l .n3 .kk) [.l .n2 .a] rfl r) (by exact Æ (.l .kk .n4) [.l .a .n3] rfl t)) (O (B_1 r t) (O (Μ (by exact Æ (.l .n3 .kk) [.l .n2 .a] rfl r) (by exact Æ (.l .kk .n5) [.l .a .n3] rfl t)) (O (Ų r (by exact Æ (.l .a .n4) [.l .a .n3] rfl t)) ⟨å (.e .n0 (.S .n1 .n1)) [] rfl,⟨Æ (.e (.S .n4 .kk) (.S .n1 .kr)) [] rfl,å (.e .n1 (.S .n1 .n0)) [] rfl⟩⟩)))))
    ·rcases gj (a:=w) (b:=4) with v|v
     ·exact O (σ (by exact Æ (.l .n4 .kk) [.l .n3 .a] rfl t) (by exact Æ (.l .kk .n5) [.l .a .n4] rfl v)) (O (Β t v) (O (Ř (by exact Æ (.l .n4 .kk) [.l .n3 .a] rfl t)) (O (Μ t (by exact av c)) (O (Μ (by exact Æ (.l .n3 .kk) [.l .n2 .a] rfl r) (by exact Æ (.l .kk .n5) [.l .a .n4] rfl v)) (O (Ų r v) ⟨Æ (.e (.S .kk .n4) (.S .n1 (.S .n4 .a))) [] rfl,⟨å (.e .n0 (.S .n1 .n1)) [] rfl,å (.e .n1 (.S .n1 .n0)) [] rfl⟩⟩)))))
     ·exact O (ς (by exact Æ (.l .n5 .kk) [.l .n4 .a] rfl v)) (O (Ř v) (O (Ř (by exact Æ (.l .n4 .kk) [.l .n3 .a] rfl t)) (O (Μ t (by exact av c)) (O (B_3 (by exact Æ (.l .n5 .kk) [.l .n4 .a] rfl v) (by exact Æ (.l .kk .n6) [.t .a .n5] rfl c)) (O (σ v (by exact av c)) ⟨å (.e .n1 (.S .n1 .n0)) [] rfl,⟨å (.e .n0 (.S .n1 .n1)) [] rfl,Æ (.e (.S .n6 .kk) (.S .n1 (.S .a .n4))) [] rfl⟩⟩)))))
 ·rw[if_neg c] at h;subst h;exact O (τ (by exact Æ (.l (.S .a .n5) .n1) [.t .a .n6] rfl h1)) (O (Ř (by exact Æ (.l .n4 .a) [.l .n5 .a] rfl (jt.mp c))) (O (ų (by exact Æ (.l .n0 (.S .a .n5)) [.l .n5 .a] rfl (jt.mp c)) (by exact Æ (.l (.S .a .n5) .n1) [.t .a .n6] rfl h1)) (O (B_3 (by exact(jt.mp c)) (by exact av h1)) (O (Ζ (by exact Æ (.l (.S .a .n5) .n2) [.t .a .n6] rfl h1)) (O (ς (by exact(jt.mp c))) ⟨å (.e .n1 (.S .n1 .n0)) [] rfl,⟨Æ (.e (.S .a .n5) (.S .n1 (.S .n6 .a))) [] rfl,å (.e .n0 (.S .n1 .n1)) [] rfl⟩⟩)))))
theorem gH{a b:Int}(h:(a:Rat)<(b:Rat)):a<b:=bh.mp h
theorem κ{a b e:Rat}(h0:0<=a) (h1:a<=e) (h2:0<=b) (h3:b<=e):a-e<=b/\b<=a+e:=by exact⟨Ø (.l .ka .c) [.l .a .b,.l .n0 .c] rfl h1 h2,Ø (.l .a .kH) [.l .n0 .b,.l .a .c] rfl h0 h3⟩
theorem H3{a b e:Rat}(h:a=b) (e0:0<=e):a-e<=b/\b<=a+e:=by exact⟨Ø (.l .ka .c) [.e .a .c,.l .n0 .b] rfl h e0,Ø (.l .a .kH) [.e .a .b,.l .n0 .c] rfl h.symm e0⟩
theorem C7 (u0:0<=u) (u1:u<=e) (w0:6-e<=w) (w1:w<=6) (e0:0<=e) (e1:e<=1/8):fE u=fE w/\(cR u=u/\cR w=0)/\(g9 u=0/\g9 w=6-w):=
 (d9 ((τ (Ï (.l .a .n1) [.l .a .b,.l .b .kB] rfl u1 e1)).trans (ς (Ï (.l .n5 .a) [.l (.S .n6 .b) .a,.l .b .kB] rfl w0 e1)).symm) ⟨ų u0 (Ï (.l .a .n1) [.l .a .b,.l .b .kB] rfl u1 e1),Ř (Ï (.l .n4 .a) [.l (.S .n6 .b) .a,.l .b .kB] rfl w0 e1)⟩ (Ζ (Ï (.l .a .n2) [.l .a .b,.l .b .kB] rfl u1 e1)) (B_3 (Ï (.l .n5 .a) [.l (.S .n6 .b) .a,.l .b .kB] rfl w0 e1) w1))
def lB{u w e:Rat}:Prop:=∀{j:Int}(u0:0<=u) (u1:u<6) (w0:0<=w) (w1:w<6) (e0:0<=e) (e1:e<=1/8) (h0:w-6*(j:Rat)-e<=u) (h1:u<=w-6*(j:Rat)+e),(fE w-e<=fE u/\fE u<=fE w+e)/\(cR w-e<=cR u/\cR u<=cR w+e)/\(g9 w-e<=g9 u/\g9 u<=g9 w+e)
def cJ:=gX (a7 (a7 @lB))
theorem FP:@lB cJ.1.1 cJ.1.2 cJ.2:= by
 intro j u0 u1 w0 w1 e0 e1 h0 h1;have j0:-2<j:=gH (by push_cast;exact õ (.T 6 (.G .n2) .a) [.t .b .n6,.l .n0 .c,.l .d .kB,.l (.S (.S .c .kg) .d) .b] rfl u1 w0 e1 h0);have j1:j<2:=gH (by push_cast;exact õ (.T 6 .a .n2) [.l .n0 .b,.t .c .n6,.l .d .kB,.l .b (.A (.S .c .kg) .d)] rfl u0 w1 e1 h1);have:j=-1\/j=0\/j=1:=by grind
 rcases this with rfl|rfl|rfl
 ·push_cast at h0 h1;obtain⟨a,⟨b1,b2⟩,c1,c2⟩:=C7 w0 (show cJ.1.2<=cJ.2 by exact Ø (.l .a .b) [.t .c .n6,.l (.S (.S .a (.M .n6 .kn)) .b) .c] rfl u1 h0) (show 6-cJ.2<=cJ.1.1 by exact Ø (.l (.S .n6 .a) .b) [.l .n0 .c,.l (.S (.S .c (.M .n6 .kn)) .a) .b] rfl w0 h0) (av u1) e0 e1;exact O a (O b1 (O b2 (O c1 (O c2 (Ý (H3 rfl e0) (κ w0 (Ø (.l .a .b) [.t .c .n6,.l (.S (.S .a (.M .n6 .kn)) .b) .c] rfl u1 h0) (ei) e0) (κ (ei) e0 (Æ (.l .n0 (.S .n6 .a)) [.t .a .n6] rfl u1) (Ø (.l (.S .n6 .a) .b) [.l .n0 .c,.l (.S (.S .c (.M .n6 .kn)) .b) .a] rfl w0 h0)))))))
 ·push_cast at h0 h1;exact(Ý (P2 (Ø (.l .ka .c) [.l (.S (.S .a .kJ) .b) .c] rfl h0) (Ø (.l .a .kH) [.l .a (.A (.S .b .kJ) .c)] rfl h1)) (mD (Ø (.l .ka .c) [.l (.S (.S .a .kJ) .b) .c] rfl h0) (Ø (.l .a .kH) [.l .a (.A (.S .b .kJ) .c)] rfl h1)) (P0 (by grind) (by grind)))
 ·push_cast at h0 h1;obtain⟨a,⟨b1,b2⟩,c1,c2⟩:=C7 u0 (show cJ.1.1<=cJ.2 by exact Ø (.l .a .b) [.t .c .n6,.l .a (.A (.S .c (.M .n6 .n1)) .b)] rfl w1 h1) (show 6-cJ.2<=cJ.1.2 by exact Ø (.l (.S .n6 .a) .b) [.l .n0 .c,.l .c (.A (.S .b (.M .n6 .n1)) .a)] rfl u0 h1) (av w1) e0 e1;exact O a (O b1 (O b2 (O c1 (O c2 (Ý (H3 rfl e0) (κ (by grind) e0 u0 (Ø (.l .a .b) [.t .c .n6,.l .a (.A (.S .c (.M .n6 .n1)) .b)] rfl w1 h1)) (κ (Æ (.l .n0 (.S .n6 .a)) [.t .a .n6] rfl w1) (Ø (.l (.S .n6 .a) .b) [.l .n0 .c,.l .c (.A (.S .a (.M .n6 .n1)) .b)] rfl u0 h1) (by grind) e0))))))
theorem J8:@lB u w e:=iA (a7 (a7 @lB)) ((u,w),e) FP
theorem wid{a b e:Rat}(e0:0<=e) (h:a-e<=b/\b<=a+e):a-2*e<=b/\b<=a+2*e:=by exact⟨Ø (.l (.S .a (.M .n2 .b)) .c) [.l .n0 .b,.l .ka .c] rfl e0 h.1,Ø (.l .a (.A .b (.M .n2 .c))) [.l .n0 .c,.l .a .kH] rfl e0 h.2⟩
theorem UZ{u w:Rat}{j:Int}{e:Rat}(u0:0<=u) (u1:u<6) (w0:-e<=w) (w1:w<=6+e) (e0:0<=e) (e1:e<=1/8) (h0:u+2-6*(j:Rat)-e<=w) (h1:w<=u+2-6*(j:Rat)+e):fE u-2*e<=cR w/\cR w<=fE u+2*e:= by
 have j0:-1<j:=gH (by push_cast;exact õ (.T 6 .kn .a) [.l .n0 .b,.l .c (.A .n6 .d),.L 2 .d .kB,.l (.S (.S (.A .b .n2) .kg) .d) .c] rfl u0 w1 e1 h0);have j1:j<2:=gH (by push_cast;exact õ (.T 6 .a .n2) [.t .b .n6,.l (.G .c) .d,.L 2 .c .kB,.l .d (.A (.S (.A .b .n2) .kg) .c)] rfl u1 w0 e1 h1);have:j=0\/j=1:=by grind
 rcases this with rfl|rfl
 ·push_cast at h0 h1;rcases gj (a:=u) (b:=4) with q|q
  ·exact O (R_G q u0) (wid e0 (mD (Ø (.l (.S (.A .a .n2) .b) .c) [.l (.S (.S (.A .a .n2) .kJ) .b) .c] rfl h0) (Ø (.l .a (.A (.A .b .n2) .c)) [.l .a (.A (.S (.A .b .n2) .kJ) .c)] rfl h1)))
  ·exact O (σ q (by exact Ø (.l .a .n5) [.l .b (.A .n6 .c),.L 2 .c .kB,.l (.S (.S (.A .a .n2) .kJ) .c) .b] rfl w1 e1 h0)) (O (Ř (by exact Ø (.l .n4 .a) [.l .b .kB,.l (.S (.S (.A .c .n2) .kJ) .b) .a,.l .n4 .c] rfl e1 h0 q)) ⟨Ø (.l (.S (.S .a .n4) (.M .n2 .b)) .n0) [.l .c (.A .n6 .b),.l (.S (.S (.A .a .n2) .kJ) .b) .c] rfl w1 h0,Ï (.l .n0 (.A (.S .a .n4) (.M .n2 .b))) [.L 2 .n0 .b,.l .n4 .a] rfl e0 q⟩)
 ·push_cast at h0 h1;rcases gj (a:=u) (b:=4) with q|q
  ·refine O (Ų (by exact Ø (.l .n2 .a) [.l (.G .b) .c,.L 2 .b .kB,.l .c (.A (.S (.A .a .n2) (.M .n6 .n1)) .b)] rfl w0 e1 h1) q) ?_;have:=mD (u:=0) (w:=w) (e:=e) (Ï (.l (.S .n0 .a) .b) [.l (.G .a) .b] rfl w0) (Ø (.l .a (.A .n0 .b)) [.l .a (.A (.S (.A .c .n2) (.M .n6 .n1)) .b),.l .c .n4] rfl h1 q);rw[G_0 (ei)] at this;exact⟨Ï (.l (.S .n0 (.M .n2 .a)) .b) [.l .n0 .a,.l (.S .n0 .a) .b] rfl e0 this.1,Ï (.l .a (.A .n0 (.M .n2 .b))) [.l .n0 .b,.l .a (.A .n0 .b)] rfl e0 this.2⟩
  ·exact O (R_G' q (av u1)) (wid e0 (mD (Ø (.l (.S (.S .a .n4) .b) .c) [.l (.S (.S (.A .a .n2) (.M .n6 .n1)) .b) .c] rfl h0) (Ø (.l .a (.A (.S .b .n4) .c)) [.l .a (.A (.S (.A .b .n2) (.M .n6 .n1)) .c)] rfl h1)))
theorem P4{u w:Rat}{j:Int}{e:Rat}(u0:0<=u) (u1:u<6) (w0:-e<=w) (w1:w<=6+e) (e0:0<=e) (e1:e<=1/8) (h0:u-2-6*(j:Rat)-e<=w) (h1:w<=u-2-6*(j:Rat)+e):g9 u-2*e<=cR w/\cR w<=g9 u+2*e:= by
 have j0:-2<j:=gH (by push_cast;exact õ (.T 6 (.G .n2) .a) [.l .n0 .b,.l .c (.A .n6 .d),.L 2 .d .kB,.l (.S (.S (.S .b .n2) .kg) .d) .c] rfl u0 w1 e1 h0);have j1:j<1:=gH (by push_cast;exact õ (.T 6 .a .n1) [.t .b .n6,.l (.G .c) .d,.L 2 .c .kB,.l .d (.A (.S (.S .b .n2) .kg) .c)] rfl u1 w0 e1 h1);have:j=-1\/j=0:=by grind
 refine O (B_G ..) ?_;rcases this with rfl|rfl
 ·push_cast at h0 h1;have p:0<=cR w/\cR w<=2*e:= by
   rcases gj (a:=w) (b:=4) with q|q
   ·exact O (Β (by exact Ø (.l .n3 .a) [.l .n0 .b,.l .c .kB,.l (.S (.S (.S .b .n2) (.M .n6 .kn)) .c) .a] rfl u0 e1 h0) q) ⟨Æ (.l .n0 (.S .n4 .a)) [.l .a .n4] rfl q,Ø (.l (.S .n4 .a) (.M .n2 .b)) [.l .n0 .c,.l .n0 .b,.l (.S (.S (.S .c .n2) (.M .n6 .kn)) .b) .a] rfl u0 e0 h0⟩
   ·exact O (Ř q) ⟨ei,Æ (.l .n0 (.M .n2 .a)) [.L 2 .n0 .a] rfl e0⟩
  rcases gj (a:=u) (b:=2) with q|q
  ·exact O (G_0 (by exact Æ (.l .kr .n0) [.l .a .n2] rfl q)) (κ (by exact ei) (by exact Æ (.l .n0 (.M .n2 .a)) [.L 2 .n0 .a] rfl e0) p.1 p.2)
  ·exact O (ų (by exact Æ (.l .n0 .kr) [.l .n2 .a] rfl q) (by exact Ø (.l .kr .n1) [.l .b (.A .n6 .c),.L 2 .c .kB,.l (.S (.S .kr (.M .n6 .kn)) .c) .b] rfl w1 e1 h0)) (κ (by exact Æ (.l .n0 .kr) [.l .n2 .a] rfl q) (by exact Ø (.l .kr (.M .n2 .b)) [.l .c (.A .n6 .b),.l (.S (.S .kr (.M .n6 .kn)) .b) .c] rfl w1 h0) p.1 p.2)
 ·push_cast at h0 h1;exact wid e0 (mD (Ø (.l (.S .kr .b) .c) [.l (.S (.S .kr .kJ) .b) .c] rfl h0) (Ø (.l .a (.A (.S .b .n2) .c)) [.l .a (.A (.S (.S .b .n2) .kJ) .c)] rfl h1))
theorem J9 (e0:0<=e) (h0:u-e<=w) (h1:w<=u+e):cR u-e<=cR w/\cR w<=cR u+e:=mD h0 h1
theorem X6 (φ:Rat) (h0:0<=φ) (h1:φ<=1):
  (fE (φ+(0:Int))=1/\cR (φ+(0:Int))=φ/\g9 (φ+(0:Int))=0)/\
  (fE (φ+(1:Int))=1-φ/\cR (φ+(1:Int))=1/\g9 (φ+(1:Int))=0)/\
  (fE (φ+(2:Int))=0/\cR (φ+(2:Int))=1/\g9 (φ+(2:Int))=φ)/\
  (fE (φ+(3:Int))=0/\cR (φ+(3:Int))=1-φ/\g9 (φ+(3:Int))=1)/\
  (fE (φ+(4:Int))=φ/\cR (φ+(4:Int))=0/\g9 (φ+(4:Int))=1)/\
  (fE (φ+(5:Int))=1/\cR (φ+(5:Int))=0/\g9 (φ+(5:Int))=1-φ):= by
 push_cast;refine(jD (Ý (τ (Æ (.l (.A .a .n0) .n1) [.l .a .n1] rfl h1)) ((ų (Æ (.l .n0 (.A .a .n0)) [.l .n0 .a] rfl h0) (Æ (.l (.A .a .n0) .n1) [.l .a .n1] rfl h1)).trans (Æ (.e (.A .a .n0) .a) [] rfl)) (Ζ (Æ (.l (.A .a .n0) .n2) [.l .a .n1] rfl h1))) (Ý ((R_2 (Æ (.l .n1 .kk) [.l .n0 .a] rfl h0) (Æ (.l .kk .n2) [.l .a .n1] rfl h1)).trans (Æ (.e (.S .n2 .kk) (.S .n1 .a)) [] rfl)) (ş (Æ (.l .n1 .kk) [.l .n0 .a] rfl h0) (Æ (.l .kk .n3) [.l .a .n1] rfl h1)) (Ζ (Æ (.l .kk .n2) [.l .a .n1] rfl h1))) (Ý (Ų (Æ (.l .n2 (.A .a .n2)) [.l .n0 .a] rfl h0) (Æ (.l (.A .a .n2) .n4) [.l .a .n1] rfl h1)) (ş (Æ (.l .n1 (.A .a .n2)) [.l .n0 .a] rfl h0) (Æ (.l (.A .a .n2) .n3) [.l .a .n1] rfl h1)) ((B_1 (Æ (.l .n2 (.A .a .n2)) [.l .n0 .a] rfl h0) (Æ (.l (.A .a .n2) .n3) [.l .a .n1] rfl h1)).trans (Æ (.e (.S (.A .a .n2) .n2) .a) [] rfl))) (Ý (Ų (Æ (.l .n2 (.A .a .n3)) [.l .n0 .a] rfl h0) (Æ (.l (.A .a .n3) .n4) [.l .a .n1] rfl h1)) ((Β (Æ (.l .n3 (.A .a .n3)) [.l .n0 .a] rfl h0) (Æ (.l (.A .a .n3) .n4) [.l .a .n1] rfl h1)).trans (Æ (.e (.S .n4 (.A .a .n3)) (.S .n1 .a)) [] rfl)) (Μ (Æ (.l .n3 (.A .a .n3)) [.l .n0 .a] rfl h0) (Æ (.l (.A .a .n3) .n5) [.l .a .n1] rfl h1))) ⟨(Ý ((σ (Æ (.l .n4 (.A .a .n4)) [.l .n0 .a] rfl h0) (Æ (.l (.A .a .n4) .n5) [.l .a .n1] rfl h1)).trans (Æ (.e (.S (.A .a .n4) .n4) .a) [] rfl)) (Ř (Æ (.l .n4 (.A .a .n4)) [.l .n0 .a] rfl h0)) (Μ (Æ (.l .n3 (.A .a .n4)) [.l .n0 .a] rfl h0) (Æ (.l (.A .a .n4) .n5) [.l .a .n1] rfl h1))),(Ý (ς (Æ (.l .n5 (.A .a .n5)) [.l .n0 .a] rfl h0)) (Ř (Æ (.l .n4 (.A .a .n5)) [.l .n0 .a] rfl h0)) ((B_3 (Æ (.l .n5 (.A .a .n5)) [.l .n0 .a] rfl h0) (Æ (.l (.A .a .n5) .n6) [.l .a .n1] rfl h1)).trans (Æ (.e (.S .n6 (.A .a .n5)) (.S .n1 .a)) [] rfl)))⟩)
theorem iL{v x e:Rat}(h0:0<=v) (h1:v<=1) (h2:-e<=x) (h3:x<=e):-e<=v*x/\v*x<=e:= by
 have he:0<=e:=by exact Ï (.L 2 .n0 .a) [.l (.G .a) .b,.l .b .a] rfl h2 h3
 have a:=eo h0 (show 0<=e-x by exact Ï (.l .n0 .ka) [.l .b .a] rfl h3);have b:=eo h0 (show 0<=e+x by exact Ï (.l .n0 .kb) [.l (.G .a) .b] rfl h2);have c:=eo (show 0<=1-v by exact Æ (.l .n0 (.S .n1 .a)) [.l .a .n1] rfl h1) he;constructor<;>grind
theorem qG{v x e:Rat}(h0:-2<=v) (h1:v<=2) (h2:-e<=x) (h3:x<=e):-(2*e)<=v*x/\v*x<=2*e:= by
 have he:0<=e:=by exact Ï (.L 2 .n0 .a) [.l (.G .a) .b,.l .b .a] rfl h2 h3
 have a:=eo (show 0<=2-v by exact Æ (.l .n0 (.S .n2 .a)) [.l .a .n2] rfl h1) (show 0<=e-x by exact Ï (.l .n0 .ka) [.l .b .a] rfl h3);have b:=eo (show 0<=2-v by grind) (show 0<=e+x by exact Ï (.l .n0 .kb) [.l (.G .a) .b] rfl h2);have c:=eo (show 0<=2+v by exact Æ (.l .n0 (.A .n2 .a)) [.l (.G .n2) .a] rfl h0) (show 0<=e-x by grind);have d:=eo (show 0<=2+v by grind) (show 0<=e+x by grind);constructor<;>grind
section
variable{v s f:UInt64}{d φ:Rat}
theorem P5 (fv:È v) (fs:È s) (ff:È f) (v0:0<=R v) (v1:R v<=1) (d0:0<=d) (d1:d<=1) (s0:0<=R s) (s1:R s<=1+1/2^54)
  (w1:d-1/2^54<=R v*R s) (w2:R v*R s<=d+1/2^54) (p0:0<=φ) (p1:φ<=1) (f1:φ-4/2^54<=R f) (f2:R f<=φ+4/2^54):
  È (mul v (ab 0x3ff0000000000000 (mul s f)))/\R v-d*φ-32/2^54<=R (mul v (ab 0x3ff0000000000000 (mul s f)))/\
  R (mul v (ab 0x3ff0000000000000 (mul s f)))<=R v-d*φ+32/2^54:= by
 refine xa l1 λo1 o2=>?_;have sf:=qG (v:=R s) (x:=R f) (e:=3/2) (Æ (.l (.G .n2) .a) [.l .n0 .a] rfl s0) (Æ (.l .a .n2) [.l .a (.A .n1 .kl)] rfl s1) (Ï (.l (.G .kK) .a) [.l .n0 .b,.l (.S .b .kE) .a] rfl p0 f1) (Ï (.l .a .kK) [.l .b .n1,.l .a (.A .b .kE)] rfl p1 f2);refine bE (l5 fs ff (M:=4) ⟨2,by decide,rfl⟩ (by push_cast;exact Ï (.l (.G .n4) .kd) [.l (.G (.M .n2 .kK)) .kd] rfl sf.1) (by push_cast;exact Ï (.l .kd .n4) [.l .kd (.M .n2 .kK)] rfl sf.2)) λa1 a2 a3 aT=>?_;clear aT;push_cast at a2 a3;have sf0:-(8/2^54)<=R s*R f:= by
  have:=qG (v:=R s) (x:=R f-φ) (e:=4/2^54) (by grind) (by grind) (Ï (.l (.G .kE) .ka) [.l (.S .b .kE) .a] rfl f1) (Ï (.l .ka .kE) [.l .a (.A .b .kE)] rfl f2);have:=eo s0 p0;grind
 have sf1:R s*R f<=1+16/2^54:= by
  have:=qG (v:=R s) (x:=R f-φ) (e:=4/2^54) (by grind) (by grind) (by grind) (by grind);have:=eo s0 (show 0<=1-φ by exact Æ (.l .n0 (.S .n1 .a)) [.l .a .n1] rfl p1);grind
 generalize mul s f=p at*;refine bE (jP o1 a1 (M:=2) ⟨1,by decide,rfl⟩ (by refine O o2 ?_;push_cast;exact Ø (.l (.G .n2) (.S .n1 .a)) [.l .kq (.A .n1 (.E 16)),.l .a (.A .kq .kE)] rfl sf1 a3) (by refine O o2 ?_;push_cast;exact Ø (.l (.S .n1 .a) .n2) [.l (.G (.E 8)) .kq,.l (.S .kq .kE) .a] rfl sf0 a2)) λb1 b2 b3 aT=>?_;clear aT;rw[o2] at b2 b3;push_cast at b2 b3;generalize ab 0x3ff0000000000000 p=q at*;have vq:=iL v0 v1 (x:=R q) (e:=3/2) (õ (.l (.G .kK) .a) [.l .kq (.A .n1 (.E 16)),.l .d (.A .kq .kE),.l (.S (.S .n1 .d) (.E 2)) .a] rfl sf1 a3 b2) (õ (.l .a .kK) [.l (.G (.E 8)) .kq,.l (.S .kq .kE) .d,.l .a (.A (.S .n1 .d) (.E 2))] rfl sf0 a2 b3);refine bE (l5 fv b1 (M:=2) ⟨1,by decide,rfl⟩ (by push_cast;exact Ï (.l (.G .n2) .kd) [.l (.G .kK) .kd] rfl vq.1) (by push_cast;exact Ï (.l .kd .n2) [.l .kd .kK] rfl vq.2)) λc1 c2 c3 aT=>?_;clear aT;push_cast at c2 c3;generalize mul v q=z at*;have e1:=iL v0 v1 (x:=R q-(1-R s*R f)) (e:=6/2^54) (õ (.l (.G (.E 6)) (.S .a (.S .n1 .kq))) [.l .d (.A .kq .kE),.l (.S (.S .n1 .d) (.E 2)) .a] rfl a3 b2) (õ (.l (.S .a (.S .n1 .kq)) (.E 6)) [.l (.S .kq .kE) .d,.l .a (.A (.S .n1 .d) (.E 2))] rfl a2 b3);have e2:=qG (v:=R f) (x:=R v*R s-d) (e:=1/2^54) (Ï (.l (.G .n2) .a) [.l .n0 .b,.l (.S .b .kE) .a] rfl p0 f1) (Ï (.l .a .n2) [.l .b .n1,.l .a (.A .b .kE)] rfl p1 f2) (Ø (.l (.G .kl) (.S .kd .c)) [.l (.S .c .kl) .kd] rfl w1) (Ø (.l (.S .kd .c) .kl) [.l .kd (.A .c .kl)] rfl w2);have e3:=iL d0 d1 (x:=R f-φ) (e:=4/2^54) (by grind) (by grind);exact(Ý c1 (Ę [_,_,_,_,_,_,_] (.l (.S (.S .a .kq) .kG) .d) [.l (.S (.M .a .e) (.E 2)) .d,.l (.G (.E 6)) (.M .a (.S .e (.S .n1 (.M .f .g)))),.l (.M .g (.S (.M .a .f) .b)) (.M .n2 .kl),.l (.M .b (.S .g .c)) .kE] rfl c2 e1.1 e2.2 e3.2) (Ę [_,_,_,_,_,_,_] (.l .a (.A (.S .b .kD) .kG)) [.l .a (.A (.M .b .e) (.E 2)),.l (.M .b (.S .e (.S .n1 (.M .f .g)))) (.E 6),.l (.G (.M .n2 .kl)) (.M .g (.S (.M .b .f) .c)),.l (.G .kE) (.M .c (.S .g .d))] rfl c3 e1.2 e2.1 e3.1))
theorem X7 (fv:È v) (fs:È s) (v0:0<=R v) (v1:R v<=1) (d0:0<=d) (d1:d<=1) (s0:0<=R s) (s1:R s<=1+1/2^54)
  (w1:d-1/2^54<=R v*R s) (w2:R v*R s<=d+1/2^54):
  È (mul v (ab 0x3ff0000000000000 s))/\R v-d-32/2^54<=R (mul v (ab 0x3ff0000000000000 s))/\
  R (mul v (ab 0x3ff0000000000000 s))<=R v-d+32/2^54:= by
 refine xa l1 λo1 o2=>?_;refine bE (jP o1 fs (M:=2) ⟨1,by decide,rfl⟩ (by refine O o2 ?_;push_cast;exact Æ (.l (.G .n2) (.S .n1 .a)) [.l .a (.A .n1 .kl)] rfl s1) (by refine O o2 ?_;push_cast;exact Æ (.l (.S .n1 .a) .n2) [.l .n0 .a] rfl s0)) λb1 b2 b3 aT=>?_;clear aT;rw[o2] at b2 b3;push_cast at b2 b3;generalize ab 0x3ff0000000000000 s=q at*;have vq:=iL v0 v1 (x:=R q) (e:=3/2) (Ï (.l (.G .kK) .a) [.l .b (.A .n1 .kl),.l (.S (.S .n1 .b) (.E 2)) .a] rfl s1 b2) (Ï (.l .a .kK) [.l .n0 .b,.l .a (.A (.S .n1 .b) (.E 2))] rfl s0 b3);refine bE (l5 fv b1 (M:=2) ⟨1,by decide,rfl⟩ (by push_cast;exact Ï (.l (.G .n2) .kd) [.l (.G .kK) .kd] rfl vq.1) (by push_cast;exact Ï (.l .kd .n2) [.l .kd .kK] rfl vq.2)) λc1 c2 c3 aT=>?_;clear aT;push_cast at c2 c3;generalize mul v q=z at*;have e1:=iL v0 v1 (x:=R q-(1-R s)) (e:=2/2^54) (Ï (.l (.G (.E 2)) (.S .a (.S .n1 .b))) [.l (.S (.S .n1 .b) (.E 2)) .a] rfl b2) (Ï (.l (.S .a (.S .n1 .b)) (.E 2)) [.l .a (.A (.S .n1 .b) (.E 2))] rfl b3);exact(Ý c1 (ĉ (.l (.S .ka .kG) .c) [.l (.M .a .d) (.A .b .kl),.l (.S (.M .a .e) (.E 2)) .c,.l (.G (.E 2)) (.M .a (.S .e (.S .n1 .d)))] rfl w2 c2 e1.1) (ĉ (.l .a (.A .kx .kG)) [.l (.S .c .kl) (.M .b .d),.l .a (.A (.M .b .e) (.E 2)),.l (.M .b (.S .e (.S .n1 .d))) (.E 2)] rfl w1 c3 e1.2))
end
def Nr (x:UInt64) (q e:Rat):Prop:=È x/\q-e<=R x/\R x<=q+e
theorem Nr.self (h:È x) (he:0<=e):Nr x (R x) e:=(Ý h (Ï (.l .ka .a) [.l .n0 .b] rfl he) (Ï (.l .a .kb) [.l .n0 .b] rfl he))
def Α (l:List PV) (N d u e:Rat):Prop:=∃x y z:UInt64,l=[.flt x,.flt y,.flt z]/\Nr x (N+d*fE u) e/\Nr y (N+d*cR u) e/\Nr z (N+d*g9 u) e
theorem U0 (hx:ow x=.fin a m e) (h:0<=R x):((lf a m e:Int):Rat)<=R x/\R x<((lf a m e:Int):Rat)+1/\0<=lf a m e:= by
 have kp:=ë;have hv:=jw hx;have he:=zu hx;have Lm:=þ.mp h;have hs:lf a m e=vy false m e:= by
  cases a
  ·rfl
  ·have hm:m=0:= by
    rw[hv] at Lm
    delta qj at Lm
    simp only[if_true] at Lm;have:m*2^(e+1074).toNat=0:=by exact bf (en2 (.x (.M .q .r) .n0) [.l .n0 (.G (.C (.M .q .r)))] rfl Lm) (iu _)
    rcases Bp.mp this with h|h
    ·exact h
    ·exact absurd h (ck (gy _))
   subst hm
   delta lf Float64.ceilOf vy qj
   simp
 have Xh:val x=((m*2^(e+1074).toNat:Nat):Int):= by
  have:=oj hx;exact cb (ý [_] [_,_,_] (.l .a (.C (.M .q .r))) [.z1 .s (.M .q .r),.e .a .s] rfl this (aq (ī [_] (.l .n0 .a) [.l .n0 .a] rfl Lm)).symm) (ý [_] [_,_,_] (.l (.C (.M .q .r)) .a) [.z1 (.M .q .r) .s,.e .s .a] rfl this.symm (aq (ī [_] (.l .n0 .a) [.l .n0 .a] rfl Lm)))
 refine O hs ?_
 delta vy qj
 simp only[ay,if_false]
 by_cases h0:e>=0
 ·refine O (if_pos h0) ?_;have:val x=((m:Int)*2^e.toNat)*(K:Int):= by
   refine O Xh ?_;have e1:(e+1074).toNat=e.toNat+1074:=(om h0).elim λn hn=>by refine O hn ?_;rfl
   rw[e1,mw,K_eq];push_cast;rw[DL]
  have hr:R x=(((m:Int)*2^e.toNat:Int):Rat):= by
   refine f9 kp ?_;refine aBD (Ì ..) (O this ?_);push_cast;rfl
  refine O hr (Ý ei (Æ (.t .a .kk) [] rfl) ?_);exact Int.mul_nonneg (en1 (.l .n0 .q) [] rfl) (Cn (by decide))
 ·refine O (if_neg h0) ?_;have hK:((2^(-e).toNat:Nat):Int)*((2^(e+1074).toNat:Nat):Int)=(K:Int):= by
   refine aBD (qr ..) (aBD (mw ..) ?_);have:(-e).toNat+(e+1074).toNat=1074:=(tb (de (mu.mp h0))).elim λk hk=>(tb he).elim λl hl=>by
    exact O (show -e=(k:Int) by exact ý [_] [_] (.e (.G .a) .q) [.e .n0 (.A .a .q)] rfl hk.symm) (O (show e+1074=(l:Int) by exact ý [_] [_] (.e (.A .a (.N 1074)) .q) [.e .a (.A (.G (.N 1074)) .q)] rfl hl.symm) (tj (show((k+l:Nat):Int)=1074 by exact ý [_] [_,_] (.e (.C .ko) (.N 1074)) [.e (.A .a .q) .n0,.e (.A (.G (.N 1074)) .r) .a] rfl hk hl)))
   exact O this (O K_eq rfl)
  have hq:(m:Int).fdiv (2^(-e).toNat)=((m/2^(-e).toNat:Nat):Int):= by
   refine O (rm _ (Cn (by decide))) ?_;push_cast;rfl
  refine O hq ?_;have Vi:=qq m (2^(-e).toNat);have Gu:=rr m (gy (-e).toNat);generalize m/2^(-e).toNat=q at*;generalize m%2^(-e).toNat=r at*;generalize hA:2^(-e).toNat=A at*;generalize hB:2^(e+1074).toNat=B at*;have hBp:(0:Rat)<(B:Rat):= by
   have:0<B:=by exact aBD hB (gy _)
   exact_mod_cast this
  have Xi:(0:Rat)<(A:Rat):= by
   have:0<A:=by exact aBD hA (gy _)
   exact_mod_cast this
  have hKR:(A:Rat)*(B:Rat)=(K:Rat):=by exact_mod_cast congrArg (λz:Int=>(z:Rat)) hK
  have h1:R x*(A:Rat)=(m:Rat):= by
   refine f9 hBp ?_;have:R x*(A:Rat)*(B:Rat)=R x*(K:Rat):=by rw[<-hKR];exact Ø (.e (.M .kd .c) (.M .a .kq)) [] rfl
   refine O this (aBD (Ì ..) (O Xh ?_));push_cast;rfl
  have h2:(m:Rat)=(A:Rat)*(q:Rat)+(r:Rat):=by exact_mod_cast congrArg (λz:Nat=>(z:Rat)) Vi.symm
  have h3:(r:Rat)<(A:Rat):=by exact_mod_cast Gu
  have h4:(0:Rat)<=(r:Rat):=by exact_mod_cast iu r
  refine(Ý (eC Xi ?_) (eg (c:=(A:Rat)) ?_ (av Xi)) (yq _))
  ·push_cast;exact O h1 (O h2 (Ø (.l .kd (.A (.M .b .a) .c)) [.l .n0 .c] rfl h4))
  ·push_cast;exact O h1 (O h2 (Ø (.t (.A .kd .c) (.M (.A .b .n1) .a)) [.t .c .a] rfl h3))
theorem P6 (hx:È x) (h:0<=R x):∃n:Int,0<=n/\Ē .int [.flt x]=some (.int n)/\(n:Rat)<=R x/\R x<(n:Rat)+1:= by
 refine jA hx λa m e hd=>?_;clear hx;refine Ą (U0 hd h) λh1 h2 h3=>?_;refine(hV _ h3 ?_ h1 h2);show uP x=_
 delta uP
 exact O hd rfl
theorem X8 (hx:È x) (n:Int) (h0:0<=n) (h1:(n:Rat)<=R x) (h2:R x<(n:Rat)+1):Ē .int [.flt x]=some (.int n):= by
 have hn:((0:Int):Rat)<=(n:Rat):=an.mpr h0;refine cW (P6 hx (by have:((0:Int):Rat)=0:=rfl;exact Ø (.l .n0 .a) [.l .b .a,.l .c .b,.e .n0 .c] rfl h1 hn this.symm)) λk k0 k1 k2 k3=>?_;have a:k<n+1:= by
  have:(k:Rat)<((n+1:Int):Rat):=by push_cast;exact Ø (.t .a (.A .b .n1)) [.t .c (.A .b .n1),.l .a .c] rfl h2 k2
  exact bh.mp this
 have b:n<k+1:= by
  have:(n:Rat)<((k+1:Int):Rat):=by push_cast;exact Ø (.t .a (.A .b .n1)) [.l .a .c,.t .c (.A .b .n1)] rfl h1 k3
  exact bh.mp this
 exact O k1 (O (show k=n by exact cb (Ğ (.l .a .b) [.t .a (.A .b .n1)] rfl a) (Ğ (.l .a .b) [.t .a (.A .b .n1)] rfl b)) rfl)
theorem s9 (hx:È x) (hy:È y) (h0:0<=R x) (h1:0<=R y) (hf:È (mul x y)):0<=R (mul x y):= by
 refine jA hx λa m e hx=>?_;refine jA hy λb k f hy=>?_;have hr:=zr hx hy;rw[þ] at h0 h1⊢
 by_cases Oh:(a != b)=false
 ·rw[Oh] at hr;exact qW hr hf
 ·-- one of them is nought
  have s1:=mW hx;have s2:=mW hy;have hz:(val x).natAbs*(val y).natAbs=0:= by
   unfold qj at s1 s2;cases a<;>cases b
   ·exact absurd rfl Oh
   ·simp only[if_true] at s2;have:(val y).natAbs=0:=by exact ý [_] [_] (.Z 2 .q .n0) [.e .a (.G .q),.e .q .a] rfl s2.symm (aq (ī [_] (.l .n0 .a) [.l .n0 .a] rfl h1))
    exact O this (O (Dx ..) rfl)
   ·simp only[if_true] at s1;have:(val x).natAbs=0:=by grind
    exact O this (O (yw ..) rfl)
   ·exact absurd rfl Oh
  rw[hz] at hr;refine Ą (lY (j:=0) hr ŀ (by decide) (iu _)) λaT Gq h3=>?_;clear aT;clear Gq;have:=h3 0 0 (by decide) (by decide) (by simp);have h4:qj (a != b) 0=0:=by delta qj;simp
  rw[h4] at this;rcases Int.mul_eq_zero.mp this with h|h
  ·exact ī [_] (.L 202402253307310618352495346718917307049556649764142118356901358027430339567995346891960383701437124495187077864316811911389808737385793476867013399940738509921517424276566361364466907742093216341239767678472745068562007483424692698618103355649159556340810056512358769552333414615230502532186327508646006263307707741093494784 .n0 .a) [.e .n0 (.M .a (.C (.P .n2 1074)))] (by kernel_rfl) this.symm
  ·exact absurd h (ez (zy.mpr ŀ))
def rJ{h v s:UInt64}{d:Rat}{F:Fn} :Prop:=∀(fh:È h) (fv:È v) (fs:È s) (h0:0<=R h) (h1:R h<=100) (v0:0<=R v) (v1:R v<=1) (d0:0<d) (d1:d<=1) (s0:0<R s) (s1:R s<=1+1/2^54) (w1:d-1/2^54<=R v*R s) (w2:R v*R s<=d+1/2^54),∃l,e9 F Co.bT [.flt h,.flt s,.flt v]=some (.tup l)/\∃(u:Rat) (m:Int),0<=u/\u<6/\Α l (R v-d) d u (32/2^54)/\6*R h-6*m-1024/2^54<=u/\u<=6*R h-6*m+1024/2^54
def b7:=gX (bH @rJ)
def oJ:=b7.1.1.1.1
theorem U1:@rJ oJ b7.1.1.1.2 b7.1.1.2 b7.1.2 b7.2:= by
 intro fh fv fs h0 h1 v0 v1 d0 d1 s0 s1 w1 w2;refine xa l6 λo1 o2=>?_;refine bE (l5 fh o1 (M:=1024) ⟨10,by decide,rfl⟩ (by refine O o2 ?_;push_cast;exact Æ (.l (.G (.N 1024)) (.M .a .n6)) [.L 6 .n0 .a] rfl h0) (by refine O o2 ?_;push_cast;exact Æ (.l (.M .a .n6) (.N 1024)) [.L 6 .a (.N 100)] rfl h1)) λa1 a2 a3 aT=>?_;clear aT;rw[o2] at a2 a3;push_cast at a2 a3;have hH:0<=R (mul oJ 0x4018000000000000):=s9 fh o1 h0 (by exact O o2 (å (.l .n0 .n6) [] rfl)) a1;refine cW (P6 a1 hH) λi Rc hi Re Ss=>?_;have Xj:i<=1000:= by
  have:(i:Rat)<=((1000:Int):Rat):=by push_cast;exact Ø (.l .a .kj) [.L 6 .b (.N 100),.l .c (.A (.M .b .n6) (.E 1024)),.l .a .c] rfl h1 a3 Re
  exact an.mp this
 refine xa (tW (i:=i) (ý [_] [_] (.x .q .ki) [.l .a .kj,.e .q .a] rfl Xj (aq (ī [_] (.l .n0 .a) [.l .n0 .a] rfl Rc)))) λf1 f2=>?_;have ho:Ļ i=true:= by
  delta Ļ
  refine jA f1 λa m e hd=>?_;clear f1
  delta nz
  refine O hd ?_;rfl
 have hs:Ĕ b7.1.1.2 0=false:= by
  delta Ĕ
  refine O (nY fs l0.1) (O l0.2 ?_);split
  ·rfl
  ·refine O (if_neg ((Ea (s0)).symm)) ?_;rfl
 refine(Õ _ (UV hs hi ho) ?_);refine bE (jP a1 f1 (M:=1) ⟨0,by decide,rfl⟩ (by refine O f2 ?_;push_cast;exact Ï (.l .kn .ka) [.l .b .a] rfl Re) (by refine O f2 ?_;push_cast;exact Ï (.l .ka .n1) [.t .a (.A .b .n1)] rfl Ss)) λg1 g2 g3 aT=>?_;clear aT;rw[f2] at g2 g3;push_cast at g2 g3;generalize mul oJ 0x4018000000000000=H at*;generalize ab H (cu i)=f at*;refine xa l1 λt1 t2=>?_;refine bE (jP t1 g1 (M:=2) ⟨1,by decide,rfl⟩ (by refine O t2 ?_;push_cast;exact Ø (.l (.G .n2) (.S .n1 .a)) [.t .b (.A .c .n1),.l .a (.A .kx .kl)] rfl Ss g3) (by refine O t2 ?_;push_cast;exact Ø (.l (.S .n1 .a) .n2) [.l .b .c,.l (.S (.S .c .b) .kl) .a] rfl Re g2)) λk1 k2 k3 aT=>?_;clear aT;rw[t2] at k2 k3;push_cast at k2 k3;have cq:=P5 (φ:=R H-i) (d:=b7.1.2) fv fs g1 v0 v1 (av d0) d1 (av s0) s1 w1 w2 (Ï (.l .n0 .ka) [.l .b .a] rfl Re) (Ï (.l .ka .n1) [.t .a (.A .b .n1)] rfl Ss) (Ø (.l (.S .ka .kE) .c) [.l (.S .ka .kl) .c] rfl g2) (Ø (.l .a (.A .kx .kE)) [.l .a (.A .kx .kl)] rfl g3);have cp:=X7 (d:=b7.1.2) fv fs v0 v1 (by grind) d1 (by grind) s1 w1 w2;have ct:Nr (mul b7.1.1.1.2 (ab 0x3ff0000000000000 (mul b7.1.1.2 (ab 0x3ff0000000000000 f)))) (R b7.1.1.1.2-b7.1.2*(1-(R H-i))) (32/2^54):=
  P5 (φ:=1-(R H-i)) (d:=b7.1.2) fv fs k1 v0 v1 (by grind) d1 (by grind) s1 w1 w2 (Ï (.l .n0 (.S .n1 .ka)) [.t .a (.A .b .n1)] rfl Ss) (Ï (.l (.S .n1 .ka) .n1) [.l .b .a] rfl Re) (õ (.l (.S (.S .n1 .ka) .kE) .c) [.l .d (.A .ka .kl),.l (.S (.S .n1 .d) (.E 2)) .c] rfl g3 k2) (õ (.l .a (.A (.S .n1 .kx) .kE)) [.l (.S .kx .kl) .d,.l .a (.A (.S .n1 .d) (.E 2))] rfl g2 k3)
 generalize mul b7.1.1.1.2 (ab 0x3ff0000000000000 (mul b7.1.1.2 (ab 0x3ff0000000000000 f)))=T at*;generalize mul b7.1.1.1.2 (ab 0x3ff0000000000000 (mul b7.1.1.2 f))=Q at*;generalize mul b7.1.1.1.2 (ab 0x3ff0000000000000 b7.1.1.2)=P at*;have hk:i=6*(i/6)+i%6:=by exact cb (co (wd _ _).symm) (co (wd _ _))
 have Xk:(i:Rat)=6*((i/6:Int):Rat)+((i%6:Int):Rat):=by exact_mod_cast congrArg (λz:Int=>(z:Rat)) hk
 refine(ŭ (R H-6*((i/6:Int):Rat)) (i/6) ?_);have Sr:i%6=0\/i%6=1\/i%6=2\/i%6=3\/i%6=4\/i%6=5:=by grind
 generalize i/6=j at*;generalize i%6=k at*;clear hk hi ho Rc Xj f1 f2 hs g1 g2 g3 k1 k2 k3 a1 w1 w2 s0 s1 fs fh;generalize R H=U at*;refine(jD (by rcases Sr with e|e|e|e|e|e<;>(subst e;push_cast at*;grind)) (by rcases Sr with e|e|e|e|e|e<;>(subst e;push_cast at*;grind)) ?_ (Ø (.l (.S (.S .kg .kA) (.E 1024)) (.S .c .kA)) [.l (.S (.M .a .n6) (.E 1024)) .c] rfl a2) (Ø (.l (.S .a .kA) (.A (.S (.M .n6 .c) .kA) (.E 1024))) [.l .a (.A (.M .c .n6) (.E 1024))] rfl a3));have hφ0:0<=U-(i:Rat):=by exact Ï (.l .n0 .ka) [.l .b .a] rfl Re
 have hφ1:U-(i:Rat)<1:=by exact Ï (.t .ka .n1) [.t .a (.A .b .n1)] rfl Ss
 generalize hφ:U-(i:Rat)=φ at*;have hu:U-6*(j:Rat)=φ+(k:Rat):=by exact jm (ĉ (.l (.S .a .kA) (.A .c .d)) [.e .e (.A .kA .d),.e (.S .a .e) .c] rfl Xk hφ) (ĉ (.l .kb (.S .c (.M .n6 .d))) [.e (.A (.M .n6 .d) .b) .e,.e .a (.S .c .e)] rfl Xk.symm hφ.symm)
 refine O hu ?_;have e0:(0:Rat)<=32/2^54:=by exact å (.l .n0 .kG) [] rfl
 have hv:=Nr.self fv e0;obtain⟨⟨a1,a2,a3⟩,⟨b1,b2,b3⟩,⟨c1,c2,c3⟩,⟨d1',d2',d3'⟩,⟨e1,e2,e3⟩,⟨g1,g2,g3⟩⟩:=X6 φ hφ0 (av hφ1);have lK:∀{x:UInt64}{p q:Rat},Nr x p (32/2^54)->p=q->Nr x q (32/2^54):=λoJ e=>e▸oJ
 delta Α
 rcases Sr with e|e|e|e|e|e<;>subst e
 ·exact(dH _ _ _ rfl (lK hv (by exact O a1 (Ï (.e .a (.A .ka (.M .b .n1))) [] rfl))) (lK ct (by refine O a2 ?_;exact Ø (.e (.S .a (.M .b (.S .n1 .c))) (.A .ka .kq)) [] rfl)) (lK cp (by exact O a3 (Ï (.e .ka (.A .ka (.M .b .n0))) [] rfl))))
 ·exact(dH _ _ _ rfl (lK cq (by exact O b1 (Ø (.e (.S .a .kq) (.A .ka (.M .b (.S .n1 .c)))) [] rfl))) (lK hv (by refine O b2 ?_;grind)) (lK cp (by refine O b3 ?_;grind)))
 ·exact(dH _ _ _ rfl (lK cp (by refine O c1 ?_;grind)) (lK hv (by refine O c2 ?_;grind)) (lK ct (by refine O c3 ?_;grind)))
 ·exact(dH _ _ _ rfl (lK cp (by refine O d1' ?_;grind)) (lK cq (by refine O d2' ?_;grind)) (lK hv (by refine O d3' ?_;grind)))
 ·exact(dH _ _ _ rfl (lK ct (by refine O e1 ?_;grind)) (lK cp (by refine O e2 ?_;grind)) (lK hv (by refine O e3 ?_;grind)))
 ·exact(dH _ _ _ rfl (lK hv (by refine O g1 ?_;grind)) (lK cp (by refine O g2 ?_;grind)) (lK cq (by refine O g3 ?_;grind)))
theorem X9:@rJ h v s d F:=iA (bH @rJ) ((((h,v),s),d),F) U1
theorem P7{x y:UInt64}(hx:È x) (hy:È y):Ū x y=decide (R x<=R y):= by
 delta Ū Ģ Ĕ
 refine O (nY hx hy) ?_
 by_cases h:R x<R y
 ·refine O (if_pos h) ?_;have:R x<=R y:=av h;simp[this]
 ·refine O (if_neg h) ?_
  by_cases h2:R x=R y
  ·refine O (if_pos h2) ?_;have:R x<=R y:=by exact Ï (.l .a .b) [.e .a .b] rfl h2
   simp[this]
  ·refine O (if_neg h2) ?_;have:¬R x<=R y:=by grind
   simp[this]
theorem P8{x y:UInt64}(hx:È x) (hy:È y):Ģ x y=decide (R x<R y):= by
 delta Ģ
 refine O (nY hx hy) ?_
 by_cases h:R x<R y
 ·refine O (if_pos h) ?_;simp[h]
 ·refine O (if_neg h) ?_
  by_cases h2:R x=R y
  ·refine O (if_pos h2) ?_;simp[h]
  ·refine O (if_neg h2) ?_;simp[h]
section
variable{S:Nat}{M N:UInt64}{m n:Int}
def t7 :Prop:=∀(hS:Sc S) (hM:Gr S M m) (hN:Gr S N n) (h0:0<=n) (h1:n<m) (h2:m<=(S:Int)) (h3:m+n<2*(S:Int)) (It:S<=2^50),(È (div (add M N) 0x4000000000000000)/\R (div (add M N) 0x4000000000000000)=(R M+R N)/2)/\
  (R (div (add M N) 0x4000000000000000)<=1/2->bz (add M N)=false)/\
  (bz (ab (ab 0x4000000000000000 M) N)=false)/\
  È (tJ M N (ab M N) (div (add M N) 0x4000000000000000))/\0<R (tJ M N (ab M N) (div (add M N) 0x4000000000000000))/\
  R (tJ M N (ab M N) (div (add M N) 0x4000000000000000))<=1+1/2^54/\
  (((R M+R N)/2<=1/2/\(R M-R N)/2-1/2^54<=(R M+R N)/2*R (tJ M N (ab M N) (div (add M N) 0x4000000000000000))/\(R M+R N)/2*R (tJ M N (ab M N) (div (add M N) 0x4000000000000000))<=(R M-R N)/2+1/2^54)\/
   (1/2<(R M+R N)/2/\(R M-R N)/2-1/2^54<=(1-(R M+R N)/2)*R (tJ M N (ab M N) (div (add M N) 0x4000000000000000))/\(1-(R M+R N)/2)*R (tJ M N (ab M N) (div (add M N) 0x4000000000000000))<=(R M-R N)/2+1/2^54))
def oK:=gX (bH @t7)
def Ü:=oK.1.1.1.1
def Ñ:=oK.1.1.1.2
def Ð:=oK.1.1.2
def bB:=oK.1.2
def bC:=oK.2
theorem YA:@t7 Ü Ñ Ð bB bC:= by
 intro hS hM hN h0 h1 h2 h3 It;have hp:=hS.pos;have Lo:(0:Rat)<(Ü:Rat):=by exact yc hp
 have hSi:(Ü:Int)<=2^50:=by exact en1 (.l .q .kp) [.x .q .kp] rfl It
 refine xa l2 λt1 t2=>?_;have g2:Gr Ü 0x4000000000000000 (2*(Ü:Int)):=⟨t1,by refine O t2 ?_;push_cast;exact Æ (.e (.M .n2 .a) (.M .n2 .a)) [] rfl⟩;have gS:=PW hS hM hN (ý [_,_] [_,_] (.x .q .ki) [.t .kb (.M .n2 .r),.X 2 .r .kp,.e .q .kb] rfl h3 It (aq (ī [_,_] (.l .n0 .kb) [.L 2 .n0 .b,.t .b .a] rfl h0 h1)));have gD:=jM hS hM hN (ý [_,_] [_,_] (.x .q .ki) [.l .n0 .a,.l .b .r,.x .r .kp,.e .q (.S .b .a)] rfl h0 h2 It (aq (ī [_,_] (.l .n0 .ka) [.t .b .a] rfl h1)));have gT:=jM hS (jM hS g2 hM (ý [_,_] [_,_] (.x .q .ki) [.l .n0 .a,.t .a .b,.X 2 .r .kp,.e .q (.S (.M .n2 .r) .b)] rfl h0 h1 It (aq (ý [_] [_] (.l .n0 (.S (.M .n2 .q) .a)) [.l .a .q] rfl h2)))) hN (ý [_,_] [_,_] (.x .q .ki) [.L 2 .n0 .a,.t .a .b,.X 2 .r .kp,.e .q (.S (.S (.M .n2 .r) .b) .a)] rfl h0 h1 It (aq (ý [_,_] [_] (.l .n0 (.S (.S (.M .n2 .q) .a) .b)) [.t .kb (.M .n2 .q)] rfl h3)));have eM:=hM.2;have eN:=hN.2;have i0:((0:Int):Rat)<=(bC:Rat):=an.mpr h0;have i1:(bC:Rat)<(bB:Rat):=bh.mpr h1;have i2:(bB:Rat)<=((Ü:Int):Rat):=an.mpr h2;have i3:((bB+bC:Int):Rat)<((2*(Ü:Int):Int):Rat):=bh.mpr h3;push_cast at i0 i1 i2 i3;have u0:0<=R Ð:=eC Lo (by exact O eN (Ï (.l (.M .n0 .a) .b) [.l .n0 .b] rfl i0));have u1:R Ð<R Ñ:=(yZ hS hN hM).mpr h1;have u2:R Ñ<=1:=eC Lo (by exact O eM (Ï (.l .a (.M .n1 .b)) [.l .a .b] rfl i2));have eS:R (add Ñ Ð)=R Ñ+R Ð:= by
  refine f9 Lo ?_;refine O gS.2 ?_;push_cast;exact ĉ (.e .kb (.M (.A .c .d) .e)) [.e .a (.M .c .e),.e .b (.M .d .e)] rfl eM.symm eN.symm
 have eT:R (ab (ab 0x4000000000000000 Ñ) Ð)=2-R Ñ-R Ð:= by
  refine f9 Lo ?_;refine O gT.2 ?_;push_cast;exact ĉ (.e (.S (.S (.M .n2 .a) .b) .c) (.M (.S (.S .n2 .d) .e) .a)) [.e (.M .d .a) .b,.e (.M .e .a) .c] rfl eM eN
 have eD:R (ab Ñ Ð)=R Ñ-R Ð:= by
  refine f9 Lo ?_;refine O gD.2 ?_;push_cast;exact ĉ (.e .ka (.M (.S .c .d) .e)) [.e .a (.M .c .e),.e (.M .d .e) .b] rfl eM.symm eN
 refine bE (C3 gS.1 t1 (by exact O t2 (å (.t .n0 .n2) [] rfl)) (M:=2) ⟨1,by decide,rfl⟩ (by refine O t2 (O eS ?_);push_cast;exact Ï (.l (.G (.M .n2 .n2)) .kb) [.L 2 .n0 .b,.t .b .a] rfl u0 u1) (by refine O t2 (O eS ?_);push_cast;exact Ï (.l .kb (.M .n2 .n2)) [.t .b .a,.L 2 .a .n1] rfl u1 u2)) λq1 aT Gq q4=>?_;clear aT;clear Gq;rw[t2,eS] at q4;have hl:R (div (add Ñ Ð) 0x4000000000000000)=(R Ñ+R Ð)/2:= by
  refine q4 (cC (bB+bC) (hS.e+1) ?_ (ý [_,_] [_,_] (.x .q .ki) [.t .kb (.M .n2 .r),.X 2 .r .kp,.e .q .kb] rfl h3 It (aq (ī [_,_] (.l .n0 .kb) [.L 2 .n0 .b,.t .b .a] rfl h0 h1))) ?_)
  ·have:=hS.le;exact en1 (.x .kc (.N 1074)) [.x .q .kj] rfl this
  ·refine O (yx ..) (aBD hS.eq ?_);push_cast;exact ĉ (.e (.M .kF (.M .c .n2)) (.A .d .e)) [.e (.M .a .c) .d,.e .kq .e] rfl eM eN
 have z1:bz (add Ñ Ð)=false:=by refine O (rF hS gS) ?_;simp;exact ez (Ğ (.t .n0 .kb) [.L 2 .n0 .b,.t .b .a] rfl h0 h1)
 have z2':bz (ab (ab 0x4000000000000000 Ñ) Ð)=false:=by refine O (rF hS gT) ?_;simp;exact ez (ý [_,_] [_] (.t .n0 (.S (.S (.M .n2 .q) .a) .b)) [.t .kb (.M .n2 .q)] rfl h3)
 refine xa lh λv1 v2=>?_;refine(d9 ⟨q1,hl⟩ (λ_=>z1) z2' ?_)
 delta tJ
 refine O (P7 q1 v1) (O hl (O v2 ?_));have ġ:∀k:Int,0<k->k<=2*(Ü:Int)->2/2^54<=((bB-bC:Int):Rat)/(k:Rat):= by
  intro k k0 k1;have a0:(0:Rat)<(k:Rat):=by have:=bh.mpr k0;exact_mod_cast this
  have a1:(k:Rat)<=((2^51:Int):Rat):=an.mpr (ý [_] [_] (.l .a (.P .n2 51)) [.X 2 .q .kp,.l .a (.M .n2 .q)] rfl It k1);have a2:((1:Int):Rat)<=((bB-bC:Int):Rat):=an.mpr (Ğ (.l .n1 .ka) [.t .b .a] rfl h1);rw[mm] at a1;have a3:((bB-bC:Int):Rat)/(k:Rat)*(k:Rat)=((bB-bC:Int):Rat):=ģ (by assumption);refine eC a0 ?_;refine O a3 ?_;have:((1:Int):Rat)=1:=rfl;have:((2:Int):Rat)=2:=rfl;grind
 by_cases hc:(R Ñ+R Ð)/2<=1/2
 ·simp only[hc,decide_true,if_true];refine bE (qE hS gD gS (Ğ (.l .n0 .ka) [.t .b .a] rfl h1) (Ğ (.l .ka .kb) [.L 2 .n0 .b] rfl h0) (Ğ (.t .n0 .kb) [.L 2 .n0 .b,.t .b .a] rfl h0 h1)) λd1 d2 d3 aT=>?_;clear aT;refine xa (mB (n:=bB-bC) (m:=bB+bC) (Ğ (.l .n0 .ka) [.t .b .a] rfl h1) (Ğ (.l .ka .kb) [.L 2 .n0 .b] rfl h0) (Ğ (.t .n0 .kb) [.L 2 .n0 .b,.t .b .a] rfl h0 h1)) λd4 d5=>?_;have d6:=ġ (bB+bC) (by lia) (de h3);have d7:((bB-bC:Int):Rat)/((bB+bC:Int):Rat)*((R Ñ+R Ð)/2)=(R Ñ-R Ð)/2:= by
   have b0:(0:Rat)<((bB+bC:Int):Rat):= by
    have:=bh.mpr (show(0:Int)<bB+bC by lia)
    exact_mod_cast this
   have b1:((bB-bC:Int):Rat)/((bB+bC:Int):Rat)*((bB+bC:Int):Rat)=((bB-bC:Int):Rat):=ģ (by assumption);generalize ((bB-bC:Int):Rat)/((bB+bC:Int):Rat)=P at*;refine f9 Lo ?_;push_cast at b1;grind
  generalize ((bB-bC:Int):Rat)/((bB+bC:Int):Rat)=P at*;generalize div (ab Ñ Ð) (add Ñ Ð)=s at*;have e:=iL (v:=(R Ñ+R Ð)/2) (x:=R s-P) (e:=1/2^54) (Ï (.L 2 .n0 .kF) [.L 2 .n0 .b,.t .b .a] rfl u0 u1) (Ï (.l .kF .n1) [.l .kF .kf] rfl hc) (Ï (.l (.G .kl) .ka) [.l (.S .b .kl) .a] rfl d2) (Ï (.l .ka .kl) [.l .a (.A .b .kl)] rfl d3);exact(d9 d1 (Ï (.t .n0 .a) [.l (.E 2) .b,.l (.S .b .kl) .a] rfl d6 d2) (Ï (.l .a (.A .n1 .kl)) [.l .b .n1,.l .a (.A .b .kl)] rfl d5 d3) (.inl (Ý trivial (õ (.l (.S (.D .ka .n2) .kl) (.M .kF .c)) [.e (.D .ka .n2) (.M .d .kF),.l (.G .kl) (.M .kF (.S .c .d))] rfl d7.symm e.1) (õ (.l (.M .kF .c) (.A (.D .ka .n2) .kl)) [.e (.M .d .kF) (.D .ka .n2),.l (.M .kF (.S .c .d)) .kl] rfl d7 e.2))))
 ·simp only[hc,decide_false,ay,if_false];refine bE (qE hS gD gT (by lia) (ý [_,_] [_] (.l .ka (.S (.S (.M .n2 .q) .a) .b)) [.L 2 .a .q] rfl h2) (ý [_,_] [_] (.t .n0 (.S (.S (.M .n2 .q) .a) .b)) [.t .kb (.M .n2 .q)] rfl h3)) λd1 d2 d3 aT=>?_;clear aT;refine xa (mB (n:=bB-bC) (m:=2*(Ü:Int)-bB-bC) (by lia) (ý [_,_] [_] (.l .ka (.S (.S (.M .n2 .q) .a) .b)) [.L 2 .a .q] rfl h2) (ý [_,_] [_] (.t .n0 (.S (.S (.M .n2 .q) .a) .b)) [.t .kb (.M .n2 .q)] rfl h3)) λd4 d5=>?_;have d6:=ġ (2*(Ü:Int)-bB-bC) (by lia) (ý [_,_] [_] (.l (.S (.S (.M .n2 .q) .a) .b) (.M .n2 .q)) [.L 2 .n0 .b,.t .b .a] rfl h0 h1);have d7:((bB-bC:Int):Rat)/((2*(Ü:Int)-bB-bC:Int):Rat)*(1-(R Ñ+R Ð)/2)=(R Ñ-R Ð)/2:= by
   have b0:(0:Rat)<((2*(Ü:Int)-bB-bC:Int):Rat):= by
    have:=bh.mpr (show(0:Int)<2*(Ü:Int)-bB-bC by lia)
    exact_mod_cast this
   have b1:((bB-bC:Int):Rat)/((2*(Ü:Int)-bB-bC:Int):Rat)*((2*(Ü:Int)-bB-bC:Int):Rat)=((bB-bC:Int):Rat):=ģ (by assumption);generalize ((bB-bC:Int):Rat)/((2*(Ü:Int)-bB-bC:Int):Rat)=P at*;refine f9 Lo ?_;push_cast at b1;grind
  generalize ((bB-bC:Int):Rat)/((2*(Ü:Int)-bB-bC:Int):Rat)=P at*;generalize div (ab Ñ Ð) (ab (ab 0x4000000000000000 Ñ) Ð)=s at*;have e:=iL (v:=1-(R Ñ+R Ð)/2) (x:=R s-P) (e:=1/2^54) (Ï (.L 2 .n0 (.S .n1 .kF)) [.t .b .a,.L 2 .a .n1] rfl u1 u2) (Ï (.l (.S .n1 .kF) .n1) [.t .kf .kF] rfl (iD.mp hc)) (Ï (.l (.G .kl) .ka) [.l (.S .b .kl) .a] rfl d2) (Ï (.l .ka .kl) [.l .a (.A .b .kl)] rfl d3);exact(d9 d1 (Ï (.t .n0 .a) [.l (.E 2) .b,.l (.S .b .kl) .a] rfl d6 d2) (Ï (.l .a (.A .n1 .kl)) [.l .b .n1,.l .a (.A .b .kl)] rfl d5 d3) (.inr (Ý ((iD.mp hc)) (õ (.l (.S (.D .ka .n2) .kl) (.M (.S .n1 .kF) .c)) [.e (.D .ka .n2) (.M .d (.S .n1 .kF)),.l (.G .kl) (.M (.S .n1 .kF) (.S .c .d))] rfl d7.symm e.1) (õ (.l (.M (.S .n1 .kF) .c) (.A (.D .ka .n2) .kl)) [.e (.M .d (.S .n1 .kF)) (.D .ka .n2),.l (.M (.S .n1 .kF) (.S .c .d)) .kl] rfl d7 e.2))))
theorem Z0:@t7 S M N m n:=iA (bH @t7) ((((S,M),N),m),n) YA
end
section
variable{l s:UInt64}{δ:Rat}
def AV :Prop:=∀(fl:È l) (fs:È s) (l0:0<=R l) (Lk:R l<=1) (s0:0<=R s) (s1:R s<=1+1/2^54) (h:(R l<=1/2/\δ/2-1/2^54<=R l*R s/\R l*R s<=δ/2+1/2^54)\/(1/2<R l/\δ/2-1/2^54<=(1-R l)*R s/\(1-R l)*R s<=δ/2+1/2^54)),Nr (nK l s) (R l+δ/2) (16/2^54)
def gE:=gX (a7 (a7 @AV))
theorem Z1:@AV gE.1.1 gE.1.2 gE.2:= by
 intro fl fs l0 Lk s0 s1 h;refine xa l1 λo1 o2=>?_;refine xa lh λv1 v2=>?_;unfold nK;refine O (P7 fl v1) (O v2 ?_)
 by_cases hc:R gE.1.1<=1/2
 ·simp only[hc,decide_true,if_true];rcases h with⟨-,h1,h2⟩|⟨h0,-⟩
  ·refine bE (l3 o1 fs (M:=4) ⟨2,by decide,rfl⟩ (by refine O o2 ?_;push_cast;exact Æ (.l (.G .n4) (.A .n1 .a)) [.l .n0 .a] rfl s0) (by refine O o2 ?_;push_cast;exact Æ (.l (.A .n1 .a) .n4) [.l .a (.A .n1 .kl)] rfl s1)) λa1 a2 a3 aT=>?_;clear aT;rw[o2] at a2 a3;push_cast at a2 a3;generalize add 0x3ff0000000000000 gE.1.2=q at*;have e:=iL l0 Lk (x:=R q-(1+R gE.1.2)) (e:=4/2^54) (Ï (.l (.G .kE) (.S .a (.A .n1 .b))) [.l (.S (.A .n1 .b) .kE) .a] rfl a2) (Ï (.l (.S .a (.A .n1 .b)) .kE) [.l .a (.A (.A .n1 .b) .kE)] rfl a3);have e':=iL l0 Lk (x:=R gE.1.2) (e:=2) (Æ (.l (.G .n2) .a) [.l .n0 .a] rfl s0) (Æ (.l .a .n2) [.l .a (.A .n1 .kl)] rfl s1);refine bE (l5 fl a1 (M:=4) ⟨2,by decide,rfl⟩ (by push_cast;exact Ø (.l (.G .n4) .kd) [.l .n0 .a,.l (.G .kE) (.M .a (.S .b (.A .n1 .c))),.l (.G .n2) (.M .a .c)] rfl l0 e.1 e'.1) (by push_cast;exact Ø (.l .kd .n4) [.l .a .n1,.l (.M .a (.S .b (.A .n1 .c))) .kE,.l (.M .a .c) .n2] rfl Lk e.2 e'.2)) λb1 b2 b3 aT=>?_;clear aT;push_cast at b2 b3;exact(Ý b1 (ĉ (.l (.S (.A .a .kN) (.E 16)) .c) [.l (.S .kN .kl) (.M .a .d),.l (.G .kE) (.M .a (.S .e (.A .n1 .d))),.l (.S (.M .a .e) .kE) .c] rfl h1 e.1 b2) (ĉ (.l .a (.A (.A .b (.D .c .n2)) (.E 16))) [.l (.M .b .d) (.A (.D .c .n2) .kl),.l (.M .b (.S .e (.A .n1 .d))) .kE,.l .a (.A (.M .b .e) .kE)] rfl h2 e.2 b3))
  ·grind
 ·simp only[hc,decide_false,ay,if_false];rcases h with⟨h0,-⟩|⟨-,h1,h2⟩
  ·exact absurd h0 hc
  ·have e':=iL l0 Lk (x:=R gE.1.2) (e:=3/2) (Æ (.l (.G .kK) .a) [.l .n0 .a] rfl s0) (Æ (.l .a .kK) [.l .a (.A .n1 .kl)] rfl s1);refine bE (l3 fl fs (M:=4) ⟨2,by decide,rfl⟩ (by push_cast;exact Ï (.l (.G .n4) .kb) [.l .n0 .a,.l .n0 .b] rfl l0 s0) (by push_cast;exact Ï (.l .kb .n4) [.l .a .n1,.l .b (.A .n1 .kl)] rfl Lk s1)) λa1 a2 a3 aT=>?_;clear aT;push_cast at a2 a3;refine bE (l5 fl fs (M:=2) ⟨1,by decide,rfl⟩ (by push_cast;exact Ï (.l (.G .n2) .kd) [.l (.G .kK) .kd] rfl e'.1) (by push_cast;exact Ï (.l .kd .n2) [.l .kd .kK] rfl e'.2)) λb1 b2 b3 aT=>?_;clear aT;push_cast at b2 b3;generalize add gE.1.1 gE.1.2=q at*;generalize mul gE.1.1 gE.1.2=q' at*;refine bE (jP a1 b1 (M:=8) ⟨3,by decide,rfl⟩ (by push_cast;exact õ (.l (.G .n8) .ka) [.l .n0 .c,.l .n0 .d,.l .kD .kK,.l (.S (.A .c .d) .kE) .a,.l .b (.A .kD (.E 2))] rfl l0 s0 e'.2 a2 b3) (by push_cast;exact õ (.l .ka .n8) [.l .c .n1,.l .d (.A .n1 .kl),.l (.G .kK) .kD,.l .a (.A (.A .c .d) .kE),.l (.S .kD (.E 2)) .b] rfl Lk s1 e'.1 a3 b2)) λc1 c2 c3 aT=>?_;clear aT;push_cast at c2 c3;exact(Ý c1 (ŝ (.l (.S (.A .a .kN) (.E 16)) .c) [.l (.S .kN .kl) (.M (.S .n1 .a) .d),.l (.S (.A .a .d) .kE) .e,.l .f (.A (.M .a .d) (.E 2)),.l (.S (.S .e .f) (.E 8)) .c] rfl h1 a2 b3 c2) (ŝ (.l .a (.A (.A .b (.D .c .n2)) (.E 16))) [.l (.M (.S .n1 .b) .d) (.A (.D .c .n2) .kl),.l .e (.A (.A .b .d) .kE),.l (.S (.M .b .d) (.E 2)) .f,.l .a (.A (.S .e .f) (.E 8))] rfl h2 a3 b2 c3))
theorem aA0:@AV l s δ:=iA (a7 (a7 @AV)) ((l,s),δ) Z1
theorem aA1{m2:UInt64}(fl:È l) (l0:0<=R l) (Lk:R l<=1) (d0:0<=δ) (d1:δ<=1) (h:Nr m2 (R l+δ/2) (16/2^54)):
  Nr (ab (mul 0x4000000000000000 l) m2) (R l-δ/2) (32/2^54):= by
 refine xa l2 λo1 o2=>?_;refine Ą h λh1 h2 h3=>?_;clear h;refine bE (l5 o1 fl (M:=4) ⟨2,by decide,rfl⟩ (by refine O o2 ?_;push_cast;exact Æ (.l (.G .n4) (.M .n2 .a)) [.L 2 .n0 .a] rfl l0) (by refine O o2 ?_;push_cast;exact Æ (.l (.M .n2 .a) .n4) [.L 2 .a .n1] rfl Lk)) λb1 b2 b3 aT=>?_;clear aT;rw[o2] at b2 b3;push_cast at b2 b3;generalize mul 0x4000000000000000 l=q at*;refine bE (jP b1 h1 (M:=4) ⟨2,by decide,rfl⟩ (by push_cast;exact õ (.L 2 (.G .n4) .ka) [.L 2 .n0 .c,.l .d .n1,.L 2 .b (.A (.A .c (.D .d .n2)) (.E 16)),.L 2 (.S (.M .n2 .c) .kE) .a] rfl l0 d1 h3 b2) (by push_cast;exact õ (.L 2 .ka .n4) [.L 2 .c .n1,.l .n0 .d,.L 2 (.S (.A .c (.D .d .n2)) (.E 16)) .b,.L 2 .a (.A (.M .n2 .c) .kE)] rfl Lk d0 h2 b3)) λc1 c2 c3 aT=>?_;clear aT;push_cast at c2 c3;exact(Ý c1 (ĉ (.l (.S (.S .a .kN) .kG) .c) [.l .d (.A (.A .a .kN) (.E 16)),.l (.S (.M .n2 .a) .kE) .e,.l (.S (.S .e .d) .kE) .c] rfl h3 b2 c2) (ĉ (.l .a (.A (.S .b (.D .c .n2)) .kG)) [.l (.S (.A .b (.D .c .n2)) (.E 16)) .d,.l .e (.A (.M .n2 .b) .kE),.l .a (.A (.S .e .d) .kE)] rfl h2 b3 c3))
end
section
variable{m1 m2 u:UInt64}{N δ:Rat}
def AW :Prop:=∀(h1:Nr m1 N (32/2^54)) (h2:Nr m2 (N+δ) (16/2^54)) (n0:0<=N) (n1:N<=1) (d0:0<=δ) (d1:N+δ<=1) (fu:È u) (u0:0<=R u) (u1:R u<=1+1/2^52),Nr (vF m1 m2 u) (N+δ*cR (6*R u)) (1024/2^54)
def eE:=gX (bH @AW)
theorem Z2:@AW eE.1.1.1.1 eE.1.1.1.2 eE.1.1.2 eE.1.2 eE.2:= by
 intro h1 h2 n0 n1 d0 d1 fu u0 u1;refine Ą h1 λf1 a1 b1=>?_;clear h1;refine Ą h2 λf2 a2 b2=>?_;clear h2;refine xa l16 λc1 c2=>?_;refine xa lh λe1 e2=>?_;refine xa l23 λg1 g2=>?_;refine xa l6 λs1 s2=>?_;unfold vF;refine O (P8 fu c1) (O (P8 fu e1) (O (P8 fu g1) (O c2 (O e2 (O g2 ?_)))));refine bE (jP f2 f1 (M:=2) ⟨1,by decide,rfl⟩ (by push_cast;exact õ (.l (.G .n2) .ka) [.l .n0 .c,.l .b (.A .d .kG),.l (.S (.A .d .c) (.E 16)) .a] rfl d0 b1 a2) (by push_cast;exact õ (.l .ka .n2) [.l .n0 .c,.l (.A .c .d) .n1,.l (.S .c .kG) .b,.l .a (.A (.A .c .d) (.E 16))] rfl n0 d1 a1 b2)) λx1 x2 x3 aT=>?_;clear aT;push_cast at x2 x3;generalize hU:R eE.1.1.2=U at*
 by_cases k1:U<6004799503160661/2^55
 ·simp only[k1,decide_true,if_true];have hg:cR (6*U)=6*U:=ų (Æ (.l .n0 .kg) [.L 6 .n0 .a] rfl u0) (Æ (.l .kg .n1) [.T 6 .a (.D .ku (.P .n2 55))] rfl k1);refine O hg ?_;generalize ab eE.1.1.1.2 eE.1.1.1.1=D at*;have p1:=iL (v:=U) u0 (Æ (.l .a .n1) [.t .a (.D .ku (.P .n2 55))] rfl k1) (x:=R D-eE.2) (e:=50/2^54) (ĉ (.l (.G (.E 50)) .ka) [.l .c (.A .d .kG),.l (.S (.A .d .b) (.E 16)) .e,.l (.S (.S .e .c) (.E 2)) .a] rfl b1 a2 x2) (ĉ (.l .ka (.E 50)) [.l (.S .c .kG) .d,.l .e (.A (.A .c .b) (.E 16)),.l .a (.A (.S .e .d) (.E 2))] rfl a1 b2 x3);have p2:=iL (v:=U) u0 (Æ (.l .a .n1) [.t .a (.D .ku (.P .n2 55))] rfl k1) (x:=R D) (e:=2) (ĉ (.l (.G .n2) .a) [.l .n0 .b,.l .c (.A .d .kG),.l (.S (.A .d .b) (.E 16)) .e,.l (.S (.S .e .c) (.E 2)) .a] rfl d0 b1 a2 x2) (ĉ (.l .a .n2) [.l .n0 .b,.l .kH .n1,.l (.S .b .kG) .d,.l .e (.A .kH (.E 16)),.l .a (.A (.S .e .d) (.E 2))] rfl n0 d1 a1 b2 x3);refine bE (l5 x1 fu (M:=2) ⟨1,by decide,rfl⟩ (by refine O hU ?_;push_cast;exact Ï (.l (.G .n2) .kd) [.l (.G .n2) (.M .b .a)] rfl p2.1) (by refine O hU ?_;push_cast;exact Ï (.l .kd .n2) [.l (.M .b .a) .n2] rfl p2.2)) λy1 y2 y3 aT=>?_;clear aT;rw[hU] at y2 y3;push_cast at y2 y3;generalize mul D eE.1.1.2=E at*;refine bE (l5 y1 s1 (M:=16) ⟨4,by decide,rfl⟩ (by refine O s2 ?_;push_cast;exact Ø (.l (.G (.N 16)) (.M .a .n6)) [.L 6 (.G .n2) .kq,.L 6 (.S (.M .c .b) (.E 2)) .a] rfl p2.1 y2) (by refine O s2 ?_;push_cast;exact Ø (.l (.M .a .n6) (.N 16)) [.L 6 .kq .n2,.L 6 .a (.A (.M .c .b) (.E 2))] rfl p2.2 y3)) λz1 z2 z3 aT=>?_;clear aT;rw[s2] at z2 z3;push_cast at z2 z3;generalize mul E 0x4018000000000000=G at*;have p3:=iL (v:=U) u0 (by grind) (x:=eE.2) (e:=1) (Æ (.l .kn .a) [.l .n0 .a] rfl d0) (Ï (.l .a .n1) [.l .n0 .b,.l (.A .b .a) .n1] rfl n0 d1);refine bE (l3 f1 z1 (M:=32) ⟨5,by decide,rfl⟩ (by push_cast;exact ŝ (.l (.G (.N 32)) .kb) [.l .n0 .c,.l (.S .c .kG) .a,.L 6 (.G .n2) (.M .d .e),.L 6 (.S (.M .e .d) (.E 2)) .f,.l (.S (.M .f .n6) (.E 16)) .b] rfl n0 a1 p2.1 y2 z2) (by push_cast;exact ŝ (.l .kb (.N 32)) [.l .c .n1,.l .a (.A .c .kG),.L 6 (.M .d .e) .n2,.L 6 .f (.A (.M .e .d) (.E 2)),.l .b (.A (.M .f .n6) (.E 16))] rfl n1 b1 p2.2 y3 z3)) λw1 w2 w3 aT=>?_;clear aT;push_cast at w2 w3;exact(Ý w1 (Ę [_,_,_,_,_,_,_,_] (.l (.S (.A .a (.M .b (.M .n6 .c))) (.E 1024)) .d) [.l (.S .a .kG) .e,.L 6 (.G (.E 50)) (.M .c (.S .f .b)),.L 6 (.S (.M .f .c) (.E 2)) .g,.l (.S (.M .g .n6) (.E 16)) .h,.l (.S (.A .e .h) .kG) .d] rfl a1 p1.1 y2 z2 w2) (Ę [_,_,_,_,_,_,_,_] (.l .a (.A (.A .b (.M .c (.M .n6 .d))) (.E 1024))) [.l .e (.A .b .kG),.L 6 (.M .d (.S .f .c)) (.E 50),.L 6 .g (.A (.M .f .d) (.E 2)),.l .h (.A (.M .g .n6) (.E 16)),.l .a (.A (.A .e .h) .kG)] rfl b1 p1.2 y3 z3 w3))
 ·simp only[k1,decide_false,ay,if_false]
  by_cases k2:U<1/2
  ·simp only[k2,decide_true,if_true];have hg:1-6/2^54<=cR (6*U)/\cR (6*U)<=1:= by
    by_cases q:6*U<=1
    ·exact O (ų (by exact Æ (.l .n0 .kg) [.L 6 .n0 .a] rfl u0) q) ⟨by exact Æ (.l (.S .n1 (.E 6)) .kg) [.L 6 (.D .ku (.P .n2 55)) .a] rfl (jt.mp k1),q⟩
    ·exact O (ş (av (iD.mp q)) (Æ (.l .kg .n3) [.T 6 .a .kf] rfl k2)) ⟨by exact å (.l (.S .n1 (.E 6)) .n1) [] rfl,by exact ei⟩
   have p:=iL d0 (Ï (.l .a .n1) [.l .n0 .b,.l (.A .b .a) .n1] rfl n0 d1) (x:=cR (6*U)-1) (e:=6/2^54) (Æ (.l (.G (.E 6)) (.S .a .n1)) [.l (.S .n1 (.E 6)) .a] rfl hg.1) (Æ (.l (.S .a .n1) (.E 6)) [.l .a .n1] rfl hg.2);exact(Ý f2 (õ (.l (.S (.A .a .kq) (.E 1024)) .d) [.l (.S .kb (.E 16)) .d,.l (.M .b (.S .c .n1)) (.E 6)] rfl a2 p.2) (õ (.l .a (.A (.A .b .kD) (.E 1024))) [.l .a (.A .kH (.E 16)),.l (.G (.E 6)) (.M .c (.S .d .n1))] rfl b2 p.1))
  ·simp only[k2,decide_false,ay,if_false]
   by_cases k3:U<6004799503160661/2^53
   ·simp only[k3,decide_true,if_true];have hg:cR (6*U)=4-6*U:=Β (Æ (.l .n3 .kg) [.L 6 .kf .a] rfl (jt.mp k2)) (Æ (.l .kg .n4) [.T 6 .a (.D .ku .ki)] rfl k3);refine O hg ?_;generalize ab eE.1.1.1.2 eE.1.1.1.1=D at*;refine bE (jP g1 fu (M:=1) ⟨0,by decide,rfl⟩ (by refine O hU (O g2 ?_);push_cast;exact Æ (.l .kn (.S (.D .ku .ki) .a)) [.l .a .kh] rfl u1) (by refine O hU (O g2 ?_);push_cast;exact Æ (.l (.S (.D .ku .ki) .a) .n1) [.l .n0 .a] rfl u0)) λq1 q2 q3 aT=>?_;clear aT;rw[hU,g2] at q2 q3;push_cast at q2 q3;generalize ab 0x3fe5555555555555 eE.1.1.2=T at*;have hT:2/3-U-3/2^54<=R T/\R T<=2/3-U+3/2^54:=⟨by exact Ï (.l (.S (.S (.D .n2 .n3) .a) (.E 3)) .b) [.l (.S (.S (.D .ku .ki) .a) .kl) .b] rfl q2,by exact Ï (.l .a (.A (.S (.D .n2 .n3) .b) (.E 3))) [.l .a (.A (.S (.D .ku .ki) .b) .kl)] rfl q3⟩;have p1:=qG (v:=R T) (Ï (.l (.G .n2) .a) [.l .b .kh,.l (.S (.S (.D .n2 .n3) .b) (.E 3)) .a] rfl u1 hT.1) (Ï (.l .a .n2) [.l .n0 .b,.l .a (.A (.S (.D .n2 .n3) .b) (.E 3))] rfl u0 hT.2) (x:=R D-eE.2) (e:=50/2^54) (ĉ (.l (.G (.E 50)) .ka) [.l .c (.A .d .kG),.l (.S (.A .d .b) (.E 16)) .e,.l (.S (.S .e .c) (.E 2)) .a] rfl b1 a2 x2) (ĉ (.l .ka (.E 50)) [.l (.S .c .kG) .d,.l .e (.A (.A .c .b) (.E 16)),.l .a (.A (.S .e .d) (.E 2))] rfl a1 b2 x3);have p2:=qG (v:=R T) (Ï (.l (.G .n2) .a) [.l .b .kh,.l (.S (.S (.D .n2 .n3) .b) (.E 3)) .a] rfl u1 hT.1) (Ï (.l .a .n2) [.l .n0 .b,.l .a (.A (.S (.D .n2 .n3) .b) (.E 3))] rfl u0 hT.2) (x:=R D) (e:=2) (ĉ (.l (.G .n2) .a) [.l .n0 .b,.l .c (.A .d .kG),.l (.S (.A .d .b) (.E 16)) .e,.l (.S (.S .e .c) (.E 2)) .a] rfl d0 b1 a2 x2) (ĉ (.l .a .n2) [.l .n0 .b,.l .kH .n1,.l (.S .b .kG) .d,.l .e (.A .kH (.E 16)),.l .a (.A (.S .e .d) (.E 2))] rfl n0 d1 a1 b2 x3);have p4:=iL d0 (by grind) (x:=R T-(2/3-U)) (e:=3/2^54) (Ï (.l (.G (.E 3)) (.S .a (.S (.D .n2 .n3) .b))) [.l (.S (.S (.D .n2 .n3) .b) (.E 3)) .a] rfl hT.1) (Ï (.l (.S .a (.S (.D .n2 .n3) .b)) (.E 3)) [.l .a (.A (.S (.D .n2 .n3) .b) (.E 3))] rfl hT.2);refine bE (l5 x1 q1 (M:=4) ⟨2,by decide,rfl⟩ (by push_cast;exact Ï (.l (.G .n4) .kd) [.l (.G (.M .n2 .n2)) (.M .b .a)] rfl p2.1) (by push_cast;exact Ï (.l .kd .n4) [.l (.M .b .a) (.M .n2 .n2)] rfl p2.2)) λy1 y2 y3 aT=>?_;clear aT;push_cast at y2 y3;generalize mul D T=E at*;refine bE (l5 y1 s1 (M:=32) ⟨5,by decide,rfl⟩ (by refine O s2 ?_;push_cast;exact Ø (.l (.G (.N 32)) (.M .a .n6)) [.L 6 (.G (.M .n2 .n2)) .kq,.L 6 (.S (.M .c .b) .kE) .a] rfl p2.1 y2) (by refine O s2 ?_;push_cast;exact Ø (.l (.M .a .n6) (.N 32)) [.L 6 .kq (.M .n2 .n2),.L 6 .a (.A (.M .c .b) .kE)] rfl p2.2 y3)) λz1 z2 z3 aT=>?_;clear aT;rw[s2] at z2 z3;push_cast at z2 z3;generalize mul E 0x4018000000000000=G at*;have p3:=qG (v:=2/3-U) (Æ (.l (.G .n2) (.S (.D .n2 .n3) .a)) [.l .a .kh] rfl u1) (Æ (.l (.S (.D .n2 .n3) .a) .n2) [.l .n0 .a] rfl u0) (x:=eE.2) (e:=1) (Æ (.l .kn .a) [.l .n0 .a] rfl d0) (by grind);refine bE (l3 f1 z1 (M:=32) ⟨5,by decide,rfl⟩ (by push_cast;exact ŝ (.l (.G (.N 32)) .kb) [.l .n0 .c,.l (.S .c .kG) .a,.L 6 (.G (.M .n2 .n2)) (.M .d .e),.L 6 (.S (.M .e .d) .kE) .f,.l (.S (.M .f .n6) .kG) .b] rfl n0 a1 p2.1 y2 z2) (by push_cast;exact ŝ (.l .kb (.N 32)) [.l .c .n1,.l .a (.A .c .kG),.L 6 (.M .d .e) (.M .n2 .n2),.L 6 .f (.A (.M .e .d) .kE),.l .b (.A (.M .f .n6) .kG)] rfl n1 b1 p2.2 y3 z3)) λw1 w2 w3 aT=>?_;clear aT;push_cast at w2 w3;exact(Ý w1 (Ę [_,_,_,_,_,_,_,_,_] (.l (.S (.A .a (.M .b (.S .n4 (.M .n6 .c)))) (.E 1024)) .d) [.l (.S .a .kG) .e,.L 6 (.G (.M .n2 (.E 50))) (.M .f (.S .g .b)),.L 6 (.G (.E 3)) (.M .b (.S .f (.S (.D .n2 .n3) .c))),.L 6 (.S (.M .g .f) .kE) .h,.l (.S (.M .h .n6) .kG) .i,.l (.S (.A .e .i) .kG) .d] rfl a1 p1.1 p4.1 y2 z2 w2) (Ę [_,_,_,_,_,_,_,_,_] (.l .a (.A (.A .b (.M .c (.S .n4 (.M .n6 .d)))) (.E 1024))) [.l .e (.A .b .kG),.L 6 (.M .f (.S .g .c)) (.M .n2 (.E 50)),.L 6 (.M .c (.S .f (.S (.D .n2 .n3) .d))) (.E 3),.L 6 .h (.A (.M .g .f) .kE),.l .i (.A (.M .h .n6) .kG),.l .a (.A (.A .e .i) .kG)] rfl b1 p1.2 p4.2 y3 z3 w3))
   ·simp only[k3,decide_false,ay,if_false];have hg:0<=cR (6*U)/\cR (6*U)<=12/2^54:= by
     by_cases q:6*U<=4
     ·exact O (Β (by exact Æ (.l .n3 .kg) [.L 6 .kf .a] rfl (jt.mp k2)) q) ⟨by exact Æ (.l .n0 (.S .n4 .kg)) [.l .kg .n4] rfl q,by exact Æ (.l (.S .n4 .kg) (.E 12)) [.L 6 (.D .ku .ki) .a] rfl (jt.mp k3)⟩
     ·exact O (Ř (av (iD.mp q))) ⟨by exact ei,by exact å (.l .n0 (.E 12)) [] rfl⟩
    have p:=iL d0 (by grind) (x:=cR (6*U)) (e:=12/2^54) (Æ (.l (.G (.E 12)) .a) [.l .n0 .a] rfl hg.1) (hg.2);exact(Ý f1 (õ (.l (.S (.A .a .kq) (.E 1024)) .d) [.l (.S .a .kG) .d,.l .kq (.E 12)] rfl a1 p.2) (õ (.l .a (.A (.A .b .kD) (.E 1024))) [.l .a (.A .b .kG),.l (.G (.E 12)) .kD] rfl b1 p.1))
theorem YB:@AW m1 m2 u N δ:=iA (bH @AW) ((((m1,m2),u),N),δ) Z2
end
theorem FQ (d0:0<=δ) (d1:δ<=1) (h:Nr x (N+δ*g) (1024/2^54)) (h0:g'-e<=g) (h1:g<=g'+e) (he:e<=3072/2^54):Nr x (N+δ*g') (4096/2^54):= by
 refine Ą h λf a b=>?_;clear h;have p:=iL d0 d1 (x:=g-g') (e:=e) (Ø (.l (.G .a) .kx) [.l (.S .c .a) .b] rfl h0) (Ø (.l .ka .c) [.l .a .kH] rfl h1);exact(Ý f (ŝ (.l (.S (.A .a .kq) (.E 4096)) .d) [.l .e (.E 3072),.l (.S (.A .a (.M .b .f)) (.E 1024)) .d,.l (.G .e) (.M .b (.S .f .c))] rfl he a p.1) (ŝ (.l .a (.A (.A .b .kD) (.E 4096))) [.l .e (.E 3072),.l .a (.A (.A .b (.M .c .f)) (.E 1024)),.l (.M .c (.S .f .d)) .e] rfl he b p.2))
def rK{F:Fn}{h l s:UInt64}{δ:Rat}{k:Nat} :Prop:=∀(hF:∀m1 m2 u:UInt64,F k [.flt m1,.flt m2,.flt u]=some (.flt (vF m1 m2 (ca u one).2))) (fh:È h) (h0:-1<=R h) (h1:R h<=2) (fl:È l) (fs:È s) (n0:0<=R l-δ/2) (n1:R l+δ/2<=1) (d0:0<δ) (s0:0<R s) (s1:R s<=1+1/2^54) (hw:(R l<=1/2/\δ/2-1/2^54<=R l*R s/\R l*R s<=δ/2+1/2^54)\/(1/2<R l/\δ/2-1/2^54<=(1-R l)*R s/\(1-R l)*R s<=δ/2+1/2^54)),∃c,e9 F (Co.bS k) [.flt h,.flt l,.flt s]=some (.tup c)/\∃(u:Rat) (m:Int),0<=u/\u<6/\Α c (R l-δ/2) δ u (4096/2^54)/\6*R h-6*m-1024/2^54<=u/\u<=6*R h-6*m+1024/2^54
def cF:=gX (bH (a7 @rK))
def jK:=cF.1.1.1.1.2
theorem U2:@rK cF.1.1.1.1.1 jK cF.1.1.1.2 cF.1.1.2 cF.1.2 cF.2:= by
 intro hF fh h0 h1 fl fs n0 n1 d0 s0 s1 hw;have hs:Ĕ cF.1.1.2 0=false:= by
  unfold Ĕ;refine O (nY fs l0.1) (O l0.2 ?_);split
  ·rfl
  ·refine O (if_neg ((Ea (s0)).symm)) ?_;rfl
 refine(Õ _ (UX hs hF) ?_);have Hm:=aA0 (δ:=cF.1.2) fl fs (Ï (.L 2 .n0 .a) [.L 2 .n0 (.S .a .kN),.t .n0 .b] rfl n0 d0) (Ï (.L 2 .a .n1) [.L 2 (.A .a .kN) .n1,.t .n0 .b] rfl n1 d0) (av s0) s1 hw;have Kk:=aA1 (δ:=cF.1.2) fl (Ï (.L 2 .n0 .a) [.L 2 .n0 (.S .a .kN),.t .n0 .b] rfl n0 d0) (Ï (.L 2 .a .n1) [.L 2 (.A .a .kN) .n1,.t .n0 .b] rfl n1 d0) (av d0) (Ï (.l .a .n1) [.l .n0 (.S .b (.D .a .n2)),.l (.A .b (.D .a .n2)) .n1] rfl n0 n1) Hm;generalize nK cF.1.1.1.2 cF.1.1.2=m2 at*;generalize ab (mul 0x4000000000000000 cF.1.1.1.2) m2=m1 at*;refine xa l13 λt1 t2=>?_;refine bE (l3 fh t1 (M:=4) ⟨2,by decide,rfl⟩ (by refine O t2 ?_;push_cast;exact Æ (.l (.G .n4) (.A .a (.E 6004799503160661))) [.l .kn .a] rfl h0) (by refine O t2 ?_;push_cast;exact Æ (.l (.A .a (.E 6004799503160661)) .n4) [.l .a .n2] rfl h1)) λa1 a2 a3 aT=>?_;clear aT;refine bE (jP fh t1 (M:=4) ⟨2,by decide,rfl⟩ (by refine O t2 ?_;push_cast;exact Æ (.l (.G .n4) (.S .a (.E 6004799503160661))) [.l .kn .a] rfl h0) (by refine O t2 ?_;push_cast;exact Æ (.l (.S .a (.E 6004799503160661)) .n4) [.l .a .n2] rfl h1)) λb1 b2 b3 aT=>?_;clear aT;rw[t2] at a2 a3 b2 b3;push_cast at a2 a3 b2 b3;generalize add jK 0x3fd5555555555555=hr at*;generalize ab jK 0x3fd5555555555555=hb at*;refine lO (oW fh) λp1 p2 n p3 p4 p5 p6 aT=>?_;clear aT;refine lO (oW a1) λq1 q2 nr q3 q4 q5 q6 aT=>?_;clear aT;refine lO (oW b1) λr1 r2 nb r3 r4 r5 r6 aT=>?_;clear aT;have e2:R cF.1.1.1.2+cF.1.2/2=(R cF.1.1.1.2-cF.1.2/2)+cF.1.2:=by exact Ï (.e (.A .a .kN) (.A (.S .a .kN) .b)) [] rfl
 rw[e2] at Hm;have vg:=YB Kk Hm n0 (Ï (.l (.S .a .kN) .n1) [.l (.A .a .kN) .n1,.t .n0 .b] rfl n1 d0) (av d0) (Ï (.l (.A (.S .a .kN) .b) .n1) [.l (.A .a .kN) .n1] rfl n1) p1 p2 (Ø (.l .a .kh) [.l .a (.A .kx .kl),.t .kx .n1] rfl p4 p6);have vr:=YB Kk Hm n0 (Ï (.l (.S .a .kN) .n1) [.l (.A .a .kN) .n1,.t .n0 .b] rfl n1 d0) (by grind) (Ï (.l (.A (.S .a .kN) .b) .n1) [.l (.A .a .kN) .n1] rfl n1) q1 q2 (Ø (.l .a .kh) [.l .a (.A .kx .kl),.t .kx .n1] rfl q4 q6);have vb:=YB Kk Hm n0 (by grind) (by grind) (by grind) r1 r2 (by grind);generalize (ca jK one).2=ug at*;generalize (ca hr one).2=ur at*;generalize (ca hb one).2=ub at*;generalize vF m1 m2 ug=xg at*;generalize vF m1 m2 ur=xr at*;generalize vF m1 m2 ub=xb at*;clear Kk Hm hw hF hs;refine(cX (6*(R jK-n)) n (Ï (.l .n0 (.M .n6 .ka)) [.L 6 .n0 .ka] rfl p5) (Ï (.t (.M .n6 .ka) .n6) [.T 6 .ka .n1] rfl p6) (dH _ _ _ rfl ?_ ?_ ?_) ⟨(Ï (.l (.S (.S .kg .kA) (.E 1024)) (.M .n6 .ka)) [] rfl),(Ï (.l (.M .n6 .ka) (.A (.S .kg .kA) (.E 1024))) [] rfl)⟩)
 ·refine xa (UZ (u:=6*(R jK-n)) (w:=6*R ur) (j:=nr-n) (e:=64/2^54) (Ï (.l .n0 (.M .n6 .ka)) [.L 6 .n0 .ka] rfl p5) (Ï (.t (.M .n6 .ka) .n6) [.T 6 .ka .n1] rfl p6) (Æ (.l (.G (.E 64)) .kg) [.L 6 .n0 .a] rfl q2) (Ø (.l .kg (.A .n6 (.E 64))) [.T 6 .kx .n1,.L 6 .a (.A .kx .kl)] rfl q6 q4) (å (.l .n0 (.E 64)) [] rfl) (å (.l (.E 64) .kB) [] rfl) (by push_cast;exact ĉ (.l (.S (.S (.A (.M .n6 .ka) .n2) (.M .n6 (.S .c .b))) (.E 64)) (.M .n6 .d)) [.L 6 (.S (.A .a (.E 6004799503160661)) .kE) .e,.L 6 (.S (.S .e .c) .kl) .d] rfl a2 q3) (by push_cast;exact ĉ (.l .kg (.A (.S (.A (.M .n6 .kx) .n2) (.M .n6 (.S .d .c))) (.E 64))) [.L 6 .e (.A (.A .b (.E 6004799503160661)) .kE),.L 6 .a (.A (.S .e .d) .kl)] rfl a3 q4)) λz1 z2=>?_;exact FQ (by grind) (Ï (.l .a .n1) [.l .n0 (.S .b (.D .a .n2)),.l (.A .b (.D .a .n2)) .n1] rfl n0 n1) vr (e:=128/2^54) (Ï (.l (.S .a (.E 128)) .b) [.l (.S .a (.M .n2 (.E 64))) .b] rfl z1) (Ï (.l .a (.A .b (.E 128))) [.l .a (.A .b (.M .n2 (.E 64)))] rfl z2) (å (.l (.E 128) (.E 3072)) [] rfl)
 ·refine xa (J9 (u:=6*(R jK-n)) (w:=6*R ug) (e:=64/2^54) (å (.l .n0 (.E 64)) [] rfl) (Ø (.l (.S (.M .n6 .ka) (.E 64)) (.M .n6 .c)) [.L 6 (.S .ka .kl) .c] rfl p3) (Ø (.l .kg (.A (.M .n6 .kx) (.E 64))) [.L 6 .a (.A .kx .kl)] rfl p4)) λz1 z2=>?_;exact FQ (by grind) (by grind) vg (e:=64/2^54) (z1) (z2) (å (.l (.E 64) (.E 3072)) [] rfl)
 ·refine xa (P4 (u:=6*(R jK-n)) (w:=6*R ub) (j:=nb-n) (e:=64/2^54) (by grind) (by grind) (Æ (.l (.G (.E 64)) .kg) [.L 6 .n0 .a] rfl r2) (Ø (.l .kg (.A .n6 (.E 64))) [.T 6 .kx .n1,.L 6 .a (.A .kx .kl)] rfl r6 r4) (by grind) (å (.l (.E 64) .kB) [] rfl) (by push_cast;exact ĉ (.l (.S (.S (.S (.M .n6 .ka) .n2) (.M .n6 (.S .c .b))) (.E 64)) (.M .n6 .d)) [.L 6 (.S (.S .a (.E 6004799503160661)) .kE) .e,.L 6 (.S (.S .e .c) .kl) .d] rfl b2 r3) (by push_cast;exact ĉ (.l .kg (.A (.S (.S (.M .n6 .kx) .n2) (.M .n6 (.S .d .c))) (.E 64))) [.L 6 .e (.A (.S .b (.E 6004799503160661)) .kE),.L 6 .a (.A (.S .e .d) .kl)] rfl b3 r4)) λz1 z2=>?_;exact FQ (by grind) (by grind) vb (e:=128/2^54) (Ï (.l (.S .a (.E 128)) .b) [.l (.S .a (.M .n2 (.E 64))) .b] rfl z1) (Ï (.l .a (.A .b (.E 128))) [.l .a (.A .b (.M .n2 (.E 64)))] rfl z2) (å (.l (.E 128) (.E 3072)) [] rfl)
theorem YC:@rK F h l s δ k:=iA (bH (a7 @rK)) (((((F,h),l),s),δ),k) U2
noncomputable def ħ (Z A B C:Int):Nat->Int×Int×Int
 |0=>(A,B,C)
 |t+1=>(Z-(ħ Z A B C t).2.1,Z-(ħ Z A B C t).2.2,Z-(ħ Z A B C t).1)
theorem Z3:ħ Z A B C 0=(A,B,C):=rfl
theorem H4:ħ Z A B C (t+1)=(Z-(ħ Z A B C t).2.1,Z-(ħ Z A B C t).2.2,Z-(ħ Z A B C t).1):=rfl
theorem j5 (hd:N<M) (h0:N<=X) (h1:X<=M):∃q:Rat,((X-N:Int):Rat)/((M-N:Int):Rat)=q/\0<=q/\q<=1/\(X:Rat)=(N:Rat)+((M-N:Int):Rat)*q:= by
 have dpos:(0:Rat)<((M-N:Int):Rat):= by
  have:=bh.mpr (gp hd)
  exact_mod_cast this
 refine(Õ _ rfl ?_);refine xa (mB (n:=X-N) (m:=M-N) (bt h0) (xh h1 N) (gp hd)) λu1 u2=>?_;refine(Ý u1 u2 ?_);have:((X-N:Int):Rat)/((M-N:Int):Rat)*((M-N:Int):Rat)=((X-N:Int):Rat):=ģ dpos;clear u1 u2;generalize ((X-N:Int):Rat)/((M-N:Int):Rat)=Q at*;push_cast at this⊢;exact õ (.e .a (.A .b (.M (.S .c .b) .d))) [.e .ka (.M .d (.S .c .b))] rfl this.symm
theorem sF (N M:Int):(M:Rat)=(N:Rat)+((M-N:Int):Rat)*1:=by push_cast;exact Ï (.e .a (.A .b (.M .ka .n1))) [] rfl
theorem qH (N:Int) (d:Rat):(N:Rat)=(N:Rat)+d*0:=by exact Ï (.e .a (.A .a (.M .b .n0))) [] rfl
theorem sG (e:((X-N:Int):Rat)/((M-N:Int):Rat)=q) (h:Y=N):((Y-X:Int):Rat)/((M-N:Int):Rat)=-q:= by
 refine aBD e (O h ?_);push_cast;grind
theorem sH (e:((X-N:Int):Rat)/((M-N:Int):Rat)=q) (h:Y=N):((X-Y:Int):Rat)/((M-N:Int):Rat)=q:=by exact aBD e (O h rfl)
def ŗ (A B C N M:Int) (hue:Rat):Prop:=∃(w:Rat) (j:Int),0<=w/\w<6/\w=hue-6*j/\(A:Rat)=(N:Rat)+((M-N:Int):Rat)*fE w/\(B:Rat)=(N:Rat)+((M-N:Int):Rat)*cR w/\(C:Rat)=(N:Rat)+((M-N:Int):Rat)*g9 w
theorem ŗ.mk' {A B C N M:Int}{hue w a b c:Rat}(j:Int) (w0:0<=w) (w1:w<6) (hw:w=hue-6*j) (ha:fE w=a) (hb:cR w=b) (hc:g9 w=c) (h1:(A:Rat)=(N:Rat)+((M-N:Int):Rat)*a) (h2:(B:Rat)=(N:Rat)+((M-N:Int):Rat)*b) (h3:(C:Rat)=(N:Rat)+((M-N:Int):Rat)*c):ŗ A B C N M hue:=
 (cX w j w0 w1 hw (Ý (by exact O ha h1) (by refine O hb ?_;exact h2) (by exact O hc h3)))
theorem m0 (x:Rat):x=x-6*((0:Int):Rat):=by push_cast;exact Æ (.e .a (.S .a .kJ)) [] rfl
section
variable{A B C N M:Int}
theorem YD (hd:N<M) (hA:A=M) (hB:N<=B/\B<=M) (hC:N<=C/\C<=M) (n:B=N\/C=N):ŗ A B C N M (((B-C:Int):Rat)/((M-N:Int):Rat)):= by
 subst hA
 by_cases Oi:C=N
 ·refine cW (j5 hd hB.1 hB.2) λq e q0 q1 h=>?_;refine O (sH e Oi) ?_;exact .mk' 0 q0 (Æ (.t .a .n6) [.l .a .n1] rfl q1) (m0 q) (τ q1) (ų q0 q1) (Ζ (Æ (.l .a .n2) [.l .a .n1] rfl q1)) (sF N A) h (by exact O Oi (qH N _))
 ·have Su:B=N:=n.resolve_right Oi;refine cW (j5 hd hC.1 hC.2) λq e q0 q1 h=>?_;have hq:q≠0:=λhq=>Oi (by rw[hq] at h;exact Bj.mp (h.trans (qH N _).symm));refine O (sG e Su) ?_;exact .mk' (w:=6-q) (-1) (Æ (.l .n0 (.S .n6 .a)) [.l .a .n1] rfl q1) (by grind) (by push_cast;exact Æ (.e (.S .n6 .a) (.S (.G .a) (.M .n6 .kn))) [] rfl) (ς (Æ (.l .n5 (.S .n6 .a)) [.l .a .n1] rfl q1)) (Ř (Æ (.l .n4 (.S .n6 .a)) [.l .a .n1] rfl q1)) ((B_3 (Æ (.l .n5 (.S .n6 .a)) [.l .a .n1] rfl q1) (Æ (.l (.S .n6 .a) .n6) [.l .n0 .a] rfl q0)).trans (Æ (.e (.S .n6 (.S .n6 .a)) .a) [] rfl:6-(6-q)=q)) (sF N A) (by exact O Su (qH N _)) h
theorem P9 (hd:N<M) (hB:B=M) (hA:N<=A/\A<=M) (hC:N<=C/\C<=M) (n:A=N\/C=N):ŗ A B C N M (2+((C-A:Int):Rat)/((M-N:Int):Rat)):= by
 subst hB
 by_cases Oi:C=N
 ·refine cW (j5 hd hA.1 hA.2) λq e q0 q1 h=>?_;refine O (sG e Oi) ?_;exact .mk' (w:=2-q) 0 (Æ (.l .n0 (.S .n2 .a)) [.l .a .n1] rfl q1) (Æ (.t (.S .n2 .a) .n6) [.l .n0 .a] rfl q0) (by push_cast;exact Æ (.e (.S .n2 .a) (.S (.A .n2 (.G .a)) .kJ)) [] rfl) ((R_2 (Æ (.l .n1 (.S .n2 .a)) [.l .a .n1] rfl q1) (Æ (.l (.S .n2 .a) .n2) [.l .n0 .a] rfl q0)).trans (Æ (.e (.S .n2 (.S .n2 .a)) .a) [] rfl:2-(2-q)=q)) (ş (Æ (.l .n1 (.S .n2 .a)) [.l .a .n1] rfl q1) (Æ (.l (.S .n2 .a) .n3) [.l .n0 .a] rfl q0)) (Ζ (Æ (.l (.S .n2 .a) .n2) [.l .n0 .a] rfl q0)) h (sF N B) (by exact O Oi (qH N _))
 ·have Rg:A=N:=n.resolve_right Oi;refine cW (j5 hd hC.1 hC.2) λq e q0 q1 h=>?_;refine O (sH e Rg) ?_;exact .mk' (w:=2+q) 0 (Æ (.l .n0 (.A .n2 .a)) [.l .n0 .a] rfl q0) (Æ (.t (.A .n2 .a) .n6) [.l .a .n1] rfl q1) (m0 _) (Ų (Æ (.l .n2 (.A .n2 .a)) [.l .n0 .a] rfl q0) (Æ (.l (.A .n2 .a) .n4) [.l .a .n1] rfl q1)) (ş (Æ (.l .n1 (.A .n2 .a)) [.l .n0 .a] rfl q0) (Æ (.l (.A .n2 .a) .n3) [.l .a .n1] rfl q1)) ((B_1 (Æ (.l .n2 (.A .n2 .a)) [.l .n0 .a] rfl q0) (Æ (.l (.A .n2 .a) .n3) [.l .a .n1] rfl q1)).trans (Æ (.e (.S (.A .n2 .a) .n2) .a) [] rfl:2+q-2=q)) (by exact O Rg (qH N _)) (sF N B) h
theorem U3 (hd:N<M) (hC:C=M) (hA:N<=A/\A<=M) (hB:N<=B/\B<=M) (n:A=N\/B=N):ŗ A B C N M (4+((A-B:Int):Rat)/((M-N:Int):Rat)):= by
 subst hC
 by_cases Rg:A=N
 ·refine cW (j5 hd hB.1 hB.2) λq e q0 q1 h=>?_;refine O (sG e Rg) ?_;exact .mk' (w:=4-q) 0 (Æ (.l .n0 (.S .n4 .a)) [.l .a .n1] rfl q1) (Æ (.t (.S .n4 .a) .n6) [.l .n0 .a] rfl q0) (by push_cast;exact Æ (.e (.S .n4 .a) (.S (.A .n4 (.G .a)) .kJ)) [] rfl) (Ų (Æ (.l .n2 (.S .n4 .a)) [.l .a .n1] rfl q1) (Æ (.l (.S .n4 .a) .n4) [.l .n0 .a] rfl q0)) ((Β (Æ (.l .n3 (.S .n4 .a)) [.l .a .n1] rfl q1) (Æ (.l (.S .n4 .a) .n4) [.l .n0 .a] rfl q0)).trans (Æ (.e (.S .n4 (.S .n4 .a)) .a) [] rfl:4-(4-q)=q)) (Μ (Æ (.l .n3 (.S .n4 .a)) [.l .a .n1] rfl q1) (Æ (.l (.S .n4 .a) .n5) [.l .n0 .a] rfl q0)) (by exact O Rg (qH N _)) h (sF N C)
 ·have Su:B=N:=n.resolve_left Rg;refine cW (j5 hd hA.1 hA.2) λq e q0 q1 h=>?_;refine O (sH e Su) ?_;exact .mk' (w:=4+q) 0 (Æ (.l .n0 (.A .n4 .a)) [.l .n0 .a] rfl q0) (Æ (.t (.A .n4 .a) .n6) [.l .a .n1] rfl q1) (m0 _) ((σ (Æ (.l .n4 (.A .n4 .a)) [.l .n0 .a] rfl q0) (Æ (.l (.A .n4 .a) .n5) [.l .a .n1] rfl q1)).trans (Æ (.e (.S (.A .n4 .a) .n4) .a) [] rfl:4+q-4=q)) (Ř (Æ (.l .n4 (.A .n4 .a)) [.l .n0 .a] rfl q0)) (Μ (Æ (.l .n3 (.A .n4 .a)) [.l .n0 .a] rfl q0) (Æ (.l (.A .n4 .a) .n5) [.l .a .n1] rfl q1)) h (by exact O Su (qH N _)) (sF N C)
end
theorem QA (hd:bA A B C<aX A B C):ŗ A B C (bA A B C) (aX A B C) (jN A B C):= by
 refine bE (fQ A B C) λm1 m2 m3 m4=>?_;refine bE (eY A B C) λn1 n2 n3 n4=>?_;unfold jN;generalize aX A B C=M at*;generalize bA A B C=N at*
 by_cases hA:A=M
 ·refine O (if_pos hA) (YD hd hA ⟨n2,m2⟩ ⟨n3,m3⟩ ?_);rcases n4 with e|e|e
  ·exact absurd (e.trans hA) (ni hd)
  ·exact .inl e.symm
  ·exact .inr e.symm
 ·refine O (if_neg hA) ?_
  by_cases hB:B=M
  ·refine O (if_pos hB) (P9 hd hB ⟨n1,m1⟩ ⟨n3,m3⟩ ?_);rcases n4 with e|e|e
   ·exact .inl e.symm
   ·exact absurd (e.trans hB) (ni hd)
   ·exact .inr e.symm
  ·refine O (if_neg hB) ?_;have hC:C=M:= by
    rcases m4 with e|e|e
    ·exact absurd e.symm hA
    ·exact absurd e.symm hB
    ·exact e.symm
   refine U3 hd hC ⟨n1,m1⟩ ⟨n2,m2⟩ ?_;rcases n4 with e|e|e
   ·exact .inl e.symm
   ·exact .inr e.symm
   ·exact absurd (e.trans hC) (ni hd)
theorem H5{A B C:Int}(hd:bA A B C<aX A B C):∀t:Nat,∃(w:Rat) (j:Int),0<=w/\w<6/\w=jN A B C+(t:Rat)-6*j/\
  ((ħ (aX A B C+bA A B C) A B C t).1:Rat)=(bA A B C:Rat)+((aX A B C-bA A B C:Int):Rat)*fE w/\
  ((ħ (aX A B C+bA A B C) A B C t).2.1:Rat)=(bA A B C:Rat)+((aX A B C-bA A B C:Int):Rat)*cR w/\
  ((ħ (aX A B C+bA A B C) A B C t).2.2:Rat)=(bA A B C:Rat)+((aX A B C-bA A B C:Int):Rat)*g9 w
 |0=>by
  refine dG (QA hd) λw j h0 h1 h2 h3=>?_;exact(cX w j h0 h1 (by refine O h2 ?_;push_cast;exact Ï (.e (.S .a .kA) (.S (.A .a .n0) .kA)) [] rfl) h3)
 |t+1=>by
  refine kL (H5 hd t) λw j h0 h1 h2 h3 zt=>?_;refine xa zt λh4 h5=>?_;clear zt;refine Ą (P3 h0 h1 rfl) λs1 s2 s3=>?_;have hj:∃j':Int,(if w<5 then w+1 else w-5)=jN A B C+((t+1:Nat):Rat)-6*j':= by
   by_cases h:w<5
   ·refine O (if_pos h) ?_;exact⟨j,by refine O h2 ?_;push_cast;exact Ø (.e (.A (.S .kb (.M .n6 .c)) .n1) (.S (.A .a (.A .b .n1)) (.M .n6 .c))) [] rfl⟩
   ·refine O (if_neg h) ?_;exact⟨j+1,by refine O h2 ?_;push_cast;exact Ø (.e (.S (.S .kb (.M .n6 .c)) .n5) (.S (.A .a (.A .b .n1)) (.M .n6 (.A .c .n1)))) [] rfl⟩
  refine xe hj λj' hj=>?_;refine(cX _ j' ?_ ?_ hj (Ý ?_ ?_ ?_))
  ·split<;>grind
  ·split<;>grind
  ·refine O s1 ?_;dsimp only[H4];push_cast;refine O h4 ?_;push_cast;exact Ø (.e (.S .kb (.A .b (.M .ka .c))) (.A .b (.M .ka (.S .n1 .c)))) [] rfl
  ·refine O s2 ?_;dsimp only[H4];push_cast;refine O h5 ?_;push_cast;exact Ø (.e (.S .kb (.A .b (.M .ka .c))) (.A .b (.M .ka (.S .n1 .c)))) [] rfl
  ·refine O s3 ?_;dsimp only[H4];push_cast;refine O h3 ?_;push_cast;exact Ø (.e (.S .kb (.A .b (.M .ka .c))) (.A .b (.M .ka (.S .n1 .c)))) [] rfl
theorem C8{S:Nat}(hS:(1:Rat)<=(S:Rat)){A B C:Int}(hd:bA A B C<aX A B C){t:Nat}{l:List PV}{n δ u η e:Rat}{m:Int}(hn:n*S=(bA A B C:Rat)) (hδ:δ*S=((aX A B C-bA A B C:Int):Rat)) (d1:δ<=1)
  (h:Α l n δ u η) (u0:0<=u) (u1:u<6) (e0:0<=e) (e1:e<=1/8) (h0:jN A B C+(t:Rat)-6*(m:Rat)-e<=u) (h1:u<=jN A B C+(t:Rat)-6*(m:Rat)+e):
  ∃x y z:UInt64,l=[.flt x,.flt y,.flt z]/\Nr x (((ħ (aX A B C+bA A B C) A B C t).1:Rat)/S) (η+e)/\Nr y (((ħ (aX A B C+bA A B C) A B C t).2.1:Rat)/S) (η+e)/\Nr z (((ħ (aX A B C+bA A B C) A B C t).2.2:Rat)/S) (η+e):= by
 refine kL (H5 hd t) λw j w0 w1 h2 h3 zt=>?_;refine xa zt λh4 h5=>?_;clear zt;obtain⟨⟨r1,r2⟩,⟨g1,g2⟩,⟨b1,b2⟩⟩:=J8 (j:=m-j) u0 u1 w0 w1 e0 e1 (by push_cast;exact Ę [_,_,_,_,_,_,_] (.l (.S (.S .a (.M .n6 .kx)) .d) .e) [.l (.S (.S (.A .f .g) .kA) .d) .e,.e .a (.S (.A .f .g) (.M .n6 .c))] rfl h0 h2) (by push_cast;exact Ę [_,_,_,_,_,_,_] (.l .a (.A (.S .b (.M .n6 (.S .c .d))) .e)) [.l .a (.A (.S (.A .f .g) (.M .n6 .c)) .e),.e (.S (.A .f .g) (.M .n6 .d)) .b] rfl h1 h2.symm);refine cH h λx y z hl hx hy hz=>?_;clear h;have hp:(0:Rat)<(S:Rat):=by exact yc hS
 have dpos:0<=δ:= by
  refine eC hp ?_;refine O hδ (O (en ..) ?_);have:=bh.mpr (show(0:Int)<aX A B C-bA A B C by exact Ğ (.t .n0 .ka) [.t .b .a] rfl hd);have h0:((0:Int):Rat)=0:=rfl;exact Ï (.l .n0 .a) [.t .b .a,.e .n0 .b] rfl this h0.symm
 have key:∀{x:UInt64}{v:Int}{g g':Rat},Nr x (n+δ*g) η->(v:Rat)=(bA A B C:Rat)+((aX A B C-bA A B C:Int):Rat)*g'->g'-e<=g->g<=g'+e->Nr x ((v:Rat)/S) (η+e):= by
  intro x v g g' ⟨f,a,b⟩ hv k1 k2;have ev:(v:Rat)/S=n+δ*g':= by
   refine O hv (aBD hn (aBD hδ ?_));have:(n*S+δ*S*g')=(n+δ*g')*S:=by exact õ (.e (.A .kd (.M (.M .c .b) .d)) (.M (.A .a .kD) .b)) [] rfl
   refine O this ?_;grind
  refine O ev ?_;have p:=iL dpos d1 (x:=g-g') (e:=e) (Ø (.l (.G .a) .kx) [.l (.S .c .a) .b] rfl k1) (Ø (.l .ka .c) [.l .a .kH] rfl k2);exact⟨f,by exact Ę [_,_,_,_,_,_,_] (.l (.S (.A .a .kq) (.A .d .e)) .f) [.l (.S (.A .a (.M .b .g)) .d) .f,.l (.G .e) (.M .b (.S .g .c))] rfl a p.1,by exact Ę [_,_,_,_,_,_,_] (.l .a (.A (.A .b .kD) (.A .e .f))) [.l .a (.A (.A .b (.M .c .g)) .e),.l (.M .c (.S .g .d)) .f] rfl b p.2⟩
 exact⟨x,y,z,hl,key hx h3 r1 r2,key hy h4 g1 g2,key hz h5 b1 b2⟩
noncomputable def fq (x y:Int):UInt64:=ofFrac (decide (x<0) != decide (y<0)) x.natAbs y.natAbs
theorem mE (x y:Int) (hy:0<y) (h:È (fq x y)):fD .Div (.int x) (.int y)=some (.flt (fq x y)):= by
 show(if _ then _ else _)=_;rw[if_pos]
 ·rfl
 ·refine⟨hy,?_⟩;refine jA h λa m e hd=>?_;clear h;unfold fq at hd;unfold nz;exact O hd rfl
theorem aA2 (hy:0<y) (p:Pw M) (h:x.natAbs<=y*M):È (fq x (y:Int))/\(x:Rat)/(y:Rat)-(M:Rat)/2^54<=R (fq x (y:Int))/\R (fq x (y:Int))<=(x:Rat)/(y:Rat)+(M:Rat)/2^54/\(Dy ((x:Rat)/(y:Rat))->R (fq x (y:Int))=(x:Rat)/(y:Rat)):= by
 have:=O4 (n:=x.natAbs) (d:=y) (s:=decide (x<0)) hy p h;rw[FH] at this;unfold fq;have e:(decide (x<0) != decide ((y:Int)<0))=decide (x<0):= by
  have:decide ((y:Int)<0)=false:=by rfl
  refine O this ?_;simp
 (refine O e ?_;rw[jx])
 exact this
theorem Z4 (hS:Sc S) (h:x.natAbs<=2^53):Gr S (fq x (S:Int)) x:= by
 have h0:0<S:=by exact O hS.eq (gy _)
 have hp:(0:Rat)<(S:Rat):=by have:=hS.pos;exact yc this
 refine bE (aA2 (x:=x) h0 (M:=2^53) ⟨53,by decide,rfl⟩ (aa h (Nat.le_mul_of_pos_left _ h0))) λa aT Gq d=>?_;clear aT;clear Gq;have e:(x:Rat)/(S:Rat)*(S:Rat)=x:=ģ (by assumption);refine⟨a,?_⟩;exact O (d (hS.dy e h)) e
structure Hsv (S:Nat) (A B C:Int) (h s v:UInt64):Prop where
 fh:È h
 fs:È s
 fv:È v
 lv:R v*(S:Rat)=((aX A B C:Int):Rat)
 h0:0<=R h
 h1:R h<=1+1/2^52
 hue:∃n:Int,jN A B C-6*n-1/2^49<=6*R h/\6*R h<=jN A B C-6*n+1/2^49
 s0:0<R s
 s1:R s<=1+1/2^54
 w1:((aX A B C-bA A B C:Int):Rat)/(S:Rat)-1/2^54<=R v*R s
 w2:R v*R s<=((aX A B C-bA A B C:Int):Rat)/(S:Rat)+1/2^54
theorem Z5{k d:Int}(hk:1<=k) (hd:0<d) (h:d<=2^50):1/2^50<=(k:Rat)/(d:Rat):= by
 have a0:(0:Rat)<(d:Rat):=by have:=bh.mpr hd;exact_mod_cast this
 have a1:=an.mpr h;have a2:=an.mpr hk;rw[mm] at a1;have a3:(k:Rat)/(d:Rat)*(d:Rat)=(k:Rat):=ģ (by assumption);refine eC a0 ?_;refine O a3 ?_;have:((1:Int):Rat)=1:=rfl;have:((2:Int):Rat)=2:=rfl;grind
section
variable{S:Nat}{r g b:UInt64}{A B C:Int}{F:Fn}
theorem V5 (hS:Sc S) (It:S<=2^50) (hr:Gr S r A) (hg:Gr S g B) (hb:Gr S b C) (hA:0<=A/\A<=S) (hB:0<=B/\B<=S) (hC:0<=C/\C<=S) (hd:bA A B C<aX A B C):
  ∃s v,e9 F Co.bX [.flt r,.flt g,.flt b]=some (.tup [.flt (kK r g b),.flt s,.flt v])/\Hsv S A B C (kK r g b) s v:= by
 have gM:=wJ hS hr hg hb;have gN:=wK hS hr hg hb;refine bE (fQ A B C) λm1 m2 m3 m4=>?_;refine bE (eY A B C) λn1 n2 n3 n4=>?_;have hM:aX A B C<=(S:Int):=m4.elim (λe=>aw (co e) hA.2) λh=>h.elim (λe=>aw (co e) hB.2) λe=>aw (co e) hC.2;have hN:0<=bA A B C:=n4.elim (λe=>aw hA.1 (co e.symm)) λh=>h.elim (λe=>aw hB.1 (co e.symm)) λe=>aw hC.1 (co e.symm);clear m1 m2 m3 m4 n1 n2 n3 n4;have gD:=jM hS gM gN (ý [_,_] [_,_] (.x .q .ki) [.x .r .kp,.l .a .r,.l .n0 .b,.e .q .ka] rfl It hM hN (aq (ī [_,_] (.l .n0 .ka) [.t .b .a] rfl hd)));have Nf:Ĕ (ó r g b) (á r g b)=false:=by refine O (m8 hS gN gM) ?_;simp;exact ni (hd)
 have zM:bz (á r g b)=false:=by refine O (rF hS gM) ?_;simp;exact ez (mj hN hd)
 have zD:bz (ab (á r g b) (ó r g b))=false:=by refine O (rF hS gD) ?_;simp;exact ez (Ğ (.t .n0 .ka) [.t .b .a] rfl hd)
 refine bE (FO hS hr hg hb ⟨hA.1,by exact ý [_] [_] (.l .a .kp) [.x .q .kp,.l .a .q] rfl It hA.2⟩ ⟨hB.1,by exact ý [_] [_] (.l .a .kp) [.x .q .kp,.l .a .q] rfl It hB.2⟩ ⟨hC.1,by lia⟩ hd) λf1 f2 f3 f4=>?_;refine(mL _ _ (XZ Nf zM zD) ?_);refine bE (qE hS gD gM (Ğ (.l .n0 .ka) [.t .b .a] rfl hd) (Ğ (.l .ka .a) [.l .n0 .b] rfl hN) (mj hN hd)) λd1 d2 d3 aT=>?_;clear aT;refine xa (mB (n:=aX A B C-bA A B C) (m:=aX A B C) (Ğ (.l .n0 .ka) [.t .b .a] rfl hd) (by lia) (by lia)) λd4 d5=>?_;have hp:(0:Rat)<(S:Rat):=by have:=hS.pos;exact yc this
 have hl:=Z5 (k:=aX A B C-bA A B C) (d:=aX A B C) (Ğ (.l .n1 .ka) [.t .b .a] rfl hd) (by lia) (ý [_] [_] (.l .a .kp) [.x .q .kp,.l .a .q] rfl It hM);have hm:(0:Rat)<((aX A B C:Int):Rat):= by
  have:=bh.mpr (show 0<aX A B C by lia)
  exact_mod_cast this
 have hmS:((aX A B C:Int):Rat)<=(S:Rat):= by
  have:=an.mpr (show aX A B C<=(S:Int) by exact hM)
  exact_mod_cast this
 have e1:R (á r g b)*(((aX A B C-bA A B C:Int):Rat)/((aX A B C:Int):Rat))=((aX A B C-bA A B C:Int):Rat)/(S:Rat):= by
  have q1:((aX A B C-bA A B C:Int):Rat)/((aX A B C:Int):Rat)*((aX A B C:Int):Rat)=((aX A B C-bA A B C:Int):Rat):=jv (na hm);have q2:((aX A B C-bA A B C:Int):Rat)/(S:Rat)*(S:Rat)=((aX A B C-bA A B C:Int):Rat):=jv (na hp);have q3:=gM.2;generalize ((aX A B C-bA A B C:Int):Rat)/((aX A B C:Int):Rat)=P at*;generalize ((aX A B C-bA A B C:Int):Rat)/(S:Rat)=Q at*;refine f9 hp ?_;exact O q2 (aBD q1 (aBD q3 (Ø (.e (.M .kd .c) (.M .b (.M .a .c))) [] rfl)))
 have v0:0<=R (á r g b):=eC hp (by exact O gM.2 (O (en ..) (av hm)));have v1:R (á r g b)<=1:=eC hp (by exact O gM.2 (O (my ..) hmS));generalize ((aX A B C-bA A B C:Int):Rat)/((aX A B C:Int):Rat)=P at*;have p:=iL v0 v1 (x:=R (div (ab (á r g b) (ó r g b)) (á r g b))-P) (e:=1/2^54) (Ï (.l (.G .kl) .ka) [.l (.S .b .kl) .a] rfl d2) (Ï (.l .ka .kl) [.l .a (.A .b .kl)] rfl d3);exact⟨f1,d1,gM.1,gM.2,f2,f3,f4,by exact Ï (.t .n0 .a) [.l (.S .b .kl) .a,.l (.D .n1 .kp) .b] rfl d2 hl,by exact Ï (.l .a (.A .n1 .kl)) [.l .a (.A .b .kl),.l .b .n1] rfl d3 d5,by exact õ (.l (.S .a .kl) .kq) [.e .a (.M .b .d),.l (.G .kl) (.M .b (.S .c .d))] rfl e1.symm p.1,by exact õ (.l .kd (.A .c .kl)) [.e (.M .a .d) .c,.l (.M .a (.S .b .d)) .kl] rfl e1 p.2⟩
theorem C9 (hS:Sc S) (hr:Gr S r A) (hg:Gr S g A) (hb:Gr S b A):
  ∃v,e9 F Co.bX [.flt r,.flt g,.flt b]=some (.tup [.flt 0,.flt 0,.flt v])/\Gr S v A:= by
 have gM:=wJ hS hr hg hb;have gN:=wK hS hr hg hb;have e1:aX A A A=A:=by unfold aX;simp
 have e2:bA A A A=A:=by unfold bA;trivial
 rw[e1] at gM;rw[e2] at gN;exact(Õ _ (XY (by refine O (m8 hS gN gM) ?_;simp)) gM)
end
theorem KA:e9 F Co.bT [.flt h,.flt 0,.flt v]=some (.tup [.flt v,.flt v,.flt v]):=
 UU (by decide +kernel)
theorem KB:e9 F (Co.bS k) [.flt h,.flt l,.flt 0]=some (.tup [.flt l,.flt l,.flt l]):=
 UW (by decide +kernel)
theorem QB{S:Nat}{A B C:Int}{h h' s v:UInt64}{t:Nat}{F:Fn}{e:Rat}{m:Int}(hS:Sc S) (hx:Hsv S A B C h s v) (hd:bA A B C<aX A B C) (Np:0<=bA A B C) (Nq:aX A B C<=S)
  (fh:È h') (h0:0<=R h') (h1:R h'<=100) (e0:0<=e) (e1:e<=1/2^42) (k0:6*R h+(t:Rat)-6*m-e<=6*R h') (k1:6*R h'<=6*R h+(t:Rat)-6*m+e):
  ∃x y z:UInt64,e9 F Co.bT [.flt h',.flt s,.flt v]=some (.tup [.flt x,.flt y,.flt z])/\
   Nr x (((ħ (aX A B C+bA A B C) A B C t).1:Rat)/S) (1/2^41)/\Nr y (((ħ (aX A B C+bA A B C) A B C t).2.1:Rat)/S) (1/2^41)/\Nr z (((ħ (aX A B C+bA A B C) A B C t).2.2:Rat)/S) (1/2^41):= by
 have Ke:=hS.pos;have hp:(0:Rat)<(S:Rat):=by exact yc Ke
 have i0:(0:Rat)<=((bA A B C:Int):Rat):=by have:=an.mpr Np;exact_mod_cast this
 have i1:((bA A B C:Int):Rat)<((aX A B C:Int):Rat):=bh.mpr hd;have i2:((aX A B C:Int):Rat)<=(S:Rat):=by have:=an.mpr Nq;exact_mod_cast this
 have eD:((aX A B C-bA A B C:Int):Rat)/(S:Rat)*(S:Rat)=((aX A B C-bA A B C:Int):Rat):=jv (na hp);have hv:=hx.lv;have w1:=hx.w1;have w2:=hx.w2;refine É hx.hue λn Vm Vn=>?_;generalize ((aX A B C-bA A B C:Int):Rat)/(S:Rat)=δ at*;have eD':=eD;rw[vf] at eD';have v0:0<=R v:=eC hp (by exact O hv (O (en ..) (Ï (.l .n0 .a) [.l .n0 .b,.t .b .a] rfl i0 i1)));have v1:R v<=1:=eC hp (by exact O hv (O (my ..) i2));have d0:0<δ:=eg (c:=(S:Rat)) (by exact O eD' (O (en ..) (Ï (.t .n0 .ka) [.t .b .a] rfl i1))) (av hp);have d1:δ<=1:=eC hp (by exact O eD' (O (my ..) (Ø (.l .ka .c) [.l .n0 .b,.l .a .c] rfl i0 i2)));refine É (X9 (F:=F) fh hx.fv hx.fs h0 h1 v0 v1 d0 d1 hx.s0 hx.s1 w1 w2) λl hl zt=>?_;refine kL zt λu m' u0 u1 hh u2 u3=>?_;clear zt;refine cH (C8 (S:=S) Ke hd (t:=t) (n:=R v-δ) (δ:=δ) (e:=1/2^41-32/2^54) (m:=m+m'+n) (ĉ (.e (.M .ka .c) .d) [.e (.M .a .c) .e,.e (.S .e .d) .kq] rfl hv eD'.symm) eD d1 hh u0 u1 (å (.l .n0 (.S (.D .n1 (.P .n2 41)) .kG)) [] rfl) (å (.l (.S (.D .n1 (.P .n2 41)) .kG) .kB) [] rfl) (by push_cast;exact Ę [_,_,_,_,_,_,_,_,_] (.l (.S (.S .kb (.M .n6 (.A (.A .c .d) .e))) (.S (.D .n1 (.P .n2 41)) .kG)) .f) [.l .g (.D .n1 (.P .n2 42)),.l (.S (.S (.A (.M .n6 .h) .b) (.M .n6 .c)) .g) (.M .n6 .i),.l (.S (.S .a (.M .n6 .e)) .kz) (.M .n6 .h),.l (.S (.S (.M .n6 .i) (.M .n6 .d)) (.E 1024)) .f] rfl e1 k0 Vm u2) (by push_cast;exact Ę [_,_,_,_,_,_,_,_,_] (.l .a (.A (.S .kH (.M .n6 (.A (.A .d .e) .f))) (.S (.D .n1 (.P .n2 41)) .kG))) [.l .g (.D .n1 (.P .n2 42)),.l (.M .n6 .h) (.A (.S (.A (.M .n6 .i) .c) (.M .n6 .d)) .g),.l (.M .n6 .i) (.A (.S .b (.M .n6 .f)) .kz),.l .a (.A (.S (.M .n6 .h) (.M .n6 .e)) (.E 1024))] rfl e1 k1 Vn u3)) λx y z aT Kg Mv Nb=>?_;subst aT;have e3:(32/2^54+(1/2^41-32/2^54):Rat)=1/2^41:=by exact å (.e (.A .kG (.S (.D .n1 (.P .n2 41)) .kG)) (.D .n1 (.P .n2 41))) [] rfl
 rw[e3] at Kg Mv Nb;exact(dH x y z hl Kg Mv Nb)
structure Hls (S:Nat) (A B C:Int) (h l s:UInt64):Prop where
 fh:È h
 fl:È l
 fs:È s
 lv:R l=(((aX A B C:Int):Rat)/(S:Rat)+((bA A B C:Int):Rat)/(S:Rat))/2
 h0:0<=R h
 h1:R h<=1+1/2^52
 hue:∃n:Int,jN A B C-6*n-1/2^49<=6*R h/\6*R h<=jN A B C-6*n+1/2^49
 s0:0<R s
 s1:R s<=1+1/2^54
 w:(R l<=1/2/\(((aX A B C:Int):Rat)/(S:Rat)-((bA A B C:Int):Rat)/(S:Rat))/2-1/2^54<=R l*R s/\R l*R s<=(((aX A B C:Int):Rat)/(S:Rat)-((bA A B C:Int):Rat)/(S:Rat))/2+1/2^54)\/
  (1/2<R l/\(((aX A B C:Int):Rat)/(S:Rat)-((bA A B C:Int):Rat)/(S:Rat))/2-1/2^54<=(1-R l)*R s/\(1-R l)*R s<=(((aX A B C:Int):Rat)/(S:Rat)-((bA A B C:Int):Rat)/(S:Rat))/2+1/2^54)
section
variable{S:Nat}{r g b:UInt64}{A B C:Int}{F:Fn}
def m9 :Prop:=∀(hS:Sc S) (It:S<=2^50) (hr:Gr S r A) (hg:Gr S g B) (hb:Gr S b C) (hA:0<=A/\A<=S) (hB:0<=B/\B<=S) (hC:0<=C/\C<=S) (hd:bA A B C<aX A B C),∃l s,e9 F Co.bW [.flt r,.flt g,.flt b]=some (.tup [.flt (kK r g b),.flt l,.flt s])/\Hls S A B C (kK r g b) l s
def aS:=gX (bH (a7 (a7 (a7 @m9))))
def ò:=aS.1.1.1.1.1.1.1
def gI:=aS.1.1.1.1.1.1.2
def gJ:=aS.1.1.1.1.1.2
def gK:=aS.1.1.1.1.2
theorem KC:@m9 ò gI gJ gK aS.1.1.1.2 aS.1.1.2 aS.1.2 aS.2:= by
 intro hS It hr hg hb hA hB hC hd;have gM:=wJ hS hr hg hb;have gN:=wK hS hr hg hb;refine bE (fQ aS.1.1.1.2 aS.1.1.2 aS.1.2) λm1 m2 m3 m4=>?_;refine bE (eY aS.1.1.1.2 aS.1.1.2 aS.1.2) λn1 n2 n3 n4=>?_;have hM:aX aS.1.1.1.2 aS.1.1.2 aS.1.2<=(ò:Int):=m4.elim (λe=>aw (co e) hA.2) λh=>h.elim (λe=>aw (co e) hB.2) λe=>aw (co e) hC.2;have hN:0<=bA aS.1.1.1.2 aS.1.1.2 aS.1.2:=n4.elim (λe=>aw hA.1 (co e.symm)) λh=>h.elim (λe=>aw hB.1 (co e.symm)) λe=>aw hC.1 (co e.symm);clear m1 m2 m3 m4 n1 n2 n3 n4;have gD:=jM hS gM gN (ý [_,_] [_,_] (.x .q .ki) [.x .r .kp,.l .a .r,.l .n0 .b,.e .q .ka] rfl It hM hN (aq (ī [_,_] (.l .n0 .ka) [.t .b .a] rfl hd)));have Nf:Ĕ (ó gI gJ gK) (á gI gJ gK)=false:=by refine O (m8 hS gN gM) ?_;simp;exact ni (hd)
 have zD:bz (ab (á gI gJ gK) (ó gI gJ gK))=false:=by refine O (rF hS gD) ?_;simp;exact ez (Ğ (.t .n0 .ka) [.t .b .a] rfl hd)
 refine bE (FO hS hr hg hb ⟨hA.1,by exact ý [_] [_] (.l .a .kp) [.x .q .kp,.l .a .q] rfl It hA.2⟩ ⟨hB.1,by exact ý [_] [_] (.l .a .kp) [.x .q .kp,.l .a .q] rfl It hB.2⟩ ⟨hC.1,by exact ý [_] [_] (.l .a .kp) [.x .q .kp,.l .a .q] rfl It hC.2⟩ hd) λf1 f2 f3 f4=>?_;obtain⟨⟨Lk,Vo⟩,z1',z2',s1,s2,s3,s4⟩:=Z0 hS gM gN (by omega) hd (by omega) (ý [_,_] [_] (.t .kb (.M .n2 .q)) [.t .b .a,.L 2 .a .q] rfl hd hM) It;refine(mL _ _ (X2 Nf zD (λIr=>z1' (by rw[P7 Lk lh.1,lh.2] at Ir;simpa using Ir)) (λ_=>z2')) ?_);have hp:(0:Rat)<(ò:Rat):=by have:=hS.pos;exact yc this
 have eM:R (á gI gJ gK)=((aX aS.1.1.1.2 aS.1.1.2 aS.1.2:Int):Rat)/(ò:Rat):= by
  refine f9 hp ?_;exact O gM.2 ((jv (na hp)).symm)
 have eN:R (ó gI gJ gK)=((bA aS.1.1.1.2 aS.1.1.2 aS.1.2:Int):Rat)/(ò:Rat):= by
  refine f9 hp ?_;exact O gN.2 ((jv (na hp)).symm)
 rw[<-Vo] at s4;rw[eM,eN] at Vo s4;exact⟨f1,Lk,s1,Vo,f2,f3,f4,s2,s3,s4⟩
theorem QC:@m9 S r g b A B C F:=iA (bH (a7 (a7 (a7 @m9)))) (((((((S,r),g),b),A),B),C),F) KC
theorem QD (hS:Sc S) (hr:Gr S r A) (hg:Gr S g A) (hb:Gr S b A) (hA:0<=A/\A<=2^50):
  ∃v,e9 F Co.bW [.flt r,.flt g,.flt b]=some (.tup [.flt 0,.flt v,.flt 0])/\Gr S v A:= by
 have gM:=wJ hS hr hg hb;have gN:=wK hS hr hg hb;have e1:aX A A A=A:=by unfold aX;simp
 have e2:bA A A A=A:=by unfold bA;trivial
 rw[e1] at gM;rw[e2] at gN;refine(Õ _ (X1 (by refine O (m8 hS gN gM) ?_;simp)) ?_);have gS:=PW hS gM gN (ý [_] [_] (.x .q .ki) [.L 2 .a .kp,.e .q (.A .a .a)] rfl hA.2 (aq (ī [_] (.l .n0 (.A .a .a)) [.L 2 .n0 .a] rfl hA.1)));refine xa l2 λt1 t2=>?_;have Ke:=hS.pos;have hp:(0:Rat)<(S:Rat):=by exact yc Ke
 have h0:((0:Int):Rat)<=((A+A:Int):Rat):=an.mpr (Ű (.l .n0 (.A .a .a)) [.L 2 .n0 .a] rfl hA.1);have h00:((0:Int):Rat)=0:=rfl;have hA2:((A+A:Int):Rat)<=((2^51:Int):Rat):=an.mpr (Ű (.l (.A .a .a) (.P .n2 51)) [.L 2 .a .kp] rfl hA.2);rw[mm] at hA2;have h2:((2:Int):Rat)=2:=rfl;have Jm:0<=R (add (á r g b) (ó r g b)):=eC hp (by exact O gS.2 (O (en ..) (Ï (.l .n0 .a) [.l .b .a,.e .n0 .b] rfl h0 h00.symm)));have hb1:R (add (á r g b) (ó r g b))<=2^52:=jI Ke (å (.l .n0 (.P .n2 52)) [] rfl) (by refine O gS.2 ?_;grind);have gS2:=gS.2;refine bE (C3 gS.1 t1 (by exact O t2 (å (.t .n0 .n2) [] rfl)) (M:=2^53) ⟨53,by decide,rfl⟩ (by refine O t2 ?_;push_cast;exact Æ (.l (.G (.M (.N 9007199254740992) .n2)) .a) [.l .n0 .a] rfl Jm) (by refine O t2 ?_;push_cast;exact Æ (.l .a (.M (.N 9007199254740992) .n2)) [.l .a (.P .n2 52)] rfl hb1)) λq1 aT Gq q4=>?_;clear aT;clear Gq;rw[t2] at q4;have Xl:R (add (á r g b) (ó r g b))/2*(S:Rat)=(A:Rat):=by push_cast at gS2;exact Ø (.U 2 (.M (.D .a .n2) .b) .c) [.e .kd (.A .c .c)] rfl gS2
 exact⟨q1,by exact O (q4 (hS.dy Xl (ý [_] [_] (.x .q .ki) [.l .a .kp,.e .q .a] rfl hA.2 (aq (ī [_] (.l .n0 .a) [.l .n0 .a] rfl hA.1))))) Xl⟩
end
theorem QE{S:Nat}{A B C:Int}{h h' l s:UInt64}{t k:Nat}{F:Fn}{e:Rat}{m:Int}(hF:∀m1 m2 u:UInt64,F k [.flt m1,.flt m2,.flt u]=some (.flt (vF m1 m2 (ca u one).2)))
  (hS:Sc S) (hx:Hls S A B C h l s) (hd:bA A B C<aX A B C) (Np:0<=bA A B C) (Nq:aX A B C<=S)
  (fh:È h') (h0:-1<=R h') (h1:R h'<=2) (e0:0<=e) (e1:e<=1/2^42) (k0:6*R h+(t:Rat)-6*m-e<=6*R h') (k1:6*R h'<=6*R h+(t:Rat)-6*m+e):
  ∃x y z:UInt64,e9 F (Co.bS k) [.flt h',.flt l,.flt s]=some (.tup [.flt x,.flt y,.flt z])/\
   Nr x (((ħ (aX A B C+bA A B C) A B C t).1:Rat)/S) (1/2^40)/\Nr y (((ħ (aX A B C+bA A B C) A B C t).2.1:Rat)/S) (1/2^40)/\Nr z (((ħ (aX A B C+bA A B C) A B C t).2.2:Rat)/S) (1/2^40):= by
 have Ke:=hS.pos;have hp:(0:Rat)<(S:Rat):=by exact yc Ke
 have i0:(0:Rat)<=((bA A B C:Int):Rat):=by have:=an.mpr Np;exact_mod_cast this
 have i1:((bA A B C:Int):Rat)<((aX A B C:Int):Rat):=bh.mpr hd;have i2:((aX A B C:Int):Rat)<=(S:Rat):=by have:=an.mpr Nq;exact_mod_cast this
 have eM:((aX A B C:Int):Rat)/(S:Rat)*(S:Rat)=((aX A B C:Int):Rat):=ģ (by assumption);have eN:((bA A B C:Int):Rat)/(S:Rat)*(S:Rat)=((bA A B C:Int):Rat):=ģ (by assumption);have hv:=hx.lv;have w:=hx.w;refine É hx.hue λn Vm Vn=>?_;generalize ((aX A B C:Int):Rat)/(S:Rat)=μ at*;generalize ((bA A B C:Int):Rat)/(S:Rat)=ν at*;have n0:0<=ν:=eC hp (by exact O eN (O (en ..) i0));have m1:μ<=1:=eC hp (by exact O eM (O (my ..) i2));have nm:ν<μ:=eg (c:=(S:Rat)) (by exact O eM (O eN i1)) (av hp);refine É (YC (δ:=μ-ν) hF fh h0 h1 hx.fl hx.fs (Ø (.l .n0 (.S .a (.D .kx .n2))) [.e (.D .kH .n2) .a,.l .n0 .c] rfl hv.symm n0) (Ø (.l (.A .a (.D .kx .n2)) .n1) [.e .a (.D .kH .n2),.l .b .n1] rfl hv m1) (Ï (.t .n0 .ka) [.t .b .a] rfl nm) hx.s0 hx.s1 w) λc hl zt=>?_;refine kL zt λu m' u0 u1 hh u2 u3=>?_;clear zt;refine cH (C8 (S:=S) Ke hd (t:=t) (n:=R l-(μ-ν)/2) (δ:=μ-ν) (e:=1/2^40-4096/2^54) (m:=m+m'+n) (by grind) (by push_cast;exact ĉ (.e (.M .ka .c) (.S .d .e)) [.e (.M .a .c) .d,.e .e .kq] rfl eM eN.symm) (Ï (.l .ka .n1) [.l .n0 .b,.l .a .n1] rfl n0 m1) hh u0 u1 (å (.l .n0 (.S (.D .n1 .kw) (.E 4096))) [] rfl) (å (.l (.S (.D .n1 .kw) (.E 4096)) .kB) [] rfl) (by push_cast;exact Ę [_,_,_,_,_,_,_,_,_] (.l (.S (.S .kb (.M .n6 (.A (.A .c .d) .e))) (.S (.D .n1 .kw) (.E 4096))) .f) [.l .g (.D .n1 (.P .n2 42)),.l (.S (.S (.A (.M .n6 .h) .b) (.M .n6 .c)) .g) (.M .n6 .i),.l (.S (.S .a (.M .n6 .e)) .kz) (.M .n6 .h),.l (.S (.S (.M .n6 .i) (.M .n6 .d)) (.E 1024)) .f] rfl e1 k0 Vm u2) (by push_cast;exact Ę [_,_,_,_,_,_,_,_,_] (.l .a (.A (.S .kH (.M .n6 (.A (.A .d .e) .f))) (.S (.D .n1 .kw) (.E 4096)))) [.l .g (.D .n1 (.P .n2 42)),.l (.M .n6 .h) (.A (.S (.A (.M .n6 .i) .c) (.M .n6 .d)) .g),.l (.M .n6 .i) (.A (.S .b (.M .n6 .f)) .kz),.l .a (.A (.S (.M .n6 .h) (.M .n6 .e)) (.E 1024))] rfl e1 k1 Vn u3)) λx y z aT Kg Mv Nb=>?_;subst aT;have e3:(4096/2^54+(1/2^40-4096/2^54):Rat)=1/2^40:=by exact å (.e (.A (.E 4096) (.S (.D .n1 .kw) (.E 4096))) (.D .n1 .kw)) [] rfl
 rw[e3] at Kg Mv Nb;exact(dH x y z hl Kg Mv Nb)
theorem H6{i:Int}(h:i.natAbs<=2^53):Ļ i=true:= by
 obtain⟨⟨a,m,e,hd⟩,-⟩:=tW h
 delta Ļ nz
 refine O hd ?_;rfl
theorem wO{S:Nat}(hS:1<=S) (It:S<=2^28){x:UInt64}{V:Int}(h0:0<=V) (h1:V<=S) (h:Nr x ((V:Rat)/S) (1/2^40)):
  Ē .int [.flt (add (mul (cu (S:Int)) x) 0x3fe0000000000000)]=some (.int V):= by
 refine Ą h λf a b=>?_;clear h;refine xa (tW (i:=(S:Int)) (en2 (.x .q .ki) [.x .r (.P .n2 28),.e .q .r] rfl It (aq (ean [_] (.l .n0 .q) [] rfl)))) λs1 s2=>?_;have Ke:(1:Rat)<=(S:Rat):=by exact_mod_cast hS
 have hp:(0:Rat)<(S:Rat):=by exact yc Ke
 have Ll:(S:Rat)<=2^28:= by
  have:=oq.mpr It;rw[Rat.natCast_pow] at this
  exact_mod_cast this
 have Lm:(0:Rat)<=(V:Rat):=by have:=an.mpr h0;exact_mod_cast this
 have Xm:(V:Rat)<=(S:Rat):=by have:=an.mpr h1;exact_mod_cast this
 have e1:(V:Rat)/S*S=V:=ģ (by assumption);generalize (V:Rat)/S=q at*;have s3:R (cu (S:Int))=(S:Rat):=by refine O s2 ?_;push_cast;rfl
 have hx:=gf a (av hp);have Kg:=gf b (av hp);have p1:(S:Rat)*R x<=(V:Rat)+1/2^12:=by exact õ (.L 1099511627776 .kd (.A .c (.D .n1 (.P .n2 12)))) [.l .a (.P .n2 28),.U 1099511627776 (.M .d .a) .c,.L 1099511627776 (.M .b .a) (.M (.A .d (.D .n1 .kw)) .a)] rfl Ll e1 Kg
 have p2:(V:Rat)-1/2^12<=(S:Rat)*R x:=by exact õ (.L 1099511627776 (.S .a (.D .n1 (.P .n2 12))) .kq) [.l .b (.P .n2 28),.U 1099511627776 .a (.M .d .b),.L 1099511627776 (.M (.S .d (.D .n1 .kw)) .b) (.M .c .b)] rfl Ll e1.symm hx
 refine bE (l5 s1 f (M:=2^30) ⟨30,by decide,rfl⟩ (by refine O s3 ?_;push_cast;exact Ø (.l (.G (.N 1073741824)) .kd) [.l .n0 .c,.l (.S .c (.D .n1 (.P .n2 12))) .kd] rfl Lm p2) (by refine O s3 ?_;push_cast;exact Ø (.l .kd (.N 1073741824)) [.l .a (.P .n2 28),.l .c .a,.l .kd (.A .c (.D .n1 (.P .n2 12)))] rfl Ll Xm p1)) λm1 m2 m3 aT=>?_;clear aT;rw[s3] at m2 m3;push_cast at m2 m3;refine xa lh λt1 t2=>?_;refine bE (l3 m1 t1 (M:=2^30) ⟨30,by decide,rfl⟩ (by refine O t2 ?_;push_cast;exact õ (.l (.G (.N 1073741824)) (.A .a .kf)) [.l .n0 .b,.l (.S .b (.D .n1 (.P .n2 12))) .kD,.l (.S .kD (.E 1073741824)) .a] rfl Lm p2 m2) (by refine O t2 ?_;push_cast;exact õ (.l (.A .a .kf) (.N 1073741824)) [.l .b (.P .n2 28),.l .c .b,.l (.M .b .d) (.A .c (.D .n1 (.P .n2 12))),.l .a (.A (.M .b .d) (.E 1073741824))] rfl Ll Xm p1 m3)) λc1 c2 c3 aT=>?_;clear aT;rw[t2] at c2 c3;push_cast at c2 c3;exact X8 c1 V h0 (ĉ (.l .a .b) [.l (.S .a (.D .n1 (.P .n2 12))) .kD,.l (.S .kD (.E 1073741824)) .e,.l (.S (.A .e .kf) (.E 1073741824)) .b] rfl p2 m2 c2) (ĉ (.t .a (.A .b .n1)) [.l .kD (.A .b (.D .n1 (.P .n2 12))),.l .e (.A .kD (.E 1073741824)),.l .a (.A (.A .e .kf) (.E 1073741824))] rfl p1 m3 c3)
theorem Z6 (Z A B C:Int):ħ Z A B C 3=(Z-A,Z-B,Z-C):= by
 simp only[Z3,H4];refine sb ?_ (sb ?_ ?_)<;>simp only<;>lia
section
variable{F:Fn}{pe:Å}{src:PI}{e c:PE}{tg:Nat}{À:List PV}
theorem y9 (f:PV->PV):∀(À:List PV),(∀p∈À,ee (st pe tg p)=some (f p))->dK cc ee false tg pe À=some (À.map f)
 |[],_=>rfl
 |p::l,h=>by
  have h1:=h p (ak);have h2:=y9 (cc:=cc) f l λq hq=>h q (by simp[hq]);exact oR h1 h2
theorem rL (f:PV->PV) (b:PV->Bool):∀(À:List PV),(∀p∈À,cc (st pe tg p)=some (.bool (b p))/\(b p=true->ee (st pe tg p)=some (f p)))->dK cc ee true tg pe À=some ((À.filter b).map f)
 |[],_=>rfl
 |p::l,h=>by
  refine xa (h p (ak)) λh0 h1=>?_;have h2:=rL f b l λq hq=>h q (by simp[hq]);cases hb:b p
  ·exact(SH (by rw[h0,hb]) h2).trans (by rw[List.filter_cons_of_neg (by rw[hb];exact oi)])
  ·exact(SI (by rw[h0,hb]) (h1 hb) h2).trans (by rw[List.filter_cons_of_pos hb];rfl)
theorem kI (f:PV->PV) (hs:gZ F src pe=some À) (h:∀p∈À,aB F e (st pe tg p)=some (f p)):aB F (.comp e tg src false c) pe=some (.lst (À.map f)):= by
 simp only[aH,hs,y9 f À h,bm]
theorem tA (f:PV->PV) (b:PV->Bool) (hs:gZ F src pe=some À) (h:∀p∈À,aB F c (st pe tg p)=some (.bool (b p))/\(b p=true->aB F e (st pe tg p)=some (f p))):aB F (.comp e tg src true c) pe=some (.lst ((À.filter b).map f)):= by
 simp only[aH,hs,rL f b À h,bm]
theorem lM (h:aB F a pe=some (.lst l)) (hl:l.length<=100000):gZ F (.val a) pe=some l:= by
 simp only[aH,h,uX,uY,hl,if_true]
theorem QF (h:aB F a pe=some (.tup l)) (hl:l.length<=100000):gZ F (.val a) pe=some l:= by
 simp only[aH,h,uX,uY,hl,if_true]
noncomputable def rng (n:Nat):List PV:=(cw n).map λk:Nat=>PV.int (k:Int)
theorem wP{n:Nat}{a:PE}(h:aB F a pe=some (.int (n:Int))) (hn:n<=100000):gZ F (.rng1 a) pe=some (rng n):= by
 simp only[aH,h]
 delta mO rng
 refine O (if_pos (⟨ů (.t (.G .kw) .n0) [],⟨ů (.t .n0 .kw) [],⟨à (.t (.G .kw) .q) [],⟨à (.t .q .kw) [.x .q .kv] hn,à (.l (.S .q .n0) .kv) [.x .q .kv] hn⟩⟩⟩⟩)) ?_;congr 1;simp
end
noncomputable def a8 (l:List Int):PV:=.lst (l.map .int)
namespace L2
variable{n:Nat}
theorem ft (n k:Nat) (fs:Î) (args:List PV) (h:aP[k]?=some fs):FT aP (n+1) k args=e9 (FT aP n) fs args:= by
 show(match aP[k]? with|some fs=>e9 (FT aP n) fs args|none=>none)=_;exact O h rfl
noncomputable def tB (place cO Gg:Int):Int:=
 cO*(if (if 512-(if 1536-(3*place-Gg)%1536<(3*place-Gg)%1536 then 1536-(3*place-Gg)%1536 else(3*place-Gg)%1536)<256 then 512-(if 1536-(3*place-Gg)%1536<(3*place-Gg)%1536 then 1536-(3*place-Gg)%1536 else(3*place-Gg)%1536) else 256)>0 then
  (if 512-(if 1536-(3*place-Gg)%1536<(3*place-Gg)%1536 then 1536-(3*place-Gg)%1536 else(3*place-Gg)%1536)<256 then 512-(if 1536-(3*place-Gg)%1536<(3*place-Gg)%1536 then 1536-(3*place-Gg)%1536 else(3*place-Gg)%1536) else 256) else 0)
theorem sI (place cO:Int) (hs:nT cO=true):FT aP (n+1) 14 [.int place,.int cO]=some (a8 [tB place cO 0,tB place cO 512,tB place cO 1024]):= by
 refine O (ft n 14 kY _ rfl) ?_;apply kE rfl;show iR (aF _ kY.code [some (.int place),some (.int cO),none,none,none])=_
 delta kY
 have š:∀(Gg:Int) (acc:List PV) (x y:Option PV),acc.length<=10->aF (FT aP n) Qs
   [some (.int place),some (.int cO),some (.lst acc),some (.int Gg),y]=some ([some (.int place),some (.int cO),some (.lst (acc++[.int (tB place cO Gg)])),some (.int Gg),some (.int ((3*place-Gg)%1536))],.next):= by
  intro Gg acc x y ha;refine seq (asg (by rfl)) ?_;simp only[bP,bQ];refine aK ((app (l:=acc) (p:=.int (tB place cO Gg)) rfl ?_ (aa ha (by decide))).trans ?_)
  ·simp only[aH,Ù,l7 cO _ hs];rfl
  ·rfl
 refine bG (asgO (l:=[]) (by rfl)) ?_;simp only[bP,bQ];refine bG (O7 (QF (l:=[.int 0,.int 512,.int 1024]) (by rfl) (by decide)) (dF rfl (š 0 [] none none (by decide)) (dF rfl (š 512 _ none _ (rh _)) (dF rfl (š 1024 _ none _ (by simp)) AP)))) ?_;refine fK ?_;rfl
theorem DA (x:Int):FT aP (n+1) 0 [.int x]=some (.bool (decide (x<256))):= by
 refine O (ft n 0 iI _ rfl) ?_;apply kE rfl;show iR (aF _ iI.code [some (.int x)])=_
 delta iI Co.fG
 exact fK (by rfl)
theorem DB (x:Int):FT aP (n+1) 1 [.int x]=some (.bool (decide (x>=256))):= by
 refine O (ft n 1 eX _ rfl) ?_;apply kE rfl;show iR (aF _ eX.code [some (.int x)])=_
 delta eX Co.fG
 exact fK (by rfl)
theorem H7 (x:Int):FT aP (n+1) 2 [.int x]=some (.bool (x==0)):= by
 refine O (ft n 2 qY _ rfl) ?_;apply kE rfl;show iR (aF _ qY.code [some (.int x)])=_
 delta qY Co.kO
 exact fK (by rfl)
end L2
theorem AX{k d:Int}(hk:1<=k) (hd:0<d) (h:d<=2^17):1/2^17<=(k:Rat)/(d:Rat):= by
 have a0:(0:Rat)<(d:Rat):=by have:=bh.mpr hd;exact_mod_cast this
 have a1:=an.mpr h;have a2:=an.mpr hk;rw[mm] at a1;have a3:(k:Rat)/(d:Rat)*(d:Rat)=(k:Rat):=ģ (by assumption);refine eC a0 ?_;refine O a3 ?_;have:((1:Int):Rat)=1:=rfl;have:((2:Int):Rat)=2:=rfl;grind
section
variable{r g b:UInt64}{A B C:Int}
theorem zA{x y:UInt64}{q:Rat}(hx:È x) (hy:È y) (h0:0<R y) (hq:R x=q*R y) (q0:0<=q) (q1:q<=8) (hd:Dy q):È (div x y)/\R (div x y)=q:= by
 have e:R x/R y=q:=by refine O hq ?_;exact f9 h0 (ģ h0)
 have p:=eo q0 (av h0);have p':=gf q1 (av h0);refine bE (C3 hx hy h0 (M:=8) ⟨3,by decide,rfl⟩ (by push_cast;exact Ø (.l (.G (.M .n8 .a)) .b) [.e (.M .c .a) .b,.L 2 .n0 (.M .c .a),.l (.M .c .a) (.M .n8 .a)] rfl hq.symm p p') (by push_cast;exact Ø (.l .a (.M .n8 .b)) [.e .a (.M .c .b),.l (.M .c .b) (.M .n8 .b)] rfl hq p')) λa aT Gq d=>?_;clear aT;clear Gq;rw[e] at d;exact⟨a,d hd⟩
theorem tC{k d:Int}(hd:0<d):(0:Rat)<(d:Rat)/\(k:Rat)/(d:Rat)*(d:Rat)=(k:Rat):= by
 have a0:(0:Rat)<(d:Rat):=by have:=bh.mpr hd;exact_mod_cast this
 exact⟨a0,ģ a0⟩
theorem QG{a b d:Int}(hd:0<d) (h:a<=b):(a:Rat)/(d:Rat)<=(b:Rat)/(d:Rat):= by
 refine eC (tC (k:=a) hd).1 ?_;exact O ((tC hd).2) (O ((tC hd).2) (an.mpr h))
theorem QH (k d:Int):((-k:Int):Rat)/(d:Rat)=-((k:Rat)/(d:Rat)):=by rw[vh,qg,qg,Bb]
theorem Z7{d:Int}(hd:0<d):(d:Rat)/(d:Rat)=1:=f9 (tC (k:=d) hd).1 ((tC hd).2.trans (my _).symm)
theorem Z8{k d:Int}(hd:0<d) (h:d<=2^17) (hk:k<=d-1):(k:Rat)/(d:Rat)<=1-1/2^17:= by
 have h1:=QG hd hk;have h2:=AX (k:=1) (d:=d) (by decide) hd h;have h3:((d-1:Int):Rat)/(d:Rat)=1-((1:Int):Rat)/(d:Rat):= by
  refine f9 (tC (k:=d) hd).1 ?_;rw[(tC hd).2,ol,xf,Bb,(tC hd).2,my,vf,ol]
 exact Ø (.l .a (.S .n1 .km)) [.l .a .b,.l .km .c,.e .b (.S .n1 .c)] rfl h1 h2 h3
theorem aA3{k d:Int}(hd:0<d) (h:d<=2^17) (hk:1-d<=k):-1+1/2^17<=(k:Rat)/(d:Rat):= by
 have h1:=Z8 (k:=-k) hd h (Ğ (.l (.G .a) (.S .b .n1)) [.l (.S .n1 .b) .a] rfl hk);rw[QH] at h1;exact Æ (.l (.A .kn .km) .a) [.l (.G .a) (.S .n1 .km)] rfl h1
theorem QI{k d:Int}(hd:0<d) (hk:k<=d):(k:Rat)/(d:Rat)<=1:=by have:=QG hd hk;rw[Z7 hd] at this;exact this
theorem V6{k d:Int}(hd:0<d) (hk:-d<=k):-1<=(k:Rat)/(d:Rat):= by
 have h1:=QI (k:=-k) hd (Ğ (.l (.G .a) .b) [.l (.G .b) .a] rfl hk);rw[QH] at h1;exact Æ (.l .kn .a) [.l (.G .a) .n1] rfl h1
theorem KD (hd:bA A B C<aX A B C) (Jv:aX A B C-bA A B C<=2^17) (h:C<B):1/2^17<=jN A B C/\jN A B C<=3-1/2^17:= by
 refine bE (fQ A B C) λm1 m2 m3 m4=>?_;refine bE (eY A B C) λn1 n2 n3 aT=>?_;clear aT;unfold jN;generalize aX A B C=M at*;generalize bA A B C=N at*;have Im:=gp hd
 by_cases hA:A=M
 ·refine O (if_pos hA) ?_;have q1:=AX (k:=B-C) (d:=M-N) (Ğ (.l .n1 .ka) [.t .b .a] rfl h) Im Jv;have q2:=QI (k:=B-C) Im (Ρ (.l .ka (.S .c .d)) [.l .a .c,.l .d .b] rfl m2 n3);exact⟨q1,by exact Æ (.l .a (.S .n3 .km)) [.l .a .n1] rfl q2⟩
 ·have hB:B=M:=m4.elim (λe=>absurd e.symm hA) λe=>e.elim Eq.symm λe=>absurd (iv h m2) (e▸gq _);refine O (if_neg hA) (O (if_pos hB) ?_);have q1:=V6 (k:=C-A) Im (Ρ (.l (.G .ka) (.S .c .d)) [.l .d .a,.l .b .c] rfl m1 n3);have q2:=Z8 (k:=C-A) Im Jv (ez5 (.l .ka (.S (.S .c .d) .n1)) [.t .a .e,.l .e .c,.l .d .b] rfl h m2 n1);exact⟨by exact Æ (.l .km (.A .n2 .a)) [.l .kn .a] rfl q1,by exact Æ (.l (.A .n2 .a) (.S .n3 .km)) [.l .a (.S .n1 .km)] rfl q2⟩
theorem FR (hd:bA A B C<aX A B C) (Jv:aX A B C-bA A B C<=2^17) (h:B<C):(-1<=jN A B C/\jN A B C<=-(1/2^17))\/(3+1/2^17<=jN A B C/\jN A B C<=5):= by
 refine bE (fQ A B C) λm1 m2 m3 m4=>?_;refine bE (eY A B C) λn1 n2 n3 aT=>?_;clear aT;unfold jN;generalize aX A B C=M at*;generalize bA A B C=N at*;have Im:=gp hd
 by_cases hA:A=M
 ·refine O (if_pos hA) ?_;have q1:=V6 (k:=B-C) Im (Ρ (.l (.G .ka) (.S .c .d)) [.l .d .a,.l .b .c] rfl m3 n2);have q2:=AX (k:=-(B-C)) (d:=M-N) (Ğ (.l .n1 (.G .ka)) [.t .a .b] rfl h) Im Jv;rw[QH] at q2;exact .inl ⟨q1,by exact Æ (.l .a (.G .km)) [.l .km (.G .a)] rfl q2⟩
 ·have hB:B≠M:=by exact ni (iv h m3)
  refine O (if_neg hA) (O (if_neg hB) ?_);have q1:=aA3 (k:=A-B) Im Jv (ez5 (.l (.S .n1 .ka) (.S .c .d)) [.t .d .e,.l .e .a,.l .b .c] rfl h m3 n1);have q2:=QI (k:=A-B) Im (Ρ (.l .ka (.S .c .d)) [.l .a .c,.l .d .b] rfl m1 n2);exact .inr ⟨by exact Æ (.l (.A .n3 .km) (.A .n4 .a)) [.l (.A .kn .km) .a] rfl q1,by exact Æ (.l (.A .n4 .a) .n5) [.l .a .n1] rfl q2⟩
theorem QJ{q x:Rat}{n:Int}(q0:1/2^17<=q) (q1:q<=5) (x0:0<=x) (x1:x<=1+1/2^52) (f4:q-6*n-1/2^49<=6*x) (f5:6*x<=q-6*n+1/2^49):n=0:= by
 have k0:n<1:=gH (by push_cast;exact Ø (.T 6 .a .n1) [.l .b .n5,.L 6 .n0 .c,.l (.M .n6 .c) (.A (.S .b .kg) .kz)] rfl q1 x0 f5);have k1:-1<n:=gH (by push_cast;exact Ø (.T 6 .kn .a) [.l .km .b,.L 6 .c .kh,.l (.S (.S .b .kg) .kz) (.M .n6 .c)] rfl q0 x1 f4);exact cb (Ű (.l .a .n0) [.t .a .n1] rfl k0) (Ű (.l .n0 .a) [.t .kn .a] rfl k1)
theorem Z9{q x:Rat}{n:Int}(q0:-1<=q) (q1:q<=-(1/2^17)) (x0:0<=x) (x1:x<=1+1/2^52) (f4:q-6*n-1/2^49<=6*x) (f5:6*x<=q-6*n+1/2^49):n=-1:= by
 have k0:n<0:=gH (by push_cast;exact Ø (.T 6 .a .n0) [.l .b (.G .km),.L 6 .n0 .c,.l (.M .n6 .c) (.A (.S .b .kg) .kz)] rfl q1 x0 f5);have k1:-2<n:=gH (by push_cast;exact Ø (.T 6 (.G .n2) .a) [.l .kn .b,.L 6 .c .kh,.l (.S (.S .b .kg) .kz) (.M .n6 .c)] rfl q0 x1 f4);exact cb (Ű (.l .a .kn) [.t .a .n0] rfl k0) (Ű (.l .kn .a) [.t (.G .n2) .a] rfl k1)
theorem b50{a:Int}(h:0<=a/\a<=2^17):0<=a/\a<=2^50:=⟨h.1,aw h.2 (by decide)⟩
def nA :Prop:=∀(hr:Gr (2^17) r A) (hg:Gr (2^17) g B) (hA:0<=A/\A<=2^17) (hB:0<=B/\B<=2^17) (hd:bA A B B<aX A B B) (Kf:B<=A),R (kK r g g)=0
def cZ:=gX (a7 (a7 (a7 @nA)))
def cK:=cZ.1.1.1
def aR:=cZ.1.1.2
theorem KF:@nA cK aR cZ.1.2 cZ.2:= by
 intro hr hg hA hB hd Kf;have hS:Sc (2^17):=⟨17,by decide,rfl⟩;have gM:=wJ hS hr hg hg;have gN:=wK hS hr hg hg;refine xa l6 λs1 s2=>?_;have Sv:aX cZ.1.2 cZ.2 cZ.2=cZ.1.2:=AU (ie _) Kf Kf (.inl rfl);refine bE (eY cZ.1.2 cZ.2 cZ.2) λn1 n2 n3 n4=>?_;unfold kK;have e6:mA cK aR aR (á cK aR aR) (ab (á cK aR aR) (ó cK aR aR))=ab (div (ab (á cK aR aR) aR) (ab (á cK aR aR) (ó cK aR aR))) (div (ab (á cK aR aR) aR) (ab (á cK aR aR) (ó cK aR aR))):= by
  unfold mA;exact O (m8 hS hr gM) (O (if_pos (by simp;exact cb (co Sv.symm) (co Sv))) rfl)
 refine O e6 ?_;have gD:=jM hS gM gN (y5 (bt (de hd)) (V2 hA hB hB) (by decide));have gg:=jM hS gM hg (ý [_,_,_] [_] (.x .q .ki) [.l .a (.P .n2 17),.l .n0 .b,.e .c .a,.e .q (.S .c .b)] rfl hA.2 hB.1 Sv (aq (ī [_,_,_] (.l .n0 .ka) [.l .b .c,.e .c .a] rfl Kf Sv.symm)));refine bE (qE hS gg gD (π (.l .n0 .ka) [.l .b .c,.e .c .a] rfl Kf Sv.symm) (π (.l .ka (.S .a .c)) [.l .c .b] rfl n2) (Ğ (.t .n0 .ka) [.t .b .a] rfl hd)) λd1 d2 d3 aT=>?_;clear aT;generalize div (ab (á cK aR aR) aR) (ab (á cK aR aR) (ó cK aR aR))=z at*;refine bE (jP d1 d1 (M:=1) ⟨0,by decide,rfl⟩ (by push_cast;exact Æ (.l .kn (.S .a .a)) [] rfl) (by push_cast;exact Æ (.l (.S .a .a) .n1) [] rfl)) λa1 aT Gq a4=>?_;clear aT;clear Gq;have a5:=a4 (cC 0 0 (by decide) (by decide) (by push_cast;exact Æ (.e (.M (.S .a .a) .n1) .n0) [] rfl));have a6:R (ab z z)=0:=by exact O a5 (Æ (.e (.S .a .a) .n0) [] rfl)
 refine xa (zA (q:=0) a1 s1 (by exact O s2 (å (.t .n0 .n6) [] rfl)) (by refine O a6 ?_;exact Æ (.e .n0 (.M .n0 .a)) [] rfl) (ei) (å (.l .n0 .n8) [] rfl) (cC 0 0 (by decide) (by decide) (by push_cast;exact å (.e (.M .n0 .n1) .n0) [] rfl))) λb1 b2=>?_;refine lO (oW b1) λc1 c2 k c3 c4 c5 c6 c7=>?_;refine O (c7 (by rw[b2];exact ei)) (O b2 ?_);rw[b2] at c5 c6;have k0:k<1:=gH (by push_cast;exact Æ (.t .a .n1) [.l .n0 (.S .n0 .a)] rfl c5);have k1:-1<k:=gH (by push_cast;exact Æ (.t .kn .a) [.t (.S .n0 .a) .n1] rfl c6);have:k=0:=by exact cb (Ű (.l .a .n0) [.t .a .n1] rfl k0) (Ű (.l .n0 .a) [.t .kn .a] rfl k1)
 subst this;push_cast;exact å (.e (.S .n0 .n0) .n0) [] rfl
theorem QK:@nA r g A B:=iA (a7 (a7 (a7 @nA))) (((r,g),A),B) KF
def nB :Prop:=∀(hr:Gr (2^17) r A) (hg:Gr (2^17) g B) (hA:0<=A/\A<=2^17) (hB:0<=B/\B<=2^17) (Kf:¬B<=A),R (kK r g g)=1/2
def cB:=gX (a7 (a7 (a7 @nB)))
def bK:=cB.1.1.1
def aM:=cB.1.1.2
theorem KG:@nB bK aM cB.1.2 cB.2:= by
 intro hr hg hA hB Kf;have hS:Sc (2^17):=⟨17,by decide,rfl⟩;have gM:=wJ hS hr hg hg;have gN:=wK hS hr hg hg;refine xa l6 λs1 s2=>?_;have Pn:cB.1.2<=cB.2:=de (mu.mp Kf);have Lb:aX cB.1.2 cB.2 cB.2=cB.2:=AU Pn (ie _) (ie _) (.inr (.inl rfl));have Po:bA cB.1.2 cB.2 cB.2=cB.1.2:=HY (ie _) Pn Pn (.inl rfl);unfold kK;have e6:mA bK aM aM (á bK aM aM) (ab (á bK aM aM) (ó bK aM aM))=ab (add 0x4000000000000000 (div (ab (á bK aM aM) bK) (ab (á bK aM aM) (ó bK aM aM)))) (div (ab (á bK aM aM) aM) (ab (á bK aM aM) (ó bK aM aM))):= by
  unfold mA;exact O (m8 hS hr gM) (O (m8 hS hg gM) (O (if_neg (by simp;exact ni (π (.t .a .b) [.t .a .c,.e .c .b] rfl (mu.mp Kf) Lb.symm))) (O (if_pos (by simp;exact cb (co Lb.symm) (co Lb))) rfl)))
 refine O e6 ?_;have gD:=jM hS gM gN (ý [_,_,_,_] [_] (.x .q .ki) [.l .n0 .a,.l .b (.P .n2 17),.e .c .b,.e .a .d,.e .q (.S .c .d)] rfl hA.1 hB.2 Lb Po.symm (aq (ī [_,_,_,_] (.l .n0 .ka) [.l .c .d,.e .d .a,.e .b .c] rfl Pn Lb.symm Po)));have gg:=jM hS gM hg (ý [_,_] [_] (.x .q .ki) [.e .a .b,.e .q .ka] rfl Lb (aq (ī [_,_] (.l .n0 .ka) [.e .b .a] rfl Lb.symm)));have gr':=jM hS gM hr (ý [_,_,_] [_] (.x .q .ki) [.l .n0 .a,.l .b (.P .n2 17),.e .c .b,.e .q (.S .c .a)] rfl hA.1 hB.2 Lb (aq (ī [_,_,_] (.l .n0 .ka) [.l .b .c,.e .c .a] rfl Pn Lb.symm)));refine jB (qE hS gg gD (Ğ (.l .n0 .ka) [.e .b .a] rfl Lb.symm) (Ρ (.l .ka (.S .a .c)) [.l .d .b,.e .c .d] rfl Pn Po) (Ρ (.t .n0 .ka) [.t .c .d,.e .d .a,.e .b .c] rfl (mu.mp Kf) Lb.symm Po)) λd1 aT Gq d4 zq2=>?_;clear aT;clear Gq;clear zq2;refine jB (qE hS gr' gD (π (.l .n0 .ka) [.l .b .c,.e .c .a] rfl Pn Lb.symm) (π (.l .ka (.S .a .c)) [.e .c .b] rfl Po) (Ρ (.t .n0 .ka) [.t .c .d,.e .d .a,.e .b .c] rfl (mu.mp Kf) Lb.symm Po)) λe1 aT Gq zq2 e5=>?_;clear aT;clear Gq;clear zq2;have d5:=d4 (Ğ (.e .ka .n0) [.e .a .b] rfl Lb);have ey:=e5 (π (.e .ka (.S .a .c)) [.e .c .b] rfl Po);generalize div (ab (á bK aM aM) aM) (ab (á bK aM aM) (ó bK aM aM))=z at*;generalize div (ab (á bK aM aM) bK) (ab (á bK aM aM) (ó bK aM aM))=y at*;refine xa l2 λt1 t2=>?_;refine bE (l3 t1 e1 (M:=4) ⟨2,by decide,rfl⟩ (by refine O t2 (O ey ?_);push_cast;exact å (.l (.G .n4) (.A .n2 .n1)) [] rfl) (by refine O t2 (O ey ?_);push_cast;exact å (.l (.A .n2 .n1) .n4) [] rfl)) λa1 aT Gq a4=>?_;clear aT;clear Gq;have a5:R (add 0x4000000000000000 y)=3:= by
  refine O (a4 (cC 3 0 (by decide) (by decide) (by rw[t2,ey];push_cast;exact å (.e (.M (.A .n2 .n1) .n1) .n3) [] rfl))) (O t2 (O ey ?_));exact å (.e (.A .n2 .n1) .n3) [] rfl
 refine bE (jP a1 d1 (M:=4) ⟨2,by decide,rfl⟩ (by refine O a5 (O d5 ?_);push_cast;exact å (.l (.G .n4) (.S .n3 .n0)) [] rfl) (by refine O a5 (O d5 ?_);push_cast;exact å (.l (.S .n3 .n0) .n4) [] rfl)) λb1 aT Gq b4=>?_;clear aT;clear Gq;have b5:R (ab (add 0x4000000000000000 y) z)=3:= by
  refine O (b4 (cC 3 0 (by decide) (by decide) (by rw[a5,d5];push_cast;exact å (.e (.M (.S .n3 .n0) .n1) .n3) [] rfl))) (O a5 (O d5 ?_));exact å (.e (.S .n3 .n0) .n3) [] rfl
 refine xa (zA (q:=1/2) b1 s1 (by exact O s2 (å (.t .n0 .n6) [] rfl)) (by refine O b5 (O s2 ?_);exact å (.e .n3 (.M .kf .n6)) [] rfl) (å (.l .n0 .kf) [] rfl) (å (.l .kf .n8) [] rfl) (cC 1 1 (by decide) (by decide) (by push_cast;exact å (.e (.M .kf .n2) .n1) [] rfl))) λc1 c2=>?_;refine lO (oW c1) λg1 g2 k g3 g4 g5 g6 g7=>?_;refine O (g7 (by rw[c2];exact å (.l .n0 .kf) [] rfl)) (O c2 ?_);rw[c2] at g5 g6;have k0:k<1:=gH (by push_cast;exact Æ (.t .a .n1) [.l .n0 (.S .kf .a)] rfl g5);have k1:-1<k:=gH (by push_cast;exact Æ (.t .kn .a) [.t (.S .kf .a) .n1] rfl g6);have:k=0:=by exact cb (Ű (.l .a .n0) [.t .a .n1] rfl k0) (Ű (.l .n0 .a) [.t .kn .a] rfl k1)
 subst this;push_cast;exact å (.e (.S .kf .n0) .kf) [] rfl
theorem QL:@nB r g A B:=iA (a7 (a7 (a7 @nB))) (((r,g),A),B) KG
theorem QM (hr:Gr (2^17) r A) (hg:Gr (2^17) g B) (hb:Gr (2^17) b C) (hA:0<=A/\A<=2^17) (hB:0<=B/\B<=2^17) (hC:0<=C/\C<=2^17) (hd:bA A B C<aX A B C) (hgb:B=C->g=b):
  È (kK r g b)/\((C<B\/(B=C/\B<=A))->0<=R (kK r g b)/\R (kK r g b)<=1/2-1/2^21)/\(¬(C<B\/(B=C/\B<=A))->R (kK r g b)=1/2\/(1/2+1/2^21<=R (kK r g b)/\R (kK r g b)<=2)):= by
 have hS:Sc (2^17):=⟨17,by decide,rfl⟩;refine bE (FO hS hr hg hb (b50 hA) (b50 hB) (b50 hC) hd) λf1 f2 f3 zt=>?_;refine É zt λn f4 f5=>?_;clear zt;have Jv:=V2 hA hB hC;refine⟨f1,?_⟩
 by_cases Tu:B=C
 ·cases hgb Tu;subst Tu
  by_cases Kf:B<=A
  ·exact⟨λ_=>by refine O (QK hr hg hA hB hd Kf) ?_;exact⟨ei,å (.l .n0 (.S .kf (.D .n1 (.P .n2 21)))) [] rfl⟩,λh=>absurd (.inr ⟨rfl,Kf⟩) h⟩
  ·exact⟨λh=>h.elim (λh=>absurd h (gq _)) λh=>absurd h.2 Kf,λ_=>.inl (QL hr hg hA hB Kf)⟩
 ·by_cases Tv:C<B
  ·refine⟨λ_=>⟨f2,?_⟩,λh=>absurd (.inl Tv) h⟩;refine xa (KD hd Jv Tv) λq1 q2=>?_;have:=QJ q1 (by clear f4 f5;exact Æ (.l .a .n5) [.l .a (.S .n3 .km)] rfl q2) f2 f3 f4 f5;subst this;push_cast at f5;exact Ï (.L 6 .a (.S .kf (.D .n1 (.P .n2 21)))) [.l .b (.S .n3 .km),.l .kg (.A (.S .b .kJ) .kz)] rfl q2 f5
  ·refine⟨λh=>h.elim (λh=>absurd h Tv) λh=>absurd h.1 Tu,λ_=>.inr ?_⟩;rcases FR hd Jv (Int.lt_iff_le_and_ne.mpr ⟨dt.mp Tv,Tu⟩) with⟨q1,q2⟩|⟨q1,q2⟩
   ·have:=Z9 q1 q2 f2 f3 f4 f5;subst this;push_cast at f4;exact⟨by clear f5 q2 f2 f3;exact Ï (.L 6 (.A .kf (.D .n1 (.P .n2 21))) .a) [.l .kn .b,.l (.S (.S .b (.M .n6 .kn)) .kz) .kg] rfl q1 f4,by clear f4 f5 q1 q2;exact Æ (.l .a .n2) [.l .a .kh] rfl f3⟩
   ·have:=QJ (by clear f4 f5;exact Æ (.l .km .a) [.l (.A .n3 .km) .a] rfl q1) q2 f2 f3 f4 f5;subst this;push_cast at f4;exact⟨by clear f5 q2 f2 f3;exact Ï (.L 6 (.A .kf (.D .n1 (.P .n2 21))) .a) [.l (.A .n3 .km) .b,.l (.S (.S .b .kJ) .kz) .kg] rfl q1 f4,by clear f4 f5 q1 q2;exact Æ (.l .a .n2) [.l .a .kh] rfl f3⟩
end
theorem tK (h:x.natAbs<=2^53):Gr (2^17) (fq x 131072) x:=Z4 (S:=2^17) ⟨17,by decide,rfl⟩ h
theorem QN:fD .Pow (.int 2) (.int 17)=some (.int 131072):=by refine O (v9 _ _ (by decide)) ?_;rfl
def Ó (b:Bool):PV:=.str (sx [if b then 62 else 60])
theorem U4 (a b:Bool):cD .Eq (.bool a) (.bool b)=some (a==b):=rfl
namespace L2
variable{n:Nat}
theorem aAA (n:Nat) (args:List PV):FT aP (n+1) 6 args=e9 (FT aP n) Co.bX args:=ft n 6 bX args rfl
theorem aAB (n:Nat) (args:List PV):FT aP (n+1) 7 args=e9 (FT aP n) Co.bT args:=ft n 7 bT args rfl
theorem aA4 (n:Nat) (args:List PV):FT aP (n+1) 3 args=e9 (FT aP n) Co.bW args:=ft n 3 bW args rfl
theorem aAC (n:Nat) (args:List PV):FT aP (n+1) 4 args=e9 (FT aP n) (Co.bS 5) args:=ft n 4 bS args rfl
theorem vc (n:Nat) (m1 m2 u:UInt64):FT aP (n+1) 5 [.flt m1,.flt m2,.flt u]=some (.flt (vF m1 m2 (ca u one).2)):= by
 exact O (ft n 5 f_v _ rfl) ZW
noncomputable def iM (a b c:Int):Bool:=decide (c<b\/(b=c/\b<=a))
theorem KH (fh:È h) (b:Bool) (hb:b=true->0<=R h/\R h<=1/2-1/2^21) (Ho:b=false->R h=1/2\/(1/2+1/2^21<=R h/\R h<=2)):
  ∃p:Int,Ē .int [.flt (mul (cu 512) h)]=some (.int p)/\(decide (p<256))=b:= by
 refine xa (tW (i:=512) (by decide)) λs1 s2=>?_;have s3:R (cu 512)=512:=by refine O s2 ?_;rfl
 have h0:0<=R h:= by
  cases b
  ·rcases Ho rfl with h|⟨h,-⟩
   ·exact O h (ĺ (.l .n0 .kf) [])
   ·exact ı (.l .n0 .a) [.l (.A .kf (.D .n1 (.P .n2 21))) .a] h
  ·exact(hb rfl).1
 have h2:R h<=2:= by
  cases b
  ·rcases Ho rfl with h|⟨-,h⟩
   ·exact O h (ĺ (.l .kf .n2) [])
   ·exact h
  ·have:=(hb rfl).2;exact ı (.l .a .n2) [.l .a (.S .kf (.D .n1 (.P .n2 21)))] this
 refine bE (l5 s1 fh (M:=1024) ⟨10,by decide,rfl⟩ (by refine O s3 ?_;push_cast;exact ı (.l (.G (.N 1024)) (.M (.N 512) .a)) [.L 512 .n0 .a] h0) (by refine O s3 ?_;push_cast;exact ı (.l (.M (.N 512) .a) (.N 1024)) [.L 512 .a .n2] h2)) λm1 m2 m3 m4=>?_;rw[s3] at m2 m3 m4;push_cast at m2 m3;have hm:=s9 s1 fh (by exact O s3 (ĺ (.l .n0 (.N 512)) [])) h0 m1;refine cW (P6 m1 hm) λp p0 p1 p2 p3=>?_;refine(Õ p p1 ?_);cases b
 ·have:¬p<256:= by
   intro Gu;have:(p:Rat)+1<=((256:Int):Rat):= by
    have:=an.mpr (show p+1<=256 by exact ñ (.l .kk (.N 256)) [.t .a (.N 256)] Gu);push_cast at this⊢;exact this
   have e:((256:Int):Rat)=256:=rfl;rcases Ho rfl with h|⟨h,-⟩
   ·have:=m4 (cC 256 0 (by decide) (by decide) (by refine O h ?_;push_cast;exact ĺ (.e (.M (.M (.N 512) .kf) .n1) (.N 256)) []));rw[h] at this;clear hb Ho m4 m2 m3;grind
   ·grind
  simp[this]
 ·have:p<256:= by
   have e:((256:Int):Rat)=256:=rfl;refine gH ?_;have:=(hb rfl).2;exact Ī (.t .a .b) [.l .c (.A (.M (.N 512) .d) (.E 1024)),.l .a .c,.e (.N 256) .b,.L 512 .d (.S .kf (.D .n1 (.P .n2 21)))] m3 p2 e.symm this
  simp[this]
theorem DC (ha:0<=w+a/\w+a<=2^17) (hb:0<=w+b/\w+b<=2^17) (hc:0<=w+c/\w+c<=2^17):
  FT aP (n+2) 15 [a8 [a,b,c],.int w]=some (Ó (!iM a b c)):= by
 refine O (ft (n+1) 15 m7 _ rfl) ?_;apply kE rfl;show iR (aF _ m7.code [some (a8 [a,b,c]),some (.int w),none,none,none,none,none,none,none,none])=_;unfold m7;have ga:=tK (x:=w+a) (y5 ha.1 ha.2 (by decide));have gb:=tK (x:=w+b) (y5 hb.1 hb.2 (by decide));have gc:=tK (x:=w+c) (y5 hc.1 hc.2 (by decide));have hS:Sc (2^17):=⟨17,by decide,rfl⟩;refine bG (asgT (p:=.lst [.flt (fq (w+a) 131072),.flt (fq (w+b) 131072),.flt (fq (w+c) 131072)]) ?_ rfl) ?_
 ·refine kI (À:=[.int a,.int b,.int c]) (λp=>match p with|.int i=>.flt (fq (w+i) 131072)|_=>.none) (lM (by rfl) (by simp)) ?_;intro p hp;simp only[az,iz,or_false] at hp;rcases hp with rfl|rfl|rfl
  ·exact mE (w+a) 131072 (by decide) ga.1
  ·exact mE (w+b) 131072 (by decide) gb.1
  ·exact mE (w+c) 131072 (by decide) gc.1
 have key:∃(h s v:UInt64),FT aP (n+1) 6 [.flt (fq (w+a) 131072),.flt (fq (w+b) 131072),.flt (fq (w+c) 131072)]=some (.tup [.flt h,.flt s,.flt v])/\È h/\
   (iM a b c=true->0<=R h/\R h<=1/2-1/2^21)/\(iM a b c=false->R h=1/2\/(1/2+1/2^21<=R h/\R h<=2)):= by
  refine O (aAA ..) ?_
  by_cases hg:a=b/\b=c
  ·refine xa hg λaT Gq=>?_;subst aT;subst Gq;clear hg;refine É (C9 (F:=FT aP n) hS ga ga ga) λv hv aT=>?_;clear aT;refine(dH 0 0 v hv l0.1 (λ_=>?_) (λh=>?_))
   ·exact O l0.2 ⟨ei,ĺ (.l .n0 (.S .kf (.D .n1 (.P .n2 21)))) []⟩
   ·simp[iM] at h
  ·have hd:bA (w+a) (w+b) (w+c)<aX (w+a) (w+b) (w+c):=V3 λq=>hg ⟨lw q.1,lw q.2⟩;refine lE (V5 (F:=FT aP n) hS (by decide) ga gb gc ⟨ha.1,by exact Ĺ (.l .kb (.C (.P .n2 17))) [.l .kb (.P .n2 17)] ha.2⟩ ⟨hb.1,by exact Ĺ (.l .kb (.C (.P .n2 17))) [.l .kb (.P .n2 17)] hb.2⟩ ⟨hc.1,by exact Ĺ (.l .kb (.C (.P .n2 17))) [.l .kb (.P .n2 17)] hc.2⟩ hd) λs v hv aT=>?_;clear aT;refine Ą (QM ga gb gc ha hb hc hd (λe=>by exact O e rfl)) λf h1 h2=>?_;refine(dH _ s v hv f (λh=>h1 ?_) (λh=>h2 ?_))
   ·exact(of_decide_eq_true h).imp (λq=>Int.add_lt_add_left q w) λq=>⟨congrArg _ q.1,jo q.2 w⟩
   ·exact λq=>of_decide_eq_false h (q.imp Int.lt_of_add_lt_add_left λq=>⟨lw q.1,Int.le_of_add_le_add_left q.2⟩)
 refine cH key λh s v e1 f e2 e3=>?_;clear key;refine bG (asgT (p:=.tup [.flt h,.flt s,.flt v]) ?_ rfl) ?_
 ·trivial
 refine É (KH f (iM a b c) e2 e3) λp p1 p2=>?_
 dsimp only[bP,bQ]
 refine bG (asg (p:=.int p) ?_) ?_
 ·simp only[aH,Ù,qZ 512 h (H6 (by decide)),p1]
 dsimp only[bP,bQ]
 refine dC ?_ ?_
 ·simp only[aH,Ù,DA,DB,U4];have:(decide (p<256)==decide (p>=256))=false:= by
   by_cases h:p<256
   ·have:¬p>=256:=by exact mu.mpr (h)
    simp[h]
   ·have:p>=256:=by exact(dt.mp h)
    simp[h,this]
  exact O this rfl
 ·refine fK ?_;simp only[aH,Ù,DA,p2];cases iM a b c<;>rfl
end L2
theorem iZ (hs:gZ F src pe=some [p,q,r]) (h1:aB F e (st pe tg p)=some p') (h2:aB F e (st pe tg q)=some q') (h3:aB F e (st pe tg r)=some r'):
  aB F (.comp e tg src false c) pe=some (.lst [p',q',r']):= by
 simp only[aH,hs,oR h1 (oR h2 (oR (l:=[]) h3 rfl)),bm]
theorem nC:∀(l:List Int),eA (l.map .int)=some l
 |[]=>rfl
 |a::l=>by
  show(match BM (PV.int a),eA (l.map .int) with|some x,some y=>some (x::y)|_,_=>none)=_;refine O (nC l) ?_;rfl
theorem H8 (l:List Int) (h:l.isEmpty=false):Ē .min [a8 l]=some (.int (dD l)):= by
 show(eA (l.map .int)).bind (BP dD)=_;refine O (nC ..) ?_;exact if_neg (by exact O h oi)
theorem U5 (l:List Int) (h:l.isEmpty=false):Ē .max [a8 l]=some (.int (cI l)):= by
 show(eA (l.map .int)).bind (BP cI)=_;refine O (nC ..) ?_;exact if_neg (by exact O h oi)
theorem aAD{α:Type}{a b c x:α}(h:x∈[a,b,c]):x=a\/x=b\/x=c:= by
 rcases az.mp h with h|h
 ·exact .inl h
 ·rcases az.mp h with h|h
  ·exact .inr (.inl h)
  ·exact .inr (.inr (cg.mp h))
theorem in3{α:Type}(a b c:α):a∈[a,b,c]/\b∈[a,b,c]/\c∈[a,b,c]:=(Ý ak (er _ ak) (er _ (er _ ak)))
theorem zB (a b c:Int):dD [a,b,c]<=a/\dD [a,b,c]<=b/\dD [a,b,c]<=c/\(dD [a,b,c]=a\/dD [a,b,c]=b\/dD [a,b,c]=c):= by
 have h:=xX [a,b,c] (λq=>nomatch q);have m:=in3 a b c;exact(d9 (h.2 _ m.1) (h.2 _ m.2.1) (h.2 _ m.2.2) (aAD h.1))
theorem rM (a b c:Int):a<=cI [a,b,c]/\b<=cI [a,b,c]/\c<=cI [a,b,c]/\(cI [a,b,c]=a\/cI [a,b,c]=b\/cI [a,b,c]=c):= by
 have h:=xY [a,b,c] (λq=>nomatch q);have m:=in3 a b c;exact(d9 (h.2 _ m.1) (h.2 _ m.2.1) (h.2 _ m.2.2) (aAD h.1))
theorem U6{a b c k:Int}(ha:0<=a/\a<=k) (hb:0<=b/\b<=k) (hc:0<=c/\c<=k):cI [a,b,c]-dD [a,b,c]<=k:= by
 refine aw (li _ ?_) ?_
 ·rcases(zB a b c).2.2.2 with e|e|e<;>refine O e ?_
  ·exact ha.1
  ·exact hb.1
  ·exact hc.1
 ·rcases(rM a b c).2.2.2 with e|e|e<;>refine O e ?_
  ·exact ha.2
  ·exact hb.2
  ·exact hc.2
theorem iO (h0:0<=k) (h1:k<1000000) (h:l[k.toNat]?=some v):eG (.lst l) (.int k)=some v:= by
 show(ū k l.length).bind (l[·]?)=_;unfold ū;refine O (if_pos (⟨ñ (.t (.G (.P .n2 62)) .a) [.l .n0 .a] h0,ñ (.t .a (.P .n2 62)) [.t .a (.N 1000000)] h1⟩)) ?_;have hl:=(df.mp h).1;exact O (seqIndex_of h0 (by exact Ď [_] [_,_] (.t .a .q) [.y .r .q,.e .a .r] hl (bw (Ņ [_] (.l .n0 .a) [.l .n0 .a] h0)).symm)) h
theorem YE (h0:0<=k) (h1:k<1000000) (h:l[k.toNat]?=some v):eG (.tup l) (.int k)=some v:= by
 show(ū k l.length).bind (l[·]?)=_;unfold ū;refine O (if_pos (⟨ñ (.t (.G (.P .n2 62)) .a) [.l .n0 .a] h0,ñ (.t .a (.P .n2 62)) [.t .a (.N 1000000)] h1⟩)) ?_;have hl:=(df.mp h).1;exact O (seqIndex_of h0 (by exact Ď [_] [_,_] (.t .a .q) [.y .r .q,.e .a .r] hl (bw (Ņ [_] (.l .n0 .a) [.l .n0 .a] h0)).symm)) h
namespace L2
variable{n:Nat}
def V7 (x y z:Int):List Int:=[cI [x,y,z]-x,cI [x,y,z]-y,cI [x,y,z]-z]
theorem QO (fh:È h) (h0:0<=R h) (h1:R h<=1+1/2^52):È (add h 0x3fe0000000000000)/\0<=R (add h 0x3fe0000000000000)/\R (add h 0x3fe0000000000000)<=100/\
  6*R h+3-1/2^48<=6*R (add h 0x3fe0000000000000)/\6*R (add h 0x3fe0000000000000)<=6*R h+3+1/2^48:= by
 refine xa lh λt1 t2=>?_;refine bE (l3 fh t1 (M:=2) ⟨1,by decide,rfl⟩ (by refine O t2 ?_;push_cast;exact ı (.l (.G .n2) (.A .a .kf)) [.l .n0 .a] h0) (by refine O t2 ?_;push_cast;exact ı (.l (.A .a .kf) .n2) [.l .a .kh] h1)) λa1 a2 a3 aT=>?_;clear aT;rw[t2] at a2 a3;push_cast at a2 a3;exact(jD a1 (ė (.l .n0 .a) [.l .n0 .b,.l (.S (.A .b .kf) (.E 2)) .a] h0 a2) (ė (.l .a (.N 100)) [.l .b .kh,.l .a (.A (.A .b .kf) (.E 2))] h1 a3) (ė (.l (.S (.A .kg .n3) .kt) .kA) [.L 6 (.S (.A .a .kf) (.E 2)) .b] a2) (ė (.l .kg (.A (.A .kA .n3) .kt)) [.L 6 .a (.A (.A .b .kf) (.E 2))] a3))
theorem QP (fh:È h) (h0:0<=R h) (h1:R h<=1+1/2^52):È (ab h 0x3fe0000000000000)/\-1<=R (ab h 0x3fe0000000000000)/\R (ab h 0x3fe0000000000000)<=2/\
  6*R h+3-6-1/2^48<=6*R (ab h 0x3fe0000000000000)/\6*R (ab h 0x3fe0000000000000)<=6*R h+3-6+1/2^48:= by
 refine xa lh λt1 t2=>?_;refine bE (jP fh t1 (M:=2) ⟨1,by decide,rfl⟩ (by refine O t2 ?_;push_cast;exact ı (.l (.G .n2) (.S .a .kf)) [.l .n0 .a] h0) (by refine O t2 ?_;push_cast;exact ı (.l (.S .a .kf) .n2) [.l .a .kh] h1)) λa1 a2 a3 aT=>?_;clear aT;rw[t2] at a2 a3;push_cast at a2 a3;exact(jD a1 (ė (.l .kn .a) [.l .n0 .b,.l (.S (.S .b .kf) (.E 2)) .a] h0 a2) (ė (.l .a .n2) [.l .b .kh,.l .a (.A (.S .b .kf) (.E 2))] h1 a3) (ė (.l (.S (.S (.A .kg .n3) .n6) .kt) .kA) [.L 6 (.S (.S .a .kf) (.E 2)) .b] a2) (ė (.l .kg (.A (.S (.A .kA .n3) .n6) .kt)) [.L 6 .a (.A (.S .b .kf) (.E 2))] a3))
theorem V8 (hS:Sc S) (h:Gr S x v) (he:0<=e):Nr x ((v:Rat)/S) e:= by
 have hp:(0:Rat)<(S:Rat):=by have:=hS.pos;exact ı (.t .n0 .a) [.l .n1 .a] this
 have:(v:Rat)/S=R x:= by
  refine f9 hp ?_;refine O h.2 ?_;grind
 exact O this (Nr.self h.1 he)
theorem YF{α β:Type}{x y z m:α}(f:α->β) (h:m=x\/m=y\/m=z):f m=f x\/f m=f y\/f m=f z:=h.imp (congrArg f) λh=>h.imp (congrArg f) (congrArg f)
theorem sJ (w u:Int):w+u-w=u:=by exact cb (Ĺ (.l (.S .kb .a) .b) []) (Ĺ (.l .a (.S (.A .b .a) .b)) [])
theorem mF (w M x:Int):w+(M-x)=w+M+w-(w+x):=by exact fz3 (.e (.A .a .kx) (.S (.A .kb .a) (.A .a .c))) []
section
variable{w x y z:Int}(hw:0<=w) (hx:0<=x/\w+x<=2^17) (hy:0<=y/\w+y<=2^17) (hz:0<=z/\w+z<=2^17)
theorem pB (hw:0<=w) (hx:0<=x/\w+x<=2^17):0<=w+x/\w+x<=((2^17:Nat):Int):=⟨jy hw hx.1,hx.2⟩
theorem rN (h:0<=a/\a<=((2^17:Nat):Int)):a.natAbs<=2^53:=by exact Ď [_] [_] (.x .q .ki) [.l .a (.C (.P .n2 17)),.e .q .a] h.2 (aq (Ņ [_] (.l .n0 .a) [.l .n0 .a] h.1))
theorem FS (n1:m<=A) (m1:A<=M) (hM:w+(M-m)<=2^17):0<=A-m/\w+(A-m)<=2^17:=⟨bt n1,aw (jo (xh m1 m) w) hM⟩
theorem YG{A B C m:Int}(h:m=A\/m=B\/m=C):A-m=0\/B-m=0\/C-m=0:=h.imp (λq=>by exact O q (O (ng ..) rfl)) λh=>h.imp (λq=>by exact O q (O (ng ..) rfl)) λq=>by exact O q (O (ng ..) rfl)
theorem V9 (hx:0<=x/\w+x<=2^17) (hy:0<=y/\w+y<=2^17) (hz:0<=z/\w+z<=2^17) (h0:x=0\/y=0\/z=0):bA (w+x) (w+y) (w+z)=w:=
 HY (mz hx.1) (mz hy.1) (mz hz.1) (h0.imp (λq=>by exact O q (O (pn ..) rfl)) λh=>h.imp (λq=>by exact O q (O (pn ..) rfl)) λq=>by exact O q (O (pn ..) rfl))
theorem WA:aX (w+x) (w+y) (w+z)=w+cI [x,y,z]:= by
 refine bE (rM x y z) λk1 k2 k3 k4=>?_;exact AU (jo k1 w) (jo k2 w) (jo k3 w) (YF (w+·) k4)
theorem FU (hx:0<=x/\w+x<=2^17) (hy:0<=y/\w+y<=2^17) (hz:0<=z/\w+z<=2^17):w+cI [x,y,z]<=2^17:= by
 refine bE (rM x y z) λk1 k2 k3 k4=>?_;rcases k4 with e|e|e<;>refine O e ?_
 ·exact hx.2
 ·exact hy.2
 ·exact hz.2
theorem aAE (hg:¬(x=y/\y=z)):bA (w+x) (w+y) (w+z)<aX (w+x) (w+y) (w+z):=V3 λq=>hg ⟨lw q.1,lw q.2⟩
theorem DD (h0:x=0\/x=0\/x=0):w+(cI [x,x,x]-x)=w+x:= by
 refine bE (rM x x x) λk1 k2 k3 k4=>?_;have e:cI [x,x,x]=x:=k4.elim id λh=>h.elim id id;have h0:x=0:=h0.elim id λh=>h.elim id id;exact O e (O (ng ..) (O h0 rfl))
theorem AY (hw:0<=w) (hM:w+cI [x,y,z]<=2^17) (h0:0<=u) (h1:u<=cI [x,y,z]):0<=w+(cI [x,y,z]-u)/\w+(cI [x,y,z]-u)<=((2^17:Nat):Int):=
 ⟨jy hw (bt h1),aw (jo (li _ h0) w) hM⟩
end
theorem KI (hw:0<=w) (hx:0<=x/\w+x<=2^17) (hy:0<=y/\w+y<=2^17) (hz:0<=z/\w+z<=2^17) (h0:x=0\/y=0\/z=0):
  ∃h s v p q r:UInt64,FT aP (n+1) 6 [.flt (fq (w+x) 131072),.flt (fq (w+y) 131072),.flt (fq (w+z) 131072)]=some (.tup [.flt h,.flt s,.flt v])/\
   FT aP (n+1) 7 [.flt (add h 0x3fe0000000000000),.flt s,.flt v]=some (.tup [.flt p,.flt q,.flt r])/\
   Nr p (((w+(cI [x,y,z]-x):Int):Rat)/(2^17:Nat)) (1/2^40)/\Nr q (((w+(cI [x,y,z]-y):Int):Rat)/(2^17:Nat)) (1/2^40)/\Nr r (((w+(cI [x,y,z]-z):Int):Rat)/(2^17:Nat)) (1/2^40):= by
 have hS:Sc (2^17):=⟨17,by decide,rfl⟩;have ga:=tK (x:=w+x) (rN (pB hw hx));have gb:=tK (x:=w+y) (rN (pB hw hy));have gc:=tK (x:=w+z) (rN (pB hw hz));refine O (aAA ..) ?_;simp only[aAB]
 by_cases hg:x=y/\y=z
 ·refine xa hg λaT Gq=>?_;subst aT;subst Gq;clear hg;refine É (C9 (F:=FT aP n) hS ga ga ga) λv hv gv=>?_;refine O (DD h0) ?_;have nv:=V8 hS gv (e:=1/2^40) (ĺ (.l .n0 (.D .n1 .kw)) []);exact(jF 0 0 v v v v hv KA nv nv nv)
 ·have hd:bA (w+x) (w+y) (w+z)<aX (w+x) (w+y) (w+z):=aAE hg;have Np:=V9 hx hy hz h0;have Nq:=WA (w:=w) (x:=x) (y:=y) (z:=z);refine lE (V5 (F:=FT aP n) hS (by decide) ga gb gc (pB hw hx) (pB hw hy) (pB hw hz) hd) λs v hv H=>?_;generalize kK (fq (w+x) 131072) (fq (w+y) 131072) (fq (w+z) 131072)=h at*;refine jB (QO H.fh H.h0 H.h1) λf1 f2 f3 f4 f5=>?_;refine cH (QB (t:=3) (F:=FT aP n) (m:=0) (e:=1/2^48) hS H hd (by exact O Np hw) (by refine O Nq ?_;exact FU hx hy hz) f1 f2 f3 (ĺ (.l .n0 .kt) []) (ĺ (.l .kt (.D .n1 (.P .n2 42))) []) (by push_cast;exact ė (.l (.S (.S (.A .kg .n3) .kJ) .kt) .kA) [.l (.S (.A .kg .n3) .kt) .kA] f4) (by push_cast;exact ė (.l .kg (.A (.S (.A .kA .n3) .kJ) .kt)) [.l .kg (.A (.A .kA .n3) .kt)] f5)) λp q r hp np nq nr=>?_;rw[Z6,Np,Nq] at np nq nr;simp only at np nq nr;have loose:∀{x:UInt64}{q:Rat},Nr x q (1/2^41)->Nr x q (1/2^40):=fun⟨a,b,c⟩=>⟨a,by exact ė (.l (.S .a (.D .n1 .kw)) .b) [.l (.S .a (.D .n1 (.P .n2 41))) .b] b,by exact ė (.l .a (.A .b (.D .n1 .kw))) [.l .a (.A .b (.D .n1 (.P .n2 41)))] c⟩;refine⟨h,s,v,p,q,r,hv,hp,?_,?_,?_⟩
  ·exact O (mF ..) (loose np)
  ·exact O (mF ..) (loose nq)
  ·exact O (mF ..) (loose nr)
theorem KJ (hw:0<=w) (hx:0<=x/\w+x<=2^17) (hy:0<=y/\w+y<=2^17) (hz:0<=z/\w+z<=2^17) (h0:x=0\/y=0\/z=0):
  ∃h s v p q r:UInt64,FT aP (n+2) 3 [.flt (fq (w+x) 131072),.flt (fq (w+y) 131072),.flt (fq (w+z) 131072)]=some (.tup [.flt h,.flt v,.flt s])/\
   FT aP (n+2) 4 [.flt (ab h 0x3fe0000000000000),.flt v,.flt s]=some (.tup [.flt p,.flt q,.flt r])/\
   Nr p (((w+(cI [x,y,z]-x):Int):Rat)/(2^17:Nat)) (1/2^40)/\Nr q (((w+(cI [x,y,z]-y):Int):Rat)/(2^17:Nat)) (1/2^40)/\Nr r (((w+(cI [x,y,z]-z):Int):Rat)/(2^17:Nat)) (1/2^40):= by
 have hS:Sc (2^17):=⟨17,by decide,rfl⟩;have ga:=tK (x:=w+x) (rN (pB hw hx));have gb:=tK (x:=w+y) (rN (pB hw hy));have gc:=tK (x:=w+z) (rN (pB hw hz));refine O (aA4 ..) ?_;simp only[aAC]
 by_cases hg:x=y/\y=z
 ·refine xa hg λaT Gq=>?_;subst aT;subst Gq;clear hg;refine É (QD (F:=FT aP (n+1)) hS ga ga ga (aAZ (pB hw hx) (by decide))) λv hv gv=>?_;refine O (DD h0) ?_;have nv:=V8 hS gv (e:=1/2^40) (ĺ (.l .n0 (.D .n1 .kw)) []);exact(jF 0 0 v v v v hv KB nv nv nv)
 ·have hd:bA (w+x) (w+y) (w+z)<aX (w+x) (w+y) (w+z):=aAE hg;have Np:=V9 hx hy hz h0;have Nq:=WA (w:=w) (x:=x) (y:=y) (z:=z);refine lE (QC (F:=FT aP (n+1)) hS (by decide) ga gb gc (pB hw hx) (pB hw hy) (pB hw hz) hd) λl s hv H=>?_;generalize kK (fq (w+x) 131072) (fq (w+y) 131072) (fq (w+z) 131072)=h at*;refine jB (QP H.fh H.h0 H.h1) λf1 f2 f3 f4 f5=>?_;refine cH (QE (t:=3) (k:=5) (F:=FT aP (n+1)) (m:=1) (e:=1/2^48) (vc n) hS H hd (by exact O Np hw) (by refine O Nq ?_;exact FU hx hy hz) f1 f2 f3 (ĺ (.l .n0 .kt) []) (ĺ (.l .kt (.D .n1 (.P .n2 42))) []) (by push_cast;exact ė (.l (.S (.S (.A .kg .n3) (.M .n6 .n1)) .kt) .kA) [.l (.S (.S (.A .kg .n3) .n6) .kt) .kA] f4) (by push_cast;exact ė (.l .kg (.A (.S (.A .kA .n3) (.M .n6 .n1)) .kt)) [.l .kg (.A (.S (.A .kA .n3) .n6) .kt)] f5)) λp q r hp np nq nr=>?_;rw[Z6,Np,Nq] at np nq nr;simp only at np nq nr;refine(jF h s l p q r hv hp ?_ ?_ ?_)
  ·exact O (mF ..) np
  ·exact O (mF ..) nq
  ·exact O (mF ..) nr
theorem wQ{a b c a' b' c' w way:Int}(hw:0<=w) (Kn:way=0\/way=1) (hM:w+(cI [a+a',b+b',c+c']-dD [a+a',b+b',c+c'])<=2^17):
  FT aP (n+3) 16 [a8 [a,b,c],a8 [a',b',c'],.int w,.int way]=
   some (a8 (V7 (a+a'-dD [a+a',b+b',c+c']) (b+b'-dD [a+a',b+b',c+c']) (c+c'-dD [a+a',b+b',c+c']))):= by
 refine O (ft (n+2) 16 jW _ rfl) ?_;apply kE rfl;show iR (aF _ jW.code [some (a8 [a,b,c]),some (a8 [a',b',c']),some (.int w),some (.int way),none,none,none,none,none,none,none,none,none,none,none])=_;unfold jW;have Pp:∀pe,lk pe 0=some (a8 [a,b,c])->lk pe 1=some (a8 [a',b',c'])->(∀v,lk (st pe 14 v) 14=some v/\lk (st pe 14 v) 0=lk pe 0/\lk (st pe 14 v) 1=lk pe 1)->
   aB (FT aP (n+2)) (.comp (.bin .Add (.sub Qv (.var 14)) (.sub Qu (.var 14))) 14 (.rng1 (.cst (.int 3))) false Qa) pe=some (a8 [a+a',b+b',c+c']):= by
  intro pe h0 h1 Ja;have it:∀(k:Int) (u v:Int),([a,b,c].map PV.int)[k.toNat]?=some (.int u)->([a',b',c'].map PV.int)[k.toNat]?=some (.int v)->0<=k->k<1000000->aB (FT aP (n+2)) (.bin .Add (.sub Qv (.var 14)) (.sub Qu (.var 14))) (st pe 14 (.int k))=some (.int (u+v)):= by
   intro k u v hu hv k0 k1;refine Ą (Ja (.int k)) λq1 q2 q3=>?_;simp only[aH,q1,q2,q3,h0,h1,a8,iO k0 k1 hu,iO k0 k1 hv,dN]
  refine iZ (p:=.int 0) (q:=.int 1) (r:=.int 2) (wP (n:=3) rfl (by decide)) (it 0 _ _ rfl rfl (by decide) (by decide)) (it 1 _ _ rfl rfl (by decide) (by decide)) (it 2 _ _ rfl rfl (by decide) (by decide))
 refine bG (asg (Pp _ rfl rfl (λv=>(Ý rfl rfl rfl)))) ?_
 dsimp only[bP,bQ]
 refine bE (zB (a+a') (b+b') (c+c')) λn1 n2 n3 n4=>?_;refine bE (rM (a+a') (b+b') (c+c')) λm1 m2 m3 m4=>?_;have Ko:=H8 [a+a',b+b',c+c'] rfl;generalize dD [a+a',b+b',c+c']=m at*;generalize cI [a+a',b+b',c+c']=M at*;have wx:=FS n1 m1 hM;have wy:=FS n2 m2 hM;have wz:=FS n3 m3 hM;have w0:=YG n4;clear n1 n2 n3 n4 m1 m2 m3 m4 hM;have ga:=tK (x:=w+(a+a'-m)) (rN (pB hw wx));have gb:=tK (x:=w+(b+b'-m)) (rN (pB hw wy));have gc:=tK (x:=w+(c+c'-m)) (rN (pB hw wz));refine bG (asgT (p:=.lst [.flt (fq (w+(a+a'-m)) 131072),.flt (fq (w+(b+b'-m)) 131072),.flt (fq (w+(c+c'-m)) 131072)]) ?_ rfl) ?_
 ·refine iZ (p:=.int (a+a')) (q:=.int (b+b')) (r:=.int (c+c')) (lM (by rfl) (by simp)) ?_ ?_ ?_
  ·simp only[aH,Ù,Ko];rw[td w];exact mE (w+(a+a'-m)) 131072 (by decide) ga.1
  ·simp only[aH,Ù,Ko];rw[td w];exact mE (w+(b+b'-m)) 131072 (by decide) gb.1
  ·simp only[aH,Ù,Ko];rw[td w];exact mE (w+(c+c'-m)) 131072 (by decide) gc.1
 dsimp only[bP,bQ]
 generalize hx:a+a'-m=x at*;generalize hy:b+b'-m=y at*;generalize hz:c+c'-m=z at*;have Jv:=FU wx wy wz;refine bE (rM x y z) λq1 q2 q3 aT=>?_;clear aT;have ox:=AY hw Jv wx.1 q1;have oy:=AY hw Jv wy.1 q2;have oz:=AY hw Jv wz.1 q3;clear q1 q2 q3 Jv;have fin:∀(p q r:UInt64) (p5 p6 p7 p8 p9 p10:Option PV),Nr p (((w+(cI [x,y,z]-x):Int):Rat)/(2^17:Nat)) (1/2^40)->Nr q (((w+(cI [x,y,z]-y):Int):Rat)/(2^17:Nat)) (1/2^40)->Nr r (((w+(cI [x,y,z]-z):Int):Rat)/(2^17:Nat)) (1/2^40)->
   iR (aF (FT aP (n+2)) (.cons (.ret (.comp (.bin .Sub (.bi .int (.cons (.bin .Add (.bin .Mult (.bin .Pow Qc (.cst (.int 17))) (.var 12)) Λ) .nil)) ç) 12 (.val (.var 11)) false Qa)) .nil)
    [some (a8 [a,b,c]),some (a8 [a',b',c']),some (.int w),some (.int way),some (a8 [a+a',b+b',c+c']),p5,p6,p7,p8,p9,p10,some (.tup [.flt p,.flt q,.flt r]),none,none,none])=some (a8 (V7 x y z)):= by
  intro p q r p5 p6 p7 p8 p9 p10 np nq nr;refine fK ?_;have bp:=wO (S:=2^17) (by decide) (by decide) (V:=w+(cI [x,y,z]-x)) ox.1 ox.2 np;have bq:=wO (S:=2^17) (by decide) (by decide) (V:=w+(cI [x,y,z]-y)) oy.1 oy.2 nq;have br:=wO (S:=2^17) (by decide) (by decide) (V:=w+(cI [x,y,z]-z)) oz.1 oz.2 nr;rw[show(((2^17:Nat):Int))=131072 from rfl] at bp bq br;refine(iZ (p:=.flt p) (q:=.flt q) (r:=.flt r) (QF (by rfl) (by simp)) (p':=.int (cI [x,y,z]-x)) (q':=.int (cI [x,y,z]-y)) (r':=.int (cI [x,y,z]-z)) ?_ ?_ ?_).trans rfl
  ·simp only[aH,Ù,QN,qZ 131072 p (H6 (by decide)),bp];exact congrArg (λu=>some (PV.int u)) (sJ w _)
  ·simp only[aH,Ù,QN,qZ 131072 q (H6 (by decide)),bq];exact congrArg (λu=>some (PV.int u)) (sJ w _)
  ·simp only[aH,Ù,QN,qZ 131072 r (H6 (by decide)),br];exact congrArg (λu=>some (PV.int u)) (sJ w _)
 rcases Kn with rfl|rfl
 ·refine fZ (KI (n:=n+1) (w:=w) (x:=x) (y:=y) (z:=z) hw wx wy wz w0) λh s v p zt=>?_;refine kL zt λq r e1 e2 np nq nr=>?_;clear zt;refine bG (fJ (by rfl) (seq (asgT (p:=.tup [.flt h,.flt s,.flt v]) ?_ rfl) (aK (asg (p:=.tup [.flt p,.flt q,.flt r]) ?_)))) ?_
  ·trivial
  ·trivial
  ·dsimp only[bP,bQ]
   exact fin p q r _ _ _ _ _ _ np nq nr
 ·refine fZ (KJ (n:=n) (w:=w) (x:=x) (y:=y) (z:=z) hw wx wy wz w0) λh s v p zt=>?_;refine kL zt λq r e1 e2 np nq nr=>?_;clear zt;refine bG (dE (by rfl) (seq (asgT (p:=.tup [.flt h,.flt v,.flt s]) ?_ rfl) (aK (asg (p:=.tup [.flt p,.flt q,.flt r]) ?_)))) ?_
  ·trivial
  ·trivial
  ·dsimp only[bP,bQ]
   exact fin p q r _ _ _ _ _ _ np nq nr
end L2
theorem QQ:j8 f (a::l)=match f a,j8 f l with
  |some b,some n=>some (if b then n+1 else n)
  |_,_=>none:=rfl
theorem YH:o9 f (a::l)=match f a,o9 f l with
  |some x,some y=>some (x||y)
  |_,_=>none:=rfl
theorem zC:∀{l:List PV},(∀x∈l,f x x=some true)->o8 f l l=some true
 |[],_=>rfl
 |a::l,h=>by
  have h1:=h a (ak);have h2:=zC (f:=f) (l:=l) λx hx=>h x (by simp[hx]);show(match f a a,o8 f l l with|some x,some y=>some (x&&y)|_,_=>none)=_;refine O h1 (O h2 ?_);rfl
noncomputable def FV (f:Option (PV->Bool)) (p:PV):Bool:=match p with
 |.none=>true
 |.bool _=>true
 |.int _=>true
 |.str _=>true
 |.tup l=>(match f with|some f=>l.all f|none=>false)
 |.lst l=>(match f with|some f=>l.all f|none=>false)
 |_=>false
def sK:Nat->PV->Bool
 |0=>FV none
 |n+1=>FV (some (sK n))
theorem t8{α:Type}{f:α->PV}(hf:∀a,sK 2 (f a)=true) (l:List α):sK 3 (.lst (l.map f))=true:= by
 refine ao.mpr λy hy=>?_;obtain⟨a,_,rfl⟩:=fj.mp hy;exact hf a
theorem DE (Um:∀f',f=some f'->∃g',g=some g'/\∀x,f' x=true->g' x x=some true) (h:FV f p=true):pN g p p=some true:= by
 cases p<;>try (exact nf h)
 case none=>rfl
 case bool=>exact congrArg some (beq_self_eq_true _)
 case int=>exact congrArg some (beq_self_eq_true _)
 case str=>exact congrArg some (beq_self_eq_true _)
 all_goals
  cases f with
  |none=>exact nf h
  |some f'=>
   apply Ő (Um f' rfl);intro g' hg;exact(if_pos (beq_self_eq_true _)).trans (zC λx hx=>hg x (ao.mp h x hx))
theorem QR (h:sK n p=true):ü n p p=some true:= by
 induction n generalizing p with
 |zero=>exact DE (f:=none) (g:=none) (λ_ e=>nn e) h
 |succ n ih=>exact DE (f:=some (sK n)) (g:=some (ü n)) (λf' e=>(Õ _ rfl (λx hx=>ih (sm e▸hx)))) h
theorem nD (h:sK 3 p=true) (hf:∀x,p≠.flt x):cD .NotEq p p=some false:= by
 have:cD .NotEq p p=(ü 3 p p).map (!·):=by cases p<;>rfl
 refine O this (O (QR h) ?_);rfl
theorem QS (l:List PV):cD .Eq (.lst l) (.lst [])=some l.isEmpty:= by
 cases l<;>rfl
theorem YI (l:List PV):cD .NotEq (.lst l) (.lst [])=some (!l.isEmpty):= by
 cases l<;>rfl
theorem DF (a b:Bool):cD .Eq (Ó a) (Ó b)=some (a==b):= by
 unfold Ó;refine O (k8 ..) ?_;cases a<;>cases b<;>rfl
noncomputable def mH (bs:List Bool):List Nat:=bs.map λb=>if b then 62 else 60
theorem FW (bs:List Bool):(bs.map λb:Bool=>[if b then 62 else 60]).flatten=mH bs:= by
 induction bs with
 |nil=>rfl
 |cons b l ih=>simp[mH] at ih⊢;exact O ih rfl
theorem wR (bs:List Bool) (h:bs.length<=100000):ś .join (.str (sx [])) [.lst (bs.map Ó)]=some (.str (sx (mH bs))):= by
 have:=oB [] (bs.map λb:Bool=>[if b then 62 else 60]) (by
  have:((bs.map λb:Bool=>[if b then 62 else 60]).map fw).sum=bs.length:= by
   clear h
   induction bs with
   |nil=>rfl
   |cons b l ih=>(rw[al];refine O al (O jd (O ih ?_)));simp;exact à (.z1 (.A .n1 .q) .kc) []
  refine O this ?_;simpa using h)
 rw[j4,FW] at this;refine aBD this ?_;congr 2;unfold pA;refine O cr ?_;rfl
noncomputable def Ş:List Bool->Bool
 |a::b::l=>a==b||Ş (b::l)
 |_=>false
noncomputable def wS:Nat->List (List Bool)
 |0=>[[]]
 |n+1=>(wS n).flatMap λl=>[false::l,true::l]
theorem QT:wS 0=[[]]:=rfl
theorem QU:wS (n+1)=(wS n).flatMap λl=>[false::l,true::l]:=rfl
theorem kJ:∀(l:List Bool),l∈wS l.length
 |[]=>by simp[QT,QU]
 |b::l=>by
  simp only[dc,QT,QU,List.mem_flatMap];exact(Õ l (kJ l) (by cases b<;>simp))
def AZ (ms:List Bool):Bool:=match toks 999 (mH ms) with
 |some r=>(r.contains 33||r.contains 34)==Ş ms
 |none=>false
theorem QV:((cw 8).all λn=>(wS n).all AZ)=true:=by decide +kernel
theorem H9 (h:ms.length<=7):AZ ms=true:= by
 have:=ao.mp QV ms.length (by simp;exact ia h (by decide));exact ao.mp this ms (kJ ms)
theorem A0 (k:Int):∀(l:List Int),o9 (λy=>ü 0 y (.int k)) (l.map .int)=some (l.contains k)
 |[]=>rfl
 |a::l=>by
  have e:ü 0 (.int a) (.int k)=some (a==k):=rfl;simp only[al,YH,A0 k l,e,List.contains_cons];congr 2;exact O (propext og) (O (propext beq_iff_eq) (O (propext beq_iff_eq) eq_comm))
theorem U7 (k:Int) (l:List Int):cD .In (.int k) (a8 l)=some (l.contains k):= by
 show(if (l.map PV.int).all PV.scalar then o9 (λy=>ü 0 y (.int k)) (l.map .int) else none)=_;exact O (if_pos (by rw[re];exact ao.mpr λ_ _=>rfl)) (O (A0 ..) rfl)
theorem wT (k:Int) (l:List Int):cD .NotIn (.int k) (a8 l)=some (!l.contains k):= by
 show(if (l.map PV.int).all PV.scalar then(o9 (λy=>ü 0 y (.int k)) (l.map .int)).map (!·) else none)=_;refine O (if_pos (by rw[re];exact ao.mpr λ_ _=>rfl)) (O (A0 ..) ?_);rfl
theorem zE{α:Type}(f:α->PV) (hs:∀a,(f a).scalar=true) (p:PV) (q:α->Bool) (h:∀a,ü 0 (f a) p=some (q a)):∀l:List α,ś .count (.lst (l.map f)) [p]=some (.int ((l.countP q:Nat):Int)):= by
 intro l;have key:∀l:List α,j8 (λy=>ü 0 y p) (l.map f)=some (l.countP q):= by
  intro l
  induction l with
  |nil=>rfl
  |cons a l ih=>
   simp only[al,QQ,h a,ih,tt];cases q a<;>rfl
 show(if (l.map f).all PV.scalar then(j8 (λy=>ü 0 y p) (l.map f)).map (λn:Nat=>PV.int (n:Int)) else none)=_;refine O (if_pos (by simp[hs])) (O (key ..) ?_);rfl
theorem wU (b:Bool) (bs:List Bool):ś .count (.lst (bs.map Ó)) [Ó b]=some (.int ((bs.countP (·==b):Nat):Int)):=
 zE Ó (λa=>rfl) _ (·==b) (λa=>by
  unfold Ó;show some (sx _==sx _)=_;refine O (PG ..) ?_;cases a<;>cases b<;>rfl) bs
theorem KL (k:Int) (l:List Int):ś .count (a8 l) [.int k]=some (.int ((l.countP (·==k):Nat):Int)):=
 zE PV.int (λa=>rfl) _ (·==k) (λa=>rfl) l
namespace L2
variable{n:Nat}
theorem KM (b:Bool):FT aP (n+1) 12 [Ó b]=some (Ó (!b)):= by
 refine O (ft n 12 kX _ rfl) ?_;apply kE rfl;show iR (aF _ kX.code [some (Ó b)])=_;unfold kX;refine fK ?_;refine O (show("<":Str)=sx [60] from rfl) (O (show(">":Str)=sx [62] from rfl) ?_);unfold Ó;simp only[aH,Ù,k8];cases b<;>rfl
theorem QW (n:Nat) (args:List PV):FT aP (n+1) 10 args=e9 (FT aP n) Co.fI args:=ft n 10 fI args rfl
set_option tactic.hygienic true in
theorem QX (h:ms.length<=7):FT aP (n+2) 13 [.lst (ms.map Ó)]=some (.bool (Ş ms)):= by
 have hl:=H9 h;unfold AZ at hl;split at hl
 ·rename_i r hr;refine O (ft (n+1) 13 mZ _ rfl) ?_;apply kE rfl;show iR (aF _ mZ.code [some (.lst (ms.map Ó)),none])=_;unfold mZ;have Jw:FT aP (n+1) 10 [.str (sx (mH ms))]=some (a8 r):= by
   refine O (QW ..) ?_;exact wD hr (by simp[mH];exact aa h (by decide))
  refine bG (asg (p:=a8 r) ?_) ?_
  ·refine O (show("":Str)=sx [] from rfl) ?_;simp only[aH,Ù,wR ms (aa h (by decide)),Jw]
  ·simp only[bP,bQ];refine fK ?_;have hh:=am hl;simp only[aH,Ù,U7];refine aBD hh ?_;cases r.contains 33<;>rfl
 ·cases hl
end L2
abbrev ö:=Int×Int×Int
def lp (t:ö):PV:=a8 [t.1,t.2.1,t.2.2]
noncomputable def dQ:List ö->ö
 |[]=>(0,0,0)
 |t::l=>(t.1+(dQ l).1,t.2.1+(dQ l).2.1,t.2.2+(dQ l).2.2)
theorem FX:dQ []=(0,0,0):=rfl
theorem sL{t:ö}{l:List ö}:dQ (t::l)=(t.1+(dQ l).1,t.2.1+(dQ l).2.1,t.2.2+(dQ l).2.2):=rfl
def dX (t:ö):ö:=(t.1-dD [t.1,t.2.1,t.2.2],t.2.1-dD [t.1,t.2.1,t.2.2],t.2.2-dD [t.1,t.2.1,t.2.2])
def opp (t:ö):ö:=(cI [t.1,t.2.1,t.2.2]-t.1,cI [t.1,t.2.1,t.2.2]-t.2.1,cI [t.1,t.2.1,t.2.2]-t.2.2)
noncomputable def pts (bs:List Bool):Nat:=bs.countP (·==false)+2*bs.countP (·==true)
def ġ (t:ö):Bool:=gF t.1&&gF t.2.1&&gF t.2.2
theorem QY (l:List Int) (h:l.all gF=true) (hl:l.length<=1000):Ē .sum [a8 l]=some (.int l.sum):= by
 show(eA (l.map .int)).bind WU=_;refine O (nC ..) ?_;exact if_pos (by refine O h (O (decide_eq_true hl) ?_);rfl)
theorem aAF:∀ls:List ö,(ls.map (·.1)).sum=(dQ ls).1
 |[]=>rfl
 |t::l=>by simp only[al,jd,sL];exact O (aAF l) rfl
theorem aAG:∀ls:List ö,(ls.map (·.2.1)).sum=(dQ ls).2.1
 |[]=>rfl
 |t::l=>by simp only[al,jd,sL];exact O (aAG l) rfl
theorem aAH:∀ls:List ö,(ls.map (·.2.2)).sum=(dQ ls).2.2
 |[]=>rfl
 |t::l=>by simp only[al,jd,sL];exact O (aAH l) rfl
namespace L2
variable{n:Nat}
def o5{ls:List ö}{bs:List Bool}:Prop:=∀(h:ls.all ġ=true) (hl:ls.length<=100) (hb:bs.length<=100),FT aP (n+1) 17 [.lst (ls.map lp),.lst (bs.map Ó)]=some (.tup [Ó (!decide (pts bs%3=1)),lp (if pts bs%3=1 then dX (dQ ls) else opp (dX (dQ ls)))])
def bU:=gX (a7 (a7 @o5))
def aV:=bU.1.2
theorem QZ:@o5 bU.1.1 aV bU.2:= by
 intro h hl hb;refine O (ft bU.1.1 17 oX _ rfl) ?_;apply kE rfl;show iR (aF _ oX.code [some (.lst (aV.map lp)),some (.lst (bU.2.map Ó)),none,none,none,none,none])=_;unfold oX;have hs:∀t∈aV,gF t.1=true/\gF t.2.1=true/\gF t.2.2=true:= by
  intro t ht;have:=ao.mp h t ht;unfold ġ at this;simp only[be] at this;exact(Ý this.1.1 this.1.2 this.2)
 have item:∀(k:Int) (g:ö->Int) (v4:Option PV),(∀t,eG (lp t) (.int k)=some (.int (g t)))->(∀t∈aV,gF (g t)=true)->
   aB (FT aP bU.1.1) (.bi .sum (.cons (.comp (.sub (.var 6) (.var 5)) 6 (.val Qv) false Qa) .nil)) (st [some (.lst (aV.map lp)),some (.lst (bU.2.map Ó)),none,none,none,none,none] 5 (.int k))=some (.int (aV.map g).sum):= by
  intro k g v4 hg Ic;have hc:aB (FT aP bU.1.1) (.comp (.sub (.var 6) (.var 5)) 6 (.val Qv) false Qa) (st [some (.lst (aV.map lp)),some (.lst (bU.2.map Ó)),none,none,none,none,none] 5 (.int k))=some (a8 (aV.map g)):= by
   have:=kI (F:=FT aP bU.1.1) (pe:=st [some (.lst (aV.map lp)),some (.lst (bU.2.map Ó)),none,none,none,none,none] 5 (.int k)) (src:=.val Qv) (e:=.sub (.var 6) (.var 5)) (c:=.cst .none) (tg:=6) (À:=aV.map lp) (λp=>match eG p (.int k) with|some v=>v|none=>.none) (lM (by rfl) (by simp;exact aa hl (by decide))) (by
    intro p hp;apply jQ (fj.mp hp);intro t ht;simp only[aH,Ù,hg])
   refine O this ?_;congr 2;refine O cr (O cr (ej λt ht=>?_));simp only[oc,hg]
  simp only[aH] at hc⊢;refine O hc ?_;simp only;exact QY _ (by simp only[re,ao];exact λt ht=>Ic t ht) (by simp;exact aa hl (by decide))
 refine bG (asg (p:=lp (dQ aV)) ?_) ?_
 ·refine(iZ (p:=.int 0) (q:=.int 1) (r:=.int 2) (wP (n:=3) rfl (by decide)) (item 0 (·.1) none (λt=>iO (by decide) (by decide) rfl) (λt ht=>(hs t ht).1)) (item 1 (·.2.1) none (λt=>iO (by decide) (by decide) rfl) (λt ht=>(hs t ht).2.1)) (item 2 (·.2.2) none (λt=>iO (by decide) (by decide) rfl) (λt ht=>(hs t ht).2.2))).trans ?_;refine O (aAF ..) (O (aAG ..) (O (aAH ..) ?_));rfl
 simp only[bP,bQ];refine bG (asg (p:=lp (dX (dQ aV))) ?_) ?_
 ·have Ko:=H8 [(dQ aV).1,(dQ aV).2.1,(dQ aV).2.2] rfl;refine(iZ (p:=.int (dQ aV).1) (q:=.int (dQ aV).2.1) (r:=.int (dQ aV).2.2) (p':=.int (dX (dQ aV)).1) (q':=.int (dX (dQ aV)).2.1) (r':=.int (dX (dQ aV)).2.2) (lM rfl (by simp)) ?_ ?_ ?_).trans rfl
  ·unfold lp;rfl
  ·unfold lp;rfl
  ·unfold lp;rfl
 simp only[bP,bQ];have Nt:aB (FT aP bU.1.1) (.cmp .Eq (.bin .Mod (.bin .Add (.me .count Qu (.cons (.cst (.str ("<":Str))) .nil)) (.bin .Mult Qc (.me .count Qu (.cons (.cst (.str (">":Str))) .nil)))) (.cst (.int 3))) Qb)
   [some (.lst (aV.map lp)),some (.lst (bU.2.map Ó)),some (lp (dX (dQ aV))),none,none,none,none]=some (.bool (decide (pts bU.2%3=1))):= by
  refine O (show PV.str ("<":Str)=Ó false from rfl) (O (show PV.str (">":Str)=Ó true from rfl) ?_);simp only[aH,Ù,wU,l7 2 _ (by decide),dP _ 3 (by decide)];congr 2;unfold pts;refine O (propext og) ?_;simp only[beq_iff_eq,decide_eq_true_eq];exact⟨λh=>by exact_mod_cast h,λh=>by exact_mod_cast h⟩
 by_cases hp:pts bU.2%3=1
 ·refine O (if_pos hp) ?_;simp only[hp,decide_true,yg] at Nt⊢;refine k7 Nt (fK ?_);rfl
 ·refine O (if_neg hp) ?_;simp only[hp,decide_false,Cp] at Nt⊢;refine bG (dE Nt cE) ?_;refine fK ?_;have Sx:=U5 [(dX (dQ aV)).1,(dX (dQ aV)).2.1,(dX (dQ aV)).2.2] rfl;generalize dX (dQ aV)=t at*;have hc:aB (FT aP bU.1.1) (.comp (.bin .Sub (.bi .max (.cons ç .nil)) Qt) 3 (.val ç) false Qa) [some (.lst (aV.map lp)),some (.lst (bU.2.map Ó)),some (lp t),none,none,none,none]=some (lp (opp t)):= by
   refine(iZ (p:=.int t.1) (q:=.int t.2.1) (r:=.int t.2.2) (p':=.int (opp t).1) (q':=.int (opp t).2.1) (r':=.int (opp t).2.2) (lM rfl (by simp)) ?_ ?_ ?_).trans rfl
   ·unfold lp;rfl
   ·unfold lp;rfl
   ·unfold lp;rfl
  simp only[aH] at hc⊢;refine O hc ?_;rfl
theorem U8 {bs}:@o5 n ls bs:=iA (a7 (a7 @o5)) ((n,ls),bs) QZ
end L2
namespace L2
def i4 (ls:List ö) (bs:List Bool):ö:=if pts bs%3=1 then dX (dQ ls) else opp (dX (dQ ls))
structure Lt (k:Int) (t:ö):Prop where
 a0:0<=t.1
 b0:0<=t.2.1
 c0:0<=t.2.2
 a1:t.1<=k
 b1:t.2.1<=k
 c1:t.2.2<=k
 pl:t.2.2<t.2.1\/(t.2.1=t.2.2/\t.2.1<t.1)
theorem Lt.add (h:Lt k t) (h':Lt m u):Lt (k+m) (t.1+u.1,t.2.1+u.2.1,t.2.2+u.2.2) where
 a0:=jy h.a0 h'.a0
 b0:=jy h.b0 h'.b0
 c0:=jy h.c0 h'.c0
 a1:=lz h.a1 h'.a1
 b1:=lz h.b1 h'.b1
 c1:=lz h.c1 h'.c1
 pl:= by
  rcases h.pl with q|⟨q1,q2⟩<;>rcases h'.pl with r|⟨r1,r2⟩
  ·exact .inl (Cq q r)
  ·exact .inl (Int.add_lt_add_of_lt_of_le q (co r1.symm))
  ·exact .inl (Int.add_lt_add_of_le_of_lt (co q1.symm) r)
  ·exact .inr ⟨by show t.2.1+u.2.1=t.2.2+u.2.2;rw[q1,r1],Cq q2 r2⟩
theorem FY (h:∀t∈ls,Lt 1024 t) (hn:ls≠[]):Lt (1024*ls.length) (dQ ls):= by
 induction ls with
 |nil=>exact absurd rfl hn
 |cons t l ih=>
  by_cases hl:l=[]
  ·subst hl;have h1:=h t ak;have e:dQ [t]=t:=by show(t.1+0,t.2.1+0,t.2.2+0)=t;rw[pn,pn,pn]
   rw[e];exact h1
  ·have h1:=Lt.add (h t (by simp)) (ih (λu hu=>h u (by simp[hu])) hl);have e:(1024:Int)*((t::l).length:Int)=1024+1024*(l.length:Int):=by simp;exact à (.e (.M (.N 1024) .kc) (.A (.N 1024) (.M (.N 1024) .q))) []
   rw[e];exact h1
theorem FZ (h1:m<=x) (h2:m<=y) (h3:m<=z) (h4:m=x\/m=y\/m=z):dD [x,y,z]=m:= by
 refine bE (zB x y z) λq1 q2 q3 q4=>?_;refine cb ?_ ?_
 ·rcases h4 with rfl|rfl|rfl<;>assumption
 ·rcases q4 with e|e|e<;>rw[e]<;>assumption
theorem or3{α β:Type}{x y z m:α}(f:α->β) (h:m=x\/m=y\/m=z):f m=f x\/f m=f y\/f m=f z:=h.imp (congrArg f) λh=>h.imp (congrArg f) (congrArg f)
theorem KN (x y z c:Int):dD [x+c,y+c,z+c]=dD [x,y,z]+c:= by
 refine bE (zB x y z) λq1 q2 q3 q4=>?_;exact FZ (qk q1 c) (qk q2 c) (qk q3 c) (or3 (·+c) q4)
theorem U9 (x y z:Int):cI [x,y,z]=-dD [-x,-y,-z]:= by
 refine bE (rM x y z) λq1 q2 q3 q4=>?_;rw[FZ (m:=-cI [x,y,z]) (xi q1) (xi q2) (xi q3) (or3 (- ·) q4),Ew]
theorem sM (a b c:Int):a+c-(b+c)=a-b:=by exact fz3 (.e (.S .kb (.A .c .b)) (.S .a .c)) []
theorem wV (x y z c:Int):dX (x+c,y+c,z+c)=dX (x,y,z):= by
 delta dX
 show(x+c-dD [x+c,y+c,z+c],y+c-dD [x+c,y+c,z+c],z+c-dD [x+c,y+c,z+c])=_;rw[KN,sM,sM,sM]
theorem Q0 (t:ö):opp t=dX (-t.1,-t.2.1,-t.2.2):= by
 delta opp dX
 rw[U9];refine sb ?_ (sb ?_ ?_)<;>exact Int.add_comm _ _
theorem A1 (h:Lt k t):Lt k (dX t)/\dD [(dX t).1,(dX t).2.1,(dX t).2.2]=0:= by
 refine bE (zB t.1 t.2.1 t.2.2) λq1 q2 q3 q4=>?_;have hm:0<=dD [t.1,t.2.1,t.2.2]:= by
  rcases q4 with e|e|e<;>rw[e]
  ·exact h.a0
  ·exact h.b0
  ·exact h.c0
 delta dX
 generalize dD [t.1,t.2.1,t.2.2]=m at*;have up:∀{x:Int},x<=k->x-m<=k:=λhx=>aw (li _ hm) hx;refine⟨⟨bt q1,bt q2,bt q3,up h.a1,up h.b1,up h.c1,?_⟩,?_⟩
 ·exact h.pl.imp (λq=>xj q m) λq=>⟨congrArg (· - m) q.1,xj q.2 m⟩
 ·refine FZ (m:=0) (bt q1) (bt q2) (bt q3) ?_;have:=or3 (· - m) q4;rw[show m-m=0 from ng m] at this;exact this
def Bd (k:Int) (t:ö):Prop:=0<=t.1/\t.1<=k/\0<=t.2.1/\t.2.1<=k/\0<=t.2.2/\t.2.2<=k
theorem Bd.opp (h:Bd k t):Bd k (opp t):= by
 refine pK h λh1 h2 h3 h4 h5 h6=>?_;clear h;refine bE (rM t.1 t.2.1 t.2.2) λq1 q2 q3 q4=>?_;have hm:cI [t.1,t.2.1,t.2.2]<=k:=by rcases q4 with e|e|e<;>rw[e]<;>assumption
 delta Mine.opp
 generalize cI [t.1,t.2.1,t.2.2]=m at*;have up:∀{x:Int},0<=x->m-x<=k:=λhx=>aw (li _ hx) hm;exact(jD (bt q1) (up h1) (bt q2) (up h3) ⟨(bt q3),(up h5)⟩)
theorem Lt.bd (h:Lt k t):Bd k t:=(jD h.a0 h.a1 h.b0 h.b1 ⟨h.c0,h.c1⟩)
theorem Q1{ls:List ö}{bs:List Bool}(h:∀t∈ls,Lt 1024 t) (hn:ls≠[]):Bd (1024*ls.length) (i4 ls bs):= by
 have:=A1 (FY h hn)
 delta i4
 split
 ·exact this.1.bd
 ·exact this.1.bd.opp
theorem F0 (h:Lt k t):iM (dX t).1 (dX t).2.1 (dX t).2.2=true:= by
 refine decide_eq_true ?_;exact(A1 h).1.pl.imp id λq=>⟨q.1,de q.2⟩
theorem KO (h:Lt k t):iM (opp t).1 (opp t).2.1 (opp t).2.2=false:= by
 refine decide_eq_false ?_;show ¬(_-t.2.2<_-t.2.1\/(_-t.2.1=_-t.2.2/\_-t.2.1<=_-t.1));intro q;rcases q with q|⟨q,r⟩
 ·have q:=Int.lt_of_sub_lt_sub_left q;exact h.pl.elim (λp=>absurd (zx p q) (gq _)) λp=>absurd q (p.1▸gq _)
 ·have q:=(Int.sub_right_inj ..).mp q;have r:=Int.le_of_sub_le_sub_left r;exact h.pl.elim (λp=>absurd p (q▸gq _)) λp=>absurd p.2 (dt.mpr r)
theorem wW{ls:List ö}{bs:List Bool}(h:∀t∈ls,Lt 1024 t) (hn:ls≠[]):iM (i4 ls bs).1 (i4 ls bs).2.1 (i4 ls bs).2.2=decide (pts bs%3=1):= by
 delta i4
 by_cases hp:pts bs%3=1
 ·rw[if_pos hp];simp only[hp,decide_true];exact F0 (FY h hn)
 ·rw[if_neg hp];simp only[hp,decide_false];exact KO (A1 (FY h hn)).1
theorem IA:∀(a b:List ö),dQ (a++b)=((dQ a).1+(dQ b).1,(dQ a).2.1+(dQ b).2.1,(dQ a).2.2+(dQ b).2.2)
 |[],b=>by simp[FX,sL]
 |t::a,b=>by
  simp only[bg,FX,sL,IA a b];refine sb ?_ (sb ?_ ?_)<;>simp only<;>exact fz3 (.e (.A .a .kH) (.A .kb .c)) []
theorem t9 (a b:List Bool):pts (a++b)=pts a+pts b:= by
 delta pts;simp only[yr];exact Ľ (.z1 (.A .ko (.M .n2 (.A .s .t))) (.A (.A .q (.M .n2 .s)) (.A .r (.M .n2 .t)))) []
noncomputable def DG (t u:ö):ö:=(t.1+u.1,t.2.1+u.2.1,t.2.2+u.2.2)
noncomputable def aA5 (t:ö):ö:=(-t.1,-t.2.1,-t.2.2)
theorem DH (t u:ö):dX (DG (dX t) (dX u))=dX (DG t u):= by
 have e:DG (dX t) (dX u)=(t.1+u.1+-(dD [t.1,t.2.1,t.2.2]+dD [u.1,u.2.1,u.2.2]),t.2.1+u.2.1+-(dD [t.1,t.2.1,t.2.2]+dD [u.1,u.2.1,u.2.2]),t.2.2+u.2.2+-(dD [t.1,t.2.1,t.2.2]+dD [u.1,u.2.1,u.2.2])):= by
  delta DG dX
  generalize dD [t.1,t.2.1,t.2.2]=m;generalize dD [u.1,u.2.1,u.2.2]=m';have k:∀a b:Int,a-m+(b-m')=a+b+-(m+m'):=λa b=>by exact fz4 (.e (.A .ka (.S .c .d)) (.A (.A .a .c) (.G (.A .b .d)))) []
  show(t.1-m+(u.1-m'),t.2.1-m+(u.2.1-m'),t.2.2-m+(u.2.2-m'))=_;rw[k,k,k]
 rw[e];exact wV _ _ _ _
theorem oL (t:ö):opp (dX t)=dX (aA5 t):= by
 rw[Q0];have k:∀a m:Int,-(a-m)=-a+m:=λa m=>by exact Ĺ (.e (.G .ka) (.A (.G .a) .b)) []
 show dX (-(t.1-_),-(t.2.1-_),-(t.2.2-_))=dX (-t.1,-t.2.1,-t.2.2);rw[k,k,k];exact wV _ _ _ _
theorem F1 (h0:pts ba%3=1\/pts ba%3=2) (h:pts ba%3=pts bb%3):opp (dX (DG (i4 la ba) (i4 lb bb)))=i4 (la++lb) (ba++bb):= by
 delta i4
 rw[t9,IA];show _=if (pts ba+pts bb)%3=1 then dX (DG (dQ la) (dQ lb)) else opp (dX (DG (dQ la) (dQ lb)));generalize dQ la=x;generalize dQ lb=y;rcases h0 with h0|h0
 ·rw[if_pos h0,if_pos (h▸h0),if_neg (by rw[tf,<-h,h0];decide),DH]
 ·rw[if_neg (by exact ck (à (.y .n1 .q) [.z1 .n2 .q] h0.symm)),if_neg (by exact ck (Ò (.y .n1 .q) [.z1 .r .q,.z1 .n2 .r] h h0.symm)),if_pos (by rw[tf,<-h,h0]),oL x,oL y,DH,oL];have k:∀a b:Int,-(-a+-b)=a+b:=λa b=>by exact Ĺ (.e (.G (.A (.G .a) (.G .b))) .kb) []
  show dX (-(-x.1+-y.1),-(-x.2.1+-y.2.1),-(-x.2.2+-y.2.2))=_;rw[k,k,k];rfl
noncomputable def cO (x:Int):Int:=1+x/512%4
def cA (p s:Int):ö:=(tB p s 0,tB p s 512,tB p s 1024)
theorem oM (x:Int):cO x=1\/cO x=2\/cO x=3\/cO x=4:= by
 have h1:=fm (x/512) (by decide:(4:Int)≠0);have h2:=eh (x/512) (by decide:(0:Int)<4)
 delta cO
 generalize x/512%4=y at*
 lia
def VA (p s:Nat):Bool:=
 decide (0<=(cA p s).1)&&(decide (0<=(cA p s).2.1)&&(decide (0<=(cA p s).2.2)&&(decide ((cA p s).1<=1024)&&(decide ((cA p s).2.1<=1024)&&(decide ((cA p s).2.2<=1024)&&
 (decide ((cA p s).2.2<(cA p s).2.1\/((cA p s).2.1=(cA p s).2.2/\(cA p s).2.1<(cA p s).1))&&(decide (dX (cA p s)=cA p s)&&decide (cA (p+256) s=opp (cA p s)))))))))
theorem KP:((cw 256).all λp=>[1,2,3,4].all λs=>VA p s)=true:=by decide +kernel
def lC{p s:Nat}:Prop:=∀(h1:p<256) (hs:s∈[1,2,3,4]),Lt 1024 (cA p s)/\dX (cA p s)=cA p s/\cA (p+256) s=opp (cA p s)
def jX:=gX (a7 @lC)
theorem F2:@lC jX.1 jX.2:= by
 intro h1 hs;have h:=ao.mp (ao.mp KP jX.1 (fy.mpr h1)) jX.2 hs;have q1:=aC h;have q2:=aC q1.2;have q3:=aC q2.2;have q4:=aC q3.2;have q5:=aC q4.2;have q6:=aC q5.2;have q7:=aC q6.2;have q8:=aC q7.2;exact(Ý ⟨of_decide_eq_true q1.1,of_decide_eq_true q2.1,of_decide_eq_true q3.1,of_decide_eq_true q4.1,of_decide_eq_true q5.1,of_decide_eq_true q6.1,of_decide_eq_true q7.1⟩ (of_decide_eq_true q8.1) (of_decide_eq_true q8.2))
theorem o6:@lC p s:=iA (a7 @lC) (p,s) F2
theorem DI{p s:Int}(h0:0<=p) (h1:p<256) (hs:s=1\/s=2\/s=3\/s=4):Lt 1024 (cA p s)/\dX (cA p s)=cA p s/\cA (p+256) s=opp (cA p s):= by
 refine xe (om h0) λn aT=>?_;subst aT;have hn:n<256:=zy.mp h1;rcases hs with rfl|rfl|rfl|rfl
 ·exact o6 hn (s:=1) (by decide)
 ·exact o6 hn (s:=2) (by decide)
 ·exact o6 hn (s:=3) (by decide)
 ·exact o6 hn (s:=4) (by decide)
end L2
namespace L2
inductive Tr where
 |leaf (k:Nat) (kd:List Pc)
 |node (a b:Tr)
noncomputable def Tr.f:Tr->Nat
 |.leaf k _=>k
 |.node a _=>a.f
noncomputable def Tr.l:Tr->Nat
 |.leaf k _=>k+1
 |.node _ b=>b.l
noncomputable def Tr.pcs:Tr->List Pc
 |.leaf k kd=>([97+k],false)::kd
 |.node a b=>([40],false)::(a.pcs++(b.pcs++[([41],false)]))
def Tr.dep (s:Nat):Tr->Nat
 |.leaf _ _=>0
 |.node a b=>(if a.f<=s/\s<b.l then 1 else 0)+a.dep s+b.dep s
theorem DJ{a b:Tr}:(Tr.node a b).dep s=(if a.f<=s/\s<b.l then 1 else 0)+a.dep s+b.dep s:=rfl
theorem Ż:(Tr.leaf k kd).f=k:=rfl
theorem ź{a b:Tr}:(Tr.node a b).f=a.f:=rfl
theorem Ŷ:(Tr.leaf k kd).l=k+1:=rfl
theorem ŵ{a b:Tr}:(Tr.node a b).l=b.l:=rfl
theorem Ś:(Tr.leaf k kd).pcs=([97+k],false)::kd:=rfl
theorem ř{a b:Tr}:(Tr.node a b).pcs=([40],false)::(a.pcs++(b.pcs++[([41],false)])):=rfl
def î{α:Type}(x:List α) (t:Tr):List α:=(x.take t.l).drop t.f
def Ú (bs:List Bool) (t:Tr):Bool:=!decide (pts (î bs t)%3=1)
structure Ψ (kd:List Pc):Prop where
 ok:Ċ kd
 two:∀u∈ø false (bN kd),u.length=2
 low:∀c∈aW kd,c<97
 len:(aW kd).length<=5
inductive Ok (bs:List Bool):Tr->Prop
 |leaf{k:Nat}{kd:List Pc}:k<bs.length->Ψ kd->Ok bs (.leaf k kd)
 |node{a b:Tr}:Ok bs a->Ok bs b->a.l=b.f->pts (î bs a)%3=pts (î bs b)%3->Ok bs (.node a b)
theorem Ok.lt{bs:List Bool}{t:Tr}(h:Ok bs t):t.f<t.l/\t.l<=bs.length:= by
 induction h with
 |leaf h _=>exact⟨di _,h⟩
 |node ha hb h _ x y=>exact⟨jc x.1 (h▸y.1),y.2⟩
theorem IB{α:Type}{x:List α}(h1:i<=j) (h2:j<=k) (h3:j<=x.length):(x.take k).drop i=(x.take j).drop i++(x.take k).drop j:= by
 have e:x.take k=x.take j++(x.take k).drop j:= by
  have:=we j (x.take k);rw[List.take_take,qt h2] at this;exact this.symm
 conv=>lhs;rw[e]
 exact O (List.drop_append_of_le_length (by simp;lia)) rfl
theorem oN{α:Type}{x:List α}{bs:List Bool}(hx:x.length=bs.length){a b:Tr}(ha:Ok bs a) (hb:Ok bs b) (h:a.l=b.f):î x (.node a b)=î x a++î x b:= by
 delta î
 simp only[Ż,ź,Ŷ,ŵ];refine aBD h ?_;have:=ha.lt;have:=hb.lt;exact IB (by lia) (æ (.x .q .r) [.z1 .q .s,.y .s .r] h this.1) (Ŝ (.x .q .r) [.z1 .s .r,.z1 .q .t,.y .t .u,.x .u .s] hx.symm h this.1 this.2)
theorem seg_leaf{α:Type}{x:List α}(h:k<x.length):î x (.leaf k kd)=[x[k]]:= by
 delta î
 simp only[Ż,ź,Ŷ,ŵ];refine O Ck (O (show k+1-k=1 by exact bf (Ò (.x .q .n1) [.z1 .ko .ke] (af (ã [_] (.x .q .kc) []))) (Ò (.x .n1 .q) [.z1 .ke .ko] (af (ã [_] (.x .q .kc) [])).symm)) (O List.take_one (O (List.head?_drop) ?_)));simp[h]
theorem Ok.pts{bs:List Bool}{t:Tr}(h:Ok bs t):pts (î bs t)%3=1\/pts (î bs t)%3=2:= by
 induction h with
 |@leaf k _ h _=>
  refine O (seg_leaf h) ?_
  delta Mine.pts
  cases bs[k]<;>simp
 |node ha hb h hm x y=>
  refine O (oN rfl ha hb h) (O (t9 ..) (O (tf ..) (aBD hm ?_)));rcases x with e|e<;>refine O e ?_<;>decide
theorem IC{bs:List Bool}{a b:Tr}(ha:Ok bs a) (hb:Ok bs b) (h:a.l=b.f) (hm:Mine.pts (î bs a)%3=Mine.pts (î bs b)%3):Ú bs a=!Ú bs (.node a b)/\Ú bs b=!Ú bs (.node a b):= by
 have:=ha.pts
 delta Ú
 refine O (oN rfl ha hb h) (O (t9 ..) ?_)
 by_cases h1:Mine.pts (î bs a)%3=1
 ·have h2:Mine.pts (î bs b)%3=1:=by exact Ò (.z1 .q .n1) [.z1 .q .r,.z1 .r .n1] hm.symm h1
  have h3:¬(Mine.pts (î bs a)+Mine.pts (î bs b))%3=1:=by refine O (tf ..) (O h1 (O h2 ?_));decide
  simp[h1,h2,h3]
 ·have h2:¬Mine.pts (î bs b)%3=1:=hm▸h1;have h3:(Mine.pts (î bs a)+Mine.pts (î bs b))%3=1:=by exact O (tf ..) (aBD hm (O (this.resolve_left h1) rfl))
  simp[h1,h2,h3]
theorem F3 (h:c≠92) (h':c≠34):Pl [c]:= by
 refine⟨by simp[qB,qC,qD,h],?_⟩;intro u hu;simp[pF,pG,pH,pI,h] at hu;subst hu
 simpa using h'
theorem iP (h:c≠92) (r:List Nat):ø false (c::r)=[c]::ø false r:= by
 simp only[pF,pG,pH,pI,h,if_false]
theorem Ok.pcsOk{bs:List Bool}(hb:bs.length<=20){t:Tr}(h:Ok bs t):Ċ t.pcs:= by
 induction h with
 |leaf h hk=>
  intro p hp;rcases az.mp hp with rfl|hp
  ·exact F3 (ck (à (.y (.N 92) .ks) [])) (ck (à (.y (.N 34) .ks) []))
  ·exact hk.ok p hp
 |node ha Ho h hm x y=>
  intro p hp;simp only[Ś,ř,az,ce,iz,or_false] at hp;rcases hp with rfl|hp|hp|rfl
  ·exact F3 (by decide) (by decide)
  ·exact x p hp
  ·exact y p hp
  ·exact F3 (by decide) (by decide)
theorem Ok.low{bs:List Bool}{t:Tr}(h:Ok bs t):∀c∈aW t.pcs,c<97\/(97+t.f<=c/\c<97+t.l):= by
 induction h with
 |leaf h hk=>
  intro c hc;simp only[Ś,ř,cT,cU,cV,ce,az,iz,or_false] at hc;rcases hc with rfl|hc
  ·right;simp[Ż,ź,Ŷ,ŵ]
  ·left;exact hk.low c hc
 |node ha hb h hm x y=>
  intro c hc;have h1:=ha.lt;have h2:=hb.lt;simp only[Ś,ř,cT,cU,cV,dB,ce,az,iz,or_false,ge] at hc;simp only[Ż,ź,Ŷ,ŵ];rcases hc with rfl|hc|hc|rfl
  ·left;decide
  ·rcases x c hc with q|q
   ·exact .inl q
   ·exact .inr ⟨q.1,ae q.2 (qy (db (h▸h2.1)) 97)⟩
  ·rcases y c hc with q|q
   ·exact .inl q
   ·exact .inr ⟨aa (qy (db (h▸h1.1)) 97) q.1,q.2⟩
  ·left;decide
theorem KQ{a b f l m g x:Nat}(h1:f<m) (h2:m<l) (e:m=g) (h3:a+2<=8*(m-f)) (h4:b+2<=8*(l-g)) (hx:x=a+(b+1)+1):x+2<=8*(l-f):= by
 subst e hx;exact aBD (Nat.sub_add_sub_cancel (db h2) (db h1)) (O (Ev ..) (aa (by exact Ò (.x (.A (.A (.A .q .ke) .n1) .n2) (.A (.A .r .n2) (.A .q .n2))) []) (wq h4 h3)))
theorem Ok.len{bs:List Bool}{t:Tr}(h:Ok bs t):(aW t.pcs).length+2<=8*(t.l-t.f):= by
 induction h with
 |leaf h hk=>
  have:=hk.len;simp only[Ś,ř,cT,cU,cV,Ż,ź,Ŷ,ŵ,cy,dc,lg];exact æ (.x (.A (.A (.A .n0 .n1) .q) .n2) (.M .n8 .r)) [.x .q .n5,.Z 8 .kL (.A .r .s)] this (af (ã [_] (.x .q .kc) [])).symm
 |node ha hb h hm x y=>
  refine KQ ha.lt.1 (h▸hb.lt.1) h x y ?_;simp only[Ś,ř,cT,cU,cV,dB,cy,dc,lg];exact zz 1 _
noncomputable def wX (b:Bool):Int:=if b then 257 else 256
noncomputable def nL (s:List Int×List Bool) (u:List Nat):Option (List Int×List Bool):=
 if u.length=1/\u≠[41]/\u≠[92] then match s.1.getLast? with
  |some n=>if 256<=n then(if u=[40] then some (s.1.dropLast++[513-n,513-n],s.2) else some (s.1.dropLast,s.2++[!(n==256)])) else none
  |none=>none
 else some s
def tL:List Int×List Bool->List (List Nat)->Option (List Int×List Bool)
 |s,[]=>some s
 |s,u::us=>match nL s u with
  |some s'=>tL s' us
  |none=>none
theorem wY:tL s []=some s:=rfl
theorem wZ:tL s (u::us)=match nL s u with
  |some s'=>tL s' us
  |none=>none:=rfl
theorem zF:∀(us:List (List Nat)) (s:List Int×List Bool) (DO:List (List Nat)),(∀u∈us,u.length=2)->tL s (us++DO)=tL s DO
 |[],s,DO,_=>rfl
 |u::us,s,DO,h=>by
  have hu:=h u (ak);have:nL s u=some s:=by delta nL;exact O (if_neg (by lia)) rfl
  simp only[bg,wY,wZ,this];exact zF us s DO λv hv=>h v (by simp[hv])
theorem KR{bs:List Bool}(hb:bs.length<=20){t:Tr}(h:Ok bs t):∀(P:List Int) (T:List Bool) (DO:List (List Nat)),tL (P++[wX (Ú bs t)],T) (ø false (bN t.pcs)++DO)=tL (P,T++î bs t) DO:= by
 induction h with
 |@leaf k kd h hk=>
  intro P T DO;simp only[Ś,ř,dS,dT,dU,bg,ec]
  (rw[iP (by exact ck (à (.y (.N 92) .ks) []))];refine O bg ?_)
  simp only[wY,wZ];have Jx:nL (P++[wX (Ú bs (.leaf k kd))],T) [97+k]=some (P,T++î bs (.leaf k kd)):= by
   delta nL
   refine O (if_pos ⟨rfl,by simp;exact ck (à (.y (.N 41) .ks) []),by simp;exact ck (à (.y (.N 92) .ks) [])⟩) ?_;simp only[qh,qi];refine O (seg_leaf h) ?_;have hm:Ú bs (.leaf k kd)=bs[k]:= by
    delta Ú
    refine O (seg_leaf h) ?_
    delta Mine.pts
    cases bs[k]<;>rfl
   refine O hm (O (if_pos (by delta wX;split<;>decide)) (O (if_neg (by simp;exact ck (à (.y (.N 40) .ks) []))) ?_));cases bs[k]<;>rfl
  exact O Jx (zF _ _ _ hk.two)
 |@node a b ha Ho h hm x y=>
  intro P T DO;refine xa (IC ha Ho h hm) λm1 m2=>?_;simp only[Ś,ř,dS,dT,dU,gV,bg,ec,ge]
  (rw[iP (by decide)];refine O bg (O (fP _ _ (gC (ha.pcsOk hb)).1) (O (fP _ _ (gC (Ho.pcsOk hb)).1) ?_)))
  simp only[wY,wZ];have Jx:nL (P++[wX (Ú bs (.node a b))],T) [40]=some ((P++[wX (Ú bs b)])++[wX (Ú bs a)],T):= by
   delta nL
   refine O (if_pos ⟨rfl,by decide,by decide⟩) ?_;simp only[qh,qi];refine O (if_pos (by delta wX;split<;>decide)) (O (if_pos trivial) (O m1 (O m2 ?_)));congr 2;refine O (ci ..) ?_;congr 1;cases Ú bs (.node a b)<;>rfl
  refine O Jx ?_;simp only
  (rw[ci (ø false (bN a.pcs))];refine O (x ..) ?_;rw[ci (ø false (bN b.pcs))];refine O (y ..) (O (oN rfl ha Ho h) (aBD (ci ..) ?_)))
  simp only[pF,pG,pH,pI,wY,wZ,bg,ec];refine O (if_neg (by decide)) ?_;rfl
theorem DK:∀(us:List (List Nat)) (o:Nat),(∀u∈us,u.length=2)->č o us=some o
 |[],o,_=>rfl
 |u::us,o,h=>by
  have hu:=h u (by exact ak);have h1:u≠[40]:=λe=>by rw[e] at hu;simp at hu
  have h2:u≠[41]:=λe=>by rw[e] at hu;simp at hu
  simp only[wH,h1,h2,if_false];exact DK us o λv hv=>h v (by simp[hv])
theorem qI (k o:Nat) (us:List (List Nat)):č o ([97+k]::us)=č o us:= by
 simp only[wH];exact O (if_neg (by simp;exact ck (à (.y (.N 40) .ks) []))) (O (if_neg (by simp;exact ck (à (.y (.N 41) .ks) []))) rfl)
theorem w4 (o:Nat) (us:List (List Nat)):č o ([40]::us)=č (o+1) us:=by rfl
theorem zG (o:Nat) (us:List (List Nat)):č (o+1) ([41]::us)=č o us:= by
 simp only[wH];refine O (if_neg (by decide)) (O (if_pos trivial) (O (if_neg (by exact ck (à (.y .n0 .kc) []))) ?_));rfl
theorem w5{bs:List Bool}(hb:bs.length<=20){t:Tr}(h:Ok bs t):∀o:Nat,č o (ø false (bN t.pcs))=some o:= by
 induction h with
 |leaf h hk=>
  intro o;simp only[Ś,ř,dS,dT,dU,bg,ec]
  (rw[iP (by exact ck (à (.y (.N 92) .ks) []))];exact O (qI ..) (DK _ _ hk.two))
 |node ha Ho h hm x y=>
  intro o;simp only[Ś,ř,dS,dT,dU,gV,bg,ec,ge]
  (rw[iP (by decide)];refine O (w4 ..) (O (fP _ _ (gC (ha.pcsOk hb)).1) (O (fP _ _ (gC (Ho.pcsOk hb)).1) (O (i9 ..) (O (x ..) ?_)))))
  dsimp only[ma]
  refine O (i9 ..) (O (y ..) ?_)
  dsimp only[ma,pF,pG,pH,pI]
  refine O (if_neg (by decide)) (O (zG ..) ?_);rfl
theorem KS{bs:List Bool}(hb:bs.length<=20){s:Nat}{t:Tr}(h:Ok bs t):t.f<=s->s<t.l->
  ∃A B,t.pcs=A++(([97+s],false):Pc)::B/\(∀o,č o (ø false (bN A))=some (o+t.dep s))/\97+s∉aW A/\97+s∉aW B:= by
 induction h with
 |@leaf k kd h hk=>
  intro h1 h2
  dsimp only[Ż,ź,Ŷ,ŵ] at h1 h2
  have:k=s:=by exact bf (h1) (Ò (.x .q .r) [.y .q .ke] h2)
  subst this;exact(cX ([]) kd rfl (λo=>rfl) (by simp[cT,cU,cV]) (λhc=>by have:=hk.low _ hc;exact absurd (à (.t .n0 .n0) [.y .ks (.N 97)] this) (gq _)))
 |@node a b ha Ho h hm x y=>
  intro h1 h2
  dsimp only[Ż,ź,Ŷ,ŵ] at h1 h2
  have l1:=ha.lt;have l2:=Ho.lt;have notIn:∀{t:Tr},Ok bs t->(s<t.f\/t.l<=s)->97+s∉aW t.pcs:= by
   intro t ht hs hc;rcases ht.low _ hc with h|h
   ·exact absurd (à (.t .n0 .n0) [.y .ks (.N 97)] h) (gq _)
   ·lia
  have dep0:∀{t:Tr},Ok bs t->(s<t.f\/t.l<=s)->t.dep s=0:= by
   intro t ht
   induction ht with
   |leaf=>intro _;rfl
   |node ha hb h hm iha ihb=>
    intro hs;have l1:=ha.lt;have l2:=hb.lt
    dsimp only[Ż,ź,Ŷ,ŵ] at hs
    simp only[DJ];exact O (if_neg (by lia)) (O (iha (by lia)) (O (ihb (by lia)) rfl))
  by_cases hs:s<a.l
  ·refine dG (x h1 hs) λA B e hp hA hB=>?_;refine(cX (([40],false)::A) (B++(b.pcs++[([41],false)])) (by simp[Ś,ř,e]) (λo=>?_) ?_ ?_)
   ·simp only[dS,dT,dU,bg,ec]
    (rw[iP (by decide)];refine O (w4 ..) (O (hp ..) ?_))
    simp only[DJ];refine O (if_pos (by exact⟨h1,h2⟩)) (O (dep0 Ho (by lia)) ?_);congr 1;exact Ò (.z1 (.A .kc .r) (.A .q (.A (.A .n1 .r) .n0))) []
   ·simp only[cT,cU,cV,ce,not_or];exact⟨by simp;exact ck (à (.y (.N 40) .ks) []),hA⟩
   ·simp only[dB,cT,cU,cV,ce,not_or];exact(d9 hB (notIn Ho (by lia)) (by simp;exact ck (à (.y (.N 41) .ks) [])) (by simp))
  ·refine dG (y (by exact æ (.x .q .r) [.z1 .q .s,.x .s .r] h.symm (ax.mp hs)) h2) λA B e hp hA hB=>?_;refine(cX (([40],false)::(a.pcs++A)) (B++[([41],false)]) (by simp[Ś,ř,e]) (λo=>?_) ?_ ?_)
   ·simp only[dS,dT,dU,gV,bg,ec]
    (rw[iP (by decide)];refine O (w4 ..) (O (fP _ _ (gC (ha.pcsOk hb)).1) (O (i9 ..) ?_));rw[w5 hb ha])
    dsimp only[ma]
    refine O (hp ..) ?_
    dsimp only[DJ]
    refine O (if_pos (⟨h1,h2⟩)) (O (dep0 ha (by lia)) ?_);congr 1;exact Ò (.z1 (.A .kc .r) (.A .q (.A (.A .n1 .n0) .r))) []
   ·simp only[cT,cU,cV,dB,ce,not_or];exact(Ý (by simp;exact ck (à (.y (.N 40) .ks) [])) (notIn ha (by lia)) hA)
   ·simp only[dB,cT,cU,cV,ce,not_or];exact(Ý hB (by simp;exact ck (à (.y (.N 41) .ks) [])) (by simp))
def ú:Nat->List Tr->Nat->Prop
 |i,[],j=>i=j
 |i,t::r,j=>t.f=i/\ú t.l r j
def eK (ts:List Tr):List Pc:=(ts.map Tr.pcs).flatten
def nP (s:Nat) (ts:List Tr):Nat:=(ts.map (Tr.dep s)).sum
end L2
theorem zH:∀n:Nat,(cw n).reverse=(cw n).map (λk=>n-1-k)
 |0=>rfl
 |n+1=>by
  refine O vx (O List.reverse_append (O (zH n) (O dj ?_)));have h:∀m:Nat,(cw (m+1)).map (λk=>m-k)=m::(cw m).map (λk=>m-1-k):= by
   intro m;refine O ov ?_;simp[Fq];intro a _;lia
  have:=h n;rw[vx,dj] at this;simp only[Aa,List.reverse_nil,ec,bg] at*;exact O (show n+1-1=n by exact bf (Ò (.x .q .r) [.z1 .kc .ke] (af (ã [_] (.x .n1 .kc) []))) (Ò (.x .q .r) [.z1 .kc .ke] (af (ã [_] (.x .n1 .kc) [])).symm)) this.symm
theorem aAI (l:List PV) (hl:l.length<=100000):eH (.lst l) none none (some (-1))=some (.lst l.reverse):= by
 show(if _ then _ else _)=_;refine O (if_pos ⟨hl,by simp⟩) ?_;congr 2
 delta fC sliceBounds sliceRange
 simp only[pw,show ¬((-1:Int)>0) by decide,if_false];have e:(if ((l.length:Int)-1 > -1) then((l.length:Int)-1 - -1 - -1-1)/(- -1) else 0).toNat=l.length:= by
  split
  ·exact O (show(- -1:Int)=1 by decide) (O (Dr ..) (bf (Ò (.x .q .r) [.e .q (.S (.S (.S (.S .r .n1) .kn) .kn) .n1)] (bw (ã [_] (.l .n0 (.S (.S (.S (.S .q .n1) .kn) .kn) .n1)) []))) (Ò (.x .q .r) [.e (.S (.S (.S (.S .q .n1) .kn) .kn) .n1) .r] (bw (ã [_] (.l .n0 (.S (.S (.S (.S .q .n1) .kn) .kn) .n1)) [])).symm)))
  ·rename_i hz;have:l.length=0:=Nat.le_zero.mp (ax.mp λq=>hz (à (.t .kn (.S .q .n1)) [.y .n0 .q] q));exact bf (Ò (.x .q .r) [.e .q .n0] (bw (ã [] (.l .n0 .n0) []))) (Ò (.x .q .r) [.z1 .q .n0] this)
 refine O e ?_;have e2:(cw l.length).map (λk:Nat=>((l.length:Int)-1+-1*(k:Int)).toNat)=(cw l.length).reverse:= by
  refine O (zH ..) (ej λk hk=>?_);obtain⟨r,e⟩:=Nat.exists_eq_add_of_lt (fy.mp hk);rw[e,Nat.add_sub_cancel,uj];exact congrArg uk (show(((k+r+1:Nat):Int)-1+-1*(k:Int))=(r:Int) by exact Ò (.e (.A (.S (.C (.A .ko .n1)) .n1) (.M .kn .q)) .r) [])
 rw[e2,List.filterMap_reverse];have:=wB l l.length 0;rw[xk,ly] at this;rw[show(λx=>0+x)=(id:Nat->Nat) by funext x;simp,List.map_id] at this;rw[this]
namespace L2
variable{n:Nat}
set_option tactic.hygienic true in
theorem KU (w m sn:PV) (P:List Int) (T:List Bool) (acc u:List Nat) (p:Nat) (x8 x9:Option PV) (h:nL (P,T) u=some (P',T')) (hp:p+1=acc.length+u.length)
  (hl:acc.length+u.length<=5000) (hP:P.length<=5000) (hT:T.length<=5000) (hu:∀c∈u,c<128):
  ∃y8,aF (FT aP (n+1)) (.cons (.aug 4 .Add (.var 7)) (.cons Q05 (.cons (.ite (.and (.cmp .Eq (.bi .len (.cons (.var 7) .nil)) Qb) (.cmp .NotIn (.var 7) (.cst (.str (")\\":Str))))) (.cons (.pop 8 2) (.cons (.ite (.not (.call 1 Qx)) (.cons (.ret (.list .nil)) .nil) .nil) (.cons (.ite (.cmp .Eq (.var 7) (.cst (.str ("(":Str)))) Qw (.cons (.app 5 (.ite (.cmp .Eq (.var 8) (.cst (.int 256))) (.cst (.str ("<":Str))) (.cst (.str (">":Str))))) .nil)) .nil))) .nil) .nil)))
   [some w,some m,some (a8 P),some sn,some (.str (sx acc)),some (.lst (T.map Ó)),some (.int (p:Int)),some (.str (sx u)),x8,x9]=
   some ([some w,some m,some (a8 P'),some sn,some (.str (sx (acc++u))),some (.lst (T'.map Ó)),some (.int (p:Int)),some (.str (sx u)),y8,x9],.next):= by
 have pos:aB (FT aP (n+1)) (.cmp .NotEq (.var 6) (.bin .Sub (.bi .len (.cons (.var 4) .nil)) Qb)) [some w,some m,some (a8 P),some sn,some (.str (sx (acc++u))),some (.lst (T.map Ó)),some (.int (p:Int)),some (.str (sx u)),x8,x9]=some (.bool false):= by
  simp only[aH,Ù,oA (acc++u) (by simp;exact aa hl (by decide)),t5];congr 2;have:((p:Int)==((acc++u).length:Int)-1)=true:=by simp;exact æ (.e .q (.S (.A .r .s) .n1)) [.z1 .kc (.A .r .s)] hp
  rw[this];rfl
 have first:dY (FT aP (n+1)) (.aug 4 .Add (.var 7)) [some w,some m,some (a8 P),some sn,some (.str (sx acc)),some (.lst (T.map Ó)),some (.int (p:Int)),some (.str (sx u)),x8,x9]=
   some ([some w,some m,some (a8 P),some sn,some (.str (sx (acc++u))),some (.lst (T.map Ó)),some (.int (p:Int)),some (.str (sx u)),x8,x9],.next):= by
  refine(aug (x:=.str (sx acc)) (y:=.str (sx u)) (z:=.str (sx (acc++u))) rfl rfl ?_).trans rfl;show(if _ then _ else _)=_;rw[if_pos (by rw[kG,kG];exact aa hl (by decide)),AL]
 have test:aB (FT aP (n+1)) (.and (.cmp .Eq (.bi .len (.cons (.var 7) .nil)) Qb) (.cmp .NotIn (.var 7) (.cst (.str (")\\":Str))))) [some w,some m,some (a8 P),some sn,some (.str (sx (acc++u))),some (.lst (T.map Ó)),some (.int (p:Int)),some (.str (sx u)),x8,x9]=some (.bool (decide (u.length=1/\u≠[41]/\u≠[92]))):= by
  by_cases h1:u.length=1
  ·apply ä (jp.mp h1);intro c;have occ:cD .NotIn (.str (sx [c])) (.str (")\\":Str))=some (!decide (c∈[41,92])):= by
    show some (!(!(dd (sx [41,92]) ⟨#[c]⟩ 0 (sx [41,92]).length 1).isEmpty))=_;rw[tc,n9]
   simp only[aH,Ù,oA [c] (rh _),occ];congr 2
   by_cases Pm:c=41
   ·subst Pm;rfl
   ·by_cases Xn:c=92
    ·subst Xn;rfl
    ·simp[Pm,Xn]
  ·have:((u.length:Int)==1)=false:=by simp;lia
   simp only[aH,Ù,oA u (Ò (.x .q .kv) [.x (.A .r .q) (.N 5000)] hl),this];simp[h1]
 delta nL at h
 by_cases hc:u.length=1/\u≠[41]/\u≠[92]
 ·rw[if_pos hc] at h;rw[decide_eq_true hc] at test;simp only at h;split at h
  ·rename_i k hk;split at h
   ·rename_i Vp;have hPe:P=P.dropLast++[k]:= by
     have Gv:P≠[]:=by intro e;rw[e] at hk;trivial
     have:=List.dropLast_concat_getLast Gv;rw[List.getLast?_eq_some_getLast Gv] at hk;cases hk;exact this.symm
    generalize hQ:P.dropLast=Q at*;subst hPe;have nt:FT aP (n+1) 1 [.int k]=some (.bool true):=by rw[DB];simp[Vp]
    have Sy:dY (FT aP (n+1)) (.pop 8 2) [some w,some m,some (a8 (Q++[k])),some sn,some (.str (sx (acc++u))),some (.lst (T.map Ó)),some (.int (p:Int)),some (.str (sx u)),x8,x9]=
      some ([some w,some m,some (a8 Q),some sn,some (.str (sx (acc++u))),some (.lst (T.map Ó)),some (.int (p:Int)),some (.str (sx u)),some (.int k),x9],.next):= by
     refine(pop (l:=Q.map .int) (y:=.int k) (by simp[nM,nN,a8]) (by simp at hP⊢;exact aa hP (by decide))).trans rfl
    by_cases Nm:u=[40]
    ·rw[if_pos Nm] at h;cases h;refine⟨some (.int k),seq first (seq (dE pos cE) (aK (fJ test (seq Sy (seq (dE ?_ cE) (aK (fJ ?_ (aK (asgO (l:=(Q++[513-k,513-k]).map .int) ?_))))))))) ⟩
     ·simp only[aH,Ù,nt];rfl
     ·rw[show("(":Str)=sx [40] from rfl]
      simp only[aH,Ù,k8,Nm];rfl
     ·simp only[aH,Ù]
      delta a8
      rw[kF _ _ (by simp at hP⊢;exact aa hP (by decide))];simp
    ·rw[if_neg Nm] at h;cases h;refine⟨some (.int k),seq first (seq (dE pos cE) (aK (fJ test (seq Sy (seq (dE ?_ cE) (aK (dE ?_ (aK ((app (l:=T.map Ó) (p:=Ó (!(k==256))) rfl ?_ (by simp;exact aa hT (by decide))).trans ?_)))))))))⟩
     ·simp only[aH,Ù,nt];rfl
     ·rw[show("(":Str)=sx [40] from rfl]
      simp only[aH,Ù,k8];have:(u==[40])=false:=by simpa using Nm
      rw[this]
     ·simp only[aH,Ù];cases k==256<;>rfl
     ·simp only[bP,bQ,dj,al,gw]
   ·cases h
  ·cases h
 ·rw[if_neg hc] at h;cases h;rw[decide_eq_false hc] at test;exact⟨x8,seq first (seq (dE pos cE) (aK (dE test cE)))⟩
theorem KV (h:nL (P,T) u=some (P',T')):P'.length<=P.length+1/\T'.length<=T.length+1:= by
 delta nL at h
 split at h
 ·simp only at h;split at h
  ·rename_i k hk;have Gv:0<P.length:= by
    cases P with
    |nil=>trivial
    |cons a l=>simp
   split at h
   ·split at h
    ·cases h;simp;exact cf (af (Gv))
    ·cases h;simp;exact à (.x .q (.A .kc .n1)) []
   ·cases h
  ·cases h
 ·cases h;simp
set_option tactic.hygienic true in
theorem zI (w m sn:PV) (x9:Option PV):∀(Ŭ:List (Nat×List Nat)) (P:List Int) (T:List Bool) (acc:List Nat) (x6 x7 x8:Option PV) (P':List Int) (T':List Bool),
  tL (P,T) (Ŭ.map (·.2))=some (P',T')->ĭ acc.length Ŭ->acc.length+(Ŭ.map (·.2)).flatten.length<=2000->P.length+Ŭ.length<=5000->T.length+Ŭ.length<=5000->(∀x∈Ŭ,∀c∈x.2,c<128)->
  ∃y6 y7 y8,eR (aF (FT aP (n+1)) (.cons (.aug 4 .Add (.var 7)) (.cons Q05 (.cons (.ite (.and (.cmp .Eq (.bi .len (.cons (.var 7) .nil)) Qb) (.cmp .NotIn (.var 7) (.cst (.str (")\\":Str))))) (.cons (.pop 8 2) (.cons (.ite (.not (.call 1 Qx)) (.cons (.ret (.list .nil)) .nil) .nil) (.cons (.ite (.cmp .Eq (.var 7) (.cst (.str ("(":Str)))) Qw (.cons (.app 5 (.ite (.cmp .Eq (.var 8) (.cst (.int 256))) (.cst (.str ("<":Str))) (.cst (.str (">":Str))))) .nil)) .nil))) .nil) .nil)))) [6,7] (Ŭ.map ŷ) [some w,some m,some (a8 P),some sn,some (.str (sx acc)),some (.lst (T.map Ó)),x6,x7,x8,x9]=
   some ([some w,some m,some (a8 P'),some sn,some (.str (sx (acc++(Ŭ.map (·.2)).flatten))),some (.lst (T'.map Ó)),y6,y7,y8,x9],.next)
 |[],P,T,acc,x6,x7,x8,P',T',h,_,_,_,_,_=>by
  cases h;exact(fX x6 x7 x8 (by simp[AP]))
 |(p,u)::Ŭ,P,T,acc,x6,x7,x8,P',T',h,hp,hl,hP,hT,hc=>by
  simp only[al,wY,wZ] at h;split at h
  ·rename_i s hs;obtain⟨P1,T1⟩:=s;have hlen:=KV hs;refine xa hp λKe Ll=>?_;clear hp;simp only[al,lm,cy,dc] at hl hP hT;refine xe (KU (n:=n) w m sn P T acc u p x8 x9 hs Ke (æ (.x .ko (.N 5000)) [.x (.A .q (.A .r .s)) (.N 2000)] hl) (Ò (.x .q (.N 5000)) [.x (.A .q .ke) (.N 5000)] hP) (Ò (.x .q (.N 5000)) [.x (.A .q .ke) (.N 5000)] hT) (hc (p,u) (ak))) λy8 Jx=>?_;refine jA (zI w m sn x9 Ŭ P1 T1 (acc++u) (some (.int (p:Int))) (some (.str (sx u))) y8 P' T' h (by rw[cy];exact Ll) (by rw[cy];exact æ (.x (.A .ko .s) (.N 2000)) [.x (.A .q (.A .r .s)) (.N 2000)] hl) (æ (.x .ko (.N 5000)) [.x (.A .s .ke) (.N 5000),.x .q .kL] hP hlen.1) (æ (.x .ko (.N 5000)) [.x (.A .s .ke) (.N 5000),.x .q .kL] hT hlen.2) (λx hx=>hc x (by simp[hx]))) λy6' y7' y8' ih=>?_;refine(fX y6' y7' y8' (dF rfl Jx ?_));rw[ih];simp
  ·cases h
theorem mI{bs:List Bool}(hb:bs.length<=20):∀{ts:List Tr}{i j:Nat},(∀t∈ts,Ok bs t)->ú i ts j->
  Ċ (eK ts)/\(∀c∈aW (eK ts),c<97\/(97+i<=c/\c<97+j))/\(aW (eK ts)).length<=8*(j-i)/\i<=j/\(ts≠[]->j<=bs.length)/\(∀o,č o (ø false (bN (eK ts)))=some o)/\
  (∀(P:List Int) (T:List Bool) DO,tL (P++(ts.map λt=>wX (Ú bs t)).reverse,T) (ø false (bN (eK ts))++DO)=tL (P,T++(bs.take j).drop i) DO)
 |[],i,j,_,h=>by
  have h:i=j:=h;subst h;refine(jD (by simp[Ċ,eK]) (by simp[eK,cT,cU,cV]) (iu _) (ai _) (Ý (by simp) (λo=>rfl) (λP T DO=>?_)));simp[eK,dS,dT,dU,pF,pG,pH,pI]
 |t::ts,i,j,Hj,h=>by
  refine xa h λh1 h2=>?_;clear h;have ht:=Hj t (ak);refine tM (mI hb (λu hu=>Hj u (by simp[hu])) h2) λq1 q2 q3 q4 q5 q6 q7=>?_;have l1:=ht.lt;have e:eK (t::ts)=t.pcs++eK ts:=by rfl
  rw[e];have p1:=ht.pcsOk hb;refine(jD ?_ ?_ ?_ (Ľ (.x .q .r) [.z1 .q .s,.x .t .r,.y .s .t] h1.symm q4 l1.1) (Ý ?_ ?_ ?_))
  ·intro p hp;rcases ce.mp hp with hp|hp
   ·exact p1 p hp
   ·exact q1 p hp
  ·intro c hc;rw[dB] at hc;rcases ce.mp hc with hc|hc
   ·rcases ht.low c hc with h|h
    ·left;exact h
    ·right;exact⟨æ (.x .ks .r) [.z1 .q .s,.x (.A (.N 97) .s) .r] h1.symm h.1,æ (.y .q (.A (.N 97) .r)) [.x .s .r,.y .q (.A (.N 97) .s)] q4 h.2⟩
   ·rcases q2 c hc with h|h
    ·left;exact h
    ·right;exact⟨Ľ (.x .ks .r) [.z1 .q .s,.y .s .t,.x (.A (.N 97) .t) .r] h1.symm l1.1 h.1,h.2⟩
  ·have:=ht.len;rw[dB,cy];exact ã [_,_,_,_,_,_,_,_,_] (.x .ko (.M .n8 .s)) [.Z 8 .t .u,.x .r (.M .n8 .v),.x (.A .q .n2) (.M .n8 .w),.Z 8 .x (.A .s .t),.Z 8 (.A .v .y) .x,.Z 8 (.A .w .u) .y] h1.symm q3 this (af (Ľ (.x .q .r) [.z1 .q .s,.x .t .r,.y .s .t] h1.symm q4 l1.1)).symm (af (q4)) (af (db l1.1))
  ·intro _;cases ts with
   |nil=>have:t.l=j:=h2;exact æ (.x .q .r) [.x .s .r,.z1 .q .s] l1.2 this.symm
   |cons u r=>exact q5 (by simp)
  ·intro o;rw[gV,fP _ _ (gC p1).1,i9,w5 hb ht];exact q6 o
  ·intro P T DO;rw[gV,fP _ _ (gC p1).1,al,Aa,<-ci,ci (ø false (bN t.pcs)),KR hb ht,q7];congr 2;rw[ci];congr 1
   delta î
   rw[h1];exact(IB (æ (.x .q .r) [.z1 .q .s,.y .s .r] h1.symm l1.1) q4 (l1.2)).symm
theorem Q2 (n:Nat) (args:List PV):FT aP (n+1) 8 args=e9 (FT aP n) Co.bD args:=ft n 8 bD args rfl
theorem YJ (n:Nat) (args:List PV):FT aP (n+1) 9 args=e9 (FT aP n) (Co.bM 8) args:=ft n 9 bM args rfl
def nE{bs:List Bool}{ts:List Tr}:Prop:=∀(hb:bs.length<=20) (Hj:∀t∈ts,Ok bs t) (Hx:ú 0 ts bs.length) (Jo:ts.length<=20),FT aP (n+2) 19 [.str (sx (aW (eK ts))),.lst (ts.map λt=>Ó (Ú bs t))]=some (.lst (bs.map Ó))
def eQ:=gX (a7 (a7 @nE))
def bO:=eQ.1.2
def aL:=eQ.2
theorem KW:@nE eQ.1.1 bO aL:= by
 intro hb Hj Hx Jo;refine tM (mI hb Hj Hx) λq1 q2 q3 q4 q5 q6 q7=>?_;rw[ft (eQ.1.1+1) 19 gB _ rfl];apply kE rfl;show iR (aF _ gB.code [some (.str (sx (aW (eK aL)))),some (.lst (aL.map λt=>Ó (Ú bO t))),none,none,none,none,none,none,none,none])=_
 delta gB
 have Sz:Ā [92]:= by
  left;trivial
 have Pq:=yY q1 Sz;have Ta:FT aP (eQ.1.1+1) 8 [.str (sx (aW (eK aL)++[92]))]=some (.str (sx (bN (eK aL)++[92]))):= by
  rw[Q2,<-Pq];refine yX (by simp;exact æ (.x .q (.N 8999)) [.X 8 .r (.N 20),.x .q (.M .n8 .s),.Z 8 (.A .s .n0) .r] hb q3 (af (ã [_] (.x .n0 .q) []))) ?_;rw[ao];intro c hc;simp only[decide_eq_true_eq];rcases ce.mp hc with hc|hc
  ·rcases q2 c hc with h|h<;>lia
  ·simp at hc;exact à (.y .q (.N 128)) [.z1 .q (.N 92)] hc
 have Jj:∀(l:List Pc),(∀c∈bN l,c∈aW l)/\(bN l).length<=(aW l).length:= by
  intro l
  induction l with
  |nil=>trivial
  |cons p l ih=>
   obtain⟨s,b⟩:=p;cases b
   ·simp only[dS,dT,dU,cT,cU,cV,ce,cy];exact⟨λc hc=>hc.imp id (ih.1 c),by exact æ (.x .ko (.A .q .s)) [.x .r .s] ih.2⟩
   ·simp only[dS,dT,dU,cT,cU,cV,ce,cy];exact⟨λc hc=>.inr (ih.1 c hc),by exact æ (.x .q (.A .r .s)) [.x .q .s] ih.2⟩
 have IF:=Jj (eK aL);have Ix:(bN (eK aL)++[92]).all (·<128)=true:= by
  rw[ao];intro c hc;simp only[decide_eq_true_eq];rcases ce.mp hc with hc|hc
  ·rcases q2 c (IF.1 c hc) with h|h<;>lia
  ·simp at hc;exact à (.y .q (.N 128)) [.z1 .q (.N 92)] hc
 refine bG (asgO (l:=([0]++(aL.map λt=>wX (Ú bO t)).reverse).map .int) ?_) ?_
 ·have hs:aB (FT aP (eQ.1.1+1)) (.slc Qu Qa Qa (.neg Qb)) [some (.str (sx (aW (eK aL)))),some (.lst (aL.map λt=>Ó (Ú bO t))),none,none,none,none,none,none,none,none]=some (.lst (aL.map λt=>Ó (Ú bO t)).reverse):= by
   exact aAI _ (by simp;exact aa Jo (by decide):(aL.map λt=>Ó (Ú bO t)).length<=100000)
  have hc:=kI (F:=FT aP (eQ.1.1+1)) (pe:=[some (.str (sx (aW (eK aL)))),some (.lst (aL.map λt=>Ó (Ú bO t))),none,none,none,none,none,none,none,none]) (src:=.val (.slc Qu Qa Qa (.neg Qb))) (e:=.ite (.cmp .Eq (.var 9) (.cst (.str ("<":Str)))) (.cst (.int 256)) (.cst (.int 257))) (c:=.cst .none) (tg:=9) (À:=(aL.map λt=>Ó (Ú bO t)).reverse)
   (λp=>match cD .Eq p (.str ("<":Str)) with|some true=>.int 256|_=>.int 257) (lM hs (by simp;exact aa Jo (by decide))) (by
    intro p hp;rw[List.mem_reverse] at hp;apply jQ (fj.mp hp);intro t ht;rw[show PV.str ("<":Str)=Ó false from rfl];simp only[aH,Ù,DF];cases Ú bO t<;>rfl)
  have e:((aL.map λt=>Ó (Ú bO t)).reverse.map λp=>match cD .Eq p (.str ("<":Str)) with|some true=>PV.int 256|_=>PV.int 257)=((aL.map λt=>wX (Ú bO t)).reverse).map .int:= by
   rw[<-Ao,<-Ao,cr,cr];refine ej λt _=>?_
   dsimp only[oc,show PV.str ("<":Str)=Ó false from rfl,DF]
   cases Ú bO t<;>rfl
  rw[e] at hc;simp only[aH] at hc⊢;rw[hc]
  dsimp only[bm]
  rw[kF _ _ (by simp;exact à (.x (.A .n1 .q) .kv) [.x .q (.N 20)] Jo)];rfl
 dsimp only[bP,bQ]
 refine bG (asg (p:=.str (sx (bN (eK aL)++[92]))) ?_) ?_
 ·rw[show("\\":Str)=sx [92] from rfl];simp only[aH,Ù,iK (aW (eK aL)) [92] (by simp;exact æ (.x .q (.N 99999)) [.X 8 .r (.N 20),.x .q (.M .n8 .s),.Z 8 (.A .s .n0) .r] hb q3 (af (ã [_] (.x .n0 .q) []))),Ta]
 refine bG (asg (by rfl)) ?_;refine bG (asgO (l:=[]) (by rfl)) ?_
 dsimp only[bP,bQ]
 have Tb:tL ([0]++(aL.map λt=>wX (Ú bO t)).reverse,[]) ((esc 0 false (bN (eK aL)++[92])).map (·.2))=some ([0],bO):= by
  rw[eU,fP _ _ (gC q1).1,q7 [0] []];simp only[ec,xk,ly];rfl
 have Iu:((esc 0 false (bN (eK aL)++[92])).map (·.2)).flatten=bN (eK aL)++[92]:=by rw[eU,rE];rfl
 have Rb:=oY (bN (eK aL)++[92]) 0 false;have Mq:∀x∈esc 0 false (bN (eK aL)++[92]),∀c∈x.2,c<128:= by
  intro x hx c hc;have:c∈((esc 0 false (bN (eK aL)++[92])).map (·.2)).flatten:=List.mem_flatten.mpr (Õ x.2 (ip hx) hc);rw[Iu] at this;have:=ao.mp Ix c this
  simpa using this
 have Iq:=HX (bN (eK aL)++[92]) 0 false (by simp);simp only[ay,if_false] at Iq;refine jA (zI (n:=eQ.1.1) (.str (sx (aW (eK aL)))) (.lst (aL.map λt=>Ó (Ú bO t))) (.str (sx (bN (eK aL)++[92]))) none (esc 0 false (bN (eK aL)++[92])) _ [] [] none none none [0] bO Tb Iq
  (by rw[Iu];simp;exact Ľ (.x .q (.N 1999)) [.X 8 .r (.N 20),.x .s (.M .n8 .t),.x .q .s,.Z 8 (.A .t .n0) .r] hb q3 IF.2 (af (ã [_] (.x .n0 .q) []))) (by simp at Rb⊢;exact Ι (.x (.A .kc .r) (.N 5000)) [.X 8 .s (.N 20),.x .q (.N 20),.x .t (.M .n8 .u),.x .v .t,.x .r (.A (.A .v .n1) .n1),.Z 8 (.A .u .n0) .s] hb Jo q3 IF.2 Rb (af (ã [_] (.x .n0 .q) []))) (by simp at Rb⊢;exact Ŝ (.x .q (.N 5000)) [.X 8 .r (.N 20),.x .s (.M .n8 .t),.x .u .s,.x .q (.A (.A .u .n1) .n1),.Z 8 (.A .t .n0) .r] hb q3 IF.2 Rb (af (ã [_] (.x .n0 .q) []))) Mq) λy6 y7 y8 Jc=>?_
 rw[Iu] at Jc;refine bG (HN (p:=.str (sx (bN (eK aL)++[92]))) (by rfl) (k9 (by simp;exact Ľ (.x .q (.N 9999)) [.X 8 .r (.N 20),.x .s (.M .n8 .t),.x .q .s,.Z 8 (.A .t .n0) .r] hb q3 IF.2 (af (ã [_] (.x .n0 .q) []))) Ix) Jc) ?_;refine fK ?_;simp only[aH,Ù,k8,ec,beq_self_eq_true];have hg:eG (a8 [0]) (.int (-1))=some (.int 0):=rfl;rfl
theorem Q3 {bs}:@nE n bs ts:=iA (a7 (a7 @nE)) ((n,bs),ts) KW
end L2
namespace L2
variable{n:Nat}
noncomputable def pJ (ms:List Bool) (p:Nat):List Bool:=ms.take p++[!(ms.getD p false)]++ms.drop (p+2)
noncomputable def gW (ms:List Bool):List Nat:=(cw (ms.length-1)).filter λp=>ms.getD p false==ms.getD (p+1) false
def rO (ms:List Bool):List Nat:=(gW ms).filter λp=>Ş (pJ ms p)
def cN (ms:List Bool):List Nat:=if (rO ms).isEmpty then gW ms else rO ms
def rP (ms:List Bool):Nat:=if Ş ms then(if pts ms%3=0 then 2 else 1) else ms.length
def A2 (ms:List Bool):Bool:=(cN ms).all (λp=>rP (pJ ms p)==rP ms)&&(Ş ms==!(gW ms).isEmpty)
theorem Q4:((cw 8).all λn=>(wS n).all A2)=true:=by decide +kernel
theorem A3{ms:List Bool}(h:ms.length<=7):A2 ms=true:= by
 have:=ao.mp Q4 ms.length (by simp;exact ia h (by decide));exact ao.mp this ms (kJ ms)
theorem w6{α:Type}(f:α->PV) (l:List α) (k:Nat) (d:α) (h:k<l.length):(l.map f)[k]?=some (f (l.getD k d)):= by
 refine O (dr) (O (bl h) ?_);simp[on,h]
theorem F4 (m:Nat) (q:Nat->Bool) (b:PV->Bool) (h:∀k<m,b (.int (k:Int))=q k):(rng m).filter b=((cw m).filter q).map λk:Nat=>PV.int (k:Int):= by
 unfold rng;refine O Bt ?_;congr 1;refine List.filter_congr λk hk=>?_;exact h k (fy.mp hk)
noncomputable def pC (l:List Nat):PV:=.lst (l.map λk:Nat=>PV.int (k:Int))
section
variable{pe:Å}{ms:List Bool}
theorem zJ (Kp:lk pe 11=some (.lst (ms.map Ó))) (hs:∀v,lk (st pe 36 v) 36=some v/\lk (st pe 36 v) 11=lk pe 11) (h1:1<=ms.length) (h2:ms.length<=1000):
  aB (FT aP n) Qi pe=some (pC (gW ms)):= by
 have hlen:aB (FT aP n) (.bin .Sub (.bi .len (.cons (.var 11) .nil)) Qb) pe=some (.int ((ms.length-1:Nat):Int)):= by
  simp only[aH,Kp];have:Ē .len [.lst (ms.map Ó)]=some (.int (ms.length:Int)):= by
   show(if _ then _ else _)=_;refine O (if_pos (by simp;exact aa h2 (by decide))) ?_;simp
  refine O this ?_;simp only[nZ];congr 2;exact cb (Ò (.l (.S .q .n1) .r) [.z1 .q .ke] (af (ã [_] (.x .n1 .q) [.x .n1 .q] h1)).symm) (Ò (.l .q (.S .r .n1)) [.z1 .kc .r] (af (ã [_] (.x .n1 .q) [.x .n1 .q] h1)))
 have key:∀k<ms.length-1,aB (FT aP n) (.cmp .Eq (.sub (.var 11) (.var 36)) (.sub (.var 11) (.bin .Add (.var 36) Qb))) (st pe 36 (.int (k:Int)))=some (.bool (ms.getD k false==ms.getD (k+1) false)):= by
  intro k hk;refine xa (hs (.int (k:Int))) λq1 q2=>?_;have g1:eG (.lst (ms.map Ó)) (.int (k:Int))=some (Ó (ms.getD k false)):=iO (yb) (æ (.t .q (.N 1000000)) [.x .r .kj,.y .q .s,.z1 .kL .r] h2 hk (af (ã [_] (.x .n1 .q) [.x .n1 .q] h1))) (by exact O (dh ..) (w6 Ó ms k false (æ (.y .q .r) [.y .q .s,.z1 .kL .r] hk (af (ã [_] (.x .n1 .q) [.x .n1 .q] h1)))));have g2:eG (.lst (ms.map Ó)) (.int ((k:Int)+1))=some (Ó (ms.getD (k+1) false)):=iO (à (.l .n0 .kc) []) (æ (.t .kc (.N 1000000)) [.x .r .kj,.y .q .s,.z1 .kL .r] h2 hk (af (ã [_] (.x .n1 .q) [.x .n1 .q] h1))) (by exact O (show((k:Int)+1).toNat=k+1 by exact bf (Ò (.x .q .ke) [.e .q .ke] (bw (ã [_] (.l .n0 .kc) []))) (Ò (.x .kc .r) [.e .kc .r] (bw (ã [_] (.l .n0 .kc) [])).symm)) (w6 Ó ms (k+1) false (æ (.y .kc .r) [.y .q .s,.z1 .kL .r] hk (af (ã [_] (.x .n1 .q) [.x .n1 .q] h1)))));simp only[aH,q1,q2,Kp,dN,g1,g2,DF,bm]
 have:=tA (F:=FT aP n) (pe:=pe) (src:=.rng1 (.bin .Sub (.bi .len (.cons (.var 11) .nil)) Qb)) (e:=.var 36) (c:=.cmp .Eq (.sub (.var 11) (.var 36)) (.sub (.var 11) (.bin .Add (.var 36) Qb))) (tg:=36) (À:=rng (ms.length-1))
  (λp=>p) (λp=>match p with|.int k=>ms.getD k.toNat false==ms.getD (k.toNat+1) false|_=>false) (wP hlen (Ò (.x .q .kv) [.x .r .kj,.z1 .kc .r] h2 (af (ã [_] (.x .n1 .q) [.x .n1 .q] h1)))) (by
   intro p hp;apply jQ (fj.mp hp);intro k hk;rw[fy] at hk;refine⟨?_,λ_=>?_⟩
   ·simp only[dh];exact key k hk
   ·exact(hs _).1)
 (refine O this (O (Eb ..) ?_);rw[F4 _ (λp=>ms.getD p false==ms.getD (p+1) false)])
 ·rfl
 ·intro k hk;rfl
theorem DM{p:Nat}(h:p∈gW ms):p+1<ms.length/\ms.getD p false=ms.getD (p+1) false:= by
 unfold gW at h;rw[qp,fy] at h;exact⟨by omega,am h.2⟩
theorem KY (Kp:lk pe 11=some (.lst (ms.map Ó))) (h20:lk pe 20=some (pC (gW ms))) (hs:∀v,lk (st pe 35 v) 35=some v/\lk (st pe 35 v) 11=lk pe 11) (h2:ms.length<=7):
  aB (FT aP (n+2)) (.comp (.var 35) 35 (.val (.var 20)) true Qe) pe=some (pC (rO ms)):= by
 have key:∀k∈gW ms,aB (FT aP (n+2)) Qe (st pe 35 (.int (k:Int)))=some (.bool (Ş (pJ ms k))):= by
  intro k hk;refine xa (DM hk) λVq hk2=>?_;refine xa (hs (.int (k:Int))) λq1 q2=>?_;have g1:eG (.lst (ms.map Ó)) (.int (k:Int))=some (Ó (ms.getD k false)):=iO (yb) (Ò (.t .q (.N 1000000)) [.x .r .n7,.y .kc .r] h2 Vq) (by exact O (dh ..) (w6 Ó ms k false (Ò (.y .q .r) [.y .kc .r] Vq)));have Mt:(pJ ms k).length<=7:=by unfold pJ;simp;exact Ľ (.x (.A .q .ke) .n7) [.x .s .n7,.x .q .t,.z1 (.A .r (.A .t .n2)) .s] h2 (Br _ _) (af (ã [_,_] (.x (.A .q .n2) .r) [.y .kc .r] Vq))
  simp only[aH,q1,q2,Kp,mP,mQ,PL _ (k:Int) (yb) (by simp;exact aa h2 (by decide):(ms.map Ó).length<=100000),g1,KM,dN,PM _ ((k:Int)+2) (à (.l .n0 (.A .q .n2)) []) (by simp;exact aa h2 (by decide):(ms.map Ó).length<=100000),bm];refine O (kF _ _ (by simp;exact Ò (.x .q (.N 99999)) [.x .r .n7,.x .q .r] h2 (nh _ _))) ?_;simp only;refine O (kF _ _ (by simp;exact æ (.x (.A .kc .r) .kv) [.X 2 .s .n7,.x .q .s,.x .r .s] h2 (nh _ _) (uy _ _))) ?_;simp only;have e:(ms.map Ó).take (k:Int).toNat++[Ó (!ms.getD k false)]++(ms.map Ó).drop ((k:Int)+2).toNat=(pJ ms k).map Ó:= by
   unfold pJ;refine O (dh ..) (O (show((k:Int)+2).toNat=k+2 by exact bf (Ò (.x .q (.A .r .n2)) [.e .q (.A .r .n2)] (bw (ã [_] (.l .n0 (.A .q .n2)) []))) (Ò (.x (.A .q .n2) .r) [.e (.A .q .n2) .r] (bw (ã [_] (.l .n0 (.A .q .n2)) [])).symm)) ?_);simp[dj,Dc,Dd]
  exact O e (O (QX Mt) rfl)
 have:=tA (F:=FT aP (n+2)) (pe:=pe) (src:=.val (.var 20)) (e:=.var 35) (c:=Qe) (tg:=35) (À:=(gW ms).map λk:Nat=>PV.int (k:Int))
  (λp=>p) (λp=>match p with|.int k=>Ş (pJ ms k.toNat)|_=>false) (lM (by simp only[aH,h20];rfl) (by
   have:(gW ms).length<=ms.length-1:=by unfold gW;exact aa (pr ..) (by simp)
   simp;exact æ (.x .q .kv) [.x .r .n7,.x .q .s,.x .s .r] h2 this (uy _ _))) (by
   intro p hp;apply jQ (fj.mp hp);intro k hk;refine⟨?_,λ_=>?_⟩
   ·simp only[dh];exact key k hk
   ·exact(hs _).1)
 refine O this (O (Eb ..) (O Bt ?_));rfl
end
end L2
namespace L2
def Η (t:Tr):PV:=.tup [.int (t.f:Int),.int (t.l:Int)]
def Ũ (t:Tr):PV:=.str (sx (aW t.pcs))
def pc (ls:List ö) (bs:List Bool) (t:Tr):ö:=i4 (î ls t) (î bs t)
structure Cst where
 a0:Option PV
 a1:Option PV
 a2:Option PV
 a5:Option PV
 a9:Option PV
 a12:Option PV
 a13:Option PV
 a14:Option PV
 a16:Option PV
structure Υ where
 x19:Option PV
 x20:Option PV
 x21:Option PV
 x22:Option PV
 x23:Option PV
 x24:Option PV
 x25:Option PV
 x26:Option PV
 x27:Option PV
def Á (k:Cst) (Â:List Int) (bs:List Bool) (ls:List ö) (w:Int) (s:Nat) (ts:List Tr) (d:Nat) (x:Υ):Å:=
 [k.a0,k.a1,k.a2,some (a8 Â),some (.lst (bs.map Ó)),k.a5,some (.lst (ls.map lp)),some (.lst (ts.map λt=>lp (pc ls bs t))),some (.int w),k.a9,some (.lst (ts.map Ũ)),some (.lst (ts.map λt=>Ó (Ú bs t))),
  k.a12,k.a13,k.a14,some (.int (s:Int)),k.a16,some (.int (d:Int)),some (.lst (ts.map Η)),x.x19,x.x20,x.x21,x.x22,x.x23,x.x24,x.x25,x.x26,x.x27,
  none,none,none,none,none,none,none,none,none,none,none,none,none,none,none,none,none,none,none,none]
theorem A4{α:Type}(f:α->PV){pre post:List α}{a:α}(k:Int) (hk:k=(pre.length:Int)) (h:pre.length<1000):eG (.lst ((pre++a::post).map f)) (.int k)=some (f a):= by
 subst hk;refine iO (yb) (à (.t .q (.N 1000000)) [.y .q .kj] h) ?_;refine O (dh ..) ?_;simp
theorem kQ{α:Type}{pre post:List α}{a d:α}:(pre++a::post).getD pre.length d=a:=by simp[on]
theorem Q5{α:Type}{ts:List α}(h:p+1<ts.length):∃pre a b post,ts=pre++a::b::post/\pre.length=p:= by
 refine(fX (ts.take p) (ts[p]) (ts[p+1]) (Õ (ts.drop (p+2)) ?_ (by simp;lia)));exact aBD (nj h) (aBD (nj (by exact Ò (.y .q .r) [.y .kc .r] h)) (O (we ..) rfl))
theorem Q6{α:Type}(f:α->Bool){pre post:List α}{a b c:α}(h:f c=!f a):(pre++c::post).map f=pJ ((pre++a::b::post).map f) pre.length:= by
 delta pJ
 have e1:((pre++a::b::post).map f).getD pre.length false=f a:= by
  refine O dj (O al ?_);have:=kQ (pre:=pre.map f) (post:=(b::post).map f) (a:=f a) (d:=false);rw[eb] at this;exact this
 refine O e1 (aBD h ?_);have e2:((pre++a::b::post).map f).take pre.length=pre.map f:= by
  refine O dj ?_;have:pre.length=(pre.map f).length:=by simp
  exact O this (O sa rfl)
 have e3:((pre++a::b::post).map f).drop (pre.length+2)=post.map f:= by
  refine O dj (O al (O al ?_));have:pre.length+2=(pre.map f).length+2:=by simp
  refine O this (O Aq ?_);simp
 refine O e2 (O e3 ?_);simp
theorem DN{ts:List Tr}{bs:List Bool}:∀{pre:List Tr}{i j:Nat}{a b:Tr}{post:List Tr},ú i (pre++a::b::post) j->a.l=b.f/\ú i (pre++Tr.node a b::post) j
 |[],i,j,a,b,post,h=>by
  refine Ą h λh1 h2 h3=>?_;exact(Ý h2.symm h1 h3)
 |t::pre,i,j,a,b,post,h=>by
  refine xa h λh1 h2=>?_;clear h;refine xa (DN (ts:=ts) (bs:=bs) h2) λh3 h4=>?_;exact(Ý h3 h1 h4)
theorem YK{bs:List Bool}{a b:Tr}(ha:Ok bs a) (hb:Ok bs b) (h:Ú bs a=Ú bs b):Mine.pts (î bs a)%3=Mine.pts (î bs b)%3:= by
 have:=ha.pts;have:=hb.pts
 delta Ú at h
 by_cases h1:Mine.pts (î bs a)%3=1
 ·by_cases h2:Mine.pts (î bs b)%3=1
  ·exact Ò (.z1 .q .r) [.z1 .q .n1,.z1 .n1 .r] h1 h2.symm
  ·simp[h1,h2] at h
 ·by_cases h2:Mine.pts (î bs b)%3=1
  ·simp[h1,h2] at h
  ·exact(ha.pts.resolve_left h1).trans (hb.pts.resolve_left h2).symm
structure Fr (Â:List Int) (bs:List Bool) (ls:List ö) (w:Int) (s:Nat):Prop where
 c7:bs.length<=7
 nl:Â.length=bs.length
 ll:ls.length=bs.length
 n0:∀x∈Â,0<=x
 lt:∀t∈ls,Lt 1024 t
 w0:0<=w
 w1:w<=114688
 sp:s<bs.length
theorem uA{α:Type}{x:List α}{bs:List Bool}(hx:x.length=bs.length){t:Tr}(h:Ok bs t):(î x t).length=t.l-t.f:= by
 delta î
 rw[pz,qd,qt (hx▸h.lt.2)]
theorem F5{α:Type}{x:List α}{bs:List Bool}(hx:x.length=bs.length){t:Tr}(h:Ok bs t):î x t≠[]:=λe=>fc (sw h.lt.1) (by refine aBD (uA hx h) (O e ?_);rfl)
theorem IE{Â:List Int}{bs:List Bool}{ls:List ö}{w:Int}{s:Nat}(X:Fr Â bs ls w s){t:Tr}(h:Ok bs t):Bd 7168 (pc ls bs t):= by
 have hm:∀u∈î ls t,Lt 1024 u:=λu hu=>X.lt u (ql (qm hu));have hk:1024*((î ls t).length:Int)<=7168:= by
  exact O (uA X.ll h) (Int.mul_le_mul_of_nonneg_left (b:=7) (mi.mpr (aa (uy _ _) (aa h.lt.2 X.c7))) (by decide))
 refine pK (Q1 (bs:=î bs t) hm (F5 X.ll h)) λh1 h2 h3 h4 h5 h6=>?_;exact⟨h1,aw h2 hk,h3,aw h4 hk,h5,aw h6 hk⟩
theorem Q7 (l:List Nat) (h:l.length<=100000):Ē .len [pC l]=some (.int (l.length:Int)):= by
 show(if (l.map λk:Nat=>PV.int (k:Int)).length<=100000 then some (PV.int ((l.map λk:Nat=>PV.int (k:Int)).length:Int)) else none)=_;exact O (eb ..) (O (if_pos h) rfl)
theorem Q8{l:List Nat}{k:Int}{p:Nat}(h0:0<=k) (h1:k<1000000) (h:l[k.toNat]?=some p):eG (pC l) (.int k)=some (.int (p:Int)):=
 iO h0 h1 (by refine O (dr) (O h ?_);rfl)
theorem Q9 (h0:0<=k) (h1:k<1000000) (h:l[k.toNat]?=some v):eG (a8 l) (.int k)=some (.int v):=
 iO h0 h1 (by refine O (dr) (O h ?_);rfl)
theorem KZ (h22:lk pe 22=some C) (h3:lk pe 3=some N) (Vr:lk pe 19=some (.int i)) (g1:eG N (.int i)=some (.int v)) (g2:Ē .len [C]=some (.int L)) (hL:0<L) (g3:eG C (.int (v/16384%L))=some P):
  aB F Qm pe=some P:= by
 have f1:=fO v 16384 ⟨by exact ů (.t .n0 (.N 16384)) [],by exact ů (.t (.N 16384) (.N 1000000000)) []⟩;have f2:=dP (v/16384) L hL;simp only[aH,h22,h3,Vr,g1,g2,f1,f2,g3]
theorem K0 (Vt:lk pe 18=some SP) (Tc:lk pe 23=some (.int p)) (g1:eG SP (.int p)=some X) (g2:eG SP (.int (p+1))=some Y) (z0:eG X (.int 0)=some u) (z1:eG Y (.int 1)=some v):
  aB F Qo pe=some (.tup [u,v]):= by
 simp only[aH,Vt,Tc,g1,dN,g2,z0,z1,bm]
theorem K1 (h7:lk pe 7=some CO) (Tc:lk pe 23=some (.int p)) (h8:lk pe 8=some W) (Vr:lk pe 19=some (.int i)) (g1:eG CO (.int p)=some X) (g2:eG CO (.int (p+1))=some Y)
  (h:F 16 [X,Y,W,.int ((p+i)%2)]=some r):aB F Qh pe=some r:= by
 have f:=dP (p+i) 2 (by decide);simp only[aH,h7,Tc,h8,Vr,g1,dN,g2,f,h]
theorem K2 (Vu:lk pe 26=some P) (h8:lk pe 8=some W) (h:F 15 [P,W]=some r):aB F (.call 15 (.cons (.var 26) Qx)) pe=some r:= by
 simp only[aH,Vu,h8,h]
theorem RA{F:Fn}{pe:Å}{P M LS DR l1 l2:PV}{f l:Int}(Vu:lk pe 26=some P) (h27:lk pe 27=some M) (h6:lk pe 6=some LS) (h4:lk pe 4=some DR) (Vv:lk pe 24=some (.int f)) (Vx:lk pe 25=some (.int l))
  (s1:eH LS (some f) (some l) none=some l1) (s2:eH DR (some f) (some l) none=some l2) (h:F 17 [l1,l2]=some (.tup [M,P])) (ne:cD .NotEq (.tup [M,P]) (.tup [M,P])=some false):aB F Qg pe=some (.bool false):= by
 simp only[aH,Vu,h27,h6,h4,Vv,Vx,mP,mQ,s1,s2,h,ne,bm]
theorem rQ{α:Type}(f:α->PV){pre post:List α}{a b c:α}(hp:p=(pre.length:Int)) (tl:(pre++a::b::post).length<=1000)
  (h1:lk pe i=some (.lst ((pre++a::b::post).map f))) (h2:lk pe 23=some (.int p)) (h3:aB F e pe=some (f c)):
  aB F (.bin .Add (.bin .Add (.slc (.var i) Qa (.var 23) Qa) (.list (.cons e .nil))) (.slc (.var i) (.bin .Add (.var 23) Qc) Qa Qa)) pe=some (.lst ((pre++c::post).map f)):= by
 subst hp;have L:((pre++a::b::post).map f).length<=100000:=by exact O (eb ..) (aa tl (by decide))
 have s1:=PL _ (pre.length:Int) (yb) L;have s2:=PM _ ((pre.length:Int)+2) (à (.l .n0 (.A .q .n2)) []) L;have e1:((pre++a::b::post).map f).take (pre.length:Int).toNat=pre.map f:= by
  refine O (dh ..) (O dj ?_);have:pre.length=(pre.map f).length:=by simp
  exact O this (O sa rfl)
 have e2:((pre++a::b::post).map f).drop ((pre.length:Int)+2).toNat=post.map f:= by
  refine O (show((pre.length:Int)+2).toNat=pre.length+2 by exact bf (Ò (.x .q (.A .r .n2)) [.e .q (.A .r .n2)] (bw (ã [_] (.l .n0 (.A .q .n2)) []))) (Ò (.x (.A .q .n2) .r) [.e (.A .q .n2) .r] (bw (ã [_] (.l .n0 (.A .q .n2)) [])).symm)) (O dj (O al (O al ?_)));have:pre.length+2=(pre.map f).length+2:=by simp
  refine O this (O Aq ?_);simp
 rw[e1] at s1;rw[e2] at s2;have L1:(pre.map f).length+[f c].length<=100000:=by simp at tl⊢;exact Ò (.x .q (.N 99999)) [.x (.A .q (.A .ke .n1)) .kj] tl
 have L2:(pre.map f++[f c]).length+(post.map f).length<=100000:=by simp at tl⊢;exact Ò (.x (.A .kc .r) .kv) [.x (.A .q (.A .ke .n1)) .kj] tl
 have b1:=kF _ _ L1;have b2:=kF _ _ L2;simp only[aH,h1,h2,h3,mP,mQ,s1,s2,dN,bm,b1,b2];simp
theorem VB (Px:lk pe 10=some TX) (Tc:lk pe 23=some (.int p)) (g1:eG TX (.int p)=some (.str (sx x))) (g2:eG TX (.int (p+1))=some (.str (sx y))) (hx:x.length<=1000) (hy:y.length<=1000):
  aB F (.bin .Add (.bin .Add (.bin .Add (.cst (.str ("(":Str))) (.sub (.var 10) (.var 23))) (.sub (.var 10) (.bin .Add (.var 23) Qb))) (.cst (.str (")":Str)))) pe=some (.str (sx ([40]++x++y++[41]))):= by
 have c1:=iK [40] x (by simp;exact à (.x (.A .n1 .q) .kv) [.x .q .kj] hx);have c2:=iK ([40]++x) y (by simp;exact Ò (.x (.A .kc .r) .kv) [.x .q .kj,.x .r .kj] hx hy);have c3:=iK ([40]++x++y) [41] (by simp;exact Ò (.x .ko (.N 99998)) [.x .q .kj,.x .r .kj] hx hy);rw[show("(":Str)=sx [40] from rfl,show(")":Str)=sx [41] from rfl];simp only[aH,Px,Tc,g1,dN,g2,c1,c2,c3]
theorem K3{F:Fn}{pe:Å}{f l s:Nat}(Vv:lk pe 24=some (.int (f:Int))) (Vx:lk pe 25=some (.int (l:Int))) (Pr:lk pe 15=some (.int (s:Int))):
  aB F (.ite (.cmp2 .LtE .Lt (.var 24) (.var 15) (.var 25)) Qb Qd) pe=some (.int ((if f<=s/\s<l then 1 else 0:Nat):Int)):= by
 simp only[aH,Vv,Vx,Pr,HP,AJ]
 by_cases q1:f<=s
 ·have:decide ((f:Int)<=(s:Int))=true:=by simp;omega
  refine O this ?_
  by_cases q2:s<l
  ·have:decide ((s:Int)<(l:Int))=true:=by simp;omega
   refine O this ?_;simp[q1,q2]
  ·have:decide ((s:Int)<(l:Int))=false:=by simp;exact(ax.mp q2)
   refine O this ?_;simp[q1,q2]
 ·have:decide ((f:Int)<=(s:Int))=false:=by simp;exact(Fh.mp q1)
  refine O this ?_;simp[q1]
theorem w7{α:Type}(f:α->PV){pre post:List α}{a b:α}(k:Int) (hk:k=(pre.length:Int)) (h:pre.length<900):eG (.lst ((pre++a::b::post).map f)) (.int (k+1))=some (f b):= by
 have:=A4 f (pre:=pre++[a]) (post:=post) (a:=b) (k+1) (by simp;exact hk) (by simp;exact à (.y .kc .kj) [.y .q (.N 900)] h)
 simpa using this
theorem zK{α:Type}(f:α->PV) (x:List α) (t:Tr) (h:x.length<=1000):eH (.lst (x.map f)) (some (t.f:Int)) (some (t.l:Int)) none=some (.lst ((î x t).map f)):= by
 refine O (ZU _ _ _ (by exact yb) (by exact yb) (by simp;exact aa h (by decide))) ?_;simp[î,Dc,Dd]
theorem YL (b:Bool) (t:ö):cD .NotEq (.tup [Ó b,lp t]) (.tup [Ó b,lp t])=some false:=nD (by rfl) (λx h=>by cases h)
theorem sp0 (t:Tr):eG (Η t) (.int 0)=some (.int (t.f:Int)):=rfl
theorem sp1 (t:Tr):eG (Η t) (.int 1)=some (.int (t.l:Int)):=rfl
def lD{Â:List Int}{bs:List Bool}{ls:List ö}{w:Int}{s:Nat}{ts:List Tr}{i:Nat}:Prop:=∀(X:Fr Â bs ls w s) (k:Cst) (Hj:∀t∈ts,Ok bs t) (Hx:ú 0 ts bs.length) (hlen:ts.length<=bs.length) (d:Nat) (x:Υ) (hi:i<bs.length) (IN:Ş (ts.map (Ú bs))=true) (h1:1<=ts.length),∃(Jy:List Tr) (d':Nat) (x':Υ),aF (FT aP 5) (.cons (.asg 20 Qi) (.cons (.ite (.cmp .Eq (.var 20) (.list .nil)) (.cons .brk .nil) .nil) (.cons (.asg 21 (.comp (.var 35) 35 (.val (.var 20)) true Qe)) (.cons Q08 (.cons (.asg 23 Qm) (.cons (.asgT [24,25] Qo) (.cons (.asg 26 Qh) (.cons (.asg 27 (.call 15 (.cons (.var 26) Qx))) (.cons (.ite Qg Qk .nil) (.cons Qq (.cons Qp (.cons Qj (.cons (.asg 10 (.bin .Add (.bin .Add (.slc (.var 10) Qa (.var 23) Qa) (.list (.cons (.bin .Add (.bin .Add (.bin .Add (.cst (.str ("(":Str))) (.sub (.var 10) (.var 23))) (.sub (.var 10) (.bin .Add (.var 23) Qb))) (.cst (.str (")":Str)))) .nil))) (.slc (.var 10) (.bin .Add (.var 23) Qc) Qa Qa))) Qy))))))))))))) (Á k Â bs ls w s ts d {x with x19:=some (.int (i:Int))})=some (Á k Â bs ls w s Jy d' x',.next)/\
   (∀t∈Jy,Ok bs t)/\ú 0 Jy bs.length/\Jy.length+1=ts.length/\rP (Jy.map (Ú bs))=rP (ts.map (Ú bs))/\d'+nP s ts=d+nP s Jy
def aY:=gX (bH (a7 (a7 @lD)))
def aA:=aY.1.1.1.1.1.2
def aI:=aY.1.1.1.1.2
def aG:=aY.1.2
theorem F6:@lD aY.1.1.1.1.1.1 aA aI aY.1.1.1.2 aY.1.1.2 aG aY.2:= by
 intro X k Hj Hx hlen d x hi IN h1;have Jz:=X.c7;have Mt:(aG.map (Ú aA)).length<=7:=by simp;exact aa hlen Jz
 have hm:=A3 Mt;unfold A2 at hm;rw[be,beq_iff_eq] at hm;refine xa hm λKk Hm=>?_;clear hm;have Ir:(gW (aG.map (Ú aA))).isEmpty=false:=by rw[IN] at Hm;simpa using Hm.symm
 have Tw:(aG.map λt=>Ó (Ú aA t))=(aG.map (Ú aA)).map Ó:=by refine O cr ?_;rfl
 have Vy:(cN (aG.map (Ú aA)))≠[]:= by
  delta cN
  cases hg:(rO (aG.map (Ú aA))).isEmpty
  ·refine O (if_neg (by simp)) ?_;intro e;rw[e] at hg;simp at hg
  ·refine O (if_pos rfl) ?_;intro e;rw[e] at Ir;simp at Ir
 have Oj:(cN (aG.map (Ú aA))).length<=6:= by
  have Xo:(gW (aG.map (Ú aA))).length<=6:= by
   delta gW
   refine aa (pr ..) ?_;simp;exact aa hlen Jz
  delta cN rO
  split
  ·exact Xo
  ·exact aa (pr ..) Xo
 have Kl:∀p∈cN (aG.map (Ú aA)),p∈gW (aG.map (Ú aA)):= by
  intro p hp
  delta cN rO at hp
  split at hp
  ·exact hp
  ·exact(qp.mp hp).1
 have Td:∃v,aY.1.1.1.1.1.1[aY.2]?=some v/\0<=v:= by
  have:aY.2<aY.1.1.1.1.1.1.length:=by exact O X.nl hi
  exact(Õ (aY.1.1.1.1.1.1[aY.2]) (by simp[this]) (X.n0 _ (pt _)))
 refine É Td λv hv Lm=>?_;clear Td;have Iq:0<(cN (aG.map (Ú aA))).length:=jn.mpr Vy;have Ol:(0:Int)<((cN (aG.map (Ú aA))).length:Int):=zy.mpr Iq;have Vz:((v/16384)%((cN (aG.map (Ú aA))).length:Int)).toNat<(cN (aG.map (Ú aA))).length:= by
  have h1:=fm (v/16384) (b:=((cN (aG.map (Ú aA))).length:Int)) (ez (à (.t .n0 .q) [.y .n0 .q] Iq));have h2:=eh (v/16384) (b:=((cN (aG.map (Ú aA))).length:Int)) (à (.t .n0 .q) [.y .n0 .q] Iq);exact Ď [_] [_,_] (.y .q .r) [.t .a .r,.e .q .a] h2 (bw (Ņ [_] (.l .n0 .a) [.l .n0 .a] h1))
 obtain⟨p,hp⟩:∃p,(cN (aG.map (Ú aA)))[((v/16384)%((cN (aG.map (Ú aA))).length:Int)).toNat]?=some p:=⟨_,bl Vz⟩;have Xp:p∈cN (aG.map (Ú aA)):=ii hp;refine xa (DM (Kl p Xp)) λKe Ll=>?_;have Kq:=am (ao.mp Kk p Xp);refine fZ (Q5 (ts:=aG) (p:=p) (by simpa using Ke)) λpre a b post zt=>?_;refine xa zt λJo Jp=>?_;clear zt;have Kr:pre.length<900:=by refine O Jp ?_;simp at Ke;exact æ (.y .q (.N 900)) [.x .r .s,.x .s .n7,.y .kc .r] hlen Jz Ke
 have ha:Ok aA a:=Hj a (by refine O Jo ?_;simp);have hb:Ok aA b:=Hj b (by refine O Jo ?_;simp);refine xa (DN (ts:=aG) (bs:=aA) (by exact aBD Jo Hx)) λOh Mh=>?_;have Wa:Ú aA a=Ú aA b:= by
  rw[Jo] at Ll;rw[<-Jp] at Ll;have e1:=kQ (pre:=pre.map (Ú aA)) (post:=(b::post).map (Ú aA)) (a:=Ú aA a) (d:=false);have e2:=kQ (pre:=(pre++[a]).map (Ú aA)) (post:=post.map (Ú aA)) (a:=Ú aA b) (d:=false);simp only[eb,dj,al,gw,cy,dc,lg,ci,bg,ec] at e1 e2 Ll;rw[e1] at Ll;rw[show pre.length+(0+1)=pre.length+1 by exact à (.z1 (.A .q (.A .n0 .n1)) .kc) []] at e2;rw[e2] at Ll;exact Ll
 have Ps:=YK ha hb Wa;have Jd:Ok aA (.node a b):=.node ha hb Oh Ps;refine xa (IC ha hb Oh Ps) λmk1 mk2=>?_;have Xq:=ha.lt;have Xr:=hb.lt;have hA:=IE X ha;have hB:=IE X hb;have hN:=IE X Jd;have Om:=X.w0;have Lp:=X.w1;have Te:opp (dX (DG (pc aI aA a) (pc aI aA b)))=pc aI aA (.node a b):= by
  delta pc
  exact O (oN X.ll ha hb Oh) (O (oN rfl ha hb Oh) (F1 ha.pts Ps))
 have e16:∀way:Int,way=0\/way=1->FT aP 5 16 [lp (pc aI aA a),lp (pc aI aA b),.int aY.1.1.1.2,.int way]=some (lp (pc aI aA (.node a b))):= by
  intro way Kn;refine aBD Te ?_;refine pK hA λa1 a2 a3 a4 a5 a6=>?_;clear hA;refine pK hB λb1 b2 b3 b4 b5 b6=>?_;exact wQ (n:=2) (a:=(pc aI aA a).1) (b:=(pc aI aA a).2.1) (c:=(pc aI aA a).2.2) (a':=(pc aI aA b).1) (b':=(pc aI aA b).2.1) (c':=(pc aI aA b).2.2) Om Kn (aw (lz Lp (U6 (k:=7168+7168) ⟨jy a1 b1,lz a2 b2⟩ ⟨jy a3 b3,lz a4 b4⟩ ⟨jy a5 b5,lz a6 b6⟩)) (by decide))
 have Ks:î aI (.node a b)≠[]:=F5 X.ll Jd;have Lc:∀u∈î aI (.node a b),Lt 1024 u:=λu hu=>X.lt u (ql (qm hu));have e15:FT aP 5 15 [lp (pc aI aA (.node a b)),.int aY.1.1.1.2]=some (Ó (Ú aA (.node a b))):= by
  refine pK hN λa1 a2 a3 a4 a5 a6=>?_;clear hN;have:=DC (n:=3) (w:=aY.1.1.1.2) (a:=(pc aI aA (.node a b)).1) (b:=(pc aI aA (.node a b)).2.1) (c:=(pc aI aA (.node a b)).2.2) ⟨by exact yd Om a1,by exact ya Lp a2⟩ ⟨by exact yd Om a3,by exact ya Lp a4⟩ ⟨by exact yd Om a5,by exact ya Lp a6⟩;have pm:iM (pc aI aA (.node a b)).1 (pc aI aA (.node a b)).2.1 (pc aI aA (.node a b)).2.2=decide (Mine.pts (î aA (.node a b))%3=1):=wW Lc Ks;rw[pm] at this;exact this
 have My:(î aI (.node a b)).all ġ=true:= by
  refine O (propext ao) ?_;intro u hu;obtain⟨a0,b0,c0,a1,b1,c1,-⟩:=Lc u hu
  delta ġ gF
  simp;exact⟨⟨⟨ñ (.t (.G (.N 1125899906842624)) .a) [.l .n0 .a] a0,mj a1 (by decide)⟩,⟨ñ (.t (.G (.N 1125899906842624)) .a) [.l .n0 .a] b0,mj b1 (by decide)⟩⟩,⟨ñ (.t (.G (.N 1125899906842624)) .a) [.l .n0 .a] c0,mj c1 (by decide)⟩⟩
 have e17:FT aP 5 17 [.lst ((î aI (.node a b)).map lp),.lst ((î aA (.node a b)).map Ó)]=some (.tup [Ó (Ú aA (.node a b)),lp (pc aI aA (.node a b))]):= by
  have Pt:=uA X.ll Jd;have Nu:=uA (x:=aA) rfl Jd;have:=Jd.lt;exact U8 (n:=4) My (Ŝ (.x .q (.N 100)) [.x .r .n7,.z1 .q .s,.x .t .r,.z1 (.A .s .u) .t] Jz Pt this.2 (af (ã [_,_] (.x .q .r) [.y .q .r] this.1))) (Ŝ (.x .q (.N 100)) [.x .r .n7,.z1 .q .s,.x .t .r,.z1 (.A .s .u) .t] Jz Nu this.2 (af (ã [_,_] (.x .q .r) [.y .q .r] this.1)))
 refine(eV (pre++.node a b::post) (d+(if a.f<=aY.1.1.2/\aY.1.1.2<b.l then 1 else 0)) ⟨some (.int (aY.2:Int)),some (pC (gW (aG.map (Ú aA)))),some (pC (rO (aG.map (Ú aA)))),some (pC (cN (aG.map (Ú aA)))),some (.int (p:Int)),some (.int (a.f:Int)),some (.int (b.l:Int)),some (lp (pc aI aA (.node a b))),some (Ó (Ú aA (.node a b)))⟩ ?_ ?_ Mh ?_ ⟨?_,?_⟩)
 ·delta Á
  simp only;refine O Tw ?_;refine seq (asg (p:=pC (gW (aG.map (Ú aA)))) (zJ rfl (λv=>⟨rfl,rfl⟩) (by simp;exact h1) (by simp;exact Ò (.x .q .kj) [.x .q .r,.x .r .n7] hlen Jz))) ?_
  dsimp only[bP,bQ]
  refine seq (dE (by simp only[aH,Ù,pC,QS,uo,Ir]) cE) ?_;refine seq (asg (p:=pC (rO (aG.map (Ú aA)))) (KY (n:=3) rfl rfl (λv=>⟨rfl,rfl⟩) Mt)) ?_
  dsimp only[bP,bQ]
  refine seq (asg (p:=pC (cN (aG.map (Ú aA)))) ?_) ?_
  ·simp only[aH,Ù,pC,YI,uo]
   delta cN
   cases (rO (aG.map (Ú aA))).isEmpty<;>rfl
  dsimp only[bP,bQ]
  refine seq (asg (p:=.int (p:Int)) ?_) ?_
  ·have g1:=Q9 (l:=aY.1.1.1.1.1.1) (k:=(aY.2:Int)) (v:=v) (yb) (Ò (.t .q (.N 1000000)) [.y .q .r,.x .r .n7] hi Jz) (by exact O (dh ..) hv);have g2:=Q7 (cN (aG.map (Ú aA))) (aa Oj (by decide));have q1:=fm (v/16384) (b:=((cN (aG.map (Ú aA))).length:Int)) (ez (à (.t .n0 .q) [.y .n0 .q] Iq));have q2:=eh (v/16384) Ol;have g3:=Q8 (l:=cN (aG.map (Ú aA))) (p:=p) q1 (Ď [_] [_] (.t .a (.N 1000000)) [.x .q .n6,.t .a .q] Oj q2) hp;exact KZ rfl rfl rfl g1 g2 Ol g3
  dsimp only[bP,bQ]
  refine aBD Tw (O Jo ?_);have Ln:(p:Int)=(pre.length:Int):=by exact Ò (.e .q .r) [.z1 .q .r] Jp.symm
  have tl:(pre++a::b::post).length<=1000:=by exact aBD Jo (Ò (.x .q .kj) [.x .q .r,.x .r .n7] hlen Jz)
  have Ra:=X.ll;have t1:=ha.len;have t2:=hb.len;refine seq (asgT (K0 rfl rfl (A4 Η _ Ln (ae Kr (by decide))) (w7 Η _ Ln Kr) (sp0 a) (sp1 b)) rfl) ?_
  dsimp only[bP,bQ]
  refine seq (asg (K1 rfl rfl rfl rfl (A4 (λt=>lp (pc aI aA t)) _ Ln (ae Kr (by decide))) (w7 (λt=>lp (pc aI aA t)) _ Ln Kr) (e16 _ (by lia)))) ?_
  dsimp only[bP,bQ]
  refine seq (asg (K2 rfl rfl e15)) ?_
  dsimp only[bP,bQ]
  refine seq (dE (RA rfl rfl rfl rfl rfl rfl (zK lp aI (.node a b) (Ò (.x .q .kj) [.x .r .n7,.z1 .q .r] Jz Ra)) (zK Ó aA (.node a b) (aa Jz (by decide))) e17 (YL _ _)) cE) ?_;refine seq (asg (rQ (λt=>lp (pc aI aA t)) (c:=.node a b) Ln tl rfl rfl rfl)) ?_
  dsimp only[bP,bQ]
  refine seq (asg (rQ (λt=>Ó (Ú aA t)) (c:=.node a b) Ln tl rfl rfl rfl)) ?_
  dsimp only[bP,bQ]
  refine seq (asg (rQ Η (c:=.node a b) Ln tl rfl rfl rfl)) ?_
  dsimp only[bP,bQ]
  refine seq (asg (rQ Ũ (c:=.node a b) Ln tl rfl rfl ?_)) ?_
  ·refine O (VB (x:=aW a.pcs) (y:=aW b.pcs) rfl rfl (A4 Ũ _ Ln (by lia)) (w7 Ũ _ Ln Kr) (Ŝ (.x .q .kj) [.X 8 .r .n7,.X 8 .s .r,.x (.A .q .n2) (.M .n8 .t),.Z 8 (.A .t .u) .s] Jz Xq.2 t1 (af (ã [_,_] (.x .q .r) [.y .q .r] Xq.1))) (Ŝ (.x .q .kj) [.X 8 .r .n7,.X 8 .s .r,.x (.A .q .n2) (.M .n8 .t),.Z 8 (.A .t .u) .s] Jz Xr.2 t2 (af (ã [_,_] (.x .q .r) [.y .q .r] Xr.1)))) ?_;simp[Ũ,Ś,ř,cT,cU,cV,dB]
  dsimp only[bP,bQ]
  refine(aK (aug (x:=.int (d:Int)) rfl (K3 rfl rfl rfl) rfl)).trans ?_
  dsimp only[bP,bQ]
  exact O (Int.natCast_add ..) rfl
 ·intro t ht;rcases ce.mp ht with ht|ht
  ·exact Hj t (by refine O Jo ?_;simp[ht])
  ·rcases az.mp ht with rfl|ht
   ·exact Jd
   ·exact Hj t (by refine O Jo ?_;simp[ht])
 ·refine O Jo ?_;simp;exact Ò (.z1 (.A (.A .q .ke) .n1) (.A .q (.A .ke .n1))) []
 ·exact O Jo (O (Q6 (Ú aA) (a:=a) (b:=b) (by rw[mk1];simp)) (O Jp (aBD Jo Kq)))
 ·refine O Jo ?_
  delta nP
  simp only[dj,al,vk,jd,DJ];split<;>lia
theorem K4 {bs}:@lD Â bs ls w s ts i:=iA (bH (a7 (a7 @lD))) ((((((Â,bs),ls),w),s),ts),i) F6
end L2
namespace L2
theorem RB{Â:List Int}{bs:List Bool}{ls:List ö}{w:Int}{s:Nat}(X:Fr Â bs ls w s) (k:Cst){ts:List Tr}(hlen:ts.length<=bs.length) (d:Nat) (x:Υ){i:Nat}
  (IN:Ş (ts.map (Ú bs))=false) (h1:1<=ts.length):
  ∃x':Υ,aF (FT aP 5) (.cons (.asg 20 Qi) (.cons (.ite (.cmp .Eq (.var 20) (.list .nil)) (.cons .brk .nil) .nil) (.cons (.asg 21 (.comp (.var 35) 35 (.val (.var 20)) true Qe)) (.cons Q08 (.cons (.asg 23 Qm) (.cons (.asgT [24,25] Qo) (.cons (.asg 26 Qh) (.cons (.asg 27 (.call 15 (.cons (.var 26) Qx))) (.cons (.ite Qg Qk .nil) (.cons Qq (.cons Qp (.cons Qj (.cons (.asg 10 (.bin .Add (.bin .Add (.slc (.var 10) Qa (.var 23) Qa) (.list (.cons (.bin .Add (.bin .Add (.bin .Add (.cst (.str ("(":Str))) (.sub (.var 10) (.var 23))) (.sub (.var 10) (.bin .Add (.var 23) Qb))) (.cst (.str (")":Str)))) .nil))) (.slc (.var 10) (.bin .Add (.var 23) Qc) Qa Qa))) Qy))))))))))))) (Á k Â bs ls w s ts d {x with x19:=some (.int (i:Int))})=some (Á k Â bs ls w s ts d x',.brk):= by
 have Jz:=X.c7;have Mt:(ts.map (Ú bs)).length<=7:=by simp;exact aa hlen Jz
 have hm:=A3 Mt;unfold A2 at hm;rw[be,beq_iff_eq] at hm;refine xa hm λaT Hm=>?_;clear aT;clear hm;have Ir:(gW (ts.map (Ú bs))).isEmpty=true:=by rw[IN] at Hm;simpa using Hm.symm
 have Tw:(ts.map λt=>Ó (Ú bs t))=(ts.map (Ú bs)).map Ó:=by refine O cr ?_;rfl
 refine⟨⟨some (.int (i:Int)),some (pC (gW (ts.map (Ú bs)))),x.x21,x.x22,x.x23,x.x24,x.x25,x.x26,x.x27⟩,?_⟩;unfold Á;simp only;refine O Tw ?_;refine seq (asg (p:=pC (gW (ts.map (Ú bs)))) (zJ rfl (λv=>⟨rfl,rfl⟩) (by simp;exact h1) (by simp;exact Ò (.x .q .kj) [.x .q .r,.x .r .n7] hlen Jz))) ?_;simp only[bP,bQ];refine iJ (fJ (by simp only[aH,Ù,pC,QS,uo,Ir]) ?_) (by simp);rfl
theorem zL{Â:List Int}{bs:List Bool}{ls:List ö}{w:Int}{s:Nat}(X:Fr Â bs ls w s) (k:Cst):∀(is:List Nat) (ts:List Tr) (d:Nat) (x:Υ),(∀i∈is,i<bs.length)->(∀t∈ts,Ok bs t)->ú 0 ts bs.length->ts.length<=bs.length->1<=ts.length->ts.length<=is.length+1->
  ∃(Jy:List Tr) (d':Nat) (x':Υ),eR (aF (FT aP 5) (.cons (.asg 20 Qi) (.cons (.ite (.cmp .Eq (.var 20) (.list .nil)) (.cons .brk .nil) .nil) (.cons (.asg 21 (.comp (.var 35) 35 (.val (.var 20)) true Qe)) (.cons Q08 (.cons (.asg 23 Qm) (.cons (.asgT [24,25] Qo) (.cons (.asg 26 Qh) (.cons (.asg 27 (.call 15 (.cons (.var 26) Qx))) (.cons (.ite Qg Qk .nil) (.cons Qq (.cons Qp (.cons Qj (.cons (.asg 10 (.bin .Add (.bin .Add (.slc (.var 10) Qa (.var 23) Qa) (.list (.cons (.bin .Add (.bin .Add (.bin .Add (.cst (.str ("(":Str))) (.sub (.var 10) (.var 23))) (.sub (.var 10) (.bin .Add (.var 23) Qb))) (.cst (.str (")":Str)))) .nil))) (.slc (.var 10) (.bin .Add (.var 23) Qc) Qa Qa))) Qy)))))))))))))) [19] (is.map λi:Nat=>PV.int (i:Int)) (Á k Â bs ls w s ts d x)=some (Á k Â bs ls w s Jy d' x',.next)/\
   (∀t∈Jy,Ok bs t)/\ú 0 Jy bs.length/\Jy.length<=bs.length/\1<=Jy.length/\Ş (Jy.map (Ú bs))=false/\rP (Jy.map (Ú bs))=rP (ts.map (Ú bs))/\d'+nP s ts=d+nP s Jy
 |[],ts,d,x,_,Hj,Hx,Ir,h1,h2=>by
  refine(eV ts d x rfl Hj Hx Ir (d9 h1 ?_ rfl rfl));have:ts.length=1:=by simp at h2;exact bf (h2) (h1)
  refine xe (jp.mp this) λt aT=>?_;subst aT;rfl
 |i::is,ts,d,x,hi,Hj,Hx,Ir,h1,h2=>by
  cases IN:Ş (ts.map (Ú bs))
  ·refine xe (RB X k Ir d x (i:=i) IN h1) λx' hb=>?_;exact(eV ts d x' (UM rfl hb) Hj Hx Ir (d9 h1 IN rfl rfl))
  ·refine cH (K4 X k Hj Hx Ir d x (i:=i) (hi i (by exact ak)) IN h1) λts1 d1 x1 hb Wb Wc zt=>?_;refine Ą zt λPt Wd Xs=>?_;clear zt;have h3:1<=ts1.length:= by
    have hq:=A3 (ms:=ts.map (Ú bs)) (by have:=X.c7;simp;exact aa Ir this);have:2<=ts.length:= by
     rcases nc ts.length 2 with h|h
     ·have:ts.length=1:=by exact bf (à (.x .q .n1) [.y .q .n2] h) (h1)
      refine xe (jp.mp this) λt aT=>?_;subst aT;trivial
     ·exact h
    exact Ò (.x .n1 .q) [.z1 .r .kc,.x .n2 .r] Pt.symm this
   refine cH (zL X k is ts1 d1 x1 (λj hj=>hi j (by simp[hj])) Wb Wc (by exact æ (.x .q .r) [.x .s .r,.z1 .kc .s] Ir Pt) h3 (by simp at h2;exact æ (.x .q .ke) [.x .s (.A .ke .n1),.z1 .kc .s] h2 Pt)) λJy d' x' hf q1 q2 zt=>?_;refine jB zt λq3 q4 q5 q6 q7=>?_;exact(eV Jy d' x' (dF rfl hb hf) q1 q2 q3 (d9 q4 q5 (by exact O q6 (O Wd rfl)) (by exact bf (Ι (.x .ko (.A .s .t)) [.z1 (.A .u .r) (.A .s .v),.z1 (.A .q .v) (.A .u .t)] Xs q7) (Ι (.x .ko (.A .s .t)) [.z1 (.A .q .u) (.A .v .t),.z1 (.A .v .r) (.A .s .u)] Xs.symm q7.symm))))
def uB (bs:List Bool):Bool:=match toks 999 (mH bs),FT aP 5 11 [.lst (bs.map Ó)] with
 |some r,some (.lst l)=>eA l==some r
 |_,_=>false
theorem VC:(wS 5).all uB=true:=by decide +kernel
theorem VD:(wS 7).all uB=true:=by decide +kernel
def IG (m:Nat):Bool:=toks 999 (ah m 46)==some (ah (m/3) 52++ah (m%3) 23)
theorem K5:(cw 15).all IG=true:=by decide +kernel
end L2
theorem i5{β:Type}(f:Int->β):∀(l:List Int),(cw l.length).map (λk=>f (l.getD k 0))=l.map f
 |[]=>rfl
 |a::l=>by
  refine O dc (O ov (O al (O cr (O al ?_))));congr 1;exact i5 f l
theorem oO{F:Fn}{pe:Å}{e a c:PE}{tg:Nat}{m:Nat}(g:Nat->PV) (ha:aB F a pe=some (.int (m:Int))) (hm:m<=1000) (h:∀k<m,aB F e (st pe tg (.int (k:Int)))=some (g k)):
  aB F (.comp e tg (.rng1 a) false c) pe=some (.lst ((cw m).map g)):= by
 rw[kI (À:=rng m) (λp=>match p with|.int k=>g k.toNat|_=>.none) (wP ha (aa hm (by decide))) ?_]
 ·congr 2
  delta rng
  refine O cr (ej λk _=>?_);simp
 ·intro p hp;apply jQ (fj.mp hp);intro k hk
  dsimp only[dh]
  exact h k (fy.mp hk)
theorem sO (g:Int->PV) (ha:aB F a pe=some (a8 l)) (hm:l.length<=1000) (h:∀x∈l,aB F e (st pe tg (.int x))=some (g x)):
  aB F (.comp e tg (.val a) false c) pe=some (.lst (l.map g)):= by
 rw[kI (À:=l.map .int) (λp=>match p with|.int k=>g k|_=>.none) (lM ha (by simp;exact aa hm (by decide))) ?_]
 ·refine O cr ?_;rfl
 ·intro p hp;apply jQ (fj.mp hp);intro k hk;exact h k hk
theorem K6{l:List Int}{k:Nat}(h:k<l.length) (hk:k<1000000):eG (a8 l) (.int (k:Int))=some (.int (l.getD k 0)):=
 iO (yb) (à (.t .q (.N 1000000)) [.y .q (.N 1000000)] hk) (by refine O (dh ..) (O (dr) (O (bl h) ?_));simp[on,h])
theorem RC{l:List Int}{k:Nat}(h:k<l.length):eG (a8 l) (.int (k:Int))=if k<1000000 then some (.int (l.getD k 0)) else eG (a8 l) (.int (k:Int)):= by
 by_cases hk:k<1000000
 ·exact O (if_pos hk) (K6 h hk)
 ·exact O (if_neg hk) rfl
theorem nF{l:List Int}{k:Nat}(h:k<l.length) (hk:k<1000000):eG (a8 l) (.int (k:Int))=some (.int (l.getD k 0)):= by
 exact O (RC h) (O (if_pos hk) rfl)
theorem F7 (hl:l.length<=100) (k c:Nat) (hc:0<c) (Jz:c<=10):∃l':List Int,eH (a8 l) (some (k:Int)) none (some (c:Int))=some (a8 l')/\l'.length<=200/\∀x∈l',x∈l:= by
 refine(jC ((fC (some (k:Int)) none (some (c:Int)) (l.map PV.int).length).filterMap (l[·]?)) ?_ ?_ ?_)
 ·show(if _ then _ else _)=_;refine O (if_pos ⟨by simp;exact aa hl (by decide),by simp;exact ck (hc)⟩) ?_;congr 2;have:∀ix:List Nat,ix.filterMap ((l.map PV.int)[·]?)=(ix.filterMap (l[·]?)).map PV.int:= by
   intro ix
   induction ix with
   |nil=>rfl
   |cons a r ih=>
    refine O fb (O fb (O (dr) ?_));cases l[a]? with
    |none=>exact ih
    |some x=>
     dsimp only[bm,al]
     exact O ih rfl
  exact this _
 ·refine aa (oa ..) ?_
  delta fC sliceRange sliceBounds
  simp only[pw,eb];have hcp:((c:Int)>0):=by exact à (.t .n0 .q) [.y .n0 .q] hc
  simp only[hcp,if_true]
  (refine O pg ?_;rw[if_neg (show ¬(k:Int)<0 by exact dt.mpr (yb))])
  have hA0:0<=max 0 (min (k:Int) (l.length:Int)):=by exact(Int.le_max_left _ _)
  generalize max 0 (min (k:Int) (l.length:Int))=A at*;split
  ·rename_i h;have h2:((l.length:Int)-A+(c:Int)-1)/(c:Int)<=(l.length:Int)-A+(c:Int)-1:=Int.ediv_le_self _ (Ď [_] [_,_] (.l .n0 (.S (.A (.S .q .a) .r) .n1)) [.t .a .q] h);exact ot.mpr (aw h2 (by exact Ď [_] [_,_] (.l (.S (.A (.S .q .a) .r) .n1) (.C (.N 200))) [.x .q (.N 100),.x .r (.N 10),.l .n0 .a] hl Jz hA0))
  ·simp
 ·intro x hx;refine É (yk.mp hx) λi hi he=>?_;exact ii he
namespace L2
theorem A5{F:Fn}{pe:Å}{l:List Int}{c:Nat}{pl:List Int}(hc:c=5\/c=7) (hl:l.length<=63) (Jp:pl.length=7) (Lo:∀x∈pl,0<=x) (h0:lk pe 0=some (a8 l)) (h1:lk pe 1=some (.int (c:Int))) (h2:lk pe 2=some (.tup (pl.map .int)))
  (hs:∀v,lk (st pe 46 v) 46=some v/\lk (st pe 46 v) 0=lk pe 0/\lk (st pe 46 v) 1=lk pe 1/\lk (st pe 46 v) 2=lk pe 2/\∀u,lk (st (st pe 46 v) 47 u) 47=some u):
  ∃Â:List Int,aB F (.comp Qf 46 (.rng1 Qu) false Qa) pe=some (a8 Â)/\Â.length=c/\∀x∈Â,0<=x:= by
 have item:∀k<c,∃x:Int,0<=x/\aB F Qf (st pe 46 (.int (k:Int)))=some (.int x):= by
  intro k hk;refine jB (hs (.int (k:Int))) λq1 q2 q3 q4 q5=>?_;refine nQ (F7 (l:=l) (aa hl (by decide)) k c (Ò (.y .n0 .q) [.y .r .q] hk) (by lia)) λl' Pt Nu Tn=>?_;have Kt:aB F (.slc Qv (.var 46) Qa Qu) (st pe 46 (.int (k:Int)))=some (a8 l'):= by
   simp only[aH,q1,q2,q3,h0,h1,mP,mQ,Pt]
  have Hq:aB F (.comp (.bin .Mod (.var 47) (.bin .Pow (.cst (.int 10)) (.cst (.int 6)))) 47 (.val (.slc Qv (.var 46) Qa Qu)) false Qa) (st pe 46 (.int (k:Int)))=some (a8 (l'.map (·%1000000))):= by
   have:=sO (F:=F) (pe:=st pe 46 (.int (k:Int))) (e:=.bin .Mod (.var 47) (.bin .Pow (.cst (.int 10)) (.cst (.int 6)))) (a:=.slc Qv (.var 46) Qa Qu) (c:=.cst .none) (tg:=47) (l:=l') (λx=>.int (x%1000000)) Kt (aa Nu (by decide)) (by
    intro x hx;have p6:fD .Pow (.int 10) (.int 6)=some (.int 1000000):=by refine O (v9 _ _ (by decide)) ?_;rfl
    have m6:=dP x 1000000 (by decide);simp only[aH,q5,p6,m6])
   rw[this,a8,cr];rfl
  have Lj:Ē .sum [a8 (l'.map (·%1000000))]=some (.int (l'.map (·%1000000)).sum):= by
   refine QY _ ?_ (by simp;exact aa Nu (by decide));refine O re (O (propext ao) ?_);intro x _
   delta gF
   simp;exact⟨ñ (.t (.G (.N 1125899906842624)) .a) [.l .n0 .a] (fm _ (by decide)),iv (eh _ (by decide)) (by decide)⟩
  have hnn:∀r:List Int,(∀x∈r,0<=x)->0<=r.sum:= by
   intro r
   induction r with
   |nil=>trivial
   |cons a r ih=>
    intro h;have:=ih λx hx=>h x (by simp[hx]);have:=h a (ak)
    dsimp only[jd];lia
  have Uh:=hnn (l'.map (·%1000000)) (by
   intro x hx;apply jQ (fj.mp hx);intro y _;exact(fm _ (by decide)))
  have Xt:k<pl.length:=by lia
  have hg:eG (.tup (pl.map .int)) (.int (k:Int))=some (.int pl[k]):=YE (yb) (Ò (.t .q (.N 1000000)) [.z1 .r .n7,.y .q .r] Jp Xt) (by refine O (dh ..) (O (dr) (O (bl Xt) ?_));rfl);have hp:=Lo pl[k] (pt _);refine(Õ (pl[k]+(l'.map (·%1000000)).sum) (Ĺ (.l .n0 .kb) [.l .n0 .b,.l .n0 .a] Uh hp) ?_);refine HJ (x:=.int pl[k]) (y:=.int (l'.map (·%1000000)).sum) ?_ ?_ (dN _ _)
  ·simp only[aH,q1,q4,h2,hg]
  ·show(match cL F (.cons _ .nil) _ with|some l=>Ē .sum l|none=>none)=_;exact O (AE Hq (show cL F .nil _=some [] from rfl)) Lj
 have:∃g:Nat->Int,∀k<c,0<=g k/\aB F Qf (st pe 46 (.int (k:Int)))=some (.int (g k)):= by
  refine⟨λk=>if h:k<c then Fy (item k h) else 0,λk hk=>?_⟩;simp only[hk,↓reduceDIte];exact Ej (item k hk)
 refine xe this λg hg=>?_;clear this;refine(jC ((cw c).map g) ?_ (by simp) ?_)
 ·have:=oO (F:=F) (pe:=pe) (e:=Qf) (a:=.var 1) (c:=.cst .none) (tg:=46) (m:=c) (λk=>.int (g k)) (by trivial) (by lia) (λk hk=>(hg k hk).2);rw[this,a8,cr];rfl
 ·intro x hx;apply jQ (fj.mp hx);intro k hk;exact(hg k (fy.mp hk)).1
end L2
namespace L2
noncomputable def ô (x:Int):Bool:=decide (x%2=1)
def eF (x:Int):ö:=cA (x/2%256) (cO x)
def gA (x:Int):ö:=cA (x/2%256+256*(x%2)) (cO x)
section
variable{F:Fn}{pe:Å}{Â:List Int}{c:Nat}
theorem F8 (h3:lk pe 3=some (a8 Â)) (hl:Â.length<=10) (hs:∀v,lk (st pe 45 v) 45=some v):aB F (.comp (.sub (.cst (.str ("<>":Str))) (.bin .Mod (.var 45) Qc)) 45 (.val Qt) false Qa) pe=some (.lst ((Â.map ô).map Ó)):= by
 (rw[sO (l:=Â) (λx=>Ó (ô x)) (by trivial) (aa hl (by decide)) ?_];refine O cr ?_)
 ·rfl
 ·intro x _;have m:=dP x 2 (by decide);simp only[aH,hs,m];have:=vz x;rcases this with h|h
  ·refine O h ?_;delta ô;refine O h ?_;rfl
  ·refine O h ?_;delta ô;refine O h ?_;rfl
theorem DP (h3:lk pe 3=some (a8 Â)) (hl:Â.length<=10) (hs:∀v,lk (st pe 44 v) 44=some v):aB F (.comp (.bin .Add Qb (.bin .Mod (.bin .FloorDiv (.var 44) (.cst (.int 512))) (.cst (.int 4)))) 44 (.val Qt) false Qa) pe=some (a8 (Â.map cO)):= by
 rw[sO (l:=Â) (λx=>.int (cO x)) (by trivial) (aa hl (by decide)) ?_,a8,cr]
 ·rfl
 ·intro x _;have d:=fO x 512 ⟨by decide,by decide⟩;have m:=dP (x/512) 4 (by decide);simp only[aH,hs,d,m,dN];rfl
end
variable{n:Nat}{pe:Å}{Â:List Int}{c:Nat}
theorem oP (x:Int):nT (cO x)=true:= by
 rcases oM x with e|e|e|e<;>refine O e ?_<;>decide
theorem sP (h:k<Â.length) (h2:Â.length<=10):eG (a8 (Â.map cO)) (.int (k:Int))=some (.int (cO (Â.getD k 0))):= by
 refine O (nF (by simp;omega) (by exact Ò (.y .q (.N 1000000)) [.y .q .r,.x .r (.N 10)] h h2)) ?_;simp[on,h]
theorem DQ (h1:lk pe 1=some (.int (Â.length:Int))) (h3:lk pe 3=some (a8 Â)) (h5:lk pe 5=some (a8 (Â.map cO))) (hl:Â.length<=10)
  (hs:∀v,lk (st pe 43 v) 43=some v/\lk (st pe 43 v) 3=lk pe 3/\lk (st pe 43 v) 5=lk pe 5):aB (FT aP (n+1)) (.comp (.call 14 (.cons (.bin .Mod (.bin .FloorDiv (.sub Qt (.var 43)) Qc) (.cst (.int 256))) (.cons (.sub (.var 5) (.var 43)) .nil))) 43 (.rng1 Qu) false Qa) pe=some (.lst ((Â.map eF).map lp)):= by
 (rw[oO (m:=Â.length) (λk=>lp (eF (Â.getD k 0))) (by trivial) (aa hl (by decide)) ?_,i5 (λx=>lp (eF x))];refine O cr ?_)
 ·rfl
 ·intro k hk;refine Ą (hs (.int (k:Int))) λq1 q2 q3=>?_;have g1:=nF (l:=Â) hk (Ò (.y .q (.N 1000000)) [.x .r (.N 10),.y .q .r] hl hk);have g2:=sP (Â:=Â) hk hl;have d:=fO (Â.getD k 0) 2 ⟨by decide,by decide⟩;have m:=dP (Â.getD k 0/2) 256 (by decide);simp only[aH,q1,q2,q3,h3,h5,g1,g2,d,m];exact sI _ _ (oP _)
theorem A6 (h1:lk pe 1=some (.int (Â.length:Int))) (h3:lk pe 3=some (a8 Â)) (h5:lk pe 5=some (a8 (Â.map cO))) (hl:Â.length<=10)
  (hs:∀v,lk (st pe 42 v) 42=some v/\lk (st pe 42 v) 3=lk pe 3/\lk (st pe 42 v) 5=lk pe 5):aB (FT aP (n+1)) Q04 pe=some (.lst ((Â.map gA).map lp)):= by
 (rw[oO (m:=Â.length) (λk=>lp (gA (Â.getD k 0))) (by trivial) (aa hl (by decide)) ?_,i5 (λx=>lp (gA x))];refine O cr ?_)
 ·rfl
 ·intro k hk;refine Ą (hs (.int (k:Int))) λq1 q2 q3=>?_;have g1:=nF (l:=Â) hk (Ò (.y .q (.N 1000000)) [.x .r (.N 10),.y .q .r] hl hk);have g2:=sP (Â:=Â) hk hl;have d:=fO (Â.getD k 0) 2 ⟨by decide,by decide⟩;have m:=dP (Â.getD k 0/2) 256 (by decide);have m2:=dP (Â.getD k 0) 2 (by decide);have p:=l7 256 (Â.getD k 0%2) (by decide);simp only[aH,q1,q2,q3,h3,h5,g1,g2,d,m,m2,p,dN];exact sI _ _ (oP _)
noncomputable def Ŏ:List (List Pc):=[[],[([92,40],false)],[([92,41],false)],[([40],true)],[([41],true)],[([92,34,41],true)],[([92,92],false)],[([92,34],false)]]
theorem RD:∀kd∈Ŏ,Ψ kd:= by
 have h:∀kd∈Ŏ,(∀p∈kd,lL false p.1=false/\∀u∈ø false p.1,u≠[34])/\(∀u∈ø false (bN kd),u.length=2)/\(∀c∈aW kd,c<97)/\(aW kd).length<=5:=by decide +kernel
 exact λkd m=>⟨(h kd m).1,(h kd m).2.1,(h kd m).2.2.1,(h kd m).2.2.2⟩
theorem K7:aB (FT aP n) (.list (.cons (.cst (.str ("":Str))) (.cons (.cst (.str ("\\(":Str))) (.cons (.cst (.str ("\\)":Str))) (.cons (.cst (.str ("\"(\"":Str))) (.cons (.cst (.str ("\")\"":Str))) (.cons (.cst (.str ("\"\\\")\"":Str))) (.cons (.cst (.str ("\\\\":Str))) (.cons (.cst (.str ("\\\"":Str))) .nil))))))))) pe=some (pA (Ŏ.map aW)):= by
 rfl
def VE (k:Nat) (x:Int):List Pc:=if k=1\/k=3 then Ŏ.getD (x/2048%8).toNat [] else[]
theorem VF (k:Nat) (x:Int):Ψ (VE k x):= by
 delta VE
 split
 ·refine RD _ ?_;have h:(x/2048%8).toNat<Ŏ.length:=by simp[Ŏ];exact(eh _ (by decide))
  simp only[on,bl h,pw];exact pt h
 ·exact RD [] (by simp[Ŏ])
def leaf (Â:List Int) (k:Nat):Tr:=.leaf k (VE k (Â.getD k 0))
theorem lt7{k:Nat}(h:k<7):k=0\/k=1\/k=2\/k=3\/k=4\/k=5\/k=6:=(by decide:∀k<7,k=0\/k=1\/k=2\/k=3\/k=4\/k=5\/k=6) k h
def jY{F:Fn} :Prop:=∀(h1:lk pe 1=some (.int (Â.length:Int))) (h3:lk pe 3=some (a8 Â)) (h9:lk pe 9=some (pA (Ŏ.map aW))) (hl:Â.length<=7) (hn:∀x∈Â,0<=x) (hs:∀v,lk (st pe 41 v) 41=some v/\lk (st pe 41 v) 3=lk pe 3/\lk (st pe 41 v) 9=lk pe 9),aB F (.comp (.bin .Add (.sub (.cst (.str ("abcdefg":Str))) (.var 41)) (.ite (.cmp .In (.var 41) (.tup (.cons Qb (.cons (.cst (.int 3)) .nil)))) (.sub (.var 9) (.bin .Mod (.bin .FloorDiv (.sub Qt (.var 41)) (.cst (.int 2048))) (.cst (.int 8)))) (.cst (.str ("":Str))))) 41 (.rng1 Qu) false Qa) pe=some (.lst (((cw Â.length).map (leaf Â)).map Ũ))
def bV:=gX (a7 (a7 @jY))
theorem DS:@jY bV.1.1 bV.1.2 bV.2:= by
 intro h1 h3 h9 hl hn hs
 (rw[oO (m:=bV.1.2.length) (λk=>Ũ (leaf bV.1.2 k)) (by trivial) (aa hl (by decide)) ?_];refine O cr ?_)
 ·rfl
 ·intro k hk;refine Ą (hs (.int (k:Int))) λq1 q2 q3=>?_;have g0:eG (.str ("abcdefg":Str)) (.int (k:Int))=some (.str (sx [97+k])):= by
   have:k=0\/k=1\/k=2\/k=3\/k=4\/k=5\/k=6:=lt7 (ae hk hl);rcases this with rfl|rfl|rfl|rfl|rfl|rfl|rfl<;>rfl
  have hin:cD .In (.int (k:Int)) (.tup [.int 1,.int 3])=some (decide (k=1\/k=3)):= by
   have:k=0\/k=1\/k=2\/k=3\/k=4\/k=5\/k=6:=lt7 (ae hk hl);rcases this with rfl|rfl|rfl|rfl|rfl|rfl|rfl<;>rfl
  have g1:=nF (l:=bV.1.2) hk (Ò (.y .q (.N 1000000)) [.x .r .n7,.y .q .r] hl hk);have d:=fO (bV.1.2.getD k 0) 2048 ⟨by decide,by decide⟩;have m:=dP (bV.1.2.getD k 0/2048) 8 (by decide);simp only[aH,q1,q2,q3,h3,h9,g0,g1,d,m,hin,bm]
  delta Ũ leaf VE
  by_cases Nv:k=1\/k=3
  ·refine O (decide_eq_true Nv) (O (if_pos Nv) ?_);have Gu:(bV.1.2.getD k 0/2048%8).toNat<Ŏ.length:=by simp[Ŏ];exact(eh _ (by decide))
   obtain⟨kd,We⟩:∃kd,Ŏ[(bV.1.2.getD k 0/2048%8).toNat]?=some kd:=⟨_,bl Gu⟩;have e:Ŏ.getD (bV.1.2.getD k 0/2048%8).toNat []=kd:=by rw[on,We];rfl
   have g2:eG (pA (Ŏ.map aW)) (.int (bV.1.2.getD k 0/2048%8))=some (.str (sx (aW kd))):= by
    refine iO ((fm _ (by decide))) (iv (eh _ (by decide)) (by decide)) ?_;refine O (dr) (O (dr) (O We ?_));rfl
   have hlen:=(RD kd (ii We)).len;have b1:=iK [97+k] (aW kd) (by simp;exact à (.x (.A .n1 .q) .kv) [.x .q .n5] hlen);simp only[g2,b1];refine O e ?_;rfl
  ·refine O (decide_eq_false Nv) (O (if_neg Nv) ?_);simp only;refine O (show PV.str ("":Str)=.str (sx []) from rfl) (O (iK _ _ (by simp)) ?_);rfl
theorem F9:@jY pe Â F:=iA (a7 (a7 @jY)) ((pe,Â),F) DS
end L2
namespace L2
variable{n:Nat}
theorem zN{Â:List Int}{bs:List Bool}{ls:List ö}{w:Int}{s:Nat}(X:Fr Â bs ls w s){t:Tr}(h:Ok bs t):FT aP (n+2) 15 [lp (pc ls bs t),.int w]=some (Ó (Ú bs t)):= by
 have Om:=X.w0;have Lp:=X.w1;have Ks:î ls t≠[]:=F5 X.ll h;have Lc:∀u∈î ls t,Lt 1024 u:=λu hu=>X.lt u (ql (qm hu));refine pK (IE X h) λa1 a2 a3 a4 a5 a6=>?_;have:=DC (n:=n) (w:=w) (a:=(pc ls bs t).1) (b:=(pc ls bs t).2.1) (c:=(pc ls bs t).2.2) ⟨by exact yd Om a1,by exact ya Lp a2⟩ ⟨by exact yd Om a3,by exact ya Lp a4⟩ ⟨by exact yd Om a5,by exact ya Lp a6⟩;have pm:iM (pc ls bs t).1 (pc ls bs t).2.1 (pc ls bs t).2.2=decide (Mine.pts (î bs t)%3=1):=wW Lc Ks;rw[pm] at this;exact this
theorem DT (x:Int):Lt 1024 (eF x)/\dX (eF x)=eF x/\gA x=if ô x then opp (eF x) else eF x:= by
 refine Ą (DI (p:=x/2%256) (s:=cO x) ((fm _ (by decide))) ((eh _ (by decide))) (oM x)) λh1 h2 h3=>?_;refine(Ý h1 h2 ?_)
 delta gA eF ô
 have:=vz x;rcases this with h|h
 ·refine O h (O (if_neg (by decide)) ?_);congr 1;exact ñ (.e (.A .a (.M (.N 256) .n0)) .a) []
 ·refine O h (O (if_pos (by decide)) (aBD h3 ?_));congr 1
theorem K8 (x:Int):i4 [eF x] [ô x]=gA x:= by
 refine Ą (DT x) λaT h2 h3=>?_;clear aT;have hs:dQ [eF x]=eF x:= by
  simp only[FX,sL];refine sb ?_ (sb ?_ ?_)<;>simp
 delta i4
 refine O hs (O h2 (O h3 ?_));cases ô x
 ·(rw[if_pos (by decide)];exact O (if_neg (by decide)) rfl)
 ·(rw[if_neg (by decide)];exact O (if_pos (by decide)) rfl)
def Ń (Â:List Int):List Tr:=(cw Â.length).map (leaf Â)
theorem uC (Â:List Int):(Ń Â).length=Â.length:=by simp[Ń]
theorem RE (Â:List Int):∀t∈Ń Â,Ok (Â.map ô) t:= by
 intro t ht;apply jQ (fj.mp ht);intro k hk;exact .leaf (by simpa using hk) (VF _ _)
theorem tD (Â:List Int):∀(m i:Nat),ú i ((List.range' i m).map (leaf Â)) (i+m)
 |0,i=>rfl
 |m+1,i=>by
  refine O List.range'_succ (O al ⟨rfl,?_⟩);have:=tD Â m (i+1);rw[show i+1+m=i+(m+1) by exact Ò (.z1 (.A .kc .r) (.A .q .ke)) []] at this;exact this
theorem K9 (Â:List Int):ú 0 (Ń Â) (Â.map ô).length:= by
 have:=tD Â Â.length 0;rw[<-List.range_eq_range',lq] at this;exact O (eb ..) this
theorem VG (Â:List Int) (s:Nat):nP s (Ń Â)=0:= by
 delta nP Ń
 refine O cr ?_;have:∀l:List Nat,(l.map (Tr.dep s ∘ leaf Â)).sum=0:= by
  intro l
  induction l with
  |nil=>rfl
  |cons a l ih=>refine O al (O jd (O ih ?_));rfl
 exact this _
theorem VH (Â:List Int) (hk:k<Â.length):pc (Â.map eF) (Â.map ô) (leaf Â k)=gA (Â.getD k 0):= by
 delta pc leaf
 refine O (seg_leaf (by simpa using hk)) (O (seg_leaf (by simpa using hk)) (aBD (K8 ..) ?_));congr 2<;>simp[on,hk]
theorem IH (Â:List Int) (hk:k<Â.length):Ú (Â.map ô) (leaf Â k)=ô (Â.getD k 0):= by
 delta Ú leaf
 refine O (seg_leaf (by simpa using hk)) ?_;have:(Â.map ô)[k]'(by simpa using hk)=ô (Â.getD k 0):=by simp[on,hk]
 refine O this ?_;cases ô (Â.getD k 0)<;>rfl
theorem DU (Â:List Int):(Â.map gA).map lp=(Ń Â).map λt=>lp (pc (Â.map eF) (Â.map ô) t):= by
 refine O cr ?_;have:=i5 (λx=>lp (gA x)) Â;refine O (show(lp ∘ gA)=λx=>lp (gA x) from rfl) (aBD this ?_)
 delta Ń
 refine O cr (ej λk hk=>?_);rw[fy] at hk;simp only[oc,VH Â hk]
theorem zO (Â:List Int):(Â.map ô).map Ó=(Ń Â).map λt=>Ó (Ú (Â.map ô) t):= by
 refine O cr ?_;have:=i5 (λx=>Ó (ô x)) Â;refine O (show(Ó ∘ ô)=λx=>Ó (ô x) from rfl) (aBD this ?_)
 delta Ń
 refine O cr (ej λk hk=>?_);rw[fy] at hk;simp only[oc,IH Â hk]
theorem VI (Â:List Int):(Ń Â).map (Ú (Â.map ô))=Â.map ô:= by
 have:=i5 ô Â;refine Bz ?_ this
 delta Ń
 refine O cr (ej λk hk=>?_);rw[fy] at hk;exact IH Â hk
noncomputable def uD (Â:List Int):Int:=Â.getD 0 0/2048%15*8192
theorem frame (hl:Â.length<=7) (hn:∀x∈Â,0<=x) (hs:s<Â.length):Fr Â (Â.map ô) (Â.map eF) (uD Â) s where
 c7:=by simpa using hl
 nl:=by simp
 ll:=by simp
 n0:=hn
 lt:= by
  intro t ht;apply jQ (fj.mp ht);intro x _;exact(DT x).1
 w0:=by delta uD;exact ñ (.l .n0 (.M .a (.N 8192))) [.L 8192 .n0 .a] (fm _ (by decide))
 w1:=by delta uD;exact ñ (.l (.M .a (.N 8192)) (.N 114688)) [.T 8192 .a (.N 15)] (eh _ (by decide))
 sp:=by simpa using hs
section
variable{pe:Å}{Â:List Int}
theorem GA (h3:lk pe 3=some (a8 Â)) (h:0<Â.length):aB F (.bin .Mult (.bin .Mod (.bin .FloorDiv (.sub Qt Qd) (.cst (.int 2048))) (.cst (.int 15))) (.bin .Pow Qc (.cst (.int 13)))) pe=some (.int (uD Â)):= by
 have g:=nF (l:=Â) (k:=0) h (by decide);rw[show((0:Nat):Int)=0 from rfl] at g;have d:=fO (Â.getD 0 0) 2048 ⟨by decide,by decide⟩;have m:=dP (Â.getD 0 0/2048) 15 (by decide);have p:fD .Pow (.int 2) (.int 13)=some (.int 8192):=by refine O (v9 _ _ (by decide)) ?_;rfl
 have q:=l7 (Â.getD 0 0/2048%15) 8192 (by delta nT;simp;exact⟨ñ (.t (.G (.N 4611686018427387904)) .a) [.l .n0 .a] (fm _ (by decide)),iv (eh _ (by decide)) (by decide)⟩);simp only[aH,h3,g,d,m,p,q];rfl
theorem GB{bs:List Bool}{ls:List ö}{w:Int}{s:Nat}(X:Fr Â bs ls w s){ts:List Tr}(Hj:∀t∈ts,Ok bs t) (hl:ts.length<=100) (h7:lk pe 7=some (.lst (ts.map λt=>lp (pc ls bs t)))) (h8:lk pe 8=some (.int w))
  (hs:∀v,lk (st pe 40 v) 40=some v/\lk (st pe 40 v) 8=lk pe 8):aB (FT aP (n+2)) (.comp (.call 15 (.cons (.var 40) Qx)) 40 (.val (.var 7)) false Qa) pe=some (.lst (ts.map λt=>Ó (Ú bs t))):= by
 rw[kI (À:=ts.map λt=>lp (pc ls bs t)) (λp=>match FT aP (n+2) 15 [p,.int w] with|some r=>r|none=>.none) (lM (by simp only[aH,h7]) (by simp;exact aa hl (by decide))) ?_]
 ·congr 2;refine O cr (ej λt ht=>?_);simp only[oc,zN X (Hj t ht)]
 ·intro p hp;apply jQ (fj.mp hp);intro t ht;refine xa (hs (lp (pc ls bs t))) λq1 q2=>?_;simp only[aH,q1,q2,h8,zN X (Hj t ht)]
theorem GC{bs:List Bool}{r:List Int}(Kp:lk pe 11=some (.lst (bs.map Ó))) (hl:bs.length<=100) (hr:toks 999 (mH bs)=some r):aB (FT aP (n+1)) (.call 10 (.cons (.me .join (.cst (.str ("":Str))) (.cons (.var 11) .nil)) .nil)) pe=some (a8 r):= by
 have j:=wR bs (aa hl (by decide));have Jw:FT aP (n+1) 10 [.str (sx (mH bs))]=some (a8 r):= by
  refine O (QW ..) ?_;exact wD hr (by simp[mH];exact aa hl (by decide))
 refine O (show PV.str ("":Str)=.str (sx []) from rfl) ?_;simp only[aH,Kp,j,Jw]
end
end L2
namespace L2
variable{n:Nat}
theorem II{bs:List Bool}{s:Nat}{t:Tr}(ht:Ok bs t):(s<t.f\/t.l<=s)->t.dep s=0:= by
 induction ht with
 |leaf=>intro _;rfl
 |node ha hb h hm iha ihb=>
  intro hs;have l1:=ha.lt;have l2:=hb.lt;simp only[Ż,ź,Ŷ,ŵ] at hs;simp only[DJ];exact O (if_neg λq=>hs.elim (uq q.1) (Ar q.2)) (O (iha (hs.imp id λq=>aa (db (h▸l2.1)) q)) (O (ihb (hs.imp (λq=>jc q (h▸l1.1)) id)) rfl))
theorem DV{bs:List Bool}(hb:bs.length<=20){s:Nat}:∀{ts:List Tr}{i j:Nat},(∀t∈ts,Ok bs t)->ú i ts j->(s<i\/j<=s)->nP s ts=0
 |[],_,_,_,_,_=>rfl
 |t::ts,i,j,Hj,h,hs=>by
  refine xa h λh1 h2=>?_;clear h;have ht:=Hj t (by exact ak);have l:=ht.lt;have Ir:=(mI hb (λu hu=>Hj u (by simp[hu])) h2).2.2.2.1;have e:nP s (t::ts)=t.dep s+nP s ts:=by rfl
  exact O e (O (II ht (hs.imp (λq=>h1.symm▸q) (aa Ir))) (O (DV hb (λu hu=>Hj u (by simp[hu])) h2 (hs.imp (λq=>jc (h1.symm▸q) l.1) id)) rfl))
theorem tE{bs:List Bool}(hb:bs.length<=20){s:Nat}:∀{ts:List Tr}{i j:Nat},(∀t∈ts,Ok bs t)->ú i ts j->i<=s->s<j->
  ∃A B,eK ts=A++(([97+s],false):Pc)::B/\(∀o,č o (ø false (bN A))=some (o+nP s ts))/\97+s∉aW A/\97+s∉aW B
 |[],i,j,_,h,h1,h2=>by
  have h:i=j:=h;exact absurd (ia h1 h2) (h▸ik _)
 |t::ts,i,j,Hj,h,h1,h2=>by
  refine xa h λh3 h4=>?_;clear h;have ht:=Hj t (by exact ak);have l:=ht.lt;have Pu:∀u∈ts,Ok bs u:=λu hu=>Hj u (by simp[hu]);refine tM (mI hb Pu h4) λq1 q2 q3 q4 q5 q6 q7=>?_;have e:eK (t::ts)=t.pcs++eK ts:=by rfl
  have ed:nP s (t::ts)=t.dep s+nP s ts:=by rfl
  refine O e (O ed ?_)
  by_cases hs:s<t.l
  ·refine dG (KS hb ht (by exact æ (.x .q .r) [.x .s .r,.z1 .q .s] h1 h3) hs) λA B e1 p1 a1 b1=>?_;refine(cX A (B++eK ts) (by refine O e1 ?_;simp) (λo=>?_) a1 ?_)
   ·(refine O (p1 ..) (O (DV hb Pu h4 (.inl hs)) ?_);rw[zw])
   ·exact O (dB ..) (O (propext ce) (O (propext not_or) ⟨b1,λhc=>(q2 _ hc).elim (uq (iy 97 s)) λh=>Ar hs (Nat.le_of_add_le_add_left h.1)⟩))
  ·refine dG (tE hb Pu h4 ((ax.mp hs)) h2) λA B e1 p1 a1 b1=>?_;refine(cX (t.pcs++A) B (by refine O e1 ?_;simp) (λo=>?_) ?_ b1)
   ·(refine O (gV ..) (O (fP _ _ (gC (ht.pcsOk hb)).1) (O (i9 ..) ?_));rw[w5 hb ht])
    simp only[ma];refine O (p1 ..) (O (II ht (.inr (ax.mp hs))) ?_);congr 1;exact Ò (.z1 .ko (.A .q (.A .n0 .r))) []
   ·exact O (dB ..) (O (propext ce) (O (propext not_or) ⟨λhc=>(ht.low _ hc).elim (uq (iy 97 s)) λh=>hs (Nat.lt_of_add_lt_add_left h.2),a1⟩))
theorem o7 (h:Ċ l) (hl:Ā last) (hlen:(aW l).length+last.length<=1000) (ha:∀c∈aW l,c<128) (Xu:∀c∈last,c<128):
  FT aP (n+2) 9 [.str (sx (aW l++last))]=some (.bool (wI (bN l++last))):= by
 have Jj:∀(l:List Pc),(∀c∈bN l,c∈aW l)/\(bN l).length<=(aW l).length:= by
  intro l
  induction l with
  |nil=>trivial
  |cons p l ih=>
   obtain⟨s,b⟩:=p;cases b
   ·simp only[dS,dT,dU,cT,cU,cV,ce,cy];exact⟨λc hc=>hc.imp id (ih.1 c),by exact æ (.x .ko (.A .q .s)) [.x .r .s] ih.2⟩
   ·simp only[dS,dT,dU,cT,cU,cV,ce,cy];exact⟨λc hc=>.inr (ih.1 c hc),by exact æ (.x .q (.A .r .s)) [.x .q .s] ih.2⟩
 refine xa (Jj l) λb1 b2=>?_;refine O (YJ ..) ?_;refine J6 (r:=bN l++last) ?_ (by simp;exact æ (.x .ko (.N 9000)) [.x (.A .s .r) .kj,.x .q .s] hlen b2) ?_
 ·refine O (Q2 ..) (aBD (yY h hl) ?_);refine yX (by simp;exact aa hlen (by decide)) ?_;refine O (propext ao) ?_;intro c hc;simp only[decide_eq_true_eq];rcases ce.mp hc with hc|hc
  ·exact ha c hc
  ·exact Xu c hc
 ·refine O (propext ao) ?_;intro c hc;simp only[decide_eq_true_eq];rcases ce.mp hc with hc|hc
  ·exact ha c (b1 c hc)
  ·exact Xu c hc
theorem sQ:∀(d:Nat) (r:List Nat),ø false (ah d 41++r)=ah d [41]++ø false r
 |0,r=>rfl
 |d+1,r=>by
  (refine O dL (O bg ?_);rw[iP (by decide)];exact O (sQ d r) (O dL (O bg rfl)))
theorem w8:∀(d o:Nat) (us:List (List Nat)),č (o+d) (ah d [41]++us)=č o us
 |0,o,us=>rfl
 |d+1,o,us=>by
  exact O dL (O bg (O (show o+(d+1)=(o+d)+1 by exact Ò (.z1 (.A .q .ke) (.A .ko .n1)) []) (O (zG ..) (O (w8 d o us) rfl))))
theorem YM (hs:s<20) (hA:Ċ A) (hp:č 0 (ø false (bN A))=some d) (hlen:(aW A).length<=300) (hd:d<=300) (ha:∀c∈aW A,c<128):
  FT aP (n+2) 9 [.str (sx (aW A++[97+s]))]=some (.bool (d==0))/\FT aP (n+2) 9 [.str (sx (aW A++[97+s]++ah d 41))]=some (.bool true)/\
  FT aP (n+2) 9 [.str (sx (aW A++[97+s]++ah d 41++[41,40]))]=some (.bool false)/\FT aP (n+2) 9 [.str (sx (aW A++[97+s]++ah d 41++[34,41]))]=some (.bool false):= by
 have Xv:=gC hA;have Wf:∀c∈ah d 41,c<128:=λc hc=>by rw[ys] at hc;exact à (.y .q (.N 128)) [.z1 .q (.N 41)] hc.2
 have Mq:∀r:List Nat,(∀c∈r,c<128)->∀c∈([97+s]++ah d 41++r),c<128:= by
  intro r hr c hc;simp only[ce,az,iz,or_false] at hc;rcases hc with(rfl|hc)|hc
  ·exact à (.y .ks (.N 128)) [.y .q (.N 20)] hs
  ·exact Wf c hc
  ·exact hr c hc
 have run:∀r:List Nat,č 0 (ø false (bN A++([97+s]++ah d 41++r)))=č 0 (ø false r):= by
  intro r;refine O (fP _ _ Xv.1) (O (i9 ..) (O hp ?_));simp only[ma]
  (refine O (ci ..) (O bg (O (ec ..) ?_));rw[iP (by exact ck (à (.y (.N 92) .ks) []))];refine O (qI ..) (O (sQ ..) ?_))
  have:=w8 d 0 (ø false r);rw[lq] at this;exact this
 have okr:∀r:List Nat,(∀u∈ø false r,u≠[34])->∀u∈ø false ([97+s]++ah d 41++r),u≠[34]:= by
  intro r hr u hu;rw[ci,bg,ec,iP (by exact ck (à (.y (.N 92) .ks) [])),sQ] at hu;simp only[az,ce,ys] at hu;rcases hu with rfl|⟨-,rfl⟩|hu
  ·intro e;simp at e;exact absurd (à (.T 63 .n0 .n0) [.z1 .ks (.N 34)] e) (gq _)
  ·decide
  ·exact hr u hu
 refine(d9 ?_ ?_ ?_ ?_)
 ·have h:=o7 (n:=n) (l:=A) (last:=[97+s]) hA (.inl (by intro u hu;rw[iP (by lia)] at hu;simp[pF,pG,pH,pI] at hu;subst hu;intro e;simp at e;exact absurd (à (.T 63 .n0 .n0) [.z1 .ks (.N 34)] e) (gq _))) (by simp;exact aa hlen (by decide)) ha (by simp;exact à (.y .ks (.N 128)) [.y .q (.N 20)] hs);refine O h ?_;congr 2
  delta wI
  refine O (fP _ _ Xv.1) (O (i9 ..) (O hp ?_));simp only[ma]
  (rw[iP (by lia)];refine O (qI ..) ?_)
  show(some d==some 0)=_;rfl
 ·have h:=o7 (n:=n) (l:=A) (last:=[97+s]++ah d 41++[]) hA (.inl (okr [] (by trivial))) (by simp;exact Ò (.x (.A .q .ke) .kj) [.x .q (.N 300),.x .r (.N 300)] hlen hd) ha (Mq [] (by trivial));rw[ge] at h;refine O (ci ..) (O h ?_)
  delta wI
  have:=run [];rw[ge] at this;refine O this ?_;rfl
 ·have h:=o7 (n:=n) (l:=A) (last:=[97+s]++ah d 41++[41,40]) hA (.inl (okr [41,40] (by trivial))) (by simp;exact Ò (.x (.A .q (.A (.A .r .n2) .n1)) .kj) [.x .q (.N 300),.x .r (.N 300)] hlen hd) ha (Mq [41,40] (by trivial))
  (refine O (ci ..) (O (ci ..) ?_);rw[<-ci [97+s]];refine O h ?_)
  delta wI
  refine O (run ..) ?_;rfl
 ·have Jp:Pl ([97+s]++ah d 41):= by
   refine⟨?_,?_⟩
   ·refine O (oE ..) ?_;have:lL false [97+s]=false:=by simp[qB,qC,qD];lia
    refine O this ?_;have:∀m:Nat,lL false (ah m 41)=false:= by
     intro m
     induction m with
     |zero=>rfl
     |succ m ih=>exact O dL ih
    exact this d
   ·have:=okr [] (by trivial);rw[ge] at this;exact this
  have h:=o7 (n:=n) (l:=A) (last:=[97+s]++ah d 41++[34,41]) hA (.inr (cC ([97+s]++ah d 41) ([41]) rfl Jp (by trivial))) (by simp;exact Ò (.x (.A .q (.A (.A .r .n2) .n1)) .kj) [.x .q (.N 300),.x .r (.N 300)] hlen hd) ha (Mq [34,41] (by trivial))
  (refine O (ci ..) (O (ci ..) ?_);rw[<-ci [97+s]];refine O h ?_)
  delta wI
  refine O (run ..) ?_;rfl
end L2
namespace L2
variable{n:Nat}{pe:Å}
theorem aAJ (bs:List Bool):(bs.map λb:Bool=>if b then[46,46] else[46]).flatten=ah (pts bs) 46:= by
 induction bs with
 |nil=>rfl
 |cons b l ih=>
  refine O al (O lm (O ih ?_));have e:pts (b::l)=pts [b]+pts l:=by refine aBD (t9 ..) ?_;rfl
  refine O e ?_;cases b
  ·show[46]++_=_;refine O (show pts [false]=1 from rfl) (O (zz ..) (O dL ?_));rfl
  ·show[46,46]++_=_;refine O (show pts [true]=2 from rfl) (O (zz ..) (O dL (O dL ?_)));rfl
theorem RF (bs:List Bool):pts bs<=2*bs.length:= by
 have:bs.countP (·==false)+bs.countP (·==true)=bs.length:= by
  induction bs with
  |nil=>rfl
  |cons b l ih=>cases b<;>simp[tt] at*<;>lia
 delta pts;exact æ (.x (.A .q (.M .n2 .r)) (.M .n2 .s)) [.Z 2 .ko .s] this
noncomputable def jO (m:Nat):List Int:=ah (m/3) 52++ah (m%3) 23
theorem LB{F:Fn}{bs:List Bool}(h4:lk pe 4=some (.lst (bs.map Ó))):aB F (.bin .Add (.me .count (.var 4) (.cons (.cst (.str ("<":Str))) .nil)) (.bin .Mult Qc (.me .count (.var 4) (.cons (.cst (.str (">":Str))) .nil)))) pe=some (.int (pts bs:Int)):= by
 refine O (show PV.str ("<":Str)=Ó false from rfl) (O (show PV.str (">":Str)=Ó true from rfl) ?_);have c1:=wU false bs;have c2:=wU true bs;have m:=l7 2 ((bs.countP (·==true):Nat):Int) (by decide);simp only[aH,h4,c1,c2,m,dN]
 delta pts
 congr 2
theorem DW{bs:List Bool}(hl:bs.length<=7) (Kp:lk pe 11=some (.lst (bs.map Ó))) (hs:∀v,lk (st pe 39 v) 39=some v):aB (FT aP (n+1)) (.call 10 (.cons (.me .join (.cst (.str ("":Str))) (.cons (.comp (.ite (.cmp .Eq (.var 39) (.cst (.str ("<":Str)))) (.cst (.str (".":Str))) (.cst (.str ("..":Str)))) 39 (.val (.var 11)) false Qa) .nil)) .nil)) pe=some (a8 (jO (pts bs))):= by
 have Hq:aB (FT aP (n+1)) (.comp (.ite (.cmp .Eq (.var 39) (.cst (.str ("<":Str)))) (.cst (.str (".":Str))) (.cst (.str ("..":Str)))) 39 (.val (.var 11)) false Qa) pe=some (pA (bs.map λb:Bool=>if b then[46,46] else[46])):= by
  rw[kI (À:=bs.map Ó) (λp=>match cD .Eq p (Ó false) with|some true=>.str (sx [46])|_=>.str (sx [46,46])) (lM (by trivial) (by simp;exact aa hl (by decide))) ?_]
  ·congr 1
   delta pA
   refine O cr (O cr ?_);congr 1;refine ej λb _=>?_;simp only[oc,DF];cases b<;>rfl
  ·intro p hp;apply jQ (fj.mp hp);intro b hb;refine O (show PV.str ("<":Str)=Ó false from rfl) ?_;simp only[aH,hs,DF,bm];cases b<;>rfl
 have Lj:((bs.map λb:Bool=>if b then[46,46] else[46]).map fw).sum=pts bs:= by
  have:=congrArg fw (aAJ bs);rw[xz,List.length_replicate] at this;exact this
 have Jp:=RF bs;have j:=oB [] (bs.map λb:Bool=>if b then[46,46] else[46]) (by refine O Lj ?_;simp;exact Ò (.x .q .kv) [.X 2 .r .n7,.x .q (.M .n2 .r)] hl Jp);rw[j4,aAJ] at j;have hp:IG (pts bs)=true:=ao.mp K5 _ (by exact O (propext fy) (Ò (.y .q (.N 15)) [.X 2 .r .n7,.x .q (.M .n2 .r)] hl Jp));have Jw:FT aP (n+1) 10 [.str (sx (ah (pts bs) 46))]=some (a8 (jO (pts bs))):= by
  refine O (QW ..) ?_;exact wD (am hp) (by simp;exact Ò (.x .q .kj) [.X 2 .r .n7,.x .q (.M .n2 .r)] hl Jp)
 refine O (show PV.str ("":Str)=.str (sx []) from rfl) ?_;simp only[aH] at Hq⊢;refine O Hq ?_;simp only[j,Jw]
theorem RG (k:Nat) (x:Int):(ah k [PV.int x]).flatten=(ah k x).map PV.int:= by
 induction k with
 |zero=>rfl
 |succ k ih=>refine O dL (O lm (O ih (O dL ?_)));rfl
theorem WB (x:Int) (k:Nat) (h:k<1000):fD .Mult (.lst [.int x]) (.int (k:Int))=some (a8 (ah k x)):= by
 rw[PD,RU,if_pos (Ý (by exact rh _) (by exact à (.t .q .kj) [.y .q .kj] h) (by exact à (.t (.G .kj) .q) [])),dh,RG];rfl
theorem GD{F:Fn}{m:Nat}(hm:m<=14) (h13:lk pe 13=some (.int (m:Int))) (Wg:lk pe 14=some (a8 (jO m))):aB F Q07 pe=some (.bool false):= by
 have d:=fO (m:Int) 3 ⟨by decide,by decide⟩;have r:=dP (m:Int) 3 (by decide);have m1:=WB 52 (m/3) (Ò (.Y 3 .q .kj) [.x .r (.N 14),.x (.M .n3 .q) .r] hm (Cr _ _));have m2:=WB 23 (m%3) (ae (rr _ (show 0<3 by decide)) (by decide));rw[show((m/3:Nat):Int)=(m:Int)/3 by exact cb (Ď [_] [_,_] (.L 3 .q .a) [.t .r (.A (.M .n3 .a) .n3),.x (.M .n3 .q) .r] (Int.lt_mul_ediv_self_add (show(0:Int)<3 by decide)) (Cr _ _)) (Ď [_] [_,_] (.L 3 .a .q) [.l (.M .n3 .a) .r,.y .r (.M .n3 .kc)] (Int.mul_ediv_self_le (show(3:Int)≠0 by decide)) (Nat.lt_mul_div_succ _ (show 0<3 by decide)))] at m1;rw[show((m%3:Nat):Int)=(m:Int)%3 by lia] at m2;have a:=kF ((ah (m/3) (52:Int)).map .int) ((ah (m%3) (23:Int)).map .int) (by simp;exact æ (.x .ko .kv) [.x .s (.N 14),.z1 (.A (.M .n3 .q) .r) .s] hm (qq _ _));have e:PV.lst ((ah (m/3) (52:Int)).map .int++(ah (m%3) (23:Int)).map .int)=a8 (jO m):= by
  delta a8 jO;exact O dj rfl
 rw[e] at a;have ne:cD .NotEq (a8 (jO m)) (a8 (jO m))=some false:=nD (t8 (λ_=>rfl) _) (λx h=>by cases h);simp only[aH,h13,Wg,d,r,bm,m1,m2]
 delta a8 at a ne⊢
 simp only[a,ne,bm]
noncomputable def eO (Â:List Int):Nat:=(Â.getD 2 0/2048%(Â.length:Int)).toNat
theorem LC (hl:3<=Â.length) (h1:lk pe 1=some (.int (Â.length:Int))) (h3:lk pe 3=some (a8 Â)):aB F (.bin .Mod (.bin .FloorDiv (.sub Qt Qc) (.cst (.int 2048))) Qu) pe=some (.int (eO Â:Int)):= by
 have g:=nF (l:=Â) (k:=2) (à (.y .n2 .q) [.x .n3 .q] hl) (by decide);rw[show((2:Nat):Int)=2 from rfl] at g;have d:=fO (Â.getD 2 0) 2048 ⟨by decide,by decide⟩;have m:=dP (Â.getD 2 0/2048) (Â.length:Int) (à (.T 3 .n0 .q) [.x .n3 .q] hl);simp only[aH,h1,h3,g,d,m]
 delta eO
 have:=fm (Â.getD 2 0/2048) (b:=(Â.length:Int)) (ez (à (.T 3 .n0 .q) [.x .n3 .q] hl));exact O (bw this) rfl
theorem rR (hl:3<=Â.length):eO Â<Â.length:= by
 delta eO
 have h1:=fm (Â.getD 2 0/2048) (b:=(Â.length:Int)) (ez (à (.T 3 .n0 .q) [.x .n3 .q] hl));have h2:=eh (Â.getD 2 0/2048) (b:=(Â.length:Int)) (à (.T 3 .n0 .q) [.x .n3 .q] hl);exact Ď [_] [_,_] (.y .q .r) [.t .a .r,.e .q .a] h2 (bw (Ņ [_] (.l .n0 .a) [.l .n0 .a] h1))
def oQ (x:Int):ö:=cA (x/2%256+256*(1-x%2)) (cO x)
theorem DX{Â:List Int}{s:Nat}(hl:Â.length<=7) (hs:s<Â.length) (h3:lk pe 3=some (a8 Â)) (h5:lk pe 5=some (a8 (Â.map cO))) (Pr:lk pe 15=some (.int (s:Int))):
  aB (FT aP (n+1)) Q06 pe=some (lp (oQ (Â.getD s 0))):= by
 have g1:=nF (l:=Â) hs (Ò (.y .q (.N 1000000)) [.x .r .n7,.y .q .r] hl hs);have g2:=sP (Â:=Â) hs (aa hl (by decide));have d:=fO (Â.getD s 0) 2 ⟨by decide,by decide⟩;have m:=dP (Â.getD s 0/2) 256 (by decide);have m2:=dP (Â.getD s 0) 2 (by decide);have p:=l7 256 (1-Â.getD s 0%2) (by decide);simp only[aH,h3,h5,Pr,g1,g2,d,m,m2,p,dN,nZ];exact sI _ _ (oP _)
theorem RH (x:Int):∃m:Int,(gA x).1+(oQ x).1=m/\(gA x).2.1+(oQ x).2.1=m/\(gA x).2.2+(oQ x).2.2=m:= by
 refine Ą (DI (p:=x/2%256) (s:=cO x) ((fm _ (show(256:Int)≠0 by decide))) ((eh _ (show(0:Int)<256 by decide))) (oM x)) λh1 h2 h3=>?_;obtain⟨m,e⟩:∃m,opp (cA (x/2%256) (cO x))=(m-(cA (x/2%256) (cO x)).1,m-(cA (x/2%256) (cO x)).2.1,m-(cA (x/2%256) (cO x)).2.2):=⟨_,rfl⟩;refine⟨m,?_⟩
 delta gA oQ
 have:=vz x;rcases this with h|h
 ·refine O h (O (show x/2%256+256*0=x/2%256 by exact ñ (.e (.A .a (.M (.N 256) .n0)) .a) []) (O (show x/2%256+256*(1-0)=x/2%256+256 by exact ñ (.e (.A .a (.M (.N 256) (.S .n1 .n0))) (.A .a (.N 256))) []) (O h3 (O e ?_))));refine(Ý ?_ ?_ ?_)<;>simp only<;>exact Ĺ (.e (.A .a (.S .b .a)) .b) []
 ·refine O h (O (show x/2%256+256*1=x/2%256+256 by exact ñ (.e (.A .a (.M (.N 256) .n1)) (.A .a (.N 256))) []) (O (show x/2%256+256*(1-1)=x/2%256 by exact ñ (.e (.A .a (.M (.N 256) (.S .n1 .n1))) .a) []) (O h3 (O e ?_))));refine(Ý ?_ ?_ ?_)<;>simp only<;>exact Ĺ (.e (.A .ka .b) .a) []
theorem aA6 (hw:0<=w) (Lp:w<=114688) (Kn:way=0\/way=1):FT aP (n+3) 16 [lp (gA x),lp (oQ x),.int w,.int way]=some (a8 [0,0,0]):= by
 refine nQ (RH x) λm e1 e2 e3=>?_;have Ko:dD [m,m,m]=m:=by rcases(zB m m m).2.2.2 with e|e|e<;>exact e
 have Sx:cI [m,m,m]=m:=by rcases(rM m m m).2.2.2 with e|e|e<;>exact e
 have:=wQ (n:=n) (a:=(gA x).1) (b:=(gA x).2.1) (c:=(gA x).2.2) (a':=(oQ x).1) (b':=(oQ x).2.1) (c':=(oQ x).2.2) (w:=w) (way:=way) hw Kn (by exact O e1 (O e2 (O e3 (O Ko (O Sx (Ĺ (.l (.A .a (.S .b .b)) (.P .n2 17)) [.l .a (.N 114688)] Lp))))));rw[e1,e2,e3,Ko,ng] at this;exact this
theorem xO{Â:List Int}{s:Nat}{w:Int}{CO:PV}(hw:0<=w) (Lp:w<=114688) (h7:lk pe 7=some CO) (g:eG CO (.int (s:Int))=some (lp (gA (Â.getD s 0)))) (h8:lk pe 8=some (.int w)) (Pr:lk pe 15=some (.int (s:Int))) (h16:lk pe 16=some (lp (oQ (Â.getD s 0))))
  (hs:∀v,lk (st pe 38 v) 38=some v/\lk (st pe 38 v) 7=lk pe 7/\lk (st pe 38 v) 8=lk pe 8/\lk (st pe 38 v) 15=lk pe 15/\lk (st pe 38 v) 16=lk pe 16):
  aB (FT aP (n+3)) (.cmp .NotEq Qn Qr) pe=some (.bool false):= by
 have item:∀way:Int,way=0\/way=1->aB (FT aP (n+3)) (.call 16 (.cons (.sub (.var 7) (.var 15)) (.cons (.var 16) (.cons (.var 8) (.cons (.var 38) .nil))))) (st pe 38 (.int way))=some (a8 [0,0,0]):= by
  intro way Kn;refine jB (hs (.int way)) λq1 q2 q3 q4 q5=>?_;have e:=aA6 (n:=n) (x:=Â.getD s 0) hw Lp Kn;simp only[aH,q1,q2,q3,q4,q5,h7,h8,Pr,h16,g,e]
 have hc:aB (FT aP (n+3)) Qn pe=some (.lst [a8 [0,0,0],a8 [0,0,0]]):= by
  have hd:gZ (FT aP (n+3)) (.val (.tup (.cons Qd (.cons Qb .nil)))) pe=some [.int 0,.int 1]:=rfl;simp only[aH,hd,oR (item 0 (.inl rfl)) (oR (l:=[]) (item 1 (.inr rfl)) rfl),bm]
 have hr:aB (FT aP (n+3)) Qr pe=some (.lst [a8 [0,0,0],a8 [0,0,0]]):=rfl;have ne:cD .NotEq (.lst [a8 [0,0,0],a8 [0,0,0]]) (.lst [a8 [0,0,0],a8 [0,0,0]])=some false:=nD (by rfl) (λx h=>by cases h);show(match aB (FT aP (n+3)) Qn pe,aB (FT aP (n+3)) Qr pe with|some x,some y=>(cD .NotEq x y).map PV.bool|_,_=>none)=_;refine O hc (O hr ?_);rfl
theorem LD (Wg:lk pe 14=some (a8 (jO m))):aB F (.me .count (.var 14) (.cons (.cst (.int 23)) .nil)) pe=some (.int ((m%3:Nat):Int)):= by
 have c:=KL 23 (jO m);have e:(jO m).countP (·==23)=m%3:= by
  delta jO
  refine O yr (O wf (O wf ?_));simp
 rw[e] at c;simp only[aH,Wg,c]
theorem GE{bs:List Bool}{r:List Int}(hl:bs.length<=7) (hr:toks 999 (mH bs)=some r) (h1:lk pe 1=some (.int (bs.length:Int))) (Wh:lk pe 12=some (a8 r)) (Wi:lk pe 28=some (.int ((pts bs%3:Nat):Int))):
  aB (FT aP (n+1)) (.ite (.and (.cmp .NotIn (.cst (.int 33)) (.var 12)) (.cmp .NotIn (.cst (.int 34)) (.var 12))) Qu (.ite (.call 2 (.cons (.var 28) .nil)) Qc Qb)) pe=some (.int (rP bs:Int)):= by
 have Ob:=H9 hl;unfold AZ at Ob;rw[hr] at Ob;have Ob:=am Ob;have n1:=wT 33 r;have n2:=wT 34 r;have e:=H7 (n:=n) ((pts bs%3:Nat):Int);simp only[aH,h1,Wh,Wi,n1,n2,e,bm]
 delta rP
 refine aBD Ob ?_;cases Xw:r.contains 33
 ·cases Pj:r.contains 34
  ·rfl
  ·simp only[Cp,yg,Bool.false_or,if_true]
   by_cases h0:pts bs%3=0
   ·refine O h0 (O (if_pos rfl) ?_);rfl
   ·refine O (if_neg h0) ?_;have:(((pts bs%3:Nat):Int)==0)=false:=by simp;lia
    refine O this ?_;rfl
 ·simp only[yg,Bool.true_or,if_true]
  by_cases h0:pts bs%3=0
  ·refine O h0 (O (if_pos rfl) ?_);rfl
  ·refine O (if_neg h0) ?_;have:(((pts bs%3:Nat):Int)==0)=false:=by simp;lia
   refine O this ?_;rfl
theorem A7 (Kp:lk pe 11=some (.lst l)) (hl:l.length=f) (hf:f<=1000) (Tx:lk pe 29=some (.int (f:Int))) (h4:lk pe 4=some D) (Vt:F 18 [D]=some (.int (f:Int))):aB F (.or (.cmp .NotEq (.bi .len (.cons (.var 11) .nil)) (.var 29)) (.cmp .NotEq (.call 18 (.cons (.var 4) .nil)) (.var 29))) pe=some (.bool false):= by
 have b:Ē .len [.lst l]=some (.int (f:Int)):= by
  show(if _ then _ else _)=_;exact O (if_pos (by exact Ò (.x .q .kv) [.z1 .q .r,.x .r .kj] hl hf)) (O hl rfl)
 have c:cD .NotEq (.int (f:Int)) (.int (f:Int))=some false:=by refine O (t5 ..) ?_;simp
 simp only[aH,Kp,Tx,h4,b,Vt,c,bm]
theorem RI{f m:Nat}{ms:List PV}(Tx:lk pe 29=some (.int (f:Int))) (Wi:lk pe 28=some (.int ((m%3:Nat):Int))) (Kp:lk pe 11=some (.lst ms)) (h:f=1->ms=[Ó (decide (m%3=2))]):aB (FT aP (n+1)) (.and (.cmp .Eq (.var 29) Qb) (.cmp .NotEq (.var 11) (.list (.cons (.ite (.call 2 (.cons (.bin .Sub (.var 28) Qc) .nil)) (.cst (.str (">":Str))) (.cst (.str ("<":Str)))) .nil)))) pe=some (.bool false):= by
 refine O (show PV.str ("<":Str)=Ó false from rfl) (O (show PV.str (">":Str)=Ó true from rfl) ?_)
 by_cases hf:f=1
 ·have hms:=h hf;subst hms;subst hf;have e:=H7 (n:=n) (((m%3:Nat):Int)-2);have e2:((((m%3:Nat):Int)-2)==0)=decide (m%3=2):= by
   refine O (propext og) ?_;simp;lia
  rw[e2] at e;have ne:∀q:Bool,cD .NotEq (.lst [Ó q]) (.lst [Ó q])=some false:=λq=>nD (by rfl) (λx h=>by cases h);have c1:cD .Eq (.int ((1:Nat):Int)) (.int 1)=some true:=rfl;simp only[aH,Tx,Wi,Kp,nZ,e,c1,bm];cases decide (m%3=2)
  ·rfl
  ·rfl
 ·have c1:cD .Eq (.int (f:Int)) (.int 1)=some false:=by refine O (AK ..) ?_;congr 1;simp;lia
  simp only[aH,Tx,c1,bm]
theorem GF (Px:lk pe 10=some (.lst (ts.map Ũ))) (hl:(aW (eK ts)).length<=1000):aB F (.me .join (.cst (.str ("":Str))) (.cons (.var 10) .nil)) pe=some (.str (sx (aW (eK ts)))):= by
 have e:(ts.map λt=>aW t.pcs).flatten=aW (eK ts):= by
  clear hl Px
  induction ts with
  |nil=>rfl
  |cons t r ih=>
   refine O al (O lm (O ih ?_));have:eK (t::r)=t.pcs++eK r:=by rfl
   exact O this (O (dB ..) rfl)
 have hs:((ts.map λt=>aW t.pcs).map fw).sum<=1000:= by
  have:=congrArg fw e;rw[xz] at this;exact Ò (.x .q .kj) [.x .r .kj,.z1 .q .r] hl this
 have j:=oB [] (ts.map λt=>aW t.pcs) (by simp only[lg,Dx];exact à (.x (.A .q .n0) .kv) [.x .q .kj] hs);rw[j4,e] at j;refine O (show PV.str ("":Str)=.str (sx []) from rfl) ?_;have e2:pA (ts.map λt=>aW t.pcs)=.lst (ts.map Ũ):=by delta pA;refine O cr ?_;rfl
 rw[e2] at j;simp only[aH,Px,j]
theorem LF{F:Fn}{W M:PV}{bs:List Bool}(Wj:lk pe 30=some W) (Kp:lk pe 11=some M) (h4:lk pe 4=some (.lst (bs.map Ó))) (h:F 19 [W,M]=some (.lst (bs.map Ó))):aB F (.cmp .NotEq (.call 19 (.cons (.var 30) (.cons (.var 11) .nil))) (.var 4)) pe=some (.bool false):= by
 have ne:cD .NotEq (.lst (bs.map Ó)) (.lst (bs.map Ó))=some false:=nD (t8 (λ_=>rfl) _) (λx h=>by cases h);simp only[aH,Wj,Kp,h4,h,ne,bm]
theorem GG{F:Fn}{X Y:List Nat}{s:Nat}(hs:s<7) (hX:97+s∉X) (hY:97+s∉Y) (hl:(X++(97+s)::Y).length<=1000) (Wj:lk pe 30=some (.str (sx (X++(97+s)::Y)))) (Pr:lk pe 15=some (.int (s:Int))):
  aB F (.slc (.var 30) Qa (.bin .Add (.me .index (.var 30) (.cons (.sub (.cst (.str ("abcdefg":Str))) (.var 15)) .nil)) Qb) Qa) pe=some (.str (sx (X++[97+s]))):= by
 have g0:eG (.str ("abcdefg":Str)) (.int (s:Int))=some (.str (sx [97+s])):= by
  have:s=0\/s=1\/s=2\/s=3\/s=4\/s=5\/s=6:=lt7 hs;rcases this with rfl|rfl|rfl|rfl|rfl|rfl|rfl<;>rfl
 have ix:=UT hX hY (aa hl (by decide));have u:=FI (X++(97+s)::Y) ((X.length:Int)+1) (à (.l .n0 .kc) []) (aa hl (by decide));have e:(X++(97+s)::Y).take ((X.length:Int)+1).toNat=X++[97+s]:= by
  exact O (show((X.length:Int)+1).toNat=X.length+1 by exact bf (Ò (.x .q .ke) [.e .q .ke] (bw (ã [_] (.l .n0 .kc) []))) (Ò (.x .kc .r) [.e .kc .r] (bw (ã [_] (.l .n0 .kc) [])).symm)) (O (show X++(97+s)::Y=(X++[97+s])++Y by simp) (O (show X.length+1=(X++[97+s]).length by simp) (O sa rfl)))
 rw[e] at u;simp only[aH,Wj,Pr,g0,ix,dN,mP,mQ,u]
theorem aAK (c d:Nat) (h:d<1000):fD .Mult (.str (sx [c])) (.int (d:Int))=some (.str (sx (ah d c))):= by
 rw[PF,RS,if_pos (Ý (by exact O (kG ..) (rh _)) (by exact à (.t .q .kj) [.y .q .kj] h) (by exact à (.t (.G .kj) .q) [])),dh,n9];have:(ah d [c]).flatten=ah d c:= by
  clear h
  induction d with
  |zero=>rfl
  |succ d ih=>rw[dL,lm,ih,dL];rfl
 rw[this];rfl
theorem DY{F:Fn}{X:List Nat}{d:Nat}(hd:d<300) (hl:X.length<=1000) (Wk:lk pe 31=some (.str (sx X))) (Jv:lk pe 17=some (.int (d:Int))):aB F (.bin .Add (.var 31) (.bin .Mult (.cst (.str (")":Str))) (.var 17))) pe=some (.str (sx (X++ah d 41))):= by
 have m:=aAK 41 d (ae hd (by decide));have a:=iK X (ah d 41) (by simp;exact Ò (.x .ko .kv) [.y .r (.N 300),.x .q .kj] hd hl);rw[show(")":Str)=sx [41] from rfl]
 simp only[aH,Wk,Jv,m,a]
end L2
end Mine
end
section
open PySem PySem.W PyProof.Rows
set_option maxRecDepth 100000
namespace Mine
namespace L2
def IJ (bs:List Bool):Bool:=match FT aP 5 18 [.lst (bs.map Ó)] with
 |some (.int m)=>m==(rP bs:Int)
 |_=>false
theorem aA7 (a b:Bool):((wS 3).all λl=>IJ (a::b::l))=true:=by cases a<;>cases b<;>decide +kernel
set_option maxHeartbeats 0 in
theorem aA8 (a b c d:Bool):((wS 3).all λl=>IJ (a::b::c::d::l))=true:=by cases a<;>cases b<;>cases c<;>cases d<;>decide +kernel
theorem mJ{α:Type}{l:List α}{n:Nat}(h:l.length=n+1):∃a r,l=a::r/\r.length=n:= by
 cases l with
 |nil=>cases h
 |cons a r=>exact⟨a,r,rfl,rd h⟩
theorem ES{bs:List Bool}(h:bs.length=5\/bs.length=7):IJ bs=true:= by
 rcases h with h|h
 ·apply zQ (mJ h);intro a r h;apply zQ (mJ h);intro b r h;exact ao.mp (aA7 a b) _ (h▸kJ r)
 ·apply zQ (mJ h);intro a r h;apply zQ (mJ h);intro b r h;apply zQ (mJ h);intro c r h;apply zQ (mJ h);intro d r h;exact ao.mp (aA8 a b c d) _ (h▸kJ r)
end L2
end Mine
end
section
open PySem PySem.W PyProof.Rows
namespace Mine
namespace L2
set_option tactic.hygienic true in
theorem w9:∀{l:List PV}{r:List Int},eA l=some r->l=r.map .int
 |[],r,h=>by simp[BN,BO] at h;subst h;rfl
 |p::l,r,h=>by
  dsimp only[BN,BO] at h
  split at h
  ·rename_i x y h1 h2;cases h;refine O al (aBD (w9 h2) ?_);cases p<;>simp[BM] at h1;subst h1;rfl
  ·cases h
set_option tactic.hygienic true in
theorem GH{bs:List Bool}(h:bs.length=5\/bs.length=7):∃r,toks 999 (mH bs)=some r/\FT aP 5 11 [.lst (bs.map Ó)]=some (a8 r):= by
 have hs:uB bs=true:= by
  rcases h with h|h
  ·exact ao.mp VC bs (h▸kJ bs)
  ·exact ao.mp VD bs (h▸kJ bs)
 delta uB at hs
 revert hs;cases toks 999 (mH bs) with
 |none=>exact nf
 |some r=>cases FT aP 5 11 [.lst (bs.map Ó)] with
  |none=>exact nf
  |some p=>cases p with
   |lst l=>exact λhs=>Õ r rfl (O (w9 (am hs)) rfl)
   |_=>exact nf
set_option tactic.hygienic true in
theorem LG{bs:List Bool}(h:bs.length=5\/bs.length=7):FT aP 5 18 [.lst (bs.map Ó)]=some (.int (rP bs:Int)):= by
 have hs:=ES h;unfold IJ at hs;revert hs;cases FT aP 5 18 [.lst (bs.map Ó)] with
 |none=>exact nf
 |some p=>cases p with
  |int m=>exact λhs=>congrArg (λn=>some (PV.int n)) (am hs)
  |_=>exact nf
section
variable{F:Fn}{pe:Å}
theorem GI (hl:l.length<=63) (h0:lk pe 0=some (a8 l)):aB F (.ite (.cmp .Lt (.bi .len (.cons Qv .nil)) (.cst (.int 6))) (.cst (.int 5)) (.cst (.int 7))) pe=some (.int ((if l.length<6 then 5 else 7:Nat):Int)):= by
 have b:Ē .len [a8 l]=some (.int (l.length:Int)):= by
  show(if (l.map PV.int).length<=100000 then some (PV.int ((l.map PV.int).length:Int)) else none)=_;exact O (eb ..) (O (if_pos (by exact aa hl (by decide))) rfl)
 simp only[aH,h0,b,AJ,bm]
 by_cases h:l.length<6
 ·have:decide ((l.length:Int)<6)=true:=by simp;exact à (.t .q .n6) [.y .q .n6] h
  refine O this (O (if_pos h) ?_);rfl
 ·have:decide ((l.length:Int)<6)=false:=by simp;exact à (.l .n6 .q) [.x .n6 .q] (ax.mp h)
  refine O this (O (if_neg h) ?_);rfl
theorem xP{M S:PV}{bs:List Bool}{r:List Int}(Kp:lk pe 11=some (.lst (bs.map Ó))) (h4:lk pe 4=some (.lst (bs.map Ó))) (Wh:lk pe 12=some (a8 r)) (h:F 11 [.lst (bs.map Ó)]=some (a8 r)):aB F (.or (.cmp .NotEq (.var 11) (.var 4)) (.cmp .NotEq (.var 12) (.call 11 (.cons (.var 4) .nil)))) pe=some (.bool false):= by
 have ne1:cD .NotEq (.lst (bs.map Ó)) (.lst (bs.map Ó))=some false:=nD (t8 (λ_=>rfl) _) (λx h=>by cases h);have ne2:cD .NotEq (a8 r) (a8 r)=some false:=nD (t8 (λ_=>rfl) _) (λx h=>by cases h);simp only[aH,Kp,h4,Wh,h,ne1,ne2,bm]
theorem GJ (hl:Â.length<=10) (h1:lk pe 1=some (.int (Â.length:Int))) (hs:∀v,lk (st pe 37 v) 37=some v):aB F (.comp (.tup (.cons (.var 37) (.cons (.bin .Add (.var 37) Qb) .nil))) 37 (.rng1 Qu) false Qa) pe=some (.lst ((Ń Â).map Η)):= by
 rw[oO (m:=Â.length) (λk=>Η (leaf Â k)) (by trivial) (by exact aa hl (by decide)) ?_]
 ·delta Ń
  refine O cr ?_;rfl
 ·intro k hk;simp only[aH,hs,dN,bm];rfl
theorem nG (Xw:lk pe 33=some (.str (sx x))) (Pj:lk pe 34=some (.bool b)) (h:F 9 [.str (sx x)]=some (.bool b)):aB F (.cmp .IsNot (.call 9 (.cons (.var 33) .nil)) (.var 34)) pe=some (.bool false):= by
 have c:cD .IsNot (.bool b) (.bool b)=some false:= by
  show some (!(b==b))=_;rw[beq_self_eq_true];rfl
 simp only[aH,Xw,Pj,h,c,bm]
theorem LI{x y:List Nat}{d:Nat}(hy:y.length<=1000) (Wk:lk pe 31=some (.str (sx x))) (h32:lk pe 32=some (.str (sx y))) (Jv:lk pe 17=some (.int (d:Int))):
  gZ F (.val (.tup (.cons (.tup (.cons (.var 31) (.cons (.cmp .Eq (.var 17) Qd) .nil))) (.cons (.tup (.cons (.var 32) (.cons (.cst (.bool true)) .nil))) (.cons (.tup (.cons (.bin .Add (.var 32) (.cst (.str (")(":Str)))) (.cons (.cst (.bool false)) .nil))) (.cons (.tup (.cons (.bin .Add (.var 32) (.cst (.str ("\")":Str)))) (.cons (.cst (.bool false)) .nil))) .nil)))))) pe=some [.tup [.str (sx x),.bool (d==0)],.tup [.str (sx y),.bool true],.tup [.str (sx (y++[41,40])),.bool false],.tup [.str (sx (y++[34,41])),.bool false]]:= by
 have a1:=iK y [41,40] (by simp;exact aa hy (by decide));have a2:=iK y [34,41] (by simp;lia);have c:cD .Eq (.int (d:Int)) (.int 0)=some (d==0):= by
  rw[AK];congr 1;rw[og];simp
 rw[show(")(":Str)=sx [41,40] from rfl,show("\")":Str)=sx [34,41] from rfl]
 simp only[aH,Wk,h32,Jv,a1,a2,c,bm,uX,uY];rfl
end
theorem math (l:List Int) (hl:l.length<=63):FT aP 6 20 [.lst (l.map .int)]=some (.bool true):= by
 refine O (ft 5 20 HM _ rfl) ?_;apply kE rfl;show iR (aF _ HM.code [some (a8 l),none,none,none,none,none,none,none,none,none,none,none,none,none,none,none,none,none,none,none,none,none,none,none,none,none,none,none,none,none,none,none,none,none,none,none,none,none,none,none,none,none,none,none,none,none,none,none])=_
 delta HM
 refine bG (asg (GI hl rfl)) ?_
 dsimp only[bP,bQ]
 have hc:(if l.length<6 then 5 else 7:Nat)=5\/(if l.length<6 then 5 else 7:Nat)=7:=by split<;>simp
 generalize (if l.length<6 then 5 else 7:Nat)=c at*;refine bG (asg (p:=.tup ([19344,8193,7678,2122,1777,641,300].map .int)) rfl) ?_
 dsimp only[bP,bQ]
 refine nQ (A5 (F:=FT aP 5) (pl:=[19344,8193,7678,2122,1777,641,300]) (l:=l) (c:=c) (pe:=[some (a8 l),some (.int (c:Int)),some (.tup ([19344,8193,7678,2122,1777,641,300].map .int)),none,none,none,none,none,none,none,none,none,none,none,none,none,none,none,none,none,none,none,none,none,none,none,none,none,none,none,none,none,none,none,none,none,none,none,none,none,none,none,none,none,none,none,none,none]) hc hl rfl (by simp) rfl rfl rfl (λv=>(jD rfl rfl rfl rfl (λu=>rfl)))) λÂ hn1 hn2 Xx=>?_;refine bG (asg hn1) ?_
 dsimp only[bP,bQ]
 subst hn2;have h7:Â.length<=7:=by lia
 have h3:3<=Â.length:=by lia
 refine bG (asg (F8 (Â:=Â) rfl (by exact aa h7 (by decide)) (λv=>rfl))) ?_
 dsimp only[bP,bQ]
 refine bG (asg (DP (Â:=Â) rfl (by lia) (λv=>rfl))) ?_
 dsimp only[bP,bQ]
 refine bG (asg (DQ (n:=4) (Â:=Â) rfl rfl rfl (by lia) (λv=>(Ý rfl rfl rfl)))) ?_
 dsimp only[bP,bQ]
 refine bG (asg (A6 (n:=4) (Â:=Â) rfl rfl rfl (by lia) (λv=>(Ý rfl rfl rfl)))) ?_
 dsimp only[bP,bQ]
 refine bG (asg (GA (Â:=Â) rfl (by exact à (.Y 3 .n0 .q) [.x .n3 .q] h3))) ?_
 dsimp only[bP,bQ]
 refine bG (asg K7) ?_
 dsimp only[bP,bQ]
 refine bG (asg (F9 (Â:=Â) rfl rfl rfl (by exact h7) Xx (λv=>(Ý rfl rfl rfl)))) ?_
 dsimp only[bP,bQ]
 have X:=frame (s:=eO Â) h7 Xx (rR h3);have IF:(Â.map ô).length=Â.length:=by simp
 refine O (DU ..) ?_;refine bG (asg (GB (n:=3) X (RE Â) (by refine O (uC ..) ?_;exact aa h7 (by decide)) rfl rfl (λv=>⟨rfl,rfl⟩))) ?_
 dsimp only[bP,bQ]
 refine aBD (zO ..) ?_;refine É (GH (bs:=Â.map ô) (by refine O IF ?_;exact hc)) λr Xy hr2=>?_;refine bG (asg (GC (n:=4) (bs:=Â.map ô) rfl (by refine O IF ?_;lia) Xy)) ?_
 dsimp only[bP,bQ]
 refine dC (xP (M:=.none) (S:=.none) rfl rfl rfl hr2) ?_;refine bG (asg (LB (bs:=Â.map ô) rfl)) ?_
 dsimp only[bP,bQ]
 refine bG (asg (DW (n:=4) (bs:=Â.map ô) (by refine O IF ?_;lia) rfl (λv=>rfl))) ?_
 dsimp only[bP,bQ]
 have Jp:=RF (Â.map ô);rw[IF] at Jp;refine dC (GD (m:=pts (Â.map ô)) (by exact Ò (.x .q (.N 14)) [.X 2 .r .n7,.x .q (.M .n2 .r)] h7 Jp) rfl rfl) ?_;refine bG (asg (LC (Â:=Â) h3 rfl rfl)) ?_
 dsimp only[bP,bQ]
 refine bG (asg (DX (n:=4) (Â:=Â) h7 (rR h3) rfl rfl rfl)) ?_
 dsimp only[bP,bQ]
 have hgc:eG (.lst ((Ń Â).map λt=>lp (pc (Â.map eF) (Â.map ô) t))) (.int (eO Â:Int))=some (lp (gA (Â.getD (eO Â) 0))):= by
  refine aBD (DU ..) ?_;have:=rR h3;refine iO (by exact yb) (by exact Ò (.t .q (.N 1000000)) [.x .r .n7,.y .q .r] h7 this) ?_;refine O (dh ..) (O (dr) (O (dr) (O (bl this) ?_)));simp[on,this]
 refine dC (xO (n:=2) (Â:=Â) X.w0 X.w1 rfl hgc rfl rfl rfl (λv=>(jD rfl rfl rfl rfl rfl))) ?_;refine bG (asg (p:=.int 0) rfl) ?_
 dsimp only[bP,bQ]
 refine bG (asg (GJ (Â:=Â) (by lia) rfl (λv=>rfl))) ?_
 dsimp only[bP,bQ]
 refine cH (zL X ⟨some (a8 l),some (.int (Â.length:Int)),some (.tup ([19344,8193,7678,2122,1777,641,300].map .int)),some (a8 (Â.map cO)),some (pA (Ŏ.map aW)),some (a8 r),some (.int (pts (Â.map ô):Int)),some (a8 (jO (pts (Â.map ô)))),some (lp (oQ (Â.getD (eO Â) 0)))⟩
  (cw (Â.length-1)) (Ń Â) 0 ⟨none,none,none,none,none,none,none,none,none⟩ (λi hi=>by rw[fy] at hi;exact Ľ (.y .q .r) [.z1 .s .r,.y .q .t,.z1 (.A .t .n1) .s] IF.symm hi (af (ã [_] (.X 3 .n1 .q) [.x .n3 .q] h3))) (RE Â) (K9 Â) (by refine O (uC ..) ?_;exact cf IF.symm) (by refine O (uC ..) ?_;exact à (.X 3 .n1 .q) [.x .n3 .q] h3) (by refine O (uC ..) (O pg ?_);exact cf (af (ã [_] (.X 3 .n1 .q) [.x .n3 .q] h3)).symm)) λts d x Jc Hj Hx zt=>?_;refine jB zt λIr h1 IN Kq Tf=>?_;clear zt
 rw[VG,zw,lq] at Tf;subst Tf;rw[VI] at Kq;have Pv:∀pe,lk pe 1=some (.int (Â.length:Int))->gZ (FT aP 5) (.rng1 (.bin .Sub Qu Qb)) pe=some ((cw (Â.length-1)).map λi:Nat=>PV.int (i:Int)):= by
  intro pe h;have h':aB (FT aP 5) (.bin .Sub Qu Qb) pe=some (.int ((Â.length-1:Nat):Int)):= by
   simp only[aH,h,nZ];exact O (show((Â.length-1:Nat):Int)=(Â.length:Int)-1 by exact cb (Ò (.l .q (.S .r .n1)) [.z1 .kc .r] (af (ã [_] (.X 3 .n1 .q) [.x .n3 .q] h3))) (Ò (.l (.S .q .n1) .r) [.z1 .q .ke] (af (ã [_] (.X 3 .n1 .q) [.x .n3 .q] h3)).symm)) rfl
  exact wP h' (by exact Ò (.x .q .kv) [.x .r .n7,.z1 .kc .r] h7 (af (ã [_] (.X 3 .n1 .q) [.x .n3 .q] h3)))
 dsimp only[Á] at Jc
 rw[<-zO Â] at Jc;refine bG (O7 (Pv _ rfl) Jc) ?_;refine bG (asg (LD rfl)) ?_
 dsimp only[bP,bQ]
 refine bG (asg (GE (n:=4) (bs:=Â.map ô) (by exact Ò (.x .q .n7) [.x .r .n7,.z1 .q .r] h7 IF) Xy (by refine O IF ?_;rfl) rfl rfl)) ?_
 dsimp only[bP,bQ]
 have hfN:rP (ts.map (Ú (Â.map ô)))=ts.length:=by delta rP;refine O IN ?_;simp
 rw[hfN] at Kq;refine dC (A7 (f:=rP (Â.map ô)) rfl (by refine O (eb ..) ?_;exact Kq) (by exact Ľ (.x .q .kj) [.x .r .n7,.z1 .s .r,.x .t .s,.z1 .q .t] h7 IF Ir Kq.symm) rfl rfl (LG (by refine O IF ?_;exact hc))) ?_;refine dC (RI (n:=4) (f:=rP (Â.map ô)) (m:=pts (Â.map ô)) rfl rfl rfl ?_) ?_
 ·intro Wd;have:ts.length=1:=by exact bf (Ò (.x .q .n1) [.z1 .q .r,.z1 .r .n1] Kq Wd) (h1)
  refine xe (jp.mp this) λt aT=>?_;subst aT;refine xa Hx λc1 c2=>?_;clear Hx;have c2:t.l=(Â.map ô).length:=c2;have Tg:î (Â.map ô) t=Â.map ô:= by
   delta î
   exact O c1 (O c2 (O xk (O ly rfl)))
  have hp:=(Hj t (by simp)).pts;rw[Tg] at hp;simp only[al,gw]
  delta Ú
  refine O Tg ?_;rcases hp with h|h
  ·refine O h ?_;rfl
  ·refine O h ?_;rfl
 refine tM (mI (by exact Ò (.x .q (.N 20)) [.x .r .n7,.z1 .q .r] h7 IF) Hj Hx) λq1 q2 q3 q4 q5 q6 q7=>?_;refine bG (asg (GF (ts:=ts) rfl (by exact Ľ (.x .q .kj) [.X 8 .r .n7,.Z 8 .s .r,.x .q (.M .n8 .t),.Z 8 (.A .t .n0) .s] h7 IF q3 (af (ã [_] (.x .n0 .q) []))))) ?_
 dsimp only[bP,bQ]
 refine dC (LF (bs:=Â.map ô) rfl rfl rfl (Q3 (n:=3) (by lia) Hj Hx (by exact æ (.x .q (.N 20)) [.x .r .n7,.z1 .s .r,.x .q .s] h7 IF Ir))) ?_;refine dG (tE (s:=eO Â) (by lia) Hj Hx (iu _) (by refine O IF ?_;exact rR h3)) λA B eAB Th hA hB=>?_;have Kt:=rR h3;have Iu:aW (eK ts)=aW A++(97+eO Â)::aW B:=by refine O eAB (O (dB ..) ?_);rfl
 have Wl:Ċ A:=λp hp=>q1 p (by refine O eAB ?_;simp[hp]);have Ka:(aW A).length+(aW B).length+1<=100:= by
  have:=congrArg fw Iu;simp only[cy,dc] at this;exact Ι (.x (.A .ko .n1) (.N 100)) [.X 8 .s .n7,.Z 8 .t .s,.x .u (.M .n8 .v),.z1 (.A .q .ke) .u,.Z 8 (.A .v .n0) .t] h7 IF q3 this.symm (af (ã [_] (.x .n0 .q) []))
 refine O Iu ?_;refine bG (asg (GG (X:=aW A) (Y:=aW B) (s:=eO Â) (by exact ae Kt h7) hA hB (by simp;exact Ò (.x (.A .q .ke) .kj) [.x (.A .ko .n1) (.N 100)] Ka) rfl rfl)) ?_
 dsimp only[bP,bQ]
 have Rw:nP (eO Â) ts<=100:= by
  have h0:=Th 0;rw[lq] at h0;have key:∀(us:List (List Nat)) (o o':Nat),č o us=some o'->o'<=o+us.length:= by
   intro us
   induction us with
   |nil=>intro o o' h;simp[V0,wH] at h;exact æ (.x .q (.A .r .s)) [.z1 .q .r] h.symm
   |cons u us ih=>
    intro o o' h
    dsimp only[V0,wH] at h
    split at h
    ·have:=ih _ _ h;simp;exact æ (.x .q (.A .r .kL)) [.x .q (.A .ke .s)] this
    ·split at h
     ·split at h
      ·cases h
      ·have:=ih _ _ h;simp;exact Ľ (.x .q (.A .r .kL)) [.x .q (.A .t .s),.x .t .r] this (uy _ _)
     ·have:=ih _ _ h;simp;exact æ (.x .q (.A .r .kL)) [.x .q (.A .r .s)] this
  have h1:=key _ _ _ h0;have h2:(ø false (bN A)).length<=(bN A).length+1:= by
   refine aBD (eU (bN A) 0 false) (O (eb ..) ?_);exact oY _ 0 false
  have h3:(bN A).length<=(aW A).length:= by
   have:∀l:List Pc,(bN l).length<=(aW l).length:= by
    intro l
    induction l with
    |nil=>simp[dS,dT,dU]
    |cons p l ih=>
     obtain⟨s,b⟩:=p;cases b
     ·simp only[dS,dT,dU,cT,cU,cV,cy];exact æ (.x .ko (.A .q .s)) [.x .r .s] ih
     ·simp only[dS,dT,dU,cT,cU,cV,cy];exact æ (.x .q (.A .r .s)) [.x .q .s] ih
   exact this A
  exact Ŝ (.x .q (.N 100)) [.x (.A (.A .r .s) .n1) (.N 100),.x .q (.A .n0 .t),.x .t (.A .u .n1),.x .u .r] Ka h1 h2 h3
 refine bG (asg (DY (X:=aW A++[97+eO Â]) (d:=nP (eO Â) ts) (by exact ia Rw (by decide)) (by simp;exact Ò (.x .q (.N 999)) [.x (.A .ko .n1) (.N 100)] Ka) rfl rfl)) ?_
 dsimp only[bP,bQ]
 have Ti:∀c∈aW A,c<128:= by
  intro c hcA;rcases q2 c (by refine O Iu ?_;simp[hcA]) with h|h<;>lia
 have Lo:=Th 0;rw[lq] at Lo;refine bE (YM (n:=3) (A:=A) (s:=eO Â) (d:=nP (eO Â) ts) (by exact Ò (.y .q (.N 20)) [.x .r .n7,.y .q .r] h7 Kt) Wl Lo (by exact Ò (.x .q (.N 300)) [.x (.A .ko .n1) (.N 100)] Ka) (by exact aa Rw (by decide)) Ti) λf1 f2 f3 f4=>?_;refine bG (O7 (LI (x:=aW A++[97+eO Â]) (y:=aW A++[97+eO Â]++ah (nP (eO Â) ts) 41) (d:=nP (eO Â) ts) (by simp;exact æ (.x (.A .q .ke) .kj) [.x (.A (.A .q .s) .n1) (.N 100),.x .r (.N 100)] Ka Rw) rfl rfl rfl)
  (dF rfl (aK (dE (nG rfl rfl f1) cE)) (dF rfl (aK (dE (nG rfl rfl f2) cE)) (dF rfl (aK (dE (nG rfl rfl f3) cE)) (dF rfl (aK (dE (nG rfl rfl f4) cE)) AP))))) ?_
 exact fK rfl
end L2
def A8 (pars:List Str) (p:Al):Bool:=
 p.posonlyargs.isEmpty&&p.args.map (·.arg)==pars&&p.vararg.isNone&&p.kwonlyargs.isEmpty&&p.kwarg.isNone&&eB pars
theorem DZ{α β:Type}{f g:α->Option β}:∀{l:List α},(∀x∈l,f x=g x)->l.filterMap f=l.filterMap g
 |[],_=>rfl
 |a::l,h=>by
  exact O fb (O fb (O (h a (by exact ak)) (O (DZ λx hx=>h x (by simp[hx])) rfl)))
theorem xQ{α β:Type}(x:α) (f:α->Sem β):(Ey x).bind f=f x:=rfl
theorem A9:notAStandIn Cj=Ey ():=rfl
theorem GM:∀{pars:List Str}{vs:List ag},vs.length=pars.length->eB pars=true->
  ((pars.filter λn=>((pars.zip vs).lookup n).isNone)=[])/\(pars.filterMap λn=>((pars.zip vs).lookup n).map (n,·))=pars.zip vs:= by
 intro pars vs hl hn;have key:∀n∈pars,∃v,(pars.zip vs).lookup n=some v:= by
  clear hn
  induction pars generalizing vs with
  |nil=>simp
  |cons p pars ih=>
   cases vs with
   |nil=>trivial
   |cons v vs=>
    intro n hm
    dsimp only[mh,dp]
    split
    ·exact⟨_,rfl⟩
    ·rename_i Gv;rcases az.mp hm with h|h
     ·subst h;simp at Gv
     ·exact ih (by simpa using hl) n h
 refine⟨?_,?_⟩
 ·refine O (propext List.filter_eq_nil_iff) ?_;intro n hm;refine xe (key n hm) λv hv=>?_;simp[hv]
 ·clear key
  induction pars generalizing vs with
  |nil=>simp
  |cons p pars ih=>
   cases vs with
   |nil=>trivial
   |cons v vs=>
    simp only[lR,be,ds,fr,decide_eq_false_iff_not] at hn;refine O mh (O fb ?_);simp only[dp,beq_self_eq_true,bm];congr 1;have:=ih (vs:=vs) (by simpa using hl) hn.2;refine Bz ?_ this;refine DZ λn hm=>?_;have:(n==p)=false:= by
     refine O (propext beq_eq_false_iff_ne) ?_;intro e;subst e;exact hn.1 hm
    simp only[this]
theorem xA (hb:A8 pars params=true) (hv:vs.length=pars.length):
  bindArgs (dw name params body sc pm cd ņ) ⟨vs,[]⟩=dx (pars.zip vs):= by
 obtain⟨p1,p2,p3,p4,p5,p6,p7⟩:=params;simp only[A8,be,List.isEmpty_iff,Option.isNone_iff_eq_none] at hb;obtain⟨⟨⟨⟨⟨h1,h2⟩,h3⟩,h4⟩,h5⟩,h6⟩:=hb;subst h1 h3 h4 h5;have h2:=am h2;subst h2;refine xa (GM hv h6) λz1 z2=>?_
 delta bindArgs dw
 dsimp only[gw,ec,ge,seqItems?,xQ,A9,bind,pure,ph,iw,yh,lg,Nat.sub_zero,Option.isNone_none,Option.isNone,Bool.and_true,yt,zo]
 refine(if_neg ?_).trans ?_
 ·refine O hv ?_;simp
 refine(if_neg ?_).trans ?_
 ·intro q;rw[yh] at q;exact Bool.noConfusion ((congrArg (λl:List Str=>!l.isEmpty) ((congrArg (List.filter _) (ly (l:=zd (λx=>x.arg) p2))).trans z1)).symm.trans q)
 exact O yh (O yt (congrArg Ey ((congrArg (List.filterMap _) (ge _)).trans z2)))
end Mine
end
section
open PySem PySem.W PyProof.Rows PySem.W.X
namespace Mine
noncomputable def aAL:ag->ag->Bool
 |.builtin i,.builtin j=>i==j
 |.type i,.type j=>i==j
 |_,_=>false
theorem VJ:∀{u v:ag},aAL u v=true->u=v:= by
 intro u v h;cases u with
 |builtin i=>cases v with
  |builtin j=>exact congrArg ag.builtin (am h)
  |_=>exact nf h
 |type i=>cases v with
  |type j=>exact congrArg ag.type (am h)
  |_=>exact nf h
 |_=>exact nf h
theorem LJ (h:VM b o=true):∃t,o=some (.float b t)/\t≠0:= by
 cases o with
 |none=>exact nf h
 |some v=>cases v with
  |float c t=>exact⟨t,congrArg (λc=>some (mr c t)) (am (aC h).1),λe=>by have:=(aC h).2;rw[e] at this;exact nf this⟩
  |_=>exact nf h
section
theorem D0{h:jg}{a:ew}{o:Obj}{es:Array De}{ep:Nat}{dl:List (Str×Int)}(ha:(a==sysModules)=false) (ho:h.get? a=some o) (he:o.ExactDict) (hd:o.data=.dict es ep)
  (hn:eB (dl.map (·.1))=true) (hE:Ε W0.params es.toList dl):â h a (dl.map λx=>(x.1,SV.i x.2)):= by
 have key:∀(es:List De) (dl:List (Str×Int)),Ε W0.params es dl->∃Gp:List (Str×ag),(∀e∈es,∃k,(strKind Pg W0).is k e.key=true/\e.hash=(strKind Pg W0).hash k)/\Pairs (strKind Pg W0) es Gp/\
   Gp.map (·.1)=dl.map (·.1)/\Ł Gp (dl.map λx=>(x.1,SV.i x.2)):= by
  intro es
  induction es with
  |nil=>
   intro dl h;cases dl with
   |nil=>exact(hV ([]) (by simp) .nil rfl .nil)
   |cons x l=>cases h
  |cons e es ih=>
   intro dl h;cases dl with
   |nil=>cases h
   |cons x l=>
    obtain⟨k,n⟩:=x;obtain⟨⟨t,h1⟩,h2,⟨u,h3⟩,h4⟩:=h;refine cW (ih l h4) λGp q1 q2 q3 q4=>?_;refine(hV ((k,e.val)::Gp) ?_ (.cons (by exact O h1 (strKind_is Pg W0 k t)) rfl q2) (by simp[q3]) (by refine O h3 ?_;exact .cons (.i n u) q4));intro e' hm;rcases az.mp hm with rfl|hm
    ·exact(Õ k (by exact O h1 (strKind_is Pg W0 k t)) h2)
    ·exact q1 e' hm
 refine cW (key es.toList dl hE) λGp q1 q2 q3 q4=>?_;refine(rT ha Gp (eV o es ep ho he hd (λe hm=>q1 e (by simpa using hm)) ⟨q2,?_⟩) q4);refine O q3 ?_;clear q3 q2 q1 q4 hE key;generalize dl.map (·.1)=l at*
 induction l with
 |nil=>exact .nil
 |cons x l ih=>
  simp only[lR,be,ds,fr,decide_eq_false_iff_not] at hn;exact List.nodup_cons.mpr ⟨hn.1,ih hn.2⟩
noncomputable def RJ (x:Str):Bool:=
 !startupNames.contains x&&!Lw.contains x&&!((recsOf Vw).map (·.name)).contains x&&!((litsOf Vw).map (·.1)).contains x&&!((clssOf Vw Lw).map (·.name)).contains x&&!(x==("__name__":Str))
def D1 (x:Str) (v:ag):Bool:=RJ x&&(match bootBuiltins x with|some u=>aAL u v|none=>false)
def aAM:Str×G->Bool
 |(x,.bi b)=>D1 x (Τ b)
 |(x,.rng)=>D1 x (.type "range")
 |(x,.enum)=>D1 x (.type "enumerate")
 |(x,.fn k)=>ļ[k]?==some x
 |(x,.gen)=>x==("_iter_escaped_chars":Str)
 |(x,.cst (.int n))=>(match valOf Vw x with|some (.int m)=>m==n|_=>false)
 |(x,.cst (.flt b))=>Ξ.contains (x,b)
 |(x,.cst (.dcts l))=>x==("EXACT_TOKEN_TYPES":Str)&&decide (l=dl.map λx=>(x.1,SV.i x.2))
 |_=>false
def IK (nf:Str×Î):Bool:=(recsOf Vw).any λd=>d.name==nf.1&&TU nf.2 d.body d.scope&&A8 nf.2.pars d.params
def RK:Bool:=(recsOf Vw).any λd=>d.name==("_iter_escaped_chars":Str)&&AC d.body d.scope&&A8 [("addr":Str)] d.params
variable{Ě:Fi->Option ag}{mb:Str->Option ag}{bc:aj}{t:KT}{aP:List Î}
theorem BA (h:D4 k=x) (hm:mG x=some (.ref a)):fA k=a:= by
 delta fA;exact O h (O hm rfl)
set_option tactic.hygienic true in
theorem qJ (T:Top Vw Lw Ě mG mb H0) (h:D1 x v=true):mG x=none/\mb x=some v:= by
 delta D1 RJ at h
 simp only[be,ds,fr,decide_eq_false_iff_not,beq_eq_false_iff_ne] at h;obtain⟨⟨⟨⟨⟨⟨h1,h2⟩,h3⟩,h4⟩,h5⟩,h6⟩,h7⟩:=h;refine⟨T.free x h1 h2 h3 h4 h5,?_⟩;refine O (T.builtins x h6) ?_;revert h7;cases bootBuiltins x with
 |none=>exact nf
 |some u=>exact λh7=>congrArg some (VJ h7)
theorem xB (T:Top Vw Lw Ě mG mb H0) (hk:D4 k=x) (h:IK (x,f)=true):Nonempty (ō (fA k) f)/\mG x=some (.ref (fA k)):= by
 refine É (ue.mp h) λd hd h=>?_;simp only[be] at h;obtain⟨⟨h1,h2⟩,h3⟩:=h;have h1:=am h1;refine fZ (T.fn d hd) λa o pm cd zt=>?_;refine cW zt λņ q1 q2 q3 q4=>?_;clear zt;rw[h1] at q1;have Tj:=BA hk q1;exact O Tj ⟨⟨⟨d.name,d.params,d.body,d.scope,pm,cd,ņ,o,h2,q2,q3,q4,λvs hv=>xA h3 hv⟩⟩,q1⟩
theorem xC (T:Top Vw Lw Ě mG mb H0) (h:RK=true):Nonempty (ď (fA 1000))/\mG ("_iter_escaped_chars":Str)=some (.ref (fA 1000)):= by
 refine É (ue.mp h) λd hd h=>?_;simp only[be] at h;obtain⟨⟨h1,h2⟩,h3⟩:=h;have h1:=am h1;refine fZ (T.fn d hd) λa o pm cd zt=>?_;refine cW zt λņ q1 q2 q3 q4=>?_;clear zt;rw[h1] at q1;have Tj:=BA (k:=1000) rfl q1;exact O Tj ⟨⟨⟨d.name,d.params,d.body,d.scope,pm,cd,ņ,o,h2,q2,q3,q4,λv=>xA h3 rfl⟩⟩,q1⟩
theorem YN (T:Top Vw Lw Ě mG mb H0) (ZH:KT.Holds H0 1 0 t) (TF:Ĉ W0.params t Ξ "EXACT_TOKEN_TYPES" dl) (Jn:eB (dl.map (·.1))=true)
  (c1:∀(k:Nat) x f,ļ[k]?=some x->aP[k]?=some f->IK (x,f)=true) (hl:ļ.length=aP.length) (Nu:ļ.length<=1000) (c2:RK=true) (c3:∀xg∈GL,aAM xg=true):ċ:= by
 refine lE TF.stat λo2 ep2 g2 d2=>?_;refine cH TF.glob λo3 es ep3 g3 d3 hf zt=>?_;refine fZ zt λa o' ρ ep' zt=>?_;refine pK zt λn1 n2 n3 n4 n5 n6=>?_;clear zt;have g2:=kt_at ZH g2;have g3:=kt_at ZH g3;have n3:=kt_at ZH n3;have Mw:∀x,mG x=nsFind es x:= by
  refine cH T.g λo Xz ep e1 e2 _ e4=>?_;rw[show mainGlobals=3 from rfl,g3] at e1;cases e1;rw[d3] at e2;cases e2;exact λx=>(e4 x).symm
 refine⟨?_,T.nolimit,?_,mG,mb,T.g,T.b,?_⟩
 ·refine⟨λ_=>none,⟨o2,#[],ep2,g2,d2,λe he=>by simp at he,λx=>by rfl⟩,rfl⟩
 ·exact jc (by decide) (da g3)
 ·intro x g hx;have hm:=bI hx;have hc:=c3 _ hm;have fnAt:∀k,ļ[k]?=some x->∃v,mG x=some v/\GV v (.fn k):= by
   intro k hk;have Gu:k<ļ.length:=(df.mp hk).1;have hf:aP[k]?=some aP[k]:=by simp
   have Ot:D4 k=x:=by delta D4;refine O (if_neg (by exact fc (ae Gu Nu))) (O hk ?_);rfl
   obtain⟨⟨R⟩,q⟩:=xB T Ot (c1 k x _ hk hf);exact⟨_,q,rfl,R.o,_,R.at_,R.data⟩
  cases g with
  |bi b=>refine xa (qJ T (v:=Τ b) hc) λq1 q2=>?_;exact⟨_,.inr ⟨q1,q2⟩,rfl⟩
  |rng=>refine xa (qJ T (v:=.type "range") hc) λq1 q2=>?_;exact⟨_,.inr ⟨q1,q2⟩,rfl⟩
  |enum=>refine xa (qJ T (v:=.type "enumerate") hc) λq1 q2=>?_;exact⟨_,.inr ⟨q1,q2⟩,rfl⟩
  |fn k=>refine É (fnAt k (am hc)) λv q1 q2=>?_;exact⟨v,.inl q1,q2⟩
  |gen=>
   have hx:=am (show(x==("_iter_escaped_chars":Str))=true from hc);subst hx;obtain⟨⟨R⟩,q⟩:=xC T c2;exact⟨_,.inl q,rfl,R.o,_,R.at_,R.data⟩
  |cst c=>
   cases c with
   |int n=>
    have hc:(match valOf Vw x with|some (.int m)=>m==n|_=>false)=true:=hc;revert hc;cases e:valOf Vw x with
    |none=>exact nf
    |some q=>cases q with
     |int m=>
      intro hc;rw[am hc] at e;refine É (T.const x _ e) λv q1 q2=>?_;have q2:=q2 H0;cases q2;exact⟨_,.inl q1,.int _ _⟩
     |_=>exact nf
   |flt b=>
    refine É (LJ (ao.mp hf (x,b) (pq.mp hc))) λu e e2=>?_;exact⟨_,.inl (by exact O (Mw ..) e),.flt _ _ e2⟩
   |dcts l=>
    refine xa (aC hc) λe1 e2=>?_;clear hc;have e1:=am e1;have e2:=of_decide_eq_true e2;subst e1 e2;exact⟨_,.inl (by exact O (Mw ..) n1),.dcts (λq=>q) (D0 n2 n3 n4 n5 Jn n6)⟩
   |_=>exact nf hc
theorem RL{vs:List ag}{ns:List Int}(h:Dl vs ns):Í h0 N vs (ns.map .int):= by
 induction h with
 |nil=>exact .nil
 |cons n t r x=>exact .cons (.int n t) x
theorem GN (hh:bc.heap=H0) (T:Top Vw Lw Ě mG mb H0) (ZH:KT.Holds H0 1 0 t) (TF:Ĉ W0.params t Ξ "EXACT_TOKEN_TYPES" dl) (Jn:eB (dl.map (·.1))=true)
  (c1:((ļ.zip aP).all (IK))=true) (hl:ļ.length=aP.length) (Nu:ļ.length<=1000) (c2:RK=true) (c3:(GL.all (aAM))=true)
  (hm:(aP.all λf=>decide (ĥ f.code<=15))=true)
  (hg:bc.gens=#[]) (htk:0<bc.toks){k:Nat}{x:Str}{fa a:ew}(hk:ļ[k]?=some x) (Mw:mG x=some (.ref fa)){vs:List ag}{ns:List Int}
  (ho:H0.get? a=some {cls:=.type "list",data:=.seq vs.toArray}) (hI:Dl vs ns) (hd:FT aP 6 k [.lst (ns.map .int)]=some (.bool true))
  {Q:Vs}{E:Vs}(hQ:∀v s',Pure bc s'->v=.bool true->Q v s'):wpAny (model Pg W0) callerA (call (.ref fa) [.ref a]) Q E bc:= by
 have c1':∀(k:Nat) x f,ļ[k]?=some x->aP[k]?=some f->IK (x,f)=true:= by
  intro k x f h1 h2;refine ao.mp c1 _ ?_;refine ii (i:=k) ?_;exact O (propext (List.getElem?_zip_eq_some)) ⟨h1,h2⟩
 have GK:=YN T ZH TF Jn c1' hl Nu c2 (λxg h=>ao.mp c3 xg h);obtain⟨⟨g⟩,-⟩:=xC T c2;have nmk:∀{k:Nat}{x:Str},ļ[k]?=some x->D4 k=x:= by
  intro k x h;have Gu:k<ļ.length:=(df.mp h).1
  delta D4;refine O (if_neg (by exact fc (ae Gu Nu))) (O h ?_);rfl
 have hr:∀k f,aP[k]?=some f->Nonempty (ō (fA k) f):= by
  intro k f h;have Gu:k<ļ.length:=by exact O hl ((df.mp h).1)
  have h1:ļ[k]?=some ļ[k]:=by simp
  exact(xB T (nmk h1) (c1' k _ f h1 h)).1
 have FK:=s7 GK g hr (λf hf=>by simpa using ao.mp hm f hf) 6;have Tj:=BA (nmk hk) Mw;refine aBD Tj ?_;refine FK k callerA bc υ [.ref a] _ _ Q E ⟨rfl,by decide,by decide⟩ ⟨λ_ _ e=>by exact O hh e,λb q=>q.elim,by refine O hh ?_;exact ai _,λb q=>q.elim,htk,by refine O hg ?_;intro g hgm;simp at hgm⟩ (.cons (.lst (λq=>q) ⟨_,by exact O hh ho⟩ (RL hI)) .nil) hd ?_;intro v s' P r;cases r;exact hQ _ s' P rfl
theorem aAN (P:Pure bc s') (hg:bc.gens=#[])
  (hr:∀cls,c.raises args cls=false) (hp:c.post args (.bool true) args=true):GoodWG c cl mean' args bc (.ok (.ret (.bool true))) s':=
 (d9 (.inl (eV _ _ ([]) rfl hr (ReadsW.bool true) hp (λ_=>⟨List.nodup_nil,λ_ hm=>(nomatch hm)⟩))) (OldK.of_keep λb o e=>P.step.keep b o (λq=>q) e) P.os (P.bare (by exact O hg od.empty)))
end
end Mine
end
section
open PySem PySem.W PyProof.Rows PySem.W.X PySem.W.ZRun
namespace Mine.L2
theorem cm:(aP.all λf=>decide (ĥ f.code<=15))=true:=by decide +kernel
theorem cdn:eB (dl.map (·.1))=true:=by decide +kernel
theorem gol:χ Pg X0:= by
 intro Ě mb bc t fa a vs ns Q E hh T ZH TF hg htk Mw ho hI hn hQ;have hh:bc.heap=H0:=by unfold H0;exact hh
 have T:Top Vw Lw Ě mG mb H0:=by unfold mG H0;exact T
 have ZH:KT.Holds H0 1 0 t:=by unfold H0;exact ZH
 have TF:Ĉ W0.params t Ξ "EXACT_TOKEN_TYPES" dl:=by unfold W0;exact TF
 have Mw:mG "law"=some (.ref fa):=by unfold mG;exact Mw
 have ho:H0.get? a=some {cls:=.type "list",data:=.seq vs.toArray}:=by unfold H0;exact ho
 have c:=GN hh T ZH TF cdn (k:=20) (aP:=aP) (by decide +kernel) rfl (by decide) (by decide +kernel) (by decide +kernel) cm hg htk rfl Mw ho hI (math _ hn) (E:=E) hQ;unfold W0 at c;exact c
theorem YO{p:Dk}{l:List Str}{Ě:Fi->Option ag}{mg mb:Str->Option ag}{h:jg}(e:(p,l)=(Vw,Lw)) (T:Top p l Ě mg mb h):Top Vw Lw Ě mg mb h:= by
 cases e;exact T
theorem YP (w:World) (h:jg) (mg:Str->Option ag):χ fk.row.prog ⟨w,h,mg⟩:= by
 have g:=RQ gol ⟨w,h,mg⟩;unfold Pg at g;exact g
set_option Elab.async true
namespace main
theorem tw13767196840033043385:1=1:=rfl
theorem tw13748169137248023566:1=1:=rfl
theorem tw9960279763924929858:1=1:=rfl
theorem tw1284133851029558817:1=1:=rfl
theorem tw10231640520124113809:1=1:=rfl
theorem tw16262485267612473230:1=1:=rfl
theorem tw16908913680208186647:1=1:=rfl
theorem tw6550502643716466530:1=1:=rfl
theorem tw12252246504875206082:1=1:=rfl
theorem tw4828451741976635651:1=1:=rfl
theorem tw2912869823147480465:1=1:=rfl
theorem tw17161176056286944022:1=1:=rfl
theorem tw12947736369649479349:1=1:=rfl
theorem tw14129361235818393050:1=1:=rfl
theorem tw13820546993740034878:1=1:=rfl
theorem tw10421328512042795812:1=1:=rfl
theorem tw17717110454792707531:1=1:=rfl
theorem tw15266117254989187786:1=1:=rfl
theorem tw1503715745255644668:1=1:=rfl
theorem tw13619204493517199215:1=1:=rfl
theorem tw3535298097417781007:1=1:=rfl
theorem tw17904598562110171561:1=1:=rfl
theorem tw10679867299238200453:1=1:=rfl
theorem tw15209264476516694914:1=1:=rfl
theorem tw5284393808749169669:1=1:=rfl
theorem tw2246686480840793823:1=1:=rfl
theorem tw10021153346340719643:1=1:=rfl
theorem tw10250637076664573298:1=1:=rfl
theorem tw10595480477013955020:1=1:=rfl
theorem tw10619561948842833253:1=1:=rfl
theorem tw10627109589045031416:1=1:=rfl
theorem tw10646886728061803221:1=1:=rfl
theorem tw10745629030038263092:1=1:=rfl
theorem tw10934330873542809332:1=1:=rfl
theorem tw10954045377073310696:1=1:=rfl
theorem tw10981376502683060452:1=1:=rfl
theorem tw11065013078929939563:1=1:=rfl
theorem tw11080393372660877700:1=1:=rfl
theorem tw11140887632564363571:1=1:=rfl
theorem tw11376683966290177967:1=1:=rfl
theorem tw11492372890208215984:1=1:=rfl
theorem tw11604341645370147296:1=1:=rfl
theorem tw11739102640590237181:1=1:=rfl
theorem tw11745794054035035372:1=1:=rfl
theorem tw11994947126377125563:1=1:=rfl
theorem tw12255622907869322194:1=1:=rfl
theorem tw12459145279392647399:1=1:=rfl
theorem tw12522820006812358283:1=1:=rfl
theorem tw12620476658868265700:1=1:=rfl
theorem tw12696271265220768675:1=1:=rfl
theorem tw12965373477792128724:1=1:=rfl
theorem tw13046620219155413540:1=1:=rfl
theorem tw13054754952697759389:1=1:=rfl
theorem tw13067608063964746582:1=1:=rfl
theorem tw13182966127279451750:1=1:=rfl
theorem tw13369896539834659272:1=1:=rfl
theorem tw13569115156862083265:1=1:=rfl
theorem tw13770383903170022817:1=1:=rfl
theorem tw1379365428245128706:1=1:=rfl
theorem tw14061327726715336148:1=1:=rfl
theorem tw14067208205631941978:1=1:=rfl
theorem tw1436578998779397012:1=1:=rfl
theorem tw14464728394815665015:1=1:=rfl
theorem tw14565041854700376118:1=1:=rfl
theorem tw14699176610267097541:1=1:=rfl
theorem tw14710829285472873340:1=1:=rfl
theorem tw14993492554025853190:1=1:=rfl
theorem tw15323809478113033076:1=1:=rfl
theorem tw15465508373670800122:1=1:=rfl
theorem tw15612023140216913929:1=1:=rfl
theorem tw15647479803148185167:1=1:=rfl
theorem tw15650034975836300442:1=1:=rfl
theorem tw15823959654058927758:1=1:=rfl
theorem tw16067632708561041242:1=1:=rfl
theorem tw16187808761413617275:1=1:=rfl
theorem tw16266116500517948701:1=1:=rfl
theorem tw16355342317191960694:1=1:=rfl
theorem tw16431066664207061078:1=1:=rfl
theorem tw16442037542971074831:1=1:=rfl
theorem tw16508760260868687356:1=1:=rfl
theorem tw16532805668926285731:1=1:=rfl
theorem tw16769307395564302470:1=1:=rfl
theorem tw1686482573736325607:1=1:=rfl
theorem tw16876365955864352765:1=1:=rfl
theorem tw16942215534296381981:1=1:=rfl
theorem tw17246406272573063386:1=1:=rfl
theorem tw17374643516635832508:1=1:=rfl
theorem tw17435042462397108571:1=1:=rfl
theorem tw17556777152801393452:1=1:=rfl
theorem tw1764000637244573279:1=1:=rfl
theorem tw17820328777069312259:1=1:=rfl
theorem tw1784938367784881480:1=1:=rfl
theorem tw17983495851058141691:1=1:=rfl
theorem tw18031771169488832972:1=1:=rfl
theorem tw1812127647038032938:1=1:=rfl
theorem tw1812617158167736266:1=1:=rfl
theorem tw18285394209598149913:1=1:=rfl
theorem tw18418050667527768384:1=1:=rfl
theorem tw1899453082664686514:1=1:=rfl
theorem tw1984615660262058620:1=1:=rfl
theorem tw1998012472422649787:1=1:=rfl
theorem tw2136118790687687892:1=1:=rfl
theorem tw2144673767982910851:1=1:=rfl
theorem tw2172274745220904897:1=1:=rfl
theorem tw2242974340867889337:1=1:=rfl
theorem tw2665801021181447021:1=1:=rfl
theorem tw3034798036276051264:1=1:=rfl
theorem tw3047881841475859557:1=1:=rfl
theorem tw3145496782919052911:1=1:=rfl
theorem tw3173007386172800211:1=1:=rfl
theorem tw3389001460184677071:1=1:=rfl
theorem tw3442296962715124618:1=1:=rfl
theorem tw3464632028660713389:1=1:=rfl
theorem tw34749942188807484:1=1:=rfl
theorem tw3652388799556462935:1=1:=rfl
theorem tw3965176532821225790:1=1:=rfl
theorem tw4183906573399271828:1=1:=rfl
theorem tw4390734119716235383:1=1:=rfl
theorem tw4535261654632465198:1=1:=rfl
theorem tw461085900525874700:1=1:=rfl
theorem tw5087393970279904021:1=1:=rfl
theorem tw5178289440732429739:1=1:=rfl
theorem tw5264794226619544523:1=1:=rfl
theorem tw5284393808748169669:1=1:=rfl
theorem tw5309437889940958566:1=1:=rfl
theorem tw5416029784201320350:1=1:=rfl
theorem tw5609276715730500484:1=1:=rfl
theorem tw5656902625841734303:1=1:=rfl
theorem tw5740362637227135306:1=1:=rfl
theorem tw5876413754129326892:1=1:=rfl
theorem tw590301791517758684:1=1:=rfl
theorem tw6109279912686963854:1=1:=rfl
theorem tw6323650216058538088:1=1:=rfl
theorem tw6988575870353996398:1=1:=rfl
theorem tw7264281813739215591:1=1:=rfl
theorem tw7334022344496404692:1=1:=rfl
theorem tw7731120239835211629:1=1:=rfl
theorem tw7981104282891164952:1=1:=rfl
theorem tw8061433547365139294:1=1:=rfl
theorem tw8106871702016302497:1=1:=rfl
theorem tw8250408316120837298:1=1:=rfl
theorem tw8584575541446657670:1=1:=rfl
theorem tw8775116940779892234:1=1:=rfl
theorem tw8894541790217916655:1=1:=rfl
theorem tw9165570379717241128:1=1:=rfl
theorem tw9273895668415652037:1=1:=rfl
theorem tw9438125174917442576:1=1:=rfl
theorem tw9537127554292764476:1=1:=rfl
theorem tw9637377207811869733:1=1:=rfl
theorem tw9908319317946063135:1=1:=rfl
theorem tw9967387111504653387:1=1:=rfl
end main
set_option maxRecDepth 100000 in
set_option maxHeartbeats 0 in
set_option pp.deepTerms false in
set_option pp.maxSteps 1500 in
theorem main:fk.Holds:= by
 w_on;o_law;z_head;(case hw=>w_witness2)
 k_fill
 intro w By bc mg mb G y fa o pm cd ņ dV kV ho hd Vb hD Mw hg args vals as L Kr Wm hrd hwl hlo
 z_open y L KX ZH ZN ZT
 refine Ground.open G ?_;intro T B D TE TW
 wrow_args Kr Wm hrd hwl hlo
 obtain⟨hat,Kc⟩:=script_at L;have htk:=script_toks L ZT
 rename jg.IsList _ _ _=>hL
 rename Dl _ _=>hI
 rename ¬_=>hc
 have hob:=script_obj L hL;refine YP w bc.heap mg _ mb bc _ fa _ _ _ _ _ rfl (YO (by kernel_rfl) T) ZH ?_ hg (ae (by decide) htk) Mw hob hI (by omega) ?_
 ·refine⟨⟨_,_,rfl,rfl⟩,⟨_,_,_,rfl,rfl,by kernel_rfl,_,_,_,_,rfl,rfl,rfl,⟨rfl,rfl,rfl⟩,rfl,?_⟩⟩
  repeat (refine⟨⟨_,rfl⟩,rfl,⟨_,rfl⟩,?_⟩)
  trivial
 ·intro v s' P hv;subst hv;refine aAN P hg ?_ ?_
  ·intro cls;rfl
  ·kernel_rfl
end Mine.L2
end
end
theorem PySem.Challenge.cw_sw0065_02_holds : PySem.Challenge.rw_sw0065_02.Holds := by
 exact Mine.L2.main
