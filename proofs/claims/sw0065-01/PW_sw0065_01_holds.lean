import PyProof.Rows.All
import KE.KUnpack
import ObjForm.ListNI
import Wide.FinOn
import OpenK.AllK
import Wide.All
import PySem.Challenge.RW_sw0065_01
set_option Elab.async false
set_option autoImplicit true
set_option relaxedAutoImplicit true
set_option linter.all false
set_option maxHeartbeats 2000000
set_option genInjectivity false
set_option genSizeOf false
set_option bootstrap.genMatcherCode false
set_option tactic.hygienic false
noncomputable section
open Option renaming some->J,none->Ww
open Bool renaming true->Wu,false->Wv
open PySem.Float64 (div isZero divmod ofInt fmod isInf ofFrac truncOf sub val add mul one)
open Nat renaming le_trans->aa,lt_of_lt_of_le->af,le_refl->ai,add_le_add_right->ax,le_of_eq->be,not_lt->bp,sub_add_cancel->cf,le_succ_of_le->da,lt_succ_self->dg,le_of_lt->dp,add_le_add_left->dx,lt_trans->eb,le_antisymm->eo,ne_of_lt->fx,zero_add->gk,lt_irrefl->gn,le_succ->gy,lt_succ_of_lt->ia,le_add_of_sub_le->ig,le_max_right->il,succ_le_succ->im,le_of_succ_le->iw,ne_of_gt->iy,two_pow_pos->jb,zero_le->jd,le_add_right->je,mul_comm->jj,succ_pos->jk,lt_of_succ_lt_succ->jn,add_le_add->jo,le_max_left->jt,lt_of_le_of_lt->jv,mul_assoc->jz,le_add_left->ll,mul_le_mul_left->ls,min_le_right->md,mul_left_comm->nc,add_sub_cancel'->nj,succ_lt_succ->np,pow_add->nv,sub_eq_zero_of_le->oj,le_of_not_lt->oq,lt_or_ge->ov,sub_lt_sub_left->oz,div_add_mod->po,min_eq_left->pr,mod_lt->qd,one_mul->qg,le_of_lt_succ->qk,le_of_succ_le_succ->qq,add_comm->qt,min_eq_right->qu,ble->qv,mul_le_mul_right->re,mul_le_mul->su,lt_succ_of_le->tz,pow_succ->vm,le_mul_of_pos_left->vz,one_pos->wn,succ->xd,not_succ_le_zero->xh,pos_iff_ne_zero->xv,eq_zero_or_pos->yn,zero_mul->yw,lt_of_succ_lt->zf,sub_pos_of_lt->zn,zero_lt_succ->Ab,mul_add->An,mul_one->Ao,mul_eq_zero->Bj,min_assoc->Cq,sub_self->Db,succ_mul->Dc,pow_zero->De,add_zero->Df,mul_zero->Dg,le_total->Di,min_self->Dj,sub_lt->Ek,sub_le->Eo,not_le->Ep,mod_le->Er
open List renaming replicate->ab,mem_cons_self->ag,mem_cons_of_mem->ah,length_append->am,length_map->ao,map_cons->aw,getElem?_eq_getElem->bf,append_nil->bj,append_assoc->bk,map_append->bm,mem_singleton->bx,all_eq_true->bz,getD_eq_getElem?_getD->cg,length_cons->ci,replicate_succ->cj,range->cv,mem_cons->dL,length->db,sum_cons->di,lookup_cons->dk,length_replicate->dq,getElem?_eq_some_iff->dw,getElem?_map->ej,mem_append->ew,flatten_cons->fm,length_range->gh,cons_append->gq,mem_replicate->ij,map_map->ip,filterMap_cons->iu,mem_map->ja,contains_eq_mem->jf,length_take->jw,map_nil->jy,map_congr_left->lq,getElem?_toArray->mm,contains_iff_mem->mo,sum_append->mu,mem_map_of_mem->ne,length_reverse->ni,mem_range->nt,range_succ_eq_map->oa,take_of_length_le->oc,getElem?_eq_none->oi,drop_length->ow,length_drop->ox,length_filterMap_le->pd,nil_append->pn,zip_cons_cons->pz,mem_singleton_self->qf,forIn_nil->qp,drop_append_of_le_length->ri,getLast?_eq_some_getLast->rj,length_nil->rm,append_toArray->rn,getElem?_drop->ta,take_take->td,getLast?_eq_getElem?->tj,getElem_mem->uo,any_eq_true->uv,length_eq_zero_iff->uw,not_mem_nil->ve,take_length->vk,filter_eq_nil_iff->wa,dropLast_eq_take->wk,getElem?_reverse->wl,mem_of_getElem?->xi,getLast?_concat->xm,mem_of_mem_take->xo,length_pos_iff->xy,getElem?_range->yc,map_take->yk,drop_nil->yl,zip_nil_right->ys,take_add_one->zd,map->ze,toArray->zj,push_toArray->zk,contains_nil->zm,reverse_cons->zu,isEmpty_iff->Ah,lookup->Ak,foldl_cons->Ba,nodup_cons->Bc,forIn_cons->Bd,of_mem_zip->Bg,mem_filter->Bh,range_succ->Bm,drop_drop->Cb,filterMap->Cf,sum_nil->Da,map_id->Ec
open Inhabited renaming default->ac
open PySem.Float64 renaming sub->ae,ofInt->au,isZero->ck,divmod->cw,fmod->df,cmp->fw,zero->la,val_eq->mi,truncOf->ms,val_natAbs->qe,decode->qo,isInf->qw,sgn->rg,copysign->vf,isFinite->vh,lt->vx,floorOf->wh,ofFrac_right->xk,V->xq,decode_pack->ye,ofBin->yj,add_right->zp,mul_right->zq,decode_ge->zs,V_at->Dd,neg->Eb
open PySem renaming Value->aj,Shared->ak,Expr->az,wpAny_bind->bh,wpAny_pure->cy,Around->dj,Addr->fy,Operator->ir,Stmt->jg,wpAny_standAt->ji,Heap->ju,Scope->jx,wpAny_mono->lj,NameKind->mz,Comprehension->qx,seqSlot_of->uk,Keyword->vw,Result->ym,UnaryOp->zh,IsEnum->Ad,Arguments->Ae,Const->Bu,BoolOp->Bv,Flow->Bw,Frame->Bz,DictEntry->Cr,CmpOp->Cs,Program->Cv,Builtin->Cy,GenState->Dq,IsRangeIter->Dv,Protocol->Ea,JoinOk->El,Code->En,ExcName->Es,Model->Ew,Walks->Ex,Meets->Ff
open Rat renaming intCast_le_intCast->an,le_of_lt->ay,intCast_lt_intCast->bn,mul_le_mul_of_nonneg_right->cu,lt_of_mul_lt_mul_right->fe,zero_mul->fg,le_refl->fj,mul_nonneg->fk,intCast_natCast->gw,div_mul_cancel->ie,le_total->io,not_le->jc,mul_lt_mul_of_pos_right->jh,natCast_mul->li,le_antisymm->lm,ne_of_gt->lu,natCast_le_natCast->lw,not_lt->mf,natCast_pos->mq,natCast_ofNat->mv,intCast_pow->pq,pow_zero->qj,one_mul->rf,pow_succ->rz,intCast_nonneg->sj,add_nonneg->sk,natCast_nonneg->sn,natCast_lt_natCast->vn,le_trans->vy,natCast_inj->wb,div_def->xl,sub_eq_add_neg->yr,mul_comm->yx,add_mul->Aq,mul_eq_zero->As,intCast_mul->Au,natCast_add->Av,intCast_add->Aw,intCast_sub->Ax,intCast_neg->Ay,intCast_inj->Az,ne_of_lt->Dh,mul_one->Dp
open LawfulBEq renaming eq_of_beq->aq
open Int renaming le_trans->ar,natAbs_of_nonneg->av,le_of_lt->ba,natCast_nonneg->bl,le_refl->bq,toNat_of_nonneg->ca,mul_le_mul_of_nonneg_left->dd,le_of_eq->de,not_lt->dr,emod_lt_of_pos->ds,ofNat_lt->ei,emod_nonneg->ge,lt_of_lt_of_le->gj,ofNat_le->gm,ne_of_gt->iD,add_comm->ib,natAbs_mul->ii,le_antisymm->iz,mul_comm->jp,sub_nonneg_of_le->lb,add_nonneg->lc,sub_pos_of_lt->lf,toNat_natCast->lg,natAbs_natCast->mj,le_add_of_nonneg_right->ml,eq_ofNat_of_zero_le->nq,lt_of_le_of_lt->od,natCast_mul->oe,mul_nonneg->oo,neg_mul->qh,one_mul->qi,toNat_le->ql,mul_assoc->qz,mul_neg->rW,sub_le_sub_right->rh,lt_trans->sb,ne_of_lt->sd,add_zero->se,fdiv_eq_ediv_of_nonneg->sr,sub_add_cancel->sw,ofNat_natAbs_of_nonpos->tc,add_sub_assoc->ue,lt_irrefl->uf,mul_ediv_add_emod->wm,le_of_lt_add_one->wo,neg_le_of_neg_le->xj,toNat->xu,sub_le_sub_left->yf,add_le_add_left->yg,natAbs->yq,le_total->zr,min_eq_right->Af,max_eq_right->Ag,min_eq_left->Bk,sub_le_self->Bl,not_le->Bq,natAbs_neg->Cd,pow_nonneg->Ce,le_natAbs->Cp,pow_zero->Cu,mul_one->Dw
open Option renaming isSome_iff_exists->bg,map_eq_some_iff->ce,bind_eq_some_iff->co,getD_none->ma,none->ol,map->tb,getD_some->ux,map_some->Be
open PySem.Heap renaming size_push->br,get?_push_of_some->cb,get?_push_size->cr,lt_size->dc,SameBut->ot,size_update->Aa
open Bool renaming and_eq_true->bt,false_eq_true->bw,not_eq_true'->en,eq_false_iff->jl,or_eq_true_iff->jr,or_eq_true->mr,and_eq_true_iff->mw,eq_iff_iff->og,false_ne_true->pw,rec->sp,not_eq_true->Ac
open PySem.NameKind renaming free->dh,cell->ik
open Pure renaming pure->dm
open Lean renaming RArray->dv
open PySem.Calls renaming docDef->ec,spliced_cons->ez,evalArgs_plain->ic,spliced_nil->iv,callWith_builtin->ly,callWith_function->uu
open Option.some renaming inj->fz,injEq->jm
open PySem.Builtin.Range renaming rangeSize->gf,small->nh,rangeFitsLong->sa
open Eq renaming subst->iq,trans->Bp
open PySem.Builtin.Str renaming strSliceIndices->lx,occurrences->ul,tooLong->xw
open OfNat renaming ofNat->lz
open Array renaming getElem?_eq_some_iff->mh,eq_empty_of_size_eq_zero->nl,toList->DL
open Ordering renaming eq->my,lt->Ai,gt->Aj
open Nat.succ renaming inj->nw
open Int.ofNat renaming inj->oh
open PySem.Value renaming float->om,int->xp,ref->zy,none->Cc,bool->Ej
open PyProof.Rows renaming callWith_type->on,AllBare->pg,assign_Tuple->to,Assign_Tuple_swapped->yv,getItem_tuple->Br,isTrue_plain->Ck,Assign_Tuple->Cm,isTrue_not->Ct,IntsAre->Cw,mul_int->Dr,mod_int->Ds
open PySem.Builtin.Int renaming intBits->oy,intTooBig->wi
open Prod renaming ext->pf
open PySem.Expr.Tuple renaming elim->ph
open PySem.Expr.ListComp renaming elim->pt
open Ne renaming symm->qm
open PySem.Sem renaming bind_eq_wrap'->qr,wrap_wrap->qy,bind_eq_wrap->vd,onRaise_eq_wrap->yd,wrap_congr->Ca,pure->Ed
open PySem.F renaming slot_int_rmul->rk,slot_tuple_mul->uj,plainAttrs_list->va,slot_dict_getitem->xz,slot_tuple_rmul->yz,args_int_rmul_2->za,slot_int_index->zw,entry_int_rmul->zx,fills_int_mul->Bb
open PySem.Expr.Subscript renaming elim->ro
open PySem.Expr.Attribute renaming elim->rx
open PySem.Stmt.AugAssign renaming elim->ry
open PySem.Expr renaming Call->si,UnaryOp->zi
open PySem.Expr.Constant renaming elim->sv
open Classical renaming byContradiction->th,epsilon_spec->vo,epsilon->yy
open PySem.Builtin.Generator renaming genWake->tt
open PySem.AutoFloatOps renaming eq_0->tv,lt_0->zb,gt_0->zc,truediv_1->Cz,add_0->Ee,sub_0->Ef,mul_0->Eg,mod_1->Eh,ne_0->Et,le_0->Eu,ge_0->Ev
open PySem.Expr.UnaryOp renaming elim->tw
open PySem.Expr.Compare renaming elim->ty
open PySem.Code renaming weight->ua,cUnits->uc
open Int.le renaming dest->ud
open PySem.Builtin.List renaming listTooLong->uh,listFitsIndex->Bn
open PySem.Shared renaming setGen->ui
open PySem.Around renaming in1_depth->um,in1_units->un
open PySem.Expr.BoolOp renaming elim->uq
open PySem.Stmt.Assign renaming elim->uy
open PySem.Stmt.Return renaming elim->uz
open PyProof renaming noPylong_small->vp
open PySem.Expr.BinOp renaming elim->wc
open PySem.Expr.IfExp renaming elim->wd
open PySem.Expr.Slice renaming elim->we
open PySem.Stmt.While renaming elim->wf
open PySem.Expr.Yield renaming elim->wg
open PySem.MeetsSeq renaming seqIndex_neg->wj,seqIndex_none_lo->Ci,seqIndex_none_hi->Cj
open PySem.Str renaming cps_append->wq,join->xn,ext'->Du,length->Ei
open PySem.Expr.Name renaming elim->wu
open PySem.Expr.List renaming elim->wv
open PySem.Expr.Dict renaming elim->ww
open PySem.Expr.Call renaming elim->wx
open PySem.Const.str renaming elim->wy
open PySem.Const.int renaming elim->wz
open PySem.Stmt.Expr renaming elim->xf
open PySem.Stmt.For renaming elim->yh
open List.cons renaming inj->yi
open PySem.AutoListH renaming list___mul___list_int_3->yu
open PySem.Stmt.If renaming elim->zl
open PySem.End renaming susp->zo
open PySem.Walks renaming tuple->Al,list->Bt
open PySem.IsRange renaming new->Am
open Lean.Grind.Semiring renaming pow_zero->Ar
open ForInStep renaming yield->Bf
open PySem.isSame renaming created->Bo
open PyProof.Rows.Copied renaming pop_at->Bx
open PySem.Expr.Set renaming elim->Cn
open PySem.AutoFloatOpsIf renaming sub_fi->Dk,mul_fi->Dl,mul_if->Dm
open PySem.AutoIntOps renaming truediv_2->Dt,pow_0->Ey,pow_4->Ez,add_0->Fa,sub_0->Fb
open Decidable renaming of_not_not->Dx
open PUnit renaming unit->Em
open PySem.IntMulOk renaming of_left->Fc
open PySem.P renaming neg_int->Fd
open PySem.Heap.DictOf renaming new->Fe
open PySem.Txt renaming join->Fg
section
namespace Mine.Internal
@[elab_as_elim] theorem O{α:Sort _}{a b:α}{motive:α->Prop}(h:a=b) (k:motive b):motive a:=Eq.substr h k
@[elab_as_elim] theorem aFZ{α:Sort _}{a b:α}{motive:α->Prop}(h:b=a) (k:motive b):motive a:=iq h k
namespace LA
open Lean.Grind Lean.Grind.CommRing
inductive LX where|V (i:Nat)|N (k:Nat)|A (a b:LX)|S (a b:LX)|M (a b:LX)|D (a b:LX)|P (a:LX) (k:Nat)|G (a:LX)|C (a:LX)
inductive LH where|L (c:Nat) (a b:LX)|T (c:Nat) (a b:LX)|U (c:Nat) (a b:LX)|X (c:Nat) (a b:LX)|Y (c:Nat) (a b:LX)|Z (c:Nat) (a b:LX)
abbrev Cx:=dv Rat
noncomputable def LX.den (v:Cx) (e:LX):Rat:=LX.rec (λi=>v.get i) (λk=>lz k) (λ_ _ a b=>a+b) (λ_ _ a b=>a-b) (λ_ _ a b=>a*b) (λ_ _ a b=>a/b) (λ_ k a=>a^k) (λ_ a=>-a) (λ_ a=>a) e
noncomputable def cst:Poly->Nat
 |.num k=>k.toNat
 |_=>0
def LX.tr (e:LX):CommRing.Expr×Nat:=LX.rec (λi=>(.var i,1)) (λk=>(.num k,1))
 (λ_ _ a b=>(.add (.mul a.1 (.num b.2)) (.mul b.1 (.num a.2)),a.2*b.2)) (λ_ _ a b=>(.sub (.mul a.1 (.num b.2)) (.mul b.1 (.num a.2)),a.2*b.2))
 (λ_ _ a b=>(.mul a.1 b.1,a.2*b.2)) (λ_ _ a b=>(.mul a.1 (.num (b.2*b.2:Nat)),a.2*(cst b.1.toPoly*b.2))) (λ_ k a=>(.pow a.1 k,a.2^k)) (λ_ a=>(.neg a.1,a.2)) (λ_ a=>a) e
theorem IH (k:Int):denoteInt k=(k:Rat):=denoteInt_eq k
theorem T7 (v:Cx):∀{p:Poly},0<cst p->p.denote v=((cst p:Nat):Rat)
 |.num k,h=>by
  have h1:((k.toNat:Nat):Int)=k:=ca (by have:0<k.toNat:=h;omega);show Poly.denote v (.num k)=((k.toNat:Nat):Rat);rw[<-gw,h1];rfl
 |.add _ _ _,h=>absurd h (gn 0)
theorem xB{a b:Nat}(h:0<a*b):0<a:=Nat.pos_of_ne_zero λe=>by rw[e,yw] at h;exact gn 0 h
theorem tI{a b:Nat}(h:0<a*b):0<b:=xB (jj a b▸h)
theorem MK (a b:Rat):∀k:Nat,(a*b)^k=a^k*b^k
 |0=>by rw[qj,qj,qj,Dp]
 |k+1=>by rw[rz,rz,rz,MK a b k];grind
theorem y6 (a:Nat):∀k:Nat,((a^k:Nat):Rat)=(a:Rat)^k
 |0=>by rw[qj];rfl
 |k+1=>by rw[rz,vm,li,y6 a k]
theorem LX.tr_den (v:Cx):∀e:LX,0<e.tr.2->e.den v*((e.tr.2:Nat):Rat)=e.tr.1.denote v
 |.V i,_=>by show v.get i*((1:Nat):Rat)=v.get i;grind
 |.N k,_=>by
  show(lz k:Rat)*((1:Nat):Rat)=denoteInt (k:Int);rw[IH,gw,<-mv];exact Dp _
 |.A a b,h=>by
  have h1:=a.tr_den v (xB h);have h2:=b.tr_den v (tI h);show(a.den v+b.den v)*((a.tr.2*b.tr.2:Nat):Rat)=a.tr.1.denote v*denoteInt (b.tr.2:Int)+b.tr.1.denote v*denoteInt (a.tr.2:Int);rw[IH,IH,gw,gw,li];grind
 |.S a b,h=>by
  have h1:=a.tr_den v (xB h);have h2:=b.tr_den v (tI h);show(a.den v-b.den v)*((a.tr.2*b.tr.2:Nat):Rat)=a.tr.1.denote v*denoteInt (b.tr.2:Int)-b.tr.1.denote v*denoteInt (a.tr.2:Int);rw[IH,IH,gw,gw,li];grind
 |.M a b,h=>by
  have h1:=a.tr_den v (xB h);have h2:=b.tr_den v (tI h);show(a.den v*b.den v)*((a.tr.2*b.tr.2:Nat):Rat)=a.tr.1.denote v*b.tr.1.denote v;rw[li];grind
 |.D a b,h=>by
  have h1:=a.tr_den v (xB h);have hp:0<b.tr.2:=tI (tI h);have Jt:0<cst b.tr.1.toPoly:=xB (tI h);have hc:=T7 v Jt;rw[CommRing.Expr.denote_toPoly,<-b.tr_den v hp] at hc;show(a.den v/b.den v)*((a.tr.2*(cst b.tr.1.toPoly*b.tr.2):Nat):Rat)=a.tr.1.denote v*denoteInt ((b.tr.2*b.tr.2:Nat):Int);rw[IH,gw,li,li,li,<-hc,<-h1];have:b.den v≠0:=λe=>by
   rw[e,fg] at hc;exact absurd (wb.mp hc.symm) (xv.mp Jt)
  grind
 |.P a k,h=>by
  have hp:k=0\/0<a.tr.2:= by
   cases k with
   |zero=>exact .inl rfl
   |succ k=>exact .inr (tI (show 0<a.tr.2^k*a.tr.2 from h))
  show a.den v^k*((a.tr.2^k:Nat):Rat)=a.tr.1.denote v^k;rw[y6,<-MK];rcases hp with e|hp
  ·rw[e,qj];exact(Ar _).symm
  ·rw[a.tr_den v hp]
 |.G a,h=>by
  have h1:=a.tr_den v h;show -a.den v*((a.tr.2:Nat):Rat)=-a.tr.1.denote v;grind
 |.C a,h=>a.tr_den v h
theorem T8{a b:Rat}(h:0<=a) (k:0<b):0<a+b:=by grind
theorem aFB{a b:Rat}(h:0<a) (k:0<=b):0<a+b:=by grind
theorem YQ{a b:Rat}(h:a=b):a<=b:=h▸fj
noncomputable def ZX:Mon->Bool
 |.unit=>Wu
 |.mult p m=>qv 32 p.x&&ZX m
def okP (s:Bool):Poly->Bool
 |.num k=>if s then decide (0<k) else decide (0<=k)
 |.add c m r=>decide (0<=c)&&(ZX m&&okP s r)
def ok (T:LX) (s:Bool):Bool:=decide (0<T.tr.2)&&okP s T.tr.1.toPoly
def Nn (v:Cx):Prop:=∀i,qv 32 i=Wu->0<=v.get i
theorem aX{a b:Bool}(h:(a&&b)=Wu):a=Wu/\b=Wu:=mw.mp h
theorem oY{v:Cx}(hv:Nn v):∀{m:Mon},ZX m=Wu->0<=m.denote v
 |.unit,_=>ay (mq.mpr wn)
 |.mult ⟨x,0⟩ m,h=>fk (ay (mq.mpr wn)) (oY hv (aX h).2)
 |.mult ⟨x,1⟩ m,h=>fk (hv x (aX h).1) (oY hv (aX h).2)
 |.mult ⟨x,k+2⟩ m,h=>fk (Rat.pow_nonneg (hv x (aX h).1)) (oY hv (aX h).2)
theorem GE{v:Cx}(hv:Nn v){s:Bool}:∀{p:Poly},okP s p=Wu->0<=p.denote v/\(s=Wu->0<p.denote v)
 |.num k,h=>by
  cases s
  ·have h1:0<=k:=_root_.of_decide_eq_true h;exact⟨sj.mpr h1,λq=>nomatch q⟩
  ·have h1:0<k:=_root_.of_decide_eq_true h;exact⟨sj.mpr (ba h1),λ_=>Rat.intCast_pos.mpr h1⟩
 |.add c m r,h=>by
  have h1:0<=c:=_root_.of_decide_eq_true (aX h).1;have h2:=oY hv (aX (aX h).2).1;have h3:=GE hv (aX (aX h).2).2;have h4:0<=c • m.denote v:= by
   rw[Ring.zsmul_eq_intCast_mul];exact fk (sj.mpr h1) h2
  show 0<=c • m.denote v+r.denote v/\(s=Wu->0<c • m.denote v+r.denote v);exact⟨sk h4 h3.1,λq=>T8 h4 (h3.2 q)⟩
theorem GF{a b:Rat}(hb:0<b) (h:0<=a*b):0<=a:=mf.mp λe=>by
 have:=jh e hb;rw[fg] at this;exact absurd h (jc.mpr this)
theorem AY{a b:Rat}(hb:0<b) (h:0<a*b):0<a:=jc.mp λe=>by
 have:=cu e (ay hb);rw[fg] at this;exact absurd h (mf.mpr this)
theorem ML{v:Cx}(hv:Nn v){T:LX}{s:Bool}(h:ok T s=Wu):0<=T.den v/\(s=Wu->0<T.den v):= by
 have h0:=aX h;have hp:=_root_.of_decide_eq_true h0.1;have hq:(0:Rat)<((T.tr.2:Nat):Rat):=mq.mpr hp;have hd:=T.tr_den v hp;rw[<-CommRing.Expr.denote_toPoly] at hd;have h1:=GE hv h0.2;rw[<-hd] at h1;exact⟨GF hq h1.1,λq=>AY hq (h1.2 q)⟩
noncomputable def sum:List LH->LX
 |[]=>.N 0
 |.L c a b::r|.T c a b::r|.U c a b::r=>.A (.M (.N c) (.S b a)) (sum r)
 |_::r=>sum r
noncomputable def MM:List LH->Bool
 |[]=>Wv
 |.T c _ _::r=>decide (0<c)||MM r
 |_::r=>MM r
def Dn (v:Cx) (g:Prop):List LH->Prop
 |[]=>g
 |.L _ a b::r=>a.den v<=b.den v->Dn v g r
 |.T _ a b::r=>a.den v<b.den v->Dn v g r
 |.U _ a b::r=>a.den v=b.den v->Dn v g r
 |_::r=>Dn v g r
theorem wt (c:Nat){a b:Rat}(h:a<=b):0<=(lz c:Rat)*(b-a):= by
 rw[<-mv];exact fk sn (by grind)
theorem wt' {c:Nat}(hc:0<c){a b:Rat}(h:a<b):0<(lz c:Rat)*(b-a):= by
 rw[<-mv];exact Rat.mul_pos (mq.mpr hc) (by grind)
theorem rS (v:Cx){g:Prop}:∀{hs:List LH},((0<=(sum hs).den v/\(MM hs=Wu->0<(sum hs).den v))->g)->Dn v g hs
 |[],h=>h ⟨fj,λq=>nomatch q⟩
 |.L c a b::r,h=>λh1=>rS v fun⟨q1,q2⟩=>h ⟨sk (wt c h1) q1,λq=>T8 (wt c h1) (q2 q)⟩
 |.T c a b::r,h=>λh1=>rS v fun⟨q1,q2⟩=>h ⟨sk (wt c (ay h1)) q1,λq=>by
   rcases jr.mp q with q|q
   ·exact aFB (wt' (_root_.of_decide_eq_true q) h1) q1
   ·exact T8 (wt c (ay h1)) (q2 q)⟩
 |.U c a b::r,h=>λh1=>rS v fun⟨q1,q2⟩=>h ⟨sk (wt c (YQ h1)) q1,λq=>T8 (wt c (YQ h1)) (q2 q)⟩
 |.X _ _ _::r,h=>rS (hs:=r) v h
 |.Y _ _ _::r,h=>rS (hs:=r) v h
 |.Z _ _ _::r,h=>rS (hs:=r) v h
noncomputable def ZY:List LH->Bool
 |[]=>Wu
 |.U _ _ _::r=>ZY r
 |_=>Wv
noncomputable def is0:Poly->Bool
 |.num k=>k==0
 |_=>Wv
def okE (T:LX):Bool:=decide (0<T.tr.2)&&is0 T.tr.1.toPoly
theorem UA{v:Cx}{T:LX}(h:okE T=Wu):T.den v=0:= by
 have hp:=_root_.of_decide_eq_true (aX h).1;have hd:=T.tr_den v hp;have h2:=(aX h).2;rw[<-CommRing.Expr.denote_toPoly] at hd;revert hd h2;cases T.tr.1.toPoly with
 |add _ _ _=>exact λ_ h=>nomatch h
 |num k=>
  intro hd h2;rw[aq h2] at hd;exact(As.mp (hd.trans rfl)).resolve_right λe=>absurd (wb.mp (e.trans rfl:((T.tr.2:Nat):Rat)=((0:Nat):Rat))) (xv.mp hp)
theorem du (v:Cx){g:Prop}:∀{hs:List LH},ZY hs=Wu->((sum hs).den v=0->g)->Dn v g hs
 |[],_,h=>h rfl
 |.U c a b::r,q,h=>λh1=>du v (hs:=r) q λq1=>h (by
   show(lz c:Rat)*(b.den v-a.den v)+(sum r).den v=0;rw[q1,h1];grind)
def chk:LH->List LH->Bool
 |.U c a b,hs=>decide (0<c)&&(ZY hs&&okE (.S (.M (.N c) (.S b a)) (sum hs)))
 |.L c a b,hs=>decide (0<c)&&ok (.S (.M (.N c) (.S b a)) (sum hs)) Wv
 |.T c a b,hs=>decide (0<c)&&ok (.S (.M (.N c) (.S b a)) (sum hs)) (!MM hs)
 |_,_=>Wv
def LH.go (v:Cx):LH->Prop
 |.L _ a b=>a.den v<=b.den v
 |.T _ a b=>a.den v<b.den v
 |.U _ a b=>a.den v=b.den v
 |_=>True
theorem out{c:Nat}(hc:0<c){a b s:Rat}(h:0<=(lz c:Rat)*(b-a)-s) (hs:0<=s):a<=b:= by
 have hc:(0:Rat)<((c:Nat):Rat):=mq.mpr hc;rw[<-mv] at h;have:0<=(b-a)*(c:Rat):=by rw[yx];change 0<=(c:Rat)*_-s at h;grind
 have:=GF hc this;grind
theorem aFC{c:Nat}(hc:0<c){a b s:Rat}(h:0<=(lz c:Rat)*(b-a)-s) (hs:0<=s) (h2:0<s\/0<(lz c:Rat)*(b-a)-s):a<b:= by
 have hc:(0:Rat)<((c:Nat):Rat):=mq.mpr hc;rw[<-mv] at h h2;have:0<(b-a)*(c:Rat):=by rw[yx];change 0<=(c:Rat)*_-s at h;change _\/0<(c:Rat)*_-s at h2;grind
 have:=AY hc this;grind
theorem aFD{c:Nat}(hc:0<c){a b s:Rat}(h:(lz c:Rat)*(b-a)-s=0) (hs:s=0):a=b:= by
 have hc:(0:Rat)<((c:Nat):Rat):=mq.mpr hc;rw[<-mv,hs] at h;change (c:Rat)*(b-a)-0=0 at h;have h2:(c:Rat)*(b-a)=0:=by grind
 have:=(As.mp h2).resolve_left (lu hc);grind
theorem main (v:Cx) (hv:Nn v) (g:LH) (hs:List LH) (h:chk g hs=Wu):Dn v (g.go v) hs:= by
 cases g with
 |L c a b=>exact rS v fun⟨q1,q2⟩=>out (_root_.of_decide_eq_true (aX h).1) (ML hv (aX h).2).1 q1
 |T c a b=>
  refine rS v fun⟨q1,q2⟩=>?_;have h1:=aX h;have h2:=ML hv h1.2;refine aFC (_root_.of_decide_eq_true h1.1) h2.1 q1 ?_;cases e:MM hs
  ·exact .inr (h2.2 (by rw[e];rfl))
  ·exact .inl (q2 e)
 |U c a b=>
  have h1:=aX h;have h2:=aX h1.2;exact du v h2.1 λq=>aFD (_root_.of_decide_eq_true h1.1) (UA h2.2) q
 |_=>exact nomatch h
/- whole and natural numbers -/
noncomputable def mp{α:Type}(f:α->Rat):dv α->Cx
 |.leaf a=>.leaf (f a)
 |.branch k a b=>.branch k (mp f a) (mp f b)
theorem tJ{α:Type}(f:α->Rat) (i:Nat):∀v:dv α,(mp f v).get i=f (v.get i)
 |.leaf a=>rfl
 |.branch k a b=>by
  show sp ((mp f a).get i) ((mp f b).get i) (k.ble i)=f (sp (a.get i) (b.get i) (k.ble i));cases k.ble i
  ·exact tJ f i a
  ·exact tJ f i b
noncomputable def LX.denN (w:dv Nat) (e:LX):Nat:=LX.rec (λi=>w.get i) (λk=>lz k) (λ_ _ a b=>a+b) (λ_ _ a b=>a-b) (λ_ _ a b=>a*b) (λ_ _ a b=>a/b) (λ_ k a=>a^k) (λ_ a=>a) (λ_ a=>a) e
def LX.denZ (v:dv Int) (w:dv Nat) (e:LX):Int:=LX.rec (λi=>sp (v.get i) ((w.get i:Nat):Int) (qv 32 i)) (λk=>lz k) (λ_ _ a b=>a+b) (λ_ _ a b=>a-b) (λ_ _ a b=>a*b) (λ_ _ a b=>a/b) (λ_ k a=>a^k) (λ_ a=>-a) (λa _=>((a.denN w:Nat):Int)) e
noncomputable def LX.isN:LX->Bool
 |.V i=>qv 32 i
 |.N _=>Wu
 |.A a b|.M a b=>a.isN&&b.isN
 |.P a _=>a.isN
 |_=>Wv
def LX.isZ:LX->Bool
 |.V _|.N _=>Wu
 |.A a b|.S a b|.M a b=>a.isZ&&b.isZ
 |.P a _|.G a=>a.isZ
 |.C a=>a.isN
 |_=>Wv
noncomputable def cz (z:Int):Rat:=z
noncomputable def cn (n:Nat):Rat:=n
def mc (v:dv Int) (w:dv Nat):Cx:=.branch 32 (mp cz v) (mp cn w)
theorem aDA (v:dv Int) (w:dv Nat){i:Nat}(h:qv 32 i=Wu):(mc v w).get i=((w.get i:Nat):Rat):= by
 show(sp ((mp cz v).get i) ((mp cn w).get i) (qv 32 i):Rat)=_;rw[h];exact tJ cn i w
theorem aDB (v:dv Int) (w:dv Nat):Nn (mc v w):=λi h=>by
 rw[aDA v w h];exact sn
theorem c2{x x' y y':Rat}(f:Rat->Rat->Rat) (h:x=x') (k:y=y'):f x y=f x' y':=h▸k▸rfl
theorem aDC (a:Int):∀k:Nat,((a^k:Int):Rat)=(a:Rat)^k
 |0=>by rw[qj,Cu];rfl
 |k+1=>by rw[rz,Int.pow_succ,Au,aDC a k]
section
variable (v:dv Int) (w:dv Nat)
theorem gV:∀e:LX,e.isN=Wu->((e.denN w:Nat):Rat)=e.den (mc v w)
 |.V i,h=>(aDA v w h).symm
 |.N k,_=>rfl
 |.A a b,h=>(Av _ _).trans (c2 (·+·) (gV a (aX h).1) (gV b (aX h).2))
 |.M a b,h=>(li _ _).trans (c2 (·*·) (gV a (aX h).1) (gV b (aX h).2))
 |.P a k,h=>(y6 _ k).trans (congrArg (·^k) (gV a h))
theorem fV:∀e:LX,e.isZ=Wu->((e.denZ v w:Int):Rat)=e.den (mc v w)
 |.V i,_=>by
  show((sp (v.get i) ((w.get i:Nat):Int) (qv 32 i):Int):Rat)=(sp ((mp cz v).get i) ((mp cn w).get i) (qv 32 i):Rat);cases qv 32 i
  ·exact(tJ cz i v).symm
  ·exact(gw _).trans (tJ cn i w).symm
 |.N k,_=>rfl
 |.A a b,h=>(Aw _ _).trans (c2 (·+·) (fV a (aX h).1) (fV b (aX h).2))
 |.S a b,h=>(Ax _ _).trans (c2 (· - ·) (fV a (aX h).1) (fV b (aX h).2))
 |.M a b,h=>(Au _ _).trans (c2 (·*·) (fV a (aX h).1) (fV b (aX h).2))
 |.P a k,h=>(aDC _ k).trans (congrArg (·^k) (fV a h))
 |.G a,h=>(Ay _).trans (congrArg (- ·) (fV a h))
 |.C a,h=>(gw _).trans (gV v w a h)
end
noncomputable def LH.z:LH->LH
 |.T c a b|.Y c a b=>.L c (.A a (.N 1)) b
 |.X c a b=>.L c a b
 |.Z c a b=>.U c a b
 |h=>h
noncomputable def LH.zg:LH->LH
 |.L c a b|.X c a b=>.T c a (.A b (.N 1))
 |.Y c a b=>.T c a b
 |.Z c a b=>.U c a b
 |h=>h
def LH.all:LH->Bool
 |.L _ a b|.T _ a b|.U _ a b=>a.isZ&&b.isZ
 |.X _ a b|.Y _ a b|.Z _ a b=>a.isN&&b.isN
def qK (g:LH) (hs:List LH):Bool:=g.all&&(hs.all LH.all&&chk g.zg (hs.map LH.z))
def LH.gz (v:dv Int) (w:dv Nat):LH->Prop
 |.L _ a b=>a.denZ v w<=b.denZ v w
 |.T _ a b=>a.denZ v w<b.denZ v w
 |.U _ a b=>a.denZ v w=b.denZ v w
 |.X _ a b=>a.denN w<=b.denN w
 |.Y _ a b=>a.denN w<b.denN w
 |.Z _ a b=>a.denN w=b.denN w
def Dz (v:dv Int) (w:dv Nat) (g:Prop):List LH->Prop
 |[]=>g
 |h::r=>h.gz v w->Dz v w g r
theorem sZ (a:Int):(a:Rat)+1=((a+1:Int):Rat):=by rw[Aw];rfl
theorem sN (a:Nat):(a:Rat)+1=((a+1:Nat):Rat):=by rw[Av];rfl
section
variable{v:dv Int}{w:dv Nat}{a b:LX}
theorem lZ (h:(a.isZ&&b.isZ)=Wu) (k:a.denZ v w<=b.denZ v w):a.den (mc v w)<=b.den (mc v w):= by
 rw[<-fV v w a (aX h).1,<-fV v w b (aX h).2];exact an.mpr k
theorem tZ (h:(a.isZ&&b.isZ)=Wu) (k:a.denZ v w<b.denZ v w):a.den (mc v w)+1<=b.den (mc v w):= by
 rw[<-fV v w a (aX h).1,<-fV v w b (aX h).2,sZ];exact an.mpr k
theorem eZ (h:(a.isZ&&b.isZ)=Wu) (k:a.denZ v w=b.denZ v w):a.den (mc v w)=b.den (mc v w):= by
 rw[<-fV v w a (aX h).1,<-fV v w b (aX h).2,k]
theorem lN (h:(a.isN&&b.isN)=Wu) (k:a.denN w<=b.denN w):a.den (mc v w)<=b.den (mc v w):= by
 rw[<-gV v w a (aX h).1,<-gV v w b (aX h).2];exact lw.mpr k
theorem tN (h:(a.isN&&b.isN)=Wu) (k:a.denN w<b.denN w):a.den (mc v w)+1<=b.den (mc v w):= by
 rw[<-gV v w a (aX h).1,<-gV v w b (aX h).2,sN];exact lw.mpr k
theorem eN (h:(a.isN&&b.isN)=Wu) (k:a.denN w=b.denN w):a.den (mc v w)=b.den (mc v w):= by
 rw[<-gV v w a (aX h).1,<-gV v w b (aX h).2,k]
theorem gLZ (h:(a.isZ&&b.isZ)=Wu) (k:a.den (mc v w)<b.den (mc v w)+1):a.denZ v w<=b.denZ v w:= by
 rw[<-fV v w a (aX h).1,<-fV v w b (aX h).2,sZ] at k;exact wo (bn.mp k)
theorem gTZ (h:(a.isZ&&b.isZ)=Wu) (k:a.den (mc v w)<b.den (mc v w)):a.denZ v w<b.denZ v w:= by
 rw[<-fV v w a (aX h).1,<-fV v w b (aX h).2] at k;exact bn.mp k
theorem gLN (h:(a.isN&&b.isN)=Wu) (k:a.den (mc v w)<b.den (mc v w)+1):a.denN w<=b.denN w:= by
 rw[<-gV v w a (aX h).1,<-gV v w b (aX h).2,sN] at k;exact qk (vn.mp k)
theorem geZ (h:(a.isZ&&b.isZ)=Wu) (k:a.den (mc v w)=b.den (mc v w)):a.denZ v w=b.denZ v w:= by
 rw[<-fV v w a (aX h).1,<-fV v w b (aX h).2] at k;exact Az.mp k
theorem geN (h:(a.isN&&b.isN)=Wu) (k:a.den (mc v w)=b.den (mc v w)):a.denN w=b.denN w:= by
 rw[<-gV v w a (aX h).1,<-gV v w b (aX h).2] at k;exact wb.mp k
theorem gTN (h:(a.isN&&b.isN)=Wu) (k:a.den (mc v w)<b.den (mc v w)):a.denN w<b.denN w:= by
 rw[<-gV v w a (aX h).1,<-gV v w b (aX h).2] at k;exact vn.mp k
end
theorem dz{v:dv Int}{w:dv Nat}{g g':Prop}(hg:g'->g):∀{hs:List LH},hs.all LH.all=Wu->Dn (mc v w) g' (hs.map LH.z)->Dz v w g hs
 |[],_,h=>hg h
 |.L c a b::r,q,h=>λk=>dz hg (aX q).2 (h (lZ (aX q).1 k))
 |.T c a b::r,q,h=>λk=>dz hg (aX q).2 (h (tZ (aX q).1 k))
 |.U c a b::r,q,h=>λk=>dz hg (aX q).2 (h (eZ (aX q).1 k))
 |.X c a b::r,q,h=>λk=>dz hg (aX q).2 (h (lN (aX q).1 k))
 |.Y c a b::r,q,h=>λk=>dz hg (aX q).2 (h (tN (aX q).1 k))
 |.Z c a b::r,q,h=>λk=>dz hg (aX q).2 (h (eN (aX q).1 k))
noncomputable def rl{α:Type}(z:α):List α->Nat->dv α
 |[],_=>.leaf z
 |[a],_=>.leaf a
 |a::r,k=>.branch (k+1) (.leaf a) (rl z r (k+1))
noncomputable def LX.a:LX:=.V 0
noncomputable def LX.b:LX:=.V 1
noncomputable def LX.c:LX:=.V 2
noncomputable def LX.d:LX:=.V 3
noncomputable def LX.e:LX:=.V 4
noncomputable def LX.f:LX:=.V 5
noncomputable def LX.g:LX:=.V 6
noncomputable def LX.h:LX:=.V 7
noncomputable def LX.i:LX:=.V 8
noncomputable def LX.j:LX:=.V 9
noncomputable def LX.k:LX:=.V 10
noncomputable def LX.o:LX:=.V 11
noncomputable def LX.p:LX:=.V 12
noncomputable def LX.q:LX:=.V 32
noncomputable def LX.r:LX:=.V 33
noncomputable def LX.s:LX:=.V 34
noncomputable def LX.t:LX:=.V 35
noncomputable def LX.u:LX:=.V 36
noncomputable def LX.v:LX:=.V 37
noncomputable def LX.w:LX:=.V 38
noncomputable def LX.x:LX:=.V 39
noncomputable def LX.y:LX:=.V 40
noncomputable def LX.z:LX:=.V 41
noncomputable def LX.n0:LX:=.N 0
noncomputable def LX.n1:LX:=.N 1
noncomputable def LX.n2:LX:=.N 2
noncomputable def LX.n3:LX:=.N 3
noncomputable def LX.n4:LX:=.N 4
noncomputable def LX.n5:LX:=.N 5
noncomputable def LX.n6:LX:=.N 6
noncomputable def LX.n7:LX:=.N 7
noncomputable def LX.n8:LX:=.N 8
noncomputable def LX.E (k:Nat):LX:=.D (.N k) (.P (.N 2) 54)
noncomputable def LH.l (a b:LX):LH:=.L 1 a b
noncomputable def LH.t (a b:LX):LH:=.T 1 a b
noncomputable def LH.e (a b:LX):LH:=.U 1 a b
noncomputable def LH.x (a b:LX):LH:=.X 1 a b
noncomputable def LH.y (a b:LX):LH:=.Y 1 a b
noncomputable def LH.z1 (a b:LX):LH:=.Z 1 a b
noncomputable def LX.ka:LX:=.S .a .b
noncomputable def LX.kb:LX:=.A .a .b
noncomputable def LX.kc:LX:=.M .a .b
noncomputable def LX.kd:LX:=.A .n1 (.D .n1 (.P .n2 52))
noncomputable def LX.ke:LX:=.P .n2 53
noncomputable def LX.kf:LX:=.A .a .n1
noncomputable def LX.kg:LX:=.E 1
noncomputable def LX.kh:LX:=.P .n2 50
noncomputable def LX.ki:LX:=.M .b .c
noncomputable def LX.kj:LX:=.M .n6 .a
noncomputable def LX.kk:LX:=.S .a .n2
noncomputable def LX.kl:LX:=.A .q .n1
noncomputable def LX.km:LX:=.N 6004799503160661
noncomputable def LX.kn:LX:=.N 1000
noncomputable def LX.ko:LX:=.D .n1 (.P .n2 12)
noncomputable def LX.kp:LX:=.P .n2 63
noncomputable def LX.kq:LX:=.S .b .c
noncomputable def LX.kr:LX:=.D .n1 .n8
noncomputable def LX.ks:LX:=.P .n2 54
noncomputable def LX.kt:LX:=.G .n1
noncomputable def LX.ku:LX:=.P .n2 40
noncomputable def LX.kv:LX:=.M .c .d
noncomputable def LX.kw:LX:=.A .b .c
noncomputable def LX.kx:LX:=.E 32
noncomputable def LX.ky:LX:=.E 4
noncomputable def LX.kz:LX:=.D .kb .n2
noncomputable def LX.kA:LX:=.D .n5 (.P .n2 52)
noncomputable def LX.kB:LX:=.D .n3 .n2
noncomputable def LX.kC:LX:=.N 18014398509481984
noncomputable def LX.kD:LX:=.D .b .n2
end LA
open LA
theorem Đ (v:List Rat) (g:LH) (hs:List LH) (h:chk g hs=Wu):Dn (.branch 32 (rl 0 v 0) (.leaf 0)) (g.go (.branch 32 (rl 0 v 0) (.leaf 0))) hs:=main _ (λi h=>by
 show 0<=(sp ((rl 0 v 0).get i) 0 (qv 32 i):Rat);rw[h];exact fj) g hs h
theorem ú (v:List Int) (w:List Nat) (g:LH) (hs:List LH) (h:qK g hs=Wu):Dz (rl 0 v 0) (rl 0 w 32) (g.gz (rl 0 v 0) (rl 0 w 32)) hs:= by
 refine dz ?_ (aX (aX h).2).1 (main _ (aDB _ _) g.zg (hs.map LH.z) (aX (aX h).2).2);cases g with
 |L c a b=>exact gLZ (aX h).1
 |T c a b=>exact gTZ (aX h).1
 |X c a b=>exact gLN (aX h).1
 |Y c a b=>exact gTN (aX h).1
 |U c a b=>exact geZ (aX h).1
 |Z c a b=>exact geN (aX h).1
def ŕ (P:Prop) (b:Bool):Prop:=@sp (λ_=>Prop) True P b
theorem if1{P:Prop}:∀{b:Bool},(b=Wu->P)->ŕ P b
 |true,h=>h rfl
 |false,_=>trivial
theorem ŵ (v:List Rat) (g:LH) (hs:List LH):ŕ (Dn (.branch 32 (rl 0 v 0) (.leaf 0)) (g.go (.branch 32 (rl 0 v 0) (.leaf 0))) hs) (chk g hs):=if1 (Đ v g hs)
theorem ì (v:List Int) (w:List Nat) (g:LH) (hs:List LH):ŕ (Dz (rl 0 v 0) (rl 0 w 32) (g.gz (rl 0 v 0) (rl 0 w 32)) hs) (qK g hs):=if1 (ú v w g hs)
theorem Ğ (v:List Int) (g:LH) (hs:List LH):ŕ (Dz (rl 0 v 0) (.leaf 0) (g.gz (rl 0 v 0) (.leaf 0)) hs) (qK g hs):=ì v [] g hs
theorem ĉ (w:List Nat) (g:LH) (hs:List LH):ŕ (Dz (.leaf 0) (rl 0 w 32) (g.gz (.leaf 0) (rl 0 w 32)) hs) (qK g hs):=ì [] w g hs
def ų (g:LH) (hs:List LH):=ŵ [] g hs
def Ŝ{a:Rat}(g:LH) (hs:List LH):=ŵ [a] g hs
def ŉ{a b:Rat}(g:LH) (hs:List LH):=ŵ [a,b] g hs
def ţ{a b c:Rat}(g:LH) (hs:List LH):=ŵ [a,b,c] g hs
def ġ{a b c d:Rat}(g:LH) (hs:List LH):=ŵ [a,b,c,d] g hs
def ś{a b c d e:Rat}(g:LH) (hs:List LH):=ŵ [a,b,c,d,e] g hs
def fr6{a b c d e f:Rat}(g:LH) (hs:List LH):=ŵ [a,b,c,d,e,f] g hs
def fz0 (g:LH) (hs:List LH):=Ğ [] g hs
def ÿ{a:Int}(g:LH) (hs:List LH):=Ğ [a] g hs
def ő{a b:Int}(g:LH) (hs:List LH):=Ğ [a,b] g hs
def ż{a b c:Int}(g:LH) (hs:List LH):=Ğ [a,b,c] g hs
def fz4{a b c d:Int}(g:LH) (hs:List LH):=Ğ [a,b,c,d] g hs
def fz5{a b c d e:Int}(g:LH) (hs:List LH):=Ğ [a,b,c,d,e] g hs
def fz6{a b c d e f:Int}(g:LH) (hs:List LH):=Ğ [a,b,c,d,e,f] g hs
def Ž (g:LH) (hs:List LH):=ĉ [] g hs
def Ć{a:Nat}(g:LH) (hs:List LH):=ĉ [a] g hs
def ä{a b:Nat}(g:LH) (hs:List LH):=ĉ [a,b] g hs
def ā{a b c:Nat}(g:LH) (hs:List LH):=ĉ [a,b,c] g hs
def ů{a b c d:Nat}(g:LH) (hs:List LH):=ĉ [a,b,c,d] g hs
def Ρ{a b c d e:Nat}(g:LH) (hs:List LH):=ĉ [a,b,c,d,e] g hs
def Ο{a b c d e f:Nat}(g:LH) (hs:List LH):=ĉ [a,b,c,d,e,f] g hs
theorem Ĭ (v:List Int) (g:LH) (hs:List LH) (h:qK g hs=Wu):Dz (rl 0 v 0) (.leaf 0) (g.gz (rl 0 v 0) (.leaf 0)) hs:=ú v [] g hs h
theorem ean (w:List Nat) (g:LH) (hs:List LH) (h:qK g hs=Wu):Dz (.leaf 0) (rl 0 w 32) (g.gz (.leaf 0) (rl 0 w 32)) hs:=ú [] w g hs h
def en1{a:Nat}(g:LH) (hs:List LH) (h:qK g hs=Wu):=ean [a] g hs h
def en2{a b:Nat}(g:LH) (hs:List LH) (h:qK g hs=Wu):=ean [a,b] g hs h
def æ (g:LH) (hs:List LH) (h:chk g hs=Wu):=Đ [] g hs h
def Æ{a:Rat}(g:LH) (hs:List LH) (h:chk g hs=Wu):=Đ [a] g hs h
def Ï{a b:Rat}(g:LH) (hs:List LH) (h:chk g hs=Wu):=Đ [a,b] g hs h
def Ó{a b c:Rat}(g:LH) (hs:List LH) (h:chk g hs=Wu):=Đ [a,b,c] g hs h
def á{a b c d:Rat}(g:LH) (hs:List LH) (h:chk g hs=Wu):=Đ [a,b,c,d] g hs h
def ð{a b c d e:Rat}(g:LH) (hs:List LH) (h:chk g hs=Wu):=Đ [a,b,c,d,e] g hs h
def Ŋ{a b c d e f:Rat}(g:LH) (hs:List LH) (h:chk g hs=Wu):=Đ [a,b,c,d,e,f] g hs h
def ez1{a:Int}(g:LH) (hs:List LH) (h:qK g hs=Wu):=Ĭ [a] g hs h
def ī{a b:Int}(g:LH) (hs:List LH) (h:qK g hs=Wu):=Ĭ [a,b] g hs h
def ez3{a b c:Int}(g:LH) (hs:List LH) (h:qK g hs=Wu):=Ĭ [a,b,c] g hs h
def ez4{a b c d:Int}(g:LH) (hs:List LH) (h:qK g hs=Wu):=Ĭ [a,b,c,d] g hs h
def ez5{a b c d e:Int}(g:LH) (hs:List LH) (h:qK g hs=Wu):=Ĭ [a,b,c,d,e] g hs h
noncomputable def ya{a:Rat}:=@Æ a (.t .n0 .a) [.l .n1 .a] rfl
noncomputable def yb{a b c:Int}:=@ż a b c (.l .kb (.A .c .b)) [.l .a .c]
end Mine.Internal
end
section
namespace Mine.Internal
theorem xa{p0:Prop}{p1:Prop}{G:Prop}(h:(p0)/\(p1)) (k:(p0)->(p1)->G):G :=k h.1 h.2
theorem xe{A:Sort _}{p1:A->Prop}{G:Prop}(h:∃a:A,((p1 a))) (k:∀(a:A),(p1 a)->G):G :=h.elim λx0 w0=>k x0 w0
theorem xr{Y0:Sort _}{y0:Y0}{t0:Y0}{p1:Prop}{G:Y0->Prop}(h:y0=t0/\(p1)) (k:(p1)->G (t0)):G y0:=iq (motive:=λz=>G z) h.1.symm (k h.2)
theorem xaR{p0:Prop}{Y1:Sort _}{y1:Y1}{t1:Y1}{G:Y1->Prop}(h:(p0)/\y1=t1) (k:(p0)->G (t1)):G y1:=iq (motive:=λz=>G z) h.2.symm (k h.1)
theorem Ē{p0:Prop}{p1:Prop}{p2:Prop}{G:Prop}(h:(p0)/\(p1)/\(p2)) (k:(p0)->(p1)->(p2)->G):G :=k h.1 h.2.1 h.2.2
theorem Ü{A:Sort _}{Y1:Sort _}{y1:Y1}{t1:A->Y1}{G:Y1->Prop}(h:∃a:A,(y1=t1 a)) (k:∀(a:A),G (t1 a)):G y1:=h.elim λx0 w0=>iq (motive:=λz=>G z) w0.symm (k x0)
theorem Å{A:Sort _}{p1:A->Prop}{p2:A->Prop}{G:Prop}(h:∃a:A,((p1 a)/\(p2 a))) (k:∀(a:A),(p1 a)->(p2 a)->G):G :=h.elim λx0 w0=>k x0 w0.1 w0.2
theorem Ľ{A:Sort _}{B:Sort _}{p2:A->B->Prop}{G:Prop}(h:∃a:A,(∃b:B,((p2 a b)))) (k:∀(a:A),∀(b:B),(p2 a b)->G):G :=h.elim λx0 w0=>w0.elim λx1 w1=>k x0 x1 w1
theorem ŀ{A:Sort _}{Y1:Sort _}{y1:Y1}{t1:A->Y1}{p2:A->Prop}{G:Y1->Prop}(h:∃a:A,(y1=t1 a/\(p2 a))) (k:∀(a:A),(p2 a)->G (t1 a)):G y1:=h.elim λx0 w0=>iq (motive:=λz=>G z) w0.1.symm (k x0 w0.2)
theorem bS{p0:Prop}{p1:Prop}{p2:Prop}{p3:Prop}{G:Prop}(h:(p0)/\(p1)/\(p2)/\(p3)) (k:(p0)->(p1)->(p2)->(p3)->G):G :=k h.1 h.2.1 h.2.2.1 h.2.2.2
theorem sG{p0:Prop}{A:Sort _}{p2:A->Prop}{p3:A->Prop}{G:Prop}(h:(p0)/\∃a:A,((p2 a)/\(p3 a))) (k:(p0)->∀(a:A),(p2 a)->(p3 a)->G):G :=h.2.elim λx1 w1=>k h.1 x1 w1.1 w1.2
theorem aDD{A:Sort _}{p1:A->Prop}{Y2:Sort _}{y2:Y2}{t2:A->Y2}{G:Y2->Prop}(h:∃a:A,((p1 a)/\y2=t2 a)) (k:∀(a:A),(p1 a)->G (t2 a)):G y2:=h.elim λx0 w0=>iq (motive:=λz=>G z) w0.2.symm (k x0 w0.1)
theorem sH{A:Sort _}{p1:A->Prop}{Y2:Sort _}{y2:Y2}{t2:A->Y2}{G:Y2->Prop}(h:∃a:A,((p1 a)/\t2 a=y2)) (k:∀(a:A),(p1 a)->G (t2 a)):G y2:=h.elim λx0 w0=>iq (motive:=λz=>G z) w0.2 (k x0 w0.1)
theorem mK{A:Sort _}{p1:A->Prop}{p2:A->Prop}{p3:A->Prop}{G:Prop}(h:∃a:A,((p1 a)/\(p2 a)/\(p3 a))) (k:∀(a:A),(p1 a)->(p2 a)->(p3 a)->G):G :=h.elim λx0 w0=>k x0 w0.1 w0.2.1 w0.2.2
theorem MN{A:Sort _}{B:Sort _}{Y2:Sort _}{y2:Y2}{t2:A->B->Y2}{G:Y2->Prop}(h:∃a:A,(∃b:B,(y2=t2 a b))) (k:∀(a:A),∀(b:B),G (t2 a b)):G y2:=h.elim λx0 w0=>w0.elim λx1 w1=>iq (motive:=λz=>G z) w1.symm (k x0 x1)
theorem mF{A:Sort _}{B:Sort _}{p2:A->B->Prop}{p3:A->B->Prop}{G:Prop}(h:∃a:A,(∃b:B,((p2 a b)/\(p3 a b)))) (k:∀(a:A),∀(b:B),(p2 a b)->(p3 a b)->G):G :=h.elim λx0 w0=>w0.elim λx1 w1=>k x0 x1 w1.1 w1.2
theorem iX{A:Sort _}{B:Sort _}{C:Sort _}{p3:A->B->C->Prop}{G:Prop}(h:∃a:A,(∃b:B,(∃c:C,((p3 a b c))))) (k:∀(a:A),∀(b:B),∀(c:C),(p3 a b c)->G):G :=h.elim λx0 w0=>w0.elim λx1 w1=>w1.elim λx2 w2=>k x0 x1 x2 w2
theorem ZZ{A:Sort _}{B:Sort _}{Y2:Sort _}{y2:Y2}{t2:A->B->Y2}{p3:A->B->Prop}{G:Y2->Prop}(h:∃a:A,(∃b:B,(y2=t2 a b/\(p3 a b)))) (k:∀(a:A),∀(b:B),(p3 a b)->G (t2 a b)):G y2:=h.elim λx0 w0=>w0.elim λx1 w1=>iq (motive:=λz=>G z) w1.1.symm (k x0 x1 w1.2)
theorem aDE{A:Sort _}{Y1:Sort _}{y1:Y1}{t1:A->Y1}{Y2:Sort _}{y2:Y2}{t2:A->Y2}{G:Y1->Y2->Prop}(h:∃a:A,(y1=t1 a/\t2 a=y2)) (k:∀(a:A),G (t1 a) (t2 a)):G y1 y2:=h.elim λx0 w0=>iq (motive:=λz=>G z _) w0.1.symm (iq (motive:=λz=>G _ z) w0.2 (k x0))
theorem nV{p0:Prop}{p1:Prop}{p2:Prop}{p3:Prop}{p4:Prop}{G:Prop}(h:(p0)/\(p1)/\(p2)/\(p3)/\(p4)) (k:(p0)->(p1)->(p2)->(p3)->(p4)->G):G :=k h.1 h.2.1 h.2.2.1 h.2.2.2.1 h.2.2.2.2
theorem cH{A:Sort _}{p1:A->Prop}{p2:A->Prop}{p3:A->Prop}{p4:A->Prop}{G:Prop}(h:∃a:A,((p1 a)/\(p2 a)/\(p3 a)/\(p4 a))) (k:∀(a:A),(p1 a)->(p2 a)->(p3 a)->(p4 a)->G):G :=h.elim λx0 w0=>k x0 w0.1 w0.2.1 w0.2.2.1 w0.2.2.2
theorem fE{A:Sort _}{B:Sort _}{p2:A->B->Prop}{p3:A->B->Prop}{p4:A->B->Prop}{G:Prop}(h:∃a:A,(∃b:B,((p2 a b)/\(p3 a b)/\(p4 a b)))) (k:∀(a:A),∀(b:B),(p2 a b)->(p3 a b)->(p4 a b)->G):G :=h.elim λx0 w0=>w0.elim λx1 w1=>k x0 x1 w1.1 w1.2.1 w1.2.2
theorem mL{A:Sort _}{B:Sort _}{C:Sort _}{p3:A->B->C->Prop}{p4:A->B->C->Prop}{G:Prop}(h:∃a:A,(∃b:B,(∃c:C,((p3 a b c)/\(p4 a b c))))) (k:∀(a:A),∀(b:B),∀(c:C),(p3 a b c)->(p4 a b c)->G):G :=h.elim λx0 w0=>w0.elim λx1 w1=>w1.elim λx2 w2=>k x0 x1 x2 w2.1 w2.2
theorem fW{A:Sort _}{B:Sort _}{C:Sort _}{D:Sort _}{p4:A->B->C->D->Prop}{G:Prop}(h:∃a:A,(∃b:B,(∃c:C,(∃d:D,((p4 a b c d)))))) (k:∀(a:A),∀(b:B),∀(c:C),∀(d:D),(p4 a b c d)->G):G :=h.elim λx0 w0=>w0.elim λx1 w1=>w1.elim λx2 w2=>w2.elim λx3 w3=>k x0 x1 x2 x3 w3
theorem fF{A:Sort _}{B:Sort _}{Y2:Sort _}{y2:Y2}{t2:A->B->Y2}{p3:A->B->Prop}{p4:A->B->Prop}{G:Y2->Prop}(h:∃a:A,(∃b:B,(y2=t2 a b/\(p3 a b)/\(p4 a b)))) (k:∀(a:A),∀(b:B),(p3 a b)->(p4 a b)->G (t2 a b)):G y2:=h.elim λx0 w0=>w0.elim λx1 w1=>iq (motive:=λz=>G z) w1.1.symm (k x0 x1 w1.2.1 w1.2.2)
theorem YR{A:Sort _}{Y1:Sort _}{y1:Y1}{t1:A->Y1}{p2:A->Prop}{p3:A->Prop}{p4:A->Prop}{G:Y1->Prop}(h:∃a:A,(y1=t1 a/\(p2 a)/\(p3 a)/\(p4 a))) (k:∀(a:A),(p2 a)->(p3 a)->(p4 a)->G (t1 a)):G y1:=h.elim λx0 w0=>iq (motive:=λz=>G z) w0.1.symm (k x0 w0.2.1 w0.2.2.1 w0.2.2.2)
theorem MO{p0:Prop}{p1:Prop}{p2:Prop}{p3:Prop}{p4:Prop}{p5:Prop}{G:Prop}(h:(p0)/\(p1)/\(p2)/\(p3)/\(p4)/\(p5)) (k:(p0)->(p1)->(p2)->(p3)->(p4)->(p5)->G):G :=k h.1 h.2.1 h.2.2.1 h.2.2.2.1 h.2.2.2.2.1 h.2.2.2.2.2
theorem DK{A:Sort _}{B:Sort _}{p2:A->B->Prop}{p3:A->B->Prop}{Y4:Sort _}{y4:Y4}{t4:A->B->Y4}{G:Y4->Prop}(h:∃a:A,(∃b:B,((p2 a b)/\(p3 a b)/\t4 a b=y4))) (k:∀(a:A),∀(b:B),(p2 a b)->(p3 a b)->G (t4 a b)):G y4:=h.elim λx0 w0=>w0.elim λx1 w1=>iq (motive:=λz=>G z) w1.2.2 (k x0 x1 w1.1 w1.2.1)
theorem dK{A:Sort _}{B:Sort _}{p2:A->B->Prop}{p3:A->B->Prop}{p4:A->B->Prop}{p5:A->B->Prop}{G:Prop}(h:∃a:A,(∃b:B,((p2 a b)/\(p3 a b)/\(p4 a b)/\(p5 a b)))) (k:∀(a:A),∀(b:B),(p2 a b)->(p3 a b)->(p4 a b)->(p5 a b)->G):G :=h.elim λx0 w0=>w0.elim λx1 w1=>k x0 x1 w1.1 w1.2.1 w1.2.2.1 w1.2.2.2
theorem oB{A:Sort _}{B:Sort _}{C:Sort _}{p3:A->B->C->Prop}{p4:A->B->C->Prop}{p5:A->B->C->Prop}{G:Prop}(h:∃a:A,(∃b:B,(∃c:C,((p3 a b c)/\(p4 a b c)/\(p5 a b c))))) (k:∀(a:A),∀(b:B),∀(c:C),(p3 a b c)->(p4 a b c)->(p5 a b c)->G):G :=h.elim λx0 w0=>w0.elim λx1 w1=>w1.elim λx2 w2=>k x0 x1 x2 w2.1 w2.2.1 w2.2.2
theorem lB{A:Sort _}{B:Sort _}{C:Sort _}{Y3:Sort _}{y3:Y3}{t3:A->B->C->Y3}{p4:A->B->C->Prop}{p5:A->B->C->Prop}{G:Y3->Prop}(h:∃a:A,(∃b:B,(∃c:C,(y3=t3 a b c/\(p4 a b c)/\(p5 a b c))))) (k:∀(a:A),∀(b:B),∀(c:C),(p4 a b c)->(p5 a b c)->G (t3 a b c)):G y3:=h.elim λx0 w0=>w0.elim λx1 w1=>w1.elim λx2 w2=>iq (motive:=λz=>G z) w2.1.symm (k x0 x1 x2 w2.2.1 w2.2.2)
theorem iS{A:Sort _}{B:Sort _}{Y2:Sort _}{y2:Y2}{t2:A->B->Y2}{p3:A->B->Prop}{p4:A->B->Prop}{p5:A->B->Prop}{G:Y2->Prop}(h:∃a:A,(∃b:B,(y2=t2 a b/\(p3 a b)/\(p4 a b)/\(p5 a b)))) (k:∀(a:A),∀(b:B),(p3 a b)->(p4 a b)->(p5 a b)->G (t2 a b)):G y2:=h.elim λx0 w0=>w0.elim λx1 w1=>iq (motive:=λz=>G z) w1.1.symm (k x0 x1 w1.2.1 w1.2.2.1 w1.2.2.2)
theorem MP{A:Sort _}{B:Sort _}{Y2:Sort _}{y2:Y2}{t2:A->B->Y2}{Y3:Sort _}{y3:Y3}{t3:A->B->Y3}{p4:A->B->Prop}{p5:A->B->Prop}{G:Y2->Y3->Prop}(h:∃a:A,(∃b:B,(y2=t2 a b/\y3=t3 a b/\(p4 a b)/\(p5 a b)))) (k:∀(a:A),∀(b:B),(p4 a b)->(p5 a b)->G (t2 a b) (t3 a b)):G y2 y3:=h.elim λx0 w0=>w0.elim λx1 w1=>iq (motive:=λz=>G z _) w1.1.symm (iq (motive:=λz=>G _ z) w1.2.1.symm (k x0 x1 w1.2.2.1 w1.2.2.2))
theorem DM{A:Sort _}{Y1:Sort _}{y1:Y1}{t1:A->Y1}{p2:A->Prop}{B:Sort _}{p4:A->B->Prop}{p5:A->B->Prop}{G:Y1->Prop}(h:∃a:A,(y1=t1 a/\(p2 a)/\∃b:B,((p4 a b)/\(p5 a b)))) (k:∀(a:A),(p2 a)->∀(b:B),(p4 a b)->(p5 a b)->G (t1 a)):G y1:=h.elim λx0 w0=>w0.2.2.elim λx3 w3=>iq (motive:=λz=>G z) w0.1.symm (k x0 w0.2.1 x3 w3.1 w3.2)
theorem lC{A:Sort _}{B:Sort _}{p2:A->B->Prop}{p3:A->B->Prop}{p4:A->B->Prop}{p5:A->B->Prop}{p6:A->B->Prop}{G:Prop}(h:∃a:A,(∃b:B,((p2 a b)/\(p3 a b)/\(p4 a b)/\(p5 a b)/\(p6 a b)))) (k:∀(a:A),∀(b:B),(p2 a b)->(p3 a b)->(p4 a b)->(p5 a b)->(p6 a b)->G):G :=h.elim λx0 w0=>w0.elim λx1 w1=>k x0 x1 w1.1 w1.2.1 w1.2.2.1 w1.2.2.2.1 w1.2.2.2.2
theorem b9{A:Sort _}{B:Sort _}{C:Sort _}{p3:A->B->C->Prop}{p4:A->B->C->Prop}{p5:A->B->C->Prop}{p6:A->B->C->Prop}{G:Prop}(h:∃a:A,(∃b:B,(∃c:C,((p3 a b c)/\(p4 a b c)/\(p5 a b c)/\(p6 a b c))))) (k:∀(a:A),∀(b:B),∀(c:C),(p3 a b c)->(p4 a b c)->(p5 a b c)->(p6 a b c)->G):G :=h.elim λx0 w0=>w0.elim λx1 w1=>w1.elim λx2 w2=>k x0 x1 x2 w2.1 w2.2.1 w2.2.2.1 w2.2.2.2
theorem UB{A:Sort _}{B:Sort _}{C:Sort _}{Y3:Sort _}{y3:Y3}{t3:A->B->C->Y3}{p4:A->B->C->Prop}{p5:A->B->C->Prop}{p6:A->B->C->Prop}{G:Y3->Prop}(h:∃a:A,(∃b:B,(∃c:C,(y3=t3 a b c/\(p4 a b c)/\(p5 a b c)/\(p6 a b c))))) (k:∀(a:A),∀(b:B),∀(c:C),(p4 a b c)->(p5 a b c)->(p6 a b c)->G (t3 a b c)):G y3:=h.elim λx0 w0=>w0.elim λx1 w1=>w1.elim λx2 w2=>iq (motive:=λz=>G z) w2.1.symm (k x0 x1 x2 w2.2.1 w2.2.2.1 w2.2.2.2)
theorem oZ{p0:Prop}{p1:Prop}{A:Sort _}{p3:A->Prop}{p4:A->Prop}{p5:A->Prop}{p6:A->Prop}{p7:A->Prop}{G:Prop}(h:(p0)/\(p1)/\∃a:A,((p3 a)/\(p4 a)/\(p5 a)/\(p6 a)/\(p7 a))) (k:(p0)->(p1)->∀(a:A),(p3 a)->(p4 a)->(p5 a)->(p6 a)->(p7 a)->G):G :=h.2.2.elim λx2 w2=>k h.1 h.2.1 x2 w2.1 w2.2.1 w2.2.2.1 w2.2.2.2.1 w2.2.2.2.2
theorem mO{A:Sort _}{B:Sort _}{C:Sort _}{D:Sort _}{Y4:Sort _}{y4:Y4}{t4:A->B->C->D->Y4}{p5:A->B->C->D->Prop}{p6:A->B->C->D->Prop}{p7:A->B->C->D->Prop}{G:Y4->Prop}(h:∃a:A,(∃b:B,(∃c:C,(∃d:D,(y4=t4 a b c d/\(p5 a b c d)/\(p6 a b c d)/\(p7 a b c d)))))) (k:∀(a:A),∀(b:B),∀(c:C),∀(d:D),(p5 a b c d)->(p6 a b c d)->(p7 a b c d)->G (t4 a b c d)):G y4:=h.elim λx0 w0=>w0.elim λx1 w1=>w1.elim λx2 w2=>w2.elim λx3 w3=>iq (motive:=λz=>G z) w3.1.symm (k x0 x1 x2 x3 w3.2.1 w3.2.2.1 w3.2.2.2)
theorem fG{A:Sort _}{B:Sort _}{C:Sort _}{Y3:Sort _}{y3:Y3}{t3:A->B->C->Y3}{p4:A->B->C->Prop}{p5:A->B->C->Prop}{p6:A->B->C->Prop}{p7:A->B->C->Prop}{G:Y3->Prop}(h:∃a:A,(∃b:B,(∃c:C,(y3=t3 a b c/\(p4 a b c)/\(p5 a b c)/\(p6 a b c)/\(p7 a b c))))) (k:∀(a:A),∀(b:B),∀(c:C),(p4 a b c)->(p5 a b c)->(p6 a b c)->(p7 a b c)->G (t3 a b c)):G y3:=h.elim λx0 w0=>w0.elim λx1 w1=>w1.elim λx2 w2=>iq (motive:=λz=>G z) w2.1.symm (k x0 x1 x2 w2.2.1 w2.2.2.1 w2.2.2.2.1 w2.2.2.2.2)
theorem gX{A:Sort _}{B:Sort _}{C:Sort _}{D:Sort _}{Y4:Sort _}{y4:Y4}{t4:A->B->C->D->Y4}{p5:A->B->C->D->Prop}{p6:A->B->C->D->Prop}{p7:A->B->C->D->Prop}{p8:A->B->C->D->Prop}{p9:A->B->C->D->Prop}{G:Y4->Prop}(h:∃a:A,(∃b:B,(∃c:C,(∃d:D,(y4=t4 a b c d/\(p5 a b c d)/\(p6 a b c d)/\(p7 a b c d)/\(p8 a b c d)/\(p9 a b c d)))))) (k:∀(a:A),∀(b:B),∀(c:C),∀(d:D),(p5 a b c d)->(p6 a b c d)->(p7 a b c d)->(p8 a b c d)->(p9 a b c d)->G (t4 a b c d)):G y4:=h.elim λx0 w0=>w0.elim λx1 w1=>w1.elim λx2 w2=>w2.elim λx3 w3=>iq (motive:=λz=>G z) w3.1.symm (k x0 x1 x2 x3 w3.2.1 w3.2.2.1 w3.2.2.2.1 w3.2.2.2.2.1 w3.2.2.2.2.2)
theorem ß{p0:Prop}{p1:Prop}{p2:Prop}(h0:p0) (h1:p1) (h2:p2):p0/\p1/\p2:=⟨h0,h1,h2⟩
theorem iae{p0:Prop}{A:Sort _}{p2:A->Prop}(h0:p0) (a:A) (h2:p2 a):p0/\∃a,p2 a:=⟨h0,a,h2⟩
theorem Ö{A:Sort _}{p1:A->Prop}{p2:A->Prop}(a:A) (h1:p1 a) (h2:p2 a):∃a,p1 a/\p2 a:=⟨a,h1,h2⟩
theorem Ů{A:Sort _}{B:Sort _}{p2:A->B->Prop}(a:A) (b:B) (h2:p2 a b):∃a,∃b,p2 a b:=⟨a,b,h2⟩
theorem fH{p0:Prop}{p1:Prop}{p2:Prop}{p3:Prop}(h0:p0) (h1:p1) (h2:p2) (h3:p3):p0/\p1/\p2/\p3:=⟨h0,h1,h2,h3⟩
theorem sI{p0:Prop}{A:Sort _}{p2:A->Prop}{p3:A->Prop}(h0:p0) (a:A) (h2:p2 a) (h3:p3 a):p0/\∃a,p2 a/\p3 a:=⟨h0,a,h2,h3⟩
theorem gQ{A:Sort _}{p1:A->Prop}{p2:A->Prop}{p3:A->Prop}(a:A) (h1:p1 a) (h2:p2 a) (h3:p3 a):∃a,p1 a/\p2 a/\p3 a:=⟨a,h1,h2,h3⟩
theorem lD{A:Sort _}{B:Sort _}{p2:A->B->Prop}{p3:A->B->Prop}(a:A) (b:B) (h2:p2 a b) (h3:p3 a b):∃a,∃b,p2 a b/\p3 a b:=⟨a,b,h2,h3⟩
theorem fP{A:Sort _}{B:Sort _}{C:Sort _}{p3:A->B->C->Prop}(a:A) (b:B) (c:C) (h3:p3 a b c):∃a,∃b,∃c,p3 a b c:=⟨a,b,c,h3⟩
theorem nW{p0:Prop}{p1:Prop}{p2:Prop}{p3:Prop}{p4:Prop}(h0:p0) (h1:p1) (h2:p2) (h3:p3) (h4:p4):p0/\p1/\p2/\p3/\p4:=⟨h0,h1,h2,h3,h4⟩
theorem MQ{p0:Prop}{A:Sort _}{B:Sort _}{p3:A->B->Prop}{p4:A->B->Prop}(h0:p0) (a:A) (b:B) (h3:p3 a b) (h4:p4 a b):p0/\∃a,∃b,p3 a b/\p4 a b:=⟨h0,a,b,h3,h4⟩
theorem iH{A:Sort _}{p1:A->Prop}{p2:A->Prop}{p3:A->Prop}{p4:A->Prop}(a:A) (h1:p1 a) (h2:p2 a) (h3:p3 a) (h4:p4 a):∃a,p1 a/\p2 a/\p3 a/\p4 a:=⟨a,h1,h2,h3,h4⟩
theorem cA{A:Sort _}{B:Sort _}{p2:A->B->Prop}{p3:A->B->Prop}{p4:A->B->Prop}(a:A) (b:B) (h2:p2 a b) (h3:p3 a b) (h4:p4 a b):∃a,∃b,p2 a b/\p3 a b/\p4 a b:=⟨a,b,h2,h3,h4⟩
theorem kJ{A:Sort _}{B:Sort _}{C:Sort _}{p3:A->B->C->Prop}{p4:A->B->C->Prop}(a:A) (b:B) (c:C) (h3:p3 a b c) (h4:p4 a b c):∃a,∃b,∃c,p3 a b c/\p4 a b c:=⟨a,b,c,h3,h4⟩
theorem cM{A:Sort _}{B:Sort _}{p2:A->B->Prop}{p3:A->B->Prop}{p4:A->B->Prop}{p5:A->B->Prop}(a:A) (b:B) (h2:p2 a b) (h3:p3 a b) (h4:p4 a b) (h5:p5 a b):∃a,∃b,p2 a b/\p3 a b/\p4 a b/\p5 a b:=⟨a,b,h2,h3,h4,h5⟩
theorem y7{A:Sort _}{B:Sort _}{C:Sort _}{p3:A->B->C->Prop}{p4:A->B->C->Prop}{p5:A->B->C->Prop}(a:A) (b:B) (c:C) (h3:p3 a b c) (h4:p4 a b c) (h5:p5 a b c):∃a,∃b,∃c,p3 a b c/\p4 a b c/\p5 a b c:=⟨a,b,c,h3,h4,h5⟩
theorem cO{A:Sort _}{B:Sort _}{C:Sort _}{p3:A->B->C->Prop}{p4:A->B->C->Prop}{p5:A->B->C->Prop}{p6:A->B->C->Prop}(a:A) (b:B) (c:C) (h3:p3 a b c) (h4:p4 a b c) (h5:p5 a b c) (h6:p6 a b c):∃a,∃b,∃c,p3 a b c/\p4 a b c/\p5 a b c/\p6 a b c:=⟨a,b,c,h3,h4,h5,h6⟩
theorem f7{A:Sort _}{B:Sort _}{C:Sort _}{D:Sort _}{p4:A->B->C->D->Prop}{p5:A->B->C->D->Prop}{p6:A->B->C->D->Prop}(a:A) (b:B) (c:C) (d:D) (h4:p4 a b c d) (h5:p5 a b c d) (h6:p6 a b c d):∃a,∃b,∃c,∃d,p4 a b c d/\p5 a b c d/\p6 a b c d:=⟨a,b,c,d,h4,h5,h6⟩
theorem fI{A:Sort _}{B:Sort _}{C:Sort _}{p3:A->B->C->Prop}{p4:A->B->C->Prop}{p5:A->B->C->Prop}{p6:A->B->C->Prop}{p7:A->B->C->Prop}(a:A) (b:B) (c:C) (h3:p3 a b c) (h4:p4 a b c) (h5:p5 a b c) (h6:p6 a b c) (h7:p7 a b c):∃a,∃b,∃c,p3 a b c/\p4 a b c/\p5 a b c/\p6 a b c/\p7 a b c:=⟨a,b,c,h3,h4,h5,h6,h7⟩
theorem cB{A:Sort _}{B:Sort _}{C:Sort _}{D:Sort _}{p4:A->B->C->D->Prop}{p5:A->B->C->D->Prop}{p6:A->B->C->D->Prop}{p7:A->B->C->D->Prop}{p8:A->B->C->D->Prop}(a:A) (b:B) (c:C) (d:D) (h4:p4 a b c d) (h5:p5 a b c d) (h6:p6 a b c d) (h7:p7 a b c d) (h8:p8 a b c d):∃a,∃b,∃c,∃d,p4 a b c d/\p5 a b c d/\p6 a b c d/\p7 a b c d/\p8 a b c d:=⟨a,b,c,d,h4,h5,h6,h7,h8⟩
theorem rT{A:Sort _}{B:Sort _}{C:Sort _}{D:Sort _}{H:Sort _}{I:Sort _}{p6:A->B->C->D->H->I->Prop}{p7:A->B->C->D->H->I->Prop}{p8:A->B->C->D->H->I->Prop}{p9:A->B->C->D->H->I->Prop}{p10:A->B->C->D->H->I->Prop}(a:A) (b:B) (c:C) (d:D) (h:H) (i:I) (h6:p6 a b c d h i) (h7:p7 a b c d h i) (h8:p8 a b c d h i) (h9:p9 a b c d h i) (Ju:p10 a b c d h i):∃a,∃b,∃c,∃d,∃h,∃i,p6 a b c d h i/\p7 a b c d h i/\p8 a b c d h i/\p9 a b c d h i/\p10 a b c d h i:=⟨a,b,c,d,h,i,h6,h7,h8,h9,Ju⟩
end Mine.Internal
end
section
open PySem PySem.W PyProof.Rows PySem.W.X
namespace Mine.Internal
inductive SV where
 |i (n:Int)
 |t (s:Str)
 deriving DecidableEq
inductive PV where
 |none
 |bool (b:Bool)
 |int (n:Int)
 |flt (x:UInt64)
 |str (s:Str)
 |tup (l:List PV)
 |lst (l:List PV)
 |dcti (l:List (Int×SV))
 |dcts (l:List (Str×SV))
namespace Co
noncomputable def jW:PV:=(.flt 0x3fd5555555555555)
noncomputable def mP:PV:=(.flt 0x3fc5555555555555)
noncomputable def jX:PV:=(.flt 0x3fe5555555555555)
noncomputable def iI:PV:=(.int 256)
noncomputable def mQ:PV:=(.int 0)
noncomputable def bP:PV:=.dcts [(("!":Str),.i 54),(("!=":Str),.i 28),(("%":Str),.i 24),(("%=":Str),.i 40),(("&":Str),.i 19),(("&=":Str),.i 41),(("(":Str),.i 7),((")":Str),.i 8),(("*":Str),.i 16),(("**":Str),.i 35),(("**=":Str),.i 46),(("*=":Str),.i 38),(("+":Str),.i 14),(("+=":Str),.i 36),((",":Str),.i 12),(("-":Str),.i 15),(("-=":Str),.i 37),(("->":Str),.i 51),((".":Str),.i 23),(("...":Str),.i 52),(("/":Str),.i 17),(("//":Str),.i 47),(("//=":Str),.i 48),(("/=":Str),.i 39),((":":Str),.i 11),((":=":Str),.i 53),((";":Str),.i 13),(("<":Str),.i 20),(("<<":Str),.i 33),(("<<=":Str),.i 44),(("<=":Str),.i 29),(("=":Str),.i 22),(("==":Str),.i 27),((">":Str),.i 21),((">=":Str),.i 30),((">>":Str),.i 34),((">>=":Str),.i 45),(("@":Str),.i 49),(("@=":Str),.i 50),(("[":Str),.i 9),(("]":Str),.i 10),(("^":Str),.i 32),(("^=":Str),.i 43),(("{":Str),.i 25),(("|":Str),.i 18),(("|=":Str),.i 42),(("}":Str),.i 26),(("~":Str),.i 31)]
end Co
abbrev Fn:=Nat->List PV->Option PV
abbrev Vs:=aj->ak->Prop
abbrev Ap:=fy->Prop
inductive Bi where
 |len|sum|min|max|int
 deriving DecidableEq
inductive G where
 |bi (b:Bi)
 |fn (f:Nat)
 |cst (p:PV)
 |rng
 |enum
 |gen
open Co in
def GL:List (Str×G):=[(("int":Str),.bi .int),(("len":Str),.bi .len),(("max":Str),.bi .max),(("min":Str),.bi .min),(("sum":Str),.bi .sum),(("range":Str),.rng),(("enumerate":Str),.enum),(("_iter_escaped_chars":Str),.gen),(("ONE_THIRD":Str),.cst jW),(("ONE_SIXTH":Str),.cst mP),(("TWO_THIRD":Str),.cst jX),(("NT_OFFSET":Str),.cst iI),(("ENDMARKER":Str),.cst mQ),(("EXACT_TOKEN_TYPES":Str),.cst bP),(("rgb_to_hls":Str),.fn 0),(("hls_to_rgb":Str),.fn 1),(("_v":Str),.fn 2),(("rgb_to_hsv":Str),.fn 3),(("hsv_to_rgb":Str),.fn 4),(("_strip_quoted_realnames":Str),.fn 5),(("_check_parenthesis":Str),.fn 6),(("ISTERMINAL":Str),.fn 7),(("ISNONTERMINAL":Str),.fn 8),(("ISEOF":Str),.fn 9),(("_law_row":Str),.fn 10),(("_law_levels":Str),.fn 11),(("_law_lowest":Str),.fn 12),(("_law_lamps":Str),.fn 13),(("_law_read":Str),.fn 14),(("_law_ahead":Str),.fn 15),(("_law_told_back":Str),.fn 16),(("_law_nested":Str),.fn 17),(("law":Str),.fn 18)]
noncomputable def Ī:List Str:=[("rgb_to_hls":Str),("hls_to_rgb":Str),("_v":Str),("rgb_to_hsv":Str),("hsv_to_rgb":Str),("_strip_quoted_realnames":Str),("_check_parenthesis":Str),("ISTERMINAL":Str),("ISNONTERMINAL":Str),("ISEOF":Str),("_law_row":Str),("_law_levels":Str),("_law_lowest":Str),("_law_lamps":Str),("_law_read":Str),("_law_ahead":Str),("_law_told_back":Str),("_law_nested":Str),("law":Str)]
structure Step (h:ju) (N:Ap) (h':ju) (N':Ap):Prop where
 keep:∀b o,¬N b->h.get? b=J o->h'.get? b=J o
 grow:h.objs.size<=h'.objs.size
 new:∀b,N' b->N b\/h.objs.size<=b
structure Õ (s:ak) (N:Ap) (s':ak) (N':Ap):Prop where
 step:Step s.heap N s'.heap N'
 gens:∀(i:Nat) (g:Dq),s.gens[i]?=J g->s'.gens[i]?=J g
 bare:pg s.gens->pg s'.gens
 os:s'.os=s.os
 drawn:s'.drawn=s.drawn
 toks:s.toks<=s'.toks
def Ε:Ap:=λ_=>False
abbrev Pure (s s':ak):Prop:=Õ s Ε s' Ε
noncomputable def YS (b:UInt64):Option aj->Bool
 |some (.float c t)=>c==b&&!(t==0)
 |_=>Wv
def Ū (P:Params):List Cr->List (Str×Int)->Prop
 |[],[]=>True
 |e::es,(k,n)::l=>(∃t,e.key=.str k t)/\e.hash=PyData.keyHash P k/\(∃u,e.val=.int n u)/\Ū P es l
 |_,_=>False
structure Ā (P:Params) (t:KT) (Ŵ:List (Str×UInt64)) (dn:Str) (dl:List (Str×Int)):Prop where
 stat:∃o ep,t.get 2=J o/\o.data=.dict #[] ep
 glob:∃o es ep,t.get 3=J o/\o.data=.dict es ep/\(Ŵ.all λx=>YS x.2 (nsFind es x.1))=Wu/\
  ∃a o' ž χ,nsFind es dn=J (.ref a)/\(a==sysModules)=Wv/\t.get a=J o'/\o'.ExactDict/\o'.data=.dict ž χ/\Ū P ž.toList dl
open Co in
def dl:List (Str×Int):=match bP with
 |.dcts l=>l.map λx=>(x.1,match x.2 with|.i n=>n|_=>0)
 |_=>[]
noncomputable def Ŵ:List (Str×UInt64):=[("ONE_THIRD",4599676419421066581),("ONE_SIXTH",4595172819793696085),("TWO_THIRD",4604180019048437077)]
noncomputable def Vw:Cv:={PySem.Challenge.rw_sw0065_01.row.prog with main:={PySem.Challenge.rw_sw0065_01.row.prog.main with body:=(cv 78).filterMap λi=>if i==0||i==9||i==13||i==68 then Ww else PySem.Challenge.rw_sw0065_01.row.prog.main.body[i]?}}
def Lw:List Str:=looseW Vw ["ONE_THIRD","ONE_SIXTH","TWO_THIRD","EXACT_TOKEN_TYPES"]
@[irreducible] noncomputable def Pg:Cv:=PySem.Challenge.rw_sw0065_01.row.prog
structure XX where
 w:World
 h:ju
 mg:Str->Option aj
def Ζ (P:Cv) (x:XX):Prop:=∀(ē:Es->Option aj) (mb:Str->Option aj) (aT:ak) (t:KT) (fa a:fy) (vs:List aj) (ns:List Int) (Q E:Vs),aT.heap=x.h->
 Top Vw Lw ē x.mg mb x.h->KT.Holds x.h 1 0 t->Ā x.w.params t Ŵ "EXACT_TOKEN_TYPES" dl->aT.gens=#[]->0<aT.toks->x.mg "law"=J (.ref fa)->
 x.h.get? a=J {cls:=.type "list",data:=.seq vs.toArray}->Cw vs ns->ns.length<=63->(∀v s',Pure aT s'->v=.bool Wu->Q v s')->wpAny (model P x.w) callerA (call (.ref fa) [.ref a]) Q E aT
@[irreducible] noncomputable def X0:XX:=@yy XX ⟨⟨⟨λ_ _=>0,{strHash:=λ_=>0,shareClass:=λ_=>0,mergeTok:=λt=>t,idOf:=λ_=>0,idOfShared:=λ_ _=>0,followText:=λ_=>Wv,idOfImm:=λ_=>0}⟩,default,λ_=>Ww⟩⟩ λx=>¬Ζ Pg x
theorem UC (h:Ζ Pg X0) (x:XX):Ζ Pg x:=th λc=>by
 unfold X0 at h;exact vo (p:=λx=>¬Ζ Pg x) ⟨x,c⟩ h
@[irreducible] noncomputable def W0:World:=X0.w
@[irreducible] noncomputable def H0:ju:=X0.h
noncomputable def DN (k:Nat):Str:=if k=1000 then("_iter_escaped_chars":Str) else Ī[k]?.getD ""
@[irreducible] noncomputable def mG:Str->Option aj:=X0.mg
def fA (k:Nat):fy:=match mG (DN k) with
 |some (.ref a)=>a
 |_=>0
noncomputable def gZ{α:Type _}[Nonempty α] (P:α->Prop):α:=yy λa=>¬P a
theorem iY{α:Type _}(P:α->Prop) (a:α) (h:P (@gZ α ⟨a⟩ P)):P a:=th λq=>@vo α (λa=>¬P a) ⟨a,q⟩ h
noncomputable abbrev bA{α:Type _}{β:Type _}{γ:Type _}(f:α->β->γ) (p:α×β):γ:=f p.1 p.2
noncomputable abbrev a9{α:Type _}{β:Type _}{γ:Type _}{δ:Type _}{ε:Type _}{ζ:Type _}(f:α->β->γ->δ->ε->ζ):=bA (bA (bA (bA f)))
end Mine.Internal
end
section
open PySem PySem.W PyProof.Rows
namespace Mine.Internal
inductive Ÿ:aj->SV->Prop
 |i (n:Int) (t:Tok):Ÿ (.int n t) (.i n)
 |t (s:Str) (t:Tok):Ÿ (.str s t) (.t s)
inductive ņ{K:Type}:List (K×aj)->List (K×SV)->Prop
 |nil:ņ [] []
 |cons{k:K}{v:aj}{a:SV}{es:List (K×aj)}{l:List (K×SV)}:Ÿ v a->ņ es l->ņ ((k,v)::es) ((k,a)::l)
def Ò (h:ju) (a:fy) (À:Array aj):Prop:=∃n,h.get? a=J {cls:=.type "tuple",data:=.seq À n}
def Ù (h:ju) (a:fy) (l:List (Int×SV)):Prop:=(a==sysModules)=Wv/\∃Fk,h.DictOf (intKind Pg W0) a Fk/\ņ Fk l
def Û (h:ju) (a:fy) (l:List (Str×SV)):Prop:=(a==sysModules)=Wv/\∃Fk,h.DictOf (strKind Pg W0) a Fk/\ņ Fk l
mutual
inductive RV (h:ju) (N:Ap):aj->PV->Prop
 |none:RV h N .none .none
 |bool (b:Bool):RV h N (.bool b) (.bool b)
 |int (n:Int) (t:Tok):RV h N (.int n t) (.int n)
 |flt (x:UInt64) (t:Tok):t≠0->RV h N (.float x t) (.flt x)
 |str (s:Str) (t:Tok):RV h N (.str s t) (.str s)
 |tup{a:fy}{vs:List aj}{l:List PV}:¬N a->Ò h a vs.toArray->Í h N vs l->RV h N (.ref a) (.tup l)
 |lst{a:fy}{vs:List aj}{l:List PV}:¬N a->h.PlainList a vs.toArray->Í h N vs l->RV h N (.ref a) (.lst l)
 |dcti{a:fy}{l:List (Int×SV)}:¬N a->Ù h a l->RV h N (.ref a) (.dcti l)
 |dcts{a:fy}{l:List (Str×SV)}:¬N a->Û h a l->RV h N (.ref a) (.dcts l)
inductive Í (h:ju) (N:Ap):List aj->List PV->Prop
 |nil:Í h N [] []
 |cons{v:aj}{p:PV}{vs:List aj}{ps:List PV}:RV h N v p->Í h N vs ps->Í h N (v::vs) (p::ps)
end
theorem Step.trans (a:Step h N h' N') (b:Step h' N' Tz N''):Step h N Tz N'' where
 keep:=λx o hn e=>b.keep x o (λNw=>by
  rcases a.new x Nw with q|q
  ·exact hn q
  ·exact absurd (dc e) (bp.mpr q)) (a.keep x o hn e)
 grow:=aa a.grow b.grow
 new:=λx hx=>by
  rcases b.new x hx with q|q
  ·exact a.new x q
  ·exact .inr (aa a.grow q)
theorem Step.refl (h:ju) (N:Ap):Step h N h N:=⟨λ_ _ _ e=>e,ai _,λ_ q=>.inl q⟩
theorem Step.of_keeps (k:∀b o,h.get? b=J o->h'.get? b=J o) (g:h.objs.size<=h'.objs.size):Step h N h' N:=⟨λb o _ e=>k b o e,g,λ_ q=>.inl q⟩
theorem Step.or (s:Step h N h' N') (Na:Ap):Step h (λb=>Na b\/N b) h' (λb=>Na b\/N' b) where
 keep:=λb o hn e=>s.keep b o (λq=>hn (.inr q)) e
 grow:=s.grow
 new:=λb hb=>by
  rcases hb with q|q
  ·exact .inl (.inl q)
  ·rcases s.new b q with q|q
   ·exact .inl (.inr q)
   ·exact .inr q
section
variable{h h':ju}{N N':Ap}
theorem Step.notN (s:Step h N h' N') (hn:¬N a) (e:h.get? a=J o):¬N' a:=λq=>by
 rcases s.new a q with q|q
 ·exact hn q
 ·exact absurd (dc e) (bp.mpr q)
theorem Ò.st (s:Step h N h' N') (hn:¬N a) (p:Ò h a x):¬N' a/\Ò h' a x:=p.elim λn e=>(iae (s.notN hn e) n (s.keep _ _ hn e))
theorem iZ (s:Step h N h' N') (hn:¬N a) (p:h.PlainList a x):¬N' a/\h'.PlainList a x:=p.elim λn e=>(iae (s.notN hn e) n (s.keep _ _ hn e))
theorem xC (s:Step h N h' N'){K:Type}[DecidableEq K] {k:PySem.KeyKind Pg W0 K}{x:List (K×aj)}(hn:¬N a) (p:h.DictOf k a x):¬N' a/\h'.DictOf k a x:= by
 refine mL p λo es ep e r=>?_;exact(iae (s.notN hn e) o (lD es ep (s.keep _ _ hn e) r))
theorem Ù.st (s:Step h N h' N') (hn:¬N a) (p:Ù h a l):¬N' a/\Ù h' a l:= by
 refine sG p λhs Fk d r=>?_;clear p;have q:=xC s hn d;exact(ß q.1 hs (Ö Fk q.2 r))
theorem Û.st (s:Step h N h' N') (hn:¬N a) (p:Û h a l):¬N' a/\Û h' a l:= by
 refine sG p λhs Fk d r=>?_;clear p;have q:=xC s hn d;exact(ß q.1 hs (Ö Fk q.2 r))
theorem RV.step (s:Step h N h' N') (r:RV h N v p):RV h' N' v p:=RV.rec (motive_1:=λv p _=>RV h' N' v p) (motive_2:=λvs ps _=>Í h' N' vs ps) .none .bool .int .flt .str (λn e _ r=>.tup (e.st s n).1 (e.st s n).2 r) (λn e _ r=>.lst (iZ s n e).1 (iZ s n e).2 r) (λn e=>.dcti (e.st s n).1 (e.st s n).2) (λn e=>.dcts (e.st s n).1 (e.st s n).2) .nil (λ_ _ a b=>.cons a b) r
theorem Í.step (s:Step h N h' N') (r:Í h N vs ps):Í h' N' vs ps:=Í.rec (motive_1:=λv p _=>RV h' N' v p) (motive_2:=λvs ps _=>Í h' N' vs ps) .none .bool .int .flt .str (λn e _ r=>.tup (e.st s n).1 (e.st s n).2 r) (λn e _ r=>.lst (iZ s n e).1 (iZ s n e).2 r) (λn e=>.dcti (e.st s n).1 (e.st s n).2) (λn e=>.dcts (e.st s n).1 (e.st s n).2) .nil (λ_ _ a b=>.cons a b) r
theorem Step.sub (hn:∀b,N' b->N b):Step h N h N':=⟨λ_ _ _ e=>e,ai _,λ_ q=>.inl (hn _ q)⟩
theorem Í.length (r:Í h N vs ps):vs.length=ps.length:= by
 induction ps generalizing vs with
 |nil=>cases r;rfl
 |cons p ps ih=>cases r with|cons a b=>simp[ih b]
theorem Í.append (r:Í h N vs ps) (q:Í h N ws qs):Í h N (vs++ws) (ps++qs):= by
 induction ps generalizing vs with
 |nil=>cases r;exact q
 |cons p ps ih=>cases r with|cons a b=>exact .cons a (ih b)
theorem Í.get{vs:List aj}{ps:List PV}(r:Í h N vs ps){k:Nat}{p:PV}(hp:ps[k]?=J p):∃v,vs[k]?=J v/\RV h N v p:= by
 induction ps generalizing vs k with
 |nil=>trivial
 |cons q ps ih=>
  cases r with
  |cons a b=>
   cases k with
   |zero=>simp at hp;subst hp;exact(Ö _ (by rfl) a)
   |succ k=>simp at hp;refine Å (ih b hp) λv hv hr=>?_;exact(Ö v (by simpa using hv) hr)
theorem Í.take (r:Í h N vs ps) (k:Nat):Í h N (vs.take k) (ps.take k):= by
 induction ps generalizing vs k with
 |nil=>cases r;simp;exact .nil
 |cons q ps ih=>
  cases r with
  |cons a b=>
   cases k with
   |zero=>simp;exact .nil
   |succ k=>simpa using .cons a (ih b k)
theorem Í.drop (r:Í h N vs ps) (k:Nat):Í h N (vs.drop k) (ps.drop k):= by
 induction ps generalizing vs k with
 |nil=>cases r;simp;exact .nil
 |cons q ps ih=>
  cases r with
  |cons a b=>
   cases k with
   |zero=>simpa using .cons a b
   |succ k=>simpa using ih b k
theorem Í.reverse (r:Í h N vs ps):Í h N vs.reverse ps.reverse:= by
 induction ps generalizing vs with
 |nil=>cases r;exact .nil
 |cons q ps ih=>cases r with|cons a b=>simpa using Í.append (ih b) (.cons a .nil)
theorem Í.one (a:RV h N v p):Í h N [v] [p]:=.cons a .nil
theorem Í.rep (r:Í h N vs ps):∀k:Nat,Í h N (ab k vs).flatten (ab k ps).flatten
 |0=>.nil
 |k+1=>by simpa [cj] using Í.append r (Í.rep r k)
end
inductive RT (h:ju) (N:Ap):aj->PV->Prop
 |none:RT h N .none .none
 |bool (b:Bool):RT h N (.bool b) (.bool b)
 |int (n:Int) (t:Tok):RT h N (.int n t) (.int n)
 |flt (x:UInt64) (t:Tok):t≠0->RT h N (.float x t) (.flt x)
 |str (s:Str) (t:Tok):RT h N (.str s t) (.str s)
 |tup{a:fy}{vs:List aj}{l:List PV}:Ò h a vs.toArray->Í h N vs l->RT h N (.ref a) (.tup l)
 |lst{a:fy}{vs:List aj}{l:List PV}:h.PlainList a vs.toArray->Í h N vs l->RT h N (.ref a) (.lst l)
 |dcti{a:fy}{l:List (Int×SV)}:Ù h a l->RT h N (.ref a) (.dcti l)
 |dcts{a:fy}{l:List (Str×SV)}:Û h a l->RT h N (.ref a) (.dcts l)
inductive į (h:ju) (N:Ap):List aj->List PV->Prop
 |nil:į h N [] []
 |cons{v:aj}{p:PV}{vs:List aj}{ps:List PV}:RT h N v p->į h N vs ps->į h N (v::vs) (p::ps)
theorem RV.rt (r:RV h N v p):RT h N v p:= by
 cases r with
 |none=>exact .none
 |bool b=>exact .bool b
 |int n t=>exact .int n t
 |flt x t ht=>exact .flt x t ht
 |str x t=>exact .str x t
 |tup a b c=>exact .tup b c
 |lst a b c=>exact .lst b c
 |dcti a b=>exact .dcti b
 |dcts a b=>exact .dcts b
noncomputable def PV.scalar:PV->Bool
 |.tup _=>Wv
 |.lst _=>Wv
 |.dcti _=>Wv
 |.dcts _=>Wv
 |_=>Wu
theorem RV.of_scalar (r:RV h N v p) (s:p.scalar=Wu):RV h' N' v p:= by
 cases r with
 |none=>exact .none
 |bool b=>exact .bool b
 |int n t=>exact .int n t
 |flt x t ht=>exact .flt x t ht
 |str x t=>exact .str x t
 |tup=>cases s
 |lst=>cases s
 |dcti=>cases s
 |dcts=>cases s
theorem Õ.refl (s:ak) (N:Ap):Õ s N s N:=⟨Step.refl _ _,λ_ _ e=>e,λx=>x,rfl,rfl,ai _⟩
theorem Õ.trans (a:Õ s N s' N') (b:Õ s' N' Gw N''):Õ s N Gw N'':=
 ⟨a.step.trans b.step,λi g e=>b.gens i g (a.gens i g e),λx=>b.bare (a.bare x),b.os.trans a.os,b.drawn.trans a.drawn,aa a.toks b.toks⟩
theorem Pure.keep (x:Pure s s'):∀b o,s.heap.get? b=J o->s'.heap.get? b=J o:=λb o e=>x.step.keep b o (λq=>q) e
theorem Pure.stepAt (x:Pure s s') (N:Ap):Step s.heap N s'.heap N:=Step.of_keeps x.keep x.step.grow
theorem Pure.toks (s:ak) (ht:s.toks<=t:=by omega):Pure s {s with toks:=t}:=⟨Step.refl _ _,λ_ _ e=>e,λx=>x,rfl,rfl,ht⟩
theorem Pure.push (s:ak) (o:Obj) (ht:s.toks<=t:=by omega):Pure s {s with heap:=s.heap.push o,toks:=t}:=
 ⟨⟨λ_ _ _ e=>cb _ e,by simp[br],λ_ q=>q.elim⟩,λ_ _ e=>e,λx=>x,rfl,rfl,ht⟩
theorem Pure.of_heap (k:∀b o,s.heap.get? b=J o->h.get? b=J o) (g:s.heap.objs.size<=h.objs.size) (ht:s.toks<=t:=by omega):Pure s {s with heap:=h,toks:=t}:=
 ⟨Step.of_keeps k g,λ_ _ e=>e,λx=>x,rfl,rfl,ht⟩
structure Ê (A:dj) (k:Nat):Prop where
 hh:A.handled=ol
 depth:A.depth+k<900
 units:A.units+8*k<9000
theorem Ê.le (r:Ê A k) (h:j<=k):Ê A j:=⟨r.hh,by have:=r.depth;exact ā (.y (.A .q .r) (.N 900)) [.x .r .s,.y (.A .q .s) (.N 900)] h this,by have:=r.units;exact ā (.y (.A .q (.M .n8 .r)) (.N 9000)) [.X 8 .r .s,.y (.A .q (.M .n8 .s)) (.N 9000)] h this⟩
theorem Ê.lim (r:Ê A k):A.depth<recursionLimit:=by have:=r.depth;unfold recursionLimit;exact ä (.y .q .kn) [.y (.A .q .r) (.N 900)] this
theorem Ê.line (r:Ê A k):A.units<cLine:=by have:=r.units;unfold cLine;exact ä (.y .q (.N 9900)) [.y (.A .q (.M .n8 .r)) (.N 9000)] this
def RTd (h:ju) (N:Ap) (v:aj):PV->Prop
 |.none=>v=.none
 |.bool b=>v=.bool b
 |.int n=>∃t,v=.int n t
 |.flt x=>∃t,v=.float x t/\t≠0
 |.str s=>∃t,v=.str s t
 |.tup l=>∃a vs,v=.ref a/\Ò h a vs.toArray/\Í h N vs l
 |.lst l=>∃a vs,v=.ref a/\h.PlainList a vs.toArray/\Í h N vs l
 |.dcti l=>∃a,v=.ref a/\Ù h a l
 |.dcts l=>∃a,v=.ref a/\Û h a l
theorem RT.inv (r:RT h N v p):RTd h N v p:= by
 cases r with
 |none=>exact rfl
 |bool b=>exact rfl
 |int n t=>exact⟨t,rfl⟩
 |flt x t ht=>exact(Ö t rfl ht)
 |str x t=>exact⟨t,rfl⟩
 |tup b c=>exact(cA _ _ rfl b c)
 |lst b c=>exact(cA _ _ rfl b c)
 |dcti b=>exact(Ö _ rfl b)
 |dcts b=>exact(Ö _ rfl b)
def RVd (h:ju) (N:Ap) (v:aj):PV->Prop
 |.tup l=>∃a vs,v=.ref a/\¬N a/\Ò h a vs.toArray/\Í h N vs l
 |.lst l=>∃a vs,v=.ref a/\¬N a/\h.PlainList a vs.toArray/\Í h N vs l
 |.dcti l=>∃a,v=.ref a/\¬N a/\Ù h a l
 |.dcts l=>∃a,v=.ref a/\¬N a/\Û h a l
 |p=>RTd h N v p
theorem RV.inv (r:RV h N v p):RVd h N v p:= by
 cases r with
 |none=>exact rfl
 |bool b=>exact rfl
 |int n t=>exact⟨t,rfl⟩
 |flt x t ht=>exact(Ö t rfl ht)
 |str x t=>exact⟨t,rfl⟩
 |tup a b c=>exact(cM _ _ rfl a b c)
 |lst a b c=>exact(cM _ _ rfl a b c)
 |dcti a b=>exact(gQ _ rfl a b)
 |dcts a b=>exact(gQ _ rfl a b)
def RVsd (h:ju) (N:Ap) (vs:List aj):List PV->Prop
 |[]=>vs=[]
 |p::ps=>∃v vs',vs=v::vs'/\RV h N v p/\Í h N vs' ps
theorem Í.inv (r:Í h N vs ps):RVsd h N vs ps:= by
 cases r with
 |nil=>exact rfl
 |cons a b=>exact(cA _ _ rfl a b)
theorem wM{G:Prop}(h:∀C:Prop,(G->C)->C):G:=h G id
theorem nn{α:Type}{r:α}{C:Prop}(h:ol=J r):C:=nomatch h
theorem nf{C:Prop}(h:Wv=Wu):C:=nomatch h
theorem ob{α β:Type}{o:Option α}{f:α->Option β}{r:β}(h:o.bind f=J r):∃a,o=J a/\f a=J r:=co.mp h
theorem bs{α β:Type}{o:Option α}{f:α->Option β}{a:α}(h:o=J a):o.bind f=f a:=by rw[h];rfl
theorem sm{α:Type}{a r:α}(h:J a=J r):a=r:=fz h
theorem aZ{c:Prop}[Decidable c] {α:Type}{o:Option α}{r:α}(h:(if c then o else ol)=J r):c/\o=J r:= by
 by_cases hc:c
 ·rw[if_pos hc] at h;exact⟨hc,h⟩
 ·rw[if_neg hc] at h;exact nn h
theorem xD{c:Prop}[Decidable c] {α:Type}{o:Option α}{r:α}(h:(if c then ol else o)=J r):¬c/\o=J r:= by
 by_cases hc:c
 ·rw[if_pos hc] at h;exact nn h
 ·rw[if_neg hc] at h;exact⟨hc,h⟩
theorem aA (h:(a&&b)=Wu):a=Wu/\b=Wu:=by cases a<;>cases b<;>first|exact⟨rfl,rfl⟩|cases h
noncomputable def dD (x:Int):Bool:=decide (-(2^62)<x)&&decide (x<2^62)
noncomputable def ķ (n:Int):Bool:=!isInf (au n)
def GG (x y:Int):ir->Option PV
 |.Add=>J (.int (x+y))
 |.Sub=>J (.int (x-y))
 |.Mult=>if dD x then J (.int (x*y)) else Ww
 |.FloorDiv=>if 0<y/\y<1000000000 then J (.int (x/y)) else Ww
 |.Mod=>if 0<y then J (.int (x%y)) else Ww
 |.Pow=>if 2<=x/\x<100/\0<=y/\y<100 then J (.int (x^y.toNat)) else Ww
 |.Div=>if 0<y/\qw (ofFrac (decide (x<0) != decide (y<0)) x.natAbs y.natAbs)=Wv then J (.flt (ofFrac (decide (x<0) != decide (y<0)) x.natAbs y.natAbs)) else Ww
 |_=>Ww
noncomputable def MR (x y:UInt64):ir->Option PV
 |.Add=>J (.flt (add x y))
 |.Sub=>J (.flt (ae x y))
 |.Mult=>J (.flt (mul x y))
 |.Div=>if ck y then Ww else J (.flt (div x y))
 |.Mod=>if ck y then Ww else J (.flt (cw x y).2)
 |_=>Ww
def Z0 (x:UInt64) (y:Int):ir->Option PV
 |.Sub=>if ķ y then J (.flt (ae x (au y))) else Ww
 |.Mult=>if ķ y then J (.flt (mul x (au y))) else Ww
 |_=>Ww
def Z1 (x:Int) (y:UInt64):ir->Option PV
 |.Mult=>if ķ x then J (.flt (mul (au x) y)) else Ww
 |_=>Ww
noncomputable def Z2 (x y:Str):Option PV:=if x.length+y.length<=100000 then J (.str (x++y)) else Ww
noncomputable def UD (x:Str) (y:Int):Option PV:=if x.length<=1000/\y<1000/\-1000<y then J (.str ⟨(ab y.toNat x.cps.toList).flatten.toArray⟩) else Ww
noncomputable def aDF (x y:List PV):Option PV:=if x.length+y.length<=100000 then J (.lst (x++y)) else Ww
noncomputable def aDG (x:List PV) (y:Int):Option PV:=if x.length<=1000/\y<1000/\-1000<y then J (.lst (ab y.toNat x).flatten) else Ww
noncomputable def aDH (x:List PV) (y:Int):Option PV:=if x.length=1/\(y=3\/y=4) then J (.tup (ab y.toNat x).flatten) else Ww
noncomputable def aDI (x y:List PV):Option PV:=if x.length+y.length<=100000/\x.isEmpty=Wv/\y.isEmpty=Wv then J (.tup (x++y)) else Ww
noncomputable def tK (op:ir) (r:Option PV):Option PV:=match op with|.Add=>r|_=>Ww
noncomputable def tL (op:ir) (r:Option PV):Option PV:=match op with|.Mult=>r|_=>Ww
def iJ (op:ir) (p q:PV):Option PV:=match p with
 |.int x=>(match q with|.int y=>GG x y op|.flt y=>Z1 x y op|_=>Ww)
 |.flt x=>(match q with|.int y=>Z0 x y op|.flt y=>MR x y op|_=>Ww)
 |.str x=>(match q with|.int y=>tL op (UD x y)|.str y=>tK op (Z2 x y)|_=>Ww)
 |.lst x=>(match q with|.int y=>tL op (aDG x y)|.lst y=>tK op (aDF x y)|_=>Ww)
 |.tup x=>(match q with|.int y=>tL op (aDH x y)|.tup y=>tK op (aDI x y)|_=>Ww)
 |_=>Ww
def Ŗ (h h':ju) (N:Ap) (v:aj) (l:List PV):Prop:=
 ∃(a:fy) (vs:List aj),v=.ref a/\h.objs.size<=a/\h'.PlainList a vs.toArray/\Í h' (λb=>N b\/b=a) vs l
def Ď (s s':ak) (N:Ap) (v:aj) (r:PV):Prop:=
 RV s'.heap N v r/\∀l,r=.lst l->Ŗ s.heap s'.heap N v l
theorem Ď.of_scalar (x:RV s'.heap N v r) (h:∀l,r≠.lst l):Ď s s' N v r:=⟨x,λl e=>absurd e (h l)⟩
def ď (N:Ap) (h:ju):Prop:=∀b,N b->b<h.objs.size
theorem Í.avoid (k:∀b o,h.get? b=J o->h'.get? b=J o) (g:h.objs.size<=h'.objs.size) (r:Í h N vs l) (ha:h.objs.size<=a):Í h' (λb=>N b\/b=a) vs l:=
 r.step ⟨λb o _ e=>k b o e,g,λb hb=>hb.elim .inl λe=>.inr (e▸ha)⟩
section
variable{A:dj}{E:Vs}{s:ak}{N:Ap}
theorem rU{Q:Vs}{vs:List aj}{l:List PV}(hN:ď N s.heap) (r:Í s.heap N vs l){t:Nat}(ht:s.toks<=t)
  (h:∀v s',Pure s s'->Ď s s' N v (.lst l)->Q v s'):Q (.ref s.heap.objs.size) {s with heap:=s.heap.push {cls:=.type "list",data:=.seq vs.toArray},toks:=t}:= by
 have hk:∀b o,s.heap.get? b=J o->(s.heap.push {cls:=.type "list",data:=.seq vs.toArray}).get? b=J o:=λ_ _ e=>cb _ e;have hg:s.heap.objs.size<=(s.heap.push {cls:=.type "list",data:=.seq vs.toArray}).objs.size:=by simp[br]
 have hp:(s.heap.push {cls:=.type "list",data:=.seq vs.toArray}).PlainList s.heap.objs.size vs.toArray:=⟨0,cr _ rfl⟩;refine h _ _ (Pure.push _ _ ht) ⟨.lst (λhn=>gn _ (hN _ hn)) hp (r.step (Step.of_keeps hk hg)),λl' e=>?_⟩;cases e;exact(cM _ vs rfl (ai _) hp (r.avoid hk hg (ai _)))
theorem tM{Q:Vs}{vs:List aj}{l:List PV}(hN:ď N s.heap) (r:Í s.heap N vs l){t:Nat}(ht:s.toks<=t)
  (h:∀v s',Pure s s'->Ď s s' N v (.tup l)->Q v s'):Q (.ref s.heap.objs.size) {s with heap:=s.heap.push {cls:=.type "tuple",data:=.seq vs.toArray},toks:=t}:= by
 have hk:∀b o,s.heap.get? b=J o->(s.heap.push {cls:=.type "tuple",data:=.seq vs.toArray}).get? b=J o:=λ_ _ e=>cb _ e;have hg:s.heap.objs.size<=(s.heap.push {cls:=.type "tuple",data:=.seq vs.toArray}).objs.size:=by simp[br]
 have hp:Ò (s.heap.push {cls:=.type "tuple",data:=.seq vs.toArray}) s.heap.objs.size vs.toArray:=⟨0,cr _ rfl⟩;exact h _ _ (Pure.push _ _ ht) ⟨.tup (λhn=>gn _ (hN _ hn)) hp (r.step (Step.of_keeps hk hg)),λl' e=>by cases e⟩
theorem DP (h:dD x=Wu):-(2^62)<x/\x<2^62:= by
 unfold dD at h;simp only[bt,decide_eq_true_eq] at h;exact h
theorem g5{α:Type}(xs:Array α):∀(n:Nat) (acc:Array α),(ab n xs).foldl (·++·) acc=acc++(ab n xs.toList).flatten.toArray
 |0,acc=>by rfl
 |n+1,acc=>by
  (refine O cj (O Ba ?_);rw[g5 xs n];refine O cj (O fm ?_))
  apply Array.ext';simp
theorem MS (ht:0<t):Ď s s' N (.float x t) (.flt x):=.of_scalar (.flt x t (iy ht)) λ_ e=>by cases e
theorem MT:Ď s s' N (.int x t) (.int x):=.of_scalar (.int x t) λ_ e=>by cases e
theorem MU:Ď s s' N (.str x t) (.str x):=.of_scalar (.str x t) λ_ e=>by cases e
set_option maxHeartbeats 1600000 in
set_option maxRecDepth 100000 in
theorem DQ (l:fy) (v:aj) (n:Nat) (u:Tok):
  Ff (Cy.«tuple.__mul__» ⟨[.ref l,.int 3 u],[]⟩) (λ_ R s=>s.heap.get? l=J {cls:=.type "tuple",dict:=Ww,data:=.seq #[v] n,slots:=#[]}/\
   R (.ok (.ret (.ref s.heap.objs.size))) {s with heap:=s.heap.push {cls:=.type "tuple",data:=.seq #[v,v,v]},toks:=s.toks}):=
 .of_wp λPg W0 A R s h=>by
  obtain⟨hp,g,d,tk,os⟩:=s;refine xa h λhl h=>?_;wp_walk;exact(Ö _ rfl h)
set_option maxRecDepth 100000 in
theorem DR (l:fy) (v:aj) (n:Nat) (u:Tok):
  Ff (Cy.«tuple.__mul__» ⟨[.ref l,.int 4 u],[]⟩) (λ_ R s=>s.heap.get? l=J {cls:=.type "tuple",dict:=Ww,data:=.seq #[v] n,slots:=#[]}/\
   R (.ok (.ret (.ref s.heap.objs.size))) {s with heap:=s.heap.push {cls:=.type "tuple",data:=.seq #[v,v,v,v]},toks:=s.toks}):=
 .of_wp λPg W0 A R s h=>by
  obtain⟨hp,g,d,tk,os⟩:=s;refine xa h λhl h=>?_;wp_walk;exact(Ö _ rfl h)
set_option maxRecDepth 100000 in
theorem tO (a:Int) (t:Tok) (l:fy) (À:Array aj) (n:Nat):
  Ff (Cy.«int.__rmul__» ⟨[.int a t,.ref l],[]⟩) (λ_ R s=>s.heap.get? l=J {cls:=.type "tuple",dict:=Ww,data:=.seq À n,slots:=#[]}/\R (.ok (.ret aj.notImplemented)) s):=
 .of_wp λPg W0 A R s h=>by obtain⟨hp,g,d,tk,os⟩:=s;refine xa h λhl h=>?_;wp_walk;exact(Ö _ rfl h)
theorem qM:fillsNumberSlot (.type "tuple") "mul"=pure Wv:=
 PySem.fillsNumberSlot_seq (id:="tuple.__mul__") (r:=J (.builtin "tuple.__rmul__")) uj.lookup (by decide +kernel) yz.lookup (by decide +kernel)
theorem y9:seqRepeat? (.type "tuple")=pure (J (.builtin "tuple.__mul__")):= by
 unfold seqRepeat?;refine O (uk (T:="tuple") (name:="__mul__") (id:="tuple.__mul__") uj.lookup (by decide +kernel)) (O (uk (T:="tuple") (name:="__rmul__") (id:="tuple.__rmul__") yz.lookup (by decide +kernel)) ?_);rfl
theorem qN (h:tK op o=J r):op=.Add/\o=J r:=by cases op<;>first|exact nn h|exact⟨rfl,h⟩
theorem qO (h:tL op o=J r):op=.Mult/\o=J r:=by cases op<;>first|exact nn h|exact⟨rfl,h⟩
theorem š (ht:0<t) (e:J (PV.flt x)=J r):Ď s s' N (.float x t) r:=sm e▸MS ht
theorem ű (e:J (PV.int x)=J r):Ď s s' N (.int x t) r:=sm e▸MT
theorem Ŭ (e:J (PV.str x)=J r) (h:x=y):Ď s s' N (.str y t) r:=h▸sm e▸MU
theorem AZ (h:dD x=Wu):oy x<=64:= by
 have:=DP h;exact intBits_le_64 (ÿ (.t (.G (.P .n2 64)) .a) [.t (.G (.P .n2 62)) .a] this.1) (ÿ (.t .a (.P .n2 64)) [.t .a (.P .n2 62)] this.2)
theorem aFE (h:0<y/\y<1000000000):Cy.divisionGoesByPylong x y=Wv:=vp (ì [_] [_] (.y .q (.N 1073741824)) [.t .a (.N 1000000000),.e .q .a] h.2 (av (Ğ [_] (.l .n0 .a) [.t .n0 .a] h.1)))
theorem UF (hs:2<=x/\x<100/\0<=y/\y<100):¬wi (((oy x:Nat):Int)*y)=Wu:= by
 have h1:oy x<=64:=intBits_le_64 (ÿ (.t (.G (.P .n2 64)) .a) [.l .n2 .a] hs.1) (ÿ (.t .a (.P .n2 64)) [.t .a (.N 100)] hs.2.1);have h2:((oy x:Nat):Int)*y<=64*100:=Int.mul_le_mul (Ć (.l .q (.N 64)) [.x .q (.N 64)] h1) (ba hs.2.2.2) (hs.2.2.1) (Ž (.l .n0 (.N 64)) []);unfold wi bitsLine;simp only[gt_iff_lt,decide_eq_true_eq,dr];exact ì [_] [_] (.l (.M .q .a) (.C (.P .n2 27))) [.l (.M .q .a) (.M (.N 64) (.N 100))] h2
theorem YT (h:2<=x):¬(x==0||x==1)=Wu/\¬(x==-1)=Wu:=by simp;exact⟨⟨iD (ÿ (.t .n0 .a) [.l .n2 .a] h),iD (ÿ (.t .n1 .a) [.l .n2 .a] h)⟩,iD (ÿ (.t .kt .a) [.l .n2 .a] h)⟩
theorem aDJ{y:Int}(h:0<y):¬(y==0)=Wu:=by simp;exact iD (h)
theorem DS (h:ķ x=Wu):¬qw (au x)=Wu:=by simpa [ķ] using h
section
variable{x y:Int}{f g:UInt64}{t u:Tok}{r:PV}{Q:Vs}{op:ir}
theorem aDK (h:GG x y .Pow=J r) (hQ:∀v s',Pure s s'->Ď s s' N v r->Q v s'):wpAny (model Pg W0) A (binaryOp .Pow (.int x t) (.int y u)) Q E s:= by
 refine xa (aZ h) λhs h=>?_
 by_cases Lg:y=0
 ·subst Lg;exact Ey (bq _) rfl (hQ _ _ (Pure.toks _) (ű ((Cu x)▸h)))
 exact Ez hs.2.2.1 (λe=>Lg (aq e)) (YT hs.1).1 (YT hs.1).2 (UF hs) (hQ _ _ (Pure.toks _) (ű h))
theorem Z3 (hT:0<s.toks) (h:GG x y op=J r) (hQ:∀v s',Pure s s'->Ď s s' N v r->Q v s'):wpAny (model Pg W0) A (binaryOp op (.int x t) (.int y u)) Q E s:= by
 cases op<;>try (exact nn h)
 case Add=>exact Fa (hQ _ _ (Pure.toks _) (ű h))
 case Sub=>exact Fb (hQ _ _ (Pure.toks _) (ű h))
 case Mult=>exact Dr (hm:=Fc (AZ (aZ h).1)) (hQ _ _ (Pure.toks _) (ű (aZ h).2))
 case FloorDiv=>exact floordiv_int (iD (aZ h).1.1) (hQ _ _ (Pure.toks _) (sr x (ba (aZ h).1.1)▸ű (aZ h).2)) (Or.inl (aFE (aZ h).1))
 case Mod=>exact Ds (iD (aZ h).1) (hQ _ _ (Pure.toks _) (Int.fmod_eq_emod_of_nonneg x (ba (aZ h).1)▸ű (aZ h).2))
 case Pow=>exact aDK h hQ
 case Div=>exact Dt (aDJ (aZ h).1.1) (λe=>nf ((aZ h).1.2.symm.trans e)) (hQ _ _ (Pure.toks _) (š hT (aZ h).2))
theorem Z4 (hT:0<s.toks) (h:MR f g op=J r) (hQ:∀v s',Pure s s'->Ď s s' N v r->Q v s'):wpAny (model Pg W0) A (binaryOp op (.float f t) (.float g u)) Q E s:= by
 cases op<;>try (exact nn h)
 case Add=>exact Ee (hQ _ _ (Pure.toks _) (š hT h))
 case Sub=>exact Ef (hQ _ _ (Pure.toks _) (š hT h))
 case Mult=>exact Eg (hQ _ _ (Pure.toks _) (š hT h))
 case Div=>exact Cz (xD h).1 (hQ _ _ (Pure.toks _) (š hT (xD h).2))
 case Mod=>exact Eh (xD h).1 (hQ _ _ (Pure.toks _) (š hT (xD h).2))
theorem Z5 (hT:0<s.toks) (h:Z0 f y op=J r) (hQ:∀v s',Pure s s'->Ď s s' N v r->Q v s'):wpAny (model Pg W0) A (binaryOp op (.float f t) (.int y u)) Q E s:= by
 cases op<;>try (exact nn h)
 case Sub=>exact Dk (by exact O (if_neg (DS (aZ h).1)) (hQ _ _ (Pure.toks _) (š hT (aZ h).2)))
 case Mult=>exact Dl (by exact O (if_neg (DS (aZ h).1)) (hQ _ _ (Pure.toks _) (š hT (aZ h).2)))
theorem Z6 (hT:0<s.toks) (h:Z1 x g op=J r) (hQ:∀v s',Pure s s'->Ď s s' N v r->Q v s'):wpAny (model Pg W0) A (binaryOp op (.int x t) (.float g u)) Q E s:= by
 cases op<;>try (exact nn h)
 case Mult=>exact Dm (by exact O (if_neg (DS (aZ h).1)) (hQ _ _ (Pure.toks _) (š hT (aZ h).2)))
theorem UG{X Y:Str}(h:X.length=0):X++Y=Y:= by
 apply Du;have Iw:X.cps.size=0:=h;simp[wq,nl Iw]
theorem MV{X Y:Str}(h:Y.length=0):X++Y=X:= by
 apply Du;have Iw:Y.cps.size=0:=h;simp[wq,nl Iw]
theorem aFF{X:Str}{y:Int}(h:y<=0):(⟨(ab y.toNat X.cps.toList).flatten.toArray⟩:Str)=⟨#[]⟩:=by refine O (show y.toNat=0 by lia) ?_;rfl
theorem aFG (h:(y==1||X.length==0)=Wu):(⟨(ab y.toNat X.cps.toList).flatten.toArray⟩:Str)=X:= by
 simp only[mr,beq_iff_eq] at h;apply Du;rcases h with h|h
 ·subst h;simp
 ·have Iw:X.cps=#[]:=nl h;simp[Iw]
theorem aDL{X:Str}{y:Int}:(⟨(ab y.toNat X.cps).foldl (·++·) #[]⟩:Str)=⟨(ab y.toNat X.cps.toList).flatten.toArray⟩:= by
 refine O (g5 ..) ?_;simp
theorem UH{X:Str}{y:Int}(hs:X.length<=1000/\y<1000/\-1000<y):X.length*y.toNat<=sizeLine/\((⟨(ab y.toNat X.cps).foldl (·++·) #[]⟩:Str).length<=sizeLine):= by
 have h3:X.length*y.toNat<=1000*1000:=su (hs.1) (by lia);refine O aDL ?_;have:((ab y.toNat X.cps.toList).flatten).length=y.toNat*X.cps.size:=by simp
 simp only[Ei,List.size_toArray,this] at h3⊢;rw[jj y.toNat];unfold sizeLine;exact⟨ä (.x (.M .q .r) (.P .n2 24)) [.x (.M .q .r) (.M .kn .kn)] h3,ä (.x (.M .q .r) (.P .n2 24)) [.x (.M .q .r) (.M .kn .kn)] h3⟩
end
section
variable{x:Str}{y:Int}{t u:Tok}{r:PV}{l m:List PV}{a b:fy}{vs us:List aj}{Q:Vs}
theorem Κ:100000<=sizeLine:=by decide
theorem aDM{z:Str}(h:Z2 x z=J r) (hQ:∀v s',Pure s s'->Ď s s' N v r->Q v s'):wpAny (model Pg W0) A (binaryOp .Add (.str x t) (.str z u)) Q E s:= by
 refine xa (aZ h) λhs h=>?_;refine P.add_str ?_;split
 ·rename_i hx;exact hQ _ _ (Õ.refl _ _) (Ŭ h (UG (aq hx)))
 ·split
  ·rename_i hy;exact hQ _ _ (Õ.refl _ _) (Ŭ h (MV (aq hy)))
  ·exact⟨by exact O (Str.length_append ..) (aa hs Κ),hQ _ _ (Pure.toks _) (Ŭ h rfl)⟩
theorem aDN (hs:k<=1000/\i<1000/\-1000<i):k*i.toNat<=1000000:=su hs.1 (ql.mpr (ba hs.2.1))
theorem Z7{k:Nat}{y:Int}(hs:k<=1000/\y<1000/\-1000<y):¬y<1->(2^63-1)/y<(k:Int)->False:= by
 intro h1 h2;have:(1000:Int)<=(2^63-1)/y:= by
  exact O (propext (Int.le_ediv_iff_mul_le ((dr.mp h1)))) (ÿ (.l (.M .kn .a) (.S .kp .n1)) [.T 1000 .a .kn] hs.2.1)
 exact absurd (ì [_] [_] (.t .n0 .n0) [.x .q .kn,.t .a .q,.l .kn .a] hs.1 h2 this) (uf _)
theorem Z8 (h:UD x y=J r) (hQ:∀v s',Pure s s'->Ď s s' N v r->Q v s'):wpAny (model Pg W0) A (binaryOp .Mult (.str x t) (.int y u)) Q E s:= by
 refine xa (aZ h) λhs h=>?_;refine P.mul_str (by simp;exact⟨ÿ (.l (.G (.N 9223372036854775808)) .a) [.t (.G .kn) .a] hs.2.2,gj hs.2.1 (by decide)⟩) ?_ ?_ ?_
 ·intro h1 h2;exact λq=>Z7 hs h1 q
 ·intro h1 h2;have:=aDN hs;simp only[xw,sizeLine,gt_iff_lt,decide_eq_false_iff_not,bp];exact aa this (by decide)
 ·split
  ·rename_i h1;exact⟨by decide,hQ _ _ (Pure.toks _) (Ŭ h (aFF (Int.lt_add_one_iff.mp h1)))⟩
  ·split
   ·rename_i h2;exact hQ _ _ (Õ.refl _ _) (Ŭ h (aFG h2))
   ·exact⟨(UH hs).2,hQ _ _ (Pure.toks _) (Ŭ h aDL.symm)⟩
theorem Z9 (h:J (PV.lst l)=J r) (hN:ď N s.heap) (rs:Í s.heap N vs l) (ho:o=vs.toArray) (hQ:∀v s',Pure s s'->Ď s s' N v r->Q v s'):
  Q (.ref s.heap.objs.size) {s with heap:=s.heap.push {cls:=.type "list",data:=.seq o}}:= by
 subst ho;exact rU (t:=s.toks) hN rs (ai _) (sm h▸hQ)
theorem aDO (h:J (PV.tup l)=J r) (hN:ď N s.heap) (rs:Í s.heap N vs l) (ho:o=vs.toArray) (hQ:∀v s',Pure s s'->Ď s s' N v r->Q v s'):
  Q (.ref s.heap.objs.size) {s with heap:=s.heap.push {cls:=.type "tuple",data:=.seq o}}:= by
 subst ho;exact tM (t:=s.toks) hN rs (ai _) (sm h▸hQ)
theorem aDP (hN:ď N s.heap) (pa:s.heap.PlainList a vs.toArray) (Ig:Í s.heap N vs l) (pb:s.heap.PlainList b us.toArray) (ŗ:Í s.heap N us m) (h:aDF l m=J r)
  (hQ:∀v s',Pure s s'->Ď s s' N v r->Q v s'):wpAny (model Pg W0) A (binaryOp .Add (.ref a) (.ref b)) Q E s:= by
 refine xa (aZ h) λhs h=>?_;rw[<-Ig.length,<-ŗ.length] at hs;refine xe pa λn1 e1=>?_;clear pa;refine xe pb λn2 e2=>?_;exact P.add_list e1 e2 (Z9 h hN (Ig.append ŗ) (rn _ _) hQ) (aa hs Κ)
theorem A0 (h:vs.length=l.length) (e:l.isEmpty=Wv) (q:vs.toArray.isEmpty=Wu):False:= by
 cases vs with
 |nil=>cases l with
  |nil=>cases e
  |cons=>cases h
 |cons=>trivial
theorem aDQ (hN:ď N s.heap) (pa:Ò s.heap a vs.toArray) (Ig:Í s.heap N vs l) (pb:Ò s.heap b us.toArray) (ŗ:Í s.heap N us m) (h:aDI l m=J r)
  (hQ:∀v s',Pure s s'->Ď s s' N v r->Q v s'):wpAny (model Pg W0) A (binaryOp .Add (.ref a) (.ref b)) Q E s:= by
 refine xa (aZ h) λhs h=>?_;refine xe pa λn1 e1=>?_;clear pa;refine xe pb λn2 e2=>?_;clear pb;have hl:=hs.1;rw[<-Ig.length,<-ŗ.length] at hl;exact P.add_tuple e1 e2 (λq=>A0 Ig.length hs.2.1 q) (λq=>A0 ŗ.length hs.2.2 q) (aDO h hN (Ig.append ŗ) (rn _ _) hQ) (aa hl Κ)
theorem MW:List.foldl (λx1 x2=>x1++x2) #[] (ab (if vs.toArray.isEmpty=Wu then 0 else y.toNat) vs.toArray)=(ab y.toNat vs).flatten.toArray:= by
 refine O (g5 ..) ?_;cases vs with
 |nil=>simp
 |cons v vs=>simp
theorem aAA (hN:ď N s.heap) (pa:s.heap.PlainList a vs.toArray) (Ig:Í s.heap N vs l) (h:aDG l y=J r)
  (hQ:∀v s',Pure s s'->Ď s s' N v r->Q v s'):wpAny (model Pg W0) A (binaryOp .Mult (.ref a) (.int y u)) Q E s:= by
 refine xa (aZ h) λhs h=>?_;rw[<-Ig.length] at hs;have h3:=aDN hs;refine xe pa λn1 e1=>?_;exact wpAny_binaryOp_repeat_ref (T:="list") (U:="int") (by decide) (Ö _ e1 rfl) (λs'=>typeIs_int s' _ _) noFill_list_mul Bb rk repeat_list zw.lookup
   (call_meets rk (typeIs_int s _ _) zx (za _ _) (int___rmul___int_list _ _ _ _ _)
    ⟨e1,rfl,(Ö _ e1 rfl),call_meets F.slot_list_mul (Ö _ e1 rfl) F.entry_list_mul (F.args_list_mul_2 _ _)
     (yu _ _ _ _ _ (by simp[Bn];exact⟨ÿ (.l (.G (.N 9223372036854775808)) .a) [.t (.G .kn) .a] hs.2.2,gj hs.2.1 (by decide)⟩) (by simp;exact aa h3 (by decide)) (by simp[uh,sizeLine];exact aa h3 (by decide)))
     ⟨e1,Z9 h hN (Ig.rep y.toNat) MW hQ⟩⟩)
theorem aDR (hN:ď N s.heap) (pa:Ò s.heap a vs.toArray) (Ig:Í s.heap N vs l) (h:aDH l y=J r)
  (hQ:∀v s',Pure s s'->Ď s s' N v r->Q v s'):wpAny (model Pg W0) A (binaryOp .Mult (.ref a) (.int y u)) Q E s:= by
 refine xa (aZ h) λhs h=>?_;refine xe pa λn1 e1=>?_;clear pa;obtain⟨v,rfl⟩:∃v,vs=[v]:=List.length_eq_one_iff.mp (Ig.length.trans hs.1);have key:∀{o:Array aj},Ff (Cy.«tuple.__mul__» ⟨[.ref a,.int y u],[]⟩) (λ_ R s=>s.heap.get? a=J {cls:=.type "tuple",dict:=Ww,data:=.seq #[v] n1,slots:=#[]}/\
   R (.ok (.ret (.ref s.heap.objs.size))) {s with heap:=s.heap.push {cls:=.type "tuple",data:=.seq o},toks:=s.toks})->o=(ab y.toNat [v]).flatten.toArray->wpAny (model Pg W0) A (binaryOp .Mult (.ref a) (.int y u)) Q E s:=λm e=>
  wpAny_binaryOp_repeat_ref (T:="tuple") (U:="int") (by decide) (Ö _ e1 rfl) (λs'=>typeIs_int s' _ _) qM Bb rk y9 zw.lookup
    (call_meets rk (typeIs_int s _ _) zx (za _ _) (tO _ _ _ _ _)
     (fH e1 rfl (Ö _ e1 rfl) (call_meets uj (Ö _ e1 rfl) F.entry_tuple_mul (F.args_tuple_mul_2 _ _) m ⟨e1,aDO h hN (Ig.rep y.toNat) e hQ⟩)))
 rcases hs.2 with rfl|rfl
 ·exact key (DQ _ _ _ _) rfl
 ·exact key (DR _ _ _ _) rfl
end
set_option maxHeartbeats 1000000 in
theorem II (R:Ê A k) (hT:0<s.toks) (hN:ď N s.heap) (ra:RT s.heap N a p) (rb:RT s.heap N b q) (h:iJ op p q=J r)
  (hQ:∀v s',Pure s s'->Ď s s' N v r->Q v s'):wpAny (model Pg W0) A (binaryOp op a b) Q E s:= by
 have ra:=ra.inv;have rb:=rb.inv;clear R;cases p<;>try (exact nn h)
 case int x=>
  apply Ü ra;intro t;clear ra;cases q<;>try (exact nn h)
  ·apply Ü rb;intro u;exact Z3 hT (show GG _ _ op=J r from h) hQ
  ·apply ŀ rb;intro u _;exact Z6 hT (show Z1 _ _ op=J r from h) hQ
 case flt x=>
  apply ŀ ra;intro t _;clear ra;cases q<;>try (exact nn h)
  ·apply Ü rb;intro u;exact Z5 hT (show Z0 _ _ op=J r from h) hQ
  ·apply ŀ rb;intro u _;exact Z4 hT (show MR _ _ op=J r from h) hQ
 case str x=>
  apply Ü ra;intro t;clear ra;cases q<;>try (exact nn h)
  ·apply Ü rb;intro u;clear rb;apply xr (qO (show tL op _=J r from h));intro h;exact Z8 h hQ
  ·apply Ü rb;intro u;clear rb;apply xr (qN (show tK op _=J r from h));intro h;exact aDM h hQ
 case tup l=>
  apply fF ra;intro a vs pa Ig;clear ra;cases q<;>try (exact nn h)
  ·apply Ü rb;intro u;clear rb;apply xr (qO (show tL op _=J r from h));intro h;exact aDR hN pa Ig h hQ
  ·apply fF rb;intro _ _ pb ŗ;clear rb;apply xr (qN (show tK op _=J r from h));intro h;exact aDQ hN pa Ig pb ŗ h hQ
 case lst l=>
  apply fF ra;intro a vs pa Ig;clear ra;cases q<;>try (exact nn h)
  ·apply Ü rb;intro u;clear rb;apply xr (qO (show tL op _=J r from h));intro h;exact aAA hN pa Ig h hQ
  ·apply fF rb;intro _ _ pb ŗ;clear rb;apply xr (qN (show tK op _=J r from h));intro h;exact aDP hN pa Ig pb ŗ h hQ
end
noncomputable def mH (f:PV->PV->Option Bool):List PV->List PV->Option Bool
 |[],[]=>J Wu
 |a::l,b::m=>match f a b,mH f l m with
  |some x,J y=>J (x&&y)
  |_,_=>Ww
 |[],_::_=>J Wv
 |_::_,[]=>J Wv
def oD (f:Option (PV->PV->Option Bool)) (p q:PV):Option Bool:=match p with
 |.none=>(match q with|.none=>J Wu|_=>Ww)
 |.bool a=>(match q with|.bool b=>J (a==b)|_=>Ww)
 |.int a=>(match q with|.int b=>J (a==b)|_=>Ww)
 |.str a=>(match q with|.str b=>J (a==b)|_=>Ww)
 |.flt a=>(match q with|.flt b=>(if fw a b==J my then J Wu else Ww)|_=>Ww)
 |.tup a=>(match q with|.tup b=>(match f with|some f=>(if a.length==b.length then mH f a b else Ww)|none=>Ww)|_=>Ww)
 |.lst a=>(match q with|.lst b=>(match f with|some f=>(if a.length==b.length then mH f a b else J Wv)|none=>Ww)|_=>Ww)
 |_=>Ww
def Ċ:Nat->PV->PV->Option Bool
 |0=>oD Ww
 |n+1=>oD (J (Ċ n))
def eqP:Nat->Option (PV->PV->Option Bool)
 |0=>Ww
 |n+1=>J (Ċ n)
theorem tP (n:Nat):Ċ n=oD (eqP n):=by cases n<;>rfl
set_option tactic.hygienic true in
theorem i6{f:Option (PV->PV->Option Bool)}{p q:PV}{r:Bool}{C:PV->PV->Bool->Prop}(h:oD f p q=J r) (h0:C .none .none Wu) (h1:∀a b,C (.bool a) (.bool b) (a==b)) (h2:∀a b,C (.int a) (.int b) (a==b))
  (h3:∀a b,C (.str a) (.str b) (a==b)) (h4:∀x y,(fw x y==J my)=Wu->C (.flt x) (.flt y) Wu) (h5:∀g l m,f=J g->l.length=m.length->mH g l m=J r->C (.tup l) (.tup m) r)
  (h6:∀g l m,f=J g->l.length=m.length->mH g l m=J r->C (.lst l) (.lst m) r) (h7:∀l m,l.length≠m.length->C (.lst l) (.lst m) Wv):C p q r:= by
 cases p<;>try (exact nn h)
 case none=>
  cases q<;>try (exact nn h)
  exact sm h▸h0
 case bool=>
  cases q<;>try (exact nn h)
  exact sm h▸h1 _ _
 case int=>
  cases q<;>try (exact nn h)
  exact sm h▸h2 _ _
 case str=>
  cases q<;>try (exact nn h)
  exact sm h▸h3 _ _
 case flt=>
  cases q<;>try (exact nn h)
  exact sm (aZ h).2▸h4 _ _ (aZ h).1
 case tup=>
  cases q<;>try (exact nn h)
  cases f with
  |none=>exact nn h
  |some g=>exact h5 g _ _ rfl (aq (aZ h).1) (aZ h).2
 case lst l=>
  cases q<;>try (exact nn h)
  rename_i m;cases f with
  |none=>exact nn h
  |some g=>
   have h:(if l.length==m.length then mH g l m else J Wv)=J r:=h
   by_cases hl:l.length=m.length
   ·rw[if_pos (beq_iff_eq.mpr hl)] at h;exact h6 g _ _ rfl hl h
   ·rw[if_neg (λq=>hl (aq q))] at h;exact sm h▸h7 _ _ hl
noncomputable def A1 (f:PV->Option Bool):List PV->Option Bool
 |[]=>J Wv
 |a::l=>match f a,A1 f l with
  |some x,J y=>J (x||y)
  |_,_=>Ww
def inF (p q:PV):Option Bool:=match q with
 |.tup l=>if l.all PV.scalar then A1 (λy=>Ċ 0 y p) l else Ww
 |_=>Ww
noncomputable def aDS (p q:PV):Option Bool:=match q with
 |.str x=>(match p with|.str y=>J (!(!(ul x y 0 x.length 1).isEmpty))|_=>Ww)
 |.dcts l=>(match p with|.str k=>J (!(l.lookup k).isSome)|_=>Ww)
 |_=>Ww
noncomputable def MX (f:Int->Int->Bool) (g:UInt64->UInt64->Bool) (p q:PV):Option Bool:=match p with
 |.int a=>(match q with|.int b=>J (f a b)|_=>Ww)
 |.flt a=>(match q with|.flt b=>J (g a b)|_=>Ww)
 |_=>Ww
noncomputable def isF (p q:PV):Option Bool:=match p with
 |.bool a=>(match q with|.bool b=>J (a==b)|_=>Ww)
 |.none=>(match q with|.none=>J Wu|_=>Ww)
 |.int _=>(match q with|.none=>J Wv|_=>Ww)
 |_=>Ww
noncomputable def aDT (p q:PV):Option Bool:=match p with
 |.bool a=>(match q with|.bool b=>J (!(a==b))|_=>Ww)
 |_=>Ww
def aAB (p q:PV):Option Bool:=match p with
 |.flt a=>(match q with|.flt b=>J (fw a b==J my)|q=>Ċ 3 (.flt a) q)
 |p=>Ċ 3 p q
def mI (op:Cs) (p q:PV):Option Bool:=match op with
 |.Is=>isF p q
 |.IsNot=>aDT p q
 |.Eq=>aAB p q
 |.NotEq=>(Ċ 3 p q).map (!·)
 |.Lt=>MX (λa b=>decide (a<b)) (λa b=>fw a b==J Ai) p q
 |.LtE=>MX (λa b=>decide (a<=b)) (λa b=>fw a b==J Ai||fw a b==J my) p q
 |.Gt=>MX (λa b=>decide (a>b)) (λa b=>fw a b==J Aj) p q
 |.GtE=>MX (λa b=>decide (a>=b)) (λa b=>fw a b==J Aj||fw a b==J my) p q
 |.In=>inF p q
 |.NotIn=>aDS p q
section
variable{h:ju}{N:Ap}
theorem GH (h:zy a=zy b):a=b:=by cases h;rfl
theorem GI (h:J ({cls:=c,data:=.seq x n}:Obj)=J {cls:=c,data:=.seq y m}):x=y:=by cases h;rfl
theorem MY (a:RV h N v (.tup p)) (b:RV h N v (.tup q)):∃vs,Í h N vs p/\Í h N vs q:= by
 obtain⟨x,vs,rfl,_,⟨n,e1⟩,r1⟩:=a.inv;obtain⟨y,us,e,_,⟨m,e2⟩,r2⟩:=b.inv;rw[GH e,e2] at e1;have e:us=vs:=congrArg DL (GI e1);exact(Ö vs r1 (e▸r2))
theorem o4 (a:RV h N v (.lst p)) (b:RV h N v (.lst q)):∃vs,Í h N vs p/\Í h N vs q:= by
 obtain⟨x,vs,rfl,_,⟨n,e1⟩,r1⟩:=a.inv;obtain⟨y,us,e,_,⟨m,e2⟩,r2⟩:=b.inv;rw[GH e,e2] at e1;have e:us=vs:=congrArg DL (GI e1);exact(Ö vs r1 (e▸r2))
theorem MZ (p:RV h N v (.int a)) (q:RV h N v (.int b)):a=b:= by
 refine xe p.inv λt bc=>?_;subst bc;refine xe q.inv λu e=>?_;cases e;rfl
theorem M0 (p:RV h N v (.str a)) (q:RV h N v (.str b)):a=b:= by
 refine xe p.inv λt bc=>?_;subst bc;refine xe q.inv λu e=>?_;cases e;rfl
theorem IJ (p:RV h N v (.bool a)) (q:RV h N v (.bool b)):a=b:= by
 have e:=p.inv.symm.trans q.inv;cases e;rfl
theorem xE (h:mH f (a::l) (b::m)=J r):∃x y,f a b=J x/\mH f l m=J y/\(x&&y)=r:= by
 have h:(match f a b,mH f l m with|some x,J y=>J (x&&y)|_,_=>Ww)=J r:=h;revert h;cases f a b with
 |none=>exact nn
 |some x=>cases mH f l m with
  |none=>exact nn
  |some y=>exact λh=>(cA x y rfl rfl (sm h))
theorem tQ (hf:∀(v:aj) (p q:PV) (b:Bool),RV h N v p->RV h N v q->f p q=J b->b=Wu):∀(ps qs:List PV) (vs:List aj) (b:Bool),Í h N vs ps->Í h N vs qs->mH f ps qs=J b->b=Wu:= by
 intro ps
 induction ps with
 |nil=>
  intro qs vs b r1 r2 e;cases r1;cases r2;exact(sm e).symm
 |cons p ps ih=>
  intro qs vs b r1 r2 e;cases r1 with
  |cons a r1=>cases r2 with
   |cons c r2=>
    apply DK (xE e);intro x y hx hy;refine O (hf _ _ _ _ a c hx) (O (ih _ _ _ r1 r2 hy) ?_);rfl
theorem A2 (n:Nat):∀(v:aj) (p q:PV) (b:Bool),RV h N v p->RV h N v q->Ċ n p q=J b->b=Wu:= by
 induction n using Nat.strongRecOn with
 |ind n ih=>
  intro v p q b r1 r2 e;rw[tP] at e;have up:∀{g:PV->PV->Option Bool},eqP n=J g->∃k,k<n/\g=Ċ k:=λ{g} hg=>by
   cases n with
   |zero=>exact nn hg
   |succ n=>exact(Ö n (dg n) ((sm hg).symm))
  refine i6 (C:=λp q b=>RV h N v p->RV h N v q->b=Wu) e ?_ ?_ ?_ ?_ ?_ ?_ ?_ ?_ r1 r2
  ·exact λ_ _=>rfl
  ·exact λa b p q=>beq_iff_eq.mpr (IJ p q)
  ·exact λa b p q=>beq_iff_eq.mpr (MZ p q)
  ·exact λa b p q=>beq_iff_eq.mpr (M0 p q)
  ·exact λ_ _ _ _ _=>rfl
  ·intro g l m hg _ h5 p q;refine Å (up hg) λk hk bc=>?_;subst bc;refine Å (MY p q) λvs a b=>?_;exact tQ (ih k hk) _ _ _ _ a b h5
  ·intro g l m hg _ h5 p q;refine Å (up hg) λk hk bc=>?_;subst bc;refine Å (o4 p q) λvs a b=>?_;exact tQ (ih k hk) _ _ _ _ a b h5
  ·intro l m hl p q;refine Å (o4 p q) λvs a b=>?_;exact absurd (a.length.symm.trans b.length) hl
end
theorem Ê.in1 (r:Ê A (k+1)):Ê A.in1 k:=⟨r.hh,by have:=r.depth;dsimp only[um];exact ä (.y (.A .q .r) (.N 900)) [.y (.A .q (.A .r .n1)) (.N 900)] this,by have:=r.units;dsimp only[un];exact ä (.y (.A .kl (.M .n8 .r)) (.N 9000)) [.y (.A .q (.M .n8 (.A .r .n1))) (.N 9000)] this⟩
def Ú (h:ju):Prop:=∃mc,h.Ns cStatics mc/\mc sharingNotToldKey=Ww
theorem Ú.keeps (x:Ú h) (k:∀b o,h.get? b=J o->h'.get? b=J o):Ú h':=let ⟨mc,a,b⟩:=x;⟨mc,a.keeps k,b⟩
theorem nX (Fp:Ú s.heap) (h:Q Wv s):wpAny M A (sharingNotTold t) Q E s:= by
 refine Å Fp λmc hn hm=>?_;clear Fp;unfold sharingNotTold;refine bh (wpAny_nsGet hn ?_);exact O hm (cy h)
open SeqAt in
theorem tR (Fp:Ú s.heap) (ht:t≠0) (hu:u≠0) (he:(fw x y==J my)=Wu):EqAt A s (.float x t) (.float y u) Wu:= by
 intro Pg W0 E Q h;unfold eqBool;refine wpAny_holding ?_;have tail:wpAny (model Pg W0) A (do truthOfDropped (<-richCompare .Eq (.float x t) (.float y u))) Q E s:=
  bh (tv (Q:=λv s'=>wpAny (model Pg W0) A (truthOfDropped v) Q E s') (wpAny_truthy_bool (by exact O he h)))
 by_cases hb:(om x t==om y u)=Wu
 ·exact O (if_pos hb) (bh (wpAny_rule (cy h)))
 ·refine O (if_neg hb) (bh ?_);have hz:(t==0||u==0)=Wv:=by simp[ht,hu]
  show wpAny (model Pg W0) A (Bo (x==y&&!Float64.isNaN x) t u) _ E s;unfold Bo;refine O hz ?_
  dsimp only[bw,if_false]
  have aX:∀b:Bool,wpAny (model Pg W0) A (if b=Wu then pure Wu else(do truthOfDropped (<-richCompare .Eq (.float x t) (.float y u)))) Q E s:= by
   intro b;cases b with
   |true=>exact cy h
   |false=>exact tail
  by_cases Tb:(t==u)=Wu
  ·exact O (if_pos Tb) (cy (aX Wu))
  ·refine O (if_neg Tb) ?_
   by_cases Ps:(!(x==y&&!Float64.isNaN x))=Wu
   ·exact O (if_pos Ps) (cy (aX Wv))
   ·refine O (if_neg Ps) (bh (nX Fp ?_));simp only[bw,if_false];refine bh (nX Fp ?_);simp only[bw,if_false];exact bh (wpAny_rule (bh (wpAny_askSetting (cy (aX _)))))
theorem Ò.isTuple (x:Ò h a À):h.IsTuple a À:=let ⟨n,e⟩:=x;(gQ _ e rfl ⟨n,rfl⟩)
theorem A3:∀{m:List PV}{b:Bool},l.length=m.length->mH f l m=J b->
  ∃e:Nat->Bool,(∀j p q,l[j]?=J p->m[j]?=J q->f p q=J (e j))/\b=(cv l.length).all e:= by
 induction l with
 |nil=>
  intro m b hl h;cases m with
  |nil=>exact(Ö (λ_=>Wu) (λj p q hp=>nn hp) ((sm h).symm))
  |cons=>cases hl
 |cons a l ih=>
  intro m b hl h;cases m with
  |nil=>cases hl
  |cons c m=>
   apply DK (xE h);intro x y hx hy;refine Å (ih (nw hl) hy) λe h1 h2=>?_;refine(Ö (λj=>Nat.rec x (λj _=>e j) j) (λj p q hp hq=>?_) ?_)
   ·cases j with
    |zero=>exact sm hp▸sm hq▸hx
    |succ j=>exact h1 j p q hp hq
   ·refine O h2 (O ci (O oa (O List.all_cons (O List.all_map ?_))));rfl
section
open SeqAt
variable{s:ak}{N:Ap}
theorem o5{f:PV->PV->Option Bool}{B:dj}(hf:∀(v u:aj) (p q:PV) (b:Bool),RV s.heap N v p->RV s.heap N u q->f p q=J b->EqAt B s v u b){vs us:List aj}{l m:List PV}{e:Nat->Bool}(ra:Í s.heap N vs l) (rc:Í s.heap N us m)
  (h1:∀j p q,l[j]?=J p->m[j]?=J q->f p q=J (e j)) (j:Nat) (h3:j<vs.toArray.size) (h4:j<us.toArray.size):EqAt B s vs.toArray[j] us.toArray[j] (e j):= by
 refine Å (ra.get (bf (ra.length▸h3:j<l.length))) λv' Jk Ih=>?_;refine Å (rc.get (bf (rc.length▸h4:j<m.length))) λu' Ua ru'=>?_;have e1:vs.toArray[j]=v':=(dw.mp Jk).2;have e2:us.toArray[j]=u':=(dw.mp Ua).2;exact O e1 (O e2 (hf _ _ _ _ _ Ih ru' (h1 j _ _ (bf _) (bf _))))
theorem UI{e:Nat->Bool}{vs us:List aj}{l m:List PV}(l1:vs.length=l.length) (l2:us.length=m.length) (hl:l.length=m.length):
  ((cv (min vs.toArray.size us.toArray.size)).all e&&vs.toArray.size==us.toArray.size)=(cv l.length).all e:= by
 simp[l1,l2,hl]
theorem M1{f:PV->PV->Option Bool}{A:dj}(hu:A.units<cLine) (hf:∀(v u:aj) (p q:PV) (b:Bool),RV s.heap N v p->RV s.heap N u q->f p q=J b->EqAt A.in1 s v u b){a c:fy}{vs us:List aj}{l m:List PV}{b:Bool}
  (pa:Ò s.heap a vs.toArray) (ra:Í s.heap N vs l) (pc:Ò s.heap c us.toArray) (rc:Í s.heap N us m) (hl:l.length=m.length) (h:mH f l m=J b):RcAt A s (.ref a) (.ref c) b/\RcNeAt A s (.ref a) (.ref c) (!b):= by
 apply aDD (A3 hl h);intro e h1;exact aFZ (UI ra.length rc.length hl) ⟨RcAt.tuples pa.isTuple pc.isTuple hu (o5 hf ra rc h1),RcNeAt.tuples pa.isTuple pc.isTuple hu (o5 hf ra rc h1)⟩
theorem M2{f:PV->PV->Option Bool}{A:dj}(hu:A.units<cLine) (hf:∀(v u:aj) (p q:PV) (b:Bool),RV s.heap N v p->RV s.heap N u q->f p q=J b->EqAt A.in1 s v u b){a c:fy}{vs us:List aj}{l m:List PV}{b:Bool}
  (pa:s.heap.PlainList a vs.toArray) (ra:Í s.heap N vs l) (pc:s.heap.PlainList c us.toArray) (rc:Í s.heap N us m) (hl:l.length=m.length) (h:mH f l m=J b):RcAt A s (.ref a) (.ref c) b/\RcNeAt A s (.ref a) (.ref c) (!b):= by
 apply aDD (A3 hl h);intro e h1;have hs:vs.toArray.size=us.toArray.size:=ra.length.trans (hl.trans rc.length.symm);exact aFZ ra.length ⟨RcAt.lists pa.isList pc.isList hs hu (o5 hf ra rc h1),RcNeAt.lists pa.isList pc.isList hs hu (o5 hf ra rc h1)⟩
theorem DT (hu:A.units<cLine) (pa:s.heap.PlainList a vs.toArray) (ra:Í s.heap N vs l) (pc:s.heap.PlainList c us.toArray) (rc:Í s.heap N us m) (hl:l.length≠m.length):
  RcAt A s (.ref a) (.ref c) Wv/\RcNeAt A s (.ref a) (.ref c) Wu:= by
 have hs:(vs.toArray.size != us.toArray.size)=Wu:=bne_iff_ne.mpr λq=>hl (ra.length.symm.trans (Bp q rc.length));exact⟨RcAt.lists_lengths pa.isList pc.isList hs hu,RcNeAt.lists_lengths pa.isList pc.isList hs hu⟩
theorem tS (Fp:Ú s.heap):∀(n:Nat){A:dj}{v u:aj}{p q:PV}{b:Bool},Ê A n->RV s.heap N v p->RV s.heap N u q->Ċ n p q=J b->EqAt A s v u b:= by
 intro n
 induction n with
 |zero=>
  intro A v u p q b R rv ru h;refine i6 (C:=λp q b=>RV s.heap N v p->RV s.heap N u q->EqAt A s v u b) (show oD Ww p q=J b from h) ?_ ?_ ?_ ?_ ?_ (λ_ _ _ e=>nn e) (λ_ _ _ e=>nn e) ?_ rv ru
  ·exact λa b=>a.inv▸b.inv▸EqAt.same _
  ·exact λx y a b=>a.inv▸b.inv▸EqAt.bool_bool x y
  ·exact λx y a b=>by refine xe a.inv λ_ bc=>?_;subst bc;refine xe b.inv λ_ bc=>?_;subst bc;exact EqAt.int_int _ _ _ _
  ·exact λx y a b=>by refine xe a.inv λ_ bc=>?_;subst bc;refine xe b.inv λ_ bc=>?_;subst bc;exact(eqGives_str _ _ _ _).at _ _
  ·exact λx y e a b=>by refine Å a.inv λ_ bc h1=>?_;subst bc;refine Å b.inv λ_ bc h2=>?_;subst bc;exact tR Fp h1 h2 e
  ·intro l m hl a b;refine dK a.inv λ_ _ bc _ pa ra=>?_;subst bc;refine dK b.inv λ_ _ bc _ pb rb=>?_;subst bc;refine EqAt.of_refs (λe=>?_) (DT R.line pa ra pb rb hl).1;subst e;refine Å (o4 a b) λvs x y=>?_;exact hl (x.length.symm.trans y.length)
 |succ n ih=>
  intro A v u p q b R rv ru h;have hf:∀(v u:aj) (p q:PV) (b:Bool),RV s.heap N v p->RV s.heap N u q->Ċ n p q=J b->EqAt A.in1 s v u b:=λ_ _ _ _ _ a b e=>ih R.in1 a b e;refine i6 (C:=λp q b=>RV s.heap N v p->RV s.heap N u q->Ċ (n+1) p q=J b->EqAt A s v u b) (show oD (J (Ċ n)) p q=J b from h) ?_ ?_ ?_ ?_ ?_ ?_ ?_ ?_ rv ru h
  ·exact λa b _=>a.inv▸b.inv▸EqAt.same _
  ·exact λx y a b _=>a.inv▸b.inv▸EqAt.bool_bool x y
  ·exact λx y a b _=>by refine xe a.inv λ_ bc=>?_;subst bc;refine xe b.inv λ_ bc=>?_;subst bc;exact EqAt.int_int _ _ _ _
  ·exact λx y a b _=>by refine xe a.inv λ_ bc=>?_;subst bc;refine xe b.inv λ_ bc=>?_;subst bc;exact(eqGives_str _ _ _ _).at _ _
  ·exact λx y e a b _=>by refine Å a.inv λ_ bc h1=>?_;subst bc;refine Å b.inv λ_ bc h2=>?_;subst bc;exact tR Fp h1 h2 e
  ·intro g l m hg hl h5 a b h;cases hg;refine dK a.inv λx _ bc _ pa ra=>?_;subst bc;refine dK b.inv λy _ bc _ pb rb=>?_;subst bc
   by_cases e:x=y
   ·subst e;exact O (A2 _ _ _ _ _ a b h) (EqAt.same _)
   ·exact EqAt.of_refs e (M1 R.line hf pa ra pb rb hl h5).1
  ·intro g l m hg hl h5 a b h;cases hg;refine dK a.inv λx _ bc _ pa ra=>?_;subst bc;refine dK b.inv λy _ bc _ pb rb=>?_;subst bc
   by_cases e:x=y
   ·subst e;exact O (A2 _ _ _ _ _ a b h) (EqAt.same _)
   ·exact EqAt.of_refs e (M2 R.line hf pa ra pb rb hl h5).1
  ·intro l m hl a b h;refine dK a.inv λx _ bc _ pa ra=>?_;subst bc;refine dK b.inv λy _ bc _ pb rb=>?_;subst bc;refine EqAt.of_refs (λe=>?_) (DT R.line pa ra pb rb hl).1;subst e;refine Å (o4 a b) λvs x y=>?_;exact hl (x.length.symm.trans y.length)
end
section
open SeqAt
variable{s:ak}{N:Ap}
theorem aAC (h:(fw x y==J my)=Wu):RcAt A s (.float x t) (.float y u) Wu/\RcNeAt A s (.float x t) (.float y u) Wv:=
 ⟨λPg W0 E Q hq=>tv (by exact O h hq),λPg W0 E Q hq=>Et (by refine O (aq h) ?_;exact hq)⟩
theorem tT (Fp:Ú s.heap) (n:Nat) (R:Ê A n) (rv:RT s.heap N v p) (ru:RT s.heap N u q) (h:Ċ n p q=J b):RcAt A s v u b/\RcNeAt A s v u (!b):= by
 have up:∀{g:PV->PV->Option Bool},eqP n=J g->∀(v u:aj) (p q:PV) (b:Bool),RV s.heap N v p->RV s.heap N u q->g p q=J b->EqAt A.in1 s v u b:=λ{g} hg=>by
  cases n with
  |zero=>exact nn hg
  |succ n=>cases hg;exact λ_ _ _ _ _ a b e=>tS Fp n R.in1 a b e
 rw[tP] at h;refine i6 (C:=λp q b=>RT s.heap N v p->RT s.heap N u q->RcAt A s v u b/\RcNeAt A s v u (!b)) h ?_ ?_ ?_ ?_ ?_ ?_ ?_ ?_ rv ru
 ·exact λa b=>by have e:=a.inv;cases e;have e:=b.inv;cases e;exact⟨RcAt.none_none,RcNeAt.none_none⟩
 ·exact λx y a b=>a.inv▸b.inv▸⟨RcAt.bool_bool _ _,RcNeAt.bool_bool _ _⟩
 ·exact λx y a b=>by apply Ü a.inv;intro _;apply Ü b.inv;intro _;exact⟨RcAt.int_int _ _ _ _,RcNeAt.int_int _ _ _ _⟩
 ·exact λx y a b=>by apply Ü a.inv;intro _;apply Ü b.inv;intro _;exact⟨RcAt.str_str _ _ _ _,RcNeAt.str_str _ _ _ _⟩
 ·exact λx y e a b=>by apply ŀ a.inv;intro _ _;apply ŀ b.inv;intro _ _;exact aAC e
 ·intro g l m hg hl h5 a b;apply fF a.inv;intro x _ pa ra;apply fF b.inv;intro y _ pb rb;exact M1 R.line (up hg) pa ra pb rb hl h5
 ·intro g l m hg hl h5 a b;apply fF a.inv;intro x _ pa ra;apply fF b.inv;intro y _ pb rb;exact M2 R.line (up hg) pa ra pb rb hl h5
 ·intro l m hl a b;apply fF a.inv;intro x _ pa ra;apply fF b.inv;intro y _ pb rb;exact DT R.line pa ra pb rb hl
noncomputable def M3:aj->Option PV
 |.none=>J PV.none
 |.bool b=>J (PV.bool b)
 |.int n _=>J (.int n)
 |.float x _=>J (.flt x)
 |.str x _=>J (.str x)
 |_=>ol
theorem RV.scal (r:Mine.Internal.RV h N v p) (hs:p.scalar=Wu):M3 v=J p:= by
 cases r<;>first|rfl|exact nf hs
theorem RV.unscal (r:Mine.Internal.RV h N v p) (hs:p.scalar=Wv):M3 v=ol:= by
 cases r<;>first|rfl|cases hs
theorem RV.same (rp:RV h N v p) (rq:RV h N v q) (hs:p.scalar=Wu):p=q:= by
 cases e:q.scalar with
 |true=>exact sm ((rp.scal hs).symm.trans (rq.scal e))
 |false=>exact nn ((rq.unscal e).symm.trans (rp.scal hs))
open Classical in
def Ŷ (h:ju) (N:Ap) (x:PV) (y:aj):Bool:=decide (∃p,p.scalar=Wu/\RV h N y p/\Ċ 0 p x=J Wu)
open Classical in
theorem aAD (rp:RV s.heap N y p) (hs:p.scalar=Wu) (h:Ċ 0 p x=J b):Ŷ s.heap N x y=b:= by
 unfold Ŷ;cases b with
 |true=>exact decide_eq_true (gQ p hs rp h)
 |false=>
  refine decide_eq_false ?_
  rintro ⟨q,hq,rq,hh⟩
  have:=RV.same rp rq hs;subst this;rw[h] at hh;cases hh
theorem IK (h:A1 f (a::l)=J r):∃x y,f a=J x/\A1 f l=J y/\(x||y)=r:= by
 have h:(match f a,A1 f l with|some x,J y=>J (x||y)|_,_=>Ww)=J r:=h;revert h;cases f a with
 |none=>exact nn
 |some x=>cases A1 f l with
  |none=>exact nn
  |some y=>exact λh=>(cA x y rfl rfl (sm h))
theorem UJ:∀{vs:List aj}{b:Bool},Í s.heap N vs l->l.all PV.scalar=Wu->A1 (λy=>Ċ 0 y x) l=J b->
  (∀y∈vs,∃p,RV s.heap N y p/\Ċ 0 p x=J (Ŷ s.heap N x y))/\vs.any (Ŷ s.heap N x)=b:= by
 induction l with
 |nil=>
  intro vs b r _ h;cases r;exact⟨λy hy=>(nomatch hy),sm h⟩
 |cons p l ih=>
  intro vs b r hs h;cases r with
  |cons a r=>
   have hs:=aA hs;apply DK (IK h);intro y z hy hz;refine xa (ih r hs.2 hz) λh1 h2=>?_;have h3:=aAD a hs.1 hy;refine⟨λu hu=>?_,by exact O List.any_cons (O h3 (O h2 rfl))⟩;rcases dL.mp hu with rfl|hu
   ·exact(Ö _ a (h3▸hy))
   ·exact h1 u hu
end
section
variable{A:dj}{E:Vs}{s:ak}{N:Ap}
theorem ņ.lookup{K:Type}[DecidableEq K] {k:K}{Fk:List (K×aj)}{l:List (K×SV)}(r:ņ Fk l):(valueAt Fk k=Ww/\l.lookup k=Ww)\/∃v x,valueAt Fk k=J v/\l.lookup k=J x/\Ÿ v x:= by
 induction r with
 |nil=>exact .inl ⟨rfl,rfl⟩
 |@cons c v a es l hv r ih=>
  by_cases hk:c=k
  ·subst hk;exact .inr (cA v a (by simp[valueAt]) (by simp) hv)
  ·have h1:valueAt ((c,v)::es) k=valueAt es k:=by simp[valueAt,hk]
   have h2:Ak k ((c,a)::l)=Ak k l:= by
    exact O dk (O (beq_false_of_ne (qm hk)) rfl)
   exact O h1 (O h2 ih)
theorem M4 (h:Ċ 0 c p=J r):p.scalar=Wu:= by
 cases c<;>try (exact nn h)
 all_goals (cases p<;>first|exact nn h|rfl)
theorem RT.sc (ra:RT s.heap N a p) (h:p.scalar=Wu):RV s.heap N a p:= by
 cases ra with
 |none=>exact .none
 |bool b=>exact .bool b
 |int n t=>exact .int n t
 |flt x t ht=>exact .flt x t ht
 |str x t=>exact .str x t
 |tup=>exact nf h
 |lst=>exact nf h
 |dcti=>exact nf h
 |dcts=>exact nf h
theorem DU (h:Ċ 0 c p=J r) (ra:RT s.heap N a p):RV s.heap N a p:=ra.sc (M4 h)
theorem UK (f:aj->Bool) (l:List aj):l.toArray.any f=l.any f:=by simp
section
variable{a b:aj}{p q:PV}{r:Bool}{Q:Vs}
theorem GJ (x y:Bool):(Ej x==Ej y)=(x==y):=by cases x<;>cases y<;>rfl
set_option tactic.hygienic true in
theorem M5 (ra:RT s.heap N a p) (rb:RT s.heap N b q) (h:isF p q=J r) (hQ:Q (.bool r) s):wpAny (model Pg W0) A (compareOp .Is a b) Q E s:= by
 cases p<;>try (exact nn h)
 case bool x=>
  cases q<;>try (exact nn h)
  have e:=ra.inv;cases e;have e:=rb.inv;cases e;exact wpAny_is_plain rfl (by exact O (GJ ..) (sm h▸hQ))
 case none=>
  cases q<;>try (exact nn h)
  have e:=ra.inv;cases e;have e:=rb.inv;cases e;exact wpAny_is_plain rfl (show Q (.bool Wu) s from sm h▸hQ)
 case int n=>
  cases q<;>try (exact nn h)
  apply Ü ra.inv;intro t;have e:=rb.inv;cases e;exact wpAny_is_plain rfl (show Q (.bool Wv) s from sm h▸hQ)
theorem IL (ra:RT s.heap N a p) (rb:RT s.heap N b q) (h:aDT p q=J r) (hQ:Q (.bool r) s):wpAny (model Pg W0) A (compareOp .IsNot a b) Q E s:= by
 cases p<;>try (exact nn h)
 cases q<;>try (exact nn h)
 have e:=ra.inv;cases e;have e:=rb.inv;cases e;exact wpAny_isNot_plain rfl (by exact O (GJ ..) (sm h▸hQ))
theorem sR{C:Prop}(ra:RT s.heap N a p) (rb:RT s.heap N b q) (h:MX f g p q=J r) (h1:∀x y t u,a=.int x t->b=.int y u->f x y=r->C) (h2:∀x y t u,a=.float x t->b=.float y u->g x y=r->C):C:= by
 cases p<;>try (exact nn h)
 all_goals cases q<;>try (exact nn h)
 ·refine xe ra.inv λt e=>?_;refine xe rb.inv λu e'=>?_;exact h1 _ _ t u e e' (sm h)
 ·refine Å ra.inv λt e _=>?_;refine Å rb.inv λu e' _=>?_;exact h2 _ _ t u e e' (sm h)
theorem aAE (Fp:Ú s.heap) (R:Ê B 0) (ra:RT s.heap N a p) (rs:Í s.heap N vs l) (hs:l.all PV.scalar=Wu) (h:A1 (λy=>Ċ 0 y p) l=J r):
  (∀y,y∈vs.toArray->SeqAt.EqAt B s y a (Ŷ s.heap N p y))/\vs.toArray.any (Ŷ s.heap N p)=r:= by
 refine xa (UJ rs hs h) λh1 h2=>?_;refine⟨λy hy=>?_,(UK _ _).trans h2⟩;refine Å (h1 y (List.mem_toArray.mp hy)) λc rc hc=>?_;exact tS Fp 0 R rc (DU hc ra) hc
theorem IM{k:Str}{Fk:List (Str×aj)}{l:List (Str×SV)}(r:ņ Fk l):(valueAt Fk k).isSome=(l.lookup k).isSome:= by
 rcases r.lookup (k:=k) with⟨h1,h2⟩|⟨v,y,h1,h2,_⟩<;>refine O h1 (O h2 ?_)<;>rfl
set_option tactic.hygienic true in
theorem M6 (R:Ê A 1) (Fp:Ú s.heap) (ra:RT s.heap N a p) (rb:RT s.heap N b q) (h:inF p q=J r) (hQ:∀s',Pure s s'->Q (.bool r) s'):wpAny (model Pg W0) A (compareOp .In a b) Q E s:= by
 cases q<;>try (exact nn h)
 apply fF rb.inv;intro _ _ pb rs;refine xa (aAE Fp R.in1 ra rs (aZ h).1 (aZ h).2) λh1 h2=>?_;exact SeqAt.in_tupleAt (Ŷ s.heap N p) pb.isTuple h1 (h2▸hQ _ (Õ.refl _ _))
set_option tactic.hygienic true in
theorem IP (R:Ê A 1) (Fp:Ú s.heap) (ra:RT s.heap N a p) (rb:RT s.heap N b q) (h:aDS p q=J r) (hQ:∀s',Pure s s'->Q (.bool r) s'):wpAny (model Pg W0) A (compareOp .NotIn a b) Q E s:= by
 cases q<;>try (exact nn h)
 case str x=>
  cases p<;>try (exact nn h)
  refine xe ra.inv λt bc=>?_;subst bc;refine xe rb.inv λu bc=>?_;subst bc;exact P.notIn_str (sm h▸hQ _ (Õ.refl _ _))
 case dcts l=>
  cases p<;>try (exact nn h)
  refine xe ra.inv λt bc=>?_;subst bc;refine mK rb.inv λ_ bc Ml zt=>?_;refine Å zt λFk Nx Jv=>?_;clear zt;subst bc;exact wpAny_notIn_of (strKind_is Pg W0 _ t) Ml Nx.mapOf (by exact O (IM Jv) (sm h▸hQ _ (Pure.toks _)))
theorem UL (h:aAB p q=J r):Ċ 3 p q=J r\/∃x y,p=.flt x/\q=.flt y/\(fw x y==J my)=r:= by
 cases p<;>try (exact .inl h)
 cases q<;>try (exact .inl h)
 exact .inr (cA _ _ rfl rfl (sm h))
end
theorem xF (hk:3<=k) (R:Ê A k) (Fp:Ú s.heap) (ra:RT s.heap N a p) (rb:RT s.heap N b q) (h:mI op p q=J r)
  (hQ:∀s',Pure s s'->Q (.bool r) s'):wpAny (model Pg W0) A (compareOp op a b) Q E s:= by
 have R3:=R.le hk;have R1:=R3.le (show 1<=3 by decide);have hq:=hQ _ (Õ.refl _ _);cases op
 case Is=>exact M5 ra rb h hq
 case IsNot=>exact IL ra rb h hq
 case Eq=>
  rcases UL h with h|⟨x,y,rfl,rfl,rfl⟩
  ·exact(tT Fp 3 R3 ra rb h).1 Pg W0 E Q hq
  ·refine Å ra.inv λt bc _=>?_;subst bc;refine Å rb.inv λu bc _=>?_;subst bc;exact tv hq
 case NotEq=>
  refine Å (ce.mp h) λx hx bc=>?_;subst bc;exact(tT Fp 3 R3 ra rb hx).2 Pg W0 E Q hq
 case Lt=>exact sR ra rb h (λx y t u e e' o=>e▸e'▸P.lt_int (o▸hq)) (λx y t u e e' o=>e▸e'▸zb (o▸hq))
 case LtE=>exact sR ra rb h (λx y t u e e' o=>e▸e'▸P.le_int (o▸hq)) (λx y t u e e' o=>e▸e'▸Eu (o▸hq))
 case Gt=>exact sR ra rb h (λx y t u e e' o=>e▸e'▸P.gt_int (o▸hq)) (λx y t u e e' o=>e▸e'▸zc (o▸hq))
 case GtE=>exact sR ra rb h (λx y t u e e' o=>e▸e'▸P.ge_int (o▸hq)) (λx y t u e e' o=>e▸e'▸Ev (o▸hq))
 case In=>exact M6 R1 Fp ra rb h hQ
 case NotIn=>exact IP R1 Fp ra rb h hQ
end
theorem tU (h:Runs M Γ p t fs s e s'):s.heap.objs.size<=s'.heap.objs.size:= by
 induction h<;>(try simp only[ui,br,Aa] at*)<;>lia
theorem A4 (h:Returns M Γ p s r s'):s.heap.objs.size<=s'.heap.objs.size:=tU h
theorem IQ (h:Wakes M Γ p g r s res s'):s.heap.objs.size<=s'.heap.objs.size:= by
 delta Wakes at h
 split at h
 ·exact h.elim
 ·split at h
  ·obtain⟨Hf,aT,hr,_,_,rfl⟩:=h;exact(tU hr:(s.setGen g .running).heap.objs.size<=aT.heap.objs.size)
  all_goals (refine O h.2 ?_;exact ai _)
 ·obtain⟨Hf,aT,hr,_,_,rfl⟩:=h;exact(tU hr:(s.setGen g .running).heap.objs.size<=aT.heap.objs.size)
 all_goals (refine O h.2 ?_;exact ai _)
theorem aAF{α:Type}(M:Ew) (Γ:Ctx) (n:Nat) (t:Sem α):∀(Q:α->Pos->ak->Prop) (E:aj->Pos->ak->Prop) (p:Pos) (s:ak),n<=s.heap.objs.size->Sem.wp M Γ t Q E p s->
  Sem.wp M Γ t (λa p' s'=>n<=s'.heap.objs.size/\Q a p' s') (λe p' s'=>n<=s'.heap.objs.size/\E e p' s') p s:= by
 induction t with
 |pure a=>exact λQ E p s hn h=>⟨hn,h⟩
 |raise e=>exact λQ E p s hn h=>⟨hn,h⟩
 |unsupported|finish|register|yield|fork|await=>exact λQ E p s _ h=>h
 |rule _ k ih|«at» _ k ih|point _ k ih=>exact λQ E p s hn h=>ih () Q E _ s hn h
 |load a _ k ih=>exact λQ E p s hn ⟨o,ho,h⟩=>⟨o,ho,ih o Q E p s hn h⟩
 |update a _ f k ih=>exact λQ E p s hn h=>⟨h.1,ih () Q E p _ (by simpa only[Aa] using hn) h.2⟩
 |alloc o k ih=>exact λQ E p s hn h=>ih _ Q E p _ (by simp only[br];exact ä (.x .q (.A .r .n1)) [.x .q .r] hn) h
 |loadIfAlive a k ih=>exact λQ E p s hn h=>ih _ Q E p _ hn h
 |fresh k ih=>exact λQ E p s hn h=>ih _ Q E p _ hn h
 |ask k ih=>exact λQ E p s hn h=>ih _ Q E p _ hn h
 |os _ _ k ih=>exact λQ E p s hn h=>ih _ Q E p _ hn h
 |handled _ k ih=>exact λQ E p s hn h=>ih _ Q E p _ hn h
 |newGen _ k ih=>exact λQ E p s hn h=>ih _ Q E p _ hn h
 |stack k ih=>exact λQ E p s hn h=>ih _ Q E p _ hn h
 |thread k ih=>exact λQ E p s hn h=>ih _ Q E p _ hn h
 |choose Fx m k ih=>exact λQ E p s hn h=>⟨h.1,ih _ Q E p _ hn h.2⟩
 |call c hd _ _ k ih=>exact λQ E p s hn ⟨r,s',hr,h⟩=>⟨r,s',hr,ih r Q E p s' (aa hn (A4 hr)) h⟩
 |genState g k ih=>exact λQ E p s hn ⟨st,hs,h⟩=>⟨st,hs,ih _ Q E p s hn h⟩
 |resume g r _ k ih=>exact λQ E p s hn ⟨res,s',hw,h⟩=>⟨res,s',hw,ih res Q E p s' (aa hn (IQ hw)) h⟩
def Ĺ (s s':ak):Prop:=s.heap.objs.size<=s'.heap.objs.size/\s.toks<=s'.toks
theorem bD{α:Type}{t:Sem α}{Q:α->ak->Prop}
  (h:wpAny M A t (λa s'=>Ĺ s s'->Q a s') E s):wpAny M A t Q E s:= by
 have h1:wpAny M A t (λa s'=>s.heap.objs.size<=s'.heap.objs.size/\(Ĺ s s'->Q a s')) (λe s'=>s.heap.objs.size<=s'.heap.objs.size/\E e s') s:=
  λΓ p Ĩ=>aAF M Γ _ t _ _ p s (ai _) (h Γ p Ĩ)
 have h2:=wpAny_toks h1;exact lj h2 (λa s' x=>x.2.2 ⟨x.2.1,x.1⟩) (λe s' x=>x.2.2)
theorem Pure.mk' (k:∀b o,s.heap.get? b=J o->h.get? b=J o) (m:Ĺ s {s with heap:=h,toks:=t}):Pure s {s with heap:=h,toks:=t}:=
 Pure.of_heap k m.1 m.2
noncomputable def SV.pv:SV->PV
 |.i n=>.int n
 |.t x=>.str x
theorem Ÿ.rv (r:Ÿ v a):RV h N v a.pv:= by
 cases r with
 |i n t=>exact .int n t
 |t x t=>exact .str x t
noncomputable def Ś (k:Int) (n:Nat):Option Nat:=if -(2^62)<k/\k<2^62 then seqIndex? k n else Ww
def iT (p q:PV):Option PV:=match p with
 |.lst l=>(match q with|.int k=>(Ś k l.length).bind (l[·]?)|_=>Ww)
 |.tup l=>(match q with|.int k=>(Ś k l.length).bind (l[·]?)|_=>Ww)
 |.str x=>(match q with|.int k=>((Ś k x.length).bind (x.cps[·]?)).map λc=>.str ⟨#[c]⟩|_=>Ww)
 |.dcts l=>(match q with|.str k=>(l.lookup k).map SV.pv|_=>Ww)
 |_=>Ww
theorem A5 (h:seqIndex? k n=J j):(0<=k/\k<n/\j=k.toNat)\/(k<0/\0<=k+n/\j=(k+n).toNat):= by
 by_cases h0:k<0
 ·by_cases h1:0<=k+n
  ·rw[wj h0 h1] at h;cases h;exact .inr (ß h0 h1 rfl)
  ·rw[Ci ((Bq.mp h1))] at h;cases h
 ·by_cases h1:k<n
  ·rw[seqIndex_of ((dr.mp h0)) h1] at h;cases h;exact .inl (ß ((dr.mp h0)) h1 rfl)
  ·rw[Cj ((dr.mp h1))] at h;cases h
theorem A6 (h:Ś k n=J j):-(2^62)<k/\k<2^62/\seqIndex? k n=J j:= by
 delta Ś at h
 split at h
 ·rename_i hc;exact(ß hc.1 hc.2 h)
 ·cases h
section
variable{A:dj}{E:Vs}{s:ak}{N:Ap}
theorem M7 (hl:s.heap.PlainList l À) (h1:-(2^62)<k) (h2:k<2^62) (hj:seqIndex? k À.size=J j) (hx:À[j]?=J x)
  (h:Q x s):wpAny (model Pg W0) A (getItem (.ref l) (.int k t)) Q E s:= by
 rcases A5 hj with⟨h0,h3,rfl⟩|⟨h0,h3,rfl⟩
 ·exact wpAny_getItem_list hl.isList h0 (ÿ (.t .a .kp) [.t .a (.P .n2 62)] h2) hx h
 ·exact wpAny_getItem_list_neg hl.isList h0 (ì [_] [_] (.l (.G .q) .a) [.l .n0 (.A .a .q)] h3) (ÿ (.l (.G .kp) .a) [.t (.G (.P .n2 62)) .a] h1) hx h
theorem M8 (ra:Í s.heap N vs l) (h:(Ś k l.length).bind (l[·]?)=J r):∃j v,-(2^62)<k/\k<2^62/\seqIndex? k vs.toArray.size=J j/\vs.toArray[j]?=J v/\RV s.heap N v r:= by
 refine Å (co.mp h) λj hj hl=>?_;refine Ē (A6 hj) λh1 h2 h3=>?_;refine Å (ra.get hl) λv hv rv=>?_;exact(cM j v h1 h2 (show seqIndex? k vs.length=J j from ra.length.symm▸h3) ⟨((mm).trans hv),rv⟩)
theorem M9{K:Type}[DecidableEq K] {k:K}{Fk:List (K×aj)}{l:List (K×SV)}(Jv:ņ Fk l) (h:(l.lookup k).map SV.pv=J r):∃v,valueAt Fk k=J v/\RV s.heap N v r:= by
 apply sH (ce.mp h);intro y hy;rcases Jv.lookup (k:=k) with⟨_,h2⟩|⟨v,z,h1,h2,hv⟩
 ·exact nn (h2.symm.trans hy)
 ·exact(Ö v h1 (sm (h2.symm.trans hy)▸hv.rv))
theorem aAG{p:PV}{v:aj}{s':ak}(h:∀x,p≠.str x):(∃x,p=.str x)->∀y t,v=.str y t->t≠0/\t<s'.toks:=fun⟨x,e⟩=>absurd e (h x)
theorem IR{a b:aj}{p q r:PV}{Q:Vs}{k:Nat}(R:Ê A k) (ra:RT s.heap N a p) (rb:RT s.heap N b q) (h:iT p q=J r)
  (hT:0<s.toks) (hQ:∀v s',Pure s s'->RV s'.heap N v r->((∃x,p=.str x)->∀y t,v=.str y t->t≠0/\t<s'.toks)->Q v s'):wpAny (model Pg W0) A (getItem a b) Q E s:= by
 clear R;have ra:=ra.inv;have rb:=rb.inv;cases p<;>try (exact nn h)
 case lst l=>
  cases q<;>try (exact nn h)
  refine xe rb λt bc=>?_;subst bc;clear rb;obtain⟨_,vs,rfl,pa,ra⟩:=ra;obtain⟨j,v,h1,h2,h3,hv,rv⟩:=M8 ra h;exact M7 pa h1 h2 h3 hv (hQ _ _ (Õ.refl _ _) rv (aAG λ_ e=>nomatch e))
 case tup l=>
  cases q<;>try (exact nn h)
  obtain⟨t,rfl⟩:=rb;obtain⟨_,vs,rfl,pa,ra⟩:=ra;obtain⟨j,v,h1,h2,h3,hv,rv⟩:=M8 ra h;exact Br pa.isTuple (by clear h h3 ra rv hv pa;exact ÿ (.l (.G .kp) .a) [.t (.G (.P .n2 62)) .a] h1) (by clear h h3 ra rv hv pa;exact ÿ (.t .a .kp) [.t .a (.P .n2 62)] h2) h3 hv (hQ _ _ (Õ.refl _ _) rv (aAG λ_ e=>nomatch e))
 case str x=>
  cases q<;>try (exact nn h)
  obtain⟨t,rfl⟩:=rb;obtain⟨u,rfl⟩:=ra;obtain⟨c,hc,rfl⟩:=ce.mp h;obtain⟨j,hj,hl⟩:=co.mp hc;obtain⟨h1,h2,h3⟩:=A6 hj;exact P.getItem_str (by clear hQ h hc hj hl;simp;exact⟨ÿ (.l (.G (.N 9223372036854775808)) .a) [.t (.G (.P .n2 62)) .a] h1,ÿ (.t .a (.N 9223372036854775808)) [.t .a (.P .n2 62)] h2⟩) (by exact O h3 hl) (hQ _ _ (Pure.toks _) (.str _ _) (λ_ y t e=>by cases e;exact⟨iy hT,dg _⟩))
 case dcts l=>
  cases q<;>try (exact nn h)
  obtain⟨t,rfl⟩:=rb;obtain⟨_,rfl,Ml,Fk,Nx,Jv⟩:=ra;obtain⟨v,h1,rv⟩:=M9 Jv h;exact wpAny_getItem_of (strKind_is Pg W0 _ t) Nx.mapOf h1 (hQ _ _ (Pure.toks _) rv (aAG λ_ e=>nomatch e))
theorem zA (r:Í h N vs l) (ix:List Nat):Í h N (ix.filterMap (vs[·]?)) (ix.filterMap (l[·]?)):= by
 induction ix with
 |nil=>exact .nil
 |cons i ix ih=>
  simp only[iu];have hlen:=r.length
  by_cases hi:i<l.length
  ·refine Å (r.get (bf hi)) λv hv rv=>?_;exact O hv (O (bf hi) (.cons rv ih))
  ·exact O (oi (by exact ā (.x .q .r) [.z1 .q .s,.x .s .r] hlen (bp.mp hi))) (O (oi (by exact(bp.mp hi))) ih)
noncomputable def fN (lo hi st:Option Int) (n:Nat):List Nat:=sliceRange (sliceBounds lo hi st n).1 (sliceBounds lo hi st n).2.1 (sliceBounds lo hi st n).2.2
noncomputable def jY (lo hi st:Option Int) (n:Nat):List Nat:=lx lo hi (st.getD 1) n
def f8:PV->Option Int->Option Int->Option Int->Option PV
 |.lst l,lo,hi,st=>if l.length<=100000/\st≠J 0 then J (.lst ((fN lo hi st l.length).filterMap (l[·]?))) else Ww
 |.str x,lo,hi,st=>if st=Ww/\(jY lo hi Ww x.length).length<=100000 then
   J (.str (if (jY lo hi Ww x.length).length==x.length then x else⟨((jY lo hi Ww x.length).filterMap (x.cps[·]?)).toArray⟩)) else Ww
 |_,_,_,_=>Ww
inductive ã:aj->Option Int->Prop
 |none:ã .none Ww
 |int (i:Int) (t:Tok):ã (.int i t) (J i)
theorem ã.part (h:ã v o):IsPart v o:=by cases h<;>constructor
theorem ã.pv (h:ã v o):∃p:Option (Int×Tok),v=partValue p/\p.map (·.1)=o:= by
 cases h with
 |none=>exact(Ö ol rfl rfl)
 |int i t=>exact(Ö (J (i,t)) rfl rfl)
theorem UM{us:List aj}{n:Nat}{lo hi st:Option Int}(hn:us.length=n):slicePick us.toArray lo hi st=((fN lo hi st n).filterMap (us[·]?)).toArray:= by
 subst hn
 delta slicePick fN
 refine O (show(λi:Nat=>us.toArray[i]?)=λi=>us[i]? from funext λi=>by simp) ?_;rfl
theorem UN{l:List PV}{vl vu vs:aj}{a:fy}{us:List aj}{r:PV}{lo hi st:Option Int}{Q:Vs}{sl:fy}(hN:ď N s.heap) (pa:s.heap.PlainList a us.toArray) (ra:Í s.heap N us l) (hl:ã vl lo) (hu:ã vu hi) (hs:ã vs st) (Hy:s.heap.get? sl=J {cls:=.type "slice",data:=.fields #[vl,vu,vs]})
  (hc:l.length<=100000/\st≠J 0) (h:J (PV.lst ((fN lo hi st l.length).filterMap (l[·]?)))=J r) (hQ:∀v s',Pure s s'->Ď s s' N v r->Q v s'):wpAny (model Pg W0) A (getItem (.ref a) (.ref sl)) Q E s:=
 wpAny_getItem_list_slice pa.isList (gQ _ Hy rfl rfl) hl.part hu.part hs.part hc.2 (Z9 h hN (zA ra _) (UM ra.length) hQ) (aa (be ra.length) (aa hc.1 Κ))
theorem UO{x:Str}{t:Tok}{vl vu vs:aj}{r:PV}{lo hi st:Option Int}{Q:Vs}{sl:fy}(hl:ã vl lo) (hu:ã vu hi) (hs:ã vs st) (Hy:s.heap.get? sl=J {cls:=.type "slice",data:=.fields #[vl,vu,vs]})
  (hc:st=Ww/\(jY lo hi Ww x.length).length<=100000) (h:J (PV.str (if (jY lo hi Ww x.length).length==x.length then x else⟨((jY lo hi Ww x.length).filterMap (x.cps[·]?)).toArray⟩))=J r) (hQ:∀v s',Pure s s'->Ď s s' N v r->Q v s'):wpAny (model Pg W0) A (getItem (.str x t) (.ref sl)) Q E s:= by
 obtain⟨rfl,hc⟩:=hc;obtain⟨pl,rfl,el⟩:=hl.pv;obtain⟨pu,rfl,eu⟩:=hu.pv;obtain⟨ps,rfl,es⟩:=hs.pv;refine wpAny_getItem_str_slice (l:=pl) (u:=pu) (st:=ps) (gQ _ Hy rfl rfl) (by refine O es ?_;rfl) ?_
 delta sliceMade slicePicked
 refine O el (O eu (O es ?_))
 delta jY at h hc
 clear hl hu hs Hy el eu es;simp only[ma,beq_self_eq_true,Bool.true_and] at h hc⊢;split
 ·rename_i hh;rw[if_pos hh] at h;exact hQ _ _ (Õ.refl _ _) (Ŭ h rfl)
 ·rename_i hh;rw[if_neg hh] at h;exact⟨aa (aa (pd _ _) hc) Κ,hQ _ _ (Pure.toks _) (Ŭ h rfl)⟩
theorem A7{a vl vu vs:aj}{p r:PV}{lo hi st:Option Int}{Q:Vs}{sl:fy}(hT:0<s.toks) (hN:ď N s.heap) (ra:RT s.heap N a p) (hl:ã vl lo) (hu:ã vu hi) (hs:ã vs st) (Hy:s.heap.get? sl=J {cls:=.type "slice",data:=.fields #[vl,vu,vs]}) (h:f8 p lo hi st=J r)
  (hQ:∀v s',Pure s s'->Ď s s' N v r->Q v s'):wpAny (model Pg W0) A (getItem a (.ref sl)) Q E s:= by
 have ra:=ra.inv;clear hT;cases p<;>try (exact nn h)
 case lst l=>
  apply fF ra;intro _ us pa ra;exact UN hN pa ra hl hu hs Hy (aZ h).1 (aZ h).2 hQ
 case str x=>
  apply Ü ra;intro t;exact UO hl hu hs Hy (aZ h).1 (aZ h).2 hQ
end
noncomputable def l9:PV->Option Int
 |.int n=>J n
 |_=>Ww
def f9:List PV->Option (List Int)
 |[]=>J []
 |a::l=>match l9 a,f9 l with
  |some n,J r=>J (n::r)
  |_,_=>Ww
noncomputable def mR (n:Int):Bool:=decide (-(2^50)<n)&&decide (n<2^50)
noncomputable def dR:List Int->Int
 |[]=>0
 |[a]=>a
 |a::l=>if dR l<a then dR l else a
noncomputable def Ţ (a b:UInt64):Bool:=fw a b==J Aj
noncomputable def Ĵ (a b:UInt64):Bool:=fw a b==J Ai
noncomputable def aDU:PV->Option PV
 |.lst l=>if l.length<=100000 then J (.int l.length) else Ww
 |.str x=>if x.length<=100000 then J (.int x.length) else Ww
 |_=>Ww
def aAH (f:List Int->Option PV):PV->Option PV
 |.lst l=>(f9 l).bind f
 |_=>Ww
noncomputable def aFH (f:UInt64->Option PV):PV->Option PV
 |.flt x=>f x
 |_=>Ww
noncomputable def tV (x:UInt64):Option PV:=match qo x with
  |.fin sg m e=>J (.int (ms sg m e))
  |_=>Ww
noncomputable def aAI (f:Int->Int->Bool) (p q:PV):Option PV:=match p with
 |.int a=>(match q with|.int b=>J (.int (if f a b then b else a))|_=>Ww)
 |_=>Ww
noncomputable def aAJ (f:UInt64->UInt64->Bool) (p q r:PV):Option PV:=match p with
 |.flt a=>(match q with
  |.flt b=>(match r with
   |.flt c=>J (.flt (if f b a then(if f c b then c else b) else(if f c a then c else a)))
   |_=>Ww)
  |_=>Ww)
 |_=>Ww
noncomputable def xG (f:PV->Option PV) (ps:List PV):Option PV:=match ps with
 |[]=>Ww
 |a::ps=>(match ps with|[]=>f a|_=>Ww)
noncomputable def NA (f:PV->Option PV) (g:PV->PV->Option PV) (h:PV->PV->PV->Option PV) (ps:List PV):Option PV:=match ps with
 |[]=>Ww
 |a::ps=>(match ps with
  |[]=>f a
  |b::ps=>(match ps with
   |[]=>g a b
   |c::ps=>(match ps with|[]=>h a b c|_=>Ww)))
def aAK (ns:List Int):Option PV:=if ns.all mR&&decide (ns.length<=1000) then J (.int ns.sum) else Ww
noncomputable def NB (f:List Int->Int) (ns:List Int):Option PV:=if ns.isEmpty then Ww else J (.int (f ns))
def ċ (f:Bi) (ps:List PV):Option PV:=match f with
 |.len=>xG aDU ps
 |.sum=>xG (aAH aAK) ps
 |.max=>NA (λ_=>Ww) (aAI λa b=>decide (b>a)) (aAJ Ţ) ps
 |.min=>NA (aAH (NB dR)) (aAI λa b=>decide (b<a)) (aAJ Ĵ) ps
 |.int=>xG (aFH tV) ps
noncomputable def ŷ:Bi->aj
 |.len=>.builtin "len"
 |.sum=>.builtin "sum"
 |.min=>.builtin "min"
 |.max=>.builtin "max"
 |.int=>.type "int"
section
variable{A:dj}{E:Vs}{s:ak}{N:Ap}
theorem A8 (h:f9 (a::l)=J r):∃n ns,a=.int n/\f9 l=J ns/\n::ns=r:= by
 have h:(match l9 a,f9 l with|some n,J r=>J (n::r)|_,_=>Ww)=J r:=h;revert h;cases a<;>try (exact nn)
 cases f9 l with
 |none=>exact nn
 |some ns=>exact λh=>(cA _ ns rfl rfl (sm h))
theorem o6:∀{vs:List aj}{ns:List Int},Í h N vs l->f9 l=J ns->∃xs:List (Int×Tok),vs=xs.map (λp=>xp p.1 p.2)/\xs.map (·.1)=ns:= by
 induction l with
 |nil=>exact λr h=>(Ö ([]) r.inv (sm h))
 |cons p l ih=>
  intro vs ns r h;obtain⟨n,ns,rfl,h2,rfl⟩:=A8 h;apply fF r.inv;intro _ _ rv ru;apply Ü rv.inv;intro t;apply aDE (ih ru h2);intro xs;exact(Ö ((n,t)::xs) rfl rfl)
theorem A9 (hh:A.handled=ol) (hl:s.heap.IsList l À)
  (h:∀Â,Â={s with heap:=s.heap.push {cls:=.type "list_iterator",data:=.fields #[.ref l,.int 0 0]}}->Â.heap.IsListIter s.heap.objs.size l 0->Â.heap.IsList l À->(∀b∈[s.heap.objs.size,l],b<Â.heap.objs.size)->l≠s.heap.objs.size->Q (.ref s.heap.objs.size) Â):
  wpAny (model Pg W0) A (pyIter (.ref l)) Q E s:= by
 have Fv:l<s.heap.objs.size:=by refine Å (id hl) λo ho _=>?_;exact dc ho
 refine wpAny_pyIter_list hl (h _ rfl ⟨_,cr _ rfl,rfl,rfl⟩ (let ⟨o,ho,r⟩:=hl;⟨o,cb _ ho,r⟩) ?_ (fx Fv));intro b hb;simp only[br];rcases dL.mp hb with rfl|hb
 ·exact dg _
 ·rcases dL.mp hb with rfl|hb
  ·exact ia Fv
  ·cases hb
theorem BA{Â:ak}{o:Obj}{h':ju}(hk:∀b x,b∉[s.heap.objs.size]->(s.heap.push o).get? b=J x->h'.get? b=J x):∀b x,s.heap.get? b=J x->h'.get? b=J x:=
 λb x e=>hk b x (λhm=>by
  rw[bx] at hm;exact fx (dc e) hm) (cb _ e)
theorem xH (hv:∀j,-(2^50)<vv j/\vv j<2^50):∀n:Nat,n<=2000->-(2^50)*(n:Int)<=preSum vv n/\preSum vv n<=2^50*(n:Int)
 |0,_=>by simp[preSum]
 |n+1,h=>by
  have:=xH hv n (Ć (.x .q (.N 2000)) [.x .kl (.N 2000)] h);have h2:=hv n;simp only[preSum];exact⟨ì [_,_] [_] (.l (.M (.G .kh) (.C .kl)) .kb) [.l (.M (.G .kh) .q) .a,.t (.G .kh) .b] this.1 h2.1,ì [_,_] [_] (.l .kb (.M .kh (.C .kl))) [.l .a (.M .kh .q),.t .b .kh] this.2 h2.2⟩
theorem rV (ns:List Int):∀n:Nat,preSum (λi=>ns.getD i 0) n=(ns.take n).sum
 |0=>by simp[preSum]
 |n+1=>by
  simp only[preSum,rV ns n]
  by_cases h:n<ns.length
  ·refine O zd (O mu (O (bf h) ?_));simp[h]
  ·refine O (oc (by exact(bp.mp h))) (O (oc (by exact ä (.x .q (.A .r .n1)) [.x .q .r] (bp.mp h))) ?_);simp[cg,oi (oq h)]
theorem tW{ns:List Int}(h:ns.all mR=Wu) (j:Nat):-(2^50)<ns.getD j 0/\ns.getD j 0<2^50:= by
 by_cases hj:j<ns.length
 ·have:=bz.mp h _ (uo hj);unfold mR at this;simp only[bt,decide_eq_true_eq] at this
  simpa [hj] using this
 ·simp[cg,oi (oq hj)]
theorem IS{a:fy}{vs:List aj}{l:List PV}{ns:List Int}{Q:Vs}{k:Nat}(R:Ê A k) (pa:s.heap.PlainList a vs.toArray) (ra:Í s.heap N vs l) (h1:f9 l=J ns) (h2:ns.all mR=Wu) (h3:ns.length<=1000)
  (hQ:∀t s',Pure s s'->Q (.int ns.sum t) s'):wpAny (model Pg W0) A (call (.builtin "sum") [.ref a]) Q E s:= by
 refine Å (o6 ra h1) λxs bc Gf=>?_;subst bc;subst Gf;refine bD ?_;refine call_sum_walk (A9 (A:=A.in1) R.hh pa.isList λÂ e č hl hfp Fy=>?_);subst e;refine(fP _ _ _ (cB _ _ _ (λi=>(xs.map (·.1)).getD i 0) rfl (Bt (A:=A.in1) R.hh _ a Fy _) ⟨č,hl⟩ hfp (ß (λi v hv=>?_) (λj _=>?_) (λh' tk t' hk hm=>?_))))
 ·simp only[mm,ej,ce] at hv;refine Å hv λp hp bc=>?_;subst bc;exact⟨p.2,by simp[cg,hp]⟩
 ·rename_i hj;have Hw:j<xs.length:=by simpa using hj
  have q1:=tW h2 j;have q2:=xH (tW h2) (j+1) (by simp at h3;exact ä (.x .kl (.N 2000)) [.y .q .r,.x .r .kn] Hw h3);simp at h3
  delta InLong
  dsimp only
  exact⟨⟨ÿ (.l (.G .kp) .a) [.t (.G .kh) .a] q1.1,ÿ (.t .a .kp) [.t .a .kh] q1.2⟩,⟨ì [_] [_,_] (.l (.G .kp) .a) [.Y 1125899906842624 .q .r,.l (.M (.G .kh) (.C .kl)) .a,.X 1125899906842624 .r .kn] Hw q2.1 h3,ì [_] [_,_] (.t .a .kp) [.Y 1125899906842624 .q .r,.l .a (.M .kh (.C .kl)),.X 1125899906842624 .r .kn] Hw q2.2 h3⟩⟩
 ·have:preSum (λi=>(xs.map (·.1)).getD i 0) ((ze (λp=>xp p.1 p.2) xs).toArray).size=(xs.map (·.1)).sum:= by
   exact O (rV ..) (O (oc (by simp)) rfl)
  exact O this (hQ _ _ (Pure.mk' (BA (Â:=s) hk) hm))
theorem NC{f:List Int->Int}{c:Int->Int->Bool}(h1:∀a,f [a]=a) (h2:∀a b l,f (a::b::l)=bif c (f (b::l)) a then f (b::l) else a){l:List Int}(h:l≠[]):f l∈l:= by
 induction l with
 |nil=>exact absurd rfl h
 |cons a l ih=>
  cases l with
  |nil=>exact bx.mpr (h1 a)
  |cons b l=>
   refine O (h2 ..) ?_;cases c (f (b::l)) a with
   |true=>exact ah _ (ih (λq=>nomatch q))
   |false=>exact ag
theorem BB (a b:Int) (l:List Int):dR (a::b::l)=bif decide (dR (b::l)<a) then dR (b::l) else a:= by
 show(if dR (b::l)<a then dR (b::l) else a)=_
 by_cases h:dR (b::l)<a<;>simp[h]
theorem UP (x a:Int):(bif decide (x<a) then x else a)<=x/\(bif decide (x<a) then x else a)<=a:= by
 by_cases h:x<a<;>simp[h]<;>lia
theorem IT (l:List Int) (h:l≠[]):dR l∈l/\∀x∈l,dR l<=x:= by
 refine⟨NC (c:=λx a=>decide (x<a)) (λ_=>rfl) BB h,?_⟩;clear h
 induction l with
 |nil=>exact λx hx=>nomatch hx
 |cons a l ih=>
  intro x hx;cases l with
  |nil=>exact de (bx.mp hx).symm
  |cons b l=>
   have h:=UP (dR (b::l)) a;rw[<-BB] at h;rcases dL.mp hx with rfl|hx
   ·exact h.2
   ·exact ar h.1 (ih x hx)
theorem GM{xs:List (Int×Tok)}{i:Nat}{v:aj}(h:(ze (λp:Int×Tok=>xp p.1 p.2) xs).toArray[i]?=J v):∃t,v=.int ((xs.map (·.1)).getD i 0) t:= by
 rw[mm,ej] at h;apply sH (ce.mp h);intro p hp;exact⟨p.2,by simp[cg,hp]⟩
theorem o7{ns:List Int}{j:Nat}(h:j<ns.length):ns.getD j 0∈ns:=by simp[h]
theorem ND{ns:List Int}{x:Int}(h:x∈ns):∃i,i<ns.length/\ns.getD i 0=x:= by
 obtain⟨i,hi,e⟩:=List.getElem_of_mem h;exact(Ö i hi (by refine O (cg) (O (bf hi) (O e ?_));rfl))
theorem GN (xs:List (Int×Tok)):((ze (λp:Int×Tok=>xp p.1 p.2) xs).toArray).size=(xs.map (·.1)).length:=by simp
theorem NF (h2:ns≠[]):ns.getD (argBest (λi j=>decide (ns.getD i 0<ns.getD j 0)) (ns.length-1)) 0=dR ns:= by
 have hb:=argBest_lt (λi=>ns.getD i 0) (ns.length-1);have hl:=xy.mpr h2;refine xa (IT _ h2) λsp1 sp2=>?_;refine Å (ND sp1) λi hi e=>?_;exact iz (e▸hb.2 i (Nat.le_sub_one_of_lt hi)) (sp2 _ (o7 (jv hb.1 (Ek hl wn))))
theorem IU{a:fy}{vs:List aj}{l:List PV}{ns:List Int}{Q:Vs}{k:Nat}(R:Ê A k) (pa:s.heap.PlainList a vs.toArray) (ra:Í s.heap N vs l) (h1:f9 l=J ns) (h2:ns≠[])
  (hQ:∀t s',Pure s s'->Q (.int (dR ns) t) s'):wpAny (model Pg W0) A (call (.builtin "min") [.ref a]) Q E s:= by
 refine Å (o6 ra h1) λxs bc Gf=>?_;subst bc;subst Gf;refine bD (call_min_walk (A9 (A:=A.in1) R.hh pa.isList λÂ e č hl hfp Fy=>?_));subst e;refine(fP _ _ _ (cB _ _ _ _ rfl (Bt (A:=A.in1) R.hh _ a Fy _) ⟨č,hl⟩ hfp (ß (by exact O (GN ..) (xy.mpr h2)) (CmpOf.ints_lt (λi=>(xs.map (·.1)).getD i 0) (λi v hv=>GM hv)) (λv h' tk hP hk hm=>?_))));rw[GN] at hP;refine xe (GM hP) λt bc=>?_;subst bc;exact NF h2▸hQ _ _ (Pure.mk' (BA (Â:=s) hk) hm)
noncomputable def mA{α:Type}(f:UInt64->UInt64->Bool) (a b c:UInt64) (x y z:α):α:=if f b a then(if f c b then z else y) else(if f c a then z else x)
theorem aFI (f:UInt64->UInt64->Bool) (a b c:UInt64):argBest (λi j=>f ([a,b,c].getD i 0) ([a,b,c].getD j 0)) 2=mA f a b c 0 1 2:= by
 cases h1:f b a<;>cases h2:f c b<;>cases h3:f c a<;>simp[argBest,mA,h1,h2,h3]
theorem xI{α β:Type}(g:α->β) (f:UInt64->UInt64->Bool) (a b c:UInt64) (x y z:α):g (mA f a b c x y z)=mA f a b c (g x) (g y) (g z):= by
 cases h1:f b a<;>cases h2:f c b<;>cases h3:f c a<;>simp[mA,h1,h2,h3]
theorem UQ{C:aj->PV->Prop}{f:UInt64->UInt64->Bool}{a b c:UInt64}{x y z:aj}(h1:C x (.flt a)) (h2:C y (.flt b)) (h3:C z (.flt c)):C (mA f a b c x y z) (.flt (mA f a b c a b c)):= by
 delta mA;split<;>split<;>assumption
theorem aDV (f:UInt64->UInt64->Bool) (a b c:UInt64) (t u x:Tok) (v:aj)
  (h:(#[om a t,.float b u,.float c x]:Array aj)[argBest (λi j=>f ([a,b,c].getD i 0) ([a,b,c].getD j 0)) 2]?=J v):
  v=mA f a b c (.float a t) (.float b u) (.float c x):= by
 rw[aFI,xI (λi=>(#[om a t,.float b u,.float c x]:Array aj)[i]?)] at h;refine(fz (Bp ?_ h)).symm;exact xI J f a b c _ _ _
theorem ψ{a b c:UInt64}{t u x:Tok}{i:Nat}{v:aj}(h:(#[om a t,.float b u,.float c x]:Array aj)[i]?=J v):∃tk,v=.float ([a,b,c].getD i 0) tk:= by
 cases i with
 |zero=>exact⟨_,(sm h).symm⟩
 |succ i=>cases i with
  |zero=>exact⟨_,(sm h).symm⟩
  |succ i=>cases i with
   |zero=>exact⟨_,(sm h).symm⟩
   |succ i=>exact nn h
theorem aDW{a b c:UInt64}{t u x:Tok}:CmpOf Pg W0 A .Gt (λi v=>(#[om a t,.float b u,.float c x]:Array aj)[i]?=J v) (λi j=>Ţ ([a,b,c].getD i 0) ([a,b,c].getD j 0)):= by
 intro i j vi vj s' Q' E' hi hj hq;apply Ü (ψ hi);intro _;apply Ü (ψ hj);intro _;exact zc (s:=s') hq
theorem aDX{a b c:UInt64}{t u x:Tok}:CmpOf Pg W0 A .Lt (λi v=>(#[om a t,.float b u,.float c x]:Array aj)[i]?=J v) (λi j=>Ĵ ([a,b,c].getD i 0) ([a,b,c].getD j 0)):= by
 intro i j vi vj s' Q' E' hi hj hq;apply Ü (ψ hi);intro _;apply Ü (ψ hj);intro _;exact zb (s:=s') hq
theorem BC{h:ju}{o o':Obj}{d:fy}(hd:d∈[(h.push o).objs.size,h.objs.size]):d<((h.push o).push o').objs.size:= by
 refine O (br ..) ?_;rcases dL.mp hd with rfl|hd
 ·exact dg _
 ·exact O (bx.mp hd) (O (br ..) (ia (dg _)))
theorem YU{h h':ju}{o o':Obj}(hk:∀b x,b∉[(h.push o).objs.size]->((h.push o).push o').get? b=J x->h'.get? b=J x) (d:fy) (x:Obj) (e:h.get? d=J x):h'.get? d=J x:=
 hk d x (λhm=>gn _ (zf (jv (be ((br ..).symm.trans (bx.mp hm).symm)) (dc e)))) (cb _ (cb _ e))
theorem DV{a b c:UInt64}{t u x:Tok}{Q:Vs}{k:Nat}(R:Ê A k)
  (hQ:∀s',Pure s s'->Q (mA Ţ a b c (.float a t) (.float b u) (.float c x)) s'):
  wpAny (model Pg W0) A (call (.builtin "max") [.float a t,.float b u,.float c x]) Q E s:= by
 have hT:(s.heap.push {cls:=.type "tuple",data:=.seq #[.float a t,.float b u,.float c x]}).IsTuple s.heap.objs.size #[.float a t,.float b u,.float c x]:=(gQ _ (cr _ rfl) rfl ⟨0,rfl⟩);refine bD (call_max_three (wpAny_pyIter_tuple hT ?_));refine(fP _ ([_,s.heap.objs.size]) ([_]) (cB _ _ _ _ rfl (Al (A:=A.in1) R.hh _ s.heap.objs.size (by rw[br];exact fx (dg _)) _) ⟨(gQ _ (cr _ rfl) rfl rfl),hT.push _⟩ (λd hd=>BC hd) (ß (Ab _) aDW (λv h' tk hP hk hm=>?_))));exact O (aDV Ţ a b c t u x v hP) (hQ _ (Pure.mk' (YU hk) hm))
theorem DW{a b c:UInt64}{t u x:Tok}{Q:Vs}{k:Nat}(R:Ê A k)
  (hQ:∀s',Pure s s'->Q (mA Ĵ a b c (.float a t) (.float b u) (.float c x)) s'):
  wpAny (model Pg W0) A (call (.builtin "min") [.float a t,.float b u,.float c x]) Q E s:= by
 have hT:(s.heap.push {cls:=.type "tuple",data:=.seq #[.float a t,.float b u,.float c x]}).IsTuple s.heap.objs.size #[.float a t,.float b u,.float c x]:=(gQ _ (cr _ rfl) rfl ⟨0,rfl⟩);refine bD (call_min_three (wpAny_pyIter_tuple hT ?_));refine(fP _ ([_,s.heap.objs.size]) ([_]) (cB _ _ _ _ rfl (Al (A:=A.in1) R.hh _ s.heap.objs.size (by rw[br];exact fx (dg _)) _) ⟨(gQ _ (cr _ rfl) rfl rfl),hT.push _⟩ (λd hd=>BC hd) (ß (Ab _) aDX (λv h' tk hP hk hm=>?_))));exact O (aDV Ĵ a b c t u x v hP) (hQ _ (Pure.mk' (YU hk) hm))
theorem į.cons_inv (r:į h N vs (p::ps)):∃v us,vs=v::us/\RT h N v p/\į h N us ps:= by
 cases r with|cons a b=>exact(cA _ _ rfl a b)
theorem į.nil_inv (r:į h N vs []):vs=[]:=by cases r;rfl
theorem kK (ra:į h N vs ps) (e:xG f ps=J r):∃v p,vs=[v]/\ps=[p]/\RT h N v p/\f p=J r:= by
 cases ps with
 |nil=>exact nn e
 |cons p ps=>cases ps with
  |nil=>apply fF ra.cons_inv;intro v _ rv ru;exact(cM v p (ru.nil_inv▸rfl) rfl rv e)
  |cons=>exact nn e
theorem xJ{C:Prop}(ra:į h N vs ps) (e:NA f g h3 ps=J r)
  (c1:∀v p,vs=[v]->RT h N v p->f p=J r->C) (c2:∀v p v' p',vs=[v,v']->RT h N v p->RT h N v' p'->g p p'=J r->C)
  (c3:∀v p v' p' Š Ż,vs=[v,v',Š]->RT h N v p->RT h N v' p'->RT h N Š Ż->h3 p p' Ż=J r->C):C:= by
 cases ps with
 |nil=>exact nn e
 |cons p ps=>
  refine fE ra.cons_inv λv _ bc rv ru=>?_;subst bc;cases ps with
  |nil=>exact c1 v p (ru.nil_inv▸rfl) rv e
  |cons p' ps=>
   obtain⟨v',_,rfl,Ih,ru⟩:=ru.cons_inv;cases ps with
   |nil=>exact c2 v p v' p' (ru.nil_inv▸rfl) rv Ih e
   |cons Ż ps=>
    obtain⟨Š,_,rfl,Ix,ru⟩:=ru.cons_inv;cases ps with
    |nil=>exact c3 v p v' p' Š Ż (ru.nil_inv▸rfl) rv Ih Ix e
    |cons=>exact nn e
theorem BD (rv:RT h N v p) (e:aAH f p=J r):∃a vs l ns,v=.ref a/\h.PlainList a vs.toArray/\Í h N vs l/\f9 l=J ns/\f ns=J r:= by
 cases p<;>try (exact nn e)
 apply fF rv.inv;intro a vs pa ra;refine Å (co.mp e) λns h1 h2=>?_;exact(cB a vs _ ns rfl pa ra h1 h2)
theorem BE (rv:RT h N v p) (Ih:RT h N v' q) (e:aAI f p q=J r):∃a b t u,v=.int a t/\v'=.int b u/\r=.int (if f a b then b else a):= by
 cases p<;>try (exact nn e)
 cases q<;>try (exact nn e)
 apply Ü rv.inv;intro t;apply Ü Ih.inv;intro u;exact(f7 _ _ t u rfl rfl ((sm e).symm))
theorem BF (rv:RT h N v p) (Ih:RT h N v' q) (Ix:RT h N Š q') (e:aAJ f p q q'=J r):
  ∃a b c t u x,v=.float a t/\v'=.float b u/\Š=.float c x/\∀h',RV h' N (mA f a b c v v' Š) r:= by
 cases p<;>try (exact nn e)
 cases q<;>try (exact nn e)
 cases q'<;>try (exact nn e)
 apply ŀ rv.inv;intro t ht;apply ŀ Ih.inv;intro u hu;apply ŀ Ix.inv;intro x hx;refine(fP _ _ _ (cO t u x rfl rfl rfl (λh'=>?_)));refine aFZ (sm e) ?_;exact UQ (C:=RV h' N) (.flt _ _ ht) (.flt _ _ hu) (.flt _ _ hx)
theorem NG (h:aAK ns=J r):ns.all mR=Wu/\ns.length<=1000/\r=.int ns.sum:= by
 have e:=aZ h;exact(ß ((aA e.1).1) (of_decide_eq_true (aA e.1).2) ((sm e.2).symm))
theorem IV (h:NB f ns=J r):ns≠[]/\r=.int (f ns):= by
 have e:=xD h;exact⟨λq=>e.1 (q▸rfl),(sm e.2).symm⟩
theorem DX (h:tV x=J r):∃sg m e,qo x=.fin sg m e/\r=.int (ms sg m e):= by
 delta tV at h
 cases e:qo x<;>rw[e] at h<;>try (exact nn h)
 exact(kJ _ _ _ rfl ((sm h).symm))
theorem zB{p:Prop}[Decidable p] {α:Type}(a b:α):(if decide p=Wu then a else b)=if p then a else b:= by
 by_cases h:p<;>simp[h]
theorem GO{c:Prop}[Decidable c] {a b:Int}{t u:Tok}{Q:Vs}{s s':ak}(hQ:∀v s',Pure s s'->RV s'.heap N v (.int (if c then b else a))->Q v s') (hp:Pure s s'):Q (if c then .int b u else .int a t) s':= by
 by_cases h:c
 ·rw[if_pos h] at hQ⊢;exact hQ _ _ hp (.int _ _)
 ·rw[if_neg h] at hQ⊢;exact hQ _ _ hp (.int _ _)
theorem IW (vs:List aj):vs.toArray.size=vs.length:=rfl
section
variable{vs:List aj}{ps:List PV}{r:PV}{Q:Vs}{k:Nat}
theorem IX (hT:0<s.toks) (rv:RT s.heap N v p) (h:aDU p=J r) (hQ:∀v s',Pure s s'->RV s'.heap N v r->Q v s'):wpAny (model Pg W0) A (call (.builtin "len") [v]) Q E s:= by
 cases p<;>try (exact nn h)
 ·apply Ü rv.inv;intro t;have hl:=aZ h;exact P.len_str (by have:=hl.1;exact Bq.mpr (Ć (.t .q .kp) [.x .q (.N 100000)] hl.1)) (hQ _ _ (Pure.toks _) (sm hl.2▸.int _ _))
 ·apply fF rv.inv;intro a us pa ra;have hl:=aZ h;have e:=ra.length;refine Calls.call_len_list pa.isList (by have:=hl.1;clear hQ;refine O (IW ..) ?_;exact ä (.t .q .kp) [.x .r (.N 100000),.z1 .q .r] hl.1 e) ?_;exact hQ _ _ (Pure.toks _) (sm hl.2▸e▸.int _ _)
theorem NH (R:Ê A k) (hT:0<s.toks) (ra:į s.heap N vs ps) (h:ċ f ps=J r)
  (hQ:∀v s',Pure s s'->RV s'.heap N v r->Q v s'):wpAny (model Pg W0) A (call (ŷ f) vs) Q E s:= by
 cases f with
 |len=>
  refine dK (kK ra h) λv p bc Gf rv h=>?_;subst bc;subst Gf;exact IX hT rv h hQ
 |sum=>
  refine dK (kK ra h) λv p bc Gf rv h=>?_;subst bc;subst Gf;obtain⟨a,us,l,ns,rfl,pa,ra,h1,h2⟩:=BD rv h;obtain⟨q2,q3,rfl⟩:=NG h2;exact IS R pa ra h1 q2 q3 λt s' hp=>hQ _ _ hp (.int _ _)
 |int=>
  obtain⟨v,p,rfl,rfl,rv,h⟩:=kK ra h;cases p<;>try (exact nn h)
  obtain⟨t,rfl,_⟩:=rv.inv;obtain⟨sg,m,e,hd,rfl⟩:=DX h;exact call_int_float hd (hQ _ _ (Pure.toks _) (.int _ _))
 |max=>
  refine xJ ra h ?_ ?_ ?_
  ·exact λv p _ _ h=>nn h
  ·rintro v p v' p' rfl rv Ih h
   obtain⟨a,b,t,u,rfl,rfl,rfl⟩:=BE rv Ih h;rw[zB] at hQ;exact bD (max_two_ints R.hh λh' tk hk hm=>GO hQ (Pure.mk' hk hm))
  ·rintro v p v' p' Š Ż rfl rv Ih Ix h
   obtain⟨a,b,c,t,u,x,rfl,rfl,rfl,q⟩:=BF rv Ih Ix h;exact DV R λs' hp=>hQ _ _ hp (q _)
 |min=>
  refine xJ ra h ?_ ?_ ?_
  ·rintro v p rfl rv h
   obtain⟨a,us,l,ns,rfl,pa,ra,h1,h2⟩:=BD rv h;obtain⟨q2,rfl⟩:=IV h2;exact IU R pa ra h1 q2 λt s' hp=>hQ _ _ hp (.int _ _)
  ·rintro v p v' p' rfl rv Ih h
   obtain⟨a,b,t,u,rfl,rfl,rfl⟩:=BE rv Ih h;rw[zB] at hQ;exact bD (min_two_ints R.hh λh' tk hk hm=>GO hQ (Pure.mk' hk hm))
  ·rintro v p v' p' Š Ż rfl rv Ih Ix h
   obtain⟨a,b,c,t,u,x,rfl,rfl,rfl,q⟩:=BF rv Ih Ix h;exact DW R λs' hp=>hQ _ _ hp (q _)
end
end
inductive Me where
 |join|get
 deriving DecidableEq
noncomputable def Me.id:Me->String
 |.join=>"str.join"
 |.get=>"dict.get"
noncomputable def tX:PV->Option Str
 |.str n=>J n
 |_=>Ww
def kE:List PV->Option (List Str)
 |[]=>J []
 |a::l=>match tX a,kE l with
  |some n,J r=>J (n::r)
  |_,_=>Ww
def YV (x:Str) (q:PV):Option PV:=match q with
 |.lst l=>(kE l).bind λts=>if El x ts then J (.str (Fg x ts)) else Ww
 |_=>Ww
def NI (l:List (Int×SV)) (k d:PV):Option PV:=match k with
 |.int k=>if d.scalar then J (((l.lookup k).map SV.pv).getD d) else Ww
 |_=>Ww
def YW (f:PV->PV->Option PV) (ps:List PV):Option PV:=match ps with
 |[]=>Ww
 |a::ps=>xG (f a) ps
def ŏ (f:Me) (p:PV) (ps:List PV):Option PV:=match f with
 |.join=>(match p with|.str x=>xG (YV x) ps|_=>Ww)
 |.get=>(match p with|.dcti l=>YW (NI l) ps|_=>Ww)
section
variable{A:dj}{E:Vs}{s:ak}{N:Ap}
theorem BG (h:kE (a::l)=J r):∃n ns,a=.str n/\kE l=J ns/\n::ns=r:= by
 have h:(match tX a,kE l with|some n,J r=>J (n::r)|_,_=>Ww)=J r:=h;revert h;cases a<;>try (exact nn)
 cases kE l with
 |none=>exact nn
 |some ns=>exact λh=>(cA _ ns rfl rfl (sm h))
theorem wN:∀{vs:List aj}{ns:List Str},Í h N vs l->kE l=J ns->∃xs:List (Str×Tok),vs=strValues xs/\xs.map (·.1)=ns:= by
 induction l with
 |nil=>exact λr h=>(Ö ([]) r.inv (sm h))
 |cons p l ih=>
  intro vs ns r h;obtain⟨n,ns,rfl,h2,rfl⟩:=BG h;apply fF r.inv;intro _ _ rv ru;apply Ü rv.inv;intro t;apply aDE (ih ru h2);intro xs;exact(Ö ((n,t)::xs) rfl rfl)
theorem Í.cons_inv (r:Í h N vs (p::ps)):∃v us,vs=v::us/\RV h N v p/\Í h N us ps:= by
 cases r with|cons a b=>exact(cA _ _ rfl a b)
theorem Í.nil_inv (r:Í h N vs []):vs=[]:=by cases r;rfl
theorem UR (ho:h.get? d=J o):News {} (d+1) h [(d,o)]:= by
 intro p hp;rw[bx] at hp;subst hp;refine(ß ho ?_ ?_)
 ·show d≠d+1;exact fx (dg _)
 ·show ju.get? {} d=Ww;apply ju.get?_none_of_le;exact jd _
section
variable{v v2:aj}{p q r:PV}{ps:List PV}{vs:List aj}{Q:Vs}{k:Nat}
theorem DY (rv:RT s.heap N v q) (h:YV x q=J r) (hQ:∀v s',Pure s s'->RV s'.heap N v r->Q v s'):wpAny (model Pg W0) A (call (.builtin "str.join") [.str x t,v]) Q E s:= by
 cases q<;>try (exact nn h)
 refine fE rv.inv λa us bc pa rl=>?_;subst bc;refine Å (co.mp h) λts h1 h2=>?_;have h2:=aZ h2;refine Å (wN rl h1) λxs bc hx=>?_;subst bc;exact bD (SC.join pa.isList hx h2.1 λt' k' hm=>hQ _ _ (Pure.toks _ hm.2) (sm h2.2▸.str _ _))
theorem IY (ra:į h N vs ps) (e:YW f ps=J r):∃v p v' p',vs=[v,v']/\RT h N v p/\RT h N v' p'/\f p p'=J r:= by
 cases ps with
 |nil=>exact nn e
 |cons p ps=>
  apply fF ra.cons_inv;intro v us rv ru;apply MP (kK ru e);intro v' p' Ih e;exact(f7 v p v' p' rfl rv ⟨Ih,e⟩)
theorem IZ (h:NI l p q=J r):∃k,p=.int k/\q.scalar=Wu/\r=((l.lookup k).map SV.pv).getD q:= by
 cases p<;>try (exact nn h)
 have h:=aZ h;exact(gQ _ rfl h.1 ((sm h.2).symm))
theorem DZ (hd:Ù s.heap a l) (rv:RT s.heap N v p) (rv2:RT s.heap N v2 q) (h:NI l p q=J r)
  (hQ:∀v s',Pure s s'->RV s'.heap N v r->Q v s'):wpAny (model Pg W0) A (call (.builtin "dict.get") [.ref a,v,v2]) Q E s:= by
 obtain⟨x,rfl,Ja,rfl⟩:=IZ h;apply Ü rv.inv;intro t;refine sG hd λMl Fk Nx Jv=>?_;clear hd;refine Å (ju.dictOf_iff.mp Nx) λo ho hio=>?_;refine kdg_get2 (UR ho) (qf _) hio Ml (intKind_is Pg W0 x t) _ rfl ?_;rcases Jv.lookup (k:=x) with⟨h1,h2⟩|⟨y,z,h1,h2,hv⟩
 ·rw[h1];rw[h2] at hQ;exact hQ _ _ (Pure.toks _) (rv2.sc Ja)
 ·rw[h1];rw[h2] at hQ;exact hQ _ _ (Pure.toks _) hv.rv
theorem NJ (hk:1<=k) (R:Ê A k) (hT:0<s.toks) (Fp:Ú s.heap) (rp:RT s.heap N a p) (ra:į s.heap N vs ps) (h:ŏ f p ps=J r)
  (hQ:∀v s',Pure s s'->RV s'.heap N v r->Q v s'):wpAny (model Pg W0) A (call (.builtin f.id) (a::vs)) Q E s:= by
 cases f with
 |join=>
  cases p<;>try (exact nn h)
  apply Ü rp.inv;intro t;apply MP (kK ra h);intro v q rv h;exact DY rv h hQ
 |get=>
  cases p<;>try (exact nn h)
  apply ŀ rp.inv;intro c hd;apply mO (IY ra h);intro v q v2 q2 rv rv2 h;exact DZ hd rv rv2 h hQ
end
end
abbrev Ã:=List (Option PV)
noncomputable def lk:Ã->Nat->Option PV
 |[],_=>Ww
 |a::_,0=>a
 |_::l,n+1=>lk l n
noncomputable def st:Ã->Nat->PV->Ã
 |[],_,_=>[]
 |_::l,0,p=>J p::l
 |a::l,n+1,p=>a::st l n p
theorem wO{n:Nat}:lk [] n=Ww:=rfl
theorem wP{a:Option PV}{l:Ã}:lk (a::l) 0=a:=rfl
theorem wQ{a:Option PV}{l:Ã}{n:Nat}:lk (a::l) (n+1)=lk l n:=rfl
theorem NK{n:Nat}{p:PV}:st [] n p=[]:=rfl
theorem NL{a:Option PV}{l:Ã}{p:PV}:st (a::l) 0 p=J p::l:=rfl
theorem NM{a:Option PV}{l:Ã}{n:Nat}{p:PV}:st (a::l) (n+1) p=a::st l n p:=rfl
theorem xK{pe:Ã}:∀{i j:Nat}{p:PV},lk (st pe i p) j=J q->(j=i/\q=p)\/(j≠i/\lk pe j=J q):= by
 induction pe with
 |nil=>intro i j p h;cases i<;>exact nn h
 |cons a l ih=>
  intro i j p h;cases i with
  |zero=>cases j with
   |zero=>exact .inl ⟨rfl,(sm h).symm⟩
   |succ j=>exact .inr ⟨nofun,h⟩
  |succ n=>cases j with
   |zero=>exact .inr ⟨nofun,h⟩
   |succ j=>exact(ih h).imp (fun⟨h1,h2⟩=>⟨congrArg (·+1) h1,h2⟩) fun⟨h1,h2⟩=>⟨λe=>h1 (nw e),h2⟩
structure Cx where
 vars:List (Str×Nat)
 kinds:List (Str×mz)
 own:List Nat
 tk:List Nat
 top:Bool
inductive Ë (Á:Env) (h:ju) (x:Str) (v:aj):Prop
 |loc (m:Str->Option aj):Á.kindOf x=J .local->h.Ns Á.locals m->m x=J v->Ë Á h x v
 |cell (c:fy):(Á.kindOf x=J .cell\/Á.kindOf x=J .free)->Á.cells.lookup x=J c->h.IsCell c (J v)->Ë Á h x v
def ø (h:ju) (N:Ap) (a:fy):PV->Prop
 |.lst l=>∃vs:List aj,h.PlainList a vs.toArray/\Í h N vs l
 |.dcti l=>Ù h a l
 |_=>False
def õ (cx:Cx) (Á:Env) (s:ak) (N:Ap) (i:Nat) (v:aj) (p:PV):Prop:=
 (if cx.own.contains i then ∃a,v=.ref a/\N a/\a≠Á.locals/\ø s.heap N a p else RV s.heap N v p)/\
 (cx.tk.contains i=Wu->∀x t,v=.str x t->t≠0/\t<s.toks)
theorem RV.weak' (hn:∀b,N' b->N b) (r:RV h N v p):RV h N' v p:=r.step (Step.sub hn)
theorem Í.weak' (hn:∀b,N' b->N b) (r:Í h N vs ps):Í h N' vs ps:=r.step (Step.sub hn)
inductive ė (Á:Env) (h:ju) (No:Ap) (x:Str):Prop
 |loc:Á.kindOf x=J .local->ė Á h No x
 |cell (c:fy) (Gz:Option aj):Á.kindOf x=J .cell->Á.cells.lookup x=J c->No c->h.IsCell c Gz->ė Á h No x
structure ñ (s:ak) (N:Ap):Prop where
 keep:∀b o,H0.get? b=J o->s.heap.get? b=J o
 above:∀b,N b->H0.objs.size<=b
 size:H0.objs.size<=s.heap.objs.size
 low:ď N s.heap
 toks:0<s.toks
 bare:pg s.gens
structure Ä (cx:Cx) (asg:List Str) (Á:Env) (s:ak) (Na No:Ap) (pe:Ã):Prop where
 base:ñ s (λb=>Na b\/No b)
 kind:Á.scope.kind=.function
 glb:Á.globals=mainGlobals
 blt:Á.builtins=builtinsNs
 gl:∀x,cx.kinds.lookup x=J .globalImplicit->Á.kindOf x=J .globalImplicit
 cl:∀x,(cx.kinds.lookup x=J .cell\/cx.kinds.lookup x=J .free)->(Á.kindOf x=J .cell\/Á.kindOf x=J .free)/\∃c v,Á.cells.lookup x=J c/\s.heap.IsCell c v
 ns:∃m,s.heap.Ns Á.locals m
 noL:No Á.locals
 apart:∀x y c,Á.cells.lookup x=J c->Á.cells.lookup y=J c->x=y
 cellsLow:∀x c,Á.cells.lookup x=J c->c<s.heap.objs.size
 vars:∀x i p,cx.vars.lookup x=J i->lk pe i=J p->∃v,Ë Á s.heap x v/\õ cx Á s (λb=>Na b\/No b) i v p
 stores:∀x∈asg,ė Á s.heap No x
 inj:∀x y i,cx.vars.lookup x=J i->cx.vars.lookup y=J i->x=y
 alone:∀x y i j a,cx.vars.lookup x=J i->cx.vars.lookup y=J j->(lk pe i).isSome->(lk pe j).isSome->cx.own.contains i=Wu->cx.own.contains j=Wu->Ë Á s.heap x (.ref a)->Ë Á s.heap y (.ref a)->i=j
 disj:∀b,No b->¬Na b
 turns:∀x i a,cx.vars.lookup x=J i->cx.own.contains i=Wu->(lk pe i).isSome->Ë Á s.heap x (.ref a)->No a
theorem Ë.same (a:Ë Á h x v) (b:Ë Á h x u):v=u:= by
 cases a with
 |loc m k n e=>
  cases b with
  |loc m' k' n' e'=>
   refine b9 n λo es ep h1 h2 h3 h4=>?_;clear n;refine b9 n' λo' ž χ Jx Jb Lu Mm=>?_;clear n';rw[h1] at Jx;cases Jx;rw[h2] at Jb;cases Jb;have:=(h4 x).symm.trans (Mm x);rw[e,e'] at this;exact fz this
  |cell c k'=>rw[k] at k';rcases k' with k'|k'<;>cases k'
 |cell c k e f=>
  cases b with
  |loc m k'=>rw[k'] at k;rcases k with k|k<;>cases k
  |cell c' k' e' f'=>
   rw[e] at e';cases e';refine Å f λo h1 h2=>?_;clear f;refine Å f' λo' Jx Jb=>?_;clear f';rw[h1] at Jx;cases Jx;rw[h2] at Jb;cases Jb;rfl
theorem Ë.keeps (a:Ë Á h x v) (k:∀b o,h.get? b=J o->h'.get? b=J o):Ë Á h' x v:= by
 cases a with
 |loc m q n e=>exact .loc m q (n.keeps k) e
 |cell c q e f=>exact .cell c q e (f.keeps k)
section
variable{cx:Cx}{asg:List Str}{Á:Env}{s s':ak}{Na No:Ap}{pe:Ã}
structure û (s:ak) (No:Ap) (s':ak) (No':Ap):Prop where
 pure:Pure s s'
 sub:∀b,No b->No' b
 new:∀b,No' b->No b\/s.heap.objs.size<=b
 low:ď No' s'.heap
theorem û.of_pure (x:Pure s s') (h:ď No s.heap):û s No s' No:=⟨x,λ_ h=>h,λ_ h=>.inl h,λb hb=>af (h b hb) x.step.grow⟩
theorem û.one (x:Pure s s') (h:ď No s.heap) (h1:s.heap.objs.size<=a) (h2:a<s'.heap.objs.size):û s No s' (λb=>No b\/b=a):=
 ⟨x,λ_ h=>.inl h,λb hb=>hb.elim .inl λe=>.inr (e▸h1),λb hb=>hb.elim (λq=>af (h b q) x.step.grow) λe=>e▸h2⟩
theorem û.stepAt (x:û s No s' No'):Step s.heap (λb=>Na b\/No b) s'.heap (λb=>Na b\/No' b):=
 ⟨λb o _ e=>x.pure.keep b o e,x.pure.step.grow,λb hb=>hb.elim (λq=>.inl (.inl q)) λq=>(x.new b q).elim (λq=>.inl (.inr q)) .inr⟩
theorem õ.wide (r:õ cx Á s (λb=>Na b\/No b) i v p) (x:û s No s' No'):õ cx Á s' (λb=>Na b\/No' b) i v p:= by
 refine⟨?_,λht y t e=>⟨(r.2 ht y t e).1,af (r.2 ht y t e).2 (Õ.toks x.pure)⟩⟩;have r1:=r.1;split
 ·rename_i hc;rw[if_pos hc] at r1;refine cH r1 λa e h1 h2 h3=>?_;clear r1;refine(iH a e (h1.elim .inl (λq=>.inr (x.sub _ q))) h2 ?_);cases p<;>dsimp only[ø] at h3⊢
  ·refine Å h3 λvs h4 h5=>?_;exact(Ö vs (h4.at λo e=>x.pure.keep _ _ e) (h5.step x.stepAt))
  ·refine sG h3 λhs Fk hd hk=>?_;exact(sI hs Fk (hd.keep x.pure.keep) hk)
 ·rename_i hc;rw[if_neg hc] at r1;exact r1.step x.stepAt
theorem ñ.pure (b:ñ s N) (x:Pure s s'):ñ s' N where
 keep:=λa o e=>x.keep a o (b.keep a o e)
 above:=b.above
 size:=aa b.size x.step.grow
 low:=λa h=>af (b.low a h) x.step.grow
 toks:=af b.toks (Õ.toks x)
 bare:=x.bare b.bare
theorem Ä.bind_back (r:Ä cx asg Á s Na No pe) (x:Pure s s') (hy:cx.vars.lookup y=J i) (hp:lk pe i=J p) (b:Ë Á s'.heap y v):Ë Á s.heap y v:= by
 refine Å (r.vars y i p hy hp) λu hu _=>?_;have:=(hu.keeps x.keep).same b;subst this;exact hu
theorem Ä.wide (r:Ä cx asg Á s Na No pe) (x:û s No s' No'):Ä cx asg Á s' Na No' pe where
 base:={(r.base.pure x.pure) with
  above:=λb hb=>hb.elim (λq=>r.base.above b (.inl q)) λq=>(x.new b q).elim (λq=>r.base.above b (.inr q)) λq=>aa r.base.size q
  low:=λb hb=>hb.elim (λq=>af (r.base.low b (.inl q)) x.pure.step.grow) λq=>x.low b q}
 kind:=r.kind
 glb:=r.glb
 blt:=r.blt
 gl:=r.gl
 cl:=λy hy=>let ⟨h1,c,v,h2,h3⟩:=r.cl y hy;⟨h1,c,v,h2,h3.keeps x.pure.keep⟩
 ns:=let ⟨m,hm⟩:=r.ns;⟨m,hm.keeps x.pure.keep⟩
 noL:=x.sub _ r.noL
 apart:=r.apart
 cellsLow:=λy c h=>af (r.cellsLow y c h) x.pure.step.grow
 vars:=λy i p h1 h2=>let ⟨v,hb,hs⟩:=r.vars y i p h1 h2;⟨v,hb.keeps x.pure.keep,hs.wide x⟩
 stores:=λy hy=>by
  cases r.stores y hy with
  |loc h=>exact .loc h
  |cell c Gz h1 h2 h3 h4=>exact .cell c Gz h1 h2 (x.sub _ h3) (h4.keeps x.pure.keep)
 inj:=r.inj
 alone:=λy z i j a h1 h2 h3 h4 h5 h6 h7 h8=>by
  refine xe (bg.mp h3) λp hp=>?_;refine xe (bg.mp h4) λq hq=>?_;exact r.alone y z i j a h1 h2 h3 h4 h5 h6 (r.bind_back x.pure h1 hp h7) (r.bind_back x.pure h2 hq h8)
 disj:=λb hb ha=>(x.new b hb).elim (λq=>r.disj b q ha) λq=>gn _ (af (r.base.low b (.inl ha)) q)
 turns:=λy i a h1 h2 h3 h4=>by
  refine xe (bg.mp h3) λp hp=>?_;exact x.sub _ (r.turns y i a h1 h2 h3 (r.bind_back x.pure h1 hp h4))
theorem Ä.lowO (r:Ä cx asg Á s Na No pe):ď No s.heap:=λb hb=>r.base.low b (.inr hb)
theorem Ä.pure (r:Ä cx asg Á s Na No pe) (x:Pure s s'):Ä cx asg Á s' Na No pe:=r.wide (û.of_pure x r.lowO)
theorem jL{h:ju}{c L:fy}{v:Option aj}{m:Str->Option aj}(a:h.IsCell c v) (b:h.Ns L m):c≠L:= by
 rintro rfl
 refine Å a λo h1 h2=>?_;clear a;refine oB b λo' es ep h3 h4 _=>?_;clear b;rw[h1] at h3;cases h3;rw[h2] at h4;cases h4
theorem rX (x:ø h N a p) (y:h.IsCell c v):a≠c:= by
 rintro rfl
 refine Å y λo h1 h2=>?_;clear y;cases p<;>dsimp only[ø] at x
 ·obtain⟨vs,⟨n,e⟩,_⟩:=x;rw[e] at h1;cases h1;cases h2
 ·obtain⟨_,Fk,⟨o',es,ep,e,_,hd,_⟩,_⟩:=x;rw[e] at h1;cases h1;rw[hd] at h2;cases h2
theorem õ.other (r:õ cx Á s N i v p) (hb:N b0) (hs:ot b0 s.heap h') (Fy:∀a,v=.ref a->cx.own.contains i=Wu->ø s.heap N a p->a≠Á.locals->a≠b0) (ht:s.toks<=t'):
  õ cx Á {s with heap:=h',toks:=t'} N i v p:= by
 have S:Step s.heap N h' N:=⟨λb o hn e=>hs.extBut b o (λq=>hn (q▸hb)) e,be hs.1.symm,λ_ q=>.inl q⟩;refine⟨?_,λhtk y t e=>⟨(r.2 htk y t e).1,af (r.2 htk y t e).2 ht⟩⟩;have r1:=r.1;split
 ·rename_i hc;rw[if_pos hc] at r1;refine cH r1 λa e h1 h2 h3=>?_;clear r1;have Ny:=Fy a e hc h3 h2;refine(iH a e h1 h2 ?_);cases p<;>dsimp only[ø] at h3⊢
  ·refine Å h3 λvs h4 h5=>?_;exact(Ö vs (h4.at λo e=>hs.extBut _ _ Ny e) (h5.step S))
  ·refine sG h3 λHg Fk hd hk=>?_;exact(sI Hg Fk (hd.extBut hs.extBut Ny) hk)
 ·rename_i hc;rw[if_neg hc] at r1;exact r1.step S
def κ{x:Str}{i:Nat}{v:aj}{p:PV}{Q:Unit->ak->Prop}{M:Ew}{A:dj}{E:Vs} :Prop:=∀(r:Ä cx asg Á s Na No pe) (hx:x∈asg) (hi:cx.vars.lookup x=J i) (hv:õ cx Á s (λb=>Na b\/No b) i v p) (Tc:∀a,v=.ref a->cx.own.contains i=Wu->No a) (Qv:∀a,v=.ref a->cx.own.contains i=Wu->∀y j,cx.vars.lookup y=J j->j≠i->(lk pe j).isSome->cx.own.contains j=Wu->¬Ë Á s.heap y (.ref a)) (hQ:∀s' b0,No b0->(b0=Á.locals\/Á.cells.lookup x=J b0)->ot b0 s.heap s'.heap->s'.gens=s.gens->Õ s No s' No->Ä cx asg Á s' Na No (st pe i p)->Q () s'),wpAny M A (storeName Á x v) Q E s
def mJ:=@gZ _ ⟨((((((((((((((⟨[],[],[],[],Wv⟩,ac),ac),{}),ac),ac),ac),ac),ac),ac),.none),ac),model Pg W0),{}),ac)⟩ (a9 (a9 (a9 (bA (bA @κ)))))
def YX:=mJ.1.1.1.1.1.1.1.1.1.1.1.1.1.2
def kL:=mJ.1.1.1.1.1.1.1.1.1.1.1.1.2
def Ł:=mJ.1.1.1.1.1.1.1.1.1.1.1.2
def Ŕ:=mJ.1.1.1.1.1.1.1.1.1.2
def Ĝ:=mJ.1.1.1.1.1.1.1.2
def Ι:=mJ.1.1.1.1.1.2
def Μ:=mJ.1.1.1.1.2
theorem zC:@κ mJ.1.1.1.1.1.1.1.1.1.1.1.1.1.1 YX kL Ł mJ.1.1.1.1.1.1.1.1.1.1.2 Ŕ mJ.1.1.1.1.1.1.1.1.2 Ĝ mJ.1.1.1.1.1.1.2 Ι Μ mJ.1.1.1.2 mJ.1.1.2 mJ.1.2 mJ.2:= by
 intro r hx hi hv Tc Qv hQ;have key:∀(b0:fy) (h':ju) (t':Nat),(b0=kL.locals\/kL.cells.lookup Ĝ=J b0)->(∀c u,Ł.heap.IsCell c u->∃u,h'.IsCell c u)->Ŕ b0->ot b0 Ł.heap h'->Ł.toks<=t'->(∃m,h'.Ns kL.locals m)->Ë kL h' Ĝ Ι->
   (∀y u,y≠Ĝ->Ë kL Ł.heap y u->Ë kL h' y u)->(∀y∈YX,ė kL h' Ŕ y)->(∀a Μ N,ø Ł.heap N a Μ->a≠kL.locals->a≠b0)->
   mJ.1.1.1.2 () {Ł with heap:=h',toks:=t'}:= by
  intro b0 h' t' Ii hcells hb hs ht Fp Pt Pu Qw hown;have S:Step Ł.heap Ŕ h' Ŕ:=⟨λb o hn e=>hs.extBut b o (λq=>hn (q▸hb)) e,be hs.1.symm,λ_ q=>.inl q⟩;have Hw:h'.objs.size=Ł.heap.objs.size:=hs.1;refine hQ {Ł with heap:=h',toks:=t'} b0 hb Ii hs rfl ⟨S,λ_ _ e=>e,λq=>q,rfl,rfl,ht⟩ ?_;have back:∀y u,y≠Ĝ->(∃j q,mJ.1.1.1.1.1.1.1.1.1.1.1.1.1.1.vars.lookup y=J j/\lk mJ.1.1.1.1.1.1.1.1.2 j=J q)->Ë kL h' y u->Ë kL Ł.heap y u:= by
   rintro y u hy ⟨j,q,h1,h2⟩ Iv
   refine Å (r.vars y j q h1 h2) λz hz _=>?_;have:=(Pu y z hy hz).same Iv;subst this;exact hz
  exact{
   base:={
    keep:=λb o e=>hs.extBut b o (λq=>by have:=r.base.above b0 (.inr hb);have h2:=dc e;rw[q] at h2;exact absurd h2 (bp.mpr this)) (r.base.keep b o e)
    above:=r.base.above
    size:=by show _<=h'.objs.size;exact O Hw r.base.size
    low:=λb q=>by show b<h'.objs.size;exact O Hw (r.base.low b q)
    toks:=af r.base.toks ht
    bare:=r.base.bare}
   kind:=r.kind
   glb:=r.glb
   blt:=r.blt
   gl:=r.gl
   cl:=λy hy=>let ⟨h1,c,Ι,h2,h3⟩:=r.cl y hy;let ⟨u,hu⟩:=hcells c Ι h3;⟨h1,c,u,h2,hu⟩
   ns:=Fp
   noL:=r.noL
   apart:=r.apart
   cellsLow:=λy c h=>by show c<h'.objs.size;exact O Hw (r.cellsLow y c h)
   vars:=λy j q h1 h2=>by
    rcases xK h2 with⟨rfl,rfl⟩|⟨hj,h2⟩
    ·have:y=Ĝ:=r.inj y Ĝ _ h1 hi;subst this;exact⟨Ι,Pt,hv.other (.inr hb) hs (λa _ _ ho hl=>hown a _ _ ho hl) ht⟩
    ·have Nz:y≠Ĝ:=λe=>by subst e;rw[hi] at h1;exact hj (fz h1).symm
     refine Å (r.vars y j q h1 h2) λz hz Hy=>?_;exact⟨z,Pu y z Nz hz,Hy.other (.inr hb) hs (λa _ _ ho hl=>hown a _ _ ho hl) ht⟩
   stores:=Qw
   inj:=r.inj
   alone:=λy z j k a h1 h2 h3 h4 h5 h6 h7 h8=>by
    refine xe (bg.mp h3) λpj h3=>?_;refine xe (bg.mp h4) λpk h4=>?_;rcases xK h3 with⟨rfl,rfl⟩|⟨hj,Lu⟩<;>rcases xK h4 with⟨rfl,rfl⟩|⟨hk,Mm⟩
    ·rfl
    ·have e1:y=Ĝ:=r.inj y Ĝ _ h1 hi;subst e1;have Oa:z≠Ĝ:=λe=>by subst e;rw[h1] at h2;exact hk (fz h2).symm
     have e2:=Pt.same h7;exact absurd (back z _ Oa ⟨k,_,h2,Mm⟩ h8) (Qv a e2 h5 z k h2 hk (by refine O Mm ?_;rfl) h6)
    ·have e1:z=Ĝ:=r.inj z Ĝ _ h2 hi;subst e1;have Oa:y≠Ĝ:=λe=>by subst e;rw[h1] at h2;exact hj (fz h2)
     have e2:=Pt.same h8;exact absurd (back y _ Oa ⟨j,_,h1,Lu⟩ h7) (Qv a e2 h6 y j h1 hj (by refine O Lu ?_;rfl) h5)
    ·have Nz:y≠Ĝ:=λe=>by subst e;rw[hi] at h1;exact hj (fz h1).symm
     have Oa:z≠Ĝ:=λe=>by subst e;rw[hi] at h2;exact hk (fz h2).symm
     exact r.alone y z j k a h1 h2 (by refine O Lu ?_;rfl) (by refine O Mm ?_;rfl) h5 h6 (back y _ Nz ⟨j,_,h1,Lu⟩ h7) (back z _ Oa ⟨k,_,h2,Mm⟩ h8)
   disj:=r.disj
   turns:=λy j a h1 h2 h3 h4=>by
    refine xe (bg.mp h3) λpj h3=>?_;rcases xK h3 with⟨rfl,rfl⟩|⟨hj,Lu⟩
    ·have e1:y=Ĝ:=r.inj y Ĝ _ h1 hi;subst e1;exact Tc a (Pt.same h4) h2
    ·have Nz:y≠Ĝ:=λe=>by subst e;rw[hi] at h1;exact hj (fz h1).symm
     exact r.turns y j a h1 h2 (by refine O Lu ?_;rfl) (back y _ Nz ⟨j,_,h1,Lu⟩ h4)}
 refine xe r.ns λm Fp=>?_;cases r.stores Ĝ hx with
 |loc hl=>
  refine wpAny_storeName_local hl Fp (λh' Nw Hg=>key kL.locals h' _ (.inl rfl) (λc u hc=>⟨u,hc.sameBut Hg (jL hc Fp)⟩) r.noL Hg (gy _) ⟨_,Nw⟩ (.loc _ hl Nw (by simp)) ?_ ?_ (λa Μ N _ q=>q)) (by refine O r.kind ?_;rfl)
  ·intro y u hy hb;cases hb with
   |loc m' h1 h2 h3=>
    refine .loc _ h1 Nw ?_;simp only[if_neg hy];have:=Ë.same (.loc m' h1 h2 h3) (Á:=kL) (h:=Ł.heap) (x:=y) (u:=u) (.loc m' h1 h2 h3);refine b9 Fp λo es ep a1 a2 a3 a4=>?_;clear Fp;refine b9 h2 λo' ž χ b1 b2 b3 b4=>?_;clear h2;rw[a1] at b1;cases b1;rw[a2] at b2;cases b2;exact(a4 y).symm.trans ((b4 y).trans h3)
   |cell c h1 h2 h3=>exact .cell c h1 h2 (h3.sameBut Hg (jL h3 Fp))
  ·intro y hy;cases r.stores y hy with
   |loc h=>exact .loc h
   |cell c Gz h1 h2 h3 h4=>exact .cell c Gz h1 h2 h3 (h4.sameBut Hg (jL h4 Fp))
 |cell c Gz hl hc Hz Ft=>
  refine wpAny_storeName_cell r.kind hl hc Ft λh' Jk Hg=>key c h' Ł.toks (.inr hc) (λc' u Jy=>by
   by_cases e:c'=c
   ·subst e;exact⟨_,Jk⟩
   ·exact⟨u,Jy.sameBut Hg e⟩) Hz Hg (ai _) ⟨m,Fp.sameBut Hg (qm (jL Ft Fp))⟩ (.cell c (.inl hl) hc Jk) ?_ ?_ (λa Μ N ho _=>rX ho Ft)
  ·intro y u hy hb;cases hb with
   |loc m' h1 h2 h3=>exact .loc m' h1 (h2.sameBut Hg (qm (jL Ft h2))) h3
   |cell c' h1 h2 h3=>exact .cell c' h1 h2 (h3.sameBut Hg λe=>hy (r.apart y Ĝ c' h2 (e▸hc)))
  ·intro y hy;cases r.stores y hy with
   |loc h=>exact .loc h
   |cell c' Ob h1 h2 h3 h4=>
    by_cases e:c'=c
    ·subst e;exact .cell c' _ h1 h2 h3 Jk
    ·exact .cell c' Ob h1 h2 h3 (h4.sameBut Hg e)
theorem dC:@κ cx asg Á s Na No pe x i v p Q M A E:=iY (a9 (a9 (a9 (bA (bA @κ))))) ((((((((((((((cx,asg),Á),s),Na),No),pe),x),i),v),p),Q),M),A),E) zC
theorem Ä.poke (r:Ä cx asg Á s Na No pe) (hb:Na b0) (ho:s.heap.get? b0=J o0) (Ft:∀v,o0.data≠.cell v)
  (hk:∀b o,b≠b0->s.heap.get? b=J o->s'.heap.get? b=J o) (hg:s.heap.objs.size<=s'.heap.objs.size) (ht:s.toks<=s'.toks) (Jz:pg s.gens->pg s'.gens):Ä cx asg Á s' Na No pe:= by
 have Hz:¬No b0:=λq=>r.disj b0 q hb;have S:Step s.heap (λb=>Na b\/No b) s'.heap (λb=>Na b\/No b):=⟨λb o hn e=>hk b o (λq=>hn (.inl (q▸hb))) e,hg,λ_ q=>.inl q⟩;have Jt:∀c v,s.heap.IsCell c v->c≠b0:= by
  rintro c v ⟨o,h1,h2⟩ rfl
  rw[ho] at h1;cases h1;exact Ft _ h2
 have Ka:∀c v,s.heap.IsCell c v->s'.heap.IsCell c v:=λc v h=>let ⟨o,h1,h2⟩:=h;⟨o,hk c o (Jt c v h) h1,h2⟩;have hL:Á.locals≠b0:=λe=>Hz (e▸r.noL);have Fp:∀m,s.heap.Ns Á.locals m->s'.heap.Ns Á.locals m:=λm h=>let ⟨o,es,ep,x,q⟩:=h;⟨o,es,ep,hk _ _ hL x,q⟩;have hB:∀y v,Ë Á s.heap y v->Ë Á s'.heap y v:=λy v h=>by
  cases h with
  |loc m a b c=>exact .loc m a (Fp m b) c
  |cell c a b d=>exact .cell c a b (Ka c _ d)
 have back:∀y i p v,cx.vars.lookup y=J i->lk pe i=J p->Ë Á s'.heap y v->Ë Á s.heap y v:=λy i p v hy hp b=>by
  refine Å (r.vars y i p hy hp) λu hu _=>?_;have:=(hB y u hu).same b;subst this;exact hu
 exact{
  base:={
   keep:=λb o e=>hk b o (λq=>by have:=r.base.above b0 (.inl hb);have h2:=dc e;rw[q] at h2;exact absurd h2 (bp.mpr this)) (r.base.keep b o e)
   above:=r.base.above
   size:=aa r.base.size hg
   low:=λb q=>af (r.base.low b q) hg
   toks:=af r.base.toks ht
   bare:=Jz r.base.bare}
  kind:=r.kind
  glb:=r.glb
  blt:=r.blt
  gl:=r.gl
  cl:=λy hy=>let ⟨h1,c,v,h2,h3⟩:=r.cl y hy;⟨h1,c,v,h2,Ka c v h3⟩
  ns:=let ⟨m,hm⟩:=r.ns;⟨m,Fp m hm⟩
  noL:=r.noL
  apart:=r.apart
  cellsLow:=λy c h=>af (r.cellsLow y c h) hg
  vars:=λy i p h1 h2=>by
   refine Å (r.vars y i p h1 h2) λv Iv hs=>?_;refine⟨v,hB y v Iv,?_,λh x t e=>⟨(hs.2 h x t e).1,af (hs.2 h x t e).2 ht⟩⟩;have h3:=hs.1;split
   ·rename_i hc;rw[if_pos hc] at h3;refine cH h3 λa e q1 q2 q3=>?_;clear h3;subst e;have Fy:a≠b0:=λe=>Hz (e▸r.turns y i a h1 hc (by refine O h2 ?_;rfl) Iv);refine⟨a,rfl,q1,q2,?_⟩;cases p<;>dsimp only[ø] at q3⊢
    ·refine Å q3 λvs h4 h5=>?_;exact⟨vs,h4.at λo e=>hk _ _ Fy e,h5.step S⟩
    ·refine sG q3 λHg Fk hd Hx=>?_;clear q3;refine mL hd λo es ep e q=>?_;exact⟨Hg,Fk,⟨o,es,ep,hk _ _ Fy e,q⟩,Hx⟩
   ·rename_i hc;rw[if_neg hc] at h3;exact h3.step S
  stores:=λy hy=>by
   cases r.stores y hy with
   |loc h=>exact .loc h
   |cell c Gz h1 h2 h3 h4=>exact .cell c Gz h1 h2 h3 (Ka c _ h4)
  inj:=r.inj
  alone:=λy z i j a h1 h2 h3 h4 h5 h6 h7 h8=>by
   refine xe (bg.mp h3) λp hp=>?_;refine xe (bg.mp h4) λq hq=>?_;exact r.alone y z i j a h1 h2 h3 h4 h5 h6 (back y i p _ h1 hp h7) (back z j q _ h2 hq h8)
  disj:=r.disj
  turns:=λy i a h1 h2 h3 h4=>by
   refine xe (bg.mp h3) λp hp=>?_;exact r.turns y i a h1 h2 h3 (back y i p _ h1 hp h4)}
theorem Ä.pokes{Z Na':Ap}(r:Ä cx asg Á s Na No pe) (hZ:∀b,Z b->Na b) (Ft:∀y c,Á.cells.lookup y=J c->¬Z c) (n1:∀b,Na b->Na' b) (n2:∀b,Na' b->Na b\/s.heap.objs.size<=b) (n3:ď Na' s'.heap)
  (hk:∀b o,¬Z b->s.heap.get? b=J o->s'.heap.get? b=J o) (hg:s.heap.objs.size<=s'.heap.objs.size) (ht:s.toks<=s'.toks) (Jz:pg s.gens->pg s'.gens):Ä cx asg Á s' Na' No pe:= by
 have Hz:∀b,Z b->¬No b:=λb z q=>r.disj b q (hZ b z);have S:Step s.heap (λb=>Na b\/No b) s'.heap (λb=>Na' b\/No b):=⟨λb o hn e=>hk b o (λq=>hn (.inl (hZ b q))) e,hg,λb q=>q.elim (λq=>(n2 b q).elim (λq=>.inl (.inl q)) .inr) λq=>.inl (.inr q)⟩;have Ka:∀c v,¬Z c->s.heap.IsCell c v->s'.heap.IsCell c v:=λc v hz h=>let ⟨o,h1,h2⟩:=h;⟨o,hk c o hz h1,h2⟩;have hL:¬Z Á.locals:=λe=>Hz _ e r.noL;have Fp:∀m,s.heap.Ns Á.locals m->s'.heap.Ns Á.locals m:=λm h=>let ⟨o,es,ep,x,q⟩:=h;⟨o,es,ep,hk _ _ hL x,q⟩;have hB:∀y v,Ë Á s.heap y v->Ë Á s'.heap y v:=λy v h=>by
  cases h with
  |loc m a b c=>exact .loc m a (Fp m b) c
  |cell c a b d=>exact .cell c a b (Ka c _ (Ft y c b) d)
 have back:∀y i p v,cx.vars.lookup y=J i->lk pe i=J p->Ë Á s'.heap y v->Ë Á s.heap y v:=λy i p v hy hp b=>by
  refine Å (r.vars y i p hy hp) λu hu _=>?_;have:=(hB y u hu).same b;subst this;exact hu
 exact{
  base:={
   keep:=λb o e=>hk b o (λq=>absurd (dc e) (bp.mpr (r.base.above b (.inl (hZ b q))))) (r.base.keep b o e)
   above:=λb q=>q.elim (λq=>(n2 b q).elim (λq=>r.base.above b (.inl q)) λq=>aa r.base.size q) λq=>r.base.above b (.inr q)
   size:=aa r.base.size hg
   low:=λb q=>q.elim (n3 b) λq=>af (r.base.low b (.inr q)) hg
   toks:=af r.base.toks ht
   bare:=Jz r.base.bare}
  kind:=r.kind
  glb:=r.glb
  blt:=r.blt
  gl:=r.gl
  cl:=λy hy=>let ⟨h1,c,v,h2,h3⟩:=r.cl y hy;⟨h1,c,v,h2,Ka c v (Ft y c h2) h3⟩
  ns:=let ⟨m,hm⟩:=r.ns;⟨m,Fp m hm⟩
  noL:=r.noL
  apart:=r.apart
  cellsLow:=λy c h=>af (r.cellsLow y c h) hg
  vars:=λy i p h1 h2=>by
   refine Å (r.vars y i p h1 h2) λv Iv hs=>?_;refine⟨v,hB y v Iv,?_,λh x t e=>⟨(hs.2 h x t e).1,af (hs.2 h x t e).2 ht⟩⟩;have h3:=hs.1;split
   ·rename_i hc;rw[if_pos hc] at h3;refine cH h3 λa e q1 q2 q3=>?_;clear h3;subst e;have Fy:¬Z a:=λe=>Hz a e (r.turns y i a h1 hc (by refine O h2 ?_;rfl) Iv);refine⟨a,rfl,q1.elim (λq=>.inl (n1 a q)) .inr,q2,?_⟩;cases p<;>dsimp only[ø] at q3⊢
    ·refine Å q3 λvs h4 h5=>?_;exact⟨vs,h4.at λo e=>hk _ _ Fy e,h5.step S⟩
    ·refine sG q3 λHg Fk hd Hx=>?_;clear q3;refine mL hd λo es ep e q=>?_;exact⟨Hg,Fk,⟨o,es,ep,hk _ _ Fy e,q⟩,Hx⟩
   ·rename_i hc;rw[if_neg hc] at h3;exact h3.step S
  stores:=λy hy=>by
   cases r.stores y hy with
   |loc h=>exact .loc h
   |cell c Gz h1 h2 h3 h4=>exact .cell c Gz h1 h2 h3 (Ka c _ (Ft y c h2) h4)
  inj:=r.inj
  alone:=λy z i j a h1 h2 h3 h4 h5 h6 h7 h8=>by
   refine xe (bg.mp h3) λp hp=>?_;refine xe (bg.mp h4) λq hq=>?_;exact r.alone y z i j a h1 h2 h3 h4 h5 h6 (back y i p _ h1 hp h7) (back z j q _ h2 hq h8)
  disj:=λb hb ha=>(n2 b ha).elim (r.disj b hb) λq=>gn _ (af (r.base.low b (.inr hb)) q)
  turns:=λy i a h1 h2 h3 h4=>by
   refine xe (bg.mp h3) λp hp=>?_;exact r.turns y i a h1 h2 h3 (back y i p _ h1 hp h4)}
theorem Ä.wideA (r:Ä cx asg Á s Na No pe) (x:Pure s s') (h1:∀b,Na b->Na' b) (h2:∀b,Na' b->Na b\/s.heap.objs.size<=b) (h3:ď Na' s'.heap):Ä cx asg Á s' Na' No pe:= by
 have r':=r.pure x;have S:Step s.heap (λb=>Na b\/No b) s'.heap (λb=>Na' b\/No b):=⟨λb o _ e=>x.keep b o e,x.step.grow,λb q=>q.elim (λq=>(h2 b q).elim (λq=>.inl (.inl q)) .inr) λq=>.inl (.inr q)⟩;exact{r' with
  base:={r'.base with
   above:=λb q=>q.elim (λq=>(h2 b q).elim (λq=>r.base.above b (.inl q)) λq=>aa r.base.size q) λq=>r.base.above b (.inr q)
   low:=λb q=>q.elim (h3 b) λq=>r'.base.low b (.inr q)}
  vars:=λy i p q1 q2=>by
   refine Å (r.vars y i p q1 q2) λv hb hs=>?_;refine(gQ v (hb.keeps x.keep) ?_ (λh z t e=>⟨(hs.2 h z t e).1,af (hs.2 h z t e).2 (Õ.toks x)⟩));have h3:=hs.1;split
   ·rename_i hc;rw[if_pos hc] at h3;refine cH h3 λa e q1 q2 q3=>?_;clear h3;refine(iH a e (q1.elim (λq=>.inl (h1 a q)) .inr) q2 ?_);cases p<;>dsimp only[ø] at q3⊢
    ·refine Å q3 λvs h4 h5=>?_;exact(Ö vs (h4.at λo e=>x.keep _ _ e) (h5.step S))
    ·refine sG q3 λHg Fk hd Hx=>?_;exact(sI Hg Fk (hd.keep x.keep) Hx)
   ·rename_i hc;rw[if_neg hc] at h3;exact h3.step S
  disj:=λb hb ha=>(h2 b ha).elim (r.disj b hb) λq=>gn _ (af (r.base.low b (.inr hb)) q)}
theorem Ä.narrow (r:Ä cx asg Á s Na' No pe) (h1:∀b,Na b->Na' b):Ä cx asg Á s Na No pe:=
 {r with
  base:={r.base with
   above:=λb q=>r.base.above b (q.elim (λq=>.inl (h1 b q)) .inr)
   low:=λb q=>r.base.low b (q.elim (λq=>.inl (h1 b q)) .inr)}
  vars:=λy i p q1 q2=>by
   refine Å (r.vars y i p q1 q2) λv hb hs=>?_;refine(gQ v hb ?_ hs.2);have h3:=hs.1;split
   ·rename_i hc;rw[if_pos hc] at h3;refine cH h3 λa e q3 q4 q5=>?_;clear h3;subst e;refine(iH a rfl (.inr (r.turns y i a q1 hc (by refine O q2 ?_;rfl) hb)) q4 ?_);cases p<;>dsimp only[ø] at q5⊢
    ·refine Å q5 λvs h4 h5=>?_;exact(Ö vs h4 (h5.weak' λb q=>q.elim (λq=>.inl (h1 b q)) .inr))
    ·exact q5
   ·rename_i hc;rw[if_neg hc] at h3;exact h3.weak' λb q=>q.elim (λq=>.inl (h1 b q)) .inr
  disj:=λb hb ha=>r.disj b hb (h1 b ha)}
theorem Ä.grow (r:Ä cx asg Á s Na No pe) (x:Pure s s') (h1:∀b,Na b->Na' b) (h2:∀b,Na' b->Na b\/s.heap.objs.size<=b) (h3:ď Na' s'.heap)
  (k1:∀b,No b->No' b) (k2:∀b,No' b->No b\/s.heap.objs.size<=b) (k3:ď No' s'.heap) (hd:∀b,No' b->¬Na' b):Ä cx asg Á s' Na' No' pe:= by
 have r':=r.wide (No':=No') ⟨x,k1,k2,k3⟩;have S:Step s.heap (λb=>Na b\/No b) s'.heap (λb=>Na' b\/No' b):=⟨λb o _ e=>x.keep b o e,x.step.grow,λb q=>q.elim (λq=>(h2 b q).elim (λq=>.inl (.inl q)) .inr) λq=>(k2 b q).elim (λq=>.inl (.inr q)) .inr⟩;exact{r' with
  base:={r'.base with
   above:=λb q=>q.elim (λq=>(h2 b q).elim (λq=>r.base.above b (.inl q)) λq=>aa r.base.size q) λq=>r'.base.above b (.inr q)
   low:=λb q=>q.elim (h3 b) λq=>r'.base.low b (.inr q)}
  vars:=λy i p q1 q2=>by
   refine Å (r.vars y i p q1 q2) λv hb hs=>?_;refine(gQ v (hb.keeps x.keep) ?_ (λh z t e=>⟨(hs.2 h z t e).1,af (hs.2 h z t e).2 (Õ.toks x)⟩));have h3:=hs.1;split
   ·rename_i hc;rw[if_pos hc] at h3;refine cH h3 λa e q1 q2 q3=>?_;clear h3;refine(iH a e (q1.elim (λq=>.inl (h1 a q)) (λq=>.inr (k1 a q))) q2 ?_);cases p<;>dsimp only[ø] at q3⊢
    ·refine Å q3 λvs h4 h5=>?_;exact(Ö vs (h4.at λo e=>x.keep _ _ e) (h5.step S))
    ·refine sG q3 λHg Fk hd Hx=>?_;exact(sI Hg Fk (hd.keep x.keep) Hx)
   ·rename_i hc;rw[if_neg hc] at h3;exact h3.step S
  disj:=hd}
end
mutual
inductive PE where
 |cst (c:PV)
 |gcst (c:PV)
 |var (i:Nat)
 |bin (op:ir) (a b:PE)
 |neg (a:PE)
 |not (a:PE)
 |and (a b:PE)
 |or (a b:PE)
 |ite (t a b:PE)
 |cmp (op:Cs) (a b:PE)
 |sub (a i:PE)
 |slc (a lo hi st:PE)
 |list (es:Ĕ)
 |tup (es:Ĕ)
 |dict (es:Ĕ)
 |comp (Gk:PE) (tgt:Nat) (Fx:PI) (By:Bool) (cond:PE)
 |call (f:Nat) (es:Ĕ)
 |callB (f:Nat) (es:Ĕ)
 |bi (f:Bi) (es:Ĕ)
 |me (f:Me) (o:PE) (es:Ĕ)
 |repl (o:PE) (y:Str) (t:PE) (i:Nat) (z:Str)
inductive Ĕ where
 |nil
 |cons (e:PE) (es:Ĕ)
inductive PI where
 |val (e:PE)
 |rng1 (e:PE)
 |rng2 (e f:PE)
 |rng3 (e f:PE)
end
inductive Fl where
 |next
 |ret (p:PV)
mutual
inductive PS where
 |asg (i:Nat) (e:PE)
 |asgO (i:Nat) (e:PE)
 |asgT (ts:List Nat) (e:PE)
 |aug (i:Nat) (op:ir) (e:PE)
 |ext (i:Nat) (e:PE)
 |app (i:Nat) (e:PE)
 |pop (j i:Nat)
 |ite (t:PE) (a b:ù)
 |for (ts:List Nat) (Fx:PI) (body:ù)
 |esc (ts:List Nat) (e:PE) (body:ù)
 |while (fuel:Nat) (t:PE) (body:ù)
 |ret (e:PE)
inductive ù where
 |nil
 |cons (s:PS) (ss:ù)
end
noncomputable def tY:PV->Option (List PV)
 |.lst l=>if l.length<=100000 then J l else Ww
 |.tup l=>if l.length<=100000 then J l else Ww
 |.str x=>if x.length<=100000/\x.cps.all (·<128) then J (x.cps.toList.map λc=>.str ⟨#[c]⟩) else Ww
 |_=>Ww
noncomputable def mS (a b:Int):Option (List PV):=
 if -(2^40)<a/\a<2^40/\-(2^40)<b/\b<2^40/\b-a<=100000 then J ((cv (b-a).toNat).map λk:Nat=>PV.int (a+(k:Int))) else Ww
noncomputable def t6 (a b:Int):Option (List PV):=
 if -(2^40)<a/\a<2^40/\-(2^40)<b/\b<2^40/\a-b<=100000 then J ((cv (a-b).toNat).map λk:Nat=>PV.int (a-(k:Int))) else Ww
def eP:List Nat->List PV->Ã->Option Ã
 |[],l,pe=>match l with
  |[]=>J pe
  |_::_=>Ww
 |i::ts,l,pe=>match l with
  |[]=>Ww
  |p::ps=>eP ts ps (st pe i p)
def nY (ts:List Nat) (p:PV) (pe:Ã):Option Ã:=match ts with
 |[]=>Ww
 |i::ts=>match ts with
  |[]=>J (st pe i p)
  |j::ts=>match p with
   |.tup l=>eP (i::j::ts) l pe
   |.lst l=>eP (i::j::ts) l pe
   |_=>Ww
noncomputable def isB:PV->Option Bool
 |.bool b=>J b
 |_=>Ww
noncomputable def isL:PV->Option (List PV)
 |.lst l=>J l
 |_=>Ww
theorem YY{p:PV}{b:Bool}(h:isB p=J b):p=.bool b:=by cases p<;>first|exact nn h|(cases h;rfl)
theorem aDY{p:PV}{l:List PV}(h:isL p=J l):p=.lst l:=by cases p<;>first|exact nn h|(cases h;rfl)
theorem US{p:PV}{n:Int}(h:l9 p=J n):p=.int n:=by cases p<;>first|exact nn h|(cases h;rfl)
theorem UT{p:PV}{s:Str}(h:tX p=J s):p=.str s:=by cases p<;>first|exact nn h|(cases h;rfl)
def eU (c:Ã->Option PV) (e:Ã->Option PV) (By:Bool) (tg:Nat) (pe:Ã):List PV->Option (List PV)
 |[]=>J []
 |p::l=>(if By then c (st pe tg p) else J (.bool Wu)).bind λq=>(isB q).bind λb=>bif b then(e (st pe tg p)).bind λv=>(eU c e By tg pe l).bind λr=>J (v::r) else eU c e By tg pe l
theorem i7 (h1:ee (st pe tg p)=J v) (h2:eU cc ee Wv tg pe l=J r):eU cc ee Wv tg pe (p::l)=J (v::r):=(bs h1).trans (bs h2)
theorem UU (h:cc (st pe tg p)=J (.bool Wv)) (h2:eU cc ee Wu tg pe l=J r):eU cc ee Wu tg pe (p::l)=J r:=(bs h).trans h2
theorem UV (h:cc (st pe tg p)=J (.bool Wu)) (h1:ee (st pe tg p)=J v) (h2:eU cc ee Wu tg pe l=J r):eU cc ee Wu tg pe (p::l)=J (v::r):=(bs h).trans ((bs h1).trans (bs h2))
noncomputable def mT:PV->Option (Option Int)
 |.none=>J Ww
 |.int i=>J (J i)
 |_=>Ww
noncomputable def aFJ:PV->Option SV
 |.int v=>J (.i v)
 |.str v=>J (.t v)
 |_=>Ww
def nZ:List PV->Option (List (Int×SV))
 |[]=>J []
 |x::l=>match l with
  |[]=>Ww
  |y::r=>(l9 x).bind λk=>(aFJ y).bind λa=>(nZ r).bind λl=>if (l.map (·.1)).contains k then Ww else J ((k,a)::l)
mutual
def aB (F:Fn):PE->Ã->Option PV
 |.cst c,_=>J c
 |.gcst c,_=>J c
 |.var i,pe=>lk pe i
 |.bin op a b,pe=>(aB F a pe).bind λx=>(aB F b pe).bind λy=>iJ op x y
 |.neg a,pe=>(aB F a pe).bind λp=>(l9 p).bind λx=>J (.int (-x))
 |.not a,pe=>(aB F a pe).bind λp=>(isB p).bind λx=>J (.bool (!x))
 |.and a b,pe=>(aB F a pe).bind λp=>(isB p).bind λx=>bif x then(aB F b pe).bind λq=>(isB q).bind λy=>J (.bool y) else J (.bool Wv)
 |.or a b,pe=>(aB F a pe).bind λp=>(isB p).bind λx=>bif x then J (.bool Wu) else(aB F b pe).bind λq=>(isB q).bind λy=>J (.bool y)
 |.ite t a b,pe=>(aB F t pe).bind λp=>(isB p).bind λx=>bif x then aB F a pe else aB F b pe
 |.cmp op a b,pe=>(aB F a pe).bind λx=>(aB F b pe).bind λy=>(mI op x y).map .bool
 |.sub a i,pe=>(aB F a pe).bind λx=>(aB F i pe).bind λy=>iT x y
 |.slc a lo hi st,pe=>(aB F a pe).bind λx=>(aB F lo pe).bind λl=>(aB F hi pe).bind λh=>(aB F st pe).bind λs=>(mT l).bind λl=>(mT h).bind λh=>(mT s).bind λs=>f8 x l h s
 |.list es,pe=>(cC F es pe).map .lst
 |.tup es,pe=>(cC F es pe).map .tup
 |.dict es,pe=>(cC F es pe).bind λl=>(nZ l).map .dcti
 |.comp Gk tg Fx By c,pe=>(jM F Fx pe).bind λÀ=>(eU (aB F c) (aB F Gk) By tg pe À).map .lst
 |.call f es,pe=>(cC F es pe).bind λl=>F f l
 |.callB f es,pe=>(cC F es pe).bind λl=>(F f l).bind λr=>if r.scalar then J r else Ww
 |.bi f es,pe=>(cC F es pe).bind λl=>ċ f l
 |.me f o es,pe=>(aB F o pe).bind λx=>(cC F es pe).bind λl=>ŏ f x l
 |.repl o y t i z,pe=>(aB F o pe).bind λp=>(tX p).bind λx=>(aB F t pe).bind λq=>(isB q).bind λb=>(lk pe i).bind λw=>(tX w).bind λu=>
   if x.length<=1000/\u.length<=10/\z.length<=10/\(y==u)=Wv/\(y==z)=Wv then J (.str (Txt.replace x y (if b then u else z))) else Ww
def cC (F:Fn):Ĕ->Ã->Option (List PV)
 |.nil,_=>J []
 |.cons e es,pe=>(aB F e pe).bind λx=>(cC F es pe).bind λl=>J (x::l)
def jM (F:Fn):PI->Ã->Option (List PV)
 |.val e,pe=>(aB F e pe).bind tY
 |.rng1 e,pe=>(aB F e pe).bind λp=>(l9 p).bind λn=>mS 0 n
 |.rng2 e f,pe=>(aB F e pe).bind λp=>(l9 p).bind λa=>(aB F f pe).bind λq=>(l9 q).bind λb=>mS a b
 |.rng3 e f,pe=>(aB F e pe).bind λp=>(l9 p).bind λa=>(aB F f pe).bind λq=>(l9 q).bind λb=>t6 a b
end
noncomputable def thn (k:Ã->Option (Ã×Fl)) (x:Ã×Fl):Option (Ã×Fl):=match x.2 with
 |.next=>k x.1
 |.ret v=>J (x.1,.ret v)
def e9 (body:Ã->Option (Ã×Fl)) (tg:List Nat):List PV->Ã->Option (Ã×Fl)
 |[],pe=>J (pe,.next)
 |p::l,pe=>(nY tg p pe).bind λpe1=>(body pe1).bind (thn (e9 body tg l))
noncomputable def g6 (t:Ã->Option PV) (body:Ã->Option (Ã×Fl)):Nat->Ã->Option (Ã×Fl)
 |0,_=>Ww
 |n+1,pe=>(t pe).bind λp=>(isB p).bind λb=>bif b then(body pe).bind (thn (g6 t body n)) else J (pe,.next)
noncomputable def gR:Nat->Bool->List Nat->List PV
 |k,Wu,[]=>[.tup [.int ((k:Int)-1),.str ⟨#[92]⟩]]
 |_,Wv,[]=>[]
 |k,Wu,c::l=>.tup [.int k,.str ⟨#[92,c]⟩]::gR (k+1) Wv l
 |k,Wv,c::l=>if c=92 then gR (k+1) Wu l else .tup [.int k,.str ⟨#[c]⟩]::gR (k+1) Wv l
theorem aAL:gR k Wv (c::l)=if c=92 then gR (k+1) Wu l else .tup [.int k,.str ⟨#[c]⟩]::gR (k+1) Wv l:=rfl
def mU:PV->Option (List PV)
 |.str x=>if x.length<=10000/\x.cps.all (·<128) then J (gR 0 Wv x.cps.toList) else Ww
 |_=>Ww
noncomputable def UW:ir->PV->PV->Option PV
 |.Add,.int x,.int y=>J (.int (x+y))
 |.Sub,.int x,.int y=>J (.int (x-y))
 |.Add,.str x,.str y=>if x.length+y.length<=100000 then J (.str (x++y)) else Ww
 |_,_,_=>Ww
mutual
def dH (F:Fn):PS->Ã->Option (Ã×Fl)
 |.asg i e,pe=>(aB F e pe).bind λp=>J (st pe i p,.next)
 |.asgO i e,pe=>(aB F e pe).bind λp=>(isL p).bind λl=>J (st pe i (.lst l),.next)
 |.asgT ts e,pe=>(aB F e pe).bind λp=>(nY ts p pe).bind λpe'=>J (pe',.next)
 |.aug i op e,pe=>(lk pe i).bind λx=>(aB F e pe).bind λy=>(UW op x y).bind λz=>J (st pe i z,.next)
 |.ext i e,pe=>(lk pe i).bind λp=>(isL p).bind λx=>(aB F e pe).bind λq=>(isL q).bind λy=>if x.length+y.length<=100000 then J (st pe i (.lst (x++y)),.next) else Ww
 |.app i e,pe=>(lk pe i).bind λp=>(isL p).bind λx=>(aB F e pe).bind λy=>if x.length<=100000 then J (st pe i (.lst (x++[y])),.next) else Ww
 |.pop j i,pe=>(lk pe i).bind λp=>(isL p).bind λx=>x.getLast?.bind λy=>if x.length<=100000 then J (st (st pe i (.lst x.dropLast)) j y,.next) else Ww
 |.ite t a b,pe=>(aB F t pe).bind λp=>(isB p).bind λx=>bif x then aD F a pe else aD F b pe
 |.for ts Fx body,pe=>(jM F Fx pe).bind λÀ=>e9 (aD F body) ts À pe
 |.esc ts e body,pe=>(aB F e pe).bind λp=>(mU p).bind λÀ=>e9 (aD F body) ts À pe
 |.while n t body,pe=>g6 (aB F t) (aD F body) n pe
 |.ret e,pe=>(aB F e pe).bind λp=>J (pe,.ret p)
def aD (F:Fn):ù->Ã->Option (Ã×Fl)
 |.nil,pe=>J (pe,.next)
 |.cons s ss,pe=>(dH F s pe).bind (thn (aD F ss))
end
theorem bG{α:Type}{m n:Nat}{f:m=n->Option α}{x:α}(h:(if h:m=n then f h else Ww)=J x):∃c,f c=J x:= by
 by_cases c:m=n
 ·rw[dif_pos c] at h;exact⟨c,h⟩
 ·rw[dif_neg c] at h;exact nn h
theorem aC{α:Type}{o:Option α}{f:α->Bool}(h:o.any f=Wu):∃x,o=J x/\f x=Wu:= by
 cases o with
 |none=>exact nf h
 |some x=>exact(Ö x rfl h)
noncomputable def lz0{α:Type}(l:List α):Bool:=l.isEmpty
theorem cP{α:Type}{l:List α}(h:lz0 l=Wu):l=[]:=by cases l with|nil=>rfl|cons=>exact nf h
noncomputable def ħ{α:Type}(l:List α):Option α:=match l with
 |[]=>Ww
 |a::l=>if l.isEmpty then J a else Ww
theorem cU{α:Type}{l:List α}{a:α}(h:ħ l=J a):l=[a]:= by
 cases l with
 |nil=>exact nn h
 |cons b l=>exact O (cP (aZ h).1) (O (sm (aZ h).2) rfl)
def lz2{α:Type}(l:List α):Option (α×α):=match l with
 |[]=>Ww
 |a::l=>(ħ l).map λb=>(a,b)
theorem lE{α:Type}{l:List α}{x:α×α}(h:lz2 l=J x):l=[x.1,x.2]:= by
 cases l with
 |nil=>exact nn h
 |cons b l=>apply sH (ce.mp h);intro c h1;exact O (cU h1) rfl
def lz3{α:Type}(l:List α):Option (α×α×α):=match l with
 |[]=>Ww
 |a::l=>(lz2 l).map λb=>(a,b)
theorem UX{α:Type}{l:List α}{x:α×α×α}(h:lz3 l=J x):l=[x.1,x.2.1,x.2.2]:= by
 cases l with
 |nil=>exact nn h
 |cons b l=>apply sH (ce.mp h);intro c h1;exact O (lE h1) rfl
noncomputable def t7 (e:az):Option (Bu):=if h:e.ctorIdx=19 then sv (motive_1:=λ_=>Option (Bu)) e h (λk _ _=>J k) else Ww
theorem lF{e:az}{x:Bu}(h:t7 e=J x):∃n' p',e=.Constant x n' p':= by
 obtain⟨c,h⟩:=bG h;exact sv (motive_1:=λe=>∀c,sv (motive_1:=λ_=>Option (Bu)) e c (λk _ _=>J k)=J x->∃n' p',e=.Constant x n' p') e c (λ_ _ _ c h=>by cases sm h;exact(Ů _ _ rfl)) c h
noncomputable def mB (e:az):Option (Str):=if h:e.ctorIdx=23 then wu (motive_1:=λ_=>Option (Str)) e h (λx1 _=>J x1) else Ww
theorem eR{e:az}{x:Str}(h:mB e=J x):∃p',e=.Name x p':= by
 obtain⟨c,h⟩:=bG h;exact wu (motive_1:=λe=>∀c,wu (motive_1:=λ_=>Option (Str)) e c (λx1 _=>J x1)=J x->∃p',e=.Name x p') e c (λ_ _ c h=>by cases sm h;exact⟨_,rfl⟩) c h
noncomputable def aDZ (e:az):Option (az×ir×az):=if h:e.ctorIdx=2 then wc (motive_1:=λ_=>Option (az×ir×az)) e h (λl o r _=>J (l,o,r)) else Ww
theorem NN{e:az}{x:az×ir×az}(h:aDZ e=J x):∃p',e=.BinOp x.1 x.2.1 x.2.2 p':= by
 obtain⟨c,h⟩:=bG h;exact wc (motive_1:=λe=>∀c,wc (motive_1:=λ_=>Option (az×ir×az)) e c (λl o r _=>J (l,o,r))=J x->∃p',e=.BinOp x.1 x.2.1 x.2.2 p') e c (λ_ _ _ _ c h=>by cases sm h;exact⟨_,rfl⟩) c h
noncomputable def ι (e:az):Option (zh×az):=if h:e.ctorIdx=3 then tw (motive_1:=λ_=>Option (zh×az)) e h (λo a _=>J (o,a)) else Ww
theorem zE{e:az}{x:zh×az}(h:ι e=J x):∃p',e=.UnaryOp x.1 x.2 p':= by
 obtain⟨c,h⟩:=bG h;exact tw (motive_1:=λe=>∀c,tw (motive_1:=λ_=>Option (zh×az)) e c (λo a _=>J (o,a))=J x->∃p',e=.UnaryOp x.1 x.2 p') e c (λ_ _ _ c h=>by cases sm h;exact⟨_,rfl⟩) c h
noncomputable def NO (e:az):Option (Bv×List az):=if h:e.ctorIdx=0 then uq (motive_1:=λ_=>Option (Bv×List az)) e h (λo l _=>J (o,l)) else Ww
theorem xL{e:az}{x:Bv×List az}(h:NO e=J x):∃p',e=.BoolOp x.1 x.2 p':= by
 obtain⟨c,h⟩:=bG h;exact uq (motive_1:=λe=>∀c,uq (motive_1:=λ_=>Option (Bv×List az)) e c (λo l _=>J (o,l))=J x->∃p',e=.BoolOp x.1 x.2 p') e c (λ_ _ _ c h=>by cases sm h;exact⟨_,rfl⟩) c h
noncomputable def vIf (e:az):Option (az×az×az):=if h:e.ctorIdx=5 then wd (motive_1:=λ_=>Option (az×az×az)) e h (λc1 a b _=>J (c1,a,b)) else Ww
theorem GP{e:az}{x:az×az×az}(h:vIf e=J x):∃p',e=.IfExp x.1 x.2.1 x.2.2 p':= by
 obtain⟨c,h⟩:=bG h;exact wd (motive_1:=λe=>∀c,wd (motive_1:=λ_=>Option (az×az×az)) e c (λc1 a b _=>J (c1,a,b))=J x->∃p',e=.IfExp x.1 x.2.1 x.2.2 p') e c (λ_ _ _ _ c h=>by cases sm h;exact⟨_,rfl⟩) c h
noncomputable def aD0 (e:az):Option (az×List Cs×List az):=if h:e.ctorIdx=15 then ty (motive_1:=λ_=>Option (az×List Cs×List az)) e h (λl o r _=>J (l,o,r)) else Ww
theorem NP{e:az}{x:az×List Cs×List az}(h:aD0 e=J x):∃p',e=.Compare x.1 x.2.1 x.2.2 p':= by
 obtain⟨c,h⟩:=bG h;exact ty (motive_1:=λe=>∀c,ty (motive_1:=λ_=>Option (az×List Cs×List az)) e c (λl o r _=>J (l,o,r))=J x->∃p',e=.Compare x.1 x.2.1 x.2.2 p') e c (λ_ _ _ _ c h=>by cases sm h;exact⟨_,rfl⟩) c h
noncomputable def aAM (e:az):Option (az×az):=if h:e.ctorIdx=21 then ro (motive_1:=λ_=>Option (az×az)) e h (λa i _=>J (a,i)) else Ww
theorem BH{e:az}{x:az×az}(h:aAM e=J x):∃p',e=.Subscript x.1 x.2 p':= by
 obtain⟨c,h⟩:=bG h;exact ro (motive_1:=λe=>∀c,ro (motive_1:=λ_=>Option (az×az)) e c (λa i _=>J (a,i))=J x->∃p',e=.Subscript x.1 x.2 p') e c (λ_ _ _ c h=>by cases sm h;exact⟨_,rfl⟩) c h
noncomputable def NQ (e:az):Option (Option az×Option az×Option az):=if h:e.ctorIdx=26 then we (motive_1:=λ_=>Option (Option az×Option az×Option az)) e h (λl u s _=>J (l,u,s)) else Ww
theorem D0{e:az}{x:Option az×Option az×Option az}(h:NQ e=J x):∃p',e=.Slice x.1 x.2.1 x.2.2 p':= by
 obtain⟨c,h⟩:=bG h;exact we (motive_1:=λe=>∀c,we (motive_1:=λ_=>Option (Option az×Option az×Option az)) e c (λl u s _=>J (l,u,s))=J x->∃p',e=.Slice x.1 x.2.1 x.2.2 p') e c (λ_ _ _ _ c h=>by cases sm h;exact⟨_,rfl⟩) c h
noncomputable def YZ (e:az):Option (List az):=if h:e.ctorIdx=24 then wv (motive_1:=λ_=>Option (List az)) e h (λl _=>J l) else Ww
theorem I0{e:az}{x:List az}(h:YZ e=J x):∃p',e=.List x p':= by
 obtain⟨c,h⟩:=bG h;exact wv (motive_1:=λe=>∀c,wv (motive_1:=λ_=>Option (List az)) e c (λl _=>J l)=J x->∃p',e=.List x p') e c (λ_ _ c h=>by cases sm h;exact⟨_,rfl⟩) c h
noncomputable def I1 (e:az):Option (List az):=if h:e.ctorIdx=25 then ph (motive_1:=λ_=>Option (List az)) e h (λl _ _=>J l) else Ww
theorem t8{e:az}{x:List az}(h:I1 e=J x):∃k' p',e=.Tuple x k' p':= by
 obtain⟨c,h⟩:=bG h;exact ph (motive_1:=λe=>∀c,ph (motive_1:=λ_=>Option (List az)) e c (λl _ _=>J l)=J x->∃k' p',e=.Tuple x k' p') e c (λ_ _ _ c h=>by cases sm h;exact(Ů _ _ rfl)) c h
noncomputable def Y5 (e:az):Option (List (Option az)×List az):=if h:e.ctorIdx=6 then ww (motive_1:=λ_=>Option (List (Option az)×List az)) e h (λk v _=>J (k,v)) else Ww
theorem I2{e:az}{x:List (Option az)×List az}(h:Y5 e=J x):∃p',e=.Dict x.1 x.2 p':= by
 obtain⟨c,h⟩:=bG h;exact ww (motive_1:=λe=>∀c,ww (motive_1:=λ_=>Option (List (Option az)×List az)) e c (λk v _=>J (k,v))=J x->∃p',e=.Dict x.1 x.2 p') e c (λ_ _ _ c h=>by cases sm h;exact⟨_,rfl⟩) c h
noncomputable def Y6 (e:az):Option (az×List qx×jx):=if h:e.ctorIdx=8 then pt (motive_1:=λ_=>Option (az×List qx×jx)) e h (λa g s _=>J (a,g,s)) else Ww
theorem I3{e:az}{x:az×List qx×jx}(h:Y6 e=J x):∃p',e=.ListComp x.1 x.2.1 x.2.2 p':= by
 obtain⟨c,h⟩:=bG h;exact pt (motive_1:=λe=>∀c,pt (motive_1:=λ_=>Option (az×List qx×jx)) e c (λa g s _=>J (a,g,s))=J x->∃p',e=.ListComp x.1 x.2.1 x.2.2 p') e c (λ_ _ _ _ c h=>by cases sm h;exact⟨_,rfl⟩) c h
noncomputable def kM (e:az):Option (az×List az×List vw×Pos):=if h:e.ctorIdx=16 then wx (motive_1:=λ_=>Option (az×List az×List vw×Pos)) e h (λg a k p=>J (g,a,k,p)) else Ww
theorem cX{e:az}{x:az×List az×List vw×Pos}(h:kM e=J x):e=.Call x.1 x.2.1 x.2.2.1 x.2.2.2:= by
 obtain⟨c,h⟩:=bG h;exact wx (motive_1:=λe=>∀c,wx (motive_1:=λ_=>Option (az×List az×List vw×Pos)) e c (λg a k p=>J (g,a,k,p))=J x->e=.Call x.1 x.2.1 x.2.2.1 x.2.2.2) e c (λ_ _ _ _ c h=>by cases sm h;rfl) c h
noncomputable def GQ (e:az):Option (az×Str×Pos):=if h:e.ctorIdx=20 then rx (motive_1:=λ_=>Option (az×Str×Pos)) e h (λa n p=>J (a,n,p)) else Ww
theorem qP{e:az}{x:az×Str×Pos}(h:GQ e=J x):e=.Attribute x.1 x.2.1 x.2.2:= by
 obtain⟨c,h⟩:=bG h;exact rx (motive_1:=λe=>∀c,rx (motive_1:=λ_=>Option (az×Str×Pos)) e c (λa n p=>J (a,n,p))=J x->e=.Attribute x.1 x.2.1 x.2.2) e c (λ_ _ _ c h=>by cases sm h;rfl) c h
noncomputable def D1 (o:zh):Bool:=o.ctorIdx==zh.USub.ctorIdx
noncomputable def Y7 (o:zh):Bool:=o.ctorIdx==zh.Not.ctorIdx
noncomputable def Y8 (o:Bv):Bool:=o.ctorIdx==Bv.And.ctorIdx
noncomputable def aD1 (o:Bv):Bool:=o.ctorIdx==Bv.Or.ctorIdx
theorem t9 (h:D1 o=Wu):o=.USub:=by cases o<;>first|rfl|exact nf h
theorem I4 (h:Y7 o=Wu):o=.Not:=by cases o<;>first|rfl|exact nf h
theorem I5 (h:Y8 o=Wu):o=.And:=by cases o<;>first|rfl|exact nf h
theorem NR (h:aD1 o=Wu):o=.Or:=by cases o<;>first|rfl|exact nf h
noncomputable def zF:Bu->Option PV
 |.none=>J .none
 |.bool a=>J (.bool a)
 |.int a=>J (.int a)
 |.float a=>J (.flt a)
 |.str a=>J (.str a)
 |_=>Ww
noncomputable def aAN (p q:PV):Bool:=match p with
 |.none=>q.ctorIdx==PV.none.ctorIdx
 |.bool a=>(match q with|.bool b=>a==b|_=>Wv)
 |.int a=>(match q with|.int b=>a==b|_=>Wv)
 |.flt a=>(match q with|.flt b=>a==b|_=>Wv)
 |.str a=>(match q with|.str b=>a==b|_=>Wv)
 |_=>Wv
theorem GR (h:aAN p q=Wu):p=q:= by
 cases p<;>try (exact nf h)
 all_goals (cases q<;>first|rfl|exact nf h|exact congrArg _ (aq h))
def UY (k:Bu) (p:PV):Bool:=(zF k).any λq=>aAN q p
def aD2 (p q:PV):Bool:=match p with
 |.dcts a=>(match q with|.dcts b=>a==b|_=>Wv)
 |p=>aAN p q
theorem UZ (h:aD2 p q=Wu):p=q:= by
 cases p<;>try (exact GR h)
 cases q<;>first|exact nf h|exact congrArg _ (aq h)
def aFK (e:az) (x:Str):Bool:=(mB e).any λy=>y==x
noncomputable def cI (x:Str):Bool:=!(x==("__debug__":Str))&&!(x==("__classdict__":Str))
def gA (cx:Cx) (names:List (Str×mz)) (x:Str) (i:Nat):Cx:=
 {vars:=(x,i)::names.filterMap λ(n,k)=>if k==.free then(cx.vars.lookup n).map λj=>(n,j) else Ww
  kinds:=names,own:=cx.own,tk:=[],top:=cx.top}
noncomputable def cR{α:Type}[BEq α]:List α->Bool
 |[]=>Wu
 |a::l=>!l.contains a&&cR l
theorem kN{α:Type}[BEq α] {a:α}{l:List α}:cR (a::l)=(!l.contains a&&cR l):=rfl
def aAO (b:Bi):G->Bool
 |.bi c=>b==c
 |_=>Wv
noncomputable def I6 (f:Nat):G->Bool
 |.fn g=>f==g
 |_=>Wv
noncomputable def rY:G->Bool
 |.rng=>Wu
 |_=>Wv
noncomputable def zG:G->Bool
 |.enum=>Wu
 |_=>Wv
noncomputable def D4:G->Bool
 |.gen=>Wu
 |_=>Wv
def Y9 (p:PV):G->Bool
 |.cst q=>aD2 q p
 |_=>Wv
noncomputable def cD (e:az):Bool:=!(e.ctorIdx==22)
def mV (e:az):Bool:=match kM e with
 |none=>Wu
 |some x=>!(x.2.1.isEmpty&&x.2.2.1.isEmpty)
noncomputable def iB (p:PE):Bool:=if h:p.ctorIdx=0 then PE.cst.elim (motive_1:=λ_=>Bool) p h (λc=>c.ctorIdx==PV.none.ctorIdx) else Wv
theorem BI (h:iB p=Wu):p=.cst .none:= by
 unfold iB at h
 by_cases c:p.ctorIdx=0
 ·rw[dif_pos c] at h;exact PE.cst.elim (motive_1:=λp=>∀c,PE.cst.elim (motive_1:=λ_=>Bool) p c (λc=>c.ctorIdx==PV.none.ctorIdx)=Wu->p=.cst .none) p c (λq c h=>congrArg PE.cst (by cases q<;>first|rfl|exact nf h)) c h
 ·rw[dif_neg c] at h;exact nf h
section
def fX (cx:Cx) (e:az) (f:G->Bool):Bool:=(mB e).any λx=>cx.kinds.lookup x==J .globalImplicit&&(cI x&&(GL.lookup x).any f)
def oE (cx:Cx) (sc:jx) (x:Str) (i:Nat):Bool:=
 sc.kind==.function&&!sc.isGenerator&&!sc.isCoroutine&&cR (sc.names.map (·.1))&&
 (sc.names.lookup x==J .local||sc.names.lookup x==J .cell)&&
 (sc.names.all λnk=>(nk.2==.local&&(nk.1==x||nk.1==(".0":Str)))||(nk.2==.cell&&nk.1==x)||nk.2==.globalImplicit||(nk.2==.free&&(cx.vars.lookup nk.1).isSome&&!(cx.vars.lookup nk.1==J i)&&(cx.kinds.lookup nk.1==J .cell||cx.kinds.lookup nk.1==J .free)))&&
 !cx.own.contains i
def aFX (f:az->PE->Bool) (o:Option az) (p:PE):Bool:=match o with
 |none=>iB p
 |some e=>f e p
noncomputable def meN (f:Me):Str:=match f with|.join=>("join":Str)|.get=>("get":Str)
noncomputable def aAP (k:Bu):Option Str:=if h:k.ctorIdx=5 then wy (motive:=λ_=>Option Str) k h J else Ww
theorem BJ{k:Bu}{x:Str}(h:aAP k=J x):k=.str x:= by
 obtain⟨c,h⟩:=bG h;exact wy (motive:=λk=>∀c,wy (motive:=λ_=>Option Str) k c J=J x->k=.str x) k c (λ_ c h=>by cases sm h;rfl) c h
def NS (e:az):Bool:=(t7 e).any λk=>k.ctorIdx==2&&(if h:k.ctorIdx=2 then wz (motive:=λ_=>Bool) k h (λn=>n==1) else Wv)
theorem D5 (h:NS e=Wu):∃n p,e=.Constant (.int 1) n p:= by
 refine Å (aC h) λk h1 h=>?_;apply MN (lF h1);intro n p;have h:=(aA h).2
 by_cases c:k.ctorIdx=2
 ·rw[dif_pos c] at h;exact(Ů n p (congrArg (λk=>az.Constant k n p) (wz (motive:=λk=>∀c,wz (motive:=λ_=>Bool) k c (λn=>n==1)=Wu->k=.int 1) k c (λn c h=>congrArg _ (aq h)) c h)))
 ·rw[dif_neg c] at h;exact nf h
mutual
def aG (cx:Cx) (b:Bool):az->PE->Bool
 |e,.cst c=>(t7 e).any λk=>UY k c
 |e,.gcst c=>fX cx e (Y9 c)
 |e,.var i=>(mB e).any λx=>cx.vars.lookup x==J i&&(cI x&&(b||!cx.own.contains i))
 |e,.bin op p q=>(aDZ e).any λx=>x.2.1==op&&(aG cx Wu x.1 p&&aG cx Wu x.2.2 q)
 |e,.neg p=>(ι e).any λx=>D1 x.1&&aG cx Wu x.2 p
 |e,.not p=>(ι e).any λx=>Y7 x.1&&aG cx Wu x.2 p
 |e,.and p q=>(NO e).any λx=>Y8 x.1&&(lz2 x.2).any λy=>aG cx Wu y.1 p&&aG cx Wu y.2 q
 |e,.or p q=>(NO e).any λx=>aD1 x.1&&(lz2 x.2).any λy=>aG cx Wu y.1 p&&aG cx Wu y.2 q
 |e,.ite t p q=>(vIf e).any λx=>aG cx Wu x.1 t&&(aG cx b x.2.1 p&&aG cx b x.2.2 q)
 |e,.cmp op p q=>(aD0 e).any λx=>(ħ x.2.1).any λo=>(ħ x.2.2).any λr=>o==op&&(aG cx Wu x.1 p&&aG cx Wu r q)
 |e,.sub p q=>(aAM e).any λx=>aG cx Wu x.1 p&&aG cx Wu x.2 q
 |e,.slc p lo hi st=>(aAM e).any λx=>(NQ x.2).any λy=>aG cx Wu x.1 p&&(
   (match y.1 with|none=>iB lo|some e=>aG cx Wu e lo)&&((match y.2.1 with|none=>iB hi|some e=>aG cx Wu e hi)&&(match y.2.2 with|none=>iB st|some e=>aG cx Wu e st)))
 |e,.list es=>(YZ e).any λxs=>dS cx Wv xs es&&decide (xs.length<=100)
 |e,.tup es=>(I1 e).any λxs=>dS cx Wv xs es&&decide (xs.length<=100)
 |e,.dict es=>(Y5 e).any λx=>I7 cx x.1 x.2 es&&(decide (x.2.length<=15)&&!x.2.isEmpty)
 |e,.comp Gk tg Fx By c=>(Y6 e).any λx=>(ħ x.2.1).any λg=>(mB g.target).any λy=>
   g.is_async==0&&(sJ cx g.iter Fx&&(oE cx x.2.2 y tg&&(aG (gA cx x.2.2.names y tg) Wv x.1 Gk&&(match g.ifs with
    |[]=>!By
    |t::ts=>ts.isEmpty&&(By&&aG (gA cx x.2.2.names y tg) Wu t c)))))
 |e,.call f es=>(kM e).any λx=>fX cx x.1 (I6 f)&&(x.2.2.1.isEmpty&&(dS cx Wv x.2.1 es&&decide (0<x.2.1.length/\x.2.1.length<=20)))
 |e,.callB f es=>(kM e).any λx=>cx.top&&(fX cx x.1 (I6 f)&&(x.2.2.1.isEmpty&&(dS cx Wu x.2.1 es&&decide (0<x.2.1.length/\x.2.1.length<=20))))
 |e,.bi f es=>(kM e).any λx=>fX cx x.1 (aAO f)&&(x.2.2.1.isEmpty&&(dS cx Wu x.2.1 es&&decide (0<x.2.1.length/\x.2.1.length<=20)))
 |e,.me f o es=>(kM e).any λx=>(GQ x.1).any λy=>y.2.1==meN f&&(x.2.2.1.isEmpty&&(aG cx Wu y.1 o&&(dS cx Wu x.2.1 es&&(decide (0<x.2.1.length/\x.2.1.length<=20)&&(y.2.2.endLine==x.2.2.2.line&&mV y.1)))))
 |e,.repl o y t i z=>(kM e).any λx=>(GQ x.1).any λa=>(lz2 x.2.1).any λg=>(t7 g.1).any λk=>(aAP k).any λy'=>(vIf g.2).any λf=>(mB f.2.1).any λu=>(t7 f.2.2).any λk'=>(aAP k').any λz'=>
   a.2.1==("replace":Str)&&(x.2.2.1.isEmpty&&(aG cx Wu a.1 o&&(y'==y&&(z'==z&&(aG cx Wu f.1 t&&(cx.vars.lookup u==J i&&(cI u&&(cx.tk.contains i&&(!cx.own.contains i&&(a.2.2.endLine==x.2.2.2.line&&mV a.1))))))))))
def dS (cx:Cx) (b:Bool):List az->Ĕ->Bool
 |xs,.nil=>xs.isEmpty
 |xs,.cons p ps=>match xs with
  |x::xs=>cD x&&(aG cx b x p&&dS cx b xs ps)
  |[]=>Wv
def I7 (cx:Cx):List (Option az)->List az->Ĕ->Bool
 |ks,vs,.nil=>ks.isEmpty&&vs.isEmpty
 |ks,vs,.cons p es=>match es with
  |.nil=>Wv
  |.cons q ps=>match ks with
   |[]=>Wv
   |k::ks=>match vs with
    |[]=>Wv
    |v::vs=>k.any λk=>aG cx Wv k p&&(aG cx Wv v q&&I7 cx ks vs ps)
def sJ (cx:Cx):az->PI->Bool
 |e,.val p=>aG cx Wv e p
 |e,.rng1 p=>(kM e).any λx=>(ħ x.2.1).any λa=>x.2.2.1.isEmpty&&(fX cx x.1 rY&&(aG cx Wu a p&&cD a))
 |e,.rng2 p q=>(kM e).any λx=>(lz2 x.2.1).any λa=>x.2.2.1.isEmpty&&(fX cx x.1 rY&&(aG cx Wu a.1 p&&(aG cx Wu a.2 q&&(cD a.1&&cD a.2))))
 |e,.rng3 p q=>(kM e).any λx=>(lz3 x.2.1).any λa=>(ι a.2.2).any λu=>D1 u.1&&(NS u.2&&(x.2.2.1.isEmpty&&(fX cx x.1 rY&&(aG cx Wu a.1 p&&(aG cx Wu a.2.1 q&&(cD a.1&&cD a.2.1))))))
end
end
mutual
noncomputable def nd:PE->Nat
 |.cst _|.gcst _|.var _=>0
 |.bin _ a b|.and a b|.or a b|.cmp _ a b|.sub a b=>max (nd a) (nd b)
 |.neg a|.not a=>nd a
 |.ite a b c=>max (nd a) (max (nd b) (nd c))
 |.slc a b c d=>max (max (nd a) (nd b)) (max (nd c) (nd d))
 |.list es|.tup es|.dict es|.call _ es|.callB _ es|.bi _ es=>Ų es
 |.me _ o es=>max (nd o) (Ų es)
 |.repl o _ t _ _=>max (nd o) (nd t)
 |.comp e _ Fx _ c=>max (Ν Fx) (max (nd e) (nd c))+3
noncomputable def Ų:Ĕ->Nat
 |.nil=>0
 |.cons e es=>max (nd e) (Ų es)
noncomputable def Ν:PI->Nat
 |.val e|.rng1 e=>nd e
 |.rng2 e f|.rng3 e f=>max (nd e) (nd f)
end
section
variable{cx:Cx}{b:Bool}{e:az}
theorem U0 (h:aG cx b e (.cst c)=Wu):∃k n p,e=.Constant k n p/\zF k=J c:= by
 replace h:=aC h
 refine Å h λk h1 h=>?_;apply MN (lF h1);intro n p
 replace h:=aC h
 refine Å h λq h2 h=>?_;exact(kJ k n p rfl (h2.trans (congrArg J (GR h))))
theorem U1 (h:aG cx b e (.var i)=Wu):∃x p,e=.Name x p/\cx.vars.lookup x=J i/\cI x=Wu/\(b||!cx.own.contains i)=Wu:= by
 replace h:=aC h
 refine Å h λx h1 h=>?_;apply Ü (eR h1);intro p;exact(cM x p rfl (aq (aA h).1) ((aA (aA h).2).1) ((aA (aA h).2).2))
theorem U2 (h:aG cx b e (.bin op p q)=Wu):∃l r k,e=.BinOp l op r k/\aG cx Wu l p=Wu/\aG cx Wu r q=Wu:= by
 replace h:=aC h
 refine Å h λx h1 h=>?_;apply Ü (NN h1);intro k;exact(kJ _ _ k (congrArg (λo=>az.BinOp x.1 o x.2.2 k) (aq (aA h).1)) (aA (aA h).2))
theorem U3 (h:aG cx b e (.neg p)=Wu):∃x k,e=.UnaryOp .USub x k/\aG cx Wu x p=Wu:= by
 replace h:=aC h
 refine Å h λx h1 h=>?_;apply Ü (zE h1);intro k;exact(lD _ k (congrArg (λo=>zi o x.2 k) (t9 (aA h).1)) ((aA h).2))
theorem GS (h:aG cx b e (.not p)=Wu):∃x k,e=.UnaryOp .Not x k/\aG cx Wu x p=Wu:= by
 replace h:=aC h
 refine Å h λx h1 h=>?_;apply Ü (zE h1);intro k;exact(lD _ k (congrArg (λo=>zi o x.2 k) (I4 (aA h).1)) ((aA h).2))
theorem GT (h:aG cx b e (.and p q)=Wu):∃x y k,e=.BoolOp .And [x,y] k/\aG cx Wu x p=Wu/\aG cx Wu y q=Wu:= by
 replace h:=aC h
 refine Å h λx h1 h=>?_;apply Ü (xL h1);intro k;refine Å (aC (aA h).2) λy h2 h3=>?_;exact O (I5 (aA h).1) (O (lE h2) (kJ _ _ k rfl (aA h3)))
theorem NT (h:aG cx b e (.or p q)=Wu):∃x y k,e=.BoolOp .Or [x,y] k/\aG cx Wu x p=Wu/\aG cx Wu y q=Wu:= by
 replace h:=aC h
 refine Å h λx h1 h=>?_;apply Ü (xL h1);intro k;refine Å (aC (aA h).2) λy h2 h3=>?_;exact O (NR (aA h).1) (O (lE h2) (kJ _ _ k rfl (aA h3)))
theorem GU (h:aG cx b e (.ite t p q)=Wu):∃c x y k,e=.IfExp c x y k/\aG cx Wu c t=Wu/\aG cx b x p=Wu/\aG cx b y q=Wu:= by
 replace h:=aC h
 refine Å h λx h1 h=>?_;apply Ü (GP h1);intro k;exact(f7 _ _ _ k rfl ((aA h).1) (aA (aA h).2))
theorem GW (h:aG cx b e (.cmp op p q)=Wu):∃l r k,e=.Compare l [op] [r] k/\aG cx Wu l p=Wu/\aG cx Wu r q=Wu:= by
 replace h:=aC h
 refine Å h λx h1 h=>?_;apply Ü (NP h1);intro k
 replace h:=aC h
 refine Å h λo h2 h=>?_
 replace h:=aC h
 refine Å h λr h3 h=>?_;exact O (cU h2) (O (cU h3) (O (aq (aA h).1) (kJ _ _ k rfl (aA (aA h).2))))
theorem U4 (h:aG cx b e (.sub p q)=Wu):∃x i k,e=.Subscript x i k/\aG cx Wu x p=Wu/\aG cx Wu i q=Wu:= by
 replace h:=aC h
 refine Å h λx h1 h=>?_;apply Ü (BH h1);intro k;exact(kJ _ _ k rfl (aA h))
theorem U5{p lo hi st:PE}(h:aG cx b e (.slc p lo hi st)=Wu):∃x l u s k k',e=.Subscript x (.Slice l u s k) k'/\aG cx Wu x p=Wu/\
  (match l with|none=>iB lo|some e=>aG cx Wu e lo)=Wu/\(match u with|none=>iB hi|some e=>aG cx Wu e hi)=Wu/\(match s with|none=>iB st|some e=>aG cx Wu e st)=Wu:= by
 replace h:=aC h
 refine Å h λx h1 h=>?_;apply Ü (BH h1);intro k
 replace h:=aC h
 refine Å h λy h2 h=>?_;refine xe (D0 h2) λk' h2=>?_;refine O h2 ?_;have h3:=aA (aA h).2;exact(fP _ _ _ (cO _ _ _ rfl ((aA h).1) h3.1 (aA h3.2)))
theorem NU (h:aG cx b e (.list es)=Wu):∃xs k,e=.List xs k/\dS cx Wv xs es=Wu/\xs.length<=100:= by
 replace h:=aC h
 refine Å h λx h1 h=>?_;apply Ü (I0 h1);intro k;exact(cA x k rfl ((aA h).1) (of_decide_eq_true (aA h).2))
theorem U6 (h:aG cx b e (.tup es)=Wu):∃xs n k,e=.Tuple xs n k/\dS cx Wv xs es=Wu/\xs.length<=100:= by
 replace h:=aC h
 refine Å h λx h1 h=>?_;apply MN (t8 h1);intro n k;exact(y7 x n k rfl ((aA h).1) (of_decide_eq_true (aA h).2))
def qQ (cx:Cx) (ifs:List az) (By:Bool) (c:PE):Bool:=match ifs with
 |[]=>!By
 |t::ts=>ts.isEmpty&&(By&&aG cx Wu t c)
theorem D7 (h:qQ cx ifs By c=Wu):(ifs=[]/\By=Wv)\/∃t,ifs=[t]/\By=Wu/\aG cx Wu t c=Wu:= by
 cases ifs with
 |nil=>cases By with
  |true=>exact nf h
  |false=>exact .inl ⟨rfl,rfl⟩
 |cons t ts=>
  have h1:=aA h;exact .inr (Ö t (congrArg _ (cP h1.1)) (aA h1.2))
theorem NV{g:qx}{x:Str}{p:Pos}(h:g.target=.Name x p) (h2:(g.is_async==0)=Wu):g=⟨.Name x p,g.iter,g.ifs,0⟩:= by
 cases g with|mk t i f a=>
 replace h:t=.Name x p:=h
 replace h2:a=0:=aq h2
 subst h h2;rfl
theorem BK{Gk c:PE}{tg:Nat}{Fx:PI}{By:Bool}(h:aG cx b e (.comp Gk tg Fx By c)=Wu):∃el x px it ifs sc k,e=.ListComp el [⟨.Name x px,it,ifs,0⟩] sc k/\sJ cx it Fx=Wu/\oE cx sc x tg=Wu/\
  aG (gA cx sc.names x tg) Wv el Gk=Wu/\qQ (gA cx sc.names x tg) ifs By c=Wu:= by
 replace h:=aC h
 refine Å h λx h1 h=>?_;apply Ü (I3 h1);intro k
 replace h:=aC h
 refine Å h λg h2 h=>?_
 replace h:=aC h
 refine Å h λy h3 h=>?_;refine xe (eR h3) λp h3=>?_;refine O (cU h2) (O (NV h3 (aA h).1) ?_);have h4:=aA (aA h).2;have h5:=aA h4.2;exact(fP _ _ _ (f7 _ _ _ _ rfl h4.1 ⟨h5.1,(aA h5.2)⟩))
theorem iK (h:(ks.isEmpty&&(c&&d))=Wu):si g xs ks p=.Call g xs [] p/\c=Wu/\d=Wu:=
 ⟨congrArg (λk=>si g xs k p) (cP (aA h).1),aA (aA h).2⟩
theorem U7 (h:g=g') (h':l=l'):si g l [] k=.Call g' l' [] k:=by exact O h (O h' rfl)
theorem NW (h:aG cx b e (.call f es)=Wu):∃g xs k,e=.Call g xs [] k/\fX cx g (I6 f)=Wu/\dS cx Wv xs es=Wu/\0<xs.length/\xs.length<=20:= by
 refine wM λG hG=>?_
 replace h:=aC h
 refine Å h λx h1 h=>?_;have h2:=iK (g:=x.1) (xs:=x.2.1) (p:=x.2.2.2) (aA h).2;exact hG (cO _ _ _ ((cX h1).trans h2.1) ((aA h).1) h2.2.1 (of_decide_eq_true h2.2.2))
theorem NX (h:aG cx b e (.dict es)=Wu):∃ks vs k,e=.Dict ks vs k/\I7 cx ks vs es=Wu/\vs.length<=15/\(!vs.isEmpty)=Wu:= by
 replace h:=aC h
 refine Å h λx h1 h=>?_;apply Ü (I2 h1);intro k;have h2:=aA (aA h).2;exact(cO _ _ k rfl ((aA h).1) (of_decide_eq_true h2.1) h2.2)
theorem I8 (h:aG cx b e (.callB f es)=Wu):∃g xs k,e=.Call g xs [] k/\cx.top=Wu/\fX cx g (I6 f)=Wu/\dS cx Wu xs es=Wu/\0<xs.length/\xs.length<=20:= by
 refine wM λG hG=>?_
 replace h:=aC h
 refine Å h λx h1 h=>?_;have h3:=aA (aA h).2;have h2:=iK (g:=x.1) (xs:=x.2.1) (p:=x.2.2.2) h3.2;exact hG (fI _ _ _ ((cX h1).trans h2.1) ((aA h).1) h3.1 h2.2.1 (of_decide_eq_true h2.2.2))
theorem NY (h:aG cx b e (.repl o y t i z)=Wu):∃x ap n1 p1 c u pu n2 p2 pi k,e=.Call (.Attribute x ("replace":Str) ap) [.Constant (.str y) n1 p1,.IfExp c (.Name u pu) (.Constant (.str z) n2 p2) pi] [] k/\
  aG cx Wu x o=Wu/\aG cx Wu c t=Wu/\cx.vars.lookup u=J i/\cI u=Wu/\cx.tk.contains i=Wu/\(!cx.own.contains i)=Wu/\(ap.endLine==k.line)=Wu/\mV x=Wu:= by
 refine wM λG hG=>?_
 replace h:=aC h
 refine Å h λx h1 h=>?_
 replace h:=aC h
 refine Å h λa h2 h=>?_
 replace h:=aC h
 refine Å h λg h3 h=>?_
 replace h:=aC h
 refine Å h λk1 h4 h=>?_
 replace h:=aC h
 refine Å h λy' h5 h=>?_
 replace h:=aC h
 refine Å h λf h6 h=>?_
 replace h:=aC h
 refine Å h λu h7 h=>?_
 replace h:=aC h
 refine Å h λk2 h8 h=>?_
 replace h:=aC h
 refine Å h λz' h9 h=>?_;have q1:=aA h;have q2:=iK (g:=x.1) (xs:=x.2.1) (p:=x.2.2.2) q1.2;have q3:=aA q2.2.2;have q4:=aA q3.2;have q5:=aA q4.2;have q6:=aA q5.2;have e1:=qP h2;rw[aq q1.1] at e1;have e3:=lE h3;refine Ľ (lF h4) λn1 p1 e4=>?_;refine xe (eR h7) λpu e7=>?_;refine Ľ (lF h8) λn2 p2 e8=>?_;refine xe (GP h6) λpi e6=>?_;rw[BJ h5,aq q3.1] at e4;rw[BJ h9,aq q4.1] at e8;rw[e7,e8] at e6;rw[e4,e6] at e3;exact hG (fP _ _ n1 (fP p1 _ u (fP pu n2 p2 (cM pi _ ((cX h1).trans (q2.1.trans (U7 e1 e3))) q2.2.1 q5.1 (nW (aq q6.1) ((aA q6.2).1) ((aA (aA q6.2).2).1) ((aA (aA (aA q6.2).2).2).1) (aA (aA (aA (aA q6.2).2).2).2))))))
theorem aAQ (h:aG cx b e (.bi f es)=Wu):∃g xs k,e=.Call g xs [] k/\fX cx g (aAO f)=Wu/\dS cx Wu xs es=Wu/\0<xs.length/\xs.length<=20:= by
 refine wM λG hG=>?_
 replace h:=aC h
 refine Å h λx h1 h=>?_;have h2:=iK (g:=x.1) (xs:=x.2.1) (p:=x.2.2.2) (aA h).2;exact hG (cO _ _ _ ((cX h1).trans h2.1) ((aA h).1) h2.2.1 (of_decide_eq_true h2.2.2))
theorem aAR (h:aG cx b e (.me f o es)=Wu):∃x ap xs k,e=.Call (.Attribute x (meN f) ap) xs [] k/\aG cx Wu x o=Wu/\dS cx Wu xs es=Wu/\(0<xs.length/\xs.length<=20)/\(ap.endLine==k.line)=Wu/\mV x=Wu:= by
 refine wM λG hG=>?_
 replace h:=aC h
 refine Å h λx h1 h=>?_
 replace h:=aC h
 refine Å h λy h2 h=>?_;have h3:=aA h;have h4:=iK (g:=x.1) (xs:=x.2.1) (p:=x.2.2.2) h3.2;have h5:=aA h4.2.2;have h6:=aA h5.2;have e1:=qP h2;rw[aq h3.1] at e1;exact hG (cB _ _ _ _ ((cX h1).trans (h4.1.trans (congrArg (λg=>si g x.2.1 [] x.2.2.2) e1))) h4.2.1 h5.1 (of_decide_eq_true h6.1) (aA h6.2))
theorem qR (h:dS cx b xs (.cons p ps)=Wu):∃x us,xs=x::us/\cD x=Wu/\aG cx b x p=Wu/\dS cx b us ps=Wu:= by
 cases xs with
 |nil=>exact nf h
 |cons x us=>exact(cA x us rfl ((aA h).1) (aA (aA h).2))
theorem uD (h:dS cx b xs .nil=Wu):xs=[]:=cP h
theorem NZ (h:sJ cx e (.rng1 p)=Wu):∃g x k,e=.Call g [x] [] k/\fX cx g rY=Wu/\aG cx Wu x p=Wu/\cD x=Wu:= by
 refine wM λG hG=>?_
 replace h:=aC h
 refine Å h λx h1 h=>?_
 replace h:=aC h
 refine Å h λa h2 h=>?_;have h3:=iK (g:=x.1) (xs:=x.2.1) (p:=x.2.2.2) h;exact hG (y7 _ a _ ((cX h1).trans (h3.1.trans (congrArg (λl=>si x.1 l [] x.2.2.2) (cU h2)))) h3.2.1 (aA h3.2.2))
theorem N0 (h:sJ cx e (.rng2 p q)=Wu):∃g x y k,e=.Call g [x,y] [] k/\fX cx g rY=Wu/\aG cx Wu x p=Wu/\aG cx Wu y q=Wu/\cD x=Wu/\cD y=Wu:= by
 refine wM λG hG=>?_
 replace h:=aC h
 refine Å h λx h1 h=>?_
 replace h:=aC h
 refine Å h λa h2 h=>?_;have h3:=iK (g:=x.1) (xs:=x.2.1) (p:=x.2.2.2) h;have h4:=aA h3.2.2;exact hG (cB _ _ _ _ ((cX h1).trans (h3.1.trans (congrArg (λl=>si x.1 l [] x.2.2.2) (lE h2)))) h3.2.1 h4.1 ((aA h4.2).1) (aA (aA h4.2).2))
theorem N1 (h:sJ cx e (.rng3 p q)=Wu):∃g x y n p1 p2 k,e=.Call g [x,y,.UnaryOp .USub (.Constant (.int 1) n p1) p2] [] k/\fX cx g rY=Wu/\aG cx Wu x p=Wu/\aG cx Wu y q=Wu/\cD x=Wu/\cD y=Wu:= by
 refine wM λG hG=>?_
 replace h:=aC h
 refine Å h λx h1 h=>?_
 replace h:=aC h
 refine Å h λa h2 h=>?_
 replace h:=aC h
 refine Å h λu h3 h=>?_;have q1:=aA h;have q2:=aA q1.2;have h4:=iK (g:=x.1) (xs:=x.2.1) (p:=x.2.2.2) q2.2;have h5:=aA h4.2.2;have e2:=UX h2;refine xe (zE h3) λp2 e3=>?_;refine Ľ (D5 q2.1) λn p1 e5=>?_;rw[t9 q1.1,e5] at e3;rw[e3] at e2;exact hG (fP _ _ _ (cB n p1 p2 _ ((cX h1).trans (h4.1.trans (congrArg (λl=>si x.1 l [] x.2.2.2) e2))) h4.2.1 h5.1 ((aA h5.2).1) (aA (aA h5.2).2)))
end
section
variable{α β γ:Type}
set_option tactic.hygienic true in
theorem BL{o:Option PV}{f g:Option α}{r:α}(h:(o.bind λp=>(isB p).bind λb=>bif b then f else g)=J r):(o=J (.bool Wu)/\f=J r)\/(o=J (.bool Wv)/\g=J r):=Å (ob h) λp h1 h=>Å (ob h) λb h2 h=>by cases YY h2;cases b;exact .inr ⟨h1,h⟩;exact .inl ⟨h1,h⟩
theorem uE{o:Option PV}{f:Bool->Option α}{r:α}(h:(o.bind λp=>(isB p).bind f)=J r):∃x,o=J (.bool x)/\f x=J r:=Å (ob h) λp h1 h=>Å (ob h) λb h2 h=>Ö b (YY h2▸h1) h
theorem qS{o:Option PV}{f:Int->Option α}{r:α}(h:(o.bind λp=>(l9 p).bind f)=J r):∃x,o=J (.int x)/\f x=J r:=Å (ob h) λp h1 h=>Å (ob h) λb h2 h=>Ö b (US h2▸h1) h
theorem N2{o:Option PV}{f:Str->Option α}{r:α}(h:(o.bind λp=>(tX p).bind f)=J r):∃x,o=J (.str x)/\f x=J r:=Å (ob h) λp h1 h=>Å (ob h) λb h2 h=>Ö b (UT h2▸h1) h
theorem uF{o:Option PV}{f:List PV->Option α}{r:α}(h:(o.bind λp=>(isL p).bind f)=J r):∃x,o=J (.lst x)/\f x=J r:=Å (ob h) λp h1 h=>Å (ob h) λb h2 h=>Ö b (aDY h2▸h1) h
end
section
variable{F:Fn}{pe:Ã}{a c d:PE}{r:PV}
theorem I9 (h:I7 cx ks vs (.cons p (.cons q ps))=Wu):∃k ks' v vs',ks=J k::ks'/\vs=v::vs'/\aG cx Wv k p=Wu/\aG cx Wv v q=Wu/\I7 cx ks' vs' ps=Wu:= by
 cases ks with
 |nil=>exact nf h
 |cons k ks=>
  cases vs with
  |nil=>exact nf h
  |cons v vs=>
   cases k with
   |none=>exact nf h
   |some k=>exact(f7 k ks v vs rfl rfl ⟨((aA h).1),(aA (aA h).2)⟩)
theorem U8 (h:aB F (.bin op a c) pe=J r):∃x y,aB F a pe=J x/\aB F c pe=J y/\iJ op x y=J r:=Å (ob h) λx h1 h=>Å (ob h) λy h2 h=>cA x y h1 h2 h
theorem U9 (h:aB F (.neg a) pe=J r):∃x,aB F a pe=J (.int x)/\r=.int (-x):= by
 refine Å (qS h) λx h1 h2=>?_;exact(Ö x h1 ((sm h2).symm))
theorem GX (h:aB F (.not a) pe=J r):∃x,aB F a pe=J (.bool x)/\r=.bool (!x):= by
 refine Å (uE h) λx h1 h2=>?_;exact(Ö x h1 ((sm h2).symm))
theorem GY (h:aB F (.and a c) pe=J r):(aB F a pe=J (.bool Wu)/\∃x,aB F c pe=J (.bool x)/\r=.bool x)\/(aB F a pe=J (.bool Wv)/\r=.bool Wv):= by
 rcases BL h with⟨h1,h2⟩|⟨h1,h2⟩
 ·refine Å (uE h2) λx h3 h4=>?_;exact .inl (sI h1 x h3 ((sm h4).symm))
 ·exact .inr ⟨h1,(sm h2).symm⟩
set_option tactic.hygienic true in
theorem N3 (h:aB F (.or a c) pe=J r):(aB F a pe=J (.bool Wu)/\r=.bool Wu)\/(aB F a pe=J (.bool Wv)/\∃x,aB F c pe=J (.bool x)/\r=.bool x):= by
 rcases BL h with⟨h1,h2⟩|⟨h1,h2⟩
 ·exact .inl ⟨h1,(sm h2).symm⟩
 ·refine Å (uE h2) λx h3 h4=>?_;exact .inr (sI h1 x h3 ((sm h4).symm))
theorem GZ (h:aB F (.ite a c d) pe=J r):(aB F a pe=J (.bool Wu)/\aB F c pe=J r)\/(aB F a pe=J (.bool Wv)/\aB F d pe=J r):=BL h
theorem G0 (h:aB F (.cmp op a c) pe=J r):∃x y z,aB F a pe=J x/\aB F c pe=J y/\mI op x y=J z/\r=.bool z:=Å (ob h) λx h1 h=>Å (ob h) λy h2 h=>by apply sH (ce.mp h);intro z h4;exact(cO x y z h1 h2 h4 rfl)
theorem VA (h:aB F (.sub a c) pe=J r):∃x y,aB F a pe=J x/\aB F c pe=J y/\iT x y=J r:=Å (ob h) λx h1 h=>Å (ob h) λy h2 h=>cA x y h1 h2 h
theorem N4 (h:aB F (.call f es) pe=J r):∃l,cC F es pe=J l/\F f l=J r:=ob h
theorem JA (h:aB F (.callB f es) pe=J r):∃l,cC F es pe=J l/\F f l=J r/\r.scalar=Wu:=Å (ob h) λl h1 h=>Å (ob h) λx h2 h=>Ö l h1 (by have h5:=aZ h;cases sm h5.2;exact⟨h2,h5.1⟩)
theorem N5 (h:aB F (.dict es) pe=J r):∃l d,cC F es pe=J l/\nZ l=J d/\r=.dcti d:=Å (ob h) λl h1 h=>by apply sH (ce.mp h);intro d h3;exact(cA l d h1 h3 rfl)
theorem N6 (h:aB F (.repl a y c i z) pe=J r):∃x b u,aB F a pe=J (.str x)/\aB F c pe=J (.bool b)/\lk pe i=J (.str u)/\(x.length<=1000/\u.length<=10/\z.length<=10/\(y==u)=Wv/\(y==z)=Wv)/\r=.str (Txt.replace x y (if b then u else z)):=Å (N2 h) λx h1 h=>Å (uE h) λb h2 h=>Å (N2 h) λu h3 h=>fI x b u h1 h2 h3 (aZ h).1 (sm (aZ h).2).symm
theorem aAS (h:aB F (.bi f es) pe=J r):∃l,cC F es pe=J l/\ċ f l=J r:=ob h
theorem aAT (h:aB F (.me f a es) pe=J r):∃x l,aB F a pe=J x/\cC F es pe=J l/\ŏ f x l=J r:=Å (ob h) λx h1 h=>Å (ob h) λy h2 h=>cA x y h1 h2 h
theorem N7 (h:aB F (.list es) pe=J r):∃l,cC F es pe=J l/\r=.lst l:= by
 apply sH (ce.mp h);intro d h3;exact(Ö d h3 rfl)
theorem VB (h:aB F (.tup es) pe=J r):∃l,cC F es pe=J l/\r=.tup l:= by
 apply sH (ce.mp h);intro d h3;exact(Ö d h3 rfl)
theorem BM (h:aB F (.comp e i Fx By c) pe=J r):∃À rs,jM F Fx pe=J À/\eU (aB F c) (aB F e) By i pe À=J rs/\r=.lst rs:=Å (ob h) λl h1 h=>by apply sH (ce.mp h);intro d h3;exact(cA l d h1 h3 rfl)
theorem VC{lo hi st:PE}(h:aB F (.slc a lo hi st) pe=J r):∃x l u s l' u' s',aB F a pe=J x/\(aB F lo pe=J l/\mT l=J l')/\(aB F hi pe=J u/\mT u=J u')/\(aB F st pe=J s/\mT s=J s')/\f8 x l' u' s'=J r:=Å (ob h) λx h1 h=>Å (ob h) λl h2 h=>Å (ob h) λu h3 h=>Å (ob h) λs h4 h=>Å (ob h) λl' e1 h=>Å (ob h) λu' e2 h=>Å (ob h) λs' e3 h=>fP x l u (cB s l' u' s' h1 ⟨h2,e1⟩ ⟨h3,e2⟩ ⟨h4,e3⟩ h)
theorem qT (h:cC F (.cons a es) pe=J l):∃x m,aB F a pe=J x/\cC F es pe=J m/\l=x::m:=Å (ob h) λx h1 h=>Å (ob h) λy h2 h=>cA x y h1 h2 (sm h).symm
theorem VD (h:jM F (.val a) pe=J l):∃p,aB F a pe=J p/\tY p=J l:=ob h
theorem N8{l:List PV}(h:jM F (.rng1 a) pe=J l):∃n,aB F a pe=J (.int n)/\mS 0 n=J l:=qS h
theorem N9 (h:jM F (.rng2 a c) pe=J l):∃n m,aB F a pe=J (.int n)/\aB F c pe=J (.int m)/\mS n m=J l:=Å (qS h) λx h1 h=>Å (qS h) λy h2 h=>cA x y h1 h2 h
theorem OA (h:jM F (.rng3 a c) pe=J l):∃n m,aB F a pe=J (.int n)/\aB F c pe=J (.int m)/\t6 n m=J l:=Å (qS h) λx h1 h=>Å (qS h) λy h2 h=>cA x y h1 h2 h
end
def GV (v:aj):G->Prop
 |.bi b=>v=ŷ b
 |.fn f=>v=.ref (fA f)/\∃o fd,H0.get? (fA f)=J o/\o.data=.func fd
 |.cst p=>RV H0 Ε v p
 |.rng=>v=.type "range"
 |.enum=>v=.type "enumerate"
 |.gen=>v=.ref (fA 1000)/\∃o fd,H0.get? (fA 1000)=J o/\o.data=.func fd
structure ă:Prop where
 noshare:Ú H0
 nolimit:H0.NoLimit
 big:sysModules<H0.objs.size
 names:∃mg mb,H0.Ns mainGlobals mg/\H0.Ns builtinsNs mb/\∀x g,GL.lookup x=J g->∃v,(mg x=J v\/(mg x=Ww/\mb x=J v))/\GV v g
def î (F:Fn) (B:Nat):Prop:=
 ∀(f:Nat) (A:dj) (s:ak) (N:Ap) (vs:List aj) (ps:List PV) (r:PV) (Q:Vs) (E:Vs),
  Ê A B->ñ s N->Í s.heap N vs ps->F f ps=J r->(∀v s',Pure s s'->RV s'.heap N v r->Q v s')->wpAny (model Pg W0) A (call (.ref (fA f)) vs) Q E s
noncomputable def qU (p:PE):Bool:=p.ctorIdx==11||p.ctorIdx==12||p.ctorIdx==15||p.ctorIdx==3
noncomputable def D8 (p:PE):Bool:=if h:p.ctorIdx=0 then PE.cst.elim (motive_1:=λ_=>Bool) p h (λc=>c.ctorIdx==4) else Wv
theorem D9 (h:D8 p=Wu):∃x,p=.cst (.str x):= by
 unfold D8 at h
 by_cases c:p.ctorIdx=0
 ·rw[dif_pos c] at h;exact PE.cst.elim (motive_1:=λp=>∀c,PE.cst.elim (motive_1:=λ_=>Bool) p c (λc=>c.ctorIdx==4)=Wu->∃x,p=.cst (.str x)) p c (λq c h=>by cases q<;>first|exact nf h|exact⟨_,rfl⟩) c h
 ·rw[dif_neg c] at h;exact nf h
def BN (p:PE):Bool:=if h:p.ctorIdx=10 then PE.sub.elim (motive_1:=λ_=>Bool) p h (λa _=>D8 a) else Wv
structure ń (top:Bool) (s s':ak) (Na No:Ap) (b:Bool) (p:PE) (v:aj) (r:PV):Prop where
 t:RT s'.heap (λb=>Na b\/No b) v r
 a:top=Wu->RV s'.heap Na v r
 f:b=Wv->RV s'.heap (λb=>Na b\/No b) v r
 fresh:qU p=Wu->∀l,r=.lst l->Ŗ s.heap s'.heap (λb=>Na b\/No b) v l
 tok:BN p=Wu->∀y t,v=.str y t->t≠0/\t<s'.toks
theorem RV.weak (hn:∀b,N' b->N b) (r:RV h N v p):RV h N' v p:=r.step (Step.sub hn)
theorem Í.weak (hn:∀b,N' b->N b) (r:Í h N vs ps):Í h N' vs ps:=r.step (Step.sub hn)
theorem ń.of (h:RV s'.heap (λb=>Na b\/No b) v r) (hf:qU p=Wv) (ht:BN p=Wv):ń top s s' Na No b p v r:=
 ⟨h.rt,λ_=>h.weak λ_ q=>.inl q,λ_=>h,λq=>by rw[hf] at q;(cases q),λq=>by rw[ht] at q;(cases q)⟩
theorem ń.res (hp:Pure AT s) (h:Ď s s' (λb=>Na b\/No b) v r) (ht:BN p=Wv):ń top AT s' Na No b p v r:=
 ⟨h.1.rt,λ_=>h.1.weak λ_ q=>.inl q,λ_=>h.1,λ_ l e=>by
  refine dK (h.2 l e) λa vs h1 h2 h3 h4=>?_;exact(cM a vs h1 (aa hp.step.grow h2) h3 h4),λq=>by rw[ht] at q;(cases q)⟩
theorem RT.pure (r:RT s.heap N v p) (x:Pure s s'):RT s'.heap N v p:= by
 have S:=x.stepAt N;cases r with
 |none=>exact .none
 |bool b=>exact .bool b
 |int n t=>exact .int n t
 |flt x t ht=>exact .flt x t ht
 |str x t=>exact .str x t
 |tup b c=>refine xe b λn e=>?_;exact .tup ⟨n,x.keep _ _ e⟩ (c.step S)
 |lst b c=>refine xe b λn e=>?_;exact .lst ⟨n,x.keep _ _ e⟩ (c.step S)
 |dcti b=>refine sG b λhs Fk hd hk=>?_;exact .dcti (sI hs Fk (hd.keep x.keep) hk)
 |dcts b=>refine sG b λhs Fk hd hk=>?_;exact .dcts (sI hs Fk (hd.keep x.keep) hk)
section
variable (F:Fn) (B:Nat)
def È (p:PE):Prop:=∀{A:dj}{cx:Cx}{asg:List Str}{Á:Env}{s:ak}{Na No:Ap}{pe:Ã}{b:Bool}{e:az}{r:PV}{Q:Vs}{E:Vs},
 Ê A (nd p+B)->Ä cx asg Á s Na No pe->aG cx b e p=Wu->aB F p pe=J r->
 (∀v s',Pure s s'->ń cx.top s s' Na No b p v r->Q v s')->wpAny (model Pg W0) A (eval e Á) Q E s
def Ô (p:PE):Prop:=∀{A:dj}{cx:Cx}{asg:List Str}{Á:Env}{s:ak}{Na No:Ap}{pe:Ã}{b:Bool}{e:az}{r:Bool}{Q:Bool->ak->Prop}{E:Vs},
 Ê A (nd p+B)->Ä cx asg Á s Na No pe->aG cx b e p=Wu->aB F p pe=J (.bool r)->
 (∀s',Pure s s'->Q r s')->wpAny (model Pg W0) A (isTrue e Á (eval e Á)) Q E s
def þ (ps:Ĕ):Prop:=∀{A:dj}{cx:Cx}{asg:List Str}{Á:Env}{s:ak}{Na No:Ap}{pe:Ã}{b:Bool}{es:List az}{rs:List PV}{pos:Pos}{Q:List aj->ak->Prop}{E:Vs},
 Ê A (Ų ps+B)->Ä cx asg Á s Na No pe->dS cx b es ps=Wu->cC F ps pe=J rs->
 (∀vs s',Pure s s'->į s'.heap (λb=>Na b\/No b) vs rs->(cx.top=Wu->Í s'.heap Na vs rs)->(b=Wv->Í s'.heap (λb=>Na b\/No b) vs rs)->vs.length=es.length->Q vs s')->
 wpAny (model Pg W0) A (spliced (backTo pos (starEach es Á))) Q E s
end
section
variable{F:Fn}{B:Nat}
variable{A:dj}{cx:Cx}{asg:List Str}{Á:Env}{s:ak}{Na No:Ap}{pe:Ã}{E:Vs}
theorem g7 (GK:ă) (r:Ä cx asg Á s Na No pe) (h1:cx.kinds.lookup x=J .globalImplicit) (h2:cI x=Wu) (h3:GL.lookup x=J g)
  (hQ:∀v,GV v g->Q v s):wpAny (model Pg W0) A (eval (.Name x pos) Á) Q E s:= by
 refine fE GK.names λmg mb hg hb hn=>?_;refine Å (hn x g h3) λv hv Td=>?_;refine Calls.Name_function_global r.kind (r.gl x h1) ?_ (by simp only[cI,bt,en] at h2;exact h2.1);rcases hv with hv|⟨h4,h5⟩
 ·exact Calls.loadGlobal_global (by exact O r.glb (hg.keeps r.base.keep)) hv (hQ v Td)
 ·exact Calls.loadGlobal_builtin (by exact O r.glb (hg.keeps r.base.keep)) h4 (by refine O r.blt ?_;exact hb.keeps r.base.keep) h5 (hQ v Td)
theorem jH (h:fX cx e f=Wu):∃x pos g,e=.Name x pos/\cx.kinds.lookup x=J .globalImplicit/\cI x=Wu/\GL.lookup x=J g/\f g=Wu:= by
 replace h:=aC h
 refine Å h λx h1 h=>?_;apply Ü (eR h1);intro p;have h2:=aA (aA h).2;refine Å (aC h2.2) λg h3 h4=>?_;exact(fI x p g rfl (aq (aA h).1) h2.1 h3 h4)
theorem BO (hT:0<s.toks) (h:zF k=J c) (hQ:∀v s',Pure s s'->(∀N,RV s'.heap N v c)->Q v s'):wpAny (model Pg W0) A (constValue Á k) Q E s:= by
 cases k<;>try (exact nn h)
 all_goals cases sm h
 ·exact cy (hQ _ _ (Õ.refl _ _) λ_=>.none)
 ·exact cy (hQ _ _ (Õ.refl _ _) λ_=>.bool _)
 ·exact wpAny_mkInt (hQ _ _ (Pure.toks _) λ_=>.int _ _)
 ·exact wpAny_mkFloat (hQ _ _ (Pure.toks _) λ_=>.flt _ _ (iy hT))
 ·exact wpAny_mkText (hQ _ _ (Pure.toks _) λ_=>.str _ _)
theorem OB (c:PV):È F B (.cst c):= by
 intro A cx asg Á s Na No pe b e r Q E R X hc hd hQ;cases sm hd;refine iX (U0 hc) λk n p zt=>?_;apply xr zt;intro h;exact BO X.base.toks h λv s' P rv=>hQ v s' P (.of (rv _) rfl rfl)
theorem JB (h:Y9 p g=Wu):g=.cst p:= by
 cases g<;>first|exact nf h|exact congrArg _ (UZ h)
theorem JC (GK:ă) (c:PV):È F B (.gcst c):= by
 intro A cx asg Á s Na No pe b e r Q E R X hc hd hQ;cases sm hd;apply fG (jH hc);intro x pos g h1 h2 h3 h4;cases JB h4;exact g7 GK X h1 h2 h3 λv hv=>hQ _ _ (Õ.refl _ _) (.of (RV.step (h:=H0) (N:=Ε) ⟨λb o _ e=>X.base.keep b o e,X.base.size,λb hb=>.inr (X.base.above b hb)⟩ hv) rfl rfl)
theorem Ë.name (k:Á.scope.kind=.function) (b:Ë Á s.heap x v) (h2:cI x=Wu) (h:Q v s):wpAny (model Pg W0) A (eval (.Name x pos) Á) Q E s:= by
 have hd:(x==("__debug__":Str))=Wv/\(x==("__classdict__":Str))=Wv:=by simpa only[cI,bt,en] using h2
 refine wpAny_Name ?_ hd.1;cases b with
 |loc m h1 h3 h4=>exact wpAny_loadName_local k h1 h3 h4 h
 |cell c h1 h3 h4=>
  rcases h1 with h1|h1
  ·exact wpAny_loadName_cell k h1 h3 h4 h
  ·exact wpAny_loadName_free k h1 h3 h4 h hd.2
theorem ø.cases (r:ø h N a p):(∃l vs,p=.lst l/\h.PlainList a (zj vs)/\Í h N vs l)\/∃l,p=.dcti l/\Ù h a l:= by
 cases p<;>try (exact r.elim)
 ·refine Å r λvs h1 h2=>?_;exact .inl (cA _ vs rfl h1 h2)
 ·exact .inr (Ö _ rfl r)
theorem aAU (h:(b||!c)=Wu) (hc:c=Wu):b=Wu:=by cases b<;>cases c<;>first|rfl|exact nf h|exact nf hc
theorem õ.out (hs:õ cx Á s (λb=>Na b\/No b) i v p) (hb:(b||!cx.own.contains i)=Wu) (hx:cx.top=Wu->∀a,v=.ref a->cx.own.contains i=Wu->¬Na a):
  ń cx.top s s Na No b (.var i) v p:= by
 have h1:=hs.1
 by_cases ho:cx.own.contains i=Wu
 ·rw[if_pos ho] at h1;refine cH h1 λa bc ha hl hr=>?_;subst bc;clear h1;have Ub:=aAU hb ho;subst Ub;rcases hr.cases with⟨l,vs,rfl,h4,h5⟩|⟨l,rfl,hr⟩
  ·exact{t:=.lst h4 h5,a:=λht=>.lst (hx ht a rfl ho) h4 (h5.weak λ_ q=>.inl q),f:=λq=>(nomatch q),fresh:=λq=>(nomatch q),tok:=λq=>(nomatch q)}
  ·exact{t:=.dcti hr,a:=λht=>.dcti (hx ht a rfl ho) hr,f:=λq=>(nomatch q),fresh:=λq=>(nomatch q),tok:=λq=>(nomatch q)}
 ·rw[if_neg ho] at h1;exact .of h1 rfl rfl
theorem OC (i:Nat):È F B (.var i):= by
 intro A cx asg Á s Na No pe b e r Q E R X hc hd hQ;apply iS (U1 hc);intro x pos hi h2 h3;refine Å (X.vars x i r hi hd) λv hb hs=>?_;refine hb.name X.kind h2 (hQ _ _ (Õ.refl _ _) (hs.out h3 λht a hv ho Uc=>?_));subst hv;exact X.disj a (X.turns x i a hi ho (Option.isSome_of_eq_some hd) hb) Uc
theorem Ä.low (X:Ä cx asg Á s Na No pe):ď (λb=>Na b\/No b) s.heap:=X.base.low
theorem Ä.ns0 (GK:ă) (X:Ä cx asg Á s Na No pe):Ú s.heap:=GK.noshare.keeps X.base.keep
theorem two{p q:PE}{x y:PV}{e f:az}{b c:Bool}{Q:aj->Vs}(hp:È F B p) (hq:È F B q) (R:Ê A (max (nd p) (nd q)+B)) (X:Ä cx asg Á s Na No pe)
  (h1:aG cx b e p=Wu) (h2:aG cx c f q=Wu) (d1:aB F p pe=J x) (d2:aB F q pe=J y)
  (h:∀v u s',Pure s s'->RT s'.heap (λb=>Na b\/No b) v x->RT s'.heap (λb=>Na b\/No b) u y->Ä cx asg Á s' Na No pe->Q v u s'):
  wpAny (model Pg W0) A (eval e Á) (λv aT=>wpAny (model Pg W0) A (eval f Á) (λu Â=>Q v u Â) E aT) E s:= by
 refine hp (R.le (ax (jt _ _) _)) X h1 d1 λv aT bY DO=>?_;have Fq:=X.pure bY;refine hq (R.le (ax (il _ _) _)) Fq h2 d2 λu Â iF Gs=>?_;exact h v u Â (bY.trans iF) (DO.t.pure iF) Gs.t (Fq.pure iF)
theorem OD (hp:È F B p) (hq:È F B q):È F B (.bin op p q):= by
 intro A cx asg Á s Na No pe b e r Q E R X hc hd hQ;apply lB (U2 hc);intro l r' k h1 h2;refine fE (U8 hd) λx y d1 d2 d3=>?_;exact wpAny_BinOp (two hp hq R X h1 h2 d1 d2 λv u s' P rv ru X'=>II R X'.base.toks X'.low rv ru d3 λz Â iF hz=>hQ _ _ (P.trans iF) (.res P hz rfl))
theorem G1 (h:aG cx b (.Set l k pos) p=Wu):False:= by
 cases p<;>exact nf h
theorem uG (h:aG cx b e p=Wu):behindInMarks op e=Wv:= by
 by_cases c:e.ctorIdx=7
 ·exact Cn (motive_1:=λe=>aG cx b e p=Wu->behindInMarks op e=Wv) e c (λl k p h=>(G1 h).elim) h
 ·clear h;cases e<;>first|rfl|exact absurd rfl c
theorem OE (hB:3<=B) (GK:ă) (hp:È F B p) (hq:È F B q):È F B (.cmp op p q):= by
 intro A cx asg Á s Na No pe b e r Q E R X hc hd hQ;apply lB (GW hc);intro l r' k h1 h2;obtain⟨x,y,z,d1,d2,d3,rfl⟩:=G0 hd;exact wpAny_Compare1 (two hp hq R X h1 h2 d1 d2 λv u s' P rv ru X'=>xF (k:=3) (ai _) (R.le (aa hB (ll _ _))) (X'.ns0 GK) rv ru d3 λÂ iF=>hQ _ _ (P.trans iF) (.of (.bool _) rfl rfl)) (uG h2)
theorem ń.int (o:ń top s s' Na No b p v (.int n)):∃t,v=.int n t:=o.t.inv
theorem ń.bool (o:ń top s s' Na No b p v (.bool n)):v=.bool n:=o.t.inv
theorem OF (hp:È F B p):È F B (.neg p):= by
 intro A cx asg Á s Na No pe b e r Q E R X hc hd hQ;refine mF (U3 hc) λx k bc h1=>?_;subst bc;refine Å (U9 hd) λn d1 bc=>?_;subst bc;refine wpAny_UnaryOp (hp R X h1 d1 λv aT bY DO=>?_);refine xe DO.int λt bc=>?_;subst bc;exact Fd (hQ _ _ (bY.trans (Pure.toks _)) (.of (.int _ _) rfl rfl))
theorem kO{p:PE}(hp:È F B p){b:Bool}{e:az}{r:Bool}{Q:aj->Bool->ak->Prop}(R:Ê A (nd p+B)) (X:Ä cx asg Á s Na No pe) (hc:aG cx b e p=Wu) (hd:aB F p pe=J (.bool r))
  (h:∀s',Pure s s'->Ä cx asg Á s' Na No pe->Q (.bool r) r s'):wpAny (model Pg W0) A (eval e Á) (λv aT=>wpAny (model Pg W0) A (truthy v) (λc Â=>Q v c Â) E aT) E s:= by
 refine hp R X hc hd λv aT bY DO=>?_;cases DO.bool;exact wpAny_truthy_bool (h _ bY (X.pure bY))
theorem OG{p:PE}(hp:È F B p):È F B (.not p):= by
 intro A cx asg Á s Na No pe b e r Q E R X hc hd hQ;refine mF (GS hc) λx k bc h1=>?_;subst bc;refine Å (GX hd) λn d1 bc=>?_;subst bc;refine wpAny_UnaryOp (lj (kO (Q:=λv c s'=>v=.bool n/\c=n/\Pure s s') hp R X h1 d1 λs' P _=>(ß rfl rfl P)) (λv aT h=>?_) λ_ _ e=>e);exact not_of (lj h (λc Â h=>by refine Ē h λbc Gf P=>?_;subst bc;subst Gf;exact hQ _ _ P (.of (.bool _) rfl rfl)) λ_ _ e=>e)
section
variable{p q:PE}
theorem Ê.lz2 (R:Ê A (max (nd p) (nd q)+B)):Ê A (nd p+B):=R.le (ax (jt _ _) _)
theorem Ê.r2 (R:Ê A (max (nd p) (nd q)+B)):Ê A (nd q+B):=R.le (ax (il _ _) _)
theorem Ê.m1 (R:Ê A (max a (max b c)+B)):Ê A (a+B):=R.le (ax (jt _ _) _)
theorem Ê.m2 (R:Ê A (max a (max b c)+B)):Ê A (b+B):=R.le (ax (aa (jt _ _) (il _ _)) _)
theorem Ê.m3 (R:Ê A (max a (max b c)+B)):Ê A (c+B):=R.le (ax (aa (il _ _) (il _ _)) _)
end
theorem OH{p q:PE}(hp:È F B p) (hq:È F B q):È F B (.and p q):= by
 intro A cx asg Á s Na No pe b e r Q E R X hc hd hQ;apply lB (GT hc);intro x y k h1 h2;rcases GY hd with⟨d1,n,d2,rfl⟩|⟨d1,rfl⟩
 ·refine BoolOp_and (kO hp R.lz2 X h1 d1 λs' P X'=>BoolOp_one (hq R.r2 X' h2 d2 λv Â iF Gs=>?_));cases Gs.bool;exact hQ _ _ (P.trans iF) (.of (.bool _) rfl rfl)
 ·exact BoolOp_and (kO hp R.lz2 X h1 d1 λs' P X'=>hQ _ _ P (.of (.bool _) rfl rfl))
theorem VE{p q:PE}(hp:È F B p) (hq:È F B q):È F B (.or p q):= by
 intro A cx asg Á s Na No pe b e r Q E R X hc hd hQ;apply lB (NT hc);intro x y k h1 h2;rcases N3 hd with⟨d1,rfl⟩|⟨d1,n,d2,rfl⟩
 ·exact BoolOp_or (kO hp R.lz2 X h1 d1 λs' P X'=>hQ _ _ P (.of (.bool _) rfl rfl))
 ·refine BoolOp_or (kO hp R.lz2 X h1 d1 λs' P X'=>BoolOp_one (hq R.r2 X' h2 d2 λv Â iF Gs=>?_));cases Gs.bool;exact hQ _ _ (P.trans iF) (.of (.bool _) rfl rfl)
theorem ń.ite{top b:Bool}{t p q u:PE}{s s' Â:ak}{v:aj}{r:PV}(P:Pure s s') (o:ń top s' Â Na No b u v r):ń top s Â Na No b (.ite t p q) v r:=
 {t:=o.t,a:=o.a,f:=o.f,fresh:=λq=>(nomatch q),tok:=λq=>(nomatch q)}
theorem OI (ht:Ô F B t) (hp:È F B p) (hq:È F B q):È F B (.ite t p q):= by
 intro A cx asg Á s Na No pe b e r Q E R X hc hd hQ;apply mO (GU hc);intro c x y k h1 h2 h3;rcases GZ hd with⟨d1,d2⟩|⟨d1,d2⟩
 ·exact IfExp_ (ht R.m1 X h1 d1 λs' P=>hp R.m2 (X.pure P) h2 d2 λv Â iF Gs=>hQ _ _ (P.trans iF) (.ite P Gs))
 ·exact IfExp_ (ht R.m1 X h1 d1 λs' P=>hq R.m3 (X.pure P) h3 d2 λv Â iF Gs=>hQ _ _ (P.trans iF) (.ite P Gs))
set_option tactic.hygienic true in
theorem wR (Ġ:az) (o i:aj):∃l,subscripted Ġ Wv o i=operate l (getItem o i):= by
 cases Ġ<;>try (exact⟨_,rfl⟩)
 rename_i a b c d;cases c<;>exact⟨_,rfl⟩
theorem BP{Ō Ġ:az}{o i:aj}{T id:String}{Q:Vs}(hT:s.TypeIs o T)
  (hl:typeLookup (.type T) "__getitem__"=pure (J (.builtin id))) (h:wpAny (model Pg W0) A (getItem o i) Q E s):
  wpAny (model Pg W0) A (subscriptTail Ō Ġ o i) Q E s:= by
 unfold subscriptTail;refine bh ?_;refine O (getitemInPython_of_ne hT.not_modules) (bh (wpAny_specialOf hT hl ?_));have fin:wpAny (model Pg W0) A (subscripted Ġ Wv o i) (λr dO=>wpAny (model Pg W0) A (letTemporaryGo Ō o r >>= λ_=>pure r) Q E dO) E s:= by
  have h2:wpAny (model Pg W0) A (getItem o i) (λr dO=>wpAny (model Pg W0) A (letTemporaryGo Ō o r >>= λ_=>pure r) Q E dO) E s:=
   lj h (λr dO Jl=>bh (wpAny_letTemporaryGo (cy Jl))) λ_ _ x=>x
  refine xe (wR Ġ o i) λl e=>?_;exact O e (wpAny_operate' h2)
 first
  |exact cy (bh fin)
  |exact bh (cy (bh fin))
  |exact bh fin
noncomputable def aAV (p:PV):Bool:=match p with
 |.lst _=>Wu
 |.tup _=>Wu
 |.str _=>Wu
 |.dcti _=>Wu
 |.dcts _=>Wu
 |_=>Wv
theorem uH (r:RT s.heap N v p) (h:aAV p=Wu):∃T id,s.TypeIs v T/\typeLookup (.type T) "__getitem__"=pure (J (.builtin id)):= by
 cases p<;>try (exact nf h)
 ·apply Ü r.inv;intro t;exact(lD ("str") _ rfl F.slot_str_getitem.lookup)
 ·apply fF r.inv;intro _ _ a _;exact(lD ("tuple") _ a.isTuple.typeIs F.slot_tuple_getitem.lookup)
 ·apply fF r.inv;intro _ _ a _;exact(lD ("list") _ a.isList.typeIs F.slot_list_getitem.lookup)
 ·apply DM r.inv;intro _ _ _ hd _;exact(lD ("dict") _ hd.typeIs xz.lookup)
 ·apply DM r.inv;intro _ _ _ hd _;exact(lD ("dict") _ hd.typeIs xz.lookup)
theorem JD (h:iT p q=J r):aAV p=Wu:= by
 cases p<;>first|rfl|exact nn h
theorem BQ (h:f8 p a b c=J r):aAV p=Wu:= by
 cases p<;>first|rfl|exact nn h
theorem OJ (h:BN (.sub p q)=Wu):∃x,p=.cst (.str x):=D9 h
theorem OK (hp:È F B p) (hq:È F B q):È F B (.sub p q):= by
 intro A cx asg Á s Na No pe b e r Q E R X hc hd hQ;refine oB (U4 hc) λx i k bc h1 h2=>?_;subst bc;refine fE (VA hd) λa c d1 d2 d3=>?_;refine Subscript_ (two hp hq R X h1 h2 d1 d2 λv u s' P rv ru X'=>?_);refine mF (uH rv (JD d3)) λT id hT hl=>?_;refine BP hT hl (IR R rv ru d3 X'.base.toks λz Â iF hz ht=>hQ _ _ (P.trans iF) ?_);refine{t:=hz.rt,a:=λ_=>hz.weak λ_ q=>.inl q,f:=λ_=>hz,fresh:=λq=>(nomatch q),tok:=λhk=>ht ?_};refine xe (OJ hk) λy bc=>?_;subst bc;exact⟨y,(sm d1).symm⟩
theorem VF (r:RT h N v p) (e:mT p=J o):ã v o:= by
 cases p<;>try (exact nn e)
 ·cases sm e;cases r.inv;exact .none
 ·cases sm e;apply Ü r.inv;intro t;exact .int _ _
theorem qV (hp:È F B p) (R:Ê A (nd p+B)) (X:Ä cx asg Á s Na No pe)
  (hc:(match x with|none=>iB p|some e=>aG cx Wu e p)=Wu) (hd:aB F p pe=J r/\mT r=J o)
  (h:∀v s',Pure s s'->ã v o->Ä cx asg Á s' Na No pe->Q v s'):wpAny (model Pg W0) A (evalPart x Á) Q E s:= by
 cases x with
 |none=>
  cases BI hc;cases sm hd.1;cases sm hd.2;exact wpAny_evalPart_none (h _ _ (Õ.refl _ _) .none X)
 |some e=>
  exact wpAny_evalPart_some (hp R X hc hd.1 λv s' P o=>h _ _ P (VF o.t hd.2) (X.pure P))
theorem Ê.s1 (R:Ê A (max (max a b) (max c d)+B)):Ê A (a+B)/\Ê A (b+B)/\Ê A (c+B)/\Ê A (d+B):=
 (fH (R.le (ax (aa (jt _ _) (jt _ _)) _)) (R.le (ax (aa (il _ _) (jt _ _)) _)) (R.le (ax (aa (jt _ _) (il _ _)) _)) (R.le (ax (aa (il _ _) (il _ _)) _)))
theorem OL (hp:È F B p) (ha:È F B a) (hb:È F B b) (Jy:È F B c):È F B (.slc p a b c):= by
 intro A cx asg Á s Na No pe bb e r Q E R X hc hd hQ;have R:=R.s1;refine fW (U5 hc) λx l u t zt=>?_;apply iS zt;intro k k' h1 h2 zt;refine xa zt λh3 h4=>?_;clear zt;refine fW (VC hd) λx l u t zt=>?_;refine b9 zt λl' u' t' d1 d2 d3 zt=>?_;refine xa zt λd4 d5=>?_;clear zt;refine Subscript_ (hp R.1 X h1 d1 λv aT bY DO=>wpAny_Slice ?_);refine qV ha R.2.1 (X.pure bY) h2 d2 λvl Â iF pl Fi=>?_;refine qV hb R.2.2.1 Fi h3 d3 λvu dO Ga pu Fw=>?_;refine qV Jy R.2.2.2 Fw h4 d4 λvs s₄ Ho ps Gg=>?_;have Gu:Pure s₄ {s₄ with heap:=s₄.heap.push {cls:=.type "slice",data:=.fields #[vl,vu,vs]}}:=Pure.push s₄ _ (ai _);have Gd:=Gg.pure Gu;have P25:=((iF.trans Ga).trans Ho).trans Gu;have Oc:=DO.t.pure P25;refine mF (uH Oc (BQ d5)) λT id hT hl=>?_;have P14:=bY.trans P25;exact BP hT hl (A7 Gd.base.toks Gd.low Oc pl pu ps (cr _ rfl) d5 λz Gc Jm hz=>hQ _ _ (P14.trans Jm) (.res P14 hz rfl))
end
section
variable (F:Fn) (B:Nat)
def đ:Ĕ->Prop
 |.nil=>True
 |.cons p ps=>(È F B p/\Ô F B p)/\đ ps
end
section
variable{F:Fn}{B:Nat}
variable{A:dj}{cx:Cx}{asg:List Str}{Á:Env}{s:ak}{Na No:Ap}{pe:Ã}{E:Vs}
theorem wS (h:cD e=Wu):starEach (e::rest) Á=(Wv,eval e Á)::starEach rest Á:= by
 cases e<;>first|rfl|exact nf h
theorem į.pure (r:į s.heap N vs ps) (x:Pure s s'):į s'.heap N vs ps:= by
 induction ps generalizing vs with
 |nil=>cases r;exact .nil
 |cons p ps ih=>cases r with|cons a b=>exact .cons (a.pure x) (ih b)
theorem Ê.n1 (R:Ê A (max a b+B)):Ê A (a+B):=R.le (ax (jt _ _) _)
theorem Ê.n2 (R:Ê A (max a b+B)):Ê A (b+B):=R.le (ax (il _ _) _)
theorem Ê.b (R:Ê A (a+B)):Ê A B:=R.le (ll _ _)
theorem bZ (h:cD e=Wu):backTo pos (starEach (e::es) Á)=(Wv,eval e Á)::backTo pos (starEach es Á):=by refine O (wS h) ?_;rfl
theorem þ.nil (h:ps=.nil):þ F B ps:= by
 subst h;intro A cx asg Á s Na No pe b es rs pos Q E R X hc hd hQ;cases sm hd;cases uD hc;exact iv (hQ _ _ (Õ.refl _ _) .nil (λ_=>.nil) (λ_=>.nil) rfl)
theorem þ.cons (hp:È F B p) (ih:þ F B ps):þ F B (.cons p ps):= by
 intro A cx asg Á s Na No pe b es rs pos Q E R X hc hd hQ;refine fE (qT hd) λx l d1 d2 bc=>?_;subst bc;refine dK (qR hc) λe es bc h1 h2 h3=>?_;subst bc;refine O (bZ h1) (ez (hp R.n1 X h2 d1 λv aT bY DO=>ih R.n2 (X.pure bY) h3 d2 λvs Â iF Kb Od Oe hl=>?_));exact hQ _ _ (bY.trans iF) (.cons (DO.t.pure iF) Kb) (λht=>.cons ((DO.a ht).step (iF.stepAt _)) (Od ht)) (λhb=>.cons ((DO.f hb).step (iF.stepAt _)) (Oe hb)) (congrArg xd hl)
theorem dT:∀{ps:Ĕ},đ F B ps->þ F B ps
 |.nil,_=>þ.nil rfl
 |.cons _ _,H=>þ.cons H.1.1 (dT H.2)
theorem lG:∀{ps:Ĕ}{es:List az}{cx:Cx}{b:Bool},dS cx b es ps=Wu->(backTo pos (starEach es Á)).any (·.1)=Wv
 |.nil,es,cx,b,h=>by cases uD h;rfl
 |.cons p ps,es,cx,b,h=>by
  apply iS (qR h);intro e es h1 h2 h3;exact O (bZ h1) (lG (pos:=pos) h3)
theorem zH (hc:dS cx b es ps=Wu) (Fy:0<es.length) (h:wpAny (model Pg W0) A (spliced (backTo pos (starEach es Á))) (λvs s'=>Q ⟨vs,[]⟩ s') E s):
  wpAny (model Pg W0) A (evalArgs f Wu (backTo pos (starEach es Á)) []) Q E s:= by
 cases ps with
 |nil=>
  cases uD hc;exact absurd Fy (gn 0)
 |cons p ps=>
  refine dK (qR hc) λe es bc h1 h2 h3=>?_;subst bc;rw[bZ h1] at h⊢;exact ic h
theorem oF (h:n<=100) (e:m=n):m<=sizeLine:=by unfold sizeLine;exact ä (.x .q (.P .n2 24)) [.x .r (.N 100),.z1 .q .r] h e
theorem JE (H:đ F B ps):È F B (.list ps):= by
 intro A cx asg Á s Na No pe b e r Q E R X hc hd hQ;refine fE (NU hc) λxs k bc h1 h2=>?_;subst bc;refine Å (N7 hd) λl d1 bc=>?_;subst bc;refine wpAny_List (dT H R X h1 d1 λvs aT bY Iy Im Hp hl=>⟨oF h2 hl,?_⟩);exact rU (X.pure bY).low (Hp rfl) (ai _) λv s' P hr=>hQ _ _ (bY.trans P) (.res bY hr rfl)
theorem OM (H:đ F B ps):È F B (.tup ps):= by
 intro A cx asg Á s Na No pe b e r Q E R X hc hd hQ;refine oB (U6 hc) λxs n k bc h1 h2=>?_;subst bc;refine Å (VB hd) λl d1 bc=>?_;subst bc;refine wpAny_Tuple (dT H R X h1 d1 λvs aT bY Iy Im Hp hl=>⟨oF h2 hl,?_⟩);exact tM (X.pure bY).low (Hp rfl) (ai _) λv s' P hr=>hQ _ _ (bY.trans P) (.res bY hr rfl)
theorem ON (h:I6 f g=Wu):g=.fn f:=by cases g<;>first|exact nf h|exact congrArg _ (aq h).symm
theorem OO (h:aAO f g=Wu):g=.bi f:=by cases g<;>first|exact nf h|exact congrArg _ (aq h).symm
theorem JF (h:rY g=Wu):g=.rng:=by cases g<;>first|exact nf h|rfl
theorem G2 (GK:ă) (H:đ F B ps) (R:Ê A (Ų ps+B)) (X:Ä cx asg Á s Na No pe)
  (h1:fX cx g (I6 f)=Wu) (h2:dS cx b xs ps=Wu) (Fy:0<xs.length) (d1:cC F ps pe=J l)
  (hQ:∀vs s',Pure s s'->Ä cx asg Á s' Na No pe->(cx.top=Wu->Í s'.heap Na vs l)->(b=Wv->Í s'.heap (λb=>Na b\/No b) vs l)->wpAny (model Pg W0) A (call (.ref (fA f)) vs) Q E s'):
  wpAny (model Pg W0) A (eval (.Call g xs [] k) Á) Q E s:= by
 apply fG (jH h1);intro x pos g k1 k2 k3 k4;refine wpAny_Call_NameR (g7 GK X k1 k2 k3 λv hv=>?_);cases ON k4;apply xr hv;intro zt;refine mF zt λo fd hg Qx=>?_;clear zt;exact uu (o:=o) (fd:=fd) (zH h2 Fy (dT H R X h2 d1 λvs aT bY Iy Im Hp hl=>⟨⟨bY.keep _ _ (X.base.keep _ _ hg),Qx⟩,hQ vs aT bY (X.pure bY) Im Hp⟩))
theorem JG (GK:ă) (FK:î F B) (H:đ F B ps):È F B (.call f ps):= by
 intro A cx asg Á s Na No pe b e r Q E R X hc hd hQ;apply fG (NW hc);intro g xs k h1 h2 Fy _;refine Å (N4 hd) λl d1 d2=>?_;exact G2 GK H R X h1 h2 Fy d1 λvs aT bY Fq Im Hp=>FK f A aT (λb=>Na b\/No b) vs l r Q E R.b Fq.base (Hp rfl) d2 λv Â iF hv=>hQ _ _ (bY.trans iF) (.of hv rfl rfl)
theorem ñ.weak (b:ñ s N) (h:∀x,N' x->N x):ñ s N':=⟨b.keep,λx q=>b.above x (h x q),b.size,λx q=>b.low x (h x q),b.toks,b.bare⟩
theorem OP (h:(backTo posc (starEach xs Á)).any (·.1)=Wv)
  (k:wpAny (model Pg W0) A (evalArgs (ŷ f) Wu (backTo posc (starEach xs Á)) []) (λa aT=>wpAny (model Pg W0) A (call (ŷ f) ([]++a.pos) a.kw) Q E aT) E s):
  wpAny (model Pg W0) A (callWith pos (ŷ f) [] (backTo posc (starEach xs Á)) []) Q E s:= by
 cases f with
 |int=>exact on h k
 |_=>exact ly h k
theorem EA (GK:ă) (FK:î F B) (H:đ F B ps):È F B (.callB f ps):= by
 intro A cx asg Á s Na No pe b e r Q E R X hc hd hQ;apply fG (I8 hc);intro g xs k h0 h1 h2 zt;refine xa zt λFy _=>?_;clear zt;refine mK (JA hd) λl d1 d2 Ja=>?_;exact G2 GK H R X h1 h2 Fy d1 λvs aT bY Fq Im Hp=>FK f A aT Na vs l r Q E R.b (Fq.base.weak λ_ q=>.inl q) (Im h0) d2 λv Â iF hv=>hQ _ _ (bY.trans iF) (.of (hv.of_scalar Ja) rfl rfl)
theorem VG (GK:ă) (hB:3<=B) (H:đ F B ps):È F B (.bi f ps):= by
 intro A cx asg Á s Na No pe b e r Q E R X hc hd hQ;apply fG (aAQ hc);intro g xs k h1 h2 Fy _;refine Å (aAS hd) λl d1 d2=>?_;apply fG (jH h1);intro x pos g k1 k2 k3 k4;refine wpAny_Call_NameR (g7 GK X k1 k2 k3 λv hv=>?_);cases OO k4;cases hv;exact OP (lG h2) (zH h2 Fy (dT H R X h2 d1 λvs aT bY Iy Im Hp hl=>NH R (X.pure bY).base.toks Iy d2 λv Â iF hv=>hQ _ _ (bY.trans iF) (.of hv rfl rfl)))
theorem JH (h:(!(args.isEmpty&&kws.isEmpty))=Wu):attributeBase (.Call g args kws pos) n Á whole=whole:= by
 cases args<;>cases kws
 ·exact nf h
 all_goals (cases g<;>rfl)
theorem G3 (h:mV o=Wu):attributeBase o n Á whole=whole:= by
 cases o<;>try rfl
 exact JH h
theorem VH{α:Type}{f:α->Bool}{l:List α}(h:l.any f=Wv):l.all (λx=>!f x)=Wu:= by
 induction l with
 |nil=>rfl
 |cons a l ih=>
  have h:=Bool.or_eq_false_iff.mp (show(f a||l.any f)=Wv from h);show(!f a&&l.all _)=Wu;refine O h.1 (O (ih h.2) ?_);rfl
theorem aAW (hc:dS cx b es ps=Wu) (hl:es.length<=20):((backTo pos (starEach es Á)).all (λx=>!x.1)&&(backToKw pos (keywordEach [] Á)).all (λx=>x.1.isSome)&&decide (es.length+([]:List vw).length+(if ([]:List vw).isEmpty then 0 else 1)<30))=Wu:= by
 have h:=lG (Á:=Á) (pos:=pos) hc;have h1:=VH h;have h2:decide (es.length+([]:List vw).length+(if ([]:List vw).isEmpty then 0 else 1)<30)=Wu:=decide_eq_true (jv (show es.length<=20 from hl) (by decide));refine O h1 (O h2 ?_);rfl
theorem OQ (f:Me):∃(T:String),PlainAttrs T/\Slot T (meN f) f.id/\typeOf (.builtin f.id)=dm (.type "method_descriptor")/\
  ∀{s:ak}{N:Ap}{v:aj}{p:PV}{l:List PV}{r:PV},RT s.heap N v p->ŏ f p l=J r->s.TypeIs v T/\(∀a,v=.ref a->∃ob,s.heap.get? a=J ob/\ob.dict=Ww):= by
 cases f
 ·refine(iH ("str") F.plainAttrs_str F.slot_str_join F.type_str_join (λ{s N v p l r} h1 h2=>?_));cases p<;>try (exact nn h2)
  apply Ü h1.inv;intro t;exact⟨rfl,λa e=>(nomatch e)⟩
 ·refine(iH ("dict") F.plainAttrs_dict F.slot_dict_get F.type_dict_get (λ{s N v p l r} h1 h2=>?_));cases p<;>try (exact nn h2)
  apply DM h1.inv;intro _ _ _ hd _;exact⟨hd.typeIs,hd.mapOf.noDict⟩
theorem VI (GK:ă) (hB:3<=B) (ho:È F B o) (H:đ F B ps):È F B (.me f o ps):= by
 intro A cx asg Á s Na No pe b e r Q E R X hc hd hQ;apply gX (aAR hc);intro x ap xs k h1 h2 Fy h4 h5;refine fE (aAT hd) λy l d1 d2 d3=>?_;refine cH (OQ f) λT pa sl Ud hk=>?_;refine wpAny_Call_method (G3 h5) (aAW h2 Fy.2) h4 pa sl Ud (ho R.n1 X h1 d1 λv aT bY DO=>?_);have Fq:=X.pure bY;have hq:=hk (s:=aT) DO.t d3;refine(ß hq.1 hq.2 (ly (lG h2) (zH h2 Fy.1 (dT H R.n2 Fq h2 d2 λvs Â iF Kb Od Oe hl=>?_))));have Fi:=Fq.pure iF;exact NJ (k:=1) (ai _) (R.le (aa (aa (by decide) hB) (ll _ _))) Fi.base.toks (Fi.ns0 GK) (DO.t.pure iF) Kb d3 λz dO Ga hz=>hQ _ _ ((bY.trans iF).trans Ga) (.of hz rfl rfl)
theorem ņ.keys{K:Type}{Fk:List (K×aj)}{l:List (K×SV)}(r:ņ Fk l):Fk.map (·.1)=l.map (·.1):= by
 induction r with
 |nil=>rfl
 |cons a b ih=>simp[ih]
theorem RT.svr (r:RT h N v a.pv):Ÿ v a:= by
 cases a with
 |i n=>apply Ü (RT.inv (p:=.int n) r);intro t;exact .i _ _
 |t x=>apply Ü (RT.inv (p:=.str x) r);intro t;exact .t _ _
theorem xM (Ho:Pure s s₄) (hT:yt≠0) (a1:vt≠0) (a2:vt≠yt) (q1:xs.length<=1000) (a3:zz.length<=10) (a4:(y==zz)=Wv)
  (hQ:∀v s',Pure s s'->RV s'.heap (λb=>Na b\/No b) v (.str (Txt.replace xs y zz))->Q v s'):wpAny (model Pg W0) A (call (.builtin "str.replace") [.str xs xt,.str y yt,.str zz vt]) Q E s₄:= by
 refine bD (SC.replace hT a1 (qm a2) a4 ?_ λt' k hmono=>hQ _ _ (Ho.trans (Pure.toks _ hmono.2)) (.str _ _));have:(xs.length+1)*Ei zz<=1001*10:=su (im q1) a3;exact ä (.x (.A .q (.M .kl .r)) (.N 16777216)) [.x .q .kn,.x (.M .kl .r) (.M (.N 1001) (.N 10))] q1 this
theorem JI (GK:ă) (ho:È F B o) (ht:Ô F B t):È F B (.repl o y t i z):= by
 intro A cx asg Á s Na No pe b e r Q E R X hc hd hQ;refine fW (NY hc) λx ap n1 p1 zt=>?_;refine fW zt λc u pu n2 zt=>?_;refine b9 zt λp2 pi k bc h2 h5 zt=>?_;refine MO zt λhi h7 h8 h9 Ju Qy=>?_;clear zt;subst bc;obtain⟨xs,bb,us,d1,d2,d3,⟨q1,q2,q3,q4,q5⟩,rfl⟩:=N6 hd;refine wpAny_Call_method (G3 Qy) (by rfl) Ju PySem.F.plainAttrs_str PySem.F.slot_str_replace PySem.F.type_str_replace (ho R.n1 X h2 d1 λv aT bY DO=>?_);refine xe DO.t.inv λxt bc=>?_;subst bc;refine(ß rfl (λa e=>(nomatch e)) (ly (by rfl) ?_));refine ic (x:=eval (.Constant (.str y) n1 p1) Á) (ez (wpAny_mkText ?_));have Fq:=X.pure bY;refine Å (Fq.vars u i _ hi d3) λv hb hs=>?_;have iF:Pure aT {aT with toks:=aT.toks+1}:=Pure.toks _;have KE:=hs.1;rw[if_neg (λq=>by rw[q] at h9;exact nf h9)] at KE;refine xe KE.inv λut bc=>?_;subst bc;refine xa (hs.2 h8 _ _ rfl) λk1 k2=>?_;refine ez (IfExp_ (pos:=pi) (ht R.n2 (Fq.pure iF) h5 d2 λdO Ga=>?_));have hT:0<aT.toks:=Fq.base.toks;have hm:aT.toks+1<=dO.toks:=Õ.toks Ga;have P13:=(bY.trans iF).trans Ga;cases bb with
 |true=>exact((hb.keeps iF.keep).keeps Ga.keep).name X.kind h7 (iv (xM P13 (iy hT) k1 (fx k2) q1 q2 q4 λv s' P rv=>hQ v s' P (.of rv rfl rfl)))
 |false=>exact wpAny_mkText (iv (xM (P13.trans (Pure.toks _)) (iy hT) (iy (af (jk _) hm)) (iy hm) q1 q3 q5 λv s' P rv=>hQ v s' P (.of rv rfl rfl)))
theorem zI{K:Type}[DecidableEq K] (Fk:List (K×aj)):∀acc:List (K×aj),((acc++Fk).map (·.1)).Nodup->merged acc Fk=acc++Fk:= by
 induction Fk with
 |nil=>exact λacc _=>(bj acc).symm
 |cons kv Fk ih=>
  intro acc h;have e:stored acc kv.1 kv.2=acc++[kv]:= by
   unfold stored;rw[if_neg];intro hx;simp only[uv,decide_eq_true_eq] at hx;refine Å hx λx hx e=>?_;simp only[bm,aw,List.nodup_append] at h;exact h.2.2 x.1 (ne hx) kv.1 (by exact ag) e
  rw[<-List.singleton_append,<-bk] at h⊢;exact(congrArg (merged · Fk) e).trans (ih (acc++[kv]) h)
theorem uI (h:nZ (x::y::l)=J d):∃k a d',x=.int k/\y=a.pv/\nZ l=J d'/\(d'.map (·.1)).contains k=Wv/\d=(k,a)::d':= by
 refine Å (co.mp h) λk h1 h=>?_;refine Å (co.mp h) λa h2 h=>?_;refine Å (co.mp h) λd' h3 h=>?_;have h:=xD h;refine(fI k a d' ?_ ?_ h3 (jl.mpr h.1) ((sm h.2).symm))
 ·cases x<;>first|exact nn h1|exact congrArg _ (sm h1)
 ·cases y<;>first|exact nn h2|(cases sm h2;rfl)
theorem rZ:∀{l:List PV}{d:List (Int×SV)},nZ l=J d->(d.map (·.1)).Nodup
 |[],d,h=>by cases sm h;exact .nil
 |[x],d,h=>nn h
 |x::y::l,d,h=>by
  refine b9 (uI h) λk a d' _ _ h1 zt=>?_;apply xaR zt;intro h2;exact Bc.mpr ⟨λq=>by rw[mo.mpr q] at h2;exact nf h2.symm,rZ h1⟩
def PairsOK (A:dj) (cx:Cx) (asg:List Str) (Á:Env) (Na No:Ap) (pe:Ã) (E:Vs) (d:List (Int×SV)) (pairs:List (Sem aj×Sem aj)):Prop:=
 ∀{s:ak}{Q:List (aj×aj)->ak->Prop},Ä cx asg Á s Na No pe->(∀us Fk s',Pure s s'->Carries (intKind Pg W0) us Fk->ņ Fk d->Q us s')->wpAny (model Pg W0) A (evalPairs pairs) Q E s
theorem PairsOK.cons (hp:È F B p) (hq:È F B q) (R1:Ê A (nd p+B)) (R2:Ê A (nd q+B))
  (h1:aG cx Wv k p=Wu) (h2:aG cx Wv v q=Wu) (d1:aB F p pe=J (.int x)) (d2:aB F q pe=J a.pv) (ih:PairsOK A cx asg Á Na No pe E d pairs):
  PairsOK A cx asg Á Na No pe E ((x,a)::d) ((eval k Á,do let x <-eval v Á;standAt pos;dm x)::pairs):=λX hQ=>by
 refine evalPairs_cons (hp R1 X h1 d1 λkv aT bY DO=>?_);have Fq:=X.pure bY;refine bh (hq R2 Fq h2 d2 λvv Â iF Gs=>bh (ji (cy (ih (Fq.pure iF) λus Fk dO Ga hcar Jv=>?_))));apply Ü DO.int;intro t;exact hQ _ ((x,vv)::Fk) _ ((bY.trans iF).trans Ga) (ß (intKind_is Pg W0 x t) rfl hcar) (.cons (RT.svr Gs.t) Jv)
theorem r7 (ps:Ĕ):∀{ks:List (Option az)}{vs:List az}{l:List PV}{d:List (Int×SV)},đ F B ps->Ê A (Ų ps+B)->I7 cx ks vs ps=Wu->cC F ps pe=J l->nZ l=J d->
  ∃pairs:List (Sem aj×Sem aj),(evalEachOpt ks Á).zip ((evalEach vs Á).map λv=>do let x <-v;standAt pos;dm x)=pairs.map (λp=>(J p.1,p.2))/\pairs.length=vs.length/\PairsOK A cx asg Á Na No pe E d pairs:=
 match ps with
 |.nil=>by
  intro _ R hc hd hf;cases cP (aA hc).1;cases cP (aA hc).2;cases sm hd;cases sm hf;exact(gQ ([]) rfl rfl (λX hQ=>evalPairs_nil (hQ _ [] _ (Õ.refl _ _) trivial .nil)))
 |.cons p .nil=>λ_ R hc hd hf=>nf hc
 |.cons p (.cons q ps)=>by
  intro H R hc hd hf;refine fW (I9 hc) λk ks v vs zt=>?_;refine nV zt λbc Gf h1 h2 h3=>?_;clear zt;subst bc;subst Gf;refine fE (qT hd) λx l d1 d2 bc=>?_;subst bc;refine fE (qT d2) λy l d3 d4 bc=>?_;subst bc;refine b9 (uI hf) λk' a d' bc Gf hf' zt=>?_;refine xa zt λ_ zq2=>?_;clear zt;subst bc;subst Gf;subst zq2;refine mK (r7 (pos:=pos) ps H.2.2 R.n2.n2 h3 d4 hf') λpairs e1 e2 ih=>?_;refine(gQ ((eval k Á,do let x <-eval v Á;standAt pos;dm x)::pairs) ?_ (congrArg xd e2) (ih.cons H.1.1 H.2.1.1 R.n1 R.n2.n1 h1 h2 d1 d3));show(J (eval k Á),_)::(evalEachOpt ks Á).zip _=_;rw[e1];rfl
theorem JJ (GK:ă) (H:đ F B ps):È F B (.dict ps):= by
 intro A cx asg Á s Na No pe b e r Q E R X hc hd hQ;refine b9 (NX hc) λks vs pos bc h1 h2 h3=>?_;subst bc;refine fE (N5 hd) λl d d1 Iz bc=>?_;subst bc;refine mK (r7 (A:=A) (asg:=asg) (Á:=Á) (Na:=Na) (No:=No) (E:=E) (pos:=pos) ps H R h1 d1 Iz) λpairs e1 e2 hp=>?_;have Fy:pairs≠[]:= by
  rintro rfl
  simp only[rm] at e2;have:vs=[]:=uw.mp e2.symm;subst this;cases h3
 have bY:Pure s {s with heap:=s.heap.push {cls:=.type "dict",data:=.dict #[]}}:=Pure.push s _ (ai _);refine wpAny_Dict_pairs (knd:=intKind Pg W0) e1 Fy (by exact ä (.x .q (.N 15)) [.x .r (.N 15),.z1 .q .r] h2 e2) (hp (X.pure bY) λus Fk Â iF hcar Jv=>(gQ Fk hcar ?_ (λh' hd2 Hd=>?_)))
 ·exact(Fe s.heap).keep iF.keep
 ·have hm:merged [] Fk=Fk:=by simpa using zI Fk [] (by simpa [Jv.keys] using rZ Iz)
  rw[hm] at hd2;have Ga:Pure s {Â with heap:=h',toks:=Â.toks+us.length}:= by
   have P12:=bY.trans iF;refine⟨⟨λb o _ e=>Hd.extBut b o (λq=>?_) (Pure.keep P12 b o e),?_,λ_ q=>q.elim⟩,P12.gens,P12.bare,P12.os,P12.drawn,?_⟩
   ·have:=dc e;rw[q] at this;exact gn _ this
   ·show s.heap.objs.size<=h'.objs.size;rw[Hd.1];exact P12.step.grow
   ·show s.toks<=Â.toks+us.length;have:=Õ.toks P12;exact ā (.x .q (.A .r .s)) [.x .q .r] this
  have Qz:(s.heap.objs.size==sysModules)=Wv:= by
   have:=GK.big;have h2:=X.base.size;simp only[beq_eq_false_iff_ne,ne_eq];exact iy (af this h2)
  exact hQ _ _ Ga (.of (.dcti (λq=>gn _ (X.low _ q)) (sI Qz Fk hd2 Jv)) rfl rfl)
end
noncomputable def mW (p:PE):Bool:=!(p.ctorIdx==5||p.ctorIdx==6||p.ctorIdx==7||p.ctorIdx==8||p.ctorIdx==9)
section
variable{F:Fn}{B:Nat}
variable{A:dj}{cx:Cx}{asg:List Str}{Á:Env}{s:ak}{Na No:Ap}{pe:Ã}{E:Vs}
theorem OR (h:aG cx b (.BoolOp o l pos) p=Wu):mW p=Wv:=by cases p<;>first|rfl|exact nf h
theorem aAX (h:aG cx b (.IfExp x y z pos) p=Wu):mW p=Wv:=by cases p<;>first|rfl|exact nf h
theorem aAY (h:aG cx b (.Compare x y z pos) p=Wu):mW p=Wv:=by cases p<;>first|rfl|exact nf h
theorem aAZ (h:aG cx b (.UnaryOp .Not x pos) p=Wu):mW p=Wv:=by cases p<;>first|rfl|exact nf h
theorem ff{C:Prop}(h:a=Wu) (h':a=Wv):C:=nf (h'.symm.trans h)
theorem OS (h:aG cx b (.UnaryOp o x pos) p=Wu) (hp:mW p=Wu):
  isTrue (.UnaryOp o x pos) Á whole=(do let v <-whole;standAt (zi o x pos).pos;holding [v] (truthy v)):= by
 cases o<;>first|rfl|exact ff hp (aAZ h)
theorem zJ (h:aG cx b e p=Wu) (hp:mW p=Wu):
  isTrue e Á whole=(do let v <-whole;standAt e.pos;holding [v] (truthy v)):= by
 cases e<;>first|rfl|exact OS h hp|exact ff hp (OR h)|exact ff hp (aAX h)|exact ff hp (aAY h)
theorem EB (Ra:mW p=Wu) (hp:È F B p):Ô F B p:= by
 intro A cx asg Á s Na No pe b e r Q E R X hc hd hQ;refine Ck (kO hp R X hc hd λs' P _=>hQ s' P) (zJ hc Ra)
theorem OT (hp:Ô F B p):Ô F B (.not p):= by
 intro A cx asg Á s Na No pe b e r Q E R X hc hd hQ;apply ZZ (GS hc);intro x k h1;refine Å (GX hd) λn d1 e=>?_;cases e;exact Ct (hp R X h1 d1 λs' P=>hQ s' P)
theorem true_and (hp:Ô F B p) (hq:Ô F B q):Ô F B (.and p q):= by
 intro A cx asg Á s Na No pe b e r Q E R X hc hd hQ;apply lB (GT hc);intro x y k h1 h2;rcases GY hd with⟨d1,n,d2,e⟩|⟨d1,e⟩
 ·cases e;refine isTrue_and (hp R.lz2 X h1 d1 λs' P=>isTrue_and (hq R.r2 (X.pure P) h2 d2 λÂ iF=>?_));cases r
  ·exact hQ _ (P.trans iF)
  ·exact isTrue_and_nil (hQ _ (P.trans iF))
 ·cases e;exact isTrue_and (hp R.lz2 X h1 d1 λs' P=>hQ _ P)
theorem VJ (hp:Ô F B p) (hq:Ô F B q):Ô F B (.or p q):= by
 intro A cx asg Á s Na No pe b e r Q E R X hc hd hQ;apply lB (NT hc);intro x y k h1 h2;rcases N3 hd with⟨d1,e⟩|⟨d1,n,d2,e⟩
 ·cases e;exact isTrue_or (hp R.lz2 X h1 d1 λs' P=>hQ _ P)
 ·cases e;refine isTrue_or (hp R.lz2 X h1 d1 λs' P=>isTrue_or (hq R.r2 (X.pure P) h2 d2 λÂ iF=>?_));cases r
  ·exact isTrue_or_nil (hQ _ (P.trans iF))
  ·exact hQ _ (P.trans iF)
theorem OU (ht:Ô F B t) (hp:Ô F B p) (hq:Ô F B q):Ô F B (.ite t p q):= by
 intro A cx asg Á s Na No pe b e r Q E R X hc hd hQ;apply mO (GU hc);intro c x y k h1 h2 h3;rcases GZ hd with⟨d1,d2⟩|⟨d1,d2⟩
 ·exact isTrue_IfExp (ht R.m1 X h1 d1 λs' P=>hp R.m2 (X.pure P) h2 d2 λÂ iF=>hQ _ (P.trans iF))
 ·exact isTrue_IfExp (ht R.m1 X h1 d1 λs' P=>hq R.m3 (X.pure P) h3 d2 λÂ iF=>hQ _ (P.trans iF))
theorem OV (hB:3<=B) (GK:ă) (hp:È F B p) (hq:È F B q):Ô F B (.cmp op p q):= by
 intro A cx asg Á s Na No pe b e r Q E R X hc hd hQ;apply lB (GW hc);intro l r' k h1 h2;refine b9 (G0 hd) λx y z d1 d2 d3 e=>?_;cases e;exact wpAny_isTrue_Compare1 (two hp hq R X h1 h2 d1 d2 λv u s' P rv ru X'=>xF (k:=3) (ai _) (R.le (aa hB (ll _ _))) (X'.ns0 GK) rv ru d3 λÂ iF=>wpAny_truthy_bool (hQ _ (P.trans iF))) (uG h2)
end
noncomputable def xN (n:String):Bool:=["enumerate","zip","dict_itemiterator","dict_reverseitemiterator","odict_iterator","itertools.zip_longest","itertools.pairwise"].contains n
def ĺ (s:ak) (N:Ap) (I:fy) (À:List PV):Prop:=
 ∃(fp:List fy) (P:Nat->aj->Prop) (St:Nat->ju->Prop),
  (∀A:dj,A.handled=Ww->Ex Pg W0 A I fp [I] À.length P St)/\St 0 s.heap/\(∀i h,St i h->∃o,h.get? I=J o/\(∀v,o.data≠.cell v)/\∃n,o.cls=.type n/\xN n=Wv)/\
  (∀b∈fp,b=I\/¬N b/\b<s.heap.objs.size)/\(∀i v,i<À.length->P i v->∃p,À[i]?=J p/\RV s.heap (λb=>N b\/b=I) v p)
section
variable (F:Fn) (B:Nat)
def í (p:PI):Prop:=∀{A:dj}{cx:Cx}{asg:List Str}{Á:Env}{s:ak}{Na No:Ap}{pe:Ã}{e:az}{À:List PV}{Q:Vs}{E:Vs},
 Ê A (Ν p+B)->Ä cx asg Á s Na No pe->sJ cx e p=Wu->jM F p pe=J À->
 (∀I s',Pure s s'->s.heap.objs.size<=I->I<s'.heap.objs.size->À.length<=100000->ĺ s' (λb=>Na b\/No b) I À->Q (.ref I) s')->
 wpAny (model Pg W0) A (eval e Á) (λx aT=>wpAny (model Pg W0) A (pyIter x) Q E aT) E s
end
section
variable{F:Fn}{B:Nat}
variable{A:dj}{cx:Cx}{asg:List Str}{Á:Env}{s:ak}{Na No:Ap}{pe:Ã}{E:Vs}
theorem lH{s:ak}{N:Ap}{o:Obj}{fp:List fy}{P:Nat->aj->Prop}{St:Nat->ju->Prop}{À:List PV}{n:String}(Rb:o.cls=.type n) (Ft:∀v,o.data≠.cell v) (hg:xN n=Wv)
  (hw:∀A:dj,A.handled=Ww->Ex Pg W0 A s.heap.objs.size fp [s.heap.objs.size] À.length P St) (h0:St 0 (s.heap.push o)) (ho:∀i h,St i h->∃o',h.get? s.heap.objs.size=J o'/\o'.cls=o.cls/\∀v,o'.data≠.cell v)
  (hf:∀b∈fp,b=s.heap.objs.size\/¬N b/\b<s.heap.objs.size) (hv:∀i v,i<À.length->P i v->∃p,À[i]?=J p/\RV (s.heap.push o) (λb=>N b\/b=s.heap.objs.size) v p):
  ĺ {s with heap:=s.heap.push o} N s.heap.objs.size À:=
 ⟨fp,P,St,hw,h0,λi h st=>let ⟨o',h1,h2,h3⟩:=ho i h st;⟨o',h1,h3,n,h2.trans Rb,hg⟩,λb hb=>(hf b hb).imp id λq=>⟨q.1,af q.2 (by rw[br];exact gy _)⟩,hv⟩
theorem BR (ra:Í s.heap N vs l) (Fv:i<l.length) (hv:vs.toArray[i]?=J v):∃p,l[i]?=J p/\RV (s.heap.push o) (λb=>N b\/b=s.heap.objs.size) v p:= by
 have r:=ra.avoid (h':=s.heap.push o) (a:=s.heap.objs.size) (λ_ _ e=>cb _ e) (by exact O (br ..) (gy _)) (ai _);have e:=bf Fv;refine Å (r.get e) λu hu hr=>?_;rw[mm] at hv;rw[hv] at hu;cases hu;exact(Ö _ e hr)
theorem OW{N:Ap}{a b n:fy}(hn:¬N a) (Fv:a<n) (hb:b∈[n,a]):b=n\/¬N b/\b<n:= by
 rcases dL.mp hb with rfl|hb
 ·exact .inl rfl
 ·exact O (bx.mp hb) (.inr ⟨hn,Fv⟩)
theorem o8{h:ju}{o:Obj}:h.objs.size<(h.push o).objs.size:=by exact O (br ..) (dg _)
section
variable{v:aj}{p:PV}{À:List PV}{Q:Vs}{N:Ap}
def Ψ (s:ak) (N:Ap) (À:List PV) (Q:Vs):Prop:=∀I s',Pure s s'->s.heap.objs.size<=I->I<s'.heap.objs.size->À.length<=100000->ĺ s' N I À->Q (.ref I) s'
theorem aA0{a:fy}{vs:List aj}{l:List PV}(hn:¬N a) (pa:s.heap.PlainList a vs.toArray) (ra:Í s.heap N vs l) (hl:l.length<=100000) (hQ:Ψ s N l Q):wpAny (model Pg W0) A (pyIter (.ref a)) Q E s:= by
 have Fv:a<s.heap.objs.size:=let ⟨n,e⟩:=pa;dc e;refine wpAny_pyIter_list pa.isList (hQ _ _ (Pure.push s _ (ai _)) (ai _) o8 hl (lH (fp:=[s.heap.objs.size,a]) (P:=λi v=>vs.toArray[i]?=J v) (St:=λi h=>h.IsListIter s.heap.objs.size a i/\h.IsList a vs.toArray) (n:="list_iterator") rfl (λv e=>nomatch e) (by decide) (λA' hA=>?_)
  ⟨⟨_,cr _ rfl,rfl,rfl⟩,pa.isList.at λo e=>cb _ e⟩ (λi h st=>let ⟨⟨o,ho,hc,hd⟩,_⟩:=st;⟨o,ho,hc,λv e=>by rw[hd] at e;cases e⟩) (λb hb=>OW hn Fv hb) (λi v=>BR ra)))
 have:=Bt (prog:=Pg) (w:=W0) hA s.heap.objs.size a (fx Fv) vs.toArray;rw[show vs.toArray.size=l.length from ra.length] at this;exact this
theorem aA1{a:fy}{vs:List aj}{l:List PV}(hn:¬N a) (pa:Ò s.heap a vs.toArray) (ra:Í s.heap N vs l) (hl:l.length<=100000) (hQ:Ψ s N l Q):wpAny (model Pg W0) A (pyIter (.ref a)) Q E s:= by
 have Fv:a<s.heap.objs.size:=let ⟨n,e⟩:=pa;dc e;refine wpAny_pyIter_tuple pa.isTuple (hQ _ _ (Pure.push s _ (ai _)) (ai _) o8 hl (lH (fp:=[s.heap.objs.size,a]) (P:=λi v=>vs.toArray[i]?=J v) (St:=λi h=>h.IsTupleIter s.heap.objs.size a i/\h.IsTuple a vs.toArray) (n:="tuple_iterator") rfl (λv e=>nomatch e) (by decide) (λA' hA=>?_)
  ⟨⟨_,cr _ rfl,rfl,rfl⟩,let ⟨o,h1,h2⟩:=pa.isTuple;⟨o,cb _ h1,h2⟩⟩ (λi h st=>let ⟨⟨o,ho,hc,hd⟩,_⟩:=st;⟨o,ho,hc,λv e=>by rw[hd] at e;cases e⟩) (λb hb=>OW hn Fv hb) (λi v=>BR ra)))
 have:=Al (prog:=Pg) (w:=W0) hA s.heap.objs.size a (fx Fv) vs.toArray;rw[show vs.toArray.size=l.length from ra.length] at this;exact this
theorem OX (hv:SignAt x i v):∃p,(x.cps.toList.map λc=>PV.str ⟨#[c]⟩)[i]?=J p/\RV h N v p:= by
 obtain⟨c,u,hc,rfl⟩:=hv;exact(Ö (.str ⟨#[c]⟩) (by simp[hc]) (.str _ _))
theorem aA2{x:Str}{t:Tok}(hc:x.length<=100000/\x.cps.all (·<128)) (hQ:Ψ s N (x.cps.toList.map λc=>.str ⟨#[c]⟩) Q):wpAny (model Pg W0) A (pyIter (.str x t)) Q E s:= by
 have hl:(x.cps.toList.map λc=>PV.str ⟨#[c]⟩).length=x.cps.size:=ao ..;refine wpAny_pyIter_ascii hc.2 (hQ _ _ (Pure.push s _ (ai _)) (ai _) o8 (by exact O hl hc.1) (lH (fp:=[s.heap.objs.size]) (P:=SignAt x) (St:=λi h=>h.IsStrIter s.heap.objs.size "str_ascii_iterator" x t i) (n:="str_ascii_iterator") rfl (λv e=>nomatch e) (by decide) (λA' hA=>?_)
  ⟨_,cr _ rfl,rfl,rfl⟩ (λi h st=>let ⟨o,ho,hc,hd⟩:=st;⟨o,ho,hc,λv e=>by rw[hd] at e;cases e⟩) (λb hb=>.inl (bx.mp hb)) (λi v _ hv=>OX hv)))
 have:=Ex.strAscii (prog:=Pg) (w:=W0) hA s.heap.objs.size x t;rw[<-hl] at this;exact this
theorem OY (hN:ď N s.heap) (rv:RV s.heap N v p) (h:tY p=J À) (hQ:Ψ s N À Q):wpAny (model Pg W0) A (pyIter v) Q E s:= by
 cases p<;>try (exact nn h)
 ·apply Ü rv.inv;intro t;have h:=aZ h;cases sm h.2;exact aA2 h.1 hQ
 ·apply iS rv.inv;intro a vs hn pa ra;have h:=aZ h;cases sm h.2;exact aA1 hn pa ra h.1 hQ
 ·apply iS rv.inv;intro a vs hn pa ra;have h:=aZ h;cases sm h.2;exact aA0 hn pa ra h.1 hQ
end
theorem oG{s':ak}{r:fy}{a b c:Int}{t u v:Tok}{n:Nat}{À:List PV}{Q:Vs}{N:Ap}(P:Pure s s') (hr:IsRange s'.heap r a b c t u v) (hs:nh a b c=Wu)
  (hn:gf a b c=n) (hi:À=(cv n).map λk:Nat=>PV.int (a+(k:Int)*c)) (hlen:n<=100000)
  (hQ:Ψ s N À Q):wpAny (model Pg W0) A (pyIter (.ref r)) Q E s':= by
 have hl:À.length=n:=by exact O hi (O (ao ..) (O gh rfl))
 subst hl;refine wpAny_pyIter_range hr hs (hQ _ _ (P.trans (Pure.push s' _ (ai _))) P.step.grow o8 hlen (lH (fp:=[s'.heap.objs.size]) (P:=λi v=>∃t,v=.int (a+i*c) t) (St:=λi h=>Dv h s'.heap.objs.size (a+(i:Nat)*c) ((À.length:Int)-(i:Nat)) c) (n:="range_iterator") rfl (λv e=>nomatch e) (by decide)
  (λA' hA=>Ex.range (prog:=Pg) (w:=W0) hA s'.heap.objs.size a c À.length) ?_ (λi h st=>(gQ _ st rfl (λv e=>nomatch e))) (λb hb=>.inl (bx.mp hb)) (λi v Fv hv=>?_)))
 ·have:=cr s'.heap (o:={cls:=.type "range_iterator",data:=.fields #[rawInt a,rawInt (gf a b c),rawInt c]}) rfl;rw[hn] at this⊢
  simpa [Dv] using this
 ·apply Ü hv;intro t;clear hv;refine(Ö (.int (a+(i:Int)*c)) ?_ (.int _ _));refine O hi (O (ej) (O (yc Fv) ?_));rfl
theorem rsz (a b:Int):(if a<b then(b-a-1)/1+1 else 0)=((b-a).toNat:Int):= by
 by_cases h:a<b
 ·rw[if_pos h,Int.ediv_one,sw,ca (lb (ba h))]
 ·rw[if_neg h,Int.toNat_eq_zero.mpr (Int.sub_nonpos_of_le (dr.mp h))];rfl
theorem uJ (h:mS a b=J À):nh a b 1=Wu/\gf a b 1=((b-a).toNat:Nat)/\À=(cv (b-a).toNat).map (λk:Nat=>PV.int (a+(k:Int)*1))/\(b-a).toNat<=100000:= by
 have h:=aZ h;have hc:=h.1;cases sm h.2;clear h;have hs:gf a b 1=((b-a).toNat:Nat):= by
  unfold gf;exact O (if_pos (by decide)) (rsz a b)
 refine(fH ?_ hs (lq λk _=>by exact O (Dw ..) rfl) (ql.mpr hc.2.2.2.2));unfold nh;refine O hs ?_;clear hs;simp only[sa,bt,mr,decide_eq_true_eq,beq_iff_eq];refine⟨⟨⟨⟨by exact⟨ÿ (.l (.G .kp) .a) [.t (.G .ku) .a] hc.1,ÿ (.t .a .kp) [.t .a .ku] hc.2.1⟩,by exact⟨ÿ (.l (.G .kp) .a) [.t (.G .ku) .a] hc.2.2.1,ÿ (.t .a .kp) [.t .a .ku] hc.2.2.2.1⟩⟩,by exact⟨Ž (.l (.G .kp) .n1) [],Ž (.t .n1 .kp) []⟩⟩,by have hn:(b-a).toNat<=100000:=ql.mpr hc.2.2.2.2;clear hc;generalize (b-a).toNat=n at*;lia⟩,.inr ?_⟩;refine O (if_pos (by decide)) ?_;simp only[bt,decide_eq_true_eq];exact⟨ÿ (.l (.G .kp) (.A .a (.S .n1 .n1))) [.t (.G .ku) .a] hc.2.2.1,ÿ (.t (.A .a (.S .n1 .n1)) .kp) [.t .a .ku] hc.2.2.2.1⟩
theorem EC (h:t6 a b=J À):nh a b (-1)=Wu/\gf a b (-1)=((a-b).toNat:Nat)/\À=(cv (a-b).toNat).map (λk:Nat=>PV.int (a+(k:Int)*(-1)))/\(a-b).toNat<=100000:= by
 have h:=aZ h;have hc:=h.1;cases sm h.2;clear h;have hs:gf a b (-1)=((a-b).toNat:Nat):= by
  unfold gf;exact O (if_neg (by decide)) (rsz b a)
 refine(fH ?_ hs (lq λk _=>congrArg PV.int (by clear hs hc;exact ì [_] [_] (.e (.S .a .q) (.A .a (.M .q .kt))) [])) (ql.mpr hc.2.2.2.2));unfold nh;refine O hs ?_;clear hs;simp only[sa,bt,mr,decide_eq_true_eq,beq_iff_eq];refine⟨⟨⟨⟨by exact⟨ÿ (.l (.G .kp) .a) [.t (.G .ku) .a] hc.1,ÿ (.t .a .kp) [.t .a .ku] hc.2.1⟩,by exact⟨ÿ (.l (.G .kp) .a) [.t (.G .ku) .a] hc.2.2.1,ÿ (.t .a .kp) [.t .a .ku] hc.2.2.2.1⟩⟩,by exact⟨Ž (.l (.G .kp) .kt) [],Ž (.t .kt .kp) []⟩⟩,by have hn:(a-b).toNat<=100000:=ql.mpr hc.2.2.2.2;clear hc;generalize (a-b).toNat=n at*;lia⟩,.inr ?_⟩;refine O (if_neg (by decide)) ?_;simp only[bt,decide_eq_true_eq];exact⟨ÿ (.l (.G .kp) (.A .a (.A .kt .n1))) [.t (.G .ku) .a] hc.2.2.1,ÿ (.t (.A .a (.A .kt .n1)) .kp) [.t .a .ku] hc.2.2.2.1⟩
theorem BS (hp:È F B p):í F B (.val p):= by
 intro A cx asg Á s Na No pe e À Q E R X hc hd hQ;refine Å (VD hd) λq d1 hd=>?_;exact hp R X hc d1 λv aT bY DO=>OY (X.pure bY).low (DO.f rfl) hd λI Â iF h1 h2 h3 h4=>hQ I Â (bY.trans iF) (aa bY.step.grow h1) h2 h3 h4
theorem uK (GK:ă) (X:Ä cx asg Á s Na No pe) (h1:fX cx g rY=Wu) (hb:backTo k (starEach xs Á)=args) (hp:args.any (·.1)=Wv)
  (h:wpAny (model Pg W0) A (evalArgs (.type "range") Wu args []) (λa aT=>wpAny (model Pg W0) A (call (.type "range") ([]++a.pos) a.kw) Q E aT) E s):wpAny (model Pg W0) A (eval (.Call g xs [] k) Á) Q E s:= by
 apply fG (jH h1);intro y ypos g k1 k2 k3 k4;refine wpAny_Call_NameR (g7 GK X k1 k2 k3 λv hv=>?_);cases JF k4;cases hv;exact O hb (on hp h)
theorem xO (GK:ă){p:PE}(hp:È F B p):í F B (.rng1 p):= by
 intro A cx asg Á s Na No pe e À Q E R X hc hd hQ;apply UB (NZ hc);intro g x k h1 h2 h3;refine Å (N8 hd) λn d1 hd=>?_;refine bS (uJ hd) λq1 q2 q3 q4=>?_;refine uK GK X h1 (bZ h3) rfl (ic (ez (hp R X h2 d1 λv aT bY DO=>iv ?_)));apply Ü DO.int;intro t;exact call_range_1 (oG (bY.trans (Pure.push aT _ (da (gy _)))) (Am _ _ _ _ _ _ _) q1 q2 q3 q4 hQ)
theorem xP (GK:ă){p q:PE}(hp:È F B p) (hq:È F B q):í F B (.rng2 p q):= by
 intro A cx asg Á s Na No pe e À Q E R X hc hd hQ;apply gX (N0 hc);intro g x z k h1 h2 h3 h4 h5;refine fE (N9 hd) λa b d1 d2 hd=>?_;refine bS (uJ hd) λq1 q2 q3 q4=>?_;refine uK GK X h1 ((bZ h4).trans (congrArg _ (bZ h5))) rfl (ic (ez (hp R.n1 X h2 d1 λv aT bY DO=>ez (hq R.n2 (X.pure bY) h3 d2 λu Â iF Gs=>iv ?_))));apply Ü DO.int;intro t;apply Ü Gs.int;intro u;exact call_range_2 (oG ((bY.trans iF).trans (Pure.push Â _ (je _ _))) (Am _ _ _ _ _ _ _) q1 q2 q3 q4 hQ)
theorem xQ (GK:ă){p q:PE}(hp:È F B p) (hq:È F B q):í F B (.rng3 p q):= by
 intro A cx asg Á s Na No pe e À Q E R X hc hd hQ;refine fW (N1 hc) λg x z n zt=>?_;apply fG zt;intro p1 p2 k h1 h2 h3 zt;refine xa zt λh4 h5=>?_;clear zt;refine fE (OA hd) λa b d1 d2 hd=>?_;refine bS (EC hd) λq1 q2 q3 q4=>?_;refine uK GK X h1 ((bZ h4).trans (congrArg _ (bZ h5))) rfl (ic (ez (hp R.n1 X h2 d1 λv aT bY DO=>ez (hq R.n2 (X.pure bY) h3 d2 λu Â iF Gs=>ez (wpAny_UnaryOp (wpAny_mkInt (Fd (iv ?_))))))));apply Ü DO.int;intro t;apply Ü Gs.int;intro u;exact call_range_3 (by decide) (oG ((bY.trans iF).trans (Pure.push Â _ (da (gy _)))) (Am _ _ _ _ _ _ _) q1 q2 q3 q4 hQ) (Or.inl (vp (by decide)))
end
noncomputable def ŝ:Ã->Nat->Ã
 |[],_=>[]
 |_::l,0=>Ww::l
 |a::l,n+1=>a::ŝ l n
theorem aD3:ŝ [] n=[]:=rfl
theorem aD4:ŝ (a::l) 0=Ww::l:=rfl
theorem aD5:ŝ (a::l) (n+1)=a::ŝ l n:=rfl
theorem OZ{pe:Ã}:∀{i j:Nat},lk (ŝ pe i) j=J q->j≠i/\lk pe j=J q:= by
 induction pe with
 |nil=>exact λh=>nn h
 |cons a l ih=>
  intro i j h;cases i with
  |zero=>cases j with
   |zero=>exact nn h
   |succ j=>exact⟨nofun,h⟩
  |succ n=>cases j with
   |zero=>exact⟨nofun,h⟩
   |succ j=>exact⟨λe=>(ih h).1 (nw e),(ih h).2⟩
theorem O0:∀{pe:Ã}{i:Nat},st (ŝ pe i) i p=st pe i p
 |[],_=>rfl
 |_::_,0=>rfl
 |a::l,n+1=>by simp only[aD3,aD4,aD5,NK,NL,NM,O0]
theorem O1:∀{pe:Ã}{i:Nat},st (st pe i p) i q=st pe i q
 |[],_=>rfl
 |_::_,0=>rfl
 |a::l,n+1=>by simp only[NK,NL,NM,O1]
noncomputable def Ń (Á:Env):List (Str×mz)->List (Str×fy)->List (Str×fy)
 |[],acc=>acc
 |(n,k)::r,acc=>if k==.free then Ń Á r ((n,(Á.cells.lookup n).getD 0)::acc) else Ń Á r acc
theorem O2:Ń Á ((n,k)::r) acc=if k==.free then Ń Á r ((n,(Á.cells.lookup n).getD 0)::acc) else Ń Á r acc:=rfl
theorem wT (f:Str×mz->List (Str×fy)->Sem (ForInStep (List (Str×fy))))
  (hf:∀n k cs,f (n,k) cs=if k==.free then(do let a <-cellOf Á n;dm (.yield ((n,a)::cs))) else dm (.yield cs)) (names:List (Str×mz)):
  ∀acc:List (Str×fy),(∀n,(n,dh)∈names->∃c,Á.cells.lookup n=J c)->forIn names acc f=dm (Ń Á names acc):= by
 induction names with
 |nil=>intro acc _;refine O qp ?_;rfl
 |cons a r ih=>
  intro acc h;obtain⟨n,k⟩:=a;refine O (Bd ..) (O (hf ..) (O O2 ?_))
  by_cases hk:(k==dh)=Wu
  ·refine O (if_pos hk) (O (if_pos hk) ?_);refine xe (h n (by exact O (aq hk) ag)) λc hc=>?_;unfold cellOf;refine O hc ?_
   dsimp only[pure_bind,ux]
   exact ih _ λm hm=>h m (ah _ hm)
  ·refine O (if_neg hk) (O (if_neg hk) ?_);simp only[pure_bind];exact ih _ λm hm=>h m (ah _ hm)
theorem uL (h:∀n,(n,dh)∈scope.names->∃c,Á.cells.lookup n=J c):closureFor scope Á=dm (Ń Á scope.names []):= by
 unfold closureFor
 dsimp only
 refine O (wT (Á:=Á) _ (λn k cs=>by
  by_cases hk:(k==dh)=Wu
  ·dsimp only[hk,if_true]
  ·simp only[Ac] at hk;simp only[hk,bw,if_false]) scope.names [] h) ?_
 rfl
theorem b7{V:Type}{l:List (Str×V)}:∀{x:Str}{v:V},cR (l.map (·.1))=Wu->(x,v)∈l->l.lookup x=J v:= by
 induction l with
 |nil=>exact λ_ hm=>nomatch hm
 |cons a l ih=>
  obtain⟨y,u⟩:=a;intro x v h hm;simp only[aw,kN,bt,en,jf,decide_eq_false_iff_not] at h;rcases dL.mp hm with e|hm
  ·cases e;simp
  ·have Fy:x≠y:=λe=>h.1 (e▸ne (f:=(·.1)) hm);exact O dk (O (show(x==y)=Wv from by simpa using Fy) (ih h.2 hm))
theorem bC{α V:Type}[BEq α] [LawfulBEq α] {l:List (α×V)}{x:α}{v:V}(h:l.lookup x=J v):(x,v)∈l:= by
 induction l with
 |nil=>exact nn h
 |cons a l ih=>
  rw[dk] at h;cases e:x==a.1 with
  |true=>rw[e] at h;cases h;cases aq e;exact ag
  |false=>rw[e] at h;exact ah _ (ih h)
theorem o9{names:List (Str×mz)}:∀{acc:List (Str×fy)},(y,dh)∉names->(Ń Á names acc).lookup y=acc.lookup y:= by
 induction names with
 |nil=>exact λ_=>rfl
 |cons a r ih=>
  intro acc h;obtain⟨n,k⟩:=a;refine O O2 ?_;have hr:(y,dh)∉r:=λq=>h (ah _ q);split
  ·rename_i hk;have:(y==n)=Wv:=beq_false_of_ne λe=>h (by rw[e];exact O (aq hk) ag);exact O (ih hr) (O dk (O this rfl))
  ·exact ih hr
theorem O3{names:List (Str×mz)}:∀{acc:List (Str×fy)},cR (names.map (·.1))=Wu->(y,dh)∈names->(Ń Á names acc).lookup y=J ((Á.cells.lookup y).getD 0):= by
 induction names with
 |nil=>exact λ_ h=>nomatch h
 |cons a r ih=>
  intro acc hn h;obtain⟨n,k⟩:=a;refine O O2 ?_;simp only[aw,kN,bt,en,jf,decide_eq_false_iff_not] at hn;rcases dL.mp h with e|h'
  ·cases e;refine O (if_pos rfl) (O (o9 (λq=>hn.1 (ne (f:=(·.1)) q))) (O dk (O (beq_self_eq_true _) rfl)))
  ·split<;>exact ih hn.2 h'
theorem dU{names:List (Str×mz)}:∀{n:Nat}{acc:List (Str×fy)},(y,ik)∉names->(cellsFrom n names acc).lookup y=acc.lookup y:= by
 induction names with
 |nil=>exact λ_=>rfl
 |cons a r ih=>
  intro n acc h;obtain⟨m,k⟩:=a;unfold cellsFrom;have hr:(y,ik)∉r:=λq=>h (ah _ q);split
  ·rename_i hk;have:(y==m)=Wv:=beq_false_of_ne λe=>h (by rw[e];exact O (aq hk) ag);exact O (ih hr) (O dk (O this rfl))
  ·exact ih hr
theorem jN{names:List (Str×mz)}:∀{h:ju}{acc:List (Str×fy)},cR (names.map (·.1))=Wu->(y,ik)∈names->
  ∃c,(cellsFrom h.objs.size names acc).lookup y=J c/\h.objs.size<=c/\(pushCells h names).IsCell c Ww:= by
 induction names with
 |nil=>exact λ_ hm=>nomatch hm
 |cons a r ih=>
  obtain⟨m,k⟩:=a;intro h acc hn hm;unfold cellsFrom pushCells;simp only[aw,kN,bt,en,jf,decide_eq_false_iff_not] at hn;rcases dL.mp hm with e|h'
  ·cases e;refine O (if_pos (by rfl)) (O (if_pos (by rfl)) (gQ h.objs.size ?_ (ai _) ?_))
   ·refine O (dU (λq=>hn.1 (ne (f:=(·.1)) q))) ?_;simp
   ·exact(Ö _ (pushCells_keeps r _ _ _ (cr _ rfl)) rfl)
  ·split
   ·have:=ih (h:=h.push {cls:=.type "cell",data:=.cell Ww}) (acc:=(m,h.objs.size)::acc) hn.2 h';rw[br] at this;refine mK this λc h1 h2 h3=>?_;exact(gQ c h1 (by exact ä (.x .q .r) [.x .kl .r] h2) h3)
   ·exact ih hn.2 h'
theorem gB:∀(names:List (Str×mz)) (h:ju),h.objs.size<=(pushCells h names).objs.size
 |[],_=>ai _
 |(_,k)::r,h=>by
  unfold pushCells;split
  ·exact aa (by simp[br]) (gB r _)
  ·exact gB r h
section
variable{M:Ew}{A:dj}{E:Vs}{s:ak}{Á:Env}
theorem wU
  (h:Q {scope,locals:=s.heap.objs.size,globals,cells:=cellsFrom (s.heap.objs.size+1) scope.names cl,qual,func:=Ww,code:=Á.code,frame:=Á.frame,builtins:=Á.builtins}
   {s with heap:=pushCells (s.heap.push {cls:=.type "dict",data:=.dict #[]}) scope.names}):
  wpAny M A (newFunctionEnv scope globals cl [] qual Ww .none (J Á)) Q E s:= by
 unfold newFunctionEnv;refine bh (wpAny_alloc ?_);refine bh (wpAny_layCells _ (λname kind cells=>?_) scope.names cl _ _ ?_)
 ·by_cases hk:(kind==ik)=Wu
  ·simp only[hk,if_true]
  ·simp only[Ac] at hk;simp only[hk,bw,if_false]
 ·dsimp only[Option.isSome_some,if_true]
  refine O (br ..) (O qp ?_);exact bh (cy (cy h))
end
theorem mX{Á:Env}{names:List (Str×mz)}{y:Str}{k:mz}(h:names.lookup y=J k):
  (k≠.free->(names.map λ(n,k)=>if (k==dh&&Á.scope.kind==.function&&Á.kindOf n==J .cell) then(n,ik) else(n,k)).lookup y=J k)/\
  (k=.free->(names.map λ(n,k)=>if (k==dh&&Á.scope.kind==.function&&Á.kindOf n==J .cell) then(n,ik) else(n,k)).lookup y=J .cell\/
   (names.map λ(n,k)=>if (k==dh&&Á.scope.kind==.function&&Á.kindOf n==J .cell) then(n,ik) else(n,k)).lookup y=J .free):= by
 induction names with
 |nil=>simp at h
 |cons a r ih=>
  obtain⟨n,k'⟩:=a;rw[dk] at h;simp only[aw];cases hx:y==n with
  |true=>
   simp only[hx] at h;cases h
   by_cases hc:(k==dh&&Á.scope.kind==.function&&Á.kindOf n==J .cell)=Wu
   ·refine O (if_pos hc) (O dk ?_);simp only[hx];simp only[bt] at hc;exact⟨λq=>absurd (aq hc.1.1) q,λ_=>.inl trivial⟩
   ·refine O (if_neg hc) (O dk ?_);simp only[hx];exact⟨λ_=>trivial,λq=>.inr (by exact O q rfl)⟩
  |false=>
   simp only[hx] at h;have:=ih h
   by_cases hc:(k'==dh&&Á.scope.kind==.function&&Á.kindOf n==J .cell)=Wu
   ·refine O (if_pos hc) (O dk ?_);simp only[hx];exact this
   ·refine O (if_neg hc) (O dk ?_);simp only[hx];exact this
def i8{cx:Cx}{sc:jx}{x:Str}{i:Nat} :Prop:=∀(h:oE cx sc x i=Wu),sc.kind=.function/\cR (sc.names.map (·.1))=Wu/\((x,mz.local)∈sc.names\/(x,ik)∈sc.names)/\
  (∀y k,(y,k)∈sc.names->k=.local\/(k=.cell/\y=x)\/k=.globalImplicit\/(k=.free/\(cx.vars.lookup y).isSome=Wu/\cx.vars.lookup y≠J i/\(cx.kinds.lookup y=J .cell\/cx.kinds.lookup y=J .free)))/\cx.own.contains i=Wv
def iC:=@gZ _ ⟨(((⟨[],[],[],[],Wv⟩,ac),ac),ac)⟩ (bA (bA (bA @i8)))
theorem BU:@i8 iC.1.1.1 iC.1.1.2 iC.1.2 iC.2:= by
 intro h;unfold oE at h;simp only[bt,en,mr,bz] at h;obtain⟨⟨⟨⟨⟨⟨h1,_⟩,_⟩,h2⟩,h3⟩,h4⟩,h5⟩:=h;refine(nW (aq h1) h2 (h3.imp (λq=>bC (aq q)) (λq=>bC (aq q))) (λy k hm=>?_) h5);have:=h4 (y,k) hm;simp only at this;rcases this with((⟨q,_⟩|⟨q1,q2⟩)|q)|⟨⟨⟨q1,q2⟩,q3⟩,q4⟩
 ·exact .inl (aq q)
 ·exact .inr (.inl ⟨aq q1,aq q2⟩)
 ·exact .inr (.inr (.inl (aq q)))
 ·exact .inr (.inr (.inr (fH (aq q1) q2 (by simpa using q3) (q4.imp (λq=>aq q) (λq=>aq q)))))
theorem oH:@i8 cx sc x i:=iY (bA (bA (bA @i8))) (((cx,sc),x),i) BU
theorem fY (h:(gA cx names x i).vars.lookup y=J j):(y=x/\j=i)\/(y≠x/\(y,dh)∈names/\cx.vars.lookup y=J j):= by
 unfold gA at h
 dsimp only[dk] at h
 split at h
 ·rename_i e;cases h;exact .inl ⟨aq e,rfl⟩
 ·rename_i e;have hm:=bC h;obtain⟨⟨n,k⟩,hn,he⟩:=List.mem_filterMap.mp hm;simp only at he;split at he
  ·rename_i hk;cases hl:cx.vars.lookup n with
   |none=>rw[hl] at he;cases he
   |some j'=>
    rw[hl] at he;simp only[Be,jm,Prod.mk.injEq] at he;refine xa he λbc Gf=>?_;subst bc;subst Gf;exact .inr (ß (by simpa using e) (by exact aFZ (aq hk) hn) hl)
  ·cases he
section
variable{F:Fn}{B:Nat}
variable{A:dj}{cx:Cx}{asg:List Str}{Á:Env}{s:ak}{Na No:Ap}{pe:Ã}{E:Vs}
def oJ (sc:jx) (Á:Env) (C:fy):Env:=
 {scope:=relabel sc Á,locals:=C,globals:=Á.globals,cells:=cellsFrom (C+1) sc.names (Ń Á sc.names []),qual:=Á.qual,func:=Ww,code:=Á.code,frame:=Á.frame,builtins:=Á.builtins}
noncomputable def jO (sc:jx) (h:ju):ju:=pushCells (h.push {cls:=.type "dict",data:=.dict #[]}) sc.names
theorem uM (sc:jx) (s:ak):Pure s {s with heap:=jO sc s.heap}:=
 Pure.of_heap (t:=s.toks) (λb o e=>pushCells_keeps _ _ _ _ (cb _ e)) (aa (by simp[br]) (gB _ _)) (ai _)
theorem pA (sc:jx) (h:ju):h.objs.size<(jO sc h).objs.size:=af (by simp[br]) (gB sc.names _)
def σ{sc:jx}{x:Str}{i:Nat}:Prop:=∀(X:Ä cx asg Á s Na No pe) (Lv:oE cx sc x i=Wu),Ä (gA cx sc.names x i) [x] (oJ sc Á s.heap.objs.size) {s with heap:=jO sc s.heap} Na (λb=>No b\/(s.heap.objs.size<=b/\b<(jO sc s.heap).objs.size)) (ŝ pe i)
def i9:=@gZ _ ⟨(((((((((⟨[],[],[],[],Wv⟩,ac),ac),{}),ac),ac),ac),ac),ac),ac)⟩ (a9 (a9 (bA @σ)))
def gW:=i9.1.1.1.1.1.1.1.2
def ą:=i9.1.1.1.1.1.1.2
def gC:=i9.1.1.2
theorem JK:@σ i9.1.1.1.1.1.1.1.1.1 i9.1.1.1.1.1.1.1.1.2 gW ą i9.1.1.1.1.1.2 i9.1.1.1.1.2 i9.1.1.1.2 gC i9.1.2 i9.2:= by
 intro X Lv;refine nV (oH Lv) λhk Ij hx Gv hown=>?_;have P:=uM gC ą;have Hw:ą.heap.objs.size+1=(ą.heap.push {cls:=.type "dict",data:=.dict #[]}).objs.size:=by simp[br]
 have W:û ą i9.1.1.1.1.2 {ą with heap:=jO gC ą.heap} (λb=>i9.1.1.1.1.2 b\/(ą.heap.objs.size<=b/\b<(jO gC ą.heap).objs.size)):=
  ⟨P,λ_ q=>.inl q,λb q=>q.imp id (·.1),λb q=>q.elim (λq=>af (X.lowO b q) P.step.grow) (·.2)⟩
 have X':=X.wide W;have Fp:(jO gC ą.heap).Ns ą.heap.objs.size (λ_=>Ww):=(ju.Ns.new ą.heap (.type "dict")).keeps (pushCells_keeps gC.names _);have Ft:∀y,(y,ik)∈gC.names->∃c,(oJ gC gW ą.heap.objs.size).cells.lookup y=J c/\ą.heap.objs.size+1<=c/\(jO gC ą.heap).IsCell c Ww:= by
  intro y hy;have:=jN (h:=ą.heap.push {cls:=.type "dict",data:=.dict #[]}) (acc:=Ń gW gC.names []) Ij hy;rw[<-Hw] at this;exact this
 have Jc:∀y,(y,dh)∈gC.names->∃c v,(oJ gC gW ą.heap.objs.size).cells.lookup y=J c/\gW.cells.lookup y=J c/\ą.heap.IsCell c v/\(gW.kindOf y=J .cell\/gW.kindOf y=J .free):= by
  intro y hy;rcases Gv y _ hy with h|⟨h,_⟩|h|⟨_,h1,h2,h3⟩
  ·cases h
  ·cases h
  ·cases h
  refine xa (X.cl y h3) λq1 zt=>?_;refine mF zt λc v q2 q3=>?_;clear zt;refine(cM c v ?_ q2 q3 q1);show(cellsFrom _ _ _).lookup y=J c
  (rw[dU];refine O (O3 Ij hy) (O q2 ?_))
  ·rfl
  ·intro hc;have h1:=b7 Ij hc;have h2:=b7 Ij hy;rw[h1] at h2;cases h2
 have Te:∀y,(y,dh)∈gC.names->(oJ gC gW ą.heap.objs.size).kindOf y=J .cell\/(oJ gC gW ą.heap.objs.size).kindOf y=J .free:=λy hy=>
  (mX (Á:=gW) (b7 Ij hy)).2 rfl
 have Ia:∀y k,k≠dh->(y,k)∈gC.names->(oJ gC gW ą.heap.objs.size).kindOf y=J k:=λy k hk hy=>
  (mX (Á:=gW) (b7 Ij hy)).1 hk
 have fwd:∀y v,(y,dh)∈gC.names->Ë gW ą.heap y v->Ë (oJ gC gW ą.heap.objs.size) (jO gC ą.heap) y v:= by
  intro y v hy hb;refine dK (Jc y hy) λc u q1 q2 q3 q4=>?_;cases hb with
  |loc m h1=>rw[h1] at q4;rcases q4 with q4|q4<;>cases q4
  |cell c' h1 h2 h3=>
   rw[q2] at h2;cases h2;exact .cell c (Te y hy) q1 (h3.keeps P.keep)
 have back:∀y j v,(y,dh)∈gC.names->i9.1.1.1.1.1.1.1.1.1.vars.lookup y=J j->(lk i9.1.1.1.2 j).isSome=Wu->Ë (oJ gC gW ą.heap.objs.size) (jO gC ą.heap) y v->Ë gW ą.heap y v:= by
  intro y j v hy h1 h2 hb;refine xe (bg.mp h2) λp hp=>?_;refine Å (X.vars y j p h1 hp) λu hu _=>?_;have:=(fwd y u hy hu).same hb;subst this;exact hu
 have clrS:∀j,(lk (ŝ i9.1.1.1.2 i9.2) j).isSome=Wu->j≠i9.2/\(lk i9.1.1.1.2 j).isSome=Wu:= by
  intro j h;refine xe (bg.mp h) λp hp=>?_;have:=OZ hp;exact⟨this.1,by refine O this.2 ?_;rfl⟩
 exact{
  base:=X'.base
  kind:=hk
  glb:=X.glb
  blt:=X.blt
  gl:=λy hy=>Ia y _ (by decide) (bC hy)
  cl:=λy hy=>by
   rcases hy with hy|hy
   ·refine mK (Ft y (bC hy)) λc q1 q2 q3=>?_;exact(MQ (.inl (Ia y _ (by decide) (bC hy))) c Ww q1 q3)
   ·refine dK (Jc y (bC hy)) λc u q1 q2 q3 q4=>?_;exact(MQ (Te y (bC hy)) c u q1 (q3.keeps P.keep))
  ns:=⟨_,Fp⟩
  noL:=.inr ⟨ai _,pA gC ą.heap⟩
  cellsLow:=λy c h=>by
   by_cases hc:(y,ik)∈gC.names
   ·refine mK (Ft y hc) λc' q1 q2 q3=>?_;rw[q1] at h;cases h;exact q3.lt
   ·by_cases hf:(y,dh)∈gC.names
    ·refine dK (Jc y hf) λc' u q1 q2 q3 q4=>?_;rw[q1] at h;cases h;exact af q3.lt P.step.grow
    ·exfalso;change (cellsFrom _ _ _).lookup y=J c at h;rw[dU hc,o9 hf] at h;cases h
  apart:= by
   have one:∀y c,(oJ gC gW ą.heap.objs.size).cells.lookup y=J c->(y=i9.1.2/\ą.heap.objs.size<c)\/(c<ą.heap.objs.size/\gW.cells.lookup y=J c):= by
    intro y c h
    by_cases hc:(y,ik)∈gC.names
    ·refine mK (Ft y hc) λc' q1 q2 q3=>?_;rw[q1] at h;cases h;rcases Gv y _ hc with h|⟨_,h⟩|h|⟨h,_⟩
     ·cases h
     ·exact .inl ⟨h,q2⟩
     ·cases h
     ·cases h
    ·by_cases hf:(y,dh)∈gC.names
     ·refine dK (Jc y hf) λc' u q1 q2 q3 q4=>?_;rw[q1] at h;cases h;exact .inr ⟨q3.lt,q2⟩
     ·exfalso;change (cellsFrom _ _ _).lookup y=J c at h;rw[dU hc,o9 hf] at h;cases h
   intro y z c h1 h2;rcases one y c h1 with⟨rfl,q1⟩|⟨q1,q2⟩<;>rcases one z c h2 with⟨rfl,q3⟩|⟨q3,q4⟩
   ·rfl
   ·exact absurd q3 (bp.mpr (dp q1))
   ·exact absurd q1 (bp.mpr (dp q3))
   ·exact X.apart y z c q2 q4
  vars:=λy j p h1 h2=>by
   refine xa (OZ h2) λhj Jb=>?_;rcases fY h1 with⟨_,rfl⟩|⟨hy,hf,hv⟩
   ·exact absurd rfl hj
   ·refine Å (X.vars y j p hv Jb) λv hb hs=>?_;have Hg:=hs.wide W;refine(gQ v (fwd y v hf hb) ?_ (λh=>(nomatch h)));have h3:=Hg.1;show if i9.1.1.1.1.1.1.1.1.1.own.contains j then _ else _;split
    ·rename_i hc;rw[if_pos hc] at h3;refine cH h3 λa e q1 q2 q3=>?_;clear h3;refine(iH a e q1 ?_ q3);have h4:=hs.1;rw[if_pos hc] at h4;refine cH h4 λa' e' q1' q2' q3'=>?_;clear h4;rw[e] at e';cases e';exact fx (X.base.low a q1')
    ·rename_i hc;rw[if_neg hc] at h3;exact h3
  stores:=λy hy=>by
   obtain rfl:y=i9.1.2:=by simpa using hy
   rcases hx with hx|hx
   ·exact .loc (Ia i9.1.2 _ (by decide) hx)
   ·refine mK (Ft i9.1.2 hx) λc q1 q2 q3=>?_;exact .cell c Ww (Ia i9.1.2 _ (by decide) hx) q1 (.inr ⟨by exact ä (.x .q .r) [.x .kl .r] q2,q3.lt⟩) q3
  inj:=λy z j h1 h2=>by
   rcases fY h1 with⟨rfl,rfl⟩|⟨hy,hf,hv⟩<;>rcases fY h2 with⟨rfl,e⟩|⟨hz,hg,hu⟩
   ·rfl
   ·rcases Gv z _ hg with h|⟨h,_⟩|h|⟨_,_,h,_⟩
    ·cases h
    ·cases h
    ·cases h
    ·exact absurd hu h
   ·subst e;rcases Gv y _ hf with h|⟨h,_⟩|h|⟨_,_,h,_⟩
    ·cases h
    ·cases h
    ·cases h
    ·exact absurd hv h
   ·exact X.inj y z j hv hu
  alone:=λy z j k a h1 h2 h3 h4 h5 h6 h7 h8=>by
   refine xa (clrS j h3) λj1 j2=>?_;refine xa (clrS k h4) λk1 k2=>?_;rcases fY h1 with⟨_,e⟩|⟨hy,hf,hv⟩
   ·exact absurd e j1
   rcases fY h2 with⟨_,e⟩|⟨hz,hg,hu⟩
   ·exact absurd e k1
   exact X.alone y z j k a hv hu j2 k2 h5 h6 (back y j _ hf hv j2 h7) (back z k _ hg hu k2 h8)
  disj:=λb hb ha=>hb.elim (λq=>X.disj b q ha) λq=>by exact absurd (X.base.low b (.inl ha)) (bp.mpr q.1)
  turns:=λy j a h1 h2 h3 h4=>by
   refine xa (clrS j h3) λj1 j2=>?_;rcases fY h1 with⟨_,e⟩|⟨hy,hf,hv⟩
   ·exact absurd e j1
   exact .inl (X.turns y j a hv h2 j2 (back y j _ hf hv j2 h4))}
theorem O4:@σ cx asg Á s Na No pe sc x i:=iY (a9 (a9 (bA @σ))) (((((((((cx,asg),Á),s),Na),No),pe),sc),x),i) JK
theorem Pure.skip (P:Pure s s') (hk:∀b o,b<s.heap.objs.size->s'.heap.get? b=J o->aT.heap.get? b=J o) (hm:Ĺ s' aT) (hg:aT.gens=s'.gens) (ho:aT.os=s'.os) (hd:aT.drawn=s'.drawn):Pure s aT:=
 ⟨⟨λb o _ e=>hk b o (dc e) (Pure.keep P b o e),aa P.step.grow hm.1,λ_ q=>q.elim⟩,λi g e=>by exact O hg (P.gens i g e),λq=>by refine O hg ?_;exact P.bare q,ho.trans P.os,hd.trans P.drawn,aa (Õ.toks P) hm.2⟩
theorem O5 (h:sJ cx (.Set l k pos) p=Wu):False:= by
 cases p with
 |val p=>exact G1 (b:=Wv) h
 |_=>exact nf h
theorem G4 (h:sJ cx e p=Wu) (x:aj):foldedSetIterable e Á x=dm x:= by
 by_cases c:e.ctorIdx=7
 ·exact Cn (motive_1:=λe=>sJ cx e p=Wu->foldedSetIterable e Á x=dm x) e c (λl k p h=>(O5 h).elim) h
 ·clear h;cases e<;>first|rfl|exact absurd rfl c
set_option tactic.hygienic true in
theorem ED (h:eU c e By i pe (p::l)=J rest):∃ok,(if By then c (st pe i p) else J (.bool Wu))=J (.bool ok)/\
  (ok=Wv->eU c e By i pe l=J rest)/\(ok=Wu->∃v r,e (st pe i p)=J v/\eU c e By i pe l=J r/\rest=v::r):=Å (uE h) λb h1 h=>by
 cases b with
 |false=>exact gQ Wv h1 (λ_=>h) (λq=>nomatch q)
 |true=>exact Å (ob h) λv h2 h=>Å (ob h) λr h3 h=>gQ Wu h1 (λq=>nomatch q) (λ_=>cA v r h2 h3 (sm h).symm)
theorem EE (hT:Ô F B c) (R:Ê A (nd c+B)) (h4:qQ cx ifs By c=Wu) (Lv:(if By then aB F c pe else J (.bool Wu))=J (.bool ok))
  (X:Ä cx asg Fo s Na No pe) (hQ:∀dO,Pure s dO->Q ok dO):
  wpAny (model Pg W0) A (forIn ifs Wu λc r=>if r=Wu then do let ok <-isTrue c Fo (eval c Fo);dm (Bf ok) else dm (Bf r)) Q E s:= by
 rcases D7 h4 with⟨rfl,rfl⟩|⟨t,rfl,rfl,h5⟩
 ·refine O qp ?_;cases Lv;exact cy (hQ s (Õ.refl _ _))
 ·refine O (Bd ..) (bh (bh (hT R X h5 Lv λdO Ga=>cy ?_)))
  dsimp only
  exact O qp (cy (hQ dO Ga))
theorem Ä.bindRV{Go:Cx}(X:Ä Go asg Á s Na No pe){x:Str}{i:Nat}{v:aj}{p:PV}(ho:Go.own.contains i=Wv) (ht:Go.tk=[]) (r:RV s.heap (λb=>Na b\/No b) v p):õ Go Á s (λb=>Na b\/No b) i v p:=
 ⟨by exact O ho r,λh=>by rw[ht] at h;cases h⟩
theorem qW{α:Type}{l:List α}{a:α}(h:l[k]?=J a):l.drop k=a::l.drop (k+1):= by
 obtain⟨h1,h2⟩:=dw.mp h;exact aFZ h2 (List.drop_eq_getElem_cons h1)
structure ı (F:Fn) (B:Nat) (A:dj) (Go:Cx) (Fo:Env) (x:Str) (i:Nat) (Gk c:PE) (By:Bool) (el:az) (ifs:List az) (Na:Ap) (s:ak) (I acc:fy) (n:Nat) (fp:List fy) (P:Nat->aj->Prop) (St:Nat->ju->Prop):Prop where
 hE:È F B Gk
 hT:Ô F B c
 R2:Ê A (nd Gk+B)
 R3:Ê A (nd c+B)
 h3:aG Go Wv el Gk=Wu
 h4:qQ Go ifs By c=Wu
 hlen:n<=100000
 W:Ex Pg W0 A I fp [I] n P St
 hoI:∀i h,St i h->∃o,h.get? I=J o/\(∀v,o.data≠.cell v)/\∃n,o.cls=.type n/\xN n=Wv
 hfp:∀b∈fp,b<Fo.locals/\b≠acc
 hIa:I≠acc
 hIC:I<Fo.locals
 haC:acc<Fo.locals
 hsI:s.heap.objs.size<=I
 hsa:s.heap.objs.size<=acc
 hxi:Go.vars.lookup x=J i
 hown:Go.own.contains i=Wv
 htk:Go.tk=[]
 hNI:Na I
 hNa:Na acc
 hcells:∀b0,(b0=Fo.locals\/Fo.cells.lookup x=J b0)->Fo.locals<=b0
def Ĥ (Na No:Ap):Ap:=λb=>Na b\/No b
structure ç (Go:Cx) (Fo:Env) (x:Str) (i:Nat) (pe:Ã) (Na No:Ap) (s:ak) (Hh:Nat) (acc:fy) (À:List PV) (P:Nat->aj->Prop) (s':ak) (vs:List aj) (ps:List PV) (pe':Ã):Prop where
 pure:Pure s s'
 g:Hh<=s'.heap.objs.size
 acc:s'.heap.PlainList acc vs.toArray
 vs:Í s'.heap (Ĥ Na No) vs ps
 X:Ä Go [x] Fo s' Na No pe'
 hpe:∀q,st pe' i q=st pe i q
 P:∀j v,j<À.length->P j v->∃p,À[j]?=J p/\RV s'.heap (Ĥ Na No) v p
section
variable{Go:Cx}{Fo:Env}{x:Str}{i:Nat}{Gk c:PE}{By:Bool}{el:az}{ifs:List az}{I acc:fy}{Hh:Nat}{À:List PV}{fp:List fy}{P:Nat->aj->Prop}{St:Nat->ju->Prop}{s' aT:ak}{vs:List aj}{ps:List PV}{pe' Do:Ã}
theorem ç.move (S:ç Go Fo x i pe Na No s Hh acc À P s' vs ps pe') (Q:Pure s aT) (T:Step s'.heap (Ĥ Na No) aT.heap (Ĥ Na No)) (a:aT.heap.PlainList acc vs.toArray) (X:Ä Go [x] Fo aT Na No Do) (hpe:∀q,st Do i q=st pe i q):
  ç Go Fo x i pe Na No s Hh acc À P aT vs ps Do:=
 ⟨Q,aa S.g T.grow,a,S.vs.step T,X,hpe,λj v hj hv=>let ⟨p,q1,q2⟩:=S.P j v hj hv;⟨p,q1,q2.step T⟩⟩
theorem ç.pureS (S:ç Go Fo x i pe Na No s Hh acc À P s' vs ps pe') (Q:Pure s' aT):ç Go Fo x i pe Na No s Hh acc À P aT vs ps pe':=
 S.move (S.pure.trans Q) (Q.stepAt _) (S.acc.at λo e=>Pure.keep Q acc o e) (S.X.pure Q) S.hpe
theorem ç.poke (K:ı F B A Go Fo x i Gk c By el ifs Na s I acc À.length fp P St) (S:ç Go Fo x i pe Na No s Hh acc À P s' vs ps pe') (st:St k s'.heap) (hk:∀b o,b∉[I]->s'.heap.get? b=J o->h'.get? b=J o) (hm:Ĺ s' {s' with heap:=h',toks:=tk}):
  ç Go Fo x i pe Na No s Hh acc À P {s' with heap:=h',toks:=tk} vs ps pe':= by
 refine mK (K.hoI _ _ st) λo ho La _=>?_;refine S.move (S.pure.skip (λb o hb e=>hk b o (λq=>?_) e) hm rfl rfl rfl) ⟨λb o hn e=>hk b o (λq=>hn (.inl ((bx.mp q)▸K.hNI))) e,hm.1,λ_ q=>.inl q⟩ (S.acc.at λo e=>hk acc o (λq=>K.hIa (bx.mp q).symm) e) (S.X.poke K.hNI ho La (λb o hb e=>hk b o (λq=>hb (bx.mp q)) e) hm.1 hm.2 id) S.hpe;rw[bx.mp q] at hb;exact bp.mpr K.hsI hb
theorem EF (K:ı F B A Go Fo x i Gk c By el ifs Na s I acc À.length fp P St) (S:ç Go Fo x i pe Na No s Hh acc À P s' vs ps pe'){k:Nat}(He:St k s'.heap){v:aj}{p:PV}{px:Pos}{Q:Unit->ak->Prop}(hv:RV s'.heap (Ĥ Na No) v p)
  (hQ:∀Â,ç Go Fo x i pe Na No s Hh acc À P Â vs ps (st pe i p)->St k Â.heap->Q () Â):wpAny (model Pg W0) A (assign (.Name x px) Fo v) Q E s':= by
 have no:∀{C:Prop},Go.own.contains i=Wu->C:=λh=>nf (K.hown.symm.trans h);refine wpAny_assign_Name (dC S.X (qf x) K.hxi (S.X.bindRV (x:=x) K.hown K.htk hv) (λa e h=>no h) (λa e h=>no h) λÂ b0 _ Ii Hd Jd he Fi=>?_);rw[S.hpe] at Fi;have hk:∀b o,b<Fo.locals->s'.heap.get? b=J o->Â.heap.get? b=J o:=λb o hb e=>Hd.extBut b o (λq=>bp.mpr (K.hcells b0 Ii) (q▸hb)) e;exact hQ Â (S.move (S.pure.skip (λb o hb e=>hk b o (af hb (aa K.hsI (dp K.hIC))) e) ⟨he.step.grow,Õ.toks he⟩ Jd he.os he.drawn) (he.step.or Na) (S.acc.at λo e=>hk acc o K.haC e) Fi λq=>O1) (K.W.frame _ _ _ He λb hb o e=>hk b o (K.hfp b hb).1 e)
theorem O6 (h:n<=100000):n<sizeLine:=by unfold sizeLine;exact Ć (.y .q (.P .n2 24)) [.x .q (.N 100000)] h
theorem BV (K:ı F B A Go Fo x i Gk c By el ifs Na s I acc À.length fp P St) (S:ç Go Fo x i pe Na No s Hh acc À P s' vs ps pe') (He:St k s'.heap) (Of:vs.length<=100000) (hy:RV s'.heap (Ĥ Na No) y r)
  (hQ:∀Â,ç Go Fo x i pe Na No s Hh acc À P Â (vs++[y]) (ps++[r]) pe'->St k Â.heap->Q .none Â):wpAny (model Pg W0) A (call (.builtin "list.append") [.ref acc,y]) Q E s':= by
 refine wpAny_list_append_plain S.acc (λh' Hi Ib=>?_) (dp (O6 Of));refine xe S.acc λn ha=>?_;have hk:∀b o,b≠acc->s'.heap.get? b=J o->h'.get? b=J o:=λb o hb e=>Ib.extBut b o hb e;have T:Step s'.heap (Ĥ Na No) h' (Ĥ Na No):=⟨λb o hn e=>hk b o (λq=>hn (.inl (q▸K.hNa))) e,be Ib.1.symm,λ_ q=>.inl q⟩;rw[zk] at Hi;refine hQ _ ⟨S.pure.skip (λb o hb e=>hk b o (λq=>?_) e) ⟨be Ib.1.symm,ai _⟩ rfl rfl rfl,aa S.g T.grow,Hi,Í.append (S.vs.step T) (Í.one (hy.step T)),S.X.poke K.hNa ha (λv q=>nomatch q) hk (be Ib.1.symm) (ai _) id,S.hpe,λj v hj hv=>let ⟨p,q1,q2⟩:=S.P j v hj hv;⟨p,q1,q2.step T⟩⟩ (K.W.frame _ _ _ He λb hb o e=>hk b o (K.hfp b hb).2 e);rw[q] at hb;exact bp.mpr K.hsa hb
def π{s₄:ak}{Kc:Ã}{rs:List PV}{RR:ym->ak->Prop}{px pos:Pos}{it:az}{sc:jx} :Prop:=∀(K:ı F B A Go Fo x i Gk c By el ifs Na s I acc À.length fp P St) (S:ç Go Fo x i pe Na No s s₄.heap.objs.size acc À P s₄ [] [] Kc) (Hq:St 0 s₄.heap) (d2:eU (aB F c) (aB F Gk) By i pe À=J rs) (hR:∀s' vs,Pure s s'->s₄.heap.objs.size<=s'.heap.objs.size->s'.heap.PlainList acc vs.toArray->Í s'.heap (Ĥ Na No) vs rs->(∃m,s'.heap.Ns Fo.locals m)->RR (.ok .next) s'),codeAny (model Pg W0) A (.compLoop (.ListComp el [⟨.Name x px,it,ifs,0⟩] sc pos) 0 (.ref I) (.ref acc) Fo) RR s₄
def cQ:=@gZ _ ⟨((((((((((((((((((((((((((((ac,{}),{}),ac),ac),ac),⟨[],[],[],[],Wv⟩),ac),ac),ac),.var 0),.var 0),ac),ac),ac),ac),ac),ac),ac),ac),ac),{}),ac),ac),ac),ac),ac),ac),ac)⟩ (a9 (a9 (a9 (a9 (a9 (a9 (a9 (bA @π))))))))
def F_L:=cQ.1.1.1.1.1.1.1.1.1.1.1.1.1.1.1.1.1.1.1.1.1.1.1.1.1.1.1.1.1
def s_L:=cQ.1.1.1.1.1.1.1.1.1.1.1.1.1.1.1.1.1.1.1.1.1.1.1.1.1.1.2
def aA3:=cQ.1.1.1.1.1.1.1.1.1.1.1.1.1.1.1.1.1.1.1.1.1.1.1.2
def i_L:=cQ.1.1.1.1.1.1.1.1.1.1.1.1.1.1.1.1.1.1.1.2
def jA:=cQ.1.1.1.1.1.1.1.1.1.1.1.2
theorem EG:@π F_L cQ.1.1.1.1.1.1.1.1.1.1.1.1.1.1.1.1.1.1.1.1.1.1.1.1.1.1.1.1.2 cQ.1.1.1.1.1.1.1.1.1.1.1.1.1.1.1.1.1.1.1.1.1.1.1.1.1.1.1.2 s_L cQ.1.1.1.1.1.1.1.1.1.1.1.1.1.1.1.1.1.1.1.1.1.1.1.1.1.2 cQ.1.1.1.1.1.1.1.1.1.1.1.1.1.1.1.1.1.1.1.1.1.1.1.1.2 aA3 cQ.1.1.1.1.1.1.1.1.1.1.1.1.1.1.1.1.1.1.1.1.1.1.2 cQ.1.1.1.1.1.1.1.1.1.1.1.1.1.1.1.1.1.1.1.1.1.2 cQ.1.1.1.1.1.1.1.1.1.1.1.1.1.1.1.1.1.1.1.1.2 i_L cQ.1.1.1.1.1.1.1.1.1.1.1.1.1.1.1.1.1.1.2 cQ.1.1.1.1.1.1.1.1.1.1.1.1.1.1.1.1.1.2 cQ.1.1.1.1.1.1.1.1.1.1.1.1.1.1.1.1.2 cQ.1.1.1.1.1.1.1.1.1.1.1.1.1.1.1.2 cQ.1.1.1.1.1.1.1.1.1.1.1.1.1.1.2 cQ.1.1.1.1.1.1.1.1.1.1.1.1.1.2 cQ.1.1.1.1.1.1.1.1.1.1.1.1.2 jA cQ.1.1.1.1.1.1.1.1.1.1.2 cQ.1.1.1.1.1.1.1.1.1.2 cQ.1.1.1.1.1.1.1.1.2 cQ.1.1.1.1.1.1.1.2 cQ.1.1.1.1.1.1.2 cQ.1.1.1.1.1.2 cQ.1.1.1.1.2 cQ.1.1.1.2 cQ.1.1.2 cQ.1.2 cQ.2:= by
 intro K S Hq d2 hR;refine codeAny_compLoop_tests (λn s'=>∃k vs ps rest pe',k<=jA.length/\n=jA.length+1-k/\ç cQ.1.1.1.1.1.1.1.1.1.1.1.1.1.1.1.1.1.1.1.1.1.1.2 cQ.1.1.1.1.1.1.1.1.1.1.1.1.1.1.1.1.1.1.1.1.1.2 cQ.1.1.1.1.1.1.1.1.1.1.1.1.1.1.1.1.1.1.1.1.2 i_L aA3 cQ.1.1.1.1.1.1.1.1.1.1.1.1.1.1.1.1.1.1.1.1.1.1.1.1.1.2 cQ.1.1.1.1.1.1.1.1.1.1.1.1.1.1.1.1.1.1.1.1.1.1.1.1.2 s_L cQ.1.1.1.1.1.1.1.2.heap.objs.size cQ.1.1.1.1.1.1.1.1.1.1.1.1.2 jA cQ.1.1.1.1.1.1.1.1.1.2 s' vs ps pe'/\cQ.1.1.1.1.1.1.1.1.2 k s'.heap/\eU (aB F_L cQ.1.1.1.1.1.1.1.1.1.1.1.1.1.1.1.1.1.2) (aB F_L cQ.1.1.1.1.1.1.1.1.1.1.1.1.1.1.1.1.1.1.2) cQ.1.1.1.1.1.1.1.1.1.1.1.1.1.1.1.1.2 i_L aA3 (jA.drop k)=J rest/\ps++rest=cQ.1.1.1.1.1.2/\vs.length<=k) ?_ (jA.length+1)
  (fP 0 ([]) ([]) (cM cQ.1.1.1.1.1.2 cQ.1.1.1.1.1.1.2 (jd _) rfl S (fH Hq d2 rfl (ai _))))
 clear S Hq d2
 rintro n s' ⟨k,vs,ps,rest,pe',hk,rfl,S,Hq,Io,Ht,Of⟩
 rcases ov k jA.length with Fv|Rc
 ·refine bD (K.W.item k s' _ _ Fv Hq λv Fj tk hv Mn Ke hm=>?_);have Hj:=S.poke K Hq Ke hm;refine Å (Hj.P k v Fv hv) λp hp Kf=>?_;rw[qW hp] at Io;refine mK (ED Io) λok Lv Jt Ue=>?_;refine EF K Hj Mn Kf λÂ Jn Kg=>?_;refine EE K.hT K.R3 K.h4 Lv Jn.X λdO Ga=>?_;have Mo:=Jn.pureS Ga;have Je:cQ.1.1.1.1.1.1.1.1.2 (k+1) dO.heap:=K.W.frame _ _ _ Kg λb hb o e=>Pure.keep Ga b o e;clear Hj Jn Io Lv;cases ok with
  |false=>exact(Ö (jA.length+1-(k+1)) (oz (ia Fv) (dg k)) (fP (k+1) vs ps (cM rest _ Fv rfl Mo (fH Je (Jt rfl) Ht (da Of)))))
  |true=>
   refine fE (Ue rfl) λr Λ hr hc bc=>?_;subst bc;refine K.hE K.R2 Mo.X K.h3 hr λy Fs Gu Re=>?_;exact BV K (Mo.pureS Gu) (K.W.frame _ _ _ Je λb hb o e=>Pure.keep Gu b o e) (aa Of (aa hk K.hlen)) (Re.f rfl) λGc Rg Kh=>
    (Ö (jA.length+1-(k+1)) (oz (ia Fv) (dg k)) (fP (k+1) (vs++[y]) (ps++[r]) (cM Λ _ Fv rfl Rg (fH Kh hc (by refine aFZ Ht (O (bk ..) ?_);rfl) (by exact O am (im Of))))))
 ·cases eo hk Rc;refine bD (K.W.done s' _ _ Hq λFj tk Ke hm=>?_);have Hj:=S.poke K Hq Ke hm;rw[ow] at Io;cases sm Io;rw[bj] at Ht;cases Ht;exact hR _ vs Hj.pure Hj.g Hj.acc Hj.vs Hj.X.ns
theorem JL:@π F B A s Na No pe Go Fo x i Gk c By el ifs I acc À fp P St s₄ Kc rs RR px pos it sc:=iY (a9 (a9 (a9 (a9 (a9 (a9 (a9 (bA @π)))))))) (((((((((((((((((((((((((((((F,B),A),s),Na),No),pe),Go),Fo),x),i),Gk),c),By),el),ifs),I),acc),À),fp),P),St),s₄),Kc),rs),RR),px),pos),it),sc) EG
end
def Na3 (Na:Ap) (a I:fy):Ap:=λb=>Na b\/b=a\/b=I
def No3 (No:Ap) (sc:jx) (h:ju):Ap:=λb=>No b\/(h.objs.size<=b/\b<(jO sc h).objs.size)
theorem JM{sc:jx}{x:Str}{h:ju}{b0:fy}(Ij:cR (sc.names.map (·.1))=Wu) (hx:(x,mz.local)∈sc.names\/(x,ik)∈sc.names) (hb:(oJ sc Á h.objs.size).cells.lookup x=J b0):h.objs.size<=b0:= by
 by_cases hc:(x,ik)∈sc.names
 ·refine mK (jN (h:=h.push {cls:=.type "dict",data:=.dict #[]}) (acc:=Ń Á sc.names []) Ij hc) λc' q1 q2 _=>?_;rw[br] at q1 q2;cases sm (q1.symm.trans hb);exact iw q2
 ·have hl:(x,mz.local)∈sc.names:=hx.resolve_right hc;exfalso;have e:(oJ sc Á h.objs.size).cells.lookup x=Ww:=(dU hc).trans (o9 λhf=>by
   have q1:=b7 Ij hl;have q2:=b7 Ij hf;rw[q1] at q2;cases q2)
  exact nn (e.symm.trans hb)
theorem EH{sc:jx}{x:Str}{i:Nat}{Gk c:PE}{By:Bool}{el it:az}{ifs:List az}{px pos:Pos}{À rs:List PV}{use:Option (aj->Sem Unit)}{Q:Vs}{Â dO:ak}{I:fy}{fp:List fy}{P:Nat->aj->Prop}{St:Nat->ju->Prop}
  (hE:È F B Gk) (hT:Ô F B c) (hh:A.handled=Ww) (R2:Ê A (nd Gk+B)) (R3:Ê A (nd c+B)) (X:Ä cx asg Á s Na No pe) (h2:oE cx sc x i=Wu) (h3:aG (gA cx sc.names x i) Wv el Gk=Wu)
  (h4:qQ (gA cx sc.names x i) ifs By c=Wu) (d2:eU (aB F c) (aB F Gk) By i pe À=J rs) (iF:Pure s Â) (Lh:s.heap.objs.size<=I) (Ki:I<Â.heap.objs.size) (hlen:À.length<=100000)
  (W:∀A:dj,A.handled=Ww->Ex Pg W0 A I fp [I] À.length P St) (Hq:St 0 Â.heap) (hcI:∀i h,St i h->∃o,h.get? I=J o/\(∀v,o.data≠.cell v)/\∃n,o.cls=.type n/\xN n=Wv)
  (hfp:∀b∈fp,b=I\/¬(Na b\/No b)/\b<Â.heap.objs.size) (hP:∀j v,j<À.length->P j v->∃p,À[j]?=J p/\RV Â.heap (λb=>(Na b\/No b)\/b=I) v p)
  (P23:Pure Â dO) (L3:Â.heap.objs.size<dO.heap.objs.size) (Rh:dO.heap.PlainList Â.heap.objs.size ([]:List aj).toArray)
  (hK:∀acc C s' vs,Pure s s'->s.heap.objs.size<=acc->s.heap.objs.size<=C->acc≠C->C<s'.heap.objs.size->acc<s'.heap.objs.size->s'.heap.PlainList acc vs.toArray->Í s'.heap (λb=>(Na b\/No b)\/b=acc\/b=C) vs rs->(∃m,s'.heap.Ns C m)->
   compPost (model Pg W0) A E use Q (.ref acc) C (.ok .next) s'):
  codeAny (model Pg W0) A (.compStart (.ListComp el [⟨.Name x px,it,ifs,0⟩] sc pos) 0 (.ref I) (.ref Â.heap.objs.size) (oJ sc Á dO.heap.objs.size)) (compPost (model Pg W0) A E use Q (.ref Â.heap.objs.size) dO.heap.objs.size) {dO with heap:=jO sc dO.heap}:= by
 refine nV (oH h2) λhk Ij hx Gv hown=>?_;have Ga:=iF.trans P23;have Jo:=iF.step.grow;have Fw:Ä cx asg Á dO (Na3 Na Â.heap.objs.size I) No pe:= by
  refine X.wideA Ga (λb q=>.inl q) (λb q=>?_) (λb q=>?_)
  ·rcases q with q|q|q
   ·exact .inl q
   ·exact .inr (q▸Jo)
   ·exact .inr (q▸Lh)
  ·rcases q with q|q|q
   ·exact af (X.base.low b (.inl q)) Ga.step.grow
   ·exact O q L3
   ·exact O q (eb Ki L3)
 have Ho:=uM sc dO;have P24:=P23.trans Ho;have Og:=(W A hh).frame _ _ _ Hq λb _ o e=>Pure.keep P24 b o e;have K:ı F B A (gA cx sc.names x i) (oJ sc Á dO.heap.objs.size) x i Gk c By el ifs (Na3 Na Â.heap.objs.size I) s I Â.heap.objs.size À.length fp P St:=
  {hE,hT,R2,R3,h3,h4,hlen,W:=W A hh,hoI:=hcI,hIa:=fx Ki,hIC:=eb Ki L3,haC:=L3,hsI:=Lh,hsa:=Jo,hxi:=by simp[gA],hown,htk:=rfl,hNI:=.inr (.inr rfl),hNa:=.inr (.inl rfl)
   hfp:=λb hb=>(hfp b hb).elim (λe=>by exact O e ⟨eb Ki L3,fx Ki⟩) λq=>⟨eb q.2 L3,fx q.2⟩
   hcells:=λb0 q=>q.elim (λe=>be e.symm) (JM Ij hx)}
 have S:ç (gA cx sc.names x i) (oJ sc Á dO.heap.objs.size) x i pe (Na3 Na Â.heap.objs.size I) (No3 No sc dO.heap) s (jO sc dO.heap).objs.size Â.heap.objs.size À P {dO with heap:=jO sc dO.heap} [] [] (ŝ pe i):=
  {pure:=Ga.trans Ho,g:=ai _,acc:=Rh.at λo e=>Pure.keep Ho _ o e,vs:=.nil,X:=O4 Fw h2,hpe:=λq=>O0
   P:=λj v hj hv=>by
    refine Å (hP j v hj hv) λp q1 q2=>?_;refine(Ö p q1 (RV.step (h:=Â.heap) ⟨λb o _ e=>Pure.keep P24 _ _ e,P24.step.grow,λb hb=>?_⟩ q2));rcases hb with(hb|hb|hb)|(hb|hb)
    ·exact .inl (.inl (.inl hb))
    ·exact .inr (be hb.symm)
    ·exact .inl (.inr hb)
    ·exact .inl (.inl (.inr hb))
    ·exact .inr (dp (af L3 hb.1))}
 have key:=JL (it:=it) (px:=px) (pos:=pos) (sc:=sc) (RR:=compPost (model Pg W0) A E use Q (.ref Â.heap.objs.size) dO.heap.objs.size) K S Og d2 λs' vs P' hg hl hr Fp=>by
  refine hK Â.heap.objs.size dO.heap.objs.size s' vs P' Jo (aa Jo (dp L3)) (fx L3) (af (pA sc _) hg) (eb L3 (af (pA sc _) hg)) hl (Í.weak' (λb hb=>?_) hr) Fp;rcases hb with(hb|hb)|hb|hb
  ·exact .inl (.inl hb)
  ·exact .inr (.inl hb)
  ·exact .inl (.inr (.inl hb))
  ·exact .inr (.inr ⟨be hb.symm,hb▸pA sc _⟩)
 exact codeAny_compStart_list key ((W A hh).self 0 _ _ _ Og key)
theorem xR{sc:jx}{x:Str}{i:Nat}{Gk c:PE}{Fx:PI}{By:Bool}{el it:az}{ifs:List az}{px pos cpos:Pos}{À rs:List PV}{use:Option (aj->Sem Unit)}{Q:Vs}
  (hE:È F B Gk) (hT:Ô F B c) (hI:í F B Fx)
  (R:Ê A (nd (.comp Gk i Fx By c)+B)) (X:Ä cx asg Á s Na No pe) (h1:sJ cx it Fx=Wu) (h2:oE cx sc x i=Wu) (h3:aG (gA cx sc.names x i) Wv el Gk=Wu)
  (h4:qQ (gA cx sc.names x i) ifs By c=Wu) (d1:jM F Fx pe=J À) (d2:eU (aB F c) (aB F Gk) By i pe À=J rs)
  (hK:∀acc C s' vs,Pure s s'->s.heap.objs.size<=acc->s.heap.objs.size<=C->acc≠C->C<s'.heap.objs.size->acc<s'.heap.objs.size->s'.heap.PlainList acc vs.toArray->Í s'.heap (λb=>(Na b\/No b)\/b=acc\/b=C) vs rs->(∃m,s'.heap.Ns C m)->
   compPost (model Pg W0) A E use Q (.ref acc) C (.ok .next) s'):
  wpAny (model Pg W0) A (comprehension (.ListComp el [⟨.Name x px,it,ifs,0⟩] sc pos) sc Á cpos (newList []) Wv (eval it Á) use) Q E s:= by
 have RR:Ê A (max (Ν Fx) (max (nd Gk) (nd c))+B):=R.le (ax (je _ 3) _);refine nV (oH h2) λhk Ij hx Gv hown=>?_;refine wpAny_comprehension_free (cl:=Ń Á sc.names []) rfl (G4 h1) (uL λn hn=>?_) hk (λy hy hl=>b7 Ij (by exact aFZ hl hy)) ?_
 ·rcases Gv n _ hn with h|⟨h,_⟩|h|⟨_,_,_,h⟩
  ·cases h
  ·cases h
  ·cases h
  ·refine xa (X.cl n h) λ_ zt=>?_;refine mF zt λc _ h _=>?_;exact⟨c,h⟩
 refine hI RR.m1 X h1 d1 λI Â iF Lh Ki hlen č=>wpAny_newList ?_;refine b9 č λfp P St W Hq hcI zt=>?_;refine xa zt λhfp hP=>?_;clear zt;clear č;refine wU ?_;have L3:Â.heap.objs.size<({Â with heap:=Â.heap.push {cls:=.type "list",data:=.seq ([]:List aj).toArray}}:ak).heap.objs.size:=o8;have P23:Pure Â {Â with heap:=Â.heap.push {cls:=.type "list",data:=.seq ([]:List aj).toArray}}:=Pure.push Â _ (ai _);have Rh:({Â with heap:=Â.heap.push {cls:=.type "list",data:=.seq ([]:List aj).toArray}}:ak).heap.PlainList Â.heap.objs.size ([]:List aj).toArray:=⟨0,cr _ rfl⟩;show codeAny _ _ (.compStart _ _ _ _ (oJ sc Á ({Â with heap:=Â.heap.push {cls:=.type "list",data:=.seq ([]:List aj).toArray}}:ak).heap.objs.size)) (compPost _ _ _ _ _ _ ({Â with heap:=Â.heap.push {cls:=.type "list",data:=.seq ([]:List aj).toArray}}:ak).heap.objs.size) {({Â with heap:=Â.heap.push {cls:=.type "list",data:=.seq ([]:List aj).toArray}}:ak) with heap:=jO sc ({Â with heap:=Â.heap.push {cls:=.type "list",data:=.seq ([]:List aj).toArray}}:ak).heap};generalize ({Â with heap:=Â.heap.push {cls:=.type "list",data:=.seq ([]:List aj).toArray}}:ak)=dO at*;exact EH hE hT R.hh RR.m2 RR.m3 X h2 h3 h4 d2 iF Lh Ki hlen W Hq hcI hfp hP P23 L3 Rh hK
theorem JN (hE:È F B Gk) (hT:Ô F B c) (hI:í F B Fx):È F B (.comp Gk i Fx By c):= by
 intro A cx asg Á s Na No pe b e r Q E R X hc hd hQ;refine fW (BK hc) λel x px it zt=>?_;refine b9 zt λifs sc pos bc h1 h2 zt=>?_;refine xa zt λh3 h4=>?_;clear zt;subst bc;refine fE (BM hd) λÀ rs d1 d2 bc=>?_;subst bc;refine O (PySem.eval_ListComp ..) (xR (use:=Ww) hE hT hI R X h1 h2 h3 h4 d1 d2 λacc C s' vs P ha hC Fy Oh Li hl hr Fp=>?_);refine xe Fp λm hm=>?_;clear Fp;refine(Ö m hm (λh' Hd=>?_));have P':Pure s {s' with heap:=h'}:=P.skip (λb o hb e=>Hd.extBut b o (λq=>by rw[q] at hb;exact absurd hb (bp.mpr hC)) e) ⟨be Hd.1.symm,ai _⟩ rfl rfl rfl;have Hi:h'.PlainList acc vs.toArray:=hl.at λo e=>Hd.extBut _ _ Fy e;have Lx:Í h' (λb=>(Na b\/No b)\/b=acc\/b=C) vs rs:=hr.step ⟨λb o hn e=>Hd.extBut b o (λq=>hn (.inr (.inr q))) e,be Hd.1.symm,λ_ q=>.inl q⟩;have Jf:¬(Na acc\/No acc):=λq=>absurd (X.low acc q) (bp.mpr ha);have Kf:RV h' (λb=>Na b\/No b) (.ref acc) (.lst rs):=.lst Jf Hi (Í.weak (λb q=>.inl q) Lx);refine hQ _ _ P' {t:=Kf.rt,a:=λ_=>Kf.weak λ_ q=>.inl q,f:=λ_=>Kf,fresh:=λ_ l e=>?_,tok:=λq=>(nomatch q)};cases e;exact(cM acc vs rfl ha Hi (Í.weak (λb q=>q.elim .inl λq=>.inr (.inl q)) Lx))
theorem aX (h:mW p=Wu) (e:È F B p):È F B p/\Ô F B p:=⟨e,EB h e⟩
theorem bW (hB:3<=B) (GK:ă) (FK:î F B) (p:PE):È F B p/\Ô F B p:=
 PE.rec (motive_1:=λp=>È F B p/\Ô F B p) (motive_2:=λps=>đ F B ps) (motive_3:=λp=>í F B p)
  (λc=>aX rfl (OB c)) (λc=>aX rfl (JC GK c)) (λi=>aX rfl (OC i)) (λ_ _ _ x y=>aX rfl (OD x.1 y.1)) (λ_ x=>aX rfl (OF x.1))
  (λ_ x=>⟨OG x.1,OT x.2⟩) (λ_ _ x y=>⟨OH x.1 y.1,true_and x.2 y.2⟩) (λ_ _ x y=>⟨VE x.1 y.1,VJ x.2 y.2⟩) (λ_ _ _ x y z=>⟨OI x.2 y.1 z.1,OU x.2 y.2 z.2⟩)
  (λ_ _ _ x y=>⟨OE hB GK x.1 y.1,OV hB GK x.1 y.1⟩) (λ_ _ x y=>aX rfl (OK x.1 y.1)) (λ_ _ _ _ x y z w=>aX rfl (OL x.1 y.1 z.1 w.1)) (λ_ x=>aX rfl (JE x)) (λ_ x=>aX rfl (OM x)) (λ_ x=>aX rfl (JJ GK x))
  (λ_ _ _ _ _ x y z=>aX rfl (JN x.1 z.2 y)) (λ_ _ x=>aX rfl (JG GK FK x)) (λ_ _ x=>aX rfl (EA GK FK x)) (λ_ _ x=>aX rfl (VG GK hB x)) (λ_ _ _ x y=>aX rfl (VI GK hB x.1 y)) (λ_ _ _ _ _ x y=>aX rfl (JI GK x.1 y.2))
  trivial (λ_ _ x y=>⟨x,y⟩)
  (λ_ x=>BS x.1) (λ_ x=>xO GK x.1) (λ_ _ x y=>xP GK x.1 y.1) (λ_ _ x y=>xQ GK x.1 y.1) p
theorem BW (hB:3<=B) (GK:ă) (FK:î F B):∀ps:Ĕ,đ F B ps
 |.nil=>trivial
 |.cons p ps=>⟨bW hB GK FK p,BW hB GK FK ps⟩
theorem sS (hB:3<=B) (GK:ă) (FK:î F B) (p:PI):í F B p:= by
 cases p with
 |val e=>exact BS (bW hB GK FK e).1
 |rng1 e=>exact xO GK (bW hB GK FK e).1
 |rng2 e f=>exact xP GK (bW hB GK FK e).1 (bW hB GK FK f).1
 |rng3 e f=>exact xQ GK (bW hB GK FK e).1 (bW hB GK FK f).1
end
noncomputable def uN (e:az):Bool:=e.ctorIdx==8
noncomputable def O7 (e:az):Bool:=e.ctorIdx==25
theorem oK (h:uN e=Wu):∃el gens sc pos,e=.ListComp el gens sc pos:=pt (motive_1:=λe=>∃el gens sc pos,e=.ListComp el gens sc pos) e (aq h) λa b c d=>(fP a b c ⟨d,rfl⟩)
noncomputable def aA4 (e:jg):Option (List az×az):=if h:e.ctorIdx=5 then uy (motive_2:=λ_=>Option (List az×az)) e h (λt v _=>J (t,v)) else Ww
theorem BX (h:aA4 e=J x):∃p',e=.Assign x.1 x.2 p':= by
 obtain⟨c,h⟩:=bG h;exact uy (motive_2:=λe=>∀c,uy (motive_2:=λ_=>Option (List az×az)) e c (λt v _=>J (t,v))=J x->∃p',e=.Assign x.1 x.2 p') e c (λ_ _ _ c h=>by cases sm h;exact⟨_,rfl⟩) c h
noncomputable def aA5 (e:jg):Option (az×ir×az):=if h:e.ctorIdx=7 then ry (motive_2:=λ_=>Option (az×ir×az)) e h (λt o v _=>J (t,o,v)) else Ww
theorem BZ (h:aA5 e=J x):∃p',e=.AugAssign x.1 x.2.1 x.2.2 p':= by
 obtain⟨c,h⟩:=bG h;exact ry (motive_2:=λe=>∀c,ry (motive_2:=λ_=>Option (az×ir×az)) e c (λt o v _=>J (t,o,v))=J x->∃p',e=.AugAssign x.1 x.2.1 x.2.2 p') e c (λ_ _ _ _ c h=>by cases sm h;exact⟨_,rfl⟩) c h
noncomputable def vEx (e:jg):Option (az):=if h:e.ctorIdx=24 then xf (motive_2:=λ_=>Option (az)) e h (λe1 _=>J e1) else Ww
theorem G5 (h:vEx e=J x):∃p',e=.Expr x p':= by
 obtain⟨c,h⟩:=bG h;exact xf (motive_2:=λe=>∀c,xf (motive_2:=λ_=>Option (az)) e c (λe1 _=>J e1)=J x->∃p',e=.Expr x p') e c (λ_ _ c h=>by cases sm h;exact⟨_,rfl⟩) c h
noncomputable def O8 (e:jg):Option (az×List jg×List jg):=if h:e.ctorIdx=12 then zl (motive_2:=λ_=>Option (az×List jg×List jg)) e h (λt a b _=>J (t,a,b)) else Ww
theorem pB (h:O8 e=J x):∃p',e=.If x.1 x.2.1 x.2.2 p':= by
 obtain⟨c,h⟩:=bG h;exact zl (motive_2:=λe=>∀c,zl (motive_2:=λ_=>Option (az×List jg×List jg)) e c (λt a b _=>J (t,a,b))=J x->∃p',e=.If x.1 x.2.1 x.2.2 p') e c (λ_ _ _ _ c h=>by cases sm h;exact⟨_,rfl⟩) c h
noncomputable def VK (e:jg):Option (az×az×List jg×List jg):=if h:e.ctorIdx=9 then yh (motive_2:=λ_=>Option (az×az×List jg×List jg)) e h (λt i a b _=>J (t,i,a,b)) else Ww
theorem uO (h:VK e=J x):∃p',e=.For x.1 x.2.1 x.2.2.1 x.2.2.2 p':= by
 obtain⟨c,h⟩:=bG h;exact yh (motive_2:=λe=>∀c,yh (motive_2:=λ_=>Option (az×az×List jg×List jg)) e c (λt i a b _=>J (t,i,a,b))=J x->∃p',e=.For x.1 x.2.1 x.2.2.1 x.2.2.2 p') e c (λ_ _ _ _ _ c h=>by cases sm h;exact⟨_,rfl⟩) c h
noncomputable def O9 (e:jg):Option (az×List jg×List jg):=if h:e.ctorIdx=11 then wf (motive_2:=λ_=>Option (az×List jg×List jg)) e h (λt a b _=>J (t,a,b)) else Ww
theorem EI (h:O9 e=J x):∃p',e=.While x.1 x.2.1 x.2.2 p':= by
 obtain⟨c,h⟩:=bG h;exact wf (motive_2:=λe=>∀c,wf (motive_2:=λ_=>Option (az×List jg×List jg)) e c (λt a b _=>J (t,a,b))=J x->∃p',e=.While x.1 x.2.1 x.2.2 p') e c (λ_ _ _ _ c h=>by cases sm h;exact⟨_,rfl⟩) c h
noncomputable def aD6 (e:jg):Option (Option az):=if h:e.ctorIdx=3 then uz (motive_2:=λ_=>Option (Option az)) e h (λv _=>J v) else Ww
theorem PA (h:aD6 e=J x):∃p',e=.Return x p':= by
 obtain⟨c,h⟩:=bG h;exact uz (motive_2:=λe=>∀c,uz (motive_2:=λ_=>Option (Option az)) e c (λv _=>J v)=J x->∃p',e=.Return x p') e c (λ_ _ c h=>by cases sm h;exact⟨_,rfl⟩) c h
def VL (s:jg):Option (Str×az):=(aA4 s).bind λa=>(ħ a.1).bind λt=>(mB t).map λx=>(x,a.2)
theorem uP (h:VL s=J x):∃px pos,s=.Assign [.Name x.1 px] x.2 pos:= by
 refine Å (co.mp h) λa h1 h=>?_;refine Å (co.mp h) λt h2 h=>?_;apply sH (ce.mp h);intro y h3;apply Ü (BX h1);intro pos;refine xe (eR h3) λpx e=>?_;exact O (cU h2) (O e (Ů px pos rfl))
def PB (e:az) (m:Str):Option (Str×List az):=(kM e).bind λc=>(GQ c.1).bind λa=>if (a.2.1==m&&(c.2.2.1.isEmpty&&a.2.2.endLine==c.2.2.2.line))=Wu then(mB a.1).map λx=>(x,c.2.1) else Ww
theorem xS (h:PB e m=J x):∃px ap k,e=.Call (.Attribute (.Name x.1 px) m ap) x.2 [] k/\(ap.endLine==k.line)=Wu:= by
 refine Å (co.mp h) λc h1 h=>?_;refine Å (co.mp h) λa h2 h=>?_;have h:=aZ h;apply sH (ce.mp h.2);intro y h3;have q:=aA h.1;have e1:=qP h2;refine xe (eR h3) λpx e2=>?_;rw[aq q.1,e2] at e1;have q2:=aA q.2;exact(kJ px a.2.2 c.2.2.2 ((cX h1).trans (by exact O e1 (O (cP q2.1) rfl))) q2.2)
section
def JO (cx:Cx) (asg:List Str) (e:az) (i:Nat):Bool:=(mB e).any λx=>cx.vars.lookup x==J i&&(asg.contains x&&(!cx.own.contains i&&!cx.tk.contains i))
def mD (cx:Cx) (asg:List Str):List az->List Nat->Bool
 |es,[]=>es.isEmpty
 |es,i::is=>match es with
  |[]=>Wv
  |e::es=>JO cx asg e i&&mD cx asg es is
termination_by structural _ is=>is
noncomputable def lI:List Nat->Bool
 |[]=>Wu
 |a::l=>!l.contains a&&lI l
def pC (cx:Cx) (asg:List Str) (e:az) (ts:List Nat):Bool:=match ħ ts with
 |some i=>JO cx asg e i
 |none=>(I1 e).any λes=>mD cx asg es ts&&(decide (2<=ts.length)&&lI ts)
def sT (e:az):Bool:=match I1 e with
 |some vs=>vs.all (foldedForSure 8)||!vs.all (constantsAlone 8)
 |none=>Wu
def EJ (cx:Cx) (x:Str) (i:Nat):Bool:=cx.vars.lookup x==J i&&(cx.own.contains i&&cI x)
noncomputable def aD7 (o:ir):Bool:=o==.Add
mutual
def jB (cx:Cx) (asg:List Str):jg->PS->Bool
 |s,.asg i e=>(VL s).any λx=>cx.vars.lookup x.1==J i&&(asg.contains x.1&&(!cx.own.contains i&&(aG cx Wv x.2 e&&(!cx.tk.contains i||BN e))))
 |s,.asgO i e=>(VL s).any λx=>cx.vars.lookup x.1==J i&&(asg.contains x.1&&(cx.own.contains i&&(aG cx Wv x.2 e&&(!cx.tk.contains i&&qU e))))
 |s,.asgT ts e=>(aA4 s).any λa=>(ħ a.1).any λt=>O7 t&&(pC cx asg t ts&&(decide (2<=ts.length)&&(aG cx Wv a.2 e&&sT a.2)))
 |s,.aug i op e=>(aA5 s).any λa=>(mB a.1).any λx=>a.2.1==op&&(cx.vars.lookup x==J i&&(asg.contains x&&(!cx.own.contains i&&(!cx.tk.contains i&&(cI x&&aG cx Wu a.2.2 e)))))
 |s,.ext i e=>(aA5 s).any λa=>(mB a.1).any λx=>aD7 a.2.1&&(EJ cx x i&&(asg.contains x&&(!cx.tk.contains i&&(aG cx Wv a.2.2 e&&qU e))))
 |s,.app i e=>(vEx s).any λc=>(PB c ("append":Str)).any λx=>(ħ x.2).any λa=>EJ cx x.1 i&&(aG cx Wv a e&&cD a)
 |s,.pop j i=>(VL s).any λy=>(PB y.2 ("pop":Str)).any λx=>x.2.isEmpty&&(EJ cx x.1 i&&(cx.vars.lookup y.1==J j&&(asg.contains y.1&&(!cx.own.contains j&&!cx.tk.contains j))))
 |s,.ite t a b=>(O8 s).any λx=>aG cx Wu x.1 t&&(gE cx asg x.2.1 a&&gE cx asg x.2.2 b)
 |s,.for ts Fx body=>(VK s).any λx=>x.2.2.2.isEmpty&&(pC cx asg x.1 ts&&(sJ cx x.2.1 Fx&&gE cx asg x.2.2.1 body))
 |s,.esc ts e body=>(VK s).any λx=>(kM x.2.1).any λc=>(ħ c.2.1).any λa=>x.2.2.2.isEmpty&&(c.2.2.1.isEmpty&&(pC cx asg x.1 ts&&(fX cx c.1 D4&&(cD a&&(aG cx Wu a e&&gE cx asg x.2.2.1 body)))))
 |s,.while n t body=>(O9 s).any λx=>x.2.2.isEmpty&&(aG cx Wu x.1 t&&gE cx asg x.2.1 body)
 |s,.ret e=>(aD6 s).any λv=>v.any λv=>aG cx Wu v e
def gE (cx:Cx) (asg:List Str):List jg->ù->Bool
 |ss,.nil=>ss.isEmpty
 |ss,.cons p ps=>match ss with
  |s::ss=>jB cx asg s p&&gE cx asg ss ps
  |[]=>Wv
end
end
section
variable{cx:Cx}{asg:List Str}{st:jg}
theorem mE (h:(!a)=Wu):a=Wv:=by cases a<;>first|rfl|exact nf h
theorem qX{l:List Str}{x:Str}(h:l.contains x=Wu):x∈l:=mo.mp h
theorem aD8 (h:(!a||b)=Wu):a=Wv\/b=Wu:=by cases a<;>first|exact .inl rfl|exact .inr h
theorem VM{i:Nat}{e:PE}(h:jB cx asg st (.asg i e)=Wu):∃x px v pos,st=.Assign [.Name x px] v pos/\cx.vars.lookup x=J i/\x∈asg/\cx.own.contains i=Wv/\aG cx Wv v e=Wu/\(cx.tk.contains i=Wv\/BN e=Wu):= by
 refine Å (aC h) λx h1 h2=>?_;refine Ľ (uP h1) λpx pos e1=>?_;have q1:=aA h2;have q2:=aA q1.2;have q3:=aA q2.2;have q4:=aA q3.2;exact(cB _ px _ pos e1 (aq q1.1) (qX q2.1) (mE q3.1) ⟨q4.1,(aD8 q4.2)⟩)
theorem PC{i:Nat}{e:PE}(h:jB cx asg st (.asgO i e)=Wu):∃x px v pos,st=.Assign [.Name x px] v pos/\cx.vars.lookup x=J i/\x∈asg/\cx.own.contains i=Wu/\aG cx Wv v e=Wu/\cx.tk.contains i=Wv/\qU e=Wu:= by
 refine Å (aC h) λx h1 h2=>?_;refine Ľ (uP h1) λpx pos e1=>?_;have q1:=aA h2;have q2:=aA q1.2;have q3:=aA q2.2;have q4:=aA q3.2;have q5:=aA q4.2;exact(cB _ px _ pos e1 (aq q1.1) (qX q2.1) q3.1 (ß q4.1 (mE q5.1) q5.2))
theorem PD (h:jB cx asg st (.asgT ts e)=Wu):∃es k p v pos,st=.Assign [.Tuple es k p] v pos/\pC cx asg (.Tuple es k p) ts=Wu/\2<=ts.length/\aG cx Wv v e=Wu/\sT v=Wu:= by
 refine Å (aC h) λa h1 h2=>?_;refine Å (aC h2) λt h3 h4=>?_;refine xe (BX h1) λpos e1=>?_;have q1:=aA h4;have q2:=aA q1.2;have q3:=aA q2.2;rw[cU h3] at e1;have e2:∃es k p,t=.Tuple es k p:=ph (motive_1:=λe=>∃a b c,e=.Tuple a b c) t (aq q1.1) λa b c=>(fP a b c rfl);refine iX e2 λes k p e2=>?_;subst e2;exact(fP es k p (cM _ pos e1 q2.1 (of_decide_eq_true q3.1) (aA q3.2)))
theorem VN{i:Nat}{op:ir}{e:PE}(h:jB cx asg st (.aug i op e)=Wu):∃x px v pos,st=.AugAssign (.Name x px) op v pos/\cx.vars.lookup x=J i/\x∈asg/\cx.own.contains i=Wv/\cx.tk.contains i=Wv/\cI x=Wu/\aG cx Wu v e=Wu:= by
 refine Å (aC h) λa h1 h2=>?_;refine Å (aC h2) λx h3 h4=>?_;refine xe (BZ h1) λpos e1=>?_;refine xe (eR h3) λpx e2=>?_;have q1:=aA h4;have q2:=aA q1.2;have q3:=aA q2.2;have q4:=aA q3.2;have q5:=aA q4.2;rw[e2,aq q1.1] at e1;exact(cB x px _ pos e1 (aq q2.1) (qX q3.1) (mE q4.1) ⟨(mE q5.1),(aA q5.2)⟩)
theorem VO{i:Nat}{e:PE}(h:jB cx asg st (.ext i e)=Wu):∃x px v pos,st=.AugAssign (.Name x px) .Add v pos/\EJ cx x i=Wu/\x∈asg/\cx.tk.contains i=Wv/\aG cx Wv v e=Wu/\qU e=Wu:= by
 refine Å (aC h) λa h1 h2=>?_;refine Å (aC h2) λx h3 h4=>?_;refine xe (BZ h1) λpos e1=>?_;refine xe (eR h3) λpx e2=>?_;have q1:=aA h4;have q2:=aA q1.2;have q3:=aA q2.2;have q4:=aA q3.2;rw[e2,aq q1.1] at e1;exact(cB x px _ pos e1 q2.1 (qX q3.1) (mE q4.1) (aA q4.2))
theorem VP (h:jB cx asg st (.app i e)=Wu):∃x px ap a k pos,st=.Expr (.Call (.Attribute (.Name x px) ("append":Str) ap) [a] [] k) pos/\EJ cx x i=Wu/\aG cx Wv a e=Wu/\cD a=Wu/\(ap.endLine==k.line)=Wu:= by
 refine Å (aC h) λc h1 h2=>?_;refine Å (aC h2) λx h3 h4=>?_;refine Å (aC h4) λa h5 h6=>?_;refine xe (G5 h1) λpos e1=>?_;refine mL (xS h3) λpx ap k e2 q=>?_;rw[e2,cU h5] at e1;exact(rT _ px ap a k pos e1 ((aA h6).1) ((aA (aA h6).2).1) ((aA (aA h6).2).2) q)
theorem VQ{j i:Nat}(h:jB cx asg st (.pop j i)=Wu):∃y py x px ap k pos,st=.Assign [.Name y py] (.Call (.Attribute (.Name x px) ("pop":Str) ap) [] [] k) pos/\EJ cx x i=Wu/\(ap.endLine==k.line)=Wu/\cx.vars.lookup y=J j/\y∈asg/\cx.own.contains j=Wv/\cx.tk.contains j=Wv:= by
 refine Å (aC h) λy h1 h2=>?_;refine Å (aC h2) λx h3 h4=>?_;refine Ľ (uP h1) λpy pos e1=>?_;refine mL (xS h3) λpx ap k e2 q=>?_;have q1:=aA h4;have q2:=aA q1.2;have q3:=aA q2.2;have q4:=aA q3.2;have q5:=aA q4.2;rw[e2,cP q1.1] at e1;exact(fP _ py _ (cB px ap k pos e1 q2.1 q (aq q3.1) (ß (qX q4.1) (mE q5.1) (mE q5.2))))
theorem PF (h:jB cx asg st (.ite t a b)=Wu):∃te bs os pos,st=.If te bs os pos/\aG cx Wu te t=Wu/\gE cx asg bs a=Wu/\gE cx asg os b=Wu:= by
 refine Å (aC h) λx h1 h2=>?_;refine xe (pB h1) λpos e1=>?_;exact(f7 _ _ _ pos e1 ((aA h2).1) (aA (aA h2).2))
theorem VR (h:jB cx asg st (.for ts Fx body)=Wu):∃tgt it bs pos,st=.For tgt it bs [] pos/\pC cx asg tgt ts=Wu/\sJ cx it Fx=Wu/\gE cx asg bs body=Wu:= by
 refine Å (aC h) λx h1 h2=>?_;refine xe (uO h1) λpos e1=>?_;rw[cP (aA h2).1] at e1;exact(f7 _ _ _ pos e1 ((aA (aA h2).2).1) (aA (aA (aA h2).2).2))
theorem VS (h:jB cx asg st (.esc ts e body)=Wu):∃tgt g a k bs pos,st=.For tgt (.Call g [a] [] k) bs [] pos/\pC cx asg tgt ts=Wu/\fX cx g D4=Wu/\cD a=Wu/\aG cx Wu a e=Wu/\gE cx asg bs body=Wu:= by
 refine Å (aC h) λx h1 h2=>?_;refine Å (aC h2) λc h3 h4=>?_;refine Å (aC h4) λa h5 h6=>?_;refine xe (uO h1) λpos e1=>?_;have q1:=aA h6;have q2:=aA q1.2;have q3:=aA q2.2;have q4:=aA q3.2;have q5:=aA q4.2;rw[cX h3,cU h5,cP q1.1,cP q2.1] at e1;exact(rT _ _ a _ _ pos e1 q3.1 q4.1 q5.1 (aA q5.2))
theorem JP (h:jB cx asg st (.while n t body)=Wu):∃te bs pos,st=.While te bs [] pos/\aG cx Wu te t=Wu/\gE cx asg bs body=Wu:= by
 refine Å (aC h) λx h1 h2=>?_;refine xe (EI h1) λpos e1=>?_;rw[cP (aA h2).1] at e1;exact(kJ _ _ pos e1 (aA (aA h2).2))
theorem VT (h:jB cx asg st (.ret e)=Wu):∃v pos,st=.Return (J v) pos/\aG cx Wu v e=Wu:= by
 refine Å (aC h) λx h1 h2=>?_;refine Å (aC h2) λv h3 h4=>?_;refine xe (PA h1) λpos e1=>?_;rw[h3] at e1;exact(lD v pos e1 h4)
theorem EK (h:gE cx asg ss (.cons p ps)=Wu):∃s us,ss=s::us/\jB cx asg s p=Wu/\gE cx asg us ps=Wu:= by
 cases ss with
 |nil=>exact nf h
 |cons s us=>exact(lD s us rfl (aA h))
theorem uQ{e:az}{i:Nat}(h:JO cx asg e i=Wu):∃x pos,e=.Name x pos/\cx.vars.lookup x=J i/\x∈asg/\cx.own.contains i=Wv/\cx.tk.contains i=Wv:= by
 refine Å (aC h) λx h1 h2=>?_;refine xe (eR h1) λpos e1=>?_;have q1:=aA h2;have q2:=aA q1.2;have q3:=aA q2.2;exact(cM x pos e1 (aq q1.1) (qX q2.1) ⟨(mE q3.1),(mE q3.2)⟩)
theorem uR (h:mD cx asg es (i::is)=Wu):∃e us,es=e::us/\JO cx asg e i=Wu/\mD cx asg us is=Wu:= by
 cases es with
 |nil=>exact nf h
 |cons e us=>exact(lD e us rfl (aA h))
theorem uS (h:pC cx asg e ts=Wu):(∃i,ts=[i]/\JO cx asg e i=Wu)\/∃es k p,e=.Tuple es k p/\mD cx asg es ts=Wu/\2<=ts.length/\lI ts=Wu:= by
 unfold pC at h;cases c:ħ ts with
 |some i=>rw[c] at h;exact .inl (Ö i (cU c) h)
 |none=>
  rw[c] at h;refine Å (aC (show(I1 e).any _=Wu from h)) λes h1 h2=>?_;refine Ľ (t8 h1) λk p e1=>?_;exact .inr (cO es k p e1 ((aA h2).1) (of_decide_eq_true (aA (aA h2).2).1) ((aA (aA h2).2).2))
end
section
variable{F:Fn}{pe pe':Ã}{fl:Fl}{e:PE}
theorem dI (h:J (a,c)=J (b,d)):b=a/\d=c:=by cases h;exact⟨rfl,rfl⟩
theorem VU (h:dH F (.asg i e) pe=J (pe',fl)):∃p,aB F e pe=J p/\pe'=st pe i p/\fl=.next:=Å (ob h) λp h1 h=>Ö p h1 (dI h)
theorem PG (h:dH F (.asgO i e) pe=J (pe',fl)):∃l,aB F e pe=J (.lst l)/\pe'=st pe i (.lst l)/\fl=.next:=Å (uF h) λp h1 h=>Ö p h1 (dI h)
theorem PH (h:dH F (.asgT ts e) pe=J (pe',fl)):∃p,aB F e pe=J p/\nY ts p pe=J pe'/\fl=.next:=Å (ob h) λp h1 h=>Ö p h1 (Å (ob h) λq h2 h=>by cases h;exact⟨h2,rfl⟩)
theorem VV (h:dH F (.aug i op e) pe=J (pe',fl)):∃x y z,lk pe i=J x/\aB F e pe=J y/\UW op x y=J z/\pe'=st pe i z/\fl=.next:=Å (ob h) λx h1 h=>Å (ob h) λy h2 h=>Å (ob h) λz h3 h=>cO x y z h1 h2 h3 (dI h)
theorem VW (h:dH F (.ext i e) pe=J (pe',fl)):∃x y,lk pe i=J (.lst x)/\aB F e pe=J (.lst y)/\x.length+y.length<=100000/\pe'=st pe i (.lst (x++y))/\fl=.next:=Å (uF h) λx h1 h=>Å (uF h) λy h2 h=>cM x y h1 h2 (aZ h).1 (dI (aZ h).2)
theorem VX (h:dH F (.app i e) pe=J (pe',fl)):∃x y,lk pe i=J (.lst x)/\aB F e pe=J y/\x.length<=100000/\pe'=st pe i (.lst (x++[y]))/\fl=.next:=Å (uF h) λx h1 h=>Å (ob h) λy h2 h=>cM x y h1 h2 (aZ h).1 (dI (aZ h).2)
set_option tactic.hygienic true in
theorem VY (h:dH F (.pop j i) pe=J (pe',fl)):∃x y,lk pe i=J (.lst x)/\x.getLast?=J y/\x.length<=100000/\pe'=st (st pe i (.lst x.dropLast)) j y/\fl=.next:=Å (uF h) λx h1 h=>Å (ob h) λy h2 h=>cM x y h1 h2 (aZ h).1 (dI (aZ h).2)
set_option tactic.hygienic true in
theorem PJ (h:dH F (.ite t a b) pe=J (pe',fl)):(aB F t pe=J (.bool Wu)/\aD F a pe=J (pe',fl))\/(aB F t pe=J (.bool Wv)/\aD F b pe=J (pe',fl)):=BL h
theorem VZ (h:dH F (.for ts Fx body) pe=J (pe',fl)):∃À,jM F Fx pe=J À/\e9 (aD F body) ts À pe=J (pe',fl):=ob h
theorem V0 (h:dH F (.esc ts e body) pe=J (pe',fl)):∃p À,aB F e pe=J p/\mU p=J À/\e9 (aD F body) ts À pe=J (pe',fl):=Å (ob h) λp h1 h=>Å (ob h) λl h2 h=>cA p l h1 h2 h
theorem V1 (h:dH F (.ret e) pe=J (pe',fl)):∃p,aB F e pe=J p/\pe'=pe/\fl=.ret p:=Å (ob h) λp h1 h=>Ö p h1 (dI h)
theorem zK{x:Ã×Fl}(h:thn k x=J (pe',fl)):(x.2=.next/\k x.1=J (pe',fl))\/∃v,x.2=.ret v/\pe'=x.1/\fl=.ret v:= by
 obtain⟨a,b⟩:=x;cases b with
 |next=>exact .inl ⟨rfl,h⟩
 |ret v=>exact .inr (Ö v rfl (dI h))
theorem xT (h:e9 body tg (p::l) pe=J (pe',fl)):∃pe1 Ik f2,nY tg p pe=J pe1/\body pe1=J (Ik,f2)/\
  ((f2=.next/\e9 body tg l Ik=J (pe',fl))\/∃v,f2=.ret v/\pe'=Ik/\fl=.ret v):=Å (ob h) λpe1 h1 h=>Å (ob h) λx h2 h=>y7 pe1 x.1 x.2 h1 h2 (zK h)
set_option tactic.hygienic true in
theorem B0 (h:g6 t body (n+1) pe=J (pe',fl)):(t pe=J (.bool Wv)/\pe'=pe/\fl=.next)\/(t pe=J (.bool Wu)/\∃Ik f2,body pe=J (Ik,f2)/\
  ((f2=.next/\g6 t body n Ik=J (pe',fl))\/∃v,f2=.ret v/\pe'=Ik/\fl=.ret v)):=(BL h).symm.imp (fun⟨h1,h⟩=>⟨h1,dI h⟩) fun⟨h1,h⟩=>⟨h1,Å (ob h) λx h2 h=>lD x.1 x.2 h2 (zK h)⟩
theorem EL (h:aD F (.cons s ss) pe=J (pe',fl)):∃pe1 f1,dH F s pe=J (pe1,f1)/\((f1=.next/\aD F ss pe1=J (pe',fl))\/(f1=fl/\pe'=pe1/\fl≠.next)):=Å (ob h) λx h1 h=>lD x.1 x.2 h1 ((zK h).imp_right fun⟨v,h2,h3,h4⟩=>⟨h2.trans h4.symm,h3,λq=>nomatch h4.symm.trans q⟩)
end
mutual
def ns:PS->Nat
 |.asg _ e|.asgO _ e|.asgT _ e|.aug _ _ e|.ext _ e|.app _ e|.ret e=>nd e
 |.pop _ _=>0
 |.ite t a b=>max (nd t) (max (ě a) (ě b))+1
 |.for _ Fx b=>max (Ν Fx) (ě b)+1
 |.esc _ e b=>max (nd e) (ě b)+12
 |.while _ t b=>max (nd t) (ě b)+1
def ě:ù->Nat
 |.nil=>0
 |.cons s ss=>max (ns s) (ě ss)
end
inductive Ķ (h:ju) (Na:Ap):Fl->Bw->Prop
 |next:Ķ h Na .next .next
 |ret{p:PV}{v:aj}:RV h Na v p->Ķ h Na (.ret p) (.ret v)
section
variable (F:Fn) (B:Nat)
def ë (p:PS):Prop:=∀{A:dj}{cx:Cx}{asg:List Str}{Á:Env}{s:ak}{Na No:Ap}{pe pe':Ã}{fl:Fl}{st:jg}{Q:Bw->ak->Prop}{E:Vs},
 cx.top=Wu->Ê A (ns p+B)->Ä cx asg Á s Na No pe->jB cx asg st p=Wu->dH F p pe=J (pe',fl)->
 (∀f s' No',Õ s No s' No'->Ä cx asg Á s' Na No' pe'->Ķ s'.heap Na fl f->Q f s')->wpAny (model Pg W0) A (exec st Á) Q E s
def à (p:ù):Prop:=∀{A:dj}{cx:Cx}{asg:List Str}{Á:Env}{s:ak}{Na No:Ap}{pe pe':Ã}{fl:Fl}{st:List jg}{Q:Bw->ak->Prop}{E:Vs},
 cx.top=Wu->Ê A (ě p+B)->Ä cx asg Á s Na No pe->gE cx asg st p=Wu->aD F p pe=J (pe',fl)->
 (∀f s' No',Õ s No s' No'->Ä cx asg Á s' Na No' pe'->Ķ s'.heap Na fl f->Q f s')->wpAny (model Pg W0) A (execs st Á) Q E s
end
section
variable{F:Fn}{B:Nat}
variable{A:dj}{cx:Cx}{asg:List Str}{Á:Env}{s:ak}{Na No:Ap}{pe:Ã}{E:Vs}
theorem PK (h:aG cx b (.SetComp el g sc pos) p=Wu):False:=by cases p<;>exact nf h
theorem JQ (h:aG cx b (.DictComp k v g sc pos) p=Wu):False:=by cases p<;>exact nf h
theorem PL (h:aG cx b (.ListComp el g sc pos) p=Wu):∃Gk tg Fx By c,p=.comp Gk tg Fx By c:= by
 cases p<;>first|exact nf h|exact(fP _ _ _ (Ů _ _ rfl))
theorem sK (h:aG cx b e p=Wu) (hc:uN e=Wv):swapsWith e t l Á=dm Wv:= by
 cases e<;>first|rfl|exact nf hc.symm|exact(PK h).elim|exact(JQ h).elim
theorem uT:∃b,swapsWith (.ListComp el gens sc pos) (J (.Name x px)) l Á=dm b:=⟨_,rfl⟩
theorem Pure.toExt (P:Pure s s') (h:∀b,No' b->No b\/s.heap.objs.size<=b):Õ s No s' No':=
 ⟨⟨λb o _ e=>Pure.keep P b o e,P.step.grow,h⟩,P.gens,P.bare,P.os,P.drawn,Õ.toks P⟩
theorem Ns.obj{h:ju}{C:fy}{m:Str->Option aj}(n:h.Ns C m):∃o,h.get? C=J o/\∀v,o.data≠.cell v:= by
 refine oB n λo es ep h1 h2 _=>?_;exact(Ö o h1 (λv e=>by rw[h2] at e;cases e))
theorem JR{e:PE}{i:Nat}{x:Str}{px pos:Pos}{v:az}{p:PV}{Q:Bw->ak->Prop}(hE:∀p,È F B p) (hT:∀p,Ô F B p) (hI:∀p,í F B p)
  (R:Ê A (nd e+B)) (X:Ä cx asg Á s Na No pe) (hc:aG cx Wv v e=Wu) (hv:uN v=Wu) (hd:aB F e pe=J p) (hi:cx.vars.lookup x=J i) (hx:x∈asg) (htk:cx.tk.contains i=Wv)
  (Uf:swapsWith v (J (.Name x px)) pos.line Á=dm Wu)
  (hQ:∀s' No',Õ s No s' No'->Ä cx asg Á s' Na No' (st pe i p)->Q .next s'):wpAny (model Pg W0) A (exec (.Assign [.Name x px] v pos) Á) Q E s:= by
 refine O (exec_Assign_Name_used _ _ _ _ Uf) ?_;refine fW (oK hv) λel gens sc cpos bc=>?_;subst bc;refine fW (PL hc) λGk tg Fx By zt=>?_;refine xe zt λc bc=>?_;clear zt;subst bc;refine fW (BK hc) λel' y py it zt=>?_;refine b9 zt λifs sc' cpos' Lj h1 h2 zt=>?_;refine xa zt λh3 h4=>?_;clear zt;cases Lj;refine fE (BM hd) λÀ rs d1 d2 bc=>?_;subst bc;clear hc hd hv;refine bh (ji (bh ?_));show wpAny _ _ (do let _ <-comprehension (.ListComp el [⟨.Name y py,it,ifs,0⟩] sc cpos) sc Á (firstIterPos [⟨.Name y py,it,ifs,0⟩] cpos) (newList []) Wv (eval it Á) (J (assign (.Name x px) Á));dm Em) _ E s;refine bh (xR (use:=J (assign (.Name x px) Á)) (Q:=λ_ s'=>wpAny (model Pg W0) A (dm Em) (λ_ s'=>wpAny (model Pg W0) A (dm Bw.next) Q E s') E s') (hE Gk) (hT c) (hI Fx) R X h1 h2 h3 h4 d1 d2 λacc C s' vs P ha hC Fy Oh Li hl hr Fp=>?_);refine xe Fp λmC Ug=>?_;clear Fp;have Hk:=X.low;have X':Ä cx asg Á s' (λb=>Na b\/b=C) (λb=>No b\/(cx.own.contains i=Wu/\b=acc)) pe:= by
  refine X.grow P (λb q=>.inl q) (λb q=>q.elim .inl λq=>.inr (by exact O q hC)) (λb q=>?_) (λb q=>.inl q) (λb q=>q.elim .inl λq=>.inr (by refine O q.2 ?_;exact ha)) (λb q=>?_) (λb q1 q2=>?_)
  ·rcases q with q|q
   ·exact af (Hk b (.inl q)) P.step.grow
   ·exact q▸Oh
  ·rcases q with q|q
   ·exact af (Hk b (.inr q)) P.step.grow
   ·exact q.2▸Li
  ·rcases q1 with q1|⟨_,q1⟩<;>rcases q2 with q2|q2
   ·exact X.disj b q1 q2
   ·exact absurd (Hk b (.inr q1)) (bp.mpr (q2▸hC))
   ·exact absurd (Hk b (.inl q2)) (bp.mpr (q1▸ha))
   ·exact Fy (q1.symm.trans q2)
 have Jf:¬(Na acc\/No acc):=λq=>absurd (Hk acc q) (bp.mpr ha);have slot:õ cx Á s' (λb=>(Na b\/b=C)\/(No b\/(cx.own.contains i=Wu/\b=acc))) i (.ref acc) (.lst rs):= by
  refine⟨?_,λhk=>by rw[htk] at hk;cases hk⟩
  by_cases ho:cx.own.contains i=Wu
  ·refine O (if_pos ho) (iH acc rfl (.inr (.inr ⟨ho,rfl⟩)) ?_ (Ö vs hl (Í.weak' (λb q=>?_) hr)))
   ·exact iy (af (X.base.low _ (.inr X.noL)) ha)
   ·rcases q with(q|q)|(q|q)
    ·exact .inl (.inl q)
    ·exact .inr (.inr q)
    ·exact .inl (.inr q)
    ·exact .inr (.inl q.2)
  ·refine O (if_neg ho) (.lst (λq=>?_) hl (Í.weak' (λb q=>?_) hr))
   ·rcases q with(q|q)|(q|q)
    ·exact Jf (.inl q)
    ·exact Fy q
    ·exact Jf (.inr q)
    ·exact ho q.1
   ·rcases q with(q|q)|(q|q)
    ·exact .inl (.inl q)
    ·exact .inr (.inr q)
    ·exact .inl (.inr q)
    ·exact absurd q.1 ho
 refine wpAny_assign_Name (dC X' hx hi slot (λa ea ho=>?_) (λa ea ho y' j hj Ri hs Mp hb=>?_) λÂ b0 Ii _ Hd Jd Gn Fi=>?_)
 ·cases ea;exact .inr ⟨ho,rfl⟩
 ·cases ea;have:Ë Á s.heap y' (.ref acc):= by
   refine xe (bg.mp hs) λq hq=>?_;exact X.bind_back P hj hq hb
  exact absurd (X.lowO acc (X.turns y' j acc hj Mp hs this)) (bp.mpr ha)
 ·have Uh:C≠b0:= by
   intro e;subst e;rcases Ii with Ii|Ii
   ·exact absurd (Hk C (.inr Ii)) (bp.mpr hC)
   ·exact Fy Ii.2.symm
  have Tf:Â.heap.Ns C mC:=Ug.sameBut Hd Uh;refine(Ö mC Tf (λh' Ib=>cy (cy ?_)));refine Å (Ns.obj Tf) λoC Ui Uj=>?_;have Fw:Ä cx asg Á {Â with heap:=h'} (λb=>Na b\/b=C) (λb=>No b\/(cx.own.contains i=Wu/\b=acc)) (st pe i (.lst rs)):=
   Fi.poke (.inr rfl) Ui Uj (λb o hb e=>Ib.extBut b o hb e) (be Ib.1.symm) (ai _) id
  refine hQ _ (λb=>No b\/(cx.own.contains i=Wu/\b=acc)) ?_ (Fw.narrow λb q=>.inl q);refine⟨⟨λb o hn e=>?_,?_,λb q=>q.elim .inl λq=>.inr (by exact O q.2 ha)⟩,λg gs e=>?_,λq=>?_,Gn.os.trans P.os,Gn.drawn.trans P.drawn,aa (Õ.toks P) (show s'.toks<=Â.toks from Õ.toks Gn)⟩
  ·have hb:b<s.heap.objs.size:=dc e;refine Ib.extBut b o (λq=>by rw[q] at hb;exact absurd hb (bp.mpr hC)) (Hd.extBut b o (λq=>?_) (Pure.keep P b o e));subst q;rcases Ii with Ii|Ii
   ·exact hn Ii
   ·rw[Ii.2] at hb;exact absurd hb (bp.mpr ha)
  ·show s.heap.objs.size<=h'.objs.size;exact O Ib.1 (O Hd.1 P.step.grow)
  ·exact Gn.gens g gs (P.gens g gs e)
  ·exact Gn.bare (P.bare q)
theorem PM (h4:aG cx b v e=Wu) (hv:uN v=Wu):BN e=Wv:= by
 obtain⟨el,gens,sc,cpos,rfl⟩:=oK hv;refine fW (PL h4) λGk tg Fx By zt=>?_;apply Ü zt;intro c;clear zt;rfl
theorem xU (hE:∀p,È F B p) (hT:∀p,Ô F B p) (hI:∀p,í F B p)
  (R:Ê A (nd e+B)) (X:Ä cx asg Á s Na No pe) (hc:aG cx Wv v e=Wu) (hd:aB F e pe=J p) (hi:cx.vars.lookup x=J i) (hx:x∈asg) (htk:cx.tk.contains i=Wv\/BN e=Wu)
  (plain:swapsWith v (J (.Name x px)) pos.line Á=dm Wv->wpAny (model Pg W0) A (exec (.Assign [.Name x px] v pos) Á) Q E s)
  (hQ:∀s' No',Õ s No s' No'->Ä cx asg Á s' Na No' (st pe i p)->Q .next s'):wpAny (model Pg W0) A (exec (.Assign [.Name x px] v pos) Á) Q E s:= by
 cases hv:uN v with
 |false=>exact plain (sK hc hv)
 |true=>
  have htk:cx.tk.contains i=Wv:=htk.resolve_right λq=>nf ((PM hc hv).symm.trans q);obtain⟨b,hb⟩:∃b,swapsWith v (J (.Name x px)) pos.line Á=dm b:= by
   obtain⟨el,gens,sc,cpos,rfl⟩:=oK hv;exact uT
  cases b with
  |false=>exact plain hb
  |true=>exact JR hE hT hI R X hc hv hd hi hx htk hb hQ
theorem pD (hE:∀p,È F B p) (hT:∀p,Ô F B p) (hI:∀p,í F B p) (i:Nat) (e:PE):ë F B (.asg i e):= by
 intro A cx asg Á s Na No pe pe' fl Ip Q E htop R X hc hd hQ;apply gX (VM hc);intro x px v pos hi hx h3 h4 h5;obtain⟨p,d1,rfl,rfl⟩:=VU hd;refine xU hE hT hI R X h4 d1 hi hx h5 (λhs=>?_) λs' No' he X'=>hQ _ _ No' he X' .next;refine wpAny_Assign_Name (hE e R X h4 d1 λu aT bY DO=>?_) hs;have no:∀{C:Prop},cx.own.contains i=Wu->C:=λh=>nf (h3.symm.trans h);refine dC (X.pure bY) hx hi ⟨by exact O h3 (DO.f rfl),λhk y t ey=>?_⟩ (λa ea h=>no h) (λa ea h=>no h) λÂ b0 _ _ _ _ he Fi=>hQ _ _ No ((bY.toExt λb q=>.inl q).trans he) Fi .next;exact DO.tok (h5.resolve_left λq=>nf (q.symm.trans hk)) y t ey
theorem V2{aT:ak}{a:fy}{x:Str}{i:Nat}(X:Ä cx asg Á s Na No pe) (bY:Pure s aT) (ha:s.heap.objs.size<=a){y:Str}{j:Nat}(hj:cx.vars.lookup y=J j) (hs:(lk pe j).isSome=Wu) (Mp:cx.own.contains j=Wu) (hb:Ë Á aT.heap y (.ref a)):False:= by
 refine xe (bg.mp hs) λq hq=>?_;exact absurd (X.lowO a (X.turns y j a hj Mp hs (X.bind_back bY hj hq hb))) (bp.mpr ha)
theorem JS (hE:∀p,È F B p) (hT:∀p,Ô F B p) (hI:∀p,í F B p) (i:Nat) (e:PE):ë F B (.asgO i e):= by
 intro A cx asg Á s Na No pe pe' fl Ip Q E htop R X hc hd hQ;apply gX (PC hc);intro x px v pos hi hx h3 h4 zt;refine xa zt λh5 h6=>?_;clear zt;obtain⟨l,d1,rfl,rfl⟩:=PG hd;refine xU hE hT hI R X h4 d1 hi hx (.inl h5) (λhs=>?_) λs' No' he X'=>hQ _ _ No' he X' .next;refine wpAny_Assign_Name (hE e R X h4 d1 λu aT bY DO=>?_) hs;apply iS (DO.fresh h6 l rfl);intro a vs ha hl hr;have Li:a<aT.heap.objs.size:=let ⟨n,e⟩:=hl;dc e;refine dC (X.wide (û.one bY X.lowO ha Li)) hx hi ⟨?_,λhk=>nf (h5.symm.trans hk)⟩ (λa' ea h=>by cases ea;exact .inr rfl) (λa' ea h y j hj Ri hs Mp hb=>by cases ea;exact(V2 (x:=x) (i:=i) X bY ha hj hs Mp hb).elim) λÂ b0 _ _ _ _ he Fi=>hQ _ _ _ ((bY.toExt λb q=>q.elim .inl λq=>.inr (by exact O q ha)).trans he) Fi .next;exact O (if_pos h3) (iH a rfl (.inr (.inr rfl)) (iy (af (X.base.low _ (.inr X.noL)) ha)) (Ö vs hl (Í.weak' (λb q=>q.elim (λq=>.inl (.inl q)) λq=>q.elim (λq=>.inl (.inr q)) .inr) hr)))
end
section
variable{A:dj}{E:Vs}{s:ak}
theorem JT{l b:fy}{vs us:List aj}{Q:Vs}(hl:s.heap.PlainList l vs.toArray) (hb:s.heap.PlainList b us.toArray) (Hw:vs.length+us.length<=100000)
  (hQ:∀h',h'.PlainList l (vs++us).toArray->ot l s.heap h'->Q (.ref l) {s with heap:=h'}):wpAny (model Pg W0) A (inplaceOp .Add (.ref l) (.ref b)) Q E s:= by
 refine xe hl λn e1=>?_;clear hl;refine xe hb λn2 e2=>?_;clear hb;have ha:s.TypeIs (.ref l) "list":=(Ö _ e1 rfl);have hb:s.TypeIs (.ref b) "list":=(Ö _ e2 rfl);unfold inplaceOp;refine wpAny_holding ?_;have hfi:fillsInplaceSlot (.type "list") "add" (ir.Add==.Add)=pure Wv:= by
  unfold fillsInplaceSlot;show(typeLookup (.type "list") (dunderI "add") >>= λfi=>pure (fi.isSome&&!isSeqSlot fi))=pure Wv;refine O F.slot_list_iadd.lookup ?_;simp only[pure_bind];refine O (show isSeqSlot (J (.builtin "list.__iadd__"))=Wu by decide +kernel) ?_;rfl
 have hsi:seqSlot? (.type "list") (dunderI "add")=pure (J (.builtin "list.__iadd__")):=uk F.slot_list_iadd.lookup (by decide +kernel);refine bh (wpAny_typeOf ha (bh (wpAny_of_eq hfi ?_)));show wpAny _ A (if Wv=Wu then _ else _) Q E s;refine O (if_neg pw) (bh (PySem.wpAny_binaryOp1_none (nm:="add") ha hb PySem.noFill_list_add ?_));refine bh (wpAny_of_eq hsi ?_);refine bh (wpAny_rule (call_meets F.slot_list_iadd ha F.entry_list_iadd (F.args_list_iadd_2 _ _) (AutoSeq1.list___iadd___list_list_0 l vs.toArray n b us.toArray n2 (by simp[uh,sizeLine];intros;exact aa Hw (by decide)) (by simp[sizeLine];exact ä (.x .q (.N 16777216)) [.x (.A .q .r) (.N 100000)] Hw) (by simp[sizeLine];exact aa Hw (by decide))) (ß e1 e2 ?_)));have hm:∃k,Obj.mapSeq (λx=>x++us.toArray) {cls:=.type "list",data:=.seq vs.toArray n}={cls:=.type "list",data:=.seq (vs++us).toArray k}:= by
  refine⟨if (vs.toArray++us.toArray).size==vs.toArray.size then n else n+1,?_⟩;refine aFZ (rn ..) ?_;rfl
 refine xe hm λk hm=>?_;have hg:=ju.get?_update_self (Obj.mapSeq λx=>x++us.toArray) e1 (by refine O hm ?_;rfl);rw[hm] at hg;exact hQ _ ⟨k,hg⟩ (ot.update ..)
end
section
variable{F:Fn}{B:Nat}
variable{A:dj}{cx:Cx}{asg:List Str}{Á:Env}{s:ak}{Na No:Ap}{pe:Ã}{E:Vs}
theorem Ë.load (k:Á.scope.kind=.function) (b:Ë Á s.heap x v) (h2:cI x=Wu) (h:Q v s):wpAny (model Pg W0) A (loadName Á x) Q E s:= by
 have hd:(x==("__debug__":Str))=Wv/\(x==("__classdict__":Str))=Wv:=by simpa only[cI,bt,en] using h2
 cases b with
 |loc m h1 h3 h4=>exact wpAny_loadName_local k h1 h3 h4 h
 |cell c h1 h3 h4=>
  rcases h1 with h1|h1
  ·exact wpAny_loadName_cell k h1 h3 h4 h
  ·exact wpAny_loadName_free k h1 h3 h4 h hd.2
theorem ø.move (r:ø h N a p) (k:∀o,h.get? a=J o->h'.get? a=J o) (S:Step h N h' N'):ø h' N' a p:= by
 rcases r.cases with⟨l,vs,rfl,h4,h5⟩|⟨l,rfl,Hg,Fk,hd,Hx⟩
 ·exact(Ö vs (h4.at k) (h5.step S))
 ·refine mL hd λo es ep e q=>?_;exact(sI Hg Fk (kJ o es ep (k _ e) q) Hx)
theorem Ä.mutate (r:Ä cx asg Á s Na No pe) (hi:cx.vars.lookup x=J i) (hown:cx.own.contains i=Wu) (hb:Ë Á s.heap x (.ref a)) (hp:lk pe i=J p)
  (Hd:ot a s.heap h') (ht:s.toks<=t') (Rj:ø h' (λb=>Na b\/No b) a p'):Ä cx asg Á {s with heap:=h',toks:=t'} Na No (st pe i p')/\Õ s No {s with heap:=h',toks:=t'} No/\Ë Á h' x (.ref a):= by
 have Hz:No a:=r.turns x i a hi hown (by refine O hp ?_;rfl) hb;refine Å (r.vars x i p hi hp) λv0 Ii Uk=>?_;have Kj:=Ii.same hb;subst Kj;have KE:=Uk.1;rw[if_pos hown] at KE;refine cH KE λa' ea _ Tg Rk=>?_;clear KE;cases ea;have hk:∀b o,b≠a->s.heap.get? b=J o->h'.get? b=J o:=λb o hb e=>Hd.extBut b o hb e;have hg:s.heap.objs.size=h'.objs.size:=Hd.1.symm;have S:Step s.heap (λb=>Na b\/No b) h' (λb=>Na b\/No b):=⟨λb o hn e=>hk b o (λq=>hn (.inr (q▸Hz))) e,be hg,λ_ q=>.inl q⟩;have Jt:∀c v,s.heap.IsCell c v->c≠a:=λc v h e=>rX Rk h e.symm;have Ka:∀c v,s.heap.IsCell c v->h'.IsCell c v:=λc v h=>let ⟨o,h1,h2⟩:=h;⟨o,hk c o (Jt c v h) h1,h2⟩;have Fp:∀m,s.heap.Ns Á.locals m->h'.Ns Á.locals m:=λm h=>let ⟨o,es,ep,x,q⟩:=h;⟨o,es,ep,hk _ _ (qm Tg) x,q⟩;have hB:∀y v,Ë Á s.heap y v->Ë Á h' y v:=λy v h=>by
  cases h with
  |loc m a b c=>exact .loc m a (Fp m b) c
  |cell c a b d=>exact .cell c a b (Ka c _ d)
 have back:∀y j q v,cx.vars.lookup y=J j->lk pe j=J q->Ë Á h' y v->Ë Á s.heap y v:=λy j q v hy hq b=>by
  refine Å (r.vars y j q hy hq) λu hu _=>?_;have:=(hB y u hu).same b;subst this;exact hu
 have lkS:∀j,(lk (st pe i p') j).isSome=Wu->∃q,lk pe j=J q:=λj h=>by
  refine xe (bg.mp h) λq hq=>?_;rcases xK hq with⟨rfl,_⟩|⟨_,h2⟩
  ·exact⟨p,hp⟩
  ·exact⟨q,h2⟩
 refine⟨{
  base:={
   keep:=λb o e=>hk b o (λq=>by have:=r.base.above a (.inr Hz);have h2:=dc e;rw[q] at h2;exact absurd h2 (bp.mpr this)) (r.base.keep b o e)
   above:=r.base.above
   size:=aa r.base.size (be hg)
   low:=λb q=>af (r.base.low b q) (be hg)
   toks:=af r.base.toks ht
   bare:=r.base.bare}
  kind:=r.kind
  glb:=r.glb
  blt:=r.blt
  gl:=r.gl
  cl:=λy hy=>let ⟨h1,c,v,h2,h3⟩:=r.cl y hy;⟨h1,c,v,h2,Ka c v h3⟩
  ns:=let ⟨m,hm⟩:=r.ns;⟨m,Fp m hm⟩
  noL:=r.noL
  apart:=r.apart
  cellsLow:=λy c h=>af (r.cellsLow y c h) (be hg)
  vars:=λy j q h1 h2=>by
   rcases xK h2 with⟨rfl,rfl⟩|⟨hj,h2⟩
   ·have:y=x:=r.inj y x _ h1 hi;subst this;refine⟨.ref a,hB _ _ hb,?_,λh x t e=>by cases e⟩;exact O (if_pos hown) ⟨a,rfl,.inr Hz,Tg,Rj⟩
   ·refine Å (r.vars y j q h1 h2) λv Iv hs=>?_;refine⟨v,hB y v Iv,?_,λh x t e=>⟨(hs.2 h x t e).1,af (hs.2 h x t e).2 ht⟩⟩;have h3:=hs.1;split
    ·rename_i hc;rw[if_pos hc] at h3;refine cH h3 λa2 e q1 q2 q3=>?_;clear h3;subst e;have Fy:a2≠a:=λe=>by
      subst e;exact hj (r.alone y x j i a2 h1 hi (by refine O h2 ?_;rfl) (by refine O hp ?_;rfl) hc hown Iv hb)
     refine⟨a2,rfl,q1,q2,?_⟩;exact q3.move (λo e=>hk _ _ Fy e) S
    ·rename_i hc;rw[if_neg hc] at h3;exact h3.step S
  stores:=λy hy=>by
   cases r.stores y hy with
   |loc h=>exact .loc h
   |cell c Gz h1 h2 h3 h4=>exact .cell c Gz h1 h2 h3 (Ka c _ h4)
  inj:=r.inj
  alone:=λy z j k b h1 h2 h3 h4 h5 h6 h7 h8=>by
   refine xe (lkS j h3) λq1 e1=>?_;refine xe (lkS k h4) λq2 e2=>?_;exact r.alone y z j k b h1 h2 (by refine O e1 ?_;rfl) (by refine O e2 ?_;rfl) h5 h6 (back y j q1 _ h1 e1 h7) (back z k q2 _ h2 e2 h8)
  disj:=r.disj
  turns:=λy j b h1 h2 h3 h4=>by
   refine xe (lkS j h3) λq1 e1=>?_;exact r.turns y j b h1 h2 (by refine O e1 ?_;rfl) (back y j q1 _ h1 e1 h4)},?_⟩
 exact⟨⟨⟨λb o hn e=>hk b o (λq=>hn (q▸Hz)) e,be hg,λ_ q=>.inl q⟩,λ_ _ e=>e,id,rfl,rfl,ht⟩,hB _ _ hb⟩
theorem JU (ru:RV s.heap N u p) (rv:RT s.heap N v q) (h:UW op p q=J z)
  (hQ:∀zv Â,Pure s Â->(∀(h:ju) (N:Ap),RV h N zv z)->Q zv Â):wpAny (model Pg W0) A (inplaceOp op u v) Q E s:= by
 cases op<;>try (exact nn h)
 ·cases p<;>try (exact nn h)
  ·cases q<;>try (exact nn h)
   apply Ü ru.inv;intro t;apply Ü rv.inv;intro t';cases sm h;exact P.iadd_int (hQ _ _ (Pure.toks _) λh N=>.int _ _)
  ·cases q<;>try (exact nn h)
   apply Ü ru.inv;intro t;apply Ü rv.inv;intro t';have h:=aZ h;cases sm h.2;refine bD (SB.iadd (λt' k hm=>hQ _ _ (Pure.toks _ hm.2) λh N=>.str _ _) ?_);have:=h.1;clear hQ rv ru;unfold sizeLine;exact ä (.x (.A .q .r) (.P .n2 24)) [.x (.A .q .r) (.N 100000)] h.1
 ·cases p<;>try (exact nn h)
  cases q<;>try (exact nn h)
  apply Ü ru.inv;intro t;apply Ü rv.inv;intro t';cases sm h;exact P.isub_int (hQ _ _ (Pure.toks _) λh N=>.int _ _)
theorem PN (hE:∀p,È F B p) (i:Nat) (op:ir) (e:PE):ë F B (.aug i op e):= by
 intro A cx asg Á s Na No pe pe' fl Ip Q E htop R X hc hd hQ;apply gX (VN hc);intro x px v pos hi hx h3 h4 zt;refine xa zt λh5 h6=>?_;clear zt;obtain⟨p,q,z,d1,d2,hz,rfl,rfl⟩:=VV hd;refine Å (X.vars x i p hi d1) λu hb hs=>?_;have no:∀{C:Prop},cx.own.contains i=Wu->C:=λh=>nf (h3.symm.trans h);refine wpAny_AugAssign_Name (hb.load X.kind h5 (hE e R X h6 d2 λv' aT bY DO=>?_));have ou:=hs.1;rw[if_neg (λq=>no q)] at ou;refine JU (ou.step (bY.stepAt _)) DO.t hz λzv Â iF hr=>?_;exact dC (X.pure (bY.trans iF)) hx hi ⟨by exact O h3 (hr _ _),λhk=>nf (h4.symm.trans hk)⟩ (λa ea h=>no h) (λa ea h=>no h) λdO b0 _ _ _ _ he Fw=>hQ _ _ No ((Pure.toExt (bY.trans iF) λb q=>.inl q).trans he) Fw .next
theorem PO (hE:∀p,È F B p) (e:PE):ë F B (.ret e):= by
 intro A cx asg Á s Na No pe pe' fl Ip Q E htop R X hc hd hQ;apply ZZ (VT hc);intro v pos h1;obtain⟨p,d1,rfl,rfl⟩:=V1 hd;exact wpAny_Return_some (hE e R X h1 d1 λv aT bY DO=>hQ _ _ No (bY.toExt λb q=>.inl q) (X.pure bY) (.ret (DO.a htop)))
theorem Ä.ownList (X:Ä cx asg Á s Na No pe) (hi:cx.vars.lookup x=J i) (ho:cx.own.contains i=Wu) (hp:lk pe i=J (.lst l)):
  ∃a vs,Ë Á s.heap x (.ref a)/\No a/\a≠Á.locals/\s.heap.PlainList a (zj vs)/\Í s.heap (λb=>Na b\/No b) vs l:= by
 refine Å (X.vars x i _ hi hp) λv hb hs=>?_;have h1:=hs.1;rw[if_pos ho] at h1;refine cH h1 λa bc _ h3 zt=>?_;refine Å zt λvs h4 h5=>?_;clear zt;subst bc;exact(cM a vs hb (X.turns x i a hi ho (by refine O hp ?_;rfl) hb) h3 ⟨h4,h5⟩)
theorem uU (h:EJ cx x i=Wu):cx.vars.lookup x=J i/\cx.own.contains i=Wu/\cI x=Wu:=
 (ß (aq (aA h).1) ((aA (aA h).2).1) ((aA (aA h).2).2))
theorem qY (hs:ot a h h') (hN:N a):Step h N h' N:=
 ⟨λb o hn e=>hs.extBut b o (λq=>hn (q▸hN)) e,be hs.1.symm,λ_ q=>.inl q⟩
theorem xV (X:Ä cx asg Á s Na No pe):interactive Á=Wv:= by
 unfold interactive;refine O X.kind ?_;rfl
theorem uV:∀{pe:Ã}{i:Nat},lk pe i=J q->lk (st pe i p) i=J p
 |[],_,h=>by simp[wO,wP,wQ] at h
 |a::l,0,h=>by simp[NK,NL,NM,wO,wP,wQ]
 |a::l,n+1,h=>by dsimp only[NK,NL,NM,wO,wP,wQ] at h⊢;exact uV h
theorem sU (h:n<=100000) (e:m=n):m<sizeLine:=by unfold sizeLine;exact ä (.y .q (.P .n2 24)) [.x .r (.N 100000),.z1 .q .r] h e
theorem B1 (hl:s.heap.PlainList a x):∀q,zy a=.ref q->∃ob,s.heap.get? q=J ob/\ob.dict=Ww:=λq e=>by
 cases e;refine xe hl λn e=>?_;exact(Ö _ e rfl)
theorem PP (hE:∀p,È F B p) (i:Nat) (e:PE):ë F B (.ext i e):= by
 intro A cx asg Á s Na No pe pe' fl Ip Q E htop R X hc hd hQ;apply gX (VO hc);intro x px v pos h1 hx h3 h4 h5;refine Ē (uU h1) λhi ho Oi=>?_;obtain⟨l,m,d1,d2,hlen,rfl,rfl⟩:=VW hd;refine lC (X.ownList hi ho d1) λad vs hb Hz hL hl hr=>?_;refine wpAny_AugAssign_Name (hb.load X.kind Oi (hE e R X h4 d2 λu aT bY DO=>?_));apply iS (DO.fresh h5 m rfl);intro b us hbs Ul hbr;refine JT (hl.at λo e=>Pure.keep bY _ o e) Ul (by rw[hr.length,hbr.length];exact hlen) λh' Hi Hd=>?_;have S:=qY (N:=λb=>Na b\/No b) Hd (.inr Hz);refine Ē ((X.pure bY).mutate hi ho (hb.keeps bY.keep) d1 Hd (ai _) (p':=.lst (l++m)) (Ö (vs++us) Hi (Í.append ((hr.step (bY.stepAt _)).step S) ((hbr.weak' λb q=>.inl q).step S)))) λFi he Th=>?_;have Oj:lk (st pe i (.lst (l++m))) i=J (.lst (l++m)):=uV d1;refine Å (Fi.vars x i _ hi Oj) λv2 hb2 Ok=>?_;cases hb2.same Th;refine dC Fi hx hi Ok (λa ea h=>by cases ea;exact Hz) (λa ea h y j hj Ri hs Mp Pu=>?_) λdO b0 _ _ _ _ Gl Fw=>hQ _ _ No ((bY.toExt λb q=>.inl q).trans (he.trans Gl)) (by rw[O1] at Fw;exact Fw) .next;cases ea;exact Ri (Fi.alone y x j i ad hj hi hs (by rw[Oj];rfl) Mp ho Pu Th)
theorem PQ (hE:∀p,È F B p) (i:Nat) (e:PE):ë F B (.app i e):= by
 intro A cx asg Á s Na No pe pe' fl Ip Q E htop R X hc hd hQ;refine fW (VP hc) λx px ap a zt=>?_;apply iS zt;intro k pos h1 h2 zt;refine xa zt λh4 h3=>?_;clear zt;refine Ē (uU h1) λhi ho Oi=>?_;obtain⟨l,y,d1,d2,hlen,rfl,rfl⟩:=VX hd;refine lC (X.ownList hi ho d1) λad vs hb Hz hL hl hr=>?_;refine wpAny_Expr_any (wpAny_Call_method rfl (by refine O (bZ h4) ?_;rfl) h3 va PySem.F.slot_list_append PySem.F.type_list_append (hb.name X.kind Oi (ß hl.isList.typeIs (B1 hl) ?_))) (xV X) rfl;refine O (bZ h4) (ly rfl (ic (ez (hE e R X h2 d2 λv aT bY DO=>iv ?_))));refine wpAny_list_append_plain (hl.at λo e=>Pure.keep bY _ o e) (λh' Hi Hd=>?_) (by first|exact sU hlen hr.length|exact dp (sU hlen hr.length));have S:=qY (N:=λb=>Na b\/No b) Hd (.inr Hz);refine Ē ((X.pure bY).mutate hi ho (hb.keeps bY.keep) d1 Hd (ai _) (p':=.lst (l++[y])) (Ö (vs++[v]) (by rw[zk] at Hi;exact Hi) (Í.append ((hr.step (bY.stepAt _)).step S) (Í.one ((DO.f rfl).step S))))) λFi he _=>?_;exact hQ _ _ No ((bY.toExt λb q=>.inl q).trans he) Fi .next
theorem PR (hr:Í s.heap N vs l) (hq:l.getLast?=J q):∃v,vs[vs.length-1]?=J v/\RV s.heap N v q/\Í s.heap N vs.dropLast l.dropLast:= by
 rw[tj] at hq;refine Å (hr.get hq) λv hv rv=>?_;refine(gQ v (by exact O hr.length hv) rv ?_);exact O wk (O wk (O hr.length (hr.take _)))
theorem PT (j i:Nat):ë F B (.pop j i):= by
 intro A cx asg Á s Na No pe pe' fl Ip Q E htop R X hc hd hQ;refine fW (VQ hc) λy py x px zt=>?_;apply fG zt;intro ap k pos h1 h2 hj zt;refine Ē zt λhy h5 h6=>?_;clear zt;refine Ē (uU h1) λhi ho Oi=>?_;obtain⟨l,q,d1,hq,hlen,rfl,rfl⟩:=VY hd;refine lC (X.ownList hi ho d1) λad vs hb Hz hL hl hr=>?_;refine mK (PR hr hq) λv hv rv Um=>?_;refine wpAny_Assign_Name (wpAny_Call_method rfl rfl h2 va PySem.F.slot_list_pop PySem.F.type_list_pop (hb.name X.kind Oi (ß hl.isList.typeIs (B1 hl) (ly rfl (PySem.evalArgs_none ?_)))));refine xe hl λk hk=>?_;clear hl;refine Bx (y:=v) hk (by exact O (mm) hv) (λh' Hd Hx=>?_) (by first|exact sU hlen hr.length|exact dp (sU hlen hr.length));have S:=qY (N:=λb=>Na b\/No b) Hd (.inr Hz);refine Ē (X.mutate hi ho hb d1 Hd (ai _) (p':=.lst l.dropLast) (Ö vs.dropLast ⟨k+1,by refine O Hx ?_;congr 3⟩ (Um.step S))) λFi he _=>?_;have no:∀{C:Prop},cx.own.contains j=Wu->C:=λh=>nf (h5.symm.trans h);exact dC Fi hy hj ⟨by exact O h5 (rv.step S),λhk=>nf (h6.symm.trans hk)⟩ (λa ea h=>no h) (λa ea h=>no h) λdO b0 _ _ _ _ Gl Fw=>hQ _ _ No (he.trans Gl) Fw .next
def Č (cx:Cx) (asg:List Str) (Á:Env) (act:aj->Sem Unit) (i:Nat):Prop:=
 ∀{A:dj}{s:ak}{Na No:Ap}{pe:Ã}{E:Vs}{v:aj}{p:PV}{Q:Unit->ak->Prop},Ä cx asg Á s Na No pe->RV s.heap (λb=>Na b\/No b) v p->
  (∀s',Õ s No s' No->Ä cx asg Á s' Na No (st pe i p)->Q () s')->wpAny (model Pg W0) A (act v) Q E s
theorem xW (h1:cx.vars.lookup x=J i) (h2:x∈asg) (h3:cx.own.contains i=Wv) (h4:cx.tk.contains i=Wv)
  (ha:∀{A:dj}{s:ak}{E:Vs}{v:aj}{Q:Unit->ak->Prop},wpAny (model Pg W0) A (storeName Á x v) Q E s->wpAny (model Pg W0) A (act v) Q E s):Č cx asg Á act i:= by
 intro A s Na No pe E v p Q X rv hQ;have no:∀{C:Prop},cx.own.contains i=Wu->C:=λh=>nf (h3.symm.trans h);exact ha (dC X h2 h1 ⟨by exact O h3 rv,λhk=>nf (h4.symm.trans hk)⟩ (λa ea h=>no h) (λa ea h=>no h) λdO b0 _ _ _ _ he Fw=>hQ _ he Fw)
theorem uW (h:JO cx asg e i=Wu):Č cx asg Á (assign e Á) i:= by
 apply iS (uQ h);intro x pos h1 h2 zt;refine xa zt λh3 h4=>?_;exact xW h1 h2 h3 h4 λh=>wpAny_assign_Name h
theorem pE (h:eP (i::ts) l pe=J pe'):∃p ps,l=p::ps/\eP ts ps (st pe i p)=J pe':= by
 cases l with
 |nil=>exact nn h
 |cons p ps=>exact(lD p ps rfl h)
theorem r8 (h:eP [] l pe=J pe'):l=[]/\pe'=pe:= by
 cases l with
 |nil=>exact⟨rfl,(sm h).symm⟩
 |cons p ps=>exact nn h
def Ħ (cx:Cx) (asg:List Str) (Á:Env):List (aj->Sem Unit)->List Nat->Prop
 |[],is=>is=[]
 |a::Gx,is=>∃i js,is=i::js/\Č cx asg Á a i/\Ħ cx asg Á Gx js
theorem Ħ.get:∀{is:List Nat},Gx.length=is.length->(∀(k:Nat) (a:aj->Sem Unit) (i:Nat),Gx[k]?=J a->is[k]?=J i->Č cx asg Á a i)->Ħ cx asg Á Gx is:= by
 induction Gx with
 |nil=>exact λ{is} h _=>uw.mp h.symm
 |cons a Gx ih=>
  intro is hl h;cases is with
  |nil=>cases hl
  |cons i js=>exact(cA i js rfl (h 0 a i rfl rfl) (ih (nw hl) λk b j h1 h2=>h (k+1) b j h1 h2))
theorem PU:∀{is:List Nat}{vs:List aj}{ps:List PV}{s:ak}{pe pe':Ã},Ħ cx asg Á Gx is->Ä cx asg Á s Na No pe->Í s.heap (λb=>Na b\/No b) vs ps->eP is ps pe=J pe'->
  (∀s',Õ s No s' No->Ä cx asg Á s' Na No pe'->Q () s')->wpAny (model Pg W0) A (assignInOrder Gx vs) Q E s:= by
 induction Gx with
 |nil=>
  intro is vs ps s pe pe' ha X r hb hQ;cases ha;refine xa (r8 hb) λbc Gf=>?_;subst bc;subst Gf;cases r.inv;exact cy (hQ _ (Õ.refl _ _) X)
 |cons a Gx ih=>
  intro is vs ps s pe pe' ha X r hb hQ;refine fE ha λi js bc h1 h2=>?_;subst bc;clear ha;refine mF (pE hb) λp ps bc hb=>?_;subst bc;refine fE r.inv λv vs bc r1 r2=>?_;subst bc;show wpAny _ A (do holding vs (a v);assignInOrder Gx vs) Q E s;exact bh (wpAny_holding (h1 X r1 λaT Hf Fq=>ih h2 Fq (r2.step (Hf.step.or Na)) hb λs' e' X'=>hQ _ (Hf.trans e') X'))
theorem zL (hl:Gx.length=is.length) (ha:∀(k:Nat) (a:aj->Sem Unit) (i:Nat),Gx[k]?=J a->is[k]?=J i->Č cx asg Á a i)
  (X:Ä cx asg Á s Na No pe) (r:Í s.heap (λb=>Na b\/No b) vs ps) (hb:eP is ps pe=J pe') (hQ:∀s',Õ s No s' No->Ä cx asg Á s' Na No pe'->Q () s'):wpAny (model Pg W0) A (assignInOrder Gx vs) Q E s:=
 PU (.get hl ha) X r hb hQ
theorem oL:∀{es:List az},mD cx asg es ts=Wu->
  (assignEach es Á).length=ts.length/\(assignEach es Á).findIdx? (·.1)=Ww/\es.length=ts.length/\∀(k:Nat) (a:aj->Sem Unit) (i:Nat),((assignEach es Á).map (·.2))[k]?=J a->ts[k]?=J i->Č cx asg Á a i:= by
 induction ts with
 |nil=>
  intro es h;cases cP h;exact(fH rfl rfl rfl (λk a i h=>nn h))
 |cons t ts ih=>
  intro es h;refine fE (uR h) λe es bc hn hc=>?_;subst bc;refine mF (uQ hn) λx pos bc _=>?_;subst bc;refine bS (ih hc) λh1 h2 h3 h4=>?_;have he:assignEach (.Name x pos::es) Á=(Wv,assign (.Name x pos) Á)::assignEach es Á:=rfl;refine(fH (congrArg xd h1) (by refine O he (O (List.findIdx?_cons) (O h2 ?_));rfl) (congrArg xd h3) (λk a i ha hi=>?_));cases k with
  |zero=>exact sm ha▸sm hi▸uW hn
  |succ k=>exact h4 k a i ha hi
theorem uX{vs:List aj}{l:List PV}{h':ju}{Q:List aj->ak->Prop}(X:Ä cx asg Á s Na No pe) (he:ju.ExtBut s.heap.objs.size s.heap h') (hm:Ĺ s {s with heap:=h'}) (hr:Í s.heap (λb=>Na b\/No b) vs l)
  (hQ:∀vs s',Pure s s'->Í s'.heap (λb=>Na b\/No b) vs l->Ä cx asg Á s' Na No pe->Q vs s'):Q vs {s with heap:=h'}:= by
 have P:Pure s {s with heap:=h'}:=Pure.mk' (t:=s.toks) (λb o e=>he b o (fx (dc e)) e) hm;exact hQ _ _ P (hr.step (P.stepAt _)) (X.pure P)
theorem pF (hh:A.handled=Ww) (X:Ä cx asg Á s Na No pe) (rv:RV s.heap (λb=>Na b\/No b) v p) (hp:p=.tup l\/p=.lst l) (hn:l.length=n)
  (hQ:∀vs s',Pure s s'->Í s'.heap (λb=>Na b\/No b) vs l->Ä cx asg Á s' Na No pe->Q vs s'):wpAny (model Pg W0) A (unpackItems v n Ww) Q E s:= by
 rcases hp with rfl|rfl
 ·apply iS rv.inv;intro a vs _ pa ra;exact aFZ hn (aFZ ra.length (bD (wpAny_unpackItems_tuple hh pa.isTuple λh' he hm=>uX X he hm ra hQ)))
 ·apply iS rv.inv;intro a vs _ pa ra;exact aFZ hn (aFZ ra.length (bD (kun_itemsOf hh pa.isList λh' he hm=>uX X he hm ra hQ)))
theorem jZ:∀{l:List PV}{pe pe':Ã},eP ts l pe=J pe'->l.length=ts.length:= by
 induction ts with
 |nil=>exact λh=>(r8 h).1▸rfl
 |cons t ts ih=>exact λh=>by apply ZZ (pE h);intro p ps h;exact congrArg xd (ih h)
theorem uY (h:nY ts p pe=J pe') (h2:2<=ts.length):∃l,(p=.tup l\/p=.lst l)/\eP ts l pe=J pe':= by
 cases ts with
 |nil=>cases h2
 |cons i ts=>cases ts with
  |nil=>exact absurd (qq h2) (xh 0)
  |cons j ts=>cases p<;>first|exact nn h|exact(Ö _ (.inl rfl) h)|exact(Ö _ (.inr rfl) h)
theorem uZ (hh:A.handled=Ww) (X:Ä cx asg Á s Na No pe) (hc:mD cx asg es ts=Wu) (h2:2<=ts.length)
  (rv:RV s.heap (λb=>Na b\/No b) v p) (hb:nY ts p pe=J pe') (hQ:∀s',Õ s No s' No->Ä cx asg Á s' Na No pe'->Q () s'):wpAny (model Pg W0) A (assign (.Tuple es k tp) Á v) Q E s:= by
 refine Å (uY hb h2) λl hp Iv=>?_;refine bS (oL (Á:=Á) hc) λh1 Jb h3 h4=>?_;refine O (to ..) (bh (ji ?_));unfold unpack;refine O h1 (O Jb (bh (wpAny_holding (pF hh X rv hp (jZ Iv) λvs aT bY Iy Fq=>?_))));exact zL (by simp[h1]) h4 Fq Iy Iv λs' e' X'=>hQ _ ((bY.toExt λb q=>.inl q).trans e') X'
theorem u4 (hh:A.handled=Ww) (X:Ä cx asg Á s Na No pe) (hc:pC cx asg tgt ts=Wu)
  (rv:RV s.heap (λb=>Na b\/No b) v p) (hb:nY ts p pe=J pe') (hQ:∀s',Õ s No s' No->Ä cx asg Á s' Na No pe'->Q () s'):wpAny (model Pg W0) A (assign tgt Á v) Q E s:= by
 rcases uS hc with⟨i,rfl,h1⟩|⟨es,k,tp,rfl,h1,h2,h3⟩
 ·cases sm hb;exact uW h1 X rv hQ
 ·exact uZ hh X h1 h2 rv hb hQ
end
section
variable{A:dj}{E:Vs}{s:ak}{R:ym->ak->Prop}
theorem u5 (I:Nat->ak->Prop)
  (ō:∀n s,I n s->∀E',wpAny (model Pg W0) A (pyNext it) (λr aT=>match r with
   |none=>R (.ok .next) aT
   |some v=>wpAny (model Pg W0) A (letOwnedTupleGo target it v) (λ_ Gy=>wpAny (model Pg W0) A (assign target Á v) (λ_ Â=>
     wpAny (model Pg W0) A (execs body Á) (λf dO=>match f with
      |.next|.cont=>∃m,m<n/\I m dO
      |.brk=>R (.ok .next) dO
      |.ret v=>R (.ok (.ret v)) dO) E' Â) E' Gy) E' aT) E' s)
  (n:Nat) (h:I n s):codeAny (model Pg W0) A (.forLoop target it body [] Á) R s:= by
 refine codeAny_loop' rfl I (λn s hI=>?_) n h;show wpAny _ _ ((forTurn target it body [] Á).onRaise (λx=>do noteFrame x Á;theTreesLotGoes x)) _ _ s;refine wpAny_noted ?_
 dsimp only[forTurn]
 refine bh (ji (bh (wpAny_onRaise (lj (ō n s hI _) (λr aT Fj=>?_) λ_ _ h'=>ji h'))));cases r with
 |none=>exact cy (.inr ⟨rfl,codeAny_block (wpAny_execs_nil Fj)⟩)
 |some v=>
  refine bh (lj Fj (λ_ Gy Kk=>?_) λ_ _ h'=>h');refine bh (lj Kk (λ_ Â Hu=>bh (lj Hu (λf dO Jl=>?_) λ_ _ h'=>h')) λ_ _ h'=>h');cases f with
  |next=>exact cy (.inl ⟨rfl,Jl⟩)
  |cont=>exact cy (.inl ⟨rfl,Jl⟩)
  |brk=>exact cy Jl
  |ret v=>exact cy Jl
theorem r9 (ho:s.heap.get? I=J o) (hc:o.cls=.type n) (hn:xN n=Wv) (h:Q () s):
  wpAny (model Pg W0) A (letOwnedTupleGo target (.ref I) v) Q E s:= by
 have key:wpAny (model Pg W0) A (do
   let (.ref r,.ref a):=((.ref I:aj),v)|return
   let o <-load r
   match o.cls,o.data with
   |.type n,.fields vs=>
    if ["enumerate","zip","dict_itemiterator","dict_reverseitemiterator","odict_iterator","itertools.zip_longest","itertools.pairwise"].contains n&&vs[0]?==J (rawInt a) then
     rule "for.unpacks-the-owned-tuple"
     updateField r 0 .none
   |_,_=>pure ():Sem Unit) Q E s:= by
  cases v with
  |ref a=>
   refine bh (wpAny_load ho ?_);refine O hc ?_;cases o.data with
   |fields vs=>
    refine(congrArg (λm:Sem Unit=>wpAny (model Pg W0) A m Q E s) (if_neg ?_)).mpr (cy h);exact O (show List.contains _ n=Wv from hn) pw
   |_=>exact cy h
  |_=>exact cy h
 cases target with
 |Tuple _ _ _=>exact key
 |List _ _=>exact key
 |_=>exact cy h
end
section
variable{F:Fn}{B:Nat}
variable{A:dj}{cx:Cx}{asg:List Str}{Á:Env}{s:ak}{Na No:Ap}{pe:Ã}{E:Vs}
theorem PW (hT:∀p,Ô F B p) (ha:à F B a) (hb:à F B b):ë F B (.ite t a b):= by
 intro A cx asg Á s Na No pe pe' fl Ip Q E htop R X hc hd hQ;have R':Ê A (max (nd t) (max (ě a) (ě b))+B):=R.le (ax (gy _) _);apply mO (PF hc);intro te bs os pos h1 h2 h3;rcases PJ hd with⟨d1,d2⟩|⟨d1,d2⟩
 ·exact wpAny_If (hT t R'.m1 X h1 d1 λaT bY=>ha htop R'.m2 (X.pure bY) h2 d2 λf s' No' e' X' hf=>hQ f s' No' ((bY.toExt λb q=>.inl q).trans e') X' hf)
 ·exact wpAny_If (hT t R'.m1 X h1 d1 λaT bY=>hb htop R'.m3 (X.pure bY) h3 d2 λf s' No' e' X' hf=>hQ f s' No' ((bY.toExt λb q=>.inl q).trans e') X' hf)
theorem Ķ.next_inv (r:Ķ h N .next f):f=.next:=by cases r;rfl
theorem Ķ.ret_inv (r:Ķ h N (.ret p) f):∃v,f=.ret v/\RV h N v p:=by cases r with|ret h=>exact(Ö _ rfl h)
theorem EM (hT:∀p,Ô F B p){k:Nat}{t:PE}{a:ù}{te:az}{bs:List jg}{pe':Ã}{fl:Fl}{Q:Bw->ak->Prop}{I:Nat->ak->Prop}(ha:à F B a) (htop:cx.top=Wu) (R1:Ê A (nd t+B)) (R2:Ê A (ě a+B)) (X:Ä cx asg Á s Na No pe)
  (h1:aG cx Wu te t=Wu) (h2:gE cx asg bs a=Wu) (hw:g6 (aB F t) (aD F a) (k+1) pe=J (pe',fl)) (hQ:∀f s' No',Õ s No s' No'->Ä cx asg Á s' Na No' pe'->Ķ s'.heap Na fl f->Q f s')
  (hI:∀s' No' Fz,Õ s No s' No'->Ä cx asg Á s' Na No' Fz->g6 (aB F t) (aD F a) k Fz=J (pe',fl)->I k s'):
  wpAny (model Pg W0) A (isTrue te Á (eval te Á)) (λb aT=>if b=Wu then wpAny (model Pg W0) A (execs bs Á) (λf Â=>match f with
   |.next|.cont=>∃m,m<k+1/\I m Â
   |.brk=>Q .next Â
   |.ret v=>Q (.ret v) Â) E aT else wpAny (model Pg W0) A (execs [] Á) Q E aT) E s:= by
 rcases B0 hw with⟨d1,rfl,rfl⟩|⟨d1,Ik,f2,d2,h⟩
 ·exact hT t R1 X h1 d1 λÂ iF=>wpAny_execs_nil (hQ _ _ No (iF.toExt λb q=>.inl q) (X.pure iF) .next)
 ·refine hT t R1 X h1 d1 λÂ iF=>?_;have Hl:Õ s No Â No:=Pure.toExt iF λb q=>.inl q;rcases h with⟨rfl,h⟩|⟨v,rfl,rfl,rfl⟩
  ·refine ha htop R2 (X.pure iF) h2 d2 λf dO Kl Km Fw hf=>?_;cases hf.next_inv;exact(Ö k (dg _) (hI dO Kl Ik (Hl.trans Km) Fw h))
  ·refine ha htop R2 (X.pure iF) h2 d2 λf dO Kl Km Fw hf=>?_;apply ŀ hf.ret_inv;intro v hr;exact hQ _ _ Kl (Hl.trans Km) Fw (.ret hr)
theorem EO (hT:∀p,Ô F B p){n:Nat}{t:PE}{a:ù}(ha:à F B a):ë F B (.while n t a):= by
 intro A cx asg Á s Na No pe pe' fl Ip Q E htop R X hc hd hQ;have R':Ê A (max (nd t) (ě a)+B):=R.le (ax (gy _) _);apply lB (JP hc);intro te bs pos h1 h2;refine wpAny_While (codeAny_whileLoop (λk s'=>∃Do BY,Õ s No s' BY/\Ä cx asg Á s' Na BY Do/\g6 (aB F t) (aD F a) k Do=J (pe',fl)) ?_ n (cA pe No (Õ.refl _ _) X hd))
 rintro k s' ⟨Do,BY,Hf,Fq,hw⟩
 cases k with
 |zero=>exact nn hw
 |succ k=>exact EM hT ha htop R'.n1 R'.n2 Fq h1 h2 hw (λf Â Gh Hl Fi hf=>hQ f Â Gh (Hf.trans Hl) Fi hf) λÂ Gh Fz Hl Fi hw=>(cA Fz Gh (Hf.trans Hl) Fi hw)
theorem xX:à F B .nil:= by
 intro A cx asg Á s Na No pe pe' fl Ip Q E htop R X hc hd hQ;cases cP hc;refine xa (dI hd) λbc Gf=>?_;subst bc;subst Gf;exact wpAny_execs_nil (hQ _ _ No (Õ.refl _ _) X .next)
theorem u6 (hp:ë F B p) (Gp:à F B ps):à F B (.cons p ps):= by
 intro A cx asg Á s Na No pe pe' fl Ip Q E htop R X hc hd hQ;apply fF (EK hc);intro st ss h1 h2;refine mF (EL hd) λDo f1 d1 h=>?_;refine wpAny_execs_cons (hp htop R.n1 X h1 d1 λf aT BY Hf Fq hf=>?_);rcases h with⟨rfl,d2⟩|⟨rfl,rfl,Fy⟩
 ·cases hf.next_inv;exact Gp htop R.n2 Fq h2 d2 λf Â Gh Hl Fi hf=>hQ _ _ Gh (Hf.trans Hl) Fi hf
 ·cases f1 with
  |next=>exact absurd rfl Fy
  |ret v=>apply ŀ hf.ret_inv;intro u hr;exact hQ _ _ BY Hf Fq (.ret hr)
structure ũ (F:Fn) (B:Nat) (A:dj) (cx:Cx) (asg:List Str) (Á:Env) (Na:Ap) (AT:ak) (ts:List Nat) (a:ù) (tgt:az) (bs:List jg) (I:fy) (À:List PV) (fp:List fy) (P:Nat->aj->Prop) (St:Nat->ju->Prop):Prop where
 ha:à F B a
 htop:cx.top=Wu
 R:Ê A (ě a+B)
 h1:pC cx asg tgt ts=Wu
 h3:gE cx asg bs a=Wu
 W:Ex Pg W0 A I fp [I] À.length P St
 hcI:∀i h,St i h->∃o,h.get? I=J o/\(∀v,o.data≠.cell v)/\∃n,o.cls=.type n/\xN n=Wv
 hI:AT.heap.objs.size<=I
structure ĕ (cx:Cx) (asg:List Str) (Á:Env) (Na:Ap) (AT:ak) (Gi:Ap) (I:fy) (À:List PV) (fp:List fy) (P:Nat->aj->Prop) (s:ak) (No:Ap) (pe:Ã):Prop where
 e:Õ AT Gi s No
 X:Ä cx asg Á s (λb=>Na b\/b=I) No pe
 fp:∀b∈fp,b=I\/¬(Na b\/No b)/\b<s.heap.objs.size
 P:∀j v,j<À.length->P j v->∃p,À[j]?=J p/\RV s.heap (λb=>(Na b\/b=I)\/No b) v p
section
variable{AT:ak}{Gi:Ap}{ts:List Nat}{a:ù}{tgt:az}{bs:List jg}{I:fy}{À:List PV}{fp:List fy}{P:Nat->aj->Prop}{St:Nat->ju->Prop}
theorem ĕ.poke (K:ũ F B A cx asg Á Na AT ts a tgt bs I À fp P St) (S:ĕ cx asg Á Na AT Gi I À fp P s No pe) (st:St k s.heap) (Hm:∀b o,b∉[I]->s.heap.get? b=J o->h'.get? b=J o) (hm:Ĺ s {s with heap:=h',toks:=tk}):
  ĕ cx asg Á Na AT Gi I À fp P {s with heap:=h',toks:=tk} No pe:= by
 refine mK (K.hcI _ _ st) λo ho Un _=>?_;have T:Step s.heap (λb=>(Na b\/b=I)\/No b) h' (λb=>(Na b\/b=I)\/No b):=⟨λb o hn e=>Hm b o (λq=>hn (.inl (.inr (bx.mp q)))) e,hm.1,λ_ q=>.inl q⟩;refine⟨⟨⟨λb o hn e=>Hm b o (λq=>?_) (S.e.step.keep b o hn e),aa S.e.step.grow hm.1,S.e.step.new⟩,S.e.gens,S.e.bare,S.e.os,S.e.drawn,aa (Õ.toks S.e) hm.2⟩,S.X.poke (.inr rfl) ho Un (λb o hb e=>Hm b o (λq=>hb (bx.mp q)) e) hm.1 hm.2 id,
  λb hb=>(S.fp b hb).imp id λq=>⟨q.1,af q.2 hm.1⟩,λj v hj hv=>let ⟨p,q1,q2⟩:=S.P j v hj hv;⟨p,q1,q2.step T⟩⟩
 have h5:=dc e;rw[bx.mp q] at h5;exact bp.mpr K.hI h5
theorem ĕ.step (S:ĕ cx asg Á Na AT Gi I À fp P s No pe) (e:Õ s No s' No') (X:Ä cx asg Á s' (λb=>Na b\/b=I) No' pe'):ĕ cx asg Á Na AT Gi I À fp P s' No' pe':= by
 refine⟨S.e.trans e,X,λb hb=>(S.fp b hb).imp id λq=>⟨λq'=>?_,af q.2 e.step.grow⟩,λj v hj hv=>let ⟨p,q1,q2⟩:=S.P j v hj hv;⟨p,q1,q2.step (e.step.or (λb=>Na b\/b=I))⟩⟩;rcases q' with q'|q'
 ·exact q.1 (.inl q')
 ·rcases e.step.new b q' with q''|q''
  ·exact q.1 (.inr q'')
  ·exact absurd q.2 (bp.mpr q'')
theorem ĕ.frame (K:ũ F B A cx asg Á Na AT ts a tgt bs I À fp P St) (S:ĕ cx asg Á Na AT Gi I À fp P s No pe) (st:St k s.heap) (e:Õ s No s' No'):St k s'.heap:=
 K.W.frame _ _ _ st λb hb o h=>e.step.keep b o (λq=>by
  rcases S.fp b hb with rfl|⟨q1,_⟩
  ·exact S.X.disj _ q (.inr rfl)
  ·exact q1 (.inr q)) h
theorem PX{k:Nat}{v:aj}{pe':Ã}{fl:Fl}{Q:Bw->ak->Prop}{Wt:Nat->ak->Prop}{n:Nat}(hh:A.handled=Ww) (K:ũ F B A cx asg Á Na AT ts a tgt bs I À fp P St) (S:ĕ cx asg Á Na AT Gi I À fp P s No pe) (Fv:k<À.length) (st:St (k+1) s.heap) (hv:P k v)
  (hf:e9 (aD F a) ts (À.drop k) pe=J (pe',fl)) (hQ:∀f s' No',Õ AT Gi s' No'->Ä cx asg Á s' (λb=>Na b\/b=I) No' pe'->Ķ s'.heap (λb=>Na b\/b=I) fl f->Q f s')
  (hJ:∀s' No' Fz,ĕ cx asg Á Na AT Gi I À fp P s' No' Fz->St (k+1) s'.heap->e9 (aD F a) ts (À.drop (k+1)) Fz=J (pe',fl)->∃m,m<n/\Wt m s'):
  wpAny (model Pg W0) A (letOwnedTupleGo tgt (.ref I) v) (λ_ Gy=>wpAny (model Pg W0) A (assign tgt Á v) (λ_ Â=>wpAny (model Pg W0) A (execs bs Á) (λf dO=>match f with
   |.next|.cont=>∃m,m<n/\Wt m dO
   |.brk=>Q .next dO
   |.ret v=>Q (.ret v) dO) E Â) E Gy) E s:= by
 refine Å (S.P k v Fv hv) λp hp Kf=>?_;rw[qW hp] at hf;refine oB (xT hf) λpe1 Ik f2 hb d2 h=>?_;refine mK (K.hcI _ _ st) λo ho _ zt=>?_;refine Å zt λnm Uo Pv=>?_;clear zt;refine r9 ho Uo Pv (u4 hh S.X K.h1 Kf hb λs₄ Ol Gg=>?_);have Mq:=S.step Ol Gg;have Jg:=S.frame K st Ol;rcases h with⟨rfl,h⟩|⟨v,rfl,rfl,rfl⟩
 ·refine K.ha K.htop K.R Gg K.h3 d2 λf Fs Iq Jp Gd hf=>?_;cases hf.next_inv;exact hJ Fs Iq Ik (Mq.step Jp Gd) (Mq.frame K Jg Jp) h
 ·refine K.ha K.htop K.R Gg K.h3 d2 λf Fs Iq Jp Gd hf=>?_;apply ŀ hf.ret_inv;intro v hr;exact hQ _ _ Iq (Mq.step Jp Gd).e Gd (.ret hr)
theorem PY{pe':Ã}{fl:Fl}{RR:ym->ak->Prop}(hh:A.handled=Ww) (K:ũ F B A cx asg Á Na AT ts a tgt bs I À fp P St) (S:ĕ cx asg Á Na AT Gi I À fp P s No pe) (st:St 0 s.heap) (hf:e9 (aD F a) ts À pe=J (pe',fl))
  (hQ:∀f s' No',Õ AT Gi s' No'->Ä cx asg Á s' (λb=>Na b\/b=I) No' pe'->Ķ s'.heap (λb=>Na b\/b=I) fl f->RR (.ok f) s'):
  codeAny (model Pg W0) A (.forLoop tgt (.ref I) bs [] Á) RR s:= by
 refine u5 (λn s'=>∃k Do BY,k<=À.length/\n=À.length-k/\ĕ cx asg Á Na AT Gi I À fp P s' BY Do/\St k s'.heap/\e9 (aD F a) ts (À.drop k) Do=J (pe',fl)) ?_ À.length (fI 0 pe No (jd _) rfl S st hf)
 rintro n s' ⟨k,Do,BY,hk,rfl,Hj,He,hf⟩ E'
 rcases ov k À.length with Fv|Rc
 ·exact bD (K.W.item k s' _ _ Fv He λv h' tk hv Kg Hm hm=>PX (Q:=λf s=>RR (.ok f) s) hh K (Hj.poke K He Hm hm) Fv Kg hv hf hQ λFs Iq Fz Rl Kn hf=>(Ö (À.length-(k+1)) (oz Fv (dg k)) (fI (k+1) Fz Iq Fv rfl Rl Kn hf)))
 ·cases eo hk Rc;rw[ow] at hf;refine xa (dI hf) λbc Gf=>?_;subst bc;subst Gf;refine bD (K.W.done s' _ _ He λh' tk Hm hm=>?_);have Jn:=Hj.poke K He Hm hm;exact hQ _ _ BY Jn.e Jn.X .next
end
theorem Ķ.narrow (r:Ķ h N' fl f) (hn:∀b,N b->N' b):Ķ h N fl f:= by
 cases r with
 |next=>exact .next
 |ret hr=>exact .ret (hr.weak' hn)
theorem PZ (hI:∀p,í F B p) (ha:à F B a):ë F B (.for ts Fx a):= by
 intro A cx asg Á s Na No pe pe' fl Ip Q E htop R X hc hd hQ;have R':Ê A (max (Ν Fx) (ě a)+B):=R.le (ax (gy _) _);apply mO (VR hc);intro tgt it bs pos h1 h2 h3;refine Å (VZ hd) λÀ d1 hf=>?_;refine wpAny_For (hI Fx R'.n1 X h2 d1 λI Â iF Lh Ki hlen č=>?_) (G4 h2);refine b9 č λfp P St W Hq hcI zt=>?_;refine xa zt λhfp hP=>?_;clear zt;clear č;have Fi:Ä cx asg Á Â (λb=>Na b\/b=I) No pe:=
  X.wideA iF (λb q=>.inl q) (λb q=>q.elim .inl λq=>.inr (q▸Lh)) λb q=>q.elim (λq=>af (X.low b (.inl q)) iF.step.grow) λq=>q▸Ki
 exact PY R.hh ⟨ha,htop,R'.n2,h1,h3,W A R.hh,hcI,Lh⟩ ⟨iF.toExt λb q=>.inl q,Fi,hfp,λj v hj hv=>let ⟨p,q1,q2⟩:=hP j v hj hv;⟨p,q1,q2.weak' λb q=>q.elim (λq=>q.elim (λq=>.inl (.inl q)) .inr) λq=>.inl (.inr q)⟩⟩ Hq hf
  λf s' No' e' X' hf=>hQ f s' No' e' (X'.narrow λb q=>.inl q) (hf.narrow λb q=>.inl q)
def u7 (e:az):Option Str:=mB e
theorem u9{f:az->Option Str}(hf:∀e x,f e=J x->u7 e=J x){es:List az}(h:(es.filterMap f).length=es.length):es.map u7=(es.filterMap f).map J:= by
 induction es with
 |nil=>rfl
 |cons e es ih=>
  rw[iu] at h⊢;cases hx:f e with
  |none=>
   rw[hx] at h;exact absurd (be h.symm) (Nat.not_le_of_gt (tz (pd f es)))
  |some x=>
   rw[hx] at h;exact O aw (O (hf e x hx) (O aw (O (ih (nw h)) rfl)))
def Sw (es:List az) (m:Sem (Option (List Str))):Prop:=m=dm Ww\/∃names,m=dm (J names)/\es.map u7=names.map J/\(es.length=2\/es.length=3)
theorem vA{c:Prop}[Decidable c] (h1:c->Sw es a) (h2:¬c->Sw es b):Sw es (if c then a else b):= by
 by_cases h:c
 ·exact O (if_pos h) (h1 h)
 ·exact O (if_neg h) (h2 h)
theorem pG:Sw es (dm Ww):=.inl rfl
theorem EP (e:az) (x:Str) (h:(match e with|.Name id pos=>if (Á.kindOf id==J .local&&pos.line==l)=Wu then J id else Ww|_=>Ww)=J x):u7 e=J x:= by
 cases e with
 |Name id pos=>exact(aZ h).2
 |_=>exact nn h
theorem aA6{a b:Nat}{c d e:Bool}(h:¬((!(a==2||a==3)||d)||e)=Wu):a=2\/a=3:= by
 by_cases h2:a=2
 ·exact .inl h2
 ·by_cases h3:a=3
  ·exact .inr h3
  ·exact absurd (by simp[h2,h3]) h
theorem wV{es:List az}{k:Nat}{p:Pos}{v:az}(ho:sT v=Wu):Sw es (swappedStores [.Tuple es k p] v Á):= by
 by_cases hv:v.ctorIdx=25
 ·refine ph (motive_1:=λv=>sT v=Wu->Sw es (swappedStores [.Tuple es k p] v Á)) v hv (λvs a b ho=>?_) ho;have ho:(vs.all (foldedForSure 8)||!vs.all (constantsAlone 8))=Wu:=ho;refine vA (λ_=>pG) λh1=>?_;refine vA (λ_=>pG) λ_=>?_;refine vA (λ_=>pG) λh3=>?_;refine vA (λ_=>pG) λh4=>?_;refine vA (λh5=>?_) λ_=>.inr ?_
  ·exfalso;rcases jr.mp ho with ho|ho
   ·exact h4 ho
   ·rw[mE ho] at h5;exact nf h5
  ·refine(gQ _ rfl (u9 EP ?_) (aA6 (b:=0) (c:=Wu) h1));exact Dx λe=>h3 (jr.mpr (.inl (bne_iff_ne.mpr e)))
 ·clear ho;cases v<;>first|exact pG|exact absurd rfl hv
theorem sV (h:i≠j):∀{pe:Ã},st (st pe i p) j q=st (st pe j q) i p:= by
 induction i generalizing j with
 |zero=>
  intro pe;cases pe with
  |nil=>rfl
  |cons a l=>
   cases j with
   |zero=>exact absurd rfl h
   |succ j=>rfl
 |succ i ih=>
  intro pe;cases pe with
  |nil=>rfl
  |cons a l=>
   cases j with
   |zero=>rfl
   |succ j=>dsimp only[NK,NL,NM];exact O (ih (by lia)) rfl
theorem aA7{α:Type}{l:List α}(h:l.length=2):∃a b,l=[a,b]:= by
 cases l with
 |nil=>cases h
 |cons a l=>cases l with
  |nil=>cases h
  |cons b l=>cases l with
   |nil=>exact(Ů a b rfl)
   |cons=>cases h
theorem aD9{α:Type}{l:List α}(h:l.length=3):∃a b c,l=[a,b,c]:= by
 cases l with
 |nil=>cases h
 |cons a l=>apply MN (aA7 (nw h));intro b c;exact(fP a b c rfl)
theorem j3 (h:lI (i::l)=Wu) (hj:j∈l):j≠i:=λe=>by
 have:=mE (aA h).1;rw[mo.mpr (e▸hj)] at this;exact nf this.symm
theorem B2 (hn:lI ts=Wu) (hl:ts.length=2\/ts.length=3) (h:eP ts l pe=J pe'):eP ts.reverse l.reverse pe=J pe':= by
 have Lb:=jZ h;rcases hl with h2|h3
 ·rw[h2] at Lb;refine Ľ (aA7 Lb) λp q bc=>?_;subst bc;refine Ľ (aA7 h2) λi j bc=>?_;subst bc;cases sm h;exact congrArg J (sV (j3 hn ag))
 ·rw[h3] at Lb;refine iX (aD9 Lb) λp q r bc=>?_;subst bc;refine iX (aD9 h3) λi j k bc=>?_;subst bc;cases sm h;have h1:=j3 hn (ag (a:=j));have h2:=j3 hn (ah j (ag (a:=k)));have h3:=j3 (aA hn).2 (ag (a:=k));show J (st (st (st pe k r) j q) i p)=J (st (st (st pe i p) j q) k r);exact O (sV h3) (O (sV h2) (O (sV (i:=j) (j:=i) h1) rfl))
theorem B3:∀{es:List az}{names:List Str},mD cx asg es ts=Wu->es.map u7=names.map J->names.length=ts.length/\∀(k:Nat) (n:Str) (i:Nat),names[k]?=J n->ts[k]?=J i->Č cx asg Á (bindName Á n) i:= by
 induction ts with
 |nil=>
  intro es names hc h;cases cP hc;cases names with
  |nil=>exact⟨rfl,λk n i h=>nn h⟩
  |cons=>cases h
 |cons t ts ih=>
  intro es names hc h;obtain⟨e,es,rfl,hn,hc⟩:=uR hc;cases names with
  |nil=>cases h
  |cons n names=>
   obtain⟨h0,h'⟩:=yi h;obtain⟨h1,h2⟩:=ih hc h';refine⟨congrArg xd h1,λk m i hm hi=>?_⟩;cases k with
   |zero=>
    cases sm hm;cases sm hi;obtain⟨x,pos,rfl,q1,q2,q3,q4⟩:=uQ hn;have e:x=n:=sm h0;subst e;intro A' s' Na' No' pe' E' v' p' Q' X' r' Up;exact xW (act:=bindName Á x) q1 q2 q3 q4 (λh=>wpAny_bindName h) X' r' Up
   |succ k=>exact h2 k m i hm hi
theorem n9:swapsWithSole [.Tuple es k tp] v l Á=dm Wv:= by
 delta swapsWithSole
 cases v<;>rfl
theorem B4 (h:pC cx asg (.Tuple es k tp) ts=Wu) (h2:2<=ts.length):mD cx asg es ts=Wu/\lI ts=Wu:= by
 rcases uS h with⟨i,rfl,_⟩|⟨ž,k',p',e,h1,_,h3⟩
 ·exact absurd (qq h2) (xh 0)
 ·cases e;exact⟨h1,h3⟩
theorem P0{names:List Str}{ts:List Nat}(Nm:names.length=ts.length) (h:∀(k:Nat) (n:Str) (i:Nat),names[k]?=J n->ts[k]?=J i->Č cx asg Á (bindName Á n) i) (m:Nat) (a:aj->Sem Unit) (i:Nat) (ha:(names.reverse.map (bindName Á))[m]?=J a) (hi:ts.reverse[m]?=J i):Č cx asg Á a i:= by
 rw[ej] at ha;apply sH (ce.mp ha);intro n hn;have Rn:m<ts.length:= by
  have:=(dw.mp hi).1
  rwa [ni] at this
 rw[wl (by exact O Nm Rn),Nm] at hn;rw[wl Rn] at hi;exact @h _ n i hn hi
theorem JV (hE:∀p,È F B p) (ts:List Nat) (e:PE):ë F B (.asgT ts e):= by
 intro A cx asg Á s Na No pe pe' fl Ip Q E htop R X hc hd hQ;refine fW (PD hc) λes k tp v zt=>?_;apply YR zt;intro pos h1 h2 zt;refine xa zt λh3 h4=>?_;clear zt;obtain⟨p,d1,hb,rfl⟩:=PH hd;have Fp:=B4 h1 h2;rcases wV (Á:=Á) (es:=es) (k:=k) (p:=tp) h4 with hw|⟨names,hw,Mr,hlen⟩
 ·refine Cm (hE e R X h3 d1 λu aT bY DO=>?_) n9 hw;exact uZ R.hh (X.pure bY) Fp.1 h2 (DO.f rfl) hb λÂ Hl Fi=>hQ _ _ No ((bY.toExt λb q=>.inl q).trans Hl) Fi .next
 ·refine Å (uY hb h2) λl hp Iv=>?_;refine xa (B3 (Á:=Á) Fp.1 Mr) λNm Om=>?_;have Uq:es.length=ts.length:=(oL (Á:=Á) Fp.1).2.2.1;refine yv (hE e R X h3 d1 λu aT bY DO=>pF R.hh (X.pure bY) (DO.f rfl) hp (by exact O (jZ Iv) (O Nm rfl)) λvs Â iF Kb Fi=>?_) n9 hw;exact zL (is:=ts.reverse) (ps:=l.reverse) (by exact O (ao ..) (O ni (O ni (O Nm rfl)))) (P0 Nm Om) Fi Kb.reverse (B2 Fp.2 (by exact aFZ Uq hlen) Iv) λdO Km Fw=>hQ _ _ No ((Pure.toExt (bY.trans iF) λb q=>.inl q).trans Km) Fw .next
end
structure Î where
 pars:List Str
 n:Nat
 vars:List (Str×Nat)
 own:List Nat
 tk:List Nat
 code:ù
def Î.cx (f:Î) (sc:jx):Cx:=⟨f.vars,sc.names,f.own,f.tk,Wu⟩
noncomputable def cJ (sc:jx):List Str:=(sc.names.filter λnk=>nk.2==.local||nk.2==.cell).map (·.1)
def vB (f:Î) (sc:jx):Nat->List Str->Bool
 |_,[]=>Wu
 |k,x::l=>f.vars.lookup x==J k&&!f.own.contains k&&!f.tk.contains k&&(sc.names.lookup x==J .local||sc.names.lookup x==J .cell)&&vB f sc (k+1) l
theorem P1:vB f sc k (x::l)=(f.vars.lookup x==J k&&!f.own.contains k&&!f.tk.contains k&&(sc.names.lookup x==J .local||sc.names.lookup x==J .cell)&&vB f sc (k+1) l):=rfl
def V3 (f:Î) (body:List jg) (sc:jx):Bool:=
 sc.kind==.function&&!sc.isGenerator&&!sc.isCoroutine&&cR (sc.names.map (·.1))&&cR (f.vars.map (·.1))&&lI (f.vars.map (·.2))&&sc.names.all (λnk=>nk.2==.local||nk.2==.cell||nk.2==.globalImplicit)&&
 cR f.pars&&vB f sc 0 f.pars&&gE (f.cx sc) (cJ sc) body f.code
noncomputable def mY (args:List PV) (n:Nat):Ã:=args.map J++ab (n-args.length) Ww
def dP (F:Fn) (f:Î) (args:List PV):Option PV:=
 if args.length=f.pars.length then match aD F f.code (mY args f.n) with
  |some (_,.ret v)=>J v
  |_=>Ww
 else Ww
theorem V4 (h:lk (mY args n) i=J p):args[i]?=J p:= by
 unfold mY at h;have none_lk:∀(m i:Nat),lk (ab m Ww) i=Ww:= by
  intro m
  induction m with
  |zero=>intro i;rfl
  |succ m ih=>
   intro i;cases i with
   |zero=>rfl
   |succ i=>simpa [cj,wO,wP,wQ] using ih i
 generalize n-args.length=m at h
 induction args generalizing i with
 |nil=>simp only[jy,pn] at h;rw[none_lk] at h;cases h
 |cons a l ih=>
  cases i with
  |zero=>simp only[aw,gq,wO,wP,wQ] at h;simpa using h
  |succ i=>simp only[aw,gq,wO,wP,wQ] at h;simpa using ih h
theorem qZ{l:List Str}:∀{k j:Nat}{x:Str},vB f sc k l=Wu->l[j]?=J x->
  f.vars.lookup x=J (k+j)/\f.own.contains (k+j)=Wv/\f.tk.contains (k+j)=Wv/\(sc.names.lookup x=J .local\/sc.names.lookup x=J .cell):= by
 induction l with
 |nil=>exact λ_ h=>nn h
 |cons y l ih=>
  intro k j x hp h;simp only[P1,bt,en,mr] at hp;cases j with
  |zero=>
   cases h;exact(fH (aq hp.1.1.1.1) hp.1.1.1.2 hp.1.1.2 (hp.1.2.imp (λq=>aq q) (λq=>aq q)))
  |succ j=>
   have:=ih (j:=j) hp.2 h;rw[show k+1+j=k+(j+1) from Nat.succ_add_eq_add_succ k j] at this;exact this
theorem lJ{l:List (Str×Nat)}{x y:Str}{i:Nat}(hn:lI (l.map (·.2))=Wu) (h1:l.lookup x=J i) (h2:l.lookup y=J i):x=y:= by
 induction l with
 |nil=>exact nn h1
 |cons a l ih=>
  obtain⟨z,j⟩:=a;obtain⟨n1,n2⟩:=aA (show(!(l.map (·.2)).contains j&&lI (l.map (·.2)))=Wu from hn);have no:∀{w:Str},l.lookup w=J j->False:=λh=>by
   rw[mo.mpr (ne (f:=(·.2)) (bC h))] at n1;exact nf n1
  rw[dk] at h1 h2;cases e1:x==z with
  |true=>
   rw[e1] at h1;cases h1;cases e2:y==z with
   |true=>exact(aq e1).trans (aq e2).symm
   |false=>rw[e2] at h2;exact(no h2).elim
  |false=>
   rw[e1] at h1;cases e2:y==z with
   |true=>rw[e2] at h2;cases h2;exact(no h1).elim
   |false=>rw[e2] at h2;exact ih n2 h1 h2
theorem B5{bs:List (Str×aj)}{m:Str->Option aj}(h:x∉bs.map (·.1)):bindL ko bs m x=m x:= by
 induction bs generalizing m with
 |nil=>rfl
 |cons a r ih=>
  obtain⟨n,v⟩:=a;have h:x≠n/\x∉r.map (·.1):=⟨λe=>h (e▸ag),λq=>h (ah _ q)⟩;unfold bindL;refine O (ih h.2) ?_;split
  ·exact if_neg h.1
  ·rfl
theorem B6{bs:List (Str×aj)}{m:Str->Option aj}(h:x∉bs.map (·.1)):bindC ko bs m x=m x:= by
 induction bs generalizing m with
 |nil=>rfl
 |cons a r ih=>
  obtain⟨n,v⟩:=a;have h:x≠n/\x∉r.map (·.1):=⟨λe=>h (e▸ag),λq=>h (ah _ q)⟩;unfold bindC;refine O (ih h.2) ?_;split
  ·rfl
  ·exact if_neg h.1
theorem G6{pars:List Str}:∀{vs:List aj}{m m':Str->Option aj}{j:Nat}{x:Str}{v:aj},cR pars=Wu->pars[j]?=J x->vs[j]?=J v->
  (ko x=J .local->bindL ko (pars.zip vs) m x=J v)/\(ko x≠J .local->bindC ko (pars.zip vs) m' x=J v):= by
 induction pars with
 |nil=>exact λ_ h _=>nn h
 |cons y pars ih=>
  intro vs m m' j x v hn h1 h2;cases vs with
  |nil=>exact nn h2
  |cons u vs=>
   simp only[kN,bt,en,jf,decide_eq_false_iff_not] at hn;cases j with
   |zero=>
    cases h1;cases h2;have hx:y∉(pars.zip vs).map (·.1):=λq=>by
     obtain⟨⟨a,b⟩,hm,e⟩:=ja.mp q;cases e;exact hn.1 (Bg hm).1
    refine⟨λhk=>?_,λhk=>?_⟩
    ·dsimp only[pz,bindL]
     (refine O (B5 hx) ?_;rw[if_pos hk])
     simp
    ·dsimp only[pz,bindC]
     (refine O (B6 hx) ?_;rw[if_neg hk])
     simp
   |succ j=>exact ih hn.2 h1 h2
section
variable{M:Ew}{A:dj}{R:GenEnd}{Y:Ea}{n:Nat}{AT:ak}{c:En}{fs:List Bz}{s:ak}{Á:Env}
 {K:Bw->Sem Fin}{H:aj->Sem Fin}{gd:Bool->Bool}{lv:List aj->List aj}
theorem kP{α β:Type}{m:Sem α}{f:α->Sem β}{K:β->Sem Fin}
  (h:wpAny M (A.over c fs) m (λa s'=>Seg M A R Y n AT c ((f a).wrap K H gd lv) fs s') (λx s'=>Seg M A R Y n AT c (H x) fs s') s):
  Seg M A R Y n AT c ((m >>= f).wrap K H gd lv) fs s:= by
 exact O (qr ..) (O (qy ..) (seg_wrap h))
theorem P2{st:jg}(h:wpAny M (A.over c fs) (exec st Á) (λf s'=>Seg M A R Y n AT c (K f) fs s') (λx s'=>Seg M A R Y n AT c (H x) fs s') s):
  Seg M A R Y n AT c ((exec st Á).wrap K H gd lv) fs s:=seg_wrap h
theorem EQ
  (h:wpAny M (A.over c fs) (isTrue test Á (eval test Á)) (λb s'=>Seg M A R Y n AT c ((if b=Wu then execs body Á else execs orelse Á).wrap K H gd lv) fs s') (λx s'=>Seg M A R Y n AT c (H x) fs s') s):
  Seg M A R Y n AT c ((exec (.If test body orelse pos) Á).wrap K H gd lv) fs s:= by
 refine O (exec_If ..) (kP (ji ?_));exact kP h
end
section
variable{A:dj}{R:GenEnd}{Y:Ea}{n:Nat}{AT:ak}{fs:List Bz}{s:ak}{Á:Env}
theorem sA
  (h:∀E,wpAny (model Pg W0) (A.over (.forLoop target it body [] Á) fs) (pyNext it) (λr aT=>match r with
   |none=>Seg (model Pg W0) A R Y n AT (.forLoop target it body [] Á) (.pure (.again (.block [] Á))) fs aT
   |some v=>wpAny (model Pg W0) (A.over (.forLoop target it body [] Á) fs) (letOwnedTupleGo target it v) (λ_ Gy=>wpAny (model Pg W0) (A.over (.forLoop target it body [] Á) fs) (assign target Á v) (λ_ Â=>
     Seg (model Pg W0) A R Y n AT (.forLoop target it body [] Á) ((execs body Á).wrap (λf=>match f with
      |.next|.cont=>.pure (.again (.forLoop target it body [] Á))
      |.brk=>.pure (.done .next)
      |.ret v=>.pure (.done (.ret v))) (λe=>(do noteFrame e Á;theTreesLotGoes e:Sem Unit).wrap (λ_=>.raise e) .raise id id) id id) fs Â) E Gy) E aT) E s):
  Seg (model Pg W0) A R Y n AT (.forLoop target it body [] Á) ((model Pg W0).den (.forLoop target it body [] Á)) fs s:= by
 show Seg _ A R Y n AT _ ((forTurn target it body [] Á).onRaise (λx=>do noteFrame x Á;theTreesLotGoes x)) fs s;unfold forTurn;refine O (yd ..) (kP (ji (kP (wpAny_onRaise (lj (h _) (λr aT Fj=>?_) λx s' hx=>ji hx)))));cases r with
 |none=>exact Fj
 |some v=>
  refine kP (lj Fj (λ_ Gy Kk=>?_) λx s' hx=>hx);refine kP (lj Kk (λ_ Â Hu=>?_) λx s' hx=>hx);refine O (qr ..) (O (qy ..) ?_);refine O (Ca (execs body Á) _ _ (K':=λf=>match f with
      |.next|.cont=>.pure (.again (.forLoop target it body [] Á))
      |.brk=>.pure (.done .next)
      |.ret v=>.pure (.done (.ret v))) (H':=(λe=>(do noteFrame e Á;theTreesLotGoes e:Sem Unit).wrap (λ_=>.raise e) .raise id id))
    (λf=>by cases f<;>rfl)
    (λe=>by first|exact vd _ _|(show(do noteFrame e Á;theTreesLotGoes e:Sem Unit).bind (λ_=>.raise e)=_;rw[vd]))) ?_
  exact Hu
theorem B7{code c:En}{K:ym->Sem Fin}{hd:Option aj}{g:Bool}{l:List aj}{p:Pos}(h:Seg (model Pg W0) A R Y n AT c (K (.ok .next)) fs s):
  Seg (model Pg W0) A R Y n AT code (.pure (.again (.block [] Á))) (.ret K hd g l c p []::fs) s:= by
 refine seg_again rfl ?_;exact seg_leaf (.ok .next) h
end
section
variable{A:dj}{E:Vs}{s:ak}
end
theorem V5 (R:Ê A (k+2)):Ê (A.in1.over (.func body Á) []) k:= by
 refine⟨R.hh,?_,?_⟩
 ·have:=R.depth;show A.in1.depth+frameCount []+ua (.func body Á)+k<900;have e:ua (.func body Á)=1:=rfl
  dsimp only[um,frameCount,jy,Da]
  exact ā (.y (.A (.A (.A .q .n0) .r) .s) (.N 900)) [.y (.A .q (.A .s .n2)) (.N 900),.z1 .r .n1] this e
 ·have:=R.units;show A.in1.units+unitsOf []+uc (.func body Á)+8*k<9000;have e:uc (.func body Á)=3:=rfl
  dsimp only[un,unitsOf_nil]
  exact ā (.y (.A (.A (.A .kl .n0) .r) (.M .n8 .s)) (.N 9000)) [.y (.A .q (.M .n8 (.A .s .n2))) (.N 9000),.z1 .r .n3] this e
theorem V6{A:dj}{k:Nat}{body b o:List jg}{Á Œ:Env}{t:az}{it:aj}{K:ym->Sem Fin}{g:Bool}{l:List aj}{p:Pos}(R:Ê A (k+2)):
  Ê (A.in1.over (.forLoop t it b o Œ) [.ret K Ww g l (.func body Á) p []]) k:= by
 refine⟨R.hh,?_,?_⟩
 ·have:=R.depth;show A.in1.depth+frameCount [(.func body Á,p)]+ua (.forLoop t it b o Œ)+k<900;have e:ua (.func body Á)=1:=rfl;have e2:ua (.forLoop t it b o Œ)=0:=rfl
  dsimp only[um,frameCount,aw,jy,di,Da]
  exact ů (.y (.A (.A (.A .q (.A .r .n0)) .s) .t) (.N 900)) [.y (.A .q (.A .t .n2)) (.N 900),.z1 .r .n1,.z1 .s .n0] this e e2
 ·have:=R.units;show A.in1.units+unitsOf [(.func body Á,p)]+uc (.forLoop t it b o Œ)+8*k<9000;have e:uc (.func body Á)=3:=rfl;have e2:uc (.forLoop t it b o Œ)=0:=rfl
  dsimp only[un,unitsOf_cons,unitsOf_nil]
  exact ů (.y (.A (.A (.A .kl (.A .r .n0)) .s) (.M .n8 .t)) (.N 9000)) [.y (.A .q (.M .n8 (.A .t .n2))) (.N 9000),.z1 .r .n3,.z1 .s .n0] this e e2
structure Later (Ng:Ap) (s s':ak):Prop where
 own:∀b o,Ng b->s.heap.get? b=J o->s'.heap.get? b=J o
 keep:∀b o,H0.get? b=J o->s'.heap.get? b=J o
 grow:s.heap.objs.size<=s'.heap.objs.size
 toks:0<s'.toks
 bare:pg s'.gens
section
variable{F:Fn}{B:Nat}
variable{A:dj}{cx:Cx}{asg:List Str}{Á:Env}{s s':ak}{Na No Ng:Ap}{pe:Ã}{E:Vs}
theorem Ä.again (X:Ä cx asg Á s Na No pe) (Ja:∀i p,lk pe i=J p->p.scalar=Wu) (hown:cx.own=[]) (htk:cx.tk=[]) (Gb:∀x,Á.kindOf x≠J .cell/\Á.kindOf x≠J .free)
  (hL:Later Ng s s') (Rp:Ng Á.locals) (hN:∀b,Na' b\/No' b->H0.objs.size<=b/\b<s'.heap.objs.size) (Ur:No' Á.locals) (Us:∀b,No' b->¬Na' b):Ä cx asg Á s' Na' No' pe:= by
 have Fp:∀m,s.heap.Ns Á.locals m->s'.heap.Ns Á.locals m:=λm h=>let ⟨o,es,ep,x,q⟩:=h;⟨o,es,ep,hL.own _ _ Rp x,q⟩;have hB:∀y v,Ë Á s.heap y v->Ë Á s'.heap y v:=λy v h=>by
  cases h with
  |loc m a b c=>exact .loc m a (Fp m b) c
  |cell c a=>rcases a with a|a<;>exact absurd a (by first|exact(Gb y).1|exact(Gb y).2)
 exact{
  base:={keep:=hL.keep,above:=λb q=>(hN b q).1,size:=aa X.base.size hL.grow,low:=λb q=>(hN b q).2,toks:=hL.toks,bare:=hL.bare}
  kind:=X.kind
  glb:=X.glb
  blt:=X.blt
  gl:=X.gl
  cl:=λy hy=>by
   refine xa (X.cl y hy) λh1 _=>?_;rcases h1 with h1|h1
   ·exact absurd h1 (Gb y).1
   ·exact absurd h1 (Gb y).2
  ns:=let ⟨m,hm⟩:=X.ns;⟨m,Fp m hm⟩
  noL:=Ur
  apart:=X.apart
  cellsLow:=λy c h=>af (X.cellsLow y c h) hL.grow
  vars:=λy i p h1 h2=>by
   refine Å (X.vars y i p h1 h2) λv hb hs=>?_;refine⟨v,hB y v hb,?_,λh=>by rw[htk] at h;cases h⟩;have h3:=hs.1;rw[hown] at h3⊢
   dsimp only[zm,bw,if_false] at h3⊢
   exact h3.of_scalar (Ja i p h2)
  stores:=λy hy=>by
   cases X.stores y hy with
   |loc h=>exact .loc h
   |cell c Gz h1=>exact absurd h1 (Gb y).1
  inj:=X.inj
  alone:=λy z i j a h1 h2 h3 h4 h5=>by rw[hown] at h5;cases h5
  disj:=Us
  turns:=λy i a h1 h2=>by rw[hown] at h2;cases h2}
noncomputable def P3:List (Str×Nat):=[("addr",0),("pos",1),("escape",2),("ch",3)]
def è (sc:jx):Cx:=⟨P3,sc.names,[],[],Wu⟩
noncomputable def bsl:PE:=.cst (.str ⟨#[92]⟩)
def υ:Ĕ:=.cons (.var 1) (.cons (.bin .Add bsl (.var 3)) .nil)
noncomputable def gE2:Ĕ:=.cons (.var 1) (.cons (.var 3) .nil)
def Ξ:Ĕ:=.cons (.var 1) (.cons bsl .nil)
def wW (cx:Cx) (e:az) (ps:Ĕ):Bool:=(I1 e).any λxs=>dS cx Wv xs ps&&decide (xs.length<=100)
theorem P4 (h:wW cx e ps=Wu):∃xs n k,e=.Tuple xs n k/\dS cx Wv xs ps=Wu/\xs.length<=100:= by
 refine Å (aC h) λx h1 h2=>?_;apply MN (t8 h1);intro n k;exact(y7 x n k rfl ((aA h2).1) (of_decide_eq_true (aA h2).2))
noncomputable def vYl (e:az):Option (Option az):=if h:e.ctorIdx=13 then wg (motive_1:=λ_=>Option (Option az)) e h (λv _=>J v) else Ww
theorem V7 (h:vYl e=J x):∃p,e=.Yield x p:= by
 obtain⟨c,h⟩:=bG h;exact wg (motive_1:=λe=>∀c,wg (motive_1:=λ_=>Option (Option az)) e c (λv _=>J v)=J x->∃p,e=.Yield x p) e c (λ_ _ c h=>by cases sm h;exact⟨_,rfl⟩) c h
def zN (s:jg):Option az:=(vEx s).bind λe=>(vYl e).bind id
theorem oM{s:jg}{y:az}(h:zN s=J y):∃yp ep,s=.Expr (.Yield (J y) yp) ep:= by
 refine Å (co.mp h) λe h1 h=>?_;refine Å (co.mp h) λv h2 h=>?_;apply Ü (G5 h1);intro ep;apply Ü (V7 h2);intro yp;cases (show v=J y from h);exact(Ů yp ep rfl)
def G7 (sc:jx) (st:jg):Bool:=(O8 st).any λx=>(lz2 x.2.1).any λb=>(zN b.1).any λy1=>(ħ x.2.2).any λo=>(O8 o).any λz=>(ħ z.2.1).any λs4=>(ħ z.2.2).any λyo=>(zN yo).any λy2=>
 aG (è sc) Wu x.1 (.var 2)&&(wW (è sc) y1 υ&&(jB (è sc) (cJ sc) b.2 (.asg 2 (.cst (.bool Wv)))&&(aG (è sc) Wu z.1 (.cmp .Eq (.var 3) bsl)&&(jB (è sc) (cJ sc) s4 (.asg 2 (.cst (.bool Wu)))&&wW (è sc) y2 gE2))))
def G8 (sc:jx) (st:jg):Bool:=(O8 st).any λx=>(ħ x.2.1).any λb=>(zN b).any λy3=>x.2.2.isEmpty&&(aG (è sc) Wu x.1 (.var 2)&&wW (è sc) y3 Ξ)
def G9 (sc:jx):Bool:=sc.kind==.function&&(sc.isGenerator&&(!sc.isCoroutine&&(cR (sc.names.map (·.1))&&(sc.names.all (λnk=>nk.2==.local||nk.2==.globalImplicit)&&sc.names.lookup ("addr":Str)==J .local))))
def zO (body:List jg) (sc:jx):Bool:=G9 sc&&match body with
 |[]=>Wv
 |s1::l=>match l with
  |[]=>Wv
  |s2::l=>(lz2 l).any λq=>(VK q.1).any λf=>(kM f.2.1).any λc=>(ħ c.2.1).any λa=>(ħ f.2.2.1).any λlp=>
   O7 f.1&&(f.2.2.2.isEmpty&&(c.2.2.1.isEmpty&&(jB (è sc) (cJ sc) s1 (.asg 1 (.cst (.int 0)))&&(jB (è sc) (cJ sc) s2 (.asg 2 (.cst (.bool Wv)))&&(pC (è sc) (cJ sc) f.1 [1,3]&&
   (fX (è sc) c.1 zG&&(cD a&&(aG (è sc) Wv a (.var 0)&&(G7 sc lp&&G8 sc q.2)))))))))
def Ļ (Ng:Ap) (AT s':ak) (v:aj) (p:PV):Prop:=
 ∃T vs l,v=.ref T/\p=.tup l/\¬Ng T/\AT.heap.objs.size<=T/\Ò s'.heap T (zj vs)/\∀(h:ju) (N:Ap),Í h N vs l
def gY (Ng:Ap) (À:List PV):Ea:=λm AT v s' kap=>
 m<À.length/\(∃p,À[À.length-(m+1)]?=J p/\Ļ Ng AT s' v p)/\Õ AT Ng s' Ng/\∀Gw,Later Ng s' Gw->kap (.send .none) Gw
def gP (Ng:Ap):Nat->ak->ak->Prop:=λn AT s'=>n=0/\Õ AT Ng s' Ng
theorem Í.allScalar (r:Í h N vs l) (hs:∀p∈l,p.scalar=Wu):∀(h':ju) (N':Ap),Í h' N' vs l:= by
 intro h' N'
 induction l generalizing vs with
 |nil=>cases r;exact .nil
 |cons p l ih=>cases r with|cons a b=>exact .cons (a.of_scalar (hs p (by simp))) (ih b λq hq=>hs q (by simp[hq]))
theorem oN (hB:3<=B) (GK:ă) (FK:î F B){c:En}{fs:List Bz}{K:Bw->Sem Fin}{H:aj->Sem Fin}{gd:Bool->Bool}{lv:List aj->List aj}{n:Nat}{AT:ak}{y:az}{yp ep:Pos}{ps:Ĕ}{l:List PV}{À:List PV}{R:GenEnd}
  (On:splitAtGen fs=Ww) (Ut:gd Wv=Wv) (Rq:fs.any Bz.guarded=Wv) (Rm:Ê (A.over c fs) (Ų ps+B)) (X:Ä cx asg Á s Na No pe) (hc:wW cx y ps=Wu) (hd:cC F ps pe=J l) (Ja:∀p∈l,p.scalar=Wu)
  (hn:n<À.length) (č:À[À.length-(n+1)]?=J (.tup l)) (Gn:Õ AT Ng s Ng) (Rp:∀b,Ng b->b<s.heap.objs.size) (La:Á.scope.isCoroutine=Wv)
  (hK:∀s' Gw,Pure s s'->Later Ng s' Gw->Seg (model Pg W0) A R (gY Ng À) n Gw c (K .next) fs Gw):
  Seg (model Pg W0) A R (gY Ng À) (n+1) AT c ((exec (.Expr (.Yield (J y) yp) ep) Á).wrap K H gd lv) fs s:= by
 apply lB (P4 hc);intro xs n' k' h1 h2;refine seg_Expr_Yield On Ut Rq (wpAny_Tuple (dT (BW hB GK FK ps) Rm X h1 hd λvs aT bY Iy Im Hp hl=>⟨oF h2 hl,?_⟩)) La (xV X);intro kap Rr;have iF:Pure s {aT with heap:=aT.heap.push {cls:=.type "tuple",data:=.seq vs.toArray}}:=bY.trans (Pure.push aT _ (ai _));refine(fH hn (Ö _ č (fI aT.heap.objs.size vs l rfl rfl (λq=>absurd (Rp _ q) (bp.mpr bY.step.grow)) (aa Gn.step.grow bY.step.grow) ⟨⟨0,cr _ rfl⟩,((Hp rfl).allScalar Ja)⟩)) (Gn.trans (iF.toExt λb q=>.inl q)) (λGw hL=>Rr _ _ ?_));exact hK _ _ iF hL
theorem JW (hh:A.handled=Ww) (X:Ä cx asg Á s Na No pe) (hc:mD cx asg es ts=Wu)
  (hT:s.heap.IsTuple T vs.toArray) (hl:∀(h:ju) (N:Ap),Í h N vs l) (hb:eP ts l pe=J pe') (hQ:∀s',Õ s No s' No->Ä cx asg Á s' Na No pe'->Q () s'):wpAny (model Pg W0) A (assign (.Tuple es k tp) Á (.ref T)) Q E s:= by
 refine bS (oL (Á:=Á) hc) λh1 Jb h3 h4=>?_;refine O (to ..) (bh (ji ?_))
 delta unpack
 refine O h1 (O Jb ?_);have e:ts.length=vs.toArray.size:=by refine aFZ (jZ hb) (aFZ ((hl s.heap Ε).length) ?_);rfl
 refine O e (bh (wpAny_holding (bD (wpAny_unpackItems_tuple hh hT λh' he hm=>?_))));have P:Pure s {s with heap:=h'}:=Pure.mk' (t:=s.toks) (λb o e=>he b o (fx (dc e)) e) hm;exact zL (by simp[h1]) h4 (X.pure P) (hl _ _) hb λs' e' X'=>hQ _ ((P.toExt λb q=>.inl q).trans e') X'
noncomputable def ĝ (x:Str) (Ge:Int) (esc:Bool) (ch:Option PV):Ã:=[J (.str x),J (.int Ge),J (.bool esc),ch]
theorem lK (Gm:∀p,ch=J p->p.scalar=Wu):∀i p,lk (ĝ x Ge esc ch) i=J p->p.scalar=Wu:= by
 intro i p h
 delta ĝ at h
 match i with
 |0=>simp only[wO,wP,wQ,jm] at h;subst h;rfl
 |1=>simp only[wO,wP,wQ,jm] at h;subst h;rfl
 |2=>simp only[wO,wP,wQ,jm] at h;subst h;rfl
 |3=>simp only[wO,wP,wQ] at h;exact Gm p h
 |n+4=>trivial
structure Ĉ (sc:jx) where
 es:List az
 ek:Nat
 ep:Pos
 t1:az
 y1:az
 yp1:Pos
 ep1:Pos
 s3:jg
 t2:az
 s4:jg
 y2:az
 yp2:Pos
 ep2:Pos
 ip1:Pos
 ip2:Pos
 hes:mD (è sc) (cJ sc) es [1,3]=Wu
 h1:aG (è sc) Wu t1 (.var 2)=Wu
 h2:wW (è sc) y1 υ=Wu
 h3:jB (è sc) (cJ sc) s3 (.asg 2 (.cst (.bool Wv)))=Wu
 h4:aG (è sc) Wu t2 (.cmp .Eq (.var 3) bsl)=Wu
 h5:jB (è sc) (cJ sc) s4 (.asg 2 (.cst (.bool Wu)))=Wu
 h6:wW (è sc) y2 gE2=Wu
def Ĉ.tgt{sc:jx}(p:Ĉ sc):az:=.Tuple p.es p.ek p.ep
def Ĉ.body{sc:jx}(p:Ĉ sc):List jg:=
 [.If p.t1 [.Expr (.Yield (J p.y1) p.yp1) p.ep1,p.s3] [.If p.t2 [p.s4] [.Expr (.Yield (J p.y2) p.yp2) p.ep2] p.ip2] p.ip1]
theorem B8{sc:jx}{st:jg}(es:List az) (ek:Nat) (ep:Pos) (hes:mD (è sc) (cJ sc) es [1,3]=Wu) (h:G7 sc st=Wu):∃p:Ĉ sc,p.tgt=.Tuple es ek ep/\p.body=[st]:= by
 refine wM λG hG=>?_
 replace h:=aC h
 refine Å h λx h1 h=>?_
 replace h:=aC h
 refine Å h λb h2 h=>?_
 replace h:=aC h
 refine Å h λy1 h3 h=>?_
 replace h:=aC h
 refine Å h λo h4 h=>?_
 replace h:=aC h
 refine Å h λz h5 h=>?_
 replace h:=aC h
 refine Å h λs4 h6 h=>?_
 replace h:=aC h
 refine Å h λyo h7 h=>?_
 replace h:=aC h
 refine Å h λy2 h8 h=>?_;refine xe (pB h1) λip1 e1=>?_;refine Ľ (oM h3) λyp1 ep1 e3=>?_;refine xe (pB h5) λip2 e5=>?_;refine Ľ (oM h8) λyp2 ep2 e8=>?_;have e2:=lE h2;have e4:=cU h4;have e6:=cU h6;have e7:=cU h7;have q1:=aA h;have q2:=aA q1.2;have q3:=aA q2.2;have q4:=aA q3.2;have q5:=aA q4.2;refine hG (Ö ⟨es,ek,ep,x.1,y1,yp1,ep1,b.2,z.1,s4,y2,yp2,ep2,ip1,ip2,hes,q1.1,q2.1,q3.1,q4.1,q5.1,q5.2⟩ rfl ?_);refine O e1 (O e2 (O e4 (O e5 (O e6 (O e7 (O e3 (O e8 ?_)))))));rfl
theorem B9{sc:jx}{st:jg}(h:G8 sc st=Wu):∃t3 y3 yp3 ep3 ip3,st=.If t3 [.Expr (.Yield (J y3) yp3) ep3] [] ip3/\aG (è sc) Wu t3 (.var 2)=Wu/\wW (è sc) y3 Ξ=Wu:= by
 refine Å (aC h) λx h1 h2=>?_;refine Å (aC h2) λb h3 h4=>?_;refine Å (aC h4) λy h5 h6=>?_;refine xe (pB h1) λip3 e1=>?_;refine Ľ (oM h5) λyp3 ep3 e5=>?_;rw[cU h3,e5,cP (aA h6).1] at e1;exact(fP _ y yp3 (lD ep3 ip3 e1 (aA (aA h6).2)))
structure Ě (sc:jx):Prop where
 c1:sc.kind=.function
 c2:sc.isGenerator=Wu
 c3:sc.isCoroutine=Wv
 c4:cR (sc.names.map (·.1))=Wu
 c5:sc.names.all (λnk=>nk.2==.local||nk.2==.globalImplicit)=Wu
 c6:sc.names.lookup ("addr":Str)=J .local
theorem CA (h:G9 sc=Wu):Ě sc:= by
 have q1:=aA h;have q2:=aA q1.2;have q3:=aA q2.2;have q4:=aA q3.2;have q5:=aA q4.2;exact⟨aq q1.1,q2.1,mE q3.1,q4.1,q5.1,aq q5.2⟩
structure ź (sc:jx) (body:List jg) where
 s1:jg
 s2:jg
 g:az
 a:az
 cpos:Pos
 fpos:Pos
 p:Ĉ sc
 t3:az
 y3:az
 yp3:Pos
 ep3:Pos
 ip3:Pos
 eq:body=[s1,s2,.For p.tgt (.Call g [a] [] cpos) p.body [] fpos,.If t3 [.Expr (.Yield (J y3) yp3) ep3] [] ip3]
 k1:jB (è sc) (cJ sc) s1 (.asg 1 (.cst (.int 0)))=Wu
 k2:jB (è sc) (cJ sc) s2 (.asg 2 (.cst (.bool Wv)))=Wu
 k4:fX (è sc) g zG=Wu
 k5:cD a=Wu
 k6:aG (è sc) Wv a (.var 0)=Wu
 k13:aG (è sc) Wu t3 (.var 2)=Wu
 k14:wW (è sc) y3 Ξ=Wu
theorem vC (h:zO body sc=Wu):Ě sc/\Nonempty (ź sc body):= by
 refine⟨CA (aA h).1,?_⟩;refine wM λG hG=>?_
 replace h:=(aA h).2
 cases body with
 |nil=>exact nf h
 |cons s1 l=>cases l with
  |nil=>exact nf h
  |cons s2 l=>
   replace h:=aC h
   refine Å h λq h1 h=>?_
   replace h:=aC h
   refine Å h λf h2 h=>?_
   replace h:=aC h
   refine Å h λc h3 h=>?_
   replace h:=aC h
   refine Å h λa h4 h=>?_
   replace h:=aC h
   refine Å h λlp h5 h=>?_;have q1:=aA h;have q2:=aA q1.2;have q3:=aA q2.2;have q4:=aA q3.2;have q5:=aA q4.2;have q6:=aA q5.2;have q7:=aA q6.2;have q8:=aA q7.2;have q9:=aA q8.2;have q10:=aA q9.2;rcases uS q6.1 with⟨i,e,_⟩|⟨es,ek,ep,et,hes,_⟩
   ·cases e
   refine Å (B8 es ek ep hes q10.1) λp ep1 ep2=>?_;refine fW (B9 q10.2) λt3 y3 yp3 ep3 zt=>?_;refine mK zt λip3 e3 k13 k14=>?_;clear zt;refine xe (uO h2) λfpos ef=>?_;have e1:=lE h1;rw[et,<-ep1,cX h3,cU h4,cP q3.1,cU h5,<-ep2,cP q2.1] at ef;rw[ef,e3] at e1;exact hG ⟨⟨s1,s2,c.1,a,c.2.2.2,fpos,p,t3,y3,yp3,ep3,ip3,by exact O e1 rfl,q4.1,q5.1,q7.1,q8.1,q9.1,k13,k14⟩⟩
def ü (L:fy):Ap:=λb=>b=L
def Ņ (e i:fy):Ap:=λb=>b=e\/b=i
def ô (L e i:fy):Ap:=λb=>b=L\/b=e\/b=i
theorem zP{À l:List PV}{a:PV}{n:Nat}(h:À.drop (À.length-(n+1))=a::l) (hl:l.length=n):n<À.length/\À[À.length-(n+1)]?=J a/\À.drop (À.length-n)=l:= by
 have hlen:=congrArg db h;simp only[ox,ci] at hlen;have hn:n<À.length:=by exact ā (.y .q .r) [.z1 (.A .s .kl) .r] (cf (ĉ [_,_,_,_] (.x .kl .r) [.z1 .q .s,.z1 (.A .s .n1) .t,.x .t .r] hl.symm hlen.symm (Eo _ _)))
 refine(ß hn ?_ ?_)
 ·have:=congrArg (·[0]?) h
  simpa [ta] using this
 ·have e:À.length-n=À.length-(n+1)+1:=by rw[Nat.sub_add_eq,cf (zn hn)]
  refine O e (aFZ Cb (O h ?_));rfl
theorem Ê.z (R:Ê A (B+8)):Ê A (0+B):=R.le (aa (be (gk _)) (je _ 8))
theorem HA (h1:aB F e pe=J x) (h2:cC F es pe=J l):cC F (.cons e es) pe=J (x::l):=(bs h1).trans (bs h2)
theorem V8 (h1:aB F a pe=J x) (h2:aB F c pe=J y) (h3:iJ op x y=J z):aB F (.bin op a c) pe=J z:=(bs h1).trans ((bs h2).trans h3)
theorem oO{a b:PV}(ha:a.scalar=Wu) (hb:b.scalar=Wu):∀p∈[a,b],p.scalar=Wu:=λp hp=>by
 rcases dL.mp hp with rfl|hp
 ·exact ha
 ·exact O (bx.mp hp) hb
theorem V9 (hl:(⟨#[92]⟩:Str).length+(⟨#[c]⟩:Str).length<=100000):cC F υ (ĝ x k esc (J (.str ⟨#[c]⟩)))=J [.int k,.str ⟨#[92,c]⟩]:= by
 have h:Z2 ⟨#[92]⟩ ⟨#[c]⟩=J (.str ⟨#[92,c]⟩):=if_pos hl;exact HA (F:=F) (pe:=ĝ x k esc (J (.str ⟨#[c]⟩))) (e:=.var 1) (x:=.int k) rfl (HA (V8 (op:=.Add) (a:=bsl) (c:=.var 3) (x:=.str ⟨#[92]⟩) (y:=.str ⟨#[c]⟩) rfl rfl h) rfl)
theorem aFL (c:Nat):tb PV.bool (aAB (.str ⟨#[c]⟩) (.str ⟨#[92]⟩))=J (.bool (decide (c=92))):= by
 have h:((⟨#[c]⟩:Str)==⟨#[92]⟩)=decide (c=92):= by
  by_cases h:c=92
  ·subst h;rfl
  ·exact O (decide_eq_false h) (O (propext beq_eq_false_iff_ne) (λq=>h (by simpa using congrArg Str.cps q)))
 exact congrArg (λb=>J (PV.bool b)) h
set_option maxHeartbeats 1600000 in
def τ{sc:jx}{At:Env}{tg:az}{bd:List jg}{fbody:List jg}{Kfr:ym->Sem Fin}{lfr:List aj}{pfr:Pos}{e it:fy}{x:Str}{tx:Tok}{À:List PV}:Prop:=∀(hB:3<=B) (GK:ă) (FK:î F B) (Ja:At.scope=sc) (La:sc.isCoroutine=Wv) (Gb:∀x,At.kindOf x≠J .cell/\At.kindOf x≠J .free) (p:Ĉ sc) (htg:p.tgt=tg) (hbd:p.body=bd) (Rm:Ê A (B+10)) (Rs:e≠it) (Ms:e≠At.locals) (Mt:it≠At.locals) (hx:x.length<=10000) (Rt:H0.objs.size<=e) (Np:H0.objs.size<=it) (Oo:∀s AT n Ge esc ch,Ä (è sc) (cJ sc) At s (Ņ e it) (ü At.locals) (ĝ x Ge esc ch)->(∀p,ch=J p->p.scalar=Wu)->(0<x.cps.size->Ge=(x.cps.size:Int)-1)->(x.cps.size=0->esc=Wv)->
   À.drop (À.length-n)=gR x.cps.size esc []->n=(gR x.cps.size esc []).length->Õ AT (ô At.locals e it) s (ô At.locals e it)->
   Seg (model Pg W0) A.in1 (λn AT r aT=>r=.ok (.ret .none)/\gP (ô At.locals e it) n AT aT) (gY (ô At.locals e it) À) n AT (.func fbody At) (Kfr (.ok .next)) [] s),∀(rest:List Nat) (k:Nat) (s AT:ak) (n:Nat) (Ge:Int) (esc:Bool) (ch:Option PV),x.cps.toList.drop k=rest->k<=x.cps.size->Ä (è sc) (cJ sc) At s (Ņ e it) (ü At.locals) (ĝ x Ge esc ch)->
   (∀p,ch=J p->p.scalar=Wu)->(0<k->Ge=(k:Int)-1)->(k=0->esc=Wv)->À.drop (À.length-n)=gR k esc rest->n=(gR k esc rest).length->Õ AT (ô At.locals e it) s (ô At.locals e it)->
   ((∃Jq,Ad s.heap e it k Jq)/\s.heap.IsStrIter it "str_ascii_iterator" x tx k)->
   Seg (model Pg W0) A.in1 (λn AT r aT=>r=.ok (.ret .none)/\gP (ô At.locals e it) n AT aT) (gY (ô At.locals e it) À) n AT (.forLoop tg (.ref e) bd [] At) ((model Pg W0).den (.forLoop tg (.ref e) bd [] At)) [.ret Kfr Ww Wv lfr (.func fbody At) pfr []] s
def f5:=@gZ _ ⟨((((((((((((((ac,{}),ac),ac),ac),ac),ac),ac),ac),ac),ac),ac),ac),ac),ac)⟩ (a9 (a9 (a9 (bA (bA (bA @τ))))))
def Θ:=f5.1.1.1.1.1.1.1.1.1.1.1.1.1.2
def kF:=f5.1.1.1.1.1.1.1.1.1.1.1.1.2
def aO:=f5.1.1.1.1.1.1.1.1.1.1.1.2
def wX:=f5.1.1.1.1.1.1.1.1.1.1.2
def zQ:=f5.1.1.1.1.1.1.1.1.1.2
def nK:=f5.1.1.1.1.1.1.1.1.2
def Ģ:=f5.1.1.1.1.1.1.1.2
def xY:=f5.1.1.1.1.1.1.2
def xZ:=f5.1.1.1.1.1.2
def é:=f5.1.1.1.1.2
def cK:=f5.1.1.1.2
def Ę:=f5.1.1.2
theorem JX:@τ f5.1.1.1.1.1.1.1.1.1.1.1.1.1.1.1 f5.1.1.1.1.1.1.1.1.1.1.1.1.1.1.2 Θ kF aO wX zQ nK Ģ xY xZ é cK Ę f5.1.2 f5.2:= by
 intro hB GK FK Ja La Gb p htg hbd Rm Rs Ms Mt hx Rt Np Oo;have Ro:Ê (Θ.in1.over (.forLoop wX (.ref é) zQ [] aO) [.ret Ģ Ww Wv xY (.func nK aO) xZ []]) (f5.1.1.1.1.1.1.1.1.1.1.1.1.1.1.2+8):=V6 Rm;have W:=WalksT.enumerateD (prog:=Pg) (w:=W0) (A:=Θ.in1.over (.forLoop wX (.ref é) zQ [] aO) [.ret Ģ Ww Wv xY (.func nK aO) xZ []]) (Draws.strAscii (prog:=Pg) (w:=W0) (A:=(Θ.in1.over (.forLoop wX (.ref é) zQ [] aO) [.ret Ģ Ww Wv xY (.func nK aO) xZ []]).in1) Ro.hh cK Ę f5.1.2) é Rs (by simpa using Rs) (qf _);have again:∀{s s':ak}{Ge:Int}{esc:Bool}{ch:Option PV},Ä (è kF) (cJ kF) aO s (Ņ é cK) (ü aO.locals) (ĝ Ę Ge esc ch)->(∀p,ch=J p->p.scalar=Wu)->Later (ü aO.locals) s s'->
   Ä (è kF) (cJ kF) aO s' (Ņ é cK) (ü aO.locals) (ĝ Ę Ge esc ch):=λX Gm hl=>X.again (lK Gm) rfl rfl Gb hl rfl
    (λb q=>⟨X.base.above b q,af (X.base.low b q) hl.grow⟩) rfl (λb q1 q2=>q2.elim (λq=>Ms (q.symm.trans q1)) λq=>Mt (q.symm.trans q1))
 have reset:∀{s:ak}{BY:Ap}{Ge:Int}{esc:Bool}{ch:Option PV},Ä (è kF) (cJ kF) aO s (Ņ é cK) BY (ĝ Ę Ge esc ch)->(∀p,ch=J p->p.scalar=Wu)->
   Ä (è kF) (cJ kF) aO s (Ņ é cK) (ü aO.locals) (ĝ Ę Ge esc ch):=λ{s _ _ _ _} X Gm=>X.again (s':=s) (Ng:=ü aO.locals) (lK Gm) rfl rfl Gb ⟨λb o _ h=>h,X.base.keep,ai _,X.base.toks,X.base.bare⟩ rfl
    (λb q=>q.elim (λq=>⟨X.base.above b (.inl q),X.base.low b (.inl q)⟩) λq=>⟨by exact O q (X.base.above _ (.inr X.noL)),by refine O q ?_;exact X.base.low _ (.inr X.noL)⟩) rfl (λb q1 q2=>q2.elim (λq=>Ms (q.symm.trans q1)) λq=>Mt (q.symm.trans q1))
 intro rest
 induction rest with
 |nil=>
  intro k s AT n Ge esc ch hr hk X Gm hp Ko č hn Gn Hq;have Uu:k=Ę.cps.size:= by
   have:=congrArg db hr;simp at this;exact eo (hk) (ā (.x .q .r) [.z1 .s .n0,.z1 .q (.A .s .r)] this (cf (ĉ [_,_] (.x .q .r) [.x .q .r] hk)).symm)
  subst Uu;refine sA λE=>bD (W.done s _ _ Hq λh' tk Hm hm=>?_);refine B7 (Oo _ AT n Ge esc ch (again X Gm ⟨λb o hb ho=>Hm b o ?_ ho,λb o ho=>Hm b o ?_ (X.base.keep b o ho),hm.1,af X.base.toks hm.2,X.base.bare⟩) Gm hp Ko č hn (Gn.trans ⟨⟨λb o hb ho=>Hm b o ?_ ho,hm.1,λb q=>.inl q⟩,λ_ _ h=>h,id,rfl,rfl,hm.2⟩))
  ·subst hb;simp[qm Ms,qm Mt]
  ·have:=dc ho;simp only[dL,ve,or_false,not_or];exact⟨λq=>absurd this (bp.mpr (q▸Rt)),λq=>absurd this (bp.mpr (q▸Np))⟩
  ·simp only[dL,ve,or_false,not_or];exact⟨λq=>hb (.inr (.inl q)),λq=>hb (.inr (.inr q))⟩
 |cons c rest ih=>
  intro k s AT n Ge esc ch hr hk X Gm hp Ko č hn Gn Hq;have Fv:k<Ę.cps.size:= by
   have:=congrArg db hr;simp at this;exact ů (.y .q .r) [.z1 (.A .s .n1) .t,.z1 (.A .t .q) .r] this.symm (cf (ĉ [_,_] (.x .q .r) [.x .q .r] hk))
  have Mu:Ę.cps[k]?=J c:= by
   have:=congrArg (·[0]?) hr
   simpa [ta] using this
  have Lx:Ę.cps.toList.drop (k+1)=rest:=by refine aFZ Cb (O hr ?_);rfl
  have wr:∀b,b∉[é,cK]<->b≠é/\b≠cK:=λb=>by simp
  have Op:∀b o,H0.get? b=J o->b∉[é,cK]:=λb o ho=>by
   have:=dc ho;exact O (propext (wr ..)) ⟨λq=>absurd this (bp.mpr (q▸Rt)),λq=>absurd this (bp.mpr (q▸Np))⟩
  have Oq:aO.locals∉[é,cK]:=by exact O (propext (wr ..)) ⟨qm Ms,qm Mt⟩
  refine sA λE=>bD (W.item k s _ _ Fv Hq λT vals Fj tk Uv Ti Ru Os Hm hm=>?_);obtain⟨ti,v,⟨c',u,Jy,rfl⟩,rfl⟩:=Uv;rw[Mu] at Jy;cases Jy;have Rv:=W.apart _ _ _ Os;have Rw:Later (ü aO.locals) s {s with heap:=Fj,toks:=tk}:=⟨λb o hb ho=>by subst hb;exact Hm _ o Oq ho,λb o ho=>Hm b o (Op b o ho) (X.base.keep b o ho),hm.1,af X.base.toks hm.2,X.base.bare⟩;have Fq:=again X Gm Rw;have Mv:Õ s (ô aO.locals é cK) {s with heap:=Fj,toks:=tk} (ô aO.locals é cK):=
   ⟨⟨λb o hb ho=>Hm b o ((wr b).mpr ⟨λq=>hb (.inr (.inl q)),λq=>hb (.inr (.inr q))⟩) ho,hm.1,λb q=>.inl q⟩,λ_ _ h=>h,id,rfl,rfl,hm.2⟩
  dsimp only
  rw[show letOwnedTupleGo wX=letOwnedTupleGo p.tgt from htg▸rfl,show assign wX=assign p.tgt from htg▸rfl];refine bD (W.go p.es p.ek p.ep k T _ _ _ Os λHu Mw Jh Kp=>?_);have Rx:Later (ü aO.locals) {s with heap:=Fj,toks:=tk} {s with heap:=Hu,toks:=tk}:=⟨λb o hb ho=>by subst hb;exact Jh _ o Oq ho,λb o ho=>Jh b o (Op b o ho) (Fq.base.keep b o ho),Kp.1,Fq.base.toks,X.base.bare⟩;have Fi:=again Fq Gm Rx;have Mx:Õ {s with heap:=Fj,toks:=tk} (ô aO.locals é cK) {s with heap:=Hu,toks:=tk} (ô aO.locals é cK):=
   ⟨⟨λb o hb ho=>Jh b o ((wr b).mpr ⟨λq=>hb (.inr (.inl q)),λq=>hb (.inr (.inr q))⟩) ho,Kp.1,λb q=>.inl q⟩,λ_ _ h=>h,id,rfl,rfl,Kp.2⟩
  have Lk:Hu.IsTuple T ([xp k ti,.str ⟨#[c]⟩ u]:List aj).toArray:=let ⟨o,q1,q2⟩:=Ru;⟨o,Jh T o Rv q1,q2⟩;refine JW Ro.hh Fi p.hes Lk (l:=[.int k,.str ⟨#[c]⟩]) (λh N=>.cons (.int _ _) (.cons (.str _ _) .nil)) (pe':=ĝ Ę k esc (J (.str ⟨#[c]⟩))) rfl λdO Gl Fw=>?_;have Ic:∀p,(J (PV.str ⟨#[c]⟩))=J p->p.scalar=Wu:=λp h=>by cases h;rfl
  have Ll:∀b o,b≠aO.locals->Hu.get? b=J o->dO.heap.get? b=J o:=λb o hb ho=>Gl.step.keep b o hb ho;have Je:(∃Jq,Ad dO.heap é cK (k+1:Nat) Jq)/\dO.heap.IsStrIter cK "str_ascii_iterator" Ę f5.1.2 (k+1):=W.frame _ _ _ Mw λb hb o ho=>Ll b o (by
   simp only[dL,ve,or_false] at hb;rcases hb with rfl|rfl
   ·exact Ms
   ·exact Mt) ho
  have My:Õ AT (ô aO.locals é cK) dO (ô aO.locals é cK):= by
   refine(Gn.trans (Mv.trans Mx)).trans ⟨⟨λb o hb ho=>Gl.step.keep b o (λq=>hb (.inl q)) ho,Gl.step.grow,λb q=>.inl q⟩,Gl.gens,Gl.bare,Gl.os,Gl.drawn,Gl.toks⟩
  have NgLow:∀{s':ak},Ä (è kF) (cJ kF) aO s' (Ņ é cK) (ü aO.locals) (ĝ Ę k esc (J (.str ⟨#[c]⟩)))->∀b,(b=aO.locals\/b=é\/b=cK)->b<s'.heap.objs.size:=
   λX b q=>q.elim (λq=>X.base.low b (.inr q)) λq=>X.base.low b (.inl q)
  have TE:=λq=>bW hB GK FK q;have Uw:(0<k+1->(k:Int)=((k+1:Nat):Int)-1):=λ_=>by push_cast;exact Ć (.e .q (.S .kl .n1)) []
  have Ot:aO.scope.isCoroutine=Wv:=by exact O Ja La
  rw[show execs zQ aO=execs p.body aO from hbd▸rfl];show Seg _ _ _ _ n AT _ ((execs [.If p.t1 [.Expr (.Yield (J p.y1) p.yp1) p.ep1,p.s3] [.If p.t2 [p.s4] [.Expr (.Yield (J p.y2) p.yp2) p.ep2] p.ip2] p.ip1] aO).wrap _ _ _ _) _ dO;refine seg_execs_cons (EQ ((TE (.var 2)).2 (r:=esc) Ro.z Fw p.h1 rfl λs₄ Ho=>?_));have Gg:=Fw.pure Ho;have Kq:=My.trans (Ho.toExt (No:=ô aO.locals é cK) (No':=ô aO.locals é cK) λb q=>.inl q);have Jg:(∃Jq,Ad s₄.heap é cK (k+1:Nat) Jq)/\s₄.heap.IsStrIter cK "str_ascii_iterator" Ę f5.1.2 (k+1):=W.frame _ _ _ Je λb _ o ho=>Pure.keep Ho b o ho;have eL:∀b,(b=é\/b=cK)->b≠aO.locals:=λb q=>q.elim (λq=>q▸Ms) λq=>q▸Mt;have back:∀(Fs Gj:ak) (n':Nat) (Ha:Bool),Ä (è kF) (cJ kF) aO Fs (Ņ é cK) (ü aO.locals) (ĝ Ę k Ha (J (.str ⟨#[c]⟩)))->f5.2.drop (f5.2.length-n')=gR (k+1) Ha rest->n'=(gR (k+1) Ha rest).length->
    Õ Gj (ô aO.locals é cK) Fs (ô aO.locals é cK)->((∃Jq,Ad Fs.heap é cK (k+1:Nat) Jq)/\Fs.heap.IsStrIter cK "str_ascii_iterator" Ę f5.1.2 (k+1))->
    Seg (model Pg W0) Θ.in1 (λn AT r aT=>r=.ok (.ret .none)/\gP (ô aO.locals é cK) n AT aT) (gY (ô aO.locals é cK) f5.2) n' Gj (.forLoop wX (.ref é) zQ [] aO) (.pure (.again (.forLoop wX (.ref é) zQ [] aO))) [.ret Ģ Ww Wv xY (.func nK aO) xZ []] Fs:=
   λFs Gj n' Ha Gd h1 h2 h3 h4=>seg_again rfl (ih (k+1) Fs Gj n' k Ha (J (.str ⟨#[c]⟩)) Lx Fv Gd Ic Uw (λq=>by lia) h1 h2 h3 h4)
  have flag:∀(Fs Gj:ak) (n':Nat) (Hb Ha:Bool) (Ip:jg) (K':Bw->Sem Fin) (H':aj->Sem Fin) (gd':Bool->Bool) (lv':List aj->List aj),jB (è kF) (cJ kF) Ip (.asg 2 (.cst (.bool Ha)))=Wu->
    Ä (è kF) (cJ kF) aO Fs (Ņ é cK) (ü aO.locals) (ĝ Ę k Hb (J (.str ⟨#[c]⟩)))->f5.2.drop (f5.2.length-n')=gR (k+1) Ha rest->n'=(gR (k+1) Ha rest).length->
    Õ Gj (ô aO.locals é cK) Fs (ô aO.locals é cK)->((∃Jq,Ad Fs.heap é cK (k+1:Nat) Jq)/\Fs.heap.IsStrIter cK "str_ascii_iterator" Ę f5.1.2 (k+1))->
    K' .next=.pure (.again (.forLoop wX (.ref é) zQ [] aO))->
    Seg (model Pg W0) Θ.in1 (λn AT r aT=>r=.ok (.ret .none)/\gP (ô aO.locals é cK) n AT aT) (gY (ô aO.locals é cK) f5.2) n' Gj (.forLoop wX (.ref é) zQ [] aO) ((exec Ip aO).wrap K' H' gd' lv') [.ret Ģ Ww Wv xY (.func nK aO) xZ []] Fs:= by
   intro Fs Gj n' Hb Ha Ip K' H' gd' lv' hc Gd h1 h2 h3 h4 Ux;refine P2 (pD (λp=>(bW hB GK FK p).1) (λp=>(bW hB GK FK p).2) (λp=>sS hB GK FK p) 2 (.cst (.bool Ha)) rfl Ro.z Gd hc (pe':=ĝ Ę k Ha (J (.str ⟨#[c]⟩))) (fl:=.next) rfl λf Gc Ji Hn Hr hf=>?_);cases hf;refine O Ux (back Gc Gj n' Ha (reset Hr Ic) h1 h2 (h3.trans ⟨⟨λb o hb ho=>Hn.step.keep b o (λq=>hb (.inl q)) ho,Hn.step.grow,λb q=>.inl q⟩,Hn.gens,Hn.bare,Hn.os,Hn.drawn,Hn.toks⟩) (W.frame _ _ _ h4 λb hb o ho=>Hn.step.keep b o (eL b (by simpa using hb)) ho))
  have later:∀{Fs Gc:ak}{Hb:Bool},Pure s₄ Fs->Later (ô aO.locals é cK) Fs Gc->Ä (è kF) (cJ kF) aO s₄ (Ņ é cK) (ü aO.locals) (ĝ Ę k Hb (J (.str ⟨#[c]⟩)))->
    Ä (è kF) (cJ kF) aO Gc (Ņ é cK) (ü aO.locals) (ĝ Ę k Hb (J (.str ⟨#[c]⟩)))/\((∃Jq,Ad Gc.heap é cK (k+1:Nat) Jq)/\Gc.heap.IsStrIter cK "str_ascii_iterator" Ę f5.1.2 (k+1)):= by
   intro Fs Gc Hb Gu Ir X;exact⟨again (X.pure Gu) Ic ⟨λb o hb ho=>Ir.own b o (.inl hb) ho,Ir.keep,Ir.grow,Ir.toks,Ir.bare⟩,W.frame _ _ _ Jg λb hb o ho=>Ir.own b o (.inr (by simpa using hb)) (Pure.keep Gu b o ho)⟩
  cases esc with
  |true=>
   simp only[if_true];have Ou:gR k Wu (c::rest)=.tup [.int k,.str ⟨#[92,c]⟩]::gR (k+1) Wv rest:=rfl;rw[Ou] at č hn;simp only[ci] at hn;subst hn;refine Ē (zP č rfl) λi1 i2 i3=>?_;refine seg_execs_cons (oN (ps:=υ) hB GK FK (by rfl) (by rfl) (by rfl) Ro.z Gg p.h2 (l:=[.int k,.str ⟨#[92,c]⟩]) ?_ (oO rfl rfl) i1 i2 Kq (NgLow Gg) Ot λFs Gc Gu Ir=>?_)
   ·have hl:((⟨#[92]⟩:Str).length+(⟨#[c]⟩:Str).length<=100000):=by show 1+1<=100000;exact Ž (.x (.A .n1 .n1) (.N 100000)) []
    exact V9 hl
   ·refine xa (later Gu Ir Gg) λHr Kh=>?_;exact seg_execs_cons (flag Gc Gc _ Wu Wv p.s3 _ _ _ _ p.h3 Hr i3 rfl (Õ.refl _ _) Kh rfl)
  |false=>
   simp only[bw,if_false];refine seg_execs_cons (EQ ((TE (.cmp .Eq (.var 3) bsl)).2 (r:=decide (c=92)) Ro.z Gg p.h4 ?_ λFs Gu=>?_))
   ·exact aFL c
   have Gd:=Gg.pure Gu;have Kr:=Kq.trans (Gu.toExt (No:=ô aO.locals é cK) (No':=ô aO.locals é cK) λb q=>.inl q);have Kn:(∃Jq,Ad Fs.heap é cK (k+1:Nat) Jq)/\Fs.heap.IsStrIter cK "str_ascii_iterator" Ę f5.1.2 (k+1):=W.frame _ _ _ Jg λb _ o ho=>Pure.keep Gu b o ho
   by_cases Lm:c=92
   ·simp only[Lm,decide_true,if_true];have Ou:gR k Wv (c::rest)=gR (k+1) Wu rest:=by exact if_pos Lm
    rw[Ou] at č hn;exact seg_execs_cons (flag Fs AT n Wv Wu p.s4 _ _ _ _ p.h5 Gd č hn Kr Kn rfl)
   ·simp only[Lm,decide_false,bw,if_false];have Ou:gR k Wv (c::rest)=.tup [.int k,.str ⟨#[c]⟩]::gR (k+1) Wv rest:=by exact if_neg Lm
    rw[Ou] at č hn;simp only[ci] at hn;subst hn;refine Ē (zP č rfl) λi1 i2 i3=>?_;refine seg_execs_cons (oN (ps:=gE2) hB GK FK (by rfl) (by rfl) (by rfl) Ro.z Gd p.h6 (l:=[.int k,.str ⟨#[c]⟩]) rfl (oO rfl rfl) i1 i2 Kr (NgLow Gd) Ot λGc Mz Jm Ry=>?_);refine xa (later (Gu.trans Jm) Ry Gg) λRz Ov=>?_;exact back Mz Mz _ Wv Rz i3 rfl (Õ.refl _ _) Ov
theorem P5:@τ F B A sc At tg bd fbody Kfr lfr pfr e it x tx À:=iY (a9 (a9 (a9 (bA (bA (bA @τ)))))) (((((((((((((((F,B),A),sc),At),tg),bd),fbody),Kfr),lfr),pfr),e),it),x),tx),À) JX
end
end Mine.Internal
end
section
open PySem PySem.W PyProof.Rows PySem.W.X
namespace Mine.Internal
section
variable{M:Ew}{A:dj}{c:En}{fs:List Bz}{s:ak}{Á:Env}{P:End->ak->Prop}
 {K:Bw->Sem Fin}{H:aj->Sem Fin}{gd:Bool->Bool}{lv:List aj->List aj}
theorem rA{α:Type}{m:Sem α}{K:α->Sem Fin}
  (h:wpAny M (A.over c fs) m (λa s'=>SegX M A c (K a) fs s' P) (λx s'=>SegX M A c (H x) fs s' P) s):SegX M A c (m.wrap K H gd lv) fs s P:= by
 rintro Γ p rfl Ĩ
 refine mF (runs_wrap_of_wp (Φ:=λe s'=>e.quiet=Wu/\P e s') K H gd lv m (h (Γ.over fs) p (Ĩ.over fs)) (λa p' s' h'=>h' Γ p' rfl Ĩ) (λx p' s' h'=>h' Γ p' rfl Ĩ)) λe s' hr hq=>?_;exact(lD e s' hr hq)
theorem kQ{α β:Type}{m:Sem α}{f:α->Sem β}{K:β->Sem Fin}
  (h:wpAny M (A.over c fs) m (λa s'=>SegX M A c ((f a).wrap K H gd lv) fs s' P) (λx s'=>SegX M A c (H x) fs s' P) s):SegX M A c ((m >>= f).wrap K H gd lv) fs s P:= by
 exact O (qr ..) (O (qy ..) (rA h))
theorem x4{st:jg}(h:wpAny M (A.over c fs) (exec st Á) (λf s'=>SegX M A c (K f) fs s' P) (λx s'=>SegX M A c (H x) fs s' P) s):
  SegX M A c ((exec st Á).wrap K H gd lv) fs s P:=rA h
theorem iU{st:jg}{rest:List jg}
  (h:SegX M A c ((exec st Á).wrap (λf=>match f with|.next=>(execs rest Á).wrap K H gd lv|f=>K f) H gd lv) fs s P):SegX M A c ((execs (st::rest) Á).wrap K H gd lv) fs s P:= by
 exact O (execs_cons_wrap ..) h
theorem JY {h g l} (hc:∀p,SegX M A c' (M.den c') (.ret k h g l c p []::fs) s P):SegX M A c (.call c' h g l k) fs s P:= by
 rintro Γ p rfl Ĩ
 refine mF (hc p (Γ.goto c') p rfl (Ĩ.goto c')) λe s' hr he=>?_;exact(lD e s' (runs_call_seg hr) he)
theorem P6 (hs:∀x,foldedSetIterable iter Á x=dm x)
  (h:wpAny M (A.over c fs) (eval iter Á) (λx aT=>wpAny M (A.over c fs) (pyIter x) (λit Â=>
   ∀p,SegX M A (.forLoop target it body orelse Á) (M.den (.forLoop target it body orelse Á))
   (.ret (λr=>((match r with|.ok f=>(.pure f:Sem Bw)|.error e=>.raise e).onRaise λ(x:aj)=>do
    if (<-field x 1)==Cc then unsupported "frame.own-activation:exception-without-traceback"
    setFlight x Á.frame).wrap K H gd lv) Ww (gd Wv) (lv []) c p []::fs) Â P) (λx s'=>SegX M A c (H x) fs s' P) aT) (λx s'=>SegX M A c (H x) fs s' P) s):
  SegX M A c ((exec (.For target iter body orelse pos) Á).wrap K H gd lv) fs s P:= by
 refine O (exec_For ..) (kQ (ji (kQ (lj h (λx aT Fj=>?_) λ_ _ h'=>h'))));refine kQ (wpAny_of_eq (hs x) ?_);refine kQ (ji ?_);refine kQ (wpAny_holding (lj Fj (λit Â Hu=>?_) λ_ _ h'=>h'));exact JY Hu
end
section
variable{A:dj}{fs:List Bz}{s:ak}{Á:Env}{P:End->ak->Prop}
theorem JZ
  (h:SegX (model Pg W0) A (.func body Á) ((execs body Á).wrap (λf=>.pure (.done (.ret (match f with|.ret v=>v|_=>.none))))
   (λe=>(leaving Á e).wrap (λ_=>.raise e) .raise id id) id id) fs s P):
  SegX (model Pg W0) A (.func body Á) ((model Pg W0).den (.func body Á)) fs s P:= by
 show SegX _ A _ (.point [] λ_=>((execs body Á).onRaise (leaving Á)) >>= _) fs s P;refine rA (m:=point) (H:=.raise) (gd:=id) (lv:=λ_=>[]) (wpAny_point ?_);refine O (yd ..) (O (qr ..) (O (qy ..) ?_));refine O (Ca (execs body Á) _ _ (K':=λf=>.pure (.done (.ret (match f with|.ret v=>v|_=>.none))))
  (H':=λe=>(leaving Á e).wrap (λ_=>.raise e) .raise id id) (λf=>by cases f<;>rfl)
  (λe=>by rw[vd,qy];rfl)) ?_
 exact h
end
def Run (A:dj) (À:List PV):Nat->(Ap)->En->Sem Fin->List Bz->ak->Prop
 |0=>λNg c t fs s=>SegX (model Pg W0) A c t fs s λe aT=>∃Ng',(∀b,Ng b->Ng' b)/\Õ s Ng aT Ng'/\ď Ng' aT.heap/\e=.ret (.ok (.ret .none))
 | n + 1 => fun Ng c t fs s => SegX (model Pg W0) A c t fs s fun e aT => ∃ Ng', (∀ b, Ng b -> Ng' b) /\ Õ s Ng aT Ng' /\ ď Ng' aT.heap /\
   ∃v g l k c' p Jr,e=.susp v g l k c' p Jr/\n<À.length/\(∃q,À[À.length-(n+1)]?=J q/\Ļ Ng' s aT v q)/\
    ∀Gw,Later Ng' aT Gw->Run A À n Ng' c' (k (.send .none)) Jr Gw
def ģ (A:dj) (À:List PV):Nat->(Ap)->ak->End->ak->Prop
 |0=>λNg s e aT=>∃Ng',(∀b,Ng b->Ng' b)/\Õ s Ng aT Ng'/\ď Ng' aT.heap/\e=.ret (.ok (.ret .none))
 | n + 1 => fun Ng s e aT => ∃ Ng', (∀ b, Ng b -> Ng' b) /\ Õ s Ng aT Ng' /\ ď Ng' aT.heap /\
   ∃v g l k c' p Jr,e=.susp v g l k c' p Jr/\n<À.length/\(∃q,À[À.length-(n+1)]?=J q/\Ļ Ng' s aT v q)/\
    ∀Gw,Later Ng' aT Gw->Run A À n Ng' c' (k (.send .none)) Jr Gw
theorem lL:
  Run A À n Ng c t fs s<->SegX (model Pg W0) A c t fs s (ģ A À n Ng s):=by cases n<;>rfl
theorem ģ.back (h:ģ A À n Ly Â e aT) (hs:∀b,Ng b->Ly b) (hx:Õ s Ng Â Ly):ģ A À n Ng s e aT:= by
 cases n with
 |zero=>
  refine cH h λN h1 h2 h3 h4=>?_;exact(iH N (λb q=>h1 b (hs b q)) (hx.trans h2) h3 h4)
 |succ n=>
  obtain⟨N,h1,h2,h3,v,g,l,k,c',p,Jr,h4,h5,⟨q,h6,T,vs,l',a1,a2,a0,a3,a4,a5⟩,h7⟩:=h;exact(iH N (λb q=>h1 b (hs b q)) (hx.trans h2) h3 (fP v g l (f7 k c' p Jr h4 h5 ⟨(Ö q h6 (fI T vs l' a1 a2 a0 (aa hx.step.grow a3) ⟨a4,a5⟩)),h7⟩)))
section
variable{A:dj}{À:List PV}{Ng:Ap}
theorem ñ.ext (b:ñ s N) (x:Õ s N s' N):ñ s' N where
 keep:=λa o e=>x.step.keep a o (λq=>by have:=b.above a q;have h2:=dc e;exact absurd h2 (bp.mpr this)) (b.keep a o e)
 above:=b.above
 size:=aa b.size x.step.grow
 low:=λa h=>af (b.low a h) x.step.grow
 toks:=af b.toks (Õ.toks x)
 bare:=x.bare b.bare
theorem ñ.later (b:ñ s N) (x:Later N s s'):ñ s' N where
 keep:=x.keep
 above:=b.above
 size:=aa b.size x.grow
 low:=λa h=>af (b.low a h) x.grow
 toks:=x.toks
 bare:=x.bare
theorem ñ.refl (b:ñ s N):Later N s s:=⟨λ_ _ _ h=>h,b.keep,ai _,b.toks,b.bare⟩
theorem ER (n:Nat):∀(c:En) (t:Sem Fin) (fs:List Bz) (s:ak),ñ s Ng->
  Seg (model Pg W0) A (λn AT r aT=>r=.ok (.ret .none)/\gP Ng n AT aT) (gY Ng À) n s c t fs s->Run A À n Ng c t fs s:= by
 induction n with
 |zero=>
  intro c t fs s hl h Γ p hc Ĩ;refine mF (seg_iff.mp h Γ p hc Ĩ) λe aT hr he=>?_;cases e with
  |ret r=>
   refine Ē he λbc _ hx=>?_;subst bc;exact(cA _ aT hr rfl (iH Ng (λb q=>q) hx ((hl.ext hx).low) rfl))
  |susp v g l k c' p' Jr=>
   exact nV he λhq h1 h2 h3 h4=>(h4 aT (hl.ext h3).refl).elim
 |succ n ih=>
  intro c t fs s hl h Γ p hc Ĩ;refine mF (seg_iff.mp h Γ p hc Ĩ) λe aT hr he=>?_;cases e with
  |ret r=>
   refine Ē he λ_ h0 _=>?_;clear he;cases h0
  |susp v g l k c' p' Jr=>
   refine nV he λhq h1 h2 h3 h4=>?_;clear he;have Hi:=hl.ext h3;exact(cA _ aT hr hq (iH Ng (λb q=>q) h3 Hi.low (fP v g l (f7 k c' p' Jr rfl h1 ⟨h2,(λGw hL=>ih c' _ Jr Gw (Hi.later hL) (h4 Gw hL))⟩))))
end
end Mine.Internal
end
section
open PySem PySem.W PyProof.Rows PySem.W.X
namespace Mine.Internal
section
variable{F:Fn}{B:Nat}
variable{A:dj}{cx:Cx}{asg:List Str}{Á:Env}{s s':ak}{Na No Ng:Ap}{pe:Ã}{E:Vs}
theorem wY (h:x.cps.all (·<128)=Wu):strIterType x="str_ascii_iterator":=by unfold strIterType;exact O (if_pos h) rfl
noncomputable def aFY (At:Env) (body:List jg):En:=.func body At
theorem WA (hB:3<=B) (GK:ă) (FK:î F B) (La:At.scope.isCoroutine=Wv) (k13:aG (è sc) Wu t3 (.var 2)=Wu) (k14:wW (è sc) y3 Ξ=Wu)
  (Rf:Ê (A.in1.over (.func body At) []) (B+8)) (X:Ä (è sc) (cJ sc) At s (Ņ e it) (ü At.locals) (ĝ x Ge esc ch))
  (hp:0<x.cps.size->Ge=(x.cps.size:Int)-1) (Ko:x.cps.size=0->esc=Wv) (č:À.drop (À.length-n)=gR x.cps.size esc []) (hn:n=(gR x.cps.size esc []).length) (Gn:Õ AT (ô At.locals e it) s (ô At.locals e it)):
  Seg (model Pg W0) A.in1 (λn AT r aT=>r=.ok (.ret .none)/\gP (ô At.locals e it) n AT aT) (gY (ô At.locals e it) À) n AT (.func body At)
   ((execs [.If t3 [.Expr (.Yield (J y3) yp3) ep3] [] ip3] At).wrap (λf=>.pure (.done (.ret (match f with|.ret v=>v|_=>.none)))) (λe=>(leaving At e).wrap (λ_=>.raise e) .raise id id) id id) [] s:= by
 have fin:∀Gc Gj,Õ Gj (ô At.locals e it) Gc (ô At.locals e it)->Seg (model Pg W0) A.in1 (λn AT r aT=>r=.ok (.ret .none)/\gP (ô At.locals e it) n AT aT) (gY (ô At.locals e it) À) 0 Gj (.func body At) (.pure (.done (.ret .none))) [] Gc:=
  λGc Gj he=>seg_end (.ok (.ret .none)) (ß rfl rfl he)
 refine seg_execs_cons (EQ ((bW hB GK FK (.var 2)).2 (r:=esc) Rf.z X k13 rfl λGc Jm=>?_));have Ks:=Gn.trans (Jm.toExt (No:=ô At.locals e it) (No':=ô At.locals e it) λb q=>.inl q);cases esc with
 |true=>
  cases (show n=0+1 from hn);have Nb:0<x.cps.size:=(yn x.cps.size).resolve_left λh=>absurd (Ko h) (by decide);refine Ē (zP č rfl) λi1 i2 i3=>?_;have Hr:=X.pure Jm;exact seg_execs_cons (oN (ps:=Ξ) hB GK FK (by rfl) (by rfl) (by rfl) Rf.z Hr k14 (l:=[.int Ge,.str ⟨#[92]⟩]) rfl (oO rfl rfl) i1 (by exact O (hp Nb) i2) Ks (λb q=>Hr.base.low b (q.elim .inr .inl)) La λMz Ow Uy Uz=>fin Ow Ow (Õ.refl _ _))
 |false=>
  cases (show n=0 from hn);exact fin Gc AT Ks
theorem Ä.reset1 (hown:cx.own=[]) (htk:cx.tk=[]) (Gb:∀x,At.kindOf x≠J .cell/\At.kindOf x≠J .free) (hs:∀i q,lk pe i=J q->q.scalar=Wu) (X:Ä cx asg At s (λ_=>False) BY pe):Ä cx asg At s (λ_=>False) (ü At.locals) pe:=
 X.again (s':=s) (Ng:=ü At.locals) hs hown htk Gb ⟨λb o _ h=>h,X.base.keep,ai _,X.base.toks,X.base.bare⟩ rfl (λb q=>q.elim (λq=>q.elim) λq=>⟨by exact O q (X.base.above _ (.inr X.noL)),by refine O q ?_;exact X.base.low _ (.inr X.noL)⟩) rfl (λb _ q=>q)
theorem ES (h:lk [J (.str x),Ww,Ww,Ww] i=J q):q.scalar=Wu:= by
 cases i with
 |zero=>exact sm h▸rfl
 |succ i=>cases i with
  |zero=>exact nn h
  |succ i=>cases i with
   |zero=>exact nn h
   |succ i=>cases i with
    |zero=>exact nn h
    |succ i=>exact nn h
theorem ET (h:lk [J (.str x),J (.int n),Ww,Ww] i=J q):q.scalar=Wu:= by
 cases i with
 |zero=>exact sm h▸rfl
 |succ i=>cases i with
  |zero=>exact sm h▸rfl
  |succ i=>cases i with
   |zero=>exact nn h
   |succ i=>cases i with
    |zero=>exact nn h
    |succ i=>exact nn h
theorem CB (h:zG g=Wu):g=.enum:=by cases g<;>first|exact nf h|rfl
theorem Õ.toL (e:Õ s (ü L) s' BY):Õ s (ü L) s' (ü L):=⟨⟨e.step.keep,e.step.grow,λb q=>.inl q⟩,e.gens,e.bare,e.os,e.drawn,e.toks⟩
theorem J0 (Gb:∀x,At.kindOf x≠J .cell/\At.kindOf x≠J .free) (X:Ä (è sc) (cJ sc) At s (λ_=>False) (ü At.locals) (ĝ x 0 Wv Ww)) (Hw:h'.objs.size=s.heap.objs.size+2) (Hm:∀b o,s.heap.get? b=J o->h'.get? b=J o):
  Ä (è sc) (cJ sc) At {s with heap:=h'} (Ņ (s.heap.objs.size+1) s.heap.objs.size) (ü At.locals) (ĝ x 0 Wv Ww)/\Õ s (ü At.locals) {s with heap:=h'} (ô At.locals (s.heap.objs.size+1) s.heap.objs.size):= by
 have hL:=X.base.low _ (.inr rfl);have Ox:=X.base.size;have hg:s.heap.objs.size<=h'.objs.size:=by exact O Hw (je _ _)
 have lt1:s.heap.objs.size<h'.objs.size:=by exact O Hw (ia (dg _))
 have lt2:s.heap.objs.size+1<h'.objs.size:=by exact O Hw (dg _)
 have Va:Later (ü At.locals) s {s with heap:=h'}:=⟨λb o _ ho=>Hm b o ho,λb o ho=>Hm b o (X.base.keep b o ho),hg,X.base.toks,X.base.bare⟩;refine⟨X.again (Ng:=ü At.locals) (lK (λq h=>nn h)) rfl rfl Gb Va rfl (λb q=>?_) rfl (λb q1 q2=>?_),⟨λb o _ ho=>Hm b o ho,hg,λb q=>q.elim .inl λq=>.inr (q.elim (λq=>by exact O q (gy _)) λq=>by refine O q ?_;exact ai _)⟩,λ_ _ h=>h,id,rfl,rfl,ai _⟩
 ·rcases q with(q|q)|q
  ·exact⟨by exact O q (da Ox),by refine O q ?_;exact lt2⟩
  ·exact⟨by exact O q Ox,by refine O q ?_;exact lt1⟩
  ·exact⟨by exact O q (X.base.above _ (.inr rfl)),by refine O q ?_;exact eb hL lt1⟩
 ·rcases q2 with q2|q2
  ·exact absurd hL (bp.mpr (by exact aFZ q1 (O q2 (gy _))))
  ·exact absurd hL (bp.mpr (by exact aFZ q1 (O q2 (ai _))))
set_option maxHeartbeats 1600000 in
def j4{sc:jx}{body:List jg}{At:Env}{x:Str} :Prop:=∀(hB:3<=B) (GK:ă) (FK:î F B) (Ja:At.scope=sc) (Gb:∀x,At.kindOf x≠J .cell/\At.kindOf x≠J .free) (hc:zO body sc=Wu) (hx:x.length<=10000) (Oy:x.cps.all (·<128)=Wu) (Rm:Ê A (B+10)) (X:Ä (è sc) (cJ sc) At s (λ_=>False) (ü At.locals) [J (.str x),Ww,Ww,Ww]),Run A.in1 (gR 0 Wv x.cps.toList) (gR 0 Wv x.cps.toList).length (ü At.locals) (.func body At) ((model Pg W0).den (.func body At)) [] s
def aF:=@gZ _ ⟨((((((ac,{}),{}),ac),ac),ac),ac)⟩ (a9 (bA (bA (bA @j4))))
theorem EU:@j4 aF.1.1.1.1.1.1.1 aF.1.1.1.1.1.1.2 aF.1.1.1.1.1.2 aF.1.1.1.1.2 aF.1.1.1.2 aF.1.1.2 aF.1.2 aF.2:= by
 intro hB GK FK Ja Gb hc hx Oy Rm X;obtain⟨HD,⟨T⟩⟩:=vC hc;clear hc;have c3:=HD.c3;have La:aF.1.2.scope.isCoroutine=Wv:=by exact O Ja c3
 have Rf:Ê (aF.1.1.1.1.1.2.in1.over (.func aF.1.1.2 aF.1.2) []) (aF.1.1.1.1.1.1.2+8):=V5 Rm;refine O (propext lL) (JZ ?_);refine O (show execs aF.1.1.2 aF.1.2=execs [T.s1,T.s2,.For T.p.tgt (.Call T.g [T.a] [] T.cpos) T.p.body [] T.fpos,.If T.t3 [.Expr (.Yield (J T.y3) T.yp3) T.ep3] [] T.ip3] aF.1.2 from congrArg (λb=>execs b aF.1.2) T.eq) (iU (x4 (pD (λp=>(bW hB GK FK p).1) (λp=>(bW hB GK FK p).2) (λp=>sS hB GK FK p) 1 (.cst (.int 0)) rfl Rf.z X T.k1 (pe':=[J (.str aF.2),J (.int 0),Ww,Ww]) (fl:=.next) rfl λf aT BY Hf Fq hf=>?_)));cases hf.next_inv;refine iU (x4 (pD (λp=>(bW hB GK FK p).1) (λp=>(bW hB GK FK p).2) (λp=>sS hB GK FK p) 2 (.cst (.bool Wv)) rfl Rf.z (Fq.reset1 rfl rfl Gb λi q h=>ET h) T.k2 (pe':=ĝ aF.2 0 Wv Ww) (fl:=.next) rfl λf Â Gh Hl Fi hf=>?_));cases hf.next_inv;have e12:=Hf.toL.trans Hl.toL;have Jj:=Fi.reset1 rfl rfl Gb (lK (λq h=>nn h));clear X Fq Fi;refine b9 (jH T.k4) λgx gpos gg hg q1 q2 zt=>?_;refine xa zt λq3 q4=>?_;clear zt;refine iU (P6 (λ_=>rfl) ?_);refine O hg (wpAny_Call_NameR (g7 GK Jj q1 q2 q3 λv hv=>?_));cases CB q4;cases hv;refine O (bZ T.k5) (on (by rfl) (ic (ez ((bW hB GK FK (.var 0)).1 Rf.z Jj T.k6 (r:=.str aF.2) rfl λv dO Ga Oz=>iv ?_))));apply Ü Oz.t.inv;intro tx;have Fw:=Jj.pure Ga;have E3:=e12.trans (Ga.toExt (No:=ü aF.1.2.locals) (No':=ü aF.1.2.locals) λb q=>.inl q);clear Oz Jj e12 Ga;refine call_enumerate_str λh' Tj č Hw Hm=>?_;rw[wY Oy] at č;refine wpAny_pyIter_enum Tj λpp=>?_;refine xa (J0 Gb Fw Hw Hm) λGg Ext4=>?_;have Lz:aF.1.2.locals<dO.heap.objs.size:=Fw.base.low _ (.inr rfl);have Ox:=Fw.base.size;have Pa:ñ ({dO with heap:=h'}:ak) (ô aF.1.2.locals (dO.heap.objs.size+1) dO.heap.objs.size):=
  ⟨Gg.base.keep,λb q=>Gg.base.above b (q.elim .inr .inl),Gg.base.size,λb q=>Gg.base.low b (q.elim .inr .inl),Gg.base.toks,Gg.base.bare⟩
 refine SegX.mono (lL.mp (ER _ _ _ _ _ Pa (P5 (A:=aF.1.1.1.1.1.2) hB GK FK Ja c3 Gb T.p rfl rfl (fbody:=aF.1.1.2)
  (Kfr:=_) (lfr:=_) (pfr:=pp) (e:=dO.heap.objs.size+1) (it:=dO.heap.objs.size) (x:=aF.2) (tx:=tx) (À:=gR 0 Wv aF.2.cps.toList) Rm (Nat.succ_ne_self _) (λq=>absurd Lz (bp.mpr (by exact aFZ q (gy _)))) (λq=>absurd Lz (bp.mpr (by refine aFZ q ?_;exact ai _))) hx
  (da Ox) Ox (λFs AT n Ge esc ch Gd Gm hp Ko RW hn Gn=>WA hB GK FK La T.k13 T.k14 Rf Gd hp Ko RW hn Gn) aF.2.cps.toList 0 _ _ _ 0 Wv Ww rfl (jd _) Gg (λq h=>nn h) (λq=>absurd q (gn _)) (λ_=>rfl) (by refine O (Db ..) ?_;rfl) rfl (Õ.refl _ _) ⟨⟨_,Tj⟩,č⟩))) λe s' hr=>ģ.back hr (λb q=>.inl q) (E3.trans Ext4)
theorem J1:@j4 F B A s sc body At x:=iY (a9 (bA (bA (bA @j4)))) (((((((F,B),A),s),sc),body),At),x) EU
end
end Mine.Internal
end
section
open PySem PySem.W PyProof.Rows PySem.W.X
namespace Mine.Internal
structure ć (ga:fy) where
 name:Str
 params:Ae
 body:List jg
 sc:jx
 pm:aj
 cd:aj
 ĵ:aj
 o:Obj
 chk:zO body sc=Wu
 at_:H0.get? ga=J o
 data:o.data=.func (ec name params body sc pm cd ĵ)
 code:H0.CodeRec cd name
 bind:∀v:aj,bindArgs (ec name params body sc pm cd ĵ) ⟨[v],[]⟩=dm [(("addr":Str),v)]
section
variable{F:Fn}{B:Nat}
variable{A:dj}{cx:Cx}{asg:List Str}{Á:Env}{s s':ak}{Na No Ng:Ap}{pe:Ã}{E:Vs}
theorem Ě.locs (h:Ě sc) (y:Str):sc.names.lookup y≠J .cell/\sc.names.lookup y≠J .free:= by
 refine⟨λq=>?_,λq=>?_⟩
 ·exact nf (bz.mp h.c5 _ (bC q))
 ·exact nf (bz.mp h.c5 _ (bC q))
theorem WB (h:lk [J (.str x),Ww,Ww,Ww] i=J q):i=0/\q=.str x:= by
 cases i with
 |zero=>exact⟨rfl,(sm h).symm⟩
 |succ i=>cases i with
  |zero=>exact nn h
  |succ i=>cases i with
   |zero=>exact nn h
   |succ i=>cases i with
    |zero=>exact nn h
    |succ i=>exact nn h
theorem WC (h:Ě sc) (hy:n∈cJ sc):sc.names.lookup n=J .local:= by
 obtain⟨⟨n',k⟩,Sa,e⟩:=ja.mp hy;have e:n'=n:=e;subst e;refine xa (Bh.mp Sa) λID Gq=>?_;have Oj:=b7 h.c4 ID;rcases jr.mp Gq with Gq|Gq
 ·exact O Oj (congrArg J (aq Gq))
 ·exact absurd (Oj.trans (congrArg J (aq Gq))) (h.locs n').1
theorem P7 (GK:ă) (g:ć ga) (Rm:Ê A 1) (Bs:ñ s N)
  (hQ:∀s' At,Pure s s'->At.scope=g.sc->(∀x,At.kindOf x≠J .cell/\At.kindOf x≠J .free)->s.heap.objs.size<=At.locals->At.locals+1<s'.heap.objs.size+1->At.locals≠s'.heap.objs.size-1->s.heap.objs.size<=s'.heap.objs.size-1->s'.heap.objs.size-1<s'.heap.objs.size->
   Ä (è g.sc) (cJ g.sc) At s' (λ_=>False) (ü At.locals) [J (.str x),Ww,Ww,Ww]->
   s'.heap.IsGen (s'.heap.objs.size-1) s.gens.size->s'.gens[s.gens.size]?=J (.fresh (.func g.body At))->Q (.ref (s'.heap.objs.size-1)) s'):
  wpAny (model Pg W0) A (call (.ref ga) [.str x t]) Q E s:= by
 have HD:=(vC g.chk).1;have It:=HD.c1;have c3:=HD.c3;have c2:=HD.c2;have c4:=HD.c4;have Nc:=HD.c6;have Gb:=HD.locs;refine wpAny_call (codeAny_call_generator Rm.lim (Bs.keep _ _ g.at_) g.data c3 c2 rfl (g.code.keeps Bs.keep) ?_);refine O (g.bind ..) ?_;refine cy (bD (wpAny_newFunctionEnv_cells It (λy hy=>.inl (by simp only[bx] at hy;subst hy;exact Nc)) λÁ he aT xx hm=>?_));have Ia:∀y,Á.kindOf y=g.sc.names.lookup y:=λy=>by refine O he ?_;rfl
 have hL:Á.locals=s.heap.objs.size:=by refine O he ?_;rfl
 have hS:Á.scope=g.sc:=by refine O he ?_;rfl
 have hG:Á.globals=mainGlobals:=by refine O he ?_;rfl
 have Sb:Á.builtins=builtinsNs:=by refine O he ?_;rfl
 refine Ľ xx.toInCall.same λFj tk bc=>?_;subst bc;refine⟨GK.nolimit.keeps λb o e=>xx.toInCall.keep b o (Bs.keep b o e),?_⟩;have Fp:=xx.toInCall.ns;have Ie:s.heap.objs.size<Fj.objs.size:=by refine aFZ hL ?_;refine mL Fp λo _ _ e _=>?_;exact dc e
 have P:Pure s {s with heap:=Fj,toks:=tk}:=Pure.mk' (λb o e=>xx.toInCall.keep b o e) hm;have e1:(Fj.push {cls:=.type "generator",data:=.fields #[.int s.gens.size 0,.str g.name tk,.str g.name (tk+1)]}).objs.size-1=Fj.objs.size:=by simp[br]
 have Gq:s.toks<=tk:=hm.2;have iF:Pure s {s with gens:=s.gens.push (.fresh (.func g.body Á)),heap:=Fj.push {cls:=.type "generator",data:=.fields #[.int s.gens.size 0,.str g.name tk,.str g.name (tk+1)]},toks:=tk+1+1}:= by
  refine⟨⟨λb o _ e=>cb _ (xx.toInCall.keep b o e),?_,λ_ q=>q.elim⟩,λi y e=>?_,λq=>q.push rfl,rfl,rfl,?_⟩
  ·show s.heap.objs.size<=(Fj.push _).objs.size;exact O (br ..) (da (dp Ie))
  ·show(s.gens.push _)[i]?=J y;have:=(mh.mp e).1;refine O (Array.getElem?_push_lt this) ?_
   simpa [this] using e
  ·show s.toks<=tk+1+1;exact ä (.x .q (.A (.A .r .n1) .n1)) [.x .q .r] Gq
 have hb:=G6 (ko:=Á.kindOf) (m:=λ_=>Ww) (m':=λ_=>Ww) (pars:=[("addr":Str)]) (vs:=[.str x t]) (j:=0) (x:="addr") (v:=.str x t) rfl rfl rfl;have X:Ä (è g.sc) (cJ g.sc) Á {s with gens:=s.gens.push (.fresh (.func g.body Á)),heap:=Fj.push {cls:=.type "generator",data:=.fields #[.int s.gens.size 0,.str g.name tk,.str g.name (tk+1)]},toks:=tk+1+1} (λ_=>False) (ü Á.locals) [J (.str x),Ww,Ww,Ww]:={
  base:={(Bs.pure iF) with
   above:=λb q=>q.elim (λq=>q.elim) λq=>by exact O q (O hL Bs.size)
   low:=λb q=>q.elim (λq=>q.elim) λq=>by
    show b<(Fj.push _).objs.size;refine O q (O hL (O (br ..) ?_));exact ia Ie}
  kind:=by exact O hS It
  glb:=hG
  blt:=Sb
  gl:=λy hy=>by exact O (Ia ..) hy
  cl:=λy hy=>by rcases hy with hy|hy;exact absurd hy (Gb y).1;exact absurd hy (Gb y).2
  ns:=⟨_,Fp.keeps λ_ _ e=>cb _ e⟩
  noL:=rfl
  apart:=λy z c h1 h2=>name_of_addr xx.apart (bC h1) (bC h2)
  cellsLow:=λy c h=>by
   show c<(Fj.push _).objs.size;exact O (br ..) (ia (xx.cell y c h).lt)
  vars:=λy i p h1 h2=>by
   refine xa (WB h2) λbc Gf=>?_;subst bc;subst Gf;have hy:y="addr":=lJ (l:=P3) (i:=0) rfl h1 rfl;subst hy;refine(gQ (.str x t) (.loc _ (by exact O (Ia ..) Nc) (Fp.keeps λ_ _ e=>cb _ e) (hb.1 (by refine O (Ia ..) ?_;exact Nc))) (.str _ _) (λh=>(nomatch h)))
  stores:=λy hy=>.loc (by exact O (Ia ..) (WC HD hy))
  inj:=λy z i h1 h2=>lJ (l:=P3) rfl h1 h2
  alone:=λy z i j a h1 h2 h3 h4 h5=>(nomatch h5)
  disj:=λb _ q=>q
  turns:=λy i a h1 h2=>(nomatch h2)}
 have fin:=hQ _ Á iF hS (λy=>by exact O (Ia ..) (Gb y)) (by refine O hL ?_;exact ai _) ?_ ?_ ?_ ?_ X ?_ ?_
 ·rw[e1] at fin;exact fin
 ·show Á.locals+1<(Fj.push _).objs.size+1;exact O hL (O (br ..) (np (ia Ie)))
 ·show Á.locals≠(Fj.push _).objs.size-1;exact O e1 (O hL (fx Ie))
 ·show s.heap.objs.size<=(Fj.push _).objs.size-1;exact O e1 (dp Ie)
 ·show(Fj.push _).objs.size-1<(Fj.push _).objs.size;exact O e1 (O (br ..) (Ć (.y .q .kl) []))
 ·show ju.IsGen (Fj.push _) ((Fj.push _).objs.size-1) _;exact O e1 (cO _ _ _ (cr _ rfl) rfl rfl rfl)
 ·show(s.gens.push _)[s.gens.size]?=_;simp
end
end Mine.Internal
end
section
open PySem PySem.W PyProof.Rows PySem.W.X
namespace Mine.Internal
section
variable{A:dj}{E:Vs}{s:ak}
def Υ (A:dj) (gs:Dq) (s:ak) (P:End->ak->Prop):Prop:=
 (∃c,gs=.fresh c/\SegX (model Pg W0) A c ((model Pg W0).den c) [] s P)\/(∃k l c p fs cl,gs=.suspended k l c p fs cl/\SegX (model Pg W0) A c (k (.send .none)) fs s P)
def Ŧ (P:End->ak->Prop) (Q:Option aj->ak->Prop) (g:Nat):Prop:=
 (∀v gl l k c p fs aT,P (.susp v gl l k c p fs) aT->(zo v gl l k c p fs).quiet=Wu->Q (J v) (aT.setGen g (zo v gl l k c p fs).genState))/\
 (∀r aT,P (.ret r) aT->r=.ok (.ret .none)/\∀h',(∀b o,aT.heap.get? b=J o->h'.get? b=J o)->Q Ww {aT.setGen g .finished with heap:=h'})
def ξ{a:fy}{g:Nat}{P:End->ak->Prop}{Q:Option aj->ak->Prop} :Prop:=∀{gs:Dq}(hh:A.handled=Ww) (hl:s.heap.NoLimit) (Ma:A.depth<recursionLimit) (hg:s.heap.IsGen a g) (Kt:s.gens[g]?=J gs) (Pv:Υ A.in1 gs (s.setGen g .running) P) (hN:Ŧ P Q g),wpAny (model Pg W0) A (pyNext (.ref a)) Q E s
def zR:=@gZ _ ⟨(((((({},ac),{}),ac),ac),ac),ac)⟩ (a9 (bA (bA @ξ)))
def Η:=zR.1.1.1.1.1.1
theorem CC:@ξ Η zR.1.1.1.1.1.2 zR.1.1.1.1.2 zR.1.1.1.2 zR.1.1.2 zR.1.2 zR.2:= by
 intro gs hh hl Ma hg Kt Pv hN;unfold pyNext;refine bh (wpAny_attempt (wpAny_callSpecial?_slot (name:=Str.ofString "__next__") hg.typeIs slot_gen_next
  (wpAny_call_entry slot_gen_next hg.typeIs entry_gen_next ?_ (args_gen_next _))))
 show wpAny _ Η.in1 (tt (.ref zR.1.1.1.2) (.send .none)) _ _ zR.1.1.1.1.2;unfold tt;refine bh (wpAny_holding (wpAny_genNumber hg (bh (wpAny_genState Kt ?_))));rcases Pv with⟨c,rfl,hx⟩|⟨k,l,c,p,fs,cl,rfl,hx⟩
 all_goals
  refine bh (wpAny_roomToWake hl Ma ?_);refine λΓ p' Ĩ=>wake_any _ Pg W0 Kt (by first|exact .inl (fH rfl rfl rfl rfl)|exact .inr (fP _ _ _ (Ö _ rfl rfl))) (λΓ=>Γ.In Η.in1) (λ_ h=>h) (c₀:=c) (λΓ p hc Ĩ=>?_) Γ p' Ĩ;refine fE (hx Γ p hc Ĩ) λe aT hr hq hp=>?_;refine⟨e,aT,hr,hq,λΓ p Ĩ=>?_⟩;cases e with
  |ret r=>
   apply xr (hN.2 r aT hp);intro Vb;refine(?_:wpAny (model Pg W0) Η.in1 (newExc (.type "StopIteration") [] >>= _) _ _ _) Γ p Ĩ;refine bh ?_
   dsimp only[newExc,newTuple]
   refine bh (wpAny_newObj_type ?_ (by size_fits));refine bh (m:=firstArgMember _ _) (wpAny_of_eq (a:=Cc) (by first|rfl|(dsimp only[firstArgMember];rfl)) ?_);refine wpAny_newObj_type ?_ (by size_fits)
   delta raiseNew;dsimp only
   refine bh (bh (wpAny_handled ?_))
   first|refine O (show Η.in1.handled=Ww from hh) ?_|rw[hh]
   refine wpAny_throw ?_;refine bh (wpAny_isInstance (T:="StopIteration") (b:=Wu) ⟨_,cr _ rfl,rfl⟩ isSubtype_stop ?_);exact cy (Vb _ λb o hb=>cb _ (cb _ hb))
  |susp v gl l k c p' fs=>
   have:=hN.1 v gl l k c p' fs aT hp hq;exact(cy ⟨v,rfl,cy this⟩:wpAny (model Pg W0) Η.in1 (dm _) _ _ _) Γ p Ĩ
theorem EV:@ξ A E s a g P Q:=iY (a9 (bA (bA @ξ))) ((((((A,E),s),a),g),P),Q) CC
end
section
variable{F:Fn}{B:Nat}
variable{A:dj}{cx:Cx}{asg:List Str}{Á:Env}{s s':ak}{Na No Ng:Ap}{pe:Ã}{E:Vs}
theorem iL (h:pg s.gens) (hg:gs.bare=Wu):pg (s.setGen g gs).gens:= by
 intro y hy;unfold ui at hy;simp only at hy;rcases Array.mem_or_eq_of_mem_setIfInBounds hy with h1|rfl
 ·exact h y h1
 ·exact hg
theorem lM (Fy:i≠g) (h:s.gens[i]?=J y):(s.setGen g gs).gens[i]?=J y:= by
 unfold ui;simp only;exact O (Array.getElem?_setIfInBounds_ne (qm Fy)) h
theorem Later.trans' (h1:∀b o,Ng b->s.heap.get? b=J o->s'.heap.get? b=J o) (hg:s.heap.objs.size<=s'.heap.objs.size) (h:Later Ng s' Gw):Later Ng s Gw:=
 ⟨λb o hb e=>h.own b o hb (h1 b o hb e),h.keep,aa hg h.grow,h.toks,h.bare⟩
def ť (Na Ng:Ap) (I:fy):Ap:=λb=>Na b\/Ng b\/b=I
structure â (A:dj) (cx:Cx) (asg:List Str) (Á:Env) (À:List PV) (s:ak) (Na No:Ap) (I:fy) (gi:Nat) (k:Nat) (pe:Ã) (Ng BY:Ap) (s':ak):Prop where
 ext:Õ s No s' BY
 env_:Ä cx asg Á s' (ť Na Ng I) BY pe
 gen:s'.heap.IsGen I gi
 high:∀b,Ng b->s.heap.objs.size<=b
 apart:¬Ng I
 run:∃gs,s'.gens[gi]?=J gs/\∀Gw,Later Ng s' Gw->Υ A.in1 gs Gw (ģ A.in1 À (À.length-k) Ng Gw)
structure Τ (s' dO s₄:ak) (Ng Ne Ng':Ap) (gi:Nat):Prop where
 sub:∀b,Ng b->Ng' b
 new:∀b,Ng' b->Ng b\/s'.heap.objs.size<=b
 e:Õ (s'.setGen gi .running) Ng dO Ne
 low:ď Ng' s₄.heap
 keep:∀b o,dO.heap.get? b=J o->s₄.heap.get? b=J o
 grow:s'.heap.objs.size<=s₄.heap.objs.size
 toks:s₄.toks=dO.toks
 bare:pg s₄.gens
 os:s₄.os=dO.os
 drawn:s₄.drawn=dO.drawn
 gens:∀i y,i≠gi->dO.gens[i]?=J y->s₄.gens[i]?=J y
theorem vD{À:List PV}{I:fy}{gi k:Nat}{BY Ne Ng':Ap}(Iu:Ä cx asg Á s Na No pe){Do:Ã}(Mb:s.gens.size<=gi) (V:â A cx asg Á À s Na No I gi k Do Ng BY s'){dO s₄:ak}(W:Τ s' dO s₄ Ng Ne Ng' gi):
  Õ s No s₄ BY/\Ä cx asg Á s₄ (ť Na Ng' I) BY Do/\s₄.heap.IsGen I gi:= by
 have X:=V.env_;have Px:=W.grow;have htk:s'.toks<=s₄.toks:=by exact O W.toks (show(s'.setGen gi .running).toks<=dO.toks from Õ.toks W.e)
 refine(ß ⟨⟨λb o hn e=>?_,aa V.ext.step.grow Px,V.ext.step.new⟩,λi y e=>?_,λ_=>W.bare,?_,?_,aa (Õ.toks V.ext) htk⟩ ?_ ?_)
 ·exact W.keep b o (W.e.step.keep b o (λq=>absurd (dc e) (bp.mpr (V.high b q))) (V.ext.step.keep b o hn e))
 ·have Fy:i≠gi:=λq=>absurd (mh.mp e).1 (bp.mpr (q▸Mb));exact W.gens i y Fy (W.e.gens i y (lM Fy (V.ext.gens i y e)))
 ·exact O W.os (O W.e.os V.ext.os)
 ·exact O W.drawn (O W.e.drawn V.ext.drawn)
 ·refine X.pokes (Z:=Ng) (λb q=>.inr (.inl q)) (λy c h q=>absurd (Iu.cellsLow y c h) (bp.mpr (V.high c q))) (λb q=>q.imp id λq=>q.imp (W.sub b) id) (λb q=>?_) (λb q=>?_) (λb o hn e=>W.keep b o (W.e.step.keep b o hn e)) Px htk (λ_=>W.bare)
  ·rcases q with q|q|q
   ·exact .inl (.inl q)
   ·exact(W.new b q).imp (λq=>.inr (.inl q)) id
   ·exact .inl (.inr (.inr q))
  ·rcases q with q|q|q
   ·exact af (X.base.low b (.inl (.inl q))) Px
   ·exact W.low b q
   ·exact af (X.base.low b (.inl (.inr (.inr q)))) Px
 ·refine mL V.gen λo nm qn e r=>?_;exact(kJ o nm qn (W.keep I o (W.e.step.keep I o V.apart e)) r)
theorem x6 (h:s.gens[g]?=J y):(s.setGen g gs).gens[g]?=J gs:= by
 unfold ui;have:=(mh.mp h).1;simp[this]
theorem CD (h:ģ A À 0 Ng Â e dO):∃Ng',(∀b,Ng b->Ng' b)/\Õ Â Ng dO Ng'/\ď Ng' dO.heap/\e=.ret (.ok (.ret .none)):=h
theorem sub_pos{a k:Nat}(h:a-k≠0):∃m,a-k=m+1/\k<a/\a-(m+1)=k/\a-(k+1)=m:= by
 have h1:=Nat.lt_of_sub_ne_zero h;have e:a-k-1+1=a-k:=cf (zn h1);exact⟨a-k-1,e.symm,h1,by exact O e (Nat.sub_sub_self (dp h1)),(Nat.sub_sub a k 1).symm⟩
theorem J2{À:List PV}{I:fy}{gi k:Nat}{BY:Ap}{Q:Option aj->ak->Prop}(Iu:Ä cx asg Á s Na No pe){Do:Ã}(Mb:s.gens.size<=gi) (V:â A cx asg Á À s Na No I gi k Do Ng BY s'){v:aj}{gl:Bool}{l:List aj}{kk:Resume->Sem Fin}{c:En}{p:Pos}{fs:List Bz}{dO:ak}
  (hp:ģ A.in1 À (À.length-k) Ng (s'.setGen gi .running) (.susp v gl l kk c p fs) dO) (hq:(zo v gl l kk c p fs).quiet=Wu)
  (Ku:k<À.length->∀v q Â Ng',À[k]?=J q->(∀b,Ng b->Ng' b)->RV Â.heap (λb=>ť Na Ng' I b\/BY b) v q->â A cx asg Á À s Na No I gi (k+1) Do Ng' BY Â->Q (J v) Â):
  Q (J v) (dO.setGen gi (zo v gl l kk c p fs).genState):= by
 by_cases h0:À.length-k=0
 ·rw[h0] at hp;refine cH (CD hp) λ_ _ _ _ h=>?_;cases h
 ·refine cH (sub_pos h0) λm hm Fv Py Gq=>?_;rw[hm] at hp;obtain⟨Ng',IF,he,Hk,v',gl',l',k',c',p',Jr,Lj,Rn,⟨q,Tk,T,vs,tl,hv,rfl,Vc,Ti,Vd,Ve⟩,Pb⟩:=hp;cases Lj;subst hv;rw[Py] at Tk;have X:=V.env_;refine Å V.run λgs Kt _=>?_;have Sd:pg (s'.setGen gi .running).gens:=iL X.base.bare rfl;have a:=vD Iu Mb V (s₄:=dO.setGen gi (zo (zy T) gl l kk c p fs).genState) ⟨IF,he.step.new,he,Hk,λ_ _ e=>e,he.step.grow,rfl,iL (he.bare Sd) (End.bare_of_quiet hq),rfl,rfl,λi y Fy e=>lM Fy e⟩;have nlow:∀{b},b<s'.heap.objs.size->b≠T:=λhb e=>absurd hb (bp.mpr (e▸Ti));refine Ku Fv _ _ _ Ng' Tk IF (.tup (λq=>?_) Vd (Ve _ _)) ⟨a.1,a.2.1,a.2.2,λb q=>(he.step.new b q).elim (V.high b) λq=>aa V.ext.step.grow q,λq=>(he.step.new I q).elim V.apart λq=>absurd (X.base.low I (.inl (.inr (.inr rfl)))) (bp.mpr q),?_⟩
  ·rcases q with(q|q|q)|q
   ·exact nlow (X.base.low T (.inl (.inl q))) rfl
   ·exact Vc q
   ·exact nlow (X.base.low T (.inl (.inr (.inr q)))) rfl
   ·exact nlow (X.base.low T (.inr q)) rfl
  ·refine(Ö _ (x6 (he.gens gi _ (x6 Kt))) (λGw Nd=>.inr (fP kk l c (kJ p fs _ rfl ?_))));exact O Gq (lL.mp (Pb Gw ⟨Nd.own,Nd.keep,Nd.grow,Nd.toks,Nd.bare⟩))
theorem P8{À:List PV}{I:fy}{gi k:Nat}{BY:Ap}{Q:Option aj->ak->Prop}(Iu:Ä cx asg Á s Na No pe){Do:Ã}(Mb:s.gens.size<=gi) (hk:k<=À.length) (V:â A cx asg Á À s Na No I gi k Do Ng BY s'){r:ym}{dO:ak}
  (hp:ģ A.in1 À (À.length-k) Ng (s'.setGen gi .running) (.ret r) dO) (Kv:k=À.length->∀Â,Õ s No Â BY->Ä cx asg Á Â Na BY Do->Q Ww Â):
  r=.ok (.ret .none)/\∀h',(∀b o,dO.heap.get? b=J o->h'.get? b=J o)->s'.heap.objs.size<=h'.objs.size->Q Ww {dO.setGen gi .finished with heap:=h'}:= by
 by_cases h0:À.length-k=0
 ·rw[h0] at hp;refine cH (CD hp) λNg' IF he Hk h=>?_;cases h;refine⟨rfl,λh' Hm hg=>?_⟩;have Sd:pg (s'.setGen gi .running).gens:=iL V.env_.base.bare rfl;have a:=vD Iu Mb V (s₄:={dO.setGen gi .finished with heap:=h'}) (Ng':=Ng) ⟨λ_ q=>q,λ_ q=>.inl q,he,λb q=>af (V.env_.base.low b (.inl (.inr (.inl q)))) hg,Hm,hg,rfl,iL (he.bare Sd) rfl,rfl,rfl,λi y Fy e=>lM Fy e⟩;exact Kv (eo hk (Nat.le_of_sub_eq_zero h0)) _ a.1 (a.2.1.narrow λb q=>.inl q)
 ·refine Å (sub_pos h0) λm hm _=>?_;rw[hm] at hp;refine cH hp λNg' IF he Hk zt=>?_;refine fW zt λv' gl' l' k' zt=>?_;refine mL zt λc' p' Jr Lj _=>?_;clear zt;clear hp;cases Lj
theorem P9 (GK:ă){À:List PV}{I:fy}{gi k:Nat}{BY:Ap}{Q:Option aj->ak->Prop}(R:Ê A 3) (Iu:Ä cx asg Á s Na No pe){Do:Ã}(Mb:s.gens.size<=gi) (hk:k<=À.length)
  (V:â A cx asg Á À s Na No I gi k Do Ng BY s')
  (Kv:k=À.length->∀Â,Õ s No Â BY->Ä cx asg Á Â Na BY Do->Q Ww Â)
  (Ku:k<À.length->∀v q Â Ng',À[k]?=J q->(∀b,Ng b->Ng' b)->RV Â.heap (λb=>ť Na Ng' I b\/BY b) v q->â A cx asg Á À s Na No I gi (k+1) Do Ng' BY Â->Q (J v) Â):
  wpAny (model Pg W0) A (pyNext (.ref I)) Q E s':= by
 refine Å V.run λgs Kt Hv=>?_;have X:=V.env_;refine bD (EV R.hh (GK.nolimit.keeps X.base.keep) R.lim V.gen Kt (Hv _ ⟨λ_ _ _ e=>e,X.base.keep,ai _,X.base.toks,iL X.base.bare rfl⟩) ⟨λv gl l kk c p fs dO hp hq _=>J2 Iu Mb V hp hq Ku,λr dO hp=>?_⟩);have h:=P8 Iu Mb hk V hp Kv;exact⟨h.1,λh' Hm hm=>h.2 h' Hm hm.1⟩
theorem EW (h:D4 g=Wu):g=.gen:=by cases g<;>first|exact nf h|rfl
theorem zS (h:mU p=J À):∃x,p=.str x/\(x.length<=10000/\x.cps.all (·<128)=Wu)/\gR 0 Wv x.cps.toList=À:= by
 cases p<;>try (exact nn h)
 exact(gQ _ rfl ((aZ h).1) (sm (aZ h).2))
theorem J3 (P:Pure s aT):s.gens.size<=aT.gens.size:= by
 rcases yn s.gens.size with h0|hp
 ·exact O h0 (jd _)
 ·have h1:s.gens[s.gens.size-1]?=J s.gens[s.gens.size-1]:=Array.getElem?_eq_getElem (Ek hp wn);have:=(mh.mp (P.gens _ _ h1)).1;exact ā (.x .q .r) [.y .s .r,.z1 .q (.A .s .n1)] this (cf (ĉ [_] (.x .n1 .q) [.y .n0 .q] hp)).symm
theorem â.step (V:â A cx asg Á À s Na No I gi k Do Ng BY s') (e:Õ s' BY Â Gh) (X:Ä cx asg Á Â (ť Na Ng I) Gh Fz):â A cx asg Á À s Na No I gi k Fz Ng Gh Â:= by
 refine⟨V.ext.trans e,X,?_,V.high,V.apart,?_⟩
 ·refine mL V.gen λoI nm qn hoI r=>?_;exact(kJ oI nm qn (e.step.keep _ _ (λq=>V.env_.disj _ q (.inr (.inr rfl))) hoI) r)
 ·refine Å V.run λgs Kt Hv=>?_;exact(Ö gs (e.gens _ _ Kt) (λGw hL=>Hv Gw (Later.trans' (λb o hb ho=>e.step.keep b o (λq=>V.env_.disj b q (.inr (.inl hb))) ho) e.step.grow hL)))
theorem QA{À:List PV}{I:fy}{gi k n:Nat}{BY:Ap}{Do pe':Ã}{fl:Fl}{ts:List Nat}{body:ù}{tgt:az}{bsl:List jg}{v:aj}{q:PV}{Q:Bw->ak->Prop}{Wt:Nat->ak->Prop}(hh:A.handled=Ww) (ha:à F B body) (htop:cx.top=Wu) (R2:Ê A (ě body+B))
  (h1:pC cx asg tgt ts=Wu) (h5:gE cx asg bsl body=Wu) (hq:À[k]?=J q) (Kf:RV s'.heap (λb=>ť Na Ng I b\/BY b) v q) (V:â A cx asg Á À s Na No I gi (k+1) Do Ng BY s') (hf:e9 (aD F body) ts (À.drop k) Do=J (pe',fl))
  (hQ:∀f s' No',Õ s No s' No'->Ä cx asg Á s' (ť Na Ng I) No' pe'->Ķ s'.heap (ť Na Ng I) fl f->Q f s')
  (hJ:∀Â Gh Fz,â A cx asg Á À s Na No I gi (k+1) Fz Ng Gh Â->e9 (aD F body) ts (À.drop (k+1)) Fz=J (pe',fl)->∃m,m<n/\Wt m Â):
  wpAny (model Pg W0) A (letOwnedTupleGo tgt (.ref I) v) (λ_ Gy=>wpAny (model Pg W0) A (assign tgt Á v) (λ_ Â=>wpAny (model Pg W0) A (execs bsl Á) (λf dO=>match f with
   |.next|.cont=>∃m,m<n/\Wt m dO
   |.brk=>Q .next dO
   |.ret v=>Q (.ret v) dO) E Â) E Gy) E s':= by
 rw[qW hq] at hf;refine oB (xT hf) λpe1 Ik f2 hb d2 h=>?_;refine oB V.gen λoI nm qn hoI hcI _=>?_;refine r9 hoI hcI (by decide) (u4 hh V.env_ h1 Kf hb λFs Jp Gd=>?_);have Pd:=V.step Jp Gd;rcases h with⟨rfl,h⟩|⟨v,rfl,rfl,rfl⟩
 ·refine ha htop R2 Gd h5 d2 λf Gc Ji Hn Hr hf=>?_;cases hf.next_inv;exact hJ Gc Ji Ik (Pd.step Hn Hr) h
 ·refine ha htop R2 Gd h5 d2 λf Gc Ji Hn Hr hf=>?_;apply ŀ hf.ret_inv;intro v hr;exact hQ _ _ Ji (Pd.step Hn Hr).ext Hr (.ret hr)
theorem QB (GK:ă){À:List PV}{I:fy}{gi:Nat}{pe':Ã}{fl:Fl}{ts:List Nat}{body:ù}{tgt:az}{bsl:List jg}{RR:ym->ak->Prop}(R:Ê A 3) (X:Ä cx asg Á s Na No pe) (Vf:s.gens.size<=gi) (ha:à F B body) (htop:cx.top=Wu) (R2:Ê A (ě body+B))
  (h1:pC cx asg tgt ts=Wu) (h5:gE cx asg bsl body=Wu) (V:â A cx asg Á À s Na No I gi 0 pe Ng No s') (hf:e9 (aD F body) ts À pe=J (pe',fl))
  (hQ:∀f s' No',Õ s No s' No'->Ä cx asg Á s' Na No' pe'->Ķ s'.heap Na fl f->RR (.ok f) s'):codeAny (model Pg W0) A (.forLoop tgt (.ref I) bsl [] Á) RR s':= by
 refine u5 (λn s'=>∃k Do Ng BY,k<=À.length/\n=À.length-k/\â A cx asg Á À s Na No I gi k Do Ng BY s'/\e9 (aD F body) ts (À.drop k) Do=J (pe',fl)) ?_ À.length (f7 0 pe Ng No (jd _) rfl ⟨V,hf⟩);clear V hf
 rintro n s' ⟨k,Do,Ng,BY,hk,rfl,V,hf⟩ E'
 refine P9 GK R X Vf hk V (λNf Â he X'=>?_) (λFv v q s₄ Ng' hq IF Kf V'=>?_)
 ·subst Nf;rw[ow] at hf;refine xa (dI hf) λbc Gf=>?_;subst bc;subst Gf;exact hQ _ _ BY he X' .next
 ·exact QA (Q:=λf s=>RR (.ok f) s) R.hh ha htop R2 h1 h5 hq Kf V' hf (λf s' No' e X' hf=>hQ f s' No' e (X'.narrow λb q=>.inl q) (hf.narrow λb q=>.inl q)) λÂ Gh Fz Se hf=>(Ö (À.length-(k+1)) (oz Fv (dg k)) (f7 (k+1) Fz Ng' Gh Fv rfl ⟨Se,hf⟩))
set_option maxHeartbeats 1600000 in
theorem QC (hB:3<=B) (GK:ă) (FK:î F B) (g:ć (fA 1000)) (ha:à F B body):ë F B (.esc ts e body):= by
 intro A cx asg Á s Na No pe pe' fl Ip Q E htop R X hc hd hQ;have R':Ê A (max (nd e) (ě body)+B):=R.le (ax (je _ 12) _);have R3:Ê A (B+10):=R.le (by show B+10<=max (nd e) (ě body)+12+B;exact ä (.x (.A .q (.N 10)) (.A (.A .r (.N 12)) .q)) []);refine fW (VS hc) λtgt g' a cpos zt=>?_;apply iS zt;intro bsl pos h1 h2 zt;refine Ē zt λh3 h4 h5=>?_;clear zt;refine fE (V0 hd) λp À d1 č hf=>?_;obtain⟨x,rfl,hx,rfl⟩:=zS č;clear hc hd č;apply fG (jH h2);intro gx gpos gg q1 q2 q3 q4;refine wpAny_For (wpAny_Call_NameR (g7 GK X q1 q2 q3 λv hv=>?_)) (λ_=>rfl);cases EW q4;apply xr hv;intro zt;refine mF zt λo fd hg Qx=>?_;clear zt;clear hv;refine O (bZ h3) (uu (o:=o) (fd:=fd) (ic (ez ((bW hB GK FK e).1 R'.n1 X h4 d1 λv aT bY DO=>iv ⟨⟨bY.keep _ _ (X.base.keep _ _ hg),Qx⟩,?_⟩))));apply Ü DO.t.inv;intro tx;refine P7 GK g (R3.le (aa (by decide) (ll 10 B))) (X.pure bY).base λÂ At iF Kt Tl Vg Nd Vh Lh Ki Xg Pe Jd=>?_;refine wpAny_pyIter_gen Pe ?_;generalize Â.heap.objs.size-1=I at*;have P12:=bY.trans iF;have Tm:s.heap.objs.size<=At.locals:=aa bY.step.grow Vg;have hsI:s.heap.objs.size<=I:=aa bY.step.grow Lh;have Fi:Ä cx asg Á Â (ť Na (ü At.locals) I) No pe:= by
  refine X.wideA P12 (λb q=>.inl q) (λb q=>?_) λb q=>?_
  ·rcases q with q|q|q
   ·exact .inl q
   ·exact .inr (by exact O q Tm)
   ·exact .inr (by exact O q hsI)
  ·rcases q with q|q|q
   ·exact af (X.base.low b (.inl q)) P12.step.grow
   ·exact O q (jn Nd)
   ·exact O q Ki
 refine QB GK (R3.le (aa (by decide) (ll 10 B))) X (J3 bY) ha htop R'.n2 h1 h5 (Ng:=ü At.locals) ⟨Pure.toExt P12 λb q=>.inl q,Fi,Pe,λb q=>by exact O q Tm,λq=>Vh q.symm,_,Jd,λGw hL=>.inl ⟨_,rfl,?_⟩⟩ hf hQ;have Xg':=Xg.again (Ng:=ü At.locals) (Na':=λ_=>False) (No':=ü At.locals) (λi q h=>ES h) rfl rfl Tl hL rfl
  (λb q=>q.elim (λq=>q.elim) λq=>⟨by exact O q (Xg.base.above _ (.inr rfl)),by refine O q ?_;exact af (Xg.base.low _ (.inr rfl)) hL.grow⟩) rfl (λb _ q=>q)
 exact lL.mp (J1 (A:=A) hB GK FK Kt Tl g.chk hx.1 hx.2 R3 Xg')
end
end Mine.Internal
end
section
set_option tactic.hygienic true
open PySem PySem.W PyProof.Rows
namespace Mine.Internal
section
variable{F:Fn}{B:Nat}
theorem WD (hB:3<=B) (GK:ă) (FK:î F B) (g:ć (fA 1000)) (p:PS):ë F B p:=
 have v:∀p,È F B p:=λp=>(bW hB GK FK p).1;have t:∀p,Ô F B p:=λp=>(bW hB GK FK p).2;have i:∀p,í F B p:=λp=>sS hB GK FK p
 PS.rec (motive_1:=λp=>ë F B p) (motive_2:=λp=>à F B p) (λk e=>pD v t i k e) (λk e=>JS v t i k e) (λts e=>JV v ts e) (λk op e=>PN v k op e) (λk e=>PP v k e) (λk e=>PQ v k e) (λj i=>PT j i)
  (λ_ _ _ x y=>PW t x y) (λ_ _ _ x=>PZ i x) (λ_ _ _ x=>QC hB GK FK g x) (λ_ _ _ x=>EO t x) (λe=>PO v e) xX (λ_ _ x y=>u6 x y) p
theorem CE (hB:3<=B) (GK:ă) (FK:î F B) (g:ć (fA 1000)):∀p:ù,à F B p
 |.nil=>xX
 |.cons s ss=>u6 (WD hB GK FK g s) (CE hB GK FK g ss)
theorem QD{F:Fn}(hd:dP F f ps=J r):ps.length=f.pars.length/\∃pe',aD F f.code (mY ps f.n)=J (pe',.ret r):= by
 have h:=aZ hd;refine⟨h.1,?_⟩;have h2:=h.2;revert h2;cases aD F f.code (mY ps f.n) with
 |none=>exact nn
 |some x=>
  obtain⟨p,fl⟩:=x;cases fl with
  |ret v=>exact λh=>⟨p,congrArg (λv=>J (p,Fl.ret v)) (sm h)⟩
  |_=>exact nn
def ς{f:Î}{body:List jg}{sc:jx}{a:fy}{o:Obj}{name:Str}{params:Ae}{pm cd ĵ:aj}{A:dj}{s:ak}{N:Ap}{vs:List aj}{ps:List PV}{r:PV}{Q E:Vs} :Prop:=∀(hB:3<=B) (GK:ă) (FK:î F B) (g:ć (fA 1000)) (hc:V3 f body sc=Wu) (ho:H0.get? a=J o) (Mc:o.data=.func (ec name params body sc pm cd ĵ)) (Sf:H0.CodeRec cd name) (Md:∀vs:List aj,vs.length=f.pars.length->bindArgs (ec name params body sc pm cd ĵ) ⟨vs,[]⟩=dm (f.pars.zip vs)) (R:Ê A (ě f.code+B+1)) (Bs:ñ s N) (rs:Í s.heap N vs ps) (hd:dP F f ps=J r) (hQ:∀v s',Pure s s'->RV s'.heap N v r->Q v s'),wpAny (model Pg W0) A (call (.ref a) vs) Q E s
def gU:=@gZ _ ⟨((((((((((((((((((ac,⟨[],0,[],[],[],.nil⟩),ac),ac),ac),ac),ac),ac),ac),ac),ac),{}),{}),ac),ac),ac),.none),ac),ac)⟩ (a9 (a9 (a9 (a9 (bA (bA (bA @ς)))))))
def Ė:=gU.1.1.1.1.1.1.1.1.1.1.1.1.1.1.1.1.1.2
def hO:=gU.1.1.1.1.1.1.1.1.1.1.1.1.1.1.1.1.2
def fJ:=gU.1.1.1.1.1.1.1.1.1.1.1.1.1.1.1.2
def a_G:=gU.1.1.1.1.1.1.1.1.1.1.1.1.1.1.2
def Ŏ:=gU.1.1.1.1.1.1.1.1.1.1.1.1.1.2
def hV:=gU.1.1.1.1.1.1.1.1.1.1.1.1.2
def cY:=gU.1.1.1.1.1.1.1.1.1.1.1.2
def rB:=gU.1.1.1.1.1.1.1.1.1.1.2
def rC:=gU.1.1.1.1.1.1.1.1.1.2
def kS:=gU.1.1.1.1.1.1.1.1.2
def Ĳ:=gU.1.1.1.1.1.1.2
def WE:=gU.1.1.1.1.2
theorem EX:@ς gU.1.1.1.1.1.1.1.1.1.1.1.1.1.1.1.1.1.1.1 gU.1.1.1.1.1.1.1.1.1.1.1.1.1.1.1.1.1.1.2 Ė hO fJ a_G Ŏ hV cY rB rC kS gU.1.1.1.1.1.1.1.2 Ĳ gU.1.1.1.1.1.2 WE gU.1.1.1.2 gU.1.1.2 gU.1.2 gU.2:= by
 intro hB GK FK g hc ho Mc Sf Md R Bs rs hd hQ;obtain⟨hlen,pe',Sg⟩:=QD hd;simp only[V3,bt,en] at hc;obtain⟨⟨⟨⟨⟨⟨⟨⟨⟨c1,c2⟩,c3⟩,c4⟩,c5⟩,c6⟩,c7⟩,c8⟩,c9⟩,c10⟩:=hc;have It:fJ.kind=.function:=aq c1;have Vi:WE.length=Ė.pars.length:=by exact O rs.length (O hlen rfl)
 have hz:∀x∈Ė.pars.zip WE,fJ.names.lookup x.1=J .local\/fJ.names.lookup x.1=J .cell:= by
  intro x hx;refine xe (List.mem_iff_getElem?.mp (Bg hx).1) λj hj=>?_;exact(qZ c9 hj).2.2.2
 have Pz:∀y,fJ.names.lookup y=J .cell->∃c,(cellsFrom (Ĳ.heap.objs.size+1) fJ.names []).lookup y=J c/\Ĳ.heap.objs.size+1<=c:= by
  intro y hy;have:=jN (h:=Ĳ.heap.push {cls:=.type "dict",data:=.dict #[]}) (acc:=[]) c4 (bC hy);rw[br] at this;refine mK this λc q1 q2 _=>?_;exact(Ö c q1 q2)
 refine wpAny_call (codeAny_call_function R.lim (Bs.keep _ _ ho) Mc c3 c2 rfl (Sf.keeps Bs.keep) ?_);refine O (Md WE Vi) ?_;refine cy (bD (wpAny_newFunctionEnv_cells It (λx hx=>(hz x hx).imp id λq=>⟨q,by refine Å (Pz _ q) λc q1 _=>?_;show(Ak x.1 (cellsFrom _ fJ.names [])).isSome=Wu;refine O q1 ?_;rfl⟩) λÁ he aT x hm=>?_));subst he;refine⟨GK.nolimit.keeps λb Ŏ e=>x.toInCall.keep b Ŏ (Bs.keep b Ŏ e),codeAny_func ?_⟩;refine Ľ x.toInCall.same λFj tk bc=>?_;subst bc;have Kw:(newEnv (ec hV cY hO fJ rB rC kS).scope Ĳ.heap.objs.size (ec hV cY hO fJ rB rC kS).globals (cellsFrom (Ĳ.heap.objs.size+1) (ec hV cY hO fJ rB rC kS).scope.names [])
   ((ec hV cY hO fJ rB rC kS).qualname++".<locals>.") (J a_G) (ec hV cY hO fJ rB rC kS).code Ww (ec hV cY hO fJ rB rC kS).builtins).kindOf=λy=>fJ.names.lookup y:=rfl
 generalize Kx:(newEnv (ec hV cY hO fJ rB rC kS).scope Ĳ.heap.objs.size (ec hV cY hO fJ rB rC kS).globals (cellsFrom (Ĳ.heap.objs.size+1) (ec hV cY hO fJ rB rC kS).scope.names [])
   ((ec hV cY hO fJ rB rC kS).qualname++".<locals>.") (J a_G) (ec hV cY hO fJ rB rC kS).code Ww (ec hV cY hO fJ rB rC kS).builtins)=Á at*
 have hL:Á.locals=Ĳ.heap.objs.size:=by refine aFZ Kx ?_;rfl
 have hC:Á.cells=cellsFrom (Ĳ.heap.objs.size+1) fJ.names []:=by refine aFZ Kx ?_;rfl
 have hS:Á.scope=fJ:=by refine aFZ Kx ?_;rfl
 have hG:Á.globals=mainGlobals:=by refine aFZ Kx ?_;rfl
 have Sb:Á.builtins=builtinsNs:=by refine aFZ Kx ?_;rfl
 have Ia:∀y,Á.kindOf y=fJ.names.lookup y:=λy=>congrFun Kw y;have Fp:=x.toInCall.ns;have Ie:Ĳ.heap.objs.size<Fj.objs.size:=by refine aFZ hL ?_;refine mL Fp λŎ _ _ e _=>?_;exact dc e
 have P:Pure Ĳ {Ĳ with heap:=Fj,toks:=tk}:=Pure.mk' (λb Ŏ e=>x.toInCall.keep b Ŏ e) hm;have arg:∀(y:Str) (i:Nat) (p:PV),(Ė.cx fJ).vars.lookup y=J i->lk (mY gU.1.1.1.2 Ė.n) i=J p->Ė.pars[i]?=J y/\gU.1.1.1.2[i]?=J p/\Ė.own.contains i=Wv/\Ė.tk.contains i=Wv:= by
  intro y i p h1 h2;have h3:=V4 h2;have hi:i<Ė.pars.length:=by exact aFZ hlen ((dw.mp h3).1)
  have h4:Ė.pars[i]?=J Ė.pars[i]:=by simp[hi]
  refine bS (qZ c9 h4) λq1 q2 q3 _=>?_;simp only[gk] at q1 q2 q3;have:y=Ė.pars[i]:=lJ c6 h1 q1;exact(fH (by exact O this h4) h3 q2 q3)
 have X:Ä (Ė.cx fJ) (cJ fJ) Á {Ĳ with heap:=Fj,toks:=tk} gU.1.1.1.1.1.2 (λb=>Ĳ.heap.objs.size<=b/\b<Fj.objs.size) (mY gU.1.1.1.2 Ė.n):={
  base:={(Bs.pure P) with
   above:=λb q=>q.elim (Bs.above b) λq=>aa Bs.size q.1
   low:=λb q=>q.elim (λq=>eb (Bs.low b q) Ie) λq=>q.2}
  kind:=by exact O hS It
  glb:=hG
  blt:=Sb
  gl:=λy hy=>by exact O (Ia ..) hy
  cl:=λy hy=>by
   have Lc:fJ.names.lookup y=J .cell:= by
    rcases hy with hy|hy
    ·exact hy
    ·have:=bz.mp c7 _ (bC hy);simp at this
   refine Å (Pz y Lc) λc q1 q2=>?_;exact(MQ (.inl (by exact O (Ia ..) Lc)) c _ (by refine O hC ?_;exact q1) (x.cell y c (by exact O hC q1)))
  ns:=⟨_,Fp⟩
  noL:=by exact O hL ⟨ai _,Ie⟩
  apart:=λy z c h1 h2=>name_of_addr x.apart (bC h1) (bC h2)
  cellsLow:=λy c h=>(x.cell y c h).lt
  vars:=λy i p h1 h2=>by
   refine bS (arg y i p h1 h2) λh3 h4 h5 h6=>?_;refine Å (rs.get h4) λv hv rv=>?_;have hb:=G6 (ko:=Á.kindOf) (m:=λ_=>Ww) (m':=λ_=>Ww) c8 h3 hv;refine(gQ v ?_ ?_ (λh=>by rw[show(Ė.cx fJ).tk.contains i=Ė.tk.contains i from rfl,h6] at h;cases h))
   ·have hk:=(qZ c9 h3).2.2.2;rcases hk with hk|hk
    ·exact .loc _ (by exact O (Ia ..) hk) Fp (hb.1 (by refine O (Ia ..) ?_;exact hk))
    ·refine Å (Pz y hk) λc q1 q2=>?_;have:=x.cell y c (by exact O hC q1);rw[hb.2 (by refine O (Ia ..) (O hk ?_);decide)] at this;exact .cell c (.inl (by exact O (Ia ..) hk)) (by refine O hC ?_;exact q1) this
   ·exact O (show(Ė.cx fJ).own.contains i=Ė.own.contains i from rfl) (O h5 (rv.step ⟨λb Ŏ _ e=>Pure.keep P b Ŏ e,dp Ie,λb q=>q.elim .inl λq=>.inr q.1⟩))
  stores:=λy hy=>by
   obtain⟨⟨n,k⟩,Sa,e⟩:=ja.mp hy;simp only at e;subst e;refine xa (Bh.mp Sa) λID Gq=>?_;simp only[mr] at Gq;rcases Gq with Gq|Gq
   ·exact .loc (by exact O (Ia ..) (O (b7 c4 ID) (O (aq Gq) rfl)))
   ·have hk:fJ.names.lookup n=J .cell:=by exact O (b7 c4 ID) (O (aq Gq) rfl)
    refine Å (Pz n hk) λc q1 q2=>?_;have Ft:=x.cell n c (by exact O hC q1);exact .cell c _ (by exact O (Ia ..) hk) (by refine O hC ?_;exact q1) ⟨iw q2,Ft.lt⟩ Ft
  inj:=λy z i h1 h2=>lJ c6 h1 h2
  alone:=λy z i j b h1 h2 h3 h4 h5 h6 h7 h8=>by
   refine xe (bg.mp h3) λp hp=>?_;have:=(arg y i p h1 hp).2.2.1;rw[show(Ė.cx fJ).own.contains i=Ė.own.contains i from rfl,this] at h5;cases h5
  disj:=λb hb ha=>absurd (Bs.low b ha) (bp.mpr hb.1)
  turns:=λy i b h1 h2 h3 h4=>by
   refine xe (bg.mp h3) λp hp=>?_;have:=(arg y i p h1 hp).2.2.1;rw[show(Ė.cx fJ).own.contains i=Ė.own.contains i from rfl,this] at h2;cases h2}
 have R':Ê (gU.1.1.1.1.1.1.1.2.deeper Á) (ě Ė.code+gU.1.1.1.1.1.1.1.1.1.1.1.1.1.1.1.1.1.1.2):=⟨R.hh,by have:=R.depth;show gU.1.1.1.1.1.1.1.2.depth+1+_<900;exact ā (.y (.A .kl (.A .r .s)) (.N 900)) [.y (.A .q (.A (.A .r .s) .n1)) (.N 900)] this,by have:=R.units;show gU.1.1.1.1.1.1.1.2.units+3+_<9000;exact ā (.y (.A (.A .q .n3) (.M .n8 (.A .r .s))) (.N 9000)) [.y (.A .q (.M .n8 (.A (.A .r .s) .n1))) (.N 9000)] this⟩;refine CE hB GK FK g Ė.code rfl R' X c10 Sg λfl s' No' he X' hf=>?_;cases hf with
 |ret hr=>
  have Vj:=P.toExt (No:=λ_=>False) (No':=λb=>Ĳ.heap.objs.size<=b/\b<Fj.objs.size) λb q=>.inr q.1;have Nh:=Vj.trans he;exact hQ _ s' ⟨⟨λb Ŏ _ e=>Nh.step.keep b Ŏ (λq=>q) e,Nh.step.grow,λ_ q=>q.elim⟩,Nh.gens,Nh.bare,Nh.os,Nh.drawn,Õ.toks Nh⟩ hr
theorem J4:@ς F B f body sc a o name params pm cd ĵ A s N vs ps r Q E:=iY (a9 (a9 (a9 (a9 (bA (bA (bA @ς))))))) (((((((((((((((((((F,B),f),body),sc),a),o),name),params),pm),cd),ĵ),A),s),N),vs),ps),r),Q),E) EX
end
end Mine.Internal
end
section
open PySem PySem.W PyProof.Rows
namespace Mine.Internal
def FT (aQ:List Î):Nat->Fn
 |0=>λ_ _=>Ww
 |n+1=>λf args=>match aQ[f]? with
  |some fs=>dP (FT aQ n) fs args
  |none=>Ww
structure ļ (a:fy) (f:Î) where
 name:Str
 params:Ae
 body:List jg
 sc:jx
 pm:aj
 cd:aj
 ĵ:aj
 o:Obj
 chk:V3 f body sc=Wu
 at_:H0.get? a=J o
 data:o.data=.func (ec name params body sc pm cd ĵ)
 code:H0.CodeRec cd name
 bind:∀vs:List aj,vs.length=f.pars.length->bindArgs (ec name params body sc pm cd ĵ) ⟨vs,[]⟩=dm (f.pars.zip vs)
section
set_option tactic.hygienic true in
theorem sB{aQ:List Î}{mx:Nat}(GK:ă) (g:ć (fA 1000)) (hr:∀k f,aQ[k]?=J f->Nonempty (ļ (fA k) f)) (hm:∀f∈aQ,ě f.code<=mx):
  ∀n:Nat,î (FT aQ n) (3+n*(mx+1))
 |0=>by
  intro f A s N vs ps r Q E R Bs rs hd;cases hd
 |n+1=>by
  intro f A s N vs ps r Q E R Bs rs hd hQ;have hd:(match aQ[f]? with|some fs=>dP (FT aQ n) fs ps|none=>Ww)=J r:=hd;revert hd;cases hf:aQ[f]? with
  |none=>exact nn
  |some fs=>
   intro hd;obtain⟨x⟩:=hr f fs hf;have Qo:=hm fs (xi hf);exact J4 (by exact ä (.x .n3 (.A .n3 (.M .q (.A .r .n1)))) []) GK (sB GK g hr hm n) g x.chk x.at_ x.data x.code x.bind (R.le (by exact O (Dc ..) (ā (.x (.A (.A .q (.A .n3 (.M .r (.A .s .n1)))) .n1) (.A .n3 (.A (.M .r (.A .s .n1)) (.A .s .n1)))) [.x .q .s] Qo))) Bs rs hd hQ
end
section
open PySem.Float64 (decode Right sgn dist infMag pack)
def Ç (x:UInt64):Prop:=∃a m e,decode x=.fin a m e
theorem ĭ:∀(k q:Nat),q<=2^53->∃t,xq t=q*2^k
 |0,q,h=>⟨_,Dd (k:=0) h (.inr rfl)⟩
 |k+1,q,h=>by
  by_cases h2:2^52<=q
  ·exact⟨_,Dd (k:=k+1) h (.inl h2)⟩
  ·refine xe (ĭ k (2*q) (Ć (.x (.M .n2 .q) .ke) [.Y 2 .q (.P .n2 52)] (Ep.mp h2))) λt ht=>?_;exact⟨t,by refine O ht (O (vm ..) ?_);(refine O (jj 2 q) (O (jz ..) ?_);rw[jj 2])⟩
theorem ğ{a b:Rat}(h:0<b):a/b*b=a:=ie (lu h)
theorem aA8 (h:a<=W):dist W a=W-a:=by unfold dist;refine O (oj h) ?_;rfl
theorem aA9 (h:W<=a):dist W a=a-W:=by unfold dist;exact O (oj h) (O (gk ..) rfl)
theorem aBA (d0:dist W c<=dist W a) (d1:dist W c<=dist W (a+b)) (e:a+r=W) (h:r<b):2*dist W c<=b:= by
 subst e;rw[aA8 (je a r),Nat.add_sub_cancel_left] at d0;rw[aA9 (dx (dp h) a),Nat.add_sub_add_left] at d1;exact O (Nat.two_mul ..) (aFZ (nj (dp h)) (jo d0 d1))
theorem kG (h:Right r neg W D) (hD:0<D) (k:Nat) (hk:k<=2040) (hW:W<=D*(2^53*2^k)):
  Ç r/\∃U:Nat,val r=sgn neg U/\2*dist W (D*U)<=D*2^k/\(∀q,q<=2^53->W=D*(q*2^k)->W=D*U):= by
 apply YR h;intro t ht Pf hn;clear h;have Fv:t<infMag:= by
  rcases ov t infMag with h|h
  ·exact h
  ·exfalso;have:=Pf.mp (eo (ht) (h));have h2:D*((2^54-1)*2^2045)<=D*(2*(2^53*2^k)):= by
    refine aa this ?_;exact O (nc ..) (ls 2 hW)
   have h3:=Nat.le_of_mul_le_mul_left h2 hD;have h4:(2:Nat)^k<=2^2040:=Nat.pow_le_pow_right (by decide) hk;have h5:2*(2^53*2^k)<=2*(2^53*2^2040):=ls 2 (ls _ h4);have h6:=aa h3 h5;exact absurd h6 (by decide +kernel)
 have hn:=hn Fv;refine mF (ye neg Fv) λm e hd hv=>?_;have Sh:val (pack neg t)=sgn neg (xq t):=by exact O (mi hd) (O hv rfl)
 refine(sI (fP _ _ _ hd) _ Sh ⟨?_,?_⟩)
 ·have hp:0<2^k:=jb k;have Vk:0<D*2^k:=Nat.mul_pos hD hp;have e1:=po W (D*2^k);have e2:=qd W Vk;generalize hq:W/(D*2^k)=q at e1;have Ph:q<=2^53:= by
   refine aFZ hq (Nat.div_le_of_le_mul ?_);refine aa hW (be ?_);simp only[jz,jj,nc]
  refine xe (ĭ k q Ph) λt0 Pi=>?_;have d0:=(hn t0).1;rw[Pi] at d0;have e3:D*(q*2^k)=D*2^k*q:=by simp only[jz,jj,nc]
  rw[e3] at d0;rcases ov q (2^53) with Si|Si
  ·refine xe (ĭ k (q+1) Si) λt1 Ln=>?_;have d1:=(hn t1).1;rw[Ln] at d1;have e4:D*((q+1)*2^k)=D*2^k*q+D*2^k:=by exact O (Nat.add_mul ..) (O (qg ..) (O (An ..) (O e3 rfl)))
   rw[e4] at d1;exact aBA d0 d1 e1 e2
  ·have:q=2^53:=by exact eo (Ph) (Si)
   have Vl:W<=D*2^k*q:= by
    refine aa hW (be ?_);refine O this ?_;simp only[jz,jj,nc]
   generalize D*2^k*q=a at*;generalize D*2^k=b at*;generalize D*xq t=c at*;unfold dist at*;exact ĉ [_,_,_,_,_,_,_] (.x (.M .n2 (.A .q .r)) .s) [.X 2 (.A .q .r) (.A .t .u),.Z 2 (.A .t .v) .w,.Z 2 (.A .u .w) .v] d0 (cf (ĉ [_,_,_] (.x .q .r) [.z1 (.A .q .s) .r] e1)) (cf (ĉ [_,_] (.x .q .r) [.x .q .r] Vl))
 ·intro q hq Vm;refine xe (ĭ k q hq) λt0 Pi=>?_;have d0:=(hn t0).1;rw[Pi,<-Vm] at d0;unfold dist at d0;exact eo (Ο (.x .q (.M .r .s)) [.x (.A .t .u) (.A .v .v),.x .q (.A .t (.M .r .s)),.Z 2 (.A .v .q) .q] d0 (ig (ai _)) (cf (ĉ [_] (.x .q .q) []))) (Ο (.x (.M .q .r) .s) [.x (.A .t .u) (.A .v .v),.x (.M .q .r) (.A .u .s),.Z 2 (.A .v .s) .s] d0 (ig (ai _)) (cf (ĉ [_] (.x .q .q) [])))
end
end Mine.Internal
end
section
open PySem PySem.W PyProof.Rows
set_option exponentiation.threshold 3000
namespace Mine.Internal
open PySem.Float64 (decode Right sgn dist infMag pack)
noncomputable def K:Nat:=2^1074
theorem İ:0<K:=jb 1074
theorem K_eq:2^1074=K:=rfl
theorem ĥ (j:Nat):2^53*2^(1021+j)=K*2^j:= by
 refine O (nv ..) (aFZ (jz ..) (aFZ (nv ..) ?_));rfl
theorem Ź (h:g<=1074):2^(1074-g)*2^g=K:= by
 refine aFZ (nv ..) (O (cf h) ?_);rfl
def R (x:UInt64):Rat:=(val x:Rat)/(K:Rat)
theorem å:(0:Rat)<(K:Rat):=by exact_mod_cast İ
theorem Ì (x:UInt64):(val x:Rat)=R x*(K:Rat):= by
 unfold R;exact(ğ å).symm
theorem sC (b:Bool):decode (pack b infMag)=.inf b:=by cases b<;>kernel_rfl
theorem kU (h:Right r neg W D) (hD:0<D) (hj:j<=1000) (hW:W<=D*(K*2^j)):
  Ç r/\(-((D*(K*2^j):Nat):Int)<=(val r*(D:Int)-sgn neg W)*2^54/\(val r*(D:Int)-sgn neg W)*2^54<=((D*(K*2^j):Nat):Int))/\
   (∀q g,g<=1074->q<=2^53->W*2^g=D*(q*K)->val r*(D:Int)=sgn neg W):= by
 refine sG (kG h hD (1021+j) (Ć (.x (.A (.N 1021) .q) (.N 2040)) [.x .q .kn] hj) (by exact O (ĥ ..) hW)) λhf U hv zt=>?_;refine xa zt λhd he=>?_;clear zt;refine(ß hf ?_ ?_)
 ·have e1:2^53*(D*2^(1021+j))=D*(K*2^j):=by refine aFZ (ĥ ..) ?_;simp only[nc]
  have e2:2^54*dist W (D*U)<=D*(K*2^j):= by
   refine aFZ e1 ?_;have:=ls (2^53) hd;exact ā (.x (.M .ks .q) (.M .ke (.M .r .s))) [.x (.M .ke (.M .n2 .q)) (.M .ke (.M .r .s))] this
  refine O hv ?_;generalize D*(K*2^j)=B at*;have e3:sgn neg U*(D:Int)=sgn neg (D*U):= by
   unfold sgn;cases neg
   ·simp[jp]
   ·simp[jp,rW]
  refine O e3 ?_;generalize D*U=c at*;unfold sgn;unfold dist at e2;cases neg
  ·simp only[bw,if_false];exact⟨Ρ (.l (.G .q) (.M (.S .r .s) .ks)) [.x (.M .ks (.A .t .u)) .q,.X 18014398509481984 .s (.A .t .r)] e2 (ig (ai _)),Ρ (.l (.M (.S .q .r) .ks) .s) [.x (.M .ks (.A .t .u)) .s,.X 18014398509481984 .q (.A .u .r)] e2 (ig (ai _))⟩
  ·simp only[if_true];exact⟨Ρ (.l (.G .q) (.M (.S (.G .r) (.G .s)) .ks)) [.x (.M .ks (.A .t .u)) .q,.X 18014398509481984 .r (.A .u .s)] e2 (ig (ai _)),Ρ (.l (.M (.S (.G .q) (.G .r)) .ks) .s) [.x (.M .ks (.A .t .u)) .s,.X 18014398509481984 .r (.A .t .q)] e2 (ig (ai _))⟩
 ·intro q g hg hq Vn;have e4:W=D*(q*2^(1074-g)):= by
   have:W*2^g=D*(q*2^(1074-g))*2^g:=by refine O Vn (aFZ (Ź hg) ?_);simp only[jz]
   exact Nat.eq_of_mul_eq_mul_right (jb g) this
  have hk:W=D*U:= by
   by_cases hb:1074-g<=2040
   ·-- use exactness at the finer grid
    have hh:=kG h hD (1021+j) (Ć (.x (.A (.N 1021) .q) (.N 2040)) [.x .q .kn] hj) (by exact O (ĥ ..) hW);refine cH h λt bc ht Pf hn=>?_;subst bc;clear h;refine xe (ĭ (1074-g) q hq) λt0 Pi=>?_;have Fv:t<infMag:= by
     rcases ov t infMag with h|h
     ·exact h
     ·exfalso;have:t=infMag:=by exact eo (ht) (h)
      subst this;refine iX hf λa m e Iz=>?_;clear hf;revert Iz;refine O (sC ..) ?_;intro Iz;cases Iz
    have d0:=(hn Fv t0).1;rw[Pi,<-e4] at d0;refine mF (ye neg Fv) λm e Vo Vp=>?_;have:val (pack neg t)=sgn neg (xq t):=by exact O (mi Vo) (O Vp rfl)
    rw[this] at hv;have hU:U=xq t:= by
     unfold sgn at hv;cases neg
     ·simp only[bw,if_false] at hv;exact ä (.z1 .q .r) [.e .q .r] hv.symm
     ·simp only[if_true] at hv;exact ä (.z1 .q .r) [.e (.G .r) (.G .q)] hv
    refine O hU ?_;unfold dist at d0;exact eo (Ο (.x .q (.M .r .s)) [.x (.A .t .u) (.A .v .v),.x .q (.A .t (.M .r .s)),.Z 2 (.A .v .q) .q] d0 (ig (ai _)) (cf (ĉ [_] (.x .q .q) []))) (Ο (.x (.M .q .r) .s) [.x (.A .t .u) (.A .v .v),.x (.M .q .r) (.A .u .s),.Z 2 (.A .v .s) .s] d0 (ig (ai _)) (cf (ĉ [_] (.x .q .q) [])))
   ·grind
  refine O hv (O hk ?_);unfold sgn;cases neg
  ·simp[jp]
  ·simp[jp,rW]
theorem lO (h:decode x=.fin a m e):sgn a (val x).natAbs=val x:= by
 exact O (qe h) (O (mi h) rfl)
theorem QE (a b:Bool) (m n:Nat):sgn (a != b) (m*n)=sgn a m*sgn b n:= by
 unfold sgn;cases a<;>cases b<;>simp[oe,qh,rW]
theorem EY (w:Int):sgn (decide (w<0)) w.natAbs=w:= by
 unfold sgn
 by_cases h:w<0
 ·rw[decide_eq_true h,if_pos rfl];exact(congrArg Neg.neg (tc (ba h))).trans (Int.neg_neg w)
 ·simp[h];exact iz (de (av ((dr.mp h)))) (de (av ((dr.mp h))).symm)
theorem rD (a:Bool) (m n:Nat):sgn a (m*n)=sgn a m*(n:Int):=Float64.sgn_mul a m n
theorem pH (b:Bool):decode (la b)=.fin b 0 (-1074):=by cases b<;>kernel_rfl
theorem jP (b:Bool):Ç (la b):=(fP _ _ _ (pH b))
theorem vE (b:Bool):val (la b)=0:=by refine O (mi (pH b)) ?_;cases b<;>simp[sgn]
section
variable{x y:UInt64}
theorem WF (hx:Ç x) (hy:Ç y) (hj:j<=1000) (hb:(val x+val y).natAbs<=K*2^j):
  Ç (add x y)/\(-((K*2^j:Nat):Int)<=(val (add x y)-(val x+val y))*2^54/\(val (add x y)-(val x+val y))*2^54<=((K*2^j:Nat):Int))/\
   (∀q g,g<=1074->q<=2^53->(val x+val y).natAbs*2^g=q*K->val (add x y)=val x+val y):= by
 refine iX hx λa m e hx=>?_;refine iX hy λb k f hy=>?_;refine xa (zp hx hy) λh0 h1=>?_;generalize val x+val y=w at*
 by_cases hw:w=0
 ·refine O (h0 hw) (O (vE ..) (O hw (ß (jP _) ?_ (λ_ _ _ _ _=>rfl))));exact⟨ä (.l (.G (.C (.M .q .r))) (.M (.S .n0 .n0) .ks)) [],ä (.l (.M (.S .n0 .n0) .ks) (.C (.M .q .r))) []⟩
 ·have:=kU (h1 hw) (by decide) hj (by exact O (qg ..) hb);rw[EY] at this
  simpa using this
theorem mul_int (hx:Ç x) (hy:Ç y) (hj:j<=1000) (hb:(val x*val y).natAbs<=K*(K*2^j)):
  Ç (mul x y)/\(-((K*(K*2^j):Nat):Int)<=(val (mul x y)*(K:Int)-(val x*val y))*2^54/\(val (mul x y)*(K:Int)-(val x*val y))*2^54<=((K*(K*2^j):Nat):Int))/\
   (∀q g,g<=1074->q<=2^53->(val x*val y).natAbs*2^g=K*(q*K)->val (mul x y)*(K:Int)=val x*val y):= by
 refine iX hx λa m e hx=>?_;refine iX hy λb k f hy=>?_;have h1:=zq hx hy;rw[ii] at hb⊢;have:=kU h1 İ hj hb;rw[QE,lO hx,lO hy,K_eq] at this;exact this
theorem WG (hx:Ç x) (hy:Ç y) (h0:val y≠0) (hj:j<=1000) (hb:(val x).natAbs*K<=(val y).natAbs*(K*2^j)):
  Ç (div x y)/\(-(((val y).natAbs*(K*2^j):Nat):Int)<=(val (div x y)*val y-val x*(K:Int))*2^54/\(val (div x y)*val y-val x*(K:Int))*2^54<=(((val y).natAbs*(K*2^j):Nat):Int))/\
   (∀q g,g<=1074->q<=2^53->(val x).natAbs*K*2^g=(val y).natAbs*(q*K)->val (div x y)*val y=val x*(K:Int)):= by
 refine iX hx λa m e hx=>?_;refine iX hy λb k f hy=>?_;have hk:k≠0:= by
  intro h;subst h;rw[mi hy] at h0;apply h0;cases b<;>simp[sgn]
 have h1:=Float64.div_right hx hy hk;have Nb:0<(val y).natAbs:=Int.natAbs_pos.mpr h0;have:=kU h1 Nb hj hb;have sx:=lO hx;have sy:=lO hy;rw[K_eq] at this;rw[rD] at this;generalize val (div x y)=z at*;have key:sgn (a != b) (val x).natAbs*(K:Int)=(if b then -1 else 1)*(val x*(K:Int))/\((val y).natAbs:Int)=(if b then -1 else 1)*val y:= by
  constructor
  ·refine aFZ (qz ..) ?_;congr 1;refine aFZ sx ?_;unfold sgn;cases a<;>cases b<;>simp
  ·conv=>rhs;rw[<-sy]
   unfold sgn;cases b<;>simp
 refine xa key λk1 k2=>?_;clear key;rw[k1] at this;refine Ē this λt1 t2 t3=>?_;clear this;refine(ß t1 ?_ (λq g hg hq he=>?_))
 ·cases b
  ·simp only[bw,if_false,qi] at k2 t2;rw[k2] at t2;rw[oe,k2] at t2⊢;exact t2
  ·simp only[if_true,qh,qi] at k2 t2;rw[k2] at t2;rw[oe,k2] at t2⊢;have:z*-val y - -(val x*(K:Int))=-(z*val y-val x*(K:Int)):=by exact O (rW ..) (ì [_,_,_] [_] (.e (.S (.G .kc) (.G (.M .c .q))) (.G (.S .kc (.M .c .q)))) [])
   rw[this] at t2;generalize z*val y-val x*(K:Int)=d at*;generalize -val y*((K*2^j:Nat):Int)=c at*;exact⟨ő (.l (.G .a) (.M .b .ks)) [.l (.M (.G .b) .ks) .a] t2.2,ő (.l (.M .a .ks) .b) [.l (.G .b) (.M (.G .a) .ks)] t2.1⟩
 ·have:=t3 q g hg hq he;rw[k2] at this;cases b
  ·simpa using this
  ·simp only[if_true,qh,qi,rW] at this;exact ì [_,_,_] [_] (.e .kc (.M .c .q)) [.e (.G (.M .c .q)) (.G .kc)] this.symm
end
end Mine.Internal
end
section
open PySem PySem.W PyProof.Rows
set_option exponentiation.threshold 3000
namespace Mine.Internal
open PySem.Float64 (decode Right sgn dist infMag pack)
theorem lP{z:Int}{n:Nat}(h1:-(n:Int)<=z) (h2:z<=(n:Int)):z.natAbs<=n:= by
 rcases zr 0 z with h|h
 ·exact gm.mp (by rw[av h];exact h2)
 ·exact gm.mp (by rw[tc h];exact xj h1)
structure Pw (M:Nat) where
 j:Nat
 le:j<=1000
 eq:M=2^j
theorem cT{a b c:Rat}(hc:0<c) (h:a*c<=b*c):a<=b:=Rat.le_of_mul_le_mul_right h hc
theorem fQ{a b c:Rat}(hc:0<c) (h:a*c=b*c):a=b:= by
 refine lm (cT hc (by exact O h fj)) (cT hc (by refine O h ?_;exact fj))
theorem sL{a b c:Rat}(hc:0<c) (h:a<=b):a*c<=b*c:=cu h (ay hc)
def Dy (q:Rat):Prop:=∃(n:Int) (g:Nat),g<=1074/\n.natAbs<=2^53/\q*(2^g:Nat)=n
section
variable{x y:UInt64}
def sW :Prop:=∀(hx:Ç x) (hy:Ç y){M:Nat}(p:Pw M) (h1:-(M:Rat)<=R x+R y) (h2:R x+R y<=(M:Rat)),Ç (add x y)/\R x+R y-(M:Rat)/2^54<=R (add x y)/\R (add x y)<=R x+R y+(M:Rat)/2^54/\(Dy (R x+R y)->R (add x y)=R x+R y)
def bN:=gZ (bA @sW)
theorem aBB:@sW bN.1 bN.2:= by
 intro hx hy M p h1 h2;obtain⟨j,hj,rfl⟩:=p;have kp:=å;have b1:-(((K*2^j:Nat):Int):Rat)<=((val bN.1+val bN.2:Int):Rat):= by
  push_cast;refine O (Ì ..) (O (Ì ..) ?_);have:=sL kp h1;push_cast at this;exact ġ (.l (.G .kc) (.A (.M .c .a) (.M .d .a))) [.l (.M (.G .b) .a) (.M (.A .c .d) .a)] this
 have b2:((val bN.1+val bN.2:Int):Rat)<=(((K*2^j:Nat):Int):Rat):= by
  push_cast;refine O (Ì ..) (O (Ì ..) ?_);have:=sL kp h2;push_cast at this;exact ġ (.l (.A .kc (.M .c .b)) (.M .b .d)) [.l (.M (.A .a .c) .b) (.M .d .b)] this
 obtain⟨hf,⟨d1,d2⟩,d3⟩:=WF hx hy hj (lP (by exact_mod_cast b1) (by exact_mod_cast b2));have e1:-(((K*2^j:Nat):Int):Rat)<=(((val (add bN.1 bN.2)-(val bN.1+val bN.2))*2^54:Int):Rat):=by exact_mod_cast d1
 have e2:(((val (add bN.1 bN.2)-(val bN.1+val bN.2))*2^54:Int):Rat)<=(((K*2^j:Nat):Int):Rat):=by exact_mod_cast d2
 push_cast at e1 e2;rw[Ì,Ì,Ì] at e1 e2;refine(fH hf (cT kp ?_) (cT kp ?_) ?_)
 ·push_cast;exact ś (.L 18014398509481984 (.M (.S .kb (.D .c .ks)) .d) (.M .e .d)) [.l (.G (.M .d .c)) (.M (.S (.M .e .d) (.A (.M .a .d) (.M .b .d))) .kC)] e1
 ·push_cast;exact ś (.L 18014398509481984 .kc (.M (.A (.A .c .d) (.D .e .ks)) .b)) [.l (.M (.S .kc (.A (.M .c .b) (.M .d .b))) .kC) (.M .b .e)] e2
 ·rintro ⟨n,g,hg,hn,he⟩
  have h5:(((val bN.1+val bN.2)*((2^g:Nat):Int):Int):Rat)=((n*(K:Int):Int):Rat):= by
   push_cast;refine O (Ì ..) (O (Ì ..) ?_);push_cast at he;grind
  have h6:(val bN.1+val bN.2)*((2^g:Nat):Int)=n*(K:Int):=by exact_mod_cast h5
  have h7:=congrArg yq h6;rw[ii,ii] at h7;simp only[mj] at h7;have h8:=d3 n.natAbs g hg hn h7;refine fQ kp ?_;have h9:((val (add bN.1 bN.2):Int):Rat)=((val bN.1+val bN.2:Int):Rat):=by exact O h8 rfl
  push_cast at h9;rw[Ì,Ì,Ì] at h9;exact lm (ġ (.l .kc (.M (.A .c .d) .b)) [.e .kc (.A (.M .c .b) (.M .d .b))] h9) (ġ (.l (.M .kb .c) (.M .d .c)) [.e (.A (.M .a .c) .ki) (.M .d .c)] h9.symm)
theorem j5:@sW x y:=iY (bA @sW) (x,y) aBB
def sX :Prop:=∀(hx:Ç x) (hy:Ç y){M:Nat}(p:Pw M) (h1:-(M:Rat)<=R x*R y) (h2:R x*R y<=(M:Rat)),Ç (mul x y)/\R x*R y-(M:Rat)/2^54<=R (mul x y)/\R (mul x y)<=R x*R y+(M:Rat)/2^54/\(Dy (R x*R y)->R (mul x y)=R x*R y)
def bO:=gZ (bA @sX)
theorem aBC:@sX bO.1 bO.2:= by
 intro hx hy M p h1 h2;obtain⟨j,hj,rfl⟩:=p;have kp:=å;have b1:-(((K*(K*2^j):Nat):Int):Rat)<=((val bO.1*val bO.2:Int):Rat):= by
  push_cast;refine O (Ì ..) (O (Ì ..) ?_);have:=sL kp (sL kp h1);push_cast at this;exact ġ (.l (.G (.M .a .kc)) (.M (.M .c .a) (.M .d .a))) [.l (.M (.M (.G .b) .a) .a) (.M (.M .kv .a) .a)] this
 have b2:((val bO.1*val bO.2:Int):Rat)<=(((K*(K*2^j):Nat):Int):Rat):= by
  push_cast;refine O (Ì ..) (O (Ì ..) ?_);have:=sL kp (sL kp h2);push_cast at this;exact ġ (.l (.M .kc (.M .c .b)) (.M .b (.M .b .d))) [.l (.M (.M (.M .a .c) .b) .b) (.M (.M .d .b) .b)] this
 obtain⟨hf,⟨d1,d2⟩,d3⟩:=mul_int hx hy hj (lP (by exact_mod_cast b1) (by exact_mod_cast b2));have e1:-(((K*(K*2^j):Nat):Int):Rat)<=(((val (mul bO.1 bO.2)*(K:Int)-(val bO.1*val bO.2))*2^54:Int):Rat):=by exact_mod_cast d1
 have e2:(((val (mul bO.1 bO.2)*(K:Int)-(val bO.1*val bO.2))*2^54:Int):Rat)<=(((K*(K*2^j):Nat):Int):Rat):=by exact_mod_cast d2
 push_cast at e1 e2;rw[Ì,Ì,Ì] at e1 e2;refine(fH hf (cT kp (cT kp ?_)) (cT kp (cT kp ?_)) ?_)
 ·push_cast;exact ś (.L 18014398509481984 (.M (.M (.S .kc (.D .c .ks)) .d) .d) (.M (.M .e .d) .d)) [.l (.G (.M .d (.M .d .c))) (.M (.S (.M (.M .e .d) .d) (.M (.M .a .d) (.M .b .d))) .kC)] e1
 ·push_cast;exact ś (.L 18014398509481984 (.M .kc .b) (.M (.M (.A .kv (.D .e .ks)) .b) .b)) [.l (.M (.S (.M .kc .b) (.M (.M .c .b) (.M .d .b))) .kC) (.M .b (.M .b .e))] e2
 ·rintro ⟨n,g,hg,hn,he⟩
  have h5:(((val bO.1*val bO.2)*((2^g:Nat):Int):Int):Rat)=(((K:Int)*(n*(K:Int)):Int):Rat):= by
   push_cast;refine O (Ì ..) (O (Ì ..) ?_);push_cast at he;grind
  have h6:(val bO.1*val bO.2)*((2^g:Nat):Int)=(K:Int)*(n*(K:Int)):=by exact_mod_cast h5
  have h7:=congrArg yq h6;rw[ii,ii,ii] at h7;rw[ii] at h7;simp only[mj] at h7;have h8:=d3 n.natAbs g hg hn (by exact O (ii ..) h7);refine fQ kp (fQ kp ?_);have h9:((val (mul bO.1 bO.2)*(K:Int):Int):Rat)=((val bO.1*val bO.2:Int):Rat):=by exact O h8 rfl
  push_cast at h9;rw[Ì,Ì,Ì] at h9;exact lm (ġ (.l (.M .kc .b) (.M (.M .kv .b) .b)) [.e (.M .kc .b) (.M (.M .c .b) (.M .d .b))] h9) (ġ (.l (.M (.M .kc .c) .c) (.M (.M .d .c) .c)) [.e (.M (.M .a .c) .ki) (.M (.M .d .c) .c)] h9.symm)
theorem iM:@sX x y:=iY (bA @sX) (x,y) aBC
def sY :Prop:=∀(hx:Ç x) (hy:Ç y) (h0:0<R y){M:Nat}(p:Pw M) (h1:-((M:Rat)*R y)<=R x) (h2:R x<=(M:Rat)*R y),Ç (div x y)/\R x/R y-(M:Rat)/2^54<=R (div x y)/\R (div x y)<=R x/R y+(M:Rat)/2^54/\(Dy (R x/R y)->R (div x y)=R x/R y)
def aR:=gZ (bA @sY)
theorem aBD:@sY aR.1 aR.2:= by
 intro hx hy h0 M p h1 h2;obtain⟨j,hj,rfl⟩:=p;have kp:=å;have Lg:0<val aR.2:= by
  have:(0:Rat)*(K:Rat)<R aR.2*(K:Rat):=jh h0 kp;rw[<-Ì,fg] at this
  exact_mod_cast this
 have Vq:((val aR.2).natAbs:Int)=val aR.2:=by exact iz (de (av (Ğ [_] (.l .n0 .a) [.t .n0 .a] Lg))) (de (av (Ğ [_] (.l .n0 .a) [.t .n0 .a] Lg)).symm)
 have Sj:(((val aR.2).natAbs:Nat):Rat)=R aR.2*(K:Rat):= by
  refine aFZ (Ì ..) ?_;exact_mod_cast congrArg (λz:Int=>(z:Rat)) Vq
 have b1:-((((val aR.2).natAbs*(K*2^j):Nat):Int):Rat)<=((val aR.1*(K:Int):Int):Rat):= by
  push_cast;refine O Sj (O (Ì ..) ?_);have:=sL kp (sL kp h1);push_cast at this;exact ġ (.l (.G (.M .kc .ki)) (.M (.M .d .b) .b)) [.l (.M (.M (.G (.M .c .a)) .b) .b) (.M (.M .d .b) .b)] this
 have b2:((val aR.1*(K:Int):Int):Rat)<=((((val aR.2).natAbs*(K*2^j):Nat):Int):Rat):= by
  push_cast;refine O Sj (O (Ì ..) ?_);have:=sL kp (sL kp h2);push_cast at this;exact ġ (.l (.M .kc .b) (.M (.M .c .b) (.M .b .d))) [.l (.M .kc .b) (.M (.M (.M .d .c) .b) .b)] this
 have hb:=lP (by exact_mod_cast b1:-(((val aR.2).natAbs*(K*2^j):Nat):Int)<=val aR.1*(K:Int)) (by exact_mod_cast b2);rw[ii,mj] at hb;obtain⟨hf,⟨d1,d2⟩,d3⟩:=WG hx hy (iD (Lg)) hj hb;have e1:-((((val aR.2).natAbs*(K*2^j):Nat):Int):Rat)<=(((val (div aR.1 aR.2)*val aR.2-val aR.1*(K:Int))*2^54:Int):Rat):=by exact_mod_cast d1
 have e2:(((val (div aR.1 aR.2)*val aR.2-val aR.1*(K:Int))*2^54:Int):Rat)<=((((val aR.2).natAbs*(K*2^j):Nat):Int):Rat):=by exact_mod_cast d2
 push_cast at e1 e2;rw[Sj,Ì,Ì,Ì] at e1 e2;have hd:R aR.1/R aR.2*R aR.2=R aR.1:=ğ (by assumption);generalize R aR.1/R aR.2=Q at*;rw[<-hd] at e1 e2;refine(fH hf (cT h0 (cT kp (cT kp ?_))) (cT h0 (cT kp (cT kp ?_))) ?_)
 ·push_cast;exact ś (.L 18014398509481984 (.M (.M (.M (.S .a (.D .b .ks)) .c) .d) .d) (.M (.M (.M .e .c) .d) .d)) [.l (.G (.M .kv (.M .d .b))) (.M (.S (.M (.M .e .d) .kv) (.M (.M (.M .a .c) .d) .d)) .kC)] e1
 ·push_cast;exact ś (.L 18014398509481984 (.M (.M .kc .c) .c) (.M (.M (.M (.A .d (.D .e .ks)) .b) .c) .c)) [.l (.M (.S (.M (.M .a .c) .ki) (.M (.M (.M .d .b) .c) .c)) .kC) (.M .ki (.M .c .e))] e2
 ·rintro ⟨n,g,hg,hn,he⟩
  have h5:(((val aR.1*(K:Int))*((2^g:Nat):Int):Int):Rat)=(((val aR.2)*(n*(K:Int)):Int):Rat):= by
   push_cast;refine O (Ì ..) (O (Ì ..) ?_);push_cast at he;exact aFZ hd (aFZ he (lm (ġ (.l (.M (.M (.M .kc .c) .c) .d) (.M .ki (.M (.M .a .d) .c))) []) (ġ (.l (.M .kc (.M .kv .b)) (.M (.M (.M (.M .c .a) .b) .b) .d)) [])))
  have h6:(val aR.1*(K:Int))*((2^g:Nat):Int)=(val aR.2)*(n*(K:Int)):=by exact_mod_cast h5
  have h7:=congrArg yq h6;simp only[ii,mj] at h7;have h8:=d3 n.natAbs g hg hn h7;refine fQ h0 (fQ kp (fQ kp ?_));have h9:((val (div aR.1 aR.2)*val aR.2:Int):Rat)=((val aR.1*(K:Int):Int):Rat):=by exact O h8 rfl
  push_cast at h9;rw[Ì,Ì,Ì] at h9;grind
theorem CF:@sY x y:=iY (bA @sY) (x,y) aBD
end
end Mine.Internal
end
section
open PySem PySem.W PyProof.Rows
set_option exponentiation.threshold 3000
namespace Mine.Internal
open PySem.Float64 (decode Right sgn dist infMag pack)
section
variable{x y:UInt64}
theorem WH (hy:Ç y):Ç (Eb y):=let ⟨_,_,_,h⟩:=hy;⟨_,_,_,Float64.neg_decode h⟩
theorem œ (hy:Ç y):R (Eb y)=-R y:= by
 refine iX hy λb k f h=>?_;clear hy;unfold R;refine O (Float64.neg_val h) ?_;push_cast;grind
theorem iW (hx:Ç x) (hy:Ç y) (p:Pw M) (h1:-(M:Rat)<=R x-R y) (h2:R x-R y<=(M:Rat)):
  Ç (ae x y)/\R x-R y-(M:Rat)/2^54<=R (ae x y)/\R (ae x y)<=R x-R y+(M:Rat)/2^54/\(Dy (R x-R y)->R (ae x y)=R x-R y):= by
 have:=j5 hx (WH hy) p (by exact O (œ hy) (ţ (.l (.G .a) (.A .b (.G .c))) [.l (.G .a) .kq] h1)) (by refine O (œ hy) ?_;exact ţ (.l (.A .a (.G .b)) .c) [.l .ka .c] h2);rw[œ hy,<-yr] at this;unfold ae;exact this
theorem Į (hd:0<d) (h:val x*d=n*(K:Int)):R x=(n:Rat)/(d:Rat):= by
 have kp:=å;have h1:((val x*d:Int):Rat)=((n*(K:Int):Int):Rat):=by exact O h rfl
 push_cast at h1;rw[Ì] at h1;have Iz:(0:Rat)<(d:Rat):=by exact_mod_cast hd
 refine fQ Iz (fQ kp ?_);have:(n:Rat)/(d:Rat)*(d:Rat)=n:=ğ (by assumption);exact O this (lm (ġ (.l (.M .kc .c) (.M .d .c)) [.e (.M (.M .a .c) .b) (.M .d .c)] h1) (ġ (.l .kc (.M .kv .b)) [.e .kc (.M (.M .c .b) .d)] h1.symm))
theorem QF (hd:0<d) (p:Pw M) (hM:n<=d*M):
  Ç (ofFrac s n d)/\((sgn s n:Int):Rat)/(d:Rat)-(M:Rat)/2^54<=R (ofFrac s n d)/\R (ofFrac s n d)<=((sgn s n:Int):Rat)/(d:Rat)+(M:Rat)/2^54/\
   (Dy (((sgn s n:Int):Rat)/(d:Rat))->R (ofFrac s n d)=((sgn s n:Int):Rat)/(d:Rat)):= by
 obtain⟨j,hj,rfl⟩:=p;have kp:=å;have hr:Right (ofFrac s n d) s (n*K) d:=xk hd (by exact O K_eq rfl) hd;have hW:n*K<=d*(K*2^j):= by
  rw[jj K,<-jz];exact re _ hM
 obtain⟨hf,⟨d1,d2⟩,d3⟩:=kU hr hd hj hW;rw[rD] at d1 d2 d3;have Iz:(0:Rat)<(d:Rat):=by exact_mod_cast hd
 have e1:-(((d*(K*2^j):Nat):Int):Rat)<=(((val (ofFrac s n d)*(d:Int)-sgn s n*(K:Int))*2^54:Int):Rat):=by exact_mod_cast d1
 have e2:(((val (ofFrac s n d)*(d:Int)-sgn s n*(K:Int))*2^54:Int):Rat)<=(((d*(K*2^j):Nat):Int):Rat):=by exact_mod_cast d2
 push_cast at e1 e2;rw[Ì] at e1 e2;have hq:((sgn s n:Int):Rat)/(d:Rat)*(d:Rat)=((sgn s n:Int):Rat):=ğ (by assumption);generalize hS:((sgn s n:Int):Rat)/(d:Rat)=Q at*;rw[<-hq] at e1 e2;refine(fH hf (cT Iz (cT kp ?_)) (cT Iz (cT kp ?_)) ?_)
 ·push_cast;exact ś (.L 18014398509481984 (.M (.M (.S .a (.D .b .ks)) .c) .d) (.M (.M .e .c) .d)) [.l (.G (.M .c (.M .d .b))) (.M (.S (.M (.M .e .d) .c) (.M (.M .a .c) .d)) .kC)] e1
 ·push_cast;exact ś (.L 18014398509481984 (.M .kc .c) (.M (.M (.A .d (.D .e .ks)) .b) .c)) [.l (.M (.S (.M (.M .a .c) .b) (.M (.M .d .b) .c)) .kC) (.M .b (.M .c .e))] e2
 ·rintro ⟨m,g,hg,hm,he⟩
  have h5:((sgn s n*((2^g:Nat):Int):Int):Rat)=((m*(d:Int):Int):Rat):= by
   push_cast;push_cast at he;refine aFZ hq ?_;grind
  have h6:sgn s n*((2^g:Nat):Int)=m*(d:Int):=by exact_mod_cast h5
  have h7:=congrArg yq h6;rw[ii,ii,Float64.sgn_natAbs] at h7
  dsimp only[mj] at h7
  have h8:=d3 m.natAbs g hg hm (by refine O (Nat.mul_right_comm ..) (O h7 ?_);simp only[jz,jj,nc]);refine fQ Iz (fQ kp ?_);have h9:((val (ofFrac s n d)*(d:Int):Int):Rat)=((sgn s n*(K:Int):Int):Rat):=by exact O h8 rfl
  push_cast at h9;rw[Ì] at h9;exact O hq (lm (ġ (.l (.M .kc .c) (.M .d .c)) [.e (.M (.M .a .c) .b) (.M .d .c)] h9) (ġ (.l .kc (.M .kv .b)) [.e .kc (.M (.M .c .b) .d)] h9.symm))
theorem j6 (hi:i.natAbs<=2^53):Ç (au i)/\R (au i)=(i:Rat):= by
 have:=QF (n:=i.natAbs) (d:=1) (s:=decide (i<0)) (by decide) (M:=2^53) ⟨53,by decide,rfl⟩ (by omega);rw[EY] at this;refine bS this λh1 bc Gf h4=>?_;clear bc;clear Gf;clear this;have e:(i:Rat)/((1:Nat):Rat)=(i:Rat):=by push_cast;exact Ŝ (.e (.D .a .n1) .a) []
 rw[e] at h4;unfold au;exact⟨h1,h4 (cA i 0 (by decide) hi (by push_cast;exact Ŝ (.e (.M .a .n1) .a) []))⟩
theorem aEA (hx:Ç x) (hy:Ç y):(fw x y=J .lt<->R x<R y)/\(fw x y=J .eq<->R x=R y)/\(fw x y=J .gt<->R y<R x):= by
 refine iX hx λa m e hx=>?_;refine iX hy λb k f hy=>?_;refine O (Float64.cmp_right hx hy) ?_;have kp:=å;have lt:∀u v:UInt64,val u<val v<->R u<R v:= by
  intro u v;constructor
  ·intro h;have h1:((val u:Int):Rat)<((val v:Int):Rat):=by exact_mod_cast h
   rw[Ì,Ì] at h1;exact fe h1 (ay kp)
  ·intro h;have h1:=jh h kp;rw[<-Ì,<-Ì] at h1
   exact_mod_cast h1
 refine(ß ?_ ?_ ?_)
 ·exact O (jm ..) (O (propext Int.compare_eq_lt) (lt x y))
 ·refine O (jm ..) (O (propext Int.compare_eq_eq) ?_);constructor
  ·intro h;unfold R;exact O h rfl
  ·intro h;have h1:R x*(K:Rat)=R y*(K:Rat):=by exact O h rfl
   rw[<-Ì,<-Ì] at h1
   exact_mod_cast h1
 ·exact O (jm ..) (O (propext Int.compare_eq_gt) (lt y x))
theorem mZ (hx:Ç x) (hy:Ç y):fw x y=J (if R x<R y then .lt else if R x=R y then .eq else .gt):= by
 refine Ē (aEA hx hy) λh1 h2 h3=>?_;split
 ·exact h1.mpr (by assumption)
 ·split
  ·exact h2.mpr (by assumption)
  ·exact h3.mpr (by grind)
theorem vG (hx:Ç x):ck x=decide (R x=0):= by
 refine iX hx λa m e hx=>?_;unfold ck;refine O hx ?_;have hv:=mi hx;have kp:=å;have:R x=0<->m=0:= by
  constructor
  ·intro h;have h1:((val x:Int):Rat)=((0:Int):Rat):=by refine O (Ì ..) (O h ?_);push_cast;exact Ŝ (.e (.M .n0 .a) .n0) []
   have h2:val x=0:=by exact_mod_cast h1
   have h3:=qe hx;rw[h2] at h3
   dsimp only[Int.natAbs_zero] at h3
   rcases Bj.mp h3.symm with h|h
   ·exact h
   ·exact absurd h (iy (jb _))
  ·intro h;subst h;unfold R;refine O hv ?_;have:sgn a (0*2^(e+1074).toNat)=0:=by refine O (yw ..) ?_;unfold sgn;cases a<;>rfl
   refine O this ?_;simp[xl]
 cases m with
 |zero=>exact(decide_eq_true (this.mpr rfl)).symm
 |succ m=>exact(decide_eq_false λq=>nomatch this.mp q).symm
theorem J5 (h:decode x=.fin a m e):m<2^53:= by
 unfold decode at h;simp only at h;split at h
 ·split at h<;>cases h
 ·split at h
  ·cases h;omega
  ·cases h;omega
theorem vH:decode one=.fin Wv (2^52) (-52):=by kernel_rfl
theorem HB:Ç one:=(fP _ _ _ vH)
theorem ľ:R one=1:= by
 have:val one*1=1*(K:Int):=by decide +kernel
 refine O (Į (by decide) this) ?_;push_cast;exact ų (.e (.D .n1 .n1) .n1) []
def lQ{a:Bool}{m:Nat}{e:Int} :Prop:=∀(hx:decode x=.fin a m e),Ç (df x one)/\val (df x one)=sgn a ((val x).natAbs%K)
def aI:=gZ (bA (bA (bA @lQ)))
theorem J6:@lQ aI.1.1.1 aI.1.1.2 aI.1.2 aI.2:= by
 intro hx;have he:=zs hx;have hm:=J5 hx;have Tn:df aI.1.1.1 one=yj aI.1.1.2 (aI.1.2*2^(aI.2-min aI.2 (-52)).toNat%(2^52*2^(-52-min aI.2 (-52)).toNat)) (min aI.2 (-52)):= by
  unfold df;refine O hx (O vH ?_)
  dsimp only[Float64.align,sgn,bw,if_false]
  refine O (if_neg (by decide)) ?_;rfl
 have Sk:-1074<=min aI.2 (-52):=Int.le_min.mpr ⟨he,by decide⟩;generalize hg:min aI.2 (-52)=g at*;have To:g<=-52:=by exact ő (.l .a (.G (.N 52))) [.e .a .b,.l .b (.G (.N 52))] hg.symm (Int.min_le_right _ _)
 obtain⟨k,hk⟩:=ud To;obtain⟨l,hl⟩:=ud Sk;obtain⟨j,hj⟩:=ud (show g<=aI.2 by exact aFZ hg (Int.min_le_left _ _));have a1:(-52-g).toNat=k:=congrArg xu (show -52-g=(k:Int) by exact ì [_] [_] (.e (.S (.G (.N 52)) .a) .q) [.e (.G (.N 52)) (.A .a .q)] hk.symm);have a2:(-g).toNat=52+k:=congrArg xu (show -g=((52+k:Nat):Int) by exact ì [_] [_] (.e (.G .a) (.C (.A (.N 52) .q))) [.e (.G (.N 52)) (.A .a .q)] hk.symm);have a3:(g+1074).toNat=l:=congrArg xu (show g+1074=(l:Int) by exact ì [_] [_] (.e (.A .a (.N 1074)) .q) [.e .a (.A (.G (.N 1074)) .q)] hl.symm);have a4:(aI.2-g).toNat=j:=congrArg xu (show aI.2-g=(j:Int) by exact ì [_,_] [_] (.e .ka .q) [.e .a (.A .b .q)] hj.symm);have a5:(aI.2+1074).toNat=j+l:=congrArg xu (show aI.2+1074=((j+l:Nat):Int) by exact ì [_,_] [_,_] (.e (.A .a (.N 1074)) (.C (.A .q .r))) [.e .a (.A .b .q),.e .b (.A (.G (.N 1074)) .r)] hj.symm hl.symm);have a6:52+k+l=1074:=oh (show((52+k+l:Nat):Int)=1074 by exact ì [_] [_,_] (.e (.C (.A (.A (.N 52) .q) .r)) (.N 1074)) [.e (.A .a .q) (.G (.N 52)),.e (.A (.G (.N 1074)) .r) .a] hk hl);have eq:2^52*2^(-52-g).toNat=2^(-g).toNat:=by exact aFZ (nv ..) (O a1 (O a2 rfl))
 rw[eq] at Tn;generalize hn:aI.1.2*2^(aI.2-g).toNat%2^(-g).toNat=n at*;have Sl:n<=2^53:= by
  refine aFZ hn ?_;rcases zr aI.2 (-52) with h|h
  ·have:(aI.2-g).toNat=0:=by refine O (hg.symm.trans (Bk h)) (O (Int.sub_self ..) ?_);rfl
   exact O this (O (De ..) (O (Ao ..) (aa (Er _ _) (dp hm))))
  ·have:(-g).toNat=52:=by refine O (hg.symm.trans (Af h)) ?_;rfl
   refine O this ?_;have:=qd (aI.1.2*2^(aI.2-g).toNat) (y:=2^52) (by decide);exact Ć (.x .q .ke) [.y .q (.P .n2 52)] this
 have Vr:n<=2^(-g).toNat:=by exact aFZ hn (dp (qd _ (jb _)))
 have hK:2^(-g).toNat*2^(g+1074).toNat=K:=by refine aFZ (nv ..) (O a2 (O a3 (O a6 ?_)));rfl
 have hr:Right (yj aI.1.1.2 n g) aI.1.1.2 (n*2^(g+1074).toNat) 1:= by
  unfold yj;refine xk (Float64.shift_pos _ _ _ (by decide)) ?_ (by decide);have:=Float64.shift_one n g 1074 (ÿ (.l (.G (.C (.N 1074))) .a) [.l (.G (.N 1074)) .a] Sk);exact O (Ao ..) this
 refine Ē (kU (j:=0) hr (by decide) (by decide) (by
  refine O (qg ..) (O (De ..) (O (Ao ..) (aFZ hK ?_)));exact re _ Vr)) λh1 bc h3=>?_;clear bc
 have h4:=h3 n (-g).toNat (ì [_] [_] (.x .q (.N 1074)) [.l (.G (.N 1074)) .a,.e .q (.G .a)] Sk (ca (Ğ [_] (.l .n0 (.G .a)) [.l .a (.G (.N 52))] To))) Sl (by(refine O (jz ..) ?_;rw[jj (2^(g+1074).toNat)];exact O hK (O (qg ..) rfl)));refine O Tn ⟨h1,?_⟩;rw[show((1:Nat):Int)=1 from rfl,Dw] at h4;refine O h4 ?_;congr 1;refine O (qe hx) ?_;have e2:aI.1.2*2^(aI.2+1074).toNat=aI.1.2*2^(aI.2-g).toNat*2^(g+1074).toNat:= by
  exact O (jz ..) (aFZ (nv ..) (O a3 (O a4 (O a5 rfl))))
 exact O e2 (aFZ hK (O (Nat.mul_mod_mul_right ..) (O hn rfl)))
theorem QG:@lQ x a m e:=iY (bA (bA (bA @lQ))) (((x,a),m),e) J6
end
end Mine.Internal
end
section
open PySem PySem.W PyProof.Rows
set_option exponentiation.threshold 3000
namespace Mine.Internal
open PySem.Float64 (decode Right sgn dist infMag pack)
section
variable{x y:UInt64}
theorem ó:0<=R x<->0<=val x:= by
 have kp:=å;constructor
 ·intro h;have h1:=sL kp h;rw[<-Ì,fg] at h1
  exact_mod_cast h1
 ·intro h;have h1:((0:Int):Rat)<=((val x:Int):Rat):=by exact_mod_cast h
  rw[Ì] at h1;refine cT kp ?_;refine O (fg ..) ?_
  exact_mod_cast h1
theorem pI (h:Right r Wv W D) (hf:Ç r):0<=val r:= by
 refine cH h λt bc ht Gf zq2=>?_;subst bc;clear Gf;clear zq2;clear h;have Fv:t<infMag:= by
  rcases ov t infMag with h|h
  ·exact h
  ·exfalso;have:t=infMag:=by exact eo (ht) (h)
   subst this;refine iX hf λa m e Iz=>?_;clear hf;rw[sC] at Iz;cases Iz
 refine O (Float64.val_pack Wv Fv) ?_;unfold sgn;simp
theorem ĸ (hx:Ç x) (hy:Ç y) (hf:Ç (add x y)) (h:0<=R x+R y):0<=R (add x y):= by
 have kp:=å;refine iX hx λa m e Iw=>?_;clear hx;refine iX hy λb k f Lc=>?_;clear hy;refine xa (zp Iw Lc) λh0 h1=>?_;have hw:0<=val x+val y:= by
  have h2:=sL kp h;rw[fg,Aq,<-Ì,<-Ì] at h2
  exact_mod_cast h2
 refine O (propext ó) ?_
 by_cases hz:val x+val y=0
 ·exact O (h0 hz) (O (vE ..) (bq _))
 ·have:=h1 hz;rw[show decide (val x+val y<0)=Wv by simp;grind] at this;exact pI this hf
theorem pJ:decode (vf (la Wv) one)=.fin Wv 0 (-1074):=by kernel_rfl
def ο :Prop:=∀(hx:Ç x),Ç (cw x one).2/\0<=R (cw x one).2/\
  (∃n:Int,R x-n-1/2^54<=R (cw x one).2/\R (cw x one).2<=R x-n+1/2^54/\0<=R x-n/\R x-n<1/\(0<=R x->R (cw x one).2=R x-n))
def gF:=gZ (@ο)
theorem QH:@ο gF:= by
 intro hx;refine iX hx λa m e hx=>?_;have kp:=å;refine xa (QG hx) λhf hv=>?_;have Vt:=lO hx;have Sm:=po (val gF).natAbs K;have Fv:=qd (val gF).natAbs İ;generalize hq:(val gF).natAbs/K=q at*;generalize hr:(val gF).natAbs%K=r at*;have Sn:(cw gF one).2=(if ck (df gF one) then vf (la Wv) one
   else if vx one (la Wv) != vx (df gF one) (la Wv) then add (df gF one) one else df gF one):= by
  unfold cw;simp only;split
  ·rfl
  ·split<;>rfl
 have IN:R (df gF one)*(K:Rat)=((sgn a r:Int):Rat):=by exact aFZ (Ì ..) (O hv rfl)
 have Ni:R gF*(K:Rat)=((sgn a (K*q+r):Int):Rat):=by exact aFZ (Ì ..) (O Sm (O Vt rfl))
 have Tp:((r:Nat):Rat)<(K:Rat):=by exact_mod_cast Fv
 have So:(0:Rat)<=((r:Nat):Rat):=by exact_mod_cast jd r
 have Vu:=jP Wv;have Vv:R (la Wv)=0:=by unfold R;refine O (vE ..) ?_;simp[xl]
 refine O Sn ?_
 by_cases Lo:r=0
 ·-- no remainder
  have Nj:R (df gF one)=0:= by
   refine fQ kp ?_;refine O IN (O Lo ?_);cases a<;>simp[sgn]
  refine O (vG hf) (O Nj ?_);simp only[decide_true,if_true];have hc:R (vf (la Wv) one)=0:= by
   unfold R;refine O (mi pJ) ?_;simp[sgn,xl]
  refine O hc (ß (fP _ _ _ pJ) fj ⟨(sgn a q),?_⟩);have Pj:R gF=((sgn a q:Int):Rat):= by
   refine fQ kp ?_;refine O Ni (O Lo (O (Df ..) (O (jj ..) (O (rD ..) ?_))));push_cast;rfl
  refine O Pj ?_;grind
 ·have Nj:R (df gF one)≠0:= by
   intro h;rw[h] at IN;have:((sgn a r:Int):Rat)=((0:Int):Rat):=by refine aFZ IN ?_;push_cast;exact Ŝ (.e (.M .n0 .a) .n0) []
   have h2:sgn a r=0:=by exact_mod_cast this
   unfold sgn at h2;cases a
   ·exact absurd (oh h2) Lo
   ·exact absurd (oh (Int.neg_eq_zero.mp h2)) Lo
  refine O (vG hf) ?_;simp only[Nj,decide_false,bw,if_false];have l1:vx one (la Wv)=Wv:=by decide +kernel
  refine O l1 ?_;have l2:vx (df gF one) (la Wv)=a:= by
   unfold vx;refine O (mZ hf Vu) (O Vv ?_);cases a
   ·have:¬R (df gF one)<0:= by
     intro h;have h2:=jh h kp;rw[IN] at h2
     dsimp only[sgn] at h2
     push_cast at h2;grind
    refine O (if_neg this) ?_;split<;>rfl
   ·have:R (df gF one)<0:= by
     have h1:R (df gF one)<=0:= by
      refine cT kp ?_;refine O IN ?_
      dsimp only[sgn,if_true]
      push_cast;exact ŉ (.l (.G .a) (.M .n0 .b)) [.l .n0 .a] So
     grind
    refine O (if_pos this) ?_;rfl
  refine O l2 ?_;cases a
  ·simp only[bne_self_eq_false,bw,if_false]
   dsimp only[sgn,bw,if_false] at IN Ni
   push_cast at IN Ni;have Pj:R gF=R (df gF one)+(q:Rat):= by
    refine fQ kp ?_;exact O Ni (O (Aq ..) (O IN (ţ (.e (.A .kc .c) (.A .c (.M .b .a))) [])))
   have ID:0<=R (df gF one):=cT kp (by exact O IN (ŉ (.l (.M .n0 .a) .b) [.l .n0 .b] So));have Gq:R (df gF one)<1:= by
    refine fe (c:=(K:Rat)) ?_ (ay kp);exact O IN (ŉ (.t .a (.M .n1 .b)) [.t .a .b] Tp)
   refine(ß hf ID ⟨(q:Int),?_⟩);push_cast;refine O Pj ?_;grind
  ·simp only[show(Wv != Wu)=Wu from rfl,if_true];simp only[sgn,if_true] at IN Ni;push_cast at IN Ni;have Pj:R gF=R (df gF one)-(q:Rat):= by
    refine fQ kp ?_;exact O Ni (O (show(R (df gF one)-(q:Rat))*(K:Rat)=R (df gF one)*(K:Rat)-(q:Rat)*(K:Rat) by exact ţ (.e (.M .ka .c) (.S (.M .a .c) .ki)) []) (O IN (ţ (.e (.G (.A .kc .c)) (.S (.G .c) (.M .b .a))) [])))
   have ID:R (df gF one)<=0:=cT kp (by exact O IN (ŉ (.l (.G .a) (.M .n0 .b)) [.l .n0 .a] So));have Gq:-1<R (df gF one):= by
    refine fe (c:=(K:Rat)) ?_ (ay kp);exact O IN (ŉ (.t (.M .kt .a) (.G .b)) [.t .b .a] Tp)
   refine bS (j5 (M:=1) hf HB ⟨0,by decide,rfl⟩ (by refine O ľ ?_;push_cast;exact Ŝ (.l .kt .kf) [.t .kt .a] Gq) (by refine O ľ ?_;push_cast;exact Ŝ (.l .kf .n1) [.l .a .n0] ID)) λf1 f2 f3 bc=>?_;clear bc;rw[ľ] at f2 f3;push_cast at f2 f3;refine(ß f1 (ĸ hf HB f1 (by exact O ľ (Ŝ (.l .n0 .kf) [.t .kt .a] Gq))) ⟨(-(q:Int)-1),?_⟩);push_cast;refine O Pj ?_;have Wq:(0:Rat)<=(q:Rat):=by exact_mod_cast jd q
   refine(nW (ţ (.l (.S (.S .ka (.S (.G .b) .n1)) .kg) .c) [.l (.S .kf .kg) .c] f2) (ţ (.l .a (.A (.S .kq (.S (.G .c) .n1)) .kg)) [.l .a (.A (.A .b .n1) .kg)] f3) (ŉ (.l .n0 (.S .ka (.S (.G .b) .n1))) [.t .kt .a] Gq) (by grind) (λh=>?_));exfalso;grind
theorem pK:@ο x:=iY (@ο) x QH
end
end Mine.Internal
end
section
open PySem PySem.W
namespace Mine.Internal
noncomputable abbrev Qa:PE:=(.cst (.int 1))
noncomputable abbrev Qb:ù:=(.cons (.ret (.cst (.bool Wv))) .nil)
noncomputable abbrev Qc:PE:=(.cst .none)
noncomputable abbrev Qd:PE:=(.cst (.int 0))
noncomputable abbrev Qe:PE:=(.var 1)
noncomputable abbrev Qf:PE:=(.cst (.int 8))
noncomputable abbrev Qg:PE:=(.cst (.flt 0x0000000000000000))
noncomputable abbrev Qh:PE:=(.var 3)
noncomputable abbrev Qi:PE:=(.var 0)
noncomputable abbrev Qj:PE:=(.var 2)
noncomputable abbrev Qk:PE:=(.cst (.flt 0x3ff0000000000000))
abbrev Ql:PI:=(.val (.tup (.cons (.bin .Add Qa (.bin .Mod (.bin .FloorDiv (.sub Qh (.cst (.int 3))) (.cst (.int 384))) Qe)) (.cons Qe .nil))))
abbrev Qm:PS:=(.ite (.cmp .LtE (.var 7) (.cst (.flt 0x3fe0000000000000))) (.cons (.asg 8 (.bin .Div (.var 6) (.var 5))) .nil) (.cons (.asg 8 (.bin .Div (.var 6) (.bin .Sub (.bin .Sub (.cst (.flt 0x4000000000000000)) Qh) (.var 4)))) .nil))
noncomputable abbrev Qn:PE:=(.cst (.int 6))
end Mine.Internal
end
section
open PySem PySem.W PyProof.Rows
namespace Mine.Internal.Co
def lS:Î:=
 {pars:=[("x":Str)],n:=1,vars:=[(("x":Str),0)],own:=[],tk:=[],code:=(.cons (.ret (.cmp .Lt Qi (.gcst iI))) .nil)}
def iV:Î:=
 {pars:=[("x":Str)],n:=1,vars:=[(("x":Str),0)],own:=[],tk:=[],code:=(.cons (.ret (.cmp .GtE Qi (.gcst iI))) .nil)}
def zT:Î:=
 {pars:=[("x":Str)],n:=1,vars:=[(("x":Str),0)],own:=[],tk:=[],code:=(.cons (.ret (.cmp .Eq Qi (.gcst mQ))) .nil)}
noncomputable def bJ:Î:=
 {pars:=[("r":Str),("g":Str),("b":Str)],n:=13,vars:=[(("r":Str),0),(("g":Str),1),(("b":Str),2),(("maxc":Str),3),(("minc":Str),4),(("sumc":Str),5),(("rangec":Str),6),(("l":Str),7),(("s":Str),8),(("rc":Str),9),(("gc":Str),10),(("bc":Str),11),(("h":Str),12)],own:=[],tk:=[],code:=(.cons (.asg 3 (.bi .max (.cons Qi (.cons Qe (.cons Qj .nil))))) (.cons (.asg 4 (.bi .min (.cons Qi (.cons Qe (.cons Qj .nil))))) (.cons (.asg 5 (.bin .Add Qh (.var 4))) (.cons (.asg 6 (.bin .Sub Qh (.var 4))) (.cons (.asg 7 (.bin .Div (.var 5) (.cst (.flt 0x4000000000000000)))) (.cons (.ite (.cmp .Eq (.var 4) Qh) (.cons (.ret (.tup (.cons Qg (.cons (.var 7) (.cons Qg .nil))))) .nil) .nil) (.cons Qm (.cons (.asg 9 (.bin .Div (.bin .Sub Qh Qi) (.var 6))) (.cons (.asg 10 (.bin .Div (.bin .Sub Qh Qe) (.var 6))) (.cons (.asg 11 (.bin .Div (.bin .Sub Qh Qj) (.var 6))) (.cons (.ite (.cmp .Eq Qi Qh) (.cons (.asg 12 (.bin .Sub (.var 11) (.var 10))) .nil) (.cons (.ite (.cmp .Eq Qe Qh) (.cons (.asg 12 (.bin .Sub (.bin .Add (.cst (.flt 0x4000000000000000)) (.var 9)) (.var 11))) .nil) (.cons (.asg 12 (.bin .Sub (.bin .Add (.cst (.flt 0x4010000000000000)) (.var 10)) (.var 9))) .nil)) .nil)) (.cons (.asg 12 (.bin .Mod (.bin .Div (.var 12) (.cst (.flt 0x4018000000000000))) Qk)) (.cons (.ret (.tup (.cons (.var 12) (.cons (.var 7) (.cons (.var 8) .nil))))) .nil)))))))))))))}
def bH (k:Nat):Î:=
 {pars:=[("h":Str),("l":Str),("s":Str)],n:=5,vars:=[(("h":Str),0),(("l":Str),1),(("s":Str),2),(("m2":Str),3),(("m1":Str),4)],own:=[],tk:=[],code:=(.cons (.ite (.cmp .Eq Qj Qg) (.cons (.ret (.tup (.cons Qe (.cons Qe (.cons Qe .nil))))) .nil) .nil) (.cons (.ite (.cmp .LtE Qe (.cst (.flt 0x3fe0000000000000))) (.cons (.asg 3 (.bin .Mult Qe (.bin .Add Qk Qj))) .nil) (.cons (.asg 3 (.bin .Sub (.bin .Add Qe Qj) (.bin .Mult Qe Qj))) .nil)) (.cons (.asg 4 (.bin .Sub (.bin .Mult (.cst (.flt 0x4000000000000000)) Qe) Qh)) (.cons (.ret (.tup (.cons (.call k (.cons (.var 4) (.cons Qh (.cons (.bin .Add Qi (.gcst jW)) .nil)))) (.cons (.call k (.cons (.var 4) (.cons Qh (.cons Qi .nil)))) (.cons (.call k (.cons (.var 4) (.cons Qh (.cons (.bin .Sub Qi (.gcst jW)) .nil)))) .nil))))) .nil))))}
def f_v:Î:=
 {pars:=[("m1":Str),("m2":Str),("hue":Str)],n:=3,vars:=[(("m1":Str),0),(("m2":Str),1),(("hue":Str),2)],own:=[],tk:=[],code:=(.cons (.asg 2 (.bin .Mod Qj Qk)) (.cons (.ite (.cmp .Lt Qj (.gcst mP)) (.cons (.ret (.bin .Add Qi (.bin .Mult (.bin .Mult (.bin .Sub Qe Qi) Qj) (.cst (.flt 0x4018000000000000))))) .nil) .nil) (.cons (.ite (.cmp .Lt Qj (.cst (.flt 0x3fe0000000000000))) (.cons (.ret Qe) .nil) .nil) (.cons (.ite (.cmp .Lt Qj (.gcst jX)) (.cons (.ret (.bin .Add Qi (.bin .Mult (.bin .Mult (.bin .Sub Qe Qi) (.bin .Sub (.gcst jX) Qj)) (.cst (.flt 0x4018000000000000))))) .nil) .nil) (.cons (.ret Qi) .nil)))))}
noncomputable def bK:Î:=
 {pars:=[("r":Str),("g":Str),("b":Str)],n:=12,vars:=[(("r":Str),0),(("g":Str),1),(("b":Str),2),(("maxc":Str),3),(("minc":Str),4),(("rangec":Str),5),(("v":Str),6),(("s":Str),7),(("rc":Str),8),(("gc":Str),9),(("bc":Str),10),(("h":Str),11)],own:=[],tk:=[],code:=(.cons (.asg 3 (.bi .max (.cons Qi (.cons Qe (.cons Qj .nil))))) (.cons (.asg 4 (.bi .min (.cons Qi (.cons Qe (.cons Qj .nil))))) (.cons (.asg 5 (.bin .Sub Qh (.var 4))) (.cons (.asg 6 Qh) (.cons (.ite (.cmp .Eq (.var 4) Qh) (.cons (.ret (.tup (.cons Qg (.cons Qg (.cons (.var 6) .nil))))) .nil) .nil) (.cons (.asg 7 (.bin .Div (.var 5) Qh)) (.cons (.asg 8 (.bin .Div (.bin .Sub Qh Qi) (.var 5))) (.cons (.asg 9 (.bin .Div (.bin .Sub Qh Qe) (.var 5))) (.cons (.asg 10 (.bin .Div (.bin .Sub Qh Qj) (.var 5))) (.cons (.ite (.cmp .Eq Qi Qh) (.cons (.asg 11 (.bin .Sub (.var 10) (.var 9))) .nil) (.cons (.ite (.cmp .Eq Qe Qh) (.cons (.asg 11 (.bin .Sub (.bin .Add (.cst (.flt 0x4000000000000000)) (.var 8)) (.var 10))) .nil) (.cons (.asg 11 (.bin .Sub (.bin .Add (.cst (.flt 0x4010000000000000)) (.var 9)) (.var 8))) .nil)) .nil)) (.cons (.asg 11 (.bin .Mod (.bin .Div (.var 11) (.cst (.flt 0x4018000000000000))) Qk)) (.cons (.ret (.tup (.cons (.var 11) (.cons (.var 7) (.cons (.var 6) .nil))))) .nil))))))))))))}
noncomputable def bI:Î:=
 {pars:=[("h":Str),("s":Str),("v":Str)],n:=8,vars:=[(("h":Str),0),(("s":Str),1),(("v":Str),2),(("i":Str),3),(("f":Str),4),(("p":Str),5),(("q":Str),6),(("t":Str),7)],own:=[],tk:=[],code:=(.cons (.ite (.cmp .Eq Qe Qg) (.cons (.ret (.tup (.cons Qj (.cons Qj (.cons Qj .nil))))) .nil) .nil) (.cons (.asg 3 (.bi .int (.cons (.bin .Mult Qi (.cst (.flt 0x4018000000000000))) .nil))) (.cons (.asg 4 (.bin .Sub (.bin .Mult Qi (.cst (.flt 0x4018000000000000))) Qh)) (.cons (.asg 5 (.bin .Mult Qj (.bin .Sub Qk Qe))) (.cons (.asg 6 (.bin .Mult Qj (.bin .Sub Qk (.bin .Mult Qe (.var 4))))) (.cons (.asg 7 (.bin .Mult Qj (.bin .Sub Qk (.bin .Mult Qe (.bin .Sub Qk (.var 4)))))) (.cons (.asg 3 (.bin .Mod Qh Qn)) (.cons (.ite (.cmp .Eq Qh Qd) (.cons (.ret (.tup (.cons Qj (.cons (.var 7) (.cons (.var 5) .nil))))) .nil) .nil) (.cons (.ite (.cmp .Eq Qh Qa) (.cons (.ret (.tup (.cons (.var 6) (.cons Qj (.cons (.var 5) .nil))))) .nil) .nil) (.cons (.ite (.cmp .Eq Qh (.cst (.int 2))) (.cons (.ret (.tup (.cons (.var 5) (.cons Qj (.cons (.var 7) .nil))))) .nil) .nil) (.cons (.ite (.cmp .Eq Qh (.cst (.int 3))) (.cons (.ret (.tup (.cons (.var 5) (.cons (.var 6) (.cons Qj .nil))))) .nil) .nil) (.cons (.ite (.cmp .Eq Qh (.cst (.int 4))) (.cons (.ret (.tup (.cons (.var 7) (.cons (.var 5) (.cons Qj .nil))))) .nil) .nil) (.cons (.ite (.cmp .Eq Qh (.cst (.int 5))) (.cons (.ret (.tup (.cons Qj (.cons (.var 5) (.cons (.var 6) .nil))))) .nil) .nil) .nil)))))))))))))}
noncomputable def aS:Î:=
 {pars:=[("addr":Str)],n:=6,vars:=[(("addr":Str),0),(("start":Str),1),(("open_pos":Str),2),(("result":Str),3),(("pos":Str),4),(("ch":Str),5)],own:=[3],tk:=[],code:=(.cons (.ite (.cmp .NotIn (.cst (.str ("\"":Str))) Qi) (.cons (.ret Qi) .nil) .nil) (.cons (.asg 1 Qd) (.cons (.asg 2 Qc) (.cons (.asgO 3 (.list .nil)) (.cons (.esc [4,5] Qi (.cons (.ite (.cmp .Eq (.var 5) (.cst (.str ("\"":Str)))) (.cons (.ite (.cmp .Is Qj Qc) (.cons (.asg 2 (.var 4)) .nil) (.cons (.ite (.cmp .NotEq Qe Qj) (.cons (.app 3 (.slc Qi Qe Qj Qc)) .nil) .nil) (.cons (.asg 1 (.bin .Add (.var 4) Qa)) (.cons (.asg 2 Qc) .nil)))) .nil) .nil) .nil)) (.cons (.ite (.cmp .Lt Qe (.bi .len (.cons Qi .nil))) (.cons (.app 3 (.slc Qi Qe Qc Qc)) .nil) .nil) (.cons (.ret (.me .join (.cst (.str ("":Str))) (.cons Qh .nil))) .nil)))))))}
noncomputable def a7 (k:Nat):Î:=
 {pars:=[("addr":Str)],n:=4,vars:=[(("addr":Str),0),(("opens":Str),1),(("pos":Str),2),(("ch":Str),3)],own:=[],tk:=[],code:=(.cons (.asg 0 (.call k (.cons Qi .nil))) (.cons (.asg 1 Qd) (.cons (.esc [2,3] Qi (.cons (.ite (.cmp .Eq Qh (.cst (.str ("(":Str)))) (.cons (.aug 1 .Add Qa) .nil) (.cons (.ite (.cmp .Eq Qh (.cst (.str (")":Str)))) (.cons (.aug 1 .Sub Qa) (.cons (.ite (.cmp .Lt Qe Qd) Qb .nil) .nil)) .nil) .nil)) .nil)) (.cons (.ret (.cmp .Eq Qe Qd)) .nil))))}
def dW:Î:=
 {pars:=[("text":Str)],n:=3,vars:=[(("text":Str),0),(("numbers":Str),1),(("size":Str),2)],own:=[1],tk:=[],code:=(.cons (.asgO 1 (.list .nil)) (.cons (.while 1000 (.cmp .NotEq Qi (.cst (.str ("":Str)))) (.cons (.asg 2 (.cst (.int 3))) (.cons (.while 1000 (.cmp .NotIn (.slc Qi Qc Qj Qc) (.gcst bP)) (.cons (.aug 2 .Sub Qa) .nil)) (.cons (.app 1 (.sub (.gcst bP) (.slc Qi Qc Qj Qc))) (.cons (.asg 0 (.slc Qi Qj Qc Qc)) .nil))))) (.cons (.ret Qe) .nil)))}
end Mine.Internal.Co
end
section
open PySem PySem.W PyProof.Rows
namespace Mine.Internal.L1
open Co
noncomputable def bJ:Î:=Co.bJ
def bH:Î:=Co.bH 2
def f_v:Î:=Co.f_v
noncomputable def bK:Î:=Co.bK
noncomputable def bI:Î:=Co.bI
noncomputable def aS:Î:=Co.aS
noncomputable def a7:Î:=Co.a7 5
def lS:Î:=
 {pars:=[("x":Str)],n:=1,vars:=[(("x":Str),0)],own:=[],tk:=[],code:=(.cons (.ret (.cmp .Lt Qi (.gcst iI))) .nil)}
def iV:Î:=
 {pars:=[("x":Str)],n:=1,vars:=[(("x":Str),0)],own:=[],tk:=[],code:=(.cons (.ret (.cmp .GtE Qi (.gcst iI))) .nil)}
def zT:Î:=
 {pars:=[("x":Str)],n:=1,vars:=[(("x":Str),0)],own:=[],tk:=[],code:=(.cons (.ret (.cmp .Eq Qi (.gcst mQ))) .nil)}
noncomputable def rE:Î:=
 {pars:=[("runs":Str)],n:=2,vars:=[(("runs":Str),0)],own:=[],tk:=[],code:=(.cons (.ret (.me .join (.cst (.str (")":Str))) (.cons (.comp (.bin .Mult (.cst (.str ("(":Str))) Qe) 1 (.val Qi) Wv Qc) .nil))) .nil)}
noncomputable def jC:Î:=
 {pars:=[("row":Str)],n:=4,vars:=[(("row":Str),0),(("level":Str),1),(("levels":Str),2),(("sign":Str),3)],own:=[2],tk:=[],code:=(.cons (.asg 1 Qd) (.cons (.asgO 2 (.list .nil)) (.cons (.for [3] (.val Qi) (.cons (.ite (.cmp .Eq Qh (.cst (.str ("(":Str)))) (.cons (.aug 1 .Add Qa) .nil) (.cons (.app 2 Qe) (.cons (.aug 1 .Sub Qa) .nil))) .nil)) (.cons (.ret Qj) .nil))))}
noncomputable def jD:Î:=
 {pars:=[("levels":Str),("fold":Str)],n:=5,vars:=[(("levels":Str),0),(("fold":Str),1),(("low":Str),2),(("lowest":Str),3),(("level":Str),4)],own:=[3],tk:=[],code:=(.cons (.asg 2 Qa) (.cons (.asgO 3 (.list .nil)) (.cons (.for [4] (.val Qi) (.cons (.app 3 (.bin .Add Qj (.bin .Mod (.bin .Sub (.var 4) Qj) Qe))) (.cons (.asg 2 (.bi .max (.cons Qa (.cons (.bin .Sub (.sub Qh (.neg Qa)) Qa) .nil)))) .nil))) (.cons (.ret Qh) .nil))))}
noncomputable def j7:Î:=
 {pars:=[("place":Str),("unit":Str)],n:=5,vars:=[(("place":Str),0),(("unit":Str),1),(("lamps":Str),2),(("corner":Str),3),(("far":Str),4)],own:=[2],tk:=[],code:=(.cons (.asgO 2 (.list .nil)) (.cons (.for [3] (.val (.tup (.cons Qd (.cons (.cst (.int 16)) (.cons (.cst (.int 32)) .nil))))) (.cons (.asg 4 (.bin .Mod (.bin .Sub Qi Qh) (.cst (.int 48)))) (.cons (.app 2 (.bin .Mult Qe (.bi .max (.cons Qd (.cons (.bi .min (.cons Qf (.cons (.bin .Sub (.cst (.int 16)) (.bi .min (.cons (.var 4) (.cons (.bin .Sub (.cst (.int 48)) (.var 4)) .nil)))) .nil))) .nil))))) .nil))) (.cons (.ret Qj) .nil)))}
def dW:Î:=Co.dW
noncomputable def m7:Î:=
 {pars:=[("row":Str),("fold":Str),("pick":Str)],n:=15,vars:=[(("row":Str),0),(("fold":Str),1),(("pick":Str),2),(("sign":Str),3),(("lone":Str),4),(("twice":Str),5),(("numbers":Str),6),(("worth":Str),7),(("spelled":Str),8),(("most":Str),9),(("moved":Str),10)],own:=[],tk:=[3],code:=(.cons (.asg 3 (.sub (.cst (.str ("*/<>=":Str))) Qj)) (.cons (.asgT [4,5] (.tup (.cons (.sub (.tup (.cons (.cst (.int 16)) (.cons (.cst (.int 17)) (.cons (.cst (.int 20)) (.cons (.cst (.int 21)) (.cons (.cst (.int 22)) .nil)))))) Qj) (.cons (.sub (.tup (.cons (.cst (.int 35)) (.cons (.cst (.int 47)) (.cons (.cst (.int 33)) (.cons (.cst (.int 34)) (.cons (.cst (.int 27)) .nil)))))) Qj) .nil)))) (.cons (.asg 6 (.call 14 (.cons (.repl Qi ("(":Str) (.cmp .Eq Qe (.cst (.int 2))) 3 (".":Str)) .nil))) (.cons (.asg 7 (.ite (.cmp .Eq Qe (.cst (.int 3))) (.dict (.cons (.cst (.int 23)) (.cons Qa (.cons (.cst (.int 52)) (.cons (.cst (.int 3)) .nil))))) (.dict (.cons (.var 4) (.cons Qa (.cons (.var 5) (.cons (.cst (.int 2)) .nil))))))) (.cons (.ite (.cmp .Eq Qe Qn) (.cons (.asg 8 (.dict (.cons Qf (.cons (.cst (.str (")":Str))) (.cons (.cst (.int 23)) (.cons (.cst (.str (".":Str))) (.cons (.cst (.int 52)) (.cons Qh .nil)))))))) (.cons (.asg 6 (.call 14 (.cons (.me .join (.cst (.str ("":Str))) (.cons (.comp (.me .get (.var 8) (.cons (.var 14) (.cons (.cst (.str ("":Str))) .nil))) 14 (.val (.var 6)) Wv Qc) .nil)) .nil))) (.cons (.asg 7 (.dict (.cons (.cst (.int 23)) (.cons Qa (.cons (.var 4) (.cons (.cst (.int 3)) (.cons (.var 5) (.cons Qn .nil)))))))) .nil))) .nil) (.cons (.asg 9 (.ite (.cmp .Eq Qe (.cst (.int 3))) (.cst (.int 52)) (.var 5))) (.cons (.asg 10 (.bin .Add (.comp (.var 12) 12 (.val (.var 6)) Wu (.cmp .Eq (.var 12) (.var 9))) (.comp (.var 13) 13 (.val (.var 6)) Wu (.cmp .NotEq (.var 13) (.var 9))))) (.cons (.ret (.me .join (.cst (.str ("":Str))) (.cons (.comp (.ite (.cmp .Eq (.var 11) Qf) (.cst (.str (")":Str))) (.bin .Mult (.cst (.str ("(":Str))) (.me .get (.var 7) (.cons (.var 11) (.cons Qd .nil))))) 11 (.val (.var 10)) Wv Qc) .nil))) .nil))))))))}
noncomputable def cF:Î:=
 {pars:=[("mixed":Str),("places":Str),("white":Str),("turn":Str),("fold":Str)],n:=20,vars:=[(("mixed":Str),0),(("places":Str),1),(("white":Str),2),(("turn":Str),3),(("fold":Str),4),(("count":Str),5),(("rest":Str),6),(("turns":Str),7),(("k":Str),8),(("red":Str),9),(("green":Str),10),(("blue":Str),11),(("hue":Str),12),(("share":Str),13),(("level":Str),14),(("lamps":Str),15),(("runs":Str),16)],own:=[16],tk:=[],code:=(.cons (.asg 5 (.bi .len (.cons Qe .nil))) (.cons (.asg 6 Qi) (.cons (.asg 7 (.list (.cons Qd .nil))) (.cons (.for [8] (.rng3 (.bin .Sub (.var 5) Qa) (.neg Qa)) (.cons (.asgT [9,10,11] (.comp (.bin .Div (.bin .Sub (.bin .Add Qj (.var 19)) (.bi .min (.cons (.var 6) .nil))) (.bin .Mult (.cst (.int 16)) (.bin .Pow Qf (.var 5)))) 19 (.val (.var 6)) Wv Qc)) (.cons (.asgT [12,13,14] (.call 3 (.cons (.var 9) (.cons (.var 10) (.cons (.var 11) .nil))))) (.cons (.asg 7 (.bin .Add (.list (.cons (.bin .Mod (.bi .int (.cons (.bin .Add (.bin .Sub (.bin .Mult Qn (.var 12)) (.bin .Div (.sub Qe (.var 8)) Qf)) (.cst (.flt 0x401a000000000000))) .nil)) Qn) .nil)) (.var 7))) (.cons (.asg 15 (.call 13 (.cons (.bin .Add (.sub Qe (.var 8)) (.bin .Mult Qf (.sub (.var 7) Qd))) (.cons (.bin .Pow Qf (.var 8)) .nil)))) (.cons (.asg 6 (.comp (.bin .Sub (.sub (.var 6) (.var 18)) (.sub (.var 15) (.var 18))) 18 (.rng1 (.cst (.int 3))) Wv Qc)) .nil)))))) (.cons (.asgO 16 (.list .nil)) (.cons (.for [8] (.rng1 (.var 5)) (.cons (.ext 16 (.comp (.var 17) 17 (.rng1 (.var 4)) Wu (.cmp .Eq (.bin .Mod (.bin .Sub (.bin .Add (.bin .Mult Qh (.bin .Sub (.var 17) Qa)) (.sub (.var 7) (.var 8))) (.sub (.var 7) (.bin .Add (.var 8) Qa))) Qn) Qd))) .nil)) (.cons (.ret (.call 10 (.cons (.bin .Add (.list (.cons (.bin .Sub (.var 5) (.bi .sum (.cons (.var 16) .nil))) .nil)) (.var 16)) .nil))) .nil)))))))}
noncomputable def dE:Î:=
 {pars:=[("row":Str),("places":Str),("white":Str),("turn":Str)],n:=21,vars:=[(("row":Str),0),(("places":Str),1),(("white":Str),2),(("turn":Str),3),(("size":Str),4),(("pile":Str),5),(("closed":Str),6),(("sign":Str),7),(("own":Str),8),(("inner":Str),9),(("outer":Str),10),(("red":Str),11),(("green":Str),12),(("blue":Str),13),(("hue":Str),14),(("level":Str),15),(("share":Str),16),(("shown":Str),17)],own:=[5],tk:=[],code:=(.cons (.asg 4 (.bin .Mult (.cst (.int 16)) (.bin .Pow Qf (.bi .len (.cons Qe .nil))))) (.cons (.asgO 5 (.list (.cons (.list (.cons Qd (.cons Qd (.cons Qd .nil)))) .nil))) (.cons (.asg 6 Qd) (.cons (.for [7] (.val Qi) (.cons (.ite (.cmp .Eq (.var 7) (.cst (.str ("(":Str)))) (.cons (.app 5 (.list (.cons Qd (.cons Qd (.cons Qd .nil))))) .nil) (.cons (.asg 8 (.call 13 (.cons (.sub Qe (.var 6)) (.cons (.bin .Pow Qf (.var 6)) .nil)))) (.cons (.pop 9 5) (.cons (.pop 10 5) (.cons (.asgT [11,12,13] (.comp (.bin .Div (.bin .Add (.bin .Add Qj (.sub (.var 8) (.var 20))) (.sub (.var 9) (.var 20))) (.var 4)) 20 (.rng1 (.cst (.int 3))) Wv Qc)) (.cons (.asgT [14,15,16] (.call 0 (.cons (.var 11) (.cons (.var 12) (.cons (.var 13) .nil))))) (.cons (.asg 17 (.call 1 (.cons (.bin .Sub (.var 14) (.bin .Div (.bin .Sub Qn Qh) Qn)) (.cons (.var 15) (.cons (.var 16) .nil))))) (.cons (.app 5 (.comp (.bin .Sub (.bin .Add (.sub (.var 10) (.var 19)) (.bi .int (.cons (.bin .Add (.bin .Mult (.var 4) (.sub (.var 17) (.var 19))) (.cst (.flt 0x3fe0000000000000))) .nil))) Qj) 19 (.rng1 (.cst (.int 3))) Wv Qc)) (.cons (.aug 6 .Add Qa) .nil))))))))) .nil)) (.cons (.ret (.comp (.bin .Sub (.var 18) (.bi .min (.cons (.sub (.var 5) Qd) .nil))) 18 (.val (.sub (.var 5) Qd)) Wv Qc)) .nil)))))}
noncomputable def bF:Î:=
 {pars:=[("script":Str)],n:=58,vars:=[(("script":Str),0),(("count":Str),1),(("plain":Str),2),(("numbers":Str),3),(("runs":Str),4),(("number":Str),5),(("left":Str),6),(("kinds":Str),7),(("hides":Str),8),(("parts":Str),9),(("seen":Str),10),(("bare":Str),11),(("units":Str),12),(("row":Str),13),(("at":Str),14),(("sign":Str),15),(("levels":Str),16),(("many":Str),17),(("last":Str),18),(("shut":Str),19),(("turn":Str),20),(("fold":Str),21),(("pick":Str),22),(("white":Str),23),(("ground":Str),24),(("places":Str),25),(("mixed":Str),26),(("k":Str),27),(("red":Str),28),(("green":Str),29),(("blue":Str),30),(("hue":Str),31),(("share":Str),32),(("level":Str),33),(("shown":Str),34),(("told":Str),35),(("lamps":Str),36),(("due":Str),37),(("ahead":Str),38),(("taken":Str),39),(("lowest":Str),40),(("flat":Str),41)],own:=[4],tk:=[],code:=(.cons (.asg 1 (.ite (.cmp .Lt (.bi .len (.cons Qi .nil)) (.cst (.int 7))) Qn Qf)) (.cons (.asg 2 (.tup (.cons (.cst (.int 6938)) (.cons (.cst (.int 742)) (.cons (.cst (.int 4712)) (.cons (.cst (.int 626)) (.cons (.cst (.int 176)) (.cons (.cst (.int 289)) (.cons (.cst (.int 74)) (.cons (.cst (.int 331)) .nil)))))))))) (.cons (.asg 3 (.comp (.bin .Add (.sub Qj (.var 56)) (.bi .sum (.cons (.comp (.bin .Mod (.var 57) (.bin .Pow (.cst (.int 10)) Qn)) 57 (.val (.slc Qi (.var 56) Qc Qe)) Wv Qc) .nil))) 56 (.rng1 Qe) Wv Qc)) (.cons (.asgO 4 (.list .nil)) (.cons (.for [5] (.val Qh) (.cons (.app 4 (.bi .min (.cons (.bin .Sub Qe (.bi .sum (.cons (.var 4) .nil))) (.cons (.sub (.tup (.cons Qd (.cons Qd (.cons Qa (.cons Qa (.cons (.cst (.int 2)) (.cons (.cst (.int 3)) (.cons (.cst (.int 4)) (.cons (.cst (.int 7)) .nil))))))))) (.bin .Mod (.var 5) Qf)) .nil)))) .nil)) (.cons (.asg 6 (.bin .Sub Qe (.bi .sum (.cons (.var 4) .nil)))) (.cons (.ite (.cmp .Eq (.bin .Mod (.bin .FloorDiv (.sub Qh Qd) (.cst (.int 384))) (.cst (.int 2))) Qd) (.cons (.asgO 4 (.bin .Add (.bin .Add (.list (.cons (.bin .Add (.sub (.var 4) Qd) (.var 6)) .nil)) (.slc (.var 4) Qa Qc Qc)) (.list (.cons Qd .nil)))) .nil) (.cons (.asgO 4 (.bin .Add (.var 4) (.list (.cons (.var 6) .nil)))) .nil)) (.cons (.asg 7 (.list (.cons (.cst (.str ("":Str))) (.cons (.cst (.str ("\\(":Str))) (.cons (.cst (.str ("\\)":Str))) (.cons (.cst (.str ("\"(\"":Str))) (.cons (.cst (.str ("\")\"":Str))) (.cons (.cst (.str ("\"\\\")\"":Str))) (.cons (.cst (.str ("\\\\":Str))) (.cons (.cst (.str ("\\\"":Str))) .nil)))))))))) (.cons (.asg 8 (.bin .Add (.list (.cons (.cst (.str ("":Str))) (.cons (.sub (.var 7) (.bin .Mod (.bin .FloorDiv (.sub Qh (.cst (.int 2))) (.cst (.int 384))) Qf)) (.cons (.cst (.str ("":Str))) (.cons (.cst (.str ("":Str))) (.cons (.sub (.var 7) (.bin .Mod (.bin .FloorDiv (.sub Qh (.cst (.int 2))) (.cst (.int 3072))) Qf)) .nil)))))) (.bin .Mult (.list (.cons (.cst (.str ("":Str))) .nil)) (.bin .Sub Qe (.cst (.int 4)))))) (.cons (.asg 9 (.comp (.bin .Add (.sub (.var 8) (.var 55)) (.bin .Mult (.cst (.str ("(":Str))) (.sub (.var 4) (.var 55)))) 55 (.rng1 (.bin .Add Qe Qa)) Wv Qc)) (.cons (.asg 10 (.call 5 (.cons (.bin .Add (.me .join (.cst (.str (")":Str))) (.cons (.var 9) .nil)) (.cst (.str ("\\":Str)))) .nil))) (.cons (.asg 11 (.comp (.ite (.cmp .Eq (.slc (.var 54) Qc Qa Qc) (.cst (.str ("\"":Str)))) (.cst (.str ("":Str))) (.var 54)) 54 (.val (.var 8)) Wv Qc)) (.cons (.ite (.cmp .NotEq (.var 10) (.bin .Add (.me .join (.cst (.str (")":Str))) (.cons (.comp (.bin .Add (.sub (.var 11) (.var 53)) (.bin .Mult (.cst (.str ("(":Str))) (.sub (.var 4) (.var 53)))) 53 (.rng1 (.bin .Add Qe Qa)) Wv Qc) .nil)) (.cst (.str ("\\":Str))))) Qb .nil) (.cons (.asgT [12,13] (.tup (.cons (.cst (.str ("":Str))) (.cons (.cst (.str ("":Str))) .nil)))) (.cons (.esc [14,15] (.var 10) (.cons (.aug 12 .Add (.var 15)) (.cons (.aug 13 .Add (.ite (.cmp .In (.var 15) (.tup (.cons (.cst (.str ("(":Str))) (.cons (.cst (.str (")":Str))) .nil)))) (.var 15) (.cst (.str ("":Str))))) (.cons (.ite (.cmp .NotEq (.var 14) (.bin .Sub (.bi .len (.cons (.var 12) .nil)) Qa)) Qb .nil) .nil)))) (.cons (.ite (.or (.cmp .NotEq (.var 12) (.var 10)) (.cmp .NotEq (.var 13) (.callB 10 (.cons (.var 4) .nil)))) Qb .nil) (.cons (.asg 16 (.call 11 (.cons (.var 13) .nil))) (.cons (.for [17] Ql (.cons (.asg 18 (.sub (.var 16) (.bin .Sub (.var 17) Qa))) (.cons (.asg 19 (.cmp .Eq (.comp (.var 52) 52 (.val (.slc (.var 16) Qc (.var 17) Qc)) Wu (.not (.call 8 (.cons (.bin .Add (.cst (.int 255)) (.var 52)) .nil)))) (.list .nil))) (.cons (.ite (.cmp .IsNot (.call 9 (.cons (.bin .Sub (.var 18) Qa) .nil)) (.cmp .Eq (.var 18) Qa)) Qb .nil) (.cons (.ite (.cmp .IsNot (.call 6 (.cons (.bin .Add (.me .join (.cst (.str (")":Str))) (.cons (.slc (.var 9) Qc (.var 17) Qc) .nil)) (.cst (.str (")":Str)))) .nil)) (.and (.var 19) (.call 9 (.cons (.bin .Sub (.var 18) Qa) .nil)))) Qb .nil) .nil))))) (.cons (.ite (.cmp .IsNot (.call 6 (.cons (.bin .Add (.me .join (.cst (.str (")":Str))) (.cons (.var 9) .nil)) (.cst (.str ("\")":Str)))) .nil)) (.cst (.bool Wv))) Qb .nil) (.cons (.asg 20 (.bin .Add Qa (.bin .Mod (.bin .FloorDiv (.sub Qh Qa) (.cst (.int 384))) (.cst (.int 5))))) (.cons (.asg 21 (.sub (.tup (.cons Qn (.cons (.cst (.int 3)) (.cons (.cst (.int 2)) (.cons (.cst (.int 3)) (.cons Qn .nil)))))) (.bin .Sub (.var 20) Qa))) (.cons (.asg 22 (.bin .Mod (.bin .FloorDiv (.sub Qh Qa) (.cst (.int 1920))) (.cst (.int 5)))) (.cons (.asg 23 (.bin .Mult (.bin .Mod (.bin .FloorDiv (.sub Qh Qd) (.cst (.int 768))) (.cst (.int 15))) (.bin .Pow Qf Qe))) (.cons (.asg 24 (.bin .Div (.var 23) (.bin .Mult (.cst (.int 16)) (.bin .Pow Qf Qe)))) (.cons (.ite (.cmp .NotEq (.bin .Add (.call 3 (.cons (.var 24) (.cons (.var 24) (.cons (.var 24) .nil)))) (.call 4 (.cons (.bin .Div (.var 20) Qn) (.cons Qg (.cons (.var 24) .nil))))) (.bin .Add (.tup (.cons Qg (.cons Qg .nil))) (.bin .Mult (.tup (.cons (.var 24) .nil)) (.cst (.int 4))))) Qb .nil) (.cons (.ite (.cmp .NotEq (.bin .Add (.call 0 (.cons (.var 24) (.cons (.var 24) (.cons (.var 24) .nil)))) (.call 1 (.cons (.bin .Div (.var 20) Qn) (.cons (.var 24) (.cons Qg .nil))))) (.bin .Add (.tup (.cons Qg (.cons (.var 24) (.cons Qg .nil)))) (.bin .Mult (.tup (.cons (.var 24) .nil)) (.cst (.int 3))))) Qb .nil) (.cons (.asg 25 (.comp (.bin .Mod (.bin .FloorDiv (.var 51) Qf) (.cst (.int 48))) 51 (.val Qh) Wv Qc)) (.cons (.asg 26 (.list (.cons Qd (.cons Qd (.cons Qd .nil))))) (.cons (.for [27] (.rng1 Qe) (.cons (.asgT [28,29,30] (.comp (.bin .Div (.bin .Add (.var 23) (.var 50)) (.bin .Mult (.cst (.int 16)) (.bin .Pow Qf Qe))) 50 (.val (.call 13 (.cons (.sub (.var 25) (.var 27)) (.cons (.bin .Pow Qf (.var 27)) .nil)))) Wv Qc)) (.cons (.asgT [31,32,33] (.call 3 (.cons (.var 28) (.cons (.var 29) (.cons (.var 30) .nil))))) (.cons (.asg 34 (.call 4 (.cons (.bin .Add (.var 31) (.bin .Div (.bin .Add (.bin .Mult (.var 20) (.sub (.var 16) (.var 27))) (.bin .Mult Qn Qe)) Qn)) (.cons (.var 32) (.cons (.var 33) .nil))))) (.cons (.asg 35 (.bin .Add (.list (.cons (.bin .Mult (.cst (.int 48)) (.var 31)) (.cons (.bin .Mult (.var 32) (.bin .Add (.var 23) (.bin .Pow Qf (.bin .Add (.var 27) Qa)))) .nil))) (.comp (.bin .Mult (.bin .Mult (.cst (.int 16)) (.bin .Pow Qf Qe)) (.var 49)) 49 (.val (.bin .Add (.tup (.cons (.var 33) .nil)) (.var 34))) Wv Qc))) (.cons (.asg 36 (.call 13 (.cons (.bin .Add (.sub (.var 25) (.var 27)) (.bin .Mult (.bin .Mult Qf (.var 20)) (.sub (.var 16) (.var 27)))) (.cons (.bin .Pow Qf (.var 27)) .nil)))) (.cons (.asg 37 (.bin .Add (.list (.cons (.sub (.var 25) (.var 27)) (.cons (.bin .Pow Qf (.bin .Add (.var 27) Qa)) (.cons (.bin .Add (.var 23) (.bin .Pow Qf (.bin .Add (.var 27) Qa))) .nil)))) (.comp (.bin .Add (.var 23) (.var 48)) 48 (.val (.var 36)) Wv Qc))) (.cons (.ite (.cmp .NotEq (.comp (.bi .int (.cons (.bin .Add (.bin .Mult (.bin .Pow (.cst (.int 2)) (.cst (.int 10))) (.var 46)) (.cst (.flt 0x3fe0000000000000))) .nil)) 46 (.val (.var 35)) Wv Qc) (.comp (.bin .Mult (.bin .Pow (.cst (.int 2)) (.cst (.int 10))) (.var 47)) 47 (.val (.var 37)) Wv Qc)) Qb .nil) (.cons (.asg 26 (.comp (.bin .Add (.sub (.var 26) (.var 45)) (.sub (.var 36) (.var 45))) 45 (.rng1 (.cst (.int 3))) Wv Qc)) .nil))))))))) (.cons (.asg 38 (.call 15 (.cons (.var 13) (.cons (.var 21) (.cons (.var 22) .nil))))) (.cons (.ite (.cmp .NotEq (.call 16 (.cons (.var 26) (.cons (.var 25) (.cons (.var 23) (.cons (.var 20) (.cons (.var 21) .nil)))))) (.var 38)) Qb .nil) (.cons (.asg 39 (.call 6 (.cons (.var 38) .nil))) (.cons (.ite (.cmp .IsNot (.var 39) (.cmp .Eq (.comp (.var 44) 44 (.val (.call 11 (.cons (.var 38) .nil))) Wu (.call 7 (.cons (.bin .Add (.cst (.int 255)) (.var 44)) .nil))) (.list .nil))) Qb .nil) (.cons (.asg 40 (.call 12 (.cons (.var 16) (.cons (.var 21) .nil)))) (.cons (.ite (.or (.cmp .NotEq (.sub (.var 40) (.neg Qa)) Qa) (.not (.var 39))) (.cons (.ret (.and (.cmp .NotEq (.sub (.var 40) (.neg Qa)) Qa) (.not (.var 39)))) .nil) .nil) (.cons (.asg 41 (.call 10 (.cons (.bin .Add (.bin .Add (.list (.cons (.sub (.var 40) Qd) .nil)) (.comp (.bin .Add (.bin .Sub (.sub (.var 40) (.var 43)) (.sub (.var 40) (.bin .Sub (.var 43) Qa))) Qa) 43 (.rng2 Qa Qe) Wv Qc)) (.list (.cons Qd .nil))) .nil))) (.cons (.ite (.or (.cmp .NotEq (.call 15 (.cons (.var 41) (.cons (.var 21) (.cons (.var 22) .nil)))) (.var 38)) (.not (.call 6 (.cons (.var 41) .nil)))) Qb .nil) (.cons (.asg 37 (.comp (.bin .Sub (.var 42) (.bi .min (.cons (.var 26) .nil))) 42 (.val (.var 26)) Wv Qc)) (.cons (.ret (.and (.cmp .Eq (.call 17 (.cons (.var 38) (.cons (.var 25) (.cons (.var 23) (.cons (.var 20) .nil))))) (.var 37)) (.cmp .Eq (.call 17 (.cons (.var 41) (.cons (.var 25) (.cons (.var 23) (.cons (.var 20) .nil))))) (.var 37)))) .nil)))))))))))))))))))))))))))))))))))))))}
def aQ:List Î:=[bJ,bH,f_v,bK,bI,aS,a7,lS,iV,zT,rE,jC,jD,j7,dW,m7,cF,dE,bF]
end Mine.Internal.L1
end
section
open PySem PySem.W PyProof.Rows
namespace Mine.Internal
section
variable{F:Fn}{pe pe':Ã}{s:PS}{ss a b:ù}{e t:PE}{p:PV}{i j:Nat}{R:Option (Ã×Fl)}
theorem seq (h1:dH F s pe=J (pe',.next)) (h2:aD F ss pe'=R):aD F (.cons s ss) pe=R:=(bs h1).trans h2
theorem aJ (h1:dH F s pe=J (pe',.next)):aD F (.cons s .nil) pe=J (pe',.next):=seq h1 rfl
theorem jE:aD F .nil pe=J (pe,.next):=rfl
theorem HC (h:aB F e pe=J p):aD F (.cons (.ret e) ss) pe=J (pe,.ret p):=bs (show dH F (.ret e) pe=J (pe,.ret p) from bs h)
theorem zU (h1:dH F s pe=J (pe',fl)) (h:fl≠.next):aD F (.cons s ss) pe=J (pe',fl):=(bs h1).trans (by cases fl with|next=>exact absurd rfl h|_=>rfl)
theorem asg (h:aB F e pe=J p):dH F (.asg i e) pe=J (st pe i p,.next):=bs h
theorem asgO (h:aB F e pe=J (.lst l)):dH F (.asgO i e) pe=J (st pe i (.lst l),.next):=bs h
theorem asgT (h:aB F e pe=J p) (hb:nY ts p pe=J pe'):dH F (.asgT ts e) pe=J (pe',.next):=(bs h).trans (bs hb)
theorem app (h0:lk pe i=J (.lst l)) (h:aB F e pe=J p) (hl:l.length<=100000):dH F (.app i e) pe=J (st pe i (.lst (l++[p])),.next):=(bs h0).trans ((bs h).trans (if_pos hl))
theorem j8 (h:aB F t pe=J (.bool Wu)) (h2:aD F a pe=R):dH F (.ite t a b) pe=R:=(bs h).trans h2
theorem iO (h:aB F t pe=J (.bool Wv)) (h2:aD F b pe=R):dH F (.ite t a b) pe=R:=(bs h).trans h2
theorem HE (h:aB F t pe=J (.bool c)) (h1:c=Wu->aD F a pe=R) (h2:c=Wv->aD F b pe=R):dH F (.ite t a b) pe=R:= by
 cases c
 ·exact iO h (h2 rfl)
 ·exact j8 h (h1 rfl)
theorem aug (h0:lk pe i=J x) (h:aB F e pe=J y) (hz:UW op x y=J z):dH F (.aug i op e) pe=J (st pe i z,.next):=(bs h0).trans ((bs h).trans (bs hz))
theorem ext (h0:lk pe i=J (.lst l)) (h:aB F e pe=J (.lst l')) (hl:l.length+l'.length<=100000):dH F (.ext i e) pe=J (st pe i (.lst (l++l')),.next):=(bs h0).trans ((bs h).trans (if_pos hl))
theorem pop (h0:lk pe i=J (.lst (l++[y]))) (hl:l.length+1<=100000):dH F (.pop j i) pe=J (st (st pe i (.lst l)) j y,.next):=(bs h0).trans ((bs xm).trans ((if_pos (by rw[am];exact hl)).trans (by rw[List.dropLast_concat])))
theorem pL (h:jM F Fx pe=J À) (h2:e9 (aD F a) ts À pe=R):dH F (.for ts Fx a) pe=R:=(bs h).trans h2
theorem HF (h:aB F e pe=J p) (hi:mU p=J À) (h2:e9 (aD F a) ts À pe=R):dH F (.esc ts e a) pe=R:=(bs h).trans ((bs hi).trans h2)
theorem HG (h2:g6 (aB F t) (aD F a) n pe=R):dH F (.while n t a) pe=R:=h2
noncomputable def bQ:Option (Ã×Fl)->Option PV
 |some (_,.ret v)=>J v
 |_=>Ww
theorem dX (hl:args.length=f.pars.length) (h:bQ (aD F f.code (mY args f.n))=J v):dP F f args=J v:=(if_pos hl).trans h
theorem aK (h1:dH F s pe=J (pe',.next)) (h2:bQ (aD F ss pe')=v):bQ (aD F (.cons s ss) pe)=v:=(congrArg bQ (bs h1)).trans h2
theorem cS (h:aB F e pe=J p):bQ (aD F (.cons (.ret e) ss) pe)=J p:=congrArg bQ (HC h)
theorem ZA (h:bQ (dH F s pe)=J v):bQ (aD F (.cons s ss) pe)=J v:= by
 show bQ ((dH F s pe).bind (thn (aD F ss)))=_;revert h;cases dH F s pe with
 |none=>exact λh=>nn h
 |some x=>
  obtain⟨q,fl⟩:=x;cases fl with
  |ret u=>exact id
  |next=>exact λh=>nn h
theorem jF (h:aB F t pe=J (.bool Wu)) (h2:bQ (aD F a pe)=J v):bQ (aD F (.cons (.ite t a b) ss) pe)=J v:=ZA (by exact O (j8 h rfl) h2)
theorem dF (h:aB F t pe=J (.bool Wv)) (h2:bQ (aD F ss pe)=v):bQ (aD F (.cons (.ite t a .nil) ss) pe)=v:=aK (iO h jE) h2
end
theorem dY (x y:Int) (h:dD x=Wu):iJ .Mult (.int x) (.int y)=J (.int (x*y)):=by show(if _ then _ else _)=_;exact O (if_pos h) rfl
theorem cN (x y:Int) (h:0<y):iJ .Mod (.int x) (.int y)=J (.int (x%y)):=by show(if _ then _ else _)=_;exact O (if_pos h) rfl
theorem fZ (x y:Int) (h:0<y/\y<1000000000):iJ .FloorDiv (.int x) (.int y)=J (.int (x/y)):=by show(if _ then _ else _)=_;exact O (if_pos h) rfl
theorem vI (x y:Int) (h:2<=x/\x<100/\0<=y/\y<100):iJ .Pow (.int x) (.int y)=J (.int (x^y.toNat)):=by show(if _ then _ else _)=_;exact O (if_pos h) rfl
theorem cZ (x y:UInt64) (h:ck y=Wv):iJ .Div (.flt x) (.flt y)=J (.flt (div x y)):=by show(if _ then _ else _)=_;refine O h ?_;rfl
theorem vJ (x y:UInt64) (h:ck y=Wv):iJ .Mod (.flt x) (.flt y)=J (.flt (cw x y).2):=by show(if _ then _ else _)=_;refine O h ?_;rfl
theorem QI (x:UInt64) (y:Int) (h:ķ y=Wu):iJ .Sub (.flt x) (.int y)=J (.flt (ae x (au y))):=by show(if _ then _ else _)=_;exact O (if_pos h) rfl
theorem QJ (x:UInt64) (y:Int) (h:ķ y=Wu):iJ .Mult (.flt x) (.int y)=J (.flt (mul x (au y))):=by show(if _ then _ else _)=_;exact O (if_pos h) rfl
theorem fK (x:Int) (y:UInt64) (h:ķ x=Wu):iJ .Mult (.int x) (.flt y)=J (.flt (mul (au x) y)):=by show(if _ then _ else _)=_;exact O (if_pos h) rfl
theorem QK (x y:Str) (h:x.length+y.length<=100000):iJ .Add (.str x) (.str y)=J (.str (x++y)):=by show(if _ then _ else _)=_;exact O (if_pos h) rfl
theorem dZ (x y:List PV) (h:x.length+y.length<=100000):iJ .Add (.lst x) (.lst y)=J (.lst (x++y)):=by show(if _ then _ else _)=_;exact O (if_pos h) rfl
noncomputable def Ă (a b:UInt64):Bool:=fw a b==J my
theorem QL (x:Str) (n:Int):iJ .Mult (.str x) (.int n)=UD x n:=rfl
theorem QM (x y:Int):ċ .max [.int x,.int y]=J (.int (if y>x then y else x)):=congrArg (λn=>J (PV.int n)) (zB _ _)
theorem EZ (x y:Int):ċ .min [.int x,.int y]=J (.int (if y<x then y else x)):=congrArg (λn=>J (PV.int n)) (zB _ _)
theorem zV (x y:Int):mI .Eq (.int x) (.int y)=J (x==y):= by
 show Ċ 3 (.int x) (.int y)=_;rfl
def Þ (r g b:UInt64):UInt64:=if Ţ g r then(if Ţ b g then b else g) else(if Ţ b r then b else r)
def ò (r g b:UInt64):UInt64:=if Ĵ g r then(if Ĵ b g then b else g) else(if Ĵ b r then b else r)
noncomputable def tlS:ù->ù
 |.cons _ s=>s
 |s=>s
def tq (n:Nat) (s:ù):ù:=Nat.repeat tlS n s
noncomputable def bo:ù->ù
 |.cons (.for _ _ s) _=>s
 |.cons (.while _ _ s) _=>s
 |.cons (.esc _ _ s) _=>s
 |.cons (.ite _ s _) _=>s
 |s=>s
noncomputable def el:ù->ù
 |.cons (.ite _ _ s) _=>s
 |s=>s
noncomputable def ex:ù->PE
 |.cons (.asg _ e) _=>e
 |.cons (.asgO _ e) _=>e
 |.cons (.asgT _ e) _=>e
 |.cons (.app _ e) _=>e
 |.cons (.ext _ e) _=>e
 |.cons (.aug _ _ e) _=>e
 |.cons (.ret e) _=>e
 |.cons (.ite e _ _) _=>e
 |_=>.cst .none
theorem vK{α:Type}{acc:List α}{x:α}{m N:Nat}(h:acc.length+(m+1)<=N):(acc++[x]).length+m<=N:= by
 rw[am,Nat.add_assoc,qt _ m];exact h
section
variable{F:Fn}{pe:Ã}{a b c d:PE}{es:Ĕ}{x y z w:PV}{l:List PV}{i j:Nat}{r:Option PV}
theorem eC{p:PV}:aB F (.cst p) pe=J p:=rfl
theorem eG{p:PV}:aB F (.gcst p) pe=J p:=rfl
theorem eV (h:lk pe i=r):aB F (.var i) pe=r:=h
theorem eB{op:ir}(h:aB F a pe=J x) (k:aB F b pe=J y) (g:iJ op x y=r):aB F (.bin op a b) pe=r:=(bs h).trans ((bs k).trans g)
theorem eQ{op:Cs}{t:Bool}(h:aB F a pe=J x) (k:aB F b pe=J y) (g:mI op x y=J t):aB F (.cmp op a b) pe=J (.bool t):=(bs h).trans ((bs k).trans (congrArg (tb PV.bool) g))
theorem eS (h:aB F a pe=J x) (k:aB F b pe=J y) (g:iT x y=r):aB F (.sub a b) pe=r:=(bs h).trans ((bs k).trans g)
theorem eZ{u v t:Option Int}(h:aB F a pe=J x) (h1:aB F b pe=J y) (h2:aB F c pe=J z) (h3:aB F d pe=J w) (k1:mT y=J u) (k2:mT z=J v) (k3:mT w=J t) (g:f8 x u v t=r):aB F (.slc a b c d) pe=r:=(bs h).trans ((bs h1).trans ((bs h2).trans ((bs h3).trans ((bs k1).trans ((bs k2).trans ((bs k3).trans g))))))
theorem eL (h:cC F es pe=J l):aB F (.list es) pe=J (.lst l):=congrArg (tb _) h
theorem eT (h:cC F es pe=J l):aB F (.tup es) pe=J (.tup l):=congrArg (tb _) h
theorem eN:cC F .nil pe=J []:=rfl
theorem eK (h:aB F a pe=J x) (k:cC F es pe=J l):cC F (.cons a es) pe=J (x::l):=(bs h).trans (bs k)
theorem eF{f:Nat}(h:cC F es pe=J l) (g:F f l=r):aB F (.call f es) pe=r:=(bs h).trans g
theorem eI{f:Bi}(h:cC F es pe=J l) (g:ċ f l=r):aB F (.bi f es) pe=r:=(bs h).trans g
theorem eM{f:Me}(h:aB F a pe=J x) (k:cC F es pe=J l) (g:ŏ f x l=r):aB F (.me f a es) pe=r:=(bs h).trans ((bs k).trans g)
theorem eNg{n:Int}(h:aB F a pe=J (.int n)):aB F (.neg a) pe=J (.int (-n)):=bs h
theorem eNt{t:Bool}(h:aB F a pe=J (.bool t)):aB F (.not a) pe=J (.bool (!t)):=bs h
theorem eW{n:Nat}{t:Bool}{Fx:PI}{l':List PV}(h:jM F Fx pe=J l) (k:eU (aB F c) (aB F a) t n pe l=J l'):aB F (.comp a n Fx t c) pe=J (.lst l'):=(bs h).trans (congrArg (tb PV.lst) k)
theorem eIt (h:aB F a pe=J (.bool Wu)) (k:aB F b pe=r):aB F (.ite a b c) pe=r:=(bs h).trans k
theorem eIf (h:aB F a pe=J (.bool Wv)) (k:aB F c pe=r):aB F (.ite a b c) pe=r:=(bs h).trans k
theorem eD{d:List (Int×SV)}(h:cC F es pe=J l) (k:nZ l=J d):aB F (.dict es) pe=J (.dcti d):=(bs h).trans (congrArg (tb PV.dcti) k)
theorem eRp{s y z u q:Str}{t:Bool}(h:aB F a pe=J (.str s)) (k:aB F b pe=J (.bool t)) (e:lk pe i=J (.str u)) (g:s.length<=1000/\u.length<=10/\z.length<=10/\(y==u)=Wv/\(y==z)=Wv) (hq:Txt.replace s y (if t then u else z)=q):aB F (.repl a y b i z) pe=J (.str q):=hq▸(bs h).trans ((bs k).trans ((bs e).trans (if_pos g)))
theorem eJ{u:Option (List PV)}(h:aB F a pe=J x) (g:tY x=u):jM F (.val a) pe=u:=(bs h).trans g
theorem eR1{n:Int}{u:Option (List PV)}(h:aB F a pe=J (.int n)) (g:mS 0 n=u):jM F (.rng1 a) pe=u:=(bs h).trans g
theorem eR2{m n:Int}{u:Option (List PV)}(h:aB F a pe=J (.int m)) (k:aB F b pe=J (.int n)) (g:mS m n=u):jM F (.rng2 a b) pe=u:=(bs h).trans ((bs k).trans g)
end
theorem eR3{F:Fn}{pe:Ã}{a b:PE}{m n:Int}{u:Option (List PV)}(h:aB F a pe=J (.int m)) (k:aB F b pe=J (.int n)) (g:t6 m n=u):jM F (.rng3 a b) pe=u:=(bs h).trans ((bs k).trans g)
theorem eA{F:Fn}{pe:Ã}{a b:PE}{x y:Bool}(h:aB F a pe=J (.bool x)) (k:aB F b pe=J (.bool y)):aB F (.and a b) pe=J (.bool (x&&y)):= by
 cases x
 ·exact bs h
 ·exact(bs h).trans (bs k)
theorem eO{F:Fn}{pe:Ã}{a b:PE}{x y:Bool}(h:aB F a pe=J (.bool x)) (k:aB F b pe=J (.bool y)):aB F (.or a b) pe=J (.bool (x||y)):= by
 cases x
 ·exact(bs h).trans (bs k)
 ·exact bs h
theorem gG{α β:Type}{l:List α}{f:α->β}{N:Nat}(h:l.length<=N):(l.map f).length<=N:=(ao f).symm▸h
theorem eWe{F:Fn}{pe:Ã}{a c:PE}{l l' l2:List PV}{n:Nat}{t:Bool}{Fx:PI}(h:jM F Fx pe=J l) (k:eU (aB F c) (aB F a) t n pe l=J l') (e:l'=l2):aB F (.comp a n Fx t c) pe=J (.lst l2):=e▸eW h k
theorem jG{α:Type}{cc ee:Ã->Option PV}{f g:α->PV}{tg:Nat}{pe:Ã}{l:List α}(h:∀q∈l,ee (st pe tg (f q))=J (g q)):eU cc ee Wv tg pe (l.map f)=J (l.map g):= by
 induction l with
 |nil=>rfl
 |cons a l ih=>exact i7 (h a ag) (ih λq hq=>h q (ah a hq))
theorem s5{α:Type}{q:α->Bool}{f g:α->PV}{cc ee:Ã->Option PV}{tg:Nat}{pe:Ã}{l:List α}(h:∀x∈l,cc (st pe tg (f x))=J (.bool (q x))/\(q x=Wu->ee (st pe tg (f x))=J (g x))):eU cc ee Wu tg pe (l.map f)=J ((l.filter q).map g):= by
 induction l with
 |nil=>rfl
 |cons x l ih=>
  have h1:=h x ag;have h2:=ih λy hy=>h y (ah x hy);rw[List.filter_cons];cases e:q x with
  |true=>exact UV (e▸h1.1) (h1.2 e) h2
  |false=>exact UU (e▸h1.1) h2
section
def sM (r g b M D:UInt64):UInt64:=
 if Ă r M then ae (div (ae M b) D) (div (ae M g) D)
 else if Ă g M then ae (add 0x4000000000000000 (div (ae M r) D)) (div (ae M b) D)
 else ae (add 0x4010000000000000 (div (ae M g) D)) (div (ae M r) D)
theorem z6:ck 0x4018000000000000=Wv:=by decide +kernel
theorem z1:ck 0x3ff0000000000000=Wv:=by decide +kernel
theorem z2:ck 0x4000000000000000=Wv:=by decide +kernel
theorem zW:one=0x3ff0000000000000:=by decide +kernel
variable{F:Fn}{r g b:UInt64}
theorem HH{pe:Ã}{M D:UInt64}{o i j k:Nat}(hr:lk pe 0=J (.flt r)) (hg:lk pe 1=J (.flt g)) (hM:lk pe 3=J (.flt M)) (h1:lk pe i=J (.flt (div (ae M r) D))) (h2:lk pe j=J (.flt (div (ae M g) D))) (h3:lk pe k=J (.flt (div (ae M b) D))):
  dH F (.ite (.cmp .Eq Qi Qh) (.cons (.asg o (.bin .Sub (.var k) (.var j))) .nil) (.cons (.ite (.cmp .Eq Qe Qh) (.cons (.asg o (.bin .Sub (.bin .Add (.cst (.flt 0x4000000000000000)) (.var i)) (.var k))) .nil) (.cons (.asg o (.bin .Sub (.bin .Add (.cst (.flt 0x4010000000000000)) (.var j)) (.var i))) .nil)) .nil)) pe=J (st pe o (.flt (sM r g b M D)),.next):= by
 unfold sM;refine HE (eQ hr hM rfl) (λc=>O (if_pos c) (aJ (asg (eB h3 h2 rfl)))) λc=>O (if_neg (jl.mp c)) (aJ (HE (eQ hg hM rfl) (λc=>O (if_pos c) (aJ (asg (eB (eB rfl h1 rfl) h3 rfl)))) λc=>O (if_neg (jl.mp c)) (aJ (asg (eB (eB rfl h2 rfl) h1 rfl)))))
theorem m3{pe:Ã}(h:lk pe 0=J (.flt r)) (h1:lk pe 1=J (.flt g)) (h2:lk pe 2=J (.flt b)):aB F (.bi .max (.cons Qi (.cons Qe (.cons Qj .nil)))) pe=J (.flt (Þ r g b))/\aB F (.bi .min (.cons Qi (.cons Qe (.cons Qj .nil)))) pe=J (.flt (ò r g b)):=⟨eI (eK h (eK h1 (eK h2 eN))) rfl,eI (eK h (eK h1 (eK h2 eN))) rfl⟩
theorem aBE (h:Ă (ò r g b) (Þ r g b)=Wu):
  dP F Co.bK [.flt r,.flt g,.flt b]=J (.tup [.flt 0,.flt 0,.flt (Þ r g b)]):= by
 apply dX rfl;show bQ (aD F Co.bK.code [J (.flt r),J (.flt g),J (.flt b),Ww,Ww,Ww,Ww,Ww,Ww,Ww,Ww,Ww])=_;unfold Co.bK;exact aK (asg (m3 rfl rfl rfl).1) (aK (asg (m3 rfl rfl rfl).2) (aK (asg (eB rfl rfl rfl)) (aK (asg rfl) (jF (eQ rfl rfl (congrArg J h)) (cS (eT (eK rfl (eK rfl (eK rfl eN)))))))))
theorem aBF (h:Ă (ò r g b) (Þ r g b)=Wv) (hM:ck (Þ r g b)=Wv) (hD:ck (ae (Þ r g b) (ò r g b))=Wv):
  dP F Co.bK [.flt r,.flt g,.flt b]=J (.tup [.flt (cw (div (sM r g b (Þ r g b) (ae (Þ r g b) (ò r g b))) 0x4018000000000000) one).2,
   .flt (div (ae (Þ r g b) (ò r g b)) (Þ r g b)),.flt (Þ r g b)]):= by
 rw[zW];apply dX rfl;show bQ (aD F Co.bK.code [J (.flt r),J (.flt g),J (.flt b),Ww,Ww,Ww,Ww,Ww,Ww,Ww,Ww,Ww])=_;unfold Co.bK;exact aK (asg (m3 rfl rfl rfl).1) (aK (asg (m3 rfl rfl rfl).2) (aK (asg (eB rfl rfl rfl)) (aK (asg rfl) (dF (eQ rfl rfl (congrArg J h)) (aK (asg (eB rfl rfl (cZ _ _ hM))) (aK (asg (eB (eB rfl rfl rfl) rfl (cZ _ _ hD))) (aK (asg (eB (eB rfl rfl rfl) rfl (cZ _ _ hD))) (aK (asg (eB (eB rfl rfl rfl) rfl (cZ _ _ hD))) (aK (HH rfl rfl rfl rfl rfl rfl) (aK (asg (eB (eB rfl rfl (cZ _ _ z6)) rfl (vJ _ _ z1))) (cS (eT (eK rfl (eK rfl (eK rfl eN)))))))))))))))
end
section
variable{F:Fn}{r g b h s v l:UInt64}
def ř (a b:UInt64):Bool:=Ĵ a b||Ă a b
theorem aBG (h:Ă (ò r g b) (Þ r g b)=Wu):
  dP F Co.bJ [.flt r,.flt g,.flt b]=J (.tup [.flt 0,.flt (div (add (Þ r g b) (ò r g b)) 0x4000000000000000),.flt 0]):= by
 apply dX rfl;show bQ (aD F Co.bJ.code [J (.flt r),J (.flt g),J (.flt b),Ww,Ww,Ww,Ww,Ww,Ww,Ww,Ww,Ww,Ww])=_;unfold Co.bJ;exact aK (asg (m3 rfl rfl rfl).1) (aK (asg (m3 rfl rfl rfl).2) (aK (asg (eB rfl rfl rfl)) (aK (asg (eB rfl rfl rfl)) (aK (asg (eB rfl rfl (cZ _ _ z2))) (jF (eQ rfl rfl (congrArg J h)) (cS (eT (eK rfl (eK rfl (eK rfl eN))))))))))
def vL (M N D l:UInt64):UInt64:=if ř l 0x3fe0000000000000 then div D (add M N) else div D (ae (ae 0x4000000000000000 M) N)
theorem WI{pe:Ã}{M N D:UInt64}(h3:lk pe 3=J (.flt M)) (h4:lk pe 4=J (.flt N)) (h5:lk pe 5=J (.flt (add M N))) (h6:lk pe 6=J (.flt D)) (h7:lk pe 7=J (.flt l))
  (KE:ř l 0x3fe0000000000000=Wu->ck (add M N)=Wv) (Ok:ř l 0x3fe0000000000000=Wv->ck (ae (ae 0x4000000000000000 M) N)=Wv):
  dH F Qm pe=J (st pe 8 (.flt (vL M N D l)),.next):= by
 unfold vL;exact HE (c:=ř l 0x3fe0000000000000) (eQ h7 rfl rfl) (λc=>O (if_pos c) (aJ (asg (eB h6 h5 (cZ _ _ (KE c)))))) λc=>O (if_neg (jl.mp c)) (aJ (asg (eB h6 (eB (eB rfl h3 rfl) h4 rfl) (cZ _ _ (Ok c)))))
theorem aBH (h:Ă (ò r g b) (Þ r g b)=Wv) (hD:ck (ae (Þ r g b) (ò r g b))=Wv)
  (KE:ř (div (add (Þ r g b) (ò r g b)) 0x4000000000000000) 0x3fe0000000000000=Wu->ck (add (Þ r g b) (ò r g b))=Wv)
  (Ok:ř (div (add (Þ r g b) (ò r g b)) 0x4000000000000000) 0x3fe0000000000000=Wv->ck (ae (ae 0x4000000000000000 (Þ r g b)) (ò r g b))=Wv):
  dP F Co.bJ [.flt r,.flt g,.flt b]=J (.tup [.flt (cw (div (sM r g b (Þ r g b) (ae (Þ r g b) (ò r g b))) 0x4018000000000000) one).2,
   .flt (div (add (Þ r g b) (ò r g b)) 0x4000000000000000),.flt (vL (Þ r g b) (ò r g b) (ae (Þ r g b) (ò r g b)) (div (add (Þ r g b) (ò r g b)) 0x4000000000000000))]):= by
 rw[zW];apply dX rfl;show bQ (aD F Co.bJ.code [J (.flt r),J (.flt g),J (.flt b),Ww,Ww,Ww,Ww,Ww,Ww,Ww,Ww,Ww,Ww])=_;unfold Co.bJ;exact aK (asg (m3 rfl rfl rfl).1) (aK (asg (m3 rfl rfl rfl).2) (aK (asg (eB rfl rfl rfl)) (aK (asg (eB rfl rfl rfl)) (aK (asg (eB rfl rfl (cZ _ _ z2))) (dF (eQ rfl rfl (congrArg J h)) (aK (WI rfl rfl rfl rfl rfl KE Ok) (aK (asg (eB (eB rfl rfl rfl) rfl (cZ _ _ hD))) (aK (asg (eB (eB rfl rfl rfl) rfl (cZ _ _ hD))) (aK (asg (eB (eB rfl rfl rfl) rfl (cZ _ _ hD))) (aK (HH rfl rfl rfl rfl rfl rfl) (aK (asg (eB (eB rfl rfl (cZ _ _ z6)) rfl (vJ _ _ z1))) (cS (eT (eK rfl (eK rfl (eK rfl eN))))))))))))))))
theorem WJ (h0:Ă s 0=Wu):dP F Co.bI [.flt h,.flt s,.flt v]=J (.tup [.flt v,.flt v,.flt v]):= by
 apply dX rfl;show bQ (aD F Co.bI.code [J (.flt h),J (.flt s),J (.flt v),Ww,Ww,Ww,Ww,Ww])=_;unfold Co.bI;exact jF (eQ rfl rfl (congrArg J h0)) (cS rfl)
noncomputable def aFM (k:Int) (v t p q:UInt64):List PV:=
 if k=0 then[.flt v,.flt t,.flt p] else if k=1 then[.flt q,.flt v,.flt p] else if k=2 then[.flt p,.flt v,.flt t]
 else if k=3 then[.flt p,.flt q,.flt v] else if k=4 then[.flt t,.flt p,.flt v] else[.flt v,.flt p,.flt q]
theorem r_b{P:Prop}[Decidable P] {t:PE}{es:Ĕ}{ss:ù}{pe:Ã}{p q:List PV}(h:aB F t pe=J (.bool (decide P))) (h1:cC F es pe=J p) (h2:¬P->bQ (aD F ss pe)=J (.tup q)):bQ (aD F (.cons (.ite t (.cons (.ret (.tup es)) .nil) .nil) ss) pe)=J (.tup (if P then p else q)):= by
 by_cases c:P
 ·rw[decide_eq_true c] at h;rw[if_pos c];exact jF h (cS (eT h1))
 ·rw[decide_eq_false c] at h;rw[if_neg c];exact dF h (h2 c)
theorem aFN{i:Int}(a:¬i%6=0) (b:¬i%6=1) (c:¬i%6=2) (d:¬i%6=3) (e:¬i%6=4):i%6=5:=by lia
theorem WK (h0:Ă s 0=Wv) (hi:ċ .int [.flt (mul h 0x4018000000000000)]=J (.int i)) (ho:ķ i=Wu):
  dP F Co.bI [.flt h,.flt s,.flt v]=J (.tup (aFM (i%6) v
   (mul v (ae 0x3ff0000000000000 (mul s (ae 0x3ff0000000000000 (ae (mul h 0x4018000000000000) (au i))))))
   (mul v (ae 0x3ff0000000000000 s))
   (mul v (ae 0x3ff0000000000000 (mul s (ae (mul h 0x4018000000000000) (au i))))))):= by
 apply dX rfl;show bQ (aD F Co.bI.code [J (.flt h),J (.flt s),J (.flt v),Ww,Ww,Ww,Ww,Ww])=_;unfold Co.bI;refine dF (eQ rfl rfl (congrArg J h0)) (aK (asg (eI (eK (eB rfl rfl rfl) eN) hi)) (aK (asg (eB (eB rfl rfl rfl) rfl (QI _ _ ho))) (aK (asg (eB rfl (eB rfl rfl rfl) rfl)) (aK (asg (eB rfl (eB rfl (eB rfl rfl rfl) rfl) rfl)) (aK (asg (eB rfl (eB rfl (eB rfl (eB rfl rfl rfl) rfl) rfl) rfl)) (aK (asg (eB rfl rfl (cN _ 6 (by decide)))) ?_))))));exact r_b (eQ rfl rfl rfl) rfl λa=>r_b (eQ rfl rfl rfl) rfl λb=>r_b (eQ rfl rfl rfl) rfl λc=>r_b (eQ rfl rfl rfl) rfl λd=>r_b (eQ rfl rfl rfl) rfl λe=>jF (eQ rfl rfl (congrArg J (decide_eq_true (aFN a b c d e)))) (cS rfl)
def vF (m1 m2 u:UInt64):UInt64:=
 if Ĵ u 0x3fc5555555555555 then add m1 (mul (mul (ae m2 m1) u) 0x4018000000000000)
 else if Ĵ u 0x3fe0000000000000 then m2
 else if Ĵ u 0x3fe5555555555555 then add m1 (mul (mul (ae m2 m1) (ae 0x3fe5555555555555 u)) 0x4018000000000000)
 else m1
theorem aBI{t e:PE}{ss:ù}{pe:Ã}{p q:UInt64}{c:Bool}(h:aB F t pe=J (.bool c)) (h1:aB F e pe=J (.flt p)) (h2:bQ (aD F ss pe)=J (.flt q)):bQ (aD F (.cons (.ite t (.cons (.ret e) .nil) .nil) ss) pe)=J (.flt (if c then p else q)):= by
 cases c
 ·exact dF h h2
 ·exact jF h (cS h1)
theorem aEB:dP F Co.f_v [.flt m1,.flt m2,.flt u]=J (.flt (vF m1 m2 (cw u one).2)):= by
 rw[zW];apply dX rfl;show bQ (aD F Co.f_v.code [J (.flt m1),J (.flt m2),J (.flt u)])=_;unfold Co.f_v Co.mP Co.jX vF;exact aK (asg (eB rfl rfl (vJ _ _ z1))) (aBI (eQ rfl rfl rfl) (eB rfl (eB (eB (eB rfl rfl rfl) rfl rfl) rfl rfl) rfl) (aBI (eQ rfl rfl rfl) rfl (aBI (eQ rfl rfl rfl) (eB rfl (eB (eB (eB rfl rfl rfl) (eB rfl rfl rfl) rfl) rfl rfl) rfl) (cS rfl))))
theorem WL (h0:Ă s 0=Wu):dP F (Co.bH k) [.flt h,.flt l,.flt s]=J (.tup [.flt l,.flt l,.flt l]):= by
 apply dX rfl;show bQ (aD F (Co.bH k).code [J (.flt h),J (.flt l),J (.flt s),Ww,Ww])=_;unfold Co.bH;exact jF (eQ rfl rfl (congrArg J h0)) (cS rfl)
def m9 (l s:UInt64):UInt64:=if ř l 0x3fe0000000000000 then mul l (add 0x3ff0000000000000 s) else ae (add l s) (mul l s)
theorem aBJ{pe:Ã}(h1:lk pe 1=J (.flt l)) (h2:lk pe 2=J (.flt s)):dH F (.ite (.cmp .LtE Qe (.cst (.flt 0x3fe0000000000000))) (.cons (.asg 3 (.bin .Mult Qe (.bin .Add Qk Qj))) .nil) (.cons (.asg 3 (.bin .Sub (.bin .Add Qe Qj) (.bin .Mult Qe Qj))) .nil)) pe=J (st pe 3 (.flt (m9 l s)),.next):= by
 unfold m9;exact HE (c:=ř l 0x3fe0000000000000) (eQ h1 rfl rfl) (λc=>O (if_pos c) (aJ (asg (eB h1 (eB rfl h2 rfl) rfl)))) λc=>O (if_neg (jl.mp c)) (aJ (asg (eB (eB h1 h2 rfl) (eB h1 h2 rfl) rfl)))
theorem WM (h0:Ă s 0=Wv) (hF:∀m1 m2 u:UInt64,F k [.flt m1,.flt m2,.flt u]=J (.flt (vF m1 m2 (cw u one).2))):
  dP F (Co.bH k) [.flt h,.flt l,.flt s]=J (.tup [
   .flt (vF (ae (mul 0x4000000000000000 l) (m9 l s)) (m9 l s) (cw (add h 0x3fd5555555555555) one).2),
   .flt (vF (ae (mul 0x4000000000000000 l) (m9 l s)) (m9 l s) (cw h one).2),
   .flt (vF (ae (mul 0x4000000000000000 l) (m9 l s)) (m9 l s) (cw (ae h 0x3fd5555555555555) one).2)]):= by
 apply dX rfl;show bQ (aD F (Co.bH k).code [J (.flt h),J (.flt l),J (.flt s),Ww,Ww])=_;unfold Co.bH Co.jW;exact dF (eQ rfl rfl (congrArg J h0)) (aK (aBJ rfl rfl) (aK (asg (eB (eB rfl rfl rfl) rfl rfl)) (cS (eT (eK (eF (eK rfl (eK rfl (eK (eB rfl rfl rfl) eN))) (hF ..)) (eK (eF (eK rfl (eK rfl (eK rfl eN))) (hF ..)) (eK (eF (eK rfl (eK rfl (eK (eB rfl rfl rfl) eN))) (hF ..)) eN)))))))
end
def Gr (S:Nat) (x:UInt64) (n:Int):Prop:=Ç x/\R x*(S:Rat)=(n:Rat)
structure Sc (S:Nat) where
 e:Nat
 le:e<=1000
 eq:S=2^e
theorem Sc.pos{S:Nat}(h:Sc S):(1:Rat)<=(S:Rat):= by
 have:1<=S:=by exact O h.eq Nat.one_le_two_pow
 exact_mod_cast this
theorem Sc.dy{S:Nat}(h:Sc S){q:Rat}{n:Int}(hq:q*(S:Rat)=n) (hn:n.natAbs<=2^53):Dy q:=(cA n h.e (aa h.le (by decide)) hn (by exact aFZ h.eq hq))
theorem ZB{n:Int}(h:n.natAbs<=2^53):-(2^53:Rat)<=(n:Rat)/\(n:Rat)<=2^53:= by
 have h1:-(2^53:Int)<=n:=xj (ar (Cd n▸Cp) (gm.mpr h));have h2:n<=(2^53:Int):=by exact ì [_] [_] (.l .a .ke) [.x .q .ke,.l .a .q] h Cp
 have Jx:=an.mpr h1;have Jb:=an.mpr h2;rw[Ay,pq] at Jx;rw[pq] at Jb;exact⟨Jx,Jb⟩
theorem iP{q s b:Rat}(hs:1<=s) (hb:0<=b) (h:q*s<=b):q<=b:= by
 rcases(io:q<=0\/0<=q) with hq|hq
 ·exact vy hq hb
 ·have:=Rat.mul_le_mul_of_nonneg_left hs hq;exact ţ (.l .a .b) [.l (.M .a .c) .b,.l (.M .a .n1) (.M .a .c)] h this
section
variable{S:Nat}{x y:UInt64}{n m:Int}
theorem lT (hS:Sc S) (hx:Gr S x n) (hy:Gr S y m) (h:(n-m).natAbs<=2^53):Gr S (ae x y) (n-m):= by
 refine xa hx λf1 e1=>?_;clear hx;refine xa hy λf2 e2=>?_;clear hy;have hp:=hS.pos;have hb:=ZB h;have he:(R x-R y)*(S:Rat)=((n-m:Int):Rat):=by push_cast;exact ś (.e (.M .ka .c) (.S .d .e)) [.e (.M .a .c) .d,.e .e .ki] e1 e2.symm
 refine bS (iW f1 f2 (M:=2^53) ⟨53,by decide,rfl⟩
  (by
   have:-(R x-R y)<=2^53:=iP hp (ų (.l .n0 .ke) []) (ġ (.l (.M (.G .ka) .c) .ke) [.l (.G .ke) .d,.e .d (.M .ka .c)] hb.1 he.symm);push_cast;exact ŉ (.l (.G (.N 9007199254740992)) .ka) [.l (.G .ka) .ke] this)
  (by
   have:(R x-R y)<=2^53:=iP hp (ų (.l .n0 .ke) []) (ġ (.l (.M .ka .c) .ke) [.l .d .ke,.e (.M .ka .c) .d] hb.2 he);push_cast;exact ŉ (.l .ka (.N 9007199254740992)) [.l .ka .ke] this)) λa bc Gf b=>?_;clear bc;exact⟨a,by exact O (b (hS.dy he h)) he⟩
theorem QN (hS:Sc S) (hx:Gr S x n) (hy:Gr S y m) (h:(n+m).natAbs<=2^53):Gr S (add x y) (n+m):= by
 refine xa hx λf1 e1=>?_;clear hx;refine xa hy λf2 e2=>?_;clear hy;have hp:=hS.pos;have hb:=ZB h;have he:(R x+R y)*(S:Rat)=((n+m:Int):Rat):=by push_cast;exact ś (.e (.M .kb .c) (.A .d .e)) [.e (.M .a .c) .d,.e .ki .e] e1 e2
 refine bS (j5 f1 f2 (M:=2^53) ⟨53,by decide,rfl⟩
  (by
   have:-(R x+R y)<=2^53:=iP hp (ų (.l .n0 .ke) []) (ġ (.l (.M (.G .kb) .c) .ke) [.l (.G .ke) .d,.e .d (.M .kb .c)] hb.1 he.symm);push_cast;exact ŉ (.l (.G (.N 9007199254740992)) .kb) [.l (.G .kb) .ke] this)
  (by
   have:(R x+R y)<=2^53:=iP hp (ų (.l .n0 .ke) []) (ġ (.l (.M .kb .c) .ke) [.l .d .ke,.e (.M .kb .c) .d] hb.2 he);push_cast;exact ŉ (.l .kb (.N 9007199254740992)) [.l .kb .ke] this)) λa bc Gf b=>?_;clear bc;exact⟨a,by exact O (b (hS.dy he h)) he⟩
theorem x7 (hS:Sc S) (hx:Gr S x n) (hy:Gr S y m):R x<R y<->n<m:= by
 refine xa hx λf1 e1=>?_;clear hx;refine xa hy λf2 e2=>?_;clear hy;have hp:(0:Rat)<(S:Rat):=by have:=hS.pos;exact Ŝ (.t .n0 .a) [.l .n1 .a] this
 constructor
 ·intro h;have:=jh h hp;rw[e1,e2] at this
  exact_mod_cast this
 ·intro h;have:(n:Rat)<(m:Rat):=by exact_mod_cast h
  rw[<-e1,<-e2] at this;exact fe this (ay hp)
theorem QO (hS:Sc S) (hx:Gr S x n) (hy:Gr S y m):R x=R y<->n=m:= by
 have h1:=x7 hS hx hy;have h2:=x7 hS hy hx;constructor
 ·intro h;have a:¬n<m:=λq=>by have:=h1.mpr q;grind
  have b:¬m<n:=λq=>by have:=h2.mpr q;grind
  exact iz ((dr.mp b)) ((dr.mp a))
 ·intro h;have a:¬R x<R y:=λq=>by have:=h1.mp q;exact absurd (ő (.t .n0 .n0) [.e .a .b,.t .b .a] h.symm this) (uf _)
  have b:¬R y<R x:=λq=>by have:=h2.mp q;exact absurd (ő (.t .n0 .n0) [.e .a .b,.t .b .a] h this) (uf _)
  exact lm ((mf.mp b)) ((mf.mp a))
theorem jQ (hS:Sc S) (hx:Gr S x n) (hy:Gr S y m):Ă x y=decide (n=m):= by
 have h:=QO hS hx hy;have h1:=x7 hS hx hy
 delta Ă
 refine O (mZ hx.1 hy.1) ?_
 by_cases hc:n=m
 ·refine O (if_neg (by rw[h1];exact dr.mpr (de hc.symm))) (O (if_pos (h.mpr hc)) ?_);simp[hc]
 ·have:¬R x=R y:=λq=>hc (h.mp q);simp only[hc,decide_false];split
  ·rfl
  ·first|rw[if_neg this];rfl|rfl
theorem E0 (hS:Sc S) (hx:Gr S x n) (hy:Gr S y m):Ţ x y=decide (n>m):= by
 have h:=QO hS hx hy;have h1:=x7 hS hx hy
 delta Ţ
 refine O (mZ hx.1 hy.1) ?_
 by_cases hc:n<m
 ·refine O (if_pos (h1.mpr hc)) ?_;have:¬n>m:=by exact dr.mpr (ba hc)
  simp[this]
 ·refine O (if_neg (λq=>hc (h1.mp q))) ?_
  by_cases hd:n=m
  ·refine O (if_pos (h.mpr hd)) ?_;have:¬n>m:=by exact dr.mpr (de hd)
   simp[this]
  ·refine O (if_neg (λq=>hd (h.mp q))) ?_;have:n>m:=by lia
   simp[this]
theorem E1 (hS:Sc S) (hx:Gr S x n) (hy:Gr S y m):Ĵ x y=decide (n<m):= by
 have h:=QO hS hx hy;have h1:=x7 hS hx hy
 delta Ĵ
 refine O (mZ hx.1 hy.1) ?_
 by_cases hc:n<m
 ·refine O (if_pos (h1.mpr hc)) ?_;simp[hc]
 ·refine O (if_neg (λq=>hc (h1.mp q))) ?_
  by_cases hd:n=m
  ·refine O (if_pos (h.mpr hd)) ?_;simp[hc]
  ·refine O (if_neg (λq=>hd (h.mp q))) ?_;simp[hc]
theorem pM (hS:Sc S) (hx:Gr S x n):ck x=decide (n=0):= by
 refine O (vG hx.1) ?_;have hp:(0:Rat)<(S:Rat):=by have:=hS.pos;exact Ŝ (.t .n0 .a) [.l .n1 .a] this
 have:R x=0<->n=0:= by
  constructor
  ·intro h;have:=hx.2;rw[h,fg] at this;have h2:((0:Int):Rat)=(n:Rat):=by exact_mod_cast this
   have h3:(0:Int)=n:=by exact_mod_cast h2
   exact h3.symm
  ·intro h;have h2:=hx.2;rw[h] at h2;refine fQ hp ?_;refine O h2 (O (fg ..) ?_);push_cast;rfl
 simp[this]
noncomputable def aE (a b c:Int):Int:=if b>a then(if c>b then c else b) else(if c>a then c else a)
noncomputable def aL (a b c:Int):Int:=if b<a then(if c<b then c else b) else(if c<a then c else a)
variable{r g b:UInt64}{A B C:Int}
theorem x9 (hS:Sc S) (hr:Gr S r A) (hg:Gr S g B) (hb:Gr S b C):Gr S (Þ r g b) (aE A B C):= by
 delta Þ aE
 refine O (E0 hS hg hr) (O (E0 hS hb hg) (O (E0 hS hb hr) ?_));simp only[decide_eq_true_eq];split
 ·split
  ·exact hb
  ·exact hg
 ·split
  ·exact hb
  ·exact hr
theorem yA (hS:Sc S) (hr:Gr S r A) (hg:Gr S g B) (hb:Gr S b C):Gr S (ò r g b) (aL A B C):= by
 delta ò aL
 refine O (E1 hS hg hr) (O (E1 hS hb hg) (O (E1 hS hb hr) ?_));simp only[decide_eq_true_eq];split
 ·split
  ·exact hb
  ·exact hg
 ·split
  ·exact hb
  ·exact hr
theorem vM (hS:Sc S) (hx:Gr S x n) (hy:Gr S y m) (h0:0<=n) (h1:n<=m) (h2:0<m):
  Ç (div x y)/\(n:Rat)/(m:Rat)-1/2^54<=R (div x y)/\R (div x y)<=(n:Rat)/(m:Rat)+1/2^54/\(n=0->R (div x y)=0)/\(n=m->R (div x y)=1):= by
 have hp:(0:Rat)<(S:Rat):=by have:=hS.pos;exact Ŝ (.t .n0 .a) [.l .n1 .a] this
 refine xa hx λf1 e1=>?_;clear hx;refine xa hy λf2 e2=>?_;clear hy;have hm:(0:Rat)<(m:Rat):=by exact_mod_cast h2
 have hn:(0:Rat)<=(n:Rat):=by exact_mod_cast h0
 have Mr:(n:Rat)<=(m:Rat):=by exact_mod_cast h1
 have Lg:0<R y:=fe (c:=(S:Rat)) (by exact O (fg ..) (O e2 hm)) (ay hp);have Vx:0<=R x:=cT hp (by exact O (fg ..) (O e1 hn));have Ps:R x<=R y:=cT hp (by exact O e1 (O e2 Mr));refine bS (CF f1 f2 Lg (M:=1) ⟨0,by decide,rfl⟩ (by push_cast;exact ŉ (.l (.G (.M .n1 .a)) .b) [.t .n0 .a,.l .n0 .b] Lg Vx) (by push_cast;exact ŉ (.l .a (.M .n1 .b)) [.l .a .b] Ps)) λa b c d=>?_;have hq:R x/R y=(n:Rat)/(m:Rat):= by
  have q1:R x/R y*R y=R x:=ğ (by assumption);have q2:(n:Rat)/(m:Rat)*(m:Rat)=n:=ğ (by assumption);generalize R x/R y=Q at*;generalize (n:Rat)/(m:Rat)=P at*;refine fQ hm ?_;exact O q2 (aFZ e1 (aFZ q1 (aFZ e2 (ţ (.e (.M .a .ki) (.M .kc .c)) []))))
 rw[hq] at b c d;push_cast at b c;refine(nW a b c (λe=>?_) (λe=>?_))
 ·have:(n:Rat)/(m:Rat)=0:=by refine O e ?_;push_cast;simp[xl]
  rw[this] at d;exact d (cA 0 0 (by decide) (by decide) (by push_cast;exact ų (.e (.M .n0 .n1) .n0) []))
 ·have:(n:Rat)/(m:Rat)=1:=by refine O e ?_;exact fQ hm ((ğ hm).trans (rf _).symm)
  rw[this] at d;exact d (cA 1 0 (by decide) (by decide) (by push_cast;exact ų (.e (.M .n1 .n1) .n1) []))
end
theorem aBK (h:vh x=Wu):Ç x:= by
 delta vh at h
 delta Ç
 cases hd:qo x with
 |fin a m e=>exact(fP a m e rfl)
 |_=>rw[hd] at h;cases h
theorem oA (hf:vh x=Wu) (hd:0<d) (h:val x*d=n*(K:Int)):Ç x/\R x=(n:Rat)/(d:Rat):=⟨aBK hf,Į hd h⟩
theorem l2:Ç 0x4000000000000000/\R 0x4000000000000000=2:= by
 have:=oA (x:=0x4000000000000000) (n:=2) (d:=1) (by decide +kernel) (by decide) (by decide +kernel);exact⟨this.1,by refine O this.2 ?_;push_cast;exact æ (.e (.D .n2 .n1) .n2) [] rfl⟩
theorem l4:Ç 0x4010000000000000/\R 0x4010000000000000=4:= by
 have:=oA (x:=0x4010000000000000) (n:=4) (d:=1) (by decide +kernel) (by decide) (by decide +kernel);exact⟨this.1,by refine O this.2 ?_;push_cast;exact æ (.e (.D .n4 .n1) .n4) [] rfl⟩
theorem l6:Ç 0x4018000000000000/\R 0x4018000000000000=6:= by
 have:=oA (x:=0x4018000000000000) (n:=6) (d:=1) (by decide +kernel) (by decide) (by decide +kernel);exact⟨this.1,by refine O this.2 ?_;push_cast;exact æ (.e (.D .n6 .n1) .n6) [] rfl⟩
theorem l1:Ç 0x3ff0000000000000/\R 0x3ff0000000000000=1:= by
 have:=oA (x:=0x3ff0000000000000) (n:=1) (d:=1) (by decide +kernel) (by decide) (by decide +kernel);exact⟨this.1,by refine O this.2 ?_;push_cast;exact æ (.e (.D .n1 .n1) .n1) [] rfl⟩
theorem lh:Ç 0x3fe0000000000000/\R 0x3fe0000000000000=1/2:= by
 have:=oA (x:=0x3fe0000000000000) (n:=1) (d:=2) (by decide +kernel) (by decide) (by decide +kernel);exact⟨this.1,by refine O this.2 ?_;push_cast;exact æ (.e (.D .n1 .n2) (.D .n1 .n2)) [] rfl⟩
theorem l0:Ç 0/\R 0=0:= by
 have:=oA (x:=0) (n:=0) (d:=1) (by decide +kernel) (by decide) (by decide +kernel);exact⟨this.1,by refine O this.2 ?_;push_cast;exact æ (.e (.D .n0 .n1) .n0) [] rfl⟩
theorem l13:Ç 0x3fd5555555555555/\R 0x3fd5555555555555=6004799503160661/2^54:= by
 have:=oA (x:=0x3fd5555555555555) (n:=6004799503160661) (d:=2^54) (by decide +kernel) (by decide) (by decide +kernel);exact⟨this.1,by refine O this.2 ?_;push_cast;exact æ (.e (.D .km .kC) (.E 6004799503160661)) [] rfl⟩
theorem l16:Ç 0x3fc5555555555555/\R 0x3fc5555555555555=6004799503160661/2^55:= by
 have:=oA (x:=0x3fc5555555555555) (n:=6004799503160661) (d:=2^55) (by decide +kernel) (by decide) (by decide +kernel);exact⟨this.1,by refine O this.2 ?_;push_cast;exact æ (.e (.D .km (.N 36028797018963968)) (.D .km (.P .n2 55))) [] rfl⟩
theorem l23:Ç 0x3fe5555555555555/\R 0x3fe5555555555555=6004799503160661/2^53:= by
 have:=oA (x:=0x3fe5555555555555) (n:=6004799503160661) (d:=2^53) (by decide +kernel) (by decide) (by decide +kernel);exact⟨this.1,by refine O this.2 ?_;push_cast;exact æ (.e (.D .km (.N 9007199254740992)) (.D .km .ke)) [] rfl⟩
def lU (A B C:Int):Rat:=
 if A=aE A B C then((B-C:Int):Rat)/((aE A B C-aL A B C:Int):Rat)
 else if B=aE A B C then 2+((C-A:Int):Rat)/((aE A B C-aL A B C:Int):Rat)
 else 4+((A-B:Int):Rat)/((aE A B C-aL A B C:Int):Rat)
theorem bE (A B C:Int):A<=aE A B C/\B<=aE A B C/\C<=aE A B C/\(aE A B C=A\/aE A B C=B\/aE A B C=C):= by
 delta aE
 by_cases h:B>A
 ·refine O (if_pos h) ?_
  by_cases h':C>B
  ·exact O (if_pos h') (fH (ba (sb h h')) (ba h') (bq _) (.inr (.inr rfl)))
  ·exact O (if_neg h') (fH (ba h) (bq _) (dr.mp h') (.inr (.inl rfl)))
 ·refine O (if_neg h) ?_
  by_cases h':C>A
  ·exact O (if_pos h') (fH (ba h') (ar (dr.mp h) (ba h')) (bq _) (.inr (.inr rfl)))
  ·exact O (if_neg h') (fH (bq _) (dr.mp h) (dr.mp h') (.inl rfl))
theorem dA (A B C:Int):aL A B C<=A/\aL A B C<=B/\aL A B C<=C/\(aL A B C=A\/aL A B C=B\/aL A B C=C):= by
 delta aL
 by_cases h:B<A
 ·refine O (if_pos h) ?_
  by_cases h':C<B
  ·exact O (if_pos h') (fH (ba (sb h' h)) (ba h') (bq _) (.inr (.inr rfl)))
  ·exact O (if_neg h') (fH (ba h) (bq _) (dr.mp h') (.inr (.inl rfl)))
 ·refine O (if_neg h) ?_
  by_cases h':C<A
  ·exact O (if_pos h') (fH (ba h') (ar (ba h') (dr.mp h)) (bq _) (.inr (.inr rfl)))
  ·exact O (if_neg h') (fH (bq _) (dr.mp h) (dr.mp h') (.inl rfl))
theorem ZC{x S:Int}(h0:0<=x) (h1:x<=S) (hS:S<=2^53):x.natAbs<=2^53:=gm.mp (by exact O (av h0) (ar h1 hS))
theorem aBL{a b S:Int}(ha:0<=a/\a<=S) (hb:0<=b/\b<=S) (hS:S<=2^53):(a-b).natAbs<=2^53:= by
 rcases zr b a with h|h
 ·exact ZC (lb h) (ar (Bl _ hb.1) ha.2) hS
 ·exact aFZ (Cd ..) (O (Int.neg_sub ..) (ZC (lb h) (ar (Bl _ ha.1) hb.2) hS))
theorem s6 (h1:A<=m) (h2:B<=m) (h3:C<=m) (h4:m=A\/m=B\/m=C):aE A B C=m:= by
 refine bS (bE A B C) λq1 q2 q3 q4=>?_;refine iz ?_ ?_
 ·rcases q4 with e|e|e<;>refine O e ?_<;>assumption
 ·rcases h4 with rfl|rfl|rfl<;>assumption
theorem s7 (h1:m<=A) (h2:m<=B) (h3:m<=C) (h4:m=A\/m=B\/m=C):aL A B C=m:= by
 refine bS (dA A B C) λq1 q2 q3 q4=>?_;refine iz ?_ ?_
 ·rcases h4 with rfl|rfl|rfl<;>assumption
 ·rcases q4 with e|e|e<;>refine O e ?_<;>assumption
theorem WN{a:Int}{S:Nat}(h:0<=a/\a<=S) (hS:S<=2^50):0<=a/\a<=2^50:=⟨h.1,ar h.2 (gm.mpr hS)⟩
section
variable{S:Nat}{r g b:UInt64}{A B C:Int}
theorem kW{n m:Int}(h0:0<=n) (h1:n<=m) (h2:0<m):(0:Rat)<=(n:Rat)/(m:Rat)/\(n:Rat)/(m:Rat)<=1:= by
 have hm:(0:Rat)<(m:Rat):=by exact_mod_cast h2
 have hn:(0:Rat)<=(n:Rat):=by exact_mod_cast h0
 have Mr:(n:Rat)<=(m:Rat):=by exact_mod_cast h1
 have q:(n:Rat)/(m:Rat)*(m:Rat)=n:=ğ (by assumption);exact⟨cT hm (by exact O q (O (fg ..) hn)),cT hm (by refine O q (O (rf ..) ?_);exact Mr)⟩
theorem aEC{a b:Int}(ha:0<=a/\a<=2^50) (hb:0<=b/\b<=2^50):(a-b).natAbs<=2^53:=aBL ha hb (by decide)
theorem vN{X Y x:UInt64}{M N A:Int}(hS:Sc S) (gM:Gr S X M) (gN:Gr S Y N) (gr:Gr S x A) (n:N<=A) (m:A<=M) (hA:0<=A/\A<=2^50) (hM:0<=M/\M<=2^50) (hN:0<=N/\N<=2^50) (hd:N<M):
  Ç (div (ae X x) (ae X Y))/\((M-A:Int):Rat)/((M-N:Int):Rat)-1/2^54<=R (div (ae X x) (ae X Y))/\R (div (ae X x) (ae X Y))<=((M-A:Int):Rat)/((M-N:Int):Rat)+1/2^54/\
  0<=((M-A:Int):Rat)/((M-N:Int):Rat)/\((M-A:Int):Rat)/((M-N:Int):Rat)<=1:= by
 have gD:=lT hS gM gN (aEC hM hN);have gx:=lT hS gM gr (aEC hM hA);refine bS (vM hS gx gD (lb m) (yf n M) (lf hd)) λr1 r2 r3 bc=>?_;clear bc;refine xa (kW (n:=M-A) (m:=M-N) (lb m) (yf n M) (lf hd)) λru rv=>?_;exact(nW r1 r2 r3 ru rv)
theorem QP{X Y M D:Int}(h:0<D):((X-Y:Int):Rat)/(D:Rat)=((M-Y:Int):Rat)/(D:Rat)-((M-X:Int):Rat)/(D:Rat):= by
 have hd:(0:Rat)<(D:Rat):=by exact_mod_cast h
 refine fQ hd ?_;rw[yr,Aq,Rat.neg_mul,ğ hd,ğ hd,ğ hd];push_cast;exact Ó (.e .ka (.A (.S .c .b) (.G (.S .c .a)))) [] rfl
theorem ZD{A B C m:Int}{P:Int->Prop}(h:m=A\/m=B\/m=C) (hA:P A) (hB:P B) (hC:P C):P m:=by rcases h with e|e|e<;>refine O e ?_<;>assumption
def ρ :Prop:=∀(hS:Sc S) (hr:Gr S r A) (hg:Gr S g B) (hb:Gr S b C) (hA:0<=A/\A<=2^50) (hB:0<=B/\B<=2^50) (hC:0<=C/\C<=2^50) (hd:aL A B C<aE A B C),Ç (sM r g b (Þ r g b) (ae (Þ r g b) (ò r g b)))/\
  lU A B C-5/2^52<=R (sM r g b (Þ r g b) (ae (Þ r g b) (ò r g b)))/\R (sM r g b (Þ r g b) (ae (Þ r g b) (ò r g b)))<=lU A B C+5/2^52/\-1<=lU A B C/\lU A B C<=5
def dM:=gZ (a9 (bA (bA @ρ)))
theorem aBM:@ρ dM.1.1.1.1.1.1 dM.1.1.1.1.1.2 dM.1.1.1.1.2 dM.1.1.1.2 dM.1.1.2 dM.1.2 dM.2:= by
 intro hS hr hg hb hA hB hC hd;have gM:=x9 hS hr hg hb;have gN:=yA hS hr hg hb;refine bS (bE dM.1.1.2 dM.1.2 dM.2) λm1 m2 m3 m4=>?_;refine bS (dA dM.1.1.2 dM.1.2 dM.2) λn1 n2 n3 n4=>?_
 delta sM lU
 refine O (jQ hS hr gM) (O (jQ hS hg gM) ?_);generalize Þ dM.1.1.1.1.1.2 dM.1.1.1.1.2 dM.1.1.1.2=X at*;generalize ò dM.1.1.1.1.1.2 dM.1.1.1.1.2 dM.1.1.1.2=Y at*;generalize aE dM.1.1.2 dM.1.2 dM.2=M at*;generalize aL dM.1.1.2 dM.1.2 dM.2=N at*;have hM:0<=M/\M<=2^50:=ZD (P:=λm=>0<=m/\m<=2^50) m4 hA hB hC;have hN:0<=N/\N<=2^50:=ZD (P:=λm=>0<=m/\m<=2^50) n4 hA hB hC;refine nV (vN hS gM gN hr n1 m1 hA hM hN hd) λr1 r2 r3 ru rv=>?_;refine nV (vN hS gM gN hg n2 m2 hB hM hN hd) λg1 g2 g3 gu gv=>?_;refine nV (vN hS gM gN hb n3 m3 hC hM hN hd) λb1 b2 b3 bu bv=>?_;have e1:=QP (X:=dM.1.2) (Y:=dM.2) (M:=M) (lf hd);have e2:=QP (X:=dM.2) (Y:=dM.1.1.2) (M:=M) (lf hd);have e3:=QP (X:=dM.1.1.2) (Y:=dM.1.2) (M:=M) (lf hd);refine O e1 (O e2 (O e3 ?_));generalize ((M-dM.1.1.2:Int):Rat)/((M-N:Int):Rat)=qa at*;generalize ((M-dM.1.2:Int):Rat)/((M-N:Int):Rat)=qb at*;generalize ((M-dM.2:Int):Rat)/((M-N:Int):Rat)=qc at*;generalize div (ae X dM.1.1.1.1.1.2) (ae X Y)=xa at*;generalize div (ae X dM.1.1.1.1.2) (ae X Y)=xb at*;generalize div (ae X dM.1.1.1.2) (ae X Y)=xc at*;clear e1 e2 e3 gM gN m1 m2 m3 m4 n1 n2 n3 n4 hA hB hC hM hN hd hr hg hb;simp only[decide_eq_true_eq];split
 ·refine bS (iW b1 g1 (M:=2) ⟨1,by decide,rfl⟩ (by push_cast;exact á (.l (.G .n2) .ka) [.l .c .n1,.l .n0 .d,.l .b (.A .c .kg),.l (.S .d .kg) .a] rfl gv bu g3 b2) (by push_cast;exact á (.l .ka .n2) [.l .n0 .c,.l .d .n1,.l (.S .c .kg) .b,.l .a (.A .d .kg)] rfl gu bv g2 b3)) λa1 a2 a3 bc=>?_;clear bc;push_cast at a2 a3;exact(nW a1 (ð (.l (.S .ka .kA) .c) [.l .d (.A .b .kg),.l (.S .a .kg) .e,.l (.S (.S .e .d) (.E 2)) .c] rfl g3 b2 a2) (ð (.l .a (.A .kq .kA)) [.l (.S .c .kg) .d,.l .e (.A .b .kg),.l .a (.A (.S .e .d) (.E 2))] rfl g2 b3 a3) (Ï (.l .kt .ka) [.l .b .n1,.l .n0 .a] rfl gv bu) (Ï (.l .ka .n5) [.l .n0 .b,.l .a .n1] rfl gu bv))
 ·split
  ·obtain⟨t1,t2⟩:=l2;obtain⟨a1,a2,a3,-⟩:=j5 t1 r1 (M:=4) ⟨2,by decide,rfl⟩ (by push_cast;exact Ó (.l (.G .n4) .kb) [.l .n0 .c,.l (.S .c .kg) .b,.e .n2 .a] rfl ru r2 t2.symm) (by push_cast;exact Ó (.l .kb .n4) [.l .c .n1,.l .b (.A .c .kg),.e .a .n2] rfl rv r3 t2);push_cast at a2 a3;obtain⟨c1,c2,c3,-⟩:=iW a1 b1 (M:=4) ⟨2,by decide,rfl⟩ (by push_cast;exact Ŋ (.l (.G .n4) .ka) [.l .n0 .c,.l .d .n1,.l (.S .c .kg) .e,.l .b (.A .d .kg),.e .n2 .f,.l (.S (.A .f .e) .ky) .a] rfl ru bv r2 b3 t2.symm a2) (by push_cast;exact Ŋ (.l .ka .n4) [.l .c .n1,.l .n0 .d,.l .e (.A .c .kg),.l (.S .d .kg) .b,.e .f .n2,.l .a (.A (.A .f .e) .ky)] rfl rv bu r3 b2 t2 a3);push_cast at c2 c3;exact(nW c1 (Đ [_,_,_,_,_,_,_] (.l (.S (.A .n2 .ka) .kA) .c) [.l (.S .a .kg) .d,.l .e (.A .b .kg),.e .n2 .f,.l (.S (.A .f .d) .ky) .g,.l (.S (.S .g .e) .ky) .c] rfl r2 b3 t2.symm a2 c2) (Đ [_,_,_,_,_,_,_] (.l .a (.A (.A .n2 .kq) .kA)) [.l .d (.A .b .kg),.l (.S .c .kg) .e,.e .f .n2,.l .g (.A (.A .f .d) .ky),.l .a (.A (.S .g .e) .ky)] rfl r3 b2 t2 a3 c3) (Ï (.l .kt (.A .n2 .ka)) [.l .n0 .a,.l .b .n1] rfl ru bv) (Ï (.l (.A .n2 .ka) .n5) [.l .a .n1,.l .n0 .b] rfl rv bu))
  ·obtain⟨t1,t2⟩:=l4;obtain⟨a1,a2,a3,-⟩:=j5 t1 g1 (M:=8) ⟨3,by decide,rfl⟩ (by push_cast;exact Ó (.l (.G .n8) .kb) [.l .n0 .c,.l (.S .c .kg) .b,.e .n4 .a] rfl gu g2 t2.symm) (by push_cast;exact Ó (.l .kb .n8) [.l .c .n1,.l .b (.A .c .kg),.e .a .n4] rfl gv g3 t2);push_cast at a2 a3;obtain⟨c1,c2,c3,-⟩:=iW a1 r1 (M:=8) ⟨3,by decide,rfl⟩ (by push_cast;exact Ŋ (.l (.G .n8) .ka) [.l .c .n1,.l .n0 .d,.l .b (.A .c .kg),.l (.S .d .kg) .e,.e .n4 .f,.l (.S (.A .f .e) (.E 8)) .a] rfl rv gu r3 g2 t2.symm a2) (by push_cast;exact Ŋ (.l .ka .n8) [.l .n0 .c,.l .d .n1,.l (.S .c .kg) .b,.l .e (.A .d .kg),.e .f .n4,.l .a (.A (.A .f .e) (.E 8))] rfl ru gv r2 g3 t2 a3);push_cast at c2 c3;exact(nW c1 (Đ [_,_,_,_,_,_,_] (.l (.S (.A .n4 .ka) .kA) .c) [.l .d (.A .b .kg),.l (.S .a .kg) .e,.e .n4 .f,.l (.S (.A .f .e) (.E 8)) .g,.l (.S (.S .g .d) (.E 8)) .c] rfl r3 g2 t2.symm a2 c2) (Đ [_,_,_,_,_,_,_] (.l .a (.A (.A .n4 .kq) .kA)) [.l (.S .c .kg) .d,.l .e (.A .b .kg),.e .f .n4,.l .g (.A (.A .f .e) (.E 8)),.l .a (.A (.S .g .d) (.E 8))] rfl r2 g3 t2 a3 c3) (Ï (.l .kt (.A .n4 .ka)) [.l .b .n1,.l .n0 .a] rfl rv gu) (Ï (.l (.A .n4 .ka) .n5) [.l .n0 .b,.l .a .n1] rfl ru gv))
theorem aED:@ρ S r g b A B C:=iY (a9 (bA (bA @ρ))) ((((((S,r),g),b),A),B),C) aBM
def pN (r g b:UInt64):UInt64:=(cw (div (sM r g b (Þ r g b) (ae (Þ r g b) (ò r g b))) 0x4018000000000000) one).2
def pO :Prop:=∀(hS:Sc S) (hr:Gr S r A) (hg:Gr S g B) (hb:Gr S b C) (hA:0<=A/\A<=2^50) (hB:0<=B/\B<=2^50) (hC:0<=C/\C<=2^50) (hd:aL A B C<aE A B C),Ç (pN r g b)/\0<=R (pN r g b)/\R (pN r g b)<=1+1/2^52/\∃n:Int,lU A B C-6*n-1/2^49<=6*R (pN r g b)/\6*R (pN r g b)<=lU A B C-6*n+1/2^49
def bL:=gZ (a9 (bA (bA @pO)))
theorem WO:@pO bL.1.1.1.1.1.1 bL.1.1.1.1.1.2 bL.1.1.1.1.2 bL.1.1.1.2 bL.1.1.2 bL.1.2 bL.2:= by
 intro hS hr hg hb hA hB hC hd;refine nV (aED hS hr hg hb hA hB hC hd) λh1 h2 h3 h4 h5=>?_
 delta pN
 generalize sM bL.1.1.1.1.1.2 bL.1.1.1.1.2 bL.1.1.1.2 (Þ bL.1.1.1.1.1.2 bL.1.1.1.1.2 bL.1.1.1.2) (ae (Þ bL.1.1.1.1.1.2 bL.1.1.1.1.2 bL.1.1.1.2) (ò bL.1.1.1.1.1.2 bL.1.1.1.1.2 bL.1.1.1.2))=H at*;refine xa l6 λs1 s2=>?_;refine bS (CF h1 s1 (by exact O s2 (æ (.t .n0 .n6) [] rfl)) (M:=1) ⟨0,by decide,rfl⟩ (by refine O s2 ?_;push_cast;exact Ï (.l (.G (.M .n1 .n6)) .a) [.l .kt .b,.l (.S .b .kA) .a] rfl h4 h2) (by refine O s2 ?_;push_cast;exact Ï (.l .a (.M .n1 .n6)) [.l .b .n5,.l .a (.A .b .kA)] rfl h5 h3)) λa1 a2 a3 bc=>?_;clear bc;rw[s2] at a2 a3;push_cast at a2 a3;refine oZ (pK a1) λm1 m2 n m3 m4 m5 m6 bc=>?_;exact(fH m1 m2 (Ó (.l .a .kd) [.l .a (.A .kq .kg),.t .kq .n1] rfl m4 m6) (Ö n (ð (.l (.S (.S .a (.M .n6 .b)) (.D .n1 (.P .n2 49))) (.M .n6 .c)) [.l (.S .a .kA) .d,.L 6 (.S (.D .d .n6) .kg) .e,.L 6 (.S (.S .e .b) .kg) .c] rfl h2 a2 m3) (ð (.l .kj (.A (.S .b (.M .n6 .c)) (.D .n1 (.P .n2 49)))) [.l .d (.A .b .kA),.L 6 .e (.A (.D .d .n6) .kg),.L 6 .a (.A (.S .e .c) .kg)] rfl h3 a3 m4)))
theorem E2:@pO S r g b A B C:=iY (a9 (bA (bA @pO))) ((((((S,r),g),b),A),B),C) WO
end
noncomputable def iQ (x:Rat):Rat:=if x<0 then 0 else if 1<x then 1 else x
noncomputable def oP (x:Rat):Rat:=if x<0 then -x else x
def dQ (u:Rat):Rat:=iQ (oP (u-3)-1)
def b6 (u:Rat):Rat:=iQ (2-oP (u-2))
def f6 (u:Rat):Rat:=iQ (2-oP (u-4))
theorem pP (h:x<=0):iQ x=0:=by delta iQ;grind
theorem nL (h:1<=x):iQ x=1:=by delta iQ;grind
theorem nM (h0:0<=x) (h1:x<=1):iQ x=x:=by delta iQ;grind
theorem nA (h:0<=x):oP x=x:=by delta oP;grind
theorem nB (h:x<=0):oP x=-x:=by delta oP;grind
theorem vO (h:y<=t) (h0:0<=t):iQ y<=t:= by
 by_cases k:y<=0
 ·exact O (pP k) h0
 ·by_cases k1:y<=1
  ·exact O (nM (ay (jc.mp k)) k1) h
  ·exact O (nL (ay (jc.mp k1))) (Ï (.l .n1 .a) [.l .b .a,.t .n1 .b] rfl h (jc.mp k1))
theorem J7 (y:Rat):iQ y<=1:= by
 by_cases k1:y<=1
 ·exact vO k1 (æ (.l .n0 .n1) [] rfl)
 ·exact O (nL (ay (jc.mp k1))) fj
theorem CG (e0:0<=e) (h:y<=x+e):iQ y<=iQ x+e:= by
 by_cases k:x<=0
 ·exact O (pP k) (vO (Ó (.l .a (.A .n0 .b)) [.l .a (.A .c .b),.l .c .n0] rfl h k) (Æ (.l .n0 (.A .n0 .a)) [.l .n0 .a] rfl e0))
 ·by_cases k1:x<=1
  ·exact O (nM (ay (jc.mp k)) k1) (vO h (Ï (.l .n0 .kb) [.l .n0 .b,.t .n0 .a] rfl e0 (jc.mp k)))
  ·have:=J7 y;exact O (nL (x:=x) (ay (jc.mp k1))) (Ï (.l .a (.A .n1 .b)) [.l .n0 .b,.l .a .n1] rfl e0 this)
theorem aEE{x y e:Rat}(h0:x-e<=y) (h1:y<=x+e):0<=e/\x<=y+e:=⟨by exact Ó (.L 2 .n0 .a) [.l (.S .b .a) .c,.l .c (.A .b .a)] rfl h0 h1,by exact Ó (.l .a .kw) [.l (.S .a .c) .b] rfl h0⟩
theorem rF{x y e:Rat}(h0:x-e<=y) (h1:y<=x+e):iQ x-e<=iQ y/\iQ y<=iQ x+e:= by
 have h:=aEE h0 h1;have k:=CG h.1 h.2;exact⟨by exact Ó (.l .ka .c) [.l .a (.A .c .b)] rfl k,CG h.1 h1⟩
theorem HI (x:Rat):x<=oP x/\-x<=oP x:= by
 by_cases k:0<=x
 ·exact O (nA k) ⟨by exact fj,by exact Æ (.l (.G .a) .a) [.L 2 .n0 .a] rfl k⟩
 ·exact O (nB (ay (jc.mp k))) ⟨by exact Æ (.l .a (.G .a)) [.T 2 .a .n0] rfl (jc.mp k),by exact fj⟩
theorem HJ (h:y<=t) (h':-y<=t):oP y<=t:= by
 by_cases k:0<=y
 ·exact O (nA k) h
 ·exact O (nB (ay (jc.mp k))) h'
theorem vP (h0:x-e<=y) (h1:y<=x+e):oP x-e<=oP y/\oP y<=oP x+e:= by
 have hx:=HI x;have hy:=HI y;have k:=HJ (y:=x) (t:=oP y+e) (á (.l .a .kw) [.l (.S .a .c) .d,.l .d .b] rfl h0 hy.1) (á (.l (.G .a) .kw) [.l .d (.A .a .c),.l (.G .d) .b] rfl h1 hy.2);exact⟨by exact Ó (.l .ka .c) [.l .a (.A .c .b)] rfl k,HJ (á (.l .a .kw) [.l .a (.A .d .c),.l .d .b] rfl h1 hx.1) (á (.l (.G .a) .kw) [.l (.S .d .c) .a,.l (.G .d) .b] rfl h0 hx.2)⟩
theorem HK (a:Rat) (h0:x-e<=y) (h1:y<=x+e):(x-a)-e<=y-a/\y-a<=(x-a)+e:=by exact⟨á (.l (.S .ka .c) (.S .d .b)) [.l (.S .a .c) .d] rfl h0,á (.l .ka (.A (.S .c .b) .d)) [.l .a (.A .c .d)] rfl h1⟩
theorem QQ (a:Rat) (h:x-e<=y/\y<=x+e):(a-x)-e<=a-y/\a-y<=(a-x)+e:=by exact⟨á (.l (.S .ka .c) (.S .a .d)) [.l .d .kw] rfl h.2,á (.l .ka (.A (.S .a .c) .d)) [.l (.S .c .d) .b] rfl h.1⟩
theorem kX (h0:u-e<=w) (h1:w<=u+e):b6 u-e<=b6 w/\b6 w<=b6 u+e:= by
 have a:=HK 2 h0 h1;have b:=QQ 2 (vP a.1 a.2);exact rF b.1 b.2
theorem QR (h0:u-e<=w) (h1:w<=u+e):f6 u-e<=f6 w/\f6 w<=f6 u+e:= by
 have a:=HK 4 h0 h1;have b:=QQ 2 (vP a.1 a.2);exact rF b.1 b.2
theorem QS (h0:u-e<=w) (h1:w<=u+e):dQ u-e<=dQ w/\dQ w<=dQ u+e:= by
 have a:=HK 3 h0 h1;have b:=vP a.1 a.2;have c:=HK 1 b.1 b.2;exact rF c.1 c.2
theorem Δ (h:u<=1):dQ u=1:=by delta dQ;exact O (nB (by exact Æ (.l (.S .a .n3) .n0) [.l .a .n1] rfl h)) (nL (by exact Æ (.l .n1 (.S (.G (.S .a .n3)) .n1)) [.l .a .n1] rfl h))
theorem Χ (h:1<=u) (h':u<=2):dQ u=2-u:=by delta dQ;exact O (nB (by exact Æ (.l (.S .a .n3) .n0) [.l .a .n2] rfl h')) (O (nM (by exact Æ (.l .n0 (.S (.G (.S .a .n3)) .n1)) [.l .a .n2] rfl h') (by exact Æ (.l (.S (.G (.S .a .n3)) .n1) .n1) [.l .n1 .a] rfl h)) (Æ (.e (.S (.G (.S .a .n3)) .n1) (.S .n2 .a)) [] rfl))
theorem Ş (h:2<=u) (h':u<=4):dQ u=0:= by
 delta dQ
 refine pP ?_;rcases io (a:=u) (b:=3) with q|q
 ·exact O (nB (by exact Æ (.l (.S .a .n3) .n0) [.l .a .n3] rfl q)) (Æ (.l (.S (.G (.S .a .n3)) .n1) .n0) [.l .n2 .a] rfl h)
 ·exact O (nA (by exact Æ (.l .n0 (.S .a .n3)) [.l .n3 .a] rfl q)) (Æ (.l (.S (.S .a .n3) .n1) .n0) [.l .a .n4] rfl h')
theorem Β (h:4<=u) (h':u<=5):dQ u=u-4:=by delta dQ;exact O (nA (by exact Æ (.l .n0 (.S .a .n3)) [.l .n4 .a] rfl h)) (O (nM (by exact Æ (.l .n0 (.S (.S .a .n3) .n1)) [.l .n4 .a] rfl h) (by exact Æ (.l (.S (.S .a .n3) .n1) .n1) [.l .a .n5] rfl h')) (Æ (.e (.S (.S .a .n3) .n1) (.S .a .n4)) [] rfl))
theorem Α (h:5<=u):dQ u=1:=by delta dQ;exact O (nA (by exact Æ (.l .n0 (.S .a .n3)) [.l .n5 .a] rfl h)) (nL (by exact Æ (.l .n1 (.S (.S .a .n3) .n1)) [.l .n5 .a] rfl h))
theorem G_0 (h:u<=0):b6 u=0:=by delta b6;exact O (nB (by exact Æ (.l .kk .n0) [.l .a .n0] rfl h)) (pP (by exact Æ (.l (.S .n2 (.G .kk)) .n0) [.l .a .n0] rfl h))
theorem ş (h:0<=u) (h':u<=1):b6 u=u:=by delta b6;exact O (nB (by exact Æ (.l .kk .n0) [.l .a .n1] rfl h')) (O (nM (by exact Æ (.l .n0 (.S .n2 (.G .kk))) [.l .n0 .a] rfl h) (by exact Æ (.l (.S .n2 (.G .kk)) .n1) [.l .a .n1] rfl h')) (Æ (.e (.S .n2 (.G .kk)) .a) [] rfl))
theorem ŋ (h:1<=u) (h':u<=3):b6 u=1:= by
 delta b6
 refine nL ?_;rcases io (a:=u) (b:=2) with q|q
 ·exact O (nB (by exact Æ (.l .kk .n0) [.l .a .n2] rfl q)) (Æ (.l .n1 (.S .n2 (.G .kk))) [.l .n1 .a] rfl h)
 ·exact O (nA (by exact Æ (.l .n0 .kk) [.l .n2 .a] rfl q)) (Æ (.l .n1 (.S .n2 .kk)) [.l .a .n3] rfl h')
theorem Ũ (h:3<=u) (h':u<=4):b6 u=4-u:=by delta b6;exact O (nA (by exact Æ (.l .n0 .kk) [.l .n3 .a] rfl h)) (O (nM (by exact Æ (.l .n0 (.S .n2 .kk)) [.l .a .n4] rfl h') (by exact Æ (.l (.S .n2 .kk) .n1) [.l .n3 .a] rfl h)) (Æ (.e (.S .n2 .kk) (.S .n4 .a)) [] rfl))
theorem ň (h:4<=u):b6 u=0:=by delta b6;exact O (nA (by exact Æ (.l .n0 .kk) [.l .n4 .a] rfl h)) (pP (by exact Æ (.l (.S .n2 .kk) .n0) [.l .n4 .a] rfl h))
theorem Ω (u:Rat):f6 u=b6 (u-2):= by
 delta f6 b6
 exact O (show u-2-2=u-4 by exact Æ (.e (.S .kk .n2) (.S .a .n4)) [] rfl) rfl
theorem ū (h:u<=2):f6 u=0:=by exact O (Ω ..) (G_0 (Æ (.l .kk .n0) [.l .a .n2] rfl h))
theorem ω (h:2<=u) (h':u<=3):f6 u=u-2:=by exact O (Ω ..) (ş (Æ (.l .n0 .kk) [.l .n2 .a] rfl h) (Æ (.l .kk .n1) [.l .a .n3] rfl h'))
theorem Ű (h:3<=u) (h':u<=5):f6 u=1:=by exact O (Ω ..) (ŋ (Æ (.l .n1 .kk) [.l .n3 .a] rfl h) (Æ (.l .kk .n3) [.l .a .n5] rfl h'))
theorem θ (h:5<=u) (h':u<=6):f6 u=6-u:=by exact O (Ω ..) (O (Ũ (by exact Æ (.l .n3 .kk) [.l .n5 .a] rfl h) (by exact Æ (.l .kk .n4) [.l .a .n6] rfl h')) (Æ (.e (.S .n4 .kk) (.S .n6 .a)) [] rfl))
theorem R_G (h:u<=4) (h':0<=u):dQ u=b6 (u+2):= by
 rcases io (a:=u) (b:=1) with q|q
 ·exact O (Δ q) (O (ŋ (by exact Æ (.l .n1 (.A .a .n2)) [.l .n0 .a] rfl h') (by exact Æ (.l (.A .a .n2) .n3) [.l .a .n1] rfl q)) rfl)
 ·rcases io (a:=u) (b:=2) with r|r
  ·exact O (Χ q r) (O (Ũ (by exact Æ (.l .n3 (.A .a .n2)) [.l .n1 .a] rfl q) (by exact Æ (.l (.A .a .n2) .n4) [.l .a .n2] rfl r)) (Æ (.e (.S .n2 .a) (.S .n4 (.A .a .n2))) [] rfl))
  ·exact O (Ş r h) (O (ň (by exact Æ (.l .n4 (.A .a .n2)) [.l .n2 .a] rfl r)) rfl)
theorem R_G' (h:4<=u) (h':u<=6):dQ u=b6 (u-4):= by
 rcases io (a:=u) (b:=5) with q|q
 ·exact O (Β h q) (O (ş (by exact Æ (.l .n0 (.S .a .n4)) [.l .n4 .a] rfl h) (by exact Æ (.l (.S .a .n4) .n1) [.l .a .n5] rfl q)) rfl)
 ·exact O (Α q) (O (ŋ (by exact Æ (.l .n1 (.S .a .n4)) [.l .n5 .a] rfl q) (by exact Æ (.l (.S .a .n4) .n3) [.l .a .n6] rfl h')) rfl)
theorem QT (h0:0<=w) (h1:w<6) (h:w'=(if w<5 then w+1 else w-5)):dQ w'=1-b6 w/\b6 w'=1-f6 w/\f6 w'=1-dQ w:= by
 by_cases c:w<5
 ·rw[if_pos c] at h;subst h;rcases io (a:=w) (b:=1) with q|q
  ·exact O (Χ (by exact Æ (.l .n1 .kf) [.l .n0 .a] rfl h0) (by exact Æ (.l .kf .n2) [.l .a .n1] rfl q)) (O (ş h0 q) (O (ŋ (by exact Æ (.l .n1 .kf) [.l .n0 .a] rfl h0) (by exact Æ (.l .kf .n3) [.l .a .n1] rfl q)) (O (ū (by exact Æ (.l .a .n2) [.l .a .n1] rfl q)) (O (ū (by exact Æ (.l .kf .n2) [.l .a .n1] rfl q)) (O (Δ q) ⟨Æ (.e (.S .n2 .kf) (.S .n1 .a)) [] rfl,⟨æ (.e .n1 (.S .n1 .n0)) [] rfl,æ (.e .n0 (.S .n1 .n1)) [] rfl⟩⟩)))))
  ·rcases io (a:=w) (b:=2) with r|r
   ·exact O (Ş (by exact Æ (.l .n2 .kf) [.l .n1 .a] rfl q) (by exact Æ (.l .kf .n4) [.l .a .n2] rfl r)) (O (ŋ q (by exact Æ (.l .a .n3) [.l .a .n2] rfl r)) (O (ŋ (by exact Æ (.l .n1 .kf) [.l .n0 .a] rfl h0) (by exact Æ (.l .kf .n3) [.l .a .n2] rfl r)) (O (ū r) (O (ω (by exact Æ (.l .n2 .kf) [.l .n1 .a] rfl q) (by exact Æ (.l .kf .n3) [.l .a .n2] rfl r)) (O (Χ q r) ⟨æ (.e .n0 (.S .n1 .n1)) [] rfl,⟨æ (.e .n1 (.S .n1 .n0)) [] rfl,Æ (.e (.S .kf .n2) (.S .n1 (.S .n2 .a))) [] rfl⟩⟩)))))
   ·rcases io (a:=w) (b:=3) with t|t
    ·exact O (Ş (by exact Æ (.l .n2 .kf) [.l .n1 .a] rfl q) (by exact Æ (.l .kf .n4) [.l .a .n3] rfl t)) (O (ŋ q t) (O (Ũ (by exact Æ (.l .n3 .kf) [.l .n2 .a] rfl r) (by exact Æ (.l .kf .n4) [.l .a .n3] rfl t)) (O (ω r t) (O (Ű (by exact Æ (.l .n3 .kf) [.l .n2 .a] rfl r) (by exact Æ (.l .kf .n5) [.l .a .n3] rfl t)) (O (Ş r (by exact Æ (.l .a .n4) [.l .a .n3] rfl t)) ⟨æ (.e .n0 (.S .n1 .n1)) [] rfl,⟨Æ (.e (.S .n4 .kf) (.S .n1 .kk)) [] rfl,æ (.e .n1 (.S .n1 .n0)) [] rfl⟩⟩)))))
    ·rcases io (a:=w) (b:=4) with v|v
     ·exact O (Β (by exact Æ (.l .n4 .kf) [.l .n3 .a] rfl t) (by exact Æ (.l .kf .n5) [.l .a .n4] rfl v)) (O (Ũ t v) (O (ň (by exact Æ (.l .n4 .kf) [.l .n3 .a] rfl t)) (O (Ű t (by exact ay c)) (O (Ű (by exact Æ (.l .n3 .kf) [.l .n2 .a] rfl r) (by exact Æ (.l .kf .n5) [.l .a .n4] rfl v)) (O (Ş r v) ⟨Æ (.e (.S .kf .n4) (.S .n1 (.S .n4 .a))) [] rfl,⟨æ (.e .n0 (.S .n1 .n1)) [] rfl,æ (.e .n1 (.S .n1 .n0)) [] rfl⟩⟩)))))
     ·exact O (Α (by exact Æ (.l .n5 .kf) [.l .n4 .a] rfl v)) (O (ň v) (O (ň (by exact Æ (.l .n4 .kf) [.l .n3 .a] rfl t)) (O (Ű t (by exact ay c)) (O (θ (by exact Æ (.l .n5 .kf) [.l .n4 .a] rfl v) (by exact Æ (.l .kf .n6) [.t .a .n5] rfl c)) (O (Β v (by exact ay c)) ⟨æ (.e .n1 (.S .n1 .n0)) [] rfl,⟨æ (.e .n0 (.S .n1 .n1)) [] rfl,Æ (.e (.S .n6 .kf) (.S .n1 (.S .a .n4))) [] rfl⟩⟩)))))
 ·rw[if_neg c] at h;subst h;exact O (Δ (by exact Æ (.l (.S .a .n5) .n1) [.t .a .n6] rfl h1)) (O (ň (by exact Æ (.l .n4 .a) [.l .n5 .a] rfl (mf.mp c))) (O (ş (by exact Æ (.l .n0 (.S .a .n5)) [.l .n5 .a] rfl (mf.mp c)) (by exact Æ (.l (.S .a .n5) .n1) [.t .a .n6] rfl h1)) (O (θ (by exact(mf.mp c)) (by exact ay h1)) (O (ū (by exact Æ (.l (.S .a .n5) .n2) [.t .a .n6] rfl h1)) (O (Α (by exact(mf.mp c))) ⟨æ (.e .n1 (.S .n1 .n0)) [] rfl,⟨Æ (.e (.S .a .n5) (.S .n1 (.S .n6 .a))) [] rfl,æ (.e .n0 (.S .n1 .n1)) [] rfl⟩⟩)))))
theorem gH{a b:Int}(h:(a:Rat)<(b:Rat)):a<b:=bn.mp h
theorem Ř{a b e:Rat}(h0:0<=a) (h1:a<=e) (h2:0<=b) (h3:b<=e):a-e<=b/\b<=a+e:=by exact⟨Ó (.l .ka .c) [.l .a .b,.l .n0 .c] rfl h1 h2,Ó (.l .a .kw) [.l .n0 .b,.l .a .c] rfl h0 h3⟩
theorem HL{a b e:Rat}(h:a=b) (e0:0<=e):a-e<=b/\b<=a+e:=by exact⟨Ó (.l .ka .c) [.e .a .c,.l .n0 .b] rfl h e0,Ó (.l .a .kw) [.e .a .b,.l .n0 .c] rfl h.symm e0⟩
theorem CH (u0:0<=u) (u1:u<=e) (w0:6-e<=w) (w1:w<=6) (e0:0<=e) (e1:e<=1/8):dQ u=dQ w/\(b6 u=u/\b6 w=0)/\(f6 u=0/\f6 w=6-w):=
 (fH ((Δ (Ï (.l .a .n1) [.l .a .b,.l .b .kr] rfl u1 e1)).trans (Α (Ï (.l .n5 .a) [.l (.S .n6 .b) .a,.l .b .kr] rfl w0 e1)).symm) ⟨ş u0 (Ï (.l .a .n1) [.l .a .b,.l .b .kr] rfl u1 e1),ň (Ï (.l .n4 .a) [.l (.S .n6 .b) .a,.l .b .kr] rfl w0 e1)⟩ (ū (Ï (.l .a .n2) [.l .a .b,.l .b .kr] rfl u1 e1)) (θ (Ï (.l .n5 .a) [.l (.S .n6 .b) .a,.l .b .kr] rfl w0 e1) w1))
def j9{u w e:Rat}:Prop:=∀{j:Int}(u0:0<=u) (u1:u<6) (w0:0<=w) (w1:w<6) (e0:0<=e) (e1:e<=1/8) (h0:w-6*(j:Rat)-e<=u) (h1:u<=w-6*(j:Rat)+e),(dQ w-e<=dQ u/\dQ u<=dQ w+e)/\(b6 w-e<=b6 u/\b6 u<=b6 w+e)/\(f6 w-e<=f6 u/\f6 u<=f6 w+e)
def bX:=gZ (bA (bA @j9))
theorem E4:@j9 bX.1.1 bX.1.2 bX.2:= by
 intro j u0 u1 w0 w1 e0 e1 h0 h1;have j0:-2<j:=gH (by push_cast;exact á (.T 6 (.G .n2) .a) [.t .b .n6,.l .n0 .c,.l .d .kr,.l (.S (.S .c .kj) .d) .b] rfl u1 w0 e1 h0);have j1:j<2:=gH (by push_cast;exact á (.T 6 .a .n2) [.l .n0 .b,.t .c .n6,.l .d .kr,.l .b (.A (.S .c .kj) .d)] rfl u0 w1 e1 h1);have:j=-1\/j=0\/j=1:=by grind
 rcases this with rfl|rfl|rfl
 ·push_cast at h0 h1;obtain⟨a,⟨b1,b2⟩,c1,c2⟩:=CH w0 (show bX.1.2<=bX.2 by exact Ó (.l .a .b) [.t .c .n6,.l (.S (.S .a (.M .n6 .kt)) .b) .c] rfl u1 h0) (show 6-bX.2<=bX.1.1 by exact Ó (.l (.S .n6 .a) .b) [.l .n0 .c,.l (.S (.S .c (.M .n6 .kt)) .a) .b] rfl w0 h0) (ay u1) e0 e1;exact O a (O b1 (O b2 (O c1 (O c2 (ß (HL rfl e0) (Ř w0 (Ó (.l .a .b) [.t .c .n6,.l (.S (.S .a (.M .n6 .kt)) .b) .c] rfl u1 h0) (fj) e0) (Ř (fj) e0 (Æ (.l .n0 (.S .n6 .a)) [.t .a .n6] rfl u1) (Ó (.l (.S .n6 .a) .b) [.l .n0 .c,.l (.S (.S .c (.M .n6 .kt)) .b) .a] rfl w0 h0)))))))
 ·push_cast at h0 h1;exact(ß (QS (Ó (.l .ka .c) [.l (.S (.S .a (.M .n6 .n0)) .b) .c] rfl h0) (Ó (.l .a .kw) [.l .a (.A (.S .b (.M .n6 .n0)) .c)] rfl h1)) (kX (Ó (.l .ka .c) [.l (.S (.S .a (.M .n6 .n0)) .b) .c] rfl h0) (Ó (.l .a .kw) [.l .a (.A (.S .b (.M .n6 .n0)) .c)] rfl h1)) (QR (by grind) (by grind)))
 ·push_cast at h0 h1;obtain⟨a,⟨b1,b2⟩,c1,c2⟩:=CH u0 (show bX.1.1<=bX.2 by exact Ó (.l .a .b) [.t .c .n6,.l .a (.A (.S .c (.M .n6 .n1)) .b)] rfl w1 h1) (show 6-bX.2<=bX.1.2 by exact Ó (.l (.S .n6 .a) .b) [.l .n0 .c,.l .c (.A (.S .b (.M .n6 .n1)) .a)] rfl u0 h1) (ay w1) e0 e1;exact O a (O b1 (O b2 (O c1 (O c2 (ß (HL rfl e0) (Ř (by grind) e0 u0 (Ó (.l .a .b) [.t .c .n6,.l .a (.A (.S .c (.M .n6 .n1)) .b)] rfl w1 h1)) (Ř (Æ (.l .n0 (.S .n6 .a)) [.t .a .n6] rfl w1) (Ó (.l (.S .n6 .a) .b) [.l .n0 .c,.l .c (.A (.S .a (.M .n6 .n1)) .b)] rfl u0 h1) (by grind) e0))))))
theorem J8:@j9 u w e:=iY (bA (bA @j9)) ((u,w),e) E4
theorem wid{a b e:Rat}(e0:0<=e) (h:a-e<=b/\b<=a+e):a-2*e<=b/\b<=a+2*e:=by exact⟨Ó (.l (.S .a (.M .n2 .b)) .c) [.l .n0 .b,.l .ka .c] rfl e0 h.1,Ó (.l .a (.A .b (.M .n2 .c))) [.l .n0 .c,.l .a .kw] rfl e0 h.2⟩
theorem WP{u w:Rat}{j:Int}{e:Rat}(u0:0<=u) (u1:u<6) (w0:-e<=w) (w1:w<=6+e) (e0:0<=e) (e1:e<=1/8) (h0:u+2-6*(j:Rat)-e<=w) (h1:w<=u+2-6*(j:Rat)+e):dQ u-2*e<=b6 w/\b6 w<=dQ u+2*e:= by
 have j0:-1<j:=gH (by push_cast;exact á (.T 6 .kt .a) [.l .n0 .b,.l .c (.A .n6 .d),.L 2 .d .kr,.l (.S (.S (.A .b .n2) .kj) .d) .c] rfl u0 w1 e1 h0);have j1:j<2:=gH (by push_cast;exact á (.T 6 .a .n2) [.t .b .n6,.l (.G .c) .d,.L 2 .c .kr,.l .d (.A (.S (.A .b .n2) .kj) .c)] rfl u1 w0 e1 h1);have:j=0\/j=1:=by grind
 rcases this with rfl|rfl
 ·push_cast at h0 h1;rcases io (a:=u) (b:=4) with q|q
  ·exact O (R_G q u0) (wid e0 (kX (Ó (.l (.S (.A .a .n2) .b) .c) [.l (.S (.S (.A .a .n2) (.M .n6 .n0)) .b) .c] rfl h0) (Ó (.l .a (.A (.A .b .n2) .c)) [.l .a (.A (.S (.A .b .n2) (.M .n6 .n0)) .c)] rfl h1)))
  ·exact O (Β q (by exact Ó (.l .a .n5) [.l .b (.A .n6 .c),.L 2 .c .kr,.l (.S (.S (.A .a .n2) (.M .n6 .n0)) .c) .b] rfl w1 e1 h0)) (O (ň (by exact Ó (.l .n4 .a) [.l .b .kr,.l (.S (.S (.A .c .n2) (.M .n6 .n0)) .b) .a,.l .n4 .c] rfl e1 h0 q)) ⟨Ó (.l (.S (.S .a .n4) (.M .n2 .b)) .n0) [.l .c (.A .n6 .b),.l (.S (.S (.A .a .n2) (.M .n6 .n0)) .b) .c] rfl w1 h0,Ï (.l .n0 (.A (.S .a .n4) (.M .n2 .b))) [.L 2 .n0 .b,.l .n4 .a] rfl e0 q⟩)
 ·push_cast at h0 h1;rcases io (a:=u) (b:=4) with q|q
  ·refine O (Ş (by exact Ó (.l .n2 .a) [.l (.G .b) .c,.L 2 .b .kr,.l .c (.A (.S (.A .a .n2) (.M .n6 .n1)) .b)] rfl w0 e1 h1) q) ?_;have:=kX (u:=0) (w:=w) (e:=e) (Ï (.l (.S .n0 .a) .b) [.l (.G .a) .b] rfl w0) (Ó (.l .a (.A .n0 .b)) [.l .a (.A (.S (.A .c .n2) (.M .n6 .n1)) .b),.l .c .n4] rfl h1 q);rw[G_0 (fj)] at this;exact⟨Ï (.l (.S .n0 (.M .n2 .a)) .b) [.l .n0 .a,.l (.S .n0 .a) .b] rfl e0 this.1,Ï (.l .a (.A .n0 (.M .n2 .b))) [.l .n0 .b,.l .a (.A .n0 .b)] rfl e0 this.2⟩
  ·exact O (R_G' q (ay u1)) (wid e0 (kX (Ó (.l (.S (.S .a .n4) .b) .c) [.l (.S (.S (.A .a .n2) (.M .n6 .n1)) .b) .c] rfl h0) (Ó (.l .a (.A (.S .b .n4) .c)) [.l .a (.A (.S (.A .b .n2) (.M .n6 .n1)) .c)] rfl h1)))
theorem QU{u w:Rat}{j:Int}{e:Rat}(u0:0<=u) (u1:u<6) (w0:-e<=w) (w1:w<=6+e) (e0:0<=e) (e1:e<=1/8) (h0:u-2-6*(j:Rat)-e<=w) (h1:w<=u-2-6*(j:Rat)+e):f6 u-2*e<=b6 w/\b6 w<=f6 u+2*e:= by
 have j0:-2<j:=gH (by push_cast;exact á (.T 6 (.G .n2) .a) [.l .n0 .b,.l .c (.A .n6 .d),.L 2 .d .kr,.l (.S (.S (.S .b .n2) .kj) .d) .c] rfl u0 w1 e1 h0);have j1:j<1:=gH (by push_cast;exact á (.T 6 .a .n1) [.t .b .n6,.l (.G .c) .d,.L 2 .c .kr,.l .d (.A (.S (.S .b .n2) .kj) .c)] rfl u1 w0 e1 h1);have:j=-1\/j=0:=by grind
 refine O (Ω ..) ?_;rcases this with rfl|rfl
 ·push_cast at h0 h1;have p:0<=b6 w/\b6 w<=2*e:= by
   rcases io (a:=w) (b:=4) with q|q
   ·exact O (Ũ (by exact Ó (.l .n3 .a) [.l .n0 .b,.l .c .kr,.l (.S (.S (.S .b .n2) (.M .n6 .kt)) .c) .a] rfl u0 e1 h0) q) ⟨Æ (.l .n0 (.S .n4 .a)) [.l .a .n4] rfl q,Ó (.l (.S .n4 .a) (.M .n2 .b)) [.l .n0 .c,.l .n0 .b,.l (.S (.S (.S .c .n2) (.M .n6 .kt)) .b) .a] rfl u0 e0 h0⟩
   ·exact O (ň q) ⟨fj,Æ (.l .n0 (.M .n2 .a)) [.L 2 .n0 .a] rfl e0⟩
  rcases io (a:=u) (b:=2) with q|q
  ·exact O (G_0 (by exact Æ (.l .kk .n0) [.l .a .n2] rfl q)) (Ř (by exact fj) (by exact Æ (.l .n0 (.M .n2 .a)) [.L 2 .n0 .a] rfl e0) p.1 p.2)
  ·exact O (ş (by exact Æ (.l .n0 .kk) [.l .n2 .a] rfl q) (by exact Ó (.l .kk .n1) [.l .b (.A .n6 .c),.L 2 .c .kr,.l (.S (.S .kk (.M .n6 .kt)) .c) .b] rfl w1 e1 h0)) (Ř (by exact Æ (.l .n0 .kk) [.l .n2 .a] rfl q) (by exact Ó (.l .kk (.M .n2 .b)) [.l .c (.A .n6 .b),.l (.S (.S .kk (.M .n6 .kt)) .b) .c] rfl w1 h0) p.1 p.2)
 ·push_cast at h0 h1;exact wid e0 (kX (Ó (.l (.S .kk .b) .c) [.l (.S (.S .kk (.M .n6 .n0)) .b) .c] rfl h0) (Ó (.l .a (.A (.S .b .n2) .c)) [.l .a (.A (.S (.S .b .n2) (.M .n6 .n0)) .c)] rfl h1))
theorem J9 (e0:0<=e) (h0:u-e<=w) (h1:w<=u+e):b6 u-e<=b6 w/\b6 w<=b6 u+e:=kX h0 h1
theorem aBN (φ:Rat) (h0:0<=φ) (h1:φ<=1):
  (dQ (φ+(0:Int))=1/\b6 (φ+(0:Int))=φ/\f6 (φ+(0:Int))=0)/\
  (dQ (φ+(1:Int))=1-φ/\b6 (φ+(1:Int))=1/\f6 (φ+(1:Int))=0)/\
  (dQ (φ+(2:Int))=0/\b6 (φ+(2:Int))=1/\f6 (φ+(2:Int))=φ)/\
  (dQ (φ+(3:Int))=0/\b6 (φ+(3:Int))=1-φ/\f6 (φ+(3:Int))=1)/\
  (dQ (φ+(4:Int))=φ/\b6 (φ+(4:Int))=0/\f6 (φ+(4:Int))=1)/\
  (dQ (φ+(5:Int))=1/\b6 (φ+(5:Int))=0/\f6 (φ+(5:Int))=1-φ):= by
 push_cast;refine(nW (ß (Δ (Æ (.l (.A .a .n0) .n1) [.l .a .n1] rfl h1)) ((ş (Æ (.l .n0 (.A .a .n0)) [.l .n0 .a] rfl h0) (Æ (.l (.A .a .n0) .n1) [.l .a .n1] rfl h1)).trans (Æ (.e (.A .a .n0) .a) [] rfl)) (ū (Æ (.l (.A .a .n0) .n2) [.l .a .n1] rfl h1))) (ß ((Χ (Æ (.l .n1 .kf) [.l .n0 .a] rfl h0) (Æ (.l .kf .n2) [.l .a .n1] rfl h1)).trans (Æ (.e (.S .n2 .kf) (.S .n1 .a)) [] rfl)) (ŋ (Æ (.l .n1 .kf) [.l .n0 .a] rfl h0) (Æ (.l .kf .n3) [.l .a .n1] rfl h1)) (ū (Æ (.l .kf .n2) [.l .a .n1] rfl h1))) (ß (Ş (Æ (.l .n2 (.A .a .n2)) [.l .n0 .a] rfl h0) (Æ (.l (.A .a .n2) .n4) [.l .a .n1] rfl h1)) (ŋ (Æ (.l .n1 (.A .a .n2)) [.l .n0 .a] rfl h0) (Æ (.l (.A .a .n2) .n3) [.l .a .n1] rfl h1)) ((ω (Æ (.l .n2 (.A .a .n2)) [.l .n0 .a] rfl h0) (Æ (.l (.A .a .n2) .n3) [.l .a .n1] rfl h1)).trans (Æ (.e (.S (.A .a .n2) .n2) .a) [] rfl))) (ß (Ş (Æ (.l .n2 (.A .a .n3)) [.l .n0 .a] rfl h0) (Æ (.l (.A .a .n3) .n4) [.l .a .n1] rfl h1)) ((Ũ (Æ (.l .n3 (.A .a .n3)) [.l .n0 .a] rfl h0) (Æ (.l (.A .a .n3) .n4) [.l .a .n1] rfl h1)).trans (Æ (.e (.S .n4 (.A .a .n3)) (.S .n1 .a)) [] rfl)) (Ű (Æ (.l .n3 (.A .a .n3)) [.l .n0 .a] rfl h0) (Æ (.l (.A .a .n3) .n5) [.l .a .n1] rfl h1))) ⟨(ß ((Β (Æ (.l .n4 (.A .a .n4)) [.l .n0 .a] rfl h0) (Æ (.l (.A .a .n4) .n5) [.l .a .n1] rfl h1)).trans (Æ (.e (.S (.A .a .n4) .n4) .a) [] rfl)) (ň (Æ (.l .n4 (.A .a .n4)) [.l .n0 .a] rfl h0)) (Ű (Æ (.l .n3 (.A .a .n4)) [.l .n0 .a] rfl h0) (Æ (.l (.A .a .n4) .n5) [.l .a .n1] rfl h1))),(ß (Α (Æ (.l .n5 (.A .a .n5)) [.l .n0 .a] rfl h0)) (ň (Æ (.l .n4 (.A .a .n5)) [.l .n0 .a] rfl h0)) ((θ (Æ (.l .n5 (.A .a .n5)) [.l .n0 .a] rfl h0) (Æ (.l (.A .a .n5) .n6) [.l .a .n1] rfl h1)).trans (Æ (.e (.S .n6 (.A .a .n5)) (.S .n1 .a)) [] rfl)))⟩)
theorem gI{v x e:Rat}(h0:0<=v) (h1:v<=1) (h2:-e<=x) (h3:x<=e):-e<=v*x/\v*x<=e:= by
 have he:0<=e:=by exact Ï (.L 2 .n0 .a) [.l (.G .a) .b,.l .b .a] rfl h2 h3
 have a:=fk h0 (show 0<=e-x by exact Ï (.l .n0 .ka) [.l .b .a] rfl h3);have b:=fk h0 (show 0<=e+x by exact Ï (.l .n0 .kb) [.l (.G .a) .b] rfl h2);have c:=fk (show 0<=1-v by exact Æ (.l .n0 (.S .n1 .a)) [.l .a .n1] rfl h1) he;constructor<;>grind
theorem oQ{v x e:Rat}(h0:-2<=v) (h1:v<=2) (h2:-e<=x) (h3:x<=e):-(2*e)<=v*x/\v*x<=2*e:= by
 have he:0<=e:=by exact Ï (.L 2 .n0 .a) [.l (.G .a) .b,.l .b .a] rfl h2 h3
 have a:=fk (show 0<=2-v by exact Æ (.l .n0 (.S .n2 .a)) [.l .a .n2] rfl h1) (show 0<=e-x by exact Ï (.l .n0 .ka) [.l .b .a] rfl h3);have b:=fk (show 0<=2-v by grind) (show 0<=e+x by exact Ï (.l .n0 .kb) [.l (.G .a) .b] rfl h2);have c:=fk (show 0<=2+v by exact Æ (.l .n0 (.A .n2 .a)) [.l (.G .n2) .a] rfl h0) (show 0<=e-x by grind);have d:=fk (show 0<=2+v by grind) (show 0<=e+x by grind);constructor<;>grind
section
variable{v s f:UInt64}{d φ:Rat}
theorem QV (fv:Ç v) (fs:Ç s) (ff:Ç f) (v0:0<=R v) (v1:R v<=1) (d0:0<=d) (d1:d<=1) (s0:0<=R s) (s1:R s<=1+1/2^54)
  (w1:d-1/2^54<=R v*R s) (w2:R v*R s<=d+1/2^54) (p0:0<=φ) (p1:φ<=1) (f1:φ-4/2^54<=R f) (f2:R f<=φ+4/2^54):
  Ç (mul v (ae 0x3ff0000000000000 (mul s f)))/\R v-d*φ-32/2^54<=R (mul v (ae 0x3ff0000000000000 (mul s f)))/\
  R (mul v (ae 0x3ff0000000000000 (mul s f)))<=R v-d*φ+32/2^54:= by
 refine xa l1 λo1 o2=>?_;have sf:=oQ (v:=R s) (x:=R f) (e:=3/2) (Æ (.l (.G .n2) .a) [.l .n0 .a] rfl s0) (Æ (.l .a .n2) [.l .a (.A .n1 .kg)] rfl s1) (Ï (.l (.G .kB) .a) [.l .n0 .b,.l (.S .b .ky) .a] rfl p0 f1) (Ï (.l .a .kB) [.l .b .n1,.l .a (.A .b .ky)] rfl p1 f2);refine bS (iM fs ff (M:=4) ⟨2,by decide,rfl⟩ (by push_cast;exact Ï (.l (.G .n4) .kc) [.l (.G (.M .n2 .kB)) .kc] rfl sf.1) (by push_cast;exact Ï (.l .kc .n4) [.l .kc (.M .n2 .kB)] rfl sf.2)) λa1 a2 a3 bc=>?_;clear bc;push_cast at a2 a3;have sf0:-(8/2^54)<=R s*R f:= by
  have:=oQ (v:=R s) (x:=R f-φ) (e:=4/2^54) (by grind) (by grind) (Ï (.l (.G .ky) .ka) [.l (.S .b .ky) .a] rfl f1) (Ï (.l .ka .ky) [.l .a (.A .b .ky)] rfl f2);have:=fk s0 p0;grind
 have sf1:R s*R f<=1+16/2^54:= by
  have:=oQ (v:=R s) (x:=R f-φ) (e:=4/2^54) (by grind) (by grind) (by grind) (by grind);have:=fk s0 (show 0<=1-φ by exact Æ (.l .n0 (.S .n1 .a)) [.l .a .n1] rfl p1);grind
 generalize mul s f=p at*;refine bS (iW o1 a1 (M:=2) ⟨1,by decide,rfl⟩ (by refine O o2 ?_;push_cast;exact Ó (.l (.G .n2) (.S .n1 .a)) [.l .ki (.A .n1 (.E 16)),.l .a (.A .ki .ky)] rfl sf1 a3) (by refine O o2 ?_;push_cast;exact Ó (.l (.S .n1 .a) .n2) [.l (.G (.E 8)) .ki,.l (.S .ki .ky) .a] rfl sf0 a2)) λb1 b2 b3 bc=>?_;clear bc;rw[o2] at b2 b3;push_cast at b2 b3;generalize ae 0x3ff0000000000000 p=q at*;have vq:=gI v0 v1 (x:=R q) (e:=3/2) (á (.l (.G .kB) .a) [.l .ki (.A .n1 (.E 16)),.l .d (.A .ki .ky),.l (.S (.S .n1 .d) (.E 2)) .a] rfl sf1 a3 b2) (á (.l .a .kB) [.l (.G (.E 8)) .ki,.l (.S .ki .ky) .d,.l .a (.A (.S .n1 .d) (.E 2))] rfl sf0 a2 b3);refine bS (iM fv b1 (M:=2) ⟨1,by decide,rfl⟩ (by push_cast;exact Ï (.l (.G .n2) .kc) [.l (.G .kB) .kc] rfl vq.1) (by push_cast;exact Ï (.l .kc .n2) [.l .kc .kB] rfl vq.2)) λc1 c2 c3 bc=>?_;clear bc;push_cast at c2 c3;generalize mul v q=z at*;have e1:=gI v0 v1 (x:=R q-(1-R s*R f)) (e:=6/2^54) (á (.l (.G (.E 6)) (.S .a (.S .n1 .ki))) [.l .d (.A .ki .ky),.l (.S (.S .n1 .d) (.E 2)) .a] rfl a3 b2) (á (.l (.S .a (.S .n1 .ki)) (.E 6)) [.l (.S .ki .ky) .d,.l .a (.A (.S .n1 .d) (.E 2))] rfl a2 b3);have e2:=oQ (v:=R f) (x:=R v*R s-d) (e:=1/2^54) (Ï (.l (.G .n2) .a) [.l .n0 .b,.l (.S .b .ky) .a] rfl p0 f1) (Ï (.l .a .n2) [.l .b .n1,.l .a (.A .b .ky)] rfl p1 f2) (Ó (.l (.G .kg) (.S .kc .c)) [.l (.S .c .kg) .kc] rfl w1) (Ó (.l (.S .kc .c) .kg) [.l .kc (.A .c .kg)] rfl w2);have e3:=gI d0 d1 (x:=R f-φ) (e:=4/2^54) (by grind) (by grind);exact(ß c1 (Đ [_,_,_,_,_,_,_] (.l (.S (.S .a .ki) .kx) .d) [.l (.S (.M .a .e) (.E 2)) .d,.l (.G (.E 6)) (.M .a (.S .e (.S .n1 (.M .f .g)))),.l (.M .g (.S (.M .a .f) .b)) (.M .n2 .kg),.l (.M .b (.S .g .c)) .ky] rfl c2 e1.1 e2.2 e3.2) (Đ [_,_,_,_,_,_,_] (.l .a (.A (.S .b .kv) .kx)) [.l .a (.A (.M .b .e) (.E 2)),.l (.M .b (.S .e (.S .n1 (.M .f .g)))) (.E 6),.l (.G (.M .n2 .kg)) (.M .g (.S (.M .b .f) .c)),.l (.G .ky) (.M .c (.S .g .d))] rfl c3 e1.2 e2.1 e3.1))
theorem aBO (fv:Ç v) (fs:Ç s) (v0:0<=R v) (v1:R v<=1) (d0:0<=d) (d1:d<=1) (s0:0<=R s) (s1:R s<=1+1/2^54)
  (w1:d-1/2^54<=R v*R s) (w2:R v*R s<=d+1/2^54):
  Ç (mul v (ae 0x3ff0000000000000 s))/\R v-d-32/2^54<=R (mul v (ae 0x3ff0000000000000 s))/\
  R (mul v (ae 0x3ff0000000000000 s))<=R v-d+32/2^54:= by
 refine xa l1 λo1 o2=>?_;refine bS (iW o1 fs (M:=2) ⟨1,by decide,rfl⟩ (by refine O o2 ?_;push_cast;exact Æ (.l (.G .n2) (.S .n1 .a)) [.l .a (.A .n1 .kg)] rfl s1) (by refine O o2 ?_;push_cast;exact Æ (.l (.S .n1 .a) .n2) [.l .n0 .a] rfl s0)) λb1 b2 b3 bc=>?_;clear bc;rw[o2] at b2 b3;push_cast at b2 b3;generalize ae 0x3ff0000000000000 s=q at*;have vq:=gI v0 v1 (x:=R q) (e:=3/2) (Ï (.l (.G .kB) .a) [.l .b (.A .n1 .kg),.l (.S (.S .n1 .b) (.E 2)) .a] rfl s1 b2) (Ï (.l .a .kB) [.l .n0 .b,.l .a (.A (.S .n1 .b) (.E 2))] rfl s0 b3);refine bS (iM fv b1 (M:=2) ⟨1,by decide,rfl⟩ (by push_cast;exact Ï (.l (.G .n2) .kc) [.l (.G .kB) .kc] rfl vq.1) (by push_cast;exact Ï (.l .kc .n2) [.l .kc .kB] rfl vq.2)) λc1 c2 c3 bc=>?_;clear bc;push_cast at c2 c3;generalize mul v q=z at*;have e1:=gI v0 v1 (x:=R q-(1-R s)) (e:=2/2^54) (Ï (.l (.G (.E 2)) (.S .a (.S .n1 .b))) [.l (.S (.S .n1 .b) (.E 2)) .a] rfl b2) (Ï (.l (.S .a (.S .n1 .b)) (.E 2)) [.l .a (.A (.S .n1 .b) (.E 2))] rfl b3);exact(ß c1 (ð (.l (.S .ka .kx) .c) [.l (.M .a .d) (.A .b .kg),.l (.S (.M .a .e) (.E 2)) .c,.l (.G (.E 2)) (.M .a (.S .e (.S .n1 .d)))] rfl w2 c2 e1.1) (ð (.l .a (.A .kq .kx)) [.l (.S .c .kg) (.M .b .d),.l .a (.A (.M .b .e) (.E 2)),.l (.M .b (.S .e (.S .n1 .d))) (.E 2)] rfl w1 c3 e1.2))
end
def Nr (x:UInt64) (q e:Rat):Prop:=Ç x/\q-e<=R x/\R x<=q+e
theorem Nr.self (h:Ç x) (he:0<=e):Nr x (R x) e:=(ß h (Ï (.l .ka .a) [.l .n0 .b] rfl he) (Ï (.l .a .kb) [.l .n0 .b] rfl he))
def ŧ (l:List PV) (N d u e:Rat):Prop:=∃x y z:UInt64,l=[.flt x,.flt y,.flt z]/\Nr x (N+d*dQ u) e/\Nr y (N+d*b6 u) e/\Nr z (N+d*f6 u) e
theorem WQ (hx:qo x=.fin a m e) (h:0<=R x):((ms a m e:Int):Rat)<=R x/\R x<((ms a m e:Int):Rat)+1/\0<=ms a m e:= by
 have kp:=å;have hv:=mi hx;have he:=zs hx;have Kj:=ó.mp h;have hs:ms a m e=wh Wv m e:= by
  cases a
  ·rfl
  ·have hm:m=0:= by
    rw[hv] at Kj
    delta rg at Kj
    simp only[if_true] at Kj;have:m*2^(e+1074).toNat=0:=by exact eo (en2 (.x (.M .q .r) .n0) [.l .n0 (.G (.C (.M .q .r)))] rfl Kj) (jd _)
    rcases Bj.mp this with h|h
    ·exact h
    ·exact absurd h (iy (jb _))
   subst hm
   delta ms Float64.ceilOf wh rg
   simp
 have Tq:val x=((m*2^(e+1074).toNat:Nat):Int):= by
  have:=qe hx;exact iz (ú [_] [_,_,_] (.l .a (.C (.M .q .r))) [.z1 .s (.M .q .r),.e .a .s] rfl this (av (Ĭ [_] (.l .n0 .a) [.l .n0 .a] rfl Kj)).symm) (ú [_] [_,_,_] (.l (.C (.M .q .r)) .a) [.z1 (.M .q .r) .s,.e .s .a] rfl this.symm (av (Ĭ [_] (.l .n0 .a) [.l .n0 .a] rfl Kj)))
 refine O hs ?_
 delta wh rg
 simp only[bw,if_false]
 by_cases h0:e>=0
 ·refine O (if_pos h0) ?_;have:val x=((m:Int)*2^e.toNat)*(K:Int):= by
   refine O Tq ?_;have e1:(e+1074).toNat=e.toNat+1074:=(nq h0).elim λn hn=>by refine O hn ?_;rfl
   rw[e1,nv,K_eq];push_cast;rw[qz]
  have hr:R x=(((m:Int)*2^e.toNat:Int):Rat):= by
   refine fQ kp ?_;refine aFZ (Ì ..) (O this ?_);push_cast;rfl
  refine O hr (ß fj (Æ (.t .a .kf) [] rfl) ?_);exact oo (en1 (.l .n0 .q) [] rfl) (Ce (by decide))
 ·refine O (if_neg h0) ?_;have hK:((2^(-e).toNat:Nat):Int)*((2^(e+1074).toNat:Nat):Int)=(K:Int):= by
   refine aFZ (oe ..) (aFZ (nv ..) ?_);have:(-e).toNat+(e+1074).toNat=1074:=(ud (ba (Bq.mp h0))).elim λk hk=>(ud he).elim λl hl=>by
    exact O (show -e=(k:Int) by exact ú [_] [_] (.e (.G .a) .q) [.e .n0 (.A .a .q)] rfl hk.symm) (O (show e+1074=(l:Int) by exact ú [_] [_] (.e (.A .a (.N 1074)) .q) [.e .a (.A (.G (.N 1074)) .q)] rfl hl.symm) (oh (show((k+l:Nat):Int)=1074 by exact ú [_] [_,_] (.e (.C (.A .q .r)) (.N 1074)) [.e (.A .a .q) .n0,.e (.A (.G (.N 1074)) .r) .a] rfl hk hl)))
   exact O this (O K_eq rfl)
  have hq:(m:Int).fdiv (2^(-e).toNat)=((m/2^(-e).toNat:Nat):Int):= by
   refine O (sr _ (Ce (by decide))) ?_;push_cast;rfl
  refine O hq ?_;have Sm:=po m (2^(-e).toNat);have Fv:=qd m (jb (-e).toNat);generalize m/2^(-e).toNat=q at*;generalize m%2^(-e).toNat=r at*;generalize hA:2^(-e).toNat=A at*;generalize hB:2^(e+1074).toNat=B at*;have Vy:(0:Rat)<(B:Rat):= by
   have:0<B:=by exact aFZ hB (jb _)
   exact_mod_cast this
  have Tr:(0:Rat)<(A:Rat):= by
   have:0<A:=by exact aFZ hA (jb _)
   exact_mod_cast this
  have Vz:(A:Rat)*(B:Rat)=(K:Rat):=by exact_mod_cast congrArg (λz:Int=>(z:Rat)) hK
  have h1:R x*(A:Rat)=(m:Rat):= by
   refine fQ Vy ?_;have:R x*(A:Rat)*(B:Rat)=R x*(K:Rat):=by rw[<-Vz];exact Ó (.e (.M .kc .c) (.M .a .ki)) [] rfl
   refine O this (aFZ (Ì ..) (O Tq ?_));push_cast;rfl
  have h2:(m:Rat)=(A:Rat)*(q:Rat)+(r:Rat):=by exact_mod_cast congrArg (λz:Nat=>(z:Rat)) Sm.symm
  have h3:(r:Rat)<(A:Rat):=by exact_mod_cast Fv
  have h4:(0:Rat)<=(r:Rat):=by exact_mod_cast jd r
  refine(ß (cT Tr ?_) (fe (c:=(A:Rat)) ?_ (ay Tr)) (bl _))
  ·push_cast;exact O h1 (O h2 (Ó (.l .kc (.A (.M .b .a) .c)) [.l .n0 .c] rfl h4))
  ·push_cast;exact O h1 (O h2 (Ó (.t (.A .kc .c) (.M (.A .b .n1) .a)) [.t .c .a] rfl h3))
theorem HM (hx:Ç x) (h:0<=R x):∃n:Int,0<=n/\ċ .int [.flt x]=J (.int n)/\(n:Rat)<=R x/\R x<(n:Rat)+1:= by
 refine iX hx λa m e hd=>?_;clear hx;refine Ē (WQ hd h) λh1 h2 h3=>?_;refine(iH _ h3 ?_ h1 h2);show tV x=_
 delta tV
 exact O hd rfl
theorem aBP (hx:Ç x) (n:Int) (h0:0<=n) (h1:(n:Rat)<=R x) (h2:R x<(n:Rat)+1):ċ .int [.flt x]=J (.int n):= by
 have hn:((0:Int):Rat)<=(n:Rat):=an.mpr h0;refine cH (HM hx (by have:((0:Int):Rat)=0:=rfl;exact Ó (.l .n0 .a) [.l .b .a,.l .c .b,.e .n0 .c] rfl h1 hn this.symm)) λk k0 k1 k2 k3=>?_;have a:k<n+1:= by
  have:(k:Rat)<((n+1:Int):Rat):=by push_cast;exact Ó (.t .a (.A .b .n1)) [.t .c (.A .b .n1),.l .a .c] rfl h2 k2
  exact bn.mp this
 have b:n<k+1:= by
  have:(n:Rat)<((k+1:Int):Rat):=by push_cast;exact Ó (.t .a (.A .b .n1)) [.l .a .c,.t .c (.A .b .n1)] rfl h1 k3
  exact bn.mp this
 exact O k1 (O (show k=n by exact iz (ī (.l .a .b) [.t .a (.A .b .n1)] rfl a) (ī (.l .a .b) [.t .a (.A .b .n1)] rfl b)) rfl)
theorem CI (hx:Ç x) (hy:Ç y) (h0:0<=R x) (h1:0<=R y) (hf:Ç (mul x y)):0<=R (mul x y):= by
 refine iX hx λa m e hx=>?_;refine iX hy λb k f hy=>?_;have hr:=zq hx hy;rw[ó] at h0 h1⊢
 by_cases Lp:(a != b)=Wv
 ·rw[Lp] at hr;exact pI hr hf
 ·-- one of them is nought
  have s1:=lO hx;have s2:=lO hy;have hz:(val x).natAbs*(val y).natAbs=0:= by
   unfold rg at s1 s2;cases a<;>cases b
   ·exact absurd rfl Lp
   ·simp only[if_true] at s2;have:(val y).natAbs=0:=by exact ú [_] [_] (.Z 2 .q .n0) [.e .a (.G .q),.e .q .a] rfl s2.symm (av (Ĭ [_] (.l .n0 .a) [.l .n0 .a] rfl h1))
    exact O this (O (Dg ..) rfl)
   ·simp only[if_true] at s1;have:(val x).natAbs=0:=by grind
    exact O this (O (yw ..) rfl)
   ·exact absurd rfl Lp
  rw[hz] at hr;refine Ē (kU (j:=0) hr İ (by decide) (jd _)) λbc Gf h3=>?_;clear bc;clear Gf;have:=h3 0 0 (by decide) (by decide) (by simp);have h4:rg (a != b) 0=0:=by delta rg;simp
  rw[h4] at this;rcases Int.mul_eq_zero.mp this with h|h
  ·exact Ĭ [_] (.L 202402253307310618352495346718917307049556649764142118356901358027430339567995346891960383701437124495187077864316811911389808737385793476867013399940738509921517424276566361364466907742093216341239767678472745068562007483424692698618103355649159556340810056512358769552333414615230502532186327508646006263307707741093494784 .n0 .a) [.e .n0 (.M .a (.C (.P .n2 1074)))] (by kernel_rfl) this.symm
  ·exact absurd h (iD (ei.mpr İ))
def pQ{h v s:UInt64}{d:Rat}{F:Fn} :Prop:=∀(fh:Ç h) (fv:Ç v) (fs:Ç s) (h0:0<=R h) (h1:R h<=100) (v0:0<=R v) (v1:R v<=1) (d0:0<d) (d1:d<=1) (s0:0<R s) (s1:R s<=1+1/2^54) (w1:d-1/2^54<=R v*R s) (w2:R v*R s<=d+1/2^54),∃l,dP F Co.bI [.flt h,.flt s,.flt v]=J (.tup l)/\∃(u:Rat) (m:Int),0<=u/\u<6/\ŧ l (R v-d) d u (32/2^54)/\6*R h-6*m-1024/2^54<=u/\u<=6*R h-6*m+1024/2^54
def bM:=gZ (a9 @pQ)
def nC:=bM.1.1.1.1
theorem WR:@pQ nC bM.1.1.1.2 bM.1.1.2 bM.1.2 bM.2:= by
 intro fh fv fs h0 h1 v0 v1 d0 d1 s0 s1 w1 w2;refine xa l6 λo1 o2=>?_;refine bS (iM fh o1 (M:=1024) ⟨10,by decide,rfl⟩ (by refine O o2 ?_;push_cast;exact Æ (.l (.G (.N 1024)) (.M .a .n6)) [.L 6 .n0 .a] rfl h0) (by refine O o2 ?_;push_cast;exact Æ (.l (.M .a .n6) (.N 1024)) [.L 6 .a (.N 100)] rfl h1)) λa1 a2 a3 bc=>?_;clear bc;rw[o2] at a2 a3;push_cast at a2 a3;have hH:0<=R (mul nC 0x4018000000000000):=CI fh o1 h0 (by exact O o2 (æ (.l .n0 .n6) [] rfl)) a1;refine cH (HM a1 hH) λi Np hi Nq Pk=>?_;have Qp:i<=1000:= by
  have:(i:Rat)<=((1000:Int):Rat):=by push_cast;exact Ó (.l .a .kn) [.L 6 .b (.N 100),.l .c (.A (.M .b .n6) (.E 1024)),.l .a .c] rfl h1 a3 Nq
  exact an.mp this
 refine xa (j6 (i:=i) (ú [_] [_] (.x .q .ke) [.l .a .kn,.e .q .a] rfl Qp (av (Ĭ [_] (.l .n0 .a) [.l .n0 .a] rfl Np)))) λf1 f2=>?_;have ho:ķ i=Wu:= by
  delta ķ
  refine iX f1 λa m e hd=>?_;clear f1
  delta qw
  refine O hd ?_;rfl
 have hs:Ă bM.1.1.2 0=Wv:= by
  delta Ă
  refine O (mZ fs l0.1) (O l0.2 ?_);split
  ·rfl
  ·refine O (if_neg ((Dh (s0)).symm)) ?_;rfl
 refine(Ö _ (WK hs hi ho) ?_);refine bS (iW a1 f1 (M:=1) ⟨0,by decide,rfl⟩ (by refine O f2 ?_;push_cast;exact Ï (.l .kt .ka) [.l .b .a] rfl Nq) (by refine O f2 ?_;push_cast;exact Ï (.l .ka .n1) [.t .a (.A .b .n1)] rfl Pk)) λg1 g2 g3 bc=>?_;clear bc;rw[f2] at g2 g3;push_cast at g2 g3;generalize mul nC 0x4018000000000000=H at*;generalize ae H (au i)=f at*;refine xa l1 λt1 t2=>?_;refine bS (iW t1 g1 (M:=2) ⟨1,by decide,rfl⟩ (by refine O t2 ?_;push_cast;exact Ó (.l (.G .n2) (.S .n1 .a)) [.t .b (.A .c .n1),.l .a (.A .kq .kg)] rfl Pk g3) (by refine O t2 ?_;push_cast;exact Ó (.l (.S .n1 .a) .n2) [.l .b .c,.l (.S (.S .c .b) .kg) .a] rfl Nq g2)) λk1 k2 k3 bc=>?_;clear bc;rw[t2] at k2 k3;push_cast at k2 k3;have cq:=QV (φ:=R H-i) (d:=bM.1.2) fv fs g1 v0 v1 (ay d0) d1 (ay s0) s1 w1 w2 (Ï (.l .n0 .ka) [.l .b .a] rfl Nq) (Ï (.l .ka .n1) [.t .a (.A .b .n1)] rfl Pk) (Ó (.l (.S .ka .ky) .c) [.l (.S .ka .kg) .c] rfl g2) (Ó (.l .a (.A .kq .ky)) [.l .a (.A .kq .kg)] rfl g3);have cp:=aBO (d:=bM.1.2) fv fs v0 v1 (by grind) d1 (by grind) s1 w1 w2;have ct:Nr (mul bM.1.1.1.2 (ae 0x3ff0000000000000 (mul bM.1.1.2 (ae 0x3ff0000000000000 f)))) (R bM.1.1.1.2-bM.1.2*(1-(R H-i))) (32/2^54):=
  QV (φ:=1-(R H-i)) (d:=bM.1.2) fv fs k1 v0 v1 (by grind) d1 (by grind) s1 w1 w2 (Ï (.l .n0 (.S .n1 .ka)) [.t .a (.A .b .n1)] rfl Pk) (Ï (.l (.S .n1 .ka) .n1) [.l .b .a] rfl Nq) (á (.l (.S (.S .n1 .ka) .ky) .c) [.l .d (.A .ka .kg),.l (.S (.S .n1 .d) (.E 2)) .c] rfl g3 k2) (á (.l .a (.A (.S .n1 .kq) .ky)) [.l (.S .kq .kg) .d,.l .a (.A (.S .n1 .d) (.E 2))] rfl g2 k3)
 generalize mul bM.1.1.1.2 (ae 0x3ff0000000000000 (mul bM.1.1.2 (ae 0x3ff0000000000000 f)))=T at*;generalize mul bM.1.1.1.2 (ae 0x3ff0000000000000 (mul bM.1.1.2 f))=Q at*;generalize mul bM.1.1.1.2 (ae 0x3ff0000000000000 bM.1.1.2)=P at*;have hk:i=6*(i/6)+i%6:=by exact iz (de (wm _ _).symm) (de (wm _ _))
 have Ts:(i:Rat)=6*((i/6:Int):Rat)+((i%6:Int):Rat):=by exact_mod_cast congrArg (λz:Int=>(z:Rat)) hk
 refine(Ů (R H-6*((i/6:Int):Rat)) (i/6) ?_);have Sp:i%6=0\/i%6=1\/i%6=2\/i%6=3\/i%6=4\/i%6=5:=by grind
 generalize i/6=j at*;generalize i%6=k at*;clear hk hi ho Np Qp f1 f2 hs g1 g2 g3 k1 k2 k3 a1 w1 w2 s0 s1 fs fh;generalize R H=U at*;refine(nW (by rcases Sp with e|e|e|e|e|e<;>(subst e;push_cast at*;grind)) (by rcases Sp with e|e|e|e|e|e<;>(subst e;push_cast at*;grind)) ?_ (Ó (.l (.S (.S .kj (.M .n6 .b)) (.E 1024)) (.S .c (.M .n6 .b))) [.l (.S (.M .a .n6) (.E 1024)) .c] rfl a2) (Ó (.l (.S .a (.M .n6 .b)) (.A (.S (.M .n6 .c) (.M .n6 .b)) (.E 1024))) [.l .a (.A (.M .c .n6) (.E 1024))] rfl a3));have hφ0:0<=U-(i:Rat):=by exact Ï (.l .n0 .ka) [.l .b .a] rfl Nq
 have hφ1:U-(i:Rat)<1:=by exact Ï (.t .ka .n1) [.t .a (.A .b .n1)] rfl Pk
 generalize hφ:U-(i:Rat)=φ at*;have hu:U-6*(j:Rat)=φ+(k:Rat):=by exact lm (ð (.l (.S .a (.M .n6 .b)) (.A .c .d)) [.e .e (.A (.M .n6 .b) .d),.e (.S .a .e) .c] rfl Ts hφ) (ð (.l .kb (.S .c (.M .n6 .d))) [.e (.A (.M .n6 .d) .b) .e,.e .a (.S .c .e)] rfl Ts.symm hφ.symm)
 refine O hu ?_;have e0:(0:Rat)<=32/2^54:=by exact æ (.l .n0 .kx) [] rfl
 have hv:=Nr.self fv e0;obtain⟨⟨a1,a2,a3⟩,⟨b1,b2,b3⟩,⟨c1,c2,c3⟩,⟨d1',d2',d3'⟩,⟨e1,e2,e3⟩,⟨g1,g2,g3⟩⟩:=aBN φ hφ0 (ay hφ1);have kG:∀{x:UInt64}{p q:Rat},Nr x p (32/2^54)->p=q->Nr x q (32/2^54):=λnC e=>e▸nC
 delta ŧ
 rcases Sp with e|e|e|e|e|e<;>subst e
 ·exact(cO _ _ _ rfl (kG hv (by exact O a1 (Ï (.e .a (.A .ka (.M .b .n1))) [] rfl))) (kG ct (by refine O a2 ?_;exact Ó (.e (.S .a (.M .b (.S .n1 .c))) (.A .ka .ki)) [] rfl)) (kG cp (by exact O a3 (Ï (.e .ka (.A .ka (.M .b .n0))) [] rfl))))
 ·exact(cO _ _ _ rfl (kG cq (by exact O b1 (Ó (.e (.S .a .ki) (.A .ka (.M .b (.S .n1 .c)))) [] rfl))) (kG hv (by refine O b2 ?_;grind)) (kG cp (by refine O b3 ?_;grind)))
 ·exact(cO _ _ _ rfl (kG cp (by refine O c1 ?_;grind)) (kG hv (by refine O c2 ?_;grind)) (kG ct (by refine O c3 ?_;grind)))
 ·exact(cO _ _ _ rfl (kG cp (by refine O d1' ?_;grind)) (kG cq (by refine O d2' ?_;grind)) (kG hv (by refine O d3' ?_;grind)))
 ·exact(cO _ _ _ rfl (kG ct (by refine O e1 ?_;grind)) (kG cp (by refine O e2 ?_;grind)) (kG hv (by refine O e3 ?_;grind)))
 ·exact(cO _ _ _ rfl (kG hv (by refine O g1 ?_;grind)) (kG cp (by refine O g2 ?_;grind)) (kG cq (by refine O g3 ?_;grind)))
theorem aBQ:@pQ h v s d F:=iY (a9 @pQ) ((((h,v),s),d),F) WR
theorem QW{x y:UInt64}(hx:Ç x) (hy:Ç y):ř x y=decide (R x<=R y):= by
 delta ř Ĵ Ă
 refine O (mZ hx hy) ?_
 by_cases h:R x<R y
 ·refine O (if_pos h) ?_;have:R x<=R y:=ay h;simp[this]
 ·refine O (if_neg h) ?_
  by_cases h2:R x=R y
  ·refine O (if_pos h2) ?_;have:R x<=R y:=by exact Ï (.l .a .b) [.e .a .b] rfl h2
   simp[this]
  ·refine O (if_neg h2) ?_;have:¬R x<=R y:=by grind
   simp[this]
theorem QX{x y:UInt64}(hx:Ç x) (hy:Ç y):Ĵ x y=decide (R x<R y):= by
 delta Ĵ
 refine O (mZ hx hy) ?_
 by_cases h:R x<R y
 ·refine O (if_pos h) ?_;simp[h]
 ·refine O (if_neg h) ?_
  by_cases h2:R x=R y
  ·refine O (if_pos h2) ?_;simp[h]
  ·refine O (if_neg h2) ?_;simp[h]
section
variable{S:Nat}{M N:UInt64}{m n:Int}
def s9 :Prop:=∀(hS:Sc S) (hM:Gr S M m) (hN:Gr S N n) (h0:0<=n) (h1:n<m) (h2:m<=(S:Int)) (h3:m+n<2*(S:Int)) (Hc:S<=2^50),(Ç (div (add M N) 0x4000000000000000)/\R (div (add M N) 0x4000000000000000)=(R M+R N)/2)/\
  (R (div (add M N) 0x4000000000000000)<=1/2->ck (add M N)=Wv)/\
  (ck (ae (ae 0x4000000000000000 M) N)=Wv)/\
  Ç (vL M N (ae M N) (div (add M N) 0x4000000000000000))/\0<R (vL M N (ae M N) (div (add M N) 0x4000000000000000))/\
  R (vL M N (ae M N) (div (add M N) 0x4000000000000000))<=1+1/2^54/\
  (((R M+R N)/2<=1/2/\(R M-R N)/2-1/2^54<=(R M+R N)/2*R (vL M N (ae M N) (div (add M N) 0x4000000000000000))/\(R M+R N)/2*R (vL M N (ae M N) (div (add M N) 0x4000000000000000))<=(R M-R N)/2+1/2^54)\/
   (1/2<(R M+R N)/2/\(R M-R N)/2-1/2^54<=(1-(R M+R N)/2)*R (vL M N (ae M N) (div (add M N) 0x4000000000000000))/\(1-(R M+R N)/2)*R (vL M N (ae M N) (div (add M N) 0x4000000000000000))<=(R M-R N)/2+1/2^54))
def nD:=gZ (a9 @s9)
def Ø:=nD.1.1.1.1
def Ñ:=nD.1.1.1.2
def Ð:=nD.1.1.2
def aV:=nD.1.2
def aW:=nD.2
theorem aBR:@s9 Ø Ñ Ð aV aW:= by
 intro hS hM hN h0 h1 h2 h3 Hc;have hp:=hS.pos;have Lq:(0:Rat)<(Ø:Rat):=by exact ya hp
 have Wr:(Ø:Int)<=2^50:=by exact en1 (.l .q .kh) [.x .q .kh] rfl Hc
 refine xa l2 λt1 t2=>?_;have g2:Gr Ø 0x4000000000000000 (2*(Ø:Int)):=⟨t1,by refine O t2 ?_;push_cast;exact Æ (.e (.M .n2 .a) (.M .n2 .a)) [] rfl⟩;have gS:=QN hS hM hN (ú [_,_] [_,_] (.x .q .ke) [.t .kb (.M .n2 .r),.X 2 .r .kh,.e .q .kb] rfl h3 Hc (av (Ĭ [_,_] (.l .n0 .kb) [.L 2 .n0 .b,.t .b .a] rfl h0 h1)));have gD:=lT hS hM hN (ú [_,_] [_,_] (.x .q .ke) [.l .n0 .a,.l .b .r,.x .r .kh,.e .q (.S .b .a)] rfl h0 h2 Hc (av (Ĭ [_,_] (.l .n0 .ka) [.t .b .a] rfl h1)));have gT:=lT hS (lT hS g2 hM (ú [_,_] [_,_] (.x .q .ke) [.l .n0 .a,.t .a .b,.X 2 .r .kh,.e .q (.S (.M .n2 .r) .b)] rfl h0 h1 Hc (av (ú [_] [_] (.l .n0 (.S (.M .n2 .q) .a)) [.l .a .q] rfl h2)))) hN (ú [_,_] [_,_] (.x .q .ke) [.L 2 .n0 .a,.t .a .b,.X 2 .r .kh,.e .q (.S (.S (.M .n2 .r) .b) .a)] rfl h0 h1 Hc (av (ú [_,_] [_] (.l .n0 (.S (.S (.M .n2 .q) .a) .b)) [.t .kb (.M .n2 .q)] rfl h3)));have eM:=hM.2;have eN:=hN.2;have i0:((0:Int):Rat)<=(aW:Rat):=an.mpr h0;have i1:(aW:Rat)<(aV:Rat):=bn.mpr h1;have i2:(aV:Rat)<=((Ø:Int):Rat):=an.mpr h2;have i3:((aV+aW:Int):Rat)<((2*(Ø:Int):Int):Rat):=bn.mpr h3;push_cast at i0 i1 i2 i3;have u0:0<=R Ð:=cT Lq (by exact O eN (Ï (.l (.M .n0 .a) .b) [.l .n0 .b] rfl i0));have u1:R Ð<R Ñ:=(x7 hS hN hM).mpr h1;have u2:R Ñ<=1:=cT Lq (by exact O eM (Ï (.l .a (.M .n1 .b)) [.l .a .b] rfl i2));have eS:R (add Ñ Ð)=R Ñ+R Ð:= by
  refine fQ Lq ?_;refine O gS.2 ?_;push_cast;exact ð (.e .kb (.M (.A .c .d) .e)) [.e .a (.M .c .e),.e .b (.M .d .e)] rfl eM.symm eN.symm
 have eT:R (ae (ae 0x4000000000000000 Ñ) Ð)=2-R Ñ-R Ð:= by
  refine fQ Lq ?_;refine O gT.2 ?_;push_cast;exact ð (.e (.S (.S (.M .n2 .a) .b) .c) (.M (.S (.S .n2 .d) .e) .a)) [.e (.M .d .a) .b,.e (.M .e .a) .c] rfl eM eN
 have eD:R (ae Ñ Ð)=R Ñ-R Ð:= by
  refine fQ Lq ?_;refine O gD.2 ?_;push_cast;exact ð (.e .ka (.M (.S .c .d) .e)) [.e .a (.M .c .e),.e (.M .d .e) .b] rfl eM.symm eN
 refine bS (CF gS.1 t1 (by exact O t2 (æ (.t .n0 .n2) [] rfl)) (M:=2) ⟨1,by decide,rfl⟩ (by refine O t2 (O eS ?_);push_cast;exact Ï (.l (.G (.M .n2 .n2)) .kb) [.L 2 .n0 .b,.t .b .a] rfl u0 u1) (by refine O t2 (O eS ?_);push_cast;exact Ï (.l .kb (.M .n2 .n2)) [.t .b .a,.L 2 .a .n1] rfl u1 u2)) λq1 bc Gf q4=>?_;clear bc;clear Gf;rw[t2,eS] at q4;have hl:R (div (add Ñ Ð) 0x4000000000000000)=(R Ñ+R Ð)/2:= by
  refine q4 (cA (aV+aW) (hS.e+1) ?_ (ú [_,_] [_,_] (.x .q .ke) [.t .kb (.M .n2 .r),.X 2 .r .kh,.e .q .kb] rfl h3 Hc (av (Ĭ [_,_] (.l .n0 .kb) [.L 2 .n0 .b,.t .b .a] rfl h0 h1))) ?_)
  ·have:=hS.le;exact en1 (.x .kl (.N 1074)) [.x .q .kn] rfl this
  ·refine O (vm ..) (aFZ hS.eq ?_);push_cast;exact ð (.e (.M .kz (.M .c .n2)) (.A .d .e)) [.e (.M .a .c) .d,.e .ki .e] rfl eM eN
 have z1:ck (add Ñ Ð)=Wv:=by refine O (pM hS gS) ?_;simp;exact iD (ī (.t .n0 .kb) [.L 2 .n0 .b,.t .b .a] rfl h0 h1)
 have z2':ck (ae (ae 0x4000000000000000 Ñ) Ð)=Wv:=by refine O (pM hS gT) ?_;simp;exact iD (ú [_,_] [_] (.t .n0 (.S (.S (.M .n2 .q) .a) .b)) [.t .kb (.M .n2 .q)] rfl h3)
 refine xa lh λv1 v2=>?_;refine(fH ⟨q1,hl⟩ (λ_=>z1) z2' ?_)
 delta vL
 refine O (QW q1 v1) (O hl (O v2 ?_));have small:∀k:Int,0<k->k<=2*(Ø:Int)->2/2^54<=((aV-aW:Int):Rat)/(k:Rat):= by
  intro k k0 k1;have a0:(0:Rat)<(k:Rat):=by have:=bn.mpr k0;exact_mod_cast this
  have a1:(k:Rat)<=((2^51:Int):Rat):=an.mpr (ú [_] [_] (.l .a (.P .n2 51)) [.X 2 .q .kh,.l .a (.M .n2 .q)] rfl Hc k1);have a2:((1:Int):Rat)<=((aV-aW:Int):Rat):=an.mpr (ī (.l .n1 .ka) [.t .b .a] rfl h1);rw[pq] at a1;have a3:((aV-aW:Int):Rat)/(k:Rat)*(k:Rat)=((aV-aW:Int):Rat):=ğ (by assumption);refine cT a0 ?_;refine O a3 ?_;have:((1:Int):Rat)=1:=rfl;have:((2:Int):Rat)=2:=rfl;grind
 by_cases hc:(R Ñ+R Ð)/2<=1/2
 ·simp only[hc,decide_true,if_true];refine bS (vM hS gD gS (ī (.l .n0 .ka) [.t .b .a] rfl h1) (ī (.l .ka .kb) [.L 2 .n0 .b] rfl h0) (ī (.t .n0 .kb) [.L 2 .n0 .b,.t .b .a] rfl h0 h1)) λd1 d2 d3 bc=>?_;clear bc;refine xa (kW (n:=aV-aW) (m:=aV+aW) (ī (.l .n0 .ka) [.t .b .a] rfl h1) (ī (.l .ka .kb) [.L 2 .n0 .b] rfl h0) (ī (.t .n0 .kb) [.L 2 .n0 .b,.t .b .a] rfl h0 h1)) λd4 d5=>?_;have d6:=small (aV+aW) (by lia) (ba h3);have d7:((aV-aW:Int):Rat)/((aV+aW:Int):Rat)*((R Ñ+R Ð)/2)=(R Ñ-R Ð)/2:= by
   have b0:(0:Rat)<((aV+aW:Int):Rat):= by
    have:=bn.mpr (show(0:Int)<aV+aW by lia)
    exact_mod_cast this
   have b1:((aV-aW:Int):Rat)/((aV+aW:Int):Rat)*((aV+aW:Int):Rat)=((aV-aW:Int):Rat):=ğ (by assumption);generalize ((aV-aW:Int):Rat)/((aV+aW:Int):Rat)=P at*;refine fQ Lq ?_;push_cast at b1;grind
  generalize ((aV-aW:Int):Rat)/((aV+aW:Int):Rat)=P at*;generalize div (ae Ñ Ð) (add Ñ Ð)=s at*;have e:=gI (v:=(R Ñ+R Ð)/2) (x:=R s-P) (e:=1/2^54) (Ï (.L 2 .n0 .kz) [.L 2 .n0 .b,.t .b .a] rfl u0 u1) (Ï (.l .kz .n1) [.l .kz (.D .n1 .n2)] rfl hc) (Ï (.l (.G .kg) .ka) [.l (.S .b .kg) .a] rfl d2) (Ï (.l .ka .kg) [.l .a (.A .b .kg)] rfl d3);exact(fH d1 (Ï (.t .n0 .a) [.l (.E 2) .b,.l (.S .b .kg) .a] rfl d6 d2) (Ï (.l .a (.A .n1 .kg)) [.l .b .n1,.l .a (.A .b .kg)] rfl d5 d3) (.inl (ß trivial (á (.l (.S (.D .ka .n2) .kg) (.M .kz .c)) [.e (.D .ka .n2) (.M .d .kz),.l (.G .kg) (.M .kz (.S .c .d))] rfl d7.symm e.1) (á (.l (.M .kz .c) (.A (.D .ka .n2) .kg)) [.e (.M .d .kz) (.D .ka .n2),.l (.M .kz (.S .c .d)) .kg] rfl d7 e.2))))
 ·simp only[hc,decide_false,bw,if_false];refine bS (vM hS gD gT (by lia) (ú [_,_] [_] (.l .ka (.S (.S (.M .n2 .q) .a) .b)) [.L 2 .a .q] rfl h2) (ú [_,_] [_] (.t .n0 (.S (.S (.M .n2 .q) .a) .b)) [.t .kb (.M .n2 .q)] rfl h3)) λd1 d2 d3 bc=>?_;clear bc;refine xa (kW (n:=aV-aW) (m:=2*(Ø:Int)-aV-aW) (by lia) (ú [_,_] [_] (.l .ka (.S (.S (.M .n2 .q) .a) .b)) [.L 2 .a .q] rfl h2) (ú [_,_] [_] (.t .n0 (.S (.S (.M .n2 .q) .a) .b)) [.t .kb (.M .n2 .q)] rfl h3)) λd4 d5=>?_;have d6:=small (2*(Ø:Int)-aV-aW) (by lia) (ú [_,_] [_] (.l (.S (.S (.M .n2 .q) .a) .b) (.M .n2 .q)) [.L 2 .n0 .b,.t .b .a] rfl h0 h1);have d7:((aV-aW:Int):Rat)/((2*(Ø:Int)-aV-aW:Int):Rat)*(1-(R Ñ+R Ð)/2)=(R Ñ-R Ð)/2:= by
   have b0:(0:Rat)<((2*(Ø:Int)-aV-aW:Int):Rat):= by
    have:=bn.mpr (show(0:Int)<2*(Ø:Int)-aV-aW by lia)
    exact_mod_cast this
   have b1:((aV-aW:Int):Rat)/((2*(Ø:Int)-aV-aW:Int):Rat)*((2*(Ø:Int)-aV-aW:Int):Rat)=((aV-aW:Int):Rat):=ğ (by assumption);generalize ((aV-aW:Int):Rat)/((2*(Ø:Int)-aV-aW:Int):Rat)=P at*;refine fQ Lq ?_;push_cast at b1;grind
  generalize ((aV-aW:Int):Rat)/((2*(Ø:Int)-aV-aW:Int):Rat)=P at*;generalize div (ae Ñ Ð) (ae (ae 0x4000000000000000 Ñ) Ð)=s at*;have e:=gI (v:=1-(R Ñ+R Ð)/2) (x:=R s-P) (e:=1/2^54) (Ï (.L 2 .n0 (.S .n1 .kz)) [.t .b .a,.L 2 .a .n1] rfl u1 u2) (Ï (.l (.S .n1 .kz) .n1) [.t (.D .n1 .n2) .kz] rfl (jc.mp hc)) (Ï (.l (.G .kg) .ka) [.l (.S .b .kg) .a] rfl d2) (Ï (.l .ka .kg) [.l .a (.A .b .kg)] rfl d3);exact(fH d1 (Ï (.t .n0 .a) [.l (.E 2) .b,.l (.S .b .kg) .a] rfl d6 d2) (Ï (.l .a (.A .n1 .kg)) [.l .b .n1,.l .a (.A .b .kg)] rfl d5 d3) (.inr (ß ((jc.mp hc)) (á (.l (.S (.D .ka .n2) .kg) (.M (.S .n1 .kz) .c)) [.e (.D .ka .n2) (.M .d (.S .n1 .kz)),.l (.G .kg) (.M (.S .n1 .kz) (.S .c .d))] rfl d7.symm e.1) (á (.l (.M (.S .n1 .kz) .c) (.A (.D .ka .n2) .kg)) [.e (.M .d (.S .n1 .kz)) (.D .ka .n2),.l (.M (.S .n1 .kz) (.S .c .d)) .kg] rfl d7 e.2))))
theorem aEF:@s9 S M N m n:=iY (a9 @s9) ((((S,M),N),m),n) aBR
end
section
variable{l s:UInt64}{δ:Rat}
def zX :Prop:=∀(fl:Ç l) (fs:Ç s) (l0:0<=R l) (Js:R l<=1) (s0:0<=R s) (s1:R s<=1+1/2^54) (h:(R l<=1/2/\δ/2-1/2^54<=R l*R s/\R l*R s<=δ/2+1/2^54)\/(1/2<R l/\δ/2-1/2^54<=(1-R l)*R s/\(1-R l)*R s<=δ/2+1/2^54)),Nr (m9 l s) (R l+δ/2) (16/2^54)
def fO:=gZ (bA (bA @zX))
theorem aEG:@zX fO.1.1 fO.1.2 fO.2:= by
 intro fl fs l0 Js s0 s1 h;refine xa l1 λo1 o2=>?_;refine xa lh λv1 v2=>?_;unfold m9;refine O (QW fl v1) (O v2 ?_)
 by_cases hc:R fO.1.1<=1/2
 ·simp only[hc,decide_true,if_true];rcases h with⟨-,h1,h2⟩|⟨h0,-⟩
  ·refine bS (j5 o1 fs (M:=4) ⟨2,by decide,rfl⟩ (by refine O o2 ?_;push_cast;exact Æ (.l (.G .n4) (.A .n1 .a)) [.l .n0 .a] rfl s0) (by refine O o2 ?_;push_cast;exact Æ (.l (.A .n1 .a) .n4) [.l .a (.A .n1 .kg)] rfl s1)) λa1 a2 a3 bc=>?_;clear bc;rw[o2] at a2 a3;push_cast at a2 a3;generalize add 0x3ff0000000000000 fO.1.2=q at*;have e:=gI l0 Js (x:=R q-(1+R fO.1.2)) (e:=4/2^54) (Ï (.l (.G .ky) (.S .a (.A .n1 .b))) [.l (.S (.A .n1 .b) .ky) .a] rfl a2) (Ï (.l (.S .a (.A .n1 .b)) .ky) [.l .a (.A (.A .n1 .b) .ky)] rfl a3);have e':=gI l0 Js (x:=R fO.1.2) (e:=2) (Æ (.l (.G .n2) .a) [.l .n0 .a] rfl s0) (Æ (.l .a .n2) [.l .a (.A .n1 .kg)] rfl s1);refine bS (iM fl a1 (M:=4) ⟨2,by decide,rfl⟩ (by push_cast;exact Ó (.l (.G .n4) .kc) [.l .n0 .a,.l (.G .ky) (.M .a (.S .b (.A .n1 .c))),.l (.G .n2) (.M .a .c)] rfl l0 e.1 e'.1) (by push_cast;exact Ó (.l .kc .n4) [.l .a .n1,.l (.M .a (.S .b (.A .n1 .c))) .ky,.l (.M .a .c) .n2] rfl Js e.2 e'.2)) λb1 b2 b3 bc=>?_;clear bc;push_cast at b2 b3;exact(ß b1 (ð (.l (.S (.A .a .kD) (.E 16)) .c) [.l (.S .kD .kg) (.M .a .d),.l (.G .ky) (.M .a (.S .e (.A .n1 .d))),.l (.S (.M .a .e) .ky) .c] rfl h1 e.1 b2) (ð (.l .a (.A (.A .b (.D .c .n2)) (.E 16))) [.l (.M .b .d) (.A (.D .c .n2) .kg),.l (.M .b (.S .e (.A .n1 .d))) .ky,.l .a (.A (.M .b .e) .ky)] rfl h2 e.2 b3))
  ·grind
 ·simp only[hc,decide_false,bw,if_false];rcases h with⟨h0,-⟩|⟨-,h1,h2⟩
  ·exact absurd h0 hc
  ·have e':=gI l0 Js (x:=R fO.1.2) (e:=3/2) (Æ (.l (.G .kB) .a) [.l .n0 .a] rfl s0) (Æ (.l .a .kB) [.l .a (.A .n1 .kg)] rfl s1);refine bS (j5 fl fs (M:=4) ⟨2,by decide,rfl⟩ (by push_cast;exact Ï (.l (.G .n4) .kb) [.l .n0 .a,.l .n0 .b] rfl l0 s0) (by push_cast;exact Ï (.l .kb .n4) [.l .a .n1,.l .b (.A .n1 .kg)] rfl Js s1)) λa1 a2 a3 bc=>?_;clear bc;push_cast at a2 a3;refine bS (iM fl fs (M:=2) ⟨1,by decide,rfl⟩ (by push_cast;exact Ï (.l (.G .n2) .kc) [.l (.G .kB) .kc] rfl e'.1) (by push_cast;exact Ï (.l .kc .n2) [.l .kc .kB] rfl e'.2)) λb1 b2 b3 bc=>?_;clear bc;push_cast at b2 b3;generalize add fO.1.1 fO.1.2=q at*;generalize mul fO.1.1 fO.1.2=q' at*;refine bS (iW a1 b1 (M:=8) ⟨3,by decide,rfl⟩ (by push_cast;exact á (.l (.G .n8) .ka) [.l .n0 .c,.l .n0 .d,.l .kv .kB,.l (.S (.A .c .d) .ky) .a,.l .b (.A .kv (.E 2))] rfl l0 s0 e'.2 a2 b3) (by push_cast;exact á (.l .ka .n8) [.l .c .n1,.l .d (.A .n1 .kg),.l (.G .kB) .kv,.l .a (.A (.A .c .d) .ky),.l (.S .kv (.E 2)) .b] rfl Js s1 e'.1 a3 b2)) λc1 c2 c3 bc=>?_;clear bc;push_cast at c2 c3;exact(ß c1 (Ŋ (.l (.S (.A .a .kD) (.E 16)) .c) [.l (.S .kD .kg) (.M (.S .n1 .a) .d),.l (.S (.A .a .d) .ky) .e,.l .f (.A (.M .a .d) (.E 2)),.l (.S (.S .e .f) (.E 8)) .c] rfl h1 a2 b3 c2) (Ŋ (.l .a (.A (.A .b (.D .c .n2)) (.E 16))) [.l (.M (.S .n1 .b) .d) (.A (.D .c .n2) .kg),.l .e (.A (.A .b .d) .ky),.l (.S (.M .b .d) (.E 2)) .f,.l .a (.A (.S .e .f) (.E 8))] rfl h2 a3 b2 c3))
theorem aFO:@zX l s δ:=iY (bA (bA @zX)) ((l,s),δ) aEG
theorem aFP{m2:UInt64}(fl:Ç l) (l0:0<=R l) (Js:R l<=1) (d0:0<=δ) (d1:δ<=1) (h:Nr m2 (R l+δ/2) (16/2^54)):
  Nr (ae (mul 0x4000000000000000 l) m2) (R l-δ/2) (32/2^54):= by
 refine xa l2 λo1 o2=>?_;refine Ē h λh1 h2 h3=>?_;clear h;refine bS (iM o1 fl (M:=4) ⟨2,by decide,rfl⟩ (by refine O o2 ?_;push_cast;exact Æ (.l (.G .n4) (.M .n2 .a)) [.L 2 .n0 .a] rfl l0) (by refine O o2 ?_;push_cast;exact Æ (.l (.M .n2 .a) .n4) [.L 2 .a .n1] rfl Js)) λb1 b2 b3 bc=>?_;clear bc;rw[o2] at b2 b3;push_cast at b2 b3;generalize mul 0x4000000000000000 l=q at*;refine bS (iW b1 h1 (M:=4) ⟨2,by decide,rfl⟩ (by push_cast;exact á (.L 2 (.G .n4) .ka) [.L 2 .n0 .c,.l .d .n1,.L 2 .b (.A (.A .c (.D .d .n2)) (.E 16)),.L 2 (.S (.M .n2 .c) .ky) .a] rfl l0 d1 h3 b2) (by push_cast;exact á (.L 2 .ka .n4) [.L 2 .c .n1,.l .n0 .d,.L 2 (.S (.A .c (.D .d .n2)) (.E 16)) .b,.L 2 .a (.A (.M .n2 .c) .ky)] rfl Js d0 h2 b3)) λc1 c2 c3 bc=>?_;clear bc;push_cast at c2 c3;exact(ß c1 (ð (.l (.S (.S .a .kD) .kx) .c) [.l .d (.A (.A .a .kD) (.E 16)),.l (.S (.M .n2 .a) .ky) .e,.l (.S (.S .e .d) .ky) .c] rfl h3 b2 c2) (ð (.l .a (.A (.S .b (.D .c .n2)) .kx)) [.l (.S (.A .b (.D .c .n2)) (.E 16)) .d,.l .e (.A (.M .n2 .b) .ky),.l .a (.A (.S .e .d) .ky)] rfl h2 b3 c3))
end
section
variable{m1 m2 u:UInt64}{N δ:Rat}
def zY :Prop:=∀(h1:Nr m1 N (32/2^54)) (h2:Nr m2 (N+δ) (16/2^54)) (n0:0<=N) (n1:N<=1) (d0:0<=δ) (d1:N+δ<=1) (fu:Ç u) (u0:0<=R u) (u1:R u<=1+1/2^52),Nr (vF m1 m2 u) (N+δ*b6 (6*R u)) (1024/2^54)
def cV:=gZ (a9 @zY)
theorem aEH:@zY cV.1.1.1.1 cV.1.1.1.2 cV.1.1.2 cV.1.2 cV.2:= by
 intro h1 h2 n0 n1 d0 d1 fu u0 u1;refine Ē h1 λf1 a1 b1=>?_;clear h1;refine Ē h2 λf2 a2 b2=>?_;clear h2;refine xa l16 λc1 c2=>?_;refine xa lh λe1 e2=>?_;refine xa l23 λg1 g2=>?_;refine xa l6 λs1 s2=>?_;unfold vF;refine O (QX fu c1) (O (QX fu e1) (O (QX fu g1) (O c2 (O e2 (O g2 ?_)))));refine bS (iW f2 f1 (M:=2) ⟨1,by decide,rfl⟩ (by push_cast;exact á (.l (.G .n2) .ka) [.l .n0 .c,.l .b (.A .d .kx),.l (.S (.A .d .c) (.E 16)) .a] rfl d0 b1 a2) (by push_cast;exact á (.l .ka .n2) [.l .n0 .c,.l (.A .c .d) .n1,.l (.S .c .kx) .b,.l .a (.A (.A .c .d) (.E 16))] rfl n0 d1 a1 b2)) λx1 x2 x3 bc=>?_;clear bc;push_cast at x2 x3;generalize hU:R cV.1.1.2=U at*
 by_cases k1:U<6004799503160661/2^55
 ·simp only[k1,decide_true,if_true];have hg:b6 (6*U)=6*U:=ş (Æ (.l .n0 .kj) [.L 6 .n0 .a] rfl u0) (Æ (.l .kj .n1) [.T 6 .a (.D .km (.P .n2 55))] rfl k1);refine O hg ?_;generalize ae cV.1.1.1.2 cV.1.1.1.1=D at*;have p1:=gI (v:=U) u0 (Æ (.l .a .n1) [.t .a (.D .km (.P .n2 55))] rfl k1) (x:=R D-cV.2) (e:=50/2^54) (ð (.l (.G (.E 50)) .ka) [.l .c (.A .d .kx),.l (.S (.A .d .b) (.E 16)) .e,.l (.S (.S .e .c) (.E 2)) .a] rfl b1 a2 x2) (ð (.l .ka (.E 50)) [.l (.S .c .kx) .d,.l .e (.A (.A .c .b) (.E 16)),.l .a (.A (.S .e .d) (.E 2))] rfl a1 b2 x3);have p2:=gI (v:=U) u0 (Æ (.l .a .n1) [.t .a (.D .km (.P .n2 55))] rfl k1) (x:=R D) (e:=2) (ð (.l (.G .n2) .a) [.l .n0 .b,.l .c (.A .d .kx),.l (.S (.A .d .b) (.E 16)) .e,.l (.S (.S .e .c) (.E 2)) .a] rfl d0 b1 a2 x2) (ð (.l .a .n2) [.l .n0 .b,.l .kw .n1,.l (.S .b .kx) .d,.l .e (.A .kw (.E 16)),.l .a (.A (.S .e .d) (.E 2))] rfl n0 d1 a1 b2 x3);refine bS (iM x1 fu (M:=2) ⟨1,by decide,rfl⟩ (by refine O hU ?_;push_cast;exact Ï (.l (.G .n2) .kc) [.l (.G .n2) (.M .b .a)] rfl p2.1) (by refine O hU ?_;push_cast;exact Ï (.l .kc .n2) [.l (.M .b .a) .n2] rfl p2.2)) λy1 y2 y3 bc=>?_;clear bc;rw[hU] at y2 y3;push_cast at y2 y3;generalize mul D cV.1.1.2=E at*;refine bS (iM y1 s1 (M:=16) ⟨4,by decide,rfl⟩ (by refine O s2 ?_;push_cast;exact Ó (.l (.G (.N 16)) (.M .a .n6)) [.L 6 (.G .n2) .ki,.L 6 (.S (.M .c .b) (.E 2)) .a] rfl p2.1 y2) (by refine O s2 ?_;push_cast;exact Ó (.l (.M .a .n6) (.N 16)) [.L 6 .ki .n2,.L 6 .a (.A (.M .c .b) (.E 2))] rfl p2.2 y3)) λz1 z2 z3 bc=>?_;clear bc;rw[s2] at z2 z3;push_cast at z2 z3;generalize mul E 0x4018000000000000=G at*;have p3:=gI (v:=U) u0 (by grind) (x:=cV.2) (e:=1) (Æ (.l .kt .a) [.l .n0 .a] rfl d0) (Ï (.l .a .n1) [.l .n0 .b,.l (.A .b .a) .n1] rfl n0 d1);refine bS (j5 f1 z1 (M:=32) ⟨5,by decide,rfl⟩ (by push_cast;exact Ŋ (.l (.G (.N 32)) .kb) [.l .n0 .c,.l (.S .c .kx) .a,.L 6 (.G .n2) (.M .d .e),.L 6 (.S (.M .e .d) (.E 2)) .f,.l (.S (.M .f .n6) (.E 16)) .b] rfl n0 a1 p2.1 y2 z2) (by push_cast;exact Ŋ (.l .kb (.N 32)) [.l .c .n1,.l .a (.A .c .kx),.L 6 (.M .d .e) .n2,.L 6 .f (.A (.M .e .d) (.E 2)),.l .b (.A (.M .f .n6) (.E 16))] rfl n1 b1 p2.2 y3 z3)) λw1 w2 w3 bc=>?_;clear bc;push_cast at w2 w3;exact(ß w1 (Đ [_,_,_,_,_,_,_,_] (.l (.S (.A .a (.M .b (.M .n6 .c))) (.E 1024)) .d) [.l (.S .a .kx) .e,.L 6 (.G (.E 50)) (.M .c (.S .f .b)),.L 6 (.S (.M .f .c) (.E 2)) .g,.l (.S (.M .g .n6) (.E 16)) .h,.l (.S (.A .e .h) .kx) .d] rfl a1 p1.1 y2 z2 w2) (Đ [_,_,_,_,_,_,_,_] (.l .a (.A (.A .b (.M .c (.M .n6 .d))) (.E 1024))) [.l .e (.A .b .kx),.L 6 (.M .d (.S .f .c)) (.E 50),.L 6 .g (.A (.M .f .d) (.E 2)),.l .h (.A (.M .g .n6) (.E 16)),.l .a (.A (.A .e .h) .kx)] rfl b1 p1.2 y3 z3 w3))
 ·simp only[k1,decide_false,bw,if_false]
  by_cases k2:U<1/2
  ·simp only[k2,decide_true,if_true];have hg:1-6/2^54<=b6 (6*U)/\b6 (6*U)<=1:= by
    by_cases q:6*U<=1
    ·exact O (ş (by exact Æ (.l .n0 .kj) [.L 6 .n0 .a] rfl u0) q) ⟨by exact Æ (.l (.S .n1 (.E 6)) .kj) [.L 6 (.D .km (.P .n2 55)) .a] rfl (mf.mp k1),q⟩
    ·exact O (ŋ (ay (jc.mp q)) (Æ (.l .kj .n3) [.T 6 .a (.D .n1 .n2)] rfl k2)) ⟨by exact æ (.l (.S .n1 (.E 6)) .n1) [] rfl,by exact fj⟩
   have p:=gI d0 (Ï (.l .a .n1) [.l .n0 .b,.l (.A .b .a) .n1] rfl n0 d1) (x:=b6 (6*U)-1) (e:=6/2^54) (Æ (.l (.G (.E 6)) (.S .a .n1)) [.l (.S .n1 (.E 6)) .a] rfl hg.1) (Æ (.l (.S .a .n1) (.E 6)) [.l .a .n1] rfl hg.2);exact(ß f2 (á (.l (.S (.A .a .ki) (.E 1024)) .d) [.l (.S .kb (.E 16)) .d,.l (.M .b (.S .c .n1)) (.E 6)] rfl a2 p.2) (á (.l .a (.A (.A .b .kv) (.E 1024))) [.l .a (.A .kw (.E 16)),.l (.G (.E 6)) (.M .c (.S .d .n1))] rfl b2 p.1))
  ·simp only[k2,decide_false,bw,if_false]
   by_cases k3:U<6004799503160661/2^53
   ·simp only[k3,decide_true,if_true];have hg:b6 (6*U)=4-6*U:=Ũ (Æ (.l .n3 .kj) [.L 6 (.D .n1 .n2) .a] rfl (mf.mp k2)) (Æ (.l .kj .n4) [.T 6 .a (.D .km .ke)] rfl k3);refine O hg ?_;generalize ae cV.1.1.1.2 cV.1.1.1.1=D at*;refine bS (iW g1 fu (M:=1) ⟨0,by decide,rfl⟩ (by refine O hU (O g2 ?_);push_cast;exact Æ (.l .kt (.S (.D .km .ke) .a)) [.l .a .kd] rfl u1) (by refine O hU (O g2 ?_);push_cast;exact Æ (.l (.S (.D .km .ke) .a) .n1) [.l .n0 .a] rfl u0)) λq1 q2 q3 bc=>?_;clear bc;rw[hU,g2] at q2 q3;push_cast at q2 q3;generalize ae 0x3fe5555555555555 cV.1.1.2=T at*;have hT:2/3-U-3/2^54<=R T/\R T<=2/3-U+3/2^54:=⟨by exact Ï (.l (.S (.S (.D .n2 .n3) .a) (.E 3)) .b) [.l (.S (.S (.D .km .ke) .a) .kg) .b] rfl q2,by exact Ï (.l .a (.A (.S (.D .n2 .n3) .b) (.E 3))) [.l .a (.A (.S (.D .km .ke) .b) .kg)] rfl q3⟩;have p1:=oQ (v:=R T) (Ï (.l (.G .n2) .a) [.l .b .kd,.l (.S (.S (.D .n2 .n3) .b) (.E 3)) .a] rfl u1 hT.1) (Ï (.l .a .n2) [.l .n0 .b,.l .a (.A (.S (.D .n2 .n3) .b) (.E 3))] rfl u0 hT.2) (x:=R D-cV.2) (e:=50/2^54) (ð (.l (.G (.E 50)) .ka) [.l .c (.A .d .kx),.l (.S (.A .d .b) (.E 16)) .e,.l (.S (.S .e .c) (.E 2)) .a] rfl b1 a2 x2) (ð (.l .ka (.E 50)) [.l (.S .c .kx) .d,.l .e (.A (.A .c .b) (.E 16)),.l .a (.A (.S .e .d) (.E 2))] rfl a1 b2 x3);have p2:=oQ (v:=R T) (Ï (.l (.G .n2) .a) [.l .b .kd,.l (.S (.S (.D .n2 .n3) .b) (.E 3)) .a] rfl u1 hT.1) (Ï (.l .a .n2) [.l .n0 .b,.l .a (.A (.S (.D .n2 .n3) .b) (.E 3))] rfl u0 hT.2) (x:=R D) (e:=2) (ð (.l (.G .n2) .a) [.l .n0 .b,.l .c (.A .d .kx),.l (.S (.A .d .b) (.E 16)) .e,.l (.S (.S .e .c) (.E 2)) .a] rfl d0 b1 a2 x2) (ð (.l .a .n2) [.l .n0 .b,.l .kw .n1,.l (.S .b .kx) .d,.l .e (.A .kw (.E 16)),.l .a (.A (.S .e .d) (.E 2))] rfl n0 d1 a1 b2 x3);have p4:=gI d0 (by grind) (x:=R T-(2/3-U)) (e:=3/2^54) (Ï (.l (.G (.E 3)) (.S .a (.S (.D .n2 .n3) .b))) [.l (.S (.S (.D .n2 .n3) .b) (.E 3)) .a] rfl hT.1) (Ï (.l (.S .a (.S (.D .n2 .n3) .b)) (.E 3)) [.l .a (.A (.S (.D .n2 .n3) .b) (.E 3))] rfl hT.2);refine bS (iM x1 q1 (M:=4) ⟨2,by decide,rfl⟩ (by push_cast;exact Ï (.l (.G .n4) .kc) [.l (.G (.M .n2 .n2)) (.M .b .a)] rfl p2.1) (by push_cast;exact Ï (.l .kc .n4) [.l (.M .b .a) (.M .n2 .n2)] rfl p2.2)) λy1 y2 y3 bc=>?_;clear bc;push_cast at y2 y3;generalize mul D T=E at*;refine bS (iM y1 s1 (M:=32) ⟨5,by decide,rfl⟩ (by refine O s2 ?_;push_cast;exact Ó (.l (.G (.N 32)) (.M .a .n6)) [.L 6 (.G (.M .n2 .n2)) .ki,.L 6 (.S (.M .c .b) .ky) .a] rfl p2.1 y2) (by refine O s2 ?_;push_cast;exact Ó (.l (.M .a .n6) (.N 32)) [.L 6 .ki (.M .n2 .n2),.L 6 .a (.A (.M .c .b) .ky)] rfl p2.2 y3)) λz1 z2 z3 bc=>?_;clear bc;rw[s2] at z2 z3;push_cast at z2 z3;generalize mul E 0x4018000000000000=G at*;have p3:=oQ (v:=2/3-U) (Æ (.l (.G .n2) (.S (.D .n2 .n3) .a)) [.l .a .kd] rfl u1) (Æ (.l (.S (.D .n2 .n3) .a) .n2) [.l .n0 .a] rfl u0) (x:=cV.2) (e:=1) (Æ (.l .kt .a) [.l .n0 .a] rfl d0) (by grind);refine bS (j5 f1 z1 (M:=32) ⟨5,by decide,rfl⟩ (by push_cast;exact Ŋ (.l (.G (.N 32)) .kb) [.l .n0 .c,.l (.S .c .kx) .a,.L 6 (.G (.M .n2 .n2)) (.M .d .e),.L 6 (.S (.M .e .d) .ky) .f,.l (.S (.M .f .n6) .kx) .b] rfl n0 a1 p2.1 y2 z2) (by push_cast;exact Ŋ (.l .kb (.N 32)) [.l .c .n1,.l .a (.A .c .kx),.L 6 (.M .d .e) (.M .n2 .n2),.L 6 .f (.A (.M .e .d) .ky),.l .b (.A (.M .f .n6) .kx)] rfl n1 b1 p2.2 y3 z3)) λw1 w2 w3 bc=>?_;clear bc;push_cast at w2 w3;exact(ß w1 (Đ [_,_,_,_,_,_,_,_,_] (.l (.S (.A .a (.M .b (.S .n4 (.M .n6 .c)))) (.E 1024)) .d) [.l (.S .a .kx) .e,.L 6 (.G (.M .n2 (.E 50))) (.M .f (.S .g .b)),.L 6 (.G (.E 3)) (.M .b (.S .f (.S (.D .n2 .n3) .c))),.L 6 (.S (.M .g .f) .ky) .h,.l (.S (.M .h .n6) .kx) .i,.l (.S (.A .e .i) .kx) .d] rfl a1 p1.1 p4.1 y2 z2 w2) (Đ [_,_,_,_,_,_,_,_,_] (.l .a (.A (.A .b (.M .c (.S .n4 (.M .n6 .d)))) (.E 1024))) [.l .e (.A .b .kx),.L 6 (.M .f (.S .g .c)) (.M .n2 (.E 50)),.L 6 (.M .c (.S .f (.S (.D .n2 .n3) .d))) (.E 3),.L 6 .h (.A (.M .g .f) .ky),.l .i (.A (.M .h .n6) .kx),.l .a (.A (.A .e .i) .kx)] rfl b1 p1.2 p4.2 y3 z3 w3))
   ·simp only[k3,decide_false,bw,if_false];have hg:0<=b6 (6*U)/\b6 (6*U)<=12/2^54:= by
     by_cases q:6*U<=4
     ·exact O (Ũ (by exact Æ (.l .n3 .kj) [.L 6 (.D .n1 .n2) .a] rfl (mf.mp k2)) q) ⟨by exact Æ (.l .n0 (.S .n4 .kj)) [.l .kj .n4] rfl q,by exact Æ (.l (.S .n4 .kj) (.E 12)) [.L 6 (.D .km .ke) .a] rfl (mf.mp k3)⟩
     ·exact O (ň (ay (jc.mp q))) ⟨by exact fj,by exact æ (.l .n0 (.E 12)) [] rfl⟩
    have p:=gI d0 (by grind) (x:=b6 (6*U)) (e:=12/2^54) (Æ (.l (.G (.E 12)) .a) [.l .n0 .a] rfl hg.1) (hg.2);exact(ß f1 (á (.l (.S (.A .a .ki) (.E 1024)) .d) [.l (.S .a .kx) .d,.l .ki (.E 12)] rfl a1 p.2) (á (.l .a (.A (.A .b .kv) (.E 1024))) [.l .a (.A .b .kx),.l (.G (.E 12)) .kv] rfl b1 p.1))
theorem aBS:@zY m1 m2 u N δ:=iY (a9 @zY) ((((m1,m2),u),N),δ) aEH
end
theorem E5 (d0:0<=δ) (d1:δ<=1) (h:Nr x (N+δ*g) (1024/2^54)) (h0:g'-e<=g) (h1:g<=g'+e) (he:e<=3072/2^54):Nr x (N+δ*g') (4096/2^54):= by
 refine Ē h λf a b=>?_;clear h;have p:=gI d0 d1 (x:=g-g') (e:=e) (Ó (.l (.G .a) .kq) [.l (.S .c .a) .b] rfl h0) (Ó (.l .ka .c) [.l .a .kw] rfl h1);exact(ß f (Ŋ (.l (.S (.A .a .ki) (.E 4096)) .d) [.l .e (.E 3072),.l (.S (.A .a (.M .b .f)) (.E 1024)) .d,.l (.G .e) (.M .b (.S .f .c))] rfl he a p.1) (Ŋ (.l .a (.A (.A .b .kv) (.E 4096))) [.l .e (.E 3072),.l .a (.A (.A .b (.M .c .f)) (.E 1024)),.l (.M .c (.S .f .d)) .e] rfl he b p.2))
def pR{F:Fn}{h l s:UInt64}{δ:Rat}{k:Nat} :Prop:=∀(hF:∀m1 m2 u:UInt64,F k [.flt m1,.flt m2,.flt u]=J (.flt (vF m1 m2 (cw u one).2))) (fh:Ç h) (h0:-1<=R h) (h1:R h<=2) (fl:Ç l) (fs:Ç s) (n0:0<=R l-δ/2) (n1:R l+δ/2<=1) (d0:0<δ) (s0:0<R s) (s1:R s<=1+1/2^54) (hw:(R l<=1/2/\δ/2-1/2^54<=R l*R s/\R l*R s<=δ/2+1/2^54)\/(1/2<R l/\δ/2-1/2^54<=(1-R l)*R s/\(1-R l)*R s<=δ/2+1/2^54)),∃c,dP F (Co.bH k) [.flt h,.flt l,.flt s]=J (.tup c)/\∃(u:Rat) (m:Int),0<=u/\u<6/\ŧ c (R l-δ/2) δ u (4096/2^54)/\6*R h-6*m-1024/2^54<=u/\u<=6*R h-6*m+1024/2^54
def bT:=gZ (a9 (bA @pR))
def iR:=bT.1.1.1.1.2
theorem WS:@pR bT.1.1.1.1.1 iR bT.1.1.1.2 bT.1.1.2 bT.1.2 bT.2:= by
 intro hF fh h0 h1 fl fs n0 n1 d0 s0 s1 hw;have hs:Ă bT.1.1.2 0=Wv:= by
  unfold Ă;refine O (mZ fs l0.1) (O l0.2 ?_);split
  ·rfl
  ·refine O (if_neg ((Dh (s0)).symm)) ?_;rfl
 refine(Ö _ (WM hs hF) ?_);have Gq:=aFO (δ:=bT.1.2) fl fs (Ï (.L 2 .n0 .a) [.L 2 .n0 (.S .a .kD),.t .n0 .b] rfl n0 d0) (Ï (.L 2 .a .n1) [.L 2 (.A .a .kD) .n1,.t .n0 .b] rfl n1 d0) (ay s0) s1 hw;have ID:=aFP (δ:=bT.1.2) fl (Ï (.L 2 .n0 .a) [.L 2 .n0 (.S .a .kD),.t .n0 .b] rfl n0 d0) (Ï (.L 2 .a .n1) [.L 2 (.A .a .kD) .n1,.t .n0 .b] rfl n1 d0) (ay d0) (Ï (.l .a .n1) [.l .n0 (.S .b (.D .a .n2)),.l (.A .b (.D .a .n2)) .n1] rfl n0 n1) Gq;generalize m9 bT.1.1.1.2 bT.1.1.2=m2 at*;generalize ae (mul 0x4000000000000000 bT.1.1.1.2) m2=m1 at*;refine xa l13 λt1 t2=>?_;refine bS (j5 fh t1 (M:=4) ⟨2,by decide,rfl⟩ (by refine O t2 ?_;push_cast;exact Æ (.l (.G .n4) (.A .a (.E 6004799503160661))) [.l .kt .a] rfl h0) (by refine O t2 ?_;push_cast;exact Æ (.l (.A .a (.E 6004799503160661)) .n4) [.l .a .n2] rfl h1)) λa1 a2 a3 bc=>?_;clear bc;refine bS (iW fh t1 (M:=4) ⟨2,by decide,rfl⟩ (by refine O t2 ?_;push_cast;exact Æ (.l (.G .n4) (.S .a (.E 6004799503160661))) [.l .kt .a] rfl h0) (by refine O t2 ?_;push_cast;exact Æ (.l (.S .a (.E 6004799503160661)) .n4) [.l .a .n2] rfl h1)) λb1 b2 b3 bc=>?_;clear bc;rw[t2] at a2 a3 b2 b3;push_cast at a2 a3 b2 b3;generalize add iR 0x3fd5555555555555=hr at*;generalize ae iR 0x3fd5555555555555=hb at*;refine oZ (pK fh) λp1 p2 n p3 p4 p5 p6 bc=>?_;clear bc;refine oZ (pK a1) λq1 q2 nr q3 q4 q5 q6 bc=>?_;clear bc;refine oZ (pK b1) λr1 r2 nb r3 r4 r5 r6 bc=>?_;clear bc;have e2:R bT.1.1.1.2+bT.1.2/2=(R bT.1.1.1.2-bT.1.2/2)+bT.1.2:=by exact Ï (.e (.A .a .kD) (.A (.S .a .kD) .b)) [] rfl
 rw[e2] at Gq;have vg:=aBS ID Gq n0 (Ï (.l (.S .a .kD) .n1) [.l (.A .a .kD) .n1,.t .n0 .b] rfl n1 d0) (ay d0) (Ï (.l (.A (.S .a .kD) .b) .n1) [.l (.A .a .kD) .n1] rfl n1) p1 p2 (Ó (.l .a .kd) [.l .a (.A .kq .kg),.t .kq .n1] rfl p4 p6);have vr:=aBS ID Gq n0 (Ï (.l (.S .a .kD) .n1) [.l (.A .a .kD) .n1,.t .n0 .b] rfl n1 d0) (by grind) (Ï (.l (.A (.S .a .kD) .b) .n1) [.l (.A .a .kD) .n1] rfl n1) q1 q2 (Ó (.l .a .kd) [.l .a (.A .kq .kg),.t .kq .n1] rfl q4 q6);have vb:=aBS ID Gq n0 (by grind) (by grind) (by grind) r1 r2 (by grind);generalize (cw iR one).2=ug at*;generalize (cw hr one).2=ur at*;generalize (cw hb one).2=ub at*;generalize vF m1 m2 ug=xg at*;generalize vF m1 m2 ur=xr at*;generalize vF m1 m2 ub=xb at*;clear ID Gq hw hF hs;refine(cM (6*(R iR-n)) n (Ï (.l .n0 (.M .n6 .ka)) [.L 6 .n0 .ka] rfl p5) (Ï (.t (.M .n6 .ka) .n6) [.T 6 .ka .n1] rfl p6) (cO _ _ _ rfl ?_ ?_ ?_) ⟨(Ï (.l (.S (.S .kj (.M .n6 .b)) (.E 1024)) (.M .n6 .ka)) [] rfl),(Ï (.l (.M .n6 .ka) (.A (.S .kj (.M .n6 .b)) (.E 1024))) [] rfl)⟩)
 ·refine xa (WP (u:=6*(R iR-n)) (w:=6*R ur) (j:=nr-n) (e:=64/2^54) (Ï (.l .n0 (.M .n6 .ka)) [.L 6 .n0 .ka] rfl p5) (Ï (.t (.M .n6 .ka) .n6) [.T 6 .ka .n1] rfl p6) (Æ (.l (.G (.E 64)) .kj) [.L 6 .n0 .a] rfl q2) (Ó (.l .kj (.A .n6 (.E 64))) [.T 6 .kq .n1,.L 6 .a (.A .kq .kg)] rfl q6 q4) (æ (.l .n0 (.E 64)) [] rfl) (æ (.l (.E 64) .kr) [] rfl) (by push_cast;exact ð (.l (.S (.S (.A (.M .n6 .ka) .n2) (.M .n6 (.S .c .b))) (.E 64)) (.M .n6 .d)) [.L 6 (.S (.A .a (.E 6004799503160661)) .ky) .e,.L 6 (.S (.S .e .c) .kg) .d] rfl a2 q3) (by push_cast;exact ð (.l .kj (.A (.S (.A (.M .n6 .kq) .n2) (.M .n6 (.S .d .c))) (.E 64))) [.L 6 .e (.A (.A .b (.E 6004799503160661)) .ky),.L 6 .a (.A (.S .e .d) .kg)] rfl a3 q4)) λz1 z2=>?_;exact E5 (by grind) (Ï (.l .a .n1) [.l .n0 (.S .b (.D .a .n2)),.l (.A .b (.D .a .n2)) .n1] rfl n0 n1) vr (e:=128/2^54) (Ï (.l (.S .a (.E 128)) .b) [.l (.S .a (.M .n2 (.E 64))) .b] rfl z1) (Ï (.l .a (.A .b (.E 128))) [.l .a (.A .b (.M .n2 (.E 64)))] rfl z2) (æ (.l (.E 128) (.E 3072)) [] rfl)
 ·refine xa (J9 (u:=6*(R iR-n)) (w:=6*R ug) (e:=64/2^54) (æ (.l .n0 (.E 64)) [] rfl) (Ó (.l (.S (.M .n6 .ka) (.E 64)) (.M .n6 .c)) [.L 6 (.S .ka .kg) .c] rfl p3) (Ó (.l .kj (.A (.M .n6 .kq) (.E 64))) [.L 6 .a (.A .kq .kg)] rfl p4)) λz1 z2=>?_;exact E5 (by grind) (by grind) vg (e:=64/2^54) (z1) (z2) (æ (.l (.E 64) (.E 3072)) [] rfl)
 ·refine xa (QU (u:=6*(R iR-n)) (w:=6*R ub) (j:=nb-n) (e:=64/2^54) (by grind) (by grind) (Æ (.l (.G (.E 64)) .kj) [.L 6 .n0 .a] rfl r2) (Ó (.l .kj (.A .n6 (.E 64))) [.T 6 .kq .n1,.L 6 .a (.A .kq .kg)] rfl r6 r4) (by grind) (æ (.l (.E 64) .kr) [] rfl) (by push_cast;exact ð (.l (.S (.S (.S (.M .n6 .ka) .n2) (.M .n6 (.S .c .b))) (.E 64)) (.M .n6 .d)) [.L 6 (.S (.S .a (.E 6004799503160661)) .ky) .e,.L 6 (.S (.S .e .c) .kg) .d] rfl b2 r3) (by push_cast;exact ð (.l .kj (.A (.S (.S (.M .n6 .kq) .n2) (.M .n6 (.S .d .c))) (.E 64))) [.L 6 .e (.A (.S .b (.E 6004799503160661)) .ky),.L 6 .a (.A (.S .e .d) .kg)] rfl b3 r4)) λz1 z2=>?_;exact E5 (by grind) (by grind) vb (e:=128/2^54) (Ï (.l (.S .a (.E 128)) .b) [.l (.S .a (.M .n2 (.E 64))) .b] rfl z1) (Ï (.l .a (.A .b (.E 128))) [.l .a (.A .b (.M .n2 (.E 64)))] rfl z2) (æ (.l (.E 128) (.E 3072)) [] rfl)
theorem aBT:@pR F h l s δ k:=iY (a9 (bA @pR)) (((((F,h),l),s),δ),k) WS
noncomputable def ï (Z A B C:Int):Nat->Int×Int×Int
 |0=>(A,B,C)
 |t+1=>(Z-(ï Z A B C t).2.1,Z-(ï Z A B C t).2.2,Z-(ï Z A B C t).1)
theorem QY:ï Z A B C (t+1)=(Z-(ï Z A B C t).2.1,Z-(ï Z A B C t).2.2,Z-(ï Z A B C t).1):=rfl
theorem jI (hd:N<M) (h0:N<=X) (h1:X<=M):∃q:Rat,((X-N:Int):Rat)/((M-N:Int):Rat)=q/\0<=q/\q<=1/\(X:Rat)=(N:Rat)+((M-N:Int):Rat)*q:= by
 have dpos:(0:Rat)<((M-N:Int):Rat):= by
  have:=bn.mpr (lf hd)
  exact_mod_cast this
 refine(Ö _ rfl ?_);refine xa (kW (n:=X-N) (m:=M-N) (lb h0) (rh h1 N) (lf hd)) λu1 u2=>?_;refine(ß u1 u2 ?_);have:((X-N:Int):Rat)/((M-N:Int):Rat)*((M-N:Int):Rat)=((X-N:Int):Rat):=ğ dpos;clear u1 u2;generalize ((X-N:Int):Rat)/((M-N:Int):Rat)=Q at*;push_cast at this⊢;exact á (.e .a (.A .b (.M (.S .c .b) .d))) [.e .ka (.M .d (.S .c .b))] rfl this.symm
theorem rG (N M:Int):(M:Rat)=(N:Rat)+((M-N:Int):Rat)*1:=by push_cast;exact Ï (.e .a (.A .b (.M .ka .n1))) [] rfl
theorem oR (N:Int) (d:Rat):(N:Rat)=(N:Rat)+d*0:=by exact Ï (.e .a (.A .a (.M .b .n0))) [] rfl
theorem rH (e:((X-N:Int):Rat)/((M-N:Int):Rat)=q) (h:Y=N):((Y-X:Int):Rat)/((M-N:Int):Rat)=-q:= by
 refine aFZ e (O h ?_);push_cast;grind
theorem rI (e:((X-N:Int):Rat)/((M-N:Int):Rat)=q) (h:Y=N):((X-Y:Int):Rat)/((M-N:Int):Rat)=q:=by exact aFZ e (O h rfl)
def Ň (A B C N M:Int) (hue:Rat):Prop:=∃(w:Rat) (j:Int),0<=w/\w<6/\w=hue-6*j/\(A:Rat)=(N:Rat)+((M-N:Int):Rat)*dQ w/\(B:Rat)=(N:Rat)+((M-N:Int):Rat)*b6 w/\(C:Rat)=(N:Rat)+((M-N:Int):Rat)*f6 w
theorem Ň.mk' {A B C N M:Int}{hue w a b c:Rat}(j:Int) (w0:0<=w) (w1:w<6) (hw:w=hue-6*j) (ha:dQ w=a) (hb:b6 w=b) (hc:f6 w=c) (h1:(A:Rat)=(N:Rat)+((M-N:Int):Rat)*a) (h2:(B:Rat)=(N:Rat)+((M-N:Int):Rat)*b) (h3:(C:Rat)=(N:Rat)+((M-N:Int):Rat)*c):Ň A B C N M hue:=
 (cM w j w0 w1 hw (ß (by exact O ha h1) (by refine O hb ?_;exact h2) (by exact O hc h3)))
theorem m0 (x:Rat):x=x-6*((0:Int):Rat):=by push_cast;exact Æ (.e .a (.S .a (.M .n6 .n0))) [] rfl
section
variable{A B C N M:Int}
theorem aBU (hd:N<M) (hA:A=M) (hB:N<=B/\B<=M) (hC:N<=C/\C<=M) (n:B=N\/C=N):Ň A B C N M (((B-C:Int):Rat)/((M-N:Int):Rat)):= by
 subst hA
 by_cases Mf:C=N
 ·refine cH (jI hd hB.1 hB.2) λq e q0 q1 h=>?_;refine O (rI e Mf) ?_;exact .mk' 0 q0 (Æ (.t .a .n6) [.l .a .n1] rfl q1) (m0 q) (Δ q1) (ş q0 q1) (ū (Æ (.l .a .n2) [.l .a .n1] rfl q1)) (rG N A) h (by exact O Mf (oR N _))
 ·have Pm:B=N:=n.resolve_right Mf;refine cH (jI hd hC.1 hC.2) λq e q0 q1 h=>?_;have hq:q≠0:=λhq=>Mf (by rw[hq] at h;exact Az.mp (h.trans (oR N _).symm));refine O (rH e Pm) ?_;exact .mk' (w:=6-q) (-1) (Æ (.l .n0 (.S .n6 .a)) [.l .a .n1] rfl q1) (by grind) (by push_cast;exact Æ (.e (.S .n6 .a) (.S (.G .a) (.M .n6 .kt))) [] rfl) (Α (Æ (.l .n5 (.S .n6 .a)) [.l .a .n1] rfl q1)) (ň (Æ (.l .n4 (.S .n6 .a)) [.l .a .n1] rfl q1)) ((θ (Æ (.l .n5 (.S .n6 .a)) [.l .a .n1] rfl q1) (Æ (.l (.S .n6 .a) .n6) [.l .n0 .a] rfl q0)).trans (Æ (.e (.S .n6 (.S .n6 .a)) .a) [] rfl:6-(6-q)=q)) (rG N A) (by exact O Pm (oR N _)) h
theorem QZ (hd:N<M) (hB:B=M) (hA:N<=A/\A<=M) (hC:N<=C/\C<=M) (n:A=N\/C=N):Ň A B C N M (2+((C-A:Int):Rat)/((M-N:Int):Rat)):= by
 subst hB
 by_cases Mf:C=N
 ·refine cH (jI hd hA.1 hA.2) λq e q0 q1 h=>?_;refine O (rH e Mf) ?_;exact .mk' (w:=2-q) 0 (Æ (.l .n0 (.S .n2 .a)) [.l .a .n1] rfl q1) (Æ (.t (.S .n2 .a) .n6) [.l .n0 .a] rfl q0) (by push_cast;exact Æ (.e (.S .n2 .a) (.S (.A .n2 (.G .a)) (.M .n6 .n0))) [] rfl) ((Χ (Æ (.l .n1 (.S .n2 .a)) [.l .a .n1] rfl q1) (Æ (.l (.S .n2 .a) .n2) [.l .n0 .a] rfl q0)).trans (Æ (.e (.S .n2 (.S .n2 .a)) .a) [] rfl:2-(2-q)=q)) (ŋ (Æ (.l .n1 (.S .n2 .a)) [.l .a .n1] rfl q1) (Æ (.l (.S .n2 .a) .n3) [.l .n0 .a] rfl q0)) (ū (Æ (.l (.S .n2 .a) .n2) [.l .n0 .a] rfl q0)) h (rG N B) (by exact O Mf (oR N _))
 ·have Nt:A=N:=n.resolve_right Mf;refine cH (jI hd hC.1 hC.2) λq e q0 q1 h=>?_;refine O (rI e Nt) ?_;exact .mk' (w:=2+q) 0 (Æ (.l .n0 (.A .n2 .a)) [.l .n0 .a] rfl q0) (Æ (.t (.A .n2 .a) .n6) [.l .a .n1] rfl q1) (m0 _) (Ş (Æ (.l .n2 (.A .n2 .a)) [.l .n0 .a] rfl q0) (Æ (.l (.A .n2 .a) .n4) [.l .a .n1] rfl q1)) (ŋ (Æ (.l .n1 (.A .n2 .a)) [.l .n0 .a] rfl q0) (Æ (.l (.A .n2 .a) .n3) [.l .a .n1] rfl q1)) ((ω (Æ (.l .n2 (.A .n2 .a)) [.l .n0 .a] rfl q0) (Æ (.l (.A .n2 .a) .n3) [.l .a .n1] rfl q1)).trans (Æ (.e (.S (.A .n2 .a) .n2) .a) [] rfl:2+q-2=q)) (by exact O Nt (oR N _)) (rG N B) h
theorem WT (hd:N<M) (hC:C=M) (hA:N<=A/\A<=M) (hB:N<=B/\B<=M) (n:A=N\/B=N):Ň A B C N M (4+((A-B:Int):Rat)/((M-N:Int):Rat)):= by
 subst hC
 by_cases Nt:A=N
 ·refine cH (jI hd hB.1 hB.2) λq e q0 q1 h=>?_;refine O (rH e Nt) ?_;exact .mk' (w:=4-q) 0 (Æ (.l .n0 (.S .n4 .a)) [.l .a .n1] rfl q1) (Æ (.t (.S .n4 .a) .n6) [.l .n0 .a] rfl q0) (by push_cast;exact Æ (.e (.S .n4 .a) (.S (.A .n4 (.G .a)) (.M .n6 .n0))) [] rfl) (Ş (Æ (.l .n2 (.S .n4 .a)) [.l .a .n1] rfl q1) (Æ (.l (.S .n4 .a) .n4) [.l .n0 .a] rfl q0)) ((Ũ (Æ (.l .n3 (.S .n4 .a)) [.l .a .n1] rfl q1) (Æ (.l (.S .n4 .a) .n4) [.l .n0 .a] rfl q0)).trans (Æ (.e (.S .n4 (.S .n4 .a)) .a) [] rfl:4-(4-q)=q)) (Ű (Æ (.l .n3 (.S .n4 .a)) [.l .a .n1] rfl q1) (Æ (.l (.S .n4 .a) .n5) [.l .n0 .a] rfl q0)) (by exact O Nt (oR N _)) h (rG N C)
 ·have Pm:B=N:=n.resolve_left Nt;refine cH (jI hd hA.1 hA.2) λq e q0 q1 h=>?_;refine O (rI e Pm) ?_;exact .mk' (w:=4+q) 0 (Æ (.l .n0 (.A .n4 .a)) [.l .n0 .a] rfl q0) (Æ (.t (.A .n4 .a) .n6) [.l .a .n1] rfl q1) (m0 _) ((Β (Æ (.l .n4 (.A .n4 .a)) [.l .n0 .a] rfl q0) (Æ (.l (.A .n4 .a) .n5) [.l .a .n1] rfl q1)).trans (Æ (.e (.S (.A .n4 .a) .n4) .a) [] rfl:4+q-4=q)) (ň (Æ (.l .n4 (.A .n4 .a)) [.l .n0 .a] rfl q0)) (Ű (Æ (.l .n3 (.A .n4 .a)) [.l .n0 .a] rfl q0) (Æ (.l (.A .n4 .a) .n5) [.l .a .n1] rfl q1)) h (by exact O Pm (oR N _)) (rG N C)
end
theorem Q0 (hd:aL A B C<aE A B C):Ň A B C (aL A B C) (aE A B C) (lU A B C):= by
 refine bS (bE A B C) λm1 m2 m3 m4=>?_;refine bS (dA A B C) λn1 n2 n3 n4=>?_;unfold lU;generalize aE A B C=M at*;generalize aL A B C=N at*
 by_cases hA:A=M
 ·refine O (if_pos hA) (aBU hd hA ⟨n2,m2⟩ ⟨n3,m3⟩ ?_);rcases n4 with e|e|e
  ·exact absurd (e.trans hA) (sd hd)
  ·exact .inl e.symm
  ·exact .inr e.symm
 ·refine O (if_neg hA) ?_
  by_cases hB:B=M
  ·refine O (if_pos hB) (QZ hd hB ⟨n1,m1⟩ ⟨n3,m3⟩ ?_);rcases n4 with e|e|e
   ·exact .inl e.symm
   ·exact absurd (e.trans hB) (sd hd)
   ·exact .inr e.symm
  ·refine O (if_neg hB) ?_;have hC:C=M:= by
    rcases m4 with e|e|e
    ·exact absurd e.symm hA
    ·exact absurd e.symm hB
    ·exact e.symm
   refine WT hd hC ⟨n1,m1⟩ ⟨n2,m2⟩ ?_;rcases n4 with e|e|e
   ·exact .inl e.symm
   ·exact .inr e.symm
   ·exact absurd (e.trans hC) (sd hd)
theorem WU{A B C:Int}(hd:aL A B C<aE A B C) (t:Nat):∃(w:Rat) (j:Int),0<=w/\w<6/\w=lU A B C+(t:Rat)-6*j/\
  ((ï (aE A B C+aL A B C) A B C t).1:Rat)=(aL A B C:Rat)+((aE A B C-aL A B C:Int):Rat)*dQ w/\
  ((ï (aE A B C+aL A B C) A B C t).2.1:Rat)=(aL A B C:Rat)+((aE A B C-aL A B C:Int):Rat)*b6 w/\
  ((ï (aE A B C+aL A B C) A B C t).2.2:Rat)=(aL A B C:Rat)+((aE A B C-aL A B C:Int):Rat)*f6 w:= by
 induction t with
 |zero=>
  refine dK (Q0 hd) λw j h0 h1 h2 h3=>?_;exact(cM w j h0 h1 (by refine O h2 ?_;push_cast;exact Ï (.e (.S .a (.M .n6 .b)) (.S (.A .a .n0) (.M .n6 .b))) [] rfl) h3)
 |succ t ih=>
  refine lC ih λw j h0 h1 h2 h3 zt=>?_;refine xa zt λh4 h5=>?_;clear zt;refine Ē (QT h0 h1 rfl) λs1 s2 s3=>?_;have hj:∃j':Int,(if w<5 then w+1 else w-5)=lU A B C+((t+1:Nat):Rat)-6*j':= by
   by_cases h:w<5
   ·refine O (if_pos h) ?_;exact⟨j,by refine O h2 ?_;push_cast;exact Ó (.e (.A (.S .kb (.M .n6 .c)) .n1) (.S (.A .a (.A .b .n1)) (.M .n6 .c))) [] rfl⟩
   ·refine O (if_neg h) ?_;exact⟨j+1,by refine O h2 ?_;push_cast;exact Ó (.e (.S (.S .kb (.M .n6 .c)) .n5) (.S (.A .a (.A .b .n1)) (.M .n6 (.A .c .n1)))) [] rfl⟩
  refine xe hj λj' hj=>?_;refine(cM _ j' ?_ ?_ hj (ß ?_ ?_ ?_))
  ·split<;>grind
  ·split<;>grind
  ·refine O s1 ?_;dsimp only[QY];push_cast;refine O h4 ?_;push_cast;exact Ó (.e (.S .kb (.A .b (.M .ka .c))) (.A .b (.M .ka (.S .n1 .c)))) [] rfl
  ·refine O s2 ?_;dsimp only[QY];push_cast;refine O h5 ?_;push_cast;exact Ó (.e (.S .kb (.A .b (.M .ka .c))) (.A .b (.M .ka (.S .n1 .c)))) [] rfl
  ·refine O s3 ?_;dsimp only[QY];push_cast;refine O h3 ?_;push_cast;exact Ó (.e (.S .kb (.A .b (.M .ka .c))) (.A .b (.M .ka (.S .n1 .c)))) [] rfl
theorem CJ{S:Nat}(hS:(1:Rat)<=(S:Rat)){A B C:Int}(hd:aL A B C<aE A B C){t:Nat}{l:List PV}{n δ u η e:Rat}{m:Int}(hn:n*S=(aL A B C:Rat)) (hδ:δ*S=((aE A B C-aL A B C:Int):Rat)) (d1:δ<=1)
  (h:ŧ l n δ u η) (u0:0<=u) (u1:u<6) (e0:0<=e) (e1:e<=1/8) (h0:lU A B C+(t:Rat)-6*(m:Rat)-e<=u) (h1:u<=lU A B C+(t:Rat)-6*(m:Rat)+e):
  ∃x y z:UInt64,l=[.flt x,.flt y,.flt z]/\Nr x (((ï (aE A B C+aL A B C) A B C t).1:Rat)/S) (η+e)/\Nr y (((ï (aE A B C+aL A B C) A B C t).2.1:Rat)/S) (η+e)/\Nr z (((ï (aE A B C+aL A B C) A B C t).2.2:Rat)/S) (η+e):= by
 refine lC (WU hd t) λw j w0 w1 h2 h3 zt=>?_;refine xa zt λh4 h5=>?_;clear zt;obtain⟨⟨r1,r2⟩,⟨g1,g2⟩,⟨b1,b2⟩⟩:=J8 (j:=m-j) u0 u1 w0 w1 e0 e1 (by push_cast;exact Đ [_,_,_,_,_,_,_] (.l (.S (.S .a (.M .n6 .kq)) .d) .e) [.l (.S (.S (.A .f .g) (.M .n6 .b)) .d) .e,.e .a (.S (.A .f .g) (.M .n6 .c))] rfl h0 h2) (by push_cast;exact Đ [_,_,_,_,_,_,_] (.l .a (.A (.S .b (.M .n6 (.S .c .d))) .e)) [.l .a (.A (.S (.A .f .g) (.M .n6 .c)) .e),.e (.S (.A .f .g) (.M .n6 .d)) .b] rfl h1 h2.symm);refine b9 h λx y z hl hx hy hz=>?_;clear h;have hp:(0:Rat)<(S:Rat):=by exact ya hS
 have dpos:0<=δ:= by
  refine cT hp ?_;refine O hδ (O (fg ..) ?_);have:=bn.mpr (show(0:Int)<aE A B C-aL A B C by exact ī (.t .n0 .ka) [.t .b .a] rfl hd);have h0:((0:Int):Rat)=0:=rfl;exact Ï (.l .n0 .a) [.t .b .a,.e .n0 .b] rfl this h0.symm
 have key:∀{x:UInt64}{v:Int}{g g':Rat},Nr x (n+δ*g) η->(v:Rat)=(aL A B C:Rat)+((aE A B C-aL A B C:Int):Rat)*g'->g'-e<=g->g<=g'+e->Nr x ((v:Rat)/S) (η+e):= by
  intro x v g g' ⟨f,a,b⟩ hv k1 k2;have ev:(v:Rat)/S=n+δ*g':= by
   refine O hv (aFZ hn (aFZ hδ ?_));have:(n*S+δ*S*g')=(n+δ*g')*S:=by exact á (.e (.A .kc (.M (.M .c .b) .d)) (.M (.A .a .kv) .b)) [] rfl
   refine O this ?_;grind
  refine O ev ?_;have p:=gI dpos d1 (x:=g-g') (e:=e) (Ó (.l (.G .a) .kq) [.l (.S .c .a) .b] rfl k1) (Ó (.l .ka .c) [.l .a .kw] rfl k2);exact⟨f,by exact Đ [_,_,_,_,_,_,_] (.l (.S (.A .a .ki) (.A .d .e)) .f) [.l (.S (.A .a (.M .b .g)) .d) .f,.l (.G .e) (.M .b (.S .g .c))] rfl a p.1,by exact Đ [_,_,_,_,_,_,_] (.l .a (.A (.A .b .kv) (.A .e .f))) [.l .a (.A (.A .b (.M .c .g)) .e),.l (.M .c (.S .g .d)) .f] rfl b p.2⟩
 exact⟨x,y,z,hl,key hx h3 r1 r2,key hy h4 g1 g2,key hz h5 b1 b2⟩
noncomputable def fq (x y:Int):UInt64:=ofFrac (decide (x<0) != decide (y<0)) x.natAbs y.natAbs
theorem kY (x y:Int) (hy:0<y) (h:Ç (fq x y)):iJ .Div (.int x) (.int y)=J (.flt (fq x y)):= by
 show(if _ then _ else _)=_;rw[if_pos]
 ·rfl
 ·refine⟨hy,?_⟩;refine iX h λa m e hd=>?_;clear h;unfold fq at hd;unfold qw;exact O hd rfl
theorem WV (hy:0<y) (p:Pw M) (h:x.natAbs<=y*M):Ç (fq x (y:Int))/\(x:Rat)/(y:Rat)-(M:Rat)/2^54<=R (fq x (y:Int))/\R (fq x (y:Int))<=(x:Rat)/(y:Rat)+(M:Rat)/2^54/\(Dy ((x:Rat)/(y:Rat))->R (fq x (y:Int))=(x:Rat)/(y:Rat)):= by
 have:=QF (n:=x.natAbs) (d:=y) (s:=decide (x<0)) hy p h;rw[EY] at this;unfold fq;have e:(decide (x<0) != decide ((y:Int)<0))=decide (x<0):= by
  have:decide ((y:Int)<0)=Wv:=by rfl
  refine O this ?_;simp
 (refine O e ?_;rw[mj])
 exact this
theorem jR (hS:Sc S) (h:x.natAbs<=2^53):Gr S (fq x (S:Int)) x:= by
 have h0:0<S:=by exact O hS.eq (jb _)
 have hp:(0:Rat)<(S:Rat):=by have:=hS.pos;exact ya this
 refine bS (WV (x:=x) h0 (M:=2^53) ⟨53,by decide,rfl⟩ (aa h (vz _ h0))) λa bc Gf d=>?_;clear bc;clear Gf;have e:(x:Rat)/(S:Rat)*(S:Rat)=x:=ğ (by assumption);refine⟨a,?_⟩;exact O (d (hS.dy e h)) e
structure Hsv (S:Nat) (A B C:Int) (h s v:UInt64):Prop where
 fh:Ç h
 fs:Ç s
 fv:Ç v
 lv:R v*(S:Rat)=((aE A B C:Int):Rat)
 h0:0<=R h
 h1:R h<=1+1/2^52
 hue:∃n:Int,lU A B C-6*n-1/2^49<=6*R h/\6*R h<=lU A B C-6*n+1/2^49
 s0:0<R s
 s1:R s<=1+1/2^54
 w1:((aE A B C-aL A B C:Int):Rat)/(S:Rat)-1/2^54<=R v*R s
 w2:R v*R s<=((aE A B C-aL A B C:Int):Rat)/(S:Rat)+1/2^54
theorem aEI{k d:Int}(hk:1<=k) (hd:0<d) (h:d<=2^50):1/2^50<=(k:Rat)/(d:Rat):= by
 have a0:(0:Rat)<(d:Rat):=by have:=bn.mpr hd;exact_mod_cast this
 have a1:=an.mpr h;have a2:=an.mpr hk;rw[pq] at a1;have a3:(k:Rat)/(d:Rat)*(d:Rat)=(k:Rat):=ğ (by assumption);refine cT a0 ?_;refine O a3 ?_;have:((1:Int):Rat)=1:=rfl;have:((2:Int):Rat)=2:=rfl;grind
section
variable{S:Nat}{r g b:UInt64}{A B C:Int}{F:Fn}
theorem ZE (hS:Sc S) (Hc:S<=2^50) (hr:Gr S r A) (hg:Gr S g B) (hb:Gr S b C) (hA:0<=A/\A<=S) (hB:0<=B/\B<=S) (hC:0<=C/\C<=S) (hd:aL A B C<aE A B C):
  ∃s v,dP F Co.bK [.flt r,.flt g,.flt b]=J (.tup [.flt (pN r g b),.flt s,.flt v])/\Hsv S A B C (pN r g b) s v:= by
 have gM:=x9 hS hr hg hb;have gN:=yA hS hr hg hb;refine bS (bE A B C) λm1 m2 m3 m4=>?_;refine bS (dA A B C) λn1 n2 n3 n4=>?_;have hM:aE A B C<=(S:Int):=m4.elim (λe=>ar (de e) hA.2) λh=>h.elim (λe=>ar (de e) hB.2) λe=>ar (de e) hC.2;have hN:0<=aL A B C:=n4.elim (λe=>ar hA.1 (de e.symm)) λh=>h.elim (λe=>ar hB.1 (de e.symm)) λe=>ar hC.1 (de e.symm);clear m1 m2 m3 m4 n1 n2 n3 n4;have gD:=lT hS gM gN (ú [_,_] [_,_] (.x .q .ke) [.x .r .kh,.l .a .r,.l .n0 .b,.e .q .ka] rfl Hc hM hN (av (Ĭ [_,_] (.l .n0 .ka) [.t .b .a] rfl hd)));have Lj:Ă (ò r g b) (Þ r g b)=Wv:=by refine O (jQ hS gN gM) ?_;simp;exact sd (hd)
 have zM:ck (Þ r g b)=Wv:=by refine O (pM hS gM) ?_;simp;exact iD (od hN hd)
 have zD:ck (ae (Þ r g b) (ò r g b))=Wv:=by refine O (pM hS gD) ?_;simp;exact iD (ī (.t .n0 .ka) [.t .b .a] rfl hd)
 refine bS (E2 hS hr hg hb ⟨hA.1,by exact ú [_] [_] (.l .a .kh) [.x .q .kh,.l .a .q] rfl Hc hA.2⟩ ⟨hB.1,by exact ú [_] [_] (.l .a .kh) [.x .q .kh,.l .a .q] rfl Hc hB.2⟩ ⟨hC.1,by lia⟩ hd) λf1 f2 f3 f4=>?_;refine(lD _ _ (aBF Lj zM zD) ?_);refine bS (vM hS gD gM (ī (.l .n0 .ka) [.t .b .a] rfl hd) (ī (.l .ka .a) [.l .n0 .b] rfl hN) (od hN hd)) λd1 d2 d3 bc=>?_;clear bc;refine xa (kW (n:=aE A B C-aL A B C) (m:=aE A B C) (ī (.l .n0 .ka) [.t .b .a] rfl hd) (by lia) (by lia)) λd4 d5=>?_;have hp:(0:Rat)<(S:Rat):=by have:=hS.pos;exact ya this
 have hl:=aEI (k:=aE A B C-aL A B C) (d:=aE A B C) (ī (.l .n1 .ka) [.t .b .a] rfl hd) (by lia) (ú [_] [_] (.l .a .kh) [.x .q .kh,.l .a .q] rfl Hc hM);have hm:(0:Rat)<((aE A B C:Int):Rat):= by
  have:=bn.mpr (show 0<aE A B C by lia)
  exact_mod_cast this
 have Wa:((aE A B C:Int):Rat)<=(S:Rat):= by
  have:=an.mpr (show aE A B C<=(S:Int) by exact hM)
  exact_mod_cast this
 have e1:R (Þ r g b)*(((aE A B C-aL A B C:Int):Rat)/((aE A B C:Int):Rat))=((aE A B C-aL A B C:Int):Rat)/(S:Rat):= by
  have q1:((aE A B C-aL A B C:Int):Rat)/((aE A B C:Int):Rat)*((aE A B C:Int):Rat)=((aE A B C-aL A B C:Int):Rat):=ie (lu hm);have q2:((aE A B C-aL A B C:Int):Rat)/(S:Rat)*(S:Rat)=((aE A B C-aL A B C:Int):Rat):=ie (lu hp);have q3:=gM.2;generalize ((aE A B C-aL A B C:Int):Rat)/((aE A B C:Int):Rat)=P at*;generalize ((aE A B C-aL A B C:Int):Rat)/(S:Rat)=Q at*;refine fQ hp ?_;exact O q2 (aFZ q1 (aFZ q3 (Ó (.e (.M .kc .c) (.M .b (.M .a .c))) [] rfl)))
 have v0:0<=R (Þ r g b):=cT hp (by exact O gM.2 (O (fg ..) (ay hm)));have v1:R (Þ r g b)<=1:=cT hp (by exact O gM.2 (O (rf ..) Wa));generalize ((aE A B C-aL A B C:Int):Rat)/((aE A B C:Int):Rat)=P at*;have p:=gI v0 v1 (x:=R (div (ae (Þ r g b) (ò r g b)) (Þ r g b))-P) (e:=1/2^54) (Ï (.l (.G .kg) .ka) [.l (.S .b .kg) .a] rfl d2) (Ï (.l .ka .kg) [.l .a (.A .b .kg)] rfl d3);exact⟨f1,d1,gM.1,gM.2,f2,f3,f4,by exact Ï (.t .n0 .a) [.l (.S .b .kg) .a,.l (.D .n1 .kh) .b] rfl d2 hl,by exact Ï (.l .a (.A .n1 .kg)) [.l .a (.A .b .kg),.l .b .n1] rfl d3 d5,by exact á (.l (.S .a .kg) .ki) [.e .a (.M .b .d),.l (.G .kg) (.M .b (.S .c .d))] rfl e1.symm p.1,by exact á (.l .kc (.A .c .kg)) [.e (.M .a .d) .c,.l (.M .a (.S .b .d)) .kg] rfl e1 p.2⟩
theorem Q1 (hS:Sc S) (hr:Gr S r A) (hg:Gr S g A) (hb:Gr S b A):
  ∃v,dP F Co.bK [.flt r,.flt g,.flt b]=J (.tup [.flt 0,.flt 0,.flt v])/\Gr S v A:= by
 have gM:=x9 hS hr hg hb;have gN:=yA hS hr hg hb;have e1:aE A A A=A:=by unfold aE;simp
 have e2:aL A A A=A:=by unfold aL;trivial
 rw[e1] at gM;rw[e2] at gN;exact(Ö _ (aBE (by refine O (jQ hS gN gM) ?_;simp)) gM)
end
theorem KA:dP F Co.bI [.flt h,.flt 0,.flt v]=J (.tup [.flt v,.flt v,.flt v]):=
 WJ (by decide +kernel)
theorem KB:dP F (Co.bH k) [.flt h,.flt l,.flt 0]=J (.tup [.flt l,.flt l,.flt l]):=
 WL (by decide +kernel)
theorem Q2{S:Nat}{A B C:Int}{h h' s v:UInt64}{t:Nat}{F:Fn}{e:Rat}{m:Int}(hS:Sc S) (hx:Hsv S A B C h s v) (hd:aL A B C<aE A B C) (Mg:0<=aL A B C) (Mh:aE A B C<=S)
  (fh:Ç h') (h0:0<=R h') (h1:R h'<=100) (e0:0<=e) (e1:e<=1/2^42) (k0:6*R h+(t:Rat)-6*m-e<=6*R h') (k1:6*R h'<=6*R h+(t:Rat)-6*m+e):
  ∃x y z:UInt64,dP F Co.bI [.flt h',.flt s,.flt v]=J (.tup [.flt x,.flt y,.flt z])/\
   Nr x (((ï (aE A B C+aL A B C) A B C t).1:Rat)/S) (1/2^41)/\Nr y (((ï (aE A B C+aL A B C) A B C t).2.1:Rat)/S) (1/2^41)/\Nr z (((ï (aE A B C+aL A B C) A B C t).2.2:Rat)/S) (1/2^41):= by
 have Ld:=hS.pos;have hp:(0:Rat)<(S:Rat):=by exact ya Ld
 have i0:(0:Rat)<=((aL A B C:Int):Rat):=by have:=an.mpr Mg;exact_mod_cast this
 have i1:((aL A B C:Int):Rat)<((aE A B C:Int):Rat):=bn.mpr hd;have i2:((aE A B C:Int):Rat)<=(S:Rat):=by have:=an.mpr Mh;exact_mod_cast this
 have eD:((aE A B C-aL A B C:Int):Rat)/(S:Rat)*(S:Rat)=((aE A B C-aL A B C:Int):Rat):=ie (lu hp);have hv:=hx.lv;have w1:=hx.w1;have w2:=hx.w2;refine Å hx.hue λn Sq Sr=>?_;generalize ((aE A B C-aL A B C:Int):Rat)/(S:Rat)=δ at*;have eD':=eD;rw[Ax] at eD';have v0:0<=R v:=cT hp (by exact O hv (O (fg ..) (Ï (.l .n0 .a) [.l .n0 .b,.t .b .a] rfl i0 i1)));have v1:R v<=1:=cT hp (by exact O hv (O (rf ..) i2));have d0:0<δ:=fe (c:=(S:Rat)) (by exact O eD' (O (fg ..) (Ï (.t .n0 .ka) [.t .b .a] rfl i1))) (ay hp);have d1:δ<=1:=cT hp (by exact O eD' (O (rf ..) (Ó (.l .ka .c) [.l .n0 .b,.l .a .c] rfl i0 i2)));refine Å (aBQ (F:=F) fh hx.fv hx.fs h0 h1 v0 v1 d0 d1 hx.s0 hx.s1 w1 w2) λl hl zt=>?_;refine lC zt λu m' u0 u1 hh u2 u3=>?_;clear zt;refine b9 (CJ (S:=S) Ld hd (t:=t) (n:=R v-δ) (δ:=δ) (e:=1/2^41-32/2^54) (m:=m+m'+n) (ð (.e (.M .ka .c) .d) [.e (.M .a .c) .e,.e (.S .e .d) .ki] rfl hv eD'.symm) eD d1 hh u0 u1 (æ (.l .n0 (.S (.D .n1 (.P .n2 41)) .kx)) [] rfl) (æ (.l (.S (.D .n1 (.P .n2 41)) .kx) .kr) [] rfl) (by push_cast;exact Đ [_,_,_,_,_,_,_,_,_] (.l (.S (.S .kb (.M .n6 (.A (.A .c .d) .e))) (.S (.D .n1 (.P .n2 41)) .kx)) .f) [.l .g (.D .n1 (.P .n2 42)),.l (.S (.S (.A (.M .n6 .h) .b) (.M .n6 .c)) .g) (.M .n6 .i),.l (.S (.S .a (.M .n6 .e)) (.D .n1 (.P .n2 49))) (.M .n6 .h),.l (.S (.S (.M .n6 .i) (.M .n6 .d)) (.E 1024)) .f] rfl e1 k0 Sq u2) (by push_cast;exact Đ [_,_,_,_,_,_,_,_,_] (.l .a (.A (.S .kw (.M .n6 (.A (.A .d .e) .f))) (.S (.D .n1 (.P .n2 41)) .kx))) [.l .g (.D .n1 (.P .n2 42)),.l (.M .n6 .h) (.A (.S (.A (.M .n6 .i) .c) (.M .n6 .d)) .g),.l (.M .n6 .i) (.A (.S .b (.M .n6 .f)) (.D .n1 (.P .n2 49))),.l .a (.A (.S (.M .n6 .h) (.M .n6 .e)) (.E 1024))] rfl e1 k1 Sr u3)) λx y z bc Iw Lc Pn=>?_;subst bc;have e3:(32/2^54+(1/2^41-32/2^54):Rat)=1/2^41:=by exact æ (.e (.A .kx (.S (.D .n1 (.P .n2 41)) .kx)) (.D .n1 (.P .n2 41))) [] rfl
 rw[e3] at Iw Lc Pn;exact(cO x y z hl Iw Lc Pn)
structure Hls (S:Nat) (A B C:Int) (h l s:UInt64):Prop where
 fh:Ç h
 fl:Ç l
 fs:Ç s
 lv:R l=(((aE A B C:Int):Rat)/(S:Rat)+((aL A B C:Int):Rat)/(S:Rat))/2
 h0:0<=R h
 h1:R h<=1+1/2^52
 hue:∃n:Int,lU A B C-6*n-1/2^49<=6*R h/\6*R h<=lU A B C-6*n+1/2^49
 s0:0<R s
 s1:R s<=1+1/2^54
 w:(R l<=1/2/\(((aE A B C:Int):Rat)/(S:Rat)-((aL A B C:Int):Rat)/(S:Rat))/2-1/2^54<=R l*R s/\R l*R s<=(((aE A B C:Int):Rat)/(S:Rat)-((aL A B C:Int):Rat)/(S:Rat))/2+1/2^54)\/
  (1/2<R l/\(((aE A B C:Int):Rat)/(S:Rat)-((aL A B C:Int):Rat)/(S:Rat))/2-1/2^54<=(1-R l)*R s/\(1-R l)*R s<=(((aE A B C:Int):Rat)/(S:Rat)-((aL A B C:Int):Rat)/(S:Rat))/2+1/2^54)
section
variable{S:Nat}{r g b:UInt64}{A B C:Int}{F:Fn}
def lV :Prop:=∀(hS:Sc S) (Hc:S<=2^50) (hr:Gr S r A) (hg:Gr S g B) (hb:Gr S b C) (hA:0<=A/\A<=S) (hB:0<=B/\B<=S) (hC:0<=C/\C<=S) (hd:aL A B C<aE A B C),∃l s,dP F Co.bJ [.flt r,.flt g,.flt b]=J (.tup [.flt (pN r g b),.flt l,.flt s])/\Hls S A B C (pN r g b) l s
def aP:=gZ (a9 (bA (bA (bA @lV))))
def ê:=aP.1.1.1.1.1.1.1
def fR:=aP.1.1.1.1.1.1.2
def fS:=aP.1.1.1.1.1.2
def fT:=aP.1.1.1.1.2
theorem KC:@lV ê fR fS fT aP.1.1.1.2 aP.1.1.2 aP.1.2 aP.2:= by
 intro hS Hc hr hg hb hA hB hC hd;have gM:=x9 hS hr hg hb;have gN:=yA hS hr hg hb;refine bS (bE aP.1.1.1.2 aP.1.1.2 aP.1.2) λm1 m2 m3 m4=>?_;refine bS (dA aP.1.1.1.2 aP.1.1.2 aP.1.2) λn1 n2 n3 n4=>?_;have hM:aE aP.1.1.1.2 aP.1.1.2 aP.1.2<=(ê:Int):=m4.elim (λe=>ar (de e) hA.2) λh=>h.elim (λe=>ar (de e) hB.2) λe=>ar (de e) hC.2;have hN:0<=aL aP.1.1.1.2 aP.1.1.2 aP.1.2:=n4.elim (λe=>ar hA.1 (de e.symm)) λh=>h.elim (λe=>ar hB.1 (de e.symm)) λe=>ar hC.1 (de e.symm);clear m1 m2 m3 m4 n1 n2 n3 n4;have gD:=lT hS gM gN (ú [_,_] [_,_] (.x .q .ke) [.x .r .kh,.l .a .r,.l .n0 .b,.e .q .ka] rfl Hc hM hN (av (Ĭ [_,_] (.l .n0 .ka) [.t .b .a] rfl hd)));have Lj:Ă (ò fR fS fT) (Þ fR fS fT)=Wv:=by refine O (jQ hS gN gM) ?_;simp;exact sd (hd)
 have zD:ck (ae (Þ fR fS fT) (ò fR fS fT))=Wv:=by refine O (pM hS gD) ?_;simp;exact iD (ī (.t .n0 .ka) [.t .b .a] rfl hd)
 refine bS (E2 hS hr hg hb ⟨hA.1,by exact ú [_] [_] (.l .a .kh) [.x .q .kh,.l .a .q] rfl Hc hA.2⟩ ⟨hB.1,by exact ú [_] [_] (.l .a .kh) [.x .q .kh,.l .a .q] rfl Hc hB.2⟩ ⟨hC.1,by exact ú [_] [_] (.l .a .kh) [.x .q .kh,.l .a .q] rfl Hc hC.2⟩ hd) λf1 f2 f3 f4=>?_;obtain⟨⟨Js,Ss⟩,z1',z2',s1,s2,s3,s4⟩:=aEF hS gM gN (by omega) hd (by omega) (ú [_,_] [_] (.t .kb (.M .n2 .q)) [.t .b .a,.L 2 .a .q] rfl hd hM) Hc;refine(lD _ _ (aBH Lj zD (λQo=>z1' (by rw[QW Js lh.1,lh.2] at Qo;simpa using Qo)) (λ_=>z2')) ?_);have hp:(0:Rat)<(ê:Rat):=by have:=hS.pos;exact ya this
 have eM:R (Þ fR fS fT)=((aE aP.1.1.1.2 aP.1.1.2 aP.1.2:Int):Rat)/(ê:Rat):= by
  refine fQ hp ?_;exact O gM.2 ((ie (lu hp)).symm)
 have eN:R (ò fR fS fT)=((aL aP.1.1.1.2 aP.1.1.2 aP.1.2:Int):Rat)/(ê:Rat):= by
  refine fQ hp ?_;exact O gN.2 ((ie (lu hp)).symm)
 rw[<-Ss] at s4;rw[eM,eN] at Ss s4;exact⟨f1,Js,s1,Ss,f2,f3,f4,s2,s3,s4⟩
theorem Q3:@lV S r g b A B C F:=iY (a9 (bA (bA (bA @lV)))) (((((((S,r),g),b),A),B),C),F) KC
theorem Q4 (hS:Sc S) (hr:Gr S r A) (hg:Gr S g A) (hb:Gr S b A) (hA:0<=A/\A<=2^50):
  ∃v,dP F Co.bJ [.flt r,.flt g,.flt b]=J (.tup [.flt 0,.flt v,.flt 0])/\Gr S v A:= by
 have gM:=x9 hS hr hg hb;have gN:=yA hS hr hg hb;have e1:aE A A A=A:=by unfold aE;simp
 have e2:aL A A A=A:=by unfold aL;trivial
 rw[e1] at gM;rw[e2] at gN;refine(Ö _ (aBG (by refine O (jQ hS gN gM) ?_;simp)) ?_);have gS:=QN hS gM gN (ú [_] [_] (.x .q .ke) [.L 2 .a .kh,.e .q (.A .a .a)] rfl hA.2 (av (Ĭ [_] (.l .n0 (.A .a .a)) [.L 2 .n0 .a] rfl hA.1)));refine xa l2 λt1 t2=>?_;have Ld:=hS.pos;have hp:(0:Rat)<(S:Rat):=by exact ya Ld
 have h0:((0:Int):Rat)<=((A+A:Int):Rat):=an.mpr (ez1 (.l .n0 (.A .a .a)) [.L 2 .n0 .a] rfl hA.1);have Wb:((0:Int):Rat)=0:=rfl;have Wc:((A+A:Int):Rat)<=((2^51:Int):Rat):=an.mpr (ez1 (.l (.A .a .a) (.P .n2 51)) [.L 2 .a .kh] rfl hA.2);rw[pq] at Wc;have h2:((2:Int):Rat)=2:=rfl;have Ii:0<=R (add (Þ r g b) (ò r g b)):=cT hp (by exact O gS.2 (O (fg ..) (Ï (.l .n0 .a) [.l .b .a,.e .n0 .b] rfl h0 Wb.symm)));have Wd:R (add (Þ r g b) (ò r g b))<=2^52:=iP Ld (æ (.l .n0 (.P .n2 52)) [] rfl) (by refine O gS.2 ?_;grind);have gS2:=gS.2;refine bS (CF gS.1 t1 (by exact O t2 (æ (.t .n0 .n2) [] rfl)) (M:=2^53) ⟨53,by decide,rfl⟩ (by refine O t2 ?_;push_cast;exact Æ (.l (.G (.M (.N 9007199254740992) .n2)) .a) [.l .n0 .a] rfl Ii) (by refine O t2 ?_;push_cast;exact Æ (.l .a (.M (.N 9007199254740992) .n2)) [.l .a (.P .n2 52)] rfl Wd)) λq1 bc Gf q4=>?_;clear bc;clear Gf;rw[t2] at q4;have Tt:R (add (Þ r g b) (ò r g b))/2*(S:Rat)=(A:Rat):=by push_cast at gS2;exact Ó (.U 2 (.M (.D .a .n2) .b) .c) [.e .kc (.A .c .c)] rfl gS2
 exact⟨q1,by exact O (q4 (hS.dy Tt (ú [_] [_] (.x .q .ke) [.l .a .kh,.e .q .a] rfl hA.2 (av (Ĭ [_] (.l .n0 .a) [.l .n0 .a] rfl hA.1))))) Tt⟩
end
theorem Q5{S:Nat}{A B C:Int}{h h' l s:UInt64}{t k:Nat}{F:Fn}{e:Rat}{m:Int}(hF:∀m1 m2 u:UInt64,F k [.flt m1,.flt m2,.flt u]=J (.flt (vF m1 m2 (cw u one).2)))
  (hS:Sc S) (hx:Hls S A B C h l s) (hd:aL A B C<aE A B C) (Mg:0<=aL A B C) (Mh:aE A B C<=S)
  (fh:Ç h') (h0:-1<=R h') (h1:R h'<=2) (e0:0<=e) (e1:e<=1/2^42) (k0:6*R h+(t:Rat)-6*m-e<=6*R h') (k1:6*R h'<=6*R h+(t:Rat)-6*m+e):
  ∃x y z:UInt64,dP F (Co.bH k) [.flt h',.flt l,.flt s]=J (.tup [.flt x,.flt y,.flt z])/\
   Nr x (((ï (aE A B C+aL A B C) A B C t).1:Rat)/S) (1/2^40)/\Nr y (((ï (aE A B C+aL A B C) A B C t).2.1:Rat)/S) (1/2^40)/\Nr z (((ï (aE A B C+aL A B C) A B C t).2.2:Rat)/S) (1/2^40):= by
 have Ld:=hS.pos;have hp:(0:Rat)<(S:Rat):=by exact ya Ld
 have i0:(0:Rat)<=((aL A B C:Int):Rat):=by have:=an.mpr Mg;exact_mod_cast this
 have i1:((aL A B C:Int):Rat)<((aE A B C:Int):Rat):=bn.mpr hd;have i2:((aE A B C:Int):Rat)<=(S:Rat):=by have:=an.mpr Mh;exact_mod_cast this
 have eM:((aE A B C:Int):Rat)/(S:Rat)*(S:Rat)=((aE A B C:Int):Rat):=ğ (by assumption);have eN:((aL A B C:Int):Rat)/(S:Rat)*(S:Rat)=((aL A B C:Int):Rat):=ğ (by assumption);have hv:=hx.lv;have w:=hx.w;refine Å hx.hue λn Sq Sr=>?_;generalize ((aE A B C:Int):Rat)/(S:Rat)=μ at*;generalize ((aL A B C:Int):Rat)/(S:Rat)=ν at*;have n0:0<=ν:=cT hp (by exact O eN (O (fg ..) i0));have m1:μ<=1:=cT hp (by exact O eM (O (rf ..) i2));have nm:ν<μ:=fe (c:=(S:Rat)) (by exact O eM (O eN i1)) (ay hp);refine Å (aBT (δ:=μ-ν) hF fh h0 h1 hx.fl hx.fs (Ó (.l .n0 (.S .a (.D .kq .n2))) [.e (.D .kw .n2) .a,.l .n0 .c] rfl hv.symm n0) (Ó (.l (.A .a (.D .kq .n2)) .n1) [.e .a (.D .kw .n2),.l .b .n1] rfl hv m1) (Ï (.t .n0 .ka) [.t .b .a] rfl nm) hx.s0 hx.s1 w) λc hl zt=>?_;refine lC zt λu m' u0 u1 hh u2 u3=>?_;clear zt;refine b9 (CJ (S:=S) Ld hd (t:=t) (n:=R l-(μ-ν)/2) (δ:=μ-ν) (e:=1/2^40-4096/2^54) (m:=m+m'+n) (by grind) (by push_cast;exact ð (.e (.M .ka .c) (.S .d .e)) [.e (.M .a .c) .d,.e .e .ki] rfl eM eN.symm) (Ï (.l .ka .n1) [.l .n0 .b,.l .a .n1] rfl n0 m1) hh u0 u1 (æ (.l .n0 (.S (.D .n1 .ku) (.E 4096))) [] rfl) (æ (.l (.S (.D .n1 .ku) (.E 4096)) .kr) [] rfl) (by push_cast;exact Đ [_,_,_,_,_,_,_,_,_] (.l (.S (.S .kb (.M .n6 (.A (.A .c .d) .e))) (.S (.D .n1 .ku) (.E 4096))) .f) [.l .g (.D .n1 (.P .n2 42)),.l (.S (.S (.A (.M .n6 .h) .b) (.M .n6 .c)) .g) (.M .n6 .i),.l (.S (.S .a (.M .n6 .e)) (.D .n1 (.P .n2 49))) (.M .n6 .h),.l (.S (.S (.M .n6 .i) (.M .n6 .d)) (.E 1024)) .f] rfl e1 k0 Sq u2) (by push_cast;exact Đ [_,_,_,_,_,_,_,_,_] (.l .a (.A (.S .kw (.M .n6 (.A (.A .d .e) .f))) (.S (.D .n1 .ku) (.E 4096)))) [.l .g (.D .n1 (.P .n2 42)),.l (.M .n6 .h) (.A (.S (.A (.M .n6 .i) .c) (.M .n6 .d)) .g),.l (.M .n6 .i) (.A (.S .b (.M .n6 .f)) (.D .n1 (.P .n2 49))),.l .a (.A (.S (.M .n6 .h) (.M .n6 .e)) (.E 1024))] rfl e1 k1 Sr u3)) λx y z bc Iw Lc Pn=>?_;subst bc;have e3:(4096/2^54+(1/2^40-4096/2^54):Rat)=1/2^40:=by exact æ (.e (.A (.E 4096) (.S (.D .n1 .ku) (.E 4096))) (.D .n1 .ku)) [] rfl
 rw[e3] at Iw Lc Pn;exact(cO x y z hl Iw Lc Pn)
theorem Q6{i:Int}(h:i.natAbs<=2^53):ķ i=Wu:= by
 obtain⟨⟨a,m,e,hd⟩,-⟩:=j6 h
 delta ķ qw
 refine O hd ?_;rfl
theorem vQ{S:Nat}(hS:1<=S) (Hc:S<=2^28){x:UInt64}{V:Int}(h0:0<=V) (h1:V<=S) (h:Nr x ((V:Rat)/S) (1/2^40)):
  ċ .int [.flt (add (mul (au (S:Int)) x) 0x3fe0000000000000)]=J (.int V):= by
 refine Ē h λf a b=>?_;clear h;refine xa (j6 (i:=(S:Int)) (en2 (.x .q .ke) [.x .r (.P .n2 28),.e .q .r] rfl Hc (av (ean [_] (.l .n0 .q) [] rfl)))) λs1 s2=>?_;have Ld:(1:Rat)<=(S:Rat):=by exact_mod_cast hS
 have hp:(0:Rat)<(S:Rat):=by exact ya Ld
 have Qq:(S:Rat)<=2^28:= by
  have:=lw.mpr Hc;rw[Rat.natCast_pow] at this
  exact_mod_cast this
 have Kj:(0:Rat)<=(V:Rat):=by have:=an.mpr h0;exact_mod_cast this
 have Tu:(V:Rat)<=(S:Rat):=by have:=an.mpr h1;exact_mod_cast this
 have e1:(V:Rat)/S*S=V:=ğ (by assumption);generalize (V:Rat)/S=q at*;have s3:R (au (S:Int))=(S:Rat):=by refine O s2 ?_;push_cast;rfl
 have hx:=cu a (ay hp);have Iw:=cu b (ay hp);have p1:(S:Rat)*R x<=(V:Rat)+1/2^12:=by exact á (.L 1099511627776 .kc (.A .c .ko)) [.l .a (.P .n2 28),.U 1099511627776 (.M .d .a) .c,.L 1099511627776 (.M .b .a) (.M (.A .d (.D .n1 .ku)) .a)] rfl Qq e1 Iw
 have p2:(V:Rat)-1/2^12<=(S:Rat)*R x:=by exact á (.L 1099511627776 (.S .a .ko) .ki) [.l .b (.P .n2 28),.U 1099511627776 .a (.M .d .b),.L 1099511627776 (.M (.S .d (.D .n1 .ku)) .b) (.M .c .b)] rfl Qq e1.symm hx
 refine bS (iM s1 f (M:=2^30) ⟨30,by decide,rfl⟩ (by refine O s3 ?_;push_cast;exact Ó (.l (.G (.N 1073741824)) .kc) [.l .n0 .c,.l (.S .c .ko) .kc] rfl Kj p2) (by refine O s3 ?_;push_cast;exact Ó (.l .kc (.N 1073741824)) [.l .a (.P .n2 28),.l .c .a,.l .kc (.A .c .ko)] rfl Qq Tu p1)) λm1 m2 m3 bc=>?_;clear bc;rw[s3] at m2 m3;push_cast at m2 m3;refine xa lh λt1 t2=>?_;refine bS (j5 m1 t1 (M:=2^30) ⟨30,by decide,rfl⟩ (by refine O t2 ?_;push_cast;exact á (.l (.G (.N 1073741824)) (.A .a (.D .n1 .n2))) [.l .n0 .b,.l (.S .b .ko) .kv,.l (.S .kv (.E 1073741824)) .a] rfl Kj p2 m2) (by refine O t2 ?_;push_cast;exact á (.l (.A .a (.D .n1 .n2)) (.N 1073741824)) [.l .b (.P .n2 28),.l .c .b,.l (.M .b .d) (.A .c .ko),.l .a (.A (.M .b .d) (.E 1073741824))] rfl Qq Tu p1 m3)) λc1 c2 c3 bc=>?_;clear bc;rw[t2] at c2 c3;push_cast at c2 c3;exact aBP c1 V h0 (ð (.l .a .b) [.l (.S .a .ko) .kv,.l (.S .kv (.E 1073741824)) .e,.l (.S (.A .e (.D .n1 .n2)) (.E 1073741824)) .b] rfl p2 m2 c2) (ð (.t .a (.A .b .n1)) [.l .kv (.A .b .ko),.l .e (.A .kv (.E 1073741824)),.l .a (.A (.A .e (.D .n1 .n2)) (.E 1073741824))] rfl p1 m3 c3)
noncomputable def sx (l:List Nat):Str:=⟨l.toArray⟩
theorem kH (l:List Nat):(sx l).length=l.length:=by rfl
theorem oS (l:List Nat):(sx l).cps.toList=l:=by simp[sx]
theorem aBV (h:sx a=sx b):a=b:=by exact aFZ (oS a) (O h (O (oS ..) rfl))
theorem aBW (x:Str):sx x.cps.toList=x:=by cases x;simp[sx]
theorem E6 (a b:List Nat):sx a++sx b=sx (a++b):= by
 show Str.mk _=Str.mk _;simp[sx]
theorem E7 (a b:List Nat):(sx a==sx b)=(a==b):= by
 by_cases h:a=b
 ·subst h;simp
 ·exact O (beq_eq_false_iff_ne.mpr h) (O (propext beq_eq_false_iff_ne) (λe=>h (aBV e)))
theorem Q7{α:Type}(l:List α) (n a:Nat):((cv n).map (a+·)).filterMap (l[·]?)=(l.drop a).take n:= by
 induction n with
 |zero=>rfl
 |succ n ih=>
  refine O Bm (O bm (O List.filterMap_append (O ih ?_)));simp only[aw,jy,iu,List.filterMap_nil];refine O List.take_succ (O (ta) ?_);cases l[a+n]?<;>rfl
theorem aBX (a b:Nat):sliceRange (a:Int) (b:Int) 1=(cv (b-a)).map (a+·):=sliceRange_one a b
theorem ſ (h:0<=k) (n:Nat):max 0 (min (if k<0 then k+(n:Int) else k) (n:Int))=((min k.toNat n:Nat):Int):= by
 refine xe (nq h) λm bc=>?_;subst bc;refine O (if_neg (dr.mpr h)) ?_;show max 0 (min (m:Int) (n:Int))=((min m n:Nat):Int);rcases Di m n with q|q
 ·exact O (pr q) (O (Bk (gm.mpr q)) (Ag h))
 ·exact O (qu q) (O (Af (gm.mpr q)) (Ag (bl n)))
theorem WW (a b n:Nat):min b n-min a n=min b n-a:= by
 rcases Di a n with q|q
 ·exact O (pr q) rfl
 ·exact O (qu q) (O (oj (md b n)) (O (oj (aa (md b n) q)) rfl))
noncomputable def kA (a b n:Nat):List Nat:=(cv (min b n-min a n)).map (min a n+·)
theorem Q8{α:Type}(l:List α) (a b:Nat):(kA a b l.length).filterMap (l[·]?)=(l.take b).drop a:= by
 delta kA
 refine O (Q7 ..) (aFZ List.drop_take (O (List.take_eq_take_iff.mpr (show min (min b l.length) l.length=min b l.length by rw[Cq,Dj])) (List.drop_eq_drop_iff.mpr ?_)));exact O jw (O (Cq ..) (O (qu (md b l.length)) rfl))
theorem vR{α:Type}(l:List α) (a b:Nat):(kA a b l.length).length=((l.take b).drop a).length:= by
 rw[kA,ao,gh,WW,ox,jw]
theorem E9 (a b n:Nat):sliceRange ((min a n:Nat):Int) ((min b n:Nat):Int) 1=kA a b n:=aBX _ _
theorem HN (a n:Nat):sliceRange ((min a n:Nat):Int) (n:Int) 1=kA a n n:=by exact aFZ (E9 ..) (O (Dj ..) rfl)
theorem HO (b n:Nat):sliceRange 0 ((min b n:Nat):Int) 1=kA 0 b n:=by refine aFZ (E9 ..) (O (Nat.zero_min ..) ?_);rfl
theorem HP{l:List PV}{lo hi:Option Int}{a b:Nat}(hl:l.length<=100000) (h:fN lo hi Ww l.length=kA a b l.length):f8 (.lst l) lo hi Ww=J (.lst ((l.take b).drop a)):= by
 show(if _ then _ else _)=_;exact O (if_pos ⟨hl,λq=>nomatch q⟩) (O h (O (Q8 ..) rfl))
theorem Q9 (h:0<=a) (n:Nat):fN (J a) Ww Ww n=kA a.toNat n n:= by
 delta fN sliceBounds
 dsimp only[ma,show(1:Int)>0 by decide,if_true]
 (rw[ſ h];exact O (HN ..) rfl)
theorem RA (h:0<=b) (n:Nat):fN Ww (J b) Ww n=kA 0 b.toNat n:= by
 delta fN sliceBounds
 dsimp only[ma,show(1:Int)>0 by decide,if_true]
 (rw[ſ h];exact O (HO ..) rfl)
theorem RB (l:List PV) (k:Int) (h:0<=k) (hl:l.length<=100000):f8 (.lst l) Ww (J k) Ww=J (.lst (l.take k.toNat)):=HP (a:=0) hl (RA h _)
theorem aBY (l:List PV) (k:Int) (h:0<=k) (hl:l.length<=100000):f8 (.lst l) (J k) Ww Ww=J (.lst (l.drop k.toNat)):= by
 exact O (HP hl (Q9 h _)) (O vk rfl)
theorem KD{α β:Type}{f g:α->Option β}{l:List α}(h:∀x∈l,f x=g x):l.filterMap f=l.filterMap g:= by
 induction l with
 |nil=>rfl
 |cons a l ih=>rw[iu,iu,h a ag,ih λx hx=>h x (ah _ hx)]
theorem aBZ (l:List Nat) (ix:List Nat) (r:List Nat) (h:ix.filterMap (l[·]?)=r) (Py:ix.length=r.length) (hr:r.length=l.length->r=l):
  (if (ix.length==l.length)=Wu then sx l else(⟨(ix.filterMap ((sx l).cps[·]?)).toArray⟩:Str))=sx r:= by
 have e:∀i:Nat,(sx l).cps[i]?=l[i]?:=by intro i;simp[sx]
 have e2:ix.filterMap ((sx l).cps[·]?)=r:=by exact aFZ h (KD λi _=>e i)
 refine O e2 ?_
 by_cases hc:ix.length=l.length
 ·exact O (if_pos (by simpa using hc)) (O (hr (eo (ā (.x .q .r) [.z1 .q .s,.z1 .s .r] Py.symm hc) (ā (.x .q .r) [.z1 .s .r,.z1 .q .s] Py hc.symm))) rfl)
 ·refine O (if_neg (by simpa using hc)) ?_;rfl
theorem WX (h:0<=a) (h':0<=b) (n:Nat):jY (J a) (J b) Ww n=kA a.toNat b.toNat n:= by
 delta jY lx
 dsimp only[ma,show(1:Int)>0 by decide,if_true]
 (rw[ſ h,ſ h'];exact O (E9 ..) rfl)
theorem RC (h:0<=a) (n:Nat):jY (J a) Ww Ww n=kA a.toNat n n:= by
 delta jY lx
 dsimp only[ma,show(1:Int)>0 by decide,if_true]
 (rw[ſ h];exact O (HN ..) rfl)
theorem RD (h:0<=b) (n:Nat):jY Ww (J b) Ww n=kA 0 b.toNat n:= by
 delta jY lx
 dsimp only[ma,show(1:Int)>0 by decide,if_true]
 (rw[ſ h];exact O (HO ..) rfl)
theorem zZ{l:List Nat}{lo hi:Option Int}{a b:Nat}(hl:l.length<=100000) (h:jY lo hi Ww l.length=kA a b l.length):f8 (.str (sx l)) lo hi Ww=J (.str (sx ((l.take b).drop a))):= by
 have hs:((l.take b).drop a).Sublist l:=(List.drop_sublist a _).trans (List.take_sublist b l);show(if _ then _ else _)=_;exact O (kH ..) (O h (O (if_pos ⟨rfl,by rw[vR];exact aa hs.length_le hl⟩) (O (aBZ l _ _ (Q8 l a b) (vR l a b) hs.eq_of_length) rfl)))
theorem FA (l:List Nat) (k:Int) (h:0<=k) (hl:l.length<=100000):f8 (.str (sx l)) Ww (J k) Ww=J (.str (sx (l.take k.toNat))):=zZ (a:=0) hl (RD h _)
theorem RF (l:List Nat) (k:Int) (h:0<=k) (hl:l.length<=100000):f8 (.str (sx l)) (J k) Ww Ww=J (.str (sx (l.drop k.toNat))):= by
 exact O (zZ hl (RC h _)) (O vk rfl)
theorem aEJ (l:List Nat) (a b:Int) (h:0<=a) (h':0<=b) (hl:l.length<=100000):f8 (.str (sx l)) (J a) (J b) Ww=J (.str (sx ((l.take b.toNat).drop a.toNat))):=zZ hl (WX h h' _)
theorem iE (a b:List Nat):mI .Eq (.str (sx a)) (.str (sx b))=J (a==b):= by
 show J (sx a==sx b)=_;exact O (E7 ..) rfl
theorem nE (a b:List Nat) (h:a.length+b.length<=100000):iJ .Add (.str (sx a)) (.str (sx b))=J (.str (sx (a++b))):= by
 exact O (QK _ _ (by rw[kH,kH];exact h)) (O (E6 ..) rfl)
section
section
variable{F:Fn}{pe pe':Ã}{a:ù}{t:PE}{n:Nat}{R:Option (Ã×Fl)}
theorem RG (h:aB F t pe=J (.bool Wv)):g6 (aB F t) (aD F a) (n+1) pe=J (pe,.next):=bs h
theorem WY (h:aB F t pe=J (.bool Wu)) (hb:aD F a pe=J (pe',.next)) (h2:g6 (aB F t) (aD F a) n pe'=R):g6 (aB F t) (aD F a) (n+1) pe=R:=(bs h).trans ((bs hb).trans h2)
end
def z4:List (Str×SV):=match Co.bP with|.dcts l=>l|_=>[]
def tk (l:List Nat):Option Int:=match z4.lookup (sx l) with
 |some (.i n)=>J n
 |_=>Ww
theorem RH:∀x∈z4,∃n,x.2=SV.i n:= by
 have:(z4.all λx=>match x.2 with|.i _=>Wu|_=>Wv)=Wu:=by decide +kernel
 intro x hx;have:=bz.mp this x hx;cases h:x.2 with
 |i n=>exact⟨n,rfl⟩
 |t s=>rw[h] at this;cases this
set_option tactic.hygienic true in
theorem tA (h:tk l=J n):z4.lookup (sx l)=J (.i n):= by
 delta tk at h
 revert h;cases z4.lookup (sx l) with
 |none=>exact nn
 |some v=>cases v with
  |i m=>exact λh=>congrArg (λn=>J (SV.i n)) (sm h)
  |_=>exact nn
theorem z5 (h:tk l=Ww):z4.lookup (sx l)=Ww:= by
 cases hl:z4.lookup (sx l) with
 |none=>rfl
 |some v=>
  refine xe (RH _ (bC hl)) λn hn=>?_;simp only at hn;subst hn;unfold tk at h;rw[hl] at h;cases h
def kB (l:List Nat):Option (Int×Nat):=match tk (l.take 3) with
 |some n=>J (n,3)
 |none=>match tk (l.take 2) with
  |some n=>J (n,2)
  |none=>match tk (l.take 1) with
   |some n=>J (n,1)
   |none=>Ww
def toks:Nat->List Nat->Option (List Int)
 |_,[]=>J []
 |0,_::_=>Ww
 |f+1,c::l=>match kB (c::l) with
  |some (n,k)=>(toks f ((c::l).drop k)).map (n::·)
  |none=>Ww
variable{F:Fn}
theorem KF (h:kB l=J (n,k)):(tk (l.take 3)=J n/\k=3)\/tk (l.take 3)=Ww/\((tk (l.take 2)=J n/\k=2)\/tk (l.take 2)=Ww/\tk (l.take 1)=J n/\k=1):= by
 revert h;delta kB;cases tk (l.take 3) with
 |some m=>intro h;cases h;exact .inl ⟨rfl,rfl⟩
 |none=>cases tk (l.take 2) with
  |some m=>intro h;cases h;exact .inr ⟨rfl,.inl ⟨rfl,rfl⟩⟩
  |none=>cases tk (l.take 1) with
   |some m=>intro h;cases h;exact .inr ⟨rfl,.inr ⟨rfl,rfl,rfl⟩⟩
   |none=>exact nn
theorem FB (l:List Nat) (É:PV) (hl:l.length<=100000) (h:kB l=J (n,k)):
  g6 (aB F (.cmp .NotIn (.slc Qi Qc Qj Qc) (.gcst Co.bP))) (aD F (.cons (.aug 2 .Sub Qa) .nil)) 1000 [J (.str (sx l)),J É,J (.int 3)]=
   J ([J (.str (sx l)),J É,J (.int (k:Int))],.next)/\tk (l.take k)=J n:= by
 have test:∀{m:Nat}{o:Option SV},z4.lookup (sx (l.take m))=o->aB F (.cmp .NotIn (.slc Qi Qc Qj Qc) (.gcst Co.bP)) [J (.str (sx l)),J É,J (.int (m:Int))]=J (.bool (!o.isSome)):= by
  intro m o e;subst e;exact eQ (eZ rfl eC rfl eC rfl rfl rfl (FA l m (bl m) hl)) eG rfl
 have dec:∀m:Int,aD F (.cons (.aug 2 .Sub Qa) .nil) [J (.str (sx l)),J É,J (.int m)]=J ([J (.str (sx l)),J É,J (.int (m-1))],.next):=λm=>aJ (aug rfl rfl rfl);rcases KF h with⟨e,rfl⟩|⟨e3,⟨e,rfl⟩|⟨e2,e,rfl⟩⟩
 ·exact⟨RG (test (tA e)),e⟩
 ·exact⟨WY (test (z5 e3)) (dec 3) (RG (test (tA e))),e⟩
 ·exact⟨WY (test (z5 e3)) (dec 3) (WY (test (z5 e2)) (dec 2) (RG (test (tA e)))),e⟩
theorem aB0:toks f []=J []:=by cases f<;>rfl
theorem RI (h:toks (f+1) (c::l)=J r):∃n k r',kB (c::l)=J (n,k)/\toks f ((c::l).drop k)=J r'/\r=n::r':= by
 change (match kB (c::l) with
  |some (n,k)=>(toks f ((c::l).drop k)).map (n::·)
  |none=>Ww)=_ at h
 cases hm:kB (c::l) with
 |none=>rw[hm] at h;exact nn h
 |some x=>
  rw[hm] at h;obtain⟨r',e,h⟩:=ce.mp h;exact⟨x.1,x.2,r',rfl,e,h.symm⟩
theorem KG (f:Nat):∀(l:List Nat) (r:List Int) (acc:List PV) (sz:Option PV),toks f l=J r->l.length<=1000->acc.length+f<=10000->
  ∃sz',g6 (aB F (.cmp .NotEq Qi (.cst (.str ("":Str))))) (aD F (bo (tq 1 Co.dW.code))) (f+1) [J (.str (sx l)),J (.lst acc),sz]=J ([J (.str (sx [])),J (.lst (acc++r.map .int)),sz'],.next):= by
 induction f with
 |zero=>
  intro l r acc sz h _ _;cases l with
  |nil=>cases h;exact⟨sz,by rw[jy,bj];exact RG rfl⟩
  |cons c l=>exact nn h
 |succ f ih=>
  intro l r acc sz h hl ha;cases l with
  |nil=>cases h;exact⟨sz,by rw[jy,bj];exact RG rfl⟩
  |cons c l=>
   obtain⟨n,k,r',em,et,rfl⟩:=RI h;have Hi:(c::l).length<=100000:=aa hl (by decide);obtain⟨i1,i2⟩:=FB (F:=F) (c::l) (.lst acc) Hi em;obtain⟨sz',e⟩:=ih ((c::l).drop k) r' (acc++[.int n]) (J (.int (k:Int))) et (aa (by rw[ox];exact Eo _ _) hl) (vK ha);rw[bk] at e;refine⟨sz',WY rfl (seq (asg rfl) (seq (HG i1) (seq (app (p:=.int n) (l:=acc) rfl (eS eG (eZ rfl eC rfl eC rfl rfl rfl (FA (c::l) k (bl k) Hi)) ?_) (aa (Nat.le_of_add_right_le ha) (by decide))) (aJ (asg (eZ rfl rfl eC eC rfl rfl rfl (RF (c::l) k (bl k) Hi))))))) e⟩;show(z4.lookup (sx ((c::l).take k))).map SV.pv=_;rw[tA i2];rfl
theorem RJ (h:toks 999 l=J r) (hl:l.length<=1000):dP F Co.dW [.str (sx l)]=J (.lst (r.map .int)):= by
 apply dX rfl;show bQ (aD F Co.dW.code [J (.str (sx l)),Ww,Ww])=_;obtain⟨sz',hw⟩:=KG (F:=F) 999 l r [] Ww h hl (by decide);exact aK (asgO (l:=[]) rfl) (aK (HG hw) (cS rfl))
end
def ŭ (x:Nat×List Nat):PV:=.tup [.int (x.1:Int),.str (sx x.2)]
noncomputable def esc:Nat->Bool->List Nat->List (Nat×List Nat)
 |k,Wu,[]=>[(k-1,[92])]
 |_,Wv,[]=>[]
 |k,Wu,c::l=>(k,[92,c])::esc (k+1) Wv l
 |k,Wv,c::l=>if c=92 then esc (k+1) Wu l else(k,[c])::esc (k+1) Wv l
theorem ZF:esc k Wu []=[(k-1,[92])]:=rfl
theorem ZG:esc k Wv []=[]:=rfl
theorem ZI:esc k Wu (c::l)=(k,[92,c])::esc (k+1) Wv l:=rfl
theorem pT:esc k Wv (c::l)=if c=92 then esc (k+1) Wu l else(k,[c])::esc (k+1) Wv l:=rfl
theorem WZ (l:List Nat):∀(k:Nat) (b:Bool),(b=Wu->0<k)->gR k b l=(esc k b l).map ŭ:= by
 induction l with
 |nil=>
  intro k b h;cases b with
  |false=>rfl
  |true=>
   cases k with
   |zero=>exact absurd (h rfl) (gn 0)
   |succ k=>exact congrArg (λn=>[PV.tup [.int n,.str (sx [92])]]) (Int.add_sub_cancel (k:Int) 1)
 |cons c l ih=>
  intro k b _;cases b with
  |true=>exact congrArg (_::·) (ih (k+1) Wv nofun)
  |false=>
   rw[pT,aAL]
   by_cases hc:c=92
   ·rw[if_pos hc,if_pos hc];exact ih (k+1) Wu λ_=>jk k
   ·rw[if_neg hc,if_neg hc];exact congrArg (_::·) (ih (k+1) Wv nofun)
theorem kC (hl:l.length<=10000) (ha:l.all (·<128)=Wu):mU (.str (sx l))=J ((esc 0 Wv l).map ŭ):= by
 show(if _ then _ else _)=_;exact O (if_pos ⟨by rw[kH];exact hl,by simpa [sx] using ha⟩) (O (oS ..) (aFZ (WZ l 0 Wv (by simp)) rfl))
noncomputable def lW:Bool->List Nat->Bool
 |b,[]=>b
 |true,_::l=>lW Wv l
 |false,c::l=>lW (c==92) l
theorem RK:lW b []=b:=rfl
theorem RL:lW Wu (c::l)=lW Wv l:=rfl
theorem FC:lW Wv (c::l)=lW (c==92) l:=rfl
theorem pU (a b:List Nat):∀(k:Nat) (p:Bool),lW p a=Wv->esc k p (a++b)=esc k p a++esc (k+a.length) Wv b:= by
 induction a with
 |nil=>intro k p h;cases h;rfl
 |cons c a ih=>
  intro k p h;rw[show k+(c::a).length=k+1+a.length from(Nat.succ_add_eq_add_succ k a.length).symm];cases p with
  |true=>exact congrArg (_::·) (ih (k+1) Wv h)
  |false=>
   rw[gq,pT,pT]
   by_cases hc:c=92
   ·rw[if_pos hc,if_pos hc];subst hc;exact ih (k+1) Wu h
   ·rw[if_neg hc,if_neg hc];rw[FC,beq_false_of_ne hc] at h;exact congrArg (_::·) (ih (k+1) Wv h)
structure SQ where
 start:Nat
 op:Option Nat
 acc:List (List Nat)
def b8 (iN:List Nat) (s:SQ) (x:Nat×List Nat):SQ:=
 if x.2=[34] then match s.op with
  |none=>{s with op:=J x.1}
  |some o=>⟨x.1+1,Ww,if s.start=o then s.acc else s.acc++[(iN.take o).drop s.start]⟩
 else s
def sq (iN:List Nat) (s:SQ) (l:List (Nat×List Nat)):SQ:=l.foldl (b8 iN) s
noncomputable def KH:Option Nat->PV
 |none=>.none
 |some o=>.int (o:Int)
def fL (l:List (List Nat)):PV:=.lst (l.map λx=>.str (sx x))
section
variable{F:Fn}
theorem CK (l:List Nat) (h:l.length<=100000):ċ .len [.str (sx l)]=J (.int (l.length:Int)):= by
 show(if _ then _ else _)=_;exact O (if_pos (by rw[kH];exact h)) (O (kH ..) rfl)
theorem HQ (x y:Int):mI .NotEq (.int x) (.int y)=J (!(x==y)):=rfl
theorem RM (l:List (List Nat)) (x:List Nat):fL (l++[x])=.lst ((l.map λx=>.str (sx x))++[.str (sx x)]):=congrArg PV.lst bm
theorem z7 (iN:List Nat) (hf:iN.length<=100000) (s:SQ) (k:Nat) (u:List Nat) (Jo:s.acc.length<=100000):
  aD F (bo (tq 4 Co.aS.code)) [J (.str (sx iN)),J (.int (s.start:Int)),J (KH s.op),J (fL s.acc),J (.int (k:Int)),J (.str (sx u))]=
   J ([J (.str (sx iN)),J (.int ((b8 iN s (k,u)).start:Int)),J (KH (b8 iN s (k,u)).op),J (fL (b8 iN s (k,u)).acc),J (.int (k:Int)),J (.str (sx u))],.next):= by
 by_cases hu:u=[34]
 ·subst hu;obtain⟨start,op,acc⟩:=s;refine aJ (j8 (eQ rfl eC (iE [34] [34])) ?_);cases op with
  |none=>exact aJ (j8 rfl (aJ (asg rfl)))
  |some o=>
   refine aJ (iO rfl ?_)
   by_cases hs:start=o
   ·rw[show b8 iN ⟨start,J o,acc⟩ (k,[34])=⟨k+1,Ww,acc⟩ from congrArg (SQ.mk _ _) (if_pos hs)];subst hs;exact seq (iO (eQ rfl rfl (congrArg (λb=>J (!b)) (beq_self_eq_true (start:Int)))) jE) (seq (asg (eB rfl eC rfl)) (aJ (asg rfl)))
   ·rw[show b8 iN ⟨start,J o,acc⟩ (k,[34])=⟨k+1,Ww,acc++[(iN.take o).drop start]⟩ from congrArg (SQ.mk _ _) (if_neg hs)];show _=J ([_,_,_,J (fL (_++[_])),_,_],Fl.next);rw[RM];exact seq (j8 (eQ rfl rfl (congrArg (λb=>J (!b)) (beq_false_of_ne λh=>hs (oh h)))) (aJ (app rfl (eZ rfl rfl rfl eC rfl rfl rfl (aEJ iN start o (bl _) (bl _) hf)) (by rw[ao];exact Jo)))) (seq (asg (eB rfl eC rfl)) (aJ (asg rfl)))
 ·rw[show b8 iN s (k,u)=s from if_neg hu];exact aJ (iO (eQ rfl eC ((iE u [34]).trans (congrArg J (beq_false_of_ne hu)))) jE)
theorem z9:e9 body tg [] pe=J (pe,.next):=rfl
theorem bU{body:Ã->Option (Ã×Fl)}{tg:List Nat}{p:PV}{l:List PV}{pe pe1 Ik:Ã}{R:Option (Ã×Fl)}(h1:nY tg p pe=J pe1) (h2:body pe1=J (Ik,.next)) (h3:e9 body tg l Ik=R):e9 body tg (p::l) pe=R:=(bs h1).trans ((bs h2).trans h3)
theorem W1 (h1:nY tg p pe=J pe1) (h2:body pe1=J (Ik,.ret v)):e9 body tg (p::l) pe=J (Ik,.ret v):=(bs h1).trans (bs h2)
def SInv (w:Nat) (s:SQ):Prop:=(s.acc.map db).sum<=s.start/\s.start<=w/\s.acc.length<=w/\∀o,s.op=J o->s.start<=o/\o<=w
theorem SInv.up{w:Nat}{s:SQ}(h:SInv w s):SInv (w+1) s:=⟨h.1,da h.2.1,da h.2.2.1,λo e=>⟨(h.2.2.2 o e).1,da (h.2.2.2 o e).2⟩⟩
theorem SInv.step{iN:List Nat}{w:Nat}{s:SQ}{u:List Nat}(h:SInv w s):SInv (w+1) (b8 iN s (w,u)):= by
 by_cases hu:u=[34]
 ·obtain⟨start,op,acc⟩:=s;obtain⟨h1,h2,h3,h4⟩:=h;subst hu;cases op with
  |none=>exact⟨h1,da h2,da h3,λo e=>by cases e;exact⟨h2,gy w⟩⟩
  |some o=>
   obtain⟨a,b⟩:=h4 o rfl
   by_cases hs:start=o
   ·rw[show b8 iN ⟨start,J o,acc⟩ (w,[34])=⟨w+1,Ww,acc⟩ from congrArg (SQ.mk _ _) (if_pos hs)];exact⟨aa h1 (da h2),ai _,da h3,nofun⟩
   ·rw[show b8 iN ⟨start,J o,acc⟩ (w,[34])=⟨w+1,Ww,acc++[(iN.take o).drop start]⟩ from congrArg (SQ.mk _ _) (if_neg hs)];refine⟨?_,ai _,by rw[am];exact im h3,nofun⟩;show((acc++[_]).map db).sum<=w+1;rw[bm,mu];refine da (aa (jo h1 ?_) (aa (be (nj a)) b));show((iN.take o).drop start).length+0<=_;rw[ox];exact Nat.sub_le_sub_right (List.length_take_le _ _) start
 ·rw[show b8 iN s (w,u)=s from if_neg hu];exact h.up
theorem aB1 (iN:List Nat) (hf:iN.length<=100000) (l:List Nat):∀(k:Nat) (b:Bool) (s:SQ) (p q:Option PV),SInv k s->k+l.length<=100000->SInv (k+l.length) (sq iN s (esc k b l))/\
  ∃p' q',e9 (aD F (bo (tq 4 Co.aS.code))) [4,5] ((esc k b l).map ŭ) [J (.str (sx iN)),J (.int (s.start:Int)),J (KH s.op),J (fL s.acc),p,q]=
   J ([J (.str (sx iN)),J (.int ((sq iN s (esc k b l)).start:Int)),J (KH (sq iN s (esc k b l)).op),J (fL (sq iN s (esc k b l)).acc),p',q'],.next):= by
 induction l with
 |nil=>
  intro k b s p q hs hk;cases b with
  |false=>exact⟨hs,p,q,rfl⟩
  |true=>
   have e:b8 iN s (k-1,[92])=s:=if_neg (show ¬[92]=[34] by decide);have st:=z7 (F:=F) iN hf s (k-1) [92] (aa hs.2.2.1 (Nat.le_of_add_right_le hk));show SInv k (b8 iN s (k-1,[92]))/\∃p' q',_=J ([_,J (.int ((b8 iN s (k-1,[92])).start:Int)),J (KH (b8 iN s (k-1,[92])).op),J (fL (b8 iN s (k-1,[92])).acc),p',q'],Fl.next);exact⟨e.symm▸hs,_,_,bU rfl st z9⟩
 |cons c l ih=>
  intro k b s p q hs hk;have e:k+(c::l).length=k+1+l.length:=(Nat.succ_add_eq_add_succ k l.length).symm;rw[e] at hk⊢;have ha:=aa hs.2.2.1 (Nat.le_of_add_right_le (Nat.le_of_add_right_le hk));cases b with
  |true=>
   obtain⟨i,p',q',h⟩:=ih (k+1) Wv (b8 iN s (k,[92,c])) (J (.int (k:Int))) (J (.str (sx [92,c]))) hs.step hk;exact⟨i,p',q',bU rfl (z7 iN hf s k [92,c] ha) h⟩
  |false=>
   rw[pT]
   by_cases hc:c=92
   ·rw[if_pos hc];exact ih (k+1) Wu s p q hs.up hk
   ·rw[if_neg hc];obtain⟨i,p',q',h⟩:=ih (k+1) Wv (b8 iN s (k,[c])) (J (.int (k:Int))) (J (.str (sx [c]))) hs.step hk;exact⟨i,p',q',bU rfl (z7 iN hf s k [c] ha) h⟩
theorem FD (l:List (List Nat)):kE (l.map λx=>PV.str (sx x))=J (l.map sx):= by
 induction l with
 |nil=>rfl
 |cons x l ih=>
  show(match tX (PV.str (sx x)),kE (l.map λx=>PV.str (sx x)) with|some a,J b=>J (a::b)|_,_=>Ww)=_;rw[ih];rfl
noncomputable def bV (ę:List Nat):List (List Nat)->List Nat
 |[]=>[]
 |[x]=>x
 |x::y::l=>x++ę++bV ę (y::l)
theorem tB:bV ę (x::y::l)=x++ę++bV ę (y::l):=rfl
theorem yB (l:List (List Nat)):bV [] l=l.flatten:= by
 induction l with
 |nil=>rfl
 |cons x l ih=>
  cases l with
  |nil=>exact(bj x).symm
  |cons y l=>rw[tB,ih,bj];rfl
theorem W2 (ę:List Nat) (l:List (List Nat)):xn (sx ę) (l.map sx)=sx (bV ę l):= by
 induction l with
 |nil=>rfl
 |cons x l ih=>
  cases l with
  |nil=>rfl
  |cons y l=>
   show sx x++sx ę++xn (sx ę) ((y::l).map sx)=_;rw[ih,E6,E6];rfl
theorem aB2 (ę:List Nat) (l:List (List Nat)) (h:(l.map db).sum+l.length*ę.length<=100000):El (sx ę) (l.map sx)=Wu:= by
 have key:∀(l:List (List Nat)) (a:Nat),(l.map sx).foldl (·+·.length+(sx ę).length) a=a+(l.map db).sum+l.length*ę.length:= by
  intro l
  induction l with
  |nil=>intro a;simp
  |cons x l ih=>
   intro a;refine O aw (O Ba (O (ih ..) (O (kH ..) (O (kH ..) ?_))));simp only[aw,di,ci,Dc];exact Ρ (.z1 (.A (.A (.A (.A .q .r) .s) .t) (.M .u .s)) (.A (.A .q (.A .r .t)) (.A (.M .u .s) .s))) []
 delta El
 refine aFZ (Array.foldl_toList ..) (O List.toList_toArray (O (key l 0) ?_))
 delta xw sizeLine
 simp;exact aa h (by decide)
theorem nF (ę:List Nat) (l:List (List Nat)) (h:(l.map db).sum+l.length*ę.length<=100000):ŏ .join (.str (sx ę)) [fL l]=J (.str (sx (bV ę l))):= by
 show(kE (l.map λx=>PV.str (sx x))).bind (λts=>if El (sx ę) ts then J (PV.str (Fg (sx ę) ts)) else Ww)=_;refine O (FD ..) ((if_pos (aB2 ę l h)).trans ?_);congr 2;exact aFZ (W2 ę l) (aq (join_plain_closes _ _))
def KI (iN:List Nat) (s:SQ):List Nat:=(s.acc++if s.start<iN.length then[iN.drop s.start] else[]).flatten
def pV (l:List Nat):List Nat:=if 34∈l then KI l (sq l ⟨0,Ww,[]⟩ (esc 0 Wv l)) else l
theorem CL{acc:List (List Nat)}(h:(acc.map db).sum<=100000):ŏ .join (.str ("":Str)) [fL acc]=J (.str (sx acc.flatten)):= by
 have e:=nF [] acc h;rw[yB] at e;exact e
theorem KJ (hl:l.length<=9000) (ha:l.all (·<128)=Wu):dP F Co.aS [.str (sx l)]=J (.str (sx (pV l))):= by
 apply dX rfl;show bQ (aD F Co.aS.code [J (.str (sx l)),Ww,Ww,Ww,Ww,Ww])=_;have occ:mI .NotIn (.str ("\"":Str)) (.str (sx l))=J (!decide (34∈l)):= by
  show J (!(!(ul (sx l) ⟨#[34]⟩ 0 (sx l).length 1).isEmpty))=_;exact O (StrLaws.found_one ..) (O (oS ..) rfl)
 unfold pV
 by_cases Qr:34∈l
 ·have Hi:l.length<=100000:=aa hl (by decide);obtain⟨⟨i1,i2,i3,-⟩,p',q',hw⟩:=aB1 (F:=F) l Hi l 0 Wv ⟨0,Ww,[]⟩ Ww Ww ⟨ai _,ai _,ai _,nofun⟩ (by rw[gk];exact Hi);rw[gk] at i2 i3;rw[if_pos Qr];unfold KI;generalize sq l ⟨0,Ww,[]⟩ (esc 0 Wv l)=s at*;refine dF (eQ eC rfl (occ.trans (congrArg (λb=>J (!b)) (decide_eq_true Qr)))) (aK (asg rfl) (aK (asg rfl) (aK (asgO (l:=[]) rfl) (aK (HF rfl (kC (aa hl (by decide)) ha) hw) ?_))));have i0:=aa i1 (aa i2 Hi);have lt:∀{b:Bool},decide ((s.start:Int)<(l.length:Int))=b->aB F (.cmp .Lt Qe (.bi .len (.cons Qi .nil))) [J (.str (sx l)),J (.int (s.start:Int)),J (KH s.op),J (fL s.acc),p',q']=J (.bool b):=λe=>eQ rfl (eI (eK rfl eN) (CK l Hi)) (congrArg J e)
  by_cases hs:s.start<l.length
  ·rw[if_pos hs];refine aK (j8 (lt (decide_eq_true (ei.mpr hs))) (aJ (app rfl (eZ rfl rfl eC eC rfl rfl rfl (RF l s.start (bl _) Hi)) (by rw[ao];exact aa i3 Hi)))) (cS (eM rfl (eK rfl eN) (aFZ (RM s.acc (l.drop s.start)) (CL ?_))));rw[bm,mu];show _+((l.drop s.start).length+0)<=_;rw[ox];exact aa (ax i1 _) (aa (be (nj i2)) Hi)
  ·rw[if_neg hs,bj];exact dF (lt (decide_eq_false λh=>hs (ei.mp h))) (cS (eM rfl (eK rfl eN) (CL i0)))
 ·rw[if_neg Qr];exact jF (eQ eC rfl (occ.trans (congrArg (λb=>J (!b)) (decide_eq_false Qr)))) (cS rfl)
end
noncomputable def Ą:Bool->List Nat->List (List Nat)
 |true,[]=>[[92]]
 |false,[]=>[]
 |true,c::l=>[92,c]::Ą Wv l
 |false,c::l=>if c=92 then Ą Wu l else[c]::Ą Wv l
theorem RN:Ą Wv (c::l)=if c=92 then Ą Wu l else[c]::Ą Wv l:=rfl
theorem gJ (l:List Nat):∀(k:Nat) (b:Bool),(esc k b l).map (·.2)=Ą b l:= by
 induction l with
 |nil=>intro k b;cases b<;>rfl
 |cons c l ih=>
  intro k b;cases b with
  |true=>exact congrArg ([92,c]::·) (ih (k+1) Wv)
  |false=>
   rw[pT,RN];split
   ·exact ih (k+1) Wu
   ·exact congrArg ([c]::·) (ih (k+1) Wv)
theorem kD (a b:List Nat) (h:lW Wv a=Wv):Ą Wv (a++b)=Ą Wv a++Ą Wv b:= by
 have:=congrArg (ze (·.2)) (pU a b 0 Wv h);rw[bm,gJ,gJ,gJ] at this;exact this
theorem pW:∀(a b:List Nat) (p:Bool),lW p (a++b)=lW (lW p a) b
 |[],b,p=>by cases p<;>rfl
 |c::a,b,Wu=>by dsimp only[gq,RK,RL,FC];exact pW a b Wv
 |c::a,b,Wv=>by dsimp only[gq,RK,RL,FC];exact pW a b _
def Pl (l:List Nat):Prop:=lW Wv l=Wv/\∀u∈Ą Wv l,u≠[34]
theorem Pl.app (ha:Pl a) (hb:Pl b):Pl (a++b):= by
 refine⟨by exact O (pW ..) (O ha.1 (O hb.1 rfl)),?_⟩;refine O (kD a b ha.1) ?_;intro u hu;rcases ew.mp hu with h|h
 ·exact ha.2 u h
 ·exact hb.2 u h
theorem Pl.nil:Pl []:=⟨rfl,by trivial⟩
theorem AA (iN:List Nat) (s:SQ) (a b:List (Nat×List Nat)):sq iN s (a++b)=sq iN (sq iN s a) b:=List.foldl_append
theorem nG (iN:List Nat) (l:List (Nat×List Nat)) (s:SQ) (h:∀u∈l.map (·.2),u≠[34]):sq iN s l=s:= by
 induction l with
 |nil=>rfl
 |cons x l ih=>exact(congrArg (sq iN · l) (if_neg (h x.2 ag))).trans (ih λu hu=>h u (ah _ hu))
noncomputable def ł (b:List Nat):List Nat:=34::(b++[34])
theorem W3 (b:List Nat):(ł b).length=b.length+2:=by simp[ł]
theorem RO (h:lW Wv b=Wv):lW Wv (ł b)=Wv:= by
 unfold ł;show lW Wv ((34:Nat)::(b++[34]))=Wv;show lW ((34:Nat)==92) (b++[34])=Wv;refine O (show((34:Nat)==92)=Wv from rfl) (O (pW ..) (O h ?_));rfl
theorem W4 (h:lW Wv b=Wv) (k:Nat):esc k Wv (ł b)=(k,[34])::(esc (k+1) Wv b++[(k+1+b.length,[34])]):= by
 unfold ł
 dsimp only[ZF,ZG,ZI,pT]
 refine O (if_neg (by decide)) (O (pU b [34] (k+1) Wv h) ?_);rfl
theorem aB3 (iN:List Nat) (hb:Pl b) (k start:Nat) (acc:List (List Nat)):
  sq iN ⟨start,Ww,acc⟩ (esc k Wv (ł b))=⟨k+(ł b).length,Ww,if start=k then acc else acc++[(iN.take k).drop start]⟩:= by
 rw[W4 hb.1];show sq iN (b8 iN ⟨start,Ww,acc⟩ (k,[34])) _=_;have h1:b8 iN ⟨start,Ww,acc⟩ (k,[34])=⟨start,J k,acc⟩:=by unfold b8;rfl
 refine O h1 (O (AA ..) (O (nG iN (esc (k+1) Wv b) _ (by rw[gJ];exact hb.2)) ?_));show b8 iN ⟨start,J k,acc⟩ (k+1+b.length,[34])=_;unfold b8;simp only[if_true,W3];congr 1;exact ä (.z1 (.A (.A .kl .r) .n1) (.A .q (.A .r .n2))) []
def ý (l:List Nat):Prop:=(∀u∈Ą Wv l,u≠[34])\/∃p q,l=p++34::q/\Pl p/\∀u∈Ą Wv q,u≠[34]
theorem W5 (iN:List Nat) (h:ý l) (k start:Nat) (acc:List (List Nat)):(sq iN ⟨start,Ww,acc⟩ (esc k Wv l)).start=start/\(sq iN ⟨start,Ww,acc⟩ (esc k Wv l)).acc=acc:= by
 rcases h with h|⟨p,q,rfl,hp,hq⟩
 ·refine O (nG iN _ _ (by rw[gJ];exact h)) ?_;exact⟨rfl,rfl⟩
 ·refine O (pU _ _ _ _ hp.1) (O (AA ..) (O (nG iN (esc k Wv p) _ (by rw[gJ];exact hp.2)) ?_))
  dsimp only[ZF,ZG,ZI,pT]
  refine O (if_neg (by decide)) ?_;show(sq iN (b8 iN ⟨start,Ww,acc⟩ (k+p.length,[34])) _).start=_/\(sq iN (b8 iN ⟨start,Ww,acc⟩ (k+p.length,[34])) _).acc=_;refine O (nG iN (esc (k+p.length+1) Wv q) _ (by rw[gJ];exact hq)) ?_;unfold b8;trivial
theorem aB4 (iN:List Nat) (n:Nat) (acc:List (List Nat)):KI iN ⟨n,Ww,acc⟩=acc.flatten++iN.drop n:= by
 unfold KI;rw[List.flatten_append]
 by_cases h:n<iN.length
 ·rw[if_pos h];exact congrArg _ (bj _)
 ·rw[if_neg h,List.drop_eq_nil_of_le (oq h)];rfl
noncomputable def ĳ:Nat->List (List Nat)->Option Nat
 |o,[]=>J o
 |o,u::us=>if u=[40] then ĳ (o+1) us else if u=[41] then(if o=0 then Ww else ĳ (o-1) us) else ĳ o us
theorem ZJ:ĳ o (u::us)=if u=[40] then ĳ (o+1) us else if u=[41] then(if o=0 then Ww else ĳ (o-1) us) else ĳ o us:=rfl
section
variable{F:Fn}
def ParR (F:Fn) (k:Nat) (x:PV) (l:List (Nat×List Nat)) (o:Nat) (p q:Option PV):Prop:=
 (∃p' q' o',ĳ o (l.map (·.2))=J o'/\e9 (aD F (bo (tq 2 (Co.a7 k).code))) [2,3] (l.map ŭ) [J x,J (.int (o:Int)),p,q]=J ([J x,J (.int (o':Int)),p',q'],.next))\/
 (ĳ o (l.map (·.2))=Ww/\∃pe,e9 (aD F (bo (tq 2 (Co.a7 k).code))) [2,3] (l.map ŭ) [J x,J (.int (o:Int)),p,q]=J (pe,.ret (.bool Wv)))
theorem RP (x:PV) (l:List (Nat×List Nat)):∀(o:Nat) (p q:Option PV),ParR F k x l o p q:= by
 induction l with
 |nil=>exact λo p q=>.inl ⟨p,q,o,rfl,rfl⟩
 |cons a l ih=>
  obtain⟨m,u⟩:=a;intro o p q;have go:∀o1:Nat,aD F (bo (tq 2 (Co.a7 k).code)) [J x,J (.int (o:Int)),J (.int (m:Int)),J (.str (sx u))]=J ([J x,J (.int (o1:Int)),J (.int (m:Int)),J (.str (sx u))],.next)->ĳ o (u::l.map (·.2))=ĳ o1 (l.map (·.2))->ParR F k x ((m,u)::l) o p q:=λo1 e h=>(ih o1 (J (.int (m:Int))) (J (.str (sx u)))).imp (fun⟨p',q',o',h1,h2⟩=>⟨p',q',o',h.trans h1,bU rfl e h2⟩) fun⟨h1,pe,h2⟩=>⟨h.trans h1,pe,bU rfl e h2⟩
  by_cases Ky:u=[40]
  ·subst Ky;exact go (o+1) (aJ (j8 (eQ rfl eC (iE [40] [40])) (aJ (aug rfl rfl rfl)))) rfl
  ·have f40:aB F (.cmp .Eq Qh (.cst (.str ("(":Str)))) [J x,J (.int (o:Int)),J (.int (m:Int)),J (.str (sx u))]=J (.bool Wv):=eQ rfl eC ((iE u [40]).trans (congrArg J (beq_false_of_ne Ky)))
   by_cases Mi:u=[41]
   ·subst Mi;cases o with
    |zero=>exact .inr ⟨rfl,_,W1 rfl (zU (iO f40 (zU (j8 (eQ rfl eC (iE [41] [41])) (seq (aug rfl rfl rfl) (zU (j8 rfl (HC rfl)) nofun))) nofun)) nofun)⟩
    |succ o=>exact go o (aJ (iO f40 (aJ (j8 (eQ rfl eC (iE [41] [41])) (seq (aug rfl rfl (congrArg (λn=>J (PV.int n)) (Int.add_sub_cancel (o:Int) 1))) (aJ (iO (eQ rfl rfl (congrArg J (decide_eq_false (dr.mpr (bl o))))) jE))))))) rfl
   ·exact go o (aJ (iO f40 (aJ (iO (eQ rfl eC ((iE u [41]).trans (congrArg J (beq_false_of_ne Mi)))) jE)))) (by rw[ZJ,if_neg Ky,if_neg Mi])
def CM (l:List Nat):Bool:=ĳ 0 (Ą Wv l)==J 0
theorem KL (hF:F k [.str (sx l)]=J (.str (sx r))) (hr:r.length<=9000) (ha:r.all (·<128)=Wu):dP F (Co.a7 k) [.str (sx l)]=J (.bool (CM r)):= by
 apply dX rfl;show bQ (aD F (Co.a7 k).code [J (.str (sx l)),Ww,Ww,Ww])=_;refine aK (asg (eF (eK rfl eN) hF)) (aK (asg rfl) ?_);unfold CM;rw[<-gJ r 0 Wv];rcases RP (F:=F) (k:=k) (.str (sx r)) (esc 0 Wv r) 0 Ww Ww with⟨p',q',o',h1,h2⟩|⟨h1,pe,h2⟩
 ·rw[h1];refine aK (HF rfl (kC (aa hr (by decide)) ha) h2) (cS (eQ rfl rfl (congrArg J ?_)));cases o'<;>rfl
 ·rw[h1];exact ZA (congrArg bQ (HF (e:=.var 0) (p:=.str (sx r)) rfl (kC (aa hr (by decide)) ha) h2))
end
abbrev Pc:=List Nat×Bool
def aY:List Pc->List Nat
 |[]=>[]
 |(s,Wv)::l=>s++aY l
 |(b,Wu)::l=>ł b++aY l
theorem HR:aY ((s,Wv)::l)=s++aY l:=rfl
theorem HS:aY ((b,Wu)::l)=ł b++aY l:=rfl
noncomputable def bR:List Pc->List Nat
 |[]=>[]
 |(s,Wv)::l=>s++bR l
 |(_,Wu)::l=>bR l
theorem HT:bR ((s,Wv)::l)=s++bR l:=rfl
theorem W6:bR ((b,Wu)::l)=bR l:=rfl
theorem rJ (a b:List Pc):aY (a++b)=aY a++aY b:= by
 induction a with
 |nil=>rfl
 |cons x a ih=>
  obtain⟨s,u⟩:=x;cases u with
  |false=>exact(congrArg (s++·) ih).trans (bk ..).symm
  |true=>exact(congrArg (ł s++·) ih).trans (bk ..).symm
theorem rK (a b:List Pc):bR (a++b)=bR a++bR b:= by
 induction a with
 |nil=>rfl
 |cons x a ih=>
  obtain⟨s,u⟩:=x;cases u with
  |false=>exact(congrArg (s++·) ih).trans (bk ..).symm
  |true=>exact ih
def ö (l:List Pc):Prop:=∀p∈l,Pl p.1
theorem pX{l:List Pc}(h:ö l):Pl (bR l):= by
 induction l with
 |nil=>exact Pl.nil
 |cons x l ih=>
  have ih:=ih λp hp=>h p (ah _ hp);obtain⟨s,u⟩:=x;cases u with
  |false=>exact Pl.app (h (s,Wv) ag) ih
  |true=>exact ih
theorem KM{l:List Pc}(h:34∉aY l):aY l=bR l:= by
 induction l with
 |nil=>rfl
 |cons x l ih=>
  obtain⟨s,u⟩:=x;cases u with
  |false=>exact congrArg (s++·) (ih λhm=>h (List.mem_append_right _ hm))
  |true=>exact absurd (List.mem_append_left _ ag) h
theorem aB5 (iN:List Nat) (l:List Pc):∀(start:Nat) (ĩ last:List Nat) (acc:List (List Nat)),iN=ĩ++(aY l++last)->start<=ĩ.length->ö l->ý last->
  KI iN (sq iN ⟨start,Ww,acc⟩ (esc ĩ.length Wv (aY l++last)))=acc.flatten++(ĩ.drop start++(bR l++last)):= by
 induction l with
 |nil=>
  intro start ĩ last acc hf hs _ hl;obtain⟨h1,h2⟩:=W5 iN hl ĩ.length start acc;have e:=aB4 iN start acc;unfold KI at e⊢;show(SQ.acc (sq iN _ (esc ĩ.length Wv last))++if SQ.start (sq iN _ (esc ĩ.length Wv last))<_ then[iN.drop (SQ.start (sq iN _ (esc ĩ.length Wv last)))] else[]).flatten=_;rw[h1,h2,e,hf];exact congrArg _ (ri hs)
 |cons x l ih=>
  intro start ĩ last acc hf hs hk hl;obtain⟨s,u⟩:=x;have hp:Pl s:=hk (s,u) ag;have Hx:ö l:=λp hp=>hk p (ah _ hp);cases u with
  |false=>
   rw[HR,bk] at hf⊢;have e:=ih start (ĩ++s) last acc (hf.trans (bk ..).symm) (aa hs (by rw[am];exact je ..)) Hx hl;rw[am,ri hs,bk] at e;rw[pU _ _ _ _ hp.1,AA,nG iN (esc ĩ.length Wv s) _ (by rw[gJ];exact hp.2),e,HT,bk]
  |true=>
   rw[HS,bk] at hf⊢;have e:=ih (ĩ++ł s).length (ĩ++ł s) last (if start=ĩ.length then acc else acc++[(iN.take ĩ.length).drop start]) (hf.trans (bk ..).symm) (ai _) Hx hl;rw[ow,am] at e;rw[pU _ _ _ _ (RO hp.1),AA,aB3 iN hp,e,W6,<-bk acc.flatten];refine congrArg (·++_) ?_;rw[hf,List.take_left]
   by_cases h:start=ĩ.length
   ·rw[if_pos h,h,ow,bj]
   ·rw[if_neg h,List.flatten_append];exact congrArg _ (bj _)
theorem KN (h:ö l) (hl:ý last):pV (aY l++last)=bR l++last:= by
 unfold pV
 by_cases h4:34∈aY l++last
 ·rw[if_pos h4];exact aB5 _ l 0 [] last [] rfl (ai _) h hl
 ·rw[if_neg h4,KM λhm=>h4 (List.mem_append_left _ hm)]
theorem RQ (l:List Nat):∀b:Bool,(Ą b l).flatten=(if b then[92] else[])++l:= by
 induction l with
 |nil=>intro b;cases b<;>rfl
 |cons c l ih=>
  intro b;cases b with
  |true=>exact congrArg (92::c::·) (ih Wv)
  |false=>
   rw[RN]
   by_cases hc:c=92
   ·rw[if_pos hc,ih Wu,hc];rfl
   ·rw[if_neg hc];exact congrArg (c::·) (ih Wv)
def Ŀ:Nat->List (Nat×List Nat)->Prop
 |_,[]=>True
 |k,(p,u)::r=>p+1=k+u.length/\Ŀ (k+u.length) r
theorem aEK (l:List Nat):∀k:Nat,Ŀ k (esc k Wv l)/\Ŀ k (esc (k+1) Wu l):= by
 induction l with
 |nil=>exact λk=>⟨trivial,rfl,trivial⟩
 |cons c l ih=>
  refine λk=>⟨?_,rfl,(ih (k+2)).1⟩;rw[pT]
  by_cases hc:c=92
  ·rw[if_pos hc];exact(ih k).2
  ·rw[if_neg hc];exact⟨rfl,(ih (k+1)).1⟩
theorem d8{F:Fn}{pe:Ã}{l:List PV}{a:PE}(h:aB F a pe=J (.lst l)) (hl:l.length<=100000):jM F (.val a) pe=J l:=eJ h (if_pos hl)
theorem FE{F:Fn}{pe:Ã}{l:List PV}{a:PE}(h:aB F a pe=J (.tup l)) (hl:l.length<=100000):jM F (.val a) pe=J l:=eJ h (if_pos hl)
noncomputable def rng (n:Nat):List PV:=(cv n).map λk:Nat=>PV.int (k:Int)
theorem lX{F:Fn}{pe:Ã}{n:Nat}{a:PE}(h:aB F a pe=J (.int (n:Int))) (hn:n<=100000):jM F (.rng1 a) pe=J (rng n):= by
 refine eR1 h ((if_pos ⟨by decide,by decide,gj (by decide) (bl n),od (gm.mpr hn) (by decide),?_⟩).trans ?_)
 ·rw[Int.sub_zero];exact congrArg J (lq λk _=>congrArg PV.int (Int.zero_add _))
 ·rw[Int.sub_zero];exact gm.mpr hn
noncomputable def aU (l:List Int):PV:=.lst (l.map .int)
theorem RS (l:List Int) (v:Int):aU (l++[v])=.lst (l.map .int++[.int v]):=congrArg PV.lst bm
theorem dG{F:Fn}{pe:Ã}{Fx:PI}{e c:PE}{tg:Nat}{p q r p' q' r':PV}(hs:jM F Fx pe=J [p,q,r]) (h1:aB F e (st pe tg p)=J p') (h2:aB F e (st pe tg q)=J q') (h3:aB F e (st pe tg r)=J r'):
  aB F (.comp e tg Fx Wv c) pe=J (.lst [p',q',r']):=eW hs (i7 h1 (i7 h2 (i7 h3 rfl)))
theorem vS (l:List Int):f9 (l.map .int)=J l:= by
 induction l with
 |nil=>rfl
 |cons a l ih=>
  show(match l9 (PV.int a),f9 (l.map .int) with|some x,J y=>J (x::y)|_,_=>Ww)=_;rw[ih];rfl
theorem pY (l:List Int) (h:l.isEmpty=Wv):ċ .min [aU l]=J (.int (dR l)):= by
 show(f9 (l.map .int)).bind (NB dR)=_;rw[vS];exact if_neg (by rw[h];exact pw)
theorem RU (x y:Int):(if x<y then x else y)<=x/\(if x<y then x else y)<=y/\((if x<y then x else y)=x\/(if x<y then x else y)=y):= by
 by_cases h:x<y
 ·rw[if_pos h];exact⟨bq x,ba h,.inl rfl⟩
 ·rw[if_neg h];exact⟨dr.mp h,bq y,.inr rfl⟩
theorem aEL (a b c:Int):dR [a,b,c]<=a/\dR [a,b,c]<=b/\dR [a,b,c]<=c/\(dR [a,b,c]=a\/dR [a,b,c]=b\/dR [a,b,c]=c):= by
 obtain⟨a1,a2,a3⟩:=RU (dR [b,c]) a;obtain⟨b1,b2,b3⟩:=RU c b;exact⟨a2,ar a1 b2,ar a1 b1,a3.elim (λh=>b3.elim (λk=>.inr (.inr (h.trans k))) λk=>.inr (.inl (h.trans k))) .inl⟩
theorem aB6{k:Int}{n:Nat}(h0:0<=k) (h1:k<1000000) (h:k.toNat<n):Ś k n=J k.toNat:=(if_pos ⟨gj (by decide) h0,sb h1 (by decide)⟩).trans (seqIndex_of h0 (by rw[<-ca h0];exact ei.mpr h))
theorem lY{l:List PV}{k:Int}{v:PV}(h0:0<=k) (h1:k<1000000) (h:l[k.toNat]?=J v):iT (.lst l) (.int k)=J v:= by
 show(Ś k l.length).bind (l[·]?)=_;rw[aB6 h0 h1 (dw.mp h).1];exact h
theorem aB7{l:List PV}{k:Int}{v:PV}(h0:0<=k) (h1:k<1000000) (h:l[k.toNat]?=J v):iT (.tup l) (.int k)=J v:=lY h0 h1 h
theorem yC{l:List PV}{v:PV}(h:l.getLast?=J v):iT (.lst l) (.int (-1))=J v:= by
 cases l with
 |nil=>exact nn h
 |cons a l=>
  have e:-1+(((a::l).length:Nat):Int)=(l.length:Int):=by rw[ib];exact Int.add_sub_cancel (l.length:Int) 1
  show(Ś (-1) (a::l).length).bind ((a::l)[·]?)=_;unfold Ś;rw[if_pos (by decide),wj (by decide) (e▸bl _),e];exact(tj).symm.trans h
theorem KO{f:PV->PV->Option Bool}{l:List PV}(h:∀x∈l,f x x=J Wu):mH f l l=J Wu:= by
 induction l with
 |nil=>rfl
 |cons a l ih=>
  show(match f a a,mH f l l with|some x,J y=>J (x&&y)|_,_=>Ww)=_;rw[h a ag,ih λx hx=>h x (ah a hx)];rfl
noncomputable def FF (f:Option (PV->Bool)) (p:PV):Bool:=match p with
 |.none=>Wu
 |.bool _=>Wu
 |.int _=>Wu
 |.str _=>Wu
 |.tup l=>(match f with|some f=>l.all f|none=>Wv)
 |.lst l=>(match f with|some f=>l.all f|none=>Wv)
 |_=>Wv
def vT:Nat->PV->Bool
 |0=>FF Ww
 |n+1=>FF (J (vT n))
theorem CN{f:Option (PV->Bool)}{g:Option (PV->PV->Option Bool)}(Rq:∀f',f=J f'->∃g',g=J g'/\∀x,f' x=Wu->g' x x=J Wu){p:PV}(h:FF f p=Wu):oD g p p=J Wu:= by
 cases p<;>try (exact nf h)
 case none=>rfl
 case bool=>exact congrArg J (beq_self_eq_true _)
 case int=>exact congrArg J (beq_self_eq_true _)
 case str=>exact congrArg J (beq_self_eq_true _)
 all_goals
  cases f with
  |none=>exact nf h
  |some f'=>
   obtain⟨g',rfl,hg⟩:=Rq f' rfl;exact(if_pos (beq_self_eq_true _)).trans (KO λx hx=>hg x (bz.mp h x hx))
theorem CO{n:Nat}{p:PV}(h:vT n p=Wu):Ċ n p p=J Wu:= by
 induction n generalizing p with
 |zero=>exact CN (f:=Ww) (g:=Ww) (λ_ e=>nn e) h
 |succ n ih=>exact CN (f:=J (vT n)) (g:=J (Ċ n)) (λf' e=>⟨_,rfl,λx hx=>ih (sm e▸hx)⟩) h
theorem nN{p:PV}(h:vT 3 p=Wu) (hf:∀x,p≠.flt x):mI .NotEq p p=J Wv:= by
 have:mI .NotEq p p=(Ċ 3 p p).map (!·):=by cases p<;>rfl
 rw[this,CO h];rfl
theorem HU{p:PV}(h:vT 3 p=Wu):mI .Eq p p=J Wu:= by
 have:mI .Eq p p=Ċ 3 p p:=by cases p<;>first|rfl|exact nf h
 rw[this,CO h]
theorem aB8 (l:List PV):mI .Eq (.lst l) (.lst [])=J l.isEmpty:= by
 cases l<;>rfl
theorem RX (l:List Int) (h:l.all mR=Wu) (hl:l.length<=1000):ċ .sum [aU l]=J (.int l.sum):= by
 show(f9 (l.map .int)).bind aAK=_;rw[vS];exact if_pos (by rw[h,decide_eq_true hl];rfl)
theorem cW{l:List Int}{k:Nat}(h:k<l.length) (hk:k<1000000):iT (aU l) (.int (k:Int))=J (.int (l.getD k 0)):=
 lY (bl k) (ei.mpr hk) (by rw[lg,ej,cg,bf h];rfl)
theorem aB9{A B c:Int}(hA:0<=A) (hB:B<=100) (hc:0<c) (Jy:c<=10):(if A<B then(B-A+c-1)/c else 0).toNat<=200:= by
 split
 ·rename_i h;exact ql.mpr (ar (Int.ediv_le_self _ (by exact ż (.l .n0 (.S (.A .ka .c) .n1)) [.t .n0 .c,.t .b .a] hc h)) (by exact ż (.l (.S (.A .ka .c) .n1) (.C (.N 200))) [.l .n0 .b,.l .a (.N 100),.l .c (.N 10)] hA hB Jy))
 ·decide
theorem FG{l:List Int}(hl:l.length<=100) (k c:Nat) (hc:0<c) (We:c<=10):∃l':List Int,f8 (aU l) (J (k:Int)) Ww (J (c:Int))=J (aU l')/\l'.length<=200:= by
 have Jt:(c:Int)>0:=ei.mpr hc;refine⟨(fN (J (k:Int)) Ww (J (c:Int)) (l.map PV.int).length).filterMap (l[·]?),?_,aa (pd ..) ?_⟩
 ·refine(if_pos ⟨gG (aa hl (by decide)),λh=>uf 0 (fz h▸Jt)⟩).trans (congrArg (λl=>J (PV.lst l)) ?_);generalize fN (J (k:Int)) Ww (J (c:Int)) (l.map PV.int).length=ix;rw[List.map_filterMap];exact congrArg (λf=>Cf f ix) (funext λ_=>ej)
 ·unfold fN sliceRange sliceBounds;simp only[ux,ao,Jt,if_true,gh];exact aB9 (Int.le_max_left ..) (gm.mpr hl) Jt (gm.mpr We)
theorem aCA{k:Nat}(h:k<1000):(k:Int)<1000/\(-1000:Int)<k:=⟨ei.mpr h,gj (by decide) (bl k)⟩
theorem RY (c d:Nat) (h:d<1000):iJ .Mult (.str (sx [c])) (.int (d:Int))=J (.str (sx (ab d c))):= by
 rw[QL,UD,if_pos ⟨Nat.le_of_ble_eq_true rfl,aCA h⟩];have:(ab d [c]).flatten=ab d c:= by
  clear h
  induction d with
  |zero=>rfl
  |succ d ih=>rw[cj,fm,ih,cj];rfl
 exact congrArg (λl=>J (PV.str (sx l))) this
namespace L1
theorem ft (n k:Nat) (fs:Î) (args:List PV) (h:aQ[k]?=J fs):FT aQ (n+1) k args=dP (FT aQ n) fs args:= by
 show(match aQ[k]? with|some fs=>dP (FT aQ n) fs args|none=>Ww)=_;rw[h]
theorem aEM (n:Nat) (args:List PV):FT aQ (n+1) 0 args=dP (FT aQ n) Co.bJ args:=ft n 0 bJ args rfl
theorem ZK (n:Nat) (args:List PV):FT aQ (n+1) 1 args=dP (FT aQ n) (Co.bH 2) args:=ft n 1 bH args rfl
theorem vc (n:Nat) (m1 m2 u:UInt64):FT aQ (n+1) 2 [.flt m1,.flt m2,.flt u]=J (.flt (vF m1 m2 (cw u one).2)):= by
 rw[ft n 2 f_v _ rfl];exact aEB
theorem aCB (n:Nat) (args:List PV):FT aQ (n+1) 3 args=dP (FT aQ n) Co.bK args:=ft n 3 bK args rfl
theorem ZL (n:Nat) (args:List PV):FT aQ (n+1) 4 args=dP (FT aQ n) Co.bI args:=ft n 4 bI args rfl
theorem aCC (n:Nat) (args:List PV):FT aQ (n+1) 5 args=dP (FT aQ n) Co.aS args:=ft n 5 aS args rfl
theorem aCD (n:Nat) (args:List PV):FT aQ (n+1) 6 args=dP (FT aQ n) (Co.a7 5) args:=ft n 6 a7 args rfl
theorem aEN (n:Nat) (args:List PV):FT aQ (n+1) 14 args=dP (FT aQ n) Co.dW args:=ft n 14 dW args rfl
variable{n:Nat}
theorem RZ (x:Int):FT aQ (n+1) 7 [.int x]=J (.bool (decide (x<256))):= by
 rw[ft n 7 lS _ rfl];exact dX rfl (cS (eQ rfl eG rfl))
theorem R0 (x:Int):FT aQ (n+1) 8 [.int x]=J (.bool (decide (x>=256))):= by
 rw[ft n 8 iV _ rfl];exact dX rfl (cS (eQ rfl eG rfl))
theorem W7 (x:Int):FT aQ (n+1) 9 [.int x]=J (.bool (x==0)):= by
 rw[ft n 9 zT _ rfl];exact dX rfl (cS (eQ rfl eG rfl))
noncomputable def bB (place Fh:Int):Int:=
 if (if 16-(if 48-(place-Fh)%48<(place-Fh)%48 then 48-(place-Fh)%48 else(place-Fh)%48)<8 then 16-(if 48-(place-Fh)%48<(place-Fh)%48 then 48-(place-Fh)%48 else(place-Fh)%48) else 8)>0 then
  (if 16-(if 48-(place-Fh)%48<(place-Fh)%48 then 48-(place-Fh)%48 else(place-Fh)%48)<8 then 16-(if 48-(place-Fh)%48<(place-Fh)%48 then 48-(place-Fh)%48 else(place-Fh)%48) else 8) else 0
theorem nO (place unit:Int) (hs:dD unit=Wu):FT aQ (n+1) 13 [.int place,.int unit]=J (aU [unit*bB place 0,unit*bB place 16,unit*bB place 32]):= by
 rw[ft n 13 j7 _ rfl];apply dX rfl;show bQ (aD _ j7.code [J (.int place),J (.int unit),Ww,Ww,Ww])=_;have ō:∀(Fh:Int) (acc:List PV) (y:Option PV),acc.length<=10->aD (FT aQ n) (bo (tq 1 j7.code)) [J (.int place),J (.int unit),J (.lst acc),J (.int Fh),y]=J ([J (.int place),J (.int unit),J (.lst (acc++[.int (unit*bB place Fh)])),J (.int Fh),J (.int ((place-Fh)%48))],.next):=λFh acc y ha=>
  seq (asg (eB (eB rfl rfl rfl) eC (cN _ 48 (by decide)))) (aJ (app rfl (eB rfl (eI (eK eC (eK (eI (eK eC (eK (eB eC (eI (eK rfl (eK (eB eC rfl rfl) eN)) (EZ ..)) rfl) eN)) (EZ ..)) eN)) (QM ..)) (dY unit _ hs)) (aa ha (by decide))))
 exact aK (asgO (l:=[]) rfl) (aK (pL (FE (l:=[.int 0,.int 16,.int 32]) rfl (by decide)) (bU rfl (ō 0 [] Ww (by decide)) (bU rfl (ō 16 _ _ (Nat.le_of_ble_eq_true rfl)) (bU rfl (ō 32 _ _ (Nat.le_of_ble_eq_true rfl)) z9)))) (cS rfl))
end L1
noncomputable def so (H:Nat->Option PV) (i:Nat) (p:Option PV):Nat->Option PV:=λj=>bif Nat.beq j i then p else H j
noncomputable def LH:Nat->Nat->(Nat->Option PV)->Ã
 |0,_,_=>[]
 |n+1,k,H=>H k::LH n (k+1) H
theorem LH_e{H G:Nat->Option PV}:∀{n k:Nat},(∀j,k<=j->H j=G j)->LH n k H=LH n k G
 |0,_,_=>rfl
 |n+1,k,h=>by
  show H k::_=G k::_;rw[h k (ai k),LH_e λj hj=>h j (iw hj)]
theorem sD{H:Nat->Option PV}{p:PV}:∀{n k:Nat}(i:Nat),st (LH n k H) i p=LH n k (so H (k+i) (J p))
 |0,_,i=>by cases i<;>rfl
 |n+1,k,0=>by
  show _::_=so H k (J p) k::LH n (k+1) (so H k (J p));rw[LH_e (H:=H) (G:=so H k (J p)) λj hj=>?_]
  ·unfold so;rw[Nat.beq_refl];rfl
  ·unfold so;rw[jl.mpr λh=>iy hj (Nat.eq_of_beq_eq_true h)];rfl
 |n+1,k,i+1=>by
  show _::st (LH n (k+1) H) i p=so H (k+(i+1)) (J p) k::LH n (k+1) (so H (k+(i+1)) (J p));rw[sD i,Nat.add_right_comm k 1 i];unfold so;rw[show Nat.beq k (k+(i+1))=Wv from jl.mpr λh=>by have:=Nat.eq_of_beq_eq_true h;lia];rfl
section
variable{F:Fn}{e:PE}{ss:ù}{i n:Nat}{H:Nat->Option PV}{p:PV}{v:Option PV}
theorem aH (h:aB F e (LH n 0 H)=J p) (k:bQ (aD F ss (LH n 0 (so H i (J p))))=v):bQ (aD F (.cons (.asg i e) ss) (LH n 0 H))=v:=
 aK (asg h) (by rw[sD,gk];exact k)
theorem aHO{l:List PV}(h:aB F e (LH n 0 H)=J (.lst l)) (k:bQ (aD F ss (LH n 0 (so H i (J (.lst l)))))=v):bQ (aD F (.cons (.asgO i e) ss) (LH n 0 H))=v:=
 aK (asgO h) (by rw[sD,gk];exact k)
end
namespace L1
variable{n:Nat}
def cL (runs:List Nat):List Nat:=bV [41] (runs.map λr=>ab r 40)
noncomputable def gK (l:List Nat):PV:=.lst (l.map λk:Nat=>PV.int (k:Int))
theorem AB (runs:List Nat) (g:Nat->List Nat) (hg:∀r,(g r).length<=r):(bV [41] (runs.map g)).length<=runs.sum+runs.length:= by
 induction runs with
 |nil=>exact ai 0
 |cons r l ih=>
  cases l with
  |nil=>exact da (hg r)
  |cons q l=>
   show(g r++[41]++bV [41] ((q::l).map g)).length<=r+(q::l).sum+((q::l).length+1);rw[am,am,List.length_singleton,Nat.add_assoc (g r).length,qt 1,Nat.add_assoc r];exact jo (hg r) (im ih)
theorem kZ (runs:List Nat):(cL runs).length<=runs.sum+runs.length:=AB runs _ λ_=>be dq
theorem CP{l:List Int}(h:l.length<=1000):ċ .len [aU l]=J (.int (l.length:Int)):=(if_pos (gG (aa h (by decide)))).trans (by rw[ao])
theorem vU (l:List Nat):gK l=aU (l.map λk:Nat=>(k:Int)):=by unfold gK aU;rw[ip];rfl
theorem R4 (l:List Nat):(l.map λk:Nat=>(k:Int)).sum=((l.sum:Nat):Int):= by
 induction l with
 |nil=>rfl
 |cons a l ih=>rw[aw,di,di,ih,Int.natCast_add]
theorem W8{k:Nat}(h:k<=1000):mR (k:Int)=Wu:=mw.mpr ⟨decide_eq_true (gj (by decide) (bl k)),decide_eq_true (od (gm.mpr h) (by decide))⟩
theorem R5 (runs:List Nat):((runs.map λr=>ab r 40).map db).sum=runs.sum:= by
 rw[ip];exact congrArg List.sum ((lq λr _=>dq).trans (Ec _))
theorem AC{l:List Nat}{k:Nat}(h:k∈l):k<=l.sum:= by
 induction l with
 |nil=>cases h
 |cons a l ih=>
  rw[di];rcases dL.mp h with rfl|h
  ·exact je ..
  ·exact aa (ih h) (ll ..)
theorem CQ{l:List Nat}(hl:l.length<=1000) (h:l.sum<=1000):ċ .sum [gK l]=J (.int (l.sum:Int)):= by
 rw[vU,<-R4];refine RX _ (bz.mpr λv hv=>?_) (gG hl);obtain⟨k,hk,rfl⟩:=ja.mp hv;exact W8 (aa (AC hk) h)
theorem AD{runs:List Nat}(h:runs.sum<=100) (hl:runs.length<=100):FT aQ (n+1) 10 [gK runs]=J (.str (sx (cL runs))):= by
 rw[ft n 10 rE _ rfl];apply dX rfl;show bQ (aD _ rE.code [J (gK runs),Ww])=_;refine cS (eM eC (eK (eWe (l2:=(runs.map λr=>ab r 40).map λx=>.str (sx x)) (d8 rfl (gG (aa hl (by decide)))) (jG (g:=λr:Nat=>.str (sx (ab r 40))) λr hr=>eB eC rfl (RY 40 r (jv (aa (AC hr) h) (by decide)))) (by rw[ip];rfl)) eN) (nF [41] (runs.map λr=>ab r 40) ?_));rw[R5,ao];exact aa (jo h (su hl (ai 1))) (by decide)
noncomputable def lvl:Int->List Nat->List Int
 |_,[]=>[]
 |o,c::l=>if c=40 then lvl (o+1) l else o::lvl (o-1) l
theorem W9 (l:List Nat):∀o:Int,(lvl o l).length<=l.length:= by
 induction l with
 |nil=>exact λ_=>ai 0
 |cons c l ih=>
  intro o
  by_cases hc:c=40
  ·rw[show lvl o (c::l)=lvl (o+1) l from if_pos hc];exact da (ih _)
  ·rw[show lvl o (c::l)=o::lvl (o-1) l from if_neg hc];exact im (ih _)
theorem CR{F:Fn}(row:PV) (l:List Nat):∀(o:Int) (acc:List Int) (x:Option PV),acc.length+l.length<=5000->
  ∃o' x',e9 (aD F (bo (tq 2 jC.code))) [3] (l.map λc=>.str (sx [c])) [J row,J (.int o),J (aU acc),x]=J ([J row,J (.int o'),J (aU (acc++lvl o l)),x'],.next):= by
 induction l with
 |nil=>exact λo acc x _=>⟨o,x,by rw[show acc++lvl o []=acc from bj acc];rfl⟩
 |cons c l ih=>
  intro o acc x h
  by_cases hc:c=40
  ·subst hc;obtain⟨o',x',e⟩:=ih (o+1) acc (J (.str (sx [40]))) (iw h);exact⟨o',x',bU rfl (aJ (j8 (eQ rfl eC (iE [40] [40])) (aJ (aug rfl rfl rfl)))) e⟩
  ·obtain⟨o',x',e⟩:=ih (o-1) (acc++[o]) (J (.str (sx [c]))) (vK h);rw[bk,RS] at e;rw[show lvl o (c::l)=o::lvl (o-1) l from if_neg hc];exact⟨o',x',bU rfl (aJ (iO (eQ rfl eC ((iE [c] [40]).trans (congrArg J (beq_false_of_ne λh=>hc (yi h).1)))) (seq (app rfl rfl (gG (aa (Nat.le_of_add_right_le h) (by decide)))) (aJ (aug rfl rfl rfl))))) e⟩
theorem yD{l:List Nat}(hl:l.length<=100000) (ha:∀c∈l,c<128):tY (.str (sx l))=J (l.map λc=>.str (sx [c])):= by
 refine(if_pos ⟨by rw[kH];exact hl,?_⟩).trans ?_
 ·rw[oS];rfl
 ·rw[<-Array.all_toList,oS,bz];exact λc hc=>decide_eq_true (ha c hc)
theorem vV{l:List Nat}(hl:l.length<=1000) (ha:∀c∈l,c<128):FT aQ (n+1) 11 [.str (sx l)]=J (aU (lvl 0 l)):= by
 rw[ft n 11 jC _ rfl];apply dX rfl;show bQ (aD _ jC.code [J (.str (sx l)),Ww,Ww,Ww])=_;obtain⟨o',x',Hs⟩:=CR (F:=FT aQ n) (.str (sx l)) l 0 [] Ww (by rw[rm,gk];exact aa hl (by decide));refine aK (asg rfl) (aK (asgO (l:=[]) rfl) (aK (pL (eJ rfl (yD (aa hl (by decide)) ha)) Hs) (cS rfl)))
noncomputable def low (fold:Int):Int->List Int->List Int
 |_,[]=>[]
 |lo,v::l=>(lo+(v-lo)%fold)::low fold (if lo+(v-lo)%fold-1>1 then lo+(v-lo)%fold-1 else 1) l
theorem CS{F:Fn}(lv:PV) (fold:Int) (hf:0<fold) (l:List Int):∀(lo:Int) (acc:List Int) (x:Option PV),acc.length+l.length<=5000->
  ∃lo' x',e9 (aD F (bo (tq 2 jD.code))) [4] (l.map .int) [J lv,J (.int fold),J (.int lo),J (aU acc),x]=J ([J lv,J (.int fold),J (.int lo'),J (aU (acc++low fold lo l)),x'],.next):= by
 induction l with
 |nil=>exact λlo acc x _=>⟨lo,x,by rw[show acc++low fold lo []=acc from bj acc];rfl⟩
 |cons v l ih=>
  intro lo acc x h;obtain⟨lo',x',e⟩:=ih (if lo+(v-lo)%fold-1>1 then lo+(v-lo)%fold-1 else 1) (acc++[lo+(v-lo)%fold]) (J (.int v)) (vK h);rw[bk,RS] at e;exact⟨lo',x',bU rfl (seq (app rfl (eB rfl (eB (eB rfl rfl rfl) rfl (cN _ _ hf)) rfl) (gG (aa (Nat.le_of_add_right_le h) (by decide)))) (aJ (asg (eI (eK eC (eK (eB (eS rfl (eNg eC) (yC xm)) eC rfl) eN)) (QM ..))))) e⟩
theorem FH{l:List Int}{fold:Int}(hl:l.length<=1000) (hf:0<fold):FT aQ (n+1) 12 [aU l,.int fold]=J (aU (low fold 1 l)):= by
 rw[ft n 12 jD _ rfl];apply dX rfl;show bQ (aD _ jD.code [J (aU l),J (.int fold),Ww,Ww,Ww])=_;obtain⟨lo',x',Hs⟩:=CS (F:=FT aQ n) (aU l) fold hf l 1 [] Ww (by rw[rm,gk];exact aa hl (by decide));exact aK (asg rfl) (aK (asgO (l:=[]) rfl) (aK (pL (d8 rfl (gG (aa hl (by decide)))) Hs) (cS rfl)))
end L1
noncomputable def rL (c d:Nat) (l:List Nat):List Nat:=l.map λk=>if k=c then d else k
theorem pZ (c d:Nat) (a b:List Nat):rL c d (a++b)=rL c d a++rL c d b:=bm
theorem KP (c d:Nat) (l:List Nat) (h:c∉l):rL c d l=l:=(lq λk hk=>if_neg λe:k=c=>h (e▸hk)).trans (Ec l)
theorem KQ (c d:Nat) (parts:List Str) (h:∀p∈parts,c∉p.cps.toList):rL c d (xn ⟨#[c]⟩ parts).cps.toList=(xn ⟨#[d]⟩ parts).cps.toList:= by
 induction parts with
 |nil=>rfl
 |cons p l ih=>
  have hp:=KP c d _ (h p ag);cases l with
  |nil=>exact hp
  |cons q r=>
   show rL c d (p++⟨#[c]⟩++xn ⟨#[c]⟩ (q::r)).cps.toList=(p++⟨#[d]⟩++xn ⟨#[d]⟩ (q::r)).cps.toList;simp only[wq,Array.toList_append];rw[pZ,pZ,ih λa ha=>h a (ah _ ha),hp];exact congrArg (λx=>_++[x]++_) (if_pos rfl)
theorem qA (l:List Nat) (c d:Nat):Txt.replace (sx l) (sx [c]) (sx [d])=sx (rL c d l):= by
 have h:(Txt.replace (sx l) ⟨#[c]⟩ ⟨#[d]⟩).cps.toList=rL c d l:= by
  rw[StrLaws.replace_one,<-KQ c d _ (StrLaws.split_free (sx l) c),StrLaws.join_split,oS]
 rw[<-h,aBW];rfl
noncomputable def cE (ws:List (List Nat×Int)):List Nat:=(ws.map (·.1)).flatten
def Reads1 (w:List Nat) (n:Int) (rest:List Nat):Prop:=w≠[]/\∃k,kB (w++rest)=J (n,k)/\(w++rest).drop k=rest
def GoodW:List (List Nat×Int)->Prop
 |[]=>True
 |(w,n)::r=>Reads1 w n (cE r)/\GoodW r
theorem KR (ws:List (List Nat×Int)):∀f:Nat,GoodW ws->ws.length<=f->toks f (cE ws)=J (ws.map (·.2)):= by
 induction ws with
 |nil=>exact λ_ _ _=>aB0
 |cons x r ih=>
  intro f h hf;obtain⟨⟨hw,k,h1,h2⟩,h3⟩:=h;cases f with
  |zero=>cases hf
  |succ f=>
   show toks (f+1) (x.1++cE r)=_;cases hc:x.1++cE r with
   |nil=>exact absurd (List.append_eq_nil_iff.mp hc).1 hw
   |cons c l=>
    rw[hc] at h1 h2;show(match kB (c::l) with
     |some (n,k)=>(toks f ((c::l).drop k)).map (n::·)
     |none=>Ww)=_
    rw[h1];show(toks f ((c::l).drop k)).map _=_;rw[h2,ih f h3 (qq hf)];rfl
theorem FI (l:List Nat):kB l=kB (l.take 3):= by
 unfold kB;rw[td,td,td];rfl
def vW (w:List Nat) (n:Int) (t:List Nat):Bool:=match kB ((w++t).take 3) with
 |some (m,k)=>m==n&&(k==w.length||(t.isEmpty&&decide (w.length<=k)))
 |none=>Wv
theorem nH{w rest:List Nat}{n:Int}(hw:w≠[]) (h:vW w n (rest.take 2)=Wu) (hl:1<=w.length):Reads1 w n rest:= by
 refine⟨hw,?_⟩;unfold vW at h;have e:(w++rest.take 2).take 3=(w++rest).take 3:= by
  rw[List.take_append,List.take_append,td,pr (Nat.sub_le_sub_left hl 3)]
 rw[e,<-FI] at h;cases hm:kB (w++rest) with
 |none=>rw[hm] at h;cases h
 |some x=>
  rw[hm] at h;obtain⟨m,k⟩:=x;obtain⟨h1,h2⟩:=mw.mp (show(m==n&&(k==w.length||((rest.take 2).isEmpty&&decide (w.length<=k))))=Wu from h);cases aq h1;refine⟨k,rfl,?_⟩;rcases jr.mp h2 with h2|h2
  ·cases aq h2;exact List.drop_left
  ·obtain⟨h2,h3⟩:=mw.mp h2;cases rest with
   |nil=>rw[bj];exact List.drop_eq_nil_of_le (of_decide_eq_true h3)
   |cons a r=>exact nf h2
noncomputable def yE (al:List Nat):List (List Nat):=[]::(al.map λa=>[a])++al.flatMap λa=>al.map λb=>[a,b]
theorem k7{al:List Nat}{t:List Nat}(h:∀c∈t,c∈al):t.take 2∈yE al:= by
 cases t with
 |nil=>exact List.mem_append_left _ ag
 |cons a t=>
  have ha:=h a ag;cases t with
  |nil=>exact List.mem_append_left _ (ah _ (ja.mpr ⟨a,ha,rfl⟩))
  |cons b r=>exact List.mem_append_right _ (List.mem_flatMap.mpr ⟨a,ha,ja.mpr ⟨b,h b (ah _ ag),rfl⟩⟩)
namespace L1
noncomputable def a8 (p:Nat):Nat:=[42,47,60,62,61].getD p 0
noncomputable def fM (p:Nat):Int:=[16,17,20,21,22].getD p 0
noncomputable def cG (p:Nat):Int:=[35,47,33,34,27].getD p 0
theorem KS:∀p<5,((yE [a8 p,46,41]).all λt=>vW [41] 8 t)=Wu:=by decide +kernel
theorem KU:∀p<5,((yE [a8 p,46,41]).all λt=>vW [46,46,46] 52 t)=Wu:=by decide +kernel
theorem XA:∀p<5,((yE [a8 p,46,41]).all λt=>t==[46,46]||vW [46] 23 t)=Wu:=by decide +kernel
theorem XB:∀p<5,((yE [a8 p,46,41]).all λt=>vW [a8 p,a8 p] (cG p) t)=Wu:=by decide +kernel
theorem R6:∀p<5,((yE [a8 p,46,41]).all λt=>t.head?==J (a8 p)||vW [a8 p] (fM p) t)=Wu:=by decide +kernel
variable{p:Nat}{rest:List Nat}
theorem XC (hp:p<5) (hr:∀c∈rest,c∈[a8 p,46,41]):Reads1 [41] 8 rest:=nH nofun (bz.mp (KS p hp) _ (k7 hr)) (jk _)
theorem XD (hp:p<5) (hr:∀c∈rest,c∈[a8 p,46,41]):Reads1 [46,46,46] 52 rest:=nH nofun (bz.mp (KU p hp) _ (k7 hr)) (jk _)
theorem aEO (hp:p<5) (hr:∀c∈rest,c∈[a8 p,46,41]):Reads1 [a8 p,a8 p] (cG p) rest:=nH nofun (bz.mp (XB p hp) _ (k7 hr)) (jk _)
theorem aEP (hp:p<5) (hr:∀c∈rest,c∈[a8 p,46,41]) (h:rest.take 2≠[46,46]):Reads1 [46] 23 rest:=
 nH nofun ((jr.mp (bz.mp (XA p hp) _ (k7 hr))).resolve_left λh1=>h (aq h1)) (jk _)
theorem aCE (hp:p<5) (hr:∀c∈rest,c∈[a8 p,46,41]) (h:rest.head?≠J (a8 p)):Reads1 [a8 p] (fM p) rest:=
 nH nofun ((jr.mp (bz.mp (R6 p hp) _ (k7 hr))).resolve_left λh1=>h (by cases rest<;>exact aq h1)) (jk _)
end L1
def GoodT:List (List Nat×Int)->List Nat->Prop
 |[],_=>True
 |(w,n)::r,t=>Reads1 w n (cE r++t)/\GoodT r t
theorem jJ (a b:List (List Nat×Int)):cE (a++b)=cE a++cE b:=by simp[cE]
theorem oT (w:List Nat) (n:Int) (r:List (List Nat×Int)):cE ((w,n)::r)=w++cE r:=by simp[cE]
theorem nP{a b:List (List Nat×Int)}{t:List Nat}(h:GoodT a (cE b++t)) (h':GoodT b t):GoodT (a++b) t:= by
 induction a with
 |nil=>exact h'
 |cons x a ih=>exact⟨by show Reads1 _ _ (cE (a++b)++t);rw[jJ,bk];exact h.1,ih h.2⟩
theorem KV{a:List (List Nat×Int)}(h:GoodT a []):GoodW a:= by
 induction a with
 |nil=>trivial
 |cons x r ih=>exact⟨bj (cE r)▸h.1,ih h.2⟩
theorem dJ (w:List Nat) (n:Int) (k:Nat):cE (ab k (w,n))=(ab k w).flatten:=by simp[cE]
theorem iG (c k:Nat):(ab k [c]).flatten=ab k c:= by
 induction k with
 |zero=>rfl
 |succ k ih=>rw[cj,fm,ih,cj];rfl
theorem HV (c k:Nat):(ab k [c,c]).flatten=ab (2*k) c:= by
 induction k with
 |zero=>rfl
 |succ k ih=>rw[cj,fm,ih,show 2*(k+1)=2*k+1+1 by lia,cj,cj];rfl
theorem yF (c k:Nat):(ab k [c,c,c]).flatten=ab (3*k) c:= by
 induction k with
 |zero=>rfl
 |succ k ih=>rw[cj,fm,ih,show 3*(k+1)=3*k+1+1+1 by lia,cj,cj,cj];rfl
noncomputable def sO (f:Nat->List (List Nat×Int)):List Nat->List (List Nat×Int)
 |[]=>[]
 |[r]=>f r
 |r::q::l=>f r++(([41],8):List Nat×Int)::sO f (q::l)
theorem KW (f:Nat->List (List Nat×Int)) (runs:List Nat):cE (sO f runs)=bV [41] (runs.map λr=>cE (f r)):= by
 induction runs with
 |nil=>rfl
 |cons r l ih=>
  cases l with
  |nil=>rfl
  |cons q l=>
   show cE (f r++([41],8)::sO f (q::l))=cE (f r)++[41]++bV [41] ((q::l).map λr=>cE (f r));rw[jJ,oT,ih,bk]
namespace L1
noncomputable def CT (r:Nat):List (List Nat×Int):=ab (r/3) ([46,46,46],52)++ab (r%3) ([46],23)
def yG (p r:Nat):List (List Nat×Int):=ab (r/2) ([a8 p,a8 p],cG p)++ab (r%2) ([a8 p],fM p)
def KY (p r:Nat):List (List Nat×Int):=yG p (r/3)++ab (r%3) ([46],23)
theorem FJ (r:Nat):cE (CT r)=ab r 46:= by
 unfold CT;rw[jJ,dJ,dJ,yF,iG,List.replicate_append_replicate];congr 1;lia
theorem vX (p r:Nat):cE (yG p r)=ab r (a8 p):= by
 unfold yG;rw[jJ,dJ,dJ,HV,iG,List.replicate_append_replicate];congr 1;lia
theorem KZ (p r:Nat):cE (KY p r)=ab (r/3) (a8 p)++ab (r%3) 46:= by
 unfold KY;rw[jJ,vX,dJ,iG]
def Tail (t:List Nat):Prop:=t=[]\/∃r,t=41::r
section
variable{p:Nat}
theorem aEQ{P:Nat->Prop}(h:∀p:Fin 5,P p.val) (hp:p<5):P p:=h ⟨p,hp⟩
theorem AE (hp:p<5):a8 p≠46/\a8 p≠41/\a8 p≠40/\a8 p<128:=aEQ (P:=λp=>a8 p≠46/\a8 p≠41/\a8 p≠40/\a8 p<128) (by decide) hp
theorem l3{k c:Nat}{S t:List Nat}(hc:c∈S) (h:∀x∈t,x∈S):∀x∈ab k c++t,x∈S:=λx hx=>(ew.mp hx).elim (λhx=>(ij.mp hx).2▸hc) (h x)
theorem dt:46∈[a8 p,46,41]:=ah _ ag
theorem vY (hp:p<5) (k:Nat){t:List Nat}(hk:k<=2) (ht:Tail t) (hr:∀c∈t,c∈[a8 p,46,41]):GoodT (ab k ([46],23)) t:= by
 induction k with
 |zero=>trivial
 |succ k ih=>
  refine⟨?_,ih (iw hk)⟩;show Reads1 _ _ (cE (ab k ([46],23))++t);rw[dJ,iG];refine aEP hp (l3 dt hr) ?_;have:k=0\/k=1:=by lia
  rcases this with rfl|rfl
  ·rcases ht with rfl|⟨r,rfl⟩
   ·simp
   ·simp
  ·rcases ht with rfl|⟨r,rfl⟩
   ·simp
   ·simp
theorem K0 (hp:p<5) (r:Nat){t:List Nat}(ht:Tail t) (hr:∀c∈t,c∈[a8 p,46,41]):GoodT (CT r) t:= by
 refine nP ?_ (vY hp _ (qk (qd r (by decide))) ht hr);rw[dJ,iG];have Su:=l3 (k:=r%3) (dt (p:=p)) hr;generalize ab (r%3) 46++t=u at*;generalize r/3=k
 induction k with
 |zero=>trivial
 |succ k ih=>
  refine⟨XD hp ?_,ih⟩;show ∀c∈cE (ab k ([46,46,46],52))++u,_;rw[dJ,yF];exact l3 dt Su
theorem yH (hp:p<5) (r:Nat){t:List Nat}(ht:t.head?≠J (a8 p)) (hr:∀c∈t,c∈[a8 p,46,41]):GoodT (yG p r) t:= by
 have g1:GoodT (ab (r%2) (([a8 p],fM p):List Nat×Int)) t:= by
  rcases Nat.mod_two_eq_zero_or_one r with h|h
  ·rw[h];trivial
  ·rw[h];exact⟨aCE hp hr ht,trivial⟩
 refine nP ?_ g1;rw[dJ,iG];have Su:=l3 (k:=r%2) (ag (a:=a8 p)) hr;generalize ab (r%2) (a8 p)++t=u at*;generalize r/2=k
 induction k with
 |zero=>trivial
 |succ k ih=>
  refine⟨aEO hp ?_,ih⟩;show ∀c∈cE (ab k ([a8 p,a8 p],cG p))++u,_;rw[dJ,HV];exact l3 ag Su
theorem R7 (hp:p<5) (r:Nat){t:List Nat}(ht:Tail t) (hr:∀c∈t,c∈[a8 p,46,41]):GoodT (KY p r) t:= by
 obtain⟨n1,n2,n3,-⟩:=AE hp;refine nP (yH hp _ ?_ ?_) (vY hp _ (qk (qd r (by decide))) ht hr)
 ·rw[dJ,iG];cases r%3 with
  |zero=>
   rcases ht with rfl|⟨q,rfl⟩
   ·exact nofun
   ·exact λh=>n2 (fz h).symm
  |succ k=>exact λh=>n1 (fz h).symm
 ·rw[dJ,iG];exact l3 dt hr
theorem R8 (hp:p<5) (f:Nat->List (List Nat×Int)) (hf:∀r{t:List Nat},Tail t->(∀c∈t,c∈[a8 p,46,41])->GoodT (f r) t) (hl:∀r,∀c∈cE (f r),c∈[a8 p,46,41]) (runs:List Nat):
  GoodT (sO f runs) []/\∀c∈cE (sO f runs),c∈[a8 p,46,41]:= by
 induction runs with
 |nil=>exact⟨trivial,nofun⟩
 |cons r l ih=>
  cases l with
  |nil=>exact⟨hf r (.inl rfl) nofun,hl r⟩
  |cons q l=>
   obtain⟨h1,h2⟩:=ih;have h3:∀c∈41::cE (sO f (q::l)),c∈[a8 p,46,41]:=List.forall_mem_cons.mpr ⟨ah _ (ah _ ag),h2⟩;show GoodT (f r++([41],8)::sO f (q::l)) []/\∀c∈cE (f r++([41],8)::sO f (q::l)),_;refine⟨nP ?_ ⟨?_,h1⟩,?_⟩
   ·rw[oT,bj];exact hf r (.inr ⟨_,rfl⟩) h3
   ·rw[bj];exact XC hp h2
   ·rw[jJ,oT];exact λc hc=>(ew.mp hc).elim (hl r c) (h3 c)
end
end L1
namespace L1
noncomputable def jS (nu:Nat->List Int):List Nat->List Int
 |[]=>[]
 |[r]=>nu r
 |r::q::l=>nu r++8::jS nu (q::l)
theorem R9 (f:Nat->List (List Nat×Int)) (runs:List Nat):(sO f runs).map (·.2)=jS (λr=>(f r).map (·.2)) runs:= by
 induction runs with
 |nil=>rfl
 |cons r l ih=>
  cases l with
  |nil=>rfl
  |cons q l=>exact bm.trans (congrArg (λx=>_++8::x) ih)
noncomputable def sP (w:Int->Nat) (k:Int):List Nat:=if k=8 then[41] else ab (w k) 40
theorem CU (nu:Nat->List Int) (q:Int->Bool) (h8:q 8=Wu) (runs:List Nat):(jS nu runs).filter q=jS (λr=>(nu r).filter q) runs:= by
 induction runs with
 |nil=>rfl
 |cons r l ih=>
  cases l with
  |nil=>rfl
  |cons s l=>exact(List.filter_append ..).trans (congrArg (_++·) ((List.filter_cons_of_pos h8).trans (congrArg (8::·) ih)))
theorem AF (nu:Nat->List Int) (q:Int->Bool) (h8:¬q 8=Wu) (runs:List Nat):(jS nu runs).filter q=(runs.map λr=>(nu r).filter q).flatten:= by
 induction runs with
 |nil=>rfl
 |cons r l ih=>
  cases l with
  |nil=>exact(bj _).symm
  |cons s l=>exact(List.filter_append ..).trans (congrArg (_++·) ((List.filter_cons_of_neg h8).trans ih))
theorem SA (nu:Nat->List Int) (w:Int->Nat) (runs:List Nat):((jS nu runs).map (sP w)).flatten=bV [41] (runs.map λr=>((nu r).map (sP w)).flatten):= by
 induction runs with
 |nil=>rfl
 |cons r l ih=>
  cases l with
  |nil=>rfl
  |cons s l=>
   show((nu r++8::jS nu (s::l)).map (sP w)).flatten=_++[41]++bV [41] ((s::l).map λr=>((nu r).map (sP w)).flatten);rw[bm,List.flatten_append,aw,fm,ih,bk];rfl
def fD (fold:Nat) (runs:List Nat):List Nat:=ab (fold*(runs.map (· / fold)).sum) 40++cL (runs.map (·%fold))
theorem CV (c k a:Nat):(ab k (ab a c)).flatten=ab (a*k) c:= by
 induction k with
 |zero=>rfl
 |succ k ih=>rw[cj,fm,ih,List.replicate_append_replicate,Nat.mul_succ,qt]
theorem qB (w:Int->Nat) (k:Nat) (a:Int) (h:a≠8):((ab k a).map (sP w)).flatten=ab (w a*k) 40:= by
 rw[List.map_replicate];unfold sP;rw[if_neg h,CV]
theorem AG{nu:Nat->List Int}{w:Int->Nat}{most:Int}{fold:Nat}(h8:most≠8) (hw:w most=fold) (h1:∀r,(nu r).filter (·==most)=ab (r/fold) most)
  (h2:∀r,(((nu r).filter (· != most)).map (sP w)).flatten=ab (r%fold) 40) (runs:List Nat):
  (((jS nu runs).filter (·==most)++(jS nu runs).filter (· != most)).map (sP w)).flatten=fD fold runs:= by
 have h8:(8==most)=Wv:=beq_false_of_ne h8.symm;rw[bm,List.flatten_append,AF nu _ (λh=>pw (h8.symm.trans h)),CU nu _ (congrArg (!·) h8),SA];unfold fD cL;rw[ip];refine congr (congrArg _ ?_) (congrArg (bV [41]) (lq λr _=>h2 r))
 induction runs with
 |nil=>rfl
 |cons r l ih=>
  rw[aw,fm,bm,List.flatten_append,ih,h1,qB w _ _ (ne_of_beq_false h8).symm,hw,List.replicate_append_replicate,aw,di,An]
theorem fr{α:Type}[BEq α] [LawfulBEq α] {a b:α}(k:Nat):(ab k a).filter (·==b)=(if a==b then ab k a else[]):= by
 rw[List.filter_replicate]
theorem fr' {α:Type}[BEq α] [LawfulBEq α] {a b:α}(k:Nat):(ab k a).filter (· != b)=(if a==b then[] else ab k a):= by
 rw[List.filter_replicate];cases h:a==b<;>simp[bne,h]
noncomputable def hY (r:Nat):List Int:=ab (r/3) 52++ab (r%3) 23
def jT (p r:Nat):List Int:=ab (r/2) (cG p)++ab (r%2) (fM p)
def qC (p r:Nat):List Int:=jT p (r/3)++ab (r%3) 23
theorem SD{p:Nat}(hp:p<5):cG p≠8/\fM p≠8/\(fM p==cG p)=Wv/\((23:Int)==cG p)=Wv/\fM p≠23:=aEQ (P:=λp=>cG p≠8/\fM p≠8/\(fM p==cG p)=Wv/\((23:Int)==cG p)=Wv/\fM p≠23) (by decide) hp
theorem aFQ (runs:List Nat){w:Int->Nat}(w1:w 23=1) (w2:w 52=3):(((jS hY runs).filter (·==52)++(jS hY runs).filter (· != 52)).map (sP w)).flatten=fD 3 runs:= by
 refine AG (by decide) w2 (λr=>?_) (λr=>?_) runs
 ·unfold hY;rw[List.filter_append,fr,fr,if_pos (by decide),if_neg (by decide),bj]
 ·unfold hY;rw[List.filter_append,fr',fr',if_pos (by decide),if_neg (by decide),pn,qB w _ 23 (by decide),w1,qg]
theorem ff1{a:Int}(k:Nat):(ab k a).filter (·==a)=ab k a:=by rw[fr,if_pos (beq_self_eq_true a)]
theorem ff0{a b:Int}(k:Nat) (h:(a==b)=Wv):(ab k a).filter (·==b)=[]:=by rw[fr,h];rfl
theorem fg1{a:Int}(k:Nat):(ab k a).filter (· != a)=[]:=by rw[fr',if_pos (beq_self_eq_true a)]
theorem fg0{a b:Int}(k:Nat) (h:(a==b)=Wv):(ab k a).filter (· != b)=ab k a:=by rw[fr',h];rfl
theorem aFR{p:Nat}(hp:p<5) (runs:List Nat){w:Int->Nat}(w1:w (fM p)=1) (w2:w (cG p)=2):(((jS (jT p) runs).filter (·==cG p)++(jS (jT p) runs).filter (· != cG p)).map (sP w)).flatten=fD 2 runs:= by
 obtain⟨n1,n2,n3,n4,n5⟩:=SD hp;refine AG n1 w2 (λr=>?_) (λr=>?_) runs
 ·unfold jT;rw[List.filter_append,ff1,ff0 _ n3,bj]
 ·unfold jT;rw[List.filter_append,fg1,fg0 _ n3,pn,qB w _ _ n2,w1,qg]
theorem aFS{p:Nat}(hp:p<5) (runs:List Nat){w:Int->Nat}(w0:w 23=1) (w1:w (fM p)=3) (w2:w (cG p)=6):(((jS (qC p) runs).filter (·==cG p)++(jS (qC p) runs).filter (· != cG p)).map (sP w)).flatten=fD 6 runs:= by
 obtain⟨n1,n2,n3,n4,n5⟩:=SD hp;refine AG n1 w2 (λr=>?_) (λr=>?_) runs
 ·unfold qC jT;rw[List.filter_append,List.filter_append,ff1,ff0 _ n3,ff0 _ n4,bj,bj,Nat.div_div_eq_div_mul]
 ·unfold qC jT;rw[List.filter_append,List.filter_append,fg1,fg0 _ n3,fg0 _ n4,pn,bm,List.flatten_append,qB w _ _ n2,qB w _ 23 (by decide),w1,w0,List.replicate_append_replicate,qg,qt,<-Nat.mod_mul]
theorem XE (r:Nat):(CT r).map (·.2)=hY r:=by unfold CT hY;simp
theorem HW (p r:Nat):(yG p r).map (·.2)=jT p r:=by unfold yG jT;simp
theorem aCF (p r:Nat):(KY p r).map (·.2)=qC p r:=by unfold KY qC;rw[bm,HW];simp
theorem SE (f:Nat->List (List Nat×Int)) (hf:∀r,(f r).length<=r) (runs:List Nat):(sO f runs).length<=runs.sum+runs.length:= by
 induction runs with
 |nil=>exact ai 0
 |cons r l ih=>
  have hr:=hf r;cases l with
  |nil=>exact aa hr (gy r)
  |cons q l=>
   show(f r++([41],8)::sO f (q::l)).length<=r+(q::l).sum+((q::l).length+1);rw[am,ci,Nat.add_assoc r];exact jo hr (im ih)
theorem oU (r:Nat){d:Nat}(hd:0<d):r/d+r%d<=r:=aa (ax (vz _ hd) _) (be (po r d))
theorem oV{α:Type}(x y:α) (r:Nat){d:Nat}(hd:0<d):(ab (r/d) x++ab (r%d) y).length<=r:= by
 rw[am,dq,dq];exact oU r hd
theorem vZ{p:Nat}(hp:p<5){f:Nat->List (List Nat×Int)}{g:Nat->List Nat}{nu:Nat->List Int}(hf:∀r{t:List Nat},Tail t->(∀c∈t,c∈[a8 p,46,41])->GoodT (f r) t) (hl:∀r,∀c∈g r,c∈[a8 p,46,41]) (hg:∀r,cE (f r)=g r) (hn:∀r,(f r).map (·.2)=nu r) (hL:∀r,(f r).length<=r) (runs:List Nat) (h:runs.sum+runs.length<=900):toks 999 (bV [41] (runs.map g))=J (jS nu runs):= by
 cases (funext hg:(λr=>cE (f r))=g);cases (funext hn:(λr=>(f r).map (·.2))=nu);have h2:=KR (sO f runs) 999 (KV (R8 hp f hf hl runs).1) (aa (SE f hL runs) (aa h (by decide)));rw[KW,R9] at h2;exact h2
theorem K1{p:Nat}(hp:p<5) (runs:List Nat) (h:runs.sum+runs.length<=900):toks 999 (bV [41] (runs.map λr=>ab r 46))=J (jS hY runs):=
 vZ hp (K0 hp) (λr c hc=>(ij.mp hc).2▸dt) FJ XE (λr=>oV _ _ r (by decide)) runs h
theorem K2{p:Nat}(hp:p<5) (runs:List Nat) (h:runs.sum+runs.length<=900):toks 999 (bV [41] (runs.map λr=>ab r (a8 p)))=J (jS (jT p) runs):=
 vZ hp (λr t ht hr=>yH hp r (ht.elim (λe=>e▸nofun) fun⟨q,e⟩=>e▸λh=>(AE hp).2.1 (fz h).symm) hr) (λr c hc=>(ij.mp hc).2▸ag) (vX p) (HW p) (λr=>oV _ _ r (by decide)) runs h
theorem SF{p:Nat}(hp:p<5) (runs:List Nat) (h:runs.sum+runs.length<=900):toks 999 (bV [41] (runs.map λr=>ab (r/3) (a8 p)++ab (r%3) 46))=J (jS (qC p) runs):=
 vZ hp (R7 hp) (λr=>l3 ag λc hc=>(ij.mp hc).2▸dt) (KZ p) (aCF p) (λr=>by
  unfold KY;rw[am,dq];exact aa (ax (oV _ _ (r/3) (by decide)) _) (oU r (by decide))) runs h
theorem CW (d:Nat) (hd:d≠40) (runs:List Nat):rL 40 d (cL runs)=bV [41] (runs.map λr=>ab r d):= by
 induction runs with
 |nil=>rfl
 |cons r l ih=>
  cases l with
  |nil=>show rL 40 d (ab r 40)=ab r d;simp[rL]
  |cons q l=>
   show rL 40 d (ab r 40++[41]++cL (q::l))=ab r d++[41]++bV [41] ((q::l).map λr=>ab r d);rw[pZ,pZ,ih];simp[rL]
end L1
namespace L1
variable{n:Nat}
noncomputable def wOf (D:List (Int×SV)) (k:Int):Nat:=match D.lookup k with
 |some (.i n)=>n.toNat
 |_=>0
def DNat (D:List (Int×SV)):Prop:=∀x∈D,∃n:Nat,x.2=.i (n:Int)/\n<900
theorem K3{D:List (Int×SV)}(hD:DNat D) (k:Int):ŏ .get (.dcti D) [.int k,.int 0]=J (.int (wOf D k:Int))/\wOf D k<900:= by
 have e:ŏ .get (.dcti D) [.int k,.int 0]=J (((D.lookup k).map SV.pv).getD (.int 0)):=rfl;rw[e];unfold wOf;cases h:D.lookup k with
 |none=>exact⟨rfl,by decide⟩
 |some v=>
  obtain⟨m,hm,Gq⟩:=hD _ (bC h);simp only at hm;subst hm;exact⟨by simp[SV.pv],by simp;exact Gq⟩
theorem K4{p:Nat}(hp:p<5):iT (.str ("*/<>=":Str)) (.int (p:Int))=J (.str (sx [a8 p]))/\((("(":Str))==sx [a8 p])=Wv:= by
 have:p=0\/p=1\/p=2\/p=3\/p=4:=by lia
 rcases this with rfl|rfl|rfl|rfl|rfl<;>exact⟨rfl,by decide⟩
theorem SG{p:Nat}(hp:p<5):iT (.tup [.int 16,.int 17,.int 20,.int 21,.int 22]) (.int (p:Int))=J (.int (fM p))/\iT (.tup [.int 35,.int 47,.int 33,.int 34,.int 27]) (.int (p:Int))=J (.int (cG p)):= by
 have:p=0\/p=1\/p=2\/p=3\/p=4:=by lia
 rcases this with rfl|rfl|rfl|rfl|rfl<;>exact⟨rfl,rfl⟩
noncomputable def D3:List (Int×SV):=[(23,.i 1),(52,.i 3)]
def D2 (p:Nat):List (Int×SV):=[(fM p,.i 1),(cG p,.i 2)]
def D6 (p:Nat):List (Int×SV):=[(23,.i 1),(fM p,.i 3),(cG p,.i 6)]
theorem SH{p:Nat}(hp:p<5):nZ [.int (fM p),.int 1,.int (cG p),.int 2]=J (D2 p)/\nZ [.int 23,.int 1,.int (fM p),.int 3,.int (cG p),.int 6]=J (D6 p)/\wOf (D2 p) (fM p)=1/\wOf (D2 p) (cG p)=2/\wOf (D6 p) 23=1/\wOf (D6 p) (fM p)=3/\wOf (D6 p) (cG p)=6:= by
 have:p=0\/p=1\/p=2\/p=3\/p=4:=by lia
 rcases this with rfl|rfl|rfl|rfl|rfl<;>exact⟨rfl,rfl,by decide +kernel,by decide +kernel,by decide +kernel,by decide +kernel,by decide +kernel⟩
theorem aER:DNat D3:=by intro x hx;simp[D3] at hx;rcases hx with rfl|rfl<;>first|exact⟨1,rfl,by decide⟩|exact⟨3,rfl,by decide⟩
theorem aES (p:Nat):DNat (D2 p):=by intro x hx;simp[D2] at hx;rcases hx with rfl|rfl<;>first|exact⟨1,rfl,by decide⟩|exact⟨2,rfl,by decide⟩
theorem aET (p:Nat):DNat (D6 p):=by intro x hx;simp[D6] at hx;rcases hx with rfl|rfl|rfl<;>first|exact⟨1,rfl,by decide⟩|exact⟨3,rfl,by decide⟩|exact⟨6,rfl,by decide⟩
def spw (p:Nat) (k:Int):List Nat:=if k=8 then[41] else if k=23 then[46] else[a8 p]
theorem yI{p r:Nat}:∀k∈hY r,ŏ .get (.dcti [(8,.t (sx [41])),(23,.t (sx [46])),(52,.t (sx [a8 p]))]) [.int k,.str (sx [])]=J (.str (sx (spw p k))):= by
 intro k h;rcases ew.mp h with h|h<;>cases (ij.mp h).2<;>rfl
theorem CX{p:Nat}:∀{runs:List Nat},∀k∈jS hY runs,ŏ .get (.dcti [(8,.t (sx [41])),(23,.t (sx [46])),(52,.t (sx [a8 p]))]) [.int k,.str (sx [])]=J (.str (sx (spw p k)))
 |[r],k,h=>yI k h
 |r::q::l,k,h=>(ew.mp h).elim (yI k) λh=>(dL.mp h).elim (λe=>by cases e;rfl) (CX k)
theorem XF{p:Nat}:∀runs:List Nat,((jS hY runs).map (spw p)).flatten=bV [41] (runs.map λr=>ab (r/3) (a8 p)++ab (r%3) 46):= by
 have base (r):((hY r).map (spw p)).flatten=ab (r/3) (a8 p)++ab (r%3) 46:= by
  show((ab _ _++ab _ _).map _).flatten=_;rw[bm,List.flatten_append,List.map_replicate,List.map_replicate,<-iG,<-iG];rfl
 intro runs
 induction runs with
 |nil=>rfl
 |cons r l ih=>
  cases l with
  |nil=>exact base r
  |cons q l=>
   show((hY r++_::_).map _).flatten=bV [41] (_::_::_);rw[bm,List.flatten_append,base,aw,fm,ih];exact(bk ..).symm
end L1
namespace L1
variable{n:Nat}
theorem v4 (nu:Nat->List Int) (h:∀r,(nu r).length<=r) (runs:List Nat):(jS nu runs).length<=runs.sum+runs.length:= by
 induction runs with
 |nil=>exact ai 0
 |cons r l ih=>
  cases l with
  |nil=>exact da (h r)
  |cons q l=>
   show(nu r++8::jS nu (q::l)).length<=r+(q::l).sum+((q::l).length+1);rw[am,ci,Nat.add_assoc r];exact jo (h r) (im ih)
theorem AH (f:Nat) (hf:0<f) (runs:List Nat):f*(runs.map (· / f)).sum+(runs.map (·%f)).sum=runs.sum:= by
 induction runs with
 |nil=>exact Df _
 |cons r l ih=>rw[aw,aw,di,di,di,An,Nat.add_add_add_comm,po,ih]
theorem K5 (f:Nat) (hf:0<f) (runs:List Nat):(fD f runs).length<=runs.sum+runs.length:= by
 have h1:=AH f hf runs;have h2:=kZ (runs.map (·%f));rw[ao] at h2;unfold fD;rw[am,dq];exact Ο (.x (.A (.M .q .r) .s) (.A .t .u)) [.z1 (.A (.M .q .r) .v) .t,.x .s (.A .v .u)] h1 h2
theorem SI (l:List (List Nat)):(l.map db).sum=l.flatten.length:=by rw[List.length_flatten]
theorem FL (N:List Int) (m:Int):(N.filter (·==m)++N.filter (· != m)).length=N.length:= by
 rw[am]
 induction N with
 |nil=>rfl
 |cons a l ih=>
  rw[List.filter_cons,List.filter_cons];show db (if (a==m)=Wu then _ else _)+db (if (!(a==m))=Wu then _ else _)=l.length+1;cases a==m
  ·exact congrArg (·+1) ih
  ·exact(Nat.succ_add ..).trans (congrArg (·+1) ih)
theorem FM (r:Nat):(hY r).length<=r:=oV _ _ r (by decide)
theorem v5 (p r:Nat):(jT p r).length<=r:=oV _ _ r (by decide)
theorem K6 (p r:Nat):(qC p r).length<=r:= by
 unfold qC;rw[am,dq];exact aa (ax (v5 p (r/3)) _) (oU r (by decide))
def aEU (runs:List Nat) (fold p:Nat) (a b c d e:Option PV):Ã:=[J (.str (sx (cL runs))),J (.int (fold:Int)),J (.int (p:Int)),J (.str (sx [a8 p])),J (.int (fM p)),J (.int (cG p)),a,b,c,d,e,Ww,Ww,Ww,Ww]
theorem AI{A:List Int}(h:A.length<=1000):(A.map PV.int).length<=100000:=by rw[ao];exact aa h (by decide)
theorem eWs{F:Fn}{pe:Ã}{a c e:PE}{tg:Nat}{N:List Int}{f:Int->List Nat}{r:List Nat}(h:aB F a pe=J (aU N)) (hl:N.length<=1000) (k:∀x∈N,aB F e (st pe tg (.int x))=J (.str (sx (f x)))) (hf:(N.map f).flatten=r) (hn:r.length<=100000):aB F (.me .join (.cst (.str ("":Str))) (.cons (.comp e tg (.val a) Wv c) .nil)) pe=J (.str (sx r)):=
 eM eC (eK (eWe (l2:=(N.map f).map λx=>.str (sx x)) (d8 h (AI hl)) (jG k) (by rw[ip];rfl)) eN) ((nF [] _ (by rw[SI,hf];exact hn)).trans (by rw[yB,hf]))
theorem SJ{A B:List Int}(h:A.length+B.length<=100000):iJ .Add (aU A) (aU B)=J (aU (A++B)):=
 (dZ _ _ (by rw[ao,ao];exact h)).trans (by rw[<-bm];rfl)
theorem SK{F:Fn}{runs:List Nat}{fold p:Nat}{N:List Int}{D:List (Int×SV)}{most:Int}{x8:Option PV}(hs:runs.sum+runs.length<=60) (hf:0<fold) (hD:DNat D) (hN:N.length<=runs.sum+runs.length) (ho:(((N.filter (·==most)++N.filter (· != most)).map (sP (wOf D))).flatten=fD fold runs)) (hm:aB F (.ite (.cmp .Eq Qe (.cst (.int 3))) (.cst (.int 52)) (.var 5)) (aEU runs fold p (J (aU N)) (J (.dcti D)) x8 Ww Ww)=J (.int most)):
  bQ (aD F (tq 5 m7.code) (aEU runs fold p (J (aU N)) (J (.dcti D)) x8 Ww Ww))=J (.str (sx (fD fold runs))):= by
 have hM:=FL N most;have hl:=aa (K5 fold hf runs) hs;have hN1:N.length<=1000:=aa hN (aa hs (by decide));refine aK (asg hm) (aK (asg (eB (eW (d8 rfl (AI hN1)) (s5 λx _=>⟨eQ rfl rfl rfl,λ_=>rfl⟩)) (eW (d8 rfl (AI hN1)) (s5 λx _=>⟨eQ rfl rfl rfl,λ_=>rfl⟩)) (SJ (by rw[<-am];exact aa (be hM) (aa hN1 (by decide)))))) (cS (eWs rfl (hM▸hN1) (λk _=>?_) ho (aa hl (by decide)))))
 ·obtain⟨g1,g2⟩:=K3 hD k
  by_cases h8:k=8
  ·subst h8;exact eIt (eQ rfl eC rfl) eC
  ·exact eIf (eQ rfl eC (congrArg J (beq_false_of_ne h8))) (eB eC (eM rfl (eK rfl (eK eC eN)) g1) ((RY 40 _ (by exact af g2 (by decide))).trans (congrArg (λx=>J (PV.str (sx x))) (if_neg h8).symm)))
theorem yJ{runs:List Nat}{p:Nat}(hs:runs.sum<=30) (hl:runs.length<=30) (hp:p<5){fold:Nat}(hf:fold=2\/fold=3\/fold=6):
  FT aQ (n+2) 15 [.str (sx (cL runs)),.int (fold:Int),.int (p:Int)]=J (.str (sx (fD fold runs))):= by
 obtain⟨s1,s2⟩:=K4 hp;obtain⟨t1,t2⟩:=SG hp;obtain⟨n1,n2,n3,n4⟩:=AE hp;obtain⟨d1,d2,w21,w22,w60,w61,w62⟩:=SH hp;have hrow:=kZ runs;have hr:(sx (cL runs)).length<=1000:=by rw[kH];exact ā (.x .q .kn) [.x .r (.N 30),.x .s (.N 30),.x .q (.A .r .s)] hs hl hrow
 have hu:(sx [a8 p]).length<=10:=show 1<=10 by decide
 have Hy:runs.sum+runs.length<=60:=by exact ä (.x (.A .q .r) (.N 60)) [.x .q (.N 30),.x .r (.N 30)] hs hl
 have rd:∀{g:Nat->List Nat}{r:List Int},toks 999 (bV [41] (runs.map g))=J r->(∀r,(g r).length<=r)->FT aQ (n+1) 14 [.str (sx (bV [41] (runs.map g)))]=J (aU r):=λh1 h2=>(aEN ..).trans (RJ h1 (aa (AB runs _ h2) (by exact aa Hy (by decide))));have r3:=rd (K1 hp runs (by exact aa Hy (by decide))) λ_=>be dq;have hN:=v4 _ FM runs;have q3:Txt.replace (sx (cL runs)) ("(":Str) (".":Str)=sx (bV [41] (runs.map λr=>ab r 46)):=(qA ..).trans (congrArg sx (CW _ (by decide) runs))
 rw[ft (n+1) 15 m7 _ rfl];refine dX rfl (aK (asg (eS eC rfl s1)) (aK (asgT (eT (eK (eS rfl rfl t1) (eK (eS rfl rfl t2) eN))) rfl) ?_));rcases hf with rfl|rfl|rfl
 ·exact aK (asg (eF (eK (eRp (t:=Wu) rfl (eQ rfl eC rfl) rfl ⟨hr,hu,by decide,s2,by decide⟩ ((qA ..).trans (congrArg sx (CW _ n3 runs)))) eN) (rd (K2 hp runs (aa Hy (by decide))) λ_=>be dq))) (aK (asg (eIf (eQ rfl eC rfl) (eD (eK rfl (eK eC (eK rfl (eK eC eN)))) d1))) (dF (eQ rfl eC rfl) (SK Hy (by decide) (aES p) (v4 _ (v5 p) runs) (aFR hp runs w21 w22) (eIf (eQ rfl eC rfl) rfl))))
 ·exact aK (asg (eF (eK (eRp (t:=Wv) rfl (eQ rfl eC rfl) rfl ⟨hr,hu,by decide,s2,by decide⟩ q3) eN) r3)) (aK (asg (eIt (eQ rfl eC rfl) rfl)) (dF (eQ rfl eC rfl) (SK Hy (by decide) aER hN (aFQ runs (by decide +kernel) (by decide +kernel)) (eIt (eQ rfl eC rfl) eC))))
 ·refine aK (asg (eF (eK (eRp (t:=Wv) rfl (eQ rfl eC rfl) rfl ⟨hr,hu,by decide,s2,by decide⟩ q3) eN) r3)) (aK (asg (eIf (eQ rfl eC rfl) (eD (eK rfl (eK eC (eK rfl (eK eC eN)))) d1))) (aK (j8 (eQ rfl eC rfl) (seq (asg (eD (eK eC (eK eC (eK eC (eK eC (eK eC (eK rfl eN)))))) rfl)) (seq (asg (eF (eK (eWs rfl (by exact ā (.x .q .kn) [.x (.A .r .s) (.N 60),.x .q (.A .r .s)] Hy hN) (λk hk=>eM rfl (eK rfl (eK eC eN)) (CX k hk)) (XF runs) (aa (AB runs _ λr=>oV _ _ r (by decide)) (by exact aa Hy (by decide)))) eN) (rd (SF hp runs (aa Hy (by decide))) λr=>oV _ _ r (by decide)))) (aJ (asg (eD (eK eC (eK eC (eK rfl (eK eC (eK rfl (eK eC eN)))))) d2)))))) (SK Hy (by decide) (aET p) (v4 _ (K6 p) runs) (aFS hp runs w60 w61 w62) (eIf (eQ rfl eC rfl) rfl))))
end L1
namespace L1
abbrev Ý:=Int×Int×Int
def lp (t:Ý):PV:=aU [t.1,t.2.1,t.2.2]
def aM (p u:Int):Ý:=(u*bB p 0,u*bB p 16,u*bB p 32)
theorem gL (p c:Int):bB (p%48) c=bB p c:= by
 unfold bB;rw[Int.emod_sub_emod]
theorem HX{P:Int->Prop}(h:∀p:Fin 48,P (p.val:Int)){p:Int}(h0:0<=p) (h1:p<48):P p:=
 ca h0▸h ⟨p.toNat,(Int.toNat_lt h0).mpr h1⟩
theorem ZM (p:Int):0<=p%48/\p%48<48:=⟨ge _ (by decide),ds _ (by decide)⟩
theorem qD (p c:Int):0<=bB p c/\bB p c<=8:= by
 have h:=ZM (p-c);unfold bB;exact HX (P:=λf=>0<=(if (if 16-(if 48-f<f then 48-f else f)<8 then 16-(if 48-f<f then 48-f else f) else 8)>0 then(if 16-(if 48-f<f then 48-f else f)<8 then 16-(if 48-f<f then 48-f else f) else 8) else 0)/\(if (if 16-(if 48-f<f then 48-f else f)<8 then 16-(if 48-f<f then 48-f else f) else 8)>0 then(if 16-(if 48-f<f then 48-f else f)<8 then 16-(if 48-f<f then 48-f else f) else 8) else 0)<=8) (by decide +kernel) h.1 h.2
theorem K7 (p:Int):bB (p+8) 0=8-bB p 16/\bB (p+8) 16=8-bB p 32/\bB (p+8) 32=8-bB p 0:= by
 have h:=ZM p;rw[<-gL p,<-gL p,<-gL p,<-gL (p+8),<-gL (p+8),<-gL (p+8),<-Int.emod_add_emod p 48 8];exact HX (P:=λq=>bB ((q+8)%48) 0=8-bB q 16/\bB ((q+8)%48) 16=8-bB q 32/\bB ((q+8)%48) 32=8-bB q 0) (by decide +kernel) h.1 h.2
theorem yK (p u:Int) (t:Nat):aM (p+8*(t:Int)) u=ï (8*u) (aM p u).1 (aM p u).2.1 (aM p u).2.2 t:= by
 induction t with
 |zero=>exact congrArg (aM · u) (se p)
 |succ t ih=>
  rw[show p+8*((t+1:Nat):Int)=(p+8*(t:Int))+8 by lia];simp only[ï];rw[<-ih];unfold aM;obtain⟨h1,h2,h3⟩:=K7 (p+8*(t:Int));rw[h1,h2,h3];refine pf ?_ (pf ?_ ?_)<;>simp only[Int.mul_sub]<;>lia
theorem lA (p u:Int):aM (p%48) u=aM p u:=by unfold aM;rw[gL,gL,gL]
def jU (A B C:Int):Int:=if A=aE A B C then B-C else if B=aE A B C then 2*(aE A B C-aL A B C)+(C-A) else 4*(aE A B C-aL A B C)+(A-B)
theorem SL (A B C:Int) (hd:aL A B C<aE A B C):lU A B C*((aE A B C-aL A B C:Int):Rat)=((jU A B C:Int):Rat):= by
 have hp:(0:Rat)<((aE A B C-aL A B C:Int):Rat):= by
  have:=bn.mpr (show(0:Int)<aE A B C-aL A B C by exact ő (.t .n0 .ka) [.t .b .a] hd)
  exact_mod_cast this
 unfold lU jU;generalize (aE A B C-aL A B C)=d at*;have key:∀z:Int,(z:Rat)/(d:Rat)*(d:Rat)=(z:Rat):=by intro z;grind
 split
 ·rw[key]
 ·split
  ·have:=key (C-A);generalize ((C-A:Int):Rat)/(d:Rat)=q at*;push_cast at this⊢;grind
  ·have:=key (A-B);generalize ((A-B:Int):Rat)/(d:Rat)=q at*;push_cast at this⊢;grind
abbrev Fm:=Int×Int×Int×Int
noncomputable def evF (u a b c:Int) (f:Fm):Int:=f.1*u+f.2.1*a+f.2.2.1*b+f.2.2.2*c
noncomputable def lnF (m:Int) (f:Fm) (n:Int) (g:Fm):Fm:=(m*f.1+n*g.1,m*f.2.1+n*g.2.1,m*f.2.2.1+n*g.2.2.1,m*f.2.2.2+n*g.2.2.2)
noncomputable def ng (x:Int):Int:=if x<0 then x else 0
def loF (f:Fm):Int:=7*f.1+8*(ng f.2.1+ng f.2.2.1+ng f.2.2.2)
theorem aCG (u a b c m n:Int) (f g:Fm):evF u a b c (lnF m f n g)=m*evF u a b c f+n*evF u a b c g:= by
 unfold evF lnF;grind
theorem SM{x a E:Int}(h:0<=a/\a<=E):ng x*E<=x*a:= by
 unfold ng;split
 ·rename_i hx;exact Int.mul_le_mul_of_nonpos_left (ba hx) h.2
 ·rename_i hx;rw[Int.zero_mul];exact oo (dr.mp hx) h.1
theorem SN (x:Int):ng x<=0:=by unfold ng;split<;>lia
theorem aCH{u E a b c:Int}(hE:7*E<8*u) (ha:0<=a/\a<=E) (hb:0<=b/\b<=E) (hc:0<=c/\c<=E) (f:Fm):loF f*u<=7*evF u a b c f:= by
 have h1:=SM (x:=f.2.1) ha;have h2:=SM (x:=f.2.2.1) hb;have h3:=SM (x:=f.2.2.2) hc;have h4:=Int.mul_le_mul_of_nonpos_left (show ng f.2.1+ng f.2.2.1+ng f.2.2.2<=0 by have:=SN f.2.1;have:=SN f.2.2.1;have:=SN f.2.2.2;lia) (ba hE);unfold loF evF;exact Ğ [_,_,_,_,_,_,_,_,_,_,_,_] (.l (.M (.A (.M .n7 .a) (.M .n8 (.A .kw .d))) .e) (.M .n7 (.A (.A (.A (.M .a .e) (.M .f .g)) (.M .h .i)) (.M .j .k)))) [.L 7 (.M .b .o) (.M .f .g),.L 7 (.M .c .o) (.M .h .i),.L 7 (.M .d .o) (.M .j .k),.l (.M (.A .kw .d) (.M .n8 .e)) (.M (.A .kw .d) (.M .n7 .o))] h1 h2 h3 h4
def aEV (i:Nat) (x y z d:Fm):Fm:=match i with
 |0=>lnF 1 y (-1) z
 |1=>lnF 2 d 1 (lnF 1 z (-1) x)
 |_=>lnF 4 d 1 (lnF 1 x (-1) y)
noncomputable def pk (i:Nat) (x y z:Fm):Fm:=match i with
 |0=>x
 |1=>y
 |_=>z
def XG (q:Int) (j:Int) (i k:Nat) (x y z:Fm):Bool:=
 let M:=pk i x y z;let N:=pk k x y z;let d:=lnF 1 M (-1) N;let h:=lnF 8 (aEV i x y z d) (-(q+48*j)) d
 decide (0<loF (lnF 1 x (-1) M))||(decide (0<loF (lnF 1 y (-1) M))||(decide (0<loF (lnF 1 z (-1) M))||(decide (0<loF (lnF 1 N (-1) x))||(decide (0<loF (lnF 1 N (-1) y))||(decide (0<loF (lnF 1 N (-1) z))||
  (decide (0<loF d)&&(decide (0<=loF (lnF 3 d 1 h))&&decide (0<=loF (lnF 3 d (-1) h)))))))))
noncomputable def jq (q:Int) (i:Nat):Int:=if 24<=q/\i=0 then -1 else 0
theorem SO:∀q:Fin 48,((cv 3).all λi=>(cv 3).all λk=>XG (q.val:Int) (jq (q.val:Int) i) i k (bB (q.val:Int) 0,1,0,0) (bB (q.val:Int) 16,0,1,0) (bB (q.val:Int) 32,0,0,1))=Wu:=by decide +kernel
theorem aEW{x:Int}(h:0<7*x):0<x:=by lia
theorem aCI{x:Int}(h:0<=7*x):0<=x:=by lia
theorem aEX{a b:Int}(h:0<1*a+-1*b) (k:a<=b):False:=by lia
theorem SP{V:Fm->Int}{q:Int}{x y z:Fm}(ln:∀m n f g,V (lnF m f n g)=m*V f+n*V g) (ps:∀f,0<loF f->0<V f) (nn:∀f,0<=loF f->0<=V f) (key:((cv 3).all λi=>(cv 3).all λk=>XG q (jq q i) i k x y z)=Wu){A B C:Int}(fA:V x=A) (fB:V y=B) (fC:V z=C):
  ∃j:Int,aL A B C<aE A B C/\-(3*(aE A B C-aL A B C))<=8*jU A B C-(q+48*j)*(aE A B C-aL A B C)/\8*jU A B C-(q+48*j)*(aE A B C-aL A B C)<=3*(aE A B C-aL A B C):= by
 obtain⟨m1,m2,m3,m4⟩:=bE A B C;obtain⟨n1,n2,n3,n4⟩:=dA A B C;obtain⟨i,Qp,eM,eH⟩:∃i<3,V (pk i x y z)=aE A B C/\∀d,V d=aE A B C-aL A B C->V (aEV i x y z d)=jU A B C:= by
  unfold jU
  by_cases hA:A=aE A B C
  ·exact⟨0,by decide,fA.trans hA,λd _=>by rw[if_pos hA];show V (lnF _ _ _ _)=_;rw[ln,fB,fC,qi,qh,qi];rfl⟩
  ·by_cases hB:B=aE A B C
   ·exact⟨1,by decide,fB.trans hB,λd hd=>by rw[if_neg hA,if_pos hB];show V (lnF _ _ _ (lnF _ _ _ _))=_;rw[ln,ln,fA,fC,hd];clear ps nn ln key;lia⟩
   ·exact⟨2,by decide,fC.trans ((m4.resolve_left λh=>hA h.symm).resolve_left λh=>hB h.symm).symm,λd hd=>by rw[if_neg hA,if_neg hB];show V (lnF _ _ _ (lnF _ _ _ _))=_;rw[ln,ln,fA,fB,hd];clear ps nn ln key;lia⟩
 obtain⟨k,hk3,eN⟩:∃k<3,V (pk k x y z)=aL A B C:= by
  rcases n4 with h|h|h
  ·exact⟨0,by decide,fA.trans h.symm⟩
  ·exact⟨1,by decide,fB.trans h.symm⟩
  ·exact⟨2,by decide,fC.trans h.symm⟩
 have c0:=bz.mp (bz.mp key i (nt.mpr Qp)) k (nt.mpr hk3);have ed:V (lnF 1 (pk i x y z) (-1) (pk k x y z))=aE A B C-aL A B C:=by rw[ln,eM,eN,qi,qh,qi];rfl
 have eh:=eH _ ed;clear eH m4 n4 key;generalize aE A B C=M at*;generalize aL A B C=N at*;generalize jU A B C=H at*;unfold XG at c0
 dsimp only at c0
 generalize lnF 1 (pk i x y z) (-1) (pk k x y z)=D at*;simp only[mr,bt,decide_eq_true_eq] at c0;have no:∀{f g:Fm}{a b:Int},V f=a->V g=b->a<=b->¬0<loF (lnF 1 f (-1) g):=λe1 e2 l h=>aEX (e1▸e2▸ln _ _ _ _▸ps _ h) l
 replace c0:=((((((c0.resolve_left (no fA eM m1)).resolve_left (no fB eM m2)).resolve_left (no fC eM m3)).resolve_left (no eN fA n1)).resolve_left (no eN fB n2)).resolve_left (no eN fC n3))
 obtain⟨h,h2,h3⟩:=c0;have g1:=ps _ h;have g2:=nn _ h2;have g3:=nn _ h3;rw[ln,ln,ed,eh,qh (q+_)] at g2;rw[ln,ln,ed,eh,qh (q+_)] at g3;rw[ed] at g1;refine⟨jq q i,?_⟩;generalize (q+48*jq q i)*(M-N)=W at*;clear no h h2 h3 ps nn ln fA fB fC m1 m2 m3 n1 n2 n3 eM eN ed eh;exact⟨Int.sub_pos.mp g1,by lia,by lia⟩
theorem SR{q u E a b c:Int}(h0:0<=q) (h1:q<48) (hu:0<u) (hE:7*E<8*u) (ha:0<=a/\a<=E) (hb:0<=b/\b<=E) (hc:0<=c/\c<=E){A B C:Int}(eA:A=(aM q u).1+a) (eB:B=(aM q u).2.1+b) (eC:C=(aM q u).2.2+c):
  ∃j:Int,aL A B C<aE A B C/\-(3*(aE A B C-aL A B C))<=8*jU A B C-(q+48*j)*(aE A B C-aL A B C)/\8*jU A B C-(q+48*j)*(aE A B C-aL A B C)<=3*(aE A B C-aL A B C):= by
 have lo:=aCH hE ha hb hc;exact SP (V:=evF u a b c) (aCG u a b c) (λf h=>aEW (gj (Int.mul_pos h hu) (lo f))) (λf h=>aCI (ar (oo h (ba hu)) (lo f)))
  (HX (P:=λq=>((cv 3).all λi=>(cv 3).all λk=>XG q (jq q i) i k (bB q 0,1,0,0) (bB q 16,0,1,0) (bB q 32,0,0,1))=Wu) SO h0 h1)
  (by rw[eA];unfold evF aM;simp[jp]) (by rw[eB];unfold evF aM;simp[jp]) (by rw[eC];unfold evF aM;simp[jp])
end L1
theorem l65:Ç 0x401a000000000000/\R 0x401a000000000000=13/2:= by
 have:=oA (x:=0x401a000000000000) (n:=13) (d:=2) (by decide +kernel) (by decide) (by decide +kernel);exact⟨this.1,by rw[this.2];push_cast;grind⟩
theorem fq8{p:Int}(h0:0<=p) (h1:p<48):Ç (fq p 8)/\R (fq p 8)=(p:Rat)/8:= by
 have:=jR (S:=8) ⟨3,by decide,rfl⟩ (x:=p) (ì [_] [_] (.x .q .ke) [.t .a (.N 48),.e .q .a] h1 (av (Ğ [_] (.l .n0 .a) [.l .n0 .a] h0)));refine⟨this.1,?_⟩;have h2:=this.2;push_cast at h2;have:R (fq p ((8:Nat):Int))*8=(p:Rat):=h2;show R (fq p ((8:Nat):Int))=_;exact Ï (.U 8 .a (.D .b .n8)) [.e (.M .a .n8) .b] rfl this
namespace L1
noncomputable def SZ (c:Nat):Nat:=16*8^c
noncomputable def E8 (k:Nat):Int:=((8^k:Nat):Int)
theorem E8_s (k:Nat):E8 (k+1)=8*E8 k:=by unfold E8;rw[vm];push_cast;lia
def SZ_sc{c:Nat}(h:c<=20):Sc (SZ c):=⟨3*c+4,by exact Ć (.x (.A (.M .n3 .q) .n4) .kn) [.X 3 .q (.N 20)] h,by
 unfold SZ;rw[nv,Nat.pow_mul,jj]⟩
theorem SZ_le{c:Nat}(h:c=6\/c=8):SZ c<=2^28:=by rcases h with rfl|rfl<;>decide
theorem nb{a b:Nat}(h:qv a b=Wu):a<=b:=Nat.le_of_ble_eq_true h
theorem AJ{k:Nat}(hk:k<10):dD (E8 k)=Wu:=(show ∀k:Fin 10,dD (E8 k.val)=Wu by decide) ⟨k,hk⟩
theorem FN (k:Nat) (hk:k<=20):iJ .Pow (.int 8) (.int (k:Int))=J (.int (E8 k)):= by
 rw[vI _ _ ⟨by decide,by decide,by exact Ć (.l .n0 .q) [],by exact Ć (.t .q (.N 100)) [.x .q (.N 20)] hk⟩,lg];push_cast;rfl
theorem d9{F:Fn}{pe:Ã}{i c:Nat}(h:lk pe i=J (.int (c:Int))) (hc:c<=20):aB F (.bin .Mult (.cst (.int 16)) (.bin .Pow Qf (.var i))) pe=J (.int (SZ c:Int)):= by
 refine eB eC (eB eC h (FN c hc)) ((dY 16 (E8 c) (by decide)).trans ?_);unfold SZ;push_cast;rfl
theorem aCJ{v T w j n:Int}(a:T+6-6*w+6*j-6*n-1<v) (b:v<T+6-6*w+6*j-6*n+1):v%6=T%6:=by lia
theorem aFT{h:UInt64}{p T q j d N:Int}{hQ:Rat}(fh:Ç h) (h0:0<=R h) (h1:R h<=1+1/2^52) (hn:∃n:Int,hQ-6*n-1/2^49<=6*R h/\6*R h<=hQ-6*n+1/2^49)
  (p0:0<=p) (p1:p<48) (hq:q=(p+8*T)%48) (hd:0<d) (hN:hQ*(d:Rat)=(N:Rat)) (k1:-(3*d)<=8*N-(q+48*j)*d) (k2:8*N-(q+48*j)*d<=3*d):
  ∃v:Int,ċ .int [.flt (add (ae (mul (au 6) h) (fq p 8)) 0x401a000000000000)]=J (.int v)/\v%6=T%6:= by
 obtain⟨n,Sv,Tv⟩:=hn;have hdp:(0:Rat)<(d:Rat):= by
  have:=bn.mpr hd
  exact_mod_cast this
 have g1:=an.mpr k1;have g2:=an.mpr k2;push_cast at g1 g2;rw[<-hN] at g1 g2;have c1:-3<=8*hQ-((q:Rat)+48*(j:Rat)):=cT hdp (by grind);have c2:8*hQ-((q:Rat)+48*(j:Rat))<=3:=cT hdp (by grind);have hqT:(q:Rat)=(p:Rat)+8*(T:Rat)-48*(((p+8*T)/48:Int):Rat):= by
  have:q=p+8*T-48*((p+8*T)/48):=by lia
  have:=congrArg (λz:Int=>(z:Rat)) this;push_cast at this;exact this
 obtain⟨s1,s2⟩:=j6 (i:=6) (by decide);have s3:R (au 6)=6:=by rw[s2];rfl
 obtain⟨f1,f2⟩:=fq8 p0 p1;have pp0:(0:Rat)<=(p:Rat):=by have:=an.mpr p0;exact_mod_cast this
 have pp1:(p:Rat)<=48:=by have:=an.mpr (ba p1);exact_mod_cast this
 obtain⟨a1,a2,a3,-⟩:=iM s1 fh (M:=16) ⟨4,by decide,rfl⟩ (by rw[s3];push_cast;exact Æ (.l (.G (.N 16)) .kj) [.L 6 .n0 .a] rfl h0) (by rw[s3];push_cast;exact Æ (.l .kj (.N 16)) [.L 6 .a .kd] rfl h1);rw[s3] at a2 a3;push_cast at a2 a3;obtain⟨b1,b2,b3,-⟩:=iW a1 f1 (M:=16) ⟨4,by decide,rfl⟩ (by rw[f2];push_cast;exact Ó (.L 8 (.G (.N 16)) (.S .a (.D .b .n8))) [.L 48 .n0 .c,.l .b (.N 48),.L 8 (.S (.M .n6 .c) (.E 16)) .a] rfl h0 pp1 a2) (by rw[f2];push_cast;exact Ó (.L 8 (.S .a (.D .b .n8)) (.N 16)) [.L 48 .c .kd,.l .n0 .b,.L 8 .a (.A (.M .n6 .c) (.E 16))] rfl h1 pp0 a3);rw[f2] at b2 b3;push_cast at b2 b3;obtain⟨t1,t2⟩:=l65;obtain⟨e1,e2,e3,-⟩:=j5 b1 t1 (M:=32) ⟨5,by decide,rfl⟩ (by rw[t2];push_cast;exact á (.L 8 (.G (.N 32)) (.A .a (.D (.N 13) .n2))) [.L 48 .n0 .b,.l .c (.N 48),.L 8 (.S (.M .n6 .b) (.E 16)) .d,.L 8 (.S (.S .d (.D .c .n8)) (.E 16)) .a] rfl h0 pp1 a2 b2) (by rw[t2];push_cast;exact á (.L 8 (.A .a (.D (.N 13) .n2)) (.N 32)) [.L 48 .b .kd,.l .n0 .c,.L 8 .d (.A (.M .n6 .b) (.E 16)),.L 8 .a (.A (.S .d (.D .c .n8)) (.E 16))] rfl h1 pp0 a3 b3);rw[t2] at e2 e3;push_cast at e2 e3;generalize add (ae (mul (au 6) h) (fq p 8)) 0x401a000000000000=z at*;have z0:0<=R z:=by exact ð (.L 8 .n0 .a) [.L 48 .n0 .b,.l .c (.N 48),.L 8 (.S (.M .n6 .b) (.E 16)) .d,.L 8 (.S (.S .d (.D .c .n8)) (.E 16)) .e,.L 8 (.S (.A .e (.D (.N 13) .n2)) .kx) .a] rfl h0 pp1 a2 b2 e2
 obtain⟨v,v0,v1,v2,v3⟩:=HM e1 z0;refine⟨v,v1,?_⟩;generalize (p+8*T)/48=w at*;have lo:((T+6-6*w+6*j-6*n-1:Int):Rat)<(v:Rat):=by push_cast;exact Đ [_,_,_,_,_,_,_,_,_,_,_,_] (.T 8 (.S (.S (.A (.S (.A .a .n6) (.M .n6 .b)) (.M .n6 .c)) (.M .n6 .d)) .n1) .e) [.L 8 (.S (.S .f (.M .n6 .d)) (.D .n1 (.P .n2 49))) (.M .n6 .g),.l (.G .n3) (.S (.M .n8 .f) (.A .h (.M (.N 48) .c))),.L 8 (.S (.M .n6 .g) (.E 16)) .i,.L 8 (.S (.S .i (.D .j .n8)) (.E 16)) .k,.L 8 (.S (.A .k (.D (.N 13) .n2)) .kx) .o,.T 8 .o (.A .e .n1),.e (.S (.A .j (.M .n8 .a)) (.M (.N 48) .b)) .h] rfl Sv c1 a2 b2 e2 v3 hqT.symm
 have hi:(v:Rat)<((T+6-6*w+6*j-6*n+1:Int):Rat):=by push_cast;grind
 exact aCJ (gH lo) (gH hi)
end L1
namespace L1
variable{n:Nat}
noncomputable def jV (s t:Ý):Ý:=(s.1+t.1,s.2.1+t.2.1,s.2.2+t.2.2)
def gO (P T:Nat->Int):Nat->Ý
 |0=>(0,0,0)
 |k+1=>jV (gO P T k) (aM (P k+8*T k) (E8 k))
theorem AK (P T:Nat->Int) (k:Nat):gO P T (k+1)=jV (gO P T k) (aM (P k+8*T k) (E8 k)):=rfl
noncomputable def EN:Nat->Int
 |0=>0
 |k+1=>EN k+8*(E8 k)
theorem EN_c (k:Nat):EN (k+1)=EN k+8*(E8 k):=rfl
theorem EN_val:∀k:Nat,7*EN k+8=8*(E8 k)
 |0=>rfl
 |k+1=>by
  have:=EN_val k;rw[EN_c,E8_s];lia
theorem eE (k:Nat):(0:Int)<(E8 k):= by
 exact Int.natCast_pos.mpr (Nat.pow_pos (by decide))
theorem f0 (p u:Int) (hu:0<=u):(0<=(aM p u).1/\(aM p u).1<=8*u)/\(0<=(aM p u).2.1/\(aM p u).2.1<=8*u)/\(0<=(aM p u).2.2/\(aM p u).2.2<=8*u):= by
 have key:∀c:Int,0<=u*bB p c/\u*bB p c<=8*u:=λc=>by
  obtain⟨h0,h1⟩:=qD p c;exact⟨oo hu h0,by have:=dd h1 hu;exact ő (.l .kc (.M .n8 .a)) [.l .kc (.M .a .n8)] this⟩
 exact⟨key 0,key 16,key 32⟩
theorem CY (P T:Nat->Int) (k:Nat):(0<=(gO P T k).1/\(gO P T k).1<=EN k)/\(0<=(gO P T k).2.1/\(gO P T k).2.1<=EN k)/\(0<=(gO P T k).2.2/\(gO P T k).2.2<=EN k):= by
 induction k with
 |zero=>exact⟨⟨bq 0,bq 0⟩,⟨bq 0,bq 0⟩,⟨bq 0,bq 0⟩⟩
 |succ k ih=>
  have d:=f0 (P k+8*T k) (E8 k) (ba (eE k));have go:∀{x y a b:Int},0<=x/\x<=a->0<=y/\y<=b->0<=x+y/\x+y<=a+b:=λh g=>⟨lc h.1 g.1,Int.add_le_add h.2 g.2⟩;rw[AK,EN_c];exact⟨go ih.1 d.1,go ih.2.1 d.2.1,go ih.2.2 d.2.2⟩
theorem qE (A B C s:Int):aE (A+s) (B+s) (C+s)=aE A B C+s:= by
 obtain⟨h1,h2,h3,h4⟩:=bE A B C;exact s6 (yb h1) (yb h2) (yb h3) (by rcases h4 with h|h|h<;>rw[h]<;>simp)
theorem qF (A B C s:Int):aL (A+s) (B+s) (C+s)=aL A B C+s:= by
 obtain⟨h1,h2,h3,h4⟩:=dA A B C;exact s7 (yb h1) (yb h2) (yb h3) (by rcases h4 with h|h|h<;>rw[h]<;>simp)
theorem AL (A B C s:Int):jU (A+s) (B+s) (C+s)=jU A B C:= by
 have sub:∀x y:Int,x+s-(y+s)=x-y:=λx y=>by lia
 have eqv:∀x y:Int,(x+s=y+s)=(x=y):=λx y=>propext ⟨λh=>by lia,λh=>by lia⟩;unfold jU;rw[qE,qF,sub,sub,sub,sub];simp only[eqv]
theorem dN{c:Nat}(hc:c=6\/c=8){x:Int}(h0:0<=x) (h1:x<=(SZ c:Int)):x.natAbs<=2^53:= by
 have:=SZ_le hc;exact ì [_] [_,_] (.x .q .ke) [.l .a .r,.x .r (.P .n2 28),.e .q .a] h1 this (av (Ğ [_] (.l .n0 .a) [.l .n0 .a] h0))
theorem Ř{w a m:Int}(hw:0<=w) (h:m<=a):0<=w+a-m:=by lia
theorem sh3 (w a m:Int):w+a-m=a+(w-m):=by lia
theorem K8{p T q j A B C:Int}{c:Nat}(hc:c=6\/c=8) (uA:0<=A/\A<=SZ c) (uB:0<=B/\B<=SZ c) (uC:0<=C/\C<=SZ c) (hd:aL A B C<aE A B C) (hp:0<=p/\p<48) (hq:q=(p+8*T)%48)
  (k1:-(3*(aE A B C-aL A B C))<=8*jU A B C-(q+48*j)*(aE A B C-aL A B C)) (k2:8*jU A B C-(q+48*j)*(aE A B C-aL A B C)<=3*(aE A B C-aL A B C)):
  ∃(h s v:UInt64) (x:Int),FT aQ (n+1) 3 [.flt (fq A (SZ c)),.flt (fq B (SZ c)),.flt (fq C (SZ c))]=J (.tup [.flt h,.flt s,.flt v])/\
   ċ .int [.flt (add (ae (mul (au 6) h) (fq p 8)) 0x401a000000000000)]=J (.int x)/\x%6=T%6:= by
 have hS:=SZ_sc (c:=c) (by rcases hc with rfl|rfl<;>decide);have hS50:SZ c<=2^50:=aa (SZ_le hc) (by decide);have ga:=jR hS (dN hc uA.1 uA.2);have gb:=jR hS (dN hc uB.1 uB.2);have gc:=jR hS (dN hc uC.1 uC.2);obtain⟨s,v,hv,H⟩:=ZE (F:=FT aQ n) hS hS50 ga gb gc uA uB uC hd;obtain⟨q1,q2,q3,q4⟩:=E2 hS ga gb gc (WN uA hS50) (WN uB hS50) (WN uC hS50) hd;obtain⟨x,x1,x2⟩:=aFT q1 q2 q3 q4 hp.1 hp.2 hq (Int.sub_pos.mpr hd) (SL _ _ _ hd) k1 k2;exact⟨_,s,v,x,(aCB _ _).trans hv,x1,x2⟩
theorem SS{P T:Nat->Int}{k c:Nat}{w m A B C:Int}(hc:c=6\/c=8) (hw:0<=w) (hP:0<=P k/\P k<48) (hM:gO P T (k+1)=(A,B,C)) (hm:m<=A/\m<=B/\m<=C)
  (hA:w+A-m<=SZ c) (hB:w+B-m<=SZ c) (hC:w+C-m<=SZ c):
  ∃(h s v:UInt64) (x:Int),FT aQ (n+1) 3 [.flt (fq (w+A-m) (SZ c)),.flt (fq (w+B-m) (SZ c)),.flt (fq (w+C-m) (SZ c))]=J (.tup [.flt h,.flt s,.flt v])/\
   ċ .int [.flt (add (ae (mul (au 6) h) (fq (P k) 8)) 0x401a000000000000)]=J (.int x)/\x%6=T k%6:= by
 obtain⟨a,b,d⟩:=CY P T k;rw[AK] at hM;have eA:=congrArg (λt:Ý=>t.1) hM;have eB:=congrArg (λt:Ý=>t.2.1) hM;have eC:=congrArg (λt:Ý=>t.2.2) hM
 dsimp only[jV] at eA eB eC
 rw[<-lA,ib] at eA eB eC;have hE:7*EN k<8*(E8 k):=by have:=EN_val k;exact ő (.t (.M .n7 .a) (.M .n8 .b)) [.e (.A (.M .n7 .a) .n8) (.M .n8 .b)] this
 obtain⟨j,hd,k1,k2⟩:=SR (ge _ (show(48:Int)≠0 by decide)) (ds _ (show(0:Int)<48 by decide)) (eE k) hE a b d eA.symm eB.symm eC.symm;have uA:=Ř hw hm.1;have uB:=Ř hw hm.2.1;have uC:=Ř hw hm.2.2;clear hM eA eB eC a b d hE;rw[sh3] at hA hB hC uA uB uC;rw[sh3,sh3,sh3];exact K8 hc ⟨uA,hA⟩ ⟨uB,hB⟩ ⟨uC,hC⟩ (by rw[qE,qF];exact Int.add_lt_add_right hd _) hP rfl (by rw[qE,qF,AL,Int.add_sub_add_right];exact k1) (by rw[qE,qF,AL,Int.add_sub_add_right];exact k2)
end L1
namespace L1
variable{n:Nat}
theorem SZ_pos (c:Nat):(0:Int)<(SZ c:Int):= by
 have:=Nat.pow_pos (n:=c) (show 0<8 by decide);unfold SZ;exact Ć (.t .n0 (.C (.M (.N 16) .q))) [.y .n0 .q] this
theorem aCK{c:Nat}(hc:c=6\/c=8){x:Int}(h0:0<=x) (h1:x<=(SZ c:Int)):Ç (fq x (SZ c)):=(jR (SZ_sc (c:=c) (by lia)) (dN hc h0 h1)).1
theorem kI{c:Nat}(hc:c=6\/c=8){x:Int}(h0:0<=x) (h1:x<=(SZ c:Int)):iJ .Div (.int x) (.int (SZ c:Int))=J (.flt (fq x (SZ c))):=kY _ _ (SZ_pos c) (aCK hc h0 h1)
noncomputable def XH (s t:Ý):Ý:=(s.1-t.1,s.2.1-t.2.1,s.2.2-t.2.2)
def TE (M tu fo:PV) (ps:List Int) (w:Int) (c:Nat) (m:Ý) (ts:List Int) (X:Nat->Option PV):Ã:=[J M,J (aU ps),J (.int w),J tu,J fo,J (.int (c:Int)),J (lp m),J (aU ts),X 8,X 9,X 10,X 11,X 12,X 13,X 14,X 15,Ww,Ww,Ww,Ww]
theorem K9{M tu fo:PV}{ps ts:List Int}{w p x q A B C:Int}{c k:Nat}{h s v:UInt64}{X:Nat->Option PV}(hc:c=6\/c=8) (k9:k<10) (gp:iT (aU ps) (.int (k:Int))=J (.int p)) (hp:0<=p/\p<48) (hq:ċ .min [aU [A,B,C]]=J (.int q))
  (hA:0<=w+A-q/\w+A-q<=SZ c) (hB:0<=w+B-q/\w+B-q<=SZ c) (hC:0<=w+C-q/\w+C-q<=SZ c) (e1:FT aQ (n+1) 3 [.flt (fq (w+A-q) (SZ c)),.flt (fq (w+B-q) (SZ c)),.flt (fq (w+C-q) (SZ c))]=J (.tup [.flt h,.flt s,.flt v]))
  (e2:ċ .int [.flt (add (ae (mul (au 6) h) (fq p 8)) 0x401a000000000000)]=J (.int x)) (hl:ts.length<=1000):
  ∃E,aD (FT aQ (n+1)) (bo (tq 3 cF.code)) (st (TE M tu fo ps w c (A,B,C) ts X) 8 (.int (k:Int)))=J (E,.next)/\E=TE M tu fo ps w c (XH (A,B,C) (aM (p+8*(x%6)) (E8 k))) (x%6::ts) (lk E):= by
 have z1:c<=20:=by rcases hc with rfl|rfl<;>decide
 apply Exists.intro;apply And.intro
 ·dsimp only[TE,st]
  refine seq (asgT (dG (d8 (l:=[A,B,C].map .int) rfl (nb rfl)) (eB (eB (eB rfl rfl rfl) (eI (eK rfl eN) hq) rfl) (d9 rfl z1) (kI hc hA.1 hA.2)) (eB (eB (eB rfl rfl rfl) (eI (eK rfl eN) hq) rfl) (d9 rfl z1) (kI hc hB.1 hB.2)) (eB (eB (eB rfl rfl rfl) (eI (eK rfl eN) hq) rfl) (d9 rfl z1) (kI hc hC.1 hC.2))) rfl) ?_
  dsimp only[st]
  refine seq (asgT (eF (eK rfl (eK rfl (eK rfl eN))) e1) rfl) ?_
  dsimp only[st]
  refine seq (asg (eB (eL (eK (eB (eI (eK (eB (eB (eB eC rfl (fK _ _ (by decide +kernel))) (eB (eS rfl rfl gp) eC (kY _ _ (by decide) (fq8 hp.1 hp.2).1)) rfl) eC rfl) eN) e2) eC (cN _ _ (by decide))) eN)) rfl (dZ _ _ (show 1+(ts.map PV.int).length<=_ by rw[ao];exact Ć (.x (.A .n1 .q) (.N 100000)) [.x .q .kn] hl)))) ?_
  dsimp only[st]
  refine seq (asg (eF (eK (eB (eS rfl rfl gp) (eB eC (eS rfl eC (lY (by decide) (by decide) rfl)) (dY _ _ (by decide))) rfl) (eK (eB eC rfl (FN k (dp (eb k9 (by decide))))) eN)) (nO (n:=n) _ (E8 k) (AJ k9)))) ?_;exact aJ (asg (dG (p:=.int 0) (q:=.int 1) (r:=.int 2) (lX (n:=3) rfl (nb rfl)) (eB (eS rfl rfl rfl) (eS rfl rfl rfl) rfl) (eB (eS rfl rfl rfl) (eS rfl rfl rfl) rfl) (eB (eS rfl rfl rfl) (eS rfl rfl rfl) rfl)))
 ·rfl
theorem SU (s t:Ý):XH (jV s t) t=s:= by
 unfold XH jV;refine pf ?_ (pf ?_ ?_)<;>simp only<;>lia
theorem yL (p t u:Int):aM (p+8*(t%6)) u=aM (p+8*t) u:= by
 rw[<-lA,<-lA (p+8*t)];congr 1;lia
noncomputable def aCL:Nat->List PV
 |0=>[]
 |k+1=>.int (k:Int)::aCL k
theorem CZ{c:Nat}(hc:c=6\/c=8):t6 ((c:Int)-1) (-1)=J (aCL c):= by
 rcases hc with rfl|rfl<;>rfl
noncomputable def tf (T:Nat->Int):Nat->List Int->List Int
 |0,acc=>acc
 |k+1,acc=>tf T k (T k%6::acc)
theorem aFU (T:Nat->Int) (k:Nat) (acc:List Int):tf T (k+1) acc=tf T k (T k%6::acc):=rfl
theorem SW (T:Nat->Int) (k:Nat):∀acc:List Int,tf T k acc=(cv k).map (λi=>T i%6)++acc:= by
 induction k with
 |zero=>exact λ_=>rfl
 |succ k ih=>intro acc;rw[aFU,ih,Bm,bm,bk];rfl
theorem Ť{c:Nat}:14*(E8 c)+EN c<=SZ c:= by
 have:=EN_val c;have h:(SZ c:Int)=16*(E8 c):=oe 16 _;exact ì [_,_] [_] (.L 56 (.A (.M (.N 14) .a) .b) .q) [.U 8 (.A (.M .n7 .b) .n8) (.M .n8 .a),.U 53 (.M (.N 16) .a) .q] this h.symm
theorem EN_mono:∀{k c:Nat},k<=c->EN k<=EN c
 |k,0,h=>by cases Nat.le_zero.mp h;exact bq _
 |k,c+1,h=>by
  rcases ov c k with h2|h2
  ·have:k=c+1:=by lia
   rw[this];exact bq _
  ·have:=EN_mono (k:=k) (c:=c) h2;have:=eE c;rw[EN_c];lia
theorem FO{c k:Nat}{w z m:Int}(hk:k+1<=c) (hw:0<=w/\w<=14*E8 c) (h:m<=z) (h':z<=EN (k+1)) (h0:0<=m):0<=w+z-m/\w+z-m<=SZ c:= by
 have hE:=EN_mono hk;have hZ:=Ť (c:=c);exact⟨by exact ż (.l .n0 (.S .kb .c)) [.l .n0 .a,.l .c .b] hw.1 h,by exact ì [_,_,_,_,_,_] [_] (.l (.S .kb .c) .q) [.l .a (.M (.N 14) .d),.l .e .f,.l (.A (.M (.N 14) .d) .f) .q,.l .n0 .c,.l .b .e] hw.2 hE hZ h0 h'⟩
theorem LB{ps:List Int}{T:Nat->Int}{c:Nat}{w:Int}{M tu fo:PV}(hc:c=6\/c=8) (hw:0<=w/\w<=14*(E8 c)) (Gp:ps.length=c) (hP:∀k<c,0<=ps.getD k 0/\ps.getD k 0<48) (k:Nat):
  ∀(acc:List Int) (X:Nat->Option PV),k<=c->acc.length+k<=100->∃Y,e9 (aD (FT aQ (n+1)) (bo (tq 3 cF.code))) [8] (aCL k) (TE M tu fo ps w c (gO (λk=>ps.getD k 0) T k) acc X)=J (TE M tu fo ps w c (0,0,0) (tf T k acc) Y,.next):= by
 induction k with
 |zero=>exact λacc X _ _=>⟨X,rfl⟩
 |succ k ih=>
  intro acc X hk hl;obtain⟨a,b,g⟩:=CY (λk=>ps.getD k 0) T (k+1);have IF:XH (gO (λk=>ps.getD k 0) T (k+1)) (aM (ps.getD k 0+8*(T k%6)) (E8 k))=gO (λk=>ps.getD k 0) T k:= by
   rw[yL,AK];exact SU _ _
  generalize hM:gO (λk=>ps.getD k 0) T (k+1)=Mk at*;obtain⟨A,B,C⟩:=Mk;obtain⟨n1,n2,n3,n4⟩:=aEL A B C;have Nj:0<=dR [A,B,C]:=by rcases n4 with h|h|h<;>rw[h];exact a.1;exact b.1;exact g.1
  have uA:=FO hk hw n1 a.2 Nj;have uB:=FO hk hw n2 b.2 Nj;have uC:=FO hk hw n3 g.2 Nj;have k9:k<10:=af hk (by rcases hc with rfl|rfl<;>decide);have ha:=Nat.le_of_add_right_le hl;obtain⟨h,s,v,x,e1,e2,e3⟩:=SS (n:=n) (P:=λk=>ps.getD k 0) (T:=T) hc hw.1 (hP k hk) hM ⟨n1,n2,n3⟩ uA.2 uB.2 uC.2;obtain⟨E,e4,e5⟩:=K9 (n:=n) (M:=M) (tu:=tu) (fo:=fo) (ts:=acc) (X:=X) hc k9 (cW (Gp.symm▸hk) (eb k9 (by decide))) (hP k hk) (pY [A,B,C] rfl) uA uB uC e1 e2 (aa ha (by decide));rw[e3,IF] at e5;obtain⟨Y,e6⟩:=ih (T k%6::acc) (lk E) (dp hk) (aa (be (Nat.succ_add_eq_add_succ acc.length k)) hl);exact⟨Y,bU rfl e4 (by rw[e5];exact e6)⟩
end L1
namespace L1
variable{n:Nat}
theorem SX{fold r:Nat}(hf:fold=2\/fold=3\/fold=6) (hr:r<fold):((cv fold).filter λk=>decide (k=r))=[r]:= by
 rcases hf with rfl|rfl|rfl<;>revert r<;>decide
def RE (M ps w cc rest:PV) (tu:Int) (fold:Nat) (ts:List Int) (x8:Option PV) (X:Nat->Option PV) (acc:List Int):Ã:=[J M,J ps,J w,J (.int tu),J (.int (fold:Int)),J cc,J rest,J (aU ts),x8,X 9,X 10,X 11,X 12,X 13,X 14,X 15,J (aU acc),Ww,Ww,Ww]
theorem LC{F:Fn}{M ps w cc rest:PV}{tu u z:Int}{ts acc:List Int}{fold k r:Nat}{x8:Option PV}{X:Nat->Option PV}(hs:dD tu=Wu) (g0:iT (aU ts) (.int (k:Int))=J (.int u)) (g1:iT (aU ts) (.int ((k:Int)+1))=J (.int z)) (hf:fold=2\/fold=3\/fold=6) (hr:r<fold)
  (hR:∀run<fold,(tu*((run:Int)-1)+u-z)%6=0<->run=r) (hl:acc.length<=1000):aD F (bo (tq 5 cF.code)) (st (RE M ps w cc rest tu fold ts x8 X acc) 8 (.int (k:Int)))=J (RE M ps w cc rest tu fold ts (J (.int (k:Int))) X (acc++[(r:Int)]),.next):= by
 dsimp only[RE,st]
 refine aJ ((ext (l:=acc.map .int) (l':=[.int (r:Int)]) rfl (eWe (lX (n:=fold) rfl (by lia)) (s5 (q:=λk=>decide (k=r)) (g:=λk:Nat=>.int (k:Int)) λrun Hv=>?_) (congrArg _ (SX hf hr))) (show(acc.map PV.int).length+1<=_ by rw[ao];exact Ć (.x .kl (.N 100000)) [.x .q .kn] hl)).trans ?_)
 ·exact⟨eQ (eB (eB (eB (eB rfl (eB rfl eC rfl) (dY _ _ hs)) (eS rfl rfl g0) rfl) (eS rfl (eB rfl eC rfl) g1) rfl) eC (cN _ 6 (by decide))) eC ((zV _ _).trans (congrArg J (by
   rw[og,beq_iff_eq,decide_eq_true_eq,hR run (nt.mp Hv)]))),λ_=>rfl⟩
 ·unfold aU;rw[bm];rfl
theorem LD{F:Fn}{M ps w cc rest:PV}{tu:Int}{ts:List Int}{fold c:Nat}{R:Nat->Nat}{X:Nat->Option PV}(hs:dD tu=Wu) (Wf:ts.length=c+1) (hc:c<=50) (hf:fold=2\/fold=3\/fold=6) (hr:∀k<c,R k<fold)
  (hR:∀k<c,∀run<fold,(tu*((run:Int)-1)+ts.getD k 0-ts.getD (k+1) 0)%6=0<->run=R k) (l:List Nat):
  ∀(acc:List Int) (x8:Option PV),(∀k∈l,k<c)->acc.length+l.length<=1000->∃y8,e9 (aD F (bo (tq 5 cF.code))) [8] (l.map λk:Nat=>PV.int (k:Int)) (RE M ps w cc rest tu fold ts x8 X acc)=J (RE M ps w cc rest tu fold ts y8 X (acc++l.map λk=>(R k:Int)),.next):= by
 induction l with
 |nil=>exact λacc x8 _ _=>⟨x8,by rw[jy,jy,bj];rfl⟩
 |cons k l ih=>
  intro acc x8 hk hl;have Ko:=hk k ag;obtain⟨y8,e⟩:=ih (acc++[(R k:Int)]) (J (.int (k:Int))) (λj hj=>hk j (ah k hj)) (vK hl);rw[bk] at e;have Tw:k+1<ts.length:=Wf.symm▸np Ko;have k5:k<50:=af Ko hc;exact⟨y8,bU rfl (LC hs (cW (zf Tw) (eb k5 (by decide))) (cW (k:=k+1) Tw (jv k5 (by decide))) hf (hr k Ko) (hR k Ko) (Nat.le_of_add_right_le hl)) e⟩
theorem wZ{ps:List Int}{T:Nat->Int}{c fold:Nat}{w tu:Int}{R:Nat->Nat}(hc:c=6\/c=8) (hw:0<=w/\w<=14*(E8 c)) (Gp:ps.length=c) (hP:∀k<c,0<=ps.getD k 0/\ps.getD k 0<48)
  (hs:dD tu=Wu) (hf:fold=2\/fold=3\/fold=6) (hr:∀k<c,R k<fold) (Fu:((cv c).map R).sum<=c)
  (hR:∀k<c,∀run<fold,(tu*((run:Int)-1)+(if k<c then T k%6 else 0)-(if k+1<c then T (k+1)%6 else 0))%6=0<->run=R k):
  FT aQ (n+2) 16 [lp (gO (λk=>ps.getD k 0) T c),aU ps,.int w,.int tu,.int (fold:Int)]=J (.str (sx (cL ((c-((cv c).map R).sum)::(cv c).map R)))):= by
 have c8:c<=8:=by rcases hc with rfl|rfl<;>decide
 have ets:∀k,k<c+1->(tf T c [0]).getD k 0=if k<c then T k%6 else 0:=λk hk=>by
  rw[SW,cg]
  by_cases h:k<c
  ·rw[List.getElem?_append_left (by rw[ao,gh];exact h),if_pos h,ej,yc h];rfl
  ·cases eo (qk hk) (oq h);rw[if_neg h,List.getElem?_append_right (by rw[ao,gh];exact ai _),ao,gh,Db];rfl
 have hlen:(tf T c [0]).length=c+1:=by rw[SW,am,ao,gh];rfl
 obtain⟨Y,Hs⟩:=LB (n:=n) (T:=T) (M:=lp (gO (λk=>ps.getD k 0) T c)) (tu:=.int tu) (fo:=.int (fold:Int)) hc hw Gp hP c [0] (λ_=>Ww) (ai _) (aa (dx c8 1) (by decide));obtain⟨z8,hloop2⟩:=LD (F:=FT aQ (n+1)) (R:=R) (fold:=fold) (tu:=tu) (ts:=tf T c [0]) (c:=c) (M:=lp (gO (λk=>ps.getD k 0) T c)) (ps:=aU ps) (w:=.int w) (cc:=.int (c:Int)) (rest:=lp (0,0,0)) (X:=Y) hs hlen (aa c8 (by decide)) hf hr (λk hk=>by rw[ets k (ia hk),ets (k+1) (np hk)];exact hR k hk) (cv c) [] (Y 8) (λk hk=>nt.mp hk) (by rw[gh];exact aa (dx c8 0) (by decide));have hLL:aU ([]++(cv c).map λk=>(R k:Int))=gK ((cv c).map R):=by rw[vU,ip];rfl
 have hLl:((cv c).map R).length<=8:=by rw[ao,gh];exact c8
 rw[ft (n+1) 16 cF _ rfl];apply dX rfl;show bQ (aD _ cF.code [J (lp (gO (λk=>ps.getD k 0) T c)),J (aU ps),J (.int w),J (.int tu),J (.int (fold:Int)),Ww,Ww,Ww,Ww,Ww,Ww,Ww,Ww,Ww,Ww,Ww,Ww,Ww,Ww,Ww])=_;refine aK (asg (eI (eK rfl eN) ((CP (Gp.symm▸aa c8 (by decide))).trans (by rw[Gp])))) (aK (asg rfl) (aK (asg (p:=aU [0]) rfl) (aK (pL (eR3 (eB rfl eC rfl) (eNg eC) (CZ hc)) Hs) (aK (asgO (l:=[]) rfl) (aK (pL (lX (n:=c) rfl (aa c8 (by decide))) hloop2) (cS ?_))))));generalize (cv c).map R=L at*;have s8:=aa Fu c8;exact eF (eK (eB (eL (eK (eB rfl (eI (eK (congrArg J hLL) eN) (CQ (aa hLl (by decide)) (aa s8 (by decide)))) rfl) eN)) (congrArg J hLL) ((dZ [_] _ (aa (dx (gG hLl) 1) (by decide))).trans (congrArg (λz=>J (PV.lst (.int z::L.map λk:Nat=>PV.int (k:Int)))) (Int.ofNat_sub Fu).symm))) eN) (AD (runs:=(c-L.sum)::L) (by rw[di,cf Fu];exact aa c8 (by decide)) (aa (im hLl) (by decide)))
end L1
namespace L1
abbrev Hex:=Int×Int
noncomputable def hx (s:Ý):Hex:=(s.1-s.2.1,s.2.1-s.2.2)
noncomputable def fU (x y:Hex):Hex:=(x.1+y.1,x.2+y.2)
noncomputable def tn (x:Hex):Hex:=(-x.2,x.1+x.2)
def tnN:Nat->Hex->Hex
 |0,x=>x
 |t+1,x=>tn (tnN t x)
theorem HY (t:Nat) (x:Hex):tnN (t+1) x=tn (tnN t x):=rfl
theorem sQ{x y:Hex}(h1:x.1=y.1) (h2:x.2=y.2):x=y:=pf h1 h2
theorem aCM (x y:Hex):tn (fU x y)=fU (tn x) (tn y):=sQ (by dsimp only[tn,fU];lia) (by dsimp only[tn,fU];lia)
theorem AM (t:Nat) (x y:Hex):tnN t (fU x y)=fU (tnN t x) (tnN t y):= by
 induction t with
 |zero=>rfl
 |succ t ih=>rw[HY,ih,aCM];rfl
theorem v6 (s t:Nat) (x:Hex):tnN (s+t) x=tnN s (tnN t x):= by
 induction s with
 |zero=>rw[gk];rfl
 |succ s ih=>rw[show s+1+t=(s+t)+1 by lia,HY,ih];rfl
theorem XI (x:Hex):tnN 6 x=x:=sQ (by dsimp only[tnN,tn];lia) (by dsimp only[tnN,tn];lia)
theorem C0 (x:Hex):∀q:Nat,tnN (6*q) x=x
 |0=>rfl
 |q+1=>by rw[show 6*(q+1)=6+6*q by lia,v6,C0 x q,XI]
theorem XJ (t:Nat) (x:Hex):tnN (t%6) x=tnN t x:= by
 have h:tnN t x=tnN (t%6+6*(t/6)) x:=by rw[Nat.mod_add_div]
 rw[h,v6,C0]
theorem LF (x y:Hex):fU x y=fU y x:=sQ (ib _ _) (ib _ _)
theorem v7 (x y z:Hex):fU (fU x y) z=fU x (fU y z):=sQ (Int.add_assoc _ _ _) (Int.add_assoc _ _ _)
theorem yM (x:Hex):fU x (0,0)=x:=sQ (se _) (se _)
theorem SY (s t:Ý):hx (jV s t)=fU (hx s) (hx t):=sQ (by dsimp only[hx,jV,fU];lia) (by dsimp only[hx,jV,fU];lia)
theorem FP (Z A B C:Int):∀t:Nat,hx (ï Z A B C t)=tnN t (hx (A,B,C))
 |0=>rfl
 |t+1=>by
  rw[HY,<-FP Z A B C t];exact sQ (by dsimp only[ï,hx,tn];lia) (by dsimp only[ï,hx,tn];lia)
theorem XK (p u:Int) (t:Nat):hx (aM (p+8*(t:Int)) u)=tnN t (hx (aM p u)):= by
 rw[yK,FP]
theorem S0 (p u T:Int):hx (aM (p+8*T) u)=tnN (T%6).toNat (hx (aM p u)):= by
 rw[<-XK,<-yL,ca (by lia)]
theorem XM (s:Ý) (w:Int):hx (s.1-w,s.2.1-w,s.2.2-w)=hx s:=sQ (by dsimp only[hx];lia) (by dsimp only[hx];lia)
def nrm (s:Ý):Ý:=(s.1-dR [s.1,s.2.1,s.2.2],s.2.1-dR [s.1,s.2.1,s.2.2],s.2.2-dR [s.1,s.2.1,s.2.2])
theorem S1 (y z d:Int):dR [y+d,z+d]=dR [y,z]+d:= by
 show(if z+d<y+d then z+d else y+d)=(if z<y then z else y)+d;simp only[Int.add_lt_add_iff_right];split<;>rfl
theorem XN (x y z d:Int):dR [x+d,y+d,z+d]=dR [x,y,z]+d:= by
 show(if dR [y+d,z+d]<x+d then dR [y+d,z+d] else x+d)=(if dR [y,z]<x then dR [y,z] else x)+d;rw[S1];simp only[Int.add_lt_add_iff_right];split<;>rfl
theorem aCN{s t:Ý}(h:hx s=hx t):nrm s=nrm t:= by
 have h1:=congrArg Prod.fst h;have h2:=congrArg Prod.snd h;obtain⟨a,b,c⟩:=s;obtain⟨x,y,z⟩:=t
 dsimp only[hx] at h1 h2
 obtain⟨d,rfl,rfl,rfl⟩:∃d,a=x+d/\b=y+d/\c=z+d:=⟨a-x,by lia,by lia,by lia⟩
 dsimp only[nrm]
 rw[XN,Int.add_sub_add_right,Int.add_sub_add_right,Int.add_sub_add_right]
theorem HZ{A B C m M:Int}(hA:m<=A/\A<=M) (hB:m<=B/\B<=M) (hC:m<=C/\C<=M) (t:Nat):(m<=(ï (M+m) A B C t).1/\(ï (M+m) A B C t).1<=M)/\(m<=(ï (M+m) A B C t).2.1/\(ï (M+m) A B C t).2.1<=M)/\(m<=(ï (M+m) A B C t).2.2/\(ï (M+m) A B C t).2.2<=M):= by
 induction t with
 |zero=>exact⟨hA,hB,hC⟩
 |succ t ih=>
  have go:∀{x:Int},m<=x/\x<=M->m<=M+m-x/\M+m-x<=M:=λh=>⟨by exact ż (.l .a (.S (.A .b .a) .c)) [.l .c .b] h.2,by exact ż (.l (.S .kb .c) .a) [.l .b .c] h.1⟩;exact⟨go ih.2.1,go ih.2.2,go ih.1⟩
def val (tu:Nat):List Ý->Hex
 |[]=>(0,0)
 |x::S=>fU (tnN (tu*S.length) (hx x)) (val tu S)
theorem C1 (tu:Nat) (x:Ý) (S:List Ý):val tu (x::S)=fU (tnN (tu*S.length) (hx x)) (val tu S):=rfl
theorem C2 (tu:Nat) (S:List Ý):val tu ((0,0,0)::S)=val tu S:= by
 rw[C1];have:∀t:Nat,tnN t (hx (0,0,0))=(0,0):=λt=>by
  induction t with
  |zero=>rfl
  |succ t ih=>rw[HY,ih];rfl
 rw[this];exact sQ (Int.zero_add _) (Int.zero_add _)
theorem LG{tu:Nat}{x y z o:Ý}{S:List Ý}(h:hx z=tnN tu (fU (hx o) (hx x))):val tu (jV y z::S)=fU (val tu (x::y::S)) (tnN (tu*(S.length+1)) (hx o)):= by
 rw[C1,C1,C1,SY,AM,h,ci];have e:∀v:Hex,tnN (tu*(S.length+1)) v=tnN (tu*S.length) (tnN tu v):=λv=>by rw[<-v6,Nat.mul_succ]
 rw[e,e,AM,AM];refine sQ ?_ ?_<;>dsimp only[fU]<;>lia
def con (P:Nat->Int) (tu:Nat):Nat->List Int->Hex
 |_,[]=>(0,0)
 |k,v::l=>fU (tnN (tu*v.toNat) (hx (aM (P k) (E8 k)))) (con P tu (k+1) l)
theorem ZO (P:Nat->Int) (tu k:Nat) (v:Int) (l:List Int):con P tu k (v::l)=fU (tnN (tu*v.toNat) (hx (aM (P k) (E8 k)))) (con P tu (k+1) l):=rfl
def aCO:List Ý->Int
 |[]=>0
 |x::S=>aE x.1 x.2.1 x.2.2+aCO S
def Pos3 (s:Ý):Prop:=0<=s.1/\0<=s.2.1/\0<=s.2.2
theorem H1{s:Ý}(h:Pos3 s):0<=aE s.1 s.2.1 s.2.2:=ar h.1 (bE _ _ _).1
theorem C3:∀{S:List Ý},(∀s∈S,Pos3 s)->0<=aCO S
 |[],_=>bq _
 |x::S,h=>lc (H1 (h x ag)) (C3 λs hs=>h s (ah _ hs))
end L1
namespace L1
variable{n:Nat}
def l5{h:UInt64}{tu:Nat}:Prop:=∀(h1:1<=tu) (h5:tu<=5) (fh:Ç h) (r0:0<=R h) (r1:R h<=1+1/2^52),Ç (fq (6-(tu:Int)) 6)/\Ç (ae h (fq (6-(tu:Int)) 6))/\-1<=R (ae h (fq (6-(tu:Int)) 6))/\R (ae h (fq (6-(tu:Int)) 6))<=2/\
  6*R h+(tu:Rat)-6*((1:Int):Rat)-1/2^48<=6*R (ae h (fq (6-(tu:Int)) 6))/\6*R (ae h (fq (6-(tu:Int)) 6))<=6*R h+(tu:Rat)-6*((1:Int):Rat)+1/2^48
def b5:=gZ (bA @l5)
theorem LI:@l5 b5.1 b5.2:= by
 intro h1 h5 fh r0 r1;obtain⟨f,q1,q2,-⟩:=WV (x:=6-(b5.2:Int)) (y:=6) (M:=1) (by decide) ⟨0,by decide,rfl⟩ (ä (.x .q (.M .n6 .n1)) [.e .q (.S .n6 .r)] (av (ĉ [_] (.l .n0 (.S .n6 .q)) [.x .q .n5] h5)));have e:((6-(b5.2:Int):Int):Rat)/((6:Nat):Rat)=(6-(b5.2:Rat))/6:=by push_cast;rfl
 rw[e] at q1 q2;push_cast at q1 q2;have t1:(1:Rat)<=(b5.2:Rat):=by exact_mod_cast h1
 have t5:(b5.2:Rat)<=5:=by exact_mod_cast h5
 change Ç (fq (6-(b5.2:Int)) 6) at f;change _<=R (fq (6-(b5.2:Int)) 6) at q1;change R (fq (6-(b5.2:Int)) 6)<=_ at q2;generalize fq (6-(b5.2:Int)) 6=q at*;obtain⟨a1,a2,a3,-⟩:=iW fh f (M:=2) ⟨1,by decide,rfl⟩ (by push_cast;exact Ó (.L 6 (.G .n2) .ka) [.L 6 .n0 .a,.L 6 .b (.A (.D (.S .n6 .c) .n6) .kg),.l .n0 .c] rfl r0 q2 sn) (by push_cast;exact Ó (.L 6 .ka .n2) [.L 6 .a .kd,.l .c .n5,.L 6 (.S (.D (.S .n6 .c) .n6) .kg) .b] rfl r1 t5 q1);push_cast at a2 a3⊢;generalize ae b5.1 q=z at*;refine⟨f,a1,?_,?_,?_,?_⟩
 ·exact á (.L 6 .kt .a) [.L 6 .n0 .b,.l .n1 .c,.L 6 .d (.A (.D (.S .n6 .c) .n6) .kg),.L 6 (.S (.S .b .d) (.E 2)) .a] rfl r0 t1 q2 a2
 ·exact á (.L 6 .a .n2) [.L 6 .b .kd,.l .c .n5,.L 6 (.S (.D (.S .n6 .c) .n6) .kg) .d,.L 6 .a (.A (.S .b .d) (.E 2))] rfl r1 t5 q1 a3
 ·exact á (.l (.S (.S (.A .kj .b) (.M .n6 .n1)) (.D .n1 (.P .n2 48))) (.M .n6 .c)) [.L 6 .d (.A (.D (.S .n6 .b) .n6) .kg),.L 6 (.S (.S .a .d) (.E 2)) .c] rfl q2 a2
 ·exact á (.l .kj (.A (.S (.A (.M .n6 .b) .c) (.M .n6 .n1)) (.D .n1 (.P .n2 48)))) [.L 6 (.S (.D (.S .n6 .c) .n6) .kg) .d,.L 6 .a (.A (.S .b .d) (.E 2))] rfl q1 a3
theorem S2:@l5 h tu:=iY (bA @l5) (h,tu) LI
def nQ{c tu:Nat}{A B C:Int}:Prop:=∀(hc:c=6\/c=8) (h1:1<=tu) (h5:tu<=5) (hA:0<=A/\A<=SZ c) (hB:0<=B/\B<=SZ c) (hC:0<=C/\C<=SZ c) (hd:aL A B C<aE A B C),∃h l s x y z:UInt64,FT aQ (n+2) 0 [.flt (fq A (SZ c)),.flt (fq B (SZ c)),.flt (fq C (SZ c))]=J (.tup [.flt h,.flt l,.flt s])/\
   FT aQ (n+2) 1 [.flt (ae h (fq (6-(tu:Int)) 6)),.flt l,.flt s]=J (.tup [.flt x,.flt y,.flt z])/\Ç (fq (6-(tu:Int)) 6)/\
   ċ .int [.flt (add (mul (au (SZ c:Int)) x) 0x3fe0000000000000)]=J (.int (ï (aE A B C+aL A B C) A B C tu).1)/\
   ċ .int [.flt (add (mul (au (SZ c:Int)) y) 0x3fe0000000000000)]=J (.int (ï (aE A B C+aL A B C) A B C tu).2.1)/\
   ċ .int [.flt (add (mul (au (SZ c:Int)) z) 0x3fe0000000000000)]=J (.int (ï (aE A B C+aL A B C) A B C tu).2.2)
def aN:=gZ (a9 (bA @nQ))
def jK:=aN.1.1.1.1.2
theorem XO:@nQ aN.1.1.1.1.1 jK aN.1.1.1.2 aN.1.1.2 aN.1.2 aN.2:= by
 intro hc h1 h5 hA hB hC hd;have hS:=SZ_sc (c:=jK) (by lia);have Il:=SZ_le hc;have hS50:SZ jK<=2^50:=aa Il (by decide);have ga:=jR hS (x:=aN.1.1.2) (dN hc hA.1 hA.2);have gb:=jR hS (x:=aN.1.2) (dN hc hB.1 hB.2);have gc:=jR hS (x:=aN.2) (dN hc hC.1 hC.2);obtain⟨m1,m2,m3,m4⟩:=bE aN.1.1.2 aN.1.2 aN.2;obtain⟨n1,n2,n3,n4⟩:=dA aN.1.1.2 aN.1.2 aN.2;have Mg:0<=aL aN.1.1.2 aN.1.2 aN.2:=by rcases n4 with h|h|h<;>rw[h]<;>lia
 have Mh:aE aN.1.1.2 aN.1.2 aN.2<=(SZ jK:Int):=by rcases m4 with h|h|h<;>rw[h]<;>lia
 obtain⟨l,s,hv,H⟩:=Q3 (F:=FT aQ (aN.1.1.1.1.1+1)) hS hS50 ga gb gc hA hB hC hd;obtain⟨k1,k2,k3,k4,k5,k6⟩:=S2 h1 h5 H.fh H.h0 H.h1;obtain⟨x,y,z,hp,nx,ny,nz⟩:=Q5 (t:=aN.1.1.1.2) (k:=2) (F:=FT aQ (aN.1.1.1.1.1+1)) (m:=1) (e:=1/2^48) (vc aN.1.1.1.1.1) hS H hd Mg Mh k2 k3 k4 (æ (.l .n0 (.D .n1 (.P .n2 48))) [] rfl) (æ (.l (.D .n1 (.P .n2 48)) (.D .n1 (.P .n2 42))) [] rfl) k5 k6;obtain⟨⟨a1,a2⟩,⟨b1,b2⟩,⟨c1,c2⟩⟩:=HZ (m:=aL aN.1.1.2 aN.1.2 aN.2) (M:=aE aN.1.1.2 aN.1.2 aN.2) ⟨n1,m1⟩ ⟨n2,m2⟩ ⟨n3,m3⟩ aN.1.1.1.2;have s1:1<=SZ jK:=by have:=SZ_pos jK;exact Ć (.x .n1 .q) [.t .n0 .q] this
 refine⟨_,l,s,x,y,z,(aEM _ _).trans hv,(ZK _ _).trans hp,k1,?_,?_,?_⟩
 ·exact vQ s1 Il (ar Mg a1) (ar a2 Mh) nx
 ·exact vQ s1 Il (ar Mg b1) (ar b2 Mh) ny
 ·exact vQ s1 Il (ar Mg c1) (ar c2 Mh) nz
theorem aCP:@nQ n c tu A B C:=iY (a9 (bA @nQ)) (((((n,c),tu),A),B),C) XO
end L1
namespace L1
variable{n:Nat}
theorem S3{p u:Int}(hu:0<=u):aE (aM p u).1 (aM p u).2.1 (aM p u).2.2<=8*u:= by
 obtain⟨⟨a1,a2⟩,⟨b1,b2⟩,⟨c1,c2⟩⟩:=f0 p u hu;obtain⟨-,-,-,h⟩:=bE (aM p u).1 (aM p u).2.1 (aM p u).2.2;rcases h with h|h|h<;>rw[h]<;>assumption
theorem yN (p:Int) (h0:0<=p) (h1:p<48):(bB p 0=8\/bB p 16=8\/bB p 32=8)/\(bB p 0=0\/bB p 16=0\/bB p 32=0):=
 HX (P:=λp=>(bB p 0=8\/bB p 16=8\/bB p 32=8)/\(bB p 0=0\/bB p 16=0\/bB p 32=0)) (by decide +kernel) h0 h1
theorem aCQ{p u w E:Int}{i:Ý}(h0:0<=p) (h1:p<48) (hu:0<u) (hE:E<8*u) (hi:Pos3 i) (hm:aE i.1 i.2.1 i.2.2<=E):
  aL (w+(aM p u).1+i.1) (w+(aM p u).2.1+i.2.1) (w+(aM p u).2.2+i.2.2)<aE (w+(aM p u).1+i.1) (w+(aM p u).2.1+i.2.1) (w+(aM p u).2.2+i.2.2):= by
 obtain⟨f,d⟩:=yN p h0 h1;obtain⟨a1,a2,a3,-⟩:=bE i.1 i.2.1 i.2.2;obtain⟨m1,m2,m3,-⟩:=bE (w+(aM p u).1+i.1) (w+(aM p u).2.1+i.2.1) (w+(aM p u).2.2+i.2.2);obtain⟨n1,n2,n3,-⟩:=dA (w+(aM p u).1+i.1) (w+(aM p u).2.1+i.2.1) (w+(aM p u).2.2+i.2.2);have iN:∀{z j:Int},z=8->0<=j->w+8*u<=w+u*z+j:=λe h=>by rw[e,jp u];exact ml h
 have dark:∀{z j:Int},z=0->j<=aE i.1 i.2.1 i.2.2->w+u*z+j<=w+E:=λe h=>by rw[e,Int.mul_zero,se];exact yg (ar h hm) w
 refine od ?_ (gj (Int.add_lt_add_left hE w) ?_)
 ·exact d.elim (λh=>ar n1 (dark h a1)) λd=>d.elim (λh=>ar n2 (dark h a2)) λh=>ar n3 (dark h a3)
 ·exact f.elim (λh=>ar (iN h hi.1) m1) λf=>f.elim (λh=>ar (iN h hi.2.1) m2) λh=>ar (iN h hi.2.2) m3
end L1
namespace L1
variable{n:Nat}
def S4 (tu:Nat) (w:Int) (o i:Ý):Ý:=ï (aE (w+o.1+i.1) (w+o.2.1+i.2.1) (w+o.2.2+i.2.2)+aL (w+o.1+i.1) (w+o.2.1+i.2.1) (w+o.2.2+i.2.2)) (w+o.1+i.1) (w+o.2.1+i.2.1) (w+o.2.2+i.2.2) tu
def qG (tu:Nat) (w:Int) (o i:Ý):Ý:=((S4 tu w o i).1-w,(S4 tu w o i).2.1-w,(S4 tu w o i).2.2-w)
theorem S5 (tu:Nat) (w:Int) (o i:Ý):hx (qG tu w o i)=tnN tu (fU (hx o) (hx i)):= by
 unfold qG;rw[XM];unfold S4;rw[FP];congr 1;exact sQ (by simp only[hx,fU];lia) (by simp only[hx,fU];lia)
theorem XP{w a b c p q r M m P Q:Int}(hM:M=w+a+p\/M=w+b+q\/M=w+c+r) (hm:m=w+a+p\/m=w+b+q\/m=w+c+r) (a0:0<=a) (b0:0<=b) (c0:0<=c) (p0:0<=p) (q0:0<=q) (r0:0<=r) (a1:a<=P) (b1:b<=P) (c1:c<=P) (p1:p<=Q) (q1:q<=Q) (r1:r<=Q):w<=m/\M-w<=P+Q:= by
 refine⟨?_,?_⟩
 ·rcases hm with h|h|h<;>subst h<;>lia
 ·rcases hM with h|h|h<;>subst h<;>lia
theorem aCR{a b c m:Int}(h1:a<=m) (h2:b<=m) (h3:c<=m):aE a b c<=m:= by
 obtain⟨-,-,-,h⟩:=bE a b c;rcases h with h|h|h<;>rw[h]<;>assumption
theorem LJ (tu:Nat){w:Int}{o i:Ý}(ho:Pos3 o) (hi:Pos3 i):Pos3 (qG tu w o i)/\aE (qG tu w o i).1 (qG tu w o i).2.1 (qG tu w o i).2.2<=aE o.1 o.2.1 o.2.2+aE i.1 i.2.1 i.2.2:= by
 obtain⟨p1,p2,p3,-⟩:=bE o.1 o.2.1 o.2.2;obtain⟨q1,q2,q3,-⟩:=bE i.1 i.2.1 i.2.2;obtain⟨m1,m2,m3,m4⟩:=bE (w+o.1+i.1) (w+o.2.1+i.2.1) (w+o.2.2+i.2.2);obtain⟨n1,n2,n3,n4⟩:=dA (w+o.1+i.1) (w+o.2.1+i.2.1) (w+o.2.2+i.2.2);obtain⟨hN,hM⟩:=XP m4 n4 ho.1 ho.2.1 ho.2.2 hi.1 hi.2.1 hi.2.2 p1 p2 p3 q1 q2 q3;obtain⟨a,b,c⟩:=HZ ⟨n1,m1⟩ ⟨n2,m2⟩ ⟨n3,m3⟩ tu;have go:∀{x:Int},x<=aE (w+o.1+i.1) (w+o.2.1+i.2.1) (w+o.2.2+i.2.2)->x-w<=aE o.1 o.2.1 o.2.2+aE i.1 i.2.1 i.2.2:=λh=>ar (rh h w) hM;exact⟨⟨Int.sub_nonneg.mpr (ar hN a.1),Int.sub_nonneg.mpr (ar hN b.1),Int.sub_nonneg.mpr (ar hN c.1)⟩,aCR (go a.2) (go b.2) (go c.2)⟩
def XQ (S:List Ý):PV:=.lst (S.reverse.map lp)
theorem FQ (x:Ý) (S:List Ý):XQ (x::S)=.lst (S.reverse.map lp++[lp x]):=by unfold XQ;rw[zu,bm];rfl
def NE (row:PV) (ps:List Int) (w:Int) (tu c:Nat) (S:List Ý) (k:Nat) (X:Nat->Option PV):Ã:=[J row,J (aU ps),J (.int w),J (.int (tu:Int)),J (.int (SZ c:Int)),J (XQ S),J (.int (k:Int)),X 7,X 8,X 9,X 10,X 11,X 12,X 13,X 14,X 15,X 16,X 17,Ww,Ww,Ww]
theorem LK{row:PV}{ps:List Int}{w p0:Int}{tu c k:Nat}{o x y z:Ý}{S:List Ý}{h l s p q r:UInt64}{X:Nat->Option PV}(hc:c=6\/c=8) (k9:k<10) (gp:iT (aU ps) (.int (k:Int))=J (.int p0)) (ho:aM p0 (E8 k)=o)
  (hA:0<=w+o.1+x.1/\w+o.1+x.1<=SZ c) (hB:0<=w+o.2.1+x.2.1/\w+o.2.1+x.2.1<=SZ c) (hC:0<=w+o.2.2+x.2.2/\w+o.2.2+x.2.2<=SZ c) (e1:FT aQ (n+2) 0 [.flt (fq (w+o.1+x.1) (SZ c)),.flt (fq (w+o.2.1+x.2.1) (SZ c)),.flt (fq (w+o.2.2+x.2.2) (SZ c))]=J (.tup [.flt h,.flt l,.flt s]))
  (f:Ç (fq (6-(tu:Int)) 6)) (e2:FT aQ (n+2) 1 [.flt (ae h (fq (6-(tu:Int)) 6)),.flt l,.flt s]=J (.tup [.flt p,.flt q,.flt r]))
  (ep:ċ .int [.flt (add (mul (au (SZ c:Int)) p) 0x3fe0000000000000)]=J (.int z.1)) (eq:ċ .int [.flt (add (mul (au (SZ c:Int)) q) 0x3fe0000000000000)]=J (.int z.2.1)) (er:ċ .int [.flt (add (mul (au (SZ c:Int)) r) 0x3fe0000000000000)]=J (.int z.2.2)) (hS:S.length<=1000):
  ∃E,aD (FT aQ (n+2)) (el (bo (tq 3 dE.code))) (NE row ps w tu c (x::y::S) k X)=J (E,.next)/\E=NE row ps w tu c ((y.1+z.1-w,y.2.1+z.2.1-w,y.2.2+z.2.2-w)::S) (k+1) (lk E):= by
 have z2:ķ (SZ c:Int)=Wu:=Q6 (aa (SZ_le hc) (by decide));have hS':(S.reverse.map lp).length<=1000:=by rw[ao,ni];exact hS
 have L:=nO (n:=n+1) p0 (E8 k) (AJ k9);change _=J (lp (aM _ _)) at L;rw[ho] at L;unfold NE;rw[FQ,FQ,zu,bm];apply Exists.intro;apply And.intro
 ·refine seq (asg (eF (eK (eS rfl rfl gp) (eK (eB eC rfl (FN k (dp (eb k9 (by decide))))) eN)) L)) ?_;refine seq (pop (l:=S.reverse.map lp++[lp y]) (y:=lp x) rfl (by rw[am];exact aa (ax hS' 2) (show 1002<=100000 by decide))) ?_;refine seq (pop (l:=S.reverse.map lp) (y:=lp y) rfl (aa (ax hS' 1) (show 1001<=100000 by decide))) ?_
  dsimp only[st]
  refine seq (asgT (dG (p:=.int 0) (q:=.int 1) (r:=.int 2) (lX (n:=3) rfl (nb rfl)) (eB (eB (eB rfl (eS rfl rfl rfl) rfl) (eS rfl rfl rfl) rfl) rfl (kI hc hA.1 hA.2)) (eB (eB (eB rfl (eS rfl rfl rfl) rfl) (eS rfl rfl rfl) rfl) rfl (kI hc hB.1 hB.2)) (eB (eB (eB rfl (eS rfl rfl rfl) rfl) (eS rfl rfl rfl) rfl) rfl (kI hc hC.1 hC.2))) rfl) ?_
  dsimp only[st]
  refine seq (asgT (eF (eK rfl (eK rfl (eK rfl eN))) e1) rfl) ?_
  dsimp only[st]
  refine seq (asg (eF (eK (eB rfl (eB (eB eC rfl rfl) eC (kY _ _ (by decide) f)) rfl) (eK rfl (eK rfl eN))) e2)) ?_
  dsimp only[st]
  refine seq (app (l:=S.reverse.map lp) rfl (dG (p:=.int 0) (q:=.int 1) (r:=.int 2) (lX (n:=3) rfl (nb rfl)) (eB (eB (eS rfl rfl rfl) (eI (eK (eB (eB rfl (eS rfl rfl rfl) (fK _ _ z2)) eC rfl) eN) ep) rfl) rfl rfl) (eB (eB (eS rfl rfl rfl) (eI (eK (eB (eB rfl (eS rfl rfl rfl) (fK _ _ z2)) eC rfl) eN) eq) rfl) rfl rfl) (eB (eB (eS rfl rfl rfl) (eI (eK (eB (eB rfl (eS rfl rfl rfl) (fK _ _ z2)) eC rfl) eN) er) rfl) rfl rfl)) (aa hS' (show 1000<=100000 by decide))) ?_;exact aJ (aug rfl rfl rfl)
 ·rfl
theorem S6 (y z:Ý) (w:Int):jV y (z.1-w,z.2.1-w,z.2.2-w)=(y.1+z.1-w,y.2.1+z.2.1-w,y.2.2+z.2.2-w):=pf (ue ..).symm (pf (ue ..).symm (ue ..).symm)
theorem S7{c k:Nat}{w a b m:Int}(hk:k<c) (hw:0<=w/\w<=14*E8 c) (hm:m<=EN k) (h:0<=a/\a<=8*E8 k) (h0:0<=b) (h1:b<=m):0<=w+a+b/\w+a+b<=SZ c:= by
 have hE1:=EN_mono hk;have hZ:=Ť (c:=c);rw[EN_c] at hE1;exact⟨lc (lc hw.1 h.1) h0,by exact ì [_,_,_,_,_,_,_,_] [_] (.l (.A .kb .c) .q) [.l .a (.M (.N 14) .d),.l .e .f,.l .b (.M .n8 .g),.l .c .e,.l (.A .f (.M .n8 .g)) .h,.l (.A (.M (.N 14) .d) .h) .q] hw.2 hm h.2 h1 hE1 hZ⟩
theorem aEY (k:Nat):EN k<8*E8 k:=by have:=EN_val k;have:=eE k;lia
theorem FR{ps:List Int}{row:PV}{c tu k:Nat}{w:Int}{x y:Ý}{S:List Ý}{X:Nat->Option PV}(hc:c=6\/c=8) (hw:0<=w/\w<=14*(E8 c)) (h1:1<=tu) (h5:tu<=5) (hk:k<c) (Gp:ps.length=c) (hP:0<=ps.getD k 0/\ps.getD k 0<48) (hx:Pos3 x) (hm:aE x.1 x.2.1 x.2.2<=EN k) (hS:S.length<=1000):
  ∃E,aD (FT aQ (n+2)) (el (bo (tq 3 dE.code))) (NE row ps w tu c (x::y::S) k X)=J (E,.next)/\E=NE row ps w tu c (jV y (qG tu w (aM (ps.getD k 0) (E8 k)) x)::S) (k+1) (lk E):= by
 have hu:=eE k;have lr:=f0 (ps.getD k 0) (E8 k) (ba hu);have Fv:=aCQ (w:=w) hP.1 hP.2 hu (aEY k) hx hm;obtain⟨m1,m2,m3,-⟩:=bE x.1 x.2.1 x.2.2;obtain⟨x1,x2,x3⟩:=hx;have uA:=S7 hk hw hm lr.1 x1 m1;have uB:=S7 hk hw hm lr.2.1 x2 m2;have uC:=S7 hk hw hm lr.2.2 x3 m3;have k9:k<10:=af hk (by rcases hc with rfl|rfl<;>decide);obtain⟨h,l,s,p,q,r,e1,e2,f,ep,eq,er⟩:=aCP (n:=n) (tu:=tu) hc h1 h5 uA uB uC Fv;rw[show jV y (qG tu w (aM (ps.getD k 0) (E8 k)) x)=_ from S6 y (S4 tu w _ x) w];exact LK hc k9 (cW (Gp.symm▸hk) (eb k9 (by decide))) rfl uA uB uC e1 f e2 ep eq er hS
end L1
namespace L1
variable{n:Nat}
noncomputable def fin:Int->List Nat->Int
 |o,[]=>o
 |o,c::l=>if c=40 then fin (o+1) l else fin (o-1) l
theorem ZP (o:Int) (l:List Nat):fin o (40::l)=fin (o+1) l:=rfl
theorem C4 (o:Int) (l:List Nat):fin o (41::l)=fin (o-1) l:=rfl
theorem S8 (o:Int) (l:List Nat):lvl o (40::l)=lvl (o+1) l:=rfl
theorem yO (o:Int) (l:List Nat):lvl o (41::l)=o::lvl (o-1) l:=rfl
theorem XR (y z:Ý):aE (jV y z).1 (jV y z).2.1 (jV y z).2.2<=aE y.1 y.2.1 y.2.2+aE z.1 z.2.1 z.2.2:= by
 obtain⟨a1,a2,a3,-⟩:=bE y.1 y.2.1 y.2.2;obtain⟨b1,b2,b3,-⟩:=bE z.1 z.2.1 z.2.2;obtain⟨-,-,-,h⟩:=bE (jV y z).1 (jV y z).2.1 (jV y z).2.2;simp only[jV] at h⊢;rcases h with h|h|h<;>rw[h]<;>lia
theorem S9{row:PV}{ps:List Int}{w:Int}{tu c k:Nat}{S:List Ý}{X:Nat->Option PV}(hS:S.length<=1000):∃E,aD (FT aQ (n+2)) (bo (tq 3 dE.code)) (st (NE row ps w tu c S k X) 7 (.str (sx [40])))=J (E,.next)/\E=NE row ps w tu c ((0,0,0)::S) k (lk E):= by
 unfold NE;rw[FQ];apply Exists.intro;apply And.intro
 ·exact aJ (j8 (eQ rfl eC rfl) (aJ (app (l:=S.reverse.map lp) (p:=lp (0,0,0)) rfl rfl (by rw[ao,ni];exact aa hS (by decide)))))
 ·rfl
structure Rd (c:Nat) (x:Ý) (S:List Ý) (k:Nat) (l:List Nat):Prop where
 pos:∀s∈x::S,Pos3 s
 top:aCO (x::S)<=EN k
 lv:∀v∈lvl (S.length:Int) l,1<=v
 len:k+(lvl (S.length:Int) l).length<=c
 few:S.length+l.length<=999
theorem aEZ{a b t E:Int}(h:a+(b+t)<=E) (hb:0<=b) (ht:0<=t):a<=E:=by exact fz4 (.l .a .b) [.l (.A .a (.A .c .d)) .b,.l .n0 .c,.l .n0 .d] h hb ht
theorem aE0{a b t E m z u v:Int}(h:a+(b+t)<=E) (h1:m<=b+z) (h2:z<=v+a) (h3:v<=u):m+t<=E+u:=by exact Ğ [_,_,_,_,_,_,_,_] (.l .kb (.A .c .d)) [.l (.A .e (.A .f .b)) .c,.l .a (.A .f .g),.l .g (.A .h .e),.l .h .d] h h1 h2 h3
theorem LL{ps:List Int}{row:PV}{c tu:Nat}{w:Int}(hc:c=6\/c=8) (hw:0<=w/\w<=14*(E8 c)) (h1:1<=tu) (h5:tu<=5) (Gp:ps.length=c) (hP:∀k<c,0<=ps.getD k 0/\ps.getD k 0<48) (l:List Nat):
  ∀(x:Ý) (S:List Ý) (k:Nat) (X:Nat->Option PV),Rd c x S k l->(∀ch∈l,ch=40\/ch=41)->∃x' S' k' Y,e9 (aD (FT aQ (n+2)) (bo (tq 3 dE.code))) [7] (l.map λc=>.str (sx [c])) (NE row ps w tu c (x::S) k X)=J (NE row ps w tu c (x'::S') k' Y,.next)/\
   (S'.length:Int)=fin (S.length:Int) l/\val tu (x'::S')=fU (val tu (x::S)) (con (λk=>ps.getD k 0) tu k (lvl (S.length:Int) l)):= by
 induction l with
 |nil=>exact λx S k X r _=>⟨x,S,k,X,rfl,rfl,(yM _).symm⟩
 |cons ch l ih=>
  intro x S k X r Gm;have Ic:∀d∈l,d=40\/d=41:=λd hd=>Gm d (ah _ hd);rcases Gm ch ag with rfl|rfl
  ·obtain⟨E,e1,e2⟩:=S9 (n:=n) (row:=row) (ps:=ps) (w:=w) (tu:=tu) (c:=c) (k:=k) (X:=X) (S:=x::S) (im (Nat.le_of_add_right_le r.few));obtain⟨x',S',k',Y,i1,i3,i4⟩:=ih (0,0,0) (x::S) k (lk E) ⟨List.forall_mem_cons.mpr ⟨⟨bq _,bq _,bq _⟩,r.pos⟩,ar (de (Int.zero_add _)) r.top,r.lv,r.len,aa (be (Nat.succ_add_eq_add_succ S.length l.length)) r.few⟩ Ic;rw[C2] at i4;rw[<-e2] at i1;exact⟨x',S',k',Y,bU rfl e1 i1,i3,i4⟩
  ·cases S with
   |nil=>exact absurd (r.lv _ ag) (by decide)
   |cons y S=>
    have e:((((y::S).length:Nat):Int))-1=(S.length:Int):=Int.add_sub_cancel (S.length:Int) 1;have hv:=r.lv;have hk:=r.len;rw[yO,e] at hv hk⊢;rw[C4,e];obtain⟨px,hp⟩:=List.forall_mem_cons.mp r.pos;obtain⟨py,pS⟩:=List.forall_mem_cons.mp hp;have hkc:k<c:=af (Nat.lt_add_of_pos_right (jk _)) hk;have hu:=ba (eE k);have lr:=f0 (ps.getD k 0) (E8 k) hu;obtain⟨tp,tm⟩:=LJ tu (w:=w) (o:=aM (ps.getD k 0) (E8 k)) ⟨lr.1.1,lr.2.1.1,lr.2.2.1⟩ px;have hz:=S5 tu w (aM (ps.getD k 0) (E8 k)) x;obtain⟨E,e1,e2⟩:=FR (n:=n) (row:=row) (y:=y) (S:=S) (X:=lk (st (NE row ps w tu c (x::y::S) k X) 7 (.str (sx [41])))) hc hw h1 h5 hkc Gp (hP k hkc) px (aEZ r.top (H1 py) (C3 pS)) (aa (gy S.length) (aa (Nat.le_of_add_right_le r.few) (show 999<=1000 by decide)));generalize qG tu w (aM (ps.getD k 0) (E8 k)) x=z at*;obtain⟨x',S',k',Y,i1,i3,i4⟩:=ih (jV y z) S (k+1) (lk E) ⟨List.forall_mem_cons.mpr ⟨⟨lc py.1 tp.1,lc py.2.1 tp.2.1,lc py.2.2 tp.2.2⟩,pS⟩,aE0 r.top (XR y z) tm (S3 hu),λv Jk=>hv v (ah _ Jk),aa (be (Nat.succ_add_eq_add_succ k _)) hk,aa (jo (gy _) (gy _)) r.few⟩ Ic;rw[<-e2] at i1;refine⟨x',S',k',Y,bU rfl (aJ (iO (eQ rfl eC rfl) e1)) i1,i3,?_⟩;rw[i4,LG hz,ZO,v7];rfl
theorem FS{ps:List Int}{c tu:Nat}{w:Int}{l:List Nat}(hc:c=6\/c=8) (hw:0<=w/\w<=14*(E8 c)) (h1:1<=tu) (h5:tu<=5) (Gp:ps.length=c) (hP:∀k<c,0<=ps.getD k 0/\ps.getD k 0<48)
  (hl:l.length<=900) (Gm:∀ch∈l,ch=40\/ch=41) (hv:∀v∈lvl 0 l,1<=v) (hk:(lvl 0 l).length<=c) (hf:fin 0 l=0):
  ∃t:Ý,FT aQ (n+3) 17 [.str (sx l),aU ps,.int w,.int (tu:Int)]=J (lp (nrm t))/\hx t=con (λk=>ps.getD k 0) tu 0 (lvl 0 l):= by
 obtain⟨t,S',k',Y,Hs,i4,i5⟩:=LL (n:=n) (row:=.str (sx l)) hc hw h1 h5 Gp hP l (0,0,0) [] 0 (λ_=>Ww) ⟨List.forall_mem_cons.mpr ⟨⟨bq _,bq _,bq _⟩,nofun⟩,bq 0,hv,aa (be (gk _)) hk,aa (be (gk _)) (aa hl (by decide))⟩ Gm;cases List.eq_nil_of_length_eq_zero (oh (i4.trans hf));have c8:c<=8:=by rcases hc with rfl|rfl<;>decide
 refine⟨t,?_,?_⟩
 ·rw[ft (n+2) 17 dE _ rfl];apply dX rfl;show bQ (aD _ dE.code [J (.str (sx l)),J (aU ps),J (.int w),J (.int (tu:Int)),Ww,Ww,Ww,Ww,Ww,Ww,Ww,Ww,Ww,Ww,Ww,Ww,Ww,Ww,Ww,Ww,Ww])=_;have b:ċ .len [aU ps]=J (.int (c:Int)):= by
   show(if _ then _ else _)=_;rw[if_pos (gG (Gp▸aa c8 (by decide))),ao,Gp]
  have g:iT (XQ [t]) (.int 0)=J (lp t):=lY (by decide) (by decide) rfl;have Nk:=pY [t.1,t.2.1,t.2.2] rfl;exact aK (asg (eB eC (eB eC (eI (eK rfl eN) b) (FN c (aa c8 (by decide)))) (dY _ _ (by decide)))) (aK (asgO (l:=[lp (0,0,0)]) rfl) (aK (asg (p:=.int 0) rfl) (aK (pL (eJ (x:=.str (sx l)) rfl ((yD (aa hl (by decide)) λd hd=>by rcases Gm d hd with rfl|rfl<;>decide))) Hs)
   (cS (dG (p:=.int t.1) (q:=.int t.2.1) (r:=.int t.2.2) (d8 (l:=[t.1,t.2.1,t.2.2].map .int) (eS rfl eC g) (nb rfl)) (eB rfl (eI (eK (eS rfl eC g) eN) Nk) rfl) (eB rfl (eI (eK (eS rfl eC g) eN) Nk) rfl) (eB rfl (eI (eK (eS rfl eC g) eN) Nk) rfl))))))
 ·have e:val tu [t]=hx t:= by
   rw[C1];show fU (tnN (tu*0) (hx t)) (0,0)=hx t;rw[Dg,yM];rfl
  have e0:val tu [(0,0,0)]=(0,0):=by rw[C2];rfl
  rw[e,e0] at i5;rw[i5];exact sQ (Int.zero_add _) (Int.zero_add _)
end L1
section
variable{r g b:UInt64}{A B C:Int}
theorem LM{x y:UInt64}{q:Rat}(hx:Ç x) (hy:Ç y) (h0:0<R y) (hq:R x=q*R y) (q0:0<=q) (q1:q<=8) (hd:Dy q):Ç (div x y)/\R (div x y)=q:= by
 have e:R x/R y=q:=by refine O hq ?_;exact fQ h0 (ğ h0)
 have p:=fk q0 (ay h0);have p':=cu q1 (ay h0);refine bS (CF hx hy h0 (M:=8) ⟨3,by decide,rfl⟩ (by push_cast;exact Ó (.l (.G (.M .n8 .a)) .b) [.e (.M .c .a) .b,.L 2 .n0 (.M .c .a),.l (.M .c .a) (.M .n8 .a)] rfl hq.symm p p') (by push_cast;exact Ó (.l .a (.M .n8 .b)) [.e .a (.M .c .b),.l (.M .c .b) (.M .n8 .b)] rfl hq p')) λa bc Gf d=>?_;clear bc;clear Gf;rw[e] at d;exact⟨a,d hd⟩
def FU :Prop:=∀(hr:Gr (2^17) r A) (hg:Gr (2^17) g B) (hA:0<=A/\A<=2^17) (hB:0<=B/\B<=2^17) (hd:aL A B B<aE A B B) (Lr:B<=A),R (pN r g g)=0
def sE:=gZ (bA (bA (bA @FU)))
def aCS:=sE.1.1.1
def aCT:=sE.1.1.2
def FV :Prop:=∀(hr:Gr (2^17) r A) (hg:Gr (2^17) g B) (hA:0<=A/\A<=2^17) (hB:0<=B/\B<=2^17) (Lr:¬B<=A),R (pN r g g)=1/2
def sF:=gZ (bA (bA (bA @FV)))
def aCU:=sF.1.1.1
def aCV:=sF.1.1.2
end
theorem LN{S:Nat}{r g:UInt64}{A B:Int}(hS:Sc S) (Hc:S<=2^50) (hr:Gr S r A) (hg:Gr S g B) (hA:0<=A/\A<=S) (hB:0<=B/\B<=S) (Lr:B<A):R (pN r g g)=0:= by
 have hS3:(S:Int)<=2^50:=by have:=gm.mpr Hc;exact_mod_cast this
 have gM:=x9 hS hr hg hg;have gN:=yA hS hr hg hg;obtain⟨s1,s2⟩:=l6;have Wg:aE A B B=A:=s6 (bq _) (ba Lr) (ba Lr) (.inl rfl);have hNB:aL A B B=B:=s7 (ba Lr) (bq _) (bq _) (.inr (.inl rfl));unfold pN;have e6:sM r g g (Þ r g g) (ae (Þ r g g) (ò r g g))=ae (div (ae (Þ r g g) g) (ae (Þ r g g) (ò r g g))) (div (ae (Þ r g g) g) (ae (Þ r g g) (ò r g g))):= by
  unfold sM;rw[jQ hS hr gM,if_pos (by simp;lia)]
 rw[e6];rw[Wg] at gM;rw[hNB] at gN;have gD:=lT hS gM gN (ì [_,_] [_,_] (.x .q .ke) [.x .r .kh,.l .a .r,.l .n0 .b,.e .q .ka] Hc hA.2 hB.1 (av (Ğ [_,_] (.l .n0 .ka) [.t .b .a] Lr)));have gg:=lT hS gM hg (by exact ì [_,_] [_,_] (.x .q .ke) [.x .r .kh,.l .a .r,.l .n0 .b,.e .q .ka] Hc hA.2 hB.1 (av (Ğ [_,_] (.l .n0 .ka) [.t .b .a] Lr)));obtain⟨d1,d2,d3,-⟩:=vM hS gg gD (ő (.l .n0 .ka) [.t .b .a] Lr) (bq _) (ő (.t .n0 .ka) [.t .b .a] Lr);generalize div (ae (Þ r g g) g) (ae (Þ r g g) (ò r g g))=z at*;obtain⟨a1,-,-,a4⟩:=iW d1 d1 (M:=1) ⟨0,by decide,rfl⟩ (by push_cast;exact Æ (.l .kt (.S .a .a)) [] rfl) (by push_cast;exact Æ (.l (.S .a .a) .n1) [] rfl);have a5:=a4 ⟨0,0,by decide,by decide,by push_cast;grind⟩;have a6:R (ae z z)=0:=by rw[a5];grind
 obtain⟨b1,b2⟩:=LM (q:=0) a1 s1 (by rw[s2];exact æ (.t .n0 .n6) [] rfl) (by rw[a6];grind) (fj) (æ (.l .n0 .n8) [] rfl) ⟨0,0,by decide,by decide,by push_cast;grind⟩;obtain⟨c1,c2,k,c3,c4,c5,c6,c7⟩:=pK b1;rw[c7 (by rw[b2];exact fj),b2];rw[b2] at c5 c6;have k0:k<1:=gH (by push_cast;exact Æ (.t .a .n1) [.l .n0 (.S .n0 .a)] rfl c5);have k1:-1<k:=gH (by push_cast;exact Æ (.t .kt .a) [.t (.S .n0 .a) .n1] rfl c6);have:k=0:=by lia
 subst this;push_cast;exact æ (.e (.S .n0 .n0) .n0) [] rfl
theorem nR{y:UInt64}{V:Int}(h:Nr y (V:Rat) (1/2^12)) (h0:0<=V) (h1:V<=2^32):ċ .int [.flt (add (mul (au 1024) y) 0x3fe0000000000000)]=J (.int (1024*V)):= by
 obtain⟨f,a,b⟩:=h;obtain⟨s1,s2⟩:=j6 (i:=1024) (by decide);have s3:R (au 1024)=1024:=by rw[s2];rfl
 have v0:(0:Rat)<=(V:Rat):=by have:=an.mpr h0;exact_mod_cast this
 have v1:(V:Rat)<=2^32:=by have:=an.mpr h1;exact vy this (by decide +kernel)
 obtain⟨c1,c2,c3,-⟩:=iM s1 f (M:=8796093022208) ⟨43,by decide,rfl⟩ (by rw[s3];push_cast;exact Ï (.l (.G (.N 8796093022208)) (.M (.N 1024) .a)) [.L 1024 (.S .b .ko) .a,.L 1024 .n0 .b] rfl a v0) (by rw[s3];push_cast;exact Ï (.l (.M (.N 1024) .a) (.N 8796093022208)) [.L 1024 .a (.A .b .ko),.L 1024 .b (.P .n2 32)] rfl b v1);rw[s3] at c2 c3;push_cast at c2 c3;obtain⟨t1,t2⟩:=lh;obtain⟨d1,d2,d3,-⟩:=j5 c1 t1 (M:=8796093022208) ⟨43,by decide,rfl⟩ (by rw[t2];push_cast;exact Ó (.l (.G (.N 8796093022208)) (.A .a (.D .n1 .n2))) [.L 1024 (.S .b .ko) .c,.L 1024 .n0 .b,.l (.S (.M (.N 1024) .c) (.E 8796093022208)) .a] rfl a v0 c2) (by rw[t2];push_cast;exact Ó (.l (.A .a (.D .n1 .n2)) (.N 8796093022208)) [.L 1024 .b (.A .c .ko),.L 1024 .c (.P .n2 32),.l .a (.A (.M (.N 1024) .b) (.E 8796093022208))] rfl b v1 c3);rw[t2] at d2 d3;push_cast at d2 d3;generalize add (mul (au 1024) y) 0x3fe0000000000000=z at*;obtain⟨n,n0,n1,n2,n3⟩:=HM d1 (á (.l .n0 .a) [.L 1024 (.S .b .ko) .c,.L 1024 .n0 .b,.l (.S (.M (.N 1024) .c) (.E 8796093022208)) .d,.l (.S (.A .d (.D .n1 .n2)) (.E 8796093022208)) .a] rfl a v0 c2 d2);have lo:((1024*V-1:Int):Rat)<(n:Rat):=by push_cast;exact ð (.t (.S (.M (.N 1024) .a) .n1) .b) [.L 1024 (.S .a .ko) .c,.l (.S (.M (.N 1024) .c) (.E 8796093022208)) .d,.l (.S (.A .d (.D .n1 .n2)) (.E 8796093022208)) .e,.t .e (.A .b .n1)] rfl a c2 d2 n3
 have hi:(n:Rat)<((1024*V+1:Int):Rat):=by push_cast;exact ð (.t .a (.A (.M (.N 1024) .b) .n1)) [.L 1024 .c (.A .b .ko),.l .d (.A (.M (.N 1024) .c) (.E 8796093022208)),.l .e (.A (.A .d (.D .n1 .n2)) (.E 8796093022208)),.l .a .e] rfl b c3 d3 n2
 have:=gH lo;have:=gH hi;have:n=1024*V:=by lia
 rw[this] at n1;exact n1
namespace L1
theorem LO:∀p:Fin 48,jU (bB (p.val:Int) 0) (bB (p.val:Int) 16) (bB (p.val:Int) 32)=(p.val:Int)\/jU (bB (p.val:Int) 0) (bB (p.val:Int) 16) (bB (p.val:Int) 32)=(p.val:Int)-48:=by decide +kernel
theorem C5{a b c u:Int}(hu:0<u):aE (u*a) (u*b) (u*c)=u*aE a b c:= by
 obtain⟨h1,h2,h3,h4⟩:=bE a b c;exact s6 (dd h1 (ba hu)) (dd h2 (ba hu)) (dd h3 (ba hu)) (by rcases h4 with h|h|h<;>rw[h]<;>simp)
theorem C6{a b c u:Int}(hu:0<u):aL (u*a) (u*b) (u*c)=u*aL a b c:= by
 obtain⟨h1,h2,h3,h4⟩:=dA a b c;exact s7 (dd h1 (ba hu)) (dd h2 (ba hu)) (dd h3 (ba hu)) (by rcases h4 with h|h|h<;>rw[h]<;>simp)
theorem TA{a b c u:Int}(hu:0<u):jU (u*a) (u*b) (u*c)=u*jU a b c:= by
 have eqv:∀x y:Int,(u*x=u*y)=(x=y):=λx y=>propext ⟨λh=>Int.eq_of_mul_eq_mul_left (iD hu) h,λh=>by rw[h]⟩;unfold jU;rw[C5 hu,C6 hu];simp only[eqv];split
 ·rw[Int.mul_sub]
 ·split
  ·rw[<-Int.mul_sub,<-Int.mul_sub,Int.mul_left_comm,<-Int.mul_add]
  ·rw[<-Int.mul_sub,<-Int.mul_sub,Int.mul_left_comm,<-Int.mul_add]
theorem XS{p u:Int}(h0:0<=p) (h1:p<48) (hu:0<u):aE (aM p u).1 (aM p u).2.1 (aM p u).2.2=8*u/\aL (aM p u).1 (aM p u).2.1 (aM p u).2.2=0:= by
 obtain⟨f,d⟩:=yN p h0 h1;obtain⟨a1,a2⟩:=qD p 0;obtain⟨b1,b2⟩:=qD p 16;obtain⟨c1,c2⟩:=qD p 32;have e1:aE (bB p 0) (bB p 16) (bB p 32)=8:=s6 a2 b2 c2 (by lia);have e2:aL (bB p 0) (bB p 16) (bB p 32)=0:=s7 a1 b1 c1 (by lia);show aE (u*_) (u*_) (u*_)=_/\aL (u*_) (u*_) (u*_)=_;rw[C5 hu,C6 hu,e1,e2,Int.mul_zero,jp];exact⟨rfl,rfl⟩
theorem TB{p u:Int}(h0:0<=p) (h1:p<48) (hu:0<u):∃j:Int,jU (aM p u).1 (aM p u).2.1 (aM p u).2.2=(p+48*j)*u/\(j=0\/j=-1):= by
 have h:=LO ⟨p.toNat,by exact ì [_] [_] (.y .q (.N 48)) [.t .a (.N 48),.e .q .a] h1 (ca (Ğ [_] (.l .n0 .a) [.l .n0 .a] h0))⟩;simp only at h;rw[ca h0] at h;show ∃j:Int,jU (u*_) (u*_) (u*_)=_/\_;rw[TA hu];rcases h with h|h
 ·exact⟨0,by rw[h,jp];simp,.inl rfl⟩
 ·exact⟨-1,by rw[h,jp];rfl,.inr rfl⟩
theorem yP (Z A B C w:Int):∀t:Nat,ï (Z+2*w) (w+A) (w+B) (w+C) t=(w+(ï Z A B C t).1,w+(ï Z A B C t).2.1,w+(ï Z A B C t).2.2)
 |0=>rfl
 |t+1=>by
  simp only[ï];rw[yP Z A B C w t];refine pf ?_ (pf ?_ ?_)<;>simp only<;>lia
end L1
namespace L1
variable{n:Nat}
theorem aE1{h:UInt64}{p j m:Int}(fh:Ç h) (h0:0<=R h) (h1:R h<=1+1/2^52) (p0:0<=p) (p1:p<48) (hj:j=0\/j=-1) (hz:p=0->R h=0)
  (k0:(p:Rat)+48*(j:Rat)-48*(m:Rat)-1/2^46<=48*R h) (k1:48*R h<=(p:Rat)+48*(j:Rat)-48*(m:Rat)+1/2^46):Nr (mul (au 48) h) (p:Rat) (1/2^12):= by
 obtain⟨s1,s2⟩:=j6 (i:=48) (by decide);have s3:R (au 48)=48:=by rw[s2];rfl
 obtain⟨c1,c2,c3,-⟩:=iM s1 fh (M:=64) ⟨6,by decide,rfl⟩ (by rw[s3];push_cast;exact Æ (.l (.G (.N 64)) (.M (.N 48) .a)) [.L 48 .n0 .a] rfl h0) (by rw[s3];push_cast;exact Æ (.l (.M (.N 48) .a) (.N 64)) [.L 48 .a .kd] rfl h1);rw[s3] at c2 c3;push_cast at c2 c3;have key:(p:Rat)-1/2^45<=48*R h/\48*R h<=(p:Rat)+1/2^45:= by
  by_cases hp:p=0
  ·rw[hz hp,hp];constructor<;>(push_cast;grind)
  ·have b0:((p+48*j-48*m-1:Int):Rat)<((48:Int):Rat):=by push_cast;exact á (.t (.S (.S (.A .a (.M (.N 48) .b)) (.M (.N 48) .c)) .n1) (.N 48)) [.L 48 .d .kd,.l (.S (.S (.A .a (.M (.N 48) .b)) (.M (.N 48) .c)) (.D .n1 (.P .n2 46))) (.M (.N 48) .d)] rfl h1 k0
   have b1:((-1:Int):Rat)<((p+48*j-48*m:Int):Rat):=by push_cast;exact á (.t .kt (.S (.A .a (.M (.N 48) .b)) (.M (.N 48) .c))) [.L 48 .n0 .d,.l (.M (.N 48) .d) (.A (.S (.A .a (.M (.N 48) .b)) (.M (.N 48) .c)) (.D .n1 (.P .n2 46)))] rfl h0 k1
   have:=gH b0;have:=gH b1;have:j=m:=by lia
   rw[this] at k0 k1;constructor<;>grind
 refine⟨c1,?_,?_⟩<;>grind
theorem qH{S:Nat}{x:UInt64}{V:Int}{e:Rat}(hS:1<=S) (Il:S<=2^28) (h:Nr x ((V:Rat)/S) e) (he:e<=1/2^41) (h0:0<=V) (h1:V<=S):Nr (mul (au (S:Int)) x) (V:Rat) (1/2^12):= by
 obtain⟨f,a,b⟩:=h;obtain⟨s1,s2⟩:=j6 (i:=(S:Int)) (ä (.x .q .ke) [.x .r (.P .n2 28),.e .q .r] Il (av (ĉ [_] (.l .n0 .q) [])));have p1:(1:Rat)<=(S:Rat):=by exact_mod_cast hS
 have hp:(0:Rat)<(S:Rat):=by exact ya p1
 have p2:(S:Rat)<=268435456:=by have:=lw.mpr Il;exact vy this (by decide +kernel)
 have v0:(0:Rat)<=(V:Rat):=by have:=an.mpr h0;exact_mod_cast this
 have v1:(V:Rat)<=(S:Rat):=by have:=an.mpr h1;exact_mod_cast this
 have s3:R (au (S:Int))=(S:Rat):=by rw[s2];rfl
 have e1:(V:Rat)/(S:Rat)*(S:Rat)=(V:Rat):=ie (lu hp);have a':=cu a (ay hp);have b':=cu b (ay hp);have e2:e*(S:Rat)<=1/2^41*(S:Rat):=cu he (ay hp);have a2:(V:Rat)-1/2^13<=(S:Rat)*R x:=by exact ð (.L 2199023255552 (.S .a (.D .n1 (.P .n2 13))) .ki) [.l .b (.N 268435456),.U 2199023255552 .a (.M .d .b),.L 2199023255552 (.M (.S .d .e) .b) (.M .c .b),.L 2199023255552 (.M .e .b) (.M (.D .n1 (.P .n2 41)) .b)] rfl p2 e1.symm a' e2
 have b2:(S:Rat)*R x<=(V:Rat)+1/2^13:=by exact ð (.L 2199023255552 .kc (.A .c (.D .n1 (.P .n2 13)))) [.l .a (.N 268435456),.U 2199023255552 (.M .d .a) .c,.L 2199023255552 (.M .b .a) (.M (.A .d .e) .a),.L 2199023255552 (.M .e .a) (.M (.D .n1 (.P .n2 41)) .a)] rfl p2 e1 b' e2
 obtain⟨c1,c2,c3,-⟩:=iM s1 f (M:=536870912) ⟨29,by decide,rfl⟩ (by rw[s3];push_cast;exact Ó (.l (.G (.N 536870912)) .kc) [.l .n0 .c,.l (.S .c (.D .n1 (.P .n2 13))) .kc] rfl v0 a2) (by rw[s3];push_cast;exact Ó (.l .kc (.N 536870912)) [.l .a (.N 268435456),.l .c .a,.l .kc (.A .c (.D .n1 (.P .n2 13)))] rfl p2 v1 b2);rw[s3] at c2 c3;push_cast at c2 c3;refine⟨c1,?_,?_⟩<;>grind
theorem XT{S:Nat}{s v:UInt64}{M D:Int}(s1:1<=S) (Il:S<=2^28) (fs:Ç s) (d0:0<=D) (d1:D<=S) (hM:M.natAbs<=2^53) (lv:R v*(S:Rat)=(M:Rat)) (w1:(D:Rat)/(S:Rat)-1/2^54<=R v*R s) (w2:R v*R s<=(D:Rat)/(S:Rat)+1/2^54):Nr (mul s (au M)) (D:Rat) (1/2^12):= by
 obtain⟨f1,f2⟩:=j6 hM;have hS1:(1:Rat)<=(S:Rat):=by exact_mod_cast s1
 have hp:(0:Rat)<(S:Rat):=ya hS1;have p2:(S:Rat)<=268435456:=vy (lw.mpr Il) (by decide +kernel);have d0:(0:Rat)<=(D:Rat):=by exact_mod_cast d0
 have d1:(D:Rat)<=(S:Rat):=by exact_mod_cast d1
 have e1:(D:Rat)/(S:Rat)*(S:Rat)=(D:Rat):=ie (lu hp);have w1':=cu w1 (ay hp);have w2':=cu w2 (ay hp);rw[yx (R v),Rat.mul_assoc,lv] at w1' w2';have g1:(D:Rat)-1/2^26<=R s*(M:Rat):=ð (.L 18014398509481984 (.S .a (.D .n1 (.P .n2 26))) .ki) [.l .d (.N 268435456),.U 18014398509481984 .a (.M .e .d),.L 18014398509481984 (.M (.S .e .kg) .d) .ki] rfl p2 e1.symm w1';have g2:R s*(M:Rat)<=(D:Rat)+1/2^26:=ð (.L 18014398509481984 .kc (.A .c (.D .n1 (.P .n2 26)))) [.l .d (.N 268435456),.U 18014398509481984 (.M .e .d) .c,.L 18014398509481984 .kc (.M (.A .e .kg) .d)] rfl p2 e1 w2';obtain⟨x1,x2,x3,-⟩:=iM fs f1 (M:=536870912) ⟨29,by decide,rfl⟩ (by rw[f2];push_cast;exact Ó (.l (.G (.N 536870912)) .kc) [.l .n0 .c,.l (.S .c (.D .n1 (.P .n2 26))) .kc] rfl d0 g1) (by rw[f2];push_cast;exact á (.l .kc (.N 536870912)) [.l .c (.N 268435456),.l .d .c,.l .kc (.A .d (.D .n1 (.P .n2 26)))] rfl p2 d1 g2);rw[f2] at x2 x3;push_cast at x2 x3;refine⟨x1,?_,?_⟩<;>grind
def Seen (n S:Nat) (r:Ý) (t:Nat) (h s v:UInt64):Prop:=
  ∃x y z:UInt64,Ç (fq (t:Int) 6)/\FT aQ (n+1) 4 [.flt (add h (fq (t:Int) 6)),.flt s,.flt v]=J (.tup [.flt x,.flt y,.flt z])/\Nr (mul (au (S:Int)) x) (r.1:Rat) (1/2^12)/\Nr (mul (au (S:Int)) y) (r.2.1:Rat) (1/2^12)/\Nr (mul (au (S:Int)) z) (r.2.2:Rat) (1/2^12)
theorem LP{S:Nat}{A B C:Int}{h s v:UInt64}{t:Nat}{r:Ý}(hS:Sc S) (s1:1<=S) (Il:S<=2^28) (H:Hsv S A B C h s v) (hd:aL A B C<aE A B C) (mn:0<=aL A B C) (mx:aE A B C<=S) (Ln:1<=t) (ht:t<=200)
  (er:ï (aE A B C+aL A B C) A B C t=r) (ra:0<=r.1/\r.1<=S) (rb:0<=r.2.1/\r.2.1<=S) (rc:0<=r.2.2/\r.2.2<=S):
  Seen n S r t h s v:= by
 subst er;obtain⟨f,z1,z2,-⟩:=WV (x:=(t:Int)) (y:=6) (M:=64) (by decide) ⟨6,by decide,rfl⟩ (by exact ä (.x .q (.M .n6 (.N 64))) [.x .r (.N 200),.e .q .r] ht (av (ĉ [_] (.l .n0 .q) [])));change Ç (fq (t:Int) 6) at f;change _<=R (fq (t:Int) 6) at z1;change R (fq (t:Int) 6)<=_ at z2;push_cast at z1 z2;have t0:(0:Rat)<=(t:Rat):=by exact_mod_cast jd t
 have t1:(t:Rat)<=200:=by exact_mod_cast ht
 have t2:(1:Rat)<=(t:Rat):=by exact_mod_cast Ln
 have fh:=H.fh;have h0:=H.h0;have h1:=H.h1;obtain⟨y1,y2,y3,-⟩:=j5 fh f (M:=64) ⟨6,by decide,rfl⟩ (by push_cast;exact Ó (.L 6 (.G (.N 64)) .kb) [.L 6 (.S (.D .c .n6) (.E 64)) .b,.l .n0 .c,.L 6 .n0 .a] rfl z1 t0 h0) (by push_cast;exact Ó (.L 6 .kb (.N 64)) [.L 6 .b (.A (.D .c .n6) (.E 64)),.l .c (.N 200),.L 6 .a .kd] rfl z2 t1 h1);push_cast at y2 y3;obtain⟨x,y,z,hp,nx,ny,nz⟩:=Q2 (t:=t) (F:=FT aQ n) (m:=0) (e:=1/2^44) hS H hd mn mx y1 (by exact á (.L 6 .n0 .a) [.L 6 (.S (.D .b .n6) (.E 64)) .c,.l .n1 .b,.L 6 .n0 .d,.L 6 (.S (.A .d .c) (.E 64)) .a] rfl z1 t2 h0 y2) (by exact á (.L 6 .a (.N 100)) [.L 6 .b (.A (.D .c .n6) (.E 64)),.l .c (.N 200),.L 6 .d .kd,.L 6 .a (.A (.A .d .b) (.E 64))] rfl z2 t1 h1 y3) (by exact æ (.l .n0 (.D .n1 (.P .n2 44))) [] rfl) (by exact æ (.l (.D .n1 (.P .n2 44)) (.D .n1 (.P .n2 42))) [] rfl) (by push_cast;exact á (.l (.S (.S (.A .kj .b) (.M .n6 .n0)) (.D .n1 (.P .n2 44))) (.M .n6 .c)) [.L 6 (.S (.D .b .n6) (.E 64)) .d,.L 6 (.S (.A .a .d) (.E 64)) .c] rfl z1 y2) (by push_cast;exact á (.l .kj (.A (.S (.A (.M .n6 .b) .c) (.M .n6 .n0)) (.D .n1 (.P .n2 44)))) [.L 6 .d (.A (.D .c .n6) (.E 64)),.L 6 .a (.A (.A .b .d) (.E 64))] rfl z2 y3);exact⟨x,y,z,f,(ZL _ _).trans hp,qH s1 Il nx (by decide +kernel) ra.1 ra.2,qH s1 Il ny (by decide +kernel) rb.1 rb.2,qH s1 Il nz (by decide +kernel) rc.1 rc.2⟩
theorem aE2{c k:Nat}{w i:Int}(hk:k<c) (hw:0<=w/\w<=14*E8 c) (h:0<=i/\i<=8*E8 k):0<=w+i/\w+i<=SZ c:= by
 have hu:=eE k;have hZ:=Ť (c:=c);have hE1:=EN_mono hk;have hE0:=EN_val k;rw[EN_c] at hE1;exact⟨lc hw.1 h.1,by exact ì [_,_,_,_,_,_] [_] (.L 7 .kb .q) [.L 7 .a (.M (.N 14) .c),.L 7 .b (.M .n8 .d),.T 8 .n0 .d,.L 7 (.A (.M (.N 14) .c) .e) .q,.L 7 (.A .f (.M .n8 .d)) .e,.e (.M .n8 .d) (.A (.M .n7 .f) .n8)] hw.2 h.2 hu hZ hE1 hE0.symm⟩
theorem TC (a b:Int):a+b-a=b:=by lia
theorem LQ{u p j:Int}{q:Rat}(hu:0<u) (h:q*((8*u:Int):Rat)=(((p+48*j)*u:Int):Rat)):8*q=(p:Rat)+48*(j:Rat):= by
 refine fQ (show(0:Rat)<(u:Rat) by exact_mod_cast hu) ?_;push_cast at h⊢;grind
noncomputable def wC (w:Int) (r:Ý):Ý:=(w+r.1,w+r.2.1,w+r.2.2)
def Lit (n c k:Nat) (p w:Int) (L:Ý) (h s v:UInt64):Prop:=FT aQ (n+1) 3 [.flt (fq (w+L.1) (SZ c)),.flt (fq (w+L.2.1) (SZ c)),.flt (fq (w+L.2.2) (SZ c))]=J (.tup [.flt h,.flt s,.flt v])/\
   Nr (mul (au 48) h) (p:Rat) (1/2^12)/\Nr (mul s (au (w+8*(E8 k)))) ((8*(E8 k):Int):Rat) (1/2^12)/\Nr (mul (au (SZ c:Int)) v) ((w+8*(E8 k):Int):Rat) (1/2^12)
theorem LR{c k:Nat}{p w j:Int}{L:Ý}(hc:c=6\/c=8) (hu:0<E8 k) (w0:0<=w) (up:∀{i:Int},0<=i/\i<=8*E8 k->0<=w+i/\w+i<=SZ c) (p0:0<=p) (p1:p<48) (hj:jU L.1 L.2.1 L.2.2=(p+48*j)*E8 k) (hj2:j=0\/j=-1) (mM:aE L.1 L.2.1 L.2.2=8*E8 k) (mN:aL L.1 L.2.1 L.2.2=0)
  (hz:p=0->L=(8*E8 k,0,0)) (a:0<=L.1/\L.1<=8*E8 k) (b:0<=L.2.1/\L.2.1<=8*E8 k) (g:0<=L.2.2/\L.2.2<=8*E8 k):
  ∃h s v:UInt64,Lit n c k p w L h s v/\∀(t:Nat) (r:Ý),1<=t->t<=200->ï (8*E8 k) L.1 L.2.1 L.2.2 t=r->(0<=r.1/\r.1<=8*E8 k)/\(0<=r.2.1/\r.2.1<=8*E8 k)/\(0<=r.2.2/\r.2.2<=8*E8 k)->Seen n (SZ c) (wC w r) t h s v:= by
 have hS:=SZ_sc (c:=c) (by lia);have Il:=SZ_le hc;have hS50:SZ c<=2^50:=aa Il (by decide);have s1:1<=SZ c:=ei.mp (SZ_pos c);have eM:aE (w+L.1) (w+L.2.1) (w+L.2.2)=w+8*E8 k:=by rw[ib w,ib w,ib w,qE,mM,ib]
 have eN:aL (w+L.1) (w+L.2.1) (w+L.2.2)=w:=by rw[ib w,ib w,ib w,qF,mN,Int.zero_add]
 have hd:aL (w+L.1) (w+L.2.1) (w+L.2.2)<aE (w+L.1) (w+L.2.1) (w+L.2.2):=by rw[eM,eN];exact ő (.t .a (.A .a (.M .n8 .b))) [.T 8 .n0 .b] hu
 have m8:=up ⟨ba (show 0<8*E8 k by exact ÿ (.t .n0 (.M .n8 .a)) [.T 8 .n0 .a] hu),bq _⟩;have fa:=dN hc (up a).1 (up a).2;have fb:=dN hc (up b).1 (up b).2;have fc:=dN hc (up g).1 (up g).2;obtain⟨s,v,hv,H⟩:=ZE (F:=FT aQ n) hS hS50 (jR hS fa) (jR hS fb) (jR hS fc) (up a) (up b) (up g) hd;have hq:=SL _ _ _ hd;rw[show jU (w+L.1) (w+L.2.1) (w+L.2.2)=(p+48*j)*E8 k by rw[ib w,ib w,ib w,AL,hj],eM,eN,TC] at hq;have hQ:=LQ hu hq;obtain⟨m,q1,q2⟩:=H.hue;have lv:=H.lv;have w1:=H.w1;have w2:=H.w2;rw[eM] at lv;rw[eM,eN,TC] at w1 w2;refine⟨_,s,v,⟨(aCB _ _).trans hv,aE1 (m:=m) H.fh H.h0 H.h1 p0 p1 hj2 (λh=>?_) ?_ ?_,XT s1 Il H.fs (by lia) (by exact ì [_,_] [_] (.l (.M .n8 .a) .q) [.l .n0 .b,.l (.A .b (.M .n8 .a)) .q] w0 m8.2) (dN hc m8.1 m8.2) lv w1 w2,qH (e:=0) s1 Il ?_ (by decide +kernel) m8.1 m8.2⟩,λt r Ln ht hr rr=>?_⟩
 ·cases hz h;exact LN hS hS50 (jR hS fa) (jR hS fb) (up a) (up b) (by lia)
 ·exact ð (.l (.S (.S (.A .a (.M (.N 48) .b)) (.M (.N 48) .c)) (.D .n1 (.P .n2 46))) (.M (.N 48) .d)) [.e (.A .a (.M (.N 48) .b)) (.M .n8 .e),.L 8 (.S (.S .e (.M .n6 .c)) (.D .n1 (.P .n2 49))) (.M .n6 .d)] rfl hQ.symm q1
 ·exact ð (.l (.M (.N 48) .a) (.A (.S (.A .b (.M (.N 48) .c)) (.M (.N 48) .d)) (.D .n1 (.P .n2 46)))) [.e (.M .n8 .e) (.A .b (.M (.N 48) .c)),.L 8 .kj (.A (.S .e (.M .n6 .d)) (.D .n1 (.P .n2 49)))] rfl hQ q2
 ·have hp:(0:Rat)<(SZ c:Rat):=by exact_mod_cast s1
  have ev:R v=((w+8*(E8 k):Int):Rat)/(SZ c:Rat):=fQ hp (by rw[lv,ie (lu hp)]);exact ev▸Nr.self H.fv fj
 ·refine LP (r:=wC w r) hS s1 Il H hd (eN.symm▸w0) (eM.symm▸m8.2) Ln ht ?_ (up rr.1) (up rr.2.1) (up rr.2.2);rw[eM,eN,show w+8*(E8 k)+w=8*(E8 k)+2*w by lia,yP,hr];rfl
theorem LS{c k:Nat}{p w:Int}(hc:c=6\/c=8) (hk:k<c) (hw:0<=w/\w<=14*(E8 c)) (p0:0<=p) (p1:p<48):
  ∃h s v:UInt64,Lit n c k p w (aM p (E8 k)) h s v/\∀t:Nat,1<=t->t<=200->Seen n (SZ c) (wC w (aM (p+8*(t:Int)) (E8 k))) t h s v:= by
 have hu:=eE k;obtain⟨j,hj,hj2⟩:=TB p0 p1 hu;obtain⟨mM,mN⟩:=XS p0 p1 hu;obtain⟨a,b,g⟩:=f0 p (E8 k) (ba hu);obtain⟨h,s,v,e1,e5⟩:=LR (n:=n) hc hu hw.1 (aE2 hk hw) p0 p1 hj hj2 mM mN (λh=>by
  subst h;exact pf (jp ..) (pf (Int.mul_zero _) (Int.mul_zero _))) a b g
 exact⟨h,s,v,e1,λt Ln ht=>e5 t _ Ln ht (yK _ _ t).symm (f0 _ _ (ba hu))⟩
end L1
theorem nI (x y:List PV) (h:x.length+y.length<=100000) (hx:x.isEmpty=Wv) (hy:y.isEmpty=Wv):iJ .Add (.tup x) (.tup y)=J (.tup (x++y)):=by show(if _ then _ else _)=_;rw[if_pos ⟨h,hx,hy⟩]
namespace L1
theorem ZQ:iJ .Pow (.int 2) (.int 10)=J (.int 1024):=by rw[vI _ _ (by decide)];rfl
theorem aE3 (k:Nat) (hk:k<10):iJ .Pow (.int 8) (.int ((k:Int)+1))=J (.int (8*E8 k)):=by rw[<-E8_s];exact FN (k+1) (eb hk (by decide))
def LE (H X:Nat->Option PV) (c:Nat) (lv ps:List Int) (tu w:Int) (m:Ý):Ã:=[H 0,J (.int (c:Int)),H 2,H 3,H 4,H 5,H 6,H 7,H 8,H 9,H 10,H 11,H 12,H 13,H 14,H 15,J (aU lv),H 17,H 18,H 19,J (.int tu),H 21,H 22,J (.int w),H 24,J (aU ps),J (lp m),X 27,X 28,X 29,X 30,X 31,X 32,X 33,X 34,X 35,X 36,X 37,H 38,H 39,H 40,H 41,H 42,H 43,H 44,H 45,H 46,H 47,H 48,H 49,H 50,H 51,H 52,H 53,H 54,H 55,H 56,H 57]
def qL (c k:Nat) (p w:Int) (L:Ý) (h s v x y z:UInt64):List (UInt64×Int):=[(mul (au 48) h,p),(mul s (au (w+8*E8 k)),8*E8 k),(mul (au (SZ c:Int)) v,w+8*E8 k),(mul (au (SZ c:Int)) x,w+L.1),(mul (au (SZ c:Int)) y,w+L.2.1),(mul (au (SZ c:Int)) z,w+L.2.2)]
theorem FW{n c k t:Nat}{lv ps:List Int}{tu w:Int}{m:Ý}{h s v x y z:UInt64}{H X:Nat->Option PV}{p l:Int}(hc:c=6\/c=8) (k9:k<10) (gp:iT (aU ps) (.int (k:Int))=J (.int p)) (gl:iT (aU lv) (.int (k:Int))=J (.int l)) (s1:dD tu=Wu) (s8:dD (8*tu)=Wu)
  (hA:0<=w+(aM p (E8 k)).1/\w+(aM p (E8 k)).1<=SZ c) (hB:0<=w+(aM p (E8 k)).2.1/\w+(aM p (E8 k)).2.1<=SZ c) (hC:0<=w+(aM p (E8 k)).2.2/\w+(aM p (E8 k)).2.2<=SZ c)
  (e1:FT aQ (n+1) 3 [.flt (fq (w+(aM p (E8 k)).1) (SZ c)),.flt (fq (w+(aM p (E8 k)).2.1) (SZ c)),.flt (fq (w+(aM p (E8 k)).2.2) (SZ c))]=J (.tup [.flt h,.flt s,.flt v]))
  (ht:(t:Int)=tu*l+6*(c:Int)) (f:Ç (fq (t:Int) 6)) (e2:FT aQ (n+1) 4 [.flt (add h (fq (t:Int) 6)),.flt s,.flt v]=J (.tup [.flt x,.flt y,.flt z])) (hw:(w+8*E8 k).natAbs<=2^53)
  (q:∀q∈qL c k p w (aM (p+8*(tu*l)) (E8 k)) h s v x y z,ċ .int [.flt (add (mul (au 1024) q.1) 0x3fe0000000000000)]=J (.int (1024*q.2))):
  ∃E,aD (FT aQ (n+1)) (bo (tq 28 bF.code)) (st (LE H X c lv ps tu w m) 27 (.int (k:Int)))=J (E,.next)/\E=LE H (lk E) c lv ps tu w (jV m (aM (p+8*(tu*l)) (E8 k))):= by
 have z1:c<=20:=by rcases hc with rfl|rfl<;>decide
 have z2:ķ (SZ c:Int)=Wu:=Q6 (aa (SZ_le hc) (by decide));have p8:=FN k (dp (eb k9 (by decide)));have ps8:=aE3 k k9;have L1:=nO (n:=n) p (E8 k) (AJ k9);have L2:=nO (n:=n) (p+8*(tu*l)) (E8 k) (AJ k9);have m8:=dY (8*tu) l s8;rw[qz] at m8;have d:=kY (t:Int) 6 (by decide) f;rw[ht] at d e2;change _=J (lp (aM _ _)) at L1 L2;generalize aM p (E8 k)=L at*;generalize aM (p+8*(tu*l)) (E8 k)=L' at*
 dsimp only[LE,st]
 apply Exists.intro;apply And.intro
 ·refine seq (asgT (dG (d8 (l:=[L.1,L.2.1,L.2.2].map .int) (eF (eK (eS rfl rfl gp) (eK (eB eC rfl p8) eN)) L1) (nb rfl)) (eB (eB rfl rfl rfl) (d9 rfl z1) (kI hc hA.1 hA.2)) (eB (eB rfl rfl rfl) (d9 rfl z1) (kI hc hB.1 hB.2)) (eB (eB rfl rfl rfl) (d9 rfl z1) (kI hc hC.1 hC.2))) rfl) ?_
  dsimp only[st]
  refine seq (asgT (eF (eK rfl (eK rfl (eK rfl eN))) e1) rfl) ?_
  dsimp only[st]
  refine seq (asg (eF (eK (eB rfl (eB (eB (eB rfl (eS rfl rfl gl) (dY _ _ s1)) (eB eC rfl (dY _ _ (by decide))) rfl) eC d) rfl) (eK rfl (eK rfl eN))) e2)) ?_
  dsimp only[st]
  refine seq (asg (eB (eL (eK (eB eC rfl (fK _ _ (by decide +kernel))) (eK (eB rfl (eB rfl (eB eC (eB rfl eC rfl) ps8) rfl) (QJ _ _ (Q6 hw))) eN))) (eW (FE (l:=[.flt v,.flt x,.flt y,.flt z]) (eB (eT (eK rfl eN)) rfl (nI _ _ (nb rfl) rfl rfl)) (nb rfl)) (i7 (eB (d9 rfl z1) rfl (fK _ _ z2)) (i7 (eB (d9 rfl z1) rfl (fK _ _ z2)) (i7 (eB (d9 rfl z1) rfl (fK _ _ z2)) (i7 (eB (d9 rfl z1) rfl (fK _ _ z2)) rfl))))) (dZ _ _ (nb rfl)))) ?_
  dsimp only[st]
  refine seq (asg (eF (eK (eB (eS rfl rfl gp) (eB (eB eC rfl (dY _ _ (by decide))) (eS rfl rfl gl) m8) rfl) (eK (eB eC rfl p8) eN)) L2)) ?_
  dsimp only[st]
  refine seq (asg (eB (eL (eK (eS rfl rfl gp) (eK (eB eC (eB rfl eC rfl) ps8) (eK (eB rfl (eB eC (eB rfl eC rfl) ps8) rfl) eN)))) (dG (d8 (l:=[L'.1,L'.2.1,L'.2.2].map .int) rfl (nb rfl)) rfl rfl rfl) (dZ _ _ (nb rfl)))) ?_
  dsimp only[st]
  refine seq (iO (eQ (eW (d8 (l:=(qL c k p w L' h s v x y z).map λq=>.flt q.1) rfl (nb rfl)) (jG λr hr=>eI (eK (eB (eB (eB eC eC ZQ) rfl (fK _ _ (by decide +kernel))) eC rfl) eN) (q r hr))) (eW (d8 (l:=(qL c k p w L' h s v x y z).map λq=>.int q.2) rfl (nb rfl)) (jG λr hr=>eB (eB eC eC ZQ) rfl (dY _ _ (by decide)))) (nN rfl (λ_ h=>nomatch h))) jE) ?_;exact aJ (asg (dG (p:=.int 0) (q:=.int 1) (r:=.int 2) (lX (n:=3) rfl (nb rfl)) (eB (eS rfl rfl rfl) (eS rfl rfl rfl) rfl) (eB (eS rfl rfl rfl) (eS rfl rfl rfl) rfl) (eB (eS rfl rfl rfl) (eS rfl rfl rfl) rfl)))
 ·rfl
end L1
namespace L1
theorem FX (p u:Int) (c:Nat):aM (p+48*(c:Int)) u=aM p u:= by
 rw[<-lA,<-lA p];congr 1;lia
theorem TD{tu c k:Nat}{lv:Int}(hc:c<=8) (hk:k<c) (h1:1<=tu) (h5:tu<=5) (l0:-(k:Int)<=lv) (l1:lv<=8):∃t:Nat,(t:Int)=(tu:Int)*lv+6*(c:Int)/\1<=t/\t<=200:= by
 have a:=dd l1 (bl tu);have b:=dd l0 (bl tu);have d:=re k h5;rw[rW,<-oe] at b;generalize (tu:Int)*lv=z at*;generalize tu*k=q at*;have z0:0<=z+6*(c:Int):=by exact ì [_] [_,_,_] (.l .n0 (.A .a (.M .n6 .q))) [.Y 5 .r .q,.x .s (.M .n5 .r),.l (.G .s) .a] hk d b
 obtain⟨t,e⟩:=nq z0;exact⟨t,e.symm,by exact ì [_] [_,_,_,_] (.X 6 .n1 .q) [.Y 6 .r .s,.x .t (.M .n5 .r),.l (.G .t) .a,.e (.A .a (.M .n6 .s)) .q] hk d b e,by exact ì [_] [_,_,_] (.x .q (.N 200)) [.X 6 .r .n8,.X 8 .s .n5,.l .a (.M .s .n8),.e .q (.A .a (.M .n6 .r))] hc h5 a e.symm⟩
theorem aCW{P:α->Prop}{a b c d e f:α}(h1:P a) (h2:P b) (h3:P c) (h4:P d) (h5:P e) (h6:P f):∀q∈[a,b,c,d,e,f],P q:= by
 refine List.forall_mem_cons.mpr ⟨h1,List.forall_mem_cons.mpr ⟨h2,List.forall_mem_cons.mpr ⟨h3,List.forall_mem_cons.mpr ⟨h4,List.forall_mem_cons.mpr ⟨h5,List.forall_mem_cons.mpr ⟨h6,nofun⟩⟩⟩⟩⟩⟩
theorem TG{t:Nat}(h:t<=5):dD (t:Int)=Wu/\dD (8*(t:Int))=Wu:=(by decide:∀t:Fin 6,dD (t.val:Int)=Wu/\dD (8*(t.val:Int))=Wu) ⟨t,tz h⟩
theorem aE4{p u v:Int}{c:Nat}(h:u=v+6*(c:Int)):p+8*u=p+8*v+48*(c:Int):=by lia
theorem TH{n:Nat}{ps lv:List Int}{c tu k:Nat}{w:Int}{H X:Nat->Option PV}{m:Ý}(hc:c=6\/c=8) (hw:0<=w/\w<=14*E8 c) (t1:1<=tu) (t5:tu<=5) (Gp:ps.length=c) (hP:0<=ps.getD k 0/\ps.getD k 0<48) (hlv:lv.length=c) (hL:-(k:Int)<=lv.getD k 0/\lv.getD k 0<=8) (hk:k<c):
  ∃E,aD (FT aQ (n+1)) (bo (tq 28 bF.code)) (st (LE H X c lv ps tu w m) 27 (.int (k:Int)))=J (E,.next)/\E=LE H (lk E) c lv ps tu w (jV m (aM (ps.getD k 0+8*(tu*lv.getD k 0)) (E8 k))):= by
 have c8:c<=8:=by rcases hc with rfl|rfl<;>decide
 obtain⟨t,ht,Ln,ht2⟩:=TD c8 hk t1 t5 hL.1 hL.2;obtain⟨h,s,v,⟨e1,r1,r2,r3⟩,sh⟩:=LS (n:=n) hc hk hw hP.1 hP.2;obtain⟨x,y,z,f,e2,r4,r5,r6⟩:=sh t Ln ht2;rw[aE4 ht,FX] at r4 r5 r6;have hu:=ba (eE k);obtain⟨a,b,g⟩:=f0 (ps.getD k 0) (E8 k) hu;obtain⟨a',b',g'⟩:=f0 (ps.getD k 0+8*((tu:Int)*lv.getD k 0)) (E8 k) hu;have u8:(0:Int)<=8*E8 k:=oo (by decide) hu;have up:∀{i:Int},0<=i/\i<=8*E8 k->0<=w+i/\w+i<=SZ c:=aE2 hk hw;have m8:=up ⟨u8,bq _⟩;have z32:∀{i:Int},i<=SZ c->i<=2^32:=λh=>ar h (ar (gm.mpr (SZ_le hc)) (by decide));have k9:k<10:=af hk (aa c8 (by decide));have k6:k<1000000:=eb k9 (by decide);obtain⟨s1,s2⟩:=TG t5;exact FW hc k9 (cW (Gp.symm▸hk) k6) (cW (hlv.symm▸hk) k6) s1 s2 (up a) (up b) (up g) e1 ht f e2 (dN hc m8.1 m8.2) (aCW (nR r1 hP.1 (ar (ba hP.2) (by decide))) (nR r2 u8 (z32 (ar (Int.le_add_of_nonneg_left hw.1) m8.2))) (nR r3 m8.1 (z32 m8.2)) (nR r4 (up a').1 (z32 (up a').2)) (nR r5 (up b').1 (z32 (up b').2)) (nR r6 (up g').1 (z32 (up g').2)))
theorem FY{n:Nat}{ps lv:List Int}{c tu:Nat}{w:Int}{H:Nat->Option PV}(hc:c=6\/c=8) (hw:0<=w/\w<=14*E8 c) (t1:1<=tu) (t5:tu<=5) (Gp:ps.length=c) (hP:∀k<c,0<=ps.getD k 0/\ps.getD k 0<48) (hlv:lv.length=c) (hL:∀k<c,-(k:Int)<=lv.getD k 0/\lv.getD k 0<=8) (d:Nat):
  ∀(k:Nat) (X:Nat->Option PV),k+d=c->∃Y,e9 (aD (FT aQ (n+1)) (bo (tq 28 bF.code))) [27] ((List.range' k d).map λk:Nat=>PV.int (k:Int)) (LE H X c lv ps tu w (gO (λk=>ps.getD k 0) (λk=>(tu:Int)*lv.getD k 0) k))=J (LE H Y c lv ps tu w (gO (λk=>ps.getD k 0) (λk=>(tu:Int)*lv.getD k 0) c),.next):= by
 induction d with
 |zero=>intro k X hk;cases hk;exact⟨X,rfl⟩
 |succ d ih=>
  intro k X hk;have hkc:k<c:=by exact ā (.y .q .r) [.z1 (.A .q (.A .s .n1)) .r] hk
  obtain⟨E,e1,e2⟩:=TH (n:=n) (H:=H) (X:=X) (m:=gO (λk=>ps.getD k 0) (λk=>(tu:Int)*lv.getD k 0) k) hc hw t1 t5 Gp (hP k hkc) hlv (hL k hkc) hkc;obtain⟨Y,e⟩:=ih (k+1) (lk E) (by lia);refine⟨Y,?_⟩;rw[List.range'_succ,aw];exact bU rfl e1 (by rw[e2];exact e)
end L1
namespace L1
noncomputable def lev:Int->List Nat->List Int
 |_,[]=>[]
 |o,r::l=>match l with
  |[]=>[]
  |r'::l'=>(o+(r:Int))::lev (o+(r:Int)-1) (r'::l')
theorem v8 (o:Int) (r r':Nat) (l:List Nat):lev o (r::r'::l)=(o+(r:Int))::lev (o+(r:Int)-1) (r'::l):=rfl
noncomputable def iA:Int->List Nat->Int
 |o,[]=>o
 |o,r::l=>match l with
  |[]=>o+(r:Int)
  |r'::l'=>iA (o+(r:Int)-1) (r'::l')
theorem v9 (o:Int) (r r':Nat) (l:List Nat):iA o (r::r'::l)=iA (o+(r:Int)-1) (r'::l):=rfl
theorem oW (r r':Nat) (l:List Nat):cL (r::r'::l)=ab r 40++(41::cL (r'::l)):= by
 unfold cL;simp only[aw];show ab r 40++[41]++bV [41] _=_;simp
theorem tC (o:Int) (r:Nat) (l:List Nat):lvl o (ab r 40++l)=lvl (o+(r:Int)) l:= by
 induction r generalizing o with
 |zero=>simp
 |succ r ih=>
  rw[cj,gq,S8,ih];congr 1;push_cast;lia
theorem tD (o:Int) (r:Nat) (l:List Nat):fin o (ab r 40++l)=fin (o+(r:Int)) l:= by
 induction r generalizing o with
 |zero=>simp
 |succ r ih=>
  rw[cj,gq,ZP,ih];congr 1;push_cast;lia
theorem nS (l:List Nat):∀o:Int,lvl o (cL l)=lev o l:= by
 induction l with
 |nil=>exact λ_=>rfl
 |cons r l ih=>
  intro o;cases l with
  |nil=>exact(congrArg (lvl o) (bj _).symm).trans (tC o r [])
  |cons r' l=>rw[oW,tC,yO,ih,v8]
theorem AN (l:List Nat):∀o:Int,l≠[]->fin o (cL l)=iA o l:= by
 induction l with
 |nil=>exact λ_ h=>absurd rfl h
 |cons r l ih=>
  intro o _;cases l with
  |nil=>exact(congrArg (fin o) (bj _).symm).trans (tD o r [])
  |cons r' l=>rw[oW,tD,C4,ih _ (List.cons_ne_nil _ _),v9]
theorem C7 (l:List Nat):∀o:Int,l≠[]->iA o l=o+(l.sum:Int)-(l.length:Int)+1:= by
 induction l with
 |nil=>exact λ_ h=>absurd rfl h
 |cons r l ih=>
  intro o _;cases l with
  |nil=>exact(sw _ 1).symm
  |cons r' l=>
   rw[v9,ih _ (List.cons_ne_nil _ _),di (a:=r),ci (a:=r)];push_cast;lia
theorem nT (l:List Nat):∀o:Int,(lev o l).length=l.length-1:= by
 induction l with
 |nil=>exact λ_=>rfl
 |cons r l ih=>
  intro o;cases l with
  |nil=>rfl
  |cons r' l=>exact congrArg (·+1) (ih _)
theorem rM (l:List Nat):∀ch∈cL l,ch=40\/ch=41:= by
 induction l with
 |nil=>exact λch h=>nomatch h
 |cons r l ih=>
  intro ch h;cases l with
  |nil=>exact .inl (ij.mp h).2
  |cons r' l=>
   rw[oW] at h;exact(ew.mp h).elim (λh=>.inl (ij.mp h).2) λh=>(dL.mp h).elim .inr (ih ch)
theorem H2{z f:Int}(hf:0<f) (h:0<=z):z%f<=z:=(Int.lt_or_le z f).elim (λc=>de (Int.emod_eq_of_lt h c)) λc=>ar (ba (ds z hf)) c
theorem LU (a b c:Int):a-c-(b-c)=a-b:=by lia
theorem TI{fold lo v a:Int}(hf:0<fold) (h:lo<=a) (hc:(a-v)%fold=0):lo+(v-lo)%fold<=a:= by
 rw[<-Int.emod_eq_emod_iff_emod_sub_eq_zero.mpr ((congrArg (·%fold) (LU a v lo)).trans hc)];exact Int.add_le_of_le_sub_left (H2 hf (Int.sub_nonneg.mpr h))
theorem AO (fold:Int) (l:List Int):∀lo:Int,(low fold lo l).length=l.length:= by
 induction l with
 |nil=>exact λ_=>rfl
 |cons v l ih=>exact λ_=>congrArg (·+1) (ih _)
theorem H3{fold:Int}(lo v:Int):(lo+(v-lo)%fold-v)%fold=0:= by
 rw[Int.sub_emod,Int.add_emod,Int.emod_emod_of_dvd _ (Int.dvd_refl fold),<-Int.add_emod,<-Int.sub_emod];have:lo+(v-lo)-v=0:=by lia
 rw[this];rfl
end L1
namespace L1
theorem qI{f:Nat}{p o:Int}(r:Nat) (hf:0<f) (h:(p-o)%(f:Int)=0):(p+((r%f:Nat):Int)-(o+(r:Int)))%(f:Int)=0:= by
 rw[show p+((r%f:Nat):Int)-(o+(r:Int))=p-o+(((r%f:Nat):Int)-(r:Int)) by lia,Int.add_emod,h,Int.emod_eq_emod_iff_emod_sub_eq_zero.mp (by rw[Int.natCast_emod,Int.emod_emod_of_dvd _ (Int.dvd_refl _)]),se,Int.zero_emod]
theorem XU{f r:Nat}{z:Int}(hf:0<f) (h0:0<=z) (h:(z-(r:Int))%(f:Int)=0):((r%f:Nat):Int)<=z:= by
 rw[Int.natCast_emod,<-Int.emod_eq_emod_iff_emod_sub_eq_zero.mpr h];exact H2 (ei.mpr hf) h0
theorem aFV{q p z m:Int}(a:z<=p+m) (c:m<=z-q):q<=p:=by exact fz4 (.l .a .b) [.l .c (.A .b .d),.l .d (.S .c .a)] a c
noncomputable def mx (q:Int):Int:=if q>1 then q else 1
def nxt (f q v:Int):Int:=mx q+(v-mx q)%f
theorem aCX (q:Int):1<=mx q/\q<=mx q/\∀z,q<=z->1<=z->mx q<=z:= by
 unfold mx
 by_cases h:q>1
 ·rw[if_pos h];exact⟨ba h,bq q,λ_ a _=>a⟩
 ·rw[if_neg h];exact⟨bq 1,dr.mp h,λ_ _ a=>a⟩
theorem tE{f:Int}(hf:0<f) (q v:Int):1<=nxt f q v/\q<=nxt f q v/\(nxt f q v-v)%f=0/\∀z,q<=z->1<=z->(z-v)%f=0->nxt f q v<=z:= by
 obtain⟨a,b,c⟩:=aCX q;have h:=ml (a:=mx q) (ge (v-mx q) (iD hf));exact⟨ar a h,ar b h,H3 _ _,λz h1 h2 h3=>TI hf (c z h1 h2) h3⟩
theorem ZR (f q v:Int) (l:List Int):low f (mx q) (v::l)=nxt f q v::low f (mx (nxt f q v-1)) l:=rfl
theorem FZ{f q v:Int}{l:List Int}:(low f (mx q) (v::l)).getLastD (q+1)=(low f (mx (nxt f q v-1)) l).getLastD (nxt f q v-1+1):= by
 rw[ZR,List.getLastD_cons,sw]
theorem F0{f:Nat}(hf:0<f) (rs:List Nat):∀(r:Nat) (o p q:Int),(p-o)%(f:Int)=0->0<=q->q<=p->(∀v∈lev p ((r::rs).map (·%f)),1<=v)->iA p ((r::rs).map (·%f))=0->(low (f:Int) (mx q) (lev o (r::rs))).getLastD (q+1)=1:= by
 induction rs with
 |nil=>
  intro r o p q _ h0 h1 _ h;have h:p+((r%f:Nat):Int)=0:=h;show q+1=1;exact iz (ì [_,_] [_] (.l .kf .n1) [.l .a .b,.e (.A .b .q) .n0] h1 h) (ÿ (.l .n1 .kf) [.l .n0 .a] h0)
 |cons r2 rs ih=>
  intro r o p q hc h0 h1 hv Ls;have ha:=hv (p+((r%f:Nat):Int)) ag;have Jy:=qI r hf hc;obtain⟨n1,n2,-,n4⟩:=tE (ei.mpr hf) q (o+(r:Int));have n4:=n4 _ (ar h1 (ml (bl _))) ha Jy;rw[v8,FZ];exact ih r2 _ _ _ ((congrArg (·%(f:Int)) (LU ..)).trans Jy) (Int.sub_nonneg.mpr n1) (rh n4 1) (λv Jk=>hv v (ah _ Jk)) Ls
theorem F1{f:Nat}(hf:0<f) (rs:List Nat):∀(r:Nat) (o p q:Int),(p-o)%(f:Int)=0->(q-o)%(f:Int)=0->iA p ((r::rs).map (·%f))=0->iA o (r::rs)=0->(low (f:Int) (mx q) (lev o (r::rs))).getLastD (q+1)=1->
  q<=p/\∀v∈lev p ((r::rs).map (·%f)),1<=v:= by
 induction rs with
 |nil=>
  intro r o p q _ hq h1 h2 h3;have h1:p+((r%f:Nat):Int)=0:=h1;have h2:o+(r:Int)=0:=h2;have h3:q+1=1:=h3;rw[show q-o=(r:Int) by lia,<-Int.natCast_emod] at hq;exact⟨by exact ì [_,_] [_] (.l .a .b) [.e .q .n0,.e .n0 (.A .b .q),.e .kf .n1] hq h1.symm h3,nofun⟩
 |cons r2 rs ih=>
  intro r o p q hc hq h1 h2 h3;rw[v8,FZ] at h3;obtain⟨n1,n2,n3,-⟩:=tE (ei.mpr hf) q (o+(r:Int));obtain⟨a,b⟩:=ih r2 _ _ _ ((congrArg (·%(f:Int)) (LU ..)).trans (qI r hf hc)) ((congrArg (·%(f:Int)) (LU ..)).trans n3) h1 h2 h3;have c:=XU (r:=r) hf (Int.sub_nonneg.mpr n2) (by
   rw[show nxt f q (o+r)-q-(r:Int)=nxt f q (o+r)-(o+r)-(q-o) by lia,Int.sub_emod,n3,hq];rfl)
  have a:=Int.le_of_sub_le_sub_right a;exact⟨aFV a c,λv hv=>(dL.mp hv).elim (λe=>e▸ar n1 a) (b v)⟩
end L1
namespace L1
noncomputable def dB:Int->List Int->List Nat
 |_,[]=>[0]
 |q,x::l=>(x-q).toNat::dB (x-1) l
theorem H4 (q x:Int) (l:List Int):dB q (x::l)=(x-q).toNat::dB (x-1) l:=rfl
theorem C8 (l:List Int) (q:Int):∃a b,dB q l=a::b:=by cases l<;>exact⟨_,_,rfl⟩
theorem H5{f r:Nat}{z:Int}(h0:0<=z) (h:(z-(r:Int))%(f:Int)=0):z.toNat%f=r%f:= by
 have h1:=Int.emod_eq_emod_iff_emod_sub_eq_zero.mpr h;have h2:((z.toNat:Nat):Int)=z:=ca h0;rw[<-h2] at h1
 exact_mod_cast h1
theorem XW{f:Nat}(hf:0<f) (rs:List Nat):∀(r:Nat) (o q:Int),(q-o)%(f:Int)=0->0<=q->iA o (r::rs)=0->(low (f:Int) (mx q) (lev o (r::rs))).getLastD (q+1)=1->
  (dB q (low (f:Int) (mx q) (lev o (r::rs)))).map (·%f)=(r::rs).map (·%f)/\lev q (dB q (low (f:Int) (mx q) (lev o (r::rs))))=low (f:Int) (mx q) (lev o (r::rs))/\iA q (dB q (low (f:Int) (mx q) (lev o (r::rs))))=0/\∀x∈low (f:Int) (mx q) (lev o (r::rs)),1<=x:= by
 induction rs with
 |nil=>
  intro r o q hq _ h2 h3;have h2:o+(r:Int)=0:=h2;have h3:q+1=1:=h3;have h3:q=0:=by lia
  subst h3;rw[show 0-o=(r:Int) by lia] at hq;have hr:r%f=0:=oh hq;exact⟨congrArg (λx=>[x]) ((Nat.zero_mod f).trans hr.symm),rfl,rfl,nofun⟩
 |cons r2 rs ih=>
  intro r o q hq h0 h2 h3;rw[v8] at h3⊢;rw[FZ] at h3;obtain⟨n1,n2,n3,-⟩:=tE (ei.mpr hf) q (o+(r:Int));obtain⟨i1,i2,i3,i4⟩:=ih r2 _ _ ((congrArg (·%(f:Int)) (LU ..)).trans n3) (Int.sub_nonneg.mpr n1) h2 h3;rw[ZR];have ha:=H5 (f:=f) (r:=r) (Int.sub_nonneg.mpr n2) (by
   rw[show nxt f q (o+r)-q-(r:Int)=nxt f q (o+r)-(o+r)-(q-o) by lia,Int.sub_emod,n3,hq];rfl)
  have hn:=ca (Int.sub_nonneg.mpr n2);generalize nxt f q (o+r)=z at*;generalize low (f:Int) (mx (z-1)) (lev (o+(r:Int)-1) (r2::rs))=X at*;rw[H4];obtain⟨a,b,Lp⟩:=C8 X (z-1);rw[Lp] at i1 i2 i3⊢;rw[aw,ha,i1,v8,v9,hn,show q+(z-q)=z by lia,i2,i3];exact⟨rfl,rfl,rfl,λy hy=>(dL.mp hy).elim (λe=>e▸n1) (i4 y)⟩
def Cg (f:Int):List Int->List Int->Prop
 |[],[]=>True
 |x::X,y::Y=>(x-y)%f=0/\Cg f X Y
 |_,_=>False
theorem aCY{f:Nat}(hf:0<f) (l:List Nat):∀o p:Int,(p-o)%(f:Int)=0->Cg f (lev p (l.map (·%f))) (lev o l):= by
 induction l with
 |nil=>exact λ_ _ _=>trivial
 |cons r l ih=>
  intro o p h;cases l with
  |nil=>trivial
  |cons r' l=>exact⟨qI r hf h,ih _ _ ((congrArg (·%(f:Int)) (LU ..)).trans (qI r hf h))⟩
theorem aCZ (f:Int) (l:List Int):∀lo:Int,Cg f (low f lo l) l:= by
 induction l with
 |nil=>exact λ_=>trivial
 |cons v l ih=>exact λlo=>⟨H3 lo v,ih _⟩
def w4 (P:Nat->Int) (tu:Nat):Nat->List Int->Hex
 |_,[]=>(0,0)
 |k,v::l=>fU (tnN (((tu:Int)*v)%6).toNat (hx (aM (P k) (E8 k)))) (w4 P tu (k+1) l)
theorem wA (P:Nat->Int) (tu k:Nat) (v:Int) (l:List Int):w4 P tu k (v::l)=fU (tnN (((tu:Int)*v)%6).toNat (hx (aM (P k) (E8 k)))) (w4 P tu (k+1) l):=rfl
theorem aE5 (P:Nat->Int) (tu:Nat) (l:List Int):∀k:Nat,(∀v∈l,1<=v)->con P tu k l=w4 P tu k l:= by
 induction l with
 |nil=>exact λ_ _=>rfl
 |cons v l ih=>
  intro k h;rw[ZO,wA,ih (k+1) λu hu=>h u (ah _ hu)];have e:(((tu:Int)*v)%6).toNat=(tu*v.toNat)%6:= by
   have h1:((v.toNat:Nat):Int)=v:=ca (ar (by decide) (h v ag));rw[<-h1];rfl
  rw[e,XJ]
theorem XY{t x y f b:Int}(h:(t*f)%6=0) (k:x-y=f*b):(t*x)%6=(t*y)%6:=
 Int.emod_eq_emod_iff_emod_sub_eq_zero.mpr (by rw[<-Int.mul_sub,k,<-qz,Int.mul_emod,h,Int.zero_mul];rfl)
theorem XZ (P:Nat->Int){tu:Nat}{f:Int}(hf:((tu:Int)*f)%6=0) (X:List Int):∀(Y:List Int) (k:Nat),Cg f X Y->w4 P tu k X=w4 P tu k Y:= by
 induction X with
 |nil=>intro Y k h;cases Y with
  |nil=>rfl
  |cons y Y=>exact h.elim
 |cons x X ih=>
  intro Y k h;cases Y with
  |nil=>exact h.elim
  |cons y Y=>rw[wA,wA,ih Y (k+1) h.2,XY hf (Int.mul_ediv_cancel_of_emod_eq_zero h.1).symm]
theorem LV (P:Nat->Int) (tu:Nat) (v:Int) (l:List Int):∀k:Nat,w4 P tu k (l++[v])=fU (w4 P tu k l) (tnN (((tu:Int)*v)%6).toNat (hx (aM (P (k+l.length)) (E8 (k+l.length))))):= by
 induction l with
 |nil=>exact λk=>LF ..
 |cons x l ih=>
  intro k;rw[gq,wA,wA,ih (k+1),v7,ci,Nat.succ_add_eq_add_succ]
theorem aC0 (P:Nat->Int) (tu:Nat) (lv:List Int) (k:Nat) (h:k<=lv.length):hx (gO P (λk=>(tu:Int)*lv.getD k 0) k)=w4 P tu 0 (lv.take k):= by
 induction k with
 |zero=>rfl
 |succ k ih=>
  rw[AK,SY,ih (iw h),S0,zd,bf h,cg,bf h,ux];show _=w4 P tu 0 (lv.take k++[_]);rw[LV,jw,gk,pr (iw h)]
end L1
namespace L1
variable{n:Nat}
theorem eOe{F:Fn}{pe:Ã}{a b:PE}{x y z:Bool}(h:aB F a pe=J (.bool x)) (k:aB F b pe=J (.bool y)) (e:(x||y)=z):aB F (.or a b) pe=J (.bool z):=e▸eO h k
theorem eAe{F:Fn}{pe:Ã}{a b:PE}{x y z:Bool}(h:aB F a pe=J (.bool x)) (k:aB F b pe=J (.bool y)) (e:(x&&y)=z):aB F (.and a b) pe=J (.bool z):=e▸eA h k
theorem eNe{F:Fn}{pe:Ã}{a:PE}{x z:Bool}(h:aB F a pe=J (.bool x)) (e:(!x)=z):aB F (.not a) pe=J (.bool z):=e▸eNt h
theorem F2{F:Fn}{pe:Ã}{l:List Int}(hl:l.length<=63) (h0:lk pe 0=J (aU l)):aB F (.ite (.cmp .Lt (.bi .len (.cons Qi .nil)) (.cst (.int 7))) Qn Qf) pe=J (.int ((if l.length<7 then 6 else 8:Nat):Int)):= by
 have q:aB F (.cmp .Lt (.bi .len (.cons Qi .nil)) (.cst (.int 7))) pe=J (.bool (decide ((l.length:Int)<7))):=eQ (eI (eK h0 eN) (CP (aa hl (by decide)))) eC rfl
 by_cases h:l.length<7
 ·rw[if_pos h];exact eIt (q.trans (congrArg (λb=>J (PV.bool b)) (decide_eq_true (ei.mpr h)))) rfl
 ·rw[if_neg h];exact eIf (q.trans (congrArg (λb=>J (PV.bool b)) (decide_eq_false λk=>h (ei.mp k)))) rfl
theorem X1{cc ee:Ã->Option PV}{pe:Ã}{tg:Nat}{l:List PV}(h:∀p∈l,∃x:Int,ee (st pe tg p)=J (.int x)):∃É:List Int,eU cc ee Wv tg pe l=J (É.map .int)/\É.length=l.length:= by
 induction l with
 |nil=>exact⟨[],rfl,rfl⟩
 |cons p l ih=>
  obtain⟨x,hx⟩:=h p ag;obtain⟨r,h1,h2⟩:=ih λq hq=>h q (ah _ hq);exact⟨x::r,i7 hx h1,congrArg (·+1) h2⟩
theorem TJ{F:Fn}{pe:Ã}{A C:PE}{tg n:Nat}{Fx:PI}{l:List PV}(hs:jM F Fx pe=J l) (hn:l.length=n) (h:∀p∈l,∃x:Int,aB F A (st pe tg p)=J (.int x)):∃É:List Int,aB F (.comp A tg Fx Wv C) pe=J (aU É)/\É.length=n:=
 (X1 h).imp λ_ e=>⟨eW hs e.1,e.2.trans hn⟩
theorem X2{x:Int}(h0:0<=x) (h1:x<1000000):mR x=Wu:=mw.mpr ⟨decide_eq_true (gj (by decide) h0),decide_eq_true (sb h1 (by decide))⟩
theorem AP{F:Fn}{pe:Ã}{l:List Int}{c:Nat}{pl:List Int}(hc:c=6\/c=8) (hl:l.length<=63) (Ra:pl.length=8) (h0:lk pe 0=J (aU l)) (h1:lk pe 1=J (.int (c:Int))) (h2:lk pe 2=J (.tup (pl.map .int)))
  (hs:∀v,lk (st pe 56 v) 56=J v/\lk (st pe 56 v) 0=lk pe 0/\lk (st pe 56 v) 1=lk pe 1/\lk (st pe 56 v) 2=lk pe 2/\∀u,lk (st (st pe 56 v) 57 u) 57=J u):
  ∃É:List Int,aB F (ex (tq 2 bF.code)) pe=J (aU É)/\É.length=c:= by
 obtain⟨c0,c8⟩:0<c/\c<=8:=by rcases hc with rfl|rfl<;>decide
 exact TJ (lX h1 (aa c8 (by decide))) (by unfold rng;rw[ao,gh]) λp hp=>by
  obtain⟨k,hk,rfl⟩:=ja.mp hp;have hk:=nt.mp hk;obtain⟨q1,q2,q3,q4,q5⟩:=hs (.int (k:Int));obtain⟨l',Wh,Nl⟩:=FG (l:=l) (aa hl (by decide)) k c c0 (aa c8 (by decide));have Fu:=RX (l'.map (·%1000000)) (bz.mpr λx hx=>by
   obtain⟨y,_,rfl⟩:=ja.mp hx;exact X2 (ge _ (by decide)) (ds _ (by decide))) (gG (aa Nl (by decide)))
  have k8:=af hk c8;have hg:iT (.tup (pl.map .int)) (.int (k:Int))=J (.int (pl.getD k 0)):=cW (Ra.symm▸k8) (eb k8 (by decide));exact⟨_,eB (eS (q4.trans h2) q1 hg) (eI (eK (eWe (d8 (l:=l'.map .int) (eZ (q2.trans h0) q1 eC (q3.trans h1) rfl rfl rfl Wh) (gG (aa Nl (by decide)))) (jG (g:=λx=>.int (x%1000000)) λx _=>eB (q5 _) (eB eC eC ((vI _ _ (by decide)).trans rfl)) (cN _ 1000000 (by decide))) (ip ..).symm) eN) Fu) rfl⟩
theorem aE6 (a b:Nat):(if (b:Int)<(a:Int) then(b:Int) else(a:Int))=((min a b:Nat):Int):= by
 by_cases h:b<a
 ·rw[if_pos (ei.mpr h),qu (dp h)]
 ·rw[if_neg λk=>h (ei.mp k),pr (oq h)]
noncomputable def TK (x:Int):Nat:=[0,0,1,1,2,3,4,7].getD (x%8).toNat 0
theorem TL{F:Fn}{pe:Ã}{x:Int}(h5:lk pe 5=J (.int x)):aB F (.sub (.tup (.cons Qd (.cons Qd (.cons Qa (.cons Qa (.cons (.cst (.int 2)) (.cons (.cst (.int 3)) (.cons (.cst (.int 4)) (.cons (.cst (.int 7)) .nil))))))))) (.bin .Mod (.var 5) Qf)) pe=J (.int (TK x:Int)):= by
 have h0:=ge x (b:=8) (by decide);have h1:=ds x (b:=8) (by decide);have key:∀n:Nat,n<8->([0,0,1,1,2,3,4,7].map PV.int)[n]?=J (.int (([0,0,1,1,2,3,4,7]:List Nat).getD n 0:Int)):=λn h=>by
  show((([0,0,1,1,2,3,4,7]:List Nat).map λk:Nat=>PV.int (k:Int)))[n]?=_;rw[ej,List.getD,bf h];rfl
 exact eS (x:=.tup ([0,0,1,1,2,3,4,7].map PV.int)) rfl (eB h5 eC (cN x 8 (by decide))) (aB7 h0 (by exact gj h1 (by decide)) (key _ (by exact ì [_] [_] (.y .q .n8) [.t .a .n8,.e .q .a] h1 (ca (Ğ [_] (.l .n0 .a) [.l .n0 .a] h0)))))
theorem yQ{F:Fn}{pe:Ã}{c:Nat}{R:List Nat}(h1:lk pe 1=J (.int (c:Int))) (h4:lk pe 4=J (gK R)) (hl:R.length<=20) (hc:c<=20) (hs:R.sum<=c):aB F (.bin .Sub Qe (.bi .sum (.cons (.var 4) .nil))) pe=J (.int ((c-R.sum:Nat):Int)):= by
 rw[Int.ofNat_sub hs];exact eB h1 (eI (eK h4 eN) (CQ (by exact aa hl (by decide)) (by exact ä (.x .q .kn) [.x .r (.N 20),.x .q .r] hc hs))) rfl
theorem TM{F:Fn}{pe:Ã}{x:Int}{acc:List Nat}{c:Nat}(h1:lk pe 1=J (.int (c:Int))) (h4:lk pe 4=J (gK acc)) (h5:lk pe 5=J (.int x)) (hl:acc.length<=20) (hs:acc.sum<=c) (hc:c<=20):
  aB F (ex (bo (tq 4 bF.code))) pe=J (.int ((min (c-acc.sum) (TK x):Nat):Int)):=eI (eK (yQ h1 h4 hl hc hs) (eK (TL h5) eN)) ((EZ _ _).trans (congrArg (λz:Int=>J (PV.int z)) (aE6 _ _)))
theorem F3{F:Fn}{c:Nat}(hc:c<=20) (h0 h2 h3 h6:Option PV) (T:List (Option PV)) (ns:List Int):∀(acc:List Nat) (x5:Option PV),acc.sum<=c->acc.length+ns.length<=20->∃R y5,
   e9 (aD F (bo (tq 4 bF.code))) [5] (ns.map .int) (h0::J (.int (c:Int))::h2::h3::J (gK acc)::x5::h6::T)=J (h0::J (.int (c:Int))::h2::h3::J (gK R)::y5::h6::T,.next)/\R.length=acc.length+ns.length/\R.sum<=c:= by
 induction ns with
 |nil=>exact λacc x5 hs _=>⟨acc,x5,rfl,rfl,hs⟩
 |cons x ns ih=>
  intro acc x5 hs hl;have ha:=Nat.le_of_add_right_le hl;obtain⟨R,y5,e,i1,i2⟩:=ih (acc++[min (c-acc.sum) (TK x)]) (J (.int x)) (by
   rw[mu];exact aa (dx (Nat.min_le_left _ _) _) (be (nj hs))) (vK hl)
  have ev:=TM (F:=F) (pe:=h0::J (.int (c:Int))::h2::h3::J (gK acc)::J (.int x)::h6::T) (x:=x) (acc:=acc) (c:=c) rfl rfl rfl (by exact ha) hs hc;rw[show gK (acc++[min (c-acc.sum) (TK x)])=PV.lst ((acc.map λk:Nat=>PV.int (k:Int))++[.int ((min (c-acc.sum) (TK x):Nat):Int)]) from congrArg PV.lst bm] at e;exact⟨R,y5,bU rfl (aJ (app rfl ev (gG (aa ha (by decide))))) e,i1.trans (by rw[am];exact Nat.succ_add_eq_add_succ _ _),i2⟩
theorem LW{F:Fn}{pe:Ã}{É:List Int}(h3:lk pe 3=J (aU É)) (h:0<É.length):aB F (ex (tq 6 bF.code)) pe=J (.bool (É.getD 0 0/384%2==0)):=eQ (eB (eB (eS h3 eC (cW (k:=0) h (by decide))) eC (fZ _ _ ⟨by decide,by decide⟩)) eC (cN _ _ (by decide))) eC (zV _ _)
theorem F4{F:Fn}{pe:Ã}{r s:Nat}{R:List Nat}(h4:lk pe 4=J (gK (r::R))) (h6:lk pe 6=J (.int (s:Int))) (hl:R.length<=20):aB F (ex (bo (tq 6 bF.code))) pe=J (gK ((r+s)::R++[0])):= by
 have sl:f8 (gK (r::R)) (J 1) Ww Ww=J (gK R):=aBY ((r::R).map λk:Nat=>PV.int (k:Int)) 1 (by decide) (by rw[ao,ci];exact Ć (.x .kl (.N 100000)) [.x .q (.N 20)] hl);have lR:(R.map λk:Nat=>PV.int (k:Int)).length<=20:=by rw[ao];exact hl
 refine eB (eB (eL (eK (eB (eS h4 eC (lY (by decide) (by decide) rfl)) h6 rfl) eN)) (eZ h4 eC eC eC rfl rfl rfl sl) (dZ [_] _ (show 1+_<=100000 by exact Ć (.x (.A .n1 .q) (.N 100000)) [.x .q (.N 20)] lR))) (eL (eK eC eN)) ((dZ (PV.int ((r:Int)+(s:Int))::R.map λk:Nat=>PV.int (k:Int)) [PV.int 0] (show(R.map λk:Nat=>PV.int (k:Int)).length+1+1<=100000 by exact Ć (.x (.A .kl .n1) (.N 100000)) [.x .q (.N 20)] lR)).trans ?_);unfold gK;rw[bm];rfl
theorem LY{F:Fn}{pe:Ã}{s:Nat}{R:List Nat}(h4:lk pe 4=J (gK R)) (h6:lk pe 6=J (.int (s:Int))) (hl:R.length<=20):aB F (.bin .Add (.var 4) (.list (.cons (.var 6) .nil))) pe=J (gK (R++[s])):= by
 refine eB h4 (eL (eK h6 eN)) ((dZ (R.map λk:Nat=>PV.int (k:Int)) [PV.int (s:Int)] (by rw[ao,List.length_singleton];exact Ć (.x .kl (.N 100000)) [.x .q (.N 20)] hl)).trans ?_);unfold gK;rw[bm];rfl
end L1
namespace L1
variable{n:Nat}
noncomputable def Ő:List (List Pc):=[[],[([92,40],Wv)],[([92,41],Wv)],[([40],Wu)],[([41],Wu)],[([92,34,41],Wu)],[([92,92],Wv)],[([92,34],Wv)]]
structure Kd (kd:List Pc):Prop where
 ok:ö kd
 two:∀u∈Ą Wv (bR kd),u.length=2
 low:∀c∈aY kd,c<128
 len:(aY kd).length<=5
 bare:bR kd=if (aY kd).take 1=[34] then[] else aY kd
theorem ZS:∀kd∈Ő,Kd kd:= by
 have H:∀kd∈Ő,(∀p∈kd,lW Wv p.1=Wv/\∀u∈Ą Wv p.1,u≠[34])/\(∀u∈Ą Wv (bR kd),u.length=2)/\(∀c∈aY kd,c<128)/\(aY kd).length<=5/\bR kd=if (aY kd).take 1=[34] then[] else aY kd:=by decide
 intro kd h;obtain⟨a,b,c,d,e⟩:=H kd h;exact⟨a,b,c,d,e⟩
theorem LZ{F:Fn}{pe:Ã}:aB F (ex (tq 7 bF.code)) pe=J (fL (Ő.map aY)):=eL rfl
def hdL (x:Int) (c:Nat):List (List Pc):=[[],Ő.getD (x/384%8).toNat [],[],[],Ő.getD (x/3072%8).toNat []]++ab (c-4) []
theorem H6 (z:Int):∃kd,Ő[(z%8).toNat]?=J kd/\Ő.getD (z%8).toNat []=kd/\Kd kd:= by
 have h:(z%8).toNat<Ő.length:=(Int.toNat_lt (ge z (by decide))).mpr (ds z (by decide));exact⟨_,bf h,by rw[cg,bf h];rfl,ZS _ (uo h)⟩
theorem aC1 (x:Int) (c:Nat):∀kd∈hdL x c,Kd kd:= by
 have k0:Kd []:=ZS [] ag;obtain⟨a,-,a2,a3⟩:=H6 (x/384);obtain⟨b,-,b2,b3⟩:=H6 (x/3072);unfold hdL;rw[a2,b2];have cn:∀{a:List Pc}{l:List (List Pc)},Kd a->(∀x∈l,Kd x)->∀x∈a::l,Kd x:=λh g=>List.forall_mem_cons.mpr ⟨h,g⟩;exact cn k0 (cn a3 (cn k0 (cn k0 (cn b3 λkd h=>(ij.mp h).2▸k0))))
theorem X3 (x:Int){c:Nat}(hc:c=6\/c=8):(hdL x c).length=c+1:=by rcases hc with rfl|rfl<;>rfl
theorem F5{F:Fn}{pe:Ã}{É:List Int}{c:Nat}(hc:c=6\/c=8) (h1:lk pe 1=J (.int (c:Int))) (h3:lk pe 3=J (aU É)) (h7:lk pe 7=J (fL (Ő.map aY))) (hl:2<É.length):
  aB F (ex (tq 8 bF.code)) pe=J (fL ((hdL (É.getD 2 0) c).map aY)):= by
 have g:=cW (l:=É) (k:=2) hl (by decide);unfold hdL;generalize É.getD 2 0=x at*;obtain⟨a,a1,a2,-⟩:=H6 (x/384);obtain⟨b,b1,b2,-⟩:=H6 (x/3072);have at_:∀{z:Int}{kd:List Pc},Ő[(z%8).toNat]?=J kd->iT (fL (Ő.map aY)) (.int (z%8))=J (.str (sx (aY kd))):=λ{z kd} e=>
  lY (ge _ (by decide)) (sb (ds _ (by decide)) (by decide)) (by rw[ej,ej,e];rfl)
 rw[a2,b2,bm,List.map_replicate];refine eB (y:=.lst (ab (c-4) (.str (sx [])))) (eL (eK rfl (eK (eS h7 (eB (eB (eS h3 eC g) eC (fZ x 384 ⟨by decide,by decide⟩)) eC (cN _ 8 (by decide))) (at_ a1)) (eK rfl (eK rfl (eK (eS h7 (eB (eB (eS h3 eC g) eC (fZ x 3072 ⟨by decide,by decide⟩)) eC (cN _ 8 (by decide))) (at_ b1)) eN)))))) ?_ ((dZ _ _ (by rcases hc with rfl|rfl<;>exact Nat.le_of_ble_eq_true rfl)).trans ?_)
 ·refine eB (y:=.int ((c:Int)-4)) (eL (eK eC eN)) ?_ ?_
  ·exact eB h1 eC rfl
  ·rcases hc with rfl|rfl<;>rfl
 unfold fL;rw[bm,List.map_replicate];rfl
theorem L0{α β γ:Type}(f:α->β->γ) (x:α) (y:β) (a:List α):∀b:List β,a.length=b.length->(cv a.length).map (λk=>f (a.getD k x) (b.getD k y))=List.zipWith f a b:= by
 induction a with
 |nil=>exact λ_ _=>rfl
 |cons u a ih=>
  intro b h;cases b with
  |nil=>cases h
  |cons v b=>
   rw[ci,oa,aw,ip,List.zipWith_cons_cons];exact congrArg (_::·) (ih b (nw h))
noncomputable def part (kd:List Pc) (r:Nat):List Pc:=kd++[(ab r 40,Wv)]
theorem rN (kd:List Pc) (r:Nat):aY (part kd r)=aY kd++ab r 40:=(rJ ..).trans (congrArg (_++·) (bj _))
theorem nU (kd:List Pc) (r:Nat):bR (part kd r)=bR kd++ab r 40:=(rK ..).trans (congrArg (_++·) (bj _))
theorem X4{l:List (List Nat)}{k:Nat}(h:k<l.length) (hk:k<1000):iT (fL l) (.int (k:Int))=J (.str (sx (l.getD k []))):=
 lY (bl k) (ei.mpr (eb hk (by decide))) (by rw[lg,ej,cg,bf h];rfl)
theorem o7{α:Type}{l:List α}{k:Nat}{d:α}(h:k<l.length):l.getD k d∈l:=by rw[cg,bf h];exact uo h
theorem X5{l:List Nat}{k:Nat}(h:k<l.length) (hk:k<1000):iT (gK l) (.int (k:Int))=J (.int (l.getD k 0:Int)):=
 lY (bl k) (ei.mpr (eb hk (by decide))) (by rw[lg,ej,cg,bf h];rfl)
theorem yR{F:Fn}{pe:Ã}{T:List (List Nat)}{R:List Nat}{c i t:Nat}{cc:PE}(hc:c=6\/c=8) (h1:lk pe 1=J (.int (c:Int))) (hi:lk pe i=J (fL T)) (h4:lk pe 4=J (gK R)) (hT:T.length=c+1) (hR:R.length=c+1) (hr:∀r∈R,r<=20) (hl:∀x∈T,x.length<=5)
  (hs:∀v,lk (st pe t v) t=J v/\lk (st pe t v) i=lk pe i/\lk (st pe t v) 4=lk pe 4):
  aB F (.comp (.bin .Add (.sub (.var i) (.var t)) (.bin .Mult (.cst (.str ("(":Str))) (.sub (.var 4) (.var t)))) t (.rng1 (.bin .Add Qe Qa)) Wv cc) pe=J (fL (List.zipWith (λx r=>x++ab r 40) T R)):= by
 have z:=L0 (λ(x:List Nat) (r:Nat)=>PV.str (sx (x++ab r 40))) [] 0 T R (hT.trans hR.symm);have c9:c+1<=9:=by rcases hc with rfl|rfl<;>decide
 rw[hT] at z;unfold fL;rw[List.map_zipWith,<-z];refine eW (lX (n:=c+1) (eB h1 eC rfl) (aa c9 (by decide))) (jG λk hk=>?_);have hk:=nt.mp hk;have k9:k<1000:=af hk (aa c9 (by decide));have kT:k<T.length:=hT.symm▸hk;have kR:k<R.length:=hR.symm▸hk;have hrk:=hr _ (o7 (d:=0) kR);exact eB (eS ((hs _).2.1.trans hi) (hs _).1 (X4 kT k9)) (eB (x:=.str (sx [40])) rfl (eS ((hs _).2.2.trans h4) (hs _).1 (X5 kR k9)) (RY 40 (R.getD k 0) (jv hrk (by decide)))) (nE _ _ (by rw[dq];exact aa (jo (hl _ (o7 kT)) hrk) (by decide)))
end L1
namespace L1
variable{n:Nat}
noncomputable def jnP:List (List Pc)->List Pc
 |[]=>[]
 |p::l=>match l with
  |[]=>p
  |q::l'=>p++(([41],Wv)::jnP (q::l'))
theorem C9 (p q:List Pc) (l:List (List Pc)):jnP (p::q::l)=p++(([41],Wv)::jnP (q::l)):=rfl
theorem tB (a b:List Nat) (l:List (List Nat)):bV [41] (a::b::l)=a++(41::bV [41] (b::l)):= by
 show a++[41]++bV [41] (b::l)=_;simp
theorem qJ:∀ps:List (List Pc),aY (jnP ps)=bV [41] (ps.map aY)
 |[]=>rfl
 |[p]=>rfl
 |p::q::l=>by
  have ih:=qJ (q::l);rw[C9,rJ,aw,aw,tB];rw[aw] at ih;rw[<-ih];rfl
theorem H7:∀ps:List (List Pc),bR (jnP ps)=bV [41] (ps.map bR)
 |[]=>rfl
 |[p]=>rfl
 |p::q::l=>by
  have ih:=H7 (q::l);rw[C9,rK,aw,aw,tB];rw[aw] at ih;rw[<-ih];rfl
theorem ZU:Pl [41]:=⟨by decide,by decide⟩
theorem ZV (r:Nat):Pl (ab r 40):= by
 induction r with
 |zero=>exact Pl.nil
 |succ r ih=>
  have:Pl [40]:=⟨by decide,by decide⟩;exact this.app ih
theorem wB:∀{ps:List (List Pc)},(∀p∈ps,ö p)->ö (jnP ps)
 |[],_=>λp hp=>nomatch hp
 |[p],h=>h p ag
 |p::q::l,h=>by
  rw[C9];intro x hx;rcases ew.mp hx with hx|hx
  ·exact h p ag x hx
  ·rcases dL.mp hx with rfl|hx
   ·exact ZU
   ·exact wB (λy hy=>h y (ah _ hy)) x hx
theorem X6{kd:List Pc}(h:ö kd) (r:Nat):ö (part kd r):= by
 intro x hx;rcases ew.mp hx with hx|hx
 ·exact h x hx
 ·cases bx.mp hx;exact ZV r
noncomputable def brk (us:List (List Nat)):List Nat:=(us.map λu=>if u=[40]\/u=[41] then u else[]).flatten
theorem l7 (a b:List (List Nat)):brk (a++b)=brk a++brk b:=by unfold brk;simp
theorem H8 (us:List (List Nat)) (h:∀u∈us,u.length=2):brk us=[]:= by
 induction us with
 |nil=>rfl
 |cons u us ih=>
  have hu:=h u ag;have ih:=ih λv hv=>h v (ah _ hv);unfold brk at ih⊢;rw[aw,fm,ih,if_neg]
  ·rfl
  ·rintro (e|e)<;>exact absurd (e▸hu) (by decide)
theorem TN (r:Nat):Ą Wv (ab r 40)=ab r [40]:= by
 induction r with
 |zero=>rfl
 |succ r ih=>exact congrArg ([40]::·) ih
theorem TO (r:Nat):brk (ab r [40])=ab r 40:= by
 induction r with
 |zero=>rfl
 |succ r ih=>exact congrArg (40::·) ih
theorem AQ (hd:List (List Pc)):∀R:List Nat,hd.length=R.length->(∀kd∈hd,Kd kd)->brk (Ą Wv (bR (jnP (List.zipWith part hd R))))=cL R:= by
 induction hd with
 |nil=>intro R hl _;cases R with
  |nil=>rfl
  |cons r R=>cases hl
 |cons kd hd ih=>
  intro R hl h;cases R with
  |nil=>cases hl
  |cons r R=>
   have hk:=h kd ag;have ih:=ih R (nw hl) λk hk=>h k (ah _ hk);cases hd with
   |nil=>cases R with
    |nil=>
     show brk (Ą Wv (bR (part kd r)))=cL [r];rw[nU,kD _ _ (pX hk.ok).1,l7,H8 _ hk.two,TN,TO];rfl
    |cons r' R=>cases hl
   |cons kd' hd=>cases R with
    |nil=>cases hl
    |cons r' R=>
     show brk (Ą Wv (bR (jnP (part kd r::part kd' r'::List.zipWith part hd R))))=_;rw[C9,rK,nU,bk,kD _ _ (pX hk.ok).1,l7,H8 _ hk.two,kD _ _ (ZV r).1,l7,TN,TO,oW,<-ih];show[]++(_++brk (Ą Wv ([41]++_)))=_;rw[kD _ _ ZU.1,l7];rfl
theorem X7 (us:List (List Nat)):∀o:Nat,ĳ o us=ĳ o ((brk us).map λc=>[c]):= by
 induction us with
 |nil=>exact λ_=>rfl
 |cons u us ih=>
  intro o;have e:brk (u::us)=(if u=[40]\/u=[41] then u else[])++brk us:=by unfold brk;rw[aw,fm]
  rw[e]
  by_cases h0:u=[40]
  ·subst h0;exact ih (o+1)
  ·by_cases h1:u=[41]
   ·subst h1;cases o with
    |zero=>rfl
    |succ o=>exact ih o
   ·rw[if_neg λh=>h.elim h0 h1,ZJ,if_neg h0,if_neg h1];exact ih o
theorem X8 (l:List Nat):∀o:Nat,(∀ch∈l,ch=40\/ch=41)->((∀v∈lvl (o:Int) l,1<=v)->0<=fin (o:Int) l/\ĳ o (l.map λc=>[c])=J (fin (o:Int) l).toNat)/\(¬(∀v∈lvl (o:Int) l,1<=v)->ĳ o (l.map λc=>[c])=Ww):= by
 induction l with
 |nil=>exact λo _=>⟨λ_=>⟨bl o,rfl⟩,λh=>absurd (λv hv=>nomatch hv) h⟩
 |cons ch l ih=>
  intro o h;have h':∀d∈l,d=40\/d=41:=λd hd=>h d (ah _ hd);rcases h ch ag with rfl|rfl
  ·exact ih (o+1) h'
  ·cases o with
   |zero=>exact⟨λhv=>absurd (hv _ ag) (by decide),λ_=>rfl⟩
   |succ o=>
    have ih:=ih o h';rw[yO,C4,show((o+1:Nat):Int)-1=(o:Int) from Int.add_sub_cancel (o:Int) 1];exact⟨λhv=>ih.1 λv Jk=>hv v (ah _ Jk),λhv=>ih.2 λGv=>hv λv Jk=>(dL.mp Jk).elim (λe=>e▸gm.mpr (jk o)) (Gv v)⟩
theorem wD{t l:List Nat}(hb:brk (Ą Wv t)=l) (hl:∀ch∈l,ch=40\/ch=41):CM t=decide ((∀v∈lvl 0 l,1<=v)/\fin 0 l=0):= by
 have h:=X8 l 0 hl;unfold CM;rw[X7,hb];rw[show((0:Nat):Int)=0 from rfl] at h
 by_cases hv:∀v∈lvl 0 l,1<=v
 ·obtain⟨h0,h1⟩:=h.1 hv;rw[h1,og];simp only[beq_iff_eq,jm,decide_eq_true_eq];constructor
  ·intro e;exact⟨hv,by lia⟩
  ·rintro ⟨-,e⟩;rw[e];rfl
 ·rw[h.2 hv,og];simp only[decide_eq_true_eq];constructor
  ·intro e;cases e
  ·rintro ⟨e,-⟩;exact absurd e hv
end L1
namespace L1
variable{n:Nat}
theorem wE (l:List (List Nat)):(bV [41] l).length<=(l.map db).sum+l.length:= by
 induction l with
 |nil=>exact ai 0
 |cons a l ih=>
  cases l with
  |nil=>exact gy _
  |cons b l=>
   show(a++[41]++bV [41] (b::l)).length<=a.length+((b::l).map db).sum+((b::l).length+1);rw[am,am,List.length_singleton,Nat.add_assoc a.length,qt 1,Nat.add_assoc a.length];exact dx (im ih) _
theorem TP{m:Nat}(l:List (List Nat)) (h:∀x∈l,x.length<=m):(l.map db).sum<=m*l.length:= by
 induction l with
 |nil=>exact jd _
 |cons a l ih=>
  rw[aw,di,ci,Nat.mul_succ,qt];exact jo (ih λx hx=>h x (ah _ hx)) (h a ag)
def prt (hd:List (List Pc)) (R:List Nat):List (List Pc):=List.zipWith part hd R
theorem TQ (hd:List (List Pc)) (R:List Nat):(prt hd R).map aY=List.zipWith (λx r=>x++ab r 40) (hd.map aY) R:= by
 unfold prt;rw[List.map_zipWith,List.zipWith_map_left];exact congrArg (λf=>List.zipWith f hd R) (funext λkd=>funext λr=>rN kd r)
theorem wF (hd:List (List Pc)) (R:List Nat):(prt hd R).map bR=List.zipWith (λx r=>x++ab r 40) (hd.map bR) R:= by
 unfold prt;rw[List.map_zipWith,List.zipWith_map_left];exact congrArg (λf=>List.zipWith f hd R) (funext λkd=>funext λr=>nU kd r)
theorem tF{hd:List (List Pc)}:∀{R:List Nat}{p:List Pc},p∈prt hd R->∃kd∈hd,∃r∈R,p=part kd r:= by
 induction hd with
 |nil=>exact λh=>nomatch h
 |cons kd hd ih=>
  intro R p h;cases R with
  |nil=>cases h
  |cons r R=>
   rcases dL.mp (show p∈part kd r::prt hd R from h) with rfl|h
   ·exact⟨kd,ag,r,ag,rfl⟩
   ·obtain⟨a,a1,b,b1,e⟩:=ih h;exact⟨a,ah _ a1,b,ah _ b1,e⟩
theorem H9 (hd:List (List Pc)) (R:List Nat):(prt hd R).length<=R.length:=by unfold prt;rw[List.length_zipWith];exact(md _ _)
theorem rO{hd:List (List Pc)}{R:List Nat}(h:∀kd∈hd,Kd kd):∀p∈prt hd R,ö p:=λp hp=>by
 obtain⟨kd,h1,r,-,rfl⟩:=tF hp;exact X6 (h kd h1).ok r
theorem TR{hd:List (List Pc)}{R:List Nat}(h:∀kd∈hd,Kd kd) (hr:∀r∈R,r<=20):∀x∈(prt hd R).map aY,x.length<=25:=λx hx=>by
 obtain⟨p,hp,rfl⟩:=ja.mp hx;obtain⟨kd,h1,r,h2,rfl⟩:=tF hp;have:=(h kd h1).len;have:=hr r h2;rw[rN];simp;lia
theorem tG{hd:List (List Pc)}{R:List Nat}(h:∀kd∈hd,Kd kd) (hr:∀r∈R,r<=20) (hR:R.length<=20):(aY (jnP (prt hd R))).length<=520/\(((prt hd R).map aY).map db).sum+(prt hd R).length<=520:= by
 have h1:=TP _ (TR h hr);have h2:=H9 hd R;have h3:=wE ((prt hd R).map aY);rw[ao] at h1 h3;rw[qJ];have h4:25*(prt hd R).length<=25*20:=ls _ (by exact aa h2 hR);exact⟨by exact ā (.X 25 .q (.N 520)) [.X 25 .r (.M (.N 25) .s),.X 25 .q (.A .r .s),.X 26 (.M (.N 25) .s) (.M (.N 25) (.N 20))] h1 h3 h4,by exact ä (.X 25 (.A .q .r) (.N 520)) [.X 25 .q (.M (.N 25) .r),.X 26 (.M (.N 25) .r) (.M (.N 25) (.N 20))] h1 h4⟩
theorem AR{ps:List (List Pc)}(h:∀p∈ps,∀c∈aY p,c<128):∀c∈aY (jnP ps),c<128:= by
 induction ps with
 |nil=>exact λc hc=>nomatch hc
 |cons p l ih=>
  have ih:=ih λy hy=>h y (ah _ hy);cases l with
  |nil=>exact h p ag
  |cons q l=>
   intro c hc;rw[C9,rJ] at hc;exact(ew.mp hc).elim (h p ag c) λhc=>(dL.mp hc).elim (λe=>e▸by decide) (ih c)
theorem tH{hd:List (List Pc)}{R:List Nat}(h:∀kd∈hd,Kd kd):∀p∈prt hd R,∀c∈aY p,c<128:=λp hp c hc=>by
 obtain⟨kd,h1,r,-,rfl⟩:=tF hp;rw[rN] at hc;rcases ew.mp hc with hc|hc
 ·exact(h kd h1).low c hc
 ·rw[(ij.mp hc).2];decide
theorem AS (l:List Pc):(∀c∈bR l,c∈aY l)/\(bR l).length<=(aY l).length:= by
 induction l with
 |nil=>exact⟨nofun,ai _⟩
 |cons p l ih=>
  obtain⟨s,b⟩:=p;cases b with
  |false=>exact⟨λc hc=>(ew.mp hc).elim (List.mem_append_left _) λh=>List.mem_append_right _ (ih.1 c h),by rw[HT,HR,am,am];exact dx ih.2 _⟩
  |true=>exact⟨λc hc=>List.mem_append_right _ (ih.1 c hc),by rw[HS,am];exact aa ih.2 (ll ..)⟩
theorem yS{l:List Pc}{last:List Nat}(h:ö l) (hl:ý last) (hlen:(aY l).length+last.length<=1000) (ha:∀c∈aY l,c<128) (Qs:∀c∈last,c<128):
  FT aQ (n+1) 5 [.str (sx (aY l++last))]=J (.str (sx (bR l++last))):= by
 rw[aCC,<-KN h hl];exact KJ (by rw[am];exact aa hlen (by decide)) (bz.mpr λc hc=>decide_eq_true ((ew.mp hc).elim (ha c) (Qs c)))
theorem rP{l:List Pc}{last:List Nat}(h:ö l) (hl:ý last) (hlen:(aY l).length+last.length<=1000) (ha:∀c∈aY l,c<128) (Qs:∀c∈last,c<128):
  FT aQ (n+2) 6 [.str (sx (aY l++last))]=J (.bool (CM (bR l++last))):= by
 obtain⟨b1,b2⟩:=AS l;rw[aCD];exact KL (r:=bR l++last) (yS h hl hlen ha Qs) (by rw[am];exact aa (ax b2 _) (aa hlen (by decide))) (bz.mpr λc hc=>decide_eq_true ((ew.mp hc).elim (λh=>ha c (b1 c h)) (Qs c)))
theorem X9:ý [92]:=.inl (by decide)
theorem YA:ý [41]:=.inl (by decide)
theorem YB:ý [34,41]:=.inr ⟨[],[41],rfl,Pl.nil,by decide⟩
section
variable{pe:Ã}{hd:List (List Pc)}{R:List Nat}
theorem YC{F:Fn}{i:Nat}{T:List (List Nat)}{last:List Nat}(hi:lk pe i=J (fL T)) (hT:(T.map db).sum+T.length<=1000) (hl:last.length<=10):
  aB F (.bin .Add (.me .join (.cst (.str (sx [41]))) (.cons (.var i) .nil)) (.cst (.str (sx last)))) pe=J (.str (sx (bV [41] T++last))):=eB (eM eC (eK hi eN) (nF [41] T (by rw[List.length_singleton];exact ä (.x (.A .q (.M .r .n1)) (.N 100000)) [.x (.A .q .r) .kn] hT))) eC (nE _ _ (by have:=wE T;exact ů (.x (.A .q .r) (.N 100000)) [.x (.A .s .t) .kn,.x .r (.N 10),.x .q (.A .s .t)] hT hl this))
theorem L4 (h:∀kd∈hd,Kd kd) (hr:∀r∈R,r<=20) (hR:R.length<=20) (h9:lk pe 9=J (fL ((prt hd R).map aY))):aB (FT aQ (n+1)) (ex (tq 10 bF.code)) pe=J (.str (sx (bR (jnP (prt hd R))++[92]))):= by
 obtain⟨l1,l2⟩:=tG h hr hR;have s:=yS (n:=n) (wB (rO h (R:=R))) X9 (by rw[List.length_singleton];exact Ć (.x .kl .kn) [.x .q (.N 520)] l1) (AR (tH h)) (by decide);rw[qJ] at s;exact eF (eK (YC (last:=[92]) h9 (by rw[ao];exact aa l2 (by decide)) (by decide)) eN) s
theorem L5{F:Fn}(h:∀kd∈hd,Kd kd) (hl:hd.length<=20) (h8:lk pe 8=J (fL (hd.map aY))) (hs:∀v,lk (st pe 54 v) 54=J v):aB F (ex (tq 11 bF.code)) pe=J (fL (hd.map bR)):= by
 unfold fL at h8⊢;rw[ip] at h8;rw[ip];refine eW (d8 (l:=hd.map _) h8 (by rw[ao];exact aa hl (by decide))) (jG λkd hk=>?_);have u:=FA (aY kd) 1 (by decide) (by have:=(h kd hk).len;exact aa this (by decide));have q:=iE ((aY kd).take 1) [34];have e:aB F (.cmp .Eq (.slc (.var 54) Qc Qa Qc) (.cst (.str ("\"":Str)))) (st pe 54 (.str (sx (aY kd))))=_:=eQ (eZ (hs _) eC eC eC rfl rfl rfl u) eC q;show _=J (PV.str (sx (bR kd)));rw[(h kd hk).bare]
 by_cases hq:(aY kd).take 1=[34]
 ·rw[if_pos hq];rw[hq] at e;exact eIt e rfl
 ·rw[if_neg hq];rw[beq_false_of_ne hq] at e;exact eIf e (hs _)
end
end L1
namespace L1
variable{n:Nat}
theorem jnE{F:Fn}{pe:Ã}{e:PE}{T:List (List Nat)}{last:List Nat}(hi:aB F e pe=J (fL T)) (hT:(T.map db).sum+T.length<=1000) (hl:last.length<=10):
  aB F (.bin .Add (.me .join (.cst (.str (sx [41]))) (.cons e .nil)) (.cst (.str (sx last)))) pe=J (.str (sx (bV [41] T++last))):=eB (eM eC (eK hi eN) (nF [41] T (by rw[List.length_singleton];exact ä (.x (.A .q (.M .r .n1)) (.N 100000)) [.x (.A .q .r) .kn] hT))) eC (nE _ _ (by have:=wE T;exact ů (.x (.A .q .r) (.N 100000)) [.x (.A .s .t) .kn,.x .r (.N 10),.x .q (.A .s .t)] hT hl this))
theorem DA{kd:List Pc}(h:Kd kd):(bR kd).length<=5:=aa (AS kd).2 h.len
theorem w5{F:Fn}{pe:Ã}{hd:List (List Pc)}{R:List Nat}{c:Nat}(hc:c=6\/c=8) (h:∀kd∈hd,Kd kd) (Wi:hd.length=c+1) (hR:R.length=c+1) (hr:∀r∈R,r<=20) (h1:lk pe 1=J (.int (c:Int))) (h4:lk pe 4=J (gK R)) (Ju:lk pe 10=J (.str (sx (bR (jnP (prt hd R))++[92])))) (Qy:lk pe 11=J (fL (hd.map bR)))
  (hs:∀v,lk (st pe 53 v) 53=J v/\lk (st pe 53 v) 11=lk pe 11/\lk (st pe 53 v) 4=lk pe 4):aB F (ex (tq 12 bF.code)) pe=J (.bool Wv):= by
 have hb:∀x∈(prt hd R).map bR,x.length<=25:=λx hx=>by
  obtain⟨q,hq,rfl⟩:=ja.mp hx;obtain⟨kd,hk,r,Lx,rfl⟩:=tF hq;have:=DA (h kd hk);have:=hr r Lx;rw[nU,am,dq];lia
 have Jx:=TP _ hb;have h2:=H9 hd R;rw[ao] at Jx;have Mm:=ls 25 h2;rw[H7,wF] at Ju;rw[wF] at Jx;exact eQ Ju (jnE (last:=[92]) (yR hc h1 Qy h4 (by rw[ao];exact Wi) hR hr (λx hx=>by
  obtain⟨kd,hk,rfl⟩:=ja.mp hx;exact DA (h kd hk)) hs) (by rw[<-wF,ao] at*;lia) (by decide)) (nN rfl λ_ h=>nomatch h)
theorem aC2{F:Fn}{pe:Ã}{u:List Nat}(Po:lk pe 15=J (.str (sx u))):aB F (ex (tq 1 (bo (tq 14 bF.code)))) pe=J (.str (sx (if u=[40]\/u=[41] then u else[]))):= by
 have i:mI .In (.str (sx u)) (.tup [.str ("(":Str),.str (")":Str)])=J ((sx [40]==sx u)||((sx [41]==sx u)||false)):=rfl;rw[E7,E7] at i
 by_cases h0:u=[40]
 ·subst h0;exact eIt (eQ Po rfl i) Po
 ·by_cases h1:u=[41]
  ·subst h1;exact eIt (eQ Po rfl i) Po
  ·rw[beq_eq_false_iff_ne.mpr (qm h0),beq_eq_false_iff_ne.mpr (qm h1)] at i;rw[if_neg λh=>h.elim h0 h1];exact eIf (eQ Po rfl i) eC
theorem DB (u:List Nat) (us:List (List Nat)):brk (u::us)=(if u=[40]\/u=[41] then u else[])++brk us:=by unfold brk;rw[aw,fm]
theorem YD (u:List Nat):(if u=[40]\/u=[41] then u else[]).length<=u.length:=by split<;>simp
def UE (H:Nat->Option PV) (T:List (Option PV)) (U W:List Nat) (x14 x15:Option PV):Ã:=H 0::H 1::H 2::H 3::H 4::H 5::H 6::H 7::H 8::H 9::H 10::H 11::J (.str (sx U))::J (.str (sx W))::x14::x15::T
theorem F6{F:Fn}{H:Nat->Option PV}{T:List (Option PV)}(us:List (Nat×List Nat)):∀(U W:List Nat) (x14 x15:Option PV),Ŀ U.length us->U.length+((us.map (·.2)).flatten).length<=2000->W.length+((us.map (·.2)).flatten).length<=2000->(∀x∈us,x.2≠[])->∃y14 y15,
  e9 (aD F (bo (tq 14 bF.code))) [14,15] (us.map ŭ) (UE H T U W x14 x15)=J (UE H T (U++(us.map (·.2)).flatten) (W++brk (us.map (·.2))) y14 y15,.next):= by
 induction us with
 |nil=>exact λU W x14 x15 _ _ _ _=>⟨x14,x15,by rw[jy,jy,List.flatten_nil,bj,show brk []=[] from rfl,bj];rfl⟩
 |cons a us ih=>
  obtain⟨p,u⟩:=a;intro U W x14 x15 hp hU hW Fy;obtain⟨p1,p2⟩:=hp;have hb:=YD u;show ∃y14 y15,e9 _ _ (ŭ (p,u)::us.map ŭ) _=J (UE H T (U++(u++(us.map (·.2)).flatten)) (W++brk (u::us.map (·.2))) y14 y15,.next);have hU:U.length+(u++(us.map (·.2)).flatten).length<=2000:=hU;have hW:W.length+(u++(us.map (·.2)).flatten).length<=2000:=hW;rw[am,<-Nat.add_assoc] at hU hW;have hW:=aa (ax (dx hb W.length) _) hW;rw[DB,<-bk,<-bk];obtain⟨y14,y15,e⟩:=ih (U++u) (W++if u=[40]\/u=[41] then u else[]) (J (.int (p:Int))) (J (.str (sx u))) (by rw[am];exact p2) (by rw[am];exact hU) (by rw[am];exact hW) λx hx=>Fy x (ah _ hx);have hU2:=Nat.le_of_add_right_le hU;have q:mI .NotEq (.int (p:Int)) (.int (((U++u).length:Int)-1))=J Wv:= by
   rw[HQ,am,<-p1,show((p+1:Nat):Int)-1=(p:Int) from Int.add_sub_cancel (p:Int) 1,beq_self_eq_true];rfl
  exact⟨y14,y15,bU rfl (seq (aug rfl rfl (nE U u (aa hU2 (by decide)))) (seq (aug rfl (aC2 rfl) (nE W (if u=[40]\/u=[41] then u else[]) (aa (Nat.le_of_add_right_le hW) (by decide)))) (aJ (iO (eQ rfl (eB (eI (eK rfl eN) (CK (U++u) (by rw[am];exact aa hU2 (by decide)))) eC rfl) q) jE)))) e⟩
theorem AU{pe:Ã}{S:List Nat}{R:List Nat}(hs:R.sum<=100) (hl:R.length<=100) (Sx:lk pe 12=J (.str (sx S))) (Ju:lk pe 10=J (.str (sx S))) (Pp:lk pe 13=J (.str (sx (cL R)))) (h4:lk pe 4=J (gK R)):aB (FT aQ (n+1)) (.or (.cmp .NotEq (.var 12) (.var 10)) (.cmp .NotEq (.var 13) (.callB 10 (.cons (.var 4) .nil)))) pe=J (.bool Wv):=eOe (eQ Sx Ju (nN rfl λ_ h=>nomatch h)) (eQ Pp ((bs (eK (eV h4) eN)).trans ((bs (AD hs hl)).trans (if_pos rfl))) (nN rfl λ_ h=>nomatch h)) rfl
theorem L6 (R:List Nat):∀(o:Int) (m:Nat),1<=m->m<R.length->lvl o (cL (R.take m)++[41])=(lev o R).take m/\fin o (cL (R.take m)++[41])=(lev o R).getD (m-1) 0-1:= by
 induction R with
 |nil=>exact λ_ _ _ h=>absurd h (Nat.not_lt_zero _)
 |cons r R ih=>
  intro o m h1 h2;cases R with
  |nil=>exact absurd h1 (Ep.mpr h2)
  |cons r' R=>
   cases m with
   |zero=>cases h1
   |succ m=>
    cases m with
    |zero=>
     show lvl o (ab r 40++[41])=_/\fin o (ab r 40++[41])=_;rw[tC,tD];exact⟨rfl,rfl⟩
    |succ m=>
     obtain⟨i1,i2⟩:=ih (o+(r:Int)-1) (m+1) (jk m) (jn h2);show lvl o (cL (r::r'::R.take m)++[41])=_/\fin o (cL (r::r'::R.take m)++[41])=_;rw[oW,bk,gq,tC,tD,yO,C4];exact⟨congrArg (_::·) i1,i2⟩
theorem TS{α β γ:Type}(f:α->β->γ) (m:Nat) (a:List α) (b:List β):(List.zipWith f a b).take m=List.zipWith f (a.take m) (b.take m):=List.take_zipWith
theorem yT (R:List Nat):∀ch∈cL R++[41],ch=40\/ch=41:=λch h=>by
 rcases ew.mp h with h|h
 ·exact rM R ch h
 ·exact .inr (bx.mp h)
theorem DC{hd:List (List Pc)}{R:List Nat}{m:Nat}(h:∀kd∈hd,Kd kd) (hl:hd.length=R.length) (hr:∀r∈R,r<=20) (hR:R.length<=20) (h1:1<=m) (h2:m<R.length):
  FT aQ (n+2) 6 [.str (sx (bV [41] (((prt hd R).map aY).take m)++[41]))]=J (.bool (decide ((∀v∈(lev 0 R).take m,1<=v)/\(lev 0 R).getD (m-1) 0=1))):= by
 have et:((prt hd R).map aY).take m=(prt (hd.take m) (R.take m)).map aY:=by rw[<-yk];unfold prt;rw[TS]
 rw[et,<-qJ];have h':∀kd∈hd.take m,Kd kd:=λkd hk=>h kd (xo hk);have Lx:∀r∈R.take m,r<=20:=λr hk=>hr r (xo hk);obtain⟨l1,-⟩:=tG h' Lx (by rw[jw];exact aa (md _ _) hR);rw[rP (wB (rO h')) YA (by simp;exact aa l1 (by decide)) (AR (tH h')) (by decide)];have hb:brk (Ą Wv (bR (jnP (prt (hd.take m) (R.take m)))++[41]))=cL (R.take m)++[41]:= by
  rw[kD _ _ (pX (wB (rO h'))).1,l7];unfold prt;rw[AQ _ _ (by rw[jw,jw,hl]) h'];rfl
 rw[wD hb (yT _)];obtain⟨e1,e2⟩:=L6 R 0 m h1 h2;rw[e1,e2];congr 3;rw[eq_iff_iff];constructor
 ·rintro ⟨a,b⟩;exact⟨a,by lia⟩
 ·rintro ⟨a,b⟩;exact⟨a,by lia⟩
theorem F7{hd:List (List Pc)}{R:List Nat}(h:∀kd∈hd,Kd kd) (hl:hd.length=R.length) (hr:∀r∈R,r<=20) (hR:R.length<=20) (hR1:R≠[]) (hf:iA 0 R=0):
  FT aQ (n+2) 6 [.str (sx (bV [41] ((prt hd R).map aY)++[34,41]))]=J (.bool Wv):= by
 rw[<-qJ];obtain⟨l1,-⟩:=tG h hr hR;rw[rP (wB (rO h)) YB (by simp;exact aa l1 (by decide)) (AR (tH h)) (by decide)];have hb:brk (Ą Wv (bR (jnP (prt hd R))++[34,41]))=cL R++[41]:= by
  rw[kD _ _ (pX (wB (rO h))).1,l7];unfold prt;rw[AQ _ _ hl h];rfl
 rw[wD hb (yT _)];have key:∀(l:List Nat) (o:Int),(∀ch∈l,ch=40\/ch=41)->lvl o (l++[41])=lvl o l++[fin o l]:= by
  intro l
  induction l with
  |nil=>intro o _;rfl
  |cons ch l ih=>
   intro o Gm;have Ic:∀d∈l,d=40\/d=41:=λd hd=>Gm d (ah _ hd);rcases Gm ch ag with rfl|rfl
   ·rw[gq,S8,S8,ZP,ih _ Ic]
   ·rw[gq,yO,yO,C4,ih _ Ic];rfl
 congr 2;rw[decide_eq_false_iff_not]
 rintro ⟨a,-⟩
 have:=a 0 (by rw[key _ _ (rM R),AN R 0 hR1,hf];simp)
 lia
end L1
namespace L1
variable{n:Nat}
theorem l8 (b:Bool):mI .IsNot (.bool b) (.bool b)=J Wv:= by
 show J (!(b==b))=_;rw[beq_self_eq_true];rfl
theorem F8{F:Fn}{pe:Ã}{lv:List Int}{m:Nat}(Kz:lk pe 16=J (aU lv)) (Pq:lk pe 17=J (.int (m:Int))) (h1:1<=m) (h2:m<=lv.length) (hl:lv.length<=100):aB F (.sub (.var 16) (.bin .Sub (.var 17) Qa)) pe=J (.int (lv.getD (m-1) 0)):= by
 have g:=cW (l:=lv) (k:=m-1) (by exact ā (.y .q .r) [.x .s .r,.z1 .kl .s] h2 (cf (ĉ [_] (.x .n1 .q) [.x .n1 .q] h1))) (by exact ā (.y .q (.N 1000000)) [.x .r .s,.x .s (.N 100),.z1 .kl .r] h2 hl (cf (ĉ [_] (.x .n1 .q) [.x .n1 .q] h1)));rw[show((m-1:Nat):Int)=(m:Int)-1 by lia] at g;exact eS Kz (eB Pq eC rfl) g
theorem L7 (p:Int->Bool) (l:List Int):((l.filter p).map PV.int).isEmpty=decide (∀v∈l,p v=Wv):= by
 rw[List.isEmpty_map,og,Ah,wa,decide_eq_true_eq];exact forall_congr' λv=>forall_congr' λ_=>jl.symm
theorem yU{F:Fn}{pe:Ã}{e c:PE}{t:Nat}{l:List Int}(p:Int->Bool) (he:aB F e pe=J (aU l)) (hl:l.length<=1000) (hc:∀v∈l,aB F c (st pe t (.int v))=J (.bool (p v))) (ht:∀v,lk (st pe t v) t=J v):
  aB F (.cmp .Eq (.comp (.var t) t (.val e) Wu c) (.list .nil)) pe=J (.bool (decide (∀v∈l,p v=Wv))):= by
 exact eQ (eW (d8 he (gG (aa hl (by decide)))) (s5 (g:=PV.int) λv hv=>⟨hc v hv,λ_=>ht _⟩)) rfl ((aB8 _).trans (congrArg J (L7 ..)))
theorem L8{pe:Ã}{lv:List Int}{m:Nat}(Kz:lk pe 16=J (aU lv)) (Pq:lk pe 17=J (.int (m:Int))) (hl:lv.length<=100) (ht:∀v,lk (st pe 52 v) 52=J v):
  aB (FT aQ (n+1)) (ex (tq 1 (bo (tq 17 bF.code)))) pe=J (.bool (decide (∀v∈lv.take m,1<=v))):= by
 have u:=RB (lv.map PV.int) (m:Int) (by exact Ć (.l .n0 .q) []) (by rw[ao];exact aa hl (by decide));rw[lg,<-yk] at u;have e:decide (∀v∈lv.take m,(!decide (255+v>=256))=Wv)=decide (∀v∈lv.take m,1<=v):=decide_eq_decide.mpr (forall_congr' λv=>forall_congr' λ_=>by
  rw[Bool.not_eq_false',decide_eq_true_eq];lia)
 exact e▸yU (λv=>!decide (255+v>=256)) (eZ Kz eC Pq eC rfl rfl rfl u) (by rw[jw];exact ä (.x .q .kn) [.x .r (.N 100),.x .q .r] hl (md _ _)) (λv _=>eNt (eF (eK (eB eC (ht _) rfl) eN) (R0 _))) ht
theorem aE7 (x:Int):FT aQ (n+1) 9 [.int (x-1)]=J (.bool (decide (x=1))):= by
 rw[W7];congr 2;rw[og,beq_iff_eq,decide_eq_true_eq];lia
theorem w6{pe:Ã}{x:Int}(Qt:lk pe 18=J (.int x)):aB (FT aQ (n+1)) (ex (tq 2 (bo (tq 17 bF.code)))) pe=J (.bool Wv):=eQ (eF (eK (eB Qt eC rfl) eN) (aE7 x)) (eQ Qt eC (show _=J (decide (x=1)) by rw[zV];congr 1)) (l8 _)
theorem wG{pe:Ã}{T:List (List Nat)}{m:Nat}{x:Int}{b:Bool}(h9:lk pe 9=J (fL T)) (Pq:lk pe 17=J (.int (m:Int))) (Qt:lk pe 18=J (.int x)) (Wj:lk pe 19=J (.bool b)) (hT:((T.take m).map db).sum+(T.take m).length<=1000) (hTl:T.length<=1000)
  (hc:FT aQ (n+1) 6 [.str (sx (bV [41] (T.take m)++[41]))]=J (.bool (b&&decide (x=1)))):aB (FT aQ (n+1)) (ex (tq 3 (bo (tq 17 bF.code)))) pe=J (.bool Wv):= by
 have u:=RB (T.map λx=>PV.str (sx x)) (m:Int) (by exact Ć (.l .n0 .q) []) (by rw[ao];exact aa hTl (by decide));rw[lg,<-yk] at u;exact eQ (eF (eK (jnE (last:=[41]) (eZ h9 eC Pq eC rfl rfl rfl u) hT (by decide)) eN) hc) (eA Wj (eF (eK (eB Qt eC rfl) eN) (aE7 x))) (l8 _)
theorem w7{F:Fn}{pe:Ã}{T:List (List Nat)}(h9:lk pe 9=J (fL T)) (hT:(T.map db).sum+T.length<=1000) (hc:F 6 [.str (sx (bV [41] T++[34,41]))]=J (.bool Wv)):aB F (ex (tq 18 bF.code)) pe=J (.bool Wv):=eQ (eF (eK (jnE (last:=[34,41]) h9 hT (by decide)) eN) hc) eC (l8 _)
theorem F9{F:Fn}{pe:Ã}{É:List Int}{c:Nat}(hc:c=6\/c=8) (h1:lk pe 1=J (.int (c:Int))) (h3:lk pe 3=J (aU É)) (hl:3<É.length):
  ∃m:Nat,1<=m/\m<=c/\jM F Ql pe=J [.int (m:Int),.int (c:Int)]:= by
 have g:=cW (l:=É) (k:=3) hl (by decide);have d:=fZ (É.getD 3 0) 384 ⟨by decide,by decide⟩;have m:=cN (É.getD 3 0/384) (c:Int) (by lia);generalize É.getD 3 0/384=q at*;have h0:=ge q (b:=(c:Int)) (by lia);have h2:=ds q (b:=(c:Int)) (by lia);refine⟨(1+q%(c:Int)).toNat,by exact ì [_] [_] (.x .n1 .q) [.l .n0 .a,.e (.A .n1 .a) .q] h0 (ca (Ğ [_] (.l .n0 (.A .n1 .a)) [.l .n0 .a] h0)).symm,by exact ì [_] [_,_] (.x .q .r) [.t .a .r,.e .q (.A .n1 .a)] h2 (ca (Ğ [_] (.l .n0 (.A .n1 .a)) [.l .n0 .a] h0)),?_⟩;rw[ca (by exact ÿ (.l .n0 (.A .n1 .a)) [.l .n0 .a] h0)];exact FE (eT (eK (eB eC (eB (eB (eS h3 eC g) eC d) h1 m) rfl) (eK h1 eN))) (nb rfl)
end L1
namespace L1
variable{n:Nat}
noncomputable def tuN (x:Int):Nat:=(1+x/384%5).toNat
theorem IA (x:Int):1<=tuN x/\tuN x<=5/\(tuN x:Int)=1+x/384%5:= by
 have a:=ge (x/384) (b:=5) (by decide);have b:=ds (x/384) (b:=5) (by decide);have e:(tuN x:Int)=1+x/384%5:=ca (lc (by decide) a);generalize x/384%5=z at*;exact⟨by exact ì [_] [_] (.x .n1 .q) [.l .n0 .a,.e (.A .n1 .a) .q] a e.symm,by exact ì [_] [_] (.x .q .n5) [.t .a .n5,.e .q (.A .n1 .a)] b e,e⟩
noncomputable def pkN (x:Int):Nat:=(x/1920%5).toNat
theorem IB (x:Int):pkN x<5/\(pkN x:Int)=x/1920%5:= by
 have e:(pkN x:Int)=x/1920%5:=ca (ge (x/1920) (by decide));exact⟨ei.mp (e▸ds (x/1920) (by decide)),e⟩
noncomputable def eY (t:Nat):Nat:=[6,3,2,3,6].getD (t-1) 0
theorem DD{t:Nat}(h1:1<=t) (h5:t<=5):(eY t=2\/eY t=3\/eY t=6)/\((t:Int)*(eY t:Int))%6=0/\∀z:Int,((t:Int)*z)%6=0->z%(eY t:Int)=0:= by
 obtain⟨k1,k2,k3,k4⟩:=(by decide:∀t:Fin 6,1<=t.val->(eY t.val=2\/eY t.val=3\/eY t.val=6)/\((t.val:Int)*(eY t.val:Int))%6=0/\(eY t.val:Int) ∣ 6/\∀m:Fin 6,((t.val:Int)*(m.val:Int))%6=0->(m.val:Int)%(eY t.val:Int)=0) ⟨t,tz h5⟩ h1;refine⟨k1,k2,λz hz=>?_⟩;obtain⟨m,hm⟩:=nq (ge z (b:=6) (by decide));rw[<-Int.emod_emod_of_dvd z k3,hm];refine k4 ⟨m,ei.mp (hm▸ds z (by decide))⟩ ?_;show((t:Int)*(m:Int))%6=0;rw[<-hm,Int.mul_emod,Int.emod_emod_of_dvd z (Int.dvd_refl 6),<-Int.mul_emod];exact hz
section
variable{F:Fn}{pe:Ã}{É:List Int}
theorem L9 (h3:lk pe 3=J (aU É)) (hl:1<É.length):aB F (ex (tq 19 bF.code)) pe=J (.int (tuN (É.getD 1 0):Int)):=(IA _).2.2▸eB eC (eB (eB (eS h3 eC (cW (k:=1) hl (by decide))) eC (fZ _ _ ⟨by decide,by decide⟩)) eC (cN _ _ (by decide))) rfl
theorem MA{t:Nat}(h1:1<=t) (h5:t<=5) (Le:lk pe 20=J (.int (t:Int))):aB F (ex (tq 20 bF.code)) pe=J (.int (eY t:Int)):=eS rfl (eB Le eC rfl) (by
 have h:t=1\/t=2\/t=3\/t=4\/t=5:=by lia
 rcases h with rfl|rfl|rfl|rfl|rfl<;>rfl)
theorem MB (h3:lk pe 3=J (aU É)) (hl:1<É.length):aB F (.bin .Mod (.bin .FloorDiv (.sub Qh Qa) (.cst (.int 1920))) (.cst (.int 5))) pe=J (.int (pkN (É.getD 1 0):Int)):=(IB _).2▸eB (eB (eS h3 eC (cW (k:=1) hl (by decide))) eC (fZ _ _ ⟨by decide,by decide⟩)) eC (cN _ _ (by decide))
theorem GA{c:Nat}(hc:c=6\/c=8) (h1:lk pe 1=J (.int (c:Int))) (h3:lk pe 3=J (aU É)) (hl:0<É.length):∃w:Int,0<=w/\w<=14*(E8 c)/\aB F (ex (tq 22 bF.code)) pe=J (.int w):= by
 have q0:=ge (É.getD 0 0/768) (b:=15) (by decide);have q1:=ds (É.getD 0 0/768) (b:=15) (by decide);have hp:=ba (eE c);exact⟨É.getD 0 0/768%15*(E8 c),oo q0 hp,Int.mul_le_mul_of_nonneg_right (wo q1) hp,eB (eB (eB (eS h3 eC (cW (k:=0) hl (by decide))) eC (fZ _ _ ⟨by decide,by decide⟩)) eC (cN _ _ (by decide))) (eB eC h1 (FN c (by lia))) (dY _ _ (by unfold dD;simp;lia))⟩
theorem DE{c:Nat}{w:Int}(hc:c=6\/c=8) (h1:lk pe 1=J (.int (c:Int))) (Nu:lk pe 23=J (.int w)) (h0:0<=w) (hw:w<=SZ c):aB F (.bin .Div (.var 23) (.bin .Mult (.cst (.int 16)) (.bin .Pow Qf Qe))) pe=J (.flt (fq w (SZ c))):=eB Nu (d9 h1 (by lia)) (kI hc h0 hw)
end
theorem rQ{m:Nat}{a b:UInt64}(h:Ă a b=Wu):Ċ m (.flt a) (.flt b)=J Wu:= by
 rw[tP];show(if fw a b==J my then J Wu else Ww)=_;exact if_pos h
theorem TT{a b c d e f a' b' c' d' e' f':UInt64}(h1:Ă a a'=Wu) (h2:Ă b b'=Wu) (h3:Ă c c'=Wu) (h4:Ă d d'=Wu) (h5:Ă e e'=Wu) (h6:Ă f f'=Wu):
  mI .NotEq (.tup [.flt a,.flt b,.flt c,.flt d,.flt e,.flt f]) (.tup [.flt a',.flt b',.flt c',.flt d',.flt e',.flt f'])=J Wv:= by
 have e1:=rQ (m:=2) h1;have e2:=rQ (m:=2) h2;have e3:=rQ (m:=2) h3;have e4:=rQ (m:=2) h4;have e5:=rQ (m:=2) h5;have e6:=rQ (m:=2) h6;show(mH (Ċ 2) [.flt a,.flt b,.flt c,.flt d,.flt e,.flt f] [.flt a',.flt b',.flt c',.flt d',.flt e',.flt f']).map (!·)=_;simp only[mH,e1,e2,e3,e4,e5,e6];rfl
theorem yV{t:Nat}(h5:t<=5):Ç (fq (t:Int) 6):=(WV (x:=(t:Int)) (y:=6) (M:=1) (by decide) ⟨0,by decide,rfl⟩ (by exact ä (.x .q (.M .n6 .n1)) [.x .r .n5,.e .q .r] h5 (av (ĉ [_] (.l .n0 .q) [])))).1
theorem TU{pe:Ã}{c t:Nat}{w:Int}(hc:c=6\/c=8) (h5:t<=5) (h0:0<=w) (hw:w<=SZ c) (Le:lk pe 20=J (.int (t:Int))) (Jw:lk pe 24=J (.flt (fq w (SZ c)))):aB (FT aQ (n+1)) (ex (tq 24 bF.code)) pe=J (.bool Wv):= by
 have hS:=SZ_sc (c:=c) (by lia);have gg:=jR hS (x:=w) (dN hc h0 hw);obtain⟨v,hv,gv⟩:=Q1 (F:=FT aQ n) hS gg gg gg;have z:Ă 0 0=Wu:=by decide +kernel
 have ev:Ă v (fq w (SZ c))=Wu:=by rw[jQ hS gv gg];exact decide_eq_true rfl
 have eg:Ă (fq w (SZ c)) (fq w (SZ c))=Wu:=by rw[jQ hS gg gg];exact decide_eq_true rfl
 exact eQ (eB (eF (eK Jw (eK Jw (eK Jw eN))) ((aCB _ _).trans hv)) (eF (eK (eB Le eC (kY _ _ (by decide) (yV h5))) (eK eC (eK Jw eN))) ((ZL _ _).trans KA)) (nI _ _ (nb rfl) rfl rfl)) (eB (eT (eK eC (eK eC eN))) (eB (eT (eK Jw eN)) eC rfl) (nI _ _ (nb rfl) rfl rfl)) (TT z z ev eg eg eg)
theorem TV{pe:Ã}{c t:Nat}{w:Int}(hc:c=6\/c=8) (h5:t<=5) (h0:0<=w) (hw:w<=SZ c) (Le:lk pe 20=J (.int (t:Int))) (Jw:lk pe 24=J (.flt (fq w (SZ c)))):aB (FT aQ (n+1)) (ex (tq 25 bF.code)) pe=J (.bool Wv):= by
 have hS:=SZ_sc (c:=c) (by lia);have gg:=jR hS (x:=w) (dN hc h0 hw);obtain⟨v,hv,gv⟩:=Q4 (F:=FT aQ n) hS gg gg gg (WN ⟨h0,hw⟩ (aa (SZ_le hc) (by decide)));have z:Ă 0 0=Wu:=by decide +kernel
 have ev:Ă v (fq w (SZ c))=Wu:=by rw[jQ hS gv gg];exact decide_eq_true rfl
 have eg:Ă (fq w (SZ c)) (fq w (SZ c))=Wu:=by rw[jQ hS gg gg];exact decide_eq_true rfl
 exact eQ (eB (eF (eK Jw (eK Jw (eK Jw eN))) ((aEM _ _).trans hv)) (eF (eK (eB Le eC (kY _ _ (by decide) (yV h5))) (eK Jw (eK eC eN))) ((ZK _ _).trans KB)) (nI _ _ (nb rfl) rfl rfl)) (eB (eT (eK eC (eK Jw (eK eC eN)))) (eB (eT (eK Jw eN)) eC rfl) (nI _ _ (nb rfl) rfl rfl)) (TT z ev z eg eg eg)
section
variable{F:Fn}{pe:Ã}{É:List Int}
theorem DF (h3:lk pe 3=J (aU É)) (hl:É.length<=10) (hs:∀v,lk (st pe 51 v) 51=J v):aB F (ex (tq 26 bF.code)) pe=J (aU (É.map λx=>x/8%48)):=eWe (d8 (l:=É.map .int) h3 (by rw[ao];exact aa hl (by decide))) (jG (l:=É) (f:=.int) (g:=λx=>.int (x/8%48)) λx _=>eB (eB (hs _) eC (fZ _ _ ⟨by decide,by decide⟩)) eC (cN _ _ (by decide))) (ip ..).symm
end
end L1
namespace L1
variable{n:Nat}
theorem YE (rs:List Nat):∀(r:Nat) (o:Int) (k:Nat),k<rs.length->(lev o (r::rs)).getD k 0-1+(rs.getD k 0:Int)=if k+1<rs.length then(lev o (r::rs)).getD (k+1) 0 else iA o (r::rs):= by
 induction rs with
 |nil=>exact λ_ _ _ h=>absurd h (Nat.not_lt_zero _)
 |cons r2 rs ih=>
  intro r o k h;cases k with
  |zero=>
   cases rs with
   |nil=>exact(if_neg (gn 1)).symm
   |cons r3 rs=>exact(if_pos (np (jk _))).symm
  |succ k=>
   refine(ih r2 (o+(r:Int)-1) k (jn h)).trans ?_
   by_cases h2:k+1<rs.length
   ·rw[if_pos h2];exact(if_pos (np h2)).symm
   ·rw[if_neg h2];exact(if_neg λh=>h2 (jn h)).symm
theorem md6 (x A B:Int):(x+A%6-B%6)%6=(x+A-B)%6:= by
 rw[Int.sub_emod,Int.emod_emod,Int.add_emod,Int.emod_emod,<-Int.add_emod,<-Int.sub_emod]
theorem lL{t f run r:Nat}{a b:Int}(h:f=eY t) (h1:1<=t) (h5:t<=5) (Hv:run<f) (Lp:a-1+(r:Int)=b):
  ((t:Int)*((run:Int)-1)+((t:Int)*a)%6-((t:Int)*b)%6)%6=0<->run=r%f:= by
 obtain⟨hf,h6,hz⟩:=DD h1 h5;rw[<-h] at h6 hz hf;rw[md6,show(t:Int)*((run:Int)-1)+(t:Int)*a-(t:Int)*b=(t:Int)*((run:Int)-(r:Int)) by rw[<-Lp];simp only[Int.mul_sub,Int.mul_add];lia];constructor
 ·intro h0;have h2:=H5 (f:=f) (r:=r) (z:=(run:Int)) (bl _) (hz _ h0);rw[lg,Nat.mod_eq_of_lt Hv] at h2;exact h2
 ·intro h0;have h2:((run:Int)-(r:Int))%(f:Int)=0:=Int.emod_eq_emod_iff_emod_sub_eq_zero.mp (by rw[h0,Int.natCast_emod,Int.emod_emod]);rw[<-Int.mul_ediv_cancel_of_emod_eq_zero h2,<-qz,Int.mul_emod,h6,Int.zero_mul];rfl
theorem TX{t f c:Nat}{r:Nat}{rs:List Nat}(h:f=eY t) (h1:1<=t) (h5:t<=5) (hl:rs.length=c) (hf:iA 0 (r::rs)=0):
  ∀k<c,∀run<f,((t:Int)*((run:Int)-1)+(if k<c then((t:Int)*(lev 0 (r::rs)).getD k 0)%6 else 0)-(if k+1<c then((t:Int)*(lev 0 (r::rs)).getD (k+1) 0)%6 else 0))%6=0<->run=rs.getD k 0%f:= by
 intro k hk run Hv;have g:=YE rs r 0 k (by exact ā (.y .q .r) [.z1 .s .r,.y .q .s] hl.symm hk);rw[hl,hf] at g;rw[if_pos hk]
 by_cases h2:k+1<c
 ·rw[if_pos h2] at g⊢;exact lL h h1 h5 Hv g
 ·rw[if_neg h2] at g⊢;have:=lL h h1 h5 Hv g;rw[Int.mul_zero] at this;exact this
theorem YF (m a:Nat) (l:List Nat):ab m 40++cL (a::l)=cL ((m+a)::l):= by
 cases l with
 |nil=>exact List.replicate_append_replicate
 |cons b l=>rw[oW,oW,<-bk,List.replicate_append_replicate]
theorem rR{f r:Nat}{rs:List Nat}(hf:0<f):fD f (r::rs)=cL (((r::rs).sum-(rs.map (·%f)).sum)::rs.map (·%f)):= by
 have d:=AH f hf (r::rs);rw[aw (f:=(·%f)),di,<-Nat.add_assoc] at d;rw[<-d,Nat.add_sub_cancel];exact YF _ _ _
theorem yW (f:Nat) (l:List Nat):(cv l.length).map (λk=>l.getD k 0%f)=l.map (·%f):= by
 induction l with
 |nil=>rfl
 |cons a l ih=>
  rw[ci,oa,aw,ip,aw];exact congrArg (_::·) ih
theorem wH (f:Nat) (l:List Nat):(l.map (·%f)).sum<=l.sum:= by
 induction l with
 |nil=>exact ai _
 |cons a l ih=>rw[aw,di,di];exact jo (Er a f) ih
theorem IC (l:List Nat) (h:∀ch∈l,ch=40\/ch=41):Ą Wv l=l.map λc=>[c]:= by
 induction l with
 |nil=>rfl
 |cons c l ih=>
  rw[RN,if_neg (by rcases h c ag with rfl|rfl<;>decide),ih λd hd=>h d (ah _ hd)];rfl
theorem aC3 (l:List Nat) (h:∀ch∈l,ch=40\/ch=41):brk (l.map λc=>[c])=l:= by
 induction l with
 |nil=>rfl
 |cons c l ih=>
  rw[aw,DB,ih λd hd=>h d (ah _ hd)];rcases h c ag with rfl|rfl
  ·rw[if_pos (.inl rfl)];rfl
  ·rw[if_pos (.inr rfl)];rfl
theorem yX{R:List Nat}(hs:R.sum+R.length<=900) (hR:R≠[]):FT aQ (n+2) 6 [.str (sx (cL R))]=J (.bool (decide ((∀v∈lev 0 R,1<=v)/\iA 0 R=0))):= by
 have hl:=kZ R;have Gm:=rM R;have h:=rP (n:=n) (l:=[]) (last:=cL R) (λp hp=>nomatch hp) (.inl (by
  rw[IC _ Gm];intro u hu e;obtain⟨d,hd,rfl⟩:=ja.mp hu;rcases Gm d hd with rfl|rfl<;>exact absurd e (by decide))) (by show 0+_<=_;exact ā (.x (.A .n0 .q) .kn) [.x (.A .r .s) (.N 900),.x .q (.A .r .s)] hs hl) (λc hc=>nomatch hc) (λc hc=>by rcases Gm c hc with rfl|rfl<;>decide)
 have e:aY []++cL R=cL R:=rfl;have e':bR []++cL R=cL R:=rfl;rw[e,e'] at h;rw[h,wD (l:=cL R) (by rw[IC _ Gm,aC3 _ Gm]) Gm,nS,AN R 0 hR]
theorem jP{R:List Nat}(hR:R≠[]) (h:R.sum+1=R.length):iA 0 R=0:= by
 rw[C7 R 0 hR];lia
end L1
namespace L1
variable{n:Nat}
theorem GB{pe:Ã}{R:List Nat}{f p:Nat}(hs:R.sum<=30) (hl:R.length<=30) (hp:p<5) (hf:f=2\/f=3\/f=6) (Pp:lk pe 13=J (.str (sx (cL R)))) (h21:lk pe 21=J (.int (f:Int))) (Sy:lk pe 22=J (.int (p:Int))):
  aB (FT aQ (n+2)) (.call 15 (.cons (.var 13) (.cons (.var 21) (.cons (.var 22) .nil)))) pe=J (.str (sx (fD f R))):=eF (eK Pp (eK h21 (eK Sy eN))) (yJ hs hl hp hf)
theorem w8{F:Fn}{pe:Ã}{A:List Nat}{m p w t f:PV}(Nv:lk pe 26=J m) (Qu:lk pe 25=J p) (Nu:lk pe 23=J w) (Le:lk pe 20=J t) (h21:lk pe 21=J f) (h38:lk pe 38=J (.str (sx A))) (h:F 16 [m,p,w,t,f]=J (.str (sx A))):aB F (ex (tq 30 bF.code)) pe=J (.bool Wv):=eQ (eF (eK Nv (eK Qu (eK Nu (eK Le (eK h21 eN))))) h) h38 (nN rfl λ_ h=>nomatch h)
theorem wI{pe:Ã}{A:List Nat}{b:Bool}(h38:lk pe 38=J (.str (sx A))) (h39:lk pe 39=J (.bool b)) (hl:A.length<=900) (ha:∀c∈A,c<128) (hb:b=decide (∀v∈lvl 0 A,1<=v)) (hs:∀v,lk (st pe 44 v) 44=J v):aB (FT aQ (n+1)) (ex (tq 32 bF.code)) pe=J (.bool Wv):= by
 subst hb;refine eQ h39 (yU (λv=>decide (255+v<256)) (eF (eK h38 eN) (vV (by exact aa hl (by decide)) ha)) (by have:=W9 A 0;exact ä (.x .q .kn) [.x .r (.N 900),.x .q .r] hl this) (λv _=>eF (eK (eB eC (hs _) rfl) eN) (RZ _)) hs) ((congrArg (mI .IsNot _) (congrArg PV.bool (decide_eq_decide.mpr ?_))).trans (l8 _));exact forall_congr' λv=>forall_congr' λ_=>by rw[decide_eq_false_iff_not];lia
theorem DG{pe:Ã}{lv:List Int}{f:Nat}(hl:lv.length<=100) (hf:0<f) (Kz:lk pe 16=J (aU lv)) (h21:lk pe 21=J (.int (f:Int))):aB (FT aQ (n+1)) (.call 12 (.cons (.var 16) (.cons (.var 21) .nil))) pe=J (aU (low (f:Int) 1 lv)):=eF (eK Kz (eK h21 eN)) (FH (by exact aa hl (by decide)) (by exact Ć (.t .n0 .q) [.y .n0 .q] hf))
theorem MC{F:Fn}{pe:Ã}{X:List Int}{L:Int}(hX:X.getLast?=J L) (hl:X.length<=100) (Ky:lk pe 40=J (aU X)):aB F (.cmp .NotEq (.sub (.var 40) (.neg Qa)) Qa) pe=J (.bool (!(L==1))):= by
 exact eQ (eS Ky (eNg eC) (yC (by rw[List.getLast?_map,hX];rfl))) eC (HQ _ _)
theorem nJ{F:Fn}{pe:Ã}{X:List Int}{L:Int}{b:Bool}(hX:X.getLast?=J L) (hl:X.length<=100) (Ky:lk pe 40=J (aU X)) (h39:lk pe 39=J (.bool b)) (hb:b=(L==1)):aB F (.or (.cmp .NotEq (.sub (.var 40) (.neg Qa)) Qa) (.not (.var 39))) pe=J (.bool (!b))/\(b=Wv->aB F (.and (.cmp .NotEq (.sub (.var 40) (.neg Qa)) Qa) (.not (.var 39))) pe=J (.bool Wu)):= by
 have e:=MC (F:=F) hX hl Ky;rw[<-hb] at e;exact⟨(eO e (eNt (eV h39))).trans (by cases b<;>rfl),λh=>(eA e (eNt (eV h39))).trans (by rw[h];rfl)⟩
end L1
namespace L1
variable{n:Nat}
noncomputable def dif:List Int->List Int
 |[]=>[]
 |x::l=>match l with
  |[]=>[]
  |y::l'=>(y-x+1)::dif (y::l')
theorem ZW (x y:Int) (l:List Int):dif (x::y::l)=(y-x+1)::dif (y::l):=rfl
theorem yY (l:List Int):∀x:Int,(cv l.length).map (λk=>(x::l).getD (k+1) 0-(x::l).getD k 0+1)=dif (x::l):= by
 induction l with
 |nil=>exact λ_=>rfl
 |cons y l ih=>
  intro x;rw[ci,oa,aw,ip,ZW];exact congrArg (_::·) (ih y)
def StepOk:Int->List Int->Prop
 |_,[]=>True
 |q,x::l=>q<=x/\StepOk (x-1) l
theorem TY{f:Int}(hf:0<f) (l:List Int):∀q:Int,StepOk q (low f (mx q) l):= by
 induction l with
 |nil=>exact λ_=>trivial
 |cons v l ih=>exact λq=>⟨(tE hf q v).2.1,ih _⟩
theorem TZ (l:List Int):∀x q:Int,StepOk q (x::l)->(dB q (x::l)).map (λk:Nat=>(k:Int))=(x-q)::(dif (x::l)++[0]):= by
 induction l with
 |nil=>exact λx q h=>congrArg (λz=>[z,0]) (ca (Int.sub_nonneg.mpr h.1))
 |cons y l ih=>
  intro x q h;rw[H4,aw,ih y (x-1) h.2,ZW,ca (Int.sub_nonneg.mpr h.1),show y-(x-1)=y-x+1 by lia];rfl
theorem YG{m:Nat}(h:m<=1000):mS 1 ((m+1:Nat):Int)=J ((cv m).map λk:Nat=>PV.int (1+(k:Int))):=
 (if_pos ⟨by decide,by decide,by exact Ć (.t (.G .ku) (.C .kl)) [],by exact Ć (.t (.C .kl) .ku) [.x .q .kn] h,by exact Ć (.l (.S (.C .kl) .n1) (.N 100000)) [.x .q .kn] h⟩).trans (by rw[show(((m+1:Nat):Int)-1).toNat=m by lia])
theorem MD{pe:Ã}{X:List Int}{x:Int}{c:Nat}(hc:c=6\/c=8) (hl:(x::X).length=c) (hs:StepOk 0 (x::X)) (h1:lk pe 1=J (.int (c:Int))) (Ky:lk pe 40=J (aU (x::X))) (ht:∀v,lk (st pe 43 v) 43=J v/\lk (st pe 43 v) 40=lk pe 40)
  (Fu:(dB 0 (x::X)).sum<=100) (hlen:(dB 0 (x::X)).length<=100):aB (FT aQ (n+1)) (ex (tq 35 bF.code)) pe=J (.str (sx (cL (dB 0 (x::X))))):= by
 have hX:X.length<=8:=iw (aa (be hl) (by rcases hc with rfl|rfl<;>decide));subst hl;have fd:=TZ X x 0 hs;rw[Int.sub_zero] at fd;have hd:((dif (x::X)).map PV.int).length=X.length:=by rw[ao,<-yY,ao,gh]
 have gs:∀k∈cv X.length,iT (aU (x::X)) (.int (1+(k:Int)))=J (.int ((x::X).getD (k+1) 0))/\iT (aU (x::X)) (.int (1+(k:Int)-1))=J (.int ((x::X).getD k 0)):=λk hk=>by
  have hk:=nt.mp hk;have hk8:=aa hk hX;rw[show 1+(k:Int)-1=(k:Int) by lia,ib];exact⟨cW (k:=k+1) (np hk) (jv hk8 (by decide)),cW (ia hk) (eb hk8 (by decide))⟩
 refine eF (eK (eB (eB (eL (eK (eS Ky eC (lY (by decide) (by decide) rfl)) eN)) (eWe (eR2 eC h1 (YG (aa hX (by decide)))) (jG (l:=cv X.length) (g:=λk:Nat=>.int ((x::X).getD (k+1) 0-(x::X).getD k 0+1)) λk hk=>eB (eB (eS ((ht _).2.trans Ky) (ht _).1 (gs k hk).1) (eS ((ht _).2.trans Ky) (eB (ht _).1 eC rfl) (gs k hk).2) rfl) eC rfl) (show _=(dif (x::X)).map PV.int by rw[<-yY,ip];rfl)) (dZ _ _ ?_)) (eL (eK eC eN)) ((dZ ([PV.int x]++(dif (x::X)).map PV.int) [.int 0] ?_).trans ?_)) eN) (AD Fu hlen)
 ·rw[hd];exact aa (dx hX 1) (by decide)
 ·rw[am,hd];exact aa (ax (dx hX 1) 1) (by decide)
 ·rw[vU,fd];unfold aU;rw[aw,bm];rfl
theorem w9{F:Fn}{pe:Ã}{A S:List Nat}{f p:PV}(Mi:lk pe 41=J (.str (sx S))) (h21:lk pe 21=J f) (Sy:lk pe 22=J p) (h38:lk pe 38=J (.str (sx A))) (h:F 15 [.str (sx S),f,p]=J (.str (sx A))) (hc:F 6 [.str (sx S)]=J (.bool Wu)):aB F (ex (tq 36 bF.code)) pe=J (.bool Wv):=eOe (eQ (eF (eK Mi (eK h21 (eK Sy eN))) h) h38 (nN rfl λ_ h=>nomatch h)) (eNe (eF (eK Mi eN) hc) rfl) rfl
theorem T0{F:Fn}{pe:Ã}{s:Ý}(Nv:lk pe 26=J (lp s)) (hs:∀v,lk (st pe 42 v) 42=J v/\lk (st pe 42 v) 26=lk pe 26):aB F (ex (tq 37 bF.code)) pe=J (lp (nrm s)):=dG (p:=.int s.1) (q:=.int s.2.1) (r:=.int s.2.2) (d8 (l:=[s.1,s.2.1,s.2.2].map .int) Nv (nb rfl)) (eB (hs _).1 (eI (eK ((hs _).2.trans Nv) eN) (pY [s.1,s.2.1,s.2.2] rfl)) rfl) (eB (hs _).1 (eI (eK ((hs _).2.trans Nv) eN) (pY [s.1,s.2.1,s.2.2] rfl)) rfl) (eB (hs _).1 (eI (eK ((hs _).2.trans Nv) eN) (pY [s.1,s.2.1,s.2.2] rfl)) rfl)
theorem ME{F:Fn}{pe:Ã}{A S p w t:PV}{D:Ý}(h38:lk pe 38=J A) (Mi:lk pe 41=J S) (Qu:lk pe 25=J p) (Nu:lk pe 23=J w) (Le:lk pe 20=J t) (h37:lk pe 37=J (lp D)) (h:F 17 [A,p,w,t]=J (lp D)) (h':F 17 [S,p,w,t]=J (lp D)):aB F (ex (tq 38 bF.code)) pe=J (.bool Wu):=eAe (eQ (eF (eK h38 (eK Qu (eK Nu (eK Le eN)))) h) h37 (HU rfl)) (eQ (eF (eK Mi (eK Qu (eK Nu (eK Le eN)))) h') h37 (HU rfl)) rfl
end L1
namespace L1
variable{n:Nat}
section
variable{F:Fn}{ss:ù}{v:Option PV}{H:Nat->Option PV}
theorem MF{pe:Ã}{l:List Int}{c:Nat}(hc:c=6\/c=8) (hl:l.length<=63) (h0:lk pe 0=J (aU l)) (h1:lk pe 1=J (.int (c:Int))) (h2:lk pe 2=J (.tup (([6938,742,4712,626,176,289,74,331]:List Int).map .int)))
  (hs:∀v,lk (st pe 56 v) 56=J v/\lk (st pe 56 v) 0=lk pe 0/\lk (st pe 56 v) 1=lk pe 1/\lk (st pe 56 v) 2=lk pe 2/\∀u,lk (st (st pe 56 v) 57 u) 57=J u)
  (k:∀É:List Int,É.length=c->bQ (aD F ss (st pe 3 (aU É)))=v):bQ (aD F (.cons (.asg 3 (ex (tq 2 bF.code))) ss) pe)=v:= by
 obtain⟨É,Sv,Tv⟩:=AP (F:=F) hc hl (pl:=[6938,742,4712,626,176,289,74,331]) rfl h0 h1 h2 hs;exact aK (asg Sv) (k É Tv)
theorem YH{c:Nat}{É:List Int}(hc:c<=8) (hn:É.length<=8) (h0 h2 x5 h6:Option PV) (T:List (Option PV))
  (k:∀(R:List Nat) (y5:Option PV),R.length=É.length->R.sum<=c->bQ (aD F ss (h0::J (.int (c:Int))::h2::J (aU É)::J (gK R)::y5::h6::T))=v):
  bQ (aD F (.cons (.for [5] (.val Qh) (bo (tq 4 bF.code))) ss) (h0::J (.int (c:Int))::h2::J (aU É)::J (.lst [])::x5::h6::T))=v:= by
 obtain⟨R,y5,h,i1,i2⟩:=F3 (F:=F) (c:=c) (aa hc (by decide)) h0 h2 (J (aU É)) h6 T É [] x5 (jd _) (aa (be (gk _)) (aa hn (by decide)));exact aK (pL (d8 rfl (gG (aa hn (by decide)))) h) (k R y5 (i1.trans (gk _)) i2)
theorem aC4{pe:Ã}{c:Nat}{É:List Int}{R:List Nat}(hc:c=6\/c=8) (hn:É.length=c) (hR:R.length=c) (hs:R.sum<=c) (h1:lk pe 1=J (.int (c:Int))) (h3:lk pe 3=J (aU É)) (h4:lk pe 4=J (gK R)) (Hq:∀v,lk (st pe 6 v) 6=J v/\lk (st pe 6 v) 3=lk pe 3/\lk (st pe 6 v) 4=lk pe 4)
  (k:∀(r:Nat) (rs:List Nat),rs.length=c->(r::rs).sum=c->bQ (aD F ss (st (st pe 6 (.int ((c-R.sum:Nat):Int))) 4 (gK (r::rs))))=v):
  bQ (aD F (.cons (.asg 6 (.bin .Sub Qe (.bi .sum (.cons (.var 4) .nil)))) (.cons (.ite (ex (tq 6 bF.code)) (bo (tq 6 bF.code)) (.cons (.asgO 4 (.bin .Add (.var 4) (.list (.cons (.var 6) .nil)))) .nil)) ss)) pe)=v:= by
 have c8:c<=8:=by rcases hc with rfl|rfl<;>decide
 cases R with
 |nil=>exact absurd (hR.symm▸hc) (by decide)
 |cons r R=>
  refine aK (asg (yQ h1 h4 (hR.symm▸aa c8 (by decide)) (aa c8 (by decide)) hs)) ?_;have hR8:R.length<=20:=iw (aa (be hR) (aa c8 (by decide)));generalize hx:c-(r::R).sum=x at*;have hx:r+R.sum+x=c:=hx▸nj hs;obtain⟨q6,q3,q4⟩:=Hq (.int (x:Int));have hh:=LW (F:=F) (pe:=st pe 6 (.int (x:Int))) (q3.trans h3) (hn.symm▸af (jk _) (be hR));have hl:∀y:Nat,(R++[y]).length=c:=λy=>am.trans hR;cases hb:É.getD 0 0/384%2==0
  ·rw[hb] at hh;refine aK (iO hh (aJ (asgO (LY (q4.trans h4) q6 (hR.symm▸aa c8 (by decide)))))) (k r (R++[x]) (hl x) ?_);rw[di,mu,<-Nat.add_assoc];exact hx
  ·rw[hb] at hh;refine aK (j8 hh (aJ (asgO (F4 (q4.trans h4) q6 hR8)))) (k (r+x) (R++[0]) (hl 0) ?_);rw[di,mu];exact(Nat.add_right_comm r x R.sum).trans hx
theorem aC5 (l:List Nat):∀(k:Nat) (b:Bool),∀x∈esc k b l,x.2≠[]:= by
 induction l with
 |nil=>intro k b;cases b;exact nofun;exact List.forall_mem_cons.mpr ⟨nofun,nofun⟩
 |cons c l ih=>
  intro k b;cases b with
  |true=>exact List.forall_mem_cons.mpr ⟨nofun,ih _ _⟩
  |false=>
   rw[pT];split
   ·exact ih _ _
   ·exact List.forall_mem_cons.mpr ⟨nofun,ih _ _⟩
theorem YI{S:List Nat}{T:List (Option PV)}{x14 x15:Option PV}{pe:Ã}(hpe:pe=UE (lk pe) T [] [] x14 x15) (Ju:lk pe 10=J (.str (sx S))) (hl:S.length<=1000) (ha:∀c∈S,c<128)
  (k:∀y14 y15,bQ (aD F ss (UE (lk pe) T S (brk (Ą Wv S)) y14 y15))=v):bQ (aD F (.cons (.esc [14,15] (.var 10) (bo (tq 14 bF.code))) ss) pe)=v:= by
 have hf:((esc 0 Wv S).map (·.2)).flatten=S:= by
  rw[gJ,RQ];rfl
 obtain⟨y14,y15,h⟩:=F6 (F:=F) (H:=lk pe) (T:=T) (esc 0 Wv S) [] [] x14 x15 (aEK S 0).1 (by rw[hf];exact aa (dx hl 0) (by decide)) (by rw[hf];exact aa (dx hl 0) (by decide)) (aC5 S 0 Wv);rw[hf,gJ,<-hpe] at h;exact aK (HF Ju (kC (aa hl (by decide)) (bz.mpr λc hc=>decide_eq_true (ha c hc))) h) (k y14 y15)
theorem YJ{c:Nat}{É:List Int}(hc:c<=8) (hn:É.length<=8) (h1:H 1=J (.int (c:Int))) (h3:H 3=J (aU É)) (h4:H 4=J (.lst []))
  (k:∀(R:List Nat) (y5:Option PV),R.length=É.length->R.sum<=c->bQ (aD F ss (LH 58 0 (so (so H 4 (J (gK R))) 5 y5)))=v):
  bQ (aD F (.cons (.for [5] (.val Qh) (bo (tq 4 bF.code))) ss) (LH 58 0 H))=v:= by
 have e:LH 58 0 H=H 0::J (.int (c:Int))::H 2::J (aU É)::J (.lst [])::H 5::H 6::LH 51 7 H:=by rw[<-h1,<-h3,<-h4];rfl
 rw[e];refine YH hc hn _ _ _ _ _ λR y5 a b=>?_;rw[<-h1,<-h3];exact k R y5 a b
theorem YK{S:List Nat}(Ju:H 10=J (.str (sx S))) (Sx:H 12=J (.str (sx []))) (Pp:H 13=J (.str (sx []))) (hl:S.length<=1000) (ha:∀c∈S,c<128)
  (k:∀y14 y15,bQ (aD F ss (LH 58 0 (so (so (so (so H 12 (J (.str (sx S)))) 13 (J (.str (sx (brk (Ą Wv S)))))) 14 y14) 15 y15)))=v):bQ (aD F (.cons (.esc [14,15] (.var 10) (bo (tq 14 bF.code))) ss) (LH 58 0 H))=v:= by
 refine YI (T:=LH 42 16 H) (x14:=H 14) (x15:=H 15) ?_ Ju hl ha k;show H 0::H 1::H 2::H 3::H 4::H 5::H 6::H 7::H 8::H 9::H 10::H 11::H 12::H 13::_=_;rw[Sx,Pp];rfl
theorem MG{l:List Int}{c:Nat}(hc:c=6\/c=8) (hl:l.length<=63) (h0:H 0=J (aU l)) (h1:H 1=J (.int (c:Int))) (h2:H 2=J (.tup (([6938,742,4712,626,176,289,74,331]:List Int).map .int)))
  (k:∀É:List Int,É.length=c->bQ (aD F ss (LH 58 0 (so H 3 (J (aU É)))))=v):bQ (aD F (.cons (.asg 3 (ex (tq 2 bF.code))) ss) (LH 58 0 H))=v:=
 MF hc hl h0 h1 h2 (λ_=>⟨rfl,rfl,rfl,rfl,λ_=>rfl⟩) k
end
end L1
namespace L1
variable{n:Nat}
theorem yZ{H:Nat->Option PV}{m:Nat}{lv:List Int}{T9:List (List Nat)}{x18 x19:Option PV}(h9:H 9=J (fL T9)) (Kz:H 16=J (aU lv)) (ID:1<=m) (Gq:m<=lv.length) (hl:lv.length<=100) (hT:((T9.take m).map db).sum+(T9.take m).length<=1000) (hTl:T9.length<=1000)
  (hc:FT aQ (n+1) 6 [.str (sx (bV [41] (T9.take m)++[41]))]=J (.bool (decide (∀v∈lv.take m,1<=v)&&decide (lv.getD (m-1) 0=1)))):
  aD (FT aQ (n+1)) (bo (tq 17 bF.code)) (LH 58 0 (so (so (so H 17 (J (.int (m:Int)))) 18 x18) 19 x19))=J (LH 58 0 (so (so (so H 17 (J (.int (m:Int)))) 18 (J (.int (lv.getD (m-1) 0)))) 19 (J (.bool (decide (∀v∈lv.take m,1<=v))))),.next):=
 Bp (seq (asg (F8 Kz rfl ID Gq hl)) (seq (asg (L8 Kz rfl hl λ_=>rfl)) (seq (iO (w6 rfl) jE) (aJ (iO (wG h9 rfl rfl rfl hT hTl hc) jE))))) rfl
theorem T1{c:Nat}{É lv:List Int}{T9:List (List Nat)}{ss:ù}{v:Option PV}{H:Nat->Option PV}(h1:H 1=J (.int (c:Int))) (h3:H 3=J (aU É)) (h9:H 9=J (fL T9)) (Kz:H 16=J (aU lv)) (hc:c=6\/c=8) (hn:É.length=c) (hl:lv.length=c) (hT:(T9.map db).sum+T9.length<=1000)
  (Mu:∀m,1<=m->m<=c->FT aQ (n+1) 6 [.str (sx (bV [41] (T9.take m)++[41]))]=J (.bool (decide (∀v∈lv.take m,1<=v)&&decide (lv.getD (m-1) 0=1))))
  (k:∀y17 y18 y19,bQ (aD (FT aQ (n+1)) ss (LH 58 0 (so (so (so H 17 y17) 18 y18) 19 y19)))=v):bQ (aD (FT aQ (n+1)) (.cons (.for [17] Ql (bo (tq 17 bF.code))) ss) (LH 58 0 H))=v:= by
 obtain⟨m,m1,m2,hm⟩:=F9 (F:=FT aQ (n+1)) (pe:=LH 58 0 H) hc h1 h3 (by lia);have tk:∀j,((T9.take j).map db).sum+(T9.take j).length<=1000:=λj=>by
  have h1:((T9.take j).map db).sum<=(T9.map db).sum:= by
   have e:=congrArg (λl:List (List Nat)=>(l.map db).sum) (List.take_append_drop j T9);simp only[bm,mu] at e;exact ā (.x .q .r) [.z1 (.A .q .s) .r] e
  have h2:(T9.take j).length<=T9.length:=by rw[jw];exact(md _ _)
  exact ů (.x (.A .q .r) .kn) [.x (.A .s .t) .kn,.x .q .s,.x .r .t] hT h1 h2
 exact aK (pL hm (bU (pe1:=LH 58 0 (so (so (so H 17 (J (.int (m:Int)))) 18 (H 18)) 19 (H 19))) rfl (yZ h9 Kz m1 (by exact ā (.x .q .r) [.z1 .s .r,.x .q .s] hl.symm m2) (by lia) (tk m) (by exact ä (.x .q .kn) [.x (.A .r .q) .kn] hT) (Mu m m1 m2)) (bU (pe1:=LH 58 0 (so (so (so H 17 (J (.int (c:Int)))) 18 _) 19 _)) rfl (yZ h9 Kz (by exact aa m1 m2) (by exact be hl.symm) (by lia) (tk c) (by lia) (Mu c (by lia) (ai _))) z9))) (k _ _ _)
theorem YL{F:Fn}{pe:Ã}{É:List Int}{c:Nat}{ss:ù}{v:Option PV}(hc:c=6\/c=8) (h1:lk pe 1=J (.int (c:Int))) (h3:lk pe 3=J (aU É)) (hl:0<É.length)
  (k:∀w:Int,0<=w->w<=14*(E8 c)->bQ (aD F ss (st pe 23 (.int w)))=v):bQ (aD F (.cons (.asg 23 (ex (tq 22 bF.code))) ss) pe)=v:= by
 obtain⟨w,w0,w1,h⟩:=GA (F:=F) hc h1 h3 hl;exact aK (asg h) (k w w0 w1)
theorem T2{ps lv:List Int}{c tu:Nat}{w:Int}{ss:ù}{v:Option PV}{H:Nat->Option PV}(hc:c=6\/c=8) (hw:0<=w/\w<=14*E8 c) (t1:1<=tu) (t5:tu<=5) (Gp:ps.length=c) (hP:∀k<c,0<=ps.getD k 0/\ps.getD k 0<48) (hlv:lv.length=c) (hL:∀k<c,-(k:Int)<=lv.getD k 0/\lv.getD k 0<=8)
  (g1:H 1=J (.int (c:Int))) (g16:H 16=J (aU lv)) (g20:H 20=J (.int (tu:Int))) (g23:H 23=J (.int w)) (g25:H 25=J (aU ps)) (g26:H 26=J (lp (gO (λk=>ps.getD k 0) (λk=>(tu:Int)*lv.getD k 0) 0)))
  (k:∀Y:Nat->Option PV,bQ (aD (FT aQ (n+1)) ss (LH 58 0 (lk (LE H Y c lv ps tu w (gO (λk=>ps.getD k 0) (λk=>(tu:Int)*lv.getD k 0) c)))))=v):
  bQ (aD (FT aQ (n+1)) (.cons (.for [27] (.rng1 Qe) (bo (tq 28 bF.code))) ss) (LH 58 0 H))=v:= by
 obtain⟨Y,h⟩:=FY (n:=n) (H:=H) hc hw t1 t5 Gp hP hlv hL c 0 H (gk c);have e:LH 58 0 H=LE H H c lv ps tu w (gO (λk=>ps.getD k 0) (λk=>(tu:Int)*lv.getD k 0) 0):=by unfold LE;rw[<-g1,<-g16,<-g20,<-g23,<-g25,<-g26];rfl
 rw[<-List.range_eq_range',<-e] at h;exact aK (pL (lX (n:=c) g1 (by lia)) h) (k Y)
end L1
namespace L1
variable{n:Nat}
theorem aC6 (R:List Nat):∀(o:Int) (k:Nat),k+1<R.length->o-(k:Int)<=(lev o R).getD k 0/\(lev o R).getD k 0<=o+(R.sum:Int):= by
 induction R with
 |nil=>exact λ_ _ h=>absurd h (Nat.not_lt_zero _)
 |cons r R ih=>
  intro o k h;cases R with
  |nil=>exact absurd (jn h) (Nat.not_lt_zero _)
  |cons r' R=>
   cases k with
   |zero=>exact⟨ar (de (Int.sub_zero o)) (ml (bl r)),yg (gm.mpr (je r _)) o⟩
   |succ k=>
    obtain⟨i1,i2⟩:=ih (o+(r:Int)-1) k (jn h);clear ih h;show o-((k+1:Nat):Int)<=(lev (o+(r:Int)-1) (r'::R)).getD k 0/\(lev (o+(r:Int)-1) (r'::R)).getD k 0<=o+((r+(r'::R).sum:Nat):Int);generalize (lev (o+(r:Int)-1) (r'::R)).getD k 0=D at*;generalize (r'::R).sum=S at*;exact⟨by exact ì [_,_] [_,_] (.l (.S .a (.C .kl)) .b) [.l (.S (.S (.A .a .r) .n1) .q) .b] i1,by exact ì [_,_] [_,_] (.l .a (.A .b (.C (.A .q .r)))) [.l .a (.A (.S (.A .b .q) .n1) .r)] i2⟩
theorem MH (m a:Nat) (o:Int) (l:List Nat):lev o ((m+a)::l)=lev (o+(m:Int)) (a::l)/\iA o ((m+a)::l)=iA (o+(m:Int)) (a::l):= by
 have e:o+((m+a:Nat):Int)=o+(m:Int)+(a:Int):=(Int.add_assoc o m a).symm;cases l with
 |nil=>exact⟨rfl,e⟩
 |cons b l=>rw[v8,v8,v9,v9,e];exact⟨rfl,rfl⟩
theorem aFW{c f r:Nat}{rs:List Nat}(hc:c=6\/c=8) (hl:rs.length=c) (hs:(r::rs).sum=c) (hf:0<f):
  ∃(Rf:List Nat) (L:Int),Rf=(c-(rs.map (·%f)).sum)::rs.map (·%f)/\fD f (r::rs)=cL Rf/\Rf.sum=c/\Rf.length=c+1/\iA 0 Rf=0/\iA 0 (r::rs)=0/\(low (f:Int) 1 (lev 0 (r::rs))).getLast?=J L/\Cg (f:Int) (lev 0 Rf) (lev 0 (r::rs))/\
   (decide (∀v∈lev 0 Rf,1<=v)=(L==1)):= by
 have h0:iA 0 (r::rs)=0:=jP (by simp) (by rw[hs,ci,hl]);have ha:=rR (f:=f) (r:=r) (rs:=rs) hf;rw[hs] at ha;have Ml:=wH f rs;have Fu:((c-(rs.map (·%f)).sum)::rs.map (·%f)).sum=c:= by
  simp only[di] at hs⊢;exact eo (be (cf (ĉ [_,_,_,_] (.x .q .r) [.z1 (.A .s .t) .r,.x .q .t] hs Ml))) (be (cf (ĉ [_,_,_,_] (.x .q .r) [.z1 (.A .s .t) .r,.x .q .t] hs Ml)).symm)
 have hlen:((c-(rs.map (·%f)).sum)::rs.map (·%f)).length=c+1:=by rw[ci,ao,hl]
 have Ls:iA 0 ((c-(rs.map (·%f)).sum)::rs.map (·%f))=0:=jP (by simp) (by rw[Fu,hlen]);have d:=AH f hf (r::rs);have ep:c-(rs.map (·%f)).sum=f*((r::rs).map (· / f)).sum+r%f:= by
  rw[hs] at d;simp only[aw,di] at d⊢;exact eo (ĉ [_,_,_,_,_,_,_] (.x .q (.A (.M .r (.A .s .t)) .u)) [.z1 .v (.A (.M .r (.A .s .t)) (.A .u .w)),.z1 (.A .q .w) .v] d.symm (cf (ĉ [_,_,_,_,_,_] (.x .q .r) [.z1 (.A (.M .s (.A .t .u)) (.A .v .q)) .r] d))) (ĉ [_,_,_,_,_,_,_] (.x (.A (.M .q (.A .r .s)) .t) .u) [.z1 (.A (.M .q (.A .r .s)) (.A .t .v)) .w,.z1 .w (.A .u .v)] d (cf (ĉ [_,_,_,_,_,_] (.x .q .r) [.z1 (.A (.M .s (.A .t .u)) (.A .v .q)) .r] d)).symm)
 obtain⟨s1,s2⟩:=MH (f*((r::rs).map (· / f)).sum) (r%f) 0 (rs.map (·%f));rw[<-ep,Int.zero_add] at s1 s2;have hp:(((f*((r::rs).map (· / f)).sum:Nat):Int)-0)%(f:Int)=0:=by rw[Int.sub_zero];push_cast;exact Int.mul_emod_right _ _
 have Lq:0<=((f*((r::rs).map (· / f)).sum:Nat):Int):=bl _;generalize ((f*((r::rs).map (· / f)).sum:Nat):Int)=p at*;have hfp:iA p ((r::rs).map (·%f))=0:=s2.symm.trans Ls;have hcg:=aCY hf (r::rs) 0 p hp;have hX:low (f:Int) 1 (lev 0 (r::rs))≠[]:= by
  intro e;have:=congrArg db e;rw[AO,nT,ci,hl] at this;simp at this;lia
 refine⟨_,(low (f:Int) 1 (lev 0 (r::rs))).getLast hX,rfl,ha,Fu,hlen,Ls,h0,rj hX,by rw[s1];exact hcg,?_⟩;have hL:=rj hX;generalize (low (f:Int) 1 (lev 0 (r::rs))).getLast hX=L at*;rw[s1,og,decide_eq_true_eq,beq_iff_eq];constructor
 ·intro hv;have:=F0 hf rs r 0 p 0 hp (bq _) Lq hv hfp;rw[List.getLastD_eq_getLast?] at this;exact(congrArg (Option.getD · _) hL).symm.trans this
 ·intro e;rw[e] at hL;exact(F1 hf rs r 0 p 0 hp (Int.zero_emod _) hfp h0 (by rw[List.getLastD_eq_getLast?];exact congrArg (Option.getD · _) hL)).2
theorem MI{c f r:Nat}{rs:List Nat}(hc:c=6\/c=8) (hl:rs.length=c) (hs:(r::rs).sum=c) (hf:0<f) (hL:(low (f:Int) 1 (lev 0 (r::rs))).getLast?=J 1):
  ∃(x:Int) (X:List Int),low (f:Int) 1 (lev 0 (r::rs))=x::X/\(x::X).length=c/\StepOk 0 (x::X)/\(dB 0 (x::X)).sum=c/\(dB 0 (x::X)).length=c+1/\iA 0 (dB 0 (x::X))=0/\lev 0 (dB 0 (x::X))=x::X/\(∀v∈x::X,1<=v)/\fD f (dB 0 (x::X))=fD f (r::rs)/\Cg (f:Int) (x::X) (lev 0 (r::rs)):= by
 have h0:iA 0 (r::rs)=0:=jP (by simp) (by rw[hs,ci,hl]);obtain⟨i1,i2,i3,i4⟩:=XW hf rs r 0 0 (Int.zero_emod _) (bq _) h0 (by rw[List.getLastD_eq_getLast?];exact congrArg (Option.getD · _) hL);have Hq:=TY (f:=(f:Int)) (by exact Ć (.t .n0 .q) [.y .n0 .q] hf) (lev 0 (r::rs)) 0;have hcg:=aCZ (f:Int) (lev 0 (r::rs)) 1;have hlen:(low (f:Int) 1 (lev 0 (r::rs))).length=c:=by rw[AO,nT,ci,hl];rfl
 rw[show mx 0=1 from rfl] at i1 i2 i3 i4 Hq;generalize low (f:Int) 1 (lev 0 (r::rs))=Y at*;cases Y with
 |nil=>exact nn hL
 |cons x X=>
  have flen:∀(l:List Int) (q:Int),(dB q l).length=l.length+1:= by
   intro l
   induction l with
   |nil=>exact λ_=>rfl
   |cons a l ih=>exact λ_=>congrArg (·+1) (ih _)
  have hfl:(dB 0 (x::X)).length=c+1:=by rw[flen,hlen]
  have On:(dB 0 (x::X)).sum=c:= by
   have:=C7 (dB 0 (x::X)) 0 (by intro e;rw[e] at hfl;simp at hfl);rw[i3] at this;lia
  refine⟨x,X,rfl,hlen,Hq,On,hfl,i3,i2,i4,?_,hcg⟩;obtain⟨a,b,Lp⟩:=C8 (x::X) 0;rw[Lp] at i1 On⊢;have e1:=rR (f:=f) (r:=a) (rs:=b) hf;have e2:=rR (f:=f) (r:=r) (rs:=rs) hf;rw[e1,e2,On,hs];have ht:b.map (·%f)=rs.map (·%f):= by
   rw[aw,aw] at i1;exact(yi i1).2
  rw[ht]
end L1
namespace L1
variable{n:Nat}
theorem IE{ps lv:List Int}{c tu f:Nat}{w:Int}{R:List Nat}(hc:c=6\/c=8) (hw:0<=w/\w<=14*E8 c) (t1:1<=tu) (t5:tu<=5) (Gp:ps.length=c) (hP:∀k<c,0<=ps.getD k 0/\ps.getD k 0<48) (hlv:lv.length=c)
  (hR:R.length=c+1) (hs:R.sum<=100) (ha:∀v∈lev 0 R,1<=v) (h0:iA 0 R=0) (h6:((tu:Int)*(f:Int))%6=0) (hcg:Cg (f:Int) (lev 0 R) lv):
  FT aQ (n+3) 17 [.str (sx (cL R)),aU ps,.int w,.int (tu:Int)]=J (lp (nrm (gO (λk=>ps.getD k 0) (λk=>(tu:Int)*lv.getD k 0) c))):= by
 have Fy:R≠[]:=λe=>nomatch e▸hR;obtain⟨t,na,ka⟩:=FS (n:=n) hc hw t1 t5 Gp hP (aa (kZ R) (by lia)) (rM R) (by rw[nS];exact ha) (by rw[nS,nT,hR];exact ai c) ((AN R 0 Fy).trans h0);have hm:=aC0 (λk=>ps.getD k 0) tu lv c (be hlv.symm);rw[oc (be hlv),<-XZ _ h6 _ _ _ hcg,<-aE5 _ _ _ _ ha,<-nS,<-ka] at hm;rw[aCN hm];exact na
theorem YM{H:Nat->Option PV}{ps lv:List Int}{c tu f p:Nat}{w x:Int}{X:List Int}{A:List Nat}(hc:c=6\/c=8) (hw:0<=w/\w<=14*E8 c) (t1:1<=tu) (t5:tu<=5) (Gp:ps.length=c) (hP:∀k<c,0<=ps.getD k 0/\ps.getD k 0<48) (hlv:lv.length=c)
  (hp:p<5) (hf:f=2\/f=3\/f=6) (h6:((tu:Int)*(f:Int))%6=0) (hX1:(x::X).length=c) (hX2:StepOk 0 (x::X)) (hX3:(dB 0 (x::X)).sum=c) (hX4:(dB 0 (x::X)).length=c+1) (hX5:iA 0 (dB 0 (x::X))=0) (hX6:lev 0 (dB 0 (x::X))=x::X) (hX7:∀v∈x::X,1<=v) (hX8:fD f (dB 0 (x::X))=A) (hX9:Cg (f:Int) (x::X) lv)
  (hA:FT aQ 5 17 [.str (sx A),aU ps,.int w,.int (tu:Int)]=J (lp (nrm (gO (λk=>ps.getD k 0) (λk=>(tu:Int)*lv.getD k 0) c))))
  (g1:H 1=J (.int (c:Int))) (g20:H 20=J (.int (tu:Int))) (g21:H 21=J (.int (f:Int))) (g22:H 22=J (.int (p:Int))) (g23:H 23=J (.int w)) (g25:H 25=J (aU ps)) (g26:H 26=J (lp (gO (λk=>ps.getD k 0) (λk=>(tu:Int)*lv.getD k 0) c))) (g38:H 38=J (.str (sx A))) (g40:H 40=J (aU (x::X))):
  bQ (aD (FT aQ 5) (tq 35 bF.code) (LH 58 0 H))=J (.bool Wu):= by
 have c8:c<=8:=by lia
 have ha:=yJ (n:=3) (runs:=dB 0 (x::X)) (p:=p) (by exact ä (.x .q (.N 30)) [.z1 .q .r,.x .r .n8] hX3 c8) (by exact ä (.x .q (.N 30)) [.z1 .q (.A .r .n1),.x .r .n8] hX4 c8) hp hf;have hc2:=yX (n:=3) (R:=dB 0 (x::X)) (by exact ā (.x (.A .q .r) (.N 900)) [.z1 .q .s,.z1 .r (.A .s .n1),.X 2 .s .n8] hX3 hX4 c8) (λe=>nomatch e▸hX4);rw[hX6,decide_eq_true ⟨hX7,hX5⟩] at hc2;exact aH (MD (n:=4) hc hX1 hX2 g1 g40 (λ_=>⟨rfl,rfl⟩) (by exact ä (.x .q (.N 100)) [.z1 .q .r,.x .r .n8] hX3 c8) (by exact ä (.x .q (.N 100)) [.z1 .q (.A .r .n1),.x .r .n8] hX4 c8)) (dF (w9 rfl g21 g22 g38 (hX8▸ha) hc2) (aH (T0 g26 λ_=>⟨rfl,rfl⟩) (cS (ME g38 rfl g25 g23 g20 rfl hA (IE (n:=2) hc hw t1 t5 Gp hP hlv hX4 (by lia) (hX6.symm▸hX7) hX5 h6 (hX6.symm▸hX9))))))
theorem YN{H:Nat->Option PV}{ps:List Int}{c tu p r:Nat}{w:Int}{rs:List Nat}(hc:c=6\/c=8) (hw:0<=w/\w<=14*E8 c) (t1:1<=tu) (t5:tu<=5) (Gp:ps.length=c) (hP:∀k<c,0<=ps.getD k 0/\ps.getD k 0<48) (hp:p<5) (Ht:rs.length=c) (Fu:(r::rs).sum=c)
  (g1:H 1=J (.int (c:Int))) (g13:H 13=J (.str (sx (cL (r::rs))))) (g16:H 16=J (aU (lev 0 (r::rs)))) (g20:H 20=J (.int (tu:Int))) (g21:H 21=J (.int (eY tu:Int))) (g22:H 22=J (.int (p:Int))) (g23:H 23=J (.int w)) (g25:H 25=J (aU ps)) (g26:H 26=J (lp (gO (λk=>ps.getD k 0) (λk=>(tu:Int)*(lev 0 (r::rs)).getD k 0) c))):
  bQ (aD (FT aQ 5) (tq 29 bF.code) (LH 58 0 H))=J (.bool Wu):= by
 obtain⟨hf,h6,-⟩:=DD t1 t5;have hfp:0<eY tu:=by lia
 obtain⟨Rf,L,eRf,eA,hRs,hRfl,hRf0,hR0,hL,hcg,hb⟩:=aFW hc Ht Fu hfp;have c8:c<=8:=by lia
 have hRl:(r::rs).length=c+1:=congrArg (·+1) Ht;have Lb:(lev 0 (r::rs)).length=c:=by rw[nT,hRl];rfl
 have hrl:=kZ Rf;have Mj:=wZ (n:=3) (ps:=ps) (T:=λk=>(tu:Int)*(lev 0 (r::rs)).getD k 0) (fold:=eY tu) (tu:=(tu:Int)) (R:=λk=>rs.getD k 0%eY tu) hc hw Gp hP (by unfold dD;simp;exact⟨Ć (.t (.G (.N 4611686018427387904)) .q) [],Ć (.t .q (.N 4611686018427387904)) [.x .q .n5] t5⟩) hf (λk _=>qd _ hfp) (by
  have e:=yW (eY tu) rs;rw[Ht] at e;have:=wH (eY tu) rs;rw[e];rw[di] at Fu;exact ů (.x .q .r) [.z1 (.A .s .t) .r,.x .q .t] Fu this) (TX rfl t1 t5 Ht hR0)
 have e:=yW (eY tu) rs;rw[Ht] at e;rw[e,<-eRf] at Mj;have Mu:=yX (n:=3) (R:=Rf) (by exact ā (.x (.A .q .r) (.N 900)) [.z1 .q .s,.z1 .r (.A .s .n1),.X 2 .s .n8] hRs hRfl c8) (λe=>nomatch e▸hRfl);have hdec:decide ((∀v∈lev 0 Rf,1<=v)/\iA 0 Rf=0)=decide (∀v∈lev 0 Rf,1<=v):=decide_eq_decide.mpr ⟨And.left,λh=>⟨h,hRf0⟩⟩;rw[hdec] at Mu;have hXl:(low (eY tu:Int) 1 (lev 0 (r::rs))).length<=100:=by rw[AO];exact ä (.x .q (.N 100)) [.x .r .n8,.z1 .q .r] c8 Lb
 have ha:=GB (n:=3) (pe:=LH 58 0 H) (R:=r::rs) (by exact ä (.x .q (.N 30)) [.z1 .q .r,.x .r .n8] Fu c8) (by exact ä (.x .q (.N 30)) [.x .r .n8,.z1 .q (.A .r .n1)] c8 hRl) hp hf g13 g21 g22;rw[eA] at ha;refine aH ha (dF (w8 g26 g25 g23 g20 g21 rfl Mj) (aH (eF (eK rfl eN) Mu) (dF (wI (n:=4) (A:=cL Rf) rfl rfl (by exact ů (.x .q (.N 900)) [.z1 .r .s,.z1 .t (.A .s .n1),.X 2 .s .n8,.x .q (.A .r .t)] hRs hRfl c8 hrl) (λch Gm=>by rcases rM Rf ch Gm with rfl|rfl<;>decide) (by rw[nS]) λv=>rfl) (aH (DG (n:=4) (by lia) hfp g16 g21) ?_))))
 by_cases Gv:∀v∈lev 0 Rf,1<=v
 ·cases (aq ((decide_eq_true Gv).symm.trans hb).symm:L=1);obtain⟨x,X,eX,hX1,hX2,hX3,hX4,hX5,hX6,hX7,hX8,hX9⟩:=MI hc Ht Fu hfp hL;refine dF ((nJ hL hXl rfl rfl hb).1.trans (by rw[decide_eq_true Gv];rfl)) ?_;rw[eX];exact YM hc hw t1 t5 Gp hP Lb hp hf h6 hX1 hX2 hX3 hX4 hX5 hX6 hX7 (hX8.trans eA) hX9 (IE (n:=2) hc hw t1 t5 Gp hP Lb hRfl (by exact ä (.x .q (.N 100)) [.z1 .q .r,.x .r .n8] hRs c8) Gv hRf0 h6 hcg) g1 g20 g21 g22 g23 g25 g26 rfl rfl
 ·exact jF ((nJ hL hXl rfl rfl hb).1.trans (by rw[decide_eq_false Gv];rfl)) (cS ((nJ hL hXl rfl rfl hb).2 (decide_eq_false Gv)))
theorem YO{H:Nat->Option PV}{É:List Int}{c r:Nat}{rs:List Nat}(hc:c=6\/c=8) (hn:É.length=c) (Ht:rs.length=c) (Fu:(r::rs).sum=c)
  (g1:H 1=J (.int (c:Int))) (g3:H 3=J (aU É)) (g13:H 13=J (.str (sx (cL (r::rs))))) (g16:H 16=J (aU (lev 0 (r::rs)))):
  bQ (aD (FT aQ 5) (tq 19 bF.code) (LH 58 0 H))=J (.bool Wu):= by
 have c8:c<=8:=by lia
 obtain⟨t1,t5,-⟩:=IA (É.getD 1 0);obtain⟨hp5,-⟩:=IB (É.getD 1 0);have Lb:(lev 0 (r::rs)).length=c:=by rw[nT,ci,Ht];rfl
 have Wk:∀k<c,-(k:Int)<=(lev 0 (r::rs)).getD k 0/\(lev 0 (r::rs)).getD k 0<=8:=λk Hx=>by
  have:=aC6 (r::rs) 0 k (by rw[ci];exact ā (.y .kl (.A .r .n1)) [.z1 .s .r,.y .q .s] Ht.symm Hx);rw[Fu] at this;exact⟨ì [_] [_] (.l (.G .q) .a) [.l (.S .n0 .q) .a] this.1,ì [_] [_] (.l .a .n8) [.x .q .n8,.l .a (.A .n0 .q)] c8 this.2⟩
 refine aH (L9 (É:=É) g3 (by lia)) (aH (MA t1 t5 rfl) (aH (MB (É:=É) g3 (by lia)) (YL (c:=c) (É:=É) hc g1 g3 (by lia) λw w0 w1=>?_)));rw[sD];have hwS:w<=SZ c:=by have:=Ť (c:=c);have:=EN_val c;have:=eE c;lia
 have Gp:(É.map λx=>x/8%48).length=c:=by rw[ao,hn]
 have hP:∀k<c,0<=(É.map λx=>x/8%48).getD k 0/\(É.map λx=>x/8%48).getD k 0<48:=λk Hx=>by
  rw[cg,ej,bf (by exact ā (.y .q .r) [.z1 .s .r,.y .q .s] hn.symm Hx)];show 0<=_/8%48/\_/8%48<48;exact⟨(ge _ (show(48:Int)≠0 by decide)),(ds _ (show(0:Int)<48 by decide))⟩
 exact aH (DE (c:=c) (w:=w) hc g1 rfl w0 hwS) (dF (TU (n:=4) hc t5 w0 hwS rfl rfl) (dF (TV (n:=4) hc t5 w0 hwS rfl rfl) (aH (DF (É:=É) g3 (by exact ä (.x .q (.N 10)) [.z1 .q .r,.x .r .n8] hn c8) (λv=>rfl)) (aH (p:=aU [0,0,0]) rfl (T2 (n:=4) hc ⟨w0,w1⟩ t1 t5 Gp hP Lb Wk g1 g16 rfl rfl rfl rfl λY=>YN hc ⟨w0,w1⟩ t1 t5 Gp hP hp5 Ht Fu rfl g13 rfl rfl rfl rfl rfl rfl rfl)))))
theorem T3{H:Nat->Option PV}{É:List Int}{c r:Nat}{rs:List Nat}{hd:List (List Pc)}(hc:c=6\/c=8) (hn:É.length=c) (Ht:rs.length=c) (Fu:(r::rs).sum=c) (hk:∀kd∈hd,Kd kd) (Nf:hd.length=c+1)
  (g1:H 1=J (.int (c:Int))) (g3:H 3=J (aU É)) (g4:H 4=J (gK (r::rs))) (g8:H 8=J (fL (hd.map aY))) (g9:H 9=J (fL ((prt hd (r::rs)).map aY))):
  bQ (aD (FT aQ 5) (tq 10 bF.code) (LH 58 0 H))=J (.bool Wu):= by
 have c8:c<=8:=by lia
 have hR:(r::rs).length=c+1:=congrArg (·+1) Ht;have hRl:(r::rs).length<=20:=by exact ä (.x .q (.N 20)) [.x .r .n8,.z1 .q (.A .r .n1)] c8 hR
 have hr8:∀x∈r::rs,x<=20:=λx hx=>by have:=AC hx;exact ā (.x .q (.N 20)) [.z1 .r .s,.x .s .n8,.x .q .r] Fu c8 this
 obtain⟨fl1,fl2⟩:=tG hk hr8 hRl;have Hk:=AR (tH (R:=r::rs) hk);have hbs:=AS (jnP (prt hd (r::rs)));refine aH (L4 (n:=4) hk hr8 hRl g9) (aH (L5 hk (by exact ä (.x .q (.N 20)) [.z1 .q (.A .r .n1),.x .r .n8] Nf c8) g8 λ_=>rfl) (dF (w5 hc hk Nf hR hr8 g1 g4 rfl rfl λ_=>⟨rfl,rfl,rfl⟩) ?_));refine aK (asgT (p:=.tup [.str ("":Str),.str ("":Str)]) rfl rfl) ?_;change bQ (aD _ _ (st (st (LH 58 0 _) 12 _) 13 _))=_;rw[sD,sD];refine YK (S:=bR (jnP (prt hd (r::rs)))++[92]) rfl rfl rfl (by rw[am,List.length_singleton];exact ä (.x .kl .kn) [.x .r (.N 520),.x .q .r] fl1 hbs.2) (λch Gm=>(ew.mp Gm).elim (λh=>Hk ch (hbs.1 ch h)) λh=>by
  cases bx.mp h;decide) λy14 y15=>?_
 rw[kD _ _ (pX (wB (rO hk (R:=r::rs)))).1,l7,show brk (Ą Wv (bR (jnP (prt hd (r::rs)))))=cL (r::rs) from AQ hd (r::rs) (by lia) hk,show cL (r::rs)++brk (Ą Wv [92])=cL (r::rs) from bj _];have hlv:=vV (n:=4) (l:=cL (r::rs)) (aa (kZ _) (by exact ā (.x (.A .q .r) .kn) [.z1 .q .s,.x .s .n8,.x .r (.N 20)] Fu c8 hRl)) (λch Gm=>by rcases rM _ ch Gm with rfl|rfl<;>decide);rw[nS] at hlv;refine dF (AU (n:=4) (R:=r::rs) (by exact ä (.x .q (.N 100)) [.z1 .q .r,.x .r .n8] Fu c8) (by exact aa hRl (by decide)) rfl rfl rfl g4) (aH (eF (eK rfl eN) hlv) (T1 (n:=4) g1 g3 g9 rfl hc hn (by rw[nT,hR];rfl) (by rw[ao];exact aa fl2 (by decide)) (λm m1 m2=>by
  rw[DC (n:=3) hk (by lia) hr8 hRl m1 (by exact ā (.y .q .r) [.z1 (.A .s .n1) .r,.x .q .s] hR.symm m2),Bool.decide_and]) λy17 y18 y19=>?_))
 exact dF (w7 g9 (by rw[ao];lia) (F7 (n:=3) hk (by lia) hr8 hRl (by simp) (jP (by simp) (by rw[Fu,hR])))) (YO hc hn Ht Fu g1 g3 rfl rfl)
theorem math (l:List Int) (h:l.length<=63):FT aQ 6 18 [.lst (l.map .int)]=J (.bool Wu):= by
 rw[ft 5 18 bF _ rfl];apply dX rfl;show bQ (aD _ bF.code (LH 58 0 (so (λ_=>Ww) 0 (J (aU l)))))=_;refine aH (F2 h rfl) ?_;have hc:(if l.length<7 then 6 else 8:Nat)=6\/(if l.length<7 then 6 else 8:Nat)=8:=by split<;>simp
 generalize (if l.length<7 then 6 else 8:Nat)=c at*;have c8:c<=8:=by lia
 refine aH (p:=.tup (([6938,742,4712,626,176,289,74,331]:List Int).map .int)) rfl (MG hc h rfl rfl rfl λÉ hn=>aHO (l:=[]) rfl (YJ (c:=c) (É:=É) c8 (by exact ä (.x .q .n8) [.x .r .n8,.z1 .q .r] c8 hn) rfl rfl rfl λR y5 hR hRs=>aC4 (c:=c) (É:=É) (R:=R) hc hn (by lia) hRs rfl rfl rfl (λ_=>⟨rfl,rfl,rfl⟩) λr rs Ht Fu=>?_));rw[sD,sD];have hk:=aC1 (É.getD 2 0) c;have Nf:=X3 (É.getD 2 0) hc;have hp:=λ(H:Nat->Option PV) (h1:H 1=J (.int (c:Int))) h8 h4=>yR (F:=FT aQ 5) (pe:=LH 58 0 H) (i:=8) (t:=55) (cc:=.cst .none) (T:=(hdL (É.getD 2 0) c).map aY) (R:=r::rs) hc h1 h8 h4 (by rw[ao];exact Nf) (congrArg (·+1) Ht) (λx hx=>by have:=AC hx;exact ā (.x .q (.N 20)) [.x .r .n8,.z1 .s .r,.x .q .s] c8 Fu this) (λx hx=>by
  obtain⟨kd,Hx,rfl⟩:=ja.mp hx;exact(hk kd Hx).len) λ_=>⟨rfl,rfl,rfl⟩
 rw[<-TQ] at hp;exact aH LZ (aH (F5 (É:=É) hc rfl rfl rfl (by lia)) (aH (hp _ rfl rfl rfl) (T3 hc hn Ht Fu hk Nf rfl rfl rfl rfl rfl)))
end L1
def AV (pars:List Str) (p:Ae):Bool:=
 p.posonlyargs.isEmpty&&p.args.map (·.arg)==pars&&p.vararg.isNone&&p.kwonlyargs.isEmpty&&p.kwarg.isNone&&cR pars
theorem DH{α β:Type}{f g:α->Option β}:∀{l:List α},(∀x∈l,f x=g x)->l.filterMap f=l.filterMap g
 |[],_=>rfl
 |a::l,h=>by
  exact O iu (O iu (O (h a (by exact ag)) (O (DH λx hx=>h x (by simp[hx])) rfl)))
theorem xA{α β:Type}(x:α) (f:α->Sem β):(Ed x).bind f=f x:=rfl
theorem AW:notAStandIn Cc=Ed ():=rfl
theorem GC:∀{pars:List Str}{vs:List aj},vs.length=pars.length->cR pars=Wu->
  ((pars.filter λn=>((pars.zip vs).lookup n).isNone)=[])/\(pars.filterMap λn=>((pars.zip vs).lookup n).map (n,·))=pars.zip vs:= by
 intro pars vs hl hn;have key:∀n∈pars,∃v,(pars.zip vs).lookup n=J v:= by
  clear hn
  induction pars generalizing vs with
  |nil=>simp
  |cons p pars ih=>
   cases vs with
   |nil=>trivial
   |cons v vs=>
    intro n hm
    dsimp only[pz,dk]
    split
    ·exact⟨_,rfl⟩
    ·rename_i Fy;rcases dL.mp hm with h|h
     ·subst h;simp at Fy
     ·exact ih (by simpa using hl) n h
 refine⟨?_,?_⟩
 ·refine O (propext wa) ?_;intro n hm;refine xe (key n hm) λv hv=>?_;simp[hv]
 ·clear key
  induction pars generalizing vs with
  |nil=>simp
  |cons p pars ih=>
   cases vs with
   |nil=>trivial
   |cons v vs=>
    simp only[kN,bt,en,jf,decide_eq_false_iff_not] at hn;refine O pz (O iu ?_);simp only[dk,beq_self_eq_true,Be];congr 1;have:=ih (vs:=vs) (by simpa using hl) hn.2;refine Bp ?_ this;refine DH λn hm=>?_;have:(n==p)=Wv:= by
     refine O (propext beq_eq_false_iff_ne) ?_;intro e;subst e;exact hn.1 hm
    simp only[this]
theorem wJ (hb:AV pars params=Wu) (hv:vs.length=pars.length):
  bindArgs (ec name params body sc pm cd ĵ) ⟨vs,[]⟩=dm (pars.zip vs):= by
 obtain⟨p1,p2,p3,p4,p5,p6,p7⟩:=params;simp only[AV,bt,Ah,Option.isNone_iff_eq_none] at hb;obtain⟨⟨⟨⟨⟨h1,h2⟩,h3⟩,h4⟩,h5⟩,h6⟩:=hb;subst h1 h3 h4 h5;have h2:=aq h2;subst h2;refine xa (GC hv h6) λz1 z2=>?_
 delta bindArgs ec
 dsimp only[jy,pn,bj,seqItems?,xA,AW,bind,pure,qp,ma,yl,rm,Nat.sub_zero,Option.isNone_none,Option.isNone,Bool.and_true,ys,zm]
 refine(if_neg ?_).trans ?_
 ·refine O hv ?_;simp
 refine(if_neg ?_).trans ?_
 ·intro q;rw[yl] at q;exact Bool.noConfusion ((congrArg (λl:List Str=>!l.isEmpty) ((congrArg (List.filter _) (vk (l:=ze (λx=>x.arg) p2))).trans z1)).symm.trans q)
 exact O yl (O ys (congrArg Ed ((congrArg (Cf _) (bj _)).trans z2)))
end Mine.Internal
end
section
open PySem PySem.W PyProof.Rows PySem.W.X
namespace Mine.Internal
noncomputable def aE8:aj->aj->Bool
 |.builtin i,.builtin j=>i==j
 |.type i,.type j=>i==j
 |_,_=>Wv
theorem YP:∀{u v:aj},aE8 u v=Wu->u=v:= by
 intro u v h;cases u with
 |builtin i=>cases v with
  |builtin j=>exact congrArg aj.builtin (aq h)
  |_=>exact nf h
 |type i=>cases v with
  |type j=>exact congrArg aj.type (aq h)
  |_=>exact nf h
 |_=>exact nf h
theorem MJ (h:YS b o=Wu):∃t,o=J (.float b t)/\t≠0:= by
 cases o with
 |none=>exact nf h
 |some v=>cases v with
  |float c t=>exact⟨t,congrArg (λc=>J (om c t)) (aq (aA h).1),λe=>by have:=(aA h).2;rw[e] at this;exact nf this⟩
  |_=>exact nf h
section
theorem DI{h:ju}{a:fy}{o:Obj}{es:Array Cr}{ep:Nat}{dl:List (Str×Int)}(ha:(a==sysModules)=Wv) (ho:h.get? a=J o) (he:o.ExactDict) (hd:o.data=.dict es ep)
  (hn:cR (dl.map (·.1))=Wu) (hE:Ū W0.params es.toList dl):Û h a (dl.map λx=>(x.1,SV.i x.2)):= by
 have key:∀(es:List Cr) (dl:List (Str×Int)),Ū W0.params es dl->∃Fk:List (Str×aj),(∀e∈es,∃k,(strKind Pg W0).is k e.key=Wu/\e.hash=(strKind Pg W0).hash k)/\Pairs (strKind Pg W0) es Fk/\
   Fk.map (·.1)=dl.map (·.1)/\ņ Fk (dl.map λx=>(x.1,SV.i x.2)):= by
  intro es
  induction es with
  |nil=>
   intro dl h;cases dl with
   |nil=>exact(iH ([]) (by simp) .nil rfl .nil)
   |cons x l=>cases h
  |cons e es ih=>
   intro dl h;cases dl with
   |nil=>cases h
   |cons x l=>
    obtain⟨k,n⟩:=x;obtain⟨⟨t,h1⟩,h2,⟨u,h3⟩,h4⟩:=h;refine cH (ih l h4) λFk q1 q2 q3 q4=>?_;refine(iH ((k,e.val)::Fk) ?_ (.cons (by exact O h1 (strKind_is Pg W0 k t)) rfl q2) (by simp[q3]) (by refine O h3 ?_;exact .cons (.i n u) q4));intro e' hm;rcases dL.mp hm with rfl|hm
    ·exact(Ö k (by exact O h1 (strKind_is Pg W0 k t)) h2)
    ·exact q1 e' hm
 refine cH (key es.toList dl hE) λFk q1 q2 q3 q4=>?_;refine(sI ha Fk (fI o es ep ho he hd (λe hm=>q1 e (by simpa using hm)) ⟨q2,?_⟩) q4);refine O q3 ?_;clear q3 q2 q1 q4 hE key;generalize dl.map (·.1)=l at*
 induction l with
 |nil=>exact .nil
 |cons x l ih=>
  simp only[kN,bt,en,jf,decide_eq_false_iff_not] at hn;exact Bc.mpr ⟨hn.1,ih hn.2⟩
noncomputable def T4 (x:Str):Bool:=
 !startupNames.contains x&&!Lw.contains x&&!((recsOf Vw).map (·.name)).contains x&&!((litsOf Vw).map (·.1)).contains x&&!((clssOf Vw Lw).map (·.name)).contains x&&!(x==("__name__":Str))
def DJ (x:Str) (v:aj):Bool:=T4 x&&(match bootBuiltins x with|some u=>aE8 u v|none=>Wv)
def aE9:Str×G->Bool
 |(x,.bi b)=>DJ x (ŷ b)
 |(x,.rng)=>DJ x (.type "range")
 |(x,.enum)=>DJ x (.type "enumerate")
 |(x,.fn k)=>Ī[k]?==J x
 |(x,.gen)=>x==("_iter_escaped_chars":Str)
 |(x,.cst (.int n))=>(match valOf Vw x with|some (.int m)=>m==n|_=>Wv)
 |(x,.cst (.flt b))=>Ŵ.contains (x,b)
 |(x,.cst (.dcts l))=>x==("EXACT_TOKEN_TYPES":Str)&&decide (l=dl.map λx=>(x.1,SV.i x.2))
 |_=>Wv
def IG (nf:Str×Î):Bool:=(recsOf Vw).any λd=>d.name==nf.1&&V3 nf.2 d.body d.scope&&AV nf.2.pars d.params
def T5:Bool:=(recsOf Vw).any λd=>d.name==("_iter_escaped_chars":Str)&&zO d.body d.scope&&AV [("addr":Str)] d.params
variable{ē:Es->Option aj}{mb:Str->Option aj}{aT:ak}{t:KT}{aQ:List Î}
theorem AX (h:DN k=x) (hm:mG x=J (.ref a)):fA k=a:= by
 delta fA;exact O h (O hm rfl)
set_option tactic.hygienic true in
theorem oX (T:Top Vw Lw ē mG mb H0) (h:DJ x v=Wu):mG x=Ww/\mb x=J v:= by
 delta DJ T4 at h
 simp only[bt,en,jf,decide_eq_false_iff_not,beq_eq_false_iff_ne] at h;obtain⟨⟨⟨⟨⟨⟨h1,h2⟩,h3⟩,h4⟩,h5⟩,h6⟩,h7⟩:=h;refine⟨T.free x h1 h2 h3 h4 h5,?_⟩;refine O (T.builtins x h6) ?_;revert h7;cases bootBuiltins x with
 |none=>exact nf
 |some u=>exact λh7=>congrArg J (YP h7)
theorem wK (T:Top Vw Lw ē mG mb H0) (hk:DN k=x) (h:IG (x,f)=Wu):Nonempty (ļ (fA k) f)/\mG x=J (.ref (fA k)):= by
 refine Å (uv.mp h) λd hd h=>?_;simp only[bt] at h;obtain⟨⟨h1,h2⟩,h3⟩:=h;have h1:=aq h1;refine fW (T.fn d hd) λa o pm cd zt=>?_;refine cH zt λĵ q1 q2 q3 q4=>?_;clear zt;rw[h1] at q1;have Pr:=AX hk q1;exact O Pr ⟨⟨⟨d.name,d.params,d.body,d.scope,pm,cd,ĵ,o,h2,q2,q3,q4,λvs hv=>wJ h3 hv⟩⟩,q1⟩
theorem wL (T:Top Vw Lw ē mG mb H0) (h:T5=Wu):Nonempty (ć (fA 1000))/\mG ("_iter_escaped_chars":Str)=J (.ref (fA 1000)):= by
 refine Å (uv.mp h) λd hd h=>?_;simp only[bt] at h;obtain⟨⟨h1,h2⟩,h3⟩:=h;have h1:=aq h1;refine fW (T.fn d hd) λa o pm cd zt=>?_;refine cH zt λĵ q1 q2 q3 q4=>?_;clear zt;rw[h1] at q1;have Pr:=AX (k:=1000) rfl q1;exact O Pr ⟨⟨⟨d.name,d.params,d.body,d.scope,pm,cd,ĵ,o,h2,q2,q3,q4,λv=>wJ h3 rfl⟩⟩,q1⟩
theorem aC7 (T:Top Vw Lw ē mG mb H0) (ZH:KT.Holds H0 1 0 t) (TF:Ā W0.params t Ŵ "EXACT_TOKEN_TYPES" dl) (Ij:cR (dl.map (·.1))=Wu)
  (c1:∀(k:Nat) x f,Ī[k]?=J x->aQ[k]?=J f->IG (x,f)=Wu) (hl:Ī.length=aQ.length) (Nl:Ī.length<=1000) (c2:T5=Wu) (c3:∀xg∈GL,aE9 xg=Wu):ă:= by
 refine mF TF.stat λo2 ep2 g2 d2=>?_;refine b9 TF.glob λo3 es ep3 g3 d3 hf zt=>?_;refine fW zt λa o' ž χ zt=>?_;refine MO zt λn1 n2 n3 n4 n5 n6=>?_;clear zt;have g2:=kt_at ZH g2;have g3:=kt_at ZH g3;have n3:=kt_at ZH n3;have Lf:∀x,mG x=nsFind es x:= by
  refine b9 T.g λo Tx ep e1 e2 _ e4=>?_;rw[show mainGlobals=3 from rfl,g3] at e1;cases e1;rw[d3] at e2;cases e2;exact λx=>(e4 x).symm
 refine⟨?_,T.nolimit,?_,mG,mb,T.g,T.b,?_⟩
 ·refine⟨λ_=>Ww,⟨o2,#[],ep2,g2,d2,λe he=>by simp at he,λx=>by rfl⟩,rfl⟩
 ·exact eb (by decide) (dc g3)
 ·intro x g hx;have hm:=bC hx;have hc:=c3 _ hm;have fnAt:∀k,Ī[k]?=J x->∃v,mG x=J v/\GV v (.fn k):= by
   intro k hk;have Fv:k<Ī.length:=(dw.mp hk).1;have hf:aQ[k]?=J aQ[k]:=by simp
   have Mr:DN k=x:=by delta DN;refine O (if_neg (by exact fx (af Fv Nl))) (O hk ?_);rfl
   obtain⟨⟨R⟩,q⟩:=wK T Mr (c1 k x _ hk hf);exact⟨_,q,rfl,R.o,_,R.at_,R.data⟩
  cases g with
  |bi b=>refine xa (oX T (v:=ŷ b) hc) λq1 q2=>?_;exact⟨_,.inr ⟨q1,q2⟩,rfl⟩
  |rng=>refine xa (oX T (v:=.type "range") hc) λq1 q2=>?_;exact⟨_,.inr ⟨q1,q2⟩,rfl⟩
  |enum=>refine xa (oX T (v:=.type "enumerate") hc) λq1 q2=>?_;exact⟨_,.inr ⟨q1,q2⟩,rfl⟩
  |fn k=>refine Å (fnAt k (aq hc)) λv q1 q2=>?_;exact⟨v,.inl q1,q2⟩
  |gen=>
   have hx:=aq (show(x==("_iter_escaped_chars":Str))=Wu from hc);subst hx;obtain⟨⟨R⟩,q⟩:=wL T c2;exact⟨_,.inl q,rfl,R.o,_,R.at_,R.data⟩
  |cst c=>
   cases c with
   |int n=>
    have hc:(match valOf Vw x with|some (.int m)=>m==n|_=>Wv)=Wu:=hc;revert hc;cases e:valOf Vw x with
    |none=>exact nf
    |some q=>cases q with
     |int m=>
      intro hc;rw[aq hc] at e;refine Å (T.const x _ e) λv q1 q2=>?_;have q2:=q2 H0;cases q2;exact⟨_,.inl q1,.int _ _⟩
     |_=>exact nf
   |flt b=>
    refine Å (MJ (bz.mp hf (x,b) (mo.mp hc))) λu e e2=>?_;exact⟨_,.inl (by exact O (Lf ..) e),.flt _ _ e2⟩
   |dcts l=>
    refine xa (aA hc) λe1 e2=>?_;clear hc;have e1:=aq e1;have e2:=of_decide_eq_true e2;subst e1 e2;exact⟨_,.inl (by exact O (Lf ..) n1),.dcts (λq=>q) (DI n2 n3 n4 n5 Ij n6)⟩
   |_=>exact nf hc
theorem T6{vs:List aj}{ns:List Int}(h:Cw vs ns):Í h0 N vs (ns.map .int):= by
 induction h with
 |nil=>exact .nil
 |cons n t r x=>exact .cons (.int n t) x
theorem GD (hh:aT.heap=H0) (T:Top Vw Lw ē mG mb H0) (ZH:KT.Holds H0 1 0 t) (TF:Ā W0.params t Ŵ "EXACT_TOKEN_TYPES" dl) (Ij:cR (dl.map (·.1))=Wu)
  (c1:((Ī.zip aQ).all (IG))=Wu) (hl:Ī.length=aQ.length) (Nl:Ī.length<=1000) (c2:T5=Wu) (c3:(GL.all (aE9))=Wu)
  (hm:(aQ.all λf=>decide (ě f.code<=15))=Wu)
  (hg:aT.gens=#[]) (htk:0<aT.toks){k:Nat}{x:Str}{fa a:fy}(hk:Ī[k]?=J x) (Lf:mG x=J (.ref fa)){vs:List aj}{ns:List Int}
  (ho:H0.get? a=J {cls:=.type "list",data:=.seq vs.toArray}) (hI:Cw vs ns) (hd:FT aQ 6 k [.lst (ns.map .int)]=J (.bool Wu))
  {Q:Vs}{E:Vs}(hQ:∀v s',Pure aT s'->v=.bool Wu->Q v s'):wpAny (model Pg W0) callerA (call (.ref fa) [.ref a]) Q E aT:= by
 have c1':∀(k:Nat) x f,Ī[k]?=J x->aQ[k]?=J f->IG (x,f)=Wu:= by
  intro k x f h1 h2;refine bz.mp c1 _ ?_;refine xi (i:=k) ?_;exact O (propext (List.getElem?_zip_eq_some)) ⟨h1,h2⟩
 have GK:=aC7 T ZH TF Ij c1' hl Nl c2 (λxg h=>bz.mp c3 xg h);obtain⟨⟨g⟩,-⟩:=wL T c2;have nmk:∀{k:Nat}{x:Str},Ī[k]?=J x->DN k=x:= by
  intro k x h;have Fv:k<Ī.length:=(dw.mp h).1
  delta DN;refine O (if_neg (by exact fx (af Fv Nl))) (O h ?_);rfl
 have hr:∀k f,aQ[k]?=J f->Nonempty (ļ (fA k) f):= by
  intro k f h;have Fv:k<Ī.length:=by exact O hl ((dw.mp h).1)
  have h1:Ī[k]?=J Ī[k]:=by simp
  exact(wK T (nmk h1) (c1' k _ f h1 h)).1
 have FK:=sB GK g hr (λf hf=>by simpa using bz.mp hm f hf) 6;have Pr:=AX (nmk hk) Lf;refine aFZ Pr ?_;refine FK k callerA aT Ε [.ref a] _ _ Q E ⟨rfl,by decide,by decide⟩ ⟨λ_ _ e=>by exact O hh e,λb q=>q.elim,by refine O hh ?_;exact ai _,λb q=>q.elim,htk,by refine O hg ?_;intro g Wl;simp at Wl⟩ (.cons (.lst (λq=>q) ⟨_,by exact O hh ho⟩ (T6 hI)) .nil) hd ?_;intro v s' P r;cases r;exact hQ _ s' P rfl
theorem aFA (P:Pure aT s') (hg:aT.gens=#[])
  (hr:∀cls,c.raises args cls=Wv) (hp:c.post args (.bool Wu) args=Wu):GoodWG c cl mean' args aT (.ok (.ret (.bool Wu))) s':=
 (fH (.inl (fI _ _ ([]) rfl hr (ReadsW.bool Wu) hp (λ_=>⟨List.nodup_nil,λ_ hm=>(nomatch hm)⟩))) (OldK.of_keep λb o e=>P.step.keep b o (λq=>q) e) P.os (P.bare (by exact O hg pg.empty)))
end
end Mine.Internal
end
section
open PySem PySem.W PyProof.Rows PySem.W.X PySem.W.ZRun
namespace Mine.Internal.L1
theorem cm:(aQ.all λf=>decide (ě f.code<=15))=Wu:=by decide +kernel
theorem cdn:cR (dl.map (·.1))=Wu:=by decide +kernel
theorem gol:Ζ Pg X0:= by
 intro ē mb aT t fa a vs ns Q E hh T ZH TF hg htk Lf ho hI hn hQ;have hh:aT.heap=H0:=by unfold H0;exact hh
 have T:Top Vw Lw ē mG mb H0:=by unfold mG H0;exact T
 have ZH:KT.Holds H0 1 0 t:=by unfold H0;exact ZH
 have TF:Ā W0.params t Ŵ "EXACT_TOKEN_TYPES" dl:=by unfold W0;exact TF
 have Lf:mG "law"=J (.ref fa):=by unfold mG;exact Lf
 have ho:H0.get? a=J {cls:=.type "list",data:=.seq vs.toArray}:=by unfold H0;exact ho
 have c:=GD hh T ZH TF cdn (k:=18) (aQ:=aQ) (by decide +kernel) rfl (by decide) (by decide +kernel) (by decide +kernel) cm hg htk rfl Lf ho hI (math _ hn) (E:=E) hQ;unfold W0 at c;exact c
theorem aC8{p:Cv}{l:List Str}{ē:Es->Option aj}{mg mb:Str->Option aj}{h:ju}(e:(p,l)=(Vw,Lw)) (T:Top p l ē mg mb h):Top Vw Lw ē mg mb h:= by
 cases e;exact T
theorem aC9 (w:World) (h:ju) (mg:Str->Option aj):Ζ PySem.Challenge.rw_sw0065_01.row.prog ⟨w,h,mg⟩:= by
 have g:=UC gol ⟨w,h,mg⟩;unfold Pg at g;exact g
end Mine.Internal.L1
open Mine.Internal Mine.Internal.L1
namespace Mine.L1
set_option Elab.async true
namespace main
theorem tw10096954268983888943:1=1:=rfl
theorem tw10213910886339971858:1=1:=rfl
theorem tw10243421212659263183:1=1:=rfl
theorem tw10479889511258426527:1=1:=rfl
theorem tw10542145856221334818:1=1:=rfl
theorem tw11073781667781612067:1=1:=rfl
theorem tw11143770449611617057:1=1:=rfl
theorem tw11615947001996279535:1=1:=rfl
theorem tw12118451721067119604:1=1:=rfl
theorem tw12327243770242511081:1=1:=rfl
theorem tw12513170663701573343:1=1:=rfl
theorem tw12657821556120308827:1=1:=rfl
theorem tw12856261200778149274:1=1:=rfl
theorem tw13160130771893647068:1=1:=rfl
theorem tw13400376256228712485:1=1:=rfl
theorem tw13424502077727422715:1=1:=rfl
theorem tw13524023919636245633:1=1:=rfl
theorem tw13551590292879576243:1=1:=rfl
theorem tw13653405580011794184:1=1:=rfl
theorem tw13734856813477876098:1=1:=rfl
theorem tw1379985185513009029:1=1:=rfl
theorem tw13961049341859044487:1=1:=rfl
theorem tw14111758978331481785:1=1:=rfl
theorem tw14212396683731857342:1=1:=rfl
theorem tw14391293613163860168:1=1:=rfl
theorem tw14409734672182600520:1=1:=rfl
theorem tw14711756682206177057:1=1:=rfl
theorem tw14774706535607569514:1=1:=rfl
theorem tw15109533779316947731:1=1:=rfl
theorem tw15246217835225833796:1=1:=rfl
theorem tw15389018832893030070:1=1:=rfl
theorem tw15595728720519502770:1=1:=rfl
theorem tw15833236858980112805:1=1:=rfl
theorem tw16032201464060297855:1=1:=rfl
theorem tw16253258723083317751:1=1:=rfl
theorem tw16291664785585956201:1=1:=rfl
theorem tw16562942569709635018:1=1:=rfl
theorem tw16646370937321109684:1=1:=rfl
theorem tw16734643138301021599:1=1:=rfl
theorem tw16826881353418036382:1=1:=rfl
theorem tw16859786177460835143:1=1:=rfl
theorem tw17004837689581877571:1=1:=rfl
theorem tw17268510407328012781:1=1:=rfl
theorem tw17297822803770515065:1=1:=rfl
theorem tw17764549093137458407:1=1:=rfl
theorem tw17791358189381463968:1=1:=rfl
theorem tw17830764637543944589:1=1:=rfl
theorem tw1806228576581437002:1=1:=rfl
theorem tw18227021220693601911:1=1:=rfl
theorem tw189689613432283480:1=1:=rfl
theorem tw204639725180108967:1=1:=rfl
theorem tw2048469988233315687:1=1:=rfl
theorem tw217966683294794749:1=1:=rfl
theorem tw2188957849526693518:1=1:=rfl
theorem tw225837797334910210:1=1:=rfl
theorem tw2340566129752963749:1=1:=rfl
theorem tw235803908415060975:1=1:=rfl
theorem tw2417284695247424166:1=1:=rfl
theorem tw3177198007506870784:1=1:=rfl
theorem tw320911232401417046:1=1:=rfl
theorem tw3427821841080762020:1=1:=rfl
theorem tw3533223752620307816:1=1:=rfl
theorem tw3550001288776999006:1=1:=rfl
theorem tw4175765535034909591:1=1:=rfl
theorem tw4224096333535192715:1=1:=rfl
theorem tw4254139123276911850:1=1:=rfl
theorem tw4341045557005786972:1=1:=rfl
theorem tw4354076041454607998:1=1:=rfl
theorem tw4370886874879568041:1=1:=rfl
theorem tw4980809837963941548:1=1:=rfl
theorem tw5046291528950857186:1=1:=rfl
theorem tw5182984946594719366:1=1:=rfl
theorem tw5331744163978824724:1=1:=rfl
theorem tw5530779371542868443:1=1:=rfl
theorem tw5661146184045222758:1=1:=rfl
theorem tw6010704191065154142:1=1:=rfl
theorem tw6139637911646914564:1=1:=rfl
theorem tw6406110966109262791:1=1:=rfl
theorem tw6461990092981890834:1=1:=rfl
theorem tw6517019613522333087:1=1:=rfl
theorem tw6574295624297360425:1=1:=rfl
theorem tw7009295637109790490:1=1:=rfl
theorem tw7553121979898686178:1=1:=rfl
theorem tw762126983990894288:1=1:=rfl
theorem tw7976938978059019182:1=1:=rfl
theorem tw8149454946222969211:1=1:=rfl
theorem tw8279938818903311438:1=1:=rfl
theorem tw8334354626263149894:1=1:=rfl
theorem tw8428150757650108203:1=1:=rfl
theorem tw8463417990104530049:1=1:=rfl
theorem tw8809488891835750877:1=1:=rfl
theorem tw8815968834535472720:1=1:=rfl
theorem tw9032100808435661539:1=1:=rfl
theorem tw906527624349180451:1=1:=rfl
theorem tw9092663599476440040:1=1:=rfl
theorem tw9157764329285432047:1=1:=rfl
theorem tw9524801915493492218:1=1:=rfl
theorem tw9762427248880376385:1=1:=rfl
theorem tw9763597361922380439:1=1:=rfl
end main
set_option maxRecDepth 100000 in
set_option maxHeartbeats 0 in
set_option pp.deepTerms false in
set_option pp.maxSteps 1500 in
theorem main:PySem.Challenge.rw_sw0065_01.Holds:= by
 w_on;o_law;z_head;(case hw=>w_witness2)
 k_fill
 intro w AT aT mg mb G y fa o pm cd ĵ dV kV ho hd Sf hD Lf hg args vals as L Sz Ta Wm Wn Wo
 z_open y L KX ZH ZN ZT
 refine Ground.open G ?_;intro T B D TE TW
 wrow_args Sz Ta Wm Wn Wo
 obtain⟨Ws,Hw⟩:=script_at L;have htk:=script_toks L ZT
 rename ju.IsList _ _ _=>hL
 rename Cw _ _=>hI
 rename ¬_=>hc
 have Wp:=script_obj L hL;refine aC9 w aT.heap mg _ mb aT _ fa _ _ _ _ _ rfl (aC8 (by kernel_rfl) T) ZH ?_ hg (af (by decide) htk) Lf Wp hI (by omega) ?_
 ·refine⟨⟨_,_,rfl,rfl⟩,⟨_,_,_,rfl,rfl,by kernel_rfl,_,_,_,_,rfl,rfl,rfl,⟨rfl,rfl,rfl⟩,rfl,?_⟩⟩
  repeat (refine⟨⟨_,rfl⟩,rfl,⟨_,rfl⟩,?_⟩)
  trivial
 ·intro v s' P hv;subst hv;refine aFA P hg ?_ ?_
  ·intro cls;rfl
  ·kernel_rfl
end Mine.L1
end
end
theorem PySem.Challenge.cw_sw0065_01_holds : PySem.Challenge.rw_sw0065_01.Holds := by
 exact Mine.L1.main
