import PyProof.Rows.All
import Wide.All
import OpenK.AllK
import Wide.FinOn
import PySem.Challenge.RW_ji0031_01
open PySem PySem.W PySem.Calls PyProof.Rows
set_option Elab.async false
set_option maxRecDepth 100000
set_option maxHeartbeats 8000000
set_option linter.all false
set_option genInjectivity false
set_option genSizeOf false
set_option tactic.hygienic false
namespace Mine.Internal
open _root_.Nat renaming le_trans->ab,lt_of_le_of_lt->ag,le_add_right->ay,add_le_add_left->aC,lt_of_lt_of_le->aD,le_of_eq->aE,lt_trans->aF,le_of_lt->aG,ne_of_lt->aK,le_refl->aM,add_le_add_right->aO,ne_of_gt->aZ,succ_le_succ->bc,lt_succ_of_lt->bi,lt_succ_of_le->bo,zero_le->bt,lt_irrefl->bu,le_of_lt_succ->bz,lt_succ_self->bB,succ_pos->bE,mul_le_mul_left->bF,testBit_or->bG,le_add_left->bI,add_comm->bK,le_succ_of_le->bL,lt_add_of_pos_right->bM,testBit_and->bQ,le_succ->bU,add_assoc->bV,add_le_add->bW,zero_add->bX,add_right_comm->bY,lt_of_lt_of_eq->bZ,mul_le_mul_right->b7,add_lt_add_left->ch,le_of_not_lt->cr,mod_two_eq_zero_or_one->cE,le_antisymm->cJ,one_shiftLeft->cO,not_lt->cP,add_sub_cancel_left->cS,pos_of_ne_zero->cV,lt_of_le_of_ne->cX,le_add_left_of_le->c6,lt_of_succ_lt->c9,sub_le->db,lt_or_ge->di,succ_ne_zero->dj,zero_testBit->dl,succ->dp,add_sub_cancel->du,lt_of_succ_le->dA,lt_trichotomy->dB,sub_self->dE,lt_of_add_right_lt->dF,le_mul_of_pos_left->dG,le_of_succ_le_succ->dI,succ_lt_succ->dM,exists_eq_succ_of_ne_zero->dU,add_lt_add_right->dX,add_add_add_comm->dY,sub_one_lt_of_lt->dZ,div_add_mod->d5,add_left_cancel->d7,sub_lt_sub_left->d9,testBit_two_pow->eb,succ_mul->ed,mul_comm->eg,mul_succ->eq,add_lt_add_of_lt_of_le->eB,le_of_add_le_add_right->eF,exists_eq_add_of_le->eS,zero_lt_succ->eU,le_mul_of_pos_right->eW,min_self->eZ,eq_zero_of_not_pos->fg,le_of_sub_eq_zero->fq,lt_of_sub_eq_succ->ft,le_sub_one_of_lt->fw,pow_le_pow_right->fD,add_le_of_le_sub->fF,mul_assoc->fN,add_zero->fZ,succ_le_of_lt->f0,lt_of_sub_pos->f6,sub_pos_of_lt->f8,and_comm->gf,pow_succ->gl,succ_ne_self->gq,min_le_right->gw,mod_eq_of_lt->gA,sub_sub_self->gB,min_le_left->gH,not_lt_zero->gI,and_div_two->gK,testBit_xor->gL,sub_lt->gR,lt_one_iff->gT
open _root_.List renaming mem_cons_self->ac,mem_cons_of_mem->ad,mem_singleton->af,mem_append_left->ai,mem_append_right->aj,length_map->ak,forall_mem_cons->an,length_append->ar,getElem?_eq_some_iff->au,mem_cons->av,append_assoc->ax,getElem?_eq_getElem->az,mem_append->aA,getElem?_append_left->aH,getElem?_set_ne->aJ,getElem?_map->aN,mem_of_getElem?->aP,mem_map_of_mem->aQ,map_cons->aR,map_append->aS,nodup_append->aU,range->aX,prefix_refl->aY,mem_range->a6,getD_eq_getElem?_getD->a7,append_nil->ba,length_cons->bd,nodup_cons->be,getElem?_concat_length->bf,mem_map->bg,getElem?_append_right->bh,getElem?_set_self->bk,all_eq_true->bl,cons_ne_nil->bn,pairwise_singleton->bq,length_range->br,lookup_cons->bv,map_map->bA,mem_filter->bC,length_filter_le->bJ,pairwise_cons->bN,pairwise_append->bO,not_mem_nil->bR,map_congr_left->bS,mergeSort_perm->bT,mem_singleton_self->b9,mem_reverse->cb,nil_append->ci,mem_iff_getElem?->cj,getElem?_eq_none->cm,set_append_right->cn,pairwise_mergeSort->cu,flatMap_cons->cx,length_reverse->cz,length->cB,mem_flatMap->cD,append_ne_nil_of_right_ne_nil->cF,contains_iff_mem->cG,pairwise_iff_getElem->cH,length_set->cI,getElem?_inj->cK,nodup_nil->cR,length_pos_of_mem->cW,filter_eq_nil_iff->cZ,find?_cons->c0,dropLast_eq_take->c5,size_toArray->c7,pairwise_map->c8,mem_concat_self->de,perm_append_singleton->df,mem_iff_getElem->dg,zipWith->dh,filter_cons->dk,drop_eq_getElem_cons->dm,length_erase_of_mem->dq,of_mem_zip->ds,foldl_cons->dt,filter_cons_of_neg->dw,filter_cons_of_pos->dy,reverse_cons->dC,take_of_length_le->dD,mk_mem_zipIdx_iff_getElem?->dJ,pairwise_reverse->dK,take_append_drop->dL,length_take->dN,any_eq_true->dO,any_cons->dP,Pairwise->dQ,sum_cons->dS,eq_nil_of_length_eq_zero->dW,dropLast_concat_getLast->d4,reverse_append->d8,replicate->ev,lookup_append->ey,length_zipIdx->ez,map_mergeSort->eA,map->eC,find?_eq_none->eE,sublist_append_right->eG,any_eq_false->eI,filter_congr->eJ,all_cons->eK,getElem?_take_of_lt->eL,map_take->eN,Perm->eO,cons_append->eP,length_drop->eR,nodup_range->eX,range_succ_eq_map->e9,all_map->fb,Sublist->fc,reverse_singleton->fj,find?_some->fm,singleton_append->fu,set_getElem_self->fv,map_id->fx,length_dropLast->fy,mem_of_mem_drop->fB,mem_erase_of_ne->fE,zipIdx_map_fst->fI,zipIdxLE->fK,map_drop->fO,mem_filterMap->fQ,getElem?_drop->fR,prefix_append->fS,zip_cons_cons->fT,filter_append->fX,ext_getElem?->f9,take_add_one->gb,map_set->gc,ext_getElem->gm,noConfusion->gn,perm_middle->gv,map_snd_zip->gy,cons->gC,getElem_map->gD,lookup->gE,range'->gF,range_succ->gJ,take_left'->gN,drop_zero->gQ,any_map->gZ
open _root_.Option renaming some->aq,map_eq_some_iff->aV,isSome_iff_exists->a8,bind_eq_some_iff->b8,or_assoc->gG,map_some->gO,map->gS,none->g0
open _root_.Array renaming getElem?_toList->aB,length_toList->a5,size_setIfInBounds->a9,getElem?_eq_getElem->bH,toList_append->cy,toArray_toList->cM,toList_setIfInBounds->da,getElem?_eq_some_iff->dc,size_push->d3,toList_push->eH,back?_eq_getElem?->eQ,getElem?_eq_none->ff,forIn_toList->fW,size_append->fY,isEmpty->gV,toList->gY
open _root_.Bool renaming and_eq_true->aW,or_eq_true->bj,not_eq_true'->bx,false_eq_true->cq,noConfusion->cC,or_true->cN,not_eq_false'->cY,not_not->dH,true_or->eh,false_and->eu,or_assoc->eM,not_eq_true->eV,or_self->fi,and_false->fC,or_eq_false_iff->fH,and_true->fJ,false_or->fL,true_and->fM,false_ne_true->fU,eq_false_iff->gh,eq_iff_iff->gM,not_false->gU,not_true->gX
open _root_.Int renaming ofNat_lt->bD,natCast_nonneg->bP,toNat_natCast->cg,ofNat_sub->ct,fmod_nonneg_of_pos->cA,eq_ofNat_of_zero_le->cQ,le_trans->cT,not_lt->cU,fmod_lt_of_pos->dv,ofNat_le->dz,le_refl->dT,toNat_of_nonneg->d6,lt_trans->ef,ofNat->et,add_sub_cancel->ew,sub_add_cancel->eD,le_of_lt->eY,le_total->fe,le_of_eq->fh,le_antisymm->fk,lt_of_neg_lt_neg->fA,add_nonneg->fG,lt_of_le_of_lt->fP,lt_or_eq_of_le->fV,max_eq_right->gu,fdiv_nonneg->gP,ofNat_inj->gW
open _root_.Eq renaming symm->dR
open _root_.And renaming intro->gz
open PySem renaming wpAny_bind->g7,Value->g8,Shared->g9,Addr->hM,wpAny_pure->hO,wpAny_mono->hV,wpAny->hZ,Heap->ib,wpAny_standAt->ic,starEach->ie,Around->ig,NameKind->ij,wpAny_holding->ik,backTo->il,sizeLine_eq->im,sizeLine->io,foldedSetIterable->ip,keywordEach->iq,cellsFrom->ir,wpAny_loadName_local->iu,standAt->iw,spliced->ix,codeAny->iy,callEnvC->iz,seg_bind_wrap->iA,Expr->iB,Builtin->iC,mainGlobals->iD,execs->iE,eval->iF,FuncData->iG,recursionLimit->iH
open PyProof.Rows renaming wpS_bind->iI,SortSt->iJ,wpS_pure->iK
open PySem.W renaming emptyDict->iL
theorem ws:OpenLaw.wellSaid PySem.Challenge.rw_ji0031_01=true:=(congrFun PySem.W.Fast.te9446332074065402090 _).trans (by kernel_rfl)
instance O5:Decidable (OpenRow.wellSaid (OpenLaw.row PySem.Challenge.rw_ji0031_01)=true):=.isTrue (row_said ws)
open_top hd for OpenLaw.row PySem.Challenge.rw_ji0031_01
@[elab_as_elim] theorem R1.{u}{α:Sort u}{motive:α->Prop}{a b:α}(h:a=b)(m:motive b): motive a:=h▸m
@[elab_as_elim] theorem R2.{u}{α:Sort u}{motive:α->Prop}{a b:α}(h:b=a)(m:motive b): motive a:=h▸m
theorem no{α:Type}{b:α}{p:Prop}(h:(none:Option α)=some b): p:=nomatch h
theorem oY{α:Type}{c:Prop}[Decidable c]{a z:α}(h:(if c then some a else none)=some z): c/\a=z:=by
 by_cases hc:c
 .rw[if_pos hc] at h;exact⟨hc,aq.inj h⟩
 .rw[if_neg hc] at h;exact no h
inductive V where
 |none
 |bool (b:Bool)
 |int (i:Int)
 |bytes (b:List UInt8)
 |tup (vs:List V)
 |lst (vs:List V)
 |ref (n:Nat)
 |con (w:g8)
 |clo (k:Nat) (cs:List V)
 |fset (e:Bool)
 |work (n:Nat)
 |rng (a b c:Int)
 deriving Inhabited
inductive Slot where
 |unset
 |val (v:V)
 |o7 (v:V)
 deriving Inhabited
inductive AO where
 |list (vs:List V)
 |dict (kvs:List (List UInt8×V))
 |dead
 deriving Inhabited
structure AS where
 heap:List AO
 vars:List Slot
inductive Res(α:Type)where
 |ok (a:α) (σ:AS)
 |exc (σ:AS)
 |stuck
noncomputable abbrev P(α:Type):=AS->Res α
noncomputable def P.pure{α:Type}(a:α): P α:=fun σ=>.ok a σ
noncomputable def P.bind{α β:Type}(p:P α)(f:α->P β): P β:=fun σ=>match p σ with
 |.ok a σ'=>f a σ'
 |.exc σ'=>.exc σ'
 |.stuck=>.stuck
noncomputable def P.stuck{α:Type}: P α:=fun Y=>.stuck
noncomputable abbrev Gh:=hM->Option Obj
structure Cu where
 name:Str
 qual:Str
 params:Arguments
 body:List Stmt
 scope:Scope
 free:List Str
noncomputable def wS(x y:Str): Option Cu:=
 match PySem.Challenge.pw_ji0031_01.main.body.findSome? fun st=>match st with
  |.FunctionDef n _ b _ _ _ _ _ _ _=>if n == x then some b else none
  |_=>none with
 |some b=>b.findSome? fun st=>match st with
  |.FunctionDef n a b _ _ _ sc _ _ _=>if n == y then some ⟨n,x++ ".<locals>."++y,a,b,sc,(sc.names.filter (·.2 == .free)).map (·.1)⟩ else none
  |_=>none
 |none=>none
noncomputable def pj:Nat->Option Cu
 |0=>wS "_find_lcas" "_has_candidates"
 |1=>wS "law" "kin_of"
 |2=>wS "law" "time_of"
 |_=>none
noncomputable def Gh.Le(Φ jh:Gh): Prop:=∀b o,Φ b=some o->jh b=some o
inductive n9(Φ:Gh)(cd:g8)(q:Str): Prop
 |mk (c:hM) (oc:Obj) (fs:Array g8) (t:Tok) (h1:cd=.ref c) (h2:Φ c=some oc) (h3:oc.data=.fields fs) (h4:fs[1]?=some (.str q t))
theorem n9.mono{Φ jh:Gh}{cd:g8}{q:Str}(h:n9 Φ cd q)(x:Gh.Le Φ jh): n9 jh cd q:=
 let ⟨k,oc,fs,t,e1,e2,e3,e4⟩:=h;⟨k,oc,fs,t,e1,x _ _ e2,e3,e4⟩
mutual
inductive jf(Φ:Gh)(ρ:List hM): V->g8->Prop
 |none:jf Φ ρ .none .none
 |bool (b):jf Φ ρ (.bool b) (.bool b)
 |int (i t):jf Φ ρ (.int i) (.int i t)
 |bytes (b t):jf Φ ρ (.bytes b) (.bytes b.toArray t)
 |tup {vs a ws n}:Φ a=some {cls:=.type "tuple",data:=.seq ws n}->ws.size<=io->ja Φ ρ vs ws.toList->jf Φ ρ (.tup vs) (.ref a)
 |lst {vs a ws n}:Φ a=some {cls:=.type "list",data:=.seq ws n}->ws.size<=io->ja Φ ρ vs ws.toList->jf Φ ρ (.lst vs) (.ref a)
 |ref {n a}:ρ[n]?=some a->jf Φ ρ (.ref n) (.ref a)
 |con (w):jf Φ ρ (.con w) w
 |clo {k cs a o C cells doc pm cd ctv}:Φ a=some o->pj k=some C->o.data=.func (fnX C.name C.qual C.params C.body C.scope cells .none .none doc pm none cd ctv)->
   n9 Φ cd C.qual->cells.map (·.1)=C.free->nD Φ ρ cs (cells.map (·.2))->jf Φ ρ (.clo k cs) (.ref a)
 |fset {a o es n t}:Φ a=some o->o.ExactSet->o.data=.set es n t->t.fits es.size=true->(es.size:Int)<2 ^ 63->jf Φ ρ (.fset (es.size == 0)) (.ref a)
 |work {a d h tk n p}:Φ a=some (instObj 80 d)->Φ d=some (Obj.putName "pq" h (.str "pq" tk) (.ref p) iL)->ρ[n]?=some p->jf Φ ρ (.work n) (.ref a)
 |rng {a b c r t u v}:Φ r=some {cls:=.type "range",data:=.fields #[.int a t,.int b u,.int c v]}->jf Φ ρ (.rng a b c) (.ref r)
inductive ja(Φ:Gh)(ρ:List hM): List V->List g8->Prop
 |nil:ja Φ ρ [] []
 |cons {v vs w ws}:jf Φ ρ v w->ja Φ ρ vs ws->ja Φ ρ (v::vs) (w::ws)
inductive nD(Φ:Gh)(ρ:List hM): List V->List hM->Prop
 |nil:nD Φ ρ [] []
 |cons {v vs c cs o w}:Φ c=some o->o.data=.cell (some w)->jf Φ ρ v w->nD Φ ρ vs cs->nD Φ ρ (v::vs) (c::cs)
end
theorem Gh.Le.refl(Φ:Gh): Gh.Le Φ Φ:=fun Y Y e=>e
theorem Gh.Le.trans{a b c:Gh}(x:Gh.Le a b)(y:Gh.Le b c): Gh.Le a c:=fun Y Y e=>y _ _ (x _ _ e)
noncomputable def Ext(Φ:Gh)(ρ:List hM)(jh:Gh)(ρ':List hM): Prop:=Gh.Le Φ jh/\ρ <+: ρ'
theorem Ext.refl(Φ ρ): Ext Φ ρ Φ ρ:=⟨Gh.Le.refl _,aY _⟩
theorem Ext.trans{iQ iS kF iP iT jv}(x:Ext iQ iP iS iT)(y:Ext iS iT kF jv): Ext iQ iP kF jv:=⟨x.1.trans y.1,x.2.trans y.2⟩
theorem jX{α:Type}{l l':List α}(h:l <+: l'){n:Nat}{a:α}(e:l[n]?=some a): l'[n]?=some a:=by obtain⟨t,rfl⟩:=h;have:=(au.mp e).1;refine R1 (aH this) ?_;exact e
section
variable{Φ jh:Gh}{ρ ρ':List hM}
theorem jf.mono(x:Ext Φ ρ jh ρ'){v w}(h:jf Φ ρ v w): jf jh ρ' v w:=
 jf.rec (motive_1:=fun v w Y=>jf jh ρ' v w) (motive_2:=fun v w Y=>ja jh ρ' v w) (motive_3:=fun v w Y=>nD jh ρ' v w) .none .bool .int .bytes (fun a d Y e=>.tup (x.1 _ _ a) d e) (fun a d Y e=>.lst (x.1 _ _ a) d e) (fun a=>.ref (jX x.2 a)) .con
  (fun a b c d e Y f=>.clo (x.1 _ _ a) b c (d.mono x.1) e f) (fun a b c d e=>.fset (x.1 _ _ a) b c d e) (fun a e i=>.work (x.1 _ _ a) (x.1 _ _ e) (jX x.2 i)) (fun a=>.rng (x.1 _ _ a)) .nil (fun Y Y a b=>.cons a b) .nil (fun a b Y Y c d=>.cons (x.1 _ _ a) b c d) h
theorem ja.mono(x:Ext Φ ρ jh ρ'){v w}(h:ja Φ ρ v w): ja jh ρ' v w:=
 ja.rec (motive_1:=fun v w Y=>jf jh ρ' v w) (motive_2:=fun v w Y=>ja jh ρ' v w) (motive_3:=fun v w Y=>nD jh ρ' v w) .none .bool .int .bytes (fun a d Y e=>.tup (x.1 _ _ a) d e) (fun a d Y e=>.lst (x.1 _ _ a) d e) (fun a=>.ref (jX x.2 a)) .con
  (fun a b c d e Y f=>.clo (x.1 _ _ a) b c (d.mono x.1) e f) (fun a b c d e=>.fset (x.1 _ _ a) b c d e) (fun a e i=>.work (x.1 _ _ a) (x.1 _ _ e) (jX x.2 i)) (fun a=>.rng (x.1 _ _ a)) .nil (fun Y Y a b=>.cons a b) .nil (fun a b Y Y c d=>.cons (x.1 _ _ a) b c d) h
inductive SeqAt(Φ:Gh)(ρ:List hM)(T:String)(vs:List V)(w:g8): Prop
 |mk (a:hM) (ws:Array g8) (n:Nat) (h0:w=.ref a) (h1:Φ a=some {cls:=.type T,data:=.seq ws n}) (h2:ws.size<=io) (h3:ja Φ ρ vs ws.toList)
inductive LQ(Φ:Gh)(ρ:List hM)(k:Nat)(cs:List V)(w:g8): Prop
 |mk (a:hM) (o:Obj) (C:Cu) (cells:List (Str×hM)) (doc pm cd ctv:g8) (h0:w=.ref a) (h1:Φ a=some o) (h2:pj k=some C) (h3:o.data=.func (fnX C.name C.qual C.params C.body C.scope cells .none .none doc pm none cd ctv)) (h4:n9 Φ cd C.qual) (h5:cells.map (·.1)=C.free) (h6:nD Φ ρ cs (cells.map (·.2)))
inductive JT(Φ:Gh)(e:Bool)(w:g8): Prop
 |mk (a:hM) (o:Obj) (es:Array (Int×g8)) (n:Nat) (t:SetTable) (h0:w=.ref a) (h1:Φ a=some o) (h2:o.ExactSet) (h3:o.data=.set es n t) (h4:t.fits es.size=true) (h5:(es.size:Int)<2 ^ 63) (h6:e=(es.size == 0))
inductive JN(Φ:Gh)(ρ:List hM)(n:Nat)(w:g8): Prop
 |mk (a d:hM) (h:Int) (tk:Tok) (p:hM) (h0:w=.ref a) (h1:Φ a=some (instObj 80 d)) (h2:Φ d=some (Obj.putName "pq" h (.str "pq" tk) (.ref p) iL)) (h3:ρ[n]?=some p)
inductive LG(Φ:Gh)(a b c:Int)(w:g8): Prop
 |mk (r:hM) (t u v:Tok) (h0:w=.ref r) (h1:Φ r=some {cls:=.type "range",data:=.fields #[.int a t,.int b u,.int c v]})
noncomputable def NM(Φ:Gh)(ρ:List hM)(v:V)(w:g8): Prop:=match v with
 |.none=>w=.none
 |.bool b=>w=.bool b
 |.int i=>∃t,w=.int i t
 |.bytes b=>∃t,w=.bytes b.toArray t
 |.tup vs=>SeqAt Φ ρ "tuple" vs w
 |.lst vs=>SeqAt Φ ρ "list" vs w
 |.ref n=>∃a,w=.ref a/\ρ[n]?=some a
 |.con u=>w=u
 |.clo k cs=>LQ Φ ρ k cs w
 |.fset e=>JT Φ e w
 |.work n=>JN Φ ρ n w
 |.rng a b c=>LG Φ a b c w
theorem jf.kG{v w}(h:jf Φ ρ v w): NM Φ ρ v w:=
 jf.casesOn (motive_1:=fun v w Y=>NM Φ ρ v w) h rfl (fun Y=>rfl) (fun Y t=>⟨t,rfl⟩) (fun Y t=>⟨t,rfl⟩) (fun a b c=>⟨_,_,_,rfl,a,b,c⟩) (fun a b c=>⟨_,_,_,rfl,a,b,c⟩) (fun a=>⟨_,rfl,a⟩) (fun Y=>rfl) (fun a b c d e f=>⟨_,_,_,_,_,_,_,_,rfl,a,b,c,d,e,f⟩)
  (fun a b c d e=>⟨_,_,_,_,_,rfl,a,b,c,d,e,rfl⟩) (fun a b c=>⟨_,_,_,_,_,rfl,a,b,c⟩) (fun a=>⟨_,_,_,_,rfl,a⟩)
inductive JY(Φ:Gh)(ρ:List hM)(v:V)(vs:List V)(ws:List g8): Prop
 |mk (w:g8) (us:List g8) (h0:ws=w::us) (h1:jf Φ ρ v w) (h2:ja Φ ρ vs us)
noncomputable def LE(Φ:Gh)(ρ:List hM)(vs:List V)(ws:List g8): Prop:=match vs with
 |[]=>ws=[]
 |v::vs=>JY Φ ρ v vs ws
theorem ja.kG{vs ws}(h:ja Φ ρ vs ws): LE Φ ρ vs ws:=ja.casesOn (motive_2:=fun vs ws Y=>LE Φ ρ vs ws) h rfl fun a b=>⟨_,_,rfl,a,b⟩
end
structure Base where
 w:World
 h0:ib
 mg:Str->Option g8
 mb:Str->Option g8
 os:OsState
 g:h0.Ns iD mg
 b:h0.Ns builtinsNs mb
 nolimit:h0.NoLimit
 builtins:∀x:Str,x≠ "__name__"->mb x=bootBuiltins x
 bmain:∃bm ob,mg "__builtins__" = some (.ref bm)/\bm≠builtinsNs/\h0.get? bm=some ob/\ob.cls=.type "module"/\ob.dict=some builtinsNs/\ob.data=.plain
 K:(hd.heap_1 w.params).In h0
 codes:CodeHd h0 89 87/\CodeHd h0 179 177
 Kl:h0.get? 87=none/\h0.get? 177=none
inductive Loc where
 |loc
 |cell (c:hM)
 |ro (c:hM)
structure Ctx where
 env:Env
 slots:List (Str×Loc)
 kT:List (hM×(Str->Option g8))
 jO:Gh
 ms:Gh
 A:ig
noncomputable def Ctx.own(C:Ctx): List hM:=C.env.locals::C.kT.map (·.1)
noncomputable def cellsOf:List (Str×Loc)->List hM
 |[]=>[]
 |(_,.cell c)::r=>c::cellsOf r
 |_::r=>cellsOf r
noncomputable abbrev Ctx.mine(C:Ctx)(ρ:List hM): List hM:=C.own++cellsOf C.slots++ρ
noncomputable def uy(env:Env): Str×Loc->Prop
 |(x,.loc)=>env.kindOf x=some .local
 |(x,.cell c)=>env.kindOf x=some .cell/\env.cells.lookup x=some c
 |(x,.ro c)=>(env.kindOf x=some .cell\/env.kindOf x=some .free/\(x == ("__classdict__" : Str))=false)/\env.cells.lookup x=some c
structure Ctx.Ok(C:Ctx)(d:Nat): Prop where
 kind:C.env.scope.kind=.function
 link:∀(i:Nat) x l,C.slots[i]?=some (x,l)->uy C.env (x,l)
 names:(C.slots.map (·.1)).Nodup
 globals:C.env.globals=iD
 builtins:C.env.builtins=builtinsNs
 depth:C.A.depth+(d+1)*4<iH
 units:C.A.units+(d+1)*20+100<cLine
 frames:∃envs,C.A.frames=some envs/\∀e∈envs,e.scope.kind=.function/\∃L,e.frame=some L/\L∈C.own
 ms:Gh.Le C.ms C.jO
section
variable(B:Base)
inductive LJ(Φ:Gh)(ρ:List hM)(h:ib)(vs:List V)(a:hM): Prop
 |mk (ws:Array g8) (n:Nat) (h1:h.get? a=some {cls:=.type "list",data:=.seq ws n}) (h2:ws.size<=io) (h3:ja Φ ρ vs ws.toList)
inductive LK(Φ:Gh)(ρ:List hM)(h:ib)(kvs:List (List UInt8×V))(a:hM): Prop
 |mk (h0:(a == sysModules)=false) (kws:List (List UInt8×g8)) (h1:h.DictOf (bytesKind PySem.Challenge.pw_ji0031_01 B.w) a kws) (h2:kws.length<=io) (h3:kws.map (·.1)=kvs.map (·.1)) (h4:ja Φ ρ (kvs.map (·.2)) (kws.map (·.2)))
noncomputable def uX(Φ:Gh)(ρ:List hM)(h:ib)(o:AO)(a:hM): Prop:=match o with
 |.list vs=>LJ Φ ρ h vs a
 |.dict kvs=>LK B Φ ρ h kvs a
 |.dead=>∃o,h.get? a=some o
noncomputable def qF:Nat->Nat->Option Str
 |30,4=>some "_find_lcas.<locals>._has_candidates"
 |89,21=>some "_find_lcas.<locals>.<lambda>"
 |281,4=>some "law.<locals>.kin_of"
 |284,4=>some "law.<locals>.time_of"
 |_,_=>none
inductive TabAt(Φ:Gh)(h:ib)(P:hM): Prop
 |mk (ps:Array g8) (h1:h.get? P=some (tabObj ps)) (h2:TriplesOk ps.toList) (h3:∀(pos:Pos) (cv:g8) (q:Str),qF pos.line pos.col=some q->codeAmong pos ps.toList=some cv->n9 Φ cv q)
noncomputable def nF(Φ:Gh)(ρ:List hM)(jO:Gh)(h:ib)(c:hM)(o:Option Slot): Prop:=match o with
 |some (.o7 v)=>∃o w,Φ c=some o/\o.data=.cell (some w)/\jf Φ ρ v w
 |some (.val v)=>Φ c=none/\jO c=none/\∃w,h.IsCell c (some w)/\jf Φ ρ v w
 |_=>Φ c=none/\jO c=none/\∃w,h.IsCell c w
structure Rel(C:Ctx)(Φ:Gh)(ρ:List hM)(σ:AS)(s:g9): Prop where
 base:∀b o,B.h0.get? b=some o->Φ b=some o
 keep:∀b o,Φ b=some o->s.heap.get? b=some o
 jO:∀b o,C.jO b=some o->s.heap.get? b=some o
 ns:∃m,s.heap.Ns C.env.locals m/\∀(i:Nat) x v,C.slots[i]?=some (x,.loc)->σ.vars[i]?=some (.val v)->∃w,m x=some w/\jf Φ ρ v w
 cells:∀(i:Nat) x c,C.slots[i]?=some (x,.cell c)->nF Φ ρ C.jO s.heap c σ.vars[i]?
 uN:∀(i:Nat) x c v,C.slots[i]?=some (x,.ro c)->σ.vars[i]?=some (.val v)->∃w,s.heap.IsCell c (some w)/\jf Φ ρ v w
 nG:∀(i:Nat) x c,C.slots[i]?=some (x,.ro c)->(C.ms c).isSome\/(Φ c).isSome
 kT:∀p∈C.kT,s.heap.Ns p.1 p.2
 len:ρ.length=σ.heap.length
 objs:∀(i:Nat) o a,σ.heap[i]?=some o->ρ[i]?=some a->uX B Φ ρ s.heap o a
 own:∀a∈C.own,Φ a=none/\C.jO a=none
 live:∀(i:Nat) a,ρ[i]?=some a->σ.heap[i]?≠some .dead->Φ a=none/\C.jO a=none
 nodup:(C.mine ρ).Nodup
 vars:σ.vars.length=C.slots.length
 tabs:∀P∈([87,177]:List hM),TabAt Φ s.heap P/\Φ P=none/\C.jO P=none/\P∉C.mine ρ
 gens:AllBare s.gens
 os:s.os=B.os
 le:Gh.Le C.ms C.jO
structure Step(ψ:Gh)(s:g9)(Φ:Gh)(ρ:List hM)(s':g9)(jh:Gh)(ρ':List hM): Prop where
 ext:Ext Φ ρ jh ρ'
 gens:∀(g:Nat) gs,s.gens[g]?=some gs->s'.gens[g]?=some gs
 phi:∀b o,jh b=some o->Φ b=some o\/ψ b=none
 Hq:∀a∈ρ',a∈ρ\/ψ a=none
theorem kO{h h':ib}{c:hM}{v:Option g8}(x:h.IsCell c v)(k:∀o,h.get? c=some o->h'.get? c=some o): h'.IsCell c v:=
 let ⟨o,e,r⟩:=x;⟨o,k _ e,r⟩
theorem nF.mono{Φ jh jO IL:Gh}{ρ ρ':List hM}{h h':ib}{c:hM}{o:Option Slot}(x:nF Φ ρ jO h c o)(e:Ext Φ ρ jh ρ')
  (k:Φ c=none->jO c=none->(∃o,h.get? c=some o)->jh c=none/\IL c=none/\∀o,h.get? c=some o->h'.get? c=some o):nF jh ρ' IL h' c o:=by
 have u:(Φ c=none/\jO c=none/\∃w,h.IsCell c w)->jh c=none/\IL c=none/\∃w,h'.IsCell c w:=fun⟨e1,e2,w,e3⟩=>
  let ⟨k1,k2,k3⟩:=k e1 e2 (let ⟨o,q,_⟩:=e3;⟨o,q⟩);⟨k1,k2,w,kO e3 k3⟩
 cases o with
 |none=>exact u x
 |some y=>cases y with
  |unset=>exact u x
  |val v=>
   obtain⟨e1,e2,w,e3,e4⟩:=x;obtain⟨k1,k2,k3⟩:=k e1 e2 (let ⟨o,q,_⟩:=e3;⟨o,q⟩);exact⟨k1,k2,w,kO e3 k3,e4.mono e⟩
  |o7 v=>obtain⟨o,w,e1,e2,e3⟩:=x;exact⟨o,w,e.1 _ _ e1,e2,e3.mono e⟩
theorem nF.there{Φ jO:Gh}{ρ:List hM}{h:ib}{c:hM}{o:Option Slot}(x:nF Φ ρ jO h c o)(k:∀o,Φ c=some o->h.get? c=some o): ∃o,h.get? c=some o:=by
 have u:(Φ c=none/\jO c=none/\∃w,h.IsCell c w)->∃o,h.get? c=some o:=fun⟨_,_,_,o,e,_⟩=>⟨o,e⟩;cases o with
 |none=>exact u x
 |some y=>cases y with
  |unset=>exact u x
  |val v=>obtain⟨_,_,_,⟨o,e,_⟩,_⟩:=x;exact⟨o,e⟩
  |o7 v=>obtain⟨o,w,e1,_⟩:=x;exact⟨o,k _ e1⟩
theorem none_le{Φ jh:Gh}(h:Gh.Le Φ jh){a:hM}(e:jh a=none): Φ a=none:=by
 cases q:Φ a with
 |none=>rfl
 |some o=>exact no (e.symm.trans (h _ _ q))
theorem none_of{α β:Type}{f:α->Option β}{g:α->Option β}{a:α}(h:∀o,f a=some o->g a=some o)(e:g a=none): f a=none:=by
 cases q:f a with
 |none=>rfl
 |some o=>exact no (e.symm.trans (h _ q))
theorem TabAt.mono{Φ jh:Gh}{h h':ib}{P:hM}(x:TabAt Φ h P)(le:Gh.Le Φ jh)(k:∀o,h.get? P=some o->h'.get? P=some o): TabAt jh h' P:=
 let ⟨ps,t1,t2,t3⟩:=x;⟨ps,k _ t1,t2,fun pos cv q c1 c2=>(t3 pos cv q c1 c2).mono le⟩
theorem TabAt.there{Φ:Gh}{h:ib}{P:hM}(x:TabAt Φ h P): ∃o,h.get? P=some o:=let ⟨_,t,_,_⟩:=x;⟨_,t⟩
theorem Step.refl(ψ s Φ ρ): Step ψ s Φ ρ s Φ ρ:=⟨.refl _ _,fun Y Y e=>e,fun Y Y e=>.inl e,fun Y h=>.inl h⟩
theorem Step.trans{ψ s Φ ρ s' jh ρ' s'' Ke Kb}(x:Step ψ s Φ ρ s' jh ρ')(y:Step ψ s' jh ρ' s'' Ke Kb): Step ψ s Φ ρ s'' Ke Kb:=
 ⟨x.ext.trans y.ext,fun Y Y e=>y.gens _ _ (x.gens _ _ e),fun b o e=>(y.phi b o e).elim (x.phi b o) .inr,
  fun a h=>(y.Hq a h).elim (x.Hq a) .inr⟩
theorem Step.same{ψ s s' Φ ρ}(hg:s'.gens=s.gens): Step ψ s Φ ρ s' Φ ρ:=
 ⟨.refl _ _,fun Y Y e=>by refine R1 hg ?_;exact e,fun Y Y e=>.inl e,fun Y h=>.inl h⟩
theorem Step.jO{ψ jw s Φ ρ s' jh ρ'}(x:Step jw s Φ ρ s' jh ρ')(le:Gh.Le ψ jw): Step ψ s Φ ρ s' jh ρ':=
 ⟨x.ext,x.gens,fun b o e=>(x.phi b o e).imp id (none_le le),fun a h=>(x.Hq a h).imp id (none_le le)⟩
noncomputable def EZ(C:Ctx)(Φ:Gh)(ρ:List hM)(b:hM): Prop:=Φ b=none/\C.jO b=none/\b∉C.mine ρ/\b∉([87,177]:List hM)
inductive Cr(g:Gh)(e T:hM): Prop
 |mk (oe:Obj) (vs:Array g8) (oT:Obj) (ts:Array g8) (he:g e=some oe) (hcls:oe.cls=.type "KeyError") (hd:oe.data=.fields vs) (hsz:3<=vs.size) (h2:vs[2]?=some .none) (h1:vs[1]?=some (.ref T)) (ne:T≠e) (hT:g T=some oT) (hdT:oT.data=.fields ts) (yu:4<=ts.size)
inductive JZ(g:Gh)(e:hM): Prop
 |mk (oe:Obj) (vs:Array g8) (he:g e=some oe) (hcls:oe.cls=.type "KeyError") (hd:oe.data=.fields vs) (hsz:3<=vs.size) (h2:vs[2]?=some .none) (h1:vs[1]?=some .none)
theorem Cr.mono{g g':Gh}{e T:hM}(x:Cr g e T)(k:∀b o,b=e\/b=T->g b=some o->g' b=some o): Cr g' e T:=by obtain⟨oe,vs,oT,ts,he,hcls,hd,hsz,h2,h1,ne,hT,hdT,yu⟩:=x;exact⟨oe,vs,oT,ts,k _ _ (.inl rfl) he,hcls,hd,hsz,h2,h1,ne,k _ _ (.inr rfl) hT,hdT,yu⟩
structure ExcAt(C:Ctx)(Φ:Gh)(ρ:List hM)(e:hM)(s:g9): Prop where
 off:EZ C Φ ρ e
 at':JZ s.heap.get? e\/∃T,EZ C Φ ρ T/\Cr s.heap.get? e T
noncomputable abbrev M:Model:=model PySem.Challenge.pw_ji0031_01 B.w
variable{α β γ δ:Type}
inductive Post(C:Ctx)(Φ:Gh)(ρ:List hM)(s:g9)(RR:Gh->List hM->β->α->Prop)(σ':AS)(b:β)(x:α)(s':g9): Prop
 |mk (jh:Gh) (ρ':List hM) (h1:Step C.jO s Φ ρ s' jh ρ') (h2:Rel B C jh ρ' σ' s') (h3:RR jh ρ' b x)
noncomputable def Ctx.exc(C:Ctx): Ctx:={C with jO:=C.ms}
inductive EPost(C:Ctx)(Φ:Gh)(ρ:List hM)(s:g9)(σ':AS)(e:g8)(s':g9): Prop
 |mk (jh:Gh) (ρ':List hM) (a:hM) (h0:e=.ref a) (h1:Step C.ms s Φ ρ s' jh ρ') (h2:Rel B C.exc jh ρ' σ' s') (h3:ExcAt C.exc jh ρ' a s')
noncomputable def kZ(C:Ctx)(Φ:Gh)(ρ:List hM)(Pk:g9)(RR:Gh->List hM->β->α->Prop)(t:Sem α)(s:g9): Res β->Prop
 |.ok b σ'=>hZ (M B) C.A t (Post B C Φ ρ Pk RR σ' b) (fun Y Y=>False) s
 |.exc σ'=>hZ (M B) C.A t (fun Y Y=>False) (EPost B C Φ ρ Pk σ') s
 |.stuck=>True
noncomputable def jm(C:Ctx)(iQ:Gh)(iP:List hM)(RR:Gh->List hM->β->α->Prop)(t:Sem α)(p:P β): Prop:=
 ∀Φ ρ σ s,Ext iQ iP Φ ρ->Rel B C Φ ρ σ s->kZ B C Φ ρ s RR t s (p σ)
variable{B}
variable{C:Ctx}{iQ:Gh}{iP:List hM}{RR:Gh->List hM->β->α->Prop}{SS:Gh->List hM->δ->γ->Prop}
theorem Post.trans{Φ ρ s jh ρ' s' σ'}{b:β}{x:α}{s''}(e:Step C.jO s Φ ρ s' jh ρ')(h:Post B C jh ρ' s' RR σ' b x s''): Post B C Φ ρ s RR σ' b x s'':=by obtain⟨iS,iT,h1,h2,h3⟩:=h;exact⟨iS,iT,e.trans h1,h2,h3⟩
theorem EPost.trans{Φ ρ s jh ρ' s' σ'}{x:g8}{s''}(e:Step C.ms s Φ ρ s' jh ρ')(h:EPost B C jh ρ' s' σ' x s''): EPost B C Φ ρ s σ' x s'':=by obtain⟨iS,iT,a,h0,h1,h2,h3⟩:=h;exact⟨iS,iT,a,h0,e.trans h1,h2,h3⟩
theorem kZ.trans{Φ ρ s jh ρ' s' s''}{t:Sem α}{r:Res β}(e:Step C.jO s Φ ρ s' jh ρ')(e':Step C.ms s Φ ρ s' jh ρ')(h:kZ B C jh ρ' s' RR t s'' r): kZ B C Φ ρ s RR t s'' r:=by
 cases r with
 |ok b σ'=>exact hV h (fun Y Y q=>Post.trans e q) fun Y Y q=>q
 |exc σ'=>exact hV h (fun Y Y q=>q) fun Y Y q=>EPost.trans e' q
 |stuck=>trivial
theorem jm.weaken{iS iT}{t:Sem α}{p:P β}(h:jm B C iQ iP RR t p)(x:Ext iQ iP iS iT): jm B C iS iT RR t p:=
 fun Φ ρ σ s e r=>h Φ ρ σ s (x.trans e) r
theorem jK{a:α}{b:β}(h:∀Φ ρ,Ext iQ iP Φ ρ->RR Φ ρ b a): jm B C iQ iP RR (pure a) (P.pure b):=
 fun Φ ρ Y s x r=>hO ⟨Φ,ρ,.refl _ _ _ _,r,h Φ ρ x⟩
theorem jr{t:Sem α}: jm B C iQ iP RR t (P.stuck:P β):=fun Y Y Y Y Y Y=>trivial
theorem jn{t:Sem α}{f:α->Sem γ}{p:P β}{g:β->P δ}(h:jm B C iQ iP RR t p)
  (k:∀iS iT b a,Ext iQ iP iS iT->RR iS iT b a->jm B C iS iT SS (f a) (g b)):jm B C iQ iP SS (t >>= f) (P.bind p g):=by
 intro Φ ρ σ s x r;have h1:=h Φ ρ σ s x r;unfold P.bind;generalize p σ=R at h1 ⊢;cases R with
 |stuck=>trivial
 |exc σ'=>
  exact g7 (hV h1 (fun Y Y q=>q.elim) fun Y Y q=>q)
 |ok b σ'=>
  have key:∀a s',Post B C Φ ρ s RR σ' b a s'->kZ B C Φ ρ s SS (f a) s' (g b σ'):=
   fun a s' q=>by obtain⟨jh,ρ',q1,q2,q4⟩:=q;exact kZ.trans q1 (q1.jO q2.le) (k jh ρ' b a (x.trans q1.ext) q4 jh ρ' σ' s' (.refl _ _) q2)
  dsimp only;cases hg:g b σ' with
  |stuck=>trivial
  |ok b' oj=>
   simp only[hg] at key;exact g7 (hV h1 (fun a s' q=>key a s' q) fun Y Y q=>q.elim)
  |exc oj=>
   simp only[hg] at key;exact g7 (hV h1 (fun a s' q=>key a s' q) fun Y Y q=>q.elim)
theorem nV{t t':Sem α}{p:P β}(h:jm B C iQ iP RR t p)
  (k:∀(Q:α->g9->Prop) (E:g8->g9->Prop) s,hZ (M B) C.A t Q E s->hZ (M B) C.A t' Q E s):jm B C iQ iP RR t' p:=by
 intro Φ ρ σ s x r;have h1:=h Φ ρ σ s x r;cases hp:p σ with
 |stuck=>trivial
 |ok b σ'=>rw[hp] at h1;exact k _ _ _ h1
 |exc σ'=>rw[hp] at h1;exact k _ _ _ h1
theorem jB{vs:List g8}{t:Sem α}{p:P β}(h:jm B C iQ iP RR t p): jm B C iQ iP RR (holding vs t) p:=nV h fun Y Y Y=>ik
theorem kJ{pos:Pos}{t:Sem α}{p:P β}(h:jm B C iQ iP RR t p): jm B C iQ iP RR (do iw pos;t) p:=
 nV h fun Y Y Y q=>g7 (ic q)
theorem si{vs:List g8}{t:Sem g8}{p:P β}{RR:Gh->List hM->β->g8->Prop}(h:jm B C iQ iP RR t p): jm B C iQ iP RR (operate vs t) p:=by refine nV h fun Q E s q=>?_;intro Γ p hΓ;refine R1 (Sem.wp_operate ..) ?_;exact q Γ p hΓ
end
section
variable{B:Base}{C:Ctx}{Φ jh iQ:Gh}{ρ iP:List hM}{σ:AS}{s s':g9}
noncomputable abbrev Grows(h h':ib): Prop:=∀b o,h.get? b=some o->h'.get? b=some o
theorem lX{c:hM}: ∀{l:List (Str×Loc)},c∈cellsOf l->∃(i:Nat) (x:Str),l[i]?=some (x,.cell c)
 |(x,.cell c')::r,h=>(av.mp h).elim (fun e=>⟨0,x,by exact R1 e rfl⟩) fun h=>let ⟨i,y,e⟩:=lX h;⟨i+1,y,e⟩
 |(_,.loc)::r,h=>let ⟨i,y,e⟩:=lX (l:=r) h;⟨i+1,y,e⟩
 |(_,.ro _)::r,h=>let ⟨i,y,e⟩:=lX (l:=r) h;⟨i+1,y,e⟩
theorem jE{c:hM}{x:Str}: ∀{l:List (Str×Loc)} {i:Nat},l[i]?=some (x,.cell c)->c∈cellsOf l
 |_::r,0,h=>by refine R1 (aq.inj h) ?_;exact ac
 |(_,.cell _)::r,i+1,h=>ad _ (jE (i:=i) h)
 |(_,.loc)::r,i+1,h=>jE (l:=r) (i:=i) h
 |(_,.ro _)::r,i+1,h=>jE (l:=r) (i:=i) h
theorem Rel.there(r:Rel B C Φ ρ σ s){a:hM}(h:a∈C.mine ρ): ∃o,s.heap.get? a=some o:=by
 rcases aA.mp h with h | h
 .rcases aA.mp h with h | h
  .rcases av.mp h with rfl | h
   .obtain⟨m,⟨o,_,_,e,_⟩,_⟩:=r.ns;exact⟨o,e⟩
   .obtain⟨p,hp,rfl⟩:=bg.mp h;obtain⟨o,_,_,e,_⟩:=r.kT p hp;exact⟨o,e⟩
  .obtain⟨i,x,e⟩:=lX h;exact(r.cells i x a e).there (r.keep a)
 .obtain⟨i,hi⟩:=cj.mp h;have hl:i<σ.heap.length:=r.len▸(au.mp hi).1;have:=r.objs i _ a (az hl) hi;generalize σ.heap[i]=o at this;cases o with
  |list vs=>obtain⟨_,_,e,_⟩:=this;exact⟨_,e⟩
  |dict kvs=>obtain⟨_,_,⟨o,_,_,e,_⟩,_⟩:=this;exact⟨o,e⟩
  |dead=>exact this
theorem Cn{h h':ib}{K:Type}[DecidableEq K]{prog w}{knd:PySem.KeyKind prog w K}{a:hM}{kvs:List (K×g8)}(x:h.DictOf knd a kvs)(k:∀o,h.get? a=some o->h'.get? a=some o): h'.DictOf knd a kvs:=
 let ⟨o,es,ep,e,r⟩:=x;⟨o,es,ep,k _ e,r⟩
theorem uX.mono{ρ':List hM}{h h':ib}{o:AO}{a:hM}(x:uX B Φ ρ h o a)(e:Ext Φ ρ jh ρ')(k:∀o,h.get? a=some o->h'.get? a=some o): uX B jh ρ' h' o a:=by
 cases o with
 |list vs=>obtain⟨ws,n,h1,h2,h3⟩:=x;exact⟨ws,n,k _ h1,h2,h3.mono e⟩
 |dict kvs=>obtain⟨h0,kws,h1,h2,h3,h4⟩:=x;exact⟨h0,kws,Cn h1 k,h2,h3,h4.mono e⟩
 |dead=>obtain⟨o,h⟩:=x;exact⟨o,k _ h⟩
noncomputable def Off(C:Ctx)(Φ:Gh)(ρ:List hM)(fp:List hM): Prop:=∀b∈fp,Φ b=none/\C.jO b=none/\b∉C.mine ρ/\b∉([87,177]:List hM)
theorem qY{Φ jh:Gh}(h:Gh.Le Φ jh){a:hM}(e:(Φ a).isSome): (jh a).isSome:=
 let ⟨o,ho⟩:=a8.mp e;h _ _ ho▸rfl
theorem Rel.x6(r:Rel B C Φ ρ σ s){i:Nat}{x:Str}{c:hM}(h:C.slots[i]?=some (x,.ro c)): (C.jO c).isSome\/(Φ c).isSome:=(r.nG i x c h).imp (qY r.le) id
theorem lG{α:Type}{o:Option α}{p:Prop}(e:o=none)(h:o.isSome): p:=by rw[e] at h;cases h
theorem yc{h h':ib}{a:hM}{m:Str->Option g8}(hn:h.Ns a m)(k:∀o,h.get? a=some o->∃sl,h'.get? a=some {o with slots:=sl}): h'.Ns a m:=by obtain⟨o,es,ep,e1,e2,e3⟩:=hn;obtain⟨sl,q⟩:=k o e1;exact⟨_,es,ep,q,e2,e3⟩
theorem Rel.D1(r:Rel B C Φ ρ σ s){fp:List hM}(off':Off C Φ ρ fp)(hk:∀b o,b∉fp->b∉C.own->s.heap.get? b=some o->s'.heap.get? b=some o)
  (hown:∀b o,b∈C.own->s.heap.get? b=some o->∃sl,s'.heap.get? b=some {o with slots:=sl}) (h1:Gh.Le Φ jh) (h2:∀b o,jh b=some o->s'.heap.get? b=some o)
  (h3:∀b o,jh b=some o->Φ b=some o\/s.heap.get? b=none) (hg:AllBare s'.gens) (ho:s'.os=s.os):Rel B C jh ρ σ s':=by
 have e:Ext Φ ρ jh ρ:=⟨h1,aY _⟩
 have off:∀a,Φ a=none->(∃o,s.heap.get? a=some o)->jh a=none:=fun a ha ⟨o,ho⟩=>by
  cases hq:jh a with
  |none=>rfl
  |some o'=>exact(h3 a o' hq).elim (fun h=>no (ha.symm.trans h)) fun h=>no (h.symm.trans ho)
 have ne:∀a,a∈C.mine ρ->a∉fp:=fun a ha hm=>(off' a hm).2.2.1 ha;have Mq:=r.nodup;unfold Ctx.mine at Mq;rw[ax] at Mq;obtain⟨-,-,Nr⟩:=aU.mp Mq;have Oo:∀c,c∈cellsOf C.slots->c∉C.own:=fun c hc hm=>Nr c hm c (ai _ hc) rfl;have nor:∀c,c∈ρ->c∉C.own:=fun c hc hm=>Nr c hm c (aj _ hc) rfl
 refine⟨fun b o q=>h1 _ _ (r.base b o q),h2,fun b o q=>hk _ _ (fun hm=>no ((off' b hm).2.1.symm.trans q)) (fun hm=>no ((r.own b hm).2.symm.trans q)) (r.jO b o q),?_,?_,?_,fun i x c q1=>(r.nG i x c q1).imp id (qY h1),fun p hp=>yc (r.kT p hp) fun o q=>hown _ o (ad _ (aQ hp)) q,r.len,
  fun i o a q1 q2=>(r.objs i o a q1 q2).mono e fun Y=>hk _ _ (ne a (aj _ (aP q2))) (nor a (aP q2)),
  fun a ha=>⟨off a (r.own a ha).1 (r.there (ai _ (ai _ ha))),(r.own a ha).2⟩,fun i a q1 q2=>⟨off a (r.live i a q1 q2).1 (r.there (aj _ (aP q1))),(r.live i a q1 q2).2⟩,r.nodup,r.vars,?_,hg,ho.trans r.os,r.le⟩
 .obtain⟨m,hn,hv⟩:=r.ns;exact⟨m,yc hn fun o q=>hown _ o ac q,fun i x v q1 q2=>let ⟨w,e1,e2⟩:=hv i x v q1 q2;⟨w,e1,e2.mono e⟩⟩
 .intro i x c q;have mem:c∈C.mine ρ:=ai _ (aj _ (jE q));exact(r.cells i x c q).mono e fun e1 e2 he=>⟨off c e1 he,e2,fun Y=>hk _ _ (ne c mem) (Oo c (jE q))⟩
 .intro i x c v q1 q2;obtain⟨w,e1,e2⟩:=r.uN i x c v q1 q2;have h:=r.x6 q1;exact⟨w,kO e1 fun Y=>hk _ _ (fun hm=>h.elim (lG (off' c hm).2.1) (lG (off' c hm).1)) fun hm=>h.elim (lG (r.own c hm).2) (lG (r.own c hm).1),e2.mono e⟩
 .intro P hP;obtain⟨t1,t4,t5,t6⟩:=r.tabs P hP;exact⟨t1.mono h1 fun Y=>hk _ _ (fun hm=>(off' P hm).2.2.2 hP) fun hm=>t6 (ai _ (ai _ hm)),off P t4 t1.there,t5,t6⟩
theorem Rel.pK(r:Rel B C Φ ρ σ s){fp:List hM}(off':Off C Φ ρ fp)(hk:∀b o,b∉fp->s.heap.get? b=some o->s'.heap.get? b=some o)(h1:Gh.Le Φ jh)(h2:∀b o,jh b=some o->s'.heap.get? b=some o)
  (h3:∀b o,jh b=some o->Φ b=some o\/s.heap.get? b=none) (hg:AllBare s'.gens) (ho:s'.os=s.os):Rel B C jh ρ σ s':=
 r.D1 off' (fun b o h Y=>hk b o h) (fun b o h e=>⟨o.slots,hk b o (fun hm=>(off' b hm).2.2.1 (ai _ (ai _ h))) e⟩) h1 h2 h3 hg ho
theorem AK:Off C Φ ρ []:=fun Y h=>nomatch h
theorem Rel.o7(r:Rel B C Φ ρ σ s)(hk:Grows s.heap s'.heap)(h1:Gh.Le Φ jh)(h2:∀b o,jh b=some o->s'.heap.get? b=some o)
  (h3:∀b o,jh b=some o->Φ b=some o\/s.heap.get? b=none) (hg:AllBare s'.gens) (ho:s'.os=s.os):Rel B C jh ρ σ s':=
 r.pK AK (fun b o Y=>hk b o) h1 h2 h3 hg ho
theorem Rel.grow(r:Rel B C Φ ρ σ s)(hk:Grows s.heap s'.heap)(hg:AllBare s'.gens)(ho:s'.os=s.os): Rel B C Φ ρ σ s':=
 r.o7 hk (.refl _) (fun b o e=>hk _ _ (r.keep b o e)) (fun b o e=>.inl e) hg ho
theorem Rel.toks(r:Rel B C Φ ρ σ s)(tk:Nat): Rel B C Φ ρ σ {s with toks:=tk}:=r.grow (fun Y Y e=>e) r.gens rfl
theorem Rel.xO(r:Rel B C Φ ρ σ s): Rel B C.exc Φ ρ σ s:=
 have no:∀{b},C.jO b=none->C.ms b=none:=none_le r.le
 ⟨r.base,r.keep,fun b o q=>r.jO b o (r.le b o q),r.ns,fun i x c q=>(r.cells i x c q).mono (.refl _ _) fun e1 e2 Y=>⟨e1,no e2,fun Y h=>h⟩,r.uN,r.nG,r.kT,r.len,r.objs,fun a ha=>⟨(r.own a ha).1,no (r.own a ha).2⟩,fun i a q1 q2=>⟨(r.live i a q1 q2).1,no (r.live i a q1 q2).2⟩,r.nodup,r.vars,
  fun P hP=>let ⟨t1,t2,t3,t4⟩:=r.tabs P hP;⟨t1,t2,no t3,t4⟩,r.gens,r.os,.refl _⟩
noncomputable def Gh.set(Φ:Gh)(a:hM)(o:Obj): Gh:=fun b=>if b=a then some o else Φ b
theorem Gh.jQ(Φ:Gh)(a o): Gh.set Φ a o a=some o:=if_pos rfl
theorem Gh.mj{Φ:Gh}{a:hM}{o:Obj}(h:Φ a=none): Gh.Le Φ (Gh.set Φ a o):=fun b o' e=>(if_neg fun q=>no ((q▸h).symm.trans e)).trans e
theorem Gh.oX{Φ:Gh}{a b:hM}{o o':Obj}(e:Gh.set Φ a o b=some o'): (b=a/\o=o')\/Φ b=some o':=by
 unfold Gh.set at e;by_cases q:b=a
 .rw[if_pos q] at e;exact .inl ⟨q,aq.inj e⟩
 .rw[if_neg q] at e;exact .inr e
theorem Rel.none_of(r:Rel B C Φ ρ σ s){a:hM}(h:s.heap.get? a=none): Φ a=none:=Mine.Internal.none_of (r.keep a) h
theorem Step.o7{ψ:Gh}(hg:s'.gens=s.gens)(h1:Gh.Le Φ jh)(h3:∀b o,jh b=some o->Φ b=some o\/ψ b=none): Step ψ s Φ ρ s' jh ρ:=
 ⟨⟨h1,aY _⟩,fun Y Y e=>by refine R1 hg ?_;exact e,fun b o e=>(h3 b o e).imp id id,fun Y h=>.inl h⟩
theorem Rel.mH(r:Rel B C Φ ρ σ s){a:hM}(h:s.heap.get? a=none): C.jO a=none:=Mine.Internal.none_of (r.jO a) h
theorem Rel.sR(r:Rel B C Φ ρ σ s){a:hM}{o:Obj}(hk:Grows s.heap s'.heap)(new:s.heap.get? a=none)(there:s'.heap.get? a=some o)(hg:AllBare s'.gens)(ho:s'.os=s.os):
  Rel B C (Gh.set Φ a o) ρ σ s'/\Ext Φ ρ (Gh.set Φ a o) ρ:=by
 have le:=Gh.mj (o:=o) (r.none_of new);exact⟨r.o7 hk le (fun b o' e=>(Gh.oX e).elim (fun q=>q.1▸q.2▸there) fun e=>hk _ _ (r.keep _ _ e)) (fun b o' e=>(Gh.oX e).elim (fun q=>.inr (q.1▸new)) .inl) hg ho,le,aY _⟩
theorem Rel.push(r:Rel B C Φ ρ σ s){o:Obj}(hf:o.isFreed=false)(tk:Nat): Rel B C (Gh.set Φ s.heap.objs.size o) ρ σ {s with heap:=s.heap.push o,toks:=tk}/\Step C.jO s Φ ρ {s with heap:=s.heap.push o,toks:=tk} (Gh.set Φ s.heap.objs.size o) ρ:=by have hn:=ib.get?_none_of_le (h:=s.heap) (aM _);have h:=r.sR (s':={s with heap:=s.heap.push o,toks:=tk}) (fun Y Y e=>ib.get?_push_of_some _ e) hn (ib.get?_push_size _ hf) r.gens rfl;exact⟨h.1,.o7 rfl h.2.1 fun b o' e=>(Gh.oX e).elim (fun q=>.inr (q.1▸r.mH hn)) .inl⟩
noncomputable abbrev VR:Gh->List hM->V->g8->Prop:=fun Φ ρ v w=>jf Φ ρ v w
theorem oR{t:Sem g8}{v:V}(h:∀Φ ρ σ s,Ext iQ iP Φ ρ->Rel B C Φ ρ σ s->∀Q E,(∀w tk,jf Φ ρ v w->Q w {s with toks:=tk})->hZ (M B) C.A t Q E s):
  jm B C iQ iP VR t (P.pure v):=fun Φ ρ σ s x r=>
 h Φ ρ σ s x r _ _ fun w tk hv=>⟨Φ,ρ,.same rfl,r.toks tk,hv⟩
theorem iX{i k pos}: jm B C iQ iP VR (iF (.Constant (.int i) k pos) C.env) (P.pure (.int i)):=
 oR fun Y Y Y Y Y Y Y Y h=>wpAny_Constant_int (h _ _ (.int _ _))
theorem jZ{k pos}: jm B C iQ iP VR (iF (.Constant .none k pos) C.env) (P.pure .none):=
 oR fun Y Y Y s Y Y Y Y h=>hO (h _ s.toks .none)
theorem jA{b k pos}: jm B C iQ iP VR (iF (.Constant (.bool b) k pos) C.env) (P.pure (.bool b)):=
 oR fun Y Y Y s Y Y Y Y h=>hO (h _ s.toks (.bool _))
theorem lT{b k pos}: jm B C iQ iP VR (iF (.Constant (.bytes b) k pos) C.env) (P.pure (.bytes b)):=
 oR fun Y Y Y s Y Y Y Y h=>g7 (wpAny_fresh (hO (h _ _ (.bytes _ _))))
noncomputable def P.var(i:Nat): P V:=fun σ=>match σ.vars[i]? with
 |some (.val v)=>.ok v σ
 |_=>.stuck
noncomputable def P.cvar(i:Nat): P V:=fun σ=>match σ.vars[i]? with
 |some (.val v)=>.ok v σ
 |some (.o7 v)=>.ok v σ
 |_=>.stuck
noncomputable def P.kd(i:Nat)(v:V): P Unit:=fun σ=>match σ.vars[i]? with
 |some (.o7 _)=>.stuck
 |some _=>.ok () {σ with vars:=σ.vars.set i (.val v)}
 |none=>.stuck
variable{d:Nat}
theorem u7{i:Nat}{t:Sem g8}(h:∀v,σ.vars[i]?=some (.val v)->kZ B C Φ ρ s VR t s (.ok v σ)): kZ B C Φ ρ s VR t s (P.var i σ):=by
 unfold P.var;cases hv:σ.vars[i]? with
 |none=>trivial
 |some y=>cases y with
  |val v=>exact h v hv
  |_=>trivial
theorem rG{i x}(K:C.Ok d)(hi:C.slots[i]?=some (x,.loc)): jm B C iQ iP VR (loadName C.env x) (P.var i):=by intro Φ ρ σ s e r;refine u7 fun v hv=>?_;obtain⟨m,hn,hm⟩:=r.ns;obtain⟨w,h1,h2⟩:=hm i x v hi hv;exact iu K.kind (K.link i x _ hi) hn h1 ⟨Φ,ρ,.refl _ _ _ _,r,h2⟩
theorem Fn{i x pos}(K:C.Ok d)(hi:C.slots[i]?=some (x,.loc))(hd:autoParam ((x == ("__debug__" : Str))=false) PySem.ldc._auto_1): jm B C iQ iP VR (iF (.Name x pos) C.env) (P.var i):=
 nV (rG K hi) fun Y Y Y h=>wpAny_Name h hd
theorem C1{i x c pos}(K:C.Ok d)(hi:C.slots[i]?=some (x,.cell c))(hd:autoParam ((x == ("__debug__" : Str))=false) PySem.ldc._auto_1): jm B C iQ iP VR (iF (.Name x pos) C.env) (P.cvar i):=by
 intro Φ ρ σ s e r;have hc:=r.cells i x c hi;obtain⟨k1,k2⟩:=K.link i x _ hi;unfold P.cvar;generalize σ.vars[i]?=R at hc ⊢;cases R with
 |none=>trivial
 |some y=>
  cases y with
  |unset=>trivial
  |val v=>
   obtain⟨_,_,w,h1,h2⟩:=hc;exact wpAny_Name (wpAny_loadName_cell K.kind k1 k2 h1 ⟨Φ,ρ,.refl _ _ _ _,r,h2⟩) hd
  |o7 v=>
   obtain⟨o,w,h1,h2,h3⟩:=hc;exact wpAny_Name (wpAny_loadName_cell K.kind k1 k2 ⟨o,r.keep _ _ h1,h2⟩ ⟨Φ,ρ,.refl _ _ _ _,r,h3⟩) hd
theorem Ir{i x c pos}(K:C.Ok d)(hi:C.slots[i]?=some (x,.ro c))(hd:autoParam ((x == ("__debug__" : Str))=false) PySem.ldc._auto_1): jm B C iQ iP VR (iF (.Name x pos) C.env) (P.var i):=by intro Φ ρ σ s e r;obtain⟨k1,k2⟩:=K.link i x _ hi;refine u7 fun v hv=>?_;obtain⟨w,h1,h2⟩:=r.uN i x c v hi hv;exact k1.elim (fun k1=>wpAny_Name (wpAny_loadName_cell K.kind k1 k2 h1 ⟨Φ,ρ,.refl _ _ _ _,r,h2⟩) hd) fun⟨k1,k3⟩=>wpAny_Name (wpAny_loadName_free K.kind k1 k2 h1 ⟨Φ,ρ,.refl _ _ _ _,r,h2⟩ k3) hd
theorem pC{x pos v}(K:C.Ok d)(hx:C.env.kindOf x=some .globalImplicit)(hm:∀P,nsIn (hd.heap_1 P) iD x=some none)(hv:bootBuiltins x=some v)(hn:autoParam (x≠ "__name__") PySem.ldc._auto_1)
  (hd:autoParam ((x == ("__debug__" : Str))=false) PySem.ldc._auto_1):jm B C iQ iP VR (iF (.Name x pos) C.env) (P.pure (.con v)):=
 oR fun Φ ρ σ s e r Q E h=>by have k:=fun b o q=>r.keep b o (r.base b o q);exact Name_function_global K.kind hx (loadGlobal_builtin (K.globals▸(B.g.keeps k)) (mg_none_of B.K B.g (hm _)) (K.builtins▸(B.b.keeps k)) ((B.builtins x hn).trans hv) (h _ s.toks (.con _))) hd
end
section
variable{B:Base}{C:Ctx}{Φ jh iQ:Gh}{ρ iP:List hM}{σ:AS}{s s':g9}{d:Nat}
theorem ja.length{vs:List V}{ws:List g8}(h:ja Φ ρ vs ws): ws.length=vs.length:=
 ja.rec (motive_1:=fun Y Y Y=>True) (motive_2:=fun vs ws Y=>ws.length=vs.length) (motive_3:=fun Y Y Y=>True) trivial (fun Y=>trivial) (fun Y Y=>trivial) (fun Y Y=>trivial) (fun Y Y Y Y=>trivial) (fun Y Y Y Y=>trivial) (fun Y=>trivial) (fun Y=>trivial) (fun Y Y Y Y Y Y Y=>trivial) (fun Y Y Y Y Y=>trivial) (fun Y Y Y=>trivial) (fun Y=>trivial) rfl (fun Y Y Y e=>congrArg dp e) trivial (fun Y Y Y Y Y Y=>trivial) h
theorem ja.get:∀{vs:List V} {ws:List g8} (h:ja Φ ρ vs ws) {i:Nat} {v:V} (e:vs[i]?=some v),∃w,ws[i]?=some w/\jf Φ ρ v w
 |[],_,_,_,_,e=>nomatch e
 |v::vs,_,h,i,u,e=>by
  obtain⟨w,us,rfl,a,r⟩:=h.kG;cases i with
  |zero=>exact⟨w,rfl,aq.inj e▸a⟩
  |succ i=>exact r.get (i:=i) e
theorem ja.get'{vs:List V}{ws:List g8}(h:ja Φ ρ vs ws){i:Nat}{w:g8}(e:ws[i]?=some w): ∃v,vs[i]?=some v/\jf Φ ρ v w:=by have q:=az (h.length▸(au.mp e).1:i<vs.length);obtain⟨w',h1,h2⟩:=h.get q;exact⟨_,q,aq.inj (e.symm.trans h1)▸h2⟩
theorem ja.append:∀{vs us:List V} {ws xs:List g8},ja Φ ρ vs ws->ja Φ ρ us xs->ja Φ ρ (vs++us) (ws++xs)
 |[],_,ws,_,h,k=>by refine R1 (show ws=[] from h.kG) ?_;exact k
 |v::vs,_,_,_,h,k=>by obtain⟨w,us,rfl,a,r⟩:=h.kG;exact .cons a (r.append k)
noncomputable def asList:AO->Option (List V)
 |.list vs=>some vs
 |_=>none
theorem m4{o:Option AO}{vs:List V}(h:o.bind asList=some vs): o=some (.list vs):=by
 cases o with
 |none=>exact no h
 |some o=>cases o with
  |list us=>exact congrArg (fun l=>some (AO.list l)) (aq.inj h)
  |_=>exact no h
noncomputable def jz(σ:AS): V->Option (List V)
 |.lst vs=>some vs
 |.ref n=>(σ.heap[n]?).bind asList
 |_=>none
inductive JQ(Φ:Gh)(ρ:List hM)(h:ib)(vs:List V)(w:g8): Prop
 |mk (a:hM) (ws:Array g8) (n:Nat) (h0:w=.ref a) (h1:h.get? a=some {cls:=.type "list",data:=.seq ws n}) (h2:ws.size<=io) (h3:ja Φ ρ vs ws.toList)
theorem Rel.list(r:Rel B C Φ ρ σ s){v:V}{w:g8}{vs:List V}(h:jf Φ ρ v w)(e:jz σ v=some vs): JQ Φ ρ s.heap vs w:=by
 have h:=h.kG;cases v with
 |lst us=>
  obtain⟨a,ws,n,h1,h2,h3,h4⟩:=h;exact⟨a,ws,n,h1,r.keep _ _ h2,h3,aq.inj e▸h4⟩
 |ref k=>
  obtain⟨a,h1,h2⟩:=h;obtain⟨ws,n,h3,h4,h5⟩:=r.objs _ _ _ (m4 e) h2;exact⟨a,ws,n,h1,h3,h4,h5⟩
 |_=>cases e
theorem js{h:ib}{a:hM}{ws:Array g8}{n:Nat}(e:h.get? a=some {cls:=.type "list",data:=.seq ws n}): h.IsList a ws:=⟨_,e,rfl,n,rfl⟩
theorem lI{h:ib}{a:hM}{ws:Array g8}{n:Nat}(e:h.get? a=some {cls:=.type "tuple",data:=.seq ws n}): h.IsTuple a ws:=⟨_,e,rfl,n,rfl⟩
noncomputable def P.truth(v:V): P Bool:=fun σ=>match v with
 |.none=>.ok false σ
 |.bool b=>.ok b σ
 |.int i=>.ok (i != 0) σ
 |.fset e=>.ok (!e) σ
 |.tup vs=>.ok (!vs.isEmpty) σ
 |v=>match jz σ v with
  |some vs=>.ok (!vs.isEmpty) σ
  |none=>.stuck
noncomputable abbrev BR:Gh->List hM->Bool->Bool->Prop:=fun Y Y b c=>b=c
theorem zf{A:ig}{E:g8->g9->Prop}{prog:Program}{w:World}{a:hM}{o:Obj}{es:Array (Int×g8)}{ep:Nat}{t:SetTable}{Q:Bool->g9->Prop}
  (ho:s.heap.get? a=some o) (hex:o.ExactSet) (hd:o.data=.set es ep t) (hf:t.fits es.size=true) (hfit:(es.size:Int)<2 ^ 63)
  (h:Q (!(es.size == 0)) {s with toks:=s.toks+1+1}):hZ (model prog w) A (truthy (.ref a)) Q E s:=by
 have hT:s.TypeIs (.ref a) "set":=⟨o,ho,hex.1⟩
 have hne:((es.size:Int) != 0)=!(es.size == 0):=by cases es.size<;>rfl
 have key:hZ (model prog w) A (runValue (.builtin "len" ⟨[.ref a],[]⟩)) (fun r s'=>r=.int es.size (s.toks+1)/\Q (!(es.size == 0)) s') E s:=by
  refine wpAny_runValue (codeAny_builtin entry_len ?_);refine R1 (ig.under_plainId plain_len _) ?_
  exact hV (wpAny_len_body_set (Q:=fun r s'=>r=.int es.size (s.toks+1)/\Q (!(es.size == 0)) s') ho hex hd hf hfit ⟨rfl,h⟩)
   (fun fin s' h'=>by obtain⟨r,rfl,hq⟩:=h';exact hq) fun Y Y e=>e
 have noBool:typeLookup (.type "set") "__bool__" = pure none:=by refine R1 (typeLookup_type ..) (R1 builtinLookup_eq_fast ?_);kernel_rfl
 unfold truthy
 first
  |refine g7 (wpAny_callSpecial?_none (name:=Str.ofString "__bool__") hT noBool ?_)
  |refine g7 (hO (g7 (wpAny_callSpecial?_none (name:=Str.ofString "__bool__") hT noBool ?_)))
 first
  |refine g7 (wpAny_specialOf (name:=Str.ofString "__len__") hT F.slot_set_len.lookup ?_)
  |refine g7 (hO (g7 (wpAny_specialOf (name:=Str.ofString "__len__") hT F.slot_set_len.lookup ?_)))
 first
  |exact g7 (hV key (fun r s' h'=>by obtain⟨rfl,hq⟩:=h';exact hO (hne▸hq)) fun Y Y e=>e)
  |exact g7 (hO (g7 (hV key (fun r s' h'=>by obtain⟨rfl,hq⟩:=h';exact hO (hne▸hq)) fun Y Y e=>e)))
theorem lE{n:Nat}(h:n<=io): (n:Int)<2 ^ 63:=fP (dz.mpr h) (by refine R1 im ?_;decide)
theorem sn{vs:List V}{ws:Array g8}(h:ja Φ ρ vs ws.toList): ws.isEmpty=vs.isEmpty:=by rewrite[gV];refine R2 a5 (R1 h.length ?_);cases vs<;>rfl
theorem pW{v:V}{w:g8}(hv:jf iQ iP v w): jm B C iQ iP BR (truthy w) (P.truth v):=by
 intro Φ ρ σ s e r;have hv:=hv.mono e;have h:=hv.kG;have done:∀{c b:Bool} (tk:Nat),c=b->Post B C Φ ρ s BR σ b c {s with toks:=tk}:=fun Y h=>⟨Φ,ρ,.same rfl,r.toks _,h.symm⟩
 have ls:kZ B C Φ ρ s BR (truthy w) s (match jz σ v with | some vs=>.ok (!vs.isEmpty) σ | none=>.stuck):=by
  cases hl:jz σ v with
  |none=>trivial
  |some vs=>
   obtain⟨a,ws,n,rfl,h1,h2,h3⟩:=r.list hv hl;exact wpAny_truthy_list (js h1) (lE h2) (done _ (by exact R1 (sn h3) rfl))
 cases v with
 |none=>refine R1 (show w=_ from h) ?_;exact truthy_none (done s.toks rfl)
 |bool b=>refine R1 (show w=_ from h) ?_;exact wpAny_truthy_bool (done s.toks rfl)
 |int i=>obtain⟨t,rfl⟩:=h;exact truthy_int (done s.toks rfl)
 |fset e=>obtain⟨a,o,es,n,t,rfl,a,b,c,d,e,rfl⟩:=h;exact zf (r.keep _ _ a) b c d e (done _ rfl)
 |tup vs=>
  obtain⟨a,ws,n,rfl,a,b,c⟩:=h;exact truthy_tuple ⟨_,r.keep _ _ a,rfl,_,rfl⟩ (lE b) (done _ (by rw[←sn c,gV]))
 |_=>exact ls
end
section
variable{B:Base}{C:Ctx}{Φ jh iQ:Gh}{ρ iP:List hM}{σ:AS}{s s':g9}{d:Nat}
noncomputable def binI:Operator->Int->Int->Option Int
 |.Add,a,b=>some (a+b)
 |.Sub,a,b=>some (a - b)
 |.Mult,a,b=>if iC.Int.intBits a<=64 then some (a*b) else none
 |.FloorDiv,a,b=>if 0<b/\b<1073741824 then some (a.fdiv b) else none
 |.Mod,a,b=>if 0<b then some (a.fmod b) else none
 |.BitAnd,a,b=>some (iC.bitAnd a b)
 |.BitOr,a,b=>some (iC.bitOr a b)
 |.LShift,a,n=>if 0<=n/\n<=1000000/\a.natAbs<2 ^ 64 then some (a*2 ^ n.toNat) else none
 |.RShift,a,n=>if 0<=n then some (a.fdiv (2 ^ n.toNat)) else none
 |_,_,_=>none
noncomputable def P.bin(op:Operator)(a b:V): P V:=fun σ=>match a,b with
 |.int x,.int y=>match binI op x y with
  |some z=>.ok (.int z) σ
  |none=>.stuck
 |a,b=>match op,jz σ a,jz σ b with
  |.Add,some xs,some ys=>if xs.length+ys.length<=1000000 then .ok (.lst (xs++ys)) σ else .stuck
  |_,_,_=>.stuck
theorem BH{a b:Int}(h0:0<b)(h:b<1073741824): iC.divisionGoesByPylong a b=false:=by obtain⟨n,rfl⟩:=cQ (eY h0);have h2:n.log2<30:=(Nat.log2_lt (aZ (bD.mp h0))).mpr (bD.mp h);refine(congrArg (·&&_) (decide_eq_false ?_)).trans (eu _);show¬ (if((n:Int) == 0)=true then 0 else n.log2 / 30+1) > 300;refine R1 (Nat.div_eq_of_lt h2) ?_;split<;>decide
theorem Ft{op:Operator}{a b:V}{x y:g8}(ha:jf iQ iP a x)(hb:jf iQ iP b y): jm B C iQ iP VR (binaryOp op x y) (P.bin op a b):=by
 intro Φ ρ σ s e r;have ha:=ha.mono e;have hb:=hb.mono e
 have ls:kZ B C Φ ρ s VR (binaryOp op x y) s (match op,jz σ a,jz σ b with
   |.Add,some xs,some ys=>if xs.length+ys.length<=1000000 then .ok (.lst (xs++ys)) σ else .stuck
   |_,_,_=>.stuck):=by
  cases op with
  |Add=>cases h1:jz σ a with
   |none=>trivial
   |some xs=>cases h2:jz σ b with
    |none=>trivial
    |some ys=>
     dsimp only;by_cases hle:xs.length+ys.length<=1000000
     .refine R1 (if_pos hle) ?_;obtain⟨a1,ws,n,rfl,e1,e2,e3⟩:=r.list ha h1;obtain⟨a2,us,m,rfl,f1,f2,f3⟩:=r.list hb h2
      have hsz:ws.size+us.size<=io:=by refine R2 a5 (R2 a5 (R1 e3.length (R1 f3.length (R1 im ?_))));exact ab hle (by decide)
      have hp:=r.push (o:={cls:=.type "list",data:=.seq (ws++us)}) rfl s.toks;refine PySem.P.add_list e1 f1 ⟨_,_,hp.2,hp.1,.lst (Gh.jQ _ _ _) (by refine R1 fY ?_;exact hsz) ?_⟩ hsz;refine R1 cy ?_;exact(e3.mono hp.2.ext).append (f3.mono hp.2.ext)
     .refine R1 (if_neg hle) ?_;trivial
  |_=>trivial
 cases a with
 |int i=>cases b with
  |int j=>
   obtain⟨t,rfl⟩:=ha.kG;obtain⟨u,rfl⟩:=hb.kG;have done:∀{q z:Int} {tk tk':Nat},q=z->Post B C Φ ρ s VR σ (.int z) (.int q tk) {s with toks:=tk'}:=fun h=>⟨Φ,ρ,.same rfl,r.toks _,h▸.int _ _⟩;show kZ B C Φ ρ s VR _ s (match binI op i j with | some z=>.ok (.int z) σ | none=>.stuck);cases hz:binI op i j with
   |none=>trivial
   |some z=>cases op with
    |Add=>exact add_int (done (aq.inj hz))
    |Sub=>exact PyProof.Rows.sub_int (done (aq.inj hz))
    |Mult=>obtain⟨h,e⟩:=oY hz;exact PyProof.Rows.mul_int (done e) (IntMulOk.of_left h)
    |FloorDiv=>obtain⟨h,e⟩:=oY hz;exact floordiv_int (Int.ne_of_gt h.1) (done e) (.inl (BH h.1 h.2))
    |Mod=>obtain⟨h,e⟩:=oY hz;exact mod_int' (Int.ne_of_gt h) (done e)
    |BitAnd=>exact and_int (done (aq.inj hz))
    |BitOr=>exact or_int (done (aq.inj hz))
    |LShift=>obtain⟨h,e⟩:=oY hz;exact lshift_int_small h.1 h.2.1 h.2.2 (done e)
    |RShift=>obtain⟨h,e⟩:=oY hz;exact PyProof.Rows.rshift_int h (done e)
    |_=>exact no hz
  |_=>exact ls
 |_=>exact ls
noncomputable def lM:List (Option Bool)->Option (List Bool)
 |[]=>some []
 |some b::r=>(lM r).map (b::·)
 |none::_=>none
noncomputable def qk:V->Option (Bool×List V)
 |.lst a=>some (true,a)
 |.tup a=>some (false,a)
 |_=>none
noncomputable def CB:V->V->Option Bool
 |.int a,.int b=>some (a == b)
 |.bytes a,.bytes b=>some (a == b)
 |_,_=>none
noncomputable def vV(f:V->V->Option Bool)(k:Bool)(a b:List V): Option Bool:=if a.length=b.length then(lM (dh f a b)).map fun l=>l.all id else cond k (some false) none
noncomputable def veq:Nat->V->V->Option Bool
 |0,v,u=>CB v u
 |n+1,v,u=>match qk v,qk u with
  |some (k,a),some (l,b)=>cond (k == l) (vV (veq n) k a b) none
  |_,_=>CB v u
theorem mP:∀{l:List (Option Bool)} {bs:List Bool},lM l=some bs->l=bs.map some
 |[],_,h=>aq.inj h▸rfl
 |none::_,_,h=>nomatch h
 |some b::r,_,h=>by
  obtain⟨cs,h1,rfl⟩:=aV.mp h;exact R1 (mP h1) rfl
theorem zip_get{f:V->V->Option Bool}{a c:List V}{p:List Bool}(h:lM (dh f a c)=some p){i:Nat}{v x:V}(h1:a[i]?=some v)(h2:c[i]?=some x): ∃b,p[i]?=some b/\f v x=some b:=by have e:(dh f a c)[i]?=(p.map some)[i]?:=congrArg (·[i]?) (mP h);rw[List.getElem?_zipWith,h1,h2,aN] at e;obtain⟨b,e1,e2⟩:=aV.mp e.symm;exact⟨b,e1,e2.symm⟩
theorem oO{f:V->V->Option Bool}{a c:List V}{p:List Bool}(h:lM (dh f a c)=some p)(hl:a.length=c.length): p.length=a.length:=by have e:=congrArg cB (mP h);rw[List.length_zipWith,ak,←hl,eZ] at e;exact e.symm
theorem mx{v u:V}{b:Bool}(h:CB v u=some b): (∃i j,v=.int i/\u=.int j/\(i == j)=b)\/∃i j,v=.bytes i/\u=.bytes j/\(i == j)=b:=by
 cases v with
 |int i=>cases u with
  |int j=>exact .inl ⟨i,j,rfl,rfl,aq.inj h⟩
  |_=>exact no h
 |bytes i=>cases u with
  |bytes j=>exact .inr ⟨i,j,rfl,rfl,aq.inj h⟩
  |_=>exact no h
 |_=>exact no h
theorem xI{v u:V}{b:Bool}{k:Bool×List V}{p:Prop}(h:CB v u=some b)(e:qk u=some k): p:=by rcases mx h with ⟨i,j,rfl,rfl,-⟩ | ⟨i,j,rfl,rfl,-⟩<;>exact no e
theorem mw{f:V->V->Option Bool}{k:Bool}{a c:List V}{b:Bool}(h:vV f k a c=some b): (a.length=c.length/\∃p,lM (dh f a c)=some p/\p.all id=b)\/(a.length≠c.length/\k=true/\b=false):=by
 unfold vV at h;by_cases hl:a.length=c.length
 .rw[if_pos hl] at h;exact .inl ⟨hl,aV.mp h⟩
 .rw[if_neg hl] at h;cases k with
  |true=>exact .inr ⟨hl,rfl,(aq.inj h).symm⟩
  |false=>cases h
theorem om{n:Nat}{v u:V}{b:Bool}(h:veq n v u=some b): CB v u=some b\/∃m k a c,n=m+1/\qk v=some (k,a)/\qk u=some (k,c)/\vV (veq m) k a c=some b:=by
 cases n with
 |zero=>exact .inl h
 |succ n=>
  unfold veq at h;cases hv:qk v with
  |none=>rw[hv] at h;exact .inl h
  |some p=>cases hu:qk u with
   |none=>rw[hv,hu] at h;exact .inl h
   |some q=>
    rw[hv,hu] at h;dsimp only at h;cases hk:p.1 == q.1 with
    |false=>rw[hk] at h;cases h
    |true=>
     rw[hk] at h;exact .inr ⟨n,p.1,p.2,q.2,rfl,rfl,by exact R1 (eq_of_beq hk) rfl,h⟩
theorem jf.seq{v:V}{w:g8}{k:Bool}{vs:List V}(hv:jf Φ ρ v w)(e:qk v=some (k,vs)): SeqAt Φ ρ (cond k "list" "tuple") vs w:=by
 have h:=hv.kG;cases v with
 |lst us=>cases e;exact h
 |tup us=>cases e;exact h
 |_=>exact no e
theorem jf.ii{i j:Int}{w:g8}(h:jf Φ ρ (.int i) w)(k:jf Φ ρ (.int j) w): i=j:=by obtain⟨t,rfl⟩:=h.kG;obtain⟨_,e⟩:=k.kG;injection e
theorem jf.bb{i j:List UInt8}{w:g8}(h:jf Φ ρ (.bytes i) w)(k:jf Φ ρ (.bytes j) w): i=j:=by
 obtain⟨t,rfl⟩:=h.kG;obtain⟨_,e⟩:=k.kG;injection e with e
 exact congrArg gY e
theorem jf.two{v u:V}{w:g8}{k l:Bool}{a c:List V}(h:jf Φ ρ v w)(e:qk v=some (k,a))(h':jf Φ ρ u w)(e':qk u=some (l,c)): ∃ws,ja Φ ρ a ws/\ja Φ ρ c ws:=by
 obtain⟨p,ws,n,h1,h2,-,h4⟩:=h.seq e;obtain⟨q,us,m,k1,k2,-,k4⟩:=h'.seq e';rw[h1] at k1;injection k1 with k1
 rw[←k1,h2] at k2;have k3:Data.seq ws n=Data.seq us m:=congrArg Obj.data (aq.inj k2);injection k3 with k3
 exact⟨_,h4,k3▸k4⟩
theorem tw{vs us:List V}{ws:List g8}(h:ja Φ ρ vs ws)(k:ja Φ ρ us ws): vs.length=us.length:=h.length.symm.trans k.length
noncomputable def Same(Φ:Gh)(ρ:List hM)(n:Nat): Prop:=∀(v u:V) (w:g8) (b:Bool),jf Φ ρ v w->jf Φ ρ u w->veq n v u=some b->b=true
theorem vj(n:Nat)(ih:∀m,n=m+1->Same Φ ρ m){v u:V}{w:g8}{b:Bool}(hv:jf Φ ρ v w)(hu:jf Φ ρ u w)(h:veq n v u=some b): b=true:=by
  rcases om h with h | ⟨m,k,a,c,rfl,e1,e2,h⟩
  .rcases mx h with ⟨i,j,rfl,rfl,rfl⟩ | ⟨i,j,rfl,rfl,rfl⟩
   .exact beq_iff_eq.mpr (hv.ii hu)
   .exact beq_iff_eq.mpr (hv.bb hu)
  .obtain⟨ws,h1,h2⟩:=hv.two e1 hu e2;rcases mw h with ⟨-,p,hp,rfl⟩ | ⟨hl,-⟩
   .refine bl.mpr fun b hb=>?_;obtain⟨i,hi⟩:=cj.mp hb;have hi2:i<a.length:=oO hp (tw h1 h2)▸(au.mp hi).1;obtain⟨w,g1,g2⟩:=h1.get (az hi2);obtain⟨u,g3,g4⟩:=h2.get' g1;obtain⟨b',q1,q2⟩:=zip_get hp (az hi2) g3;refine R1 (aq.inj (hi.symm.trans q1)) ?_;exact ih m rfl _ _ _ _ g2 g4 q2
   .exact(hl (tw h1 h2)).elim
theorem Cz(n:Nat){v u:V}{w:g8}{b:Bool}: jf Φ ρ v w->jf Φ ρ u w->veq n v u=some b->b=true:=
 Nat.rec (motive:=Same Φ ρ) (fun Y Y Y Y=>vj 0 fun Y e=>nomatch e) (fun n ih Y Y Y Y=>vj (n+1) fun Y e=>dp.inj e▸ih) n v u w b
noncomputable def LN(Φ:Gh)(ρ:List hM)(n:Nat): Prop:=∀(v u x:V) (w:g8) (b c:Bool),jf Φ ρ v w->jf Φ ρ u w->veq n v x=some b->veq n u x=some c->b=c
theorem yz(n:Nat)(ih:∀m,n=m+1->LN Φ ρ m){v u x:V}{w:g8}{b c:Bool}(hv:jf Φ ρ v w)(hu:jf Φ ρ u w)(h:veq n v x=some b)(h':veq n u x=some c): b=c:=by
  rcases om h with h | ⟨m,k,a,y,rfl,e1,e2,h⟩
  .rcases om h' with h' | ⟨_,_,_,_,_,_,e2,_⟩
   .rcases mx h with ⟨i,j,rfl,rfl,rfl⟩ | ⟨i,j,rfl,rfl,rfl⟩
    .rcases mx h' with ⟨i',j',rfl,e,rfl⟩ | ⟨_,_,_,e,_⟩
     .injection e with e;exact R1 (hv.ii hu) (R1 e rfl)
     .exact V.noConfusion e
    .rcases mx h' with ⟨_,_,_,e,_⟩ | ⟨i',j',rfl,e,rfl⟩
     .exact V.noConfusion e
     .injection e with e;exact R1 (hv.bb hu) (R1 e rfl)
   .exact xI h e2
  .rcases om h' with h' | ⟨_,l,a',y',e3,e4,e5,h'⟩
   .exact xI h' e2
   .cases e3;rw[e2] at e5;cases e5;obtain⟨ws,h1,h2⟩:=hv.two e1 hu e4;have hl:=tw h1 h2;rcases mw h with ⟨l1,p,hp,rfl⟩ | ⟨l1,-,rfl⟩
    .rcases mw h' with ⟨l2,q,hq,rfl⟩ | ⟨l2,-⟩
     .refine congrArg (fun p=>p.all id) (gm ((oO hp l1).trans (hl.trans (oO hq l2).symm)) fun i i1 i2=>?_);have hi:=az (oO hp l1▸i1:i<a.length);have hy:=az (l1▸oO hp l1▸i1:i<y.length);obtain⟨w,g1,g2⟩:=h1.get hi;obtain⟨u,g3,g4⟩:=h2.get' g1;obtain⟨b',q1,q2⟩:=zip_get hp hi hy;obtain⟨c',q3,q4⟩:=zip_get hq g3 hy;refine R1 (aq.inj ((az i1).symm.trans q1)) (R1 (aq.inj ((az i2).symm.trans q3)) ?_);exact ih m rfl _ _ _ _ _ _ g2 g4 q2 q4
     .exact(l2 (hl.symm.trans l1)).elim
    .rcases mw h' with ⟨l2,-⟩ | ⟨l2,-,rfl⟩
     .exact(l1 (hl.trans l2)).elim
     .rfl
theorem Fe(n:Nat){v u x:V}{w:g8}{b c:Bool}: jf Φ ρ v w->jf Φ ρ u w->veq n v x=some b->veq n u x=some c->b=c:=
 Nat.rec (motive:=LN Φ ρ) (fun Y Y Y Y Y Y=>yz 0 fun Y e=>nomatch e) (fun n ih Y Y Y Y Y Y=>yz (n+1) fun Y e=>dp.inj e▸ih) n v u x w b c
theorem ux:∀p:List Bool,(aX p.length).all (fun i=>p.getD i false)=p.all id
 |[]=>rfl
 |b::p=>by
  refine R1 bd (R1 e9 (R1 eK (R1 fb (R1 eK ?_))));exact congrArg (b&&·) (ux p)
theorem xc{E:g8->g8->Bool->Prop}{m:Nat}{a c:List V}{ws us:Array g8}{p:List Bool}(h:ja Φ ρ a ws.toList)(k:ja Φ ρ c us.toList)(hp:lM (dh (veq m) a c)=some p)
  (ih:∀{v u:V} {x y:g8} {b:Bool},jf Φ ρ v x->jf Φ ρ u y->veq m v u=some b->E x y b) (j:Nat) (j1:j<ws.size) (j2:j<us.size):E ws[j] us[j] (p.getD j false):=by
 obtain⟨v,g1,g2⟩:=h.get' (i:=j) (w:=ws[j]) (by exact R1 aB (R1 (bH j1) rfl));obtain⟨u,g3,g4⟩:=k.get' (i:=j) (w:=us[j]) (by exact R1 aB (R1 (bH j2) rfl));obtain⟨b,q1,q2⟩:=zip_get hp g1 g3;refine R1 a7 (R1 q1 ?_);exact ih g2 g4 q2
section
variable{n:Nat}{A:ig}{xs ys:List V}{a c:hM}{ws us:Array g8}{p q:Nat}{b:Bool}
theorem x8(h2:ja Φ ρ xs ws.toList)(k2:ja Φ ρ ys us.toList): ws.size=xs.length/\us.size=ys.length:=⟨a5.symm.trans h2.length,a5.symm.trans k2.length⟩
theorem x9(hu:A.units<cLine)(ih:∀{v u x y c},jf Φ ρ v x->jf Φ ρ u y->veq n v u=some c->SeqAt.EqAt A.in1 s x y c)
  (h1:s.heap.get? a=some {cls:=.type "list",data:=.seq ws p}) (h2:ja Φ ρ xs ws.toList) (k1:s.heap.get? c=some {cls:=.type "list",data:=.seq us q}) (k2:ja Φ ρ ys us.toList)
  (h:vV (veq n) true xs ys=some b):SeqAt.RcAt A s (.ref a) (.ref c) b/\SeqAt.RcNeAt A s (.ref a) (.ref c) (!b):=by
 obtain⟨z1,z2⟩:=x8 h2 k2;rcases mw h with ⟨hl,bs,hb,rfl⟩ | ⟨hl,-,rfl⟩
 .have hz:ws.size=us.size:=z1.trans (hl.trans z2.symm);refine R2 (ux ..) (R1 (show bs.length=ws.size from(oO hb hl).trans z1.symm) ?_);exact⟨.lists (js h1) (js k1) hz hu (xc h2 k2 hb ih),.lists (js h1) (js k1) hz hu (xc h2 k2 hb ih)⟩
 .have hz:(ws.size != us.size)=true:=bne_iff_ne.mpr fun e=>hl (z1.symm.trans (e.trans z2));exact⟨.lists_lengths (js h1) (js k1) hz hu,.lists_lengths (js h1) (js k1) hz hu⟩
end
noncomputable def H9(Φ:Gh)(ρ:List hM)(s:g9)(n:Nat): Prop:=∀(A:ig) (v u:V) (x y:g8) (b:Bool),A.units+n<cLine->jf Φ ρ v x->jf Φ ρ u y->veq n v u=some b->SeqAt.EqAt A s x y b
theorem Bp(r:∀b o,Φ b=some o->s.heap.get? b=some o)(n:Nat)(ih:∀m,n=m+1->H9 Φ ρ s m)
  {A:ig} {v u:V} {x y:g8} {b:Bool} (hu:A.units+n<cLine) (hv:jf Φ ρ v x) (hw:jf Φ ρ u y) (h:veq n v u=some b):SeqAt.EqAt A s x y b:=by
  rcases om h with h' | ⟨m,k,a,c,rfl,e1,e2,h'⟩
  .rcases mx h' with ⟨i,j,rfl,rfl,rfl⟩ | ⟨i,j,rfl,rfl,rfl⟩
   .obtain⟨_,rfl⟩:=hv.kG;obtain⟨_,rfl⟩:=hw.kG;exact SeqAt.EqAt.int_int _ _ _ _
   .obtain⟨_,rfl⟩:=hv.kG;obtain⟨_,rfl⟩:=hw.kG;exact fun prog w E Q hq=>eqBool_bytes (by refine R2 (Bool.beq_eq_decide_eq ..) ?_;exact hq)
  .obtain⟨p,ws,n1,rfl,h1,-,h2⟩:=hv.seq e1;obtain⟨q,us,n2,rfl,k1,-,k2⟩:=hw.seq e2;by_cases hpq:p=q
   .subst hpq;refine R1 (Cz _ hv hw h) ?_;exact SeqAt.EqAt.same _
   .refine SeqAt.EqAt.of_refs hpq ?_;have hu0:=ag (ay _ _) hu;have ih:∀{v u x y c},jf Φ ρ v x->jf Φ ρ u y->veq m v u=some c->SeqAt.EqAt A.in1 s x y c:=fun g2 g4 e=>ih m rfl _ _ _ _ _ _ (by show A.units+1+m<_;refine R1 (bV ..) ?_;rewrite[bK 1];exact hu) g2 g4 e;cases k with
    |true=>exact(x9 hu0 ih (r _ _ h1) h2 (r _ _ k1) k2 h').1
    |false=>
     rcases mw h' with ⟨hl,bs,hb,rfl⟩ | ⟨-,hk,-⟩
     .obtain⟨z1,z2⟩:=x8 h2 k2;have hz:ws.size=us.size:=z1.trans (hl.trans z2.symm);have:=SeqAt.RcAt.tuples (e:=fun i=>bs.getD i false) (lI (r _ _ h1)) (lI (r _ _ k1)) hu0 (xc h2 k2 hb ih);rw[←hz,eZ,show(ws.size == ws.size)=true from beq_self_eq_true _,fJ,z1,←oO hb hl,ux] at this;exact this
     .cases hk
theorem vU(r:∀b o,Φ b=some o->s.heap.get? b=some o)(n:Nat){A:ig}{v u:V}{x y:g8}{b:Bool}: A.units+n<cLine->jf Φ ρ v x->jf Φ ρ u y->veq n v u=some b->SeqAt.EqAt A s x y b:=
 Nat.rec (motive:=H9 Φ ρ s) (fun Y Y Y Y Y Y=>Bp r 0 fun Y e=>nomatch e) (fun n ih Y Y Y Y Y Y=>Bp r (n+1) fun Y e=>dp.inj e▸ih) n A v u x y b
end
noncomputable def Gp:V->Option Bool
 |.none=>some true
 |.bool _ | .int _ | .tup _ | .lst _ | .ref _ | .fset _=>some false
 |_=>none
noncomputable def uw:AO->Option (List (List UInt8×V))
 |.dict kvs=>some kvs
 |_=>none
theorem vz{o:Option AO}{kvs:List (List UInt8×V)}(h:o.bind uw=some kvs): o=some (.dict kvs):=by
 cases o with
 |none=>exact no h
 |some o=>cases o with
  |dict us=>exact congrArg (fun l=>some (AO.dict l)) (aq.inj h)
  |_=>exact no h
noncomputable def mW(σ:AS): V->Option (List (List UInt8×V))
 |.ref n=>(σ.heap[n]?).bind uw
 |_=>none
noncomputable def pJ(kvs:List (List UInt8×V))(k:List UInt8): Bool:=kvs.any fun p=>p.1 == k
noncomputable def getKey(kvs:List (List UInt8×V))(k:List UInt8): Option V:=(kvs.find? fun p=>p.1 == k).map (·.2)
noncomputable def inV(σ:AS)(a b:V): Option Bool:=match jz σ b with
 |some us=>(lM (us.map fun u=>veq 4 u a)).map fun l=>l.any id
 |none=>match mW σ b,a with
  |some kvs,.bytes k=>some (pJ kvs k)
  |_,_=>none
noncomputable def Ec(σ:AS)(a b:V): Option Bool:=match a,b with
 |.int x,.int y=>some (x == y)
 |.bytes x,.bytes y=>some (x == y)
 |a,b=>match jz σ a,jz σ b with
  |some xs,some ys=>vV (veq 4) true xs ys
  |_,_=>none
noncomputable def Dc(f:Int->Int->Bool)(a b:V): Option Bool:=match a,b with
 |.int x,.int y=>some (f x y)
 |_,_=>none
noncomputable def Ms(a b:V): Option Bool:=match b with
 |.none=>Gp a
 |_=>none
noncomputable def nv(σ:AS)(op:CmpOp)(a b:V): Option Bool:=match op with
 |.Is=>Ms a b
 |.IsNot=>(Ms a b).map not
 |.In=>inV σ a b
 |.NotIn=>(inV σ a b).map not
 |.Eq=>Ec σ a b
 |.NotEq=>(Ec σ a b).map not
 |.Lt=>Dc (fun a b=>decide (a<b)) a b
 |.LtE=>Dc (fun a b=>decide (a<=b)) a b
 |.Gt=>Dc (fun a b=>decide (b<a)) a b
 |.GtE=>Dc (fun a b=>decide (b<=a)) a b
noncomputable def P.cmp(op:CmpOp)(a b:V): P Bool:=fun σ=>match nv σ op a b with
 |some c=>.ok c σ
 |none=>.stuck
noncomputable def P.Lw(p:P Bool): P V:=P.bind p fun b=>P.pure (.bool b)
noncomputable abbrev LA:Gh->List hM->Bool->g8->Prop:=fun Y Y b w=>w=.bool b
section
variable{B:Base}{C:Ctx}{Φ jh iQ:Gh}{ρ iP:List hM}{σ:AS}{s s':g9}{d:Nat}
theorem EN{x:V}{e:g8->Bool}(he:∀v w b,jf Φ ρ v w->veq 4 v x=some b->e w=b): ∀{l:List V} {ws:List g8} {bs:List Bool},ja Φ ρ l ws->lM (l.map fun u=>veq 4 u x)=some bs->ws.any e=bs.any id
 |[],ws,_,hr,hb=>by exact R1 (show ws=[] from hr.kG) (R2 (aq.inj hb) rfl)
 |v::vs,_,bs,hr,hb=>by
  obtain⟨w,us,rfl,a,r⟩:=hr.kG;have h:=mP hb;cases bs with
  |nil=>cases h
  |cons b bs=>
   rw[aR,aR] at h;injection h with h1 h2
   rw[aR,h1] at hb;obtain⟨cs,h3,h4⟩:=aV.mp hb;injection h4 with _ h4
   exact R1 dP (R1 dP (R1 (he _ _ _ a h1) (R1 (EN he r (h4▸h3)) rfl)))
open Classical in
noncomputable def wP(Φ:Gh)(ρ:List hM)(x:V)(w:g8): Bool:=if∃v,jf Φ ρ v w/\veq 4 v x=some true then true else false
theorem vt{v x:V}{w:g8}{b:Bool}(h:jf Φ ρ v w)(e:veq 4 v x=some b): wP Φ ρ x w=b:=by
 unfold wP;cases b with
 |true=>exact R1 (if_pos ⟨v,h,e⟩) rfl
 |false=>
  rw[if_neg];rintro⟨u,h1,h2⟩;cases Fe 4 h h1 e h2
theorem nJ(k:List UInt8): ∀{kvs:List (List UInt8×V)} {kws:List (List UInt8×g8)},kws.map (·.1)=kvs.map (·.1)->ja Φ ρ (kvs.map (·.2)) (kws.map (·.2))->
  match getKey kvs k with
  |some v=>∃w,valueAt kws k=some w/\jf Φ ρ v w
  |none=>valueAt kws k=none
 |[],[],_,_=>rfl
 |[],_::_,h,_=>nomatch h
 |_::_,[],h,_=>nomatch h
 |(x,v)::kvs,(y,w)::kws,h3,h4=>by
  injection h3 with e h3
  obtain⟨_,_,e4,a,r⟩:=h4.kG;injection e4 with e4 e5
  have ih:=nJ k h3 (e5▸r);have e:y=x:=e;subst e;unfold getKey valueAt at *;refine R1 c0 (R1 c0 ?_);by_cases hk:y=k
  .refine R1 (show(((y,v):List UInt8×V).1 == k)=true from beq_iff_eq.mpr hk) ?_;dsimp only;refine R1 (decide_eq_true hk) ?_;exact⟨w,rfl,(show w=_ from e4)▸a⟩
  .refine R1 (show(((y,v):List UInt8×V).1 == k)=false from beq_eq_false_iff_ne.mpr hk) ?_;dsimp only;refine R1 (decide_eq_false hk) ?_;exact ih
theorem vA:∀(kvs:List (List UInt8×V)) (k:List UInt8),pJ kvs k=(getKey kvs k).isSome
 |[],_=>rfl
 |p::r,k=>by
  have ih:=vA r k;unfold pJ getKey at *;refine R1 dP (R1 c0 (R1 ih ?_));cases p.1 == k<;>rfl
theorem sZ{kvs:List (List UInt8×V)}{kws:List (List UInt8×g8)}(h3:kws.map (·.1)=kvs.map (·.1))(h4:ja Φ ρ (kvs.map (·.2)) (kws.map (·.2)))(k:List UInt8): (valueAt kws k).isSome=pJ kvs k:=by
 refine R1 (vA ..) ?_;have:=nJ k h3 h4;cases e:getKey kvs k with
 |none=>rw[e] at this;exact R1 (show valueAt kws k=none from this) rfl
 |some v=>
  rw[e] at this;obtain⟨w,h,_⟩:=this;exact R1 h rfl
inductive JX(B:Base)(Φ:Gh)(ρ:List hM)(σ:AS)(h:ib)(kvs:List (List UInt8×V))(v:V)(w:g8): Prop
 |mk (n:Nat) (a:hM) (h0:v=.ref n) (h1:w=.ref a) (h2:ρ[n]?=some a) (h3:σ.heap[n]?=some (.dict kvs)) (h4:uX B Φ ρ h (.dict kvs) a)
theorem Rel.dict(r:Rel B C Φ ρ σ s){v:V}{w:g8}{kvs:List (List UInt8×V)}(h:jf Φ ρ v w)(e:mW σ v=some kvs): JX B Φ ρ σ s.heap kvs v w:=by
 have h:=h.kG;cases v with
 |ref n=>
  obtain⟨a,h1,h2⟩:=h;have hq:=vz e;exact⟨n,a,rfl,h1,h2,hq,r.objs _ _ _ hq h2⟩
 |_=>exact no e
theorem HF{a b:V}{x y:g8}{c:Bool}(K:C.Ok d)(r:Rel B C Φ ρ σ s)(ha:jf Φ ρ a x)(hb:jf Φ ρ b y)(h:inV σ a b=some c)(Q:g8->g9->Prop)(E:g8->g9->Prop):
  ((∀tk,Q (.bool c) {s with toks:=tk})->hZ (M B) C.A (compareOp .In x y) Q E s)/\((∀tk,Q (.bool !c) {s with toks:=tk})->hZ (M B) C.A (compareOp .NotIn x y) Q E s):=by
 unfold inV at h;cases hu:jz σ b with
 |some us=>
  rw[hu] at h;obtain⟨a1,ws,n,rfl,e1,e2,e3⟩:=r.list hb hu;obtain⟨bs,hb2,rfl⟩:=aV.mp h
  have key:ws.any (wP Φ ρ a)=bs.any id:=by exact R2 (EN (fun v w b h1 h2=>vt h1 h2) e3 hb2) (R1 Array.any_toList rfl)
  have each:∀y,y∈ws->SeqAt.EqAt C.A.in1 s y x (wP Φ ρ a y):=fun y hy=>by obtain⟨i,hi⟩:=cj.mp (Array.mem_toList_iff.mpr hy);obtain⟨v,hv,hr⟩:=e3.get' hi;have hz:(us.map fun u=>veq 4 u a)[i]?=(bs.map some)[i]?:=congrArg (·[i]?) (mP hb2);rw[aN,hv,aN] at hz;obtain⟨b',-,hq⟩:=aV.mp hz.symm;refine R1 (vt hr hq.symm) ?_;exact vU (fun b o e=>r.keep b o e) 4 (ag (aC (by decide:1+4<=100) _) (ag (aO (ay _ _) 100) K.units)) hr ha hq.symm
  exact⟨fun hQ=>SeqAt.in_listAt _ (js e1) each (key▸hQ s.toks),fun hQ=>SeqAt.notIn_listAt _ (js e1) each (key▸hQ s.toks)⟩
 |none=>
  rw[hu] at h;dsimp only at h;cases hk:mW σ b with
  |none=>rw[hk] at h;exact no h
  |some kvs=>
   rw[hk] at h;cases a with
   |bytes k=>
    refine R2 (aq.inj h) ?_;obtain⟨t,rfl⟩:=ha.kG;obtain⟨n,p,-,rfl,-,-,h0,kws,h1,h2,h3,h4⟩:=r.dict hb hk;have hkey:(bytesKind PySem.Challenge.pw_ji0031_01 B.w).is k (.bytes k.toArray t)=true:=by simp[bytesKind,isBytes]
    refine R2 (sZ h3 h4 k) ?_;exact⟨fun hQ=>wpAny_in_of hkey h0 h1.mapOf (hQ _),fun hQ=>wpAny_notIn_of hkey h0 h1.mapOf (hQ _)⟩
   |_=>exact no h
theorem HO{a b:V}{x y:g8}{c:Bool}(K:C.Ok d)(r:Rel B C Φ ρ σ s)(ha:jf Φ ρ a x)(hb:jf Φ ρ b y)(h:Ec σ a b=some c)(Q:g8->g9->Prop)(E:g8->g9->Prop):
  (Q (.bool c) s->hZ (M B) C.A (compareOp .Eq x y) Q E s)/\(Q (.bool !c) s->hZ (M B) C.A (compareOp .NotEq x y) Q E s):=by
 have ls:(match jz σ a,jz σ b with
   |some xs,some ys=>vV (veq 4) true xs ys
   |_,_=>none)=some c->(Q (.bool c) s->hZ (M B) C.A (compareOp .Eq x y) Q E s)/\(Q (.bool !c) s->hZ (M B) C.A (compareOp .NotEq x y) Q E s):=fun h=>by
  cases h1:jz σ a with
  |none=>rw[h1] at h;exact no h
  |some xs=>cases h2:jz σ b with
   |none=>rw[h1,h2] at h;exact no h
   |some ys=>
    rw[h1,h2] at h;obtain⟨a1,ws,n,rfl,e1,e2,e3⟩:=r.list ha h1;obtain⟨a2,us,m,rfl,f1,f2,f3⟩:=r.list hb h2;have hu:C.A.units+5<cLine:=ag (aC (by decide:5<=100) _) (ag (aO (ay _ _) 100) K.units);have hq:=x9 (n:=4) (A:=C.A) (ag (ay _ _) hu) (fun g2 g4 e=>vU (fun b o e=>r.keep b o e) 4 hu g2 g4 e) e1 e3 f1 f3 h;exact⟨fun h=>hq.1 _ _ E Q h,fun h=>hq.2 _ _ E Q h⟩
 cases a with
 |int i=>cases b with
  |int j=>
   obtain⟨_,rfl⟩:=ha.kG;obtain⟨_,rfl⟩:=hb.kG;refine R2 (aq.inj h) ?_;exact⟨fun h=>eq_int h,fun h=>ne_int h⟩
  |_=>exact ls h
 |bytes i=>cases b with
  |bytes j=>
   obtain⟨_,rfl⟩:=ha.kG;obtain⟨_,rfl⟩:=hb.kG;refine R2 (aq.inj h) ?_;exact⟨fun h=>PySem.W.eq_bytes h,fun h=>PySem.W.ne_bytes h⟩
  |_=>exact ls h
 |_=>exact ls h
theorem HE{a b:V}{x y:g8}{c:Bool}(ha:jf Φ ρ a x)(hb:jf Φ ρ b y)(h:Ms a b=some c): y=.none/\PySem.plainIs x g8.none=true/\(x == g8.none)=c:=by
 cases b with
 |none=>
  refine⟨hb.kG,?_⟩;have ha:=ha.kG;cases a with
  |none=>refine R1 (show x=.none from ha) ?_;exact⟨rfl,aq.inj h⟩
  |bool b=>refine R1 (show x=.bool b from ha) ?_;exact⟨rfl,aq.inj h⟩
  |int i=>obtain⟨_,rfl⟩:=ha;exact⟨rfl,aq.inj h⟩
  |ref n=>obtain⟨_,rfl,_⟩:=ha;exact⟨rfl,aq.inj h⟩
  |lst l=>obtain⟨_,_,_,rfl,_⟩:=ha;exact⟨rfl,aq.inj h⟩
  |tup l=>obtain⟨_,_,_,rfl,_⟩:=ha;exact⟨rfl,aq.inj h⟩
  |fset e=>obtain⟨_,_,_,_,_,rfl,_⟩:=ha;exact⟨rfl,aq.inj h⟩
  |_=>exact no h
 |_=>exact no h
theorem AB{op:CmpOp}{a b:V}{x y:g8}(K:C.Ok d)(ha:jf iQ iP a x)(hb:jf iQ iP b y): jm B C iQ iP LA (compareOp op x y) (P.cmp op a b):=by
 intro Φ ρ σ s e r;have ha:=ha.mono e;have hb:=hb.mono e;unfold P.cmp;cases hc:nv σ op a b with
 |none=>trivial
 |some c=>
  have done:∀{q:Bool},q=c->Post B C Φ ρ s LA σ c (.bool q) s:=fun h=>⟨Φ,ρ,.refl _ _ _ _,r,congrArg g8.bool h⟩;have H0:∀tk,Post B C Φ ρ s LA σ c (.bool c) {s with toks:=tk}:=fun tk=>⟨Φ,ρ,.same rfl,r.toks _,rfl⟩;show hZ _ _ _ _ _ _
  have ord:∀{f:Int->Int->Bool},Dc f a b=some c->∃i t j u,x=.int i t/\y=.int j u/\f i j=c:=fun{f} h=>by
   cases a with
   |int i=>cases b with
    |int j=>
     obtain⟨t,h1⟩:=ha.kG;obtain⟨u,h2⟩:=hb.kG;exact⟨i,t,j,u,h1,h2,aq.inj h⟩
    |_=>exact no h
   |_=>exact no h
  cases op with
  |Lt=>obtain⟨i,t,j,u,rfl,rfl,h⟩:=ord hc;exact lt_int (done h)
  |LtE=>obtain⟨i,t,j,u,rfl,rfl,h⟩:=ord hc;exact le_int (done h)
  |Gt=>obtain⟨i,t,j,u,rfl,rfl,h⟩:=ord hc;exact gt_int (done h)
  |GtE=>obtain⟨i,t,j,u,rfl,rfl,h⟩:=ord hc;exact ge_int (done h)
  |Is=>
   obtain⟨rfl,h0,h⟩:=HE ha hb hc;exact wpAny_is_plain h0 (done h)
  |IsNot=>
   obtain⟨c',h1,rfl⟩:=aV.mp hc;obtain⟨rfl,h0,h⟩:=HE ha hb h1;exact wpAny_isNot_plain h0 (done (congrArg not h))
  |In=>exact(HF K r ha hb hc _ _).1 H0
  |NotIn=>
   obtain⟨c',h1,rfl⟩:=aV.mp hc;exact(HF K r ha hb h1 _ _).2 H0
  |Eq=>exact(HO K r ha hb hc _ _).1 (done rfl)
  |NotEq=>
   obtain⟨c',h1,rfl⟩:=aV.mp hc;exact(HO K r ha hb h1 _ _).2 (done rfl)
end
section
variable{B:Base}{C:Ctx}{Φ jh iQ:Gh}{ρ iP:List hM}{σ:AS}{s s':g9}{d:Nat}{l r e c:iB}{p q:P V}{pos:Pos}{op:Operator}
theorem iW(hl:jm B C iQ iP VR (iF l C.env) p)(hr:jm B C iQ iP VR (iF r C.env) q):
  jm B C iQ iP VR (iF (.BinOp l op r pos) C.env) (P.bind p fun a=>P.bind q fun b=>P.bin op a b):=by
 refine R1 (eval_BinOp ..) ?_;exact jn hl fun Y Y a x e ha=>jn (jB (hr.weaken e)) fun Y Y b y e' hb=>kJ (si (Ft (ha.mono e') hb))
noncomputable def P.neg(v:V): P V:=match v with
 |.int i=>P.pure (.int (-i))
 |_=>P.stuck
noncomputable def P.inv(v:V): P V:=match v with
 |.int i=>P.pure (.int (iC.bitNot i))
 |_=>P.stuck
theorem Fl{a:V}{x:g8}(ha:jf iQ iP a x): jm B C iQ iP VR (unaryOp .USub x) (P.neg a):=by
 cases a with
 |int i=>obtain⟨t,rfl⟩:=ha.kG;exact oR fun Y Y Y s Y Y Y Y h=>PyProof.Rows.neg_int (h _ _ (.int _ _))
 |_=>exact jr
theorem Fq{a:V}{x:g8}(ha:jf iQ iP a x): jm B C iQ iP VR (unaryOp .Invert x) (P.inv a):=by
 cases a with
 |int i=>obtain⟨t,rfl⟩:=ha.kG;exact oR fun Y Y Y s Y Y Y Y h=>invert_int (h _ _ (.int _ _))
 |_=>exact jr
theorem mD(op x pos)(env:Env): iF (.UnaryOp op x pos) env=(do let v ←iF x env;iw pos;holding [v] (unaryOp op v)):=rfl
theorem oq(hl:jm B C iQ iP VR (iF l C.env) p): jm B C iQ iP VR (iF (.UnaryOp .USub l pos) C.env) (P.bind p P.neg):=by refine R1 (mD ..) ?_;exact jn hl fun Y Y a x e ha=>kJ (jB (Fl ha))
theorem zv(hl:jm B C iQ iP VR (iF l C.env) p): jm B C iQ iP VR (iF (.UnaryOp .Invert l pos) C.env) (P.bind p P.inv):=by refine R1 (mD ..) ?_;exact jn hl fun Y Y a x e ha=>kJ (jB (Fq ha))
theorem Fu{t:Sem g8}{p:P Bool}(h:jm B C iQ iP LA t p): jm B C iQ iP VR t (P.Lw p):=by
 intro Φ ρ σ s x r;have:=h Φ ρ σ s x r;unfold P.Lw P.bind P.pure;cases hp:p σ with
 |stuck=>trivial
 |ok b σ'=>
  rw[hp] at this;exact hV this (fun w s' h=>by obtain⟨jh,ρ',q1,q2,q4⟩:=h;exact⟨jh,ρ',q1,q2,q4▸.bool b⟩) fun Y Y q=>q
 |exc σ'=>rw[hp] at this;exact this
theorem CG(v:g8): unaryOp .Not v=holding [v] (do return .bool (!(←truthy v))):=rfl
theorem Fv(hl:jm B C iQ iP VR (iF l C.env) p): jm B C iQ iP VR (iF (.UnaryOp .Not l pos) C.env) (P.bind p fun v=>P.bind (P.truth v) fun b=>P.pure (.bool (!b))):=by refine R1 (mD ..) ?_;refine jn hl fun Y Y a x e ha=>kJ (jB ?_);refine R1 (CG ..) ?_;refine jB ?_;exact jn (pW ha) fun Y Y b c e h=>jK fun Y Y Y=>by refine R1 (show c=b from h.symm) ?_;exact .bool _
theorem kj{op:CmpOp}(K:C.Ok d)(hl:jm B C iQ iP VR (iF l C.env) p)(hr:jm B C iQ iP VR (iF r C.env) q)(hm:autoParam (behindInMarks op r=false) PyProof.Rows.slice_list._auto_1):
  jm B C iQ iP VR (iF (.Compare l [op] [r] pos) C.env) (P.Lw (P.bind p fun a=>P.bind q fun b=>P.cmp op a b)):=by
 refine R1 (eval_Compare1 ..) (R1 (markedBehindIn_of_false hm) ?_);exact Fu (jn hl fun Y Y a x e ha=>jn (jB (hr.weaken e)) fun Y Y b y e' hb=>kJ (si (AB K (ha.mono e') hb)))
theorem lj{t:Sem g8}{op:BoolOp}(h:jm B C iQ iP VR t p): jm B C iQ iP VR (boolOp pos op [t]) p:=h
theorem l8{t t':Sem g8}{rest:List (Sem g8)}(h:jm B C iQ iP VR t p)(k:jm B C iQ iP VR (boolOp pos .And (t'::rest)) q):
  jm B C iQ iP VR (boolOp pos .And (t::t'::rest)) (P.bind p fun v=>P.bind (P.truth v) fun b=>if b then q else P.pure v):=by
 show jm B C iQ iP VR (t >>= fun v=>iw pos >>= fun Y=>holding [v] (truthy v) >>= fun b=>(match BoolOp.And,b with | .And,false | .Or,true=>pure v | _,_=>boolOp pos .And (t'::rest))) _;refine jn h fun Y Y v x e hv=>kJ (jn (jB (pW hv)) fun Y Y b c e' hb=>?_);obtain rfl:b=c:=hb;cases b with
 |true=>exact(k.weaken e).weaken e'
 |false=>exact jK fun Y Y x=>(hv.mono e').mono x
theorem qj{t t':Sem g8}{rest:List (Sem g8)}(h:jm B C iQ iP VR t p)(k:jm B C iQ iP VR (boolOp pos .Or (t'::rest)) q):
  jm B C iQ iP VR (boolOp pos .Or (t::t'::rest)) (P.bind p fun v=>P.bind (P.truth v) fun b=>if b then P.pure v else q):=by
 show jm B C iQ iP VR (t >>= fun v=>iw pos >>= fun Y=>holding [v] (truthy v) >>= fun b=>(match BoolOp.Or,b with | .And,false | .Or,true=>pure v | _,_=>boolOp pos .Or (t'::rest))) _;refine jn h fun Y Y v x e hv=>kJ (jn (jB (pW hv)) fun Y Y b c e' hb=>?_);obtain rfl:b=c:=hb;cases b with
 |false=>exact(k.weaken e).weaken e'
 |true=>exact jK fun Y Y x=>(hv.mono e').mono x
theorem my{op:BoolOp}{vs:List iB}(h:jm B C iQ iP VR (boolOp pos op (evalEach vs C.env)) p): jm B C iQ iP VR (iF (.BoolOp op vs pos) C.env) p:=h
theorem CS{α β γ:Type}{RR:Gh->List hM->β->α->Prop}{SS:Gh->List hM->β->γ->Prop}{t:Sem α}{f:α->Sem γ}{p:P β}(h:jm B C iQ iP RR t p)
  (k:∀iS iT b a,Ext iQ iP iS iT->RR iS iT b a->jm B C iS iT SS (f a) (P.pure b)):jm B C iQ iP SS (t >>= f) p:=by
 have:=jn h k;intro Φ ρ σ s x r;have:=this Φ ρ σ s x r;unfold P.bind at this;cases hp:p σ<;>rw[hp] at this<;>exact this
theorem iV{op:CmpOp}{whole:Sem g8}(K:C.Ok d)(hl:jm B C iQ iP VR (iF l C.env) p)(hr:jm B C iQ iP VR (iF r C.env) q)(hm:autoParam (behindInMarks op r=false) PyProof.Rows.slice_list._auto_1):
  jm B C iQ iP BR (isTrue (.Compare l [op] [r] pos) C.env whole) (P.bind p fun a=>P.bind q fun b=>P.cmp op a b):=by
 refine R1 (isTrue_Compare1 ..) (R1 (markedBehindIn_of_false hm) ?_);refine jn hl fun Y Y a x e ha=>jn (jB (hr.weaken e)) fun Y Y b y e' hb=>kJ ?_;refine nV (t:=compareOp op x y >>= fun c=>truthy c) ?_ fun Q E s h Γ pp hΓ=>?_
 .refine CS (AB K (ha.mono e') hb) fun Y Y b c e h=>?_;obtain rfl:c=.bool b:=h;exact fun Φ ρ σ s Y r=>wpAny_truthy_bool ⟨Φ,ρ,.refl _ _ _ _,r,rfl⟩
 .have:=h Γ pp hΓ;rw[Sem.wp_bind'] at this;refine R1 (Sem.wp_bind' ..) (R1 (Sem.wp_operate ..) ?_);exact Sem.wp_mono (M B) Γ _ (fun a p' s' h'=>by refine R1 (Sem.wp_holding ..) ?_;exact h') (fun Y Y Y h=>h) _ _ this
theorem yq(x pos)(env:Env)(w:Sem g8): isTrue (.UnaryOp .Not x pos) env w=(do return !(←isTrue x env (iF x env))):=rfl
theorem jx{whole:Sem g8}{p:P Bool}(h:jm B C iQ iP BR (isTrue e C.env (iF e C.env)) p): jm B C iQ iP BR (isTrue (.UnaryOp .Not e pos) C.env whole) (P.bind p fun b=>P.pure (!b)):=by refine R1 (yq ..) ?_;exact jn h fun Y Y b c e h=>jK fun Y Y Y=>by exact R1 (show b=c from h) rfl
theorem jj{op:BoolOp}: jm B C iQ iP BR (allTrue op [] C.env) (P.pure (op == .And)):=jK fun Y Y Y=>rfl
theorem jk{rest:List iB}{p q:P Bool}(h:jm B C iQ iP BR (isTrue e C.env (iF e C.env)) p)(k:jm B C iQ iP BR (allTrue .And rest C.env) q):
  jm B C iQ iP BR (allTrue .And (e::rest) C.env) (P.bind p fun b=>if b then q else P.pure false):=by
 show jm B C iQ iP BR (isTrue e C.env (iF e C.env) >>= fun b=>(match BoolOp.And,b with | .And,false=>pure false | .Or,true=>pure true | _,_=>allTrue .And rest C.env)) _;refine jn h fun Y Y b c e hb=>?_;obtain rfl:b=c:=hb;cases b with
 |true=>exact k.weaken e
 |false=>exact jK fun Y Y Y=>rfl
theorem ji{rest:List iB}{p q:P Bool}(h:jm B C iQ iP BR (isTrue e C.env (iF e C.env)) p)(k:jm B C iQ iP BR (allTrue .Or rest C.env) q):
  jm B C iQ iP BR (allTrue .Or (e::rest) C.env) (P.bind p fun b=>if b then P.pure true else q):=by
 show jm B C iQ iP BR (isTrue e C.env (iF e C.env) >>= fun b=>(match BoolOp.Or,b with | .And,false=>pure false | .Or,true=>pure true | _,_=>allTrue .Or rest C.env)) _;refine jn h fun Y Y b c e hb=>?_;obtain rfl:b=c:=hb;cases b with
 |false=>exact k.weaken e
 |true=>exact jK fun Y Y Y=>rfl
theorem jd{op:BoolOp}{vs:List iB}{whole:Sem g8}{p:P Bool}(h:jm B C iQ iP BR (allTrue op vs C.env) p): jm B C iQ iP BR (isTrue (.BoolOp op vs pos) C.env whole) p:=h
theorem jc(h:jm B C iQ iP VR (iF e C.env) p)(hs:autoParam (isTrue e C.env (iF e C.env)=(do let v ←iF e C.env;iw e.pos;holding [v] (truthy v))) PySem.W.call_K._auto_4):
  jm B C iQ iP BR (isTrue e C.env (iF e C.env)) (P.bind p P.truth):=by
 refine R1 hs ?_;exact jn h fun Y Y v x e hv=>kJ (jB (pW hv))
theorem Az{α β:Type}{RR:Gh->List hM->β->α->Prop}{p:P Bool}{t:Sem Bool}{a b:Sem α}{x y:P β}(h:jm B C iQ iP BR t p)(ha:jm B C iQ iP RR a x)(hb:jm B C iQ iP RR b y):
  jm B C iQ iP RR (do if ←t then a else b) (P.bind p fun b=>if b then x else y):=by
 refine jn h fun Y Y b c e hb'=>?_;obtain rfl:b=c:=hb';cases b with
 |true=>exact ha.weaken e
 |false=>exact hb.weaken e
theorem lU{pc:P Bool}(h:jm B C iQ iP BR (isTrue c C.env (iF c C.env)) pc)(hl:jm B C iQ iP VR (iF l C.env) p)(hr:jm B C iQ iP VR (iF r C.env) q):
  jm B C iQ iP VR (iF (.IfExp c l r pos) C.env) (P.bind pc fun b=>if b then p else q):=by
 refine R1 (eval_IfExp ..) ?_;exact Az h hl hr
end
section
variable{B:Base}{C:Ctx}{Φ jh iQ:Gh}{ρ iP:List hM}{σ σ':AS}{s s':g9}{d:Nat}{l r e c:iB}{pos:Pos}
theorem Rel.apart(r:Rel B C Φ ρ σ s): (∀p∈C.kT,C.env.locals≠p.1)/\(∀c∈cellsOf C.slots,C.env.locals≠c/\∀p∈C.kT,p.1≠c)/\(∀a∈ρ,C.env.locals≠a/\(∀p∈C.kT,p.1≠a)/\∀c∈cellsOf C.slots,c≠a):=by
 have h:=r.nodup;unfold Ctx.mine Ctx.own at h;rw[ax] at h;obtain⟨h1,h2,h3⟩:=aU.mp h;obtain⟨h4,h5,h6⟩:=aU.mp h2;have h7:=be.mp h1
 refine⟨fun p hp q=>h7.1 (q▸aQ hp),fun c hc=>⟨h3 _ ac _ (ai _ hc),fun p hp=>h3 _ (ad _ (aQ hp)) _ (ai _ hc)⟩,
  fun a ha=>⟨h3 _ ac _ (aj _ ha),fun p hp=>h3 _ (ad _ (aQ hp)) _ (aj _ ha),fun c hc=>h6 c hc a ha⟩⟩
theorem Rel.p0(r:Rel B C Φ ρ σ s): ρ.Nodup:=(aU.mp r.nodup).2.1
theorem oH{x y:Str}{c:hM}: ∀{l:List (Str×Loc)} (h:(cellsOf l).Nodup) {i j:Nat},l[i]?=some (x,.cell c)->l[j]?=some (y,.cell c)->i=j
 |_::t,h,0,0,_,_=>rfl
 |_::t,h,0,j+1,hi,hj=>by
  rw[aq.inj hi] at h;exact absurd (jE (i:=j) hj) (be.mp h).1
 |_::t,h,i+1,0,hi,hj=>by
  rw[aq.inj hj] at h;exact absurd (jE (i:=i) hi) (be.mp h).1
 |(_,.cell _)::t,h,i+1,j+1,hi,hj=>congrArg (·+1) (oH (be.mp h).2 (i:=i) (j:=j) hi hj)
 |(_,.loc)::t,h,i+1,j+1,hi,hj=>congrArg (·+1) (oH (l:=t) h (i:=i) (j:=j) hi hj)
 |(_,.ro _)::t,h,i+1,j+1,hi,hj=>congrArg (·+1) (oH (l:=t) h (i:=i) (j:=j) hi hj)
theorem Rel.sy(r:Rel B C Φ ρ σ s): (cellsOf C.slots).Nodup:=by have h:=r.nodup;unfold Ctx.mine at h;rw[ax] at h;exact(aU.mp (aU.mp h).2.1).1
theorem Rel.upd(r:Rel B C Φ ρ σ s){a:hM}(ha:a∈C.mine ρ)(hf:Φ a=none/\C.jO a=none)(MK:∀p∈C.kT,p.1≠a)(hs:ib.SameBut a s.heap s'.heap)
  (hns:∃m,s'.heap.Ns C.env.locals m/\∀(i:Nat) x v,C.slots[i]?=some (x,.loc)->σ'.vars[i]?=some (.val v)->∃w,m x=some w/\jf Φ ρ v w)
  (hcells:∀(i:Nat) x c,C.slots[i]?=some (x,.cell c)->nF Φ ρ C.jO s'.heap c σ'.vars[i]?)
  (MG:∀(i:Nat) x c v,C.slots[i]?=some (x,.ro c)->σ'.vars[i]?=some (.val v)->σ.vars[i]?=some (.val v))
  (hlen:σ'.heap.length=σ.heap.length) (KV:∀(i:Nat) o b,σ'.heap[i]?=some o->ρ[i]?=some b->uX B Φ ρ s'.heap o b) (hlive:∀(i:Nat) a,ρ[i]?=some a->σ'.heap[i]?≠some .dead->Φ a=none/\C.jO a=none) (hv:σ'.vars.length=σ.vars.length)
  (hg:AllBare s'.gens) (ho:s'.os=s.os):Rel B C Φ ρ σ' s':=by
 refine⟨r.base,fun b o e=>(hs.2 b fun q=>no (hf.1.symm.trans (q▸e))).trans (r.keep _ _ e),fun b o e=>(hs.2 b fun q=>no (hf.2.symm.trans (q▸e))).trans (r.jO _ _ e),hns,hcells,fun i x c v q1 q2=>?_,r.nG,fun p hp=>(r.kT p hp).sameBut hs (MK p hp),r.len.trans hlen.symm,KV,r.own,hlive,r.nodup,hv.trans r.vars,fun P hP=>?_,hg,ho.trans r.os,r.le⟩
 .obtain⟨w,e1,e2⟩:=r.uN i x c v q1 (MG i x c v q1 q2);exact⟨w,kO e1 fun o e=>(hs.2 c fun q=>(r.x6 q1).elim (lG (q▸hf.2)) (lG (q▸hf.1))).trans e,e2⟩
 .obtain⟨t1,t4,t5,t6⟩:=r.tabs P hP;exact⟨t1.mono (.refl _) fun o e=>(hs.2 P fun q=>t6 (q▸ha)).trans e,t4,t5,t6⟩
theorem vi{i:Nat}{v:V}{RR:Gh->List hM->Unit->Unit->Prop}{t:Sem Unit}(h:∀y,σ.vars[i]?=some y->(∀v,y≠.o7 v)->kZ B C Φ ρ s RR t s (.ok () {σ with vars:=σ.vars.set i (.val v)})): kZ B C Φ ρ s RR t s (P.kd i v σ):=by
 unfold P.kd;cases hv:σ.vars[i]? with
 |none=>trivial
 |some y=>cases y with
  |o7 v=>trivial
  |val w=>exact h _ hv fun v q=>by cases q
  |unset=>exact h _ hv fun v q=>by cases q
theorem sJ{i j:Nat}{x y:Str}{k l:Loc}(hi:C.slots[i]?=some (x,k))(hj:C.slots[j]?=some (y,l))(h:k≠l): j≠i:=fun q=>h (congrArg Prod.snd (aq.inj (hi.symm.trans (q▸hj))))
theorem uK{i:Nat}{x:Str}{v:V}{w:g8}(K:C.Ok d)(hi:C.slots[i]?=some (x,.loc))(hv:jf iQ iP v w): jm B C iQ iP (fun Y Y Y Y=>True) (storeName C.env x w) (P.kd i v):=by
 intro Φ ρ σ s e r;refine vi fun sl hsl hnf=>?_;obtain⟨m,hn,hm⟩:=r.ns;obtain⟨a1,a2,a3⟩:=r.apart;have ne:∀{j:Nat} {y:Str} {c:hM},C.slots[j]?=some (y,Loc.cell c)->(σ.vars.set i (.val v))[j]?=σ.vars[j]?:=fun h1=>aJ (sJ hi h1 (by intro q;cases q)).symm;refine wpAny_storeName_local (K.link i x _ hi) hn (fun h' hn' hs=>?_) (by exact R1 K.kind rfl)
 refine⟨Φ,ρ,.same rfl,r.upd (s':={s with heap:=h',toks:=s.toks+1}) (ai _ (ai _ ac)) (r.own C.env.locals ac) (fun p hp q=>a1 p hp q.symm) hs ⟨_,hn',fun j y u h1 h2=>?_⟩ (fun j y c h1=>?_) (fun j y c u h1 h2=>?_) rfl
  (fun j o b h1 h2=>(r.objs j o b h1 h2).mono (.refl _ _) fun o' e=>(hs.2 b fun q=>(a3 b (aP h2)).1 q.symm).trans e) r.live cI r.gens rfl,trivial⟩
 .by_cases hj:j=i
  .subst hj;rw[bk (au.mp hsl).1] at h2;have h2:=aq.inj h2;injection h2 with h2
   exact⟨w,if_pos (congrArg Prod.fst (aq.inj (h1.symm.trans hi))),h2▸hv.mono e⟩
  .rw[aJ (Ne.symm hj)] at h2;obtain⟨w',e1,e2⟩:=hm j y u h1 h2;refine⟨w',(if_neg fun q=>hj ?_).trans e1,e2⟩;have k1:(C.slots.map (·.1))[j]?=some y:=by rw[aN,h1];rfl
   have k2:(C.slots.map (·.1))[i]?=some y:=by rw[aN,hi,q];rfl
   exact(cK (au.mp k1).1 K.names).mp (k1.trans k2.symm)
 .refine R1 (ne h1) ?_;exact(r.cells j y c h1).mono (.refl _ _) fun e1 e2 Y=>⟨e1,e2,fun o e=>(hs.2 c fun q=>(a2 c (jE h1)).1 q.symm).trans e⟩
 .rwa[aJ (sJ hi h1 (by intro q;cases q)).symm] at h2
theorem tm{i:Nat}{x:Str}{cc:hM}{v:V}{w:g8}(K:C.Ok d)(hi:C.slots[i]?=some (x,.cell cc))(hv:jf iQ iP v w): jm B C iQ iP (fun Y Y Y Y=>True) (storeName C.env x w) (P.kd i v):=by
 intro Φ ρ σ s e r;refine vi fun sl hsl hnf=>?_;have hc0:=r.cells i x cc hi;have hmem:cc∈cellsOf C.slots:=jE hi
 obtain⟨e1,e2,w0,hcell⟩:Φ cc=none/\C.jO cc=none/\∃w,s.heap.IsCell cc w:=by
  rw[hsl] at hc0;cases sl with
  |unset=>exact hc0
  |val u=>exact⟨hc0.1,hc0.2.1,hc0.2.2.elim fun w h=>⟨_,h.1⟩⟩
  |o7 u=>exact(hnf u rfl).elim
 obtain⟨a1,a2,a3⟩:=r.apart;obtain⟨k1,k2⟩:=K.link i x _ hi;refine wpAny_storeName_cell K.kind k1 k2 hcell (fun h' hn' hs=>?_)
 refine⟨Φ,ρ,.same rfl,r.upd (s':={s with heap:=h'}) (ai _ (aj _ hmem)) ⟨e1,e2⟩ (fun p hp=>(a2 cc hmem).2 p hp) hs ?_ (fun j y c h1=>?_) (fun j y c u h1 h2=>?_) rfl
  (fun j o b h1 h2=>(r.objs j o b h1 h2).mono (.refl _ _) fun o' e=>(hs.2 b fun q=>(a3 b (aP h2)).2.2 cc hmem q.symm).trans e) r.live cI r.gens rfl,trivial⟩
 .obtain⟨m,hn,hm⟩:=r.ns;refine⟨m,hn.sameBut hs (a2 cc hmem).1,fun j y u h1 h2=>hm j y u h1 ?_⟩;rwa[aJ (sJ hi h1 (by intro q;cases q)).symm] at h2
 .by_cases hj:j=i
  .subst hj;refine R1 (bk (au.mp hsl).1) ?_;have hc:=congrArg Prod.snd (aq.inj (h1.symm.trans hi));injection hc with hc
   subst hc;exact⟨e1,e2,w,hn',hv.mono e⟩
  .refine R1 (aJ (Ne.symm hj)) ?_;exact(r.cells j y c h1).mono (.refl _ _) fun e1 e2 Y=>⟨e1,e2,fun o e=>(hs.2 c fun q=>hj (oH r.sy h1 (q▸hi))).trans e⟩
 .rwa[aJ (sJ hi h1 (by intro q;cases q)).symm] at h2
inductive AF where
 |next | brk | cont
 |ret (v:V)
inductive FR(Φ:Gh)(ρ:List hM): AF->Flow->Prop
 |next:FR Φ ρ .next .next
 |brk:FR Φ ρ .brk .brk
 |cont:FR Φ ρ .cont .cont
 |ret {v w}:jf Φ ρ v w->FR Φ ρ (.ret v) (.ret w)
noncomputable abbrev TR:Gh->List hM->Unit->Unit->Prop:=fun Y Y Y Y=>True
noncomputable def P.seq(p q:P AF): P AF:=P.bind p fun f=>match f with
 |.next=>q
 |f=>P.pure f
theorem jg:jm B C iQ iP FR (iE [] C.env) (P.pure .next):=jK fun Y Y Y=>.next
theorem FR.out{f:AF}{g:Flow}(h:FR Φ ρ f g): match f with | .next=>g=.next | .brk=>g=.brk | .cont=>g=.cont | .ret v=>∃w,g=.ret w/\jf Φ ρ v w:=by
 cases h with
 |ret h=>exact⟨_,rfl,h⟩
 |_=>rfl
theorem iU{st:Stmt}{rest:List Stmt}{p q:P AF}(h:jm B C iQ iP FR (exec st C.env) p)(k:jm B C iQ iP FR (iE rest C.env) q): jm B C iQ iP FR (iE (st::rest) C.env) (P.seq p q):=by
 refine R1 (execs_cons ..) ?_;refine jn h fun Y Y f g e hf=>?_;cases hf with
 |next=>exact k.weaken e
 |brk=>exact jK fun Y Y Y=>.brk
 |cont=>exact jK fun Y Y Y=>.cont
 |ret hv=>exact jK fun Y Y x=>.ret (hv.mono x)
theorem iZ{st:Stmt}{p:P AF}(h:jm B C iQ iP FR (exec st C.env) p): jm B C iQ iP FR (iE [st] C.env) p:=by
 refine R1 (execs_cons ..) ?_;intro Φ ρ σ s x r;have h1:=h Φ ρ σ s x r
 have k:∀{f:AF} {g:Flow} {s' σ'},Post B C Φ ρ s FR σ' f g s'->hZ (M B) C.A (match g with | .next=>iE [] C.env | f=>pure f) (Post B C Φ ρ s FR σ' f) (fun Y Y=>False) s':=by
  rintro f g s' σ' ⟨jh,ρ',q1,q2,q4⟩;cases q4 with
  |next=>exact hO ⟨jh,ρ',q1,q2,.next⟩
  |brk=>exact hO ⟨jh,ρ',q1,q2,.brk⟩
  |cont=>exact hO ⟨jh,ρ',q1,q2,.cont⟩
  |ret hv=>exact hO ⟨jh,ρ',q1,q2,.ret hv⟩
 cases hp:p σ with
 |stuck=>trivial
 |ok f σ'=>rw[hp] at h1;exact g7 (hV h1 (fun Y Y q=>k q) fun Y Y q=>q)
 |exc σ'=>rw[hp] at h1;exact g7 (hV h1 (fun Y Y q=>q.elim) fun Y Y q=>q)
theorem qZ{x:Str}{v:g8}{p:P Unit}(h:jm B C iQ iP TR (storeName C.env x v) p): jm B C iQ iP TR (bindName C.env x v) p:=nV h fun Y Y Y=>wpAny_bindName
noncomputable def P.next(p:P Unit): P AF:=P.bind p fun Y=>P.pure .next
theorem iY{x:Str}{pos':Pos}{p:P V}{f:V->P Unit}(h:jm B C iQ iP VR (iF e C.env) p)(k:∀iS iT v w,Ext iQ iP iS iT->jf iS iT v w->jm B C iS iT TR (storeName C.env x w) (f v))
  (hs:autoParam (swapsWith e (some (.Name x pos')) pos.line C.env=pure false) PySem.W.call_K._auto_4):jm B C iQ iP FR (exec (.Assign [.Name x pos'] e pos) C.env) (P.bind p fun v=>P.next (f v)):=by
 refine R1 (exec_Assign_Name _ _ _ _ _ hs) ?_;exact kJ (jn h fun Y Y v w e hv=>kJ (jn (qZ (k _ _ v w e hv)) fun Y Y Y Y Y Y=>jK fun Y Y Y=>.next))
theorem jq{a b:List Stmt}{p:P Bool}{q t:P AF}(h:jm B C iQ iP BR (isTrue e C.env (iF e C.env)) p)(ha:jm B C iQ iP FR (iE a C.env) q)(hb:jm B C iQ iP FR (iE b C.env) t):
  jm B C iQ iP FR (exec (.If e a b pos) C.env) (P.bind p fun c=>if c then q else t):=by
 refine R1 (exec_If ..) ?_;exact kJ (Az h ha hb)
theorem jb{p:P V}(h:jm B C iQ iP VR (iF e C.env) p): jm B C iQ iP FR (exec (.Return (some e) pos) C.env) (P.bind p fun v=>P.pure (.ret v)):=by refine R1 (exec_Return_some ..) ?_;exact kJ (jn h fun Y Y v w e hv=>jK fun Y Y x=>.ret (hv.mono x))
theorem jW{p:P V}(h:jm B C iQ iP VR (iF e C.env) p)(hi:autoParam (interactive C.env=false) PySem.W.call_K._auto_4)(hs:autoParam (swapsWith e none pos.line C.env=pure false) PySem.W.call_K._auto_4):
  jm B C iQ iP FR (exec (.Expr e pos) C.env) (P.bind p fun Y=>P.pure .next):=by
 refine R1 (exec_Expr _ _ _ hi hs) ?_;refine kJ (jn h fun Y Y v w ex hv=>?_);intro Φ ρ σ s x r;exact wpAny_dropValue ⟨Φ,ρ,.refl _ _ _ _,r,.next⟩
theorem rH:jm B C iQ iP FR (exec (.Break pos) C.env) (P.pure .brk):=kJ (jK fun Y Y Y=>.brk)
theorem me:jm B C iQ iP FR (exec (.Continue pos) C.env) (P.pure .cont):=kJ (jK fun Y Y Y=>.cont)
end
noncomputable def Ctx.at(C:Ctx)(ψ:Gh): Ctx:={C with jO:=ψ,ms:=ψ}
structure Ctx.mT(C:Ctx): Prop where
 fr:∃outer,C.A.frames=some (C.env::outer)
 L:C.env.frame=some C.env.locals
section
variable{B:Base}{C:Ctx}{Φ jh iQ:Gh}{ρ iP:List hM}{σ σ':AS}{s s':g9}{d:Nat}
structure px(C:Ctx)(Φ:Gh)(ρ:List hM)(e:hM)(s:g9): Prop where
 off:EZ C Φ ρ e
 at':∃T,EZ C Φ ρ T/\Cr s.heap.get? e T
theorem px.BD{e:hM}(h:px C Φ ρ e s): ExcAt C Φ ρ e s:=⟨h.off,.inr h.at'⟩
theorem Rel.Cc(r:Rel B C Φ ρ σ s){l:List Env}(h:∀e∈l,e.scope.kind=.function/\∃L,e.frame=some L/\L∈C.own): s.heap.FunFrames {} l:=by
 induction l with
 |nil=>trivial
 |cons e t ih=>
  obtain⟨k,L,hf,hL⟩:=h e ac
  have hn:∃m,s.heap.Ns L m:=by
   rcases av.mp hL with rfl | hL
   .obtain⟨m,hn,_⟩:=r.ns;exact⟨m,hn⟩
   .obtain⟨p,hp,rfl⟩:=bg.mp hL;exact⟨_,r.kT p hp⟩
  obtain⟨m,o,es,ep,ho,hd,_⟩:=hn;exact⟨by refine R1 k ?_;decide,⟨L,o,hf,rfl,ho,fun vs q=>by rw[hd] at q;cases q⟩,ih fun e' he'=>h e' (ad _ he')⟩
theorem Rel.lq(r:Rel B C Φ ρ σ s){a:hM}(h:s.heap.get? a=none): Φ a=none/\C.jO a=none/\a∉C.mine ρ/\a∉([87,177]:List hM):=by
 refine⟨r.none_of h,?_,fun hm=>?_,fun hm=>?_⟩
 .cases q:C.jO a with
  |none=>rfl
  |some o=>have:=r.jO _ _ q;rw[h] at this;cases this
 .obtain⟨o,e⟩:=r.there hm;rw[h] at e;cases e
 .obtain⟨⟨ps,t1,_⟩,_⟩:=r.tabs a hm;rw[h] at t1;cases t1
theorem sM{b:hM}(h:EZ C Φ ρ b): Off C Φ ρ [b]:=fun Y hb=>af.mp hb▸h
theorem vn{b c:hM}{o:Obj}(h:EZ C Φ ρ b)(q:Φ c=some o): b≠c:=fun e=>no (h.1.symm.trans (e▸q))
theorem yI{A:ig}{e:hM}{oe:Obj}{vs:Array g8}{s₁:g9}{fp:List hM}{head:g8}{bb:Bool}(K:C.Ok d)(F:C.mT)(hA:A.frames=C.A.frames)(r:Rel B C Φ ρ σ s)(ae:EZ C Φ ρ e)(hcls:oe.cls=.type "KeyError")(hd:oe.data=.fields vs)(hsz:3<=vs.size)(h2:vs[2]?=some .none)
  (off:Off C Φ ρ fp) (k:∀b o,b∉fp->s.heap.get? b=some o->s₁.heap.get? b=some o) (PW:s₁.heap.get? e=some oe) (hg1:s₁.gens=s.gens) (ho1:s₁.os=s.os) {Q:Unit->g9->Prop} {E:g8->g9->Prop}
  (hQ:∀s',Rel B C Φ ρ σ s'->px C Φ ρ e s'->(∀ψ,Step ψ s Φ ρ s' Φ ρ)->Q () s') :
  hZ (M B) A (do let a ←frameOf C.env;let pl ←entryPlaceOf C.env.locals bb;let b ←EntryCells.newEntry head a .none (rawInt C.env.locals) .none pl;setField (.ref e) 1 b) Q E s₁:=by
 obtain⟨envs,hfr,hall⟩:=K.frames;obtain⟨outer,hfr'⟩:=F.fr;obtain rfl:=aq.inj (hfr.symm.trans hfr');have Px:Rel B C Φ ρ σ s₁:=r.pK off k (.refl _) (fun b o q=>k b o (fun hm=>no ((off b hm).1.symm.trans q)) (r.keep b o q)) (fun b o q=>.inl q) (hg1▸r.gens) ho1;refine g7 (wpAny_frameOf_fun (base:={}) (hA.trans hfr) (Px.Cc hall) F.L fun Po Pl=>?_);refine g7 (wpAny_entryPlaceOf fun pl hpl=>?_);unfold EntryCells.newEntry newFields;refine g7 (wpAny_newObj_type ?_ (hpl.sizeOk5 _ _ _ _ _))
 have D2:∀{b},b∈(C.env::outer).filterMap (·.frame)->b∈C.own:=fun hb=>by obtain⟨e',he',hf'⟩:=fQ.mp hb;obtain⟨_,L,q1,q2⟩:=hall e' he';exact aq.inj (q1.symm.trans hf')▸q2
 have hene:e∉(C.env::outer).filterMap (·.frame):=fun hm=>ae.2.2.1 (ai _ (ai _ (D2 hm)));have PD:Po.get? e=some oe:=(Pl.2.1 e hene).trans PW;generalize htf:([head,.ref C.env.locals,.none,rawInt C.env.locals,.none]++(if pl.isEmpty then ev 6 g8.none else pl)).toArray=tf
 have MF:4<=tf.size:=by refine R2 htf (R1 c7 (R1 ar ?_));exact ab (by decide:4<=5) (ay _ _)
 have PO:=ib.get?_push_of_some (h:=Po) {cls:=.type "traceback",dict:=none,data:=.fields tf} PD;have OI:s₁.heap.get? Po.objs.size=none:=ib.get?_none_of_le (aE Pl.1.symm);have hTe:Po.objs.size≠e:=aZ (ib.lt_size PD);have PA:=Obj.data_mapFields hd (·.setIfInBounds 1 (g8.ref Po.objs.size));have Ld:1<vs.size:=aD (by decide) hsz;refine wpAny_setField PO hd Ld (hQ _ (Px.D1 (fp:=[e]) (sM ae) (fun b o hb hbo q=>?_) (fun b o hb q=>?_) (.refl _) (fun b o q=>?_) (fun b o q=>.inl q) Px.gens rfl) ⟨ae,Po.objs.size,Px.lq OI,_,_,_,tf,ib.get?_update_self _ PO (Obj.isFreed_of_fields PA),(Obj.cls_mapFields _ _).trans hcls,PA,?_,?_,?_,hTe,(ib.get?_update_other _ _ (Ne.symm hTe)).trans (ib.get?_push_size Po rfl),rfl,MF⟩ fun ψ=>.same hg1)
 .refine R1 (ib.get?_update_other _ _ (fun x=>hb (af.mpr x.symm):e≠b)) ?_;exact ib.get?_push_of_some _ ((Pl.2.1 b fun hm=>hbo (D2 hm)).trans q)
 .obtain⟨sl,hsl⟩:=Pl.2.2 b o q;refine⟨sl,?_⟩;refine R1 (ib.get?_update_other _ _ (fun x=>ae.2.2.1 (x▸ai _ (ai _ hb)):e≠b)) ?_;exact ib.get?_push_of_some _ hsl
 .refine R1 (ib.get?_update_other _ _ (vn ae q)) ?_;exact ib.get?_push_of_some _ ((Pl.2.1 b fun hm=>no ((r.own b (D2 hm)).1.symm.trans q)).trans (Px.keep b o q))
 .refine R1 a9 ?_;exact hsz
 .refine R1 (Array.getElem?_setIfInBounds_ne (by decide)) ?_;exact h2
 .exact Array.getElem?_setIfInBounds_self_of_lt Ld
theorem ww{A:ig}{e:hM}(K:C.Ok d)(F:C.mT)(hA:A.frames=C.A.frames)(r:Rel B C Φ ρ σ s)(x:ExcAt C Φ ρ e s){Q:Unit->g9->Prop}{E:g8->g9->Prop}
  (hQ:∀s',Rel B C Φ ρ σ s'->px C Φ ρ e s'->(∀ψ,Step ψ s Φ ρ s' Φ ρ)->Q () s'):hZ (M B) A (noteFrame (.ref e) C.env) Q E s:=by
 obtain⟨ae,x⟩:=x;unfold noteFrame;refine R1 F.L ?_;rcases x with ⟨oe,vs,he,hcls,hd,hsz,h2,h1⟩ | ⟨T,aT,x⟩
 .refine g7 (wpAny_field he hd h1 ?_);exact yI (s₁:=s) (fp:=[]) K F hA r ae hcls hd hsz h2 AK (fun b o Y q=>q) he rfl rfl hQ
 .obtain⟨oe,vs,oT,ts,he,hcls,hd,hsz,h2,h1,hTe,hT,hdT,yu⟩:=id x;refine g7 (wpAny_field he hd h1 ?_);refine R1 (if_pos (show(g8.ref T != g8.none)=true from rfl)) ?_;have h3:ts[3]?=some ts[3]:=bH (dA yu);refine g7 (wpAny_field hT hdT h3 ?_);by_cases hin:(ts[3] == rawInt C.env.locals)=true
  .refine R1 (if_pos hin) ?_;exact hO (hQ s r ⟨ae,T,aT,x⟩ fun ψ=>.refl _ _ _ _)
  .refine R1 (if_neg hin) ?_;refine g7 (wpAny_setField hT hdT (dA yu) ?_);refine yI K F hA r ae hcls hd hsz h2 (sM aT) (fun b o hb q=>?_) ?_ ?_ ?_ hQ
   .exact(ib.get?_update_other _ _ fun x=>hb (af.mpr x.symm)).trans q
   .exact(ib.get?_update_other _ _ hTe).trans he
   .rfl
   .rfl
theorem m5{A:ig}{e:hM}{fl:Option hM}(r:Rel B C Φ ρ σ s)(x:px C Φ ρ e s){Q:Unit->g9->Prop}{E:g8->g9->Prop}
  (hQ:∀s',Rel B C Φ ρ σ s'->px C Φ ρ e s'->(∀ψ,Step ψ s Φ ρ s' Φ ρ)->Q () s'):hZ (M B) A (setFlight (.ref e) fl) Q E s:=by
 obtain⟨ae,T,aT,oe,vs,oT,ts,he,hcls,hd,hsz,h2,h1,hTe,hT,hdT,yu⟩:=x;unfold setFlight;refine g7 (wpAny_field he hd h1 ?_);refine R1 (if_pos (show(g8.ref T != g8.none)=true from rfl)) ?_;have PA:=Obj.data_mapFields hdT (·.setIfInBounds 3 (fl.elim .none fun f=>rawInt f))
 exact wpAny_setField hT hdT (dA yu) (hQ _ (r.pK (fp:=[T]) (sM aT) (fun b o hb q=>(ib.get?_update_other _ _ fun x=>hb (af.mpr x.symm)).trans q) (.refl _)
  (fun b o q=>(ib.get?_update_other _ _ (vn aT q)).trans (r.keep b o q)) (fun b o q=>.inl q) r.gens rfl) ⟨ae,T,aT,oe,vs,_,_,(ib.get?_update_other _ _ hTe).trans he,hcls,hd,hsz,h2,h1,hTe,ib.get?_update_self _ hT (Obj.isFreed_of_fields PA),PA,(a9 ..).symm▸yu⟩ fun ψ=>.same rfl)
theorem nS{A:ig}{e:hM}(r:Rel B C Φ ρ σ s)(x:px C Φ ρ e s){E:g8->g9->Prop}
  (hE:∀s',Rel B C Φ ρ σ s'->px C Φ ρ e s'->(∀ψ,Step ψ s Φ ρ s' Φ ρ)->E (.ref e) s'):cameBackBy (M B) A C.env E (.ref e) s:=by
 unfold cameBackBy;obtain⟨T,aT,oe,vs,oT,ts,he,hcls,hd,hsz,h2,h1,_⟩:=x.at';refine g7 (wpAny_field he hd h1 ?_);refine R1 (if_neg (by simp)) ?_
 first
  |exact m5 r x hE
  |exact g7 (hO (m5 r x hE))
theorem zP{A:ig}{e:hM}(K:C.Ok d)(F:C.mT)(hA:A.frames=C.A.frames)(r:Rel B C Φ ρ σ s)(x:ExcAt C Φ ρ e s){Q:Unit->g9->Prop}{E:g8->g9->Prop}
  (hQ:∀s',Rel B C Φ ρ σ s'->px C Φ ρ e s'->(∀ψ,Step ψ s Φ ρ s' Φ ρ)->Q () s'):hZ (M B) A (leaving C.env (.ref e)) Q E s:=by
 unfold leaving;exact g7 (ww K F hA r x fun s₁ Px PL PN=>m5 Px PL fun Pg Pj Pw Py=>hQ Pg Pj Pw fun ψ=>(PN ψ).trans (Py ψ))
theorem tD{A:ig}{e:hM}(K:C.Ok d)(F:C.mT)(hA:A.frames=C.A.frames)(r:Rel B C Φ ρ σ s)(x:ExcAt C Φ ρ e s){E:g8->g9->Prop}
  (hQ:∀s',Rel B C Φ ρ σ s'->px C Φ ρ e s'->(∀ψ,Step ψ s Φ ρ s' Φ ρ)->E (.ref e) s'):notedBy (M B) A C.env E (.ref e) s:=ww K F hA r x hQ
end
noncomputable def Gh.add(ψ:Gh)(h:ib)(as:List hM): Gh:=fun b=>if b∈as then h.get? b else ψ b
section
variable(B:Base)
inductive LD(C:Ctx)(Φ:Gh)(ρ:List hM)(s:g9)(σ':AS)(e:g8)(s':g9): Prop
 |mk (jh:Gh) (ρ':List hM) (a:hM) (h0:e=.ref a) (h1:Step C.jO s Φ ρ s' jh ρ') (h2:Rel B C jh ρ' σ' s') (h3:px C jh ρ' a s')
noncomputable def lN(C:Ctx)(Φ:Gh)(ρ:List hM)(Pk:g9): Res AF->Result->g9->Prop
 |.ok f σ',.ok g,s'=>Post B C Φ ρ Pk FR σ' f g s'
 |.exc σ',.error e,s'=>LD B C Φ ρ Pk σ' e s'
 |_,_,_=>False
structure lS(A:ig)(target:iB)(I:hM)(fp:List hM)(St:Gh->List hM->List V->ib->Prop): Prop where
 frame:∀Φ ρ jh ρ' xs h h',St Φ ρ xs h->Ext Φ ρ jh ρ'->(∀b o,jh b=some o->h'.get? b=some o)->(∀b∈fp,∀o,h.get? b=some o->h'.get? b=some o)->St jh ρ' xs h'
 item:∀Φ ρ x xs (s:g9) (Q:g8->g9->Prop) (E:g8->g9->Prop),St Φ ρ (x::xs) s.heap->(∀b o,Φ b=some o->s.heap.get? b=some o)->(∀b∈fp,Φ b=none)->
  (∀v h' tk jh,Gh.Le Φ jh->(∀b o,jh b=some o->h'.get? b=some o)->(∀b o,jh b=some o->Φ b=some o\/s.heap.get? b=none)->
   (∀b o,b∉fp->s.heap.get? b=some o->h'.get? b=some o)->jf jh ρ x v->St jh ρ xs h'->(∀b∈fp,∃o,h'.get? b=some o)->Q v {s with heap:=h',toks:=tk})->
  hZ (M B) A (pyNext (.ref I)) (fun r s'=>match r with | none=>False | some v=>hZ (M B) A (letOwnedTupleGo target (.ref I) v) (fun Y s''=>Q v s'') E s') E s
 done:∀Φ ρ (s:g9) (Q:g9->Prop) (E:g8->g9->Prop),St Φ ρ [] s.heap->(∀b o,Φ b=some o->s.heap.get? b=some o)->(∀b∈fp,Φ b=none)->
  (∀h' tk,(∀b o,b∉fp->s.heap.get? b=some o->h'.get? b=some o)->Q {s with heap:=h',toks:=tk})->hZ (M B) A (pyNext (.ref I)) (fun r s'=>r=none/\Q s') E s
 self:∀Φ ρ xs (s:g9) (Q:g8->g9->Prop) (E:g8->g9->Prop),St Φ ρ xs s.heap->Q (.ref I) s->hZ (M B) A (pyIter (.ref I)) Q E s
variable{B}
variable{C:Ctx}{Φ jh iQ:Gh}{ρ ρ' iP:List hM}{σ σ':AS}{s s':g9}{d:Nat}{ψ jw:Gh}
theorem Rel.Hm(r:Rel B (C.at jw) Φ ρ σ s)(le:Gh.Le ψ jw)(ro:∀(i:Nat) x c,C.slots[i]?=some (x,.ro c)->(ψ c).isSome\/(Φ c).isSome): Rel B (C.at ψ) Φ ρ σ s:=
 have no:∀{b},jw b=none->ψ b=none:=none_le le
 ⟨r.base,r.keep,fun b o q=>r.jO b o (le b o q),r.ns,fun i x c q=>(r.cells i x c q).mono (.refl _ _) fun e1 e2 Y=>⟨e1,no e2,fun Y h=>h⟩,r.uN,ro,r.kT,r.len,r.objs,fun a ha=>⟨(r.own a ha).1,no (r.own a ha).2⟩,fun i a q1 q2=>⟨(r.live i a q1 q2).1,no (r.live i a q1 q2).2⟩,r.nodup,r.vars,
  fun P hP=>⟨(r.tabs P hP).1,(r.tabs P hP).2.1,no (r.tabs P hP).2.2.1,(r.tabs P hP).2.2.2⟩,r.gens,r.os,.refl _⟩
theorem Gh.mq{h:ib}{fp:List hM}{b:hM}(hb:b∈fp): Gh.add ψ h fp b=h.get? b:=if_pos hb
theorem Gh.kP{h:ib}{fp:List hM}{b:hM}(hb:b∉fp): Gh.add ψ h fp b=ψ b:=if_neg hb
theorem Rel.JM(r:Rel B (C.at ψ) Φ ρ σ s){fp:List hM}(off:∀b∈fp,b∉C.mine ρ/\b∉([87,177]:List hM))(ex:∀b∈fp,∃o,s.heap.get? b=some o): Rel B (C.at (Gh.add ψ s.heap fp)) Φ ρ σ s:=by
 have nm:∀{b},b∈C.mine ρ->ψ b=none->Gh.add ψ s.heap fp b=none:=fun h e=>(Gh.kP fun hm=>(off _ hm).1 h).trans e
 refine⟨r.base,r.keep,fun b o q=>?_,r.ns,fun i x c q=>(r.cells i x c q).mono (.refl _ _) fun e1 e2 Y=>⟨e1,nm (ai _ (aj _ (jE q))) e2,fun Y h=>h⟩,r.uN,fun i x c q=>(r.nG i x c q).imp (fun h=>?_) id,r.kT,r.len,r.objs,fun a ha=>⟨(r.own a ha).1,nm (ai _ (ai _ ha)) (r.own a ha).2⟩,
  fun i a q1 q2=>⟨(r.live i a q1 q2).1,nm (aj _ (aP q1)) (r.live i a q1 q2).2⟩,r.nodup,r.vars,fun P hP=>⟨(r.tabs P hP).1,(r.tabs P hP).2.1,(Gh.kP fun hm=>(off P hm).2 hP).trans (r.tabs P hP).2.2.1,(r.tabs P hP).2.2.2⟩,r.gens,r.os,.refl _⟩
 .by_cases hb:b∈fp
  .exact(Gh.mq hb).symm.trans q
  .exact r.jO b o ((Gh.kP hb).symm.trans q)
 .show(Gh.add ψ s.heap fp c).isSome;by_cases hc:c∈fp
  .obtain⟨o,e⟩:=ex c hc;exact R1 (Gh.mq hc) (R1 e rfl)
  .refine R1 (Gh.kP hc) ?_;exact h
theorem Gh.pH{h:ib}{fp:List hM}(hn:∀b∈fp,ψ b=none): Gh.Le ψ (Gh.add ψ h fp):=fun b o e=>(Gh.kP fun hm=>no ((hn b hm).symm.trans e)).trans e
structure Nd(ψ kE:Gh)(h:ib)(fp:List hM): Prop where
 le:Gh.Le ψ kE
 mem:∀b∈fp,kE b=h.get? b
 out:∀b,b∉fp->kE b=ψ b
 ex:∀b∈fp,(kE b).isSome
theorem Rel.arm(r:Rel B (C.at ψ) Φ ρ σ s){fp:List hM}(off:Off (C.at ψ) Φ ρ fp)(ex:∀b∈fp,∃o,s.heap.get? b=some o): ∃kE,Nd ψ kE s.heap fp/\Rel B (C.at kE) Φ ρ σ s:=
 ⟨_,⟨Gh.pH fun b hb=>(off b hb).2.1,fun Y=>Gh.mq,fun Y=>Gh.kP,fun b hb=>by obtain⟨o,ho⟩:=ex b hb;exact R1 (Gh.mq hb) (R1 ho rfl)⟩,r.JM (fun b hb=>(off b hb).2.2) ex⟩
theorem Rel.qO(r:Rel B (C.at ψ) Φ ρ σ s){kE iS:Gh}{iT:List hM}{Ph:AS}{Pg:g9}(le:Gh.Le ψ kE)(e:Gh.Le Φ iS)(Pj:Rel B (C.at kE) iS iT Ph Pg): Rel B (C.at ψ) iS iT Ph Pg:=Pj.Hm le fun i x c q=>(r.nG i x c q).imp id (qY e)
theorem Rel.vO{kE:Gh}{fp:List hM}{h:ib}(r:Rel B (C.at kE) Φ ρ σ s)(a:Nd ψ kE h fp)(b:hM)(hb:b∈fp)(o:Obj)(ho:h.get? b=some o): s.heap.get? b=some o:=r.jO b o ((a.mem b hb).trans ho)
theorem Rel.Bq{kE:Gh}{fp:List hM}{h:ib}(r:Rel B (C.at kE) Φ ρ σ s)(a:Nd ψ kE h fp)(b:hM)(hb:b∈fp): ∃o,s.heap.get? b=some o:=(a8.mp (a.ex b hb)).imp fun o ho=>r.jO b o ho
noncomputable def P.Hw(rest:P AF): AF->P AF
 |.next=>rest
 |.cont=>rest
 |.brk=>P.pure .next
 |.ret v=>P.pure (.ret v)
noncomputable def P.forL(asg:V->P Unit)(body:P AF): List V->P AF
 |[]=>P.pure .next
 |x::r=>P.bind (asg x) fun Y=>P.bind body (P.Hw (P.forL asg body r))
theorem Off.step{fp:List hM}(off:Off (C.at ψ) Φ ρ fp)(ex:∀b∈fp,(jw b).isSome)(st:Step jw s Φ ρ s' jh ρ'): Off (C.at ψ) jh ρ' fp:=by
 intro b hb;obtain⟨h1,h2,h3,h4⟩:=off b hb;have hn:∀{p:Prop},jw b=none->p:=fun q=>lG q (ex b hb);refine⟨?_,h2,fun hm=>?_,h4⟩
 .cases q:jh b with
  |none=>rfl
  |some o'=>exact(st.phi b o' q).elim (fun q=>no (h1.symm.trans q)) hn
 .exact(aA.mp hm).elim (fun hm=>h3 (ai _ hm)) fun hm=>(st.Hq b hm).elim (fun q=>h3 (aj _ q)) hn
theorem lN.trans{res:Res AF}(st:Step C.jO s Φ ρ s' jh ρ'){r:Result}{s''}(h:lN B C jh ρ' s' res r s''): lN B C Φ ρ s res r s'':=by
 cases res with
 |ok f σ'=>cases r with
  |ok g=>exact Post.trans st h
  |error e=>exact h
 |exc σ'=>cases r with
  |ok g=>exact h
  |error e=>obtain⟨iS,iT,a,h0,h1,h2,h3⟩:=h;exact⟨iS,iT,a,h0,st.trans h1,h2,h3⟩
 |stuck=>cases r<;>exact h
theorem rA{R:Result->g9->Prop}{A:ig}(h:R (.ok .next) s): iy (M B) A (.block [] C.env) R s:=by refine codeAny_of_tree ?_;show hZ _ A (do return Fin.done (←(iE [] C.env).onRaise (fun x=>do noteFrame x C.env;theTreesLotGoes x))) _ _ s;exact g7 (wpAny_onRaise (wpAny_execs_nil (hO h)))
theorem ExcAt.jO{e:hM}(x:ExcAt (C.at jw) Φ ρ e s)(le:Gh.Le ψ jw): ExcAt (C.at ψ) Φ ρ e s:=
 have k:∀{b},EZ (C.at jw) Φ ρ b->EZ (C.at ψ) Φ ρ b:=fun a=>⟨a.1,none_le le a.2.1,a.2.2⟩
 ⟨k x.off,x.at'.imp id fun h=>h.imp fun Y h=>⟨k h.1,h.2⟩⟩
theorem P.assoc{α β γ:Type}{p:P α}{f:α->P β}{g:β->P γ}(σ:AS): P.bind (P.bind p f) g σ=P.bind p (fun a=>P.bind (f a) g) σ:=by unfold P.bind;cases p σ<;>rfl
theorem r9{α β γ:Type}{M:Model}{A:ig}{m:Sem α}{f:α->Sem β}{k:β->Sem γ}{Q:γ->g9->Prop}{E:g8->g9->Prop}(h:hZ M A (m >>= f) (fun b s=>hZ M A (k b) Q E s) E s): hZ M A (m >>= fun a=>f a >>= k) Q E s:=fun Γ p hΓ=>by have:=h Γ p hΓ;rw[Sem.wp_bind'] at this ⊢;exact Sem.wp_mono M Γ m (fun a p' s' h'=>by refine R1 (Sem.wp_bind' ..) ?_;exact Sem.wp_mono M Γ _ (fun b p s h=>h Γ p hΓ) (fun Y Y Y h=>h) _ _ h') (fun Y Y Y h=>h) p s this
inductive Hd(B:Base)(C:Ctx)(St:Gh->List hM->List V->ib->Prop)(fp:List hM)(ψ Φ:Gh)(ρ:List hM)(σ:AS)(s:g9)(x:V)(xs:List V)(v:g8)(s':g9): Prop
 |mk (jh:Gh) (h1:Step ψ s Φ ρ s' jh ρ) (h2:Rel B (C.at ψ) jh ρ σ s') (h3:Off (C.at ψ) jh ρ fp) (hfr:∀b o,jh b=some o->Φ b=some o\/s.heap.get? b=none) (hk:∀b o,b∉fp->s.heap.get? b=some o->s'.heap.get? b=some o) (hv:jf jh ρ x v) (st:St jh ρ xs s'.heap) (ex:∀b∈fp,∃o,s'.heap.get? b=some o)
theorem lS.turn{target:iB}{I:hM}{fp:List hM}{St:Gh->List hM->List V->ib->Prop}{x:V}{xs:List V}(W:lS B C.A target I fp St)(r:Rel B (C.at ψ) Φ ρ σ s)(off:Off (C.at ψ) Φ ρ fp)(ex:∀b∈fp,∃o,s.heap.get? b=some o)(st:St Φ ρ (x::xs) s.heap):
  hZ (M B) C.A (pyNext (.ref I)) (fun r s'=>match r with | none=>False | some v=>hZ (M B) C.A (letOwnedTupleGo target (.ref I) v) (fun Y s''=>Hd B C St fp ψ Φ ρ σ s x xs v s'') (fun Y Y=>False) s') (fun Y Y=>False) s:=
 W.item Φ ρ x xs s _ _ st r.keep (fun b hb=>(off b hb).1) fun v h' tk jh le hin hfr hk hv st' ex'=>by
  have out:∀{b o},(∃o,s.heap.get? b=some o)->jh b=some o->Φ b=some o:=fun ex q=>(hfr _ _ q).resolve_right fun z=>ex.elim fun o e=>no (z.symm.trans e);refine⟨jh,.o7 rfl le fun b o q=>(hfr b o q).imp id r.mH,r.pK off hk le hin hfr r.gens rfl,fun b hb=>⟨?_,(off b hb).2⟩,hfr,hk,hv,st',ex'⟩;cases q:jh b with
  |none=>rfl
  |some o=>exact no ((off b hb).1.symm.trans (out (ex b hb) q))
theorem lS.stop{target:iB}{I:hM}{fp:List hM}{St:Gh->List hM->List V->ib->Prop}(W:lS B C.A target I fp St)(r:Rel B (C.at ψ) Φ ρ σ s)(off:Off (C.at ψ) Φ ρ fp)(st:St Φ ρ [] s.heap):
  hZ (M B) C.A (pyNext (.ref I)) (fun r s'=>r=none/\Step ψ s Φ ρ s' Φ ρ/\Rel B (C.at ψ) Φ ρ σ s'/\∀b o,b∉fp->s.heap.get? b=some o->s'.heap.get? b=some o) (fun Y Y=>False) s:=
 W.done Φ ρ s _ _ st r.keep (fun b hb=>(off b hb).1) fun h' tk hk=>⟨.same rfl,r.pK off hk (.refl _) (fun b o q=>hk b o (fun hm=>no ((off b hm).1.symm.trans q)) (r.keep b o q)) (fun b o q=>.inl q) r.gens rfl,hk⟩
inductive LL(B:Base)(C:Ctx)(St:Gh->List hM->List hM->List V->g9->Prop)(sB:g9)(xz:Gh)(xy:List hM)(ψ Φ:Gh)(ρ:List hM)(σ:AS)(x:V)(xs:List V)(v:g8)(s':g9): Prop
 |mk (jh:Gh) (fp':List hM) (h0:Ext Φ ρ jh ρ) (h1:Step ψ sB xz xy s' jh ρ) (h2:Rel B (C.at ψ) jh ρ σ s') (h3:Off (C.at ψ) jh ρ fp') (hv:jf jh ρ x v) (st:St jh ρ fp' xs s') (ex:∀b∈fp',∃o,s'.heap.get? b=some o)
theorem A6{sB:g9}{xz:Gh}{xy:List hM}{target:iB}{body:List Stmt}{I:hM}{St:Gh->List hM->List hM->List V->g9->Prop}{asg:V->P Unit}{bp:P AF}(F:C.mT)
  (frame:∀Φ ρ jh ρ' fp xs s s',St Φ ρ fp xs s->Ext Φ ρ jh ρ'->(∀b o,jh b=some o->s'.heap.get? b=some o)->(∀b∈fp,∀o,s.heap.get? b=some o->s'.heap.get? b=some o)->(∀(g:Nat) gs,s.gens[g]?=some gs->s'.gens[g]?=some gs)->St jh ρ' fp xs s')
  (turn:∀Φ ρ σ s fp x xs,Step ψ sB xz xy s Φ ρ->Rel B (C.at ψ) Φ ρ σ s->Off (C.at ψ) Φ ρ fp->(∀b∈fp,∃o,s.heap.get? b=some o)->St Φ ρ fp (x::xs) s->
   hZ (M B) C.A (pyNext (.ref I)) (fun r s'=>match r with | none=>False | some v=>hZ (M B) C.A (letOwnedTupleGo target (.ref I) v) (fun Y s''=>LL B C St sB xz xy ψ Φ ρ σ x xs v s'') (fun Y Y=>False) s') (fun Y Y=>False) s)
  (stop:∀Φ ρ σ s fp,Step ψ sB xz xy s Φ ρ->Rel B (C.at ψ) Φ ρ σ s->Off (C.at ψ) Φ ρ fp->St Φ ρ fp [] s->hZ (M B) C.A (pyNext (.ref I)) (fun r s'=>r=none/\Step ψ sB xz xy s' Φ ρ/\Rel B (C.at ψ) Φ ρ σ s') (fun Y Y=>False) s)
  (nX:∀jw iS iT v w,Ext iQ iP iS iT->jf iS iT v w->jm B (C.at jw) iS iT TR (assign target C.env w) (asg v))
  (hbody:∀jw,jm B (C.at jw) iQ iP FR (iE body C.env) bp) (Ka:∀jw,(C.at jw).Ok d) :
  ∀(xs:List V) Φ ρ σ s fp,Ext iQ iP Φ ρ->Step ψ sB xz xy s Φ ρ->Rel B (C.at ψ) Φ ρ σ s->Off (C.at ψ) Φ ρ fp->(∀b∈fp,∃o,s.heap.get? b=some o)->St Φ ρ fp xs s->∀res,P.forL asg bp xs σ=res->(∀(q:res=.stuck),False)->
   iy (M B) C.A (.forLoop target (.ref I) body [] C.env) (lN B (C.at ψ) xz xy sB res) s:=by
 intro xs
 induction xs with
 |nil=>
  intro Φ ρ σ s fp e zj r off ex st res hres hns;subst hres;refine codeAny_of_tree ?_;show hZ _ C.A ((forTurn target (.ref I) body [] C.env).onRaise (fun x=>do noteFrame x C.env;theTreesLotGoes x)) _ _ s;refine wpAny_noted ?_;unfold forTurn;refine g7 (ic (g7 (wpAny_onRaise (hV (stop _ _ _ _ _ zj r off st) (fun x s' h=>?_) fun Y Y f=>f.elim))));obtain⟨rfl,h1,h2⟩:=h;exact hO ⟨rfl,rA ⟨Φ,ρ,h1,h2,.next⟩⟩
 |cons x xs ih=>
  intro Φ ρ σ s fp e zj r off ex st res hres hns;refine codeAny_of_tree ?_;show hZ _ C.A ((forTurn target (.ref I) body [] C.env).onRaise (fun x=>do noteFrame x C.env;theTreesLotGoes x)) _ _ s;refine wpAny_noted ?_;unfold forTurn;refine g7 (ic (g7 (wpAny_onRaise (hV (turn _ _ _ _ _ _ _ zj r off ex st) (fun x' s' h=>?_) fun Y Y f=>f.elim))));cases x' with
  |none=>exact h.elim
  |some v=>
   refine g7 (hV h (fun Y s₁ q=>?_) fun Y Y f=>f.elim);obtain⟨jh,fp',e',st1,r',off',hv,st',ex'⟩:=q;obtain⟨kE,am,Hp⟩:=r'.arm off' ex';have e1:=e.trans e';have hp:P.bind (P.bind (asg x) fun Y=>bp) (P.Hw (P.forL asg bp xs)) σ=res:=(P.assoc ..).trans hres;have h12:=jn (nX kE jh ρ x v e1 hv) (fun iS iT Y Y e2 Y=>(hbody kE).weaken (e1.trans e2)) jh ρ σ _ (.refl _ _) Hp;generalize P.bind (asg x) (fun Y=>bp)=q at hp h12;unfold P.bind at hp;refine r9 ?_;cases hq:q σ with
   |stuck=>rw[hq] at hp;exact(hns hp.symm).elim
   |exc Ph=>
    rw[hq] at hp h12;refine hV h12 (fun Y Y f=>f.elim) fun x Pg hx=>?_;obtain⟨kF,jv,a,rfl,k1,k2,k3⟩:=hx;exact tD (C:=C.at ψ) (Ka ψ) ⟨F.fr,F.L⟩ rfl (r'.qO am.le k1.ext.1 k2) (k3.jO am.le) fun Pm Pp Pt wY=>hp▸⟨kF,jv,a,rfl,(st1.trans (k1.jO am.le)).trans (wY ψ),Pp,Pt⟩
   |ok f Ph=>
    rw[hq] at hp h12;refine hV h12 (fun g Pg hx=>?_) fun Y Y f=>f.elim;obtain⟨kF,jv,k1,k2,k3⟩:=hx;have stp:=st1.trans (k1.jO am.le);have k2':=r'.qO am.le k1.ext.1 k2
    have EO:P.forL asg bp xs Ph=res->hZ (M B) C.A (again (.forLoop target (.ref I) body [] C.env)) (fun fin s'=>match fin with | .done f=>lN B (C.at ψ) xz xy sB res (.ok f) s' | .again c'=>c'.quiet=true/\iy (M B) C.A c' (lN B (C.at ψ) xz xy sB res) s') (notedBy (M B) C.A C.env fun e s'=>lN B (C.at ψ) xz xy sB res (.error e) s') Pg:=fun hp=>
     hO ⟨rfl,ih kF jv Ph Pg fp' (e1.trans k1.ext) stp k2' (off'.step am.ex k1) (k2.Bq am) (frame _ _ _ _ _ _ _ _ st' k1.ext k2.keep (k2.vO am) k1.gens) res hp hns⟩
    have k3:=k3.out;cases f with
    |next=>refine R1 (show g=_ from k3) ?_;exact EO hp
    |cont=>refine R1 (show g=_ from k3) ?_;exact EO hp
    |brk=>refine R1 (show g=_ from k3) ?_;exact hO (hp▸⟨kF,jv,stp,k2',.next⟩)
    |ret v=>obtain⟨w,rfl,hv⟩:=k3;exact hO (hp▸⟨kF,jv,stp,k2',.ret hv⟩)
theorem D4{target:iB}{body:List Stmt}{I:hM}{fp:List hM}{St:Gh->List hM->List V->ib->Prop}{asg:V->P Unit}{bp:P AF}(F:C.mT)(W:lS B C.A target I fp St)
  (nX:∀jw iS iT v w,Ext iQ iP iS iT->jf iS iT v w->jm B (C.at jw) iS iT TR (assign target C.env w) (asg v))
  (hbody:∀jw,jm B (C.at jw) iQ iP FR (iE body C.env) bp) (Ka:∀jw,(C.at jw).Ok d)
  (xs:List V) (Φ ρ σ s) (e:Ext iQ iP Φ ρ) (r:Rel B (C.at ψ) Φ ρ σ s) (off:Off (C.at ψ) Φ ρ fp) (ex:∀b∈fp,∃o,s.heap.get? b=some o) (st:St Φ ρ xs s.heap) (res) (hres:P.forL asg bp xs σ=res) (hns:∀(q:res=.stuck),False) :
  iy (M B) C.A (.forLoop target (.ref I) body [] C.env) (lN B (C.at ψ) Φ ρ s res) s:=
 A6 (St:=fun Φ ρ fp' xs s=>fp'=fp/\St Φ ρ xs s.heap) F (fun Y Y Y Y Y Y Y Y st e hin hf Y=>⟨st.1,W.frame _ _ _ _ _ _ _ st.2 e hin (st.1▸hf)⟩)
  (fun Y Y Y Y Y x xs zj r off ex st=>hV (W.turn r (st.1▸off) (st.1▸ex) st.2) (fun x' s' h=>by
   cases x' with
   |none=>exact h
   |some v=>
    refine hV h (fun Y s₁ q=>?_) fun Y Y f=>f;obtain⟨jh,h1,h2,h3,-,-,hv,st',ex'⟩:=q;exact⟨jh,fp,h1.ext,zj.trans h1,h2,h3,hv,⟨rfl,st'⟩,ex'⟩) fun Y Y f=>f)
  (fun Y Y Y Y Y zj r off st=>hV (W.stop r (st.1▸off) st.2) (fun x' s' h=>⟨h.1,zj.trans h.2.1,h.2.2.1⟩) fun Y Y f=>f)
  nX hbody Ka xs Φ ρ σ s fp e (.refl _ _ _ _) r off ex ⟨rfl,st⟩ res hres hns
end
section
variable{B:Base}{C:Ctx}{Φ jh iQ:Gh}{ρ ρ' iP:List hM}{σ σ':AS}{s s':g9}{d:Nat}{ψ jw:Gh}{A:ig}{target:iB}{I:hM}
theorem nc{E:g8->g9->Prop}{Q:Unit->g9->Prop}{v:g8}{o:Obj}{n:String}(ho:s.heap.get? I=some o)(hc:o.cls=.type n)
  (hn:["enumerate", "zip", "dict_itemiterator", "dict_reverseitemiterator", "odict_iterator", "itertools.zip_longest", "itertools.pairwise"].contains n=false) (h:Q () s) :
  hZ (M B) A (letOwnedTupleGo target (.ref I) v) Q E s:=by
 have key:∀a,hZ (M B) A (do
   let o ←load I
   match o.cls,o.data with
   |.type n,.fields vs=>
    if ["enumerate", "zip", "dict_itemiterator", "dict_reverseitemiterator", "odict_iterator", "itertools.zip_longest", "itertools.pairwise"].contains n&&vs[0]? == some (rawInt a) then
     rule "for.unpacks-the-owned-tuple"
     updateField I 0 .none
   |_,_=>pure ()) Q E s:=fun a=>by
  refine g7 (wpAny_load ho ?_);refine R1 hc ?_;cases o.data with
  |fields vs=>dsimp only;refine R1 hn ?_;exact hO h
  |_=>exact hO h
 have k2:hZ (M B) A (do
   let (.ref r,.ref a):=(g8.ref I,v) | return
   let o ←load r
   match o.cls,o.data with
   |.type n,.fields vs=>
    if ["enumerate", "zip", "dict_itemiterator", "dict_reverseitemiterator", "odict_iterator", "itertools.zip_longest", "itertools.pairwise"].contains n&&vs[0]? == some (rawInt a) then
     rule "for.unpacks-the-owned-tuple"
     updateField r 0 .none
   |_,_=>pure ()) Q E s:=by
  cases v with
  |ref a=>exact key a
  |_=>exact hO h
 unfold letOwnedTupleGo;cases target with
 |Tuple=>exact k2
 |List=>exact k2
 |_=>exact hO h
noncomputable def JP(l I:hM)(ws:Array g8)(n:Nat): Gh->List hM->List V->ib->Prop:=fun Φ ρ xs h=>
 ∃k,h.IsListIter I l k/\Φ l=some {cls:=.type "list",data:=.seq ws n}/\ja Φ ρ xs (ws.toList.drop k)
theorem drop_cons{α:Type}{l:List α}{k:Nat}{x:α}{r:List α}(h:l.drop k=x::r): l[k]?=some x/\l.drop (k+1)=r:=
 ⟨by rw[←fZ k,←fR,h];rfl,by rw[←List.tail_drop,h];rfl⟩
theorem oF{α:Type}{l:List α}{k:Nat}(h:l.drop k=[]): l[k]?=none:=by rw[←fZ k,←fR,h];rfl
theorem IX{b I:hM}{o:Obj}(hfp:∀b∈[I],Φ b=none)(q:Φ b=some o): b≠I:=fun x=>no ((hfp I ac).symm.trans (x▸q))
theorem lS.mk1{St:Gh->List hM->List V->ib->Prop}(hframe:∀Φ ρ jh ρ' xs h h',St Φ ρ xs h->Ext Φ ρ jh ρ'->(∀o,h.get? I=some o->h'.get? I=some o)->St jh ρ' xs h')
  (hitem:∀Φ ρ x xs (s:g9) (Q:Option g8->g9->Prop) (E:g8->g9->Prop),St Φ ρ (x::xs) s.heap->(∀b o,Φ b=some o->s.heap.get? b=some o)->Φ I=none->
   (∀w h' tk o n,ib.SameBut I s.heap h'->h'.get? I=some o->o.cls=.type n->["enumerate", "zip", "dict_itemiterator", "dict_reverseitemiterator", "odict_iterator", "itertools.zip_longest", "itertools.pairwise"].contains n=false->jf Φ ρ x w->St Φ ρ xs h'->Q (some w) {s with heap:=h',toks:=tk})->hZ (M B) A (pyNext (.ref I)) Q E s)
  (hdone:∀Φ ρ (s:g9) (Q:Option g8->g9->Prop) (E:g8->g9->Prop),St Φ ρ [] s.heap->(∀b o,Φ b=some o->s.heap.get? b=some o)->(∀h' tk,(∀b o,b≠I->s.heap.get? b=some o->h'.get? b=some o)->Q none {s with heap:=h',toks:=tk})->hZ (M B) A (pyNext (.ref I)) Q E s)
  (hself:∀Φ ρ xs (s:g9) (Q:g8->g9->Prop) (E:g8->g9->Prop),St Φ ρ xs s.heap->Q (.ref I) s->hZ (M B) A (pyIter (.ref I)) Q E s):lS B A target I [I] St where
 self:=hself
 frame:=fun Φ ρ jh ρ' xs h h' st e Y hf=>hframe Φ ρ jh ρ' xs h h' st e (hf I ac)
 item:=fun Φ ρ x xs s Q E st hΦ hfp hQ=>hitem Φ ρ x xs s _ E st hΦ (hfp I ac) fun w h' tk o n hs e1 e2 e3 hv st'=>
  nc e1 e2 e3 (hQ w h' tk Φ (.refl _) (fun b o q=>(hs.2 b (IX hfp q)).trans (hΦ b o q)) (fun b o q=>.inl q) (fun b o hb q=>(hs.2 b fun x=>hb (x▸ac)).trans q) hv st' fun b hb=>af.mp hb▸⟨_,e1⟩)
 done:=fun Φ ρ s Q E st hΦ hfp hQ=>hdone Φ ρ s _ E st hΦ fun h' tk he=>⟨rfl,hQ h' tk fun b o hb q=>he b o (fun x=>hb (x▸ac)) q⟩
theorem ja.drop{ws:List g8}{k:Nat}{x:V}{xs:List V}(h:ja Φ ρ (x::xs) (ws.drop k)): ∃w,ws[k]?=some w/\jf Φ ρ x w/\ja Φ ρ xs (ws.drop (k+1)):=by obtain⟨w,us,hd,a,b⟩:=h.kG;obtain⟨g1,g2⟩:=drop_cons hd;exact⟨w,g1,a,g2▸b⟩
theorem xF{l:hM}{ws:Array g8}{n:Nat}(hh:A.handled=none): lS B A target I [I] (JP l I ws n):=.mk1
 (fun Φ ρ jh ρ' xs h h' st e hf=>by obtain⟨k,⟨o,e1,e2⟩,h2,h3⟩:=st;exact⟨k,⟨o,hf o e1,e2⟩,e.1 _ _ h2,h3.mono e⟩)
 (fun Φ ρ x xs s Q E st hΦ hI hQ=>by
  obtain⟨k,h1,h2,h3⟩:=st;obtain⟨w,g1,a,b⟩:=h3.drop
  exact wpAny_pyNext_list_item h1 (js (hΦ _ _ h2)) (x:=w) (by refine R2 aB ?_;exact g1) fun h' hit hs=>by obtain⟨o,e1,e2,e3⟩:=hit;exact hQ w h' s.toks o _ hs e1 e2 (by decide) a ⟨k+1,⟨o,e1,e2,e3⟩,h2,b⟩)
 (fun Φ ρ s Q E st hΦ hQ=>by obtain⟨k,h1,h2,h3⟩:=st;exact wpAny_pyNext_list_end hh h1 (js (hΦ _ _ h2)) (by refine R2 aB ?_;exact oF h3.kG) fun h' he=>hQ h' s.toks he)
 fun Φ ρ xs s Q E st hQ=>wpAny_pyIter_listiter st.choose_spec.1 hQ
noncomputable def LC(l I:hM)(ws:Array g8)(n:Nat): Gh->List hM->List V->ib->Prop:=fun Φ ρ xs h=>
 ∃k,h.IsTupleIter I l k/\Φ l=some {cls:=.type "tuple",data:=.seq ws n}/\ja Φ ρ xs (ws.toList.drop k)
theorem vR{l:hM}{ws:Array g8}{n:Nat}(hh:A.handled=none): lS B A target I [I] (LC l I ws n):=.mk1
 (fun Φ ρ jh ρ' xs h h' st e hf=>by obtain⟨k,⟨o,e1,e2⟩,h2,h3⟩:=st;exact⟨k,⟨o,hf o e1,e2⟩,e.1 _ _ h2,h3.mono e⟩)
 (fun Φ ρ x xs s Q E st hΦ hI hQ=>by
  obtain⟨k,h1,h2,h3⟩:=st;obtain⟨w,g1,a,b⟩:=h3.drop
  exact wpAny_pyNext_tuple_item h1 (lI (hΦ _ _ h2)) (x:=w) (by refine R2 aB ?_;exact g1) fun h' hit hs=>by obtain⟨o,e1,e2,e3⟩:=hit;exact hQ w h' s.toks o _ hs e1 e2 (by decide) a ⟨k+1,⟨o,e1,e2,e3⟩,h2,b⟩)
 (fun Φ ρ s Q E st hΦ hQ=>by obtain⟨k,h1,h2,h3⟩:=st;exact wpAny_pyNext_tuple_end hh h1 (lI (hΦ _ _ h2)) (by refine R2 aB ?_;exact oF h3.kG) fun h' he=>hQ h' s.toks he)
 fun Φ ρ xs s Q E st hQ=>wpAny_pyIter_tupleiter st.choose_spec.1 hQ
noncomputable def oW(a c:Int): Nat->List V
 |0=>[]
 |n+1=>.int a::oW (a+c) c n
noncomputable def LF(I:hM)(c:Int): Gh->List hM->List V->ib->Prop:=fun Φ ρ xs h=>
 ∃a n,IsRangeIter h I a ((n:Nat):Int) c/\xs=oW a c n
theorem vS{c:Int}(hh:A.handled=none): lS B A target I [I] (LF I c):=.mk1
 (fun Φ ρ jh ρ' xs h h' st e hf=>by obtain⟨a,n,h1,h2⟩:=st;exact⟨a,n,hf _ h1,h2⟩)
 (fun Φ ρ x xs s Q E st hΦ hI hQ=>by
  obtain⟨a,n,h1,h2⟩:=st;cases n with
  |zero=>exact gn rfl (heq_of_eq h2)
  |succ n=>
   injection h2 with h2 h3
   exact wpAny_pyNext_range_item h1 (bD.mpr (bE n)) fun h' hit hs=>hQ _ h' _ _ _ hs hit rfl (by decide) (h2▸.int _ _) ⟨a+c,n,by refine R1 (show((n:Nat):Int)=((n+1:Nat):Int) - 1 from(ew (n:Int) 1).symm) ?_;exact hit,h3⟩)
 (fun Φ ρ s Q E st hΦ hQ=>by
  obtain⟨a,n,h1,h2⟩:=st;cases n with
  |succ n=>exact gn rfl (heq_of_eq h2)
  |zero=>exact wpAny_pyNext_range_end hh h1 (dT 0) fun h' he=>hQ h' s.toks he)
 fun Φ ρ xs s Q E st hQ=>wpAny_pyIter_rangeiter st.choose_spec.choose_spec.1 hQ
noncomputable def P.items(v:V): P (List V):=match v with
 |.lst vs=>P.pure vs
 |.tup vs=>P.pure vs
 |.rng a b c=>if iC.Range.small a b c=true/\0<=iC.Range.rangeSize a b c then P.pure (oW a c (iC.Range.rangeSize a b c).toNat) else P.stuck
 |_=>P.stuck
inductive uC(B:Base)(C:Ctx)(ψ Φ:Gh)(ρ:List hM)(s:g9)(target:iB)(σ':AS)(xs:List V)(it:g8)(s':g9): Prop
 |mk (jh:Gh) (ρ':List hM) (I:hM) (fp:List hM) (St:Gh->List hM->List V->ib->Prop) (h0:it=.ref I) (h1:Step ψ s Φ ρ s' jh ρ') (h2:Rel B (C.at ψ) jh ρ' σ' s') (h3:lS B C.A target I fp St) (h4:Off (C.at ψ) jh ρ' fp) (h5:∀b∈fp,∃o,s'.heap.get? b=some o) (h6:St jh ρ' xs s'.heap)
theorem uC.step{jh:Gh}{ρ':List hM}{s₁ s':g9}{target:iB}{σ':AS}{xs:List V}{it:g8}(e:Step ψ s Φ ρ s₁ jh ρ')(h:uC B C ψ jh ρ' s₁ target σ' xs it s'): uC B C ψ Φ ρ s target σ' xs it s':=by obtain⟨iS,iT,I,fp,St,h0,h1,h2,h3,h4,h5,h6⟩:=h;exact⟨iS,iT,I,fp,St,h0,e.trans h1,h2,h3,h4,h5,h6⟩
noncomputable def ER(C:Ctx)(ψ:Gh)(iQ:Gh)(iP:List hM)(target:iB)(t:Sem g8)(p:P (List V)): Prop:=
 ∀Φ ρ σ s,Ext iQ iP Φ ρ->Rel B (C.at ψ) Φ ρ σ s->match p σ with
  |.ok xs σ'=>hZ (M B) C.A t (uC B C ψ Φ ρ s target σ' xs) (fun Y Y=>False) s
  |.exc σ'=>True
  |.stuck=>True
theorem AL(r:Rel B C Φ ρ σ s){I:hM}(h:s.heap.get? I=none): Off C Φ ρ [I]:=fun b hb=>by refine R1 (af.mp hb) ?_;exact r.lq h
theorem pushed{o:Obj}(r:Rel B C Φ ρ σ s)(hf:o.isFreed=false): Rel B C Φ ρ σ {s with heap:=s.heap.push o}/\Off C Φ ρ [s.heap.objs.size]/\({s with heap:=s.heap.push o}:g9).heap.get? s.heap.objs.size=some o/\∀ψ,Step ψ s Φ ρ {s with heap:=s.heap.push o} Φ ρ:=
 ⟨r.grow (fun Y Y e=>ib.get?_push_of_some _ e) r.gens rfl,AL r (ib.get?_none_of_le (aM _)),ib.get?_push_size _ hf,fun ψ=>.same rfl⟩
theorem vr{v:V}{w:g8}(hh:C.A.handled=none)(hv:jf iQ iP v w): ER (B:=B) C ψ iQ iP target (pyIter w) (P.items v):=by
 intro Φ ρ σ s e r
 have out:∀{o:Obj} {St:Gh->List hM->List V->ib->Prop} {xs:List V},o.isFreed=false->lS B C.A target s.heap.objs.size [s.heap.objs.size] St->((s.heap.push o).get? s.heap.objs.size=some o->St Φ ρ xs (s.heap.push o))->uC B C ψ Φ ρ s target σ xs (.ref s.heap.objs.size) {s with heap:=s.heap.push o}:=fun hf W st=>by obtain⟨q1,q2,q3,q4⟩:=pushed r hf;exact⟨Φ,ρ,_,[s.heap.objs.size],_,rfl,q4 ψ,q1,W,q2,fun b hb=>af.mp hb▸⟨_,q3⟩,st q3⟩
 have hv:=(hv.mono e).kG;cases v with
 |lst vs=>
  obtain⟨a,ws,n,rfl,h1,h2,h3⟩:=hv;exact wpAny_pyIter_list (js (r.keep _ _ h1)) (out rfl (xF hh) fun q3=>⟨0,⟨_,q3,rfl,rfl⟩,h1,h3⟩)
 |tup vs=>
  obtain⟨a,ws,n,rfl,h1,h2,h3⟩:=hv;exact wpAny_pyIter_tuple (lI (r.keep _ _ h1)) (out rfl (vR hh) fun q3=>⟨0,⟨_,q3,rfl,rfl⟩,h1,h3⟩)
 |rng a b c=>
  obtain⟨rr,t,u,vv,rfl,h1⟩:=hv;unfold P.items;dsimp only;by_cases hs:iC.Range.small a b c=true/\0<=iC.Range.rangeSize a b c
  .refine R1 (if_pos hs) ?_;exact wpAny_pyIter_range (r.keep _ _ h1) hs.1 (out rfl (vS hh) fun q3=>⟨a,(iC.Range.rangeSize a b c).toNat,by refine R1 (d6 hs.2) ?_;exact q3,rfl⟩)
  .refine R1 (if_neg hs) ?_;trivial
 |_=>trivial
noncomputable def P.nP{α:Type}(p:P α): P α:=fun σ=>match p σ with
 |.exc _=>.stuck
 |r=>r
theorem ke{target iter:iB}{body:List Stmt}{pos:Pos}{asg:V->P Unit}{bp:P AF}{pi:P (List V)}(Ka:∀jw,(C.at jw).Ok d)(F:C.mT)(hi:ER (B:=B) C ψ iQ iP target (do let x ←iF iter C.env;iw iter.pos;holding [x] (pyIter x)) pi)
  (nX:∀jw iS iT v w,Ext iQ iP iS iT->jf iS iT v w->jm B (C.at jw) iS iT TR (assign target C.env w) (asg v))
  (hbody:∀jw,jm B (C.at jw) iQ iP FR (iE body C.env) bp) (hs:autoParam (∀x,ip iter C.env x=pure x) PyProof.Rows.Assign_ListComp_rowsP._auto_1) :
  jm B (C.at ψ) iQ iP FR (exec (.For target iter body [] pos) C.env) (P.bind (P.nP pi) (P.forL asg bp)):=by
 intro Φ ρ σ s x r;have h1:=hi Φ ρ σ s x r
 have key:∀{Q:Flow->g9->Prop} {E:g8->g9->Prop},hZ (M B) C.A (do let x ←iF iter C.env;iw iter.pos;holding [x] (pyIter x)) (fun it s'=>iy (M B) C.A (.forLoop target it body [] C.env) (fun r s'=>match r with | .ok f=>Q f s' | .error e=>cameBackBy (M B) C.A C.env E e s') s') E s->
   hZ (M B) C.A (exec (.For target iter body [] pos) C.env) Q E s:=fun{Q E} h=>by
  show hZ (M B) C.A (do iw pos;let x ←ip iter C.env (←iF iter C.env);iw iter.pos;runOwn (.forLoop target (←holding [x] (pyIter x)) body [] C.env) C.env) Q E s;refine g7 (ic fun Γ p hΓ=>?_);have:=h Γ p hΓ;rw[Sem.wp_bind'] at this ⊢;refine Sem.wp_mono _ _ _ (fun v p' s' q=>?_) (fun Y Y Y q=>q) _ _ this;rw[Sem.wp_bind',Sem.wp_cmd_standAt] at q;refine R1 (hs v) (R1 (Sem.wp_bind' ..) (R1 (Sem.wp_pure' ..) (R1 (Sem.wp_bind' ..) (R1 (Sem.wp_cmd_standAt ..) (R1 (Sem.wp_bind' ..) ?_)))));exact Sem.wp_mono _ _ _ (fun it p'' s'' q'=>wpAny_runOwn (h:=none) q' (by intro x;cases x) Γ p'' hΓ) (fun Y Y Y q=>q) _ _ q
 unfold P.bind P.nP;generalize pi σ=R at h1 ⊢;cases R with
 |stuck=>trivial
 |exc σ'=>trivial
 |ok xs σ'=>
  dsimp only
  have cd:∀it s',uC B C ψ Φ ρ s target σ' xs it s'->∀res,P.forL asg bp xs σ'=res->(res=.stuck->False)->iy (M B) C.A (.forLoop target it body [] C.env) (lN B (C.at ψ) Φ ρ s res) s':=fun it s' h res hres hns=>by obtain⟨jh,ρ',I,fp,St,rfl,q1,q2,q3,q4,q5,q6⟩:=h;exact codeAny_mono (D4 F q3 (fun jw iS iT v w e=>nX jw iS iT v w (x.trans (q1.ext.trans e))) (fun jw=>(hbody jw).weaken (x.trans q1.ext)) Ka xs jh ρ' σ' s' (.refl _ _) q2 q4 q5 q6 res hres hns) fun r s' h=>h.trans q1
  cases hres:P.forL asg bp xs σ' with
  |stuck=>trivial
  |ok f oj=>
   refine key (hV h1 (fun it s' q=>codeAny_mono (cd it s' q _ hres (fun e=>nomatch e)) fun r s'' h=>?_) fun Y Y f=>f.elim);cases r with
   |ok g=>exact h
   |error e=>exact h.elim
  |exc oj=>
   refine key (hV h1 (fun it s' q=>codeAny_mono (cd it s' q _ hres (fun e=>nomatch e)) fun r s'' h=>?_) fun Y Y f=>f.elim);cases r with
   |ok g=>exact h.elim
   |error e=>
    obtain⟨jh,ρ',a,rfl,q1,q2,q3⟩:=h;exact nS q2 q3 fun Pg Pj Pw Py=>⟨jh,ρ',a,rfl,q1.trans (Py ψ),Pj,Pw.BD⟩
end
section
variable{B:Base}{C:Ctx}{Φ jh iQ:Gh}{ρ ρ' iP:List hM}{σ σ':AS}{s s':g9}{d:Nat}{ψ jw:Gh}{e r l:iB}{pos:Pos}
noncomputable def rowOf(σ:AS): V->Option (List V)
 |.tup vs=>some vs
 |a=>jz σ a
noncomputable def P.index(a i:V): P V:=fun σ=>match i with
 |.int k=>match rowOf σ a with
  |some vs=>if 0<=k then(match vs[k.toNat]? with | some v=>.ok v σ | none=>.stuck) else .stuck
  |none=>.stuck
 |.bytes k=>match mW σ a with
  |some kvs=>match getKey kvs k with
   |some v=>.ok v σ
   |none=>.exc σ
  |none=>.stuck
 |_=>.stuck
theorem ja.size{vs:List V}{ws:Array g8}(h:ja Φ ρ vs ws.toList): ws.size=vs.length:=a5.symm.trans h.length
theorem rg{α β:Type}{RR:Gh->List hM->β->α->Prop}{b:β}{x:α}(r:Rel B C Φ ρ σ s)(h:RR Φ ρ b x)(tk:Nat): Post B C Φ ρ s RR σ b x {s with toks:=tk}:=⟨Φ,ρ,.same rfl,r.toks _,h⟩
theorem Rel.row(r:Rel B C Φ ρ σ s){a:V}{x:g8}{vs:List V}(ha:jf Φ ρ a x)(h:rowOf σ a=some vs): ∃p ws,x=.ref p/\ws.size<=io/\ja Φ ρ vs ws.toList/\(s.heap.IsTuple p ws\/s.heap.IsList p ws):=by
 have ls:jz σ a=some vs->∃p ws,x=.ref p/\ws.size<=io/\ja Φ ρ vs ws.toList/\(s.heap.IsTuple p ws\/s.heap.IsList p ws):=fun h=>by obtain⟨p,ws,n,rfl,h1,h2,h3⟩:=r.list ha h;exact⟨p,ws,rfl,h2,h3,.inr (js h1)⟩
 cases a with
 |tup us=>
  obtain⟨p,ws,n,rfl,h1,h2,h3⟩:=ha.kG;exact⟨p,ws,rfl,h2,aq.inj h▸h3,.inl (lI (r.keep _ _ h1))⟩
 |_=>exact ls h
theorem BX{e:hM}{h':ib}{tk:Nat}(r:Rel B C Φ ρ σ s)(x:ib.NewExc s.heap h' e "KeyError"): EPost B C Φ ρ s σ (.ref e) {s with heap:=h',toks:=tk}:=by obtain⟨ob,t,h1,h2,h3⟩:=x.there;exact⟨Φ,ρ,e,rfl,.same rfl,(r.grow x.keeps r.gens rfl:Rel B C Φ ρ σ {s with heap:=h',toks:=tk}).xO,r.xO.lq x.new,.inl ⟨ob,_,h1,h2,h3,(by decide:3<=6),rfl,rfl⟩⟩
theorem isKey(k:List UInt8)(t:Tok): (bytesKind PySem.Challenge.pw_ji0031_01 B.w).is k (.bytes k.toArray t)=true:=by simp[bytesKind,isBytes]
theorem BL{value slice:iB}{a i:V}{x y:g8}(hh:C.A.handled=none)(ha:jf iQ iP a x)(hi:jf iQ iP i y)
  (hs:autoParam (∀o i,subscripted slice false o i=operate [o,i] (getItem o i)) PySem.Subscript_Name._auto_1):jm B C iQ iP VR (subscriptTail value slice x y) (P.index a i):=by
 intro Φ ρ σ s ex r;have ha:=ha.mono ex;have hi:=(hi.mono ex).kG;cases i with
 |int k=>
  obtain⟨t,rfl⟩:=hi;unfold P.index;dsimp only;cases hvs:rowOf σ a with
  |none=>trivial
  |some vs=>
   dsimp only;by_cases h0:0<=k
   .refine R1 (if_pos h0) ?_;cases hv:vs[k.toNat]? with
    |none=>trivial
    |some v=>
     obtain⟨p,ws,rfl,h2,h3,hk⟩:=r.row ha hvs;obtain⟨w,g1,g2⟩:=h3.get hv;have hlt:k.toNat<ws.size:=h3.size▸(au.mp hv).1;have hb:k<2 ^ 63:=by refine R2 (d6 h0) ?_;exact lE (ab (aG hlt) h2)
     have g1:ws[k.toNat]?=some w:=by refine R2 aB ?_;exact g1
     have done:Post B C Φ ρ s VR σ v w s:=⟨Φ,ρ,.refl _ _ _ _,r,g2⟩;rcases hk with hk | hk
     .refine tail_any (T:= "tuple") hk.typeIs slot_tuple_getitem.lookup (getItem_tuple hk (cT (by decide) h0) hb (j:=k.toNat) ?_ g1 done) (hs _ _);unfold seqIndex?;dsimp only;rw[if_neg (cU.mpr h0),decide_eq_true h0,decide_eq_true (show k<((ws.size:Nat):Int) by rw[←d6 h0];exact bD.mpr hlt)];rfl
     .exact tail_any (T:= "list") hk.typeIs slot_list_getitem.lookup (wpAny_getItem_list hk h0 hb g1 done) (hs _ _)
   .refine R1 (if_neg h0) ?_;trivial
 |bytes k=>
  obtain⟨t,rfl⟩:=hi;unfold P.index;dsimp only;cases hd:mW σ a with
  |none=>trivial
  |some kvs=>
   obtain⟨n,p,-,rfl,-,-,h0,kws,h1,h2,h3,h4⟩:=r.dict ha hd;have hrel:=nJ k h3 h4;dsimp only;generalize getKey kvs k=R at hrel ⊢;cases R with
   |some v=>
    obtain⟨w,g1,g2⟩:=hrel;exact tail_any (T:= "dict") h1.mapOf.typeIs slot_dict_getitem.lookup (wpAny_getItem_of (isKey k _) h1.mapOf g1 (rg r g2 _)) (hs _ _)
   |none=>
    exact tail_any (T:= "dict") h1.mapOf.typeIs slot_dict_getitem.lookup (wpAny_getItem_missing_of (isKey k _) h0 hh h1.mapOf hrel fun h' e x=>BX r x) (hs _ _)
 |_=>trivial
theorem je{value slice:iB}{p q:P V}(hh:C.A.handled=none)(hv:jm B C iQ iP VR (iF value C.env) p)(hsl:jm B C iQ iP VR (iF slice C.env) q)
  (hs:autoParam (∀o i,subscripted slice false o i=operate [o,i] (getItem o i)) PySem.Subscript_Name._auto_1):jm B C iQ iP VR (iF (.Subscript value slice pos) C.env) (P.bind p fun a=>P.bind q fun i=>P.index a i):=by
 refine R1 (eval_Subscript ..) ?_;refine jn hv fun Y Y a x e ha=>jn (jB (hsl.weaken e)) fun Y Y i y e' hi=>kJ ?_;exact BL hh (ha.mono e') hi hs
noncomputable abbrev uW:Gh->List hM->List V->List g8->Prop:=fun Φ ρ vs ws=>ja Φ ρ vs ws
theorem iO:jm B C iQ iP uW (ix (il pos (ie [] C.env))) (P.pure []):=jK fun Y Y Y=>.nil
theorem iM{rest:List iB}{p:P V}{ps:P (List V)}(h:jm B C iQ iP VR (iF e C.env) p)(k:jm B C iQ iP uW (ix (il pos (ie rest C.env))) ps)
  (hs:autoParam (ie (e::rest) C.env=(false,iF e C.env)::ie rest C.env) PySem.W.call_K._auto_4) :
  jm B C iQ iP uW (ix (il pos (ie (e::rest) C.env))) (P.bind p fun v=>P.bind ps fun vs=>P.pure (v::vs)):=by
 refine R1 hs ?_;refine jn (g:=fun v=>P.bind ps fun vs=>P.pure (v::vs)) h fun Y Y v w e hv=>?_;show jm B C _ _ uW (holding [w] (ix (il pos (ie rest C.env))) >>= fun r=>pure ([w]++r)) _;exact jn (jB (k.weaken e)) fun Y Y vs ws e' hvs=>jK fun Y Y x=>.cons ((hv.mono e').mono x) (hvs.mono x)
noncomputable def P.tuple(vs:List V): P V:=if vs.length<=1000000 then P.pure (.tup vs) else P.stuck
noncomputable def P.list(vs:List V): P V:=if vs.length<=1000000 then P.pure (.lst vs) else P.stuck
theorem rI{vs:List V}{ws:List g8}(h:ja Φ ρ vs ws)(hle:vs.length<=1000000): ws.length<=io:=ab (aE h.length) (ab hle (by rw[im];decide))
theorem v3{vs:List V}{ws:List g8}(h:ja iQ iP vs ws): jm B C iQ iP VR (newTuple ws) (P.tuple vs):=by
 intro Φ ρ σ s x r;unfold P.tuple;by_cases hle:vs.length<=1000000
 .refine R1 (if_pos hle) ?_;have hl:=rI h hle;have hp:=r.push (o:={cls:=.type "tuple",data:=.seq ws.toArray}) rfl s.toks;exact wpAny_newTuple ⟨_,_,hp.2,hp.1,.tup (Gh.jQ _ _ _) hl ((h.mono x).mono hp.2.ext)⟩ hl
 .refine R1 (if_neg hle) ?_;trivial
theorem xX{vs:List V}{ws:List g8}(h:ja iQ iP vs ws): jm B C iQ iP VR (newList ws) (P.list vs):=by
 intro Φ ρ σ s x r;unfold P.list;by_cases hle:vs.length<=1000000
 .refine R1 (if_pos hle) ?_;have hl:=rI h hle;have hp:=r.push (o:={cls:=.type "list",data:=.seq ws.toArray}) rfl s.toks;exact wpAny_newList ⟨_,_,hp.2,hp.1,.lst (Gh.jQ _ _ _) hl ((h.mono x).mono hp.2.ext)⟩ hl
 .refine R1 (if_neg hle) ?_;trivial
theorem jV{es:List iB}{k:Nat}{ps:P (List V)}(h:jm B C iQ iP uW (ix (il pos (ie es C.env))) ps): jm B C iQ iP VR (iF (.Tuple es k pos) C.env) (P.bind ps P.tuple):=by show jm B C iQ iP VR (iw pos >>= fun Y=>ix (il pos (ie es C.env)) >>= newTuple) _;exact kJ (jn h fun Y Y vs ws e hv=>v3 hv)
noncomputable def AP(n:Nat): Bool:=[6,23,85,111,133,218,229,230,231,232,233,234,272,314].contains n
theorem jp{es:List iB}{ps:P (List V)}(hm:AP pos.line=false)(h:jm B C iQ iP uW (ix (il pos (ie es C.env))) ps): jm B C iQ iP VR (iF (.List es pos) C.env) (P.bind ps P.list):=by show jm B C iQ iP VR (iw pos >>= fun Y=>ix (il pos (ie es C.env)) >>= newList) _;exact kJ (jn h fun Y Y vs ws e hv=>xX hv)
theorem tE{α:Type}{l:List α}{a:α}(h:l.Nodup)(ha:a∉l): (l++[a]).Nodup:=
 aU.mpr ⟨h,by simp,fun x hx y hy q=>ha (by rw[af.mp hy] at q;exact q▸hx)⟩
theorem snoc_cases{α:Type}{l:List α}{a x:α}{i:Nat}(h:(l++[a])[i]?=some x): (i<l.length/\l[i]?=some x)\/(i=l.length/\a=x):=by
 rcases dB i l.length with q | q | q
 .rw[aH q] at h;exact .inl ⟨q,h⟩
 .rw[q,bf] at h;exact .inr ⟨q,aq.inj h⟩
 .rw[cm (by refine R1 ar ?_;exact q)] at h;exact no h
theorem Rel.alloc(r:Rel B C Φ ρ σ s){o:Obj}{ao:AO}(hf:o.isFreed=false)(hr:∀ρ',Ext Φ ρ Φ ρ'->uX B Φ ρ' (s.heap.push o) ao s.heap.objs.size):
  Rel B C Φ (ρ++[s.heap.objs.size]) {σ with heap:=σ.heap++[ao]} {s with heap:=s.heap.push o}/\Step C.jO s Φ ρ {s with heap:=s.heap.push o} Φ (ρ++[s.heap.objs.size]):=by
 have hn:=ib.get?_none_of_le (h:=s.heap) (aM s.heap.objs.size);obtain⟨o1,o2,o3,o4⟩:=r.lq hn;have e:Ext Φ ρ Φ (ρ++[s.heap.objs.size]):=⟨.refl _,fS _ _⟩;have r':Rel B C Φ ρ σ {s with heap:=s.heap.push o}:=r.grow (fun Y Y e=>ib.get?_push_of_some _ e) r.gens rfl;have tS:C.mine (ρ++[s.heap.objs.size])=C.mine ρ++[s.heap.objs.size]:=(ax ..).symm;refine⟨⟨r'.base,r'.keep,r'.jO,?_,fun i x c q=>(r'.cells i x c q).mono e fun e1 e2 Y=>⟨e1,e2,fun Y h=>h⟩,fun i x c v q1 q2=>?_,r'.nG,r'.kT,by exact R1 ar (R1 ar (R1 r.len rfl)),fun i o' a q1 q2=>?_,r'.own,fun i a q1 q2=>?_,tS▸tE r.nodup o3,r'.vars,fun P hP=>?_,r'.gens,r'.os,r'.le⟩,e,fun Y Y q=>q,fun Y Y q=>.inl q,fun a ha=>?_⟩
 .obtain⟨m,h1,h2⟩:=r'.ns;exact⟨m,h1,fun i x v q1 q2=>(h2 i x v q1 q2).imp fun w h=>⟨h.1,h.2.mono e⟩⟩
 .exact(r'.uN i x c v q1 q2).imp fun w h=>⟨h.1,h.2.mono e⟩
 .rcases snoc_cases q1 with ⟨h,q1⟩ | ⟨h,rfl⟩
  .rcases snoc_cases q2 with ⟨-,q2⟩ | ⟨h',-⟩
   .exact(r'.objs i o' a q1 q2).mono e fun Y e=>e
   .exact absurd (h'.trans r.len) (aK h)
  .rcases snoc_cases q2 with ⟨h',-⟩ | ⟨-,rfl⟩
   .exact absurd (h.trans r.len.symm) (aK h')
   .exact hr _ e
 .rcases snoc_cases q1 with ⟨h,q1⟩ | ⟨h,rfl⟩
  .rw[aH (r.len▸h)] at q2;exact r'.live i a q1 q2
  .exact⟨o1,o2⟩
 .obtain⟨t1,t2,t3,t4⟩:=r'.tabs P hP;exact⟨t1,t2,t3,fun hm=>(aA.mp (tS▸hm)).elim t4 fun hm=>o4 ((show P=s.heap.objs.size from af.mp hm)▸hP)⟩
 .exact(aA.mp ha).imp id fun h=>(af.mp h:a=_)▸o2
noncomputable def P.newList(vs:List V): P V:=fun σ=>if vs.length<=1000 then .ok (.ref σ.heap.length) {σ with heap:=σ.heap++[.list vs]} else .stuck
noncomputable def P.newDict:P V:=fun σ=>.ok (.ref σ.heap.length) {σ with heap:=σ.heap++[.dict []]}
theorem kQ{es:List iB}{ps:P (List V)}(hm:AP pos.line=true)(h:jm B C iQ iP uW (ix (il pos (ie es C.env))) ps): jm B C iQ iP VR (iF (.List es pos) C.env) (P.bind ps P.newList):=by
 show jm B C iQ iP VR (iw pos >>= fun Y=>ix (il pos (ie es C.env)) >>= newList) _;refine kJ (jn h fun Y Y vs ws e hv=>?_);intro Φ ρ σ s x r;have h:=hv.mono x;unfold P.newList;by_cases hle:vs.length<=1000
 .refine R1 (if_pos hle) ?_;have hl:=rI h (ab hle (by decide));obtain⟨q1,q2⟩:=r.alloc (o:={cls:=.type "list",data:=.seq ws.toArray}) (ao:=.list vs) rfl fun ρ' e=>⟨ws.toArray,0,ib.get?_push_size _ rfl,hl,h.mono e⟩;exact wpAny_newList ⟨_,_,q2,q1,.ref (by exact R2 r.len (R1 bf rfl))⟩ hl
 .refine R1 (if_neg hle) ?_;trivial
theorem tu{k:Nat}: jm B C iQ iP VR (iF (.Dict [] [] pos) C.env) P.newDict:=by
 intro Φ ρ σ s x r
 have hsys:(s.heap.objs.size == sysModules)=false:=by obtain⟨o,es,ep,e1,_⟩:=B.g;have:=ib.lt_size (r.keep _ _ (r.base _ _ e1));exact beq_eq_false_iff_ne.mpr fun q=>absurd (show iD<1 from(show _=1 from q)▸this) (by decide)
 obtain⟨q1,q2⟩:=r.alloc (o:={cls:=.type "dict",data:=.dict #[]}) (ao:=.dict []) rfl fun ρ' e=>⟨hsys,[],ib.DictOf.new _,bt _,rfl,.nil⟩;refine wpAny_Dict_empty ?_;exact⟨_,_,q2,q1,.ref (by exact R2 r.len (R1 bf rfl))⟩
end
section
variable{B:Base}{C:Ctx}{Φ jh iQ:Gh}{ρ ρ' iP:List hM}{σ σ':AS}{s s':g9}{d:Nat}{ψ jw:Gh}{e r l:iB}{pos:Pos}
variable{α β γ δ:Type}{RR:Gh->List hM->β->α->Prop}{SS:Gh->List hM->δ->γ->Prop}
theorem mG{t:Sem α}{t':Sem γ}{f:α->Sem γ}{p:P β}{g:β->P δ}(h:jm B C iQ iP RR t p)
  (hk:∀Φ ρ σ s,Ext iQ iP Φ ρ->Rel B C Φ ρ σ s->∀(Q:γ->g9->Prop) (E:g8->g9->Prop),hZ (M B) C.A t (fun a s₁=>(∃jh ρ' σ',Ext Φ ρ jh ρ'/\Rel B C jh ρ' σ' s₁)/\hZ (M B) C.A (f a) Q E s₁) E s->hZ (M B) C.A t' Q E s)
  (k:∀iS iT b a,Ext iQ iP iS iT->RR iS iT b a->jm B C iS iT SS (f a) (g b)):jm B C iQ iP SS t' (P.bind p g):=by
 intro Φ ρ σ s x r;have h1:=h Φ ρ σ s x r;have hk:=hk Φ ρ σ s x r;unfold P.bind;generalize p σ=R at h1 ⊢;cases R with
 |stuck=>trivial
 |exc σ'=>
  exact hk _ _ (hV h1 (fun Y Y q=>q.elim) fun Y Y q=>q)
 |ok b σ'=>
  have key:∀a s',Post B C Φ ρ s RR σ' b a s'->(∃jh ρ' σ',Ext Φ ρ jh ρ'/\Rel B C jh ρ' σ' s')/\kZ B C Φ ρ s SS (f a) s' (g b σ'):=fun a s' h=>by obtain⟨jh,ρ',q1,q2,q4⟩:=h;exact⟨⟨jh,ρ',σ',q1.ext,q2⟩,kZ.trans q1 (q1.jO q2.le) (k jh ρ' b a (x.trans q1.ext) q4 jh ρ' σ' s' (.refl _ _) q2)⟩
  dsimp only;generalize g b σ'=R at key ⊢;cases R with
  |stuck=>trivial
  |ok b' oj=>
   exact hk _ _ (hV h1 (fun a s' q=>key a s' q) fun Y Y q=>q.elim)
  |exc oj=>
   exact hk _ _ (hV h1 (fun a s' q=>key a s' q) fun Y Y q=>q.elim)
noncomputable def CW(B:Base)(v:g8): Prop:=∀(A:ig) (s:g9) (pos:Pos) (first:List g8) (trees:List (Bool×Sem g8)) (Q:g8->g9->Prop) (E:g8->g9->Prop),trees.any (·.1)=false->
 hZ (M B) A (ix trees) (fun vs s₁=>(∀b o,B.h0.get? b=some o->s₁.heap.get? b=some o)/\hZ (M B) A (call v (first++vs) []) Q E s₁) E s->hZ (M B) A (callWith pos v first trees []) Q E s
theorem ml{A:ig}{f:g8}{trees:List (Bool×Sem g8)}{Q:Args->g9->Prop}{E:g8->g9->Prop}(ht:trees.any (·.1)=false)
  (h:hZ (M B) A (ix trees) (fun vs s'=>Q ⟨vs,[]⟩ s') E s):hZ (M B) A (evalArgs f true trees []) Q E s:=by
 cases trees with
 |nil=>
  unfold evalArgs;show hZ (M B) A (ix [] >>= _) Q E s;refine g7 (hV h (fun vs s' h'=>?_) fun Y Y x=>x);refine ik ?_;exact g7 (hO (g7 (hO (hO h'))))
 |cons t rest=>
  obtain⟨b,t⟩:=t;cases b with
  |false=>exact evalArgs_plain h
  |true=>exact cC ht
theorem ku(id:String): CW B (.builtin id):=fun A s pos first trees Q E ht h=>PySem.Calls.callWith_builtin ht (ml ht (hV h (fun Y Y q=>q.2) fun Y Y q=>q))
theorem mF(T:String): CW B (.type T):=fun A s pos first trees Q E ht h=>PySem.callWith_type ht (ml ht (hV h (fun Y Y q=>q.2) fun Y Y q=>q))
theorem Bf{a:hM}{o:Obj}{fd:iG}(ho:B.h0.get? a=some o)(hd:o.data=.func fd): CW B (.ref a):=fun A s pos first trees Q E ht h=>
 PySem.Calls.callWith_function (o:=o) (fd:=fd) (ml ht (hV h (fun Y Y q=>⟨⟨q.1 _ _ ho,hd⟩,q.2⟩) fun Y Y q=>q))
theorem mE{x:Str}{p pos:Pos}{args:List iB}{env:Env}: iF (.Call (.Name x p) args [] pos) env=(iF (.Name x p) env >>= fun f=>callWith pos f [] (il pos (ie args env)) []):=rfl
noncomputable abbrev CR(v:g8): Gh->List hM->Unit->g8->Prop:=fun Y Y Y w=>w=v
theorem AA{t:Sem g8}{v:g8}(h:∀Φ ρ σ s,Ext iQ iP Φ ρ->Rel B C Φ ρ σ s->∀Q E,(∀tk,Q v {s with toks:=tk})->hZ (M B) C.A t Q E s):
  jm B C iQ iP (CR v) t (P.pure ()):=fun Φ ρ σ s x r=>
 h Φ ρ σ s x r _ _ fun tk=>⟨Φ,ρ,.same rfl,r.toks tk,rfl⟩
theorem ju{x pos v}(K:C.Ok d)(hx:C.env.kindOf x=some .globalImplicit)(hv:∀P,nsIn (hd.heap_1 P) iD x=some (some v))(hd:autoParam ((x == ("__debug__" : Str))=false) PySem.ldc._auto_1):
  jm B C iQ iP (CR v) (iF (.Name x pos) C.env) (P.pure ()):=
 AA fun Φ ρ σ s e r Q E h=>Name_function_global K.kind hx (loadGlobal_global (K.globals▸(B.g.keeps fun b o q=>r.keep _ _ (r.base b o q))) (mg_of B.K B.g (hv _)) (h s.toks)) hd
theorem jC{x pos v}(K:C.Ok d)(hx:C.env.kindOf x=some .globalImplicit)(hm:∀P,nsIn (hd.heap_1 P) iD x=some none)(hv:bootBuiltins x=some v)(hn:autoParam (x≠ "__name__") PySem.ldc._auto_1)
  (hd:autoParam ((x == ("__debug__" : Str))=false) PySem.ldc._auto_1):jm B C iQ iP (CR v) (iF (.Name x pos) C.env) (P.pure ()):=
 AA fun Φ ρ σ s e r Q E h=>by have k:=fun b o q=>r.keep b o (r.base b o q);exact Name_function_global K.kind hx (loadGlobal_builtin (K.globals▸(B.g.keeps k)) (mg_none_of B.K B.g (hm _)) (K.builtins▸(B.b.keeps k)) ((B.builtins x hn).trans hv) (h s.toks)) hd
theorem jl{x:Str}{np pos:Pos}{args:List iB}{v:g8}{ps:P (List V)}{F:List V->P V}(hf:jm B C iQ iP (CR v) (iF (.Name x np) C.env) (P.pure ()))(cw:CW B v)
  (hargs:jm B C iQ iP uW (ix (il pos (ie args C.env))) ps) (hcall:∀iS iT vs ws,Ext iQ iP iS iT->ja iS iT vs ws->jm B C iS iT VR (call v ws []) (F vs))
  (ht:autoParam ((il pos (ie args C.env)).any (·.1)=false) PySem.W.call_K._auto_4):jm B C iQ iP VR (iF (.Call (.Name x np) args [] pos) C.env) (P.bind ps F):=by
 refine R1 mE ?_;show jm B C iQ iP VR _ (P.bind (P.pure ()) fun Y=>P.bind ps F);refine jn hf fun iS iT Y a e hb=>?_;obtain rfl:a=v:=hb;refine mG (hargs.weaken e) (fun Φ ρ σ s Y r Q E h=>cw _ _ _ [] _ _ _ ht (hV h (fun Y Y q=>⟨?_,q.2⟩) fun Y Y q=>q)) (fun kF jv vs ws e' hv=>hcall kF jv vs ws (e.trans e') hv);obtain⟨⟨jh,ρ',σ',_,r'⟩,_⟩:=q;exact fun b o q=>r'.keep _ _ (r'.base b o q)
noncomputable def lenOf(σ:AS): V->Option Nat
 |.tup vs=>some vs.length
 |v=>(jz σ v).map cB
noncomputable def P.len(vs:List V): P V:=fun σ=>match vs with
 |[v]=>match lenOf σ v with
  |some n=>.ok (.int n) σ
  |none=>.stuck
 |_=>.stuck
inductive LI(Φ:Gh)(ρ:List hM)(v:V)(ws:List g8): Prop
 |mk (w:g8) (h0:ws=[w]) (h1:jf Φ ρ v w)
inductive LB(Φ:Gh)(ρ:List hM)(v u:V)(ws:List g8): Prop
 |mk (w x:g8) (h0:ws=[w,x]) (h1:jf Φ ρ v w) (h2:jf Φ ρ u x)
inductive Hc(Φ:Gh)(ρ:List hM)(v u t:V)(ws:List g8): Prop
 |mk (w x y:g8) (h0:ws=[w,x,y]) (h1:jf Φ ρ v w) (h2:jf Φ ρ u x) (h3:jf Φ ρ t y)
theorem ja.one{v:V}{ws:List g8}(h:ja Φ ρ [v] ws): LI Φ ρ v ws:=by obtain⟨w,us,rfl,a,b⟩:=h.kG;exact⟨w,congrArg _ b.kG,a⟩
theorem ja.two{v u:V}{ws:List g8}(h:ja Φ ρ [v,u] ws): LB Φ ρ v u ws:=by obtain⟨w,us,rfl,a,b⟩:=h.kG;obtain⟨x,rfl,c⟩:=b.one;exact⟨w,x,rfl,a,c⟩
theorem ja.three{v u t:V}{ws:List g8}(h:ja Φ ρ [v,u,t] ws): Hc Φ ρ v u t ws:=by obtain⟨w,us,rfl,a,b⟩:=h.kG;obtain⟨x,y,rfl,c,d⟩:=b.two;exact⟨w,x,y,rfl,a,c,d⟩
theorem pB{t:List g8->Sem g8}{F:List V->P V}{vs:List V}{ws:List g8}(h:ja iQ iP vs ws)(h0:F []=P.stuck)(h2:∀v u r,F (v::u::r)=P.stuck)(h1:∀v w,jf iQ iP v w->jm B C iQ iP VR (t [w]) (F [v])): jm B C iQ iP VR (t ws) (F vs):=by
 cases vs with
 |nil=>refine R1 h0 ?_;exact jr
 |cons v r=>cases r with
  |nil=>obtain⟨w,rfl,hv⟩:=h.one;exact h1 v w hv
  |cons u r=>refine R1 (h2 ..) ?_;exact jr
theorem B0{v:V}{n:Nat}(h:lenOf σ v=some n): ∃vs,rowOf σ v=some vs/\vs.length=n:=by
 cases v with
 |tup vs=>exact⟨vs,rfl,aq.inj h⟩
 |_=>exact aV.mp h
theorem Fo{vs:List V}{ws:List g8}(h:ja iQ iP vs ws): jm B C iQ iP VR (call (.builtin "len") ws []) (P.len vs):=
 pB (t:=fun ws=>call (.builtin "len") ws []) h rfl (fun Y Y Y=>rfl) fun v w hv Φ ρ σ s x r=>by
  unfold P.len;dsimp only;cases hn:lenOf σ v with
  |none=>trivial
  |some n=>
   obtain⟨vs,h1,rfl⟩:=B0 hn;obtain⟨p,ws,rfl,h2,h3,hk⟩:=r.row (hv.mono x) h1;refine R2 h3.size ?_;exact hk.elim (fun hk=>PyProof.Rows.len_tuple hk (lE h2) (rg r (.int _ _) _)) fun hk=>PySem.Calls.call_len_list hk (lE h2) (rg r (.int _ _) _)
noncomputable def P.range:List V->P V
 |[.int b]=>P.pure (.rng 0 b 1)
 |[.int a,.int b,.int c]=>fun σ=>if c≠0/\c.natAbs<1073741824 then .ok (.rng a b c) σ else .stuck
 |_=>P.stuck
theorem BK{vs:List V}{ws:List g8}(h:ja iQ iP vs ws): jm B C iQ iP VR (call (.type "range") ws []) (P.range vs):=by
 intro Φ ρ σ s x r;have h:=h.mono x;cases vs with
 |nil=>trivial
 |cons v vs=>cases v with
  |int a=>cases vs with
   |nil=>
    obtain⟨w,rfl,hv⟩:=h.one;obtain⟨t,rfl⟩:=hv.kG;obtain⟨q1,q2⟩:=r.push (o:={cls:=g8.type "range",data:=Data.fields #[g8.int 0 s.toks,g8.int _ _,g8.int 1 (s.toks+1)]}) rfl (s.toks+1+1);exact PySem.call_range_1 ⟨_,_,q2,q1,.rng (Gh.jQ _ _ _)⟩
   |cons v vs=>cases v with
    |int b=>cases vs with
     |nil=>trivial
     |cons v vs=>cases v with
      |int c=>cases vs with
       |cons _ _=>trivial
       |nil=>
        obtain⟨w,w',w'',rfl,h1,h2,h3⟩:=h.three;obtain⟨t1,rfl⟩:=h1.kG;obtain⟨t2,rfl⟩:=h2.kG;obtain⟨t3,rfl⟩:=h3.kG;unfold P.range;dsimp only;by_cases hc:c≠0/\c.natAbs<1073741824
        .refine R1 (if_pos hc) ?_;obtain⟨q1,q2⟩:=r.push (o:={cls:=g8.type "range",data:=Data.fields #[g8.int _ _,g8.int _ _,g8.int _ _]}) rfl s.toks;exact PySem.call_range_3 hc.1 ⟨_,_,q2,q1,.rng (Gh.jQ _ _ _)⟩ (.inl (PyProof.noPylong_small hc.2))
        .refine R1 (if_neg hc) ?_;trivial
      |_=>trivial
    |_=>trivial
  |_=>cases vs<;>trivial
noncomputable def P.abs:List V->P V
 |[.int a]=>P.pure (.int (if a<0 then -a else a))
 |_=>P.stuck
theorem AC{vs:List V}{ws:List g8}(h:ja iQ iP vs ws): jm B C iQ iP VR (call (.builtin "abs") ws []) (P.abs vs):=
 pB (t:=fun ws=>call (.builtin "abs") ws []) h rfl (fun v Y Y=>by cases v<;>rfl) fun v w hv=>by
  cases v with
  |int a=>obtain⟨t,rfl⟩:=hv.kG;exact fun Φ ρ σ s x r=>PyProof.Rows.call_abs_int fun u tk=>rg r (.int _ _) _
  |_=>exact jr
end
section
variable{Φ jh:Gh}{ρ ρ':List hM}
theorem sm{n:Nat}{a b:hM}(x:ρ <+: ρ')(h:ρ[n]?=some b)(k:ρ'[n]?=some a): ρ[n]?=some a:=by rw[jX x h] at k;exact h.trans k
theorem jf.back(x:ρ <+: ρ'){v w w'}(h:jf Φ ρ v w)(h':jf jh ρ' v w'): jf jh ρ v w':=
 jf.rec (motive_1:=fun v w' Y=>∀w,jf Φ ρ v w->jf jh ρ v w') (motive_2:=fun v w' Y=>∀w,ja Φ ρ v w->ja jh ρ v w') (motive_3:=fun v w' Y=>∀w,nD Φ ρ v w->nD jh ρ v w')
  (fun Y Y=>.none) (fun b Y Y=>.bool b) (fun i t Y Y=>.int i t) (fun b t Y Y=>.bytes b t) (fun a b Y ih Y h=>by obtain⟨_,_,_,_,_,_,c⟩:=h.kG;exact .tup a b (ih _ c)) (fun a b Y ih Y h=>by obtain⟨_,_,_,_,_,_,c⟩:=h.kG;exact .lst a b (ih _ c))
  (fun a Y h=>by obtain⟨_,_,b⟩:=h.kG;exact .ref (sm x b a)) (fun w Y Y=>.con w) (fun a b c d e Y ih Y h=>by obtain⟨_,_,_,_,_,_,_,_,_,_,_,_,_,_,f⟩:=h.kG;exact .clo a b c d e (ih _ f)) (fun a b c d e Y Y=>.fset a b c d e)
  (fun a b i Y h=>by obtain⟨_,_,_,_,_,_,_,_,c⟩:=h.kG;exact .work a b (sm x c i)) (fun a Y Y=>.rng a) (fun Y Y=>.nil) (fun Y Y i1 i2 Y h=>by obtain⟨_,_,_,a,b⟩:=h.kG;exact .cons (i1 _ a) (i2 _ b)) (fun Y Y=>.nil) (fun a b Y Y i1 i2 Y h=>by cases h with | cons _ _ c d=>exact .cons a b (i1 _ c) (i2 _ d)) h' w h
theorem ja.back(x:ρ <+: ρ'): ∀{vs ws ws'},ja Φ ρ vs ws->ja jh ρ' vs ws'->ja jh ρ vs ws'
 |[],_,_,_,h=>by refine R1 (show _=_ from h.kG) ?_;exact .nil
 |_::_,_,_,h,h'=>by
  obtain⟨_,_,_,a,b⟩:=h.kG;obtain⟨_,_,rfl,a',b'⟩:=h'.kG;exact .cons (a.back x a') (b.back x b')
end
noncomputable def su:V->Bool
 |.none | .bool _ | .int _ | .bytes _=>true
 |_=>false
noncomputable def t0:V->Bool
 |.lst vs=>vs.all su
 |.tup vs=>vs.all su
 |v=>su v
section
variable{Φ:Gh}{ρ ρ':List hM}
theorem vE{v:V}{w:g8}(h:su v=true)(k:jf Φ ρ v w): jf Φ ρ' v w:=by
 have k:=k.kG;cases v with
 |none=>refine R1 (show w=_ from k) ?_;exact .none
 |bool b=>refine R1 (show w=_ from k) ?_;exact .bool _
 |int i=>obtain⟨t,rfl⟩:=k;exact .int _ _
 |bytes b=>obtain⟨t,rfl⟩:=k;exact .bytes _ _
 |_=>exact cC h
theorem o9:∀{vs:List V} {ws:List g8},vs.all su=true->ja Φ ρ vs ws->ja Φ ρ' vs ws
 |[],_,_,k=>by refine R1 (show _=_ from k.kG) ?_;exact .nil
 |v::vs,_,h,k=>by
  obtain⟨_,_,rfl,a,b⟩:=k.kG;obtain⟨h1,h2⟩:=(aW _ _).mp h;exact .cons (vE h1 a) (o9 h2 b)
theorem Ce{v:V}{w:g8}(h:t0 v=true)(k:jf Φ ρ v w): jf Φ ρ' v w:=by
 cases v with
 |tup vs=>obtain⟨_,_,_,rfl,a,b,c⟩:=k.kG;exact .tup a b (o9 h c)
 |lst vs=>obtain⟨_,_,_,rfl,a,b,c⟩:=k.kG;exact .lst a b (o9 h c)
 |_=>exact vE h k
end
noncomputable def slotsOf:List (Str×ij)->List (Str×hM)->List (Str×Loc)
 |[],_=>[]
 |(x,k)::r,cs=>match k with
  |.local=>(x,.loc)::slotsOf r cs
  |.cell=>match cs.lookup x with
   |some c=>(x,.cell c)::slotsOf r cs
   |none=>slotsOf r cs
  |_=>slotsOf r cs
theorem nK{cs:List (Str×hM)}{x:Str}{l:Loc}: ∀{names:List (Str×ij)} {i:Nat},(slotsOf names cs)[i]?=some (x,l)->
  (l=.loc/\(x,ij.local)∈names)\/∃c,l=.cell c/\(x,ij.cell)∈names/\cs.lookup x=some c
 |[],_,h=>nomatch h
 |(y,k)::r,i,h=>by
  have tl:∀{j:Nat},(slotsOf r cs)[j]?=some (x,l)->(l=.loc/\(x,ij.local)∈(y,k)::r)\/∃c,l=.cell c/\(x,ij.cell)∈(y,k)::r/\cs.lookup x=some c:=fun h=>
   (nK h).imp (fun q=>⟨q.1,ad _ q.2⟩) fun q=>q.imp fun c q=>⟨q.1,ad _ q.2.1,q.2.2⟩
  cases k with
  |«local»=>cases i with
   |zero=>cases (show some (y,Loc.loc)=some (x,l) from h);exact .inl ⟨rfl,ac⟩
   |succ i=>exact tl (j:=i) h
  |cell=>
   unfold slotsOf at h;dsimp only at h;cases hc:cs.lookup y with
   |none=>rw[hc] at h;exact tl h
   |some c=>
    rw[hc] at h;cases i with
    |zero=>cases (show some (y,Loc.cell c)=some (x,l) from h);exact .inr ⟨c,rfl,ac,hc⟩
    |succ i=>exact tl (j:=i) h
  |_=>exact tl h
theorem sf{cs:List (Str×hM)}: ∀{names:List (Str×ij)},((slotsOf names cs).map (·.1)).Sublist (names.map (·.1))
 |[]=>.slnil
 |(y,k)::r=>by
  have ih:=sf (cs:=cs) (names:=r);cases k with
  |«local»=>exact ih.cons_cons _
  |cell=>
   unfold slotsOf;dsimp only;cases cs.lookup y with
   |none=>exact ih.cons _
   |some c=>exact ih.cons_cons _
  |_=>exact ih.cons _
theorem qa{x:Str}{k:ij}: ∀{names:List (Str×ij)},(names.map (·.1)).Nodup->(x,k)∈names->names.lookup x=some k
 |(y,j)::r,hn,hm=>by
  obtain⟨n1,n2⟩:=be.mp hn;refine R1 bv ?_;rcases av.mp hm with q | q
  .cases q;exact R1 (beq_self_eq_true ..) rfl
  .refine R1 (beq_eq_false_iff_ne.mpr (show x≠y from fun e=>n1 (bg.mpr ⟨(x,k),q,e⟩))) ?_;exact qa n2 q
theorem qz{fd:iG}{fa L:hM}(hn:(fd.scope.names.map (·.1)).Nodup){i:Nat}{x:Str}{l:Loc}(e:(slotsOf fd.scope.names (ir (L+1) fd.scope.names []))[i]?=some (x,l)): uy (iz fd L fa) (x,l):=by
 rcases nK e with ⟨rfl,hm⟩ | ⟨c,rfl,hm,hc⟩
 .exact qa hn hm
 .exact⟨qa hn hm,hc⟩
noncomputable def Ctx.callee(C:Ctx)(fd:iG)(fa L:hM)(m:Str->Option g8)(h:ib): Ctx:=
 {env:=iz fd L fa,slots:=slotsOf fd.scope.names (ir (L+1) fd.scope.names []),kT:=(C.env.locals,m)::C.kT,jO:=Gh.add C.jO h (cellsOf C.slots),ms:=Gh.add C.jO h (cellsOf C.slots),A:=C.A.deeper (iz fd L fa)}
noncomputable def jy(names:List Str)(xs:List Str)(vs:List V): List Slot:=names.map fun x=>match (xs.zip vs).reverse.lookup x with
 |some v=>.val v
 |none=>.unset
open Classical in
noncomputable def pG(H:List AO)(v:V)(H':List AO): Option (V×List AO):=
 if H'.length=H.length then some (v,H')
 else if H=H'.take H.length then(match v with
  |.ref k=>if k<H.length then none else match H'[k]? with
   |some (.list vs)=>if vs.all su=true then some (.lst vs,H) else none
   |_=>none
  |v=>if t0 v=true then some (v,H) else none)
 else none
open Classical in
noncomputable def leaveH(H H':List AO): Option (List AO):=if H'.length=H.length then some H' else if H=H'.take H.length then some H else none
noncomputable def P.leave(H:List AO)(vars:List Slot)(v:V)(σ':AS): Res V:=match pG H v σ'.heap with
 |some (v,H)=>.ok v ⟨H,vars⟩
 |none=>.stuck
noncomputable def P.tM(H:List AO)(vars:List Slot)(σ':AS): Res V:=match leaveH H σ'.heap with
 |some H=>.exc ⟨H,vars⟩
 |none=>.stuck
noncomputable def AH:AF->Option V
 |.ret v=>some v
 |.next=>some .none
 |_=>none
noncomputable def P.fn(iv:List Slot)(body:P AF): P V:=fun σ=>match body ⟨σ.heap,iv⟩ with
 |.ok f σ'=>match AH f with
  |some v=>P.leave σ.heap σ.vars v σ'
  |none=>.stuck
 |.exc σ'=>P.tM σ.heap σ.vars σ'
 |.stuck=>.stuck
noncomputable def Lv(H H' ET:List AO)(v v':V): Prop:=(ET=H'/\v'=v)\/(ET=H/\H=H'.take H.length/\((t0 v=true/\v'=v)\/∃k vs,v=.ref k/\¬ k<H.length/\H'[k]?=some (.list vs)/\vs.all su=true/\v'=.lst vs))
theorem wJ{H H' ET:List AO}{v v':V}(h:pG H v H'=some (v',ET)): Lv H H' ET v v':=by
 unfold pG at h;by_cases h1:H'.length=H.length
 .rw[if_pos h1] at h;cases h;exact .inl ⟨rfl,rfl⟩
 .rw[if_neg h1] at h
  obtain⟨h2,h⟩:H=H'.take H.length/\_:=by
   by_cases h2:H=H'.take H.length
   .rw[if_pos h2] at h;exact⟨h2,h⟩
   .rw[if_neg h2] at h;exact no h
  have fl:(if t0 v=true then some (v,H) else none)=some (v',ET)->Lv H H' ET v v':=fun h=>by obtain⟨h3,e⟩:=oY h;cases e;exact .inr ⟨rfl,h2,.inl ⟨h3,rfl⟩⟩
  cases v with
  |ref k=>
   dsimp only at h;by_cases hk:k<H.length
   .rw[if_pos hk] at h;exact no h
   .rw[if_neg hk] at h;cases hq:H'[k]? with
    |none=>rw[hq] at h;exact no h
    |some o=>
     rw[hq] at h;cases o with
     |list vs=>
      obtain⟨h3,e⟩:=oY h;cases e;exact .inr ⟨rfl,h2,.inr ⟨k,vs,rfl,hk,hq,h3,rfl⟩⟩
     |_=>exact no h
  |_=>exact fl h
theorem wK{H H' ET:List AO}(h:leaveH H H'=some ET): ET=H'\/(ET=H/\H=H'.take H.length):=by
 unfold leaveH at h;by_cases h1:H'.length=H.length
 .rw[if_pos h1] at h;exact .inl (aq.inj h).symm
 .rw[if_neg h1] at h;by_cases h2:H=H'.take H.length
  .rw[if_pos h2] at h;exact .inr ⟨(aq.inj h).symm,h2⟩
  .rw[if_neg h2] at h;exact no h
section
variable{B:Base}{C:Ctx}{Φ jh iQ iS:Gh}{ρ ρ' iP iT:List hM}{σ σ':AS}{s s' Pg:g9}{d:Nat}{ψ jw:Gh}{fd:iG}{fa:hM}{m:Str->Option g8}
theorem qt{names:List (Str×ij)}{cs:List (Str×hM)}{c:hM}(h:c∈cellsOf (slotsOf names cs)): ∃x,(x,ij.cell)∈names/\cs.lookup x=some c:=by
 obtain⟨i,x,e⟩:=lX h;rcases nK e with ⟨q,_⟩ | ⟨c',q,h1,h2⟩
 .exact Loc.noConfusion q
 .injection q with q;exact⟨x,h1,q▸h2⟩
theorem qu{cs:List (Str×hM)}(hp:cs.Pairwise fun x y=>x.2≠y.2): ∀{names:List (Str×ij)},(names.map (·.1)).Nodup->(cellsOf (slotsOf names cs)).Nodup
 |[],_=>cR
 |(y,k)::r,hn=>by
  obtain⟨n1,n2⟩:=be.mp hn;have ih:=qu hp n2;cases k with
  |cell=>
   unfold slotsOf;dsimp only;cases hc:cs.lookup y with
   |none=>exact ih
   |some c=>
    refine be.mpr ⟨fun hm=>?_,ih⟩;obtain⟨x,h1,h2⟩:=qt hm;exact n1 (name_of_addr hp (mem_of_lookup h2) (mem_of_lookup hc)▸aQ h1)
  |_=>exact ih
theorem z8{h:ib}{as:List hM}{a:hM}(hn:a∈as): Gh.add ψ h as a=h.get? a:=if_pos hn
theorem sI{a c d k n L:Nat}(h:a+(d+1+1)*k+n<L)(hc:c<=k): a+c+(d+1)*k+n<L:=by rw[ed (d+1)] at h;exact ag (aO (by refine R1 (bV ..) ?_;rewrite[bK c];exact aC (aC hc _) a) n) h
theorem rW(K:C.Ok (d+1))(L:hM)(h:ib)(hk:fd.scope.kind=.function)(hn:(fd.scope.names.map (·.1)).Nodup)(hg:fd.globals=iD)(hb:fd.builtins=builtinsNs):
  (C.callee fd fa L m h).Ok d where
 kind:=hk
 link:=fun i x l e=>qz hn e
 names:=sf.nodup hn
 globals:=hg
 builtins:=hb
 depth:=sI (c:=1) (n:=0) K.depth (by decide)
 units:=sI (c:=3) K.units (by decide)
 frames:=by
  obtain⟨envs,h1,h2⟩:=K.frames;refine⟨iz fd L fa::envs,by show C.A.frames.map _=_;exact R1 h1 rfl,fun e he=>?_⟩;rcases av.mp he with rfl | he
  .exact⟨hk,L,rfl,ac⟩
  .obtain⟨q1,L',q2,q3⟩:=h2 e he;exact⟨q1,L',q2,ad _ q3⟩
 ms:=.refl _
theorem sA(K:C.Ok d)(L:hM)(h:ib): (C.callee fd fa L m h).mT where
 fr:=by obtain⟨envs,h1,_⟩:=K.frames;exact⟨envs,by show C.A.frames.map _=_;exact R1 h1 rfl⟩
 L:=rfl
theorem x7{x n:Str}{v:g8}{r:List (Str×g8)}: ((n,v)::r).reverse.lookup x=(r.reverse.lookup x).or (if x=n then some v else none):=by
 refine R1 dC (R1 ey (R1 bv ?_));by_cases h:x=n
 .exact R1 (if_pos h) (R1 (beq_iff_eq.mpr h) rfl)
 .exact R1 (if_neg h) (R1 (beq_eq_false_iff_ne.mpr h) rfl)
theorem vL{k:Str->Option ij}{x:Str}: ∀{binds:List (Str×g8)} {m:Str->Option g8},bindL k binds m x=if k x=some .local then(binds.reverse.lookup x).or (m x) else m x
 |[],m=>by split<;>rfl
 |(n,v)::r,m=>by
  show bindL k r (if k n=some .local then fun y=>if y=n then some v else m y else m) x=_;refine R1 vL (R1 x7 ?_);by_cases hk:k x=some .local
  .refine R1 (if_pos hk) (R1 (if_pos hk) (R1 gG ?_));refine congrArg (Option.or _) ?_;by_cases hx:x=n
   .refine R1 (if_pos (hx▸hk)) ?_;exact(if_pos hx).trans (by exact R1 (if_pos hx) rfl)
   .refine R1 (if_neg hx) ?_;by_cases hn:k n=some .local
    .refine R1 (if_pos hn) ?_;exact if_neg hx
    .exact R1 (if_neg hn) rfl
  .refine R1 (if_neg hk) (R1 (if_neg hk) ?_);by_cases hn:k n=some .local
   .refine R1 (if_pos hn) ?_;exact if_neg (show¬ x=n from fun e=>hk (e▸hn))
   .exact R1 (if_neg hn) rfl
theorem vM{k:Str->Option ij}{x:Str}(hk:k x≠some .local): ∀{binds:List (Str×g8)} {m:Str->Option g8},bindC k binds m x=(binds.reverse.lookup x).or (m x)
 |[],m=>rfl
 |(n,v)::r,m=>by
  show bindC k r (if k n=some .local then m else fun y=>if y=n then some v else m y) x=_;refine R1 (vM hk) (R1 x7 (R1 gG ?_));refine congrArg (Option.or _) ?_;by_cases hx:x=n
  .refine R1 (if_neg (hx▸hk)) ?_;exact(if_pos hx).trans (by exact R1 (if_pos hx) rfl)
  .refine R1 (if_neg hx) ?_;by_cases hn:k n=some .local
   .exact R1 (if_pos hn) rfl
   .refine R1 (if_neg hn) ?_;exact if_neg hx
theorem qT{x:Str}: ∀{xs:List Str} {vs:List V} {us:List g8} (h:ja Φ ρ vs us),match (xs.zip vs).reverse.lookup x with
  |some v=>∃u,(xs.zip us).reverse.lookup x=some u/\jf Φ ρ v u
  |none=>(xs.zip us).reverse.lookup x=none
 |[],_,_,_=>rfl
 |y::xs,[],us,h=>by exact R1 (show us=[] from h.kG) rfl
 |y::xs,v::vs,_,h=>by
  obtain⟨w,us,rfl,a,b⟩:=h.kG;have ih:=qT (x:=x) (xs:=xs) b;refine R1 fT (R1 fT (R1 dC (R1 dC (R1 ey (R1 ey ?_)))));generalize (xs.zip vs).reverse.lookup x=R at ih ⊢;cases R with
  |some v'=>
   obtain⟨u,h1,h2⟩:=ih;exact⟨u,by exact R1 h1 rfl,h2⟩
  |none=>
   refine R1 (show(xs.zip us).reverse.lookup x=none from ih) (R1 bv (R1 bv ?_));cases x == y with
   |false=>rfl
   |true=>exact⟨w,rfl,a⟩
theorem Rel.pH(r:Rel B C Φ ρ σ s){as:List hM}: Gh.Le C.jO (Gh.add C.jO s.heap as):=fun b o h=>by
 by_cases hb:b∈as
 .refine R1 (Gh.mq hb) ?_;exact r.jO _ _ h
 .refine R1 (Gh.kP hb) ?_;exact h
theorem Rel.enter(r:Rel B C Φ ρ σ s)(hm:s.heap.Ns C.env.locals m)(hk:fd.scope.kind=.function)(hn:(fd.scope.names.map (·.1)).Nodup){xs:List Str}{vs:List V}{us:List g8}(hv:ja Φ ρ vs us)
  (hcl:∀x∈xs,fd.scope.names.lookup x=some .local\/fd.scope.names.lookup x=some .cell)
  {iv:List Slot} (hiv:iv=jy ((slotsOf fd.scope.names (ir (s.heap.objs.size+1) fd.scope.names [])).map (·.1)) xs vs)
  (x:InCallC s (iz fd s.heap.objs.size fa).locals (bindL (iz fd s.heap.objs.size fa).kindOf (xs.zip us) fun Y=>none) (iz fd s.heap.objs.size fa).cells (bindC (iz fd s.heap.objs.size fa).kindOf (xs.zip us) fun Y=>none) s') :
  Rel B (C.callee fd fa s.heap.objs.size m s.heap) Φ ρ ⟨σ.heap,iv⟩ s'/\∀ψ,Step ψ s Φ ρ s' Φ ρ:=by
 have hkeep:=x.toInCall.keep;obtain⟨h',tk,hs'⟩:=x.toInCall.same;have hgens:s'.gens=s.gens:=by exact R1 hs' rfl
 have hos:s'.os=s.os:=by exact R1 hs' rfl
 have Dh:∀c,c∈cellsOf (slotsOf fd.scope.names (ir (s.heap.objs.size+1) fd.scope.names []))->s.heap.objs.size<c:=fun c hc=>by obtain⟨n,_,h2⟩:=qt hc;exact x.above n c (mem_of_lookup h2)
 have fresh:∀a,s.heap.objs.size<=a->Φ a=none/\Gh.add C.jO s.heap (cellsOf C.slots) a=none:=fun a h=>by
  have h:=ib.get?_none_of_le (h:=s.heap) h;refine⟨r.none_of h,?_⟩;by_cases hb:a∈cellsOf C.slots
  .refine R1 (Gh.mq hb) ?_;exact h
  .refine R1 (Gh.kP hb) ?_;exact r.mH h
 have wE:∀a,a∈C.mine ρ->a<s.heap.objs.size:=fun a h=>by obtain⟨o,e⟩:=r.there h;exact ib.lt_size e
 obtain⟨J7,Cw,Cq⟩:=r.apart
 have HG:∀{i:Nat} {y l},(slotsOf fd.scope.names (ir (s.heap.objs.size+1) fd.scope.names []))[i]?=some (y,l)->iv[i]?=some (match (xs.zip vs).reverse.lookup y with | some v=>.val v | none=>.unset):=fun{i y l} e=>by rw[hiv,jy,aN,aN,e];rfl
 have KA:∀{i:Nat} {y:Str} {c:hM} {p:Prop},(slotsOf fd.scope.names (ir (s.heap.objs.size+1) fd.scope.names []))[i]?=some (y,.ro c)->p:=fun e1=>by rcases nK e1 with ⟨q,_⟩ | ⟨c',q,_⟩<;>exact Loc.noConfusion q
 have Hu:∀{a mm},s.heap.Ns a mm->s'.heap.Ns a mm:=fun h=>by obtain⟨o,es,ep,q1,q2⟩:=h;exact⟨o,es,ep,hkeep _ _ q1,q2⟩
 refine⟨⟨r.base,fun b o e=>hkeep _ _ (r.keep b o e),fun b o e=>?_,⟨_,x.toInCall.ns,fun i y v e1 e2=>?_⟩,fun i y c e1=>?_,fun i y c v e1 e2=>KA e1,fun i y c e1=>KA e1,fun p hp=>(av.mp hp).elim (fun e=>by refine R1 e ?_;exact Hu hm) fun hp=>Hu (r.kT p hp),r.len,fun i o a e1 e2=>(r.objs i o a e1 e2).mono (.refl _ _) fun o e=>hkeep _ _ e,
  fun a ha=>?_,fun i a e1 e2=>⟨(r.live i a e1 e2).1,(Gh.kP fun hc=>(Cq a (aP e1)).2.2 a hc rfl).trans (r.live i a e1 e2).2⟩,?_,?_,fun P hP=>?_,by refine R1 hgens ?_;exact r.gens,by refine R1 hos ?_;exact r.os,.refl _⟩,fun ψ=>.same hgens⟩
 .by_cases hb:b∈cellsOf C.slots
  .exact hkeep _ _ ((Gh.mq hb).symm.trans e)
  .exact hkeep _ _ (r.jO b o ((Gh.kP hb).symm.trans e))
 .have e2:=(HG e1).symm.trans e2;have hz:=qT (x:=y) (xs:=xs) hv;cases hq:(xs.zip vs).reverse.lookup y with
  |none=>rw[hq] at e2;cases e2
  |some v'=>
   rw[hq] at e2 hz;obtain⟨u,h1,h2⟩:=hz;have e2:=aq.inj e2;injection e2 with e2
   exact⟨u,by exact R1 vL (R1 (if_pos (show(iz fd s.heap.objs.size fa).kindOf y=some .local from qz hn e1)) (R1 h1 rfl)),e2▸h2⟩
 .obtain⟨k1,k2⟩:=qz (fa:=fa) hn e1;obtain⟨f1,f2⟩:=fresh c (aG (Dh c (jE e1)));have hcell:=x.cell y c k2;rw[vM (by refine R1 k1 ?_;decide)] at hcell;show nF _ _ _ _ _ iv[i]?;refine R1 (HG e1) ?_;have hz:=qT (x:=y) (xs:=xs) hv;generalize (xs.zip vs).reverse.lookup y=R at hz ⊢;cases R with
  |none=>exact⟨f1,f2,_,hcell⟩
  |some v'=>
   obtain⟨u,h1,h2⟩:=hz;rw[h1] at hcell;exact⟨f1,f2,u,hcell,h2⟩
 .rcases av.mp ha with rfl | ha
  .exact fresh _ (aM _)
  .refine⟨(r.own a ha).1,(Gh.kP fun hc=>?_).trans (r.own a ha).2⟩;rcases av.mp ha with rfl | ha
   .exact(Cw _ hc).1 rfl
   .obtain⟨p,hp,rfl⟩:=bg.mp ha;exact(Cw _ hc).2 p hp rfl
 .have nd:=r.nodup
  have h1:(C.own++ρ).Nodup:=by unfold Ctx.mine at nd;rw[ax] at nd;exact nd.sublist (fc.append (fc.refl _) (eG _ _))
  show((s.heap.objs.size::C.own)++cellsOf _++ρ).Nodup;have old:∀{a},a∈C.own++ρ->a<s.heap.objs.size:=fun{a} ha=>wE a ((aA.mp ha).elim (fun h=>ai _ (ai _ h)) (aj _));obtain⟨n1,n2,n3⟩:=aU.mp h1;refine R1 (ax ..) ?_;refine aU.mpr ⟨be.mpr ⟨fun h=>bu _ (old (ai _ h)),n1⟩,aU.mpr ⟨qu x.apart hn,n2,fun a ha b hb q=>bu _ (aF (q▸old (aj _ hb)) (Dh a ha))⟩,fun a ha b hb q=>?_⟩;subst q;rcases av.mp ha with rfl | ha
  .exact(aA.mp hb).elim (fun hb=>bu _ (Dh _ hb)) fun hb=>bu _ (old (aj _ hb))
  .exact(aA.mp hb).elim (fun hb=>bu _ (aF (old (ai _ ha)) (Dh a hb))) fun hb=>n3 a ha a hb rfl
 .show iv.length=(slotsOf _ _).length;refine R1 hiv ?_;rewrite[jy];exact R1 (ak ..) (R1 (ak ..) rfl)
 .obtain⟨t1,t4,t5,t6⟩:=r.tabs P hP;obtain⟨ps,t,_⟩:=id t1;refine⟨t1.mono (.refl _) fun o=>hkeep _ o,t4,(Gh.kP fun hc=>t6 (ai _ (aj _ hc))).trans t5,fun hmn=>?_⟩;rcases aA.mp hmn with hmn | hmn
  .rcases aA.mp hmn with hmn | hmn
   .rcases av.mp hmn with rfl | hmn
    .exact bu _ (ib.lt_size t)
    .exact t6 (ai _ (ai _ hmn))
   .exact bu _ (aF (ib.lt_size t) (Dh P hmn))
  .exact t6 (aj _ hmn)
end
section
variable{B:Base}{C:Ctx}{Φ jh iQ iS:Gh}{ρ ρ' iP iT jv:List hM}{σ σ' Ph:AS}{s s' s₁ Pg:g9}{d:Nat}{ψ jw:Gh}{fd:iG}{fa L:hM}{m:Str->Option g8}
theorem Rel.w7(r:Rel B C Φ ρ σ s){a:hM}{o:Obj}(off:Off C Φ ρ [a])(ho:s.heap.get? a=some o): Rel B C (Gh.set Φ a o) ρ σ s/\(∀ψ,(ψ a=none)->Step ψ s Φ ρ s (Gh.set Φ a o) ρ):=by
 obtain⟨f1,f2,f3,f4⟩:=off a ac;have le:Gh.Le Φ (Gh.set Φ a o):=Gh.mj f1;have e:Ext Φ ρ (Gh.set Φ a o) ρ:=⟨le,aY _⟩;have ne:∀{b:hM},b∈C.mine ρ->Φ b=none->Gh.set Φ a o b=none:=fun{b} hb h=>(if_neg (show¬ b=a from fun q=>f3 (q▸hb))).trans h
 refine⟨⟨fun b o q=>le _ _ (r.base b o q),fun b o' q=>(Gh.oX q).elim (fun q=>q.1▸q.2▸ho) (r.keep _ _),r.jO,?_,fun i x c q=>(r.cells i x c q).mono e fun e1 e2 Y=>⟨ne (ai _ (aj _ (jE q))) e1,e2,fun Y h=>h⟩,fun i x c v q1 q2=>(r.uN i x c v q1 q2).imp fun w h=>⟨h.1,h.2.mono e⟩,fun i x c q=>(r.nG i x c q).imp id (qY le),r.kT,r.len,fun i o a q1 q2=>(r.objs i o a q1 q2).mono e fun Y q=>q,
  fun b hb=>⟨ne (ai _ (ai _ hb)) (r.own b hb).1,(r.own b hb).2⟩,fun i b q1 q2=>⟨ne (aj _ (aP q1)) (r.live i b q1 q2).1,(r.live i b q1 q2).2⟩,r.nodup,r.vars,fun P hP=>?_,r.gens,r.os,r.le⟩,
  fun ψ xx=>⟨e,fun Y Y q=>q,fun b o' q=>(Gh.oX q).elim (fun q=>.inr (q.1▸xx)) .inl,fun Y h=>.inl h⟩⟩
 .obtain⟨m,h1,h2⟩:=r.ns;exact⟨m,h1,fun i x v q1 q2=>(h2 i x v q1 q2).imp fun w h=>⟨h.1,h.2.mono e⟩⟩
 .obtain⟨t1,t4,t5,t6⟩:=r.tabs P hP;exact⟨t1.mono le fun Y h=>h,(if_neg (show¬ P=a from fun q=>f4 (q▸hP))).trans t4,t5,t6⟩
noncomputable abbrev Ctx.inner(C:Ctx)(env':Env)(li:List (Str×Loc))(qv:Gh)(A':ig)(m:Str->Option g8)(h:ib): Ctx:=
 {env:=env',slots:=li,kT:=(C.env.locals,m)::C.kT,jO:=Gh.add C.jO h (cellsOf C.slots),ms:=qv,A:=A'}
theorem Rel.AT(r:Rel B C Φ ρ σ s){env':Env}{li:List (Str×Loc)}{qv:Gh}{A':ig}{b:hM}(sub:jv <+: iT)(h1:b∉(C.inner env' li qv A' m s.heap).mine iT)(h2:Gh.add C.jO s.heap (cellsOf C.slots) b=none): b∉C.mine jv:=fun hmm=>by
 rcases aA.mp hmm with hmm | hmm
 .rcases aA.mp hmm with hmm | hmm
  .exact h1 (ai _ (ai _ (ad _ hmm)))
  .obtain⟨o,ho⟩:=r.there (ai _ (aj _ hmm));exact no (h2.symm.trans ((Gh.mq hmm).trans ho))
 .exact h1 (aj _ (sub.subset hmm))
theorem Rel.leave{env':Env}{li:List (Str×Loc)}{qv:Gh}{A':ig}(r:Rel B C Φ ρ σ s)(hm:∀(i:Nat) x v,C.slots[i]?=some (x,.loc)->σ.vars[i]?=some (.val v)->∃w,m x=some w/\jf Φ ρ v w)
  (Pj:Rel B (C.inner env' li qv A' m s.heap) iS iT Ph Pg) (st:Step (C.inner env' li qv A' m s.heap).jO s Φ ρ Pg iS iT) {H:List AO} (hH:(H=Ph.heap/\jv=iT)\/(H=σ.heap/\H=Ph.heap.take H.length/\jv=ρ)) :
  Rel B C iS jv ⟨H,σ.vars⟩ Pg/\Step C.jO s Φ ρ Pg iS jv:=by
 have e:Ext Φ ρ iS iT:=st.ext
 obtain⟨sub,pre,hlen⟩:jv <+: iT/\ρ <+: jv/\jv.length=H.length:=by
  rcases hH with ⟨rfl,rfl⟩ | ⟨rfl,_,rfl⟩
  .exact⟨aY _,e.2,Pj.len⟩
  .exact⟨e.2,aY _,r.len⟩
 have e3:Ext Φ ρ iS jv:=⟨e.1,pre⟩;have rf:∀{b},Gh.add C.jO s.heap (cellsOf C.slots) b=none->C.jO b=none:=none_le r.pH
 have cellK:∀{c:hM} {p:Prop},c∈cellsOf C.slots->Gh.add C.jO s.heap (cellsOf C.slots) c=none->p:=fun{c p} hc h=>by obtain⟨o,ho⟩:=r.there (ai _ (aj _ hc));exact no (h.symm.trans ((Gh.mq hc).trans ho))
 have KG:∀{i:Nat} {o:AO} {a:hM},H=σ.heap->H=Ph.heap.take H.length->σ.heap[i]?=some o->Ph.heap[i]?=some o:=fun{i o a} h1 h2 q=>by refine R2 (eL (au.mp q).1) (R2 h1 (R2 h2 (R1 h1 ?_)));exact q
 obtain⟨J7,Cw,Cq⟩:=r.apart
 refine⟨⟨Pj.base,Pj.keep,fun b o q=>Pj.jO _ _ (r.pH b o q),⟨m,Pj.kT _ ac,fun i x v q1 q2=>(hm i x v q1 q2).imp fun w h=>⟨h.1,h.2.mono e3⟩⟩,fun i x c q=>(r.cells i x c q).mono e3 fun e1 e2 Y=>?_,fun i x c v q1 q2=>?_,fun i x c q=>(r.nG i x c q).imp id (qY e.1),
  fun p hp=>Pj.kT p (ad _ hp),hlen,fun i o a q1 q2=>?_,fun a ha=>⟨(Pj.own a (ad _ ha)).1,(r.own a ha).2⟩,fun i a q1 q2=>?_,?_,r.vars,fun P hP=>?_,Pj.gens,Pj.os,r.le⟩,⟨e3,st.gens,fun b o q=>(st.phi b o q).imp id rf,fun a ha=>(st.Hq a (sub.subset ha)).imp id rf⟩⟩
 .have hc:=jE q;refine⟨?_,e2,fun o ho=>Pj.jO _ _ ((Gh.mq hc).trans ho)⟩;cases h:iS c with
  |none=>rfl
  |some o'=>exact(st.phi c o' h).elim (fun h=>no (e1.symm.trans h)) (cellK hc)
 .obtain⟨w,e1,e2⟩:=r.uN i x c v q1 q2;refine⟨w,kO e1 fun o ho=>?_,e2.mono e3⟩;rcases r.x6 q1 with h | h
  .obtain⟨o',h'⟩:=a8.mp h;refine R1 (aq.inj (ho.symm.trans (r.jO _ _ h'))) ?_;exact Pj.jO _ _ (r.pH _ _ h')
  .obtain⟨o',h'⟩:=a8.mp h;refine R1 (aq.inj (ho.symm.trans (r.keep _ _ h'))) ?_;exact Pj.keep _ _ (e.1 _ _ h')
 .rcases hH with ⟨rfl,rfl⟩ | ⟨h1,h2,rfl⟩
  .exact Pj.objs i o a q1 q2
  .have q1:σ.heap[i]?=some o:=h1▸q1;have old:=r.objs i o a q1 q2;have new:=Pj.objs i o a (KG (a:=a) h1 h2 q1) (jX e.2 q2);cases o with
   |list vs=>
    obtain⟨ws,n,k1,k2,k3⟩:=new;obtain⟨_,_,_,_,j3⟩:=old;exact⟨ws,n,k1,k2,ja.back e.2 j3 k3⟩
   |dict kvs=>
    obtain⟨k0,kws,k1,k2,k3,k4⟩:=new;obtain⟨_,_,_,_,_,j4⟩:=old;exact⟨k0,kws,k1,k2,k3,ja.back e.2 j4 k4⟩
   |dead=>exact new
 .rcases hH with ⟨rfl,rfl⟩ | ⟨h1,h2,rfl⟩
  .exact⟨(Pj.live i a q1 q2).1,rf (Pj.live i a q1 q2).2⟩
  .obtain⟨k1,k2⟩:=Pj.live i a (jX e.2 q1) fun q=>q2 (by show H[i]?=_;refine R1 h2 (R1 (eL (hlen▸(au.mp q1).1)) ?_);exact q)
   exact⟨k1,rf k2⟩
 .have nd:=r.nodup;have KB:((env'.locals::C.own)++cellsOf li++iT).Nodup:=Pj.nodup;unfold Ctx.mine at nd;rw[ax] at nd KB;obtain⟨a1,a2,a3⟩:=aU.mp nd;obtain⟨-,b2,b3⟩:=aU.mp KB;show(C.own++cellsOf C.slots++jv).Nodup;refine R1 (ax ..) ?_;refine aU.mpr ⟨a1,aU.mpr ⟨(aU.mp a2).1,(aU.mp b2).2.1.sublist sub.sublist,fun c hc a ha q=>?_⟩,fun a ha b hb q=>(aA.mp hb).elim (fun hb=>a3 a ha b (ai _ hb) q) fun hb=>b3 a (ad _ ha) b (aj _ (sub.subset hb)) q⟩;exact(st.Hq c (sub.subset (q▸ha))).elim (fun q=>(Cq c q).2.2 c hc rfl) (cellK hc)
 .obtain⟨t1,t2,t3,t4⟩:=Pj.tabs P hP;exact⟨t1,t2,rf t3,r.AT sub t4 t3⟩
theorem lL{x:Str}: ∀{names:List (Str×ij)} {L:hM} {acc:List (Str×hM)},((x,ij.cell)∈names\/(acc.lookup x).isSome=true)->((ir L names acc).lookup x).isSome=true
 |[],L,acc,h=>by
  rcases h with h | h
  .cases h
  .exact h
 |(y,k)::r,L,acc,h=>by
  unfold ir;split
  .rename_i hk;refine lL ?_;by_cases hx:x=y
   .subst hx;exact .inr (by simp)
   .rcases h with h | h
    .rcases av.mp h with q | q
     .cases q;exact(hx rfl).elim
     .exact .inl q
    .right;have hb:(x == y)=false:=beq_eq_false_iff_ne.mpr hx;refine R1 bv (R1 hb ?_);exact h
  .rename_i hk;refine lL ?_;rcases h with h | h
   .rcases av.mp h with q | q
    .cases q;exact absurd rfl hk
    .exact .inl q
   .exact .inr h
theorem lookup_mem{α:Type}{x:Str}{k:α}: ∀{l:List (Str×α)},l.lookup x=some k->(x,k)∈l
 |(y,j)::r,h=>by
  rw[bv] at h;cases q:x == y with
  |true=>rw[q] at h;refine R1 (eq_of_beq q) (R2 (aq.inj h) ?_);exact ac
  |false=>rw[q] at h;exact ad _ (lookup_mem h)
noncomputable def o0(names:List (Str×ij))(xs:List Str): Bool:=xs.all fun x=>names.lookup x == some .local || names.lookup x == some .cell
structure uD(B:Base)(fa:hM)(fd:iG)(body:List Stmt): Prop where
 at':∃o,B.h0.get? fa=some o/\o.data=.func fd
 code:codeIn (hd.heap_1 B.w.params) fd.code fd.qualname=true
 body:fd.body=.stmts body
 clo:fd.closure=[]
 co:fd.scope.isCoroutine=false
 gen:fd.scope.isGenerator=false
 kind:fd.scope.kind=.function
 names:(fd.scope.names.map (·.1)).Nodup
 globals:fd.globals=iD
 builtins:fd.builtins=builtinsNs
theorem Rel.xw(r:Rel B C Φ ρ σ s): (hd.heap_1 B.w.params).In s.heap:=fun a o h=>r.keep _ _ (r.base _ _ (B.K a o h))
theorem Rel.noLimit(r:Rel B C Φ ρ σ s): s.heap.NoLimit:=B.nolimit.keeps fun b o h=>r.keep _ _ (r.base b o h)
theorem uo{body:List Stmt}{ws us:List g8}{kw:List (Str×g8)}{xs:List Str}{vs:List V}{iv:List Slot}{Q:g8->g9->Prop}{E:g8->g9->Prop}(K:C.Ok (d+1))(f:uD B fa fd body)(r:Rel B C Φ ρ σ s)
  (hm:s.heap.Ns C.env.locals m) (hbind:BindsTo s fd ⟨ws,kw⟩ (xs.zip us)) (hk:o0 fd.scope.names xs=true) (hv:ja Φ ρ vs us)
  (hiv:∀L,iv=jy ((slotsOf fd.scope.names (ir (L+1) fd.scope.names [])).map (·.1)) xs vs)
  (h:∀s',Rel B (C.callee fd fa s.heap.objs.size m s.heap) Φ ρ ⟨σ.heap,iv⟩ s'->(∀ψ,Step ψ s Φ ρ s' Φ ρ)->
   hZ (M B) (C.callee fd fa s.heap.objs.size m s.heap).A (iE body (iz fd s.heap.objs.size fa)) (fun f s''=>Q (match f with | .ret v=>v | _=>.none) s'')
    (fun e s''=>hZ (M B) (C.callee fd fa s.heap.objs.size m s.heap).A (leaving (iz fd s.heap.objs.size fa) e) (fun Y s3=>E e s3) (fun e' s3=>E e' s3) s'') s') :
  hZ (M B) C.A (call (.ref fa) ws kw) Q E s:=by
 obtain⟨o,ho,hdata⟩:=f.at';have ho':=r.keep _ _ (r.base _ _ ho)
 have tT:∀x∈xs,fd.scope.names.lookup x=some .local\/fd.scope.names.lookup x=some .cell:=fun x hx=>by
  have:=bl.mp hk x hx
  simpa using this
 refine wpAny_call (codeAny_call_function (ag (ay _ _) K.depth) ho' hdata f.co f.gen f.body (codeRec_of r.xw f.code) (hbind _ _ _ _ ?_));refine R1 f.clo ?_;refine wpAny_newFunctionEnv_cells f.kind (fun x hx=>?_) fun env he s' x=>?_
 .have hx1:x.1∈xs:=(ds hx).1;exact(tT x.1 hx1).imp id fun q=>⟨q,lL (.inl (lookup_mem q))⟩
 .subst he;obtain⟨r',st⟩:=r.enter (fd:=fd) (fa:=fa) hm f.kind f.names hv tT (hiv _) x;refine⟨r'.noLimit,codeAny_func ?_⟩;exact h s' r' st
open Classical in
theorem un{body:List Stmt}{iv:List Slot}{pb:P AF}{t:Sem g8}{env':Env}{li:List (Str×Loc)}{qv:Gh}{A':ig}(r:Rel B C Φ ρ σ s)(hm:∀(i:Nat) x v,C.slots[i]?=some (x,.loc)->σ.vars[i]?=some (.val v)->∃w,m x=some w/\jf Φ ρ v w)
  (Kc:(C.inner env' li qv A' m s.heap).Ok d) (Fc:(C.inner env' li qv A' m s.heap).mT) (hE:qv=Gh.add C.jO s.heap (cellsOf C.slots))
  (hs:jm B (C.inner env' li qv A' m s.heap) Φ ρ FR (iE body env') pb)
  (enter:∀{Q:g8->g9->Prop} {E:g8->g9->Prop},(∀s',Rel B (C.inner env' li qv A' m s.heap) Φ ρ ⟨σ.heap,iv⟩ s'->(∀ψ,Step ψ s Φ ρ s' Φ ρ)->
   hZ (M B) (C.inner env' li qv A' m s.heap).A (iE body env') (fun f s''=>Q (match f with | .ret v=>v | _=>.none) s'')
    (fun e s''=>hZ (M B) (C.inner env' li qv A' m s.heap).A (leaving env' e) (fun Y s3=>E e s3) (fun e' s3=>E e' s3) s'') s')->hZ (M B) C.A t Q E s) :
  kZ B C Φ ρ s VR t s (P.fn iv pb σ):=by
 subst hE;unfold P.fn;have rf:∀{b},Gh.add C.jO s.heap (cellsOf C.slots) b=none->C.jO b=none:=none_le r.pH;cases hb:pb ⟨σ.heap,iv⟩ with
 |stuck=>trivial
 |exc σ'=>
  dsimp only;unfold P.tM;cases hl:leaveH σ.heap σ'.heap with
  |none=>trivial
  |some H=>
   refine enter fun s' r' st=>?_;have h1:=hs Φ ρ ⟨σ.heap,iv⟩ s' (.refl _ _) r';rw[hb] at h1;refine hV h1 (fun Y Y q=>q.elim) fun e Pg hx=>?_;obtain⟨iS,iT,a,rfl,k1,k2,k3⟩:=hx;refine zP (C:=C.inner env' li (Gh.add C.jO s.heap (cellsOf C.slots)) A' m s.heap) Kc Fc rfl k2 k3 fun Pm Pp Pt wY=>?_;have CL:=((st _).trans k1).trans (wY _)
   obtain⟨jv,sub,q1,q2⟩:∃jv,jv <+: iT/\Rel B C iS jv ⟨H,σ.vars⟩ Pm/\Step C.jO s Φ ρ Pm iS jv:=by
    rcases wK hl with h | ⟨h,h2⟩
    .exact⟨iT,aY _,r.leave hm Pp CL (.inl ⟨h,rfl⟩)⟩
    .exact⟨ρ,CL.ext.2,r.leave hm Pp CL (.inr ⟨h,h▸h2,rfl⟩)⟩
   have k:∀{b},EZ (C.inner env' li (Gh.add C.jO s.heap (cellsOf C.slots)) A' m s.heap) iS iT b->EZ C.exc iS jv b:=fun a=>⟨a.1,none_le r.le (rf a.2.1),r.AT sub a.2.2.1 a.2.1,a.2.2.2⟩;exact⟨iS,jv,a,rfl,q2.jO r.le,q1.xO,k Pt.off,.inr (Pt.at'.imp fun Y h=>⟨k h.1,h.2⟩)⟩
 |ok f' σ'=>
  dsimp only;cases hr:AH f' with
  |none=>trivial
  |some v=>
   dsimp only;unfold P.leave;cases hl:pG σ.heap v σ'.heap with
   |none=>trivial
   |some p=>
    obtain⟨v',H⟩:=p;refine enter fun s' r' st=>?_;have h1:=hs Φ ρ ⟨σ.heap,iv⟩ s' (.refl _ _) r';rw[hb] at h1;refine hV h1 (fun g Pg hx=>?_) fun Y Y q=>q.elim;obtain⟨iS,iT,k1,Pj,k3⟩:=hx;have xT:=(st _).trans k1
    have hw:jf iS iT v (match (motive:=Flow->g8) g with | .ret v=>v | _=>.none):=by
     have k3:=k3.out;cases f' with
     |ret u=>obtain⟨w,rfl,hv⟩:=k3;exact aq.inj hr▸hv
     |next=>refine R1 (show g=_ from k3) ?_;exact aq.inj hr▸.none
     |_=>exact no hr
    rcases wJ hl with ⟨h,rfl⟩ | ⟨h,h2,h3⟩
    .obtain⟨q1,q2⟩:=r.leave hm Pj xT (.inl ⟨h,rfl⟩);exact⟨iS,iT,q2,q1,hw⟩
    .obtain⟨q1,q2⟩:=r.leave hm Pj xT (.inr ⟨h,h▸h2,rfl⟩);rcases h3 with ⟨hf,rfl⟩ | ⟨k,vs,rfl,hk,hvs,hall,rfl⟩
     .exact⟨iS,ρ,q2,q1,Ce hf hw⟩
     .obtain⟨a,Ox,ha⟩:=hw.kG;obtain⟨us,n,k1,k2,k3⟩:=Pj.objs _ _ _ hvs ha;obtain⟨l1,l2⟩:=Pj.live _ _ ha (by refine R1 hvs ?_;intro q;cases q);have ham:a∈iT:=aP ha;have KB:((env'.locals::C.own)++cellsOf li++iT).Nodup:=Pj.nodup;rw[ax] at KB
      have off:Off C iS ρ [a]:=fun b hb=>by
       refine R1 (af.mp hb) ?_;refine⟨l1,rf l2,fun hmm=>?_,fun ht=>(Pj.tabs a ht).2.2.2 (aj _ ham)⟩;rcases aA.mp hmm with hmm | hmm
       .rcases aA.mp hmm with hmm | hmm
        .exact(aU.mp KB).2.2 a (ad _ hmm) a (aj _ ham) rfl
        .obtain⟨o,ho⟩:=r.there (ai _ (aj _ hmm));exact no (l2.symm.trans ((Gh.mq hmm).trans ho))
       .obtain⟨j,hj⟩:=cj.mp hmm;have:=(cK (au.mp ha).1 Pj.p0).mp (ha.trans (jX xT.ext.2 hj).symm);exact hk (this▸r.len▸(au.mp hj).1)
      obtain⟨p1,p2⟩:=q1.w7 off k1;exact⟨_,ρ,q2.trans (p2 _ (rf l2)),p1,Ox▸.lst (Gh.jQ _ _ _) k2 (o9 hall (k3.mono ⟨Gh.mj l1,aY _⟩))⟩
theorem CZ{body:List Stmt}{ws us:List g8}{kw:List (Str×g8)}{xs:List Str}{vs:List V}{iv:List Slot}{pb:P AF}(K:C.Ok (d+1))(f:uD B fa fd body)
  (hbind:∀s,(hd.heap_1 B.w.params).In s.heap->BindsTo s fd ⟨ws,kw⟩ (xs.zip us)) (hk:o0 fd.scope.names xs=true) (hv:ja iQ iP vs us)
  (hiv:∀L,iv=jy ((slotsOf fd.scope.names (ir (L+1) fd.scope.names [])).map (·.1)) xs vs)
  (Jg:∀C':Ctx,(∃L m h,C'=C.callee fd fa L m h)->C'.Ok d->C'.mT->jm B C' iQ iP FR (iE body C'.env) pb) :
  jm B C iQ iP VR (call (.ref fa) ws kw) (P.fn iv pb):=by
 intro Φ ρ σ s x r;have hv:=hv.mono x;obtain⟨m,hn,hm⟩:=r.ns;have Kc:(C.callee fd fa s.heap.objs.size m s.heap).Ok d:=rW K _ _ f.kind f.names f.globals f.builtins;have Fc:(C.callee fd fa s.heap.objs.size m s.heap).mT:=sA K _ _;have hs:=Jg _ ⟨s.heap.objs.size,m,s.heap,rfl⟩ Kc Fc
 exact un (env':=iz fd s.heap.objs.size fa) (li:=slotsOf fd.scope.names (ir (s.heap.objs.size+1) fd.scope.names [])) (A':=C.A.deeper (iz fd s.heap.objs.size fa)) r hm Kc Fc rfl (hs.weaken x)
  (fun h=>uo K f r hn (hbind s r.xw) hk hv hiv h)
end
theorem uQ:entryFor table "proto.unchain" = some iC.«proto.unchain»:=entryFor_of_tree (by kernel_rfl)
noncomputable def ES(A:ig)(h:ib): Prop:=A.handled=none\/∃e oe vs,A.handled=some (.ref e)/\h.get? e=some oe/\oe.data=.fields vs/\3<=vs.size/\vs[2]?=some .none
section
variable{prog:Program}{w:World}{A:ig}{E:g8->g9->Prop}{s:g9}
theorem rC{α:Type}{a e:hM}{oe oa:Obj}{vs as:Array g8}{Q:α->g9->Prop}(hh:A.handled=some (.ref e))(he:s.heap.get? e=some oe)(hde:oe.data=.fields vs)(hv2:vs[2]?=some .none)
  (OH:a≠e) (ha:s.heap.get? a=some oa) (hda:oa.data=.fields as) (has:3<=as.size)
  (h:E (.ref a) {s with heap:=s.heap.update a (Obj.mapFields (·.setIfInBounds 2 (.ref e)))}):hZ (model prog w) A (raiseNew (.ref a)) Q E s:=by
 simp only[raiseNew];refine g7 (wpAny_handled ?_);refine R1 hh ?_
 have hne:(g8.ref e != g8.ref a)=true:=by have:(g8.ref e == g8.ref a)=false:=beq_false_of_ne (fun q=>OH (by cases q;rfl));unfold bne;exact R1 this rfl
 dsimp only;refine R1 hne ?_;simp only[if_true];refine g7 (ik (wpAny_runValue (codeAny_builtin uQ ?_)));show hZ _ _ (field (.ref e) 2 >>= _) _ _ s;refine g7 (wpAny_field he hde hv2 ?_);show hZ _ _ (do return ←ret .none) _ _ s;refine g7 (hO ?_);refine hO ?_;exact g7 (wpAny_setField (x:=.ref e) ha hda (by lia) (wpAny_throw h))
theorem xM{it t:hM}{i:Nat}{items}{Q:Option g8->g9->Prop}(hh:ES A s.heap)
  (hit:s.heap.IsTupleIter it t i) (ht:s.heap.IsTuple t items) (hx:items[i]?=none)
  (hQ:∀h',ib.ExtBut it s.heap h'->Q none {s with heap:=h'}):hZ (model prog w) A (pyNext (.ref it)) Q E s:=by
 rcases hh with hh | ⟨e,oe,vs,hh,he,hde,hvs,hv2⟩
 .exact wpAny_pyNext_tuple_end hh hit ht hx hQ
 obtain⟨o,ho,hc,hd⟩:=id hit;obtain⟨ol,hol,_,nl,hdl⟩:=ht
 have hne:e≠it:=fun q=>by subst q;rw[ho] at he;cases he;rw[hd] at hde;cases hde;simp at hvs
 unfold pyNext
 refine g7 (wpAny_attempt (wpAny_callSpecial?_slot (name:=Str.ofString "__next__") hit.typeIs F.slot_tuple_iterator_next
  (wpAny_call_entry F.slot_tuple_iterator_next hit.typeIs F.entry_tuple_iterator_next ?_ (F.args_tuple_iterator_next_1 _))))
 show hZ _ _ (field (.ref it) 0 >>= _) _ _ s;refine g7 (wpAny_field ho hd (x:=.ref t) rfl ?_);show hZ _ _ (if(g8.ref t == g8.none)=true then _ else _) _ _ s;refine R1 (if_neg (show¬ ((g8.ref t == g8.none)=true) from fU)) ?_;show hZ _ _ (field (.ref it) 1 >>= _) _ _ s;refine g7 (wpAny_field ho hd (x:=.int i 0) rfl ?_);show hZ _ _ (seqItems? (.ref t) >>= _) _ _ s;refine g7 (wpAny_seqItems hol hdl ?_);simp only[cg,hx];refine g7 (wpAny_rule (g7 (wpAny_setField ho hd (by simp) ?_)));show hZ _ _ (newExc (.type "StopIteration") [] >>= _) _ _ _;refine g7 ?_;simp only[newExc,newTuple];refine g7 (wpAny_newObj_type ?_ (by size_fits));refine g7 (m:=firstArgMember _ _) (wpAny_of_eq (a:=g8.none) (by first | rfl | (simp only[firstArgMember];rfl)) ?_);refine wpAny_newObj_type ?_ (by size_fits);have hs1:=ib.SameBut.update s.heap it (Obj.mapFields fun x=>x.setIfInBounds 0 g8.none);have MP:(s.heap.update it (Obj.mapFields fun x=>x.setIfInBounds 0 g8.none)).get? e=some oe:=(hs1.2 e hne).trans he;have hsz:∀b o,s.heap.get? b=some o->b<s.heap.objs.size:=fun b o q=>ib.lt_size q;refine rC (A:=A.in1) hh (ib.get?_push_of_some _ (ib.get?_push_of_some _ MP)) hde hv2 ?_ (ib.get?_push_size _ rfl) rfl (by simp;exact bI 3 3) ?_
 .intro q;have:=hsz _ _ he;rw[←q,ib.size_push,hs1.1] at this;exact cP.mpr (bU _) this
 .refine g7 (wpAny_isInstance (T:= "StopIteration") (b:=true) ⟨_,ib.get?_update_self _ (ib.get?_push_size _ rfl) rfl,rfl⟩ isSubtype_stop ?_);refine hO (hQ _ fun b o hb e'=>?_);have:=hsz _ _ e';refine((ib.SameBut.update ..).2 b ?_).trans (ib.get?_push_of_some _ (ib.get?_push_of_some _ ((hs1.2 b hb).trans e')));intro q;rw[q,ib.size_push,hs1.1] at this;exact cP.mpr (bU _) this
theorem qf{t:hM}{items:Array g8}{Q:List g8->g9->Prop}(hh:ES A s.heap)(ht:s.heap.IsTuple t items)
  (hQ:∀h',ib.ExtBut s.heap.objs.size s.heap h'->Q items.toList {s with heap:=h'}):hZ (model prog w) A (unpackItems (.ref t) items.size none) Q E s:=by
 have hlt:t≠s.heap.objs.size:=by obtain⟨o,ho,_⟩:=ht;exact aK (ib.lt_size ho)
 unfold unpackItems;refine g7 ?_
 .unfold notIterableAtAll;refine g7 (wpAny_specialOf ht.typeIs F.slot_tuple_iter.lookup ?_);refine hO ?_;simp only[cq,if_false];refine g7 (ik (wpAny_pyIter_tuple ht ?_));refine g7 (ik (wpAny_draw_tuple hlt items.size 0 _ _ ⟨_,ib.get?_push_size _ rfl,rfl,rfl⟩ (ht.push _) (by lia) fun Po PG Pl=>?_))
  have hall:List.take items.size (List.drop 0 items.toList)=items.toList:=by refine R1 gQ ?_;exact dD (by simp)
  refine R1 hall ?_;refine R1 (if_neg (by simp)) ?_;have PR:Po.IsTuple t items:=(ht.push _).extBut Pl.extBut hlt
  have PV:ES A Po:=by
   rcases hh with hh | ⟨e,oe,vs,q1,q2,q3⟩
   .exact .inl hh
   .exact .inr ⟨e,oe,vs,q1,Pl.extBut e oe (aK (ib.lt_size q2)) (ib.get?_push_of_some _ q2),q3⟩
  refine g7 (ik (xM PV PG PR (by simp) fun Pv PD=>?_));simp only[Option.isSome_none,cq,if_false];refine hO (hQ Pv fun b o hb e=>PD b o hb (Pl.extBut b o hb (ib.get?_push_of_some _ e)))
theorem uv{env:Env}{elts:List iB}{x1}{pos:Pos}{t:hM}{items:Array g8}{Q:Unit->g9->Prop}(hh:ES A s.heap)(ht:s.heap.IsTuple t items)
  (hn:(assignEach elts env).length=items.size) (hstar:(assignEach elts env).findIdx? (·.1)=none)
  (h:∀h',ib.ExtBut s.heap.objs.size s.heap h'->hZ (model prog w) A (assignInOrder ((assignEach elts env).map (·.2)) items.toList) Q E {s with heap:=h'}) :
  hZ (model prog w) A (assign (.Tuple elts x1 pos) env (.ref t)) Q E s:=by
 refine R1 (arm_assign_Tuple ..) ?_;refine g7 (ic ?_);unfold unpack;refine R1 hn (R1 hstar ?_);exact g7 (ik (qf hh ht h))
end
noncomputable def He(A:ig)(ψ:Gh): Prop:=A.handled=none\/∃e oe vs,A.handled=some (.ref e)/\ψ e=some oe/\oe.data=.fields vs/\3<=vs.size/\vs[2]?=some .none
theorem He.at'{A:ig}{ψ:Gh}{h:ib}(x:He A ψ)(k:∀b o,ψ b=some o->h.get? b=some o): ES A h:=by
 rcases x with x | ⟨e,oe,vs,q1,q2,q3⟩
 .exact .inl x
 .exact .inr ⟨e,oe,vs,q1,k _ _ q2,q3⟩
theorem He.le{A:ig}{ψ jw:Gh}(x:He A ψ)(k:Gh.Le ψ jw): He A jw:=by
 rcases x with x | ⟨e,oe,vs,q1,q2,q3⟩
 .exact .inl x
 .exact .inr ⟨e,oe,vs,q1,k _ _ q2,q3⟩
section
variable{B:Base}{C:Ctx}{Φ jh iQ iS:Gh}{ρ ρ' iP iT jv:List hM}{σ σ' Ph:AS}{s s' s₁ Pg:g9}{d:Nat}{ψ jw:Gh}
noncomputable def P.pair(f g:V->P Unit)(v:V): P Unit:=match v with
 |.tup [a,b]=>P.bind (f a) fun Y=>g b
 |_=>P.stuck
theorem oo{Ps Pq:iB}{k:Nat}{pos:Pos}{v:V}{w:g8}{f g:V->P Unit}(hx:He C.A C.jO)(hv:jf iQ iP v w)
  (h1:∀iS iT v w,Ext iQ iP iS iT->jf iS iT v w->jm B C iS iT TR (assign Ps C.env w) (f v))
  (h2:∀iS iT v w,Ext iQ iP iS iT->jf iS iT v w->jm B C iS iT TR (assign Pq C.env w) (g v))
  (hs:autoParam (assignEach [Ps,Pq] C.env=[(false,assign Ps C.env),(false,assign Pq C.env)]) PySem.W.call_K._auto_4):jm B C iQ iP TR (assign (.Tuple [Ps,Pq] k pos) C.env w) (P.pair f g v):=by
 cases v with
 |tup l=>cases l with
  |nil=>exact jr
  |cons a l=>cases l with
   |nil=>exact jr
   |cons b l=>cases l with
    |cons _ _=>exact jr
    |nil=>
     obtain⟨A,ws,n,rfl,h3,-,h5⟩:=hv.kG;obtain⟨wa,wb,hws,ha,hb⟩:=h5.two;have hsz:ws.size=2:=by exact R2 a5 (R1 hws rfl)
     have main:jm B C iQ iP TR (do holding [wb] (assign Ps C.env wa);holding [] (assign Pq C.env wb);pure ()) (P.bind (f a) fun Y=>g b):=
      jn (jB (h1 _ _ _ _ (.refl _ _) ha)) fun iS iT Y Y e Y=>CS (jB (vs:=[]) (h2 _ _ _ _ e (hb.mono e))) fun Y Y Y Y Y Y=>jK fun Y Y Y=>trivial
     intro Φ ρ σ s x r;have fin:=fun s' r' (st:Step C.jO s Φ ρ s' Φ ρ) Oe=>kZ.trans st Oe (main Φ ρ σ s' x r')
     have key:∀{Q:Unit->g9->Prop} {E:g8->g9->Prop},(∀s',Rel B C Φ ρ σ s'->Step C.jO s Φ ρ s' Φ ρ->Step C.ms s Φ ρ s' Φ ρ->hZ (M B) C.A (do holding [wb] (assign Ps C.env wa);holding [] (assign Pq C.env wb);pure ()) Q E s')->
       hZ (M B) C.A (assign (.Tuple [Ps,Pq] k pos) C.env (.ref A)) Q E s:=fun h=>by
      refine uv (hx.at' r.jO) (lI (r.keep _ _ (x.1 _ _ h3))) (by exact R1 hs (R1 hsz rfl)) (by exact R1 hs rfl) fun h' he=>?_;refine R1 hs (R1 hws ?_);exact h _ (r.grow (s':={s with heap:=h'}) (fun b o e=>he b o (aK (ib.lt_size e)) e) r.gens rfl) (.same rfl) (.same rfl)
     show kZ B C Φ ρ s TR _ s (P.bind (f a) (fun Y=>g b) σ);generalize P.bind (f a) (fun Y=>g b) σ=q at fin;cases q with
     |stuck=>trivial
     |ok u σ'=>exact key fin
     |exc σ'=>exact key fin
 |_=>exact jr
theorem j0{Ps Pq:iB}{k:Nat}{pos:Pos}{v:V}{w:g8}{f g:V->P Unit}(hh:C.A.handled=none)(hv:jf iQ iP v w)
  (h1:∀iS iT v w,Ext iQ iP iS iT->jf iS iT v w->jm B C iS iT TR (assign Ps C.env w) (f v))
  (h2:∀iS iT v w,Ext iQ iP iS iT->jf iS iT v w->jm B C iS iT TR (assign Pq C.env w) (g v))
  (hs:autoParam (assignEach [Ps,Pq] C.env=[(false,assign Ps C.env),(false,assign Pq C.env)]) PySem.W.call_K._auto_4):jm B C iQ iP TR (assign (.Tuple [Ps,Pq] k pos) C.env w) (P.pair f g v):=oo (.inl hh) hv h1 h2 hs
end
noncomputable def slotIn(ns:List Nat)(l:List (Str×Loc))(x:Str): Option (Nat×Loc):=match ns with
 |[]=>none
 |n::ns=>match l with
  |[]=>none
  |p::r=>if p.1 == x then some (n,p.2) else slotIn ns r x
theorem te{x:Str}{i:Nat}{k:Loc}: ∀(ns:List Nat) (l:List (Str×Loc)),slotIn ns l x=some (i,k)->∃j:Nat,ns[j]?=some i/\l[j]?=some (x,k)
 |[],_,h=>no h
 |_::_,[],h=>no h
 |n::ns,p::r,h=>by
  have h:(if(p.1 == x)=true then some (n,p.2) else slotIn ns r x)=some (i,k):=h;by_cases q:(p.1 == x)=true
  .rw[if_pos q] at h;obtain⟨h1,h2⟩:=Prod.mk.inj (aq.inj h);exact⟨0,congrArg some h1,congrArg some (Prod.ext (eq_of_beq q) h2)⟩
  .rw[if_neg q] at h;exact(te ns r h).elim fun j h=>⟨j+1,h⟩
noncomputable abbrev nums:List Nat:=[0,1,2,3,4,5,6,7,8,9,10,11,12,13,14,15,16,17,18,19,20,21,22,23,24,25,26,27,28,29,30,31,32,33,34,35,36,37,38,39,40,41,42,43,44,45,46,47,48,49,50,51,52,53,54,55,56,57,58,59,60,61,62,63,64,65,66,67,68,69,70,71,72,73,74,75,76,77,78,79]
theorem FY{j n:Nat}(e:nums[j]?=some n): n=j:=by
 have hj:j<80:=(au.mp e).1;have:∀j:Fin 80,nums[j.val]?=some j.val:=by decide
 exact aq.inj (e.symm.trans (this ⟨j,hj⟩))
theorem slot_get{l:List (Str×Loc)}{x:Str}{i:Nat}{k:Loc}(h:slotIn nums l x=some (i,k)): l[i]?=some (x,k):=by obtain⟨j,h1,h2⟩:=te nums l h;exact FY h1▸h2
noncomputable def D8:iG:=fnX "" "" {posonlyargs:=[],args:=[],vararg:=none,kwonlyargs:=[],kw_defaults:=[],kwarg:=none,defaults:=[]} [] {kind:=.function,names:=[],isGenerator:=false,isCoroutine:=false} [] .none .none .none .none none .none .none
noncomputable def ki(P:Params)(a:hM): iG:=match (hd.heap_1 P).lookup a with
 |some o=>match o.data with
  |.func fd=>fd
  |_=>D8
 |none=>D8
noncomputable def bodyOf(fd:iG): List Stmt:=match fd.body with
 |.stmts b=>b
 |_=>[]
noncomputable def J0(fd:iG)(fa L:hM)(kT:List (hM×(Str->Option g8)))(A:ig): Ctx:=
 {env:=iz fd L fa,slots:=slotsOf fd.scope.names (ir (L+1) fd.scope.names []),kT,jO:=fun Y=>none,ms:=fun Y=>none,A}
section
variable{B:Base}{C:Ctx}{Φ jh iQ iS:Gh}{ρ ρ' iP iT jv:List hM}{σ σ' Ph:AS}{s s' s₁ Pg:g9}{d:Nat}{ψ jw:Gh}{fd:iG}{fa L:hM}{m:Str->Option g8}
theorem Ctx.Ok.at(K:C.Ok d)(ψ:Gh): (C.at ψ).Ok d:=⟨K.kind,K.link,K.names,K.globals,K.builtins,K.depth,K.units,K.frames,.refl _⟩
theorem Ctx.Ok.le(K:C.Ok d){e:Nat}(h:e<=d): C.Ok e:=
 ⟨K.kind,K.link,K.names,K.globals,K.builtins,ag (aC (b7 4 (bc h)) _) K.depth,ag (aO (aC (b7 20 (bc h)) _) 100) K.units,K.frames,K.ms⟩
noncomputable def BodyOk(B:Base)(d:Nat)(fa:hM)(pb:P AF): Prop:=∀L kT A ψ iQ iP,(∀ψ,((J0 (ki B.w.params fa) fa L kT A).at ψ).Ok d)->(J0 (ki B.w.params fa) fa L kT A).mT->A.handled=none->
 jm B ((J0 (ki B.w.params fa) fa L kT A).at ψ) iQ iP FR (iE (bodyOf (ki B.w.params fa)) (iz (ki B.w.params fa) L fa)) pb
structure km(B:Base)(d:Nat)(fa:hM)(F:List V->P V): Prop where
 cw:CW B (.ref fa)
 call:∀(C:Ctx) iQ iP vs ws,C.Ok (d+1)->C.A.handled=none->ja iQ iP vs ws->jm B C iQ iP VR (call (.ref fa) ws []) (F vs)
noncomputable def P.mQ(N xs:List Str)(pb:P AF)(vs:List V): P V:=if vs.length=xs.length then P.fn (jy N xs vs) pb else P.stuck
theorem nR{pb:P AF}{N xs:List Str}(f:∀B:Base,uD B fa (ki B.w.params fa) (bodyOf (ki B.w.params fa)))
  (hN:∀P L,(slotsOf (ki P fa).scope.names (ir (L+1) (ki P fa).scope.names [])).map (·.1)=N) (hk:∀P,o0 (ki P fa).scope.names xs=true)
  (hbind:∀P S ws,ws.length=xs.length->peek (hd.heap_1 P) S (bindArgs (ki P fa) ⟨ws,[]⟩)=some (xs.zip ws)) (hb:BodyOk B d fa pb):km B d fa (P.mQ N xs pb) where
 cw:=by obtain⟨o,h1,h2⟩:=(f B).at';exact Bf h1 h2
 call:=fun C iQ iP vs ws K hh hv=>by
  unfold P.mQ;by_cases hl:vs.length=xs.length
  .refine R1 (if_pos hl) ?_;refine CZ K (f B) (fun s X=>kp_binds X fun S=>hbind _ S ws (hv.length.trans hl)) (hk _) hv (fun L=>by exact R1 (hN ..) rfl) fun C' hC' K' F'=>?_;obtain⟨L,m,h,rfl⟩:=hC';exact hb _ _ _ _ _ _ (fun ψ=>K'.at ψ) ⟨F'.fr,F'.L⟩ hh
  .refine R1 (if_neg hl) ?_;exact jr
theorem Dv{α:Type}{l:List α}{n:Nat}(h:l.length=n+1): ∃a r,l=a::r/\r.length=n:=by
 cases l with
 |nil=>cases h
 |cons a r=>exact⟨a,r,rfl,dp.inj h⟩
theorem Dx{α:Type}{l:List α}(h:l.length=1): ∃a,l=[a]:=by obtain⟨a,r,rfl,h'⟩:=Dv h;exact⟨a,congrArg _ (List.length_eq_zero_iff.mp h')⟩
theorem len2{α:Type}{l:List α}(h:l.length=2): ∃a b,l=[a,b]:=by obtain⟨a,r,rfl,h'⟩:=Dv h;obtain⟨b,rfl⟩:=Dx h';exact⟨a,b,rfl⟩
theorem Dw{α:Type}{l:List α}(h:l.length=3): ∃a b c,l=[a,b,c]:=by obtain⟨a,r,rfl,h'⟩:=Dv h;obtain⟨b,c,rfl⟩:=len2 h';exact⟨a,b,c,rfl⟩
theorem B1{α:Type}{l:List α}(h:l.length=4): ∃a b c d,l=[a,b,c,d]:=by obtain⟨a,r,rfl,h'⟩:=Dv h;obtain⟨b,c,d,rfl⟩:=Dw h';exact⟨a,b,c,d,rfl⟩
theorem Gc{α:Type}{l:List α}(h:l.length=5): ∃a b c d e,l=[a,b,c,d,e]:=by obtain⟨a,r,rfl,h'⟩:=Dv h;obtain⟨b,c,d,e,rfl⟩:=B1 h';exact⟨a,b,c,d,e,rfl⟩
theorem iR{i x pos}(K:C.Ok d)(h:slotIn nums C.slots x=some (i,.loc))(hd:autoParam ((x == ("__debug__" : Str))=false) PySem.ldc._auto_1): jm B C iQ iP VR (iF (.Name x pos) C.env) (P.var i):=Fn K (slot_get h) hd
theorem i9{i x c pos}(K:C.Ok d)(h:slotIn nums C.slots x=some (i,.cell c))(hd:autoParam ((x == ("__debug__" : Str))=false) PySem.ldc._auto_1): jm B C iQ iP VR (iF (.Name x pos) C.env) (P.cvar i):=C1 K (slot_get h) hd
theorem k9{i x c pos}(K:C.Ok d)(h:slotIn nums C.slots x=some (i,.ro c))(hd:autoParam ((x == ("__debug__" : Str))=false) PySem.ldc._auto_1): jm B C iQ iP VR (iF (.Name x pos) C.env) (P.var i):=Ir K (slot_get h) hd
theorem tx{i x v w}(K:C.Ok d)(h:slotIn nums C.slots x=some (i,.loc))(hv:jf iQ iP v w): jm B C iQ iP TR (storeName C.env x w) (P.kd i v):=uK K (slot_get h) hv
theorem zy{i x c v w}(K:C.Ok d)(h:slotIn nums C.slots x=some (i,.cell c))(hv:jf iQ iP v w): jm B C iQ iP TR (storeName C.env x w) (P.kd i v):=tm K (slot_get h) hv
theorem kK{x:Str}{pos:Pos}{w:g8}{p:P Unit}(h:jm B C iQ iP TR (storeName C.env x w) p): jm B C iQ iP TR (assign (.Name x pos) C.env w) p:=by refine R1 (PySem.assign_Name ..) ?_;exact kJ (qZ h)
end
noncomputable def qI:List Str->Bool
 |[]=>true
 |x::r=>!(r.contains x)&&qI r
theorem j7:∀{l:List Str},qI l=true->l.Nodup
 |[],_=>cR
 |x::r,h=>by
  simp only[qI,aW,bx] at h
  exact dQ.cons (fun y hy q=>by have h1:=h.1;rw[q,cG.mpr hy] at h1;cases h1) (j7 h.2)
section
variable{B:Base}
end
section
variable{B:Base}{C:Ctx}{Φ jh iQ iS:Gh}{ρ ρ' iP iT jv:List hM}{σ σ' Ph:AS}{s s' s₁ Pg:g9}{d:Nat}{ψ jw:Gh}{fd:iG}{fa L:hM}{m:Str->Option g8}{A:ig}
noncomputable def pairsOf:List V->List V->List V
 |a::as,b::bs=>.tup [a,b]::pairsOf as bs
 |_,_=>[]
noncomputable def enumFrom:Nat->List V->List V
 |_,[]=>[]
 |n,a::as=>.tup [.int n,a]::enumFrom (n+1) as
inductive Lx(z TI TO i1 i2 l1 l2:hM)(xs ys:Array g8)(n1 n2:Nat)(Φ:Gh)(ρ:List hM)(vs:List V)(h:ib): Prop
 |mk (k:Nat) (a b:g8) (as bs:List V) (h1:IsZip h z TI TO .none) (h2:IsPair h TI (.ref i1) (.ref i2)) (h3:IsPair h TO a b) (h4:h.IsListIter i1 l1 k) (h5:h.IsListIter i2 l2 k)
  (h6:Φ l1=some {cls:=.type "list",data:=.seq xs n1}) (h7:Φ l2=some {cls:=.type "list",data:=.seq ys n2}) (h8:ja Φ ρ as (xs.toList.drop k)) (h9:ja Φ ρ bs (ys.toList.drop k)) (h10:vs=pairsOf as bs)
theorem m0{h h':ib}{i l:hM}{k:Nat}(x:h.IsListIter i l k)(f:∀o,h.get? i=some o->h'.get? i=some o): h'.IsListIter i l k:=by obtain⟨o,e1,e2⟩:=x;exact⟨o,f o e1,e2⟩
theorem qb{h:ib}{i l:hM}{k:Nat}(x:h.IsListIter i l k): ∃o,h.get? i=some o:=x.imp fun Y e=>e.1
theorem handed{h'':ib}{fp:List hM}{va vb:V}{wa wb:g8}(hΦ:∀b o,Φ b=some o->s.heap.get? b=some o)(hfp:∀b∈fp,Φ b=none)(keep:∀c o,c∉fp->s.heap.get? c=some o->h''.get? c=some o)
  (hT:h''.get? s.heap.objs.size=some {cls:=.type "tuple",data:=.seq #[wa,wb]}) (ha:jf Φ ρ va wa) (hb:jf Φ ρ vb wb) :
  ∃jh,Gh.Le Φ jh/\(∀b o,jh b=some o->h''.get? b=some o)/\(∀b o,jh b=some o->Φ b=some o\/s.heap.get? b=none)/\jf jh ρ (.tup [va,vb]) (.ref s.heap.objs.size):=by
 have new:s.heap.get? s.heap.objs.size=none:=ib.get?_none_of_le (aM _);have le:=Gh.mj (o:=({cls:=.type "tuple",data:=.seq #[wa,wb]}:Obj)) (none_of (hΦ _) new);have ex:Ext Φ ρ (Gh.set Φ s.heap.objs.size {cls:=.type "tuple",data:=.seq #[wa,wb]}) ρ:=⟨le,aY _⟩
 exact⟨_,le,fun b o q=>(Gh.oX q).elim (fun q=>q.1▸q.2▸hT) fun q=>keep b o (fun hm=>no ((hfp b hm).symm.trans q)) (hΦ b o q),fun b o q=>(Gh.oX q).elim (fun q=>.inr (q.1▸new)) .inl,
  .tup (Gh.jQ _ _ _) (by refine R1 im ?_;exact(by decide:2<=16777216)) (.cons (ha.mono ex) (.cons (hb.mono ex) .nil))⟩
theorem zc{elts:List iB}{k:Nat}{pos:Pos}{z TI TO i1 i2 l1 l2:hM}{xs ys:Array g8}{n1 n2:Nat}(hh:A.handled=none)(ap:ZipApart z TI TO i1 i2 l1 l2):
  lS B A (.Tuple elts k pos) z [z,TI,TO,i1,i2] (Lx z TI TO i1 i2 l1 l2 xs ys n1 n2) where
 self:=fun Φ ρ vs s Q E st hQ=>by obtain⟨k,a,b,as,bs,h1,_⟩:=st;exact wpAny_pyIter_zip h1 hQ
 frame:=fun Φ ρ jh ρ' vs h h' st e hk hf=>by
  obtain⟨k,a,b,as,bs,h1,h2,h3,h4,h5,h6,h7,h8,h9,h10⟩:=st
  obtain⟨f1,f2,f3,f4,f5⟩:_/\_/\_/\_/\_:=by have f:=an.mp hf;have g:=an.mp f.2;have i:=an.mp g.2;have j:=an.mp i.2;exact⟨f.1,g.1,i.1,j.1,j.2 _ ac⟩
  exact⟨k,a,b,as,bs,f1 _ h1,f2 _ h2,f3 _ h3,m0 h4 f4,m0 h5 f5,e.1 _ _ h6,e.1 _ _ h7,h8.mono e,h9.mono e,h10⟩
 item:=fun Φ ρ x rest s Q E st hΦ hfp hQ=>by
  obtain⟨k,a,b,as,bs,h1,h2,h3,h4,h5,h6,h7,h8,h9,h10⟩:=st;cases as with
  |nil=>cases h10
  |cons va as=>cases bs with
   |nil=>cases h10
   |cons vb bs=>
    injection h10 with e1 e2
    subst e1;obtain⟨wa,g1,ha,hra⟩:=h8.drop;obtain⟨wb,g3,hb,hrb⟩:=h9.drop;refine wpAny_pyNext_zip_item ap h1 h2 h3 h4 h5 (js (hΦ _ _ h6)) (js (hΦ _ _ h7)) (x:=wa) (y:=wb) (by refine R2 aB ?_;exact g1) (by refine R2 aB ?_;exact g3) fun h' q1 q2 q3 q4 q5 q6 q7=>wpAny_letOwnedTupleGo_zip q1 fun h'' r1 r2=>?_
    have keep:∀c o,c∉[z,TI,TO,i1,i2]->s.heap.get? c=some o->h''.get? c=some o:=fun c o hc e=>
     (r2.2 c fun q=>hc (q▸.head _)).trans (q7 c o (fun q=>hc (q▸.head _)) (fun q=>hc (q▸.tail _ (.tail _ (.head _)))) (fun q=>hc (q▸.tail _ (.tail _ (.tail _ (.head _))))) (fun q=>hc (q▸.tail _ (.tail _ (.tail _ (.tail _ (.head _)))))) e)
    obtain⟨jh,le,p1,p2,p3⟩:=handed hΦ hfp keep ((r2.2 _ (aZ (ib.lt_size h1))).trans q5) ha hb;have ex:Ext Φ ρ jh ρ:=⟨le,aY _⟩;have Nx:h''.get? TI=some {cls:=.type "tuple",data:=.seq #[.ref i1,.ref i2]}:=(r2.2 TI ap.TIz).trans (q7 TI _ ap.TIz ap.TITO ap.TIi1 ap.TIi2 h2);have kTO:IsPair h'' TO wa wb:=(r2.2 TO ap.TOz).trans q2;have Nw:=m0 q3 fun o e=>(r2.2 i1 ap.i1z).trans e;have Nv:=m0 q4 fun o e=>(r2.2 i2 ap.i2z).trans e
    exact hQ (.ref s.heap.objs.size) h'' s.toks jh le p1 p2 keep p3 ⟨k+1,wa,wb,as,bs,r1,Nx,kTO,Nw,Nv,le _ _ h6,le _ _ h7,hra.mono ex,hrb.mono ex,e2⟩
     (an.mpr ⟨⟨_,r1⟩,an.mpr ⟨⟨_,Nx⟩,an.mpr ⟨⟨_,kTO⟩,an.mpr ⟨qb Nw,an.mpr ⟨qb Nv,fun Y h=>nomatch h⟩⟩⟩⟩⟩)
 done:=fun Φ ρ s Q E st hΦ hfp hQ=>by
  obtain⟨k,a,b,as,bs,h1,h2,h3,h4,h5,h6,h7,h8,h9,h10⟩:=st;refine wpAny_pyNext_zip_end hh ap h1 h2 h3 h4 h5 (js (hΦ _ _ h6)) (js (hΦ _ _ h7)) ?_ fun h' hk=>⟨rfl,hQ h' s.toks fun c o hc e=>hk c o (fun q=>hc (q▸.head _)) (fun q=>hc (q▸.tail _ (.tail _ (.head _)))) (fun q=>hc (q▸.tail _ (.tail _ (.tail _ (.head _))))) (fun q=>hc (q▸.tail _ (.tail _ (.tail _ (.tail _ (.head _)))))) e⟩;cases as with
  |nil=>exact .inl (by refine R2 aB ?_;exact oF h8.kG)
  |cons va as=>cases bs with
   |nil=>exact .inr (by refine R2 aB ?_;exact oF h9.kG)
   |cons vb bs=>cases h10
inductive JW(e it l:hM)(xs:Array g8)(n1:Nat)(Φ:Gh)(ρ:List hM)(vs:List V)(h:ib): Prop
 |mk (k:Nat) (old:g8) (as:List V) (h1:IsEnum h e it k old) (h2:h.IsListIter it l k) (h3:Φ l=some {cls:=.type "list",data:=.seq xs n1}) (h4:ja Φ ρ as (xs.toList.drop k)) (h5:vs=enumFrom k as)
theorem xG{elts:List iB}{j:Nat}{pos:Pos}{e it l:hM}{xs:Array g8}{n1:Nat}(hh:A.handled=none)(ap:e≠it):
  lS B A (.Tuple elts j pos) e [e,it] (JW e it l xs n1) where
 self:=fun Φ ρ vs s Q E st hQ=>by obtain⟨k,old,as,h1,_⟩:=st;exact wpAny_pyIter_enum h1 hQ
 frame:=fun Φ ρ jh ρ' vs h h' st ex hk hf=>by obtain⟨k,old,as,h1,h2,h3,h4,h5⟩:=st;exact⟨k,old,as,hf e (.head _) _ h1,m0 h2 (hf it (.tail _ (.head _))),ex.1 _ _ h3,h4.mono ex,h5⟩
 item:=fun Φ ρ x rest s Q E st hΦ hfp hQ=>by
  obtain⟨k,old,as,h1,h2,h3,h4,h5⟩:=st;cases as with
  |nil=>cases h5
  |cons va as=>
   injection h5 with e1 e2
   subst e1;obtain⟨wa,g1,ha,hra⟩:=h4.drop;refine wpAny_pyNext_enum_item h1 h2 (js (hΦ _ _ h3)) (x:=wa) (by refine R2 aB ?_;exact g1) ap fun h' q1 q2 q3 q4 q5=>wpAny_letOwnedTupleGo_enum q1 fun h'' r1 r2=>?_;have keep:∀c o,c∉[e,it]->s.heap.get? c=some o->h''.get? c=some o:=fun c o hc ee=>(r2.2 c fun q=>hc (q▸.head _)).trans (q5 c o (fun q=>hc (q▸.head _)) (fun q=>hc (q▸.tail _ (.head _))) ee);obtain⟨jh,le,p1,p2,p3⟩:=handed hΦ hfp keep ((r2.2 _ (aZ (ib.lt_size h1))).trans q3) (.int k s.toks) ha;have kit:=m0 q2 fun o e=>(r2.2 it (Ne.symm ap)).trans e;exact hQ (.ref s.heap.objs.size) h'' _ jh le p1 p2 keep p3 ⟨k+1,_,as,r1,kit,le _ _ h3,hra.mono ⟨le,aY _⟩,e2⟩ (an.mpr ⟨⟨_,r1⟩,an.mpr ⟨qb kit,fun Y h=>nomatch h⟩⟩)
 done:=fun Φ ρ s Q E st hΦ hfp hQ=>by
  obtain⟨k,old,as,h1,h2,h3,h4,h5⟩:=st;refine wpAny_pyNext_enum_end hh h1 h2 (js (hΦ _ _ h3)) ?_ fun h' hk=>⟨rfl,hQ h' s.toks fun b o hb q=>hk b o (fun x=>hb (x▸.tail _ (.head _))) q⟩;cases as with
  |nil=>refine R2 aB ?_;exact oF h4.kG
  |cons va as=>cases h5
noncomputable def P.zipItems:List V->P (List V)
 |[.lst a,.lst b]=>P.pure (pairsOf a b)
 |_=>P.stuck
noncomputable def P.enumItems:List V->P (List V)
 |[.lst a]=>P.pure (enumFrom 0 a)
 |_=>P.stuck
noncomputable abbrev uB(B:Base)(C:Ctx)(ψ:Gh)(target:iB)(Φ:Gh)(ρ:List hM)(s:g9)(xs:List V)(σ':AS): g8->g9->Prop:=uC B C ψ Φ ρ s target σ' xs
noncomputable def oN(B:Base)(C:Ctx)(ψ:Gh)(iQ:Gh)(iP:List hM)(target:iB)(t:Sem g8)(p:P (List V)): Prop:=
 ∀Φ ρ σ s,Ext iQ iP Φ ρ->Rel B (C.at ψ) Φ ρ σ s->match p σ with
  |.ok xs σ'=>hZ (M B) C.A t (fun x s'=>hZ (M B) C.A (pyIter x) (uB B C ψ target Φ ρ s xs σ') (fun Y Y=>False) s') (fun Y Y=>False) s
  |.exc σ'=>True
  |.stuck=>True
theorem jD{iter target:iB}{p:P (List V)}(h:oN B C ψ iQ iP target (iF iter C.env) p): ER (B:=B) C ψ iQ iP target (do let x ←iF iter C.env;iw iter.pos;holding [x] (pyIter x)) p:=by
 intro Φ ρ σ s e r;have:=h Φ ρ σ s e r;cases hp:p σ with
 |stuck=>trivial
 |exc σ'=>trivial
 |ok xs σ'=>
  rw[hp] at this;exact g7 (hV this (fun x s' q=>g7 (ic (ik q))) fun Y Y q=>q)
theorem o5{x:Str}{np pos:Pos}{args:List iB}{v:g8}{ps:P (List V)}{F:List V->P (List V)}{target:iB}(hf:jm B (C.at ψ) iQ iP (CR v) (iF (.Name x np) C.env) (P.pure ()))(cw:CW B v)
  (hargs:jm B (C.at ψ) iQ iP uW (ix (il pos (ie args C.env))) ps) (hcall:∀iS iT vs ws,Ext iQ iP iS iT->ja iS iT vs ws->oN B C ψ iS iT target (call v ws []) (F vs))
  (ht:autoParam ((il pos (ie args C.env)).any (·.1)=false) PySem.W.call_K._auto_4):oN B C ψ iQ iP target (iF (.Call (.Name x np) args [] pos) C.env) (P.bind ps F):=by
 intro Φ ρ σ s e r;refine R1 mE ?_;have h1:hZ (M B) C.A (iF (.Name x np) C.env) (Post B (C.at ψ) Φ ρ s (CR v) σ ()) (fun Y Y=>False) s:=hf Φ ρ σ s e r;unfold P.bind;cases hp:ps σ with
 |stuck=>trivial
 |exc σ'=>trivial
 |ok vs Ph=>
  dsimp only;cases hF:F vs Ph with
  |stuck=>trivial
  |exc σ'=>trivial
  |ok xs Pn=>
   refine g7 (hV h1 (fun a s₁ q=>?_) fun Y Y f=>f);obtain⟨jh,ρ',q1,q2,rfl⟩:=q;have h2:=hargs jh ρ' σ s₁ (e.trans q1.ext) q2;rw[hp] at h2;refine cw _ _ _ [] _ _ _ ht (hV h2 (fun ws Pg k=>?_) fun Y Y q=>q);obtain⟨iS,iT,k1,k2,k3⟩:=k;have h3:=hcall iS iT vs ws (e.trans (q1.ext.trans k1.ext)) k3 iS iT Ph Pg (.refl _ _) k2;rw[hF] at h3;refine⟨fun b o q=>k2.keep _ _ (k2.base b o q),hV h3 (fun x s' q=>hV q (fun it s'' q=>?_) fun Y Y f=>f) fun Y Y f=>f⟩;exact q.step (q1.trans k1)
theorem yb(r:Rel B C Φ ρ σ s){fp:List hM}(h:∀b∈fp,s.heap.objs.size<=b): Off C Φ ρ fp:=fun b hb=>r.lq (ib.get?_none_of_le (h b hb))
theorem IW{n a b:Nat}(h:a≠b): n+a≠n+b:=fun q=>h (d7 q)
theorem Ie{elts:List iB}{j:Nat}{pos:Pos}{vs:List V}{ws:List g8}(hh:C.A.handled=none)(hv:ja iQ iP vs ws):
  oN B C ψ iQ iP (.Tuple elts j pos) (call (.type "zip") ws []) (P.zipItems vs):=by
 intro Φ ρ σ s e r;cases vs with
 |nil=>trivial
 |cons v1 vs=>cases vs with
  |nil=>cases v1<;>trivial
  |cons v2 vs=>cases v1 with
   |lst as=>cases v2 with
    |lst bs=>cases vs with
     |cons _ _=>trivial
     |nil=>
      obtain⟨w1,w2,rfl,h1,h2⟩:=(hv.mono e).two;obtain⟨l1,xs,n1,rfl,a1,-,a3⟩:=h1.kG;obtain⟨l2,ys,n2,rfl,b1,-,b3⟩:=h2.kG;show hZ (M B) C.A _ (fun x s'=>hZ (M B) C.A (pyIter x) (uB B C ψ _ Φ ρ s _ σ) (fun Y Y=>False) s') _ s;have k1:=r.keep _ _ a1;have k2:=r.keep _ _ b1;refine call_zip_2 (js k1) (js k2) fun h' q1 q2 q3 q4 q5 q6 q7=>wpAny_pyIter_zip q1 ?_;have r':Rel B (C.at ψ) Φ ρ σ {s with heap:=h'}:=r.grow q7 r.gens rfl;have d1:∀k,l1≠s.heap.objs.size+k:=fun k=>aK (aD (ib.lt_size k1) (ay _ _));have d2:∀k,l2≠s.heap.objs.size+k:=fun k=>aK (aD (ib.lt_size k2) (ay _ _));have z:∀{a b:Nat},a≠b->s.heap.objs.size+a≠s.heap.objs.size+b:=IW;have ap:ZipApart (s.heap.objs.size+4) (s.heap.objs.size+2) (s.heap.objs.size+3) (s.heap.objs.size+0) (s.heap.objs.size+1) l1 l2:=⟨z (by decide),z (by decide),z (by decide),z (by decide),z (by decide),z (by decide),z (by decide),z (by decide),z (by decide),z (by decide),d1 _,d1 _,d1 _,d1 _,d2 _,d2 _,d2 _,d2 _⟩
      exact⟨Φ,ρ,_,[s.heap.objs.size+4,s.heap.objs.size+2,s.heap.objs.size+3,s.heap.objs.size,s.heap.objs.size+1],_,rfl,.same rfl,r',zc hh ap,yb r (an.mpr ⟨ay _ _,an.mpr ⟨ay _ _,an.mpr ⟨ay _ _,an.mpr ⟨aM _,an.mpr ⟨ay _ _,fun Y h=>nomatch h⟩⟩⟩⟩⟩),
       an.mpr ⟨⟨_,q1⟩,an.mpr ⟨⟨_,q2⟩,an.mpr ⟨⟨_,q3⟩,an.mpr ⟨qb q4,an.mpr ⟨qb q5,fun Y h=>nomatch h⟩⟩⟩⟩⟩,0,.none,.none,_,_,q1,q2,q3,q4,q5,a1,b1,a3,b3,rfl⟩
    |_=>trivial
   |_=>trivial
theorem xa{elts:List iB}{j:Nat}{pos:Pos}{vs:List V}{ws:List g8}(hh:C.A.handled=none)(hv:ja iQ iP vs ws):
  oN B C ψ iQ iP (.Tuple elts j pos) (call (.type "enumerate") ws []) (P.enumItems vs):=by
 intro Φ ρ σ s e r;cases vs with
 |nil=>trivial
 |cons v1 vs=>cases v1 with
  |lst as=>cases vs with
   |cons _ _=>trivial
   |nil=>
    obtain⟨w1,rfl,h1⟩:=(hv.mono e).one;obtain⟨l1,xs,n1,rfl,a1,-,a3⟩:=h1.kG;show hZ (M B) C.A _ (fun x s'=>hZ (M B) C.A (pyIter x) (uB B C ψ _ Φ ρ s _ σ) (fun Y Y=>False) s') _ s;refine call_enumerate_list (js (r.keep _ _ a1)) fun h' q1 q2 q3 q4=>wpAny_pyIter_enum q1 ?_
    exact⟨Φ,ρ,_,[s.heap.objs.size+1,s.heap.objs.size],_,rfl,.same rfl,r.grow q4 r.gens rfl,xG hh (gq _),yb r (an.mpr ⟨ay _ _,an.mpr ⟨aM _,fun Y h=>nomatch h⟩⟩),
     an.mpr ⟨⟨_,q1⟩,an.mpr ⟨qb q2,fun Y h=>nomatch h⟩⟩,0,.none,_,q1,q2,a1,a3,rfl⟩
  |_=>cases vs<;>trivial
end
noncomputable def P.lg(asg:V->P Unit)(test:P Bool)(pe:List V->P (List V)): List V->List V->P (List V)
 |[],acc=>P.pure acc
 |x::r,acc=>P.bind (asg x) fun Y=>P.bind test fun b=>if b then P.bind (pe acc) fun acc'=>P.lg asg test pe r acc' else P.lg asg test pe r acc
noncomputable def P.mU(elt:P V): List V->P (List V):=fun acc=>P.bind elt fun y=>P.pure (acc++[y])
theorem mY{α β:Type}{p:P α}{g:α->P β}{σ σ':AS}{b:β}: P.bind p g σ=.ok b σ'↔∃a Pi,p σ=.ok a Pi/\g a Pi=.ok b σ':=by
 unfold P.bind;cases h:p σ with
 |ok a Pi=>exact⟨fun q=>⟨a,Pi,rfl,q⟩,fun⟨a',Cx,e,q⟩=>by cases e;exact q⟩
 |exc Pi=>exact⟨fun q=>(nomatch q),fun⟨a',Cx,e,q⟩=>(nomatch e)⟩
 |stuck=>exact⟨fun q=>(nomatch q),fun⟨a',Cx,e,q⟩=>(nomatch e)⟩
noncomputable def yY(pe:List V->P (List V)): Prop:=∀acc σ acc' σ',pe acc σ=.ok acc' σ'->acc.length<=acc'.length
theorem qd{asg:V->P Unit}{test:P Bool}{pe:List V->P (List V)}(hm:yY pe): ∀{xs acc:List V} {σ:AS} {ys:List V} {σ':AS},P.lg asg test pe xs acc σ=.ok ys σ'->acc.length<=ys.length
 |[],acc,σ,ys,σ',h=>by cases h;exact aM _
 |x::r,acc,σ,ys,σ',h=>by
  unfold P.lg at h;obtain⟨_,Pi,_,h⟩:=mY.mp h;obtain⟨b,Ph,_,h⟩:=mY.mp h;cases b with
  |false=>exact qd hm h
  |true=>
   obtain⟨acc',Pn,h0,h⟩:=mY.mp h;exact ab (hm _ _ _ _ h0) (qd hm h)
theorem rz{elt:P V}: yY (P.mU elt):=fun acc σ acc' σ' h=>by obtain⟨y,Pi,_,h⟩:=mY.mp h;cases h;simp
noncomputable def lh(ifs:List iB)(env:Env): Sem Bool:=forIn ifs true fun c r=>if r=true then do let ok ←isTrue c env (iF c env);pure (ForInStep.yield ok) else pure (ForInStep.yield r)
section
variable{B:Base}{C D:Ctx}{Φ jh iQ iS:Gh}{ρ ρ' iP iT jv:List hM}{σ σ' Ph:AS}{s s' s₁ Pg:g9}{d:Nat}{ψ jw:Gh}{A:ig}
theorem BE{env:Env}: jm B C iQ iP BR (lh [] env) (P.pure true):=jK fun Y Y Y=>rfl
theorem kL{c:iB}{p:P Bool}(h:jm B C iQ iP BR (isTrue c C.env (iF c C.env)) p): jm B C iQ iP BR (lh [c] C.env) p:=nV h fun Y Y Y q=>wpAny_tests_one q
noncomputable def xu(B:Base)(D:Ctx)(iQ:Gh)(iP:List hM)(a0:hM)(pn:Sem Unit)(pe:List V->P (List V)): Prop:=
 ∀jw Φ ρ σ s acc (ws:Array g8),Ext iQ iP Φ ρ->Rel B (D.at jw) Φ ρ σ s->Off (D.at jw) Φ ρ [a0]->s.heap.PlainList a0 ws->ja Φ ρ acc ws.toList->∀acc' σ',pe acc σ=.ok acc' σ'->acc'.length<=1000000->
  ∀(Q:Unit->g9->Prop) (E:g8->g9->Prop),(∀jh ρ' s' ws',Step jw s Φ ρ s' jh ρ'->Rel B (D.at jw) jh ρ' σ' s'->Off (D.at jw) jh ρ' [a0]->s'.heap.PlainList a0 ws'->ja jh ρ' acc' ws'.toList->Q () s')->
   hZ (M B) D.A pn Q E s
noncomputable def pS(ce:iB)(dep:Nat)(target iter:iB)(ifs:List iB)(pn:Sem Unit)(it acc:g8)(env:Env): Prop:=
 compTurn ce dep it acc env=(iw iter.pos >>= fun Y=>pyNext it >>= fun r=>match r with
  |none=>pure (.done .next)
  |some v=>letOwnedTupleGo target it v >>= fun Y=>assign target env v >>= fun Y=>lh ifs env >>= fun ok=>if ok=true then pn >>= fun Y=>again (.compLoop ce dep it acc env) else again (.compLoop ce dep it acc env))
theorem AU{elt:iB}{gs:List Comprehension}{scope:Scope}{pos:Pos}{dep:Nat}{it acc:g8}{env:Env}{R:Result->g9->Prop}(h:hZ (M B) A ((compTurn (.ListComp elt gs scope pos) dep it acc env).onRaise (fun x=>do noteFrame x env;theTreesLotGoes x)) (fun fin s'=>match fin with | .done f=>R (.ok f) s' | .again c'=>c'.quiet=true/\iy (M B) A c' R s') (fun e s'=>R (.error e) s') s):
  iy (M B) A (.compLoop (.ListComp elt gs scope pos) dep it acc env) R s:=by
 refine codeAny_of_tree ?_;show hZ _ A ((compTurn (.ListComp elt gs scope pos) dep it acc env).onRaise (fun x=>do noteFrame x env;theTreesLotGoes x)) _ _ s;exact h
noncomputable def Hi(B:Base)(D:Ctx)(ψ Φ:Gh)(ρ:List hM)(s:g9)(a0:hM)(ys:List V)(σ':AS)(R:Result->g9->Prop): Prop:=
 ∀jh ρ' s' ws',Step ψ s Φ ρ s' jh ρ'->Rel B (D.at ψ) jh ρ' σ' s'->Off (D.at ψ) jh ρ' [a0]->s'.heap.PlainList a0 ws'->ja jh ρ' ys ws'.toList->R (.ok .next) s'
theorem Rel.wipe{N:hM}{h':ib}{tk:Nat}(r:Rel B (D.at ψ) Φ ρ σ s)(off:Off (D.at ψ) Φ ρ [N])(hsb:∀b,b≠N->h'.get? b=s.heap.get? b): Rel B (D.at ψ) Φ ρ σ {s with heap:=h',toks:=tk}:=
 r.pK off (fun b o hb q=>(hsb b fun x=>hb (af.mpr x)).trans q) (.refl _) (fun b o q=>(hsb b fun x=>no ((off b (af.mpr x)).1.symm.trans q)).trans (r.keep b o q)) (fun b o q=>.inl q) r.gens rfl
theorem vJ{ce target iter:iB}{dep:Nat}{ifs:List iB}{I a0:hM}{fp:List hM}{St:Gh->List hM->List V->ib->Prop}{asg:V->P Unit}{test:P Bool}{pe:List V->P (List V)}{pn:Sem Unit}(W:lS B D.A target I fp St)
  (ha0:a0∉fp) (hturn:pS ce dep target iter ifs pn (.ref I) (.ref a0) D.env) (hm:yY pe) (hle:∀{R:Result->g9->Prop} {s:g9},hZ (M B) D.A ((compTurn ce dep (.ref I) (.ref a0) D.env).onRaise (fun x=>do noteFrame x D.env;theTreesLotGoes x)) (fun fin s'=>match fin with | .done f=>R (.ok f) s' | .again c'=>c'.quiet=true/\iy (M B) D.A c' R s') (fun e s'=>R (.error e) s') s->iy (M B) D.A (.compLoop ce dep (.ref I) (.ref a0) D.env) R s)
  (nX:∀jw iS iT v w,Ext iQ iP iS iT->jf iS iT v w->jm B (D.at jw) iS iT TR (assign target D.env w) (asg v))
  (htest:∀jw,jm B (D.at jw) iQ iP BR (lh ifs D.env) test) (DW:xu B D iQ iP a0 pn pe) {R:Result->g9->Prop} :
  ∀(xs:List V) Φ ρ σ s (acc:List V) (ws:Array g8),Ext iQ iP Φ ρ->Rel B (D.at ψ) Φ ρ σ s->Off (D.at ψ) Φ ρ (a0::fp)->(∀b∈fp,∃o,s.heap.get? b=some o)->St Φ ρ xs s.heap->s.heap.PlainList a0 ws->ja Φ ρ acc ws.toList->
   ∀ys σ',P.lg asg test pe xs acc σ=.ok ys σ'->ys.length<=1000000->Hi B D ψ Φ ρ s a0 ys σ' R->
   iy (M B) D.A (.compLoop ce dep (.ref I) (.ref a0) D.env) R s:=by
 intro xs
 induction xs with
 |nil=>
  intro Φ ρ σ s acc ws e r off ex st hpl hacc ys σ' hres hlen hR;cases hres;refine hle (wpAny_noted ?_);refine R1 hturn ?_;refine g7 (ic (g7 (hV (W.stop r (fun b hb=>off b (.tail _ hb)) st) (fun x s' h=>?_) fun Y Y f=>f.elim)));obtain⟨rfl,h1,h2,hk⟩:=h;exact hO (hR Φ ρ _ ws h1 h2 (fun b hb=>af.mp hb▸off a0 (.head _)) (hpl.at fun o q=>hk a0 o ha0 q) hacc)
 |cons x xs ih=>
  intro Φ ρ σ s acc ws e r off ex st hpl hacc ys σ' hres hlen hR;refine hle (wpAny_noted ?_);refine R1 hturn ?_;refine g7 (ic (g7 (hV (W.turn r (fun b hb=>off b (.tail _ hb)) ex st) (fun x' s' h=>?_) fun Y Y f=>f.elim)));cases x' with
  |none=>exact h.elim
  |some v=>
   refine g7 (hV h (fun Y s₁ q=>?_) fun Y Y f=>f.elim);obtain⟨jh,st1,r',off',hfr,hk,hv,st',ex'⟩:=q;have hpl':s₁.heap.PlainList a0 ws:=hpl.at fun o q=>hk a0 o ha0 q;obtain⟨kE,am,Hp⟩:=r'.arm off' ex';have ON:kE a0=none:=(am.out a0 ha0).trans (off a0 (.head _)).2.1
   have OT:jh a0=none:=by
    cases q:jh a0 with
    |none=>rfl
    |some o=>exact(hfr a0 o q).elim (fun q=>no ((off a0 (.head _)).1.symm.trans q)) fun q=>hpl.elim fun Y z=>no (q.symm.trans z)
   have wn:Off (D.at kE) jh ρ [a0]:=fun b hb=>af.mp hb▸⟨OT,ON,(off a0 (.head _)).2.2⟩;obtain⟨Hj,L9,Mi⟩:=Hp.arm wn fun b hb=>af.mp hb▸hpl'.elim fun Y q=>⟨_,q⟩;have hp:P.bind (P.bind (asg x) fun Y=>test) (fun b=>if b then P.bind (pe acc) fun acc'=>P.lg asg test pe xs acc' else P.lg asg test pe xs acc) σ=.ok ys σ':=(P.assoc ..).trans hres;have h12:=jn (nX Hj jh ρ x v (e.trans st1.ext) hv) (fun iS iT Y Y e2 Y=>(htest Hj).weaken ((e.trans st1.ext).trans e2)) jh ρ σ _ (.refl _ _) Mi;obtain⟨b,Ph,hq,hp⟩:=mY.mp hp;rw[hq] at h12;refine r9 (hV h12 (fun b' Pg hx=>?_) fun Y Y f=>f.elim);obtain⟨kF,jv,k1,k2,k3⟩:=hx;obtain rfl:b=b':=k3;have k1':=k1.jO L9.le;have r2:Rel B (D.at kE) kF jv Ph Pg:=Hp.qO L9.le k1.ext.1 k2;have KU:Pg.heap.PlainList a0 ws:=hpl'.at fun o q=>k2.vO L9 a0 (.head _) o q;have FV:Off (D.at kE) kF jv [a0]:=wn.step L9.ex k1;have stp:=st1.trans (k1'.jO am.le)
   have next:∀{r7 rZ Pn Pm acc' ws'},Step kE s₁ jh ρ Pm r7 rZ->Rel B (D.at kE) r7 rZ Pn Pm->Off (D.at kE) r7 rZ [a0]->Pm.heap.PlainList a0 ws'->ja r7 rZ acc' ws'.toList->P.lg asg test pe xs acc' Pn=.ok ys σ'->iy (M B) D.A (.compLoop ce dep (.ref I) (.ref a0) D.env) R Pm:=fun k Pp PP PY P2 hp=>
    ih _ _ _ _ _ _ (e.trans (st1.trans (k.jO am.le)).ext) (r'.qO am.le k.ext.1 Pp) (an.mpr ⟨⟨(PP a0 (.head _)).1,(off a0 (.head _)).2.1,(PP a0 (.head _)).2.2⟩,off'.step am.ex k⟩) (Pp.Bq am) (W.frame _ _ _ _ _ _ _ st' k.ext Pp.keep (Pp.vO am)) PY P2 ys σ' hp hlen
     fun jh ρ' s' ws' g1 g2=>hR jh ρ' s' ws' ((st1.trans (k.jO am.le)).trans g1) g2
   cases b with
   |false=>exact hO ⟨rfl,next k1' r2 FV KU (hacc.mono stp.ext) hp⟩
   |true=>
    obtain⟨acc',Pn,hc,hp⟩:=(mY (p:=pe acc)).mp hp;exact g7 (DW kE kF jv Ph Pg acc ws (e.trans stp.ext) r2 FV KU (hacc.mono stp.ext) acc' Pn hc (ab (qd hm hp) hlen) _ _ fun r7 rZ Pm Nh stE r3 Mn Oi K6=>hO ⟨rfl,next (k1'.trans stE) r3 Mn Oi K6 hp⟩)
theorem ua{elt:iB}{a0:hM}{ep:P V}(helt:∀jw,jm B (D.at jw) iQ iP VR (iF elt D.env) ep): xu B D iQ iP a0 (do let _ ←call (.builtin "list.append") [.ref a0,←iF elt D.env]) (P.mU ep):=by
 intro jw Φ ρ σ s acc ws e r off hpl hacc acc' σ' hres hlen Q E hQ;obtain⟨y,Pi,h1,h2⟩:=mY.mp hres;cases h2;obtain⟨kE,am,Hp⟩:=r.arm off fun b hb=>af.mp hb▸hpl.elim fun Y q=>⟨_,q⟩;have h3:=helt kE Φ ρ σ s e Hp;rw[h1] at h3;refine g7 (hV h3 (fun wy Pm hx=>?_) fun Y Y f=>f.elim);obtain⟨r7,rZ,j1,j2,j3⟩:=hx;have stp:=j1.jO am.le;have off3:=off.step am.ex j1;have r3:=r.qO am.le j1.ext.1 j2
 have hl3:ws.size<=io:=by rw[ar] at hlen;refine R1 hacc.size (R1 im ?_);exact ab (ab (bU _) hlen) (by decide)
 refine g7 (wpAny_list_append_plain (hpl.at fun o q=>j2.vO am a0 (.head _) o q) (fun PM Oh Of=>?_) hl3);have r4:Rel B (D.at jw) r7 rZ σ' {Pm with heap:=PM}:=r3.wipe off3 Of.2;refine hO (hQ r7 rZ {Pm with heap:=PM} (ws.push wy) (stp.trans (Step.same (s':={Pm with heap:=PM}) rfl)) r4 off3 Oh ?_);refine R1 eH ?_;exact(hacc.mono stp.ext).append (.cons j3 .nil)
end
noncomputable def ph(cells:List (Str×hM)): List (Str×ij)->List (Str×hM)->List (Str×hM)
 |[],acc=>acc
 |p::r,acc=>ph cells r (if p.2 == .free then((cells.lookup p.1).map fun c=>(p.1,c)).toList++acc else acc)
theorem vK{env:Env}: ∀(names:List (Str×ij)) (acc:List (Str×hM)),(∀x,(x,ij.free)∈names->(env.cells.lookup x).isSome=true)->
   (forIn names acc fun(x:Str×ij) (r:List (Str×hM))=>(match x with | (name,kind)=>if kind == .free then(do let c ←cellOf env name;pure (ForInStep.yield ((name,c)::r))) else pure (ForInStep.yield r):Sem (ForInStep (List (Str×hM)))))=pure (ph env.cells names acc)
 |[],acc,_=>rfl
 |(x,k)::r,acc,hf=>by
  refine R1 (List.forIn_cons ..) ?_;unfold ph;dsimp only;have ih:=vK (env:=env) r;by_cases hk:(k == ij.free)=true
  .obtain⟨c,hc⟩:=a8.mp (hf x ((by simpa using hk:k=.free)▸.head _));refine R1 (if_pos hk) (R1 (if_pos hk) (R1 hc (R2 (ih _ fun y hy=>hf y (.tail _ hy)) ?_)));unfold cellOf;exact R1 hc rfl
  .exact R1 (if_neg hk) (R1 (if_neg hk) (R2 (ih _ fun y hy=>hf y (.tail _ hy)) rfl))
theorem uU{scope:Scope}{env:Env}(h:∀x,(x,ij.free)∈scope.names->(env.cells.lookup x).isSome=true): closureFor scope env=pure (ph env.cells scope.names []):=
 congrArg (fun t:Sem (List (Str×hM))=>t >>= fun cs=>pure cs) (vK scope.names [] h)
theorem qr{cells:List (Str×hM)}{x:Str}{c:hM}(hc:cells.lookup x=some c): ∀{names:List (Str×ij)} {acc:List (Str×hM)},((x,ij.free)∈names\/acc.lookup x=some c)->(ph cells names acc).lookup x=some c
 |[],acc,h=>h.elim (fun h=>nomatch h) id
 |(y,k)::r,acc,h=>by
  unfold ph;refine qr hc ?_;dsimp only
  have put:(acc.lookup x=some c\/x=y)->(((cells.lookup y).map fun c=>(y,c)).toList++acc).lookup x=some c:=fun q=>by
   by_cases e:x=y
   .refine R2 e (R1 hc ?_);show((x,c)::acc).lookup x=_;exact R1 bv (R1 (beq_self_eq_true ..) rfl)
   .have q:=q.resolve_right e;cases cells.lookup y with
    |none=>exact q
    |some c'=>
     show((y,c')::acc).lookup x=_;refine R1 bv (R1 (beq_eq_false_iff_ne.mpr e) ?_);exact q
  by_cases hk:(k == ij.free)=true
  .refine R1 (if_pos hk) ?_;exact h.elim (fun h=>(av.mp h).elim (fun q=>.inr (put (.inr (congrArg Prod.fst q)))) .inl) fun h=>.inr (put (.inl h))
  .refine R1 (if_neg hk) ?_;exact h.imp_left fun h=>(av.mp h).resolve_left fun q=>hk (beq_iff_eq.mpr (congrArg Prod.snd q).symm)
noncomputable def yN(sl:List (Str×Loc))(p:Str×ij): Option (Loc×Option (Nat×Bool)):=match p.2 with
 |.local=>some (.loc,none)
 |.free=>(slotIn nums sl p.1).bind fun q=>match q.2 with
  |.cell c=>some (.ro c,some (q.1,true))
  |.ro c=>some (.ro c,some (q.1,false))
  |.loc=>none
 |_=>none
noncomputable def Ey(names:List (Str×ij))(sl:List (Str×Loc)): List ((Str×Loc)×Option (Nat×Bool)):=names.filterMap fun p=>(yN sl p).map fun q=>((p.1,q.1),q.2)
noncomputable def kU(names:List (Str×ij))(sl:List (Str×Loc)): List (Str×Loc):=(Ey names sl).map (·.1)
noncomputable def mv(names:List (Str×ij))(sl:List (Str×Loc)): List (Option (Nat×Bool)):=(Ey names sl).map (·.2)
inductive yZ(sl:List (Str×Loc))(x:Str): ij->Loc->Option (Nat×Bool)->Prop
 |loc:yZ sl x .local .loc none
 |cell (c:hM) (j:Nat) (hj:sl[j]?=some (x,.cell c)):yZ sl x .free (.ro c) (some (j,true))
 |ro (c:hM) (j:Nat) (hj:sl[j]?=some (x,.ro c)):yZ sl x .free (.ro c) (some (j,false))
theorem ui{sl:List (Str×Loc)}{x:Str}{k:ij}{q:Loc×Option (Nat×Bool)}(h:yN sl (x,k)=some q): yZ sl x k q.1 q.2:=by
 unfold yN at h;cases k with
 |«local»=>refine R2 (aq.inj h) ?_;exact .loc
 |free=>
  obtain⟨⟨j,l⟩,hs,h⟩:=b8.mp h;have hs:=slot_get hs;cases l with
  |loc=>exact no h
  |cell c=>refine R2 (aq.inj h) ?_;exact .cell c j hs
  |ro c=>refine R2 (aq.inj h) ?_;exact .ro c j hs
 |_=>exact no h
theorem n7{names:List (Str×ij)}{sl:List (Str×Loc)}{i:Nat}{x:Str}{l:Loc}(h:(kU names sl)[i]?=some (x,l)): ∃k q,(mv names sl)[i]?=some q/\(x,k)∈names/\yZ sl x k l q:=by unfold kU at h;rw[aN] at h;obtain⟨⟨_,q⟩,h,rfl⟩:=aV.mp h;obtain⟨⟨y,k⟩,hp,e⟩:=fQ.mp (aP h);obtain⟨z,hz,e⟩:=aV.mp e;cases e;exact⟨k,z.2,by unfold mv;rw[aN,h];rfl,hp,ui hz⟩
theorem qp{sl:List (Str×Loc)}: ∀{names:List (Str×ij)},((kU names sl).map (·.1)).Sublist (names.map (·.1))
 |[]=>.slnil
 |p::r=>by
  have ih:=qp (sl:=sl) (names:=r);unfold kU Ey at ih ⊢;refine R1 List.filterMap_cons ?_;cases yN sl p with
  |none=>exact ih.cons _
  |some q=>exact ih.cons_cons _
theorem uS{names:List (Str×ij)}{sl:List (Str×Loc)}: (mv names sl).length=(kU names sl).length:=by unfold mv kU;exact R1 (ak ..) (R1 (ak ..) rfl)
theorem vm{sl:List (Str×Loc)}(h:∀(i:Nat) x c,sl[i]?≠some (x,.cell c)): cellsOf sl=[]:=by
 cases e:cellsOf sl with
 |nil=>rfl
 |cons c r=>
  obtain⟨i,x,q⟩:=lX (l:=sl) (c:=c) (e▸.head _);exact absurd q (h i x c)
theorem rU{names:List (Str×ij)}{sl:List (Str×Loc)}: cellsOf (kU names sl)=[]:=vm fun i x c e=>by
 obtain⟨k,q,-,-,h⟩:=n7 e
 nomatch h
noncomputable def freeOk(names:List (Str×ij))(sl:List (Str×Loc)): Bool:=names.all fun p=>match p.2 with
 |.free=>!(p.1 == ("__classdict__" : Str))&&(yN sl p).isSome
 |.cell=>false
 |_=>true
noncomputable def lD(scope:Scope)(N:hM)(C:Ctx)(m:Str->Option g8): Ctx:=
 {env:=compEnvC scope (ph C.env.cells scope.names []) N C.env,slots:=kU scope.names C.slots,kT:=(C.env.locals,m)::C.kT,jO:=fun Y=>none,ms:=fun Y=>none,A:=C.A}
noncomputable def Bk(b:Bool)(o:Option Slot): Slot:=match o with
 |some (.val v)=>.val v
 |some (.o7 v)=>cond b (.val v) .unset
 |_=>.unset
noncomputable def Bj(vars:List Slot): Option (Nat×Bool)->Slot
 |none=>.unset
 |some q=>Bk q.2 vars[q.1]?
noncomputable def kI(cap:List (Option (Nat×Bool)))(vars:List Slot): List Slot:=cap.map (Bj vars)
section
variable{B:Base}{C D:Ctx}{Φ jh iQ iS:Gh}{ρ ρ' iP iT jv:List hM}{σ σ' Ph:AS}{s s' s₁ Pg:g9}{d:Nat}{ψ jw:Gh}{A:ig}{scope:Scope}{m:Str->Option g8}
theorem tX{names:List (Str×ij)}{sl:List (Str×Loc)}(h:freeOk names sl=true){x:Str}(hx:(x,ij.free)∈names): (x == ("__classdict__" : Str))=false/\∃(j:Nat) (c:hM),sl[j]?=some (x,Loc.cell c)\/sl[j]?=some (x,Loc.ro c):=by
 obtain⟨h1,h2⟩:=(aW _ _).mp (bl.mp h _ hx);obtain⟨q,hq⟩:=a8.mp h2;refine⟨(bx _).mp h1,?_⟩;have hq:=ui hq;generalize q.1=l,q.2=z at hq;cases hq with
 |cell c j hj=>exact⟨j,c,.inl hj⟩
 |ro c j hj=>exact⟨j,c,.inr hj⟩
theorem Ctx.Ok.yQ(K:C.Ok d){j:Nat}{x:Str}{c:hM}(h:C.slots[j]?=some (x,.cell c)\/C.slots[j]?=some (x,.ro c)): C.env.cells.lookup x=some c:=
 h.elim (fun h=>(K.link j x _ h).2) fun h=>(K.link j x _ h).2
theorem xj(K:C.Ok d)(hf:freeOk scope.names C.slots=true): closureFor scope C.env=pure (ph C.env.cells scope.names []):=
 uU fun x hx=>by obtain⟨_,j,c,h⟩:=tX hf hx;exact R1 (K.yQ h) rfl
theorem wA{names:List (Str×ij)}(hn:(names.map (·.1)).Nodup){x:Str}{k:ij}(hm:(x,k)∈names): names.lookup x=some k:=qa hn hm
theorem rc{x:Str}{f:Str->ij->Bool}: ∀{names:List (Str×ij)},names.lookup x=some .free->(names.map fun(n,k)=>if f n k=true then(n,ij.cell) else(n,k)).lookup x=some .cell\/(names.map fun(n,k)=>if f n k=true then(n,ij.cell) else(n,k)).lookup x=some .free
 |(y,k)::r,h=>by
  refine R1 aR ?_;dsimp only;rw[bv] at h;by_cases q:(x == y)=true
  .rw[q] at h;cases h;by_cases hf:f y .free=true
   .refine R1 (if_pos hf) (R1 bv (R1 q ?_));exact .inl rfl
   .refine R1 (if_neg hf) (R1 bv (R1 q ?_));exact .inr rfl
  .rw[eq_false_of_ne_true q] at h;have ih:=rc (f:=f) h;by_cases hf:f y k=true
   .refine R1 (if_pos hf) (R1 bv (R1 (eq_false_of_ne_true q) ?_));exact ih
   .refine R1 (if_neg hf) (R1 bv (R1 (eq_false_of_ne_true q) ?_));exact ih
theorem GY(K:C.Ok d)(hf:freeOk scope.names C.slots=true)(hk:scope.kind=.function)(hn:(scope.names.map (·.1)).Nodup)(N:hM)(ψ:Gh): ((lD scope N C m).at ψ).Ok d where
 kind:=hk
 link:=fun i x l e=>by
  obtain⟨k,q,-,hm,h⟩:=n7 e
  have go:∀(c:hM) (j:Nat),k=.free->(C.slots[j]?=some (x,Loc.cell c)\/C.slots[j]?=some (x,Loc.ro c))->uy ((lD scope N C m).at ψ).env (x,.ro c):=fun c j hk hj=>by subst hk;exact⟨(rc (f:=fun n k=>k == .free&&C.env.scope.kind == .function&&C.env.kindOf n == some .cell) (qa hn hm)).imp_right fun q=>⟨q,(tX hf hm).1⟩,qr (K.yQ hj) (.inl hm)⟩
  cases h with
  |loc=>exact lookup_relabel_local (qa hn hm)
  |cell c j hj=>exact go c j rfl (.inl hj)
  |ro c j hj=>exact go c j rfl (.inr hj)
 names:=qp.nodup hn
 globals:=K.globals
 builtins:=K.builtins
 depth:=K.depth
 units:=K.units
 frames:=by obtain⟨envs,h1,h2⟩:=K.frames;refine⟨envs,h1,fun e he=>?_⟩;obtain⟨q1,L,q2,q3⟩:=h2 e he;exact⟨q1,L,q2,ad _ q3⟩
 ms:=.refl _
end
section
variable{B:Base}{C D:Ctx}{Φ jh iQ iS:Gh}{ρ ρ' iP iT jv:List hM}{σ σ' Ph:AS}{s s' s₁ Pg:g9}{d:Nat}{ψ jw:Gh}{A:ig}{scope:Scope}{m:Str->Option g8}
inductive EP(Φ:Gh)(ρ:List hM)(jw:Gh)(h:ib)(mN:Str->Option g8)(x:Str)(o:Option Slot): Loc->Prop
 |loc (hv:∀v,o=some (.val v)->∃w,mN x=some w/\jf Φ ρ v w):EP Φ ρ jw h mN x o .loc
 |ro (c:hM) (ho:(jw c).isSome\/(Φ c).isSome) (hv:∀v,o=some (.val v)->∃w,h.IsCell c (some w)/\jf Φ ρ v w):EP Φ ρ jw h mN x o (.ro c)
theorem Rel.Kw(r:Rel B C Φ ρ σ s){a:hM}(h:a∈C.own\/a∈ρ)(e:C.jO a=none): Gh.add C.jO s.heap (cellsOf C.slots) a=none:=by obtain⟨J7,Cw,Cq⟩:=r.apart;refine(Gh.kP fun hc=>?_).trans e;refine h.elim (fun h=>(av.mp h).elim (fun q=>(Cw _ hc).1 q.symm) fun h=>?_) fun h=>(Cq a h).2.2 a hc rfl;obtain⟨p,hp,e⟩:=bg.mp h;exact(Cw _ hc).2 p hp e
theorem Rel.IK(r:Rel B C Φ ρ σ s){a:hM}(h:s.heap.objs.size<=a): Gh.add C.jO s.heap (cellsOf C.slots) a=none:=by
 by_cases hb:a∈cellsOf C.slots
 .exact(Gh.mq hb).trans (ib.get?_none_of_le h)
 .exact(Gh.kP hb).trans (r.mH (ib.get?_none_of_le h))
theorem Rel.FM(r:Rel B C Φ ρ σ s){as:List hM}{b:hM}{o:Obj}(e:Gh.add C.jO s.heap as b=some o): s.heap.get? b=some o:=by
 by_cases hb:b∈as
 .exact(Gh.mq hb).symm.trans e
 .exact r.jO b o ((Gh.kP hb).symm.trans e)
theorem Rel.enterX(r:Rel B C Φ ρ σ s){env':Env}{sl:List (Str×Loc)}{A':ig}{iv:List Slot}{mN:Str->Option g8}(hL:env'.locals=s.heap.objs.size)(hm:s.heap.Ns C.env.locals m)(hkeep:∀b o,s.heap.get? b=some o->s'.heap.get? b=some o)
  (hns:s'.heap.Ns s.heap.objs.size mN) (hgens:s'.gens=s.gens) (hos:s'.os=s.os) (hlen:iv.length=sl.length)
  (hsl:∀(i:Nat) x l,sl[i]?=some (x,l)->EP Φ ρ (Gh.add C.jO s.heap (cellsOf C.slots)) s'.heap mN x iv[i]? l) :
  Rel B (C.inner env' sl (Gh.add C.jO s.heap (cellsOf C.slots)) A' m s.heap) Φ ρ ⟨σ.heap,iv⟩ s':=by
 have wE:∀a,a∈C.mine ρ->a<s.heap.objs.size:=fun a h=>(r.there h).elim fun o e=>ib.lt_size e;have IU:cellsOf sl=[]:=vm fun i x c e=>nomatch hsl i x _ e
 have own':(C.inner env' sl (Gh.add C.jO s.heap (cellsOf C.slots)) A' m s.heap).mine ρ=s.heap.objs.size::(C.own++ρ):=by show(env'.locals::C.own)++cellsOf sl++ρ=_;exact R1 IU (R1 (ba ..) (R1 hL rfl))
 have old:∀{a},a∈C.own++ρ->a∈C.mine ρ:=fun ha=>(aA.mp ha).elim (fun h=>ai _ (ai _ h)) (aj _);have Hu:∀{a mm},s.heap.Ns a mm->s'.heap.Ns a mm:=fun h=>h.keeps hkeep
 refine⟨r.base,fun b o e=>hkeep _ _ (r.keep b o e),fun b o e=>hkeep _ _ (r.FM e),⟨mN,hL▸hns,fun i y v e1 e2=>?_⟩,fun i y c e1=>(nomatch hsl i y _ e1),fun i y c v e1 e2=>?_,fun i y c e1=>?_,fun p hp=>(av.mp hp).elim (fun e=>e▸Hu hm) fun hp=>Hu (r.kT p hp),r.len,fun i o a e1 e2=>(r.objs i o a e1 e2).mono (.refl _ _) fun o e=>hkeep _ _ e,
  fun a ha=>(av.mp ha).elim (fun e=>?_) fun ha=>⟨(r.own a ha).1,r.Kw (.inl ha) (r.own a ha).2⟩,fun i a e1 e2=>⟨(r.live i a e1 e2).1,r.Kw (.inr (aP e1)) (r.live i a e1 e2).2⟩,?_,hlen,fun P hP=>?_,hgens▸r.gens,hos▸r.os,.refl _⟩
 .cases hsl i y _ e1 with | loc h=>exact h v e2
 .cases hsl i y _ e1 with | ro _ _ h=>exact h v e2
 .cases hsl i y _ e1 with | ro _ h _=>exact h
 .have h:s.heap.objs.size<=a:=aE (hL.symm.trans e.symm);exact⟨r.none_of (ib.get?_none_of_le h),r.IK h⟩
 .refine R1 own' ?_;have nd:=r.nodup;unfold Ctx.mine at nd;rw[ax] at nd;exact be.mpr ⟨fun h=>bu _ (wE _ (old h)),nd.sublist (fc.append (fc.refl _) (eG _ _))⟩
 .obtain⟨t1,t4,t5,t6⟩:=r.tabs P hP;refine⟨t1.mono (.refl _) fun o=>hkeep _ o,t4,(Gh.kP fun hc=>t6 (ai _ (aj _ hc))).trans t5,?_⟩;refine R1 own' ?_;exact fun hmn=>(av.mp hmn).elim (fun q=>t1.there.elim fun Y t=>bu _ (q▸ib.lt_size t)) fun h=>t6 (old h)
theorem Rel.Co(r:Rel B (C.at ψ) Φ ρ σ s)(hm:s.heap.Ns C.env.locals m)(hkeep:∀b o,s.heap.get? b=some o->s'.heap.get? b=some o)(hns:s'.heap.Ns s.heap.objs.size fun Y=>none)
  (hgens:s'.gens=s.gens) (hos:s'.os=s.os) :
  Rel B ((lD scope s.heap.objs.size C m).at (Gh.add ψ s.heap (cellsOf C.slots))) Φ ρ ⟨σ.heap,kI (mv scope.names C.slots) σ.vars⟩ s':=by
 refine r.enterX (env':=compEnvC scope (ph C.env.cells scope.names []) s.heap.objs.size C.env) (sl:=kU scope.names C.slots) (A':=C.A) rfl hm hkeep hns hgens hos (by unfold kI;exact R1 (ak ..) (R1 uS rfl)) ?_;intro i x l e;obtain⟨k,q,hq,-,hg⟩:=n7 e
 have hiv:(kI (mv scope.names C.slots) σ.vars)[i]?=some (Bj σ.vars q):=by unfold kI;rw[aN,hq];rfl
 have there:∀{c},c∈cellsOf C.slots->(Gh.add ψ s.heap (cellsOf C.slots) c).isSome:=fun hc=>by obtain⟨o,ho⟩:=r.there (ai _ (aj _ hc));exact R1 (Gh.mq hc) (R1 ho rfl)
 refine R1 hiv ?_;cases hg with
 |loc=>exact .loc fun v e=>nomatch e
 |cell c j hj=>
  refine .ro c (.inl (there (jE hj))) fun v e=>?_;have hc:=r.cells j x c hj;replace e:Bk true σ.vars[j]?=.val v:=aq.inj e;generalize σ.vars[j]?=sv at e hc;cases sv with
  |none=>cases e
  |some sv=>
   cases sv with
   |unset=>cases e
   |val u=>
    cases e;obtain⟨_,_,w,h1,h2⟩:=hc;exact⟨w,kO h1 fun o=>hkeep _ _,h2⟩
   |o7 u=>
    cases e;obtain⟨o,w,h1,h2,h3⟩:=hc;exact⟨w,⟨o,hkeep _ _ (r.keep _ _ h1),h2⟩,h3⟩
 |ro c j hj=>
  refine .ro c ((r.nG j x c hj).imp_left fun h=>?_) fun v e=>?_
  .by_cases hc:c∈cellsOf C.slots
   .exact there hc
   .exact(congrArg Option.isSome (Gh.kP hc)).trans h
  .replace e:Bk false σ.vars[j]?=.val v:=aq.inj e;cases hs:σ.vars[j]? with
   |none=>rw[hs] at e;cases e
   |some sv=>
    rw[hs] at e;cases sv with
    |unset=>cases e
    |o7 u=>cases e
    |val u=>
     cases e;obtain⟨w,h1,h2⟩:=r.uN j x c _ hj hs;exact⟨w,kO h1 fun o=>hkeep _ _,h2⟩
noncomputable def P.mI(cap:List (Option (Nat×Bool)))(its:P (List V))(asg:V->P Unit)(test:P Bool)(pe:List V->P (List V)): P V:=fun σ=>match its σ with
 |.ok xs Pi=>match P.lg asg test pe xs [] ⟨Pi.heap,kI cap Pi.vars⟩ with
  |.ok ys Ph=>if ys.length<=1000000 then .ok (.lst ys) ⟨Ph.heap,Pi.vars⟩ else .stuck
  |_=>.stuck
 |_=>.stuck
noncomputable abbrev P.comp(cap:List (Option (Nat×Bool)))(its:P (List V))(asg:V->P Unit)(test:P Bool)(ep:P V): P V:=P.mI cap its asg test (P.mU ep)
inductive xv(cap:List (Option (Nat×Bool)))(its:P (List V))(asg:V->P Unit)(test:P Bool)(pe:List V->P (List V))(σ:AS): Res V->Prop
 |stuck:xv cap its asg test pe σ .stuck
 |ok (xs:List V) (Pi:AS) (ys:List V) (Ph:AS) (h1:its σ=.ok xs Pi) (h2:P.lg asg test pe xs [] ⟨Pi.heap,kI cap Pi.vars⟩=.ok ys Ph) (h3:ys.length<=1000000):xv cap its asg test pe σ (.ok (.lst ys) ⟨Ph.heap,Pi.vars⟩)
theorem rV{cap:List (Option (Nat×Bool))}{its:P (List V)}{asg:V->P Unit}{test:P Bool}{pe:List V->P (List V)}{σ:AS}: xv cap its asg test pe σ (P.mI cap its asg test pe σ):=by
 unfold P.mI;cases h1:its σ with
 |ok xs Pi=>
  dsimp only;cases h2:P.lg asg test pe xs [] ⟨Pi.heap,kI cap Pi.vars⟩ with
  |ok ys Ph=>
   dsimp only;by_cases h3:ys.length<=1000000
   .refine R1 (if_pos h3) ?_;exact .ok xs Pi ys Ph h1 h2 h3
   .refine R1 (if_neg h3) ?_;exact .stuck
  |_=>exact .stuck
 |_=>exact .stuck
theorem yf{N:hM}: (lD scope N C m).mine ρ=N::(C.own++ρ):=by show(N::C.own)++cellsOf (kU scope.names C.slots)++ρ=_;exact R1 rU (R1 (ba ..) rfl)
theorem Dm{a:hM}(ha:a∈C.own++ρ): a∈C.mine ρ:=(aA.mp ha).elim (fun h=>ai _ (ai _ h)) (aj _)
theorem AQ{a:hM}(ha:a∈C.mine ρ): a∈cellsOf C.slots\/a∈C.own++ρ:=(aA.mp ha).elim (fun h=>(aA.mp h).elim (fun h=>.inr (ai _ h)) .inl) fun h=>.inr (aj _ h)
theorem Off.comp{fp:List hM}{h:ib}{N:hM}(off:Off (C.at ψ) Φ ρ fp)(ex:∀b∈fp,b≠N): Off ((lD scope N C m).at (Gh.add ψ h (cellsOf C.slots))) Φ ρ fp:=fun b hb=>by obtain⟨f1,f2,f3,f4⟩:=off b hb;refine⟨f1,(Gh.kP fun hc=>f3 (ai _ (aj _ hc))).trans f2,?_,f4⟩;refine R1 (show((lD scope N C m).at (Gh.add ψ h (cellsOf C.slots))).mine ρ=_ from yf (C:=C) (m:=m)) ?_;exact fun hm=>(av.mp hm).elim (ex b hb) fun hm=>f3 (Dm hm)
theorem rT{elt target iter:iB}{ifs:List iB}{rest:List Comprehension}{pos p':Pos}{its:P (List V)}{asg:V->P Unit}{test:P Bool}{pe:List V->P (List V)}{pn:hM->Env->Sem Unit}(Ka:∀ψ,(C.at ψ).Ok d)(hi:oN B C ψ iQ iP target (iF iter C.env) its)
  (hf:freeOk scope.names C.slots=true) (hk:scope.kind=.function) (hn:(scope.names.map (·.1)).Nodup)
  (nX:∀N m jw iS iT v w,(∀ψ,((lD scope N C m).at ψ).Ok d)->Ext iQ iP iS iT->jf iS iT v w->jm B ((lD scope N C m).at jw) iS iT TR (assign target (lD scope N C m).env w) (asg v))
  (htest:∀N m jw iS iT,(∀ψ,((lD scope N C m).at ψ).Ok d)->Ext iQ iP iS iT->jm B ((lD scope N C m).at jw) iS iT BR (lh ifs (lD scope N C m).env) test)
  (DW:∀N m a0 iS iT,(∀ψ,((lD scope N C m).at ψ).Ok d)->Ext iQ iP iS iT->xu B (lD scope N C m) iS iT a0 (pn a0 (lD scope N C m).env) pe) (hturn:∀N m it a0,pS (.ListComp elt (⟨target,iter,ifs,0⟩::rest) scope pos) 0 target iter ifs (pn a0 (lD scope N C m).env) it (.ref a0) (lD scope N C m).env) (hup:yY pe) (hs:autoParam (∀x,ip iter C.env x=pure x) PyProof.Rows.Assign_ListComp_rowsP._auto_1)
  {Φ ρ σ s} (e:Ext iQ iP Φ ρ) (r:Rel B (C.at ψ) Φ ρ σ s) {xs ys:List V} {Pi Ph:AS} (hits:its σ=.ok xs Pi) (hL:P.lg asg test pe xs [] ⟨Pi.heap,kI (mv scope.names C.slots) Pi.vars⟩=.ok ys Ph) (hlen:ys.length<=1000000) {Q:g8->g9->Prop} {E:g8->g9->Prop} {use:Option (g8->Sem Unit)}
  (hQ:∀jh ρ' s' a N mN,Step ψ s Φ ρ s' jh ρ'->Rel B (C.at ψ) jh ρ' ⟨Ph.heap,Pi.vars⟩ s'->jf jh ρ' (.lst ys) (.ref a)->s'.heap.Ns N mN->Off (C.at ψ) jh ρ' [N]->match use with
   |none=>∀h',ib.SameBut N s'.heap h'->Q (.ref a) {s' with heap:=h'}
   |some u=>hZ (M B) C.A (u (.ref a)) (fun Y s''=>∃m,s''.heap.Ns N m/\∀h',ib.SameBut N s''.heap h'->Q .none {s'' with heap:=h'}) E s') :
  hZ (M B) C.A (comprehension (.ListComp elt (⟨target,iter,ifs,0⟩::rest) scope pos) scope C.env p' (newList []) false (iF iter C.env) use) Q E s:=by
 have hi:=hi Φ ρ σ s e r;rw[hits] at hi;refine wpAny_comprehension_free rfl hs (xj (C:=C.at ψ) (Ka ψ) hf) hk (fun x hx hl=>wA hn (hl▸hx)) ?_;refine hV hi (fun x s₁ h1=>hV h1 (fun it Pg h2=>?_) fun Y Y f=>f.elim) fun Y Y f=>f.elim;obtain⟨jh,ρ',I,fp,St,rfl,st,r2,W,off,ex,hst⟩:=h2;refine wpAny_newList ?_ (by simp);have hnew:Pg.heap.get? Pg.heap.objs.size=none:=ib.get?_none_of_le (aM _);generalize MU:Pg.heap.push {cls:=.type "list",data:=.seq ([]:List g8).toArray}=H3;have L3:∀b o,Pg.heap.get? b=some o->H3.get? b=some o:=fun b o q=>MU▸ib.get?_push_of_some _ q;have hsz3:H3.objs.size=Pg.heap.objs.size+1:=MU▸ib.size_push ..;have ha0:H3.get? Pg.heap.objs.size=some {cls:=.type "list",data:=.seq ([]:List g8).toArray}:=MU▸ib.get?_push_size _ rfl;have r3:Rel B (C.at ψ) jh ρ' Pi {Pg with heap:=H3}:=r2.grow L3 r2.gens rfl;have wn:Off (C.at ψ) jh ρ' [Pg.heap.objs.size]:=AL r2 hnew;obtain⟨m,hm,OC⟩:=r3.ns;refine wpAny_newFunctionEnv (fun x hx hc=>?_) (fun y hy=>nomatch hy) (fun Po PF PE=>?_) hk
 .have:=bl.mp hf x hx;rw[hc] at this;cases this
 dsimp only at PF PE ⊢;generalize hN:H3.objs.size=N at PF PE ⊢;have ltN:∀{b o},H3.get? b=some o->b≠N:=fun q=>hN▸aK (ib.lt_size q);have L2:∀b o,H3.get? b=some o->Po.get? b=some o:=fun b o q=>PE.extBut b o (ltN q) (ib.get?_push_of_some _ q);generalize OA:({Pg with heap:=Po,toks:=Pg.toks+([]:List (Str×g8)).length}:g9)=Pu;have e4:Pu.heap=Po/\Pu.gens=Pg.gens/\Pu.os=Pg.os:=by refine R2 OA ?_;exact⟨rfl,rfl,rfl⟩
 obtain⟨rfl,g4,o4⟩:=e4
 have r4:Rel B ((lD scope N C m).at (Gh.add ψ H3 (cellsOf C.slots))) jh ρ' ⟨Pi.heap,kI (mv scope.names C.slots) Pi.vars⟩ Pu:=by subst hN;exact r3.Co (scope:=scope) hm L2 PF g4 o4
 have Kd:∀ψ,((lD scope N C m).at ψ).Ok d:=fun jw=>GY (C:=C.at ψ) (Ka ψ) hf hk hn N jw
 have Mo:Off ((lD scope N C m).at (Gh.add ψ H3 (cellsOf C.slots))) jh ρ' (Pg.heap.objs.size::fp):=
  Off.comp (an.mpr ⟨wn _ (.head _),off⟩) (an.mpr ⟨ltN ha0,fun b hb=>(ex b hb).elim fun o ho=>ltN (L3 _ _ ho)⟩)
 have KQ:St jh ρ' xs Pu.heap:=W.frame _ _ _ _ _ _ _ hst (.refl _ _) r4.keep fun b hb o ho=>L2 _ _ (L3 _ _ ho);have M7:Pg.heap.objs.size∉fp:=fun hm=>(ex _ hm).elim fun o ho=>no (hnew.symm.trans ho)
 have loop:iy (M B) C.A (.compLoop (.ListComp elt (⟨target,iter,ifs,0⟩::rest) scope pos) 0 (.ref I) (.ref Pg.heap.objs.size) (lD scope N C m).env) (compPost (M B) C.A E use Q (.ref Pg.heap.objs.size) N) Pu:=by
  refine vJ (D:=lD scope N C m) W M7 (hturn N m _ _) hup AU (fun jw iS iT v w ex' hv=>nX N m jw iS iT v w Kd ((e.trans st.ext).trans ex') hv) (fun jw=>htest N m jw _ _ Kd (e.trans st.ext)) (DW N m _ _ _ Kd (e.trans st.ext)) xs jh ρ' _ _ [] #[] (.refl _ _) r4 Mo
   (fun b hb=>(ex b hb).imp fun o ho=>L2 _ _ (L3 _ _ ho)) KQ ⟨_,L2 _ _ ha0⟩ .nil ys Ph hL hlen fun kF jv PH ws' Mh r5 off5 Mk hys=>?_
  obtain⟨q1,q2⟩:=Rel.leave (C:=C.at ψ) (env':=(lD scope N C m).env) (li:=kU scope.names C.slots) (qv:=Gh.add ψ H3 (cellsOf C.slots)) (A':=C.A) (H:=Ph.heap) (jv:=jv) r3 OC r5 ((Step.same (s:={Pg with heap:=H3}) g4).trans Mh) (.inl ⟨rfl,rfl⟩);obtain⟨g1,g2,g3,g4⟩:=off5 _ (.head _);have EE:∀c∈cellsOf C.slots,c<Pg.heap.objs.size:=fun c hc=>(r2.there (ai _ (aj _ hc))).elim fun o ho=>ib.lt_size ho;have Hv:((lD scope N C m).at (Gh.add ψ H3 (cellsOf C.slots))).mine jv=N::(C.own++jv):=yf (C:=C) (m:=m)
  have FV:Off (C.at ψ) kF jv [Pg.heap.objs.size]:=fun b hb=>af.mp hb▸
   ⟨g1,(wn _ (.head _)).2.1,fun hmm=>(AQ (C:=C) hmm).elim (fun hc=>bu _ (EE _ hc)) fun h=>g3 (Hv▸.tail _ h),g4⟩
  obtain⟨n5,MJ⟩:=Mk;obtain⟨p1,p2⟩:=q1.w7 FV MJ;have HJ:=r5.own N (.head _);have K7:Pg.heap.objs.size<N:=hN▸hsz3▸bB _;have NH:N∉cellsOf C.slots:=fun hc=>Nat.lt_asymm K7 (EE _ hc);have Oa:ψ N=none:=(Gh.kP NH).symm.trans HJ.2
  have Ml:Off (C.at ψ) (Gh.set kF Pg.heap.objs.size {cls:=.type "list",data:=.seq ws' n5}) jv [N]:=fun b hb=>af.mp hb▸
   ⟨(if_neg (aZ K7)).trans HJ.1,Oa,fun hmm=>(AQ (C:=C) hmm).elim NH fun h=>(be.mp (Hv▸r5.nodup)).1 h,fun ht=>(r5.tabs N ht).2.2.2 (ai _ (ai _ (.head _)))⟩
  obtain⟨mN,hmN,_⟩:=r5.ns
  have step:Step ψ s Φ ρ PH (Gh.set kF Pg.heap.objs.size {cls:=.type "list",data:=.seq ws' n5}) jv:=
   (st.trans ((Step.same (s:=Pg) (s':={Pg with heap:=H3}) rfl).trans q2)).trans (p2 ψ (wn _ (.head _)).2.1)
  have fin:=hQ _ jv PH Pg.heap.objs.size N mN step p1 (.lst (Gh.jQ _ _ _) (by refine R1 hys.size (R1 im ?_);exact ab hlen (by decide)) (hys.mono ⟨Gh.mj g1,aY _⟩)) hmN Ml;unfold compPost;cases use with
  |none=>exact⟨mN,hmN,fin⟩
  |some u=>exact fin
 exact codeAny_compStart_list loop (W.self _ _ _ _ _ _ KQ loop)
theorem xK{elt target iter:iB}{ifs:List iB}{pos:Pos}{it:g8}{a0:hM}{env:Env}: pS (.ListComp elt [⟨target,iter,ifs,0⟩] scope pos) 0 target iter ifs (do let _ ←call (.builtin "list.append") [.ref a0,←iF elt env]) it (.ref a0) env:=by unfold pS;refine R1 (compTurn_list ..) ?_;rfl
theorem jJ{elt target iter:iB}{ifs:List iB}{pos:Pos}{its:P (List V)}{asg:V->P Unit}{test:P Bool}{ep:P V}{cap:List (Option (Nat×Bool))}(Ka:∀ψ,(C.at ψ).Ok d)(hi:oN B C ψ iQ iP target (iF iter C.env) its)
  (hf:freeOk scope.names C.slots=true) (hk:scope.kind=.function) (hn:qI (scope.names.map (·.1))=true) (hcap:mv scope.names C.slots=cap)
  (nX:∀N m jw iS iT v w,(∀ψ,((lD scope N C m).at ψ).Ok d)->Ext iQ iP iS iT->jf iS iT v w->jm B ((lD scope N C m).at jw) iS iT TR (assign target (lD scope N C m).env w) (asg v))
  (htest:∀N m jw iS iT,(∀ψ,((lD scope N C m).at ψ).Ok d)->Ext iQ iP iS iT->jm B ((lD scope N C m).at jw) iS iT BR (lh ifs (lD scope N C m).env) test)
  (helt:∀N m jw iS iT,(∀ψ,((lD scope N C m).at ψ).Ok d)->Ext iQ iP iS iT->jm B ((lD scope N C m).at jw) iS iT VR (iF elt (lD scope N C m).env) ep) (hs:autoParam (∀x,ip iter C.env x=pure x) PyProof.Rows.Assign_ListComp_rowsP._auto_1) :
  jm B (C.at ψ) iQ iP VR (iF (.ListComp elt [⟨target,iter,ifs,0⟩] scope pos) C.env) (P.comp cap its asg test ep):=by
 subst hcap;intro Φ ρ σ s e r;have run:=rV (cap:=mv scope.names C.slots) (its:=its) (asg:=asg) (test:=test) (pe:=P.mU ep) (σ:=σ);show kZ _ _ _ _ _ _ _ _ (P.mI (mv scope.names C.slots) its asg test (P.mU ep) σ);generalize P.mI (mv scope.names C.slots) its asg test (P.mU ep) σ=res at run ⊢;cases run with
 |stuck=>trivial
 |ok xs Pi ys Ph h1 h2 h3=>
  exact rT (pn:=fun a0 env=>do let _ ←call (.builtin "list.append") [.ref a0,←iF elt env]) Ka hi hf hk (j7 hn) nX htest (fun N m a0 iS iT Kd ex=>ua (fun jw=>helt N m jw iS iT Kd ex)) (fun N m it a0=>xK) rz hs e r h1 h2 h3 (use:=none)
   fun jh ρ' s' a N mN st r' hv hN off h' hsb=>⟨jh,ρ',st.trans (Step.same (s:=s') (s':={s' with heap:=h'}) rfl),r'.wipe off hsb.2,hv⟩
theorem mf{elt target iter:iB}{ifs:List iB}{pos spos py:Pos}{y:Str}{its:P (List V)}{asg:V->P Unit}{test:P Bool}{ep:P V}{f:V->P Unit}{cap:List (Option (Nat×Bool))}(Ka:∀ψ,(C.at ψ).Ok d)(hi:oN B C ψ iQ iP target (iF iter C.env) its)
  (hf:freeOk scope.names C.slots=true) (hk:scope.kind=.function) (hn:qI (scope.names.map (·.1))=true) (hcap:mv scope.names C.slots=cap)
  (nX:∀N m jw iS iT v w,(∀ψ,((lD scope N C m).at ψ).Ok d)->Ext iQ iP iS iT->jf iS iT v w->jm B ((lD scope N C m).at jw) iS iT TR (assign target (lD scope N C m).env w) (asg v))
  (htest:∀N m jw iS iT,(∀ψ,((lD scope N C m).at ψ).Ok d)->Ext iQ iP iS iT->jm B ((lD scope N C m).at jw) iS iT BR (lh ifs (lD scope N C m).env) test)
  (helt:∀N m jw iS iT,(∀ψ,((lD scope N C m).at ψ).Ok d)->Ext iQ iP iS iT->jm B ((lD scope N C m).at jw) iS iT VR (iF elt (lD scope N C m).env) ep)
  (hst:∀jw iS iT v w,Ext iQ iP iS iT->jf iS iT v w->jm B (C.at jw) iS iT TR (storeName C.env y w) (f v)) (hs:autoParam (∀x,ip iter C.env x=pure x) PyProof.Rows.Assign_ListComp_rowsP._auto_1)
  (hsw:autoParam (swapsWith (.ListComp elt [⟨target,iter,ifs,0⟩] scope pos) (some (.Name y py)) spos.line C.env=pure true) PySem.W.call_K._auto_4) :
  jm B (C.at ψ) iQ iP FR (exec (.Assign [.Name y py] (.ListComp elt [⟨target,iter,ifs,0⟩] scope pos) spos) C.env) (P.bind (P.comp cap its asg test ep) fun v=>P.next (P.nP (f v))):=by
 subst hcap;intro Φ ρ σ s e r;have run:=rV (cap:=mv scope.names C.slots) (its:=its) (asg:=asg) (test:=test) (pe:=P.mU ep) (σ:=σ);unfold P.bind P.next P.nP P.bind P.pure P.comp
 generalize P.mI (mv scope.names C.slots) its asg test (P.mU ep) σ=res at run ⊢;cases run with
 |stuck=>trivial
 |ok xs Pi ys Ph q1 q2 q3=>
  dsimp only;cases OE:f (.lst ys) ⟨Ph.heap,Pi.vars⟩ with
  |stuck=>trivial
  |exc oj=>trivial
  |ok u oj=>
   show hZ (M B) C.A _ (Post B (C.at ψ) Φ ρ s FR oj .next) (fun Y Y=>False) s;refine R1 (exec_Assign_Name_used _ _ _ _ hsw) ?_;refine g7 (ic (g7 ?_));show hZ _ _ (do let _ ←comprehension (.ListComp elt [⟨target,iter,ifs,0⟩] scope pos) scope C.env _ (newList []) false (iF iter C.env) (some (assign (.Name y py) C.env))) _ _ s;refine g7 (hV (rT (pn:=fun a0 env=>do let _ ←call (.builtin "list.append") [.ref a0,←iF elt env]) Ka hi hf hk (j7 hn) nX htest (fun N m a0 iS iT Kd ex=>ua (fun jw=>helt N m jw iS iT Kd ex)) (fun N m it a0=>xK) rz hs e r q1 q2 q3 (use:=some (assign (.Name y py) C.env)) (Q:=fun Y s'=>Post B (C.at ψ) Φ ρ s FR oj .next .next s') (E:=fun Y Y=>False) ?_) (fun Y s' hq=>hO (hO hq)) fun Y Y e=>e);intro jh ρ' s' a N mN st r' hv hN off;obtain⟨kE,am,rN⟩:=r'.arm off fun b hb=>af.mp hb▸hN.elim fun o h=>⟨o,h.elim fun Y h=>h.elim fun Y h=>h.1⟩;have h1:=kK (pos:=py) (hst kE jh ρ' _ (.ref a) (e.trans st.ext) hv) jh ρ' _ s' (.refl _ _) rN;rw[OE] at h1;refine hV h1 (fun Y s'' q=>?_) fun Y Y q=>q;obtain⟨iS,iT,q1,q2,_⟩:=q;exact⟨mN,hN.at' (q2.vO am N (.head _)),fun h' hsb=>⟨iS,iT,(st.trans (q1.jO am.le)).trans (Step.same (s:=s'') (s':={s'' with heap:=h'}) rfl),(r'.qO am.le q1.ext.1 q2).wipe (off.step am.ex q1) hsb.2,.next⟩⟩
theorem jI{iter target:iB}{p:P V}(hh:C.A.handled=none)(h:jm B (C.at ψ) iQ iP VR (iF iter C.env) p): oN B C ψ iQ iP target (iF iter C.env) (P.bind p P.items):=by
 intro Φ ρ σ s e r;have h1:=h Φ ρ σ s e r;unfold P.bind;cases hp:p σ with
 |stuck=>trivial
 |exc σ'=>trivial
 |ok v σ'=>
  rw[hp] at h1;dsimp only
  have key:∀w s₁,Post B (C.at ψ) Φ ρ s VR σ' v w s₁->∀xs Ph,P.items v σ'=.ok xs Ph->hZ (M B) C.A (pyIter w) (uB B C ψ target Φ ρ s xs Ph) (fun Y Y=>False) s₁:=by rintro w s₁ ⟨jh,ρ',q1,q2,q3⟩ xs Ph hx;have h2:=vr (target:=target) hh q3 jh ρ' σ' s₁ (.refl _ _) q2;rw[hx] at h2;exact hV h2 (fun it Pg q=>q.step q1) fun Y Y f=>f
  cases hx:P.items v σ' with
  |stuck=>trivial
  |exc σ'=>trivial
  |ok xs Ph=>exact hV h1 (fun w s₁ q=>key w s₁ q xs Ph hx) fun Y Y f=>f
end
section
variable{B:Base}{C D:Ctx}{Φ jh iQ iS:Gh}{ρ ρ' iP iT jv:List hM}{σ σ' Ph:AS}{s s' s₁ Pg:g9}{d:Nat}{ψ jw:Gh}{A:ig}
theorem Rel.AD(r:Rel B C Φ ρ σ s){n:Nat}{a:hM}{old new:AO}(hn:ρ[n]?=some a)(ho:σ.heap[n]?=some old)(hd:old≠.dead)(hs:∀b o,b≠a->s.heap.get? b=some o->s'.heap.get? b=some o)(hr:uX B Φ ρ s'.heap new a)
  (hg:s'.gens=s.gens) (hos:s'.os=s.os):Rel B C Φ ρ {σ with heap:=σ.heap.set n new} s':=by
 have ham:a∈ρ:=aP hn;have hlt:n<σ.heap.length:=(au.mp ho).1;obtain⟨J7,Cw,Cq⟩:=r.apart;have hap:=Cq a ham;have hlive:=r.live n a hn fun q=>hd (aq.inj (ho.symm.trans q));have only:∀{i},ρ[i]?=some a->i=n:=fun q=>(cK (au.mp q).1 r.p0).mp (q.trans hn.symm)
 refine⟨r.base,fun b o q=>hs b o (fun e=>no (hlive.1.symm.trans (e▸q))) (r.keep b o q),fun b o q=>hs b o (fun e=>no (hlive.2.symm.trans (e▸q))) (r.jO b o q),r.ns.imp fun m h=>⟨h.1.at' fun o e=>hs _ o hap.1 e,h.2⟩,fun i x c q=>(r.cells i x c q).mono (.refl _ _) fun e1 e2 Y=>⟨e1,e2,fun o e=>hs c o (hap.2.2 c (jE q)) e⟩,
  fun i x c v q1 q2=>(r.uN i x c v q1 q2).imp fun w e=>⟨kO e.1 fun o e=>hs c o ?_ e,e.2⟩,r.nG,fun p hp=>(r.kT p hp).at' fun o e=>hs _ o (hap.2.1 p hp) e,r.len.trans (cI ..).symm,
  fun i o b q1 q2=>?_,r.own,fun i b q1 q2=>?_,r.nodup,r.vars,fun P hP=>?_,hg▸r.gens,hos.trans r.os,r.le⟩
 .rintro rfl;exact(r.x6 q1).elim (lG hlive.2) (lG hlive.1)
 .by_cases hi:i=n
  .subst hi;have e:b=a:=aq.inj (q2.symm.trans hn);have e1:=aq.inj (q1.symm.trans (bk hlt));refine R1 e (R1 e1 ?_);exact hr
  .exact(r.objs i o b ((aJ (Ne.symm hi)).symm.trans q1) q2).mono (.refl _ _) fun o e=>hs b o (fun q=>hi (only (q▸q2))) e
 .by_cases hi:i=n
  .subst hi;refine R1 (aq.inj (q1.symm.trans hn)) ?_;exact hlive
  .exact r.live i b q1 fun q=>q2 ((aJ (Ne.symm hi)).trans q)
 .obtain⟨t1,t4,t5,t6⟩:=r.tabs P hP;exact⟨t1.mono (.refl _) fun o=>hs P o fun q=>t6 (q▸aj _ ham),t4,t5,t6⟩
theorem Rel.v9(r:Rel B C Φ ρ σ s){n:Nat}{a:hM}{old new:AO}(hn:ρ[n]?=some a)(ho:σ.heap[n]?=some old)(hd:old≠.dead)(hs:ib.SameBut a s.heap s'.heap)(hr:uX B Φ ρ s'.heap new a)
  (hg:s'.gens=s.gens) (hos:s'.os=s.os):Rel B C Φ ρ {σ with heap:=σ.heap.set n new} s':=r.AD hn ho hd (fun b o h q=>(hs.2 b h).trans q) hr hg hos
noncomputable def lf(kvs:List (List UInt8×V))(k:List UInt8)(v:V): List (List UInt8×V):=
 if kvs.any (fun p=>p.1 == k) then kvs.map fun p=>if p.1 == k then(p.1,v) else p else kvs++[(k,v)]
theorem zi{kvs:List (List UInt8×V)}{kws:List (List UInt8×g8)}(h3:kws.map (·.1)=kvs.map (·.1))(h4:ja Φ ρ (kvs.map (·.2)) (kws.map (·.2)))(k:List UInt8){v:V}{w:g8}(hv:jf Φ ρ v w):
  (stored kws k w).map (·.1)=(lf kvs k v).map (·.1)/\ja Φ ρ ((lf kvs k v).map (·.2)) ((stored kws k w).map (·.2)):=by
 have hany:(kws.any fun p=>decide (p.1=k))=kvs.any fun p=>p.1 == k:=by
  have e:=congrArg (fun l=>l.any fun x=>decide (x=k)) h3;rw[gZ,gZ] at e
  exact e.trans (congrArg (kvs.any ·) (funext fun p=>show decide (p.1=k)=(p.1 == k) by
   by_cases h:p.1=k
   .exact R1 (decide_eq_true h) (R1 (beq_iff_eq.mpr h) rfl)
   .exact R1 (decide_eq_false h) (R1 (beq_eq_false_iff_ne.mpr h) rfl)))
 have f1:∀l:List (List UInt8×V),(l.map fun p=>if p.1 == k then(p.1,v) else p).map (·.1)=l.map (·.1):=fun l=>by refine R1 bA ?_;exact bS fun p Y=>by show(ite _ _ _:_×_).1=_;split<;>rfl
 have f2:∀l:List (List UInt8×g8),(l.map fun p=>if p.1=k then(p.1,w) else p).map (·.1)=l.map (·.1):=fun l=>by refine R1 bA ?_;exact bS fun p Y=>by show(ite _ _ _:_×_).1=_;split<;>rfl
 unfold stored lf;refine R1 hany ?_;cases kvs.any fun p=>p.1 == k with
 |true=>
  refine R1 (if_pos rfl) (R1 (if_pos rfl) ?_);refine⟨(f2 _).trans (h3.trans (f1 _).symm),?_⟩;clear hany f1 f2
  induction kvs generalizing kws with
  |nil=>refine R1 (List.map_eq_nil_iff.mp h3) ?_;exact .nil
  |cons p r ih=>
   obtain⟨q,t,rfl,e1,e2⟩:=List.map_eq_cons_iff.mp h3;obtain⟨_,_,e,a,b⟩:=h4.kG;cases e;have e1:q.1=p.1:=e1;refine .cons ?_ (ih e2 b);show jf Φ ρ (ite _ _ _:_×_).2 (ite _ _ _:_×_).2;by_cases hk:p.1=k
   .refine R1 (if_pos (e1.trans hk)) (R1 (if_pos (beq_iff_eq.mpr hk)) ?_);exact hv
   .refine R1 (if_neg (fun h=>hk (e1.symm.trans h))) (R1 (if_neg fun h=>hk (eq_of_beq h)) ?_);exact a
 |false=>
  refine⟨?_,?_⟩
  .show(kws++[(k,w)]).map _=(kvs++[(k,v)]).map _;exact R1 aS (R1 aS (R1 h3 rfl))
  .show ja Φ ρ ((kvs++[(k,v)]).map _) ((kws++[(k,w)]).map _);refine R1 aS (R1 aS ?_);exact h4.append (.cons hv .nil)
noncomputable def P.setItem(o i v:V): P Unit:=fun σ=>match o with
 |.ref n=>match i with
  |.bytes k=>match (σ.heap[n]?).bind uw with
   |some kvs=>if kvs.length<100000 then .ok () {σ with heap:=σ.heap.set n (.dict (lf kvs k v))} else .stuck
   |none=>.stuck
  |_=>.stuck
 |_=>.stuck
theorem xV{o i v:V}{wo wi wv:g8}(ho:jf iQ iP o wo)(hi:jf iQ iP i wi)(hv:jf iQ iP v wv): jm B C iQ iP TR (setItem wo wi wv) (P.setItem o i v):=by
 cases o with
 |ref n=>cases i with
  |bytes k=>
   intro Φ ρ σ s x r;obtain⟨t,rfl⟩:=hi.kG;obtain⟨a,rfl,hn⟩:=(ho.mono x).kG;unfold P.setItem;dsimp only;cases hq:(σ.heap[n]?).bind uw with
   |none=>trivial
   |some kvs=>
    dsimp only;by_cases hlen:kvs.length<100000
    .refine R1 (if_pos hlen) ?_;have hq:=vz hq;obtain⟨h0,kws,h1,h2,h3,h4⟩:=r.objs _ _ _ hq hn;have hl:kws.length<100000:=by refine R2 (ak (f:=(·.1))) (R1 h3 (R1 (ak ..) ?_));exact hlen
     refine wpAny_setItem_pairs (isKey k _) h1 (fun h' hd hs=>?_) h2;obtain⟨e1,e2⟩:=zi h3 h4 k (hv.mono x);exact⟨Φ,ρ,.same rfl,r.v9 (s':={s with heap:=h',toks:=s.toks+1}) (new:=.dict (lf kvs k v)) hn hq (fun q=>nomatch q) hs ⟨h0,_,hd,ab (stored_length_le kws k wv) (ab hl (by refine R1 im ?_;decide)),e1,e2⟩ rfl rfl,trivial⟩
    .refine R1 (if_neg hlen) ?_;trivial
  |_=>exact jr
 |_=>exact jr
theorem pY{α β γ δ:Type}{RR:Gh->List hM->δ->γ->Prop}{t:Sem α}{f:α->Sem β}{g:β->Sem γ}{p:P δ}(h:jm B C iQ iP RR (t >>= fun a=>f a >>= g) p): jm B C iQ iP RR ((t >>= f) >>= g) p:=
 nV h fun Q E s h Γ pp hΓ=>by have:=h Γ pp hΓ;simp only[Sem.wp_bind'] at this ⊢;exact this
theorem lA{eo ei e:iB}{pos' pos:Pos}{p q t:P V}(he:jm B C iQ iP VR (iF e C.env) p)(ho:jm B C iQ iP VR (iF eo C.env) q)(hi:jm B C iQ iP VR (iF ei C.env) t)
  (hs:autoParam (swapsWith e (some (.Subscript eo ei pos')) pos.line C.env=pure false) PySem.W.call_K._auto_4) :
  jm B C iQ iP FR (exec (.Assign [.Subscript eo ei pos'] e pos) C.env) (P.bind p fun v=>P.bind q fun o=>P.bind t fun i=>P.next (P.setItem o i v)):=by
 refine R1 (exec_Assign_Subscript _ _ _ _ _ hs) ?_
 exact kJ (jn he fun iS iT v wv e1 hv=>pY (jn (jB (ho.weaken e1)) fun Y Y o wo e2 ho=>pY (jn (jB ((hi.weaken e1).weaken e2)) fun Y Y i wi e3 hi=>
  pY (kJ (pY (jn (jB (xV (ho.mono e3) hi ((hv.mono e2).mono e3))) fun Y Y Y Y e4 Y=>nV (t:=pure Flow.next) (jK fun Y Y Y=>.next) fun Q E s h=>g7 (wpAny_release h)))))))
end
section
variable{B:Base}{C D:Ctx}{Φ jh iQ iS:Gh}{ρ ρ' iP iT jv:List hM}{σ σ' Ph:AS}{s s' s₁ Pg:g9}{d:Nat}{ψ jw:Gh}{A:ig}{e o:iB}{pos:Pos}
noncomputable abbrev SR:Gh->List hM->V×V->g8->Prop:=fun Φ ρ b w=>∃a wl wu,w=.ref a/\Φ a=some {cls:=.type "slice",data:=.fields #[wl,wu,.none]}/\jf Φ ρ b.1 wl/\jf Φ ρ b.2 wu
theorem kR:jm B C iQ iP VR (valueOrNone (evalOpt none C.env)) (P.pure .none):=jK fun Y Y Y=>.none
theorem lm{p:P V}(h:jm B C iQ iP VR (iF e C.env) p): jm B C iQ iP VR (valueOrNone (evalOpt (some e) C.env)) p:=h
theorem v0{lower upper:Option iB}{p:Pos}{pl pu:P V}(hl:jm B C iQ iP VR (valueOrNone (evalOpt lower C.env)) pl)(hu:jm B C iQ iP VR (valueOrNone (evalOpt upper C.env)) pu):
  jm B C iQ iP SR (iF (.Slice lower upper none p) C.env) (P.bind pl fun l=>P.bind pu fun u=>P.pure (l,u)):=by
 refine R1 (arm_eval_Slice ..) ?_;refine jn hl fun iS iT l wl e1 h1=>jn (jB (hu.weaken e1)) fun kF jv u wu e2 h2=>?_;intro Φ ρ σ s x r;refine g7 (ik (hO ?_));obtain⟨q1,q2⟩:=r.push (o:={cls:=.type "slice",data:=.fields #[wl,wu,.none]}) rfl s.toks;exact wpAny_newObj_type ⟨_,_,q2,q1,_,wl,wu,rfl,Gh.jQ _ _ _,((h1.mono e2).mono x).mono q2.ext,(h2.mono x).mono q2.ext⟩
noncomputable def tB:V->Option (Option Int)
 |.none=>some none
 |.int i=>some (some i)
 |_=>none
noncomputable def oQ(vs:List V)(lo hi:Option Int): List V:=(vs.drop (lo.elim 0 (clipAt vs.length))).take (hi.elim vs.length (clipAt vs.length) - lo.elim 0 (clipAt vs.length))
noncomputable def P.slice(o:V)(b:V×V): P V:=fun σ=>match jz σ o,tB b.1,tB b.2 with
 |some vs,some lo,some hi=>.ok (.lst (oQ vs lo hi)) σ
 |_,_,_=>.stuck
theorem ja.HZ:∀{vs:List V} {ws:List g8},ja Φ ρ vs ws->∀n,ja Φ ρ (vs.drop n) (ws.drop n)
 |_,_,h,0=>h
 |[],ws,h,n+1=>by refine R1 (show ws=[] from h.kG) ?_;exact .nil
 |v::vs,ws,h,n+1=>by
  obtain⟨w,us,rfl,a,b⟩:=h.kG;exact ja.HZ b n
theorem ja.take:∀{vs:List V} {ws:List g8},ja Φ ρ vs ws->∀n,ja Φ ρ (vs.take n) (ws.take n)
 |_,_,h,0=>.nil
 |[],ws,h,n+1=>by refine R1 (show ws=[] from h.kG) ?_;exact .nil
 |v::vs,ws,h,n+1=>by
  obtain⟨w,us,rfl,a,b⟩:=h.kG;exact .cons a (ja.take b n)
theorem vl{v:V}{w:g8}{k:Option Int}(h:jf Φ ρ v w)(e:tB v=some k): IsPart w k:=by
 have h:=h.kG;cases v with
 |none=>refine R1 (show w=_ from h) (R2 (aq.inj e) ?_);exact .none
 |int i=>obtain⟨t,rfl⟩:=h;refine R2 (aq.inj e) ?_;exact .int _ _
 |_=>exact no e
theorem th{ws:Array g8}{lo hi:Option Int}: (slicePick ws lo hi none).toList=(ws.toList.drop (lo.elim 0 (clipAt ws.size))).take (hi.elim ws.size (clipAt ws.size) - lo.elim 0 (clipAt ws.size)):=by exact R1 (slicePick_plain ..) rfl
theorem uL{value slice:iB}{o:V}{wo w:g8}{b:V×V}(ho:jf iQ iP o wo)(hb:SR iQ iP b w)(hs:autoParam (∀o i,subscripted slice false o i=operate [i,o] (getItem o i)) PySem.Subscript_Name._auto_1):
  jm B C iQ iP VR (subscriptTail value slice wo w) (P.slice o b):=by
 intro Φ ρ σ s x r;obtain⟨a,wl,wu,rfl,h1,h2,h3⟩:=hb;have h1:=r.keep _ _ (x.1 _ _ h1);unfold P.slice;cases e1:jz σ o with
 |none=>trivial
 |some vs=>cases e2:tB b.1 with
  |none=>trivial
  |some lo=>cases e3:tB b.2 with
   |none=>trivial
   |some hi=>
    obtain⟨l,ws,n,rfl,k1,k2,k3⟩:=r.list (ho.mono x) e1;refine tail_any (T:= "list") (js k1).typeIs slot_list_getitem.lookup ?_ (hs _ _);refine wpAny_getItem_list_slice (js k1) ⟨_,h1,rfl,rfl⟩ (vl h2 e2) (vl h3 e3) .none (by simp) ?_ k2;obtain⟨q1,q2⟩:=r.push (o:={cls:=.type "list",data:=.seq (slicePick ws lo hi none)}) rfl s.toks;refine⟨_,_,q2,q1,.lst (Gh.jQ _ _ _) (ab (slicePick_size_le ..) k2) ?_⟩;refine R1 th ?_;unfold oQ;refine R2 k3.size ?_;exact((k3.mono q2.ext).HZ _).take _
theorem k8{value:iB}{lower upper:Option iB}{p:Pos}{pv pl pu:P V}(hv:jm B C iQ iP VR (iF value C.env) pv)(hl:jm B C iQ iP VR (valueOrNone (evalOpt lower C.env)) pl)(hu:jm B C iQ iP VR (valueOrNone (evalOpt upper C.env)) pu)
  (hs:autoParam (∀o i,subscripted (.Slice lower upper none p) false o i=operate [i,o] (getItem o i)) PySem.Subscript_Name._auto_1) :
  jm B C iQ iP VR (iF (.Subscript value (.Slice lower upper none p) pos) C.env) (P.bind pv fun o=>P.bind (P.bind pl fun l=>P.bind pu fun u=>P.pure (l,u)) fun b=>P.slice o b):=by
 refine R1 (eval_Subscript ..) ?_;exact jn hv fun iS iT o wo e1 ho=>jn (jB (v0 (hl.weaken e1) (hu.weaken e1))) fun Y Y b w e2 hb=>kJ (uL (ho.mono e2) hb hs)
theorem oS{name:Str}{T id:String}{apos:Pos}{args:List iB}{po:P V}{ps:P (List V)}{F:V->List V->P V}{G:AS->V->Bool}(ho:jm B C iQ iP VR (iF o C.env) po)
  (hargs:jm B C iQ iP uW (ix (il pos (ie args C.env))) ps) (pa:PlainAttrs T) (slot:PySem.Slot T name id) (hty:typeOf (.builtin id)=pure (.type "method_descriptor"))
  (hT:∀Φ ρ σ s v w,Rel B C Φ ρ σ s->jf Φ ρ v w->G σ v=true->s.TypeIs w T/\∀a,w=.ref a->∃ob,s.heap.get? a=some ob/\ob.dict=none)
  (hcall:∀iS iT v w vs ws,Ext iQ iP iS iT->jf iS iT v w->ja iS iT vs ws->jm B C iS iT VR (call (.builtin id) (w::ws) []) (F v vs))
  (hbase:autoParam (attributeBase o name C.env (iF o C.env)=iF o C.env) PySem.W.call_K._auto_4)
  (hfew:autoParam (((il pos (ie args C.env)).all (fun x=>!x.1)&&(backToKw pos (iq [] C.env)).all (fun x=>x.1.isSome)
&&decide (args.length+([]:List Keyword).length+(if([]:List Keyword).isEmpty then 0 else 1)<30))=true) PySem.W.call_K._auto_4)
  (hline:autoParam ((apos.endLine == pos.line)=true) PySem.W.call_K._auto_4) (ht:autoParam ((il pos (ie args C.env)).any (·.1)=false) PySem.W.call_K._auto_4) :
  jm B C iQ iP VR (iF (.Call (.Attribute o name apos) args [] pos) C.env) (P.bind po fun v σ=>if G σ v then P.bind ps (F v) σ else .stuck):=by
 intro Φ ρ σ s x r;have h1:=ho Φ ρ σ s x r;unfold P.bind;generalize po σ=R at h1 ⊢;cases R with
 |stuck=>trivial
 |exc Pi=>
  exact wpAny_Call_method_late hbase hfew hline rfl (hV h1 (fun Y Y q=>q.elim) fun Y Y q=>q)
 |ok v Pi=>
  dsimp only;cases hG:G Pi v with
  |false=>trivial
  |true=>
   simp only[if_true]
   have key:∀w s₁,Post B C Φ ρ s VR Pi v w s₁->(s₁.TypeIs w T/\∀a,w=.ref a->∃ob,s₁.heap.get? a=some ob/\ob.dict=none)/\kZ B C Φ ρ s VR (callWith pos (.builtin id) [w] (il pos (ie args C.env)) []) s₁ (P.bind ps (F v) Pi):=by
    rintro w s₁ ⟨jh,ρ',q1,q2,q3⟩;refine⟨hT _ _ _ _ _ _ q2 q3 hG,kZ.trans q1 (q1.jO q2.le) ?_⟩
    have:jm B C jh ρ' VR (callWith pos (.builtin id) [w] (il pos (ie args C.env)) []) (P.bind ps (F v)):=by refine mG (f:=fun ws=>call (.builtin id) (w::ws) []) (hargs.weaken (x.trans q1.ext)) (fun Φ ρ σ s Y r Q E h=>ku (B:=B) id _ _ _ [w] _ _ _ ht (hV h (fun Y Y q=>⟨?_,q.2⟩) fun Y Y q=>q)) (fun kF jv vs ws e' hv=>hcall kF jv v w vs ws ((x.trans q1.ext).trans e') (q3.mono e') hv);obtain⟨⟨jh,ρ',σ',_,r'⟩,_⟩:=q;exact fun b o q=>r'.keep _ _ (r'.base b o q)
    exact this jh ρ' Pi s₁ (.refl _ _) q2
   have main:∀{Q:g8->g9->Prop} {E:g8->g9->Prop},(∀w s₁,Post B C Φ ρ s VR Pi v w s₁->(s₁.TypeIs w T/\∀a,w=.ref a->∃ob,s₁.heap.get? a=some ob/\ob.dict=none)/\hZ (M B) C.A (callWith pos (.builtin id) [w] (il pos (ie args C.env)) []) Q E s₁)->
     hZ (M B) C.A (iF (.Call (.Attribute o name apos) args [] pos) C.env) Q E s:=fun h=>
    wpAny_Call_method_late hbase hfew hline rfl (hV h1 (fun w s₁ q=>⟨T,id,pa,slot,hty,(h w s₁ q).1.1,(h w s₁ q).1.2,(h w s₁ q).2⟩) fun Y Y q=>q.elim)
   change kZ B C Φ ρ s VR _ s (P.bind ps (F v) Pi);cases hr:P.bind ps (F v) Pi with
   |stuck=>trivial
   |ok v' Ph=>simp only[hr] at key;exact main key
   |exc Ph=>simp only[hr] at key;exact main key
noncomputable def o6(σ:AS)(v:V): Bool:=(mW σ v).isSome
noncomputable def nQ(σ:AS): V->Bool
 |.ref n=>((σ.heap[n]?).bind asList).isSome
 |_=>false
theorem H4{Φ ρ σ s v w}(r:Rel B C Φ ρ σ s)(hv:jf Φ ρ v w)(h:o6 σ v=true): s.TypeIs w "dict"/\∀a,w=.ref a->∃ob,s.heap.get? a=some ob/\ob.dict=none:=by obtain⟨kvs,hk⟩:=a8.mp h;obtain⟨n,a,rfl,rfl,-,-,_,kws,h1,_⟩:=r.dict hv hk;exact⟨h1.mapOf.typeIs,h1.mapOf.noDict⟩
theorem Hx{Φ ρ σ s v w}(r:Rel B C Φ ρ σ s)(hv:jf Φ ρ v w)(h:nQ σ v=true): s.TypeIs w "list"/\∀a,w=.ref a->∃ob,s.heap.get? a=some ob/\ob.dict=none:=by
 cases v with
 |ref n=>
  obtain⟨vs,hq⟩:=a8.mp h;obtain⟨a,ws,k,rfl,h1,_⟩:=r.list hv hq;exact⟨(js h1).typeIs,fun a e=>by injection e with e;exact e▸⟨_,h1,rfl⟩⟩
 |_=>exact cC h
noncomputable def P.dictGet(o:V)(vs:List V): P V:=match vs with
 |[k,d]=>match k with
  |.bytes k=>fun σ=>match mW σ o with
   |some kvs=>.ok ((getKey kvs k).getD d) σ
   |none=>.stuck
  |_=>P.stuck
 |_=>P.stuck
theorem sj{v:V}{w:g8}{vs:List V}{ws:List g8}(hv:jf iQ iP v w)(h:ja iQ iP vs ws): jm B C iQ iP VR (call (.builtin "dict.get") (w::ws) []) (P.dictGet v vs):=by
 cases vs with
 |nil=>exact jr
 |cons v1 vs=>cases vs with
  |nil=>exact jr
  |cons d vs=>cases vs with
   |cons _ _=>exact jr
   |nil=>cases v1 with
    |bytes k=>
     intro Φ ρ σ s x r;obtain⟨wk,wd,rfl,hk,hd⟩:=(h.mono x).two;obtain⟨t,rfl⟩:=hk.kG;unfold P.dictGet;dsimp only;cases hq:mW σ v with
     |none=>trivial
     |some kvs=>
      obtain⟨n,a,rfl,rfl,-,-,h0,kws,h1,h2,h3,h4⟩:=r.dict (hv.mono x) hq;have hrel:=nJ k h3 h4;refine call_meetsIn F.slot_dict_get h1.mapOf.typeIs F.entry_dict_get (F.args_dict_get_3 _ _ _) (meets_dict_get_default (bytesKind PySem.Challenge.pw_ji0031_01 B.w) a (isKey k _) h0 wd) ⟨_,h1.mapOf,?_⟩;refine⟨Φ,ρ,.same rfl,r.toks _,?_⟩;cases hg:getKey kvs k with
      |some v=>rw[hg] at hrel;obtain⟨w,g1,g2⟩:=hrel;refine R1 g1 ?_;exact g2
      |none=>rw[hg] at hrel;refine R1 hrel ?_;exact hd
    |_=>exact jr
noncomputable def P.append(o:V)(vs:List V): P V:=match vs with
 |[v]=>fun σ=>match o with
  |.ref n=>match (σ.heap[n]?).bind asList with
   |some vs=>if vs.length<100000 then .ok .none {σ with heap:=σ.heap.set n (.list (vs++[v]))} else .stuck
   |none=>.stuck
  |_=>.stuck
 |_=>P.stuck
theorem zo{n:Nat}(h:n<100000): n<=io:=by refine R1 im ?_;exact ab (aG h) (by decide)
theorem zu{v:V}{w:g8}{vs:List V}{ws:List g8}(hv:jf iQ iP v w)(h:ja iQ iP vs ws): jm B C iQ iP VR (call (.builtin "list.append") (w::ws) []) (P.append v vs):=
 pB (t:=fun ws=>call (.builtin "list.append") (w::ws) []) (F:=P.append v) h rfl (fun Y Y Y=>rfl) fun u wu hu Φ ρ σ s x r=>by
  cases v with
  |ref n=>
   obtain⟨a,rfl,hn⟩:=(hv.mono x).kG;unfold P.append;dsimp only;cases hq:(σ.heap[n]?).bind asList with
   |none=>trivial
   |some us=>
    dsimp only;by_cases hlen:us.length<100000
    .refine R1 (if_pos hlen) ?_;have hq:=m4 hq;obtain⟨xs,k,h1,h2,h3⟩:=r.objs _ _ _ hq hn;refine wpAny_list_append_plain ⟨k,h1⟩ (fun h' hpl hs=>?_) h2;obtain⟨k',hpl⟩:=hpl;exact⟨Φ,ρ,.same rfl,r.v9 (s':={s with heap:=h'}) (new:=.list (us++[u])) hn hq (fun q=>nomatch q) hs ⟨xs.push wu,k',hpl,by refine R1 (d3 ..) (R1 h3.size (R1 im ?_));exact ab hlen (by decide),by refine R1 eH ?_;exact h3.append (.cons (hu.mono x) .nil)⟩ rfl rfl,.none⟩
    .refine R1 (if_neg hlen) ?_;trivial
  |_=>trivial
noncomputable def P.extend(o:V)(vs:List V): P V:=match vs with
 |[v]=>fun σ=>match o with
  |.ref n=>match (σ.heap[n]?).bind asList with
   |some vs=>match jz σ v with
    |some us=>if vs.length+us.length<100000 then .ok .none {σ with heap:=σ.heap.set n (.list (vs++us))} else .stuck
    |none=>.stuck
   |none=>.stuck
  |_=>.stuck
 |_=>P.stuck
theorem zt{v:V}{w:g8}{vs:List V}{ws:List g8}(hv:jf iQ iP v w)(h:ja iQ iP vs ws): jm B C iQ iP VR (call (.builtin "list.extend") (w::ws) []) (P.extend v vs):=
 pB (t:=fun ws=>call (.builtin "list.extend") (w::ws) []) (F:=P.extend v) h rfl (fun Y Y Y=>rfl) fun u wu hu Φ ρ σ s x r=>by
  cases v with
  |ref n=>
   obtain⟨a,rfl,hn⟩:=(hv.mono x).kG;unfold P.extend;dsimp only;cases hq:(σ.heap[n]?).bind asList with
   |none=>trivial
   |some ts=>cases hus:jz σ u with
    |none=>trivial
    |some us=>
     dsimp only;by_cases hlen:ts.length+us.length<100000
     .refine R1 (if_pos hlen) ?_;have hq:=m4 hq;obtain⟨xs,k,h1,h2,h3⟩:=r.objs _ _ _ hq hn;obtain⟨b,ys,k2,rfl,g1,g2,g3⟩:=r.list (hu.mono x) hus;have hfit:xs.size+ys.size<=io:=by refine R1 h3.size (R1 g3.size ?_);exact zo hlen
      refine call_meets F.slot_list_extend (js h1).typeIs F.entry_list_extend (F.args_list_extend_2 _ _) (PySem.AutoSeq1.list_extend_list_list_0 a xs k b ys k2 ?_ h2 (bL hfit)) ⟨h1,g1,?_⟩
      .have:iC.List.listTooLong (xs.size+ys.size)=false:=decide_eq_false (cP.mpr hfit);simp[this]
      .obtain⟨n',hm⟩:∃n',Obj.mapSeq (fun x=>x++ys) {cls:=.type "list",data:=.seq xs k}={cls:=.type "list",data:=.seq (xs++ys) n'}:=⟨_,rfl⟩;have hup:=ib.get?_update_self (h:=s.heap) (Obj.mapSeq fun x=>x++ys) h1 (by exact R1 hm rfl);rw[hm] at hup;exact⟨Φ,ρ,.same rfl,r.v9 (s':={s with heap:=s.heap.update a (Obj.mapSeq fun x=>x++ys)}) (new:=.list (ts++us)) hn hq (fun q=>nomatch q) (ib.SameBut.update ..) ⟨xs++ys,n',hup,by refine R1 fY ?_;exact hfit,by refine R1 cy ?_;exact h3.append g3⟩ rfl rfl,.none⟩
     .refine R1 (if_neg hlen) ?_;trivial
  |_=>trivial
end
section
variable{B:Base}{C D:Ctx}{Φ jh iQ iS:Gh}{ρ ρ' iP iT jv:List hM}{σ σ' Ph:AS}{s s' s₁ Pg:g9}{d:Nat}{ψ jw:Gh}{A:ig}{e o:iB}{pos:Pos}
noncomputable def KJ:V->Option Int
 |.int i=>some i
 |_=>none
noncomputable def intsOf:List V->Option (List Int)
 |[]=>some []
 |v::r=>(KJ v).bind fun i=>(intsOf r).map (i::·)
theorem Gs{v:V}{i:Int}(h:KJ v=some i): v=.int i:=by
 cases v with
 |int j=>exact congrArg V.int (aq.inj h)
 |_=>exact no h
theorem tQ:∀{vs:List V} {ws:List g8} {ns:List Int},ja Φ ρ vs ws->intsOf vs=some ns->IntsAre ws ns
 |[],ws,ns,h,e=>by
  refine R1 (show ws=[] from h.kG) (R2 (aq.inj e) ?_);exact .nil
 |v::vs,ws,ns,h,e=>by
  obtain⟨w,us,rfl,a,b⟩:=h.kG;obtain⟨i,h0,e⟩:=b8.mp e;obtain⟨r,h1,rfl⟩:=aV.mp e;obtain rfl:=Gs h0;obtain⟨t,rfl⟩:=a.kG;exact .cons _ _ (tQ b h1)
theorem ints_rep{ns:List Int}{ws:List g8}(h:IntsAre ws ns): ja Φ ρ (ns.map .int) ws:=by
 induction h with
 |nil=>exact .nil
 |cons n t _ ih=>exact .cons (.int _ _) ih
noncomputable def Do:List Int->Int
 |[]=>0
 |a::r=>r.foldl max a
theorem o8:∀(r:List Int) (a:Int),a<=r.foldl max a/\∀x∈r,x<=r.foldl max a
 |[],a=>⟨dT _,fun Y h=>nomatch h⟩
 |b::r,a=>by
  have⟨h1,h2⟩:=o8 r (max a b)
  exact⟨cT (Int.le_max_left a b) h1,fun x hx=>by
   rcases av.mp hx with rfl | hx
   .exact cT (Int.le_max_right a _) h1
   .exact h2 x hx⟩
theorem qm:∀(r:List Int) (a:Int),r.foldl max a=a\/r.foldl max a∈r
 |[],a=>.inl rfl
 |b::r,a=>by
  show r.foldl max (max a b)=a\/_;rcases qm r (max a b) with h | h
  .refine R1 dt (R1 h ?_);by_cases hab:a<=b
   .right;refine R1 (gu hab) ?_;exact ac
   .left;exact Int.max_eq_left (by exact Int.le_of_not_le hab)
  .right;exact ad _ h
theorem yh{ns:List Int}{M:Int}(h1:M∈ns)(h2:∀a∈ns,a<=M): M=Do ns:=by
 cases ns with
 |nil=>cases h1
 |cons a r=>
  have⟨g1,g2⟩:=o8 r a
  have hle:M<=r.foldl max a:=by
   rcases av.mp h1 with rfl | h
   .exact g1
   .exact g2 _ h
  have hge:r.foldl max a<=M:=by
   rcases qm r a with h | h
   .refine R1 h ?_;exact h2 a ac
   .exact h2 _ (ad _ h)
  exact fk hle hge
noncomputable def P.ints1(f:List Int->Option V): List V->P V
 |[v]=>fun σ=>match jz σ v with
  |some us=>match intsOf us with
   |some ns=>match f ns with
    |some v=>.ok v σ
    |none=>.stuck
   |none=>.stuck
  |none=>.stuck
 |_=>P.stuck
inductive xq(f:List Int->Option V)(σ:AS)(vs:List V): Res V->Prop
 |stuck:xq f σ vs .stuck
 |ok (v:V) (us:List V) (ns:List Int) (r:V) (h0:vs=[v]) (h1:jz σ v=some us) (h2:intsOf us=some ns) (h3:f ns=some r):xq f σ vs (.ok r σ)
theorem B5{f:List Int->Option V}{vs:List V}: xq f σ vs (P.ints1 f vs σ):=by
 cases vs with
 |nil=>exact .stuck
 |cons v l=>cases l with
  |cons _ _=>exact .stuck
  |nil=>
   unfold P.ints1;dsimp only;cases h1:jz σ v with
   |none=>exact .stuck
   |some us=>
    dsimp only;cases h2:intsOf us with
    |none=>exact .stuck
    |some ns=>
     dsimp only;cases h3:f ns with
     |none=>exact .stuck
     |some r=>exact .ok v us ns r rfl h1 h2 h3
theorem pX{f:List Int->Option V}{t:List g8->Sem g8}{vs:List V}{ws:List g8}(h:ja iQ iP vs ws)
  (k:∀Φ ρ σ s a (ws:Array g8) n ns r,Rel B C Φ ρ σ s->s.heap.get? a=some {cls:=.type "list",data:=.seq ws n}->ws.size<=io->IntsAre ws.toList ns->f ns=some r->hZ (M B) C.A (t [.ref a]) (Post B C Φ ρ s VR σ r) (fun Y Y=>False) s) :
  jm B C iQ iP VR (t ws) (P.ints1 f vs):=by
 intro Φ ρ σ s x r;have run:=B5 (f:=f) (σ:=σ) (vs:=vs);generalize P.ints1 f vs σ=res at run ⊢;cases run with
 |stuck=>trivial
 |ok v us ns w h0 h1 h2 h3=>
  subst h0;obtain⟨w,rfl,hv⟩:=(h.mono x).one;obtain⟨a,ws,n,rfl,g1,g2,g3⟩:=r.list hv h1;exact k _ _ _ _ _ _ _ _ _ r g1 g2 (tQ g3 h2) h3
theorem Fk{vs:List V}{ws:List g8}(hh:C.A.handled=none)(h:ja iQ iP vs ws): jm B C iQ iP VR (call (.builtin "sum") ws []) (P.ints1 (fun ns=>some (.int ns.sum)) vs):=
 pX (t:=fun ws=>call (.builtin "sum") ws []) h fun Φ ρ σ s a ws n ns w r h1 h2 hi hf=>by
  obtain⟨xs,hxs⟩:=hi.allInts.items;have hl:s.heap.IsList a (intItems xs):=by refine R2 hxs ?_;exact js h1
  refine sum_intListG hh hl fun h' tk t' hk=>?_
  have e1:preSum (numAt xs) xs.size=ns.sum:=by refine R1 (preSum_eq ..) (R1 (dD (by simp)) (R2 (nums_intItems ..) (R2 hxs ?_)));exact R1 (show(ws.toList.toArray).toList=ws.toList from rfl) (R1 hi.numsOf rfl)
  refine R1 e1 (R2 (aq.inj hf) ?_);exact⟨Φ,ρ,.same rfl,r.grow hk r.gens rfl,.int _ _⟩
theorem FX{α:Type}{p:Prop}[Decidable p]{a:Option α}{b:α}(h:(if p then none else a)=some b): ¬ p/\a=some b:=by
 by_cases hp:p
 .rw[if_pos hp] at h;exact no h
 .rw[if_neg hp] at h;exact⟨hp,h⟩
theorem Fm{vs:List V}{ws:List g8}(hh:C.A.handled=none)(h:ja iQ iP vs ws): jm B C iQ iP VR (call (.builtin "max") ws []) (P.ints1 (fun ns=>if ns=[] then none else some (.int (Do ns))) vs):=
 pX (t:=fun ws=>call (.builtin "max") ws []) h fun Φ ρ σ s a ws n ns w r h1 h2 hi hf=>by
  obtain⟨hne,hf⟩:=FX hf;refine R2 (aq.inj hf) ?_;obtain⟨xs,hxs⟩:=hi.allInts.items;have hl:s.heap.IsList a (intItems xs):=by refine R2 hxs ?_;exact js h1
  have hns':ns=xs.toList.map (·.1):=by exact R2 hi.numsOf (R2 (nums_intItems ..) (R2 hxs rfl))
  have hsz:0<xs.size:=cV fun q=>hne (by exact R1 hns' (R1 (Array.toList_eq_nil_iff.mpr (Array.eq_empty_of_size_eq_zero q)) rfl));refine max_intList hh hl hsz fun v h' tk hv hk=>?_;obtain⟨t,rfl⟩:=intItems_at hv;obtain⟨g1,g2⟩:=argBest_gt (numAt xs) (xs.size - 1)
  have key:numAt xs (argBest (fun i j=>decide (numAt xs i > numAt xs j)) (xs.size - 1))=Do ns:=by
   refine yh ?_ fun a ha=>?_
   .refine R1 hns' (R1 (numAt_eq ..) ?_);refine getD_mem ?_;refine R1 (ak ..) (R1 a5 ?_);exact ag g1 (gR hsz (by decide))
   .rw[hns'] at ha;obtain⟨j,hj,rfl⟩:=mem_getD ha;rw[ak,a5] at hj;refine R2 (numAt_eq ..) ?_;exact g2 j (fw hj)
  refine R1 key ?_;exact⟨Φ,ρ,.same rfl,r.grow hk r.gens rfl,.int _ _⟩
noncomputable def P.bytesOf:List Int->Option V:=fun ns=>if ns.all (fun n=>0<=n&&n<256) then some (.bytes (ns.map fun n=>n.toNat.toUInt8)) else none
theorem tt{vs:List V}{ws:List g8}(hh:C.A.handled=none)(h:ja iQ iP vs ws): jm B C iQ iP VR (call (.type "bytes") ws []) (P.ints1 P.bytesOf vs):=
 pX (t:=fun ws=>call (.type "bytes") ws []) h fun Φ ρ σ s a ws n ns w r h1 h2 hi hf=>by obtain⟨hr,rfl⟩:=oY hf;exact call_bytes_ints (vs:=ws.toList) (js h1) hi (fun n hn=>by have:=bl.mp hr n hn;simpa using this) (by refine R1 a5 ?_;exact h2) hh fun h' t k hk=>⟨Φ,ρ,.same rfl,r.grow hk r.gens rfl,.bytes _ _⟩
noncomputable def P.Hy:List V->P V
 |[v]=>fun σ=>match jz σ v with
  |some us=>.ok (.lst us) σ
  |none=>.stuck
 |_=>P.stuck
theorem vf{vs:List V}{ws:List g8}(h:ja iQ iP vs ws): jm B C iQ iP VR (call (.type "list") ws []) (P.Hy vs):=
 pB (t:=fun ws=>call (.type "list") ws []) h rfl (fun Y Y Y=>rfl) fun v w hv Φ ρ σ s x r=>by
  unfold P.Hy;dsimp only;cases hus:jz σ v with
  |none=>trivial
  |some us=>
   obtain⟨a,ws,n,rfl,h1,h2,h3⟩:=r.list (hv.mono x) hus;refine call_list_seq a (.inl rfl) h1 rfl rfl (fun h' c' hk hnew=>?_) h2;have hn:=ib.get?_none_of_le (h:=s.heap) (aM _);obtain⟨q1,q2⟩:=r.sR (s':={s with heap:=h'}) hk hn hnew r.gens rfl;exact⟨_,ρ,.o7 rfl q2.1 fun b o' e=>(Gh.oX e).elim (fun q=>.inr (q.1▸r.mH hn)) .inl,q1,.lst (Gh.jQ _ _ _) h2 (h3.mono q2)⟩
noncomputable def P.isBool(vs:List V): P V:=match vs with
 |a::l=>match a with
  |.bool _=>match l with
   |[.con (.type "bool")]=>P.pure (.bool true)
   |_=>P.stuck
  |_=>P.stuck
 |_=>P.stuck
theorem qC{vs:List V}{ws:List g8}(h:ja iQ iP vs ws): jm B C iQ iP VR (call (.builtin "isinstance") ws []) (P.isBool vs):=by
 cases vs with
 |nil=>exact jr
 |cons v l=>cases v with
  |bool b=>
   unfold P.isBool;dsimp only;split
   .intro Φ ρ σ s x r;obtain⟨w,w',rfl,h1,h2⟩:=h.two;refine R1 (show w=_ from h1.kG) (R1 (show w'=_ from h2.kG) ?_);exact call_isinstance_yes (Tx:= "bool") (T:= "bool") (PySem.typeIs_bool _ _) (by kernel_rfl) sub_bool_bool ⟨Φ,ρ,.refl _ _ _ _,r,.bool _⟩
   .exact jr
  |_=>exact jr
noncomputable def sortI(ns:List Int): List Int:=ns.mergeSort (fun a b=>decide (a<=b))
theorem mh:∀{a b:List Int},a.Perm b->a.Pairwise (·<=·)->b.Pairwise (·<=·)->a=b
 |[],b,h,_,_=>(List.nil_perm.mp h).symm
 |x::a,[],h,_,_=>(List.perm_nil.mp h)
 |x::a,y::b,h,h1,h2=>by
  have⟨p1,p2⟩:=bN.mp h1;have⟨q1,q2⟩:=bN.mp h2
  have hxy:x=y:=by
   have hx:x∈y::b:=h.subset ac;have hy:y∈x::a:=h.symm.subset ac;rcases av.mp hx with e | hx
   .exact e
   .rcases av.mp hy with e | hy
    .exact e.symm
    .exact fk (p1 y hy) (q1 x hx)
  subst hxy;exact R1 (mh (eO.cons_inv h) p2 q2) rfl
theorem vZ{a ns:List Int}(h:a.Perm ns)(hs:a.Pairwise (·<=·)): a=sortI ns:=by refine mh (h.trans (bT ns _).symm) hs ?_;have:=cu (le:=fun(a b:Int)=>decide (a<=b)) (fun a b c h1 h2=>decide_eq_true (cT (of_decide_eq_true h1) (of_decide_eq_true h2))) (fun a b=>(bj _ _).mpr ((fe a b).imp decide_eq_true decide_eq_true)) ns;exact this.imp fun h=>of_decide_eq_true h
theorem qA{vs:List V}{ws:List g8}(h:ja iQ iP vs ws): jm B C iQ iP VR (call (.builtin "sorted") ws []) (P.ints1 (fun ns=>if ns.length<64 then some (.lst ((sortI ns).map .int)) else none) vs):=
 pX (t:=fun ws=>call (.builtin "sorted") ws []) h fun Φ ρ σ s a ws n ns w r h1 h2 hi hf=>by
  obtain⟨hlen,rfl⟩:=oY hf;refine sorted_ints (vs:=ws.toList) (js h1) hi (hi.length.symm▸hlen) fun out ns' g1 g2 g3=>?_;obtain⟨e,he⟩:=sortedAll_at s.heap ws.toList out;have hne:s.heap.get? (s.heap.objs.size+1)=none:=ib.get?_none_of_le (bU _);have hk:Grows s.heap (sortedAll s.heap ws.toList out):=fun b o q=>sortedAll_old q;obtain⟨q1,q2⟩:=r.sR (s':={s with heap:=sortedAll s.heap ws.toList out}) hk hne he r.gens rfl
  have hout:out.size<=io:=by refine R2 a5 (R1 g1.length (R1 g2.length_eq (R1 im ?_)));exact ab (aG hlen) (by decide)
  refine⟨_,ρ,.o7 rfl q2.1 fun b o' e=>(Gh.oX e).elim (fun q=>.inr (q.1▸r.mH hne)) .inl,q1,?_⟩;refine R2 (vZ g2 g3) ?_;exact .lst (Gh.jQ _ _ _) hout (ints_rep g1)
end
noncomputable def P.nT:Nat->P Bool->P AF->P AF
 |0,_,_=>P.stuck
 |n+1,test,body=>P.bind test fun b=>if b then P.bind body fun f=>match f with
  |.next=>P.nT n test body
  |.cont=>P.nT n test body
  |.brk=>P.pure .next
  |.ret v=>P.pure (.ret v) else P.pure .next
noncomputable def P.try_(p q:P AF): P AF:=fun σ=>match p σ with
 |.exc σ'=>q σ'
 |r=>r
noncomputable def P.raise{α:Type}: P α:=fun σ=>.exc σ
section
variable{B:Base}{C D:Ctx}{Φ jh iQ iS:Gh}{ρ ρ' iP iT jv:List hM}{σ σ' Ph:AS}{s s' s₁ Pg:g9}{d:Nat}{ψ jw:Gh}{A:ig}{e:iB}{pos:Pos}
inductive OU(B:Base)(C:Ctx)(ψ:Gh)(Φ:Gh)(ρ:List hM)(s:g9)(tp:P Bool)(bp:P AF)(res:Res AF)(n:Nat)(s':g9): Prop
 |mk (jh:Gh) (ρ':List hM) (σ':AS) (st:Step ψ s Φ ρ s' jh ρ') (r:Rel B (C.at ψ) jh ρ' σ' s') (h:P.nT n tp bp σ'=res)
theorem sX{test:iB}{body:List Stmt}{tp:P Bool}{bp:P AF}(Ka:(C.at ψ).Ok d)(F:C.mT)(ht:jm B (C.at ψ) iQ iP BR (isTrue test C.env (iF test C.env)) tp)
  (hb:jm B (C.at ψ) iQ iP FR (iE body C.env) bp) (res:Res AF) (hns:res=.stuck->False) (n:Nat) {Φ ρ σ s} (e:Ext iQ iP Φ ρ) (r:Rel B (C.at ψ) Φ ρ σ s) (hres:P.nT n tp bp σ=res):iy (M B) C.A (.whileLoop test body [] C.env) (lN B (C.at ψ) Φ ρ s res) s:=by
 refine codeAny_whileLoop (OU B C ψ Φ ρ s tp bp res) (fun n s' hI=>?_) n ⟨Φ,ρ,σ,.refl _ _ _ _,r,hres⟩;obtain⟨jh,ρ',σ',st,r',ni⟩:=hI;cases n with
 |zero=>exact(hns ni.symm).elim
 |succ n=>
  have h1:=ht jh ρ' σ' s' (e.trans st.ext) r';have h2:=fun Ph Pg iS iT x q=>hb iS iT Ph Pg (e.trans x) q
  have exc:∀{iS iT a Ph Pg},res=.exc Ph->Step ψ s Φ ρ Pg iS iT->Rel B (C.at ψ) iS iT Ph Pg->ExcAt (C.at ψ) iS iT a Pg->notedBy (M B) C.A C.env (fun e s'=>lN B (C.at ψ) Φ ρ s res (.error e) s') (.ref a) Pg:=fun{iS iT a Ph Pg} hr q1 q2 q3=>by subst hr;exact tD (C:=C.at ψ) Ka ⟨F.fr,F.L⟩ rfl q2 q3 fun Pm Pp Pt wY=>⟨iS,iT,a,rfl,q1.trans (wY ψ),Pp,Pt⟩
  clear r' ht hb r hres;unfold P.nT P.bind at ni;generalize tp σ'=R at ni h1;cases R with
  |stuck=>exact(hns ni.symm).elim
  |exc Ph=>
   refine hV h1 (fun Y Y q=>q.elim) fun x Pg q=>?_;obtain⟨iS,iT,a,rfl,q1,q2,q3⟩:=q;exact exc ni.symm (st.trans q1) q2 q3
  |ok b Ph=>
   refine hV h1 (fun b' Pg q=>?_) fun Y Y q=>q.elim;obtain⟨iS,iT,q1,q2,rfl⟩:=q;cases b with
   |false=>
    refine R1 (if_neg fU) (wpAny_execs_nil (R2 (show Res.ok AF.next Ph=res from ni) ?_));exact⟨iS,iT,st.trans q1,q2,.next⟩
   |true=>
    refine R1 (if_pos rfl) ?_;have h2:=h2 Ph Pg iS iT (st.trans q1).ext q2;dsimp only at ni;rw[if_pos rfl] at ni;generalize bp Ph=R at ni h2;cases R with
    |stuck=>exact(hns ni.symm).elim
    |exc Pn=>
     refine hV h2 (fun Y Y q=>q.elim) fun x Pm q=>?_;obtain⟨kF,jv,a,rfl,k1,k2,k3⟩:=q;exact exc ni.symm ((st.trans q1).trans k1) k2 k3
    |ok f Pn=>
     refine hV h2 (fun g Pm q=>?_) fun Y Y q=>q.elim;obtain⟨kF,jv,k1,k2,k3⟩:=q;have stp:=(st.trans q1).trans k1;cases k3 with
     |next=>exact⟨n,bB _,kF,jv,Pn,stp,k2,ni⟩
     |cont=>exact⟨n,bB _,kF,jv,Pn,stp,k2,ni⟩
     |brk=>
      refine R2 (show Res.ok AF.next Pn=res from ni) ?_;exact⟨kF,jv,stp,k2,.next⟩
     |ret hv=>
      refine R2 (show Res.ok (AF.ret _) Pn=res from ni) ?_;exact⟨kF,jv,stp,k2,.ret hv⟩
theorem vg{test:iB}{body:List Stmt}{tp:P Bool}{bp:P AF}(n:Nat)(Ka:(C.at ψ).Ok d)(F:C.mT)(ht:jm B (C.at ψ) iQ iP BR (isTrue test C.env (iF test C.env)) tp)
  (hb:jm B (C.at ψ) iQ iP FR (iE body C.env) bp):jm B (C.at ψ) iQ iP FR (exec (.While test body [] pos) C.env) (P.nT n tp bp):=by
 intro Φ ρ σ s x r
 have run:∀{Q:Flow->g9->Prop} {E:g8->g9->Prop},iy (M B) C.A (.whileLoop test body [] C.env) (fun r s'=>match r with | .ok f=>Q f s' | .error e=>cameBackBy (M B) C.A C.env E e s') s->hZ (M B) C.A (exec (.While test body [] pos) C.env) Q E s:=fun h=>by refine R1 (exec_While ..) ?_;exact g7 (ic (wpAny_runOwn (h:=none) h (by intro x;cases x)))
 cases hp:P.nT n tp bp σ with
 |stuck=>trivial
 |ok f σ'=>
  refine run (codeAny_mono (sX Ka F ht hb (.ok f σ') (fun q=>nomatch q) n x r hp) fun r s' h=>?_);cases r with
  |ok g=>exact h
  |error e=>exact h.elim
 |exc σ'=>
  refine run (codeAny_mono (sX Ka F ht hb (.exc σ') (fun q=>nomatch q) n x r hp) fun r s' h=>?_);cases r with
  |ok g=>exact h.elim
  |error e=>
   obtain⟨jh,ρ',a,rfl,q1,q2,q3⟩:=h;exact nS q2 q3 fun Pg Pj Pw Py=>⟨jh,ρ',a,rfl,q1.trans (Py ψ),Pj,Pw.BD⟩
noncomputable def Ctx.hnd(C:Ctx)(ψ jw:Gh)(e:hM): Ctx:={C with jO:=jw,ms:=ψ,A:=C.A.mark (some (.ref e))}
theorem Ctx.Ok.hnd(K:C.Ok d)(ψ jw:Gh)(e:hM)(le:Gh.Le ψ jw): (C.hnd ψ jw e).Ok d:=⟨K.kind,K.link,K.names,K.globals,K.builtins,K.depth,K.units,K.frames,le⟩
theorem Rel.around{env:Env}{slots:List (Str×Loc)}{kT:List (hM×(Str->Option g8))}{jO ms:Gh}{A A':ig}(r:Rel B ⟨env,slots,kT,jO,ms,A⟩ Φ ρ σ s): Rel B ⟨env,slots,kT,jO,ms,A'⟩ Φ ρ σ s:=
 ⟨r.base,r.keep,r.jO,r.ns,r.cells,r.uN,r.nG,r.kT,r.len,r.objs,r.own,r.live,r.nodup,r.vars,r.tabs,r.gens,r.os,r.le⟩
structure JS(ψ jw:Gh)(a:hM): Prop where
 le:Gh.Le ψ jw
 off:ψ a=none
 at':∃T,ψ T=none/\Cr jw a T
 tabs:∀b,(jw b).isSome->(ψ b).isSome\/b∉([87,177]:List hM)
noncomputable def EQ(C:Ctx)(Φ:Gh)(ρ:List hM): Prop:=∀b,(C.jO b).isSome->C.ms b=none->Φ b=none/\b∉C.mine ρ/\b∉([87,177]:List hM)
noncomputable def pT{α β:Type}(B:Base)(C:Ctx)(iQ:Gh)(iP:List hM)(RR:Gh->List hM->β->α->Prop)(t:Sem α)(p:P β): Prop:=
 ∀Φ ρ σ s,Ext iQ iP Φ ρ->Rel B C Φ ρ σ s->EQ C Φ ρ->kZ B C Φ ρ s RR t s (p σ)
section
variable{α β γ δ:Type}{RR:Gh->List hM->β->α->Prop}{SS:Gh->List hM->δ->γ->Prop}
theorem jY{t:Sem α}{p:P β}(h:jm B C iQ iP RR t p): pT B C iQ iP RR t p:=fun Φ ρ σ s x r Y=>h Φ ρ σ s x r
theorem pT.weaken{t:Sem α}{p:P β}(h:pT B C iQ iP RR t p)(x:Ext iQ iP iS iT): pT B C iS iT RR t p:=fun Φ ρ σ s e r o=>h Φ ρ σ s (x.trans e) r o
theorem EQ.step(o:EQ C Φ ρ)(st:Step C.jO s Φ ρ s' jh ρ'): EQ C jh ρ':=fun b hb h0=>by
 obtain⟨h1,h2,h3⟩:=o b hb h0;have hn:C.jO b≠none:=fun q=>by rw[q] at hb;cases hb
 refine⟨?_,fun hm=>?_,h3⟩
 .cases q:jh b with
  |none=>rfl
  |some o'=>
   rcases st.phi b o' q with q | q
   .rw[h1] at q;cases q
   .exact(hn q).elim
 .rcases aA.mp hm with hm | hm
  .exact h2 (ai _ hm)
  .rcases st.Hq b hm with q | q
   .exact h2 (aj _ q)
   .exact hn q
theorem vh{t:Sem α}{f:α->Sem γ}{p:P β}{g:β->P δ}(h:pT B C iQ iP RR t p)
  (k:∀iS iT b a,Ext iQ iP iS iT->RR iS iT b a->pT B C iS iT SS (f a) (g b)):pT B C iQ iP SS (t >>= f) (P.bind p g):=by
 intro Φ ρ σ s x r o;have h1:=h Φ ρ σ s x r o;unfold P.bind;generalize p σ=R at h1 ⊢;cases R with
 |stuck=>trivial
 |exc σ'=>
  exact g7 (hV h1 (fun Y Y q=>q.elim) fun Y Y q=>q)
 |ok b σ'=>
  have key:∀a s',Post B C Φ ρ s RR σ' b a s'->kZ B C Φ ρ s SS (f a) s' (g b σ'):=
   fun a s' ⟨jh,ρ',q1,q2,q4⟩=>kZ.trans q1 (q1.jO q2.le) (k jh ρ' b a (x.trans q1.ext) q4 jh ρ' σ' s' (.refl _ _) q2 (o.step q1))
  dsimp only;cases hg:g b σ' with
  |stuck=>trivial
  |ok b' oj=>
   simp only[hg] at key;exact g7 (hV h1 (fun a s' q=>key a s' q) fun Y Y q=>q.elim)
  |exc oj=>
   simp only[hg] at key;exact g7 (hV h1 (fun a s' q=>key a s' q) fun Y Y q=>q.elim)
theorem Fw{pos:Pos}{t:Sem α}{p:P β}(h:pT B C iQ iP RR t p): pT B C iQ iP RR (do iw pos;t) p:=by
 intro Φ ρ σ s x r o;have h1:=h Φ ρ σ s x r o;cases hp:p σ with
 |stuck=>trivial
 |ok b σ'=>rw[hp] at h1;exact g7 (ic h1)
 |exc σ'=>rw[hp] at h1;exact g7 (ic h1)
end
theorem kg{st:Stmt}{rest:List Stmt}{p q:P AF}(h:pT B C iQ iP FR (exec st C.env) p)(k:pT B C iQ iP FR (iE rest C.env) q): pT B C iQ iP FR (iE (st::rest) C.env) (P.seq p q):=by
 refine R1 (execs_cons ..) ?_;refine vh h fun Y Y f g e hf=>?_;cases hf with
 |next=>exact k.weaken e
 |brk=>exact jY (jK fun Y Y Y=>.brk)
 |cont=>exact jY (jK fun Y Y Y=>.cont)
 |ret hv=>exact jY (jK fun Y Y x=>.ret (hv.mono x))
theorem q0{a b:List Stmt}{p:P Bool}{q t:P AF}(h:jm B C iQ iP BR (isTrue e C.env (iF e C.env)) p)(ha:pT B C iQ iP FR (iE a C.env) q)(hb:pT B C iQ iP FR (iE b C.env) t):
  pT B C iQ iP FR (exec (.If e a b pos) C.env) (P.bind p fun c=>if c then q else t):=by
 refine R1 (exec_If ..) ?_;refine Fw (vh (jY h) fun Y Y b c e hb'=>?_);obtain rfl:b=c:=hb';cases b with
 |true=>exact ha.weaken e
 |false=>exact hb.weaken e
theorem zU:isSubtype (.type "KeyError") (.type "KeyError")=pure true:=by refine R1 (isSubtype_type ..) ?_;kernel_rfl
theorem ym:isSubtype (.type "KeyError") (.type "BaseException")=pure true:=by refine R1 (isSubtype_type ..) ?_;kernel_rfl
theorem yl:isSubtype (.type ((Manifest.find? "KeyError").elim "type" fun x=>x.metatype)) (.type "tuple")=pure false:=by refine R1 (isSubtype_type ..) ?_;kernel_rfl
theorem wD{x:Str}{np:Pos}{v:g8}(K:C.Ok d)(r:Rel B C Φ ρ σ s)(hx:C.env.kindOf x=some .globalImplicit)(hm:∀P,nsIn (hd.heap_1 P) iD x=some none)(hv:bootBuiltins x=some v)
  {Q:g8->g9->Prop} {E:g8->g9->Prop} (hQ:Q v s) (hn:autoParam (x≠ "__name__") PySem.ldc._auto_1) (hd:autoParam ((x == ("__debug__" : Str))=false) PySem.ldc._auto_1):hZ (M B) A (iF (.Name x np) C.env) Q E s:=by
 have k:=fun b o q=>r.keep b o (r.base b o q);exact Name_function_global K.kind hx (loadGlobal_builtin (K.globals▸(B.g.keeps k)) (mg_none_of B.K B.g (hm _)) (K.builtins▸(B.b.keeps k)) ((B.builtins x hn).trans hv) hQ) hd
theorem nM{body:List Stmt}{PK:Stmt}{suite:List Stmt}{np hpos:Pos}{p q:P AF}(Ka:∀ψ,(C.at ψ).Ok d)(F:C.mT)(hk:C.env.kindOf "KeyError" = some .globalImplicit)
  (hb:jm B (C.at ψ) iQ iP FR (iE body C.env) p)
  (hs:∀jw a,JS ψ jw a->(C.hnd ψ jw a).Ok d->pT B (C.hnd ψ jw a) iQ iP FR (iE (PK::suite) C.env) q) :
  jm B (C.at ψ) iQ iP FR (exec (.Try body [.ExceptHandler (some (.Name "KeyError" np)) none (PK::suite) hpos] [] [] pos) C.env) (P.try_ p q):=by
 intro Φ ρ σ s x r;have h1:=hb Φ ρ σ s x r;unfold P.try_;generalize p σ=R at h1 ⊢;cases R with
 |stuck=>trivial
 |ok f σ'=>
  refine wpAny_Try_except (hV h1 (fun g s₁ hq=>?_) fun Y Y q=>q.elim);obtain⟨jh,ρ',q1,q2,q3⟩:=hq;cases q3 with
  |next=>exact wpAny_execs_nil ⟨jh,ρ',q1,q2,.next⟩
  |brk=>exact⟨jh,ρ',q1,q2,.brk⟩
  |cont=>exact⟨jh,ρ',q1,q2,.cont⟩
  |ret hv=>exact⟨jh,ρ',q1,q2,.ret hv⟩
 |exc σ'=>
  dsimp only
  have key:∀(Q:Flow->g9->Prop) (E:g8->g9->Prop),(∀jh ρ' a s₁ jw,JS ψ jw a->Step ψ s Φ ρ s₁ jh ρ'->Rel B (C.hnd ψ jw a) jh ρ' σ' s₁->EQ (C.hnd ψ jw a) jh ρ'->
    hZ (M B) (C.hnd ψ jw a).A (iE (PK::suite) C.env) Q (notedBy (M B) (C.hnd ψ jw a).A C.env (cameBackBy (M B) C.A C.env E)) s₁)->
    hZ (M B) C.A (exec (.Try body [.ExceptHandler (some (.Name "KeyError" np)) none (PK::suite) hpos] [] [] pos) C.env) Q E s:=by
   intro Q E h;refine wpAny_Try_except (hV h1 (fun Y Y q=>q.elim) fun e s₁ hx=>?_);obtain⟨jh,ρ',a,rfl,q1,q2,q3⟩:=hx;refine ww (C:=C.at ψ) (Ka ψ) ⟨F.fr,F.L⟩ rfl q2 q3 fun Pg Pj Pw Py=>?_;refine m5 Pj Pw fun Pm Pp Pt wY=>?_
   have cls:∃oe,Pm.heap.get? a=some oe/\oe.cls=.type "KeyError":=Pt.at'.elim fun T h=>by obtain⟨oe,vs,oT,ts,he,hcls,_⟩:=h.2;exact⟨oe,he,hcls⟩
   refine wpAny_handleBy_builtin (X:= "KeyError") (T:= "KeyError") (b:=true) ym yl zU (wD (Ka ψ) Pp hk (fun P=>rfl) rfl ⟨rfl,cls,?_⟩);refine R1 (if_pos rfl) ?_;refine m5 Pp Pt fun Pu FH E8 Jq=>?_;obtain⟨aa,T,aT,tr⟩:=E8;have offs:Off (C.at ψ) jh ρ' [a,T]:=an.mpr ⟨aa,sM aT⟩
   have exs:∀b∈[a,T],∃o,Pu.heap.get? b=some o:=by obtain⟨oe,vs,oT,ts,he,_,_,_,_,_,_,hT,_⟩:=id tr;exact an.mpr ⟨⟨_,he⟩,an.mpr ⟨⟨_,hT⟩,fun Y h=>nomatch h⟩⟩
   obtain⟨kE,am,r5⟩:=FH.arm offs exs
   have hok:JS ψ kE a:=⟨am.le,aa.2.1,⟨T,aT.2.1,tr.mono fun b o hb q=>(am.mem b (hb.elim (fun e=>e▸.head _) fun e=>e▸.tail _ (.head _))).trans q⟩,fun b hb=>by
    by_cases hm:b∈[a,T]
    .exact .inr (offs b hm).2.2.2
    .exact .inl (am.out b hm▸hb)⟩
   have r6:Rel B (C.hnd ψ kE a) jh ρ' σ' Pu:=
    ⟨r5.base,r5.keep,r5.jO,r5.ns,r5.cells,r5.uN,fun i x c q=>FH.nG i x c q,r5.kT,r5.len,r5.objs,r5.own,r5.live,r5.nodup,r5.vars,r5.tabs,r5.gens,r5.os,am.le⟩
   refine h jh ρ' a Pu _ hok (((q1.trans (Py ψ)).trans (wY ψ)).trans (Jq ψ)) r6 fun b hb h0=>?_;by_cases hm:b∈[a,T]
   .exact⟨(offs b hm).1,(offs b hm).2.2⟩
   .exact lG ((am.out b hm).trans h0) hb
  have conv:∀{jh ρ' a s₁ jw Ph},JS ψ jw a->Rel B (C.hnd ψ jw a).exc jh ρ' Ph s₁->Rel B (C.at ψ) jh ρ' Ph s₁:=fun h r=>Rel.around r;cases hq:q σ' with
  |stuck=>trivial
  |ok f Ph=>
   refine key _ _ fun jh ρ' a s₁ jw hk' st r' ox=>?_;have h2:=hs jw a hk' (Ctx.Ok.hnd (C:=C.at ψ) (Ka ψ) ψ jw a hk'.le) jh ρ' σ' s₁ (x.trans st.ext) r' ox;rw[hq] at h2;refine hV h2 (fun g Pg hq=>?_) fun Y Y q=>q.elim;obtain⟨iS,iT,k1,k2,k3⟩:=hq;exact⟨iS,iT,st.trans (k1.jO hk'.le),conv hk' k2.xO,k3⟩
  |exc Ph=>
   refine key _ _ fun jh ρ' a s₁ jw hk' st r' ox=>?_;have h2:=hs jw a hk' (Ctx.Ok.hnd (C:=C.at ψ) (Ka ψ) ψ jw a hk'.le) jh ρ' σ' s₁ (x.trans st.ext) r' ox;rw[hq] at h2;refine hV h2 (fun Y Y q=>q.elim) fun e Pg hq=>?_;obtain⟨iS,iT,b,rfl,k1,k2,k3⟩:=hq;have Os:ExcAt (C.at ψ) iS iT b Pg:=⟨k3.off,k3.at'⟩;refine tD (A:=(C.hnd ψ jw a).A) (C:=C.at ψ) (Ka ψ) ⟨F.fr,F.L⟩ rfl (conv hk' k2) Os fun Pm Pp Pt wY=>?_;exact nS Pp Pt fun Pu FH E8 Jq=>⟨iS,iT,b,rfl,((st.trans k1).trans (wY ψ)).trans (Jq ψ),Rel.around FH,⟨E8.BD.off,E8.BD.at'⟩⟩
theorem m9{a:hM}(hk:JS ψ jw a)(F:C.mT): pT B (C.hnd ψ jw a) iQ iP FR (exec (.Raise none none pos) C.env) P.raise:=by intro Φ ρ σ s x r ox;show hZ (M B) _ (exec (.Raise none none pos) C.env) (fun Y Y=>False) (EPost B (C.hnd ψ jw a) Φ ρ s σ) s;have e0:exec (.Raise none none pos) C.env=(do iw pos;raiseStmt C.env none none):=rfl;refine R1 e0 ?_;refine g7 (ic ?_);unfold raiseStmt;refine g7 (wpAny_handled ?_);refine R1 (show(C.hnd ψ jw a).A.handled=some (.ref a) from rfl) ?_;obtain⟨T,hT0,tr⟩:=hk.at';obtain⟨oe,vs,oT,ts,he,_,hd,_,_,h1,_,hT,_⟩:=id tr;refine g7 (wpAny_rule ?_);refine g7 (wpAny_field (r.jO _ _ he) hd h1 ?_);refine R1 (if_neg (by simp)) ?_;obtain⟨a1,a23⟩:=ox a (by show(jw a).isSome;exact R1 he rfl) hk.off;obtain⟨t1,Od⟩:=ox T (by show(jw T).isSome;exact R1 hT rfl) hT0;have xt:px (C.hnd ψ jw a).exc Φ ρ a s:=⟨⟨a1,hk.off,a23⟩,T,⟨t1,hT0,Od⟩,tr.mono fun b o Y q=>r.jO b o q⟩;refine g7 (m5 r.xO xt fun s₁ Px PL PN=>wpAny_throw ?_);exact⟨Φ,ρ,a,rfl,PN ψ,Px,PL.BD⟩
end
theorem qq{pos:Pos}{a b:Int}{c cv:g8}(l:List g8)(h:TriplesOk l)(e:codeAmong pos (l++[rawInt a,rawInt b,c])=some cv): codeAmong pos l=some cv\/((pos.line:Int)=a/\(pos.col:Int)=b/\cv=c):=by
 fun_induction TriplesOk l with
 |case1=>
  right;simp only[ci,codeAmong,rawInt] at e;split at e
  .rename_i hc;simp only[aW,beq_iff_eq] at hc;cases e;exact⟨hc.1.symm,hc.2.symm,rfl⟩
  .cases e
 |case2 a' t b' u x rest ih=>
  simp only[eP,codeAmong] at e ⊢;split at e
  .rename_i hc;refine R1 (if_pos hc) ?_;exact .inl e
  .rename_i hc;refine R1 (if_neg hc) ?_;exact ih h e
 |case3 l h1 h2=>exact h.elim
section
variable{B:Base}{C D:Ctx}{Φ jh iQ iS:Gh}{ρ ρ' iP iT jv:List hM}{σ σ' Ph:AS}{s s' s₁ Pg:g9}{d:Nat}{ψ jw:Gh}{A:ig}{e:iB}{pos:Pos}
theorem Rel.GL(r:Rel B C Φ ρ σ s){j:Nat}{x:Str}{cc:hM}{v:V}(hj:C.slots[j]?=some (x,.cell cc))(hv:σ.vars[j]?=some (.val v)):
  ∃o w,s.heap.get? cc=some o/\o.data=.cell (some w)/\jf Φ ρ v w/\Φ cc=none/\C.jO cc=none/\Rel B C (Gh.set Φ cc o) ρ {σ with vars:=σ.vars.set j (.o7 v)} s:=by
 have hc:=r.cells j x cc hj;rw[hv] at hc;obtain⟨f1,f2,w,⟨o,ho,hd⟩,hw⟩:=hc;have le:Gh.Le Φ (Gh.set Φ cc o):=Gh.mj f1;have e:Ext Φ ρ (Gh.set Φ cc o) ρ:=⟨le,aY _⟩;have other:∀b,b≠cc->Gh.set Φ cc o b=Φ b:=fun b h=>if_neg h;obtain⟨J7,Cw,Cq⟩:=r.apart;have hcc:=jE hj;have hlt:j<σ.vars.length:=(au.mp hv).1
 refine⟨o,w,ho,hd,hw,f1,f2,⟨fun b o q=>le _ _ (r.base b o q),fun b o' q=>?_,r.jO,?_,fun i y c q=>?_,fun i y c u q1 q2=>?_,fun i y c q=>(r.nG i y c q).imp id fun h=>?_,r.kT,r.len,fun i o a q1 q2=>(r.objs i o a q1 q2).mono e fun Y q=>q,
  fun b hb=>?_,fun i b q1 q2=>?_,r.nodup,by simpa using r.vars,fun P hP=>?_,r.gens,r.os,r.le⟩⟩
 .unfold Gh.set at q;split at q
  .rename_i hb;cases q;refine R1 hb ?_;exact ho
  .exact r.keep _ _ q
 .obtain⟨m,h1,h2⟩:=r.ns;refine⟨m,h1,fun i y u q1 q2=>?_⟩;have hij:i≠j:=fun q=>by subst q;rw[hj] at q1;cases q1
  rw[aJ (Ne.symm hij)] at q2;obtain⟨w,e1,e2⟩:=h2 i y u q1 q2;exact⟨w,e1,e2.mono e⟩
 .by_cases hij:i=j
  .subst hij;rw[hj] at q;cases q;show nF _ _ _ _ _ (σ.vars.set i (.o7 v))[i]?;refine R1 (bk hlt) ?_;exact⟨o,w,Gh.jQ _ _ _,hd,hw.mono e⟩
  .have hne:c≠cc:=fun q'=>by subst q';exact hij (oH r.sy q hj)
   show nF _ _ _ _ _ (σ.vars.set j (.o7 v))[i]?;refine R1 (aJ (Ne.symm hij)) ?_;exact(r.cells i y c q).mono e fun e1 e2 Y=>⟨(other c hne).trans e1,e2,fun Y h=>h⟩
 .have hij:i≠j:=fun q=>by subst q;rw[hj] at q1;cases q1
  rw[aJ (Ne.symm hij)] at q2;obtain⟨w,e1,e2⟩:=r.uN i y c u q1 q2;exact⟨w,e1,e2.mono e⟩
 .obtain⟨o',ho'⟩:=a8.mp h;exact R1 (le _ _ ho') rfl
 .have hne:b≠cc:=fun q=>by
   subst q;rcases av.mp hb with q | hb
   .exact(Cw _ hcc).1 q.symm
   .obtain⟨p,hp,q⟩:=bg.mp hb;exact(Cw _ hcc).2 p hp q
  exact⟨(other b hne).trans (r.own b hb).1,(r.own b hb).2⟩
 .have hne:b≠cc:=fun q=>by subst q;exact(Cq b (aP q1)).2.2 b hcc rfl
  exact⟨(other b hne).trans (r.live i b q1 q2).1,(r.live i b q1 q2).2⟩
 .obtain⟨⟨ps,t1,t2,t3⟩,t4,t5,t6⟩:=r.tabs P hP;have hPa:P≠cc:=fun q=>t6 (q▸ai _ (aj _ hcc));exact⟨⟨ps,t1,t2,fun pos cv q c1 c2=>(t3 pos cv q c1 c2).mono le⟩,(other P hPa).trans t4,t5,t6⟩
theorem Rel.Di(r:Rel B C Φ ρ σ s){P c':hM}{oc:Obj}(hP:P∈([87,177]:List hM))(hx:ib.ExtBut P s.heap s'.heap)(hc:s.heap.get? c'=none)(hoc:s'.heap.get? c'=some oc)(ht:TabAt (Gh.set Φ c' oc) s'.heap P)
  (hg:s'.gens=s.gens) (hos:s'.os=s.os):Rel B C (Gh.set Φ c' oc) ρ σ s'/\∀ψ,ψ c'=none->Step ψ s Φ ρ s' (Gh.set Φ c' oc) ρ:=by
 have f1:=r.none_of hc;have le:Gh.Le Φ (Gh.set Φ c' oc):=Gh.mj f1;have e:Ext Φ ρ (Gh.set Φ c' oc) ρ:=⟨le,aY _⟩;have other:∀b,b≠c'->Gh.set Φ c' oc b=Φ b:=fun b h=>if_neg h;obtain⟨⟨ps,t1,t2,t3⟩,t4,t5,t6⟩:=r.tabs P hP;have AR:∀b,b∈C.mine ρ->b≠P:=fun b hb q=>t6 (q▸hb);have KC:∀b,b∈C.mine ρ->b≠c':=fun b hb q=>by obtain⟨o,ho⟩:=r.there hb;rw[q,hc] at ho;cases ho
 have off:∀b,b∈C.mine ρ->Φ b=none->Gh.set Φ c' oc b=none:=fun b hb h=>(other b (KC b hb)).trans h;have kk:∀b o,b≠P->s.heap.get? b=some o->s'.heap.get? b=some o:=fun b o h q=>hx b o h q;have Hu:∀{a m},a≠P->s.heap.Ns a m->s'.heap.Ns a m:=fun h ⟨o,es,ep,q1,q2⟩=>⟨o,es,ep,kk _ _ h q1,q2⟩
 refine⟨⟨fun b o q=>le _ _ (r.base b o q),fun b o' q=>?_,fun b o q=>kk _ _ (fun h=>by rw[h,t5] at q;cases q) (r.jO b o q),?_,fun i y c q=>?_,fun i y c u q1 q2=>?_,fun i y c q=>(r.nG i y c q).imp id fun h=>?_,
  fun p hp=>Hu (AR _ (ai _ (ai _ (ad _ (aQ hp))))) (r.kT p hp),r.len,fun i o a q1 q2=>(r.objs i o a q1 q2).mono e fun Y q=>kk _ _ (AR a (aj _ (aP q2))) q,
  fun b hb=>⟨off b (ai _ (ai _ hb)) (r.own b hb).1,(r.own b hb).2⟩,fun i b q1 q2=>⟨off b (aj _ (aP q1)) (r.live i b q1 q2).1,(r.live i b q1 q2).2⟩,r.nodup,r.vars,fun P' hP'=>?_,hg▸r.gens,hos.trans r.os,r.le⟩,
  fun ψ xx=>⟨e,fun Y Y q=>by refine R1 hg ?_;exact q,fun b o' q=>?_,fun Y h=>.inl h⟩⟩
 .unfold Gh.set at q;split at q
  .rename_i hb;cases q;refine R1 hb ?_;exact hoc
  .exact kk _ _ (fun h=>by rw[h,t4] at q;cases q) (r.keep _ _ q)
 .obtain⟨m,h1,h2⟩:=r.ns;exact⟨m,Hu (AR _ (ai _ (ai _ ac))) h1,fun i x v q1 q2=>let ⟨w,e1,e2⟩:=h2 i x v q1 q2;⟨w,e1,e2.mono e⟩⟩
 .have hm:c∈C.mine ρ:=ai _ (aj _ (jE q));exact(r.cells i y c q).mono e fun e1 e2 Y=>⟨off c hm e1,e2,fun o h=>kk c o (AR c hm) h⟩
 .obtain⟨w,e1,e2⟩:=r.uN i y c u q1 q2;refine⟨w,kO e1 fun o=>kk _ _ fun h=>?_,e2.mono e⟩;rcases r.x6 q1 with q | q
  .rw[h,t5] at q;cases q
  .rw[h,t4] at q;cases q
 .obtain⟨o',ho'⟩:=a8.mp h;exact R1 (le _ _ ho') rfl
 .obtain⟨⟨ps',u1,u2,u3⟩,u4,u5,u6⟩:=r.tabs P' hP';have OJ:P'≠c':=fun q=>by rw[q,hc] at u1;cases u1
  refine⟨?_,(other P' OJ).trans u4,u5,u6⟩;by_cases hPP:P'=P
  .refine R1 hPP ?_;exact ht
  .exact⟨ps',kk _ _ hPP u1,u2,fun pos cv q c1 c2=>(u3 pos cv q c1 c2).mono le⟩
 .unfold Gh.set at q;split at q
  .rename_i hb;refine R1 hb ?_;exact .inr xx
  .exact .inl q
noncomputable def P.def1(k j:Nat)(f:V->P Unit): P AF:=fun σ=>match σ.vars[j]? with
 |some (.val v)=>match f (.clo k [v]) {σ with vars:=σ.vars.set j (.o7 v)} with
  |.ok _ σ'=>.ok .next σ'
  |_=>.stuck
 |_=>.stuck
theorem IZ{name qual x:Str}{params:Arguments}{body:List Stmt}{scope:Scope}{fl:Nat}{k:Nat}{cc:hM}{c TB:hM}{w:g8}{o:Obj}{v:V}(K:C.Ok d)(hcode:C.env.code=.ref c)(hcd:CodeHd B.h0 c TB)(hP:TB∈([87,177]:List hM))
  (hcl:pj k=some ⟨name,qual,params,body,scope,[x]⟩) (hq:qF pos.line pos.col=some qual) (hclos:closureFor scope C.env=pure [(x,cc)])
  (r:Rel B C Φ ρ σ s) (hcell:Φ cc=some o) (hod:o.data=.cell (some w)) (hw:jf Φ ρ v w) {Q:g8->g9->Prop} {E:g8->g9->Prop}
  (hQ:∀jh s' a,(∀ψ,Gh.Le ψ C.jO->Step ψ s Φ ρ s' jh ρ)->Rel B C jh ρ σ s'->jf jh ρ (.clo k [v]) (.ref a)->Q (.ref a) s') :
  hZ (M B) C.A (makeFunction name qual params (.stmts body) scope C.env [] [] [] pos fl) Q E s:=by
 obtain⟨⟨ps,t1,t2,t3⟩,t4,t5,t6⟩:=r.tabs TB hP
 have DT:∀(pos':Pos) q,qF pos'.line pos'.col=some q->(pos'.line:Int)=pos.line->(pos'.col:Int)=pos.col->q=qual:=fun pos' q e1 e2 e3=>by rw[et.inj e2,et.inj e3,hq] at e1;cases e1;rfl
 have kb:=fun b o q=>r.keep b o (r.base b o q);have hgs:=B.g.keeps kb;obtain⟨bm,ob,b1,b2,b3,b4,b5,b6⟩:=B.bmain
 have hgP:iD≠TB:=fun q=>by obtain⟨o,es,ep,e,hd,_⟩:=B.g;have:=r.base _ _ e;rw[q,t4] at this;cases this
 have hbP:bm≠TB:=fun q=>by have:=r.base _ _ b3;rw[q,t4] at this;cases this
 have hbG:bm≠iD:=fun q=>by obtain⟨o,es,ep,e,hd,_⟩:=B.g;rw[q,e] at b3;cases b3;rw[hd] at b6;cases b6
 have hb:s.heap.BuiltinsAt B.mg TB:=⟨bm,ob,b1,b2,hbG,hbP,kb _ _ b3,b4,b5,b6⟩
 have zM:∀{ψ:Gh},Gh.Le ψ C.jO->∀b,s.heap.get? b=none->ψ b=none:=fun{ψ} le b h=>by
  cases q:ψ b with
  |none=>rfl
  |some o=>have:=r.jO _ _ (le _ _ q);rw[h] at this;cases this
 cases hca:codeAmong pos ps.toList with
 |some cv=>
  have hcv:=t3 pos cv qual hq hca;refine makeFunction_hit (mg:=B.mg) hclos K.globals hgs hcode (hcd.keeps kb) t1 t2 hca hb fun ctv doc h' tk hk hsz=>?_;have r1:Rel B C Φ ρ σ {s with heap:=h',toks:=tk}:=r.grow hk r.gens rfl;obtain⟨q1,q2⟩:=r1.push (o:={cls:=.type "function",data:=.func (fnX name qual params body scope [(x,cc)] .none .none doc ((B.mg "__name__").getD .none) none cv ctv)}) rfl tk;have hn:s.heap.get? h'.objs.size=none:=ib.get?_none_of_le hsz;refine hQ _ _ _ (fun ψ le=>?_) q1 (.clo (Gh.jQ _ _ _) hcl rfl (hcv.mono q2.ext.1) rfl (.cons (q2.ext.1 _ _ hcell) hod (hw.mono q2.ext) .nil));refine⟨q2.ext,fun Y Y e=>e,fun b o' e=>?_,fun Y h=>.inl h⟩;unfold Gh.set at e;split at e
  .rename_i q;refine R1 q ?_;exact .inr (zM le _ hn)
  .exact .inl e
 |none=>
  refine makeFunction_K (mg:=B.mg) hclos K.globals hgs hcode (hcd.keeps kb) t1 t2 hca hgP hb fun c' ctv doc h' tk hx hge hlt hrec htb=>?_;obtain⟨P1,oc,vs,t,e2,hoc,hd,hv⟩:=hrec;cases e2;have hcn:s.heap.get? c'=none:=ib.get?_none_of_le hge;have mV:n9 (Gh.set Φ c' oc) (.ref c') qual:=⟨c',oc,vs,t,rfl,Gh.jQ _ _ _,hd,hv⟩;have le1:Gh.Le Φ (Gh.set Φ c' oc):=Gh.mj (r.none_of hcn)
  obtain⟨r1,st1⟩:=r.Di (s':={s with heap:=h',toks:=tk}) hP hx hcn hoc ⟨_,htb,by refine R1 cy ?_;exact TriplesOk_snoc _ _ _ _ t2,fun pos' M3 q' g1 g2=>by
   rw[cy] at g2;rcases qq _ t2 g2 with g | ⟨g,g',rfl⟩
   .exact(t3 pos' M3 q' g1 g).mono le1
   .refine R1 (DT pos' q' g1 g g') ?_;exact mV⟩ rfl rfl
  obtain⟨q1,q2⟩:=r1.push (o:=fnMade name qual params body scope [(x,cc)] doc ((B.mg "__name__").getD .none) c' ctv) rfl tk;have hsz:s.heap.objs.size<=h'.objs.size:=ab hge (aG hlt);have hn:s.heap.get? h'.objs.size=none:=ib.get?_none_of_le hsz;refine hQ _ _ _ (fun ψ le=>?_) q1 (.clo (Gh.jQ _ _ _) hcl rfl (mV.mono q2.ext.1) rfl (.cons (q2.ext.1 _ _ (le1 _ _ hcell)) hod ((hw.mono ⟨le1,aY _⟩).mono q2.ext) .nil));refine(st1 ψ (zM le _ hcn)).trans ⟨q2.ext,fun Y Y e=>e,fun b o' e=>?_,fun Y h=>.inl h⟩;unfold Gh.set at e;split at e
  .rename_i q;refine R1 q ?_;exact .inr (zM le _ hn)
  .exact .inl e
set_option tactic.hygienic true in
theorem v7{name qual x:Str}{params:Arguments}{body:List Stmt}{scope:Scope}{k j:Nat}{cc c TB:hM}{f:V->P Unit}(K:C.Ok d)(hcode:C.env.code=.ref c)(hcd:CodeHd B.h0 c TB)(hP:TB∈([87,177]:List hM))
  (hcl:pj k=some ⟨name,qual,params,body,scope,[x]⟩) (hqn:qualnameIn C.env name name=qual) (hq:qF pos.line pos.col=some qual) (hj:slotIn nums C.slots x=some (j,.cell cc)) (hclos:closureFor scope C.env=pure [(x,cc)])
  (hd0:params.defaults=[]) (hk0:params.kw_defaults=[]) (ha:annTrees params none C.env=[])
  (hst:∀iS iT v w,Ext iQ iP iS iT->jf iS iT v w->jm B C iS iT TR (storeName C.env name w) (f v)) :
  jm B C iQ iP FR (exec (.FunctionDef name params body [] none [] scope none name pos) C.env) (P.def1 k j f):=by
 intro Φ ρ σ s e r;unfold P.def1;split
 .rename_i v hv;split
  .rename_i u σ' hf;obtain⟨o,w,ho,hod,hw,f1,f2,r1⟩:=r.GL (slot_get hj) hv;have le1:Gh.Le Φ (Gh.set Φ cc o):=Gh.mj f1
   have st0:∀ψ,Gh.Le ψ C.jO->Step ψ s Φ ρ s (Gh.set Φ cc o) ρ:=fun ψ le=>⟨⟨le1,aY _⟩,fun Y Y e=>e,fun b o' q=>by
    unfold Gh.set at q;split at q
    .rename_i hb;refine R1 hb ?_;refine .inr ?_;cases q:ψ cc with
     |none=>rfl
     |some o=>rw[le _ _ q] at f2;cases f2
    .exact .inl q,fun Y h=>.inl h⟩
   show hZ (M B) C.A _ (Post B C Φ ρ s FR σ' .next) (fun Y Y=>False) s;refine nestDef_K hd0 hk0 ha ?_;refine R1 hqn ?_;refine IZ K hcode hcd hP hcl hq hclos r1 (Gh.jQ _ _ _) hod (hw.mono ⟨le1,aY _⟩) fun jh s' a st r' hv'=>?_;have h1:=hst jh ρ (.clo k [v]) (.ref a) (e.trans ((st0 C.jO (.refl _)).trans (st C.jO (.refl _))).ext) hv' jh ρ _ s' (.refl _ _) r';rw[hf] at h1;refine hV h1 (fun Y s'' q=>?_) fun Y Y q=>q;obtain⟨iS,iT,q1,q2,_⟩:=q;exact⟨iS,iT,((st0 C.jO (.refl _)).trans (st C.jO (.refl _))).trans q1,q2,.next⟩
  .trivial
 .trivial
end
section
variable{B:Base}{C D:Ctx}{Φ jh iQ iS:Gh}{ρ ρ' iP iT jv:List hM}{σ σ' Ph:AS}{s s' s₁ Pg:g9}{d:Nat}{ψ jw:Gh}{A:ig}{m:Str->Option g8}
noncomputable def pR(Cl:Cu)(cl:List (Str×hM))(L a:hM)(cd:g8): Env:=newEnv Cl.scope L iD cl (Cl.qual++ ".<locals>.") (some a) cd none builtinsNs
noncomputable def nw(ys:List Str)(x:Str)(cc:hM): List (Str×Loc):=ys.map (fun y=>(y,Loc.loc))++[(x,.ro cc)]
noncomputable def rB(Cl:Cu)(ys:List Str)(x:Str)(cc L a:hM)(cd:g8)(kT:List (hM×(Str->Option g8)))(A:ig): Ctx:=
 {env:=pR Cl [(x,cc)] L a cd,slots:=nw ys x cc,kT,jO:=fun Y=>none,ms:=fun Y=>none,A}
noncomputable abbrev xm(Cl:Cu)(x y:Str):=rB Cl [y] x
noncomputable abbrev Bg(C:Ctx)(Cl:Cu)(ys:List Str)(x:Str)(cc a:hM)(cd:g8)(m:Str->Option g8)(h:ib): Ctx:=
 C.inner (pR Cl [(x,cc)] h.objs.size a cd) (nw ys x cc) (Gh.add C.jO h (cellsOf C.slots)) (C.A.deeper (pR Cl [(x,cc)] h.objs.size a cd)) m h
structure uG(Cl:Cu)(ys:List Str)(x:Str): Prop where
 kind:Cl.scope.kind=.function
 co:Cl.scope.isCoroutine=false
 ge:Cl.scope.isGenerator=false
 cell:Cl.scope.names.all (fun z=>decide (z.2≠.cell))=true
 free:Cl.free=[x]
 nd:qI (ys++[x])=true
 loc:ys.all (fun y=>Cl.scope.names.lookup y == some .local)=true
 x1:Cl.scope.names.lookup x=some .free
 x2:(x == ("__classdict__" : Str))=false
theorem se{ys:List Str}{x z:Str}{cc:hM}{i:Nat}{l:Loc}(h:(nw ys x cc)[i]?=some (z,l)): (l=.loc/\ys[i]?=some z)\/(i=ys.length/\z=x/\l=.ro cc):=by
 unfold nw at h;by_cases hi:i<ys.length
 .rw[aH ((ak _).symm▸hi),aN] at h;obtain⟨y,hy,e⟩:=aV.mp h;cases e;exact .inl ⟨rfl,hy⟩
 .have hlt:=(au.mp h).1;rw[ar,ak] at hlt;obtain rfl:i=ys.length:=cJ (bz hlt) (cr hi);rw[bh (aE (ak _)),ak,dE] at h;cases h;exact .inr ⟨rfl,rfl,rfl⟩
theorem uG.locs{Cl:Cu}{ys:List Str}{x y:Str}(O:uG Cl ys x)(h:y∈ys): Cl.scope.names.lookup y=some .local:=eq_of_beq (bl.mp O.loc y h)
theorem EA{Cl:Cu}{ys:List Str}{x:Str}{cc a:hM}{cd:g8}{h:ib}(K:C.Ok (d+1))(O:uG Cl ys x): (Bg C Cl ys x cc a cd m h).Ok d where
 kind:=O.kind
 link:=fun i z l q=>(se q).elim (fun q=>by
   obtain⟨rfl,q'⟩:=q;exact O.locs (aP q')) fun q=>by
   obtain⟨-,rfl,rfl⟩:=q;exact⟨.inr ⟨O.x1,O.x2⟩,by show [(z,cc)].lookup z=some cc;exact R1 bv (R1 (beq_self_eq_true ..) rfl)⟩
 names:=by show((nw ys x cc).map (·.1)).Nodup;unfold nw;refine R1 aS (R1 bA ?_);exact(fx ys).symm▸j7 O.nd
 globals:=rfl
 builtins:=rfl
 depth:=sI (c:=1) (n:=0) K.depth (by decide)
 units:=sI (c:=3) K.units (by decide)
 frames:=by obtain⟨envs,f1,f2⟩:=K.frames;refine⟨pR Cl [(x,cc)] h.objs.size a cd::envs,by show C.A.frames.map _=_;exact R1 f1 rfl,an.mpr ⟨⟨O.kind,_,rfl,.head _⟩,fun e he=>?_⟩⟩;obtain⟨p1,L',p2,p3⟩:=f2 e he;exact⟨p1,L',p2,.tail _ p3⟩
 ms:=.refl _
theorem EB{Cl:Cu}{ys:List Str}{x:Str}{cc a:hM}{cd:g8}{h:ib}(K:C.Ok d): (Bg C Cl ys x cc a cd m h).mT where
 fr:=by obtain⟨envs,f1,f2⟩:=K.frames;exact⟨envs,by show C.A.frames.map _=_;exact R1 f1 rfl⟩
 L:=rfl
theorem nD.one{v:V}{c:hM}(h:nD Φ ρ [v] [c]): ∃o w,Φ c=some o/\o.data=.cell (some w)/\jf Φ ρ v w:=by
 cases h with
 |cons g1 g2 g3 _=>exact⟨_,_,g1,g2,g3⟩
theorem FT{x:Str}: ∀{cells:List (Str×hM)},cells.map (·.1)=[x]->∃c,cells=[(x,c)]
 |[(y,c)],h=>by cases h;exact⟨c,rfl⟩
theorem to{Cl:Cu}{k:Nat}{x:Str}{ys xs:List Str}{a:hM}{v:V}{us:List V}{ws:List g8}{iv:List Slot}{pb:P AF}(K:C.Ok (d+1))(hcl:pj k=some Cl)(O:uG Cl ys x)
  (hbind:∀cells doc pm cd ctv,bindArgs (fnX Cl.name Cl.qual Cl.params Cl.body Cl.scope cells .none .none doc pm none cd ctv) ⟨ws,[]⟩=pure (xs.zip ws)) (hxs:∀z∈xs,z∈ys)
  (hv:jf iQ iP (.clo k [v]) (.ref a)) (hu:ja iQ iP us ws) (hiv:jy ys xs us++[.val v]=iv)
  (hb:∀cc L cd kT A ψ iS iT,Ext iQ iP iS iT->(∀b o,C.jO b=some o->ψ b=some o)->(∀ψ,((rB Cl ys x cc L a cd kT A).at ψ).Ok d)->(rB Cl ys x cc L a cd kT A).mT->A.handled=C.A.handled->jm B ((rB Cl ys x cc L a cd kT A).at ψ) iS iT FR (iE Cl.body (pR Cl [(x,cc)] L a cd)) pb) :
  jm B C iQ iP VR (call (.ref a) ws []) (P.fn iv pb):=by
 intro Φ ρ σ s e r;subst hiv;have hu:=hu.mono e;obtain⟨m,hn,hm⟩:=r.ns;obtain⟨a',o,C',cells,doc,pm,cd,ctv,e0,h1,h2,h3,h4,h5,h6⟩:=(hv.mono e).kG;injection e0 with e0
 subst e0;obtain rfl:C'=Cl:=aq.inj (h2.symm.trans hcl);obtain⟨cc,rfl⟩:=FT (h5.trans O.free);obtain⟨oc,wc,g1,g2,g3⟩:=h6.one;have Kc:(Bg C C' ys x cc a cd m s.heap).Ok d:=EA K O;have Fc:(Bg C C' ys x cc a cd m s.heap).mT:=EB K;refine un r hm Kc Fc rfl (hb cc s.heap.objs.size cd _ _ _ Φ ρ e r.pH (fun ψ=>Kc.at ψ) ⟨Fc.fr,Fc.L⟩ rfl) fun{Q E} h=>?_
 have code:s.heap.CodeRec cd C'.qual:=by obtain⟨M4,Om,fs,tq,q1,q2,q3,q4⟩:=h4;exact⟨M4,Om,fs,tq,q1,r.keep _ _ q2,q3,q4⟩
 refine wpAny_call (codeAny_call_function (ag (ay _ _) K.depth) (r.keep _ _ h1) h3 O.co O.ge rfl code ?_);refine R1 (hbind ..) ?_;refine hO (wpAny_newFunctionEnv (fun z hz=>of_decide_eq_true (bl.mp O.cell z hz)) (fun z hz=>O.locs (hxs _ (ds hz).1)) (fun h' hns hsb=>⟨(r.noLimit).fresh _ hsb,codeAny_func ?_⟩) O.kind);have hkeep:∀b o,s.heap.get? b=some o->h'.get? b=some o:=fun b o q=>hsb.extBut b o (aK (ib.lt_size q)) (ib.get?_push_of_some _ q);have hlen:(jy ys xs us).length=ys.length:=ak _;refine h {s with heap:=h',toks:=s.toks+(xs.zip ws).length} (r.enterX rfl hn hkeep hns rfl rfl ?_ fun i z l q=>?_) fun ψ=>.same rfl
 .unfold nw;exact R1 ar (R1 ar (R1 hlen (R1 (ak ..) rfl)))
 .rcases se q with ⟨rfl,q'⟩ | ⟨rfl,rfl,rfl⟩
  .refine .loc fun v' e'=>?_;have e':(ys[i]?).map _=some (Slot.val v'):=((aN ..).symm.trans (aH (hlen.symm▸(au.mp q').1)).symm).trans e';rw[q'] at e';have hz:=qT (x:=z) (xs:=xs) hu;replace e':(match (xs.zip us).reverse.lookup z with | some v=>Slot.val v | none=>.unset)=.val v':=aq.inj e';cases hq:(xs.zip us).reverse.lookup z with
   |none=>rw[hq] at e';cases e'
   |some v''=>
    rw[hq] at e' hz;cases e';exact hz
  .refine .ro cc (.inr (by exact R1 g1 rfl)) fun v' e'=>?_
   have e2:(jy ys xs us++[Slot.val v])[ys.length]?=some (.val v):=by refine R2 hlen ?_;exact bf
   cases e2.symm.trans e';exact⟨wc,⟨oc,hkeep _ _ (r.keep _ _ g1),g2⟩,g3⟩
end
section
variable{B:Base}{C D:Ctx}{Φ jh iQ iS:Gh}{ρ ρ' iP iT jv:List hM}{σ σ' Ph:AS}{s s' s₁ Pg:g9}{d:Nat}{ψ jw:Gh}{A:ig}{m:Str->Option g8}{pos:Pos}
theorem xC(P:Params)(h:Int)(tk:Tok)(p:hM): findObj (hd.heap_1 P) 80 (some (Obj.putName "pq" h (.str "pq" tk) (.ref p) iL)) "pq" = some (.value (.ref p)):=by rfl
theorem sH(P:Params): findIn (hd.heap_1 P) (.ref 80) "__getattribute__" = some (some (.builtin "object.__getattribute__")):=by rfl
theorem xD(P:Params): findIn (hd.heap_1 P) (.ref 80) "__getattr__" = some none:=by rfl
theorem rD{a dx:hM}{od:Obj}(r:Rel B C Φ ρ σ s)(h1:Φ a=some (instObj 80 dx))(h2:Φ dx=some od): InstAt s.heap a (instObj 80 dx) 80 (some od):=⟨r.keep _ _ h1,rfl,rfl,r.keep _ _ h2⟩
noncomputable def P.pq:V->P V
 |.work n=>P.pure (.ref n)
 |_=>P.stuck
theorem CV{x:Str}{np:Pos}{p:P V}(h:jm B C iQ iP VR (iF (.Name x np) C.env) p): jm B C iQ iP VR (iF (.Attribute (.Name x np) "pq" pos) C.env) (P.bind p P.pq):=by
 refine mG (f:=fun o=>getAttr o "pq" true) h (fun Φ ρ σ s Y r Q E k=>Attribute_name (hV k (fun o s₁ q=>q.2) fun Y Y q=>q)) fun iS iT v w e hv=>?_;intro Φ ρ σ s x r;have hv:=hv.mono x;unfold P.pq;cases hv with
 |work h1 h2 h3=>exact get_value r.xw (rD r h1 h2) (sH _) (xC _ _ _ _) rfl ⟨Φ,ρ,.same rfl,r.toks _,.ref h3⟩
 |_=>trivial
theorem pz(P:Params): findIn (hd.heap_1 P) (.ref 80) "add" = some (some (.ref 63)):=by rfl
theorem BA(P:Params): findIn (hd.heap_1 P) (.ref 80) "get" = some (some (.ref 70)):=by rfl
theorem By(P:Params): findIn (hd.heap_1 P) (.ref 80) "rows" = some (some (.ref 77)):=by rfl
noncomputable def qL:V->Bool
 |.work _=>true
 |_=>false
theorem ll{x:Str}{np apos:Pos}{name:Str}{fa:hM}{fd:iG}{args:List iB}{p:P V}{ps:P (List V)}{F:V->List V->P V}(h:jm B C iQ iP VR (iF (.Name x np) C.env) p)
  (hargs:jm B C iQ iP uW (ix (il pos (ie args C.env))) ps) (hm:∀P,findIn (hd.heap_1 P) (.ref 80) name=some (some (.ref fa))) (ht:∀P,typeIn (hd.heap_1 P) (.ref fa)=some (.type "function"))
  (hsh:∀h tk p,shadowIn (some (Obj.putName "pq" h (.str "pq" tk) (.ref p) iL)) name=some false)
  (hfd:∃o,B.h0.get? fa=some o/\o.data=.func fd)
  (hcall:∀iS iT v w vs ws,Ext iQ iP iS iT->jf iS iT v w->ja iS iT vs ws->jm B C iS iT VR (call (.ref fa) (w::ws) []) (F v vs))
  (hbase:autoParam (attributeBase (.Name x np) name C.env (iF (.Name x np) C.env)=iF (.Name x np) C.env) PySem.W.call_K._auto_4)
  (hfew:autoParam (((il pos (ie args C.env)).all (fun x=>!x.1)&&(backToKw pos (iq [] C.env)).all (fun x=>x.1.isSome)
&&decide (args.length+([]:List Keyword).length+(if([]:List Keyword).isEmpty then 0 else 1)<30))=true) PySem.W.call_K._auto_4)
  (hline:autoParam ((apos.endLine == pos.line)=true) PySem.W.call_K._auto_4) (ht':autoParam ((il pos (ie args C.env)).any (·.1)=false) PySem.W.call_K._auto_4) :
  jm B C iQ iP VR (iF (.Call (.Attribute (.Name x np) name apos) args [] pos) C.env) (P.bind p fun v σ=>if qL v then P.bind ps (F v) σ else .stuck):=by
 intro Φ ρ σ s e r;have h1:=h Φ ρ σ s e r;obtain⟨Ol,Jj,Jn⟩:=hfd;have hform:methodCallForm (args.length+([]:List Keyword).length) (il pos (ie args C.env)) (backToKw pos (iq [] C.env))=true:=hfew;have hpos:methodCallPos true (.Name x np) C.env apos pos=pure pos:=by unfold methodCallPos;simp[hline]
 unfold P.bind;generalize p σ=R at h1 ⊢;cases R with
 |stuck=>trivial
 |exc Pi=>
  refine R1 (arm_eval_Call ..) (R1 hbase ?_);exact g7 (hV h1 (fun Y Y q=>q.elim) fun Y Y q=>q)
 |ok v Pi=>
  dsimp only;cases hw:qL v with
  |false=>trivial
  |true=>
   simp only[if_true]
   have key:∀w s₁,Post B C Φ ρ s VR Pi v w s₁->(∀(pl:Sem Bool) (Q:g8×List g8->g9->Prop) (E:g8->g9->Prop),Q (.ref fa,[w]) s₁->hZ (M B) C.A (getMethod w name pl) Q E s₁)/\
     kZ B C Φ ρ s VR (callWith pos (.ref fa) [w] (il pos (ie args C.env)) []) s₁ (P.bind ps (F v) Pi):=by
    rintro w s₁ ⟨jh,ρ',q1,q2,q3⟩;refine⟨fun pl Q E hQ=>?_,kZ.trans q1 (q1.jO q2.le) ?_⟩
    .cases q3 with
     |work g1 g2 g3=>exact method_fn q2.xw (rD q2 g1 g2) (sH _) (xD _) (hm _) (ht _) (hsh _ _ _) hQ
     |_=>cases hw
    .have:jm B C jh ρ' VR (callWith pos (.ref fa) [w] (il pos (ie args C.env)) []) (P.bind ps (F v)):=by refine mG (f:=fun ws=>call (.ref fa) (w::ws) []) (hargs.weaken (e.trans q1.ext)) (fun Φ ρ σ s Y r Q E h=>Bf (B:=B) Jj Jn _ _ _ [w] _ _ _ ht' (hV h (fun Y Y q=>⟨?_,q.2⟩) fun Y Y q=>q)) (fun kF jv vs ws e' hv=>hcall kF jv v w vs ws ((e.trans q1.ext).trans e') (q3.mono e') hv);obtain⟨⟨jh,ρ',σ',_,r'⟩,_⟩:=q;exact fun b o q=>r'.keep _ _ (r'.base b o q)
     exact this jh ρ' Pi s₁ (.refl _ _) q2
   have main:∀{Q:g8->g9->Prop} {E:g8->g9->Prop},(∀w s₁,Post B C Φ ρ s VR Pi v w s₁->(∀(pl:Sem Bool) (Q:g8×List g8->g9->Prop) (E:g8->g9->Prop),Q (.ref fa,[w]) s₁->hZ (M B) C.A (getMethod w name pl) Q E s₁)/\
     hZ (M B) C.A (callWith pos (.ref fa) [w] (il pos (ie args C.env)) []) Q E s₁)->hZ (M B) C.A (iF (.Call (.Attribute (.Name x np) name apos) args [] pos) C.env) Q E s:=fun h=>by
    refine R1 (arm_eval_Call ..) (R1 hbase ?_);refine g7 (hV h1 (fun w s₁ q=>?_) fun Y Y q=>q.elim);refine g7 (ic ?_);unfold methodCall;refine R1 hform ?_;refine g7 (ik ((h w s₁ q).1 _ _ _ ?_));exact g7 (wpAny_of_eq hpos (h w s₁ q).2)
   change kZ B C Φ ρ s VR _ s (P.bind ps (F v) Pi);cases hr:P.bind ps (F v) Pi with
   |stuck=>trivial
   |ok v' Ph=>simp only[hr] at key;exact main key
   |exc Ph=>simp only[hr] at key;exact main key
end
section
variable{B:Base}{C D:Ctx}{Φ jh iQ iS:Gh}{ρ ρ' iP iT jv:List hM}{σ σ' Ph:AS}{s s' s₁ Pg:g9}{d:Nat}{ψ jw:Gh}{A:ig}{m:Str->Option g8}{pos:Pos}
theorem Rel.Ha(r:Rel B C Φ ρ σ s){pa:hM}{ao:AO}(hn:s.heap.get? pa=none)(hk:Grows s.heap s'.heap)(hg:s'.gens=s.gens)(hos:s'.os=s.os)(hr:∀ρ',Ext Φ ρ Φ ρ'->uX B Φ ρ' s'.heap ao pa):
  Rel B C Φ (ρ++[pa]) {σ with heap:=σ.heap++[ao]} s'/\Step C.jO s Φ ρ s' Φ (ρ++[pa]):=by
 have off:=r.lq hn;have e:Ext Φ ρ Φ (ρ++[pa]):=⟨.refl _,fS _ _⟩;have r':Rel B C Φ ρ σ s':=r.grow hk (hg▸r.gens) hos;refine⟨⟨r'.base,r'.keep,r'.jO,?_,fun i x c q=>?_,fun i x c v q1 q2=>?_,r'.nG,r'.kT,by simp[r.len],fun i o' a q1 q2=>?_,r'.own,fun i a q1 q2=>?_,?_,r'.vars,fun P hP=>?_,r'.gens,r'.os,r'.le⟩,e,fun Y Y q=>by refine R1 hg ?_;exact q,fun Y Y q=>.inl q,fun a ha=>?_⟩
 .obtain⟨m,h1,h2⟩:=r'.ns;exact⟨m,h1,fun i x v q1 q2=>let ⟨w,e1,e2⟩:=h2 i x v q1 q2;⟨w,e1,e2.mono e⟩⟩
 .exact(r'.cells i x c q).mono e fun e1 e2 Y=>⟨e1,e2,fun Y h=>h⟩
 .obtain⟨w,e1,e2⟩:=r'.uN i x c v q1 q2;exact⟨w,e1,e2.mono e⟩
 .rcases dB i σ.heap.length with h | h | h
  .rw[aH h] at q1;rw[aH (r.len▸h)] at q2;exact(r'.objs i o' a q1 q2).mono e fun Y e=>e
  .subst h;rw[←r.len,bf] at q2;simp only[bf,aq.injEq] at q1 q2;subst q1 q2;exact hr _ e
  .rw[cm (by simp;exact f0 h)] at q1;cases q1
 .rcases di i ρ.length with h | h
  .rw[aH h] at q1;rw[aH (r.len▸h)] at q2;exact r'.live i a q1 q2
  .have hi:i<(ρ++[pa]).length:=(au.mp q1).1;have:i=ρ.length:=by simp at hi;exact Nat.eq_of_le_of_lt_succ h hi
   subst this;simp only[bf,aq.injEq] at q1;subst q1;exact⟨off.1,off.2.1⟩
 .show(C.own++cellsOf C.slots++(ρ++[pa])).Nodup;refine R2 (ax ..) ?_;exact tE r.nodup off.2.2.1
 .obtain⟨t1,t2,t3,t4⟩:=r'.tabs P hP;refine⟨t1,t2,t3,fun hm=>?_⟩;replace hm:P∈C.own++cellsOf C.slots++(ρ++[pa]):=hm;rw[←ax] at hm;rcases aA.mp hm with hm | hm
  .exact t4 hm
  .rw[af.mp hm] at hP;exact off.2.2.2 hP
 .rcases aA.mp ha with h | h
  .exact .inl h
  .refine R1 (af.mp h) ?_;exact .inr off.2.1
noncomputable def P.AN:P V:=fun σ=>.ok (.work σ.heap.length) {σ with heap:=σ.heap++[.list []]}
theorem wC(K:C.Ok (d+1))(r:Rel B C Φ ρ σ s){R:Result->g9->Prop}
  (hR:∀h'' tk tk',Grows s.heap h''->h''.get? (s.heap.objs.size+1)=some (instObj 80 s.heap.objs.size)->h''.get? s.heap.objs.size=some (Obj.putName "pq" (PyData.keyHash B.w.params "pq") (.str "pq" tk) (.ref (s.heap.objs.size+3)) iL)->
   h''.get? (s.heap.objs.size+3)=some {cls:=.type "list",data:=.seq #[]}->R (.ok (.ret (.ref (s.heap.objs.size+1)))) {s with heap:=h'',toks:=tk'}) :
  iy (M B) C.A (.call (.ref 80) ⟨[],[]⟩) R s:=by
 have xw:=r.xw;have lim:=r.noLimit;obtain⟨h,g,dr,t,os⟩:=s;dsimp only at xw lim hR ⊢;refine make_core (makes_of xw (by rfl)) (looks_findIn xw (r:=some (.ref 56)) (by rfl)) (fun self=>bind_fn xw self (by rfl)) (.inl rfl) ?_;have k1:Grows h ((h.push iL).push (instObj 80 h.objs.size)):=fun b o e=>ib.get?_push_of_some _ (ib.get?_push_of_some _ e);have z1:((h.push iL).push (instObj 80 h.objs.size)).objs.size=h.objs.size+2:=by exact R1 (ib.size_push ..) (R1 (ib.size_push ..) rfl)
 have gx:((h.push iL).push (instObj 80 h.objs.size)).get? (h.objs.size+1)=some (instObj 80 h.objs.size):=by heap_get
 have gd:((h.push iL).push (instObj 80 h.objs.size)).get? h.objs.size=some iL:=by heap_get
 generalize (h.push iL).push (instObj 80 h.objs.size)=h1 at *;have I8:(hd.heap_1 B.w.params).In h1:=fun a o e=>k1 _ _ (xw a o e);refine codeAny_call_function (o:=(((hd.heap_1 B.w.params).lookup 56).getD default)) (fd:=ki B.w.params 56) (body:=bodyOf (ki B.w.params 56)) ?_ (I8 _ _ rfl) rfl rfl rfl rfl (codeRec_of I8 (by kernel_rfl)) ?_
 .have hw:(Code.builtin "type.__call__" ⟨[.ref 80],[]⟩).weight<=2:=by decide +kernel
  exact ag (aC (ab hw (ab (show 2<=2*4 by decide) (b7 4 (bI 2 d)))) _) K.depth
 .refine R1 (show bindArgs (ki B.w.params 56) ⟨[.ref (h.objs.size+1)],[]⟩=pure [(Str.ofString "self",g8.ref (h.objs.size+1))] from rfl) ?_
  refine hO (wpAny_newFunctionEnv (fun y hy hc=>by
   have hall:((ki B.w.params 56).scope.names.all fun z=>z.2 != .cell)=true:=by kernel_rfl
   have:=bl.mp hall y hy;rw[hc] at this;cases this) (fun y hy=>?_) (fun h' hns hsb=>⟨?_,codeAny_func ?_⟩) rfl)
  .exact R1 (af.mp hy) rfl
  .exact(lim.keeps k1).fresh _ hsb
  .dsimp only at hns hsb ⊢;have k2:Grows h1 h':=fun b o q=>hsb.extBut b o (aK (ib.lt_size q)) (ib.get?_push_of_some _ q);have zL:h1.objs.size=h.objs.size+2:=z1;generalize hL:h1.objs.size=L at hns hsb ⊢;have Ng:h'.objs.size=L+1:=by exact R1 hsb.1 (R1 (ib.size_push ..) (R1 hL rfl))
   refine wpAny_execs_cons (plainObj_wpAny_Assign_Attribute ?_);refine g7 (ic ?_);refine g7 (spliced_none ?_);refine wpAny_newList ?_ (by simp);have hne:h.objs.size≠L:=by refine R2 hL (R1 zL ?_);lia
   generalize hH:h'.push {cls:=.type "list",data:=.seq ([]:List g8).toArray}=H;have k3:Grows h' H:=fun b o q=>by refine R2 hH ?_;exact ib.get?_push_of_some _ q
   have gp:H.get? (L+1)=some {cls:=.type "list",data:=.seq #[]}:=by refine R2 hH (R2 Ng ?_);exact ib.get?_push_size _ rfl
   refine R1 Ng ?_;have hns':H.Ns L (fun x=>gE x [((Str.ofString "self"),g8.ref (h.objs.size+1))].reverse):=hns.keeps k3;refine wpAny_Name (iu (v:=.ref (h.objs.size+1)) rfl rfl hns' (by simp) ?_);have KL:(hd.heap_1 B.w.params).In H:=fun a o e=>k3 _ _ (k2 _ _ (I8 a o e));refine set_plain (K:=hd.heap_1 B.w.params) (C:=80) KL (x:=h.objs.size+1) (ox:=instObj 80 h.objs.size) (od:=some iL) ⟨k3 _ _ (k2 _ _ gx),rfl,rfl,k3 _ _ (k2 _ _ gd)⟩ (by rfl) ?_;have hsz0:(hideAll h1 [h.objs.size]).objs.size=h1.objs.size:=hideAll_size _ _
   have F:Fr (hideAll h1 [h.objs.size]) L H (fun x=>gE x [((Str.ofString "self"),g8.ref (h.objs.size+1))].reverse):=
    ⟨hns',fun b o q=>k3 _ _ (k2 _ _ (of_hideAll _ q)),by refine R1 hsz0 (R1 hL ?_);exact aM _⟩
   have N:News (hideAll h1 [h.objs.size]) L H ([]++(h.objs.size,iL)::[(L+1,({cls:=.type "list",data:=.seq #[]}:Obj))]):=by
    intro q hq;simp only[ci,av,bR,or_false] at hq;rcases hq with rfl | rfl
    .exact⟨k3 _ _ (k2 _ _ gd),hne,hideAll_none _ (b9 _)⟩
    .exact⟨gp,aZ (bB _),ib.get?_none_of_le (by refine R1 hsz0 (R1 hL ?_);exact bU _)⟩
   refine osa_dict (dx:=h.objs.size) (m:=fun x=>gE x [((Str.ofString "self"),g8.ref (h.objs.size+1))].reverse) (pre:=[]) F N KL ⟨k3 _ _ (k2 _ _ gx),rfl,rfl,k3 _ _ (k2 _ _ gd)⟩ rfl (by rfl) (by rfl) (by rfl) (by rfl) (fun q hq=>nomatch hq) (fun q hq=>?_) rfl
    (es:=[⟨_,_,_⟩]) rfl (by simp) fun h'' F' N'=>?_
   .refine R1 (af.mp hq) ?_;show L+1≠h.objs.size;refine R2 hL (R1 zL ?_);lia
   .refine wpAny_execs_nil ⟨rfl,?_⟩;have e1:L+1=h.objs.size+3:=by exact R2 hL (R1 zL rfl)
    rw[e1] at N';refine hR h'' _ _ (fun b o q=>F'.keep b o ?_) (F'.keep _ _ ?_) (N' (h.objs.size,_) (aj _ ac)).1 (N' (h.objs.size+3,{cls:=.type "list",data:=.seq #[]}) (aj _ (ad _ (b9 _)))).1
    .exact hideAll_get _ (k1 _ _ q) (fun hm=>absurd (af.mp hm) (aK (ib.lt_size q)))
    .exact hideAll_get _ gx (fun hm=>absurd (af.mp hm) (aZ (bB _)))
theorem xW{x:Str}{np:Pos}(K:C.Ok (d+1))(hf:jm B C iQ iP (CR (.ref 80)) (iF (.Name x np) C.env) (P.pure ())): jm B C iQ iP VR (iF (.Call (.Name x np) [] [] pos) C.env) P.AN:=by
 refine R1 mE ?_;show jm B C iQ iP VR _ (P.bind (P.pure ()) fun Y=>P.AN);refine jn hf fun iS iT Y a e hb=>?_;obtain rfl:a=.ref 80:=hb;intro Φ ρ σ s e' r;refine callWith_of (M:=M B) (P:=fun h=>(hd.heap_1 B.w.params).In h) rfl (fun h X=>keeps_K (by rfl) h X) (ml rfl ?_);refine PySem.Calls.spliced_nil ⟨r.xw,wpAny_call (wC K r fun h'' tk tk' hk gx gd gp=>?_)⟩;have n0:s.heap.get? s.heap.objs.size=none:=ib.get?_none_of_le (aM _);have n1:s.heap.get? (s.heap.objs.size+1)=none:=ib.get?_none_of_le (bU _);have n3:s.heap.get? (s.heap.objs.size+3)=none:=ib.get?_none_of_le (ay _ _);obtain⟨r1,st1⟩:=r.Ha (s':={s with heap:=h'',toks:=tk'}) (pa:=s.heap.objs.size+3) (ao:=.list []) n3 hk rfl rfl fun ρ' Y=>⟨#[],0,gp,by simp,.nil⟩
 have wn:Off C Φ (ρ++[s.heap.objs.size+3]) [s.heap.objs.size]:=fun b hb=>by
  refine R1 (af.mp hb) ?_;obtain⟨f1,f2,f3,f4⟩:=r.lq n0;refine⟨f1,f2,fun hm=>?_,f4⟩;replace hm:s.heap.objs.size∈C.own++cellsOf C.slots++(ρ++[s.heap.objs.size+3]):=hm;rw[←ax] at hm;rcases aA.mp hm with hm | hm
  .exact f3 hm
  .exact absurd (af.mp hm) (aK (bM (by decide)))
 obtain⟨r2,st2⟩:=r1.w7 wn gd
 have off1:Off C (Gh.set Φ s.heap.objs.size (Obj.putName "pq" (PyData.keyHash B.w.params "pq") (.str "pq" tk) (.ref (s.heap.objs.size+3)) iL)) (ρ++[s.heap.objs.size+3]) [s.heap.objs.size+1]:=fun b hb=>by
  refine R1 (af.mp hb) ?_;obtain⟨f1,f2,f3,f4⟩:=r.lq n1;refine⟨(if_neg (aZ (bB _))).trans f1,f2,fun hm=>?_,f4⟩;replace hm:s.heap.objs.size+1∈C.own++cellsOf C.slots++(ρ++[s.heap.objs.size+3]):=hm;rw[←ax] at hm;rcases aA.mp hm with hm | hm
  .exact f3 hm
  .exact absurd (af.mp hm) (aK (by lia))
 obtain⟨r3,st3⟩:=r2.w7 off1 gx;have le1:=Gh.mj (Φ:=Gh.set Φ s.heap.objs.size (Obj.putName "pq" (PyData.keyHash B.w.params "pq") (.str "pq" tk) (.ref (s.heap.objs.size+3)) iL)) (o:=instObj 80 s.heap.objs.size) (off1 _ (b9 _)).1;refine⟨_,ρ++[s.heap.objs.size+3],(st1.trans (st2 _ (wn _ (b9 _)).2.1)).trans (st3 _ (off1 _ (b9 _)).2.1),r3,.work (Gh.jQ _ _ _) (le1 _ _ (Gh.jQ _ _ _)) ?_⟩;exact R2 r.len (R1 bf rfl)
end
theorem uJ:PySem.Slot "bytes" (cmpInfo .Lt).2.1 "bytes.__lt__" :=
 .of (owner:= "bytes") (n:= "__lt__") (by refine R1 (typeLookup_type ..) (R1 builtinLookup_eq_fast ?_);kernel_rfl) (by decide +kernel) (by decide +kernel) (by decide +kernel)
  (by first | exact .inl (by decide +kernel) | exact .inr (by decide +kernel)) (by refine R1 (isSubtype_type ..) ?_;kernel_rfl)
theorem t9:entryFor table "bytes.__lt__" = some iC.«bytes.__lt__»:=entryFor_of_tree (by kernel_rfl)
theorem uV(a b:g8): argsOk "bytes.__lt__" ⟨[a,b],[]⟩:=by unfold argsOk;refine R1 (signature?_of (id:= "bytes.__lt__") (n:=['_','_','t','l','_','_']) (o:=['s','e','t','y','b']) (by kernel_rfl) FB.owner_bytes) ?_;kernel_rfl
noncomputable def ltB(b c:List UInt8): Bool:=iC.Bytes.order b c == .lt
theorem JV:isSubtype (.type "bytes") (.type "bytes")=pure true:=by refine R1 (isSubtype_type ..) ?_;kernel_rfl
theorem tJ(b c:Array UInt8)(t u:Tok): Meets (iC.«bytes.__lt__» ⟨[.bytes b t,.bytes c u],[]⟩) (fun Y R s=>R (.ok (.ret (.bool (ltB b.toList c.toList)))) s):=fun prog w A R s h=>by have e:iC.«bytes.__lt__» ⟨[.bytes b t,.bytes c u],[]⟩=(isInstance (.bytes c u) (.type "bytes") >>= fun r=>if(!r)=true then(do rule (toString "bytes."++toString "__lt__"++toString ".declined");ret g8.notImplemented) else(do ret (.bool (iC.Bytes.holds "__lt__" (iC.Bytes.order b.toList c.toList))))):=rfl;refine R1 e ?_;refine g7 (wpAny_isInstance (typeIs_bytes s c u) JV ?_);exact hO h
section
variable{prog:Program}{w:World}{A:ig}{E:g8->g9->Prop}{s:g9}
theorem Dp{b c:Array UInt8}{t u:Tok}{Q:g8->g9->Prop}(h:Q (.bool (ltB b.toList c.toList)) s): hZ (model prog w) A (richCompare .Lt (.bytes b t) (.bytes c u)) Q E s:=
 richCompare_meets (op:=.Lt) (typeIs_bytes _ _ _) (typeIs_bytes _ _ _) uJ t9 (uV _ _) (tJ b c t u) ⟨fun q=>(nomatch q),h⟩
end
theorem BZ{prog:Program}{w:World}{A:ig}{E:g8->g9->Prop}{s:g9}{a b:Int}{t u:Tok}{Q:g8->g9->Prop}(h:Q (.bool (decide (a<b))) s): hZ (model prog w) A (richCompare .Lt (.int a t) (.int b u)) Q E s:=by show hZ _ _ (compareOp .Lt (.int a t) (.int b u)) Q E s;exact wpAny_lt_int h
noncomputable def mz(a:Int)(x:List UInt8)(b:Int)(y:List UInt8): Bool:=if a=b then(if x=y then false else ltB x y) else decide (a<b)
theorem tI(l r:hM)(n n2:Nat)(a b:Int)(x y:Array UInt8)(t u t' u':Tok):
  Meets (iC.«tuple.__lt__» ⟨[.ref l,.ref r],[]⟩)
   (fun A R s=>s.heap.get? l=some {cls:=.type "tuple",data:=.seq #[.int a t,.bytes x u] n}/\s.heap.get? r=some {cls:=.type "tuple",data:=.seq #[.int b t',.bytes y u'] n2}/\
    SeqAt.EqAt A.in1 s (.int a t) (.int b t') (a == b)/\SeqAt.EqAt A.in1 s (.bytes x u) (.bytes y u') (x.toList == y.toList)/\
    R (.ok (.ret (.bool (mz a x.toList b y.toList)))) s):=
 .of_wp fun prog w A R s h=>by
  obtain⟨hp,g,d,tk,os⟩:=s;obtain⟨hl,hb,MP,he2,h⟩:=h;have f2:=AutoSeq1.sub_tuple_tuple
  wp_walk using AutoSeq1.wpAny_loadPart' hl,AutoSeq1.wpAny_loadPart' hb
  show hZ _ _ (eqBool (.int a t) (.int b t')) _ _ _;refine MP prog w _ _ ?_;cases hab:a == b with
  |false=>
   have hne:a≠b:=beq_eq_false_iff_ne.mp hab;refine g7 (wpAny_rule (g7 (BZ ?_)))
   wp_walk
   refine⟨_,rfl,?_⟩;unfold mz at h;rw[if_neg hne] at h;exact h
  |true=>
   have he:a=b:=eq_of_beq hab;refine hO ?_;refine g7 (g7 (he2 prog w _ _ ?_));cases hxy:x.toList == y.toList with
   |false=>
    have hne:x.toList≠y.toList:=beq_eq_false_iff_ne.mp hxy;refine g7 (wpAny_rule (g7 (Dp ?_)))
    wp_walk
    refine⟨_,rfl,?_⟩;unfold mz at h;rw[if_pos he,if_neg hne] at h;exact h
   |true=>
    have Ow:x.toList=y.toList:=eq_of_beq hxy;refine hO ?_;unfold mz at h;rw[if_pos he,if_pos Ow] at h;exact hO (hO ⟨_,rfl,h⟩)
section
variable{B:Base}{C D:Ctx}{Φ jh iQ iS:Gh}{ρ ρ' iP iT jv:List hM}{σ σ' Ph:AS}{s s' s₁ Pg:g9}{d:Nat}{ψ jw:Gh}{A:ig}{m:Str->Option g8}{pos:Pos}{l r e:iB}
noncomputable def pairOf(v:V): Option (Int×List UInt8):=match v with
 |.tup l=>match l with
  |[a,b]=>match a with
   |.int i=>match b with
    |.bytes x=>some (i,x)
    |_=>none
   |_=>none
  |_=>none
 |_=>none
theorem p8{v:V}{p:Int×List UInt8}(h:pairOf v=some p): v=.tup [.int p.1,.bytes p.2]:=by
 cases v with
 |tup l=>cases l with
  |nil=>exact no h
  |cons a l=>cases l with
   |nil=>exact no h
   |cons b l=>cases l with
    |cons _ _=>exact no h
    |nil=>cases a with
     |int i=>cases b with
      |bytes x=>exact aq.inj h▸rfl
      |_=>exact no h
     |_=>exact no h
 |_=>exact no h
noncomputable def P.ltPair(a b:V): P Bool:=match pairOf a,pairOf b with
 |some p,some q=>P.pure (mz p.1 p.2 q.1 q.2)
 |_,_=>P.stuck
theorem vp{p q:Int×List UInt8}{x y:g8}(r:∀b o,Φ b=some o->s.heap.get? b=some o)(hu:A.units+10<cLine)(ha:jf Φ ρ (.tup [.int p.1,.bytes p.2]) x)(hb:jf Φ ρ (.tup [.int q.1,.bytes q.2]) y)
  {Q:g8->g9->Prop} {E:g8->g9->Prop} (hQ:Q (.bool (mz p.1 p.2 q.1 q.2)) s):hZ (M B) A (richCompare .Lt x y) Q E s:=by
 obtain⟨a,ws,n,rfl,h1,-,h3⟩:=ha.kG;obtain⟨b,us,k,rfl,g1,-,g3⟩:=hb.kG;obtain⟨w1,w2,e1,r1,r2⟩:=h3.two;obtain⟨u1,u2,e2,t1,t2⟩:=g3.two;rw[←cM (xs:=ws),e1] at h1;rw[←cM (xs:=us),e2] at g1;have hu1:A.in1.units+0<cLine:=ag (aC (show 1<=10 by decide) _) hu;have v1:=vU (s:=s) r 0 (A:=A.in1) hu1 r1 t1 (b:=p.1 == q.1) rfl;have v2:=vU (s:=s) r 0 (A:=A.in1) hu1 r2 t2 (b:=p.2 == q.2) rfl;obtain⟨_,rfl⟩:=r1.kG;obtain⟨_,rfl⟩:=r2.kG;obtain⟨_,rfl⟩:=t1.kG;obtain⟨_,rfl⟩:=t2.kG
 exact richCompare_meets_room (op:=.Lt) ⟨_,r _ _ h1,rfl⟩ ⟨_,r _ _ g1,rfl⟩ F.slot_tuple_lt F.entry_tuple_lt (F.args_tuple_lt_2 _ _) (tI a b n k p.1 q.1 p.2.toArray q.2.toArray _ _ _ _)
  ⟨r _ _ h1,r _ _ g1,v1,v2,fun z=>(nomatch z),hQ⟩ (dF hu)
theorem Ctx.Ok.room{n:Nat}(K:C.Ok d)(h:n<=100): C.A.units+n<cLine:=ag (bW (ay _ _) h) K.units
theorem zq{a b:V}{x y:g8}(K:C.Ok d)(ha:jf iQ iP a x)(hb:jf iQ iP b y): jm B C iQ iP LA (compareOp .Lt x y) (P.ltPair a b):=by
 unfold P.ltPair;cases hp:pairOf a with
 |none=>exact jr
 |some p=>
  cases hq:pairOf b with
  |none=>exact jr
  |some q=>
   intro Φ ρ σ s ex r;exact vp r.keep (K.room (by decide)) (p8 hp▸ha.mono ex) (p8 hq▸hb.mono ex) ⟨Φ,ρ,.refl _ _ _ _,r,rfl⟩
theorem pt{whole:Sem g8}{p q:P V}(K:C.Ok d)(hl:jm B C iQ iP VR (iF l C.env) p)(hr:jm B C iQ iP VR (iF r C.env) q)(hm:autoParam (behindInMarks .Lt r=false) PyProof.Rows.slice_list._auto_1):
  jm B C iQ iP BR (isTrue (.Compare l [.Lt] [r] pos) C.env whole) (P.bind p fun a=>P.bind q fun b=>P.ltPair a b):=by
 refine R1 (isTrue_Compare1 ..) (R1 (markedBehindIn_of_false hm) ?_);refine jn hl fun Y Y a x e ha=>jn (jB (hr.weaken e)) fun Y Y b y e' hb=>kJ ?_;refine nV (t:=compareOp .Lt x y >>= fun c=>truthy c) ?_ fun Q E s h=>?_
 .intro Φ ρ σ s ex rr;have:=zq K (ha.mono e') hb Φ ρ σ s ex rr;cases hp:P.ltPair a b σ with
  |stuck=>trivial
  |ok b σ'=>
   rw[hp] at this
   exact g7 (hV this (fun w s' ⟨jh,ρ',q1,q2,q4⟩=>by obtain rfl:w=.bool b:=q4;exact wpAny_truthy_bool ⟨jh,ρ',q1,q2,rfl⟩) fun Y Y q=>q.elim)
  |exc σ'=>rw[hp] at this;exact g7 (hV this (fun Y Y q=>q.elim) fun Y Y q=>q)
 .intro Γ pp hΓ;have:=h Γ pp hΓ;simp only[Sem.wp_bind',Sem.wp_operate,Sem.wp_holding] at this ⊢;exact this
end
theorem t8:entryFor table "_heapq.heapify.sift" = some iC.«_heapq.heapify.sift»:=entryFor_of_tree (by kernel_rfl)
theorem lR:plainId "_heapq.heapify.sift" = true:=by decide +kernel
theorem Af:entryFor table "_heapq.heappush" = some iC.«_heapq.heappush»:=entryFor_of_tree (by kernel_rfl)
theorem vF:entryFor table "_heapq.heappop" = some iC.«_heapq.heappop»:=entryFor_of_tree (by kernel_rfl)
theorem zH:plainId "_heapq.heappush" = true:=by decide +kernel
theorem vk:plainId "_heapq.heappop" = true:=by decide +kernel
theorem B2:builtinKind "_heapq.heappush" = none:=by decide +kernel
theorem yj:builtinKind "_heapq.heappop" = none:=by decide +kernel
noncomputable def lw{α:Type}(xs:List α)(i j:Nat): List α:=match xs[i]? with
 |some x=>match xs[j]? with
  |some y=>(xs.set i y).set j x
  |none=>xs
 |none=>xs
noncomputable def oU(lt:V->V->Option Bool)(f:Nat)(xs:List V)(pos:Nat): Option (List V):=match f with
 |0=>none
 |f+1=>if pos=0 then some xs else match xs[pos]? with
  |some x=>match xs[(pos - 1) / 2]? with
   |some p=>(lt x p).bind fun b=>if b=true then oU lt f (lw xs ((pos - 1) / 2) pos) ((pos - 1) / 2) else some xs
   |none=>none
  |none=>none
noncomputable def ltV(a b:V): Option Bool:=match pairOf a,pairOf b with
 |some p,some q=>some (mz p.1 p.2 q.1 q.2)
 |_,_=>none
section
variable{B:Base}{Φ:Gh}{ρ:List hM}{s:g9}{A:ig}
theorem ja.set{vs:List V}{ws:List g8}(h:ja Φ ρ vs ws): ∀(i:Nat) {v:V} {w:g8},jf Φ ρ v w->ja Φ ρ (vs.set i v) (ws.set i w):=by
 induction vs generalizing ws with
 |nil=>intro i v w _;cases h;exact .nil
 |cons u vs ih=>
  intro i v w hv;cases h with
  |cons a b=>cases i with
   |zero=>exact .cons hv b
   |succ i=>exact .cons a (ih b i hv)
theorem I0{a b:V}{x y:g8}{c:Bool}(r:∀b o,Φ b=some o->s.heap.get? b=some o)(hu:A.units+10<cLine)(ha:jf Φ ρ a x)(hb:jf Φ ρ b y)(h:ltV a b=some c)
  {Q:Bool->g9->Prop} {E:g8->g9->Prop} (hQ:Q c s):hZ (M B) A (do truthOfDropped (←richCompare .Lt x y)) Q E s:=by
 unfold ltV at h;cases hp:pairOf a with
 |none=>rw[hp] at h;cases h
 |some p=>
  cases hq:pairOf b with
  |none=>rw[hp,hq] at h;cases h
  |some q=>
   rw[hp,hq] at h;cases h;rw[p8 hp] at ha;rw[p8 hq] at hb;refine g7 (vp r hu ha hb ?_);exact hO hQ
theorem Fa{M:Model}{E:g8->g9->Prop}{α:Type}{c:Prop}[Decidable c]{a b:Sem α}{Q:α->g9->Prop}(hc:c)(h:hZ M A a Q E s): hZ M A (if c then a else b) Q E s:=wpAny_ite_true (decide_eq_true hc) h
theorem E2{M:Model}{E:g8->g9->Prop}{α:Type}{c:Prop}[Decidable c]{a b:Sem α}{Q:α->g9->Prop}(hc:¬ c)(h:hZ M A b Q E s): hZ M A (if c then a else b) Q E s:=wpAny_ite_false (decide_eq_false hc) h
structure HL(Φ:Gh)(ρ:List hM)(a:hM)(xs:List V)(ws:Array g8)(n:Nat)(s:g9): Prop where
 get:s.heap.get? a=some {cls:=.type "list",data:=.seq ws n}
 keep:∀b o,Φ b=some o->s.heap.get? b=some o
 reps:ja Φ ρ xs ws.toList
 sz:ws.size<=io
inductive uz(Φ:Gh)(ρ:List hM)(a:hM)(ys:List V)(m:Nat)(h h':ib): Prop
 |mk (ws:Array g8) (n:Nat) (get:h'.get? a=some {cls:=.type "list",data:=.seq ws n}) (sz:ws.size=m) (reps:ja Φ ρ ys ws.toList) (rest:∀b,b≠a->h'.get? b=h.get? b) (size:h'.objs.size=h.objs.size)
noncomputable def nth(o:Option g8): Sem g8:=match o with
 |some v=>pure v
 |none=>unsupported "internal:_heapq.index"
theorem ny{β:Type}{o:Option g8}{v:g8}{f:g8->Sem β}{Q:β->g9->Prop}{E:g8->g9->Prop}(h:o=some v)(hQ:hZ (M B) A (f v) Q E s): hZ (M B) A (nth o >>= f) Q E s:=by subst h;exact g7 (hO hQ)
noncomputable abbrev xS(a:hM)(i j:Nat)(u v:g8)(h:ib): ib:=h.update a (Obj.mapSeq fun xs=>(xs.setIfInBounds i u).setIfInBounds j v)
noncomputable def qM(a:hM): Sem (Array g8):=do
 let some xs ←seqItems? (.ref a) | unsupported "internal:_heapq"
 return xs
noncomputable def B7(a:hM)(i j:Nat): Sem Unit:=do
 let xs ←qM a;let x ←nth xs[i]?;let y ←nth xs[j]?
 updateSeq a fun xs=>(xs.setIfInBounds i y).setIfInBounds j x
noncomputable def B8(a:hM)(size:Nat)(x y:g8): Sem Bool:=do
 let less ←holding [x,y] (do truthOfDropped (←richCompare .Lt x y))
 if(←qM a).size != size then rule "_heapq.size-changed"; raiseError "RuntimeError" "list changed size during iteration"
 return less
theorem HL.items{a:hM}{xs:List V}{ws:Array g8}{n:Nat}(H:HL Φ ρ a xs ws n s){Q:Array g8->g9->Prop}{E:g8->g9->Prop}(hQ:Q ws s): hZ (M B) A (qM a) Q E s:=g7 (wpAny_seqItems H.get rfl (hO hQ))
theorem HL.less{a:hM}{xs:List V}{ws:Array g8}{n:Nat}(H:HL Φ ρ a xs ws n s)(hu:A.units+20<cLine){x y:V}{u v:g8}{c:Bool}(rx:jf Φ ρ x u)(ry:jf Φ ρ y v)(h:ltV x y=some c){Q:Bool->g9->Prop}{E:g8->g9->Prop}(hQ:Q c s):
  hZ (M B) A.in1 (B8 a ws.size u v) Q E s:=
 g7 (ik (I0 H.keep (ag (aC (show 1+10<=20 by decide) _) hu) rx ry h (g7 (H.items (E2 (by simp) (hO hQ))))))
theorem HL.LU{a:hM}{xs:List V}{ws:Array g8}{n:Nat}(H:HL Φ ρ a xs ws n s){i j:Nat}{u v:g8}(gi:ws[i]?=some v)(gj:ws[j]?=some u){Q:Unit->g9->Prop}{E:g8->g9->Prop}(hQ:Q () {s with heap:=xS a i j u v s.heap}): hZ (M B) A (B7 a i j) Q E s:=
 g7 (H.items (ny gi (ny gj (wpAny_updateSeq H.get rfl hQ H.sz (by refine R1 a9 (R1 a9 ?_);exact bL H.sz)))))
theorem HL.swap{a:hM}{xs:List V}{ws:Array g8}{n:Nat}(H:HL Φ ρ a xs ws n s)(r:∀b o,Φ b=some o->b≠a){i j:Nat}{u v:g8}(gi:ws[i]?=some v)(gj:ws[j]?=some u):
  ∃n',HL Φ ρ a (lw xs i j) ((ws.setIfInBounds i u).setIfInBounds j v) n' {s with heap:=xS a i j u v s.heap}/\∀ys m h',uz Φ ρ a ys m (xS a i j u v s.heap) h'->uz Φ ρ a ys m s.heap h':=by
 obtain⟨x,hx,rx⟩:=H.reps.get' (i:=i) (by refine R1 aB ?_;exact gi);obtain⟨y,hy,ry⟩:=H.reps.get' (i:=j) (by refine R1 aB ?_;exact gj);obtain⟨n',hm⟩:∃n',Obj.mapSeq (fun xs=>(xs.setIfInBounds i u).setIfInBounds j v) {cls:=.type "list",data:=.seq ws n}={cls:=.type "list",data:=.seq ((ws.setIfInBounds i u).setIfInBounds j v) n'}:=⟨_,rfl⟩;have hup:=ib.get?_update_self (h:=s.heap) (Obj.mapSeq fun xs=>(xs.setIfInBounds i u).setIfInBounds j v) H.get (by exact R1 hm rfl);have off:∀b,b≠a->(xS a i j u v s.heap).get? b=s.heap.get? b:=fun b hb=>ib.get?_update_other _ _ (Ne.symm hb);have e:lw xs i j=(xs.set i y).set j x:=by unfold lw;refine R1 hx ?_;dsimp only;exact R1 hy rfl
 refine⟨n',⟨hm▸hup,fun b o q=>(off b (r b o q)).trans (H.keep b o q),?_,?_⟩,fun ys m h' ⟨ws',n2,k1,k2,k3,k4,k5⟩=>⟨ws',n2,k1,k2,k3,fun b hb=>(k4 b hb).trans (off b hb),k5.trans (ib.size_after_update ..)⟩⟩
 .refine R1 e (R1 da (R1 da ?_));exact(H.reps.set _ ry).set _ rx
 .refine R1 a9 (R1 a9 ?_);exact H.sz
theorem At{a:hM}{res:g8}{R:Result->g9->Prop}(r:∀b o,Φ b=some o->b≠a)(hu:A.units+20<cLine): ∀(f:Nat) (xs:List V) (ws:Array g8) (n pos:Nat) (s:g9) (ys:List V),
  HL Φ ρ a xs ws n s->oU ltV f xs pos=some ys->(∀h',uz Φ ρ a ys ws.size s.heap h'->R (.ok (.ret res)) {s with heap:=h'})->
  iy (M B) A (.builtin "_heapq.heapify.sift" ⟨[.ref a,.bool false,.bool false,rawInt pos,rawInt 0,res,rawInt (-1)],[]⟩) R s:=by
 intro f
 induction f with
 |zero=>intro xs ws n pos s ys _ h;exact no h
 |succ f ih=>
  intro xs ws n pos s ys H h hR;refine codeAny_builtin t8 ?_;refine R1 (ig.under_plainId lR _) ?_;show hZ _ A.in1 (iC.«_heapq.heapify.sift» _) _ _ s;unfold iC.«_heapq.heapify.sift»;refine g7 (H.items ?_);refine E2 (by decide) ?_;unfold oU at h;by_cases h0:pos=0
  .subst h0;rw[if_pos rfl] at h;cases h;exact E2 (bu 0) (Fa (by decide) (hO (hR s.heap ⟨ws,n,H.get,rfl,H.reps,fun Y Y=>rfl,rfl⟩)))
  .rw[if_neg h0] at h;refine Fa (show(pos:Int).toNat > Int.toNat 0 from cV h0) ?_;cases hx:xs[pos]? with
   |none=>rw[hx] at h;exact no h
   |some x=>cases hp:xs[(pos - 1) / 2]? with
    |none=>rw[hx] at h;dsimp only at h;rw[hp] at h;exact no h
    |some p=>
    rw[hx] at h;dsimp only at h;rw[hp] at h;obtain⟨c,hlt,h⟩:=b8.mp h;obtain⟨wx,gx,rx⟩:=H.reps.get hx;obtain⟨wp,gp,rp⟩:=H.reps.get hp;rw[aB] at gx gp;refine ny (o:=ws[pos]?) gx (ny (o:=ws[(pos - 1) / 2]?) gp (E2 (by decide) ?_));refine g7 (H.less hu rx rp hlt ?_);cases c with
    |false=>
     cases h;exact E2 (by decide) (Fa (by decide) (hO (hR s.heap ⟨ws,n,H.get,rfl,H.reps,fun Y Y=>rfl,rfl⟩)))
    |true=>
     rw[if_pos rfl] at h;refine Fa rfl ?_;obtain⟨n',H',k⟩:=H.swap r gp gx;refine g7 (H.LU gp gx (hO ⟨plainId_quiet lR _,?_⟩));exact ih _ _ n' ((pos - 1) / 2) _ ys H' h fun h' q=>hR h' (k _ _ _ (by rw[a9,a9] at q;exact q))
noncomputable def lF(lt:V->V->Option Bool)(f:Nat)(xs:List V)(pos:Nat): Option (List V):=match f with
 |0=>none
 |f+1=>if pos<xs.length / 2 then
   (if 2*pos+1+1<xs.length then match xs[2*pos+1]? with
    |some l=>match xs[2*pos+1+1]? with
     |some r=>(lt l r).bind fun b=>lF lt f (lw xs (if b then 2*pos+1 else 2*pos+1+1) pos) (if b then 2*pos+1 else 2*pos+1+1)
     |none=>none
    |none=>none
   else lF lt f (lw xs (2*pos+1) pos) (2*pos+1))
  else oU lt 10000 xs pos
theorem half_lt{n p:Nat}(h:p<n / 2): 2*p+1<n:=show 2*(p+1)<=n from ab (bF 2 h) (Nat.mul_div_le n 2)
theorem Ck{a:hM}{res:g8}{R:Result->g9->Prop}(r:∀b o,Φ b=some o->b≠a)(hu:A.units+20<cLine): ∀(f:Nat) (xs:List V) (ws:Array g8) (n pos:Nat) (s:g9) (ys:List V),
  HL Φ ρ a xs ws n s->lF ltV f xs pos=some ys->(∀h',uz Φ ρ a ys ws.size s.heap h'->R (.ok (.ret res)) {s with heap:=h'})->
  iy (M B) A (.builtin "_heapq.heapify.sift" ⟨[.ref a,.bool false,.bool true,rawInt pos,rawInt 0,res,rawInt (-1)],[]⟩) R s:=by
 intro f
 induction f with
 |zero=>intro xs ws n pos s ys _ h;exact no h
 |succ f ih=>
  intro xs ws n pos s ys H h hR;refine codeAny_builtin t8 ?_;refine R1 (ig.under_plainId lR _) ?_;show hZ _ A.in1 (iC.«_heapq.heapify.sift» _) _ _ s;unfold iC.«_heapq.heapify.sift»;refine g7 (H.items ?_);refine Fa rfl ?_;unfold lF at h;rw[←H.reps.size] at h
  have go:∀{child:Nat} {u v:g8} {t:Sem Unit},ws[child]?=some v->ws[pos]?=some u->(∀{Q:Unit->g9->Prop} {E:g8->g9->Prop},Q () {s with heap:=xS a child pos u v s.heap}->hZ (M B) A.in1 t Q E s)->
    lF ltV f (lw xs child pos) child=some ys->hZ (M B) A.in1 (t >>= fun Y=>again (.builtin "_heapq.heapify.sift" ⟨[.ref a,.bool false,.bool true,rawInt child,rawInt 0,res,rawInt (-1)],[]⟩))
    (fun fin s'=>match fin with | .done f=>R (.ok f) s' | .again c'=>c'.quiet=true/\iy (M B) A c' R s') (fun e s'=>R (.error e) s') s:=fun{child u v t} gi gj ht hy=>by
   obtain⟨n',H',k⟩:=H.swap r gi gj;exact g7 (ht (hO ⟨plainId_quiet lR _,ih _ _ n' child _ ys H' hy fun h' q=>hR h' (k _ _ _ (by rw[a9,a9] at q;exact q))⟩))
  have lk:∀{i:Nat},i<ws.size->∃v,ws[i]?=some v:=fun h=>⟨_,bH h⟩;by_cases hh:pos<ws.size / 2
  .rw[if_pos hh] at h;have h1:=half_lt hh;obtain⟨u,gj⟩:=lk (ag (ab (dG pos (by decide)) (bU _)) h1);obtain⟨v1,g1⟩:=lk h1;refine Fa hh ?_;by_cases hr:2*pos+1+1<ws.size
   .rw[if_pos hr] at h;obtain⟨v2,g2⟩:=lk hr;refine Fa hr ?_;obtain⟨l,GC,rl⟩:=H.reps.get' (i:=2*pos+1) (by refine R1 aB ?_;exact g1);obtain⟨rr,Ov,rr'⟩:=H.reps.get' (i:=2*pos+1+1) (by refine R1 aB ?_;exact g2);rw[GC] at h;dsimp only at h;rw[Ov] at h;obtain⟨c,hlt,h⟩:=b8.mp h;refine ny (o:=ws[2*pos+1]?) g1 (ny (o:=ws[2*pos+1+1]?) g2 (E2 (by decide) ?_));refine g7 (H.less hu rl rr' hlt ?_);cases c with
    |true=>exact E2 (by decide) (go g1 gj (H.LU g1 gj) h)
    |false=>exact Fa (by decide) (go g2 gj (H.LU g2 gj) h)
   .rw[if_neg hr] at h;exact E2 hr (go g1 gj (H.LU g1 gj) h)
  .rw[if_neg hh] at h;exact E2 hh (hO ⟨plainId_quiet lR _,At r hu 10000 xs ws n pos s ys H h hR⟩)
end
theorem Cp(a b:g8): argsOk "_heapq.heappush" ⟨[a,b],[]⟩:=by unfold argsOk;kernel_rfl
theorem yU(a:g8): argsOk "_heapq.heappop" ⟨[a],[]⟩:=by unfold argsOk;kernel_rfl
theorem sub_list_list:isSubtype (.type "list") (.type "list")=pure true:=by refine R1 (isSubtype_type ..) ?_;kernel_rfl
noncomputable def P.heappush(vs:List V): P V:=match vs with
 |[o,v]=>match o with
  |.ref n=>fun σ=>match (σ.heap[n]?).bind asList with
   |some vs=>if vs.length<100000 then match oU ltV 10000 (vs++[v]) vs.length with
    |some ys=>.ok .none {σ with heap:=σ.heap.set n (.list ys)}
    |none=>.stuck
    else .stuck
   |none=>.stuck
  |_=>P.stuck
 |_=>P.stuck
section
variable{B:Base}{C D:Ctx}{Φ jh iQ iS:Gh}{ρ ρ' iP iT jv:List hM}{σ σ' Ph:AS}{s s' s₁ Pg:g9}{d:Nat}{ψ jw:Gh}{A:ig}{m:Str->Option g8}{pos:Pos}
theorem Rel.zw{n:Nat}{a:hM}{us ys:List V}{m:Nat}{h h':ib}(r:Rel B C Φ ρ σ s)(hn:ρ[n]?=some a)(hq:σ.heap[n]?=some (.list us))(sb:ib.SameBut a s.heap h)(hm:m<=io)(k:uz Φ ρ a ys m h h'):
  Rel B C Φ ρ {σ with heap:=σ.heap.set n (.list ys)} {s with heap:=h'}:=by
 obtain⟨ws,n',k1,k2,k3,k4,k5⟩:=k;exact r.v9 (s':={s with heap:=h'}) (new:=.list ys) hn hq (fun q=>nomatch q) ⟨k5.trans sb.1,fun b hb=>(k4 b hb).trans (sb.2 b hb)⟩ ⟨ws,n',k1,k2▸hm,k3⟩ rfl rfl
theorem zO{f:Array g8->Array g8}{ws:Array g8}{n:Nat}: ∃n',Obj.mapSeq f {cls:=.type "list",data:=.seq ws n}={cls:=.type "list",data:=.seq (f ws) n'}:=⟨_,rfl⟩
theorem z3{a:hM}{vs:List V}{ws:Array g8}{k:Nat}(f:Array g8->Array g8)(g1:s.heap.get? a=some {cls:=.type "list",data:=.seq ws k})(hne:∀b o,Φ b=some o->b≠a)(hk:∀b o,Φ b=some o->s.heap.get? b=some o)(hv:ja Φ ρ vs (f ws).toList)(hz:(f ws).size<=io):
  ∃n',HL Φ ρ a vs (f ws) n' {s with heap:=s.heap.update a (Obj.mapSeq f)}:=by
 obtain⟨n',hm⟩:=zO (f:=f) (ws:=ws) (n:=k);have hup:=ib.get?_update_self (h:=s.heap) (Obj.mapSeq f) g1 (by exact R1 hm rfl);exact⟨n',hm▸hup,fun b o q=>(ib.get?_update_other _ _ (Ne.symm (hne b o q))).trans (hk b o q),hv,hz⟩
theorem Rel.ne{n:Nat}{a:hM}{us:List V}(r:Rel B C Φ ρ σ s)(hn:ρ[n]?=some a)(hq:σ.heap[n]?=some (.list us)): ∀b o,Φ b=some o->b≠a:=fun b o e q=>
 no ((r.live _ _ hn (hq▸fun q=>nomatch q)).1.symm.trans (q▸e))
theorem v6{vs:List V}{ws:List g8}(K:C.Ok d)(h:ja iQ iP vs ws): jm B C iQ iP VR (call (.builtin "_heapq.heappush") ws []) (P.heappush vs):=by
 cases vs with
 |nil=>exact jr
 |cons o vs=>cases vs with
  |nil=>exact jr
  |cons v vs=>cases vs with
   |cons _ _=>exact jr
   |nil=>cases o with
    |ref n=>
     intro Φ ρ σ s x r;obtain⟨_,w2,rfl,h1,h2⟩:=(h.mono x).two;obtain⟨a,rfl,hn⟩:=h1.kG;unfold P.heappush;dsimp only;cases hq:(σ.heap[n]?).bind asList with
     |none=>trivial
     |some us=>
      dsimp only;by_cases hlen:us.length<100000
      .refine R1 (if_pos hlen) ?_;cases hys:oU ltV 10000 (us++[v]) us.length with
       |none=>trivial
       |some ys=>
        have hq:=m4 hq;obtain⟨xs,k,g1,g2,g3⟩:=r.objs _ _ _ hq hn;have hfit:(xs.push w2).size<=io:=by refine R1 (d3 ..) (R1 g3.size (R1 im ?_));exact ab (f0 hlen) (by decide)
        have hne:=r.ne hn hq;obtain⟨n',H⟩:=z3 (vs:=us++[v]) (fun x=>x.push w2) g1 hne r.keep (by refine R1 eH ?_;exact g3.append (.cons h2 .nil)) hfit;refine call_function_any B2 zH Af (Cp _ _) ?_;refine g7 (g7 (hO (g7 (hO (g7 (g7 (wpAny_isInstance (js g1).typeIs sub_list_list (hO (hO ?_)))))))));refine g7 (wpAny_updateSeq g1 rfl ?_ g2 (bL hfit));refine g7 (H.items ?_);refine hO ⟨plainId_quiet lR _,?_⟩;refine R1 (show(xs.push w2).size - 1=us.length from(congrArg (· - 1) (d3 ..)).trans g3.size) ?_;exact At hne (K.room (by decide)) 10000 _ _ n' us.length _ ys H hys fun h' q=>⟨Φ,ρ,.same rfl,r.zw hn hq (ib.SameBut.update ..) hfit q,.none⟩
      .refine R1 (if_neg hlen) ?_;trivial
    |_=>exact jr
noncomputable def P.heappop(vs:List V): P V:=match vs with
 |[o]=>match o with
  |.ref n=>fun σ=>match (σ.heap[n]?).bind asList with
   |some vs=>match vs with
    |[]=>.stuck
    |v::us=>match us with
     |[]=>.ok v {σ with heap:=σ.heap.set n (.list [])}
     |u::us=>match lF ltV 10000 (((v::u::us).dropLast).set 0 ((v::u::us).getLast (bn _ _))) 0 with
      |some ys=>.ok v {σ with heap:=σ.heap.set n (.list ys)}
      |none=>.stuck
   |none=>.stuck
  |_=>P.stuck
 |_=>P.stuck
theorem ja.dropLast{vs:List V}{ws:List g8}(h:ja Φ ρ vs ws): ja Φ ρ vs.dropLast ws.dropLast:=by refine R1 c5 (R1 c5 (R1 h.length ?_));exact h.take _
noncomputable def FO(a:hM)(xs:Array g8)(last:g8): Sem Fin:=do
 if xs.size == 1 then return ←ret last
 let first ←nth xs[0]?
 updateSeq a (·.setIfInBounds 0 last)
 again (.builtin "_heapq.heapify.sift" ⟨[.ref a,.bool false,.bool true,rawInt (0:Nat),rawInt (0:Nat),first,rawInt (-1)],[]⟩)
theorem ya{a:hM}{xs:Array g8}{k:Nat}{l:g8}{Q:Fin->g9->Prop}{E:g8->g9->Prop}(g1:s.heap.get? a=some {cls:=.type "list",data:=.seq xs k})(g2:xs.size<=io)(hp:xs.pop.size<=io)(hl:xs.back?=some l)
  (h:hZ (M B) A (FO a xs l) Q E {s with heap:=s.heap.update a (Obj.mapSeq fun x=>x.pop)}):hZ (M B) A (iC.«_heapq.heappop» ⟨[.ref a],[]⟩) Q E s:=by
 unfold iC.«_heapq.heappop»;refine g7 (g7 (wpAny_of_eq (a:=g8.ref a) rfl (g7 (g7 (wpAny_isInstance (js g1).typeIs sub_list_list (hO (hO ?_)))))));refine g7 (g7 (wpAny_seqItems g1 rfl (hO ?_)));refine R1 hl ?_;exact g7 (wpAny_updateSeq g1 rfl h g2 (bL hp))
theorem xY{vs:List V}{ws:List g8}(K:C.Ok d)(h:ja iQ iP vs ws): jm B C iQ iP VR (call (.builtin "_heapq.heappop") ws []) (P.heappop vs):=by
 cases vs with
 |nil=>exact jr
 |cons o vs=>cases vs with
  |cons _ _=>exact jr
  |nil=>cases o with
   |ref n=>
    intro Φ ρ σ s x r;obtain⟨_,rfl,h1⟩:=(h.mono x).one;obtain⟨a,rfl,hn⟩:=h1.kG;unfold P.heappop;dsimp only;cases hq:(σ.heap[n]?).bind asList with
    |none=>trivial
    |some us=>cases us with
     |nil=>trivial
     |cons v us=>
      have hq:=m4 hq;obtain⟨xs,k,g1,g2,g3⟩:=r.objs _ _ _ hq hn;obtain⟨wl,g5,g6⟩:=g3.get (i:=us.length) (v:=(v::us).getLast (bn _ _)) ((List.getLast?_eq_getElem? (l:=v::us)).symm.trans (List.getLast?_eq_some_getLast _));obtain⟨w,wv,hv⟩:=g3.get (i:=0) (v:=v) rfl;rw[aB] at g5 wv;have hne:=r.ne hn hq;have hp:xs.pop.size<=io:=by refine R1 Array.size_pop ?_;exact ab (db _ _) g2
      obtain⟨n',H⟩:=z3 (vs:=(v::us).dropLast) (fun x=>x.pop) g1 hne r.keep (by refine R1 Array.toList_pop ?_;exact g3.dropLast) hp;have sz:=g3.size;cases us with
      |nil=>
       refine call_function_any yj vk vF (yU _) (ya g1 g2 hp (by refine R1 eQ (R1 sz ?_);exact g5) ?_);exact Fa (beq_iff_eq.mpr sz) (hO ⟨Φ,ρ,.same rfl,r.zw hn hq (ib.SameBut.update ..) hp ⟨_,n',H.get,rfl,H.reps,fun Y Y=>rfl,rfl⟩,g6⟩)
      |cons u us=>
       dsimp only;cases hys:lF ltV 10000 (((v::u::us).dropLast).set 0 ((v::u::us).getLast (bn _ _))) 0 with
       |none=>trivial
       |some ys=>
        obtain⟨n2,H2⟩:=z3 (fun x=>x.setIfInBounds 0 wl) H.get hne H.keep (by refine R1 da ?_;exact H.reps.set 0 g6) (by refine R1 a9 ?_;exact hp);refine call_function_any yj vk vF (yU _) (ya g1 g2 hp (by refine R1 eQ (R1 sz ?_);exact g5) ?_);refine E2 (fun q=>dj _ (dp.inj (sz.symm.trans (eq_of_beq q)))) (ny (o:=xs[0]?) wv (g7 (wpAny_updateSeq H.get rfl (hO ⟨plainId_quiet lR _,?_⟩) hp (by refine R1 a9 ?_;exact bL hp))));exact Ck hne (K.room (by decide)) 10000 _ _ n2 0 _ ys H2 hys fun h' q=>⟨Φ,ρ,.same rfl,r.zw hn hq ⟨(ib.size_after_update ..).trans (ib.size_after_update ..),fun b hb=>(ib.get?_update_other _ _ (Ne.symm hb)).trans (ib.get?_update_other _ _ (Ne.symm hb))⟩ (by refine R1 a9 ?_;exact hp) q,hv⟩
   |_=>exact jr
end
section
variable{B:Base}{C D:Ctx}{Φ jh iQ iS:Gh}{ρ ρ' iP iT jv:List hM}{σ σ' Ph:AS}{s s' s₁ Pg:g9}{d:Nat}{ψ jw:Gh}{A:ig}{m:Str->Option g8}{pos tpos:Pos}{e:iB}
theorem m8{elts:List iB}{k:Nat}{p:P V}{f:V->P Unit}(h:jm B C iQ iP VR (iF e C.env) p)(hk:∀iS iT v w,Ext iQ iP iS iT->jf iS iT v w->jm B C iS iT TR (assign (.Tuple elts k tpos) C.env w) (f v))
  (hs:autoParam (swapsWithSole [.Tuple elts k tpos] e pos.line C.env=pure false) PySem.W.call_K._auto_4) (hw:autoParam (swappedStores [.Tuple elts k tpos] e C.env=pure none) PySem.W.call_K._auto_4) :
  jm B C iQ iP FR (exec (.Assign [.Tuple elts k tpos] e pos) C.env) (P.bind p fun v=>P.next (f v)):=by
 have main:jm B C iQ iP FR (do iw pos;let v ←iF e C.env;assign (.Tuple elts k tpos) C.env v;pure Flow.next) (P.bind p fun v=>P.next (f v)):=
  kJ (jn h fun Y Y v w ex hv=>jn (hk _ _ v w ex hv) fun Y Y Y Y Y Y=>jK fun Y Y Y=>.next)
 have e:exec (.Assign [.Tuple elts k tpos] e pos) C.env=(do iw pos;let v ←iF e C.env;assign (.Tuple elts k tpos) C.env v;pure Flow.next):=by exact R1 (exec_Assign_arm ..) (R1 hs (R1 hw rfl))
 refine R1 e ?_;exact main
noncomputable def P.vu(i:Nat): P (List V):=fun σ=>match σ.vars[i]? with
 |some (.val (.lst vs))=>.ok vs σ
 |some (.val (.ref n))=>match σ.heap[n]? with
  |some (.list vs)=>.ok vs ⟨σ.heap.set n .dead,σ.vars.set i (.val (.lst vs))⟩
  |_=>.stuck
 |_=>.stuck
theorem Rel.Js(r:Rel B C Φ ρ σ s){i n:Nat}{x:Str}{a:hM}{vs:List V}(hi:C.slots[i]?=some (x,.loc))(hv:σ.vars[i]?=some (.val (.ref n)))(hn:ρ[n]?=some a)(hq:σ.heap[n]?=some (.list vs))(hnames:(C.slots.map (·.1)).Nodup):
  ∃o,Rel B C (Gh.set Φ a o) ρ ⟨σ.heap.set n .dead,σ.vars.set i (.val (.lst vs))⟩ s/\Step C.jO s Φ ρ s (Gh.set Φ a o) ρ/\jf (Gh.set Φ a o) ρ (.lst vs) (.ref a):=by
 obtain⟨ws,k,g1,g2,g3⟩:=r.objs _ _ _ hq hn;have ham:a∈ρ:=aP hn;obtain⟨J7,Cw,Cq⟩:=r.apart;have hap:=Cq a ham;have hlive:=r.live n a hn (by refine R1 hq ?_;intro q;cases q);have le:Gh.Le Φ (Gh.set Φ a {cls:=.type "list",data:=.seq ws k}):=Gh.mj hlive.1;have ex:Ext Φ ρ (Gh.set Φ a {cls:=.type "list",data:=.seq ws k}) ρ:=⟨le,aY _⟩;have other:∀b,b≠a->Gh.set Φ a {cls:=.type "list",data:=.seq ws k} b=Φ b:=fun b h=>if_neg h;have hrep:jf (Gh.set Φ a {cls:=.type "list",data:=.seq ws k}) ρ (.lst vs) (.ref a):=.lst (Gh.jQ _ _ _) g2 (g3.mono ex);have hlt:n<σ.heap.length:=(au.mp hq).1;have ML:i<σ.vars.length:=(au.mp hv).1
 refine⟨{cls:=.type "list",data:=.seq ws k},⟨fun b o q=>le _ _ (r.base b o q),fun b o' q=>?_,r.jO,?_,fun j y c q=>?_,fun j y c u q1 q2=>?_,fun j y c q=>(r.nG j y c q).imp id fun h=>?_,r.kT,by simpa using r.len,fun j o b q1 q2=>?_,
  fun b hb=>?_,fun j b q1 q2=>?_,r.nodup,by simpa using r.vars,fun P hP=>?_,r.gens,r.os,r.le⟩,⟨ex,fun Y Y q=>q,fun b o' q=>?_,fun Y h=>.inl h⟩,hrep⟩
 .unfold Gh.set at q;split at q
  .rename_i hb;cases q;refine R1 hb ?_;exact g1
  .exact r.keep _ _ q
 .obtain⟨m,h1,h2⟩:=r.ns;refine⟨m,h1,fun j y u q1 q2=>?_⟩;by_cases hj:j=i
  .subst hj;replace q2:(σ.vars.set j (.val (.lst vs)))[j]?=some (.val u):=q2;rw[bk ML] at q2;cases q2;obtain⟨w,e1,e2⟩:=h2 j y _ q1 hv;cases e2 with
   |ref hn'=>rw[hn] at hn';cases hn';exact⟨_,e1,hrep⟩
  .replace q2:(σ.vars.set i (.val (.lst vs)))[j]?=some (.val u):=q2;rw[aJ (Ne.symm hj)] at q2;obtain⟨w,e1,e2⟩:=h2 j y u q1 q2;exact⟨w,e1,e2.mono ex⟩
 .have hj:j≠i:=fun h=>by subst h;rw[hi] at q;cases q
  have hc:c≠a:=hap.2.2 c (jE q);show nF _ _ _ _ _ (σ.vars.set i (.val (.lst vs)))[j]?;refine R1 (aJ (Ne.symm hj)) ?_;exact(r.cells j y c q).mono ex fun e1 e2 Y=>⟨(other c hc).trans e1,e2,fun Y h=>h⟩
 .have hj:j≠i:=fun h=>by subst h;rw[hi] at q1;cases q1
  replace q2:(σ.vars.set i (.val (.lst vs)))[j]?=some (.val u):=q2;rw[aJ (Ne.symm hj)] at q2;obtain⟨w,e1,e2⟩:=r.uN j y c u q1 q2;exact⟨w,e1,e2.mono ex⟩
 .obtain⟨o',ho'⟩:=a8.mp h;exact R1 (le _ _ ho') rfl
 .replace q1:(σ.heap.set n .dead)[j]?=some o:=q1;by_cases hj:j=n
  .subst hj;rw[bk hlt] at q1;cases q1;rw[hn] at q2;cases q2;exact⟨_,g1⟩
  .rw[aJ (Ne.symm hj)] at q1;exact(r.objs j o b q1 q2).mono ex fun Y h=>h
 .have hne:b≠a:=fun q=>by
   subst q;rcases av.mp hb with q | hb
   .exact hap.1 q.symm
   .obtain⟨p,hp,q⟩:=bg.mp hb;exact hap.2.1 p hp q
  exact⟨(other b hne).trans (r.own b hb).1,(r.own b hb).2⟩
 .replace q2:(σ.heap.set n .dead)[j]?≠some .dead:=q2;by_cases hj:j=n
  .subst hj;rw[bk hlt] at q2;exact absurd rfl q2
  .rw[aJ (Ne.symm hj)] at q2
   have hne:b≠a:=fun q=>by subst q;exact hj ((cK (au.mp q1).1 r.p0).mp (q1.trans hn.symm))
   exact⟨(other b hne).trans (r.live j b q1 q2).1,(r.live j b q1 q2).2⟩
 .obtain⟨⟨ps,t1,t2,t3⟩,t4,t5,t6⟩:=r.tabs P hP;have hPa:P≠a:=fun q=>t6 (q▸aj _ ham);exact⟨⟨ps,t1,t2,fun pos cv q c1 c2=>(t3 pos cv q c1 c2).mono le⟩,(other P hPa).trans t4,t5,t6⟩
 .unfold Gh.set at q;split at q
  .rename_i hb;refine R1 hb ?_;exact .inr hlive.2
  .exact .inl q
theorem DN{x:Str}{np:Pos}{i:Nat}{target:iB}(hh:C.A.handled=none)(K:(C.at ψ).Ok d)(hi:slotIn nums C.slots x=some (i,.loc))(hd:autoParam ((x == ("__debug__" : Str))=false) PySem.ldc._auto_1):
  oN B C ψ iQ iP target (iF (.Name x np) C.env) (P.vu i):=by
 intro Φ ρ σ s e r;have hs:=slot_get hi;obtain⟨m,hn,hm⟩:=r.ns
 have it:∀{jh σ' vs w},Rel B (C.at ψ) jh ρ σ' s->Step ψ s Φ ρ s jh ρ->jf jh ρ (.lst vs) w->m x=some w->hZ (M B) C.A (iF (.Name x np) C.env) (fun x s'=>hZ (M B) C.A (pyIter x) (uB B C ψ target Φ ρ s vs σ') (fun Y Y=>False) s') (fun Y Y=>False) s:=fun{jh σ' vs w} r' st hw hmx=>by refine wpAny_Name (iu K.kind (K.link i x _ hs) hn hmx ?_) hd;have h2:=vr (target:=target) hh hw jh ρ σ' s (.refl _ _) r';exact hV h2 (fun it Pg q=>q.step st) fun Y Y f=>f
 unfold P.vu;cases hv:σ.vars[i]? with
 |none=>trivial
 |some sl=>
  cases sl with
  |unset=>trivial
  |o7 v=>trivial
  |val v=>
   obtain⟨w,hmx,hw⟩:=hm i x v hs hv;cases v with
   |lst vs=>exact it r (.refl _ _ _ _) hw hmx
   |ref n=>
    dsimp only;cases hq:σ.heap[n]? with
    |none=>trivial
    |some ao=>
     cases ao with
     |list vs=>
      cases hw with
      |@ref _ a hna=>
       obtain⟨o,q1,q2,q3⟩:=r.Js hs hv hna hq K.names;exact it q1 q2 q3 hmx
     |dict _=>trivial
     |dead=>trivial
   |_=>trivial
end
section
variable{B:Base}{C D:Ctx}{Φ jh iQ iS:Gh}{ρ ρ' iP iT jv:List hM}{σ σ' Ph:AS}{s s' s₁ Pg:g9}{d:Nat}{ψ jw:Gh}{fd:iG}{fa L:hM}{m:Str->Option g8}
theorem JS.hdx{a:hM}(hk:JS ψ jw a): He (C.hnd ψ jw a).A (C.hnd ψ jw a).jO:=by obtain⟨T,_,oe,vs,_,_,y1,_,y3,y4,y5,_⟩:=hk.at';exact .inr ⟨a,oe,vs,rfl,y1,y3,y4,y5⟩
theorem CY{body:List Stmt}{ws us:List g8}{kw:List (Str×g8)}{xs:List Str}{vs:List V}{iv:List Slot}{pb:P AF}(K:C.Ok (d+1))(f:uD B fa fd body)
  (hbind:∀s,(hd.heap_1 B.w.params).In s.heap->BindsTo s fd ⟨ws,kw⟩ (xs.zip us)) (hk:o0 fd.scope.names xs=true) (hv:ja iQ iP vs us)
  (hiv:∀L,iv=jy ((slotsOf fd.scope.names (ir (L+1) fd.scope.names [])).map (·.1)) xs vs)
  (Jg:∀C':Ctx,(∃L m h,C'=C.callee fd fa L m h)->Gh.Le C.jO C'.jO->C'.Ok d->C'.mT->jm B C' iQ iP FR (iE body C'.env) pb) :
  jm B C iQ iP VR (call (.ref fa) ws kw) (P.fn iv pb):=by
 intro Φ ρ σ s x r;have hv:=hv.mono x;obtain⟨m,hn,hm⟩:=r.ns;have Kc:(C.callee fd fa s.heap.objs.size m s.heap).Ok d:=rW K _ _ f.kind f.names f.globals f.builtins;have Fc:(C.callee fd fa s.heap.objs.size m s.heap).mT:=sA K _ _;have hs:=Jg _ ⟨s.heap.objs.size,m,s.heap,rfl⟩ (fun b o q=>by show Gh.add C.jO s.heap (cellsOf C.slots) b=some o;unfold Gh.add;split<;>first | exact r.jO _ _ q | exact q) Kc Fc
 exact un (env':=iz fd s.heap.objs.size fa) (li:=slotsOf fd.scope.names (ir (s.heap.objs.size+1) fd.scope.names [])) (A':=C.A.deeper (iz fd s.heap.objs.size fa)) r hm Kc Fc rfl (hs.weaken x)
  (fun h=>uo K f r hn (hbind s r.xw) hk hv hiv h)
noncomputable def Bs(B:Base)(d:Nat)(fa:hM)(pb:P AF): Prop:=∀L kT A ψ iQ iP,(∀ψ,((J0 (ki B.w.params fa) fa L kT A).at ψ).Ok d)->(J0 (ki B.w.params fa) fa L kT A).mT->He A ψ->
 jm B ((J0 (ki B.w.params fa) fa L kT A).at ψ) iQ iP FR (iE (bodyOf (ki B.w.params fa)) (iz (ki B.w.params fa) L fa)) pb
structure H6(B:Base)(d:Nat)(fa:hM)(F:List V->P V): Prop where
 cw:CW B (.ref fa)
 call:∀(C:Ctx) iQ iP vs ws,C.Ok (d+1)->He C.A C.jO->ja iQ iP vs ws->jm B C iQ iP VR (call (.ref fa) ws []) (F vs)
theorem GM{pb:P AF}{N xs:List Str}(f:∀B:Base,uD B fa (ki B.w.params fa) (bodyOf (ki B.w.params fa)))
  (hN:∀P L,(slotsOf (ki P fa).scope.names (ir (L+1) (ki P fa).scope.names [])).map (·.1)=N) (hk:∀P,o0 (ki P fa).scope.names xs=true)
  (hbind:∀P S ws,ws.length=xs.length->peek (hd.heap_1 P) S (bindArgs (ki P fa) ⟨ws,[]⟩)=some (xs.zip ws)) (hb:Bs B d fa pb):H6 B d fa (P.mQ N xs pb) where
 cw:=let ⟨o,h1,h2⟩:=(f B).at';Bf h1 h2
 call:=fun C iQ iP vs ws K hx hv=>by
  unfold P.mQ;split
  .rename_i hl;have hl':ws.length=xs.length:=hv.length.trans hl;refine CY K (f B) (fun s X=>kp_binds X fun S=>hbind _ S ws hl') (hk _) hv (fun L=>?_) fun C' hC' le K' F'=>?_
   .exact R1 (hN ..) rfl
   .obtain⟨L,m,h,rfl⟩:=hC';exact hb _ _ _ _ _ _ (fun ψ=>K'.at ψ) ⟨F'.fr,F'.L⟩ (hx.le le)
  .exact jr
end
noncomputable def mJ(k:Nat): Cu:=match pj k with
 |some c=>c
 |none=>⟨"", "",{posonlyargs:=[],args:=[],vararg:=none,kwonlyargs:=[],kw_defaults:=[],kwarg:=none,defaults:=[]},[],{kind:=.function,names:=[],isGenerator:=false,isCoroutine:=false},[]⟩
theorem G1:pj 1=some (mJ 1):=by kernel_rfl
theorem G0:pj 2=some (mJ 2):=by kernel_rfl
theorem G2:pj 0=some (mJ 0):=by kernel_rfl
noncomputable def yT:{p:P AF // ∀{B:Base} {d:Nat} cc L a cd kT A ψ iS iT,(∀ψ,((xm (mJ 1) "folk" "name" cc L a cd kT A).at ψ).Ok d)->A.handled=none->jm B ((xm (mJ 1) "folk" "name" cc L a cd kT A).at ψ) iS iT FR (iE (mJ 1).body (pR (mJ 1) [("folk",cc)] L a cd)) p}:=
 ⟨_,fun{B d} cc L a cd kT A ψ iS iT Ka hh=>iZ (jb (je hh (k9 (Ka _) rfl) (iR (Ka _) rfl)))⟩
noncomputable def uu:{p:P AF // ∀{B:Base} {d:Nat} cc L a cd kT A ψ iS iT,(∀ψ,((xm (mJ 2) "times" "name" cc L a cd kT A).at ψ).Ok d)->A.handled=none->jm B ((xm (mJ 2) "times" "name" cc L a cd kT A).at ψ) iS iT FR (iE (mJ 2).body (pR (mJ 2) [("times",cc)] L a cd)) p}:=
 ⟨_,fun{B d} cc L a cd kT A ψ iS iT Ka hh=>iZ (jb (je hh (k9 (Ka _) rfl) (iR (Ka _) rfl)))⟩
section
variable{B:Base}{C D:Ctx}{Φ jh iQ iS:Gh}{ρ ρ' iP iT jv:List hM}{σ σ' Ph:AS}{s s' s₁ Pg:g9}{d:Nat}{ψ jw:Gh}{a:hM}{v u:V}{w:g8}
theorem I4:uG (mJ 1) ["name"] "folk":=⟨rfl,rfl,rfl,by kernel_rfl,by kernel_rfl,by kernel_rfl,by kernel_rfl,by kernel_rfl,by decide⟩
theorem Fh:uG (mJ 2) ["name"] "times":=⟨rfl,rfl,rfl,by kernel_rfl,by kernel_rfl,by kernel_rfl,by kernel_rfl,by kernel_rfl,by decide⟩
theorem Fp(K:C.Ok (d+1))(hh:C.A.handled=none)(hv:jf iQ iP (.clo 1 [v]) (.ref a))(hu:jf iQ iP u w): jm B C iQ iP VR (call (.ref a) [w] []) (P.fn [.val u,.val v] yT.1):=
 to (xs:=["name"]) K G1 I4 (fun Y Y Y Y Y=>rfl) (fun Y h=>h) hv (.cons hu .nil) (by kernel_rfl) fun cc L cd kT A ψ iS iT Y Y Ka F hA=>yT.2 cc L a cd kT A ψ iS iT Ka (hA.trans hh)
theorem CT(K:C.Ok (d+1))(hh:C.A.handled=none)(hv:jf iQ iP (.clo 2 [v]) (.ref a))(hu:jf iQ iP u w): jm B C iQ iP VR (call (.ref a) [w] []) (P.fn [.val u,.val v] uu.1):=
 to (xs:=["name"]) K G0 Fh (fun Y Y Y Y Y=>rfl) (fun Y h=>h) hv (.cons hu .nil) (by kernel_rfl) fun cc L cd kT A ψ iS iT Y Y Ka F hA=>uu.2 cc L a cd kT A ψ iS iT Ka (hA.trans hh)
noncomputable def vw:V->Bool
 |.clo _ _=>true
 |_=>false
theorem x4{x:Str}{np pos:Pos}{args:List iB}{p:P V}{ps:P (List V)}{F:V->List V->P V}(hf:jm B C iQ iP VR (iF (.Name x np) C.env) p)
  (hargs:jm B C iQ iP uW (ix (il pos (ie args C.env))) ps)
  (hcall:∀iS iT k cs a vs ws,Ext iQ iP iS iT->jf iS iT (.clo k cs) (.ref a)->ja iS iT vs ws->jm B C iS iT VR (call (.ref a) ws []) (F (.clo k cs) vs))
  (ht:autoParam ((il pos (ie args C.env)).any (·.1)=false) PySem.W.call_K._auto_4):jm B C iQ iP VR (iF (.Call (.Name x np) args [] pos) C.env) (P.bind p fun v=>if vw v then P.bind ps (F v) else P.stuck):=by
 refine R1 mE ?_;refine jn hf fun iS iT v w e hv=>?_;split
 .rename_i hc;cases hv with
  |@clo k cs a o Cl cells doc pm cd ctv h1 h2 h3 h4 h5 h6=>
   have hv:jf iS iT (.clo k cs) (.ref a):=.clo h1 h2 h3 h4 h5 h6;refine mG (hargs.weaken e) (fun Φ ρ σ s ex r Q E h=>callWith_function (o:=o) (ml ht (hV h (fun Y Y q=>⟨⟨?_,h3⟩,q.2⟩) fun Y Y q=>q))) (fun kF jv vs ws e' hvs=>hcall kF jv k cs a vs ws (e.trans e') (hv.mono e') hvs);obtain⟨⟨jh,ρ',σ',st,r'⟩,_⟩:=q;exact r'.keep _ _ (st.1 _ _ (ex.1 _ _ h1))
  |_=>cases hc
 .exact jr
end
structure qS(env:Env): Prop where
 kind:env.scope.kind=.function
 self:env.kindOf "self" = some .local
 pr:env.kindOf "pr" = some .local
 y9:env.kindOf "cmt" = some .local
 co:env.scope.isCoroutine=false
 ia:interactive env=false
noncomputable def sE(a:Int)(t:Tok)(w:g8)(n:Nat): Obj:={cls:=.type "tuple",data:=.seq #[.int a t,w] n}
noncomputable def y0(kq:Gh)(p:hM)(op:Obj)(h:ib): Prop:=(∀b o,kq b=some o->h.get? b=some o)/\h.get? p=some op/\h.NoLimit
section
variable{B:Base}{A:ig}{env:Env}{s:g9}{E:g8->g9->Prop}
theorem A4(g:qS env): (env.scope.kind == .class || (env.scope.kind == .module&&env.locals != env.globals))=false:=by exact R1 g.kind rfl
theorem xL{m:Str->Option g8}{ta:hM}{q:Int}{t:Tok}{wc:g8}{nn k:Nat}{p1 p2 tpos:Pos}{Q:Unit->g9->Prop}(g:qS env)(hh:A.handled=none)(hn:s.heap.Ns env.locals m)
  (ht:s.heap.get? ta=some (sE q t wc nn))
  (hQ:∀h' tk m',h'.Ns env.locals m'->m' "self" = m "self"->m' "pr" = some (.int q t)->m' "cmt" = some wc->(∀b o,b≠env.locals->s.heap.get? b=some o->h'.get? b=some o)->Q () {s with heap:=h',toks:=tk}) :
  hZ (M B) A (assign (.Tuple [.Name "pr" p1,.Name "cmt" p2] k tpos) env (.ref ta)) Q E s:=by
 refine wpAny_assign_Tuple hh ⟨_,ht,rfl,_,rfl⟩ rfl rfl fun h' he=>?_;show hZ (M B) A (do holding [wc] (assign (.Name "pr" p1) env (.int q t));holding [] (assign (.Name "cmt" p2) env wc);pure ()) Q E _;have up:∀b o,s.heap.get? b=some o->h'.get? b=some o:=fun b o e=>he b o (aK (ib.lt_size e)) e;refine g7 (ik (wpAny_assign_Name (wpAny_storeName_local g.pr (hn.keeps up) (fun Pv Pz PT=>?_) (A4 g))));refine g7 (ik (wpAny_assign_Name (wpAny_storeName_local g.y9 Pz (fun P0 PU PS=>?_) (A4 g))));exact hO (hQ P0 _ _ PU ((if_neg (by decide)).trans (if_neg (by decide))) ((if_neg (by decide)).trans (if_pos rfl)) (if_pos rfl) fun b o hb e=>PS.extBut b o hb (PT.extBut b o hb (up b o e)))
theorem BC{m:Str->Option g8}{q:Int}{t:Tok}{wc:g8}{k:Nat}{p1 p2 p3 tpos:Pos}{Q:g8->g9->Prop}(g:qS env)(hn:s.heap.Ns env.locals m)(h1:m "pr" = some (.int q t))(h2:m "cmt" = some wc)
  (hQ:∀tk tk2,Q (.ref s.heap.objs.size) {s with heap:=s.heap.push (sE (-q) tk wc 0),toks:=tk2}) :
  hZ (M B) A (iF (.Tuple [.UnaryOp .USub (.Name "pr" p1) p3,.Name "cmt" p2] k tpos) env) Q E s:=by
 show hZ (M B) A (iw tpos >>= fun Y=>ix (il tpos (ie [.UnaryOp .USub (.Name "pr" p1) p3,.Name "cmt" p2] env)) >>= newTuple) Q E s;refine g7 (ic ?_)
 have hs:ix (il tpos (ie [.UnaryOp .USub (.Name "pr" p1) p3,.Name "cmt" p2] env))=(do
   let w ←iF (.UnaryOp .USub (.Name "pr" p1) p3) env
   let r ←holding [w] (do
    let w ←iF (.Name "cmt" p2) env;let r ←holding [w] (ix (il tpos []))
    pure ([w]++r))
   pure ([w]++r)):=rfl
 refine R1 hs (R1 (mD ..) ?_);refine g7 (g7 (g7 (wpAny_Name (iu g.kind g.pr hn h1 ?_) (by decide))));refine g7 (ic (ik (PyProof.Rows.neg_int ?_)));refine g7 (ik (g7 (wpAny_Name (iu g.kind g.y9 hn h2 ?_) (by decide))));refine g7 (ik ?_);show hZ (M B) A (pure []) _ _ _;refine hO (hO (hO ?_));exact wpAny_newTuple (hQ s.toks _) (by refine R1 im ?_;simp)
noncomputable def rY(kq:Gh)(p:hM)(op:Obj)(ws:Array g8)(L I:hM): Protocol:=fun m Pk v s kap=>
 (∃(ta:hM) (q:Int) (t:Tok) (wc:g8) (nn:Nat) (a:hM) (tk:Tok),ws[ws.size - 1 - m]?=some (.ref ta)/\kq ta=some (sE q t wc nn)/\v=.ref a/\Pk.heap.get? a=none/\s.heap.get? a=some (sE (-q) tk wc 0))/\(∃oI,s.heap.get? I=some oI/\oI.cls=.type "list_iterator")/\(∃oL,s.heap.get? L=some oL)/\GenSince L [I] Pk s/\
  ∀s'':g9,(∀b∈[L,I],∀o,s.heap.get? b=some o->s''.heap.get? b=some o)->y0 kq p op s''.heap->kap (.send .none) s''
noncomputable abbrev Ct(L I:hM): GenEnd:=fun n Pk r s₁=>r=.ok (.ret .none)/\(n=0/\GenSince L [I] Pk s₁)
theorem C6{op:Obj}{kq:Gh}{p I:hM}{ws:Array g8}{nn:Nat}{fs:List Frame}{p1 p2 p3 p4 p5 tpos epos ypos xpos:Pos}{k1 k2:Nat}(g:qS env)(hh:A.handled=none)
  (NF:(A.over (.forLoop (.Tuple [.Name "pr" p1,.Name "cmt" p2] k1 tpos) (.ref I) [.Expr (.Yield (some (.Tuple [.UnaryOp .USub (.Name "pr" p3) p5,.Name "cmt" p4] k2 epos)) ypos) xpos] [] env) fs).handled=none)
  (hfs:splitAtGen fs=none) (hfg:fs.any Frame.guarded=false)
  (hop:op={cls:=.type "list",data:=.seq ws nn}) (hws:∀(k:Nat) (w:g8),ws[k]?=some w->∃(ta:hM) (q:Int) (t:Tok) (wc:g8) (n:Nat),w=g8.ref ta/\kq ta=some (sE q t wc n)) (hIL:I≠env.locals) (Pa:p≠I) (NA:p≠env.locals)
  (hΦ:kq I=none/\kq env.locals=none)
  (hend:∀Pk s,GenSince env.locals [I] Pk s->Seg (M B) A (Ct env.locals I) (rY kq p op ws env.locals I) 0 Pk (.block [] env) ((M B).den (.block [] env)) fs s) :
  ∀(n k:Nat) (Pk s:g9) (m:Str->Option g8),ws.size - k=n->k<=ws.size->s.heap.IsListIter I p k->s.heap.Ns env.locals m->y0 kq p op s.heap->GenSince env.locals [I] Pk s->
   Seg (M B) A (Ct env.locals I) (rY kq p op ws env.locals I) n Pk (.forLoop (.Tuple [.Name "pr" p1,.Name "cmt" p2] k1 tpos) (.ref I) [.Expr (.Yield (some (.Tuple [.UnaryOp .USub (.Name "pr" p3) p5,.Name "cmt" p4] k2 epos)) ypos) xpos] [] env)
    ((M B).den (.forLoop (.Tuple [.Name "pr" p1,.Name "cmt" p2] k1 tpos) (.ref I) [.Expr (.Yield (some (.Tuple [.UnaryOp .USub (.Name "pr" p3) p5,.Name "cmt" p4] k2 epos)) ypos) xpos] [] env)) fs s:=by
 intro n
 induction n with
 |zero=>
  intro k Pk s m hk hle hit hn nI hsince;have hkw:ws[k]?=none:=by rw[Array.getElem?_eq_none_iff];exact fq hk
  show Seg _ A _ _ _ Pk _ ((forTurn (.Tuple [.Name "pr" p1,.Name "cmt" p2] k1 tpos) (.ref I) [.Expr (.Yield (some (.Tuple [.UnaryOp .USub (.Name "pr" p3) p5,.Name "cmt" p4] k2 epos)) ypos) xpos] [] env).onRaise (fun x=>do noteFrame x env;theTreesLotGoes x)) fs s;unfold forTurn;refine R1 (Sem.onRaise_eq_wrap ..) ?_;refine iA (ic ?_);refine iA (wpAny_onRaise ?_);refine hV (wpAny_pyNext_list_end (E:=fun Y Y=>False) NF hit (js (hop▸nI.2.1)) hkw (Q:=fun r s'=>r=none/\∃h',ib.ExtBut I s.heap h'/\s'={s with heap:=h'}) fun h' he=>⟨rfl,h',he,rfl⟩) (fun r s' hq=>?_) fun Y Y f=>f.elim;obtain⟨rfl,h',he,rfl⟩:=hq;refine seg_again rfl (hend Pk _ ?_);exact hsince.step (tk:=s.toks) fun b o Y hb e=>he b o (fun q=>hb (by simp[q])) e
 |succ n ih=>
  intro k Pk s m hk hle hit hn nI hsince;have hlt:k<ws.size:=by exact ft hk
  obtain⟨ta,q,t,wc,nt,hw,L4⟩:=hws k ws[k] (bH hlt);have hkw:ws[k]?=some (g8.ref ta):=by refine R2 hw ?_;exact bH hlt
  show Seg _ A _ _ _ Pk _ ((forTurn (.Tuple [.Name "pr" p1,.Name "cmt" p2] k1 tpos) (.ref I) [.Expr (.Yield (some (.Tuple [.UnaryOp .USub (.Name "pr" p3) p5,.Name "cmt" p4] k2 epos)) ypos) xpos] [] env).onRaise (fun x=>do noteFrame x env;theTreesLotGoes x)) fs s;unfold forTurn;refine R1 (Sem.onRaise_eq_wrap ..) ?_;refine iA (ic ?_);refine iA (wpAny_onRaise ?_);refine hV (wpAny_pyNext_list_item (E:=fun Y Y=>False) hit (js (hop▸nI.2.1)) hkw (Q:=fun r s'=>r=some (.ref ta)/\∃h',h'.IsListIter I p (k+1)/\ib.SameBut I s.heap h'/\s'={s with heap:=h'}) fun h' h1 he=>⟨rfl,h',h1,he,rfl⟩) (fun r s' hq=>?_) fun Y Y f=>f.elim;obtain⟨rfl,Po,PG,Pl,rfl⟩:=hq;dsimp only;refine iA ?_;obtain⟨oi,hi1,hi2,OD⟩:=id PG;refine nc hi1 hi2 (by decide) ?_;have Jf:Po.get? ta=some (sE q t wc nt):=(Pl.2 ta fun z=>by rw[z,hΦ.1] at L4;cases L4).trans (nI.1 _ _ L4);refine iA (xL (s:={s with heap:=Po}) g NF (hn.sameBut Pl (Ne.symm hIL)) Jf fun Pv PQ PZ Pz e1 e2 e3 PB=>?_);refine R1 (Sem.bind_eq_wrap' ..) (R1 (Sem.wrap_wrap ..) ?_);refine seg_execs_cons (seg_Expr_Yield hfs rfl hfg ?_ g.co g.ia);refine BC (s:={s with heap:=Pv,toks:=PQ}) g Pz e2 e3 fun tk tk'=>?_;intro kap hkap;have HC:∀b o,b≠env.locals->b≠I->s.heap.get? b=some o->Pv.get? b=some o:=fun b o h1 h2 q=>PB b o h1 ((Pl.2 b h2).trans q);refine⟨⟨ta,q,t,wc,nt,Pv.objs.size,tk,?_,L4,rfl,?_,ib.get?_push_size _ rfl⟩,⟨oi,ib.get?_push_of_some _ (PB I _ hIL hi1),hi2⟩,?_,?_,fun s'' hsame Jm=>hkap .none s'' ?_⟩
  .have:ws.size - 1 - n=k:=by lia
   refine R1 this ?_;exact hkw
  .cases hc:Pk.heap.get? Pv.objs.size with
   |none=>rfl
   |some o=>
    have hnn:Pv.get? Pv.objs.size=none:=ib.get?_none_of_le (aM _);obtain⟨h',tk0,e0,hk0⟩:=hsince;have hL2:env.locals<Pv.objs.size:=Pz.lt;have NK:I<Pv.objs.size:=ib.lt_size (PB I _ hIL hi1);have:=hk0 _ _ (aZ hL2) (by simpa using aZ NK) hc;have e1:h'=s.heap:=by exact R1 e0 rfl
    rw[e1] at this;rw[HC _ _ (aZ hL2) (aZ NK) this] at hnn;cases hnn
  .obtain⟨oL,_,_,e,_⟩:=id Pz;exact⟨oL,ib.get?_push_of_some _ e⟩
  .refine hsince.step fun b o h1 h2 q=>ib.get?_push_of_some _ (HC b o h1 (fun z=>h2 (by simp[z])) q)
  .refine seg_execs_nil (seg_again rfl (ih (k+1) s'' s'' PZ (by lia) hlt ⟨oi,?_,hi2,OD⟩ (Pz.at' fun o e=>?_) Jm (GenSince.refl _ _ _)))
   .exact hsame I (by simp) _ (ib.get?_push_of_some _ (PB I _ hIL hi1))
   .exact hsame _ (by simp) _ (ib.get?_push_of_some _ e)
theorem tv{kq:Gh}{wa dx p:hM}{K2:Int}{tk0:Tok}{op:Obj}{ws:Array g8}{nn:Nat}{m:Str->Option g8}{p1 p2 p3 p4 p5 sp ap tpos epos ypos xpos pos:Pos}{k1 k2:Nat}(g:qS env)(hh:A.handled=none)
  (hop:op={cls:=.type "list",data:=.seq ws nn}) (hws:∀(k:Nat) (w:g8),ws[k]?=some w->∃(ta:hM) (q:Int) (t:Tok) (wc:g8) (n:Nat),w=g8.ref ta/\kq ta=some (sE q t wc n))
  (NA:p≠env.locals) (My:kq env.locals=none) (GB:kq s.heap.objs.size=none)
  (hw:kq wa=some (instObj 80 dx)) (hdx:kq dx=some (Obj.putName "pq" K2 (.str "pq" tk0) (.ref p) iL)) (hK:(hd.heap_1 B.w.params).In s.heap)
  (hn:s.heap.Ns env.locals m) (hself:m "self" = some (.ref wa)) (nI:y0 kq p op s.heap) :
  Seg (M B) A (Ct env.locals s.heap.objs.size) (rY kq p op ws env.locals s.heap.objs.size) ws.size s
   (.func [.For (.Tuple [.Name "pr" p1,.Name "cmt" p2] k1 tpos) (.Attribute (.Name "self" sp) "pq" ap) [.Expr (.Yield (some (.Tuple [.UnaryOp .USub (.Name "pr" p3) p5,.Name "cmt" p4] k2 epos)) ypos) xpos] [] pos] env)
   ((M B).den (.func [.For (.Tuple [.Name "pr" p1,.Name "cmt" p2] k1 tpos) (.Attribute (.Name "self" sp) "pq" ap) [.Expr (.Yield (some (.Tuple [.UnaryOp .USub (.Name "pr" p3) p5,.Name "cmt" p4] k2 epos)) ypos) xpos] [] pos] env)) [] s:=by
 have hLs:env.locals<s.heap.objs.size:=hn.lt;have hps:p<s.heap.objs.size:=ib.lt_size nI.2.1;have hcs:cStatics<s.heap.objs.size:=let ⟨_,hn,_⟩:=nI.2.2;hn.lt;refine seg_func (seg_execs_cons ?_);refine R1 (exec_For ..) ?_;refine iA (ic ?_);refine iA ?_;refine Attribute_name (wpAny_Name (iu g.kind g.self hn hself ?_) (by decide));refine get_value hK ⟨nI.1 _ _ hw,rfl,rfl,nI.1 _ _ hdx⟩ (sH _) (xC _ _ _ _) rfl ?_;refine iA (wpAny_of_eq (a:=g8.ref p) rfl ?_);refine iA (ic ?_);refine iA (ik (wpAny_pyIter_list (s:={s with toks:=s.toks+1}) (js (hop▸nI.2.1)) ?_));refine seg_call fun p'=>?_;refine C6 g hh ?_ ?_ ?_ hop hws (aZ hLs) (aK hps) NA ⟨GB,My⟩ (fun Pk s hs=>?_) _ 0 _ _ m (Nat.sub_zero _) (bt _) ⟨_,ib.get?_push_size _ rfl,rfl,rfl⟩ (hn.push _) ⟨fun b o q=>ib.get?_push_of_some _ (nI.1 b o q),ib.get?_push_of_some _ nI.2.1,nI.2.2.keeps fun b o q=>ib.get?_push_of_some _ q⟩ ?_
 .exact hh
 .rfl
 .rfl
 .refine seg_leaf (.ok .next) ?_;exact seg_end (.ok (.ret .none)) ⟨rfl,rfl,hs⟩
 .exact⟨_,_,rfl,fun b o Y Y q=>ib.get?_push_of_some _ q⟩
end
section
variable{B:Base}{C:Ctx}{Φ jh iQ:Gh}{ρ ρ' iP:List hM}{σ σ':AS}{s s':g9}{d:Nat}{ψ jw:Gh}
theorem Step.HK{sB:g9}{xz:Gh}{xy:List hM}(x:Step ψ sB xz xy s Φ ρ){g:Nat}(hg:sB.gens.size<=g)(e:Ext Φ ρ jh ρ)(hgens:∀i,i≠g->s'.gens[i]?=s.gens[i]?)(h:∀b o,jh b=some o->Φ b=some o\/ψ b=none): Step ψ sB xz xy s' jh ρ:=
 ⟨x.ext.trans e,fun i gs q=>by refine R1 (hgens i (aK (aD (dc.mp q).1 hg))) ?_;exact x.gens _ _ q,fun b o q=>(h b o q).elim (x.phi b o) fun h=>.inr h,fun b hb=>x.Hq b hb⟩
theorem Cd{sB:g9}{xz:Gh}{xy:List hM}{target:iB}{body:List Stmt}{a:hM}{g:Nat}{St:Gh->List hM->List hM->List V->g9->Prop}{asg:V->P Unit}{bp:P AF}(F:C.mT)(hg:sB.gens.size<=g)
  (frame:∀Φ ρ jh ρ' fp xs s s',St Φ ρ fp xs s->Ext Φ ρ jh ρ'->(∀b∈fp,∀o,s.heap.get? b=some o->s'.heap.get? b=some o)->(∀gs,s.gens[g]?=some gs->s'.gens[g]?=some gs)->St jh ρ' fp xs s')
  (item:∀Φ ρ σ fp x xs s (Q:g8->g9->Prop) (E:g8->g9->Prop),St Φ ρ fp (x::xs) s->Rel B (C.at ψ) Φ ρ σ s->Off (C.at ψ) Φ ρ fp->
   (∀v s' jh fp',Gh.Le Φ jh->(∀b o,jh b=some o->s'.heap.get? b=some o)->(∀b o,jh b=some o->Φ b=some o\/s.heap.get? b=none)->(∀b o,b∉fp->s.heap.get? b=some o->s'.heap.get? b=some o)->
    (∀b∈fp',jh b=none/\(b∈fp\/s.heap.get? b=none)/\∃o,s'.heap.get? b=some o)->s'.os=s.os->AllBare s'.gens->(∀i,i≠g->s'.gens[i]?=s.gens[i]?)->jf jh ρ x v->St jh ρ fp' xs s'->Q v s')->
   hZ (M B) C.A (pyNext (.ref a)) (fun r s'=>match r with | none=>False | some v=>hZ (M B) C.A (letOwnedTupleGo target (.ref a) v) (fun Y s''=>Q v s'') E s') E s)
  (done:∀Φ ρ σ fp s (Q:g9->Prop) (E:g8->g9->Prop),St Φ ρ fp [] s->Rel B (C.at ψ) Φ ρ σ s->Off (C.at ψ) Φ ρ fp->
   (∀s',(∀b o,b∉fp->s.heap.get? b=some o->s'.heap.get? b=some o)->s'.os=s.os->AllBare s'.gens->(∀i,i≠g->s'.gens[i]?=s.gens[i]?)->Q s')->
   hZ (M B) C.A (pyNext (.ref a)) (fun r s'=>r=none/\Q s') E s)
  (nX:∀jw iS iT v w,Ext iQ iP iS iT->jf iS iT v w->jm B (C.at jw) iS iT TR (assign target C.env w) (asg v))
  (hbody:∀jw,jm B (C.at jw) iQ iP FR (iE body C.env) bp) (Ka:∀jw,(C.at jw).Ok d) :
  ∀(xs:List V) Φ ρ σ s fp,Ext iQ iP Φ ρ->Step ψ sB xz xy s Φ ρ->Rel B (C.at ψ) Φ ρ σ s->Off (C.at ψ) Φ ρ fp->(∀b∈fp,∃o,s.heap.get? b=some o)->St Φ ρ fp xs s->∀res,P.forL asg bp xs σ=res->(∀(q:res=.stuck),False)->
   iy (M B) C.A (.forLoop target (.ref a) body [] C.env) (lN B (C.at ψ) xz xy sB res) s:=
 fun xs Φ ρ σ s fp e zj r off ex st res hres hns=>A6 F (fun Φ ρ jh ρ' fp xs s s' st e Y hf Jk=>frame Φ ρ jh ρ' fp xs s s' st e hf (Jk g))
  (fun Φ ρ σ s fp x xs zj r off ex st=>item Φ ρ σ fp x xs s _ _ st r off fun v s' jh fp' le hin hfr hk Jl ho hbare Jk hv st'=>
   ⟨jh,fp',⟨le,aY _⟩,zj.HK hg ⟨le,aY _⟩ Jk fun b o q=>(hfr b o q).imp id r.mH,r.pK off hk le hin hfr hbare ho,
    fun b hb=>⟨(Jl b hb).1,(Jl b hb).2.1.elim (fun q=>(off b q).2) fun q=>(r.lq q).2⟩,hv,st',fun b hb=>(Jl b hb).2.2⟩)
  (fun Φ ρ σ s fp zj r off st=>done Φ ρ σ fp s _ _ st r off fun s' hk ho hb Jk=>
   ⟨zj.HK hg (.refl _ _) Jk fun Y Y q=>.inl q,r.pK off hk (.refl _) (fun b o q=>hk b o (fun hm=>no ((off b hm).1.symm.trans q)) (r.keep b o q)) (fun b o q=>.inl q) hb ho⟩)
  nX hbody Ka xs Φ ρ σ s fp e zj r off ex st res hres hns
end
noncomputable def IV(v:V): Option V:=match v with
 |.tup vs=>match vs with
  |a::l=>match a with
   |.int q=>match l with
    |[c]=>some (.tup [.int (-q),c])
    |_=>none
   |_=>none
  |_=>none
 |_=>none
noncomputable def ql:List V->Option (List V)
 |[]=>some []
 |v::vs=>(IV v).bind fun y=>(ql vs).map (y::·)
inductive JO(Φ:Gh)(ρ:List hM)(y:V)(w:g8): Prop
 |mk (ta:hM) (q:Int) (t:Tok) (wc:g8) (n:Nat) (vc:V) (h1:w=.ref ta) (h2:Φ ta=some (sE q t wc n)) (h3:y=.tup [.int (-q),vc]) (h4:jf Φ ρ vc wc)
theorem F0{v y:V}(h:IV v=some y): ∃q c,v=.tup [.int q,c]/\y=.tup [.int (-q),c]:=by
 cases v with
 |tup vs=>cases vs with
  |nil=>exact no h
  |cons a l=>cases a with
   |int q=>cases l with
    |nil=>exact no h
    |cons c l=>cases l with
     |nil=>exact⟨q,c,rfl,(aq.inj h).symm⟩
     |cons _ _=>exact no h
   |_=>exact no h
 |_=>exact no h
theorem FZ{Φ:Gh}{ρ:List hM}{v y:V}{w:g8}(h:jf Φ ρ v w)(e:IV v=some y): JO Φ ρ y w:=by obtain⟨q,c,rfl,rfl⟩:=F0 e;obtain⟨A,us,n,rfl,h3,h4,h5⟩:=h.kG;obtain⟨wa,wb,hws,ha,hb⟩:=h5.two;obtain⟨t,rfl⟩:=ha.kG;refine⟨A,q,t,wb,n,c,rfl,?_,rfl,hb⟩;rw[h3,show us=#[.int q t,wb] by rw[←cM (xs:=us),hws]];rfl
theorem ye{Φ:Gh}{ρ:List hM}: ∀{vs ys:List V} {ws:List g8},ja Φ ρ vs ws->ql vs=some ys->ys.length=ws.length/\∀(i:Nat) y w,ys[i]?=some y->ws[i]?=some w->JO Φ ρ y w
 |[],ys,ws,h,e=>by
  refine R1 (show ws=[] from h.kG) (R1 (show ys=[] from(aq.inj e).symm) ?_);exact⟨rfl,fun i y w q=>no q⟩
 |v::vs,ys,ws,h,e=>by
  obtain⟨w,us,rfl,a,b⟩:=h.kG;obtain⟨y,h1,e⟩:=b8.mp e;obtain⟨ys',h2,rfl⟩:=aV.mp e;obtain⟨l1,l2⟩:=ye b h2;refine⟨congrArg (·+1) l1,fun i y' w' q1 q2=>?_⟩;cases i with
  |succ i=>exact l2 i y' w' q1 q2
  |zero=>refine R2 (aq.inj q1) (R2 (aq.inj q2) ?_);exact FZ a h1
theorem y0.since{kq:Gh}{p L I:hM}{op:Obj}{s s':g9}(x:y0 kq p op s.heap)(h:GenSince L [I] s s')(hΦ:kq L=none/\kq I=none)(hp:p≠L/\p≠I)(hc:cStatics≠L/\cStatics≠I): y0 kq p op s'.heap:=by obtain⟨h',tk,rfl,hk⟩:=h;refine⟨fun b o q=>hk b o (fun e=>by rw[e,hΦ.1] at q;cases q) (fun e=>by simp at e;rw[e,hΦ.2] at q;cases q) (x.1 b o q),hk _ _ hp.1 (by simpa using hp.2) x.2.1,?_⟩;obtain⟨mc,hns,hnn⟩:=x.2.2;exact⟨mc,hns.at' fun o e=>hk cStatics o hc.1 (by simpa using hc.2) e,hnn⟩
section
variable{prog:Program}{w:World}{A:ig}{E:g8->g9->Prop}{s:g9}
theorem sk{a:hM}{g n:Nat}{gs:GenState}{P:Nat->g9->g9->Prop}{Yp:Protocol}{Q:Option g8->g9->Prop}(hh:A.handled=none)
  (hl:s.heap.NoLimit) (hroom:A.depth<iH)
  (hg:s.heap.IsGen a g) (hgs:s.gens[g]?=some gs)
  (hgo:gs.Goes (model prog w) A.in1 (fun n Pk r s₁=>r=.ok (.ret .none)/\P n Pk s₁) Yp n (.send .none) (s.setGen g .running))
  (hY:∀v s₁ gs',gs'.bare=true->Yp (n - 1) (s.setGen g .running) v s₁ (fun r' s''=>match n with
    |0=>False
    |m+1=>gs'.Goes (model prog w) A.in1 (fun n Pk r s₁=>r=.ok (.ret .none)/\P n Pk s₁) Yp m r' s'')->Q (some v) (s₁.setGen g gs'))
  (hP:∀s₁,P n (s.setGen g .running) s₁->∀h',(∀b o,s₁.heap.get? b=some o->h'.get? b=some o)->Q none {s₁.setGen g .finished with heap:=h'}) :
  hZ (model prog w) A (pyNext (.ref a)) Q E s:=by
 unfold pyNext
 refine g7 (wpAny_attempt (wpAny_callSpecial?_slot (name:=Str.ofString "__next__") hg.typeIs slot_gen_next
  (wpAny_call_entry slot_gen_next hg.typeIs entry_gen_next ?_ (args_gen_next _))))
 show hZ _ A.in1 (iC.Generator.genWake (.ref a) (.send .none)) _ _ s;unfold iC.Generator.genWake;refine g7 (ik (wpAny_genNumber hg (g7 (wpAny_genState hgs ?_))));cases gs with
 |running=>exact hgo.elim
 |finished=>exact hgo.elim
 |_=>
  refine g7 (wpAny_roomToWake hl hroom ?_);show hZ _ A.in1 (.resume g (.send .none) [] _) _ _ s;refine wpAny_resumeQ hgs hgo (fun x s₁ hx=>?_) (fun v s₁ gs' hb hv=>?_)
  .obtain⟨rfl,hp⟩:=hx;show hZ _ A.in1 (newExc (.type "StopIteration") [] >>= _) _ _ _;refine g7 ?_;simp only[newExc,newTuple];refine g7 (wpAny_newObj_type ?_ (by size_fits));refine g7 (m:=firstArgMember _ _) (wpAny_of_eq (a:=g8.none) (by first | rfl | (simp only[firstArgMember];rfl)) ?_);refine wpAny_newObj_type ?_ (by size_fits);simp only[raiseNew];refine g7 (g7 (wpAny_handled ?_))
   first | rw[show A.in1.handled=none from hh] | rw[hh]
   refine wpAny_throw ?_;refine g7 (wpAny_isInstance (T:= "StopIteration") (b:=true) ⟨_,ib.get?_push_size _ rfl,rfl⟩ isSubtype_stop ?_);exact hO (hP s₁ hp _ fun b o hb=>ib.get?_push_of_some _ (ib.get?_push_of_some _ hb))
  .exact hO ⟨v,rfl,hO (hY v s₁ gs' hb hv)⟩
end
structure xr where
 kq:Gh
 Hk:List hM
 wa:hM
 dx:hM
 p:hM
 K2:Int
 tk0:Tok
 ws:Array g8
 nn:Nat
 env:Env
 a:hM
 g:Nat
 vs:List V
noncomputable def xr.op(G:xr): Obj:={cls:=.type "list",data:=.seq G.ws G.nn}
structure xr.Ok(G:xr)(body:List Stmt): Prop where
 MX:qS G.env
 work:G.kq G.wa=some (instObj 80 G.dx)
 Kg:G.kq G.dx=some (Obj.putName "pq" G.K2 (.str "pq" G.tk0) (.ref G.p) iL)
 len:G.vs.length=G.ws.size
 reps:∀(i:Nat) y w,G.vs[i]?=some y->G.ws[i]?=some w->JO G.kq G.Hk y w
 pL:G.p≠G.env.locals
 aL:G.a≠G.env.locals
 Nf:G.kq G.env.locals=none
 cL:cStatics≠G.env.locals
 shape:∃p1 p2 p3 p4 p5 sp ap tpos epos ypos xpos pos k1 k2,body=[.For (.Tuple [.Name "pr" p1,.Name "cmt" p2] k1 tpos) (.Attribute (.Name "self" sp) "pq" ap) [.Expr (.Yield (some (.Tuple [.UnaryOp .USub (.Name "pr" p3) p5,.Name "cmt" p4] k2 epos)) ypos) xpos] [] pos]
inductive O3(B:Base)(A:ig)(G:xr)(body:List Stmt)(fp:List hM)(k:Nat)(s:g9): Prop
 |fresh (m:Str->Option g8) (h0:k=0) (hfp:fp=[G.a,G.env.locals]) (hg:s.gens[G.g]?=some (.fresh (.func body G.env))) (hn:s.heap.Ns G.env.locals m) (hm:m "self" = some (.ref G.wa))
 |on (I:hM) (gs:GenState) (hfp:fp=[G.a,G.env.locals,I]) (hg:s.gens[G.g]?=some gs) (aI:G.a≠I) (Pd:∃o,s.heap.get? I=some o) (Pc:∃o,s.heap.get? G.env.locals=some o) (Ip:I≠G.p) (Ic:I≠cStatics) (Pf:G.kq I=none)
  (go:∀s'':g9,(∀b∈[G.env.locals,I],∀o,s.heap.get? b=some o->s''.heap.get? b=some o)->y0 G.kq G.p G.op s''.heap->gs.Goes (M B) A.in1 (Ct G.env.locals I) (rY G.kq G.p G.op G.ws G.env.locals I) (G.ws.size - k) (.send .none) s'')
inductive Hf(B:Base)(A:ig)(G:xr)(body:List Stmt)(Φ:Gh)(ρ:List hM)(fp:List hM)(ys:List V)(s:g9): Prop
 |mk (k:Nat) (h1:k<=G.ws.size) (h2:ys=G.vs.drop k) (h3:s.heap.IsGen G.a G.g) (h4:Ext G.kq G.Hk Φ ρ) (h5:O3 B A G body fp k s)
inductive O2(B:Base)(A:ig)(G:xr)(fp:List hM)(ys:List V)(s:g9): Prop
 |mk (I:hM) (gs:GenState) (k:Nat) (hk:k<=G.ws.size) (hys:ys=G.vs.drop k) (hgs:s.gens[G.g]?=some gs) (haI:G.a≠I) (Ca:I∈fp\/s.heap.get? I=none) (L5:I≠G.p) (L6:I≠cStatics) (GI:G.kq I=none)
  (GG:G.a∈fp) (B9:G.env.locals∈fp) (hL:∃o,s.heap.get? G.env.locals=some o) (hgo:gs.Goes (M B) A.in1 (Ct G.env.locals I) (rY G.kq G.p G.op G.ws G.env.locals I) (G.ws.size - k) (.send .none) (s.setGen G.g .running))
section
variable{B:Base}{C:Ctx}{Φ jh iQ:Gh}{ρ ρ' iP:List hM}{σ σ':AS}{s s':g9}{d:Nat}{ψ jw:Gh}{G:xr}{body:List Stmt}{A:ig}
theorem z9{h h':ib}{a g:Nat}(x:h.IsGen a g)(k:∀o,h.get? a=some o->h'.get? a=some o): h'.IsGen a g:=x.imp fun Y x=>x.imp fun Y x=>x.imp fun Y x=>x.imp_left (k _)
theorem Cb{fp:List hM}{xs:List V}(st:Hf B A G body Φ ρ fp xs s)(e:Ext Φ ρ jh ρ')(hf:∀b∈fp,∀o,s.heap.get? b=some o->s'.heap.get? b=some o)(hg:∀gs,s.gens[G.g]?=some gs->s'.gens[G.g]?=some gs): Hf B A G body jh ρ' fp xs s':=by
 obtain⟨k,h1,h2,h3,h4,h5⟩:=st;cases h5 with
 |fresh m q1 q2 q3 q4 q5=>
  subst q2;exact⟨k,h1,h2,z9 h3 (hf _ (.head _)),h4.trans e,.fresh m q1 rfl (hg _ q3) (q4.at' (hf _ (.tail _ (.head _)))) q5⟩
 |on I gs q1 q2 q3 q4 q5 q6 q7 q8 q9=>
  subst q1;exact⟨k,h1,h2,z9 h3 (hf _ (.head _)),h4.trans e,.on I gs rfl (hg _ q2) q3 (q4.imp (hf _ (.tail _ (.tail _ (.head _))))) (q5.imp (hf _ (.tail _ (.head _)))) q6 q7 q8 fun s'' hs hx=>q9 s'' (fun b hb o e=>hs b hb o (hf b (.tail _ hb) o e)) hx⟩
theorem wZ{fp:List hM}{ys:List V}(st:Hf B A G body Φ ρ fp ys s)(r:Rel B (C.at ψ) Φ ρ σ s)(hp:ψ G.p=some G.op): y0 G.kq G.p G.op s.heap:=by obtain⟨_,_,_,_,h4,_⟩:=st;exact⟨fun b o q=>r.keep _ _ (h4.1 _ _ q),r.jO _ _ hp,r.noLimit⟩
theorem yy{fp:List hM}{ys:List V}(K:G.Ok body)(hh:C.A.handled=none)(st:Hf B C.A G body Φ ρ fp ys s)(r:Rel B (C.at ψ) Φ ρ σ s)(hp:ψ G.p=some G.op): O2 B C.A G fp ys s:=by
 have nI:=wZ st r hp;obtain⟨k,h1,h2,h3,h4,h5⟩:=st;cases h5 with
 |on I gs q1 q2 q3 q4 q5 q6 q7 q8 q9=>exact⟨I,gs,k,h1,h2,q2,q3,.inl (q1▸.tail _ (.tail _ (.head _))),q6,q7,q8,q1▸.head _,q1▸.tail _ (.head _),q5,q9 _ (fun Y Y Y e=>e) nI⟩
 |fresh m q1 q2 q3 q4 q5=>
  subst q1 q2;have hcs:cStatics<s.heap.objs.size:=nI.2.2.elim fun Y hn=>hn.1.lt;have hn:s.heap.get? s.heap.objs.size=none:=ib.get?_none_of_le (aM _)
  have GB:G.kq s.heap.objs.size=none:=by
   cases q:G.kq s.heap.objs.size with
   |none=>rfl
   |some o=>exact no (hn.symm.trans (nI.1 _ _ q))
  have goes:(GenState.fresh (.func body G.env)).Goes (M B) C.A.in1 (Ct G.env.locals s.heap.objs.size) (rY G.kq G.p G.op G.ws G.env.locals s.heap.objs.size) (G.ws.size - 0) (.send .none) (s.setGen G.g .running):=by
   obtain⟨p1,p2,p3,p4,p5,sp,ap,tpos,epos,ypos,xpos,pos,k1,k2,hb⟩:=K.shape;refine R1 hb ?_;refine⟨rfl,?_⟩;refine tv (s:=s.setGen G.g .running) (A:=C.A.in1) K.MX hh rfl (fun k w hk=>?_) K.pL K.Nf GB K.work K.Kg r.xw q4 q5 nI
   have hlt:k<G.vs.length:=by refine R1 K.len ?_;exact(dc.mp hk).1
   obtain⟨ta,q,t,wc,n,vc,g1,g2,_⟩:=K.reps k _ w (az hlt) hk;exact⟨ta,q,t,wc,n,g1,g2⟩
  exact⟨s.heap.objs.size,_,0,h1,h2,q3,h3.elim fun Y h3=>h3.elim fun Y h3=>h3.elim fun Y h3=>aK (ib.lt_size h3.1),.inr hn,aZ (ib.lt_size nI.2.1),aZ hcs,GB,.head _,.tail _ (.head _),q4.elim fun o q=>⟨o,q.elim fun Y q=>q.elim fun Y q=>q.1⟩,goes⟩
theorem CI{q q':Int}{t t':Tok}{w w':g8}{n n':Nat}(h:sE q t w n=sE q' t' w' n'): q=q'/\t=t'/\w=w':=by
 have h:=congrArg Obj.data h;injection h with h _
 have h:=congrArg gY h;injection h with h1 h2
 injection h2 with h2 _
 injection h1 with h1 h3
 exact⟨h1,h3,h2⟩
theorem place{n k n':Nat}(h:n - k=n'+1): n - 1 - (n'+1 - 1)=k/\n - (k+1)=n':=by obtain⟨e,_⟩:n=k+(n'+1)/\True:=⟨(Nat.sub_eq_iff_eq_add' (aG (f6 (h▸bE _)))).mp h,trivial⟩;subst e;exact⟨(du ..),by exact R1 (Nat.sub_add_eq ..) (R1 (cS ..) rfl)⟩
theorem DZ{fp:List hM}{x:V}{xs:List V}{target:iB}(K:G.Ok body)(Kd:C.A.depth<iH)(hh:C.A.handled=none)(hp:ψ G.p=some G.op){Q:g8->g9->Prop}{E:g8->g9->Prop}
  (st:Hf B C.A G body Φ ρ fp (x::xs) s) (r:Rel B (C.at ψ) Φ ρ σ s) (off:Off (C.at ψ) Φ ρ fp)
  (hQ:∀v s' jh fp',Gh.Le Φ jh->(∀b o,jh b=some o->s'.heap.get? b=some o)->(∀b o,jh b=some o->Φ b=some o\/s.heap.get? b=none)->(∀b o,b∉fp->s.heap.get? b=some o->s'.heap.get? b=some o)->
    (∀b∈fp',jh b=none/\(b∈fp\/s.heap.get? b=none)/\∃o,s'.heap.get? b=some o)->s'.os=s.os->AllBare s'.gens->(∀i,i≠G.g->s'.gens[i]?=s.gens[i]?)->jf jh ρ x v->Hf B C.A G body jh ρ fp' xs s'->Q v s') :
  hZ (M B) C.A (pyNext (.ref G.a)) (fun r s'=>match r with | none=>False | some v=>hZ (M B) C.A (letOwnedTupleGo target (.ref G.a) v) (fun Y s''=>Q v s'') E s') E s:=by
 have nI:=wZ st r hp;obtain⟨I,gs,k,hk,hys,hgs,haI,Ca,L5,L6,GI,GG,B9,hL,hgo⟩:=yy K hh st r hp;obtain⟨_,_,_,hgen,hext,_⟩:=st;obtain⟨hx,hxs⟩:=drop_cons hys.symm;have hlt:k<G.ws.size:=K.len▸(au.mp hx).1;obtain⟨n',hn'⟩:=dU (aZ (f8 hlt));obtain⟨hidx,hnext⟩:=place hn';rw[hn'] at hgo;refine sk (P:=fun n Pk s₁=>n=0/\GenSince G.env.locals [I] Pk s₁) hh r.noLimit Kd hgen hgs hgo (fun v s₁ gs' hbare hv=>?_) (fun s₁ hp h' hk=>absurd hp.1 (dj _));obtain⟨⟨ta,q,t,wc,nt,a,tk,v1,v2,rfl,v4,v5⟩,⟨oI,i1,i2⟩,⟨oL',l1⟩,hsince,hkap⟩:=hv;rw[hidx] at v1;obtain⟨ta',q',t',O6,O8,vc,w1,w2,rfl,w4⟩:=K.reps k x _ hx v1;injection w1 with w1
 subst w1;obtain⟨rfl,rfl,rfl⟩:=CI (aq.inj (v2.symm.trans w2));obtain⟨h',tk',hs1,hfr⟩:=id hsince;have KR:s₁.heap=h':=by exact R1 hs1 rfl
 have hIn:∀{b o},b∉fp->s.heap.get? b=some o->b∉[I]:=fun hb e q=>by rw[af.mp q] at hb e;exact Ca.elim hb fun z=>no (z.symm.trans e)
 have fr:∀b o,b∉fp->s.heap.get? b=some o->s₁.heap.get? b=some o:=fun b o hb e=>KR▸hfr b o (fun q=>hb (q▸B9)) (hIn hb e) e;have hfrA:∀o,s.heap.get? G.a=some o->s₁.heap.get? G.a=some o:=fun o e=>KR▸hfr _ o K.aL (fun q=>haI (af.mp q)) e;have Mz:∀b o,Φ b=some o->s₁.heap.get? b=some o:=fun b o e=>fr b o (fun hb=>no ((off b hb).1.symm.trans e)) (r.keep _ _ e);have Mx:Φ a=none:=r.none_of v4;have le:Gh.Le Φ (Gh.set Φ a (sE (-q) tk wc 0)):=Gh.mj Mx;have HI:s₁.heap.IsGen G.a G.g:=z9 hgen hfrA;obtain⟨og,nm,qn,Np,Oj,O7⟩:=id HI
 have Op:I≠a:=fun z=>by rw[z,v5] at i1;injection i1 with i1;rw[←i1] at i2;injection i2 with i2;exact absurd i2 (by decide)
 have z5:s₁.gens=(s.setGen G.g .running).gens:=by exact R1 hs1 rfl
 have hself:(s₁.setGen G.g gs').gens[G.g]?=some gs':=setGen_self (gs:=.running) (by refine R1 z5 ?_;exact setGen_self hgs);have Nq:∀{b},(∃o,s.heap.get? b=some o)->b≠a:=fun⟨o,ho⟩ z=>no (v4.symm.trans (z▸ho));refine nc (s:=s₁.setGen G.g gs') Np Oj (by decide) (hQ (.ref a) _ (Gh.set Φ a (sE (-q) tk wc 0)) [G.a,G.env.locals,I] le ?_ ?_ fr ?_ (by exact R1 hs1 rfl) ?_ ?_ ?_ ?_)
 .intro b o e;by_cases z:b=a
  .exact(z▸v5).trans ((if_pos z).symm.trans e)
  .exact Mz b o ((if_neg z).symm.trans e)
 .intro b o e;by_cases z:b=a
  .exact .inr (z▸v4)
  .exact .inl ((if_neg z).symm.trans e)
 .refine an.mpr ⟨⟨(if_neg (Nq (hgen.elim fun o x=>⟨o,x.elim fun Y x=>x.elim fun Y x=>x.1⟩))).trans (off _ GG).1,.inl GG,⟨og,Np⟩⟩,an.mpr ⟨⟨(if_neg (Nq hL)).trans (off _ B9).1,.inl B9,⟨oL',l1⟩⟩,an.mpr ⟨⟨(if_neg Op).trans ?_,Ca,⟨oI,i1⟩⟩,fun Y h=>nomatch h⟩⟩⟩;exact Ca.elim (fun z=>(off _ z).1) r.none_of
 .have hG:GenOnly G.g s.gens (s₁.setGen G.g gs').gens:=GenOnly.trans (by refine R1 z5 ?_;exact GenOnly.setGen s G.g .running) (GenOnly.setGen s₁ G.g gs');exact(GenOnlyQ.of hG hself hbare).bare r.gens
 .intro i hi;exact((GenOnly.setGen s₁ G.g gs').2 i hi).trans (by refine R1 z5 ?_;exact(GenOnly.setGen s G.g .running).2 i hi)
 .exact .tup (Gh.jQ _ _ _) (by refine R1 im ?_;exact(by decide:2<=16777216)) (.cons (.int _ _) (.cons ((w4.mono hext).mono ⟨le,aY _⟩) .nil))
 .exact⟨k+1,hlt,hxs.symm,HI,⟨hext.1.trans le,hext.2⟩,.on I gs' rfl hself haI ⟨oI,i1⟩ ⟨oL',l1⟩ L5 L6 GI fun s'' hs hx=>by refine R1 hnext ?_;exact hkap s'' hs hx⟩
theorem D0{fp:List hM}(K:G.Ok body)(Kd:C.A.depth<iH)(hh:C.A.handled=none)(hp:ψ G.p=some G.op){Q:g9->Prop}{E:g8->g9->Prop}
  (st:Hf B C.A G body Φ ρ fp [] s) (r:Rel B (C.at ψ) Φ ρ σ s) (off:Off (C.at ψ) Φ ρ fp)
  (hQ:∀s',(∀b o,b∉fp->s.heap.get? b=some o->s'.heap.get? b=some o)->s'.os=s.os->AllBare s'.gens->(∀i,i≠G.g->s'.gens[i]?=s.gens[i]?)->Q s') :
  hZ (M B) C.A (pyNext (.ref G.a)) (fun r s'=>r=none/\Q s') E s:=by
 have nI:=wZ st r hp;obtain⟨I,gs,k,hk,hys,hgs,haI,Ca,L5,L6,GI,GG,B9,hL,hgo⟩:=yy K hh st r hp;obtain⟨_,_,_,hgen,hext,_⟩:=st
 have hk0:G.ws.size - k=0:=by have h:=congrArg cB hys;rw[eR,K.len] at h;exact h.symm
 rw[hk0] at hgo;refine sk (P:=fun n Pk s₁=>n=0/\GenSince G.env.locals [I] Pk s₁) hh r.noLimit Kd hgen hgs hgo (fun v s₁ gs' hbare hv=>?_) (fun s₁ hp h' hk=>?_)
 .obtain⟨_,_,_,hsince,hkap⟩:=hv;exact(hkap s₁ (fun Y Y Y e=>e) (nI.since (s:=s.setGen G.g .running) hsince ⟨K.Nf,GI⟩ ⟨K.pL,L5.symm⟩ ⟨K.cL,L6.symm⟩)).elim
 .obtain⟨_,h1,tk1,rfl,hfr⟩:=hp;have hG:GenOnly G.g s.gens ((s.setGen G.g .running).setGen G.g .finished).gens:=GenOnly.trans (GenOnly.setGen s G.g .running) (GenOnly.setGen _ G.g .finished);have hself:((s.setGen G.g .running).setGen G.g .finished).gens[G.g]?=some .finished:=setGen_self (gs:=.running) (setGen_self hgs);refine⟨rfl,hQ _ (fun b o hb e=>hk b o (hfr b o (fun q=>hb (q▸B9)) (fun q=>?_) e)) rfl ((GenOnlyQ.of hG hself rfl).bare r.gens) fun i hi=>hG.2 i hi⟩;rw[af.mp q] at hb e;exact Ca.elim hb fun z=>no (z.symm.trans e)
end
section
variable{B:Base}{C:Ctx}{Φ jh iQ:Gh}{ρ ρ' iP:List hM}{σ σ':AS}{s s':g9}{d:Nat}{ψ jw:Gh}
noncomputable def we(P:Params)(L:hM): Env:=newEnv (ki P 77).scope L (ki P 77).globals (ki P 77).closure ((ki P 77).qualname++ ".<locals>.") (some 77) (ki P 77).code none (ki P 77).builtins
theorem AG(B:Base): ∃o,B.h0.get? 77=some o/\o.data=.func (ki B.w.params 77):=⟨_,B.K _ _ rfl,rfl⟩
theorem BP(P:Params)(L:hM): qS (we P L):=⟨rfl,rfl,rfl,rfl,rfl,rfl⟩
theorem zA(P:Params): ∃p1 p2 p3 p4 p5 sp ap tpos epos ypos xpos pos k1 k2,bodyOf (ki P 77)=[.For (.Tuple [.Name "pr" p1,.Name "cmt" p2] k1 tpos) (.Attribute (.Name "self" sp) "pq" ap) [.Expr (.Yield (some (.Tuple [.UnaryOp .USub (.Name "pr" p3) p5,.Name "cmt" p4] k2 epos)) ypos) xpos] [] pos]:=
 ⟨_,_,_,_,_,_,_,_,_,_,_,_,_,_,rfl⟩
theorem BQ(P:Params)(w:g8): bindArgs (ki P 77) ⟨[w],[]⟩=pure [(("self" : Str),w)]:=rfl
theorem BO{wa:hM}(K:C.Ok (d+1))(r:Rel B C Φ ρ σ s){Q:g8->g9->Prop}{E:g8->g9->Prop}
  (h:∀s' m,(∀b o,s.heap.get? b=some o->s'.heap.get? b=some o)->s'.os=s.os->s'.gens=s.gens.push (.fresh (.func (bodyOf (ki B.w.params 77)) (we B.w.params s.heap.objs.size)))->
   s'.heap.Ns s.heap.objs.size m->m "self" = some (.ref wa)->s'.heap.IsGen (s.heap.objs.size+1) s.gens.size->Q (.ref (s.heap.objs.size+1)) s') :
  hZ (M B) C.A (call (.ref 77) [.ref wa] []) Q E s:=by
 obtain⟨o,ho,hdt⟩:=AG B;have ho':=r.keep _ _ (r.base _ _ ho);refine wpAny_call (codeAny_call_generator (by have:=K.depth;exact dF this) ho' hdt rfl rfl rfl (codeRec_of r.xw (by kernel_rfl)) ?_);refine R1 (BQ ..) ?_;refine hO (wpAny_newFunctionEnv (by intro z hz;exact of_decide_eq_true (bl.mp (show(ki B.w.params 77).scope.names.all (fun z=>decide (z.2≠.cell))=true by kernel_rfl) z hz)) (fun z hz=>?_) (fun h' hns hsb=>?_) rfl)
 .exact R1 (af.mp hz) rfl
 .have keep':∀b o,s.heap.get? b=some o->h'.get? b=some o:=fun b o e=>hsb.extBut b o (aK (ib.lt_size e)) (ib.get?_push_of_some _ e);have hsz:h'.objs.size=s.heap.objs.size+1:=by exact R1 hsb.1 (R1 (ib.size_push ..) rfl)
  refine⟨r.noLimit.keeps keep',?_⟩;show Q (.ref h'.objs.size) _;refine R1 hsz ?_;have hp:=ib.get?_push_size (h:=h') (o:={cls:=.type "generator",data:=.fields #[.int s.gens.size 0,.str (ki B.w.params 77).name (s.toks+1),.str (ki B.w.params 77).qualname (s.toks+1+1)]}) rfl;rw[hsz] at hp;exact h _ _ (fun b o e=>ib.get?_push_of_some _ (keep' b o e)) rfl rfl (hns.push _) (by simp) ⟨_,_,_,hp,rfl,rfl,rfl⟩
end
section
variable{B:Base}{C:Ctx}{Φ jh iQ:Gh}{ρ ρ' iP:List hM}{σ σ':AS}{s s':g9}{d:Nat}{ψ jw:Gh}
noncomputable def V.wk:V->Option Nat
 |.work n=>aq n
 |_=>g0
noncomputable def Slot.wk:Slot->Option Nat
 |.val v=>v.wk
 |_=>g0
theorem Ih{o:Option Slot}{n:Nat}(h:o.bind Slot.wk=some n): o=some (.val (.work n)):=by
 cases o with
 |none=>cases h
 |some s=>cases s with
  |val v=>cases v with
   |work m=>cases h;rfl
   |_=>cases h
  |_=>cases h
noncomputable def P.sS(i n:Nat)(asg:V->P Unit)(bp:P AF)(ys:List V): P AF:=fun σ=>match (σ.vars[i]?).bind Slot.wk with
 |some n'=>if n'=n then P.forL asg bp ys σ else .stuck
 |none=>.stuck
theorem x3{x:Str}{np apos cpos pos:Pos}{target:iB}{body:List Stmt}{asg:V->P Unit}{bp:P AF}{i n nn:Nat}{p:hM}{ws:Array g8}{vs ys:List V}(Ka:∀jw,(C.at jw).Ok (d+1))(F:C.mT)(hh:C.A.handled=none)
  (hi:slotIn nums C.slots x=some (i,.loc)) (hp:iP[n]?=some p) (xx:ψ p=some {cls:=.type "list",data:=.seq ws nn}) (hvs:ja iQ iP vs ws.toList) (hys:ql vs=some ys)
  (nX:∀jw iS iT v w,Ext iQ iP iS iT->jf iS iT v w->jm B (C.at jw) iS iT TR (assign target C.env w) (asg v))
  (hbody:∀jw,jm B (C.at jw) iQ iP FR (iE body C.env) bp)
  (hd:autoParam ((x == ("__debug__" : Str))=false) PySem.ldc._auto_1)
  (hbase:autoParam (attributeBase (.Name x np) "rows" C.env (iF (.Name x np) C.env)=iF (.Name x np) C.env) PySem.W.call_K._auto_4)
  (hfew:autoParam ((((il cpos (ie [] C.env)).all (fun x=>!x.1)&&(backToKw cpos (iq [] C.env)).all (fun x=>x.1.isSome)
&&decide (([]:List iB).length+([]:List Keyword).length+(if([]:List Keyword).isEmpty then 0 else 1)<30))=true)) PySem.W.call_K._auto_4)
  (hline:autoParam ((apos.endLine == cpos.line)=true) PySem.W.call_K._auto_4)
  (hs':autoParam (∀v,ip (.Call (.Attribute (.Name x np) "rows" apos) [] [] cpos) C.env v=pure v) PyProof.Rows.Assign_ListComp_rowsP._auto_1) :
  jm B (C.at ψ) iQ iP FR (exec (.For target (.Call (.Attribute (.Name x np) "rows" apos) [] [] cpos) body [] pos) C.env) (P.sS i n asg bp ys):=by
 intro Φ ρ σ s e r;unfold P.sS;cases hv:(σ.vars[i]?).bind Slot.wk with
 |none=>trivial
 |some n'=>
  dsimp only;by_cases hnn:n'=n
  case neg=>rw[if_neg hnn];trivial
  rw[if_pos hnn];replace hv:=Ih (hnn▸hv);clear hnn n';obtain⟨m,hn,hm⟩:=r.ns;obtain⟨w,hmx,hw⟩:=hm i x _ (slot_get hi) hv;generalize hres:P.forL asg bp ys σ=res;obtain⟨wa,dx,K2,tk0,p',rfl,w1,w2,w3⟩:=hw.kG;obtain rfl:p'=p:=aq.inj (w3.symm.trans (jX e.2 hp));clear w3 hw hm;obtain⟨Ol,Jj,Jn⟩:=AG B;have hform:methodCallForm (([]:List iB).length+([]:List Keyword).length) (il cpos (ie [] C.env)) (backToKw cpos (iq [] C.env))=true:=hfew;have hpos:methodCallPos true (.Name x np) C.env apos cpos=pure cpos:=by unfold methodCallPos;simp[hline]
  have K3:C.A.depth<iH:=by have h0:C.A.depth+(d+1+1)*4<iH:=(Ka ψ).depth;exact ag (ay _ _) h0
  have main:∀{Q:Flow->g9->Prop} {E:g8->g9->Prop},(res=.stuck->False)->
    (∀r s',lN B (C.at ψ) Φ ρ s res r s'->match r with | .ok f=>Q f s' | .error e=>cameBackBy (M B) C.A C.env E e s')->
    hZ (M B) C.A (exec (.For target (.Call (.Attribute (.Name x np) "rows" apos) [] [] cpos) body [] pos) C.env) Q E s:=fun{Q E} hns hQ=>by
   refine wpAny_For ?_ hs';refine R1 (arm_eval_Call ..) (R1 hbase ?_);refine g7 (wpAny_Name (iu (Ka ψ).kind ((Ka ψ).link i x _ (slot_get hi)) hn hmx ?_) hd);refine g7 (ic ?_);unfold methodCall;refine R1 hform ?_;refine g7 (ik (method_fn r.xw (rD r w1 w2) (sH _) (xD _) (By _) rfl rfl ?_));refine g7 (wpAny_of_eq hpos ?_);refine Bf (B:=B) Jj Jn _ _ _ [.ref wa] _ _ _ rfl (hO ⟨fun b o q=>r.keep _ _ (r.base _ _ q),?_⟩);refine BO (C:=C.at ψ) (Ka ψ) r fun s' m' hk hos hgens KW hself hgen=>?_;refine wpAny_pyIter_gen hgen ?_;have hL:s.heap.get? s.heap.objs.size=none:=ib.get?_none_of_le (aM _);have hA:s.heap.get? (s.heap.objs.size+1)=none:=ib.get?_none_of_le (bU _);have Lu:AllBare s'.gens:=by refine R1 hgens ?_;exact r.gens.push rfl
   have r':Rel B (C.at ψ) Φ ρ σ s':=r.grow hk Lu hos;let G:xr:=⟨Φ,ρ,wa,dx,p',K2,tk0,ws,nn,we B.w.params s.heap.objs.size,s.heap.objs.size+1,s.gens.size,ys⟩;have MD:=hvs.mono e;obtain⟨l1,l2⟩:=ye MD hys;have hop:ψ p'=some G.op:=xx
   have GK:G.Ok (bodyOf (ki B.w.params 77)):=by
    refine⟨BP _ _,w1,w2,by refine R2 a5 ?_;exact l1,fun i y w q1 q2=>l2 i y w q1 (by refine R1 aB ?_;exact q2),?_,?_,?_,?_,zA _⟩
    .exact aK (ib.lt_size (r.jO _ _ xx))
    .exact gq _
    .exact r.none_of hL
    .obtain⟨_,hnl,_⟩:=r.noLimit;exact aK hnl.lt
   have Mm:Off (C.at ψ) Φ ρ [G.a,G.env.locals]:=fun b hb=>by
    simp only[av,bR,or_false] at hb;rcases hb with rfl | rfl
    .exact r.lq hA
    .exact r.lq hL
   have st0:Hf B C.A G (bodyOf (ki B.w.params 77)) Φ ρ [G.a,G.env.locals] ys s':=by refine⟨0,bt _,rfl,hgen,.refl _ _,.fresh m' rfl rfl ?_ KW hself⟩;refine R1 hgens ?_;exact Array.getElem?_push_size ..
   have OL:∀(g:Nat) gs,s.gens[g]?=some gs->s'.gens[g]?=some gs:=fun g gs q=>by
    have hlt:g<s.gens.size:=by
     rcases di g s.gens.size with h' | h'
     .exact h'
     .rw[ff h'] at q;cases q
    exact R1 hgens (R1 (Array.getElem?_push_lt hlt) (R2 q (R1 (bH hlt) rfl)))
   have zj:Step ψ s Φ ρ s' Φ ρ:=⟨.refl _ _,OL,fun Y Y q=>.inl q,fun Y q=>.inl q⟩
   refine codeAny_mono (Cd (St:=Hf B C.A G (bodyOf (ki B.w.params 77))) (g:=G.g) F (aM _) (fun Y Y Y Y Y Y Y Y a b c d=>Cb a b c d) (fun Y Y Y Y Y Y Y Q E a b c d=>DZ GK K3 hh hop a b c d)
    (fun Y Y Y Y Y Q E a b c d=>D0 GK K3 hh hop a b c d)
    (fun jw iS iT v w e'=>nX jw iS iT v w (e.trans e')) (fun jw=>(hbody jw).weaken e) Ka ys Φ ρ σ s' [G.a,G.env.locals] (.refl _ _) zj r' Mm (fun b hb=>?_) st0 res hres hns) hQ
   simp only[av,bR,or_false] at hb;rcases hb with rfl | rfl
   .obtain⟨o,_,_,ho,_⟩:=hgen;exact⟨o,ho⟩
   .obtain⟨o,_,_,ho,_⟩:=KW;exact⟨o,ho⟩
  cases res with
  |stuck=>trivial
  |ok f oj=>
   refine main (fun q=>nomatch q) fun r s' h=>?_;cases r with
   |ok g=>exact h
   |error e=>exact h.elim
  |exc oj=>
   refine main (fun q=>nomatch q) fun r s' h=>?_;cases r with
   |ok g=>exact h.elim
   |error e=>
    obtain⟨jh,ρ',a,rfl,q1,q2,q3⟩:=h;exact nS q2 q3 fun Pg Pj Pw Py=>⟨jh,ρ',a,rfl,q1.trans (Py ψ),Pj,Pw.BD⟩
end
section
variable{B:Base}{C:Ctx}{Φ jh iQ:Gh}{ρ ρ' iP:List hM}{σ σ':AS}{s s':g9}{d:Nat}{ψ jw:Gh}{α β:Type}
noncomputable def P.zJ(n:Nat)(body:List V->P α): P α:=fun σ=>match σ.heap[n]? with
 |some (.list vs)=>match ql vs with
  |some ys=>match body ys {σ with heap:=σ.heap.set n .dead} with
   |.ok a σ'=>match σ'.heap[n]? with
    |some .dead=>.ok a {σ' with heap:=σ'.heap.set n (.list vs)}
    |_=>.stuck
   |_=>.stuck
  |none=>.stuck
 |_=>.stuck
theorem Rel.zJ(r:Rel B (C.at ψ) Φ ρ σ s){n:Nat}{p:hM}(hp:ρ[n]?=some p): Rel B (C.at (Gh.add ψ s.heap [p])) Φ ρ {σ with heap:=σ.heap.set n .dead} s:=by
 obtain⟨J7,Cw,Cq⟩:=r.apart;have hpm:p∈ρ:=aP hp;obtain⟨a1,a2,a3⟩:=Cq p hpm;have pm:p∈(C.at ψ).mine ρ:=aj _ hpm;have no:∀b,b≠p->ψ b=none->Gh.add ψ s.heap [p] b=none:=fun b h e=>by unfold Gh.add;refine R1 (if_neg (by simpa using h)) ?_;exact e
 obtain⟨op,hop⟩:=r.there pm;refine⟨r.base,r.keep,fun b o q=>?_,r.ns,fun i x c q=>?_,r.uN,fun i x c q=>?_,r.kT,by simpa using r.len,fun i o a q1 q2=>?_,fun a ha=>⟨(r.own a ha).1,no a ?_ (r.own a ha).2⟩,fun i a q1 q2=>?_,r.nodup,r.vars,fun P hP=>?_,r.gens,r.os,.refl _⟩
 .replace q:Gh.add ψ s.heap [p] b=some o:=q;unfold Gh.add at q;split at q
  .exact q
  .exact r.jO b o q
 .have hne:c≠p:=a3 c (jE q);exact(r.cells i x c q).mono (.refl _ _) fun e1 e2 Y=>⟨e1,no c hne e2,fun Y h=>h⟩
 .refine(r.nG i x c q).imp (fun h=>?_) id;show(Gh.add ψ s.heap [p] c).isSome;unfold Gh.add;split
  .rename_i hm;exact R1 (af.mp hm) (R1 hop rfl)
  .exact h
 .by_cases hi:i=n
  .subst hi;rw[hp] at q2;cases q2;have hlt:i<σ.heap.length:=by refine R2 r.len ?_;exact(au.mp hp).1
   have e:o=AO.dead:=by have e1:(σ.heap.set i AO.dead)[i]?=some AO.dead:=bk hlt;have FL:(σ.heap.set i AO.dead)[i]?=some o:=q1;rw[e1] at FL;injection FL with FL;exact FL.symm
   subst e;exact⟨op,hop⟩
  .exact r.objs i o a (by rwa[aJ (Ne.symm hi)] at q1) q2
 .rcases av.mp ha with rfl | ha
  .exact a1
  .obtain⟨z,hz,rfl⟩:=bg.mp ha;exact a2 z hz
 .have hi:i≠n:=fun q=>by
   subst q;have hlt:i<σ.heap.length:=by refine R2 r.len ?_;exact(au.mp hp).1
   exact q2 (bk hlt)
  have Kv:σ.heap[i]?≠some .dead:=by rwa[aJ (Ne.symm hi)] at q2
  have hne:a≠p:=fun q=>by subst q;exact hi ((cK (au.mp q1).1 r.p0).mp (q1.trans hp.symm))
  have:=r.live i a q1 Kv;exact⟨this.1,no _ hne this.2⟩
 .obtain⟨t1,t2,t3,t4⟩:=r.tabs P hP;exact⟨t1,t2,no _ (fun q=>t4 (q▸pm)) t3,t4⟩
theorem Rel.Ij(r:Rel B (C.at ψ) Φ ρ σ s){n:Nat}{p:hM}{ws:Array g8}{nn:Nat}{vs:List V}(hp:ρ[n]?=some p)(hΦ:Φ p=none)(xx:ψ p=none)
  (ho:s.heap.get? p=some {cls:=.type "list",data:=.seq ws nn}) (hsz:ws.size<=io) (hvs:ja Φ ρ vs ws.toList):Rel B (C.at ψ) Φ ρ {σ with heap:=σ.heap.set n (.list vs)} s:=by
 refine⟨r.base,r.keep,r.jO,r.ns,r.cells,r.uN,r.nG,r.kT,by simpa using r.len,fun i o a q1 q2=>?_,r.own,fun i a q1 q2=>?_,r.nodup,r.vars,r.tabs,r.gens,r.os,r.le⟩
 .by_cases hi:i=n
  .subst hi;rw[hp] at q2;cases q2;have hlt:i<σ.heap.length:=by refine R2 r.len ?_;exact(au.mp hp).1
   have e:o=AO.list vs:=by have e1:(σ.heap.set i (AO.list vs))[i]?=some (AO.list vs):=bk hlt;have FL:(σ.heap.set i (AO.list vs))[i]?=some o:=q1;rw[e1] at FL;injection FL with FL;exact FL.symm
   subst e;exact⟨ws,nn,ho,hsz,hvs⟩
  .exact r.objs i o a (by rwa[aJ (Ne.symm hi)] at q1) q2
 .by_cases hi:i=n
  .subst hi;rw[hp] at q1;cases q1;exact⟨hΦ,xx⟩
  .exact r.live i a q1 (by rwa[aJ (Ne.symm hi)] at q2)
theorem CX{n:Nat}{t:Sem α}{pb:List V->P β}{RR:Gh->List hM->β->α->Prop}
  (h:∀jw iS iT p ws nn vs ys,Ext iQ iP iS iT->iT[n]?=some p->jw p=some {cls:=.type "list",data:=.seq ws nn}->ja iS iT vs ws.toList->ql vs=some ys->jm B (C.at jw) iS iT RR t (pb ys)) :
  jm B (C.at ψ) iQ iP RR t (P.zJ n pb):=by
 intro Φ ρ σ s e r;unfold P.zJ;cases hn:σ.heap[n]? with
 |none=>trivial
 |some o=>
  cases o with
  |dict _=>trivial
  |dead=>trivial
  |list vs=>
   dsimp only;cases hys:ql vs with
   |none=>trivial
   |some ys=>
    dsimp only
    obtain⟨p,hp⟩:∃p,ρ[n]?=some p:=by
     have:n<ρ.length:=by refine R1 r.len ?_;exact(au.mp hn).1
     exact⟨_,az this⟩
    obtain⟨ws,nn,ho,hsz,hvs⟩:=r.objs n _ p hn hp;obtain⟨f1,f2⟩:=r.live n p hp (by refine R1 hn ?_;intro q;cases q);have r1:=r.zJ hp
    have xx:Gh.add ψ s.heap [p] p=some {cls:=.type "list",data:=.seq ws nn}:=by refine R1 (z8 (b9 _)) ?_;exact ho
    have h1:=h (Gh.add ψ s.heap [p]) Φ ρ p ws nn vs ys e hp xx hvs hys Φ ρ _ s (.refl _ _) r1;cases hb:pb ys {σ with heap:=σ.heap.set n .dead} with
    |stuck=>trivial
    |exc _=>trivial
    |ok a σ'=>
     dsimp only;cases hd:σ'.heap[n]? with
     |none=>trivial
     |some o'=>
      cases o' with
      |list _=>trivial
      |dict _=>trivial
      |dead=>
       rw[hb] at h1;have le:Gh.Le ψ (Gh.add ψ s.heap [p]):=Gh.pH fun b hb=>by refine R1 (af.mp hb) ?_;exact f2
       refine hV h1 (fun x s' q=>?_) fun Y Y q=>q;obtain⟨jh,ρ',q1,q2,q3⟩:=q
       have MA:jh p=none:=by
        cases z:jh p with
        |none=>rfl
        |some o2=>
         rcases q1.phi p o2 z with z1 | z1
         .rw[f1] at z1;cases z1
         .rw[show(C.at (Gh.add ψ s.heap [p])).jO p=_ from xx] at z1;cases z1
       have Kv:Rel B (C.at ψ) jh ρ' σ' s':=q2.Hm le fun i x c q=>(r.nG i x c q).imp id fun h=>by obtain⟨o',ho'⟩:=a8.mp h;exact R1 (q1.ext.1 _ _ ho') rfl
       exact⟨jh,ρ',q1.jO le,Kv.Ij (jX q1.ext.2 hp) MA f2 (q2.jO _ _ xx) hsz (hvs.mono q1.ext),q3⟩
end
noncomputable abbrev z7:=rB (mJ 0) ["wlst", "cstates", "dt", "cmt"] "_DNC"
noncomputable def vN(n:Nat)(ys:List V): {pb:P AF // ∀{B:Base} cc L a cd kT A ψ iQ iP (p:hM) (ws:Array g8) (nn:Nat) (vs:List V),(∀ψ,((z7 cc L a cd kT A).at ψ).Ok 1)->(z7 cc L a cd kT A).mT->A.handled=none->iP[n]?=some p->ψ p=some {cls:=.type "list",data:=.seq ws nn}->ja iQ iP vs ws.toList->ql vs=some ys->
  jm B ((z7 cc L a cd kT A).at ψ) iQ iP FR (iE (mJ 0).body (pR (mJ 0) [("_DNC",cc)] L a cd)) pb}:=
 ⟨_,fun{B} cc L a cd kT A ψ iQ iP p ws nn vs Ka F hh hp xx hvs hys=>
  iU (x3 Ka F hh rfl hp xx hvs hys (fun Y Y Y Y Y Y hv=>(j0 hh hv (fun Y Y Y Y Y hv=>(kK (tx (Ka _) rfl hv))) (fun Y Y Y Y Y hv=>(kK (tx (Ka _) rfl hv)))))
   (fun Y=>iZ (jq (iV (Ka _) (iR (Ka _) rfl) (iR (Ka _) rfl))
    (iZ (jq (jx (iV (Ka _) (iW (je hh (iR (Ka _) rfl) (iR (Ka _) rfl)) (k9 (Ka _) rfl)) (k9 (Ka _) rfl))) (iZ (jb jA)) jg)) jg)))
  (iZ (jb jA))⟩
section
variable{B:Base}{C D:Ctx}{Φ jh iQ iS:Gh}{ρ ρ' iP iT jv:List hM}{σ σ' Ph:AS}{s s' s₁ Pg:g9}{d:Nat}{ψ jw:Gh}{a:hM}{v u:V}{w:g8}
theorem Jo:uG (mJ 0) ["wlst", "cstates", "dt", "cmt"] "_DNC":=⟨rfl,rfl,rfl,by kernel_rfl,by kernel_rfl,by kernel_rfl,by kernel_rfl,by kernel_rfl,by decide⟩
theorem Fs{n:Nat}{wW:g8}{p:hM}{ws:Array g8}{nn:Nat}{vs ys:List V}(K:(C.at ψ).Ok (1+1))(hh:C.A.handled=none)(hv:jf iQ iP (.clo 0 [v]) (.ref a))(hW:jf iQ iP (.work n) wW)(hu:jf iQ iP u w)
  (hp:iP[n]?=some p) (xx:ψ p=some {cls:=.type "list",data:=.seq ws nn}) (hvs:ja iQ iP vs ws.toList) (hys:ql vs=some ys) :
  jm B (C.at ψ) iQ iP VR (call (.ref a) [wW,w] []) (P.fn [.val (.work n),.val u,.unset,.unset,.val v] (vN n ys).1):=
 to (xs:=["wlst", "cstates"]) K G2 Jo (fun Y Y Y Y Y=>rfl) (fun Y h=>(av.mp h).elim (fun e=>e▸.head _) fun h=>af.mp h▸.tail _ (.head _)) hv (.cons hW (.cons hu .nil)) (by kernel_rfl)
  fun cc L cd kT A jw iS iT e le Ka F hA=>(vN n ys).2 cc L a cd kT A jw iS iT p ws nn vs Ka F (hA.trans hh) (jX e.2 hp) (le _ _ xx) (hvs.mono e) hys
end
noncomputable def P.mX(c:V)(us:List V): P V:=match c with
 |.clo k cs=>match cs with
  |[v]=>match us with
   |[u]=>if k=1 then P.fn [.val u,.val v] yT.1 else if k=2 then P.fn [.val u,.val v] uu.1 else P.stuck
   |[w,u]=>match w with
    |.work n=>if k=0 then P.zJ n fun ys=>P.fn [.val (.work n),.val u,.unset,.unset,.val v] (vN n ys).1 else P.stuck
    |_=>P.stuck
   |_=>P.stuck
  |_=>P.stuck
 |_=>P.stuck
section
variable{B:Base}{C D:Ctx}{Φ jh iQ iS:Gh}{ρ ρ' iP iT jv:List hM}{σ σ' Ph:AS}{s s' s₁ Pg:g9}{d:Nat}{ψ jw:Gh}{a:hM}{v u:V}{w:g8}
theorem xZ{k:Nat}{cs vs:List V}{ws:List g8}(Ka:∀ψ,(C.at ψ).Ok 2)(hh:C.A.handled=none)(hv:jf iQ iP (.clo k cs) (.ref a))(hvs:ja iQ iP vs ws):
  jm B (C.at ψ) iQ iP VR (call (.ref a) ws []) (P.mX (.clo k cs) vs):=by
 cases cs with
 |nil=>exact jr
 |cons v cs=>cases cs with
  |cons _ _=>exact jr
  |nil=>cases vs with
   |nil=>exact jr
   |cons u vs=>cases vs with
    |nil=>
     obtain⟨_,rfl,h1⟩:=hvs.one;show jm B (C.at ψ) iQ iP VR _ (if k=1 then _ else if k=2 then _ else _);by_cases e:k=1
     .refine R1 (if_pos e) ?_;subst e;exact Fp (d:=1) (Ka ψ) hh hv h1
     .refine R1 (if_neg e) ?_;by_cases e:k=2
      .refine R1 (if_pos e) ?_;subst e;exact CT (d:=1) (Ka ψ) hh hv h1
      .refine R1 (if_neg e) ?_;exact jr
    |cons u' vs=>cases vs with
     |cons _ _=>exact jr
     |nil=>cases u with
      |work n=>
       obtain⟨w1,w2,rfl,h1,h2⟩:=hvs.two;show jm B (C.at ψ) iQ iP VR _ (if k=0 then _ else _);by_cases e:k=0
       .refine R1 (if_pos e) ?_;subst e;exact CX fun jw iS iT p ws nn vs ys e hp xx hws hys=>Fs (Ka jw) hh (hv.mono e) (h1.mono e) (h2.mono e) hp xx hws hys
       .refine R1 (if_neg e) ?_;exact jr
      |_=>exact jr
theorem lV{x:Str}{np pos:Pos}{args:List iB}{p:P V}{ps:P (List V)}(Ka:∀ψ,(C.at ψ).Ok 2)(hh:C.A.handled=none)(hf:jm B (C.at ψ) iQ iP VR (iF (.Name x np) C.env) p)
  (hargs:jm B (C.at ψ) iQ iP uW (ix (il pos (ie args C.env))) ps)
  (ht:autoParam ((il pos (ie args C.env)).any (·.1)=false) PySem.W.call_K._auto_4):jm B (C.at ψ) iQ iP VR (iF (.Call (.Name x np) args [] pos) C.env) (P.bind p fun v=>if vw v then P.bind ps (P.mX v) else P.stuck):=
 x4 hf hargs (fun iS iT k cs a vs ws e hv hvs=>xZ Ka hh hv hvs) ht
end
noncomputable abbrev Tg:=Keyed×Nat
noncomputable def ky(p:Tg): Int:=numOf p.1.1
noncomputable def lx(p q:Tg): Prop:=ky p<ky q\/(ky p=ky q/\p.2<q.2)
theorem tK{p q r:Tg}(h:lx p q)(k:lx q r): lx p r:=
 h.elim (fun h=>k.elim (fun k=>.inl (ef h k)) fun k=>.inl (k.1▸h)) fun h=>k.elim (fun k=>.inl (h.1▸k)) fun k=>.inr ⟨h.1.trans k.1,aF h.2 k.2⟩
structure SL(a₀:Array Keyed)(st:iJ)(M:List Tg): Prop where
 base:SBase a₀ st
 arr:(arrOf st).toList=M.map (·.1)
 perm:M.Perm a₀.toList.zipIdx
section
variable{α:Type}{xs:Array α}{A B C:List α}{x:α}{i j:Nat}
theorem wF:(A++x::B)[A.length]?=some x:=by rw[bh (aM _),dE];rfl
theorem sK{n:Nat}(h:n<B.length): (A++B++C)[A.length+n]?=B[n]?:=by exact R1 (ax ..) (R1 (bh (ay ..)) (R1 (cS ..) (R1 (aH h) rfl)))
theorem Iz{a b n:Nat}(h:n<b): a+(a+b) - 1 - (a+n)=a+(b - 1 - n):=by refine R1 (Nat.sub_sub ..) (R1 (Nat.sub_sub ..) (R1 (Nat.add_left_comm 1 a n) (R1 (Nat.add_sub_add_left ..) ?_)));rw[Nat.add_sub_assoc (bK n 1▸h)]
theorem yg(h:xs.toList=A++B++C)(hi:A.length=i)(hj:A.length+B.length=j): (PyProof.Rows.mirror xs i j ((j - i) / 2)).toList=A++B.reverse++C:=by
 subst hi hj;have hs:A.length+B.length<=xs.size:=by refine R2 a5 (R1 h (R1 ar (R1 ar ?_)));exact ay _ _
 refine f9 fun k=>?_;refine R1 aB ?_;rewrite[getElem?_mirror_all hs];refine R2 aB (R2 aB (R1 h ?_));by_cases h1:k<A.length
 .exact R1 (if_neg fun q=>cP.mpr q.1 h1) (R1 (ax ..) (R1 (ax ..) (R1 (aH h1) (R1 (aH h1) rfl))))
 .obtain⟨n,rfl⟩:=eS (cr h1);by_cases h2:n<B.length
  .have hr:n<B.reverse.length:=by refine R1 cz ?_;exact h2
   refine R1 (if_pos ⟨ay _ _,ch h2 _⟩) (R1 (sK hr) (R1 (List.getElem?_reverse h2) (R2 (sK (A:=A) (C:=C) (Nat.sub_one_sub_lt h2)) ?_)));exact congrArg _ (Iz h2)
  .have h2:=cr h2;have l1:(A++B).length<=A.length+n:=by refine R1 ar ?_;exact aC h2 _
   have l2:(A++B.reverse).length=(A++B).length:=by exact R1 ar (R1 ar (R1 cz rfl))
   exact R1 (if_neg fun q=>cP.mpr (aC h2 _) q.2) (R1 (bh l1) (R1 (bh (l2▸l1)) (R1 l2 rfl)))
theorem yS(h:xs.toList=A++B++x::C)(hi:A.length+B.length=i): (PyProof.Rows.bubble xs i B.length).toList=A++x::B++C:=by
 subst hi;have hs:A.length+B.length<xs.size:=by refine R2 a5 (R1 h (R1 ar (R1 ar ?_)));exact bM (bE _)
 refine f9 fun k=>?_;refine R1 aB ?_;rewrite[getElem?_bubble hs _ (bI _ _)];refine R1 (du ..) (R2 aB (R2 aB (R2 aB (R1 h ?_))));by_cases h1:k<A.length
 .exact R1 (if_neg (aK h1)) (R1 (if_neg fun q=>Nat.lt_asymm h1 q.1) (R1 (ax ..) (R1 (ax ..) (R1 (aH h1) (R1 (aH h1) rfl)))))
 .obtain⟨n,rfl⟩:=eS (cr h1);cases n with
  |zero=>refine R1 (if_pos (show A.length+0=A.length from rfl)) (R2 ar (R1 wF (R1 (ax ..) ?_)));exact wF.symm
  |succ n=>
   refine R1 (if_neg (aZ (bM (bE n)))) ?_;by_cases h2:n<B.length
   .refine R1 (if_pos ⟨bM (bE n),aC h2 _⟩) (R1 (sK (B:=x::B) (dM h2)) ?_);exact sK h2
   .have h2:=cr h2;have l1:(A++B).length<=A.length+n:=by refine R1 ar ?_;exact aC h2 _
    have l2:(A++x::B).length=(A++B).length+1:=by exact R1 ar (R1 ar rfl)
    refine R1 (if_neg fun q=>Nat.not_le.mpr (ch (bo h2) _) q.2) (R1 (bh (show(A++B).length<=A.length+(n+1) from bL l1)) (R1 (bh (show(A++x::B).length<=A.length+(n+1) from l2▸bc l1)) (R1 l2 ?_)));show(x::C)[A.length+n+1 - (A++B).length]?=C[A.length+n+1 - ((A++B).length+1)]?;exact R1 (Nat.succ_sub l1) (R1 (Nat.add_sub_add_right ..) rfl)
end
noncomputable def uI(P C:List Tg): Prop:=C.Pairwise (fun p q=>p.2<q.2)/\∀p∈P,∀q∈C,p.2<q.2
theorem uI.next{P C:List Tg}{x:Tg}(h:uI P (x::C)): uI (P++[x]) C:=
 ⟨(bN.mp h.1).2,fun p hp q hq=>(aA.mp hp).elim (fun hp=>h.2 p hp q (ad _ hq)) fun e=>af.mp e▸(bN.mp h.1).1 q hq⟩
theorem uI.sub{P P' C:List Tg}(h:uI P C)(k:∀p,p∈P'->p∈P): uI P' C:=⟨h.1,fun p hp=>h.2 p (k p hp)⟩
theorem EM{S C:List Tg}{b x:Tg}(hS:(S++[b]).Pairwise lx)(hb:uI (S++[b]) (x::C))(h:¬ ky x<ky b): (S++[b]++[x]).Pairwise lx:=by have hbx:lx b x:=(fV (cU.mp h)).imp id fun e=>⟨e,hb.2 b de x ac⟩;refine bO.mpr ⟨hS,bq _ _,fun p hp q hq=>af.mp hq▸?_⟩;exact(aA.mp hp).elim (fun hp=>tK ((bO.mp hS).2.2 p hp b ac) hbx) fun e=>af.mp e▸hbx
noncomputable abbrev xl(p q:Tg): Prop:=lx q p
structure DD(P Q:List Tg): Prop where
 a:P.Pairwise xl
 b:Q.Pairwise fun p q=>ky p=ky q/\p.2<q.2
 c:∀p∈P,∀q∈Q,ky q<ky p
theorem DD.turn{P Q:List Tg}(h:DD P Q): (P++Q.reverse).Pairwise xl:=
 bO.mpr ⟨h.a,dK.mpr (h.b.imp fun q=>.inr q),fun p hp q hq=>.inl (h.c p hp q (cb.mp hq))⟩
theorem DD.same{P Q:List Tg}{b:Tg}(h:DD P (Q++[b])): ∀q∈Q++[b],ky q=ky b:=fun q hq=>
 (aA.mp hq).elim (fun hq=>((bO.mp h.b).2.2 q hq b ac).1) fun e=>af.mp e▸rfl
theorem DD.fall{P Q:List Tg}{b x:Tg}(h:DD P (Q++[b]))(k:ky x<ky b): DD (P++(Q++[b]).reverse) [x]:=
 ⟨h.turn,bq _ _,fun p hp q hq=>af.mp hq▸(aA.mp hp).elim (fun hp=>ef k (h.c p hp b de)) fun hp=>(h.same p (cb.mp hp)).symm▸k⟩
theorem DD.stay{P Q C:List Tg}{b x:Tg}(h:DD P (Q++[b]))(hb:uI (P++(Q++[b])) (x::C))(k:ky x=ky b): DD P (Q++[b]++[x]):=
 ⟨h.a,bO.mpr ⟨h.b,bq _ _,fun p hp q hq=>af.mp hq▸⟨(h.same p hp).trans k.symm,hb.2 p (aj _ hp) x ac⟩⟩,
  fun p hp q hq=>(aA.mp hq).elim (h.c p hp q) fun e=>af.mp e▸k.symm▸h.c p hp b de⟩
section
variable{prog:Program}{w:World}{A:ig}{E:g8->g9->Prop}{s:g9}{a₀:Array Keyed}{st:iJ}{M:List Tg}
theorem SL.at{P C:List Tg}{x:Tg}(h:SL a₀ st (P++x::C)): (arrOf st)[P.length]?=some x.1:=by rw[←aB,h.arr,aN,wF];rfl
theorem SL.lt{P C:List Tg}{x:Tg}(h:SL a₀ st (P++x::C)): P.length<a₀.size:=h.base.size▸(dc.mp h.at).1
theorem SL.key{P C:List Tg}{x:Tg}(h:SL a₀ st (P++x::C)): K (arrOf st) P.length=ky x:=by unfold K;exact R1 h.at rfl
theorem SL.mirror{P B C:List Tg}{i j:Nat}(h:SL a₀ st (P++B++C))(hi:P.length=i)(hj:P.length+B.length=j): SL a₀ (setArr st (PyProof.Rows.mirror (arrOf st) i j ((j - i) / 2))) (P++B.reverse++C):=
 ⟨h.base.setArr (mirror_perm _ _ _ _),(yg (A:=P.map (·.1)) (B:=B.map (·.1)) (C:=C.map (·.1)) (by exact R1 h.arr (R1 aS (R1 aS rfl))) (by refine R1 (ak ..) ?_;exact hi) (by refine R1 (ak ..) (R1 (ak ..) ?_);exact hj)).trans (by exact R1 aS (R1 aS (R1 List.map_reverse rfl))),
  ((B.reverse_perm.append_left P).append_right C).trans h.perm⟩
theorem SL.bubble{P B C:List Tg}{x:Tg}{i l:Nat}(h:SL a₀ st (P++B++x::C))(hi:P.length+B.length=i)(hl:B.length=l): SL a₀ (setArr st (PyProof.Rows.bubble (arrOf st) i l)) (P++x::B++C):=by subst hl;have e:=yS (A:=P.map (·.1)) (B:=B.map (·.1)) (x:=x.1) (C:=C.map (·.1)) (i:=i) (by exact R1 h.arr (R1 aS (R1 aS (R1 aR rfl)))) (by refine R1 (ak ..) (R1 (ak ..) ?_);exact hi);rw[ak] at e;refine⟨h.base.setArr (bubble_perm _ _ _),e.trans (by exact R1 aS (R1 aS (R1 aR rfl))),eO.trans ?_ h.perm⟩;refine R1 (ax ..) (R1 (ax ..) ?_);exact(gv (a:=x) (l₁:=B) (l₂:=C)).symm.append_left P
theorem qU(h0:IntKeys a₀)(h:SL a₀ st M){P C P' C':List Tg}{x y:Tg}{i j:Nat}{Q:Option Bool->iJ->Prop}(hx:M=P++x::C)(hy:M=P'++y::C')(hi:P.length=i)(hj:P'.length=j)(hQ:Q (some (decide (ky x<ky y))) st): wpS (model prog w) A E s (ltAt' i j) Q st:=by subst hi hj;have h1:SL a₀ st (P++x::C):=hx▸h;have h2:SL a₀ st (P'++y::C'):=hy▸h;exact wpS_ltK h.base h0 h1.lt h2.lt (by refine R1 h1.key (R1 h2.key ?_);exact hQ)
theorem AV{M:Model}{β γ:Type}{a b:Nat}{f:Nat->β->StateT iJ Sem (ForInStep β)}(I:List γ->β->iJ->Prop){Q:β->iJ->Prop}
  (step:∀i x r c st,i+(r.length+1)=b->I (x::r) c st->wpS M A E s (f i c) (fun res st'=>match res with | .done c'=>Q c' st' | .yield c'=>I r c' st') st) (fin:∀c st,I [] c st->Q c st)
  {C:List γ} {c:β} (hb:a+C.length=b) (h:I C c st):wpS M A E s (forIn [a:b] c f) Q st:=by
 refine wpS_forRange (I:=fun i c st=>∃r:List γ,i+r.length=b/\I r c st) (fun i c st _ hi ⟨r,hr,hI⟩=>?_) (fun c st ⟨r,hr,hI⟩=>?_) ⟨C,hb,h⟩
 .cases r with
  |nil=>exact absurd hr (aK hi)
  |cons x r=>
   refine wpS_mono (step i x r c st hr hI) fun res st' h'=>?_;cases res with
   |done c'=>exact h'
   |yield c'=>exact⟨r,(bY i 1 r.length).trans hr,h'⟩
 .cases r with
  |nil=>exact fin c st hI
  |cons x r=>exact absurd hr (aZ (ag (Nat.le_max_right a b) (bM (bE _))))
theorem r8{M:Model}{α:Type}{c:Prop}[Decidable c]{m m':StateT iJ Sem α}{Q:α->iJ->Prop}(hc:c)(h:wpS M A E s m Q st): wpS M A E s (if c then m else m') Q st:=by refine R1 (if_pos hc) ?_;exact h
theorem sW{M:Model}{α:Type}{c:Prop}[Decidable c]{m m':StateT iJ Sem α}{Q:α->iJ->Prop}(hc:¬ c)(h:wpS M A E s m' Q st): wpS M A E s (if c then m else m') Q st:=by refine R1 (if_neg hc) ?_;exact h
theorem kX{α:Type}{l:List α}{x:α}: (l++[x]).length=l.length+1:=ar
theorem wI{α:Type}{l r:List α}{x:α}: (l++[x]++r).length=l.length+1+r.length:=by exact R1 ar (R1 kX rfl)
theorem m7{α:Type}{l r:List α}{x:α}: l++[x]++r=l++x::r:=ax l [x] r
theorem xB{S C:List Tg}{b:Tg}{a n:Nat}{Q:AscSt->iJ->Prop}(h0:IntKeys a₀)(h:SL a₀ st (S++[b]++C))(hS:(S++[b]).Pairwise lx)(hb:uI (S++[b]) C)(ha:S.length+1=a)(hn:a+C.length=n)
  (hQ:∀S' b' C',S'++[b']++C'=S++[b]++C->(S'++[b']).Pairwise lx->uI (S'++[b']) C'->(C'=[]\/∃c r,C'=c::r/\ky c<ky b')->Q (none,S'.length+1) st) :
  wpS (model prog w) A E s (ascLoop a n) Q st:=by
 subst ha;unfold ascLoop;refine AV (I:=fun r c st'=>st'=st/\∃S' b',S'++[b']++r=S++[b]++C/\c=(none,S'.length+1)/\(S'++[b']).Pairwise lx/\uI (S'++[b']) r) ?_ ?_ hn ⟨rfl,S,b,rfl,rfl,hS,hb⟩
 .rintro i x r c st' _ ⟨rfl,S',b',e,rfl,h1,h2⟩;refine iI (qU h0 h (x:=x) (y:=b') e.symm (e.symm.trans m7) kX rfl ?_);cases q:decide (ky x<ky b') with
  |true=>exact iK (hQ S' b' (x::r) e h1 h2 (.inr ⟨x,r,rfl,of_decide_eq_true q⟩))
  |false=>exact iK ⟨rfl,S'++[b'],x,m7.trans e,congrArg (fun n=>(none,n+1)) kX.symm,EM h1 h2 (of_decide_eq_false q),h2.next⟩
 .rintro c st' ⟨rfl,S',b',e,rfl,h1,h2⟩;exact hQ S' b' [] e h1 h2 (.inl rfl)
noncomputable def y6(a₀:Array Keyed)(st:iJ)(m n:Nat): Prop:=∃S b C,SL a₀ st (S++[b]++C)/\(S++[b]).Pairwise lx/\uI (S++[b]) C/\S.length+1=m/\m+C.length=n
theorem za{D C:List Tg}{d n:Nat}{Q:Option Nat->iJ->Prop}(h0:IntKeys a₀)(h:SL a₀ st (D++C))(hD:D.Pairwise xl)(hne:D≠[])(hb:uI D C)(hd:D.length=d)(hn:d+C.length=n)
  (hQ:∀m st',y6 a₀ st' m n->Q (some m) st'):wpS (model prog w) A E s (tail3 d n) Q st:=by
 unfold tail3;have h1:=h.mirror (P:=[]) (i:=0) (j:=d) rfl ((bX _).trans hd);refine iI (wpS_reverse ?_);obtain⟨S,b,e⟩:∃S b,D.reverse=S++[b]:=⟨_,_,(d4 fun q=>hne (List.reverse_eq_nil_iff.mp q)).symm⟩;rw[ci,e] at h1;have hl:S.length+1=d:=kX.symm.trans ((congrArg cB e.symm).trans (cz.trans hd));refine iI (xB h0 h1 (e▸dK.mpr hD) (hb.sub fun p hp=>cb.mp (e▸hp)) hl hn fun S' b' C' e' h2 h3 Y=>iK (hQ _ _ ⟨S',b',C',e'▸h1,h2,h3,rfl,?_⟩));exact wI.symm.trans ((congrArg cB e').trans (wI.trans ((congrArg (·+C.length) hl).trans hn)))
theorem Bx{P C:List Tg}{b:Tg}{m n:Nat}{Q:DescSt->iJ->Prop}(h0:IntKeys a₀)(h:SL a₀ st (P++[b]++C))(hd:DD P [b])(hb:uI (P++[b]) C)(hm:P.length+1=m)(hn:m+C.length=n)
  (hQ:∀st' P' R b' C',SL a₀ st' (P'++(R++[b'])++C')->DD P' (R++[b'])->uI (P'++(R++[b'])) C'->P'.length+(R.length+1)+C'.length=n->Q (none,P'.length+(R.length+1),R.length) st') :
  wpS (model prog w) A E s (descLoop m n) Q st:=by
 subst hm;unfold descLoop;refine AV (I:=fun r c st'=>∃P' R b',SL a₀ st' (P'++(R++[b'])++r)/\DD P' (R++[b'])/\uI (P'++(R++[b'])) r/\P'.length+(R.length+1)+r.length=n/\c=(none,P'.length+(R.length+1),R.length)) ?_ ?_ hn ⟨P,[],b,h,hd,hb,hn,rfl⟩
 .rintro i x r c st' _ ⟨P',R,b',hS,hD,hB,hl,rfl⟩;have e1:P'++(R++[b'])++x::r=(P'++R)++b'::x::r:=by exact R2 (ax ..) (R1 m7 rfl)
  have l1:(P'++(R++[b'])).length=P'.length+(R.length+1):=by exact R1 ar (R1 kX rfl)
  have l2:(P'++R).length=P'.length+(R.length+1) - 1:=ar;have l3:P'.length+(R.length+1)+1+r.length=n:=(bY _ 1 _).trans hl;refine iI (qU h0 hS (x:=x) (y:=b') rfl e1 l1 l2 ?_);cases q:decide (ky x<ky b') with
  |true=>
   have hD':=hD.fall (of_decide_eq_true q)
   have fin:∀{st''},SL a₀ st'' (P'++(R++[b']).reverse++x::r)->∃LH R' b'',SL a₀ st'' (LH++(R'++[b''])++r)/\DD LH (R'++[b''])/\uI (LH++(R'++[b''])) r/\LH.length+(R'.length+1)+r.length=n/\((none,P'.length+(R.length+1)+1,0):DescSt)=(none,LH.length+(R'.length+1),R'.length):=fun{st''} hS'=>by
    have l4:(P'++(R++[b']).reverse).length=P'.length+(R.length+1):=by exact R1 ar (R1 cz (R1 kX rfl))
    refine⟨P'++(R++[b']).reverse,[],x,by rw[ci,m7];exact hS',hD',(hB.sub fun p hp=>?_).next,l4▸l3,l4▸rfl⟩;exact(aA.mp hp).elim (ai _) fun hp=>aj _ (cb.mp hp)
   show wpS _ _ _ _ (if R.length > 0 then _ else _) _ _;by_cases hR:R.length > 0
   .exact r8 (c:=R.length > 0) hR (iI (wpS_reverse (iK (fin (hS.mirror (du ..).symm (by exact R1 kX rfl))))))
   .have e:R=[]:=dW (fg hR);subst e;exact sW (c:=([]:List Tg).length > 0) hR (iK (fin hS))
  |false=>
   refine iI (qU h0 hS (x:=b') (y:=x) e1 rfl l2 l1 ?_);cases q2:decide (ky b'<ky x) with
   |true=>exact iK (hQ st' P' R b' (x::r) hS hD hB hl)
   |false=>
    refine iK ⟨P',R++[b'],x,by rewrite[←ax P'];refine R1 m7 ?_;exact hS,hD.stay hB (fk (cU.mp (of_decide_eq_false q2)) (cU.mp (of_decide_eq_false q))),ax P' _ [x]▸hB.next,?_,?_⟩
    .refine R1 kX ?_;exact l3
    .exact R1 kX rfl
 .rintro c st' ⟨P',R,b',hS,hD,hB,hl,rfl⟩;exact hQ st' P' R b' [] hS hD hB hl
theorem qi{P C:List Tg}{b:Tg}{m n:Nat}{Q:Option Nat->iJ->Prop}(h0:IntKeys a₀)(h:SL a₀ st (P++b::C))(hP:P.Pairwise xl)(hlt:∀p∈P,ky b<ky p)(hb:uI P (b::C))(hm:P.length=m)(hn:m+(C.length+1)=n)
  (hQ:∀m st',y6 a₀ st' m n->Q (some m) st'):wpS (model prog w) A E s (descPart m n) Q st:=by
 unfold descPart;refine iI (wpS_lift (wpAny_rule ⟨rfl,?_⟩));refine iI (Bx h0 (by refine R1 m7 ?_;exact h) ⟨hP,bq _ _,fun p hp q hq=>af.mp hq▸hlt p hp⟩ hb.next (congrArg (·+1) hm) ((bY m 1 _).trans hn) fun st' P' R b' C' hS hD hB hl=>?_)
 have fin:∀{st''},SL a₀ st'' (P'++(R++[b']).reverse++C')->wpS (model prog w) A E s (tail3 (P'.length+(R.length+1)) n) Q st'':=fun{st''} hS'=>
  za h0 hS' hD.turn (fun q=>by rw[d8] at q;exact bn _ _ (List.append_eq_nil_iff.mp q).2) (hB.sub fun p hp=>(aA.mp hp).elim (ai _) fun hp=>aj _ (cb.mp hp)) (by exact R1 ar (R1 cz (R1 kX rfl))) hl hQ
 show wpS _ _ _ _ (if R.length > 0 then _ else _) _ _;by_cases hR:R.length > 0
 .exact r8 (c:=R.length > 0) hR (iI (wpS_reverse (fin (hS.mirror (du ..).symm (by exact R1 kX rfl)))))
 .have e:R=[]:=dW (fg hR);subst e;exact sW (c:=([]:List Tg).length > 0) hR (fin hS)
theorem zb{a:Tg}{L:List Tg}{n:Nat}{Q:Option Nat->iJ->Prop}(h0:IntKeys a₀)(h:SL a₀ st (a::L))(hb:uI [] (a::L))(hn:L.length+1=n)
  (hQ:∀m st',y6 a₀ st' m n->Q (some m) st'):wpS (model prog w) A E s (countRun' 0 n) Q st:=by
 refine R1 (countRun0_eq ..) ?_;refine iI (xB (S:=[]) (b:=a) (C:=L) h0 h (bq _ _) hb.next rfl ((bK _ _).trans hn) fun S b C e hS hB hor=>?_);have hS':SL a₀ st (S++[b]++C):=e▸h;have hl:S.length+1+C.length=n:=wI.symm.trans ((congrArg cB e).trans hn);have front:y6 a₀ st (S.length+1) n:=⟨S,b,C,hS',hS,hB,rfl,hl⟩;cases C with
 |nil=>exact r8 (c:=(S.length+1 == n)=true) (beq_iff_eq.mpr hl) (iK (hQ _ _ front))
 |cons c r=>
  obtain⟨_,_,e2,hlt⟩:=hor.resolve_left (bn _ _);cases e2;refine sW (c:=(S.length+1 == n)=true) (fun q=>aK (bM (bE _)) ((eq_of_beq q).trans hl.symm)) ?_;cases S with
  |nil=>
   refine sW (bu 1) ?_;exact qi (P:=[b]) h0 hS' (bq _ _) (fun p hp=>af.mp hp▸hlt) hB rfl hl hQ
  |cons f S=>
   refine r8 (dM (bE _)) ?_;refine iI (qU (P:=[]) h0 hS' (x:=f) (y:=b) rfl m7 rfl rfl ?_);cases q:decide (ky f<ky b) with
   |true=>exact iK (hQ _ _ front)
   |false=>
    have hall:∀p∈f::S++[b],ky c<ky p:=fun p hp=>Int.lt_of_lt_of_le hlt (cT (cU.mp (of_decide_eq_false q)) ((av.mp hp).elim (fun e=>e▸dT _) fun hp=>((bN.mp hS).1 p hp).elim eY fun e=>fh e.1));refine iI (wpS_reverse (qi (P:=(f::S++[b]).reverse) h0 (hS'.mirror (P:=[]) rfl ((bX _).trans (congrArg (·+1) kX))) (dK.mpr hS) (fun p hp=>hall p (cb.mp hp)) (hB.sub fun p hp=>cb.mp hp) (cz.trans (congrArg (·+1) kX)) hl hQ))
theorem half{l r:Nat}(h:l<r): l<=(l+r) / 2/\(l+r) / 2<r:=⟨(Nat.le_div_iff_mul_le (by decide)).mpr (Nat.mul_two l▸aC (aG h) l),(Nat.div_lt_iff_lt_mul (by decide)).mpr (Nat.mul_two r▸dX h r)⟩
theorem Bv{S:List Tg}{v:Tg}{k:Nat}{f:Nat->Option Bool×Nat×Nat->StateT iJ Sem (ForInStep (Option Bool×Nat×Nat))}{Q:Option Bool×Nat×Nat->iJ->Prop}(hk:S.length=k)(hS:S.Pairwise lx)
  (hf:∀i l r (Q':ForInStep (Option Bool×Nat×Nat)->iJ->Prop),(l≥r->Q' (.done (none,l,r)) st)->(∀(h:l<r) (hr:r<=S.length),Q' (.yield (if ky v<ky (S[(l+r) / 2]'(aD (half h).2 hr)) then(none,l,(l+r) / 2) else(none,(l+r) / 2+1,r))) st)->r<=S.length->wpS (model prog w) A E s (f i (none,l,r)) Q' st)
  (hb:∀p∈S,p.2<v.2) (hQ:∀l,l<=k->(∀p∈S.take l,lx p v)->(∀p∈S.drop l,lx v p)->Q (none,l,l) st):wpS (model prog w) A E s (forIn [0:k] ((none,0,k):Option Bool×Nat×Nat) f) Q st:=by
 refine AV (C:=aX k) (I:=fun t c st'=>st'=st/\∃l r,c=(none,l,r)/\l<=r/\r<=k/\r<=l+t.length/\(∀p∈S.take l,lx p v)/\(∀p∈S.drop r,lx v p)) ?_ ?_ ((bX _).trans br)
  ⟨rfl,0,k,rfl,bt _,aM _,by refine R1 (bX ..) (R1 br ?_);exact aM _,fun p hp=>(by rw[List.take_zero] at hp;cases hp),fun p hp=>(by rw[List.drop_of_length_le (aE hk)] at hp;cases hp)⟩
 .rintro i x t c st' _ ⟨rfl,l,r,rfl,hlr,hrk,ht,hlo,hhi⟩;refine hf i l r _ (fun hge=>?_) (fun hlt hr=>?_) (hk.symm▸hrk)
  .obtain rfl:=cJ hlr hge;exact hQ l hrk hlo hhi
  .obtain⟨m1,m2⟩:=half hlt;have hm:(l+r) / 2<S.length:=aD m2 hr;have es:=dL ((l+r) / 2) S;rw[dm hm] at es;rw[←es] at hS;obtain⟨_,q2,q3⟩:=bO.mp hS;by_cases q:ky v<ky S[(l+r) / 2]
   .refine R1 (if_pos q) ?_;refine⟨rfl,_,_,rfl,m1,ab (aG m2) hrk,bz (aD m2 ht),hlo,fun p hp=>?_⟩;rw[dm hm] at hp;exact(av.mp hp).elim (fun e=>e▸.inl q) fun hp=>tK (.inl q) ((bN.mp q2).1 p hp)
   .have hv:lx S[(l+r) / 2] v:=(fV (cU.mp q)).imp id fun e=>⟨e,hb _ (List.getElem_mem hm)⟩;refine R1 (if_neg q) ?_;refine⟨rfl,_,_,rfl,m2,hrk,?_,fun p hp=>?_,hhi⟩
    .exact ab ht (ab (aE (bY l 1 t.length).symm) (aO (bc m1) _))
    .rw[gb,az hm] at hp;exact(aA.mp hp).elim (fun hp=>tK (q3 p hp _ ac) hv) fun e=>af.mp e▸hv
 .rintro c st' ⟨rfl,l,r,rfl,hlr,hrk,ht,hlo,hhi⟩;obtain rfl:=cJ hlr ht;exact hQ l hrk hlo hhi
theorem Cy{m n:Nat}{Q:Bool->iJ->Prop}(h0:IntKeys a₀)(hF:y6 a₀ st m n)(hQ:∀st' S,SL a₀ st' S->S.Pairwise lx->Q true st'): wpS (model prog w) A E s (binarySort' 0 n m) Q st:=by
 obtain⟨S,b,C,h,hS,hB,rfl,hn⟩:=hF;refine R1 (binarySort'_eq ..) ?_;simp only[bX];refine R1 (Nat.max_eq_left (bc (bt _))) ?_;refine iI (wpS_mono (AV (C:=C) (I:=fun r c st'=>c=(none,())/\∃S,SL a₀ st' (S++r)/\S.Pairwise lx/\uI S r/\S.length+r.length=n) (Q:=fun c st'=>c=(none,())/\∃S,SL a₀ st' S/\S.Pairwise lx) ?_ ?_ hn ⟨rfl,_,h,hS,hB,kX▸hn⟩) ?_)
 .rintro i v r' c st' hi ⟨rfl,S,h,hS,hB,hl⟩;have hk:S.length=i:=Nat.add_right_cancel (hl.trans hi.symm);refine iI (wpS_mono (Bv (S:=S) (v:=v) hk hS (fun j l r Q' h1 h2 hr=>?_) (fun p hp=>hB.2 p hp v ac) (Q:=fun c st''=>st''=st'/\∃l,c=(none,l,l)/\l<=i/\(∀p∈S.take l,lx p v)/\(∀p∈S.drop l,lx v p)) fun l h1 h2 h3=>⟨rfl,l,rfl,h1,h2,h3⟩) ?_)
  .by_cases hge:l≥r
   .exact r8 hge (iK (h1 hge))
   .refine sW hge ?_;have hlt:=Nat.lt_of_not_le hge;have hm:=aD (half hlt).2 hr;have h2:=h2 hlt hr;have es:=dL ((l+r) / 2) S;rw[dm hm] at es;refine iI (qU h0 h (x:=v) (y:=S[(l+r) / 2]) rfl ((congrArg (·++v::r') es.symm).trans (ax _ _ _)) hk (List.length_take_of_le (aG hm)) ?_);cases q:decide (ky v<ky S[(l+r) / 2]) with
    |true=>rw[if_pos (of_decide_eq_true q)] at h2;exact iK h2
    |false=>rw[if_neg (of_decide_eq_false q)] at h2;exact iK h2
  .rintro c st'' ⟨rfl,l,rfl,hli,hlo,hhi⟩;show wpS _ _ _ _ (do moveDown' i l;pure (ForInStep.yield (none,()))) _ _;refine R1 (moveDown'_eq ..) ?_;have es:=dL l S;have hS':=hS;rw[←es] at h hS';obtain⟨q1,q2,q3⟩:=bO.mp hS';have h':=h.bubble (i:=i) (l:=i - l) (by refine R2 ar (R1 es ?_);exact hk) (by exact R1 eR (R1 hk rfl));have hp:(S.take l++v::S.drop l).Perm (S++[v]):=gv.trans ((df v _).symm.trans (by rw[es]));refine iI (wpS_modify (iK ⟨rfl,_,h',bO.mpr ⟨q1,bN.mpr ⟨hhi,q2⟩,fun p hp q hq=>(av.mp hq).elim (fun e=>e▸hlo p hp) (q3 p hp q)⟩,hB.next.sub fun p=>hp.mem_iff.mp,?_⟩));refine R1 hp.length_eq (R1 kX ?_);exact(bY _ 1 _).trans hl
 .rintro c st' ⟨rfl,S,h,hS,_,_⟩;rw[ba] at h;exact⟨rfl,S,h,hS⟩
 .rintro c st' ⟨rfl,S,h,hS⟩;exact iK (hQ st' S h hS)
inductive Done(a₀:Array Keyed)(st:iJ): Prop
 |mk (S:List Tg) (failed:failedOf st=none) (pend:(pendingOf st).size<=1) (arr:(arrOf st).toList=S.map (·.1)) (perm:S.Perm a₀.toList.zipIdx) (asc:S.Pairwise lx)
theorem SL.done{S:List Tg}{p:Nat×Nat×Nat}(h:SL a₀ st S)(hS:S.Pairwise lx): Done a₀ (setPending st ((pendingOf st).push p)):=
 ⟨S,h.base.failed,by show((pendingOf st).push p).size<=1;refine R1 h.base.pend ?_;exact aM _,h.arr,h.perm,hS⟩
theorem SL.back{S:List Tg}(h:SL a₀ st S): (pendingOf st).back?=none:=by exact R1 h.base.pend rfl
theorem Bt{a:Tg}{L:List Tg}{Q:Unit->iJ->Prop}(h0:IntKeys a₀)(h:SL a₀ st (a::L))(hb:uI [] (a::L))(h64:L.length+1<64)(hQ:∀st',Done a₀ st'->Q () st'): wpS (model prog w) A E s sortRuns' Q st:=by
 refine R1 sortRuns'_eq ?_;refine iI (wpS_get ?_);dsimp only;have hn:L.length+1=(arrOf st).size:=h.perm.length_eq.trans (ez.trans h.base.size.symm);generalize (arrOf st).size=n at hn;have hmr:minRun' n n 0=n:=by subst hn;exact if_pos h64
 refine R1 hmr ?_;refine iI (wpS_mono (wpS_forRange (I:=fun x c st'=>(x=0/\c=(none,0)/\st'=st)\/(c=(none,n)/\Done a₀ st')) (Q:=fun c st'=>c=(none,n)/\Done a₀ st') ?_ ?_ (.inl ⟨rfl,rfl,rfl⟩)) ?_)
 .rintro x c st' _ hx (⟨rfl,rfl,rfl⟩ | ⟨rfl,hD⟩)
  .dsimp only;refine sW (Nat.not_le_of_lt hx) ?_;refine iI (zb (n:=n) h0 h hb hn fun m st2 hF=>?_);dsimp only;by_cases hlt:m<n
   .refine r8 hlt ?_;refine R1 (show min (n - 0) n=n from eZ n) ?_;refine iI (wpS_lift (wpAny_rule ⟨rfl,?_⟩));refine iI (Cy h0 hF fun st3 S hB3 hs3=>?_);refine iI (wpS_get ?_);refine R1 hB3.back ?_;exact iI (wpS_modify (iK (.inr ⟨congrArg (Prod.mk none) (bX n),hB3.done hs3⟩)))
   .refine sW hlt ?_;obtain⟨S,b,C,h2,hS,hB,hm,hC⟩:=hF
    obtain rfl:C=[]:=by
     cases C with
     |nil=>rfl
     |cons c r=>exact absurd (bZ (bM (bE _)) hC) hlt
    rw[ba] at h2;refine iI (wpS_get ?_);refine R1 h2.back ?_;exact iI (wpS_modify (iK (.inr ⟨congrArg (Prod.mk none) ((bX m).trans hC),h2.done hS⟩)))
  .dsimp only;exact r8 (aM _) (iK ⟨rfl,hD⟩)
 .rintro c st' (⟨hx,_,_⟩ | hD)
  .rw[Nat.max_eq_right (bt _)] at hx;exact absurd (hn.trans hx) (dj _)
  .exact hD
 .rintro c st' ⟨rfl,hD⟩;dsimp only;refine iI (wpS_mono (wpS_forRange (I:=fun Y c st''=>st''=st'/\c=(none,())) (Q:=fun c st''=>st''=st'/\c=(none,())) ?_ (fun Y Y hh=>hh) ⟨rfl,rfl⟩) ?_)
  .rintro x c st'' _ _ ⟨rfl,rfl⟩;refine iI (wpS_get ?_);obtain⟨_,_,hp,_⟩:=hD;exact r8 hp (iK ⟨rfl,rfl⟩)
  .rintro c st'' ⟨rfl,rfl⟩;exact iK (hQ _ hD)
theorem E7(l:List Keyed): uI [] l.zipIdx:=by refine⟨?_,fun p hp=>nomatch hp⟩;have h:=List.pairwise_lt_range' (s:=0) (n:=l.length) (step:=1);rw[←List.zipIdx_map_snd,c8] at h;exact h
theorem Id(h:SBase a₀ st)(e:arrOf st=a₀): SL a₀ st a₀.toList.zipIdx:=⟨h,by refine R1 e ?_;exact(fI ..).symm,.refl _⟩
theorem Bu{Q:Unit->iJ->Prop}(h0:IntKeys a₀)(h:SBase a₀ st)(e:arrOf st=a₀)(h2:2<=a₀.size)(h64:a₀.size<64)(hQ:∀st',Done a₀ st'->Q () st'): wpS (model prog w) A E s sortRuns' Q st:=by
 have hl:a₀.toList.zipIdx.length=a₀.size:=ez;have h1:=Id h e;have hb:=E7 a₀.toList;generalize a₀.toList.zipIdx=M at hl h1 hb;cases M with
 |nil=>exact absurd (hl▸h2) (by decide)
 |cons a L=>exact Bt h0 h1 hb (lt_of_eq_of_lt hl h64) hQ
end
noncomputable def sortBy{α:Type}(ks:List Int)(xs:List α): List α:=((ks.zip xs).mergeSort fun a b=>decide (a.1<=b.1)).map (·.2)
noncomputable def kle(a b:Keyed): Bool:=decide (numOf a.1<=numOf b.1)
theorem Hz{a b c:Int}(h:decide (a<=b)=true)(k:decide (b<=c)=true): decide (a<=c)=true:=decide_eq_true (cT (of_decide_eq_true h) (of_decide_eq_true k))
theorem Dy(a b:Int): (decide (a<=b) || decide (b<=a))=true:=(bj _ _).mpr ((fe a b).imp decide_eq_true decide_eq_true)
theorem Done.fl{a₀:Array Keyed}{st:iJ}(h:Done a₀ st): failedOf st=none:=let ⟨_,h,_,_,_,_⟩:=h;h
theorem Cm{a₀:Array Keyed}{st:iJ}(h:Done a₀ st): (arrOf st).toList=a₀.toList.mergeSort kle:=by
 obtain⟨S,_,_,e,hp,hs⟩:=h;refine R1 e (R2 List.mergeSort_zipIdx ?_);refine congrArg _ (eO.eq_of_pairwise (le:=fun p q=>fK kle p q=true) (fun p q hp' hq h1 h2=>?_) (hs.imp fun{p q} h=>?_) (cu (List.zipIdxLE_trans (le:=kle) fun Y Y Y=>Hz) (List.zipIdxLE_total (le:=kle) fun p q=>Dy (numOf p.1) (numOf q.1)) _) (hp.trans (bT _ _).symm))
 .have hq:=(bT _ _).mem_iff.mp hq;have hp':=hp.mem_iff.mp hp'
  have e2:p.2=q.2:=by
   unfold fK at h1 h2;cases k1:kle p.1 q.1 with
   |false=>rw[k1,if_neg (by decide)] at h1;cases h1
   |true=>cases k2:kle q.1 p.1 with
    |false=>rw[k2,if_neg (by decide)] at h2;cases h2
    |true=>
     rw[k1,k2,if_pos rfl,if_pos rfl] at h1 h2;exact cJ (of_decide_eq_true h1) (of_decide_eq_true h2)
  obtain⟨x,i⟩:=p;obtain⟨y,j⟩:=q;cases e2;exact congrArg (·,i) (aq.inj ((dJ.mp hp').symm.trans (dJ.mp hq)))
 .unfold fK;rcases h with h | ⟨h1,h2⟩
  .exact R1 (if_pos (show kle p.1 q.1=true from decide_eq_true (eY h))) (R1 (if_neg (show¬ kle q.1 p.1=true from fun k=>cU.mpr (of_decide_eq_true k) h)) rfl)
  .refine R1 (if_pos (show kle p.1 q.1=true from decide_eq_true (fh h1))) (R1 (if_pos (show kle q.1 p.1=true from decide_eq_true (fh h1.symm))) ?_);exact decide_eq_true (aG h2)
theorem Ay{keys:Array g8}{vs:List g8}{kz:List Int}{st:iJ}(hk:IntsAre keys.toList kz)(h:Done (keys.zip vs.toArray) st): ((arrOf st).map (·.2)).toList=sortBy kz vs:=by have e:(keys.zip vs.toArray).toList=keys.toList.zip vs:=Array.toList_zip;refine R1 Array.toList_map (R1 (Cm h) (R1 e ?_));unfold sortBy;refine R2 hk.nums (R1 List.zip_map_left (R2 (eA (f:=Prod.map numOf id) (r:=kle) fun Y Y Y Y=>rfl) (R1 bA ?_)));rfl
theorem qy{α β:Type}(ks:List Int)(xs:List α)(f:α->β): sortBy ks (xs.map f)=(sortBy ks xs).map f:=by unfold sortBy;refine R1 List.zip_map_right (R2 (eA (f:=Prod.map id f) (r:=fun a b=>decide (a.1<=b.1)) fun Y Y Y Y=>rfl) (R1 bA (R1 bA ?_)));rfl
theorem td{α:Type}(ks:List Int)(vs:List α): (sortBy ks vs).length<=ks.length:=by unfold sortBy;refine R1 (ak ..) (R1 (List.length_mergeSort ..) (R1 List.length_zip ?_));exact gH _ _
theorem zm{α:Type}{ks:List Int}{vs:List α}{x:α}(h:x∈sortBy ks vs): x∈vs:=by obtain⟨p,hp,rfl⟩:=bg.mp h;exact(ds ((bT _ _).mem_iff.mp hp)).2
section
variable{prog:Program}{w:World}{A:ig}{E:g8->g9->Prop}{s:g9}{a kS:hM}{vs:List g8}{kz:List Int}{keys:Array g8}{e e1:Nat}{P:PySem.Fin->g9->Prop}
theorem xU{st:iJ}(hk0:s.heap.get? kS=some (seqObj "list" keys e))(ha0:s.heap.get? a=some (seqObj "list" #[] e1))(hka:kS≠a)
  (hsz:keys.size=vs.length) (h64:vs.length<64) (hlen:kz.length=vs.length) (hout:((arrOf st).map (·.2)).toList=sortBy kz vs) (hfl:failedOf st=none)
  (h:∀h' c,(∀b o,b≠a->b≠kS->s.heap.get? b=some o->h'.get? b=some o)->h'.get? a=some (seqObj "list" (sortBy kz vs).toArray c)->P (.done (.ret .none)) {s with heap:=h'}) :
  hZ (model prog w) A (ksk_tail a false e1 (.ref kS) st) P E s:=by
 have s1:=ib.SameBut.update s.heap kS (Obj.mapSeq fun Y=>(#[]:Array g8));have na1:(s.heap.update kS (Obj.mapSeq fun Y=>(#[]:Array g8))).get? a=some (seqObj "list" #[] e1):=(s1.2 a hka.symm).trans ha0;have s2:=ib.SameBut.update (s.heap.update kS (Obj.mapSeq fun Y=>(#[]:Array g8))) a (Obj.mapSeq fun Y=>(arrOf st).map (·.2))
 obtain⟨c2,hc2⟩:∃c2,((s.heap.update kS (Obj.mapSeq fun Y=>(#[]:Array g8))).update a (Obj.mapSeq fun Y=>(arrOf st).map (·.2))).get? a=some (seqObj "list" ((arrOf st).map (·.2)) c2):=
  ⟨_,get?_update_seq na1 fun Y=>(arrOf st).map (·.2)⟩
 unfold ksk_tail
 try dsimp only
 refine g7 (listUpdate_at hk0 rfl ?_ (by refine R1 hsz (R1 im ?_);exact ab (aG h64) (by decide)) (bt _));refine g7 (wpAny_letGo ?_);refine g7 (seqEpoch_at na1 rfl ?_);simp only[cq,if_false];have e3:(arrOf st).map (·.2)=(sortBy kz vs).toArray:=by rw[←hout,cM]
 refine g7 (listUpdate_at na1 rfl ?_ (bt _) (by refine R1 e3 (R1 im ?_);exact ab (td kz vs) (ab (hlen▸aG h64) (by decide))));refine R1 hfl ?_;simp only[bne_self_eq_false,cq,if_false];refine hO (h _ c2 (fun b o h1 h2 q=>(s2.2 b h1).trans ((s1.2 b h2).trans q)) ?_);refine R2 e3 ?_;exact hc2
theorem Fi(hk0:s.heap.get? kS=some (seqObj "list" keys e))(ha0:s.heap.get? a=some (seqObj "list" #[] e1))(hka:kS≠a)
  (hk:IntsAre keys.toList kz) (hlen:kz.length=vs.length) (h64:vs.length<64)
  (h:∀h' c,(∀b o,b≠a->b≠kS->s.heap.get? b=some o->h'.get? b=some o)->h'.get? a=some (seqObj "list" (sortBy kz vs).toArray c)->P (.done (.ret .none)) {s with heap:=h'}) :
  hZ (model prog w) A (ksk_end a false vs.toArray e1 (.ref kS) keys) P E s:=by
 have hsz:keys.size=vs.length:=by have h1:=hk.length;rw[a5] at h1;exact h1.trans hlen
 have hzs:(keys.zip vs.toArray).size=vs.length:=by exact R1 Array.size_zip (R1 hsz (R1 c7 (R1 (eZ ..) rfl)))
 unfold ksk_end
 try dsimp only
 simp only[cq,if_false];by_cases h2:vs.toArray.size<2
 .refine R1 (if_pos h2) (R1 (if_pos h2) ?_);refine g7 (hO ?_);refine R1 (StateT.run_pure ..) ?_;refine g7 (hO ?_)
  try dsimp only
  rw[c7] at h2;refine xU (st:=iJ.mk' general' (keys.zip vs.toArray) #[] 7 none) hk0 ha0 hka hsz h64 hlen (Ay hk ⟨_,rfl,bt _,(fI ..).symm,.refl _,?_⟩) rfl h;have hz:(keys.zip vs.toArray).toList.zipIdx.length<2:=by refine R1 ez (R1 a5 (R1 hzs ?_));exact h2
  generalize (keys.zip vs.toArray).toList.zipIdx=T at hz;cases T with
  |nil=>exact .nil
  |cons x T=>cases T with
   |nil=>exact bq _ _
   |cons _ _=>exact absurd hz (cP.mpr (bI 2 _))
 .rw[if_neg h2,if_neg h2];rw[c7] at h2;have h2:=cr h2;rw[ksk_kind hk (by rw[hsz];exact h2)];refine g7 (hO ?_)
  refine g7 (hV (Bu (a₀:=keys.zip vs.toArray) (st:=iJ.mk' oneType' (keys.zip vs.toArray) #[] 7 none) (Q:=fun Y st'=>Done (keys.zip vs.toArray) st')
   (ksk_intKeys hk) ⟨Array.Perm.refl _,rfl,rfl,rfl⟩ rfl (hzs.symm▸h2) (hzs.symm▸h64) fun Y d=>d) ?_ fun Y Y e=>e)
  rintro⟨⟨⟩,st'⟩ s' ⟨rfl,d⟩
  try dsimp only
  have hd:=Ay hk d;exact xU hk0 ha0 hka hsz h64 hlen hd d.fl h
inductive LR(s:g9)(a kS:hM)(e1:Nat)(ks:List Int)(s':g9): Prop
 |mk (h':ib) (tk:Nat) (kA:Array g8) (e:Nat) (hs:s'={s with heap:=h',toks:=tk}) (keep:∀b o,b≠a->b≠kS->s.heap.get? b=some o->h'.get? b=some o) (gk:h'.get? kS=some (seqObj "list" kA e)) (ga:h'.get? a=some (seqObj "list" #[] e1)) (hints:IntsAre kA.toList ks)
theorem CP{f:g8}(hk0:s.heap.get? kS=some (seqObj "list" #[] 0))(ha0:s.heap.get? a=some (seqObj "list" #[] e1))(hka:kS≠a)
  (hlen:kz.length=vs.length) (h64:vs.length<64)
  (turn:∀(i:Nat) (v:g8) (k:Int),vs[i]?=some v->kz[i]?=some k->∀(s':g9) (Q:g8->g9->Prop),(∀b o,b≠a->b≠kS->s.heap.get? b=some o->s'.heap.get? b=some o)->
   (∀t h' tk,(∀b o,s'.heap.get? b=some o->h'.get? b=some o)->Q (.int k t) {s' with heap:=h',toks:=tk})->hZ (model prog w) A (call f [v]) Q (fun Y Y=>False) s')
  (h:∀h' tk c,(∀b o,b≠a->b≠kS->s.heap.get? b=some o->h'.get? b=some o)->h'.get? a=some (seqObj "list" (sortBy kz vs).toArray c)->P (.done (.ret .none)) {s with heap:=h',toks:=tk}) :
  hZ (model prog w) A (ksk_rest a f false vs.toArray e1 (.ref kS)) P E s:=by
 unfold ksk_rest;refine g7 (wpAny_rule ?_)
 first
  |refine R1 (List.forIn_toArray ..) ?_
  |(rw[←fW];simp only[List.toList_toArray])
  |rw[←fW]
 refine g7 (ksk_fold (fun i s'=>LR s a kS e1 (kz.take i) s') vs 0 s
  ⟨s.heap,s.toks,#[],0,rfl,fun Y Y Y Y q=>q,hk0,ha0,by simpa using IntsAre.nil⟩ ?step ?done)
 case step=>
  rintro j x s' hx ⟨h',tk,kA,e,rfl,F',hkS,hA,hk⟩;simp only[bX] at hk ⊢;have hj:j<vs.length:=(au.mp hx).1;obtain⟨k,hkj⟩:∃k,kz[j]?=some k:=⟨_,az (by exact bZ hj (id (dR hlen)))⟩
  have hz:kA.size<=vs.length:=by have h1:=hk.length;rw[a5,dN] at h1;exact h1▸ab (gw _ _) (aE hlen)
  refine g7 (wpAny_attempt (hV (turn j x k hx hkj _ (fun v s''=>∃t2 g tk2,v=.int k t2/\(∀b o,h'.get? b=some o->g.get? b=some o)/\s''={s with heap:=g,toks:=tk2}) F' fun t g tk2 hg=>⟨t,g,tk2,rfl,hg,rfl⟩) (fun v s'' he=>?_) fun Y Y hF=>hF.elim));obtain⟨t2,g,tk2,rfl,hg,rfl⟩:=he
  try dsimp only
  have nk:=hg _ _ hkS;have na:=hg _ _ hA;have s1:=ib.SameBut.update g kS (Obj.mapSeq (·.push (.int k t2)));obtain⟨c2,hc2⟩:∃c2,(g.update kS (Obj.mapSeq (·.push (.int k t2)))).get? kS=some (seqObj "list" (kA.push (.int k t2)) c2):=⟨_,get?_update_seq nk (·.push (.int k t2))⟩;have ek:kz.take (j+1)=kz.take j++[k]:=by refine R1 gb (R1 hkj ?_);simp
  have ea:(kA.push (g8.int k t2)).toList=kA.toList++[g8.int k t2]:=by simp
  refine g7 (listUpdate_at nk rfl ?_ (by refine R1 im ?_;exact ab hz (ab (aG h64) (by decide))) (ab (aE (d3 ..)) (by refine R1 im ?_;exact ab (bc (ab hz (aG h64))) (by decide))));exact hO ⟨rfl,_,_,kA.push (.int k t2),c2,rfl,fun b o h1 h2 q=>(s1.2 b h2).trans (hg _ _ (F' b o h1 h2 q)),hc2,(s1.2 a hka.symm).trans na,by refine R1 ea (R1 ek ?_);exact ksk_snoc hk⟩
 case done=>
  rintro s' ⟨h',tk,kA,e,rfl,F',hkS,hA,hk⟩
  have hk':IntsAre kA.toList kz:=by have e3:kz.take (0+vs.length)=kz:=dD (ab (aE hlen) (bI _ _));rw[e3] at hk;exact hk
  try dsimp only
  refine g7 (listItems_at hkS rfl ?_);exact Fi (s:={s with heap:=h',toks:=tk}) hkS hA hka hk' hlen h64 fun h3 c F3 k3=>h h3 tk c (fun b o h1 h2 q=>F3 b o h1 h2 (F' b o h1 h2 q)) k3
theorem CO{f:g8}{n:Nat}(ho:s.heap.get? a=some (seqObj "list" vs.toArray n))(hlen:kz.length=vs.length)(h64:vs.length<64)
  (turn:∀(i:Nat) (v:g8) (k:Int),vs[i]?=some v->kz[i]?=some k->∀(s':g9) (Q:g8->g9->Prop),(∀b o,b≠a->s.heap.get? b=some o->s'.heap.get? b=some o)->
   (∀t h' tk,(∀b o,s'.heap.get? b=some o->h'.get? b=some o)->Q (.int k t) {s' with heap:=h',toks:=tk})->hZ (model prog w) A (call f [v]) Q (fun Y Y=>False) s')
  (h:∀h' tk c,(∀b o,b≠a->s.heap.get? b=some o->h'.get? b=some o)->h'.get? a=some (seqObj "list" (sortBy kz vs).toArray c)->P (.done (.ret .none)) {s with heap:=h',toks:=tk}) :
  hZ (model prog w) A (ksk_tree a f false) P E s:=by
 have ha:a<s.heap.objs.size:=ib.lt_size ho;have s1:=ib.SameBut.update s.heap a (Obj.mapSeq fun Y=>(#[]:Array g8));obtain⟨e1,ho1⟩:∃e1,(s.heap.update a (Obj.mapSeq fun Y=>(#[]:Array g8))).get? a=some (seqObj "list" #[] e1):=⟨_,get?_update_seq ho fun Y=>#[]⟩;have hkS:((s.heap.update a (Obj.mapSeq fun Y=>(#[]:Array g8))).push (seqObj "tuple" vs.toArray 0)).objs.size=s.heap.objs.size+1:=by exact R1 (size_push' ..) (R1 (ib.size_update ..) rfl)
 unfold ksk_tree;refine g7 (listItems_at ho rfl ?_);refine g7 (listUpdate_at ho rfl ?_ (by refine R1 c7 (R1 im ?_);exact ab (aG h64) (by decide)) (bt _));refine g7 (seqEpoch_at ho1 rfl ?_);refine g7 (wpAny_newTuple ?_ (by show vs.length<=_;refine R1 im ?_;exact ab (aG h64) (by decide)));refine g7 (wpAny_newList ?_ (bt _));refine ik ?_
 have keep:∀b o,b≠a->s.heap.get? b=some o->(((s.heap.update a (Obj.mapSeq fun Y=>(#[]:Array g8))).push (seqObj "tuple" vs.toArray 0)).push (seqObj "list" #[] 0)).get? b=some o:=
  fun b o hb q=>ib.get?_push_of_some _ (ib.get?_push_of_some _ ((s1.2 b hb).trans q))
 have old:∀b o,s.heap.get? b=some o->b≠((s.heap.update a (Obj.mapSeq fun Y=>(#[]:Array g8))).push (seqObj "tuple" vs.toArray 0)).objs.size:=fun b o q=>by refine R1 hkS ?_;exact aK (bi (ib.lt_size q))
 refine CP (s:={s with heap:=((s.heap.update a (Obj.mapSeq fun Y=>(#[]:Array g8))).push (seqObj "tuple" vs.toArray 0)).push (seqObj "list" #[] 0)}) (kS:=((s.heap.update a (Obj.mapSeq fun Y=>(#[]:Array g8))).push (seqObj "tuple" vs.toArray 0)).objs.size)
  (ib.get?_push_size _ rfl) (ib.get?_push_of_some _ (ib.get?_push_of_some _ ho1)) (by refine R1 hkS ?_;exact aZ (bi ha)) hlen h64 (fun i v k h1 h2 s' Q hs' hQ=>turn i v k h1 h2 s' Q (fun b o hb q=>hs' b o hb (old b o q) (keep b o hb q)) hQ)
  fun h' tk c h1 h2=>h h' tk c (fun b o hb q=>h1 b o hb (old b o q) (keep b o hb q)) h2
end
section
variable{B:Base}{C D:Ctx}{Φ jh iQ iS:Gh}{ρ ρ' iP iT jv:List hM}{σ σ' Ph:AS}{s s' s₁ Pg:g9}{d:Nat}{ψ jw:Gh}{A:ig}{e:iB}{pos:Pos}
theorem F8{qual:Str}{params:Arguments}{body:iB}{scope:Scope}{fl:Nat}{c TB:hM}(K:C.Ok d)(hcode:C.env.code=.ref c)(hcd:CodeHd B.h0 c TB)(hP:TB∈([87,177]:List hM))
  (hq:qF pos.line pos.col=some qual) (hclos:closureFor scope C.env=pure [])
  (r:Rel B C Φ ρ σ s) {Q:g8->g9->Prop} {E:g8->g9->Prop}
  (hQ:∀jh s' a cd ctv pm,(∀ψ,Gh.Le ψ C.jO->Step ψ s Φ ρ s' jh ρ)->Rel B C jh ρ σ s'->jh a=some {cls:=.type "function",data:=.func (kla_fn "<lambda>" qual params body scope [] pm cd ctv)}->n9 jh cd qual->Q (.ref a) s') :
  hZ (M B) C.A (makeFunction "<lambda>" qual params (.expr body) scope C.env [] [] [] pos fl) Q E s:=by
 obtain⟨⟨ps,t1,t2,t3⟩,t4,t5,t6⟩:=r.tabs TB hP
 have DT:∀(pos':Pos) q,qF pos'.line pos'.col=some q->(pos'.line:Int)=pos.line->(pos'.col:Int)=pos.col->q=qual:=fun pos' q e1 e2 e3=>by rw[et.inj e2,et.inj e3,hq] at e1;cases e1;rfl
 have kb:=fun b o q=>r.keep b o (r.base b o q);have hgs:=B.g.keeps kb;obtain⟨bm,ob,b1,b2,b3,b4,b5,b6⟩:=B.bmain
 have hgP:iD≠TB:=fun q=>by obtain⟨o,es,ep,e,hd,_⟩:=B.g;have:=r.base _ _ e;rw[q,t4] at this;cases this
 have hbP:bm≠TB:=fun q=>by have:=r.base _ _ b3;rw[q,t4] at this;cases this
 have hbG:bm≠iD:=fun q=>by obtain⟨o,es,ep,e,hd,_⟩:=B.g;rw[q,e] at b3;cases b3;rw[hd] at b6;cases b6
 have hb:s.heap.BuiltinsAt B.mg TB:=⟨bm,ob,b1,b2,hbG,hbP,kb _ _ b3,b4,b5,b6⟩
 have zM:∀{ψ:Gh},Gh.Le ψ C.jO->∀b,s.heap.get? b=none->ψ b=none:=fun{ψ} le b h=>by
  cases q:ψ b with
  |none=>rfl
  |some o=>have:=r.jO _ _ (le _ _ q);rw[h] at this;cases this
 cases hca:codeAmong pos ps.toList with
 |some cv=>
  have hcv:=t3 pos cv qual hq hca;refine kla_makeFunctionHit (mg:=B.mg) hclos K.globals hgs hcode (hcd.keeps kb) t1 t2 hca hb fun ctv h' tk hk hsz=>?_;have r1:Rel B C Φ ρ σ {s with heap:=h',toks:=tk}:=r.grow hk r.gens rfl;obtain⟨q1,q2⟩:=r1.push (o:={cls:=.type "function",data:=.func (kla_fn "<lambda>" qual params body scope [] ((B.mg "__name__").getD .none) cv ctv)}) rfl tk;have hn:s.heap.get? h'.objs.size=none:=ib.get?_none_of_le hsz;refine hQ _ _ _ cv ctv _ (fun ψ le=>?_) q1 (Gh.jQ _ _ _) (hcv.mono q2.ext.1);refine⟨q2.ext,fun Y Y e=>e,fun b o' e=>?_,fun Y h=>.inl h⟩;unfold Gh.set at e;split at e
  .rename_i q;refine R1 q ?_;exact .inr (zM le _ hn)
  .exact .inl e
 |none=>
  refine kla_makeFunction (mg:=B.mg) hclos K.globals hgs hcode (hcd.keeps kb) t1 t2 hca hgP hb fun c' ctv h' tk hx hge hlt hrec htb=>?_;obtain⟨P1,oc,vs,t,e2,hoc,hd,hv⟩:=hrec;cases e2;have hcn:s.heap.get? c'=none:=ib.get?_none_of_le hge;have mV:n9 (Gh.set Φ c' oc) (.ref c') qual:=⟨c',oc,vs,t,rfl,Gh.jQ _ _ _,hd,hv⟩;have le1:Gh.Le Φ (Gh.set Φ c' oc):=Gh.mj (r.none_of hcn)
  obtain⟨r1,st1⟩:=r.Di (s':={s with heap:=h',toks:=tk}) hP hx hcn hoc ⟨_,htb,by refine R1 cy ?_;exact TriplesOk_snoc _ _ _ _ t2,fun pos' M3 q' g1 g2=>by
   rw[cy] at g2;rcases qq _ t2 g2 with g | ⟨g,g',rfl⟩
   .exact(t3 pos' M3 q' g1 g).mono le1
   .refine R1 (DT pos' q' g1 g g') ?_;exact mV⟩ rfl rfl
  obtain⟨q1,q2⟩:=r1.push (o:=kla_obj "<lambda>" qual params body scope [] ((B.mg "__name__").getD .none) c' ctv) rfl tk;have hsz:s.heap.objs.size<=h'.objs.size:=ab hge (aG hlt);have hn:s.heap.get? h'.objs.size=none:=ib.get?_none_of_le hsz;refine hQ _ _ _ (.ref c') ctv _ (fun ψ le=>?_) q1 (Gh.jQ _ _ _) (mV.mono q2.ext.1);refine(st1 ψ (zM le _ hcn)).trans ⟨q2.ext,fun Y Y e=>e,fun b o' e=>?_,fun Y h=>.inl h⟩;unfold Gh.set at e;split at e
  .rename_i q;refine R1 q ?_;exact .inr (zM le _ hn)
  .exact .inl e
theorem DK{f ta:hM}{y:Str}{qual:Str}{params:Arguments}{scope:Scope}{pm cd ctv:g8}{yp cp sp:Pos}{ck:Nat}{q:Int}{t:Tok}{n:Nat}{Q:g8->g9->Prop}{E:g8->g9->Prop}{ws:Array g8}
  (hroom:A.depth<iH) (hlim:s.heap.NoLimit) (ho:s.heap.get? f=some {cls:=.type "function",data:=.func (kla_fn "<lambda>" qual params (.Subscript (.Name y yp) (.Constant (.int 0) ck cp) sp) scope [] pm cd ctv)})
  (hcd:s.heap.CodeRec cd qual) (hco:scope.isCoroutine=false) (hge:scope.isGenerator=false) (hk:scope.kind=.function) (hcell:∀z∈scope.names,z.2≠.cell) (hy:scope.names.lookup y=some .local)
  (hbind:∀w,bindArgs (kla_fn "<lambda>" qual params (.Subscript (.Name y yp) (.Constant (.int 0) ck cp) sp) scope [] pm cd ctv) ⟨[w],[]⟩=pure [(y,w)])
  (ht:s.heap.get? ta=some {cls:=.type "tuple",data:=.seq ws n}) (hws:ws[0]?=some (.int q t)) (hsz:ws.size<=io)
  (hQ:∀h' tk,(∀b o,s.heap.get? b=some o->h'.get? b=some o)->Q (.int q t) {s with heap:=h',toks:=tk})
  (hd:autoParam ((y == ("__debug__" : Str))=false) PySem.ldc._auto_1) (hne:autoParam ((y == y)=true) Vector.count_range'._auto_1) :
  hZ (M B) A (call (.ref f) [.ref ta] []) Q E s:=by
 refine wpAny_call (kla_callFunE hroom ho rfl hco hge rfl hcd ?_);refine R1 (hbind ..) ?_;refine hO (wpAny_newFunctionEnv hcell (fun z hz=>by refine R1 (af.mp hz) ?_;exact hy) (fun h' hns hsb=>⟨hlim.fresh _ hsb,?_⟩) hk);have hkeep:∀b o,s.heap.get? b=some o->h'.get? b=some o:=fun b o q=>hsb.extBut b o (aK (ib.lt_size q)) (ib.get?_push_of_some _ q);refine kla_codeExpr ?_;refine R1 (eval_Subscript ..) ?_;refine g7 (wpAny_Name (iu hk hy hns (v:=.ref ta) (by simp) ?_) hd);refine g7 (ik (wpAny_Constant_int ?_));refine g7 (ic ?_);have ht':=hkeep _ _ ht
 have h0:0<ws.size:=by
  rcases di 0 ws.size with h | h
  .exact h
  .rw[ff h] at hws;cases hws
 refine tail_any (T:= "tuple") (lI ht').typeIs slot_tuple_getitem.lookup (getItem_tuple ⟨_,ht',rfl,_,rfl⟩ (by decide) (by decide) (j:=0) ?_ hws (hQ _ _ hkeep)) rfl;unfold seqIndex?;simp[h0]
end
noncomputable def zY(v:V): Option Int:=match v with
 |.tup vs=>match vs with
  |[]=>none
  |v::_=>match v with
   |.int q=>some q
   |_=>none
 |_=>none
theorem B6{v:V}{q:Int}(h:zY v=some q): ∃rest,v=.tup (.int q::rest):=by
 cases v with
 |tup vs=>cases vs with
  |nil=>exact no h
  |cons v r=>cases v with
   |int k=>exact⟨r,aq.inj h▸rfl⟩
   |_=>exact no h
 |_=>exact no h
noncomputable def intKeys(vs:List V): Option (List Int):=match vs with
 |[]=>some []
 |v::vs=>(zY v).bind fun q=>(intKeys vs).map (q::·)
noncomputable def P.qX(v:V): P V:=fun σ=>match v with
 |.ref n=>match (σ.heap[n]?).bind asList with
  |some vs=>match intKeys vs with
   |some ks=>if vs.length<64 then .ok .none {σ with heap:=σ.heap.set n (.list (sortBy ks vs))} else .stuck
   |none=>.stuck
  |none=>.stuck
 |_=>.stuck
section
variable{B:Base}{C D:Ctx}{Φ jh iQ iS:Gh}{ρ ρ' iP iT jv:List hM}{σ σ' Ph:AS}{s s' s₁ Pg:g9}{d:Nat}{ψ jw:Gh}{A:ig}{e:iB}{pos:Pos}
theorem sq:∀{vs:List V} {ks:List Int},intKeys vs=some ks->vs.map zY=ks.map some
 |[],ks,h=>aq.inj h▸rfl
 |v::vs,ks,h=>by
  obtain⟨q,h1,h⟩:=b8.mp h;obtain⟨qs,h2,rfl⟩:=aV.mp h;exact R1 aR (R1 aR (R1 h1 (R1 (sq h2) rfl)))
theorem ja.zip:∀{vs:List V} {ws:List g8},ja Φ ρ vs ws->∀p∈vs.zip ws,jf Φ ρ p.1 p.2
 |[],ws,h,p,hp=>by rw[List.zip_nil_left] at hp;cases hp
 |v::vs,ws,h,p,hp=>by
  obtain⟨w,us,rfl,a,b⟩:=h.kG;exact(av.mp hp).elim (fun e=>e▸a) (b.zip p)
theorem ja.of:∀{l:List (V×g8)},(∀p∈l,jf Φ ρ p.1 p.2)->ja Φ ρ (l.map (·.1)) (l.map (·.2))
 |[],_=>.nil
 |p::l,h=>.cons (h p ac) (ja.of fun q hq=>h q (ad _ hq))
theorem ja.sortBy{vs:List V}{ws:List g8}(h:ja Φ ρ vs ws)(ks:List Int): ja Φ ρ (Mine.Internal.sortBy ks vs) (Mine.Internal.sortBy ks ws):=by have k:=ja.of (l:=Mine.Internal.sortBy ks (vs.zip ws)) fun p hp=>h.zip p (zm hp);rw[←qy,←qy] at k;rw[show(vs.zip ws).map (·.1)=vs from List.map_fst_zip (aE h.length.symm),show(vs.zip ws).map (·.2)=ws from gy (aE h.length)] at k;exact k
theorem DM{y:Str}{yp cp sp:Pos}{ck n:Nat}{qual:Str}{params:Arguments}{scope:Scope}{pm cd ctv w:g8}{us:List V}{f a:hM}{q:Int}{rest:List V}{Q:g8->g9->Prop}{E:g8->g9->Prop}(r:Rel B C Φ ρ σ s)(hn:ρ[n]?=some a)(hq0:σ.heap[n]?=some (.list us))(hroom:A.depth<iH)
  (hfo:Φ f=some {cls:=.type "function",data:=.func (kla_fn "<lambda>" qual params (.Subscript (.Name y yp) (.Constant (.int 0) ck cp) sp) scope [] pm cd ctv)}) (mV:n9 Φ cd qual) (hr:jf Φ ρ (.tup (.int q::rest)) w)
  (hco:scope.isCoroutine=false) (hge:scope.isGenerator=false) (hk:scope.kind=.function) (hcell:∀z∈scope.names,z.2≠.cell) (hy:scope.names.lookup y=some .local)
  (hbind:∀w,bindArgs (kla_fn "<lambda>" qual params (.Subscript (.Name y yp) (.Constant (.int 0) ck cp) sp) scope [] pm cd ctv) ⟨[w],[]⟩=pure [(y,w)])
  (hs':∀b o,b≠a->s.heap.get? b=some o->s'.heap.get? b=some o) (hQ:∀t h' tk,(∀b o,s'.heap.get? b=some o->h'.get? b=some o)->Q (.int q t) {s' with heap:=h',toks:=tk}) (hd:(y == ("__debug__" : Str))=false) :
  hZ (M B) A (call (.ref f) [w] []) Q E s':=by
 have keep:∀b o,Φ b=some o->s'.heap.get? b=some o:=fun b o h=>hs' b o (r.ne hn hq0 b o h) (r.keep b o h);obtain⟨ta,us,nn,rfl,j1,j2,j3⟩:=hr.kG;obtain⟨w0,wr,e,j4,j5⟩:=j3.kG;obtain⟨t,rfl⟩:=j4.kG;obtain⟨cc,oc,fs,tq,c1,c2,c3,c4⟩:=mV
 exact DK (B:=B) hroom (B.nolimit.keeps fun b o h=>keep b o (r.base b o h)) (keep _ _ hfo) ⟨cc,oc,fs,tq,c1,keep _ _ c2,c3,c4⟩ hco hge hk hcell hy hbind (keep _ _ j1)
  (q:=q) (t:=t) (by rw[←aB,e];rfl) j2 (hQ t) hd
theorem x0{x y:Str}{np apos kp Dr yp cp sp:Pos}{ck:Nat}{qual:Str}{params:Arguments}{scope:Scope}{c TB:hM}{p:P V}(K:C.Ok (d+1))(hf:jm B C iQ iP VR (iF (.Name x np) C.env) p)
  (hcode:C.env.code=.ref c) (hcd:CodeHd B.h0 c TB) (hP:TB∈([87,177]:List hM)) (hq:qF Dr.line Dr.col=some qual) (hqn:C.env.qual++ "<lambda>" = qual) (hclos:closureFor scope C.env=pure []) (hdef:defaultsOf params C.env=([],[]))
  (hco:scope.isCoroutine=false) (hge:scope.isGenerator=false) (hk:scope.kind=.function) (hcell:∀z∈scope.names,z.2≠.cell) (hy:scope.names.lookup y=some .local)
  (hbind:∀pm cd ctv w,bindArgs (kla_fn "<lambda>" qual params (.Subscript (.Name y yp) (.Constant (.int 0) ck cp) sp) scope [] pm cd ctv) ⟨[w],[]⟩=pure [(y,w)])
  (hd:autoParam ((y == ("__debug__" : Str))=false) PySem.ldc._auto_1)
  (hbase:autoParam (attributeBase (.Name x np) "sort" C.env (iF (.Name x np) C.env)=iF (.Name x np) C.env) PySem.W.call_K._auto_4)
  (hform:autoParam (methodCallForm (([]:List iB).length+([⟨some "key",.Lambda params (.Subscript (.Name y yp) (.Constant (.int 0) ck cp) sp) scope Dr,kp⟩]:List Keyword).length) (il pos (ie [] C.env)) (backToKw pos (iq [⟨some "key",.Lambda params (.Subscript (.Name y yp) (.Constant (.int 0) ck cp) sp) scope Dr,kp⟩] C.env))=true) PySem.W.call_K._auto_4)
  (hline:autoParam ((apos.endLine == pos.line)=true) PySem.W.call_K._auto_4) :
  jm B C iQ iP VR (iF (.Call (.Attribute (.Name x np) "sort" apos) [] [⟨some "key",.Lambda params (.Subscript (.Name y yp) (.Constant (.int 0) ck cp) sp) scope Dr,kp⟩] pos) C.env) (P.bind p P.qX):=by
 refine R1 (arm_eval_Call ..) (R1 hbase ?_);refine jn hf fun iS iT v w e hv=>?_;cases v with
 |ref n=>
  intro Φ ρ σ s ex r;obtain⟨a,rfl,hn⟩:=(hv.mono ex).kG;unfold P.qX;dsimp only;cases hq0:(σ.heap[n]?).bind asList with
  |none=>trivial
  |some vs=>
   dsimp only;cases hks:intKeys vs with
   |none=>trivial
   |some ks=>
    dsimp only;by_cases h64:vs.length<64
    .refine R1 (if_pos h64) ?_;have hq0:=m4 hq0;have hkey:=sq hks;have hlen:ks.length=vs.length:=ak (f:=some)▸hkey▸ak ..;obtain⟨ws,k,g1,g2,g3⟩:=r.objs _ _ _ hq0 hn;have hpos:methodCallPos true (.Name x np) C.env apos pos=pure pos:=by unfold methodCallPos;simp[hline]
     refine g7 (ic ?_);unfold methodCall;refine R1 hform ?_;refine g7 (ik (getMethod_builtin (js g1).typeIs F.plainAttrs_list F.slot_list_sort F.type_list_sort (fun b hb=>by cases hb;exact⟨_,g1,rfl⟩) ?_));refine g7 (wpAny_of_eq hpos ?_);refine callWith_builtin_kwB rfl rfl (evalArgs_kw_nil rfl (kws_cons ?_));refine kla_eval hdef ?_;refine R1 hqn ?_;refine F8 K hcode hcd hP hq hclos r fun iS Pg f cd ctv pm xT Pj hfo mV=>kws_nil ?_;obtain⟨Kf,k2,g4,g5,g6⟩:=Pj.objs _ _ _ hq0 hn;have hl2:Kf.toList.length=vs.length:=g6.length;show hZ (M B) C.A (call (.builtin "list.sort") [.ref a] [(Str.ofString "key",.ref f)]) _ _ Pg;refine wpAny_call_entry_kw PyProof.Rows.slot_list_sort (js g4).typeIs PyProof.Rows.entry_list_sort ?_ (ksk_l1 _ _);refine R1 (ksk_t1 ..) ?_;refine CO (A:=C.A.in1) (vs:=Kf.toList) (kz:=ks) ((congrArg (fun l=>some (seqObj "list" l k2)) (cM (xs:=Kf))).symm▸g4) (hlen.trans hl2.symm) (hl2▸h64) (fun i w k' hw hk' s' Q hs' hQ=>?_) fun h' tk c hk' hA=>?_
     .obtain⟨v,hv,hr⟩:=g6.get' hw;have hi:=congrArg (·[i]?) hkey;rw[aN,aN,hv,hk'] at hi;obtain⟨rest,rfl⟩:=B6 (aq.inj hi);exact DM Pj hn hq0 (dF K.depth) hfo mV hr hco hge hk hcell hy (hbind pm cd ctv) hs' hQ hd
     .have hlo:(sortBy ks Kf.toList).toArray.size<=io:=ab (td ks _) (ab (hlen▸aG h64) (by refine R1 im ?_;decide));exact⟨.none,rfl,iS,ρ,(xT C.jO (.refl _)).trans (.same rfl),Pj.AD hn hq0 (fun q=>nomatch q) hk' ⟨(sortBy ks Kf.toList).toArray,c,hA,hlo,g6.sortBy _⟩ rfl rfl,.none⟩
    .refine R1 (if_neg h64) ?_;trivial
 |_=>exact jr
end
section
variable{B:Base}{C D:Ctx}{Φ jh iQ iS:Gh}{ρ ρ' iP iT jv:List hM}{σ σ' Ph:AS}{s s' s₁ Pg:g9}{d:Nat}{ψ jw:Gh}{A:ig}{e:iB}{pos:Pos}{fa:hM}
theorem BM{α β γ δ ε ζ:Type}{t:Sem α}{u:Sem γ}{t':Sem δ}{f:α->γ->Sem δ}{p:P β}{q:P ε}{g:β->ε->P ζ}{RR:Gh->List hM->β->α->Prop}{TT:Gh->List hM->ε->γ->Prop}{SS:Gh->List hM->ζ->δ->Prop}
  (mono:∀Φ ρ jh ρ' b a,Ext Φ ρ jh ρ'->RR Φ ρ b a->RR jh ρ' b a) (h:jm B C iQ iP RR t p) (h2:jm B C iQ iP TT u q)
  (hk:∀Φ ρ σ s,Ext iQ iP Φ ρ->Rel B C Φ ρ σ s->∀(Q:δ->g9->Prop) (E:g8->g9->Prop),hZ (M B) C.A t (fun a s₁=>hZ (M B) C.A u (fun c Pg=>(∃jh ρ' σ',Ext Φ ρ jh ρ'/\Rel B C jh ρ' σ' Pg)/\hZ (M B) C.A (f a c) Q E Pg) E s₁) E s->hZ (M B) C.A t' Q E s)
  (k:∀iS iT b a e c,Ext iQ iP iS iT->RR iS iT b a->TT iS iT e c->jm B C iS iT SS (f a c) (g b e)):jm B C iQ iP SS t' (P.bind p fun b=>P.bind q fun e=>g b e):=by
 intro Φ ρ σ s x r;have h1:=h Φ ρ σ s x r;have hk:=hk Φ ρ σ s x r;unfold P.bind;cases hp:p σ with
 |stuck=>trivial
 |exc σ'=>
  rw[hp] at h1;exact hk _ _ (hV h1 (fun Y Y q=>q.elim) fun Y Y q=>q)
 |ok b σ'=>
  rw[hp] at h1;dsimp only
  have h2':∀a s',Post B C Φ ρ s RR σ' b a s'->∃jh ρ',Step C.jO s Φ ρ s' jh ρ'/\Rel B C jh ρ' σ' s'/\RR jh ρ' b a/\kZ B C jh ρ' s' TT u s' (q σ'):=fun a s' ⟨jh,ρ',q1,q2,q4⟩=>
   ⟨jh,ρ',q1,q2,q4,h2 jh ρ' σ' s' (x.trans q1.ext) q2⟩
  cases hq:q σ' with
  |stuck=>trivial
  |exc oj=>
   refine hk _ _ (hV h1 (fun a s' q=>?_) fun Y Y q=>q.elim);obtain⟨jh,ρ',q1,q2,q3,q4⟩:=h2' a s' q;rw[hq] at q4;exact hV q4 (fun Y Y q=>q.elim) fun Y Y q=>EPost.trans (q1.jO q2.le) q
  |ok c oj=>
   dsimp only
   have h3:∀a s',Post B C Φ ρ s RR σ' b a s'->∀{Q:δ->g9->Prop} {E:g8->g9->Prop},(∀c' Pg iS iT,Step C.jO s Φ ρ Pg iS iT->Step C.ms s Φ ρ Pg iS iT->Rel B C iS iT oj Pg->Ext iQ iP iS iT->RR iS iT b a->TT iS iT c c'->hZ (M B) C.A (f a c') Q E Pg)->
     hZ (M B) C.A u (fun c Pg=>(∃jh ρ' σ',Ext Φ ρ jh ρ'/\Rel B C jh ρ' σ' Pg)/\hZ (M B) C.A (f a c) Q E Pg) E s':=fun a s' q {Q E} hQ=>by
    obtain⟨jh,ρ',q1,q2,q3,q4⟩:=h2' a s' q;rw[hq] at q4;refine hV q4 (fun c' Pg ⟨iS,iT,j1,j2,j3⟩=>?_) fun Y Y q=>q.elim;have st:=q1.trans j1;exact⟨⟨iS,iT,_,st.ext,j2⟩,hQ c' Pg iS iT st (st.jO j2.le) j2 (x.trans st.ext) (mono _ _ _ _ _ _ j1.ext q3) j3⟩
   have fin:∀a c' Pg iS iT,Step C.jO s Φ ρ Pg iS iT->Step C.ms s Φ ρ Pg iS iT->Rel B C iS iT oj Pg->Ext iQ iP iS iT->RR iS iT b a->TT iS iT c c'->kZ B C Φ ρ s SS (f a c') Pg (g b c oj):=
    fun a c' Pg iS iT st st2 r2 e2 hR hT=>kZ.trans st st2 (k iS iT b a c c' e2 hR hT iS iT oj Pg (.refl _ _) r2)
   cases hg:g b c oj with
   |stuck=>trivial
   |ok b' Pn=>
    simp only[hg] at fin;exact hk _ _ (hV h1 (fun a s' q=>h3 a s' q fun c' Pg iS iT j1 j2 j3 j4 j5 j6=>fin a c' Pg iS iT j1 j2 j3 j4 j5 j6) fun Y Y q=>q.elim)
   |exc Pn=>
    simp only[hg] at fin;exact hk _ _ (hV h1 (fun a s' q=>h3 a s' q fun c' Pg iS iT j1 j2 j3 j4 j5 j6=>fin a c' Pg iS iT j1 j2 j3 j4 j5 j6) fun Y Y q=>q.elim)
theorem qB:jm B C iQ iP uW (evalAll ((backToKw pos (iq [] C.env)).map (·.2))) (P.pure []):=jK fun Y Y Y=>.nil
theorem nL{name:Str}{value:iB}{kp:Pos}{rest:List Keyword}{p:P V}{ps:P (List V)}(h:jm B C iQ iP VR (iF value C.env) p)(k:jm B C iQ iP uW (evalAll ((backToKw pos (iq rest C.env)).map (·.2))) ps):
  jm B C iQ iP uW (evalAll ((backToKw pos (iq (⟨some name,value,kp⟩::rest) C.env)).map (·.2))) (P.bind p fun v=>P.bind ps fun vs=>P.pure (v::vs)):=by
 have e:evalAll ((backToKw pos (iq (⟨some name,value,kp⟩::rest) C.env)).map (·.2))=(do
   let v ←(do let v ←iF value C.env;iw pos;pure v);let vs ←holding [v] (evalAll ((backToKw pos (iq rest C.env)).map (·.2)))
   pure (v::vs)):=by
  show evalAll ((do let v ←iF value C.env;iw pos;pure v)::(backToKw pos (iq rest C.env)).map (·.2))=_;rw[evalAll]
 refine R1 e ?_
 have h':jm B C iQ iP VR (do let v ←iF value C.env;iw pos;pure v) p:=by
  intro Φ ρ σ s x r;have h1:=h Φ ρ σ s x r;cases hp:p σ with
  |stuck=>trivial
  |ok b σ'=>rw[hp] at h1;exact g7 (hV h1 (fun Y Y q=>g7 (ic (hO q))) fun Y Y q=>q)
  |exc σ'=>rw[hp] at h1;exact g7 (hV h1 (fun Y Y q=>q.elim) fun Y Y q=>q)
 exact jn h' fun Y Y v w e hv=>jn (jB (k.weaken e)) fun Y Y vs ws e' hvs=>jK fun Y Y x=>.cons ((hv.mono e').mono x) (hvs.mono x)
structure uZ(B:Base)(d:Nat)(fa:hM)(names:List Str)(F:List V->List V->P V): Prop where
 obj:∃o fd,B.h0.get? fa=some o/\o.data=.func fd
 call:∀(C:Ctx) iQ iP vs ws ks us,C.Ok (d+1)->C.A.handled=none->ja iQ iP vs ws->ja iQ iP ks us->jm B C iQ iP VR (call (.ref fa) ws (names.zip us)) (F vs ks)
theorem qD{x:Str}{np:Pos}{args:List iB}{kws:List Keyword}{names:List Str}{ps pk:P (List V)}{F:List V->List V->P V}(h:uZ B d fa names F)(hf:jm B C iQ iP (CR (.ref fa)) (iF (.Name x np) C.env) (P.pure ()))
  (hargs:jm B C iQ iP uW (ix (il pos (ie args C.env))) ps) (MM:jm B C iQ iP uW (evalAll ((backToKw pos (iq kws C.env)).map (·.2))) pk) (K:C.Ok (d+1)) (hh:C.A.handled=none)
  (hall:autoParam ((backToKw pos (iq kws C.env)).all (·.1.isSome)=true) PySem.W.call_K._auto_4) (hn:autoParam ((backToKw pos (iq kws C.env)).filterMap (·.1)=names) PySem.W.call_K._auto_4) (ht:∃t r,il pos (ie args C.env)=(false,t)::r) :
  jm B C iQ iP VR (iF (.Call (.Name x np) args kws pos) C.env) (P.bind ps fun vs=>P.bind pk fun ks=>F vs ks):=by
 refine R1 (arm_eval_Call_Name' ..) ?_;show jm B C iQ iP VR _ (P.bind (P.pure ()) fun Y=>P.bind ps fun vs=>P.bind pk fun ks=>F vs ks);refine jn hf fun iS iT Y a e hb=>?_;obtain rfl:a=.ref fa:=hb;obtain⟨o,fd,ho,hd⟩:=h.obj;obtain⟨t,r,ht⟩:=ht;refine BM (f:=fun vs ks=>call (.ref fa) vs (names.zip ks)) (fun Y Y Y Y Y Y x h=>h.mono x) (hargs.weaken e) (MM.weaken e) (fun Φ ρ σ s x r' Q E hw=>?_) fun kF jv vs ws ks us e' h1 h2=>h.call C kF jv vs ws ks us K hh h1 h2;refine callWith_function_kw (o:=o) (fd:=fd) ?_;rw[ht] at hw ⊢;refine evalArgs_kw hall (hV hw (fun vs s₁ q=>hV q (fun ks Pg q=>⟨⟨?_,hd⟩,?_⟩) fun Y Y q=>q) fun Y Y q=>q)
 .obtain⟨⟨jh,ρ',σ',_,r''⟩,_⟩:=q;exact r''.keep _ _ (r''.base _ _ ho)
 .refine R1 hn ?_;exact q.2
theorem HM{pb:P AF}{N xs:List Str}{names:List Str}{n1 n2:Nat}{mk:List V->List V->List V}(f:∀B:Base,uD B fa (ki B.w.params fa) (bodyOf (ki B.w.params fa)))
  (hN:∀P L,(slotsOf (ki P fa).scope.names (ir (L+1) (ki P fa).scope.names [])).map (·.1)=N) (hk:∀P,o0 (ki P fa).scope.names xs=true)
  (hbind:∀Φ ρ vs ws ks us,ja Φ ρ vs ws->ja Φ ρ ks us->ws.length=n1->us.length=n2->∃bs,ja Φ ρ (mk vs ks) bs/\∀P S,peek (hd.heap_1 P) S (bindArgs (ki P fa) ⟨ws,names.zip us⟩)=some (xs.zip bs)) (hb:BodyOk B d fa pb) :
  uZ B d fa names (fun vs ks=>if vs.length=n1/\ks.length=n2 then P.fn (jy N xs (mk vs ks)) pb else P.stuck) where
 obj:=let ⟨o,h1,h2⟩:=(f B).at';⟨o,_,h1,h2⟩
 call:=fun C iQ iP vs ws ks us K hh hv hu=>by
  split
  .rename_i hl;obtain⟨bs,hbs,hp⟩:=hbind iQ iP vs ws ks us hv hu (hv.length.trans hl.1) (hu.length.trans hl.2);refine CZ K (f B) (fun s X=>kp_binds X fun S=>hp _ S) (hk _) hbs (fun L=>?_) fun C' hC' K' F'=>?_
   .exact R1 (hN ..) rfl
   .obtain⟨L,m,h,rfl⟩:=hC';exact hb _ _ _ _ _ _ (fun ψ=>K'.at ψ) ⟨F'.fr,F'.L⟩ hh
  .exact jr
end
section
open PySem.Spec
section
variable{prog:Program}{w:World}{A:ig}{R:Result->g9->Prop}{I:hM}{fp wr:List hM}{G:Array GenState->Array GenState->Prop}{n:Nat}{P:Nat->g8->Prop}{St:Nat->g9->Prop}
noncomputable def yW(prog:Program)(w:World)(h:ib)(S:hM)(i:Nat): Prop:=∃T m,h.SetOf (bytesKind prog w) S T m/\m<=i/\(0<i->0<m)
theorem BN(W:WalksS prog w A.in1 I fp wr G n P St)(S:hM)(hSf:S∉fp)
  (hval:∀i v,P i v->∃b t,v=.bytes b t) (hb:n+1<scanBound) :
  ∀(k i:Nat) (s:g9),n - i=k->i<=n->St i s->yW prog w s.heap S i->
   (∀s',Moved (S::wr) G s s'->yW prog w s'.heap S n->R (.ok (.ret .none)) s')->
   iy (model prog w) A (.builtin "set.update.loop" ⟨[.ref S,.ref I],[]⟩) R s:=by
 have hSw:S∉wr:=fun h=>hSf (W.sub _ h);have hsub:∀b∈wr,b∈S::wr:=fun b hb=>ad _ hb;have HB:∀{h h':ib} {i:Nat},(∀o,h.get? S=some o->h'.get? S=some o)->yW prog w h S i->yW prog w h' S i:=fun k ⟨T,m,⟨o,es,ep,t,ho,rest⟩,r2⟩=>⟨T,m,⟨o,es,ep,t,k _ ho,rest⟩,r2⟩;intro k
 induction k with
 |zero=>
  intro i s hk hi hst hS hR;have hin:i=n:=by lia
  subst hin;refine codeAny_builtin PyProof.Rows.F.entry_set_update_loop ?_;refine R1 (ig.under_plainId PyProof.Rows.F.plain_set_update_loop _) ?_;show hZ _ A.in1 (pyNext (.ref I) >>= _) _ _ s;refine g7 (W.done s _ _ hst fun s' hm=>?_);show hZ _ A.in1 (ret g8.none) _ _ s';exact hO (hR s' (hm.mono hsub) (HB (fun o ho=>hm.heap S _ hSw ho) hS))
 |succ k ih=>
  intro i s hk hi hst hS hR;have hlt:i<n:=by exact ft hk
  refine codeAny_builtin PyProof.Rows.F.entry_set_update_loop ?_;refine R1 (ig.under_plainId PyProof.Rows.F.plain_set_update_loop _) ?_;show hZ _ A.in1 (pyNext (.ref I) >>= _) _ _ s;refine g7 (W.item i s _ _ hlt hst fun v s' hP hst' hm=>?_);obtain⟨b,t,rfl⟩:=hval i v hP;obtain⟨T,m,hS',hm1,hm2⟩:=HB (fun o ho=>hm.heap S _ hSw ho) hS;have hkey:(bytesKind prog w).is b.toList (.bytes b t)=true:=by simp[bytesKind,isBytes]
  show hZ _ A.in1 (holding [g8.bytes b t] (setAdd S (.bytes b t)) >>= _) _ _ s';refine g7 (ik ?_);unfold setAdd;refine ik ?_;refine g7 ((bytesKind prog w).pyHash (k:=b.toList) hkey ?_);have hroom:m+1<scanBound:=by lia
  refine wpAny_setAddHashed_of (knd:=bytesKind prog w) (s:={s' with toks:=s'.toks+1}) hkey rfl hS' hroom fun h' hsb hS2=>?_
  have hSi:yW prog w h' S (i+1):=⟨_,_,hS2,by split<;>lia,fun Y=>by
   split
   .rename_i hT;obtain⟨o,es,ep,tb,ho,h1,h2,h3,h4,h5,h6,h7⟩:=hS';obtain⟨e,he,_⟩:=(h4 _).mp hT;refine R2 h7 ?_;have:0<es.toList.length:=cW he
    simpa using this
   .exact eU m⟩
  refine hO ⟨plainId_quiet PyProof.Rows.F.plain_set_update_loop _,ih (i+1) _ (by lia) hlt (W.frame _ s' _ _ hst' (bU _) fun b hb o e=>?_) hSi fun s'' hm'' hS''=>?_⟩
  .rw[hsb.2 b (fun h:b=S=>hSf (by rw[←h];exact hb))];exact e
  .refine hR s'' (Moved.trans W.gtrans ((hm.mono hsub).then_heap (bU _) fun b o hb e=>?_) hm'') hS'';rw[hsb.2 b (fun h:b=S=>hb (by rw[h];exact ac))];exact e
end
theorem C3{prog:Program}{w:World}{A:ig}{s s₁:g9}{l:hM}{items:Array g8}{led:Bool}(hh:A.handled=none)
  (PC:∀b o,s.heap.get? b=some o->s₁.heap.get? b=some o) (hz:s₁.heap.objs.size=s.heap.objs.size+1) (hrest:∀{h g d tk o},g=s₁.gens->d=s₁.drawn->o=s₁.os->(⟨h,g,d,tk,o⟩:g9)={s with heap:=h,toks:=tk})
  (hS:s₁.heap.get? s.heap.objs.size=some {cls:=.type "set",dict:=none,data:=.set #[] 0 (.fresh 0 0 led)})
  (hl:s.heap.IsList l items) (hi:∀(i:Nat) (v:g8),items[i]?=some v->∃b t,v=.bytes b t) (hb:items.size+1<scanBound) {R:Result->g9->Prop} (hR:∀h' tk,yW prog w h' s.heap.objs.size items.size->(∀b o,b<s.heap.objs.size->s.heap.get? b=some o->h'.get? b=some o)->R (.ok (.ret .none)) {s with heap:=h',toks:=tk}) :
  hZ (model prog w) A.in1.in1 (iC.«set.__init__» ⟨[.ref s.heap.objs.size,.ref l],[]⟩) (fun fin s'=>match fin with | .done f=>R (.ok f) s' | .again c'=>c'.quiet=true/\iy (model prog w) A.in1 c' R s') (fun e s'=>R (.error e) s') s₁:=by
 have hlS:l<s.heap.objs.size:=let ⟨_,h,_⟩:=hl;ib.lt_size h;have hl1:s₁.heap.IsList l items:=let ⟨o,h,r⟩:=hl;⟨o,PC _ _ h,r⟩;have hsls:=PySem.F.sub_list_set;have hslf:=PySem.F.sub_list_frozenset;have hne:(g8.type "list" == g8.type "dict")=false:=by decide
 obtain⟨ol,hol',hcl,nl,hdl⟩:=id hl1;obtain⟨ocls,odict,odata,oslots⟩:=ol;simp only at hcl hdl;subst hcl;subst hdl;unfold iC.«set.__init__» noKeywords iC.Frozenset.updateFrom;generalize hPI:pyIter=PI
 wp_walk
 subst hPI;refine wpAny_pyIter_list hl1 ?_;refine g7 (wpAny_runValue ?_);have hneI:l≠s₁.heap.objs.size:=hz▸aK (bi hlS);have off:∀{b},b<s.heap.objs.size->b∉s.heap.objs.size::[s₁.heap.objs.size]:=fun{b} h q=>(av.mp q).elim (aK h) fun q=>aK (bi h) ((af.mp q).trans hz);have hh3:A.in1.in1.in1.handled=none:=hh
 refine BN ((Walks.list hh3 _ l hneI items).toS) s.heap.objs.size
  (fun q=>(av.mp q).elim (fun q=>aK (bB _) (q.trans hz)) fun q=>aZ hlS (af.mp q)) hi hb (items.size - 0) 0 _ rfl (bt _)
  ⟨⟨_,ib.get?_push_size _ rfl,rfl,rfl⟩,(hl1.push _)⟩ ⟨_,_,(PyProof.Rows.setObjOf_fresh (knd:=bytesKind prog w) led).setOf (ib.get?_push_of_some _ hS) (by decide),aM _,fun h=>absurd h (bu _)⟩ fun s' hm hS'=>?_
 show hZ _ _ _ _ _ _;refine hO ?_;show hZ _ _ (ret g8.none) _ _ _;refine hO ?_;have:=hR s'.heap s'.toks hS' fun b o hb e=>hm.heap b o (off hb) (ib.get?_push_of_some _ (PC _ _ e));rw[←hrest hm.gens hm.drawn hm.os] at this;exact this
theorem um{prog:Program}{w:World}{A:ig}{E:g8->g9->Prop}{s:g9}{l:hM}{items:Array g8}{Q:g8->g9->Prop}
  (hh:A.handled=none) (hl:s.heap.IsList l items) (hi:∀(i:Nat) (v:g8),items[i]?=some v->∃b t,v=.bytes b t) (hb:items.size+1<scanBound)
  (h:∀(h':ib) (tk:Nat),yW prog w h' s.heap.objs.size items.size->
   (∀b o,b<s.heap.objs.size->s.heap.get? b=some o->h'.get? b=some o)->Q (.ref s.heap.objs.size) {s with heap:=h',toks:=tk}) :
  hZ (model prog w) A (call (.type "set") [.ref l]) Q E s:=by
 obtain⟨c,tl,hmro⟩:=PySem.F.called_set.mro;have hmade:=PySem.F.called_set.made;have hsub:=PySem.F.called_set.sub;refine wpAny_call (codeAny_of_tree ?_);show hZ _ _ (callAny (.type "set") _) _ _ _;refine hO ⟨Code.quiet_builtin _ (by decide +kernel),codeAny_builtin PySem.F.entry_type_call ?_⟩;rw[ig.under_plain (weight_type_call_type "set" [.ref l] []) rfl];have h1:=PySem.F.called_set.notType;have h2:=PySem.F.called_set.canCreate;have hct:=PySem.F.typeCall_set_1 (.ref l)
 repeat (any_goals (first | assumption | wp_step))
 refine codeAny_mono (code_set_new_1 (.ref l) (E:=E) (Q₁:=fun obj s₁=>∃led:Bool,obj=.ref s.heap.objs.size/\s₁={s with heap:=s.heap.push {cls:=.type "set",dict:=none,data:=.set #[] 0 (.fresh 0 0 led)}}) fun led=>⟨led,rfl,rfl⟩) fun r s₁ hr=>?_;cases r with
 |error e=>exact hr
 |ok fl=>
  cases fl with
  |ret obj=>
   obtain⟨led,rfl,Pl⟩:=hr;have hS:s₁.heap.get? s.heap.objs.size=some {cls:=.type "set",dict:=none,data:=.set #[] 0 (.fresh 0 0 led)}:=by rw[Pl];exact ib.get?_push_size _ rfl
   have PC:∀b o,s.heap.get? b=some o->s₁.heap.get? b=some o:=by rw[Pl];exact fun b o e=>ib.get?_push_of_some _ e
   have hz:s₁.heap.objs.size=s.heap.objs.size+1:=by rw[Pl];exact ib.size_push ..
   have hrest:∀{h g d tk o},g=s₁.gens->d=s₁.drawn->o=s₁.os->(⟨h,g,d,tk,o⟩:g9)={s with heap:=h,toks:=tk}:=by rw[Pl];rintro h g d tk o rfl rfl rfl;rfl
   clear Pl;have hT:s₁.TypeIs (.ref s.heap.objs.size) "set":=⟨_,hS,rfl⟩;have hli:=PySem.F.called_set.init.lookup;have hbi:=PySem.F.called_set.init.bind (.ref s.heap.objs.size)
   repeat (any_goals (first | assumption | wp_step))
   refine codeAny_mono (codeAny_call_builtin (R:=wants (fun r Pg=>r=.none/\∃h' tk,Pg={s with heap:=h',toks:=tk}/\
     yW prog w h' s.heap.objs.size items.size/\
     (∀b o,b<s.heap.objs.size->s.heap.get? b=some o->h'.get? b=some o)) E) PySem.F.called_set.init.plain PySem.F.entry_set_init (check_set_init_1 hT ?_)) fun Pj Pg PJ=>?_
   .exact C3 hh PC hz hrest hS hl hi hb fun h' tk h1 h2=>⟨rfl,h',tk,rfl,h1,h2⟩
   .cases Pj with
    |error e=>exact PJ
    |ok PX=>
     cases PX with
     |ret r=>
      obtain⟨rfl,h',tk,rfl,hS',hk'⟩:=PJ
      repeat (any_goals (first | assumption | wp_step))
      exact h _ _ hS' hk'
     |_=>exact PJ.elim
  |_=>exact hr.elim
end
section
variable{B:Base}{C D:Ctx}{Φ jh iQ iS:Gh}{ρ ρ' iP iT jv:List hM}{σ σ' Ph:AS}{s s' s₁ Pg:g9}{d:Nat}{ψ jw:Gh}{A:ig}{e o:iB}{pos:Pos}
noncomputable def I6:V->Bool
 |.bytes _=>true
 |_=>false
noncomputable def P.AE(v:V): P V:=fun σ=>match jz σ v with
 |some us=>if us.all I6=true/\us.length<1000 then .ok (.fset us.isEmpty) σ else .stuck
 |none=>.stuck
noncomputable def P.setC:List V->P V
 |[v]=>P.AE v
 |_=>P.stuck
theorem Gq{Φ:Gh}{ρ:List hM}{u:V}{w:g8}(h:I6 u=true)(r:jf Φ ρ u w): ∃b t,w=.bytes b t:=by
 cases u with
 |bytes b=>exact r.kG.elim fun t e=>⟨_,t,e⟩
 |_=>cases h
theorem FD{us:List V}{ws:Array g8}{k m:Nat}(hl:ws.size=us.length)(e7:k=m)(m1:m<=ws.size)(m2:0<ws.size->0<m): us.isEmpty=(k == 0):=by
 rw[hl] at m1 m2;cases us with
 |nil=>
  have h0:k=0:=e7.trans (Nat.le_zero.mp m1);exact R1 h0 rfl
 |cons u us=>exact(beq_eq_false_iff_ne.mpr (aZ (e7▸m2 (bE _)))).symm
theorem BJ{v:V}{w:g8}(hh:C.A.handled=none)(hv:jf iQ iP v w): jm B C iQ iP VR (call (.type "set") [w] []) (P.AE v):=by
 intro Φ ρ σ s x r;have hv:=hv.mono x;unfold P.AE;cases hus:jz σ v with
 |none=>trivial
 |some us=>
  dsimp only;by_cases hc:us.all I6=true/\us.length<1000
  .rw[if_pos hc];obtain⟨a,ws,n,rfl,h1,h2,h3⟩:=r.list hv hus;have hl:=h3.length;rw[a5] at hl;refine um hh (js h1) (fun i v hv=>?_) (hl▸aF (dM hc.2) (by decide)) fun h' tk hS hk=>?_
   .obtain⟨u,hu,hr⟩:=h3.get' (w:=v) (i:=i) (by refine R1 aB ?_;exact hv);exact Gq (bl.mp hc.1 u (aP hu)) hr
   .obtain⟨T,m,⟨ob,es,ep,t,ho,e1,e2,e3,e4,e5,e6,e7⟩,m1,m2⟩:=hS;have hn:s.heap.get? s.heap.objs.size=none:=ib.get?_none_of_le (aM _);obtain⟨q1,q2⟩:=r.sR (s':={s with heap:=h',toks:=tk}) (fun b o q=>hk b o (ib.lt_size q) q) hn ho r.gens rfl;have hv':jf (Gh.set Φ s.heap.objs.size ob) ρ (.fset (es.size == 0)) (.ref s.heap.objs.size):=.fset (Gh.jQ _ _ _) e1 e2 e6 (ef (bD.mpr e5) (show((4096:Nat):Int)<2 ^ 63 by decide));refine R1 (FD hl e7 m1 m2) ?_;refine⟨_,ρ,.o7 rfl q2.1 fun b o' e=>?_,q1,hv'⟩;by_cases q:b=s.heap.objs.size
    .exact R1 q (.inr (r.mH hn))
    .exact .inl ((if_neg q).symm.trans e)
  .rw[if_neg hc];trivial
theorem CU{vs:List V}{ws:List g8}(hh:C.A.handled=none)(h:ja iQ iP vs ws): jm B C iQ iP VR (call (.type "set") ws []) (P.setC vs):=by
 cases vs with
 |nil=>exact jr
 |cons v l=>cases l with
  |cons _ _=>exact jr
  |nil=>
   obtain⟨w,rfl,hv⟩:=h.one;exact BJ hh hv
end
noncomputable def P.ub(its:P (List V))(asg:V->P Unit)(test:P Bool)(ep:P V): List V->P (List V):=fun acc=>P.bind its fun xs=>P.lg asg test (P.mU ep) xs acc
theorem Ei{its:P (List V)}{asg:V->P Unit}{test:P Bool}{ep:P V}: yY (P.ub its asg test ep):=fun acc σ acc' σ' h=>by obtain⟨xs,Pi,_,h⟩:=mY.mp h;exact qd rz h
section
variable{B:Base}{C D:Ctx}{Φ jh iQ iS:Gh}{ρ ρ' iP iT jv:List hM}{σ σ' Ph:AS}{s s' s₁ Pg:g9}{d:Nat}{ψ jw:Gh}{A:ig}{scope:Scope}{pos:Pos}
noncomputable def rF(ce iter:iB)(a0:hM)(env:Env): Sem Unit:=do
 let x ←iF iter env
 iw iter.pos
 let x ←ip iter env x;let _ ←runOwn (.compStart ce 1 (←holding [x] (pyIter x)) (.ref a0) env) env
 pure ()
theorem Iq{elt target iter:iB}{g1:Comprehension}{ifs:List iB}{it acc:g8}{env:Env}{R:Result->g9->Prop}
  (h0:iy (M B) A (.compLoop (.ListComp elt [g1,⟨target,iter,ifs,0⟩] scope pos) 1 it acc env) R s)
  (h:hZ (M B) A (pyIter it) (fun it' s'=>iy (M B) A (.compLoop (.ListComp elt [g1,⟨target,iter,ifs,0⟩] scope pos) 1 it' acc env) R s')
   (notedBy (M B) A env fun x s'=>R (.error x) s') s) :
  iy (M B) A (.compStart (.ListComp elt [g1,⟨target,iter,ifs,0⟩] scope pos) 1 it acc env) R s:=by
 refine codeAny_of_tree ?_;show hZ _ _ ((compStart (.ListComp elt [g1,⟨target,iter,ifs,0⟩] scope pos) 1 it acc env).onRaise (fun x=>do noteFrame x env;iw theWindowsPlace)) _ _ s;refine wpAny_notedAt ?_;unfold compStart;show hZ _ _ (ask >>= _) _ _ s;refine g7 (wpAny_askSetting (wpAny_ite ?_));split
 .first
   |exact g7 (hO (hO (gz rfl h0)))
   |exact hO (gz rfl h0)
 .first
   |exact g7 (wpAny_rule (g7 (ic (g7 (hV h (fun it' s' h'=>hO (gz rfl h')) fun Y Y x=>x)))))
   |(refine g7 (wpAny_rule ?_);show hZ _ _ (iw iter.pos >>= _) _ _ s;exact g7 (ic (g7 (hV h (fun it' s' h'=>hO (gz rfl h')) fun Y Y x=>x))))
theorem Eh{elt target iter:iB}{g1:Comprehension}{ifs:List iB}{a0:hM}{its:P (List V)}{asg:V->P Unit}{test:P Bool}{ep:P V}
  (hi:∀jw,oN B D jw iQ iP target (iF iter D.env) its)
  (nX:∀jw iS iT v w,Ext iQ iP iS iT->jf iS iT v w->jm B (D.at jw) iS iT TR (assign target D.env w) (asg v))
  (htest:∀jw,jm B (D.at jw) iQ iP BR (lh ifs D.env) test) (helt:∀jw,jm B (D.at jw) iQ iP VR (iF elt D.env) ep) (hs:∀x,ip iter D.env x=pure x)
  (hturn:∀it,pS (.ListComp elt [g1,⟨target,iter,ifs,0⟩] scope pos) 1 target iter ifs (do let _ ←call (.builtin "list.append") [.ref a0,←iF elt D.env]) it (.ref a0) D.env) :
  xu B D iQ iP a0 (rF (.ListComp elt [g1,⟨target,iter,ifs,0⟩] scope pos) iter a0 D.env) (P.ub its asg test ep):=by
 intro jw Φ ρ σ s acc ws e r off hpl hacc acc' σ' hres hlen Q E hQ;obtain⟨xs,Pi,h1,h2⟩:=mY.mp hres;obtain⟨kE,am,Hp⟩:=r.arm off fun b hb=>af.mp hb▸hpl.elim fun Y q=>⟨_,q⟩;have h3:=hi kE Φ ρ σ s e Hp;rw[h1] at h3;unfold rF;refine g7 (hV h3 (fun x s₁ h4=>?_) fun Y Y f=>f.elim);refine g7 (ic (g7 (wpAny_of_eq (hs x) (g7 (ik (hV h4 (fun it Pg h5=>?_) fun Y Y f=>f.elim))))));obtain⟨jh,ρ',I,fp,St,rfl,st,r2,W,FU,ex,hst⟩:=h5;have CM:=st.jO am.le;have IQ:Off (D.at jw) jh ρ' (a0::fp):=an.mpr ⟨off.step am.ex st a0 (.head _),fun b hb=>⟨(FU b hb).1,none_le am.le (FU b hb).2.1,(FU b hb).2.2⟩⟩
 have loop:iy (M B) (D.A.mark none) (.compLoop (.ListComp elt [g1,⟨target,iter,ifs,0⟩] scope pos) 1 (.ref I) (.ref a0) D.env) (fun r s'=>match r with
   |.ok f=>hZ (M B) D.A (pure ()) Q E s'
   |.error e=>cameBackBy (M B) D.A D.env E e s') Pg:=
  vJ (D:=D) W (fun hm=>lG (FU a0 hm).2.1 (am.ex a0 (.head _))) (hturn _) rz AU (fun jw iS iT v w ex' hv=>nX jw iS iT v w ((e.trans CM.ext).trans ex') hv) (fun jw=>(htest jw).weaken (e.trans CM.ext)) (ua fun jw=>(helt jw).weaken (e.trans CM.ext)) xs jh ρ' Pi Pg acc ws (.refl _ _) (r.qO am.le st.ext.1 r2) IQ ex hst (hpl.at (r2.vO am a0 (.head _))) (hacc.mono CM.ext) acc' σ' h2 hlen
   fun kF jv PH ws' Mh r5 off5 Mk hys=>hO (hQ kF jv PH ws' (CM.trans Mh) r5 off5 Mk hys)
 exact g7 (wpAny_runOwn (h:=none) (Iq loop (W.self _ _ _ _ _ _ hst loop)))
theorem CH{elt target iter target2 iter2:iB}{ifs yt:List iB}{scope:Scope}{pos:Pos}(it:g8)(a0:hM)(env:Env): pS (.ListComp elt [⟨target,iter,ifs,0⟩,⟨target2,iter2,yt,0⟩] scope pos) 0 target iter ifs (rF (.ListComp elt [⟨target,iter,ifs,0⟩,⟨target2,iter2,yt,0⟩] scope pos) iter2 a0 env) it (.ref a0) env:=by
 have e:∀(ce:iB),(rF ce iter2 a0 env >>= fun Y=>again (.compLoop ce 0 it (.ref a0) env))=(do
   let x ←iF iter2 env
   iw iter2.pos
   let x ←ip iter2 env x;let __do_lift ←holding [x] (pyIter x);let _ ←runOwn (.compStart ce 1 __do_lift (.ref a0) env) env
   again (.compLoop ce 0 it (.ref a0) env)):=fun ce=>by
  unfold rF;simp only[bind_assoc,pure_bind]
 unfold pS;simp only[e];rfl
theorem uM{elt target iter target2 iter2:iB}{ifs yt:List iB}{its its2:P (List V)}{asg G9:V->P Unit}{test test2:P Bool}{ep:P V}{cap:List (Option (Nat×Bool))}(Ka:∀ψ,(C.at ψ).Ok d)(hi:oN B C ψ iQ iP target (iF iter C.env) its)
  (hf:freeOk scope.names C.slots=true) (hk:scope.kind=.function) (hn:qI (scope.names.map (·.1))=true) (hcap:mv scope.names C.slots=cap)
  (nX:∀N m jw iS iT v w,(∀ψ,((lD scope N C m).at ψ).Ok d)->Ext iQ iP iS iT->jf iS iT v w->jm B ((lD scope N C m).at jw) iS iT TR (assign target (lD scope N C m).env w) (asg v))
  (htest:∀N m jw iS iT,(∀ψ,((lD scope N C m).at ψ).Ok d)->Ext iQ iP iS iT->jm B ((lD scope N C m).at jw) iS iT BR (lh ifs (lD scope N C m).env) test)
  (hi2:∀N m jw iS iT,(∀ψ,((lD scope N C m).at ψ).Ok d)->Ext iQ iP iS iT->oN B (lD scope N C m) jw iS iT target2 (iF iter2 (lD scope N C m).env) its2)
  (K5:∀N m jw iS iT v w,(∀ψ,((lD scope N C m).at ψ).Ok d)->Ext iQ iP iS iT->jf iS iT v w->jm B ((lD scope N C m).at jw) iS iT TR (assign target2 (lD scope N C m).env w) (G9 v))
  (Je:∀N m jw iS iT,(∀ψ,((lD scope N C m).at ψ).Ok d)->Ext iQ iP iS iT->jm B ((lD scope N C m).at jw) iS iT BR (lh yt (lD scope N C m).env) test2)
  (helt:∀N m jw iS iT,(∀ψ,((lD scope N C m).at ψ).Ok d)->Ext iQ iP iS iT->jm B ((lD scope N C m).at jw) iS iT VR (iF elt (lD scope N C m).env) ep) (hs:autoParam (∀x,ip iter C.env x=pure x) PyProof.Rows.Assign_ListComp_rowsP._auto_1)
  (hs2:autoParam (∀N m x,ip iter2 (lD scope N C m).env x=pure x) PyProof.Rows.wpAny_AugAssign_Subscript_any._auto_1)
  (ME:autoParam (∀it a0 env,pS (.ListComp elt [⟨target,iter,ifs,0⟩,⟨target2,iter2,yt,0⟩] scope pos) 1 target2 iter2 yt (do let _ ←call (.builtin "list.append") [.ref a0,←iF elt env]) it (.ref a0) env) PyProof.Rows.wpAny_AugAssign_Subscript_any._auto_1) :
  jm B (C.at ψ) iQ iP VR (iF (.ListComp elt [⟨target,iter,ifs,0⟩,⟨target2,iter2,yt,0⟩] scope pos) C.env) (P.mI cap its asg test (P.ub its2 G9 test2 ep)):=by
 subst hcap;intro Φ ρ σ s e r;have run:=rV (cap:=mv scope.names C.slots) (its:=its) (asg:=asg) (test:=test) (pe:=P.ub its2 G9 test2 ep) (σ:=σ);generalize P.mI (mv scope.names C.slots) its asg test (P.ub its2 G9 test2 ep) σ=res at run ⊢;cases run with
 |stuck=>trivial
 |ok xs Pi ys Ph h1 h2 h3=>
  exact rT (pn:=fun a0 env=>rF (.ListComp elt [⟨target,iter,ifs,0⟩,⟨target2,iter2,yt,0⟩] scope pos) iter2 a0 env) Ka hi hf hk (j7 hn) nX htest
   (fun N m a0 iS iT Kd ex=>Eh (fun jw=>hi2 N m jw iS iT Kd ex) (fun jw kF jv v w ex' hv=>K5 N m jw kF jv v w Kd (ex.trans ex') hv) (fun jw=>Je N m jw iS iT Kd ex) (fun jw=>helt N m jw iS iT Kd ex) (hs2 N m) (fun it=>ME it a0 _))
   (fun N m it a0=>CH it a0 _) Ei hs e r h1 h2 h3 (use:=none)
   fun jh ρ' s' a N mN st r' hv hN off h' hsb=>⟨jh,ρ',st.trans (Step.same (s:=s') (s':={s' with heap:=h'}) rfl),r'.wipe off hsb.2,hv⟩
end
section
variable{B:Base}{C:Ctx}{iQ:Gh}{iP:List hM}{d e:Nat}{ψ:Gh}{x:Str}{i:Nat}{pos:Pos}{scope:Scope}{c:hM}
theorem jN(K:C.Ok d)(h:slotIn nums C.slots x=some (i,.loc)): ∀iS iT v w,Ext iQ iP iS iT->jf iS iT v w->jm B C iS iT TR (storeName C.env x w) (P.kd i v):=fun Y Y Y Y Y hv=>tx K h hv
theorem mr(K:C.Ok d)(h:slotIn nums C.slots x=some (i,.cell c)): ∀iS iT v w,Ext iQ iP iS iT->jf iS iT v w->jm B C iS iT TR (storeName C.env x w) (P.kd i v):=fun Y Y Y Y Y hv=>zy K h hv
theorem nU(K:C.Ok d)(h:slotIn nums C.slots x=some (i,.loc)): ∀iS iT v w,Ext iQ iP iS iT->jf iS iT v w->jm B C iS iT TR (assign (.Name x pos) C.env w) (P.kd i v):=fun Y Y Y Y Y hv=>kK (tx K h hv)
theorem Mc(K:C.Ok d)(h:slotIn nums C.slots x=some (i,.cell c)): ∀iS iT v w,Ext iQ iP iS iT->jf iS iT v w->jm B C iS iT TR (assign (.Name x pos) C.env w) (P.kd i v):=fun Y Y Y Y Y hv=>kK (zy K h hv)
theorem E9(K:∀ψ,(C.at ψ).Ok d)(h:slotIn nums C.slots x=some (i,.loc)): ∀jw iS iT v w,Ext iQ iP iS iT->jf iS iT v w->jm B (C.at jw) iS iT TR (storeName C.env x w) (P.kd i v):=fun jw Y Y Y Y Y hv=>tx (K jw) h hv
theorem qw(K:∀ψ,(C.at ψ).Ok d)(h:slotIn nums C.slots x=some (i,.loc)): ∀jw iS iT v w,Ext iQ iP iS iT->jf iS iT v w->jm B (C.at jw) iS iT TR (assign (.Name x pos) C.env w) (P.kd i v):=fun jw Y Y Y Y Y hv=>kK (C:=C.at jw) (tx (K jw) h hv)
theorem BB(K:∀ψ,(C.at ψ).Ok d)(h:slotIn nums C.slots x=some (i,.cell c)): ∀jw iS iT v w,Ext iQ iP iS iT->jf iS iT v w->jm B (C.at jw) iS iT TR (assign (.Name x pos) C.env w) (P.kd i v):=fun jw Y Y Y Y Y hv=>kK (C:=C.at jw) (zy (K jw) h hv)
theorem oP(h:slotIn nums (kU scope.names C.slots) x=some (i,.loc)): ∀N m jw iS iT v w,(∀ψ,((lD scope N C m).at ψ).Ok d)->Ext iQ iP iS iT->jf iS iT v w->jm B ((lD scope N C m).at jw) iS iT TR (assign (.Name x pos) (lD scope N C m).env w) (P.kd i v):=
 fun N m jw Y Y Y Y K Y hv=>kK (C:=(lD scope N C m).at jw) (tx (K jw) h hv)
theorem xH:∀N m jw iS iT,(∀ψ,((lD scope N C m).at ψ).Ok d)->Ext iQ iP iS iT->jm B ((lD scope N C m).at jw) iS iT BR (lh [] (lD scope N C m).env) (P.pure true):=
 fun N m jw Y Y K Y=>BE
theorem sD(h:slotIn nums (kU scope.names C.slots) x=some (i,.loc))(hd:autoParam ((x == ("__debug__" : Str))=false) PySem.ldc._auto_1): ∀N m jw iS iT,(∀ψ,((lD scope N C m).at ψ).Ok d)->Ext iQ iP iS iT->jm B ((lD scope N C m).at jw) iS iT VR (iF (.Name x pos) (lD scope N C m).env) (P.var i):=
 fun N m jw Y Y K Y=>iR (C:=(lD scope N C m).at jw) (K jw) h hd
theorem kl{np:Pos}{args:List iB}{ps:P (List V)}(K:C.Ok d)(hx:C.env.kindOf "len" = some .globalImplicit)(hargs:jm B C iQ iP uW (ix (il pos (ie args C.env))) ps)
  (ht:autoParam ((il pos (ie args C.env)).any (·.1)=false) PySem.W.call_K._auto_4):jm B C iQ iP VR (iF (.Call (.Name "len" np) args [] pos) C.env) (P.bind ps P.len):=
 jl (jC K hx (fun P=>rfl) rfl) (ku _) hargs (fun Y Y Y Y Y hv=>Fo hv) ht
theorem kv{np:Pos}{args:List iB}{ps:P (List V)}(K:C.Ok d)(hx:C.env.kindOf "range" = some .globalImplicit)(hargs:jm B C iQ iP uW (ix (il pos (ie args C.env))) ps)
  (ht:autoParam ((il pos (ie args C.env)).any (·.1)=false) PySem.W.call_K._auto_4):jm B C iQ iP VR (iF (.Call (.Name "range" np) args [] pos) C.env) (P.bind ps P.range):=
 jl (jC K hx (fun P=>rfl) rfl) (mF _) hargs (fun Y Y Y Y Y hv=>BK hv) ht
theorem km.on{fa:hM}{F:List V->P V}(f:km B d fa F)(K:C.Ok e)(hd:d+1<=e)(hh:C.A.handled=none): ∀iS iT vs ws,Ext iQ iP iS iT->ja iS iT vs ws->jm B C iS iT VR (PySem.call (g8.ref fa) ws []) (F vs):=fun Y Y Y Y Y hv=>f.call _ _ _ _ _ (K.le hd) hh hv
theorem jP{o:iB}{apos:Pos}{args:List iB}{po:P V}{ps:P (List V)}(ho:jm B C iQ iP VR (iF o C.env) po)(hargs:jm B C iQ iP uW (ix (il pos (ie args C.env))) ps)
  (hbase:autoParam (attributeBase o "append" C.env (iF o C.env)=iF o C.env) PySem.W.call_K._auto_4)
  (hfew:autoParam (((il pos (ie args C.env)).all (fun x=>!x.1)&&(backToKw pos (iq [] C.env)).all (fun x=>x.1.isSome)
&&decide (args.length+([]:List Keyword).length+(if([]:List Keyword).isEmpty then 0 else 1)<30))=true) PySem.W.call_K._auto_4)
  (hline:autoParam ((apos.endLine == pos.line)=true) PySem.W.call_K._auto_4) (ht:autoParam ((il pos (ie args C.env)).any (·.1)=false) PySem.W.call_K._auto_4) :
  jm B C iQ iP VR (iF (.Call (.Attribute o "append" apos) args [] pos) C.env) (P.bind po fun v σ=>if nQ σ v then P.bind ps (P.append v) σ else .stuck):=
 oS (G:=nQ) ho hargs PySem.F.plainAttrs_list PySem.F.slot_list_append PySem.F.type_list_append (fun Y Y Y Y Y Y r hv hg=>Hx r hv hg) (fun Y Y Y Y Y Y Y hv hvs=>zu hv hvs) hbase hfew hline ht
end
noncomputable def nC:{p:P AF // ∀{B:Base},BodyOk B 0 125 p}:=⟨_,fun{B} L kT A ψ iQ iP Ka F hh=>
 (iU (iY (iW (iR (Ka _) rfl) (iR (Ka _) rfl)) (jN (Ka _) rfl))
 (iU (ke Ka F (jD (jI hh (kv (Ka _) rfl (iM (iW (kl (Ka _) rfl (iM (iR (Ka _) rfl) iO)) iX) (iM (oq iX) (iM (oq iX) iO)))))) (qw Ka rfl) (fun Y=>(iZ (jq (iV (Ka _) (iW (iW (iR (Ka _) rfl) (iR (Ka _) rfl)) iX) iX) (iZ (iY (iW (iR (Ka _) rfl) (iW (je hh (iR (Ka _) rfl) (iR (Ka _) rfl)) (iR (Ka _) rfl))) (jN (Ka _) rfl))) jg))))
 (iZ (jb (iR (Ka _) rfl)))))⟩
theorem Ae{B:Base}: km B 0 125 (P.mQ ["found", "roads", "within", "k"] ["found", "roads", "within"] (nC).1):=
 nR (fun B=>⟨⟨_,B.K _ _ rfl,rfl⟩,by kernel_rfl,rfl,rfl,rfl,rfl,rfl,j7 (by kernel_rfl),rfl,rfl⟩) (fun P L=>rfl) (fun P=>by kernel_rfl)
  (fun P S ws h=>by obtain⟨_,_,_,rfl⟩:=Dw h;kernel_rfl) ((nC).2)
noncomputable def nz:{p:P AF // ∀{B:Base},BodyOk B 0 132 p}:=⟨_,fun{B} L kT A ψ iQ iP Ka F hh=>
 (iU (iY iX (jN (Ka _) rfl))
 (iU (ke Ka F (jD (jI hh (kv (Ka _) rfl (iM (kl (Ka _) rfl (iM (iR (Ka _) rfl) iO)) iO)))) (qw Ka rfl) (fun Y=>(iZ (jq (iV (Ka _) (iW (iW (iR (Ka _) rfl) (iR (Ka _) rfl)) iX) iX) (iZ (iY (iW (iR (Ka _) rfl) (je hh (iR (Ka _) rfl) (iR (Ka _) rfl))) (jN (Ka _) rfl))) jg))))
 (iZ (jb (iR (Ka _) rfl)))))⟩
theorem Ab{B:Base}: km B 0 132 (P.mQ ["found", "roads", "out", "k"] ["found", "roads"] (nz).1):=
 nR (fun B=>⟨⟨_,B.K _ _ rfl,rfl⟩,by kernel_rfl,rfl,rfl,rfl,rfl,rfl,j7 (by kernel_rfl),rfl,rfl⟩) (fun P L=>rfl) (fun P=>by kernel_rfl)
  (fun P S ws h=>by obtain⟨_,_,rfl⟩:=len2 h;kernel_rfl) ((nz).2)
noncomputable def mK(ka:List V->P V): {p:P AF // ∀{B:Base} (jG:km B 0 125 ka),BodyOk B 1 139 p}:=⟨_,fun{B} jG L kT A ψ iQ iP Ka F hh=>
 (iU (iY (iW (iW iX (kl (Ka _) rfl (iM (iR (Ka _) rfl) iO))) iX) (jN (Ka _) rfl))
 (iZ (jb (iW (jl (ju (Ka _) rfl (fun P=>rfl)) jG.cw (iM (iR (Ka _) rfl) (iM (iR (Ka _) rfl) (iM (iR (Ka _) rfl) iO))) (jG.on (Ka _) (by decide) hh)) (jl (ju (Ka _) rfl (fun P=>rfl)) jG.cw (iM (iR (Ka _) rfl) (iM (iR (Ka _) rfl) (iM (iR (Ka _) rfl) iO))) (jG.on (Ka _) (by decide) hh))))))⟩
theorem yE(ka:List V->P V){B:Base}(jG:km B 0 125 ka): km B 1 139 (P.mQ ["one", "two", "roads", "every"] ["one", "two", "roads"] (mK ka).1):=
 nR (fun B=>⟨⟨_,B.K _ _ rfl,rfl⟩,by kernel_rfl,rfl,rfl,rfl,rfl,rfl,j7 (by kernel_rfl),rfl,rfl⟩) (fun P L=>rfl) (fun P=>by kernel_rfl)
  (fun P S ws h=>by obtain⟨_,_,_,rfl⟩:=Dw h;kernel_rfl) ((mK ka).2 jG)
noncomputable def mo(ka:List V->P V)(j9:List V->P V): {p:P AF // ∀{B:Base} (jG:km B 0 125 ka) (j8:km B 0 132 j9),BodyOk B 1 146 p}:=⟨_,fun{B} jG j8 L kT A ψ iQ iP Ka F hh=>
 (iU (iY iX (jN (Ka _) rfl))
 (iU (ke Ka F (jD (jI hh (kv (Ka _) rfl (iM (kl (Ka _) rfl (iM (iR (Ka _) rfl) iO)) iO)))) (qw Ka rfl) (fun Y=>(iZ (jq (pt (Ka _) (je hh (iR (Ka _) rfl) (iR (Ka _) rfl)) (je hh (iR (Ka _) rfl) (iR (Ka _) rfl))) (iZ (iY (iW (iR (Ka _) rfl) (iW iX (iR (Ka _) rfl))) (jN (Ka _) rfl))) jg))))
 (iU (iY (iW (jl (ju (Ka _) rfl (fun P=>rfl)) jG.cw (iM (iR (Ka _) rfl) (iM (iR (Ka _) rfl) (iM (iR (Ka _) rfl) iO))) (jG.on (Ka _) (by decide) hh)) (jl (ju (Ka _) rfl (fun P=>rfl)) jG.cw (iM (iR (Ka _) rfl) (iM (iR (Ka _) rfl) (iM (iR (Ka _) rfl) iO))) (jG.on (Ka _) (by decide) hh))) (jN (Ka _) rfl))
 (iZ (jb (kj (Ka _) (iW (iW (jl (ju (Ka _) rfl (fun P=>rfl)) j8.cw (iM (iR (Ka _) rfl) (iM (iR (Ka _) rfl) iO)) (j8.on (Ka _) (by decide) hh)) (iR (Ka _) rfl)) iX) iX))))))⟩
theorem w9(ka:List V->P V)(j9:List V->P V){B:Base}(jG:km B 0 125 ka)(j8:km B 0 132 j9): km B 1 146 (P.mQ ["k", "one", "two", "roads", "ranks", "ahead", "j", "near"] ["k", "one", "two", "roads", "ranks"] (mo ka j9).1):=
 nR (fun B=>⟨⟨_,B.K _ _ rfl,rfl⟩,by kernel_rfl,rfl,rfl,rfl,rfl,rfl,j7 (by kernel_rfl),rfl,rfl⟩) (fun P L=>rfl) (fun P=>by kernel_rfl)
  (fun P S ws h=>by obtain⟨_,_,_,_,_,rfl⟩:=Gc h;kernel_rfl) ((mo ka j9).2 jG j8)
noncomputable def oM(j9:List V->P V): {p:P AF // ∀{B:Base} (j8:km B 0 132 j9),BodyOk B 1 151 p}:=⟨_,fun{B} j8 L kT A ψ iQ iP Ka F hh=>
 (iU (iY (iW (iR (Ka _) rfl) (zv (jl (ju (Ka _) rfl (fun P=>rfl)) j8.cw (iM (iR (Ka _) rfl) (iM (iR (Ka _) rfl) iO)) (j8.on (Ka _) (by decide) hh)))) (mr (Ka _) rfl))
 (iZ (jb (jJ Ka (jI hh (kv (Ka _) rfl (iM (kl (Ka _) rfl (iM (iR (Ka _) rfl) iO)) iO))) rfl rfl rfl (cap:=[none,none,some (2,true)]) rfl (oP rfl) (fun Y Y Y Y Y Kd Y=>(kL (iV (Kd _) (iW (iW (k9 (Kd _) rfl) (iR (Kd _) rfl)) iX) iX))) (sD rfl)))))⟩
theorem Cg(j9:List V->P V){B:Base}(j8:km B 0 132 j9): km B 1 151 (P.mQ ["both", "roads", "top"] ["both", "roads"] (oM j9).1):=
 nR (fun B=>⟨⟨_,B.K _ _ rfl,rfl⟩,by kernel_rfl,rfl,rfl,rfl,rfl,rfl,j7 (by kernel_rfl),rfl,rfl⟩) (fun P L=>rfl) (fun P=>by kernel_rfl)
  (fun P S ws h=>by obtain⟨_,_,rfl⟩:=len2 h;kernel_rfl) ((oM j9).2 j8)
noncomputable def nB:{p:P AF // ∀{B:Base},BodyOk B 0 158 p}:=⟨_,fun{B} L kT A ψ iQ iP Ka F hh=>
 (iU (ke Ka F (jD (jI hh (kv (Ka _) rfl (iM (kl (Ka _) rfl (iM (iR (Ka _) rfl) iO)) iO)))) (qw Ka rfl) (fun Y=>(iZ (jq (iV (Ka _) (iW (iW (iR (Ka _) rfl) (iR (Ka _) rfl)) iX) iX) (iZ (ke Ka F (jD (jI hh (kv (Ka _) rfl (iM (iR (Ka _) rfl) iO)))) (qw Ka rfl) (fun Y=>(iZ (jq (jd (jk (iV (Ka _) (iW (iW (je hh (iR (Ka _) rfl) (iR (Ka _) rfl)) (iR (Ka _) rfl)) iX) iX) (jk (pt (Ka _) (je hh (iR (Ka _) rfl) (iR (Ka _) rfl)) (je hh (iR (Ka _) rfl) (iR (Ka _) rfl))) jj))) (iZ (jb jA)) jg))))) jg))))
 (iZ (jb jA)))⟩
theorem Ad{B:Base}: km B 0 158 (P.mQ ["found", "roads", "ranks", "k", "e"] ["found", "roads", "ranks"] (nB).1):=
 nR (fun B=>⟨⟨_,B.K _ _ rfl,rfl⟩,by kernel_rfl,rfl,rfl,rfl,rfl,rfl,j7 (by kernel_rfl),rfl,rfl⟩) (fun P L=>rfl) (fun P=>by kernel_rfl)
  (fun P S ws h=>by obtain⟨_,_,_,rfl⟩:=Dw h;kernel_rfl) ((nB).2)
noncomputable def mL(jT:List V->P V)(lr:List V->P V)(nE:List V->P V)(ka:List V->P V)(kx:List V->P V)(j9:List V->P V): {p:P AF // ∀{B:Base} (jS:km B 1 139 jT) (lp:km B 1 151 lr) (nj:km B 0 158 nE) (jG:km B 0 125 ka) (kt:km B 1 146 kx) (j8:km B 0 132 j9),BodyOk B 2 163 p}:=⟨_,fun{B} jS lp nj jG kt j8 L kT A ψ iQ iP Ka F hh=>
 (iU (iY (iW (iW iX (kl (Ka _) rfl (iM (iR (Ka _) rfl) iO))) iX) (jN (Ka _) rfl))
 (iU (iY (jl (ju (Ka _) rfl (fun P=>rfl)) jS.cw (iM (iR (Ka _) rfl) (iM (iR (Ka _) rfl) (iM (iR (Ka _) rfl) iO))) (jS.on (Ka _) (by decide) hh)) (jN (Ka _) rfl))
 (iU (iY (jl (ju (Ka _) rfl (fun P=>rfl)) lp.cw (iM (iR (Ka _) rfl) (iM (iR (Ka _) rfl) iO)) (lp.on (Ka _) (by decide) hh)) (jN (Ka _) rfl))
 (iU (ke Ka F (jD (o5 (jC (Ka _) rfl (fun P=>rfl) rfl) (mF _) (iM (i9 (Ka _) rfl) (iM (k8 (i9 (Ka _) rfl) (lm iX) kR) iO)) (fun Y Y Y Y Y hv=>Ie hh hv))) (fun Y Y Y Y Y Y hv=>(j0 hh hv (nU (Ka _) rfl) (nU (Ka _) rfl))) (fun Y=>(iZ (jq (iV (Ka _) (je hh (je hh (iR (Ka _) rfl) (iR (Ka _) rfl)) iX) (je hh (je hh (iR (Ka _) rfl) (iR (Ka _) rfl)) iX)) (iZ (jb jA)) jg))))
 (iU (jq (jc (jl (ju (Ka _) rfl (fun P=>rfl)) nj.cw (iM (jl (ju (Ka _) rfl (fun P=>rfl)) jG.cw (iM (iW (iR (Ka _) rfl) (iR (Ka _) rfl)) (iM (iR (Ka _) rfl) (iM (iR (Ka _) rfl) iO))) (jG.on (Ka _) (by decide) hh)) (iM (iR (Ka _) rfl) (iM (iR (Ka _) rfl) iO))) (nj.on (Ka _) (by decide) hh))) (iZ (jb (kj (Ka _) (jl (jC (Ka _) rfl (fun P=>rfl) rfl) (ku _) (iM (i9 (Ka _) rfl) iO) (fun Y Y Y Y Y hv=>qA hv)) (iR (Ka _) rfl)))) jg)
 (iU (iY iX (jN (Ka _) rfl))
 (iU (ke Ka F (jD (jI hh (i9 (Ka _) rfl))) (qw Ka rfl) (fun Y=>(iU (jq (jd (ji (iV (Ka _) (iW (iW (iR (Ka _) rfl) (iR (Ka _) rfl)) iX) iX) (ji (iV (Ka _) (iW (iW (iR (Ka _) rfl) (iR (Ka _) rfl)) iX) iX) jj))) (iZ (jb jA)) jg)
 (iU (iY (iW (iR (Ka _) rfl) (iW iX (iR (Ka _) rfl))) (jN (Ka _) rfl))
 (iZ (jq (jd (jk (iV (Ka _) (iR (Ka _) rfl) (iR (Ka _) rfl)) (jk (jc (jl (ju (Ka _) rfl (fun P=>rfl)) kt.cw (iM (iR (Ka _) rfl) (iM (iR (Ka _) rfl) (iM (iR (Ka _) rfl) (iM (iR (Ka _) rfl) (iM (iR (Ka _) rfl) iO))))) (kt.on (Ka _) (by decide) hh))) jj))) (iZ (jb jA)) jg))))))
 (iZ (jb (my (l8 (kj (Ka _) (jJ Ka (jI hh (iR (Ka _) rfl)) rfl rfl rfl (cap:=[none,none,some (0,true)]) rfl (oP rfl) (fun Y Y Y Y Y Kd Y=>(kL (iV (Kd _) (iR (Kd _) rfl) (k9 (Kd _) rfl)))) (sD rfl)) (jp rfl iO)) (lj (kj (Ka _) (iW (iR (Ka _) rfl) (jl (ju (Ka _) rfl (fun P=>rfl)) j8.cw (iM (iR (Ka _) rfl) (iM (iR (Ka _) rfl) iO)) (j8.on (Ka _) (by decide) hh))) iX)))))))))))))⟩
theorem yF(jT:List V->P V)(lr:List V->P V)(nE:List V->P V)(ka:List V->P V)(kx:List V->P V)(j9:List V->P V){B:Base}(jS:km B 1 139 jT)(lp:km B 1 151 lr)(nj:km B 0 158 nE)(jG:km B 0 125 ka)(kt:km B 1 146 kx)(j8:km B 0 132 j9): km B 2 163 (P.mQ ["spots", "one", "two", "roads", "ranks", "every", "both", "row", "a", "b", "mask", "k"] ["spots", "one", "two", "roads", "ranks"] (mL jT lr nE ka kx j9).1):=
 nR (fun B=>⟨⟨_,B.K _ _ rfl,rfl⟩,by kernel_rfl,rfl,rfl,rfl,rfl,rfl,j7 (by kernel_rfl),rfl,rfl⟩) (fun P L=>rfl) (fun P=>by kernel_rfl)
  (fun P S ws h=>by obtain⟨_,_,_,_,_,rfl⟩:=Gc h;kernel_rfl) ((mL jT lr nE ka kx j9).2 jS lp nj jG kt j8)
noncomputable def mM(jT:List V->P V)(kx:List V->P V): {p:P AF // ∀{B:Base} (jS:km B 1 139 jT) (kt:km B 1 146 kx),BodyOk B 2 168 p}:=⟨_,fun{B} jS kt L kT A ψ iQ iP Ka F hh=>
 (iU (iY (jl (ju (Ka _) rfl (fun P=>rfl)) jS.cw (iM (i9 (Ka _) rfl) (iM (i9 (Ka _) rfl) (iM (i9 (Ka _) rfl) iO))) (jS.on (Ka _) (by decide) hh)) (mr (Ka _) rfl))
 (iU (jq (iV (Ka _) (iW (iW (i9 (Ka _) rfl) (i9 (Ka _) rfl)) iX) iX) (iZ (jb jA)) jg)
 (iZ (jb (kj (Ka _) (jJ Ka (jI hh (kv (Ka _) rfl (iM (kl (Ka _) rfl (iM (i9 (Ka _) rfl) iO)) iO))) rfl rfl rfl (cap:=[none,none,some (0,true),some (5,true),some (1,true),some (4,true),some (3,true),some (2,true)]) rfl (oP rfl) (fun Y Y Y Y Y Kd Y=>(kL (jd (jk (iV (Kd _) (iR (Kd _) rfl) (k9 (Kd _) rfl)) (jk (iV (Kd _) (iW (iW (k9 (Kd _) rfl) (iR (Kd _) rfl)) iX) iX) (jk (jx (jc (jl (ju (Kd _) rfl (fun P=>rfl)) kt.cw (iM (iR (Kd _) rfl) (iM (k9 (Kd _) rfl) (iM (k9 (Kd _) rfl) (iM (k9 (Kd _) rfl) (iM (k9 (Kd _) rfl) iO))))) (kt.on (Kd _) (by decide) hh)))) jj)))))) (sD rfl)) (jp rfl iO))))))⟩
theorem yG(jT:List V->P V)(kx:List V->P V){B:Base}(jS:km B 1 139 jT)(kt:km B 1 146 kx): km B 2 168 (P.mQ ["a", "one", "two", "roads", "ranks", "both"] ["a", "one", "two", "roads", "ranks"] (mM jT kx).1):=
 nR (fun B=>⟨⟨_,B.K _ _ rfl,rfl⟩,by kernel_rfl,rfl,rfl,rfl,rfl,rfl,j7 (by kernel_rfl),rfl,rfl⟩) (fun P L=>rfl) (fun P=>by kernel_rfl)
  (fun P S ws h=>by obtain⟨_,_,_,_,_,rfl⟩:=Gc h;kernel_rfl) ((mM jT kx).2 jS kt)
noncomputable def nA(lr:List V->P V)(jT:List V->P V): {p:P AF // ∀{B:Base} (lp:km B 1 151 lr) (jS:km B 1 139 jT),BodyOk B 2 175 p}:=⟨_,fun{B} lp jS L kT A ψ iQ iP Ka F hh=>
 (iU (iY (jp rfl (iM (je hh (iR (Ka _) rfl) iX) iO)) (jN (Ka _) rfl))
 (iU (ke Ka F (jD (jI hh (k8 (iR (Ka _) rfl) (lm iX) kR))) (qw Ka rfl) (fun Y=>(iU (jq (jd (jk (iV (Ka _) (iR (Ka _) rfl) (jp rfl iO)) (jk (jc (iR (Ka _) rfl)) (jk (jd (ji (iV (Ka _) (iR (Ka _) rfl) (iW (kl (Ka _) rfl (iM (iR (Ka _) rfl) iO)) iX)) (ji (iV (Ka _) (iW (kl (Ka _) rfl (iM (iR (Ka _) rfl) iO)) iX) (iR (Ka _) rfl)) jj))) jj)))) (iZ (jb jZ)) jg)
 (iU (iY (jp rfl iO) (jN (Ka _) rfl))
 (iU (ke Ka F (jD (jI hh (iR (Ka _) rfl))) (qw Ka rfl) (fun Y=>(iZ (iY (iW (iR (Ka _) rfl) (jl (ju (Ka _) rfl (fun P=>rfl)) lp.cw (iM (jl (ju (Ka _) rfl (fun P=>rfl)) jS.cw (iM (iW iX (iR (Ka _) rfl)) (iM (iW iX (iR (Ka _) rfl)) (iM (iR (Ka _) rfl) iO))) (jS.on (Ka _) (by decide) hh)) (iM (iR (Ka _) rfl) iO)) (lp.on (Ka _) (by decide) hh))) (jN (Ka _) rfl)))))
 (iZ (iY (iR (Ka _) rfl) (jN (Ka _) rfl))))))))
 (iZ (jb (iR (Ka _) rfl)))))⟩
theorem Ac(lr:List V->P V)(jT:List V->P V){B:Base}(lp:km B 1 151 lr)(jS:km B 1 139 jT): km B 2 175 (P.mQ ["ids", "roads", "whole", "due", "k", "fresh", "a"] ["ids", "roads", "whole"] (nA lr jT).1):=
 nR (fun B=>⟨⟨_,B.K _ _ rfl,rfl⟩,by kernel_rfl,rfl,rfl,rfl,rfl,rfl,j7 (by kernel_rfl),rfl,rfl⟩) (fun P L=>rfl) (fun P=>by kernel_rfl)
  (fun P S ws h=>by obtain⟨_,_,_,rfl⟩:=Dw h;kernel_rfl) ((nA lr jT).2 lp jS)
noncomputable def oJ:{p:P AF // ∀{B:Base},BodyOk B 0 70 p}:=⟨_,fun{B} L kT A ψ iQ iP Ka F hh=>
 (iU (iY (jl (ju (Ka _) rfl (fun P=>rfl)) (ku _) (iM (CV (iR (Ka _) rfl)) iO) (fun Y Y Y Y Y hv=>xY (Ka _) hv)) (jN (Ka _) rfl))
 (iU (jq (jc (iR (Ka _) rfl)) (iU (m8 (iR (Ka _) rfl) (fun Y Y Y Y Y hv=>(j0 hh hv (nU (Ka _) rfl) (nU (Ka _) rfl))))
 (iZ (jb (jV (iM (oq (iR (Ka _) rfl)) (iM (iR (Ka _) rfl) iO)))))) jg)
 (iZ (jb jZ))))⟩
theorem Eb{B:Base}: km B 0 70 (P.mQ ["self", "item", "pr", "cmt"] ["self"] (oJ).1):=
 nR (fun B=>⟨⟨_,B.K _ _ rfl,rfl⟩,by kernel_rfl,rfl,rfl,rfl,rfl,rfl,j7 (by kernel_rfl),rfl,rfl⟩) (fun P L=>rfl) (fun P=>by kernel_rfl)
  (fun P S ws h=>by obtain⟨_,rfl⟩:=Dx h;kernel_rfl) ((oJ).2)
noncomputable def oK:{p:P AF // ∀{B:Base},Bs B 0 63 p}:=⟨_,fun{B} L kT A ψ iQ iP Ka F hx=>
 (iU (m8 (iR (Ka _) rfl) (fun Y Y Y Y Y hv=>(oo hx hv (nU (Ka _) rfl) (nU (Ka _) rfl))))
 (iZ (jW (jl (ju (Ka _) rfl (fun P=>rfl)) (ku _) (iM (CV (iR (Ka _) rfl)) (iM (jV (iM (oq (iR (Ka _) rfl)) (iM (iR (Ka _) rfl) iO))) iO)) (fun Y Y Y Y Y hv=>v6 (Ka _) hv)))))⟩
theorem pM{B:Base}: H6 B 0 63 (P.mQ ["self", "item", "dt", "cmt"] ["self", "item"] (oK).1):=
 GM (fun B=>⟨⟨_,B.K _ _ rfl,rfl⟩,by kernel_rfl,rfl,rfl,rfl,rfl,rfl,j7 (by kernel_rfl),rfl,rfl⟩) (fun P L=>rfl) (fun P=>by kernel_rfl)
  (fun P S ws h=>by obtain⟨_,_,rfl⟩:=len2 h;kernel_rfl) ((oK).2)
noncomputable def uF:List V->P V:=P.mQ ["self", "item", "dt", "cmt"] ["self", "item"] oK.1
noncomputable def Hh:List V->P V:=P.mQ ["self", "item", "pr", "cmt"] ["self"] oJ.1
noncomputable def mO:{p:P AF // ∀{B:Base},BodyOk B 2 90 p}:=⟨_,fun{B} L kT A ψ iQ iP Ka F hh=>
 (iU (iY (kQ rfl iO) (jN (Ka _) rfl))
 (iU (iY (tu (k:=0)) (jN (Ka _) rfl))
 (iU (iY iX (jN (Ka _) rfl))
 (iU (iY iX (jN (Ka _) rfl))
 (iU (iY iX (mr (Ka _) rfl))
 (iU (iY iX (jN (Ka _) rfl))
 (iU (v7 (k:=0) (qual:= "_find_lcas.<locals>._has_candidates") (x:= "_DNC") (Ka _) rfl B.codes.1 (by decide) (by kernel_rfl) (by kernel_rfl) (by kernel_rfl) rfl (by kernel_rfl) (by kernel_rfl) (by kernel_rfl) (by kernel_rfl) (jN (Ka _) rfl))
 (iU (iY (xW (d:=0) ((Ka _).le (by decide)) (ju (Ka _) rfl (fun P=>rfl))) (jN (Ka _) rfl))
 (iU (lA (iR (Ka _) rfl) (iR (Ka _) rfl) (iR (Ka _) rfl))
 (iU (nM Ka F rfl (iZ (jW (ll (F:=fun v vs=>uF (v::vs)) (iR (Ka _) rfl) (iM (jV (iM (lV Ka hh (iR (Ka _) rfl) (iM (iR (Ka _) rfl) iO)) (iM (iR (Ka _) rfl) iO))) iO) pz (fun P=>rfl) (fun Y Y Y=>rfl) ⟨_,B.K _ _ rfl,rfl⟩ (fun Y Y Y Y Y Y Y hv hvs=>pM.call _ _ _ _ _ ((Ka _).le (by decide)) (.inl hh) (.cons hv hvs))))) (fun Ib ah A3 Kh=>(kg (q0 (jd (ji (iV Kh (iR Kh rfl) jZ) (ji (jx (jc (iR Kh rfl))) jj))) (kg (m9 A3 F) (jY jg)) (jY jg)) (kg (jY (jW (ll (F:=fun v vs=>uF (v::vs)) (iR Kh rfl) (iM (jV (iM iX (iM (iR Kh rfl) iO))) iO) pz (fun P=>rfl) (fun Y Y Y=>rfl) ⟨_,B.K _ _ rfl,rfl⟩ (fun Y Y Y Y Y Y Y hv hvs=>pM.call _ _ _ _ _ (Kh.le (by decide)) A3.hdx (.cons hv hvs))))) (jY jg)))))
 (iU (ke Ka F (jD (jI hh (iR (Ka _) rfl))) (qw Ka rfl) (fun Y=>(iU (iY (oS (G:=o6) (iR (Ka _) rfl) (iM (iR (Ka _) rfl) (iM iX iO)) PySem.F.plainAttrs_dict PySem.F.slot_dict_get PySem.F.type_dict_get (fun Y Y Y Y Y Y r hv hg=>H4 r hv hg) (fun Y Y Y Y Y Y Y hv hvs=>sj hv hvs)) (jN (Ka _) rfl))
 (iU (lA (iW (iR (Ka _) rfl) (iR (Ka _) rfl)) (iR (Ka _) rfl) (iR (Ka _) rfl))
 (iZ (nM Ka F rfl (iZ (jW (ll (F:=fun v vs=>uF (v::vs)) (iR (Ka _) rfl) (iM (jV (iM (lV Ka hh (iR (Ka _) rfl) (iM (iR (Ka _) rfl) iO)) (iM (iR (Ka _) rfl) iO))) iO) pz (fun P=>rfl) (fun Y Y Y=>rfl) ⟨_,B.K _ _ rfl,rfl⟩ (fun Y Y Y Y Y Y Y hv hvs=>pM.call _ _ _ _ _ ((Ka _).le (by decide)) (.inl hh) (.cons hv hvs))))) (fun Ib ah A3 Kh=>(kg (q0 (jd (ji (iV Kh (iR Kh rfl) jZ) (ji (jx (jc (iR Kh rfl))) jj))) (kg (m9 A3 F) (jY jg)) (jY jg)) (kg (jY (jW (ll (F:=fun v vs=>uF (v::vs)) (iR Kh rfl) (iM (jV (iM iX (iM (iR Kh rfl) iO))) iO) pz (fun P=>rfl) (fun Y Y Y=>rfl) ⟨_,B.K _ _ rfl,rfl⟩ (fun Y Y Y Y Y Y Y hv hvs=>pM.call _ _ _ _ _ (Kh.le (by decide)) A3.hdx (.cons hv hvs))))) (jY jg))))))))))
 (iU (vg 100000 (Ka _) F (jc (lV Ka hh (iR (Ka _) rfl) (iM (iR (Ka _) rfl) (iM (iR (Ka _) rfl) iO)))) (iU (iY (ll (F:=fun v vs=>Hh (v::vs)) (iR (Ka _) rfl) iO BA (fun P=>rfl) (fun Y Y Y=>rfl) ⟨_,B.K _ _ rfl,rfl⟩ (fun Y Y Y Y Y Y Y hv hvs=>Eb.call _ _ _ _ _ ((Ka _).le (by decide)) hh (.cons hv hvs))) (jN (Ka _) rfl))
 (iU (jq (iV (Ka _) (iR (Ka _) rfl) jZ) (iZ rH) jg)
 (iU (m8 (iR (Ka _) rfl) (fun Y Y Y Y Y hv=>(j0 hh hv (nU (Ka _) rfl) (nU (Ka _) rfl))))
 (iU (iY (iW (je hh (iR (Ka _) rfl) (iR (Ka _) rfl)) (iW (iW (iR (Ka _) rfl) (iR (Ka _) rfl)) (i9 (Ka _) rfl))) (jN (Ka _) rfl))
 (iU (jq (iV (Ka _) (iR (Ka _) rfl) (iW (iR (Ka _) rfl) (iR (Ka _) rfl))) (iU (jq (jx (iV (Ka _) (iW (je hh (iR (Ka _) rfl) (iR (Ka _) rfl)) (iR (Ka _) rfl)) (iR (Ka _) rfl))) (iU (lA (iW (je hh (iR (Ka _) rfl) (iR (Ka _) rfl)) (iR (Ka _) rfl)) (iR (Ka _) rfl) (iR (Ka _) rfl))
 (iZ (jW (jP (iR (Ka _) rfl) (iM (jV (iM (iR (Ka _) rfl) (iM (iR (Ka _) rfl) iO))) iO))))) jg)
 (iZ (iY (iW (iR (Ka _) rfl) (i9 (Ka _) rfl)) (jN (Ka _) rfl)))) jg)
 (iU (nM Ka F rfl (iZ (iY (lV Ka hh (iR (Ka _) rfl) (iM (iR (Ka _) rfl) iO)) (jN (Ka _) rfl))) (fun Ib ah A3 Kh=>(kg (q0 (jd (jk (iV Kh (iR Kh rfl) jZ) (jk (jc (iR Kh rfl)) jj))) (kg (jY me) (jY jg)) (jY jg)) (kg (m9 A3 F) (jY jg)))))
 (iZ (jq (jc (iR (Ka _) rfl)) (iZ (ke Ka F (jD (jI hh (iR (Ka _) rfl))) (qw Ka rfl) (fun Y=>(iU (iY (oS (G:=o6) (iR (Ka _) rfl) (iM (iR (Ka _) rfl) (iM iX iO)) PySem.F.plainAttrs_dict PySem.F.slot_dict_get PySem.F.type_dict_get (fun Y Y Y Y Y Y r hv hg=>H4 r hv hg) (fun Y Y Y Y Y Y Y hv hvs=>sj hv hvs)) (jN (Ka _) rfl))
 (iU (jq (iV (Ka _) (iW (iR (Ka _) rfl) (iR (Ka _) rfl)) (iR (Ka _) rfl)) (iZ me) jg)
 (iU (nM Ka F rfl (iZ (iY (lV Ka hh (iR (Ka _) rfl) (iM (iR (Ka _) rfl) iO)) (jN (Ka _) rfl))) (fun Ib ah A3 Kh=>(kg (q0 (jd (jk (iV Kh (iR Kh rfl) jZ) (jk (jc (iR Kh rfl)) jj))) (kg (jY me) (jY jg)) (jY jg)) (kg (m9 A3 F) (jY jg)))))
 (iU (jq (iV (Ka _) (iR (Ka _) rfl) (iR (Ka _) rfl)) (iZ me) jg)
 (iU (lA (iW (iR (Ka _) rfl) (iR (Ka _) rfl)) (iR (Ka _) rfl) (iR (Ka _) rfl))
 (iZ (jW (ll (F:=fun v vs=>uF (v::vs)) (iR (Ka _) rfl) (iM (jV (iM (iR (Ka _) rfl) (iM (iR (Ka _) rfl) iO))) iO) pz (fun P=>rfl) (fun Y Y Y=>rfl) ⟨_,B.K _ _ rfl,rfl⟩ (fun Y Y Y Y Y Y Y hv hvs=>pM.call _ _ _ _ _ ((Ka _).le (by decide)) (.inl hh) (.cons hv hvs))))))))))))) jg)))))))))
 (iU (iY (kQ rfl iO) (jN (Ka _) rfl))
 (iU (ke Ka F (jD (DN hh (Ka _) rfl)) (fun Y Y Y Y Y Y hv=>(j0 hh hv (nU (Ka _) rfl) (nU (Ka _) rfl))) (fun Y=>(iZ (jq (jd (jk (jx (iV (Ka _) (iW (je hh (iR (Ka _) rfl) (iR (Ka _) rfl)) (i9 (Ka _) rfl)) (i9 (Ka _) rfl))) (jk (iV (Ka _) (jV (iM (iR (Ka _) rfl) (iM (iR (Ka _) rfl) iO))) (iR (Ka _) rfl)) jj))) (iZ (jW (jP (iR (Ka _) rfl) (iM (jV (iM (iR (Ka _) rfl) (iM (iR (Ka _) rfl) iO))) iO)))) jg))))
 (iU (jW (x0 (d:=1) (qual:= "_find_lcas.<locals>.<lambda>") (y:= "x") (Ka _) (iR (Ka _) rfl) rfl B.codes.1 (by decide) (by kernel_rfl) (by kernel_rfl) (by kernel_rfl) (by kernel_rfl) (by kernel_rfl) (by kernel_rfl) (by kernel_rfl) (by decide) (by kernel_rfl) (fun Y Y Y Y=>by kernel_rfl)))
 (iU (mf Ka (DN hh (Ka _) rfl) rfl rfl rfl (cap:=[none,none,none]) rfl (fun Y Y Y Y Y Y Y Kd Y hv=>(j0 hh hv (nU (Kd _) rfl) (nU (Kd _) rfl))) (xH) (sD rfl) (E9 Ka rfl))
 (iZ (jb (iR (Ka _) rfl)))))))))))))))))))⟩
noncomputable abbrev Dz:List Str:=["lookup_parents", "c1", "c2s", "lookup_stamp", "min_stamp", "shallows", "cands", "cstates", "_ANC_OF_1", "_ANC_OF_2", "_LCA", "_has_candidates", "wlst", "c2", "cflags", "result", "dt", "cmt", "parents", "pcmt", "pflags", "pdt", "results", "lcas", "_DNC"]
noncomputable abbrev yi:List Str:=["lookup_parents", "c1", "c2s", "lookup_stamp", "min_stamp", "shallows"]
noncomputable def P.ko(vs:List V): P V:=P.fn (jy Dz yi vs) mO.1
noncomputable def mk1:List V->List V->List V
 |[a,b,c,e],[f]=>[a,b,c,e,.int 0,f]
 |_,_=>[]
noncomputable def mk2:List V->List V->List V
 |[a,b,c,e],[g,f]=>[a,b,c,e,g,f]
 |_,_=>[]
theorem zS(P:Params)(S:Setting)(a b c e f:g8): peek (hd.heap_1 P) S (bindArgs (ki P 90) ⟨[a,b,c,e],([("shallows" : Str)].zip [f])⟩)=some (yi.zip [a,b,c,e,.int 0 381,f]):=by kernel_rfl
theorem zR(P:Params)(S:Setting)(a b c e g f:g8): peek (hd.heap_1 P) S (bindArgs (ki P 90) ⟨[a,b,c,e],([("min_stamp" : Str), "shallows"].zip [g,f])⟩)=some (yi.zip [a,b,c,e,g,f]):=by kernel_rfl
theorem A8{B:Base}: uZ B 2 90 ["shallows"] (fun vs ks=>if vs.length=4/\ks.length=1 then P.ko (mk1 vs ks) else P.stuck):=
 HM (fun B=>⟨⟨_,B.K _ _ rfl,rfl⟩,by kernel_rfl,rfl,rfl,rfl,rfl,rfl,j7 (by kernel_rfl),rfl,rfl⟩) (fun P L=>rfl) (fun P=>by kernel_rfl)
  (fun Φ ρ vs ws ks us h1 h2 l1 l2=>by obtain⟨a,b,c,e,rfl⟩:=B1 (h1.length.symm.trans l1);obtain⟨f,rfl⟩:=Dx (h2.length.symm.trans l2);obtain⟨_,_,rfl,q1,k1⟩:=h1.kG;obtain⟨_,_,rfl,q2,k2⟩:=k1.kG;obtain⟨_,_,rfl,q3,k3⟩:=k2.kG;obtain⟨_,rfl,q4⟩:=k3.one;obtain⟨_,rfl,q5⟩:=h2.one;exact⟨_,.cons q1 (.cons q2 (.cons q3 (.cons q4 (.cons (.int 0 381) (.cons q5 .nil))))),fun P S=>zS P S _ _ _ _ _⟩) mO.2
theorem GP{B:Base}: uZ B 2 90 ["min_stamp", "shallows"] (fun vs ks=>if vs.length=4/\ks.length=2 then P.ko (mk2 vs ks) else P.stuck):=
 HM (fun B=>⟨⟨_,B.K _ _ rfl,rfl⟩,by kernel_rfl,rfl,rfl,rfl,rfl,rfl,j7 (by kernel_rfl),rfl,rfl⟩) (fun P L=>rfl) (fun P=>by kernel_rfl)
  (fun Φ ρ vs ws ks us h1 h2 l1 l2=>by obtain⟨a,b,c,e,rfl⟩:=B1 (h1.length.symm.trans l1);obtain⟨g,f,rfl⟩:=len2 (h2.length.symm.trans l2);obtain⟨_,_,rfl,q1,k1⟩:=h1.kG;obtain⟨_,_,rfl,q2,k2⟩:=k1.kG;obtain⟨_,_,rfl,q3,k3⟩:=k2.kG;obtain⟨_,rfl,q4⟩:=k3.one;obtain⟨_,_,rfl,q5,q6⟩:=h2.two;exact⟨_,.cons q1 (.cons q2 (.cons q3 (.cons q4 (.cons q5 (.cons q6 .nil))))),fun P S=>zR P S _ _ _ _ _ _⟩) mO.2
noncomputable def ld(jU:List V->List V->P V): {p:P AF // ∀{B:Base} (kf:uZ B 2 90 ["shallows"] jU),BodyOk B 3 97 p}:=⟨_,fun{B} kf L kT A ψ iQ iP Ka F hh=>
 (iU (jq (jx (jc (iR (Ka _) rfl))) (iZ (jb (jp rfl iO))) jg)
 (iU (iY (je hh (iR (Ka _) rfl) iX) (jN (Ka _) rfl))
 (iU (jq (jx (iV (Ka _) (kl (Ka _) rfl (iM (iR (Ka _) rfl) iO)) iX)) (iZ (jb (jp rfl (iM (iR (Ka _) rfl) iO)))) jg)
 (iU (iY (jl (jC (Ka _) rfl (fun P=>rfl) rfl) (mF _) (iM (k8 (iR (Ka _) rfl) (lm iX) kR) iO) (fun Y Y Y Y Y hv=>vf hv)) (jN (Ka _) rfl))
 (iU (jq (iV (Ka _) (iR (Ka _) rfl) (iR (Ka _) rfl)) (iZ (jb (jp rfl (iM (iR (Ka _) rfl) iO)))) jg)
 (iU (iY (qD kf (ju (Ka _) rfl (fun P=>rfl)) (iM (iR (Ka _) rfl) (iM (iR (Ka _) rfl) (iM (iR (Ka _) rfl) (iM (iR (Ka _) rfl) iO)))) (nL (iR (Ka _) rfl) qB) ((Ka _).le (by decide)) hh (ht:=⟨_,_,rfl⟩)) (jN (Ka _) rfl))
 (iZ (jb (iR (Ka _) rfl)))))))))⟩
theorem rv(jU:List V->List V->P V){B:Base}(kf:uZ B 2 90 ["shallows"] jU): km B 3 97 (P.mQ ["lookup_parents", "lookup_stamp", "shallows", "commit_ids", "c1", "c2s", "lcas"] ["lookup_parents", "lookup_stamp", "shallows", "commit_ids"] (ld jU).1):=
 nR (fun B=>⟨⟨_,B.K _ _ rfl,rfl⟩,by kernel_rfl,rfl,rfl,rfl,rfl,rfl,j7 (by kernel_rfl),rfl,rfl⟩) (fun P L=>rfl) (fun P=>by kernel_rfl)
  (fun P S ws h=>by obtain⟨_,_,_,_,rfl⟩:=B1 h;kernel_rfl) ((ld jU).2 kf)
noncomputable def kN(jM:List V->P V)(jU:List V->List V->P V): {p:P AF // ∀{B:Base} (jL:km B 3 97 jM) (kf:uZ B 2 90 ["shallows"] jU),BodyOk B 4 104 p}:=⟨_,fun{B} jL kf L kT A ψ iQ iP Ka F hh=>
 (iU (jq (jx (jc (iR (Ka _) rfl))) (iZ (jb (jp rfl iO))) jg)
 (iU (jq (iV (Ka _) (kl (Ka _) rfl (iM (iR (Ka _) rfl) iO)) iX) (iZ (jb (jl (ju (Ka _) rfl (fun P=>rfl)) jL.cw (iM (iR (Ka _) rfl) (iM (iR (Ka _) rfl) (iM (iR (Ka _) rfl) (iM (iR (Ka _) rfl) iO)))) (jL.on (Ka _) (by decide) hh)))) jg)
 (iU (iY (jp rfl (iM (je hh (iR (Ka _) rfl) iX) iO)) (jN (Ka _) rfl))
 (iU (iY (k8 (iR (Ka _) rfl) (lm iX) kR) (jN (Ka _) rfl))
 (iU (ke Ka F (jD (jI hh (iR (Ka _) rfl))) (qw Ka rfl) (fun Y=>(iU (iY (kQ rfl iO) (jN (Ka _) rfl))
 (iU (ke Ka F (jD (jI hh (iR (Ka _) rfl))) (qw Ka rfl) (fun Y=>(iU (iY (qD kf (ju (Ka _) rfl (fun P=>rfl)) (iM (iR (Ka _) rfl) (iM (iR (Ka _) rfl) (iM (jp rfl (iM (iR (Ka _) rfl) iO)) (iM (iR (Ka _) rfl) iO)))) (nL (iR (Ka _) rfl) qB) ((Ka _).le (by decide)) hh (ht:=⟨_,_,rfl⟩)) (jN (Ka _) rfl))
 (iZ (jW (oS (G:=nQ) (iR (Ka _) rfl) (iM (iR (Ka _) rfl) iO) PySem.F.plainAttrs_list PySem.F.slot_list_extend PySem.F.type_list_extend (fun Y Y Y Y Y Y r hv hg=>Hx r hv hg) (fun Y Y Y Y Y Y Y hv hvs=>zt hv hvs)))))))
 (iZ (iY (k8 (iR (Ka _) rfl) kR kR) (jN (Ka _) rfl)))))))
 (iZ (jb (iR (Ka _) rfl))))))))⟩
theorem qh(jM:List V->P V)(jU:List V->List V->P V){B:Base}(jL:km B 3 97 jM)(kf:uZ B 2 90 ["shallows"] jU): km B 4 104 (P.mQ ["lookup_parents", "lookup_stamp", "shallows", "commit_ids", "lcas", "others", "cmt", "next_lcas", "ca", "res"] ["lookup_parents", "lookup_stamp", "shallows", "commit_ids"] (kN jM jU).1):=
 nR (fun B=>⟨⟨_,B.K _ _ rfl,rfl⟩,by kernel_rfl,rfl,rfl,rfl,rfl,rfl,j7 (by kernel_rfl),rfl,rfl⟩) (fun P L=>rfl) (fun P=>by kernel_rfl)
  (fun P S ws h=>by obtain⟨_,_,_,_,rfl⟩:=B1 h;kernel_rfl) ((kN jM jU).2 jL kf)
noncomputable def kY(jU:List V->List V->P V): {p:P AF // ∀{B:Base} (kf:uZ B 2 90 ["min_stamp", "shallows"] jU),BodyOk B 3 111 p}:=⟨_,fun{B} kf L kT A ψ iQ iP Ka F hh=>
 (iU (jq (iV (Ka _) (iR (Ka _) rfl) (iR (Ka _) rfl)) (iZ (jb jA)) jg)
 (iU (nM Ka F rfl (iZ (iY (lV (fun ψ=>(Ka ψ).le (by decide)) hh (iR (Ka _) rfl) (iM (iR (Ka _) rfl) iO)) (jN (Ka _) rfl))) (fun Ib ah A3 Kh=>(kg (q0 (jc (iR Kh rfl)) (kg (jY (jb jA)) (jY jg)) (jY jg)) (kg (m9 A3 F) (jY jg)))))
 (iU (iY (qD kf (ju (Ka _) rfl (fun P=>rfl)) (iM (iR (Ka _) rfl) (iM (iR (Ka _) rfl) (iM (jp rfl (iM (iR (Ka _) rfl) iO)) (iM (iR (Ka _) rfl) iO)))) (nL (iR (Ka _) rfl) (nL (iR (Ka _) rfl) qB)) ((Ka _).le (by decide)) hh (ht:=⟨_,_,rfl⟩)) (jN (Ka _) rfl))
 (iZ (jb (kj (Ka _) (iR (Ka _) rfl) (jp rfl (iM (iR (Ka _) rfl) iO))))))))⟩
theorem qN(jU:List V->List V->P V){B:Base}(kf:uZ B 2 90 ["min_stamp", "shallows"] jU): km B 3 111 (P.mQ ["lookup_parents", "lookup_stamp", "shallows", "c1", "c2", "min_stamp", "lcas"] ["lookup_parents", "lookup_stamp", "shallows", "c1", "c2"] (kY jU).1):=
 nR (fun B=>⟨⟨_,B.K _ _ rfl,rfl⟩,by kernel_rfl,rfl,rfl,rfl,rfl,rfl,j7 (by kernel_rfl),rfl,rfl⟩) (fun P L=>rfl) (fun P=>by kernel_rfl)
  (fun P S ws h=>by obtain⟨_,_,_,_,_,rfl⟩:=Gc h;kernel_rfl) ((kY jU).2 kf)
noncomputable def lO(jM:List V->P V): {p:P AF // ∀{B:Base} (jL:km B 3 97 jM),BodyOk B 4 118 p}:=⟨_,fun{B} jL L kT A ψ iQ iP Ka F hh=>
 (iU (jq (jx (jc (iR (Ka _) rfl))) (iZ (jb (jp rfl iO))) jg)
 (iU (jq (iV (Ka _) (kl (Ka _) rfl (iM (iR (Ka _) rfl) iO)) iX) (iZ (jb (jl (jC (Ka _) rfl (fun P=>rfl) rfl) (mF _) (iM (iR (Ka _) rfl) iO) (fun Y Y Y Y Y hv=>vf hv)))) jg)
 (iU (iY (kQ rfl iO) (jN (Ka _) rfl))
 (iU (ke Ka F (jD (o5 (jC (Ka _) rfl (fun P=>rfl) rfl) (mF _) (iM (iR (Ka _) rfl) iO) (fun Y Y Y Y Y hv=>xa hh hv))) (fun Y Y Y Y Y Y hv=>(j0 hh hv (nU (Ka _) rfl) (nU (Ka _) rfl))) (fun Y=>(iU (iY jA (jN (Ka _) rfl))
 (iU (ke Ka F (jD (o5 (jC (Ka _) rfl (fun P=>rfl) rfl) (mF _) (iM (iR (Ka _) rfl) iO) (fun Y Y Y Y Y hv=>xa hh hv))) (fun Y Y Y Y Y Y hv=>(j0 hh hv (nU (Ka _) rfl) (nU (Ka _) rfl))) (fun Y=>(iU (jq (iV (Ka _) (iR (Ka _) rfl) (iR (Ka _) rfl)) (iZ me) jg)
 (iU (iY (jl (ju (Ka _) rfl (fun P=>rfl)) jL.cw (iM (iR (Ka _) rfl) (iM (iR (Ka _) rfl) (iM (iR (Ka _) rfl) (iM (jp rfl (iM (iR (Ka _) rfl) (iM (iR (Ka _) rfl) iO))) iO)))) (jL.on (Ka _) (by decide) hh)) (jN (Ka _) rfl))
 (iZ (jq (iV (Ka _) (iR (Ka _) rfl) (jp rfl (iM (iR (Ka _) rfl) iO))) (iU (iY jA (jN (Ka _) rfl))
 (iZ rH)) jg))))))
 (iZ (jq (jc (iR (Ka _) rfl)) (iZ (jW (jP (iR (Ka _) rfl) (iM (iR (Ka _) rfl) iO)))) jg))))))
 (iZ (jb (iR (Ka _) rfl)))))))⟩
theorem uP(jM:List V->P V){B:Base}(jL:km B 3 97 jM): km B 4 118 (P.mQ ["lookup_parents", "lookup_stamp", "shallows", "commit_ids", "independent_commits", "i", "commit_id", "is_independent", "j", "other_id", "merge_bases"] ["lookup_parents", "lookup_stamp", "shallows", "commit_ids"] (lO jM).1):=
 nR (fun B=>⟨⟨_,B.K _ _ rfl,rfl⟩,by kernel_rfl,rfl,rfl,rfl,rfl,rfl,j7 (by kernel_rfl),rfl,rfl⟩) (fun P L=>rfl) (fun P=>by kernel_rfl)
  (fun P S ws h=>by obtain⟨_,_,_,_,rfl⟩:=B1 h;kernel_rfl) ((lO jM).2 jL)
noncomputable def tN:List V->List V->P V:=fun vs ks=>if vs.length=4/\ks.length=1 then P.ko (mk1 vs ks) else P.stuck
noncomputable def AW:List V->List V->P V:=fun vs ks=>if vs.length=4/\ks.length=2 then P.ko (mk2 vs ks) else P.stuck
noncomputable def H7:List V->P V:=P.mQ ["lookup_parents", "lookup_stamp", "shallows", "commit_ids", "c1", "c2s", "lcas"] ["lookup_parents", "lookup_stamp", "shallows", "commit_ids"] (ld tN).1
noncomputable def N0:List V->P V:=P.mQ ["lookup_parents", "lookup_stamp", "shallows", "commit_ids", "lcas", "others", "cmt", "next_lcas", "ca", "res"] ["lookup_parents", "lookup_stamp", "shallows", "commit_ids"] (kN H7 tN).1
noncomputable def N3:List V->P V:=P.mQ ["lookup_parents", "lookup_stamp", "shallows", "c1", "c2", "min_stamp", "lcas"] ["lookup_parents", "lookup_stamp", "shallows", "c1", "c2"] (kY AW).1
noncomputable def LO:List V->P V:=P.mQ ["lookup_parents", "lookup_stamp", "shallows", "commit_ids", "independent_commits", "i", "commit_id", "is_independent", "j", "other_id", "merge_bases"] ["lookup_parents", "lookup_stamp", "shallows", "commit_ids"] (lO H7).1
noncomputable def vQ:List V->P V:=P.mQ ["found", "roads", "within", "k"] ["found", "roads", "within"] nC.1
noncomputable def y7:List V->P V:=P.mQ ["found", "roads", "out", "k"] ["found", "roads"] nz.1
noncomputable def uE:List V->P V:=P.mQ ["one", "two", "roads", "every"] ["one", "two", "roads"] (mK vQ).1
noncomputable def sV:List V->P V:=P.mQ ["k", "one", "two", "roads", "ranks", "ahead", "j", "near"] ["k", "one", "two", "roads", "ranks"] (mo vQ y7).1
noncomputable def Hg:List V->P V:=P.mQ ["both", "roads", "top"] ["both", "roads"] (oM y7).1
noncomputable def EU:List V->P V:=P.mQ ["found", "roads", "ranks", "k", "e"] ["found", "roads", "ranks"] nB.1
noncomputable def EV:List V->P V:=P.mQ ["spots", "one", "two", "roads", "ranks", "every", "both", "row", "a", "b", "mask", "k"] ["spots", "one", "two", "roads", "ranks"] (mL uE Hg EU vQ sV y7).1
noncomputable def EW:List V->P V:=P.mQ ["a", "one", "two", "roads", "ranks", "both"] ["a", "one", "two", "roads", "ranks"] (mM uE sV).1
noncomputable def H8:List V->P V:=P.mQ ["ids", "roads", "whole", "due", "k", "fresh", "a"] ["ids", "roads", "whole"] (nA Hg uE).1
section
variable{B:Base}
theorem ng:km B 0 125 vQ:=Ae
theorem zV:km B 0 132 y7:=Ab
theorem wO:km B 1 139 uE:=yE _ ng
theorem yn:km B 1 146 sV:=w9 _ _ ng zV
theorem AX:km B 1 151 Hg:=Cg _ zV
theorem zW:km B 0 158 EU:=Ad
theorem AY:km B 2 163 EV:=yF _ _ _ _ _ _ wO AX zW ng yn zV
theorem sP:km B 2 168 EW:=yG _ _ wO yn
theorem k_fold:km B 2 175 H8:=Ac _ _ AX wO
theorem yo:km B 3 97 H7:=rv tN A8
theorem B3:km B 4 104 N0:=qh H7 tN yo A8
theorem KI:km B 3 111 N3:=qN AW GP
theorem k_in:km B 4 118 LO:=uP H7 yo
end
noncomputable def EL:{p:P AF // ∀{B:Base},BodyOk B 5 180 p}:=⟨_,fun{B} L kT A ψ iQ iP Ka F hh=>
 (iU (iY (k8 (iR (Ka _) rfl) kR (lm iX)) (jN (Ka _) rfl))
 (iU (iY (lU (jc (iR (Ka _) rfl)) (je hh (iR (Ka _) rfl) iX) iX) (jN (Ka _) rfl))
 (iU (iY (jl (jC (Ka _) rfl (fun P=>rfl) rfl) (ku _) (iM (iR (Ka _) rfl) iO) (fun Y Y Y Y Y hv=>Fk hh hv)) (jN (Ka _) rfl))
 (iU (iY (iW (iR (Ka _) rfl) iX) (jN (Ka _) rfl))
 (iU (iY (iW (iW (iR (Ka _) rfl) iX) iX) (jN (Ka _) rfl))
 (iU (iY (kj (Ka _) (iW (iW (iR (Ka _) rfl) iX) iX) iX) (jN (Ka _) rfl))
 (iU (iY (kQ rfl (iM iX (iM iX iO))) (jN (Ka _) rfl))
 (iU (ke Ka F (jD (jI hh (iR (Ka _) rfl))) (qw Ka rfl) (fun Y=>(iU (iY (iR (Ka _) rfl) (jN (Ka _) rfl))
 (iZ (vg 100000 (Ka _) F (iV (Ka _) (kl (Ka _) rfl (iM (iR (Ka _) rfl) iO)) iX) (iU (jW (jP (iR (Ka _) rfl) (iM (iW (iR (Ka _) rfl) iX) iO)))
 (iU (iY (iW (iR (Ka _) rfl) iX) (jN (Ka _) rfl))
 (iZ (jq (jd (ji (iV (Ka _) (iR (Ka _) rfl) iX) (ji (iV (Ka _) (iR (Ka _) rfl) (oq iX)) jj))) (iZ rH) jg)))))))))
 (iU (iY (iW (iR (Ka _) rfl) (lU (iV (Ka _) (iW (iW (iR (Ka _) rfl) iX) iX) iX) (jp rfl (iM iX (iM iX iO))) (jp rfl (iM iX (iM iX iO))))) (jN (Ka _) rfl))
 (iU (iY (kl (Ka _) rfl (iM (iR (Ka _) rfl) iO)) (mr (Ka _) rfl))
 (iU (iY (iW (i9 (Ka _) rfl) iX) (jN (Ka _) rfl))
 (iU (iY (kQ rfl iO) (mr (Ka _) rfl))
 (iU (iY (kQ rfl iO) (mr (Ka _) rfl))
 (iU (iY (kQ rfl iO) (mr (Ka _) rfl))
 (iU (iY (kQ rfl iO) (mr (Ka _) rfl))
 (iU (iY (kQ rfl iO) (jN (Ka _) rfl))
 (iU (iY (kQ rfl iO) (jN (Ka _) rfl))
 (iU (iY (tu (k:=0)) (mr (Ka _) rfl))
 (iU (iY (tu (k:=0)) (mr (Ka _) rfl))
 (iU (ke Ka F (jD (jI hh (kv (Ka _) rfl (iM (i9 (Ka _) rfl) iO)))) (BB Ka rfl) (fun Y=>(iU (iY (je hh (iR (Ka _) rfl) (i9 (Ka _) rfl)) (mr (Ka _) rfl))
 (iU (iY (iW (iW (iW (i9 (Ka _) rfl) iX) (i9 (Ka _) rfl)) iX) (jN (Ka _) rfl))
 (iU (iY (iW (iW (iW (i9 (Ka _) rfl) iX) (iW (i9 (Ka _) rfl) (i9 (Ka _) rfl))) iX) (jN (Ka _) rfl))
 (iU (iY (lU (iV (Ka _) (iR (Ka _) rfl) iX) (jl (jC (Ka _) rfl (fun P=>rfl) rfl) (mF _) (iM (jp rfl (iM iX (iM (iW iX (i9 (Ka _) rfl)) iO))) iO) (fun Y Y Y Y Y hv=>tt hh hv)) (jl (jC (Ka _) rfl (fun P=>rfl) rfl) (mF _) (iM (jp rfl (iM (iW iX (iW (iW (i9 (Ka _) rfl) iX) iX)) (iM (iW iX (i9 (Ka _) rfl)) iO))) iO) (fun Y Y Y Y Y hv=>tt hh hv))) (jN (Ka _) rfl))
 (iU (mf Ka (jI hh (jV (iM (jV (iM iX (iM iX iO))) (iM (jV (iM iX (iM iX iO))) (iM (jV (iM iX (iM iX iO))) (iM (jV (iM iX (iM iX iO))) iO)))))) rfl rfl rfl (cap:=[none,none,none,some (19,true),some (18,true)]) rfl (fun Y Y Y Y Y Y Y Kd Y hv=>(j0 hh hv (nU (Kd _) rfl) (nU (Kd _) rfl))) (fun Y Y Y Y Y Kd Y=>(kL (jd (jk (iV (Kd _) (iW (iW (k9 (Kd _) rfl) (iR (Kd _) rfl)) iX) iX) (jk (iV (Kd _) (k9 (Kd _) rfl) (iR (Kd _) rfl)) jj))))) (fun Y Y Y Y Y Kd Y=>(iW (k9 (Kd _) rfl) (iR (Kd _) rfl))) (E9 Ka rfl))
 (iU (iY (iW (jl (jC (Ka _) rfl (fun P=>rfl) rfl) (ku _) (iM (iW (jJ Ka (jI hh (iR (Ka _) rfl)) rfl rfl rfl (cap:=[none,none,some (14,true)]) rfl (oP rfl) (xH) (fun Y Y Y Y Y Kd Y=>(je hh (k9 (Kd _) rfl) (iR (Kd _) rfl)))) (jp rfl (iM iX iO))) iO) (fun Y Y Y Y Y hv=>Fm hh hv)) (lU (iV (Ka _) (iR (Ka _) rfl) iX) (iW (iR (Ka _) rfl) iX) (iW iX (iR (Ka _) rfl)))) (jN (Ka _) rfl))
 (iU (iY (iW (iW (jl (jC (Ka _) rfl (fun P=>rfl) rfl) (ku _) (iM (iR (Ka _) rfl) iO) (fun Y Y Y Y Y hv=>AC hv)) iX) (iR (Ka _) rfl)) (jN (Ka _) rfl))
 (iU (jq (iV (Ka _) (iR (Ka _) rfl) iX) (iZ (iY (iR (Ka _) rfl) (jN (Ka _) rfl))) (iZ (jq (jd (jk (iV (Ka _) (iR (Ka _) rfl) iX) (jk (iV (Ka _) (i9 (Ka _) rfl) (iW (iR (Ka _) rfl) (i9 (Ka _) rfl))) jj))) (iZ (iY (jl (jC (Ka _) rfl (fun P=>rfl) rfl) (ku _) (iM (iR (Ka _) rfl) iO) (fun Y Y Y Y Y hv=>AC hv)) (jN (Ka _) rfl))) jg)))
 (iU (iY (my (l8 (iR (Ka _) rfl) (lj (my (qj (kj (Ka _) (i9 (Ka _) rfl) iX) (lj (kj (Ka _) (iR (Ka _) rfl) iX))))))) (jN (Ka _) rfl))
 (iU (iY (my (l8 (iR (Ka _) rfl) (lj (my (qj (kj (Ka _) (i9 (Ka _) rfl) iX) (lj (kj (Ka _) (iW (iW (i9 (Ka _) rfl) iX) iX) iX))))))) (jN (Ka _) rfl))
 (iU (iY (my (l8 (iR (Ka _) rfl) (lj (kj (Ka _) (iR (Ka _) rfl) iX)))) (jN (Ka _) rfl))
 (iU (jq (jc (iR (Ka _) rfl)) (iZ (jW (jP (iR (Ka _) rfl) (iM (iR (Ka _) rfl) iO)))) jg)
 (iU (jq (jd (ji (jc (iR (Ka _) rfl)) (ji (jc (iR (Ka _) rfl)) (ji (jc (iR (Ka _) rfl)) jj)))) (iZ (jW (jP (i9 (Ka _) rfl) (iM (jp rfl iO) iO)))) (iZ (jW (jP (i9 (Ka _) rfl) (iM (iR (Ka _) rfl) iO)))))
 (iU (jq (jx (jc (iR (Ka _) rfl))) (iU (lA (iR (Ka _) rfl) (i9 (Ka _) rfl) (iR (Ka _) rfl))
 (iZ (jq (jd (ji (jc (iR (Ka _) rfl)) (ji (jx (jc (iR (Ka _) rfl))) jj))) (iZ (lA (jJ Ka (jI hh (je hh (i9 (Ka _) rfl) (i9 (Ka _) rfl))) rfl rfl rfl (cap:=[none,none,some (12,true)]) rfl (oP rfl) (xH) (fun Y Y Y Y Y Kd Y=>(je hh (k9 (Kd _) rfl) (iR (Kd _) rfl)))) (i9 (Ka _) rfl) (iR (Ka _) rfl))) jg))) jg)
 (iU (jW (jP (i9 (Ka _) rfl) (iM (iR (Ka _) rfl) iO)))
 (iU (jW (jP (i9 (Ka _) rfl) (iM (iR (Ka _) rfl) iO)))
 (iU (jW (jP (i9 (Ka _) rfl) (iM (lU (jc (iR (Ka _) rfl)) iX (iR (Ka _) rfl)) iO)))
 (iZ (jW (jP (iR (Ka _) rfl) (iM (iR (Ka _) rfl) iO)))))))))))))))))))))))
 (iU (jW (jP (i9 (Ka _) rfl) (iM lT iO)))
 (iU (jW (jP (i9 (Ka _) rfl) (iM (jp rfl iO) iO)))
 (iU (jW (jP (i9 (Ka _) rfl) (iM iX iO)))
 (iU (jW (jP (iR (Ka _) rfl) (iM jA iO)))
 (iU (iY (jJ Ka (jI hh (kv (Ka _) rfl (iM (iW (i9 (Ka _) rfl) iX) iO))) rfl rfl rfl (cap:=[none,none,some (12,true),some (15,true)]) rfl (oP rfl) (xH) (fun Y Y Y Y Y Kd Y=>(jV (iM (oq (je hh (k9 (Kd _) rfl) (iR (Kd _) rfl))) (iM (je hh (k9 (Kd _) rfl) (iR (Kd _) rfl)) iO))))) (mr (Ka _) rfl))
 (iU (iY (iW (iW iX (iW (i9 (Ka _) rfl) iX)) iX) (mr (Ka _) rfl))
 (iU (iY (kQ rfl iO) (mr (Ka _) rfl))
 (iU (ke Ka F (jD (jI hh (kv (Ka _) rfl (iM (iW (i9 (Ka _) rfl) iX) iO)))) (BB Ka rfl) (fun Y=>(iU (iY iX (jN (Ka _) rfl))
 (iU (ke Ka F (jD (jI hh (je hh (i9 (Ka _) rfl) (i9 (Ka _) rfl)))) (qw Ka rfl) (fun Y=>(iZ (jq (jx (jc (je hh (iR (Ka _) rfl) (iR (Ka _) rfl)))) (iZ (iY (iW (iR (Ka _) rfl) (iW iX (iR (Ka _) rfl))) (jN (Ka _) rfl))) jg))))
 (iZ (jW (jP (i9 (Ka _) rfl) (iM (iR (Ka _) rfl) iO))))))))
 (iU (iY (lU (jd (ji (jc (iR (Ka _) rfl)) (ji (iV (Ka _) (iW (kl (Ka _) rfl (iM (iR (Ka _) rfl) iO)) iX) iX) jj))) (jl (jC (Ka _) rfl (fun P=>rfl) rfl) (mF _) (iM (iR (Ka _) rfl) iO) (fun Y Y Y Y Y hv=>CU hh hv)) jZ) (jN (Ka _) rfl))
 (iU (v7 (k:=1) (qual:= "law.<locals>.kin_of") (x:= "folk") (Ka _) rfl B.codes.2 (by decide) (by kernel_rfl) (by kernel_rfl) (by kernel_rfl) rfl (by kernel_rfl) (by kernel_rfl) (by kernel_rfl) (by kernel_rfl) (jN (Ka _) rfl))
 (iU (v7 (k:=2) (qual:= "law.<locals>.time_of") (x:= "times") (Ka _) rfl B.codes.2 (by decide) (by kernel_rfl) (by kernel_rfl) (by kernel_rfl) rfl (by kernel_rfl) (by kernel_rfl) (by kernel_rfl) (by kernel_rfl) (jN (Ka _) rfl))
 (iU (iY (jp rfl (iM (jp rfl (iM (iR (Ka _) rfl) (iM (iW (iR (Ka _) rfl) iX) iO))) (iM (jp rfl (iM (iR (Ka _) rfl) (iM (iW (iR (Ka _) rfl) iX) (iM (iW (iR (Ka _) rfl) iX) iO)))) (iM (jp rfl (iM (iW (iR (Ka _) rfl) iX) (iM (iR (Ka _) rfl) (iM (iW (iR (Ka _) rfl) iX) iO)))) (iM (jp rfl (iM iX (iM (iR (Ka _) rfl) (iM (iW (iR (Ka _) rfl) iX) iO)))) (iM (jp rfl (iM (iR (Ka _) rfl) (iM (iW (iR (Ka _) rfl) iX) (iM (iR (Ka _) rfl) iO)))) (iM (jp rfl (iM (iW (iR (Ka _) rfl) iX) (iM (iW (iR (Ka _) rfl) iX) (iM (iW (iR (Ka _) rfl) iX) iO)))) (iM (jp rfl (iM (iW (iR (Ka _) rfl) iX) (iM (iR (Ka _) rfl) (iM (iW (iR (Ka _) rfl) iX) (iM iX iO))))) (iM (jp rfl (iM iX (iM (iR (Ka _) rfl) iO))) iO))))))))) (jN (Ka _) rfl))
 (iU (iY (je hh (iR (Ka _) rfl) (iW (iR (Ka _) rfl) iX)) (mr (Ka _) rfl))
 (iU (jq (iV (Ka _) (iW (iW (iR (Ka _) rfl) iX) iX) iX) (iZ (iY (iW (k8 (i9 (Ka _) rfl) kR (lm (iW (kl (Ka _) rfl (iM (i9 (Ka _) rfl) iO)) iX))) (jp rfl (iM (i9 (Ka _) rfl) iO))) (mr (Ka _) rfl))) (iZ (jq (iV (Ka _) (iW (iW (iR (Ka _) rfl) iX) iX) iX) (iZ (iY (iW (jp rfl (iM (i9 (Ka _) rfl) iO)) (k8 (i9 (Ka _) rfl) (lm iX) kR)) (mr (Ka _) rfl))) jg)))
 (iU (jq (iV (Ka _) (iR (Ka _) rfl) iX) (iZ (iY (k8 (jJ Ka (o5 (jC (Ka _) rfl (fun P=>rfl) rfl) (mF _) (iM (i9 (Ka _) rfl) iO) (fun Y Y Y Y Y hv=>xa hh hv)) rfl rfl rfl (cap:=[none,none,none,some (38,true)]) rfl (fun Y Y Y Y Y Y Y Kd Y hv=>(j0 hh hv (nU (Kd _) rfl) (nU (Kd _) rfl))) (fun Y Y Y Y Y Kd Y=>(kL (iV (Kd _) (iR (Kd _) rfl) (k8 (k9 (Kd _) rfl) kR (lm (iR (Kd _) rfl)))))) (sD rfl)) kR (lm iX)) (mr (Ka _) rfl))) jg)
 (iU (mf Ka (jI hh (i9 (Ka _) rfl)) rfl rfl rfl (cap:=[none,none,some (12,true)]) rfl (oP rfl) (xH) (fun Y Y Y Y Y Kd Y=>(je hh (k9 (Kd _) rfl) (iR (Kd _) rfl))) (E9 Ka rfl))
 (iU (iY iX (jN (Ka _) rfl))
 (iU (ke Ka F (jD (jI hh (k8 (i9 (Ka _) rfl) (lm iX) kR))) (BB Ka rfl) (fun Y=>(iZ (iY (iW (iR (Ka _) rfl) (iW iX (i9 (Ka _) rfl))) (jN (Ka _) rfl)))))
 (iU (jq (iV (Ka _) (iR (Ka _) rfl) iX) (iZ (ke Ka F (jD (jI hh (jV (iM (jV (iM (je hh (i9 (Ka _) rfl) iX) (iM (je hh (i9 (Ka _) rfl) iX) iO))) (iM (jV (iM (je hh (i9 (Ka _) rfl) iX) (iM (je hh (i9 (Ka _) rfl) iX) iO))) (iM (jV (iM iX (iM (je hh (i9 (Ka _) rfl) iX) iO))) (iM (jV (iM (iW (iR (Ka _) rfl) (i9 (Ka _) rfl)) (iM (je hh (i9 (Ka _) rfl) iX) iO))) (iM (jV (iM iX (iM (iR (Ka _) rfl) iO))) iO)))))))) (fun Y Y Y Y Y Y hv=>(j0 hh hv (Mc (Ka _) rfl) (nU (Ka _) rfl))) (fun Y=>(iU (nM Ka F rfl (iZ (iY (jl (ju (Ka _) rfl (fun P=>rfl)) KI.cw (iM (iR (Ka _) rfl) (iM (iR (Ka _) rfl) (iM (iR (Ka _) rfl) (iM (je hh (i9 (Ka _) rfl) (i9 (Ka _) rfl)) (iM (je hh (i9 (Ka _) rfl) (iR (Ka _) rfl)) iO))))) (KI.on (Ka _) (by decide) hh)) (mr (Ka _) rfl))) (fun Ib ah A3 Kh=>(kg (jY (iY jZ (mr Kh rfl))) (jY jg))))
 (iZ (jq (iV (Ka _) (i9 (Ka _) rfl) (iR (Ka _) rfl)) (iZ (jq (jd (ji (jx (jc (jl (jC (Ka _) rfl (fun P=>rfl) rfl) (ku _) (iM (i9 (Ka _) rfl) (iM (pC (Ka _) rfl (fun P=>rfl) rfl) iO)) (fun Y Y Y Y Y hv=>qC hv)))) (ji (jx (jc (i9 (Ka _) rfl))) jj))) (iZ (jb jA)) jg)) (iZ (jq (jd (jk (jd (ji (jc (je hh (iR (Ka _) rfl) (i9 (Ka _) rfl))) (ji (jc (je hh (iR (Ka _) rfl) (iR (Ka _) rfl))) jj))) (jk (jx (jc (iR (Ka _) rfl))) jj))) (iZ (jq (iV (Ka _) (i9 (Ka _) rfl) jZ) (iZ (jb jA)) jg)) (iZ (jq (jc (je hh (iR (Ka _) rfl) (i9 (Ka _) rfl))) (iZ (jq (jd (ji (jx (jc (jl (jC (Ka _) rfl (fun P=>rfl) rfl) (ku _) (iM (i9 (Ka _) rfl) (iM (pC (Ka _) rfl (fun P=>rfl) rfl) iO)) (fun Y Y Y Y Y hv=>qC hv)))) (ji (jc (i9 (Ka _) rfl)) jj))) (iZ (jb jA)) jg)) (iU (iY (kQ rfl iO) (jN (Ka _) rfl))
 (iU (ke Ka F (jD (jI hh (kv (Ka _) rfl (iM (iW (i9 (Ka _) rfl) iX) iO)))) (BB Ka rfl) (fun Y=>(iU (iY iX (jN (Ka _) rfl))
 (iU (ke Ka F (jD (jI hh (je hh (i9 (Ka _) rfl) (i9 (Ka _) rfl)))) (qw Ka rfl) (fun Y=>(iZ (jq (jd (jk (jx (jc (je hh (iR (Ka _) rfl) (iR (Ka _) rfl)))) (jk (iV (Ka _) (je hh (i9 (Ka _) rfl) (iR (Ka _) rfl)) (je hh (i9 (Ka _) rfl) (i9 (Ka _) rfl))) jj))) (iZ (iY (iW (iR (Ka _) rfl) (iW iX (iR (Ka _) rfl))) (jN (Ka _) rfl))) jg))))
 (iZ (jW (jP (iR (Ka _) rfl) (iM (iR (Ka _) rfl) iO))))))))
 (iU (jq (jx (jc (jl (jC (Ka _) rfl (fun P=>rfl) rfl) (ku _) (iM (i9 (Ka _) rfl) (iM (pC (Ka _) rfl (fun P=>rfl) rfl) iO)) (fun Y Y Y Y Y hv=>qC hv)))) (iZ (jb jA)) jg)
 (iU (jq (jd (jk (jc (i9 (Ka _) rfl)) (jk (iV (Ka _) (iW (iW (jl (ju (Ka _) rfl (fun P=>rfl)) ng.cw (iM (iW iX (iR (Ka _) rfl)) (iM (i9 (Ka _) rfl) (iM (i9 (Ka _) rfl) iO))) (ng.on (Ka _) (by decide) hh)) (i9 (Ka _) rfl)) iX) iX) jj))) (iZ (jb jA)) jg)
 (iZ (jq (jd (jk (jx (jc (i9 (Ka _) rfl))) (jk (jc (jl (ju (Ka _) rfl (fun P=>rfl)) sP.cw (iM (i9 (Ka _) rfl) (iM (iW iX (i9 (Ka _) rfl)) (iM (iW iX (iR (Ka _) rfl)) (iM (iR (Ka _) rfl) (iM (i9 (Ka _) rfl) iO))))) (sP.on (Ka _) (by decide) hh))) jj))) (iZ (jb jA)) jg)))))))))))))))) (iZ (jq (iV (Ka _) (iR (Ka _) rfl) iX) (iU (nM Ka F rfl (iZ (iY (jl (ju (Ka _) rfl (fun P=>rfl)) k_in.cw (iM (iR (Ka _) rfl) (iM (iR (Ka _) rfl) (iM (iR (Ka _) rfl) (iM (iR (Ka _) rfl) iO)))) (k_in.on (Ka _) (by decide) hh)) (mr (Ka _) rfl))) (fun Ib ah A3 Kh=>(kg (jY (iY jZ (mr Kh rfl))) (jY jg))))
 (iU (jq (jd (jk (iV (Ka _) (i9 (Ka _) rfl) (i9 (Ka _) rfl)) (jk (jx (jc (iR (Ka _) rfl))) jj))) (iZ (jq (iV (Ka _) (i9 (Ka _) rfl) jZ) (iZ (jb jA)) jg)) (iU (jq (jd (ji (iV (Ka _) (i9 (Ka _) rfl) jZ) (ji (iV (Ka _) (i9 (Ka _) rfl) (jJ Ka (jI hh (iR (Ka _) rfl)) rfl rfl rfl (cap:=[none,none,some (43,true)]) rfl (oP rfl) (fun Y Y Y Y Y Kd Y=>(kL (iV (Kd _) (iR (Kd _) rfl) (k9 (Kd _) rfl)))) (sD rfl))) jj))) (iZ (jb jA)) jg)
 (iZ (ke Ka F (jD (jI hh (i9 (Ka _) rfl))) (BB Ka rfl) (fun Y=>(iU (mf Ka (jI hh (i9 (Ka _) rfl)) rfl rfl rfl (cap:=[none,none,some (41,true),some (31,true),some (32,true)]) rfl (oP rfl) (fun Y Y Y Y Y Kd Y=>(kL (jd (jk (iV (Kd _) (iR (Kd _) rfl) (k9 (Kd _) rfl)) (jk (iV (Kd _) (iW (iW (jl (ju (Kd _) rfl (fun P=>rfl)) ng.cw (iM (iW iX (iR (Kd _) rfl)) (iM (k9 (Kd _) rfl) (iM (k9 (Kd _) rfl) iO))) (ng.on (Kd _) (by decide) hh)) (k9 (Kd _) rfl)) iX) iX) jj))))) (sD rfl) (E9 Ka rfl))
 (iZ (jq (iV (Ka _) (je hh (i9 (Ka _) rfl) (i9 (Ka _) rfl)) (i9 (Ka _) rfl)) (iZ (jq (iV (Ka _) (iR (Ka _) rfl) (jp rfl iO)) (iZ (jb jA)) jg)) (iZ (jq (iV (Ka _) (jJ Ka (jI hh (iR (Ka _) rfl)) rfl rfl rfl (cap:=[none,none,some (41,true),some (30,true),some (32,true)]) rfl (oP rfl) (fun Y Y Y Y Y Kd Y=>(kL (jc (jl (ju (Kd _) rfl (fun P=>rfl)) sP.cw (iM (k9 (Kd _) rfl) (iM (iW iX (k9 (Kd _) rfl)) (iM (iW iX (iR (Kd _) rfl)) (iM (k9 (Kd _) rfl) (iM (k9 (Kd _) rfl) iO))))) (sP.on (Kd _) (by decide) hh))))) (sD rfl)) (jp rfl iO)) (iZ (jb jA)) jg))))))))))
 (iZ (jq (jd (ji (iV (Ka _) (jl (ju (Ka _) rfl (fun P=>rfl)) k_in.cw (iM (iR (Ka _) rfl) (iM (iR (Ka _) rfl) (iM (iR (Ka _) rfl) (iM (jp rfl iO) iO)))) (k_in.on (Ka _) (by decide) hh)) (jp rfl iO)) (ji (iV (Ka _) (jl (ju (Ka _) rfl (fun P=>rfl)) k_in.cw (iM (iR (Ka _) rfl) (iM (iR (Ka _) rfl) (iM (iR (Ka _) rfl) (iM (jp rfl (iM lT iO)) iO)))) (k_in.on (Ka _) (by decide) hh)) (jp rfl (iM lT iO))) jj))) (iZ (jb jA)) jg)))) (iU (nM Ka F rfl (iZ (iY (lU (iV (Ka _) (iR (Ka _) rfl) iX) (jl (ju (Ka _) rfl (fun P=>rfl)) yo.cw (iM (iR (Ka _) rfl) (iM (iR (Ka _) rfl) (iM (iR (Ka _) rfl) (iM (iR (Ka _) rfl) iO)))) (yo.on (Ka _) (by decide) hh)) (jl (ju (Ka _) rfl (fun P=>rfl)) B3.cw (iM (iR (Ka _) rfl) (iM (iR (Ka _) rfl) (iM (iR (Ka _) rfl) (iM (iR (Ka _) rfl) iO)))) (B3.on (Ka _) (by decide) hh))) (mr (Ka _) rfl))) (fun Ib ah A3 Kh=>(kg (jY (iY jZ (mr Kh rfl))) (jY jg))))
 (iU (iY (lU (iV (Ka _) (i9 (Ka _) rfl) jZ) (jp rfl iO) (uM Ka (jI hh (i9 (Ka _) rfl)) rfl rfl rfl (cap:=[none,none,none,some (10,true),some (12,true)]) rfl (oP rfl) (xH) (fun Y Y Y Y Y Kd Y=>(jI hh (kv (Kd _) rfl (iM (iW (k9 (Kd _) rfl) iX) iO)))) (oP rfl) (fun Y Y Y Y Y Kd Y=>(kL (iV (Kd _) (je hh (k9 (Kd _) rfl) (iR (Kd _) rfl)) (iR (Kd _) rfl)))) (sD rfl))) (mr (Ka _) rfl))
 (iU (jq (jd (jk (iV (Ka _) (i9 (Ka _) rfl) jZ) (jk (iV (Ka _) (kl (Ka _) rfl (iM (i9 (Ka _) rfl) iO)) (kl (Ka _) rfl (iM (i9 (Ka _) rfl) iO))) jj))) (iZ (jb jA)) jg)
 (iU (jq (jd (ji (iV (Ka _) (iR (Ka _) rfl) iX) (ji (iV (Ka _) (kl (Ka _) rfl (iM (i9 (Ka _) rfl) iO)) iX) jj))) (iZ (jq (iV (Ka _) (je hh (i9 (Ka _) rfl) iX) (k8 (i9 (Ka _) rfl) (lm iX) kR)) (iZ (jq (jd (ji (iV (Ka _) (i9 (Ka _) rfl) jZ) (ji (iV (Ka _) (i9 (Ka _) rfl) (jp rfl (iM (je hh (i9 (Ka _) rfl) iX) iO))) jj))) (iZ (jb jA)) jg)) (iZ (jq (jd (jk (iV (Ka _) (i9 (Ka _) rfl) (i9 (Ka _) rfl)) (jk (jx (jc (iR (Ka _) rfl))) jj))) (iZ (jq (iV (Ka _) (i9 (Ka _) rfl) jZ) (iZ (jb jA)) jg)) (iZ (jq (jd (ji (iV (Ka _) (i9 (Ka _) rfl) jZ) (ji (jx (jc (jl (ju (Ka _) rfl (fun P=>rfl)) AY.cw (iM (i9 (Ka _) rfl) (iM (iW iX (je hh (i9 (Ka _) rfl) iX)) (iM (iR (Ka _) rfl) (iM (i9 (Ka _) rfl) (iM (i9 (Ka _) rfl) iO))))) (AY.on (Ka _) (by decide) hh)))) jj))) (iZ (jb jA)) jg)))))) (iU (iY (jl (ju (Ka _) rfl (fun P=>rfl)) k_fold.cw (iM (i9 (Ka _) rfl) (iM (i9 (Ka _) rfl) (iM (Fv (iR (Ka _) rfl)) iO))) (k_fold.on (Ka _) (by decide) hh)) (mr (Ka _) rfl))
 (iZ (jq (jd (ji (iV (Ka _) (i9 (Ka _) rfl) jZ) (ji (iV (Ka _) (i9 (Ka _) rfl) jZ) jj))) (iZ (jq (jd (ji (iV (Ka _) (i9 (Ka _) rfl) jZ) (ji (iV (Ka _) (i9 (Ka _) rfl) jZ) jj))) (iZ (jb jA)) jg)) (iU (iY (i9 (Ka _) rfl) (mr (Ka _) rfl))
 (iU (ke Ka F (jD (jI hh (i9 (Ka _) rfl))) (BB Ka rfl) (fun Y=>(iZ (iY (iW (i9 (Ka _) rfl) (jl (ju (Ka _) rfl (fun P=>rfl)) ng.cw (iM (iW iX (i9 (Ka _) rfl)) (iM (i9 (Ka _) rfl) (iM (i9 (Ka _) rfl) iO))) (ng.on (Ka _) (by decide) hh))) (mr (Ka _) rfl)))))
 (iU (iY (jl (ju (Ka _) rfl (fun P=>rfl)) AX.cw (iM (i9 (Ka _) rfl) (iM (i9 (Ka _) rfl) iO)) (AX.on (Ka _) (by decide) hh)) (jN (Ka _) rfl))
 (iU (jq (jd (ji (iV (Ka _) (jJ Ka (jI hh (i9 (Ka _) rfl)) rfl rfl rfl (cap:=[none,none,some (48,true)]) rfl (oP rfl) (fun Y Y Y Y Y Kd Y=>(kL (iV (Kd _) (iW (iW (k9 (Kd _) rfl) (iR (Kd _) rfl)) iX) iX))) (sD rfl)) (jp rfl iO)) (ji (iV (Ka _) (jJ Ka (jI hh (iR (Ka _) rfl)) rfl rfl rfl (cap:=[none,none,some (46,true)]) rfl (oP rfl) (fun Y Y Y Y Y Kd Y=>(kL (iV (Kd _) (iR (Kd _) rfl) (k9 (Kd _) rfl)))) (sD rfl)) (jp rfl iO)) jj))) (iZ (jb jA)) jg)
 (iZ (jq (jc (jl (ju (Ka _) rfl (fun P=>rfl)) zW.cw (iM (jl (ju (Ka _) rfl (fun P=>rfl)) ng.cw (iM (iW (iR (Ka _) rfl) (iW iX (je hh (i9 (Ka _) rfl) iX))) (iM (i9 (Ka _) rfl) (iM (i9 (Ka _) rfl) iO))) (ng.on (Ka _) (by decide) hh)) (iM (i9 (Ka _) rfl) (iM (i9 (Ka _) rfl) iO))) (zW.on (Ka _) (by decide) hh))) (iZ (jq (jd (ji (iV (Ka _) (jJ Ka (jI hh (i9 (Ka _) rfl)) rfl rfl rfl (cap:=[none,none,some (47,true)]) rfl (oP rfl) (fun Y Y Y Y Y Kd Y=>(kL (iV (Kd _) (iR (Kd _) rfl) (k9 (Kd _) rfl)))) (sD rfl)) (jp rfl iO)) (ji (jd (jk (iV (Ka _) (jl (jC (Ka _) rfl (fun P=>rfl) rfl) (ku _) (iM (i9 (Ka _) rfl) iO) (fun Y Y Y Y Y hv=>qA hv)) (iR (Ka _) rfl)) (jk (iV (Ka _) (jl (jC (Ka _) rfl (fun P=>rfl) rfl) (ku _) (iM (i9 (Ka _) rfl) iO) (fun Y Y Y Y Y hv=>qA hv)) (iR (Ka _) rfl)) jj))) jj))) (iZ (jb jA)) jg)) jg))))))))))
 (iZ (jq (jd (ji (iV (Ka _) (jl (ju (Ka _) rfl (fun P=>rfl)) B3.cw (iM (iR (Ka _) rfl) (iM (iR (Ka _) rfl) (iM (iR (Ka _) rfl) (iM (jp rfl iO) iO)))) (B3.on (Ka _) (by decide) hh)) (jp rfl iO)) (ji (iV (Ka _) (jl (ju (Ka _) rfl (fun P=>rfl)) yo.cw (iM (iR (Ka _) rfl) (iM (iR (Ka _) rfl) (iM (iR (Ka _) rfl) (iM (jp rfl iO) iO)))) (yo.on (Ka _) (by decide) hh)) (jp rfl iO)) (ji (iV (Ka _) (jl (ju (Ka _) rfl (fun P=>rfl)) B3.cw (iM (iR (Ka _) rfl) (iM (iR (Ka _) rfl) (iM (iR (Ka _) rfl) (iM (jp rfl (iM lT iO)) iO)))) (B3.on (Ka _) (by decide) hh)) (jp rfl (iM lT iO))) (ji (iV (Ka _) (jl (ju (Ka _) rfl (fun P=>rfl)) yo.cw (iM (iR (Ka _) rfl) (iM (iR (Ka _) rfl) (iM (iR (Ka _) rfl) (iM (jp rfl (iM lT (iM (je hh (i9 (Ka _) rfl) (iR (Ka _) rfl)) (iM lT iO)))) iO)))) (yo.on (Ka _) (by decide) hh)) (jp rfl (iM lT iO))) jj))))) (iZ (jb jA)) jg)))))))))
 (iU (jq (iV (Ka _) (iR (Ka _) rfl) (jJ Ka (jI hh (i9 (Ka _) rfl)) rfl rfl rfl (cap:=[none,none,some (12,true)]) rfl (oP rfl) (xH) (fun Y Y Y Y Y Kd Y=>(je hh (k9 (Kd _) rfl) (iR (Kd _) rfl))))) (iZ (jb jA)) jg)
 (iZ (jb (kj (Ka _) (jJ Ka (jI hh (kv (Ka _) rfl (iM (i9 (Ka _) rfl) iO))) rfl rfl rfl (cap:=[none,none,some (50,true),some (12,true)]) rfl (oP rfl) (fun Y Y Y Y Y Kd Y=>(kL (iV (Kd _) (je hh (k9 (Kd _) rfl) (iR (Kd _) rfl)) (k9 (Kd _) rfl)))) (fun Y Y Y Y Y Kd Y=>(je hh (k9 (Kd _) rfl) (je hh (k9 (Kd _) rfl) (iR (Kd _) rfl))))) (jJ Ka (jI hh (kv (Ka _) rfl (iM (i9 (Ka _) rfl) iO))) rfl rfl rfl (cap:=[none,none,some (50,true),some (13,true),some (12,true)]) rfl (oP rfl) (fun Y Y Y Y Y Kd Y=>(kL (iV (Kd _) (je hh (k9 (Kd _) rfl) (iR (Kd _) rfl)) (k9 (Kd _) rfl)))) (fun Y Y Y Y Y Kd Y=>(jJ Kd (jI hh (je hh (k9 (Kd _) rfl) (iR (Kd _) rfl))) rfl rfl rfl (cap:=[none,none,some (4,false)]) rfl (oP rfl) (xH) (fun Y Y Y Y Y Kd Y=>(je hh (k9 (Kd _) rfl) (iR (Kd _) rfl)))))))))))))))))))))))))))))))))))))))))))))))))⟩
section
variable{α:Type}
theorem xR(xs:List α)(i j:Nat): lw xs i j=(xs.toArray.swapIfInBounds i j).toList:=by
 unfold lw;refine R1 Array.swapIfInBounds_def ?_;by_cases hi:i<xs.length
 .by_cases hj:j<xs.length
  .refine R1 (dif_pos (by simpa using hi)) (R1 (dif_pos (by simpa using hj)) (R1 (az hi) (R1 (az hj) ?_)));simp[Array.swap]
  .refine R1 (dif_pos (by simpa using hi)) (R1 (dif_neg (by simpa using hj)) (R1 (cm (cr hj)) ?_));split<;>simp_all
 .exact R1 (dif_neg (by simpa using hi)) (R1 (cm (cr hi)) rfl)
theorem qx(xs:List α)(i j:Nat): (lw xs i j).Perm xs:=by refine R1 (xR ..) ?_;exact Array.perm_iff_toList_perm.mp (swapIB_perm _ _ _)
theorem lJ(xs:List α)(i j:Nat): (lw xs i j).length=xs.length:=(qx xs i j).length_eq
theorem pV{xs:List α}{i j:Nat}(hi:i<xs.length)(hj:j<xs.length)(k:Nat): (lw xs i j)[k]?=if j=k then xs[i]? else if i=k then xs[j]? else xs[k]?:=by refine R1 (xR ..) (R1 aB ?_);rewrite[getElem?_swapIB (by simpa using hi) (by simpa using hj)];simp
theorem ve{β:Type}(f:α->β)(xs:List α)(i j:Nat): lw (xs.map f) i j=(lw xs i j).map f:=by
 unfold lw;refine R1 aN (R1 aN ?_);cases xs[i]? with
 |none=>rfl
 |some x=>cases xs[j]? with
  |none=>rfl
  |some y=>exact(congrArg (List.set · j (f x)) gc.symm).trans gc.symm
theorem FW{β:Type}{c:Prop}[Decidable c]{o:Option β}{y:β}(h:(if c then o else none)=some y): o=some y:=by
 by_cases q:c
 .rw[if_pos q] at h;exact h
 .rw[if_neg q] at h;exact no h
theorem mR{i:Nat}(h:0<i): (i - 1) / 2<i:=ag (Nat.div_le_self _ _) (gR h Nat.one_pos)
theorem Ht(p:Nat): (2*p+1 - 1) / 2=p:=Nat.mul_div_cancel_left p (by decide)
theorem Kx(p:Nat): (2*p+1+1 - 1) / 2=p:=Nat.mul_add_div (by decide:2 > 0) p 1
theorem BY(p:Nat): p<2*p+1:=bo (dG p (by decide))
theorem L8{i p:Nat}(hi:0<i)(h:(i - 1) / 2=p): i=2*p+1\/i=2*p+1+1:=by
 obtain⟨j,rfl⟩:=dU (aZ hi);have e:=d5 j 2;rw[show j / 2=p from h] at e;rcases cE j with m | m
 .rw[m] at e;exact .inl (congrArg dp e.symm)
 .rw[m] at e;exact .inr (congrArg dp e.symm)
theorem leaf{n i p:Nat}(hi:0<i)(h:(i - 1) / 2=p)(hn:i<n): p<n / 2:=by have e:2*p+1<n:=(L8 hi h).elim (fun q=>q▸hn) fun q=>c9 (show 2*p+1+1<n from q▸hn);exact(Nat.lt_div_iff_mul_lt (by decide)).mpr (Nat.lt_sub_of_add_lt (eg 2 p▸e))
theorem Ln{n f p c:Nat}(h:n<f+1+p)(hc:p<c): n<f+c:=aD h (by refine R1 (bV ..) (R1 (bK 1 p) ?_);exact aC hc f)
variable(lt:α->α->Bool)
noncomputable def Ff(f:Nat)(xs:List α)(pos:Nat): List α:=match f with
 |0=>xs
 |f+1=>if pos=0 then xs else match xs[pos]? with
  |some x=>match xs[(pos - 1) / 2]? with
   |some p=>if lt x p=true then Ff f (lw xs ((pos - 1) / 2) pos) ((pos - 1) / 2) else xs
   |none=>xs
  |none=>xs
noncomputable def qo(f:Nat)(xs:List α)(pos:Nat): List α:=match f with
 |0=>xs
 |f+1=>if pos<xs.length / 2 then
   (if 2*pos+1+1<xs.length then match xs[2*pos+1]? with
    |some l=>match xs[2*pos+1+1]? with
     |some r=>qo f (lw xs (if lt l r then 2*pos+1 else 2*pos+1+1) pos) (if lt l r then 2*pos+1 else 2*pos+1+1)
     |none=>xs
    |none=>xs
   else qo f (lw xs (2*pos+1) pos) (2*pos+1))
  else Ff lt 10000 xs pos
structure Lt:Prop where
 Cv:∀a,lt a a=false
 tr:∀a b c,lt a b=true->lt b c=true->lt a c=true
 tot:∀a b,a≠b->lt a b=true\/lt b a=true
variable{lt}
theorem Lt.JK(h:Lt lt){a b:α}(k:lt a b=true): lt b a=false:=by
 cases q:lt b a with
 |false=>rfl
 |true=>have:=h.tr _ _ _ k q;rw[h.Cv] at this;cases this
theorem Lt.Mp(h:Lt lt){a b c:α}(k:lt a b=false)(l:lt b c=false): lt a c=false:=by
 cases q:lt a c with
 |false=>rfl
 |true=>
  by_cases e:b=c
  .subst e;rw[k] at q;cases q
  .rcases h.tot b c e with z | z
   .rw[l] at z;cases z
   .have:=h.tr _ _ _ q z;rw[k] at this;cases this
noncomputable def n8(lt:α->α->Bool)(xs:List α): Prop:=∀(i:Nat) x p,0<i->xs[i]?=some x->xs[(i - 1) / 2]?=some p->lt x p=false
structure HU(lt:α->α->Bool)(xs:List α)(pos:Nat): Prop where
 a:∀(i:Nat) x p,0<i->i≠pos->xs[i]?=some x->xs[(i - 1) / 2]?=some p->lt x p=false
 b:∀(i:Nat) x g,0<i->(i - 1) / 2=pos->0<pos->xs[i]?=some x->xs[(pos - 1) / 2]?=some g->lt x g=false
structure HD(lt:α->α->Bool)(xs:List α)(pos:Nat): Prop where
 a:∀(i:Nat) x p,0<i->i≠pos->(i - 1) / 2≠pos->xs[i]?=some x->xs[(i - 1) / 2]?=some p->lt x p=false
 b:∀(i:Nat) x g,0<i->(i - 1) / 2=pos->0<pos->xs[i]?=some x->xs[(pos - 1) / 2]?=some g->lt x g=false
theorem Au{Z:List α->Prop}{f:Nat}{xs:List α}{pos:Nat}(h0:(∀x p,0<pos->xs[pos]?=some x->xs[(pos - 1) / 2]?=some p->lt x p=false)->Z xs)(h1:∀x p,0<pos->xs[pos]?=some x->xs[(pos - 1) / 2]?=some p->lt x p=true->Z (Ff lt f (lw xs ((pos - 1) / 2) pos) ((pos - 1) / 2))): Z (Ff lt (f+1) xs pos):=by
 show Z (if pos=0 then xs else _);by_cases e:pos=0
 .refine R1 (if_pos e) ?_;exact h0 fun Y Y h=>absurd e (aZ h)
 .refine R1 (if_neg e) ?_;cases hx:xs[pos]? with
  |none=>exact h0 fun x Y Y q=>no (hx.symm.trans q)
  |some x=>cases hp:xs[(pos - 1) / 2]? with
   |none=>exact h0 fun Y p Y Y q=>no (hp.symm.trans q)
   |some p=>
    show Z (if lt x p=true then _ else xs);cases h:lt x p with
    |true=>exact h1 x p (cV e) hx hp h
    |false=>exact h0 fun y q Y hy hq=>aq.inj (hx.symm.trans hy)▸aq.inj (hp.symm.trans hq)▸h
theorem s7:∀(f:Nat) (xs:List α) (pos:Nat),(Ff lt f xs pos).Perm xs
 |0,xs,pos=>.refl _
 |f+1,xs,pos=>Au (Z:=fun l=>l.Perm xs) (fun Y=>.refl _) fun Y Y Y Y Y Y=>(s7 f _ _).trans (qx _ _ _)
theorem HU.up(L:Lt lt){xs:List α}{pos:Nat}(H:HU lt xs pos){x p:α}(hlen:pos<xs.length)(h0:0<pos)(ex:xs[pos]?=some x)(ep:xs[(pos - 1) / 2]?=some p)(hlt:lt x p=true): HU lt (lw xs ((pos - 1) / 2) pos) ((pos - 1) / 2):=by
 have hp:=mR h0;have hq:=aF hp hlen;refine⟨fun i y q hi hne hy hq'=>?_,fun i y g hi he h0' hy hg=>?_⟩
 .rw[pV hq hlen] at hy hq';by_cases h1:pos=i
  .subst h1;rw[if_pos rfl,ep] at hy;rw[if_neg (aZ hp),if_pos rfl,ex] at hq';exact aq.inj hy▸aq.inj hq'▸L.JK hlt
  .rw[if_neg h1,if_neg (Ne.symm hne)] at hy;have hai:=fun q=>H.a i y q hi (Ne.symm h1) hy;by_cases h2:pos=(i - 1) / 2
   .rw[if_pos h2,ep] at hq';exact aq.inj hq'▸H.b i y _ hi h2.symm h0 hy ep
   .rw[if_neg h2] at hq';by_cases h3:(pos - 1) / 2=(i - 1) / 2
    .rw[if_pos h3,ex] at hq';exact aq.inj hq'▸L.Mp (hai _ (h3▸ep)) (L.JK hlt)
    .rw[if_neg h3] at hq';exact hai _ hq'
 .rw[pV hq hlen] at hy hg;have hpp:=mR h0';rw[if_neg (aZ (aF hpp hp)),if_neg (aZ hpp)] at hg;have h4:=H.a _ _ g h0' (aK hp) ep hg;by_cases h1:pos=i
  .rw[if_pos h1,ep] at hy;exact aq.inj hy▸h4
  .rw[if_neg h1,if_neg (aK (he▸mR hi))] at hy;exact L.Mp (H.a i y _ hi (Ne.symm h1) hy (he▸ep)) h4
theorem tc(L:Lt lt): ∀(f:Nat) (xs:List α) (pos:Nat),pos<f->pos<xs.length->HU lt xs pos->n8 lt (Ff lt f xs pos)
 |0,xs,pos,h,_,_=>absurd h (gI _)
 |f+1,xs,pos,hf,hlen,H=>Au (Z:=n8 lt) (fun k i x p hi hx hp=>(Decidable.em (i=pos)).elim (fun h1=>by subst h1;exact k x p hi hx hp) fun h1=>H.a i x p hi h1 hx hp)
   fun x p h0 ex ep hlt=>tc L f _ _ (aD (mR h0) (bz hf)) ((lJ xs _ _).symm▸aF (mR h0) hlen) (H.up L hlen h0 ex ep hlt)
theorem vI(L:Lt lt){Z:List α->Prop}{f:Nat}{xs:List α}{pos:Nat}(h0:¬ pos<xs.length / 2->Z (Ff lt 10000 xs pos))
  (h1:∀c,c<xs.length->pos<c->(c - 1) / 2=pos->(∀(i:Nat) x y,0<i->(i - 1) / 2=pos->xs[i]?=some x->xs[c]?=some y->lt x y=false)->Z (qo lt f (lw xs c pos) c)):Z (qo lt (f+1) xs pos):=by
 show Z (if pos<xs.length / 2 then _ else _);have Cv:∀{i:Nat} {x y:α},xs[i]?=some x->xs[i]?=some y->lt x y=false:=fun h k=>aq.inj (h.symm.trans k)▸L.Cv _;by_cases hh:pos<xs.length / 2
 .refine R1 (if_pos hh) ?_;have hl:=half_lt hh;have el:=az hl;show Z (if 2*pos+1+1<xs.length then _ else _);by_cases hr:2*pos+1+1<xs.length
  .refine R1 (if_pos hr) ?_;have er:=az hr;refine R1 el ?_;dsimp only;refine R1 er ?_;dsimp only;cases q:lt xs[2*pos+1] xs[2*pos+1+1] with
   |true=>
    refine h1 _ hl (BY _) (Ht _) fun i x y hi he hx hy=>?_;rcases L8 hi he with rfl | rfl
    .exact Cv hx hy
    .exact aq.inj (er.symm.trans hx)▸aq.inj (el.symm.trans hy)▸L.JK q
   |false=>
    refine h1 _ hr (bi (BY _)) (Kx _) fun i x y hi he hx hy=>?_;rcases L8 hi he with rfl | rfl
    .exact aq.inj (el.symm.trans hx)▸aq.inj (er.symm.trans hy)▸q
    .exact Cv hx hy
  .refine R1 (if_neg hr) ?_;refine h1 _ hl (BY _) (Ht _) fun i x y hi he hx hy=>?_;rcases L8 hi he with rfl | rfl
   .exact Cv hx hy
   .exact absurd (au.mp hx).1 hr
 .refine R1 (if_neg hh) ?_;exact h0 hh
theorem uf(L:Lt lt): ∀(f:Nat) (xs:List α) (pos:Nat),(qo lt f xs pos).Perm xs
 |0,xs,pos=>.refl _
 |f+1,xs,pos=>vI L (Z:=fun l=>l.Perm xs) (fun Y=>s7 _ _ _) fun Y Y Y Y Y=>(uf L f _ _).trans (qx _ _ _)
theorem HD.down{xs:List α}{pos c:Nat}(H:HD lt xs pos)(hpos:pos<xs.length)(hc:c<xs.length)(hlt:pos<c)(hpar:(c - 1) / 2=pos)(hmin:∀(i:Nat) x y,0<i->(i - 1) / 2=pos->xs[i]?=some x->xs[c]?=some y->lt x y=false): HD lt (lw xs c pos) c:=by
 have ec:=az hc;refine⟨fun i x p hi hne DU hx hp=>?_,fun i x g hi he h0 hx hg=>?_⟩
 .rw[pV hc hpos] at hx hp;rw[if_neg (c:=c=(i - 1) / 2) (Ne.symm DU)] at hp;rw[if_neg (c:=c=i) (Ne.symm hne)] at hx;by_cases h1:pos=i
  .subst h1;rw[if_pos rfl] at hx;rw[if_neg (aZ (mR hi))] at hp;exact H.b c x p (aF hi hlt) hpar hi hx hp
  .rw[if_neg h1] at hx;by_cases h2:pos=(i - 1) / 2
   .rw[if_pos h2] at hp;exact hmin i x p hi h2.symm hx hp
   .rw[if_neg h2] at hp;exact H.a i x p hi (Ne.symm h1) (Ne.symm h2) hx hp
 .have MS:c<i:=he▸mR hi;rw[pV hc hpos] at hx hg;rw[hpar,if_pos rfl] at hg;rw[if_neg (aK (aF hlt MS)),if_neg (aK MS)] at hx;exact H.a i x _ hi (aZ (aF hlt MS)) (he.symm▸aZ hlt) hx (he.symm▸hg)
theorem ug(L:Lt lt): ∀(f:Nat) (xs:List α) (pos:Nat),xs.length<f+pos->xs.length<10000->pos<xs.length->HD lt xs pos->n8 lt (qo lt f xs pos)
 |0,xs,pos,h1,_,h2,_=>absurd (aF h2 (bX pos▸h1)) (bu _)
 |f+1,xs,pos,hf,hlen,hpos,H=>vI L (Z:=n8 lt) (fun hh=>tc L _ _ _ (aF hpos hlen) hpos ⟨fun i x p hi hne hx hp=>H.a i x p hi hne (fun he=>hh (leaf hi he (au.mp hx).1)) hx hp,H.b⟩)
   fun c hc hlt hpar hmin=>ug L f _ _ ((lJ xs c pos).symm▸Ln hf hlt) ((lJ xs c pos).symm▸hlen) ((lJ xs c pos).symm▸hc) (H.down hpos hc hlt hpar hmin)
theorem vy(L:Lt lt){xs:List α}{v:α}(H:n8 lt xs)(h0:xs[0]?=some v): ∀x∈xs,lt x v=false:=by
 have key:∀(i:Nat) x,xs[i]?=some x->lt x v=false:=fun i=>Nat.strongRecOn i fun i ih x hx=>by
  by_cases h:i=0
  .rw[h,h0] at hx;exact aq.inj hx▸L.Cv _
  .have hi:=cV h;have hp:=az (aF (mR hi) (au.mp hx).1);exact L.Mp (H i x _ hi hx hp) (ih _ (mR hi) _ hp)
 intro x hx;obtain⟨i,hi⟩:=cj.mp hx;exact key i x hi
noncomputable def pushP(lt:α->α->Bool)(q:List α)(v:α): List α:=Ff lt 10000 (q++[v]) q.length
noncomputable def BU(lt:α->α->Bool)(q:List α): Option (α×List α):=match q with
 |[]=>none
 |v::r=>match r with
  |[]=>some (v,[])
  |u::us=>some (v,qo lt 10000 (((v::u::us).dropLast).set 0 ((v::u::us).getLast (bn _ _))) 0)
theorem tz(q:List α)(v:α): (pushP lt q v).Perm (v::q):=(s7 _ _ _).trans (df _ _)
theorem zG(L:Lt lt){q:List α}{v:α}(hl:q.length<9000)(H:n8 lt q): n8 lt (pushP lt q v):=by have len:(q++[v]).length=q.length+1:=ar;have up:∀{i x},(q++[v])[i]?=some x->i<=q.length:=fun h=>bz (bZ (au.mp h).1 len);refine tc L _ _ _ (aF hl (by decide)) (len▸bB _) ⟨fun i x p hi hne hx hp=>?_,fun i x g hi he h0 hx hg=>absurd (he▸mR hi) (cP.mpr (up hx))⟩;have hi2:=cX (up hx) hne;rw[aH hi2] at hx;rw[aH (aF (mR hi) hi2)] at hp;exact H i x p hi hx hp
theorem BT(L:Lt lt){q:List α}(hl:q.length<9000)(H:n8 lt q)(hne:q≠[]): ∃v q',BU lt q=some (v,q')/\(v::q').Perm q/\n8 lt q'/\∀x∈q,lt x v=false:=by
 cases q with
 |nil=>exact absurd rfl hne
 |cons v r=>cases r with
  |nil=>exact⟨v,[],rfl,.refl _,fun Y Y Y Y h=>no h,vy L H rfl⟩
  |cons u us=>
   have hlen:(((v::u::us).dropLast).set 0 ((v::u::us).getLast (bn _ _))).length=us.length+1:=cI.trans fy;have hb:us.length+1<10000:=aF (c9 hl) (by decide);refine⟨v,_,rfl,(eO.cons v (uf L _ _ _)).trans (eO.cons v ?_),ug L _ _ _ (hlen.symm▸hb) (hlen.symm▸hb) (hlen.symm▸eU _) ⟨fun i x p hi hne DU hx hp=>?_,fun i x g hi he h0=>absurd h0 (bu _)⟩,vy L H rfl⟩
   .exact(df _ _).symm.trans (.of_eq (d4 (bn u us)))
   .rw[aJ (Ne.symm hne)] at hx;rw[aJ (Ne.symm DU)] at hp;rw[c5] at hx hp
    have cut:∀{j y},((v::u::us).take ((v::u::us).length - 1))[j]?=some y->(v::u::us)[j]?=some y:=fun{j y} h=>by rw[List.getElem?_take] at h;exact(FW h)
    exact H i x p hi (cut hx) (cut hp)
end
structure Fg where
 a:Bool
 b:Bool
 d:Bool
 l:Bool
 deriving DecidableEq,Inhabited
namespace Fg
noncomputable def zero:Fg:=⟨false,false,false,false⟩
noncomputable def eff(f:Fg): Fg:=⟨f.a,f.b,f.d || (f.a&&f.b),false⟩
noncomputable def or(f g:Fg): Fg:=⟨f.a || g.a,f.b || g.b,f.d || g.d,f.l || g.l⟩
noncomputable def Sub(f g:Fg): Prop:=(f.a=true->g.a=true)/\(f.b=true->g.b=true)/\(f.d=true->g.d=true)
instance(f g:Fg): Decidable (Sub f g):=inferInstanceAs (Decidable (_/\_/\_))
theorem Sub.refl(f:Fg): Sub f f:=⟨id,id,id⟩
theorem Sub.trans{f g h:Fg}(x:Sub f g)(y:Sub g h): Sub f h:=⟨fun q=>y.1 (x.1 q),fun q=>y.2.1 (x.2.1 q),fun q=>y.2.2 (x.2.2 q)⟩
theorem Im(f g:Fg): Sub f (or f g):=⟨fun h=>by show(f.a || g.a)=true;exact R1 h rfl,fun h=>by show(f.b || g.b)=true;exact R1 h rfl,fun h=>by show(f.d || g.d)=true;exact R1 h rfl⟩
theorem vX(f g:Fg): Sub g (or f g):=⟨fun h=>by show(f.a || g.a)=true;exact R1 h (R1 (cN ..) rfl),fun h=>by show(f.b || g.b)=true;exact R1 h (R1 (cN ..) rfl),fun h=>by show(f.d || g.d)=true;exact R1 h (R1 (cN ..) rfl)⟩
noncomputable def bits(f:Fg): Nat:=f.a.toNat+f.b.toNat+f.d.toNat
theorem ut:∀a b d a' b' d':Bool,(a.toNat+b.toNat+d.toNat<=3)/\(((a=true->a'=true)/\(b=true->b'=true)/\(d=true->d'=true))->a.toNat+b.toNat+d.toNat<=a'.toNat+b'.toNat+d'.toNat)/\
  (¬ ((a'=true->a=true)/\(b'=true->b=true)/\(d'=true->d=true))->a.toNat+b.toNat+d.toNat<(a || a').toNat+(b || b').toNat+(d || d').toNat):=by decide
theorem bits_le(f:Fg): bits f<=3:=(ut f.a f.b f.d f.a f.b f.d).1
theorem J5{f g:Fg}(h:Sub f g): bits f<=bits g:=(ut f.a f.b f.d g.a g.b g.d).2.1 h
theorem G7{f g:Fg}(h:¬ Sub g f): bits f<bits (or f g):=(ut f.a f.b f.d g.a g.b g.d).2.2 h
end Fg
section
variable{α:Type}[DecidableEq α]
inductive Way(par:α->List α)(S:α->Prop): α->α->Prop
 |refl {x}:S x->Way par S x x
 |step {x y z}:Way par S x y->z∈par y->S z->Way par S x z
noncomputable abbrev Reach(par:α->List α):=Way par fun Y=>True
theorem Way.left{par:α->List α}{S:α->Prop}{x y:α}(h:Way par S x y): S x:=by
 induction h with
 |refl h=>exact h
 |step _ _ _ ih=>exact ih
theorem Way.right{par:α->List α}{S:α->Prop}{x y:α}(h:Way par S x y): S y:=by
 cases h with
 |refl h=>exact h
 |step _ _ h=>exact h
theorem Way.trans{par:α->List α}{S:α->Prop}{x y z:α}(h:Way par S x y)(k:Way par S y z): Way par S x z:=by
 induction k with
 |refl _=>exact h
 |step _ q1 q2 ih=>exact .step ih q1 q2
theorem Way.mono{par par':α->List α}{S S':α->Prop}{x y:α}(h:Way par S x y)(hp:∀v p,p∈par v->p∈par' v)(hs:∀v,S v->S' v): Way par' S' x y:=by
 induction h with
 |refl h=>exact .refl (hs _ h)
 |step _ q1 q2 ih=>exact .step ih (hp _ _ q1) (hs _ q2)
theorem Way.head{par:α->List α}{S:α->Prop}{x y z:α}(hx:S x)(h:y∈par x)(k:Way par S y z): Way par S x z:=(Way.step (.refl hx) h k.left).trans k
structure St(α:Type)where
 fl:α->Fg
 pq:List α
 cand:List α
noncomputable def upd(f:α->Fg)(v:α)(x:Fg): α->Fg:=fun u=>if u=v then x else f u
structure Al(α:Type)where
 par:α->List α
 lt:α->α->Bool
 push:List α->α->List α
 pop:List α->Option (α×List α)
 E4:List α->Prop
structure Al.Ok(A:Al α): Prop where
 lW:∀q v,(A.push q v).Perm (v::q)
 wh:∀q v,A.E4 q->A.E4 (A.push q v)
 rh:∀q,A.E4 q->q≠[]->q.length<9000->∃v q',A.pop q=some (v,q')/\(v::q').Perm q/\A.E4 q'/\∀x∈q,A.lt x v=false
variable(A:Al α)
noncomputable def proc(cf:Fg): List α->St α->St α
 |[],s=>s
 |p::ps,s=>if Fg.Sub cf (s.fl p) then proc cf ps s else proc cf ps {s with fl:=upd s.fl p (Fg.or (s.fl p) cf),pq:=A.push s.pq p}
noncomputable def step(s:St α): St α:=match A.pop s.pq with
 |none=>s
 |some (v,q)=>
  if(s.fl v).a=true/\(s.fl v).b=true/\(s.fl v).d=false then
   proc A ⟨true,true,true,false⟩ (A.par v) (if(s.fl v).l=true then{s with pq:=q} else{fl:=upd s.fl v {s.fl v with l:=true},pq:=q,cand:=s.cand++[v]})
  else proc A {s.fl v with l:=false} (A.par v) {s with pq:=q}
noncomputable def more(s:St α): Bool:=s.pq.any fun v=>!(s.fl v).d
structure Inv(c1:α)(C2:List α)(s:St α): Prop where
 i1:∀v,(s.fl v).a=true->Reach A.par c1 v
 i2:∀v,(s.fl v).b=true->∃c∈C2,Reach A.par c v
 i3:∀v,(s.fl v).d=true->(s.fl v).a=true/\(s.fl v).b=true/\∃m,Reach A.par c1 m/\(∃c∈C2,Reach A.par c m)/\v∈A.par m
 i4:∀v,((s.fl v).a=true\/(s.fl v).b=true)->v∈s.pq\/((∀p∈A.par v,Fg.Sub (Fg.eff (s.fl v)) (s.fl p))/\((s.fl v).a=true->(s.fl v).b=true->(s.fl v).d=false->(s.fl v).l=true))
 i5:(s.fl c1).a=true/\∀c∈C2,(s.fl c).b=true
 i6:(∀v,(s.fl v).l=true↔v∈s.cand)/\s.cand.Nodup
 i7:∀v∈s.cand,(s.fl v).a=true/\(s.fl v).b=true/\¬ ∃m,Way A.par (fun x=>A.lt x v=true) c1 m/\(∃c∈C2,Way A.par (fun x=>A.lt x v=true) c m)/\v∈A.par m
 i8:A.E4 s.pq/\∀v∈s.pq,(s.fl v).a=true\/(s.fl v).b=true
variable{A}
theorem l7(f:α->Fg)(v:α)(x:Fg): upd f v x v=x:=if_pos rfl
theorem pA(f:α->Fg){v u:α}(x:Fg)(h:u≠v): upd f v x u=f u:=if_neg h
theorem Fg.FS(f g:Fg): Fg.or (Fg.or f g) g=Fg.or f g:=by unfold Fg.or;exact R1 (eM ..) (R1 (fi ..) (R1 (eM ..) (R1 (fi ..) (R1 (eM ..) (R1 (fi ..) (R1 (eM ..) (R1 (fi ..) rfl)))))))
structure Pr(A:Al α)(cf:Fg)(ps:List α)(s s':St α): Prop where
 p1:∀v,s'.fl v=s.fl v\/(v∈ps/\s'.fl v=Fg.or (s.fl v) cf/\v∈s'.pq)
 p2:∀p∈ps,Fg.Sub cf (s'.fl p)
 p3:∀v∈s.pq,v∈s'.pq
 p4:∀v∈s'.pq,v∈s.pq\/s'.fl v=Fg.or (s.fl v) cf
 p5:A.E4 s'.pq
 p6:s'.cand=s.cand
theorem Pr.le{cf:Fg}{ps:List α}{s s':St α}(h:Pr A cf ps s s')(v:α): Fg.Sub (s.fl v) (s'.fl v):=(h.p1 v).elim (fun q=>q▸.refl _) fun q=>q.2.1▸Fg.Im _ _
theorem Pr.skip{cf:Fg}{p:α}{ps:List α}{s s':St α}(h:Pr A cf ps s s')(hs:Fg.Sub cf (s.fl p)): Pr A cf (p::ps) s s':=
 ⟨fun v=>(h.p1 v).imp id fun q=>⟨ad _ q.1,q.2⟩,fun v hv=>(av.mp hv).elim (fun e=>e▸hs.trans (h.le p)) (h.p2 v),h.p3,h.p4,h.p5,h.p6⟩
theorem Pr.push(K:A.Ok){cf:Fg}{p:α}{ps:List α}{s s2 s':St α}(h:Pr A cf ps s2 s')(hf:s2.fl=upd s.fl p (Fg.or (s.fl p) cf))(hq:s2.pq=A.push s.pq p)(hc:s2.cand=s.cand): Pr A cf (p::ps) s s':=by
 have mem:∀{v},v∈s2.pq↔v=p\/v∈s.pq:=fun{v}=>by refine R1 hq ?_;exact(K.lW _ _).mem_iff.trans av
 have off:∀{v},v≠p->s2.fl v=s.fl v:=fun h=>by refine R1 hf ?_;exact pA _ _ h
 have at':s2.fl p=Fg.or (s.fl p) cf:=by refine R1 hf ?_;exact l7 _ _ _
 have e:s'.fl p=Fg.or (s.fl p) cf:=(h.p1 p).elim (fun q=>q.trans at') fun q=>by exact R1 q.2.1 (R1 at' (R1 (Fg.FS ..) rfl))
 have hp:p∈s'.pq:=h.p3 p (mem.mpr (.inl rfl));refine⟨fun v=>?_,fun v hv=>(av.mp hv).elim (fun q=>q▸e▸Fg.vX _ _) (h.p2 v),fun v hv=>h.p3 v (mem.mpr (.inr hv)),fun v hv=>?_,h.p5,h.p6.trans hc⟩
 .by_cases hv:v=p
  .refine R1 hv ?_;exact .inr ⟨ac,e,hp⟩
  .exact off hv▸(h.p1 v).imp id fun q=>⟨ad _ q.1,q.2⟩
 .by_cases hv':v=p
  .refine R1 hv' ?_;exact .inr e
  .exact off hv'▸(h.p4 v hv).imp (fun q=>(mem.mp q).resolve_left hv') id
theorem ov(K:A.Ok)(cf:Fg): ∀(ps:List α) (s:St α),A.E4 s.pq->Pr A cf ps s (proc A cf ps s)
 |[],s,h=>⟨fun Y=>.inl rfl,fun Y hp=>(nomatch hp),fun Y hv=>hv,fun Y hv=>.inl hv,h,rfl⟩
 |p::ps,s,hH=>by
  show Pr A cf (p::ps) s (if Fg.Sub cf (s.fl p) then proc A cf ps s else proc A cf ps _);by_cases h:Fg.Sub cf (s.fl p)
  .refine R1 (if_pos h) ?_;exact(ov K cf ps s hH).skip h
  .refine R1 (if_neg h) ?_;exact(ov K cf ps _ (K.wh _ _ hH)).push K rfl rfl rfl
theorem FQ{x y:Bool}(h:(x || y)=true): x=true\/y=true:=(bj _ _).mp h
theorem xE{par:α->List α}{S:α->Prop}{f:Fg->Bool}{fl:α->Fg}{c y:α}(h0:f (fl c)=true)(h:∀y,S y->f (fl y)=true->∀p∈par y,f (fl p)=true)(w:Way par S c y): f (fl y)=true:=by
 induction w with
 |refl _=>exact h0
 |step w hz _ ih=>exact h _ w.right ih _ hz
structure Cut(A:Al α)(s:St α)(v:α)(s1:St α): Prop where
 same:∀x,(s1.fl x).a=(s.fl x).a/\(s1.fl x).b=(s.fl x).b/\(s1.fl x).d=(s.fl x).d
 other:∀x,x≠v->s1.fl x=s.fl x
 lv:(s.fl v).a=true->(s.fl v).b=true->(s.fl v).d=false->(s1.fl v).l=true
 cand:(∀x,(s1.fl x).l=true↔x∈s1.cand)/\s1.cand.Nodup
 cin:∀x∈s1.cand,x∈s.cand\/(x=v/\(s.fl v).a=true/\(s.fl v).b=true/\(s.fl v).d=false)
 L1:∀x,x∈s1.pq->x∈s.pq
 FP:∀x,x∈s.pq->x≠v->x∈s1.pq
theorem Cut.le{s s1:St α}{v:α}(U:Cut A s v s1)(x:α): Fg.Sub (s.fl x) (s1.fl x):=⟨fun q=>(U.same x).1.trans q,fun q=>(U.same x).2.1.trans q,fun q=>(U.same x).2.2.trans q⟩
theorem Cut.eff{s s1:St α}{v:α}(U:Cut A s v s1)(x:α): Fg.eff (s1.fl x)=Fg.eff (s.fl x):=by unfold Fg.eff;exact R1 ((U.same x).1) (R1 ((U.same x).2.1) (R1 ((U.same x).2.2) rfl))
theorem tA{c1:α}{C2:List α}{s s1 s':St α}{v:α}(I:Inv A c1 C2 s)(hv:(s.fl v).a=true\/(s.fl v).b=true)(hmin:∀y∈s.pq,A.lt y v=false)(U:Cut A s v s1)(P:Pr A (Fg.eff (s.fl v)) (A.par v) s1 s'): Inv A c1 C2 s':=by
 have mono:∀x,Fg.Sub (s.fl x) (s'.fl x):=fun x=>(U.le x).trans (P.le x);have l1:∀x,(s'.fl x).l=(s1.fl x).l:=fun x=>(P.p1 x).elim (fun q=>congrArg Fg.l q) fun q=>(congrArg Fg.l q.2.1).trans (Bool.or_false _);have cd:(Fg.eff (s.fl v)).d=true->(s.fl v).a=true/\(s.fl v).b=true:=fun h=>(FQ h).elim (fun h=>⟨(I.i3 v h).1,(I.i3 v h).2.1⟩) (aW _ _).mp;refine⟨fun x hx=>?_,fun x hx=>?_,fun x hx=>?_,fun x hx=>?_,⟨(mono c1).1 I.i5.1,fun c hc=>(mono c).2.1 (I.i5.2 c hc)⟩,⟨fun x=>by refine R1 (l1 x) (R1 P.p6 ?_);exact U.cand.1 x,P.p6▸U.cand.2⟩,fun x hx=>?_,P.p5,fun x hx=>?_⟩
 .rcases P.p1 x with z | ⟨Ig,z,_⟩
  .exact I.i1 x ((U.same x).1▸z▸hx)
  .exact(FQ ((congrArg Fg.a z).symm.trans hx)).elim (fun h=>I.i1 x ((U.same x).1▸h)) fun h=>.step (I.i1 v h) Ig trivial
 .rcases P.p1 x with z | ⟨Ig,z,_⟩
  .exact I.i2 x ((U.same x).2.1▸z▸hx)
  .exact(FQ ((congrArg Fg.b z).symm.trans hx)).elim (fun h=>I.i2 x ((U.same x).2.1▸h)) fun h=>(I.i2 v h).imp fun c h=>⟨h.1,.step h.2 Ig trivial⟩
 .have old:(s1.fl x).d=true->(s'.fl x).a=true/\(s'.fl x).b=true/\_:=fun h=>(I.i3 x ((U.same x).2.2▸h)).imp (mono x).1 fun h=>h.imp (mono x).2.1 id;rcases P.p1 x with z | ⟨Ig,z,_⟩
  .exact old (z▸hx)
  .refine(FQ ((congrArg Fg.d z).symm.trans hx)).elim old fun h=>?_;obtain⟨h1,h2⟩:=cd h;exact⟨(P.p2 x Ig).1 h1,(P.p2 x Ig).2.1 h2,v,I.i1 v h1,I.i2 v h2,Ig⟩
 ·-- done or in the queue
  rcases P.p1 x with z | ⟨_,_,z⟩
  .by_cases hxv:x=v
   .subst hxv;refine .inr ⟨fun p hp=>by refine R1 z (R1 (U.eff ..) ?_);exact P.p2 p hp,fun h1 h2 h3=>(l1 x).trans ?_⟩;rw[z] at h1 h2 h3;exact U.lv ((U.same x).1▸h1) ((U.same x).2.1▸h2) ((U.same x).2.2▸h3)
   .rw[z,U.other x hxv] at hx ⊢;exact(I.i4 x hx).imp (fun h=>P.p3 x (U.FP x h hxv)) fun h=>⟨fun p hp=>(h.1 p hp).trans (mono p),h.2⟩
  .exact .inl z
 .rcases U.cin x (P.p6▸hx) with h | ⟨rfl,h1,h2,h3⟩
  .exact(I.i7 x h).imp (mono x).1 fun h=>h.imp (mono x).2.1 id
  .refine⟨(mono x).1 h1,(mono x).2.1 h2,?_⟩;rintro⟨m,w1,⟨c,hc,w2⟩,hm⟩
   have done:∀y,A.lt y x=true->((s.fl y).a=true\/(s.fl y).b=true)->(∀p∈A.par y,Fg.Sub (Fg.eff (s.fl y)) (s.fl p)):=fun y hy hab=>
    (I.i4 y hab).elim (fun h=>cC ((hmin y h).symm.trans hy)) And.left
   have ha:=xE (f:=Fg.a) I.i5.1 (fun y hy ha p hp=>(done y hy (.inl ha) p hp).1 ha) w1;have hb:=xE (f:=Fg.b) (I.i5.2 c hc) (fun y hy hb p hp=>(done y hy (.inr hb) p hp).2.1 hb) w2;have:=(done m w1.right (.inl ha) x hm).2.2 (by show((s.fl m).d || ((s.fl m).a&&(s.fl m).b))=true;refine R1 ha (R1 hb ?_);exact cN _);exact cC (h3.symm.trans this)
 .rcases P.p4 x hx with h | h
  .exact(I.i8.2 x (U.L1 x h)).imp (mono x).1 (mono x).2.1
  .refine R1 h ?_;exact hv.imp (fun h=>(Fg.vX _ _).1 h) fun h=>(Fg.vX _ _).2.1 h
theorem CN(K:A.Ok){c1:α}{C2:List α}{s:St α}(I:Inv A c1 C2 s)(hne:s.pq≠[])(hsz:s.pq.length<9000): Inv A c1 C2 (step A s):=by
 obtain⟨v,q,uO,hperm,hH,hmin⟩:=K.rh s.pq I.i8.1 hne hsz;have Oc:v∈s.pq:=hperm.mem_iff.mp ac;have L1:∀x,x∈q->x∈s.pq:=fun x hx=>hperm.mem_iff.mp (ad _ hx);have FP:∀x,x∈s.pq->x≠v->x∈q:=fun x hx hne=>(av.mp (hperm.mem_iff.mpr hx)).resolve_left hne;have hv:=I.i8.2 v Oc;have plain:((s.fl v).a=true->(s.fl v).b=true->(s.fl v).d=false->(s.fl v).l=true)->Cut A s v {s with pq:=q}:=fun h=>⟨fun Y=>⟨rfl,rfl,rfl⟩,fun Y Y=>rfl,h,I.i6,fun Y hx=>.inl hx,L1,FP⟩;unfold step;refine R1 uO ?_;dsimp only;by_cases hc:(s.fl v).a=true/\(s.fl v).b=true/\(s.fl v).d=false
 .have e:(⟨true,true,true,false⟩:Fg)=Fg.eff (s.fl v):=by unfold Fg.eff;exact R1 hc.1 (R1 hc.2.1 (R1 hc.2.2 rfl))
  refine R1 (if_pos hc) (R1 e ?_);by_cases J2:(s.fl v).l=true
  .refine R1 (if_pos J2) ?_;exact tA I hv hmin (plain fun Y Y Y=>J2) (ov K _ _ _ hH)
  .have Oy:v∉s.cand:=fun h=>J2 ((I.i6.1 v).mpr h);refine R1 (if_neg J2) ?_;refine tA I hv hmin ⟨fun x=>?_,fun x hx=>pA _ _ hx,fun Y Y Y=>congrArg Fg.l (l7 _ _ _),⟨fun x=>?_,aU.mpr ⟨I.i6.2,bq _ _,fun a ha b hb e=>Oy (by refine R2 (af.mp hb) (R2 e ?_);exact ha)⟩⟩,fun x hx=>(aA.mp hx).imp id fun h=>⟨af.mp h,hc⟩,L1,FP⟩ (ov K _ _ _ hH)
   .show(upd _ _ _ x).a=_/\(upd _ _ _ x).b=_/\(upd _ _ _ x).d=_;by_cases hx:x=v
    .refine R1 hx (R1 (l7 ..) ?_);exact⟨rfl,rfl,rfl⟩
    .refine R1 (pA _ _ hx) ?_;exact⟨rfl,rfl,rfl⟩
   .show(upd _ _ _ x).l=true↔x∈s.cand++[v];by_cases hx:x=v
    .refine R1 hx (R1 (l7 ..) ?_);exact⟨fun Y=>de,fun Y=>rfl⟩
    .refine R1 (pA _ _ hx) ?_;exact(I.i6.1 x).trans ⟨ai _,fun h=>(aA.mp h).resolve_right fun h=>hx (af.mp h)⟩
 .have e:({s.fl v with l:=false}:Fg)=Fg.eff (s.fl v):=by
   unfold Fg.eff;generalize s.fl v=f at hc;obtain⟨a,b,d,l⟩:=f;cases d with
   |true=>rfl
   |false=>cases a with
    |false=>rfl
    |true=>cases b with
     |false=>rfl
     |true=>exact absurd ⟨rfl,rfl,rfl⟩ hc
  refine R1 (if_neg hc) (R1 e ?_);exact tA I hv hmin (plain fun h1 h2 h3=>absurd ⟨h1,h2,h3⟩ hc) (ov K _ _ _ hH)
noncomputable def load(U:List α)(s:St α): Nat:=s.pq.length+(U.map fun v=>3 - Fg.bits (s.fl v)).sum
theorem zh{f g:α->Nat}: ∀{U:List α},(∀v∈U,f v<=g v)->(U.map f).sum<=(U.map g).sum
 |[],_=>aM _
 |x::U,h=>by
  refine R1 aR (R1 aR (R1 dS (R1 dS ?_)));exact bW (h x ac) (zh fun v hv=>h v (ad _ hv))
theorem CK{f g:α->Nat}{p:α}(hlt:f p<g p): ∀{U:List α},(∀v∈U,f v<=g v)->p∈U->(U.map f).sum<(U.map g).sum
 |x::U,h,hp=>by
  refine R1 aR (R1 aR (R1 dS (R1 dS ?_)));have h1:∀v∈U,f v<=g v:=fun v hv=>h v (ad _ hv);exact(av.mp hp).elim (fun e=>eB (e▸hlt) (zh h1)) fun hp=>Nat.add_lt_add_of_le_of_lt (h x ac) (CK hlt h1 hp)
theorem CE{fl:α->Fg}{v:α}{x:Fg}(h:Fg.bits (fl v)<=Fg.bits x)(u:α): 3 - Fg.bits (upd fl v x u)<=3 - Fg.bits (fl u):=by
 by_cases hu:u=v
 .refine R1 hu (R1 (l7 ..) ?_);exact Nat.sub_le_sub_left h 3
 .refine R1 (pA _ _ hu) ?_;exact aM _
theorem p7(K:A.Ok){U:List α}(cf:Fg): ∀(ps:List α) (s:St α),(∀p∈ps,p∈U)->load U (proc A cf ps s)<=load U s
 |[],s,_=>aM _
 |p::ps,s,hU=>by
  have hU':∀q∈ps,q∈U:=fun q hq=>hU q (ad _ hq);show load U (if Fg.Sub cf (s.fl p) then _ else _)<=_;by_cases hs:Fg.Sub cf (s.fl p)
  .refine R1 (if_pos hs) ?_;exact p7 K cf ps s hU'
  .refine R1 (if_neg hs) ?_;refine ab (p7 K cf ps _ hU') ?_;have hb:=Fg.G7 hs
   have h2:(U.map fun v=>3 - Fg.bits (upd s.fl p (Fg.or (s.fl p) cf) v)).sum<(U.map fun v=>3 - Fg.bits (s.fl v)).sum:=
    CK (by refine R1 (l7 ..) ?_;exact d9 (aD hb (Fg.bits_le _)) hb) (fun v Y=>CE (aG hb) v) (hU p ac)
   show(A.push s.pq p).length+_<=_;refine R1 ((K.lW s.pq p).length_eq) (R1 bd (R1 (bY ..) ?_));exact ch h2 _
theorem step_load(K:A.Ok){U:List α}{s:St α}(hH:A.E4 s.pq)(hne:s.pq≠[])(hsz:s.pq.length<9000)(hU:∀v∈s.pq,∀p∈A.par v,p∈U): load U (step A s)<load U s:=by
 obtain⟨v,q,uO,hperm,hH,hmin⟩:=K.rh s.pq hH hne hsz;have hlen:q.length<s.pq.length:=hperm.length_eq▸bB _;have hU:=hU v (hperm.mem_iff.mp ac);unfold step;refine R1 uO ?_;dsimp only;by_cases hc:(s.fl v).a=true/\(s.fl v).b=true/\(s.fl v).d=false
 .refine R1 (if_pos hc) ?_;refine ag (p7 K _ _ _ hU) ?_;by_cases hl:(s.fl v).l=true
  .refine R1 (if_pos hl) ?_;exact dX hlen _
  .refine R1 (if_neg hl) ?_;exact eB hlen (zh fun x Y=>CE (x:={s.fl v with l:=true}) (aM (Fg.bits (s.fl v))) x)
 .refine R1 (if_neg hc) ?_;exact ag (p7 K _ _ _ hU) (dX hlen _)
noncomputable def found(s:St α): List α:=s.cand.filter fun v=>!(s.fl v).d
structure Found(par:α->List α)(lt:α->α->Bool)(c1:α)(C2:List α)(res:List α): Prop where
 nodup:res.Nodup
 joint:∀v∈res,Reach par c1 v/\∃c∈C2,Reach par c v
 free:∀v∈res,¬ ∃m,Way par (fun x=>lt x v=true) c1 m/\(∃c∈C2,Way par (fun x=>lt x v=true) c m)/\v∈par m
 tops:∀t,Reach par c1 t->(∃c∈C2,Reach par c t)->(∀m,Reach par c1 m->(∃c∈C2,Reach par c m)->t∉par m)->t∈res
 apart:∀x∈res,∀y∈res,y∉par x
theorem Aa{c1:α}{C2:List α}{s:St α}(I:Inv A c1 C2 s)(hend:more s=false): Found A.par A.lt c1 C2 (found s):=by
 have hd:∀v∈s.pq,(s.fl v).d=true:=fun v hv=>(cY (s.fl v).d).mp ((eV _).mp (eI.mp hend v hv));have mem:∀v,v∈found s↔v∈s.cand/\(s.fl v).d=false:=fun v=>bC.trans (and_congr_right fun Y=>iff_of_eq (bx _));refine⟨I.i6.2.filter _,fun v hv=>⟨I.i1 v (I.i7 v ((mem v).mp hv).1).1,I.i2 v (I.i7 v ((mem v).mp hv).1).2.1⟩,fun v hv=>(I.i7 v ((mem v).mp hv).1).2.2,fun t h1 h2 htop=>?_,fun x hx y hy hxy=>?_⟩
 .have nd:(s.fl t).d=false:=by
   cases q:(s.fl t).d with
   |false=>rfl
   |true=>
    obtain⟨_,_,m,m1,m2,m3⟩:=I.i3 t q;exact(htop m m1 m2 m3).elim
  have ahead:∀x,Reach A.par x t->x≠t->x∈s.pq->False:=fun x hx hne hin=>by
   obtain⟨q1,q2,_⟩:=I.i3 x (hd x hin);have r1:=I.i1 x q1;obtain⟨c,hc,r2⟩:=I.i2 x q2;cases hx with
   |refl _=>exact hne rfl
   |step hw hz _=>exact htop _ (r1.trans hw) ⟨c,hc,r2.trans hw⟩ hz
  have loop:∀y z,y=t->z∈A.par y->Reach A.par z t->False:=fun y z he hz Ou=>by
   subst he;cases Ou with
   |refl _=>exact htop y h1 h2 hz
   |step hw hz' _=>
    obtain⟨c,hc,r2⟩:=h2;exact htop _ ((Way.step h1 hz trivial).trans hw) ⟨c,hc,(Way.step r2 hz trivial).trans hw⟩ hz'
  have flag:∀(f:Fg->Bool) c,f (s.fl c)=true->(∀g,f g=true->g.a=true\/g.b=true)->(∀g h,Fg.Sub (Fg.eff g) h->f g=true->f h=true)->∀y,Reach A.par c y->Reach A.par y t->f (s.fl y)=true:=fun f c h0 hab hs y w=>by
   induction w with
   |refl _=>intro _;exact h0
   |@step y z w hz _ ih=>
    intro Ny;have Nz:Reach A.par y t:=.head trivial hz Ny;have ha:=ih Nz;by_cases he:y=t
    .exact(loop y z he hz Ny).elim
    .exact(I.i4 y (hab _ ha)).elim (fun h=>(ahead y Nz he h).elim) fun h=>hs _ _ (h.1 z hz) ha
  obtain⟨c,hc,h2'⟩:=h2;have ta:=flag Fg.a c1 I.i5.1 (fun Y=>.inl) (fun Y Y h=>h.1) t h1 (.refl trivial);have tb:=flag Fg.b c (I.i5.2 c hc) (fun Y=>.inr) (fun Y Y h=>h.2.1) t h2' (.refl trivial);rcases I.i4 t (.inl ta) with h | h
  .rw[hd t h] at nd;cases nd
  .exact(mem t).mpr ⟨(I.i6.1 t).mp (h.2 ta tb nd),nd⟩
 .obtain⟨hx1,hx2⟩:=(mem x).mp hx;obtain⟨hy1,hy2⟩:=(mem y).mp hy;obtain⟨a1,b1,_⟩:=I.i7 x hx1;rcases I.i4 x (.inl a1) with h | h
  .rw[hd x h] at hx2;cases hx2
  .have:=(h.1 y hxy).2.2 (by show((s.fl x).d || ((s.fl x).a&&(s.fl x).b))=true;refine R1 a1 (R1 b1 ?_);exact cN _);exact cC (hy2.symm.trans this)
end
theorem qJ(xs:List UInt8): ltB xs []=false:=by cases xs<;>rfl
theorem u8{x y:UInt8}: x<y↔x.toNat<y.toNat:=UInt8.lt_iff_toNat_lt
theorem Hl{x y:UInt8}: x=y↔x.toNat=y.toNat:=⟨fun h=>by exact R1 h rfl,fun h=>UInt8.toNat_inj.mp h⟩
theorem oz(x y:UInt8)(xs ys:List UInt8): ltB (x::xs) (y::ys)=true↔x<y\/(x=y/\ltB xs ys=true):=by
 have Cv:¬ y<y:=UInt8.lt_irrefl y;show((if x<y then Ordering.lt else if x > y then .gt else iC.Bytes.order xs ys) == .lt)=true↔_;by_cases h:x<y
 .refine R1 (if_pos h) ?_;exact⟨fun Y=>.inl h,fun Y=>rfl⟩
 .refine R1 (if_neg h) ?_;by_cases h2:x > y
  .refine R1 (if_pos h2) ?_;exact⟨fun q=>cC q,fun q=>(q.resolve_left h).elim fun e Y=>absurd (e▸h2) Cv⟩
  .refine R1 (if_neg h2) ?_;have e:x=y:=Hl.mpr (cJ (cP.mp fun q=>h2 (u8.mpr q)) (cP.mp fun q=>h (u8.mpr q)));exact⟨fun q=>.inr ⟨e,q⟩,fun q=>(q.resolve_left h).2⟩
theorem qK:Lt ltB:=by
 refine⟨fun a=>?_,fun a=>?_,fun a=>?_⟩
 .induction a with
  |nil=>rfl
  |cons x xs ih=>
   cases q:ltB (x::xs) (x::xs) with
   |false=>rfl
   |true=>
    rcases(oz _ _ _ _).mp q with h | h
    .rw[u8] at h;lia
    .rw[ih] at h;cases h.2
 .induction a with
  |nil=>
   intro b c h1 h2;cases c with
   |nil=>rw[qJ] at h2;cases h2
   |cons z zs=>rfl
  |cons x xs ih=>
   intro b c h1 h2;cases b with
   |nil=>rw[qJ] at h1;cases h1
   |cons y ys=>
    cases c with
    |nil=>rw[qJ] at h2;cases h2
    |cons z zs=>
     rw[oz] at h1 h2 ⊢;rcases h1 with h1 | ⟨rfl,h1⟩
     .rcases h2 with h2 | ⟨rfl,h2⟩
      .left;rw[u8] at h1 h2 ⊢;exact aF h1 h2
      .exact .inl h1
     .rcases h2 with h2 | ⟨rfl,h2⟩
      .exact .inl h2
      .exact .inr ⟨rfl,ih _ _ h1 h2⟩
 .induction a with
  |nil=>
   intro b h;cases b with
   |nil=>exact absurd rfl h
   |cons y ys=>exact .inl rfl
  |cons x xs ih=>
   intro b h;cases b with
   |nil=>exact .inr rfl
   |cons y ys=>
    by_cases hxy:x=y
    .subst hxy;rcases ih ys (fun q=>h (by exact R1 q rfl)) with z | z
     .exact .inl ((oz _ _ _ _).mpr (.inr ⟨rfl,z⟩))
     .exact .inr ((oz _ _ _ _).mpr (.inr ⟨rfl,z⟩))
    .have hne:x.toNat≠y.toNat:=fun q=>hxy (Hl.mpr q);rcases Nat.lt_or_gt_of_ne hne with z | z
     .exact .inl ((oz _ _ _ _).mpr (.inl (u8.mpr z)))
     .exact .inr ((oz _ _ _ _).mpr (.inl (u8.mpr z)))
noncomputable abbrev Nm:=List UInt8
noncomputable def ltN(st:Nm->Int)(x y:Nm): Bool:=mz (-(st x)) x (-(st y)) y
theorem sN{st:Nm->Int}{x y:Nm}: ltN st x y=true↔st y<st x\/(st x=st y/\ltB x y=true):=by
 unfold ltN mz;by_cases h:-st x=-st y
 .refine R1 (if_pos h) ?_;by_cases h2:x=y
  .subst h2;refine R1 (if_pos rfl) (R1 (qK.Cv ..) ?_);simp
  .refine R1 (if_neg h2) ?_;have:st x=st y:=by exact Int.neg_inj.mp h
   simp[this]
 .refine R1 (if_neg h) ?_;rewrite[decide_eq_true_iff];constructor
  .intro q;left;exact fA q
  .rintro(q | ⟨q,_⟩)<;>lia
theorem Dq(st:Nm->Int): Lt (ltN st):=by
 refine⟨fun a=>?_,fun a b c h1 h2=>?_,fun a b h=>?_⟩
 .cases q:ltN st a a with
  |false=>rfl
  |true=>
   rcases sN.mp q with h | h
   .lia
   .rw[qK.Cv] at h;cases h.2
 .rw[sN] at h1 h2 ⊢;rcases h1 with h1 | ⟨e1,h1⟩<;>rcases h2 with h2 | ⟨e2,h2⟩
  .left;exact ef h2 h1
  .left;exact lt_of_eq_of_lt (id (dR e2)) h1
  .left;exact lt_of_lt_of_eq h2 (id (dR e1))
  .right;exact⟨by lia,qK.tr _ _ _ h1 h2⟩
 .rw[sN,sN];by_cases e:st a=st b
  .rcases qK.tot a b h with z | z
   .exact .inl (.inr ⟨e,z⟩)
   .exact .inr (.inr ⟨e.symm,z⟩)
  .have:st b<st a\/st a<st b:=by exact Int.ne_iff_lt_or_gt.mp fun a_1=>e (id (dR a_1))
   exact this.elim (fun z=>.inl (.inl z)) fun z=>.inr (.inl z)
noncomputable def ent(st:Nm->Int)(x:Nm): V:=.tup [.int (-(st x)),.bytes x]
theorem wG{α β:Type}{f:α->β}{xs:List α}{i:Nat}(h:i<xs.length): (xs.map f)[i]?=some (f xs[i]):=by rw[aN,az h];rfl
theorem zd(st:Nm->Int): ∀(f:Nat) (xs:List Nm) (pos:Nat),pos<f->pos<xs.length->oU ltV f (xs.map (ent st)) pos=some ((Ff (ltN st) f xs pos).map (ent st))
 |0,_,_,h,_=>absurd h (gI _)
 |f+1,xs,pos,hf,hl=>by
  show(if pos=0 then _ else _)=some (eC _ (if pos=0 then _ else _));by_cases h0:pos=0
  .exact R1 (if_pos h0) (R1 (if_pos h0) rfl)
  .have hp:=mR (cV h0);have hp2:=aF hp hl;refine R1 (if_neg h0) (R1 (if_neg h0) (R1 (wG hl) (R1 (az hl) ?_)));dsimp only;refine R1 (wG hp2) (R1 (az hp2) ?_);show(if ltN st xs[pos] xs[(pos - 1) / 2]=true then _ else _)=some (eC _ (if ltN st xs[pos] xs[(pos - 1) / 2]=true then _ else _));cases ltN st xs[pos] xs[(pos - 1) / 2] with
   |true=>
    refine R1 (if_pos rfl) (R1 (if_pos rfl) (R1 (ve ..) ?_));exact zd st f _ _ (aD hp (bz hf)) ((lJ xs _ _).symm▸hp2)
   |false=>rfl
theorem yM(st:Nm->Int): ∀(f:Nat) (xs:List Nm) (pos:Nat),xs.length<f+pos->xs.length<10000->pos<xs.length->lF ltV f (xs.map (ent st)) pos=some ((qo (ltN st) f xs pos).map (ent st))
 |0,xs,pos,h1,_,h2=>absurd (aF h2 (bX pos▸h1)) (bu _)
 |f+1,xs,pos,hf,hl,hp=>by
  have go:∀{c:Nat},c<xs.length->pos<c->lF ltV f (lw (xs.map (ent st)) c pos) c=some ((qo (ltN st) f (lw xs c pos) c).map (ent st)):=fun{c} hc hpc=>by refine R1 (ve ..) ?_;have e:=lJ xs c pos;exact yM st f _ _ (e.symm▸Ln hf hpc) (e.symm▸hl) (e.symm▸hc)
  show(if pos<(xs.map (ent st)).length / 2 then(if 2*pos+1+1<(xs.map (ent st)).length then _ else _) else _)=some (eC _ (if pos<xs.length / 2 then(if 2*pos+1+1<xs.length then _ else _) else _));refine R1 (ak ..) ?_;by_cases hh:pos<xs.length / 2
  .have h1:=half_lt hh;refine R1 (if_pos hh) (R1 (if_pos hh) ?_);by_cases hr:2*pos+1+1<xs.length
   .refine R1 (if_pos hr) (R1 (if_pos hr) (R1 (wG h1) (R1 (az h1) ?_)));dsimp only;refine R1 (wG hr) (R1 (az hr) ?_);show lF ltV f (lw _ (if ltN st xs[2*pos+1] xs[2*pos+1+1]=true then _ else _) _) (if ltN st xs[2*pos+1] xs[2*pos+1+1]=true then _ else _)=some (eC _ (qo _ f (lw _ (if ltN st xs[2*pos+1] xs[2*pos+1+1]=true then _ else _) _) (if ltN st xs[2*pos+1] xs[2*pos+1+1]=true then _ else _)));cases ltN st xs[2*pos+1] xs[2*pos+1+1] with
    |true=>exact go h1 (BY _)
    |false=>exact go hr (bi (BY _))
   .refine R1 (if_neg hr) (R1 (if_neg hr) ?_);exact go h1 (BY _)
  .refine R1 (if_neg hh) (R1 (if_neg hh) ?_);exact zd st _ _ _ (aF hp hl) hp
theorem wX{st:Nm->Int}{σ:AS}{n:Nat}{q:List Nm}{v:Nm}(h:σ.heap[n]?=some (.list (q.map (ent st))))(hl:q.length<9000):
  P.heappush [.ref n,ent st v] σ=.ok .none {σ with heap:=σ.heap.set n (.list ((pushP (ltN st) q v).map (ent st)))}:=by
 unfold P.heappush;dsimp only;refine R1 h ?_
 have e:oU ltV 10000 (q.map (ent st)++[ent st v]) (q.map (ent st)).length=some ((pushP (ltN st) q v).map (ent st)):=by refine R1 (ak ..) ?_;exact(congrArg (oU ltV 10000 · _) (aS (l₂:=[v])).symm).trans (zd st _ _ _ (aF hl (by decide)) (ar (bs:=[v])▸bB _))
 refine(if_pos ?_).trans (by exact R1 e rfl);refine R1 (ak ..) ?_;exact aF hl (by decide)
theorem yw{st:Nm->Int}{σ:AS}{n:Nat}{q q':List Nm}{v:Nm}(h:σ.heap[n]?=some (.list (q.map (ent st))))(hl:q.length<9000)(hp:BU (ltN st) q=some (v,q')):
  P.heappop [.ref n] σ=.ok (ent st v) {σ with heap:=σ.heap.set n (.list (q'.map (ent st)))}:=by
 unfold P.heappop;dsimp only;refine R1 h ?_;cases q with
 |nil=>exact no hp
 |cons x us=>cases us with
  |nil=>cases hp;rfl
  |cons u us=>
   cases hp
   have e:((ent st v::ent st u::us.map (ent st)).dropLast).set 0 ((ent st v::ent st u::us.map (ent st)).getLast (bn _ _))=(((v::u::us).dropLast).set 0 ((v::u::us).getLast (bn _ _))).map (ent st):=by exact R1 gc (R1 List.map_dropLast (R2 (List.getLast_map (f:=ent st) (l:=v::u::us) (bn _ _)) rfl))
   have hlen:(((v::u::us).dropLast).set 0 ((v::u::us).getLast (bn _ _))).length=us.length+1:=cI.trans fy;have hb:us.length+1<10000:=aF (c9 hl) (by decide);have d:=yM st 10000 _ 0 (hlen.symm▸hb) (hlen.symm▸hb) (hlen.symm▸eU _);rw[←e] at d;show(match lF ltV 10000 _ 0 with | some ys=>_ | none=>_)=_;exact R1 d rfl
noncomputable def Slot.nf:Slot->Bool
 |.o7 _=>false
 |_=>true
section
variable{α β:Type}{σ σ1:AS}{H:List AO}{vs:List Slot}
theorem iN{p:P β}{f:β->P α}{b:β}{r:Res α}(h:p σ=.ok b σ1)(h2:f b σ1=r): P.bind p f σ=r:=by unfold P.bind;rw[h];exact h2
theorem lc{p:P α}{a b:α}(h:p σ=.ok a σ1)(e:a=b): p σ=.ok b σ1:=e▸h
theorem vH{p:P β}{f:β->P α}(b:β){r:Res α}(h:p σ=.ok b σ)(h2:f b σ=r): P.bind p f σ=r:=iN h h2
theorem lY{p:P β}{f:β->P α}(h:p σ=.exc σ1): P.bind p f σ=.exc σ1:=by unfold P.bind;rw[h]
theorem oD{p q:P AF}{r:Res AF}(h:p σ=.ok .next σ1)(h2:q σ1=r): P.seq p q σ=r:=iN h h2
theorem Bb{p q:P AF}{v:V}(h:p σ=.ok (.ret v) σ1): P.seq p q σ=.ok (.ret v) σ1:=iN h rfl
theorem pd{p:P α}{a:α}(h:p σ=.ok a σ1): P.nP p σ=.ok a σ1:=by unfold P.nP;rw[h]
theorem uc{p q:P AF}{f:AF}(h:p σ=.ok f σ1): P.try_ p q σ=.ok f σ1:=by unfold P.try_;rw[h]
theorem pN{p q:P AF}{r:Res AF}(h:p σ=.exc σ1)(h2:q σ1=r): P.try_ p q σ=r:=by unfold P.try_;rw[h];exact h2
theorem Ci{t:P Bool}{p q:P α}{r:Res α}{c:Bool}(h:t σ=.ok c σ)(h1:c=true->p σ=r)(h2:c=false->q σ=r): P.bind t (fun c=>if c=true then p else q) σ=r:=by
 refine iN h ?_;cases c
 .exact h2 rfl
 .exact h1 rfl
theorem oh{t:P Bool}{p q:P α}{r:Res α}(h:t σ=.ok true σ)(h1:p σ=r): P.bind t (fun c=>if c=true then p else q) σ=r:=iN h h1
theorem lP{t:P Bool}{p q:P α}{r:Res α}(h:t σ=.ok false σ)(h1:q σ=r): P.bind t (fun c=>if c=true then p else q) σ=r:=iN h h1
theorem jF{op:CmpOp}{a b:V}{c:Bool}(h:nv σ op a b=some c): P.cmp op a b σ=.ok c σ:=by unfold P.cmp;rw[h]
theorem kc{op:Operator}{a b c:Int}(h:binI op a b=some c): P.bin op (.int a) (.int b) σ=.ok (.int c) σ:=by unfold P.bin;dsimp only;rw[h]
theorem kh{i:Nat}{v:V}{s:Slot}(h:vs[i]?=some s)(hs:s.nf=true): P.kd i v ⟨H,vs⟩=.ok () ⟨H,vs.set i (.val v)⟩:=by
 unfold P.kd;dsimp only;rw[h];cases s with
 |o7 _=>cases hs
 |_=>rfl
theorem lZ{A B:P Bool}{a b:Bool}(hA:A σ=.ok a σ)(hB:a=true->B σ=.ok b σ): (A.bind fun c=>if c=true then B else P.pure false) σ=.ok (a&&b) σ:=by
 refine iN hA ?_;cases a with
 |false=>rfl
 |true=>exact hB rfl
theorem ly{A:P Bool}{a z:Bool}(hA:A σ=.ok a σ)(hz:z=true): (A.bind fun c=>if c=true then P.pure z else P.pure false) σ=.ok a σ:=by subst hz;refine iN hA ?_;cases a<;>rfl
theorem mC{A B:P Bool}{a b:Bool}(hA:A σ=.ok a σ)(hB:a=false->B σ=.ok b σ): (A.bind fun c=>if c=true then P.pure true else B) σ=.ok (a || b) σ:=by
 refine iN hA ?_;cases a with
 |true=>rfl
 |false=>exact hB rfl
theorem lC{A:P Bool}{a z:Bool}(hA:A σ=.ok a σ)(hz:z=false): (A.bind fun c=>if c=true then P.pure true else P.pure z) σ=.ok a σ:=by subst hz;refine iN hA ?_;cases a<;>rfl
theorem mu{A:P Bool}{a:Bool}(h:A σ=.ok a σ): (A.bind fun b=>P.pure !b) σ=.ok (!a) σ:=iN h rfl
theorem oA{H H':List AO}{vs vs':List Slot}{v:V}(h:H'.length=H.length): P.leave H vs v ⟨H',vs'⟩=.ok v ⟨H',vs⟩:=by unfold P.leave pG;rw[if_pos h]
theorem tL{H H':List AO}{vs vs':List Slot}(h:H'.length=H.length): P.tM H vs ⟨H',vs'⟩=.exc ⟨H',vs⟩:=by unfold P.tM leaveH;rw[if_pos h]
theorem M2{N xs:List Str}{pb:P AF}{us:List V}{v:V}{iv vs':List Slot}(hl:us.length=xs.length)(hi:jy N xs us=iv)(h:pb ⟨H,iv⟩=.ok (.ret v) ⟨H,vs'⟩): P.mQ N xs pb us ⟨H,vs⟩=.ok v ⟨H,vs⟩:=by unfold P.mQ P.fn;rw[if_pos hl,hi,h];exact oA rfl
theorem Er{γ:Type}{asg:V->P Unit}{bp:P AF}{g:α->V}{st:γ->Slot->AS}{step:γ->α->γ}: ∀{xs:List α} (b:γ) {s:Slot} (hs:s.nf=true) (turn:∀x∈xs,∀b s,s.nf=true->P.bind (asg (g x)) (fun Y=>bp) (st b s)=.ok .next (st (step b x) (.val (g x)))),
  ∃s',s'.nf=true/\P.forL asg bp (xs.map g) (st b s)=.ok .next (st (xs.foldl step b) s')
 |[],b,s,hs,_=>⟨s,hs,rfl⟩
 |x::xs,b,s,hs,turn=>by
  obtain⟨s',h1,h2⟩:=Er (xs:=xs) (asg:=asg) (bp:=bp) (g:=g) (st:=st) (step:=step) (step b x) (s:=.val (g x)) rfl fun y hy=>turn y (ad _ hy);refine⟨s',h1,?_⟩;have h3:=turn x ac b s hs;rw[aR];unfold P.forL;unfold P.bind at h3 ⊢;cases ha:asg (g x) (st b s) with
  |ok u σ3=>
   rw[ha] at h3;dsimp only at h3 ⊢;rw[h3];exact h2
  |exc _=>rw[ha] at h3;cases h3
  |stuck=>rw[ha] at h3;cases h3
noncomputable def Rt(v:V)(H:List AO)(r:Res AF): Prop:=∃vs,r=.ok (.ret v) ⟨H,vs⟩
theorem wf{N xs:List Str}{pb:P AF}{us:List V}{v:V}{iv:List Slot}(hl:us.length=xs.length)(hi:jy N xs us=iv)(h:Rt v H (pb ⟨H,iv⟩)): P.mQ N xs pb us ⟨H,vs⟩=.ok v ⟨H,vs⟩:=let ⟨_,h⟩:=h;M2 hl hi h
section
variable{Q:Res AF->Prop}{p q rest:P AF}
theorem kM{r:Res AF}(h:p σ=r)(hq:Q r): Q (p σ):=h▸hq
theorem jt(h:p σ=.ok .next σ1)(hq:Q (q σ1)): Q (P.seq p q σ):=kM (oD h rfl) hq
theorem re{v:V}(h:p σ=.ok (.ret v) σ1)(hq:Q (.ok (.ret v) σ1)): Q (P.seq p q σ):=kM (Bb h) hq
theorem qg{t:P Bool}{c:Bool}(h:t σ=.ok c σ)(h1:c=true->Q (p σ))(h2:c=false->Q (q σ)): Q (P.bind t (fun c=>if c=true then p else q) σ):=by
 refine kM (iN h rfl) ?_;cases c
 .exact h2 rfl
 .exact h1 rfl
theorem rO{γ:Type}{its:P (List V)}{asg:V->P Unit}{bp:P AF}{g:α->V}{st:γ->Slot->AS}{step:γ->α->γ}{xs:List α}(b:γ){s:Slot}(hi:its (st b s)=.ok (xs.map g) (st b s))(hs:s.nf=true)
  (turn:∀x∈xs,∀b s,s.nf=true->P.bind (asg (g x)) (fun Y=>bp) (st b s)=.ok .next (st (step b x) (.val (g x)))) (fin:∀s,s.nf=true->Q (rest (st (xs.foldl step b) s))):Q (P.seq (P.bind (P.nP its) (P.forL asg bp)) rest (st b s)):=by
 obtain⟨s',h1,h2⟩:=Er b hs turn;exact jt (iN (pd hi) h2) (fin s' h1)
@[irreducible] noncomputable def Lp(J:AS->Prop)(Q:Res AF->Prop): Res AF->Prop
 |.ok .next σ=>J σ
 |.ok .cont σ=>J σ
 |.ok .brk σ=>Q (.ok .next σ)
 |r=>Q r
@[irreducible] noncomputable def Sq(q:P AF)(Q:Res AF->Prop): Res AF->Prop
 |.ok .next σ=>Q (q σ)
 |r=>Q r
theorem mi{J:AS->Prop}(h:J σ): Lp J Q (.ok .next σ):=by unfold Lp;exact h
theorem F9{J:AS->Prop}{v:V}(h:Q (.ok (.ret v) σ)): Lp J Q (.ok (.ret v) σ):=by unfold Lp;exact h
theorem qW(h:Q (q σ)): Sq q Q (.ok .next σ):=by unfold Sq;exact h
theorem BF{v:V}(h:Q (.ok (.ret v) σ)): Sq q Q (.ok (.ret v) σ):=by unfold Sq;exact h
theorem qG(h:Sq q Q (p σ)): Q (P.seq p q σ):=by
 unfold Sq at h;unfold P.seq P.bind;cases hp:p σ with
 |stuck=>rw[hp] at h;exact h
 |exc _=>rw[hp] at h;exact h
 |ok f σ1=>
  rw[hp] at h;cases f<;>exact h
theorem kW{β:Type}{p:P β}{f:β->P AF}{b:β}(h:p σ=.ok b σ1)(hq:Q (f b σ1)): Q (P.bind p f σ):=kM (iN h rfl) hq
theorem C9{β:Type}{p:P β}{f:β->P AF}(b:β)(h:p σ=.ok b σ)(hq:Q (f b σ)): Q (P.bind p f σ):=kM (iN h rfl) hq
theorem Kq{t:P Bool}(h:t σ=.ok true σ)(hq:Q (p σ)): Q (P.bind t (fun c=>if c=true then p else q) σ):=kM (oh h rfl) hq
theorem IH{t:P Bool}(h:t σ=.ok false σ)(hq:Q (q σ)): Q (P.bind t (fun c=>if c=true then p else q) σ):=kM (lP h rfl) hq
theorem rM{asg:V->P Unit}{bp:P AF}{g:α->V}(I:List α->AS->Prop)(turn:∀x xs σ,I (x::xs) σ->Lp (I xs) Q (P.bind (asg (g x)) (fun Y=>bp) σ))(fin:∀σ,I [] σ->Q (.ok .next σ)): ∀l σ,I l σ->Q (P.forL asg bp (l.map g) σ)
 |[],σ,h=>fin σ h
 |x::l,σ,h=>by
  have h1:=turn x l σ h;unfold Lp at h1;rw[aR];unfold P.forL;unfold P.bind at h1 ⊢;cases ha:asg (g x) σ with
  |stuck=>rw[ha] at h1;exact h1
  |exc _=>rw[ha] at h1;exact h1
  |ok u σ3=>
   rw[ha] at h1;dsimp only at h1 ⊢;cases hb:bp σ3 with
   |stuck=>rw[hb] at h1;exact h1
   |exc _=>rw[hb] at h1;exact h1
   |ok f J9=>
    rw[hb] at h1;cases f with
    |next=>exact rM I turn fin l J9 h1
    |cont=>exact rM I turn fin l J9 h1
    |brk=>exact h1
    |ret v=>exact h1
theorem mt{its:P (List V)}{asg:V->P Unit}{bp:P AF}{g:α->V}{xs:List α}(I:List α->AS->Prop)(h0:I xs σ)(hi:its σ=.ok (xs.map g) σ)
  (turn:∀x xs σ,I (x::xs) σ->Lp (I xs) Q (P.bind (asg (g x)) (fun Y=>bp) σ)) (fin:∀σ,I [] σ->Q (.ok .next σ)):Q (P.bind (P.nP its) (P.forL asg bp) σ):=
 kM (iN (pd hi) rfl) (rM I turn fin xs σ h0)
end
theorem nZ{g:α->V}(T:α->Bool){Ev:α->V}{cap:List (Option (Nat×Bool))}{its:P (List V)}{test:P Bool}{ep:P V}{xs:List α}{s0 s1:Slot}(fr:List Slot)
  (hits:its ⟨H,vs⟩=.ok (xs.map g) ⟨H,vs⟩) (hcap:kI cap vs=s0::s1::fr) (hs:s1.nf=true)
  (ht:∀x∈xs,test ⟨H,s0::.val (g x)::fr⟩=.ok (T x) ⟨H,s0::.val (g x)::fr⟩)
  (he:∀x∈xs,T x=true->ep ⟨H,s0::.val (g x)::fr⟩=.ok (Ev x) ⟨H,s0::.val (g x)::fr⟩)
  (hl:xs.length<=1000000):P.mI cap its (fun x=>P.kd 1 x) test (P.mU ep) ⟨H,vs⟩=.ok (.lst ((xs.filter T).map Ev)) ⟨H,vs⟩:=by
 have go:∀(l:List α) (acc:List V) (s1:Slot),s1.nf=true->(∀x∈l,x∈xs)->∃s1',P.lg (fun x=>P.kd 1 x) test (P.mU ep) (l.map g) acc ⟨H,s0::s1::fr⟩=.ok (acc++(l.filter T).map Ev) ⟨H,s0::s1'::fr⟩:=by
  intro l
  induction l with
  |nil=>intro acc s1 _ _;exact⟨s1,congrArg (Res.ok · _) (ba acc).symm⟩
  |cons x l ih=>
   intro acc s1 hs hm;have hx:=hm x ac;have hm':∀y∈l,y∈xs:=fun y hy=>hm y (ad _ hy);rw[aR,dk];unfold P.lg;cases q:T x with
   |true=>
    obtain⟨s',h⟩:=ih (acc++[Ev x]) (.val (g x)) rfl hm';refine⟨s',iN (kh rfl hs) (iN (ht x hx) ?_)⟩;rw[q,if_pos rfl,if_pos rfl,aR];refine iN (iN (he x hx q) rfl) ?_;rw[h,ax];rfl
   |false=>
    obtain⟨s',h⟩:=ih acc (.val (g x)) rfl hm';refine⟨s',iN (kh rfl hs) (iN (ht x hx) ?_)⟩;rw[q,if_neg (by decide),if_neg (by decide)];exact h
 obtain⟨s',h⟩:=go xs [] s1 hs fun Y h=>h;unfold P.mI;rw[hits];dsimp only;rw[hcap,h,ci];exact if_pos (ab (aE (ak ..)) (ab (bJ _ _) hl))
noncomputable def uY(H:List AO)(v:V)(us:List V): Prop:=∀vs,jz ⟨H,vs⟩ v=some us
theorem uY.len{v:V}{us:List V}(h:uY H v us): lenOf ⟨H,vs⟩ v=some us.length:=by
 have h:=h vs;cases v with
 |tup _=>cases h
 |_=>exact(congrArg (gS cB) h)
theorem lb{v:V}{us:List V}{k:Nat}{u:V}(h:uY H v us)(hk:us[k]?=some u): P.index v (.int (k:Int)) ⟨H,vs⟩=.ok u ⟨H,vs⟩:=by
 have h:=h vs
 have e:P.index v (.int (k:Int)) ⟨H,vs⟩=match jz ⟨H,vs⟩ v with
   |some us=>if 0<=(k:Int) then(match us[(k:Int).toNat]? with | some v=>.ok v ⟨H,vs⟩ | none=>.stuck) else .stuck
   |none=>.stuck:=by
  cases v with
  |tup _=>cases h
  |_=>rfl
 rw[e,h];dsimp only;rw[if_pos (bP k),cg,hk]
theorem ty:∀(n:Nat) (a:Int),oW a 1 n=(aX n).map fun(i:Nat)=>V.int (a+i)
 |0,a=>rfl
 |n+1,a=>by
  unfold oW;rw[ty n (a+1),e9,aR,bA];congr 1
  .simp
  .exact bS fun i Y=>congrArg V.int (by simp;lia)
theorem Gn(n:Nat): (if(0:Int)<n then(n:Int) else 0)=n:=by
 cases n with
 |zero=>rfl
 |succ n=>exact if_pos (bD.mpr (bE n))
theorem M1{n:Nat}(hn:n<=100000): P.items (.rng 0 (n:Int) 1) σ=.ok ((aX n).map fun(i:Nat)=>V.int (i:Int)) σ:=by
 have e:iC.Range.rangeSize 0 (n:Int) 1=n:=by unfold iC.Range.rangeSize;rw[if_pos (by decide)];show(if(0:Int)<n then((n:Int) - 0 - 1) / 1+1 else 0)=_;rw[Int.sub_zero,Int.ediv_one,eD];exact Gn n
 unfold P.items;dsimp only;rw[e,cg,ty,if_pos ⟨by unfold iC.Range.small;rw[e];unfold iC.Range.rangeFitsLong;simp;lia,bP n⟩];exact congrArg (fun l=>Res.ok l σ) (bS fun i Y=>congrArg V.int (Int.zero_add _))
theorem JB{n:Nat}(hn:n<=100000): P.items (.rng ((n:Int) - 1) (-1) (-1)) σ=.ok ((aX n).reverse.map fun(i:Nat)=>V.int (i:Int)) σ:=by
 have e:iC.Range.rangeSize ((n:Int) - 1) (-1) (-1)=n:=by
  unfold iC.Range.rangeSize;rw[if_neg (by decide)];show(if(-1:Int)<(n:Int) - 1 then((n:Int) - 1 - -1 - 1) / 1+1 else 0)=_;rw[Int.sub_neg,eD,Int.ediv_one,eD];cases n with
  |zero=>rfl
  |succ n=>exact if_pos (Int.sub_lt_sub_right (bD.mpr (bE n)) 1)
 have e2:∀m:Nat,oW ((m:Int) - 1) (-1) m=(aX m).reverse.map fun(i:Nat)=>V.int (i:Int):=fun m=>by
  induction m with
  |zero=>rfl
  |succ m ih=>
   rw[gJ,d8,fj,fu,aR,←ih];rw[show((m+1:Nat):Int) - 1=(m:Int) by exact Int.sub_eq_iff_eq_add.mpr rfl];show V.int (m:Int)::oW ((m:Int)+-1) (-1) m=_;rw[show(m:Int)+-1=(m:Int) - 1 by exact Int.add_neg_one ↑m]
 unfold P.items;dsimp only;rw[e,cg,e2,if_pos ⟨by unfold iC.Range.small;rw[e];unfold iC.Range.rangeFitsLong;simp;lia,bP n⟩];rfl
theorem lK{n:Nat}{e:P V}(hn:n<=100000)(h:e ⟨H,vs⟩=.ok (.int n) ⟨H,vs⟩): (((e.bind fun v=>(P.pure []).bind fun vs=>P.pure (v::vs)).bind fun x=>P.range x).bind P.items) ⟨H,vs⟩=.ok ((aX n).map fun(k:Nat)=>V.int (k:Int)) ⟨H,vs⟩:=
 iN (iN (iN h rfl) rfl) (M1 hn)
end
noncomputable def nats(l:List Nat): List V:=l.map fun(n:Nat)=>V.int (n:Int)
theorem oy(l:List Nat): (nats l).length=l.length:=ak ..
theorem p9{l:List Nat}{k:Nat}(h:k<l.length): (nats l)[k]?=some (.int ((l.getD k 0:Nat):Int)):=by unfold nats;rw[aN,a7,az h];rfl
theorem xp(a b:Nat): iC.bitAnd (a:Int) (b:Int)=((a&&& b:Nat):Int):=by unfold iC.bitAnd;simp
theorem uq(b:Nat): -(b:Int) - 1=Int.negSucc b:=by rw[Int.negSucc_eq,Int.neg_add];rfl
theorem xo(b:Nat): decide (0<= -(b:Int) - 1)=false:=by rw[uq];rfl
theorem ur(b:Nat): (-(-(b:Int) - 1) - 1).toNat=b:=by rw[uq];show(((b:Int)+1) - 1).toNat=b;rw[ew];rfl
theorem Dd(a b:Nat): iC.bitOr (a:Int) (b:Int)=((a|||b:Nat):Int):=by unfold iC.bitOr iC.bitAnd iC.bitNot;rw[xo a,xo b];dsimp only;rw[ur,ur,uq];exact ew ((a|||b:Nat):Int) 1
theorem Fz(a k:Nat): (a:Int).fdiv (2 ^ k)=((a>>>k:Nat):Int):=by
 rw[Int.fdiv_eq_ediv_of_nonneg _ (by exact Int.pow_nonneg (by decide)),Nat.shiftRight_eq_div_pow]
 norm_cast
theorem JJ(a k:Nat): (iC.bitAnd ((a>>>k:Nat):Int) 1 == 1)=a.testBit k:=by rw[show(1:Int)=((1:Nat):Int) from rfl,xp];unfold Nat.testBit;rw[gf,Nat.one_and_eq_mod_two];rcases(show(a>>>k) % 2=0\/(a>>>k) % 2=1 by exact cE (a>>>k)) with h | h<;>rw[h]<;>rfl
theorem FC(k:Nat): (1:Int)*(2:Int) ^ k=((1<<<k:Nat):Int):=by rw[cO,Int.one_mul];norm_cast
theorem FA(a k:Nat): binI .RShift (a:Int) (k:Int)=some ((a>>>k:Nat):Int):=by unfold binI;dsimp only;rw[if_pos (bP k),cg,Fz]
theorem qe(a k:Nat): binI .BitAnd (a:Int) (k:Int)=some ((a&&& k:Nat):Int):=congrArg some (xp a k)
theorem pE(a k:Nat): binI .BitOr (a:Int) (k:Int)=some ((a|||k:Nat):Int):=congrArg some (Dd a k)
theorem lB(k:Nat)(h:k<=1000): binI .LShift 1 (k:Int)=some ((1<<<k:Nat):Int):=by unfold binI;dsimp only;rw[if_pos ⟨bP k,by lia,by decide⟩,cg,FC]
section
variable{A B:P V}{m k:Nat}{H:List AO}{vs:List Slot}
theorem Ew(hA:A ⟨H,vs⟩=.ok (.int m) ⟨H,vs⟩)(hB:B ⟨H,vs⟩=.ok (.int k) ⟨H,vs⟩):
  ((((A.bind fun a=>B.bind fun b=>P.bin .RShift a b).bind fun a=>(P.pure (.int 1)).bind fun b=>P.bin .BitAnd a b)):P V) ⟨H,vs⟩=.ok (.int (iC.bitAnd ((m>>>k:Nat):Int) 1)) ⟨H,vs⟩:=iN (iN hA (iN hB (kc (FA m k)))) rfl
theorem pf(hA:A ⟨H,vs⟩=.ok (.int m) ⟨H,vs⟩)(hB:B ⟨H,vs⟩=.ok (.int k) ⟨H,vs⟩):
  ((((A.bind fun a=>B.bind fun b=>P.bin .RShift a b).bind fun a=>(P.pure (.int 1)).bind fun b=>P.bin .BitAnd a b).bind fun a=>(P.pure (.int 1)).bind fun b=>P.cmp .Eq a b):P Bool) ⟨H,vs⟩=.ok (m.testBit k) ⟨H,vs⟩:=
 iN (Ew hA hB) (jF (op:=.Eq) (a:=.int _) (b:=.int 1) (congrArg some (JJ m k)))
theorem G8(a k:Nat): (iC.bitAnd ((a>>>k:Nat):Int) 1 == 0)=!a.testBit k:=by rw[show(1:Int)=((1:Nat):Int) from rfl,xp];unfold Nat.testBit;rw[gf 1,Nat.and_one_is_mod];rcases(show(a>>>k) % 2=0\/(a>>>k) % 2=1 by exact cE (a>>>k)) with h | h<;>rw[h]<;>rfl
theorem ue(hA:A ⟨H,vs⟩=.ok (.int m) ⟨H,vs⟩)(hB:B ⟨H,vs⟩=.ok (.int k) ⟨H,vs⟩):
  ((((A.bind fun a=>B.bind fun b=>P.bin .RShift a b).bind fun a=>(P.pure (.int 1)).bind fun b=>P.bin .BitAnd a b).bind fun a=>(P.pure (.int 0)).bind fun b=>P.cmp .Eq a b):P Bool) ⟨H,vs⟩=.ok (!m.testBit k) ⟨H,vs⟩:=
 iN (Ew hA hB) (jF (op:=.Eq) (a:=.int _) (b:=.int 0) (congrArg some (G8 m k)))
theorem sw{R:V}{l:List Nat}{e:P (List V)}(hR:uY H R (nats l))(h:e ⟨H,vs⟩=.ok [R] ⟨H,vs⟩): (e.bind fun x=>P.len x) ⟨H,vs⟩=.ok (.int l.length) ⟨H,vs⟩:=
 iN h (by unfold P.len;dsimp only;rw[hR.len,oy])
end
noncomputable def mS(rs:List Nat)(w f k:Nat): Nat:=if f.testBit k=true then f|||(rs.getD k 0&&& w) else f
noncomputable def dn(f:Nat)(rs:List Nat)(w:Nat): Nat:=(aX rs.length).reverse.foldl (mS rs w) (f&&& w)
noncomputable def nx(f:Nat)(rs:List Nat): Nat:=(aX rs.length).foldl (fun out k=>if f.testBit k=true then out|||rs.getD k 0 else out) 0
noncomputable def Down(rs:List Nat): Prop:=∀k e,(rs.getD k 0).testBit e=true->e<k
noncomputable def lu(rs:List Nat)(k:Nat): List Nat:=(aX k).filter fun e=>(rs.getD k 0).testBit e
theorem ln{rs:List Nat}(h:Down rs){k e:Nat}: e∈lu rs k↔(rs.getD k 0).testBit e=true:=by unfold lu;simp only[bC,a6];exact⟨fun q=>q.2,fun q=>⟨h k e q,q⟩⟩
theorem w5{rs:List Nat}{k e:Nat}(h:(rs.getD k 0).testBit e=true): k<rs.length:=by
 rcases di k rs.length with q | q
 .exact q
 .rw[a7,cm q] at h;simp at h
theorem JF{rs:List Nat}(hd:Down rs)(f w:Nat): ∀(m n:Nat),n+m=rs.length->
  (∀g:Nat,(∀k,g.testBit k=true->∃x,f.testBit x=true/\Way (lu rs) (fun y=>w.testBit y=true) x k)->(∀k,(f&&& w).testBit k=true->g.testBit k=true)->
   (∀j,n<=j->g.testBit j=true->∀e,(rs.getD j 0).testBit e=true->w.testBit e=true->g.testBit e=true)->
   let r:=(aX n).reverse.foldl (mS rs w) g
   (∀k,r.testBit k=true->∃x,f.testBit x=true/\Way (lu rs) (fun y=>w.testBit y=true) x k)/\(∀k,(f&&& w).testBit k=true->r.testBit k=true)/\
   (∀j,r.testBit j=true->∀e,(rs.getD j 0).testBit e=true->w.testBit e=true->r.testBit e=true)):=by
 intro m n
 induction n generalizing m with
 |zero=>intro _ g h1 h2 h3;exact⟨h1,h2,fun j=>h3 j (bt _)⟩
 |succ n ih=>
  intro hm g h1 h2 h3;refine R1 gJ (R1 d8 (R1 fj (R1 fu (R1 dt ?_))));refine ih (m+1) (by lia) (mS rs w g n) (fun k hk=>?_) (fun k hk=>?_) fun j hj hg e he hw=>?_
  .unfold mS at hk;split at hk
   .rename_i Jk;rw[bG,bj,bQ,aW] at hk;rcases hk with hk | ⟨hk1,hk2⟩
    .exact h1 k hk
    .obtain⟨x,hx,hw⟩:=h1 n Jk;exact⟨x,hx,.step hw ((ln hd).mpr hk1) hk2⟩
   .exact h1 k hk
  .have:=h2 k hk;unfold mS;split
   .exact R1 (bG ..) (R1 this (R1 (eh ..) rfl))
   .exact this
  .have up:∀k,g.testBit k=true->(mS rs w g n).testBit k=true:=fun k hk=>by
    unfold mS;split
    .exact R1 (bG ..) (R1 hk (R1 (eh ..) rfl))
    .exact hk
   have old:g.testBit j=true:=by
    unfold mS at hg;split at hg
    .rw[bG,bj,bQ,aW] at hg;rcases hg with hg | ⟨hg,_⟩
     .exact hg
     .have:=hd n j hg;lia
    .exact hg
   by_cases hjn:j=n
   .subst hjn;unfold mS;refine R1 (if_pos old) (R1 (bG ..) (R1 (bQ ..) (R1 he (R1 hw ?_))));simp
   .exact up e (h3 j (by lia) old e he hw)
theorem xi{rs:List Nat}(hd:Down rs)(f w k:Nat): (dn f rs w).testBit k=true↔∃x,f.testBit x=true/\Way (lu rs) (fun y=>w.testBit y=true) x k:=by
 obtain⟨h1,h2,h3⟩:=JF hd f w 0 rs.length rfl (f&&& w) (fun k hk=>by rw[bQ,aW] at hk;exact⟨k,hk.1,.refl hk.2⟩) (fun k hk=>hk) fun j hj Y e he=>absurd (w5 he) (by exact cP.mpr hj)
 refine⟨h1 k,?_⟩;rintro⟨x,hx,hw⟩
 induction hw with
 |refl h=>exact h2 _ (by exact R1 (bQ ..) (R1 hx (R1 h rfl)))
 |step w1 hz hs ih=>exact h3 _ ih _ ((ln hd).mp hz) hs
theorem wq(f:Nat)(rs:List Nat)(e:Nat): (nx f rs).testBit e=true↔∃k,f.testBit k=true/\(rs.getD k 0).testBit e=true:=by
 have:∀(l:List Nat) (g:Nat),(l.foldl (fun out k=>if f.testBit k=true then out|||rs.getD k 0 else out) g).testBit e=true↔g.testBit e=true\/∃k∈l,f.testBit k=true/\(rs.getD k 0).testBit e=true:=by
  intro l
  induction l with
  |nil=>intro g;simp
  |cons x l ih=>
   intro g;refine R1 dt ?_;rewrite[ih];by_cases hx:f.testBit x=true
   .refine R1 (if_pos hx) (R1 (bG ..) (R1 (bj ..) ?_));constructor
    .rintro((h | h) | ⟨k,h1,h2⟩)
     .exact .inl h
     .exact .inr ⟨x,ac,hx,h⟩
     .exact .inr ⟨k,ad _ h1,h2⟩
    .rintro(h | ⟨k,h1,h2,h3⟩)
     .exact .inl (.inl h)
     .rcases av.mp h1 with rfl | h1
      .exact .inl (.inr h3)
      .exact .inr ⟨k,h1,h2,h3⟩
   .refine R1 (if_neg hx) ?_;constructor
    .rintro(h | ⟨k,h1,h2⟩)
     .exact .inl h
     .exact .inr ⟨k,ad _ h1,h2⟩
    .rintro(h | ⟨k,h1,h2,h3⟩)
     .exact .inl h
     .rcases av.mp h1 with rfl | h1
      .exact absurd h2 hx
      .exact .inr ⟨k,h1,h2,h3⟩
 unfold nx;rw[this];simp only[dl,cq,false_or,a6];exact⟨fun⟨k,_,h⟩=>⟨k,h⟩,fun⟨k,h⟩=>⟨k,w5 h.2,h⟩⟩
noncomputable def every(n:Nat): Nat:=1<<<n - 1
theorem rQ(n k:Nat): (every n).testBit k=decide (k<n):=by unfold every;exact R1 (cO ..) (R1 (Nat.testBit_two_pow_sub_one ..) rfl)
theorem Ax(n:Nat): binI .Sub ((1<<<n:Nat):Int) 1=some ((every n:Nat):Int):=by
 unfold binI every;have:0<1<<<n:=by refine R1 (cO ..) ?_;exact Nat.two_pow_pos n
 exact congrArg some (ct this).symm
noncomputable def jo(a b:Nat)(rs:List Nat): Nat:=dn a rs (every rs.length)&&& dn b rs (every rs.length)
noncomputable def AI(p:Int×Nm): V:=.tup [.int p.1,.bytes p.2]
noncomputable def rks(l:List (Int×Nm)): List V:=l.map AI
noncomputable def qE(l:List (Int×Nm))(j k:Nat): Bool:=mz (l.getD j (0,[])).1 (l.getD j (0,[])).2 (l.getD k (0,[])).1 (l.getD k (0,[])).2
theorem pZ{l:List (Int×Nm)}{k:Nat}(h:k<l.length): (rks l)[k]?=some (AI (l.getD k (0,[]))):=by unfold rks;refine R1 aN (R1 (az h) ?_);simp[a7,az h]
theorem FJ(l:List (Int×Nm)): (rks l).length=l.length:=by simp[rks]
noncomputable def ahead(rk:List (Int×Nm))(k:Nat): Nat:=(aX rk.length).foldl (fun out j=>if qE rk j k=true then out|||1<<<j else out) 0
theorem rX(rk:List (Int×Nm))(k j:Nat): (ahead rk k).testBit j=true↔j<rk.length/\qE rk j k=true:=by
 have:∀(l:List Nat) (g:Nat),(l.foldl (fun out j=>if qE rk j k=true then out|||1<<<j else out) g).testBit j=true↔g.testBit j=true\/(j∈l/\qE rk j k=true):=by
  intro l
  induction l with
  |nil=>intro g;simp
  |cons x l ih=>
   intro g;refine R1 dt ?_;rewrite[ih];by_cases hx:qE rk x k=true
   .refine R1 (if_pos hx) (R1 (bG ..) (R1 (cO ..) (R1 eb (R1 (bj ..) ?_))));rewrite[decide_eq_true_iff];constructor
    .rintro((h | rfl) | ⟨h1,h2⟩)
     .exact .inl h
     .exact .inr ⟨ac,hx⟩
     .exact .inr ⟨ad _ h1,h2⟩
    .rintro(h | ⟨h1,h2⟩)
     .exact .inl (.inl h)
     .rcases av.mp h1 with rfl | h1
      .exact .inl (.inr rfl)
      .exact .inr ⟨h1,h2⟩
   .refine R1 (if_neg hx) ?_;constructor
    .rintro(h | ⟨h1,h2⟩)
     .exact .inl h
     .exact .inr ⟨ad _ h1,h2⟩
    .rintro(h | ⟨h1,h2⟩)
     .exact .inl h
     .rcases av.mp h1 with rfl | h1
      .exact absurd h2 hx
      .exact .inr ⟨h1,h2⟩
 unfold ahead;rw[this];simp
noncomputable def pa(k a b:Nat)(rs:List Nat)(rk:List (Int×Nm)): Bool:=(nx (dn a rs (ahead rk k)&&& dn b rs (ahead rk k)) rs).testBit k
noncomputable def tp(m:Nat)(rs:List Nat): List Nat:=(aX rs.length).filter fun k=>m.testBit k&&!(nx m rs).testBit k
theorem An(a b:Nat): iC.bitAnd (a:Int) (iC.bitNot (b:Int))=((a - (a&&& b):Nat):Int):=by unfold iC.bitAnd iC.bitNot;have h2:=xo b;have h1:decide (0<=(a:Int))=true:=decide_eq_true (by exact bP a);simp only[h1,h2];have e2:=ur b;refine R1 e2 (R1 (cg ..) ?_);have:a&&& b<=a:=Nat.and_le_left;exact dR (ct this)
theorem DX{x y a:Nat}(h1:x / 2+y / 2=a / 2)(h2:x % 2+y % 2=a % 2): x+y=a:=by have hx:=d5 x 2;have hy:=d5 y 2;rw[←hx,←hy,dY,←Nat.mul_add,h1,h2,d5]
theorem xA:∀(n a b:Nat),a<2 ^ n->(a^^^(a&&& b))+(a&&& b)=a:=by
 intro n
 induction n with
 |zero=>
  intro a b h;have:a=0:=by exact gT.mp h
  subst this;simp
 |succ n ih=>
  intro a b h;have h1:=ih (a / 2) (b / 2) (Nat.div_lt_of_lt_mul (eg (2 ^ n) 2▸h));have e1:(a^^^(a&&& b)) / 2=(a / 2)^^^(a / 2&&& b / 2):=by exact R1 Nat.xor_div_two (R1 gK rfl)
  have e2:(a&&& b) / 2=a / 2&&& b / 2:=gK
  have t:∀x:Nat,x % 2=(x.testBit 0).toNat:=fun x=>by
   refine R1 (Nat.testBit_zero ..) ?_;have h:x % 2=0\/x % 2=1:=by exact cE x
   rcases h with h | h<;>rw[h]<;>rfl
  have e3:(a^^^(a&&& b)) % 2+(a&&& b) % 2=a % 2:=by refine R1 (t (a^^^(a&&& b))) (R1 (t (a&&& b)) (R1 (t a) (R1 (gL ..) (R1 (bQ ..) ?_))));cases a.testBit 0<;>cases b.testBit 0<;>rfl
  exact DX (e1▸e2▸h1) e3
theorem Ao(a b k:Nat): (a - (a&&& b)).testBit k=(a.testBit k&&!b.testBit k):=by
 have h:=xA a a b Nat.lt_two_pow_self;have e:a - (a&&& b)=a^^^(a&&& b):=by exact dR (Nat.eq_sub_of_add_eq h)
 refine R1 e (R1 (gL ..) (R1 (bQ ..) ?_));cases a.testBit k<;>cases b.testBit k<;>rfl
noncomputable def fa(f:Nat)(rs:List Nat)(rk:List (Int×Nm)): Bool:=(aX rs.length).all fun k=>!f.testBit k || (aX k).all fun e=>!((rs.getD k 0).testBit e&&qE rk e k)
theorem D9{f:Nat}{rs:List Nat}{rk:List (Int×Nm)}: fa f rs rk=true↔∀k,k<rs.length->f.testBit k=true->∀e,e<k->(rs.getD k 0).testBit e=true->qE rk e k=false:=by
 unfold fa;simp only[bl,a6,bj,bx,Bool.and_eq_false_iff];constructor
 .intro h k hk hf e he hb;rcases h k hk with q | q
  .rw[hf] at q;cases q
  .rcases q e he with z | z
   .rw[hb] at z;cases z
   .exact z
 .intro h k hk;by_cases hf:f.testBit k=true
  .right;intro e he;by_cases hb:(rs.getD k 0).testBit e=true
   .exact .inr (h k hk hf e he hb)
   .exact .inl (by simpa using hb)
  .exact .inl (by simpa using hf)
theorem Bo{α:Type}[BEq α][LawfulBEq α][DecidableEq α](x y:α): (x == y)=decide (x=y):=by
 by_cases h:x=y
 .refine R1 (decide_eq_true h) ?_;exact beq_iff_eq.mpr h
 .refine R1 (decide_eq_false h) ?_;exact beq_eq_false_iff_ne.mpr h
theorem Ar(n:Nat)(a b:Int): veq n (.int a) (.int b)=some (decide (a=b)):=by refine R2 (Bo ..) ?_;cases n<;>rfl
theorem u0(n:Nat)(a b:Nm): veq n (.bytes a) (.bytes b)=some (decide (a=b)):=by refine R2 (Bo ..) ?_;cases n<;>rfl
section
variable{α:Type}[DecidableEq α]{f:V->V->Option Bool}{g:α->V}
theorem zip_map(hg:∀x y,f (g x) (g y)=some (decide (x=y))): ∀(a b:List α),a.length=b.length->(lM (dh f (a.map g) (b.map g))).map (fun l=>l.all id)=some (decide (a=b))
 |[],[],_=>rfl
 |x::a,y::b,h=>by
  obtain⟨l,h1,h2⟩:=aV.mp (zip_map hg a b (dp.inj h));refine R1 aR (R1 aR (R1 List.zipWith_cons_cons (R1 (hg ..) ?_)));show((lM _).map _).map _=_;refine R1 h1 ?_;show some (decide (x=y)&&l.all id)=_;refine R1 h2 (R2 (Bool.decide_and ..) ?_);exact congrArg some (decide_eq_decide.mpr List.cons_eq_cons.symm)
theorem qV(hg:∀x y,f (g x) (g y)=some (decide (x=y)))(a b:List α): vV f true (a.map g) (b.map g)=some (decide (a=b)):=by
 unfold vV;refine R1 (ak ..) (R1 (ak ..) ?_);by_cases h:a.length=b.length
 .refine R1 (if_pos h) ?_;exact zip_map hg a b h
 .exact R1 (if_neg h) (R1 (decide_eq_false fun e=>h (congrArg _ e)) rfl)
theorem wU[BEq α][LawfulBEq α]{k:α}(hg:∀x,f (g x) (g k)=some (decide (x=k))): ∀l:List α,(lM ((l.map g).map fun u=>f u (g k))).map (fun l=>l.any id)=some (decide (k∈l))
 |[]=>rfl
 |x::l=>by
  obtain⟨p,h1,h2⟩:=aV.mp (wU hg l);rw[aR,aR,hg];show((lM _).map _).map _=_;refine R1 h1 ?_;show some (decide (x=k) || p.any id)=_;refine R1 h2 (R2 (Bool.decide_or ..) ?_);exact congrArg some (decide_eq_decide.mpr ((or_congr_left eq_comm).trans av.symm))
end
theorem CA(n:Nat)(a b:List Int): veq (n+1) (.lst (a.map V.int)) (.lst (b.map V.int))=some (decide (a=b)):=qV (Ar n) a b
theorem Aq(n:Nat)(a b:Nat): veq n (.int (a:Int)) (.int (b:Int))=some (decide (a=b)):=by refine R1 (Ar ..) ?_;exact congrArg some (decide_eq_decide.mpr gW)
theorem Dk(l:List Nat): nats l=(l.map fun(n:Nat)=>(n:Int)).map V.int:=by unfold nats;exact R1 bA rfl
theorem pQ{σ:AS}(a b:List Nat): nv σ .Eq (.lst (nats a)) (.lst (nats b))=some (decide (a=b)):=qV (Aq 4) a b
theorem A0{σ:AS}(k:Nat)(l:List Nat): inV σ (.int (k:Int)) (.lst (nats l))=some (decide (k∈l)):=wU (g:=fun n:Nat=>V.int (n:Int)) (fun x=>Aq 4 x k) l
theorem qP{σ:AS}(k:Nat)(l:List Nat): nv σ .In (.int (k:Int)) (.lst (nats l))=some (decide (k∈l)):=by show inV σ (.int (k:Int)) (.lst (nats l))=_;exact A0 k l
theorem oG{σ:AS}(k:Nat)(l:List Nat): nv σ .NotIn (.int (k:Int)) (.lst (nats l))=some (!decide (k∈l)):=by show(inV σ (.int (k:Int)) (.lst (nats l))).map not=_;exact R1 (A0 ..) rfl
theorem tg(vs:List V): oQ vs (some 1) none=vs.drop 1:=by
 unfold oQ clipAt;simp only[Option.elim];cases vs with
 |nil=>rfl
 |cons x vs=>
  have:(max 0 (min (if(1:Int)<0 then 1+((x::vs).length:Int) else 1) ((x::vs).length:Int))).toNat=1:=by simp only[bd];split<;>lia
  refine R1 this ?_;simp
theorem yr(l:List Nat): intsOf (nats l)=some (l.map fun(n:Nat)=>(n:Int)):=by
 induction l with
 |nil=>rfl
 |cons x l ih=>
  show(intsOf (nats l)).map _=_;exact R1 ih rfl
theorem ri:∀(l:List Nat),pairsOf (nats l) ((nats l).drop 1)=(l.zip (l.drop 1)).map fun p=>V.tup [.int (p.1:Int),.int (p.2:Int)]
 |[]=>rfl
 |[x]=>rfl
 |x::y::l=>by
  have:=ri (y::l);show V.tup _::pairsOf (nats (y::l)) ((nats (y::l)).drop 1)=_;exact R1 this rfl
structure uH(spots rs:List Nat)(rk:List (Int×Nm))(one two:Nat): Prop where
 lt:∀k∈spots,k<rs.length
 len:spots.length<64
 sorted:∀p∈spots.zip (spots.drop 1),¬ (rk.getD p.1 (0,[])).1<(rk.getD p.2 (0,[])).1
 fair:fa (dn (one|||two) rs (every rs.length)) rs rk=true->sortI (spots.map fun(n:Nat)=>(n:Int))=(tp (jo one two rs) rs).map fun(n:Nat)=>(n:Int)
 nodup:spots.Nodup
 joint:∀k∈spots,(jo one two rs).testBit k=true
 free:∀k∈spots,k∉tp (jo one two rs) rs->pa k one two rs rk=false
 tops:∀k∈tp (jo one two rs) rs,k∈spots
 apart:∀x∈spots,∀y∈spots,(rs.getD x 0).testBit y=false
noncomputable def al(a one two:Nat)(rs:List Nat)(rk:List (Int×Nm)): Bool:=
 (jo one two rs).testBit a&&decide ((aX rs.length).filter (fun k=>decide (k≠a)&&((jo one two rs).testBit k&&!pa k one two rs rk))=[])
theorem JL{a one two:Nat}{rs:List Nat}{rk:List (Int×Nm)}: al a one two rs rk=true↔(jo one two rs).testBit a=true/\∀k,k<rs.length->k≠a->(jo one two rs).testBit k=true->pa k one two rs rk=true:=by
 unfold al;refine R1 (aW ..) ?_;rewrite[decide_eq_true_iff,cZ];simp only[a6,aW,decide_eq_true_iff,bx];constructor
 .rintro⟨h1,h2⟩;refine⟨h1,fun k hk hne hj=>?_⟩;cases q:pa k one two rs rk with
  |true=>rfl
  |false=>exact(h2 k hk ⟨hne,hj,q⟩).elim
 .rintro⟨h1,h2⟩;refine⟨h1,fun k hk ⟨hne,hj,hp⟩=>?_⟩;rw[h2 k hk hne hj] at hp;cases hp
theorem ul{σ:AS}(a b:Nat): nv σ .NotEq (.int (a:Int)) (.int (b:Int))=some (decide (a≠b)):=by
 show some (((a:Int)) != (b:Int))=_;congr 1;by_cases h:a=b
 .subst h;simp
 .have:(a:Int)≠(b:Int):=by exact Nat.ToInt.of_diseq rfl rfl h
  simp[h];exact Nat.ToInt.of_diseq rfl rfl h
theorem nu{σ:AS}(a b:Nat): nv σ .Eq (.int (a:Int)) (.int (b:Int))=some (decide (a=b)):=by show some (((a:Int)) == (b:Int))=_;congr 1;have:((a:Int) == (b:Int))=decide ((a:Int)=(b:Int)):=rfl;refine R1 this ?_;exact decide_eq_decide.mpr (by exact gW)
theorem uk{σ:AS}(a:List Nat): nv σ .NotEq (.lst (nats a)) (.lst [])=some (!decide (a=[])):=by show(Ec σ (.lst (nats a)) (.lst [])).map not=_;have:Ec σ (.lst (nats a)) (.lst [])=some (decide (a=[])):=pQ (σ:=σ) a [];exact R1 this rfl
noncomputable def fo(rs:List Nat)(w:Bool): List Nat->List Nat->Option (List Nat)
 |[],due=>some due
 |k::ks,due=>if due≠[]/\w=true/\(k=rs.length - 1\/(rs.length - 1)∈due) then none else fo rs w ks (due.flatMap fun a=>tp (jo (1<<<k) (1<<<a) rs) rs)
theorem qc(rs:List Nat)(w:Bool)(k:Nat)(ks due:List Nat): fo rs w (k::ks) due=if due≠[]/\w=true/\(k=rs.length - 1\/(rs.length - 1)∈due) then none else fo rs w ks (due.flatMap fun a=>tp (jo (1<<<k) (1<<<a) rs) rs):=rfl
noncomputable def IP:Option (List Nat)->V
 |none=>.none
 |some l=>.lst (nats l)
theorem vW(m:Nat)(rs:List Nat): (tp m rs).length<=rs.length:=by unfold tp;exact ab (bJ _ _) (by simp)
theorem Kk{m:Nat}{rs:List Nat}{k:Nat}(h:k∈tp m rs): k<rs.length:=by unfold tp at h;simp at h;exact h.1
theorem yC(due:List Nat)(g:Nat->List Nat)(n:Nat)(h:∀a,(g a).length<=n): (due.flatMap g).length<=due.length*n:=by
 induction due with
 |nil=>simp
 |cons a due ih=>
  refine R1 cx (R1 ar (R1 bd (R1 (ed ..) ?_)));exact ab (aE (bK _ _)) (bW ih (h a))
section
variable(F:List V->P V)
noncomputable def y8:Prop:=∀(H:List AO) (vs:List Slot) (R:V) (rs:List Nat) (f w:Nat),uY H R (nats rs)->rs.length<=1000->F [.int f,R,.int w] ⟨H,vs⟩=.ok (.int (dn f rs w:Nat)) ⟨H,vs⟩
noncomputable def yX:Prop:=∀(H:List AO) (vs:List Slot) (R:V) (rs:List Nat) (f:Nat),uY H R (nats rs)->rs.length<=1000->F [.int f,R] ⟨H,vs⟩=.ok (.int (nx f rs:Nat)) ⟨H,vs⟩
noncomputable def uA:Prop:=∀(H:List AO) (vs:List Slot) (R:V) (rs:List Nat) (a b:Nat),uY H R (nats rs)->rs.length<=1000->F [.int a,.int b,R] ⟨H,vs⟩=.ok (.int (jo a b rs:Nat)) ⟨H,vs⟩
noncomputable def sU:Prop:=∀(H:List AO) (vs:List Slot) (R K:V) (rs:List Nat) (rk:List (Int×Nm)) (k a b:Nat),uY H R (nats rs)->uY H K (rks rk)->rs.length<=1000->rk.length<=1000->k<rk.length->
 F [.int k,.int a,.int b,R,K] ⟨H,vs⟩=.ok (.bool (pa k a b rs rk)) ⟨H,vs⟩
noncomputable def Hb:Prop:=∀(H:List AO) (vs:List Slot) (R:V) (rs:List Nat) (m:Nat),uY H R (nats rs)->rs.length<=1000->F [.int m,R] ⟨H,vs⟩=.ok (.lst (nats (tp m rs))) ⟨H,vs⟩
noncomputable def EX:Prop:=∀(H:List AO) (vs:List Slot) (R K:V) (rs:List Nat) (rk:List (Int×Nm)) (f:Nat),uY H R (nats rs)->uY H K (rks rk)->rs.length<=1000->rs.length<=rk.length->
 F [.int f,R,K] ⟨H,vs⟩=.ok (.bool (fa f rs rk)) ⟨H,vs⟩
noncomputable def EY:Prop:=∀(H:List AO) (vs:List Slot) (R K:V) (spots rs:List Nat) (rk:List (Int×Nm)) (one two:Nat),uY H R (nats rs)->uY H K (rks rk)->rs.length<=1000->rk.length=rs.length->uH spots rs rk one two->
 F [.lst (nats spots),.int one,.int two,R,K] ⟨H,vs⟩=.ok (.bool true) ⟨H,vs⟩
noncomputable def E1:Prop:=∀(H:List AO) (vs:List Slot) (R K:V) (rs:List Nat) (rk:List (Int×Nm)) (a one two:Nat),uY H R (nats rs)->uY H K (rks rk)->rs.length<=1000->rk.length=rs.length->
 F [.int a,.int one,.int two,R,K] ⟨H,vs⟩=.ok (.bool (al a one two rs rk)) ⟨H,vs⟩
noncomputable def H5:Prop:=∀(H:List AO) (vs:List Slot) (R:V) (rs:List Nat) (k:Nat) (ks:List Nat) (w:Bool),uY H R (nats rs)->0<rs.length->rs.length<=20->ks.length<=3->(∀j∈k::ks,j<rs.length)->
 F [.lst (nats (k::ks)),R,.bool w] ⟨H,vs⟩=.ok (IP (fo rs w ks [k])) ⟨H,vs⟩
end
theorem Jd{a b c:V}: jy ["found", "roads", "within", "k"] ["found", "roads", "within"] [a,b,c]=[.val a,.val b,.val c,.unset]:=by kernel_rfl
theorem I9{a b:V}: jy ["found", "roads", "out", "k"] ["found", "roads"] [a,b]=[.val a,.val b,.unset,.unset]:=by kernel_rfl
theorem Gy{a b c:V}: jy ["one", "two", "roads", "every"] ["one", "two", "roads"] [a,b,c]=[.val a,.val b,.val c,.unset]:=by kernel_rfl
theorem DS{a b c d e:V}: jy ["k", "one", "two", "roads", "ranks", "ahead", "j", "near"] ["k", "one", "two", "roads", "ranks"] [a,b,c,d,e]=[.val a,.val b,.val c,.val d,.val e,.unset,.unset,.unset]:=by kernel_rfl
theorem KM{a b:V}: jy ["both", "roads", "top"] ["both", "roads"] [a,b]=[.val a,.val b,.unset]:=by kernel_rfl
theorem Jc{a b c:V}: jy ["found", "roads", "ranks", "k", "e"] ["found", "roads", "ranks"] [a,b,c]=[.val a,.val b,.val c,.unset,.unset]:=by kernel_rfl
theorem Gz{a b c d e:V}: jy ["spots", "one", "two", "roads", "ranks", "every", "both", "row", "a", "b", "mask", "k"] ["spots", "one", "two", "roads", "ranks"] [a,b,c,d,e]=[.val a,.val b,.val c,.val d,.val e,.unset,.unset,.unset,.unset,.unset,.unset,.unset]:=by kernel_rfl
theorem GA{a b c d e:V}: jy ["a", "one", "two", "roads", "ranks", "both"] ["a", "one", "two", "roads", "ranks"] [a,b,c,d,e]=[.val a,.val b,.val c,.val d,.val e,.unset]:=by kernel_rfl
theorem Jb{a b c:V}: jy ["ids", "roads", "whole", "due", "k", "fresh", "a"] ["ids", "roads", "whole"] [a,b,c]=[.val a,.val b,.val c,.unset,.unset,.unset,.unset]:=by kernel_rfl
theorem Iw:y8 (P.mQ ["found", "roads", "within", "k"] ["found", "roads", "within"] nC.1):=by
 intro H vs R rs f w hR hl;delta nC;dsimp only;refine wf rfl Jd (jt (iN (iN rfl (iN rfl (kc (qe f w)))) rfl) ?_);refine rO (st:=fun(g:Nat) s=>⟨H,[.val (.int g),.val R,.val (.int w),s]⟩) (step:=mS rs w) (g:=fun(k:Nat)=>V.int k) (xs:=(aX rs.length).reverse) (f&&& w) (s:=.unset) (iN (iN (iN (iN (sw hR rfl) rfl) rfl) rfl) (JB (ab hl (by decide)))) rfl (fun k hk g s hs=>?_) fun s Y=>⟨_,rfl⟩;have hk:=a6.mp (cb.mp hk);refine iN (kh rfl hs) (Ci (pf rfl rfl) (fun h=>?_) fun h=>?_)
 .unfold mS;refine R1 (if_pos h) ?_;exact iN (iN rfl (iN (iN (iN rfl (iN rfl (lb hR (p9 hk)))) (iN rfl (kc (qe _ _)))) (kc (pE _ _)))) rfl
 .unfold mS;rw[if_neg (by rw[h];decide)];rfl
theorem It:yX (P.mQ ["found", "roads", "out", "k"] ["found", "roads"] nz.1):=by
 intro H vs R rs f hR hl;delta nz;dsimp only;refine wf rfl I9 (jt rfl ?_);refine rO (st:=fun(g:Nat) s=>⟨H,[.val (.int f),.val R,.val (.int g),s]⟩) (step:=fun out k=>if f.testBit k=true then out|||rs.getD k 0 else out) (g:=fun(k:Nat)=>V.int k) (xs:=aX rs.length) 0 (s:=.unset) (lK (ab hl (by decide)) (sw hR rfl)) rfl (fun k hk g s hs=>?_) fun s Y=>⟨_,rfl⟩;have hk:=a6.mp hk;refine iN (kh rfl hs) (Ci (pf rfl rfl) (fun h=>?_) fun h=>?_)
 .refine R1 (if_pos h) ?_;exact iN (iN rfl (iN (iN rfl (iN rfl (lb hR (p9 hk)))) (kc (pE _ _)))) rfl
 .rw[if_neg (by rw[h];decide)];rfl
theorem Bd{R:V}{rs:List Nat}{H:List AO}{vs:List Slot}{e:P (List V)}(hR:uY H R (nats rs))(hl:rs.length<=1000)(h:e ⟨H,vs⟩=.ok [R] ⟨H,vs⟩):
  ((((P.pure (.int 1)).bind fun a=>(e.bind fun x=>P.len x).bind fun b=>P.bin .LShift a b).bind fun a=>(P.pure (.int 1)).bind fun b=>P.bin .Sub a b):P V) ⟨H,vs⟩=.ok (.int (every rs.length:Nat)) ⟨H,vs⟩:=
 iN (iN rfl (iN (sw hR h) (kc (lB _ hl)))) (iN rfl (kc (Ax _)))
theorem FE{F:List V->P V}(hF:y8 F): uA (P.mQ ["one", "two", "roads", "every"] ["one", "two", "roads"] (mK F).1):=by intro H vs R rs a b hR hl;delta mK;dsimp only;refine wf rfl Gy (jt (iN (Bd hR hl rfl) rfl) ?_);exact⟨_,iN (iN (iN rfl (hF H _ R rs a _ hR hl)) (iN (iN rfl (hF H _ R rs b _ hR hl)) (kc (qe _ _)))) rfl⟩
theorem C7{F1 F2:List V->P V}(h1:y8 F1)(h2:yX F2): sU (P.mQ ["k", "one", "two", "roads", "ranks", "ahead", "j", "near"] ["k", "one", "two", "roads", "ranks"] (mo F1 F2).1):=by
 intro H vs R K rs rk k a b hR hK hl hl2 hk;delta mo;dsimp only;refine wf rfl DS (jt rfl ?_);have hlen:∀{vs:List Slot},P.len [K] ⟨H,vs⟩=.ok (.int rk.length) ⟨H,vs⟩:=fun{vs}=>by unfold P.len;dsimp only;exact R1 hK.len (R1 (FJ ..) rfl)
 refine rO (st:=fun(g:Nat) s=>⟨H,[.val (.int k),.val (.int a),.val (.int b),.val R,.val K,.val (.int g),s,.unset]⟩) (step:=fun out j=>if qE rk j k=true then out|||1<<<j else out) (g:=fun(k:Nat)=>V.int k) (xs:=aX rk.length) 0 (s:=.unset) (lK (ab hl2 (by decide)) (iN rfl hlen)) rfl (fun j hj g s hs=>?_) fun s Y=>?_
 .have hj:=a6.mp hj;refine iN (kh rfl hs) (Ci (c:=qE rk j k) (iN (iN rfl (iN rfl (lb hK (pZ hj)))) (iN (iN rfl (iN rfl (lb hK (pZ hk)))) rfl)) (fun h=>?_) fun h=>?_)
  .refine R1 (if_pos h) ?_;exact iN (iN rfl (iN (iN rfl (iN rfl (kc (lB j (ab (aG hj) hl2))))) (kc (pE _ _)))) rfl
  .rw[if_neg (by rw[h];decide)];rfl
 .refine jt (iN (iN (iN rfl (h1 H _ R rs a (ahead rk k) hR hl)) (iN (iN rfl (h1 H _ R rs b (ahead rk k) hR hl)) (kc (qe _ _)))) rfl) ?_;exact⟨_,iN (iN (pf (iN rfl (h2 H _ R rs _ hR hl)) rfl) rfl) rfl⟩
theorem Km{F:List V->P V}(hF:yX F): Hb (P.mQ ["both", "roads", "top"] ["both", "roads"] (oM F).1):=by
 intro H vs R rs m hR hl;delta oM;dsimp only;refine wf rfl KM (jt (iN (iN rfl (iN (iN (iN rfl (hF H _ R rs m hR hl)) rfl) (kc (congrArg some (An m _))))) rfl) ?_);have hc:=fun vs cap its test ep h1 h2 h3 h4 h5 h6=>nZ (H:=H) (vs:=vs) (cap:=cap) (its:=its) (test:=test) (ep:=ep) (s0:=.unset) (s1:=.unset) (xs:=aX rs.length) (g:=fun(k:Nat)=>V.int k) (Ev:=fun(k:Nat)=>V.int k) (fun k=>m.testBit k&&!(nx m rs).testBit k) [.val (.int (m - (m&&& nx m rs):Nat))] h1 h2 h3 h4 h5 h6;refine⟨_,iN (b:=.lst (nats (tp m rs))) (hc _ _ _ _ _ (lK (ab hl (by decide)) (sw hR rfl)) rfl rfl (fun k Y=>?_) (fun k Y Y=>rfl) ?_) rfl⟩
 .refine R2 (Ao ..) ?_;exact pf rfl rfl
 .refine R1 br ?_;exact ab hl (by decide)
section
variable(H:List AO)(R K:V)(rs:List Nat)(rk:List (Int×Nm))(f:Nat)
noncomputable def L7(k e:Nat): Bool:=!((rs.getD k 0).testBit e&&qE rk e k)
noncomputable def M0(xs:List Nat): Bool:=xs.all fun k=>!f.testBit k || (aX k).all (L7 rs rk k)
inductive N5(xs:List Nat): AS->Prop
 |mk (s s':Slot) (hx:∀k∈xs,k<rs.length) (ho:M0 rs rk f xs=fa f rs rk) (hs:s.nf=true) (hs':s'.nf=true):N5 xs ⟨H,[.val (.int f),.val R,.val K,s,s']⟩
inductive N4(k:Nat)(xs ys:List Nat): AS->Prop
 |mk (s':Slot) (hy:∀e∈ys,e<k) (ho:(ys.all (L7 rs rk k)&&M0 rs rk f xs)=fa f rs rk) (hs':s'.nf=true):N4 k xs ys ⟨H,[.val (.int f),.val R,.val K,.val (.int k),s']⟩
end
theorem Iv:EX (P.mQ ["found", "roads", "ranks", "k", "e"] ["found", "roads", "ranks"] nB.1):=by
 intro H vs R K rs rk f hR hK hl hl2;delta nB;dsimp only;refine wf rfl Jc ?_;refine qG (mt (g:=fun(k:Nat)=>V.int k) (xs:=aX rs.length) (N5 H R K rs rk f) (.mk .unset .unset (fun k hk=>a6.mp hk) rfl rfl rfl) (lK (ab hl (by decide)) (sw hR rfl)) ?_ ?_)
 .rintro k xs _ ⟨s,s',hx,ho,hs,hs'⟩;have hk:=hx k ac;have hx:=fun j hj=>hx j (ad _ hj);rw[M0,eK] at ho;refine kW (σ1:=⟨H,[.val (.int f),.val R,.val K,.val (.int k),s']⟩) (kh rfl hs) ?_;refine qg (c:=f.testBit k) ?_ (fun hb=>?_) fun hb=>?_
  .exact pf rfl rfl
  .rw[hb,gX,fL] at ho;refine mt (Q:=Lp _ _) (g:=fun(k:Nat)=>V.int k) (xs:=aX k) (N4 H R K rs rk f k xs) ?_ ?_ ?_ ?_
   .exact .mk s' (fun e he=>a6.mp he) ho hs'
   .exact lK (ab (aG (aD hk hl)) (by decide)) rfl
   .rintro e ys _ ⟨s',hy,ho,hs'⟩;have he:=hy e ac;have hy:=fun j hj=>hy j (ad _ hj);rw[eK] at ho;refine kW (σ1:=⟨H,[.val (.int f),.val R,.val K,.val (.int k),.val (.int e)]⟩) (kh rfl hs') ?_;refine qg (c:=(rs.getD k 0).testBit e&&qE rk e k) ?_ (fun h=>?_) fun h=>?_
    .exact lZ (pf (iN rfl (iN rfl (lb hR (p9 hk)))) rfl) fun Y=>ly (iN (iN rfl (iN rfl (lb hK (pZ (aF he (aD hk hl2)))))) (iN (iN rfl (iN rfl (lb hK (pZ (aD hk hl2))))) rfl)) rfl
    .rw[L7,h,gX,eu,eu] at ho;exact F9 (F9 (BF ⟨_,congrArg (fun b=>Res.ok (AF.ret (V.bool b)) _) ho⟩))
    .rw[L7,h,gU,fM] at ho;exact mi (.mk _ hy ho rfl)
   .rintro _ ⟨s',-,ho,hs'⟩;exact mi (.mk _ s' hx ho rfl hs')
  .rw[hb,gU,eh,fM] at ho;exact mi (.mk _ s' hx ho rfl hs')
 .rintro _ ⟨s,s',-,ho,-,-⟩;exact qW ⟨_,congrArg (fun b=>Res.ok (AF.ret (V.bool b)) _) ho⟩
theorem FG{F1 F2:List V->P V}(h1:uA F1)(h2:sU F2): E1 (P.mQ ["a", "one", "two", "roads", "ranks", "both"] ["a", "one", "two", "roads", "ranks"] (mM F1 F2).1):=by
 intro H vs R K rs rk a one two hR hK hl hl2;delta mM;dsimp only;refine wf rfl GA (jt (iN (iN rfl (h1 H _ R rs one two hR hl)) rfl) ?_);unfold al;cases hj:(jo one two rs).testBit a with
 |false=>exact re (oh (lc (ue rfl rfl) (by exact R1 hj rfl)) rfl) ⟨_,rfl⟩
 |true=>
  refine jt (lP (lc (ue rfl rfl) (by exact R1 hj rfl)) rfl) ?_;have hc:=fun vs cap its test ep h1 h2 h3 h4 h5 h6=>nZ (H:=H) (vs:=vs) (cap:=cap) (its:=its) (test:=test) (ep:=ep) (s0:=.unset) (s1:=.unset) (xs:=aX rs.length) (g:=fun(k:Nat)=>V.int k) (Ev:=fun(k:Nat)=>V.int k) (fun k=>decide (k≠a)&&((jo one two rs).testBit k&&!pa k one two rs rk)) [.val (.int (a:Int)),.val (.int ((jo one two rs:Nat):Int)),.val (.int (one:Int)),.val K,.val R,.val (.int (two:Int))] h1 h2 h3 h4 h5 h6;refine⟨_,iN (iN (iN (hc _ _ _ _ _ (lK (ab hl (by decide)) (sw hR rfl)) rfl rfl (fun k hk=>?_) (fun k Y Y=>rfl) ?_) (iN rfl (jF (pQ _ [])))) rfl) rfl⟩
  .have hk:=a6.mp hk;have hp:=h2 H [.unset,.val (.int k),.val (.int (a:Int)),.val (.int ((jo one two rs:Nat):Int)),.val (.int (one:Int)),.val K,.val R,.val (.int (two:Int))] R K rs rk k one two hR hK hl (hl2▸hl) (hl2▸hk);exact lZ (iN rfl (iN rfl (jF (ul _ _)))) fun Y=>lZ (pf rfl rfl) fun Y=>ly (mu (iN (iN rfl hp) rfl)) rfl
  .refine R1 br ?_;exact ab hl (by decide)
theorem ud{σ:AS}{l:List Nat}{e:P (List V)}(hl:l.length<64)(h:e σ=.ok [.lst (nats l)] σ): (e.bind fun x=>P.ints1 (fun ns=>if ns.length<64 then some (V.lst (eC V.int (sortI ns))) else none) x) σ=.ok (.lst ((sortI (l.map fun(n:Nat)=>(n:Int))).map V.int)) σ:=by refine iN h ?_;unfold P.ints1;dsimp only[jz];refine R1 (yr ..) ?_;dsimp only;rw[if_pos (by rw[ak];exact hl)]
theorem pO{l:List V}{H:List AO}{vs:List Slot}: P.slice (.lst l) (.int 1,.none) ⟨H,vs⟩=.ok (.lst (l.drop 1)) ⟨H,vs⟩:=congrArg (fun l=>Res.ok (V.lst l) _) (tg l)
noncomputable def J6(spots rs:List Nat)(one two:Nat)(R K:V)(s8 s9 Og Ix:Slot): List Slot:=[.val (.lst (nats spots)),.val (.int (one:Int)),.val (.int (two:Int)),.val R,.val K,.val (.int ((every rs.length:Nat):Int)),.val (.int ((jo one two rs:Nat):Int)),.val (.lst (nats (tp (jo one two rs) rs))),s8,s9,Og,Ix]
section
variable(H:List AO)(spots rs:List Nat)(one two:Nat)(R K:V)
inductive N9(xs:List (Nat×Nat)): AS->Prop
 |mk (s8 s9:Slot) (hx:∀p∈xs,p∈spots.zip (spots.drop 1)) (q8:s8.nf=true) (q9:s9.nf=true):N9 xs ⟨H,J6 spots rs one two R K s8 s9 .unset .unset⟩
inductive N8(s8 s9:Slot)(xs:List Nat): AS->Prop
 |mk (done:List Nat) (m:Nat) (Ix:Slot) (q2:done++xs=spots) (q3:∀k,m.testBit k=true↔k∈done) (Mj:Ix.nf=true):N8 s8 s9 xs ⟨H,J6 spots rs one two R K s8 s9 (.val (.int (m:Int))) Ix⟩
end
theorem FF{F1 F2 F3 F4 F5 F6:List V->P V}(h1:uA F1)(h2:Hb F2)(h3:EX F3)(h4:y8 F4)(h5:sU F5)(h6:yX F6):
  EY (P.mQ ["spots", "one", "two", "roads", "ranks", "every", "both", "row", "a", "b", "mask", "k"] ["spots", "one", "two", "roads", "ranks"] (mL F1 F2 F3 F4 F5 F6).1):=by
 intro H vs R K spots rs rk one two hR hK hl hl2 C;delta mL;dsimp only;refine wf rfl Gz (jt (iN (Bd hR hl rfl) rfl) (jt (iN (iN rfl (h1 H _ R rs one two hR hl)) rfl) (jt (iN (iN rfl (h2 H _ R rs _ hR hl)) rfl) ?_)));refine qG (mt (g:=fun p:Nat×Nat=>V.tup [.int (p.1:Int),.int (p.2:Int)]) (xs:=spots.zip (spots.drop 1)) (N9 H spots rs one two R K) (.mk .unset .unset (fun Y h=>h) rfl rfl) ?_ ?_ ?_)
 .exact iN rfl (congrArg (Res.ok · _) ((congrArg (pairsOf _) (tg _)).trans (ri spots)))
 .rintro p xs _ ⟨s8,s9,hx,q8,q9⟩;have hp:=hx p ac;obtain⟨m1,m2⟩:=ds hp;have b1:=C.lt _ m1;have b2:=C.lt _ (fB m2);refine kW (iN (kh rfl q8) (kh rfl q9)) (IH (iN (iN (iN rfl (iN rfl (lb hK (pZ (hl2▸b1))))) rfl) (iN (iN (iN rfl (iN rfl (lb hK (pZ (hl2▸b2))))) rfl) (jF (congrArg some (decide_eq_false (C.sorted p hp)))))) ?_);exact mi (.mk _ _ (fun q hq=>hx q (ad _ hq)) rfl rfl)
 .rintro _ ⟨s8,s9,-,q8,q9⟩;refine qW ?_;refine qG (qg (c:=fa (dn (one|||two) rs (every rs.length)) rs rk) ?_ (fun hf=>?_) fun hf=>?_)
  .have q1:=h4 H (J6 spots rs one two R K s8 s9 .unset .unset) R rs (one|||two) (every rs.length) hR hl;have q2:=h3 H (J6 spots rs one two R K s8 s9 .unset .unset) R K rs rk (dn (one|||two) rs (every rs.length)) hR hK hl (hl2▸aM _);exact iN (iN (iN (iN (lc rfl (congrArg (fun z=>[V.int z,R,.int (every rs.length:Nat)]) (Dd one two))) q1) rfl) q2) rfl
  .refine C9 (.bool true) ?_ ?_
   .refine vH true ?_ rfl;refine iN (ud C.len rfl) (iN rfl ?_);refine R1 (C.fair hf) (R2 (Dk ..) ?_);exact jF (by exact R1 (pQ ..) (R1 (decide_eq_true rfl) rfl))
   .exact BF ⟨_,rfl⟩
  .refine qW (jt rfl ?_);refine qG (mt (g:=fun(k:Nat)=>V.int k) (xs:=spots) (N8 H spots rs one two R K s8 s9) (.mk [] 0 .unset rfl (fun k=>by rw[dl];exact⟨fun h=>(nomatch h),fun h=>(nomatch h)⟩) rfl) rfl ?_ ?_)
   .rintro k xs _ ⟨done,m,Ix,q2,q3,Mj⟩;have hk:k∈spots:=q2▸aj _ ac
    have hnd:k∉done:=fun hm=>by have:=C.nodup;rw[←q2] at this;exact(aU.mp this).2.2 k hm k ac rfl
    have hm:m.testBit k=false:=gh.mpr fun h=>hnd ((q3 k).mp h);have hlt:=C.lt k hk;refine kW (kh rfl Mj) ?_;refine qG (IH ?_ (qW ?_))
    .exact lc (mC (pf rfl rfl) fun Y=>lC (ue rfl rfl) rfl) (by exact R1 hm (R1 (C.joint k hk) rfl))
    refine jt (iN (iN rfl (iN (iN rfl (iN rfl (kc (lB k (ab (aG hlt) hl))))) (kc (pE _ _)))) rfl) ?_;refine IH ?_ ?_
    .have q5:=h5 H (J6 spots rs one two R K s8 s9 (.val (.int ((m|||1<<<k:Nat):Int))) (.val (.int k))) R K rs rk k one two hR hK hl (hl2▸hl) (hl2▸hlt);refine lc (lZ (iN rfl (iN rfl (jF (oG k _)))) fun Y=>ly (iN (iN rfl q5) rfl) rfl) ?_;by_cases hr:k∈tp (jo one two rs) rs
     .exact R1 (decide_eq_true hr) rfl
     .exact R1 (C.free k hk hr) (R1 (fC ..) rfl)
    .refine mi (.mk (done++[k]) (m|||1<<<k) _ ((ax ..).trans q2) (fun j=>?_) rfl);refine R1 (bG ..) (R1 (cO ..) (R1 eb (R1 (bj ..) ?_)));rw[q3,decide_eq_true_iff,aA,af,@eq_comm _ k]
   .rintro _ ⟨done,m,Ix,q2,q3,Mj⟩;rw[ba] at q2;subst q2
    have hand:m&&& nx m rs=0:=Nat.eq_of_testBit_eq fun j=>by refine R1 (bQ ..) (R1 (dl ..) ?_);refine gh.mpr fun h=>?_;rw[aW] at h;obtain⟨k,k1,k2⟩:=(wq m rs j).mp h.2;rw[C.apart k ((q3 k).mp k1) j ((q3 j).mp h.1)] at k2;cases k2
    have hc:=fun vs cap its test ep h1 h2 h3 h4 h5 h6=>nZ (H:=H) (vs:=vs) (cap:=cap) (its:=its) (test:=test) (ep:=ep) (s0:=.unset) (s1:=.unset) (xs:=tp (jo one two rs) rs) (g:=fun(k:Nat)=>V.int k) (Ev:=fun(k:Nat)=>V.int k) (fun k=>!decide (k∈done)) [.val (.lst (nats done))] h1 h2 h3 h4 h5 h6;have q6:=h6 H (J6 done rs one two R K s8 s9 (.val (.int (m:Int))) Ix) R rs m hR hl;refine qW (C9 (.bool true) (vH (.bool true) ?_ (vH true rfl ?_)) ⟨_,rfl⟩)
    .refine vH true (iN (hc _ _ _ _ _ rfl rfl rfl (fun k Y=>iN rfl (iN rfl (jF (oG k done)))) (fun k Y Y=>rfl) (ab (vW _ _) (ab hl (by decide)))) (iN rfl (jF ?_))) rfl;rw[cZ.mpr fun k hk=>by rw[decide_eq_true (C.tops k hk)];decide];rfl
    .refine vH true (iN (iN rfl (iN (iN rfl q6) (kc (qe _ _)))) (iN rfl (jF ?_))) rfl;exact R1 hand rfl
theorem JE{a b:List Nat}{σ:AS}(h:a.length+b.length<=1000000): P.bin .Add (.lst (nats a)) (.lst (nats b)) σ=.ok (.lst (nats (a++b))) σ:=by refine(if_pos (by refine R1 (oy ..) (R1 (oy ..) ?_);exact h):(if(nats a).length+(nats b).length<=1000000 then Res.ok (V.lst (nats a++nats b)) σ else .stuck)=_).trans ?_;rewrite[nats,nats];exact R2 aS rfl
noncomputable def J3(k0:Nat)(ks:List Nat)(R:V)(w:Bool)(due:List Nat)(s4 s5 s6:Slot): List Slot:=[.val (.lst (nats (k0::ks))),.val R,.val (.bool w),.val (.lst (nats due)),s4,s5,s6]
section
variable(H:List AO)(rs:List Nat)(k0:Nat)(ks:List Nat)(R:V)(w:Bool)
inductive N2(xs:List Nat): AS->Prop
 |mk (due:List Nat) (s4 s5 s6:Slot) (q2:∀k∈xs,k<rs.length) (Nj:∀k∈due,k<rs.length) (q3:due.length*20 ^ xs.length<=160000) (q4:fo rs w xs due=fo rs w ks [k0]) (n4:s4.nf=true) (n5:s5.nf=true) (n6:s6.nf=true):N2 xs ⟨H,J3 k0 ks R w due s4 s5 s6⟩
inductive N1(due:List Nat)(k:Nat)(ys:List Nat): AS->Prop
 |mk (done:List Nat) (s6:Slot) (g2:done++ys=due) (n6:s6.nf=true):N1 due k ys ⟨H,J3 k0 ks R w due (.val (.int (k:Int))) (.val (.lst (nats (done.flatMap fun a=>tp (jo (1<<<k) (1<<<a) rs) rs)))) s6⟩
end
theorem OM{p q r:Prop}[Decidable p][Decidable q][Decidable r](w:Bool){d:Decidable (¬ p/\w=true/\(q\/r))}: (!decide p&&(w&&(decide q || decide r)))=@decide _ d:=gM.mpr (by rw[aW,aW,bj,bx,decide_eq_false_iff_not,decide_eq_true_iff,decide_eq_true_iff,decide_eq_true_iff])
theorem Iu{F1 F2:List V->P V}(h1:Hb F1)(h2:uA F2): H5 (P.mQ ["ids", "roads", "whole", "due", "k", "fresh", "a"] ["ids", "roads", "whole"] (nA F1 F2).1):=by
 intro H vs R rs k0 ks w hR hpos hl hks hid;have hl2:=ab hl (show 20<=1000 by decide);have shl:∀{k},k<rs.length->binI .LShift 1 (k:Int)=some ((1<<<k:Nat):Int):=fun h=>lB _ (ab (aG h) hl2);delta nA;dsimp only;refine wf rfl Jb (jt (σ1:=⟨H,(J3 k0 ks R w [k0] .unset .unset .unset)⟩) rfl ?_);refine qG (mt (g:=fun(k:Nat)=>V.int k) (xs:=ks) (N2 H rs k0 ks R w) (.mk [k0] .unset .unset .unset (fun k hk=>hid k (ad _ hk)) (fun k hk=>hid k (af.mp hk▸ac)) ?_ rfl rfl rfl rfl) ?_ ?_ ?_)
 .refine R1 List.length_singleton (R1 (Nat.one_mul ..) ?_);exact ab (fD (by decide) hks) (by decide)
 .exact iN (iN rfl (iN rfl pO)) rfl
 .rintro k xs _ ⟨due,s4,s5,s6,q2,Nj,q3,q4,n4,n5,n6⟩;have hk:=q2 k ac;have q2:=fun j hj=>q2 j (ad _ hj);rw[bd,gl,eg (20 ^ xs.length) 20,←fN] at q3;have MR:=ab (eW _ (Nat.pow_pos (n:=xs.length) (show 0<20 by decide))) q3;rw[qc] at q4;refine kW (σ1:=⟨H,(J3 k0 ks R w due (.val (.int (k:Int))) s5 s6)⟩) (kh rfl n4) ?_;refine qG (qg (c:=decide (due≠[]/\w=true/\(k=rs.length - 1\/(rs.length - 1)∈due))) ?_ (fun hc=>?_) fun hc=>?_)
  .have hsub:∀{vs:List Slot} {e:P V},e ⟨H,vs⟩=.ok (.int rs.length) ⟨H,vs⟩->(e.bind fun a=>(P.pure (.int 1)).bind fun b=>P.bin .Sub a b) ⟨H,vs⟩=.ok (.int (rs.length - 1:Nat)) ⟨H,vs⟩:=fun h=>iN h (iN rfl (kc (congrArg some (ct hpos).symm)));refine lc (lZ (iN rfl (iN rfl (jF (uk due)))) fun Y=>lZ (a:=w) rfl fun Y=>ly (mC (iN rfl (iN (hsub (sw hR rfl)) (jF (nu k _)))) fun Y=>lC (iN (hsub (sw hR rfl)) (iN rfl (jF (qP _ due)))) rfl) rfl) ?_;exact OM w
  .rw[if_pos (of_decide_eq_true hc)] at q4;exact BF (F9 (BF ⟨_,congrArg (fun o=>Res.ok (AF.ret (IP o)) _) q4⟩))
  .rw[if_neg (of_decide_eq_false hc)] at q4;refine qW (jt (σ1:=⟨H,(J3 k0 ks R w due (.val (.int (k:Int))) (.val (.lst (nats []))) s6)⟩) (vH (.lst []) rfl (iN (kh rfl n5) rfl)) ?_);refine qG (mt (g:=fun(k:Nat)=>V.int k) (xs:=due) (N1 H rs k0 ks R w due k) (.mk [] s6 rfl n6) rfl ?_ ?_)
   .rintro a ys _ ⟨done,s6,g2,n6⟩;have ha:a<rs.length:=Nj a (g2▸aj _ ac);have hfl:=yC done (fun a=>tp (jo (1<<<k) (1<<<a) rs) rs) 20 fun a=>ab (vW _ _) hl;have hdl:done.length<=due.length:=g2▸(ar▸ay _ _);have htl:=vW (jo (1<<<k) (1<<<a) rs) rs;refine kW (σ1:=⟨H,(J3 k0 ks R w due (.val (.int (k:Int))) (.val (.lst (nats (done.flatMap fun a=>tp (jo (1<<<k) (1<<<a) rs) rs)))) (.val (.int a)))⟩) (kh rfl n6) ?_;refine C9 (.lst (nats ((done.flatMap fun a=>tp (jo (1<<<k) (1<<<a) rs) rs)++tp (jo (1<<<k) (1<<<a) rs) rs))) (iN rfl (iN (iN (iN (iN (iN (iN rfl (iN rfl (kc (shl hk)))) (iN (iN (iN rfl (iN rfl (kc (shl ha)))) rfl) rfl)) (h2 H _ R rs _ _ hR hl2)) rfl) (h1 H _ R rs _ hR hl2)) (JE ?_))) ?_
    .exact ab (bW (ab hfl (ab (b7 20 hdl) MR)) (ab htl hl)) (by decide)
    .have hfm:(done++[a]).flatMap (fun a=>tp (jo (1<<<k) (1<<<a) rs) rs)=(done.flatMap fun a=>tp (jo (1<<<k) (1<<<a) rs) rs)++tp (jo (1<<<k) (1<<<a) rs) rs:=List.flatMap_append.trans (congrArg _ (ba _));exact mi (hfm▸.mk (done++[a]) _ ((ax ..).trans g2) rfl)
   .rintro _ ⟨done,s6,g2,n6⟩;rw[ba] at g2;subst g2;refine qW (mi (.mk _ _ _ s6 q2 (fun j hj=>?_) ?_ q4 rfl rfl n6))
    .obtain⟨a,_,h⟩:=cD.mp hj;exact Kk h
    .exact ab (b7 _ (yC done _ 20 fun a=>ab (vW _ _) hl)) q3
 .rintro _ ⟨due,s4,s5,s6,-,-,-,q4,-,-,-⟩;exact qW ⟨_,congrArg (fun o=>Res.ok (AF.ret (IP o)) _) q4⟩
noncomputable def xN:Option V->AS->Res V
 |some v,σ=>.ok v σ
 |none,σ=>.exc σ
inductive Fb(H:List AO)(Z:Option V->Prop): Res AF->Prop
 |same {v:V} {vs:List Slot} (h:Z (some v)):Fb H Z (.ok (.ret v) ⟨H,vs⟩)
 |new {v:V} {x:AO} {r:List AO} {vs:List Slot} (hf:t0 v=true) (h:Z (some v)):Fb H Z (.ok (.ret v) ⟨H++x::r,vs⟩)
 |ref {l:List V} {vs:List Slot} (hf:l.all su=true) (h:Z (some (.lst l))):Fb H Z (.ok (.ret (.ref H.length)) ⟨H++[.list l],vs⟩)
 |exc {vs:List Slot} (h:Z none):Fb H Z (.exc ⟨H,vs⟩)
 |GQ {x:AO} {r:List AO} {vs:List Slot} (h:Z none):Fb H Z (.exc ⟨H++x::r,vs⟩)
theorem HN{H:List AO}{vs iv:List Slot}{pb:P AF}{Z:Option V->Prop}(h:Fb H Z (pb ⟨H,iv⟩)): ∃o,Z o/\P.fn iv pb ⟨H,vs⟩=xN o ⟨H,vs⟩:=by
 have hne:∀{x:AO} {r:List AO},¬ (H++x::r).length=H.length:=fun{x r} h=>by rw[ar,bd] at h;exact dj _ (d7 (h.trans (fZ _).symm))
 have htk:∀{x:AO} {r:List AO},H=(H++x::r).take H.length:=fun{x r}=>(gN rfl).symm
 have lv:∀{x:AO} {r:List AO} {v v':V} {vs':List Slot},pG H v (H++x::r)=some (v',H)->P.leave H vs v ⟨H++x::r,vs'⟩=.ok v' ⟨H,vs⟩:=fun h=>by unfold P.leave;rw[h]
 unfold P.fn;generalize pb ⟨H,iv⟩=r at h;cases h with
 |same h=>exact⟨_,h,oA rfl⟩
 |@new v _ _ _ hf h=>
  refine⟨_,h,?_⟩;dsimp only[AH];refine lv ?_;unfold pG;rw[if_neg hne,if_pos htk];cases v with
  |ref _=>cases hf
  |_=>exact if_pos hf
 |@ref l vs hf h=>
  refine⟨_,h,?_⟩;dsimp only[AH];refine lv ?_;unfold pG;rw[if_neg hne,if_pos htk];dsimp only;rw[if_neg (bu _),bh (aM _),dE];exact if_pos hf
 |exc h=>exact⟨_,h,tL rfl⟩
 |GQ h=>
  refine⟨_,h,?_⟩;dsimp only;unfold P.tM leaveH;rw[if_neg hne,if_pos htk];rfl
theorem w8{H:List AO}{vs iv:List Slot}{N xs:List Str}{us:List V}{pb:P AF}{Z:Option V->Prop}(hl:us.length=xs.length)(hi:jy N xs us=iv)(h:Fb H Z (pb ⟨H,iv⟩)): ∃o,Z o/\P.mQ N xs pb us ⟨H,vs⟩=xN o ⟨H,vs⟩:=by obtain⟨o,h1,h2⟩:=HN (vs:=vs) h;refine⟨o,h1,?_⟩;unfold P.mQ;rw[if_pos hl,hi];exact h2
section
variable{H:List AO}{vs:List Slot}{n:Nat}{kvs:List (Nm×V)}{k:Nm}
theorem pg(h:H[n]?=some (.dict kvs)): mW ⟨H,vs⟩ (.ref n)=some kvs:=congrArg (·.bind uw) h
theorem mB{us:List V}(h:H[n]?=some (.list us)): jz ⟨H,vs⟩ (.ref n)=some us:=congrArg (·.bind asList) h
theorem wH(h:H[n]?=some (.dict kvs)): jz ⟨H,vs⟩ (.ref n)=none:=congrArg (·.bind asList) h
theorem HT(h:H[n]?=some (.dict kvs)): P.index (.ref n) (.bytes k) ⟨H,vs⟩=xN (getKey kvs k) ⟨H,vs⟩:=by unfold P.index;dsimp only;rw[pg h];dsimp only;cases getKey kvs k<;>rfl
theorem HR{o:Option V}{pb:P AF}{iv:List Slot}(h:pb ⟨H,iv⟩=match o with | some v=>.ok (.ret v) ⟨H,iv⟩ | none=>.exc ⟨H,iv⟩): P.fn iv pb ⟨H,vs⟩=xN o ⟨H,vs⟩:=by
 unfold P.fn;rw[h];cases o
 .exact tL rfl
 .exact oA rfl
theorem Eo{i j:Nat}{iv:List Slot}(hi:P.var i ⟨H,iv⟩=.ok (.ref n) ⟨H,iv⟩)(hj:P.var j ⟨H,iv⟩=.ok (.bytes k) ⟨H,iv⟩)(h:H[n]?=some (.dict kvs)):
  P.bind (P.bind (P.var i) fun a=>P.bind (P.var j) fun i=>P.index a i) (fun v=>P.pure (AF.ret v)) ⟨H,iv⟩=match getKey kvs k with | some v=>.ok (AF.ret v) ⟨H,iv⟩ | none=>.exc ⟨H,iv⟩:=by
 have e:(P.bind (P.var i) fun a=>P.bind (P.var j) fun i=>P.index a i) ⟨H,iv⟩=xN (getKey kvs k) ⟨H,iv⟩:=iN hi (iN hj (HT h));cases q:getKey kvs k with
 |some v=>rw[q] at e;exact iN e rfl
 |none=>rw[q] at e;exact lY e
theorem Ai(h:H[n]?=some (.dict kvs)): P.mX (.clo 2 [.ref n]) [.bytes k] ⟨H,vs⟩=xN (getKey kvs k) ⟨H,vs⟩:=
 HR (iv:=[.val (.bytes k),.val (.ref n)]) (pb:=uu.1) (by delta uu;exact Eo rfl rfl h)
theorem Lh(h:H[n]?=some (.dict kvs)): P.mX (.clo 1 [.ref n]) [.bytes k] ⟨H,vs⟩=xN (getKey kvs k) ⟨H,vs⟩:=
 HR (iv:=[.val (.bytes k),.val (.ref n)]) (pb:=yT.1) (by delta yT;exact Eo rfl rfl h)
theorem tO(h:H[n]?=some (.dict kvs)): o6 ⟨H,vs⟩ (.ref n)=true:=by unfold o6;rw[pg h];rfl
theorem nh{us:List V}(h:H[n]?=some (.list us)): nQ ⟨H,vs⟩ (.ref n)=true:=congrArg (fun o=>(o.bind asList).isSome) h
theorem HX{d:V}(h:H[n]?=some (.dict kvs)): P.dictGet (.ref n) [.bytes k,d] ⟨H,vs⟩=.ok ((getKey kvs k).getD d) ⟨H,vs⟩:=by unfold P.dictGet;dsimp only;rw[pg h]
theorem Em{v:V}(h:H[n]?=some (.dict kvs))(hl:kvs.length<100000): P.setItem (.ref n) (.bytes k) v ⟨H,vs⟩=.ok () ⟨H.set n (.dict (lf kvs k v)),vs⟩:=by unfold P.setItem;dsimp only;rw[h];exact if_pos hl
theorem yL{us:List V}{v:V}(h:H[n]?=some (.list us))(hl:us.length<100000): P.append (.ref n) [v] ⟨H,vs⟩=.ok .none ⟨H.set n (.list (us++[v])),vs⟩:=by unfold P.append;dsimp only;rw[h];exact if_pos hl
end
theorem HY{H H':List AO}{vs iv vs':List Slot}{N xs:List Str}{us:List V}{pb:P AF}{v:V}{f:AF}(hl:us.length=xs.length)(hi:jy N xs us=iv)(h:pb ⟨H,iv⟩=.ok f ⟨H',vs'⟩)(hf:f=.ret v\/(f=.next/\v=.none))(hlen:H'.length=H.length): P.mQ N xs pb us ⟨H,vs⟩=.ok v ⟨H',vs⟩:=by unfold P.mQ P.fn;rw[if_pos hl,hi,h];rcases hf with rfl | ⟨rfl,rfl⟩<;>exact oA hlen
noncomputable def LS(F:List V->P V): Prop:=∀(H:List AO) (vs:List Slot) (n:Nat) (st:Nm->Int) (q:List Nm) (v:Nm),H[n]?=some (.list (q.map (ent st)))->q.length<9000->
 F [.work n,.tup [.int (st v),.bytes v]] ⟨H,vs⟩=.ok .none ⟨H.set n (.list ((pushP (ltN st) q v).map (ent st))),vs⟩
noncomputable def LM(F:List V->P V): Prop:=∀(H:List AO) (vs:List Slot) (n:Nat) (st:Nm->Int) (q q':List Nm) (v:Nm),H[n]?=some (.list (q.map (ent st)))->q.length<9000->BU (ltN st) q=some (v,q')->
 F [.work n] ⟨H,vs⟩=.ok (.tup [.int (st v),.bytes v]) ⟨H.set n (.list (q'.map (ent st))),vs⟩
theorem KP{a b:V}: jy ["self", "item", "dt", "cmt"] ["self", "item"] [a,b]=[.val a,.val b,.unset,.unset]:=by kernel_rfl
theorem KO{a:V}: jy ["self", "item", "pr", "cmt"] ["self"] [a]=[.val a,.unset,.unset,.unset]:=by kernel_rfl
theorem Kp:LS (P.mQ ["self", "item", "dt", "cmt"] ["self", "item"] oK.1):=by
 intro H vs n st q v hq hl
 have h:oK.1 ⟨H,[.val (.work n),.val (.tup [.int (st v),.bytes v]),.unset,.unset]⟩=.ok .next ⟨H.set n (.list ((pushP (ltN st) q v).map (ent st))),[.val (.work n),.val (.tup [.int (st v),.bytes v]),.val (.int (st v)),.val (.bytes v)]⟩:=by delta oK;dsimp only;exact oD rfl (iN (iN rfl (wX (σ:=⟨H,_⟩) hq hl)) rfl)
 exact HY rfl KP h (.inr ⟨rfl,rfl⟩) (cI ..)
theorem Ko:LM (P.mQ ["self", "item", "pr", "cmt"] ["self"] oJ.1):=by
 intro H vs n st q q' v hq hl uO
 have h:oJ.1 ⟨H,[.val (.work n),.unset,.unset,.unset]⟩=.ok (.ret (.tup [.int (st v),.bytes v])) ⟨H.set n (.list (q'.map (ent st))),[.val (.work n),.val (ent st v),.val (.int (-(st v))),.val (.bytes v)]⟩:=by delta oJ;dsimp only;refine oD (iN (iN rfl (yw (σ:=⟨H,_⟩) hq hl uO)) rfl) (Bb (oh rfl (oD rfl (iN (b:=.tup [.int (st v),.bytes v]) ?_ rfl))));exact lc rfl (by rw[Int.neg_neg])
 exact HY rfl KO h (.inl rfl) (cI ..)
noncomputable def kC(f:Fg): Int:=(if f.a then 1 else 0)+(if f.b then 2 else 0)+(if f.d then 4 else 0)+(if f.l then 8 else 0)
noncomputable def pU(kvs:List (Nm×V))(fl:Nm->Fg): Prop:=∀v,getKey kvs v=if fl v=Fg.zero then none else some (.int (kC (fl v)))
theorem nq(kvs:List (Nm×V))(k:Nm)(v:V)(x:Nm): getKey (lf kvs k v) x=if x=k then some v else getKey kvs x:=by
 unfold getKey lf;split
 .rename_i hany
  have:∀kvs:List (Nm×V),(kvs.map fun p=>if(p.1 == k)=true then(p.1,v) else p).find? (fun p=>p.1 == x)=(kvs.find? fun p=>p.1 == x).map fun p=>if(p.1 == k)=true then(p.1,v) else p:=by
   intro kvs
   induction kvs with
   |nil=>rfl
   |cons p kvs ih=>
    rw[aR,c0,c0];have e:((if(p.1 == k)=true then(p.1,v) else p).1 == x)=(p.1 == x):=by split<;>rfl
    rw[e];cases p.1 == x with
    |true=>rfl
    |false=>exact ih
  rw[this];by_cases hx:x=k
  .subst hx;rw[if_pos rfl];obtain⟨p,hp,he⟩:=dO.mp hany;cases hf:kvs.find? fun p=>p.1 == x with
   |none=>have:=eE.mp hf p hp;exact absurd he this
   |some q=>
    have:=fm hf;simp only[gO,this,if_true]
  .rw[if_neg hx];cases hf:kvs.find? fun p=>p.1 == x with
   |none=>rfl
   |some q=>
    have hq:=fm hf
    have:(q.1 == k)=false:=by rw[beq_eq_false_iff_ne];rw[beq_iff_eq] at hq;rw[hq];exact hx
    simp only[gO,this,cq,if_false]
 .rename_i hany;rw[List.find?_append];by_cases hx:x=k
  .subst hx;rw[if_pos rfl];have:kvs.find? (fun p=>p.1 == x)=none:=eE.mpr fun p hp he=>hany (dO.mpr ⟨p,hp,he⟩);rw[this];simp
  .rw[if_neg hx]
   have:([(k,v)]:List (Nm×V)).find? (fun p=>p.1 == x)=none:=by have:(k == x)=false:=beq_eq_false_iff_ne.mpr fun q=>hx q.symm;simp[this]
   rw[this];simp
theorem tU(kvs:List (Nm×V))(k:Nm): pJ kvs k=(getKey kvs k).isSome:=by
 unfold pJ getKey;rw[Option.isSome_map]
 induction kvs with
 |nil=>rfl
 |cons p kvs ih=>
  rw[dP,c0,ih];cases p.1 == k<;>simp
theorem pU.put{kvs:List (Nm×V)}{fl:Nm->Fg}(h:pU kvs fl)(v:Nm)(f:Fg)(hf:f≠Fg.zero): pU (lf kvs v (.int (kC f))) (upd fl v f):=fun x=>by
 rw[nq];by_cases hx:x=v
 .subst hx;rw[if_pos rfl,l7,if_neg hf]
 .rw[if_neg hx,pA _ _ hx];exact h x
theorem nb(kvs:List (Nm×V))(k:Nm)(v:V): (lf kvs k v).length<=kvs.length+1:=by unfold lf;split<;>simp
structure GD where
 nf:Nat
 nt:Nat
 tY:List (Nm×V)
 times:List (Nm×V)
 time:Nm->Option Int
 sF:Nm->Option (List Nm)
 mn:Int
 k6:Bool
 sh:V
namespace GD
noncomputable def st(G:GD)(x:Nm): Int:=(G.time x).getD 0
noncomputable def sees(G:GD)(p:Nm): Bool:=match G.time p with
 |some t=>decide (G.mn<=t)
 |none=>false
noncomputable def par(G:GD)(x:Nm): List Nm:=((G.sF x).getD []).filter G.sees
noncomputable def A(G:GD): Al Nm:=⟨G.par,ltN G.st,pushP (ltN G.st),BU (ltN G.st),fun q=>q.length<9000->n8 (ltN G.st) q⟩
theorem ok(G:GD): G.A.Ok where
 lW:=fun q v=>tz q v
 wh:=fun q v h hl=>by
  have hl':q.length+1<9000:=by have:=(tz (lt:=ltN G.st) q v).length_eq;simp only[bd] at this;show q.length+1<9000;have hl2:(pushP (ltN G.st) q v).length<9000:=hl;exact lt_of_eq_of_lt (id (dR this)) hl
  exact zG (Dq _) (by exact c9 hl') (h (by exact c9 hl'))
 rh:=fun q h hne hl=>by obtain⟨v,q',h1,h2,h3,h4⟩:=BT (Dq G.st) hl (h hl) hne;exact⟨v,q',h1,h2,fun Y=>h3,h4⟩
structure Ok(G:GD)(H:List AO): Prop where
 tY:H[G.nf]?=some (.dict G.tY)
 times:H[G.nt]?=some (.dict G.times)
 time:∀x,getKey G.times x=(G.time x).map .int
 sF:∀x,getKey G.tY x=(G.sF x).map fun l=>.lst (l.map .bytes)
 sh:(G.sh=.none/\G.k6=false)\/G.sh=.fset (!G.k6)
 few:∀x l,G.sF x=some l->l.length<=4
 tot:G.k6=true\/∀x,(G.time x).isSome=true->∃l,G.sF x=some l/\∀p∈l,(G.time p).isSome=true
end GD
noncomputable def hp(H:List AO)(a b c:AO): List AO:=H++[a,b,c]
section
variable{H:List AO}{a b c x:AO}
theorem hp0:(hp H a b c)[H.length]?=some a:=by unfold hp;simp
theorem hp1:(hp H a b c)[H.length+1]?=some b:=by unfold hp;simp
theorem hp2:(hp H a b c)[H.length+2]?=some c:=by unfold hp;simp
theorem MI:(hp H a b c).set H.length x=hp H x b c:=by unfold hp;rw[cn _ _ (aM _)];simp
theorem MH:(hp H a b c).set (H.length+1) x=hp H a x c:=by unfold hp;rw[cn _ _ (ay _ _)];simp
theorem KT:(hp H a b c).set (H.length+2) x=hp H a b x:=by unfold hp;rw[cn _ _ (ay _ _)];simp
theorem hpo{i:Nat}{y:AO}(h:H[i]?=some y): (hp H a b c)[i]?=some y:=by unfold hp;rw[aH (au.mp h).1];exact h
end
theorem Lg:∀f:Fg,(iC.bitAnd (kC f) 8 == 8)=f.l:=fun⟨a,b,d,l⟩=>
 (by decide +kernel:∀a b d l:Bool,(iC.bitAnd (kC ⟨a,b,d,l⟩) 8 == 8)=l) a b d l
theorem HQ:∀f:Fg,(iC.bitAnd (kC f) 4 == 4)=f.d:=fun⟨a,b,d,l⟩=>
 (by decide +kernel:∀a b d l:Bool,(iC.bitAnd (kC ⟨a,b,d,l⟩) 4 == 4)=d) a b d l
theorem Ed:∀f:Fg,iC.bitOr (kC f) 8=kC {f with l:=true}:=fun⟨a,b,d,l⟩=>
 (by decide +kernel:∀a b d l:Bool,iC.bitOr (kC ⟨a,b,d,l⟩) 8=kC ⟨a,b,d,true⟩) a b d l
theorem Ee:∀f:Fg,iC.bitOr (kC f) 2=kC {f with b:=true}:=fun⟨a,b,d,l⟩=>
 (by decide +kernel:∀a b d l:Bool,iC.bitOr (kC ⟨a,b,d,l⟩) 2=kC ⟨a,true,d,l⟩) a b d l
theorem GS:∀(f c:Fg),c.l=false->(iC.bitAnd (kC f) (kC c) == kC c)=decide (Fg.Sub c f):=fun⟨a,b,d,l⟩ ⟨a',b',d',l'⟩ h=>by cases h;exact(by decide +kernel:∀a b d l a' b' d':Bool,(iC.bitAnd (kC ⟨a,b,d,l⟩) (kC ⟨a',b',d',false⟩) == kC ⟨a',b',d',false⟩)=decide (Fg.Sub ⟨a',b',d',false⟩ ⟨a,b,d,l⟩)) a b d l a' b' d'
theorem Jt:∀(f c:Fg),iC.bitOr (kC f) (kC c)=kC (Fg.or f c):=fun⟨a,b,d,l⟩ ⟨a',b',d',l'⟩=>
 (by decide +kernel:∀a b d l a' b' d' l':Bool,iC.bitOr (kC ⟨a,b,d,l⟩) (kC ⟨a',b',d',l'⟩)=kC (Fg.or ⟨a,b,d,l⟩ ⟨a',b',d',l'⟩)) a b d l a' b' d' l'
section
variable{H:List AO}{vs iv:List Slot}{Q:Res AF->Prop}{σ:AS}
theorem Ks{pb:P AF}{v:V}(h:Rt v H (pb ⟨H,iv⟩)): P.fn iv pb ⟨H,vs⟩=.ok v ⟨H,vs⟩:=by obtain⟨_,h⟩:=h;unfold P.fn;refine R1 h ?_;exact oA rfl
theorem pP{a b:V}{i j:Nat}{s t:Slot}(hi:vs[i]?=some s)(hs:s.nf=true)(hj:(vs.set i (.val a))[j]?=some t)(ht:t.nf=true): P.pair (fun x=>P.kd i x) (fun x=>P.kd j x) (.tup [a,b]) ⟨H,vs⟩=.ok () ⟨H,(vs.set i (.val a)).set j (.val b)⟩:=iN (kh hi hs) (kh hj ht)
theorem IC{n i:Nat}{asg:V->P Unit}{bp:P AF}{ys:List V}(h:vs[i]?=some (.val (.work n)))(hq:Q (P.forL asg bp ys ⟨H,vs⟩)): Q (P.sS i n asg bp ys ⟨H,vs⟩):=kM (by unfold P.sS;dsimp only;refine R1 h ?_;exact if_pos rfl) hq
theorem z6{kvs:List (Nm×V)}{k:Nm}{v:V}(h:getKey kvs k=some v): pJ kvs k=true:=(tU kvs k).trans (h▸rfl)
theorem Li{n:Nat}{kvs:List (Nm×V)}{k:Nm}(h:H[n]?=some (.dict kvs)): nv ⟨H,vs⟩ .In (.bytes k) (.ref n)=some (pJ kvs k):=by show inV _ _ _=_;unfold inV;refine R1 (wH h) ?_;dsimp only;exact R1 (pg h) rfl
theorem xe{n:Nat}{kvs:List (Nm×V)}{k:Nm}{v:V}(h:H[n]?=some (.dict kvs))(hk:getKey kvs k=some v): P.index (.ref n) (.bytes k) ⟨H,vs⟩=.ok v ⟨H,vs⟩:=(HT h).trans (congrArg (fun o=>xN o _) hk)
end
theorem pU.has{kvs:List (Nm×V)}{fl:Nm->Fg}(h:pU kvs fl){v:Nm}(hz:fl v≠Fg.zero): getKey kvs v=some (.int (kC (fl v))):=(h v).trans (if_neg hz)
theorem pU.No{kvs:List (Nm×V)}{fl:Nm->Fg}(h:pU kvs fl)(v:Nm): (getKey kvs v).getD (.int 0)=.int (kC (fl v)):=by
 refine R1 (h v) ?_;split
 .rename_i e;exact R1 e rfl
 .rfl
theorem Dj(st:Nm->Int)(q:List Nm): ql (q.map (ent st))=some (q.map fun x=>.tup [.int (st x),.bytes x]):=by
 induction q with
 |nil=>rfl
 |cons x q ih=>
  refine R1 aR ?_;unfold ql;refine R1 ih ?_;show some (V.tup [.int (-(-(st x))),.bytes x]::_)=_;exact R1 (Int.neg_neg ..) rfl
theorem C4{H:List AO}{n:Nat}{x y:AO}(h:H[n]?=some x): (H.set n y).set n x=H:=by refine R1 (List.set_set ..) ?_;obtain⟨hn,h⟩:=au.mp h;exact R2 h (R1 (fv ..) rfl)
theorem Lj{H:List AO}{vs:List Slot}{m n:Nat}{st:Nm->Int}{q:List Nm}{kvs:List (Nm×V)}{fl:Nm->Fg}(hq:H[n]?=some (.list (q.map (ent st))))(hd:H[m]?=some (.dict kvs))(hf:pU kvs fl)(hz:∀v∈q,fl v≠Fg.zero):
  P.mX (.clo 0 [.int 4]) [.work n,.ref m] ⟨H,vs⟩=.ok (.bool (q.any fun v=>!(fl v).d)) ⟨H,vs⟩:=by
 have hne:n≠m:=fun e=>by subst e;rw[hd] at hq;cases hq
 have hd':(H.set n .dead)[m]?=some (.dict kvs):=(aJ hne).trans hd
 have key:P.fn [.val (.work n),.val (.ref m),.unset,.unset,.val (.int 4)] (vN n (q.map fun x=>V.tup [.int (st x),.bytes x])).1 ⟨H.set n .dead,vs⟩=.ok (.bool (q.any fun v=>!(fl v).d)) ⟨H.set n .dead,vs⟩:=by
  refine Ks ?_;delta vN;dsimp only;refine qG (IC rfl (rM (g:=fun x=>V.tup [.int (st x),.bytes x]) (fun xs σ=>(∀v∈xs,fl v≠Fg.zero)/\(xs.any fun v=>!(fl v).d)=(q.any fun v=>!(fl v).d)/\∃s2 s3:Slot,s2.nf=true/\s3.nf=true/\σ=⟨H.set n .dead,[.val (.work n),.val (.ref m),s2,s3,.val (.int 4)]⟩) ?_ ?_ q _ ⟨hz,rfl,.unset,.unset,rfl,rfl,rfl⟩))
  .rintro x xs σ ⟨hx,ho,s2,s3,h2,h3,rfl⟩;have g:=hf.has (hx x ac);rw[dP] at ho;refine kW (pP rfl h2 rfl h3) (Kq (iN rfl (iN rfl (jF ((Li hd').trans (congrArg some (z6 g)))))) ?_);refine qg (c:=!(fl x).d) (mu (iN (iN (iN rfl (iN rfl (xe hd' g))) rfl) (iN rfl (jF (congrArg some (HQ (fl x))))))) (fun h=>?_) fun h=>?_
   .rw[h,eh] at ho;exact F9 (BF ⟨_,congrArg (fun b=>Res.ok (AF.ret (V.bool b)) _) ho⟩)
   .rw[h,fL] at ho;exact mi ⟨fun v hv=>hx v (ad _ hv),ho,_,_,rfl,rfl,rfl⟩
  .rintro σ ⟨_,ho,s2,s3,_,_,rfl⟩;exact qW ⟨_,congrArg (fun b=>Res.ok (AF.ret (V.bool b)) _) ho⟩
 show P.zJ n (fun ys=>P.fn [.val (.work n),.val (.ref m),.unset,.unset,.val (.int 4)] (vN n ys).1) ⟨H,vs⟩=_;unfold P.zJ;dsimp only;refine R1 hq ?_;dsimp only;refine R1 (Dj ..) ?_;dsimp only;refine R1 key ?_;dsimp only;refine R1 (bk (au.mp hq).1) ?_;exact congrArg (fun H=>Res.ok _ (AS.mk H vs)) (C4 hq)
theorem Lr:LS uF:=Kp
theorem Lq:LM Hh:=Ko
noncomputable def P.Go(q:P Bool): P Bool:=((P.var 5).bind fun a=>(P.pure V.none).bind fun b=>P.cmp CmpOp.IsNot a b).bind fun b=>if b=true then((P.var 5).bind P.truth).bind fun b=>if b=true then P.pure (BoolOp.And == BoolOp.And) else P.pure false else q
noncomputable def P.I5:P Bool:=((P.var 5).bind fun a=>(P.pure V.none).bind fun b=>P.cmp CmpOp.Is a b).bind fun b=>if b=true then P.pure true else(((P.var 5).bind P.truth).bind fun b=>P.pure !b).bind fun b=>if b=true then P.pure true else P.pure (BoolOp.Or == BoolOp.And)
noncomputable def P.parent:P AF:=
 ((((P.var 7).bind fun v σ=>
     if o6 σ v=true then
      ((P.var 19).bind fun v=>
         ((P.pure (V.int 0)).bind fun v=>
            (P.pure []).bind fun vs=>
             P.pure (v::vs)).bind
          fun vs=>P.pure (v::vs)).bind
       (fun x=>P.dictGet v x) σ
     else Res.stuck).bind
   fun v=>(P.kd 20 v).next).seq
 (((((P.var 20).bind fun a=>
        (P.var 14).bind fun b=>
         P.bin Operator.BitAnd a b).bind
      fun a=>(P.var 14).bind fun b=>P.cmp CmpOp.Eq a b).bind
    fun c=>
    if c=true then P.pure AF.cont else P.pure AF.next).seq
  (((((P.var 3).bind fun v=>
         if vw v=true then
          ((P.var 19).bind fun v=>
             (P.pure []).bind fun vs=>
              P.pure (v::vs)).bind
           (P.mX v)
         else P.stuck).bind
       fun v=>(P.kd 21 v).next).try_
     (((P.Go (P.pure false)).bind
        fun c=>
        if c=true then
         (P.pure AF.cont).seq (P.pure AF.next)
        else P.pure AF.next).seq
      (P.raise.seq (P.pure AF.next)))).seq
   ((((P.var 21).bind fun a=>
        (P.var 4).bind fun b=>P.cmp CmpOp.Lt a b).bind
      fun c=>
      if c=true then P.pure AF.cont else P.pure AF.next).seq
    ((((P.var 20).bind fun a=>
         (P.var 14).bind fun b=>
          P.bin Operator.BitOr a b).bind
       fun v=>
       (P.var 7).bind fun o=>
        (P.var 19).bind fun i=>(P.setItem o i v).next).seq
     (((P.var 12).bind fun v σ=>
        if qL v=true then
         ((((P.var 21).bind fun v=>
                ((P.var 19).bind fun v=>
                   (P.pure []).bind fun vs=>
                    P.pure (v::vs)).bind
                 fun vs=>P.pure (v::vs)).bind
              P.tuple).bind
            fun v=>
            (P.pure []).bind fun vs=>
             P.pure (v::vs)).bind
          (fun vs=>uF (v::vs)) σ
        else Res.stuck).bind
      fun x=>P.pure AF.next))))))
noncomputable def P.rest:P AF:=
 (((((P.var 0).bind fun v=>
         if vw v=true then
          ((P.var 17).bind fun v=>
             (P.pure []).bind fun vs=>P.pure (v::vs)).bind
           (P.mX v)
         else P.stuck).bind
       fun v=>(P.kd 18 v).next).try_
     (((P.Go (P.pure false)).bind
        fun c=>
        if c=true then(P.pure AF.cont).seq (P.pure AF.next)
        else P.pure AF.next).seq
      (P.raise.seq (P.pure AF.next)))).seq
   (((P.var 18).bind P.truth).bind fun c=>
    if c=true then
     ((P.var 18).bind P.items).nP.bind
      (P.forL (fun x=>P.kd 19 x) P.parent)
    else P.pure AF.next))
noncomputable def P.turn:P AF:=
 (((P.var 12).bind fun v σ=>
      if qL v=true then(P.pure []).bind (fun vs=>Hh (v::vs)) σ
      else Res.stuck).bind
    fun v=>(P.kd 15 v).next).seq
  ((((P.var 15).bind fun a=>(P.pure V.none).bind fun b=>P.cmp CmpOp.Is a b).bind
     fun c=>if c=true then P.pure AF.brk else P.pure AF.next).seq
   (((P.var 15).bind fun v=>
      (P.pair (fun x=>P.kd 16 x) (fun x=>P.kd 17 x) v).next).seq
    (((((P.var 7).bind fun a=>(P.var 17).bind fun i=>P.index a i).bind fun a=>
         (((P.var 8).bind fun a=>
              (P.var 9).bind fun b=>P.bin Operator.BitOr a b).bind
            fun a=>(P.cvar 24).bind fun b=>P.bin Operator.BitOr a b).bind
          fun b=>P.bin Operator.BitAnd a b).bind
       fun v=>(P.kd 14 v).next).seq
     ((((P.var 14).bind fun a=>
          ((P.var 8).bind fun a=>
             (P.var 9).bind fun b=>P.bin Operator.BitOr a b).bind
           fun b=>P.cmp CmpOp.Eq a b).bind
        fun c=>
        if c=true then
         ((((((P.var 7).bind fun a=>(P.var 17).bind fun i=>P.index a i).bind
                  fun a=>
                  (P.var 10).bind fun b=>
                   P.bin Operator.BitAnd a b).bind
                fun a=>(P.var 10).bind fun b=>P.cmp CmpOp.Eq a b).bind
              fun b=>P.pure !b).bind
            fun c=>
            if c=true then
             ((((P.var 7).bind fun a=>
                    (P.var 17).bind fun i=>P.index a i).bind
                  fun a=>
                  (P.var 10).bind fun b=>
                   P.bin Operator.BitOr a b).bind
                fun v=>
                (P.var 7).bind fun o=>
                 (P.var 17).bind fun i=>(P.setItem o i v).next).seq
              (((P.var 6).bind fun v σ=>
                 if nQ σ v=true then
                  ((((P.var 16).bind fun v=>
                         ((P.var 17).bind fun v=>
                            (P.pure []).bind fun vs=>
                             P.pure (v::vs)).bind
                          fun vs=>P.pure (v::vs)).bind
                       P.tuple).bind
                     fun v=>
                     (P.pure []).bind fun vs=>
                      P.pure (v::vs)).bind
                   (fun x=>P.append v x) σ
                 else Res.stuck).bind
               fun x=>P.pure AF.next)
            else P.pure AF.next).seq
          (((P.var 14).bind fun a=>
             (P.cvar 24).bind fun b=>P.bin Operator.BitOr a b).bind
           fun v=>(P.kd 14 v).next)
        else P.pure AF.next).seq
      P.rest))))
noncomputable def P.fin:P AF:=
 ((((P.pure []).bind P.newList).bind fun v=>(P.kd 22 v).next).seq
  (((P.vu 6).nP.bind
     (P.forL (fun x=>P.pair (fun x=>P.kd 16 x) (fun x=>P.kd 17 x) x)
      (((((((P.var 7).bind fun a=>(P.var 17).bind fun i=>P.index a i).bind fun a=>
               (P.cvar 24).bind fun b=>P.bin Operator.BitAnd a b).bind
             fun a=>(P.cvar 24).bind fun b=>P.cmp CmpOp.Eq a b).bind
           fun b=>P.pure !b).bind
         fun b=>
         if b=true then
          ((((P.var 16).bind fun v=>
                 ((P.var 17).bind fun v=>
                    (P.pure []).bind fun vs=>P.pure (v::vs)).bind
                  fun vs=>P.pure (v::vs)).bind
               P.tuple).bind
             fun a=>(P.var 22).bind fun b=>P.cmp CmpOp.NotIn a b).bind
           fun b=>
           if b=true then P.pure (BoolOp.And == BoolOp.And) else P.pure false
         else P.pure false).bind
       fun c=>
       if c=true then
        ((P.var 22).bind fun v σ=>
           if nQ σ v=true then
            ((((P.var 16).bind fun v=>
                   ((P.var 17).bind fun v=>
                      (P.pure []).bind fun vs=>P.pure (v::vs)).bind
                    fun vs=>P.pure (v::vs)).bind
                 P.tuple).bind
               fun v=>(P.pure []).bind fun vs=>P.pure (v::vs)).bind
             (fun x=>P.append v x) σ
           else Res.stuck).bind
         fun x=>P.pure AF.next
       else P.pure AF.next))).seq
   ((((P.var 22).bind P.qX).bind fun x=>P.pure AF.next).seq
    (((P.comp [none,none,none] (P.vu 22)
         (fun x=>P.pair (fun x=>P.kd 1 x) (fun x=>P.kd 2 x) x)
         (P.pure true) (P.var 2)).bind
       fun v=>(P.kd 23 v).nP.next).seq
     ((P.var 23).bind fun v=>P.pure (AF.ret v))))))
noncomputable def P.put(k:Nat): P AF:=
 ((((P.var 12).bind fun v σ=>
        if qL v=true then
         (((((P.var 3).bind fun v=>
                  if vw v=true then
                   ((P.var k).bind fun v=>
                      (P.pure []).bind fun vs=>P.pure (v::vs)).bind
                    (P.mX v)
                  else P.stuck).bind
                fun v=>
                ((P.var k).bind fun v=>
                   (P.pure []).bind fun vs=>P.pure (v::vs)).bind
                 fun vs=>P.pure (v::vs)).bind
              P.tuple).bind
            fun v=>(P.pure []).bind fun vs=>P.pure (v::vs)).bind
          (fun vs=>uF (v::vs)) σ
        else Res.stuck).bind
      fun x=>P.pure AF.next).try_
    (((P.I5).bind
       fun c=>if c=true then P.raise.seq (P.pure AF.next) else P.pure AF.next).seq
     ((((P.var 12).bind fun v σ=>
          if qL v=true then
           ((((P.pure (V.int 0)).bind fun v=>
                  ((P.var k).bind fun v=>
                     (P.pure []).bind fun vs=>P.pure (v::vs)).bind
                   fun vs=>P.pure (v::vs)).bind
                P.tuple).bind
              fun v=>(P.pure []).bind fun vs=>P.pure (v::vs)).bind
            (fun vs=>uF (v::vs)) σ
          else Res.stuck).bind
        fun x=>P.pure AF.next).seq
      (P.pure AF.next))))
noncomputable def P.loop:P AF:=
 P.nT 100000
    (((P.var 11).bind fun v=>
       if vw v=true then
        ((P.var 12).bind fun v=>
           ((P.var 7).bind fun v=>(P.pure []).bind fun vs=>P.pure (v::vs)).bind
            fun vs=>P.pure (v::vs)).bind
         (P.mX v)
       else P.stuck).bind
     P.truth) P.turn
noncomputable def P.starts:P AF:=
 (((P.var 2).bind P.items).nP.bind
   (P.forL (fun x=>P.kd 13 x)
    ((((P.var 7).bind fun v σ=>
         if o6 σ v=true then
          ((P.var 13).bind fun v=>
             ((P.pure (V.int 0)).bind fun v=>
                (P.pure []).bind fun vs=>P.pure (v::vs)).bind
              fun vs=>P.pure (v::vs)).bind
           (fun x=>P.dictGet v x) σ
         else Res.stuck).bind
       fun v=>(P.kd 14 v).next).seq
     ((((P.var 14).bind fun a=>(P.var 9).bind fun b=>P.bin Operator.BitOr a b).bind
        fun v=>
        (P.var 7).bind fun o=>(P.var 13).bind fun i=>(P.setItem o i v).next).seq
      (P.put 13)))))
structure Env where
 G:GD
 H:List AO
 c:Nm
 C:List Nm
structure Tl where
 (a b c d e f g h i j k:Slot)
structure Tl.Ok(T:Tl): Prop where
 a:T.a.nf=true
 b:T.b.nf=true
 c:T.c.nf=true
 d:T.d.nf=true
 e:T.e.nf=true
 f:T.f.nf=true
 g:T.g.nf=true
 h:T.h.nf=true
 i:T.i.nf=true
 j:T.j.nf=true
 k:T.k.nf=true
noncomputable abbrev cv(st:Nm->Int)(x:Nm): V:=.tup [.int (st x),.bytes x]
namespace Env
variable(E:Env)
noncomputable def fr(T:Tl): List Slot:=[.val (.clo 1 [.ref E.G.nf]),.val (.bytes E.c),.val (.lst (E.C.map .bytes)),.val (.clo 2 [.ref E.G.nt]),.val (.int E.G.mn),.val E.G.sh,.val (.ref E.H.length),.val (.ref (E.H.length+1)),.val (.int 1),.val (.int 2),.val (.int 8),.val (.clo 0 [.int 4]),.val (.work (E.H.length+2)),T.a,T.b,T.c,T.d,T.e,T.f,T.g,T.h,T.i,T.j,T.k,.o7 (.int 4)]
noncomputable def he(l:List Nm)(d:List (Nm×V))(q:List Nm): List AO:=hp E.H (.list (l.map (cv E.G.st))) (.dict d) (.list (q.map (ent E.G.st)))
end Env
section
variable{σ:AS}{G:GD}{H:List AO}
theorem Ep(K:G.Ok H)(h:P.var 5 σ=.ok G.sh σ): P.Go (P.pure false) σ=.ok G.k6 σ:=by
 unfold P.Go;rcases K.sh with ⟨h1,h2⟩ | h1
 .rw[h1] at h;refine R1 h2 ?_;exact lP (iN h rfl) rfl
 .rw[h1] at h;exact oh (iN h rfl) (ly (iN h (congrArg (Res.ok · σ) (dH _))) rfl)
theorem JA(K:G.Ok H)(h:P.var 5 σ=.ok G.sh σ): P.I5 σ=.ok (!G.k6) σ:=by
 unfold P.I5;rcases K.sh with ⟨h1,h2⟩ | h1
 .rw[h1] at h;refine R1 h2 ?_;exact oh (iN h rfl) rfl
 .rw[h1] at h;exact lP (iN h rfl) (lC (mu (lc (iN h rfl) (dH _))) rfl)
end
variable{E:Env}{Q:Res AF->Prop}
structure Ly(E:Env)(s:St Nm)(B:Nat)(T:Tl)(kvs:List (Nm×V)): Prop where
 fl:pU kvs s.fl
 le:kvs.length+s.pq.length+s.cand.length<=B
 ok:T.Ok
noncomputable def Lz(E:Env)(s:St Nm)(B:Nat)(f:Tl->Tl)(σ:AS): Prop:=∃T kvs,σ=⟨E.he s.cand kvs s.pq,E.fr (f T)⟩/\Ly E s B T kvs
noncomputable def wb(v:V)(T:Tl): Tl:={T with b:=.val v}
theorem Lz.le{s:St Nm}{f:Tl->Tl}{b B:Nat}{σ:AS}(h:Lz E s b f σ)(hb:b<=B): Lz E s B f σ:=let ⟨T,kvs,h1,h2⟩:=h;⟨T,kvs,h1,h2.fl,ab h2.le hb,h2.ok⟩
theorem la{e:P V}{q:P AF}{i:Nat}{v:V}{s:Slot}{H H':List AO}{vs vs':List Slot}(h:e ⟨H,vs⟩=.ok v ⟨H',vs'⟩)(hi:vs'[i]?=some s)(hs:s.nf=true)(hq:Q (q ⟨H',vs'.set i (.val v)⟩)): Q (P.seq (P.bind e fun v=>(P.kd i v).next) q ⟨H,vs⟩):=
 jt (iN h (iN (kh hi hs) rfl)) hq
theorem Ky{f cf:Fg}(hcl:cf.l=false)(hcz:cf≠Fg.zero): Fg.or f cf≠Fg.zero:=fun e=>hcz (by obtain⟨a,b,d,l⟩:=cf;obtain⟨a',b',d',l'⟩:=f;revert e;revert a b d l a' b' d' l';decide +kernel)
theorem Dt{J:AS->Prop}{σ:AS}(h:J σ): Lp J Q (.ok .cont σ):=by unfold Lp;exact h
theorem rS{p q:P AF}{σ σ1:AS}(h:p σ=.ok .cont σ1): P.seq p q σ=.ok .cont σ1:=iN h rfl
theorem sG{α:Type}{A:P V}{g:AS->V->Bool}{p:V->P α}{v:V}{σ:AS}{r:Res α}(hA:A σ=.ok v σ)(hg:g σ v=true)(h:p v σ=r): (A.bind fun v σ=>if g σ v=true then p v σ else .stuck) σ=r:=iN hA ((if_pos hg).trans h)
theorem uR{A:P V}{g:V->Bool}{p:V->P V}{v:V}{σ:AS}{r:Res V}(hA:A σ=.ok v σ)(hg:g v=true)(h:p v σ=r): (A.bind fun v=>if g v=true then p v else P.stuck) σ=r:=iN hA ((congrFun (if_pos hg) σ).trans h)
theorem le2{a a' b c B:Nat}(h:a+b+c<=B)(h1:a'<=a+1): a'+(b+1)+c<=B+2:=ab (aO (aO h1 (b+1)) c) (by rw[dY a 1 b 1,bY];exact aO h 2)
theorem zQ{a b c B:Nat}(h:a+b+c<=B): a<=B:=ab (ay _ _) (ab (ay _ _) h)
theorem wL{a b c B:Nat}(h:a+b+c<=B): b<=B:=ab (bI _ _) (ab (ay _ _) h)
theorem Env.put{l q:List Nm}{d:List (Nm×V)}{vs:List Slot}{k:Nm}{x y:Int}(hd:d.length<9000)(e:x=y): P.setItem (.ref (E.H.length+1)) (.bytes k) (.int x) ⟨E.he l d q,vs⟩=.ok () ⟨E.he l (lf d k (.int y)) q,vs⟩:=
 e▸(Em hp1 (aF hd (by decide))).trans (congrArg (fun H=>Res.ok _ (AS.mk H vs)) MH)
theorem Env.add{l q:List Nm}{d:List (Nm×V)}{vs:List Slot}{v:Nm}{t:Int}(hq:q.length<9000)(e:E.G.st v=t): uF [.work (E.H.length+2),.tup [.int t,.bytes v]] ⟨E.he l d q,vs⟩=.ok .none ⟨E.he l d (pushP (ltN E.G.st) q v),vs⟩:=
 e▸(Lr (E.he l d q) vs _ E.G.st q v hp2 hq).trans (congrArg (fun H=>Res.ok _ (AS.mk H vs)) KT)
theorem xJ(K:E.G.Ok E.H){cf:Fg}(hcl:cf.l=false)(hcz:cf≠Fg.zero){p:Nm}{s:St Nm}{b:Nat}(hb:b<9000)(hk:E.G.k6=true\/(E.G.time p).isSome=true){σ:AS}
  (h:Lz E s b (wb (.int (kC cf))) σ):Lp (Lz E (proc E.G.A cf ([p].filter E.G.sees) s) (b+2) (wb (.int (kC cf)))) Q (P.bind (P.kd 19 (.bytes p)) (fun Y=>P.parent) σ):=by
 obtain⟨T,kvs,rfl,hL⟩:=h;have hle:=hL.le;refine kW (kh rfl hL.ok.g) ?_;unfold P.parent;refine la (sG rfl (tO hp1) (iN rfl ((HX hp1).trans (congrArg (Res.ok · _) (hL.fl.No p))))) rfl hL.ok.h ?_;have ok:∀x,x.nf=true->({T with g:=.val (.bytes p),h:=.val (.int (kC (s.fl p))),i:=x}:Tl).Ok:=fun x h=>{hL.ok with g:=rfl,h:=rfl,i:=h};have skip:E.G.sees p=false->proc E.G.A cf ([p].filter E.G.sees) s=s:=fun h=>by rw[dw (by rw[h];decide)];rfl
 have hc:∀σ,nv σ .Eq (.int (iC.bitAnd (kC (s.fl p)) (kC cf))) (.int (kC cf))=some (decide (Fg.Sub cf (s.fl p))):=fun σ=>congrArg some (GS (s.fl p) cf hcl);have seen:E.G.sees p=true->proc E.G.A cf ([p].filter E.G.sees) s=if Fg.Sub cf (s.fl p) then s else{s with fl:=upd s.fl p (Fg.or (s.fl p) cf),pq:=E.G.A.push s.pq p}:=fun h=>by exact R1 (dy h) rfl
 by_cases e1:Fg.Sub cf (s.fl p)
 .have hs:proc E.G.A cf ([p].filter E.G.sees) s=s:=by
   cases h:E.G.sees p with
   |false=>exact skip h
   |true=>exact(seen h).trans (if_pos e1)
  refine R1 hs ?_;exact kM (iN (oh (iN (iN rfl (iN rfl rfl)) (iN rfl (jF ((hc _).trans (congrArg some (decide_eq_true e1)))))) rfl) rfl) (Dt ⟨{T with g:=.val (.bytes p),h:=.val (.int (kC (s.fl p)))},kvs,rfl,hL.fl,ab hle (ay _ _),ok _ hL.ok.i⟩)
 refine jt (lP (iN (iN rfl (iN rfl rfl)) (iN rfl (jF ((hc _).trans (congrArg some (decide_eq_false e1)))))) rfl) ?_;have ht:=fun vs=>Ai (H:=E.he s.cand kvs s.pq) (vs:=vs) (k:=p) (hpo K.times);rw[K.time p] at ht;cases e2:E.G.time p with
 |none=>
  have hsh:E.G.k6=true:=hk.elim id fun h=>by rw[e2] at h;cases h
  rw[e2] at ht;rw[skip (by unfold GD.sees;rw[e2])];exact kM (rS (pN (lY (uR rfl rfl (iN rfl (ht _)))) (rS (oh (lc (Ep K rfl) hsh) rfl)))) (Dt ⟨{T with g:=.val (.bytes p),h:=.val (.int (kC (s.fl p)))},kvs,rfl,hL.fl,ab hle (ay _ _),ok _ hL.ok.i⟩)
 |some t=>
  rw[e2] at ht;refine jt (uc (iN (uR rfl rfl (iN rfl (ht _))) (iN (kh rfl hL.ok.i) rfl))) ?_;have hst:E.G.st p=t:=by unfold GD.st;exact R1 e2 rfl
  have hT:∀x y,Ly E s (b+2) {T with g:=.val (.bytes p),h:=.val x,i:=.val y} kvs:=fun x y=>⟨hL.fl,ab hle (ay _ _),{hL.ok with g:=rfl,h:=rfl,i:=rfl}⟩;by_cases e3:t<E.G.mn
  .rw[skip (by unfold GD.sees;rw[e2];exact decide_eq_false (Int.not_le.mpr e3))];exact kM (rS (oh (iN rfl (iN rfl (jF (congrArg some (decide_eq_true e3))))) rfl)) (Dt ⟨_,kvs,rfl,hT _ _⟩)
  .rw[seen (by unfold GD.sees;rw[e2];exact decide_eq_true (cU.mp e3)),if_neg e1];refine jt (lP (iN rfl (iN rfl (jF (congrArg some (decide_eq_false e3))))) rfl) ?_;refine jt (iN (iN rfl (iN rfl rfl)) (iN rfl (iN rfl (iN (E.put (ag (zQ hle) hb) (Jt _ _)) rfl)))) ?_;refine kM (iN (sG rfl rfl (iN (iN (iN rfl (iN rfl rfl)) rfl) (E.add (ag (wL hle) hb) hst))) rfl) (mi ⟨{T with g:=.val (.bytes p),h:=.val (.int (kC (s.fl p))),i:=.val (.int t)},_,rfl,hL.fl.put p _ (Ky hcl hcz),?_,(hT _ _).ok⟩);have h1:=nb kvs p (.int (kC (Fg.or (s.fl p) cf)));have h2:(E.G.A.push s.pq p).length=s.pq.length+1:=(E.G.ok.lW s.pq p).length_eq;exact(congrArg (fun n=>_+n+s.cand.length<=b+2) h2).mpr (le2 hle h1)
variable{E:Env}{Q:Res AF->Prop}
theorem BS{G:GD}(cf:Fg)(p:Nm)(ps:List Nm)(s:St Nm): proc G.A cf ((p::ps).filter G.sees) s=proc G.A cf (ps.filter G.sees) (proc G.A cf ([p].filter G.sees) s):=by
 refine R1 dk (R1 dk ?_);cases G.sees p with
 |false=>rfl
 |true=>
  show(if _ then _ else _)=proc G.A cf _ (if _ then _ else _);split<;>rfl
theorem Ga{J J':AS->Prop}(hJ:∀σ,J σ->J' σ){r:Res AF}(h:Lp J Q r): Lp J' Q r:=by
 unfold Lp at *;cases r with
 |ok f σ=>cases f<;>first | exact hJ _ h | exact h
 |_=>exact h
theorem II{p q:P AF}{σ σ1:AS}(h:p σ=.ok .cont σ1)(hq:Q (.ok .cont σ1)): Q (P.seq p q σ):=kM (rS h) hq
theorem zF(K:E.G.Ok E.H){cf:Fg}(hcl:cf.l=false)(hcz:cf≠Fg.zero){v:Nm}{s:St Nm}{b:Nat}(hb:b+8<9000)(hv:E.G.k6=true\/(E.G.time v).isSome=true){σ:AS}{J:AS->Prop}
  (hJ:∀σ,Lz E (proc E.G.A cf (E.G.par v) s) (b+8) (wb (.int (kC cf))) σ->J σ)
  (h:Lz E s b (fun T=>{T with b:=.val (.int (kC cf)),e:=.val (.bytes v)}) σ):Lp J Q (P.rest σ):=by
 obtain⟨T,kvs,rfl,hL⟩:=h;have hk:=fun vs=>Lh (H:=E.he s.cand kvs s.pq) (vs:=vs) (k:=v) (hpo K.tY);rw[K.sF v] at hk;unfold P.rest;cases e:E.G.sF v with
 |none=>
  have hs:E.G.k6=true:=hv.elim id fun h=>K.tot.elim id fun h'=>by obtain⟨l,h1,_⟩:=h' v h;rw[e] at h1;cases h1
  have hp:E.G.par v=[]:=by unfold GD.par;exact R1 e rfl
  rw[e] at hk;rw[hp] at hJ;exact II (pN (lY (uR rfl rfl (iN rfl (hk _)))) (rS (oh (lc (Ep K rfl) hs) rfl))) (Dt (hJ _ ⟨{T with e:=.val (.bytes v)},kvs,rfl,hL.fl,ab hL.le (ay _ _),{hL.ok with e:=rfl}⟩))
 |some l=>
  have hp:E.G.par v=l.filter E.G.sees:=by unfold GD.par;exact R1 e rfl
  rw[e] at hk;rw[hp] at hJ;have hl:=K.few v l e
  have hl2:∀p∈l,E.G.k6=true\/(E.G.time p).isSome=true:=fun p hp=>hv.elim .inl fun h=>K.tot.elim .inl fun h'=>by obtain⟨l',q1,q2⟩:=h' v h;rw[e] at q1;cases q1;exact .inr (q2 p hp)
  refine jt (uc (iN (uR rfl rfl (iN rfl (hk _))) (iN (kh rfl hL.ok.f) rfl))) ?_;have run:∀(ps:List Nm) σ,_->Lp J Q _:=rM (asg:=fun x=>P.kd 19 x) (bp:=P.parent) (g:=V.bytes) (fun ps σ=>∃s' b',Lz E s' b' (wb (.int (kC cf))) σ/\b'+2*ps.length<=b+8/\proc E.G.A cf (ps.filter E.G.sees) s'=proc E.G.A cf (l.filter E.G.sees) s/\∀p∈ps,E.G.k6=true\/(E.G.time p).isSome=true) ?_ ?_
  .have h0:∀vs,Lz E s b (wb (.int (kC cf))) ⟨E.he s.cand kvs s.pq,vs⟩->Lp J Q (P.forL (fun x=>P.kd 19 x) P.parent (l.map .bytes) ⟨E.he s.cand kvs s.pq,vs⟩):=fun vs h=>run l _ ⟨s,b,h,aC (bF 2 hl) b,rfl,hl2⟩;have h1:Lz E s b (wb (.int (kC cf))) ⟨E.he s.cand kvs s.pq,_⟩:=⟨{T with e:=.val (.bytes v),f:=.val (.lst (l.map .bytes))},kvs,rfl,hL.fl,hL.le,{hL.ok with e:=rfl,f:=rfl}⟩;refine qg (c:=!(l.map V.bytes).isEmpty) (iN rfl rfl) (fun Y=>kW (pd rfl) (h0 _ h1)) fun hn=>?_;cases l with
   |nil=>exact mi (hJ _ (h1.le (ay _ _)))
   |cons _ _=>cases hn
  .rintro p ps σ ⟨s',b',h1,h2,h3,h4⟩;rw[bd] at h2;exact Ga (fun σ h=>⟨_,b'+2,h,ab (aE (by refine R1 (eq ..) (R1 (bV ..) ?_);rw[bK 2])) h2,(BS cf p ps s').symm.trans h3,fun q hq=>h4 q (ad _ hq)⟩) (xJ K  hcl hcz (ag (ab (ay _ _) h2) hb) (h4 p ac) h1)
  .rintro σ ⟨s',b',h1,h2,h3,_⟩;exact mi (hJ _ (h3▸h1.le (ab (ay _ _) h2)))
variable{E:Env}{Q:Res AF->Prop}
theorem Ju:∀f:Fg,iC.bitAnd (kC f) (iC.bitOr (iC.bitOr 1 2) 4)=kC {f with l:=false}:=fun⟨a,b,d,l⟩=>
 (by decide +kernel:∀a b d l:Bool,iC.bitAnd (kC ⟨a,b,d,l⟩) (iC.bitOr (iC.bitOr 1 2) 4)=kC ⟨a,b,d,false⟩) a b d l
theorem Jv:∀f:Fg,((kC {f with l:=false}) == (iC.bitOr 1 2))=(f.a&&f.b&&!f.d):=fun⟨a,b,d,l⟩=>
 (by decide +kernel:∀a b d l:Bool,(kC ⟨a,b,d,false⟩ == (iC.bitOr 1 2))=(a&&b&&!d)) a b d l
theorem vG:∀f:Fg,(f.a&&f.b&&!f.d)=true->iC.bitOr (kC {f with l:=false}) 4=kC ⟨true,true,true,false⟩:=fun⟨a,b,d,l⟩=>
 (by decide +kernel:∀a b d:Bool,(a&&b&&!d)=true->iC.bitOr (kC ⟨a,b,d,false⟩) 4=kC ⟨true,true,true,false⟩) a b d
theorem vq:∀f:Fg,(f.a&&f.b&&!f.d)=true↔(f.a=true/\f.b=true/\f.d=false):=fun⟨a,b,d,l⟩=>
 (by decide +kernel:∀a b d:Bool,(a&&b&&!d)=true↔(a=true/\b=true/\d=false)) a b d
theorem Hs{t:P Bool}{p q rest:P AF}{σ:AS}{c:Bool}(h:t σ=.ok c σ)(h1:c=true->Q (P.seq p rest σ))(h2:c=false->Q (P.seq q rest σ)): Q (P.seq (P.bind t fun c=>if c=true then p else q) rest σ):=by
 have e:P.seq (P.bind t fun c=>if c=true then p else q) rest σ=P.seq (if c=true then p else q) rest σ:=by unfold P.seq P.bind;exact R1 h rfl
 refine R1 e ?_;cases c
 .exact h2 rfl
 .exact h1 rfl
theorem AJ{p q r:P AF}{σ:AS}(h:Q (P.seq p (P.seq q r) σ)): Q (P.seq (P.seq p q) r σ):=by
 have e:P.seq (P.seq p q) r σ=P.seq p (P.seq q r) σ:=by
  unfold P.seq P.bind;cases p σ with
  |ok f σ=>cases f<;>rfl
  |_=>rfl
 refine R1 e ?_;exact h
theorem Lz.wb{s:St Nm}{b:Nat}{v:V}{σ:AS}(h:Lz E s b (Mine.Internal.wb v) σ): Lz E s b id σ:=by obtain⟨T,kvs,rfl,h⟩:=h;exact⟨_,kvs,rfl,h.fl,h.le,{h.ok with b:=rfl}⟩
theorem Env.get{l q q':List Nm}{d:List (Nm×V)}{vs:List Slot}{v:Nm}(hq:q.length<9000)(h:BU (ltN E.G.st) q=some (v,q')): Hh [.work (E.H.length+2)] ⟨E.he l d q,vs⟩=.ok (cv E.G.st v) ⟨E.he l d q',vs⟩:=
 (Lq (E.he l d q) vs _ E.G.st q q' v hp2 hq h).trans (congrArg (fun H=>Res.ok _ (AS.mk H vs)) KT)
theorem Env.app{l q:List Nm}{d:List (Nm×V)}{vs:List Slot}{v:Nm}(hl:l.length<9000): P.append (.ref E.H.length) [cv E.G.st v] ⟨E.he l d q,vs⟩=.ok .none ⟨E.he (l++[v]) d q,vs⟩:=
 (yL hp0 (aF (ag (aE (ak ..)) hl) (by decide))).trans (congrArg (fun H=>Res.ok _ (AS.mk H vs)) (MI.trans (by unfold Env.he;exact R1 aS rfl)))
theorem Oq{a a' b b' c B:Nat}(h:a+b+c<=B)(h1:a'<=a+1)(h2:b'<=b): a'+b'+(c+1)<=B+2:=ab (aO (bW h1 h2) (c+1)) (by rw[bY a 1 b,dY (a+b) 1 c 1];exact aO h 2)
theorem KE{a b b' c B:Nat}(h:a+b+c<=B)(h2:b'<=b): a+b'+c<=B:=ab (aO (aC h2 _) _) h
theorem I1{a b c B:Nat}(h:a+b+c<=B): c<=B:=ab (bI _ _) h
theorem IB(K:E.G.Ok E.H){v:Nm}{q:List Nm}{s:St Nm}{b:Nat}(hb:b+10<9000)(uO:BU (ltN E.G.st) s.pq=some (v,q))(hq:q.length<=s.pq.length)
  (hfz:(s.fl v).a=true\/(s.fl v).b=true) (hv:E.G.k6=true\/(E.G.time v).isSome=true) {σ:AS} {J:AS->Prop} (hJ:∀σ,Lz E (step E.G.A s) (b+10) id σ->J σ) (h:Lz E s b id σ):Lp J Q (P.turn σ):=by
 obtain⟨T,kvs,rfl,hL⟩:=h;have hle:=hL.le;have hb9:b<9000:=ag (ay _ _) hb;have hp:E.G.A.pop s.pq=some (v,q):=uO;have fz:s.fl v≠Fg.zero:=fun e=>by rw[e] at hfz;exact hfz.elim (fun h=>nomatch h) fun h=>nomatch h
 have hk:∀vs l q,P.index (.ref (E.H.length+1)) (.bytes v) ⟨E.he l kvs q,vs⟩=.ok (.int (kC (s.fl v))) ⟨E.he l kvs q,vs⟩:=fun vs l q=>xe hp1 (hL.fl.has fz);have ok:∀x y z w,({T with b:=.val x,c:=.val y,d:=.val z,e:=.val w}:Tl).Ok:=fun x y z w=>{hL.ok with b:=rfl,c:=rfl,d:=rfl,e:=rfl};unfold P.turn;refine la (sG rfl rfl (iN rfl (E.get (ag (wL hle) hb9) uO))) rfl hL.ok.c ?_;refine jt (lP (iN rfl (iN rfl rfl)) rfl) (jt (iN rfl (iN (pP rfl hL.ok.d rfl hL.ok.e) rfl)) ?_);refine la (iN (iN rfl (iN rfl (hk _ _ _))) (iN (iN rfl (iN rfl rfl)) (kc (congrArg some (Ju (s.fl v)))))) rfl hL.ok.b ?_;refine Hs (iN rfl (iN rfl (jF (congrArg some (Jv (s.fl v)))))) (fun hc=>AJ ?_) fun hc=>?_
 .have hj:=(vq _).mp hc
  have est:step E.G.A s=proc E.G.A ⟨true,true,true,false⟩ (E.G.par v) (if(s.fl v).l=true then{s with pq:=q} else{fl:=upd s.fl v {s.fl v with l:=true},pq:=q,cand:=s.cand++[v]}):=by unfold step;refine R1 hp ?_;exact if_pos hj
  refine Hs (mu (iN (iN (iN rfl (iN rfl (hk _ _ _))) (iN rfl rfl)) (iN rfl (jF (congrArg some (Lg (s.fl v))))))) (fun hl=>?_) fun hl=>?_
  .rw[if_neg (by rw[bx] at hl;refine R1 hl ?_;decide)] at est
   have hz:({s.fl v with l:=true}:Fg)≠Fg.zero:=fun e=>by have h:=(congrArg Fg.a e).symm.trans hj.1;cases h
   have hk1:=nb kvs v (.int (kC {s.fl v with l:=true}));refine AJ (jt (iN (iN (iN rfl (iN rfl (hk _ _ _))) (iN rfl rfl)) (iN rfl (iN rfl (iN (E.put (ag (zQ hle) hb9) (Ed _)) rfl)))) ?_);refine jt (iN (sG rfl (nh hp0) (iN (iN (iN rfl (iN rfl rfl)) rfl) (E.app (ag (I1 hle) hb9)))) rfl) ?_;refine la (iN rfl (iN rfl (kc (congrArg some (vG _ hc))))) rfl rfl ?_;refine zF K  rfl (by decide) hb hv (fun σ h=>hJ σ (est▸h.wb)) ⟨{T with c:=.val (cv E.G.st v),d:=.val (.int (E.G.st v))},_,rfl,hL.fl.put v _ hz,?_,{hL.ok with c:=rfl,d:=rfl}⟩;exact(congrArg (fun n=>_+q.length+n<=b+2) (ar.trans rfl)).mpr (Oq hle hk1 hq)
  .rw[if_pos (by rw[cY] at hl;exact hl)] at est;refine jt rfl (la (iN rfl (iN rfl (kc (congrArg some (vG _ hc))))) rfl rfl ?_);exact zF K  rfl (by decide) (ag (aC (by decide) _) hb) hv (fun σ h=>hJ σ (est▸(h.wb.le (aC (by decide) _)))) ⟨{T with c:=.val (cv E.G.st v),d:=.val (.int (E.G.st v))},kvs,rfl,hL.fl,KE hle hq,{hL.ok with c:=rfl,d:=rfl}⟩
 .have est:step E.G.A s=proc E.G.A {s.fl v with l:=false} (E.G.par v) {s with pq:=q}:=by unfold step;refine R1 hp ?_;exact if_neg fun h=>by rw[(vq _).mpr h] at hc;cases hc
  refine jt rfl (zF K  rfl (fun e=>?_) (ag (aC (by decide) _) hb) hv (fun σ h=>hJ σ (est▸(h.wb.le (aC (by decide) _)))) ⟨{T with c:=.val (cv E.G.st v),d:=.val (.int (E.G.st v))},kvs,rfl,hL.fl,KE hle hq,{hL.ok with c:=rfl,d:=rfl}⟩);rcases hfz with h | h
  .have h:=(congrArg Fg.a e).symm.trans h;cases h
  .have h:=(congrArg Fg.b e).symm.trans h;cases h
theorem sa{α:Type}{ks:List Int}{xs:List α}(h:ks.length=xs.length): (sortBy ks xs).Perm xs:=
 ((bT _ _).map _).trans (.of_eq (gy (aE h.symm)))
theorem zn{α:Type}(st:α->Int)(xs:List α): (sortBy (xs.map st) xs).Pairwise fun x y=>st x<=st y:=by
 have e:(xs.map st).zip xs=xs.map fun x=>(st x,x):=by have:=List.zip_map' (f:=st) (g:=id) (l:=xs);rw[fx] at this;exact this
 unfold sortBy;refine R1 e (R2 (eA (f:=fun x=>(st x,x)) (r:=fun a b=>decide (st a<=st b)) fun Y Y Y Y=>rfl) (R1 bA ?_));exact(fx _).symm▸(cu (le:=fun a b=>decide (st a<=st b)) (fun Y Y Y=>Hz) (fun a b=>Dy (st a) (st b)) xs).imp of_decide_eq_true
theorem tR(st:Nm->Int): ∀(l:List Nm),intKeys (l.map (cv st))=some (l.map st)
 |[]=>rfl
 |x::l=>by
  refine R1 aR ?_;unfold intKeys;exact R1 (tR st l) rfl
theorem Ii(st:Nm->Int)(x y:Nm): veq 4 (cv st y) (cv st x)=some (decide (y=x)):=by
 show some ((st y == st x)&&((y == x)&&true))=_;by_cases h:y=x
 .exact R1 (decide_eq_true h) (R1 h (R1 (beq_self_eq_true ..) (R1 (beq_self_eq_true ..) rfl)))
 .exact R1 (decide_eq_false h) (R1 (beq_eq_false_iff_ne.mpr h) (R1 (eu ..) (R1 (fC ..) rfl)))
theorem Dg{σ:AS}{st:Nm->Int}{v:V}{acc:List Nm}(h:jz σ v=some (acc.map (cv st)))(x:Nm): nv σ .NotIn (cv st x) v=some (!decide (x∈acc)):=by show(inV σ (cv st x) v).map not=_;unfold inV;refine R1 h ?_;exact congrArg (gS not) (wU (g:=cv st) (fun y=>Ii st x y) acc)
theorem tG{α:Type}[DecidableEq α]: ∀{l U:List α},l.Nodup->(∀x∈l,x∈U)->l.length<=U.length
 |[],U,_,_=>bt _
 |x::l,U,hn,hs=>by
  obtain⟨h1,h2⟩:=be.mp hn;have hx:=hs x ac;have:=tG (U:=U.erase x) h2 fun y hy=>(fE (fun e=>h1 (by refine R2 e ?_;exact hy))).mpr (hs y (ad _ hy));rw[dq hx] at this;have hp:=cW hx;exact fF hp this
noncomputable def seed(A:Al Nm)(s:St Nm)(c:Nm): St Nm:={s with fl:=upd s.fl c ⟨(s.fl c).a,true,(s.fl c).d,(s.fl c).l⟩,pq:=A.push s.pq c}
noncomputable def KK(A:Al Nm)(c1:Nm): St Nm:={fl:=upd (fun Y=>Fg.zero) c1 ⟨true,false,false,false⟩,pq:=A.push [] c1,cand:=[]}
structure JR(A:Al Nm)(c1:Nm)(done:List Nm)(s:St Nm): Prop where
 fl:∀v,s.fl v=⟨decide (v=c1),decide (v∈done),false,false⟩
 pq:∀v,v∈s.pq↔v=c1\/v∈done
 cand:s.cand=[]
 heap:A.E4 s.pq
 len:s.pq.length=1+done.length
theorem DP{A:Al Nm}(K:A.Ok)(h:A.E4 [])(c1:Nm): JR A c1 [] (KK A c1):=by
 have hp:=K.lW [] c1;refine⟨fun v=>?_,fun v=>?_,rfl,K.wh _ _ h,?_⟩
 .show upd (fun Y=>Fg.zero) c1 ⟨true,false,false,false⟩ v=_;by_cases e:v=c1
  .subst e;refine R1 (l7 ..) ?_;simp
  .refine R1 (pA _ _ e) ?_;simp[e,Fg.zero]
 .show v∈A.push [] c1↔_;rw[hp.mem_iff];simp
 .exact hp.length_eq
theorem DQ{A:Al Nm}(K:A.Ok){c1 c:Nm}{done:List Nm}{s:St Nm}(I:JR A c1 done s): JR A c1 (done++[c]) (seed A s c):=by
 have hp:=K.lW s.pq c;refine⟨fun v=>?_,fun v=>?_,I.cand,K.wh _ _ I.heap,?_⟩
 .show upd s.fl c ⟨(s.fl c).a,true,(s.fl c).d,(s.fl c).l⟩ v=_;by_cases e:v=c
  .subst e;refine R1 (l7 ..) (R1 (I.fl v) ?_);simp
  .refine R1 (pA _ _ e) (R1 (I.fl v) ?_);simp[e]
 .show v∈A.push s.pq c↔_;rw[hp.mem_iff,av,I.pq];simp only[aA,af];constructor
  .rintro(h | h | h)
   .exact .inr (.inr h)
   .exact .inl h
   .exact .inr (.inl h)
  .rintro(h | h | h)
   .exact .inr (.inl h)
   .exact .inr (.inr h)
   .exact .inl h
 .show(A.push s.pq c).length=_;refine R1 hp.length_eq (R1 bd (R1 I.len (R1 ar ?_)));simp;exact bV 1 done.length 1
theorem JR.inv{A:Al Nm}{c1:Nm}{cs:List Nm}{s:St Nm}(I:JR A c1 cs s): Inv A c1 cs s:=by
 refine⟨fun v h=>?_,fun v h=>?_,fun v h=>?_,fun v h=>.inl ?_,⟨?_,fun c hc=>?_⟩,⟨fun v=>?_,?_⟩,fun v h=>?_,I.heap,fun v h=>?_⟩
 .rw[I.fl] at h;have:v=c1:=by simpa using h
  refine R1 this ?_;exact .refl trivial
 .rw[I.fl] at h;exact⟨v,by simpa using h,.refl trivial⟩
 .rw[I.fl] at h;cases h
 .rw[I.fl] at h;exact(I.pq v).mpr (by simpa using h)
 .refine R1 (I.fl ..) ?_;simp
 .refine R1 (I.fl ..) ?_;simpa using hc
 .refine R1 (I.fl ..) (R1 I.cand ?_);simp
 .refine R1 I.cand ?_;exact cR
 .rw[I.cand] at h;cases h
 .refine R1 (I.fl ..) ?_;have:=(I.pq v).mp h
  simpa using this
theorem Gb(U:List Nm)(s:St Nm): load U s<=s.pq.length+3*U.length:=by
 refine aC ?_ _
 induction U with
 |nil=>exact aM _
 |cons x U ih=>
  refine R1 aR (R1 dS (R1 bd (R1 (eq ..) (R1 (bK ..) ?_))));exact bW ih (db _ _)
theorem nN{G:GD}{c v:Nm}(h:Reach G.par c v): v=c\/(G.time v).isSome=true:=by
 cases h with
 |refl _=>exact .inl rfl
 |step _ hz _=>
  right;unfold GD.par at hz;have:=(bC.mp hz).2;unfold GD.sees at this;cases q:G.time v with
  |some t=>rfl
  |none=>rw[q] at this;cases this
theorem BV{G:GD}{v p:Nm}(h:p∈G.par v): (G.time p).isSome=true:=by
 unfold GD.par at h;have:=(bC.mp h).2;unfold GD.sees at this;cases q:G.time p with
 |some t=>rfl
 |none=>rw[q] at this;cases this
variable{E:Env}{Q:Res AF->Prop}
theorem pw{i:Nat}{v:V}{H:List AO}{vs:List Slot}(h:vs[i]?=some (.val v)): P.var i ⟨H,vs⟩=.ok v ⟨H,vs⟩:=by unfold P.var;dsimp only;exact R1 h rfl
theorem Fj{q:P AF}{σ:AS}(h:Q (.exc σ)): Sq q Q (.exc σ):=by unfold Sq;exact h
theorem Ds{J:AS->Prop}{σ:AS}(h:Q (.exc σ)): Lp J Q (.exc σ):=by unfold Lp;exact h
noncomputable abbrev Nb(G:GD)(c:Nm): Prop:=G.k6=true\/(G.time c).isSome=true
theorem Hr(K:E.G.Ok E.H){k:Nat}{vs:List Slot}{l q:List Nm}{d:List (Nm×V)}{c:Nm}(h12:vs[12]?=some (.val (.work (E.H.length+2))))(h3:vs[3]?=some (.val (.clo 2 [.ref E.G.nt])))(h5:vs[5]?=some (.val E.G.sh))(hk:vs[k]?=some (.val (.bytes c)))(hq:q.length<9000)
  (hQ:Nb E.G c->Q (.ok .next ⟨E.he l d (pushP (ltN E.G.st) q c),vs⟩)) (hX:E.G.k6=false->E.G.time c=none->Q (.exc ⟨E.he l d q,vs⟩)):Q (P.put k ⟨E.he l d q,vs⟩):=by
 have ht:=Ai (H:=E.he l d q) (vs:=vs) (k:=c) (hpo K.times);rw[K.time c] at ht
 have hc:∀t,E.G.st c=t->(∀{e:P V},e ⟨E.he l d q,vs⟩=.ok (.int t) ⟨E.he l d q,vs⟩->(((P.var 12).bind fun v σ=>if qL v=true then((((e.bind fun v=>((P.var k).bind fun v=>(P.pure []).bind fun vs=>P.pure (v::vs)).bind fun vs=>P.pure (v::vs)).bind P.tuple).bind fun v=>(P.pure []).bind fun vs=>P.pure (v::vs)).bind (fun vs=>uF (v::vs))) σ else Res.stuck).bind fun x=>P.pure AF.next) ⟨E.he l d q,vs⟩=.ok .next ⟨E.he l d (pushP (ltN E.G.st) q c),vs⟩):=
  fun t ht e he=>iN (sG (pw h12) rfl (iN (iN (iN (iN he (iN (iN (pw hk) rfl) rfl)) rfl) rfl) (E.add hq ht))) rfl
 unfold P.put;cases e:E.G.time c with
 |some t=>
  rw[e] at ht;exact kM (uc (hc t (by unfold GD.st;exact R1 e rfl) (uR (pw h3) rfl (iN (iN (pw hk) rfl) ht)))) (hQ (.inr (by exact R1 e rfl)))
 |none=>
  rw[e] at ht;refine kM (pN (lY (sG (pw h12) rfl (lY (lY (lY (lY (uR (pw h3) rfl (iN (iN (pw hk) rfl) ht)))))))) rfl) ?_;have hi:=JA K (pw h5:P.var 5 ⟨E.he l d q,vs⟩=_);cases hs:E.G.k6 with
  |false=>
   rw[hs] at hi;exact kM (lY (oh hi (lY rfl))) (hX hs e)
  |true=>
   rw[hs] at hi;exact jt (lP hi rfl) (jt (hc 0 (by unfold GD.st;exact R1 e rfl) rfl) (hQ (.inl hs)))
theorem Da(K:E.G.Ok E.H)(hcs:E.C.length<=1000){σ:AS}(h0:Lz E (KK E.G.A E.c) 2 id σ)
  (hQ:(E.G.k6=true\/∀c∈E.C,(E.G.time c).isSome=true)->∀σ s,Lz E s (2*E.C.length+2) id σ->JR E.G.A E.c E.C s->Q (.ok .next σ)) (hX:E.G.k6=false->(∃c∈E.C,E.G.time c=none)->∀l d q vs,Q (.exc ⟨E.he l d q,vs⟩)):Q (P.starts σ):=by
 unfold P.starts
 have hi:((P.var 2).bind P.items) σ=.ok (E.C.map .bytes) σ:=by obtain⟨T,kvs,rfl,_⟩:=h0;rfl
 refine mt (g:=V.bytes) (xs:=E.C) (fun xs σ=>∃done s,E.C=done++xs/\Lz E s (2*done.length+2) id σ/\JR E.G.A E.c done s/\(E.G.k6=true\/∀c∈done,(E.G.time c).isSome=true)) ⟨[],_,rfl,h0,DP E.G.ok (fun Y i x p Y h=>by simp at h) E.c,.inr fun c h=>nomatch h⟩ hi ?_ ?_
 .rintro c xs σ ⟨done,s,e1,⟨T,kvs,rfl,hL⟩,hI,hkn⟩;have hle:=hL.le
  have hb:2*done.length+2<9000:=by have h:(done++c::xs).length<=1000:=e1▸hcs;rw[ar] at h;exact ag (aO (bF 2 (ab (ay _ _) h)) 2) (by decide)
  have hz:({s.fl c with b:=true}:Fg)≠Fg.zero:=fun e=>by have h:=congrArg Fg.b e;cases h
  refine kW (kh rfl hL.ok.a) ?_;refine la (sG rfl (tO hp1) (iN rfl ((HX hp1).trans (congrArg (Res.ok · _) (hL.fl.No c))))) rfl hL.ok.b ?_;refine jt (iN (iN rfl (iN rfl rfl)) (iN rfl (iN rfl (iN (E.put (ag (zQ hle) hb) (Ee _)) rfl)))) ?_;refine Hr K  rfl rfl rfl rfl (ag (wL hle) hb) (fun hk=>mi ⟨done++[c],seed E.G.A s c,e1.trans (ax done [c] xs).symm,⟨{T with a:=.val (.bytes c),b:=.val (.int (kC (s.fl c)))},_,rfl,hL.fl.put c _ hz,?_,{hL.ok with a:=rfl,b:=rfl}⟩,DQ E.G.ok hI,?_⟩) fun hs hn=>Ds (hX hs ⟨c,e1▸aj _ ac,hn⟩ _ _ _ _)
  .have h2:(E.G.A.push s.pq c).length=s.pq.length+1:=(E.G.ok.lW s.pq c).length_eq;refine R1 ar ?_;exact(congrArg (fun n=>_+n+s.cand.length<=2*(done.length+1)+2) h2).mpr (le2 hle (nb _ _ _))
  .rcases hkn with h | h
   .exact .inl h
   .refine hk.imp id fun hk c' hc'=>?_;rcases aA.mp hc' with h2 | h2
    .exact h c' h2
    .exact(af.mp h2).symm▸hk
 .rintro σ ⟨done,s,e1,hL,hI,hkn⟩;rw[ba] at e1;subst e1;exact hQ hkn _ _ hL hI
theorem sL{test:P Bool}{body:P AF}(I:Nat->AS->Prop)(turn:∀m σ,I m σ->∃c,test σ=.ok c σ/\(c=true->Lp (fun σ=>∃m',m'<m/\I m' σ) Q (body σ))/\(c=false->Q (.ok .next σ))): ∀n m σ,m<n->I m σ->Q (P.nT n test body σ)
 |0,_,_,h,_=>nomatch h
 |n+1,m,σ,hn,h=>by
  obtain⟨c,h1,h2,h3⟩:=turn m σ h;unfold P.nT;refine qg (c:=c) h1 (fun hc=>?_) h3;have h2:=h2 hc;unfold Lp at h2;unfold P.bind;cases hb:body σ with
  |stuck=>rw[hb] at h2;exact h2
  |exc _=>rw[hb] at h2;exact h2
  |ok f J9=>
   rw[hb] at h2;cases f with
   |next=>
    obtain⟨m',hm,h⟩:=h2;exact sL I turn n m' J9 (aD hm (bz hn)) h
   |cont=>
    obtain⟨m',hm,h⟩:=h2;exact sL I turn n m' J9 (aD hm (bz hn)) h
   |brk=>exact h2
   |ret v=>exact h2
theorem Br{f:Fg}(h:f.a=true\/f.b=true): f≠Fg.zero:=fun e=>by rw[e] at h;exact h.elim (fun h=>nomatch h) fun h=>nomatch h
theorem IF(K:E.G.Ok E.H){U:List Nm}(hU:∀x,(E.G.time x).isSome=true->x∈U)(hkn:E.G.k6=true\/∀c,(c=E.c\/c∈E.C)->(E.G.time c).isSome=true)
  (hQ:∀σ s b,Lz E s b id σ->Inv E.G.A E.c E.C s->more s=false->Q (.ok .next σ)) {s:St Nm} {b:Nat} {σ:AS} (h0:Lz E s b id σ) (hb:b+10*load U s<=8000) (hI:Inv E.G.A E.c E.C s):Q (P.loop σ):=by
 unfold P.loop;refine sL (fun m σ=>∃s b,m=load U s/\b+10*load U s<=8000/\Lz E s b id σ/\Inv E.G.A E.c E.C s) ?_ _ (load U s) σ (ag (ab (dG _ (by decide)) (ab (bI _ _) hb)) (by decide)) ⟨s,b,rfl,hb,h0,hI⟩;rintro m σ ⟨s,b,rfl,hb,hL,hI⟩;have hL':=hL;obtain⟨T,kvs,rfl,hl⟩:=hL;refine⟨more s,iN (uR rfl rfl (iN rfl (Lj hp2 hp1 hl.fl fun v hv=>Br (hI.i8.2 v hv)))) rfl,fun hm=>?_,fun hm=>hQ _ s b hL' hI hm⟩;have hne:s.pq≠[]:=fun e=>by unfold more at hm;rw[e] at hm;cases hm
 have K4:b+10<9000:=ag (aO (ab (ay _ _) hb) 10) (by decide);have hsz:s.pq.length<9000:=ag (wL hl.le) (ag (ay _ _) K4);obtain⟨v,q,uO,hperm,hH,hmin⟩:=E.G.ok.rh s.pq hI.i8.1 hne hsz;have hab:=hI.i8.2 v (hperm.mem_iff.mp ac)
 have hv:E.G.k6=true\/(E.G.time v).isSome=true:=hkn.imp id fun h=>by
  rcases hab with ha | hb'
  .exact(nN (hI.i1 v ha)).elim (fun e=>e▸h _ (.inl rfl)) id
  .obtain⟨c,hc,hr⟩:=hI.i2 v hb';exact(nN hr).elim (fun e=>e▸h c (.inr hc)) id
 have hlt:load U (step E.G.A s)<load U s:=step_load E.G.ok hI.i8.1 hne hsz fun v Y p hp=>hU p (BV hp);have hql:q.length<=s.pq.length:=ab (ay _ 1) (aE hperm.length_eq);exact IB K K4 uO hql hab hv (fun σ h=>⟨_,hlt,_,b+10,rfl,ab (aE (by refine R1 (bV ..) ?_;rewrite[bK 10];exact R2 (eq ..) rfl)) (ab (aC (bF 10 hlt) b) hb),h,CN E.G.ok hI hne hsz⟩) hL'
variable{E:Env}{Q:Res AF->Prop}
noncomputable def h4(H:List AO)(a b c d:AO): List AO:=H++[a,b,c,d]
section
variable{H:List AO}{a b c d x:AO}
theorem MV:(h4 H a b c d)[H.length]?=some a:=by unfold h4;rw[bh (aM _),dE];rfl
theorem vB(n:Nat): (h4 H a b c d)[H.length+n]?=[a,b,c,d][n]?:=by unfold h4;exact R1 (bh (ay _ _)) (R1 (cS ..) rfl)
theorem K8:(h4 H a b c d).set H.length x=h4 H x b c d:=by unfold h4;exact R1 (cn _ _ (aM _)) (R1 (dE ..) rfl)
theorem DY:(h4 H a b c d).set (H.length+3) x=h4 H a b c x:=by unfold h4;exact R1 (cn _ _ (ay _ _)) (R1 (cS ..) rfl)
theorem K9:hp H a b c++[d]=h4 H a b c d:=ax _ _ _
theorem Ji:(hp H a b c).length=H.length+3:=ar
end
theorem Bc{H:List AO}{vs:List Slot}{i n:Nat}{us:List V}(hv:vs[i]?=some (.val (.ref n)))(h:H[n]?=some (.list us)): P.vu i ⟨H,vs⟩=.ok us ⟨H.set n .dead,vs.set i (.val (.lst us))⟩:=by unfold P.vu;dsimp only;refine R1 hv ?_;dsimp only;exact R1 h rfl
theorem Ch{H:List AO}{vs:List Slot}{n:Nat}{us:List V}{ks:List Int}(h:H[n]?=some (.list us))(hk:intKeys us=some ks)(hl:us.length<64): P.qX (.ref n) ⟨H,vs⟩=.ok .none ⟨H.set n (.list (sortBy ks us)),vs⟩:=by unfold P.qX;dsimp only;refine R1 h ?_;show(match intKeys us with | some ks=>_ | none=>_)=_;refine R1 hk ?_;exact if_pos hl
theorem GV{cap:List (Option (Nat×Bool))}{its:P (List V)}{xs:List Nm}{st:Nm->Int}{H H1:List AO}{vs vs1:List Slot}(hits:its ⟨H,vs⟩=.ok (xs.map (cv st)) ⟨H1,vs1⟩)(hcap:kI cap vs1=[.unset,.unset,.unset])(hl:xs.length<=1000000):
  P.comp cap its (fun x=>P.pair (fun x=>P.kd 1 x) (fun x=>P.kd 2 x) x) (P.pure true) (P.var 2) ⟨H,vs⟩=.ok (.lst (xs.map .bytes)) ⟨H1,vs1⟩:=by
 have go:∀(l:List Nm) (acc:List V) (s1 s2:Slot),s1.nf=true->s2.nf=true->∃vs',P.lg (fun x=>P.pair (fun x=>P.kd 1 x) (fun x=>P.kd 2 x) x) (P.pure true) (P.mU (P.var 2)) (l.map (cv st)) acc ⟨H1,[.unset,s1,s2]⟩=.ok (acc++l.map .bytes) ⟨H1,vs'⟩:=by
  intro l
  induction l with
  |nil=>intro acc s1 s2 _ _;exact⟨_,congrArg (Res.ok · _) (ba acc).symm⟩
  |cons x l ih=>
   intro acc s1 s2 h1 h2;obtain⟨vs',h⟩:=ih (acc++[.bytes x]) (.val (.int (st x))) (.val (.bytes x)) rfl rfl;refine⟨vs',?_⟩;refine R1 aR ?_;unfold P.lg;refine iN (pP rfl h1 rfl h2) (iN rfl (iN rfl (h.trans ?_)));exact R1 (ax ..) rfl
 obtain⟨vs',h⟩:=go xs [] .unset .unset rfl rfl;show P.mI _ _ _ _ _ _=_;unfold P.mI;refine R1 hits ?_;dsimp only;refine R1 hcap (R1 h ?_);exact if_pos (ab (aE (ak ..)) hl)
noncomputable def LP(E:Env)(T:Tl)(s:St Nm)(kvs:List (Nm×V))(xs:List Nm)(σ:AS): Prop:=∃done:List Nm,s.cand=done++xs/\∃LX LW:Slot,LX.nf=true/\LW.nf=true/\σ=⟨h4 E.H .dead (.dict kvs) (.list (s.pq.map (ent E.G.st))) (.list ((done.filter fun v=>!(s.fl v).d).map (cv E.G.st))),(E.fr {T with d:=LX,e:=LW,j:=.val (.ref (E.H.length+3))}).set 6 (.val (.lst (s.cand.map (cv E.G.st))))⟩
theorem Kt{T:Tl}{s:St Nm}{kvs:List (Nm×V)}(hT:T.Ok)(hF:pU kvs s.fl)(hz:∀v∈s.cand,s.fl v≠Fg.zero)(hn:s.cand.Nodup)(hl:s.cand.length<60)
  (hQ:∀x r vs,Q (.ok (.ret (.lst ((sortBy ((found s).map E.G.st) (found s)).map .bytes))) ⟨E.H++x::r,vs⟩)):Q (P.fin ⟨E.he s.cand kvs s.pq,E.fr T⟩):=by
 unfold P.fin;refine jt (σ1:=⟨h4 E.H (.list (s.cand.map (cv E.G.st))) (.dict kvs) (.list (s.pq.map (ent E.G.st))) (.list []),E.fr {T with j:=.val (.ref (E.H.length+3))}⟩) ?_ ?_
 .have e:((P.pure []).bind P.newList) ⟨E.he s.cand kvs s.pq,E.fr T⟩=.ok (.ref (E.H.length+3)) ⟨h4 E.H (.list (s.cand.map (cv E.G.st))) (.dict kvs) (.list (s.pq.map (ent E.G.st))) (.list []),E.fr T⟩:=by show Res.ok (V.ref (hp E.H _ _ _).length) ⟨hp E.H _ _ _++[.list []],_⟩=_;exact R1 Ji (R1 K9 rfl)
  exact iN e (iN (kh rfl hT.j) rfl)
 refine qG (kW (pd (Bc rfl MV)) ?_);refine R1 K8 ?_;refine rM (g:=cv E.G.st) (LP E T s kvs) ?_ ?_ s.cand _ ⟨[],rfl,_,_,hT.d,hT.e,rfl⟩
 .rintro v xs σ ⟨done,e1,LX,LW,Nl,Nk,rfl⟩;have hg:=hF.has (hz v (e1▸aj _ ac));refine kW (pP rfl Nl rfl Nk) ?_;have hd:done++[v]++xs=s.cand:=(ax done [v] xs).trans e1.symm;have J2:∀vs,jz ⟨h4 E.H .dead (.dict kvs) (.list (s.pq.map (ent E.G.st))) (.list ((done.filter fun v=>!(s.fl v).d).map (cv E.G.st))),vs⟩ (.ref (E.H.length+3))=some ((done.filter fun v=>!(s.fl v).d).map (cv E.G.st)):=fun vs=>mB (vB 3)
  have hnot:v∉done:=fun h=>by rw[e1] at hn;exact(aU.mp hn).2.2 v h v ac rfl
  have hni:=fun vs=>(Dg (J2 vs) v).trans (congrArg (fun b=>some !b) (decide_eq_false fun h=>hnot (bC.mp h).1))
  have hlen:((done.filter fun v=>!(s.fl v).d).map (cv E.G.st)).length<100000:=by have h2:s.cand.length=done.length+(xs.length+1):=(congrArg cB e1).trans ar;refine R1 (ak ..) ?_;exact ag (ab (bJ _ _) (ab (ay _ _) (aE h2.symm))) (aF hl (by decide))
  have nx:∀{R:Res AF->Prop} (d0:List Nm),(done++[v]).filter (fun v=>!(s.fl v).d)=d0->Lp (LP E T s kvs xs) R (.ok .next ⟨h4 E.H .dead (.dict kvs) (.list (s.pq.map (ent E.G.st))) (.list (d0.map (cv E.G.st))),(E.fr {T with d:=.val (.int (E.G.st v)),e:=.val (.bytes v),j:=.val (.ref (E.H.length+3))}).set 6 (.val (.lst (s.cand.map (cv E.G.st))))⟩):=fun{R} d0 h=>mi ⟨done++[v],hd.symm,_,_,rfl,rfl,by exact R1 h rfl⟩;refine qg (c:=!(s.fl v).d&&true) (lZ (mu (iN (iN (iN rfl (iN rfl (xe (vB 1) hg))) rfl) (iN rfl (jF (congrArg some (HQ (s.fl v))))))) fun Y=>ly (iN (iN (iN rfl (iN rfl rfl)) rfl) (iN rfl (jF (hni _)))) rfl) (fun h=>?_) fun h=>?_
  .rw[fJ] at h;refine kM (iN (sG rfl (nh (vB 3)) (iN (iN (iN rfl (iN rfl rfl)) rfl) (yL (vB 3) hlen))) rfl) ?_;refine R1 DY ?_;refine(congrArg (fun l=>Lp _ _ (Res.ok AF.next (AS.mk (h4 E.H .dead (.dict kvs) (.list (s.pq.map (ent E.G.st))) (.list l)) _))) (aS (f:=cv E.G.st) (l₂:=[v]))).mp (nx _ ?_);exact R1 (fX ..) (R1 (dy (p:=fun v=>!(s.fl v).d) h) rfl)
  .rw[fJ] at h;refine nx _ ?_;rw[fX,dw (p:=fun v=>!(s.fl v).d) (by rw[h];decide),List.filter_nil,ba]
 .rintro σ ⟨done,e1,LX,LW,Nl,Nk,rfl⟩;rw[ba] at e1;subst e1;have hfl:(found s).length<60:=ag (bJ _ _) hl;have hsl:(sortBy ((found s).map E.G.st) (found s)).length=(found s).length:=(sa (ak ..)).length_eq;refine qW (jt (iN (iN rfl (Ch (vB 3) (tR E.G.st (found s)) (by refine R1 (ak ..) ?_;exact aF hfl (by decide)))) rfl) ?_);refine R1 DY (R1 (qy ..) ?_);refine jt (iN (GV (Bc rfl (vB 3)) rfl (aG (hsl▸aF hfl (by decide)))) (iN (pd (kh rfl hT.k)) rfl)) ?_;refine R1 DY ?_;exact hQ _ _ _
noncomputable abbrev nms(l:List Nm): List V:=l.map .bytes
theorem vT(n:Nat)(a b:List Nm): veq (n+1) (.lst (nms a)) (.lst (nms b))=some (decide (a=b)):=qV (u0 n) a b
theorem xk{σ:AS}(a b:List Nm): nv σ .Eq (.lst (nms a)) (.lst (nms b))=some (decide (a=b)):=vT 4 a b
theorem uj{σ:AS}(a b:List Nm): nv σ .NotEq (.lst (nms a)) (.lst (nms b))=some (!decide (a=b)):=by show(Ec σ (.lst (nms a)) (.lst (nms b))).map not=_;have:Ec σ (.lst (nms a)) (.lst (nms b))=some (decide (a=b)):=vT 4 a b;exact R1 this rfl
theorem wT{σ:AS}(k:Nm)(l:List Nm): nv σ .In (.bytes k) (.lst (nms l))=some (decide (k∈l)):=wU (g:=V.bytes) (fun x=>u0 4 x k) l
theorem HP{σ:AS}(a b:Nm): nv σ .Eq (.bytes a) (.bytes b)=some (decide (a=b)):=by
 show some (a == b)=_;congr 1;by_cases h:a=b
 .subst h;simp
 .simp[h]
noncomputable def vP(G:GD)(c:Nm)(cs:List Nm): Option (List Nm)->Prop
 |none=>G.k6=false/\∃c',(c'=c\/c'∈cs)/\G.time c'=none
 |some r=>(G.k6=true\/∀c',(c'=c\/c'∈cs)->(G.time c').isSome=true)/\Found G.par (ltN G.st) c cs r/\r.Pairwise fun x y=>G.st x<=G.st y
structure GD.Wd(G:GD)(U:List Nm): Prop where
 all:∀x,(G.time x).isSome=true->x∈U
 few:U.length<=20
theorem vP.few{G:GD}{U:List Nm}(W:G.Wd U){c:Nm}{cs r:List Nm}(h:vP G c cs (some r)): r.length<=21:=by
 have:r.length<=(c::U).length:=tG h.2.1.nodup fun x hx=>by
  rcases nN (h.2.1.joint x hx).1 with e | e
  .refine R1 e ?_;exact ac
  .exact ad _ (W.all x e)
 simp only[bd] at this;have:=W.few;lia
noncomputable def MB(G:GD): List Nm->Option (List Nm)->Prop
 |[],r=>r=some []
 |[c],r=>r=some [c]
 |c::d::cs,r=>if c∈d::cs then r=some [c] else vP G c (d::cs) r
theorem GD.Ok.ext{G:GD}{H:List AO}(K:G.Ok H)(r:List AO): G.Ok (H++r):=by
 have up:∀{i:Nat} {y:AO},H[i]?=some y->(H++r)[i]?=some y:=fun{i y} h=>by refine R1 (aH (au.mp h).1) ?_;exact h
 exact⟨up K.tY,up K.times,K.time,K.sF,K.sh,K.few,K.tot⟩
noncomputable def OR(G:GD)(y9:Nm): List Nm->List Nm->Option (List Nm)->Prop
 |[],acc,res=>res=some acc
 |ca::l,acc,res=>(vP G y9 [ca] none/\res=none)\/∃r,vP G y9 [ca] (some r)/\OR G y9 l (acc++r) res
noncomputable def OF(G:GD): List Nm->List Nm->Option (List Nm)->Prop
 |[],ko,res=>res=some ko
 |y9::rest,ko,res=>(OR G y9 ko [] none/\res=none)\/∃l',OR G y9 ko [] (some l')/\OF G rest l' res
noncomputable def OB(G:GD): List Nm->Option (List Nm)->Prop
 |c::d::e::cs,res=>OF G (d::e::cs) [c] res
 |ids,res=>MB G ids res
theorem BI(vs:List V): oQ vs none none=vs:=by unfold oQ;simp[clipAt]
noncomputable def GD.up(G:GD)(t:Int): GD:={G with mn:=t}
noncomputable def CF(G:GD)(a b:Nm)(res:Option Bool): Prop:=
 if a=b then res=some true else match G.time a with
  |none=>res=if G.k6 then some false else none
  |some t=>(vP (G.up t) a [b] none/\res=none)\/∃r,vP (G.up t) a [b] (some r)/\res=some (decide (r=[a]))
theorem GD.Ok.up{G:GD}{H:List AO}(K:G.Ok H)(t:Int): (G.up t).Ok H:=⟨K.tY,K.times,K.time,K.sF,K.sh,K.few,K.tot⟩
noncomputable def en:Nat->List Nm->List (Nat×Nm)
 |_,[]=>[]
 |i,c::l=>(i,c)::en (i+1) l
noncomputable abbrev GR(p:Nat×Nm): V:=.tup [.int p.1,.bytes p.2]
theorem yH:∀(l:List Nm) (i:Nat),enumFrom i (nms l)=(en i l).map GR
 |[],_=>rfl
 |c::l,i=>by
  show V.tup [.int (i:Int),.bytes c]::enumFrom _ (nms l)=_;rw[yH l];rfl
noncomputable def IR(G:GD)(i:Nat)(c:Nm): List (Nat×Nm)->Option Bool->Prop
 |[],res=>res=some true
 |p::l,res=>(i=p.1/\IR G i c l res)\/(i≠p.1/\((MB G [c,p.2] none/\res=none)\/∃m,MB G [c,p.2] (some m)/\((m=[c]/\res=some false)\/(m≠[c]/\IR G i c l res))))
noncomputable def IA(G:GD)(all:List (Nat×Nm)): List (Nat×Nm)->List Nm->Option (List Nm)->Prop
 |[],acc,res=>res=some acc
 |p::l,acc,res=>(IR G p.1 p.2 all none/\res=none)\/∃b,IR G p.1 p.2 all (some b)/\IA G all l (if b=true then acc++[p.2] else acc) res
noncomputable def IN(G:GD): List Nm->Option (List Nm)->Prop
 |[],res=>res=some []
 |[c],res=>res=some [c]
 |c::d::l,res=>IA G (en 0 (c::d::l)) (en 0 (c::d::l)) [] res
noncomputable def rL(r:Option (List Nm)): Option V:=r.map fun l=>.lst (nms l)
theorem Ja{a b c d e f:V}: jy Dz yi [a,b,c,d,e,f]=[.val a,.val b,.val c,.val d,.val e,.val f,.unset,.unset,.unset,.unset,.unset,.unset,.unset,.unset,.unset,.unset,.unset,.unset,.unset,.unset,.unset,.unset,.unset,.unset,.unset]:=by kernel_rfl
theorem yV(l:List Nm): t0 (.lst (nms l))=true:=(fb (f:=V.bytes)).trans (bl.mpr fun Y Y=>rfl)
theorem Inv.G3{G:GD}{U:List Nm}(W:G.Wd U){c:Nm}{cs:List Nm}{s:St Nm}(I:Inv G.A c cs s): s.cand.length<=21:=by have:s.cand.length<=(c::U).length:=tG I.i6.2 fun x hx=>(nN (I.i1 x (I.i7 x hx).1)).elim (fun e=>e▸ac) fun e=>ad _ (W.all x e);exact ab this (bc W.few)
theorem HA{G:GD}{H:List AO}{U:List Nm}(K:G.Ok H)(W:G.Wd U)(vs:List Slot)(c:Nm)(cs:List Nm)(hl:cs.length<=20):
  ∃r,vP G c cs r/\P.ko [.clo 1 [.ref G.nf],.bytes c,.lst (nms cs),.clo 2 [.ref G.nt],.int G.mn,G.sh] ⟨H,vs⟩=xN (rL r) ⟨H,vs⟩:=by
 have hz:pU ([]:List (Nm×V)) fun Y=>Fg.zero:=fun v=>rfl
 obtain⟨o,⟨r,h1,rfl⟩,h2⟩:=HN (vs:=vs) (H:=H) (iv:=jy Dz yi [.clo 1 [.ref G.nf],.bytes c,.lst (nms cs),.clo 2 [.ref G.nt],.int G.mn,G.sh]) (pb:=mO.1) (Z:=fun o=>∃r,vP G c cs r/\o=rL r) (by
  refine R1 Ja ?_;delta mO;dsimp only;let E:Env:=⟨G,H,c,cs⟩;refine jt rfl (jt (iN (lc (p:=P.newDict) rfl (congrArg V.ref ar)) rfl) (jt rfl (jt rfl (jt rfl (jt rfl (jt rfl (jt (σ1:=⟨E.he [] [] [],[.val (.clo 1 [.ref G.nf]),.val (.bytes c),.val (.lst (nms cs)),.val (.clo 2 [.ref G.nt]),.val (.int G.mn),.val G.sh,.val (.ref H.length),.val (.ref (H.length+1)),.val (.int 1),.val (.int 2),.val (.int 8),.val (.clo 0 [.int 4]),.val (.work (H.length+2)),.unset,.unset,.unset,.unset,.unset,.unset,.unset,.unset,.unset,.unset,.unset,.o7 (.int 4)]⟩) ?_ ?_)))))))
  .have e:(H++[AO.list []]++[AO.dict []]).length=H.length+2:=ar.trans (congrArg (·+1) ar);have e2:H++[AO.list []]++[AO.dict []]++[AO.list []]=E.he [] [] []:=(ax _ _ _).trans (ax _ _ _);show Res.ok AF.next (AS.mk (H++[AO.list []]++[AO.dict []]++[AO.list []]) [_,_,_,_,_,_,_,_,_,_,_,_,.val (.work (H++[AO.list []]++[AO.dict []]).length),_,_,_,_,_,_,_,_,_,_,_,_])=_
   exact R1 e (R1 e2 rfl)
  have bad:∀l d q vs,G.k6=false->(∃c',(c'=c\/c'∈cs)/\G.time c'=none)->Fb H (fun o=>∃r,vP G c cs r/\o=rL r) (.exc ⟨E.he l d q,vs⟩):=fun l d q vs h1 h2=>.GQ ⟨none,⟨h1,h2⟩,rfl⟩;refine jt (iN rfl (iN rfl (iN rfl (iN (E.put (y:=kC ⟨true,false,false,false⟩) (by decide) rfl) rfl)))) ?_;refine qG (Hr (E:=E) (Q:=Sq _ _) K  rfl rfl rfl rfl (by decide) (fun hk1=>qW ?_) fun h1 h2=>Fj (bad _ _ _ _ h1 ⟨c,.inl rfl,h2⟩));refine qG (Da (E:=E) (Q:=Sq _ _) K  (ab hl (by decide)) ⟨⟨.unset,.unset,.unset,.unset,.unset,.unset,.unset,.unset,.unset,.unset,.unset⟩,_,rfl,hz.put c _ (by decide),?_,⟨rfl,rfl,rfl,rfl,rfl,rfl,rfl,rfl,rfl,rfl,rfl⟩⟩ (fun hk2 σ s hL hI=>qW ?_) fun h1 ⟨c',hc,hn⟩ _ _ _ _=>Fj (bad _ _ _ _ h1 ⟨c',.inr hc,hn⟩))
  .exact(congrArg (fun n=>1+n+0<=2) ((G.ok.lW [] c).length_eq)).mpr (aM 2)
  have hkn:G.k6=true\/∀c',(c'=c\/c'∈cs)->(G.time c').isSome=true:=hk1.elim .inl fun h=>hk2.imp id fun h' c' hc=>hc.elim (fun e=>e▸h) (h' c');refine qG (IF (E:=E) (Q:=Sq _ _) K W.all hkn (fun σ s b hL hI hm=>qW ?_) hL ?_ hI.inv)
  .obtain⟨T,kvs,rfl,hL⟩:=hL;have hf:=Aa hI hm;have hp:(sortBy ((found s).map G.st) (found s)).Perm (found s):=sa (ak ..);have hm:∀v,v∈sortBy ((found s).map G.st) (found s)->v∈found s:=fun v=>hp.mem_iff.mp;exact Kt (E:=E) hL.ok hL.fl (fun v hv=>Br (.inl (hI.i7 v hv).1)) hI.i6.2 (ag (hI.G3 W) (by decide)) fun x r vs=>.new (yV _) ⟨some _,⟨hkn,⟨hp.nodup_iff.mpr hf.nodup,fun v hv=>hf.joint v (hm v hv),fun v hv=>hf.free v (hm v hv),fun t a b c=>hp.mem_iff.mpr (hf.tops t a b c),fun x hx y hy=>hf.apart x (hm x hx) y (hm y hy)⟩,zn G.st (found s)⟩,rfl⟩
  .exact ab (bW (aO (bF 2 hl) 2) (bF 10 (ab (Gb U s) (bW (ab (aE hI.len) (aC hl 1)) (bF 3 W.few))))) (by decide))
 exact⟨r,h1,h2⟩
section
variable{Q:Res AF->Prop}{H:List AO}{vs:List Slot}{o:Option V}{e:P V}{q:P AF}{i:Nat}{s:Slot}{α:Type}
theorem wg(h:e ⟨H,vs⟩=xN o ⟨H,vs⟩)(hi:vs[i]?=some s)(hs:s.nf=true)(hn:o=none->Q (.exc ⟨H,vs⟩))(hq:∀v,o=some v->Q (q ⟨H,vs.set i (.val v)⟩)): Q (P.seq (P.bind e fun v=>(P.kd i v).next) q ⟨H,vs⟩):=by
 cases o with
 |none=>exact kM (lY (lY h)) (hn rfl)
 |some v=>exact la h hi hs (hq v rfl)
theorem ID(h:e ⟨H,vs⟩=xN o ⟨H,vs⟩)(hn:o=none->Q (.exc ⟨H,vs⟩))(hq:∀v,o=some v->Q (.ok (.ret v) ⟨H,vs⟩)): Q (P.bind e (fun v=>P.pure (.ret v)) ⟨H,vs⟩):=by
 cases o with
 |none=>exact kM (lY h) (hn rfl)
 |some v=>exact kM (iN h rfl) (hq v rfl)
end
theorem rK{r:Option (List Nm)}(h:rL r=none): r=none:=by cases r with
 |none=>rfl
 |some _=>cases h
theorem rJ{r:Option (List Nm)}{v:V}(h:rL r=some v): ∃l,r=some l/\v=.lst (nms l):=by cases r with
 |none=>cases h
 |some l=>exact⟨l,rfl,(aq.inj h).symm⟩
theorem DA{G:GD}{H:List AO}{U:List Nm}(K:G.Ok H)(W:G.Wd U)(hmn:G.mn=0)(vs:List Slot)(c:Nm)(cs:List Nm)(hl:cs.length<=20):
  ∃r,vP G c cs r/\tN [.clo 1 [.ref G.nf],.bytes c,.lst (nms cs),.clo 2 [.ref G.nt]] [G.sh] ⟨H,vs⟩=xN (rL r) ⟨H,vs⟩:=by
 obtain⟨r,h1,h2⟩:=HA K W vs c cs hl;rw[hmn] at h2;exact⟨r,h1,(congrFun (if_pos ⟨rfl,rfl⟩) _).trans h2⟩
noncomputable def OX(G:GD)(F:List V->P V): Prop:=∀H vs ids,G.Ok H->ids.length<=20->∃r,MB G ids r/\F [.clo 1 [.ref G.nf],.clo 2 [.ref G.nt],G.sh,.lst (nms ids)] ⟨H,vs⟩=xN (rL r) ⟨H,vs⟩
theorem Mu{a b c d:V}: jy ["lookup_parents", "lookup_stamp", "shallows", "commit_ids", "c1", "c2s", "lcas"] ["lookup_parents", "lookup_stamp", "shallows", "commit_ids"] [a,b,c,d]=[.val a,.val b,.val c,.val d,.unset,.unset,.unset]:=by kernel_rfl
theorem Dn{G:GD}{U:List Nm}(W:G.Wd U)(hmn:G.mn=0): OX G H7:=by
 intro H vs ids K hl
 have key:Fb H (fun o=>∃r,MB G ids r/\o=rL r) ((ld tN).1 ⟨H,[.val (.clo 1 [.ref G.nf]),.val (.clo 2 [.ref G.nt]),.val G.sh,.val (.lst (nms ids)),.unset,.unset,.unset]⟩):=by
  delta ld;dsimp only;cases ids with
  |nil=>exact re (oh rfl rfl) (.same ⟨some [],rfl,rfl⟩)
  |cons c l=>
   refine jt (lP rfl rfl) (la (iN rfl rfl) rfl rfl ?_);cases l with
   |nil=>exact re (oh rfl rfl) (.same ⟨some [c],rfl,rfl⟩)
   |cons d l=>
    have h1:((1:Nat):Int)<((nms (c::d::l)).length:Nat):=bD.mpr (dM (bE _));refine jt (lP (mu (iN rfl (iN rfl (jF (op:=.Gt) (a:=.int ((nms (c::d::l)).length:Nat)) (b:=.int 1) (congrArg some (decide_eq_true h1)))))) rfl) (la (iN (iN (iN rfl (iN rfl pO)) rfl) rfl) rfl rfl ?_);by_cases hc:c∈d::l
    .exact re (oh (iN rfl (iN rfl (jF ((wT c (d::l)).trans (congrArg some (decide_eq_true hc)))))) rfl) (.same ⟨some [c],(if_pos hc).mpr rfl,rfl⟩)
    .refine jt (lP (iN rfl (iN rfl (jF ((wT c (d::l)).trans (congrArg some (decide_eq_false hc)))))) rfl) ?_;have mb:∀r,vP G c (d::l) r->MB G (c::d::l) r:=fun r h=>(if_neg hc).mpr h;obtain⟨r,h1,h2⟩:=DA K W hmn [.val (.clo 1 [.ref G.nf]),.val (.clo 2 [.ref G.nt]),.val G.sh,.val (.lst (nms (c::d::l))),.val (.bytes c),.val (.lst (nms (d::l))),.unset] c (d::l) (ab (bU _) hl);exact wg (iN rfl (iN rfl h2)) rfl rfl (fun h=>.exc ⟨r,mb r h1,h.symm⟩) fun v h=>(.same ⟨r,mb r h1,h.symm⟩:Fb H _ (.ok (.ret v) _))
 obtain⟨o,⟨r,h1,rfl⟩,h2⟩:=w8 (us:=[.clo 1 [.ref G.nf],.clo 2 [.ref G.nt],G.sh,.lst (nms ids)]) (vs:=vs) rfl Mu key;exact⟨r,h1,h2⟩
section
variable{H:List AO}{vs:List Slot}{Z:Option V->Prop}
theorem MY(L:List AO)(h:Z none): Fb H Z (.exc ⟨H++L,vs⟩):=by cases L with
 |nil=>refine R1 (ba ..) ?_;exact .exc h
 |cons x r=>exact .GQ h
theorem MZ(L:List AO){v:V}(hf:t0 v=true)(h:Z (some v)): Fb H Z (.ok (.ret v) ⟨H++L,vs⟩):=by cases L with
 |nil=>refine R1 (ba ..) ?_;exact .same h
 |cons x r=>exact .new hf h
theorem qR{x:AO}: (H++[x])[H.length]?=some x:=bf
theorem v8{x y:AO}: (H++[x]).set H.length y=H++[y]:=by exact R1 (cn _ _ (aM _)) (R1 (dE ..) rfl)
theorem Es{a b:List V}(hl:a.length+b.length<100000): P.extend (.ref H.length) [.lst b] ⟨H++[.list a],vs⟩=.ok .none ⟨H++[.list (a++b)],vs⟩:=by unfold P.extend;dsimp only;refine R1 qR ?_;exact(if_pos hl).trans (congrArg (fun H=>Res.ok _ (AS.mk H vs)) v8)
theorem Ek{a:List V}: P.slice (.ref H.length) (.none,.none) ⟨H++[.list a],vs⟩=.ok (.lst a) ⟨H++[.list a],vs⟩:=by unfold P.slice;refine R1 (mB qR) ?_;exact congrArg (fun l=>Res.ok (V.lst l) _) (BI a)
end
noncomputable def OW(G:GD)(F:List V->P V): Prop:=∀H vs ids,G.Ok H->ids.length<=4->∃r,OB G ids r/\F [.clo 1 [.ref G.nf],.clo 2 [.ref G.nt],G.sh,.lst (nms ids)] ⟨H,vs⟩=xN (rL r) ⟨H,vs⟩
theorem ou{Q:Res AF->Prop}{p q:P AF}{σ:AS}(J X:AS->Prop)(h1:∀Q':Res AF->Prop,(∀σ,J σ->Q' (.ok .next σ))->(∀σ,X σ->Q' (.exc σ))->Q' (p σ))(h2:∀σ,J σ->Q (q σ))(hx:∀σ,X σ->Q (.exc σ)): Q (P.seq p q σ):=
 qG (h1 (Sq q Q) (fun σ h=>qW (h2 σ h)) fun σ h=>Fj (hx σ h))
theorem Mt{a b c d:V}: jy ["lookup_parents", "lookup_stamp", "shallows", "commit_ids", "lcas", "others", "cmt", "next_lcas", "ca", "res"] ["lookup_parents", "lookup_stamp", "shallows", "commit_ids"] [a,b,c,d]=[.val a,.val b,.val c,.val d,.unset,.unset,.unset,.unset,.unset,.unset]:=by kernel_rfl
noncomputable def obs(G:GD)(ids ko ot:List Nm)(T:Tl): List Slot:=[.val (.clo 1 [.ref G.nf]),.val (.clo 2 [.ref G.nt]),.val G.sh,.val (.lst (nms ids)),.val (.lst (nms ko)),.val (.lst (nms ot)),T.a,T.b,T.c,T.d]
noncomputable def T0:Tl:=⟨.unset,.unset,.unset,.unset,.unset,.unset,.unset,.unset,.unset,.unset,.unset⟩
theorem Ho:T0.Ok:=⟨rfl,rfl,rfl,rfl,rfl,rfl,rfl,rfl,rfl,rfl,rfl⟩
theorem I2{a b n m:Nat}(h:a+(n+1)*21<=m)(hb:b<=21): a+b+n*21<=m:=ab (aO (aC hb a) _) (by rw[ed,bK (n*21),←bV] at h;exact h)
theorem Cj{H:List AO}{vs:List Slot}{a b:List Nm}(hl:a.length+b.length<100000): P.extend (.ref H.length) [.lst (nms b)] ⟨H++[.list (nms a)],vs⟩=.ok .none ⟨H++[.list (nms (a++b))],vs⟩:=
 (Es (by refine R1 (ak ..) (R1 (ak ..) ?_);exact hl)).trans (by rewrite[nms,nms,nms];exact R1 aS rfl)
section
variable(G:GD)(H:List AO)(ids os:List Nm)(c:Nm)
inductive NR:AS->Prop
 |mk (L:List AO) (r:List Nm) (T:Tl) (h:OF G os [c] (some r)):NR ⟨H++L,obs G ids r os T⟩
inductive NQ:AS->Prop
 |mk (L:List AO) (vs:List Slot) (h:OF G os [c] none):NQ ⟨H++L,vs⟩
inductive M8(xs:List Nm): AS->Prop
 |mk (L:List AO) (ko:List Nm) (T:Tl) (hT:T.Ok) (hb:ko.length*21 ^ xs.length<=9261) (ho:∀res,OF G xs ko res->OF G os [c] res):M8 xs ⟨H++L,obs G ids ko os T⟩
inductive NO(ko:List Nm): AS->Prop
 |mk (acc:List Nm) (T:Tl) (hT:T.Ok) (hc:acc.length<=ko.length*21) (hr:OR G c ko [] (some acc)):NO ko ⟨H++[.list (nms acc)],obs G ids ko os {T with b:=.val (.ref H.length)}⟩
inductive NN(ko:List Nm): AS->Prop
 |mk (y:AO) (vs:List Slot) (hr:OR G c ko [] none):NN ko ⟨H++[y],vs⟩
inductive NP(ko ys:List Nm): AS->Prop
 |mk (acc:List Nm) (T:Tl) (hT:T.Ok) (hc:acc.length+ys.length*21<=ko.length*21) (ho:∀res,OR G c ys acc res->OR G c ko [] res):NP ko ys ⟨H++[.list (nms acc)],obs G ids ko os {T with a:=.val (.bytes c),b:=.val (.ref H.length)}⟩
end
inductive OV(G:GD)(ids:List Nm): Prop
 |z (h:ids=[])
 |few (h0:(nms ids).isEmpty=false) (h2:ids.length<=2) (h3:∀r,MB G ids r->OB G ids r)
 |more (c:Nm) (os:List Nm) (h:ids=c::os) (hn:(nms (c::os)).isEmpty=false) (h2:2<=os.length) (h3:∀r,OF G os [c] r->OB G ids r)
theorem On(G:GD)(ids:List Nm): OV G ids:=by
 cases ids with
 |nil=>exact .z rfl
 |cons c l=>cases l with
  |nil=>exact .few rfl (bU 1) fun Y h=>h
  |cons d l=>cases l with
   |nil=>exact .few rfl (aM 2) fun Y h=>h
   |cons e l=>exact .more c (d::e::l) rfl rfl (bI _ _) fun Y h=>h
theorem Kz{G:GD}{U:List Nm}(W:G.Wd U)(hmn:G.mn=0): OW G N0:=by
 intro H vs ids K hl
 have key:Fb H (fun o=>∃r,OB G ids r/\o=rL r) ((kN H7 tN).1 ⟨H,[.val (.clo 1 [.ref G.nf]),.val (.clo 2 [.ref G.nt]),.val G.sh,.val (.lst (nms ids)),.unset,.unset,.unset,.unset,.unset,.unset]⟩):=by
  delta kN;dsimp only;cases On G ids with
  |z h=>refine R1 h ?_;exact re (oh rfl rfl) (.same ⟨some [],rfl,rfl⟩)
  |few h0 h2 h3=>
   have h4:((nms ids).length:Int)<=2:=dz.mpr (ab (aE (ak ..)) h2);obtain⟨r,h6,h7⟩:=Dn W hmn H [.val (.clo 1 [.ref G.nf]),.val (.clo 2 [.ref G.nt]),.val G.sh,.val (.lst (nms ids)),.unset,.unset,.unset,.unset,.unset,.unset] ids K (ab h2 (by decide));refine jt (lP (lc (mu (iN rfl rfl)) ((dH _).trans h0)) rfl) (qG (Kq (iN rfl (iN rfl (jF (op:=.LtE) (a:=.int ((nms ids).length:Nat)) (b:=.int 2) (congrArg some (decide_eq_true h4))))) ?_));exact ID (Q:=Sq _ _) (iN rfl h7) (fun h=>Fj (.exc ⟨r,h3 r h6,h.symm⟩)) fun v h=>BF (.same ⟨r,h3 r h6,h.symm⟩)
  |more c os h h0 h2 h3=>
   have h4:¬ ((nms ids).length:Int)<=2:=fun q=>Nat.not_succ_le_self 2 (ab (h▸bc h2:3<=ids.length) (ab (aE (ak ..).symm) (dz.mp q)));have h5:nms ids=.bytes c::nms os:=congrArg nms h;have hl3:os.length<=3:=dI (show(c::os).length<=4 from h▸hl);refine jt (lP (lc (mu (iN rfl rfl)) ((dH _).trans (h▸h0))) rfl) (jt (lP (iN rfl (iN rfl (jF (op:=.LtE) (a:=.int ((nms ids).length:Nat)) (b:=.int 2) (congrArg some (decide_eq_false h4))))) rfl) (la (v:=.lst [.bytes c]) (iN (iN (iN rfl (iN rfl (lb (k:=0) (us:=nms ids) (fun Y=>rfl) (congrArg (fun l:List V=>l[0]?) h5)))) rfl) rfl) rfl rfl (la (v:=.lst (nms os)) (iN rfl (iN rfl (lc pO (congrArg (fun l=>V.lst (l.drop 1)) h5)))) rfl rfl ?_)));refine ou (NR G H ids os c) (NQ G H os c) (fun Q hQ hX=>?_) ?_ ?_
   .refine mt (g:=V.bytes) (xs:=os) (M8 G H ids os c) (Eq.mp (congrArg (M8 G H ids os c os) (congrArg (AS.mk · (obs G ids [c] os T0)) (ba H))) (.mk [] [c] T0 Ho (ab (bF 1 (fD (by decide) hl3)) (by decide)) fun Y h=>h)) rfl ?_ ?_
    .rintro y9 xs _ ⟨L,ko,T,hT,hb,ho⟩
     have hb1:ko.length*21*21 ^ xs.length<=9261:=by rw[bd,gl,eg (21 ^ xs.length) 21,←fN] at hb;exact hb
     have hb2:ko.length*21<=9261:=ab (eW _ (Nat.pow_pos (by decide))) hb1;refine kW (kh rfl hT.a) (la (iN rfl rfl) rfl hT.b ?_);refine ou (NO G (H++L) ids os y9 ko) (NN G (H++L) y9 ko) (fun Q hQ hX=>?_) ?_ ?_
     .refine mt (g:=V.bytes) (xs:=ko) (NP G (H++L) ids os y9 ko) (.mk [] T hT (aE (bX _)) fun Y h=>h) rfl ?_ ?_
      .rintro ca ys _ ⟨acc,T,hT,hc,ho⟩;refine kW (kh rfl hT.c) ?_;obtain⟨r,hr,he⟩:=DA ((K.ext L).ext [.list (nms acc)]) W hmn (obs G ids ko os {T with a:=.val (.bytes y9),b:=.val (.ref (H++L).length),c:=.val (.bytes ca)}) y9 [ca] (bI 1 19);refine wg (iN rfl (iN rfl he)) rfl hT.d (fun h=>?_) fun v h=>?_
       .exact Ds (hX _ (.mk _ _ (ho none (.inl ⟨rK h▸hr,rfl⟩))))
       .obtain⟨k,rfl,rfl⟩:=rJ h;have hk:=I2 hc (hr.few W);refine kM (iN (sG rfl (nh qR) (iN rfl (Cj (ag (ab (ay _ _) (ab hk hb2)) (by decide))))) rfl) (mi (.mk (acc++k) {T with c:=.val (.bytes ca),d:=.val (.lst (nms k))} {hT with c:=rfl,d:=rfl} (ar.symm▸hk) fun res h=>ho res (.inr ⟨k,hr,h⟩)))
      .rintro _ ⟨acc,T,hT,hc,ho⟩;exact hQ _ (.mk acc {T with a:=.val (.bytes y9)} {hT with a:=rfl} (ab (ay _ _) hc) (ho _ rfl))
     .rintro _ ⟨acc,T,hT,hc,hr⟩;exact kM (iN (iN rfl (iN rfl Ek)) (iN (kh rfl rfl) (by exact R1 (ax ..) rfl))) (mi (.mk (L++[.list (nms acc)]) acc {T with b:=.val (.ref (H++L).length)} {hT with b:=rfl} (ab (b7 _ hc) hb1) fun res h=>ho res (.inr ⟨acc,hr,h⟩)))
     .rintro _ ⟨y,vs,hr⟩;refine R1 (ax ..) ?_;exact Ds (hX _ (.mk _ vs (ho none (.inl ⟨hr,rfl⟩))))
    .rintro _ ⟨L,ko,T,-,-,ho⟩;exact hQ _ (.mk L ko T (ho _ rfl))
   .rintro _ ⟨L,r,T,hr⟩;exact MZ L (yV _) ⟨some r,h3 _ hr,rfl⟩
   .rintro _ ⟨L,vs,hr⟩;exact MY L ⟨none,h3 _ hr,rfl⟩
 obtain⟨o,⟨r,h1,rfl⟩,h2⟩:=w8 (us:=[.clo 1 [.ref G.nf],.clo 2 [.ref G.nt],G.sh,.lst (nms ids)]) (vs:=vs) rfl Mt key;exact⟨r,h1,h2⟩
theorem El{G:GD}{H:List AO}(K:G.Ok H){σ:AS}: P.truth G.sh σ=.ok G.k6 σ:=by
 rcases K.sh with ⟨h1,h2⟩ | h1
 .exact R1 h1 (R1 h2 rfl)
 .refine R1 h1 ?_;exact congrArg (Res.ok · σ) (dH _)
theorem Bi{G:GD}{a b:Nm}(hab:¬a=b)(h:G.time a=none): CF G a b (if G.k6=true then some false else none):=by unfold CF;exact R1 (if_neg hab) (R1 h rfl)
theorem Bh{G:GD}{a b:Nm}{t:Int}{res:Option Bool}(hab:¬a=b)(h:G.time a=some t)(hr:(vP (G.up t) a [b] none/\res=none)\/∃r,vP (G.up t) a [b] (some r)/\res=some (decide (r=[a]))): CF G a b res:=by unfold CF;refine R1 (if_neg hab) (R1 h ?_);exact hr
theorem Mw{a b c d e:V}: jy ["lookup_parents", "lookup_stamp", "shallows", "c1", "c2", "min_stamp", "lcas"] ["lookup_parents", "lookup_stamp", "shallows", "c1", "c2"] [a,b,c,d,e]=[.val a,.val b,.val c,.val d,.val e,.unset,.unset]:=by kernel_rfl
theorem Lo{G:GD}{U:List Nm}{H:List AO}(W:G.Wd U)(K:G.Ok H)(vs:List Slot)(a b:Nm):
  ∃r,CF G a b r/\N3 [.clo 1 [.ref G.nf],.clo 2 [.ref G.nt],G.sh,.bytes a,.bytes b] ⟨H,vs⟩=xN (r.map .bool) ⟨H,vs⟩:=by
 have key:Fb H (fun o=>∃r,CF G a b r/\o=r.map .bool) ((kY AW).1 ⟨H,[.val (.clo 1 [.ref G.nf]),.val (.clo 2 [.ref G.nt]),.val G.sh,.val (.bytes a),.val (.bytes b),.unset,.unset]⟩):=by
  delta kY;dsimp only;by_cases hab:a=b
  .exact re (oh (iN rfl (iN rfl (jF ((HP a b).trans (congrArg some (decide_eq_true hab)))))) rfl) (.same ⟨some true,(if_pos hab).mpr rfl,rfl⟩)
  .refine jt (lP (iN rfl (iN rfl (jF ((HP a b).trans (congrArg some (decide_eq_false hab)))))) rfl) ?_;have ht:=fun vs=>Ai (H:=H) (vs:=vs) (k:=a) K.times;rw[K.time a] at ht;cases h:G.time a with
   |none=>
    rw[h] at ht;cases hs:G.k6 with
    |true=>exact re (pN (lY (uR rfl rfl (iN rfl (ht _)))) (Bb (oh (iN rfl (lc (El K) hs)) (Bb rfl)))) (.same ⟨some false,by have:=Bi hab h;rw[hs] at this;exact this,rfl⟩)
    |false=>exact kM (lY (pN (lY (uR rfl rfl (iN rfl (ht _)))) (oD (lP (iN rfl (lc (El K) hs)) rfl) (lY rfl)))) (.exc ⟨none,by have:=Bi hab h;rw[hs] at this;exact this,rfl⟩)
   |some t=>
    have h':=h;rw[h] at ht;refine jt (uc (iN (uR rfl rfl (iN rfl (ht _))) rfl)) ?_;obtain⟨r,h1,h2⟩:=HA (K.up t) (U:=U) ⟨W.all,W.few⟩ [.val (.clo 1 [.ref G.nf]),.val (.clo 2 [.ref G.nt]),.val G.sh,.val (.bytes a),.val (.bytes b),.val (.int t),.unset] a [b] (bI 1 19);have h3:AW [.clo 1 [.ref G.nf],.bytes a,.lst (nms [b]),.clo 2 [.ref G.nt]] [.int t,G.sh] ⟨H,_⟩=_:=(congrFun (if_pos ⟨rfl,rfl⟩) _).trans h2;refine wg (iN rfl (iN rfl h3)) rfl rfl (fun h=>.exc ⟨none,Bh hab h' (.inl ⟨rK h▸h1,rfl⟩),rfl⟩) fun v h=>?_;obtain⟨l,rfl,rfl⟩:=rJ h;exact kM (iN (iN (iN rfl (iN rfl (jF (xk l [a])))) rfl) rfl) (.same ⟨some (decide (l=[a])),Bh hab h' (.inr ⟨l,h1,rfl⟩),rfl⟩)
 obtain⟨o,⟨r,h1,rfl⟩,h2⟩:=w8 (us:=[.clo 1 [.ref G.nf],.clo 2 [.ref G.nt],G.sh,.bytes a,.bytes b]) (vs:=vs) rfl Mw key;exact⟨r,h1,h2⟩
theorem Mv{a b c d:V}: jy ["lookup_parents", "lookup_stamp", "shallows", "commit_ids", "independent_commits", "i", "commit_id", "is_independent", "j", "other_id", "merge_bases"] ["lookup_parents", "lookup_stamp", "shallows", "commit_ids"] [a,b,c,d]=[.val a,.val b,.val c,.val d,.unset,.unset,.unset,.unset,.unset,.unset,.unset]:=by kernel_rfl
theorem Eg:∀(l:List Nm) (i:Nat),(en i l).length=l.length
 |[],_=>rfl
 |_::l,i=>congrArg dp (Eg l (i+1))
theorem Et{l:List Nm}{σ:AS}: P.enumItems [.lst (nms l)] σ=.ok ((en 0 l).map GR) σ:=(rfl:_=Res.ok (enumFrom 0 (nms l)) σ).trans (congrArg (Res.ok · σ) (yH l 0))
noncomputable def ins(G:GD)(ids:List Nm)(r:Nat)(T:Tl): List Slot:=[.val (.clo 1 [.ref G.nf]),.val (.clo 2 [.ref G.nt]),.val G.sh,.val (.lst (nms ids)),.val (.ref r),T.a,T.b,T.c,T.d,T.e,T.f]
theorem KD{J:AS->Prop}{Q:Res AF->Prop}{σ:AS}(h:Q (.ok .next σ)): Lp J Q (.ok .brk σ):=by unfold Lp;exact h
theorem JC{H:List AO}{vs:List Slot}{a:List Nm}{c:Nm}(hl:a.length<100000): P.append (.ref H.length) [.bytes c] ⟨H++[.list (nms a)],vs⟩=.ok .none ⟨H++[.list (nms (a++[c]))],vs⟩:=
 (yL qR (by refine R1 (ak ..) ?_;exact hl)).trans (by refine R1 v8 ?_;rewrite[nms,nms];exact R1 aS rfl)
section
variable(G:GD)(H:List AO)(ids:List Nm)
inductive NY:AS->Prop
 |mk (r:List Nm) (T:Tl) (h:IN G ids (some r)):NY ⟨H++[.list (nms r)],ins G ids H.length T⟩
inductive NX:AS->Prop
 |mk (y:AO) (vs:List Slot) (h:IN G ids none):NX ⟨H++[y],vs⟩
inductive NZ(xs:List (Nat×Nm)): AS->Prop
 |mk (acc:List Nm) (T:Tl) (hT:T.Ok) (hb:acc.length+xs.length<=20) (ho:∀res,IA G (en 0 ids) xs acc res->IA G (en 0 ids) (en 0 ids) [] res):NZ xs ⟨H++[.list (nms acc)],ins G ids H.length T⟩
variable(acc:List Nm)(i:Nat)(c:Nm)
inductive NV:AS->Prop
 |mk (b:Bool) (T:Tl) (hT:T.Ok) (h:IR G i c (en 0 ids) (some b)):NV ⟨H++[.list (nms acc)],ins G ids H.length {T with a:=.val (.int i),b:=.val (.bytes c),c:=.val (.bool b)}⟩
inductive NU:AS->Prop
 |mk (vs:List Slot) (h:IR G i c (en 0 ids) none):NU ⟨H++[.list (nms acc)],vs⟩
inductive NW(ys:List (Nat×Nm)): AS->Prop
 |mk (T:Tl) (hT:T.Ok) (ho:∀res,IR G i c ys res->IR G i c (en 0 ids) res):NW ys ⟨H++[.list (nms acc)],ins G ids H.length {T with a:=.val (.int i),b:=.val (.bytes c),c:=.val (.bool true)}⟩
end
inductive O1(G:GD)(ids:List Nm): Prop
 |z (h:ids=[])
 |one (c:Nm) (h:ids=[c])
 |more (h0:(nms ids).isEmpty=false) (h4:¬ ((nms ids).length:Int)=1) (h:∀r,IA G (en 0 ids) (en 0 ids) [] r->IN G ids r)
theorem inC(G:GD)(ids:List Nm): O1 G ids:=by
 cases ids with
 |nil=>exact .z rfl
 |cons c l=>cases l with
  |nil=>exact .one c rfl
  |cons d l=>exact .more rfl (fun h=>absurd (et.inj h) (Nat.succ_ne_succ_iff.mpr (dj _))) fun Y h=>h
theorem zZ{G:GD}{H:List AO}{U:List Nm}(W:G.Wd U)(hmn:G.mn=0)(K:G.Ok H)(vs:List Slot)(ids:List Nm)(hl:ids.length<=20):
  ∃r,IN G ids r/\LO [.clo 1 [.ref G.nf],.clo 2 [.ref G.nt],G.sh,.lst (nms ids)] ⟨H,vs⟩=xN (rL r) ⟨H,vs⟩:=by
 have key:Fb H (fun o=>∃r,IN G ids r/\o=rL r) ((lO H7).1 ⟨H,[.val (.clo 1 [.ref G.nf]),.val (.clo 2 [.ref G.nt]),.val G.sh,.val (.lst (nms ids)),.unset,.unset,.unset,.unset,.unset,.unset,.unset]⟩):=by
  delta lO;dsimp only;cases inC G ids with
  |z h=>refine R1 h ?_;exact re (oh rfl rfl) (.same ⟨some [],rfl,rfl⟩)
  |one c h=>refine R1 h ?_;exact jt (lP rfl rfl) (re (oh rfl rfl) (.same ⟨some [c],rfl,rfl⟩))
  |more hne h4 NJ=>
   refine jt (lP (lc (mu (iN rfl rfl)) ((dH _).trans hne)) rfl) (jt (lP (iN rfl (iN rfl (jF (op:=.Eq) (a:=.int ((nms ids).length:Nat)) (b:=.int 1) (congrArg some (beq_eq_false_iff_ne.mpr h4))))) rfl) (la (iN rfl rfl) rfl rfl ?_));refine ou (NY G H ids) (NX G H ids) (fun Q hQ hX=>?_) ?_ ?_
   .refine mt (g:=GR) (xs:=en 0 ids) (NZ G H ids) (.mk [] T0 Ho (ab (aE (bX _)) ((Eg ids 0).symm▸hl)) fun Y h=>h) (iN rfl Et) ?_ ?_
    .rintro⟨i,c⟩ xs _ ⟨acc,T,hT,hb,ho⟩;refine kW (pP rfl hT.a rfl hT.b) (la rfl rfl hT.c ?_);refine ou (NV G H ids acc i c) (NU G H ids acc i c) (fun Q hQ hX=>?_) ?_ ?_
     .refine mt (g:=GR) (xs:=en 0 ids) (NW G H ids acc i c) (.mk T hT fun Y h=>h) (iN rfl Et) ?_ ?_
      .rintro⟨j,d⟩ ys _ ⟨T,hT,ho⟩;refine kW (pP rfl hT.d rfl hT.e) ?_;by_cases hij:i=j
       .exact kM (rS (oh (iN rfl (iN rfl (jF ((nu i j).trans (congrArg some (decide_eq_true hij)))))) rfl)) (Dt (.mk {T with d:=.val (.int j),e:=.val (.bytes d)} {hT with d:=rfl,e:=rfl} fun res h=>ho res (.inl ⟨hij,h⟩)))
       .refine jt (lP (iN rfl (iN rfl (jF ((nu i j).trans (congrArg some (decide_eq_false hij)))))) rfl) ?_;obtain⟨r,hr,he⟩:=Dn W hmn (H++[.list (nms acc)]) (ins G ids H.length {T with a:=.val (.int i),b:=.val (.bytes c),c:=.val (.bool true),d:=.val (.int j),e:=.val (.bytes d)}) [c,d] (K.ext _) (bI 2 18);refine wg (iN rfl he) rfl hT.f (fun h=>?_) fun v h=>?_
        .exact Ds (hX _ (.mk _ (ho none (.inr ⟨hij,.inl ⟨rK h▸hr,rfl⟩⟩))))
        .obtain⟨k,rfl,rfl⟩:=rJ h;by_cases hk:k=[c]
         .exact kM (oh (iN rfl (iN rfl (jF ((xk k [c]).trans (congrArg some (decide_eq_true hk)))))) (oD rfl rfl)) (KD (hQ _ (.mk false {T with d:=.val (.int j),e:=.val (.bytes d),f:=.val (.lst (nms k))} {hT with d:=rfl,e:=rfl,f:=rfl} (ho _ (.inr ⟨hij,.inr ⟨k,hr,.inl ⟨hk,rfl⟩⟩⟩)))))
         .exact kM (lP (iN rfl (iN rfl (jF ((xk k [c]).trans (congrArg some (decide_eq_false hk)))))) rfl) (mi (.mk {T with d:=.val (.int j),e:=.val (.bytes d),f:=.val (.lst (nms k))} {hT with d:=rfl,e:=rfl,f:=rfl} fun res h=>ho res (.inr ⟨hij,.inr ⟨k,hr,.inr ⟨hk,h⟩⟩⟩)))
      .rintro _ ⟨T,hT,ho⟩;exact hQ _ (.mk true T hT (ho _ rfl))
     .rintro _ ⟨b,T,hT,hr⟩;cases b with
      |false=>exact kM (lP rfl rfl) (mi (.mk acc {T with a:=.val (.int i),b:=.val (.bytes c),c:=.val (.bool false)} {hT with a:=rfl,b:=rfl,c:=rfl} (ab (aC (bU _) _) hb) fun res h=>ho res (.inr ⟨false,hr,h⟩)))
      |true=>
       refine kM (oh rfl (iN (sG rfl (nh qR) (iN rfl (JC (ag (ab (ay _ _) hb) (by decide))))) rfl)) (mi (.mk (acc++[c]) {T with a:=.val (.int i),b:=.val (.bytes c),c:=.val (.bool true)} {hT with a:=rfl,b:=rfl,c:=rfl} ?_ fun res h=>ho res (.inr ⟨true,hr,h⟩)));refine R1 ar (R1 (bV ..) ?_);rewrite[bK [c].length];exact hb
     .rintro _ ⟨vs,hr⟩;exact Ds (hX _ (.mk _ vs (NJ _ (ho none (.inl ⟨hr,rfl⟩)))))
    .rintro _ ⟨acc,T,-,-,ho⟩;exact hQ _ (.mk acc T (NJ _ (ho _ rfl)))
   .rintro _ ⟨r,T,hr⟩;exact .ref ((fb (f:=V.bytes)).trans (bl.mpr fun Y Y=>rfl)) ⟨some r,hr,rfl⟩
   .rintro _ ⟨y,vs,hr⟩;exact .GQ ⟨none,hr,rfl⟩
 obtain⟨o,⟨r,h1,rfl⟩,h2⟩:=w8 (us:=[.clo 1 [.ref G.nf],.clo 2 [.ref G.nt],G.sh,.lst (nms ids)]) (vs:=vs) rfl Mv key;exact⟨r,h1,h2⟩
noncomputable abbrev RR(rs:List Nat):=Reach (lu rs)
structure Gr(rs:List Nat)(rk:List (Int×Nm)): Prop where
 down:Down rs
 len:rk.length=rs.length
 tr:∀a b c,qE rk a b=true->qE rk b c=true->qE rk a c=true
 tot:∀a b,a<rs.length->b<rs.length->a≠b->qE rk a b=true\/qE rk b a=true
section
variable{rs:List Nat}{rk:List (Int×Nm)}
theorem ow(hd:Down rs){x e:Nat}(h:e∈lu rs x): e<x:=hd _ _ ((ln hd).mp h)
theorem jR(hd:Down rs){S:Nat->Prop}{x v:Nat}(h:Way (lu rs) S x v): v<=x:=by
 induction h with
 |refl _=>exact aM _
 |step _ hz _ ih=>exact ab (aG (ow hd hz)) ih
theorem sY{S:Nat->Prop}{x m:Nat}(h:RR rs x m): (∀z,RR rs x z->RR rs z m->S z)->Way (lu rs) S x m:=by
 induction h with
 |refl _=>exact fun hs=>.refl (hs _ (.refl trivial) (.refl trivial))
 |step h hz _ ih=>exact fun hs=>.step (ih fun z a b=>hs z a (.step b hz trivial)) hz (hs _ (.step h hz trivial) (.refl trivial))
theorem nr(hd:Down rs)(f k:Nat): (dn f rs (every rs.length)).testBit k=true↔∃x,x<rs.length/\f.testBit x=true/\RR rs x k:=by
 rw[xi hd];constructor
 .rintro⟨x,h1,h2⟩;have:=h2.left;rw[rQ,decide_eq_true_iff] at this;exact⟨x,this,h1,h2.mono (fun Y Y h=>h) fun Y Y=>trivial⟩
 .rintro⟨x,h0,h1,h2⟩
  exact⟨x,h1,sY h2 fun z hz Y=>by have:=jR hd hz;rw[rQ,decide_eq_true_iff];exact ag this h0⟩
theorem rP(hd:Down rs){one two v:Nat}: (jo one two rs).testBit v=true↔(∃x,x<rs.length/\one.testBit x=true/\RR rs x v)/\∃x,x<rs.length/\two.testBit x=true/\RR rs x v:=by unfold jo;rw[bQ,aW,nr hd,nr hd]
theorem lQ(hd:Down rs){m k:Nat}: k∈tp m rs↔k<rs.length/\m.testBit k=true/\∀j,m.testBit j=true->k∉lu rs j:=by
 unfold tp;rw[bC,a6,aW,bx];refine and_congr_right fun Y=>and_congr_right fun Y=>?_;rw[←eV,wq];constructor
 .intro h j h1 h2;exact h ⟨j,h1,(ln hd).mp h2⟩
 .rintro h ⟨j,h1,h2⟩;exact h j h1 ((ln hd).mpr h2)
theorem wm(K:Gr rs rk){k one two:Nat}(h1:∀x,one.testBit x=true->x<rs.length)(h2:∀x,two.testBit x=true->x<rs.length): pa k one two rs rk=true↔∃m,(∃x,one.testBit x=true/\Way (lu rs) (fun y=>qE rk y k=true) x m)/\(∃x,two.testBit x=true/\Way (lu rs) (fun y=>qE rk y k=true) x m)/\k∈lu rs m:=by
 have hd:=K.down
 have hw:∀x m,x<rs.length->(Way (lu rs) (fun y=>(ahead rk k).testBit y=true) x m↔Way (lu rs) (fun y=>qE rk y k=true) x m):=fun x m hx=>by
  constructor
  .exact fun h=>h.mono (fun Y Y h=>h) fun y hy=>((rX rk k y).mp hy).2
  .intro h
   induction h with
   |refl hs=>exact .refl ((rX rk k x).mpr ⟨by rw[K.len];exact hx,hs⟩)
   |step w hz hs ih=>
    exact .step ih hz ((rX rk k _).mpr ⟨K.len▸aF (ow hd hz) (ag (jR hd w) hx),hs⟩)
 unfold pa;rw[wq];refine exists_congr fun m=>?_;rw[bQ,aW,xi hd,xi hd,←ln hd,and_assoc];refine and_congr (exists_congr fun x=>and_congr_right fun hx=>hw x m (h1 x hx)) (and_congr_left fun Y=>exists_congr fun x=>and_congr_right fun hx=>hw x m (h2 x hx))
theorem yD(K:Gr rs rk){one two v:Nat}(h1:∀x,one.testBit x=true->x<rs.length)(h2:∀x,two.testBit x=true->x<rs.length)(hf:fa (dn (one|||two) rs (every rs.length)) rs rk=true)
  (hv:(jo one two rs).testBit v=true) (hp:pa v one two rs rk=false):v∈tp (jo one two rs) rs:=by
 have hd:=K.down
 have Oz:v<rs.length:=by obtain⟨⟨x,h,_,hr⟩,_⟩:=(rP hd).mp hv;exact ag (jR hd hr) h
 refine(lQ hd).mpr ⟨Oz,hv,fun j hj hvj=>?_⟩;rw[D9] at hf
 have edge:∀z w,(dn (one|||two) rs (every rs.length)).testBit z=true->w∈lu rs z->qE rk z w=true:=fun z w hz hw=>by
  have hb:=(ln hd).mp hw;have hlt:=ow hd hw;have MC:=w5 hb;rcases K.tot z w MC (by exact aF (hd z w hb) MC) (by exact Ne.symm (aK (hd z w hb))) with h | h
  .exact h
  .rw[hf z MC hz w hlt hb] at h;cases h
 have low:∀z w,(dn (one|||two) rs (every rs.length)).testBit z=true->RR rs z w->(dn (one|||two) rs (every rs.length)).testBit w=true:=fun z w hz hw=>by obtain⟨x,a,b,c⟩:=(nr hd _ _).mp hz;exact(nr hd _ _).mpr ⟨x,a,b,c.trans hw⟩
 have up:∀z m,RR rs z m->(dn (one|||two) rs (every rs.length)).testBit z=true->∀v,v∈lu rs m->qE rk z v=true:=fun z m h=>by
  induction h with
  |refl _=>exact fun hz v hv=>edge z v hz hv
  |step w hz _ ih=>exact fun hx v hv=>K.tr _ _ _ (ih hx _ hz) (edge _ _ (low _ _ hx (.step w hz trivial)) hv)
 obtain⟨⟨x,a1,a2,a3⟩,y,b1,b2,b3⟩:=(rP hd).mp hj;have hx:(dn (one|||two) rs (every rs.length)).testBit x=true:=(nr hd _ _).mpr ⟨x,a1,by rw[bG,a2];rfl,.refl trivial⟩;have hy:(dn (one|||two) rs (every rs.length)).testBit y=true:=(nr hd _ _).mpr ⟨y,b1,by rw[bG,b2,cN],.refl trivial⟩;have:=(wm K h1 h2).mpr ⟨j,⟨x,a2,sY a3 fun z p q=>up z j q (low x z hx p) v hvj⟩,⟨y,b2,sY b3 fun z p q=>up z j q (low y z hy p) v hvj⟩,hvj⟩;rw[hp] at this;cases this
theorem Av(m:Nat)(rs:List Nat): (tp m rs).Pairwise (·<·):=by unfold tp;exact dQ.filter _ List.pairwise_lt_range
theorem m6(m:Nat)(rs:List Nat): (tp m rs).Nodup:=(Av m rs).imp fun h=>aK h
theorem CQ{a b:List Nat}(h:a.Perm b)(hb:b.Pairwise (·<·)): sortI (a.map fun(n:Nat)=>(n:Int))=b.map fun(n:Nat)=>(n:Int):=by
 unfold sortI;refine mh ((bT _ _).trans (h.map _)) ?_ ?_
 .have:=cu (le:=fun(a b:Int)=>decide (a<=b)) (fun a b c=>by simp only[decide_eq_true_iff];exact fun a_2 OS=>cT a_2 OS) (fun a b=>by simp only[bj,decide_eq_true_iff];exact fe a b) (a.map fun(n:Nat)=>(n:Int));exact this.imp fun h=>of_decide_eq_true h
 .exact c8.mpr (hb.imp fun h=>dz.mpr (aG h))
theorem tF{a b:List Nat}(ha:a.Nodup)(hb:b.Nodup)(h:∀x,x∈a↔x∈b): a.Perm b:=(List.perm_ext_iff_of_nodup ha hb).mpr h
theorem kD(a x:Nat): (1<<<a).testBit x=true↔x=a:=by rw[cO,eb,decide_eq_true_iff];exact eq_comm
theorem mA{α:Type}[DecidableEq α]: ∀{l U:List α},l.Nodup->(∀x∈l,x∈U)->l.length<=U.length
 |[],U,_,_=>bt _
 |x::l,U,hn,hs=>by
  obtain⟨h1,h2⟩:=be.mp hn;have hx:=hs x ac;have:=mA (U:=U.erase x) h2 fun y hy=>(fE (fun e=>h1 (by rw[←e];exact hy))).mpr (hs y (ad _ hy));rw[dq hx] at this;have hp:=cW hx;rw[bd];exact fF hp this
theorem yA(K:Gr rs rk){a two:Nat}{cs spots:List Nat}(ha:a<rs.length)(hc:∀c∈cs,c<rs.length)(h2:∀x,two.testBit x=true↔x∈cs)(F:Found (lu rs) (qE rk) a cs spots)(hN:rs.length<60)
  (hs:∀p∈spots.zip (spots.drop 1),¬ (rk.getD p.1 (0,[])).1<(rk.getD p.2 (0,[])).1):uH spots rs rk (1<<<a) two:=by
 have hd:=K.down;have one:∀x,(1<<<a).testBit x=true->x<rs.length:=fun x h=>by rw[(kD _ _).mp h];exact ha
 have Kj:∀x,two.testBit x=true->x<rs.length:=fun x h=>hc x ((h2 x).mp h);have lt:∀k∈spots,k<rs.length:=fun k hk=>by have:=jR hd (F.joint k hk).1;exact ag this ha
 have joint:∀k∈spots,(jo (1<<<a) two rs).testBit k=true:=fun k hk=>by obtain⟨h1,c,hcm,h3⟩:=F.joint k hk;exact(rP hd).mpr ⟨⟨a,ha,(kD _ _).mpr rfl,h1⟩,c,hc c hcm,(h2 c).mpr hcm,h3⟩
 have free:∀k∈spots,pa k (1<<<a) two rs rk=false:=fun k hk=>by
  cases q:pa k (1<<<a) two rs rk with
  |false=>rfl
  |true=>
   obtain⟨m,⟨x,x1,x2⟩,⟨y,y1,y2⟩,hm⟩:=(wm K one Kj).mp q;rw[(kD _ _).mp x1] at x2;exact(F.free k hk ⟨m,x2,⟨y,(h2 y).mp y1,y2⟩,hm⟩).elim
 have tops:∀k∈tp (jo (1<<<a) two rs) rs,k∈spots:=fun k hk=>by obtain⟨_,h,h'⟩:=(lQ hd).mp hk;obtain⟨⟨x,_,x1,x2⟩,y,_,y1,y2⟩:=(rP hd).mp h;rw[(kD _ _).mp x1] at x2;refine F.tops k x2 ⟨y,(h2 y).mp y1,y2⟩ fun m m1 ⟨c,c1,c2⟩=>h' m ((rP hd).mpr ⟨⟨a,ha,(kD _ _).mpr rfl,m1⟩,c,hc c c1,(h2 c).mpr c1,c2⟩)
 refine⟨lt,?_,hs,fun hf=>CQ (tF F.nodup (m6 _ _) fun x=>⟨fun h=>yD K one Kj hf (joint x h) (free x h),tops x⟩) (Av _ _),F.nodup,joint,fun k hk Y=>free k hk,tops,fun x hx y hy=>?_⟩
 .have:spots.length<=(aX rs.length).length:=mA F.nodup fun x hx=>a6.mpr (lt x hx);rw[br] at this;exact ag this (aF hN (by decide))
 .cases q:(rs.getD x 0).testBit y with
  |false=>rfl
  |true=>exact(F.apart x hx y hy ((ln hd).mpr q)).elim
end
structure Wo(G:GD)(rs:List Nat)(rk:List (Int×Nm))(nm:Nat->Nm): Prop where
 gr:Gr rs rk
 inj:∀i j,i<rs.length->j<rs.length->nm i=nm j->i=j
 par:∀i,i<rs.length->∀x,x∈G.par (nm i)↔∃e,e∈lu rs i/\x=nm e
 lt:∀i j,i<rs.length->j<rs.length->ltN G.st (nm i) (nm j)=qE rk i j
 st:∀i,i<rs.length->(rk.getD i (0,[])).1=-(G.st (nm i))
theorem Ap{α:Type}[DecidableEq α]{par:α->List α}{S S':α->Prop}{x m:α}(h:Way par S x m): (∀z,Reach par x z->S z->S' z)->Way par S' x m:=by
 induction h with
 |refl hs=>exact fun hi=>.refl (hi _ (.refl trivial) hs)
 |step w hz hs ih=>exact fun hi=>.step (ih hi) hz (hi _ (.step (w.mono (fun Y Y h=>h) fun Y Y=>trivial) hz trivial) hs)
section
variable{G:GD}{rs:List Nat}{rk:List (Int×Nm)}{nm:Nat->Nm}
theorem rE(W:Wo G rs rk nm){S:Nm->Prop}{i:Nat}(hi:i<rs.length){x:Nm}: Way G.par S (nm i) x↔∃j,x=nm j/\Way (lu rs) (fun y=>S (nm y)) i j:=by
 constructor
 .intro h;generalize hs:nm i=y at h
  induction h with
  |refl h=>exact⟨i,hs.symm,.refl (by refine R1 hs ?_;exact h)⟩
  |step w hz hS ih=>
   obtain⟨j,rfl,wj⟩:=ih;have:=jR W.gr.down wj;obtain⟨e,he,rfl⟩:=(W.par j (by exact ag this hi) _).mp hz;exact⟨e,rfl,.step wj he hS⟩
 .rintro⟨j,rfl,h⟩
  induction h with
  |refl h=>exact .refl h
  |step w hz hS ih=>
   have:=jR W.gr.down w;exact .step ih ((W.par _ (by exact ag this hi) _).mpr ⟨_,hz,rfl⟩) hS
theorem pD(W:Wo G rs rk nm){i j:Nat}(hi:i<rs.length)(hj:j<rs.length): Reach G.par (nm i) (nm j)↔RR rs i j:=by
 constructor
 .intro h;obtain⟨k,e,h⟩:=(rE W hi).mp h;have:=jR W.gr.down h;refine R1 (W.inj _ _ hj (by exact ag this hi) e) ?_;exact h
 .exact fun h=>(rE W hi).mpr ⟨j,rfl,h⟩
noncomputable def numOf(nm:Nat->Nm)(n:Nat)(x:Nm): Nat:=((aX n).find? fun j=>decide (nm j=x)).getD 0
theorem tC{n j:Nat}(hj:j<n): numOf nm n (nm j)<n/\nm (numOf nm n (nm j))=nm j:=by
 unfold numOf;cases h:(aX n).find? fun i=>decide (nm i=nm j) with
 |none=>exact absurd (eE.mp h j (a6.mpr hj)) (by simp)
 |some i=>
  have h1:=fm h;have h2:=List.mem_of_find?_eq_some h;exact⟨a6.mp h2,of_decide_eq_true h1⟩
theorem D3(W:Wo G rs rk nm){a:Nat}{cs:List Nat}{res:List Nm}(ha:a<rs.length)(hc:∀c∈cs,c<rs.length)(F:Found G.par (ltN G.st) (nm a) (cs.map nm) res):
  ∃spots,res=spots.map nm/\(∀k∈spots,k<rs.length)/\Found (lu rs) (qE rk) a cs spots:=by
 have hd:=W.gr.down
 have mem:∀x∈res,∃j,j<rs.length/\x=nm j:=fun x hx=>by obtain⟨j,e,h⟩:=(rE W ha).mp (F.joint x hx).1;have:=jR hd h;exact⟨j,by exact ag this ha,e⟩
 have e:res=(res.map (numOf nm rs.length)).map nm:=by refine R1 bA ((fx res).symm.trans (bS fun x hx=>?_));obtain⟨j,hj,rfl⟩:=mem x hx;exact(tC hj).2.symm
 have hlt:∀k∈res.map (numOf nm rs.length),k<rs.length:=fun k hk=>by obtain⟨x,hx,rfl⟩:=bg.mp hk;obtain⟨j,hj,rfl⟩:=mem x hx;exact(tC hj).1
 generalize res.map (numOf nm rs.length)=spots at e hlt;subst e
 have inn:∀{j},j<rs.length->(nm j∈spots.map nm↔j∈spots):=fun{j} hj=>by
  rw[bg];constructor
  .rintro⟨k,hk,e⟩;refine R2 (W.inj _ _ (hlt k hk) hj e) ?_;exact hk
  .exact fun h=>⟨j,h,rfl⟩
 have ex:∀{S:Nm->Prop} {y:Nm},(∃c∈cs.map nm,Way G.par S c y)↔∃c∈cs,Way G.par S (nm c) y:=fun{S y}=>by
  constructor
  .rintro⟨c,h,w⟩;obtain⟨c',h',rfl⟩:=bg.mp h;exact⟨c',h',w⟩
  .rintro⟨c,h,w⟩;exact⟨nm c,aQ h,w⟩
 refine⟨spots,rfl,hlt,?_,fun k hk=>?_,fun k hk=>?_,fun t h1 h2 h3=>?_,fun x hx y hy hxy=>?_⟩
 .exact(c8.mp F.nodup).imp fun h e=>h (by exact R1 e rfl)
 .obtain⟨h1,h2⟩:=F.joint (nm k) (aQ hk);obtain⟨c,hcm,h3⟩:=ex.mp h2;exact⟨(pD W ha (hlt k hk)).mp h1,c,hcm,(pD W (hc c hcm) (hlt k hk)).mp h3⟩
 .rintro⟨m,w1,⟨c,hcm,w2⟩,hm⟩;have hma:=jR hd w1;refine F.free (nm k) (aQ hk) ⟨nm m,(rE W ha).mpr ⟨m,rfl,Ap w1 fun z hz h=>?_⟩,ex.mpr ⟨c,hcm,(rE W (hc c hcm)).mpr ⟨m,rfl,Ap w2 fun z hz h=>?_⟩⟩,(W.par m (by exact ag hma ha) _).mpr ⟨k,hm,rfl⟩⟩
  .have:=jR hd hz;refine R1 (W.lt z k (by exact ag this ha) (hlt k hk)) ?_;exact h
  .have:=jR hd hz;refine R1 (W.lt z k (ag this (hc c hcm)) (hlt k hk)) ?_;exact h
 .have ht:t<rs.length:=by have:=jR hd h1;exact ag this ha
  obtain⟨c,hcm,h2⟩:=h2;refine(inn ht).mp (F.tops (nm t) ((pD W ha ht).mpr h1) (ex.mpr ⟨c,hcm,(pD W (hc c hcm) ht).mpr h2⟩) fun m m1 m2 m3=>?_);obtain⟨j,rfl,hj⟩:=(rE W ha).mp m1;have MO:j<rs.length:=by have:=jR hd hj;exact ag this ha
  obtain⟨c',hc',m2⟩:=ex.mp m2;obtain⟨e,he,ee⟩:=(W.par j MO _).mp m3;have:=ow hd he;rw[←W.inj t e ht (by exact aF this MO) ee] at he;exact h3 j hj ⟨c',hc',(pD W (hc c' hc') MO).mp m2⟩ he
 .exact F.apart (nm x) (aQ hx) (nm y) (aQ hy) ((W.par x (hlt x hx) _).mpr ⟨y,hxy,rfl⟩)
theorem xQ(W:Wo G rs rk nm): ∀{spots:List Nat},(∀k∈spots,k<rs.length)->(spots.map nm).Pairwise (fun x y=>G.st x<=G.st y)->∀p∈spots.zip (spots.drop 1),¬ (rk.getD p.1 (0,[])).1<(rk.getD p.2 (0,[])).1
 |[],_,_,p,hp=>by cases hp
 |[x],_,_,p,hp=>by cases hp
 |x::y::l,hl,h,p,hp=>by
  rw[aR,bN] at h;rcases av.mp hp with rfl | hp
  .refine R1 (W.st x (hl x ac)) (R1 (W.st y (hl y (by simp))) ?_);have:=h.1 (nm y) (by simp);exact fun h=>Int.not_le.mpr (fA h) this
  .exact xQ W (spots:=y::l) (fun k hk=>hl k (ad _ hk)) h.2 p hp
end
section
variable{rs:List Nat}{rk:List (Int×Nm)}
theorem GO{f g:Nat}(h:∀z,f.testBit z=true->g.testBit z=true)(hg:fa g rs rk=true): fa f rs rk=true:=by rw[D9] at *;exact fun k hk hf=>hg k hk (h k hf)
theorem GF(hd:Down rs){J:Nat}(hJ:∀z w,J.testBit z=true->RR rs z w->J.testBit w=true)(hl:∀z,J.testBit z=true->z<rs.length): ∀(n x:Nat),rs.length - x<=n->J.testBit x=true->∃t∈tp J rs,RR rs t x:=by
 intro n
 induction n with
 |zero=>intro x h hx;exact absurd (f8 (hl x hx)) (Nat.not_lt_of_le h)
 |succ n ih=>
  intro x h hx;by_cases ht:x∈tp J rs
  .exact⟨x,ht,.refl trivial⟩
  .have GC:=hl x hx
   have:∃j,J.testBit j=true/\x∈lu rs j:=by refine Classical.byContradiction fun hn=>ht ((lQ hd).mpr ⟨GC,hx,fun j h1 h2=>hn ⟨j,h1,h2⟩⟩)
   obtain⟨j,h1,h2⟩:=this;have:=ow hd h2;obtain⟨t,t1,t2⟩:=ih j (bz (aD (d9 GC this) h)) h1;exact⟨t,t1,.step t2 h2 trivial⟩
structure Du(rs:List Nat)(D:Nat->Prop)(ko due:List Nat): Prop where
 low:∀z w,D z->RR rs z w->D w
 all:∀x∈ko,x<rs.length/\D x
 sub:∀x∈due,x∈ko
 cov:∀x,D x->∃a∈due,RR rs a x
noncomputable def Cs(rs:List Nat)(rk:List (Int×Nm))(k:Nat): List Nat->List Nat->Prop
 |[],out=>out=[]
 |a::l,out=>∃r out',Found (lu rs) (qE rk) k [a] r/\Cs rs rk k l out'/\out=r++out'
noncomputable abbrev tj(rs:List Nat)(k a:Nat): List Nat:=tp (jo (1<<<k) (1<<<a) rs) rs
theorem k7(hd:Down rs){k a v:Nat}(hk:k<rs.length)(ha:a<rs.length): (jo (1<<<k) (1<<<a) rs).testBit v=true↔RR rs k v/\RR rs a v:=by
 rw[rP hd];constructor
 .rintro⟨⟨x,_,x1,x2⟩,y,_,y1,y2⟩;rw[(kD _ _).mp x1] at x2;rw[(kD _ _).mp y1] at y2;exact⟨x2,y2⟩
 .rintro⟨h1,h2⟩;exact⟨⟨k,hk,(kD _ _).mpr rfl,h1⟩,a,ha,(kD _ _).mpr rfl,h2⟩
theorem zB{k:Nat}: ∀{l out:List Nat},Cs rs rk k l out->∀x∈out,∃a∈l,RR rs k x/\RR rs a x
 |[],out,h,x,hx=>by cases h;cases hx
 |a::l,out,h,x,hx=>by
  obtain⟨r,out',hF,h',rfl⟩:=h;rcases aA.mp hx with hx | hx
  .obtain⟨h1,c,hc,h2⟩:=hF.joint x hx;rw[af.mp hc] at h2;exact⟨a,ac,h1,h2⟩
  .obtain⟨b,hb,h1,h2⟩:=zB h' x hx;exact⟨b,ad _ hb,h1,h2⟩
theorem row_has{k:Nat}(hd:Down rs)(hk:k<rs.length): ∀{l out:List Nat},Cs rs rk k l out->∀a∈l,a<rs.length->∀x∈tj rs k a,x∈out
 |[],out,h,a,ha,_,x,hx=>by cases ha
 |b::l,out,h,a,ha,hal,x,hx=>by
  obtain⟨r,out',hF,h',rfl⟩:=h;rcases av.mp ha with rfl | ha
  .refine ai _ ?_;obtain⟨_,h1,h2⟩:=(lQ hd).mp hx;obtain⟨j1,j2⟩:=(k7 hd hk hal).mp h1;refine hF.tops x j1 ⟨a,af.mpr rfl,j2⟩ fun m m1 ⟨c,c1,c2⟩=>h2 m ((k7 hd hk hal).mpr ⟨m1,?_⟩);refine R2 (af.mp c1) ?_;exact c2
  .exact aj _ (row_has hd hk h' a ha hal x hx)
theorem Du.next(hd:Down rs){D:Nat->Prop}{ko due out:List Nat}(U:Du rs D ko due){k:Nat}(hk:k<rs.length)(hr:Cs rs rk k ko out): Du rs (fun x=>D x/\RR rs k x) out (due.flatMap (tj rs k)):=by
 refine⟨fun z w hz hw=>⟨U.low z w hz.1 hw,hz.2.trans hw⟩,fun x hx=>?_,fun x hx=>?_,fun x hx=>?_⟩
 .obtain⟨a,ha,h1,h2⟩:=zB hr x hx;have:=jR hd h1;exact⟨by exact ag this hk,U.low a x (U.all a ha).2 h2,h1⟩
 .obtain⟨a,ha,hx⟩:=cD.mp hx;exact row_has hd hk hr a (U.sub a ha) (U.all a (U.sub a ha)).1 x hx
 .obtain⟨a,ha,h⟩:=U.cov x hx.1;have hal:=(U.all a (U.sub a ha)).1
  have hJ:∀z w,(jo (1<<<k) (1<<<a) rs).testBit z=true->RR rs z w->(jo (1<<<k) (1<<<a) rs).testBit w=true:=fun z w hz hw=>by obtain⟨p,q⟩:=(k7 hd hk hal).mp hz;exact(k7 hd hk hal).mpr ⟨p.trans hw,q.trans hw⟩
  have hl:∀z,(jo (1<<<k) (1<<<a) rs).testBit z=true->z<rs.length:=fun z hz=>by have:=jR hd ((k7 hd hk hal).mp hz).1;exact ag this hk
  obtain⟨t,t1,t2⟩:=GF hd hJ hl _ x (aM _) ((k7 hd hk hal).mpr ⟨hx.2,h⟩);exact⟨t,cD.mpr ⟨a,ha,t1⟩,t2⟩
theorem Du.perm(K:Gr rs rk){f:Nat}(hf:fa f rs rk=true)(hfl:∀z w,f.testBit z=true->RR rs z w->f.testBit w=true){k:Nat}(hk:k<rs.length)(hkf:f.testBit k=true): ∀{ko out:List Nat},(∀x∈ko,x<rs.length/\f.testBit x=true)->Cs rs rk k ko out->out.Perm (ko.flatMap (tj rs k))
 |[],out,_,h=>by cases h;exact .refl _
 |a::l,out,hl,h=>by
  obtain⟨r,out',hF,h',rfl⟩:=h;refine R1 cx ?_;refine eO.append ?_ (Du.perm K hf hfl hk hkf (fun x hx=>hl x (ad _ hx)) h');obtain⟨hal,haf⟩:=hl a ac;have hd:=K.down;have one:∀a,a<rs.length->∀x,(1<<<a).testBit x=true->x<rs.length:=fun a ha x h=>by refine R1 ((kD _ _).mp h) ?_;exact ha
  have hfa:fa (dn (1<<<k|||1<<<a) rs (every rs.length)) rs rk=true:=GO (fun z hz=>by
   obtain⟨x,_,h1,h2⟩:=(nr hd _ _).mp hz;rw[bG,bj] at h1;rcases h1 with h1 | h1
   .rw[(kD _ _).mp h1] at h2;exact hfl _ _ hkf h2
   .rw[(kD _ _).mp h1] at h2;exact hfl _ _ haf h2) hf
  refine tF hF.nodup (m6 _ _) fun x=>⟨fun hx=>?_,fun hx=>?_⟩
  .obtain⟨h1,c,hc,h2⟩:=hF.joint x hx;rw[af.mp hc] at h2;refine yD K (one k hk) (one a hal) hfa ((k7 hd hk hal).mpr ⟨h1,h2⟩) ?_;cases q:pa x (1<<<k) (1<<<a) rs rk with
   |false=>rfl
   |true=>
    obtain⟨m,⟨u,u1,u2⟩,⟨y,y1,y2⟩,hm⟩:=(wm K (one k hk) (one a hal)).mp q;rw[(kD _ _).mp u1] at u2;rw[(kD _ _).mp y1] at y2;exact(hF.free x hx ⟨m,u2,⟨a,af.mpr rfl,y2⟩,hm⟩).elim
  .exact row_has hd hk (l:=[a]) (out:=r) ⟨r,[],hF,rfl,by simp⟩ a ac hal x hx
end
noncomputable def Kn(G:GD)(n:Nat)(nm:Nat->Nm): Prop:=G.k6=false->∀i,i<n->((G.time (nm i)).isSome=true↔i≠n - 1)
section
variable{G:GD}{rs:List Nat}{rk:List (Int×Nm)}{nm:Nat->Nm}
theorem rm(kn:Kn G rs.length nm){k:Nat}{cs:List Nat}(hk:k<rs.length)(hc:∀c∈cs,c<rs.length)(h:vP G (nm k) (cs.map nm) none): G.k6=false/\(k=rs.length - 1\/rs.length - 1∈cs):=by
 obtain⟨hs,c,hc',ht⟩:=h;refine⟨hs,?_⟩
 have no:∀i,i<rs.length->G.time (nm i)=none->i=rs.length - 1:=fun i hi e=>by
  by_cases h:i=rs.length - 1
  .exact h
  .have:=(kn hs i hi).mpr h;rw[e] at this;cases this
 rcases hc' with rfl | hc'
 .exact .inl (no k hk ht)
 .obtain⟨c,hcm,rfl⟩:=bg.mp hc';have:=no c (hc c hcm) ht;refine R2 this ?_;exact .inr hcm
theorem pI(W:Wo G rs rk nm)(kn:Kn G rs.length nm){k:Nat}{cs:List Nat}{r:List Nm}(hk:k<rs.length)(hc:∀c∈cs,c<rs.length)(h:vP G (nm k) (cs.map nm) (some r)):
  ∃spots,r=spots.map nm/\(∀k∈spots,k<rs.length)/\Found (lu rs) (qE rk) k cs spots/\(G.k6=true\/(k≠rs.length - 1/\rs.length - 1∉cs))/\r.Pairwise fun x y=>G.st x<=G.st y:=by
 obtain⟨h1,h2,h3⟩:=h;obtain⟨spots,e,hl,F⟩:=D3 W hk hc h2;refine⟨spots,e,hl,F,?_,h3⟩;cases hs:G.k6 with
 |true=>exact .inl rfl
 |false=>
  right;rcases h1 with h1 | h1
  .rw[hs] at h1;cases h1
  .exact⟨(kn hs k hk).mp (h1 _ (.inl rfl)),fun hm=>(kn hs _ (by exact dZ hk)).mp (h1 _ (.inr (aQ hm))) rfl⟩
theorem zK(W:Wo G rs rk nm)(kn:Kn G rs.length nm){k:Nat}(hk:k<rs.length): ∀{l:List Nat} {acc:List Nm} {res:Option (List Nm)},(∀a∈l,a<rs.length)->OR G (nm k) (l.map nm) acc res->
  (res=none/\G.k6=false/\l≠[]/\(k=rs.length - 1\/rs.length - 1∈l))\/∃out,Cs rs rk k l out/\res=some (acc++out.map nm)/\(G.k6=true\/l=[]\/(k≠rs.length - 1/\rs.length - 1∉l))
 |[],acc,res,hl,h=>.inr ⟨[],rfl,by refine R1 List.map_nil (R1 (ba ..) ?_);exact h,.inr (.inl rfl)⟩
 |a::l,acc,res,hl,h=>by
  have ha:=hl a ac;rcases h with ⟨h,rfl⟩ | ⟨r,hr,h⟩
  .obtain⟨h1,h2⟩:=rm (cs:=[a]) kn hk (by simpa using ha) h;exact .inl ⟨rfl,h1,by simp,h2.imp id fun h=>by refine R1 (af.mp h) ?_;exact ac⟩
  .obtain⟨spots,rfl,_,F,h1,_⟩:=pI (cs:=[a]) W kn hk (by simpa using ha) hr;rcases zK W kn hk (fun b hb=>hl b (ad _ hb)) h with ⟨e,h2,h3,h4⟩ | ⟨out,h2,rfl,h3⟩
   .exact .inl ⟨e,h2,by simp,h4.imp id fun h=>ad _ h⟩
   .refine .inr ⟨spots++out,⟨spots,out,F,h2,rfl⟩,by exact R1 aS (R1 (ax ..) rfl),?_⟩;rcases h1 with h1 | ⟨h1,h1'⟩
    .exact .inl h1
    .rcases h3 with h3 | h3 | ⟨_,h3⟩
     .exact .inl h3
     .subst h3;exact .inr (.inr ⟨h1,h1'⟩)
     .refine .inr (.inr ⟨h1,fun h=>?_⟩);rcases av.mp h with h | h
      .exact h1' (by refine R1 h ?_;exact ac)
      .exact h3 h
theorem Du.congr{D D':Nat->Prop}{l d:List Nat}(h:Du rs D l d)(e:∀x,D x↔D' x): Du rs D' l d:=by have:D=D':=funext fun x=>propext (e x);refine R2 this ?_;exact h
theorem AM(W:Wo G rs rk nm)(kn:Kn G rs.length nm): ∀{ks ko due:List Nat} {D:Nat->Prop} {res:Option (List Nm)},(∀k∈ks,k<rs.length)->Du rs D ko due->OF G (ks.map nm) (ko.map nm) res->
  (fo rs (!G.k6) ks due=none/\res=none)\/∃Ex spots,fo rs (!G.k6) ks due=some Ex/\res=some (spots.map nm)/\Du rs (fun x=>D x/\∀k∈ks,RR rs k x) spots Ex/\
   ∀f,fa f rs rk=true->(∀z w,f.testBit z=true->RR rs z w->f.testBit w=true)->(∀k∈ks,f.testBit k=true)->(∀x∈ko,f.testBit x=true)->ko.Perm due->spots.Perm Ex
 |[],ko,due,D,res,_,U,h=>.inr ⟨due,ko,rfl,h,U.congr fun x=>by simp,fun Y Y Y Y Y h=>h⟩
 |k::ks,ko,due,D,res,hks,U,h=>by
  have hk:=hks k ac;have hd:=W.gr.down;have hN:rs.length - 1<rs.length:=by exact dZ hk
  have zz:rs.length - 1∈ko->rs.length - 1∈due:=fun h=>by obtain⟨a,ha,hr⟩:=U.cov _ (U.all _ h).2;have h1:=jR hd hr;have h2:=(U.all a (U.sub a ha)).1;have:a=rs.length - 1:=cJ (fw h2) h1;refine R2 this ?_;exact ha
  have ne:ko≠[]->due≠[]:=fun h e=>by
   cases ko with
   |nil=>exact h rfl
   |cons x l=>
    obtain⟨a,ha,_⟩:=U.cov x (U.all x ac).2;rw[e] at ha;cases ha
  rcases h with ⟨h,rfl⟩ | ⟨l',hl',h⟩
  .rcases zK W kn hk (fun a ha=>(U.all a ha).1) h with ⟨_,h2,h3,h4⟩ | ⟨out,_,e,_⟩
   .left;refine⟨?_,rfl⟩;rw[qc,if_pos ⟨ne h3,by rw[h2];rfl,h4.imp id zz⟩]
   .cases e
  .rcases zK W kn hk (fun a ha=>(U.all a ha).1) hl' with ⟨e,_⟩ | ⟨out,h2,e,h3⟩
   .cases e
   .rw[ci] at e;obtain rfl:=aq.inj e
    have hno:¬ (due≠[]/\(!G.k6)=true/\(k=rs.length - 1\/(rs.length - 1)∈due)):=by
     rintro⟨q1,q2,q3⟩;rcases h3 with h3 | h3 | ⟨h3,h4⟩
     .rw[h3] at q2;cases q2
     .subst h3;cases due with
      |nil=>exact q1 rfl
      |cons x d=>exact nomatch U.sub x ac
     .rcases q3 with q3 | q3
      .exact h3 q3
      .exact h4 (U.sub _ q3)
    refine R1 (qc ..) (R1 (if_neg hno) ?_);rcases AM W kn (fun j hj=>hks j (ad _ hj)) (U.next hd hk h2) h with h | ⟨Ex,spots,q1,q2,q3,q4⟩
    .exact .inl h
    .refine .inr ⟨Ex,spots,q1,q2,q3.congr fun x=>?_,fun f f1 f2 f3 f4 f5=>?_⟩
     .simp only[av,forall_eq_or_imp,and_assoc]
     .have hkf:=f3 k ac;refine q4 f f1 f2 (fun j hj=>f3 j (ad _ hj)) (fun x hx=>?_) ?_
      .obtain⟨a,_,r1,_⟩:=zB h2 x hx;exact f2 _ _ hkf r1
      .exact(Du.perm W.gr f1 f2 hk hkf (fun x hx=>⟨(U.all x hx).1,f4 x hx⟩) h2).trans (f5.flatMap_right _)
theorem D5(hd:Down rs){ids spots due:List Nat}{b:Nat}(hb:∀x,b.testBit x=true↔x<rs.length/\∀k∈ids,RR rs k x)(U:Du rs (fun x=>∀k∈ids,RR rs k x) spots due):
  (∀k∈spots,b.testBit k=true)/\∀k∈tp b rs,k∈spots:=by
 refine⟨fun k hk=>(hb k).mpr (U.all k hk),fun t ht=>?_⟩;obtain⟨h1,h2,h3⟩:=(lQ hd).mp ht;obtain⟨a,ha,hr⟩:=U.cov t ((hb t).mp h2).2;cases hr with
 |refl _=>exact U.sub _ ha
 |@step m _ w hz _=>
  have hal:=U.all a (U.sub a ha);exact(h3 m ((hb m).mpr ⟨ag (jR hd w) hal.1,U.low a m hal.2 w⟩) hz).elim
end
section
variable{rs:List Nat}
theorem len_one{l:List Nat}(hn:l.Nodup){a:Nat}(h:∀x∈l,x=a): l.length<=1:=mA (U:=[a]) hn fun x hx=>by refine R1 (h x hx) ?_;exact ac
theorem xP(hd:Down rs){k a:Nat}(hk:k<rs.length)(ha:a<rs.length)(h:RR rs k a): (tj rs k a).length<=1:=by
 refine len_one (m6 _ _) (a:=a) fun x hx=>?_;obtain⟨_,h1,h2⟩:=(lQ hd).mp hx;obtain⟨_,h3⟩:=(k7 hd hk ha).mp h1;cases h3 with
 |refl _=>rfl
 |@step m _ w hz _=>exact(h2 m ((k7 hd hk ha).mpr ⟨h.trans w,w⟩) hz).elim
theorem u9(hd:Down rs){k a:Nat}(hk:k<rs.length)(ha:a<rs.length)(h:RR rs a k): (tj rs k a).length<=1:=by
 refine len_one (m6 _ _) (a:=k) fun x hx=>?_;obtain⟨_,h1,h2⟩:=(lQ hd).mp hx;obtain⟨h3,_⟩:=(k7 hd hk ha).mp h1;cases h3 with
 |refl _=>rfl
 |@step m _ w hz _=>exact(h2 m ((k7 hd hk ha).mpr ⟨w,h.trans w⟩) hz).elim
theorem GN{f:Nat->List Nat}{n:Nat}(h:∀a,(f a).length<=n)(l:List Nat): (l.flatMap f).length<=n*l.length:=by
 induction l with
 |nil=>simp
 |cons x l ih=>
  refine R1 cx (R1 ar (R1 bd (R1 (eq ..) ?_)));exact ab (aE (bK _ _)) (bW ih (h x))
noncomputable def side(rs:List Nat)(m k a:Nat): List Nat:=(aX m).filter fun x=>(dn (1<<<k) rs (every rs.length)).testBit x&&!(dn (1<<<a) rs (every rs.length)).testBit x
theorem uh(hd:Down rs){k x:Nat}(hk:k<rs.length): (dn (1<<<k) rs (every rs.length)).testBit x=true↔RR rs k x:=by
 rw[nr hd];constructor
 .rintro⟨y,_,h1,h2⟩;rw[(kD _ _).mp h1] at h2;exact h2
 .exact fun h=>⟨k,hk,(kD _ _).mpr rfl,h⟩
theorem lH(hd:Down rs){m k a x:Nat}(hk:k<rs.length)(ha:a<rs.length): x∈side rs m k a↔x<m/\RR rs k x/\¬ RR rs a x:=by unfold side;rewrite[bC,a6];refine R1 (aW ..) ?_;rewrite[uh hd hk];refine R1 (bx ..) (R2 (eV ..) ?_);rw[uh hd ha]
theorem oV(m k a:Nat): (side rs m k a).Nodup:=dQ.filter _ eX
theorem Fy{T S F:Nat}(h1:T+(S - 1)<=F)(h2:F<=4*S)(h:0<S): T<=3*S+1:=
 eF (b:=S - 1) (ab h1 (ab h2 (aE (by rw[bV,bK 1,Nat.sub_add_cancel h];exact ed 3 S))))
theorem A7{T A B m:Nat}(h1:T<=3*A+1)(h2:T<=3*B+1)(h3:T<=1\/T+A+B<=m+6)(hm:7<=m): T<=m:=by
 by_cases h:T<=7
 .exact ab h hm
 .have key:∀A,T<=3*A+1->3<=A:=fun A hA=>cP.mp fun h'=>h (ab hA (aO (bF 3 (bz h')) 1));exact h3.elim (fun e=>absurd (ab e (by decide)) h) fun e=>eF (b:=6) (ab (aC (bW (key A h1) (key B h2)) T) (bV ..▸e))
theorem x5(hd:Down rs)(h4:∀y,(lu rs y).length<=4){m k a:Nat}(hk:k<rs.length)(ha:a<rs.length)(hkm:k<m)(hno:¬ RR rs a k): (tj rs k a).length<=3*(side rs m k a).length+1:=by
 have NE:k∈side rs m k a:=(lH hd hk ha).mpr ⟨hkm,.refl trivial,hno⟩;have hlt:∀y,RR rs k y->y<m:=fun y h=>by have:=jR hd h;exact ag this hkm
 have hsub:∀x∈tj rs k a++(side rs m k a).erase k,x∈(side rs m k a).flatMap (lu rs):=fun x hx=>by
  rcases aA.mp hx with hx | hx
  .obtain⟨_,h1,h2⟩:=(lQ hd).mp hx;obtain⟨h3,h5⟩:=(k7 hd hk ha).mp h1;cases h3 with
   |refl _=>exact(hno h5).elim
   |@step y _ w hz _=>exact cD.mpr ⟨y,(lH hd hk ha).mpr ⟨hlt y w,w,fun q=>h2 y ((k7 hd hk ha).mpr ⟨w,q⟩) hz⟩,hz⟩
  .have hne:=(oV m k a).mem_erase_iff.mp hx;obtain⟨h1,h2,h3⟩:=(lH hd hk ha).mp hne.2;cases h2 with
   |refl _=>exact(hne.1 rfl).elim
   |@step y _ w hz _=>exact cD.mpr ⟨y,(lH hd hk ha).mpr ⟨hlt y w,w,fun q=>h3 (.step q hz trivial)⟩,hz⟩
 have hnd:(tj rs k a++(side rs m k a).erase k).Nodup:=aU.mpr ⟨m6 _ _,(oV m k a).erase k,fun x hx y hy e=>by subst e;have h1:=((k7 hd hk ha).mp ((lQ hd).mp hx).2.1).2;exact((lH hd hk ha).mp (List.mem_of_mem_erase hy)).2.2 h1⟩
 have h1:=mA hnd hsub;have h2:=GN h4 (side rs m k a);rw[ar,dq NE] at h1;exact Fy h1 h2 (cW NE)
theorem Gm(a b:Nat)(rs:List Nat): jo a b rs=jo b a rs:=by unfold jo;exact gf _ _
theorem CJ(hd:Down rs)(h4:∀y,(lu rs y).length<=4){m k a:Nat}(hk:k<rs.length)(ha:a<rs.length)(hkm:k<m)(ham:a<m): ∃A B,(tj rs k a).length<=3*A+1/\(tj rs k a).length<=3*B+1/\((tj rs k a).length<=1\/(tj rs k a).length+A+B<=m):=by
 by_cases h1:RR rs k a
 .have:=xP hd hk ha h1;exact⟨0,0,by exact c6 this,by exact c6 this,.inl this⟩
 .by_cases h2:RR rs a k
  .have:=u9 hd hk ha h2;exact⟨0,0,by exact c6 this,by exact c6 this,.inl this⟩
  .refine⟨(side rs m k a).length,(side rs m a k).length,x5 hd h4 hk ha hkm h2,?_,.inr ?_⟩
   .have:=x5 hd h4 ha hk ham h1;unfold tj at this ⊢;refine R1 (Gm ..) ?_;exact this
   .have hnd:(tj rs k a++(side rs m k a++side rs m a k)).Nodup:=by
     refine aU.mpr ⟨m6 _ _,aU.mpr ⟨oV _ _ _,oV _ _ _,fun x hx y hy e=>?_⟩,fun x hx y hy e=>?_⟩
     .subst e;exact((lH hd ha hk).mp hy).2.2 ((lH hd hk ha).mp hx).2.1
     .subst e;obtain⟨q1,q2⟩:=(k7 hd hk ha).mp ((lQ hd).mp hx).2.1;rcases aA.mp hy with hy | hy
      .exact((lH hd hk ha).mp hy).2.2 q2
      .exact((lH hd ha hk).mp hy).2.2 q1
    have:=mA (U:=aX m) hnd fun x hx=>by
     rw[a6];rcases aA.mp hx with hx | hx
     .have:=jR hd ((k7 hd hk ha).mp ((lQ hd).mp hx).2.1).1;exact ag this hkm
     .rcases aA.mp hx with hx | hx
      .exact((lH hd hk ha).mp hx).1
      .exact((lH hd ha hk).mp hx).1
    rw[ar,ar,br,←bV] at this;exact this
theorem Me(hd:Down rs)(h4:∀y,(lu rs y).length<=4){k a:Nat}(hk:k<rs.length)(ha:a<rs.length)(hkm:k<14)(ham:a<14): (tj rs k a).length<=8:=by obtain⟨A,B,h1,h2,h3⟩:=CJ hd h4 hk ha hkm ham;exact A7 h1 h2 h3 (by decide)
theorem Mf(hd:Down rs)(h4:∀y,(lu rs y).length<=4){k a:Nat}(hk:k<rs.length)(ha:a<rs.length)(hkm:k<13)(ham:a<13): (tj rs k a).length<=7:=by obtain⟨A,B,h1,h2,h3⟩:=CJ hd h4 hk ha hkm ham;exact A7 h1 h2 h3 (by decide)
theorem Mg(hd:Down rs){a:Nat}(hk:1<rs.length)(ha:a<rs.length): (tj rs 1 a).length<=1:=by
 by_cases h:RR rs a 1
 .exact u9 hd hk ha h
 .refine len_one (m6 _ _) (a:=0) fun x hx=>?_;obtain⟨h1,h2⟩:=(k7 hd hk ha).mp ((lQ hd).mp hx).2.1;exact gT.mp (cX (jR hd h1) fun e=>h (e▸h2))
theorem Hn(hd:Down rs){z k a:Nat}(hz:∀x,RR rs z x->x=z)(hk:k<rs.length)(ha:a<rs.length)(hka:(k=z/\a≠z/\¬ RR rs a z)\/(a=z/\k≠z/\¬ RR rs k z)): tj rs k a=[]:=by
 refine List.eq_nil_iff_forall_not_mem.mpr fun x hx=>?_;obtain⟨h1,h2⟩:=(k7 hd hk ha).mp ((lQ hd).mp hx).2.1;rcases hka with ⟨rfl,_,h⟩ | ⟨rfl,_,h⟩
 .rw[hz x h1] at h2;exact h h2
 .rw[hz x h2] at h1;exact h h1
end
section
variable{rs:List Nat}{rk:List (Int×Nm)}
theorem tZ{f:Nat->List Nat}{n:Nat}: ∀{l:List Nat},(∀a∈l,(f a).length<=n)->(l.flatMap f).length<=n*l.length
 |[],_=>bt _
 |x::l,h=>by
  refine R1 cx (R1 ar (R1 bd (R1 (eq ..) (R1 (bK ..) ?_))));exact bW (tZ fun a ha=>h a (ad _ ha)) (h x ac)
structure Mb(rs:List Nat)(c:Nat): Prop where
 hd:Down rs
 h4:∀y,(lu rs y).length<=4
 hN:rs.length=c+1
 hc:c<=14
 hc2:2<=c
 hz:∀x,RR rs c x->x=c
 hz':∀x,RR rs x c->x=c
namespace Mb
variable{c k a:Nat}(D:Mb rs c)
include D
theorem lt(h:k<=c): k<rs.length:=D.hN▸bo h
theorem zl(ha:a<rs.length)(h:a≠c): tj rs c a=[]:=Hn D.hd D.hz (D.lt (aM _)) ha (.inl ⟨rfl,h,fun q=>h (D.hz' _ q)⟩)
theorem zr(hk:k<c): tj rs k c=[]:=Hn D.hd D.hz (D.lt (aG hk)) (D.lt (aM _)) (.inr ⟨rfl,aK hk,fun q=>aK hk (D.hz' _ q)⟩)
theorem mem{k1 k0:Nat}(hk1:k1<c)(hk0:k0<=c)(h:a∈tj rs k1 k0): RR rs k1 a/\RR rs k0 a/\a<c/\a<=k0:=by obtain⟨m1,m2⟩:=(k7 D.hd (D.lt (aG hk1)) (D.lt hk0)).mp ((lQ D.hd).mp h).2.1;exact⟨m1,m2,ag (jR D.hd m1) hk1,jR D.hd m2⟩
theorem l1{k1 k0:Nat}(hk1:k1<c)(hk0:k0<=c): (tj rs k1 k0).length<=8:=by
 by_cases e:k0=c
 .exact R1 e (R1 (D.zr hk1) (bt _))
 .exact Me D.hd D.h4 (D.lt (aG hk1)) (D.lt hk0) (aD hk1 D.hc) (aD (cX hk0 e) D.hc)
theorem l2{k0 k1 k2:Nat}(hk0:k0<=c)(hk1:k1<c)(hk2:k2<=c)(hcond:k0=c\/k2=c\/k2=k0\/((k0<=12\/k1<=12)/\k2<=12)): ((tj rs k1 k0).flatMap (tj rs k2)).length<=56:=
 ab (tZ (n:=7) fun a ha=>by
  obtain⟨m1,m2,hac,ha0⟩:=D.mem hk1 hk0 ha;have hal:=D.lt (aG hac);rcases hcond with e | e | e | ⟨e1,e2⟩
  .exact absurd (D.hz a (e▸m2)) (aK hac)
  .exact R1 e (R1 (D.zl hal (aK hac)) (bt _))
  .exact ab (xP D.hd (D.lt hk2) hal (e▸m2)) (by decide)
  .exact Mf D.hd D.h4 (D.lt hk2) hal (bo e2) (bo (e1.elim (ab ha0) (ab (jR D.hd m1))))) (bF 7 (D.l1 hk1 hk0))
theorem l3{k0 k1 k2:Nat}(hk0:k0<=c)(hk1:k1<c)(hk2:k2<=c)(h2:((tj rs k1 k0).flatMap (tj rs k2)).length<=56)(k3:Nat)(h3:k3=1\/k3=c): (((tj rs k1 k0).flatMap (tj rs k2)).flatMap (tj rs k3)).length<=56:=
 ab (tZ (n:=1) fun a ha=>by
  obtain⟨b,hb,ha⟩:=cD.mp ha;obtain⟨m1,m2,hbc,_⟩:=D.mem hk1 hk0 hb;have OG:=D.lt (aG hbc);obtain⟨_,m3⟩:=(k7 D.hd (D.lt hk2) OG).mp ((lQ D.hd).mp ha).2.1;have hac:=ag (jR D.hd m3) hbc;have hal:=D.lt (aG hac);rcases h3 with e | e
  .exact R1 e (Mg D.hd (D.lt (aG D.hc2)) hal)
  .exact R1 e (R1 (D.zl hal (aK hac)) (bt _))) (ab (aE (Nat.one_mul _)) h2)
end Mb
theorem D6{c:Prop}[Decidable c]{x:Option (List Nat)}{due:List Nat}(h:(if c then none else x)=some due): x=some due:=by
 by_cases q:c
 .rw[if_pos q] at h;cases h
 .rw[if_neg q] at h;exact h
theorem GX(hd:Down rs)(h4:∀y,(lu rs y).length<=4){c:Nat}(hN:rs.length=c+1)(hc:c<=14)(hc2:2<=c)(hz:∀x,RR rs c x->x=c)(hz':∀x,RR rs x c->x=c){k0 k1 k2:Nat}{rest:List Nat}(hk0:k0<=c)(hk1:k1<c)(hk2:k2<=c)
  (hcond:k0=c\/k2=c\/k2=k0\/((k0<=12\/k1<=12)/\k2<=12)) (hr:rest=[]\/rest=[1]\/rest=[c]) {w:Bool} {due:List Nat} (h:fo rs w (k1::k2::rest) [k0]=some due):due.length<64:=by
 have D:Mb rs c:=⟨hd,h4,hN,hc,hc2,hz,hz'⟩;have l2:=D.l2 hk0 hk1 hk2 hcond;have l3:=D.l3 hk0 hk1 hk2 l2;rw[qc] at h;have h:=D6 h;rw[qc] at h;have h:=D6 h;have e0:[k0].flatMap (fun a=>tp (jo (1<<<k1) (1<<<a) rs) rs)=tj rs k1 k0:=ba _;rw[e0] at h
 have Nt:∀k3,k3=1\/k3=c->rest=[k3]->due.length<64:=fun k3 h3 e=>by rw[e,qc] at h;exact aq.inj (D6 h)▸ag (l3 k3 h3) (by decide)
 rcases hr with e | e | e
 .rw[e] at h;exact aq.inj h▸ag l2 (by decide)
 .exact Nt 1 (.inl rfl) e
 .exact Nt c (.inr rfl) e
theorem sC(K:Gr rs rk){a b:Nat}{spots:List Nat}(ha:a<rs.length)(hb:b<rs.length)(F:Found (lu rs) (qE rk) a [b] spots)(h:al a (1<<<a) (1<<<b) rs rk=true): spots=[a]:=by
 have hd:=K.down;have one:∀a,a<rs.length->∀x,(1<<<a).testBit x=true->x<rs.length:=fun a ha x h=>by refine R1 ((kD _ _).mp h) ?_;exact ha
 obtain⟨h1,h2⟩:=JL.mp h;obtain⟨_,h3⟩:=(k7 hd ha hb).mp h1
 have hin:a∈spots:=F.tops a (.refl trivial) ⟨b,by simp,h3⟩ fun m m1 Y m3=>by have:=jR hd m1;have:=ow hd m3;lia
 have hall:∀x∈spots,x=a:=fun x hx=>Classical.byContradiction fun hne=>by obtain⟨j1,c,hc,j2⟩:=F.joint x hx;rw[af.mp hc] at j2;have GC:=jR hd j1;have hp:=h2 x (by exact ag GC ha) hne ((k7 hd ha hb).mpr ⟨j1,j2⟩);obtain⟨m,⟨u,u1,u2⟩,⟨y,y1,y2⟩,hm⟩:=(wm K (one a ha) (one b hb)).mp hp;rw[(kD _ _).mp u1] at u2;rw[(kD _ _).mp y1] at y2;exact F.free x hx ⟨m,u2,⟨b,by simp,y2⟩,hm⟩
 have hlen:=len_one F.nodup hall
 match spots,hin,hall,hlen with
 |[x],_,hall,_=>exact R1 (hall x ac) rfl
 |x::y::l,_,_,h=>simp at h
theorem vC{a b:Nat}{spots:List Nat}(F:Found (lu rs) (qE rk) a [b] spots)(h:a∈spots): RR rs b a:=by obtain⟨_,c,hc,j⟩:=F.joint a h;rw[af.mp hc] at j;exact j
end
section
variable{G:GD}
theorem wQ{i:Nat}{c:Nm}: ∀{l:List (Nat×Nm)},IR G i c l (some true)->∀p∈l,i≠p.1->∃m,MB G [c,p.2] (some m)/\m≠[c]
 |[],_,p,hp,_=>by cases hp
 |q::l,h,p,hp,hne=>by
  rcases h with ⟨e,h⟩ | ⟨e,h⟩
  .rcases av.mp hp with rfl | hp
   .exact(hne e).elim
   .exact wQ h p hp hne
  .rcases h with ⟨_,h⟩ | ⟨m,hm,h⟩
   .cases h
   .rcases h with ⟨_,h⟩ | ⟨h1,h⟩
    .cases h
    .rcases av.mp hp with rfl | hp
     .exact⟨m,hm,h1⟩
     .exact wQ h p hp hne
theorem tP{i:Nat}{c:Nm}: ∀{l:List (Nat×Nm)},IR G i c l (some false)->∃p∈l,i≠p.1/\MB G [c,p.2] (some [c])
 |[],h=>by cases h
 |q::l,h=>by
  rcases h with ⟨e,h⟩ | ⟨e,h⟩
  .obtain⟨p,h1,h2⟩:=tP h;exact⟨p,ad _ h1,h2⟩
  .rcases h with ⟨_,h⟩ | ⟨m,hm,h⟩
   .cases h
   .rcases h with ⟨rfl,_⟩ | ⟨h1,h⟩
    .exact⟨q,ac,e,hm⟩
    .obtain⟨p,h1,h2⟩:=tP h;exact⟨p,ad _ h1,h2⟩
theorem wR{i:Nat}{c:Nm}: ∀{l:List (Nat×Nm)},IR G i c l none->∃p∈l,i≠p.1/\MB G [c,p.2] none
 |[],h=>by cases h
 |q::l,h=>by
  rcases h with ⟨e,h⟩ | ⟨e,h⟩
  .obtain⟨p,h1,h2⟩:=wR h;exact⟨p,ad _ h1,h2⟩
  .rcases h with ⟨hm,_⟩ | ⟨m,hm,h⟩
   .exact⟨q,ac,e,hm⟩
   .rcases h with ⟨_,h⟩ | ⟨h1,h⟩
    .cases h
    .obtain⟨p,h1,h2⟩:=wR h;exact⟨p,ad _ h1,h2⟩
theorem A1{all:List (Nat×Nm)}: ∀{l:List (Nat×Nm)} {acc r:List Nm},l.Nodup->IA G all l acc (some r)->∃keep:Nat×Nm->Bool,r=acc++(l.filter keep).map (·.2)/\∀p∈l,IR G p.1 p.2 all (some (keep p))
 |[],acc,r,_,h=>⟨fun Y=>true,by cases h;simp,fun p hp=>nomatch hp⟩
 |q::l,acc,r,hn,h=>by
  obtain⟨hq,hn⟩:=be.mp hn;rcases h with ⟨_,h⟩ | ⟨b,hb,h⟩
  .cases h
  .obtain⟨keep,e,hk⟩:=A1 hn h;have hne:∀p∈l,p≠q:=fun p hp e=>hq (by refine R2 e ?_;exact hp);refine⟨fun p=>if p=q then b else keep p,?_,fun p hp=>?_⟩
   .have hf:l.filter (fun p=>if p=q then b else keep p)=l.filter keep:=eJ fun p hp=>if_neg (hne p hp);refine R1 dk (R1 (if_pos (rfl:q=q)) (R1 hf (R1 e ?_)));cases b<;>simp
   .dsimp only;rcases av.mp hp with rfl | hp
    .refine R1 (if_pos rfl) ?_;exact hb
    .refine R1 (if_neg (hne p hp)) ?_;exact hk p hp
theorem A2{all:List (Nat×Nm)}: ∀{l:List (Nat×Nm)} {acc:List Nm},IA G all l acc none->∃p∈l,IR G p.1 p.2 all none
 |[],acc,h=>by cases h
 |q::l,acc,h=>by
  rcases h with ⟨h,_⟩ | ⟨b,hb,h⟩
  .exact⟨q,ac,h⟩
  .obtain⟨p,h1,h2⟩:=A2 h;exact⟨p,ad _ h1,h2⟩
theorem Ag:∀(l:List Nm) (i:Nat),(∀p∈en i l,i<=p.1)/\(en i l).Pairwise (fun p q=>p.1<q.1)
 |[],i=>⟨fun p hp=>(nomatch hp),dQ.nil⟩
 |x::l,i=>by
  obtain⟨h1,h2⟩:=Ag l (i+1);refine⟨fun p hp=>?_,bN.mpr ⟨fun p hp=>?_,h2⟩⟩
  .rcases av.mp hp with rfl | hp
   .exact aM _
   .have:=h1 p hp;exact Nat.le_of_succ_le (h1 p hp)
  .have:=h1 p hp;show i<p.1;exact dA (h1 p hp)
theorem rR:∀(l:List Nm) (i:Nat),(en i l).map (·.2)=l
 |[],_=>rfl
 |x::l,i=>by rewrite[en];exact R1 aR (R1 (rR ..) rfl)
theorem Ef(l:List Nm): (en 0 l).Nodup:=(Ag l 0).2.imp fun h e=>by rw[e] at h;exact bu _ h
theorem xb{l:List Nm}(hn:l.Nodup){p q:Nat×Nm}(hp:p∈en 0 l)(hq:q∈en 0 l): p.1≠q.1↔p.2≠q.2:=by
 have hm:((en 0 l).map (·.2)).Nodup:=by refine R1 (rR ..) ?_;exact hn
 constructor
 .intro h e;have h2:=c8.mp hm
  have:p=q:=by
   refine Classical.byContradiction fun hne=>?_;obtain⟨i,hi,ei⟩:=dg.mp hp;obtain⟨j,hj,ej⟩:=dg.mp hq;rcases dB i j with h3 | h3 | h3
   .exact cH.mp h2 i j hi hj h3 (by refine R1 ei (R1 ej ?_);exact e)
   .subst h3;exact hne (ei.symm.trans ej)
   .exact cH.mp h2 j i hj hi h3 (by refine R1 ei (R1 ej ?_);exact e.symm)
  exact h (by exact R1 this rfl)
 .intro h e;have h2:=(Ag l 0).2;obtain⟨i,hi,ei⟩:=dg.mp hp;obtain⟨j,hj,ej⟩:=dg.mp hq;rcases dB i j with h3 | h3 | h3
  .have:=cH.mp h2 i j hi hj h3;rw[ei,ej] at this;lia
  .subst h3;exact h (by exact R2 ei (R2 ej rfl))
  .have:=cH.mp h2 j i hj hi h3;rw[ei,ej] at this;lia
theorem AZ{ids:List Nm}(hn:ids.Nodup){r:List Nm}(h:IN G ids (some r)): ∃keep:Nm->Bool,r=ids.filter keep/\(∀c∈ids,keep c=true->∀d∈ids,c≠d->∃m,MB G [c,d] (some m)/\m≠[c])/\∀c∈ids,keep c=false->∃d∈ids,c≠d/\MB G [c,d] (some [c]):=by
 match ids,hn,h with
 |[],_,h=>exact⟨fun Y=>true,aq.inj h,fun c hc=>(nomatch hc),fun c hc=>(nomatch hc)⟩
 |[c],_,h=>exact⟨fun Y=>true,aq.inj h,fun a ha Y d hd hne=>absurd ((af.mp ha).trans (af.mp hd).symm) hne,fun c hc h=>(nomatch h)⟩
 |c::d::l,hn,h=>
  obtain⟨keep,e,hk⟩:=A1 (Ef _) h;generalize oC:c::d::l=ids at h e hk hn
  have pick:∀x∈ids,∃p∈en 0 ids,p.2=x:=fun x hx=>by rw[←rR ids 0] at hx;exact bg.mp hx
  have mem:∀p∈en 0 ids,p.2∈ids:=fun p hp=>by have:=aQ (f:=(·.2)) hp;rw[rR] at this;exact this
  refine⟨fun x=>(en 0 ids).any fun p=>decide (p.2=x)&&keep p,?_,fun x hx hkx y hy hne=>?_,fun x hx hkx=>?_⟩
  .refine R1 e (R1 (ci ..) ?_);have e2:∀K:Nm->Bool,ids.filter K=((en 0 ids).map (·.2)).filter K:=fun K=>by exact R1 (rR ..) rfl
   refine R1 (e2 ..) (R1 List.filter_map ?_);congr 1;refine eJ fun p hp=>?_;show keep p=(en 0 ids).any fun q=>decide (q.2=p.2)&&keep q;cases hkp:keep p with
   |true=>exact(dO.mpr ⟨p,hp,by simp[hkp]⟩).symm
   |false=>
    refine(eI.mpr fun q hq=>?_).symm;by_cases h:q.2=p.2
    .have:q.1=p.1:=Classical.byContradiction fun hne=>(xb hn hq hp).mp hne h;have:q=p:=Prod.ext this h;refine R1 this (R1 hkp ?_);simp
    .simp[h]
  .obtain⟨p,hp,hpk⟩:=dO.mp hkx;simp only[aW,decide_eq_true_iff] at hpk;obtain⟨rfl,hpk⟩:=hpk;obtain⟨q,hq,rfl⟩:=pick y hy;have:=hk p hp;rw[hpk] at this;exact wQ this q hq ((xb hn hp hq).mpr hne)
  .obtain⟨p,hp,rfl⟩:=pick x hx
   have hkp:keep p=false:=by
    have:=eI.mp hkx p hp
    simpa using this
   have:=hk p hp;rw[hkp] at this;obtain⟨q,hq,h1,h2⟩:=tP this;exact⟨q.2,mem q hq,(xb hn hp hq).mp h1,h2⟩
theorem Gu{ids:List Nm}(hn:ids.Nodup)(h:IN G ids none): ∃c∈ids,∃d∈ids,c≠d/\MB G [c,d] none:=by
 match ids,hn,h with
 |[],_,h=>cases h
 |[c],_,h=>cases h
 |c::d::l,hn,h=>
  obtain⟨p,hp,h⟩:=A2 h;obtain⟨q,hq,h1,h2⟩:=wR h
  have mem:∀p∈en 0 (c::d::l),p.2∈c::d::l:=fun p hp=>by have:=aQ (f:=(·.2)) hp;rw[rR] at this;exact this
  exact⟨p.2,mem p hp,q.2,mem q hq,(xb hn hp hq).mp h1,h2⟩
end
noncomputable abbrev J4(l:List Bool): List V:=l.map .bool
noncomputable abbrev yk(l:List (List Nat)): List V:=l.map fun e=>.lst (nats e)
noncomputable def code(md:Int)(k:Nat): Nat:=if md=1 then 122 - k else 97+k
noncomputable def kH(names:List Nm)(k:Nat): Nm:=names.getD k []
structure W8 where
 nn:List Nm
 kk:List (List Nat)
 cl:List Int
 ss:List Int
 gg:List Bool
 ma:List Nm
 ti:List (Nm×V)
 fo:List (Nm×V)
section
variable{α:Type}{l:List α}{x d:α}{k n:Nat}
theorem A5(h:k<l.length): (l++[x]).getD k d=l.getD k d:=by exact R1 a7 (R1 a7 (R1 (aH h) rfl))
theorem tW(h:l.length=k): (l++[x]).getD k d=x:=by rw[←h,a7,bf];rfl
theorem nY(h:k<l.length): l[k]?=some (l.getD k d):=by rw[a7,az h];rfl
theorem getD_mem(h:k<l.length): l.getD k d∈l:=aP (nY h)
theorem ru(h:l.length<=k): l.getD k d=d:=by rw[a7,cm h];rfl
theorem len1(h:l.length=n): (l++[x]).length=n+1:=ar.trans (congrArg (·+1) h)
theorem mem_getD(h:x∈l): ∃k,k<l.length/\l.getD k d=x:=by obtain⟨k,hk⟩:=cj.mp h;have h1:=(au.mp hk).1;exact⟨k,h1,aq.inj ((nY h1).symm.trans hk)⟩
end
theorem BW{l:List Nm}(h:l.Nodup){i j:Nat}(hi:i<l.length)(hj:j<l.length)(e:kH l i=kH l j): i=j:=
 (cK hi h).mp ((nY hi).trans ((congrArg some e).trans (nY (d:=[]) hj).symm))
structure En(sb:Bool)(z k:Nat)(kn:List Nat)(st:Int)(g:Bool)(t f:Option V)(ns:List Nm): Prop where
 DL:kn.length<=4
 sF:∀e∈kn,e<k
 s0:0<=st
 time:t=if g=true then none else some (.int st)
 tY:(g=false/\f=some (.lst (nms ns)))\/((sb=true\/k=z)/\kn=[]/\f=none)
 away:g=true->st=0/\(sb=true\/k=z)
structure Bw(sb:Bool)(z n:Nat)(W:W8): Prop where
 l1:W.nn.length=n
 l2:W.kk.length=n
 l4:W.ss.length=n
 l5:W.gg.length=n
 nd:W.nn.Nodup
 en:∀k,k<n->En sb z k (W.kk.getD k []) (W.ss.getD k 0) (W.gg.getD k false) (getKey W.ti (kH W.nn k)) (getKey W.fo (kH W.nn k)) ((W.kk.getD k []).map (kH W.nn))
 wt:∀x,x∉W.nn->getKey W.ti x=none
 wz:∀x,x∉W.nn->getKey W.fo x=none
noncomputable def Ma(md:Int)(k:Nat)(nm:Nm): Prop:=∃a:Nat,97<=a/\a<=100/\nm=[a.toUInt8,(code md k).toUInt8]
structure Bm(md:Int)(sb:Bool)(n:Nat)(W:W8): Prop where
 l3:W.cl.length=n
 l6:W.ma.length<=n
 t7:W.ti.length<=n
 f7:W.fo.length<=n
 mark:sb=true->2<=n->W.ma≠[]
 zN:sb=false->W.ma=[]
 form:∀x∈W.nn,∃k,k<n/\Ma md k x
noncomputable def W0:W8:=⟨[],[],[],[],[],[],[],[]⟩
theorem G5(sb:Bool)(z:Nat): Bw sb z 0 W0:=⟨rfl,rfl,rfl,rfl,cR,fun Y h=>(nomatch h),fun Y Y=>rfl,fun Y Y=>rfl⟩
theorem G6(md:Int)(sb:Bool): Bm md sb 0 W0:=⟨rfl,aM _,aM _,aM _,fun Y h=>absurd h (by decide),fun Y=>rfl,fun Y h=>(nomatch h)⟩
theorem Bw.add{sb:Bool}{z n:Nat}{W:W8}(B:Bw sb z n W){nm:Nm}{l:List Nat}{cl:List Int}{st:Int}{aw:Bool}{mk:List Nm}{ti fo:List (Nm×V)}(hfr:nm∉W.nn)(hl:l.length<=4)(hl2:∀e∈l,e<n)(hst:0<=st)
  (hti:ti=if aw=true then W.ti else lf W.ti nm (.int st)) (hfo:(aw=false/\fo=lf W.fo nm (.lst (nms (l.map (kH W.nn)))))\/((sb=true\/n=z)/\l=[]/\fo=W.fo)) (haw:aw=true->st=0/\(sb=true\/n=z)) :
  Bw sb z (n+1) ⟨W.nn++[nm],W.kk++[l],cl,W.ss++[st],W.gg++[aw],mk,ti,fo⟩:=by
 have hn:kH (W.nn++[nm]) n=nm:=tW B.l1;have hlt:∀k,k<n->kH (W.nn++[nm]) k=kH W.nn k:=fun k h=>A5 (B.l1.symm▸h);have hne:∀k,k<n->kH W.nn k≠nm:=fun k h e=>hfr (e▸getD_mem (B.l1.symm▸h));have hmap:∀l:List Nat,(∀e∈l,e<n)->l.map (kH (W.nn++[nm]))=l.map (kH W.nn):=fun l h=>bS fun e he=>hlt e (h e he)
 have hT:∀x,x≠nm->getKey ti x=getKey W.ti x:=fun x h=>by
  refine R1 hti ?_;split
  .rfl
  .exact R1 (nq ..) (R1 (if_neg h) rfl)
 have hF:∀x,x≠nm->getKey fo x=getKey W.fo x:=fun x h=>by
  rcases hfo with ⟨_,e⟩ | ⟨_,_,e⟩<;>rw[e]
  exact R1 (nq ..) (R1 (if_neg h) rfl)
 have hout:∀x,x∉W.nn++[nm]->x≠nm/\x∉W.nn:=fun x h=>⟨fun e=>h (e▸aj _ ac),fun e=>h (ai _ e)⟩;refine⟨len1 B.l1,len1 B.l2,len1 B.l4,len1 B.l5,aU.mpr ⟨B.nd,bq _ _,fun a ha b hb e=>hfr (af.mp hb▸e▸ha)⟩,fun k hk=>?_,fun x hx=>(hT x (hout x hx).1).trans (B.wt x (hout x hx).2),fun x hx=>(hF x (hout x hx).1).trans (B.wz x (hout x hx).2)⟩;rcases Nat.lt_or_eq_of_le (bz hk) with h | rfl
 .have e:=B.en k h;show En sb z k ((W.kk++[l]).getD k []) ((W.ss++[st]).getD k 0) ((W.gg++[aw]).getD k false) (getKey ti (kH (W.nn++[nm]) k)) (getKey fo (kH (W.nn++[nm]) k)) (((W.kk++[l]).getD k []).map (kH (W.nn++[nm])));refine R1 (A5 (B.l2.symm▸h)) (R1 (A5 (B.l4.symm▸h)) (R1 (A5 (B.l5.symm▸h)) (R1 (hlt k h) (R1 (hT _ (hne k h)) (R1 (hF _ (hne k h)) (R1 (hmap _ fun x hx=>aF (e.sF x hx) h) ?_))))));exact e
 .show En sb z k ((W.kk++[l]).getD k []) ((W.ss++[st]).getD k 0) ((W.gg++[aw]).getD k false) (getKey ti (kH (W.nn++[nm]) k)) (getKey fo (kH (W.nn++[nm]) k)) (((W.kk++[l]).getD k []).map (kH (W.nn++[nm])));refine R1 (tW B.l2) (R1 (tW B.l4) (R1 (tW B.l5) (R1 hn (R1 (hmap l hl2) ?_))));refine⟨hl,hl2,hst,?_,?_,haw⟩
  .refine R1 hti ?_;split
   .exact B.wt _ hfr
   .exact R1 (nq ..) (R1 (if_pos rfl) rfl)
  .rcases hfo with h | h
   .exact .inl ⟨h.1,by exact R1 h.2 (R1 (nq ..) (R1 (if_pos rfl) rfl))⟩
   .exact .inr ⟨h.1,h.2.1,h.2.2▸B.wz _ hfr⟩
theorem ze{a b:Nat}(ha:a<256)(hb:b<256)(h:a.toUInt8=b.toUInt8): a=b:=by have h:a % 2 ^ 8=b % 2 ^ 8:=congrArg UInt8.toNat h;rwa[gA ha,gA hb] at h
theorem code_inj{md:Int}{j k:Nat}(hj:j<15)(hk:k<15)(h:(code md j).toUInt8=(code md k).toUInt8): j=k:=by
 unfold code at h;by_cases e:md=1
 .rw[if_pos e,if_pos e] at h;exact(gB (ab (aG hj) (by decide))).symm.trans ((congrArg (122 - ·) (ze (ag (db _ _) (by decide)) (ag (db _ _) (by decide)) h)).trans (gB (ab (aG hk) (by decide))))
 .rw[if_neg e,if_neg e] at h;exact d7 (ze (aF (ch hj 97) (by decide)) (aF (ch hk 97) (by decide)) h)
theorem Bm.fresh{md:Int}{sb:Bool}{n:Nat}{W:W8}(B:Bm md sb n W)(hn:n<15){nm:Nm}(hf:Ma md n nm): nm∉W.nn:=fun h=>by obtain⟨a,_,_,rfl⟩:=hf;obtain⟨k,hk,b,_,_,e⟩:=B.form _ h;exact absurd (code_inj hn (aF hk hn) (gC.inj (gC.inj e).2).1) (aZ hk)
theorem Bm.zz{md:Int}{sb:Bool}{n:Nat}{W:W8}(B:Bm md sb n W): [122,122]∉W.nn:=fun h=>by obtain⟨k,_,b,h1,h2,e⟩:=B.form _ h;exact absurd (ze (a:=122) (b:=b) (by decide) (ag h2 (by decide)) (gC.inj e).1) (aZ (ag h2 (by decide)))
theorem Bm.add{md:Int}{sb:Bool}{n:Nat}{W:W8}(B:Bm md sb n W){nm:Nm}(hfm:Ma md n nm){kk:List (List Nat)}{c:Int}{ss:List Int}{gg:List Bool}{mb:Bool}{ma:List Nm}{ti fo:List (Nm×V)}(hma:ma=if mb=true then W.ma++[nm] else W.ma)
  (hm1:sb=true->n=1->mb=true) (hm0:sb=false->mb=false) (ht:ti.length<=W.ti.length+1) (hf:fo.length<=W.fo.length+1):Bm md sb (n+1) ⟨W.nn++[nm],kk,W.cl++[c],ss,gg,ma,ti,fo⟩:=by
 refine⟨len1 B.l3,?_,ab ht (bc B.t7),ab hf (bc B.f7),fun hs h=>?_,fun hs=>?_,fun x hx=>?_⟩
 .show ma.length<=n+1;refine R1 hma ?_;split
  .refine R1 ar ?_;exact bc B.l6
  .exact bL B.l6
 .show ma≠[];refine R1 hma ?_;by_cases e:n=1
  .refine R1 (if_pos (hm1 hs e)) ?_;exact cF _ (bn _ _)
  .split
   .exact cF _ (bn _ _)
   .exact B.mark hs (cX (dI h) (Ne.symm e))
 .show ma=[];rw[hma,if_neg (by rw[hm0 hs];decide)];exact B.zN hs
 .rcases aA.mp hx with h | h
  .obtain⟨k,hk,h⟩:=B.form x h;exact⟨k,bi hk,h⟩
  .exact⟨n,bB n,(af.mp h).symm▸hfm⟩
structure Bz(sb:Bool)(n:Nat)(W:W8): Prop where
 bw:Bw sb n (n+1) W
 zg:W.gg.getD n false=true
 zk:W.kk.getD n []=[]
theorem Bw.fin{md:Int}{sb:Bool}{n:Nat}{W:W8}(B:Bw sb n n W)(M:Bm md sb n W): Bz sb n ⟨W.nn++[[122,122]],W.kk++[[]],W.cl,W.ss++[0],W.gg++[true],W.ma,W.ti,W.fo⟩:=
 ⟨B.add M.zz (bt _) (fun Y h=>nomatch h) (dT 0) rfl (.inr ⟨.inr rfl,rfl,rfl⟩) fun Y=>⟨rfl,.inr rfl⟩,tW B.l5,tW B.l2⟩
noncomputable def LT:V->Option Int
 |.int z=>some z
 |_=>none
noncomputable def toB:V->Option Nm
 |.bytes b=>some b
 |_=>none
noncomputable def toN:V->Option (List Nm)
 |.lst l=>l.mapM toB
 |_=>none
theorem Aw(l:List Nm): toN (.lst (nms l))=some l:=by
 show(nms l).mapM toB=some l
 induction l with
 |nil=>rfl
 |cons x l ih=>
  show(V.bytes x::nms l).mapM toB=_;exact R1 List.mapM_cons (R1 ih rfl)
noncomputable def w6(sb:Bool)(sh:V)(W:W8): GD:=⟨8,7,W.fo,W.ti,fun x=>(getKey W.ti x).bind LT,fun x=>(getKey W.fo x).bind toN,0,sb,sh⟩
section
variable{sb:Bool}{n:Nat}{W:W8}{sh:V}
theorem Bz.DL(B:Bz sb n W)(k:Nat): (W.kk.getD k []).length<=4:=by
 rcases di k (n+1) with h | h
 .exact(B.bw.en k h).DL
 .refine R1 (ru (B.bw.l2.symm▸h)) ?_;exact bt _
theorem Bz.sF(B:Bz sb n W)(k:Nat): ∀e∈W.kk.getD k [],e<k:=by
 rcases di k (n+1) with h | h
 .exact(B.bw.en k h).sF
 .refine R1 (ru (B.bw.l2.symm▸h)) ?_;exact fun e he=>nomatch he
theorem Bz.st(B:Bz sb n W)(k:Nat): 0<=W.ss.getD k 0:=by
 rcases di k (n+1) with h | h
 .exact(B.bw.en k h).s0
 .refine R1 (ru (B.bw.l4.symm▸h)) ?_;exact dT 0
theorem Bz.tV(B:Bz sb n W){k:Nat}(hk:k<n+1): (w6 sb sh W).time (kH W.nn k)=if W.gg.getD k false=true then none else some (W.ss.getD k 0):=by show(getKey W.ti (kH W.nn k)).bind LT=_;refine R1 ((B.bw.en k hk).time) ?_;split<;>rfl
theorem Bz.NL(B:Bz sb n W){x:Nm}(hx:x∉W.nn): (w6 sb sh W).time x=none:=by show(getKey W.ti x).bind LT=_;exact R1 (B.bw.wt x hx) rfl
theorem Bz.MW(B:Bz sb n W){k:Nat}(hk:k<n+1): (w6 sb sh W).st (kH W.nn k)=W.ss.getD k 0:=by
 unfold GD.st;refine R1 (B.tV hk) ?_;split
 .rename_i h;exact((B.bw.en k hk).away h).1.symm
 .rfl
theorem Bz.Jr(B:Bz sb n W){k:Nat}(hk:k<n+1): (W.gg.getD k false=false/\(w6 sb sh W).sF (kH W.nn k)=some ((W.kk.getD k []).map (kH W.nn)))\/((sb=true\/k=n)/\W.kk.getD k []=[]/\(w6 sb sh W).sF (kH W.nn k)=none):=by
 show(_/\(getKey W.fo (kH W.nn k)).bind toN=_)\/(_/\_/\(getKey W.fo (kH W.nn k)).bind toN=_);rcases(B.bw.en k hk).tY with ⟨h1,h2⟩ | ⟨h1,h2,h3⟩
 .exact .inl ⟨h1,by refine R1 h2 ?_;exact Aw _⟩
 .exact .inr ⟨h1,h2,by exact R1 h3 rfl⟩
theorem Bz.cases(B:Bz sb n W)(x:Nm): x∉W.nn\/∃k,k<n+1/\x=kH W.nn k:=by
 by_cases h:x∈W.nn
 .obtain⟨k,h1,h2⟩:=mem_getD (d:=[]) h;exact .inr ⟨k,B.bw.l1▸h1,h2.symm⟩
 .exact .inl h
theorem Bz.inj(B:Bz sb n W)(i j:Nat)(hi:i<n+1)(hj:j<n+1)(h:kH W.nn i=kH W.nn j): i=j:=BW B.bw.nd (B.bw.l1.symm▸hi) (B.bw.l1.symm▸hj) h
theorem Bz.wd(B:Bz sb n W)(hn:n<=14): (w6 sb sh W).Wd W.nn where
 all:=fun x hx=>by
  rcases B.cases x with h | ⟨k,hk,rfl⟩
  .rw[B.NL h] at hx;cases hx
  .exact getD_mem (B.bw.l1.symm▸hk)
 few:=by refine R1 B.bw.l1 ?_;exact ab (bc hn) (by decide)
theorem Bz.gone(B:Bz sb n W){k:Nat}(hk:k<n+1)(hs:sb=false): (W.gg.getD k false=true↔k=n):=by refine⟨fun h=>(((B.bw.en k hk).away h).2).elim (fun h=>by rw[hs] at h;cases h) id,fun e=>e▸B.zg⟩
theorem Bz.ok(B:Bz sb n W)(hsh:(sh=.none/\sb=false)\/sh=.fset (!sb)){H:List AO}(h8:H[8]?=some (.dict W.fo))(h7:H[7]?=some (.dict W.ti)): (w6 sb sh W).Ok H where
 tY:=h8
 times:=h7
 time:=fun x=>by
  show getKey W.ti x=((getKey W.ti x).bind LT).map .int;rcases B.cases x with h | ⟨k,hk,rfl⟩
  .exact R1 (B.bw.wt x h) rfl
  .refine R1 ((B.bw.en k hk).time) ?_;split<;>rfl
 sF:=fun x=>by
  show getKey W.fo x=((getKey W.fo x).bind toN).map _;rcases B.cases x with h | ⟨k,hk,rfl⟩
  .exact R1 (B.bw.wz x h) rfl
  .rcases(B.bw.en k hk).tY with h | h
   .exact R1 h.2 (R1 (Option.bind_some ..) (R1 (Aw ..) rfl))
   .exact R1 h.2.2 rfl
 sh:=hsh
 few:=fun x l h=>by
  rcases B.cases x with hx | ⟨k,hk,rfl⟩
  .have h:(getKey W.fo x).bind toN=some l:=h;rw[B.bw.wz x hx] at h;cases h
  .rcases B.Jr (sh:=sh) hk with q | q
   .rw[q.2] at h;refine R2 (aq.inj h) (R1 (ak ..) ?_);exact B.DL k
   .rw[q.2.2] at h;cases h
 tot:=by
  show sb=true\/_;cases hs:sb with
  |true=>exact .inl rfl
  |false=>
   refine .inr fun x hx=>?_
   have up:∀k,k<n+1->k≠n->((w6 sb sh W).time (kH W.nn k)).isSome=true:=fun k hk h=>by exact R1 (B.tV hk) (R1 (if_neg fun q=>h ((B.gone hk hs).mp q)) rfl)
   rw[hs] at up;rcases B.cases x with h | ⟨k,hk,rfl⟩
   .have h:=B.NL (sh:=sh) h;rw[hs] at h;rw[h] at hx;cases hx
   .have hkn:k≠n:=fun e=>by have h:=B.tV (sh:=sh) hk;rw[hs,e,if_pos B.zg] at h;rw[e,h] at hx;cases hx
    rcases B.Jr (sh:=sh) hk with q | q
    .rw[hs] at q;refine⟨_,q.2,fun p hp=>?_⟩;obtain⟨e,he,rfl⟩:=bg.mp hp;have hek:=aD (B.sF k e he) (bz hk);exact up e (bi hek) (aK hek)
    .rw[hs] at q;exact q.1.elim (fun h=>nomatch h) fun h=>(hkn h).elim
theorem Bz.kn(B:Bz sb n W){rs:List Nat}(hr:rs.length=n+1): Kn (w6 sb sh W) rs.length (kH W.nn):=by
 intro hs i hi;have hs:sb=false:=hs;rw[hr] at hi ⊢;refine R1 (B.tV hi) ?_;have h:=B.gone hi hs;cases q:W.gg.getD i false with
 |false=>exact⟨fun Y e=>(by rw[h.mpr e] at q;cases q),fun Y=>rfl⟩
 |true=>exact⟨fun h=>(nomatch h),fun hne=>(hne (h.mp q)).elim⟩
end
noncomputable def road(gg:List Bool)(l:List Nat): Nat:=l.foldl (fun r e=>if gg.getD e false=true then r else r|||1<<<e) 0
noncomputable def lz(gg:List Bool)(ss:List Int)(t:Int)(l:List Nat): Nat:=l.foldl (fun r e=>if gg.getD e false=false/\t<=ss.getD e 0 then r|||1<<<e else r) 0
theorem zD(gg:List Bool)(ss:List Int)(t:Int)(l:List Nat)(e:Nat): lz gg ss t (l++[e])=if gg.getD e false=false/\t<=ss.getD e 0 then lz gg ss t l|||1<<<e else lz gg ss t l:=by unfold lz;exact R1 List.foldl_append rfl
theorem mZ(gg:List Bool)(ss:List Int)(t:Int)(l:List Nat)(x:Nat): (lz gg ss t l).testBit x=true↔x∈l/\gg.getD x false=false/\t<=ss.getD x 0:=by
 suffices h:∀l:List Nat,(lz gg ss t l.reverse).testBit x=true↔x∈l/\gg.getD x false=false/\t<=ss.getD x 0 by have:=h l.reverse;rwa[List.reverse_reverse,cb] at this
 intro l
 induction l with
 |nil=>exact⟨fun h=>(nomatch (dl x).symm.trans h),fun h=>(nomatch h.1)⟩
 |cons e l ih=>
  refine R1 dC (R1 (zD ..) ?_);split
  .rename_i h;refine R1 (bG ..) (R1 (bj ..) ?_);rewrite[kD,ih];exact⟨fun q=>q.elim (fun q=>⟨ad _ q.1,q.2⟩) fun q=>(by subst q;exact⟨ac,h⟩),fun q=>(av.mp q.1).elim .inr fun m=>.inl ⟨m,q.2⟩⟩
  .rename_i h;rw[ih];exact⟨fun q=>⟨ad _ q.1,q.2⟩,fun q=>⟨(av.mp q.1).resolve_left fun e=>h (e▸q.2),q.2⟩⟩
theorem zC{gg:List Bool}{ss:List Int}(h:∀k,0<=ss.getD k 0)(l:List Nat): road gg l=lz gg ss 0 l:=by
 unfold road lz;congr 1;funext r e;cases q:gg.getD e false with
 |true=>exact(if_pos rfl).trans (if_neg fun h=>nomatch h.1).symm
 |false=>exact(if_neg (by decide)).trans (if_pos ⟨rfl,h e⟩).symm
noncomputable def zE(n:Nat)(W:W8): List (Int×Nm):=(aX (n+1)).map fun k=>(-(W.ss.getD k 0),kH W.nn k)
theorem rb(n:Nat)(W:W8){k:Nat}(hk:k<n+1): (zE n W).getD k (0,[])=(-(W.ss.getD k 0),kH W.nn k):=by unfold zE;rw[a7,aN,List.getElem?_range hk];rfl
theorem zI{a b:Int}{x y:Nm}: mz a x b y=true↔a<b\/(a=b/\ltB x y=true):=by
 unfold mz;by_cases h:a=b
 .refine R1 (if_pos h) ?_;subst h;refine Iff.trans ?_ ⟨fun q=>.inr ⟨rfl,q⟩,fun q=>q.elim (fun q=>absurd q (Int.lt_irrefl _)) And.right⟩;by_cases h2:x=y
  .subst h2;rw[if_pos rfl,qK.Cv]
  .rw[if_neg h2]
 .refine R1 (if_neg h) ?_;rewrite[decide_eq_true_iff];exact⟨.inl,fun q=>q.elim id fun q=>absurd q.1 h⟩
theorem Lf{n:Nat}{rs:List Nat}{W:W8}(hd:Down rs)(hr:rs.length=n+1)(inj:∀i j,i<n+1->j<n+1->kH W.nn i=kH W.nn j->i=j): Gr rs (zE n W) where
 down:=hd
 len:=(ak ..).trans ((br ..).trans hr.symm)
 tr:=fun a b c h1 h2=>by
  unfold qE at *;rw[zI] at *;rcases h1 with h1 | ⟨h1,h1'⟩
  .exact .inl (h2.elim (ef h1) fun h2=>h2.1▸h1)
  .refine R1 h1 ?_;exact h2.imp id fun h2=>⟨h2.1,qK.tr _ _ _ h1' h2.2⟩
 tot:=fun a b ha hb hne=>by
  rw[hr] at ha hb;unfold qE;rewrite[zI,zI];refine R1 (rb n W ha) (R1 (rb n W hb) ?_);have:kH W.nn a≠kH W.nn b:=fun e=>hne (inj a b ha hb e);rcases Int.lt_trichotomy (-(W.ss.getD a 0)) (-(W.ss.getD b 0)) with h | h | h
  .exact .inl (.inl h)
  .exact(qK.tot _ _ this).imp (fun q=>.inr ⟨h,q⟩) fun q=>.inr ⟨h.symm,q⟩
  .exact .inr (.inl h)
theorem rj{f:List Nat->Nat}(h0:f []=0)(l:List (List Nat))(k:Nat): (l.map f).getD k 0=f (l.getD k []):=by
 refine R1 a7 (R1 a7 (R1 aN ?_));cases l[k]? with
 |none=>exact h0.symm
 |some _=>rfl
section
variable{sb:Bool}{n:Nat}{W:W8}{sh:V}
theorem Bz.wo(B:Bz sb n W)(t:Int): Wo ((w6 sb sh W).up t) (W.kk.map (lz W.gg W.ss t)) (zE n W) (kH W.nn):=by
 have hl:(W.kk.map (lz W.gg W.ss t)).length=n+1:=(ak ..).trans B.bw.l2;have hg:∀k,(W.kk.map (lz W.gg W.ss t)).getD k 0=lz W.gg W.ss t (W.kk.getD k []):=rj rfl W.kk
 have hd:Down (W.kk.map (lz W.gg W.ss t)):=fun k e h=>by rw[hg,mZ] at h;exact B.sF k e h.1
 refine⟨Lf hd hl B.inj,fun i j hi hj=>B.inj i j (hl▸hi) (hl▸hj),fun i hi x=>?_,fun i j hi hj=>?_,fun i hi=>?_⟩
 .rw[hl] at hi;show x∈(((w6 sb sh W).sF (kH W.nn i)).getD []).filter ((w6 sb sh W).up t).sees↔_
  have hs:∀e∈W.kk.getD i [],(((w6 sb sh W).up t).sees (kH W.nn e)=true↔W.gg.getD e false=false/\t<=W.ss.getD e 0):=fun e he=>by
   show(match (w6 sb sh W).time (kH W.nn e) with | some z=>decide (t<=z) | none=>false)=true↔_;refine R1 (B.tV (aF (B.sF i e he) hi)) ?_;cases W.gg.getD e false with
   |true=>exact⟨fun h=>(nomatch h),fun h=>(nomatch h.1)⟩
   |false=>exact decide_eq_true_iff.trans ⟨fun h=>⟨rfl,h⟩,And.right⟩
  have hk:x∈((w6 sb sh W).sF (kH W.nn i)).getD []↔∃e∈W.kk.getD i [],kH W.nn e=x:=by
   rcases B.Jr (sh:=sh) hi with q | q
   .refine R1 q.2 ?_;exact bg
   .refine R1 q.2.2 (R1 q.2.1 ?_);exact⟨fun h=>(nomatch h),fun⟨_,h,_⟩=>(nomatch h)⟩
  rw[bC,hk];constructor
  .rintro⟨⟨e,h1,rfl⟩,h2⟩;exact⟨e,(ln hd).mpr (by refine R1 (hg ..) ?_;rewrite[mZ];exact⟨h1,(hs e h1).mp h2⟩),rfl⟩
  .rintro⟨e,h1,rfl⟩;have h1:=(ln hd).mp h1;rw[hg,mZ] at h1;exact⟨⟨e,h1.1,rfl⟩,(hs e h1.1).mpr h1.2⟩
 .rw[hl] at hi hj;have h1:=B.MW (sh:=sh) hi;have h2:=B.MW (sh:=sh) hj;unfold qE;refine R1 (rb n W hi) (R1 (rb n W hj) ?_);show mz (-((w6 sb sh W).st (kH W.nn i))) (kH W.nn i) (-((w6 sb sh W).st (kH W.nn j))) (kH W.nn j)=_;exact R1 h1 (R1 h2 rfl)
 .rw[hl] at hi;refine R1 (rb n W hi) ?_;exact congrArg Int.neg (B.MW (sh:=sh) hi).symm
theorem Bz.Ob(B:Bz sb n W): Wo (w6 sb sh W) (W.kk.map (road W.gg)) (zE n W) (kH W.nn):=by have:=B.wo (sh:=sh) 0;rwa[show W.kk.map (lz W.gg W.ss 0)=W.kk.map (road W.gg) from bS fun l Y=>(zC B.st l).symm] at this
end
noncomputable def plans(c:Nat): List (List Nat):=[[c - 1,c - 2],[c - 1,c - 2,c - 3],[c - 3,c - 1,c - 2],[0,c - 1,c - 2],[c - 1,c - 2,c - 1],[c - 2,c - 3,c - 4],[c - 3,c - 1,c - 2,1],[1,c - 1]]
noncomputable def E6(c:Nat)(ids:List Nat): Prop:=ids∈(plans c).flatMap fun p=>[p,p.dropLast++[c],c::p.drop 1]
set_option synthInstance.maxSize 2000 in
set_option synthInstance.maxHeartbeats 400000 in
theorem sQ:∀c,c<15->4<=c->∀ids∈(plans c).flatMap fun p=>[p,p.dropLast++[c],c::p.drop 1],(∀k∈ids,k<=c)/\(2<=ids.length/\ids.length<=4)/\ids.getD 0 0≠ids.getD 1 0/\
  (3<=ids.length->ids.getD 1 0<c/\(ids.getD 0 0=c\/ids.getD 2 0=c\/ids.getD 2 0=ids.getD 0 0\/((ids.getD 0 0<=12\/ids.getD 1 0<=12)/\ids.getD 2 0<=12))/\(ids.drop 3=[]\/ids.drop 3=[1]\/ids.drop 3=[c])):=by decide +kernel
theorem DR{c:Nat}(hc:4<=c)(hc2:c<=14){ids:List Nat}(h:E6 c ids): ∀k∈ids,k<=c:=(sQ c (bo hc2) hc ids h).1
theorem wV{c:Nat}(hc:4<=c)(hc2:c<=14){ids:List Nat}(h:E6 c ids): 2<=ids.length/\ids.length<=4:=(sQ c (bo hc2) hc ids h).2.1
theorem pF{α:Type}{l:List α}{n:Nat}(h:n+1<=l.length): ∃a r,l=a::r/\n<=r.length:=by obtain⟨a,r,rfl⟩:=List.exists_cons_of_length_pos (aD (bE n) h);exact⟨a,r,rfl,dI h⟩
theorem Gw{c:Nat}(hc:4<=c)(hc2:c<=14){ids:List Nat}(h:E6 c ids): ∃a b l,ids=a::b::l/\a≠b:=by obtain⟨_,⟨h2,_⟩,h3,_⟩:=sQ c (bo hc2) hc ids h;obtain⟨a,r',rfl,g2⟩:=pF h2;obtain⟨b,r,rfl,_⟩:=pF g2;exact⟨a,b,r,rfl,h3⟩
theorem Gx{c:Nat}(hc:4<=c)(hc2:c<=14){ids:List Nat}(h:E6 c ids)(hl:3<=ids.length): ∃k0 k1 k2 rest,ids=k0::k1::k2::rest/\k0<=c/\k1<c/\k2<=c/\(k0=c\/k2=c\/k2=k0\/((k0<=12\/k1<=12)/\k2<=12))/\(rest=[]\/rest=[1]\/rest=[c]):=by obtain⟨h1,_,_,h3⟩:=sQ c (bo hc2) hc ids h;have h3:=h3 hl;obtain⟨k0,r1,rfl,g1⟩:=pF hl;obtain⟨k1,r2,rfl,g2⟩:=pF g1;obtain⟨k2,r,rfl,_⟩:=pF g2;exact⟨k0,k1,k2,r,rfl,h1 k0 ac,h3.1,h1 k2 (ad _ (ad _ ac)),h3.2⟩
theorem qQ:y8 vQ:=Iw
theorem Am:yX y7:=It
theorem xn:uA uE:=FE qQ
theorem yR:sU sV:=C7 qQ Am
theorem EF:Hb Hg:=Km Am
theorem EH:EX EU:=Iv
theorem G4:EY EV:=FF xn EF EH qQ yR Am
theorem Bl:E1 EW:=FG xn yR
theorem EG:H5 H8:=Iu EF xn
noncomputable abbrev KF:List Str:=(["script", "numbers", "head", "total", "deed", "mode", "shallow", "figures", "number", "rest", "count", "last", "names", "kin", "clocks", "stamps", "gone", "marks", "k", "figure", "sign", "step", "name", "elders", "e", "clock"]:List Str)++(["stamp", "marked", "away", "torn", "ranks", "every", "roads", "road", "shut", "kin_of", "time_of", "plans", "ids", "asked", "seeds", "a", "b", "told", "lean", "heirs", "spots", "due", "both", "row", "folk", "times"]:List Str)
theorem KN{a:V}: jy KF ["script"] [a]=.val a::ev 51 .unset:=by kernel_rfl
noncomputable def EJ:P AF:=EL.1
noncomputable abbrev oB(l:List Int): List V:=l.map .int
theorem zX(l:List Int): intsOf (oB l)=some l:=by
 induction l with
 |nil=>rfl
 |cons x l ih=>
  show(intsOf (oB l)).map _=_;exact R1 ih rfl
theorem slice_ints(l:List Int)(lo hi:Option Int): ∃m:List Int,oQ (oB l) lo hi=oB m:=by unfold oQ oB;refine R2 fO (R2 eN ?_);exact⟨_,rfl⟩
theorem xf{σ:AS}{f:List Int->Option V}{l:List Int}{v:V}(h:f l=some v): P.ints1 f [.lst (oB l)] σ=.ok v σ:=by unfold P.ints1;dsimp only[jz];refine R1 (zX ..) ?_;dsimp only;exact R1 h rfl
theorem rn(l:List Int): (oB l).length=l.length:=ak ..
theorem rq(l:List Int)(x:Int): oB l++[.int x]=oB (l++[x]):=by rewrite[oB,oB];exact R1 aS rfl
structure J8(l:List Int): Prop where
 lo:2<=l.length
 hi:l.length<=12
 all:∀f∈l,0<=f/\f<4096
structure JU(l:List Int): Prop where
 lo:4<=l.length
 hi:l.length<=14
 all:∀f∈l,0<=f/\f<4096
theorem D7{l:List Int}(h:J8 l)(hl:l.length<12)(r:Int): J8 (l++[r.fmod 4096]):=by
 refine⟨?_,?_,fun f hf=>?_⟩
 .refine R1 ar ?_;exact bL h.lo
 .refine R1 ar ?_;exact hl
 .rcases aA.mp hf with hf | hf
  .exact h.all f hf
  .refine R1 (af.mp hf) ?_;exact⟨cA r (by decide),dv r (by decide)⟩
theorem J8.fin{l:List Int}(h:J8 l){m:List Int}(hm:m.length=2)(hb:∀f∈m,0<=f/\f<4096): JU (l++m):=by
 refine⟨?_,?_,fun f hf=>(aA.mp hf).elim (h.all f) (hb f)⟩
 .refine R1 ar (R1 hm ?_);exact aO h.lo 2
 .refine R1 ar (R1 hm ?_);exact aO h.hi 2
structure L0 where
 script:List Int
 ns:List Int
 hd:Int
 tot:Int
 dd:Int
 md:Int
 sb:Bool
 fs:List Int
 kB:List Int
noncomputable def nH(J:Nat->Slot): Prop:=∀i,(J i).nf=true
noncomputable def ups(J:Nat->Slot)(i:Nat)(s:Slot): Nat->Slot:=fun j=>if j=i then s else J j
noncomputable abbrev up(J:Nat->Slot)(i:Nat)(v:V): Nat->Slot:=ups J i (.val v)
theorem nH.up{J:Nat->Slot}(h:nH J)(i:Nat)(v:V): nH (up J i v):=fun j=>by
 show(if j=i then Slot.val v else J j).nf=true;split
 .rfl
 .exact h j
noncomputable def L0.p(E:L0)(J:Nat->Slot): List Slot:=[.val (.lst (oB E.script)),.val (.lst (oB E.ns)),.val (.int E.hd),.val (.int E.tot),.val (.int E.dd),.val (.int E.md),.val (.bool E.sb),.val (.ref 0),J 8,J 9,.unset,.unset,.unset,.unset,.unset,.unset,.unset,.unset,.unset,.unset,.unset,.unset,.unset,.unset,.unset,.unset,.unset,.unset,.unset,.unset,.unset,.unset,.unset,.unset,.unset,.unset,.unset,.unset,.unset,.unset,.unset,.unset,.unset,.unset,.unset,.unset,.unset,.unset,.unset,.unset,.unset,.unset]
noncomputable def L0.v(E:L0)(u:V->Slot)(J:Nat->Slot): List Slot:=[.val (.lst (oB E.script)),.val (.lst (oB E.ns)),.val (.int E.hd),.val (.int E.tot),.val (.int E.dd),.val (.int E.md),.val (.bool E.sb),.val (.lst (oB E.fs)),J 8,J 9,.val (.int E.fs.length),.val (.int (E.fs.length - 1)),.val (.ref 1),.val (.ref 2),.val (.ref 3),.val (.ref 4),.val (.ref 5),.val (.ref 6),
 J 18,J 19,J 20,J 21,J 22,J 23,J 24,J 25,J 26,J 27,J 28,J 29,J 30,J 31,J 32,J 33,J 34,J 35,J 36,J 37,J 38,J 39,J 40,J 41,J 42,J 43,J 44,J 45,J 46,J 47,J 48,J 49,u (.ref 8),u (.ref 7)]
theorem JD{H:List AO}{vs:List Slot}{n:Nat}{us ws:List V}(h:H[n]?=some (.list us))(hl:us.length+ws.length<=1000000): P.bin .Add (.ref n) (.lst ws) ⟨H,vs⟩=.ok (.lst (us++ws)) ⟨H,vs⟩:=by unfold P.bin;dsimp only;refine R1 (mB h) ?_;exact if_pos hl
theorem Jz{H:List AO}{vs:List Slot}{n:Nat}{us:List V}(h:H[n]?=some (.list us)): P.len [.ref n] ⟨H,vs⟩=.ok (.int us.length) ⟨H,vs⟩:=by unfold P.len lenOf;dsimp only;exact R1 (mB h) rfl
noncomputable def W8.he(W:W8)(kB:List Int): List AO:=[.list (oB kB),.list (nms W.nn),.list (yk W.kk),.list (oB W.cl),.list (oB W.ss),.list (J4 W.gg),.list (nms W.ma),.dict W.ti,.dict W.fo]
theorem Mr{a m:Nat}(h:a<12)(hm:m=13 - (a+1)): m<13 - a:=hm▸d9 (bi h) (bB a)
theorem IJ{Q:Res AF->Prop}{e:P V}{q:P AF}{i:Nat}{s:Slot}{H:List AO}{vs:List Slot}{α:Type}{R:α->Prop}{f:α->V}(h:∃a,R a/\e ⟨H,vs⟩=.ok (f a) ⟨H,vs⟩)(hi:vs[i]?=some s)(hs:s.nf=true)(hq:∀a,R a->Q (q ⟨H,vs.set i (.val (f a))⟩)): Q (P.seq (P.bind e fun v=>(P.kd i v).next) q ⟨H,vs⟩):=by obtain⟨v,h1,h2⟩:=h;exact la h2 hi hs (hq v h1)
noncomputable def E0(script ns:List Int)(hd:Int): L0:=⟨script,ns,hd,ns.sum,hd.fmod 4,(hd.fdiv 4).fmod 4,(hd.fdiv 16).fmod 2 == 1,[],[]⟩
noncomputable def Ea(script ns:List Int)(hd:Int)(kB:List Int)(J:Nat->Slot): AS:=⟨[.list (oB kB)],(E0 script ns hd).p J⟩
inductive NT(script ns:List Int)(hd:Int)(σ:AS): Prop
 |mk (kB:List Int) (J:Nat->Slot) (hf:J8 kB) (hJ:nH J) (h:σ=Ea script ns hd kB J)
inductive O0(script ns:List Int)(hd x:Int)(J:Nat->Slot)(m:Nat)(σ:AS): Prop
 |mk (kB:List Int) (r:Int) (hf:J8 kB) (hm:m=13 - kB.length) (h:σ=Ea script ns hd kB (up (up J 8 (.int x)) 9 (.int r)))
noncomputable def DH:{r:P AF // ∀{script:List Int} {Q:Res AF->Prop},(∀(E:L0) (J:Nat->Slot),nH J->JU E.fs->Q (r ⟨W0.he E.kB,E.v .val J⟩))->Q (EJ ⟨[],.val (.lst (oB script))::ev 51 .unset⟩)}:=⟨_,by
 intro script Q hrest;delta EJ EL;dsimp only;obtain⟨ns,hns⟩:=slice_ints script none (some 24);refine la (iN rfl (iN rfl (congrArg (fun l=>Res.ok (V.lst l) _) hns))) rfl rfl ?_
 have hhd:∃hd:Int,∀vs,vs[1]?=some (.val (.lst (oB ns)))->(((P.var 1).bind P.truth).bind fun b=>if b=true then(P.var 1).bind fun a=>(P.pure (V.int 0)).bind fun i=>P.index a i else P.pure (V.int 0)) ⟨[],vs⟩=.ok (.int hd) ⟨[],vs⟩:=by
  cases ns with
  |nil=>exact⟨0,fun vs h=>lP (iN (pw h) rfl) rfl⟩
  |cons a l=>exact⟨a,fun vs h=>oh (iN (pw h) rfl) (iN (pw h) rfl)⟩
 obtain⟨hd,hhd⟩:=hhd;refine la (hhd _ rfl) rfl rfl (la (iN rfl (xf rfl)) rfl rfl ?_);refine la (iN rfl rfl) rfl rfl (la (iN rfl rfl) rfl rfl (la (iN (iN (iN rfl rfl) rfl) rfl) rfl rfl (la (iN rfl rfl) rfl rfl ?_)));refine ou (NT script ns hd) (fun Y=>False) (fun Q hQ Y=>?_) ?_ fun Y h=>h.elim
 .refine mt (g:=V.int) (xs:=ns) (fun Y=>NT script ns hd) ⟨[0,4],fun Y=>.unset,⟨by decide,by decide,by decide⟩,fun Y=>rfl,rfl⟩ rfl ?_ hQ;rintro x xs σ ⟨kB,J,hf,hJ,rfl⟩;refine kW (kh rfl (hJ 8)) (la rfl rfl (hJ 9) ?_);refine sL (O0 script ns hd x J) ?_ _ (13 - kB.length) _ (ag (db _ _) (by decide)) ⟨kB,x,hf,rfl,rfl⟩;rintro m σ ⟨kB,r,hf,rfl,rfl⟩;refine⟨decide (((oB kB).length:Int)<12),iN (iN rfl (Jz rfl)) (iN rfl rfl),fun hc=>?_,fun hc=>mi ⟨kB,_,hf,(hJ.up _ _).up _ _,rfl⟩⟩
  have hc:kB.length<12:=by have:=bD.mp (of_decide_eq_true hc);rwa[rn] at this
  refine jt (iN (sG rfl rfl (iN rfl (yL rfl (by refine R1 (rn ..) ?_;exact aF hc (by decide))))) rfl) (la (iN rfl rfl) rfl rfl ?_);have hs:∀r',(⟨([AO.list (oB kB)]:List AO).set 0 (.list (oB kB++[.int (r.fmod 4096)])),(E0 script ns hd).p (up (up J 8 (.int x)) 9 (.int r'))⟩:AS)=Ea script ns hd (kB++[r.fmod 4096]) (up (up J 8 (.int x)) 9 (.int r')):=fun r'=>by exact R1 (rq ..) rfl
  have hf':=D7 hf hc r;refine qg (c:=(r.fdiv 4096 == 0) || (r.fdiv 4096 == -1)) (mC rfl fun Y=>lC rfl rfl) (fun h=>KD (mi ⟨_,_,hf',(hJ.up 8 (.int x)).up 9 (.int (r.fdiv 4096)),hs (r.fdiv 4096)⟩)) fun h=>mi ⟨_,Mr hc (congrArg (13 - ·) ar),_,r.fdiv 4096,hf',rfl,hs (r.fdiv 4096)⟩
 rintro _ ⟨kB,J,hf,hJ,rfl⟩;have hadd:∀m:List Int,m.length=2->∀vs,P.bin .Add (.ref 0) (.lst (oB m)) ⟨[.list (oB kB)],vs⟩=.ok (.lst (oB (kB++m))) ⟨[.list (oB kB)],vs⟩:=fun m hm vs=>(JD rfl (by refine R1 (rn ..) (R1 (rn ..) (R1 hm ?_));exact ab (aO hf.hi 2) (by decide))).trans (by rewrite[oB,oB,oB];exact R1 aS rfl);refine IJ (f:=fun fs=>V.lst (oB fs)) (R:=JU) ?_ rfl rfl fun fs hfs=>?_
 .cases h:((hd.fdiv 32).fmod 2 == 0) with
  |true=>exact⟨kB++[1,1],hf.fin rfl (by decide),iN rfl (iN (oh (iN (iN (iN rfl rfl) rfl) (congrArg (Res.ok · _) h)) rfl) (hadd [1,1] rfl _))⟩
  |false=>exact⟨kB++[3,2],hf.fin rfl (by decide),iN rfl (iN (lP (iN (iN (iN rfl rfl) rfl) (congrArg (Res.ok · _) h)) rfl) (hadd [3,2] rfl _))⟩
 refine la (iN rfl (congrArg (fun n:Nat=>Res.ok (V.int n) _) (rn fs))) rfl rfl (la (iN rfl rfl) rfl rfl ?_);refine jt rfl (jt rfl (jt rfl (jt rfl (jt rfl (jt rfl (jt rfl (jt rfl ?_)))))))
 exact hrest {E0 script ns hd with fs:=fs,kB:=kB} (fun i=>if i<10 then J i else .unset) (fun i=>by
  show(if i<10 then J i else .unset).nf=true;split
  .exact hJ i
  .rfl) hfs⟩
theorem Dl{f k:Int}(h:0<=f/\f<4096): binI .Mult f k=some (f*k):=by
 unfold binI;dsimp only;refine if_pos ?_;have:f.natAbs<2 ^ 12:=bD.mp (fP (fh (Int.natAbs_of_nonneg h.1)) h.2);unfold iC.Int.intBits;split
 .decide
 .rename_i e;have e':f.natAbs≠0:=fun h=>e (by exact R1 (Int.natAbs_eq_zero.mp h) rfl);exact ab ((Nat.log2_lt e').mpr this) (by decide)
theorem Be{α:Type}{g:α->V}(T:α->Bool){Ev:α->V}(st:α->List Slot)(Gd:List Slot->Prop){H:List AO}{vs:List Slot}{cap:List (Option (Nat×Bool))}{its:P (List V)}{asg:V->P Unit}{test:P Bool}{ep:P V}{xs:List α}
  (hits:its ⟨H,vs⟩=.ok (xs.map g) ⟨H,vs⟩) (hcap:Gd (kI cap vs)) (hs:∀x,Gd (st x)) (ha:∀x s,Gd s->asg (g x) ⟨H,s⟩=.ok () ⟨H,st x⟩)
  (ht:∀x∈xs,test ⟨H,st x⟩=.ok (T x) ⟨H,st x⟩) (he:∀x∈xs,T x=true->ep ⟨H,st x⟩=.ok (Ev x) ⟨H,st x⟩) (hl:xs.length<=1000000):P.mI cap its asg test (P.mU ep) ⟨H,vs⟩=.ok (.lst ((xs.filter T).map Ev)) ⟨H,vs⟩:=by
 have go:∀(l:List α) (acc:List V) s,Gd s->(∀x∈l,x∈xs)->∃s',P.lg asg test (P.mU ep) (l.map g) acc ⟨H,s⟩=.ok (acc++(l.filter T).map Ev) ⟨H,s'⟩:=by
  intro l
  induction l with
  |nil=>intro acc s _ _;exact⟨s,congrArg (Res.ok · _) (ba acc).symm⟩
  |cons x l ih=>
   intro acc s h hm;have hx:=hm x ac;have hm':∀y∈l,y∈xs:=fun y hy=>hm y (ad _ hy);refine R1 aR (R1 dk ?_);unfold P.lg;cases q:T x with
   |true=>
    obtain⟨s',h'⟩:=ih (acc++[Ev x]) (st x) (hs x) hm';refine⟨s',iN (ha x s h) (iN (ht x hx) ?_)⟩;refine R1 q (R1 (if_pos rfl) (R1 (if_pos rfl) (R1 aR ?_)));refine iN (iN (he x hx q) rfl) ?_;exact R1 h' (R1 (ax ..) rfl)
   |false=>
    obtain⟨s',h'⟩:=ih acc (st x) (hs x) hm';refine⟨s',iN (ha x s h) (iN (ht x hx) ?_)⟩;refine R1 q (R1 (if_neg (by decide)) (R1 (if_neg (by decide)) ?_));exact h'
 obtain⟨s',h⟩:=go xs [] _ hcap fun Y h=>h;unfold P.mI;refine R1 hits ?_;dsimp only;refine R1 h (R1 (ci ..) ?_);exact if_pos (ab (aE (ak ..)) (ab (bJ _ _) hl))
theorem C8{x k n:Nat}{xs:List Nat}(h:x::xs=gF k (n - k)): x=k/\k<n/\xs=gF (k+1) (n - (k+1)):=by
 cases hm:n - k with
 |zero=>rw[hm] at h;cases h
 |succ m=>
  rw[hm,List.range'_succ] at h;obtain⟨h1,h2⟩:=gC.inj h;exact⟨h1,f6 (hm▸bE m),by refine R1 (Nat.sub_succ ..) (R1 hm ?_);exact h2⟩
theorem oZ{H:List AO}{us:List V}: uY H (.lst us) us:=fun Y=>rfl
theorem kr{H:List AO}{n:Nat}{us:List V}(h:H[n]?=some (.list us)): uY H (.ref n) us:=fun vs=>mB h
theorem F7{l:List Int}{x:Int}(h:x∈l): x<=Do l:=by
 cases l with
 |nil=>cases h
 |cons a r=>
  have:=o8 r a;exact(av.mp h).elim (fun e=>e▸this.1) (this.2 x)
theorem wB(l:List Nm)(x:Nm): nms l++[.bytes x]=nms (l++[x]):=by rewrite[nms,nms];exact R1 aS rfl
theorem Bn(l:List Bool)(x:Bool): J4 l++[.bool x]=J4 (l++[x]):=by rewrite[J4,J4];exact R1 aS rfl
theorem wN(k:List (List Nat))(l:List Nat): yk k++[.lst (nats l)]=yk (k++[l]):=by rewrite[yk,yk];exact R1 aS rfl
theorem yd{nn:List Nm}{k:Nat}(h:k<nn.length): (nms nn)[k]?=some (.bytes (kH nn k)):=by rw[aN,nY (d:=[]) h];rfl
theorem int_at{l:List Int}{k:Nat}(h:k<l.length): (oB l)[k]?=some (.int (l.getD k 0)):=by rw[aN,nY (d:=0) h];rfl
theorem wM{l:List (List Nat)}{k:Nat}(h:k<l.length): (yk l)[k]?=some (.lst (nats (l.getD k []))):=by rw[aN,nY (d:=[]) h];rfl
theorem EK{l:List Bool}{k:Nat}(h:k<l.length): (J4 l)[k]?=some (.bool (l.getD k false)):=by rw[aN,nY (d:=false) h];rfl
theorem Lm(a:Int): ∃z:Int,0<=z/\∀σ,P.abs [.int a] σ=.ok (.int z) σ:=⟨if a<0 then -a else a,by
 split
 .rename_i h;exact Int.neg_nonneg_of_nonpos (eY h)
 .rename_i h;exact cU.mp h,fun Y=>rfl⟩
section
variable{Q:Res AF->Prop}{p rest:P AF}{A B:P Bool}{C D:P V}{σ:AS}{H H':List AO}{vs:List Slot}{i n:Nat}{a b:Bool}
theorem HS(hA:A σ=.ok a σ)(hB:B σ=.ok b σ): (A.Lw.bind fun v=>(P.truth v).bind fun b=>if b=true then P.pure v else B.Lw) σ=.ok (.bool (a || b)) σ:=by
 refine iN (iN hA rfl) (iN rfl ?_);cases a with
 |true=>rfl
 |false=>exact iN hB rfl
theorem Aj(hC:C σ=.ok (.bool a) σ)(hD:D σ=.ok (.bool b) σ): (C.bind fun v=>(P.truth v).bind fun b=>if b=true then D else P.pure v) σ=.ok (.bool (a&&b)) σ:=by
 refine iN hC (iN rfl ?_);cases a with
 |true=>exact hD
 |false=>rfl
theorem Kr{α:Type}{R:α->Prop}{f:α->V}(h0:∃a,R a/\vs[i]?=some (.val (f a)))(h:p ⟨H,vs⟩=.ok .next ⟨H,vs⟩\/∃a,R a/\p ⟨H,vs⟩=.ok .next ⟨H,vs.set i (.val (f a))⟩)(hq:∀a,R a->Q (rest ⟨H,vs.set i (.val (f a))⟩)): Q (P.seq p rest ⟨H,vs⟩):=by
 rcases h with h | ⟨v,h1,h2⟩
 .obtain⟨v,h1,h2⟩:=h0;obtain⟨hi,h2⟩:=au.mp h2;have e:vs.set i (.val (f v))=vs:=by exact R2 h2 (R1 (fv ..) rfl)
  exact jt h (e▸hq v h1)
 .exact jt h2 (hq v h1)
theorem IG{α:Type}{R:α->Prop}{g:α->List AO}(h:∃a,R a/\p ⟨H,vs⟩=.ok .next ⟨g a,vs⟩)(hq:∀a,R a->Q (rest ⟨g a,vs⟩)): Q (P.seq p rest ⟨H,vs⟩):=by obtain⟨a,h1,h2⟩:=h;exact jt h2 (hq a h1)
theorem oE{args:P (List V)}{us:List V}{v:V}(hC:C ⟨H,vs⟩=.ok (.ref n) ⟨H,vs⟩)(ha:args ⟨H,vs⟩=.ok [v] ⟨H,vs⟩)(h:H[n]?=some (.list us))(hl:us.length<100000)(e:H.set n (.list (us++[v]))=H'):
  ((C.bind fun v σ=>if nQ σ v=true then(args.bind fun x=>P.append v x) σ else Res.stuck).bind fun x=>P.pure AF.next) ⟨H,vs⟩=.ok .next ⟨H',vs⟩:=
 iN (sG hC (nh h) (iN ha ((yL h hl).trans (congrArg (fun H=>Res.ok _ (AS.mk H vs)) e)))) rfl
theorem GW{m:Int}(hC:C σ=.ok (.int m) σ)(hm:0<=m)(hD:∃y:Int,0<=y/\D σ=.ok (.int y) σ): ∃z:Int,0<=z/\(C.bind fun a=>D.bind fun b=>P.bin .Add a b) σ=.ok (.int z) σ:=by obtain⟨y,hy,hD⟩:=hD;exact⟨m+y,fG hm hy,iN hC (iN hD rfl)⟩
end
theorem EI{a b:Nat}(ha:a<256)(hb:b<256): P.bytesOf [(a:Int),(b:Int)]=some (.bytes [a.toUInt8,b.toUInt8]):=by
 have h:∀n:Nat,n<256->(decide (0<=(n:Int))&&decide ((n:Int)<256))=true:=fun n h=>by exact R1 (decide_eq_true (bP n)) (R1 (decide_eq_true (p:=(n:Int)<256) (bD.mpr h)) rfl)
 refine if_pos ?_;show((_&&_)&&((_&&_)&&true))=true;exact R1 (h a ha) (R1 (h b hb) rfl)
section
variable{Q:Res AF->Prop}{e:P V}{q:P AF}{i:Nat}{v:V}{s:Slot}{H:List AO}{vs:List Slot}
theorem Db(h:e ⟨H,vs⟩=.ok v ⟨H,vs⟩)(hi:vs[i]?=some s)(hs:s.nf=true)(hq:Q (q ⟨H,vs.set i (.val v)⟩)): Q (P.seq (P.bind e fun v=>(P.kd i v).nP.next) q ⟨H,vs⟩):=
 jt (iN h (iN (pd (kh hi hs)) rfl)) hq
theorem Ak{us ws:List V}(hl:us.length+ws.length<=1000000): P.bin .Add (.lst us) (.lst ws) ⟨H,vs⟩=.ok (.lst (us++ws)) ⟨H,vs⟩:=by unfold P.bin jz;exact if_pos hl
end
theorem sT{cap:List (Option (Nat×Bool))}{its:P (List V)}{ep:P V}{H:List AO}{vs:List Slot}{l:List Nat}{Ev:Nat->V}{s0 s1:Slot}(fr:List Slot)(hits:its ⟨H,vs⟩=.ok (l.map fun(k:Nat)=>V.int (k:Int)) ⟨H,vs⟩)(hcap:kI cap vs=s0::s1::fr)(hs:s1.nf=true)
  (he:∀k∈l,ep ⟨H,s0::.val (.int (k:Nat))::fr⟩=.ok (Ev k) ⟨H,s0::.val (.int (k:Nat))::fr⟩) (hl:l.length<=1000):P.comp cap its (fun x=>P.kd 1 x) (P.pure true) ep ⟨H,vs⟩=.ok (.lst (l.map Ev)) ⟨H,vs⟩:=
 (nZ (fun Y=>true) fr hits hcap hs (fun Y Y=>rfl) (fun k hk Y=>he k hk) (ab hl (by decide))).trans (by exact R1 (List.filter_eq_self.mpr fun Y Y=>rfl) rfl)
section
variable{Q:Res AF->Prop}{e:P V}{q p:P AF}{i:Nat}{v:V}{H H':List AO}{E:L0}{u:V->Slot}{J:Nat->Slot}{α:Type}{R:α->Prop}{f:α->V}
theorem Jx(hi:(E.v u J)[i]?=some (J i))(hn:(J i).nf=true)(hs:(E.v u J).set i (.val v)=E.v u (up J i v)): P.kd i v ⟨H,E.v u J⟩=.ok () ⟨H,E.v u (up J i v)⟩:=hs▸kh hi hn
theorem qH(h:e ⟨H,E.v u J⟩=.ok v ⟨H',E.v u J⟩)(hi:(E.v u J)[i]?=some (J i))(hn:(J i).nf=true)(hs:(E.v u J).set i (.val v)=E.v u (up J i v))(hq:Q (q ⟨H',E.v u (up J i v)⟩)): Q (P.seq (P.bind e fun v=>(P.kd i v).next) q ⟨H,E.v u J⟩):=la h hi hn (hs.symm▸hq)
theorem nO(h:∃a,R a/\e ⟨H,E.v u J⟩=.ok (f a) ⟨H,E.v u J⟩)(hi:(E.v u J)[i]?=some (J i))(hn:(J i).nf=true)(hs:∀v,(E.v u J).set i (.val v)=E.v u (up J i v))(hq:∀a,R a->Q (q ⟨H,E.v u (up J i (f a))⟩)): Q (P.seq (P.bind e fun v=>(P.kd i v).next) q ⟨H,E.v u J⟩):=by obtain⟨a,h1,h2⟩:=h;exact la h2 hi hn ((hs _).symm▸hq a h1)
theorem FK(h:e ⟨H,E.v u J⟩=.ok v ⟨H,E.v u J⟩)(hi:(E.v u J)[i]?=some (J i))(hn:(J i).nf=true)(hs:(E.v u J).set i (.val v)=E.v u (up J i v))(hq:Q (q ⟨H,E.v u (up J i v)⟩)): Q (P.seq (P.bind e fun v=>(P.kd i v).nP.next) q ⟨H,E.v u J⟩):=Db h hi hn (hs.symm▸hq)
theorem IE(h0:∃a,R a/\(E.v u J)[i]?=some (.val (f a)))(h:p ⟨H,E.v u J⟩=.ok .next ⟨H,E.v u J⟩\/∃a,R a/\p ⟨H,E.v u J⟩=.ok .next ⟨H,(E.v u J).set i (.val (f a))⟩)(hs:∀v,(E.v u J).set i (.val v)=E.v u (up J i v))(hq:∀a,R a->Q (q ⟨H,E.v u (up J i (f a))⟩)): Q (P.seq p q ⟨H,E.v u J⟩):=Kr h0 h fun a h=>(hs _).symm▸hq a h
end
noncomputable abbrev Ia:List (Nat×Nat):=[(1,2),(2,3),(4,1),(8,5)]
noncomputable abbrev eT(f:Int)(x:Nat)(p:Nat×Nat): Bool:=((f.fdiv (p.1:Int)).fmod 2 == 1)&&decide ((p.2:Int)<=(x:Int))
inductive O4(f:Int)(x:Nat): Prop
 |mk (l:List Nat) (h1:l.length<=4) (h2:∀e∈l,e<x) (h3:(Ia.filter (eT f x)).map (fun p=>V.int ((x:Int) - (p.2:Int)))=nats l)
theorem Jw(f:Int)(x:Nat): O4 f x:=by
 refine⟨(Ia.filter (eT f x)).map fun p=>x - p.2,ab (aE (ak ..)) (bJ _ _),fun e he=>?_,?_⟩
 .obtain⟨p,hp,rfl⟩:=bg.mp he;have hp:=bC.mp hp;have h1:∀p∈Ia,0<p.2:=by decide
  have h2:=dz.mp (of_decide_eq_true ((aW _ _).mp hp.2).2);exact gR (aD (h1 p hp.1) h2) (h1 p hp.1)
 .rewrite[nats];refine R1 bA ?_;refine bS fun p hp=>congrArg V.int (ct (dz.mp (of_decide_eq_true ((aW _ _).mp (bC.mp hp).2).2))).symm
theorem Lk{H:List AO}{vs:List Slot}{cap its test ep}{f:Int}{x:Nat}{us:List V}(hl:(Ia.filter (eT f x)).map (fun p=>V.int ((x:Int) - (p.2:Int)))=us)(h1:its ⟨H,vs⟩=.ok (Ia.map fun p=>.tup [.int (p.1:Nat),.int (p.2:Nat)]) ⟨H,vs⟩)(h2:kI cap vs=[.unset,.unset,.unset,.val (.int f),.val (.int (x:Nat))])
  (h3:∀p∈Ia,test ⟨H,[.unset,.val (.int (p.1:Nat)),.val (.int (p.2:Nat)),.val (.int f),.val (.int (x:Nat))]⟩=.ok (eT f x p) ⟨H,[.unset,.val (.int (p.1:Nat)),.val (.int (p.2:Nat)),.val (.int f),.val (.int (x:Nat))]⟩)
  (h4:∀p∈Ia,eT f x p=true->ep ⟨H,[.unset,.val (.int (p.1:Nat)),.val (.int (p.2:Nat)),.val (.int f),.val (.int (x:Nat))]⟩=.ok (.int ((x:Int) - (p.2:Int))) ⟨H,[.unset,.val (.int (p.1:Nat)),.val (.int (p.2:Nat)),.val (.int f),.val (.int (x:Nat))]⟩):P.mI cap its (fun x=>P.pair (fun x=>P.kd 1 x) (fun x=>P.kd 2 x) x) test (P.mU ep) ⟨H,vs⟩=.ok (.lst us) ⟨H,vs⟩:=hl▸
 Be (eT f x) (fun p=>[.unset,.val (.int (p.1:Nat)),.val (.int (p.2:Nat)),.val (.int f),.val (.int (x:Nat))]) (fun s=>∃s1 s2:Slot,s1.nf=true/\s2.nf=true/\s=[.unset,s1,s2,.val (.int f),.val (.int (x:Nat))]) h1 (h2▸⟨_,_,rfl,rfl,rfl⟩) (fun p=>⟨_,_,rfl,rfl,rfl⟩) (by rintro p _ ⟨s1,s2,q1,q2,rfl⟩;exact pP rfl q1 rfl q2) h3 h4 (by decide)
inductive OY(E:L0)(σ:AS): Prop
 |mk (W:W8) (J:Nat->Slot) (h1:nH J) (h2:Bw E.sb E.fs.length E.fs.length W) (h3:Bm E.md E.sb E.fs.length W) (h4:σ=⟨W.he E.kB,E.v .val J⟩)
inductive OZ(E:L0)(xs:List Nat)(σ:AS): Prop
 |mk (k:Nat) (W:W8) (J:Nat->Slot) (h1:xs=gF k (E.fs.length - k)) (h2:k<=E.fs.length) (h3:nH J) (h4:Bw E.sb E.fs.length k W) (h5:Bm E.md E.sb k W) (h6:σ=⟨W.he E.kB,E.v .val J⟩)
noncomputable def DG:{r:P AF // ∀{E:L0} {J:Nat->Slot} {Q:Res AF->Prop},nH J->JU E.fs->(∀W J,nH J->Bw E.sb E.fs.length E.fs.length W->Bm E.md E.sb E.fs.length W->Q (r ⟨W.he E.kB,E.v .val J⟩))->Q (DH.1 ⟨W0.he E.kB,E.v .val J⟩)}:=⟨_,by
 intro E J Q hJ hfs hrest;delta DH;dsimp only;refine ou (OY E) (fun Y=>False) (fun Q hQ Y=>?_) (by rintro σ ⟨W,J,h1,h2,h3,rfl⟩;exact hrest W J h1 h2 h3) fun Y h=>h.elim;refine mt (g:=fun(i:Nat)=>V.int (i:Int)) (xs:=aX E.fs.length) (OZ E) ⟨0,W0,J,List.range_eq_range',bt _,hJ,G5 _ _,G6 _ _,rfl⟩ (lK (ab hfs.hi (by decide)) rfl) ?_ ?_
 .rintro x xs σ ⟨k,W,J,hxs,hk,hJ,B,M,rfl⟩;obtain⟨rfl,hkn,hxs⟩:=C8 hxs;have GE:x<14:=aD hkn hfs.hi;have NG:=hfs.all _ (getD_mem (d:=0) hkn);refine kW (Jx rfl (hJ 18) rfl) (qH (iN rfl (iN rfl (lb oZ (int_at hkn)))) rfl (hJ 19) rfl ?_);generalize E.fs.getD x 0=f at NG;refine nO (f:=V.int) (R:=fun Y=>True) ⟨_,trivial,iN (iN (iN rfl rfl) (iN rfl rfl)) (iN rfl rfl)⟩ rfl (hJ 20) (fun Y=>rfl) fun sg Y=>?_;refine nO (f:=V.int) (R:=fun z=>0<=z) ⟨_,cA _ (by decide),iN (iN (iN rfl rfl) (iN (iN rfl (iN rfl (kc (Dl NG)))) rfl)) (iN rfl rfl)⟩ rfl (hJ 21) (fun Y=>rfl) fun sp hsp=>?_;refine nO (f:=V.bytes) (R:=Ma E.md x) ?_ rfl (hJ 22) (fun Y=>rfl) fun nm hfm=>?_
  .cases h:(E.md == 1) with
   |true=>
    have hc:code E.md x=122 - x:=if_pos (eq_of_beq h);have e1:(122:Int) - x=((122 - x:Nat):Int):=(ct (ab (aG GE) (by decide))).symm;exact⟨_,⟨97,by decide,by decide,rfl⟩,oh (iN rfl (iN rfl (congrArg (Res.ok · _) h))) (iN rfl (xf (l:=[97,122 - (x:Int)]) (((congrArg (fun z=>P.bytesOf [97,z]) e1).trans (EI (a:=97) (by decide) (ag (db _ _) (by decide)))).trans (by exact R1 hc rfl))))⟩
   |false=>
    have hc:code E.md x=97+x:=if_neg (ne_of_beq_false h);obtain⟨m,hm⟩:=cQ (cA (f.fdiv 128) (show(0:Int)<4 by decide));have NC:m<4:=bD.mp (hm▸dv (f.fdiv 128) (show(0:Int)<4 by decide));exact⟨_,⟨97+m,ay _ _,aC (bz NC) 97,rfl⟩,lP (iN rfl (iN rfl (congrArg (Res.ok · _) h))) (iN rfl (xf (l:=[97+(f.fdiv 128).fmod 4,97+(x:Int)]) (((congrArg (fun z=>P.bytesOf [97+z,97+(x:Int)]) hm).trans (EI (a:=97+m) (b:=97+x) (aF (ch NC 97) (by decide)) (aF (ch GE 97) (by decide)))).trans (by exact R1 hc rfl))))⟩
  obtain⟨l,HH,hlx,hl⟩:=Jw f x;have hb:∀p∈Ia,0<(p.1:Int)/\(p.1:Int)<1073741824:=by decide
  refine FK (Lk hl rfl rfl (fun p hp=>lZ (iN (iN (iN rfl (iN rfl (kc (if_pos (hb p hp))))) rfl) rfl) fun Y=>ly rfl rfl) (fun p Y Y=>rfl)) rfl (hJ 23) rfl ?_;refine nO (f:=V.int) (R:=fun z=>0<=z) (GW (iN (iN (iN (sT [.val (.ref 3)] rfl rfl rfl (fun e he=>iN rfl (iN rfl (lb (kr rfl) (int_at (M.l3.symm▸hlx e he))))) (ab HH (by decide))) (iN rfl ((Ak (us:=l.map fun e=>V.int (W.cl.getD e 0)) (ws:=[.int 0]) (by refine R1 (ak ..) ?_;exact ab (aO HH 1) (by decide))).trans (congrArg (Res.ok · _) (congrArg (fun r=>V.lst (r++[V.int 0])) (bA (f:=fun e=>W.cl.getD e 0) (g:=V.int) (l:=l)).symm))))) (congrArg (fun r=>Res.ok [V.lst r] _) (rq _ 0))) (xf (v:=.int (Do ((l.map fun e=>W.cl.getD e 0)++[0]))) (if_neg (cF _ (bn _ _))))) (F7 (aj _ ac)) ?_) rfl (hJ 25) (fun Y=>rfl) fun z hz=>?_
  .cases h:(E.md == 1) with
   |true=>exact⟨_,gP hsp (by decide),oh (iN rfl (iN rfl (congrArg (Res.ok · _) h))) (iN rfl rfl)⟩
   |false=>exact⟨_,fG (by decide) hsp,lP (iN rfl (iN rfl (congrArg (Res.ok · _) h))) (iN rfl rfl)⟩
  obtain⟨w,hw,hab⟩:=Lm E.hd;refine qH (iN (iN (iN rfl (hab _)) rfl) rfl) rfl (hJ 26) rfl ?_;refine IE (i:=26) (f:=V.int) (R:=fun t=>0<=t) ⟨_,fG (gP hw (show(0:Int)<=64 by decide)) hz,rfl⟩ ?_ (fun Y=>rfl) fun t ht=>?_
  .cases h:(E.md == 2) with
   |true=>exact .inr ⟨sp,hsp,oh (iN rfl (iN rfl (congrArg (Res.ok · _) h))) (iN rfl (iN (kh rfl rfl) rfl))⟩
   |false=>
    have hm:binI .Mod E.tot (E.fs.length:Int)=some (E.tot.fmod (E.fs.length:Int)):=if_pos (bD.mpr (aD (by decide) hfs.lo));cases h2:((E.md == 3)&&((x:Int) == E.tot.fmod (E.fs.length:Int))) with
    |true=>exact .inr ⟨w,hw,lP (iN rfl (iN rfl (congrArg (Res.ok · _) h))) (oh (lc (lZ (iN rfl (iN rfl rfl)) fun Y=>ly (iN rfl (iN (iN rfl (iN rfl (kc hm))) rfl)) rfl) h2) (iN (iN rfl (hab _)) (iN (kh rfl rfl) rfl)))⟩
    |false=>exact .inl (lP (iN rfl (iN rfl (congrArg (Res.ok · _) h))) (lP (lc (lZ (iN rfl (iN rfl rfl)) fun Y=>ly (iN rfl (iN (iN rfl (iN rfl (kc hm))) rfl)) rfl) h2) rfl))
  refine nO (f:=V.bool) (R:=fun mb=>(E.sb=false->mb=false)/\(E.sb=true->x=1->mb=true)) ⟨E.sb&&(((x:Int) == 1) || sg == 5),⟨fun h=>by exact R1 h rfl,fun h h'=>by exact R1 h (R1 h' rfl)⟩,Aj rfl (HS (iN rfl rfl) (iN rfl rfl))⟩ rfl (hJ 27) (fun Y=>rfl) fun mb hm=>?_;refine nO (f:=V.bool) (R:=fun aw=>E.sb=false->aw=false) ⟨E.sb&&(((x:Int) == 0) || (f.fdiv 128).fmod 8 == 7),fun h=>by exact R1 h rfl,Aj rfl (HS (iN rfl rfl) (iN (iN (iN rfl rfl) rfl) rfl))⟩ rfl (hJ 28) (fun Y=>rfl) fun aw haw=>?_;refine nO (f:=V.bool) (R:=fun tn=>E.sb=false->tn=false) ⟨E.sb&&sg == 6,fun h=>by exact R1 h rfl,Aj rfl (iN (iN rfl rfl) rfl)⟩ rfl (hJ 29) (fun Y=>rfl) fun tn htn=>?_;have hx:∀{m:Nat},m<=x->m<100000:=fun h=>ag h (aF GE (by decide));refine IG (g:=fun ma=>({W with ma:=ma}:W8).he E.kB) (R:=fun ma=>ma=if mb=true then W.ma++[nm] else W.ma) ?_ fun ma hma=>?_
  .cases mb with
   |true=>exact⟨_,rfl,oh rfl (oE rfl rfl rfl (hx (ab (aE (ak ..)) M.l6)) (by exact R1 (wB ..) rfl))⟩
   |false=>exact⟨_,rfl,lP rfl rfl⟩
  refine IG (g:=fun l'=>({W with kk:=W.kk++[l'],ma:=ma}:W8).he E.kB) (R:=fun l'=>l'=if(mb || (aw || tn))=true then [] else l) ?_ fun l' hl'=>?_
  .have hk2:(yk W.kk).length<100000:=hx (aE ((ak ..).trans B.l2));cases h:(mb || (aw || tn)) with
   |true=>exact⟨_,rfl,oh (lc (mC rfl fun Y=>mC rfl fun Y=>lC rfl rfl) h) (oE rfl (v:=.lst (nats [])) rfl rfl hk2 (by exact R1 (wN ..) rfl))⟩
   |false=>exact⟨_,rfl,lP (lc (mC rfl fun Y=>mC rfl fun Y=>lC rfl rfl) h) (oE rfl rfl rfl hk2 (by exact R1 (wN ..) rfl))⟩
  have K0:l'.length<=4:=by
   refine R1 hl' ?_;split
   .exact bt _
   .exact HH
  have KY:∀e∈l',e<x:=by
   refine R1 hl' ?_;split
   .exact fun e he=>(nomatch he)
   .exact hlx
  have hnm:∀e∈l',(nms W.nn)[e]?=some (.bytes (kH W.nn e)):=fun e he=>yd (B.l1.symm▸KY e he);have hti:W.ti.length<100000:=hx M.t7;have hfo:W.fo.length<100000:=hx M.f7;refine IG (g:=fun fo=>({W with kk:=W.kk++[l'],ma:=ma,ti:=if aw=true then W.ti else lf W.ti nm (.int t),fo:=fo}:W8).he E.kB) (R:=fun fo=>(aw=false/\fo=lf W.fo nm (.lst (nms (l'.map (kH W.nn)))))\/((E.sb=true\/x=E.fs.length)/\l'=[]/\fo=W.fo)) ?_ fun fo hfo=>?_
  .have LV:∀{b:Bool},(E.sb=false->b=false)->b=true->E.sb=true:=fun h hb=>by
    cases hs:E.sb with
    |true=>rfl
    |false=>rw[h hs] at hb;cases hb
   cases aw with
   |true=>exact⟨_,.inr ⟨.inl (LV haw rfl),hl'.trans (if_pos (cN mb)),rfl⟩,lP rfl rfl⟩
   |false=>
    have hkx:(yk (W.kk++[l']))[x]?=some (.lst (nats l')):=(wM (by refine R1 ar (R1 B.l2 ?_);exact bB x)).trans (by exact R1 (tW B.l2) rfl);have e7:∀vs,P.setItem (.ref 7) (.bytes nm) (.int t) ⟨({W with kk:=W.kk++[l'],ma:=ma}:W8).he E.kB,vs⟩=.ok () ⟨({W with kk:=W.kk++[l'],ma:=ma,ti:=lf W.ti nm (.int t)}:W8).he E.kB,vs⟩:=fun vs=>Em rfl hti;have e8:∀vs,P.setItem (.ref 8) (.bytes nm) (.lst (nms (l'.map (kH W.nn)))) ⟨({W with kk:=W.kk++[l'],ma:=ma,ti:=lf W.ti nm (.int t)}:W8).he E.kB,vs⟩=.ok () ⟨({W with kk:=W.kk++[l'],ma:=ma,ti:=lf W.ti nm (.int t),fo:=lf W.fo nm (.lst (nms (l'.map (kH W.nn))))}:W8).he E.kB,vs⟩:=fun vs=>Em rfl hfo;cases h:(mb || !tn) with
    |true=>
     refine⟨_,.inl ⟨rfl,rfl⟩,oh rfl (oD (iN rfl (iN rfl (iN rfl (iN (e7 _) rfl)))) (oh (lc (mC rfl fun Y=>lC rfl rfl) h) (iN (sT (l:=l') (Ev:=fun e=>.bytes (kH W.nn e)) [.val (.ref 1)] (iN (iN rfl (iN rfl (lb (kr rfl) hkx))) rfl) rfl rfl (fun e he=>iN rfl (iN rfl (lb (kr rfl) (hnm e he)))) (ab K0 (by decide))) (iN rfl (iN rfl (iN ((congrArg (P.setItem _ _ · _) (congrArg V.lst (bA (f:=kH W.nn) (g:=V.bytes) (l:=l')).symm)).trans (e8 _)) rfl))))))⟩
    |false=>
     have hmt:=(fH).mp h;have ht':tn=true:=by rw[cY] at hmt;exact hmt.2
     exact⟨_,.inr ⟨.inl (LV htn ht'),hl'.trans (if_pos (by rw[ht',cN,cN])),rfl⟩,oh rfl (oD (iN rfl (iN rfl (iN rfl (iN (e7 _) rfl)))) (lP (lc (mC rfl fun Y=>lC rfl rfl) h) rfl))⟩
  generalize hti:(if aw=true then W.ti else lf W.ti nm (.int t))=ti
  have LV:aw=true->E.sb=true:=fun hb=>by
   cases hs:E.sb with
   |true=>rfl
   |false=>rw[haw hs] at hb;cases hb
  refine jt (oE rfl rfl rfl (hx (aE ((ak ..).trans B.l1))) (by exact R1 (wB ..) rfl) (H':=({W with nn:=W.nn++[nm],kk:=W.kk++[l'],ma:=ma,ti:=ti,fo:=fo}:W8).he E.kB)) ?_;refine jt (oE rfl rfl rfl (hx (aE ((ak ..).trans M.l3))) (by exact R1 (rq ..) rfl) (H':=({W with nn:=W.nn++[nm],kk:=W.kk++[l'],cl:=W.cl++[z],ma:=ma,ti:=ti,fo:=fo}:W8).he E.kB)) ?_;refine jt (oE (v:=.int (if aw=true then 0 else t)) rfl (iN (Ci (c:=aw) rfl (fun h=>by rw[if_pos h];rfl) fun h=>by rw[if_neg (by rw[h];decide)];rfl) rfl) rfl (hx (aE ((ak ..).trans B.l4))) (by rw[rq];rfl) (H':=({W with nn:=W.nn++[nm],kk:=W.kk++[l'],cl:=W.cl++[z],ss:=W.ss++[if aw=true then 0 else t],ma:=ma,ti:=ti,fo:=fo}:W8).he E.kB)) ?_;refine kM (oE rfl rfl rfl (hx (aE ((ak ..).trans B.l5))) (by exact R1 (Bn ..) rfl) (H':=(W8.mk (W.nn++[nm]) (W.kk++[l']) (W.cl++[z]) (W.ss++[if aw=true then 0 else t]) (W.gg++[aw]) ma ti fo).he E.kB)) (mi ⟨x+1,_,_,hxs,hkn,nH.up (nH.up (nH.up (nH.up (nH.up (nH.up (nH.up (nH.up (nH.up (nH.up (nH.up (nH.up hJ _ _) _ _) _ _) _ _) _ _) _ _) _ _) _ _) _ _) _ _) _ _) _ _,B.add (M.fresh (bi GE) hfm) K0 KY ?_ (by refine R2 hti ?_;cases aw<;>rfl) hfo (fun h=>⟨if_pos h,.inl (LV h)⟩),M.add hfm hma hm.2 hm.1 ?_ ?_,rfl⟩)
  .split
   .exact dT 0
   .exact ht
  .refine R2 hti ?_;split
   .exact bU _
   .exact nb _ _ _
  .rcases hfo with h | h
   .refine R1 h.2 ?_;exact nb _ _ _
   .refine R1 h.2.2 ?_;exact bU _
 .rintro σ ⟨k,W,J,hxs,hk,hJ,B,M,rfl⟩
  have hk:k=E.fs.length:=cJ hk (fq (by have:=congrArg cB hxs;rw[List.length_range'] at this;exact this.symm))
  exact hQ _ ⟨W,J,hJ,hk▸B,hk▸M,rfl⟩⟩
theorem tH(l:List Nat)(x:Nat): nats l++[.int (x:Int)]=nats (l++[x]):=by rewrite[nats,nats];exact R1 aS rfl
theorem map_getD(f:List Nat->Nat)(l:List (List Nat)): ((aX l.length).map fun k=>f (l.getD k []))=l.map f:=by refine gm ((ak ..).trans ((br ..).trans (ak ..).symm)) fun i h1 h2=>?_;refine R1 (gD ..) (R1 (gD ..) (R1 (List.getElem_range ..) ?_));exact congrArg f (aq.inj ((nY (d:=[]) ((ak (as:=l) f)▸h2)).symm.trans (az _)))
theorem nH.ups{J:Nat->Slot}(h:nH J)(i:Nat){s:Slot}(hs:s.nf=true): nH (ups J i s):=fun j=>by
 show(if j=i then s else J j).nf=true;split
 .exact hs
 .exact h j
noncomputable def rr(a b:V)(J:Nat->Slot): Nat->Slot:=up (up (up J 30 a) 31 b) 32 (.ref 9)
noncomputable def DE:{r:P AF // ∀{E:L0} {J:Nat->Slot} {W:W8} {Q:Res AF->Prop},nH J->JU E.fs->Bw E.sb E.fs.length E.fs.length W->Bm E.md E.sb E.fs.length W->
  (∀W J,nH J->Bz E.sb E.fs.length W->Bm E.md E.sb E.fs.length ⟨[],[],W.cl,[],[],W.ma,W.ti,W.fo⟩->Q (r ⟨W.he E.kB++[.list (nats (W.kk.map (road W.gg)))],E.v .val (rr (.lst (rks (zE E.fs.length W))) (.int (every (E.fs.length+1):Nat)) J)⟩))->Q (DG.1 ⟨W.he E.kB,E.v .val J⟩)}:=⟨_,by
 intro E J W Q hJ hfs B M hrest;have z0:=hfs.hi;have hx:∀{m:Nat},m=E.fs.length->m<100000:=fun h=>ag (aE h) (ag z0 (by decide));delta DG;dsimp only;refine jt (oE rfl rfl rfl (hx ((ak ..).trans B.l1)) (by exact R1 (wB ..) rfl) (H':=({W with nn:=W.nn++[[122,122]]}:W8).he E.kB)) ?_;refine jt (oE (v:=.lst (nats [])) rfl rfl rfl (hx ((ak ..).trans B.l2)) (by exact R1 (wN ..) rfl) (H':=({W with nn:=W.nn++[[122,122]],kk:=W.kk++[[]]}:W8).he E.kB)) ?_;refine jt (oE rfl rfl rfl (hx ((ak ..).trans B.l4)) (by exact R1 (rq ..) rfl) (H':=({W with nn:=W.nn++[[122,122]],kk:=W.kk++[[]],ss:=W.ss++[0]}:W8).he E.kB)) ?_;refine jt (oE rfl rfl rfl (hx ((ak ..).trans B.l5)) (by exact R1 (Bn ..) rfl) (H':=(W8.mk (W.nn++[[122,122]]) (W.kk++[[]]) W.cl (W.ss++[0]) (W.gg++[true]) W.ma W.ti W.fo).he E.kB)) ?_;have B:=B.fin M;have hrest:=hrest (W8.mk (W.nn++[[122,122]]) (W.kk++[[]]) W.cl (W.ss++[0]) (W.gg++[true]) W.ma W.ti W.fo);have M:Bm E.md E.sb E.fs.length ⟨[],[],W.cl,[],[],W.ma,W.ti,W.fo⟩:=⟨M.l3,M.l6,M.t7,M.f7,M.mark,M.zN,fun Y h=>nomatch h⟩;have hrest:=fun J hJ=>hrest J hJ B M;clear M;generalize W8.mk (W.nn++[[122,122]]) (W.kk++[[]]) W.cl (W.ss++[0]) (W.gg++[true]) W.ma W.ti W.fo=W at B hrest ⊢;refine qH (v:=.lst (rks (zE E.fs.length W))) (lc (sT (l:=aX (E.fs.length+1)) (Ev:=fun k=>AI (-(W.ss.getD k 0),kH W.nn k)) [.val (.ref 1),.val (.ref 4)] (lK (n:=E.fs.length+1) (ab (bc z0) (by decide)) rfl) rfl rfl (fun k hk=>?_) ((br ..).symm▸ab (bc z0) (by decide))) (congrArg V.lst (bA (f:=fun k=>(-(W.ss.getD k 0),kH W.nn k)) (g:=AI) (l:=aX (E.fs.length+1))).symm)) rfl (hJ 30) rfl ?_
 .have hk:=a6.mp hk;exact iN (iN (iN (iN rfl (iN rfl (lb (kr rfl) (int_at (B.bw.l4.symm▸hk))))) rfl) (iN (iN (iN rfl (iN rfl (lb (kr rfl) (yd (B.bw.l1.symm▸hk))))) rfl) rfl)) rfl
 refine qH (iN (iN rfl (iN (iN rfl rfl) (kc (lB (E.fs.length+1) (ab (bc z0) (by decide)))))) (iN rfl (kc (Ax _)))) rfl (hJ 31) rfl ?_;refine qH (H':=W.he E.kB++[.list (nats [])]) (v:=.ref 9) rfl rfl (hJ 32) rfl ?_;have Jh:E.fs.length+1<=100000:=ab (bc z0) (by decide);refine ou (fun σ=>∃J,nH J/\σ=⟨W.he E.kB++[.list (nats (W.kk.map (road W.gg)))],E.v .val (rr (.lst (rks (zE E.fs.length W))) (.int (every (E.fs.length+1):Nat)) J)⟩) (fun Y=>False) (fun Q hQ Y=>?_) (by rintro σ ⟨J,hJ,rfl⟩;exact hrest J hJ) fun Y h=>h.elim;refine mt (g:=fun(i:Nat)=>V.int (i:Int)) (xs:=aX (E.fs.length+1)) (fun xs σ=>∃d J,aX (E.fs.length+1)=d++xs/\nH J/\σ=⟨W.he E.kB++[.list (nats (d.map fun k=>road W.gg (W.kk.getD k [])))],E.v .val (rr (.lst (rks (zE E.fs.length W))) (.int (every (E.fs.length+1):Nat)) J)⟩) ⟨[],J,rfl,hJ,rfl⟩ (lK (n:=E.fs.length+1) Jh rfl) ?_ ?_
 .rintro k xs σ ⟨d,J,hd,hJ,rfl⟩;have hk:k<E.fs.length+1:=a6.mp (hd▸aj _ ac)
  have hdl:d.length<=E.fs.length+1:=by have:=congrArg cB hd;rw[br,ar] at this;exact this▸ay _ _
  refine kW (σ1:=⟨_,E.v .val (rr (.lst (rks (zE E.fs.length W))) (.int (every (E.fs.length+1):Nat)) (up J 18 (.int k)))⟩) (kh rfl (hJ 18)) ?_;refine jt (σ1:=⟨_,E.v .val (rr (.lst (rks (zE E.fs.length W))) (.int (every (E.fs.length+1):Nat)) (up (up J 18 (.int k)) 33 (.int (0:Nat))))⟩) (iN rfl (iN (kh rfl (hJ 33)) rfl)) ?_;refine rO (xs:=W.kk.getD k []) (g:=fun(e:Nat)=>V.int (e:Int)) (st:=fun(r:Nat) s=>⟨W.he E.kB++[.list (nats (d.map fun k=>road W.gg (W.kk.getD k [])))],E.v .val (rr (.lst (rks (zE E.fs.length W))) (.int (every (E.fs.length+1):Nat)) (ups (up (up J 18 (.int k)) 33 (.int r)) 24 s))⟩) (step:=fun r e=>if W.gg.getD e false=true then r else r|||1<<<e) 0 (s:=J 24) (iN (iN rfl (iN rfl (lb (kr rfl) (wM (B.bw.l2.symm▸hk))))) rfl) (hJ 24) (fun e he r s hs=>?_) fun s hs=>?_
  .have he:e<E.fs.length+1:=aF (B.sF k e he) hk;refine iN (kh rfl hs) (Ci (c:=!W.gg.getD e false) (mu (iN (iN rfl (iN rfl (lb (kr rfl) (EK (B.bw.l5.symm▸he))))) rfl)) (fun h=>?_) fun h=>?_)
   .rw[if_neg (by rw[bx] at h;rw[h];decide)];exact iN (iN rfl (iN (iN rfl (iN rfl (kc (lB e (ab (aG he) (ab (bc z0) (by decide))))))) (kc (pE _ _)))) (iN (kh rfl rfl) rfl)
   .exact R1 (if_pos (by rw[cY] at h;exact h)) rfl
  .refine kM (oE rfl rfl rfl (by refine R1 (oy ..) (R1 (ak ..) ?_);exact ag hdl (ag (bc z0) (by decide))) (congrArg (fun l=>W.he E.kB++[AO.list l]) ((tH _ _).trans (congrArg nats (aS (f:=fun k=>road W.gg (W.kk.getD k [])) (l₂:=[k])).symm)))) (mi ⟨d++[k],_,hd.trans (ax d [k] xs).symm,nH.ups ((hJ.up _ _).up _ _) 24 hs,rfl⟩)
 .rintro σ ⟨d,J,hd,hJ,rfl⟩;rw[ba] at hd;subst hd;refine hQ _ ⟨J,hJ,?_⟩;exact R2 B.bw.l2 (R1 (map_getD ..) rfl)⟩
structure Wl where
 E:L0
 W:W8
 sh:V
structure Wl.Ok(X:Wl): Prop where
 f:JU X.E.fs
 B:Bz X.E.sb X.E.fs.length X.W
 sh:(X.sh=.none/\X.E.sb=false)\/X.sh=.fset (!X.E.sb)
namespace Wl
variable(X:Wl)
noncomputable abbrev n:Nat:=X.E.fs.length
noncomputable abbrev rs:List Nat:=X.W.kk.map (road X.W.gg)
noncomputable abbrev rk:List (Int×Nm):=zE X.E.fs.length X.W
noncomputable def he(L:List AO): List AO:=X.W.he X.E.kB++.list (nats X.rs)::L
noncomputable def J(ids:V)(J:Nat->Slot): Nat->Slot:=up (up (up (up (up (rr (.lst (rks X.rk)) (.int (every (X.n+1):Nat)) J) 34 X.sh) 35 (.clo 1 [.ref 8])) 36 (.clo 2 [.ref 7])) 37 (.lst ((plans X.n).map fun p=>.lst (nats p)))) 38 ids
noncomputable def σ(L:List AO)(ids:List Nat)(J:Nat->Slot): AS:=⟨X.he L,X.E.v .o7 (X.J (.lst (nats ids)) J)⟩
end Wl
theorem Jy{H:List AO}{vs:List Slot}{n:Nat}{l:List Nm}(h:H[n]?=some (.list (nms l)))(hl:l.length<100): P.setC [.ref n] ⟨H,vs⟩=.ok (.fset (nms l).isEmpty) ⟨H,vs⟩:=by unfold P.setC P.AE;dsimp only;refine R1 (mB h) ?_;exact if_pos ⟨(fb (f:=V.bytes)).trans (bl.mpr fun Y Y=>rfl),by refine R1 (ak ..) ?_;exact aF hl (by decide)⟩
theorem vY{c j k:Nat}(h:j+k<=c): ((c:Int) - j) - k=((c - (j+k):Nat):Int):=by refine R1 (Int.sub_sub ..) ?_;exact(ct h).symm
theorem Eu{H:List AO}{vs vs':List Slot}{k j i:Nat}{v:V}{s:Slot}(h:vs[j]?=some (.val v))(hi:(vs.set j (.o7 v))[i]?=some s)(hs:s.nf=true)(e:(vs.set j (.o7 v)).set i (.val (.clo k [v]))=vs'): P.def1 k j (fun x=>P.kd i x) ⟨H,vs⟩=.ok .next ⟨H,vs'⟩:=by unfold P.def1;dsimp only;refine R1 h ?_;dsimp only;exact R1 (kh hi hs) (R1 e rfl)
noncomputable def Nn(m:Int): List (List Int):=[[m,m - 1],[m,m - 1,m - 2],[m - 2,m,m - 1],[0,m,m - 1],[m,m - 1,m],[m - 1,m - 2,m - 3],[m - 2,m,m - 1,1],[1,m]]
theorem IM{c:Nat}(h:4<=c): (Nn ((c:Int) - 1)).map (fun p=>V.lst (oB p))=(plans c).map fun p=>.lst (nats p):=by have e1:((c:Int) - 1)=((c - 1:Nat):Int):=(ct (ab (by decide) h)).symm;have e2:=vY (c:=c) (j:=1) (k:=1) (ab (by decide) h);have e3:=vY (c:=c) (j:=1) (k:=2) (ab (by decide) h);have e4:=vY (c:=c) (j:=1) (k:=3) h;show [V.lst [.int _,.int (_ - 1)],.lst [.int _,.int (_ - 1),.int (_ - 2)],.lst [.int (_ - 2),.int _,.int (_ - 1)],.lst [.int 0,.int _,.int (_ - 1)],.lst [.int _,.int (_ - 1),.int _],.lst [.int (_ - 1),.int (_ - 2),.int (_ - 3)],.lst [.int (_ - 2),.int _,.int (_ - 1),.int 1],.lst [.int 1,.int _]]=_;exact R1 (show((c:Int) - 1) - 1=_ from e2) (R1 (show((c:Int) - 1) - 2=_ from e3) (R1 (show((c:Int) - 1) - 3=_ from e4) (R1 e1 rfl)))
noncomputable def DC:{r:P AF // ∀{E:L0} {J:Nat->Slot} {W:W8} {Q:Res AF->Prop},nH J->JU E.fs->Bz E.sb E.fs.length W->Bm E.md E.sb E.fs.length ⟨[],[],W.cl,[],[],W.ma,W.ti,W.fo⟩->
  (∀(X:Wl) J,X.Ok->nH J->∀p∈plans X.n,Q (r (X.σ [] p J)))->Q (DE.1 ⟨W.he E.kB++[.list (nats (W.kk.map (road W.gg)))],E.v .val (rr (.lst (rks (zE E.fs.length W))) (.int (every (E.fs.length+1):Nat)) J)⟩)}:=⟨_,by
 intro E J W Q hJ hfs B M hrest;delta DE;dsimp only;refine nO (f:=fun v=>v) (R:=fun sh=>(sh=.none/\E.sb=false)\/sh=.fset (!E.sb)) ?_ rfl (hJ 34) (fun Y=>rfl) fun sh hsh=>?_
 .cases h:(E.sb || ((oB E.script).length:Int).fmod 2 == 0) with
  |true=>
   have he:(nms W.ma).isEmpty=!E.sb:=by
    cases hs:E.sb with
    |true=>
     have hne:=M.mark hs (ab (by decide) hfs.lo);cases hm:W.ma with
     |nil=>exact(hne hm).elim
     |cons _ _=>rfl
    |false=>
     have hm:W.ma=[]:=M.zN hs;exact R1 hm rfl
   exact⟨_,.inr (congrArg V.fset he),oh (lc (mC rfl fun Y=>lC (iN (iN (iN rfl rfl) (iN rfl rfl)) rfl) rfl) h) (iN rfl (Jy rfl (ag (ab M.l6 hfs.hi) (by decide))))⟩
  |false=>exact⟨_,.inl ⟨rfl,((fH).mp h).1⟩,lP (lc (mC rfl fun Y=>lC (iN (iN (iN rfl rfl) (iN rfl rfl)) rfl) rfl) h) rfl⟩
 refine jt (Eu rfl rfl (hJ 35) rfl) (jt (Eu rfl rfl (hJ 36) (vs':=E.v .o7 (up (up (up (rr (.lst (rks (zE E.fs.length W))) (.int (every (E.fs.length+1):Nat)) J) 34 sh) 35 (.clo 1 [.ref 8])) 36 (.clo 2 [.ref 7]))) rfl) ?_);refine qH (v:=.lst ((plans E.fs.length).map fun p=>.lst (nats p))) (lc (a:=.lst ((Nn ((E.fs.length:Int) - 1)).map fun p=>V.lst (oB p))) rfl (congrArg V.lst (IM hfs.lo))) rfl (hJ 37) rfl ?_;obtain⟨m,hm⟩:=cQ (cA E.tot (show(0:Int)<8 by decide));have NB:m<(plans E.fs.length).length:=bD.mp (hm▸dv E.tot (show(0:Int)<8 by decide));refine qH (iN rfl (iN (iN rfl (iN rfl (kc (congrArg some hm)))) (lb (us:=(plans E.fs.length).map fun p=>V.lst (nats p)) oZ ((aN ..).trans (congrArg (gS _) (nY (d:=[]) NB)))))) rfl (hJ 38) rfl ?_;exact hrest ⟨E,W,sh⟩ J ⟨hfs,B,hsh⟩ hJ _ (getD_mem NB)⟩
theorem FI{rs rs':List Nat}(h:∀k e,e∈lu rs k->e∈lu rs' k){x y:Nat}(w:RR rs x y): RR rs' x y:=by
 induction w with
 |refl _=>exact .refl trivial
 |step w hz _ ih=>exact .step ih (h _ _ hz) trivial
section
variable{G:GD}{rs:List Nat}{rk:List (Int×Nm)}{nm:Nat->Nm}
theorem sO(kn:Kn G rs.length nm)(hs:G.k6=false){k:Nat}{cs:List Nat}{r:List Nm}(hk:k<rs.length)(hc:∀c∈cs,c<rs.length)(hz:k=rs.length - 1\/rs.length - 1∈cs)(h:vP G (nm k) (cs.map nm) (some r)): False:=by
 rcases h.1 with h | h
 .rw[hs] at h;cases h
 .have no:¬ (G.time (nm (rs.length - 1))).isSome=true:=fun q=>(kn hs _ (by exact dZ hk)).mp q rfl;rcases hz with rfl | hz
  .exact no (h _ (.inl rfl))
  .exact no (h _ (.inr (aQ hz)))
theorem IY(W:Wo G rs rk nm)(kn:Kn G rs.length nm)(hN:rs.length<60){k:Nat}{cs:List Nat}(hk:k<rs.length)(hc:∀c∈cs,c<rs.length)(hne:cs≠[]){res:Option (List Nm)}(h:MB G ((k::cs).map nm) res):
  (k∈cs->res=some [nm k])/\(k∉cs->(rs.length - 1∈k::cs/\G.k6=false->res=none)/\(¬ (rs.length - 1∈k::cs/\G.k6=false)->∃spots,res=some (spots.map nm)/\(∀x∈spots,x<rs.length)/\∀two:Nat,(∀x,two.testBit x=true↔x∈cs)->uH spots rs rk (1<<<k) two)):=by
 have hin:nm k∈cs.map nm↔k∈cs:=by rw[bg];exact⟨fun⟨c,h1,h2⟩=>by refine R2 (W.inj _ _ (hc c h1) hk h2) ?_;exact h1,fun h=>⟨k,h,rfl⟩⟩
 have h:if nm k∈cs.map nm then res=some [nm k] else vP G (nm k) (cs.map nm) res:=by
  cases cs with
  |nil=>exact(hne rfl).elim
  |cons d cs=>exact h
 constructor
 .intro hkc;rw[if_pos (hin.mpr hkc)] at h;exact h
 .intro hkc;rw[if_neg fun q=>hkc (hin.mp q)] at h;constructor
  .rintro⟨hz,hs⟩;cases res with
   |none=>rfl
   |some r=>
    refine(sO kn hs hk hc ?_ h).elim;rcases av.mp hz with e | e
    .exact .inl e.symm
    .exact .inr e
  .intro hno;cases res with
   |none=>
    obtain⟨h1,h2⟩:=rm kn hk hc h;refine(hno ⟨?_,h1⟩).elim;rcases h2 with e | e
    .refine R2 e ?_;exact ac
    .exact ad _ e
   |some r=>
    obtain⟨spots,rfl,h1,F,_,h3⟩:=pI W kn hk hc h;exact⟨spots,rfl,h1,fun two h2=>yA W.gr hk hc h2 F hN (xQ W h1 h3)⟩
theorem I7(W:Wo G rs rk nm)(kn:Kn G rs.length nm){ids:List Nat}(oC:∀c∈ids,c<rs.length)(hn:ids.Nodup)(h2:∀x∈ids,∃y∈ids,x≠y){res:Option (List Nm)}(h:IN G (ids.map nm) res):
  (rs.length - 1∈ids/\G.k6=false->res=none)/\(¬ (rs.length - 1∈ids/\G.k6=false)->∃keep:Nm->Bool,res=some ((ids.map nm).filter keep)/\∀a∈ids,(keep (nm a)=false->∃b∈ids,b≠a/\(dn (1<<<b) rs (every rs.length)).testBit a=true)/\
   (keep (nm a)=true->∀b∈ids,b≠a->al a (1<<<a) (1<<<b) rs rk=false)):=by
 have hnn:(ids.map nm).Nodup:=c8.mpr (hn.imp_of_mem fun{a b} ha hb hne e=>hne (W.inj _ _ (oC a ha) (oC b hb) e))
 have mb:∀{a b:Nat} {res:Option (List Nm)},a∈ids->b∈ids->nm a≠nm b->MB G [nm a,nm b] res->vP G (nm a) ([b].map nm) res:=fun{a b res} ha hb hne h=>by have h:if nm a∈[nm b] then res=some [nm a] else vP G (nm a) [nm b] res:=h;rw[if_neg (by simpa using hne)] at h;exact h
 have ne:∀{a b:Nat},a∈ids->b∈ids->a≠b->nm a≠nm b:=fun ha hb hne e=>hne (W.inj _ _ (oC _ ha) (oC _ hb) e);have one:∀{b:Nat},b∈ids->∀c∈[b],c<rs.length:=fun hb c hc=>by refine R1 (af.mp hc) ?_;exact oC _ hb
 constructor
 .rintro⟨hz,hs⟩;cases res with
  |none=>rfl
  |some r=>
   obtain⟨keep,rfl,k1,k2⟩:=AZ hnn h;obtain⟨y,hy,hne⟩:=h2 _ hz;cases hk:keep (nm (rs.length - 1)) with
   |true=>
    obtain⟨m,hm,_⟩:=k1 _ (aQ hz) hk _ (aQ hy) (ne hz hy hne);exact(sO kn hs (oC _ hz) (one hy) (.inl rfl) (mb hz hy (ne hz hy hne) hm)).elim
   |false=>
    obtain⟨d,hd,hne,hm⟩:=k2 _ (aQ hz) hk;obtain⟨b,hb,rfl⟩:=bg.mp hd;exact(sO kn hs (oC _ hz) (one hb) (.inl rfl) (mb hz hb hne hm)).elim
 .intro hno;cases res with
  |none=>
   obtain⟨c,hc,d,hd,hne,hm⟩:=Gu hnn h;obtain⟨a,ha,rfl⟩:=bg.mp hc;obtain⟨b,hb,rfl⟩:=bg.mp hd;obtain⟨h1,h2⟩:=rm kn (oC a ha) (one hb) (mb ha hb hne hm);refine(hno ⟨?_,h1⟩).elim;rcases h2 with e | e
   .refine R2 e ?_;exact ha
   .refine R1 (af.mp e) ?_;exact hb
  |some r=>
   obtain⟨keep,rfl,k1,k2⟩:=AZ hnn h;refine⟨keep,rfl,fun a ha=>⟨fun hk=>?_,fun hk b hb hne=>?_⟩⟩
   .obtain⟨d,hd,hne,hm⟩:=k2 _ (aQ ha) hk;obtain⟨b,hb,rfl⟩:=bg.mp hd;obtain⟨spots,e,h1,F,_⟩:=pI W kn (oC a ha) (one hb) (mb ha hb hne hm)
    have hs:a∈spots:=by
     have:nm a∈spots.map nm:=by refine R2 e ?_;exact af.mpr rfl
     obtain⟨s,q1,q2⟩:=bg.mp this;refine R2 (W.inj _ _ (h1 s q1) (oC a ha) q2) ?_;exact q1
    exact⟨b,hb,fun e=>hne (by exact R1 e rfl),(uh W.gr.down (oC b hb)).mpr (vC F hs)⟩
   .obtain⟨m,hm,DU⟩:=k1 _ (aQ ha) hk _ (aQ hb) (ne ha hb hne.symm);obtain⟨spots,rfl,h1,F,_⟩:=pI W kn (oC a ha) (one hb) (mb ha hb (ne ha hb hne.symm) hm);cases q:al a (1<<<a) (1<<<b) rs rk with
    |false=>rfl
    |true=>exact(DU (by exact R1 (sC W.gr (oC a ha) (oC b hb) F q) rfl)).elim
theorem JG(kn:Kn G rs.length nm)(W:Wo G rs rk nm){rs':List Nat}{a b:Nat}(hl:rs'.length=rs.length)(hsub:∀k e,e∈lu rs' k->e∈lu rs k)(ha:a<rs.length)(hb:b<rs.length){t:Int}(ht:G.time (nm a)=some t)(hok:¬ (G.k6=false/\b=rs.length - 1))(W':Wo (G.up t) rs' rk nm)(hab:a≠b)
  {res:Option Bool} (h:CF G (nm a) (nm b) res):∃t:Bool,res=some t/\(t=true->(dn (1<<<b) rs (every rs.length)).testBit a=true)/\(t=false->al a (1<<<a) (1<<<b) rs' rk=false):=by
 unfold CF at h;rw[if_neg fun e=>hab (W.inj _ _ ha hb e),ht] at h;have Nu:Kn (G.up t) rs'.length nm:=by refine R1 hl ?_;exact kn
 have one:∀c∈[b],c<rs'.length:=fun c hc=>by refine R1 (af.mp hc) (R1 hl ?_);exact hb
 rcases h with ⟨h,rfl⟩ | ⟨r,h,rfl⟩
 .obtain⟨h1,h2⟩:=rm (cs:=[b]) Nu (by exact bZ ha (id (dR hl))) one h;rcases h2 with e | e
  .have:=(kn h1 a ha).mp (by exact R1 ht rfl);lia
  .rw[af] at e;exact(hok ⟨h1,by lia⟩).elim
 .obtain⟨spots,rfl,h1,F,_⟩:=pI (cs:=[b]) W' Nu (by exact bZ ha (id (dR hl))) one h;refine⟨_,rfl,fun e=>?_,fun e=>?_⟩
  .have e:=of_decide_eq_true e
   have hs:a∈spots:=by
    have:nm a∈spots.map nm:=by refine R1 e ?_;exact af.mpr rfl
    obtain⟨s,q1,q2⟩:=bg.mp this;refine R2 (W.inj _ _ (by have:=h1 s q1;exact bZ (h1 s q1) hl) ha q2) ?_;exact q1
   exact(uh W.gr.down hb).mpr (FI hsub (vC F hs))
  .have e:=of_decide_eq_false e;cases q:al a (1<<<a) (1<<<b) rs' rk with
   |false=>rfl
   |true=>exact(e (by exact R1 (sC W'.gr (by exact bZ ha (id (dR hl))) (by exact bZ hb (id (dR hl))) F q) rfl)).elim
theorem De{U:List Nm}(Wd:G.Wd U){c:Nm}: ∀{l acc r:List Nm},OR G c l acc (some r)->r.length<=acc.length+l.length*21
 |[],acc,r,h=>by cases h;exact ay acc.length ([].length*21)
 |a::l,acc,r,h=>by
  rcases h with ⟨_,h⟩ | ⟨r',h1,h⟩
  .cases h
  .have h2:=De Wd h;rw[ar] at h2;refine ab h2 ?_;rw[bd,ed,bK (l.length*21),←bV];exact aO (aC (h1.few Wd) _) _
theorem Df{U:List Nm}(Wd:G.Wd U): ∀{ks l r:List Nm},OF G ks l (some r)->r.length<=l.length*21 ^ ks.length
 |[],l,r,h=>by cases h;simp
 |k::ks,l,r,h=>by
  rcases h with ⟨_,h⟩ | ⟨l',h1,h⟩
  .cases h
  .have h2:=Df Wd h;have h3:=De Wd h1;rw[List.length_nil,bX] at h3;refine ab h2 (ab (b7 _ h3) ?_);refine R1 bd (R1 (gl ..) (R1 (fN ..) ?_));rewrite[eg 21];exact aM _
theorem IT(W:Wo G rs rk nm)(kn:Kn G rs.length nm){U:List Nm}(Wd:G.Wd U)(h4:∀y,(lu rs y).length<=4){c:Nat}(hN:rs.length=c+1)(hc4:4<=c)(hc:c<=14)(hz:∀x,RR rs c x->x=c)(hz':∀x,RR rs x c->x=c){ids:List Nat}(hI:E6 c ids)(hl:3<=ids.length){res:Option (List Nm)}(h:OB G (ids.map nm) res):
  ∃k0 ks,ids=k0::ks/\ks.length<=3/\((fo rs (!G.k6) ks [k0]=none/\res=none)\/∃due spots:List Nat,fo rs (!G.k6) ks [k0]=some due/\res=some (spots.map nm)/\(∀x∈spots,x<rs.length)/\spots.length<=9261/\due.length<64/\
   (∀b:Nat,(∀x,b.testBit x=true↔x<rs.length/\∀k∈ids,RR rs k x)->(∀k∈spots,b.testBit k=true)/\∀k∈tp b rs,k∈spots)/\
   ∀f:Nat,fa (dn f rs (every rs.length)) rs rk=true->(∀k∈ids,f.testBit k=true)->spots.Perm due):=by
 obtain⟨k0,k1,k2,rest,rfl,b0,b1,b2,hcond,hr⟩:=Gx hc4 hc hI hl;have hle:=DR hc4 hc hI;have hlen:=(wV hc4 hc hI).2;have hd:=W.gr.down;have hks:∀k∈k1::k2::rest,k<rs.length:=fun k hk=>hN▸bo (hle k (ad _ hk));have hk0:k0<rs.length:=hN▸bo b0;have U0:Du rs (fun x=>RR rs k0 x) [k0] [k0]:=⟨fun z w hz hw=>hz.trans hw,fun x hx=>by refine R1 (af.mp hx) ?_;exact⟨hk0,.refl trivial⟩,fun x hx=>hx,fun x hx=>⟨k0,af.mpr rfl,hx⟩⟩;simp only[bd] at hlen;refine⟨k0,k1::k2::rest,rfl,by simp only[bd];exact bz hlen,?_⟩;rcases AM (ks:=k1::k2::rest) (ko:=[k0]) W kn hks U0 h with h1 | ⟨due,spots,h1,rfl,h3,h4'⟩
 .exact .inl h1
 .have h:OF G ((k1::k2::rest).map nm) ([k0].map nm) (some (spots.map nm)):=h;have KZ:=Df Wd h;refine .inr ⟨due,spots,h1,rfl,fun x hx=>(h3.all x hx).1,?_,?_,fun b hb=>?_,fun f f1 f2=>?_⟩
  .rw[ak,ak,ak] at KZ
   have:[k0].length*21 ^ (k1::k2::rest).length<=9261:=by
    have:(k1::k2::rest).length=2\/(k1::k2::rest).length=3:=by have:=hlen;rcases hr with rfl | rfl | rfl<;>simp
    rcases this with e | e<;>rw[e]
    .exact(by decide:1*21 ^ 2<=9261)
    .exact(by decide:1*21 ^ 3<=9261)
   exact ab KZ this
  .exact GX hd h4 hN hc (by exact Nat.le_of_add_left_le hc4) hz hz' b0 b1 b2 hcond hr h1
  .exact D5 hd hb (h3.congr fun x=>by simp only[av,forall_eq_or_imp])
  .refine h4' _ f1 (fun z w hz hw=>?_) (fun k hk=>?_) (fun x hx=>?_) (.refl _)
   .rw[nr hd] at hz ⊢;obtain⟨x,q1,q2,q3⟩:=hz;exact⟨x,q1,q2,q3.trans hw⟩
   .exact(nr hd _ _).mpr ⟨k,hks k hk,f2 k (ad _ hk),.refl trivial⟩
   .refine R1 (af.mp hx) ?_;exact(nr hd _ _).mpr ⟨k0,hk0,f2 k0 ac,.refl trivial⟩
end
theorem EC(n k:Nat): clipAt n (k:Int)=min k n:=by unfold clipAt;refine R1 (if_neg (cU.mpr (bP k))) ?_;show(max 0 (min (k:Int) n)).toNat=_;exact R2 (Lean.Omega.Int.ofNat_min ..) (R1 (gu (bP _)) (R1 (cg ..) rfl))
theorem zp(l:List V)(k:Nat): oQ l none (some (k:Int))=l.take k:=by show(l.drop 0).take (clipAt l.length (k:Int) - 0)=_;exact R1 (EC ..) (R1 gQ (R1 (Nat.sub_zero ..) (R2 List.take_eq_take_min rfl)))
theorem Ah{H:List AO}{vs:List Slot}{l:List V}{z:Int}{k:Nat}(hz:z=k): P.slice (.lst l) (.none,.int z) ⟨H,vs⟩=.ok (.lst (l.take k)) ⟨H,vs⟩:=by subst hz;exact congrArg (fun l=>Res.ok (V.lst l) _) (zp l k)
theorem Ku{Q:Res AF->Prop}{p q:P AF}{σ:AS}{α:Type}{st:α->AS}{R:α->Prop}(h:∃a,R a/\p σ=.ok .next (st a))(hq:∀a,R a->Q (q (st a))): Q (P.seq p q σ):=by obtain⟨a,h1,h2⟩:=h;exact jt h2 (hq a h1)
section
variable{X:Wl}{L:List AO}{ids Gv:List Nat}{J:Nat->Slot}
theorem Wl.op{Q:Res AF->Prop}{p:P AF}(h:Q (p ⟨X.he L,X.E.v .o7 (X.J (.lst (nats ids)) J)⟩)): Q (p (X.σ L ids J)):=h
theorem Wl.cl{Q:Res AF->Prop}{p:P AF}{vs:List Slot}(e:vs=X.E.v .o7 (X.J (.lst (nats ids)) J))(h:Q (p (X.σ L ids J))): Q (p ⟨X.he L,vs⟩):=e▸h
theorem Wl.C5(h:autoParam ((X.E.v .o7 (X.J (.lst (nats ids)) J)).set 38 (.val (.lst (nats Gv)))=X.E.v .o7 (X.J (.lst (nats Gv)) J)) PySem.W.call_K._auto_4): (P.kd 38 (.lst (nats Gv))).next (X.σ L ids J)=.ok .next (X.σ L Gv J):=iN (kh rfl rfl) (congrArg (fun vs=>Res.ok _ (AS.mk _ vs)) h)
end
noncomputable def DJ:{r:P AF // ∀{X:Wl} {J:Nat->Slot} {p:List Nat} {Q:Res AF->Prop},X.Ok->p∈plans X.n->(∀ids,E6 X.n ids->Q (r (X.σ [] ids J)))->Q (DC.1 (X.σ [] p J))}:=⟨_,by
 intro X J p Q K hp hrest;delta DC;dsimp only
 have hi:∀ids,ids=p\/ids=p.dropLast++[X.n]\/ids=X.n::p.drop 1->E6 X.n ids:=fun ids h=>cD.mpr ⟨p,hp,by
  rcases h with rfl | rfl | rfl
  .exact ac
  .exact ad _ ac
  .exact ad _ (ad _ ac)⟩
 obtain⟨hl2,HH⟩:=wV K.f.lo K.f.hi (hi p (.inl rfl));have hnl:(nats p).length=p.length:=ak ..;refine Ku (st:=fun ids=>X.σ [] ids J) (R:=E6 X.n) ?_ hrest;cases h1:((X.E.tot.fdiv 8).fmod 8 == 1) with
 |true=>
  have e1:(nats p).take (p.length - 1)++[.int (X.n:Int)]=nats (p.dropLast++[X.n]):=by refine R1 c5 (R2 (tH ..) ?_);rewrite[nats,nats];exact R1 eN rfl
  exact⟨_,hi _ (.inr (.inl rfl)),oh (iN (iN (iN rfl rfl) rfl) (congrArg (Res.ok · _) h1)) (iN (iN (iN rfl (iN (iN rfl (iN rfl rfl)) (Ah (k:=p.length - 1) (by refine R1 hnl ?_;exact(ct (ab (by decide) hl2)).symm)))) (iN rfl ((Ak (ab (aO (ab (aE dN) (ab (gw _ _) (ab (aE hnl) HH))) 1) (by decide))).trans (congrArg (fun l=>Res.ok (V.lst l) _) e1)))) Wl.C5)⟩
 |false=>
  cases h2:((X.E.tot.fdiv 8).fmod 8 == 2) with
  |true=>
   have e1:[V.int (X.n:Int)]++(nats p).drop 1=nats (X.n::p.drop 1):=by rewrite[nats,nats];exact R1 aR (R1 fO rfl)
   exact⟨_,hi _ (.inr (.inr rfl)),lP (iN (iN (iN rfl rfl) rfl) (congrArg (Res.ok · _) h1)) (oh (iN (iN (iN rfl rfl) rfl) (congrArg (Res.ok · _) h2)) (iN (iN rfl (iN (iN rfl (iN rfl pO)) ((Ak (us:=[V.int (X.n:Int)]) (ws:=(nats p).drop 1) (ab (aC (ab (aE eR) (ab (db _ _) (ab (aE hnl) HH))) 1) (by decide))).trans (congrArg (fun l=>Res.ok (V.lst l) _) e1)))) Wl.C5))⟩
  |false=>exact⟨p,hi _ (.inl rfl),lP (iN (iN (iN rfl rfl) rfl) (congrArg (Res.ok · _) h1)) (lP (iN (iN (iN rfl rfl) rfl) (congrArg (Res.ok · _) h2)) rfl)⟩⟩
structure Io(X:Wl)(ids:List Nat): Prop where
 le:∀k∈ids,k<X.n+1
 l2:2<=ids.length
 l4:ids.length<=4
 nd:X.E.dd=3->ids.Nodup
 Ot:X.E.dd≠3->E6 X.n ids
noncomputable def GT:Nat->List Nat->List (Nat×Nat)
 |_,[]=>[]
 |i,k::l=>(i,k)::GT (i+1) l
theorem yJ:∀(l:List Nat) (i:Nat),enumFrom i (nats l)=(GT i l).map fun p=>.tup [.int (p.1:Nat),.int (p.2:Nat)]
 |[],_=>rfl
 |k::l,i=>congrArg (V.tup [.int (i:Int),.int (k:Int)]::·) (yJ l (i+1))
theorem Ba:∀(l:List Nat) (i:Nat),(GT i l).length=l.length
 |[],_=>rfl
 |_::l,i=>congrArg dp (Ba l (i+1))
theorem A9(ids:List Nat): ∀(r d:List Nat),ids=d++r->(((GT d.length r).filter fun p=>!decide (p.2∈ids.take p.1)).map Prod.snd).Nodup/\∀x,x∈((GT d.length r).filter fun p=>!decide (p.2∈ids.take p.1)).map Prod.snd↔x∈r/\x∉d
 |[],d,_=>⟨cR,fun x=>⟨fun h=>(nomatch h),fun h=>(nomatch h.1)⟩⟩
 |k::r,d,h=>by
  have ih:=A9 ids r (d++[k]) (h.trans (ax d [k] r).symm);rw[len1 (n:=d.length) rfl] at ih;have ht:ids.take d.length=d:=by exact R1 h (R1 (gN rfl) rfl)
  have hm:∀x,x∉d++[k]↔x∉d/\x≠k:=fun x=>by rw[aA,not_or,af]
  unfold GT;by_cases hk:k∈d
  .rw[dw (by show¬ (!decide (k∈ids.take d.length))=true;rw[ht,decide_eq_true hk];decide)];refine⟨ih.1,fun x=>(ih.2 x).trans ?_⟩;rw[hm];exact⟨fun q=>⟨ad _ q.1,q.2.1⟩,fun q=>⟨(av.mp q.1).resolve_left fun e=>q.2 (e▸hk),q.2,fun e=>q.2 (e▸hk)⟩⟩
  .rw[dy (by show(!decide (k∈ids.take d.length))=true;rw[ht,decide_eq_false hk];rfl),aR];refine⟨be.mpr ⟨fun q=>((hm k).mp ((ih.2 k).mp q).2).2 rfl,ih.1⟩,fun x=>?_⟩;rw[av,ih.2 x,hm,av];exact⟨fun q=>q.elim (fun e=>⟨.inl e,e▸hk⟩) fun q=>⟨.inr q.1,q.2.1⟩,fun q=>(Decidable.em (x=k)).elim .inl fun e=>.inr ⟨q.1.resolve_left e,q.2,e⟩⟩
noncomputable def DI:{r:P AF // ∀{X:Wl} {J:Nat->Slot} {ids:List Nat} {Q:Res AF->Prop},X.Ok->E6 X.n ids->(∀ids,Io X ids->Q (r (X.σ [] ids J)))->Q (DJ.1 (X.σ [] ids J))}:=⟨_,by
 intro X J ids Q K oC hrest;delta DJ;dsimp only;have hl:=wV K.f.lo K.f.hi oC;have hle:=fun k hk=>bo (DR K.f.lo K.f.hi oC k hk);refine Ku (st:=fun ids=>X.σ [] ids J) (R:=Io X) ?_ hrest;cases hdd:(X.E.dd == 3) with
 |false=>exact⟨ids,⟨hle,hl.1,hl.2,fun h=>absurd h (ne_of_beq_false hdd),fun Y=>oC⟩,lP (iN rfl (iN rfl (congrArg (Res.ok · _) hdd))) rfl⟩
 |true=>
  have MQ:=eq_of_beq hdd;obtain⟨k0,k1,l0,MN,hne⟩:=Gw K.f.lo K.f.hi oC;obtain⟨hnd,hm⟩:=A9 ids ids [] rfl;have hen:=Ba ids 0;generalize hl':((GT ([]:List Nat).length ids).filter fun p=>!decide (p.2∈ids.take p.1)).map Prod.snd=l at hnd hm;have hm:∀x,x∈l↔x∈ids:=fun x=>(hm x).trans ⟨And.left,fun h=>⟨h,fun q=>nomatch q⟩⟩;have h2:2<=l.length:=mA (l:=[k0,k1]) (U:=l) (be.mpr ⟨fun h=>hne (af.mp h),bq _ _⟩) fun x hx=>(hm x).mpr (by refine R1 MN ?_;exact(av.mp hx).elim (fun e=>e▸ac) fun h=>ad _ (af.mp h▸ac));have hc:=fun vs cap its test ep h1 h2 h3 h4 h5=>Be (H:=X.he []) (vs:=vs) (cap:=cap) (its:=its) (asg:=fun x=>P.pair (fun x=>P.kd 1 x) (fun x=>P.kd 2 x) x) (test:=test) (ep:=ep) (xs:=GT 0 ids) (g:=fun p=>.tup [.int (p.1:Nat),.int (p.2:Nat)]) (Ev:=fun p=>.int (p.2:Nat)) (fun p=>!decide (p.2∈ids.take p.1)) (fun p=>[.unset,.val (.int (p.1:Nat)),.val (.int (p.2:Nat)),.val (.lst (nats ids))]) (fun s=>∃s1 s2:Slot,s1.nf=true/\s2.nf=true/\s=[.unset,s1,s2,.val (.lst (nats ids))]) h1 h2 (fun p=>⟨_,_,rfl,rfl,rfl⟩) (by rintro p _ ⟨s1,s2,q1,q2,rfl⟩;exact pP rfl q1 rfl q2) h3 h4 h5;have hv:((GT 0 ids).filter fun p=>!decide (p.2∈ids.take p.1)).map (fun p=>V.int (p.2:Nat))=nats l:=by refine R2 hl' ?_;rewrite[nats];exact R1 bA rfl
  rw[hv] at hc;have h3:(nats l).take 3=nats (l.take 3):=by rewrite[nats,nats];exact R1 eN rfl
  refine⟨l.take 3,⟨fun k hk=>hle k ((hm k).mp (List.mem_of_mem_take hk)),?_,?_,fun Y=>hnd.sublist (List.take_sublist _ _),fun h=>(h MQ).elim⟩,oh (iN rfl (iN rfl (congrArg (Res.ok · _) hdd))) (iN (iN (hc _ _ _ _ _ (iN rfl (congrArg (Res.ok · _) (yJ ids 0))) ⟨.unset,.unset,rfl,rfl,rfl⟩ (fun p hp=>?_) (fun p Y Y=>rfl) ?_) (iN rfl ((Ah (k:=3) rfl).trans (congrArg (fun l=>Res.ok (V.lst l) _) h3)))) Wl.C5)⟩
  .refine R1 dN ?_;exact Nat.le_min.mpr ⟨by decide,h2⟩
  .refine R1 dN ?_;exact ab (gH _ _) (by decide)
  .have e1:(nats ids).take p.1=nats (ids.take p.1):=by rewrite[nats,nats];exact R1 eN rfl
   exact iN rfl (iN (iN rfl (iN rfl ((Ah (k:=p.1) rfl).trans (congrArg (fun l=>Res.ok (V.lst l) _) e1)))) (jF (oG _ _)))
  .refine R1 hen ?_;exact ab hl.2 (by decide)⟩
noncomputable def Wl.as(X:Wl)(ids:List Nat): V:=.lst (nms (ids.map (kH X.W.nn)))
theorem xd{X:Wl}(K:X.Ok){H:List AO}(h1:H[1]?=some (.list (nms X.W.nn))){vs:List Slot}{cap:List (Option (Nat×Bool))}{its:P (List V)}{l:List Nat}{s0:Slot}(hits:its ⟨H,vs⟩=.ok (nats l) ⟨H,vs⟩)(hcap:kI cap vs=[s0,.unset,.val (.ref 1)])(hl:∀k∈l,k<X.n+1)(HH:l.length<=4):
  P.comp cap its (fun x=>P.kd 1 x) (P.pure true) ((P.var 2).bind fun a=>(P.var 1).bind fun i=>P.index a i) ⟨H,vs⟩=.ok (X.as l) ⟨H,vs⟩:=
 lc (sT (l:=l) (Ev:=fun k=>.bytes (kH X.W.nn k)) [.val (.ref 1)] hits hcap rfl (fun k hk=>iN rfl (iN rfl (lb (kr h1) (yd (K.B.bw.l1.symm▸hl k hk))))) (ab HH (by decide))) (congrArg V.lst (bA (f:=kH X.W.nn) (g:=V.bytes) (l:=l)).symm)
noncomputable def zT:{r:P AF // ∀{X:Wl} {J:Nat->Slot} {ids:List Nat} {Q:Res AF->Prop},X.Ok->nH J->Io X ids->(∀J (sd:Nat),nH J->(∀x,sd.testBit x=true↔x∈ids.drop 1)->Q (r (X.σ [] ids (up (up J 39 (X.as ids)) 40 (.int sd)))))->Q (DI.1 (X.σ [] ids J))}:=⟨_,by
 intro X J ids Q K hJ I hrest;delta DI;dsimp only;refine Wl.op ?_;refine Db (v:=X.as ids) ?_ rfl (hJ 39) ?_
 .exact xd K rfl rfl rfl I.le I.l4
 refine la (v:=.int (0:Nat)) rfl rfl (hJ 40) ?_;refine Wl.cl (J:=up (up J 39 (X.as ids)) 40 (.int (0:Nat))) rfl ?_;refine rO (xs:=ids.drop 1) (g:=fun(k:Nat)=>V.int (k:Int)) (st:=fun(r:Nat) s=>X.σ [] ids (up (up (ups J 18 s) 39 (X.as ids)) 40 (.int r))) (step:=fun r k=>r|||1<<<k) 0 (s:=J 18) (iN (iN rfl (iN rfl pO)) (congrArg (Res.ok · _) ?_)) (hJ 18) (fun k hk r s hs=>?_) fun s hs=>?_
 .rewrite[nats];exact R1 fO rfl
 .have hk:=I.le k (fB hk);exact iN (kh rfl hs) (iN (iN rfl (iN (iN rfl (iN rfl (kc (lB k (ab (aG hk) (ab (bc K.f.hi) (by decide))))))) (kc (pE _ _)))) (iN (kh rfl rfl) rfl))
 .refine hrest (ups J 18 s) _ (hJ.ups 18 hs) fun x=>?_
  have:∀(l:List Nat) (r:Nat),(l.foldl (fun r k=>r|||1<<<k) r).testBit x=true↔r.testBit x=true\/x∈l:=fun l=>by
   induction l with
   |nil=>exact fun r=>⟨.inl,fun h=>h.elim id fun h=>nomatch h⟩
   |cons k l ih=>
    intro r;refine R1 dt ?_;rewrite[ih];refine R1 (bG ..) (R1 (bj ..) ?_);rw[kD,av,or_assoc]
  exact(this _ 0).trans ⟨fun h=>h.elim (fun h=>nomatch (dl x).symm.trans h) id,.inr⟩⟩
noncomputable def E5(X:Wl)(ids:List Nat)(σ:AS): Prop:=∃L J,σ=X.σ L ids (up J 39 (X.as ids))
noncomputable def nW:{r:P AF×P AF×P AF×P AF // ∀{X:Wl} {J:Nat->Slot} {ids:List Nat} {sd:Nat} {Q:Res AF->Prop},
   (X.E.dd=2->∀Q:Res AF->Prop,(∀σ,E5 X ids σ->Q (.ok .next σ))->Q (r.1 (X.σ [] ids (up (up J 39 (X.as ids)) 40 (.int sd)))))->
   (X.E.dd=3->∀Q:Res AF->Prop,(∀σ,E5 X ids σ->Q (.ok .next σ))->Q (r.2.1 (X.σ [] ids (up (up J 39 (X.as ids)) 40 (.int sd)))))->
   (X.E.dd≠3->∀Q:Res AF->Prop,(∀σ,E5 X ids σ->Q (.ok .next σ))->Q (r.2.2.1 (X.σ [] ids (up (up J 39 (X.as ids)) 40 (.int sd)))))->
   (∀σ,E5 X ids σ->Q (r.2.2.2 σ))->Q (zT.1 (X.σ [] ids (up (up J 39 (X.as ids)) 40 (.int sd))))}:=⟨(_,_,_,_),by
 intro X J ids sd Q h1 h2 h3 h4;dsimp only at h1 h2 h3 h4;delta zT;dsimp only;refine ou (E5 X ids) (fun Y=>False) (fun Q hQ Y=>?_) h4 fun Y h=>h.elim;exact qg (iN rfl (iN rfl rfl)) (fun h=>h1 (eq_of_beq h) Q hQ) fun h=>qg (iN rfl (iN rfl rfl)) (fun h=>h2 (eq_of_beq h) Q hQ) fun h=>h3 (ne_of_beq_false h) Q hQ⟩
theorem Ez{σ:AS}(L:List (List Nm)): nv σ .Eq (.lst (L.map fun l=>V.lst (nms l))) (.lst (L.map fun l=>V.lst (nms l)))=some true:=(qV (g:=fun l:List Nm=>V.lst (nms l)) (fun a b=>vT 3 a b) L L).trans (congrArg some (decide_eq_true rfl))
theorem GZ{σ:AS}(f:Nat->List Nm)(l:List Nat): nv σ .Eq (.lst (l.map fun k=>V.lst (nms (f k)))) (.lst (l.map fun k=>V.lst (nms (f k))))=some true:=by have h:=Ez (σ:=σ) (l.map f);rw[bA] at h;exact h
theorem HV{H:List AO}{vs:List Slot}{n:Nat}{kvs:List (Nm×V)}{k:Nm}(h:H[n]?=some (.dict kvs)): P.cmp .In (.bytes k) (.ref n) ⟨H,vs⟩=.ok (getKey kvs k).isSome ⟨H,vs⟩:=jF ((Li h).trans (congrArg some (tU kvs k)))
theorem DB{X:Wl}{ids:List Nat}{Q:Res AF->Prop}(K:X.Ok)(I:Io X ids)(hQ:∀L vs,Q (.ok (.ret (.bool true)) ⟨X.he L,vs⟩)): ∀σ,E5 X ids σ->Q (nW.1.2.2.2 σ):=by
 rintro _ ⟨L,J,rfl⟩;have B:=K.B.bw;delta nW;dsimp only;refine jt (lP (iN rfl (iN (xd K rfl rfl rfl I.le I.l4) (jF ((uj (ids.map (kH X.W.nn)) (ids.map (kH X.W.nn))).trans (congrArg (fun b=>some !b) (decide_eq_true rfl)))))) rfl) ?_;have hl:(aX X.n).length<=1000000:=by refine R1 br ?_;exact ab K.f.hi (by decide)
 have nm:∀{vs:List Slot} {k:Nat},k∈aX X.n->P.index (.ref 1) (.int (k:Nat)) ⟨X.he L,vs⟩=.ok (.bytes (kH X.W.nn k)) ⟨X.he L,vs⟩:=fun hk=>lb (kr rfl) (yd (B.l1.symm▸bi (a6.mp hk)))
 have hT:∀k∈aX X.n,(getKey X.W.fo (kH X.W.nn k)).isSome=true->getKey X.W.fo (kH X.W.nn k)=some (.lst (nms ((X.W.kk.getD k []).map (kH X.W.nn)))):=fun k hk h=>by
  rcases(B.en k (bi (a6.mp hk))).tY with q | q
  .exact q.2
  .rw[q.2.2] at h;cases h
 have hkk:∀{vs:List Slot} {k:Nat},k∈aX X.n->P.index (.ref 2) (.int (k:Nat)) ⟨X.he L,vs⟩=.ok (.lst (nats (X.W.kk.getD k []))) ⟨X.he L,vs⟩:=fun hk=>lb (kr rfl) (wM (B.l2.symm▸bi (a6.mp hk)));refine kM (iN (iN (iN (nZ (g:=fun(k:Nat)=>V.int (k:Int)) (Ev:=fun k=>.lst (nms ((X.W.kk.getD k []).map (kH X.W.nn)))) (fun k=>(getKey X.W.fo (kH X.W.nn k)).isSome) [.val (.ref 8),.val (.ref 1)] (lK (ab K.f.hi (by decide)) rfl) rfl rfl (fun k hk=>iN (iN rfl (iN rfl (nm hk))) (iN rfl (HV rfl))) (fun k hk h=>iN rfl (iN (iN rfl (iN rfl (nm hk))) (xe rfl (hT k hk h)))) hl) (iN (nZ (g:=fun(k:Nat)=>V.int (k:Int)) (Ev:=fun k=>.lst (nms ((X.W.kk.getD k []).map (kH X.W.nn)))) (fun k=>(getKey X.W.fo (kH X.W.nn k)).isSome) [.val (.ref 8),.val (.ref 2),.val (.ref 1)] (lK (ab K.f.hi (by decide)) rfl) rfl rfl (fun k hk=>iN (iN rfl (iN rfl (nm hk))) (iN rfl (HV rfl))) (fun k hk Y=>xd K rfl (iN (iN rfl (iN rfl (hkk hk))) rfl) rfl (fun e he=>aF (K.B.sF k e he) (bi (a6.mp hk))) (K.B.DL k)) hl) (jF (GZ _ _)))) rfl) rfl) (hQ L _)
noncomputable abbrev Wl.G(X:Wl): GD:=w6 X.E.sb X.sh X.W
section
variable{X:Wl}(K:X.Ok)
include K
theorem Wl.Ok.gd(L:List AO): X.G.Ok (X.he L):=K.B.ok K.sh rfl rfl
theorem Wl.Ok.rl:X.rs.length=X.n+1:=(ak ..).trans K.B.bw.l2
theorem Wl.Ok.wo:Wo X.G X.rs X.rk (kH X.W.nn):=K.B.Ob
theorem Wl.Ok.kn:Kn X.G X.rs.length (kH X.W.nn):=K.B.kn K.rl
theorem Wl.Ok.wd:X.G.Wd X.W.nn:=K.B.wd K.f.hi
theorem Wl.Ok.LY:X.rk.length=X.n+1:=(ak ..).trans (br ..)
theorem Wl.Ok.n15:X.n+1<=15:=bc K.f.hi
theorem Wl.Ok.nm{L:List AO}{x:Nat}(hx:x<X.n+1){vs:List Slot}: P.index (.ref 1) (.int (x:Nat)) ⟨X.he L,vs⟩=.ok (.bytes (kH X.W.nn x)) ⟨X.he L,vs⟩:=lb (kr rfl) (yd (K.B.bw.l1.symm▸hx))
theorem Wl.Ok.g{L:List AO}{x:Nat}(hx:x<X.n+1){vs:List Slot}: P.index (.ref 5) (.int (x:Nat)) ⟨X.he L,vs⟩=.ok (.bool (X.W.gg.getD x false)) ⟨X.he L,vs⟩:=lb (kr rfl) (EK (K.B.bw.l5.symm▸hx))
theorem ED{a b:Nat}(ha:a<X.n+1)(hb:b<X.n+1)(hab:a≠b){res:Option Bool}(h:CF X.G (kH X.W.nn a) (kH X.W.nn b) res):
  (((X.W.gg.getD a false || X.W.gg.getD b false)&&!X.E.sb)=true->res=none)/\(((X.W.gg.getD a false || X.W.gg.getD b false)&&!X.E.sb)=false->(X.W.gg.getD a false=true->res=some false)/\(X.W.gg.getD a false=false->
   ∃t:Bool,res=some t/\(t=true->(dn (1<<<b) X.rs (every (X.n+1))).testBit a=true)/\(t=false->al a (1<<<a) (1<<<b) (X.W.kk.map (lz X.W.gg X.W.ss (X.W.ss.getD a 0))) X.rk=false))):=by
 have B:=K.B;have hrl:=K.rl;have h0:=h;unfold CF at h;rw[if_neg fun e=>hab (B.inj _ _ ha hb e),B.tV ha] at h;have one:∀c∈[b],c<X.rs.length:=fun c hc=>by refine R1 (af.mp hc) (R1 hrl ?_);exact hb
 have vx:X.rs.length - 1=X.n:=by exact R1 hrl rfl
 have gt:X.W.gg.getD a false=true->res=if X.E.sb=true then some false else none:=fun q=>by rw[q,if_pos rfl] at h;exact h
 refine⟨fun hc=>?_,fun hc=>⟨fun hg=>?_,fun hg=>?_⟩⟩
 .obtain⟨hg,hs⟩:=(aW _ _).mp hc;rw[bx] at hs;cases q:X.W.gg.getD a false with
  |true=>rw[gt q,if_neg (by rw[hs];decide)]
  |false=>
   rw[q,fL] at hg;rw[q,if_neg (by decide)] at h;rcases h with ⟨_,h⟩ | ⟨r,h,_⟩
   .exact h
   .exact(sO (G:=X.G.up (X.W.ss.getD a 0)) (rs:=X.rs) (nm:=kH X.W.nn) (cs:=[b]) K.kn hs (hrl.symm▸ha) one (.inr (by refine R1 vx (R1 ((B.gone hb hs).mp hg) ?_);exact ac)) h).elim
 .rw[hg,eh,fM,cY] at hc;exact R1 (gt hg) (R1 (if_pos hc) rfl)
 .have hd:=K.wo.gr.down;have hd':=(B.wo (sh:=X.sh) (X.W.ss.getD a 0)).gr.down;have hr':(X.W.kk.map (lz X.W.gg X.W.ss (X.W.ss.getD a 0))).length=X.rs.length:=(ak ..).trans (ak ..).symm;have:=JG (G:=X.G) (t:=X.W.ss.getD a 0) (rs':=X.W.kk.map (lz X.W.gg X.W.ss (X.W.ss.getD a 0))) K.kn K.wo hr' (fun k e he=>?_) (hrl.symm▸ha) (hrl.symm▸hb) (by exact R1 (B.tV ha) (R1 hg rfl)) ?_ (B.wo _) hab h0
  .rw[hrl] at this;exact this
  .rw[ln hd];rw[ln hd',rj rfl,mZ] at he;rw[rj rfl,zC B.st,mZ];exact⟨he.1,he.2.1,B.st e⟩
  .rintro⟨hs,e⟩;have hs:X.E.sb=false:=hs;rw[vx] at e;rw[hg,e,B.zg,hs] at hc;cases hc
end
noncomputable def Md:Option Bool->V
 |none=>.none
 |some b=>.bool b
section
variable{σ:AS}{A B:P V}{R:P (List V)}{a b:V}{l:List V}
theorem jH(hA:A σ=.ok a σ)(hR:R σ=.ok l σ): (A.bind fun v=>R.bind fun vs=>P.pure (v::vs)) σ=.ok (a::l) σ:=iN hA (iN hR rfl)
theorem yK(hA:A σ=.ok a σ)(hB:B σ=.ok b σ): ((A.bind fun v=>(B.bind fun v=>(P.pure []).bind fun vs=>P.pure (v::vs)).bind fun vs=>P.pure (v::vs)).bind P.tuple) σ=.ok (.tup [a,b]) σ:=iN (jH hA (jH hB rfl)) rfl
end
noncomputable def tvs:List Nat:=[18,24,33,41,42,43,44,45,46,47,48,49]
noncomputable def Wl.vv(X:Wl)(ids:List Nat)(sd:Nat)(J:Nat->Slot): List Slot:=X.E.v .o7 (X.J (.lst (nats ids)) (up (up J 39 (X.as ids)) 40 (.int sd)))
noncomputable abbrev Wl.τ(X:Wl)(ids:List Nat)(sd:Nat)(L:List AO)(J:Nat->Slot): AS:=⟨X.he L,X.vv ids sd J⟩
theorem Wl.Fd{X:Wl}{ids:List Nat}{sd:Nat}{J:Nat->Slot}{v:V}: ∀i∈tvs,(X.vv ids sd J)[i]?=some (J i)/\(X.vv ids sd J).set i (.val v)=X.vv ids sd (up J i v):=by refine an.mpr ⟨⟨rfl,rfl⟩,an.mpr ⟨⟨rfl,rfl⟩,an.mpr ⟨⟨rfl,rfl⟩,an.mpr ⟨⟨rfl,rfl⟩,an.mpr ⟨⟨rfl,rfl⟩,an.mpr ⟨⟨rfl,rfl⟩,an.mpr ⟨⟨rfl,rfl⟩,an.mpr ⟨⟨rfl,rfl⟩,an.mpr ⟨⟨rfl,rfl⟩,an.mpr ⟨⟨rfl,rfl⟩,an.mpr ⟨⟨rfl,rfl⟩,an.mpr ⟨⟨rfl,rfl⟩,fun Y h=>nomatch h⟩⟩⟩⟩⟩⟩⟩⟩⟩⟩⟩⟩
theorem Wl.sv{X:Wl}{ids:List Nat}{sd:Nat}{H:List AO}{J:Nat->Slot}(hJ:nH J)(i:Nat)(v:V)(hi:autoParam (tvs.contains i=true) PySem.W.call_K._auto_4): P.kd i v ⟨H,X.vv ids sd J⟩=.ok () ⟨H,X.vv ids sd (up J i v)⟩:=by obtain⟨h1,h2⟩:=Wl.Fd (X:=X) (ids:=ids) (sd:=sd) (J:=J) (v:=v) i (cG.mp hi);refine R2 h2 ?_;exact kh h1 (hJ i)
theorem Wl.rd{X:Wl}{ids:List Nat}{sd:Nat}{H:List AO}{J:Nat->Slot}{i:Nat}{v:V}(h:J i=.val v)(hi:autoParam (tvs.contains i=true) PySem.W.call_K._auto_4): P.var i ⟨H,X.vv ids sd J⟩=.ok v ⟨H,X.vv ids sd J⟩:=pw ((Wl.Fd (v:=v) i (cG.mp hi)).1.trans (congrArg some h))
theorem Wl.E3{X:Wl}{ids:List Nat}{sd:Nat}{H:List AO}{J:Nat->Slot}{i:Nat}{v:V}(h:J i=.val v)(hi:autoParam (tvs.contains i=true) PySem.W.call_K._auto_4): P.cvar i ⟨H,X.vv ids sd J⟩=.ok v ⟨H,X.vv ids sd J⟩:=by unfold P.cvar;dsimp only;exact R1 ((Wl.Fd (v:=v) i (cG.mp hi)).1) (R1 h rfl)
theorem As{J:Nat->Slot}{i:Nat}{s t:Slot}: ups (ups J i s) i t=ups J i t:=funext fun j=>by
 unfold ups;by_cases h:j=i
 .exact R1 (if_pos h) (R1 (if_pos h) rfl)
 .exact R1 (if_neg h) (R1 (if_neg h) (R1 (if_neg h) rfl))
theorem CD{J:Nat->Slot}{i k:Nat}{s t:Slot}(h:i≠k): ups (ups J i s) k t=ups (ups J k t) i s:=funext fun j=>by
 unfold ups;by_cases h1:j=i
 .exact R1 (if_neg fun h2=>h (h1.symm.trans h2)) (R1 (if_pos h1) (R1 (if_pos h1) rfl))
 .exact R1 (if_neg h1) (R1 (if_neg h1) rfl)
theorem CC{J:Nat->Slot}{i:Nat}: ups J i (J i)=J:=funext fun j=>by
 unfold ups;by_cases h:j=i
 .exact R1 (if_pos h) (R1 h rfl)
 .exact R1 (if_neg h) rfl
theorem Wl.asg{X:Wl}{ids:List Nat}{sd:Nat}{H H':List AO}{J:Nat->Slot}(hJ:nH J)(i:Nat){v:V}{e:P V}(he:e ⟨H,X.vv ids sd J⟩=.ok v ⟨H',X.vv ids sd J⟩)(hi:autoParam (tvs.contains i=true) PySem.W.call_K._auto_4): (e.bind fun v=>(P.kd i v).next) ⟨H,X.vv ids sd J⟩=.ok .next ⟨H',X.vv ids sd (up J i v)⟩:=iN he (iN (Wl.sv hJ i v hi) rfl)
noncomputable def Fx(a b:Nat)(t:Bool)(h:Nat)(J:Nat->Slot): Prop:=J 41=.val (.int a)/\J 42=.val (.int b)/\J 43=.val (.bool t)/\J 44=.val (.ref h)
theorem Wl.tl{X:Wl}{ids:List Nat}{sd:Nat}{L:List AO}{J:Nat->Slot}: E5 X ids (X.τ ids sd L J):=⟨L,up J 40 (.int sd),rfl⟩
theorem HW{H:List AO}{vs:List Slot}{ids:List Nat}{i:Nat}(h:i<ids.length): P.index (.lst (nats ids)) (.int (i:Nat)) ⟨H,vs⟩=.ok (.int (ids.getD i 0:Nat)) ⟨H,vs⟩:=lb oZ (p9 h)
noncomputable def LZ(X:Wl)(a k:Nat): Nat:=lz X.W.gg X.W.ss (X.W.ss.getD a 0) (X.W.kk.getD k [])
section
variable(X:Wl)(ids:List Nat)(sd:Nat)
inductive Nc(xs:List (Nat×Nat)): AS->Prop
 |mk (L:List AO) (J:Nat->Slot) (hJ:nH J) (hp:∀p∈xs,p.1<X.n+1/\p.2<X.n+1):Nc xs (X.τ ids sd L J)
variable(L:List AO)(a b:Nat)(t:Bool)
inductive N6:AS->Prop
 |mk (J:Nat->Slot) (hJ:nH J) (hF:Fx a b t (X.he L).length J):N6 (X.τ ids sd (L++[.list (nats (X.W.kk.map (lz X.W.gg X.W.ss (X.W.ss.getD a 0))))]) J)
inductive N7(ys:List Nat): AS->Prop
 |mk (d:List Nat) (J:Nat->Slot) (hd:aX (X.n+1)=d++ys) (hJ:nH J) (hF:Fx a b t (X.he L).length J):N7 ys ⟨X.he L++[.list (nats (d.map (LZ X a)))],X.vv ids sd J⟩
end
theorem Gk{X:Wl}(K:X.Ok){J:Nat->Slot}(hJ:nH J){ids:List Nat}(I:Io X ids){sd:Nat}{Q:Res AF->Prop}(hQ:∀σ,E5 X ids σ->Q (.ok .next σ)): Q (nW.1.1 (X.τ ids sd [] J)):=by
 delta nW;dsimp only;have h0:0<ids.length:=aD (by decide) I.l2;have h1:1<ids.length:=I.l2;have b0:=I.le _ (getD_mem (d:=0) h0);have b1:=I.le _ (getD_mem (d:=0) h1);obtain⟨m,hm⟩:=cQ (cA X.E.tot (bD.mpr (aD (by decide) K.f.lo):(0:Int)<(X.n:Int)));have hmn:m<X.n:=bD.mp (hm▸dv X.E.tot (bD.mpr (aD (by decide) K.f.lo)));have hmb:binI .Mod X.E.tot (X.n:Int)=some (m:Int):=(if_pos (bD.mpr (aD (by decide) K.f.lo))).trans (congrArg some hm);have vx:((X.n:Int) - 1)=((X.n - 1:Nat):Int):=(ct (ab (by decide) K.f.lo)).symm;refine mt (g:=fun(p:Nat×Nat)=>V.tup [.int (p.1:Nat),.int (p.2:Nat)]) (xs:=[(ids.getD 1 0,ids.getD 0 0),(ids.getD 0 0,ids.getD 1 0),(1,ids.getD 0 0),(m,ids.getD 0 0),(2,X.n - 1)]) (Nc X ids sd) (.mk [] J hJ ?_) ?_ ?_ ?_
 .have h4:4<=X.n:=K.f.lo;refine an.mpr ⟨⟨b1,b0⟩,an.mpr ⟨⟨b0,b1⟩,an.mpr ⟨⟨aD (show 1<4 by decide) (bL h4),b0⟩,an.mpr ⟨⟨bi hmn,b0⟩,an.mpr ⟨⟨aD (show 2<4 by decide) (bL h4),bo (db _ _)⟩,fun Y h=>nomatch h⟩⟩⟩⟩⟩
 .have i0:∀vs,P.index (.lst (nats ids)) (.int 0) ⟨X.he [],vs⟩=.ok (.int (ids.getD 0 0:Nat)) ⟨X.he [],vs⟩:=fun vs=>HW h0;have i1:∀vs,P.index (.lst (nats ids)) (.int 1) ⟨X.he [],vs⟩=.ok (.int (ids.getD 1 0:Nat)) ⟨X.he [],vs⟩:=fun vs=>HW h1;exact iN (iN (jH (yK (iN rfl (iN rfl (i1 _))) (iN rfl (iN rfl (i0 _)))) (jH (yK (iN rfl (iN rfl (i0 _))) (iN rfl (iN rfl (i1 _)))) (jH (yK rfl (iN rfl (iN rfl (i0 _)))) (jH (yK (iN rfl (iN rfl (kc hmb))) (iN rfl (iN rfl (i0 _)))) (jH (yK rfl (lc rfl (congrArg V.int vx))) rfl))))) rfl) rfl
 .rintro⟨a,b⟩ xs _ ⟨L,J,hJ,hp⟩;obtain⟨⟨ha,hb⟩,hp⟩:=an.mp hp;dsimp only at ha hb;have GH:=(hJ.up 41 (.int a)).up 42 (.int b);refine kW (σ1:=X.τ ids sd L (up (up J 41 (.int a)) 42 (.int b))) (iN (Wl.sv hJ 41 _) (Wl.sv (hJ.up _ _) 42 _)) ?_;obtain⟨res,hcf,he⟩:=Lo K.wd (K.gd L) (X.vv ids sd (up (up J 41 (.int a)) 42 (.int b))) (kH X.W.nn a) (kH X.W.nn b);have nx:∀{R:Res AF->Prop} v,Lp (Nc X ids sd xs) R (.ok .next (X.τ ids sd L (up (up (up J 41 (.int a)) 42 (.int b)) 43 v))):=fun{R} v=>mi ⟨L,_,GH.up _ _,hp⟩;refine jt (σ1:=X.τ ids sd L (up (up (up J 41 (.int a)) 42 (.int b)) 43 (Md res))) ?_ ?_
  .cases res with
   |none=>exact pN (lY (iN (jH rfl (jH rfl (jH rfl (jH (iN rfl (iN rfl (K.nm ha))) (jH (iN rfl (iN rfl (K.nm hb))) rfl))))) he)) (oD (Wl.asg GH 43 rfl) rfl)
   |some t=>exact uc (Wl.asg GH 43 (iN (jH rfl (jH rfl (jH rfl (jH (iN rfl (iN rfl (K.nm ha))) (jH (iN rfl (iN rfl (K.nm hb))) rfl))))) he))
  clear he;by_cases hab:a=b
  .have hres:res=some true:=(if_pos (congrArg (kH X.W.nn) hab)).mp hcf;subst hres;exact kM (oh (iN rfl (iN rfl (jF ((nu a b).trans (congrArg some (decide_eq_true hab)))))) (lP rfl rfl)) (nx _)
  .obtain⟨f1,f2⟩:=ED K ha hb hab hcf;refine IH (iN rfl (iN rfl (jF ((nu a b).trans (congrArg some (decide_eq_false hab)))))) (qg (c:=(X.W.gg.getD a false || X.W.gg.getD b false)&&!X.E.sb) (lZ (mC (iN (iN rfl (iN rfl (K.g ha))) rfl) fun Y=>lC (iN (iN rfl (iN rfl (K.g hb))) rfl) rfl) fun Y=>ly (mu rfl) rfl) (fun hc=>?_) fun hc=>?_)
   .have hres:=f1 hc;subst hres;exact kM (lP rfl rfl) (nx _)
   .obtain⟨f2,f3⟩:=f2 hc;refine qg (c:=X.W.gg.getD a false) (iN (iN rfl (iN rfl (K.g ha))) rfl) (fun hg=>?_) fun hg=>?_
    .have hres:=f2 hg;subst hres;exact kM (lP rfl rfl) (nx _)
    .obtain⟨t,rfl,ht1,ME⟩:=f3 hg;have Jh:X.n+1<=100000:=ab K.n15 (by decide);have hN:X.n+1<=1000:=ab K.n15 (by decide);have MT:=GH.up 43 (.bool t);refine jt (Wl.asg (H':=X.he L++[.list (nats [])]) MT 44 (v:=.ref (X.he L).length) rfl) ?_;have NI:=MT.up 44 (.ref (X.he L).length);have hF:Fx a b t (X.he L).length (up (up (up (up J 41 (.int a)) 42 (.int b)) 43 (.bool t)) 44 (.ref (X.he L).length)):=⟨rfl,rfl,rfl,rfl⟩;generalize up (up (up (up J 41 (.int a)) 42 (.int b)) 43 (.bool t)) 44 (.ref (X.he L).length)=J at NI hF;clear nx MT GH hJ;refine ou (N6 X ids sd L a b t) (fun Y=>False) (fun Q hQ Y=>?_) ?_ fun Y h=>h.elim
     .refine mt (g:=fun(i:Nat)=>V.int (i:Int)) (xs:=aX (X.n+1)) (N7 X ids sd L a b t) (.mk [] J rfl NI hF) (lK (n:=X.n+1) Jh rfl) ?_ ?_
      .rintro k ys _ ⟨d,J,hd,hJ,hF⟩;have hk:k<X.n+1:=a6.mp (hd▸aj _ ac)
       have hdl:d.length<=X.n+1:=by have:=congrArg cB hd;rw[br,ar] at this;exact this▸ay _ _
       have hJ:=hJ.up 18 (.int k);refine kW (Wl.sv ‹_› 18 _) ?_;have K1:(up J 18 (.int k)) 18=.val (.int (k:Nat)):=rfl;have hF:Fx a b t (X.he L).length (up J 18 (.int k)):=hF;generalize up J 18 (.int k)=J at hJ hF K1;refine jt (Wl.asg (v:=.int (0:Nat)) hJ 33 rfl) ?_;have e0:X.vv ids sd (up J 33 (.int (0:Nat)))=X.vv ids sd (up (ups J 24 (J 24)) 33 (.int (0:Nat))):=by exact R1 CC rfl
       refine R1 e0 ?_;refine rO (xs:=X.W.kk.getD k []) (g:=fun(e:Nat)=>V.int (e:Int)) (st:=fun(r:Nat) s=>⟨X.he L++[.list (nats (d.map (LZ X a)))],X.vv ids sd (up (ups J 24 s) 33 (.int r))⟩) (step:=fun r e=>if X.W.gg.getD e false=false/\X.W.ss.getD a 0<=X.W.ss.getD e 0 then r|||1<<<e else r) 0 (s:=J 24) (iN (iN rfl (iN (Wl.E3 K1) (lb (kr rfl) (wM (K.B.bw.l2.symm▸hk))))) rfl) (hJ 24) (fun e he r s hs=>?_) fun s hs=>?_
       .have he:e<X.n+1:=aF (K.B.sF k e he) hk;refine iN ((Wl.sv ((hJ.ups 24 hs).up 33 (.int r)) 24 _).trans (congrArg (fun J=>Res.ok _ ⟨_,X.vv ids sd J⟩) ((CD (J:=ups J 24 s) (i:=33) (k:=24) (by decide)).trans (congrArg (fun J=>up J 33 (.int r)) As)))) (Ci (c:=!X.W.gg.getD e false&&decide (X.W.ss.getD a 0<=X.W.ss.getD e 0)) (lZ (mu (iN (iN rfl (iN rfl (lb (kr rfl) (EK (K.B.bw.l5.symm▸he))))) rfl)) fun Y=>ly (iN (iN rfl (iN rfl (lb (kr rfl) (int_at (K.B.bw.l4.symm▸he))))) (iN (iN rfl (iN (Wl.E3 hF.1) (lb (kr rfl) (int_at (K.B.bw.l4.symm▸ha))))) rfl)) rfl) (fun h=>?_) fun h=>?_)
        .refine R1 (if_pos (by rw[aW,bx,decide_eq_true_iff] at h;exact h)) ?_;exact(Wl.asg ((hJ.up 24 _).up 33 _) 33 (iN rfl (iN (iN rfl (iN rfl (kc (lB e (ab (aG he) hN))))) (kc (pE _ _))))).trans (congrArg (fun J=>Res.ok _ ⟨_,X.vv ids sd J⟩) As)
        .exact R1 (if_neg fun q=>by rw[q.1,decide_eq_true q.2] at h;cases h) rfl
       .refine kM (oE (Wl.rd hF.2.2.2) rfl qR (by refine R1 (oy ..) (R1 (ak ..) ?_);exact ag hdl (ag K.n15 (by decide))) (v8.trans (congrArg (fun l=>X.he L++[AO.list l]) ((tH _ _).trans (congrArg nats (aS (f:=LZ X a) (l₂:=[k])).symm))))) (mi ⟨d++[k],_,hd.trans (ax d [k] ys).symm,(hJ.ups 24 hs).up 33 (.int (LZ X a k:Nat)),hF⟩)
      .rintro _ ⟨d,J,hd,hJ,hF⟩;rw[ba] at hd;subst hd;refine Eq.mp (congrArg (fun l=>Q (.ok .next (⟨X.he L++[.list (nats l)],X.vv ids sd J⟩:AS))) ?_) (hQ _ ⟨J,hJ,hF⟩);exact R2 K.B.bw.l2 (map_getD (lz X.W.gg X.W.ss (X.W.ss.getD a 0)) X.W.kk).symm
     .rintro _ ⟨J,hJ,hF⟩;have hll:(X.W.kk.map (lz X.W.gg X.W.ss (X.W.ss.getD a 0))).length=X.n+1:=(ak ..).trans K.B.bw.l2;have h1:=qQ (X.he (L++[.list (nats (X.W.kk.map (lz X.W.gg X.W.ss (X.W.ss.getD a 0))))])) (X.vv ids sd J) (.ref 9) X.rs (1<<<b) (every (X.n+1)) (kr rfl) (K.rl.symm▸hN);have h2:=Bl (X.he (L++[.list (nats (X.W.kk.map (lz X.W.gg X.W.ss (X.W.ss.getD a 0))))])) (X.vv ids sd J) (.ref (X.he L).length) (.lst (rks X.rk)) (X.W.kk.map (lz X.W.gg X.W.ss (X.W.ss.getD a 0))) X.rk a (1<<<a) (1<<<b) (kr (qR (H:=X.he L))) oZ (hll.symm▸hN) (K.LY.trans hll.symm);obtain⟨r41,r42,r43,r44⟩:=hF;have r41:=fun H=>Wl.E3 (X:=X) (ids:=ids) (sd:=sd) (H:=H) r41;have r42:=fun H=>Wl.rd (X:=X) (ids:=ids) (sd:=sd) (H:=H) r42;have r43:=fun H=>Wl.E3 (X:=X) (ids:=ids) (sd:=sd) (H:=H) r43;have r44:=fun H=>Wl.rd (X:=X) (ids:=ids) (sd:=sd) (H:=H) r44;refine jt (lP (mu (a:=true) (iN (iN (jH (r43 _) rfl) rfl) rfl)) rfl) (jt (lP ?_ rfl) (kM (lP ?_ rfl) (mi ⟨_,_,hJ,hp⟩)))
      .refine lc (a:=t&&!(dn (1<<<b) X.rs (every (X.n+1))).testBit a) (lZ (iN (r43 _) rfl) fun Y=>ly (ue (iN (jH (iN rfl (iN (r42 _) (kc (lB b (ab (aG hb) hN))))) rfl) h1) (r41 _)) rfl) ?_;cases t with
       |true=>exact R1 (ht1 rfl) rfl
       |false=>rfl
      .refine lc (a:=!t&&al a (1<<<a) (1<<<b) (X.W.kk.map (lz X.W.gg X.W.ss (X.W.ss.getD a 0))) X.rk) (lZ (mu (iN (r43 _) rfl)) fun Y=>ly (iN (iN (jH (r41 _) (jH (iN rfl (iN (r41 _) (kc (lB a (ab (aG ha) hN))))) (jH (iN rfl (iN (r42 _) (kc (lB b (ab (aG hb) hN))))) (jH (r44 _) rfl)))) h2) rfl) rfl) ?_;cases t with
       |true=>rfl
       |false=>exact R1 (ME rfl) rfl
 .rintro _ ⟨L,J,-,-⟩;exact hQ _ Wl.tl
theorem uT{σ:AS}(k:Nm)(l:List Nm): nv σ .NotIn (.bytes k) (.lst (nms l))=some (!decide (k∈l)):=by show(nv σ .In (.bytes k) (.lst (nms l))).map not=_;exact R1 (wT ..) rfl
noncomputable def Iy:Option (List Nm)->V
 |none=>.none
 |some l=>.lst (nms l)
theorem Cf(l:List Nm)(f:Nm->Bool): (l.filter fun x=>decide (x∈l.filter f))=l.filter f:=by
 refine eJ fun x hx=>?_;cases h:f x with
 |true=>exact decide_eq_true (bC.mpr ⟨hx,h⟩)
 |false=>exact decide_eq_false fun q=>by rw[(bC.mp q).2] at h;cases h
theorem Ik{l:List Nat}(nd:l.Nodup)(h:2<=l.length): ∀x∈l,∃y∈l,x≠y:=by
 intro x hx
 match l,h with
 |a::b::l,_=>
  have hab:a≠b:=fun e=>(be.mp nd).1 (e▸ac);by_cases q:x=a
  .exact⟨b,ad _ ac,fun e=>hab (q.symm.trans e)⟩
  .exact⟨a,ac,q⟩
theorem Ll{X:Wl}(K:X.Ok){L:List AO}{vs:List Slot}{a b:Nat}(hb:b<X.n+1){A B R W:P V}(hB:B ⟨X.he L,vs⟩=.ok (.int b) ⟨X.he L,vs⟩)(hA:A ⟨X.he L,vs⟩=.ok (.int a) ⟨X.he L,vs⟩)(hR:R ⟨X.he L,vs⟩=.ok (.ref 9) ⟨X.he L,vs⟩)(hW:W ⟨X.he L,vs⟩=.ok (.int (every (X.n+1):Nat)) ⟨X.he L,vs⟩):
  (((((((P.pure (.int 1)).bind fun a=>B.bind fun b=>P.bin .LShift a b).bind fun v=>(R.bind fun v=>(W.bind fun v=>(P.pure []).bind fun vs=>P.pure (v::vs)).bind fun vs=>P.pure (v::vs)).bind fun vs=>P.pure (v::vs)).bind fun x=>vQ x).bind fun a'=>A.bind fun b=>P.bin .RShift a' b).bind fun a=>(P.pure (.int 1)).bind fun b=>P.bin .BitAnd a b).bind fun a=>(P.pure (.int 1)).bind fun b=>P.cmp .Eq a b:P Bool) ⟨X.he L,vs⟩=.ok ((dn (1<<<b) X.rs (every (X.n+1))).testBit a) ⟨X.he L,vs⟩:=by
 have hN:X.n+1<=1000:=ab K.n15 (by decide);exact pf (iN (jH (iN rfl (iN hB (kc (lB b (ab (aG hb) hN))))) (jH hR (jH hW rfl))) (qQ _ _ (.ref 9) X.rs (1<<<b) _ (kr rfl) (K.rl.symm▸hN))) hA
theorem Gj{X:Wl}(K:X.Ok){J:Nat->Slot}(hJ:nH J){ids:List Nat}(I:Io X ids)(hdd:X.E.dd=3){sd:Nat}{Q:Res AF->Prop}(hQ:∀σ,E5 X ids σ->Q (.ok .next σ)): Q (nW.1.2.1 (X.τ ids sd [] J)):=by
 delta nW;dsimp only;have hrl:=K.rl;have hz:X.rs.length - 1=X.n:=by exact R1 hrl rfl
 have hN:X.n+1<=1000:=ab K.n15 (by decide);have nd:=I.nd hdd;have hml:(ids.map (kH X.W.nn)).length<=4:=ab (aE (ak ..)) I.l4;obtain⟨res,hin,he⟩:=zZ K.wd rfl (K.gd []) (X.vv ids sd J) (ids.map (kH X.W.nn)) (ab hml (by decide));refine jt (σ1:=X.τ ids sd [] (up J 43 (Iy res))) ?_ ?_
 .cases res with
  |none=>exact pN (lY (iN rfl he)) (oD (iN rfl (iN (Wl.sv hJ 43 _) rfl)) rfl)
  |some t=>exact uc (iN (iN rfl he) (iN (Wl.sv hJ 43 _) rfl))
 clear he;obtain⟨f1,f2⟩:=I7 K.wo K.kn (fun c hc=>hrl.symm▸I.le c hc) nd (Ik nd I.l2) hin;rw[hz] at f1 f2;refine ou (fun σ=>∃J,σ=X.τ ids sd [] J) (fun Y=>False) (fun Q hQ Y=>?_) ?_ fun Y h=>h.elim
 .refine qg (c:=decide (X.n∈ids)&&!X.E.sb) (lZ (iN rfl (iN rfl (jF (qP _ _)))) fun Y=>ly (mu rfl) rfl) (fun hc=>?_) fun hc=>?_
  .obtain⟨q1,q2⟩:=(aW _ _).mp hc;have hres:res=none:=f1 ⟨of_decide_eq_true q1,(bx _).mp q2⟩;subst hres;exact kM (lP rfl rfl) (hQ _ ⟨_,rfl⟩)
  .obtain⟨keep,hres,hk⟩:=f2 fun h=>by have h2:X.E.sb=false:=h.2;rw[h2,decide_eq_true h.1] at hc;cases hc
   generalize hr:(ids.map (kH X.W.nn)).filter keep=r at hres;subst hres
   have hmem:∀{a},a∈ids->(kH X.W.nn a∈r↔keep (kH X.W.nn a)=true):=fun{a} ha=>by refine R2 hr ?_;rewrite[bC];exact⟨fun h=>h.2,fun h=>⟨aQ ha,h⟩⟩
   have e1:(ids.map (kH X.W.nn)).filter (fun x=>decide (x∈r))=r:=by refine R2 hr ?_;exact Cf _ _
   refine jt (lP (lc (a:=false || !decide (r=(ids.map (kH X.W.nn)).filter fun x=>decide (x∈r))) (mC rfl fun Y=>lC (iN rfl (iN (nZ (g:=V.bytes) (xs:=ids.map (kH X.W.nn)) (Ev:=V.bytes) (fun x=>decide (x∈r)) [.val (.lst (nms r))] rfl rfl rfl (fun x Y=>iN rfl (iN rfl (jF (wT _ _)))) (fun Y Y Y=>rfl) (ab hml (by decide))) (jF (uj _ _)))) rfl) ?_) rfl) ?_
   .exact R1 e1 (R1 (decide_eq_true rfl) rfl)
   refine mt (g:=fun(k:Nat)=>V.int (k:Int)) (xs:=ids) (fun xs σ=>∃J,nH J/\J 43=.val (.lst (nms r))/\(∀x∈xs,x∈ids)/\σ=X.τ ids sd [] J) ⟨up J 43 (.lst (nms r)),hJ.up _ _,rfl,fun Y h=>h,rfl⟩ rfl ?_ ?_
   .rintro a xs σ ⟨J,hJ,Lc,hx,rfl⟩;obtain⟨ha,hx⟩:=an.mp hx;have hal:=I.le a ha;obtain⟨hk1,hk2⟩:=hk a ha;rw[hrl] at hk1;refine kW (Wl.sv hJ 41 _) ?_;refine jt (σ1:=X.τ ids sd [] (up (up J 41 (.int a)) 45 (.lst (nats (ids.filter fun b=>decide (b≠a)&&(dn (1<<<b) X.rs (every (X.n+1))).testBit a))))) (iN (nZ (xs:=ids) (g:=fun(k:Nat)=>V.int (k:Int)) (Ev:=fun(k:Nat)=>V.int (k:Int)) (fun b=>decide (b≠a)&&(dn (1<<<b) X.rs (every (X.n+1))).testBit a) [.val (.int a),.val (.int (every (X.n+1):Nat)),.val (.ref 9)] rfl rfl rfl (fun b hb=>lZ (iN rfl (iN rfl (jF (ul b a)))) fun Y=>ly (Ll K (I.le b hb) rfl rfl rfl rfl) rfl) (fun Y Y Y=>rfl) (ab I.l4 (by decide))) (iN (pd (Wl.sv (hJ.up _ _) 45 _)) rfl)) ?_
    have hmh:∀b,b∈ids.filter (fun b=>decide (b≠a)&&(dn (1<<<b) X.rs (every (X.n+1))).testBit a)↔b∈ids/\b≠a/\(dn (1<<<b) X.rs (every (X.n+1))).testBit a=true:=fun b=>by rewrite[bC];refine R1 (aW ..) ?_;rw[decide_eq_true_iff]
    have ND:(ids.filter (fun b=>decide (b≠a)&&(dn (1<<<b) X.rs (every (X.n+1))).testBit a)).length<=4:=ab (bJ _ _) I.l4;generalize ids.filter (fun b=>decide (b≠a)&&(dn (1<<<b) X.rs (every (X.n+1))).testBit a)=sr at hmh ND;refine qg (c:=!decide (kH X.W.nn a∈r)) (iN (iN rfl (iN rfl (K.nm hal))) (iN (Wl.E3 (J:=up (up J 41 (.int a)) 45 (.lst (nats sr))) (i:=43) (v:=.lst (nms r)) Lc) (jF (uT _ _)))) (fun hc=>?_) fun hc=>?_
    .have hkp:keep (kH X.W.nn a)=false:=by
      cases q:keep (kH X.W.nn a) with
      |false=>rfl
      |true=>rw[decide_eq_true ((hmem ha).mpr q)] at hc;cases hc
     obtain⟨b,hb1,hb2,hb3⟩:=hk1 hkp
     have hne:sr≠[]:=fun e=>by have:=(hmh b).mpr ⟨hb1,hb2,hb3⟩;rw[e] at this;cases this
     exact kM (lP (iN rfl (iN rfl (jF ((pQ sr []).trans (congrArg some (decide_eq_false hne)))))) rfl) (mi ⟨up (up J 41 (.int a)) 45 (.lst (nats sr)),(hJ.up _ _).up _ _,Lc,hx,rfl⟩)
    .have hkp:keep (kH X.W.nn a)=true:=(hmem ha).mp (Classical.byContradiction fun q=>by rw[decide_eq_false q] at hc;cases hc)
     have e0:sr.filter (fun b=>al a (1<<<a) (1<<<b) X.rs X.rk)=[]:=by rw[cZ];intro b hb;obtain⟨hb1,hb2,_⟩:=(hmh b).mp hb;refine R1 (hk2 hkp b hb1 hb2) ?_;decide
     have shl:∀{b:Nat},b∈ids->binI .LShift 1 (b:Int)=some ((1<<<b:Nat):Int):=fun hb=>lB _ (ab (aG (I.le _ hb)) hN);refine kM (lP (lc (a:=!decide (sr.filter (fun b=>al a (1<<<a) (1<<<b) X.rs X.rk)=[])) (iN (nZ (xs:=sr) (g:=fun(k:Nat)=>V.int (k:Int)) (Ev:=fun(k:Nat)=>V.int (k:Int)) (fun b=>al a (1<<<a) (1<<<b) X.rs X.rk) [.val (.int a),.val (.lst (rks X.rk)),.val (.ref 9)] rfl rfl rfl (fun b hb=>iN (iN (jH rfl (jH (iN rfl (iN rfl (kc (shl ha)))) (jH (iN rfl (iN rfl (kc (shl ((hmh b).mp hb).1)))) rfl))) (Bl (X.he []) _ (.ref 9) (.lst (rks X.rk)) X.rs X.rk a (1<<<a) (1<<<b) (kr rfl) oZ (hrl.symm▸hN) (K.LY.trans hrl.symm))) rfl) (fun Y Y Y=>rfl) (ab ND (by decide))) (iN rfl (jF (uk _)))) ?_) rfl) (mi ⟨up (up J 41 (.int a)) 45 (.lst (nats sr)),(hJ.up _ _).up _ _,Lc,hx,rfl⟩);exact R1 e0 (R1 (decide_eq_true rfl) rfl)
   .rintro σ ⟨J,-,-,-,rfl⟩;exact hQ _ ⟨_,rfl⟩
 .rintro σ ⟨J,rfl⟩;obtain⟨r1,n1,h1⟩:=zZ K.wd rfl (K.gd []) (X.vv ids sd J) [] (by decide);obtain⟨r2,n2,h2⟩:=zZ K.wd rfl (K.gd []) (X.vv ids sd J) [[122,122]] (by decide);cases n1;cases n2;exact kM (lP (lc (mC (iN (iN rfl h1) rfl) fun Y=>lC (iN (iN rfl h2) rfl) rfl) rfl) rfl) (hQ _ Wl.tl)
section
variable{X:Wl}(K:X.Ok)
include K
theorem Wl.Ok.bit{k e:Nat}: e∈lu X.rs k↔e∈X.W.kk.getD k []/\X.W.gg.getD e false=false:=by rw[ln K.wo.gr.down,rj rfl,zC K.B.st,mZ];exact⟨fun h=>⟨h.1,h.2.1⟩,fun h=>⟨h.1,h.2,K.B.st e⟩⟩
theorem Wl.Ok.h4(y:Nat): (lu X.rs y).length<=4:=
 ab (mA (U:=X.W.kk.getD y []) (dQ.filter _ eX) fun x hx=>(K.bit.mp hx).1) (K.B.DL y)
theorem Wl.Ok.z1{x:Nat}(h:RR X.rs X.n x): x=X.n:=by
 induction h with
 |refl _=>rfl
 |step _ hz _ ih=>
  rw[ih] at hz;have:=(K.bit.mp hz).1;rw[K.B.zk] at this;cases this
theorem Wl.Ok.z2{x:Nat}(h:RR X.rs x X.n): x=X.n:=by
 cases h with
 |refl _=>rfl
 |@step m _ _ hz _=>
  have h1:=(K.bit.mp hz).1;have h2:=K.B.sF m _ h1;rw[ru (ab (aE K.B.bw.l2) h2)] at h1;cases h1
end
inductive Vd(X:Wl)(ids:List Nat)(sd:Nat): Option (List Nat)->Prop
 |same (k:Nat) (cs:List Nat) (hd:X.E.dd=0\/ids.length=2) (e:ids=k::cs) (h:k∈cs):Vd X ids sd (some [k])
 |gone (k:Nat) (cs:List Nat) (hd:X.E.dd=0\/ids.length=2) (e:ids=k::cs) (h:k∉cs) (hz:X.n∈ids/\X.E.sb=false):Vd X ids sd none
 |base (k:Nat) (cs l:List Nat) (hd:X.E.dd=0\/ids.length=2) (e:ids=k::cs) (h:k∉cs) (hz:¬ (X.n∈ids/\X.E.sb=false)) (hb:uH l X.rs X.rk (1<<<k) sd):Vd X ids sd (some l)
 |lost (k:Nat) (cs:List Nat) (hd:¬ (X.E.dd=0\/ids.length=2)) (e:ids=k::cs) (h3:cs.length<=3) (hf:fo X.rs (!X.E.sb) cs [k]=none):Vd X ids sd none
 |oct (k:Nat) (cs l due:List Nat) (hd:¬ (X.E.dd=0\/ids.length=2)) (e:ids=k::cs) (h3:cs.length<=3) (hf:fo X.rs (!X.E.sb) cs [k]=some due) (hl:∀x∈l,x<X.n+1) (hn:l.length<=9261) (yx:due.length<64)
   (h1:∀b:Nat,(∀x,b.testBit x=true↔x<X.n+1/\∀k∈ids,RR X.rs k x)->(∀k∈l,b.testBit k=true)/\∀k∈tp b X.rs,k∈l)
   (h2:fa (dn (sd|||1<<<k) X.rs (every (X.n+1))) X.rs X.rk=true->l.Perm due):Vd X ids sd (some l)
theorem Ki{X:Wl}(K:X.Ok){ids:List Nat}(I:Io X ids)(hdd:X.E.dd≠3){sd:Nat}(hsd:∀x,sd.testBit x=true↔x∈ids.drop 1){res:Option (List Nm)}
  (h1:(X.E.dd=0\/ids.length=2)->MB X.G (ids.map (kH X.W.nn)) res) (h2:¬ (X.E.dd=0\/ids.length=2)->OB X.G (ids.map (kH X.W.nn)) res):∃so,res=so.map (eC (kH X.W.nn))/\Vd X ids sd so:=by
 have hrl:=K.rl;have hz:X.rs.length - 1=X.n:=by exact R1 hrl rfl
 by_cases hd:X.E.dd=0\/ids.length=2
 .have l2:=I.l2;cases ids with
  |nil=>exact absurd l2 (by decide)
  |cons k cs=>
   obtain⟨f1,f2⟩:=IY K.wo K.kn (ag (ab (aE hrl) K.n15) (by decide)) (hrl.symm▸I.le k ac) (fun c hc=>hrl.symm▸I.le c (ad _ hc)) (fun e=>by subst e;exact absurd l2 (show¬ 2<=1 by decide)) (h1 hd);rw[hz] at f2;by_cases hk:k∈cs
   .exact⟨some [k],f1 hk,.same k cs hd rfl hk⟩
   .obtain⟨f3,f4⟩:=f2 hk;by_cases hg:X.n∈k::cs/\X.E.sb=false
    .exact⟨none,f3 hg,.gone k cs hd rfl hk hg⟩
    .obtain⟨l,e,_,hB⟩:=f4 hg;exact⟨some l,e,.base k cs l hd rfl hk hg (hB sd hsd)⟩
 .have l3:3<=ids.length:=cX I.l2 fun e=>hd (.inr e.symm);obtain⟨k,cs,rfl,h3,h⟩:=IT K.wo K.kn K.wd K.h4 hrl K.f.lo K.f.hi (fun x=>K.z1) (fun x=>K.z2) (I.Ot hdd) l3 (h2 hd);rcases h with ⟨hf,hres⟩ | ⟨due,l,hf,hres,hl,hn,yx,g1,g2⟩
  .exact⟨none,hres,.lost k cs hd rfl h3 hf⟩
  .rw[hrl] at hl g1;refine⟨some l,hres,.oct k cs l due hd rfl h3 hf hl hn yx g1 fun hf=>g2 _ (hrl.symm▸hf) fun j hj=>?_⟩;refine R1 (bG ..) (R1 (bj ..) ?_);rewrite[hsd,kD];rcases av.mp hj with rfl | hj
   .exact .inr rfl
   .exact .inl hj
theorem Vd.lt{X:Wl}{ids:List Nat}{sd:Nat}(K:X.Ok)(I:Io X ids){l:List Nat}(h:Vd X ids sd (some l)): (∀x∈l,x<X.n+1)/\l.length<=9261:=by
 cases h with
 |same k cs hd e h=>exact⟨fun x hx=>af.mp hx▸I.le k (e▸ac),(show 1<=9261 by decide)⟩
 |base k cs l hd e h hz hb=>exact⟨K.rl▸hb.lt,ab (aG hb.len) (by decide)⟩
 |oct k cs l due hd e h3 hf hl hn yx h1 h2=>exact⟨hl,hn⟩
theorem xg{α:Type}{asg:V->P Unit}{test:P Bool}{pe:List V->P (List V)}{g:α->V}(out:α->List V)(Gd:AS->Prop): ∀(l:List α) (acc:List V) (σ:AS),Gd σ->(∀x∈l,∀acc σ,Gd σ->∃σ1,asg (g x) σ=.ok () σ1/\((test σ1=.ok false σ1/\out x=[]/\Gd σ1)\/(test σ1=.ok true σ1/\∃σ2,pe acc σ1=.ok (acc++out x) σ2/\Gd σ2)))->
  ∃σ',Gd σ'/\P.lg asg test pe (l.map g) acc σ=.ok (acc++l.flatMap out) σ'
 |[],acc,σ,h,_=>⟨σ,h,congrArg (Res.ok · σ) (ba acc).symm⟩
 |x::l,acc,σ,h,turn=>by
  have ih:=fun acc σ h=>xg out Gd l acc σ h fun y hy=>turn y (ad _ hy);obtain⟨σ1,h1,h2⟩:=turn x ac acc σ h;refine R1 aR (R1 cx ?_);unfold P.lg;rcases h2 with ⟨h2,h3,h4⟩ | ⟨h2,σ2,h3,h4⟩
  .obtain⟨σ',g1,g2⟩:=ih acc σ1 h4;refine⟨σ',g1,iN h1 (iN h2 ?_)⟩;refine R1 h3 ?_;exact g2
  .obtain⟨σ',g1,g2⟩:=ih _ σ2 h4;refine⟨σ',g1,iN h1 (iN h2 (iN h3 ?_))⟩;exact R1 g2 (R1 (ax ..) rfl)
theorem vo:∀l:List Nat,(l.flatMap fun x=>[V.int (x:Nat)])=nats l
 |[]=>rfl
 |x::l=>congrArg (V.int (x:Nat)::·) (vo l)
theorem vD{x:Nat}: ∀l:List Nat,x∉l->(l.flatMap fun k=>if k=x then [V.int (k:Nat)] else [])=[]
 |[],_=>rfl
 |k::l,h=>by
  exact R1 cx (R1 (if_neg (show k≠x from fun e=>h (e▸ac))) (R1 (vD l fun q=>h (ad _ q)) rfl))
theorem yB{x:Nat}: ∀l:List Nat,l.Nodup->x∈l->(l.flatMap fun k=>if k=x then [V.int (k:Nat)] else [])=[V.int (x:Nat)]
 |k::l,nd,h=>by
  obtain⟨n1,n2⟩:=be.mp nd;refine R1 cx ?_;rcases av.mp h with rfl | h
  .exact R1 (if_pos rfl) (R1 (vD l n1) rfl)
  .exact R1 (if_neg (show k≠x from fun e=>n1 (e▸h))) (R1 (yB l n2 h) rfl)
theorem GU{X:Wl}(K:X.Ok){L:List AO}{vs:List Slot}{cap:List (Option (Nat×Bool))}{its:P (List V)}{l:List Nat}(hl:∀x∈l,x<X.n+1)(hn:l.length<=9261)(hits:its ⟨X.he L,vs⟩=.ok (nms (l.map (kH X.W.nn))) ⟨X.he L,vs⟩)(hcap:kI cap vs=[.unset,.unset,.unset,.val (.int (X.n:Int)),.val (.ref 1)]):
  P.mI cap its (fun x=>P.kd 1 x) (P.pure true) ((((((P.var 3).bind fun a=>(P.pure (V.int 1)).bind fun b=>P.bin Operator.Add a b).bind fun v=>(P.pure []).bind fun vs=>P.pure (v::vs)).bind fun x=>P.range x).bind P.items).ub (fun x=>P.kd 2 x)
    (((P.var 4).bind fun a=>(P.var 2).bind fun i=>P.index a i).bind fun a=>(P.var 1).bind fun b=>P.cmp CmpOp.Eq a b) (P.var 2)) ⟨X.he L,vs⟩=.ok (.lst (nats l)) ⟨X.he L,vs⟩:=by
 obtain⟨_,⟨s1,s2,-,-,rfl⟩,h⟩:=xg (asg:=fun x=>P.kd 1 x) (test:=P.pure true) (pe:=(((((P.var 3).bind fun a=>(P.pure (V.int 1)).bind fun b=>P.bin Operator.Add a b).bind fun v=>(P.pure []).bind fun vs=>P.pure (v::vs)).bind fun x=>P.range x).bind P.items).ub (fun x=>P.kd 2 x)
    (((P.var 4).bind fun a=>(P.var 2).bind fun i=>P.index a i).bind fun a=>(P.var 1).bind fun b=>P.cmp CmpOp.Eq a b) (P.var 2)) (g:=fun x=>.bytes (kH X.W.nn x)) (fun(x:Nat)=>[V.int (x:Nat)]) (fun σ=>∃s1 s2:Slot,s1.nf=true/\s2.nf=true/\σ=⟨X.he L,[.unset,s1,s2,.val (.int (X.n:Int)),.val (.ref 1)]⟩) l [] ⟨X.he L,[.unset,.unset,.unset,.val (.int (X.n:Int)),.val (.ref 1)]⟩ ⟨_,_,rfl,rfl,rfl⟩ (by
   rintro x hx acc _ ⟨s1,s2,q1,q2,rfl⟩;have GC:=hl x hx
   obtain⟨σ',hG,h⟩:=xg (asg:=fun x=>P.kd 2 x) (test:=((P.var 4).bind fun a=>(P.var 2).bind fun i=>P.index a i).bind fun a=>(P.var 1).bind fun b=>P.cmp CmpOp.Eq a b) (pe:=P.mU (P.var 2)) (g:=fun(k:Nat)=>V.int (k:Int)) (fun k=>if k=x then [V.int (k:Nat)] else []) (fun σ=>∃s1 s2:Slot,s1.nf=true/\s2.nf=true/\σ=⟨X.he L,[.unset,.val (.bytes (kH X.W.nn x)),s2,.val (.int (X.n:Int)),.val (.ref 1)]⟩) (aX (X.n+1)) acc ⟨X.he L,[.unset,.val (.bytes (kH X.W.nn x)),s2,.val (.int (X.n:Int)),.val (.ref 1)]⟩ ⟨s2,s2,q2,q2,rfl⟩ (by
     rintro k hk acc _ ⟨s1,s2,q1,q2,rfl⟩;have hk:=a6.mp hk;refine⟨_,kh rfl q2,?_⟩;have ht:(((P.var 4).bind fun a=>(P.var 2).bind fun i=>P.index a i).bind fun a=>(P.var 1).bind fun b=>P.cmp CmpOp.Eq a b) ⟨X.he L,[.unset,.val (.bytes (kH X.W.nn x)),.val (.int (k:Nat)),.val (.int (X.n:Int)),.val (.ref 1)]⟩=.ok (kH X.W.nn k == kH X.W.nn x) ⟨X.he L,[.unset,.val (.bytes (kH X.W.nn x)),.val (.int (k:Nat)),.val (.int (X.n:Int)),.val (.ref 1)]⟩:=iN (iN rfl (iN rfl (K.nm hk))) (iN rfl (jF rfl));by_cases e:k=x
     .refine R1 (if_pos e) ?_;rw[beq_iff_eq.mpr (congrArg (kH X.W.nn) e)] at ht;exact .inr ⟨ht,_,iN rfl rfl,.val (.int (k:Nat)),.val (.int (k:Nat)),rfl,rfl,rfl⟩
     .refine R1 (if_neg e) ?_;rw[beq_eq_false_iff_ne.mpr fun q=>e (K.B.inj _ _ hk GC q)] at ht;exact .inl ⟨ht,rfl,.val (.int (k:Nat)),.val (.int (k:Nat)),rfl,rfl,rfl⟩)
   rw[yB _ eX (a6.mpr GC)] at h;obtain⟨_,s2',-,Kv,rfl⟩:=hG;exact⟨_,kh rfl q1,.inr ⟨rfl,_,iN (lK (n:=X.n+1) (ab K.n15 (by decide)) rfl) h,_,_,rfl,Kv,rfl⟩⟩)
 rw[vo,ci] at h;unfold P.mI;refine R1 hits ?_;dsimp only;refine R1 hcap ?_;rewrite[nms];refine R1 bA ?_;refine R1 (show l.map (V.bytes∘kH X.W.nn)=l.map (fun x=>V.bytes (kH X.W.nn x)) from rfl) (R1 h ?_);dsimp only;exact if_pos (ab (aE (ak ..)) (ab hn (show 9261<=1000000 by decide)))
theorem Ej{e:P V}{p:P AF}{i:Nat}{s:Slot}{H:List AO}{vs vs':List Slot}{res:Option (List Nm)}(he:e ⟨H,vs⟩=xN (rL res) ⟨H,vs⟩)(hi:vs[i]?=some s)(hs:s.nf=true)(hx:p ⟨H,vs⟩=.ok .next ⟨H,vs.set i (.val .none)⟩)(hv:vs.set i (.val (Iy res))=vs'):
  P.try_ (e.bind fun v=>(P.kd i v).next) p ⟨H,vs⟩=.ok .next ⟨H,vs'⟩:=by
 subst hv;cases res with
 |none=>exact pN (lY he) hx
 |some l=>exact uc (iN he (iN (kh hi hs) rfl))
theorem BG{a b:List Nat}(h:a.Perm b): sortI (a.map fun(n:Nat)=>(n:Int))=sortI (b.map fun(n:Nat)=>(n:Int)):=by have tot:∀a b:Int,(decide (a<=b) || decide (b<=a))=true:=fun a b=>(bj _ _).mpr ((fe a b).imp decide_eq_true decide_eq_true);have tr:∀a b c:Int,decide (a<=b)=true->decide (b<=c)=true->decide (a<=c)=true:=fun a b c h1 h2=>decide_eq_true (cT (of_decide_eq_true h1) (of_decide_eq_true h2));have Ni:∀l:List Int,(sortI l).Pairwise (·<=·):=fun l=>(cu (le:=fun(a b:Int)=>decide (a<=b)) tr tot l).imp fun h=>of_decide_eq_true h;exact mh (((bT _ _).trans (h.map _)).trans (bT _ _).symm) (Ni _) (Ni _)
theorem sx{σ:AS}(a:List Int)(b:List Nat): nv σ .Eq (.lst (a.map V.int)) (.lst (nats b))=some (decide (a=b.map fun(n:Nat)=>(n:Int))):=by refine R1 (show nats b=(b.map fun(n:Nat)=>(n:Int)).map V.int from(bA ..).symm) ?_;exact CA 4 a _
theorem yP{σ:AS}(a:List Int)(b:List Nat): nv σ .NotEq (.lst (a.map V.int)) (.lst (nats b))=some (!decide (a=b.map fun(n:Nat)=>(n:Int))):=by show(Ec σ _ _).map not=_;exact R1 (show Ec σ (.lst (a.map V.int)) (.lst (nats b))=_ from sx (σ:=σ) a b) rfl
theorem yO{σ:AS}(a b:List Nat): nv σ .NotEq (.lst (nats a)) (.lst (nats b))=some (!decide (a=b)):=by show(Ec σ (.lst (nats a)) (.lst (nats b))).map not=_;exact R1 (show Ec σ (.lst (nats a)) (.lst (nats b))=_ from pQ (σ:=σ) a b) rfl
theorem xh{H:List AO}{vs:List Slot}{T:Nat->Bool}{cap:List (Option (Nat×Bool))}{its:P (List V)}{test:P Bool}{l:List Nat}{s0 s1:Slot}(fr:List Slot)(hits:its ⟨H,vs⟩=.ok (nats l) ⟨H,vs⟩)(hcap:kI cap vs=s0::s1::fr)(hs:s1.nf=true)
  (ht:∀x∈l,test ⟨H,s0::.val (.int (x:Nat))::fr⟩=.ok (T x) ⟨H,s0::.val (.int (x:Nat))::fr⟩) (h0:∀x∈l,T x=false) (hl:l.length<=9261) :
  ((P.comp cap its (fun x=>P.kd 1 x) test (P.var 1)).bind fun a=>((P.pure []).bind P.list).bind fun b=>P.cmp CmpOp.NotEq a b) ⟨H,vs⟩=.ok false ⟨H,vs⟩:=by
 have h:=nZ (H:=H) (vs:=vs) (cap:=cap) (its:=its) (test:=test) (ep:=P.var 1) (g:=fun(x:Nat)=>V.int (x:Int)) (Ev:=fun(x:Nat)=>V.int (x:Int)) T fr hits hcap hs ht (fun Y Y Y=>rfl) (ab hl (by decide));rw[cZ.mpr fun x hx=>by refine R1 (h0 x hx) ?_;decide] at h;exact iN h rfl
theorem Wl.JH{X:Wl}{ids:List Nat}{sd:Nat}{J:Nat->Slot}{i:Nat}{v:V}(h:J i=.val v)(hi:autoParam (tvs.contains i=true) PySem.W.call_K._auto_4): kI [none,none,some (i,true)] (X.vv ids sd J)=[.unset,.unset,.val v]:=by show [Slot.unset,Slot.unset,Bk true (X.vv ids sd J)[i]?]=_;exact R1 ((Wl.Fd (v:=v) i (cG.mp hi)).1) (R1 h rfl)
theorem IS{G:GD}{ids:List Nm}{res:Option (List Nm)}(h:ids.length=2)(hr:OB G ids res): MB G ids res:=by
 cases ids with
 |nil=>cases h
 |cons a l=>cases l with
  |nil=>cases h
  |cons b l=>cases l with
   |nil=>exact hr
   |cons c l=>cases h
noncomputable def J1:{r:(P AF×P AF)×P AF // ∃a b c t,nW.1.2.2.1=P.seq a (P.seq b (P.seq c (P.seq (P.bind t fun c=>if c=true then r.1.1 else r.1.2) r.2)))}:=⟨((_,_),_),_,_,_,_,rfl⟩
inductive NS(X:Wl)(ids:List Nat)(sd:Nat)(J:Nat->Slot): AS->Prop
 |mk (res:Option (List Nm)) (h1:(X.E.dd=0\/ids.length=2)->MB X.G (ids.map (kH X.W.nn)) res) (h2:¬ (X.E.dd=0\/ids.length=2)->OB X.G (ids.map (kH X.W.nn)) res):NS X ids sd J (X.τ ids sd [] (up J 43 (Iy res)))
inductive M9(X:Wl)(ids:List Nat)(sd:Nat): AS->Prop
 |mk (J:Nat->Slot):M9 X ids sd (X.τ ids sd [] J)
inductive Na(X:Wl)(ids:List Nat)(sd:Nat)(l due xs:List Nat): AS->Prop
 |mk (d:List Nat) (J:Nat->Slot) (b:Nat) (hx:ids=d++xs) (hJ:nH J) (Jp:J 46=.val (.lst (nats l))) (Lb:J 47=.val (.lst (nats due))) (La:J 48=.val (.int (b:Nat))) (hb:∀x,b.testBit x=true↔x<X.n+1/\∀j∈d,RR X.rs j x):Na X ids sd l due xs (X.τ ids sd [] J)
theorem zx{b n:Nat}(h:b<n)(hn:n<=1000): binI .LShift 1 (b:Int)=some ((1<<<b:Nat):Int):=lB _ (ab (aG h) hn)
section
variable{X:Wl}(K:X.Ok){J:Nat->Slot}{ids:List Nat}{sd k:Nat}{cs l due:List Nat}{us:List V}{Q:Res AF->Prop}(e:ids=k::cs)(hQ:∀σ,M9 X ids sd σ->Q (.ok .next σ))
include e hQ
theorem Ge(h:k∈cs): Q (J1.1.1.1 (X.τ ids sd [] (up (up J 43 (.lst us)) 46 (.lst (nats [k]))))):=by subst e;exact kM (oh (iN (iN rfl rfl) (iN (iN rfl (iN rfl pO)) (jF ((qP k cs).trans (congrArg some (decide_eq_true h)))))) (lP (lc (mC (a:=false) rfl fun Y=>lC (iN rfl (iN (iN (iN rfl rfl) rfl) (jF (yO [k] [k])))) rfl) (by exact R1 (decide_eq_true rfl) rfl)) rfl)) (hQ _ ⟨_⟩)
theorem Gg(h:k∉cs)(hz:X.n∈ids/\X.E.sb=false): Q (J1.1.1.1 (X.τ ids sd [] (up (up J 43 .none) 46 (.lst [])))):=by subst e;exact kM (lP (iN (iN rfl rfl) (iN (iN rfl (iN rfl pO)) (jF ((qP k cs).trans (congrArg some (decide_eq_false h)))))) (oh (lc (lZ (iN rfl (iN rfl (jF (qP _ _)))) fun Y=>ly (mu rfl) rfl) (by exact R1 (decide_eq_true hz.1) (R1 hz.2 rfl))) (lP rfl rfl))) (hQ _ ⟨_⟩)
include K
theorem Gi(hk:k<X.n+1)(h:k∉cs)(hz:¬ (X.n∈ids/\X.E.sb=false))(hb:uH l X.rs X.rk (1<<<k) sd): Q (J1.1.1.1 (X.τ ids sd [] (up (up J 43 (.lst us)) 46 (.lst (nats l))))):=by
 subst e;have hN:X.n+1<=1000:=ab K.n15 (by decide)
 have hg:(decide (X.n∈k::cs)&&!X.E.sb)=false:=by
  cases q:X.E.sb with
  |true=>exact fC _
  |false=>exact R1 (decide_eq_false fun w=>hz ⟨w,q⟩) rfl
 exact kM (lP (iN (iN rfl rfl) (iN (iN rfl (iN rfl pO)) (jF ((qP k cs).trans (congrArg some (decide_eq_false h)))))) (lP (lc (lZ (iN rfl (iN rfl (jF (qP _ _)))) fun Y=>ly (mu rfl) rfl) hg) (lP (mC (a:=false) (b:=false) rfl fun Y=>lC (mu (a:=true) (iN (iN (jH rfl (jH (iN rfl (iN (iN rfl rfl) (kc (zx hk hN)))) rfl)) (G4 (X.he []) _ _ _ l X.rs X.rk (1<<<k) sd (kr rfl) oZ (K.rl.symm▸hN) (K.LY.trans K.rl.symm) hb)) rfl)) rfl) rfl))) (hQ _ ⟨_⟩)
theorem Gf(hJ:nH J)(hi:∀x∈ids,x<X.n+1)(h3:cs.length<=3)(hf:fo X.rs (!X.E.sb) cs [k]=none): Q (J1.1.1.2 (X.τ ids sd [] (up (up J 43 .none) 46 (.lst [])))):=by subst e;have yv:=EG (X.he []) (X.vv (k::cs) sd (up (up J 43 .none) 46 (.lst []))) (.ref 9) X.rs k cs (!X.E.sb) (kr rfl) (K.rl.symm▸bE _) (ab (K.rl.symm▸K.n15) (by decide)) h3 (K.rl.symm▸hi);rw[hf] at yv;exact kM (oD (iN (iN rfl yv) (iN (Wl.sv ((hJ.up _ _).up _ _) 47 _) rfl)) (oh rfl (lP rfl rfl))) (hQ _ ⟨up (up (up J 43 .none) 46 (.lst [])) 47 .none⟩)
theorem I3(GH:nH J)(Jp:J 46=.val (.lst (nats l))){ns:List Nm}(Lc:J 43=.val (.lst (nms ns)))(hi:∀x∈ids,x<X.n+1)(h3:cs.length<=3)(hf:fo X.rs (!X.E.sb) cs [k]=some due)(hn:l.length<=9261)(yx:due.length<64)
  (h1:∀b:Nat,(∀x,b.testBit x=true↔x<X.n+1/\∀k∈ids,RR X.rs k x)->(∀k∈l,b.testBit k=true)/\∀k∈tp b X.rs,k∈l)
  (h2:fa (dn (sd|||1<<<k) X.rs (every (X.n+1))) X.rs X.rk=true->l.Perm due):Q (J1.1.1.2 (X.τ ids sd [] J)):=by
 subst e;delta J1;dsimp only;have hN:X.n+1<=1000:=ab K.n15 (by decide);have l9:uY (X.he []) (.ref 9) (nats X.rs):=kr rfl;have KS:X.rs.length<=1000:=K.rl.symm▸hN;have hkl:=K.LY.trans K.rl.symm;have yv:=fun vs=>EG (X.he []) vs (.ref 9) X.rs k cs (!X.E.sb) l9 (K.rl.symm▸bE _) (ab (K.rl.symm▸K.n15) (by decide)) h3 (K.rl.symm▸hi);rw[hf] at yv;refine jt (Wl.asg GH 47 (iN rfl (yv _))) (IH (mC (a:=false) (b:=false) rfl fun Y=>lC (iN (Wl.E3 (J:=up J 47 (.lst (nats due))) (i:=43) (v:=.lst (nms ns)) Lc) rfl) rfl) ?_);refine jt (Wl.asg (GH.up _ _) 48 (v:=.int (every (X.n+1):Nat)) rfl) ?_;refine ou (Na X (k::cs) sd l due []) (fun Y=>False) (fun Q hQ Y=>?_) ?_ fun Y h=>h.elim
 .refine mt (g:=fun(k:Nat)=>V.int (k:Int)) (xs:=k::cs) (Na X (k::cs) sd l due) (.mk [] (up (up J 47 (.lst (nats due))) 48 (.int (every (X.n+1):Nat))) _ rfl ((GH.up _ _).up _ _) Jp rfl rfl fun x=>?_) rfl ?_ hQ
  .rw[rQ,decide_eq_true_iff];exact⟨fun h=>⟨h,fun k hk=>nomatch hk⟩,fun h=>h.1⟩
  .rintro j xs _ ⟨d,J,b,hx,hJ,Jp,Lb,La,hb⟩;have hj:=hi j (hx▸aj _ ac);refine kW (Wl.sv hJ 18 _) (kM (Wl.asg (hJ.up 18 _) 48 (iN (Wl.E3 (J:=up J 18 (.int j)) (i:=48) (v:=.int (b:Nat)) La) (iN (iN (jH (iN rfl (iN rfl (kc (zx hj hN)))) rfl) (qQ (X.he []) _ _ X.rs (1<<<j) (every (X.n+1)) l9 KS)) (kc (qe _ _))))) (mi (.mk (d++[j]) (up (up J 18 (.int j)) 48 (.int (b&&& dn (1<<<j) X.rs (every (X.n+1)):Nat))) (b&&& dn (1<<<j) X.rs (every (X.n+1))) (hx.trans (ax d [j] xs).symm) ((hJ.up _ _).up _ _) Jp Lb rfl fun x=>?_)));have h2:=uh (x:=x) K.wo.gr.down (K.rl.symm▸hj);rw[K.rl] at h2;rw[bQ,aW,hb,h2];exact⟨fun h=>⟨h.1.1,fun i hi=>(aA.mp hi).elim (h.1.2 i) fun q=>af.mp q▸h.2⟩,fun h=>⟨⟨h.1,fun i hi=>h.2 i (ai _ hi)⟩,h.2 j (aj _ ac)⟩⟩
 rintro _ ⟨d,J,b,hx,hJ,Jp,Lb,La,hb⟩;obtain⟨o1,o2⟩:=h1 b (hx.trans (ba d)▸hb);have htl:(tp b X.rs).length<=9261:=ab (bJ _ _) (ab (aE (br ..)) (ab KS (by decide)));have htop:=fun vs=>EF (X.he []) vs (.ref 9) X.rs b l9 KS;generalize tp b X.rs=row at o2 htl htop;refine jt (Wl.asg hJ 49 (iN (jH (Wl.E3 La) rfl) (htop _))) ?_;have r46:P.cvar 46 ⟨X.he [],X.vv (k::cs) sd (up J 49 (.lst (nats row)))⟩=.ok (.lst (nats l)) _:=Wl.E3 (i:=46) (J:=up J 49 (.lst (nats row))) (v:=.lst (nats l)) Jp;have r47:P.cvar 47 ⟨X.he [],X.vv (k::cs) sd (up J 49 (.lst (nats row)))⟩=.ok (.lst (nats due)) _:=Wl.E3 (i:=47) (J:=up J 49 (.lst (nats row))) (v:=.lst (nats due)) Lb;have OQ:=Wl.JH (X:=X) (ids:=k::cs) (sd:=sd) (J:=up J 49 (.lst (nats row))) (i:=46) (v:=.lst (nats l)) Jp;have OP:=Wl.JH (X:=X) (ids:=k::cs) (sd:=sd) (J:=up J 49 (.lst (nats row))) (i:=47) (v:=.lst (nats due)) Lb;have OO:=Wl.JH (X:=X) (ids:=k::cs) (sd:=sd) (J:=up J 49 (.lst (nats row))) (i:=48) (v:=.int (b:Nat)) La;refine jt (lP (mC (a:=false) (b:=false) (xh (T:=fun x=>!b.testBit x) [.val (.int b)] (iN r46 rfl) OO rfl (fun x Y=>ue rfl rfl) (fun x hx=>by exact R1 (o1 x hx) rfl) hn) fun Y=>lC (xh (T:=fun x=>!decide (x∈l)) [.val (.lst (nats l))] rfl OQ rfl (fun x Y=>iN rfl (iN rfl (jF (oG _ _)))) (fun x hx=>by exact R1 (decide_eq_true (o2 x hx)) rfl) htl) rfl) rfl) ?_;refine qg (c:=fa (dn (sd|||1<<<k) X.rs (every (X.n+1))) X.rs X.rk) (iN (iN (jH (iN (jH (iN rfl (iN (iN rfl (iN rfl (kc (zx (hi k ac) hN)))) (kc (pE _ _)))) rfl) (qQ (X.he []) _ (.ref 9) X.rs (sd|||1<<<k) (every (X.n+1)) l9 KS)) rfl) (EH (X.he []) _ (.ref 9) (.lst (rks X.rk)) X.rs X.rk (dn (sd|||1<<<k) X.rs (every (X.n+1))) l9 oZ KS (aE hkl.symm))) rfl) (fun hc=>?_) fun hc=>hQ _ ⟨_⟩;have hp:=h2 hc;refine kM (lP (lc (mC (a:=false) (b:=decide (sortI (due.map fun(n:Nat)=>(n:Int))=row.map fun(n:Nat)=>(n:Int))&&!decide (sortI (l.map fun(n:Nat)=>(n:Int))=row.map fun(n:Nat)=>(n:Int))) (xh (T:=fun x=>!decide (x∈due)) [.val (.lst (nats due))] (iN r46 rfl) OP rfl (fun x Y=>iN rfl (iN rfl (jF (oG _ _)))) (fun x hx=>by exact R1 (decide_eq_true (hp.mem_iff.mp hx)) rfl) hn) fun Y=>lC (lZ (iN (ud yx (jH r47 rfl)) (iN rfl (jF (sx _ _)))) fun Y=>ly (iN (ud (hp.length_eq.symm▸yx) (jH r46 rfl)) (iN rfl (jF (yP _ _)))) rfl) rfl) ?_) rfl) (hQ _ ⟨_⟩);exact R1 (BG hp) (R1 (Bool.and_not_self ..) rfl)
end
theorem DF{X:Wl}(K:X.Ok){J:Nat->Slot}(hJ:nH J){ids:List Nat}(I:Io X ids)(hdd:X.E.dd≠3){sd:Nat}(hsd:∀x,sd.testBit x=true↔x∈ids.drop 1){Q:Res AF->Prop}(hQ:∀σ,E5 X ids σ->Q (.ok .next σ)): Q (nW.1.2.2.1 (X.τ ids sd [] J)):=by
 delta nW;dsimp only;have hml:(ids.map (kH X.W.nn)).length<=4:=ab (aE (ak ..)) I.l4;have M6:=fun vs ids h=>Dn K.wd rfl (X.he []) vs ids (K.gd []) h;have M5:=fun vs ids h=>Kz K.wd rfl (X.he []) vs ids (K.gd []) h;refine ou (NS X ids sd J) (fun Y=>False) (fun Q hQ Y=>?_) ?_ fun Y h=>h.elim
 .cases hd0:(X.E.dd == 0) with
  |true=>
   obtain⟨res,hr,he⟩:=M6 (X.vv ids sd J) _ (ab hml (by decide));exact kM (r:=.ok .next (X.τ ids sd [] (up J 43 (Iy res)))) (Ej (oh (iN rfl (iN rfl (congrArg (Res.ok · _) hd0))) (iN rfl he)) rfl (hJ 43) (oD (iN rfl (iN (Wl.sv hJ 43 _) rfl)) rfl) rfl) (hQ _ ⟨res,fun Y=>hr,fun h=>(h (.inl (eq_of_beq hd0))).elim⟩)
  |false=>
   obtain⟨res,hr,he⟩:=M5 (X.vv ids sd J) _ hml;exact kM (r:=.ok .next (X.τ ids sd [] (up J 43 (Iy res)))) (Ej (lP (iN rfl (iN rfl (congrArg (Res.ok · _) hd0))) (iN rfl he)) rfl (hJ 43) (oD (iN rfl (iN (Wl.sv hJ 43 _) rfl)) rfl) rfl) (hQ _ ⟨res,fun h=>IS ((ak ..).trans (h.resolve_left (ne_of_beq_false hd0))) hr,fun Y=>hr⟩)
 rintro _ ⟨res,hm1,hm2⟩;obtain⟨so,rfl,vd⟩:=Ki K I hdd hsd hm1 hm2;clear hm1 hm2;refine jt (σ1:=X.τ ids sd [] (up (up J 43 (Iy (so.map (eC (kH X.W.nn))))) 46 (.lst (nats (so.getD []))))) ?_ ?_
 .cases so with
  |none=>exact iN (oh rfl rfl) (iN (Wl.sv (hJ.up _ _) 46 _) rfl)
  |some l=>
   obtain⟨hl,hn⟩:=vd.lt K I;exact iN (lP rfl (GU K hl hn rfl rfl)) (iN (Wl.sv (hJ.up _ _) 46 _) rfl)
 refine jt (σ1:=X.τ ids sd [] (up (up J 43 (Iy (so.map (eC (kH X.W.nn))))) 46 (.lst (nats (so.getD []))))) ?_ ?_
 .cases so with
  |none=>exact lP rfl rfl
  |some l=>
   refine lP (lc (lZ (a:=true) (b:=((nms (l.map (kH X.W.nn))).length:Int) != ((nats l).length:Int)) rfl fun Y=>ly (iN (iN rfl rfl) (iN (iN rfl rfl) rfl)) rfl) ?_) rfl;rewrite[nms,nats];refine R1 (ak ..) (R1 (ak ..) (R1 (ak ..) ?_));exact bne_self_eq_false _
 refine ou (M9 X ids sd) (fun Y=>False) (fun Q hQ Y=>?_) ?_ fun Y h=>h.elim
 .have hD:((X.E.dd == 0) || (((nats ids).length:Int) == 2))=decide (X.E.dd=0\/ids.length=2):=by refine R1 (oy ..) ?_;rewrite[gM];refine R1 (bj ..) ?_;rewrite[beq_iff_eq,beq_iff_eq,decide_eq_true_iff];exact or_congr Iff.rfl ⟨fun h=>et.inj h,fun h=>congrArg et h⟩
  cases vd with
  |same k cs hd e h=>
   refine Kq (lc (mC rfl fun Y=>lC (iN (iN rfl rfl) rfl) rfl) (hD.trans (decide_eq_true hd))) ?_;exact Ge e hQ h
  |gone k cs hd e h hz=>
   refine Kq (lc (mC rfl fun Y=>lC (iN (iN rfl rfl) rfl) rfl) (hD.trans (decide_eq_true hd))) ?_;exact Gg e hQ h hz
  |base k cs l hd e h hz hb=>
   refine Kq (lc (mC rfl fun Y=>lC (iN (iN rfl rfl) rfl) rfl) (hD.trans (decide_eq_true hd))) ?_;exact Gi K e hQ (I.le k (e▸ac)) h hz hb
  |lost k cs hd e h3 hf=>
   refine IH (lc (mC rfl fun Y=>lC (iN (iN rfl rfl) rfl) rfl) (hD.trans (decide_eq_false hd))) ?_;exact Gf K e hQ hJ I.le h3 hf
  |oct k cs l due hd e h3 hf hl hn yx h1 h2=>
   refine IH (lc (mC rfl fun Y=>lC (iN (iN rfl rfl) rfl) rfl) (hD.trans (decide_eq_false hd))) ?_;exact I3 K e hQ ((hJ.up 43 _).up 46 _) rfl rfl I.le h3 hf hn yx h1 h2
 .rintro _ ⟨J⟩;have vx:((X.n:Int) - 1)=((X.n - 1:Nat):Int):=(ct (ab (by decide) K.f.lo)).symm;obtain⟨r1,n1,h1⟩:=M5 (X.vv ids sd J) [] (by decide);obtain⟨r2,n2,h2⟩:=M6 (X.vv ids sd J) [] (by decide);obtain⟨r3,n3,h3⟩:=M5 (X.vv ids sd J) [[122,122]] (by decide);obtain⟨r4,n4,h4⟩:=M6 (X.vv ids sd J) [[122,122],kH X.W.nn (X.n - 1),[122,122]] (show 3<=20 by decide);cases n1;cases n2;cases n3;have n4:r4=some [[122,122]]:=(if_pos (show([122,122]:Nm)∈[kH X.W.nn (X.n - 1),[122,122]] from ad _ ac)).mp n4;subst n4;refine kM (lP (mC (a:=false) (b:=false) (iN (iN rfl h1) rfl) fun Y=>mC (a:=false) (b:=false) (iN (iN rfl h2) rfl) fun Y=>mC (a:=false) (b:=false) (iN (iN rfl h3) rfl) fun Y=>lC (iN (iN (jH rfl (jH rfl (jH rfl (jH (iN (jH rfl (jH (iN rfl (iN rfl ?_)) rfl)) rfl) rfl)))) h4) rfl) rfl) rfl) (hQ _ Wl.tl);refine R1 vx ?_;exact K.nm (bo (db _ _))
theorem Gl(script:List Int){Q:Res AF->Prop}(hQ:∀σ,Q (.ok (.ret (.bool true)) σ)): Q (EJ ⟨[],.val (.lst (oB script))::ev 51 .unset⟩):=by
 refine DH.2 fun E J hJ hfs=>DG.2 hJ hfs fun W J hJ B M=>DE.2 hJ hfs B M fun W J hJ B M=>DC.2 hJ hfs B M fun X J K hJ p hp=>DJ.2 K hp fun ids hI=>DI.2 K hI fun ids I=>zT.2 K hJ I fun J sd hJ hsd=>?_;have e:X.σ [] ids (up (up J 39 (X.as ids)) 40 (.int sd))=X.τ ids sd [] J:=rfl;refine nW.2 (fun Y Q hQ=>?_) (fun h Q hQ=>?_) (fun h Q hQ=>?_) (DB K I fun L vs=>hQ _)
 .refine R1 e ?_;exact Gk K hJ I hQ
 .refine R1 e ?_;exact Gj K hJ I h hQ
 .refine R1 e ?_;exact DF K hJ I h hsd hQ
theorem B4{Φ:Gh}{ρ:List hM}{vs:List g8}{ns:List Int}(h:IntsAre vs ns): ja Φ ρ (oB ns) vs:=by
 induction h with
 |nil=>exact .nil
 |cons n t _ ih=>exact .cons (.int n t) ih
theorem DO{vs:List g8}{ns:List Int}(h:IntsAre vs ns): vs.length=ns.length:=by
 induction h with
 |nil=>rfl
 |cons n t _ ih=>simp[ih]
theorem Rel.drop{B:Base}{C:Ctx}{Φ:Gh}{ρ:List hM}{σ:AS}{s:g9}{a:hM}{m:Str->Option g8}{rest:List (hM×(Str->Option g8))}{o:Obj}(hn:C.kT=(a,m)::rest)(r:Rel B C Φ ρ σ s)(ho:s.heap.get? a=some o): Rel B {C with kT:=rest} (Gh.set Φ a o) ρ σ s:=by
 have tS:C.mine ρ=C.env.locals::a::(rest.map (·.1)++(cellsOf C.slots++ρ)):=by show(C.env.locals::C.kT.map (·.1))++cellsOf C.slots++ρ=_;refine R1 hn ?_;simp
 have hnd:=r.nodup;rw[tS] at hnd;obtain⟨n1,n2⟩:=be.mp hnd;obtain⟨n3,n4⟩:=be.mp n2;have ha:Φ a=none:=(r.own a (by show a∈C.env.locals::C.kT.map (·.1);refine R1 hn ?_;simp)).1;have le:Gh.Le Φ (Gh.set Φ a o):=Gh.mj ha;have ext:Ext Φ ρ (Gh.set Φ a o) ρ:=⟨le,aY _⟩;have no:∀{b},b≠a->Φ b=none->Gh.set Φ a o b=none:=fun hb e=>by unfold Gh.set;refine R1 (if_neg hb) ?_;exact e
 have O9:∀{b},b∈C.mine ρ->b=C.env.locals\/b=a\/b∈rest.map (·.1)++(cellsOf C.slots++ρ):=fun{b} h=>by rw[tS] at h;simpa using h
 refine⟨fun b o e=>le _ _ (r.base b o e),fun b o' e=>?_,r.jO,?_,fun i x c e=>?_,fun i x c v e1 e2=>?_,fun i x c e=>?_,fun p hp=>r.kT p (by refine R1 hn ?_;exact ad _ hp),r.len,fun i o' b e1 e2=>(r.objs i o' b e1 e2).mono ext fun Y h=>h,fun b hb=>?_,fun i b e1 e2=>?_,?_,r.vars,fun P hP=>?_,r.gens,r.os,r.le⟩
 .unfold Gh.set at e;split at e
  .rename_i h;cases e;refine R1 h ?_;exact ho
  .exact r.keep b o' e
 .obtain⟨m',h1,h2⟩:=r.ns;exact⟨m',h1,fun i x v e1 e2=>let ⟨w,k1,k2⟩:=h2 i x v e1 e2;⟨w,k1,k2.mono ext⟩⟩
 .have hc:c≠a:=fun q=>n3 (by refine R2 q ?_;exact aj _ (ai _ (jE e)));exact(r.cells i x c e).mono ext fun e1 e2 Y=>⟨no hc e1,e2,fun Y h=>h⟩
 .obtain⟨w,k1,k2⟩:=r.uN i x c v e1 e2;exact⟨w,k1,k2.mono ext⟩
 .rcases r.nG i x c e with h | h
  .exact .inl h
  .obtain⟨o',e'⟩:=a8.mp h;exact .inr (by exact R1 (le _ _ e') rfl)
 .have hb':b∈C.own:=by
   rcases av.mp hb with rfl | hb
   .exact ac
   .exact ad _ (by refine R1 hn ?_;exact ad _ hb)
  have hba:b≠a:=fun q=>by
   rcases av.mp hb with rfl | hb
   .exact n1 (by refine R1 q ?_;exact ac)
   .exact n3 (by refine R2 q ?_;exact ai _ hb)
  exact⟨no hba (r.own b hb').1,(r.own b hb').2⟩
 .have hba:b≠a:=fun q=>n3 (by refine R2 q ?_;exact aj _ (aj _ (aP e1)));exact⟨no hba (r.live i b e1 e2).1,(r.live i b e1 e2).2⟩
 .show((C.env.locals::rest.map (·.1))++cellsOf C.slots++ρ).Nodup;refine R1 (ax ..) (R1 eP ?_);exact be.mpr ⟨fun h=>n1 (ad _ h),n4⟩
 .obtain⟨⟨ps,t1,t2,t3⟩,p2,p3,p4⟩:=r.tabs P hP;have hPa:P≠a:=fun q=>p4 (by refine R1 tS (R1 q ?_);simp);refine⟨⟨ps,t1,t2,fun pos cv q e1 e2=>(t3 pos cv q e1 e2).mono le⟩,no hPa p2,p3,fun h=>p4 ?_⟩;refine R1 tS ?_;have h:P∈(C.env.locals::rest.map (·.1))++cellsOf C.slots++ρ:=h;rw[ax,eP] at h;rcases av.mp h with h | h
  .refine R1 h ?_;exact ac
  .exact ad _ (ad _ h)
section
variable{B:Base}
theorem KH:BodyOk B 5 180 EJ:=EL.2
end
theorem GJ(B:Base): uD B 180 (ki B.w.params 180) (bodyOf (ki B.w.params 180)):=⟨⟨_,B.K _ _ rfl,rfl⟩,by kernel_rfl,rfl,rfl,rfl,rfl,rfl,j7 (by kernel_rfl),rfl,rfl⟩
noncomputable abbrev hid:List hM:=[87,177,1]
theorem rt{h:ib}{b:hM}{o:Obj}(e:h.get? b=some o)(hb:b∉hid): (hideAll h hid).get? b=some o:=hideAll_get _ e hb
theorem z4{h:ib}{a:hM}{m:Str->Option g8}(ha:a∉hid)(x:h.Ns a m): (hideAll h hid).Ns a m:=
 let ⟨o,es,ep,e,r⟩:=x;⟨o,es,ep,rt e ha,r⟩
theorem DV{P:Params}{h:ib}(X:(hd.heap_1 P).In h): (hd.heap_1 P).In (hideAll h hid):=fun a o e=>by
 refine rt (X a o e) fun ha=>?_;have h1:(hd.heap_1 P).lookup 87=none:=by kernel_rfl
 have h2:(hd.heap_1 P).lookup 177=none:=by kernel_rfl
 have h3:(hd.heap_1 P).lookup 1=none:=by kernel_rfl
 simp only[hid,av,bR,or_false] at ha;rcases ha with rfl | rfl | rfl
 .rw[h1] at e;cases e
 .rw[h2] at e;cases e
 .rw[h3] at e;cases e
noncomputable def baseOf{p:Program}{loose:List Str}{mean:ExcName->Option g8}{mg mb:Str->Option g8}{w:World}{s:g9}(T:Top p loose mean mg mb s.heap)(KX:(hd.heap_1 w.params).In s.heap)(hT:∀P∈([87,177]:List hM),s.heap.get? P=some (tabObj #[]))(mm:∃mm,s.heap.Ns sysModules mm): Base where
 w:=w
 h0:=hideAll s.heap hid
 mg:=mg
 mb:=mb
 os:=s.os
 g:=z4 (by decide) T.g
 b:=z4 (by decide) T.b
 nolimit:=let ⟨mc,a,r⟩:=T.nolimit;⟨mc,z4 (by decide) a,r⟩
 builtins:=T.builtins
 bmain:=by
  obtain⟨bm,ob,h1,h2,h3,h4,h5,h6⟩:=T.bmain;refine⟨bm,ob,h1,h2,rt h3 fun hb=>?_,h4,h5,h6⟩;simp only[hid,av,bR,or_false] at hb;rcases hb with rfl | rfl | rfl
  .rw[hT 87 (by simp)] at h3;cases h3;cases h4
  .rw[hT 177 (by simp)] at h3;cases h3;cases h4
  .obtain⟨mm,o,es,ep,e,e2,_⟩:=mm;have e:s.heap.get? 1=some o:=e;rw[h3] at e;cases e;rw[h6] at e2;cases e2
 K:=DV KX
 codes:=⟨codeHd_of_K (DV KX) (by kernel_rfl),codeHd_of_K (DV KX) (by kernel_rfl)⟩
 Kl:=⟨hideAll_none _ (by decide),hideAll_none _ (by decide)⟩
noncomputable def C0:Ctx:={env:=envX "" {kind:=.function,names:=[],isGenerator:=false,isCoroutine:=false} 1 0 .none [],slots:=[],kT:=[],jO:=fun Y=>none,ms:=fun Y=>none,A:=callerA}
theorem Ls:C0.Ok 6:=⟨rfl,fun i x l e=>(nomatch e),cR,rfl,rfl,by decide +kernel,by decide +kernel,⟨[],rfl,fun e he=>(nomatch he)⟩,.refl _⟩
theorem JI{B:Base}{s:g9}(hB:B.h0=hideAll s.heap hid)(hos:B.os=s.os)(hg:s.gens=#[])(hT:∀P∈([87,177]:List hM),s.heap.get? P=some (tabObj #[])){mm:Str->Option g8}(hm:s.heap.Ns 1 mm): Rel B C0 B.h0.get? [] ⟨[],[]⟩ s where
 base:=fun b o e=>e
 keep:=fun b o e=>by rw[hB] at e;exact of_hideAll _ e
 jO:=fun b o e=>nomatch e
 ns:=⟨mm,hm,fun i x v e=>nomatch e⟩
 cells:=fun i x c e=>nomatch e
 uN:=fun i x c v e=>nomatch e
 nG:=fun i x c e=>nomatch e
 kT:=fun p hp=>nomatch hp
 len:=rfl
 objs:=fun i o a e=>by simp at e
 own:=fun a ha=>by have:a=1:=af.mp ha;subst this;exact⟨by refine R1 hB ?_;exact hideAll_none _ (by decide),rfl⟩
 live:=fun i a e=>by simp at e
 nodup:=by decide
 vars:=rfl
 tabs:=fun P hP=>by
  have h1:=hT P hP;refine⟨⟨#[],h1,trivial,fun pos cv q Y e=>?_⟩,?_,rfl,?_⟩
  .cases e
  .refine R1 hB ?_;refine hideAll_none _ ?_;simp only[av,bR,or_false] at hP;rcases hP with rfl | rfl<;>decide
  .simp only[av,bR,or_false] at hP;rcases hP with rfl | rfl<;>decide
 gens:=.of_eq hg
 os:=hos.symm
 le:=.refl _
theorem Il{B:Base}{s:g9}(hB:B.h0=hideAll s.heap hid)(hos:B.os=s.os)(hg:s.gens=#[])(hT:∀P∈([87,177]:List hM),s.heap.get? P=some (tabObj #[])){mm:Str->Option g8}(hm:s.heap.Ns 1 mm)(hcd:∀P∈([87,177]:List hM),isCodeTable s.heap P)
  {L:hM} {ws:List g8} {ns:List Int} (hL:s.heap.get? L=some {cls:=.type "list",data:=.seq ws.toArray}) (hw:IntsAre ws ns) (hn:ns.length<=63) :
  hZ (M B) callerA (call (.ref 180) [.ref L]) (fun v s'=>v=.bool true/\OldK s.heap s'.heap/\s'.os=s.os/\AllBare s'.gens) (fun Y Y=>False) s:=by
 have r:=JI hB hos hg hT hm;have f:=GJ B;obtain⟨o,ho,hdata⟩:=f.at';have ho':=r.keep _ _ ho;have K:=Ls
 have OK:L∉hid:=fun h=>by
  simp only[hid,av,bR,or_false] at h;rcases h with rfl | rfl | rfl
  .rw[hT 87 (by simp)] at hL;cases hL
  .rw[hT 177 (by simp)] at hL;cases hL
  .obtain⟨o,es,ep,e,e2,_⟩:=hm;rw[hL] at e;cases e;cases e2
 have hv:ja B.h0.get? [] [V.lst (oB ns)] [.ref L]:=.cons (.lst (by refine R1 hB ?_;exact rt hL OK) (by have:=DO hw;show ws.length<=io;refine R1 this ?_;exact ab hn (by decide)) (B4 hw)) .nil
 obtain⟨o1,es1,Pe,e1,_⟩:=id hm;have hk:o0 (ki B.w.params 180).scope.names ["script"]=true:=by kernel_rfl
 have tT:∀x∈([("script" : Str)]:List Str),(ki B.w.params 180).scope.names.lookup x=some .local\/(ki B.w.params 180).scope.names.lookup x=some .cell:=fun x hx=>by
  have:=bl.mp hk x hx
  simpa using this
 have hbind:∀s,(hd.heap_1 B.w.params).In s.heap->BindsTo s (ki B.w.params 180) ⟨[.ref L],[]⟩ (([("script" : Str)]:List Str).zip [g8.ref L]):=fun s X=>kp_binds X fun S=>by kernel_rfl
 refine wpAny_call (codeAny_call_function (by decide +kernel) ho' hdata f.co f.gen f.body (codeRec_of r.xw f.code) (hbind s r.xw _ _ _ _ ?_));refine R1 f.clo ?_;refine wpAny_newFunctionEnv_cells f.kind (fun x hx=>?_) fun env he s' x=>?_
 .have hx1:x.1∈([("script" : Str)]:List Str):=(ds hx).1;exact(tT x.1 hx1).imp id fun q=>⟨q,lL (.inl (lookup_mem q))⟩
 .subst he;obtain⟨r',st⟩:=r.enter (fd:=ki B.w.params 180) (fa:=180) hm f.kind f.names hv tT rfl x;have r2:=Rel.drop rfl r' (x.toInCall.keep _ _ e1);refine⟨r'.noLimit,codeAny_func ?_⟩;have Kc:=rW (m:=mm) K s.heap.objs.size s.heap f.kind f.names f.globals f.builtins (fa:=180);have hs:=KH (B:=B) s.heap.objs.size [] (callerA.deeper (iz (ki B.w.params 180) s.heap.objs.size 180)) (Gh.add (fun Y=>none) s.heap []) (Gh.set B.h0.get? 1 o1) [] (fun ψ=>⟨Kc.kind,Kc.link,Kc.names,Kc.globals,Kc.builtins,Kc.depth,Kc.units,⟨[iz (ki B.w.params 180) s.heap.objs.size 180],rfl,fun e he=>?_⟩,.refl _⟩) ⟨⟨_,rfl⟩,rfl⟩ rfl
  .have hs:=hs _ _ _ _ (.refl _ _) r2;obtain⟨σ',hp⟩:=Gl ns (Q:=fun r=>∃σ',r=.ok (.ret (.bool true)) σ') fun σ=>⟨σ,rfl⟩
   have hp':EJ ⟨[],jy ((slotsOf (ki B.w.params 180).scope.names (ir (s.heap.objs.size+1) (ki B.w.params 180).scope.names [])).map (·.1)) [("script" : Str)] [V.lst (oB ns)]⟩=.ok (.ret (.bool true)) σ':=by refine R1 (show(slotsOf (ki B.w.params 180).scope.names (ir (s.heap.objs.size+1) (ki B.w.params 180).scope.names [])).map (·.1)=KF from rfl) (R1 KN ?_);exact hp
   rw[hp'] at hs;refine hV hs (fun fl s2 h=>?_) fun Y Y h=>h.elim;obtain⟨jh,ρ',stp,r3,hfr⟩:=h;cases hfr with
   |ret hv=>
    cases hv with
    |bool=>
     refine⟨rfl,?_,?_,?_⟩
     .have grown:∀b∈([87,177]:List hM),∃ps,s2.heap.get? b=some (tabObj ps):=fun b hb=>let ⟨ps,h1,_,_⟩:=(r3.tabs b hb).1;⟨ps,h1⟩
      have kept:∀b o,b∉([87,177]:List hM)->s.heap.get? b=some o->s2.heap.get? b=some o:=fun b o hb e=>by
       by_cases h1:b=1
       .subst h1;rw[e1] at e;cases e;exact r3.keep _ _ (stp.ext.1 _ _ (Gh.jQ _ _ _))
       .refine r3.keep _ _ (r3.base _ _ ?_);refine R1 hB ?_;refine rt e fun h=>?_;simp only[hid,av,bR,or_false] at h;rcases h with h | h | h
        .exact hb (by simp[h])
        .exact hb (by simp[h])
        .exact h1 h
      refine⟨fun b o e=>?_,fun b o e=>?_⟩
      .by_cases hb:b∈([87,177]:List hM)
       .obtain⟨ps,hP⟩:=grown b hb;have e2:=hT b hb;rw[e] at e2;cases e2;exact .inr (.inl ⟨hcd b hb,rfl,#[],ps,rfl,by refine R1 Array.empty_append ?_;exact hP⟩)
       .exact .inl (kept b o hb e)
      .by_cases hb:b∈([87,177]:List hM)
       .obtain⟨ps,hP⟩:=grown b hb;exact⟨_,hP⟩
       .exact⟨o,kept b o hb e⟩
     .exact R1 r3.os (R1 hos rfl)
     .exact r3.gens
  .obtain rfl:=af.mp he;exact⟨f.kind,_,rfl,ac⟩
theorem FN(args:List WData): PySem.Challenge.rw_ji0031_01.row.toRowW.claim.post args (.bool true) args=true:=by
 wrow_post
set_option tactic.hygienic true in
theorem holds:PySem.Challenge.rw_ji0031_01.Holds:=holds_law ws fun Y=>Mine.Internal.hd (by
 intro w Pk s₁ mg mb G Yk fa o pm cd doc dV kV ho hd' hcd hD hmg hg args vals as hpre hlay hrd hwl hlo;have KX:=km_in_of Yk;have hT:=km_tabs_of Yk;have T:=G.T;have mm:∃mm,s₁.heap.Ns sysModules mm:=let ⟨m,h,_⟩:=(T.seer (by decide +kernel)).mods;⟨m,h⟩
 have hfa:fa=180:=by have h:=mg_of KX T.g (n:=Str.ofString "law") (v:=.ref 180) (by kernel_rfl);have h2:mg (Str.ofString "law")=some (.ref fa):=hmg;rw[h2] at h;cases h;rfl
 subst hfa;clear ho hd' hcd hD
 wrow_args hpre hlay hrd hwl hlo
 rename_i is hs hlay0 Pb hr1 hl2 a4 a3 L vals2 a0 hL ra w1 r0 hI hr hc1 hc2
 have hcd:∀P∈([87,177]:List hM),isCodeTable s₁.heap P:=fun P hP=>by
  have h1:=hT P hP;simp only[av,bR,or_false] at hP;rcases hP with rfl | rfl
  .exact((codeHd_of_K (c:=89) (P:=87) KX (by kernel_rfl)).tab h1).isCodeTable
  .exact((codeHd_of_K (c:=179) (P:=177) KX (by kernel_rfl)).tab h1).isCodeTable
 have hL':s₁.heap.get? L=some {cls:=.type "list",data:=.seq vals2.toArray}:=by
  have w1:Well w.params s₁.heap (.ref L) (.list (ofPys (is.map PyData.int))):=w1;cases w1 with
  |list h1 _=>
   obtain⟨o,q1,_,n,q2⟩:=hL;rw[h1] at q1;cases q1;cases q2;exact h1
 obtain⟨m1,hm1⟩:=id mm;refine hV (Il (B:=baseOf T KX hT mm) rfl rfl hg hT hm1 hcd hL' hI (by lia)) (fun v s' h=>?_) fun Y Y h=>h.elim;obtain⟨rfl,h1,h2,h3⟩:=h;exact⟨.inl ⟨_,_,_,rfl,fun Y=>rfl,.bool true,FN _,fun Y=>⟨cR,fun a ha=>nomatch ha⟩⟩,h1,h2,h3⟩)
end Mine.Internal
theorem PySem.Challenge.cw_ji0031_01_holds : PySem.Challenge.rw_ji0031_01.Holds :=
 Mine.Internal.holds
