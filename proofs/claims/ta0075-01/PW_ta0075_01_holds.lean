import PyProof.Rows.All
import Wide.All
import OpenK.AllK
import Wide.FinOn
import Lean
import PySem.Challenge.RW_ta0075_01
open And renaming intro->Co
open Array renaming length_toList->aE,isEmpty->pR,forIn_toList->G6
open Bool renaming false_ne_true->ag,false_eq_true->bX,and_eq_true->ao,or_eq_true->ei,not_eq_true'->dm,not_true->Al,not_eq_false'->Hg
open Exists renaming elim->af
open ForInStep renaming yield->eD
open Int renaming add_zero->nI,zero_mul->tM,natCast_add->wX,add_mul->eB,add_assoc->rH,mul_zero->nH,mul_assoc->cE,mul_add->gx,zero_add->nF,ofNat->dZ,one_mul->bJ,mul_one->pK,sub_zero->tN,mul_sub->G4,mul_comm->aX,le_refl->ee,mul_le_mul_of_nonneg_left->bv,natCast_nonneg->ax,mul_le_mul_of_nonneg_right->aW,le_of_eq->tO,toNat_of_nonneg->bN,ne_of_gt->bx,le_antisymm->au,toNat_natCast->aB,fdiv_eq_ediv_of_nonneg->bY,add_mul_ediv_left->Fk,ediv_ediv_of_nonneg->mH,le_of_lt->ay,pow_add->dQ,ediv_nonneg->em,ediv_lt_of_lt_mul->eJ,emod_add_mul_ediv->bH,emod_nonneg->ca,emod_lt_of_pos->bA,mul_nonneg->fA,pow_succ->nG,ofNat_sub->B9,emod_eq_of_lt->tP,lt_of_le_of_lt->fM,sub_mul->wx,not_lt->Ab,lt_of_lt_of_le->dx,fmod_eq_emod_of_nonneg->gy,neg_mul->pJ,add_comm->Eb,mul_left_comm->i5,lt_trans->Ea
open LawfulMonad renaming pure_bind->yM
open Lean.Parser.Tactic renaming rwRule->oG
open List renaming rec->hU,reverse_cons->iF,cons_append->b8,size_toArray->tu,zip_cons_cons->Ha,filterMap_cons->pP,take_of_length_le->aO,length_map->ab,length_zip->wv,map_map->cO,map_fst_zip->uc,all_eq_true->ft,range->aZ,length_reverse->dO,forIn_nil->gt,forIn_cons->eS,take_add_one->dk,append_assoc->dI,take_append_drop->oi,length_append->az,append_nil->fS,take_length->t9,lookup_cons->aT,map_cons->aD,nodup_cons->fR,lookup_append->Hb,nodup_nil->ym,drop->iw,isEmpty_iff->my,length_cons->aM,foldl->yo,replicate->bE,replicate_succ->G0,foldl_cons->eU,flatten_cons->lA,drop_drop->iH,drop_eq_getElem_cons->Aa,take_succ_cons->GZ,mem_of_mem_drop->gr,mem_of_mem_take->oS,drop_of_length_le->fI,nil_append->jG,map_nil->dh,map_append->bU,length_replicate->D9,map_reverse->ua,length_take->cT,map->yn,mem_append->jH,mem_append_right->D8,isPrefixOf_iff_prefix->eC,length_drop->cU,isPrefixOf->hW,length_nil->hV,lookup->Fi,flatMap_cons->lB,flatMap_append->kb,not_mem_of_not_mem_cons->eh,ne_of_not_mem_cons->eg,all_cons->lG,range_succ->nC,length_flatMap->G1,length_range->ce,mem_map->Cj,mem_singleton->rF,length_singleton->oj,getElem_range->rG,map_congr_left->gM,getElem_of_mem->G2,getElem_cons_zero->iG,map_take->fa,map_drop->fT,length_take_of_le->Ck,length_filter_le->eH,filter_cons->jl,zipWith->Ci,filter_append->Hc,sum_cons->rA
open List.Pairwise renaming nil->nD
open Nat renaming blt->dz,beq->i4,zero_add->fL,le_of_ble_eq_true->ac,mul_comm->iY,ble->dn,le_antisymm->ar,le_of_eq->dw,le_total->D6,le_trans->ai,min_eq_left->j9,min_eq_right->wm,succ_pos->iX,lt_of_lt_of_le->aw,ne_of_lt->bG,lt_succ_of_lt->lF,le_refl->ae,lt_of_le_of_lt->bI,add_le_add_left->fq,add_le_add_right->GX,le_add_right->b9,le_succ->aY,ne_of_gt->dN,zero_le->cq,succ_ne_self->wk,le_of_not_lt->jq,le_of_lt->cZ,blt_eq->kQ,eq_of_beq_eq_true->gh,sub_pos_of_lt->tL,pow_le_pow_right->gw,mul_add->iz,mul_one->lE,add_right_comm->sH,add_comm->nB,pos_of_ne_zero->sF,add_sub_cancel_left->dy,pow_succ->nA,mul_le_mul_left->gV,add_mul->GW,one_mul->GU,le_mul_of_pos_left->D7,sub_zero->DZ,lt_or_gt_of_ne->sG,lt_trans->iZ,add_le_add->z9,le_of_succ_le_succ->i0,mul_le_mul_right->GV,succ_le_succ->mG,lt_of_not_le->dY,exists_eq_add_of_le->Cg
open Ne renaming symm->fy
open Option renaming getD_some->cn,getD_none->tr,map_eq_some_iff->bq,or->tq,isSome_none->Fh,bind_some->G9
open Option.some renaming inj->aL,injEq->cj
open Prod.mk renaming inj->kF
open PyProof renaming noPylong_small->fx
open PyProof.Rows renaming Subscript_->DY,bits_add->DI,bits_mul->oF
open PySem renaming wpAny_with_toks->ch,wpAny_mono->aI,wpAny_newObj_type->bB,concat_meets->wT,strKind_is->ur,typeIs_str->lK,wpAny_getItem_of->yw,wpAny_getItem_list_slice->Fp,wpAny_pure->aj,wpAny_truthy_bool->fi,nums_intItems->FS,call_meets->gU,wpAny_bind->aa,wpAny_nsGet->mJ,wpAny_BinOp->rK,wpAny_evalAll_nil->mK,wpAny_standAt->cM,wpAny_Call_Name_kw->lI,wpAny_pyIter_tuple->iK,wpAny_of_eq->fU,wpAny_call_entry->fK,wpAny_field->bC,wpAny_seqItems->ej,wpAny_setField->jm,wpAny_rule->gO,wpAny_handled->tT,wpAny_throw->Ae,wpAny_pyIter_enum->mI,wpAny_pyIter_zip->yv,wpAny_holding->bK,wpAny_assign_Name->wC,wpAny_comprehension_free->mL,wpAny_execs_nil->pM,wpAny_execs_cons->aP,wpAny_Return_some->jn,wpAny_Assign_Name->gz,noFill_tuple_add->yQ,seq_tuple_add->FA,wpAny_Expr->Cr,defaultsOf_eq->Gy,typeLookup_type->bM,builtinLookup_eq_fast->aS,isSubtype_type->bO,codeAny_builtin->BH,wpAny_isInstance->oq,intBits_le_64->mZ,intBits_le_of_natAbs->kl,wpAny_specialOf->dj,wpAny_typeNameOf'->wB,wpAny_raiseErrorMade->ke,plainExc_TypeError->lQ,entryFor_of_tree->oC,wpAny_attempt->Fq,sub_AttributeError->lN,am_entry_list_getattribute->DX,meets_getattribute_miss_list->AX,wpAny_setField_rec->iJ
open PySem.Around renaming under_plainId->Cn
open PySem.AutoSeq1 renaming wpAny_loadPart'->gA
open PySem.BindsTo renaming of_eq->wZ
open PySem.Builtin renaming divisionGoesByPylong->fE,bitAnd->iy,bitOr->i7
open PySem.Builtin.Dict renaming updateFrom->tR
open PySem.Builtin.Int renaming intBits->d8
open PySem.Builtin.List renaming listFitsIndex->fJ
open PySem.Builtin.SmallTypes renaming nextOf->aU,ownedTupleIsFree->cg,ownedTupleHandOut->kG,iterAll->oo
open PySem.Builtin.Str renaming strKind->yp
open PySem.Calls renaming Name_function_global->wY,spliced_nil->eV,spliced_cons->ci,callWith_builtin->Cb
open PySem.Env renaming kindOf->bj
open PySem.F renaming slot_str_split->jB,entry_str_split->wq,args_str_split_2->tQ,plainAttrs_str->gW,slot_int_bit_length->He,type_int_bit_length->Hd,slot_dict_get->Ac,slot_tuple_iterator_next->gI,entry_tuple_iterator_next->Ak,args_tuple_iterator_next_1->Ad,slot_tuple_add->ml,entry_tuple_add->lz,args_tuple_add_2->kP,owner_object_class->rB,typeOf_object_class->pL,excRaise_ValueError->Hf,slot_list_getattribute->Ec,args_list_getattribute_2->Ca,slot_str_ascii_iterator_next->fD,entry_str_ascii_iterator_next->wz,args_str_ascii_iterator_next_1->wt,slot_zip_next->oV
open PySem.Heap renaming lt_size->aF,SameBut->tw,ExtBut->jx,size_push->dJ,FlyingW->iI,MadeExc->Cl
open PySem.Heap.DictOf renaming new->Cm
open PySem.Heap.IsSliceOf renaming new->wy
open PySem.Heap.SameBut renaming update->fV
open PySem.Heap.UpToSlots renaming of_keeps->eM
open PySem.IntMulOk renaming of_left->cQ
open PySem.Manifest renaming sig_bytes->Ch,isStub->GY
open PySem.NameKind renaming free->cb,cell->eR
open PySem.Obj renaming isFreed_of_fields->jk,data_mapFields->eG,cls_mapFields->lD,mapSeq->z8,mapFields->jw
open PySem.PyData renaming eqv->bZ,canLayAll0->rE,canLay0->kc,depthAll->mF,keyHash->aG,depth->rC,strOk->Aj,eqvAll->kU
open PySem.SeqAt renaming shaped->mE,eqv_refl->iB
open PySem.Str renaming ofString->cY,empty->wj
open PySem.StrLaws renaming subAt_eq->GS,partsFrom->iu,strSub_toList->iE,partsBetween_eq->ly
open PySem.Txt renaming contains->tK,split->kE,replace->lC
open PySem.Value renaming ref->dT,none->ef,type->dv,builtin->pO,bool->wW
open PySem.W renaming callWith_of->Ah,of_hideAll->CW,hideAll_none->pk,hideAll_get->Af,kp_binds->wL
open PySem.W.KPc renaming empty_app->hY
open PySem.W.KTurns renaming ofWalks->om,ofWalksU->ud
open PySem.W.WData renaming weightAll->hO,weight->B7
open PySem.W.WTm renaming holds->Cf,value->pN
open PySem PySem.W PyProof.Rows
set_option Elab.async false
set_option genSizeOf false
set_option bootstrap.genMatcherCode false
set_option genInjectivity false
set_option linter.all false
set_option maxRecDepth 100000
namespace Mine.Internal
open Builtin.Int (intBits)
variable {G:Prop}{α:Type}
theorem eQ {a b:α}(h:some a=some b)(k:a=b->G):G:=k (aL h)
variable {β:Type}
theorem rO {a b:α}{x y:β}(h:some (a,x)=some (b,y))(k:a=b->x=y->G):G:=k (kF (aL h)).1 (kF (aL h)).2
theorem mQ {a b:α}{x y:β}(h:(a,x)=(b,y))(k:a=b->x=y->G):G:=k (kF h).1 (kF h).2
theorem G7 {a b:PySem.Addr}(h:PySem.Value.ref a=.ref b)(k:a=b->G):G:=k (PySem.Value.ref.inj h)
theorem uv {a:α}(h:some a=none):False:=nomatch h
theorem aK {a:α}(h:none=some a):False:=nomatch h
theorem dD {P:α->Prop}{a:α}{l:List α}(h:P a)(t:∀b,b∈l->P b)(b:α)(hb:b∈a :: l):P b:=by
 cases hb with
 | head=>exact h
 | tail _ hb=>exact t b hb
theorem Oh {P:α->β->Prop}{a:α}{b:β}{l:List α}{m:List β}(h:P a b)(t:∀(k:Nat) (d:α) (r:β),l[k]? =some d->m[k]? =some r->P d r)(k:Nat)(d:α)(r:β)(e:(a :: l)[k]? =some d)(f:(b :: m)[k]? =some r):P d r:=by
 cases k with
 | zero=>rw [<-aL e,<-aL f];exact h
 | succ k=>exact t k d r e f
theorem Qm {P:α->β->Prop}{m:List β}(k:Nat)(d:α)(r:β)(e:([]:List α)[k]? =some d)(f:m[k]? =some r):P d r:=nomatch e
variable {n:Nat}
theorem A2 {P:List α->Prop}{l:List α}(h:l.length=n + 1)(k:∀a t,t.length=n->P (a :: t)):P l:=by
 cases l with
 | nil=>exact (Nat.succ_ne_zero n h.symm).elim
 | cons a t=>exact k a t (Nat.succ.inj h)
theorem PM {P:List α->Prop}{l:List α}(h:l.length=0)(k:P []):P l:=List.eq_nil_of_length_eq_zero h▸k
@[elab_as_elim] theorem FW {P:List α->Prop}{l:List α}(h:l.length=1)(k:∀a,P [a]):P l:=A2 (P:=P) h λa _ h=>PM (P:=λt=>P (a :: t)) h (k a)
@[elab_as_elim] theorem PO {P:List α->Prop}{l:List α}(h:l.length=2)(k:∀a b,P [a,b]):P l:=A2 (P:=P) h λa _ h=>FW (P:=λt=>P (a :: t)) h (k a)
@[elab_as_elim] theorem K6 {P:List α->Prop}{l:List α}(h:l.length=5)(k:∀a b c d e,P [a,b,c,d,e]):P l:=A2 (P:=P) h λa _ h=>A2 (P:=λt=>P (a :: t)) h λb _ h=>A2 (P:=λt=>P (a :: b :: t)) h λc _ h=>PO (P:=λt=>P (a :: b :: c :: t)) h (k a b c)
theorem AT {P:α->Prop}(b:α)(hb:b∈([]:List α)):P b:=nomatch hb
theorem Og {p:Prop}{d:Decidable p}{b:Bool}(h:(@decide p d&&b)=true):p/\b=true:=⟨of_decide_eq_true (Bool.and_eq_true_iff.mp h).1,(Bool.and_eq_true_iff.mp h).2⟩
theorem Ag {P0 P1:Prop}(h:P0/\P1)(k:P0->P1->G):G:=k h.1 h.2
theorem Kw {P0:α->Prop}(h:∃x0,P0 x0)(k:∀x0,P0 x0->G):G:=af h λx0 y0=>k x0 y0
theorem Gv {P0 P1 P2:Prop}(h:P0/\P1/\P2)(k:P0->P1->P2->G):G:=k h.1 h.2.1 h.2.2
theorem Bt {P0 P1 P2 P3:Prop}(h:P0/\P1/\P2/\P3)(k:P0->P1->P2->P3->G):G:=k h.1 h.2.1 h.2.2.1 h.2.2.2
variable {γ:Type}
theorem EO {P0:α->Prop}{P1 P2:α->β->γ->Prop}(h:∃x0,P0 x0/\∃x1,∃x2,P1 x0 x1 x2/\P2 x0 x1 x2)(k:∀x0,P0 x0->∀x1 x2,P1 x0 x1 x2->P2 x0 x1 x2->G):G:=af h λx0 y0=>af y0.2 λx2 y2=>af y2 λx3 y3=>k x0 y0.1 x2 x3 y3.1 y3.2
variable {δ ε:Type}
theorem IQ {P0 P1:α->β->γ->δ->ε->Prop}(h:∃x0,∃x1,∃x2,∃x3,∃x4,P0 x0 x1 x2 x3 x4/\P1 x0 x1 x2 x3 x4)(k:∀x0 x1 x2 x3 x4,P0 x0 x1 x2 x3 x4->P1 x0 x1 x2 x3 x4->G):G:=af h λx0 y0=>af y0 λx1 y1=>af y1 λx2 y2=>af y2 λx3 y3=>af y3 λx4 y4=>k x0 x1 x2 x3 x4 y4.1 y4.2
@[elab_as_elim] theorem rwL {α:Sort u}{P:α->Prop}{a b:α}(h:a=b)(k:P b):P a:=Eq.ndrec (motive:=P) k h.symm
@[elab_as_elim] theorem rwR {α:Sort u}{P:α->Prop}{a b:α}(h:a=b)(k:P a):P b:=Eq.ndrec (motive:=P) k h
inductive LA | v (i:Nat) | u (i:Nat) | k (n:Nat) | a (p q:LA) | s (p q:LA) | n (p:LA) | m (c:Nat)(p:LA) | w (p:LA)(c:Nat) | c (p:LA)
inductive HA | l (p q:LA) | e (p q:LA) | L (p q:LA) | E (p q:LA)
section
noncomputable abbrev qV {α:Type}(d:α)(l:List α):Nat->α:=hU (λ_=>d) (λx _ ih i=>Nat.rec x (λj _=>ih j) i) l
noncomputable abbrev LA.N (ns:List Nat)(e:LA):Nat:=LA.rec (λi=>Bool.rec 0 (qV 0 ns i) (dz i 16)) (λ_=>0) (λn=>n) (λ_ _ x y=>x + y) (λ_ _ _ _=>0) (λ_ _=>0) (λc _ x=>c * x) (λ_ c x=>x * c) (λ_ _=>0) e
noncomputable abbrev LA.Z (ns:List Nat)(zs:List Int)(e:LA):Int:=LA.rec (λ_=>0) (λi=>Bool.rec 0 (qV 0 zs i) (dz i 16)) (λn=>n) (λ_ _ x y=>x + y) (λ_ _ x y=>x - y) (λ_ x=>-x) (λc _ x=>c * x) (λ_ c x=>x * c) (λp _=>(p.N ns:Int)) e
noncomputable abbrev HA.p (ns:List Nat)(zs:List Int)(h:HA):Prop:=HA.rec (λp q=>p.N ns<=q.N ns) (λp q=>p.N ns=q.N ns) (λp q=>p.Z ns zs<=q.Z ns zs) (λp q=>p.Z ns zs=q.Z ns zs) h
noncomputable def qT (ns:List Nat)(zs:List Int)(H:List HA)(G:Prop):Prop:=hU G (λh _ ih=>h.p ns zs->ih) H
noncomputable def LA.f (e:LA):Nat->Nat:=LA.rec (λi j=>cond (i4 j (i + 1)) (cond (dz i 16) 1 0) 0) (λ_ _=>0) (λn j=>cond (i4 j 0) n 0) (λ_ _ x y j=>x j + y j) (λ_ _ _ _ _=>0) (λ_ _ _=>0) (λc _ x j=>c * x j) (λ_ c x j=>c * x j) (λ_ _ _=>0) e
noncomputable def LA.g (e:LA):Bool->Nat->Nat:=LA.rec (λ_ _ _=>0) (λi b j=>cond b (cond (i4 j (17 + i)) (cond (dz i 16) 1 0) 0) 0) (λn b j=>cond b (cond (i4 j 0) n 0) 0) (λ_ _ x y b j=>x b j + y b j) (λ_ _ x y b j=>x b j + y (!b) j) (λ_ x b=>x (!b)) (λc _ x b j=>c * x b j) (λ_ c x b j=>c * x b j) (λp _ b j=>cond b (p.f j) 0) e
noncomputable def qD (xs:List Int):(Nat->Nat)->Int:=hU (λ_=>0) (λx _ ih f=>f 0 * x + ih λj=>f (j + 1)) xs
theorem Nt (xs:List Int):qD xs (λ_=>0)=0:=by
 induction xs with
 | nil=>rfl
 | cons x xs ih=>show ((0:Nat):Int) * x + qD xs (λ_=>0)=0;rw [ih];exact (nI _).trans (tM x)
theorem tE (xs:List Int):∀f g:Nat->Nat,qD xs (λj=>f j + g j)=qD xs f + qD xs g:=by
 induction xs with
 | nil=>exact λ_ _=>rfl
 | cons x xs ih=>
  intro f g
  show ((f 0 + g 0:Nat):Int) * x + qD xs (λj=>f (j + 1) + g (j + 1))=(f 0 * x + qD xs λj=>f (j + 1)) + (g 0 * x + qD xs λj=>g (j + 1))
  rw [ih (λj=>f (j + 1)) λj=>g (j + 1),wX,eB]
  rw [rH,rH,Int.add_left_comm (g 0 * x)]
theorem wH (xs:List Int)(c:Nat):∀f:Nat->Nat,qD xs (λj=>c * f j)=c * qD xs f:=by
 induction xs with
 | nil=>exact λ_=>(nH _).symm
 | cons x xs ih=>
  intro f
  show ((c * f 0:Nat):Int) * x + qD xs (λj=>c * f (j + 1))=c * (f 0 * x + qD xs λj=>f (j + 1))
  rw [ih λj=>f (j + 1),Int.natCast_mul,cE,gx]
theorem HP (xs:List Int):∀(c i:Nat),qD xs (λj=>cond (i4 j i) c 0)=c * qV 0 xs i:=by
 induction xs with
 | nil=>exact λc i=>(nH _).symm
 | cons x xs ih=>
  intro c i
  cases i with
  | zero=>show c * x + qD xs (λ_=>0)=_;rw [Nt];exact nI _
  | succ i=>show ((0:Nat):Int) * x + qD xs (λj=>cond (i4 j i) c 0)=_;rw [ih,Int.natCast_zero,tM,nF]
noncomputable def Cc:Nat->List Int->List Int:=Nat.rec (λ_=>[]) (λ_ ih l=>qV 0 l 0 :: ih l.tail)
noncomputable def qX (ns:List Nat)(zs:List Int):List Int:=1 :: (Cc 16 (ns.map dZ)++(Cc 16 zs++[]))
theorem Eu (l:List Int)(i:Nat):qV 0 l.tail i=qV 0 l (i + 1):=by cases l<;>rfl
theorem HT (z:List Int)(n:Nat):∀(l:List Int) (i:Nat),i < n->qV 0 (Cc n l++z) i=qV 0 l i:=by
 induction n with
 | zero=>exact λ_ _ h=>absurd h (Nat.not_lt_zero _)
 | succ n ih=>
  intro l i h
  cases i with
  | zero=>rfl
  | succ i=>exact (ih l.tail i (Nat.lt_of_succ_lt_succ h)).trans (Eu l i)
theorem Nw (z:List Int)(i n:Nat):∀l:List Int,qV 0 (Cc n l++z) (n + i)=qV 0 z i:=by
 induction n with
 | zero=>intro l;rw [fL];rfl
 | succ n ih=>intro l;rw [Nat.succ_add];exact ih l.tail
theorem HO (ns:List Nat):∀i:Nat,qV 0 (ns.map dZ) i=((qV (0:Nat) ns i:Nat):Int):=by
 induction ns with
 | nil=>exact λ_=>rfl
 | cons n ns ih=>
  intro i
  cases i with
  | zero=>rfl
  | succ i=>exact ih i
variable (ns:List Nat)(zs:List Int)
theorem LA.okN (e:LA):(e.N ns:Int)=qD (qX ns zs) e.f:=by
 induction e with
 | v i=>
  refine Eq.trans ?_ (HP (qX ns zs) _ (i + 1)).symm
  show ((Bool.rec 0 (qV 0 ns i) (dz i 16):Nat):Int)=((cond (dz i 16) 1 0:Nat):Int) * qV 0 (Cc 16 (ns.map dZ)++(Cc 16 zs++[])) i
  cases h:dz i 16 with
  | true=>rw [HT _ 16 _ i (ac h),HO];exact (bJ _).symm
  | false=>exact (tM _).symm
 | k n=>exact ((HP (qX ns zs) n 0).trans (pK _)).symm
 | a p q hp hq=>show ((p.N ns + q.N ns:Nat):Int)=qD (qX ns zs) λj=>p.f j + q.f j;rw [tE,<-hp,<-hq];rfl
 | m c p hp=>show ((c * p.N ns:Nat):Int)=qD (qX ns zs) λj=>c * p.f j;rw [wH,<-hp];rfl
 | w p c hp=>show ((p.N ns * c:Nat):Int)=qD (qX ns zs) λj=>c * p.f j;rw [wH,<-hp,iY];rfl
 | u | s | n | c=>exact (Nt _).symm
theorem LA.okZ (e:LA):e.Z ns zs=qD (qX ns zs) (e.g true) - qD (qX ns zs) (e.g false):=by
 have z:=Nt (qX ns zs)
 induction e with
 | v i=>exact (by rw [show (LA.v i).g=λ_ _=>0 from rfl,z];rfl)
 | u i=>
  rw [show (LA.u i).g false=λ_=>0 from rfl,z,tN]
  refine Eq.trans ?_ (HP (qX ns zs) _ (17 + i)).symm
  rw [Nat.succ_add 16 i]
  show (Bool.rec 0 (qV 0 zs i) (dz i 16):Int)=((cond (dz i 16) 1 0:Nat):Int) * qV 0 (Cc 16 (ns.map dZ)++(Cc 16 zs++[])) (16 + i)
  rw [Nw]
  cases h:dz i 16 with
  | true=>rw [HT _ 16 _ i (ac h)];exact (bJ _).symm
  | false=>exact (tM _).symm
 | k n=>rw [show (LA.k n).g false=λ_=>0 from rfl,z,tN];exact ((HP (qX ns zs) n 0).trans (pK _)).symm
 | a p q hp hq=>
  rw [show (LA.a p q).g=λb j=>p.g b j + q.g b j from rfl,tE,tE,show (LA.a p q).Z ns zs=p.Z ns zs + q.Z ns zs from rfl,hp,hq]
  omega
 | s p q hp hq=>
  rw [show (LA.s p q).g true=λj=>p.g true j + q.g false j from rfl,show (LA.s p q).g false=λj=>p.g false j + q.g true j from rfl,tE,tE,show (LA.s p q).Z ns zs=p.Z ns zs - q.Z ns zs from rfl,hp,hq]
  omega
 | n p hp=>rw [show (LA.n p).Z ns zs= -p.Z ns zs from rfl,hp];exact Int.neg_sub ..
 | m c p hp=>rw [show (LA.m c p).g=λb j=>c * p.g b j from rfl,wH,wH,<-G4,<-hp]
 | w p c hp=>rw [show (LA.w p c).g=λb j=>c * p.g b j from rfl,wH,wH,<-G4,<-hp];exact aX ..
 | c p=>rw [show (LA.c p).g false=λ_=>0 from rfl,z,tN];exact p.okN ns zs
noncomputable abbrev Rw:=(Nat->Nat)×(Nat->Nat)
noncomputable def HA.r (h:HA)(t:List Rw):List Rw:=HA.rec (λp q=>(p.f,q.f) :: t) (λp q=>(p.f,q.f) :: (q.f,p.f) :: t)
 (λp q=>(λj=>p.g true j + q.g false j,λj=>q.g true j + p.g false j) :: t) (λp q=>(λj=>p.g true j + q.g false j,λj=>q.g true j + p.g false j) :: (λj=>q.g true j + p.g false j,λj=>p.g true j + q.g false j) :: t) h
noncomputable def Pz (H:List HA):List Rw:=hU [] (λh _ ih=>h.r ih) H
noncomputable def MX (R:List Rw):List Nat->Rw:=hU (λ_=>(λ_=>0,λ_=>0)) (λr _ ih ks=>hU (λ_=>0,λ_=>0) (λk ks _=>(λj=>k * r.1 j + (ih ks).1 j,λj=>k * r.2 j + (ih ks).2 j)) ks) R
noncomputable def Qg (T:Nat):Nat->(Nat->Nat)->(Nat->Nat)->Bool:=Nat.rec (λ_ _ _=>true) (λ_ ih n f g=>dn (f 0) (g 0)&&(dz 0 n||dn (g 0) (f 0))&&ih (n - 1) (λj=>f (j + 1)) λj=>g (j + 1)) T
noncomputable def PV (r s:Rw)(m:Nat):Bool:=Qg 33 17 (λj=>(m + 1) * r.1 j + s.2 j) λj=>((m + 1) * r.2 j + s.1 j) + cond (i4 j 0) m 0
noncomputable def ck (H:List HA)(g:HA)(ks:List Nat)(m:Nat):Bool:=HA.rec (λp q=>PV (p.f,q.f) (MX (Pz H) ks) m) (λ_ _=>false) (λp q=>PV (λj=>p.g true j + q.g false j,λj=>q.g true j + p.g false j) (MX (Pz H) ks) m) (λ_ _=>false) g
noncomputable def Qc (X:List Int)(R:List Rw):Prop:=hU True (λr _ ih=>qD X r.1<=qD X r.2/\ih) R
theorem J6 (X:List Int):∀(R:List Rw) (ks:List Nat),Qc X R->qD X (MX R ks).1<=qD X (MX R ks).2
 | [],_,_=>ee _
 | _ :: _,[],_=>ee _
 | r :: R,k :: ks,h=>by
  show qD X (λj=>k * r.1 j + (MX R ks).1 j)<=qD X (λj=>k * r.2 j + (MX R ks).2 j)
  rw [tE X (λj=>k * r.1 j),tE X (λj=>k * r.2 j),wH,wH]
  exact Int.add_le_add (bv h.1 (ax k)) (J6 X R ks h.2)
noncomputable def qZ (X:List Int):Nat->Prop:=hU (λ_=>True) (λx _ ih n=>(0 < n->0<=x)/\ih (n - 1)) X
theorem Oq:∀X:List Int,qZ X 0
 | []=>trivial
 | _ :: X=>⟨λh=>absurd h (Nat.lt_irrefl 0),Oq X⟩
theorem Nr (z:List Int)(n:Nat):∀l:List Int,(∀i,0<=qV 0 l i)->qZ (Cc n l++z) n:=by
 induction n with
 | zero=>exact λ_ _=>Oq z
 | succ n ih=>exact λl h=>⟨λ_=>h 0,ih l.tail λi=>Eu l i▸h (i + 1)⟩
theorem Ii:∀(X:List Int) (n:Nat) (f g:Nat->Nat),qZ X n->Qg X.length n f g=true->qD X f<=qD X g
 | [],_,_,_,_,_=>ee _
 | x :: X,n,f,g,hn,h=>by
  have h:=Bool.and_eq_true_iff.mp h
  have h1:=Bool.and_eq_true_iff.mp h.1
  refine Int.add_le_add ?_ (Ii X _ _ _ hn.2 h.2)
  have le:=ac h1.1
  rcases Bool.or_eq_true_iff.mp h1.2 with q | q
  .exact aW (Int.ofNat_le.mpr le) (hn.1 (ac q))
  .rw [ar le (ac q)];exact ee _
theorem DB {r:Rw}{R:List Rw}{ks:List Nat}{m:Nat}(hR:Qc (qX ns zs) R)(h:PV r (MX R ks) m=true):qD (qX ns zs) r.1<=qD (qX ns zs) r.2:=by
 have a:=Ii (qX ns zs) 17 _ _ (show qZ (qX ns zs) 17 from ⟨λ_=>Int.le.intro_sub 1 rfl,show qZ (Cc 16 (ns.map dZ)++(Cc 16 zs++[])) 16 from Nr _ 16 _ λi=>by rw [HO];exact ax _⟩) h
 have b:=J6 _ R ks hR
 rw [tE _ (λj=>(m + 1) * r.1 j),tE _ (λj=>(m + 1) * r.2 j + (MX R ks).1 j),tE _ (λj=>(m + 1) * r.2 j),wH,wH,HP,show qV 0 (qX ns zs) 0=1 from rfl,pK] at a
 refine Ab.mp λq=>?_
 have c:=bv (show qD (qX ns zs) r.2 + 1<=qD (qX ns zs) r.1 from q) (ax (m + 1))
 rw [gx,pK,wX] at c
 rw [wX] at a
 generalize ((m:Int) + ((1:Nat):Int)) * qD (qX ns zs) r.1=s at a c
 omega
noncomputable def Pm (H:List HA):Prop:=hU True (λh _ ih=>h.p ns zs/\ih) H
variable {ns zs}
theorem qT.of {G:Prop}:∀{H:List HA},(Pm ns zs H->G)->qT ns zs H G
 | [],k=>k trivial
 | _ :: H,k=>λh=>qT.of (H:=H) λa=>k ⟨h,a⟩
theorem OC (p q:LA):p.N ns<=q.N ns<->qD (qX ns zs) (p.f)<=qD (qX ns zs) (q.f):=by rw [<-p.okN ns zs,<-q.okN ns zs];exact Int.ofNat_le.symm
theorem Pp (p q:LA):p.Z ns zs<=q.Z ns zs<->qD (qX ns zs) (λj=>p.g true j + q.g false j)<=qD (qX ns zs) (λj=>q.g true j + p.g false j):=by
 rw [tE,tE,p.okZ ns zs,q.okZ ns zs];omega
theorem rQ:∀{H:List HA},Pm ns zs H->Qc (qX ns zs) (Pz H)
 | [],_=>trivial
 | .l p q :: H,h=>⟨(OC p q).mp h.1,rQ h.2⟩
 | .L p q :: H,h=>⟨(Pp p q).mp h.1,rQ h.2⟩
 | .e p q :: H,h=>⟨(OC p q).mp (dw h.1),(OC q p).mp (dw h.1.symm),rQ h.2⟩
 | .E p q :: H,h=>⟨(Pp p q).mp (tO h.1),(Pp q p).mp (tO h.1.symm),rQ h.2⟩
theorem qN {H:List HA}(g:HA)(ks:List Nat)(m:Nat:=0)(h:ck H g ks m=true:=by exact rfl):qT ns zs H (g.p ns zs):=qT.of λa=>by
 have s:=rQ a
 cases g with
 | l p q=>exact (OC p q).mpr (DB ns zs s h)
 | L p q=>exact (Pp p q).mpr (DB ns zs s h)
 | e | E=>exact Bool.noConfusion h
theorem qF {H:List HA}(ks:List Nat)(m:Nat:=0)(h:ck H (.l (.k 1) (.k 0)) ks m=true:=by exact rfl):qT ns zs H False:=qT.of λa=>
 absurd (show 1<=0 from (OC (ns:=ns) (.k 1) (.k 0)).mpr (DB ns zs (rQ a) h)) (by decide)
variable {H:List HA}{G:Prop}
theorem qB (d p q:LA)(x:qT ns zs (.l q p :: .e (.a d q) p :: H) G)(y:qT ns zs (.l p q :: .e d (.k 0) :: H) G)(h:d.N ns=p.N ns - q.N ns:=by exact rfl):qT ns zs H G:=
 (D6 (q.N ns) (p.N ns)).elim (λa=>x a (show d.N ns + q.N ns=p.N ns by rw [h];exact Nat.sub_add_cancel a)) (λa=>y a (h.trans (Nat.sub_eq_zero_of_le a)))
theorem qA (d p q:LA)(x:qT ns zs (.l d p :: .l p (.a d q) :: H) G)(h:d.N ns=p.N ns - q.N ns:=by exact rfl):qT ns zs H G:=
 x (ai (dw h) (Nat.sub_le ..)) (Nat.le_add_of_sub_le (dw h.symm))
theorem qC (d p q:LA)(x:qT ns zs (.l p q :: .e d p :: H) G)(y:qT ns zs (.l q p :: .e d q :: H) G)(h:d.N ns=min (p.N ns) (q.N ns):=by exact rfl):qT ns zs H G:=
 (D6 (p.N ns) (q.N ns)).elim (λa=>x a (h.trans (j9 a))) (λa=>y a (h.trans (wm a)))
theorem qE (d p q:LA)(x:qT ns zs (.l d p :: .l d q :: H) G)(h:d.N ns=min (p.N ns) (q.N ns):=by exact rfl):qT ns zs H G:=
 x (ai (dw h) (Nat.min_le_left ..)) (ai (dw h) (Nat.min_le_right ..))
theorem qH (d p q:LA)(x:qT ns zs (.l p q :: .e d q :: H) G)(y:qT ns zs (.l q p :: .e d p :: H) G)(h:d.N ns=max (p.N ns) (q.N ns):=by exact rfl):qT ns zs H G:=
 (D6 (p.N ns) (q.N ns)).elim (λa=>x a (h.trans (Nat.max_eq_right a))) (λa=>y a (h.trans (Nat.max_eq_left a)))
theorem qI (d p:LA)(c:Nat)(x:qT ns zs (.l (.m (c + 1) d) p :: .l p (.a (.m (c + 1) d) (.k c)) :: H) G)(h:d.N ns=p.N ns / (c + 1):=by exact rfl):qT ns zs H G:=
 x (show (c + 1) * d.N ns<=p.N ns by rw [h];exact Nat.mul_div_le ..) (show p.N ns<=(c + 1) * d.N ns + c by rw [h];exact Nat.le_of_lt_succ (Nat.lt_mul_div_succ _ (iX c)))
theorem qJ (d e p:LA)(c:Nat)(x:qT ns zs (.e p (.a (.m (c + 1) e) d) :: .l d (.k c) :: H) G)(h:d.N ns=p.N ns % (c + 1):=by exact rfl)(k:e.N ns=p.N ns / (c + 1):=by exact rfl):qT ns zs H G:=
 x (show p.N ns=(c + 1) * e.N ns + d.N ns by rw [h,k];exact (Nat.div_add_mod ..).symm) (show d.N ns<=c by rw [h];exact Nat.le_of_lt_succ (Nat.mod_lt _ (iX c)))
theorem qK (d z:LA)(x:qT ns zs (.L (.k 0) z :: .E (.c d) z :: H) G)(y:qT ns zs (.L z (.k 0) :: .e d (.k 0) :: H) G)(h:d.N ns=(z.Z ns zs).toNat:=by exact rfl):qT ns zs H G:=
 (Int.le_total 0 (z.Z ns zs)).elim (λa=>x a (show (d.N ns:Int)=_ by rw [h];exact bN a)) (λa=>y a (h.trans (Int.toNat_of_nonpos a)))
theorem qL (d z:LA)(x:qT ns zs (.L z (.c d) :: H) G)(h:d.N ns=(z.Z ns zs).toNat:=by exact rfl):qT ns zs H G:=x (show z.Z ns zs<=(d.N ns:Int) by rw [h];exact Int.self_le_toNat _)
theorem qM (d p:LA)(c:Nat)(x:qT ns zs (.L (.m (c + 1) d) p :: .L p (.a (.m (c + 1) d) (.k c)) :: H) G)(h:d.Z ns zs=p.Z ns zs / ((c + 1:Nat):Int):=by exact rfl):qT ns zs H G:=
 x (show ((c + 1:Nat):Int) * d.Z ns zs<=p.Z ns zs by rw [h];exact Int.mul_ediv_self_le (bx (Int.natCast_pos.mpr (iX c))))
  (show p.Z ns zs<=((c + 1:Nat):Int) * d.Z ns zs + (c:Int) by
   rw [h]
   have:=Int.lt_mul_ediv_self_add (x:=p.Z ns zs) (k:=((c + 1:Nat):Int)) (Int.natCast_pos.mpr (iX c))
   generalize ((c + 1:Nat):Int) * (p.Z ns zs / ((c + 1:Nat):Int))=q at this ⊢
   omega)
theorem qP (d z:LA)(x:qT ns zs (.L (.k 0) z :: .E (.c d) z :: H) G)(y:qT ns zs (.L z (.k 0) :: .E (.c d) (.n z) :: H) G)(h:d.N ns=(z.Z ns zs).natAbs:=by exact rfl):qT ns zs H G:=
 (Int.le_total 0 (z.Z ns zs)).elim (λa=>x a (show (d.N ns:Int)=_ by rw [h];exact Int.natAbs_of_nonneg a)) (λa=>y a (show (d.N ns:Int)= -_ by rw [h];exact Int.ofNat_natAbs_of_nonpos a))
noncomputable def Y0:LA:=.v 0
noncomputable def Y1:LA:=.v 1
noncomputable def Y2:LA:=.v 2
noncomputable def Y3:LA:=.v 3
noncomputable def Y4:LA:=.v 4
noncomputable def Y5:LA:=.v 5
noncomputable def Y6:LA:=.v 6
noncomputable def Y7:LA:=.v 7
noncomputable def Y8:LA:=.v 8
noncomputable def Y9:LA:=.v 9
noncomputable def Ps:LA:=.v 10
noncomputable def I0:LA:=.u 0
noncomputable def I1:LA:=.u 1
noncomputable def I2:LA:=.u 2
noncomputable def I3:LA:=.u 3
noncomputable def I4:LA:=.u 4
noncomputable def I5:LA:=.u 5
noncomputable def I6:LA:=.u 6
noncomputable def I7:LA:=.u 7
noncomputable def I8:LA:=.u 8
noncomputable def I9:LA:=.u 9
noncomputable def J0:LA:=.k 0
noncomputable def J1:LA:=.k 1
noncomputable def J2:LA:=.k 2
noncomputable def J3:LA:=.k 3
noncomputable def J4:LA:=.k 4
noncomputable def J5:LA:=.k 5
noncomputable def Qd:LA:=.k (2 ^ 60)
noncomputable def G3:LA:=.k (2 ^ 62)
noncomputable def pQ:LA:=.k (2 ^ 63)
noncomputable def M1:LA:=.k (2 ^ 64)
end
noncomputable abbrev aR (p q:LA):HA:=.l (.a p J1) q
noncomputable abbrev cK (p q:LA):HA:=.L (.a p J1) q
abbrev cz {a b:Nat}{g:Prop}(i:List HA):=qT [a,b] [] i g
abbrev dL {a b c:Nat}{g:Prop}(i:List HA):=qT [a,b,c] [] i g
abbrev gC {a b c d:Nat}{g:Prop}(i:List HA):=qT [a,b,c,d] [] i g
abbrev di {a:Nat}{g:Prop}(i:List HA):=qT [a] [] i g
abbrev Fr {a:Nat}{r s:Int}{g:Prop}(i:List HA):=qT [a] [r,s] i g
abbrev oY {a:Nat}{r:Int}{g:Prop}(i:List HA):=qT [a] [r] i g
abbrev kI {r s:Int}{g:Prop}(i:List HA):=qT [] [r,s] i g
abbrev oZ {r:Int}{g:Prop}(i:List HA):=qT [] [r] i g
abbrev uj {r s t u v:Int}{g:Prop}(i:List HA):=qT [] [r,s,t,u,v] i g
abbrev lJ {r s t u:Int}{g:Prop}(i:List HA):=qT [] [r,s,t,u] i g
abbrev yy {a b c d e f:Nat}{g:Prop}(i:List HA):=qT [a,b,c,d,e,f] [] i g
abbrev mM {a b c d e:Nat}{g:Prop}(i:List HA):=qT [a,b,c,d,e] [] i g
abbrev Fs {r s t:Int}{g:Prop}(i:List HA):=qT [] [r,s,t] i g
abbrev Hx {g:Prop}(i:List HA):=qT [] [] i g
section
variable {a b c d e f g h i j k l:Nat}{r s t u v w x:Int}
def Pg:=(qB Y6 Y3 Y2 (qB Y4 Y0 Y2 (qB Y5 Y3 Y0 (qN (.l (.a Y4 Y5) Y6) [0,1,0,0,1,0,0,0,1]) (qI Y1 (.a Y2 Y3) 1 (qN (.l (.a Y4 Y5) Y6) [1,0,1,1,0,0,1,0,0,0,0,2]))) (qB Y5 Y3 Y0 (qI Y1 (.a Y2 Y3) 1 (qN (.l (.a Y4 Y5) Y6) [0,2,0,1,0,3,1,0,0,0,0,0,4,1])) (qN (.l (.a Y4 Y5) Y6) [0,1,0,0,1]))) (qB Y4 Y0 Y2 (qB Y5 Y3 Y0 (qN (.l (.a Y4 Y5) Y6) [0,1,0,0,1,0,1]) (qI Y1 (.a Y2 Y3) 1 (qN (.l (.a Y4 Y5) Y6) [1,0,1,1,0,0,1,0,0,0,0,2]))) (qB Y5 Y3 Y0 (qI Y1 (.a Y2 Y3) 1 (qN (.l (.a Y4 Y5) Y6) [0,1,0,2,0,0,1,0,2,0,0,0,2,1])) (qN (.l (.a Y4 Y5) Y6) [0,1,0,0,1]))):qT [a,(c + d) / 2,c,d,a - c,d - a,d - c] [] [.e Y0 Y1,aR (.a Y2 J1) Y3] _)
def Pf:=(qC Y2 Y0 Y1 (qB Y3 Y1 Y0 (qN (.l (.a Y2 (.a Y3 J1)) (.a Y1 J1)) [0,1,0,0,1]) (qN (.l (.a Y2 (.a Y3 J1)) (.a Y1 J1)) [0,1,0,0,1,0,1])) (qB Y3 Y1 Y0 (qN (.l (.a Y2 (.a Y3 J1)) (.a Y1 J1)) [0,1,0,1,1]) (qN (.l (.a Y2 (.a Y3 J1)) (.a Y1 J1)) [0,1,0,0,1])):qT [a,b,min a b,b - a] [] [.l Y0 Y1] _)
def Du:=(qK Y0 I0 (qN (.L (.c Y0) I0) [0,1]) (qN (.L (.c Y0) I0) [0,1,0,1]):qT [r.toNat] [r] [.L J0 I0] _)
def N2:=(qB Y0 Y3 Y4 (qA Y1 Y5 Y4 (qA Y2 Y3 Y5 (qN (.l Y0 (.a Y1 Y2)) [0,1,0,1,0,1]))) (qN (.l Y0 (.a Y1 Y2)) [0,1]):qT [d - e,f - e,d - f,d,e,f] [] [] _)
def BB:=(qA Y2 Y1 Y0 (qN (.l J1 Y2) [0,1,1]):qT [a,b,b - a] [] [aR Y0 Y1] _)
def vL:=(qN (.l J1 (.a Y0 J1)) []:qT [a] [] [] _)
def BA:=(qL Y0 I0 (qN (.L I0 (.c Y0)) [1]):qT [r.toNat] [r] [] _)
def Pe:=(qC Y1 Y3 Y0 (qA Y2 Y0 Y3 (qN (aR Y0 (.a Y1 (.a Y2 J1))) [0,1,0,0,1])) (qN (aR Y0 (.a Y1 (.a Y2 J1))) [0,0,1]):qT [a,min d a,a - d,d] [] [] _)
def Pd:=(qB Y2 Y1 (.a Y0 J1) (qA Y3 Y1 Y0 (qN (aR Y2 Y3) [0,1,0,1])) (qA Y3 Y1 Y0 (qN (aR Y2 Y3) [0,1,0,1,0,1])):qT [a,b,b - (a + 1),b - a] [] [aR Y0 Y1] _)
def Pc:=(qP Y0 (.s (.n I0) J1) (qP Y1 I0 (qN (.l Y0 Y1) [1,0,0,0,1]) (qN (.l Y0 Y1) [0,0,1,0,1])) (qN (.l Y0 Y1) [0,1,0,1]):qT [((-r) - 1).natAbs,r.natAbs] [r] [cK I0 J0] _)
def qW:=(qN (aR Y0 Y1) [1]:qT [a,b] [] [aR Y0 Y1] _)
def vP:=(qN (.l Y0 (.a (.a Y0 J1) J1)) []:qT [a] [] [] _)
def E3:=(qI Y4 (.a Y3 Y2) 1 (qN (aR Y4 Y1) [1,0,2,2,1] 1):qT [a,b,c,d,(d + c) / 2] [] [.l Y0 Y1,.l Y2 Y0,aR Y3 Y2] _)
def MW:=(qB Y5 Y6 Y3 (qA Y0 Y6 Y7 (qI Y4 (.a Y7 Y6) 1 (qN (.l Y5 Y2) [0,1,0,1,0,2,0,1,1,0,0,2] 1))) (qN (.l Y5 Y2) [0,1]):qT [g - h,b,c,d,(h + g) / 2,g - d,g,h] [] [.l Y0 Y1,.e Y1 (.m 2 Y2),.e Y3 Y4] _)
def MV:=(qB Y5 Y3 Y6 (qA Y0 Y7 Y6 (qI Y4 (.a Y6 Y7) 1 (qN (.l Y5 Y2) [1,0,0,1,0,2,0,1,1,0,2] 1))) (qN (.l Y5 Y2) [0,1]):qT [h - g,b,c,d,(g + h) / 2,d - g,g,h] [] [.l Y0 Y1,.e Y1 (.m 2 Y2),.e Y3 Y4] _)
def Jr:=(qK Y0 I0 (qN (aR Y0 J4) [0,1,0,1]) (qN (aR Y0 J4) [0,1]):qT [r.toNat] [r] [cK I0 J4] _)
def E1:=(qI Y2 (.a Y0 Y1) 1 (qN (aR Y2 Y1) [1,0,1] 1):qT [a,b,(a + b) / 2] [] [aR Y0 Y1] _)
def vO:=(qN (cK I0 I1) [1]:qT [] [r,s] [cK I0 I1] _)
def E0:=(qN (cK (.c Y0) (.c (.a Y0 J1))) []:qT [a] [] [] _)
def EZ:=(qN (.L (.c (.a Y0 J1)) (.a (.c Y0) J1)) []:qT [a] [] [] _)
def MU:=(qB Y1 Y3 Y2 (qN (aR Y2 Y3) [0,1,0,1]) (qN (aR Y2 Y3) [0,1,0,1,0,1]):qT [a,d - c,c,d] [] [.e (.a Y0 J1) Y1,.l Y2 Y3] _)
def MT:=(qB Y3 Y0 J1 (qN (aR Y2 Y1) [0,1,0,1,1]) (qN (aR Y2 Y1) [0,1,0,0,1]):qT [a,b,c,a - 1] [] [.l Y0 (.a Y1 J1),aR Y2 Y3] _)
def MS:=(qB Y1 Y2 J1 (qN (aR Y0 Y2) [0,1,0,1]) (qN (aR Y0 Y2) [0,1,0,1,1]):qT [a,c - 1,c] [] [.l Y0 Y1,aR J0 Y2] _)
def MR:=(qK Y0 I0 (qN (aR Y0 (.k 7)) [0,1,0,1]) (qN (aR Y0 (.k 7)) [0,1]):qT [r.toNat] [r] [cK I0 (.k 7)] _)
def MQ:=(qK Y0 I0 (qN (aR Y0 (.k 9)) [0,1,0,1]) (qN (aR Y0 (.k 9)) [0,1]):qT [r.toNat] [r] [cK I0 (.k 9)] _)
def MP:=(qN (.L (.a (.m 9 (.c Y0)) (.c (.a Y1 J1))) (.c (.a (.m 9 Y0) (.a Y1 J1)))) []:qT [a,b] [] [] _)
def MN:=(qN (.L (.c (.a (.m 9 Y0) (.a Y1 J1))) (.a (.m 9 (.c Y0)) (.c (.a Y1 J1)))) []:qT [a,b] [] [] _)
def MM:=(qB Y2 Y1 Y0 (qN (.l (.a Y0 Y2) Y1) [0,1]) (qN (.l (.a Y0 Y2) Y1) [0,1,0,1]):qT [a,b,b - a] [] [.l Y0 Y1] _)
def ML:=(qB Y1 Y0 J1 (qN (aR Y1 Y0) [0,1]) (qN (aR Y1 Y0) [0,1,0,1]):qT [a,a - 1] [] [.l J1 Y0] _)
def vM:=(qN (.L J0 (.c Y0)) []:qT [a] [] [] _)
def Jq:=(qI Y4 (.a Y2 Y0) 1 (qN (.l Y3 Y1) [1,0,2,1,2] 1):qT [a,b,c,d,(c + a) / 2] [] [.l Y0 Y1,aR (.a Y2 J1) Y0,.e Y3 Y4] _)
def Jp:=(qI Y3 (.a Y0 Y1) 1 (qN (.l Y0 Y2) [0,1,1,0,2] 1):qT [a,b,c,(a + b) / 2] [] [aR (.a Y0 J1) Y1,.e Y2 Y3] _)
def MK:=(qK Y0 I0 (qN (aR Y0 J5) [0,1,0,1]) (qN (aR Y0 J5) [0,1]):qT [r.toNat] [r] [.L I0 J4] _)
def Jo:=(qN (aR (.a (.a Y0 J3) (.k 100)) Y1) [1]:qT [a,b] [] [aR (.a (.a Y0 (.k 60)) (.k 1000)) Y1] _)
def BD:=(qN (.L I2 (.a I1 I0)) [0,1]:qT [] [r,s,t] [.E (.a I0 I1) I2] _)
def EY:=(qN (cK (.c Y1) pQ) [1,1]:qT [a,b] [] [aR Y0 Qd,aR Y1 Y0] _)
def EX:=(qN (.L (.a I0 I1) (.a I1 I0)) []:qT [] [r,s] [] _)
def EW:=(qN (aR J0 (.a Y0 J1)) []:qT [a] [] [] _)
def MJ:=(qA Y3 (.a Y1 Y0) J1 (qN (cK (.c Y4) pQ) [1,0,1,1,1,1]):qT [a,b,c,(b + a) - 1,e] [] [aR Y0 (.k 10000),.l Y1 (.k 4194304),.l Y2 Y3,.l Y4 Y2] _)
def BC:=(qN (.L (.a I1 I0) I2) [1]:qT [] [r,s,t] [.E (.a I0 I1) I2] _)
def MI:=(qA Y4 Y0 Y1 (qN (.l (.a Y2 Y3) (.k 16777216)) [1,0,2,1,1,0,1]):qT [a,b,c,d,a - b] [] [aR Y0 J5,aR Y1 Y0,.e Y2 (.a Y1 J1),.e Y3 Y4] _)
def Jn:=(qA Y2 Y0 Y1 (qN (.l Y0 (.a Y1 Y2)) [0,1]):qT [a,b,a - b] [] [] _)
def MH:=(qC Y4 Y0 Y3 (qN (.l Y0 Y4) [0,0,1]) (qN (.l Y0 Y4) [0,0,1,1]):qT [a,b,c,d,min a d] [] [.l (.a (.a Y0 Y1) Y2) Y3] _)
def MG:=(qC Y2 Y1 Y0 (qN (.l Y0 Y2) [0,0,1,1]) (qN (.l Y0 Y2) [0,0,1]):qT [a,b,min b a] [] [aR Y0 Y1] _)
def MF:=(qA Y3 (.a Y1 Y0) J1 (qN (.l Y4 (.k 16777216)) [1,0,1,1,1,1]):qT [a,b,c,(b + a) - 1,e] [] [aR Y0 (.k 10000),.l Y1 (.k 4194304),.l Y2 Y3,.l Y4 Y2] _)
def ME:=(qA Y3 (.a Y0 Y1) J1 (qN (.l Y4 (.k 8388608)) [1,0,1,1,1,1]):qT [a,b,c,(a + b) - 1,e] [] [.l Y0 (.k 4194304),.l Y1 (.k 8500),.l Y2 Y3,.l Y4 Y2] _)
def MD:=(qN (.l (.a (.a J3 (.m 2 Y0)) (.m 1 Y0)) (.k 67108864)) [3]:qT [a] [] [.l Y0 J5] _)
def MC:=(qI Y3 (.a Y0 Y1) 1 (qN (aR Y0 Y2) [0,1,1,0,2] 1):qT [a,b,c,(a + b) / 2] [] [aR (.a Y0 J1) Y1,.e Y2 Y3] _)
def MB:=(qK Y0 I0 (qN (.l Y0 J4) [0,1,0,1]) (qN (.l Y0 J4) [0,1]):qT [r.toNat] [r] [.L I0 J4] _)
def MA:=(qI Y3 (.a Y0 Y1) 1 (qN (aR Y2 Y1) [1,0,1,2] 1):qT [a,b,c,(a + b) / 2] [] [aR (.a Y0 J1) Y1,.e Y2 Y3] _)
def Mz:=(qN (.l (.m 2 (.a Y0 J1)) (.a (.a (.m 2 Y0) J1) J1)) []:qT [a] [] [] _)
def Jm:=(qN (cK (.a I2 I0) I3) [1,1]:qT [] [r,s,t,u] [cK I0 I1,.L (.a I2 I1) I3] _)
def Jl:=(qA Y1 Y0 Y2 (qN (.l Y1 J5) [1,0,1]):qT [a,a - c,c] [] [aR Y0 J5] _)
def xR:=(qN (.l Y0 Y1) [1]:qT [a,b] [] [aR Y0 Y1] _)
def EV:=(qN (aR Y0 J5) [1]:qT [a] [] [aR Y0 J5] _)
def My:=(qN (.L (.a (.c Y1) (.c Y0)) (.k 134217728)) [5,1]:qT [a,b] [] [aR Y0 (.k 9000),.l Y1 (.m 4 Y0)] _)
def EU:=(qN (.l Y0 (.a Y0 Y1)) []:qT [a,b] [] [] _)
def Mx:=(qN (.l (.a (.a Y0 J1) Y1) (.a Y0 (.a Y1 J1))) []:qT [a,b] [] [] _)
def Mw:=(qN (.l (.a Y0 (.a Y1 J1)) (.a (.a Y0 J1) Y1)) []:qT [a,b] [] [] _)
def Jk:=(qE Y0 Y1 Y2 (qN (.l Y0 Y1) [1]):qT [min b c,b,c] [] [] _)
def Jj:=(qN (cK (.c Y0) pQ) [1]:qT [a] [] [aR Y0 Qd] _)
def Ji:=(qN (cK J0 (.n I0)) [1]:qT [] [r] [cK I0 J0] _)
def Mv:=(qI Y2 (.a Y0 Y1) 1 (qN (.l Y2 Y1) [1,0,1] 1):qT [a,b,(a + b) / 2] [] [aR Y0 Y1] _)
def Mu:=(qI Y2 (.a Y0 Y1) 1 (qN (.l Y0 Y2) [0,1,1] 1):qT [a,b,(a + b) / 2] [] [aR Y0 Y1] _)
def Bz:=(qN (.l Y0 Y1) [1]:qT [a,b] [] [.l Y0 Y1] _)
def Mt:=(qN (.L (.s (.n (.s (.n I0) J1)) J1) I0) []:qT [] [r] [] _)
def Ms:=(qN (.L I0 (.s (.n (.s (.n I0) J1)) J1)) []:qT [] [r] [] _)
def Mr:=(qN (.l (.a Y2 Y0) (.m 6 (.a Y1 J1))) [1,1]:qT [a,b,c] [] [.l Y0 (.m 6 Y1),.l Y2 (.k 6)] _)
def Mq:=(qA Y1 Y0 J1 (qN (.l Y0 (.a Y1 J1)) [0,1]):qT [a,a - 1] [] [] _)
def Jh:=(qN (cK I2 I1) [1,1]:qT [] [r,s,t] [cK I0 I1,cK I2 I0] _)
def Jg:=(qN (.L J0 (.a I1 I0)) [1,1]:qT [] [r,s] [.L J0 I0,.L J0 I1] _)
def Jf:=(qN (aR J0 Y0) [1] 1:qT [a] [] [aR J0 (.m 2 Y0)] _)
def Je:=(qN (aR Y1 J5) [1,1]:qT [a,b] [] [aR Y0 J5,aR Y1 Y0] _)
def Mp:=(qN (aR (.a Y0 J1) (.k 9000)) [1]:qT [a] [] [aR (.m 2 Y0) (.k 8500)] _)
def Mo:=(qA Y3 Y1 Y0 (qN (.l J2 Y2) [0,1,1,0,1]):qT [a,b,c,b - a] [] [aR (.a Y0 J1) Y1,.e Y2 Y3] _)
def Mn:=(qN (aR (.a Y0 (.k 64)) Y1) [1]:qT [a,b] [] [aR (.a Y0 (.k 100)) Y1] _)
def Mm:=(qN (cK (.s (.n I0) J1) J0) [1]:qT [] [r] [.L J0 I0] _)
def Jd:=(qN (.L J0 (.s I0 J1)) [1]:qT [] [r] [cK J0 I0] _)
def Jc:=(qN (.l Y0 (.k 30000)) [1]:qT [a] [] [aR Y0 (.k 10000)] _)
def Jb:=(qN (aR Y0 Y1) [1]:qT [a,b] [] [aR (.a Y0 J1) Y1] _)
def Ml:=(qA Y2 Y1 J1 (qN (.l Y0 Y2) [0,1,1]):qT [a,b,b - 1] [] [aR Y0 Y1] _)
def Mk:=(qA Y2 Y0 Y3 (qN (.l Y2 Y1) [1,0,1]):qT [a,b,a - d,d] [] [.l Y0 Y1] _)
def Mj:=(qA Y2 Y0 J0 (qN (.l Y2 Y1) [1,0,1]):qT [a,b,a - 0] [] [.l Y0 Y1] _)
def Mi:=(qN (.L (.n G3) (.a (.c Y0) J1)) []:qT [a] [] [] _)
def Mh:=(qA Y1 Y0 Y2 (qN (.l Y1 J5) [1,0,1]):qT [a,a - c,c] [] [.l Y0 J5] _)
def Mg:=(qN (.L J0 (.s I3 J1)) [1,0,1,1,0,1]:qT [] [r,s,t,u] [cK J0 I0,.E I1 I2,.L J0 I2,.E I3 (.a I0 I1)] _)
def Mf:=(qN (cK (.n M1) (.k 8)) []:qT [] [] [] _)
def Me:=(qN (cK (.c Y1) pQ) [1,1]:qT [a,b] [] [aR Y0 (.k 33554432),aR Y1 Y0] _)
def Mc:=(qN (cK (.c Y1) pQ) [1,1]:qT [a,b] [] [aR Y0 (.k 33554432),.e Y1 Y0] _)
def ET:=(qN (.l J3 J4) []:qT [] [] [] _)
def Mb:=(qN (aR Y0 (.a Y0 J2)) []:qT [a] [] [] _)
def Ma:=(qN (cK (.s I0 J1) I0) []:qT [] [r] [] _)
def L9:=(qN (aR Y0 (.k 9000)) [1]:qT [a] [] [.l (.m 2 Y0) (.k 8500)] _)
def Ja:=(qN (.l Y2 Y0) [0,1,1]:qT [a,b,c] [] [.e Y0 (.a Y1 Y1),.l Y2 Y1] _)
def L8:=(qN (.l (.m 2 Y0) (.a Y0 Y0)) []:qT [a] [] [] _)
def L7:=(qN (.l (.a Y0 Y0) (.m 2 Y0)) []:qT [a] [] [] _)
def L5:=(qN (cK (.c Y0) pQ) [1]:qT [a] [] [aR Y0 J5] _)
def L4:=(qN (cK (.c Y0) pQ) [1]:qT [a] [] [.l Y0 J5] _)
def L1:=(qN (cK (.c Y0) G3) [1]:qT [a] [] [.l Y0 J5] _)
def LZ:=(qN (cK (.c Y0) pQ) [1]:qT [a] [] [.l Y0 (.k 100000)] _)
def JX:=(qN (.L J0 (.s (.n I0) J1)) [1]:qT [] [r] [cK I0 J0] _)
def JW:=(qN (aR Y1 Y0) [0,1,1]:qT [a,b] [] [.e Y0 J5,aR Y1 J5] _)
def JV:=(qN (cK (.k 8) M1) []:qT [] [] [] _)
def JU:=(qN (aR Y1 Y0) [0,1,1]:qT [a,b] [] [.e Y0 J5,aR Y1 J4] _)
def JT:=(qN (.l Y0 (.k 16777216)) [1]:qT [a] [] [.e Y0 J5] _)
def JS:=(qN (.L (.n pQ) (.c Y0)) []:qT [a] [] [] _)
def JR:=(qN (.L J0 (.a I0 I1)) [1,1]:qT [] [r,s] [.L J0 I0,.L J0 I1] _)
def JQ:=(qN (.l Y1 (.a Y0 J1)) [0,1]:qT [a,b] [] [.E (.a (.c Y0) J1) (.c Y1)] _)
def JP:=(qN (.L J0 (.a I1 I0)) [1,1]:qT [] [r,s] [cK J0 I0,.L J0 I1] _)
def JO:=(qN (.L (.n G3) (.c Y0)) []:qT [a] [] [] _)
def JN:=(qN (.L J0 I3) [1,0,1,1,0,1]:qT [] [r,s,t,u] [cK J0 I0,.E I1 I2,.L J0 I2,.E I3 (.a I0 I1)] _)
def JM:=(qN (cK I0 pQ) [1]:qT [] [r] [cK I0 pQ] _)
def JL:=(qN (.l (.k 26) (.k 39)) []:qT [] [] [] _)
def Dx:=(qN (.L J0 I0) [1]:qT [] [r] [.L J0 I0] _)
def JK:=(qN (.l Y0 (.a Y1 J1)) [1]:qT [a,b] [] [.l Y0 (.a J1 Y1)] _)
def JJ:=(qN (cK I0 I0) [1]:qT [] [r] [aR J0 J0] _)
def JI:=(qN (.L J0 (.a I0 J1)) [1]:qT [] [r] [.L J0 I0] _)
def JH:=(qN (.L J0 (.s I1 I0)) [1]:qT [] [r,s] [.L I0 I1] _)
def Dw:=(qN (.L J0 J1) []:qT [] [] [] _)
def JG:=(qN (.l Y1 (.k 25)) [5,1]:qT [a,b] [] [.l Y0 J5,.l Y1 (.w Y0 5)] _)
def JF:=(qN (.l J2 (.a Y0 J5)) []:qT [a] [] [] _)
def JE:=(qN (.L (.n pQ) I0) [1]:qT [] [r] [.L J0 I0] _)
def JD:=(qN (.L I0 I2) [1,1]:qT [] [r,s,t] [.L I0 I1,.L I1 I2] _)
def JC:=(qN (.l Y0 Y2) [1]:qT [a,b,c] [] [.l (.a Y0 Y1) Y2] _)
def JB:=(qN (.l J1 Y0) [1]:qT [a] [] [.l J1 Y0] _)
def JA:=(qN (.l Y0 J0) [1]:qT [a] [] [.e Y0 J0] _)
def Jz:=(qN (.L J0 I0) [1]:qT [] [r] [.L J1 I0] _)
def Jy:=(qN (.l J0 Y0) []:qT [a] [] [] _)
def Jx:=(qN (.l J1 J5) []:qT [] [] [] _)
def Jw:=(qN (.l J5 J5) []:qT [] [] [] _)
def Jv:=(qN (.l Y0 Y0) []:qT [a] [] [] _)
def zJ:=(qF [1]:qT [a] [] [aR Y0 Y0] False)
def Dv:=(qF [1]:qT [a] [] [aR (.a Y0 J1) Y0] False)
def Ju:=(qF [1,1]:qT [a,b] [] [aR Y0 Y1,.l Y1 Y0] False)
def Jt:=(qF [1,1]:qT [] [r] [cK J0 I0,cK I0 J0] False)
def Js:=(qF [1]:qT [a] [] [cK (.c Y0) J0] False)
end
variable {m:Nat}
local macro_rules
 | `(tactic| rw [$rs,*])=>do
  let mut t <-`(tactic| skip)
  for r in rs.getElems do
   match r with
   | `(oG| <-$h:term)=>t <-`(tactic| ($t;refine Internal.rwR ($h ..) ?_))
   | `(oG| $h:term)=>t <-`(tactic| ($t;refine Internal.rwL ($h ..) ?_))
   | _=>Lean.Macro.throwUnsupported
  `(tactic| first | ($t;try with_reducible rfl) | (rewrite [$rs,*];try with_reducible rfl))
theorem PT {P0:Prop}{P1:α->Prop}(h:P0/\∃x0,P1 x0)(k:P0->∀x0,P1 x0->G):G:=af h.2 λx1 y1=>k h.1 x1 y1
theorem aA {P0 P1:α->Prop}(h:∃x0,P0 x0/\P1 x0)(k:∀x0,P0 x0->P1 x0->G):G:=af h λx0 y0=>k x0 y0.1 y0.2
variable {P0:α->β->Prop}
theorem tJ (h:∃x0,∃x1,P0 x0 x1)(k:∀x0 x1,P0 x0 x1->G):G:=af h λx0 y0=>af y0 λx1 y1=>k x0 x1 y1
theorem oP {P0:Prop}{P1 P2:α->Prop}(h:P0/\∃x0,P1 x0/\P2 x0)(k:P0->∀x0,P1 x0->P2 x0->G):G:=af h.2 λx1 y1=>k h.1 x1 y1.1 y1.2
theorem bT {P0 P1 P2:α->Prop}(h:∃x0,P0 x0/\P1 x0/\P2 x0)(k:∀x0,P0 x0->P1 x0->P2 x0->G):G:=af h λx0 y0=>k x0 y0.1 y0.2.1 y0.2.2
theorem fo {P1:α->β->Prop}(h:∃x0,∃x1,P0 x0 x1/\P1 x0 x1)(k:∀x0 x1,P0 x0 x1->P1 x0 x1->G):G:=af h λx0 y0=>af y0 λx1 y1=>k x0 x1 y1.1 y1.2
theorem O2 {P0:α->β->γ->Prop}(h:∃x0,∃x1,∃x2,P0 x0 x1 x2)(k:∀x0 x1 x2,P0 x0 x1 x2->G):G:=af h λx0 y0=>af y0 λx1 y1=>af y1 λx2 y2=>k x0 x1 x2 y2
theorem NY {P0 P1 P2 P3:α->Prop}(h:∃x0,P0 x0/\P1 x0/\P2 x0/\P3 x0)(k:∀x0,P0 x0->P1 x0->P2 x0->P3 x0->G):G:=af h λx0 y0=>k x0 y0.1 y0.2.1 y0.2.2.1 y0.2.2.2
theorem zF {P0 P1:α->Prop}{P2:α->β->Prop}(h:∃x0,P0 x0/\P1 x0/\∃x1,P2 x0 x1)(k:∀x0,P0 x0->P1 x0->∀x1,P2 x0 x1->G):G:=af h λx0 y0=>af y0.2.2 λx3 y3=>k x0 y0.1 y0.2.1 x3 y3
theorem bP {P1 P2:α->β->Prop}(h:∃x0,∃x1,P0 x0 x1/\P1 x0 x1/\P2 x0 x1)(k:∀x0 x1,P0 x0 x1->P1 x0 x1->P2 x0 x1->G):G:=af h λx0 y0=>af y0 λx1 y1=>k x0 x1 y1.1 y1.2.1 y1.2.2
theorem pv {P0 P1:α->β->γ->Prop}(h:∃x0,∃x1,∃x2,P0 x0 x1 x2/\P1 x0 x1 x2)(k:∀x0 x1 x2,P0 x0 x1 x2->P1 x0 x1 x2->G):G:=af h λx0 y0=>af y0 λx1 y1=>af y1 λx2 y2=>k x0 x1 x2 y2.1 y2.2
theorem qO {P0:Prop}{P1 P2 P3:α->β->Prop}(h:P0/\∃x0,∃x1,P1 x0 x1/\P2 x0 x1/\P3 x0 x1)(k:P0->∀x0 x1,P1 x0 x1->P2 x0 x1->P3 x0 x1->G):G:=af h.2 λx1 y1=>af y1 λx2 y2=>k h.1 x1 x2 y2.1 y2.2.1 y2.2.2
theorem EP {P0:α->Prop}{P1 P2 P3:α->β->Prop}(h:∃x0,P0 x0/\∃x1,P1 x0 x1/\P2 x0 x1/\P3 x0 x1)(k:∀x0,P0 x0->∀x1,P1 x0 x1->P2 x0 x1->P3 x0 x1->G):G:=af h λx0 y0=>af y0.2 λx2 y2=>k x0 y0.1 x2 y2.1 y2.2.1 y2.2.2
theorem ik {P1 P2 P3:α->β->Prop}(h:∃x0,∃x1,P0 x0 x1/\P1 x0 x1/\P2 x0 x1/\P3 x0 x1)(k:∀x0 x1,P0 x0 x1->P1 x0 x1->P2 x0 x1->P3 x0 x1->G):G:=af h λx0 y0=>af y0 λx1 y1=>k x0 x1 y1.1 y1.2.1 y1.2.2.1 y1.2.2.2
theorem aV {P0 P1 P2:α->β->γ->Prop}(h:∃x0,∃x1,∃x2,P0 x0 x1 x2/\P1 x0 x1 x2/\P2 x0 x1 x2)(k:∀x0 x1 x2,P0 x0 x1 x2->P1 x0 x1 x2->P2 x0 x1 x2->G):G:=af h λx0 y0=>af y0 λx1 y1=>af y1 λx2 y2=>k x0 x1 x2 y2.1 y2.2.1 y2.2.2
theorem EN {P0 P1:α->β->γ->δ->Prop}(h:∃x0,∃x1,∃x2,∃x3,P0 x0 x1 x2 x3/\P1 x0 x1 x2 x3)(k:∀x0 x1 x2 x3,P0 x0 x1 x2 x3->P1 x0 x1 x2 x3->G):G:=af h λx0 y0=>af y0 λx1 y1=>af y1 λx2 y2=>af y2 λx3 y3=>k x0 x1 x2 x3 y3.1 y3.2
theorem IS {P0:α->Prop}{P1 P2 P3:α->β->γ->Prop}(h:∃x0,P0 x0/\∃x1,∃x2,P1 x0 x1 x2/\P2 x0 x1 x2/\P3 x0 x1 x2)(k:∀x0,P0 x0->∀x1 x2,P1 x0 x1 x2->P2 x0 x1 x2->P3 x0 x1 x2->G):G:=af h λx0 y0=>af y0.2 λx2 y2=>af y2 λx3 y3=>k x0 y0.1 x2 x3 y3.1 y3.2.1 y3.2.2
variable {P4:α->β->Prop}
theorem IR {P1 P2 P3:α->β->Prop}(h:∃x0,∃x1,P0 x0 x1/\P1 x0 x1/\P2 x0 x1/\P3 x0 x1/\P4 x0 x1)(k:∀x0 x1,P0 x0 x1->P1 x0 x1->P2 x0 x1->P3 x0 x1->P4 x0 x1->G):G:=af h λx0 y0=>af y0 λx1 y1=>k x0 x1 y1.1 y1.2.1 y1.2.2.1 y1.2.2.2.1 y1.2.2.2.2
theorem ij {P0 P1 P2 P3:α->β->γ->Prop}(h:∃x0,∃x1,∃x2,P0 x0 x1 x2/\P1 x0 x1 x2/\P2 x0 x1 x2/\P3 x0 x1 x2)(k:∀x0 x1 x2,P0 x0 x1 x2->P1 x0 x1 x2->P2 x0 x1 x2->P3 x0 x1 x2->G):G:=af h λx0 y0=>af y0 λx1 y1=>af y1 λx2 y2=>k x0 x1 x2 y2.1 y2.2.1 y2.2.2.1 y2.2.2.2
theorem ii {P0 P1 P2:α->β->γ->δ->Prop}(h:∃x0,∃x1,∃x2,∃x3,P0 x0 x1 x2 x3/\P1 x0 x1 x2 x3/\P2 x0 x1 x2 x3)(k:∀x0 x1 x2 x3,P0 x0 x1 x2 x3->P1 x0 x1 x2 x3->P2 x0 x1 x2 x3->G):G:=af h λx0 y0=>af y0 λx1 y1=>af y1 λx2 y2=>af y2 λx3 y3=>k x0 x1 x2 x3 y3.1 y3.2.1 y3.2.2
variable {P5:α->β->Prop}
theorem n5 {P1 P2 P3:α->β->Prop}(h:∃x0,∃x1,P0 x0 x1/\P1 x0 x1/\P2 x0 x1/\P3 x0 x1/\P4 x0 x1/\P5 x0 x1)(k:∀x0 x1,P0 x0 x1->P1 x0 x1->P2 x0 x1->P3 x0 x1->P4 x0 x1->P5 x0 x1->G):G:=af h λx0 y0=>af y0 λx1 y1=>k x0 x1 y1.1 y1.2.1 y1.2.2.1 y1.2.2.2.1 y1.2.2.2.2.1 y1.2.2.2.2.2
theorem gn {P0 P1 P2 P3 P4:α->β->γ->Prop}(h:∃x0,∃x1,∃x2,P0 x0 x1 x2/\P1 x0 x1 x2/\P2 x0 x1 x2/\P3 x0 x1 x2/\P4 x0 x1 x2)(k:∀x0 x1 x2,P0 x0 x1 x2->P1 x0 x1 x2->P2 x0 x1 x2->P3 x0 x1 x2->P4 x0 x1 x2->G):G:=af h λx0 y0=>af y0 λx1 y1=>af y1 λx2 y2=>k x0 x1 x2 y2.1 y2.2.1 y2.2.2.1 y2.2.2.2.1 y2.2.2.2.2
theorem n0 {P0 P1 P2 P3:α->β->γ->δ->Prop}(h:∃x0,∃x1,∃x2,∃x3,P0 x0 x1 x2 x3/\P1 x0 x1 x2 x3/\P2 x0 x1 x2 x3/\P3 x0 x1 x2 x3)(k:∀x0 x1 x2 x3,P0 x0 x1 x2 x3->P1 x0 x1 x2 x3->P2 x0 x1 x2 x3->P3 x0 x1 x2 x3->G):G:=af h λx0 y0=>af y0 λx1 y1=>af y1 λx2 y2=>af y2 λx3 y3=>k x0 x1 x2 x3 y3.1 y3.2.1 y3.2.2.1 y3.2.2.2
variable {ζ η:Type}
theorem Gu {P0:α->β->γ->δ->ε->ζ->η->Prop}(h:∃x0,∃x1,∃x2,∃x3,∃x4,∃x5,∃x6,P0 x0 x1 x2 x3 x4 x5 x6)(k:∀x0 x1 x2 x3 x4 x5 x6,P0 x0 x1 x2 x3 x4 x5 x6->G):G:=af h λx0 y0=>af y0 λx1 y1=>af y1 λx2 y2=>af y2 λx3 y3=>af y3 λx4 y4=>af y4 λx5 y5=>af y5 λx6 y6=>k x0 x1 x2 x3 x4 x5 x6 y6
theorem Ds {P0:Prop}{P1:α->Prop}{P2 P3 P4:α->β->γ->δ->Prop}(h:P0/\∃x0,P1 x0/\∃x1,∃x2,∃x3,P2 x0 x1 x2 x3/\P3 x0 x1 x2 x3/\P4 x0 x1 x2 x3)(k:P0->∀x0,P1 x0->∀x1 x2 x3,P2 x0 x1 x2 x3->P3 x0 x1 x2 x3->P4 x0 x1 x2 x3->G):G:=af h.2 λx1 y1=>af y1.2 λx3 y3=>af y3 λx4 y4=>af y4 λx5 y5=>k h.1 x1 y1.1 x3 x4 x5 y5.1 y5.2.1 y5.2.2
variable {P6:α->β->Prop}
theorem vH {P0:Prop}{P1 P2 P3:α->β->Prop}(h:P0/\∃x0,∃x1,P1 x0 x1/\P2 x0 x1/\P3 x0 x1/\P4 x0 x1/\P5 x0 x1/\P6 x0 x1)(k:P0->∀x0 x1,P1 x0 x1->P2 x0 x1->P3 x0 x1->P4 x0 x1->P5 x0 x1->P6 x0 x1->G):G:=af h.2 λx1 y1=>af y1 λx2 y2=>k h.1 x1 x2 y2.1 y2.2.1 y2.2.2.1 y2.2.2.2.1 y2.2.2.2.2.1 y2.2.2.2.2.2
theorem Dr {P1 P2 P3:α->β->Prop}(h:∃x0,∃x1,P0 x0 x1/\P1 x0 x1/\P2 x0 x1/\P3 x0 x1/\P4 x0 x1/\P5 x0 x1/\P6 x0 x1)(k:∀x0 x1,P0 x0 x1->P1 x0 x1->P2 x0 x1->P3 x0 x1->P4 x0 x1->P5 x0 x1->P6 x0 x1->G):G:=af h λx0 y0=>af y0 λx1 y1=>k x0 x1 y1.1 y1.2.1 y1.2.2.1 y1.2.2.2.1 y1.2.2.2.2.1 y1.2.2.2.2.2.1 y1.2.2.2.2.2.2
theorem vG {P1 P2 P3:α->β->γ->δ->ε->Prop}(h:∃x0,∃x1,P0 x0 x1/\∃x2,∃x3,∃x4,P1 x0 x1 x2 x3 x4/\P2 x0 x1 x2 x3 x4/\P3 x0 x1 x2 x3 x4)(k:∀x0 x1,P0 x0 x1->∀x2 x3 x4,P1 x0 x1 x2 x3 x4->P2 x0 x1 x2 x3 x4->P3 x0 x1 x2 x3 x4->G):G:=af h λx0 y0=>af y0 λx1 y1=>af y1.2 λx3 y3=>af y3 λx4 y4=>af y4 λx5 y5=>k x0 x1 y1.1 x3 x4 x5 y5.1 y5.2.1 y5.2.2
theorem gT {P0 P1 P2 P3 P4 P5:α->β->γ->Prop}(h:∃x0,∃x1,∃x2,P0 x0 x1 x2/\P1 x0 x1 x2/\P2 x0 x1 x2/\P3 x0 x1 x2/\P4 x0 x1 x2/\P5 x0 x1 x2)(k:∀x0 x1 x2,P0 x0 x1 x2->P1 x0 x1 x2->P2 x0 x1 x2->P3 x0 x1 x2->P4 x0 x1 x2->P5 x0 x1 x2->G):G:=af h λx0 y0=>af y0 λx1 y1=>af y1 λx2 y2=>k x0 x1 x2 y2.1 y2.2.1 y2.2.2.1 y2.2.2.2.1 y2.2.2.2.2.1 y2.2.2.2.2.2
theorem ma {P0 P1 P2 P3 P4:α->β->γ->δ->Prop}(h:∃x0,∃x1,∃x2,∃x3,P0 x0 x1 x2 x3/\P1 x0 x1 x2 x3/\P2 x0 x1 x2 x3/\P3 x0 x1 x2 x3/\P4 x0 x1 x2 x3)(k:∀x0 x1 x2 x3,P0 x0 x1 x2 x3->P1 x0 x1 x2 x3->P2 x0 x1 x2 x3->P3 x0 x1 x2 x3->P4 x0 x1 x2 x3->G):G:=af h λx0 y0=>af y0 λx1 y1=>af y1 λx2 y2=>af y2 λx3 y3=>k x0 x1 x2 x3 y3.1 y3.2.1 y3.2.2.1 y3.2.2.2.1 y3.2.2.2.2
theorem Br {P1 P2 P3 P7:α->β->Prop}(h:∃x0,∃x1,P0 x0 x1/\P1 x0 x1/\P2 x0 x1/\P3 x0 x1/\P4 x0 x1/\P5 x0 x1/\P6 x0 x1/\P7 x0 x1)(k:∀x0 x1,P0 x0 x1->P1 x0 x1->P2 x0 x1->P3 x0 x1->P4 x0 x1->P5 x0 x1->P6 x0 x1->P7 x0 x1->G):G:=af h λx0 y0=>af y0 λx1 y1=>k x0 x1 y1.1 y1.2.1 y1.2.2.1 y1.2.2.2.1 y1.2.2.2.2.1 y1.2.2.2.2.2.1 y1.2.2.2.2.2.2.1 y1.2.2.2.2.2.2.2
theorem Bq {θ:Type}{P0 P1:α->β->γ->δ->ε->ζ->η->θ->Prop}(h:∃x0,∃x1,∃x2,∃x3,∃x4,∃x5,∃x6,∃x7,P0 x0 x1 x2 x3 x4 x5 x6 x7/\P1 x0 x1 x2 x3 x4 x5 x6 x7)(k:∀x0 x1 x2 x3 x4 x5 x6 x7,P0 x0 x1 x2 x3 x4 x5 x6 x7->P1 x0 x1 x2 x3 x4 x5 x6 x7->G):G:=af h λx0 y0=>af y0 λx1 y1=>af y1 λx2 y2=>af y2 λx3 y3=>af y3 λx4 y4=>af y4 λx5 y5=>af y5 λx6 y6=>af y6 λx7 y7=>k x0 x1 x2 x3 x4 x5 x6 x7 y7.1 y7.2
theorem zE {θ ι:Type}{P0 P1:α->β->γ->δ->ε->ζ->η->θ->ι->Prop}(h:∃x0,∃x1,∃x2,∃x3,∃x4,∃x5,∃x6,∃x7,∃x8,P0 x0 x1 x2 x3 x4 x5 x6 x7 x8/\P1 x0 x1 x2 x3 x4 x5 x6 x7 x8)(k:∀x0 x1 x2 x3 x4 x5 x6 x7 x8,P0 x0 x1 x2 x3 x4 x5 x6 x7 x8->P1 x0 x1 x2 x3 x4 x5 x6 x7 x8->G):G:=af h λx0 y0=>af y0 λx1 y1=>af y1 λx2 y2=>af y2 λx3 y3=>af y3 λx4 y4=>af y4 λx5 y5=>af y5 λx6 y6=>af y6 λx7 y7=>af y7 λx8 y8=>k x0 x1 x2 x3 x4 x5 x6 x7 x8 y8.1 y8.2
theorem wR {P0:Prop}{P1 P2 P3 P7 P8 P9:α->β->Prop}(h:P0/\∃x0,∃x1,P1 x0 x1/\P2 x0 x1/\P3 x0 x1/\P4 x0 x1/\P5 x0 x1/\P6 x0 x1/\P7 x0 x1/\P8 x0 x1/\P9 x0 x1)(k:P0->∀x0 x1,P1 x0 x1->P2 x0 x1->P3 x0 x1->P4 x0 x1->P5 x0 x1->P6 x0 x1->P7 x0 x1->P8 x0 x1->P9 x0 x1->G):G:=af h.2 λx1 y1=>af y1 λx2 y2=>k h.1 x1 x2 y2.1 y2.2.1 y2.2.2.1 y2.2.2.2.1 y2.2.2.2.2.1 y2.2.2.2.2.2.1 y2.2.2.2.2.2.2.1 y2.2.2.2.2.2.2.2.1 y2.2.2.2.2.2.2.2.2
theorem nj {P0 P1 P2 P3 P4 P5 P6:α->β->γ->δ->ε->ζ->Prop}(h:∃x0,∃x1,∃x2,∃x3,∃x4,∃x5,P0 x0 x1 x2 x3 x4 x5/\P1 x0 x1 x2 x3 x4 x5/\P2 x0 x1 x2 x3 x4 x5/\P3 x0 x1 x2 x3 x4 x5/\P4 x0 x1 x2 x3 x4 x5/\P5 x0 x1 x2 x3 x4 x5/\P6 x0 x1 x2 x3 x4 x5)(k:∀x0 x1 x2 x3 x4 x5,P0 x0 x1 x2 x3 x4 x5->P1 x0 x1 x2 x3 x4 x5->P2 x0 x1 x2 x3 x4 x5->P3 x0 x1 x2 x3 x4 x5->P4 x0 x1 x2 x3 x4 x5->P5 x0 x1 x2 x3 x4 x5->P6 x0 x1 x2 x3 x4 x5->G):G:=af h λx0 y0=>af y0 λx1 y1=>af y1 λx2 y2=>af y2 λx3 y3=>af y3 λx4 y4=>af y4 λx5 y5=>k x0 x1 x2 x3 x4 x5 y5.1 y5.2.1 y5.2.2.1 y5.2.2.2.1 y5.2.2.2.2.1 y5.2.2.2.2.2.1 y5.2.2.2.2.2.2
theorem mu {P0 P1 P2 P3 P4 P5 P6 P7 P8:α->β->γ->δ->ε->Prop}(h:∃x0,∃x1,∃x2,∃x3,∃x4,P0 x0 x1 x2 x3 x4/\P1 x0 x1 x2 x3 x4/\P2 x0 x1 x2 x3 x4/\P3 x0 x1 x2 x3 x4/\P4 x0 x1 x2 x3 x4/\P5 x0 x1 x2 x3 x4/\P6 x0 x1 x2 x3 x4/\P7 x0 x1 x2 x3 x4/\P8 x0 x1 x2 x3 x4)(k:∀x0 x1 x2 x3 x4,P0 x0 x1 x2 x3 x4->P1 x0 x1 x2 x3 x4->P2 x0 x1 x2 x3 x4->P3 x0 x1 x2 x3 x4->P4 x0 x1 x2 x3 x4->P5 x0 x1 x2 x3 x4->P6 x0 x1 x2 x3 x4->P7 x0 x1 x2 x3 x4->P8 x0 x1 x2 x3 x4->G):G:=af h λx0 y0=>af y0 λx1 y1=>af y1 λx2 y2=>af y2 λx3 y3=>af y3 λx4 y4=>k x0 x1 x2 x3 x4 y4.1 y4.2.1 y4.2.2.1 y4.2.2.2.1 y4.2.2.2.2.1 y4.2.2.2.2.2.1 y4.2.2.2.2.2.2.1 y4.2.2.2.2.2.2.2.1 y4.2.2.2.2.2.2.2.2
theorem px {P0 P1 P2:Prop}{P3 P4 P5 P6 P7 P8 P9 P10 P11:α->β->γ->δ->ε->Prop}(h:P0/\P1/\P2/\∃x0,∃x1,∃x2,∃x3,∃x4,P3 x0 x1 x2 x3 x4/\P4 x0 x1 x2 x3 x4/\P5 x0 x1 x2 x3 x4/\P6 x0 x1 x2 x3 x4/\P7 x0 x1 x2 x3 x4/\P8 x0 x1 x2 x3 x4/\P9 x0 x1 x2 x3 x4/\P10 x0 x1 x2 x3 x4/\P11 x0 x1 x2 x3 x4)(k:P0->P1->P2->∀x0 x1 x2 x3 x4,P3 x0 x1 x2 x3 x4->P4 x0 x1 x2 x3 x4->P5 x0 x1 x2 x3 x4->P6 x0 x1 x2 x3 x4->P7 x0 x1 x2 x3 x4->P8 x0 x1 x2 x3 x4->P9 x0 x1 x2 x3 x4->P10 x0 x1 x2 x3 x4->P11 x0 x1 x2 x3 x4->G):G:=af h.2.2.2 λx3 y3=>af y3 λx4 y4=>af y4 λx5 y5=>af y5 λx6 y6=>af y6 λx7 y7=>k h.1 h.2.1 h.2.2.1 x3 x4 x5 x6 x7 y7.1 y7.2.1 y7.2.2.1 y7.2.2.2.1 y7.2.2.2.2.1 y7.2.2.2.2.2.1 y7.2.2.2.2.2.2.1 y7.2.2.2.2.2.2.2.1 y7.2.2.2.2.2.2.2.2
inductive D where
 | none | bool (b:Bool) | int (i:Int) | str (s:Str) | kstr (s:Str) | bytes (b:Array UInt8)
 | tup (xs:List D) | list (xs:List D)
 | sdict (ks:List Str)(vs:List D) | idict (ks:List Int) (vs:List D)
 | ref (a:Addr) | bi (id:String) | ty (n:String)
 | lam (cl:List (Str×Addr))(args:Arguments)(body:FuncBody)(scope:Scope)
noncomputable def bD (o:Obj):Bool:=match o.cls,o.data with
 | .none,.fields _=>true
 | _,_=>false
structure Wd where
 prog:Program
 w:World
 h₀:Heap
 mg:Str->Option Value
 mb:Str->Option Value
 tabs:List (Addr×Addr×Str)
 may:Addr->Nat->Bool
 esc:Scope->Value->Shared->Prop
 escLaw:∀sc v s,esc sc v s->sc.names.lookup ("script":Str)=some .local
 g:h₀.Ns mainGlobals mg
 b:h₀.Ns builtinsNs mb
 nolimit:h₀.NoLimit
 builtins:∀x:Str,x≠"__name__"->mb x=bootBuiltins x
 bmain:∃bm ob,mg "__builtins__"=some (.ref bm)/\bm≠builtinsNs/\h₀.get? bm=some ob/\ob.cls=.type "module"/\ob.dict=some builtinsNs/\ob.data=.plain
 codes:∀q∈tabs,CodeHd h₀ q.1 q.2.1
 tabNone:∀q∈tabs,h₀.get? q.2.1=none
 tabLt:∀q∈tabs,q.2.1 < h₀.objs.size
 tabDist:(tabs.map (·.2.1)).Nodup
structure View where
 obj:Addr->Option Obj
 tok:Tok->Option Str
noncomputable def CodeRecG (g:View)(c:Addr)(q:Str):Prop:=∃o vs t,g.obj c=some o/\o.data=.fields vs/\vs[1]? =some (.str q t)
noncomputable def TabAt (m:Nat->Bool)(g:View)(h:Heap)(P:Addr)(q:Str):Prop:=
 ∃ps:Array Value,h.get? P=some (tabObj ps)/\TriplesOk ps.toList/\∀pos cv,codeAmong pos ps.toList=some cv->m pos.line=true/\∃c',cv=.ref c'/\CodeRecG g c' q
structure Ok (W:Wd)(g:View)(s:Shared):Prop where
 base:∀a o,W.h₀.get? a=some o->g.obj a=some o
 sub:∀a o,g.obj a=some o->s.heap.get? a=some o
 tabs:∀q∈W.tabs,TabAt (W.may q.2.1) g s.heap q.2.1 q.2.2
 tabg:∀q∈W.tabs,g.obj q.2.1=none
 pos:0 < s.toks
 tok:∀t x,g.tok t=some x->0 < t/\t < s.toks
structure Le (g g':View):Prop where
 obj:∀a o,g.obj a=some o->g'.obj a=some o
 tok:∀t x,g.tok t=some x->g'.tok t=some x
theorem Le.refl (g:View):Le g g:=⟨λ_ _ e=>e,λ_ _ e=>e⟩
theorem Le.trans {a b c:View}(x:Le a b)(y:Le b c):Le a c:=⟨λk o e=>y.obj k o (x.obj k o e),λk o e=>y.tok k o (x.tok k o e)⟩
structure Ext (W:Wd)(g:View)(s:Shared)(g':View)(s':Shared):Prop where
 le:Le g g'
 ok:Ok W g' s'
 keep:∀a o,s.heap.get? a=some o->bD o=false->s'.heap.get? a=some o
 new:∀a o,s.heap.get? a=some o->bD o=false->g.obj a=none->g'.obj a=none
 same:s'={s with heap:=s'.heap,toks:=s'.toks }
variable {W:Wd}{g:View}{s:Shared}
theorem Ext.refl (k:Ok W g s):Ext W g s g s:=⟨Le.refl g,k,λ_ _ e _=>e,λ_ _ _ _ e=>e,rfl⟩
variable {g':View}{s':Shared}
theorem Ext.trans {g'':View}{s'':Shared}(a:Ext W g s g' s')(b:Ext W g' s' g'' s''):Ext W g s g'' s'':=
 ⟨a.le.trans b.le,b.ok,λx o e t=>b.keep x o (a.keep x o e t) t,
  λx o l t e=>b.new x o (a.keep x o l t) t (a.new x o l t e),by rw [b.same,a.same]⟩
variable {c:Addr}
theorem CodeRecG.mono {q:Str}(x:CodeRecG g c q)(le:Le g g'):CodeRecG g' c q:=
 pv x λo vs t e r=>⟨o,vs,t,le.obj _ _ e,r⟩
variable {h:Heap}
theorem CodeRecG.code {q:Str}(x:CodeRecG g c q)(k:∀a o,g.obj a=some o->h.get? a=some o):h.CodeRec (.ref c) q:=
 aV x λo vs t e d r=>⟨c,o,vs,t,rfl,k _ _ e,d,r⟩
variable {h':Heap}
theorem TabAt.mono {m:Nat->Bool}{P:Addr}{q:Str}(x:TabAt m g h P q)(le:Le g g')(e:h'.get? P=h.get? P):TabAt m g' h' P q:=
 bT x λps a b c=>⟨ps,e▸a,b,λpos cv hc=>oP (c pos cv hc) λm c' r s=>⟨m,c',r,s.mono le⟩⟩
variable {o:Obj}{a:Addr}
theorem Ok.lt (k:Ok W g s)(e:g.obj a=some o):a < s.heap.objs.size:=aF (k.sub a o e)
theorem Ok.baseHeap (k:Ok W g s):∀a o,W.h₀.get? a=some o->s.heap.get? a=some o:=λa o e=>k.sub a o (k.base a o e)
theorem Ok.glob (k:Ok W g s):s.heap.Ns mainGlobals W.mg:=W.g.keeps k.baseHeap
theorem Ok.blt (k:Ok W g s):s.heap.Ns builtinsNs W.mb:=W.b.keeps k.baseHeap
theorem Ok.nolimit (k:Ok W g s):s.heap.NoLimit:=W.nolimit.keeps k.baseHeap
theorem zi (ps:Array Value):bD (tabObj ps)=true:=rfl
theorem Ok.fresh (k:Ok W g s)(ha:s.heap.objs.size<=a):g.obj a=none:=by
 cases e:g.obj a with
 | none=>rfl
 | some o=>exact absurd (k.lt e) (Nat.not_lt.mpr ha)
theorem Ext.tk (k:Ok W g s)(hn:s.toks<=n):Ext W g s g {s with toks:=n }:=
 ⟨Le.refl g,⟨k.base,k.sub,k.tabs,k.tabg,aw k.pos hn,λt x e=>⟨(k.tok t x e).1,aw (k.tok t x e).2 hn⟩⟩,λ_ _ e _=>e,λ_ _ _ _ e=>e,rfl⟩
noncomputable def Nu (g:View)(t:Tok)(x:Str):View:=⟨g.obj,λu=>if u=t then some x else g.tok u⟩
theorem Ext.text (k:Ok W g s)(x:Str):Ext W g s (Nu g s.toks x) {s with toks:=s.toks + 1 }:=by
 have le:Le g (Nu g s.toks x):=⟨λ_ _ e=>e,λt y e=>by
  show (if t=s.toks then some x else g.tok t)=some y
  have:=(k.tok t y e).2
  rw [if_neg (bG this)];exact e⟩
 refine ⟨le,⟨k.base,k.sub,λq hq=>(k.tabs q hq).mono le rfl,k.tabg,iX _,λt y e=>?_⟩,λ_ _ e _=>e,λ_ _ _ _ e=>e,rfl⟩
 by_cases ht:t=s.toks
 .subst ht;exact ⟨k.pos,Nat.lt_succ_self _⟩
 .have e':g.tok t=some y:=by
   have:(if t=s.toks then some x else g.tok t)=some y:=e
   rwa [if_neg ht] at this
  exact ⟨(k.tok t y e').1,lF (k.tok t y e').2⟩
theorem xt (g:View)(t:Tok)(x:Str):(Nu g t x).tok t=some x:=if_pos rfl
noncomputable def gu (g:View)(a:Addr)(o:Obj):View:=⟨λx=>if x=a then some o else g.obj x,g.tok⟩
theorem cW (g:View)(a:Addr)(o:Obj):(gu g a o).obj a=some o:=if_pos rfl
theorem cV {b:Addr}(h:b≠a):(gu g a o).obj b=g.obj b:=if_neg h
theorem gK (hn:g.obj a=none):Le g (gu g a o):=⟨λx y e=>by
 by_cases hx:x=a
 .subst hx;rw [hn] at e;exact (aK e).elim
 .rw [cV hx];exact e,λ_ _ e=>e⟩
theorem Ext.pushHid (k:Ok W g s)(o:Obj):Ext W g s g {s with heap:=s.heap.push o }:=
 ⟨Le.refl g,⟨k.base,λa x e=>Heap.get?_push_of_some _ (k.sub a x e),λq hq=>by
   apply aA (k.tabs q hq);intro ps a r
   exact ⟨ps,Heap.get?_push_of_some _ a,r⟩,k.tabg,k.pos,k.tok⟩,λa x e _=>Heap.get?_push_of_some _ e,λ_ _ _ _ e=>e,rfl⟩
theorem Ext.see (k:Ok W g s)(e0:s.heap.get? a=some o)(ha:g.obj a=none)(ht:bD o=false):
  Le g (gu g a o)/\Ok W (gu g a o) s:=by
 have le:=gK (o:=o) ha
 refine ⟨le,⟨λb x e=>le.obj _ _ (k.base b x e),λb x e=>?_,λq hq=>(k.tabs q hq).mono le rfl,λq hq=>?_,k.pos,k.tok⟩⟩
 .by_cases hx:b=a
  .subst hx;rw [cW] at e;(refine eQ e ?_;clear e;intro q₁;subst q₁);exact e0
  .rw [cV hx] at e;exact k.sub b x e
 .apply aA (k.tabs q hq);intro ps b _
  rw [cV (λx=>by rw [x,e0] at b;(refine eQ b ?_;clear b;intro q₁;subst q₁);exact (ag ht.symm).elim)]
  exact k.tabg q hq
theorem Ext.push (k:Ok W g s)(o:Obj)(hf:o.isFreed=false):Ext W g s (gu g s.heap.objs.size o) {s with heap:=s.heap.push o }:=by
 have hn:g.obj s.heap.objs.size=none:=k.fresh (ae _)
 have le:=gK (o:=o) hn
 refine ⟨le,⟨λa x e=>le.obj _ _ (k.base a x e),λa x e=>?_,λq hq=>?_,λq hq=>?_,k.pos,k.tok⟩,λa x e _=>Heap.get?_push_of_some _ e,λa x l _ e=>?_,rfl⟩
 .by_cases hx:a=s.heap.objs.size
  .subst hx;rw [cW] at e;(refine eQ e ?_;clear e;intro q₁;subst q₁);exact Heap.get?_push_size _ hf
  .rw [cV hx] at e;exact Heap.get?_push_of_some _ (k.sub a x e)
 .apply bT (k.tabs q hq);intro ps a b c
  exact ⟨ps,Heap.get?_push_of_some _ a,b,λpos cv hc=>oP (c pos cv hc) λm c' r s=>⟨m,c',r,s.mono le⟩⟩
 .apply aA (k.tabs q hq);intro ps a _
  rw [cV (bG (aF a))]
  exact k.tabg q hq
 .rw [cV (bG (aF l))]
  exact e
theorem Ext.kept (k:Ok W g s)(hk:∀b o,s.heap.get? b=some o->h'.get? b=some o)(hn:s.toks<=n):Ext W g s g {s with heap:=h',toks:=n }:=
 ⟨Le.refl g,⟨k.base,λa o e=>hk a o (k.sub a o e),λq hq=>aA (k.tabs q hq) λps a r=>⟨ps,hk _ _ a,r⟩,k.tabg,aw k.pos hn,λt x e=>⟨(k.tok t x e).1,aw (k.tok t x e).2 hn⟩⟩,
  λa o e _=>hk a o e,λ_ _ _ _ e=>e,rfl⟩
theorem Ok.notTab (k:Ok W g s)(e:s.heap.get? a=some o)(ho:bD o=false):∀q∈W.tabs,q.2.1≠a:=λq hq x=>by
 apply aA (k.tabs q hq);intro ps b _
 rw [x,e] at b
 (refine eQ b ?_;clear b;intro q₁;subst q₁)
 exact (ag ho.symm).elim
noncomputable abbrev Ft (vs:Array Value)(n:Nat):Obj:={cls:=.type "tuple",data:=.seq vs n }
noncomputable abbrev mW (vs:Array Value)(n:Nat):Obj:={cls:=.type "list",data:=.seq vs n }
mutual
inductive Rep (W:Wd)(g:View):Value->D->Prop
 | none:Rep W g .none .none
 | bool (b:_):Rep W g (.bool b) (.bool b)
 | int (i t:_):Rep W g (.int i t) (.int i)
 | str (x t:_):Rep W g (.str x t) (.str x)
 | kstr {x t:_}:g.tok t=some x->Rep W g (.str x t) (.kstr x)
 | bytes (x t:_):Rep W g (.bytes x t) (.bytes x)
 | tup {a vs n ds:_}:g.obj a=some (Ft vs n)->RepAll W g vs.toList ds->Rep W g (.ref a) (.tup ds)
 | list {a vs n ds:_}:g.obj a=some (mW vs n)->RepAll W g vs.toList ds->Rep W g (.ref a) (.list ds)
 | sdict {a o ks vs ds:_}:g.obj a=some o->(a==sysModules)=false->o.IsDictOf (strKind W.prog W.w) (ks.zip vs)->ks.length=vs.length->RepAll W g vs ds->Rep W g (.ref a) (.sdict ks ds)
 | idict {a o ks vs ds:_}:g.obj a=some o->(a==sysModules)=false->o.IsDictOf (intKind W.prog W.w) (ks.zip vs)->ks.length=vs.length->RepAll W g vs ds->Rep W g (.ref a) (.idict ks ds)
 | ref (a:_):Rep W g (.ref a) (.ref a)
 | bi (id:_):Rep W g (.builtin id) (.bi id)
 | ty (n:_):Rep W g (.type n) (.ty n)
 | lam {a o fd c q cl args body scope:_}:g.obj a=some o->o.data=.func fd->fd.params=args->fd.body=body->fd.scope=scope->fd.closure=cl->fd.code=.ref c->CodeRecG g c q->fd.qualname=q->
   fd.globals=mainGlobals->fd.builtins=builtinsNs->fd.defaults=.none->fd.kwdefaults=.none->Rep W g (.ref a) (.lam cl args body scope)
inductive RepAll (W:Wd)(g:View):List Value->List D->Prop
 | nil:RepAll W g [] []
 | cons {v vs d ds:_}:Rep W g v d->RepAll W g vs ds->RepAll W g (v :: vs) (d :: ds)
end
noncomputable def Pj (W:Wd)(g:View)(v:Value):D->Prop
 | .none=>v=.none
 | .bool b=>v=.bool b
 | .int i=>∃t,v=.int i t
 | .str x=>∃t,v=.str x t
 | .kstr x=>∃t,v=.str x t/\g.tok t=some x
 | .bytes x=>∃t,v=.bytes x t
 | .tup ds=>∃a vs n,v=.ref a/\g.obj a=some (Ft vs n)/\RepAll W g vs.toList ds
 | .list ds=>∃a vs n,v=.ref a/\g.obj a=some (mW vs n)/\RepAll W g vs.toList ds
 | .sdict ks ds=>∃a o vs,v=.ref a/\g.obj a=some o/\(a==sysModules)=false/\o.IsDictOf (strKind W.prog W.w) (ks.zip vs)/\ks.length=vs.length/\RepAll W g vs ds
 | .idict ks ds=>∃a o vs,v=.ref a/\g.obj a=some o/\(a==sysModules)=false/\o.IsDictOf (intKind W.prog W.w) (ks.zip vs)/\ks.length=vs.length/\RepAll W g vs ds
 | .ref a=>v=.ref a
 | .bi id=>v=.builtin id
 | .ty n=>v=.type n
 | .lam ..=>True
variable {d:D}{v:Value}
theorem Rep.inv (r:Rep W g v d):Pj W g v d:=
 r.casesOn (motive_1:=λv d _=>Pj W g v d) rfl (λ_=>rfl) (λ_ t=>⟨t,rfl⟩) (λ_ t=>⟨t,rfl⟩) (λh=>⟨_,rfl,h⟩) (λ_ t=>⟨t,rfl⟩) (λh r=>⟨_,_,_,rfl,h,r⟩) (λh r=>⟨_,_,_,rfl,h,r⟩)
  (λa b c d r=>⟨_,_,_,rfl,a,b,c,d,r⟩) (λa b c d r=>⟨_,_,_,rfl,a,b,c,d,r⟩) (λ_=>rfl) (λ_=>rfl) (λ_=>rfl) (λ_ _ _ _ _ _ _ _ _ _ _ _ _=>trivial)
variable {scope:Scope}{args:Arguments}{cl:List (Str×Addr)}
@[elab_as_elim] theorem Rep.lamE {P:Value->Prop}{body:FuncBody}(r:Rep W g v (.lam cl args body scope))(k:∀{a o fd c q},g.obj a=some o->o.data=.func fd->fd.params=args->fd.body=body->fd.scope=scope->fd.closure=cl->fd.code=.ref c->CodeRecG g c q->fd.qualname=q->
  fd.globals=mainGlobals->fd.builtins=builtinsNs->fd.defaults=.none->fd.kwdefaults=.none->P (.ref a)):P v:=by
 cases r with | lam h1 h2 h3 h4 h5 h6 h7 h8 h9 h10 h11 h12 h13=>exact k h1 h2 h3 h4 h5 h6 h7 h8 h9 h10 h11 h12 h13
@[elab_as_elim] theorem Rep.noneE {P:Value->Prop}(r:Rep W g v .none)(k:P .none):P v:=(show v=_ from r.inv)▸k
@[elab_as_elim] theorem Rep.boolE {P:Value->Prop}{b:Bool}(r:Rep W g v (.bool b))(k:P (.bool b)):P v:=(show v=_ from r.inv)▸k
@[elab_as_elim] theorem Rep.refE {P:Value->Prop}(r:Rep W g v (.ref a))(k:P (.ref a)):P v:=(show v=_ from r.inv)▸k
@[elab_as_elim] theorem Rep.intE {P:Value->Prop}{i:Int}(r:Rep W g v (.int i))(k:∀t,P (.int i t)):P v:=af r.inv λt e=>e▸k t
@[elab_as_elim] theorem Rep.bytesE {P:Value->Prop}{x:Array UInt8}(r:Rep W g v (.bytes x))(k:∀t,P (.bytes x t)):P v:=af r.inv λt e=>e▸k t
variable {x:Str}
@[elab_as_elim] theorem Rep.kstrE {P:Value->Prop}(r:Rep W g v (.kstr x))(k:∀t,g.tok t=some x->P (.str x t)):P v:=af r.inv λt e=>e.1▸k t e.2
variable {ds:List D}
@[elab_as_elim] theorem Rep.listE {P:Value->Prop}(r:Rep W g v (.list ds))(k:∀a vs n,g.obj a=some (mW vs n)->RepAll W g vs.toList ds->P (.ref a)):P v:=aV r.inv λa vs n e h=>e▸λh'=>k a vs n h h'
theorem cR {o:Option α}{f:α->Option β}{b:β}(e:o.bind f=some b){P:Prop}(h:∀a,o=some a->f a=some b->P):P:=by
 cases o with
 | none=>exact (aK e).elim
 | some a=>exact h a rfl e
theorem KT {o o':Option α}{b:α}(e:o.or o'=some b){P:Prop}(h:o=some b->P)(h':o'=some b->P):P:=by
 cases o with
 | none=>exact h' e
 | some a=>exact h e
theorem kg {o:Option α}{f:α->β}{b:β}(e:o.map f=some b){P:Prop}(h:∀a,o=some a->f a=b->P):P:=by
 cases o with
 | none=>exact (aK e).elim
 | some a=>exact h a rfl (aL e)
theorem uL {c:Prop}[Decidable c]{x y:Option α}{b:α}(e:(if c then x else y)=some b){P:Prop}(h1:c->x=some b->P)(h2:¬c->y=some b->P):P:=by
 by_cases h:c
 .rw [if_pos h] at e;exact h1 h e
 .rw [if_neg h] at e;exact h2 h e
theorem Cd {c:Prop}[Decidable c]{a b:α}(e:(if c then some a else none)=some b){P:Prop}(h:c->a=b->P):P:=by
 by_cases hc:c
 .rw [if_pos hc] at e;exact h hc (aL e)
 .rw [if_neg hc] at e;exact (aK e).elim
noncomputable def nq:D->Option Int
 | .int i=>some i
 | _=>none
noncomputable def mw:D->Option (List D)
 | .list xs=>some xs
 | _=>none
noncomputable def LY:D->Option (List Str×List D)
 | .sdict ks ds=>some (ks,ds)
 | _=>none
theorem Lx {i:Int}(e:nq d=some i):d=.int i:=by
 cases d with
 | int j=>(refine eQ e ?_;clear e;intro q₁;subst q₁);rfl
 | _=>exact nomatch e
theorem qS {xs:List D}(e:mw d=some xs):d=.list xs:=by
 cases d with
 | list j=>(refine eQ e ?_;clear e;intro q₁;subst q₁);rfl
 | _=>exact nomatch e
theorem IX {q:List Str×List D}(e:LY d=some q):d=.sdict q.1 q.2:=by
 cases d with
 | sdict j=>(refine rO e ?_;clear e;intro q₁ q₂;subst q₁ q₂);rfl
 | _=>exact nomatch e
theorem no {x:α}{P:Prop}(e:(none:Option α)=some x):P:=(aK e).elim
theorem RepAll.ind {P:List Value->List D->Prop}(h0:P [] [])(h1:∀v vs d ds,Rep W g v d->RepAll W g vs ds->P vs ds->P (v :: vs) (d :: ds)):∀{vs:List Value} {ds:List D},RepAll W g vs ds->P vs ds:=by
 intro vs
 induction vs with
 | nil=>intro ds r;cases r;exact h0
 | cons v vs ih=>intro ds r;cases r with | cons a b=>exact h1 _ _ _ _ a b (ih b)
theorem Rep.mono (le:Le g g')(r:Rep W g v d):Rep W g' v d:=
 r.rec (motive_1:=λv d _=>Rep W g' v d) (motive_2:=λvs ds _=>RepAll W g' vs ds) .none .bool .int .str (λe=>.kstr (le.tok _ _ e)) .bytes (λa _ r=>.tup (le.obj _ _ a) r) (λa _ r=>.list (le.obj _ _ a) r)
  (λa b c d _ r=>.sdict (le.obj _ _ a) b c d r) (λa b c d _ r=>.idict (le.obj _ _ a) b c d r) .ref .bi .ty (λa b c d e f i j k l m n o=>.lam (le.obj _ _ a) b c d e f i (j.mono le) k l m n o) .nil λ_ _ a b=>.cons a b
variable {vs:List Value}
theorem RepAll.mono (le:Le g g')(r:RepAll W g vs ds):RepAll W g' vs ds:=r.ind (P:=λvs ds=>RepAll W g' vs ds) .nil λ_ _ _ _ a _ b=>.cons (a.mono le) b
theorem RepAll.length (r:RepAll W g vs ds):vs.length=ds.length:=r.ind (P:=λvs ds=>vs.length=ds.length) rfl λ_ _ _ _ _ _ e=>congrArg (· + 1) e
theorem RepAll.append {us:List Value}{es:List D}(r:RepAll W g vs ds)(k:RepAll W g us es):RepAll W g (vs++us) (ds++es):=r.ind (P:=λvs ds=>RepAll W g (vs++us) (ds++es)) k λ_ _ _ _ a _ b=>.cons a b
theorem RepAll.get (r:RepAll W g vs ds):∀{i:Nat} {d:D},ds[i]? =some d->∃v,vs[i]? =some v/\Rep W g v d:=λ{i d}=>
 r.ind (P:=λvs ds=>∀(i:Nat) d,ds[i]? =some d->∃v,vs[i]? =some v/\Rep W g v d) (λ_ _ e=>no e) (λv _ d' _ a _ ih i=>i.casesOn (λd e=>⟨v,rfl,aL e▸a⟩) λi d e=>ih i d e) i d
theorem RepAll.getV (r:RepAll W g vs ds):∀{i:Nat} {v:Value},vs[i]? =some v->∃d,ds[i]? =some d/\Rep W g v d:=λ{i v}=>
 r.ind (P:=λvs ds=>∀(i:Nat) v,vs[i]? =some v->∃d,ds[i]? =some d/\Rep W g v d) (λ_ _ e=>no e) (λv _ d' _ a _ ih i=>i.casesOn (λu e=>⟨d',rfl,aL e▸a⟩) λi d e=>ih i d e) i v
theorem RepAll.reverse (r:RepAll W g vs ds):RepAll W g vs.reverse ds.reverse:=by
 induction vs generalizing ds with
 | nil=>cases r;exact .nil
 | cons v vs ih=>cases r with | cons a b=>rw [iF,iF];exact (ih b).append (.cons a .nil)
noncomputable def Yl (W:Wd)(A:Around)(t:Sem Value)(g:View)(s:Shared)(d:D):Prop:=
 ∀(Q:Value->Shared->Prop) (E:Value->Shared->Prop),(∀v g' s',Ext W g s g' s'->Rep W g' v d->Q v s')->wpAny (model W.prog W.w) A t Q E s
structure Room (A:Around)(k:Nat):Prop where
 depth:A.depth + k < 900
 units:A.units + 20 * k + 1000 < cLine
 handled:A.handled=none
variable {k:Nat}{A:Around}
theorem Room.dep (r:Room A k):A.depth < recursionLimit:=by
 have:=r.depth;unfold recursionLimit;exact (qN (aR Y0 (.k 1000)) [1]:cz [aR (.a Y0 Y1) (.k 900)]) this
theorem Room.u100 (r:Room A k):A.units + 100 < cLine:=bI (ai (fq (by decide) _) (GX (b9 A.units (20 * k)) 1000)) r.units
variable {env:Env}
theorem Room.deeper (r:Room A (k + 1)):Room (A.deeper env) k:=
 ⟨by have:=r.depth;show A.depth + 1 + k < 900;exact (qN (aR (.a (.a Y0 J1) Y1) (.k 900)) [1]:cz [aR (.a Y0 (.a Y1 J1)) (.k 900)]) this,by have:=r.units;show A.units + 3 + 20 * k + 1000 < cLine;exact (qN (aR (.a (.a (.a Y0 J3) (.m 20 Y1)) (.k 1000)) Y2) [1]:dL [aR (.a (.a Y0 (.m 20 (.a Y1 J1))) (.k 1000)) Y2]) this,r.handled⟩
variable {j:Nat}
theorem Room.le (r:Room A k)(h:j<=k):Room A j:=⟨by have:=r.depth;exact (qN (aR (.a Y2 Y0) (.k 900)) [1,1]:dL [.l Y0 Y1,aR (.a Y2 Y1) (.k 900)]) h this,by have:=r.units;exact (qN (aR (.a (.a Y2 (.m 20 Y0)) (.k 1000)) Y3) [20,1]:gC [.l Y0 Y1,aR (.a (.a Y2 (.m 20 Y1)) (.k 1000)) Y3]) h this,r.handled⟩
noncomputable abbrev R:=Option (D×List Prop)
noncomputable def AllP:List Prop->Prop
 | []=>True
 | p :: r=>p/\AllP r
theorem AllP.append {a b:List Prop}:AllP (a++b)<->AllP a/\AllP b:=by
 induction a with
 | nil=>simp [AllP]
 | cons x a ih=>simp only [b8,AllP,ih,and_assoc]
noncomputable def jK:D->Option Str
 | .str x=>some x
 | .kstr x=>some x
 | _=>none
theorem eI (r:Rep W g v d)(e:jK d=some x):∃t,v=.str x t:=by
 cases d with
 | str y=>(refine eQ e ?_;clear e;intro q₁;subst q₁);exact r.inv
 | kstr y=>(refine eQ e ?_;clear e;intro q₁;subst q₁);exact aA r.inv λt h _=>⟨t,h⟩
 | _=>exact no e
noncomputable def NN (op:Operator)(a b:Int):Option (Int×List Prop):=match op with
 | .Add=>some (a + b,[])
 | .Sub=>some (a - b,[])
 | .Mult=>some (a * b,[IntMulOk a b])
 | .FloorDiv=>some (a.fdiv b,[b≠0,fE a b=false])
 | .Mod=>some (a.fmod b,[b≠0])
 | .Pow=>some (a ^ b.toNat,[0<=b,(d8 a:Int) * b<=2 ^ 27])
 | .LShift=>some (a * 2 ^ b.toNat,[0<=b,(d8 a:Int) + b<=2 ^ 27])
 | .RShift=>some (a.fdiv (2 ^ b.toNat),[0<=b])
 | .BitAnd=>some (iy a b,[])
 | .BitOr=>some (i7 a b,[])
 | .BitXor=>some (Builtin.bitXor a b,[])
 | _=>none
variable {b:Int}{u:Tok}{P:List Prop}{Q E:Value->Shared->Prop}
theorem Lh {op:Operator}{a r:Int}{t:Tok}(e:NN op a b=some (r,P))(hP:AllP P)(h:Q (.int r s.toks) {s with toks:=s.toks + 1 }):wpAny (model W.prog W.w) A (binaryOp op (.int a t) (.int b u)) Q E s:=by
 cases op<;>(first | exact (aK e).elim | (refine rO e ?_;clear e;intro q₁ q₂;subst q₁ q₂) | cases e)
 .exact add_int h
 .exact sub_int h
 .exact mul_int h hP.1
 .exact mod_int' hP.1 h
 .exact pow_int hP.1 hP.2.1 h
 .exact lshift_int hP.1 hP.2.1 h
 .exact rshift_int hP.1 h
 .exact or_int h
 .exact xor_int h
 .exact and_int h
 .exact floordiv_int hP.1 h (.inl hP.2.1)
theorem Yl.int {t:Sem Value}{r:Int}(k:Ok W g s)(h:∀{Q:Value->Shared->Prop} {E:Value->Shared->Prop},Q (.int r s.toks) {s with toks:=s.toks + 1 }->wpAny (model W.prog W.w) A t Q E s):Yl W A t g s (.int r):=
 λ_ _ hQ=>h (hQ _ g _ (Ext.tk k (aY _)) (.int _ _))
theorem Yl.val {t:Sem Value}(k:Ok W g s)(r:Rep W g v d)(h:∀{Q:Value->Shared->Prop} {E:Value->Shared->Prop},Q v s->wpAny (model W.prog W.w) A t Q E s):Yl W A t g s d:=
 λ_ _ hQ=>h (hQ _ g _ (Ext.refl k) r)
theorem Yl.strAny {t:Sem Value}(k:Ok W g s)(h:∀{Q:Value->Shared->Prop} {E:Value->Shared->Prop},(∀t' n,Q (.str x t') {s with toks:=n })->wpAny (model W.prog W.w) A t Q E s):Yl W A t g s (.str x):=
 λ_ _ hQ=>ch (ae _) (aI (h (Q:=λv s'=>∃t' n,v=.str x t'/\s'={s with toks:=n }) (E:=λ_ _=>False) λt' n=>⟨t',n,rfl,rfl⟩)
  (λ_ _ zq0 hn=>fo zq0 λt' n e1 e2=>by subst e1 e2;exact hQ _ g _ (Ext.tk k hn) (.str _ _)) λ_ _ e=>e.elim)
theorem eA {i:Int}(e:nq d=some i)(r:Rep W g v d):∃t,v=.int i t:=by rw [Lx e] at r;exact r.inv
theorem sx {xs:List D}(e:mw d=some xs)(r:Rep W g v d){P:Prop}(h:∀a,v=.ref a->Rep W g (.ref a) (.list xs)->P):P:=by
 rw [qS e] at r
 apply aV (r.inv);intro a _ _ hq0 h1 h2;subst hq0
 exact h a rfl (.list h1 h2)
noncomputable def GP (op:Operator)(x y:D):R:=((nq x).bind λa=>(nq y).bind λb=>(NN op a b).map λp=>(.int p.1,p.2)).or (match op with
 | .Add=>((mw x).bind λa=>(mw y).bind λb=>some (.list (a++b),[a.length + b.length<=sizeLine])).or ((jK x).bind λa=>(jK y).bind λb=>some (.str (a++b),[a.length + b.length<=sizeLine]))
 | .Mult=>(jK x).bind λa=>(nq y).bind λn=>some (.str (Txt.mul a n),[MulOk a n])
 | _=>none)
theorem rX (k:Ok W g s)(r:RepAll W g vs ds)(n:Nat):
  Rep W (gu g s.heap.objs.size (mW vs.toArray n)) (.ref s.heap.objs.size) (.list ds):=
 .list (cW _ _ _) (by simpa using r.mono (Ext.push k (mW vs.toArray n) rfl).le)
theorem uk (k:Ok W g s)(r:RepAll W g vs ds)(n:Nat):
  Rep W (gu g s.heap.objs.size (Ft vs.toArray n)) (.ref s.heap.objs.size) (.tup ds):=
 .tup (cW _ _ _) (by simpa using r.mono (Ext.push k (Ft vs.toArray n) rfl).le)
theorem oW (k:Ok W g s)(r:RepAll W g vs ds)(hz:ds.length<=sizeLine):Yl W A (newList vs) g s (.list ds):=λ_ _ hQ=>
 bB (hQ _ _ _ (Ext.push k _ rfl) (rX k r 0)) (by show vs.toArray.size<=sizeLine;rw [tu,r.length];exact hz)
theorem Ao (k:Ok W g s)(r:RepAll W g vs ds)(hz:ds.length<=sizeLine):Yl W A (newTuple vs) g s (.tup ds):=λ_ _ hQ=>
 bB (hQ _ _ _ (Ext.push k _ rfl) (uk k r 0)) (by show vs.toArray.size<=sizeLine;rw [tu,r.length];exact hz)
theorem Cp {b:Addr}{xs ys:List D}(k:Ok W g s)(ra:Rep W g (.ref a) (.list xs))(rb:Rep W g (.ref b) (.list ys))(hz:xs.length + ys.length<=sizeLine):
  Yl W A (binaryOp .Add (.ref a) (.ref b)) g s (.list (xs++ys)):=by
 intro Q E hQ
 apply aV (ra.inv);intro _ va na q ha raa
 (refine G7 q ?_;clear q;intro q₁;subst q₁)
 apply aV (rb.inv);intro _ vb nb q hb rbb
 (refine G7 q ?_;clear q;intro q₁;subst q₁)
 have hla:=raa.length
 have hlb:=rbb.length
 rw [aE] at hla hlb
 have ho:=k.sub _ _ ha
 have ho2:=k.sub _ _ hb
 refine wT ⟨_,ho,rfl⟩ ⟨_,ho2,rfl⟩ noFill_list_add seq_list_add PySem.F.slot_list_add PySem.F.entry_list_add (PySem.F.args_list_add_2 _ _) (list_addW a b va vb na nb none none #[] #[] (by rw [hla,hlb];exact hz)) ⟨ho,ho2,?_⟩
 have e:va++vb=(va.toList++vb.toList).toArray:=by simp
 rw [e]
 exact hQ _ _ _ (Ext.push k _ rfl) (rX k (raa.append rbb) 0)
theorem LE {op:Operator}{x y:D}{u:Value}(e:GP op x y=some (d,P))(hP:AllP P)(k:Ok W g s)(rx:Rep W g v x)(ry:Rep W g u y):
  Yl W A (binaryOp op v u) g s d:=by
 refine KT e (λe=>cR e λa ha e=>cR e λb hb e=>kg e λp hp q=>?_) λe=>?_
 .obtain ⟨_,rfl⟩:=eA ha rx
  obtain ⟨_,rfl⟩:=eA hb ry
  (refine mQ q ?_;clear q;intro q₁ q₂;subst q₁ q₂)
  exact Yl.int k λh=>Lh hp hP h
 .cases op with
  | Add=>
   refine KT e (λe=>cR e λa ha e=>cR e λb hb e=>?_) λe=>cR e λa ha e=>cR e λb hb e=>?_
   ·(refine rO e ?_;clear e;intro q₁ q₂;subst q₁ q₂)
    refine sx ha rx λ_ q r1=>q▸sx hb ry λ_ q r2=>q▸Cp k r1 r2 hP.1
   ·(refine rO e ?_;clear e;intro q₁ q₂;subst q₁ q₂)
    obtain ⟨t,rfl⟩:=eI rx ha
    obtain ⟨t',rfl⟩:=eI ry hb
    exact Yl.strAny k λh=>SB.add h hP.1
  | Mult=>
   refine cR e λa ha e=>cR e λb hb e=>?_
   (refine rO e ?_;clear e;intro q₁ q₂;subst q₁ q₂)
   obtain ⟨t,rfl⟩:=eI rx ha
   obtain ⟨_,rfl⟩:=eA hb ry
   exact Yl.strAny k λh=>SB.mul hP.1 h
  | _=>exact no e
noncomputable def Pv (op:UnaryOp)(x:D):R:=(nq x).bind λa=>match op with
 | .USub=>some (.int (-a),[])
 | .Invert=>some (.int (Builtin.bitNot a),[])
 | _=>none
theorem M7 {op:UnaryOp}{x:D}(e:Pv op x=some (d,P))(k:Ok W g s)(rx:Rep W g v x):Yl W A (unaryOp op v) g s d:=by
 refine cR e λa ha e=>?_
 obtain ⟨_,rfl⟩:=eA ha rx
 cases op with
 | USub=>(refine rO e ?_;clear e;intro q₁ q₂;subst q₁ q₂);exact Yl.int k λh=>neg_int h
 | Invert=>(refine rO e ?_;clear e;intro q₁ q₂;subst q₁ q₂);exact Yl.int k λh=>invert_int h
 | _=>exact no e
mutual
noncomputable def lL:D->Option PyData
 | .none=>some .none
 | .bool b=>some (.bool b)
 | .int i=>some (.int i)
 | .str x=>some (.str x)
 | .kstr x=>some (.str x)
 | .list xs=>(kf xs).map .list
 | .tup xs=>(kf xs).map .tuple
 | _=>none
noncomputable def kf:List D->Option (List PyData)
 | []=>some []
 | x :: xs=>match lL x,kf xs with
  | some a,some b=>some (a :: b)
  | _,_=>none
end
noncomputable def ic {K α:Type}[DecidableEq K]:List K->List α->K->Option α
 | k :: ks,v :: vs,x=>if k=x then some v else ic ks vs x
 | _,_,_=>none
variable {K:Type}
theorem jE [DecidableEq K](k:K)(ks:List K)(v:α)(vs:List α)(x:K):ic (k :: ks) (v :: vs) x=if k=x then some v else ic ks vs x:=rfl
theorem fj {K:Type}[DecidableEq K]:∀(ks:List K) (vs:List Value) (x:K),valueAt (ks.zip vs) x=ic ks vs x
 | [],_,_=>rfl
 | _ :: _,[],_=>rfl
 | k :: ks,v :: vs,x=>by
  have ih:=fj ks vs x
  unfold valueAt at ih ⊢
  show _=if k=x then some v else ic ks vs x
  simp only [Ha,List.find?_cons]
  by_cases h:k=x
  .simp [h]
  .simp [h,ih]
theorem lg {K:Type}[DecidableEq K]:∀{ks:List K} {vs:List Value} {ds:List D} {x:K},RepAll W g vs ds->(∀d,ic ks ds x=some d->∃v,ic ks vs x=some v/\Rep W g v d)/\(ic ks ds x=none->ic ks vs x=none)
 | [],_,_,_,_=>⟨λd e=>(aK e).elim,λ_=>rfl⟩
 | k :: ks,_,_,x,.nil=>⟨λd e=>(aK e).elim,λ_=>rfl⟩
 | k :: ks,_,_,x,.cons a r=>by
  have ih:=lg (ks:=ks) (x:=x) r
  by_cases h:k=x
  .rw [jE,jE,if_pos h,if_pos h]
   exact ⟨λd e=>⟨_,rfl,by (refine eQ e ?_;clear e;intro q₁;subst q₁);exact a⟩,λe=>(uv e).elim⟩
  .rw [jE,jE,if_neg h,if_neg h]
   exact ih
theorem Fw {ps:List PyData}(e:kf (d :: ds)=some ps){P:Prop}(h:∀p qs,lL d=some p->kf ds=some qs->ps=p :: qs->P):P:=by
 unfold kf at e
 cases h1:lL d with
 | none=>rw [h1] at e;exact (aK e).elim
 | some p=>
  cases h2:kf ds with
  | none=>rw [h1,h2] at e;exact (aK e).elim
  | some qs=>rw [h1,h2] at e;(refine eQ e ?_;clear e;intro q₁;subst q₁);exact h p qs h1 h2 rfl
theorem CL (k:∀a o,g.obj a=some o->s.heap.get? a=some o)(r:Rep W g v d):∀p:PyData,lL d=some p->∃as,Reads s.heap v p as:=
 r.rec (motive_1:=λv d _=>∀p,lL d=some p->∃as,Reads s.heap v p as) (motive_2:=λvs ds _=>∀ps,kf ds=some ps->∃as,ReadsAll s.heap vs ps as)
  (λ_ e=>aL e▸⟨_,.none⟩) (λb _ e=>aL e▸⟨_,.bool b⟩) (λi t _ e=>aL e▸⟨_,.int i t⟩) (λx t _ e=>aL e▸⟨_,.str x t⟩) (λ_ _ e=>aL e▸⟨_,.str _ _⟩) (λ_ _ _ e=>no e)
  (λa _ ih p e=>kg e λps h q=>q▸Kw (ih ps h) λas ra=>⟨as,.tuple (k _ _ a) rfl rfl ra⟩) (λa _ ih p e=>kg e λps h q=>q▸Kw (ih ps h) λas ra=>⟨_,.list (k _ _ a) rfl rfl ra⟩)
  (λ_ _ _ _ _ _ _ e=>no e) (λ_ _ _ _ _ _ _ e=>no e) (λ_ _ e=>no e) (λ_ _ e=>no e) (λ_ _ e=>no e) (λ_ _ _ _ _ _ _ _ _ _ _ _ _ _ e=>no e)
  (λ_ e=>aL e▸⟨_,.nil⟩) λ_ _ a b ps e=>Fw e λp qs h1 h2 q=>q▸Kw (a p h1) λas ra=>Kw (b qs h2) λbs rb=>⟨_,.cons ra rb⟩
theorem iN (k:∀a o,g.obj a=some o->s.heap.get? a=some o){p:PyData}(e:lL d=some p)(r:Rep W g v d):∃as,Reads s.heap v p as:=CL k r p e
variable {ks:List Str}
theorem Rep.inv_sdict (r:Rep W g v (.sdict ks ds)):∃a o vs,v=.ref a/\g.obj a=some o/\(a==sysModules)=false/\o.IsDictOf (strKind W.prog W.w) (ks.zip vs)/\ks.length=vs.length/\RepAll W g vs ds:=r.inv
theorem Rep.inv_idict {ks:List Int}(r:Rep W g v (.idict ks ds)):∃a o vs,v=.ref a/\g.obj a=some o/\(a==sysModules)=false/\o.IsDictOf (intKind W.prog W.w) (ks.zip vs)/\ks.length=vs.length/\RepAll W g vs ds:=r.inv
theorem Rep.inv_list (r:Rep W g v (.list ds)):∃a vs n,v=.ref a/\g.obj a=some (mW vs n)/\RepAll W g vs.toList ds:=r.inv
theorem Rep.inv_tup (r:Rep W g v (.tup ds)):∃a vs n,v=.ref a/\g.obj a=some (Ft vs n)/\RepAll W g vs.toList ds:=r.inv
noncomputable def isNone:D->Bool
 | .none=>true
 | _=>false
noncomputable def JZ (op:CmpOp)(a b:Int):Option Bool:=match op with
 | .Lt=>some (decide (a < b))
 | .LtE=>some (decide (a<=b))
 | .Gt=>some (decide (b < a))
 | .GtE=>some (decide (b<=a))
 | .Eq=>some (a==b)
 | _=>none
noncomputable def bQ (p:PyData):Prop:=mE p=true
noncomputable def Of (x y:D):Option (Bool×List Prop):=((mw y).bind λys=>(lL x).bind λp=>(kf ys).bind λps=>some (ps.any (λq=>bZ q p),[bQ (.list ps),bQ p])).or
 (((LY y).bind λq=>(jK x).bind λa=>some ((ic q.1 q.2 a).isSome,[])).or ((jK x).bind λa=>(jK y).bind λb=>some (tK b a,[])))
noncomputable def ll (op:CmpOp)(x y:D):Option (Bool×List Prop):=((nq x).bind λa=>(nq y).bind λb=>(JZ op a b).map λr=>(r,[])).or (match op with
 | .Eq=>(lL x).bind λp=>(lL y).bind λq=>some (bZ p q,[bQ p,bQ q])
 | .NotEq=>(lL x).bind λp=>(lL y).bind λq=>some (!bZ p q,[bQ p,bQ q])
 | .Is=>if isNone y then some (isNone x,[]) else none
 | .IsNot=>if isNone y then some (!isNone x,[]) else none
 | .In=>Of x y
 | .NotIn=>(Of x y).map λp=>(!p.1,p.2)
 | _=>none)
theorem GB {op:CmpOp}{a:Int}{r:Bool}{t:Tok}(e:JZ op a b=some r)(h:Q (.bool r) s):
  wpAny (model W.prog W.w) A (compareOp op (.int a t) (.int b u)) Q E s:=by
 cases op<;>(first | exact (aK e).elim | (refine eQ e ?_;clear e;intro q₁;subst q₁) | cases e)
 .exact eq_int h
 .exact lt_int h
 .exact le_int h
 .exact gt_int h
 .exact ge_int h
theorem u8 (r:Rep W g v d):(v==.none)=isNone d:=
 r.casesOn (motive_1:=λv d _=>(v==.none)=isNone d) rfl (λ_=>rfl) (λ_ _=>rfl) (λ_ _=>rfl) (λ_=>rfl) (λ_ _=>rfl) (λ_ _=>rfl) (λ_ _=>rfl) (λ_ _ _ _ _=>rfl) (λ_ _ _ _ _=>rfl) (λ_=>rfl) (λ_=>rfl) (λ_=>rfl) (λ_ _ _ _ _ _ _ _ _ _ _ _ _=>rfl)
theorem EA (r:Rep W g v d)(h:isNone d=true):v=.none:=by
 cases d with
 | none=>exact r.inv
 | _=>(first | exact (ag h).elim | cases h)
theorem pY {p:PyData}(h:bQ p):p.canLay0=true/\p.depth<=64:=⟨SeqAt.canLay_of_shaped h,SeqAt.depth_of_shaped h⟩
theorem IC {x y:D}{b:Bool}{u:Value}(e:Of x y=some (b,P))(hP:AllP P)(k:Ok W g s)(rx:Rep W g v x)(ry:Rep W g u y)(hu:A.units + 100 < cLine):
  Yl W A (compareOp .In v u) g s (.bool b)/\Yl W A (compareOp .NotIn v u) g s (.bool (!b)):=by
 refine KT e (λe=>cR e λys hy e=>cR e λp hp e=>cR e λps hps e=>?_) λe=>KT e (λe=>cR e λq hq e=>cR e λa hs e=>?_) λe=>cR e λa ha e=>cR e λb' hb e=>?_
 ·(refine rO e ?_;clear e;intro q₁ q₂;subst q₁ q₂)
  rw [qS hy] at ry
  obtain ⟨as,ra⟩:=iN k.sub hp rx
  obtain ⟨bs,rb⟩:=iN k.sub (p:=.list ps) (by show (kf _).map PyData.list=_;rw [hps];rfl) ry
  have hx0:=pY hP.1;have c1:=hx0.1;have c2:=hx0.2
  have hx0:=pY hP.2.1;have c3:=hx0.1;have c4:=hx0.2
  have c1':rE ps=true:=by simpa [kc] using c1
  have hm:A.units + 1 + min (mF ps) p.depth < cLine:=by
   have:=Nat.min_le_right (mF ps) p.depth
   exact (qN (aR (.a (.a Y0 J1) Y3) Y1) [1,1,1]:gC [aR (.a Y0 (.k 100)) Y1,.l Y2 (.k 64),.l Y3 Y2]) hu hx0.2 this
  exact ⟨Yl.val k (.bool _) λh=>SeqAt.in_list_reads rb ra c1' c3 hm h,Yl.val k (.bool _) λh=>SeqAt.notIn_list_reads rb ra c1' c3 hm h⟩
 .obtain ⟨ks,ds⟩:=q
  (refine rO e ?_;clear e;intro q₁ q₂;subst q₁ q₂)
  rw [IX hq] at ry
  obtain ⟨t,rfl⟩:=eI rx hs
  apply gT (ry.inv_sdict);intro a' o' vs hq0 h1 h2 h3 h4 h5;subst hq0
  have hm:=(Heap.dictOf_iff.mpr ⟨_,k.sub _ _ h1,h3⟩).mapOf
  have hb:∀(a:Str),(valueAt (ks.zip vs) a).isSome=(ic ks ds a).isSome:=λa=>by
   rw [fj]
   have q:=lg (x:=a) (ks:=ks) h5
   cases hk:ic ks ds a with
   | none=>rw [q.2 hk];rfl
   | some d=>apply aA (q.1 d hk);intro v e _;rw [e];rfl
  refine ⟨λQ E hQ=>wpAny_in_of (ur _ _ _ _) h2 hm ?_,λQ E hQ=>wpAny_notIn_of (ur _ _ _ _) h2 hm ?_⟩
  .rw [hb];exact hQ _ g _ (Ext.tk k (aY _)) (.bool _)
  .rw [hb];exact hQ _ g _ (Ext.tk k (aY _)) (.bool _)
 ·(refine rO e ?_;clear e;intro q₁ q₂;subst q₁ q₂)
  obtain ⟨t,rfl⟩:=eI rx ha
  obtain ⟨t',rfl⟩:=eI ry hb
  exact ⟨Yl.val k (.bool _) λh=>SB.contains h,Yl.val k (.bool _) λh=>SB.notContains h⟩
theorem n7 {op:CmpOp}{x y:D}{b:Bool}{u:Value}(e:ll op x y=some (b,P))(hP:AllP P)(k:Ok W g s)(rx:Rep W g v x)(ry:Rep W g u y)(hu:A.units + 100 < cLine):
  Yl W A (compareOp op v u) g s (.bool b):=by
 refine KT e (λe=>cR e λa ha e=>cR e λb' hb e=>kg e λr hr q=>?_) λe=>?_
 .obtain ⟨_,rfl⟩:=eA ha rx
  obtain ⟨_,rfl⟩:=eA hb ry
  (refine mQ q ?_;clear q;intro q₁ q₂;subst q₁ q₂)
  exact Yl.val k (.bool _) λh=>GB hr h
 .cases op with
  | Eq=>
   refine cR e λp hp e=>cR e λq hq e=>?_
   (refine rO e ?_;clear e;intro q₁ q₂;subst q₁ q₂)
   obtain ⟨as,ra⟩:=iN k.sub hp rx
   obtain ⟨bs,rb⟩:=iN k.sub hq ry
   exact Yl.val k (.bool _) λh=>eq_dataH ra rb hP.1 hP.2.1 (Mn hu) h
  | NotEq=>
   refine cR e λp hp e=>cR e λq hq e=>?_
   (refine rO e ?_;clear e;intro q₁ q₂;subst q₁ q₂)
   obtain ⟨as,ra⟩:=iN k.sub hp rx
   obtain ⟨bs,rb⟩:=iN k.sub hq ry
   exact Yl.val k (.bool _) λh=>ne_dataH ra rb hP.1 hP.2.1 (Mn hu) h
  | Is=>
   refine Cd e λhn q=>?_
   (refine mQ q ?_;clear q;intro q₁ q₂;subst q₁ q₂)
   rw [EA ry hn]
   exact Yl.val k (.bool _) λh=>is_none_gen (by rw [u8 rx];exact h)
  | IsNot=>
   refine Cd e λhn q=>?_
   (refine mQ q ?_;clear q;intro q₁ q₂;subst q₁ q₂)
   rw [EA ry hn]
   exact Yl.val k (.bool _) λh=>isnot_none_gen (by rw [u8 rx];exact h)
  | In=>exact (IC e hP k rx ry hu).1
  | NotIn=>
   refine kg e λp hi q=>?_
   (refine mQ q ?_;clear q;intro q₁ q₂;subst q₁ q₂)
   exact (IC (b:=p.1) (P:=p.2) hi hP k rx ry hu).2
  | _=>exact no e
theorem Yl.kept {t:Sem Value}(k:Ok W g s)(P:Value->Prop)(hP:∀v,P v->Rep W g v d)(h:∀{Q:Value->Shared->Prop} {E:Value->Shared->Prop},(∀v h' tk,P v->(∀b o,s.heap.get? b=some o->h'.get? b=some o)->Q v {s with heap:=h',toks:=tk })->wpAny (model W.prog W.w) A t Q E s):Yl W A t g s d:=
 λ_ _ hQ=>ch (ae _) (aI (h (Q:=λv s'=>∃h' tk,s'={s with heap:=h',toks:=tk }/\P v/\∀b o,s.heap.get? b=some o->h'.get? b=some o) (E:=λ_ _=>False)
  λv h' tk hv hk=>⟨h',tk,rfl,hv,hk⟩) (λv s' zq0 hn=>bP zq0 λh' tk e hv hk=>by subst e;exact hQ v g _ (Ext.kept k hk hn) (hP v hv)) λ_ _ e=>e.elim)
theorem Rep.isList (k:Ok W g s)(r:Rep W g (.ref a) (.list ds)):∃vs,s.heap.IsList a vs/\RepAll W g vs.toList ds/\vs.size=ds.length:=by
 apply aV (r.inv_list);intro a' vs n e h1 h4
 (refine G7 e ?_;clear e;intro q₁;subst q₁)
 exact ⟨vs,⟨_,k.sub _ _ h1,rfl,n,rfl⟩,h4,by rw [<-h4.length,aE]⟩
theorem Rep.isTup (k:Ok W g s)(r:Rep W g (.ref a) (.tup ds)):∃vs,IsTup s.heap a vs/\RepAll W g vs.toList ds/\vs.size=ds.length:=by
 apply aV (r.inv_tup);intro a' vs n e h1 h4
 (refine G7 e ?_;clear e;intro q₁;subst q₁)
 exact ⟨vs,⟨_,k.sub _ _ h1,rfl,n,rfl⟩,h4,by rw [<-h4.length,aE]⟩
theorem kn (slice:Expr)(o i:Value):∃ops,subscripted slice false o i=operate ops (getItem o i):=by
 cases slice with
 | Slice lo hi st p=>cases st<;>exact ⟨_,rfl⟩
 | _=>exact ⟨_,rfl⟩
variable {value slice:Expr}{T id:String}
theorem lH {o i:Value}(hT:s.TypeIs o T)(hl:typeLookup (.type T) "__getitem__"=pure (some (.builtin id)))(hg:Yl W A (getItem o i) g s d):
  Yl W A (subscriptTail value slice o i) g s d:=λQ E hQ=>by
 obtain ⟨ops,e⟩:=kn slice o i
 exact tail_any hT hl (hg Q E hQ) e
noncomputable def Nf (x:Str)(i:D):R:=(nq i).map λk=>(.str (Txt.item x k),[0<=k,k < x.length,k < 2 ^ 63])
noncomputable def lO (o i:D):R:=match o with
 | .list ds=>(nq i).bind λk=>(ds[k.toNat]?).map λd=>(d,[0<=k,k < 2 ^ 63])
 | .tup ds=>(nq i).bind λk=>(ds[k.toNat]?).map λd=>(d,[0<=k,k < 2 ^ 63])
 | .idict ks ds=>(nq i).bind λk=>(ic ks ds k).map λd=>(d,[])
 | .sdict ks ds=>(jK i).bind λx=>(ic ks ds x).map λd=>(d,[])
 | .str x=>Nf x i
 | .kstr x=>Nf x i
 | _=>none
theorem qa {k:Int}(h0:0<=k)(h1:k.toNat < n):seqIndex? k n=some k.toNat:=by
 have h:¬k < 0:=Ab.mpr (Dx h0)
 have h2:k < n:=(qL Y0 I0 (qN (cK I0 (.c Y1)) [1,1]):qT [_,_] [_] [aR Y0 Y1] _) h1
 simp [seqIndex?,h,h0,h2]
theorem Ej {t:Tok}{i:D}{u:Value}(e:Nf x i=some (d,P))(hP:AllP P)(k:Ok W g s)(ri:Rep W g u i):
  Yl W A (subscriptTail value slice (.str x t) u) g s d:=by
 refine kg e λkk hk q=>?_
 (refine mQ q ?_;clear q;intro q₁ q₂;subst q₁ q₂)
 obtain ⟨_,rfl⟩:=eA hk ri
 have h0:=hP.1
 have h1:=hP.2.1
 have e:x.length=x.cps.size:=rfl
 have hlt:kk.toNat < x.cps.size:=(qK Y2 I0 (qN (aR Y2 Y1) [0,1,0,1,1]) (qN (aR Y2 Y1) [0,1,0,1,1,0,1]):qT [_,_,_] [_] [cK I0 (.c Y0),.e Y0 Y1,.L J0 I0] _) h1 e h0
 have hc:(Txt.charAt x kk).isSome=true:=by
  unfold Txt.charAt
  rw [qa h0 ((qN (aR Y2 Y0) [0,1,1]:dL [.e Y0 Y1,aR Y2 Y1]) e hlt)]
  simp [hlt]
 exact lH (lK _ _ _) F.slot_str_getitem.lookup λQ E hQ=>SB.getItem (by have:=hP.2.2.1;simp [fitsSsize];exact ⟨JE h0,JM this⟩) hc (hQ _ g _ (Ext.tk k (aY _)) (.str _ _))
theorem KK {o i:D}{u:Value}(e:lO o i=some (d,P))(hP:AllP P)(k:Ok W g s)(ro:Rep W g v o)(ri:Rep W g u i):
  Yl W A (subscriptTail value slice v u) g s d:=by
 cases o with
 | list ds=>
  refine cR e λkk hk e=>kg e λd' hd q=>?_
  (refine mQ q ?_;clear q;intro q₁ q₂;subst q₁ q₂)
  obtain ⟨_,rfl⟩:=eA hk ri
  apply aV (ro.inv);intro a _ _ hq0 _ _;subst hq0
  apply bT (ro.isList k);intro vs hl ra hs
  apply aA (ra.get hd);intro x hx rx
  exact lH hl.typeIs slot_list_getitem.lookup (Yl.val k rx λh=>wpAny_getItem_list hl hP.1 hP.2.1 (by simpa using hx) h)
 | tup ds=>
  refine cR e λkk hk e=>kg e λd' hd q=>?_
  (refine mQ q ?_;clear q;intro q₁ q₂;subst q₁ q₂)
  obtain ⟨_,rfl⟩:=eA hk ri
  apply aV (ro.inv);intro a _ _ hq0 _ _;subst hq0
  apply bT (ro.isTup k);intro vs hl ra hs
  apply aA (ra.get hd);intro x hx rx
  have hlt:kk.toNat < vs.size:=by rw [hs];exact (List.getElem?_eq_some_iff.mp hd).1
  exact lH hl.typeIs slot_tuple_getitem.lookup (Yl.val k rx λh=>getItem_tuple hl (by have:=hP.1;exact JE this) hP.2.1 (qa hP.1 hlt) (by simpa using hx) h)
 | idict ks ds=>
  refine cR e λkk hk e=>kg e λd' hd q=>?_
  (refine mQ q ?_;clear q;intro q₁ q₂;subst q₁ q₂)
  obtain ⟨_,rfl⟩:=eA hk ri
  apply gT (ro.inv_idict);intro a o' vs hq0 h1 h2 h3 h4 h5;subst hq0
  apply aA ((lg (ks:=ks) (x:=kk) h5).1 _ hd);intro x hx rx
  have hm:=(Heap.dictOf_iff.mpr ⟨_,k.sub _ _ h1,h3⟩).mapOf
  exact lH hm.typeIs slot_dict_getitem.lookup λQ E hQ=>yw (intKind_is _ _ _ _) hm (by rw [fj];exact hx) (hQ _ g _ (Ext.tk k (aY _)) rx)
 | sdict ks ds=>
  refine cR e λx hxs e=>kg e λd' hd q=>?_
  (refine mQ q ?_;clear q;intro q₁ q₂;subst q₁ q₂)
  obtain ⟨t,rfl⟩:=eI ri hxs
  apply gT (ro.inv_sdict);intro a o' vs hq0 h1 h2 h3 h4 h5;subst hq0
  apply aA ((lg (ks:=ks) (x:=x) h5).1 _ hd);intro y hy ry
  have hm:=(Heap.dictOf_iff.mpr ⟨_,k.sub _ _ h1,h3⟩).mapOf
  exact lH hm.typeIs slot_dict_getitem.lookup λQ E hQ=>yw (ur _ _ _ _) hm (by rw [fj];exact hy) (hQ _ g _ (Ext.tk k (aY _)) ry)
 | str x=>obtain ⟨_,rfl⟩:=ro.inv;exact Ej e hP k ri
 | kstr x=>apply aA (ro.inv);intro _ hq0 _;subst hq0;exact Ej e hP k ri
 | _=>exact no e
noncomputable def d9 (ds:List D)(lo hi st:Option Int):List D:=
 (sliceRange (sliceBounds lo hi st ds.length).1 (sliceBounds lo hi st ds.length).2.1 (sliceBounds lo hi st ds.length).2.2).filterMap (ds[·]?)
theorem uD {vs:List Value}{ds:List D}(r:RepAll W g vs ds):∀idx:List Nat,RepAll W g (idx.filterMap (vs[·]?)) (idx.filterMap (ds[·]?))
 | []=>.nil
 | i :: idx=>by
  have ih:=uD r idx
  cases h:ds[i]? with
  | none=>
   have h2:vs[i]? =none:=by
    rw [List.getElem?_eq_none_iff] at h ⊢
    rw [r.length];exact h
   simpa [pP,h,h2] using ih
  | some d=>
   apply aA (r.get h);intro v hv rv
   simpa [pP,h,hv] using RepAll.cons rv ih
inductive PartD:D->Option Int->Prop
 | none:PartD .none none
 | int (i:_):PartD (.int i) (some i)
theorem HN {p:Option Int}(r:Rep W g v d)(h:PartD d p):IsPart v p:=by
 cases h with
 | none=>obtain rfl:=r.inv;constructor
 | int i=>obtain ⟨_,rfl⟩:=r.inv;constructor
theorem Hj {sl:Addr}{vl vu vst:Value}{lo hi st:Option Int}(k:Ok W g s)(ra:Rep W g (.ref a) (.list ds))(hs:s.heap.IsSliceOf sl vl vu vst)(pl:IsPart vl lo)(pu:IsPart vu hi)(ps:IsPart vst st)(h0:st≠some 0)(hz:ds.length<=sizeLine):Yl W A (subscriptTail value slice (.ref a) (.ref sl)) g s (.list (d9 ds lo hi st)):=by
 apply bT (ra.isList k);intro vs hl ra' hsz
 refine lH hl.typeIs slot_list_getitem.lookup λQ E hQ=>Fp hl hs pl pu ps h0 ?_ (by rw [hsz];exact hz)
 refine hQ _ _ _ (Ext.push k _ rfl) (.list (cW _ _ _) ?_)
 have q:=(uD ra' (sliceRange (sliceBounds lo hi st ds.length).1 (sliceBounds lo hi st ds.length).2.1 (sliceBounds lo hi st ds.length).2.2)).mono (Ext.push k (o:={cls:=.type "list",data:=.seq (slicePick vs lo hi st) }) rfl).le
 have e:(slicePick vs lo hi st).toList=(sliceRange (sliceBounds lo hi st ds.length).1 (sliceBounds lo hi st ds.length).2.1 (sliceBounds lo hi st ds.length).2.2).filterMap (vs.toList[·]?):=by
  unfold slicePick
  rw [hsz]
  simp
 rw [e]
 exact q
noncomputable def o0:D->Option (Bool×List Prop)
 | .none=>some (false,[])
 | .bool b=>some (b,[])
 | .int i=>some (i !=0,[])
 | .list ds=>some (decide (0 < ds.length),[(ds.length:Int) < 2 ^ 63])
 | _=>none
noncomputable def Qb (W:Wd)(A:Around)(t:Sem Bool)(g:View)(s:Shared)(b:Bool):Prop:=
 ∀(Q:Bool->Shared->Prop) (E:Value->Shared->Prop),(∀g' s',Ext W g s g' s'->Q b s')->wpAny (model W.prog W.w) A t Q E s
theorem Fu {b:Bool}(e:o0 d=some (b,P))(hP:AllP P)(k:Ok W g s)(r:Rep W g v d):Qb W A (truthy v) g s b:=by
 cases d with
 | none=>
  (refine rO e ?_;clear e;intro q₁ q₂;subst q₁ q₂);obtain rfl:=r.inv
  exact λQ E hQ=>aj (hQ g s (Ext.refl k))
 | bool b0=>
  (refine rO e ?_;clear e;intro q₁ q₂;subst q₁ q₂);obtain rfl:=r.inv
  exact λQ E hQ=>fi (hQ g s (Ext.refl k))
 | int i=>
  (refine rO e ?_;clear e;intro q₁ q₂;subst q₁ q₂);obtain ⟨_,rfl⟩:=r.inv
  exact λQ E hQ=>truthy_int (hQ g s (Ext.refl k))
 | list ds=>
  (refine rO e ?_;clear e;intro q₁ q₂;subst q₁ q₂)
  apply aV (r.inv_list);intro a vs' n' hq0 h1 h4;subst hq0
  apply bT (r.isList k);intro vs hl ra hs
  refine λQ E hQ=>wpAny_truthy_list hl (by rw [hs];exact hP.1) ?_
  have e:(!vs.isEmpty)=decide (0 < ds.length):=by
   rw [<-hs]
   cases h:vs.size<;>simp [pR,h]
  rw [e]
  exact hQ g _ (Ext.tk k (vP))
 | _=>exact (aK e).elim
noncomputable def fZ:List D->Option (List Int)
 | []=>some []
 | .int i :: r=>(fZ r).map (i :: ·)
 | _=>none
variable {ns:List Int}
theorem qb (r:RepAll W g vs ds)(e:fZ ds=some ns):IntsAre vs ns:=
 r.ind (P:=λvs ds=>∀ns,fZ ds=some ns->IntsAre vs ns) (λ_ e=>aL e▸.nil) (λ_ _ d _ a _ ih ns e=>by
  cases d with
  | int i=>
   obtain ⟨_,rfl⟩:=a.inv
   exact kg e λms h q=>q▸.cons _ _ (ih ms h)
  | _=>exact no e) ns e
theorem M3 (k:Ok W g s)(hh:A.handled=none)(r:Rep W g (.ref a) (.list ds))(e:fZ ds=some ns):Yl W A (call (.builtin "sum") [.ref a]) g s (.int ns.sum):=by
 apply bT (r.isList k);intro vs hl ra hs
 have hi:=qb ra e
 obtain ⟨xs,ex⟩:=hi.allInts.items
 have ex':vs=intItems xs:=by simpa using ex
 have hns:ns=xs.toList.map (·.1):=by rw [<-hi.numsOf,<-FS,<-ex']
 refine Yl.kept k (λv=>∃t,v=.int ns.sum t) (λv zq0=>Kw zq0 λt e=>e▸.int _ _) λh=>sum_intListG hh (ex'▸hl) λh' tk t' hk=>h _ h' tk ⟨t',?_⟩ hk
 rw [preSum_eq,aO (by simp),hns]
noncomputable def uR:List Int->Int
 | []=>0
 | [a]=>a
 | a :: r=>max a (uR r)
noncomputable def yW:List Int->Int
 | []=>0
 | [a]=>a
 | a :: r=>min a (yW r)
theorem EB:∀{ns:List Int} {M:Int},M∈ns->(∀a∈ns,a<=M)->uR ns=M
 | [a],M,h,_=>by simp at h;rw [h];rfl
 | a :: b :: r,M,h,k=>by
  show max a (uR (b :: r))=M
  have ha:=k a (.head _)
  rcases List.mem_cons.mp h with rfl | h
  .have:∀(l:List Int),l≠[]->(∀x∈l,x<=M)->uR l<=M:=λl=>by
    induction l with
    | nil=>intro h;exact absurd rfl h
    | cons x l ih=>
     intro _ q
     cases l with
     | nil=>exact q x (.head _)
     | cons y l=>show max x (uR (y :: l))<=M;exact Int.max_le.mpr ⟨q x (.head _),ih (by simp) λz hz=>q z (.tail _ hz)⟩
   have:=this (b :: r) (by simp) λx hx=>k x (.tail _ hx)
   lia
  .rw [EB h λx hx=>k x (.tail _ hx)];lia
theorem yV:∀{ns:List Int} {M:Int},M∈ns->(∀a∈ns,M<=a)->yW ns=M
 | [a],M,h,_=>by simp at h;rw [h];rfl
 | a :: b :: r,M,h,k=>by
  show min a (yW (b :: r))=M
  have ha:=k a (.head _)
  rcases List.mem_cons.mp h with rfl | h
  .have:∀(l:List Int),l≠[]->(∀x∈l,M<=x)->M<=yW l:=λl=>by
    induction l with
    | nil=>intro h;exact absurd rfl h
    | cons x l ih=>
     intro _ q
     cases l with
     | nil=>exact q x (.head _)
     | cons y l=>show M<=min x (yW (y :: l));exact Int.le_min.mpr ⟨q x (.head _),ih (by simp) λz hz=>q z (.tail _ hz)⟩
   have:=this (b :: r) (by simp) λx hx=>k x (.tail _ hx)
   lia
  .rw [yV h λx hx=>k x (.tail _ hx)];lia
theorem M5 (k:Ok W g s)(hh:A.handled=none)(r:Rep W g (.ref a) (.list ds))(e:fZ ds=some ns)(hne:0 < ns.length):Yl W A (call (.builtin "max") [.ref a]) g s (.int (uR ns)):=by
 apply bT (r.isList k);intro vs hl ra hs
 have hi:=qb ra e
 obtain ⟨xs,ex⟩:=hi.allInts.items
 have ex':vs=intItems xs:=by simpa using ex
 have hns:ns=xs.toList.map (·.1):=by rw [<-hi.numsOf,<-FS,<-ex']
 have hsz:0 < xs.size:=by have h3:=hne;rw [hns,ab,aE] at h3;exact h3
 refine Yl.kept k (λv=>∃t,v=.int (uR ns) t) (λv zq0=>Kw zq0 λt e=>e▸.int _ _) λh=>max_intList hh (ex'▸hl) hsz λv h' tk hv hk=>h _ h' tk ?_ hk
 obtain ⟨t,rfl⟩:=intItems_at hv
 have hx0:=argBest_gt (numAt xs) (xs.size - 1);have h1:=hx0.1;have h2:=hx0.2
 refine ⟨t,?_⟩
 rw [EB (M:=numAt xs (argBest (λi j=>decide (numAt xs i > numAt xs j)) (xs.size - 1)))]
 .rw [hns,numAt_eq];exact getD_mem (by rw [ab,aE];exact MS hx0.1 hsz)
 .intro b hb
  rw [hns] at hb
  apply aA (mem_getD hb);intro j hj hq0;subst hq0
  rw [ab,aE] at hj
  rw [<-numAt_eq];exact h2 j (Ml hj)
theorem M4 (k:Ok W g s)(hh:A.handled=none)(r:Rep W g (.ref a) (.list ds))(e:fZ ds=some ns)(hne:0 < ns.length):Yl W A (call (.builtin "min") [.ref a]) g s (.int (yW ns)):=by
 apply bT (r.isList k);intro vs hl ra hs
 have hi:=qb ra e
 obtain ⟨xs,ex⟩:=hi.allInts.items
 have ex':vs=intItems xs:=by simpa using ex
 have hns:ns=xs.toList.map (·.1):=by rw [<-hi.numsOf,<-FS,<-ex']
 have hsz:0 < xs.size:=by have h3:=hne;rw [hns,ab,aE] at h3;exact h3
 refine Yl.kept k (λv=>∃t,v=.int (yW ns) t) (λv zq0=>Kw zq0 λt e=>e▸.int _ _) λh=>min_intList hh (ex'▸hl) hsz λv h' tk hv hk=>h _ h' tk ?_ hk
 obtain ⟨t,rfl⟩:=intItems_at hv
 have hx0:=argBest_lt (numAt xs) (xs.size - 1);have h1:=hx0.1;have h2:=hx0.2
 refine ⟨t,?_⟩
 rw [yV (M:=numAt xs (argBest (λi j=>decide (numAt xs i < numAt xs j)) (xs.size - 1)))]
 .rw [hns,numAt_eq];exact getD_mem (by rw [ab,aE];exact MS hx0.1 hsz)
 .intro b hb
  rw [hns] at hb
  apply aA (mem_getD hb);intro j hj hq0;subst hq0
  rw [ab,aE] at hj
  rw [<-numAt_eq];exact h2 j (Ml hj)
theorem Fn {a:Int}{t:Tok}(k:Ok W g s)(hb:b≠0)(hp:fE a b=false):Yl W A (call (.builtin "divmod") [.int a t,.int b u]) g s (.tup [.int (a.fdiv b),.int (a.fmod b)]):=λQ E hQ=>by
 refine divmod_int hb ?_ (.inl hp)
 have k2:=Ext.tk k (n:=s.toks + 1 + 1) (vP)
 exact hQ _ _ _ (k2.trans (Ext.push k2.ok _ rfl)) (uk (vs:=[.int (a.fdiv b) s.toks,.int (a.fmod b) (s.toks + 1)]) k2.ok (.cons (.int _ _) (.cons (.int _ _) .nil)) 0)
theorem M6 (k:Ok W g s)(r:Rep W g v d)(hd:(∃ds,d=.list ds/\ds.length=n)\/(∃ds,d=.tup ds/\ds.length=n)\/(∃x,jK d=some x/\x.length=n)\/(∃ks ds,d=.sdict ks ds/\ds.length=n))(hn:(n:Int) < 2 ^ 63):
  Yl W A (call (.builtin "len") [v]) g s (.int n):=λQ E hQ=>by
 rcases hd with ⟨ds,rfl,h⟩ | ⟨ds,rfl,h⟩ | ⟨x,hx,h⟩ | ⟨ks,ds,rfl,h⟩
 .apply aV (r.inv_list);intro a vs' n' hq0 h1 h4;subst hq0
  apply bT (r.isList k);intro vs hl ra hs
  have e:vs.size=n:=hs.trans h
  exact len_list hl (by rw [e];exact hn) (by rw [e];exact hQ _ g _ (Ext.tk k (vP)) (.int _ _))
 .apply aV (r.inv_tup);intro a vs' n' hq0 h1 h4;subst hq0
  apply bT (r.isTup k);intro vs hl ra hs
  have e:vs.size=n:=hs.trans h
  exact len_tuple hl (by rw [e];exact hn) (by rw [e];exact hQ _ g _ (Ext.tk k (vP)) (.int _ _))
 .obtain ⟨t,rfl⟩:=eI r hx
  subst h
  exact SBL.len ((qN (cK (.c Y0) pQ) [1]:di [cK (.c Y0) pQ]) hn) (hQ _ g _ (Ext.tk k (vP)) (.int _ _))
 .apply gT (r.inv_sdict);intro a o' vs hq0 h1 h2 h3 h4 h5;subst hq0
  have hm:=Heap.dictOf_iff.mpr ⟨_,k.sub _ _ h1,h3⟩
  have e:(ks.zip vs).length=n:=by rw [wv,h4,Nat.min_self,h5.length,h]
  exact call_len_dict h2 hm (by rw [e];exact hn) (by rw [e];exact hQ _ g _ (Ext.tk k (vP)) (.int _ _))
variable {y:Str}{w:World}{prog:Program}
open Builtin Builtin.Str in
theorem CA {t:Tok}(hy:(y.length==0)=false)(hq:∀(l:List (Str×Tok)) n,l.map (·.1)=kE x y->Q (.ref s.heap.objs.size) {s with heap:=s.heap.push (mW (strValues l).toArray 0),toks:=n })(hsz:x.length<=sizeLine)(hsz2:(partsBetween x (occurrences x y 0 x.length (x.length + 1)) y.length).length<=sizeLine):
  wpAny (model prog w) A (call (.builtin "str.split") [.str x t,.str y u]) Q E s:=by
 cases h1:(decide (x.length < y.length)||decide (yp x < yp y))
 .cases hf:(occurrences x y 0 x.length (x.length + 1)).isEmpty
  .refine gU jB (lK _ _ _) wq (tQ _ _) (meets_str_split_sep x y t u h1 hy hf hsz hsz2) ?_
   show wants Q E _ {s with toks:=_,heap:=s.heap.push {cls:=.type "list",data:=.seq (strsFrom s.toks (partsBetween x (occurrences x y 0 x.length (x.length + 1)) y.length)).toArray } }
   rw [strsFrom_eq]
   exact hq (numbered s.toks _) _ ((numbered_texts _ _).trans ((if_neg (ne_true_of_eq_false h1)).trans (if_neg (ne_true_of_eq_false hf))).symm)
  .exact gU jB (lK _ _ _) wq (tQ _ _) (meets_str_split_not_found x y t u h1 hy hf)
    (hq [(x,t)] s.toks ((if_neg (ne_true_of_eq_false h1)).trans (if_pos hf)).symm)
 .exact gU jB (lK _ _ _) wq (tQ _ _) (meets_str_split_cannot_occur x y t u h1)
   (hq [(x,t)] s.toks (if_pos h1).symm)
theorem wF (l:List (Str×Tok)):RepAll W g (strValues l) (l.map λp=>.str p.1):=by
 induction l with
 | nil=>exact .nil
 | cons p l ih=>exact .cons (.str _ _) ih
theorem RepAll.inv1 (r:RepAll W g vs [d]):∃v,vs=[v]/\Rep W g v d:=by
 cases r with | cons a b=>cases b;exact ⟨_,rfl,a⟩
theorem RepAll.inv2 {e:D}(r:RepAll W g vs [d,e]):∃v u,vs=[v,u]/\Rep W g v d/\Rep W g u e:=by
 cases r with | cons a b=>apply aA (b.inv1);intro u hq0 c;subst hq0;exact ⟨_,_,rfl,a,c⟩
variable {f:D}
theorem RepAll.inv3 {e:D}(r:RepAll W g vs [d,e,f]):∃v u x,vs=[v,u,x]/\Rep W g v d/\Rep W g u e/\Rep W g x f:=by
 cases r with | cons a b=>apply bP (b.inv2);intro u x hq0 c d;subst hq0;exact ⟨_,_,_,rfl,a,c,d⟩
theorem RepAll.elim1 (r:RepAll W g vs [d]){P:List Value->Prop}(k:∀v,Rep W g v d->P [v]):P vs:=by
 apply aA (r.inv1);intro v hq0 a;subst hq0
 exact k v a
theorem RepAll.elim2 {e:D}(r:RepAll W g vs [d,e]){P:List Value->Prop}(k:∀v u,Rep W g v d->Rep W g u e->P [v,u]):P vs:=by
 apply bP (r.inv2);intro v u hq0 a b;subst hq0
 exact k v u a b
theorem RepAll.elim3 {e:D}(r:RepAll W g vs [d,e,f]){P:List Value->Prop}(k:∀v u x,Rep W g v d->Rep W g u e->Rep W g x f->P [v,u,x]):P vs:=by
 apply ij (r.inv3);intro v u x hq0 a b c;subst hq0
 exact k v u x a b c
theorem jQ {kvs:List (Str×Value)}(h:kvs.map (·.1)=([]:List (Str×D)).map (·.1)){P:List (Str×Value)->Prop}(k:P []):P kvs:=by
 cases kvs with
 | nil=>exact k
 | cons a l=>cases h
theorem RepAll.inv0 (r:RepAll W g vs []):vs=[]:=by cases r;rfl
noncomputable def o8:List D->Option (List Str)
 | []=>some []
 | d :: r=>(jK d).bind λx=>(o8 r).map λxs=>x :: xs
theorem HM {xs:List Str}(r:RepAll W g vs ds)(e:o8 ds=some xs):∃l:List (Str×Tok),vs=strValues l/\l.map (·.1)=xs:=
 r.ind (P:=λvs ds=>∀xs,o8 ds=some xs->∃l:List (Str×Tok),vs=strValues l/\l.map (·.1)=xs) (λ_ e=>⟨[],rfl,aL e⟩) (λ_ _ d _ a _ ih xs e=>cR e λx h e=>kg e λys h2 q=>by
  obtain ⟨t,rfl⟩:=eI a h
  apply aA (ih ys h2);intro l hq0 hq1;subst hq0;subst hq1
  exact ⟨(x,t) :: l,rfl,q⟩) xs e
noncomputable def KL (name:Str):Option (String×String):=if name="replace" then some ("str","str.replace") else if name="split" then some ("str","str.split") else if name="join" then some ("str","str.join") else none
noncomputable def xB (name:Str)(o:D):Option (String×String):=
 match o with
 | .int _=>if name="bit_length" then some ("int","int.bit_length") else none
 | .list _=>if name="count" then some ("list","list.count") else none
 | .sdict _ _=>if name="get" then some ("dict","dict.get") else none
 | .str _ | .kstr _=>KL name
 | _=>none
noncomputable def dK:D->Option Str
 | .kstr x=>some x
 | _=>none
theorem IW (e:dK d=some x)(r:Rep W g v d):∃t,v=.str x t/\g.tok t=some x:=by
 cases d with
 | kstr y=>(refine eQ e ?_;clear e;intro q₁;subst q₁);exact r.inv
 | _=>exact nomatch e
noncomputable def one:List D->Option D
 | [d]=>some d
 | _=>none
noncomputable def Pn:List D->Option (D×D)
 | [d,e]=>some (d,e)
 | _=>none
theorem tX (e:one ds=some d)(r:RepAll W g vs ds){P:List Value->Prop}(h:∀v,Rep W g v d->P [v]):P vs:=by
 obtain _ | ⟨a,_ | ⟨b,l⟩⟩:=ds
 .exact (aK e).elim
 ·(refine eQ e ?_;clear e;intro q₁;subst q₁);exact r.elim1 (P:=P) h
 .exact (aK e).elim
theorem yA {q:D×D}(e:Pn ds=some q)(r:RepAll W g vs ds){P:List Value->Prop}(h:∀v u,Rep W g v q.1->Rep W g u q.2->P [v,u]):P vs:=by
 obtain _ | ⟨a,_ | ⟨b,_ | ⟨c,l⟩⟩⟩:=ds
 .exact (aK e).elim
 .exact (aK e).elim
 ·(refine rO e ?_;clear e;intro q₁ q₂;subst q₁ q₂);exact r.elim2 (P:=P) h
 .exact (aK e).elim
noncomputable def Ng (name:Str)(x:Str)(ds:List D):R:=
 if name="replace" then (Pn ds).bind λq=>(dK q.1).bind λy=>(dK q.2).bind λz=>some (.str (lC x y z),[(y==z)=false,x.length + (x.length + 1) * z.length<=16777216])
 else if name="split" then (one ds).bind λd=>(jK d).map λy=>(.list ((kE x y).map .str),[(y.length==0)=false,x.length<=sizeLine,(Builtin.Str.partsBetween x (Builtin.Str.occurrences x y 0 x.length (x.length + 1)) y.length).length<=sizeLine])
 else if name="join" then (one ds).bind λd=>(mw d).bind λxs=>(o8 xs).map λys=>(.str (Txt.join x ys),[JoinOk x ys=true])
 else none
noncomputable def uP (name:Str)(o:D)(ds:List D):R:=match o with
 | .int a=>if ds.isEmpty then some (.int (d8 a),[]) else none
 | .list xs=>(one ds).bind λd=>(nq d).bind λk=>(fZ xs).map λns=>(.int (ns.count k:Nat),[])
 | .sdict ks vs=>(Pn ds).bind λq=>(jK q.1).map λx=>((ic ks vs x).getD q.2,[])
 | .str x=>Ng name x ds
 | .kstr x=>Ng name x ds
 | _=>none
variable {name:Str}
theorem ut {t:Tok}(e:KL name=some (T,id)):
  PlainAttrs T/\Slot T name id/\typeOf (.builtin id)=pure (.type "method_descriptor")/\s.TypeIs (.str x t) T/\∀a,Value.str x t=.ref a->∃ob,s.heap.get? a=some ob/\ob.dict=none:=
 uL e (λh q=>by (refine rO q ?_;clear q;intro q₁ q₂;subst q₁ q₂);subst h;exact ⟨gW,F.slot_str_replace,F.type_str_replace,lK _ _ _,λ_ x=>nomatch x⟩) λ_ e=>
 uL e (λh q=>by (refine rO q ?_;clear q;intro q₁ q₂;subst q₁ q₂);subst h;exact ⟨gW,jB,F.type_str_split,lK _ _ _,λ_ x=>nomatch x⟩) λ_ e=>
 Cd e λh q=>by (refine mQ q ?_;clear q;intro q₁ q₂;subst q₁ q₂);subst h;exact ⟨gW,F.slot_str_join,F.type_str_join,lK _ _ _,λ_ x=>nomatch x⟩
theorem AV {o:D}(e:xB name o=some (T,id))(k:Ok W g s)(r:Rep W g v o):
  PlainAttrs T/\Slot T name id/\typeOf (.builtin id)=pure (.type "method_descriptor")/\s.TypeIs v T/\∀a,v=.ref a->∃ob,s.heap.get? a=some ob/\ob.dict=none:=by
 cases o with
 | int i=>
  refine Cd e λh q=>?_
  obtain ⟨_,rfl⟩:=r.inv
  (refine mQ q ?_;clear q;intro q₁ q₂;subst q₁ q₂);subst h;exact ⟨F.plainAttrs_int,He,Hd,typeIs_int _ _ _,λ_ x=>nomatch x⟩
 | str x=>obtain ⟨_,rfl⟩:=r.inv;exact ut e
 | kstr x=>apply aA (r.inv);intro _ hq0 _;subst hq0;exact ut e
 | list ds=>
  refine Cd e λh q=>?_
  apply aV (r.inv);intro a _ _ hq0 hg _;subst hq0
  (refine mQ q ?_;clear q;intro q₁ q₂;subst q₁ q₂);subst h;exact ⟨F.plainAttrs_list,F.slot_list_count,F.type_list_count,⟨_,k.sub _ _ hg,rfl⟩,λa x=>by (refine G7 x ?_;clear x;intro q₁;subst q₁);exact ⟨_,k.sub _ _ hg,rfl⟩⟩
 | sdict ks ds=>
  refine Cd e λh q=>?_
  apply gT (r.inv);intro a _ _ hq0 hg _ hd _ _;subst hq0
  (refine mQ q ?_;clear q;intro q₁ q₂;subst q₁ q₂);subst h
  have hm:=Heap.dictOf_iff.mpr ⟨_,k.sub _ _ hg,hd⟩
  exact ⟨F.plainAttrs_dict,Ac,F.type_dict_get,hm.typeIs,hm.mapOf.noDict⟩
 | _=>exact no e
theorem Ek {t:Tok}(e:Ng name x ds=some (d,P))(hP:AllP P)(hi:KL name=some (T,id))(k:Ok W g s)(r:RepAll W g vs ds):
  Yl W A (call (.builtin id) (.str x t :: vs)) g s d:=by
 refine uL e (λn1 e=>?_) λn1 e=>uL e (λn2 e=>?_) λn2 e=>uL e (λn3 e=>?_) λ_ e=>no e
 .have hi:some ("str","str.replace")=some (T,id):=(if_pos n1).symm.trans hi
  (refine rO hi ?_;clear hi;intro q₁ q₂;subst q₁ q₂)
  refine cR e λq hq e=>cR e λy hy e=>cR e λz hz e=>?_
  (refine rO e ?_;clear e;intro q₁ q₂;subst q₁ q₂)
  apply yA hq r;intro v u r1 r2
  apply aA (IW hy r1);intro t1 hq0 h1;subst hq0
  apply aA (IW hz r2);intro t2 hq0 h2;subst hq0
  refine Yl.strAny k λh=>SC.replace (dN (k.tok _ _ h1).1) (dN (k.tok _ _ h2).1) (λhq=>?_) hP.1 hP.2.1 h
  subst hq
  rw [h1] at h2
  (refine eQ h2 ?_;clear h2;intro q₁;subst q₁)
  have:=hP.1
  simp at this
 .have hi:some ("str","str.split")=some (T,id):=((if_neg n1).trans (if_pos n2)).symm.trans hi
  (refine rO hi ?_;clear hi;intro q₁ q₂;subst q₁ q₂)
  refine cR e λd0 hd e=>kg e λy hy q=>?_
  (refine mQ q ?_;clear q;intro q₁ q₂;subst q₁ q₂)
  apply tX hd r;intro v r1
  obtain ⟨u,rfl⟩:=eI r1 hy
  intro Q E hQ
  refine ch (ae _) (CA hP.1 (λl n hl hn=>?_) hP.2.1 hP.2.2.1)
  have k2:Ext W g s g {s with toks:=n }:=Ext.tk k hn
  have e:(l.map λp=>D.str p.1)=(kE x y).map .str:=by rw [<-hl,cO];rfl
  rw [<-e] at hQ
  exact hQ _ _ _ (k2.trans (Ext.push k2.ok _ rfl)) (rX k2.ok (wF l) 0)
 .have hi:some ("str","str.join")=some (T,id):=((if_neg n1).trans ((if_neg n2).trans (if_pos n3))).symm.trans hi
  (refine rO hi ?_;clear hi;intro q₁ q₂;subst q₁ q₂)
  refine cR e λd0 hd e=>cR e λxs hx e=>kg e λys hy q=>?_
  (refine mQ q ?_;clear q;intro q₁ q₂;subst q₁ q₂)
  apply tX hd r;intro v r1
  rw [qS hx] at r1
  apply aV (r1.inv);intro a vs' n' hq0 h1 h4;subst hq0
  apply aA (HM h4 hy);intro l hl hl2
  have hl3:vs'=(strValues l).toArray:=by rw [<-hl]
  subst hl3
  exact Yl.strAny k λh=>SC.join ⟨_,k.sub _ _ h1,rfl,_,rfl⟩ hl2 hP.1 h
theorem Id {o:D}(e:uP name o ds=some (d,P))(hP:AllP P)(hi:xB name o=some (T,id))(k:Ok W g s)(ro:Rep W g v o)(r:RepAll W g vs ds):Yl W A (call (.builtin id) (v :: vs)) g s d:=by
 cases o with
 | int a=>
  refine Cd e λhd q=>Cd hi λ_ q'=>?_
  (refine mQ q ?_;clear q;intro q₁ q₂;subst q₁ q₂);(refine mQ q' ?_;clear q';intro q₁ q₂;subst q₁ q₂)
  rw [my.mp hd] at r
  obtain rfl:=r.inv0
  obtain ⟨_,rfl⟩:=ro.inv
  exact Yl.int k λh=>call_int_bit_length h
 | str x=>obtain ⟨_,rfl⟩:=ro.inv;exact Ek e hP hi k r
 | kstr x=>apply aA (ro.inv);intro _ hq0 _;subst hq0;exact Ek e hP hi k r
 | list xs=>
  refine cR e λd0 hd e=>cR e λi hk e=>kg e λns hn q=>Cd hi λ_ q'=>?_
  (refine mQ q ?_;clear q;intro q₁ q₂;subst q₁ q₂);(refine mQ q' ?_;clear q';intro q₁ q₂;subst q₁ q₂)
  apply tX hd r;intro u r1
  obtain ⟨_,rfl⟩:=eA hk r1
  apply aV (ro.inv);intro a vs' n' hq0 h1 h4;subst hq0
  exact Yl.int k λh=>count_list_ints ⟨_,k.sub _ _ h1,rfl,_,by simp;rfl⟩ (qb h4 hn) h
 | sdict ks vs'=>
  refine cR e λq2 hq e=>kg e λx hx q=>Cd hi λ_ q'=>?_
  (refine mQ q ?_;clear q;intro q₁ q₂;subst q₁ q₂);(refine mQ q' ?_;clear q';intro q₁ q₂;subst q₁ q₂)
  apply yA hq r;intro u w r1 r2
  obtain ⟨t,rfl⟩:=eI r1 hx
  apply gT (ro.inv_sdict);intro a o' us hq0 h1 h2 h3 h4 h5;subst hq0
  have hm:=(Heap.dictOf_iff.mpr ⟨_,k.sub _ _ h1,h3⟩).mapOf
  intro Q E hQ
  refine call_meetsIn Ac hm.typeIs F.entry_dict_get (F.args_dict_get_3 _ _ _) (meets_dict_get_default (strKind W.prog W.w) _ (ur _ _ _ _) h2 _) ⟨_,hm,?_⟩
  refine hQ _ g _ (Ext.tk k (aY _)) ?_
  rw [fj]
  have q:=lg (x:=x) (ks:=ks) h5
  cases hk:ic ks vs' x with
  | none=>rw [q.2 hk];exact r2
  | some d=>apply aA (q.1 d hk);intro y ey ry;rw [ey];exact ry
 | _=>exact no e
inductive Rho
 | nil
 | bind (x:Str)(d:D)(r:Rho)
 | under (sc:Scope)(r:Rho)
 | froz (r:Rho)
noncomputable def look:Rho->Str->Option D
 | .nil,_=>none
 | .bind y d r,x=>if y=x then some d else look r x
 | .under sc r,x=>if sc.names.lookup x==some .free then look r x else none
 | .froz r,x=>look r x
noncomputable def cm:Rho->Bool
 | .nil=>false
 | .bind _ _ r=>cm r
 | .under _ r=>cm r
 | .froz _=>true
structure LeR (ρ ρ':Rho):Prop where
 look:∀y d,look ρ y=some d->look ρ' y=some d
 fro:cm ρ=false->cm ρ'=false
structure Fra (W:Wd)(g:View)(s:Shared)(env:Env)(ρ:Rho):Prop where
 kind:env.scope.kind=.function
 glo:env.globals=mainGlobals
 bui:env.builtins=builtinsNs
 ncd:env.kindOf "__classdict__"≠some .free
 hid:g.obj env.locals=none
 loc:∃m,s.heap.Ns env.locals m/\∀x d,look ρ x=some d->env.kindOf x=some .local->∃v,m x=some v/\Rep W g v d
 inj:∀x y c,env.cells.lookup x=some c->env.cells.lookup y=some c->x=y
 liv:∀x c,env.cells.lookup x=some c->(∃v,s.heap.IsCell c v)/\(cm ρ=false->g.obj c=none)
 cel:∀x,(env.kindOf x=some .cell\/env.kindOf x=some .free)->∃c cv,env.cells.lookup x=some c/\s.heap.IsCell c cv/\∀d,look ρ x=some d->∃v,cv=some v/\Rep W g v d
theorem cS {es ep}(h:o.data=.dict es ep):bD o=false:=by
 obtain ⟨c,d,dt,sl⟩:=o;simp only at h;subst h;cases c<;>rfl
theorem du {v}(h:o.data=.cell v):bD o=false:=by
 obtain ⟨c,d,dt,sl⟩:=o;simp only at h;subst h;cases c<;>rfl
theorem KZ {m:Str->Option Value}(hn:h.Ns a m)(hk:∀a o,h.get? a=some o->bD o=false->h'.get? a=some o):h'.Ns a m:=
 aV hn λo es ep e hd r=>⟨o,es,ep,hk a o e (cS hd),hd,r⟩
theorem sA {v:Option Value}(hn:h.IsCell c v)(hk:∀a o,h.get? a=some o->bD o=false->h'.get? a=some o):h'.IsCell c v:=
 aA hn λo e hd=>⟨o,hk c o e (du hd),hd⟩
variable {ρ:Rho}
theorem Fra.ext (F:Fra W g s env ρ)(x:Ext W g s g' s'):Fra W g' s' env ρ where
 kind:=F.kind
 glo:=F.glo
 bui:=F.bui
 ncd:=F.ncd
 hid:=by
  apply aA (F.loc);intro m hn0 _;obtain ⟨o,es,ep,e,hd,r⟩:=hn0
  exact x.new _ o e (cS hd) F.hid
 loc:=by
  apply aA (F.loc);intro m hn hl
  exact ⟨m,KZ hn x.keep,λy d e k=>aA (hl y d e k) λv a b=>⟨v,a,b.mono x.le⟩⟩
 inj:=F.inj
 liv:=λy c e=>by
  have hx0:=F.liv y c e;have hn0:=hx0.1;have h3:=hx0.2;obtain ⟨v,o,h1,h2⟩:=hn0
  exact ⟨⟨v,o,x.keep _ o h1 (du h2),h2⟩,λhz=>x.new _ o h1 (du h2) (h3 hz)⟩
 cel:=λy hy=>by
  apply bP (F.cel y hy);intro c cv h1 h2 h3
  exact ⟨c,cv,h1,sA h2 x.keep,λd e=>aA (h3 d e) λv a b=>⟨v,a,b.mono x.le⟩⟩
noncomputable def kS (W:Wd)(gl:Str->Option D):Prop:=∀x d,gl x=some d->(x==("__debug__":Str))=false/\∃v,(W.mg x=some v\/W.mg x=none/\W.mb x=some v)/\∀g,Rep W g v d
noncomputable def aQ (W:Wd)(A:Around)(env:Env)(ρ:Rho)(e:Expr)(d:D):Prop:=∀g s,Fra W g s env ρ->Ok W g s->Yl W A (eval e env) g s d
noncomputable def gv (W:Wd)(A:Around)(env:Env)(ρ:Rho)(e:Expr)(b:Bool):Prop:=∀g s,Fra W g s env ρ->Ok W g s->Qb W A (isTrue e env (eval e env)) g s b
variable {p:Pos}
theorem Bj {gl:Str->Option D}(G:kS W gl)(hk:env.kindOf x=some .globalImplicit)(e:gl x=some d):aQ W A env ρ (.Name x p) d:=λg s F k Q E hQ=>by
 apply oP (G x d e);intro hd v hv hr
 refine wY F.kind hk ?_ hd
 unfold loadGlobal
 rw [F.glo,F.bui]
 refine aa (mJ k.glob ?_)
 rcases hv with hv | ⟨h1,h2⟩
 .rw [hv];exact aj (hQ v g s (Ext.refl k) (hr g))
 .rw [h1]
  refine aa (mJ k.blt ?_)
  rw [h2];exact aj (hQ v g s (Ext.refl k) (hr g))
theorem vw (hd:(x==("__debug__":Str))=false)(hk:env.kindOf x=some .local)(e:look ρ x=some d):aQ W A env ρ (.Name x p) d:=λg s F k Q E hQ=>by
 apply aA (F.loc);intro m hn hl
 apply aA (hl x d e hk);intro v hv hr
 exact wpAny_Name (wpAny_loadName_local F.kind hk hn hv (hQ v g s (Ext.refl k) hr)) hd
theorem xO (hd:(x==("__debug__":Str))=false)(hk:env.kindOf x=some .cell\/env.kindOf x=some .free)(e:look ρ x=some d):aQ W A env ρ (.Name x p) d:=λg s F k Q E hQ=>by
 apply bP (F.cel x hk);intro c cv h1 h2 h3
 apply aA (h3 d e);intro v hq0 hr;subst hq0
 rcases hk with hk | hk
 .exact wpAny_Name (wpAny_loadName_cell F.kind hk h1 h2 (hQ v g s (Ext.refl k) hr)) hd
 .refine wpAny_Name (wpAny_loadName_free F.kind hk h1 h2 (hQ v g s (Ext.refl k) hr) ?_) hd
  exact beq_eq_false_iff_ne.mpr λq=>F.ncd (q▸hk)
noncomputable def zM:Const->R
 | .none=>some (.none,[])
 | .bool b=>some (.bool b,[])
 | .int i=>some (.int i,[])
 | .str x=>some (.kstr x,[])
 | .bytes b=>some (.bytes b.toArray,[])
 | _=>none
theorem iR {c:Const}(e:zM c=some (d,P)):aQ W A env ρ (.Constant c n p) d:=λg s _ k=>by
 cases c<;>(first | exact (aK e).elim | (refine rO e ?_;clear e;intro q₁ q₂;subst q₁ q₂))
 .exact Yl.val k .none λh=>wpAny_Constant_none h
 .exact Yl.val k (.bool _) λh=>wpAny_Constant_bool h
 .exact Yl.int k λh=>wpAny_Constant_int h
 .exact λQ E hQ=>Calls.Constant_str (hQ _ _ _ (Ext.text k _) (.kstr (xt _ _ _)))
 .exact λQ E hQ=>PySem.W.Constant_bytes (hQ _ _ _ (Ext.tk k (aY _)) (.bytes _ _))
theorem qz {l r:Expr}{op:Operator}{a b:D}(hl:aQ W A env ρ l a)(hr:aQ W A env ρ r b)(e:GP op a b=some (d,P))(hP:AllP P):aQ W A env ρ (.BinOp l op r p) d:=λg s F k Q E hQ=>
 rK (hl g s F k _ _ λ_ g1 s1 x1 r1=>hr g1 s1 (F.ext x1) x1.ok _ _ λ_ g2 s2 x2 r2=>LE e hP x2.ok (r1.mono x2.le) r2 _ _ λv g3 s3 x3 r3=>hQ v g3 s3 (x1.trans (x2.trans x3)) r3)
theorem Lr {x:Expr}{op:UnaryOp}{a:D}(hx:aQ W A env ρ x a)(e:Pv op a=some (d,P)):aQ W A env ρ (.UnaryOp op x p) d:=λg s F k Q E hQ=>
 wpAny_UnaryOp (hx g s F k _ _ λ_ g1 s1 x1 r1=>M7 e x1.ok r1 _ _ λv g3 s3 x3 r3=>hQ v g3 s3 (x1.trans x3) r3)
theorem IJ {l r:Expr}{op:CmpOp}{a b:D}{c:Bool}(hu:A.units + 100 < cLine)(hl:aQ W A env ρ l a)(hr:aQ W A env ρ r b)(e:ll op a b=some (c,P))(hP:AllP P)(hm:behindInMarks op r=false):
  aQ W A env ρ (.Compare l [op] [r] p) (.bool c):=λg s F k Q E hQ=>
 wpAny_Compare1 (hl g s F k _ _ λ_ g1 s1 x1 r1=>hr g1 s1 (F.ext x1) x1.ok _ _ λ_ g2 s2 x2 r2=>n7 e hP x2.ok (r1.mono x2.le) r2 hu _ _ λv g3 s3 x3 r3=>hQ v g3 s3 (x1.trans (x2.trans x3)) r3) hm
theorem Ax {l r:Expr}{op:CmpOp}{a b:D}{c:Bool}(hu:A.units + 100 < cLine)(hl:aQ W A env ρ l a)(hr:aQ W A env ρ r b)(e:ll op a b=some (c,P))(hP:AllP P)(hm:behindInMarks op r=false):
  gv W A env ρ (.Compare l [op] [r] p) c:=λg s F k Q E hQ=>
 wpAny_isTrue_Compare1 (hl g s F k _ _ λ_ g1 s1 x1 r1=>hr g1 s1 (F.ext x1) x1.ok _ _ λ_ g2 s2 x2 r2=>n7 e hP x2.ok (r1.mono x2.le) r2 hu _ _ λv g3 s3 x3 r3=>by
  obtain rfl:=r3.inv
  exact fi (hQ g3 s3 (x1.trans (x2.trans x3)))) hm
variable {e:Expr}
theorem Aw {b:Bool}(he:aQ W A env ρ e d)(ht:o0 d=some (b,P))(hP:AllP P)(hi:∀whole,isTrue e env whole=(do let v <-whole;standAt e.pos;holding [v] (truthy v))):gv W A env ρ e b:=λg s F k Q E hQ=>
 wpAny_isTrue_value (he g s F k _ _ λ_ g1 s1 x1 r1=>Fu ht hP x1.ok r1 _ _ λg2 s2 x2=>hQ g2 s2 (x1.trans x2)) (hi _)
variable {t:Expr}
theorem l8 {b o:Expr}{c:Bool}(ht:gv W A env ρ t c)(h:if c then aQ W A env ρ b d else aQ W A env ρ o d):aQ W A env ρ (.IfExp t b o p) d:=λg s F k Q E hQ=>
 wpAny_IfExp (ht g s F k _ _ λg1 s1 x1=>by
  cases c
  .exact h g1 s1 (F.ext x1) x1.ok _ _ λv g2 s2 x2 r2=>hQ v g2 s2 (x1.trans x2) r2
  .exact h g1 s1 (F.ext x1) x1.ok _ _ λv g2 s2 x2 r2=>hQ v g2 s2 (x1.trans x2) r2)
inductive EvAll (W:Wd)(A:Around)(env:Env)(ρ:Rho):List Expr->List D->Prop
 | nil:EvAll W A env ρ [] []
 | cons {e es d ds:_}:(∀x p,e≠.Starred x p)->aQ W A env ρ e d->EvAll W A env ρ es ds->EvAll W A env ρ (e :: es) (d :: ds)
variable {es:List Expr}
theorem ct (h:∀x p,e≠.Starred x p):starEach (e :: es) env=(false,eval e env) :: starEach es env:=by
 cases e<;>first | rfl | exact absurd rfl (h _ _)
variable {pos:Pos}
theorem gR (h:EvAll W A env ρ es ds):(backTo pos (starEach es env)).any (·.1)=false:=by
 induction h with
 | nil=>rfl
 | cons h1 _ _ ih=>rw [ct h1];exact ih
theorem fH (h:EvAll W A env ρ es ds):∀g s,Fra W g s env ρ->Ok W g s->∀(Q:List Value->Shared->Prop) (E:Value->Shared->Prop),
  (∀vs g' s',Ext W g s g' s'->RepAll W g' vs ds->Q vs s')->wpAny (model W.prog W.w) A (spliced (backTo pos (starEach es env))) Q E s:=by
 induction h with
 | nil=>intro g s F k Q E hQ;exact eV (hQ [] g s (Ext.refl k) .nil)
 | cons h1 h2 _ ih=>
  intro g s F k Q E hQ
  rw [ct h1]
  refine ci ?_
  show wpAny _ _ (if false=true then _ else eval _ env) _ _ _
  exact h2 g s F k _ _ λv g1 s1 x1 r1=>ih g1 s1 (F.ext x1) x1.ok _ _ λvs g2 s2 x2 r2=>hQ (v :: vs) g2 s2 (x1.trans x2) (.cons (r1.mono x2.le) r2)
theorem po (h:EvAll W A env ρ es ds)(hz:ds.length<=sizeLine):aQ W A env ρ (.Tuple es n p) (.tup ds):=λg s F k Q E hQ=>
 Tuple_ (fH h g s F k _ _ λ_ _ _ x1 r1=>Ao x1.ok r1 hz _ _ λv g2 s2 x2 r2=>hQ v g2 s2 (x1.trans x2) r2)
theorem Gk (h:EvAll W A env ρ es ds)(hz:ds.length<=sizeLine):aQ W A env ρ (.List es p) (.list ds):=λg s F k Q E hQ=>
 List_ (fH h g s F k _ _ λ_ _ _ x1 r1=>oW x1.ok r1 hz _ _ λv g2 s2 x2 r2=>hQ v g2 s2 (x1.trans x2) r2)
theorem Bi {v i:Expr}{a b:D}(hv:aQ W A env ρ v a)(hi:aQ W A env ρ i b)(e:lO a b=some (d,P))(hP:AllP P):aQ W A env ρ (.Subscript v i p) d:=λg s F k Q E hQ=>
 DY (hv g s F k _ _ λ_ g1 s1 x1 r1=>hi g1 s1 (F.ext x1) x1.ok _ _ λ_ g2 s2 x2 r2=>KK e hP x2.ok (r1.mono x2.le) r2 _ _ λv g3 s3 x3 r3=>hQ v g3 s3 (x1.trans (x2.trans x3)) r3)
noncomputable def mn (W:Wd)(A:Around)(env:Env)(ρ:Rho)(e:Option Expr)(i:Option Int):Prop:=match e with
 | none=>i=none
 | some e=>∃d,aQ W A env ρ e d/\PartD d i
theorem gY {e:Option Expr}{i:Option Int}(h:mn W A env ρ e i):∀g s,Fra W g s env ρ->Ok W g s->∀(Q:Value->Shared->Prop) (E:Value->Shared->Prop),
  (∀v g' s',Ext W g s g' s'->IsPart v i->Q v s')->wpAny (model W.prog W.w) A (evalPart e env) Q E s:=by
 intro g s F k Q E hQ
 cases e with
 | none=>
  have e:i=none:=h
  subst e
  rw [evalPart_none];exact aj (hQ _ g s (Ext.refl k) .none)
 | some e=>
  apply aA (h);intro d h1 h2
  exact wpAny_evalPart_some (h1 g s F k _ _ λv g1 s1 x1 r1=>hQ v g1 s1 x1 (HN r1 h2))
variable {p':Pos}{st:Option Expr}
theorem vv {v:Expr}{lo hi:Option Expr}{a b c:Option Int}(hv:aQ W A env ρ v (.list ds))(h1:mn W A env ρ lo a)(h2:mn W A env ρ hi b)(h3:mn W A env ρ st c)(h0:c≠some 0)(hz:ds.length<=sizeLine):
  aQ W A env ρ (.Subscript v (.Slice lo hi st p') p) (.list (d9 ds a b c)):=λg s F k Q E hQ=>by
 refine DY (hv g s F k _ _ λu g1 s1 x1 r1=>wpAny_Slice (gY h1 g1 s1 (F.ext x1) x1.ok _ _ λvl g2 s2 x2 p1=>gY h2 g2 s2 ((F.ext x1).ext x2) x2.ok _ _ λvu g3 s3 x3 p2=>
  gY h3 g3 s3 (((F.ext x1).ext x2).ext x3) x3.ok _ _ λvs g4 s4 x4 p3=>?_))
 have x5:=Ext.pushHid x4.ok {cls:=.type "slice",data:=.fields #[vl,vu,vs] }
 apply aV (r1.inv_list);intro a' vs' n' hq0 _ _;subst hq0
 exact Hj x5.ok (r1.mono (x2.le.trans (x3.le.trans (x4.le.trans x5.le)))) (wy ..) p1 p2 p3 h0 hz _ _ λv g6 s6 x6 r6=>hQ v g6 s6 (x1.trans (x2.trans (x3.trans (x4.trans (x5.trans x6))))) r6
noncomputable def cJ (W:Wd)(f:D):Prop:=∀g s v,Ok W g s->Rep W g v f->∃k,(k=Keeper.frame\/k=Keeper.machine\/k=Keeper.boundFrame)/\Looks (model W.prog W.w) s.heap (keeperOf v) k
theorem se (id:String):cJ W (.bi id):=λg s v k r=>by obtain rfl:=r.inv;exact ⟨.machine,.inr (.inl rfl),.now⟩
theorem fF (n:String):cJ W (.ty n):=λg s v k r=>by obtain rfl:=r.inv;exact ⟨.machine,.inr (.inl rfl),.now⟩
variable {fd:FuncData}
theorem pi (e:W.h₀.get? a=some o)(hd:o.data=.func fd):cJ W (.ref a):=λg s v k r=>by
 obtain rfl:=r.inv
 refine ⟨.frame,.inl rfl,(Looks.ld (part:=none) (k.baseHeap _ _ e)).andThen ?_⟩
 rw [hd]
 exact .now
theorem lX {w x y z}:cJ W (.lam w x y z):=λg s v k r=>r.lamE λh1 h2 _ _ _ _ _ _ _ _ _ _ _=>by
 refine ⟨.frame,.inl rfl,(Looks.ld (part:=none) (k.sub _ _ h1)).andThen ?_⟩
 rw [h2]
 exact .now
noncomputable def bz (W:Wd)(A:Around)(f:D)(ds:List D)(kws:List (Str×D))(d:D):Prop:=
 ∀g s vf vs kvs,Ok W g s->Rep W g vf f->RepAll W g vs ds->kvs.map (·.1)=kws.map (·.1)->RepAll W g (kvs.map (·.2)) (kws.map (·.2))->Yl W A (call vf vs kvs) g s d
inductive EvKws (W:Wd)(A:Around)(env:Env)(ρ:Rho):List Keyword->List (Str×D)->Prop
 | nil:EvKws W A env ρ [] []
 | cons {n e p es d ds:_}:aQ W A env ρ e d->EvKws W A env ρ es ds->EvKws W A env ρ (⟨some n,e,p⟩ :: es) ((n,d) :: ds)
theorem sq {es:List Keyword}{ds:List (Str×D)}(h:EvKws W A env ρ es ds):
  (backToKw pos (keywordEach es env)).all (·.1.isSome)=true/\(backToKw pos (keywordEach es env)).any (·.1.isNone)=false/\(backToKw pos (keywordEach es env)).filterMap (·.1)=ds.map (·.1):=by
 induction h with
 | nil=>exact ⟨rfl,rfl,rfl⟩
 | cons _ _ ih=>
  refine ⟨ih.1,ih.2.1,?_⟩
  exact congrArg (List.cons _) ih.2.2
theorem vx {es:List Keyword}{ds:List (Str×D)}(h:EvKws W A env ρ es ds):∀g s,Fra W g s env ρ->Ok W g s->∀(Q:List Value->Shared->Prop) (E:Value->Shared->Prop),
  (∀vs g' s',Ext W g s g' s'->RepAll W g' vs (ds.map (·.2))->Q vs s')->wpAny (model W.prog W.w) A (evalAll ((backToKw pos (keywordEach es env)).map (·.2))) Q E s:=by
 induction h with
 | nil=>intro g s F k Q E hQ;exact mK (hQ [] g s (Ext.refl k) .nil)
 | cons h1 _ ih=>
  intro g s F k Q E hQ
  refine wpAny_evalAll_cons ?_
  refine aa (h1 g s F k _ _ λv g1 s1 x1 r1=>aa (cM (aj ?_)))
  exact ih g1 s1 (F.ext x1) x1.ok _ _ λvs g2 s2 x2 r2=>hQ (v :: vs) g2 s2 (x1.trans x2) (.cons (r1.mono x2.le) r2)
variable {kds:List (Str×D)}{kes:List Keyword}
theorem zD {f:Value}(h:EvAll W A env ρ es ds)(hk:EvKws W A env ρ kes kds):∀g s,Fra W g s env ρ->Ok W g s->
  ∀(Q:Args->Shared->Prop) (E:Value->Shared->Prop),(∀vs kvs g' s',Ext W g s g' s'->RepAll W g' vs ds->kvs.map (·.1)=kds.map (·.1)->RepAll W g' (kvs.map (·.2)) (kds.map (·.2))->Q ⟨vs,kvs⟩ s')->
  wpAny (model W.prog W.w) A (evalArgs f true (backTo pos (starEach es env)) (backToKw pos (keywordEach kes env))) Q E s:=by
 intro g s F k Q E hQ
 have hx0:=sq (pos:=pos) hk;have k1:=hx0.1;have k2:=hx0.2.1;have k3:=hx0.2.2
 have zip:∀{vs:List Value} {g':View},RepAll W g' vs (kds.map (·.2))->(((kds.map (·.1)).zip vs).map (·.1)=kds.map (·.1))/\((kds.map (·.1)).zip vs).map (·.2)=vs:=λ{vs g'} r=>by
  have hl:=r.length
  rw [ab] at hl
  exact ⟨uc (by rw [ab,hl];exact ae _),List.map_snd_zip (by rw [ab,hl];exact ae _)⟩
 cases h with
 | nil=>
  refine evalArgs_kw_nil k1 ?_
  rw [k3]
  exact vx hk g s F k _ _ λvs g1 s1 x1 r1=>hQ _ _ g1 s1 x1 .nil (zip r1).1 (by rw [(zip r1).2];exact r1)
 | cons h1 h2 h3=>
  have hsp:=fH (pos:=pos) (EvAll.cons h1 h2 h3) g s F k
  rw [ct h1] at hsp ⊢
  refine evalArgs_kw k1 ?_
  rw [k3]
  exact hsp _ _ λvs g1 s1 x1 r1=>vx hk g1 s1 (F.ext x1) x1.ok _ _ λus g2 s2 x2 r2=>hQ _ _ g2 s2 (x1.trans x2) (r1.mono x2.le) (zip r2).1 (by rw [(zip r2).2];exact r2)
theorem nW (hf:aQ W A env ρ (.Name x p) f)(h:EvAll W A env ρ es ds)(hk:EvKws W A env ρ kes kds)(hkp:cJ W f)(hc:bz W A f ds kds d):aQ W A env ρ (.Call (.Name x p) es kes pos) d:=λg s F k Q E hQ=>by
 refine lI (hf g s F k _ _ λv g1 s1 x1 r1=>?_)
 refine Ah (P:=λh'=>∃g' s',s'.heap=h'/\Ok W g' s'/\Rep W g' v f) (by rw [gR h,(sq hk).2.1];rfl) (λh' zq0=>bP zq0 λg' s' e k' r'=>e▸hkp g' s' v k' r') ?_
 exact zD h hk g1 s1 (F.ext x1) x1.ok _ _ λvs kvs g2 s2 x2 r2 r3 r4=>⟨⟨g2,s2,rfl,x2.ok,r1.mono x2.le⟩,hc g2 s2 v vs kvs x2.ok (r1.mono x2.le) r2 r3 r4 _ _ λu g3 s3 x3 r5=>hQ u g3 s3 (x1.trans (x2.trans x3)) r5⟩
theorem C4 {od:D}(hi:xB name od=some (T,id)):PlainAttrs T/\Slot T name id/\typeOf (.builtin id)=pure (.type "method_descriptor"):=by
 have st:∀{name},KL name=some (T,id)->PlainAttrs T/\Slot T name id/\typeOf (.builtin id)=pure (.type "method_descriptor"):=λ{name} e=>
  uL e (λh q=>by (refine rO q ?_;clear q;intro q₁ q₂;subst q₁ q₂);subst h;exact ⟨gW,F.slot_str_replace,F.type_str_replace⟩) λ_ e=>uL e (λh q=>by (refine rO q ?_;clear q;intro q₁ q₂;subst q₁ q₂);subst h;exact ⟨gW,jB,F.type_str_split⟩) λ_ e=>
  Cd e λh q=>by (refine mQ q ?_;clear q;intro q₁ q₂;subst q₁ q₂);subst h;exact ⟨gW,F.slot_str_join,F.type_str_join⟩
 cases od with
 | int=>exact Cd hi λh q=>by (refine mQ q ?_;clear q;intro q₁ q₂;subst q₁ q₂);subst h;exact ⟨F.plainAttrs_int,He,Hd⟩
 | list=>exact Cd hi λh q=>by (refine mQ q ?_;clear q;intro q₁ q₂;subst q₁ q₂);subst h;exact ⟨F.plainAttrs_list,F.slot_list_count,F.type_list_count⟩
 | sdict=>exact Cd hi λh q=>by (refine mQ q ?_;clear q;intro q₁ q₂;subst q₁ q₂);subst h;exact ⟨F.plainAttrs_dict,Ac,F.type_dict_get⟩
 | str=>exact st hi
 | kstr=>exact st hi
 | _=>exact no hi
noncomputable def rS:Expr->Bool
 | .Name ..=>true
 | .Constant ..=>true
 | _=>false
variable {apos:Pos}
theorem xN {o:Expr}{od:D}(hb:rS o=true)(hline:(apos.endLine==pos.line)=true)(hn:es.length < 30)(ho:aQ W A env ρ o od)(h:EvAll W A env ρ es ds)(hi:xB name od=some (T,id))(e:uP name od ds=some (d,P))(hP:AllP P):aQ W A env ρ (.Call (.Attribute o name apos) es [] pos) d:=λg s F k Q E hQ=>by
 have hT:∀g' s' v,Ok W g' s'->Rep W g' v od->PlainAttrs T/\Slot T name id/\typeOf (.builtin id)=pure (.type "method_descriptor")/\s'.TypeIs v T/\∀a,v=.ref a->∃ob,s'.heap.get? a=some ob/\ob.dict=none:=
  λg' s' v k' r'=>AV hi k' r'
 have hstat:=C4 hi
 refine wpAny_Call_method ?_ ?_ hline hstat.1 hstat.2.1 hstat.2.2 (ho g s F k _ _ λv g1 s1 x1 r1=>⟨(hT g1 s1 v x1.ok r1).2.2.2.1,(hT g1 s1 v x1.ok r1).2.2.2.2,?_⟩)
 .cases o<;>first | rfl | exact (ag hb).elim
 .have h1:(backTo pos (starEach es env)).all (λx=>!x.1)=true:=by
   have:=gR (pos:=pos) h
   rw [List.any_eq_false] at this
   rw [ft]
   intro x hx
   simpa using this x hx
  rw [h1]
  exact decide_eq_true (p:=es.length + 0 + 0 < 30) hn
 .refine Cb (gR h) ?_
  have q:=zD (f:=.builtin id) (pos:=pos) h EvKws.nil g1 s1 (F.ext x1) x1.ok
  refine q _ _ λvs kvs g2 s2 x2 r2 r3 r4=>?_
  have hkv:kvs=[]:=by simpa using r3
  subst hkv
  exact Id e hP hi x2.ok (r1.mono x2.le) r2 _ _ λu g3 s3 x3 r5=>hQ u g3 s3 (x1.trans (x2.trans x3)) r5
structure ExtM (W:Wd)(M:Addr->Prop)(g:View)(s:Shared)(g':View)(s':Shared):Prop where
 le:Le g g'
 ok:Ok W g' s'
 keep:∀a o,¬M a->s.heap.get? a=some o->bD o=false->s'.heap.get? a=some o
 new:∀a o,¬M a->s.heap.get? a=some o->bD o=false->g.obj a=none->g'.obj a=none
 same:s'={s with heap:=s'.heap,toks:=s'.toks }
structure Hid (g:View)(s:Shared)(a:Addr)(o:Obj):Prop where
 get:s.heap.get? a=some o
 tab:bD o=false
 hid:g.obj a=none
variable {M:Addr->Prop}
theorem Ext.toM (x:Ext W g s g' s'):ExtM W M g s g' s':=⟨x.le,x.ok,λa o _=>x.keep a o,λa o _=>x.new a o,x.same⟩
variable {N:Addr->Prop}
theorem ExtM.mono (x:ExtM W M g s g' s')(h:∀a,M a->N a):ExtM W N g s g' s':=⟨x.le,x.ok,λa o n=>x.keep a o λm=>n (h a m),λa o n=>x.new a o λm=>n (h a m),x.same⟩
theorem ExtM.refl (k:Ok W g s):ExtM W M g s g s:=(Ext.refl k).toM
theorem ExtM.trans {g'':View}{s'':Shared}(a:ExtM W M g s g' s')(b:ExtM W M g' s' g'' s''):ExtM W M g s g'' s'':=
 ⟨a.le.trans b.le,b.ok,λx o m e t=>b.keep x o m (a.keep x o m e t) t,λx o m l t e=>b.new x o m (a.keep x o m l t) t (a.new x o m l t e),by rw [b.same,a.same]⟩
theorem ExtM.toExt (x:ExtM W M g s g' s')(h:∀a o,M a->s.heap.get? a=some o->bD o=true):Ext W g s g' s':=
 ⟨x.le,x.ok,λa o e t=>x.keep a o (λm=>by rw [h a o m e] at t;exact (ag t.symm).elim) e t,λa o e t=>x.new a o (λm=>by rw [h a o m e] at t;exact (ag t.symm).elim) e t,x.same⟩
theorem Hid.ext (h:Hid g s a o)(x:ExtM W M g s g' s')(hm:¬M a):Hid g' s' a o:=⟨x.keep a o hm h.get h.tab,h.tab,x.new a o hm h.get h.tab h.hid⟩
theorem Fra.hidden (F:Fra W g s env ρ):∃o,Hid g s env.locals o:=by
 apply aA (F.loc);intro m hn0 _;obtain ⟨o,es,ep,e,hd,r⟩:=hn0
 exact ⟨o,e,cS hd,F.hid⟩
noncomputable def iv (env:Env)(M:Addr->Prop):Prop:=¬M env.locals/\∀x c,env.cells.lookup x=some c->¬M c
theorem Fra.extM (F:Fra W g s env ρ)(x:ExtM W M g s g' s')(h:iv env M):Fra W g' s' env ρ where
 kind:=F.kind
 glo:=F.glo
 bui:=F.bui
 ncd:=F.ncd
 hid:=Kw F.hidden λo ho=>(ho.ext x h.1).hid
 loc:=by
  apply aA (F.loc);intro m hn0 hl;obtain ⟨o,es,ep,e,hd,r⟩:=hn0
  exact ⟨m,⟨o,es,ep,x.keep _ o h.1 e (cS hd),hd,r⟩,λy d e k=>aA (hl y d e k) λv a b=>⟨v,a,b.mono x.le⟩⟩
 inj:=F.inj
 liv:=λy c e=>by
  have hx0:=F.liv y c e;have hn0:=hx0.1;have h3:=hx0.2;obtain ⟨v,o,h1,h2⟩:=hn0
  exact ⟨⟨v,o,x.keep _ o (h.2 y c e) h1 (du h2),h2⟩,λhz=>x.new _ o (h.2 y c e) h1 (du h2) (h3 hz)⟩
 cel:=λy hy=>by
  apply bP (F.cel y hy);intro c cv h1 hn0 h3;obtain ⟨o,e,hd⟩:=hn0
  exact ⟨c,cv,h1,⟨o,x.keep _ o (h.2 y c h1) e (du hd),hd⟩,λd e=>aA (h3 d e) λv a b=>⟨v,a,b.mono x.le⟩⟩
theorem Ok.ofSub (k:Ok W g s)(hk:∀b o,g.obj b=some o->h'.get? b=some o)(ht:∀q∈W.tabs,h'.get? q.2.1=s.heap.get? q.2.1)(hn:s.toks<=n):Ok W g {s with heap:=h',toks:=n }:=
 ⟨k.base,hk,λq hq=>(k.tabs q hq).mono (Le.refl g) (ht q hq),k.tabg,aw k.pos hn,λt y e=>⟨(k.tok t y e).1,aw (k.tok t y e).2 hn⟩⟩
theorem ExtM.of_keep (k:Ok W g s){wr:List Addr}(hw:∀b∈wr,∃o,Hid g s b o)(hk:∀b o,b∉wr->s.heap.get? b=some o->h'.get? b=some o)(hn:s.toks<=n):
  ExtM W (·∈wr) g s g {s with heap:=h',toks:=n }:=
 ⟨Le.refl g,k.ofSub (λb o e=>hk b o (λm=>by obtain ⟨_,h⟩:=hw b m;rw [h.hid] at e;exact (aK e).elim) (k.sub b o e)) (λq hq=>by
   apply aA (k.tabs q hq);intro ps e _
   rw [e]
   exact hk _ _ (λm=>by obtain ⟨_,h⟩:=hw _ m;exact k.notTab h.get h.tab q hq rfl) e) hn,
  λa o m e _=>hk a o m e,λ_ _ _ _ _ e=>e,rfl⟩
inductive ItemIs (W:Wd)(g:View)(h:Heap):Value->D->Prop
 | rep {v d:_}:Rep W g v d->ItemIs W g h v d
 | tup {T vals ds:_}:h.IsTuple T vals->RepAll W g vals.toList ds->ItemIs W g h (.ref T) (.tup ds)
noncomputable def NL:Expr->Bool
 | .Name ..=>true
 | _=>false
noncomputable def ItemFor (W:Wd)(target:Expr)(g:View)(h:Heap)(v:Value)(d:D):Prop:=ItemIs W g h v d/\(NL target=true->Rep W g v d)
variable {target:Expr}
theorem ItemFor.ofRep (r:Rep W g v d):ItemFor W target g h v d:=⟨.rep r,λ_=>r⟩
structure Turns (W:Wd)(A:Around)(target:Expr)(it:Value)(B:Addr->Prop)(ds:List D)(St:Nat->View->Shared->Prop)(Md:Nat->Value->View->Shared->Prop):Prop where
 frame:∀{M:Addr->Prop} {i g s g' s'},St i g s->Ok W g s->ExtM W M g s g' s'->(∀b,B b->¬M b)->St i g' s'
 alive:∀{i g s b},St i g s->B b->∃o,Hid g s b o
 item:∀{i g s},i < ds.length->Ok W g s->St i g s->∀(Q:Option Value->Shared->Prop) (E:Value->Shared->Prop),(∀v g' s',ExtM W B g s g' s'->Md i v g' s'->Q (some v) s')->wpAny (model W.prog W.w) A (pyNext it) Q E s
 go:∀{i v g s},Ok W g s->Md i v g s->∀(Q:Unit->Shared->Prop) (E:Value->Shared->Prop),(∀g' s',ExtM W B g s g' s'->St (i + 1) g' s'->(∃d,ds[i]? =some d/\ItemFor W target g' s'.heap v d)->Q () s')->wpAny (model W.prog W.w) A (letOwnedTupleGo target it v) Q E s
 done:∀{g s},Ok W g s->St ds.length g s->∀(Q:Option Value->Shared->Prop) (E:Value->Shared->Prop),(∀g' s',ExtM W B g s g' s'->Q none s')->wpAny (model W.prog W.w) A (pyNext it) Q E s
 again:∀{g s},Ok W g s->St 0 g s->∀(Q:Value->Shared->Prop) (E:Value->Shared->Prop),Q it s->wpAny (model W.prog W.w) A (pyIter it) Q E s
theorem Turns.ofK {I:Addr}{fp wr own:List Addr}{P Md:Nat->Value->Heap->Prop}{St:Nat->Heap->Prop}(K:KTurns W.prog W.w A target I fp wr n P Md St)(hself:∀(s:Shared) (Q:Value->Shared->Prop) (E:Value->Shared->Prop),St 0 s.heap->Q (.ref I) s->wpAny (model W.prog W.w) A (pyIter (.ref I)) Q E s){g₀:View}(ds:List D)(hn:ds.length=n)(hwr:∀b∈wr,b∈own)(hfp:∀b∈fp,b∈own\/∃o,g₀.obj b=some o)(hst:∀i h,St i h->∀b∈own,∃o,h.get? b=some o/\bD o=false)(hmd:∀i v h,Md i v h->∀b∈own,∃o,h.get? b=some o/\bD o=false)(hP:∀i v g h,Le g₀ g->P i v h->∃d,ds[i]? =some d/\ItemFor W target g h v d):
  Turns W A target (.ref I) (·∈own) ds (λi g s=>St i s.heap/\Le g₀ g/\∀b∈own,g.obj b=none) (λi v g s=>Md i v s.heap/\Le g₀ g/\∀b∈own,g.obj b=none) where
 frame:=λ{M i g s g' s'} zq0 k x hm=>Gv zq0 λa b c=>by
  refine ⟨K.frame i _ _ a λb' hb o e=>?_,b.trans x.le,λb' hb=>?_⟩
  .rcases hfp b' hb with h | ⟨o',h⟩
   .apply aA (hst i _ a b' h);intro o' e' t
    rw [e] at e';(refine eQ e' ?_;clear e';intro q₁;subst q₁)
    exact x.keep b' o (hm b' h) e t
   .have e':=k.sub _ _ (b.obj _ _ h)
    rw [e] at e';(refine eQ e' ?_;clear e';intro q₁;subst q₁)
    exact x.ok.sub _ _ (x.le.obj _ _ (b.obj _ _ h))
  .apply aA (hst i _ a b' hb);intro o' e' t
   exact x.new b' o' (hm b' hb) e' t (c b' hb)
 alive:=λ{i g s b} zq0 hb=>Gv zq0 λa _ c=>aA (hst i _ a b hb) λo e t=>⟨o,e,t,c b hb⟩
 item:=λ{i g s} hi k zq0 Q E hQ=>Gv zq0 λa b c=>ch (ae _) (K.item i s (λr s'=>s.toks<=s'.toks->Q r s') (λe s'=>s.toks<=s'.toks->E e s') (hn▸hi) a λv h' tk hm hk hle=>by
  have x:=ExtM.of_keep k (wr:=wr) (h':=h') (n:=tk) (λb' hb=>aA (hst i _ a b' (hwr b' hb)) λo e t=>⟨o,e,t,c b' (hwr b' hb)⟩) hk hle
  exact hQ v g _ (x.mono hwr) ⟨hm,b,c⟩)
 go:=λ{i v g s} k zq0 Q E hQ=>Gv zq0 λa b c=>K.go i v s Q E a λh' hp st hk=>by
  have x:=ExtM.of_keep k (wr:=wr) (h':=h') (n:=s.toks) (λb' hb=>aA (hmd i v _ a b' (hwr b' hb)) λo e t=>⟨o,e,t,c b' (hwr b' hb)⟩) hk (ae _)
  exact hQ g _ (x.mono hwr) ⟨st,b,c⟩ (hP i v g h' b hp)
 done:=λ{g s} k zq0 Q E hQ=>Gv zq0 λa b c=>ch (ae _) (K.done s (λr s'=>s.toks<=s'.toks->Q r s') (λe s'=>s.toks<=s'.toks->E e s') (hn▸a) λh' tk hk hle=>by
  have x:=ExtM.of_keep k (wr:=wr) (h':=h') (n:=tk) (λb' hb=>aA (hst _ _ a b' (hwr b' hb)) λo e t=>⟨o,e,t,c b' (hwr b' hb)⟩) hk hle
  exact hQ g _ (x.mono hwr))
 again:=λ{g s} k zq0 Q E hQ=>Gv zq0 λa _ _=>hself s Q E a hQ
noncomputable def dS (W:Wd)(A:Around)(env:Env)(ρ:Rho)(target e:Expr)(ds:List D):Prop:=
 ∀g s,Fra W g s env ρ->Ok W g s->∀(Q:Value->Shared->Prop) (E:Value->Shared->Prop),
  (∀it g' s' B St Md,Ext W g s g' s'->Turns W A target it B ds St Md->St 0 g' s'->(∀b o,B b->s.heap.get? b=some o->bD o=true)->Q it s')->
  wpAny (model W.prog W.w) A (eval e env) (λx s₁=>wpAny (model W.prog W.w) A (pyIter x) Q E s₁) E s
theorem dF (hf:aQ W A env ρ (.Name x p) f)(h:EvAll W A env ρ es ds)(hk:EvKws W A env ρ kes kds)(hkp:cJ W f)(F:Fra W g s env ρ)(k:Ok W g s)(hc:∀g2 s2 vf vs kvs,Ext W g s g2 s2->Rep W g2 vf f->RepAll W g2 vs ds->kvs.map (·.1)=kds.map (·.1)->RepAll W g2 (kvs.map (·.2)) (kds.map (·.2))->wpAny (model W.prog W.w) A (call vf vs kvs) Q E s2):
  wpAny (model W.prog W.w) A (eval (.Call (.Name x p) es kes pos) env) Q E s:=by
 refine lI (hf g s F k _ _ λv g1 s1 x1 r1=>?_)
 refine Ah (P:=λh'=>∃g' s',s'.heap=h'/\Ok W g' s'/\Rep W g' v f) (by rw [gR h,(sq hk).2.1];rfl) (λh' zq0=>bP zq0 λg' s' e k' r'=>e▸hkp g' s' v k' r') ?_
 exact zD h hk g1 s1 (F.ext x1) x1.ok _ _ λvs kvs g2 s2 x2 r2 r3 r4=>⟨⟨g2,s2,rfl,x2.ok,r1.mono x2.le⟩,hc g2 s2 v vs kvs (x1.trans x2) (r1.mono x2.le) r2 r3 r4⟩
theorem bf {b:Addr}(hb:h.objs.size<=b):∀o,h.get? b=some o->bD o=true:=λo e=>absurd (aF e) (Nat.not_lt.mpr hb)
theorem Ext.before (x:Ext W g s g' s'){b:Addr}(hb:∀o,s'.heap.get? b=some o->bD o=true):∀o,s.heap.get? b=some o->bD o=true:=λo e=>by
 cases t:bD o with
 | true=>rfl
 | false=>rw [hb o (x.keep b o e t)] at t;exact (ag t.symm).elim
theorem xH (hh:A.handled=none)(k:Ok W g s)(r:Rep W g (.ref a) (.list ds))(hQ:∀it g' s' B St Md,Ext W g s g' s'->Turns W A target it B ds St Md->St 0 g' s'->(∀b o,B b->s.heap.get? b=some o->bD o=true)->Q it s'):wpAny (model W.prog W.w) A (pyIter (.ref a)) Q E s:=by
 apply aV (r.inv_list);intro a' vs n e h1 h4
 (refine G7 e ?_;clear e;intro q₁;subst q₁)
 have hs:=k.sub _ _ h1
 have hl:s.heap.IsList a vs:=⟨_,hs,rfl,n,rfl⟩
 have hlt:a < s.heap.objs.size:=aF hs
 have hne:a≠s.heap.objs.size:=bG hlt
 have x:=Ext.pushHid k {cls:=.type "list_iterator",data:=.fields #[.ref a,.int 0 0] }
 refine wpAny_pyIter_list hl (hQ _ g _ _ _ _ x (Turns.ofK (g₀:=g) (own:=[s.heap.objs.size]) (om (target:=target) (Walks.list hh s.heap.objs.size a hne vs) λi v s Q E st q=>letGo_listiter st.1 q)
  (λs Q E st q=>wpAny_pyIter_listiter st.1 q) ds (by rw [<-h4.length,aE]) (λb hb=>hb) (λb hb=>?_) (λi h st b hb=>?_) (λi v h st b hb=>?_) λi v g' h le hp=>?_) ⟨⟨⟨_,Heap.get?_push_size _ rfl,rfl,rfl⟩,hl.push _⟩,Le.refl g,λb hb=>?_⟩ λb o hb=>?_)
 .rcases List.mem_cons.mp hb with rfl | hb
  .exact .inl (rF.mpr rfl)
  .exact .inr ⟨_,(rF.mp hb)▸h1⟩
 .rw [rF.mp hb]
  have hn0:=st.1;obtain ⟨o,h1,h2,h3⟩:=hn0
  exact ⟨o,h1,by unfold bD;rw [h2]⟩
 .rw [rF.mp hb]
  have hn0:=st.2.1;obtain ⟨o,h1,h2,h3⟩:=hn0
  exact ⟨o,h1,by unfold bD;rw [h2]⟩
 .have hp':vs[i]? =some v:=hp
  apply aA (h4.getV (i:=i) (v:=v) (by simpa using hp'));intro d hd rd
  exact ⟨d,hd,.ofRep (rd.mono le)⟩
 .rw [rF.mp hb]
  exact k.fresh (ae _)
 .rw [rF.mp hb]
  exact bf (ae _) o
theorem Iw (hh:A.handled=none)(k:Ok W g s)(r:Rep W g (.ref a) (.tup ds))(hQ:∀it g' s' B St Md,Ext W g s g' s'->Turns W A target it B ds St Md->St 0 g' s'->(∀b o,B b->s.heap.get? b=some o->bD o=true)->Q it s'):wpAny (model W.prog W.w) A (pyIter (.ref a)) Q E s:=by
 apply aV (r.inv_tup);intro a' vs n e h1 h4
 (refine G7 e ?_;clear e;intro q₁;subst q₁)
 have hs:=k.sub _ _ h1
 have hl:s.heap.IsTuple a vs:=⟨_,hs,rfl,n,rfl⟩
 have hlt:a < s.heap.objs.size:=aF hs
 have hne:a≠s.heap.objs.size:=bG hlt
 have x:=Ext.pushHid k {cls:=.type "tuple_iterator",data:=.fields #[.ref a,.int 0 0] }
 refine iK hl (hQ _ g _ _ _ _ x (Turns.ofK (g₀:=g) (own:=[s.heap.objs.size]) (om (target:=target) (Walks.tuple hh s.heap.objs.size a hne vs) λi v s Q E st q=>letGo_tupleiter st.1 q)
  (λs Q E st q=>wpAny_pyIter_tupleiter st.1 q) ds (by rw [<-h4.length,aE]) (λb hb=>hb) (λb hb=>?_) (λi h st b hb=>?_) (λi v h st b hb=>?_) λi v g' h le hp=>?_) ⟨⟨⟨_,Heap.get?_push_size _ rfl,rfl,rfl⟩,hl.at λo e=>Heap.get?_push_of_some _ e⟩,Le.refl g,λb hb=>?_⟩ λb o hb=>?_)
 .rcases List.mem_cons.mp hb with rfl | hb
  .exact .inl (rF.mpr rfl)
  .exact .inr ⟨_,(rF.mp hb)▸h1⟩
 .rw [rF.mp hb]
  have hn0:=st.1;obtain ⟨o,h1,h2,h3⟩:=hn0
  exact ⟨o,h1,by unfold bD;rw [h2]⟩
 .rw [rF.mp hb]
  have hn0:=st.2.1;obtain ⟨o,h1,h2,h3⟩:=hn0
  exact ⟨o,h1,by unfold bD;rw [h2]⟩
 .have hp':vs[i]? =some v:=hp
  apply aA (h4.getV (i:=i) (v:=v) (by simpa using hp'));intro d hd rd
  exact ⟨d,hd,.ofRep (rd.mono le)⟩
 .rw [rF.mp hb]
  exact k.fresh (ae _)
 .rw [rF.mp hb]
  exact bf (ae _) o
theorem cC (hh:A.handled=none)(h:aQ W A env ρ e (.list ds)):dS W A env ρ target e ds:=λg s F k Q E hQ=>
 h g s F k _ _ λv g1 s1 x1 r1=>by
  apply aV (r1.inv_list);intro a vs n hq0 _ _;subst hq0
  exact xH hh x1.ok r1 λit g' s' B St Md x t st hb=>hQ it g' s' B St Md (x1.trans x) t st λb o hB=>x1.before (λo=>hb b o hB) o
theorem Dc (hh:A.handled=none)(h:aQ W A env ρ e (.tup ds)):dS W A env ρ target e ds:=λg s F k Q E hQ=>
 h g s F k _ _ λv g1 s1 x1 r1=>by
  apply aV (r1.inv_tup);intro a vs n hq0 _ _;subst hq0
  exact Iw hh x1.ok r1 λit g' s' B St Md x t st hb=>hQ it g' s' B St Md (x1.trans x) t st λb o hB=>x1.before (λo=>hb b o hB) o
noncomputable def nM (x:Str):List D:=x.cps.toList.map λc=>.kstr ⟨#[c]⟩
theorem Ix {t:Tok}(hh:A.handled=none)(k:Ok W g s)(hQ:∀it g' s' B St Md,Ext W g s g' s'->Turns W A (.Name y p) it B (nM x) St Md->St 0 g' s'->(∀b o,B b->s.heap.get? b=some o->bD o=true)->Q it s'):wpAny (model W.prog W.w) A (pyIter (.str x t)) Q E s:=by
 have main:∀T:String,(∀(i c:Nat) (it:Addr) (s:Shared) (Q:Option Value->Shared->Prop) (E:Value->Shared->Prop),s.heap.IsStrIter it T x t i->x.cps[i]? =some c->(∀h',h'.IsStrIter it T x t (i + 1)->tw it s.heap h'->Q (some (.str ⟨#[c]⟩ s.toks)) {s with heap:=h',toks:=s.toks + 1 })->wpAny (model W.prog W.w) A (pyNext (.ref it)) Q E s)->
   (∀(i:Nat) (it:Addr) (s:Shared) (Q:Option Value->Shared->Prop) (E:Value->Shared->Prop),s.heap.IsStrIter it T x t i->x.cps[i]? =none->(∀h',jx it s.heap h'->Q none {s with heap:=h' })->wpAny (model W.prog W.w) A (pyNext (.ref it)) Q E s)->
   (∀(i:Nat) (it:Addr) (s:Shared) (Q:Value->Shared->Prop) (E:Value->Shared->Prop),s.heap.IsStrIter it T x t i->Q (.ref it) s->wpAny (model W.prog W.w) A (pyIter (.ref it)) Q E s)->
   ∀it,Turns W A (.Name y p) (.ref it) (·=it) (nM x) (λi g s=>s.heap.IsStrIter it T x t i/\g.obj it=none)
    (λi v g s=>(s.heap.IsStrIter it T x t (i + 1)/\g.obj it=none)/\∃c u,v=.str ⟨#[c]⟩ u/\x.cps[i]? =some c/\g.tok u=some ⟨#[c]⟩):=by
  intro T h1 h2 h3 it
  have al:∀{i:Nat} {g:View} {s:Shared},s.heap.IsStrIter it T x t i/\g.obj it=none->∃o,Hid g s it o:=λ{i g s} zq0=>Ag zq0 λzn0 d=>let ⟨o,a,b,c⟩:=zn0;⟨o,a,by unfold bD;rw [b],d⟩
  refine ⟨λ{M i g s g' s'} st k x' hm=>?_,λ{i g s b} st hb=>hb▸al st,λ{i g s} hi k st Q E hQ=>?_,λ{i v g s} k st Q E hQ=>?_,λ{g s} k st Q E hQ=>?_,λ{g s} k st Q E hQ=>h3 0 it s Q E st.1 hQ⟩
  .obtain ⟨o,h⟩:=al st
   have h':=h.ext x' (hm it rfl)
   have hn0:=st.1;have d:=st.2;obtain ⟨o',a,b,c⟩:=hn0
   have e:o=o':=by have:=h.get;rw [a] at this;exact (aL this).symm
   subst e
   exact ⟨⟨o,h'.get,b,c⟩,h'.hid⟩
  .have hi':i < x.cps.size:=by simpa [nM] using hi
   refine h1 i x.cps[i] it s Q E st.1 (Array.getElem?_eq_getElem hi') λh' st' sb=>?_
   obtain ⟨o,hd⟩:=al st
   have x1:=ExtM.of_keep k (wr:=[it]) (h':=h') (n:=s.toks) (λb hb=>(rF.mp hb)▸⟨o,hd⟩) (λb o hb e=>sb.extBut b o (λq=>hb (rF.mpr q)) e) (ae _)
   have x2:=Ext.text x1.ok ⟨#[x.cps[i]]⟩
   refine hQ _ _ _ ((x1.mono (N:=(·=it)) λa ha=>rF.mp ha).trans x2.toM) ⟨⟨st',st.2⟩,_,_,rfl,Array.getElem?_eq_getElem hi',xt _ _ _⟩
  .refine fU (a:=()) (by rfl) ?_
   apply qO (st);intro st' c u hq0 hc hu;subst hq0
   exact hQ g s (ExtM.refl k) st' ⟨.kstr ⟨#[c]⟩,by simp [nM,hc],.ofRep (.kstr hu)⟩
  .obtain ⟨o,hd⟩:=al st
   refine h2 _ it s Q E st.1 (by simp [nM]) λh' eb=>?_
   have x1:=ExtM.of_keep k (wr:=[it]) (h':=h') (n:=s.toks) (λb hb=>(rF.mp hb)▸⟨o,hd⟩) (λb o hb e=>eb b o (λq=>hb (rF.mpr q)) e) (ae _)
   exact hQ g _ (x1.mono λa ha=>rF.mp ha)
 cases ha:x.cps.all (· < 128)
 .refine wpAny_pyIter_wide ha (hQ _ g _ _ _ _ (Ext.pushHid k _) (main "str_iterator" (λi c it s Q E a b h=>wpAny_pyNext_wide_item a b h) (λi it s Q E a b h=>wpAny_pyNext_wide_end hh a b h) (λi it s Q E a h=>wpAny_pyIter_striter_wide a h) _)
   ⟨⟨_,Heap.get?_push_size _ rfl,rfl,rfl⟩,k.fresh (ae _)⟩ λb o hb=>bf (dw hb.symm) o)
 .refine wpAny_pyIter_ascii ha (hQ _ g _ _ _ _ (Ext.pushHid k _) (main "str_ascii_iterator" (λi c it s Q E a b h=>wpAny_pyNext_ascii_item a b h) (λi it s Q E a b h=>wpAny_pyNext_ascii_end hh a b h) (λi it s Q E a h=>wpAny_pyIter_striter_ascii a h) _)
   ⟨⟨_,Heap.get?_push_size _ rfl,rfl,rfl⟩,k.fresh (ae _)⟩ λb o hb=>bf (dw hb.symm) o)
theorem lY (hh:A.handled=none)(h:aQ W A env ρ e d)(hd:jK d=some x):dS W A env ρ (.Name y p) e (nM x):=λg s F k Q E hQ=>
 h g s F k _ _ λv g1 s1 x1 r1=>by
  obtain ⟨t,rfl⟩:=eI r1 hd
  exact Ix hh x1.ok λit g' s' B St Md x t st hb=>hQ it g' s' B St Md (x1.trans x) t st λb o hB=>x1.before (λo=>hb b o hB) o
theorem ix {I:Addr}{fp wr:List Addr}{P Md:Nat->Value->Heap->Prop}{St:Nat->Heap->Prop}(K:KTurns W.prog W.w A target I fp wr n P Md St):
  KTurns W.prog W.w A target I fp wr n (λi v h=>i < n/\P i v h) (λi v h=>i < n/\Md i v h) St where
 sub:=K.sub
 frame:=K.frame
 item:=λi s Q E hi st hQ=>K.item i s Q E hi st λv h' tk hm hk=>hQ v h' tk ⟨hi,hm⟩ hk
 go:=λi v s Q E hm hQ=>K.go i v s Q E hm.2 λh' hp st hk=>hQ h' ⟨hm.1,hp⟩ st hk
 done:=K.done
noncomputable def fu (a:Int)(n:Nat):List D:=(aZ n).map λ(i:Nat)=>.int (a + i)
theorem uY {r:Addr}{a:Int}{t v:Tok}(hh:A.handled=none)(k:Ok W g s)(hr:IsRange s.heap r a b 1 t u v)(ha:-(2 ^ 62)<=a)(ha':a < 2 ^ 62)(hb:-(2 ^ 62)<=b)(hb':b < 2 ^ 62)(hQ:∀it g' s' B St Md,Ext W g s g' s'->Turns W A (.Name y p) it B (fu a (b - a).toNat) St Md->St 0 g' s'->(∀b o,B b->s.heap.get? b=some o->bD o=true)->Q it s'):wpAny (model W.prog W.w) A (pyIter (.ref r)) Q E s:=by
 have hz:Builtin.Range.rangeSize a b 1=((b - a).toNat:Int):=by rw [rangeSize_one];split<;>(first | exact au ((qL Y0 (.s I0 I1) (qN (.L (.s I0 I1) (.c Y0)) [1]):Fr [])) ((qK Y0 (.s I1 I0) (qN (.L (.c Y0) (.s I1 I0)) [0,1]) (qN (.L (.c Y0) (.s I1 I0)) [0,1,0,1]):Fr [cK I0 I1]) (by assumption)) | exact au (vM) ((qK Y0 (.s I0 I1) (qN (.L (.c Y0) J0) [0,1,0,1]) (qN (.L (.c Y0) J0) [0,1]):Fr [.L I0 I1]) (Ab.mp (by assumption))))
 refine wpAny_pyIter_range hr (small_one ha ha' hb hb') ?_
 have K:=om (target:=.Name y p) (Walks.range (prog:=W.prog) (w:=W.w) (A:=A) hh s.heap.objs.size a 1 (b - a).toNat) λi v s Q E st q=>fU (a:=()) (by rfl) q
 refine hQ _ g _ _ _ _ (Ext.pushHid k _) (Turns.ofK (g₀:=g) (own:=[s.heap.objs.size]) (ix K) (λs Q E st q=>wpAny_pyIter_rangeiter st q) (fu a (b - a).toNat) (by simp [fu]) (λb hb=>hb) (λb hb=>.inl hb) (λi h st b hb=>?_) (λi v h st b hb=>?_) λi v g' h le hp=>?_)
  ⟨?_,Le.refl g,λb hb=>?_⟩ λb o hb=>?_
 .rw [rF.mp hb];exact ⟨_,st,rfl⟩
 .rw [rF.mp hb];exact ⟨_,st.2.2,rfl⟩
 .apply PT (hp);intro hi t hq0;subst hq0
  refine ⟨.int (a + i),by simp [fu,hi],.ofRep ?_⟩
  rw [pK]
  exact .int _ _
 .show IsRangeIter _ _ _ _ _
  rw [hz]
  simpa using Heap.get?_push_size _ rfl
 .rw [rF.mp hb];exact k.fresh (ae _)
 .rw [rF.mp hb];exact bf (ae _) o
theorem wM {n:Int}(hh:A.handled=none)(hf:aQ W A env ρ (.Name x p) (.ty "range"))(he:∀y q,e≠.Starred y q)(h:aQ W A env ρ e (.int n))(hb:-(2 ^ 62)<=n)(hb':n < 2 ^ 62):
  dS W A env ρ (.Name y p') (.Call (.Name x p) [e] [] pos) (fu 0 n.toNat):=λg s F k Q E hQ=>
 dF hf (.cons he h .nil) .nil (fF _) F k λg2 s2 vf vs kvs x2 rf rs hkv _=>by
  apply rs.elim1;intro v rv
  obtain rfl:=rf.inv;obtain ⟨tn,rfl⟩:=rv.inv
  apply jQ hkv
  refine call_range_1 ?_
  have x3:=Ext.tk x2.ok (n:=s2.toks + 1 + 1) (vP)
  have x4:=x3.trans (Ext.pushHid x3.ok {cls:=.type "range",data:=.fields #[.int 0 s2.toks,.int n tn,.int 1 (s2.toks + 1)] })
  refine uY (y:=y) (p:=p') hh x4.ok (IsRange.new _ 0 n 1 s2.toks _ (s2.toks + 1)) (by decide) (by decide) hb hb' λit g' s' B St Md x5 T st hB=>hQ it g' s' B St Md (x2.trans (x4.trans x5)) ?_ st λb o hb=>(x2.trans x4).before (λo=>hB b o hb) o
  rw [tN] at T
  exact T
theorem oL {e':Expr}{a n:Int}(hh:A.handled=none)(hf:aQ W A env ρ (.Name x p) (.ty "range"))(he:∀y q,e≠.Starred y q)(h:aQ W A env ρ e (.int a))(he':∀y q,e'≠.Starred y q)(h':aQ W A env ρ e' (.int n))(ha:-(2 ^ 62)<=a)(ha':a < 2 ^ 62)(hb:-(2 ^ 62)<=n)(hb':n < 2 ^ 62):dS W A env ρ (.Name y p') (.Call (.Name x p) [e,e'] [] pos) (fu a (n - a).toNat):=λg s F k Q E hQ=>
 dF hf (.cons he h (.cons he' h' .nil)) .nil (fF _) F k λg2 s2 vf vs kvs x2 rf rs hkv _=>by
  apply rs.elim2;intro v u rv ru
  obtain rfl:=rf.inv;obtain ⟨ta,rfl⟩:=rv.inv;obtain ⟨tn,rfl⟩:=ru.inv
  apply jQ hkv
  refine call_range_2 ?_
  have x3:=Ext.tk x2.ok (n:=s2.toks + 1) ((qN (.l Y0 (.a Y0 J1)) []:di []))
  have x4:=x3.trans (Ext.pushHid x3.ok {cls:=.type "range",data:=.fields #[.int a ta,.int n tn,.int 1 s2.toks] })
  exact uY (y:=y) (p:=p') hh x4.ok (IsRange.new _ a n 1 _ _ s2.toks) ha ha' hb hb' λit g' s' B St Md x5 T st hB=>hQ it g' s' B St Md (x2.trans (x4.trans x5)) T st λb o hb=>(x2.trans x4).before (λo=>hB b o hb) o
theorem tG (hh:A.handled=none)(hf:aQ W A env ρ (.Name x p) (.ty "reversed"))(he:∀y q,e≠.Starred y q)(h:aQ W A env ρ e (.list ds)):
  dS W A env ρ (.Name y p') (.Call (.Name x p) [e] [] pos) ds.reverse:=λg s F k Q E hQ=>
 dF hf (.cons he h .nil) .nil (fF _) F k λg2 s2 vf vs kvs x2 rf rs hkv _=>by
  apply rs.elim1;intro v rv
  obtain rfl:=rf.inv
  apply jQ hkv
  apply aV (rv.inv_list);intro a items n hq0 h1 h4;subst hq0
  have hs:=x2.ok.sub _ _ h1
  have hl:s2.heap.IsList a items:=⟨_,hs,rfl,n,rfl⟩
  have hne:a≠s2.heap.objs.size:=bG (aF hs)
  refine call_reversed_list hl ?_
  have hit:(s2.heap.push (revObj a ((items.size:Int) - 1))).IsRevIter s2.heap.objs.size a ((items.size:Int) - 1):=⟨_,Heap.get?_push_size _ rfl,rfl,rfl⟩
  have x3:=Ext.pushHid x2.ok (revObj a ((items.size:Int) - 1))
  have K:=om (target:=.Name y p') (Walks.listRev (prog:=W.prog) (w:=W.w) (A:=A) hh s2.heap.objs.size a hne items) λi v s Q E st q=>fU (a:=()) (by rfl) q
  have hlen:items.size=ds.length:=by rw [<-h4.length,aE]
  refine wpAny_pyIter_revIter hit (hQ _ g2 _ _ _ _ (x2.trans x3) (Turns.ofK (g₀:=g2) (own:=[s2.heap.objs.size]) (ix K) (λs Q E st q=>wpAny_pyIter_revIter st.2.1 q) ds.reverse (by rw [dO,hlen]) (λb hb=>hb) (λb hb=>?_) (λi h st b hb=>?_) (λi v h st b hb=>?_) λi v g' h le hp=>?_)
   ⟨⟨cq _,by simpa using hit,hl.push _⟩,Le.refl _,λb hb=>?_⟩ λb o hb=>?_)
  .rcases List.mem_cons.mp hb with rfl | hb
   .exact .inl (rF.mpr rfl)
   .exact .inr ⟨_,(rF.mp hb)▸h1⟩
  .rw [rF.mp hb]
   have hn0:=st.2.1;obtain ⟨o,h1,h2,h3⟩:=hn0
   exact ⟨o,h1,by unfold bD;rw [h2]⟩
  .rw [rF.mp hb]
   have hn0:=st.2.2.2.1;obtain ⟨o,h1,h2,h3⟩:=hn0
   exact ⟨o,h1,by unfold bD;rw [h2]⟩
  .have hx0:=hp;have hi:=hx0.1;have hp:=hx0.2
   have hp':items[items.size - 1 - i]? =some v:=hp
   apply aA (h4.getV (i:=items.size - 1 - i) (v:=v) (by simpa using hp'));intro d hd rd
   refine ⟨d,?_,.ofRep (rd.mono le)⟩
   rw [List.getElem?_reverse ((qN (aR Y2 Y1) [1,0,1]:dL [.e Y0 Y1,aR Y2 Y0]) hlen hx0.1),<-hlen]
   exact hd
  .rw [rF.mp hb];exact x2.ok.fresh (ae _)
  .rw [rF.mp hb];exact x2.before (bf (ae _)) o
variable {i:Nat}{items:Array Value}
theorem fY {it t:Addr}{x:Value}(hit:s.heap.IsTupleIter it t i)(ht:s.heap.IsTuple t items)(hx:items[i]? =some x)(hQ:∀h',h'.IsTupleIter it t (i + 1)->tw it s.heap h'->Q x {s with heap:=h' }):
  wpAny (model prog w) A (aU (.ref it)) Q E s:=by
 apply bT (id hit);intro o ho hc hd
 apply zF (ht);intro ol hol _ nl hdl
 unfold aU
 refine aa (wpAny_callSpecial?_slot (name:=cY "__next__") hit.typeIs gI
  (fK gI hit.typeIs Ak ?_ (Ad _)))
 show wpAny _ _ (field (.ref it) 0 >>= _) _ _ s
 refine aa (bC ho hd (x:=.ref t) rfl ?_)
 show wpAny _ _ (if (dT t==ef)=true then _ else _) _ _ s
 rw [if_neg (show ¬((dT t==ef)=true) from ag)]
 show wpAny _ _ (field (.ref it) 1 >>= _) _ _ s
 refine aa (bC ho hd (x:=.int i 0) rfl ?_)
 show wpAny _ _ (seqItems? (.ref t) >>= _) _ _ s
 refine aa (ej hol hdl ?_)
 simp only [aB,hx]
 refine aa (jm ho hd (by simp) (aj ⟨x,rfl,aj (hQ _ ?_ (fV ..))⟩))
 exact ⟨_,Heap.get?_update_self _ ho (jk (eG hd _)),(lD ..).trans hc,by
  rw [eG hd];simp [rawInt]⟩
theorem ow {it t:Addr}(hh:A.handled=none)(hit:s.heap.IsTupleIter it t i)(ht:s.heap.IsTuple t items)(hx:items[i]? =none)(hE:∀h' e,jx it s.heap h'->(∃o,h'.get? e=some o/\o.cls=.type "StopIteration")->E (.ref e) {s with heap:=h' }):
  wpAny (model prog w) A (aU (.ref it)) Q E s:=by
 apply bT (id hit);intro o ho hc hd
 apply zF (ht);intro ol hol _ nl hdl
 unfold aU
 refine aa (wpAny_callSpecial?_slot (name:=cY "__next__") hit.typeIs gI
  (fK gI hit.typeIs Ak ?_ (Ad _)))
 show wpAny _ _ (field (.ref it) 0 >>= _) _ _ s
 refine aa (bC ho hd (x:=.ref t) rfl ?_)
 show wpAny _ _ (if (dT t==ef)=true then _ else _) _ _ s
 rw [if_neg (show ¬((dT t==ef)=true) from ag)]
 show wpAny _ _ (field (.ref it) 1 >>= _) _ _ s
 refine aa (bC ho hd (x:=.int i 0) rfl ?_)
 show wpAny _ _ (seqItems? (.ref t) >>= _) _ _ s
 refine aa (ej hol hdl ?_)
 simp only [aB,hx]
 refine aa (gO (aa (jm ho hd (by simp) ?_)))
 show wpAny _ _ (newExc (.type "StopIteration") [] >>= _) _ _ _
 refine aa ?_
 simp only [newExc,newTuple]
 refine aa (bB ?_ (by size_fits))
 refine aa (m:=firstArgMember _ _) (fU (a:=ef) (by first | rfl | (simp only [firstArgMember];rfl)) ?_)
 refine bB ?_ (by size_fits)
 simp only [raiseNew]
 refine aa (tT ?_)
 first | rw [show A.in1.handled=none from hh] | rw [hh]
 refine aa (aj (Ae ?_))
 exact hE _ _ (((fV ..).extBut.push _).push _) ⟨_,Heap.get?_push_size _ rfl,rfl⟩
theorem uO (hh:A.handled=none)(it l:Addr)(hli:l≠it)(items:Array Value):
  Draws prog w A it [it,l] items.size (λi v=>items[i]? =some v) (λi h=>h.IsTupleIter it l i/\h.IsTuple l items) where
 live:=λ_ _ zq0=>Ag zq0 λzn0 _=>let ⟨o,ho,_⟩:=zn0;⟨o,ho⟩
 frame:=λ_ _ _ st hk=>⟨st.1.at λo e=>hk it (by simp) o e,st.2.at λo e=>hk l (by simp) o e⟩
 item:=λi s Q E hi st hQ=>by
  refine fY st.1 st.2 (x:=items[i]) (by simp [hi]) λh' hit' hs'=>?_
  exact hQ _ h' s.toks (by simp [hi]) ⟨hit',st.2.extBut hs'.extBut hli⟩ hs'
 done:=λs Q E st hE=>ow hh st.1 st.2 (by simp) hE
theorem k9 (l:Addr)(items:Array Value)(n:Nat):
  Meets (Builtin.«enumerate.__new__» ⟨[.type "enumerate",.ref l],[]⟩) (λ_ R s=>s.heap.get? l=some {cls:=.type "tuple",dict:=none,data:=.seq items n,slots:=#[] }/\
   R (.ok (.ret (.ref (s.heap.push {cls:=.type "tuple_iterator",data:=.fields #[.ref l,.int 0 0] }).objs.size)))
    {s with heap:=(s.heap.push {cls:=.type "tuple_iterator",data:=.fields #[.ref l,.int 0 0] }).push {cls:=.type "enumerate",data:=.fields #[.none,.bool false,.ref s.heap.objs.size,rawInt 0,.none,.none] } }):=
 .of_wp λprog w A R s h=>by
  obtain ⟨hp,g,d,tk,os⟩:=s;have hx0:=h;have hl:=hx0.1;have h:=hx0.2
  have hsub:=sub_enumerate
  have hL:Heap.IsTuple (Shared.heap ⟨hp,g,d,tk,os⟩) l items:=⟨_,hl,rfl,n,rfl⟩
  wp_walk using gA hl
  refine wpAny_stack_any λst=>aj ?_
  split
  .rename_i c _ _ _ _ _
   cases (c==dv "enumerate")
   .wp_walk using gA hl,iK hL
    exact ⟨_,rfl,h⟩
   .wp_walk using gA hl,iK hL
    exact ⟨_,rfl,h⟩
  .wp_walk using gA hl,iK hL
   exact ⟨_,rfl,h⟩
theorem la {l:Addr}(hl:s.heap.get? l=some {cls:=.type "tuple",dict:=none,data:=.seq items n,slots:=#[] })(h:∀h',IsEnum h' (s.heap.objs.size + 1) s.heap.objs.size 0 .none->h'.IsTupleIter s.heap.objs.size l 0->h'.objs.size=s.heap.objs.size + 2->
   (∀b o,s.heap.get? b=some o->h'.get? b=some o)->Q (.ref (s.heap.objs.size + 1)) {s with heap:=h' }):
  wpAny (model prog w) A (call (.type "enumerate") [.ref l]) Q E s:=by
 refine callType_new F.called_enumerate (by decide) (F.typeCall_enumerate_1 _) (F.newCall_enumerate_1 _) (λobj=>F.args_object_init_2 obj _) F.entry_enumerate_new
  (k9 l items n) ⟨hl,?_⟩
 have hz:(s.heap.push {cls:=.type "tuple_iterator",data:=.fields #[.ref l,.int 0 0] }).objs.size=s.heap.objs.size + 1:=dJ ..
 show _/\_
 rw [hz]
 have he:IsEnum ((s.heap.push {cls:=.type "tuple_iterator",data:=.fields #[.ref l,.int 0 0] }).push
   {cls:=.type "enumerate",data:=.fields #[.none,.bool false,.ref s.heap.objs.size,rawInt 0,.none,.none] }) (s.heap.objs.size + 1) s.heap.objs.size 0 .none:=by
  have:=Heap.get?_push_size (s.heap.push {cls:=.type "tuple_iterator",data:=.fields #[.ref l,.int 0 0] })
   (o:={cls:=.type "enumerate",data:=.fields #[.none,.bool false,.ref s.heap.objs.size,rawInt 0,.none,.none] }) rfl
  rw [hz] at this;exact this
 refine ⟨⟨_,he,rfl⟩,h _ he ⟨_,Heap.get?_push_of_some _ (Heap.get?_push_size _ rfl),rfl,rfl⟩ (by rw [dJ,hz]) λb o x=>Heap.get?_push_of_some _ (Heap.get?_push_of_some _ x)⟩
theorem dG (h:o.cls=.type T):bD o=false:=by unfold bD;rw [h]
noncomputable def ju:Int->List D->List D
 | _,[]=>[]
 | i,d :: r=>.tup [.int i,d] :: ju (i + 1) r
theorem ig:∀(i:Int) (ds:List D),(ju i ds).length=ds.length
 | _,[]=>rfl
 | i,d :: r=>by simp [ju,ig (i + 1) r]
theorem su:∀(ds:List D) (a:Int) (i:Nat) {d:D},ds[i]? =some d->(ju a ds)[i]? =some (.tup [.int (a + i),d])
 | [],_,_,_,e=>by simp at e
 | d :: r,a,0,_,e=>by simp at e;subst e;simp [ju]
 | d :: r,a,i + 1,_,e=>by
  have:=su r (a + 1) i (by simpa using e)
  simp only [ju,List.getElem?_cons_succ,this]
  congr 4
  push_cast
  exact au ((qN (.L (.a (.a I0 J1) (.c Y0)) (.a I0 (.a (.c Y0) J1))) []:oY [])) ((qN (.L (.a I0 (.a (.c Y0) J1)) (.a (.a I0 J1) (.c Y0))) []:oY []))
variable {elts:List Expr}
theorem qn (hh:A.handled=none)(hf:aQ W A env ρ (.Name x p) (.ty "enumerate"))(he:∀y q,e≠.Starred y q)(h:aQ W A env ρ e (.list ds)):
  dS W A env ρ (.Tuple elts n p') (.Call (.Name x p) [e] [] pos) (ju 0 ds):=λg s F k Q E hQ=>
 dF hf (.cons he h .nil) .nil (fF _) F k λg2 s2 vf vs kvs x2 rf rs hkv _=>by
  apply rs.elim1;intro v rv
  obtain rfl:=rf.inv
  apply jQ hkv
  apply aV (rv.inv_list);intro a items n' hq0 h1 h4;subst hq0
  have hs:=x2.ok.sub _ _ h1
  have hl:s2.heap.IsList a items:=⟨_,hs,rfl,n',rfl⟩
  have hlt:=aF hs
  refine call_enumerate_list hl λh' hE hI hsz hk=>?_
  have x3:=Ext.kept x2.ok hk (ae _)
  have K:=ix (ud (elts:=elts) (k:=n) (pos:=p') (WalksT.enumerate (prog:=W.prog) (w:=W.w) (A:=A) hh (s2.heap.objs.size + 1) s2.heap.objs.size a (wk _) (ktu_ne 1 hlt) (bG hlt) items).toU)
  refine mI hE (hQ _ g2 _ _ _ _ (x2.trans x3) (Turns.ofK (g₀:=g2) (own:=[s2.heap.objs.size + 1,s2.heap.objs.size]) K (λs Q E st q=>by have hn0:=st.1;obtain ⟨o,he⟩:=hn0;exact mI he q)
   (ju 0 ds) (by rw [ig,<-h4.length,aE]) (λb hb=>hb) (λb hb=>?_) (λi h st b hb=>?_) (λi v h st b hb=>?_) λi v g' h le hp=>?_)
   ⟨⟨⟨_,hE⟩,hI,hl.at λo e=>hk _ o e⟩,Le.refl _,λb hb=>?_⟩ λb o hb=>?_)
  .rcases List.mem_cons.mp hb with rfl | hb
   .exact .inl (by simp)
   .rcases List.mem_cons.mp hb with rfl | hb
    .exact .inl (by simp)
    .exact .inr ⟨_,(rF.mp hb)▸h1⟩
  .have hn0:=st.1;have hn1:=st.2.1;obtain ⟨o,he⟩:=hn0;obtain ⟨o',h1,h2,_⟩:=hn1
   rcases List.mem_cons.mp hb with rfl | hb
   .exact ⟨_,he,rfl⟩
   .rw [rF.mp hb];exact ⟨o',h1,dG h2⟩
  .apply vH (st);intro _ T vals _ _ _ hn0 hn1 _;obtain ⟨o,he⟩:=hn0;obtain ⟨o',h1,h2,_⟩:=hn1
   rcases List.mem_cons.mp hb with rfl | hb
   .exact ⟨_,he,rfl⟩
   .rw [rF.mp hb];exact ⟨o',h1,dG h2⟩
  .apply qO (hp);intro hi T vals hq0 hn1 hT;subst hq0;obtain ⟨t,y,hy,rfl⟩:=hn1
   apply aA (h4.getV (i:=i) (v:=y) (by simpa using hy));intro d hd rd
   refine ⟨_,su ds 0 i hd,.tup hT ?_,λh=>(ag h).elim⟩
   rw [nF]
   exact .cons (.int _ _) (.cons (rd.mono le) .nil)
  .rcases List.mem_cons.mp hb with rfl | hb
   .exact x2.ok.fresh (aY _)
   .rw [rF.mp hb];exact x2.ok.fresh (ae _)
  .rcases List.mem_cons.mp hb with rfl | hb
   .exact x2.before (bf (aY _)) o
   .rw [rF.mp hb];exact x2.before (bf (ae _)) o
theorem zg (hh:A.handled=none)(hf:aQ W A env ρ (.Name x p) (.ty "enumerate"))(he:∀y q,e≠.Starred y q)(h:aQ W A env ρ e (.tup ds)):
  dS W A env ρ (.Tuple elts n p') (.Call (.Name x p) [e] [] pos) (ju 0 ds):=λg s F k Q E hQ=>
 dF hf (.cons he h .nil) .nil (fF _) F k λg2 s2 vf vs kvs x2 rf rs hkv _=>by
  apply rs.elim1;intro v rv
  obtain rfl:=rf.inv
  apply jQ hkv
  apply aV (rv.inv_tup);intro a items n' hq0 h1 h4;subst hq0
  have hs:=x2.ok.sub _ _ h1
  have hl:s2.heap.IsTuple a items:=⟨_,hs,rfl,n',rfl⟩
  have hlt:=aF hs
  refine la hs λh' hE hI hsz hk=>?_
  have x3:=Ext.kept x2.ok hk (ae _)
  have hne1:s2.heap.objs.size + 1≠s2.heap.objs.size:=wk _
  have hne2:a≠s2.heap.objs.size + 1:=ktu_ne 1 hlt
  have K:=ix (ud (elts:=elts) (k:=n) (pos:=p') (WalksT.enumerateD (uO (prog:=W.prog) (w:=W.w) (A:=A.in1) hh s2.heap.objs.size a (bG hlt) items) (s2.heap.objs.size + 1) hne1 (by simp [fy hne2]) (by simp)).toU)
  refine mI hE (hQ _ g2 _ _ _ _ (x2.trans x3) (Turns.ofK (g₀:=g2) (own:=[s2.heap.objs.size + 1,s2.heap.objs.size]) K (λs Q E st q=>by have hn0:=st.1;obtain ⟨o,he⟩:=hn0;exact mI he q)
   (ju 0 ds) (by rw [ig,<-h4.length,aE]) (λb hb=>hb) (λb hb=>?_) (λi h st b hb=>?_) (λi v h st b hb=>?_) λi v g' h le hp=>?_)
   ⟨⟨⟨_,hE⟩,hI,hl.at λo e=>hk _ o e⟩,Le.refl _,λb hb=>?_⟩ λb o hb=>?_)
  .rcases List.mem_cons.mp hb with rfl | hb
   .exact .inl (by simp)
   .rcases List.mem_cons.mp hb with rfl | hb
    .exact .inl (by simp)
    .exact .inr ⟨_,(rF.mp hb)▸h1⟩
  .have hn0:=st.1;have hn1:=st.2.1;obtain ⟨o,he⟩:=hn0;obtain ⟨o',h1,h2,_⟩:=hn1
   rcases List.mem_cons.mp hb with rfl | hb
   .exact ⟨_,he,rfl⟩
   .rw [rF.mp hb];exact ⟨o',h1,dG h2⟩
  .apply vH (st);intro _ T vals _ _ _ hn0 hn1 _;obtain ⟨o,he⟩:=hn0;obtain ⟨⟨o',h1,h2,_⟩,_⟩:=hn1
   rcases List.mem_cons.mp hb with rfl | hb
   .exact ⟨_,he,rfl⟩
   .rw [rF.mp hb];exact ⟨o',h1,dG h2⟩
  .apply qO (hp);intro hi T vals hq0 hn1 hT;subst hq0;obtain ⟨t,y,hy,rfl⟩:=hn1
   apply aA (h4.getV (i:=i) (v:=y) (by simpa using hy));intro d hd rd
   refine ⟨_,su ds 0 i hd,.tup hT ?_,λh=>(ag h).elim⟩
   rw [nF]
   exact .cons (.int _ _) (.cons (rd.mono le) .nil)
  .rcases List.mem_cons.mp hb with rfl | hb
   .exact x2.ok.fresh (aY _)
   .rw [rF.mp hb];exact x2.ok.fresh (ae _)
  .rcases List.mem_cons.mp hb with rfl | hb
   .exact x2.before (bf (aY _)) o
   .rw [rF.mp hb];exact x2.before (bf (ae _)) o
noncomputable def tA:List D->List D->List D
 | a :: r,b :: t=>.tup [a,b] :: tA r t
 | _,_=>[]
theorem sI:∀(as bs:List D),(tA as bs).length=min as.length bs.length
 | [],_=>by simp [tA]
 | _ :: _,[]=>by simp [tA]
 | a :: r,b :: t=>by simp [tA,sI r t]
theorem An:∀(as bs:List D) (i:Nat) {a b:D},as[i]? =some a->bs[i]? =some b->(tA as bs)[i]? =some (.tup [a,b])
 | [],_,_,_,_,e,_=>by simp at e
 | _ :: _,[],_,_,_,_,e=>by simp at e
 | a :: r,b :: t,0,_,_,e,f=>by simp at e f;subst e f;simp [tA]
 | a :: r,b :: t,i + 1,_,_,e,f=>by simpa [tA] using An r t i (by simpa using e) (by simpa using f)
theorem Db {f:Expr}{as bs:List D}(hh:A.handled=none)(hf:aQ W A env ρ (.Name x p) (.ty "zip"))(he:∀y q,e≠.Starred y q)(h:aQ W A env ρ e (.list as))(hfs:∀y q,f≠.Starred y q)(h':aQ W A env ρ f (.list bs)):
  dS W A env ρ (.Tuple elts n p') (.Call (.Name x p) [e,f] [] pos) (tA as bs):=λg s F k Q E hQ=>
 dF hf (.cons he h (.cons hfs h' .nil)) .nil (fF _) F k λg2 s2 vf vs kvs x2 rf rs hkv _=>by
  apply rs.elim2;intro v u rv ru
  obtain rfl:=rf.inv
  apply jQ hkv
  apply aV (rv.inv_list);intro a items n' hq0 h1 h4;subst hq0
  apply aV (ru.inv_list);intro b items' n'' hq0 h1' h4';subst hq0
  have hs:=x2.ok.sub _ _ h1
  have hs':=x2.ok.sub _ _ h1'
  have hl:s2.heap.IsList a items:=⟨_,hs,rfl,n',rfl⟩
  have hl':s2.heap.IsList b items':=⟨_,hs',rfl,n'',rfl⟩
  have hlt:=aF hs
  have hlt':=aF hs'
  refine call_zip_2 hl hl' λh' hz hTI hTO hi1 hi2 hsz hk=>?_
  have x3:=Ext.kept x2.ok hk (ae _)
  have Dp:ZipApart (s2.heap.objs.size + 4) (s2.heap.objs.size + 2) (s2.heap.objs.size + 3) s2.heap.objs.size (s2.heap.objs.size + 1) a b:=ktu_apart _ _ _ hlt hlt'
  have K:=ix (ud (elts:=elts) (k:=n) (pos:=p') (WalksT.zip2 (prog:=W.prog) (w:=W.w) (A:=A) hh _ _ _ _ _ _ _ Dp items items').toU)
  refine yv hz (hQ _ g2 _ _ _ _ (x2.trans x3) (Turns.ofK (g₀:=g2) (own:=[s2.heap.objs.size + 4,s2.heap.objs.size + 2,s2.heap.objs.size + 3,s2.heap.objs.size,s2.heap.objs.size + 1]) K (λs Q E st q=>yv st.1 q)
   (tA as bs) (by rw [sI,<-h4.length,<-h4'.length,aE,aE]) (λb hb=>?_) (λb hb=>?_) (λi h st b hb=>?_) (λi v h st b hb=>?_) λi v g' h le hp=>?_)
   ⟨⟨hz,hTI,⟨_,_,hTO⟩,hi1,hi2,hl.at λo e=>hk _ o e,hl'.at λo e=>hk _ o e⟩,Le.refl _,λb hb=>?_⟩ λb o hb=>?_)
  .revert b;exact dD (.head _) (dD (.tail _ (.tail _ (.head _))) (dD (.tail _ (.tail _ (.tail _ (.head _)))) (dD (.tail _ (.tail _ (.tail _ (.tail _ (.head _))))) AT)))
  .revert b;exact dD (.inl (.head _)) (dD (.inl (.tail _ (.head _))) (dD (.inl (.tail _ (.tail _ (.head _)))) (dD (.inl (.tail _ (.tail _ (.tail _ (.head _))))) (dD (.inl (.tail _ (.tail _ (.tail _ (.tail _ (.head _)))))) (dD (.inr ⟨_,h1⟩) (dD (.inr ⟨_,h1'⟩) AT))))))
  .apply aA st.2.2.2.1;intro o1 ho1 hc1;apply aA st.2.2.2.2.1;intro o2 ho2 hc2;obtain ⟨_,_,hTO⟩:=st.2.2.1
   revert b;exact dD ⟨_,st.1,rfl⟩ (dD ⟨_,st.2.1,rfl⟩ (dD ⟨_,hTO,rfl⟩ (dD ⟨_,ho1,dG hc1.1⟩ (dD ⟨_,ho2,dG hc2.1⟩ AT))))
  .apply wR (st);intro _ T vals _ _ _ hz hTI hn0 hn1 hn2 _;apply aA hn1;intro o1 ho1 hc1;apply aA hn2;intro o2 ho2 hc2;obtain ⟨_,_,hTO⟩:=hn0
   revert b;exact dD ⟨_,hz,rfl⟩ (dD ⟨_,hTI,rfl⟩ (dD ⟨_,hTO,rfl⟩ (dD ⟨_,ho1,dG hc1.1⟩ (dD ⟨_,ho2,dG hc2.1⟩ AT))))
  .apply qO (hp);intro hi T vals hq0 hn1 hT;subst hq0;obtain ⟨y,z,hy,hz,rfl⟩:=hn1
   apply aA (h4.getV (i:=i) (v:=y) (by simpa using hy));intro d hd rd
   apply aA (h4'.getV (i:=i) (v:=z) (by simpa using hz));intro d' hd' rd'
   exact ⟨_,An as bs i hd hd',.tup hT (.cons (rd.mono le) (.cons (rd'.mono le) .nil)),λh=>(ag h).elim⟩
  .revert b;exact dD (x2.ok.fresh (b9 ..)) (dD (x2.ok.fresh (b9 ..)) (dD (x2.ok.fresh (b9 ..)) (dD (x2.ok.fresh (ae _)) (dD (x2.ok.fresh (b9 ..)) AT))))
  .revert o;revert b;exact dD (x2.before (bf (b9 ..))) (dD (x2.before (bf (b9 ..))) (dD (x2.before (bf (b9 ..))) (dD (x2.before (bf (ae _))) (dD (x2.before (bf (b9 ..))) AT))))
noncomputable def Own (env:Env)(a:Addr):Prop:=a=env.locals\/∃x,env.cells.lookup x=some a
noncomputable def OwnW (env:Env)(a:Addr):Prop:=a=env.locals\/∃x,env.kindOf x=some .cell/\env.cells.lookup x=some a
theorem OwnW.own (h:OwnW env a):Own env a:=h.elim .inl λzq0=>aA zq0 λx _ e=>.inr ⟨x,e⟩
theorem dU (h:∀a,Own env a->¬M a):iv env M:=⟨h _ (.inl rfl),λx c e=>h c (.inr ⟨x,e⟩)⟩
theorem Fra.locals_ne_cell (F:Fra W g s env ρ)(hk:env.kindOf x=some .cell\/env.kindOf x=some .free)(e:env.cells.lookup x=some c):env.locals≠c:=λq=>by
 apply aA (F.loc);intro m hn0 _;obtain ⟨o,es,ep,e1,hd,_⟩:=hn0
 apply bP (F.cel x hk);intro c' cv h1 hn0 _;obtain ⟨o',e2,hd'⟩:=hn0
 rw [e] at h1;(refine eQ h1 ?_;clear h1;intro q₁;subst q₁)
 rw [q,e2] at e1;(refine eQ e1 ?_;clear e1;intro q₁;subst q₁)
 rw [hd'] at hd;cases hd
theorem Fra.locals_ne (F:Fra W g s env ρ)(e:env.cells.lookup x=some c):env.locals≠c:=λq=>by
 apply aA (F.loc);intro m hn0 _;obtain ⟨o,es,ep,e1,hd,_⟩:=hn0
 have hx0:=F.liv x c e;have hn0:=hx0.1;obtain ⟨v,o',e2,hd'⟩:=hn0
 rw [q,e2] at e1;(refine eQ e1 ?_;clear e1;intro q₁;subst q₁)
 rw [hd'] at hd;cases hd
variable {d':D}
theorem xD {r:Rho}(e:look (.bind y d r) y=some d'):d=d':=aL ((if_pos rfl).symm.trans e)
theorem tZ {r:Rho}(h:x≠y)(e:look (.bind x d r) y=some d'):look r y=some d':=(if_neg h).symm.trans e
theorem mP (F:Fra W g s env ρ)(k:Ok W g s)(hk:env.kindOf x=some .local)(r:Rep W g v d){Q:Unit->Shared->Prop}(hQ:∀s',ExtM W (·=env.locals) g s g s'->Fra W g s' env (.bind x d ρ)->Q () s'):wpAny (model W.prog W.w) A (storeName env x v) Q E s:=by
 apply aA (F.loc);intro m hn hl
 obtain ⟨o,ho⟩:=F.hidden
 refine wpAny_storeName_local hk hn (λh' hn' hs'=>?_) (by rw [F.kind];rfl)
 have keep:∀b o,b≠env.locals->s.heap.get? b=some o->h'.get? b=some o:=λb o hb e=>hs'.extBut b o hb e
 have x1:ExtM W (·=env.locals) g s g {s with heap:=h',toks:=s.toks + 1 }:=
  (ExtM.of_keep k (wr:=[env.locals]) (h':=h') (n:=s.toks + 1) (λb hb=>(rF.mp hb)▸⟨o,ho⟩) (λb o hb e=>keep b o (λq=>hb (rF.mpr q)) e) (aY _)).mono λa ha=>rF.mp ha
 refine hQ _ x1 ⟨F.kind,F.glo,F.bui,F.ncd,F.hid,⟨_,hn',λy d' e hy=>?_⟩,F.inj,λy c e=>Ag (F.liv y c e) λzn0 h3=>let ⟨v,o,h1,h2⟩:=zn0;⟨⟨v,o,keep c o (fy (F.locals_ne e)) h1,h2⟩,h3⟩,λy hy=>?_⟩
 .by_cases h:y=x
  .subst h
   have e:=xD e
   subst e
   exact ⟨v,if_pos rfl,r⟩
  .have e:=tZ (fy h) e
   apply aA (hl y d' e hy);intro u a b
   exact ⟨u,by rw [if_neg h];exact a,b⟩
 .apply bP (F.cel y hy);intro c cv h1 hn0 h3;obtain ⟨o,h2,h2'⟩:=hn0
  refine ⟨c,cv,h1,⟨o,keep c o (fy (F.locals_ne_cell hy h1)) h2,h2'⟩,λd' e=>h3 d' ?_⟩
  have hne:x≠y:=λq=>by subst q;rw [hk] at hy;rcases hy with hy | hy<;>cases hy
  exact tZ hne e
theorem CB (F:Fra W g s env ρ)(k:Ok W g s)(hz:cm ρ=false)(hk:env.kindOf x=some .cell)(r:Rep W g v d){Q:Unit->Shared->Prop}(hQ:∀s',ExtM W (λa=>env.cells.lookup x=some a) g s g s'->Fra W g s' env (.bind x d ρ)->Q () s'):wpAny (model W.prog W.w) A (storeName env x v) Q E s:=by
 apply bP (F.cel x (.inl hk));intro c cv h1 hn0 h3;obtain ⟨o,h2,h2'⟩:=hn0
 refine wpAny_storeName_cell F.kind hk h1 ⟨o,h2,h2'⟩ λh' hc' hs'=>?_
 have hidden:=λc e=>(F.liv x c e).2 hz
 have keep:∀b o,b≠c->s.heap.get? b=some o->h'.get? b=some o:=λb o hb e=>hs'.extBut b o hb e
 have x1:ExtM W (λa=>env.cells.lookup x=some a) g s g {s with heap:=h' }:=
  (ExtM.of_keep k (wr:=[c]) (h':=h') (n:=s.toks) (λb hb=>(rF.mp hb)▸⟨o,h2,du h2',hidden c h1⟩) (λb o hb e=>keep b o (λq=>hb (rF.mpr q)) e) (ae _)).mono λa ha=>by rw [rF.mp ha];exact h1
 refine hQ _ x1 ⟨F.kind,F.glo,F.bui,F.ncd,F.hid,?_,F.inj,λy c' e=>?_,λy hy=>?_⟩
 .apply aA (F.loc);intro m hn0 hl;obtain ⟨o',es,ep,e1,hd,e3⟩:=hn0
  refine ⟨m,⟨o',es,ep,keep _ o' (F.locals_ne_cell (.inl hk) h1) e1,hd,e3⟩,λy d' e hy=>hl y d' ?_ hy⟩
  have hne:x≠y:=λq=>by subst q;rw [hk] at hy;cases hy
  exact tZ hne e
 .have hx0:=F.liv y c' e;have hn0:=hx0.1;have a3:=hx0.2;obtain ⟨u,o',a1,a2⟩:=hn0
  by_cases h:c'=c
  .subst h;exact ⟨⟨_,hc'⟩,a3⟩
  .exact ⟨⟨u,o',keep c' o' h a1,a2⟩,a3⟩
 .by_cases h:y=x
  .subst h
   refine ⟨c,some v,h1,hc',λd' e=>?_⟩
   have e:=xD e
   subst e
   exact ⟨v,rfl,r⟩
  .apply bP (F.cel y hy);intro c' cv' h1' hn0 h3';obtain ⟨o',h2'',h2'''⟩:=hn0
   refine ⟨c',cv',h1',⟨o',keep c' o' (λq=>h (F.inj y x c (q▸h1') h1)) h2'',h2'''⟩,λd' e=>h3' d' ?_⟩
   exact tZ (fy h) e
noncomputable def wo (env:Env)(M:Addr->Prop)(z:Bool)(x:Str):Prop:=(env.kindOf x=some .local/\M env.locals)\/(env.kindOf x=some .cell/\z=false/\∀c,env.cells.lookup x=some c->M c)
theorem gi (F:Fra W g s env ρ)(k:Ok W g s)(hk:wo env M (cm ρ) x)(r:Rep W g v d){Q:Unit->Shared->Prop}(hQ:∀s',ExtM W M g s g s'->Fra W g s' env (.bind x d ρ)->Q () s'):wpAny (model W.prog W.w) A (storeName env x v) Q E s:=by
 rcases hk with ⟨h1,h2⟩ | ⟨h1,hz,h2⟩
 .exact mP F k h1 r λs' x1 F1=>hQ s' (x1.mono λa e=>e▸h2) F1
 .exact CB F k hz h1 r λs' x1 F1=>hQ s' (x1.mono λa e=>h2 a e) F1
noncomputable def Ia:Expr->Option Str
 | .Name x _=>some x
 | _=>none
noncomputable def Ol:Expr->Option (List Expr)
 | .Tuple es _ _=>some es
 | _=>none
noncomputable def O9:D->Option (List D)
 | .tup ds=>some ds
 | _=>none
theorem uN (h:Ia e=some x):∃p,e=.Name x p:=by
 cases e with
 | Name y p=>(refine eQ h ?_;clear h;intro q₁;subst q₁);exact ⟨p,rfl⟩
 | _=>exact nomatch h
theorem Ef (h:Ol e=some es):∃n p,e=.Tuple es n p:=by
 cases e with
 | Tuple y n p=>(refine eQ h ?_;clear h;intro q₁;subst q₁);exact ⟨n,p,rfl⟩
 | _=>exact nomatch h
theorem Lw (h:O9 d=some ds):d=.tup ds:=by
 cases d with
 | tup y=>(refine eQ h ?_;clear h;intro q₁;subst q₁);rfl
 | _=>exact nomatch h
noncomputable def sD:List Expr->List D->Rho->Option Rho
 | [],ds,ρ=>if ds.isEmpty then some ρ else none
 | e :: es,ds,ρ=>match ds with
  | []=>none
  | d :: ds=>(Ia e).bind λx=>sD es ds (.bind x d ρ)
noncomputable def Ce (e:Expr)(d:D)(ρ:Rho):Option Rho:=((Ia e).map λx=>.bind x d ρ).or ((Ol e).bind λes=>(O9 d).bind λds=>sD es ds ρ)
noncomputable def ia:Expr->List Str
 | .Name x _=>[x]
 | .Tuple es _ _=>es.filterMap fun | .Name x _=>some x | _=>none
 | _=>[]
variable {ρ':Rho}
theorem rr (h:sD (e :: es) ds ρ=some ρ'):∃x p d r,e=.Name x p/\ds=d :: r/\sD es r (.bind x d ρ)=some ρ':=by
 cases ds with
 | nil=>exact no h
 | cons d r=>
  refine cR h λx hx h=>?_
  obtain ⟨p,rfl⟩:=uN hx
  exact ⟨x,p,d,r,rfl,rfl,h⟩
theorem jA (h:sD [] ds ρ=some ρ'):ds=[]/\ρ'=ρ:=Cd h λh1 h2=>⟨my.mp h1,h2.symm⟩
theorem DV:∀{es:List Expr} {ds:List D} {ρ ρ':Rho},sD es ds ρ=some ρ'->(assignEach es env).length=ds.length/\(assignEach es env).findIdx? (·.1)=none:=by
 intro es
 induction es with
 | nil=>intro ds ρ ρ' e;have hx0:=jA e;have hq0:=hx0.1;subst hq0;exact ⟨rfl,rfl⟩
 | cons e0 es ih=>
  intro ds ρ ρ' e
  apply ii (rr e);intro x p d r hq0 hq1 h;subst hq0;subst hq1
  have ih:=ih h
  have e1:assignEach (.Name x p :: es) env=(false,assign (.Name x p) env) :: assignEach es env:=rfl
  rw [e1]
  exact ⟨by simp [ih.1],by simp [List.findIdx?_cons,ih.2]⟩
theorem LJ:∀{es:List Expr} {ds:List D} {vs:List Value} {ρ ρ':Rho} {g:View} {s:Shared},sD es ds ρ=some ρ'->RepAll W g vs ds->Fra W g s env ρ->Ok W g s->(∀x p,Expr.Name x p∈es->wo env M (cm ρ) x)->
  ∀(Q:Unit->Shared->Prop) (E:Value->Shared->Prop),(∀s',ExtM W M g s g s'->Fra W g s' env ρ'->Q () s')->wpAny (model W.prog W.w) A (assignInOrder ((assignEach es env).map (·.2)) vs) Q E s:=by
 intro es
 induction es with
 | nil=>
  intro ds vs ρ ρ' g s e r F k hk Q E hQ
  have hx0:=jA e;have hq0:=hx0.1;have hq1:=hx0.2;subst hq0;subst hq1
  exact aj (hQ s (ExtM.refl k) F)
 | cons e0 es ih=>
  intro ds vs ρ ρ' g s e r F k hk Q E hQ
  apply ii (rr e);intro x p d ds hq0 hq1 h;subst hq0;subst hq1
  cases r with | cons r rs=>
  rename_i v vs
  show wpAny _ _ (do holding vs (assign (.Name x p) env v);assignInOrder ((assignEach es env).map (·.2)) vs) Q E s
  refine aa (bK (wC (gi F k (hk x p (.head _)) r λs1 x1 F1=>?_)))
  exact ih h rs F1 x1.ok (λy q h=>hk y q (.tail _ h)) Q E λs2 x2 F2=>hQ s2 (x1.trans x2) F2
theorem u7 (k:Ok W g s)(r:ItemIs W g s.heap v (.tup ds)):∃T vals,v=.ref T/\s.heap.IsTuple T vals/\RepAll W g vals.toList ds:=by
 cases r with
 | rep r=>
  apply aV (r.inv_tup);intro a vs n hq0 h1 h4;subst hq0
  exact ⟨a,vs,rfl,⟨_,k.sub _ _ h1,rfl,n,rfl⟩,h4⟩
 | tup h1 h2=>exact ⟨_,_,rfl,h1,h2⟩
theorem DW (hh:A.handled=none)(e:Ce t d ρ=some ρ')(r:ItemFor W t g s.heap v d)(F:Fra W g s env ρ)(k:Ok W g s)(hk:∀x∈ia t,wo env M (cm ρ) x){Q:Unit->Shared->Prop}(hQ:∀s',ExtM W M g s g s'->Fra W g s' env ρ'->Q () s'):wpAny (model W.prog W.w) A (assign t env v) Q E s:=by
 refine KT e (λe=>kg e λx hx q=>?_) λe1=>cR e1 λes he e2=>cR e2 λds hd e3=>?_
 .obtain ⟨p,rfl⟩:=uN hx
  subst q
  exact wC (gi F k (hk _ (.head _)) (r.2 rfl) hQ)
 .apply tJ (Ef he);intro n p hq0;subst hq0
  rw [Lw hd] at r
  apply bP (u7 k r.1);intro T vals hq0 hT hv;subst hq0
  have hx0:=DV (env:=env) e3;have s1:=hx0.1;have s2:=hx0.2
  have hl:vals.size=ds.length:=by rw [<-hv.length,aE]
  refine wpAny_assign_Tuple hh hT (s1.trans hl.symm) s2 λh' hx=>?_
  have x1:Ext W g s g {s with heap:=h',toks:=s.toks }:=Ext.kept k (λb o eb=>hx b o (bG (aF eb)) eb) (ae _)
  exact LJ e3 hv (F.ext x1) x1.ok (λx p h=>hk x (List.mem_filterMap.mpr ⟨_,h,rfl⟩)) _ _ λs2 x2 F2=>hQ s2 (x1.toM.trans x2) F2
theorem ExtM.drop (x:ExtM W M g s g' s')(h:∀a o,M a->¬N a->s.heap.get? a=some o->bD o=true):ExtM W N g s g' s':=
 ⟨x.le,x.ok,λa o n e t=>x.keep a o (λm=>by rw [h a o m n e] at t;exact (ag t.symm).elim) e t,λa o n e t=>x.new a o (λm=>by rw [h a o m n e] at t;exact (ag t.symm).elim) e t,x.same⟩
theorem Fra.forget (F:Fra W g s env ρ')(h:LeR ρ ρ'):Fra W g s env ρ where
 kind:=F.kind
 glo:=F.glo
 bui:=F.bui
 ncd:=F.ncd
 hid:=F.hid
 loc:=aA F.loc λm a b=>⟨m,a,λy d e=>b y d (h.look y d e)⟩
 inj:=F.inj
 liv:=λx c e=>Ag (F.liv x c e) λa b=>⟨a,λhz=>b (h.fro hz)⟩
 cel:=λy hy=>bP (F.cel y hy) λc cv h1 h2 h3=>⟨c,cv,h1,h2,λd e=>h3 d (h.look y d e)⟩
noncomputable def dR:Expr->Bool
 | .Set ..=>false
 | _=>true
theorem gE (h:dR e=true):∀x,foldedSetIterable e env x=pure x:=by
 cases e<;>first | (intro _;rfl) | exact (ag h).elim
noncomputable def Ed (W:Wd)(A:Around)(env:Env)(ρ:Rho):List Expr->Bool->Prop
 | [],b=>b=true
 | c :: cs,b=>∃b1,gv W A env ρ c b1/\if b1 then Ed W A env ρ cs b else b=false
noncomputable def mo (W:Wd)(A:Around)(env:Env)(P:Rho->List D->Prop)(t:Expr)(ifs:List Expr)(ρ:Rho)(ds:List D)(os:List (List D)):Prop:=
 os.length=ds.length/\∀(k:Nat) (d:D) (o:List D),ds[k]? =some d->os[k]? =some o->∃ρ' b,Ce t d ρ=some ρ'/\Ed W A env ρ' ifs b/\(b=true->P ρ' o)/\(b=false->o=[])
noncomputable def gN (env:Env)(ρ:Rho)(t:Expr):Prop:=∀x∈ia t,env.kindOf x=some .local/\look ρ x=none
noncomputable def i6 (W:Wd)(A:Around)(env:Env)(elt:Expr):List Comprehension->Rho->List D->Prop
 | [],ρ,outs=>∃d,aQ W A env ρ elt d/\outs=[d]
 | c :: gs,ρ,outs=>∃ds os,c.is_async=0/\dR c.iter=true/\gN env ρ c.target/\dS W A env ρ c.target c.iter ds/\mo W A env (i6 W A env elt gs) c.target c.ifs ρ ds os/\outs=os.flatten
theorem GQ:∀{es:List Expr} {ds:List D} {ρ ρ':Rho},sD es ds ρ=some ρ'->∀y,(∀x p,Expr.Name x p∈es->x≠y)->look ρ' y=look ρ y:=by
 intro es
 induction es with
 | nil=>intro ds ρ ρ' e y _;have hx0:=jA e;have hq0:=hx0.2;subst hq0;rfl
 | cons e0 es ih=>
  intro ds ρ ρ' e y hx
  apply ii (rr e);intro x p d' r hq0 hq1 h';subst hq0;subst hq1
  rw [ih h' y λx p h=>hx x p (.tail _ h)]
  simp only [look,if_neg (hx x p (.head _))]
theorem GR:∀{es:List Expr} {ds:List D} {ρ ρ':Rho},sD es ds ρ=some ρ'->cm ρ'=cm ρ:=by
 intro es
 induction es with
 | nil=>intro ds ρ ρ' e;have hx0:=jA e;have hq0:=hx0.2;subst hq0;rfl
 | cons e0 es ih=>
  intro ds ρ ρ' e
  apply ii (rr e);intro x p d' r hq0 hq1 h';subst hq0;subst hq1
  have q:=ih h'
  exact q
theorem Ko (e:Ce t d ρ=some ρ'):cm ρ'=cm ρ:=by
 exact KT e (λe=>kg e λx _ q=>q▸rfl) λe=>cR e λes _ e=>cR e λds _ e=>GR e
theorem Km (e:Ce t d ρ=some ρ')(hx:∀x∈ia t,look ρ x=none):∀y d,look ρ y=some d->look ρ' y=some d:=by
 intro y d' h
 refine KT e (λe=>kg e λx hn q=>?_) λe1=>cR e1 λes he e2=>cR e2 λds hd e3=>?_
 .obtain ⟨p,rfl⟩:=uN hn
  have hne:x≠y:=λq=>by rw [<-q,hx x (.head _)] at h;exact (aK h).elim
  subst q
  exact (if_neg hne).trans h
 .apply tJ (Ef he);intro n p hq0;subst hq0
  rw [GQ e3 y λx p hm q=>by rw [<-q,hx x (List.mem_filterMap.mpr ⟨_,hm,rfl⟩)] at h;exact (aK h).elim]
  exact h
theorem GA:∀{ifs:List Expr} {b:Bool},Ed W A env ρ ifs b->∀{g s},Fra W g s env ρ->Ok W g s->∀(Q:Bool->Shared->Prop) (E:Value->Shared->Prop),(∀g' s',Ext W g s g' s'->Q b s')->
  wpAny (model W.prog W.w) A (forIn ifs true λc r=>if r=true then do let ok <-isTrue c env (eval c env);pure (eD ok) else pure (eD r)) Q E s:=by
 have hf:∀(ifs:List Expr) {s} (Q:Bool->Shared->Prop) (E:Value->Shared->Prop),Q false s->wpAny (model W.prog W.w) A (forIn ifs false λc r=>if r=true then do let ok <-isTrue c env (eval c env);pure (eD ok) else pure (eD r)) Q E s:=by
  intro ifs
  induction ifs with
  | nil=>intro s Q E h;rw [gt];exact aj h
  | cons c cs ih=>intro s Q E h;rw [eS];exact aa (aj (ih Q E h))
 intro ifs
 induction ifs with
 | nil=>
  intro b h g s F k Q E hQ
  have hb:b=true:=h
  subst hb
  rw [gt]
  exact aj (hQ g s (Ext.refl k))
 | cons c cs ih=>
  intro b h g s F k Q E hQ
  apply aA (h);intro b1 h1 h2
  rw [eS]
  refine aa (aa (h1 g s F k _ _ λg1 s1 x1=>aj ?_))
  cases b1 with
  | true=>exact ih (by simpa using h2) (F.ext x1) x1.ok Q E λg2 s2 x2=>hQ g2 s2 (x1.trans x2)
  | false=>
   have hb:b=false:=by simpa using h2
   subst hb
   exact hf cs Q E (hQ g1 s1 x1)
variable {elt:Expr}{it:Value}{gens:List Comprehension}
theorem qh {c:Comprehension}{acc:Value}{R:Result->Shared->Prop}(hg:gens[j]? =some c)(ha:c.is_async=0)(h0:codeAny (model W.prog W.w) A (.compLoop (.ListComp elt gens scope pos) j it acc env) R s)(h:wpAny (model W.prog W.w) A (pyIter it) (λit' s'=>codeAny (model W.prog W.w) A (.compLoop (.ListComp elt gens scope pos) j it' acc env) R s') (notedBy (model W.prog W.w) A env λx s'=>R (.error x) s') s):
  codeAny (model W.prog W.w) A (.compStart (.ListComp elt gens scope pos) j it acc env) R s:=by
 refine codeAny_of_tree ?_
 show wpAny _ _ ((compStart (.ListComp elt gens scope pos) j it acc env).onRaise (λx=>do noteFrame x env;standAt theWindowsPlace)) _ _ s
 refine wpAny_notedAt ?_
 unfold compStart
 have e:((clausesOf (.ListComp elt gens scope pos))[j]?).elim false (·.is_async !=0)=false:=by
  show (gens[j]?).elim false (·.is_async !=0)=false
  rw [hg];simp [ha]
 have e2:(clausesOf (.ListComp elt gens scope pos))[j]? =some c:=hg
 rw [e,e2]
 show wpAny _ _ (ask >>= _) _ _ s
 refine aa (wpAny_askSetting (wpAny_ite ?_))
 split
 .first
   | exact aa (aj (aj (Co rfl h0)))
   | exact aj (Co rfl h0)
 .first
   | exact aa (gO (aa (cM (aa (aI h (λit' s' h'=>aj (Co rfl h')) λ_ _ x=>x)))))
   | (refine aa (gO ?_);show wpAny _ _ (standAt c.iter.pos >>= _) _ _ s;exact aa (cM (aa (aI h (λit' s' h'=>aj (Co rfl h')) λ_ _ x=>x))))
theorem Ap {c:Comprehension}{acc:Value}{Q:Fin->Shared->Prop}(hg:gens[j]? =some c)(ha:c.is_async=0)(hn:∀c',gens[j + 1]? =some c'->c'.is_async=0/\dR c'.iter=true)(h:wpAny (model W.prog W.w) A (pyNext it) (λr s₁=>match r with
   | none=>Q (.done .next) s₁
   | some v=>wpAny (model W.prog W.w) A (letOwnedTupleGo c.target it v) (λ_ s₂=>wpAny (model W.prog W.w) A (assign c.target env v) (λ_ s₃=>
     wpAny (model W.prog W.w) A (forIn c.ifs true λc r=>if r=true then do let ok <-isTrue c env (eval c env);pure (eD ok) else pure (eD r)) (λok s₄=>
      (ok=false->Q (.again (.compLoop (.ListComp elt gens scope pos) j it acc env)) s₄)/\
      (ok=true->gens[j + 1]? =none->wpAny (model W.prog W.w) A (eval elt env) (λx s₅=>wpAny (model W.prog W.w) A (call (.builtin "list.append") [acc,x]) (λ_ s₆=>Q (.again (.compLoop (.ListComp elt gens scope pos) j it acc env)) s₆) E s₅) E s₄)/\
      (ok=true->∀c',gens[j + 1]? =some c'->wpAny (model W.prog W.w) A (eval c'.iter env) (λx s₅=>wpAny (model W.prog W.w) A (pyIter x) (λit' s₆=>
       codeAny (model W.prog W.w) A (.compStart (.ListComp elt gens scope pos) (j + 1) it' acc env) (λr s'=>match r with | .ok _=>Q (.again (.compLoop (.ListComp elt gens scope pos) j it acc env)) s' | .error e=>cameBackBy (model W.prog W.w) A env E e s') s₆) E s₅) E s₄)) E s₃) E s₂) E s₁) E s):
  wpAny (model W.prog W.w) A (compTurn (.ListComp elt gens scope pos) j it acc env) Q E s:=by
 unfold compTurn
 simp only [hg,ha,bne_self_eq_false,bX,if_false]
 refine aa (cM (aa (aI h (λr s₁ h₁=>?_) λ_ _ e=>e)))
 cases r with
 | none=>exact aj h₁
 | some v=>
  refine aa (aI h₁ (λ_ s₂ h₂=>aa (aI h₂ (λ_ s₃ h₃=>aa (aI h₃ (λok s₄ h₄=>?_) λ_ _ e=>e)) λ_ _ e=>e)) λ_ _ e=>e)
  have k1:=h₄.1;have k2:=h₄.2.1;have k3:=h₄.2.2
  cases ok with
  | false=>
   exact aj (k1 rfl)
  | true=>
   cases hg':gens[j + 1]? with
   | none=>
    refine aa (aa (aI (k2 rfl hg') (λx s₅ h₅=>aa (aI h₅ (λ_ s₆ h₆=>aj (aj h₆)) λ_ _ e=>e)) λ_ _ e=>e))
   | some c'=>
    have hx0:=hn c' hg';have a1:=hx0.1;have a2:=hx0.2
    simp only [a1,bne_self_eq_false,bX,if_false,if_true]
    refine aa (aI (k3 rfl c' hg') (λx s₅ h₅=>?_) λ_ _ e=>e)
    refine aa (cM (aa (fU (gE a2 x) ?_)))
    refine aa (bK (aI h₅ (λit' s₆ h₆=>?_) λ_ _ e=>e))
    have z:=wpAny_runOwn (h:=none) (Q:=λ_ s'=>Q (.again (.compLoop (.ListComp elt gens scope pos) j it acc env)) s') h₆
    exact aa (aI z (λ_ s₇ h₇=>aj h₇) λ_ _ e=>e)
noncomputable def AccIs (W:Wd)(g:View)(s:Shared)(a:Addr)(outs:List D):Prop:=∃vs n,Hid g s a (mW vs n)/\RepAll W g vs.toList outs
variable {outs:List D}
theorem AccIs.ext (h:AccIs W g s a outs)(x:ExtM W M g s g' s')(hm:¬M a):AccIs W g' s' a outs:=
 fo h λvs n h1 h2=>⟨vs,n,h1.ext x hm,h2.mono x.le⟩
theorem AccIs.alive (h:AccIs W g s a outs):∃o,Hid g s a o:=fo h λ_ _ h1 _=>⟨_,h1⟩
theorem sE (k:Ok W g s)(h:AccIs W g s a outs)(r:Rep W g v d)(hz:outs.length<=sizeLine)(hQ:∀s',ExtM W (·=a) g s g s'->AccIs W g s' a (outs++[d])->Q .none s'):wpAny (model W.prog W.w) A (call (.builtin "list.append") [.ref a,v]) Q E s:=by
 apply fo (h);intro vs n h1 h2
 have hsz:vs.size<=sizeLine:=by rw [<-aE,h2.length];exact hz
 refine wpAny_list_append_plain (hsz:=hsz) ⟨n,h1.get⟩ λh' zq0 sb=>Kw zq0 λn' e'=>?_
 have x1:=ExtM.of_keep k (wr:=[a]) (h':=h') (n:=s.toks) (λb hb=>(rF.mp hb)▸⟨_,h1⟩) (λb o hb e=>sb.extBut b o (λq=>hb (rF.mpr q)) e) (ae _)
 exact hQ _ (x1.mono λb hb=>rF.mp hb) ⟨vs.push v,n',⟨e',rfl,h1.hid⟩,by rw [Array.toList_push];exact h2.append (.cons r .nil)⟩
noncomputable def CD (env:Env)(a:Addr)(b:Addr):Prop:=b=env.locals\/b=a
noncomputable def Ee (W:Wd)(A:Around)(env:Env)(elt:Expr)(gens:List Comprehension)(scope:Scope)(pos:Pos)(a:Addr)(P:Rho->List D->Prop)(X:Addr->Prop)(J:View->Shared->Prop)(j:Nat):Prop:=
 ∀(ρ:Rho) (outs:List D),P ρ outs->∀g s outs0,Fra W g s env ρ->Ok W g s->AccIs W g s a outs0->J g s->outs0.length + outs.length<=sizeLine->
  (gens[j]? =none->∀(Q:Unit->Shared->Prop) (E:Value->Shared->Prop),(∀g' s',ExtM W X g s g' s'->Fra W g' s' env ρ->AccIs W g' s' a (outs0++outs)->J g' s'->Q () s')->
   wpAny (model W.prog W.w) A (eval elt env) (λx s₅=>wpAny (model W.prog W.w) A (call (.builtin "list.append") [.ref a,x]) (λ_ s₆=>Q () s₆) E s₅) E s)/\
  (∀c',gens[j]? =some c'->∀(Q:Unit->Shared->Prop) (E:Value->Shared->Prop),(∀g' s',ExtM W X g s g' s'->Fra W g' s' env ρ->AccIs W g' s' a (outs0++outs)->J g' s'->Q () s')->
   wpAny (model W.prog W.w) A (eval c'.iter env) (λx s₅=>wpAny (model W.prog W.w) A (pyIter x) (λit' s₆=>
    codeAny (model W.prog W.w) A (.compStart (.ListComp elt gens scope pos) j it' (.ref a) env) (λr s'=>match r with | .ok _=>Q () s' | .error e=>cameBackBy (model W.prog W.w) A env E e s') s₆) E s₅) E s)
variable {gs:List Comprehension}
theorem BE {c:Comprehension}(h:i6 W A env elt (c :: gs) ρ outs):
  ∃ds os,c.is_async=0/\dR c.iter=true/\gN env ρ c.target/\dS W A env ρ c.target c.iter ds/\mo W A env (i6 W A env elt gs) c.target c.ifs ρ ds os/\outs=os.flatten:=h
variable {os:List (List D)}
theorem yF {o:List D}(h:os[i]? =some o):(os.take (i + 1)).flatten=(os.take i).flatten++o:=by
 rw [dk,h]
 simp
variable {B:Addr->Prop}{St:Nat->View->Shared->Prop}
theorem xS {c:Comprehension}{Md:Nat->Value->View->Shared->Prop}{outs0:List D}{P:Rho->List D->Prop}{X:Addr->Prop}{J:View->Shared->Prop}(hh:A.handled=none)(hd:gens.drop j=c :: gs)(ha:c.is_async=0)(hn:∀c',gens[j + 1]? =some c'->c'.is_async=0/\dR c'.iter=true)(hb:Ee W A env elt gens scope pos a P X J (j + 1))(T:Turns W A c.target it B ds St Md)(hf:gN env ρ c.target)(body:mo W A env P c.target c.ifs ρ ds os)(F:Fra W g s env ρ)(k:Ok W g s)(acc:AccIs W g s a outs0)(hst:St 0 g s)(hB:∀b,B b->¬Own env b/\b≠a)(hX:∀b,CD env a b->X b)(hBX:∀b,B b->¬X b)(hJ:∀{M:Addr->Prop} {g s g' s'},J g s->ExtM W M g s g' s'->(∀b,M b->b=env.locals\/B b)->J g' s')(hj:J g s)(hz:outs0.length + os.flatten.length<=sizeLine)(ha2:¬Own env a){R:Result->Shared->Prop}(hR:∀g' s',ExtM W (λb=>X b\/B b) g s g' s'->Fra W g' s' env ρ->AccIs W g' s' a (outs0++os.flatten)->J g' s'->R (.ok .next) s'):
  codeAny (model W.prog W.w) A (.compLoop (.ListComp elt gens scope pos) j it (.ref a) env) R s:=by
 have hg:gens[j]? =some c:=by
  have:=congrArg (·[0]?) hd
  simpa using this
 have bl:=body.1;have bd:=body.2
 have offB:iv env B:=dU λb hb h=>(hB b h).1 hb
 refine codeAny_loop rfl (λn s'=>∃i g',n=ds.length - i/\i<=ds.length/\ExtM W (λb=>X b\/B b) g s g' s'/\Fra W g' s' env ρ/\AccIs W g' s' a (outs0++(os.take i).flatten)/\J g' s'/\St i g' s') (λn s' hI=>?_) ds.length
  ⟨0,g,rfl,cq _,ExtM.refl k,F,by simpa using acc,hj,hst⟩
 apply Dr (hI);intro i g1 hq0 hi x1 F1 acc1 j1 st1;subst hq0
 show wpAny _ _ ((compTurn (.ListComp elt gens scope pos) j it (.ref a) env).onRaise (λx=>do noteFrame x env;theTreesLotGoes x)) _ _ s'
 refine wpAny_noted (Ap hg ha hn ?_)
 by_cases hlt:i < ds.length
 .refine T.item hlt x1.ok st1 _ _ λv g2 s2 x2 md=>?_
  have x12:=x1.trans (x2.mono λb hb=>.inr hb)
  have F2:=F1.extM x2 offB
  have acc2:=acc1.ext x2 λhb=>(hB _ hb).2 rfl
  have j2:=hJ j1 x2 λb h=>.inr h
  refine T.go x2.ok md _ _ λg3 s3 x3 st3 zq0=>aA zq0 λd hdd item=>?_
  have x13:=x12.trans (x3.mono λb hb=>.inr hb)
  have F3:=F2.extM x3 offB
  have acc3:=acc2.ext x3 λhb=>(hB _ hb).2 rfl
  have j3:=hJ j2 x3 λb h=>.inr h
  have ho:i < os.length:=bl▸hlt
  have ho':os[i]? =some os[i]:=List.getElem?_eq_getElem ho
  apply ik (bd i d os[i] hdd ho');intro ρ' b ha' hc hT hFl
  refine DW (M:=(·=env.locals)) hh ha' item F3 x3.ok (λx hx=>.inl ⟨(hf x hx).1,rfl⟩) λs4 x4 F4=>?_
  have x14:=x13.trans (x4.mono λb hb=>.inl (hX _ (.inl hb)))
  have acc4:=acc3.ext x4 λhb=>ha2 (.inl hb)
  have j4:=hJ j3 x4 λb h=>.inl h
  have st4:=T.frame st3 x3.ok x4 λb hb e=>(hB b hb).1 (.inl e)
  refine GA hc F4 x4.ok _ _ λg5 s5 x5=>?_
  have x15:=x14.trans x5.toM
  have F5:=F4.ext x5
  have acc5:=acc4.ext (M:=λ_=>False) x5.toM id
  have st5:=T.frame (M:=λ_=>False) st4 x4.ok x5.toM λb _=>id
  have j5:=hJ (M:=λ_=>False) j4 x5.toM λb h=>h.elim
  have flat:=yF ho'
  have fin:∀g6 s6,ExtM W X g5 s5 g6 s6->Fra W g6 s6 env ρ'->AccIs W g6 s6 a ((outs0++(os.take i).flatten)++os[i])->J g6 s6->
    (∃n',n' < ds.length - i/\∃i' g',n'=ds.length - i'/\i'<=ds.length/\ExtM W (λb=>X b\/B b) g s g' s6/\Fra W g' s6 env ρ/\AccIs W g' s6 a (outs0++(os.take i').flatten)/\J g' s6/\St i' g' s6):=λg6 s6 x6 F6 acc6 j6=>
   ⟨ds.length - (i + 1),Pd hlt,i + 1,g6,rfl,hlt,x15.trans (x6.mono λb hb=>.inl hb),F6.forget ⟨Km ha' λx hx=>(hf x hx).2,λhz=>(Ko ha').trans hz⟩,by rw [flat,<-dI];exact acc6,j6,
    T.frame st5 x5.ok x6 λb hb e=>hBX b hb e⟩
  have hz':(outs0++(os.take i).flatten).length + os[i].length<=sizeLine:=by
   refine ai ?_ hz
   have e1:os.flatten=(os.take (i + 1)).flatten++(os.drop (i + 1)).flatten:=by rw [<-List.flatten_append,oi]
   rw [e1,flat]
   simp only [az]
   exact (qN (.l (.a (.a Y0 Y1) Y2) (.a Y0 (.a (.a Y1 Y2) Y3))) []:gC [])
  refine ⟨λhb0=>⟨rfl,fin g5 s5 (ExtM.refl x5.ok) F5 ?_ j5⟩,λhb1 hnone=>?_,λhb1 c' hsome=>?_⟩
  .rw [hFl hb0,fS];exact acc5
  .exact aI ((hb ρ' os[i] (hT hb1) g5 s5 _ F5 x5.ok acc5 j5 hz').1 hnone (λ_ s6=>∃n',n' < ds.length - i/\∃i' g',n'=ds.length - i'/\i'<=ds.length/\ExtM W (λb=>X b\/B b) g s g' s6/\Fra W g' s6 env ρ/\AccIs W g' s6 a (outs0++(os.take i').flatten)/\J g' s6/\St i' g' s6) _ λg6 s6 x6 F6 acc6 j6=>fin g6 s6 x6 F6 acc6 j6)
    (λ_ _ h=>aI h (λ_ _ h=>⟨rfl,h⟩) λ_ _ e=>e) λ_ _ e=>e
  .exact aI ((hb ρ' os[i] (hT hb1) g5 s5 _ F5 x5.ok acc5 j5 hz').2 c' hsome (λ_ s6=>∃n',n' < ds.length - i/\∃i' g',n'=ds.length - i'/\i'<=ds.length/\ExtM W (λb=>X b\/B b) g s g' s6/\Fra W g' s6 env ρ/\AccIs W g' s6 a (outs0++(os.take i').flatten)/\J g' s6/\St i' g' s6) _ λg6 s6 x6 F6 acc6 j6=>fin g6 s6 x6 F6 acc6 j6)
    (λ_ _ h=>aI h (λ_ _ h=>codeAny_mono h λr s' h=>by
     cases r with
     | ok f=>exact ⟨rfl,h⟩
     | error e=>exact h) λ_ _ e=>e) λ_ _ e=>e
 .have hi':i=ds.length:=by exact ar (Bz hi) (Bz (jq hlt))
  subst hi'
  refine T.done x1.ok st1 _ _ λg2 s2 x2=>?_
  refine hR g2 s2 (x1.trans (x2.mono λb hb=>.inr hb)) (F1.extM x2 offB) ?_ (hJ j1 x2 λb h=>.inr h)
  have acc2:=acc1.ext x2 λhb=>(hB _ hb).2 rfl
  rwa [<-bl,t9] at acc2
theorem E7 (hh:A.handled=none)(ha2:¬Own env a):∀(gs:List Comprehension) (j:Nat),gens.drop j=gs->(∀c∈gs,c.is_async=0/\dR c.iter=true)->Ee W A env elt gens scope pos a (i6 W A env elt gs) (CD env a) (λ_ _=>True) j:=by
 intro gs
 induction gs with
 | nil=>
  intro j hd hcs ρ outs h g s outs0 F k acc _ hz
  have hnone:gens[j]? =none:=by
   have:=congrArg (·[0]?) hd
   simpa using this
  refine ⟨λ_ Q E hQ=>?_,λc' e=>by rw [hnone] at e;exact (aK e).elim⟩
  apply aA (h);intro d hd' hq0;subst hq0
  refine hd' g s F k _ _ λv g1 s1 x1 r1=>?_
  have hz0:outs0.length<=sizeLine:=JC hz
  exact sE x1.ok (acc.ext (M:=λ_=>False) x1.toM id) r1 hz0 λs2 x2 acc2=>hQ g1 s2 (x1.toM.trans (x2.mono λb hb=>.inr hb)) ((F.ext x1).extM x2 (dU λb hb e=>ha2 (e▸hb))) acc2 trivial
 | cons c gs ih=>
  intro j hd hcs ρ outs h g s outs0 F k acc _ hz
  have hg:gens[j]? =some c:=by
   have:=congrArg (·[0]?) hd
   simpa using this
  have hd':gens.drop (j + 1)=gs:=by
   have:=congrArg List.tail hd
   simpa using this
  have ih':=ih (j + 1) hd' λc hc=>hcs c (.tail _ hc)
  apply n5 (BE h);intro ds os h1 h2 h3 h4 h5 hq0;subst hq0
  refine ⟨λe=>by (rw [hg] at e;exact (uv e).elim),λc' e Q E hQ=>?_⟩
  rw [hg] at e
  (refine eQ e ?_;clear e;intro q₁;subst q₁)
  refine h4 g s F k _ _ λit g1 s1 B St Md x1 T st hB=>?_
  have hBo:∀b,B b->¬Own env b/\b≠a:=λb hb=>by
   have F1:=F.ext x1
   refine ⟨?_,?_⟩
   .rintro (e | ⟨x,e⟩)
    .obtain ⟨o,ho⟩:=F.hidden
     have:=hB b o hb (e▸ho.get)
     rw [ho.tab] at this;exact (ag this).elim
    .have hx0:=F.liv x b e;have hn0:=hx0.1;have a3:=hx0.2;obtain ⟨v,o,a1,a2⟩:=hn0
     have:=hB b o hb a1
     rw [du a2] at this;exact (ag this).elim
   .intro e
    obtain ⟨o,ho⟩:=acc.alive
    have:=hB b o hb (e▸ho.get)
    rw [ho.tab] at this;exact (ag this).elim
  have hn:∀c',gens[j + 1]? =some c'->c'.is_async=0/\dR c'.iter=true:=λc' e=>by
   have:c'∈gs:=by rw [<-hd'];exact List.mem_of_getElem? (i:=0) (by simpa using e)
   exact hcs c' (.tail _ this)
  have loop:=xS (R:=λr s'=>match r with | .ok _=>Q () s' | .error e=>cameBackBy (model W.prog W.w) A env E e s') hh hd h1 hn ih' T h3 h5 (F.ext x1) x1.ok (acc.ext (M:=λ_=>False) x1.toM id) st hBo (λ_ h=>h) (λb hb h=>h.elim (λe=>(hBo b hb).1 (.inl e)) (hBo b hb).2) (λ_ _ _=>trivial) trivial hz ha2 (scope:=scope) (pos:=pos) λg2 s2 x2 F2 acc2 _=>
   hQ g2 s2 (((x1.toM).trans x2).drop λb o hm hn' e=>hm.elim (λh=>absurd h hn') λh=>hB b o h e) F2 acc2 trivial
  exact qh hg h1 loop (T.again x1.ok st _ _ loop)
theorem ExtM.see (x:ExtM W M g s g' s')(h:Hid g' s' a o)(hm:M a):ExtM W M g s (gu g' a o) s':=by
 have q:=Ext.see x.ok h.get h.hid h.tab
 exact ⟨x.le.trans q.1,q.2,x.keep,λb ob n e t hn=>by rw [cV (λ(q:b=a)=>n (by rw [q];exact hm))];exact x.new b ob n e t hn,x.same⟩
noncomputable def BL (env:Env):List (Str×NameKind)->List (Str×Addr)->Option (List (Str×Addr))
 | [],acc=>some acc
 | (n,k) :: r,acc=>if k==.free then (env.cells.lookup n).bind λc=>BL env r ((n,c) :: acc) else BL env r acc
theorem vS (n:Str)(k:NameKind)(r:List (Str×NameKind))(acc:List (Str×Addr)):BL env ((n,k) :: r) acc=if (k==.free)=true then (env.cells.lookup n).bind λc=>BL env r ((n,c) :: acc) else BL env r acc:=rfl
theorem sy:∀(names:List (Str×NameKind)) (acc cl:List (Str×Addr)),BL env names acc=some cl->
  (forIn names acc λx cs=>match x with | (name,kind)=>if (kind==cb)=true then do let c <-cellOf env name;pure (eD ((name,c) :: cs)) else pure (eD cs):Sem (List (Str×Addr)))=pure cl
 | [],acc,cl,h=>by obtain rfl:=aL h;rfl
 | (n,k) :: r,acc,cl,h=>by
  rw [eS]
  rw [vS] at h
  by_cases hk:(k==.free)=true
  .rw [if_pos hk] at h
   simp only [hk,if_true]
   apply aA (Option.bind_eq_some_iff.mp h);intro c hc h'
   have e:cellOf env n=pure c:=by unfold cellOf;rw [hc]
   rw [e,yM,yM]
   exact sy r _ cl h'
  .rw [if_neg hk] at h
   have hk':(k==cb)=false:=Bool.eq_false_iff.mpr hk
   simp only [hk',bX,if_false]
   rw [yM]
   exact sy r acc cl h
theorem io (h:BL env scope.names []=some cl):closureFor scope env=pure cl:=by
 unfold closureFor
 have:=sy (env:=env) scope.names [] cl h
 exact (congrArg (· >>= λcs=>pure cs) this).trans (yM _ _)
theorem nu:∀{names:List (Str×NameKind)} {acc cl:List (Str×Addr)},BL env names acc=some cl->(∀n c,acc.lookup n=some c->env.cells.lookup n=some c)->
  (∀n c,cl.lookup n=some c->env.cells.lookup n=some c)/\(∀n,(acc.lookup n).isSome=true\/(n,cb)∈names->(cl.lookup n).isSome=true)
 | [],acc,cl,h,ha=>by
  obtain rfl:=aL h
  exact ⟨ha,λn hn=>by simpa using hn⟩
 | (m,k) :: r,acc,cl,h,ha=>by
  rw [vS] at h
  by_cases hk:(k==.free)=true
  .rw [if_pos hk] at h
   apply aA (Option.bind_eq_some_iff.mp h);intro c hc h'
   have ih:=nu h' (λn c' e=>by
    rw [aT] at e
    by_cases hb:n==m
    .simp only [hb] at e;(refine eQ e ?_;clear e;intro q₁;subst q₁);rw [beq_iff_eq.mp hb];exact hc
    .simp only [hb] at e;exact ha n c' e)
   refine ⟨ih.1,λn hn=>ih.2 n ?_⟩
   rw [aT]
   by_cases hb:n==m
   .simp [hb]
   .simp only [hb]
    rcases hn with hn | hn
    .exact .inl hn
    .rcases List.mem_cons.mp hn with e | e
     ·(refine mQ e ?_;clear e;intro q₁ q₂;subst q₁ q₂);simp at hb
     .exact .inr e
  .rw [if_neg hk] at h
   have ih:=nu h ha
   refine ⟨ih.1,λn hn=>ih.2 n ?_⟩
   rcases hn with hn | hn
   .exact .inl hn
   .rcases List.mem_cons.mp hn with e | e
    ·(refine mQ e ?_;clear e;intro q₁ q₂;subst q₁ q₂);exact absurd rfl hk
    .exact .inr e
theorem j0:∀{names:List (Str×NameKind)} {acc:List (Str×Addr)},(∀n,(n,cb)∈names->(env.cells.lookup n).isSome=true)->∃cl,BL env names acc=some cl
 | [],acc,_=>⟨acc,rfl⟩
 | (m,k) :: r,acc,h=>by
  rw [vS]
  by_cases hk:(k==.free)=true
  .rw [if_pos hk]
   have e:k=.free:=by simpa using hk
   subst e
   obtain ⟨c,hc⟩:=Option.isSome_iff_exists.mp (h m (.head _))
   rw [hc]
   exact j0 λn hn=>h n (.tail _ hn)
  .rw [if_neg hk]
   exact j0 λn hn=>h n (.tail _ hn)
noncomputable def ko (env:Env)(scope:Scope):Bool:=
 scope.kind==.function&&scope.names.all λp=>p.2 !=.cell&&(p.2 !=.local||scope.names.lookup p.1==some .local)&&
  (p.2 !=.free||(scope.names.lookup p.1==some .free&&(env.kindOf p.1==some .cell||env.kindOf p.1==some .free)&&p.1 !=("__classdict__":Str)))
theorem hZ (h:ko env scope=true):scope.kind=.function/\(∀y∈scope.names,y.2≠.cell)/\(∀x∈scope.names,x.2=.local->scope.names.lookup x.1=some .local)/\
  (∀n,(n,cb)∈scope.names->scope.names.lookup n=some .free/\(env.kindOf n=some .cell\/env.kindOf n=some .free)/\n≠("__classdict__":Str)):=by
 unfold ko at h
 simp only [ao,ft,ei,bne_iff_ne,beq_iff_eq,ne_eq] at h
 have h1:=h.1;have h2:=h.2
 refine ⟨h1,λy hy=>(h2 y hy).1.1,λx hx hl=>?_,λn hn=>?_⟩
 .rcases (h2 x hx).1.2 with q | q
  .exact absurd hl q
  .exact q
 .rcases (h2 _ hn).2 with q | q
  .exact absurd rfl q
  .exact ⟨q.1.1,q.1.2,q.2⟩
theorem uS (h:look (.under scope ρ) x=some d):scope.names.lookup x=some .free/\look ρ x=some d:=by
 simp only [look] at h
 split at h
 .rename_i hb;exact ⟨by simpa using hb,h⟩
 .exact (aK h).elim
theorem jy {x:Str}:∀{names:List (Str×NameKind)},(∀y∈names,y.2≠.cell)->∀{k},(k=.cell\/k=.free)->(names.map λ(n,k)=>if (k==cb&&env.scope.kind==.function&&env.kindOf n==some .cell) then (n,eR) else (n,k)).lookup x=some k->(x,cb)∈names
 | [],_,_,_,h=>(aK h).elim
 | (n,k) :: r,hc,k',hk,h=>by
  rw [aD,aT] at h
  have hn:∀b:Bool,(if b=true then (n,eR) else (n,k)).1=n:=λb=>by cases b<;>rfl
  rw [hn] at h
  by_cases hx:x==n
  .simp only [hx] at h
   by_cases hf:(k==cb)=true
   .have e:k=.free:=by simpa using hf
    rw [e,beq_iff_eq.mp hx];exact .head _
   .have e1:(k==cb&&env.scope.kind==.function&&env.kindOf n==some .cell)=false:=by
     rw [Bool.eq_false_iff.mpr hf];rfl
    rw [e1] at h
    simp only [bX,if_false,cj] at h
    rcases hk with rfl | rfl
    .exact absurd h (hc _ (.head _))
    .rw [h] at hf;exact absurd rfl hf
  .simp only [hx] at h
   exact .tail _ (jy (λy hy=>hc y (.tail _ hy)) hk h)
theorem oI {x:Str}:∀{names:List (Str×NameKind)},(names.map λ(n,k)=>if (k==cb&&env.scope.kind==.function&&env.kindOf n==some .cell) then (n,eR) else (n,k)).lookup x=some .local->names.lookup x=some .local
 | [],h=>(aK h).elim
 | (n,k) :: r,h=>by
  rw [aD,aT] at h
  have hn:∀b:Bool,(if b=true then (n,eR) else (n,k)).1=n:=λb=>by cases b<;>rfl
  rw [hn] at h
  rw [aT]
  by_cases hx:x==n
  .simp only [hx] at h ⊢
   by_cases hf:(k==cb&&env.scope.kind==.function&&env.kindOf n==some .cell)=true
   .rw [if_pos hf] at h;cases h
   .rw [if_neg hf] at h;exact h
  .simp only [hx] at h ⊢
   exact oI h
variable {C:Addr}
theorem Fra.comp {m:Str->Option Value}(F:Fra W g s env ρ)(hok:ko env scope=true)(hcl:BL env scope.names []=some cl)(hC:s.heap.Ns C m)(hh:g.obj C=none):
  Fra W g s (compEnvC scope cl C env) (.under scope ρ):=by
 have hx0:=hZ hok;have h1:=hx0.1;have h2:=hx0.2.1;have h3:=hx0.2.2.1;have h4:=hx0.2.2.2
 have hx0:=nu hcl (λn c e=>(aK e).elim);have c1:=hx0.1;have c2:=hx0.2
 exact {
  kind:=h1
  glo:=F.glo
  bui:=F.bui
  ncd:=λq=>(h4 _ (jy (names:=scope.names) h2 (.inr rfl) q)).2.2 rfl
  hid:=hh
  loc:=⟨m,hC,λx d e hk=>by
   have q:=(uS e).1
   have q2:scope.names.lookup x=some .local:=oI hk
   rw [q] at q2;cases q2⟩
  inj:=λx y c e1 e2=>F.inj x y c (c1 x c e1) (c1 y c e2)
  liv:=λx c e=>F.liv x c (c1 x c e)
  cel:=λx hk=>by
   have hm:(x,cb)∈scope.names:=hk.elim (λq=>jy (names:=scope.names) h2 (.inl rfl) q) λq=>jy (names:=scope.names) h2 (.inr rfl) q
   obtain ⟨c,hc⟩:=Option.isSome_iff_exists.mp (c2 x (.inr hm))
   apply bP (F.cel x (h4 x hm).2.1);intro c' cv e1 e2 e3
   rw [c1 x c hc] at e1
   (refine eQ e1 ?_;clear e1;intro q₁;subst q₁)
   exact ⟨c,cv,hc,e2,λd e=>e3 d (uS e).2⟩ }
variable {ifs:List Expr}
theorem pC {i:Expr}{Md:Nat->Value->View->Shared->Prop}{RR:Value->Addr->Result->Shared->Prop}{P:Addr->Rho->List D->Prop}{X:Addr->Addr->Addr->Prop}{J:View->Shared->Prop}(hh:A.handled=none)(hok:ko env scope=true)(hcl:BL env scope.names []=some cl)(F:Fra W g s env ρ)(k:Ok W g s)(T:Turns W A t it B ds St Md)(st:St 0 g s)(hBo:∀b,B b->¬Own env b)(hgs:∀c∈gs,c.is_async=0/\dR c.iter=true)(hbody:∀C,gN (compEnvC scope cl C env) (.under scope ρ) t/\mo W A (compEnvC scope cl C env) (P C) t ifs (.under scope ρ) ds os)(hb:∀C a,¬Own (compEnvC scope cl C env) a->s.heap.objs.size<=C->s.heap.objs.size<=a->Ee W A (compEnvC scope cl C env) elt (⟨t,i,ifs,0⟩ :: gs) scope pos a (P C) (X C a) J 1)(hX:∀C a b,b=C\/b=a->X C a b)(hBX:∀b,B b->∀C a,b≠C->b≠a->¬X C a b)(hJ:∀C a,s.heap.objs.size<=C->s.heap.objs.size<=a->∀{M:Addr->Prop} {g s g' s'},J g s->ExtM W M g s g' s'->(∀b,M b->(b=C\/b=a)\/B b)->J g' s')(hj:J g s)(hz:os.flatten.length<=sizeLine)(hRR:∀a C g' s',ExtM W (λb=>X C a b\/B b) g s g' s'->s.heap.objs.size<=a->s.heap.objs.size<=C->C≠a->AccIs W g' s' a os.flatten->(∃m,s'.heap.Ns C m)->g'.obj C=none->J g' s'->RR (.ref a) C (.ok .next) s'):
  wpAny (model W.prog W.w) A (newList []) (λacc s₃=>wpAny (model W.prog W.w) A (newFunctionEnv scope env.globals cl [] env.qual none .none (some env)) (λcenv s₄=>
   codeAny (model W.prog W.w) A (.compStart (.ListComp elt (⟨t,i,ifs,0⟩ :: gs) scope pos) 0 it acc {cenv with scope:=relabel scope env }) (RR acc cenv.locals) s₄) E s₃) E s:=by
 have hx0:=hZ hok;have h1:=hx0.1;have h2:=hx0.2.1;have h3:=hx0.2.2.1;have h4:=hx0.2.2.2
 refine bB (wpAny_newFunctionEnv h2 (by intro y hy;simp at hy) (λh₁ hns₁ hsb₁=>?_) h1)
 dsimp only at hns₁ hsb₁ ⊢
 generalize hH2:s.heap.push {cls:=.type "list",dict:=none,data:=.seq ([]:List Value).toArray }=H2 at hns₁ hsb₁ ⊢
 have hC:H2.objs.size=s.heap.objs.size + 1:=by rw [<-hH2,dJ]
 have x1:=Ext.pushHid k {cls:=.type "list",dict:=none,data:=.seq ([]:List Value).toArray }
 rw [hH2] at x1
 have x2:=Ext.pushHid x1.ok {cls:=.type (if (some env).isSome then "dict" else "frame"),data:=.dict #[] }
 have hidC0:Hid g {s with heap:=H2.push {cls:=.type (if (some env).isSome then "dict" else "frame"),data:=.dict #[] } } H2.objs.size {cls:=.type (if (some env).isSome then "dict" else "frame"),data:=.dict #[] }:=
  ⟨Heap.get?_push_size _ rfl,rfl,k.fresh (by rw [hC];exact aY _)⟩
 have x3:=ExtM.of_keep x2.ok (wr:=[H2.objs.size]) (h':=h₁) (n:=s.toks + ([]:List (Str×Value)).length) (λb hb=>(rF.mp hb)▸⟨_,hidC0⟩) (λb o hb e=>hsb₁.extBut b o (λq=>hb (rF.mpr q)) e) (ae _)
 have x13:ExtM W (λb=>(b=H2.objs.size\/b=s.heap.objs.size)\/B b) g s g {s with heap:=h₁,toks:=s.toks + ([]:List (Str×Value)).length }:=(x1.trans x2).toM.trans (x3.mono λb hb=>.inl (.inl (rF.mp hb)))
 have hCa:H2.objs.size≠s.heap.objs.size:=by rw [hC];exact wk _
 have accH:AccIs W g {s with heap:=h₁,toks:=s.toks + ([]:List (Str×Value)).length } s.heap.objs.size []:=by
  refine ⟨#[],0,⟨?_,rfl,k.fresh (ae _)⟩,.nil⟩
  refine hsb₁.extBut _ _ (fy hCa) (Heap.get?_push_of_some _ ?_)
  rw [<-hH2]
  exact Heap.get?_push_size _ rfl
 have aliveLt:∀b:Nat,B b->b < s.heap.objs.size:=λb hb=>Kw (T.alive st hb) λo ho=>aF ho.get
 have ownLt:∀b:Nat,Own env b->b < s.heap.objs.size:=λb hb=>by
  rcases hb with rfl | ⟨x,e⟩
  .obtain ⟨o,ho⟩:=F.hidden;exact aF ho.get
  .have hx0:=F.liv x b e;have hn0:=hx0.1;obtain ⟨v,o,e1,_⟩:=hn0;exact aF e1
 have offE:iv env (λb=>(b=H2.objs.size\/b=s.heap.objs.size)\/B b):=dU λb hb h=>by
  have:=ownLt b hb
  rcases h with (rfl | rfl) | h
  .rw [hC] at this;exact Dv this
  .exact zJ this
  .exact hBo b h hb
 have F1:=F.extM x13 offE
 have Fc:Fra W g {s with heap:=h₁,toks:=s.toks + ([]:List (Str×Value)).length } (compEnvC scope cl H2.objs.size env) (.under scope ρ):=F1.comp hok hcl hns₁ (k.fresh (by rw [hC];exact aY _))
 have st1:St 0 g {s with heap:=h₁,toks:=s.toks + ([]:List (Str×Value)).length }:=T.frame (M:=λb=>b=H2.objs.size) st k (((x1.trans x2).toM).trans (x3.mono λb hb=>rF.mp hb)) λb hb q=>by
  have:=aliveLt b hb
  rw [q,hC] at this;exact Dv this
 have ownC:∀b,Own (compEnvC scope cl H2.objs.size env) b->b=H2.objs.size\/Own env b:=λb hb=>by
  rcases hb with rfl | ⟨x,e⟩
  .exact .inl rfl
  .exact .inr (.inr ⟨x,(nu hcl (λn c e=>(aK e).elim)).1 x b e⟩)
 have hB':∀b,B b->¬Own (compEnvC scope cl H2.objs.size env) b/\b≠s.heap.objs.size:=λb hb=>by
  have hlt:=aliveLt b hb
  refine ⟨λh=>?_,bG hlt⟩
  rcases ownC b h with rfl | h
  .rw [hC] at hlt;exact Dv hlt
  .exact hBo b hb h
 have ha2:¬Own (compEnvC scope cl H2.objs.size env) s.heap.objs.size:=λh=>by
  rcases ownC _ h with h | h
  .exact hCa h.symm
  .have:=ownLt _ h;exact zJ this
 have hcs:∀c∈(⟨t,i,ifs,0⟩ :: gs:List Comprehension).drop 1,c.is_async=0/\dR c.iter=true:=hgs
 have hn:∀c',(⟨t,i,ifs,0⟩ :: gs:List Comprehension)[0 + 1]? =some c'->c'.is_async=0/\dR c'.iter=true:=λc' e=>hgs c' (List.mem_of_getElem? (i:=0) (by simpa using e))
 have szC:s.heap.objs.size<=H2.objs.size:=by rw [hC];exact aY _
 have j1:=hJ H2.objs.size s.heap.objs.size szC (ae _) hj x13 λb h=>h
 have loop:=xS (env:=compEnvC scope cl H2.objs.size env) (ρ:=.under scope ρ) (gens:=⟨t,i,ifs,0⟩ :: gs) (j:=0) (elt:=elt) (scope:=scope) (pos:=pos) (a:=s.heap.objs.size) (P:=P H2.objs.size) (X:=X H2.objs.size s.heap.objs.size) (J:=J) (R:=RR (.ref s.heap.objs.size) H2.objs.size) hh rfl rfl hn
  (hb H2.objs.size s.heap.objs.size ha2 szC (ae _)) T (hbody _).1 (hbody _).2 Fc x13.ok accH st1 hB' (λb h=>hX _ _ b h) (λb hb=>hBX b hb _ _ (λe=>(hB' b hb).1 (.inl e)) (hB' b hb).2) (λj x h=>hJ _ _ szC (ae _) j x λb hm=>(h b hm).imp_left .inl) j1 (by simpa using hz) ha2 λg' s' x F' acc' j'=>
   hRR _ _ g' s' ((x13.mono λb h=>h.imp_left (hX _ _ b)).trans x) (ae _) szC hCa (by simpa using acc') (aA F'.loc λm hm _=>⟨m,hm⟩) F'.hid j'
 exact qh (c:=⟨t,i,ifs,0⟩) rfl rfl loop (T.again x13.ok st1 _ _ loop)
theorem oO {i:Expr}(hh:A.handled=none)(hok:ko env scope=true)(hns:dR i=true)(hgs:∀c∈gs,c.is_async=0/\dR c.iter=true)(hi:dS W A env ρ t i ds)(hbody:∀cl C,gN (compEnvC scope cl C env) (.under scope ρ) t/\mo W A (compEnvC scope cl C env) (i6 W A (compEnvC scope cl C env) elt gs) t ifs (.under scope ρ) ds os)(hz:os.flatten.length<=sizeLine)(ho:outs=os.flatten):
  aQ W A env ρ (.ListComp elt (⟨t,i,ifs,0⟩ :: gs) scope pos) (.list outs):=λg s F k Q E hQ=>by
 subst ho
 have hx0:=hZ hok;have h1:=hx0.1;have h2:=hx0.2.1;have h3:=hx0.2.2.1;have h4:=hx0.2.2.2
 obtain ⟨cl,hcl⟩:=j0 (env:=env) (names:=scope.names) (acc:=[]) λn hn=>by
  apply fo (F.cel n (h4 n hn).2.1);intro c cv e _
  rw [e];rfl
 rw [eval_ListComp]
 refine mL (use:=none) rfl (gE hns) (io hcl) h1 h3 ?_
 refine hi g s F k _ _ λit g1 s1 B St Md x1 T st hB=>?_
 have F1:=F.ext x1
 have hBo:∀b,B b->¬Own env b:=λb hb h=>by
  rcases h with rfl | ⟨x,e⟩
  .obtain ⟨o,ho⟩:=F.hidden
   have:=hB _ o hb ho.get
   rw [ho.tab] at this;exact (ag this).elim
  .have hx0:=F.liv x b e;have hn0:=hx0.1;have a3:=hx0.2;obtain ⟨v,o,a1,a2⟩:=hn0
   have:=hB b o hb a1
   rw [du a2] at this;exact (ag this).elim
 refine pC (RR:=λacc C=>compPost (model W.prog W.w) A E none Q acc C) hh hok hcl F1 x1.ok T st hBo hgs (P:=λC=>i6 W A (compEnvC scope cl C env) elt gs) (X:=λC a b=>b=C\/b=a) (J:=λ_ _=>True) (λC=>hbody cl C) (λC a ha2 _ _=>E7 hh ha2 gs 1 rfl hgs) (λ_ _ _ h=>h) (λb _ C a h1 h2 h=>h.elim h1 h2) (λ_ _ _ _ _ _ _ _ _ _ _ _=>trivial) trivial hz ?_
 intro a C g2 s2 x2 ha hC hne acc2 ⟨m,hm⟩ hid _
 refine ⟨m,hm,λh' hs'=>?_⟩
 apply aV (hm);intro o es ep e1 hd _
 have x3:=ExtM.of_keep x2.ok (wr:=[C]) (h':=h') (n:=s2.toks) (λb hb=>(rF.mp hb)▸⟨o,e1,cS hd,hid⟩) (λb o hb e=>hs'.extBut b o (λq=>hb (rF.mpr q)) e) (ae _)
 apply fo (acc2.ext x3 (λq=>hne (rF.mp q).symm));intro vs n h5 h6
 have x4:=(x2.trans (x3.mono λb hb=>.inl (.inl (rF.mp hb)))).see h5 (.inl (.inr rfl))
 refine hQ _ _ _ ((x1.toM.trans x4).toExt λb o hm e=>?_) (.list (cW _ _ _) (h6.mono (gK h5.hid)))
 rcases hm with (rfl | rfl) | hb
 .exact x1.before (bf hC) o e
 .exact x1.before (bf ha) o e
 .exact hB b o hb e
variable {spos py:Pos}
theorem mx {i:Expr}(hh:A.handled=none)(hok:ko env scope=true)(hns:dR i=true)(hgs:∀c∈gs,c.is_async=0/\dR c.iter=true)(hsw:swapsWith (.ListComp elt (⟨t,i,ifs,0⟩ :: gs) scope pos) (some (.Name y py)) spos.line env=pure true)(hy:env.kindOf y=some .local)(hi:dS W A env ρ t i ds)(hbody:∀cl C,gN (compEnvC scope cl C env) (.under scope ρ) t/\mo W A (compEnvC scope cl C env) (i6 W A (compEnvC scope cl C env) elt gs) t ifs (.under scope ρ) ds os)(hz:os.flatten.length<=sizeLine)(ho:outs=os.flatten)(F:Fra W g s env ρ)(k:Ok W g s){Q:Flow->Shared->Prop}(hQ:∀g' s',ExtM W (·=env.locals) g s g' s'->Fra W g' s' env (.bind y (.list outs) ρ)->Q .next s'):
  wpAny (model W.prog W.w) A (exec (.Assign [.Name y py] (.ListComp elt (⟨t,i,ifs,0⟩ :: gs) scope pos) spos) env) Q E s:=by
 subst ho
 have hx0:=hZ hok;have h1:=hx0.1;have h2:=hx0.2.1;have h3:=hx0.2.2.1;have h4:=hx0.2.2.2
 obtain ⟨cl,hcl⟩:=j0 (env:=env) (names:=scope.names) (acc:=[]) λn hn=>by
  apply fo (F.cel n (h4 n hn).2.1);intro c cv e _
  rw [e];rfl
 rw [exec_Assign_Name_used _ _ _ _ hsw]
 refine aa (cM (aa ?_))
 show wpAny _ A (do let _ <-comprehension (.ListComp elt (⟨t,i,ifs,0⟩ :: gs) scope pos) scope env _ (newList []) false (eval i env) (some (assign (.Name y py) env))) _ _ s
 refine aa (aI (mL (use:=some (assign (.Name y py) env)) (Q:=λ_ s'=>Q .next s') rfl (gE hns) (io hcl) h1 h3 ?_) (λ_ s' hq=>aj (aj hq)) λ_ _ e=>e)
 refine hi g s F k _ _ λit g1 s1 B St Md x1 T st hB=>?_
 have F1:=F.ext x1
 have hBo:∀b,B b->¬Own env b:=λb hb h=>by
  rcases h with rfl | ⟨x,e⟩
  .obtain ⟨o,ho⟩:=F.hidden
   have:=hB _ o hb ho.get
   rw [ho.tab] at this;exact (ag this).elim
  .have hx0:=F.liv x b e;have hn0:=hx0.1;have a3:=hx0.2;obtain ⟨v,o,a1,a2⟩:=hn0
   have:=hB b o hb a1
   rw [du a2] at this;exact (ag this).elim
 have ownLt:∀b:Nat,Own env b->b < s1.heap.objs.size:=λb hb=>by
  rcases hb with rfl | ⟨x,e⟩
  .obtain ⟨o,ho⟩:=F1.hidden;exact aF ho.get
  .have hx0:=F1.liv x b e;have hn0:=hx0.1;obtain ⟨v,o,e1,_⟩:=hn0;exact aF e1
 refine pC (RR:=λacc C=>compPost (model W.prog W.w) A E (some (assign (.Name y py) env)) (λ_ s'=>Q .next s') acc C) hh hok hcl F1 x1.ok T st hBo hgs (P:=λC=>i6 W A (compEnvC scope cl C env) elt gs) (X:=λC a b=>b=C\/b=a) (J:=λ_ _=>True) (λC=>hbody cl C) (λC a ha2 _ _=>E7 hh ha2 gs 1 rfl hgs) (λ_ _ _ h=>h) (λb _ C a h1 h2 h=>h.elim h1 h2) (λ_ _ _ _ _ _ _ _ _ _ _ _=>trivial) trivial hz ?_
 intro a C g2 s2 x2 ha hC hne acc2 hm hid _
 apply fo (acc2);intro vs n h5 h6
 have x3:=x2.see h5 (.inl (.inr rfl))
 have F3:Fra W (gu g2 a (mW vs n)) s2 env ρ:=F1.extM x3 (dU λb hb h=>by
  have:=ownLt b hb
  rcases h with (rfl | rfl) | h
  .exact Ju this hC
  .exact Ju this ha
  .exact hBo b h hb)
 refine wC (mP F3 x3.ok hy (.list (cW _ _ _) (h6.mono (gK h5.hid))) λs4 x4 F4=>?_)
 obtain ⟨m,hm⟩:=hm
 have hCL:C≠env.locals:=λq=>by have:=ownLt _ (.inl rfl:Own env env.locals);rw [<-q] at this;exact absurd this (Nat.not_lt.mpr hC)
 apply aV (hm);intro o es ep e1 hd hr
 have e1':=x4.keep C o hCL e1 (cS hd)
 refine ⟨m,⟨o,es,ep,e1',hd,hr⟩,λh' hs'=>?_⟩
 have hidC:Hid (gu g2 a (mW vs n)) s4 C o:=⟨e1',cS hd,by rw [cV hne];exact hid⟩
 have x5:=ExtM.of_keep x4.ok (wr:=[C]) (h':=h') (n:=s4.toks) (λb hb=>(rF.mp hb)▸⟨o,hidC⟩) (λb o hb e=>hs'.extBut b o (λq=>hb (rF.mpr q)) e) (ae _)
 have xx:ExtM W (λb=>((b=C\/b=a)\/B b)\/b=env.locals) g1 s1 (gu g2 a (mW vs n)) {s4 with heap:=h',toks:=s4.toks }:=((x3.mono λb hb=>.inl hb).trans (x4.mono λb hb=>.inr hb)).trans (x5.mono λb hb=>.inl (.inl (.inl (rF.mp hb))))
 refine hQ _ _ ((x1.toM.trans xx).drop λb o hm hn e=>?_) (F4.extM x5 (dU λb hb h=>by
  have:=ownLt b hb
  rw [rF.mp h] at this;exact (qF [1,1]:cz [.l Y0 Y1,aR Y1 Y0]) hC this))
 rcases hm with ((rfl | rfl) | hb) | hb
 .exact x1.before (bf hC) o e
 .exact x1.before (bf ha) o e
 .exact hB b o hb e
 .exact absurd hb hn
noncomputable def dc:List Str->List D->Rho->Rho
 | n :: ns,d :: ds,r=>.bind n d (dc ns ds r)
 | _,_,r=>r
theorem qo:∀(ns:List Str) (ds:List D) (r:Rho),cm (dc ns ds r)=cm r
 | [],_,r=>rfl
 | _ :: _,[],r=>rfl
 | n :: ns,d :: ds,r=>qo ns ds r
theorem jN:∀{ns:List Str} {vs:List Value} {ds:List D} {r:Rho} {x:Str} {d:D},RepAll W g vs ds->ns.length=ds.length->look (dc ns ds r) x=some d->
  (∃v,(ns.zip vs).lookup x=some v/\Rep W g v d)\/(x∉ns/\look r x=some d)
 | [],_,[],r,x,d,.nil,_,h=>.inr ⟨List.not_mem_nil,h⟩
 | n :: ns,_,d0 :: ds,r,x,d,.cons (v:=v) a b,hl,h=>by
  have h:(if n=x then some d0 else look (dc ns ds r) x)=some d:=h
  rw [Ha,aT]
  by_cases hn:n=x
  .subst hn
   rw [if_pos rfl] at h
   (refine eQ h ?_;clear h;intro q₁;subst q₁)
   exact .inl ⟨v,by simp,a⟩
  .rw [if_neg hn] at h
   have hb:(x==n)=false:=beq_eq_false_iff_ne.mpr (fy hn)
   rw [hb]
   rcases jN b (by simpa using hl) h with q | ⟨q1,q2⟩
   .exact .inl q
   .exact .inr ⟨by simp [fy hn,q1],q2⟩
theorem mX:∀{l:List (Str×Value)},(l.map (·.1)).Nodup->∀x,l.reverse.lookup x=l.lookup x
 | [],_,_=>rfl
 | (n,v) :: r,h,x=>by
  rw [aD,fR] at h
  rw [iF,Hb,mX h.2,aT]
  by_cases hx:x==n
  .have e:x=n:=by simpa using hx
   subst e
   have:r.lookup x=none:=by
    cases hl:r.lookup x with
    | none=>rfl
    | some u=>exact absurd (Cj.mpr ⟨_,mem_of_lookup hl,rfl⟩) h.1
   simp [this]
  .simp only [hx,aT,List.lookup_nil]
   cases r.lookup x<;>rfl
structure FnOk (fd:FuncData):Prop where
 kind:fd.scope.kind=.function
 co:fd.scope.isCoroutine=false
 gen:fd.scope.isGenerator=false
 glo:fd.globals=mainGlobals
 bui:fd.builtins=builtinsNs
 ncd:fd.scope.names.lookup ("__classdict__":Str)≠some .free
structure CloOk (W:Wd)(g:View)(s:Shared)(fd:FuncData)(ρc:Rho):Prop where
 liv:∀x c,fd.closure.lookup x=some c->(∃v,s.heap.IsCell c v)/\(cm ρc=false->g.obj c=none)
 inj:∀x y c,fd.closure.lookup x=some c->fd.closure.lookup y=some c->x=y
 cel:∀x,fd.scope.names.lookup x=some .free->∃c cv,fd.closure.lookup x=some c/\s.heap.IsCell c cv/\∀d,look ρc x=some d->∃v,cv=some v/\Rep W g v d
 fre:∀x d,look ρc x=some d->fd.scope.names.lookup x=some .free
theorem CloOk.nil (hc:fd.closure=[])(hf:∀x,fd.scope.names.lookup x≠some .free):CloOk W g s fd .nil:=
 ⟨λx c e=>(by rw [hc] at e;exact (aK e).elim),λx y c e=>(by rw [hc] at e;exact (aK e).elim),λx e=>absurd e (hf x),λx d e=>((aK e).elim)⟩
noncomputable def yq (W:Wd)(A:Around)(env:Env)(b:FuncBody)(Q:Value->Shared->Prop)(E:Value->Shared->Prop)(s:Shared):Prop:=match b with
 | .stmts body=>wpAny (model W.prog W.w) A (execs body env) (λf s'=>Q (match f with | .ret v=>v | _=>.none) s') E s
 | .expr e=>wpAny (model W.prog W.w) A (eval e env) Q E s
noncomputable def Fj (W:Wd)(A:Around)(env:Env)(E:Value->Shared->Prop)(e:Value)(s:Shared):Prop:=wpAny (model W.prog W.w) A (leaving env e) (λ_ s''=>E e s'') (λe' s''=>E e' s'') s
theorem sw {args:Args}{binds:List (Str×Value)}(hroom:A.depth < recursionLimit)(ho:s.heap.get? a=some o)(hd:o.data=.func fd)(hf:FnOk fd)(hcd:s.heap.CodeRec fd.code fd.qualname)(hbind:BindsTo s fd args binds)(h:wpAny (model W.prog W.w) A.in1 (newFunctionEnv fd.scope fd.globals fd.closure binds (fd.qualname++".<locals>.") (some a) fd.code none fd.builtins)
   (λenv s1=>s1.heap.NoLimit/\yq W (A.deeper env) env fd.body Q (Fj W (A.deeper env) env E) s1) E s):wpAny (model W.prog W.w) A (call (.ref a) args.pos args.kw) Q E s:=by
 refine wpAny_call ?_
 have hargs:(⟨args.pos,args.kw⟩:Args)=args:=rfl
 rw [hargs]
 cases hb:fd.body with
 | stmts body=>
  refine codeAny_call_function hroom ho hd hf.co hf.gen hb hcd (hbind _ _ _ _ (aI h (λenv s1 h1=>⟨h1.1,?_⟩) λ_ _ e=>e))
  have h2:=h1.2
  rw [hb] at h2
  exact codeAny_func (aI h2 (λf s' q=>by cases f<;>exact q) λe s' q=>q)
 | expr e=>
  refine kla_callFunE hroom ho hd hf.co hf.gen hb hcd (hbind _ _ _ _ (aI h (λenv s1 h1=>⟨h1.1,?_⟩) λ_ _ e=>e))
  have h2:=h1.2
  rw [hb] at h2
  exact kla_codeExpr (aI h2 (λv s' q=>q) λe s' q=>q)
variable {ρc:Rho}{names:List Str}
theorem vF {args:Args}(hroom:A.depth < recursionLimit)(K:Ok W g s)(ho:s.heap.get? a=some o)(hd:o.data=.func fd)(hf:FnOk fd)(hnc:∀y∈fd.scope.names,y.2≠.cell)(hcd:s.heap.CodeRec fd.code fd.qualname)(hbind:BindsTo s fd args (names.zip vs))(hnd:names.Nodup)(hloc:∀x∈names,fd.scope.names.lookup x=some .local)(hl:names.length=ds.length)(r:RepAll W g vs ds)(C:CloOk W g s fd ρc)(h:∀env s1,env.scope=fd.scope->env.cells=fd.closure->env.code=fd.code->env.qual=fd.qualname++".<locals>."->env.frame=some env.locals->s.heap.objs.size<=env.locals->Ext W g s g s1->Fra W g s1 env (dc names ds ρc)->
   yq W (A.deeper env) env fd.body Q (Fj W (A.deeper env) env E) s1):wpAny (model W.prog W.w) A (call (.ref a) args.pos args.kw) Q E s:=by
 have hmap:(names.zip vs).map (·.1)=names:=uc (by rw [r.length,hl];exact ae _)
 refine sw hroom ho hd hf hcd hbind (wpAny_newFunctionEnv hnc (λx hx=>hloc x.1 (by rw [<-hmap];exact Cj.mpr ⟨x,hx,rfl⟩)) (λh₁ hns hsb=>⟨K.nolimit.fresh _ hsb,?_⟩) hf.kind)
 have x1:=Ext.pushHid K {cls:=.type (if (none:Option Env).isSome then "dict" else "frame"),data:=.dict #[] }
 have hidC0:Hid g {s with heap:=s.heap.push {cls:=.type (if (none:Option Env).isSome then "dict" else "frame"),data:=.dict #[] } } s.heap.objs.size {cls:=.type (if (none:Option Env).isSome then "dict" else "frame"),data:=.dict #[] }:=
  ⟨Heap.get?_push_size _ rfl,rfl,K.fresh (ae _)⟩
 have x2:=ExtM.of_keep x1.ok (wr:=[s.heap.objs.size]) (h':=h₁) (n:=s.toks + (names.zip vs).length) (λb hb=>(rF.mp hb)▸⟨_,hidC0⟩) (λb o hb e=>hsb.extBut b o (λq=>hb (rF.mpr q)) e) (b9 _ _)
 have x3:Ext W g s g {s with heap:=h₁,toks:=s.toks + (names.zip vs).length }:=(x1.toM.trans x2).toExt λb o hb=>bf (dw (rF.mp hb).symm) o
 refine h _ _ rfl rfl rfl rfl rfl (ae _) x3 {kind:=hf.kind,glo:=hf.glo,bui:=hf.bui,ncd:=hf.ncd,hid:=K.fresh (ae _),loc:=⟨_,hns,λx d e hk=>?_⟩,inj:=C.inj,liv:=λx c e=>?_,cel:=λx hk=>?_ }
 .rcases jN r hl e with ⟨v,hv,rv⟩ | ⟨q1,q2⟩
  .exact ⟨v,by rw [mX (by rw [hmap];exact hnd)];exact hv,rv⟩
  .have:=C.fre x d q2
   rw [show fd.scope.names.lookup x=some .local from hk] at this;cases this
 .have hx0:=C.liv x c e;have hn0:=hx0.1;have q2:=hx0.2;obtain ⟨v,q⟩:=hn0
  exact ⟨⟨v,sA q x3.keep⟩,λhz=>q2 ((qo ..).symm.trans hz)⟩
 .have hfree:fd.scope.names.lookup x=some .free:=by
   rcases hk with hk | hk
   .exact absurd rfl (hnc _ (mem_of_lookup hk))
   .exact hk
  apply bP (C.cel x hfree);intro c cv e1 e2 e3
  refine ⟨c,cv,e1,sA e2 x3.keep,λd e=>?_⟩
  rcases jN r hl e with ⟨v,hv,_⟩ | ⟨q1,q2⟩
  .have hm:=mem_of_lookup hv
   have:=hloc x (by rw [<-hmap];exact Cj.mpr ⟨_,hm,rfl⟩)
   rw [hfree] at this;cases this
  .exact e3 d q2
theorem gf:∀{names:List (Str×NameKind)} {n:Nat} {acc:List (Str×Addr)} {x:Str},(acc.lookup x).isSome=true\/(x,eR)∈names->((cellsFrom n names acc).lookup x).isSome=true
 | [],n,acc,x,h=>by simpa [cellsFrom] using h
 | (m,k) :: r,n,acc,x,h=>by
  unfold cellsFrom
  split
  .refine gf ?_
   rw [aT]
   by_cases hx:x==m
   .simp [hx]
   .simp only [hx]
    rcases h with h | h
    .exact .inl h
    .rcases List.mem_cons.mp h with e | h
     ·(refine mQ e ?_;clear e;intro q₁ q₂;subst q₁ q₂);simp at hx
     .exact .inr h
  .rename_i hk
   refine gf ?_
   rcases h with h | h
   .exact .inl h
   .rcases List.mem_cons.mp h with e | h
    ·(refine mQ e ?_;clear e;intro q₁ q₂;subst q₁ q₂);exact absurd rfl hk
    .exact .inr h
theorem yf {kindOf:Str->Option NameKind}{x:Str}(hk:kindOf x=some .local):∀{binds:List (Str×Value)} {m:Str->Option Value},(binds.map (·.1)).Nodup->bindL kindOf binds m x=(binds.lookup x).or (m x)
 | [],m,_=>by simp [bindL]
 | (n,v) :: r,m,h=>by
  rw [aD,fR] at h
  unfold bindL
  rw [yf hk h.2,aT]
  by_cases hx:x==n
  .have e:x=n:=by simpa using hx
   subst e
   have:r.lookup x=none:=by
    cases hl:r.lookup x with
    | none=>rfl
    | some u=>exact absurd (Cj.mpr ⟨_,mem_of_lookup hl,rfl⟩) h.1
   simp [this,hk]
  .have hx':¬x=n:=λe=>hx (by simp [e])
   simp only [hx]
   by_cases hkn:kindOf n=some .local<;>simp [hkn,hx']
theorem yg {kindOf:Str->Option NameKind}{x:Str}(hk:kindOf x=some .cell):∀{binds:List (Str×Value)} {m:Str->Option Value},(binds.map (·.1)).Nodup->bindC kindOf binds m x=(binds.lookup x).or (m x)
 | [],m,_=>by simp [bindC]
 | (n,v) :: r,m,h=>by
  rw [aD,fR] at h
  unfold bindC
  rw [yg hk h.2,aT]
  by_cases hx:x==n
  .have e:x=n:=by simpa using hx
   subst e
   have:r.lookup x=none:=by
    cases hl:r.lookup x with
    | none=>rfl
    | some u=>exact absurd (Cj.mpr ⟨_,mem_of_lookup hl,rfl⟩) h.1
   simp [this,hk]
  .have hx':¬x=n:=λe=>hx (by simp [e])
   simp only [hx]
   by_cases hkn:kindOf n=some .local<;>simp [hkn,hx']
theorem jg {args:Args}(hroom:A.depth < recursionLimit)(K:Ok W g s)(ho:s.heap.get? a=some o)(hd:o.data=.func fd)(hf:FnOk fd)(hclo:fd.closure=[])(hnf:∀x,fd.scope.names.lookup x≠some .free)(hcd:s.heap.CodeRec fd.code fd.qualname)(hbind:BindsTo s fd args (names.zip vs))(hnd:names.Nodup)(hloc:∀x∈names,fd.scope.names.lookup x=some .local\/fd.scope.names.lookup x=some .cell)(hl:names.length=ds.length)(r:RepAll W g vs ds)(h:∀env s1,env.scope=fd.scope->env.code=fd.code->env.qual=fd.qualname++".<locals>."->env.frame=some env.locals->(∀b,Own env b->s.heap.objs.size<=b)->Ext W g s g s1->Fra W g s1 env (dc names ds .nil)->
   yq W (A.deeper env) env fd.body Q (Fj W (A.deeper env) env E) s1):wpAny (model W.prog W.w) A (call (.ref a) args.pos args.kw) Q E s:=by
 have hmap:(names.zip vs).map (·.1)=names:=uc (by rw [r.length,hl];exact ae _)
 have hmem:∀{x v},(names.zip vs).lookup x=some v->x∈names:=λ{x v} e=>by rw [<-hmap];exact Cj.mpr ⟨_,mem_of_lookup e,rfl⟩
 refine sw hroom ho hd hf hcd hbind ?_
 rw [hclo]
 refine ch (ae _) (wpAny_newFunctionEnv_cells hf.kind (λx hx=>?_) λenv he s1 X hle=>?_)
 .rcases hloc x.1 (by rw [<-hmap];exact Cj.mpr ⟨x,hx,rfl⟩) with q | q
  .exact .inl q
  .exact .inr ⟨q,gf (.inr (mem_of_lookup q))⟩
 .subst he
  apply fo (X.toInCall.done);intro h' tk hq0 hkeep;subst hq0
  have x3:Ext W g s g {s with heap:=h',toks:=tk }:=Ext.kept K hkeep hle
  have hL:=X.toInCall.fresh
  have hfresh:∀x c,(cellsFrom (s.heap.objs.size + 1) fd.scope.names []).lookup x=some c->s.heap.objs.size<=c:=λx c e=>cZ (X.above x c (mem_of_lookup e))
  refine ⟨K.nolimit.keeps hkeep,h _ _ rfl rfl rfl rfl (λb hb=>?_) x3 {kind:=hf.kind,glo:=hf.glo,bui:=hf.bui,ncd:=hf.ncd,hid:=K.fresh hL,loc:=⟨_,X.toInCall.ns,λx d e hk=>?_⟩,inj:=λx y c e1 e2=>name_of_addr X.apart (mem_of_lookup e1) (mem_of_lookup e2),liv:=λx c e=>?_,cel:=λx hk=>?_ }⟩
  .rcases hb with rfl | ⟨x,e⟩
   .exact hL
   .exact hfresh x b e
  .rcases jN r hl e with ⟨v,hv,rv⟩ | ⟨_,q2⟩
   .exact ⟨v,by rw [yf hk (by rw [hmap];exact hnd),hv];rfl,rv⟩
   .exact (aK q2).elim
  .exact ⟨⟨_,X.cell x c e⟩,λ_=>K.fresh (hfresh x c e)⟩
  .have hcell:fd.scope.names.lookup x=some .cell:=by
    rcases hk with hk | hk
    .exact hk
    .exact absurd hk (hnf x)
   obtain ⟨c,hc⟩:=Option.isSome_iff_exists.mp (gf (n:=s.heap.objs.size + 1) (acc:=[]) (.inr (mem_of_lookup hcell)))
   refine ⟨c,_,hc,X.cell x c hc,λd e=>?_⟩
   rcases jN r hl e with ⟨v,hv,rv⟩ | ⟨_,q2⟩
   .exact ⟨v,by rw [yg (kindOf:=(newEnv fd.scope s.heap.objs.size fd.globals (cellsFrom (s.heap.objs.size + 1) fd.scope.names []) (fd.qualname++".<locals>.") (some a) fd.code none fd.builtins).kindOf) hcell (by rw [hmap];exact hnd),hv];rfl,rv⟩
   .exact (aK q2).elim
noncomputable def oK (sc:Scope)(gl:Str->Option D)(ρ:Rho)(x:Str):Option D:=match sc.names.lookup x with
 | some .globalImplicit=>gl x
 | some .local=>if x==("__debug__":Str) then none else look ρ x
 | some .cell=>if x==("__debug__":Str) then none else look ρ x
 | some .free=>if x==("__debug__":Str) then none else look ρ x
 | _=>none
variable {sc:Scope}
theorem fG {gl:Str->Option D}(hs:env.scope=sc)(G:kS W gl)(e:oK sc gl ρ x=some d):aQ W A env ρ (.Name x p) d:=by
 have hk:∀k,sc.names.lookup x=some k->env.kindOf x=some k:=λk h=>by unfold bj;rw [hs];exact h
 have hd:∀{o:Option D},(if (x==("__debug__":Str))=true then none else o)=some d->(x==("__debug__":Str))=false/\o=some d:=λ{o} h=>by
  cases hx:(x==("__debug__":Str)) with
  | true=>rw [hx] at h;exact (aK h).elim
  | false=>rw [hx] at h;exact ⟨rfl,h⟩
 unfold oK at e
 cases h:sc.names.lookup x with
 | none=>rw [h] at e;exact (aK e).elim
 | some kd=>
  rw [h] at e
  cases kd with
  | globalImplicit=>exact Bj G (hk _ h) e
  | «local»=>exact vw (hd e).1 (hk _ h) (hd e).2
  | cell=>exact xO (hd e).1 (.inl (hk _ h)) (hd e).2
  | free=>exact xO (hd e).1 (.inr (hk _ h)) (hd e).2
  | _=>exact (aK e).elim
inductive AllTo (W:Wd)(A:Around)(env:Env)(ρ:Rho):BoolOp->List Expr->Bool->Prop
 | and_nil:AllTo W A env ρ .And [] true
 | and_false {x r:_}:gv W A env ρ x false->AllTo W A env ρ .And (x :: r) false
 | and_true {x r b:_}:gv W A env ρ x true->AllTo W A env ρ .And r b->AllTo W A env ρ .And (x :: r) b
 | or_nil:AllTo W A env ρ .Or [] false
 | or_true {x r:_}:gv W A env ρ x true->AllTo W A env ρ .Or (x :: r) true
 | or_false {x r b:_}:gv W A env ρ x false->AllTo W A env ρ .Or r b->AllTo W A env ρ .Or (x :: r) b
theorem Kq {op:BoolOp}{b:Bool}(h:AllTo W A env ρ op es b):∀g s,Fra W g s env ρ->Ok W g s->Qb W A (allTrue op es env) g s b:=by
 induction h with
 | and_nil=>exact λg s F k Q E hQ=>wpAny_allTrue_And_nil (hQ g s (Ext.refl k))
 | or_nil=>exact λg s F k Q E hQ=>wpAny_allTrue_Or_nil (hQ g s (Ext.refl k))
 | and_false h1=>exact λg s F k Q E hQ=>wpAny_allTrue_And_cons (h1 g s F k _ _ λg1 s1 x1=>hQ g1 s1 x1)
 | or_true h1=>exact λg s F k Q E hQ=>wpAny_allTrue_Or_cons (h1 g s F k _ _ λg1 s1 x1=>hQ g1 s1 x1)
 | and_true h1 _ ih=>exact λg s F k Q E hQ=>wpAny_allTrue_And_cons (h1 g s F k _ _ λg1 s1 x1=>ih g1 s1 (F.ext x1) x1.ok _ _ λg2 s2 x2=>hQ g2 s2 (x1.trans x2))
 | or_false h1 _ ih=>exact λg s F k Q E hQ=>wpAny_allTrue_Or_cons (h1 g s F k _ _ λg1 s1 x1=>ih g1 s1 (F.ext x1) x1.ok _ _ λg2 s2 x2=>hQ g2 s2 (x1.trans x2))
theorem rM {op:BoolOp}{b:Bool}(h:AllTo W A env ρ op es b):gv W A env ρ (.BoolOp op es p) b:=λg s F k Q E hQ=>
 wpAny_isTrue_BoolOp (Kq h g s F k Q E hQ)
noncomputable def ObjIs (W:Wd)(g:View)(o:Obj):D->Prop
 | .list ds=>∃vs n,o=mW vs n/\RepAll W g vs.toList ds
 | .idict ks ds=>∃vs,o.IsDictOf (intKind W.prog W.w) (ks.zip vs)/\ks.length=vs.length/\RepAll W g vs ds
 | _=>False
theorem ObjIs.mono (h:ObjIs W g o d)(le:Le g g'):ObjIs W g' o d:=by
 cases d with
 | list ds=>exact fo h λvs n e r=>⟨vs,n,e,r.mono le⟩
 | idict ks ds=>exact bT h λvs e l r=>⟨vs,e,l,r.mono le⟩
 | _=>exact h
structure AccD (W:Wd)(g:View)(s:Shared)(a:Addr)(d:D):Prop where
 obj:∃o,Hid g s a o/\ObjIs W g o d
 sys:(a==sysModules)=false
theorem AccD.extM (h:AccD W g s a d)(x:ExtM W N g s g' s')(hm:¬N a):AccD W g' s' a d:=⟨aA h.obj λo h1 h2=>⟨o,h1.ext x hm,h2.mono x.le⟩,h.sys⟩
theorem AccD.alive (h:AccD W g s a d):∃o,Hid g s a o:=aA h.obj λo h1 _=>⟨o,h1⟩
theorem AccD.list (h:AccD W g s a (.list ds)):AccIs W g s a ds:=EO h.obj λo h1 vs n e r=>⟨vs,n,e▸h1,r⟩
theorem AccD.of (h:AccIs W g s a ds)(hs:(a==sysModules)=false):AccD W g s a (.list ds):=fo h λvs n h1 r=>⟨⟨_,h1,vs,n,rfl,r⟩,hs⟩
noncomputable abbrev ww:=List (Addr×D)
structure LayOk (W:Wd)(env:Env)(g:View)(s:Shared)(L:ww):Prop where
 acc:∀p∈L,AccD W g s p.1 p.2
 nd:(L.map (·.1)).Nodup
 own:∀p∈L,¬Own env p.1
theorem LayOk.nil:LayOk W env g s []:=⟨λ_ h=>(nomatch h),ym,λ_ h=>(nomatch h)⟩
variable {L:ww}
theorem LayOk.ext (h:LayOk W env g s L)(x:Ext W g s g' s'):LayOk W env g' s' L:=⟨λp hp=>(h.acc p hp).extM (N:=λ_=>False) x.toM id,h.nd,h.own⟩
theorem LayOk.extM (h:LayOk W env g s L)(x:ExtM W N g s g' s')(hn:∀p∈L,¬N p.1):LayOk W env g' s' L:=⟨λp hp=>(h.acc p hp).extM x (hn p hp),h.nd,h.own⟩
noncomputable def PostW (W:Wd)(M:Addr->Prop)(env:Env)(g0:View)(s0:Shared)(Kn:Rho->ww->Prop)(Pr:D->ww->Prop)(f:Flow)(s:Shared):Prop:=match f with
 | .next=>∃g ρ L,ExtM W M g0 s0 g s/\Fra W g s env ρ/\LayOk W env g s L/\Kn ρ L
 | .ret v=>(∃g d L,ExtM W M g0 s0 g s/\Rep W g v d/\LayOk W env g s L/\Pr d L)\/(W.esc env.scope v s/\s={s0 with heap:=s.heap,toks:=s.toks })
 | _=>False
variable {s1 s2:Shared}
theorem dA (a:s1={s with heap:=s1.heap,toks:=s1.toks })(b:s2={s1 with heap:=s2.heap,toks:=s2.toks }):s2={s with heap:=s2.heap,toks:=s2.toks }:=by rw [b,a]
noncomputable def MO (env:Env)(L:ww)(a:Addr):Prop:=OwnW env a\/a∈L.map (·.1)
variable {g0:View}{s0:Shared}{Pr:D->ww->Prop}{Kn:Rho->ww->Prop}
theorem PostW.trans {f:Flow}(x:ExtM W M g0 s0 g s)(h:PostW W M env g s Kn Pr f s'):PostW W M env g0 s0 Kn Pr f s':=by
 cases f with
 | next=>apply pv (h);intro g' ρ L y r;exact ⟨g',ρ,L,x.trans y,r⟩
 | ret v=>exact h.imp (λzq0=>let ⟨g',d,L,y,r⟩:=zq0;⟨g',d,L,x.trans y,r⟩) λzq0=>let ⟨y,r⟩:=zq0;⟨y,by rw [r,x.same]⟩
 | cont=>exact h
 | brk=>exact h
theorem PostW.mono {f:Flow}(h:PostW W M env g0 s0 Kn Pr f s')(hm:∀a,M a->N a):PostW W N env g0 s0 Kn Pr f s':=by
 cases f with
 | next=>apply pv (h);intro g' ρ L y r;exact ⟨g',ρ,L,y.mono hm,r⟩
 | ret v=>exact h.imp_left λzq0=>let ⟨g',d,L,y,r⟩:=zq0;⟨g',d,L,y.mono hm,r⟩
 | cont=>exact h
 | brk=>exact h
theorem PostW.drop {f:Flow}(h:PostW W M env g0 s0 Kn Pr f s')(hd:∀a o,M a->¬N a->s0.heap.get? a=some o->bD o=true):PostW W N env g0 s0 Kn Pr f s':=by
 cases f with
 | next=>apply pv (h);intro g' ρ L y r;exact ⟨g',ρ,L,y.drop hd,r⟩
 | ret v=>exact h.imp_left λzq0=>let ⟨g',d,L,y,r⟩:=zq0;⟨g',d,L,y.drop hd,r⟩
 | cont=>exact h
 | brk=>exact h
structure Blk (W:Wd)(A:Around)(env:Env)(ρ:Rho)(L:ww)(ss:List Stmt)(Kn:Rho->ww->Prop)(Pr:D->ww->Prop):Prop where
 run:∀g s,Fra W g s env ρ->Ok W g s->LayOk W env g s L->∀E,wpAny (model W.prog W.w) A (execs ss env) (PostW W (MO env L) env g s Kn Pr) E s
noncomputable def Has (env:Env)(z:Bool)(x:Str):Prop:=env.kindOf x=some .local\/(env.kindOf x=some .cell/\z=false)
theorem Has.kind {z:Bool}(h:Has env z x):wo env (OwnW env) z x:=h.elim (λh=>.inl ⟨h,.inl rfl⟩) λh=>.inr ⟨h.1,h.2,λc e=>.inr ⟨x,h.1,e⟩⟩
theorem LayOk.step (l:LayOk W env g s L)(x:ExtM W (OwnW env) g s g' s'):LayOk W env g' s' L:=l.extM x λp hp h=>l.own p hp h.own
theorem db (h:Kn ρ L):Blk W A env ρ L [] Kn Pr:=.mk λg s F k l E=>pM ⟨g,ρ,L,ExtM.refl k,F,l,h⟩
variable {L':ww}{rest:List Stmt}
theorem fh {st:Stmt}(hs:∀a∈L'.map (·.1),a∈L.map (·.1))(h:∀g s,Fra W g s env ρ->Ok W g s->LayOk W env g s L->∀(Q:Flow->Shared->Prop) E,(∀g' s',ExtM W (MO env L) g s g' s'->Fra W g' s' env ρ'->LayOk W env g' s' L'->Q .next s')->wpAny (model W.prog W.w) A (exec st env) Q E s)(hr:Blk W A env ρ' L' rest Kn Pr):Blk W A env ρ L (st :: rest) Kn Pr:=.mk λg s F k l E=>
 aP (h g s F k l _ _ λg1 s1 x1 F1 l1=>aI (hr.run g1 s1 F1 x1.ok l1 E) (λf s' q=>(q.mono λa h=>h.elim .inl λh=>.inr (hs a h)).trans x1) λ_ _ e=>e)
theorem z5 (he:aQ W A env ρ e d)(h:Pr d L):Blk W A env ρ L (.Return (some e) p :: rest) Kn Pr:=.mk λg s F k l E=>
 aP (jn (he g s F k _ _ λv g1 s1 x1 r1=>.inl ⟨g1,d,L,x1.toM,r1,l.ext x1,h⟩))
theorem rj (h:Pr .none L):Blk W A env ρ L (.Return none p :: rest) Kn Pr:=.mk λg s F k l E=>
 aP (wpAny_Return_none (.inl ⟨g,.none,L,ExtM.refl k,.none,l,h⟩))
theorem iV (he:aQ W A env ρ e d)(hk:Has env (cm ρ) x)(hs:swapsWith e (some (.Name x p')) p.line env=pure false)(h:Blk W A env (.bind x d ρ) L rest Kn Pr):
  Blk W A env ρ L (.Assign [.Name x p'] e p :: rest) Kn Pr:=
 fh (λ_ h=>h) (λg s F k l Q E hQ=>gz (he g s F k _ _ λv g1 s1 x1 r1=>gi (F.ext x1) x1.ok hk.kind r1 λs2 x2 F2=>
  hQ g1 s2 (x1.toM.trans (x2.mono λa h=>.inl h)) F2 ((l.ext x1).step x2)) hs) h
theorem sB {b o:List Stmt}{c:Bool}(ht:gv W A env ρ t c)(h:Blk W A env ρ L (if c then b else o) (λρ' L'=>(∀a∈L'.map (·.1),a∈L.map (·.1))/\Blk W A env ρ' L' rest Kn Pr) Pr):Blk W A env ρ L (.If t b o p :: rest) Kn Pr:=.mk λg s F k l E=>by
 refine aP (wpAny_If (ht g s F k _ _ λg1 s1 x1=>?_))
 have h1:=h.run g1 s1 (F.ext x1) x1.ok (l.ext x1) E
 have tail:∀(f:Flow) s',PostW W (MO env L) env g1 s1 (λρ' L'=>(∀a∈L'.map (·.1),a∈L.map (·.1))/\Blk W A env ρ' L' rest Kn Pr) Pr f s'->(match f with | .next=>wpAny (model W.prog W.w) A (execs rest env) (PostW W (MO env L) env g s Kn Pr) E s' | f=>PostW W (MO env L) env g s Kn Pr f s'):=λf s' q=>by
  cases f with
  | next=>
   apply gn (q);intro g2 ρ2 L2 x2 F2 l2 hs hb
   exact aI (hb.run g2 s' F2 x2.ok l2 E) (λf s'' q=>(q.mono λa h=>h.elim .inl λh=>.inr (hs a h)).trans (x1.toM.trans x2)) λ_ _ e=>e
  | ret v=>exact q.imp (λzq0=>let ⟨g2,d,L2,x2,r⟩:=zq0;⟨g2,d,L2,x1.toM.trans x2,r⟩) λzq0=>let ⟨a,b⟩:=zq0;⟨a,dA x1.same b⟩
  | cont=>exact q.elim
  | brk=>exact q.elim
 cases c with
 | true=>exact aI h1 tail λ_ _ e=>e
 | false=>exact aI h1 tail λ_ _ e=>e
variable {ss:List Stmt}
theorem de (hl:LeR ρ' ρ)(h:Blk W A env ρ' L ss Kn Pr):Blk W A env ρ L ss Kn Pr:=.mk λg s F k l E=>h.run g s (F.forget hl) k l E
variable {pt:Pos}
theorem pG (hh:A.handled=none)(he:aQ W A env ρ e (.tup ds))(ha:sD es ds ρ=some ρ')(hk:∀x∈ia (.Tuple es n pt),Has env (cm ρ) x)(hw:swappedStores [.Tuple es n pt] e env=pure none)(h:Blk W A env ρ' L rest Kn Pr):Blk W A env ρ L (.Assign [.Tuple es n pt] e p :: rest) Kn Pr:=
 fh (λ_ h=>h) (λg s F k l Q E hQ=>by
  refine wpAny_Assign_stores (he g s F k _ _ λv g1 s1 x1 r1=>?_) (by cases e<;>rfl) hw
  show wpAny _ _ (assign (.Tuple es n pt) env v) _ _ _
  exact DW (M:=OwnW env) (t:=.Tuple es n pt) (d:=.tup ds) (ρ':=ρ') hh ha ⟨.rep r1,λh=>(ag h).elim⟩ (F.ext x1) x1.ok (λx hx=>(hk x hx).kind) λs2 x2 F2=>hQ g1 s2 (x1.toM.trans (x2.mono λa h=>.inl h)) F2 ((l.ext x1).step x2)) h
noncomputable def og:List Str->List D->Rho->Rho
 | n :: ns,d :: ds,r=>og ns ds (.bind n d r)
 | _,_,r=>r
theorem DT:∀{ns:List Str} {ds:List D} {vs:List Value} {ρ:Rho} {g:View} {s:Shared},ns.length=ds.length->RepAll W g vs ds->Fra W g s env ρ->Ok W g s->(∀x∈ns,wo env M (cm ρ) x)->
  ∀(Q:Unit->Shared->Prop) (E:Value->Shared->Prop),(∀s',ExtM W M g s g s'->Fra W g s' env (og ns ds ρ)->Q () s')->wpAny (model W.prog W.w) A (assignInOrder (ns.map λn=>bindName env n) vs) Q E s:=by
 intro ns
 induction ns with
 | nil=>
  intro ds vs ρ g s hl r F k hk Q E hQ
  cases ds with
  | nil=>exact aj (hQ s (ExtM.refl k) F)
  | cons d ds=>simp at hl
 | cons n ns ih=>
  intro ds vs ρ g s hl r F k hk Q E hQ
  cases ds with
  | nil=>simp at hl
  | cons d ds=>
  cases r with | cons r rs=>
  rename_i v vs
  show wpAny _ _ (do holding vs (bindName env n v);assignInOrder (ns.map λn=>bindName env n) vs) Q E s
  refine aa (bK (wpAny_bindName (gi F k (hk n (.head _)) r λs1 x1 F1=>?_)))
  exact ih (by simpa using hl) rs F1 x1.ok (λy h=>hk y (.tail _ h)) Q E λs2 x2 F2=>hQ s2 (x1.trans x2) F2
theorem BW (hh:A.handled=none)(he:aQ W A env ρ e (.tup ds))(hw:swappedStores [.Tuple es n pt] e env=pure (some names))(hl:names.length=ds.length)(hk:∀x∈names,Has env (cm ρ) x)(h:Blk W A env (og names.reverse ds.reverse ρ) L rest Kn Pr):Blk W A env ρ L (.Assign [.Tuple es n pt] e p :: rest) Kn Pr:=
 fh (λ_ h=>h) (λg s F k l Q E hQ=>by
  rw [exec_Assign_arm]
  refine aa (cM ?_)
  rw [show swapsWithSole [.Tuple es n pt] e p.line env=pure false by cases e<;>rfl]
  refine aa (aj ?_)
  rw [if_neg (by decide)]
  refine aa (he g s F k _ _ λv g1 s1 x1 r1=>?_)
  rw [hw]
  refine aa (aj ?_)
  apply aV (r1.inv_tup);intro a vs nn hq0 h1 h4;subst hq0
  have hT:s1.heap.IsTuple a vs:=⟨_,x1.ok.sub _ _ h1,rfl,nn,rfl⟩
  have hsz:names.length=vs.size:=by rw [hl,<-h4.length,aE]
  show wpAny _ _ (do rule "assign.swapped-stores";let items <-unpackItems (.ref a) names.length none;assignInOrder (names.reverse.map λn=>bindName env n) items.reverse;(pure Flow.next:Sem Flow)) _ _ _
  rw [hsz]
  refine aa (gO (aa (wpAny_unpackItems_tuple hh hT λh' hx=>?_)))
  have x2:Ext W g1 s1 g1 {s1 with heap:=h',toks:=s1.toks }:=Ext.kept x1.ok (λb o eb=>hx b o (bG (aF eb)) eb) (ae _)
  refine aa (DT (M:=OwnW env) (ds:=ds.reverse) (by simp [hl]) h4.reverse ((F.ext x1).ext x2) x2.ok (λx hx=>(hk x (List.mem_reverse.mp hx)).kind) _ _ λs3 x3 F3=>aj (hQ g1 s3 ((x1.trans x2).toM.trans (x3.mono λa h=>.inl h)) F3
   (((l.ext x1).ext x2).step x3)))) h
theorem Own.alive (h:Own env a)(F:Fra W g s env ρ):∃o,s.heap.get? a=some o/\bD o=false:=by
 rcases h with rfl | ⟨x,e⟩
 .obtain ⟨o,ho⟩:=F.hidden;exact ⟨o,ho.get,ho.tab⟩
 .have hx0:=F.liv x a e;have hn0:=hx0.1;obtain ⟨v,o,e1,e2⟩:=hn0;exact ⟨o,e1,du e2⟩
theorem MO.alive (h:MO env L a)(F:Fra W g s env ρ)(l:LayOk W env g s L):∃o,s.heap.get? a=some o/\bD o=false:=by
 rcases h with h | h
 .exact h.own.alive F
 .apply aA (Cj.mp h);intro p hp hq0;subst hq0
  obtain ⟨o,ho⟩:=(l.acc p hp).alive
  exact ⟨o,ho.get,ho.tab⟩
noncomputable def Ks (W:Wd)(A:Around)(env:Env)(ρ:Rho)(L:ww)(target e:Expr)(ds:List D):Prop:=
 ∀g s,Fra W g s env ρ->Ok W g s->LayOk W env g s L->∀(Q:Value->Shared->Prop) (E:Value->Shared->Prop),
  (∀it g' s' B St Md,Ext W g s g' s'->Turns W A target it B ds St Md->St 0 g' s'->(∀b o,B b->s.heap.get? b=some o->bD o=true)->Q it s')->
  wpAny (model W.prog W.w) A (eval e env) (λx s₁=>wpAny (model W.prog W.w) A (pyIter x) Q E s₁) E s
theorem gF {i:Expr}(h:dS W A env ρ t i ds):Ks W A env ρ L t i ds:=λg s F k _=>h g s F k
variable {body:List Stmt}
theorem gL {i:Expr}(R:Nat->Rho)(S:Nat->ww)(hh:A.handled=none)(hns:dR i=true)(hi:Ks W A env ρ L t i ds)(h0:LeR (R 0) ρ)(hS0:S 0=L)(hSa:∀k,k<=ds.length->(S k).map (·.1)=L.map (·.1))(step:∀k d,ds[k]? =some d->(∀x∈ia t,Has env (cm (R k)) x)/\∃ρ',Ce t d (R k)=some ρ'/\Blk W A env ρ' (S k) body (λρ'' L''=>L''=S (k + 1)/\LeR (R (k + 1)) ρ'') Pr)(h:Blk W A env (R ds.length) (S ds.length) rest Kn Pr):Blk W A env ρ L (.For t i body [] p :: rest) Kn Pr:=.mk λg s F k l E=>by
 refine aP (wpAny_For ?_ (gE hns))
 refine hi g s F k l _ _ λit g1 s1 B St Md x1 T st hB=>?_
 have F1:=F.ext x1
 have l1:=l.ext x1
 have hBM:∀b,B b->¬MO env L b:=λb hb hm=>by
  apply aA (hm.alive F l);intro o e t
  rw [hB b o hb e] at t;exact (ag t.symm).elim
 have offB:iv env B:=dU λb hb h=>by
  apply aA (hb.alive F);intro o e t
  rw [hB b o h e] at t;exact (ag t.symm).elim
 have layB:∀{L':ww},L'.map (·.1)=L.map (·.1)->∀p∈L',¬B p.1:=λ{L'} e p hp hb=>hBM _ hb (.inr (by rw [<-e];exact Cj.mpr ⟨p,hp,rfl⟩))
 have fin:∀{f s'},PostW W (λb=>MO env L b\/B b) env g1 s1 Kn Pr f s'->PostW W (MO env L) env g s Kn Pr f s':=λ{f s'} q=>
  (q.trans x1.toM).drop λa o hm hn e=>hm.elim (λh=>absurd h hn) λh=>hB a o h e
 refine codeAny_forLoop_any (λn s'=>∃i g',n=ds.length - i/\i<=ds.length/\ExtM W (λb=>MO env L b\/B b) g1 s1 g' s'/\Fra W g' s' env (R i)/\LayOk W env g' s' (S i)/\St i g' s') (λn s' hI=>?_) ds.length
  ⟨0,g1,rfl,cq _,ExtM.refl x1.ok,F1.forget h0,hS0▸l1,st⟩
 apply n5 (hI);intro i g2 hq0 hile x2 F2 l2 st2;subst hq0
 by_cases hlt:i < ds.length
 .refine T.item hlt x2.ok st2 _ _ λv g3 s3 x3 md=>T.go x3.ok md _ _ λg4 s4 x4 st4 zq0=>aA zq0 λd hd item=>?_
  have x24:=(x2.trans (x3.mono λb hb=>.inr hb)).trans (x4.mono λb hb=>.inr hb)
  have F4:=(F2.extM x3 offB).extM x4 offB
  have l4:=(l2.extM x3 (layB (hSa i hile))).extM x4 (layB (hSa i hile))
  apply oP (step i d hd);intro hk ρ' ha hb
  refine DW (M:=OwnW env) hh ha item F4 x4.ok (λx hx=>(hk x hx).kind) λs5 x5 F5=>?_
  have x25:=x24.trans (x5.mono λb hb=>.inl (.inl hb))
  have l5:=l4.step x5
  have st5:=T.frame st4 x4.ok x5 λb hb h=>hBM b hb (.inl h)
  refine aI (hb.run g4 s5 F5 x5.ok l5 _) (λf s6 q=>?_) λ_ _ e=>e
  have hMO:∀a,MO env (S i) a->MO env L a:=λa h=>h.elim .inl λh=>.inr (by rw [<-hSa i hile];exact h)
  cases f with
  | next=>
   apply gn (q);intro g6 ρ6 L6 x6 F6 l6 hq0 hR;subst hq0
   exact ⟨ds.length - (i + 1),Pd hlt,i + 1,g6,rfl,hlt,x25.trans (x6.mono λb hb=>.inl (hMO b hb)),F6.forget hR,l6,T.frame st5 x5.ok x6 λb hb h=>hBM b hb (hMO b h)⟩
  | ret v=>
   exact fin (q.imp (λzq0=>let ⟨g6,d6,L6,x6,r⟩:=zq0;⟨g6,d6,L6,x25.trans (x6.mono λb hb=>.inl (hMO b hb)),r⟩) λzq0=>let ⟨a,b⟩:=zq0;⟨a,dA x25.same b⟩)
  | cont=>exact q.elim
  | brk=>exact q.elim
 .have hi':i=ds.length:=by exact ar (Bz hile) (Bz (jq hlt))
  subst hi'
  refine T.done x2.ok st2 _ _ λg3 s3 x3=>pM ?_
  have F3:=F2.extM x3 offB
  have l3:=l2.extM x3 (layB (hSa _ hile))
  have hMO:∀a,MO env (S ds.length) a->MO env L a:=λa h=>h.elim .inl λh=>.inr (by rw [<-hSa _ hile];exact h)
  exact aI (h.run g3 s3 F3 x3.ok l3 E) (λf s6 q=>fin ((q.mono λa h=>.inl (hMO a h)).trans (x2.trans (x3.mono λb hb=>.inr hb)))) λ_ _ e=>e
theorem lu (R:α->Rho)(S:α->ww)(c:α->Bool)(nx:α->α)(m:α->Nat)(inv:α->Prop)(a0:α)(hi0:inv a0)(h0:LeR (R a0) ρ)(hS0:S a0=L)(hSa:∀a,(S a).map (·.1)=L.map (·.1))(ht:∀a,inv a->gv W A env (R a) t (c a))(step:∀a,inv a->c a=true->inv (nx a)/\m (nx a) < m a/\Blk W A env (R a) (S a) body (λρ'' L''=>L''=S (nx a)/\LeR (R (nx a)) ρ'') Pr)(h:∀a,inv a->c a=false->Blk W A env (R a) (S a) rest Kn Pr):Blk W A env ρ L (.While t body [] p :: rest) Kn Pr:=.mk λg s F k l E=>by
 refine aP (wpAny_While ?_)
 have hMO:∀a b,MO env (S a) b->MO env L b:=λa b h=>h.elim .inl λh=>.inr (by rw [<-hSa a];exact h)
 refine codeAny_whileLoop (λn s'=>∃a g',n=m a/\inv a/\ExtM W (MO env L) g s g' s'/\Fra W g' s' env (R a)/\LayOk W env g' s' (S a)) (λn s' hI=>?_) (m a0)
  ⟨a0,g,rfl,hi0,ExtM.refl k,F.forget h0,hS0▸l⟩
 apply IR (hI);intro a g1 hq0 hi x1 F1 l1;subst hq0
 refine ht a hi g1 s' F1 x1.ok _ _ λg2 s2 x2=>?_
 cases hc:c a with
 | true=>
  have hx0:=step a hi hc;have hi':=hx0.1;have hm:=hx0.2.1;have hb:=hx0.2.2
  refine aI (hb.run g2 s2 (F1.ext x2) x2.ok (l1.ext x2) _) (λf s3 q=>?_) λ_ _ e=>e
  cases f with
  | next=>
   apply gn (q);intro g3 ρ3 L3 x3 F3 l3 hq0 hR;subst hq0
   exact ⟨m (nx a),hm,nx a,g3,rfl,hi',(x1.trans x2.toM).trans (x3.mono (hMO a)),F3.forget hR,l3⟩
  | ret v=>
   exact q.imp (λzq0=>let ⟨g3,d3,L3,x3,r⟩:=zq0;⟨g3,d3,L3,(x1.trans x2.toM).trans (x3.mono (hMO a)),r⟩) λzq0=>let ⟨b,c⟩:=zq0;⟨b,dA (x1.trans x2.toM).same c⟩
  | cont=>exact q.elim
  | brk=>exact q.elim
 | false=>
  refine pM ?_
  exact aI ((h a hi hc).run g2 s2 (F1.ext x2) x2.ok (l1.ext x2) E) (λf s3 q=>(q.mono (hMO a)).trans (x1.trans x2.toM)) λ_ _ e=>e
noncomputable abbrev rw0:=PySem.Challenge.rw_ta0075_01
noncomputable def E8:List Stmt:=PySem.Challenge.pw_ta0075_01.main.body
noncomputable def OU:List Stmt:=List.append (List.take 7 (iw 6 E8)) (List.append (List.take 6 (iw 14 E8)) (iw 21 E8))
noncomputable def Qv:Program:={PySem.Challenge.pw_ta0075_01 with main:={PySem.Challenge.pw_ta0075_01.main with body:=OU } }
noncomputable def lT:List Str:=["insort_right","bisect_right","insort_left","bisect_left"]
noncomputable def Nh (k:Nat):Stmt:=match iw k E8 with | s :: _=>s | []=>.Pass ⟨0,0,0,0⟩
noncomputable def aH (k:Nat):List Stmt:=match Nh k with | .FunctionDef _ _ b _ _ _ _ _ _ _=>b | _=>[]
noncomputable def IF (k:Nat):Arguments:=match Nh k with | .FunctionDef _ p _ _ _ _ _ _ _ _=>p | _=>⟨[],[],none,[],[],none,[]⟩
noncomputable def bh (k:Nat):Scope:=match Nh k with | .FunctionDef _ _ _ _ _ _ s _ _ _=>s | _=>rw0.row.prog.main.scope
noncomputable def kT (k:Nat)(x:Str)(dV kV pm:Value)(c:Addr):FuncData:={Calls.docDef x (IF k) (aH k) (bh k) pm (.ref c) .none with defaults:=dV,kwdefaults:=kV }
noncomputable def vq (a k:Nat)(x:Str)(dV kV pm:Value)(c:Addr):Nat×Obj:=(a,{cls:=.type "function",data:=.func (kT k x dV kV pm c) })
noncomputable def zR (c:Nat)(x:Str)(t:Nat)(l a k:Int)(u:Nat):Nat×Obj:=(c,{cls:=.type "code",data:=.fields #[.str x t,.str x (t + 1),.str "/claim/cut.py" (t + 2),.int l 0,.int a 0,.int 0 0,.int k 0,.int 3 0,.ref (c - 5),.bool true,.int 181 0,.ref (c - 4),.none,.ref (c - 3),.ref (c - 2),.ref (c - 1),.int u 0,.int l 0,.str "/claim/cut.py" (u + 1)] })
noncomputable abbrev tF:Value:=.str "cpy313.bisect" 187
noncomputable abbrev mC:Value:=.str "cpy313._pylong" 243
noncomputable abbrev lS:Value:=.str "cpy313.xml.etree.ElementTree" 325
noncomputable abbrev jf:Value:=.str "law_ta0075_01" 369
noncomputable def Kf (P:Params):Frag:=[
 (3,{cls:=.type "dict",data:=.dict #[{hash:=aG P ("__name__"),key:=.str ("__name__") 165,val:=.str ("law_ta0075_01") 369 },{hash:=aG P ("__doc__"),key:=.str ("__doc__") 166,val:=.none },{hash:=aG P ("__package__"),key:=.str ("__package__") 167,val:=.none },{hash:=aG P ("__loader__"),key:=.str ("__loader__") 168,val:=.builtin "__main__.__loader__#opaque" },{hash:=aG P ("__spec__"),key:=.str ("__spec__") 169,val:=.none },{hash:=aG P ("__annotations__"),key:=.str ("__annotations__") 170,val:=.ref 6 },{hash:=aG P ("__builtins__"),key:=.str ("__builtins__") 171,val:=.ref 4 },{hash:=aG P ("__file__"),key:=.str ("__file__") 173,val:=.str ("/claim/cut.py") 172 },{hash:=aG P ("__cached__"),key:=.str ("__cached__") 174,val:=.none },{hash:=aG P ("insort_right"),key:=.str ("insort_right") 201,val:=.ref 23 },{hash:=aG P ("bisect_right"),key:=.str ("bisect_right") 215,val:=.ref 32 },{hash:=aG P ("insort_left"),key:=.str ("insort_left") 228,val:=.ref 41 },{hash:=aG P ("bisect_left"),key:=.str ("bisect_left") 242,val:=.ref 50 },{hash:=aG P ("_DIV_LIMIT"),key:=.str ("_DIV_LIMIT") 246,val:=.int 4000 245 },{hash:=aG P ("_div2n1n"),key:=.str ("_div2n1n") 263,val:=.ref 57 },{hash:=aG P ("_div3n2n"),key:=.str ("_div3n2n") 277,val:=.ref 64 },{hash:=aG P ("_int2digits"),key:=.str ("_int2digits") 288,val:=.ref 71 },{hash:=aG P ("_digits2int"),key:=.str ("_digits2int") 299,val:=.ref 78 },{hash:=aG P ("_divmod_pos"),key:=.str ("_divmod_pos") 314,val:=.ref 85 },{hash:=aG P ("int_divmod"),key:=.str ("int_divmod") 324,val:=.ref 92 },{hash:=aG P ("_raise_serialization_error"),key:=.str ("_raise_serialization_error") 333,val:=.ref 99 },{hash:=aG P ("_escape_cdata"),key:=.str ("_escape_cdata") 340,val:=.ref 106 },{hash:=aG P ("_escape_attrib"),key:=.str ("_escape_attrib") 347,val:=.ref 113 },{hash:=aG P ("_escape_attrib_html"),key:=.str ("_escape_attrib_html") 354,val:=.ref 120 },{hash:=aG P ("_escape_cdata_c14n"),key:=.str ("_escape_cdata_c14n") 361,val:=.ref 127 },{hash:=aG P ("_escape_attrib_c14n"),key:=.str ("_escape_attrib_c14n") 368,val:=.ref 134 },{hash:=aG P ("_law_names"),key:=.str ("_law_names") 376,val:=.ref 139 },{hash:=aG P ("_law_read"),key:=.str ("_law_read") 386,val:=.ref 146 },{hash:=aG P ("_law_nests"),key:=.str ("_law_nests") 392,val:=.ref 151 },{hash:=aG P ("_law_levels"),key:=.str ("_law_levels") 398,val:=.ref 156 },{hash:=aG P ("_law_join"),key:=.str ("_law_join") 415,val:=.ref 163 },{hash:=aG P ("_law_refused"),key:=.str ("_law_refused") 423,val:=.ref 170 },{hash:=aG P ("law"),key:=.str ("law") 429,val:=.ref 175 }] 33 }),
 (15,{cls:=.type "tuple",data:=.seq #[.int 0 189,.none] }),
 (16,{cls:=.type "dict",data:=.dict #[{hash:=aG P ("key"),key:=.str ("key") 190,val:=.none }] 1 }),
 zR 22 "insort_right" 191 2 4 1 199,
 vq 23 1 "insort_right" (.ref 15) (.ref 16) tF 22,
 (24,{cls:=.type "tuple",data:=.seq #[.int 0 202,.none] }),
 (25,{cls:=.type "dict",data:=.dict #[{hash:=aG P ("key"),key:=.str ("key") 203,val:=.none }] 1 }),
 zR 31 "bisect_right" 204 8 4 1 213,
 vq 32 2 "bisect_right" (.ref 24) (.ref 25) tF 31,
 (33,{cls:=.type "tuple",data:=.seq #[.int 0 216,.none] }),
 (34,{cls:=.type "dict",data:=.dict #[{hash:=aG P ("key"),key:=.str ("key") 217,val:=.none }] 1 }),
 zR 40 "insort_left" 218 28 4 1 226,
 vq 41 3 "insort_left" (.ref 33) (.ref 34) tF 40,
 (42,{cls:=.type "tuple",data:=.seq #[.int 0 229,.none] }),
 (43,{cls:=.type "dict",data:=.dict #[{hash:=aG P ("key"),key:=.str ("key") 230,val:=.none }] 1 }),
 zR 49 "bisect_left" 231 34 4 1 240,
 vq 50 4 "bisect_left" (.ref 42) (.ref 43) tF 49,
 zR 56 "_div2n1n" 247 56 3 0 261,
 vq 57 7 "_div2n1n" (.none) (.none) mC 56,
 zR 63 "_div3n2n" 264 72 6 0 275,
 vq 64 8 "_div3n2n" (.none) (.none) mC 63,
 zR 70 "_int2digits" 278 82 2 0 286,
 vq 71 9 "_int2digits" (.none) (.none) mC 70,
 zR 77 "_digits2int" 289 98 2 0 297,
 vq 78 10 "_digits2int" (.none) (.none) mC 77,
 zR 84 "_divmod_pos" 300 107 2 0 312,
 vq 85 11 "_divmod_pos" (.none) (.none) mC 84,
 zR 91 "int_divmod" 315 118 2 0 322,
 vq 92 12 "int_divmod" (.none) (.none) mC 91,
 zR 98 "_raise_serialization_error" 327 130 1 0 331,
 vq 99 14 "_raise_serialization_error" (.none) (.none) lS 98,
 zR 105 "_escape_cdata" 334 132 1 0 338,
 vq 106 15 "_escape_cdata" (.none) (.none) lS 105,
 zR 112 "_escape_attrib" 341 143 1 0 345,
 vq 113 16 "_escape_attrib" (.none) (.none) lS 112,
 zR 119 "_escape_attrib_html" 348 162 1 0 352,
 vq 120 17 "_escape_attrib_html" (.none) (.none) lS 119,
 zR 126 "_escape_cdata_c14n" 355 173 1 0 359,
 vq 127 18 "_escape_cdata_c14n" (.none) (.none) lS 126,
 zR 133 "_escape_attrib_c14n" 362 186 1 0 366,
 vq 134 19 "_escape_attrib_c14n" (.none) (.none) lS 133,
 (138,{cls:=.type "code",data:=.fields #[.str ("_law_names") 371,.str ("_law_names") 372,.str ("/claim/cut.py") 373,.int 204 0,.int 1 0,.int 0 0,.int 0 0,.int 3 0,.ref 135,.bool true,.int 181 0,.ref 136,.none,.none,.none,.ref 137,.int 374 0,.int 204 0,.str ("/claim/cut.py") 375] }),
 vq 139 21 "_law_names" (.none) (.none) jf 138,
 zR 145 "_law_read" 377 209 2 0 384,
 vq 146 22 "_law_read" (.none) (.none) jf 145,
 (150,{cls:=.type "code",data:=.fields #[.str ("_law_nests") 387,.str ("_law_nests") 388,.str ("/claim/cut.py") 389,.int 213 0,.int 3 0,.int 0 0,.int 0 0,.int 3 0,.ref 147,.bool true,.int 181 0,.ref 148,.none,.none,.none,.ref 149,.int 390 0,.int 213 0,.str ("/claim/cut.py") 391] }),
 vq 151 23 "_law_nests" (.none) (.none) jf 150,
 (155,{cls:=.type "code",data:=.fields #[.str ("_law_levels") 393,.str ("_law_levels") 394,.str ("/claim/cut.py") 395,.int 224 0,.int 3 0,.int 0 0,.int 0 0,.int 3 0,.ref 152,.bool true,.int 181 0,.ref 153,.none,.none,.none,.ref 154,.int 396 0,.int 224 0,.str ("/claim/cut.py") 397] }),
 vq 156 24 "_law_levels" (.none) (.none) jf 155,
 zR 162 "_law_join" 399 237 8 0 413,
 vq 163 25 "_law_join" (.none) (.none) jf 162,
 zR 169 "_law_refused" 416 247 1 0 421,
 vq 170 26 "_law_refused" (.none) (.none) jf 169,
 (174,{cls:=.type "code",data:=.fields #[.str ("law") 424,.str ("law") 425,.str ("/claim/cut.py") 426,.int 252 0,.int 1 0,.int 0 0,.int 0 0,.int 3 0,.ref 171,.bool true,.int 181 0,.ref 172,.none,.none,.none,.ref 173,.int 427 0,.int 252 0,.str ("/claim/cut.py") 428] }),
 vq 175 27 "law" (.none) (.none) jf 174]
noncomputable def Qi:List Addr:=[3,15,16,22,23,24,25,31,32,33,34,40,41,42,43,49,50,56,57,63,64,70,71,77,78,84,85,91,92,98,99,105,106,112,113,119,120,126,127,133,134,138,139,145,146,150,151,155,156,162,163,169,170,174,175]
theorem Oa:∀P,Qi=(Kf P).map (·.1):=by intro P;kernel_rfl
noncomputable abbrev Hk:Hook:=kmHook Kf Qi Oa [153,73,66,172]
noncomputable def lawD:DefRec:=match defOf Qv "law" with | some p=>p.1 | none=>⟨"law",⟨[],[],none,[],[],none,[]⟩,[],rw0.row.prog.main.scope,⟨0,0,0,0⟩⟩
theorem wellSaid:rw0.wellSaid=true:=by kernel_rfl
theorem PQ:defOf Qv rw0.row.name=some (lawD,[]):=by kernel_rfl
theorem OB:LeftO rw0.row.toRowW.prog Qv lT (λs=>xlAt Qv [] s&&recOk (RowW.records rw0.row.toRowW) s) (Hook.obs Hk) (Hook.val Hk) 1718:=by intro w;kernel_rfl
theorem O0:rw0.row.prog.theDef rw0.row.name=some (lawD.params,lawD.body,lawD.scope):=by kernel_rfl
theorem PS:kwWritten? lawD.params.kwonlyargs lawD.params.kw_defaults=some []:=by kernel_rfl
theorem PR:(chainsOk Qv&&opensWell rw0.row.prog&&(frees rw0.row.toRowW&&rw0.row.within.isEmpty))=true:=by kernel_rfl
theorem NS:rw0.row.prog.bare:=⟨rfl,rfl,rfl,rfl,rfl,by kernel_rfl⟩
theorem NR:rw0.row.toRowW.promised:=⟨[.list []],by decide +kernel,by decide +kernel⟩
theorem hd (walk:WalkO Qv lT (XL Qv []) Hk.says rw0.row.toRowW lawD [] λf vs=>PySem.call f vs):rw0.Holds:=
 holds_law wellSaid λsaid=>holds_open (q:=Qv) (loose:=lT) (Xt:=λs=>xlAt Qv [] s&&recOk (RowW.records rw0.row.toRowW) s) (XP:=XL Qv []) (Yf:=Hook.obs Hk) (Ya:=Hook.val Hk) (YP:=Hook.says Hk) (N:=1718)
  OB (Hook.of Hk) (Hook.keeps Hk) (λs e=>xl_of s (Bool.and_eq_true_iff.mp e).1) XL.keeps PQ O0 PS (λs e=>recFacts_of (Bool.and_eq_true_iff.mp e).2) (by rfl) said PR NS NR walk
noncomputable def jv (W:Wd):Prop:=(Kf W.w.params).In W.h₀
noncomputable def Ox (P:Params)(x:Str):Option Value:=match (Kf P).lookup 3 with
 | some o=>(match o.data with | .dict es _=>nsFind es x | _=>none)
 | none=>none
theorem Ic (hP:jv W)(x:Str):W.mg x=Ox W.w.params x:=by
 apply ij (W.g);intro o es ep h1 h2 _ h4
 have e:(Kf W.w.params).lookup 3=some o:=by
  cases h:(Kf W.w.params).lookup 3 with
  | none=>
   have q:((Kf W.w.params).lookup 3).isSome=true:=by kernel_rfl
   rw [h] at q;exact (ag q).elim
  | some o'=>
   have:=hP 3 o' h
   rw [show (3:Addr)=mainGlobals from rfl,h1] at this
   rw [this]
 unfold Ox
 rw [e]
 simp only [h2]
 exact (h4 x).symm
noncomputable def Hw (v:Value):D->Bool
 | .ref b=>v==.ref b
 | .bi j=>v==.builtin j
 | .ty m=>v==.type m
 | .int j=>(match v with | .int i _=>i==j | _=>false)
 | _=>false
theorem w6 (h:Hw v d=true)(g:View):Rep W g v d:=by
 cases d with
 | ref b=>rw [beq_iff_eq.mp h];exact .ref _
 | bi j=>rw [beq_iff_eq.mp h];exact .bi _
 | ty m=>rw [beq_iff_eq.mp h];exact .ty _
 | int j=>
  cases v with
  | int i t=>rw [beq_iff_eq.mp h];exact .int _ _
  | _=>(first | exact (ag h).elim | cases h)
 | _=>(first | exact (ag h).elim | cases h)
noncomputable def en (x:Str)(d:D):Str×D:=(x,d)
noncomputable def glT:List (Str×D):=[en "insort_right" (.ref 23),en "bisect_right" (.ref 32),en "insort_left" (.ref 41),en "bisect_left" (.ref 50),en "_DIV_LIMIT" (.int 4000),en "_div2n1n" (.ref 57),en "_div3n2n" (.ref 64),en "_int2digits" (.ref 71),en "_digits2int" (.ref 78),
 en "_divmod_pos" (.ref 85),en "int_divmod" (.ref 92),en "_raise_serialization_error" (.ref 99),en "_escape_cdata" (.ref 106),en "_escape_attrib" (.ref 113),en "_escape_attrib_html" (.ref 120),en "_escape_cdata_c14n" (.ref 127),en "_escape_attrib_c14n" (.ref 134),
 en "_law_names" (.ref 139),en "_law_read" (.ref 146),en "_law_nests" (.ref 151),en "_law_levels" (.ref 156),en "_law_join" (.ref 163),en "_law_refused" (.ref 170),
 en "len" (.bi "len"),en "sum" (.bi "sum"),en "max" (.bi "max"),en "min" (.bi "min"),en "divmod" (.bi "divmod"),en "isinstance" (.bi "isinstance"),en "range" (.ty "range"),en "enumerate" (.ty "enumerate"),en "zip" (.ty "zip"),en "dict" (.ty "dict"),en "reversed" (.ty "reversed"),
 en "str" (.ty "str"),en "type" (.ty "type"),en "TypeError" (.ty "TypeError"),en "ValueError" (.ty "ValueError"),en "ZeroDivisionError" (.ty "ZeroDivisionError"),en "AttributeError" (.ty "AttributeError")]
noncomputable def gl (x:Str):Option D:=glT.lookup x
noncomputable def O1 (P:Params):Bool:=glT.all λp=>p.1 !=("__debug__":Str)&&p.1 !=("__name__":Str)&&match Ox P p.1 with
 | some v=>Hw v p.2
 | none=>(match bootBuiltins p.1 with | some v=>Hw v p.2 | none=>false)
theorem Dh (P:Params):O1 P=true:=by kernel_rfl
theorem eX (hP:jv W):kS W gl:=λx d e=>by
 have h:=ft.mp (Dh W.w.params) _ (mem_of_lookup e)
 simp only [ao,bne_iff_ne,ne_eq] at h
 have hn0:=h.1;have h2:=h.2;obtain ⟨h1,h0⟩:=hn0
 refine ⟨beq_eq_false_iff_ne.mpr h1,?_⟩
 rw [Ic hP]
 cases hm:Ox W.w.params x with
 | some v=>
  rw [hm] at h2
  exact ⟨v,.inl rfl,w6 h2⟩
 | none=>
  rw [hm] at h2
  rw [W.builtins x h0]
  cases hb:bootBuiltins x with
  | some v=>
   rw [hb] at h2
   exact ⟨v,.inr ⟨rfl,rfl⟩,w6 h2⟩
  | none=>rw [hb] at h2;exact (ag h2).elim
noncomputable def pT (fd:FuncData)(names:List Str):Bool:=fd.scope.kind==.function&&!fd.scope.isCoroutine&&!fd.scope.isGenerator&&fd.globals==mainGlobals&&fd.builtins==builtinsNs&&(fd.scope.names.all λp=>p.2 !=.free)&&fd.closure.isEmpty&&
 decide names.Nodup&&(names.all λx=>fd.scope.names.lookup x==some .local||fd.scope.names.lookup x==some .cell)&&fd.scope.names.lookup ("script":Str) !=some .local
theorem jJ (h:pT fd names=true):FnOk fd/\fd.closure=[]/\(∀x,fd.scope.names.lookup x≠some .free)/\names.Nodup/\∀x∈names,fd.scope.names.lookup x=some .local\/fd.scope.names.lookup x=some .cell:=by
 unfold pT at h
 simp only [ao,beq_iff_eq,dm,ft,bne_iff_ne,ne_eq,decide_eq_true_eq,my,ei] at h
 have hn0:=h.1;obtain ⟨⟨⟨⟨⟨⟨⟨⟨h1,h2⟩,h3⟩,h4⟩,h5⟩,h6⟩,h7⟩,h8⟩,h9⟩:=hn0
 have hnf:∀x,fd.scope.names.lookup x≠some .free:=λx e=>h6 _ (mem_of_lookup e) rfl
 exact ⟨⟨h1,h2,h3,h4,h5,hnf _⟩,h7,hnf,h8,h9⟩
theorem Fv (h:pT fd names=true):∀v s,¬W.esc fd.scope v s:=λv _ e=>by
 unfold pT at h
 rw [ao,bne_iff_ne] at h
 exact h.2 (W.escLaw _ _ _ e)
noncomputable def jC (W:Wd)(A:Around)(env:Env)(ρ:Rho)(e:Expr)(d:D)(P:List Prop):Prop:=AllP P->aQ W A env ρ e d
noncomputable def LK (W:Wd)(A:Around)(env:Env)(ρ:Rho)(e:Expr)(b:Bool)(P:List Prop):Prop:=AllP P->gv W A env ρ e b
noncomputable def nJ (W:Wd)(A:Around)(env:Env)(ρ:Rho)(es:List Expr)(ds:List D)(P:List Prop):Prop:=AllP P->EvAll W A env ρ es ds
noncomputable def wu (W:Wd)(A:Around)(env:Env)(ρ:Rho)(es:List Keyword)(ds:List (Str×D))(P:List Prop):Prop:=AllP P->EvKws W A env ρ es ds
theorem AllP.l {Q:List Prop}(h:AllP (P++Q)):AllP P:=(AllP.append.mp h).1
theorem AllP.r {Q:List Prop}(h:AllP (P++Q)):AllP Q:=(AllP.append.mp h).2
variable {r:Expr}
theorem dq (h:jC W A env ρ e d P)(hP:AllP P):aQ W A env ρ e d:=h hP
theorem pS {c:Bool}(h:LK W A env ρ e c P)(hP:AllP P):gv W A env ρ e c:=h hP
theorem NV (h:aQ W A env ρ e d):jC W A env ρ e d []:=λ_=>h
theorem hH {k:Const}(e:zM k=some (d,P)):jC W A env ρ (.Constant k n p) d []:=λ_=>iR e
theorem bg {gl:Str->Option D}(hs:env.scope=sc)(G:kS W gl)(e:oK sc gl ρ x=some d):jC W A env ρ (.Name x p) d []:=λ_=>fG hs G e
variable {P1 P2 P3:List Prop}
theorem zC {l:Expr}{a:D}{c:D}{op:Operator}(h1:jC W A env ρ l a P1)(h2:jC W A env ρ r c P2)(e:GP op a c=some (d,P3)):jC W A env ρ (.BinOp l op r p) d (P1++(P2++P3)):=λh=>qz (h1 h.l) (h2 h.r.l) e h.r.r
theorem gJ {l:Expr}{a:D}{c:D}{op:CmpOp}{b:Bool}(hu:A.units + 100 < cLine)(h1:jC W A env ρ l a P1)(h2:jC W A env ρ r c P2)(e:ll op a c=some (b,P3))(hm:behindInMarks op r=false):LK W A env ρ (.Compare l [op] [r] p) b (P1++(P2++P3)):=
 λh=>Ax hu (h1 h.l) (h2 h.r.l) e h.r.r hm
noncomputable def nP:Expr->Bool
 | .Name ..=>true
 | .Subscript ..=>true
 | .Call ..=>true
 | _=>false
theorem uG (hp:nP e=true)(whole:Sem Value):isTrue e env whole=(do let v <-whole;standAt e.pos;holding [v] (truthy v)):=by
 cases e<;>first | rfl | exact (ag hp).elim
theorem yC {b:Bool}(hp:nP e=true)(h1:jC W A env ρ e d P1)(ht:o0 d=some (b,P2)):LK W A env ρ e b (P1++P2):=λh=>Aw (h1 h.l) ht h.r (uG hp)
theorem sV {b:Expr}{o:Expr}(h1:LK W A env ρ t true P1)(h2:jC W A env ρ b d P2):jC W A env ρ (.IfExp t b o p) d (P1++P2):=λh=>l8 (c:=true) (h1 h.l) (by simpa using h2 h.r)
theorem qG {b:Expr}{o:Expr}(h1:LK W A env ρ t false P1)(h2:jC W A env ρ o d P2):jC W A env ρ (.IfExp t b o p) d (P1++P2):=λh=>l8 (c:=false) (h1 h.l) (by simpa using h2 h.r)
noncomputable def fN:Expr->Bool
 | .Starred ..=>false
 | _=>true
theorem aJ (h:fN e=true):∀x p,e≠.Starred x p:=λx p q=>by subst q;exact (ag h).elim
theorem bo:nJ W A env ρ [] [] []:=λ_=>.nil
theorem av (hn:fN e=true)(h1:jC W A env ρ e d P1)(h2:nJ W A env ρ es ds P2):nJ W A env ρ (e :: es) (d :: ds) (P1++P2):=λh=>.cons (aJ hn) (h1 h.l) (h2 h.r)
theorem cf:wu W A env ρ [] [] []:=λ_=>.nil
variable {q:Pos}{kd:List (Str×D)}
theorem nh {n:Str}{ks:List Keyword}(h1:jC W A env ρ e d P1)(h2:wu W A env ρ ks kd P2):wu W A env ρ (⟨some n,e,q⟩ :: ks) ((n,d) :: kd) (P1++P2):=λh=>.cons (h1 h.l) (h2 h.r)
theorem Gp (h1:nJ W A env ρ es ds P1)(hz:dn ds.length 1000=true):jC W A env ρ (.Tuple es n p) (.tup ds) P1:=λh=>po (h1 h) (ai (ac hz) (by decide))
theorem l9 {l:Expr}{a:D}{c:D}{i:Expr}(h1:jC W A env ρ l a P1)(h2:jC W A env ρ i c P2)(e:lO a c=some (d,P3)):jC W A env ρ (.Subscript l i p) d (P1++(P2++P3)):=λh=>Bi (h1 h.l) (h2 h.r.l) e h.r.r
noncomputable def yk (W:Wd)(A:Around)(env:Env)(ρ:Rho)(e:Option Expr)(i:Option Int)(P:List Prop):Prop:=AllP P->mn W A env ρ e i
theorem CT:yk W A env ρ none none []:=λ_=>rfl
theorem CS {i:Int}(h1:jC W A env ρ e (.int i) P1):yk W A env ρ (some e) (some i) P1:=λh=>⟨.int i,h1 h,.int i⟩
noncomputable def tY:Option Int->Bool
 | some i=>i !=0
 | none=>true
theorem Gq {l:Expr}{lo hi:Option Expr}{x y z:Option Int}{P4:List Prop}(h0:jC W A env ρ l (.list ds) P1)(h1:yk W A env ρ lo x P2)(h2:yk W A env ρ hi y P3)(h3:yk W A env ρ st z P4)(hz:tY z=true):
  jC W A env ρ (.Subscript l (.Slice lo hi st q) p) (.list (d9 ds x y z)) (P1++(P2++(P3++(P4++[ds.length<=sizeLine])))):=λh=>
 vv (h0 h.l) (h1 h.r.l) (h2 h.r.r.l) (h3 h.r.r.r.l) (λq=>by subst q;exact (ag hz).elim) h.r.r.r.r.1
noncomputable def PN:D->Option Nat
 | .list ds=>some ds.length
 | .tup ds=>some ds.length
 | .str x=>some x.length
 | .kstr x=>some x.length
 | .sdict _ ds=>some ds.length
 | _=>none
noncomputable def Ph (id:String)(ds:List D):R:=((one ds).bind λd=>
  if id="len" then (PN d).map λ(n:Nat)=>(.int (n:Int),[(n:Int) < 2 ^ 63])
  else if id="sum" then (mw d).bind λxs=>(fZ xs).map λns=>(.int ns.sum,[])
  else if id="max" then (mw d).bind λxs=>(fZ xs).map λns=>(.int (uR ns),[0 < ns.length])
  else if id="min" then (mw d).bind λxs=>(fZ xs).map λns=>(.int (yW ns),[0 < ns.length])
  else none).or ((Pn ds).bind λq=>(nq q.1).bind λa=>(nq q.2).bind λb=>if id="divmod" then some (.tup [.int (a.fdiv b),.int (a.fmod b)],[b≠0,fE a b=false]) else none)
theorem N7 (hh:A.handled=none)(e:Ph id ds=some (d,P))(hP:AllP P):bz W A (.bi id) ds [] d:=λg s vf vs kvs k rf rs hk rk=>by
 apply jQ hk
 obtain rfl:=rf.inv
 refine KT e (λe=>cR e λd0 h0 e=>?_) λe=>cR e λq hq e=>cR e λa ha e=>cR e λb hb e=>Cd e λhid q'=>?_
 .apply tX h0 rs;intro v r0
  have ints2:∀{f:List Int->Int} {N:List Int->List Prop} {id':String},(mw d0).bind (λxs=>(fZ xs).map λns=>(D.int (f ns),N ns))=some (d,P)->
    (∀(a:Addr) ds ns,v=.ref a->Rep W g (.ref a) (.list ds)->fZ ds=some ns->AllP (N ns)->Yl W A (call (.builtin id') [.ref a]) g s (.int (f ns)))->Yl W A (call (.builtin id') [v]) g s d:=λ{f N id'} e h=>
   cR e λxs hx e=>kg e λns hn q=>by
    (refine mQ q ?_;clear q;intro q₁ q₂;subst q₁ q₂)
    exact sx hx r0 λa q r1=>q▸h a xs ns q r1 hn hP
  refine uL e (λhid e=>?_) λ_ e=>uL e (λhid e=>?_) λ_ e=>uL e (λhid e=>?_) λ_ e=>uL e (λhid e=>?_) λ_ e=>no e
  .subst hid
   refine kg e λn hn q=>?_
   have hx0:=kF q;have q1:=hx0.1;have q2:=hx0.2
   rw [<-q2] at hP
   rw [<-q1]
   refine M6 k r0 ?_ hP.1
   cases d0 with
   | list=>exact .inl ⟨_,rfl,aL hn⟩
   | tup=>exact .inr (.inl ⟨_,rfl,aL hn⟩)
   | str=>exact .inr (.inr (.inl ⟨_,rfl,aL hn⟩))
   | kstr=>exact .inr (.inr (.inl ⟨_,rfl,aL hn⟩))
   | sdict=>exact .inr (.inr (.inr ⟨_,_,rfl,aL hn⟩))
   | _=>exact no hn
  .subst hid
   exact ints2 e λa ds ns _ r1 hn _=>M3 k hh r1 hn
  .subst hid
   exact ints2 e λa ds ns _ r1 hn hN=>M5 k hh r1 hn hN.1
  .subst hid
   exact ints2 e λa ds ns _ r1 hn hN=>M4 k hh r1 hn hN.1
 .subst hid
  (refine mQ q' ?_;clear q';intro q₁ q₂;subst q₁ q₂)
  apply yA hq rs;intro v u r1 r2
  obtain ⟨_,rfl⟩:=eA ha r1
  obtain ⟨_,rfl⟩:=eA hb r2
  exact Fn k hP.1 hP.2.1
theorem fg {ks:List Keyword}{P4:List Prop}(hf:jC W A env ρ (.Name x q) f P1)(h1:nJ W A env ρ es ds P2)(h2:wu W A env ρ ks kd P3)(hk:cJ W f)(hc:AllP P4->bz W A f ds kd d):jC W A env ρ (.Call (.Name x q) es ks p) d (P1++(P2++(P3++P4))):=λh=>
 nW (hf h.l) (h1 h.r.l) (h2 h.r.r.l) hk (hc h.r.r.r)
theorem IN {o:Expr}{a:D}(hb:rS o=true)(hline:(apos.endLine==p.line)=true)(hn:dz es.length 30=true)(ho:jC W A env ρ o a P1)(h1:nJ W A env ρ es ds P2)(hi:xB name a=some (T,id))(e:uP name a ds=some (d,P3)):
  jC W A env ρ (.Call (.Attribute o name apos) es [] p) d (P1++(P2++P3)):=λh=>xN hb hline (by simpa [kQ] using hn) (ho h.l) (h1 h.r.l) hi e h.r.r
noncomputable def oA (sc:Scope)(z:Bool)(x:Str):Bool:=match sc.names.lookup x with
 | some .local=>true
 | some .cell=>!z
 | _=>false
theorem el {z:Bool}(hs:env.scope=sc)(h:oA sc z x=true):Has env z x:=by
 unfold oA at h
 unfold Has bj
 rw [hs]
 split at h
 .rename_i q;exact .inl q
 .rename_i q;exact .inr ⟨q,by simpa using h⟩
 .exact (ag h).elim
noncomputable def kr:Expr->Bool
 | .ListComp ..=>false
 | .SetComp ..=>false
 | .DictComp ..=>false
 | _=>true
variable {x':Str}
theorem gX (h:kr e=true):swapsWith e (some (.Name x' q)) n env=pure false:=by
 cases e<;>first | rfl | (first | exact (ag h).elim | cases h)
theorem Cy (hs:env.scope=sc)(h:sc.names.lookup x'=some .cell):swapsWith (.ListComp elt gs scope p) (some (.Name x' q)) n env=pure false:=by
 have e1:(env.kindOf x'==some NameKind.local)=false:=by unfold bj;rw [hs,h];rfl
 show pure (env.blockKind==.function&&env.kindOf x'==some .local&&q.line==p.line&&!(scope.names.any λy=>y.1==x'&&(y.2==.local||y.2==.cell)))=(pure false:Sem Bool)
 rw [e1]
 simp
theorem ji (he:jC W A env ρ e d P)(hP:AllP P)(h:Pr d L):Blk W A env ρ L (.Return (some e) p :: rest) Kn Pr:=z5 (he hP) h
theorem bW (he:jC W A env ρ e d P)(hs:env.scope=sc)(hx:oA sc (cm ρ) x=true)(hn:kr e=true)(hP:AllP P)(h:Blk W A env (.bind x d ρ) L rest Kn Pr):Blk W A env ρ L (.Assign [.Name x p'] e p :: rest) Kn Pr:=
 iV (he hP) (el hs hx) (gX hn) h
theorem eZ {b o:List Stmt}{c:Bool}(ht:LK W A env ρ t c P)(hP:AllP P)(h:Blk W A env ρ L (if c then b else o) (λρ' L'=>(∀a∈L'.map (·.1),a∈L.map (·.1))/\Blk W A env ρ' L' rest Kn Pr) Pr):Blk W A env ρ L (.If t b o p :: rest) Kn Pr:=sB (ht hP) h
theorem df {b o:List Stmt}{c:Bool}(ht:LK W A env ρ t c P)(hP:AllP P)(h1:c=true->Blk W A env ρ L b (λρ' L'=>(∀a∈L'.map (·.1),a∈L.map (·.1))/\Blk W A env ρ' L' rest Kn Pr) Pr)(h2:c=false->Blk W A env ρ L o (λρ' L'=>(∀a∈L'.map (·.1),a∈L.map (·.1))/\Blk W A env ρ' L' rest Kn Pr) Pr):Blk W A env ρ L (.If t b o p :: rest) Kn Pr:=
 sB (c:=c) (ht hP) (by cases c;exact h2 rfl;exact h1 rfl)
theorem cG (h:Blk W A env ρ L rest Kn Pr):Blk W A env ρ L [] (λρ' L'=>(∀a∈L'.map (·.1),a∈L.map (·.1))/\Blk W A env ρ' L' rest Kn Pr) Pr:=db ⟨λ_ h=>h,h⟩
theorem dP {z:Bool}(hs:env.scope=sc)(h:(ia t).all (oA sc z)=true):∀x∈ia t,Has env z x:=λx hx=>el hs (ft.mp h x hx)
noncomputable def CY:Expr->Bool
 | .Tuple ..=>false
 | _=>true
theorem sM (h:CY e=true):swappedStores [.Tuple es n pt] e env=pure none:=by
 cases e<;>first | rfl | exact (ag h).elim
theorem gg (hh:A.handled=none)(he:jC W A env ρ e (.tup ds) P)(hs:env.scope=sc)(ha:sD es ds ρ=some ρ')(hk:(ia (.Tuple es n pt)).all (oA sc (cm ρ))=true)(hw:CY e=true)(hP:AllP P)(h:Blk W A env ρ' L rest Kn Pr):
  Blk W A env ρ L (.Assign [.Tuple es n pt] e p :: rest) Kn Pr:=pG hh (he hP) ha (dP hs hk) (sM hw) h
noncomputable def bk (sc:Scope):ScopeKind:=if sc.kind.isAnnotationScope then .function else sc.kind
noncomputable def AA (sc:Scope)(ts vs:List Expr):Option (Option (List Str)):=
 if !(ts.length==2||ts.length==3)||vs.length !=ts.length||bk sc !=.function then some none else
 if vs.any fun | .Starred ..=>true | _=>false then some none else
 if (ts.filterMap fun | .Name id pos=>if sc.names.lookup id==some .local&&pos.line==(ts.head?.map (·.pos.line)).getD 0 then some id else none | _=>none).length !=ts.length||
   (ts.filterMap fun | .Name id pos=>if sc.names.lookup id==some .local&&pos.line==(ts.head?.map (·.pos.line)).getD 0 then some id else none | _=>none).eraseDups.length !=
   (ts.filterMap fun | .Name id pos=>if sc.names.lookup id==some .local&&pos.line==(ts.head?.map (·.pos.line)).getD 0 then some id else none | _=>none).length then some none else
 if vs.all (foldedForSure 8) then some none else
 if vs.all (constantsAlone 8) then none else
 some (some (ts.filterMap fun | .Name id pos=>if sc.names.lookup id==some .local&&pos.line==(ts.head?.map (·.pos.line)).getD 0 then some id else none | _=>none))
theorem mT {c:Prop}[Decidable c]{x y:Option α}{x' y':Sem α}{r:α}(e:(if c then x else y)=some r)(h1:x=some r->x'=pure r)(h2:y=some r->y'=pure r):(if c then x' else y')=pure r:=by
 by_cases h:c
 .rw [if_pos h] at e;rw [if_pos h];exact h1 e
 .rw [if_neg h] at e;rw [if_neg h];exact h2 e
theorem uo {ts vs:List Expr}{r:Option (List Str)}(hs:env.scope=sc)(h:AA sc ts vs=some r):swappedStores [.Tuple ts n pt] (.Tuple vs k q) env=pure r:=by
 subst hs
 exact mT h (λe=>by (refine eQ e ?_;clear e;intro q₁;subst q₁);rfl) λh=>mT h (λe=>by (refine eQ e ?_;clear e;intro q₁;subst q₁);rfl) λh=>mT h (λe=>by (refine eQ e ?_;clear e;intro q₁;subst q₁);rfl) λh=>mT h (λe=>by (refine eQ e ?_;clear e;intro q₁;subst q₁);rfl) λh=>mT h (λe=>no e) λe=>by (refine eQ e ?_;clear e;intro q₁;subst q₁);rfl
theorem GJ {vs:List Expr}(hh:A.handled=none)(he:jC W A env ρ (.Tuple vs k q) (.tup ds) P)(hs:env.scope=sc)(hw:AA sc es vs=some (some names))(hl:i4 names.length ds.length=true)(hk:names.all (oA sc (cm ρ))=true)(hP:AllP P)(h:Blk W A env (og names.reverse ds.reverse ρ) L rest Kn Pr):Blk W A env ρ L (.Assign [.Tuple es n pt] (.Tuple vs k q) p :: rest) Kn Pr:=
 BW hh (he hP) (uo hs hw) (gh hl) (λx hx=>el hs (ft.mp hk x hx)) h
noncomputable def N8 (op:Operator)(x y:D):R:=(nq x).bind λa=>(nq y).bind λb=>(NN op a b).map λp=>(.int p.1,p.2)
noncomputable def N9:Operator->Bool
 | .Add=>true
 | .Sub=>true
 | .LShift=>true
 | .RShift=>true
 | _=>false
theorem LI {op:Operator}{x y:D}{u:Value}(hop:N9 op=true)(e:N8 op x y=some (d,P))(hP:AllP P)(k:Ok W g s)(rx:Rep W g v x)(ry:Rep W g u y):Yl W A (inplaceOp op v u) g s d:=by
 refine cR e λa ha e=>cR e λb hb e=>kg e λp hp q=>?_
 obtain ⟨_,rfl⟩:=eA ha rx
 obtain ⟨_,rfl⟩:=eA hb ry
 (refine mQ q ?_;clear q;intro q₁ q₂;subst q₁ q₂)
 cases op with
 | Add=>(refine eQ hp ?_;clear hp;intro q₁;subst q₁);exact Yl.int k λh=>iadd_int h
 | Sub=>(refine eQ hp ?_;clear hp;intro q₁;subst q₁);exact Yl.int k λh=>isub_int h
 | LShift=>(refine eQ hp ?_;clear hp;intro q₁;subst q₁);exact Yl.int k λh=>ilshift_int hP.1 hP.2.1 h
 | RShift=>(refine eQ hp ?_;clear hp;intro q₁;subst q₁);exact Yl.int k λh=>irshift_int hP.1 h
 | _=>(first | exact (ag hop).elim | cases hop)
theorem BY {a:D}{c:D}{op:Operator}(hop:N9 op=true)(hs:env.scope=sc)(hx:oA sc (cm ρ) x=true)(hv:look ρ x=some a)(he:jC W A env ρ e c P1)(hd:N8 op a c=some (d,P2))(hP:AllP (P1++P2))(h:Blk W A env (.bind x d ρ) L rest Kn Pr):
  Blk W A env ρ L (.AugAssign (.Name x p') op e p :: rest) Kn Pr:=
 fh (λ_ h=>h) (λg s F k l Q E hQ=>by
  have hld:Yl W A (loadName env x) g s a:=λQ E hQ=>by
   rcases el hs hx with hk | hk
   .apply aA (F.loc);intro m hn hl
    apply aA (hl x a hv hk);intro v hv' hr
    exact wpAny_loadName_local F.kind hk hn hv' (hQ v g s (Ext.refl k) hr)
   .apply bP (F.cel x (.inl hk.1));intro cc cv h1 h2 h3
    apply aA (h3 a hv);intro v hq0 hr;subst hq0
    exact wpAny_loadName_cell F.kind hk.1 h1 h2 (hQ v g s (Ext.refl k) hr)
  exact wpAny_AugAssign_Name (hld _ _ λv g1 s1 x1 r1=>he hP.l g1 s1 (F.ext x1) x1.ok _ _ λu g2 s2 x2 r2=>LI hop hd hP.r x2.ok (r1.mono x2.le) r2 _ _ λw g3 s3 x3 r3=>
   gi (((F.ext x1).ext x2).ext x3) x3.ok (el hs hx).kind r3 λs4 x4 F4=>hQ g3 s4 ((x1.trans (x2.trans x3)).toM.trans (x4.mono λa h=>.inl h)) F4 ((((l.ext x1).ext x2).ext x3).step x4))) h
theorem w0 {b:Addr}{xs ys:List D}(k:Ok W g s)(ra:Rep W g (.ref a) (.tup xs))(rb:Rep W g (.ref b) (.tup ys))(hz:xs.length + ys.length<=sizeLine):
  Yl W A (binaryOp .Add (.ref a) (.ref b)) g s (.tup (xs++ys)):=by
 intro Q E hQ
 apply aV (ra.inv_tup);intro _ va na e ha raa
 apply aV (rb.inv_tup);intro _ vb nb e' hb rbb
 (refine G7 e ?_;clear e;intro q₁;subst q₁);(refine G7 e' ?_;clear e';intro q₁;subst q₁)
 have hla:=raa.length
 have hlb:=rbb.length
 rw [aE] at hla hlb
 have ho:=k.sub _ _ ha
 have ho2:=k.sub _ _ hb
 by_cases hv:va.isEmpty=true
 .refine wT ⟨_,ho,rfl⟩ ⟨_,ho2,rfl⟩ yQ FA ml lz (kP _ _) (tuple_addW0 a b va vb na nb none none #[] #[] hv) ⟨ho,ho2,?_⟩
  have e:xs=[]:=by
   have h0:va.size=0:=by simpa [pR] using hv
   rw [h0] at hla
   exact List.length_eq_zero_iff.mp hla.symm
  subst e
  exact hQ _ g s (Ext.refl k) rb
 .by_cases hw:vb.isEmpty=true
  .refine wT ⟨_,ho,rfl⟩ ⟨_,ho2,rfl⟩ yQ FA ml lz (kP _ _) (tuple_addW1 a b va vb na nb none none #[] #[] (by simpa using hv) hw) ⟨ho,ho2,?_⟩
   have e:ys=[]:=by
    have h0:vb.size=0:=by simpa [pR] using hw
    rw [h0] at hlb
    exact List.length_eq_zero_iff.mp hlb.symm
   subst e
   exact hQ _ g s (Ext.refl k) (by rw [fS];exact ra)
  .refine wT ⟨_,ho,rfl⟩ ⟨_,ho2,rfl⟩ yQ FA ml lz (kP _ _) (tuple_addW2 a b va vb na nb none none #[] #[] (by simpa using hv) (by simpa using hw) (by rw [hla,hlb];exact hz)) ⟨ho,ho2,?_⟩
   have e:va++vb=(va.toList++vb.toList).toArray:=by simp
   rw [e]
   exact hQ _ _ _ (Ext.push k _ rfl) (uk k (raa.append rbb) 0)
inductive Fo
 | v (d:D)
 | o (d:D)
 | n
noncomputable abbrev Rs (α:Type):=Option (α×List Prop×List Fo)
noncomputable def eW (o:Rs α)(f:α->List Fo->Rs β):Rs β:=match o with
 | none=>none
 | some (a,P,os)=>match f a os with
  | none=>none
  | some (b,Q,os')=>some (b,P++Q,os')
noncomputable def mY (r:Option (α×List Prop))(os:List Fo):Rs α:=match r with
 | none=>none
 | some (a,P)=>some (a,P,os)
noncomputable def onlyR {γ:Type}(l:List γ)(k:γ->Rs α):Rs α:=hU none (λa t _=>hU (k a) (λ_ _ _=>none) t) l
noncomputable def Snd (o:Rs α)(Φ:α->Prop):Prop:=∀a P os,o=some (a,P,os)->AllP P->Φ a
variable {Φ:α->Prop}
theorem Snd.bind {o:Rs α}{f:α->List Fo->Rs β}{Ψ:β->Prop}(h:Snd o Φ)(k:∀a os,Φ a->Snd (f a os) Ψ):Snd (eW o f) Ψ:=λb R os e hR=>by
 unfold eW at e
 cases o with
 | none=>exact (aK e).elim
 | some q=>
  obtain ⟨a,P,os1⟩:=q
  simp only at e
  cases hf:f a os1 with
  | none=>rw [hf] at e;exact (aK e).elim
  | some q2=>
   obtain ⟨b',Q,os2⟩:=q2
   rw [hf] at e
   cases e
   exact k a os1 (h a P os1 rfl hR.l) b Q os hf hR.r
theorem Snd.lift {r:Option (α×List Prop)}{os:List Fo}(h:∀a P,r=some (a,P)->AllP P->Φ a):Snd (mY r os) Φ:=λa P os' e hP=>by
 cases r with
 | none=>exact (aK e).elim
 | some q=>cases e;exact h _ _ rfl hP
theorem Snd.none:Snd none Φ:=λ_ _ _ e=>nomatch e
theorem Snd.some {a:α}{os:List Fo}(h:AllP P->Φ a):Snd (some (a,P,os)) Φ:=λ_ _ _ e hP=>by cases e;exact h hP
theorem Snd.ite {c:Bool}{o:Rs α}(h:c=true->Snd o Φ):Snd (if c then o else .none) Φ:=by
 cases c with
 | true=>exact h rfl
 | false=>exact .none
theorem Snd.cond {c:Bool}{o p:Rs α}(h:c=true->Snd o Φ)(k:c=false->Snd p Φ):Snd (cond c o p) Φ:=by
 cases c with
 | true=>exact h rfl
 | false=>exact k rfl
theorem Snd.onlyR {l:List γ}{k:γ->Rs α}{Φ:List γ->α->Prop}(h:∀a,Snd (k a) (Φ [a])):Snd (Internal.onlyR l k) (Φ l):=by
 cases l with
 | nil=>exact .none
 | cons a t=>cases t with
  | nil=>exact h a
  | cons=>exact .none
theorem Snd.mono {o:Rs α}{Ψ:α->Prop}(h:Snd o Φ)(k:∀a,Φ a->Ψ a):Snd o Ψ:=λa P os e hP=>k a (h a P os e hP)
noncomputable def fore (C:D->Prop):List Fo->Rs D
 | .v d :: os=>.some (d,[C d],os)
 | _=>none
theorem Snd.fore {C:D->Prop}{os:List Fo}:Snd (fore C os) C:=by
 cases os with
 | nil=>exact .none
 | cons o os=>cases o with
  | v d=>exact .some λh=>h.1
  | _=>exact .none
noncomputable def foreB (c:Bool):List Fo->Rs Bool
 | .v (.bool b) :: os=>.some (b,[c=b],os)
 | _=>none
theorem Snd.foreB {c:Bool}{os:List Fo}:Snd (foreB c os) (c=·):=by
 cases os with
 | nil=>exact .none
 | cons o os=>cases o with
  | v d=>cases d with
   | bool b=>exact .some λh=>h.1
   | _=>exact .none
  | _=>exact .none
noncomputable def Gives (r:Option (α×List Prop))(d:α):Prop:=match r with
 | some (d',P)=>d'=d/\AllP P
 | none=>False
noncomputable def Po (r:R)(os:List Fo):Rs D:=match os with
 | .o d :: os=>.some (d,[Gives r d],os)
 | .n :: os=>mY r os
 | os=>mY r os
noncomputable def opB (r:Option (Bool×List Prop))(os:List Fo):Rs Bool:=match os with
 | .o d :: os=>match d with
  | .bool d=>.some (d,[Gives r d],os)
  | _=>none
 | .n :: os=>mY r os
 | os=>mY r os
theorem Gives.ok {r:Option (α×List Prop)}{d:α}(h:Gives r d):∃P,r=.some (d,P)/\AllP P:=by
 unfold Gives at h
 split at h
 .exact ⟨_,by rw [h.1],h.2⟩
 .exact h.elim
theorem Snd.op {r:R}{os:List Fo}{Φ:D->Prop}(h:∀a P,r=.some (a,P)->AllP P->Φ a):Snd (Po r os) Φ:=by
 cases os with
 | nil=>exact .lift h
 | cons o os=>cases o with
  | v=>exact .lift h
  | o d=>exact .some λq=>let ⟨P,e,hP⟩:=q.1.ok;h _ P e hP
  | n=>exact .lift h
theorem Snd.opB {r:Option (Bool×List Prop)}{os:List Fo}{Φ:Bool->Prop}(h:∀a P,r=.some (a,P)->AllP P->Φ a):Snd (opB r os) Φ:=by
 cases os with
 | nil=>exact .lift h
 | cons o os=>cases o with
  | v=>exact .lift h
  | n=>exact .lift h
  | o d=>cases d with
   | bool d=>exact .some λq=>let ⟨P,e,hP⟩:=q.1.ok;h _ P e hP
   | _=>exact .none
structure CallB (W:Wd)(A:Around)(f:D)(ds:List D)(kws:List (Str×D))(d:D):Prop where
 keep:cJ W f
 call:bz W A f ds kws d
noncomputable def N6 (op:Operator)(a c:D):R:=match op with
 | .Add=>match a with
  | .tup xs=>match c with
   | .tup ys=>some (.tup (xs++ys),[xs.length + ys.length<=sizeLine])
   | _=>none
  | _=>GP .Add a c
 | op=>GP op a c
section
variable (f:Expr->List Fo->Rs D)
noncomputable def NT:List Expr->List Fo->Rs (List D)
 | [],os=>some ([],[],os)
 | e :: es,os=>if fN e then eW (f e os) λd os=>eW (NT es os) λds os=>some (d :: ds,[],os) else none
noncomputable def Pq:List Keyword->List Fo->Rs (List (Str×D))
 | [],os=>some ([],[],os)
 | k :: ks,os=>match k.arg with
  | some n=>eW (f k.value os) λd os=>eW (Pq ks os) λds os=>some ((n,d) :: ds,[],os)
  | none=>none
noncomputable def Ex (e:Option Expr)(os:List Fo):Rs (Option Int):=match e with
 | none=>some (none,[],os)
 | some e=>eW (f e os) λd os=>match d with
  | .int i=>some (some i,[],os)
  | _=>none
noncomputable def N5 (l:Expr)(ops:List CmpOp)(rs:List Expr)(os:List Fo):Rs Bool:=onlyR ops λop=>onlyR rs λr=>
 cond (behindInMarks op r) none (eW (f l os) λa os=>eW (f r os) λc os=>opB (ll op a c) os)
noncomputable def PU (e:Expr)(os:List Fo):Rs Bool:=match e with
 | .Compare l ops rs _=>N5 f l ops rs os
 | _=>none
noncomputable def Om (e:Expr)(os:List Fo):Rs Bool:=cond (nP e) (eW (f e os) λd os=>mY (o0 d) os) (PU f e os)
end
section
variable (W:Wd)(A:Around)(env:Env)(sc:Scope)(ρ:Rho)
noncomputable def CE:Expr->Option (Option Expr×Option Expr×Option Expr×Pos)
 | .Slice lo hi st q=>some (lo,hi,st,q)
 | _=>none
theorem Fz {i:Expr}{q:Option Expr×Option Expr×Option Expr×Pos}(h:CE i=some q):i=.Slice q.1 q.2.1 q.2.2.1 q.2.2.2:=by
 cases i with
 | Slice=>rw [<-aL h]
 | _=>exact (aK h).elim
noncomputable def NM:D->Option String
 | .bi id=>some id
 | _=>none
theorem Lg (h:NM d=some id):d=.bi id:=by
 cases d with
 | bi=>rw [<-aL h]
 | _=>exact (aK h).elim
noncomputable def nilK {γ:Type}(l:List γ)(k:Rs α):Rs α:=hU k (λ_ _ _=>none) l
theorem Snd.nilK {l:List γ}{k:Rs α}{Φ:List γ->α->Prop}(h:Snd k (Φ [])):Snd (Internal.nilK l k) (Φ l):=by
 cases l with
 | nil=>exact h
 | cons=>exact .none
noncomputable def Oo (f:Expr->List Fo->Rs D)(v i:Expr)(os:List Fo):Rs D:=eW (f v os) λa os=>match CE i with
 | some q=>match mw a with
  | some ds=>eW (Ex f q.1 os) λx os=>eW (Ex f q.2.1 os) λy os=>eW (Ex f q.2.2.1 os) λz os=>
   if tY z then some (.list (d9 ds x y z),[ds.length<=sizeLine],os) else none
  | none=>none
 | none=>eW (f i os) λc os=>Po (lO a c) os
noncomputable def MZ (f:Expr->List Fo->Rs D)(fe:Expr)(es:List Expr)(ks:List Keyword)(p:Pos)(os:List Fo):Rs D:=match fe with
 | .Name x _=>eW (mY ((oK sc gl ρ x).map λd=>(d,[])) os) λfd os=>eW (NT f es os) λds os=>match NM fd with
  | some id=>nilK ks (Po (Ph id ds) os)
  | none=>eW (Pq f ks os) λkd os=>fore (CallB W A fd ds kd) os
 | .Attribute o name apos=>nilK ks (if (rS o&&apos.endLine==p.line&&dz es.length 30) then eW (f o os) λa os=>eW (NT f es os) λds os=>if (xB name a).isSome then Po (uP name a ds) os else none else none)
 | _=>none
noncomputable def ev:Nat->Expr->List Fo->Rs D
 | 0,_,_=>none
 | n + 1,e,os=>match e with
  | .Constant k _ _=>mY ((zM k).map λp=>(p.1,[])) os
  | .Name x _=>mY ((oK sc gl ρ x).map λd=>(d,[])) os
  | .BinOp l op r _=>eW (ev n l os) λa os=>eW (ev n r os) λc os=>mY (N6 op a c) os
  | .UnaryOp op l _=>eW (ev n l os) λa os=>mY (Pv op a) os
  | .Compare l ops rs _=>eW (N5 (ev n) l ops rs os) λb os=>some (.bool b,[],os)
  | .Subscript v i _=>Oo (ev n) v i os
  | .Tuple es _ _=>eW (NT (ev n) es os) λds os=>if dn ds.length 1000 then some (.tup ds,[],os) else none
  | .List es _=>eW (NT (ev n) es os) λds os=>if dn ds.length 1000 then some (.list ds,[],os) else none
  | .IfExp t b o _=>eW (Om (ev n) t os) λc os=>eW (foreB c os) λc os=>if c then ev n b os else ev n o os
  | .Call fe es ks p=>MZ W A sc ρ (ev n) fe es ks p os
  | e=>fore (aQ W A env ρ e) os
end
structure Cx (W:Wd)(A:Around)(env:Env)(sc:Scope):Prop where
 hs:env.scope=sc
 G:kS W gl
 hu:A.units + 100 < cLine
 hh:A.handled=none
theorem Bk {l:Expr}{xs ys:List D}(h1:aQ W A env ρ l (.tup xs))(h2:aQ W A env ρ r (.tup ys))(hz:xs.length + ys.length<=sizeLine):aQ W A env ρ (.BinOp l .Add r p) (.tup (xs++ys)):=λg s F k Q E hQ=>
 rK (h1 g s F k _ _ λ_ g1 s1 x1 r1=>h2 g1 s1 (F.ext x1) x1.ok _ _ λ_ g2 s2 x2 r2=>by
  have r1':=r1.mono x2.le
  apply aV (r1.inv_tup);intro a _ _ hq0 _ _;subst hq0
  apply aV (r2.inv_tup);intro b _ _ hq0 _ _;subst hq0
  exact w0 x2.ok r1' r2 hz _ _ λv g3 s3 x3 r3=>hQ v g3 s3 (x1.trans (x2.trans x3)) r3)
theorem Gm {l:Expr}{a:D}{c:D}{op:Operator}(h1:aQ W A env ρ l a)(h2:aQ W A env ρ r c)(e:N6 op a c=some (d,P))(hP:AllP P):aQ W A env ρ (.BinOp l op r p) d:=by
 unfold N6 at e
 split at e
 .split at e
  .split at e
   ·(refine rO e ?_;clear e;intro q₁ q₂;subst q₁ q₂);exact Bk h1 h2 hP.1
   .exact (aK e).elim
  .exact qz h1 h2 e hP
 .exact qz h1 h2 e hP
section
variable {f:Expr->List Fo->Rs D}(hf:∀e os,Snd (f e os) (aQ W A env ρ e))
include hf
theorem sn:∀es os,Snd (NT f es os) (EvAll W A env ρ es)
 | [],os=>.some λ_=>.nil
 | e :: es,os=>.ite λhn=>(hf e os).bind λd os h=>(sn es os).bind λds os hs=>.some λ_=>.cons (aJ hn) h hs
theorem Dl:∀es os,Snd (Pq f es os) (EvKws W A env ρ es)
 | [],os=>.some λ_=>.nil
 | ⟨some n,v,q⟩ :: es,os=>(hf v os).bind λd os h=>(Dl es os).bind λds os hs=>.some λ_=>.cons h hs
 | ⟨none,v,q⟩ :: es,os=>.none
theorem yN:∀e os,Snd (Ex f e os) (mn W A env ρ e)
 | none,os=>.some λ_=>rfl
 | some e,os=>(hf e os).bind λd os h=>by
  cases d with
  | int i=>exact .some λ_=>⟨_,h,.int i⟩
  | _=>exact .none
theorem E6 (C:Cx W A env sc)(p:Pos)(l:Expr)(ops:List CmpOp)(rs:List Expr)(os:List Fo):Snd (N5 f l ops rs os) λb=>aQ W A env ρ (.Compare l ops rs p) (.bool b)/\gv W A env ρ (.Compare l ops rs p) b:=
 .onlyR (Φ:=λops b=>aQ W A env ρ (.Compare l ops rs p) (.bool b)/\gv W A env ρ (.Compare l ops rs p) b) λop=>.onlyR (Φ:=λrs b=>aQ W A env ρ (.Compare l [op] rs p) (.bool b)/\gv W A env ρ (.Compare l [op] rs p) b) λr=>.cond (λ_=>.none) λhm=>
  (hf l os).bind λa os h1=>(hf r os).bind λc os h2=>.opB λb P e hP=>⟨IJ C.hu h1 h2 e hP hm,Ax C.hu h1 h2 e hP hm⟩
theorem Cu (C:Cx W A env sc)(t:Expr)(os:List Fo):Snd (Om f t os) (gv W A env ρ t):=.cond (λhp=>(hf _ os).bind λd os h=>.lift λb P e hP=>Aw h e hP (uG hp)) λ_=>by
 cases t with
 | Compare l ops rs p=>exact (E6 hf C p l ops rs os).mono λ_ h=>h.2
 | _=>exact .none
theorem KJ (v i:Expr)(p:Pos)(os:List Fo):Snd (Oo f v i os) (aQ W A env ρ (.Subscript v i p)):=(hf v os).bind λa os h=>by
 cases hi:CE i with
 | none=>exact (hf _ os).bind λc os h2=>.op λd P e hP=>Bi h h2 e hP
 | some q=>cases ha:mw a with
  | none=>exact .none
  | some ds=>
   rw [Fz hi]
   exact (yN hf _ os).bind λx os h1=>(yN hf _ os).bind λy os h2=>(yN hf _ os).bind λz os h3=>.ite λhz=>.some λhP=>vv (qS ha▸h) h1 h2 h3 (λq=>by subst q;exact (ag hz).elim) hP.1
theorem J8 (C:Cx W A env sc)(fe:Expr)(es:List Expr)(ks:List Keyword)(p:Pos)(os:List Fo):Snd (MZ W A sc ρ f fe es ks p os) (aQ W A env ρ (.Call fe es ks p)):=by
 cases fe with
 | Name x q=>
  refine Snd.bind (Φ:=aQ W A env ρ (.Name x q)) (.lift λd P e _=>?_) λfd os hfd=>(sn hf es os).bind λds os hds=>?_
  .apply aA (bq.mp e);intro d' e' q
   exact fG C.hs C.G (e'.trans (congrArg some (kF q).1))
  .cases hb:NM fd with
   | none=>exact (Dl hf ks os).bind λkd os hk=>Snd.fore.mono λd h=>nW hfd hds hk h.keep h.call
   | some id=>exact .nilK (Φ:=λks d=>aQ W A env ρ (.Call (.Name x q) es ks p) d) (.op λd P e hP=>nW (Lg hb▸hfd) hds .nil (se _) (N7 C.hh e hP))
 | Attribute o name apos=>
  refine .nilK (Φ:=λks d=>aQ W A env ρ (.Call (.Attribute o name apos) es ks p) d) (.ite λhq=>(hf _ os).bind λa os h=>(sn hf es os).bind λds os hds=>.ite λhi=>.op λd P e hP=>?_)
  have hq:=Bool.and_eq_true_iff.mp hq
  have hr:=Bool.and_eq_true_iff.mp hq.1
  obtain ⟨⟨T,id⟩,hi⟩:=Option.isSome_iff_exists.mp hi
  exact xN hr.1 hr.2 (ac hq.2) h hds hi e hP
 | _=>exact .none
end
theorem xM (C:Cx W A env sc)(n:Nat):∀(e:Expr) (os:List Fo),Snd (ev W A env sc ρ n e os) (aQ W A env ρ e):=by
 induction n with
 | zero=>exact λe os=>.none
 | succ n hf=>
  intro e os
  cases e with
  | Constant=>
   exact .lift λd P e _=>by
    apply aA (bq.mp e);intro p' e' q
    (refine mQ q ?_;clear q;intro q₁ q₂;subst q₁ q₂)
    exact iR (P:=p'.2) e'
  | Name=>
   exact .lift λd P e _=>by
    apply aA (bq.mp e);intro d' e' q
    (refine mQ q ?_;clear q;intro q₁ q₂;subst q₁ q₂)
    exact fG C.hs C.G e'
  | BinOp l op r q=>exact (hf l os).bind λa os h1=>(hf _ os).bind λc os h2=>.lift λd P e hP=>Gm h1 h2 e hP
  | UnaryOp op l q=>exact (hf l os).bind λa os h1=>.lift λd P e _=>Lr h1 e
  | Compare l ops rs q=>exact (E6 hf C q l ops rs os).bind λb os h=>.some λ_=>h.1
  | Subscript v i q=>exact KJ hf v i q os
  | Tuple es _ q=>exact (sn hf es os).bind λds os h=>.ite λhz=>.some λ_=>po h (ai (ac hz) (by decide))
  | List es q=>exact (sn hf es os).bind λds os h=>.ite λhz=>.some λ_=>Gk h (ai (ac hz) (by decide))
  | IfExp t b o q=>
   refine (Cu hf C t os).bind λc os ht=>Snd.foreB.bind λc' os e=>?_
   subst e
   cases c with
   | true=>exact (hf _ os).mono λd h=>l8 ht h
   | false=>exact (hf _ os).mono λd h=>l8 ht h
  | Call fe es ks q=>exact J8 hf C fe es ks q os
  | _=>exact Snd.fore
noncomputable def Is (o:Rs α)(d:α):Prop:=match o with
 | some (d',P,_)=>d'=d/\AllP P
 | none=>False
theorem Snd.is {o:Rs α}{d:α}(h:Snd o Φ)(hi:Is o d):Φ d:=by
 cases o with
 | none=>exact hi.elim
 | some q=>obtain ⟨d',P,os⟩:=q;have hq0:=hi.1;have hP:=hi.2;subst hq0;exact h _ _ _ rfl hP
theorem bn (C:Cx W A env sc)(os:List Fo)(h:Is (ev W A env sc ρ 40 e os) d):aQ W A env ρ e d:=(xM C 40 e os).is h
theorem gq (C:Cx W A env sc)(os:List Fo){c:Bool}(h:Is (Om (ev W A env sc ρ 40) e os) c):gv W A env ρ e c:=(Cu (xM C 40) C e os).is h
theorem gG (C:Cx W A env sc)(os:List Fo)(h:Is (NT (ev W A env sc ρ 40) es os) ds):EvAll W A env ρ es ds:=(sn (xM C 40) es os).is h
theorem ng (C:Cx W A env sc){es:List Keyword}{ds:List (Str×D)}(os:List Fo)(h:Is (Pq (ev W A env sc ρ 40) es os) ds):EvKws W A env ρ es ds:=(Dl (xM C 40) es os).is h
theorem Kc (C:Cx W A env sc)(os:List Fo)(he:Is (ev W A env sc ρ 40 e os) d)(h:Pr d L):Blk W A env ρ L (.Return (some e) p :: rest) Kn Pr:=z5 (bn C os he) h
theorem bV (C:Cx W A env sc)(os:List Fo)(d:D)(hx:(oA sc (cm ρ) x&&kr e)=true)(he:Is (ev W A env sc ρ 40 e os) d)(h:Blk W A env (.bind x d ρ) L rest Kn Pr):Blk W A env ρ L (.Assign [.Name x p'] e p :: rest) Kn Pr:=by
 rw [ao] at hx
 exact iV (bn C os he) (el C.hs hx.1) (gX hx.2) h
theorem sC (C:Cx W A env sc)(os:List Fo){b:List Stmt}(ht:Is (Om (ev W A env sc ρ 40) t os) false)(h:Blk W A env ρ L rest Kn Pr):Blk W A env ρ L (.If t b [] p :: rest) Kn Pr:=sB (gq C os ht) (cG h)
theorem ny (C:Cx W A env sc)(os:List Fo)(ds:List D)(ha:sD es ds ρ=some ρ')(hk:((ia (.Tuple es n pt)).all (oA sc (cm ρ))&&CY e)=true)(he:Is (ev W A env sc ρ 40 e os) (.tup ds))(h:Blk W A env ρ' L rest Kn Pr):
  Blk W A env ρ L (.Assign [.Tuple es n pt] e p :: rest) Kn Pr:=by
 rw [ao] at hk
 exact pG C.hh (bn C os he) ha (dP C.hs hk.1) (sM hk.2) h
theorem GI {vs:List Expr}(C:Cx W A env sc)(os:List Fo)(ds:List D)(hw:AA sc es vs=some (some names))(hk:(i4 names.length ds.length&&names.all (oA sc (cm ρ)))=true)(he:Is (ev W A env sc ρ 40 (.Tuple vs k q) os) (.tup ds))(h:Blk W A env (og names.reverse ds.reverse ρ) L rest Kn Pr):Blk W A env ρ L (.Assign [.Tuple es n pt] (.Tuple vs k q) p :: rest) Kn Pr:=by
 rw [ao] at hk
 exact BW C.hh (bn C os he) (uo C.hs hw) (gh hk.1) (λx hx=>el C.hs (ft.mp hk.2 x hx)) h
theorem iq {vs:List Expr}(C:Cx W A env sc)(os:List Fo)(ds:List D)(hw:AA sc es vs=some none)(ha:sD es ds ρ=some ρ')(hk:(ia (.Tuple es n pt)).all (oA sc (cm ρ))=true)(he:Is (ev W A env sc ρ 40 (.Tuple vs k q) os) (.tup ds))(h:Blk W A env ρ' L rest Kn Pr):Blk W A env ρ L (.Assign [.Tuple es n pt] (.Tuple vs k q) p :: rest) Kn Pr:=pG C.hh (bn C os he) ha (dP C.hs hk) (uo C.hs hw) h
variable {os':List Fo}
theorem ak (C:Cx W A env sc:=by assumption)(h:ev W A env sc ρ 40 e []=some (d,P,os'):=by exact rfl):jC W A env ρ e d P:=λhP=>xM C 40 e [] d P os' h hP
theorem ky (C:Cx W A env sc:=by assumption)(h:ev W A env sc ρ 40 e []=some (d,P,os'):=by exact rfl)(hP:AllP P:=by exact trivial):aQ W A env ρ e d:=ak C h hP
theorem dg {d:Bool}(C:Cx W A env sc:=by assumption)(h:Om (ev W A env sc ρ 40) e []=some (d,P,os'):=by exact rfl):LK W A env ρ e d P:=λhP=>Cu (xM C 40) C e [] d P os' h hP
noncomputable def jj (p:Nat->Bool):Nat->Nat->Nat->Nat
 | 0,lo,_=>lo
 | f + 1,lo,hi=>if lo < hi then (if p ((lo + hi) / 2) then jj p f lo ((lo + hi) / 2) else jj p f ((lo + hi) / 2 + 1) hi) else lo
noncomputable def iW (p:Nat->Bool)(lo hi:Nat):Nat:=jj p (hi - lo) lo hi
noncomputable def mt (ns:List Int)(i:Nat):Int:=ns.getD i 0
noncomputable def jT (ns:List Int)(x:Int)(i:Nat):Bool:=decide (x < mt ns i)
noncomputable def jt (ns:List Int)(x:Int)(i:Nat):Bool:=!decide (mt ns i < x)
noncomputable def SubR:Rho->Rho->Prop
 | .nil,_=>True
 | .bind x d r,q=>look q x=some d/\SubR r q
 | .under _ _,_=>False
 | .froz r,q=>SubR r q
theorem SubR.look {r q:Rho}(h:SubR r q):∀y d,Internal.look r y=some d->Internal.look q y=some d:=by
 induction r with
 | nil=>exact λ_ _ e=>no e
 | bind x d' r ih=>
  intro y d e
  by_cases hx:x=y
  .subst hx;rw [show Internal.look (.bind x d' r) x=some d' from if_pos rfl] at e;(refine eQ e ?_;clear e;intro q₁;subst q₁);exact h.1
  .rw [show Internal.look (.bind x d' r) y=Internal.look r y from if_neg hx] at e;exact ih h.2 y d e
 | under=>exact h.elim
 | froz r ih=>exact ih h
theorem SubR.le {r q:Rho}(h:SubR r q)(hz:cm r=cm q):LeR r q:=⟨SubR.look h,λh=>hz.symm.trans h⟩
theorem tV (h:i < ns.length):lO (.list (ns.map .int)) (.int i)=some (.int (mt ns i),[0<=(i:Int),(i:Int) < 2 ^ 63]):=by
 have e:(ns.map D.int)[i]? =some (.int (mt ns i)):=by simp [mt,h]
 show ((ns.map D.int)[(i:Int).toNat]?).map _=_
 rw [aB,e]
 rfl
theorem m6 (lo hi:Nat):((lo:Int) + (hi:Int)).fdiv 2=(((lo + hi) / 2:Nat):Int):=by
 rw [bY _ (by decide)];exact au ((qM I0 (.a (.c Y1) (.c Y2)) 1 (qI Y0 (.a Y1 Y2) 1 (qN (.L I0 (.c Y0)) [0,1,1] 1)):qT [_,lo,hi] [_] [] _)) ((qM I0 (.a (.c Y1) (.c Y2)) 1 (qI Y0 (.a Y1 Y2) 1 (qN (.L (.c Y0) I0) [1,0,0,1] 1)):qT [_,lo,hi] [_] [] _))
variable {lo hi:Nat}
theorem n9 {p:Nat->Bool}(h:¬lo < hi):∀f,jj p f lo hi=lo
 | 0=>rfl
 | _ + 1=>if_neg h
theorem Ke (p:Nat->Bool):∀(f g lo hi:Nat),hi - lo<=f->hi - lo<=g->jj p f lo hi=jj p g lo hi:=by
 intro f
 induction f with
 | zero=>intro g lo hi h _;exact (n9 (λq=>absurd (tL q) (Nat.not_lt.mpr h)) g).symm
 | succ f ih=>
  intro g lo hi h1 h2
  by_cases hl:lo < hi
  .cases g with
   | zero=>exact absurd (tL hl) (Nat.not_lt.mpr h2)
   | succ g=>
    show (if lo < hi then _ else _)=if lo < hi then _ else _
    rw [if_pos hl,if_pos hl]
    cases p ((lo + hi) / 2) with
    | true=>exact ih g _ _ ((qB Y2 Y3 Y4 (qI Y3 (.a Y4 Y5) 1 (qA Y0 Y5 Y4 (qN (.l Y2 Y1) [0,1,1,0,0,2,0,1] 1))) (qN (.l Y2 Y1) [0,1]):qT [_,_,_,(lo + hi) / 2,_,_] [] [.l Y0 (.a Y1 J1)] _) h1) ((qB Y2 Y3 Y4 (qI Y3 (.a Y4 Y5) 1 (qA Y0 Y5 Y4 (qN (.l Y2 Y1) [0,1,1,0,0,2,0,1] 1))) (qN (.l Y2 Y1) [0,1]):qT [_,_,_,(lo + hi) / 2,_,_] [] [.l Y0 (.a Y1 J1)] _) h2)
    | false=>exact ih g _ _ ((qB Y2 Y3 (.a Y4 J1) (qI Y4 (.a Y5 Y3) 1 (qA Y0 Y3 Y5 (qN (.l Y2 Y1) [0,1,0,1,0,2,0,1]))) (qN (.l Y2 Y1) [0,1]):qT [_,_,_,_,(lo + hi) / 2,_] [] [.l Y0 (.a Y1 J1)] _) h1) ((qB Y2 Y3 (.a Y4 J1) (qI Y4 (.a Y5 Y3) 1 (qA Y0 Y3 Y5 (qN (.l Y2 Y1) [0,1,0,1,0,2,0,1]))) (qN (.l Y2 Y1) [0,1]):qT [_,_,_,_,(lo + hi) / 2,_] [] [.l Y0 (.a Y1 J1)] _) h2)
  .rw [n9 hl,n9 hl]
theorem fQ (p:Nat->Bool)(f lo hi:Nat)(h:hi - lo<=f):iW p lo hi=jj p f lo hi:=Ke p _ f lo hi (ae _) h
theorem Fa {p:Nat->Bool}{P:Nat->Nat->Nat->Prop}(C:∀lo hi,¬lo < hi->P lo hi lo)(L:∀lo hi r,lo < hi->p ((lo + hi) / 2)=true->P lo ((lo + hi) / 2) r->P lo hi r)(R:∀lo hi r,lo < hi->p ((lo + hi) / 2)=false->P ((lo + hi) / 2 + 1) hi r->P lo hi r)(lo hi:Nat):P lo hi (iW p lo hi):=
 suffices h:∀f lo hi,hi - lo<=f->P lo hi (jj p f lo hi) from h _ lo hi (ae _)
 λf=>by
  induction f with
  | zero=>exact λlo hi h=>C lo hi λq=>absurd (tL q) (Nat.not_lt.mpr h)
  | succ f ih=>
   intro lo hi h
   show P lo hi (if lo < hi then _ else _)
   by_cases hl:lo < hi
   .rw [if_pos hl]
    cases e:p ((lo + hi) / 2) with
    | true=>exact L lo hi _ hl e (ih _ _ ((qB Y2 Y3 Y4 (qI Y3 (.a Y4 Y5) 1 (qA Y0 Y5 Y4 (qN (.l Y2 Y1) [0,1,1,0,0,2,0,1] 1))) (qN (.l Y2 Y1) [0,1]):qT [_,_,_,(lo + hi) / 2,_,_] [] [.l Y0 (.a Y1 J1)] _) h))
    | false=>exact R lo hi _ hl e (ih _ _ ((qB Y2 Y3 (.a Y4 J1) (qI Y4 (.a Y5 Y3) 1 (qA Y0 Y3 Y5 (qN (.l Y2 Y1) [0,1,0,1,0,2,0,1]))) (qN (.l Y2 Y1) [0,1]):qT [_,_,_,_,(lo + hi) / 2,_] [] [.l Y0 (.a Y1 J1)] _) h))
   .rw [if_neg hl];exact C lo hi hl
theorem rq {p:Nat->Bool}(h:¬lo < hi):iW p lo hi=lo:=n9 h _
theorem Kd {p:Nat->Bool}(h:lo < hi)(hp:p ((lo + hi) / 2)=true):iW p lo hi=iW p lo ((lo + hi) / 2):=by
 rw [fQ p (hi - lo + 1) lo hi (aY _),fQ p (hi - lo) lo ((lo + hi) / 2) (by omega)]
 show (if lo < hi then _ else _)=_
 rw [if_pos h,if_pos hp]
theorem GK {p:Nat->Bool}(h:lo < hi)(hp:p ((lo + hi) / 2)=false):iW p lo hi=iW p ((lo + hi) / 2 + 1) hi:=by
 rw [fQ p (hi - lo + 1) lo hi (aY _),fQ p (hi - lo) ((lo + hi) / 2 + 1) hi (by omega)]
 show (if lo < hi then _ else _)=_
 rw [if_pos h,if_neg (by rw [hp];exact ag)]
noncomputable def ip (p:Nat->Bool)(a:Nat×Nat):Nat×Nat:=if p ((a.1 + a.2) / 2) then (a.1,(a.1 + a.2) / 2) else ((a.1 + a.2) / 2 + 1,a.2)
theorem rn {p:Nat->Bool}{a:Nat×Nat}(h:a.1 < a.2):iW p (ip p a).1 (ip p a).2=iW p a.1 a.2/\(ip p a).2<=a.2/\(ip p a).2 - (ip p a).1 < a.2 - a.1:=by
 cases hp:p ((a.1 + a.2) / 2) with
 | true=>
  have e:ip p a=(a.1,(a.1 + a.2) / 2):=if_pos hp
  rw [e]
  exact ⟨(Kd h hp).symm,by show (a.1 + a.2) / 2<=a.2;exact Mv h,by show (a.1 + a.2) / 2 - a.1 < a.2 - a.1;exact (qB Y2 Y4 Y0 (qI Y4 (.a Y0 Y1) 1 (qA Y3 Y1 Y0 (qN (aR Y2 Y3) [0,2,1,0,0,2,0,1] 1))) (qA Y3 Y1 Y0 (qN (aR Y2 Y3) [0,1,0,1,0,1])):qT [_,_,_,_,(a.1 + a.2) / 2] [] [aR Y0 Y1] _) h⟩
 | false=>
  have e:ip p a=((a.1 + a.2) / 2 + 1,a.2):=if_neg (by simp [hp])
  rw [e]
  exact ⟨(GK h hp).symm,ae _,by show a.2 - ((a.1 + a.2) / 2 + 1) < a.2 - a.1;exact (qB Y2 Y1 (.a Y4 J1) (qI Y4 (.a Y0 Y1) 1 (qA Y3 Y1 Y0 (qN (aR Y2 Y3) [0,1,0,1,0,2]))) (qA Y3 Y1 Y0 (qN (aR Y2 Y3) [0,1,0,1,0,1])):qT [_,_,_,_,(a.1 + a.2) / 2] [] [aR Y0 Y1] _) h⟩
noncomputable def LP:D->Bool
 | .none=>true
 | .bool _=>true
 | .int _=>true
 | .str _=>true
 | _=>false
theorem FJ (h:LP d=true)(r:Rep W g v d)(g':View):Rep W g' v d:=by
 cases d<;>first | (first | exact (ag h).elim | cases h) | skip
 .obtain rfl:=r.inv;exact .none
 .obtain rfl:=r.inv;exact .bool _
 .obtain ⟨_,rfl⟩:=r.inv;exact .int _ _
 .obtain ⟨_,rfl⟩:=r.inv;exact .str _ _
noncomputable def Ba (g:View)(a:Addr):View:=⟨λb=>if b=a then none else g.obj b,g.tok⟩
theorem li {b:Addr}(h:b≠a):(Ba g a).obj b=g.obj b:=if_neg h
theorem Dg {b:Addr}(h:(Ba g a).obj b=some o):g.obj b=some o/\b≠a:=by
 by_cases q:b=a
 .rw [q] at h
  have:(Ba g a).obj a=none:=if_pos rfl
  rw [this] at h;exact (aK h).elim
 .exact ⟨by rwa [li q] at h,q⟩
theorem FD (k:Ok W g s)(h:Hid g s a o)(hf:∀vs,o.data≠.fields vs)(x:Ext W (gu g a o) s g' s'):Ext W g s (Ba g' a) s':=by
 have hle:∀b ob,g.obj b=some ob->g'.obj b=some ob/\b≠a:=λb ob e=>by
  have hb:b≠a:=λq=>by rw [q,h.hid] at e;exact (aK e).elim
  exact ⟨x.le.obj b ob (by rw [cV hb];exact e),hb⟩
 have hga:g'.obj a=some o:=x.le.obj a o (cW _ _ _)
 refine ⟨⟨λb ob e=>?_,λt y e=>x.le.tok t y e⟩,⟨λb ob e=>?_,λb ob e=>x.ok.sub b ob (Dg e).1,λq hq=>?_,λq hq=>?_,x.ok.pos,x.ok.tok⟩,λb ob e t=>x.keep b ob e t,λb ob e t hn=>?_,x.same⟩
 .have hx0:=hle b ob e;have e1:=hx0.1;have e2:=hx0.2
  rw [li e2];exact e1
 .have e0:=k.base b ob e
  have hx0:=hle b ob e0;have e1:=hx0.1;have e2:=hx0.2
  rw [li e2];exact e1
 .apply bT (x.ok.tabs q hq);intro ps h1 h2 h3
  refine ⟨ps,h1,h2,λpos cv hc=>?_⟩
  apply Ds (h3 pos cv hc);intro mm c' hq0 oc vs t e1 e2 e3;subst hq0
  refine ⟨mm,c',rfl,oc,vs,t,?_,e2,e3⟩
  have hne:c'≠a:=λq=>by rw [q,hga] at e1;(refine eQ e1 ?_;clear e1;intro q₁;subst q₁);exact hf vs e2
  rw [li hne];exact e1
 .by_cases hb:q.2.1=a
  .show (if q.2.1=a then none else g'.obj q.2.1)=none
   rw [if_pos hb]
  .rw [li hb];exact x.ok.tabg q hq
 .by_cases hb:b=a
  .subst hb;exact if_pos rfl
  .rw [li hb];exact x.new b ob e t (by rw [cV hb];exact hn)
noncomputable def Oc (W:Wd)(A:Around)(env:Env)(ρ:Rho)(L:ww)(e:Expr)(d:D):Prop:=∀g s,Fra W g s env ρ->Ok W g s->LayOk W env g s L->Yl W A (eval e env) g s d
theorem IM (h:aQ W A env ρ e d):Oc W A env ρ L e d:=λg s F k _=>h g s F k
theorem rz (k:Ok W g s)(h:AccD W g s a (.list ds)):∃o,Hid g s a o/\(∀vs,o.data≠.fields vs)/\Rep W (gu g a o) (.ref a) (.list ds):=by
 apply fo (h.list);intro vs n h1 r
 exact ⟨_,h1,(λvs q=>by cases q),.list (cW _ _ _) (r.mono (Ext.see k h1.get h1.hid h1.tab).1)⟩
theorem Fra.see (F:Fra W g s env ρ)(k:Ok W g s)(h:Hid g s a o)(hx:look ρ x=some (.ref a))(r:Rep W (gu g a o) (.ref a) d)(hown:¬Own env a):Fra W (gu g a o) s env (.bind x d ρ) where
 kind:=F.kind
 glo:=F.glo
 bui:=F.bui
 ncd:=F.ncd
 hid:=by rw [cV λq=>hown (.inl q.symm)];exact F.hid
 loc:=by
  apply aA (F.loc);intro m hn hl
  refine ⟨m,hn,λy d' e hk=>?_⟩
  by_cases hy:x=y
  .subst hy
   simp only [look,if_true,cj] at e
   subst e
   apply aA (hl x _ hx hk);intro v hv rv
   obtain rfl:=rv.inv
   exact ⟨_,hv,r⟩
  .simp only [look,if_neg hy] at e
   apply aA (hl y d' e hk);intro v hv rv
   exact ⟨v,hv,rv.mono (Ext.see k h.get h.hid h.tab).1⟩
 inj:=F.inj
 liv:=λy c e=>by
  have hx0:=F.liv y c e;have h1:=hx0.1;have h2:=hx0.2
  exact ⟨h1,λhz=>by rw [cV (λ(q:c=a)=>hown (.inr ⟨y,by rw [<-q];exact e⟩))];exact h2 hz⟩
 cel:=λy hk=>by
  apply bP (F.cel y hk);intro c cv h1 h2 h3
  refine ⟨c,cv,h1,h2,λd' e=>?_⟩
  by_cases hy:x=y
  .subst hy
   simp only [look,if_true,cj] at e
   subst e
   apply aA (h3 _ hx);intro v hv rv
   obtain rfl:=rv.inv
   exact ⟨_,hv,r⟩
  .simp only [look,if_neg hy] at e
   apply aA (h3 d' e);intro v hv rv
   exact ⟨v,hv,rv.mono (Ext.see k h.get h.hid h.tab).1⟩
theorem nX (hm:(a,.list ds)∈L)(hx:look ρ x=some (.ref a))(hp:LP d=true)(h:aQ W A env (.bind x (.list ds) ρ) e d):Oc W A env ρ L e d:=λg s F k l Q E hQ=>by
 apply bT (rz k (l.acc _ hm));intro o h1 h2 r
 have q:=Ext.see k h1.get h1.hid h1.tab
 exact h _ s (F.see k h1 hx r (l.own _ hm)) q.2 _ _ λv g' s' x1 r1=>hQ v (Ba g' a) s' (FD k h1 h2 x1) (FJ hp r1 _)
theorem jh (he:Oc W A env ρ L e d)(hk:Has env (cm ρ) x)(hs:swapsWith e (some (.Name x p')) p.line env=pure false)(h:Blk W A env (.bind x d ρ) L rest Kn Pr):
  Blk W A env ρ L (.Assign [.Name x p'] e p :: rest) Kn Pr:=
 fh (λ_ h=>h) (λg s F k l Q E hQ=>gz (he g s F k l _ _ λv g1 s1 x1 r1=>gi (F.ext x1) x1.ok hk.kind r1 λs2 x2 F2=>
  hQ g1 s2 (x1.toM.trans (x2.mono λa h=>.inl h)) F2 ((l.ext x1).step x2)) hs) h
theorem iU (hL:L=(a,.list ds) :: L')(hx:look ρ x=some (.ref a))(h:Blk W A env (.bind x (.list ds) ρ) L' ss Kn Pr):Blk W A env ρ L ss Kn Pr:=.mk λg s F k l E=>by
 subst hL
 apply bT (rz k (l.acc _ (.head _)));intro o h1 h2 r
 have q:=Ext.see k h1.get h1.hid h1.tab
 have x0:ExtM W (MO env ((a,.list ds) :: L')) g s (gu g a o) s:=(ExtM.refl k).see h1 (.inr (.head _))
 have hnd:=l.nd
 rw [aD,fR] at hnd
 have l':LayOk W env (gu g a o) s L':=⟨λp hp=>⟨by
   apply aA ((l.acc p (.tail _ hp)).obj);intro o' h3 h4
   have hne:p.1≠a:=λq=>hnd.1 (Cj.mpr ⟨p,hp,q⟩)
   exact ⟨o',⟨h3.get,h3.tab,by rw [cV hne];exact h3.hid⟩,h4.mono q.1⟩,(l.acc p (.tail _ hp)).sys⟩,hnd.2,λp hp=>l.own p (.tail _ hp)⟩
 exact aI (h.run _ s (F.see k h1 hx r (l.own _ (.head _))) q.2 l' E) (λf s' z=>(z.mono λb hb=>hb.elim .inl λhb=>.inr (.tail _ hb)).trans x0) λ_ _ e=>e
theorem xA {α β:Type}{f:α->β}:∀{l:List α},(l.map f).Nodup->∀{a b},a∈l->b∈l->f a=f b->a=b
 | x :: l,h,a,b,ha,hb,e=>by
  rw [aD,fR] at h
  rcases List.mem_cons.mp ha with ea | ha
  .rcases List.mem_cons.mp hb with eb | hb
   .exact ea.trans eb.symm
   .exact absurd (Cj.mpr ⟨b,hb,by rw [<-e,ea]⟩) h.1
  .rcases List.mem_cons.mp hb with eb | hb
   .exact absurd (Cj.mpr ⟨a,ha,by rw [e,eb]⟩) h.1
   .exact xA h.2 ha hb e
structure LayAt (W:Wd)(g:View)(s:Shared)(L:ww):Prop where
 acc:∀p∈L,AccD W g s p.1 p.2
 nd:(L.map (·.1)).Nodup
theorem LayAt.nil:LayAt W g s []:=⟨λ_ h=>(nomatch h),ym⟩
theorem LayOk.at (l:LayOk W env g s L):LayAt W g s L:=⟨l.acc,l.nd⟩
theorem LayAt.ext (l:LayAt W g s L)(x:Ext W g s g' s'):LayAt W g' s' L:=⟨λp hp=>(l.acc p hp).extM (N:=λ_=>False) x.toM id,l.nd⟩
theorem LayAt.alive (l:LayAt W g s L)(h:a∈L.map (·.1)):∃o,s.heap.get? a=some o/\bD o=false:=by
 apply aA (Cj.mp h);intro p hp hq0;subst hq0
 obtain ⟨o,ho⟩:=(l.acc p hp).alive
 exact ⟨o,ho.get,ho.tab⟩
theorem AccD.notCell (h:AccD W g s a d){v:Option Value}(hc:s.heap.IsCell a v):False:=by
 apply aA (h.obj);intro o h1 h2
 apply aA (hc);intro o' e hd
 rw [h1.get] at e;(refine eQ e ?_;clear e;intro q₁;subst q₁)
 cases d with
 | list=>apply fo h2;intro vs n hq0 _;subst hq0;cases hd
 | idict=>apply aA h2;intro vs hn0 _;obtain ⟨es,ep,_,e2,_⟩:=hn0;rw [e2] at hd;cases hd
 | _=>exact h2
noncomputable def CallL (W:Wd)(A:Around)(f:D)(ds:List D)(kws:List (Str×D))(L:ww)(d:D)(L':ww):Prop:=
 ∀g s vf vs kvs,Ok W g s->LayAt W g s L->Rep W g vf f->RepAll W g vs ds->kvs.map (·.1)=kws.map (·.1)->RepAll W g (kvs.map (·.2)) (kws.map (·.2))->∀(Q:Value->Shared->Prop) (E:Value->Shared->Prop),
  (∀v g' s',ExtM W (·∈L.map (·.1)) g s g' s'->LayAt W g' s' L'->Rep W g' v d->Q v s')->wpAny (model W.prog W.w) A (call vf vs kvs) Q E s
variable {kws:List (Str×D)}
theorem CallL.toTo (h:CallL W A f ds kws [] d []):bz W A f ds kws d:=λg s vf vs kvs k rf rs hk rk Q E hQ=>
 h g s vf vs kvs k LayAt.nil rf rs hk rk Q E λv g' s' x l r=>hQ v g' s' (x.toExt λ_ _ h=>(nomatch h)) r
theorem rg (hb:Blk W A env ρ L body (λ_ L2=>d=.none/\L2=L') (λd' L2=>d'=d/\L2=L'))(F:Fra W g s env ρ)(k:Ok W g s)(l:LayOk W env g s L)(hz:∀v s,¬W.esc env.scope v s)(hQ:∀v g' s',ExtM W (MO env L) g s g' s'->LayAt W g' s' L'->Rep W g' v d->Q v s'):wpAny (model W.prog W.w) A (execs body env) (λf s'=>Q (match f with | .ret v=>v | _=>.none) s') E s:=
 aI (hb.run g s F k l E) (λf s' q=>by
  cases f with
  | next=>apply gn (q);intro g' ρ' L2 x _ l2 hq0 hq1;subst hq0;subst hq1;exact hQ _ g' s' x l2.at .none
  | ret v=>apply gn (q.resolve_right (λh=>hz v s' h.1));intro g' d' L2 x r l2 hq0 hq1;subst hq0;subst hq1;exact hQ v g' s' x l2.at r
  | cont=>exact q.elim
  | brk=>exact q.elim) λ_ _ e=>e
noncomputable abbrev fB (W:Wd)(A:Around)(env:Env)(ρ:Rho)(L:ww)(body:List Stmt)(d:D)(L':ww):Prop:=Blk W A env ρ L body (λ_ L2=>d=.none/\L2=L') (λd' L2=>d'=d/\L2=L')
variable {ds':List D}
theorem GE (ha:W.h₀.get? a=some {cls:=.type "function",data:=.func fd })(hcd:W.h₀.CodeRec fd.code fd.qualname)(hok:pT fd names=true)(hb:fd.body=.stmts body)(hbind:∀g s vs kvs,Ok W g s->RepAll W g vs ds->kvs.map (·.1)=kws.map (·.1)->RepAll W g (kvs.map (·.2)) (kws.map (·.2))->∃vs',BindsTo s fd ⟨vs,kvs⟩ (names.zip vs')/\RepAll W g vs' ds')(hl:names.length=ds'.length)(R:A.depth < recursionLimit)(hblk:∀env,env.scope=fd.scope->env.code=fd.code->env.qual=fd.qualname++".<locals>."->fB W (A.deeper env) env (dc names ds' .nil) L body d L'):CallL W A (.ref a) ds kws L d L':=λg s vf vs kvs k l rf rs hk rk Q E hQ=>by
 obtain rfl:=rf.inv
 have hx0:=jJ hok;have h1:=hx0.1;have h2:=hx0.2.1;have h3:=hx0.2.2.1;have h4:=hx0.2.2.2.1;have h5:=hx0.2.2.2.2
 apply aA (hbind g s vs kvs k rs hk rk);intro vs' hbi rs'
 refine jg (args:=⟨vs,kvs⟩) R k (k.baseHeap _ _ ha) rfl h1 h2 h3 (hcd.keeps k.baseHeap) hbi h4 h5 hl rs' λenv s1 e1 e2 e3 _ hfr x1 F=>?_
 show yq _ _ _ fd.body _ _ _
 rw [hb]
 have l1:LayOk W env g s1 L:=⟨(l.ext x1).acc,l.nd,λp hp ho=>by
  apply aA (l.alive (Cj.mpr ⟨p,hp,rfl⟩));intro o e _
  exact absurd (aF e) (Nat.not_lt.mpr (hfr _ ho))⟩
 exact rg (hblk env e1 e2 e3) F x1.ok l1 (e1▸Fv hok) λv g' s' x2 l2 r=>hQ v g' s' ((x1.toM.trans x2).drop λb o hm hn e=>hm.elim (λh=>bf (hfr b h.own) o e) λh=>absurd h hn) l2 r
theorem GF {body:FuncBody}(ha:W.h₀.get? a=some o)(hd:o.data=.func fd)(hcd:W.h₀.CodeRec fd.code fd.qualname)(hf:FnOk fd)(hnc:∀y∈fd.scope.names,y.2≠.cell)(hb:fd.body=body)(hnd:names.Nodup)(hloc:∀x∈names,fd.scope.names.lookup x=some .local)(hC:∀g s,Ok W g s->CloOk W g s fd ρc)(hbind:∀s (vs:List Value),vs.length=names.length->BindsTo s fd ⟨vs,[]⟩ (names.zip vs))(hl:names.length=ds.length)(R:A.depth < recursionLimit)(hblk:∀env,env.scope=fd.scope->env.cells=fd.closure->∀g s,Fra W g s env (dc names ds ρc)->Ok W g s->LayOk W env g s L->∀(Q:Value->Shared->Prop) (E:Value->Shared->Prop),
   (∀v g' s',ExtM W (MO env L) g s g' s'->LayAt W g' s' L'->Rep W g' v d->Q v s')->yq W (A.deeper env) env body Q E s):CallL W A (.ref a) ds [] L d L':=λg s vf vs kvs k l rf rs hk rk Q E hQ=>by
 obtain rfl:=rf.inv
 have:kvs=[]:=by simpa using hk
 subst this
 refine vF (args:=⟨vs,[]⟩) R k (k.baseHeap _ _ ha) hd hf hnc (hcd.keeps k.baseHeap) (hbind s vs (by rw [rs.length,hl])) hnd hloc hl rs (hC g s k) λenv s1 e1 e2 e3 e4 _ hfr x1 F=>?_
 rw [hb]
 have l1:LayOk W env g s1 L:=⟨(l.ext x1).acc,l.nd,λp hp ho=>by
  rcases ho with q | ⟨x,q⟩
  .apply aA (l.alive (Cj.mpr ⟨p,hp,rfl⟩));intro o e _
   exact absurd (aF e) (Nat.not_lt.mpr (by rw [q];exact hfr))
  .have hx0:=F.liv x _ q;have hn0:=hx0.1;obtain ⟨v,hv⟩:=hn0
   exact ((l.ext x1).acc p hp).notCell hv⟩
 refine hblk env e1 e2 g s1 F x1.ok l1 _ _ λv g' s' x2 l2 r=>hQ v g' s' ((x1.toM.trans x2).drop λb o hm hn e=>hm.elim (λh=>?_) λh=>absurd h hn) l2 r
 rcases h with rfl | ⟨x,hx,_⟩
 .exact bf hfr o e
 .exact absurd (show fd.scope.names.lookup x=some .cell by rw [<-e1];exact hx) λq=>hnc _ (mem_of_lookup q) rfl
theorem lw (hs:env.scope.kind=.function)(hf:aQ W A env ρ (.Name x q) f)(h:EvAll W A env ρ es ds)(hk:EvKws W A env ρ kes kds)(hkp:cJ W f)(hc:CallL W A f ds kds L .none L')(hL:L'.map (·.1)=L.map (·.1))(hr:Blk W A env ρ L' rest Kn Pr):Blk W A env ρ L (.Expr (.Call (.Name x q) es kes pos) p :: rest) Kn Pr:=
 fh (λa h=>hL▸h) (λg s F k l Q E hQ=>Cr (dF hf h hk hkp F k λg2 s2 vf vs kvs x2 rf rs hkv rk=>
  hc g2 s2 vf vs kvs x2.ok (l.at.ext x2) rf rs hkv rk _ _ λv g3 s3 x3 l3 r3=>by
   obtain rfl:=r3.inv
   have hoff:iv env (·∈L.map (·.1)):=dU λa ho hm=>by apply aA (Cj.mp hm);intro p hp hq0;subst hq0;exact l.own p hp ho
   exact hQ g3 s3 (x2.toM.trans (x3.mono λa h=>.inr h)) ((F.ext x2).extM x3 hoff) ⟨l3.acc,l3.nd,λp hp ho=>by
    have:p.1∈L.map (·.1):=hL▸Cj.mpr ⟨p,hp,rfl⟩
    apply aA (Cj.mp this);intro p' hp' e
    exact l.own p' hp' (e▸ho)⟩) (by unfold interactive;rw [hs];rfl) rfl) hr
structure Makes (W:Wd)(env:Env)(c P:Addr)(q:Str):Prop where
 mem:(c,P,q)∈W.tabs
 code:env.code=.ref c
theorem LN {oc of:Obj}{tk:Nat}(k:Ok W g s){P:Addr}{q:Str}{cP:Addr}(hm:(cP,P,q)∈W.tabs)(hx:jx P s.heap h')(hc:s.heap.objs.size<=c)(hlt:c < h'.objs.size)(hoc:h'.get? c=some oc)(htab:TabAt (W.may P) (gu (gu g c oc) h'.objs.size of) h' P q)(hof:of.isFreed=false)(hn:s.toks<=tk):
  Ext W g s (gu (gu g c oc) h'.objs.size of) {s with heap:=h'.push of,toks:=tk }:=by
 have hPlt:=(λ(x:TabAt (W.may P) g s.heap P q)=>aA x λps e _=>aF e) (k.tabs _ hm)
 have hnc:g.obj c=none:=k.fresh hc
 have hszle:s.heap.objs.size<=h'.objs.size:=ai hc (cZ hlt)
 have hfc:h'.objs.size≠c:=dN hlt
 have hnf:(gu g c oc).obj h'.objs.size=none:=by rw [cV hfc];exact k.fresh hszle
 have le:Le g (gu (gu g c oc) h'.objs.size of):=(gK hnc).trans (gK hnf)
 have old:∀a o,g.obj a=some o->h'.get? a=some o:=λa o e=>hx a o (λq'=>by
  have:=k.tabg _ hm
  rw [q',this] at e;exact (aK e).elim) (k.sub a o e)
 refine ⟨le,⟨λa o e=>le.obj _ _ (k.base a o e),λa o e=>?_,λq' hq=>?_,λq' hq=>?_,aw k.pos hn,λt x e=>⟨(k.tok t x e).1,aw (k.tok t x e).2 hn⟩⟩,λa o e t=>?_,λa o l t e=>?_,rfl⟩
 .by_cases h1:a=h'.objs.size
  .subst h1;rw [cW] at e;(refine eQ e ?_;clear e;intro q₁;subst q₁);exact Heap.get?_push_size _ hof
  .rw [cV h1] at e
   by_cases h2:a=c
   .subst h2;rw [cW] at e;(refine eQ e ?_;clear e;intro q₁;subst q₁);exact Heap.get?_push_of_some _ hoc
   .rw [cV h2] at e;exact Heap.get?_push_of_some _ (old a o e)
 .by_cases hP:q'.2.1=P
  .have:q'=(cP,P,q):=by
    have hd:=W.tabDist
    exact xA hd hq hm hP
   subst this
   apply aA (htab);intro ps e r
   exact ⟨ps,Heap.get?_push_of_some _ e,r⟩
  .apply bT (k.tabs q' hq);intro ps e r1 r2
   exact ⟨ps,Heap.get?_push_of_some _ (hx _ _ hP e),r1,λpos cv hcv=>oP (r2 pos cv hcv) λm c' a b=>⟨m,c',a,b.mono le⟩⟩
 .have l1:=(λ(x:TabAt (W.may q'.2.1) g s.heap q'.2.1 q'.2.2)=>aA x λps e _=>aF e) (k.tabs q' hq)
  rw [cV (bG (aw l1 hszle)),cV (bG (aw l1 hc))]
  exact k.tabg q' hq
 .refine Heap.get?_push_of_some _ (hx a o (λq'=>?_) e)
  apply aA (k.tabs _ hm);intro ps e2 _
  rw [q'] at e
  rw [show s.heap.get? P=some (tabObj ps) from e2] at e
  (refine eQ e ?_;clear e;intro q₁;subst q₁);exact (ag t.symm).elim
 .have l1:=aF l
  rw [cV (bG (aw l1 hszle)),cV (bG (aw l1 hc))]
  exact e
theorem Ok.builtinsAt (k:Ok W g s){P:Addr}{q:Str}(hm:(c,P,q)∈W.tabs):s.heap.BuiltinsAt W.mg P/\mainGlobals≠P:=by
 apply n5 (W.bmain);intro bm ob b1 b2 b3 b4 b5 b6
 have hP:=W.tabNone _ hm
 have hgs:=W.g
 have hgP:mainGlobals≠P:=λq'=>by
  apply aV (hgs);intro o es ep e hd _
  rw [q',hP] at e;exact (aK e).elim
 have hbG:bm≠mainGlobals:=λq'=>by
  apply aV (hgs);intro o es ep e hd _
  rw [q',e] at b3;(refine eQ b3 ?_;clear b3;intro q₁;subst q₁);rw [hd] at b6;cases b6
 exact ⟨⟨bm,ob,b1,b2,hbG,λq'=>(by rw [q',hP] at b3;exact (aK b3).elim),k.baseHeap _ _ b3,b4,b5,b6⟩,hgP⟩
theorem sL {P:List Value->Prop}(h0:P [])(h1:∀x t y u z l,P l->P (.int x t :: .int y u :: z :: l)):∀{l:List Value},TriplesOk l->P l:=by
 intro l h
 fun_induction TriplesOk l with
 | case1=>exact h0
 | case2 a t b u z l ih=>exact h1 _ _ _ _ _ _ (ih h)
 | case3=>exact h.elim
theorem wi {x y:Int}{t:Tok}{z:Value}{l:List Value}:codeAmong pos (.int x t :: .int y u :: z :: l)=if x==pos.line&&y==pos.col then some z else codeAmong pos l:=rfl
variable {cv:Value}
theorem yj {r l:List Value}(ht:TriplesOk l):codeAmong pos l=some cv->codeAmong pos (l++r)=some cv:=by
 refine sL (P:=λl=>codeAmong pos l=some cv->codeAmong pos (l++r)=some cv) (λh=>(aK h).elim) (λx t y u z l ih h=>?_) ht
 show (if x==(pos.line:Int)&&y==(pos.col:Int) then some z else codeAmong pos (l++r))=some cv
 rw [wi] at h
 by_cases hq:(x==(pos.line:Int)&&y==(pos.col:Int))=true
 .rw [if_pos hq] at h;rw [if_pos hq];exact h
 .rw [if_neg hq] at h;rw [if_neg hq];exact ih h
theorem yi {a:Int}{c:Value}{l:List Value}(ht:TriplesOk l):codeAmong pos l=none->codeAmong pos (l++[rawInt a,rawInt b,c])=some cv->a=pos.line/\cv=c:=by
 refine sL (P:=λl=>codeAmong pos l=none->codeAmong pos (l++[rawInt a,rawInt b,c])=some cv->a=pos.line/\cv=c) (λ_ h=>?_) (λx t y u z l ih hn h=>?_) ht
 .have h':(if a==(pos.line:Int)&&b==(pos.col:Int) then some c else none)=some cv:=h
  by_cases hq:(a==(pos.line:Int)&&b==(pos.col:Int))=true
  .rw [if_pos hq] at h';(refine eQ h' ?_;clear h';intro q₁;subst q₁)
   rw [ao,beq_iff_eq] at hq
   exact ⟨hq.1,rfl⟩
  .rw [if_neg hq] at h';exact (aK h').elim
 .rw [wi] at hn
  by_cases hq:(x==(pos.line:Int)&&y==(pos.col:Int))=true
  .rw [if_pos hq] at hn;exact (uv hn).elim
  .rw [if_neg hq] at hn
   refine ih hn ?_
   have h':(if x==(pos.line:Int)&&y==(pos.col:Int) then some z else codeAmong pos (l++[rawInt a,rawInt b,c]))=some cv:=h
   rwa [if_neg hq] at h'
theorem wh {a b:Nat}{c:Value}{l:List Value}(ht:TriplesOk l)(hn:codeAmong pos l=none)(h:codeAmong pos (l++[rawInt a,rawInt b,c])=some cv):a=pos.line:=dZ.inj (yi ht hn h).1
theorem wg {a:Int}{c:Value}{l:List Value}(ht:TriplesOk l)(hn:codeAmong pos l=none)(h:codeAmong pos (l++[rawInt a,rawInt b,c])=some cv):cv=c:=(yi ht hn h).2
variable {fb:FuncBody}{clos:List (Str×Addr)}
theorem xC {params:Arguments}{fl:Nat}{P:Addr}{q:Str}(mk:Makes W env c P q)(hmay:W.may P pos.line=true)(hcl:closureFor scope env=pure clos)(hg:env.globals=mainGlobals)(k:Ok W g s)(hQ:∀v g' s',Ext W g s g' s'->Rep W g' v (.lam clos params fb scope)->Q v s'):wpAny (model W.prog W.w) A (makeFunction name q params fb scope env [] [] [] pos fl) Q E s:=by
 apply bT (k.tabs _ mk.mem);intro ps hP ht hrec
 have hx0:=k.builtinsAt mk.mem;have hb:=hx0.1;have hgP:=hx0.2
 have C:=(W.codes _ mk.mem).keeps k.baseHeap
 have new:∀(c':Addr) (o:Obj) (fd:FuncData) (h':Heap) (tk:Tok),o.data=.func fd->fd.params=params->fd.body=fb->fd.scope=scope->fd.closure=clos->fd.code=.ref c'->fd.qualname=q->fd.globals=mainGlobals->fd.builtins=builtinsNs->fd.defaults=.none->fd.kwdefaults=.none->o.isFreed=false->
   jx P s.heap h'->s.heap.objs.size<=c'->c' < h'.objs.size->h'.CodeRec (.ref c') q->codeAmong pos ps.toList=none->h'.get? P=some (tabObj (ps++#[rawInt pos.line,rawInt pos.col,.ref c']))->s.toks<=tk->Q (.ref h'.objs.size) {s with heap:=h'.push o,toks:=tk }:=by
  intro c' o fd h' tk e1 e2 e3 e4 e5 e6 e7 e8 e9 e10 e11 hof hx hge hlt hr hnf htb hn
  apply n0 (hr);intro c2 oc vs t ec hoc hdc hv
  (refine G7 ec ?_;clear ec;intro q₁;subst q₁)
  have hfc:h'.objs.size≠c':=dN hlt
  have le1:Le g (gu (gu g c' oc) h'.objs.size o):=(gK (k.fresh hge)).trans (gK (by rw [cV hfc];exact k.fresh (ai hge (cZ hlt))))
  have rec':CodeRecG (gu (gu g c' oc) h'.objs.size o) c' q:=⟨oc,vs,t,by rw [cV (fy hfc)];exact cW _ _ _,hdc,hv⟩
  have x:=LN (tk:=tk) (of:=o) k mk.mem hx hge hlt hoc (by
   refine ⟨_,htb,?_,λpos' cv hcv=>?_⟩
   .have:=TriplesOk_snoc pos.line pos.col (.ref c') ps.toList ht
    simpa using this
   .by_cases hp:codeAmong pos' ps.toList=none
    .have hcv':codeAmong pos' (ps.toList++[rawInt pos.line,rawInt pos.col,.ref c'])=some cv:=by simpa using hcv
     exact ⟨wh ht hp hcv'▸hmay,c',wg ht hp hcv',rec'⟩
    .obtain ⟨cv0,hc0⟩:=Option.ne_none_iff_exists'.mp hp
     have hcv':codeAmong pos' (ps.toList++[rawInt pos.line,rawInt pos.col,.ref c'])=some cv:=by simpa using hcv
     rw [yj ht hc0] at hcv'
     (refine eQ hcv' ?_;clear hcv';intro q₁;subst q₁)
     apply oP (hrec pos' _ hc0);intro m3 c3 hq0 r3;subst hq0
     exact ⟨m3,c3,rfl,r3.mono le1⟩) hof hn
  exact hQ _ _ _ x (.lam (cW _ _ _) e1 e2 e3 e4 e5 e6 rec' e7 e8 e9 e10 e11)
 have hit:∀(cv:Value) (o:Obj) (fd:FuncData) (h':Heap) (tk:Tok),o.data=.func fd->fd.params=params->fd.body=fb->fd.scope=scope->fd.closure=clos->fd.code=cv->fd.qualname=q->fd.globals=mainGlobals->fd.builtins=builtinsNs->fd.defaults=.none->fd.kwdefaults=.none->o.isFreed=false->
   (∀b o,s.heap.get? b=some o->h'.get? b=some o)->s.heap.objs.size<=h'.objs.size->codeAmong pos ps.toList=some cv->s.toks<=tk->Q (.ref h'.objs.size) {s with heap:=h'.push o,toks:=tk }:=by
  intro cv o fd h' tk e1 e2 e3 e4 e5 e6 e7 e8 e9 e10 e11 hof hk hsz hf hn
  apply oP (hrec pos _ hf);intro _ c' hq0 r;subst hq0
  have x1:=Ext.kept k hk hn
  have x2:=Ext.push x1.ok o hof
  exact hQ _ _ _ (x1.trans x2) (.lam (cW _ _ _) e1 e2 e3 e4 e5 e6 (r.mono x2.le) e7 e8 e9 e10 e11)
 refine ch (ae _) ?_
 cases fb with
 | expr body=>
  cases hf:codeAmong pos ps.toList with
  | none=>exact kla_makeFunction (mg:=W.mg) hcl hg k.glob mk.code C hP ht hf hgP hb λc' ctv h' tk hx hge hlt hr htb hn=>new c' _ _ h' tk rfl rfl rfl rfl rfl rfl rfl rfl rfl rfl rfl rfl hx hge hlt hr hf htb hn
  | some cv=>exact kla_makeFunctionHit (mg:=W.mg) hcl hg k.glob mk.code C hP ht hf hb λctv h' tk hk hsz hn=>hit cv _ _ h' tk rfl rfl rfl rfl rfl rfl rfl rfl rfl rfl rfl rfl hk hsz hf hn
 | stmts body=>
  cases hf:codeAmong pos ps.toList with
  | none=>exact makeFunction_K (mg:=W.mg) hcl hg k.glob mk.code C hP ht hf hgP hb λc' ctv doc h' tk hx hge hlt hr htb hn=>new c' _ _ h' tk rfl rfl rfl rfl rfl rfl rfl rfl rfl rfl rfl rfl hx hge hlt hr hf htb hn
  | some cv=>exact makeFunction_hit (mg:=W.mg) hcl hg k.glob mk.code C hP ht hf hb λctv doc h' tk hk hsz hn=>hit cv _ _ h' tk rfl rfl rfl rfl rfl rfl rfl rfl rfl rfl rfl rfl hk hsz hf hn
noncomputable def vT (env:Env)(sc:Scope):List (Str×Addr):=(BL env sc.names []).getD []
noncomputable def nr (sc esc:Scope):Bool:=sc.names.all λp=>p.2 !=.free||(esc.names.lookup p.1==some .cell||esc.names.lookup p.1==some .free)
theorem zQ {esc:Scope}(F:Fra W g s env ρ)(hs:env.scope=esc)(h:nr sc esc=true):closureFor sc env=pure (vT env sc):=by
 have hall:∀n,(n,cb)∈sc.names->(env.cells.lookup n).isSome=true:=λn hn=>by
  have q:=ft.mp h _ hn
  simp only [ei,bne_iff_ne,ne_eq,not_true_eq_false,false_or,beq_iff_eq] at q
  apply fo (F.cel n (by unfold bj;rw [hs];exact q));intro c cv e _
  rw [e];rfl
 obtain ⟨cl,hcl⟩:=j0 (env:=env) (names:=sc.names) (acc:=[]) hall
 unfold vT
 rw [hcl]
 exact io hcl
theorem nf {b:Expr}{esc:Scope}{P:Addr}{q:Str}(hs:env.scope=esc)(hc:nr sc esc=true)(mk:Makes W env c P q)(hmay:W.may P p.line=true)(hq:env.qual++"<lambda>"=q)(hd:args.defaults=[]/\args.kw_defaults=[]):
  aQ W A env ρ (.Lambda args b sc p) (.lam (vT env sc) args (.expr b) sc):=λg s F k Q E hQ=>by
 refine kla_eval (by rw [Gy,hd.1,hd.2];rfl) ?_
 rw [hq]
 exact xC mk hmay (zQ F hs hc) F.glo k hQ
theorem E9 {esc:Scope}{P:Addr}{q:Str}(hs:env.scope=esc)(hc:nr sc esc=true)(mk:Makes W env c P q)(hmay:W.may P p.line=true)(hq:qualnameIn env name name=q)(hd:args.defaults=[]/\args.kw_defaults=[])(ha:annTrees args none env=[])(hk:Has env (cm ρ) name)(h:Blk W A env (.bind name (.lam (vT env sc) args (.stmts body) sc) ρ) L rest Kn Pr):
  Blk W A env ρ L (.FunctionDef name args body [] none [] sc none name p :: rest) Kn Pr:=
 fh (λ_ h=>h) (λg s F k l Q E hQ=>by
  rw [exec_def]
  refine aa (cM (aa (bK ?_)))
  rw [Gy,hd.1,hd.2,ha,hq]
  refine aa (aj (aa (bK (aj (bK (aa (aj ?_)))))))
  refine xC mk hmay (zQ F hs hc) F.glo k λv g1 s1 x1 r1=>?_
  refine aa (cM (aa (wpAny_bindName (gi (F.ext x1) x1.ok hk.kind r1 λs2 x2 F2=>aj ?_))))
  exact hQ g1 s2 (x1.toM.trans (x2.mono λa h=>.inl h)) F2 ((l.ext x1).step x2)) h
structure SameW (W W':Wd):Prop where
 prog:W'.prog=W.prog
 w:W'.w=W.w
variable {W':Wd}
theorem SameW.symm (e:SameW W W'):SameW W' W:=⟨e.prog.symm,e.w.symm⟩
theorem Rep.reW (e:SameW W W')(r:Rep W g v d):Rep W' g v d:=
 r.rec (motive_1:=λv d _=>Rep W' g v d) (motive_2:=λvs ds _=>RepAll W' g vs ds) .none .bool .int .str .kstr .bytes (λa _ r=>.tup a r) (λa _ r=>.list a r)
  (λa b c d _ r=>.sdict a b (by rw [e.prog,e.w];exact c) d r) (λa b c d _ r=>.idict a b (by rw [e.prog,e.w];exact c) d r) .ref .bi .ty .lam .nil λ_ _ a b=>.cons a b
theorem RepAll.reW (e:SameW W W')(r:RepAll W g vs ds):RepAll W' g vs ds:=r.ind (P:=λvs ds=>RepAll W' g vs ds) .nil λ_ _ _ _ a _ b=>.cons (a.reW e) b
theorem Fra.reW (e:SameW W W')(F:Fra W g s env ρ):Fra W' g s env ρ where
 kind:=F.kind
 glo:=F.glo
 bui:=F.bui
 ncd:=F.ncd
 hid:=F.hid
 loc:=aA F.loc λm a b=>⟨m,a,λx d h k=>aA (b x d h k) λv p q=>⟨v,p,q.reW e⟩⟩
 inj:=F.inj
 liv:=F.liv
 cel:=λx h=>bP (F.cel x h) λc cv a b r=>⟨c,cv,a,b,λd h=>aA (r d h) λv p q=>⟨v,p,q.reW e⟩⟩
theorem ObjIs.reW (e:SameW W W')(h:ObjIs W g o d):ObjIs W' g o d:=by
 cases d with
 | list=>exact fo h λvs n q r=>⟨vs,n,q,r.reW e⟩
 | idict=>exact bT h λvs q l r=>⟨vs,by rw [e.prog,e.w];exact q,l,r.reW e⟩
 | _=>exact h
theorem LayOk.reW (e:SameW W W')(l:LayOk W env g s L):LayOk W' env g s L:=⟨λp hp=>⟨aA ((l.acc p hp).obj) λo a b=>⟨o,a,b.reW e⟩,(l.acc p hp).sys⟩,l.nd,l.own⟩
structure Based (W W':Wd)(env:Env)(ρ:Rho)(g:View)(s:Shared):Prop extends SameW W W' where
 mg:W'.mg=W.mg
 mb:W'.mb=W.mb
 tabs:W'.tabs=W.tabs
 may:W'.may=W.may
 esc:W'.esc=W.esc
 le:∀a o,W.h₀.get? a=some o->W'.h₀.get? a=some o
 fra:Fra W g s env ρ
 ok:Ok W g s
 obj:∀a o,g.obj a=some o->W'.h₀.get? a=some o
 cel:∀x c,env.kindOf x=some .cell->env.cells.lookup x=some c->∃o,s.heap.get? c=some o/\W'.h₀.get? c=some o
noncomputable def hidden (g:View)(h:Heap):List Addr:=(aZ h.objs.size).filter λa=>(g.obj a).isNone
theorem fP (k:Ok W g s):(hideAll s.heap (hidden g s.heap)).get? a=some o<->g.obj a=some o:=by
 constructor
 .intro e
  have e1:=CW _ e
  cases hg:g.obj a with
  | none=>
   have hm:a∈hidden g s.heap:=List.mem_filter.mpr ⟨List.mem_range.mpr (aF e1),by rw [hg];rfl⟩
   rw [pk _ hm] at e;exact (aK e).elim
  | some o'=>rw [k.sub _ _ hg] at e1;exact e1
 .intro e
  exact Af _ (k.sub _ _ e) λhm=>by
   have:=(List.mem_filter.mp hm).2
   rw [e] at this;exact (ag this).elim
noncomputable def yK (W:Wd)(g:View)(s:Shared)(k:Ok W g s):Wd:=
 have kp:∀a o,W.h₀.get? a=some o->(hideAll s.heap (hidden g s.heap)).get? a=some o:=λa o e=>(fP k).mpr (k.base a o e)
 {W with
  h₀:=hideAll s.heap (hidden g s.heap)
  g:=W.g.keeps kp
  b:=W.b.keeps kp
  nolimit:=W.nolimit.keeps kp
  bmain:=ik W.bmain λbm ob a1 a2 a3 r=>⟨bm,ob,a1,a2,kp _ _ a3,r⟩
  codes:=λq hq=>(W.codes q hq).keeps kp
  tabNone:=λq hq=>by
   cases e:(hideAll s.heap (hidden g s.heap)).get? q.2.1 with
   | none=>rfl
   | some o=>have:=(fP k).mp e;rw [k.tabg q hq] at this;exact (aK this).elim
  tabLt:=λq hq=>by rw [hideAll_size];apply aA (k.tabs q hq);intro ps e _;exact aF e }
open Classical in
noncomputable def eO (g:View)(s:Shared)(env:Env):View:=⟨λa=>if ∃x,env.kindOf x=some .cell/\env.cells.lookup x=some a then s.heap.get? a else g.obj a,g.tok⟩
theorem lP (h:∃x,env.kindOf x=some .cell/\env.cells.lookup x=some a):(eO g s env).obj a=s.heap.get? a:=if_pos h
theorem gj (h:¬∃x,env.kindOf x=some .cell/\env.cells.lookup x=some a):(eO g s env).obj a=g.obj a:=if_neg h
theorem sN (k:Ok W g s):Le g (eO g s env):=⟨λa o e=>by
 by_cases h:∃x,env.kindOf x=some .cell/\env.cells.lookup x=some a
 .rw [lP h];exact k.sub a o e
 .rw [gj h];exact e,λ_ _ e=>e⟩
theorem AC (F:Fra W g s env ρ)(k:Ok W g s):Ok W (eO g s env) s:=by
 have le:=sN (env:=env) k
 refine ⟨λa o e=>le.obj _ _ (k.base a o e),λa o e=>?_,λq hq=>(k.tabs q hq).mono le rfl,λq hq=>?_,k.pos,k.tok⟩
 .by_cases h:∃x,env.kindOf x=some .cell/\env.cells.lookup x=some a
  .rw [lP h] at e;exact e
  .rw [gj h] at e;exact k.sub a o e
 .have:¬∃x,env.kindOf x=some .cell/\env.cells.lookup x=some q.2.1:=λzq0=>aA zq0 λx _ e=>by
   have hx0:=F.liv x _ e;have hn0:=hx0.1;obtain ⟨v,o,e1,e2⟩:=hn0
   exact k.notTab e1 (du e2) q hq rfl
  rw [gj this];exact k.tabg q hq
theorem vZ (h:∀W' g s,Based W W' env ρ g s->Blk W' A env (.froz ρ) L rest Kn Pr):Blk W A env ρ L rest Kn Pr:=.mk λg s F k l E=>by
 have le:=sN (env:=env) k
 have k2:=AC F k
 have e:SameW W (yK W (eO g s env) s k2):=⟨rfl,rfl⟩
 have B:Based W (yK W (eO g s env) s k2) env ρ g s:=
  {prog:=rfl,w:=rfl,mg:=rfl,mb:=rfl,tabs:=rfl,may:=rfl,esc:=rfl,le:=λa o e=>(fP k2).mpr (k2.base a o e),fra:=F,ok:=k,obj:=λa o e=>(fP k2).mpr (le.obj a o e),
   cel:=λx c hx hc=>by
    have hx0:=F.liv x c hc;have hn0:=hx0.1;obtain ⟨v,o,e1,e2⟩:=hn0
    exact ⟨o,e1,(fP k2).mpr (by rw [lP ⟨x,hx,hc⟩];exact e1)⟩ }
 have notOwn:∀{a:Addr},¬Own env a->¬∃x,env.kindOf x=some .cell/\env.cells.lookup x=some a:=λh zq0=>aA zq0 λx _ q=>h (.inr ⟨x,q⟩)
 have F2:Fra W (eO g s env) s env (.froz ρ):={
  kind:=F.kind
  glo:=F.glo
  bui:=F.bui
  ncd:=F.ncd
  hid:=by
   have:¬∃x,env.kindOf x=some .cell/\env.cells.lookup x=some env.locals:=λzq0=>aA zq0 λx _ q=>F.locals_ne q rfl
   rw [gj this];exact F.hid
  loc:=aA F.loc λm a b=>⟨m,a,λx d h k=>aA (b x d h k) λv p q=>⟨v,p,q.mono le⟩⟩
  inj:=F.inj
  liv:=λx c q=>⟨(F.liv x c q).1,λhz=>(ag hz.symm).elim⟩
  cel:=λx h=>bP (F.cel x h) λc cv a b r=>⟨c,cv,a,b,λd h=>aA (r d h) λv p q=>⟨v,p,q.mono le⟩⟩ }
 have l2:LayOk W env (eO g s env) s L:=⟨λp hp=>⟨aA ((l.acc p hp).obj) λo a b=>⟨o,⟨a.get,a.tab,by rw [gj (notOwn (l.own p hp))];exact a.hid⟩,b.mono le⟩,(l.acc p hp).sys⟩,l.nd,l.own⟩
 have x0:ExtM W (MO env L) g s (eO g s env) s:=⟨le,k2,λ_ _ _ e _=>e,λa o hm _ _ e=>by
  have:¬∃x,env.kindOf x=some .cell/\env.cells.lookup x=some a:=λzq0=>aA zq0 λx h1 h2=>hm (.inl (.inr ⟨x,h1,h2⟩))
  rw [gj this];exact e,rfl⟩
 have k3:Ok (yK W (eO g s env) s k2) (eO g s env) s:=⟨λa o e=>(fP k2).mp e,k2.sub,k2.tabs,k2.tabg,k2.pos,k2.tok⟩
 have back:∀{g' s'},ExtM (yK W (eO g s env) s k2) (MO env L) (eO g s env) s g' s'->ExtM W (MO env L) (eO g s env) s g' s':=λ{g' s'} x=>
  ⟨x.le,⟨λa o e=>x.ok.base a o ((fP k2).mpr (k2.base a o e)),x.ok.sub,x.ok.tabs,x.ok.tabg,x.ok.pos,x.ok.tok⟩,x.keep,x.new,x.same⟩
 refine aI ((h _ g s B).run _ s (F2.reW e) k3 (l2.reW e) E) (λf s' q=>?_) λ_ _ e=>e
 cases f with
 | next=>apply ij (q);intro g' ρ2 L2 x F' l' hk;exact ⟨g',ρ2,L2,x0.trans (back x),F'.reW e.symm,l'.reW e.symm,hk⟩
 | ret v=>exact q.imp_left λzq0=>let ⟨g',d,L2,x,r,l',hk⟩:=zq0;⟨g',d,L2,x0.trans (back x),r.reW e.symm,l'.reW e.symm,hk⟩
 | cont=>exact q.elim
 | brk=>exact q.elim
theorem AccD.objList (h:AccD W g s a (.list ds)):∃vs n,Hid g s a (mW vs n)/\RepAll W g vs.toList ds:=EO h.obj λo h1 vs n e r=>⟨vs,n,e▸h1,r⟩
theorem RepAll.take (r:RepAll W g vs ds):∀j,RepAll W g (vs.take j) (ds.take j):=by
 induction vs generalizing ds with
 | nil=>intro j;cases r;simpa using RepAll.nil
 | cons v vs ih=>intro j;cases r with | cons a b=>cases j with
  | zero=>exact .nil
  | succ j=>exact .cons a (ih b j)
theorem RepAll.drop (r:RepAll W g vs ds):∀j,RepAll W g (vs.drop j) (ds.drop j):=by
 induction vs generalizing ds with
 | nil=>intro j;cases r;simpa using RepAll.nil
 | cons v vs ih=>intro j;cases r with | cons a b=>cases j with
  | zero=>exact .cons a b
  | succ j=>exact ih b j
theorem RepAll.set (r:RepAll W g vs ds)(rv:Rep W g v d):∀j,RepAll W g (vs.set j v) (ds.set j d):=by
 induction vs generalizing ds with
 | nil=>intro j;cases r;exact .nil
 | cons u vs ih=>intro j;cases r with | cons a b=>cases j with
  | zero=>exact .cons rv b
  | succ j=>exact .cons a (ih b j)
theorem rY {K α:Type}[DecidableEq K]{x:K}:∀{ks:List K} {vs:List α},x∉ks->ic ks vs x=none
 | [],_,_=>by simp [ic]
 | _ :: _,[],_=>by simp [ic]
 | k :: ks,v :: vs,h=>by
  have h1:k≠x:=λq=>h (q▸.head _)
  simp only [ic,h1,if_false]
  exact rY λq=>h (.tail _ q)
theorem pg {vs:Array Value}(k:Ok W g s)(h:AccD W g s a (.list ds))(h1:Hid g s a (mW vs n))(f:Array Value->Array Value)(r:RepAll W g (f vs).toList ds'):
  ExtM W (·=a) g s g {s with heap:=s.heap.update a (z8 f) }/\AccD W g {s with heap:=s.heap.update a (z8 f) } a (.list ds'):=by
 have sb:tw a s.heap (s.heap.update a (z8 f)):=fV ..
 have x1:=ExtM.of_keep k (wr:=[a]) (h':=s.heap.update a (z8 f)) (n:=s.toks) (λb hb=>(rF.mp hb)▸⟨_,h1⟩) (λb o hb e=>sb.extBut b o (λq=>hb (rF.mpr q)) e) (ae _)
 refine ⟨x1.mono λb hb=>rF.mp hb,⟨⟨_,⟨Heap.get?_update_self _ h1.get rfl,rfl,h1.hid⟩,⟨_,_,rfl,r⟩⟩,h.sys⟩⟩
theorem IG (h:j<=sizeLine):¬(!fJ (j:Int))=true:=by
 have hz':j<=16777216:=h
 have h1:decide (-(2 ^ 63:Int)<=(j:Int))=true:=decide_eq_true (JS)
 have h2:decide ((j:Int) < 2 ^ 63)=true:=decide_eq_true ((qN (cK (.c Y0) pQ) [1]:di [.l Y0 (.k 16777216)]) hz')
 unfold fJ
 (rewrite [h1,h2];try with_reducible rfl)
 decide
noncomputable def nE (W:Wd)(A:Around)(id:String)(ds es ds':List D):Prop:=∀g s a vs,Ok W g s->AccD W g s a (.list ds)->RepAll W g vs es->∀(Q:Value->Shared->Prop) (E:Value->Shared->Prop),
 (∀s',ExtM W (·=a) g s g s'->AccD W g s' a (.list ds')->Q .none s')->wpAny (model W.prog W.w) A (call (.builtin id) (.ref a :: vs)) Q E s
theorem A5 (hz:ds.length<=sizeLine):nE W A "list.append" ds [d] (ds++[d]):=λg s a vs k h r Q E hQ=>by
 apply r.elim1;intro v rv
 exact sE k h.list rv hz λs' x1 acc=>hQ s' x1 (.of acc h.sys)
theorem zd {J:Int}(hJ:0<=J)(hj:J.toNat<=ds.length)(hz:ds.length<=sizeLine)(hf:¬(!fJ J)=true):nE W A "list.insert" ds [.int J,d] (ds.take J.toNat++d :: ds.drop J.toNat):=λg s a vs k h r Q E hQ=>by
 apply r.elim2;intro v u rv ru
 obtain ⟨t,rfl⟩:=rv.inv
 apply fo (h.objList);intro ws n h1 r1
 have hsz:ws.size=ds.length:=by rw [<-r1.length,aE]
 have hmin:min J.toNat ws.size=J.toNat:=ar (Jk) ((qK Y0 I0 (qC Y3 Y0 Y2 (qN (.l Y0 Y3) [0,0,1]) (qN (.l Y0 Y3) [0,0,1,0,0,0,1,0,1])) (qN (.l Y0 Y3) [0,1]):qT [_,_,_,_] [_] [.l Y0 Y1,.e Y2 Y1] _) hj hsz)
 have hlt:¬J < 0:=Ab.mpr (Dx hJ)
 have hx0:=pg (ds':=ds.take J.toNat++d :: ds.drop J.toNat) k h h1 (λxs=>have k:=if J < 0 then (J + (xs.size:Int)).toNat else min J.toNat xs.size;(xs.extract 0 k).push u++xs.extract k) (by
  show RepAll W g ((ws.extract 0 (if J < 0 then (J + (ws.size:Int)).toNat else min J.toNat ws.size)).push u++ws.extract (if J < 0 then (J + (ws.size:Int)).toNat else min J.toNat ws.size)).toList _
  rw [if_neg hlt,hmin]
  have e1:((ws.extract 0 J.toNat).push u++ws.extract J.toNat).toList=ws.toList.take J.toNat++u :: ws.toList.drop J.toNat:=by
   have:(ws.toList.drop J.toNat).length<=ws.size - J.toNat:=by simp
   simp [aO this]
  rw [e1]
  exact (r1.take J.toNat).append (.cons ru (r1.drop J.toNat)));have x1:=hx0.1;have h2:=hx0.2
 exact gU F.slot_list_insert ⟨_,h1.get,rfl⟩ F.entry_list_insert (F.args_list_insert_3 _ _ _) (AutoSeq1.list_insert_list_int_val_1 a ws n J t u hf (by rw [hsz];exact hz)) ⟨h1.get,hQ _ x1 h2⟩
theorem A4 (hj:j<=ds.length)(hz:ds.length<=sizeLine):nE W A "list.insert" ds [.int j,d] (ds.take j++d :: ds.drop j):=by
 have h:=zd (W:=W) (A:=A) (d:=d) (J:=(j:Int)) (ds:=ds) (ax _) (by rw [aB];exact hj) hz (IG (ai hj hz))
 rw [aB] at h
 exact h
theorem zc (hz:ds.length<=sizeLine):nE W A "list.reverse" ds [] ds.reverse:=λg s a vs k h r Q E hQ=>by
 obtain rfl:=r.inv0
 apply fo (h.objList);intro ws n h1 r1
 have hsz:ws.size=ds.length:=by rw [<-r1.length,aE]
 have hx0:=pg (ds':=ds.reverse) k h h1 (λx=>x.reverse) (by simpa using r1.reverse);have x1:=hx0.1;have h2:=hx0.2
 exact gU F.slot_list_reverse ⟨_,h1.get,rfl⟩ F.entry_list_reverse (F.args_list_reverse_1 _) (AutoSeq1.list_reverse_list_0 a ws n (by rw [hsz];exact hz)) ⟨h1.get,hQ _ x1 h2⟩
theorem LayOk.head (l:LayOk W env g s ((a,d) :: L))(x:ExtM W (·=a) g s g' s')(h:AccD W g' s' a d'):LayOk W env g' s' ((a,d') :: L):=by
 have hnd:=l.nd
 rw [aD,fR] at hnd
 refine ⟨λp hp=>?_,l.nd,λp hp=>?_⟩
 .rcases List.mem_cons.mp hp with rfl | hp
  .exact h
  .exact (l.acc p (.tail _ hp)).extM x λq=>hnd.1 (Cj.mpr ⟨p,hp,q⟩)
 .rcases List.mem_cons.mp hp with rfl | hp
  .exact l.own (a,d) (.head _)
  .exact l.own p (.tail _ hp)
theorem yP (l:LayOk W env g s ((a,d) :: L)):iv env (·=a):=dU λb hb q=>l.own (a,d) (.head _) (q▸hb)
theorem vY {eds:List D}(hs:env.scope.kind=.function)(hline:(apos.endLine==pos.line)=true)(hn:dz es.length 30=true)(slot:Slot "list" name id)(hty:typeOf (.builtin id)=pure (.type "method_descriptor"))(hx:aQ W A env ρ (.Name x q) (.ref a))(h:EvAll W A env ρ es eds)(hc:nE W A id ds eds ds')(hr:Blk W A env ρ ((a,.list ds') :: L) rest Kn Pr):
  Blk W A env ρ ((a,.list ds) :: L) (.Expr (.Call (.Attribute (.Name x q) name apos) es [] pos) p :: rest) Kn Pr:=
 fh (L':=(a,.list ds') :: L) (λ_ h=>h) (λg s F k l Q E hQ=>by
  have tyT:∀{g' s' v},Ext W g s g' s'->Rep W g' v (.ref a)->s'.TypeIs v "list"/\(∀a',v=.ref a'->∃ob,s'.heap.get? a'=some ob/\ob.dict=none):=λ{g' s' v} x r=>by
   obtain rfl:=r.inv
   apply fo (((l.ext x).acc _ (.head _)).objList);intro ws n h1 r1
   exact ⟨⟨_,h1.get,rfl⟩,λa' q=>by (refine G7 q ?_;clear q;intro q₁;subst q₁);exact ⟨_,h1.get,rfl⟩⟩
  refine Cr (wpAny_Call_method rfl ?_ hline PySem.F.plainAttrs_list slot hty (hx g s F k _ _ λv g1 s1 x1 r1=>⟨(tyT x1 r1).1,(tyT x1 r1).2,?_⟩)) (by unfold interactive;rw [hs];rfl)
  .have h1:(backTo pos (starEach es env)).all (λx=>!x.1)=true:=by
    have:=gR (pos:=pos) h
    rw [List.any_eq_false] at this
    rw [ft]
    intro x hx
    simpa using this x hx
   rw [h1]
   have hn':es.length < 30:=by simpa [kQ] using hn
   simp [backToKw,keywordEach,hn']
  .refine Cb (gR h) ?_
   have q:=zD (f:=.builtin id) (pos:=pos) h EvKws.nil g1 s1 (F.ext x1) x1.ok
   refine q _ _ λvs kvs g2 s2 x2 r2 r3 r4=>?_
   apply jQ r3
   obtain rfl:=r1.inv
   have l2:=(l.ext x1).ext x2
   exact hc g2 s2 a vs x2.ok (l2.acc _ (.head _)) r2 _ _ λs3 x3 h3=>hQ g2 s3 ((x1.trans x2).toM.trans (x3.mono λb q=>q▸.inr (.head _))) (((F.ext x1).ext x2).extM x3 (yP l2)) (l2.head (d':=.list ds') x3 h3)) hr
theorem te {i:Expr}(hx:aQ W A env ρ (.Name x q) (.ref a))(hi:aQ W A env ρ i (.int j))(he:aQ W A env ρ e d)(hj:j < ds.length)(hz:ds.length<=sizeLine)(hn:kr e=true)(hr:Blk W A env ρ ((a,.list (ds.set j d)) :: L) rest Kn Pr):
  Blk W A env ρ ((a,.list ds) :: L) (.Assign [.Subscript (.Name x q) i pos] e p :: rest) Kn Pr:=
 fh (L':=(a,.list (ds.set j d)) :: L) (λ_ h=>h) (λg s F k l Q E hQ=>wpAny_Assign_Subscript (he g s F k _ _ λv g1 s1 x1 r1=>hx g1 s1 (F.ext x1) x1.ok _ _ λu g2 s2 x2 r2=>hi g2 s2 ((F.ext x1).ext x2) x2.ok _ _ λw g3 s3 x3 r3=>by
  obtain rfl:=r2.inv;obtain ⟨_,rfl⟩:=r3.inv
  have l3:=((l.ext x1).ext x2).ext x3
  apply fo ((l3.acc _ (.head _)).objList);intro ws n h1 r4
  have hsz:ws.size=ds.length:=by rw [<-r4.length,aE]
  have hx0:=pg (ds':=ds.set j d) x3.ok (l3.acc _ (.head _)) h1 (·.setIfInBounds (j:Int).toNat v) (by
   show RepAll W g3 (ws.setIfInBounds (j:Int).toNat v).toList _
   simp only [aB,Array.toList_setIfInBounds]
   exact r4.set (r1.mono (x2.le.trans x3.le)) j);have x4:=hx0.1;have h4:=hx0.2
  refine ki_setAt (n:=n) h1.get (ax _) (by have hz':ds.length<=16777216:=hz;exact (qN (cK (.c Y0) pQ) [1,1]:cz [aR Y0 Y1,.l Y1 (.k 16777216)]) hj hz') (by rw [hsz];exact Iff.mpr Int.ofNat_lt hj) ?_
  exact hQ g3 _ ((x1.trans (x2.trans x3)).toM.trans (x4.mono λb q=>q▸.inr (.head _))) ((((F.ext x1).ext x2).ext x3).extM x4 (yP l3)) (l3.head (d':=.list (ds.set j d)) x4 h4)) (by cases e<;>first | rfl | cases hn)) hr
theorem DF {i:Expr}{ks:List Int}{j:Int}(hx:aQ W A env ρ (.Name x q) (.ref a))(hi:aQ W A env ρ i (.int j))(he:aQ W A env ρ e d)(hj:ks.contains j=false)(hz:ds.length < 1000)(hn:kr e=true)(hr:Blk W A env ρ ((a,.idict (ks++[j]) (ds++[d])) :: L) rest Kn Pr):
  Blk W A env ρ ((a,.idict ks ds) :: L) (.Assign [.Subscript (.Name x q) i pos] e p :: rest) Kn Pr:=
 fh (L':=(a,.idict (ks++[j]) (ds++[d])) :: L) (λ_ h=>h) (λg s F k l Q E hQ=>wpAny_Assign_Subscript (he g s F k _ _ λv g1 s1 x1 r1=>hx g1 s1 (F.ext x1) x1.ok _ _ λu g2 s2 x2 r2=>hi g2 s2 ((F.ext x1).ext x2) x2.ok _ _ λw g3 s3 x3 r3=>by
  obtain rfl:=r2.inv;obtain ⟨_,rfl⟩:=r3.inv
  have l3:=((l.ext x1).ext x2).ext x3
  have hd:=l3.acc _ (.head _)
  apply EP (hd.obj);intro o h1 vs h2 h3 h4
  have hm:=Heap.dictOf_iff.mpr ⟨_,h1.get,h2⟩
  have hl:=h4.length
  refine wpAny_setItem_pairs (intKind_is _ _ _ _) hm (λh' hm' sb=>?_) (by rw [wv];show _<=16777216;exact (qE Y2 Y3 Y1 (qN (.l Y2 (.k 16777216)) [0,1,1,1]):gC [aR Y0 (.k 1000),.e Y1 Y0]) hz hl)
  have e1:stored (ks.zip vs) j v=(ks++[j]).zip (vs++[v]):=by
   have hnone:valueAt (ks.zip vs) j=none:=by
    rw [fj]
    exact rY (by simpa using hj)
   rw [stored_absent hnone,List.zip_append h3]
   rfl
  rw [e1] at hm'
  apply aA (Heap.dictOf_iff.mp hm');intro o' g1' h5
  have hdict:bD o'=false:=by apply bP (h5);intro es ep _ e2 _;exact cS e2
  have x4:=ExtM.of_keep x3.ok (wr:=[a]) (h':=h') (n:=s3.toks + 1) (λb hb=>(rF.mp hb)▸⟨_,h1⟩) (λb o hb e=>sb.extBut b o (λq=>hb (rF.mpr q)) e) (aY _)
  have x4':=x4.mono (N:=(·=a)) λb hb=>rF.mp hb
  have h6:AccD W g3 {s3 with heap:=h',toks:=s3.toks + 1 } a (.idict (ks++[j]) (ds++[d])):=⟨⟨o',⟨g1',hdict,h1.hid⟩,vs++[v],h5,by simp [h3],h4.append (.cons (r1.mono (x2.le.trans x3.le)) .nil)⟩,hd.sys⟩
  exact hQ g3 _ ((x1.trans (x2.trans x3)).toM.trans (x4'.mono λb q=>q▸.inr (.head _))) ((((F.ext x1).ext x2).ext x3).extM x4' (yP l3)) (l3.head (d':=.idict (ks++[j]) (ds++[d])) x4' h6)) (by cases e<;>first | rfl | cases hn)) hr
theorem zA {i:Expr}{ks:List Int}{j:Int}(hm:(a,.idict ks ds)∈L)(hx:aQ W A env ρ (.Name x q) (.ref a))(hi:aQ W A env ρ i (.int j))(hd:ic ks ds j=some d):Oc W A env ρ L (.Subscript (.Name x q) i p) d:=λg s F k l Q E hQ=>
 DY (hx g s F k _ _ λ_ g1 s1 x1 r1=>hi g1 s1 (F.ext x1) x1.ok _ _ λ_ g2 s2 x2 r2=>by
  obtain rfl:=r1.inv;obtain ⟨_,rfl⟩:=r2.inv
  apply EP ((((l.ext x1).ext x2).acc _ hm).obj);intro o h1 vs h2 h3 h4
  apply aA ((lg (ks:=ks) (x:=j) h4).1 _ hd);intro y hy ry
  have hm':=(Heap.dictOf_iff.mpr ⟨_,h1.get,h2⟩).mapOf
  refine lH hm'.typeIs slot_dict_getitem.lookup (λQ E hQ=>yw (intKind_is _ _ _ _) hm' (by rw [fj];exact hy) (hQ _ g2 _ (Ext.tk x2.ok (aY _)) ry)) _ _ λv g3 s3 x3 r3=>hQ v g3 s3 (x1.trans (x2.trans x3)) r3)
theorem uZ (hh:A.handled=none)(h:Oc W A env ρ L e (.list ds)):Ks W A env ρ L t e ds:=λg s F k l Q E hQ=>
 h g s F k l _ _ λv g1 s1 x1 r1=>by
  apply aV (r1.inv_list);intro a vs n hq0 _ _;subst hq0
  exact xH hh x1.ok r1 λit g' s' B St Md x t st hb=>hQ it g' s' B St Md (x1.trans x) t st λb o hB=>x1.before (λo=>hb b o hB) o
noncomputable def oU (W:Wd)(A:Around)(env:Env)(ρ:Rho)(e:Expr)(d:D):Prop:=∀g s,Fra W g s env ρ->Ok W g s->∀(Q:Value->Shared->Prop) (E:Value->Shared->Prop),
 (∀a g' s',Ext W g s g' s'->AccD W g' s' a d->(∀o,s.heap.get? a=some o->bD o=true)->Q (.ref a) s')->wpAny (model W.prog W.w) A (eval e env) Q E s
theorem Ok.sysLt (k:Ok W g s):∀{b:Addr},s.heap.objs.size<=b->(b==sysModules)=false:=λ{b} hb=>by
 apply pv (k.glob);intro o es ep e _
 have h3:(3:Nat) < s.heap.objs.size:=aF e
 exact beq_eq_false_iff_ne.mpr λq=>absurd (aw h3 hb) (by rw [q];decide)
theorem Ext.size (x:Ext W g s g' s'):∀{b:Addr},s'.heap.objs.size<=b->∀o,s.heap.get? b=some o->bD o=true:=λhb=>x.before (bf hb)
theorem lW (h:EvAll W A env ρ es ds)(hz:ds.length<=sizeLine):oU W A env ρ (.List es p) (.list ds):=λg s F k Q E hQ=>
 List_ (fH h g s F k _ _ λvs g1 s1 x1 r1=>by
  refine bB ?_ (by show vs.toArray.size<=sizeLine;rw [tu,r1.length];exact hz)
  exact hQ _ g1 _ (x1.trans (Ext.pushHid x1.ok _)) ⟨⟨_,⟨Heap.get?_push_size _ rfl,rfl,x1.ok.fresh (ae _)⟩,⟨_,_,rfl,by simpa using r1⟩⟩,x1.ok.sysLt (ae _)⟩ (x1.size (ae _)))
theorem C7:oU W A env ρ (.Dict [] [] p) (.idict [] []):=λg s F k Q E hQ=>by
 refine wpAny_Dict_empty (hQ _ g _ (Ext.pushHid k _) ⟨⟨_,⟨Heap.get?_push_size _ rfl,rfl,k.fresh (ae _)⟩,[],?_,rfl,.nil⟩,k.sysLt (ae _)⟩ (bf (ae _)))
 apply aA (Heap.dictOf_iff.mp (Cm (knd:=intKind W.prog W.w) s.heap));intro o e h
 rw [Heap.get?_push_size _ rfl] at e
 (refine eQ e ?_;clear e;intro q₁;subst q₁)
 exact h
theorem Ij {b o:Expr}{c:Bool}(ht:gv W A env ρ t c)(h:if c then oU W A env ρ b d else oU W A env ρ o d):oU W A env ρ (.IfExp t b o p) d:=λg s F k Q E hQ=>
 wpAny_IfExp (ht g s F k _ _ λg1 s1 x1=>by
  cases c
  .exact h g1 s1 (F.ext x1) x1.ok _ _ λa g2 s2 x2 r2 hf=>hQ a g2 s2 (x1.trans x2) r2 (x1.before hf)
  .exact h g1 s1 (F.ext x1) x1.ok _ _ λa g2 s2 x2 r2 hf=>hQ a g2 s2 (x1.trans x2) r2 (x1.before hf))
theorem n8 (he:oU W A env ρ e d)(hk:Has env (cm ρ) x)(hn:kr e=true)(h:∀a,Blk W A env (.bind x (.ref a) ρ) ((a,d) :: L) rest Kn Pr):Blk W A env ρ L (.Assign [.Name x q] e p :: rest) Kn Pr:=.mk λg s F k l E=>by
 refine aP (gz (he g s F k _ _ λa g1 s1 x1 h1 hf=>gi (F.ext x1) x1.ok hk.kind (.ref a) λs2 x2 F2=>?_) (by cases e<;>first | rfl | (first | exact (ag hn).elim | cases hn)))
 have notOld:∀{b:Addr} {o:Obj},s.heap.get? b=some o->bD o=false->b≠a:=λ{b o} e t q=>by rw [hf o (q▸e)] at t;exact (ag t.symm).elim
 have hown:¬Own env a:=λho=>by apply aA (ho.alive F);intro o e t;exact notOld e t rfl
 have l1:LayOk W env g1 s1 ((a,d) :: L):=⟨λp hp=>by
   rcases List.mem_cons.mp hp with rfl | hp
   .exact h1
   .exact (l.ext x1).acc p hp,fR.mpr ⟨λhm=>by
    apply aA (Cj.mp hm);intro p hp q
    obtain ⟨o,ho⟩:=(l.acc p hp).alive
    exact notOld ho.get ho.tab q,l.nd⟩,λp hp=>by
   rcases List.mem_cons.mp hp with rfl | hp
   .exact hown
   .exact l.own p hp⟩
 refine aI ((h a).run g1 s2 F2 x2.ok (l1.step x2) E) (λf s' z=>?_) λ_ _ e=>e
 refine ((z.trans (x1.toM.trans (x2.mono λb hb=>.inl hb))).drop λb o hm hn e=>?_)
 rcases hm with hm | hm
 .exact absurd (.inl hm) hn
 .rcases List.mem_cons.mp hm with rfl | hm
  .exact hf o e
  .exact absurd (.inr hm) hn
structure FnK (a k:Nat)(x:Str)(dV kV pm:Value)(c:Addr):Prop where
 obj:∀P,(Kf P).lookup a=some {cls:=.type "function",data:=.func (kT k x dV kV pm c) }
 code:∀P,((Kf P).lookup c).any (λo=>match o.data with | .fields vs=>(match (vs[1]?:Option Value) with | some (.str q _)=>q==(kT k x dV kV pm c).qualname | _=>false) | _=>false)=true
variable {dV kV pm:Value}
theorem FnK.codeRec {a:Nat}(K:FnK a k x dV kV pm c)(hP:jv W):W.h₀.CodeRec (kT k x dV kV pm c).code (kT k x dV kV pm c).qualname:=by
 have h:=K.code W.w.params
 cases ho:(Kf W.w.params).lookup c with
 | none=>rw [ho] at h;exact (ag h).elim
 | some o=>
 rw [ho] at h
 have h2:=h
 simp only [Option.any_some] at h2
 split at h2
 .rename_i vs hd
  split at h2
  .rename_i q t hv
   exact ⟨c,o,vs,t,rfl,hP c o ho,hd,by rw [hv];rw [beq_iff_eq] at h2;rw [h2]⟩
  .exact (ag h2).elim
 .exact (ag h2).elim
theorem cL {a:Nat}(K:FnK a k x dV kV pm c)(hP:jv W):cJ W (.ref a):=pi (hP a _ (K.obj _)) rfl
noncomputable abbrev yr (W:Wd)(f:FuncData)(names:List Str)(ds ds':List D)(kws:List (Str×D)):Prop:=∀g s vs kvs,Ok W g s->RepAll W g vs ds->kvs.map (·.1)=kws.map (·.1)->RepAll W g (kvs.map (·.2)) (kws.map (·.2))->∃vs',(∀S,peek (Kf W.w.params) S (bindArgs f ⟨vs,kvs⟩)=some (names.zip vs'))/\RepAll W g vs' ds'
theorem CQ {f:FuncData}(h:∀g vs,RepAll W g vs ds->∀S,peek (Kf W.w.params) S (bindArgs f ⟨vs,[]⟩)=some (names.zip vs)):yr W f names ds ds []:=λg s vs kvs _ r hk _=>
 (List.map_eq_nil_iff.mp hk)▸⟨vs,h g vs r,r⟩
theorem FK {f:FuncData}(h:∀P a S,peek (Kf P) S (bindArgs f ⟨[a],[]⟩)=some (names.zip [a])):yr W f names [d] [d] []:=CQ λ_ _ r=>r.elim1 (P:=λvs=>∀S,peek (Kf W.w.params) S (bindArgs f ⟨vs,[]⟩)=some (names.zip vs)) λa _=>h _ a
theorem HS {f:FuncData}{e:D}(h:∀P a b S,peek (Kf P) S (bindArgs f ⟨[a,b],[]⟩)=some (names.zip [a,b])):yr W f names [d,e] [d,e] []:=CQ λ_ _ r=>r.elim2 (P:=λvs=>∀S,peek (Kf W.w.params) S (bindArgs f ⟨vs,[]⟩)=some (names.zip vs)) λa b _ _=>h _ a b
theorem Nv {f:FuncData}{e o:D}(h:∀P a b c S,peek (Kf P) S (bindArgs f ⟨[a,b,c],[]⟩)=some (names.zip [a,b,c])):yr W f names [d,e,o] [d,e,o] []:=CQ λ_ _ r=>r.elim3 (P:=λvs=>∀S,peek (Kf W.w.params) S (bindArgs f ⟨vs,[]⟩)=some (names.zip vs)) λa b c _ _ _=>h _ a b c
theorem fw {a:Nat}(K:FnK a k x dV kV pm c)(hP:jv W)(hok:pT (kT k x dV kV pm c) names=true)(hbind:yr W (kT k x dV kV pm c) names ds ds' kws)(hl:names.length=ds'.length)(R:A.depth < recursionLimit)(hblk:∀env,env.scope=bh k->env.code=.ref c->env.qual=x++".<locals>."->fB W (A.deeper env) env (dc names ds' .nil) L (aH k) d L'):CallL W A (.ref a) ds kws L d L':=
 GE (hP a _ (K.obj _)) (K.codeRec hP) hok rfl (λg s vs kvs ok r1 h r2=>aA (hbind g s vs kvs ok r1 h r2) λvs' e r=>⟨vs',wL (K:=Kf W.w.params) (λa o e=>ok.baseHeap _ _ (hP a o e)) e,r⟩) hl R
  λenv e1 e2 e3=>hblk env e1 e2 e3
theorem yE (fd:FuncData)(h1:fd.params=⟨[],[⟨"one",none,p⟩],none,[],[],none,[]⟩)(h2:fd.defaults=.none)(h3:fd.kwdefaults=.none)(vs:List Value)(hv:vs.length=1):bindArgs fd ⟨vs,[]⟩=pure ((["one"]:List Str).zip vs):=by
 obtain ⟨⟩:=fd
 simp only at h1 h2 h3
 subst h1 h2 h3
 exact FW hv λa=>rfl
theorem mh {b:Expr}(hb:∀fd:FuncData,fd.params=args->fd.defaults=.none->fd.kwdefaults=.none->∀vs:List Value,vs.length=names.length->bindArgs fd ⟨vs,[]⟩=pure (names.zip vs))(hk:sc.kind=.function)(hco:sc.isCoroutine=false)(hge:sc.isGenerator=false)(hnm:(sc.names.all λy=>y.2 !=.cell&&y.2 !=.free)=true)(hnd:names.Nodup)(hloc:(names.all λx=>sc.names.lookup x==some .local)=true)(hl:names.length=ds.length)(R:A.depth < recursionLimit)(he:∀env,env.scope=sc->aQ W (A.deeper env) env (dc names ds .nil) b d):bz W A (.lam [] args (.expr b) sc) ds [] d:=λg s vf vs kvs k rf rs hkv rk Q E hQ=>by
 apply jQ hkv
 refine rf.lamE λ{a o fd c q} h1 h2 h3 h4 h5 h6 h7 h8 h9 h10 h11 h12 h13=>?_
 subst h5
 have hn:∀y∈fd.scope.names,y.2≠.cell/\y.2≠.free:=λy hy=>by
  have:=ft.mp hnm y hy
  simpa [ao,bne_iff_ne] using this
 have hnf:∀x,fd.scope.names.lookup x≠some .free:=λx e=>(hn _ (mem_of_lookup e)).2 rfl
 refine vF (args:=⟨vs,[]⟩) (names:=names) R k (k.sub _ _ h1) h2 ⟨hk,hco,hge,h10,h11,hnf _⟩ (λy hy=>(hn y hy).1) (by rw [h7,h9];exact h8.code k.sub) (wZ (hb fd h3 h12 h13 vs (by rw [rs.length,hl]))) hnd
  (λx hx=>by simpa using ft.mp hloc x hx) hl rs (CloOk.nil h6 hnf) λenv s1 e1 e2 e3 e4 _ hfr x1 F=>?_
 rw [h4]
 exact he env e1 g s1 F x1.ok _ _ λv g' s' x2 r=>hQ v g' s' (x1.trans x2) r
noncomputable def Frs (g:View)(s:Shared)(l:List Env):Prop:=∀env∈l,env.scope.kind=.function/\env.frame=some env.locals/\(∃m,s.heap.Ns env.locals m)/\g.obj env.locals=none
noncomputable def B8 (s:Shared)(a:Addr):Prop:=∀o,s.heap.get? a=some o->bD o=true
noncomputable abbrev cy (l:List Env):List Addr:=l.map (·.locals)
variable {l:List Env}
theorem Frs.ext (F:Frs g s l)(x:Ext W g s g' s'):Frs g' s' l:=λenv h=>
 Bt (F env h) λa b zn2 c=>let ⟨m,o,es,ep,e,hd,r⟩:=zn2;⟨a,b,⟨m,o,es,ep,x.keep _ o e (cS hd),hd,r⟩,x.new _ o e (cS hd) c⟩
theorem Frs.hid (F:Frs g s l)(h:a∈cy l):g.obj a=none:=by
 apply aA (Cj.mp h);intro env hm hq0;subst hq0
 exact (F env hm).2.2.2
theorem Frs.dict (F:Frs g s l)(h:a∈cy l):∃m,s.heap.Ns a m:=by
 apply aA (Cj.mp h);intro env hm hq0;subst hq0
 exact (F env hm).2.2.1
noncomputable def yl:Option Str->List Value->Prop
 | none,vs=>vs=[]
 | some m,vs=>∃t,vs=[.str m t]
structure Fly (s:Shared)(l₀ l:List Env)(X:String)(args:List Value)(e:Addr)(s':Shared):Prop where
 fl:∃t,iI (hideAll s.heap (cy l₀)) l e (.type X) (.ref t) s'.heap/\s'.heap.TupAt t args
 slots:s.heap.UpToSlots s'.heap
 same:s'={s with heap:=s'.heap }
noncomputable def Out (W:Wd)(g:View)(s:Shared)(l:List Env)(X:String)(msg:Option Str)(e:Addr)(s':Shared):Prop:=
 ∃g1 s1 pre args,ExtM W (·∈cy l) g s g1 s1/\(∀env∈l,∀m,s.heap.Ns env.locals m->s1.heap.Ns env.locals m)/\Frs g1 s1 (pre++l)/\(∀env∈pre,B8 s env.locals)/\yl msg args/\Fly s1 (pre++l) l X args e s'
noncomputable def Made (W:Wd)(g:View)(s:Shared)(X:String)(msg:Option Str)(e:Addr)(s2:Shared):Prop:=
 ∃g1 s1 t args cx,Ext W g s g1 s1/\yl msg args/\(∀b o,s1.heap.get? b=some o->s2.heap.get? b=some o)/\s1.heap.get? e=none/\
  s2.heap.get? e=some {cls:=.type X,data:=.fields #[.ref t,.none,cx,.none,.bool false,.none] }/\s2.heap.TupAt t args/\s2={s1 with heap:=s2.heap }
noncomputable def Thrown (W:Wd)(g:View)(s:Shared)(l:List Env)(X:String)(msg:Option Str)(e:Addr)(s2:Shared):Prop:=Made W g s X msg e s2\/Out W g s l X msg e s2
theorem pc {m:Str->Option Value}(x:Ext W g s g' s')(hn:s.heap.Ns a m):s'.heap.Ns a m:=
 aV hn λo es ep e hd r=>⟨o,es,ep,x.keep a o e (cS hd),hd,r⟩
variable {X:String}{msg:Option Str}
theorem Out.before {e:Addr}(x:Ext W g0 s0 g s)(h:Out W g s l X msg e s'):Out W g0 s0 l X msg e s':=
 ma h λg1 s1 pre args a n b c d=>⟨g1,s1,pre,args,x.toM.trans a,λenv h m k=>n env h m (pc x k),b,λenv h=>x.before (c env h),d⟩
theorem Made.before {e:Addr}(x:Ext W g0 s0 g s)(h:Made W g s X msg e s'):Made W g0 s0 X msg e s':=
 IQ h λg1 s1 t args cx a b=>⟨g1,s1,t,args,cx,x.trans a,b⟩
variable {base:Heap}
theorem Frs.fun (F:Frs g s l)(hb:∀a∈cy l,base.get? a=none)(hk:∀a o,s.heap.get? a=some o->h'.get? a=some o):h'.FunFrames base l:=by
 induction l with
 | nil=>trivial
 | cons env l ih=>
  have hx0:=F env (.head _);have a:=hx0.1;have b:=hx0.2.1;have hn0:=hx0.2.2.1;have c:=hx0.2.2.2;obtain ⟨m,o,es,ep,e,hd,r⟩:=hn0
  exact ⟨by rw [a];decide,⟨env.locals,o,b,hb _ (.head _),hk _ _ e,λvs q=>by rw [hd] at q;cases q⟩,ih (λenv h=>F env (.tail _ h)) λa h=>hb a (.tail _ h)⟩
theorem pj (ls:List Addr)(k:∀a o,h.get? a=some o->h'.get? a=some o):(hideAll h ls).StaysIn h':=λb o e=>k b o (CW ls e)
theorem lZ (ls:List Addr)(k:h.get? a=none):(hideAll h ls).get? a=none:=by
 cases q:(hideAll h ls).get? a with
 | none=>rfl
 | some o=>rw [CW ls q] at k;exact (uv k).elim
theorem lV {e:Addr}(x0:Ext W g0 s0 g s)(hnew:B8 s0 env.locals)(hA:A.frames=some (env :: l))(hF:Frs g s (env :: l))(h:Thrown W g s (env :: l) X msg e s2)(hE:∀s3,Out W g0 s0 l X msg e s3->E (.ref e) s3):wpAny (model W.prog W.w) A (leaving env (.ref e)) (λ_ s''=>E (.ref e) s'') (λe' s''=>E e' s'') s2:=by
 have hf:=(hF env (.head _)).2.1
 rcases h with ⟨g1,s1,t,args,cx,x1,hm,hk,hn,he,ht,hs⟩ | ⟨g1,s1,pre,args,x1,n1,hF1,hp,hm,⟨t,fl,ht⟩,hsl,hs⟩
 .have hF1:=hF.ext x1
  have hb:∀a∈cy (env :: l),(hideAll s1.heap (cy (env :: l))).get? a=none:=λa h=>pk _ h
  refine wpAny_leaving_firstW (a0:=.ref t) hA (hF1.fun hb hk) hf he (pj _ hk) (lZ _ hn) rfl rfl rfl λh' zq0=>Bt zq0 λk1 zn1 k3 k4=>let ⟨_,_,k2⟩:=zn1;hE _ ?_
  refine ⟨g1,s1,[env],args,(x0.trans x1).toM,λenv h m k=>pc (x0.trans x1) k,hF1,λe h=>by rw [rF.mp h];exact hnew,hm,⟨⟨t,⟨k1,lZ _ hn,k2,k3⟩,ht.of_slots k4⟩,(eM hk).trans k4,?_⟩⟩
  rw [hs]
 .refine wpAny_leaves_onW hA hf fl λh' k1 k2=>hE _ ?_
  have e1:pre++env :: l=(pre++[env])++l:=by rw [dI];rfl
  rw [e1] at hF1 k1
  refine ⟨g1,s1,pre++[env],args,(x0.toM.trans x1).drop λa o h1 h2 e=>?_,λenv h m k=>n1 env (.tail _ h) m (pc x0 k),hF1,λe h=>?_,hm,⟨⟨t,k1,ht.of_slots k2⟩,hsl.trans k2,by rw [hs]⟩⟩
  .rcases List.mem_cons.mp h1 with rfl | h1
   .exact hnew o e
   .exact absurd h1 h2
  .rcases jH.mp h with h | h
   .exact x0.before (hp e h)
   .rw [rF.mp h];exact hnew
variable {oe:Obj}{a0:Value}{outer:List Env}
theorem rV {e:Addr}{M:Model}{L:Addr}{vs:Array Value}{Q:Unit->Shared->Prop}(hfr:A.frames=some (env :: outer))(hl:s.heap.FunFrames base (env :: outer))(hf:env.frame=some L)(he:s.heap.get? e=some oe)(hkb:base.StaysIn s.heap)(hen:base.get? e=none)(hd:oe.data=.fields vs)(h1:vs[1]? =some .none)(h0:vs[0]? =some a0)(h:∀h',Heap.HeldW base (env :: outer) e oe.cls a0 L h'->s.heap.UpToSlots h'->Q () {s with heap:=h' }):wpAny M A (noteFrame (.ref e) env) Q E s:=by
 unfold noteFrame
 simp only [hf]
 refine aa (bC he hd h1 ?_)
 rw [if_neg (by decide)]
 exact wpAny_entryW hfr hl hf he hkb hen hd (Array.getElem?_eq_some_iff.mp h1).1 h0 λh' zq0=>Bt zq0 λk1 k2 k3 k4=>h h' ⟨k1,hen,k2,k3⟩ k4
theorem zS {e:Addr}{K:Shared->Prop}(hA:A.frames=some (env :: l))(hF:Frs g s (env :: l))(h:Thrown W g s (env :: l) X msg e s2)(hK:∀s3,Out W g s (env :: l) X msg e s3->K s3):
  wpAny (model W.prog W.w) A (noteFrame (.ref e) env) (λ_ s'=>wpAny (model W.prog W.w) A (setFlight (.ref e) none) (λ_ s''=>K s'') E s') E s2:=by
 have hf:=(hF env (.head _)).2.1
 rcases h with ⟨g1,s1,t,args,cx,x1,hm,hk,hn,he,ht,hs⟩ | ⟨g1,s1,pre,args,x1,n1,hF1,hp,hm,⟨t,fl,ht⟩,hsl,hs⟩
 .have hF1:=hF.ext x1
  have hb:∀a∈cy (env :: l),(hideAll s1.heap (cy (env :: l))).get? a=none:=λa h=>pk _ h
  refine rV (a0:=.ref t) hA (hF1.fun hb hk) hf he (pj _ hk) (lZ _ hn) rfl rfl rfl λh1 k1 k2=>?_
  refine wpAny_landsW (s:={s2 with heap:=h1 }) k1 λh2 k3 k4=>hK _ ?_
  exact ⟨g1,s1,[],args,x1.toM,λenv h m k=>pc x1 k,hF1,λ_ h=>(nomatch h),hm,⟨⟨t,k3,(ht.of_slots k2).of_slots k4⟩,((eM hk).trans k2).trans k4,by rw [hs]⟩⟩
 .refine wpAny_looks_onW hA hf fl λh1 k1 k2=>?_
  refine wpAny_landsW (s:={s2 with heap:=h1 }) k1 λh2 k3 k4=>hK _ ?_
  exact ⟨g1,s1,pre,args,x1,n1,hF1,hp,hm,⟨⟨t,k3,(ht.of_slots k2).of_slots k4⟩,(hsl.trans k2).trans k4,by rw [hs]⟩⟩
section
open Sem (wp)
structure ExcIsi (X:String):Prop extends ExcAttrFacts X where
 lk:typeLookup (.type X) "__class__"=pure (some (.builtin "object.__class__"))
 nb:¬(dv X==dv "builtin_function_or_method")=true
 own:isSubtype (.type X) (.type (".".intercalate ("object.__class__".cutAt '.').dropLast))=pure true
theorem OW:ExcIsi "ValueError":=⟨F.attr_ValueError,by rw [bM,aS];kernel_rfl,by decide,by rw [rB,bO];kernel_rfl⟩
theorem OX:ExcIsi "TypeError":=⟨F.attr_TypeError,by rw [bM,aS];kernel_rfl,by decide,by rw [rB,bO];kernel_rfl⟩
theorem OV:ExcIsi "ZeroDivisionError":=⟨F.attr_ZeroDivisionError,by rw [bM,aS];kernel_rfl,by decide,by rw [rB,bO];kernel_rfl⟩
theorem zu {g:Array GenState}{d:Drawn}{t:Nat}{os:OsState}{R:Result->Shared->Prop}(FX:ExcIsi X)(hx:h.get? a=some o)(hc:o.cls=.type X)(hq:R (.ok (.ret (.type X))) ⟨h,g,d,t,os⟩):
  codeAny (model prog w) A (.call (.builtin "getset_descriptor.__get__") ⟨[.builtin "object.__class__",.ref a,.type X],[]⟩) R ⟨h,g,d,t,os⟩:=by
 have hT:(⟨h,g,d,t,os⟩:Shared).TypeIs (.ref a) X:=⟨_,hx,hc⟩
 have hG:(⟨h,g,d,t,os⟩:Shared).TypeIs (.builtin "object.__class__") "getset_descriptor":=pL
 have f:=FX.own
 refine codeAny_call_builtin F.slot_gs_get.plain F.entry_gs_get (F.slot_gs_get.check _ _ _ _ _ _ _ _ hG (F.args_gs_get _ _ _) ?_)
 repeat (any_goals (first | assumption | wp_step))
 refine ⟨Code.quiet_builtin _ (by decide +kernel),BH F.entry_object_class ?_⟩
 repeat (any_goals (first | assumption | wp_step))
 rw [if_neg FX.nb]
 repeat (any_goals (first | assumption | wp_step))
theorem Bg {g:Array GenState}{d:Drawn}{t:Nat}{os:OsState}{tk:Tok}(FX:ExcIsi X)(hx:h.get? a=some o)(hc:o.cls=.type X)(hq:Q (.type X) ⟨h,g,d,t,os⟩):wpAny (model prog w) A (getAttrBy (.ref a) (.str "__class__" tk) false) Q E ⟨h,g,d,t,os⟩:=by
 have hT:(⟨h,g,d,t,os⟩:Shared).TypeIs (.ref a) X:=⟨_,hx,hc⟩
 have f2:=FX.ga.lookup
 have f3:=FX.ga.bind (.ref a)
 repeat (any_goals (first | assumption | wp_step))
 refine codeAny_call_builtin FX.ga.plain F.entry_bexc_ga (FX.ga.check _ _ _ _ _ _ _ _ hT (F.args_bexc_ga _ _) ?_)
 have f4:=FX.lk
 have f5:=pL
 have f6:=F.slot_gs_get.lookup
 have f7:=F.slot_gs_set.lookup
 have hG:(⟨h,g,d,t,os⟩:Shared).TypeIs (.builtin "object.__class__") "getset_descriptor":=pL
 repeat (any_goals (first | assumption | wp_step))
 refine zu FX hx hc ?_
 repeat (any_goals (first | assumption | wp_step))
theorem wO {g:Array GenState}{d:Drawn}{t:Nat}{os:OsState}{Q:Option Value->Shared->Prop}(FX:ExcIsi X)(hx:h.get? a=some o)(hc:o.cls=.type X)(hq:Q (some (.type X)) ⟨h,g,d,t + 1,os⟩):wpAny (model prog w) A (getAttr? (.ref a) "__class__") Q E ⟨h,g,d,t,os⟩:=by
 unfold getAttr? getAttrBy?
 repeat (any_goals (first | assumption | with_reducible apply Bg FX hx hc | wp_step))
theorem Gc {g:Array GenState}{d:Drawn}{t:Nat}{os:OsState}(FX:ExcIsi X)(hne:(dv X==dv T)=false)(hty:typeOf (.type T)=pure (.type "type"))(hsub:isSubtype (.type X) (.type T)=pure false)(hx:h.get? a=some o)(hc:o.cls=.type X)(hq:Q (.bool false) ⟨h,g,d,t + 1,os⟩):wpAny (model prog w) A (call (.builtin "isinstance") [.ref a,.type T]) Q E ⟨h,g,d,t,os⟩:=by
 refine call_isinstance_of ?_
 have hT:(⟨h,g,d,t,os⟩:Shared).TypeIs (.ref a) X:=⟨_,hx,hc⟩
 repeat (any_goals (first | assumption | with_reducible apply wO FX hx hc | wp_step))
theorem Iy (hty:typeOf (.type T)=pure (.type "type"))(hsub:isSubtype (.type X) (.type T)=pure true)(hx:s.TypeIs (.ref a) X)(hq:Q (.bool true) s):wpAny (model prog w) A (call (.builtin "isinstance") [.ref a,.type T]) Q E s:=
 call_isinstance_of (isinstance_nested_true rfl hx hty hsub hq)
end
noncomputable def bisNames:List Str:=["a","x","lo","hi","key"]
noncomputable def sS:Option Nat->D
 | none=>.none
 | some h=>.int h
noncomputable def ir (ds:List D)(x:D)(lo:Int)(hi key:D):Rho:=dc bisNames [.list ds,x,.int lo,hi,key] .nil
noncomputable def mz (W:Wd)(A:Around)(key:D)(ds:List D)(ns:List Int):Prop:=ds.length=ns.length/\∀i d,ds[i]? =some d->bz W A key [d] [] (.int (mt ns i))
theorem gb:FnK 32 2 "bisect_right" (.ref 24) (.ref 25) tF 31:=⟨λP=>by kernel_rfl,λP=>by kernel_rfl⟩
theorem gc:FnK 50 4 "bisect_left" (.ref 42) (.ref 43) tF 49:=⟨λP=>by kernel_rfl,λP=>by kernel_rfl⟩
theorem jW:FnK 23 1 "insort_right" (.ref 15) (.ref 16) tF 22:=⟨λP=>by kernel_rfl,λP=>by kernel_rfl⟩
theorem jX:FnK 41 3 "insort_left" (.ref 33) (.ref 34) tF 40:=⟨λP=>by kernel_rfl,λP=>by kernel_rfl⟩
theorem o7 (h:ds[i]? =some d):lO (.list ds) (.int i)=some (d,[0<=(i:Int),(i:Int) < 2 ^ 63]):=by
 show (ds[(i:Int).toNat]?).map _=_
 rw [aB,h]
 rfl
theorem qY (d:D):ll .Is d .none=some (isNone d,[]):=by cases d<;>rfl
theorem RepAll.inv_cons (r:RepAll W g vs (d :: ds)):∃v us,vs=v :: us/\Rep W g v d/\RepAll W g us ds:=by
 cases r with | cons a b=>exact ⟨_,_,rfl,a,b⟩
theorem jP {n:Str}{kvs:List (Str×Value)}(h:kvs.map (·.1)=[(n,d)].map (·.1)):∃v,kvs=[(n,v)]/\True:=by
 cases kvs with
 | nil=>simp at h
 | cons p r=>
  obtain ⟨m,v⟩:=p
  cases r with
  | nil=>simp at h;subst h;exact ⟨v,rfl,trivial⟩
  | cons q r=>simp at h
theorem xa (hh:A.handled=none)(hu:A.units + 100 < cLine)(hs0:env.scope=bh 2)(G:kS W gl){x:Int}(hlen:hi<=ns.length)(h63:ns.length < 2 ^ 60):
  fB W A env (ir (ns.map .int) (.int x) lo (.int hi) .none) [] ((aH 2).drop 2) (.int (iW (jT ns x) lo hi)) []:=by
 have hs:=hs0
 conv at hs=>rhs;whnf
 have C:=Cx.mk hs ‹_› ‹_› ‹_›
 clear hs0
 conv in iw 2 (aH 2)=>whnf
 apply eZ;exact dg;exact trivial
 refine lu (α:=Nat×Nat) (λa=>ir (ns.map .int) (.int x) a.1 (.int a.2) .none) (λ_=>[]) (λa=>decide ((a.1:Int) < (a.2:Int))) (ip (jT ns x)) (λa=>a.2 - a.1) (λa=>a.2<=hi/\iW (jT ns x) a.1 a.2=iW (jT ns x) lo hi) (lo,hi) ⟨ae _,rfl⟩
  ⟨λy d e=>e,id⟩ rfl (λ_=>rfl) (λa _=>?_) (λa zq0 hc=>Ag zq0 λi1 i2=>?_) (λa zq0 hc=>Ag zq0 λi1 i2=>?_)
 .apply pS;exact dg;exact trivial
 .have hlt:a.1 < a.2:=by simpa using hc
  have hx0:=rn (p:=jT ns x) hlt;have b1:=hx0.1;have b2:=hx0.2.1;have b3:=hx0.2.2
  refine ⟨⟨ai b2 i1,b1.trans i2⟩,b3,?_⟩
  have hmid:(a.1 + a.2) / 2 < ns.length:=E3 hlen i1 hlt
  (apply bW;exact ak;assumption;rfl;rfl);exact ⟨by decide,fx (by decide),trivial⟩
  rw [m6]
  apply df
  .apply gJ hu;exact ak;(apply l9;exact ak;exact ak;exact tV hmid);rfl;rfl
  .exact ⟨ax _,EY h63 hmid,trivial⟩
  .intro hb
   have hg:jT ns x ((a.1 + a.2) / 2)=true:=hb
   (apply bW;exact ak;assumption;rfl;rfl);exact trivial
   apply cG
   refine db ⟨rfl,?_⟩
   unfold ip
   rw [hg]
   exact SubR.le ⟨rfl,rfl,rfl,rfl,rfl,trivial⟩ rfl
  .intro hb
   have hg:jT ns x ((a.1 + a.2) / 2)=false:=hb
   (apply bW;exact ak;assumption;rfl;rfl);exact trivial
   apply cG
   refine db ⟨rfl,?_⟩
   unfold ip
   rw [hg]
   exact SubR.le ⟨rfl,rfl,rfl,rfl,rfl,trivial⟩ rfl
 .have hge:¬a.1 < a.2:=by simpa using hc
  apply cG
  apply ji;exact ak;exact trivial
  exact ⟨by rw [<-i2,rq hge],rfl⟩
variable {key:D}
theorem Cv (hh:A.handled=none)(hu:A.units + 100 < cLine)(hs0:env.scope=bh 2)(G:kS W gl)(hkp:cJ W key)(hkn:isNone key=false)(hky:mz W A key ds ns){x:Int}(hlen:hi<=ns.length)(h63:ns.length < 2 ^ 60):
  fB W A env (ir ds (.int x) lo (.int hi) key) [] ((aH 2).drop 2) (.int (iW (jT ns x) lo hi)) []:=by
 have hs:=hs0
 conv at hs=>rhs;whnf
 have C:=Cx.mk hs ‹_› ‹_› ‹_›
 clear hs0
 conv in iw 2 (aH 2)=>whnf
 apply eZ;(apply gJ hu;exact ak;exact ak;exact qY key;rfl);exact trivial
 rw [hkn]
 refine lu (α:=Nat×Nat) (λa=>ir ds (.int x) a.1 (.int a.2) key) (λ_=>[]) (λa=>decide ((a.1:Int) < (a.2:Int))) (ip (jT ns x)) (λa=>a.2 - a.1) (λa=>a.2<=hi/\iW (jT ns x) a.1 a.2=iW (jT ns x) lo hi) (lo,hi) ⟨ae _,rfl⟩
  ⟨λy d e=>e,id⟩ rfl (λ_=>rfl) (λa _=>?_) (λa zq0 hc=>Ag zq0 λi1 i2=>?_) (λa zq0 hc=>Ag zq0 λi1 i2=>?_)
 .apply pS;exact dg;exact trivial
 .have hlt:a.1 < a.2:=by simpa using hc
  have hx0:=rn (p:=jT ns x) hlt;have b1:=hx0.1;have b2:=hx0.2.1;have b3:=hx0.2.2
  refine ⟨⟨ai b2 i1,b1.trans i2⟩,b3,?_⟩
  have hmid:(a.1 + a.2) / 2 < ns.length:=E3 hlen i1 hlt
  have ⟨d0,hd0⟩:∃d,ds[(a.1 + a.2) / 2]? =some d:=⟨_,List.getElem?_eq_getElem (by rw [hky.1];exact hmid)⟩
  have hcall:=hky.2 _ _ hd0
  (apply bW;exact ak;assumption;rfl;rfl);exact ⟨by decide,fx (by decide),trivial⟩
  rw [m6]
  apply df
  .apply gJ hu;exact ak;(apply fg (P4:=[]) (kd:=[]);exact ak;(apply av rfl;(apply l9;exact ak;exact ak;exact o7 hd0);exact bo);exact cf;exact hkp;intro _;exact hcall);rfl;rfl
  .exact ⟨ax _,EY h63 hmid,trivial⟩
  .intro hb
   have hg:jT ns x ((a.1 + a.2) / 2)=true:=hb
   (apply bW;exact ak;assumption;rfl;rfl);exact trivial
   apply cG
   refine db ⟨rfl,?_⟩
   unfold ip
   rw [hg]
   exact SubR.le ⟨rfl,rfl,rfl,rfl,rfl,trivial⟩ rfl
  .intro hb
   have hg:jT ns x ((a.1 + a.2) / 2)=false:=hb
   (apply bW;exact ak;assumption;rfl;rfl);exact trivial
   apply cG
   refine db ⟨rfl,?_⟩
   unfold ip
   rw [hg]
   exact SubR.le ⟨rfl,rfl,rfl,rfl,rfl,trivial⟩ rfl
 .have hge:¬a.1 < a.2:=by simpa using hc
  apply cG
  apply ji;exact ak;exact trivial
  exact ⟨by rw [<-i2,rq hge],rfl⟩
theorem sh (hh:A.handled=none)(hu:A.units + 100 < cLine)(hs0:env.scope=bh 2)(G:kS W gl){x:D}{h:Option Nat}(h63:ds.length < 2 ^ 60)(ht:fB W A env (ir ds x lo (.int (h.getD ds.length)) key) [] ((aH 2).drop 2) d []):fB W A env (ir ds x lo (sS h) key) [] (aH 2) d []:=by
 have hs:=hs0
 conv at hs=>rhs;whnf
 have C:=Cx.mk hs ‹_› ‹_› ‹_›
 clear hs0
 conv at ht=>arg 6;whnf
 conv in aH 2=>whnf
 apply df;exact dg;exact trivial
 .intro h;simp at h;exact (Js h).elim
 intro _
 apply cG
 cases h with
 | none=>
  apply eZ;exact dg;exact trivial
  (apply bW;exact ak;assumption;rfl;rfl);exact ⟨Jj h63,trivial⟩
  apply cG
  exact de (ρ':=ir ds x lo (.int ds.length) key) (SubR.le ⟨rfl,rfl,rfl,rfl,rfl,trivial⟩ rfl) ht
 | some hi=>
  apply eZ;exact dg;exact trivial
  apply cG
  exact ht
noncomputable def Fb:=kT 2 "bisect_right" (.ref 24) (.ref 25) tF 31
theorem wc (P:Params)(a x lo hi:Value):∀S,peek (Kf P) S (bindArgs Fb ⟨[a,x,lo,hi],[]⟩)=some (bisNames.zip [a,x,lo,hi,.none]):=λS=>by kernel_rfl
theorem DP (P:Params)(a x:Value):∀S,peek (Kf P) S (bindArgs Fb ⟨[a,x],[]⟩)=some (bisNames.zip [a,x,.int 0 202,.none,.none]):=λS=>by kernel_rfl
theorem DO (P:Params)(a x lo hi k:Value):∀S,peek (Kf P) S (bindArgs Fb ⟨[a,x,lo,hi],[("key",k)]⟩)=some (bisNames.zip [a,x,lo,hi,k]):=λS=>by kernel_rfl
theorem rc (hP:jv W)(Rm:Room A 4){x:Int}{h:Option Nat}(hlen:h.getD ns.length<=ns.length)(h63:ns.length < 2 ^ 60):
  bz W A (.ref 32) [.list (ns.map .int),.int x,.int lo,sS h] [] (.int (iW (jT ns x) lo (h.getD ns.length))):=
 (fw (names:=bisNames) (ds':=[.list (ns.map .int),.int x,.int lo,sS h,.none]) gb hP (by kernel_rfl) (λg s vs kvs k rs hk rk=>by
  have:kvs=[]:=by simpa using hk
  subst this
  obtain ⟨a,rest,rfl,r1,rs⟩:=rs.inv_cons
  apply rs.elim3;intro b c e r2 r3 r4
  exact ⟨_,wc _ _ _ _ _,.cons r1 (.cons r2 (.cons r3 (.cons r4 (.cons .none .nil))))⟩) rfl Rm.dep λenv e1 e2 e3=>by
  have Rd:=(Room.deeper (env:=env) (k:=3) Rm)
  have hl:(ns.map D.int).length=ns.length:=ab ..
  exact sh Rd.handled (Rd.u100) e1 (eX hP) (by rw [hl];exact h63) (by rw [hl];exact xa Rd.handled (Rd.u100) e1 (eX hP) hlen h63)).toTo
theorem zW (hP:jv W)(Rm:Room A 4){x:Int}(h63:ns.length < 2 ^ 60):
  bz W A (.ref 32) [.list (ns.map .int),.int x] [] (.int (iW (jT ns x) 0 ns.length)):=
 (fw (names:=bisNames) (ds':=[.list (ns.map .int),.int x,.int (0:Nat),sS none,.none]) gb hP (by kernel_rfl) (λg s vs kvs k rs hk rk=>by
  have:kvs=[]:=by simpa using hk
  subst this
  apply rs.elim2;intro a b r1 r2
  exact ⟨_,DP _ _ _,.cons r1 (.cons r2 (.cons (.int _ _) (.cons .none (.cons .none .nil))))⟩) rfl Rm.dep λenv e1 e2 e3=>by
  have Rd:=(Room.deeper (env:=env) (k:=3) Rm)
  have hl:(ns.map D.int).length=ns.length:=ab ..
  exact sh (lo:=0) (h:=none) Rd.handled (Rd.u100) e1 (eX hP) (by rw [hl];exact h63) (by rw [hl];exact xa Rd.handled (Rd.u100) e1 (eX hP) (ae _) h63)).toTo
theorem zV (hP:jv W)(Rm:Room A 4){x:Int}{h:Option Nat}(hkp:cJ W key)(hkn:isNone key=false)(hky:∀A,Room A 3->mz W A key ds ns)(hlen:h.getD ns.length<=ns.length)(h63:ns.length < 2 ^ 60):
  bz W A (.ref 32) [.list ds,.int x,.int lo,sS h] [("key",key)] (.int (iW (jT ns x) lo (h.getD ns.length))):=
 (fw (names:=bisNames) (ds':=[.list ds,.int x,.int lo,sS h,key]) gb hP (by kernel_rfl) (λg s vs kvs k rs hk rk=>by
  obtain ⟨a,rest,rfl,r1,rs⟩:=rs.inv_cons
  apply rs.elim3;intro b c e r2 r3 r4
  apply aA (jP hk);intro kv hq0 hkv;subst hq0
  apply aA (rk.inv1);intro _ ekv r5
  cases ekv
  exact ⟨_,DO _ _ _ _ _ _,.cons r1 (.cons r2 (.cons r3 (.cons r4 (.cons r5 .nil))))⟩) rfl Rm.dep λenv e1 e2 e3=>by
  have Rd:=(Room.deeper (env:=env) (k:=3) Rm)
  have hl:ds.length=ns.length:=(hky _ Rd).1
  exact sh Rd.handled (Rd.u100) e1 (eX hP) (by rw [hl];exact h63) (by rw [hl];exact Cv Rd.handled (Rd.u100) e1 (eX hP) hkp hkn (hky _ Rd) hlen h63)).toTo
theorem xb (hh:A.handled=none)(hu:A.units + 100 < cLine)(hs0:env.scope=bh 4)(G:kS W gl){x:Int}(hlen:hi<=ns.length)(h63:ns.length < 2 ^ 60):
  fB W A env (ir (ns.map .int) (.int x) lo (.int hi) .none) [] ((aH 4).drop 2) (.int (iW (jt ns x) lo hi)) []:=by
 have hs:=hs0
 conv at hs=>rhs;whnf
 have C:=Cx.mk hs ‹_› ‹_› ‹_›
 clear hs0
 conv in iw 2 (aH 4)=>whnf
 apply eZ;exact dg;exact trivial
 refine lu (α:=Nat×Nat) (λa=>ir (ns.map .int) (.int x) a.1 (.int a.2) .none) (λ_=>[]) (λa=>decide ((a.1:Int) < (a.2:Int))) (ip (jt ns x)) (λa=>a.2 - a.1) (λa=>a.2<=hi/\iW (jt ns x) a.1 a.2=iW (jt ns x) lo hi) (lo,hi) ⟨ae _,rfl⟩
  ⟨λy d e=>e,id⟩ rfl (λ_=>rfl) (λa _=>?_) (λa zq0 hc=>Ag zq0 λi1 i2=>?_) (λa zq0 hc=>Ag zq0 λi1 i2=>?_)
 .apply pS;exact dg;exact trivial
 .have hlt:a.1 < a.2:=by simpa using hc
  have hx0:=rn (p:=jt ns x) hlt;have b1:=hx0.1;have b2:=hx0.2.1;have b3:=hx0.2.2
  refine ⟨⟨ai b2 i1,b1.trans i2⟩,b3,?_⟩
  have hmid:(a.1 + a.2) / 2 < ns.length:=E3 hlen i1 hlt
  (apply bW;exact ak;assumption;rfl;rfl);exact ⟨by decide,fx (by decide),trivial⟩
  rw [m6]
  apply df
  .apply gJ hu;(apply l9;exact ak;exact ak;exact tV hmid);exact ak;rfl;rfl
  .exact ⟨ax _,EY h63 hmid,trivial⟩
  .intro hb
   have hg:jt ns x ((a.1 + a.2) / 2)=false:=by unfold jt;rw [hb];rfl
   (apply bW;exact ak;assumption;rfl;rfl);exact trivial
   apply cG
   refine db ⟨rfl,?_⟩
   unfold ip
   rw [hg]
   exact SubR.le ⟨rfl,rfl,rfl,rfl,rfl,trivial⟩ rfl
  .intro hb
   have hg:jt ns x ((a.1 + a.2) / 2)=true:=by unfold jt;rw [hb];rfl
   (apply bW;exact ak;assumption;rfl;rfl);exact trivial
   apply cG
   refine db ⟨rfl,?_⟩
   unfold ip
   rw [hg]
   exact SubR.le ⟨rfl,rfl,rfl,rfl,rfl,trivial⟩ rfl
 .have hge:¬a.1 < a.2:=by simpa using hc
  apply cG
  apply ji;exact ak;exact trivial
  exact ⟨by rw [<-i2,rq hge],rfl⟩
theorem Cw (hh:A.handled=none)(hu:A.units + 100 < cLine)(hs0:env.scope=bh 4)(G:kS W gl)(hkp:cJ W key)(hkn:isNone key=false)(hky:mz W A key ds ns){x:Int}(hlen:hi<=ns.length)(h63:ns.length < 2 ^ 60):
  fB W A env (ir ds (.int x) lo (.int hi) key) [] ((aH 4).drop 2) (.int (iW (jt ns x) lo hi)) []:=by
 have hs:=hs0
 conv at hs=>rhs;whnf
 have C:=Cx.mk hs ‹_› ‹_› ‹_›
 clear hs0
 conv in iw 2 (aH 4)=>whnf
 apply eZ;(apply gJ hu;exact ak;exact ak;exact qY key;rfl);exact trivial
 rw [hkn]
 refine lu (α:=Nat×Nat) (λa=>ir ds (.int x) a.1 (.int a.2) key) (λ_=>[]) (λa=>decide ((a.1:Int) < (a.2:Int))) (ip (jt ns x)) (λa=>a.2 - a.1) (λa=>a.2<=hi/\iW (jt ns x) a.1 a.2=iW (jt ns x) lo hi) (lo,hi) ⟨ae _,rfl⟩
  ⟨λy d e=>e,id⟩ rfl (λ_=>rfl) (λa _=>?_) (λa zq0 hc=>Ag zq0 λi1 i2=>?_) (λa zq0 hc=>Ag zq0 λi1 i2=>?_)
 .apply pS;exact dg;exact trivial
 .have hlt:a.1 < a.2:=by simpa using hc
  have hx0:=rn (p:=jt ns x) hlt;have b1:=hx0.1;have b2:=hx0.2.1;have b3:=hx0.2.2
  refine ⟨⟨ai b2 i1,b1.trans i2⟩,b3,?_⟩
  have hmid:(a.1 + a.2) / 2 < ns.length:=E3 hlen i1 hlt
  have ⟨d0,hd0⟩:∃d,ds[(a.1 + a.2) / 2]? =some d:=⟨_,List.getElem?_eq_getElem (by rw [hky.1];exact hmid)⟩
  have hcall:=hky.2 _ _ hd0
  (apply bW;exact ak;assumption;rfl;rfl);exact ⟨by decide,fx (by decide),trivial⟩
  rw [m6]
  apply df
  .apply gJ hu;(apply fg (P4:=[]) (kd:=[]);exact ak;(apply av rfl;(apply l9;exact ak;exact ak;exact o7 hd0);exact bo);exact cf;exact hkp;intro _;exact hcall);exact ak;rfl;rfl
  .exact ⟨ax _,EY h63 hmid,trivial⟩
  .intro hb
   have hg:jt ns x ((a.1 + a.2) / 2)=false:=by unfold jt;rw [hb];rfl
   (apply bW;exact ak;assumption;rfl;rfl);exact trivial
   apply cG
   refine db ⟨rfl,?_⟩
   unfold ip
   rw [hg]
   exact SubR.le ⟨rfl,rfl,rfl,rfl,rfl,trivial⟩ rfl
  .intro hb
   have hg:jt ns x ((a.1 + a.2) / 2)=true:=by unfold jt;rw [hb];rfl
   (apply bW;exact ak;assumption;rfl;rfl);exact trivial
   apply cG
   refine db ⟨rfl,?_⟩
   unfold ip
   rw [hg]
   exact SubR.le ⟨rfl,rfl,rfl,rfl,rfl,trivial⟩ rfl
 .have hge:¬a.1 < a.2:=by simpa using hc
  apply cG
  apply ji;exact ak;exact trivial
  exact ⟨by rw [<-i2,rq hge],rfl⟩
theorem si (hh:A.handled=none)(hu:A.units + 100 < cLine)(hs0:env.scope=bh 4)(G:kS W gl){x:D}{h:Option Nat}(h63:ds.length < 2 ^ 60)(ht:fB W A env (ir ds x lo (.int (h.getD ds.length)) key) [] ((aH 4).drop 2) d []):fB W A env (ir ds x lo (sS h) key) [] (aH 4) d []:=by
 have hs:=hs0
 conv at hs=>rhs;whnf
 have C:=Cx.mk hs ‹_› ‹_› ‹_›
 clear hs0
 conv at ht=>arg 6;whnf
 conv in aH 4=>whnf
 apply df;exact dg;exact trivial
 .intro h;simp at h;exact (Js h).elim
 intro _
 apply cG
 cases h with
 | none=>
  apply eZ;exact dg;exact trivial
  (apply bW;exact ak;assumption;rfl;rfl);exact ⟨Jj h63,trivial⟩
  apply cG
  exact de (ρ':=ir ds x lo (.int ds.length) key) (SubR.le ⟨rfl,rfl,rfl,rfl,rfl,trivial⟩ rfl) ht
 | some hi=>
  apply eZ;exact dg;exact trivial
  apply cG
  exact ht
noncomputable def Fd:=kT 4 "bisect_left" (.ref 42) (.ref 43) tF 49
theorem DQ (P:Params)(a x lo hi:Value):∀S,peek (Kf P) S (bindArgs Fd ⟨[a,x,lo,hi],[]⟩)=some (bisNames.zip [a,x,lo,hi,.none]):=λS=>by kernel_rfl
theorem DS (P:Params)(a x:Value):∀S,peek (Kf P) S (bindArgs Fd ⟨[a,x],[]⟩)=some (bisNames.zip [a,x,.int 0 229,.none,.none]):=λS=>by kernel_rfl
theorem we (P:Params)(a x lo hi k:Value):∀S,peek (Kf P) S (bindArgs Fd ⟨[a,x,lo,hi],[("key",k)]⟩)=some (bisNames.zip [a,x,lo,hi,k]):=λS=>by kernel_rfl
theorem re (hP:jv W)(Rm:Room A 4){x:Int}{h:Option Nat}(hlen:h.getD ns.length<=ns.length)(h63:ns.length < 2 ^ 60):
  bz W A (.ref 50) [.list (ns.map .int),.int x,.int lo,sS h] [] (.int (iW (jt ns x) lo (h.getD ns.length))):=
 (fw (names:=bisNames) (ds':=[.list (ns.map .int),.int x,.int lo,sS h,.none]) gc hP (by kernel_rfl) (λg s vs kvs k rs hk rk=>by
  have:kvs=[]:=by simpa using hk
  subst this
  obtain ⟨a,rest,rfl,r1,rs⟩:=rs.inv_cons
  apply rs.elim3;intro b c e r2 r3 r4
  exact ⟨_,DQ _ _ _ _ _,.cons r1 (.cons r2 (.cons r3 (.cons r4 (.cons .none .nil))))⟩) rfl Rm.dep λenv e1 e2 e3=>by
  have Rd:=(Room.deeper (env:=env) (k:=3) Rm)
  have hl:(ns.map D.int).length=ns.length:=ab ..
  exact si Rd.handled (Rd.u100) e1 (eX hP) (by rw [hl];exact h63) (by rw [hl];exact xb Rd.handled (Rd.u100) e1 (eX hP) hlen h63)).toTo
theorem zY (hP:jv W)(Rm:Room A 4){x:Int}(h63:ns.length < 2 ^ 60):
  bz W A (.ref 50) [.list (ns.map .int),.int x] [] (.int (iW (jt ns x) 0 ns.length)):=
 (fw (names:=bisNames) (ds':=[.list (ns.map .int),.int x,.int (0:Nat),sS none,.none]) gc hP (by kernel_rfl) (λg s vs kvs k rs hk rk=>by
  have:kvs=[]:=by simpa using hk
  subst this
  apply rs.elim2;intro a b r1 r2
  exact ⟨_,DS _ _ _,.cons r1 (.cons r2 (.cons (.int _ _) (.cons .none (.cons .none .nil))))⟩) rfl Rm.dep λenv e1 e2 e3=>by
  have Rd:=(Room.deeper (env:=env) (k:=3) Rm)
  have hl:(ns.map D.int).length=ns.length:=ab ..
  exact si (lo:=0) (h:=none) Rd.handled (Rd.u100) e1 (eX hP) (by rw [hl];exact h63) (by rw [hl];exact xb Rd.handled (Rd.u100) e1 (eX hP) (ae _) h63)).toTo
theorem zX (hP:jv W)(Rm:Room A 4){x:Int}{h:Option Nat}(hkp:cJ W key)(hkn:isNone key=false)(hky:∀A,Room A 3->mz W A key ds ns)(hlen:h.getD ns.length<=ns.length)(h63:ns.length < 2 ^ 60):
  bz W A (.ref 50) [.list ds,.int x,.int lo,sS h] [("key",key)] (.int (iW (jt ns x) lo (h.getD ns.length))):=
 (fw (names:=bisNames) (ds':=[.list ds,.int x,.int lo,sS h,key]) gc hP (by kernel_rfl) (λg s vs kvs k rs hk rk=>by
  obtain ⟨a,rest,rfl,r1,rs⟩:=rs.inv_cons
  apply rs.elim3;intro b c e r2 r3 r4
  apply aA (jP hk);intro kv hq0 hkv;subst hq0
  apply aA (rk.inv1);intro _ ekv r5
  cases ekv
  exact ⟨_,we _ _ _ _ _ _,.cons r1 (.cons r2 (.cons r3 (.cons r4 (.cons r5 .nil))))⟩) rfl Rm.dep λenv e1 e2 e3=>by
  have Rd:=(Room.deeper (env:=env) (k:=3) Rm)
  have hl:ds.length=ns.length:=(hky _ Rd).1
  exact si Rd.handled (Rd.u100) e1 (eX hP) (by rw [hl];exact h63) (by rw [hl];exact Cw Rd.handled (Rd.u100) e1 (eX hP) hkp hkn (hky _ Rd) hlen h63)).toTo
theorem pI {p:Nat->Bool}:lo<=hi->lo<=iW p lo hi/\iW p lo hi<=hi:=
 Fa (P:=λlo hi r=>lo<=hi->lo<=r/\r<=hi) (λ_ _ _ h=>⟨ae _,h⟩) (λlo hi r h _ ih _=>(ih (Mu h)).imp id λq=>ai q (Mv h))
  (λlo hi r h _ ih _=>(ih (E1 h)).imp (ai ((qI Y2 (.a Y0 Y1) 1 (qN (.l Y0 (.a Y2 J1)) [0,1,1] 1):dL [aR Y0 Y1]) h)) id) lo hi
theorem gS (h:nJ W A env ρ es ds P)(hP:AllP P):EvAll W A env ρ es ds:=h hP
noncomputable def jL (ds:List D)(j:Nat)(d:D):List D:=ds.take j++d :: ds.drop j
theorem mj (hs:env.scope.kind=.function)(hline:(apos.endLine==pos.line)=true)(hx:aQ W A env ρ (.Name x q) (.ref a))(h:EvAll W A env ρ es [.int j,d])(hn:dz es.length 30=true)(hj:j<=ds.length)(hz:ds.length<=sizeLine)(hr:Blk W A env ρ ((a,.list (jL ds j d)) :: L) rest Kn Pr):
  Blk W A env ρ ((a,.list ds) :: L) (.Expr (.Call (.Attribute (.Name x q) "insert" apos) es [] pos) p :: rest) Kn Pr:=
 vY hs hline hn F.slot_list_insert F.type_list_insert hx h (A4 hj hz) hr
noncomputable def Iz:=kT 1 "insort_right" (.ref 15) (.ref 16) tF 22
theorem v9 (P:Params)(a x lo hi k:Value):∀S,peek (Kf P) S (bindArgs Iz ⟨[a,x,lo,hi],[("key",k)]⟩)=some (bisNames.zip [a,x,lo,hi,k]):=λS=>by kernel_rfl
theorem DM (P:Params)(a x k:Value):∀S,peek (Kf P) S (bindArgs Iz ⟨[a,x],[("key",k)]⟩)=some (bisNames.zip [a,x,.int 0 189,.none,k]):=λS=>by kernel_rfl
theorem GG (hP:jv W)(Rm:Room A 4)(hu:A.units + 100 < cLine)(hs0:env.scope=bh 1){x:Int}{h:Option Nat}(hlen:h.getD ns.length<=ns.length)(hlo:lo<=h.getD ns.length)(h63:ns.length < 2 ^ 20):
  fB W A env (dc bisNames [.ref a,(.int x),.int lo,sS h,.none] .nil) [(a,.list (ns.map .int))] (aH 1) .none [(a,.list (jL (ns.map .int) (iW (jT ns x) lo (h.getD ns.length)) (.int x)))]:=by
 have G:=eX hP
 have hs:=hs0
 have hz60:ns.length < 2 ^ 60:=aw h63 (ac rfl)
 have hc:=rc hP Rm hlen hz60 (x:=x) (lo:=lo)
 have hkb:cJ W (.ref 32):=cL gb hP
 have hj:=(pI (p:=jT ns x) hlo).2
 conv at hs=>rhs;whnf
 have hkind:env.scope.kind=.function:=by rw [hs]
 clear hs0
 conv in aH 1=>whnf
 apply eZ;(apply gJ ‹_›;apply bg ‹_› ‹_›;rfl;exact hH rfl;rfl;rfl);exact trivial
 refine jh (d:=.int (iW (jT ns x) lo (h.getD ns.length))) (nX (a:=a) (ds:=(ns.map .int)) (x:="a") (rF.mpr rfl) rfl rfl ?_) (el hs rfl) rfl ?_
 .apply dq
  .apply fg (P4:=[]) (f:=.ref 32)
   ·(apply bg ‹_› ‹_›;rfl)
   ·(apply av rfl;apply bg ‹_› ‹_›;rfl;apply av rfl;apply bg ‹_› ‹_›;rfl;apply av rfl;apply bg ‹_› ‹_›;rfl;apply av rfl;apply bg ‹_› ‹_›;rfl;exact bo)
   .exact cf
   .exact hkb
   .exact λ_=>hc
  .exact trivial
 apply cG
 refine mj (j:=iW (jT ns x) lo (h.getD ns.length)) (d:=(.int x)) hkind rfl (by apply dq;(apply bg ‹_› ‹_›;rfl);exact trivial) (by apply gS;(apply av rfl;apply bg ‹_› ‹_›;rfl;apply av rfl;apply bg ‹_› ‹_›;rfl;exact bo);exact trivial) rfl (by rw [ab];exact ai hj hlen) (ai (cZ (by rw [ab];exact h63)) (by decide)) ?_
 exact db ⟨rfl,rfl⟩
variable {xd:D}
theorem vW (hP:jv W)(Rm:Room A 4)(hu:A.units + 100 < cLine)(hs0:env.scope=bh 1){x:Int}(hkp:cJ W key)(hkn:isNone key=false)(hky:∀A,Room A 3->mz W A key ds ns)(hkx:bz W A key [xd] [] (.int x)){h:Option Nat}(hlen:h.getD ns.length<=ns.length)(hlo:lo<=h.getD ns.length)(h63:ns.length < 2 ^ 20)(h64:ds.length=ns.length):
  fB W A env (dc bisNames [.ref a,xd,.int lo,sS h,key] .nil) [(a,.list ds)] (aH 1) .none [(a,.list (jL ds (iW (jT ns x) lo (h.getD ns.length)) xd))]:=by
 have G:=eX hP
 have hs:=hs0
 have hz60:ns.length < 2 ^ 60:=aw h63 (ac rfl)
 have hc:=zV hP Rm hkp hkn hky hlen hz60 (x:=x) (lo:=lo)
 have hkb:cJ W (.ref 32):=cL gb hP
 have hj:=(pI (p:=jT ns x) hlo).2
 conv at hs=>rhs;whnf
 have hkind:env.scope.kind=.function:=by rw [hs]
 clear hs0
 conv in aH 1=>whnf
 apply eZ;(apply gJ hu;(apply bg ‹_› ‹_›;rfl);exact hH rfl;exact qY key;rfl);exact trivial
 rw [hkn]
 refine jh (d:=.int (iW (jT ns x) lo (h.getD ns.length))) (nX (a:=a) (ds:=ds) (x:="a") (rF.mpr rfl) rfl rfl ?_) (el hs rfl) rfl ?_
 .apply dq
  .apply fg (P4:=[]) (f:=.ref 32)
   ·(apply bg ‹_› ‹_›;rfl)
   ·(apply av rfl;(apply bg ‹_› ‹_›;rfl);apply av rfl;(apply fg (P4:=[]) (kd:=[]);(apply bg ‹_› ‹_›;rfl);(apply av rfl;apply bg ‹_› ‹_›;rfl;exact bo);exact cf;exact hkp;intro _;exact hkx);(apply av rfl;apply bg ‹_› ‹_›;rfl;apply av rfl;apply bg ‹_› ‹_›;rfl;exact bo))
   ·(apply nh;apply bg ‹_› ‹_›;rfl;exact cf)
   .exact hkb
   .exact λ_=>hc
  .exact trivial
 apply cG
 refine mj (j:=iW (jT ns x) lo (h.getD ns.length)) (d:=xd) hkind rfl (by apply dq;(apply bg ‹_› ‹_›;rfl);exact trivial) (by apply gS;(apply av rfl;apply bg ‹_› ‹_›;rfl;apply av rfl;apply bg ‹_› ‹_›;rfl;exact bo);exact trivial) rfl (by rw [h64];exact ai hj hlen) (ai (cZ (by rw [h64];exact h63)) (by decide)) ?_
 exact db ⟨rfl,rfl⟩
theorem sZ (hP:jv W)(Rm:Room A 5){x:Int}{h:Option Nat}(hlen:h.getD ns.length<=ns.length)(hlo:lo<=h.getD ns.length)(h63:ns.length < 2 ^ 20):
  CallL W A (.ref 23) [.ref a,.int x,.int lo,sS h] [("key",.none)] [(a,.list (ns.map .int))] .none [(a,.list (jL (ns.map .int) (iW (jT ns x) lo (h.getD ns.length)) (.int x)))]:=
 fw (names:=bisNames) (ds':=[.ref a,.int x,.int lo,sS h,.none]) jW hP (by kernel_rfl) (λg s vs kvs k rs hk rk=>by
  obtain ⟨a,rest,rfl,r1,rs⟩:=rs.inv_cons
  apply rs.elim3;intro b c e r2 r3 r4
  apply aA (jP hk);intro kv hq0 hkv;subst hq0
  apply aA (rk.inv1);intro _ ekv r5
  cases ekv
  exact ⟨_,v9 _ _ _ _ _ _,.cons r1 (.cons r2 (.cons r3 (.cons r4 (.cons r5 .nil))))⟩) rfl Rm.dep λenv e1 e2 e3=>by
  have Rd:=(Room.deeper (env:=env) (k:=4) Rm)
  exact GG hP Rd (Rd.u100) e1 hlen hlo h63
theorem sY (hP:jv W)(Rm:Room A 5){x:Int}(hkp:cJ W key)(hkn:isNone key=false)(hky:∀A,Room A 3->mz W A key ds ns)(hkx:∀A,Room A 3->bz W A key [xd] [] (.int x)){h:Option Nat}(hlen:h.getD ns.length<=ns.length)(hlo:lo<=h.getD ns.length)(h63:ns.length < 2 ^ 20)(h64:ds.length=ns.length):
  CallL W A (.ref 23) [.ref a,xd,.int lo,sS h] [("key",key)] [(a,.list ds)] .none [(a,.list (jL ds (iW (jT ns x) lo (h.getD ns.length)) xd))]:=
 fw (names:=bisNames) (ds':=[.ref a,xd,.int lo,sS h,key]) jW hP (by kernel_rfl) (λg s vs kvs k rs hk rk=>by
  obtain ⟨a,rest,rfl,r1,rs⟩:=rs.inv_cons
  apply rs.elim3;intro b c e r2 r3 r4
  apply aA (jP hk);intro kv hq0 hkv;subst hq0
  apply aA (rk.inv1);intro _ ekv r5
  cases ekv
  exact ⟨_,v9 _ _ _ _ _ _,.cons r1 (.cons r2 (.cons r3 (.cons r4 (.cons r5 .nil))))⟩) rfl Rm.dep λenv e1 e2 e3=>by
  have Rd:=(Room.deeper (env:=env) (k:=4) Rm)
  exact vW hP Rd (Rd.u100) e1 hkp hkn hky (hkx _ (Rd.le (ET))) hlen hlo h63 h64
theorem BU (hP:jv W)(Rm:Room A 5){x:Int}(hkp:cJ W key)(hkn:isNone key=false)(hky:∀A,Room A 3->mz W A key ds ns)(hkx:∀A,Room A 3->bz W A key [xd] [] (.int x))(h63:ns.length < 2 ^ 20)(h64:ds.length=ns.length):
  CallL W A (.ref 23) [.ref a,xd] [("key",key)] [(a,.list ds)] .none [(a,.list (jL ds (iW (jT ns x) 0 ns.length) xd))]:=
 fw (names:=bisNames) (ds':=[.ref a,xd,.int (0:Nat),sS none,key]) jW hP (by kernel_rfl) (λg s vs kvs k rs hk rk=>by
  apply rs.elim2;intro a b r1 r2
  apply aA (jP hk);intro kv hq0 hkv;subst hq0
  apply aA (rk.inv1);intro _ ekv r5
  cases ekv
  exact ⟨_,DM _ _ _ _,.cons r1 (.cons r2 (.cons (.int _ _) (.cons .none (.cons r5 .nil))))⟩) rfl Rm.dep λenv e1 e2 e3=>by
  have Rd:=(Room.deeper (env:=env) (k:=4) Rm)
  exact vW (lo:=0) (h:=none) hP Rd (Rd.u100) e1 hkp hkn hky (hkx _ (Rd.le (ET))) (ae _) (cq _) h63 h64
noncomputable def IA:=kT 3 "insort_left" (.ref 33) (.ref 34) tF 40
theorem wb (P:Params)(a x lo hi k:Value):∀S,peek (Kf P) S (bindArgs IA ⟨[a,x,lo,hi],[("key",k)]⟩)=some (bisNames.zip [a,x,lo,hi,k]):=λS=>by kernel_rfl
theorem DN (P:Params)(a x k:Value):∀S,peek (Kf P) S (bindArgs IA ⟨[a,x],[("key",k)]⟩)=some (bisNames.zip [a,x,.int 0 216,.none,k]):=λS=>by kernel_rfl
theorem GH (hP:jv W)(Rm:Room A 4)(hu:A.units + 100 < cLine)(hs0:env.scope=bh 3){x:Int}{h:Option Nat}(hlen:h.getD ns.length<=ns.length)(hlo:lo<=h.getD ns.length)(h63:ns.length < 2 ^ 20):
  fB W A env (dc bisNames [.ref a,(.int x),.int lo,sS h,.none] .nil) [(a,.list (ns.map .int))] (aH 3) .none [(a,.list (jL (ns.map .int) (iW (jt ns x) lo (h.getD ns.length)) (.int x)))]:=by
 have G:=eX hP
 have hs:=hs0
 have hz60:ns.length < 2 ^ 60:=aw h63 (ac rfl)
 have hc:=re hP Rm hlen hz60 (x:=x) (lo:=lo)
 have hkb:cJ W (.ref 50):=cL gc hP
 have hj:=(pI (p:=jt ns x) hlo).2
 conv at hs=>rhs;whnf
 have hkind:env.scope.kind=.function:=by rw [hs]
 clear hs0
 conv in aH 3=>whnf
 apply eZ;(apply gJ ‹_›;apply bg ‹_› ‹_›;rfl;exact hH rfl;rfl;rfl);exact trivial
 refine jh (d:=.int (iW (jt ns x) lo (h.getD ns.length))) (nX (a:=a) (ds:=(ns.map .int)) (x:="a") (rF.mpr rfl) rfl rfl ?_) (el hs rfl) rfl ?_
 .apply dq
  .apply fg (P4:=[]) (f:=.ref 50)
   ·(apply bg ‹_› ‹_›;rfl)
   ·(apply av rfl;apply bg ‹_› ‹_›;rfl;apply av rfl;apply bg ‹_› ‹_›;rfl;apply av rfl;apply bg ‹_› ‹_›;rfl;apply av rfl;apply bg ‹_› ‹_›;rfl;exact bo)
   .exact cf
   .exact hkb
   .exact λ_=>hc
  .exact trivial
 apply cG
 refine mj (j:=iW (jt ns x) lo (h.getD ns.length)) (d:=(.int x)) hkind rfl (by apply dq;(apply bg ‹_› ‹_›;rfl);exact trivial) (by apply gS;(apply av rfl;apply bg ‹_› ‹_›;rfl;apply av rfl;apply bg ‹_› ‹_›;rfl;exact bo);exact trivial) rfl (by rw [ab];exact ai hj hlen) (ai (cZ (by rw [ab];exact h63)) (by decide)) ?_
 exact db ⟨rfl,rfl⟩
theorem vX (hP:jv W)(Rm:Room A 4)(hu:A.units + 100 < cLine)(hs0:env.scope=bh 3){x:Int}(hkp:cJ W key)(hkn:isNone key=false)(hky:∀A,Room A 3->mz W A key ds ns)(hkx:bz W A key [xd] [] (.int x)){h:Option Nat}(hlen:h.getD ns.length<=ns.length)(hlo:lo<=h.getD ns.length)(h63:ns.length < 2 ^ 20)(h64:ds.length=ns.length):
  fB W A env (dc bisNames [.ref a,xd,.int lo,sS h,key] .nil) [(a,.list ds)] (aH 3) .none [(a,.list (jL ds (iW (jt ns x) lo (h.getD ns.length)) xd))]:=by
 have G:=eX hP
 have hs:=hs0
 have hz60:ns.length < 2 ^ 60:=aw h63 (ac rfl)
 have hc:=zX hP Rm hkp hkn hky hlen hz60 (x:=x) (lo:=lo)
 have hkb:cJ W (.ref 50):=cL gc hP
 have hj:=(pI (p:=jt ns x) hlo).2
 conv at hs=>rhs;whnf
 have hkind:env.scope.kind=.function:=by rw [hs]
 clear hs0
 conv in aH 3=>whnf
 apply eZ;(apply gJ hu;(apply bg ‹_› ‹_›;rfl);exact hH rfl;exact qY key;rfl);exact trivial
 rw [hkn]
 refine jh (d:=.int (iW (jt ns x) lo (h.getD ns.length))) (nX (a:=a) (ds:=ds) (x:="a") (rF.mpr rfl) rfl rfl ?_) (el hs rfl) rfl ?_
 .apply dq
  .apply fg (P4:=[]) (f:=.ref 50)
   ·(apply bg ‹_› ‹_›;rfl)
   ·(apply av rfl;(apply bg ‹_› ‹_›;rfl);apply av rfl;(apply fg (P4:=[]) (kd:=[]);(apply bg ‹_› ‹_›;rfl);(apply av rfl;apply bg ‹_› ‹_›;rfl;exact bo);exact cf;exact hkp;intro _;exact hkx);(apply av rfl;apply bg ‹_› ‹_›;rfl;apply av rfl;apply bg ‹_› ‹_›;rfl;exact bo))
   ·(apply nh;apply bg ‹_› ‹_›;rfl;exact cf)
   .exact hkb
   .exact λ_=>hc
  .exact trivial
 apply cG
 refine mj (j:=iW (jt ns x) lo (h.getD ns.length)) (d:=xd) hkind rfl (by apply dq;(apply bg ‹_› ‹_›;rfl);exact trivial) (by apply gS;(apply av rfl;apply bg ‹_› ‹_›;rfl;apply av rfl;apply bg ‹_› ‹_›;rfl;exact bo);exact trivial) rfl (by rw [h64];exact ai hj hlen) (ai (cZ (by rw [h64];exact h63)) (by decide)) ?_
 exact db ⟨rfl,rfl⟩
theorem td (hP:jv W)(Rm:Room A 5){x:Int}{h:Option Nat}(hlen:h.getD ns.length<=ns.length)(hlo:lo<=h.getD ns.length)(h63:ns.length < 2 ^ 20):
  CallL W A (.ref 41) [.ref a,.int x,.int lo,sS h] [("key",.none)] [(a,.list (ns.map .int))] .none [(a,.list (jL (ns.map .int) (iW (jt ns x) lo (h.getD ns.length)) (.int x)))]:=
 fw (names:=bisNames) (ds':=[.ref a,.int x,.int lo,sS h,.none]) jX hP (by kernel_rfl) (λg s vs kvs k rs hk rk=>by
  obtain ⟨a,rest,rfl,r1,rs⟩:=rs.inv_cons
  apply rs.elim3;intro b c e r2 r3 r4
  apply aA (jP hk);intro kv hq0 hkv;subst hq0
  apply aA (rk.inv1);intro _ ekv r5
  cases ekv
  exact ⟨_,wb _ _ _ _ _ _,.cons r1 (.cons r2 (.cons r3 (.cons r4 (.cons r5 .nil))))⟩) rfl Rm.dep λenv e1 e2 e3=>by
  have Rd:=(Room.deeper (env:=env) (k:=4) Rm)
  exact GH hP Rd (Rd.u100) e1 hlen hlo h63
theorem tc (hP:jv W)(Rm:Room A 5){x:Int}(hkp:cJ W key)(hkn:isNone key=false)(hky:∀A,Room A 3->mz W A key ds ns)(hkx:∀A,Room A 3->bz W A key [xd] [] (.int x)){h:Option Nat}(hlen:h.getD ns.length<=ns.length)(hlo:lo<=h.getD ns.length)(h63:ns.length < 2 ^ 20)(h64:ds.length=ns.length):
  CallL W A (.ref 41) [.ref a,xd,.int lo,sS h] [("key",key)] [(a,.list ds)] .none [(a,.list (jL ds (iW (jt ns x) lo (h.getD ns.length)) xd))]:=
 fw (names:=bisNames) (ds':=[.ref a,xd,.int lo,sS h,key]) jX hP (by kernel_rfl) (λg s vs kvs k rs hk rk=>by
  obtain ⟨a,rest,rfl,r1,rs⟩:=rs.inv_cons
  apply rs.elim3;intro b c e r2 r3 r4
  apply aA (jP hk);intro kv hq0 hkv;subst hq0
  apply aA (rk.inv1);intro _ ekv r5
  cases ekv
  exact ⟨_,wb _ _ _ _ _ _,.cons r1 (.cons r2 (.cons r3 (.cons r4 (.cons r5 .nil))))⟩) rfl Rm.dep λenv e1 e2 e3=>by
  have Rd:=(Room.deeper (env:=env) (k:=4) Rm)
  exact vX hP Rd (Rd.u100) e1 hkp hkn hky (hkx _ (Rd.le (ET))) hlen hlo h63 h64
theorem BV (hP:jv W)(Rm:Room A 5){x:Int}(hkp:cJ W key)(hkn:isNone key=false)(hky:∀A,Room A 3->mz W A key ds ns)(hkx:∀A,Room A 3->bz W A key [xd] [] (.int x))(h63:ns.length < 2 ^ 20)(h64:ds.length=ns.length):
  CallL W A (.ref 41) [.ref a,xd] [("key",key)] [(a,.list ds)] .none [(a,.list (jL ds (iW (jt ns x) 0 ns.length) xd))]:=
 fw (names:=bisNames) (ds':=[.ref a,xd,.int (0:Nat),sS none,key]) jX hP (by kernel_rfl) (λg s vs kvs k rs hk rk=>by
  apply rs.elim2;intro a b r1 r2
  apply aA (jP hk);intro kv hq0 hkv;subst hq0
  apply aA (rk.inv1);intro _ ekv r5
  cases ekv
  exact ⟨_,DN _ _ _ _,.cons r1 (.cons r2 (.cons (.int _ _) (.cons .none (.cons r5 .nil))))⟩) rfl Rm.dep λenv e1 e2 e3=>by
  have Rd:=(Room.deeper (env:=env) (k:=4) Rm)
  exact vX (lo:=0) (h:=none) hP Rd (Rd.u100) e1 hkp hkn hky (hkx _ (Rd.le (ET))) (ae _) (cq _) h63 h64
noncomputable def dW (n:Nat):List Int->Int
 | []=>0
 | a :: r=>a + 2 ^ n * dW n r
noncomputable def iT (n:Nat):Nat->Int->List Int
 | 0,_=>[]
 | k + 1,x=>x % 2 ^ n :: iT n k (x / 2 ^ n)
theorem cF (n:Nat):(0:Int) < 2 ^ n:=Int.pow_pos (by decide)
theorem mS (h:i<=j):(2:Int) ^ i<=2 ^ j:=by
 have:=Int.ofNat_le.mpr (gw (n:=2) (by decide) h)
 push_cast at this
 exact this
theorem AS {m n:Int}(x:Int)(hm:0 < m):x % (m * n) / m=x / m % n:=by
 rw [Int.emod_def,Int.emod_def,cE,Int.sub_eq_add_neg,<-Int.mul_neg,Fk _ _ (bx hm),mH (ay hm)]
 exact au ((qN (.L (.a I0 (.n I1)) (.s I0 I1)) []:kI [])) ((qN (.L (.s I0 I1) (.a I0 (.n I1))) []:kI []))
theorem fv (n:Nat):∀a b:List Int,dW n (a++b)=dW n a + 2 ^ (n * a.length) * dW n b
 | [],b=>by simp [dW]
 | x :: a,b=>by
  simp only [b8,dW,fv n a b,aM]
  rw [iz,lE,dQ,gx,rH,aX (2 ^ (n * a.length)) (2 ^ n),cE]
theorem ge (n:Nat):∀k x,(iT n k x).length=k
 | 0,_=>rfl
 | k + 1,x=>by simp [iT,ge n k]
theorem Bv (n:Nat):∀k (x:Int),iT n k (x % 2 ^ (n * k))=iT n k x
 | 0,_=>rfl
 | k + 1,x=>by
  simp only [iT]
  have e:(2:Int) ^ (n * (k + 1))=2 ^ n * 2 ^ (n * k):=by rw [iz,lE,dQ,aX]
  have h1:x % 2 ^ (n * (k + 1)) % 2 ^ n=x % 2 ^ n:=by rw [e];exact Int.emod_emod_of_dvd _ ⟨_,rfl⟩
  have h2:x % 2 ^ (n * (k + 1)) / 2 ^ n=x / 2 ^ n % 2 ^ (n * k):=by
   rw [e];exact AS x (cF n)
  rw [h1,h2,Bv n k]
theorem Bw (n:Nat):∀j k (x:Int),iT n (j + k) x=iT n j x++iT n k (x / 2 ^ (n * j))
 | 0,k,x=>by simp [iT]
 | j + 1,k,x=>by
  rw [sH]
  simp only [iT,b8]
  rw [Bw n j k,mH (ay (cF n)),<-dQ]
  have:n + n * j=n * (j + 1):=by rw [iz,lE,nB]
  rw [this]
theorem uM (n:Nat):∀k (x:Int),0<=x->x < 2 ^ (n * k)->dW n (iT n k x)=x
 | 0,x,h0,h1=>by simp at h1;simp [iT,dW];exact au (Dx h0) ((qN (.L I0 J0) [1]:oZ [cK I0 J1]) h1)
 | k + 1,x,h0,h1=>by
  simp only [iT,dW]
  have e:(2:Int) ^ (n * (k + 1))=2 ^ (n * k) * 2 ^ n:=by rw [iz,lE,dQ]
  rw [uM n k _ (em h0 (ay (cF n))) (eJ (cF n) (by rw [<-e];exact h1))]
  exact bH x (2 ^ n)
theorem pB (n:Nat):∀k (x:Int),∀d∈iT n k x,0<=d/\d < 2 ^ n
 | 0,_,d,h=>by cases h
 | k + 1,x,d,h=>by
  rcases List.mem_cons.mp h with rfl | h
  .exact ⟨ca _ (bx (cF n)),bA _ (cF n)⟩
  .exact pB n k _ d h
theorem sQ {n B:Nat}:∀{ns:List Int},(∀d∈ns,0<=d/\d < 2 ^ B)->0<=dW n ns/\dW n ns < 2 ^ (B + (n + 1) * ns.length)
 | [],_=>⟨ee _,by simp [dW];exact cF B⟩
 | a :: r,h=>by
  have ⟨i1,i2⟩:=sQ (n:=n) (ns:=r) λd hd=>h d (.tail _ hd)
  have ⟨a1,a2⟩:=h a (.head _)
  simp only [dW,aM]
  have p1:0<=2 ^ n * dW n r:=fA (ay (cF n)) i1
  refine ⟨JR a1 p1,?_⟩
  have e:(2:Int) ^ (B + (n + 1) * (r.length + 1))=2 * (2 ^ n * 2 ^ (B + (n + 1) * r.length)):=by
   rw [<-dQ]
   have:B + (n + 1) * (r.length + 1)=(n + (B + (n + 1) * r.length)) + 1:=by rw [iz];exact ar ((qN (.l (.a Y0 (.a Y1 (.w (.a Y2 J1) 1))) (.a (.a Y2 (.a Y0 Y1)) J1)) []:dL [])) ((qN (aR (.a Y0 (.a Y1 Y2)) (.a Y1 (.a Y2 (.w (.a Y0 J1) 1)))) []:dL []))
   rw [this,nG,aX]
  have p2:2 ^ n * dW n r < 2 ^ n * 2 ^ (B + (n + 1) * r.length):=Int.mul_lt_mul_of_pos_left i2 (cF n)
  have p3:(2:Int) ^ B<=2 ^ n * 2 ^ (B + (n + 1) * r.length):=by
   rw [<-dQ]
   exact mS ((qN (.l Y0 (.a Y1 (.a Y0 Y2))) []:dL []))
  exact (qN (cK (.a I0 I4) I2) [1,0,1,1,1]:uj [cK I0 I1,.E I2 (.m 2 I3),cK I4 I3,.L I1 I3]) a2 e p2 p3
theorem bF {x:Int}(h0:0<=x)(h:x < 2 ^ m):intBits x<=m:=by
 refine intBits_le_iff.mpr ?_
 have:((x.natAbs:Nat):Int) < ((2 ^ m:Nat):Int):=by push_cast;exact (qP Y0 I0 (qN (cK (.c Y0) I1) [0,1,0,1]) (qN (cK (.c Y0) I1) [0,1,0,1,2]):Fr [cK I0 I1,.L J0 I0]) h h0
 exact Int.ofNat_lt.mp this
theorem gP {x:Int}(h0:0<=x)(h:intBits x<=m):x < 2 ^ m:=by
 have h1:=Int.ofNat_lt.mpr (intBits_le_iff.mp h)
 push_cast at h1
 exact (qP Y0 I1 (qN (cK I1 I0) [0,0,1,1]) (qN (cK I1 I0) [1,0,0,1]):Fr [cK (.c Y0) I0]) h1
theorem BZ {x:Int}(h:0 < x):0 < intBits x/\2 ^ (intBits x - 1)<=x/\x < 2 ^ intBits x:=by
 have h1:0 < intBits x:=sF λq=>by
  have:=gP (ay h) (dw q)
  simp at this;exact (qF [1,1]:oZ [cK J0 I0,cK I0 J1]) h this
 refine ⟨h1,?_,gP (ay h) (ae _)⟩
 apply Ab.mp
 intro q
 have:=bF (ay h) q
 exact (qB Y1 Y0 J1 (qF [0,1,0,1]) (qF [0,1,0,1,1]):cz [.l Y0 Y1,aR J0 Y0]) this h1
theorem w7 (k:Nat):((2:Int) ^ k).toNat=2 ^ k:=by
 have:((2:Int) ^ k)=((2 ^ k:Nat):Int):=by push_cast;rfl
 rw [this,aB]
theorem Ff {x y:Int}(hx:0<=x)(hy:0<=y):iy x y=((x.toNat&&& y.toNat:Nat):Int):=by
 unfold iy
 rw [decide_eq_true hx,decide_eq_true hy]
theorem HV {x y:Int}(hx:0<=x)(hy:0<=y):i7 x y=((x.toNat||| y.toNat:Nat):Int):=by
 unfold i7 iy Builtin.bitNot
 have h1:decide (0<=-x - 1)=false:=decide_eq_false (Int.not_le.mpr (Mm hx))
 have h2:decide (0<=-y - 1)=false:=decide_eq_false (Int.not_le.mpr (Mm hy))
 rw [h1,h2]
 simp only []
 have e1:-(-x - 1) - 1=x:=au (Mt) (Ms)
 have e2:-(-y - 1) - 1=y:=au (Mt) (Ms)
 rw [e1,e2]
 exact au ((qN (.L (.s (.n (.s (.n (.c Y0)) J1)) J1) (.c Y0)) []:di [])) ((qN (.L (.c Y0) (.s (.n (.s (.n (.c Y0)) J1)) J1)) []:di []))
theorem wf {x:Int}(hx:0<=x):iy x (2 ^ k - 1)=x % 2 ^ k:=by
 have hp:=cF k
 rw [Ff hx (Jd hp)]
 have e:((2:Int) ^ k - 1).toNat=2 ^ k - 1:=by
  have:((2:Int) ^ k)=((2 ^ k:Nat):Int):=by push_cast;rfl
  rw [this];exact ar ((qK Y0 (.s (.c Y2) J1) (qA Y1 Y2 J1 (qN (.l Y0 Y1) [0,1,0,1])) (qN (.l Y0 Y1) [0,1]):dL [])) ((qK Y1 (.s (.c Y2) J1) (qB Y0 Y2 J1 (qN (.l Y0 Y1) [0,1,0,0,0,1]) (qN (.l Y0 Y1) [0,1])) (qB Y0 Y2 J1 (qN (.l Y0 Y1) [0,1,0,1]) (qN (.l Y0 Y1) [0,1])):dL []))
 rw [e,Nat.and_two_pow_sub_one_eq_mod]
 push_cast
 rw [bN hx]
theorem yO {x y:Int}(hx:0<=x)(hy:0<=y)(h:y < 2 ^ k):i7 (x * 2 ^ k) y=x * 2 ^ k + y:=by
 have hp:=cF k
 rw [HV (fA hx (ay hp)) hy]
 have e:(x * 2 ^ k).toNat=x.toNat <<< k:=by
  rw [Nat.shiftLeft_eq,Int.toNat_mul hx (ay hp),w7]
 have hl:y.toNat < 2 ^ k:=by
  have:=w7 k
  exact (qK Y2 I0 (qL Y0 I1 (qN (aR Y2 Y1) [1,0,1,0,1,1])) (qL Y0 I1 (qN (aR Y2 Y1) [1,0,1,0,0,1,0,1])):qT [_,_,_] [_,_] [cK I0 I1,.e Y0 Y1,cK J0 I1] _) h this hp
 rw [e,<-Nat.shiftLeft_add_eq_or_of_lt hl,Nat.shiftLeft_eq]
 push_cast
 rw [bN hx,bN hy]
theorem Hn {x:Int}(hx:0<=x):Builtin.bitXor x (x / 2 ^ k * 2 ^ k)=x % 2 ^ k:=by
 have hp:=cF k
 have hq:0<=x / 2 ^ k:=em hx (ay hp)
 have hy:0<=x / 2 ^ k * 2 ^ k:=fA hq (ay hp)
 have hm:=bH x (2 ^ k)
 have hm0:=ca x (bx hp)
 have hm1:=bA x hp
 rw [bitXor_and]
 have ha:iy x (x / 2 ^ k * 2 ^ k)=x / 2 ^ k * 2 ^ k:=by
  have e:=yO (k:=k) hq hm0 hm1
  have ex:i7 (x / 2 ^ k * 2 ^ k) (x % 2 ^ k)=x:=by rw [e,aX];exact au (BC hm) (BD hm)
  rw [HV hy hm0] at ex
  have ex':(x / 2 ^ k * 2 ^ k).toNat||| (x % 2 ^ k).toNat=x.toNat:=ar ((qL Y1 I0 (qN (.l Y0 Y1) [1,1]):qT [_,_] [_] [.E (.c Y0) I0] _) ex) ((qK Y1 I0 (qN (.l Y1 Y0) [0,1,0,0,1]) (qN (.l Y1 Y0) [0,1]):qT [_,_] [_] [.E (.c Y0) I0] _) ex)
  rw [Ff hx hy,<-ex']
  have:∀a b:Nat,(a||| b)&&& a=a:=λa b=>Nat.eq_of_testBit_eq λi=>by
   rw [Nat.testBit_and,Nat.testBit_or];cases a.testBit i<;>simp
  rw [this]
  exact bN hy
 rw [ha]
 have:x / 2 ^ k * 2 ^ k=2 ^ k * (x / 2 ^ k):=aX _ _
 exact au ((qN (.L (.s (.a I2 I3) (.m 2 I3)) I0) [0,1,0,1]:lJ [.E (.a I0 I1) I2,.E I3 I1]) hm this) ((qN (.L I0 (.s (.a I2 I3) (.m 2 I3))) [1,0,1]:lJ [.E (.a I0 I1) I2,.E I3 I1]) hm this)
theorem rP (x:Int)(n:Nat):x.fdiv (2 ^ n)=x / 2 ^ n:=bY _ (ay (cF n))
theorem cH (he:jC W A env ρ e d' P)(hs:env.scope=sc)(hx:oA sc (cm ρ) x=true)(hn:kr e=true)(hd:d'=d)(hP:AllP P)(h:Blk W A env (.bind x d ρ) L rest Kn Pr):Blk W A env ρ L (.Assign [.Name x p'] e p :: rest) Kn Pr:=by
 subst hd;exact bW he hs hx hn hP h
theorem cX (he:jC W A env ρ e d' P)(hd:d'=d)(hP:AllP P)(h:Pr d L):Blk W A env ρ L (.Return (some e) p :: rest) Kn Pr:=by
 subst hd;exact ji he hP h
inductive EvAllL (W:Wd)(A:Around)(env:Env)(ρ:Rho)(L:ww):List Expr->List D->Prop
 | nil:EvAllL W A env ρ L [] []
 | cons {e':Expr}{es':List Expr}{d':D}{ds':List D}:fN e'=true->Oc W A env ρ L e' d'->EvAllL W A env ρ L es' ds'->EvAllL W A env ρ L (e' :: es') (d' :: ds')
theorem Bo (h:EvAllL W A env ρ L es ds):(backTo pos (starEach es env)).any (·.1)=false:=by
 induction h with
 | nil=>rfl
 | cons h1 _ _ ih=>rw [ct (aJ h1)];exact ih
theorem vB (h:EvAllL W A env ρ L es ds):∀g s,Fra W g s env ρ->Ok W g s->LayOk W env g s L->∀(Q:List Value->Shared->Prop) (E:Value->Shared->Prop),
  (∀vs g' s',Ext W g s g' s'->RepAll W g' vs ds->Q vs s')->wpAny (model W.prog W.w) A (spliced (backTo pos (starEach es env))) Q E s:=by
 induction h with
 | nil=>intro g s F k l Q E hQ;exact eV (hQ [] g s (Ext.refl k) .nil)
 | cons h1 h2 _ ih=>
  intro g s F k l Q E hQ
  rw [ct (aJ h1)]
  refine ci ?_
  show wpAny _ _ (if false=true then _ else eval _ env) _ _ _
  exact h2 g s F k l _ _ λv g1 s1 x1 r1=>ih g1 s1 (F.ext x1) x1.ok (l.ext x1) _ _ λvs g2 s2 x2 r2=>hQ (v :: vs) g2 s2 (x1.trans x2) (.cons (r1.mono x2.le) r2)
theorem Lu {f:Value}(h:EvAllL W A env ρ L es ds):∀g s,Fra W g s env ρ->Ok W g s->LayOk W env g s L->
  ∀(Q:Args->Shared->Prop) (E:Value->Shared->Prop),(∀vs g' s',Ext W g s g' s'->RepAll W g' vs ds->Q ⟨vs,[]⟩ s')->
  wpAny (model W.prog W.w) A (evalArgs f true (backTo pos (starEach es env)) (backToKw pos (keywordEach [] env))) Q E s:=by
 intro g s F k l Q E hQ
 cases h with
 | nil=>exact evalArgs_kw_nil rfl (mK (hQ [] g s (Ext.refl k) .nil))
 | cons h1 h2 h3=>
  have hsp:=vB (pos:=pos) (EvAllL.cons h1 h2 h3) g s F k l
  rw [ct (aJ h1)] at hsp ⊢
  refine evalArgs_kw rfl ?_
  exact hsp _ _ λvs g1 s1 x1 r1=>mK (hQ vs g1 s1 x1 r1)
theorem DG (hs:env.scope.kind=.function)(hf:aQ W A env ρ (.Name x q) f)(h:EvAllL W A env ρ L es ds)(hkp:cJ W f)(hc:CallL W A f ds [] L .none L')(hL:L'.map (·.1)=L.map (·.1))(hr:Blk W A env ρ L' rest Kn Pr):Blk W A env ρ L (.Expr (.Call (.Name x q) es [] pos) p :: rest) Kn Pr:=
 fh (λa h=>hL▸h) (λg s F k l Q E hQ=>Cr (by
  refine lI (hf g s F k _ _ λv g1 s1 x1 r1=>?_)
  refine Ah (P:=λh'=>∃g' s',s'.heap=h'/\Ok W g' s'/\Rep W g' v f) (by rw [Bo h];rfl) (λh' zq0=>bP zq0 λg' s' e k' r'=>e▸hkp g' s' v k' r') ?_
  exact Lu h g1 s1 (F.ext x1) x1.ok (l.ext x1) _ _ λvs g2 s2 x2 r2=>⟨⟨g2,s2,rfl,x2.ok,r1.mono x2.le⟩,
   hc g2 s2 v vs [] x2.ok ((l.at.ext x1).ext x2) (r1.mono x2.le) r2 rfl .nil _ _ λv g3 s3 x3 l3 r3=>by
   obtain rfl:=r3.inv
   have hoff:iv env (·∈L.map (·.1)):=dU λa ho hm=>by apply aA (Cj.mp hm);intro p hp hq0;subst hq0;exact l.own p hp ho
   exact hQ g3 s3 ((x1.trans x2).toM.trans (x3.mono λa h=>.inr h)) (((F.ext x1).ext x2).extM x3 hoff) ⟨l3.acc,l3.nd,λp hp ho=>by
    have:p.1∈L.map (·.1):=hL▸Cj.mpr ⟨p,hp,rfl⟩
    apply aA (Cj.mp this);intro p' hp' e
    exact l.own p' hp' (e▸ho)⟩⟩) (by unfold interactive;rw [hs];rfl) rfl) hr
theorem xJ {vs:Array Value}{ds:List D}(r:RepAll W g vs.toList ds):∀(n:Nat) (acc:Array Value) (da:List D),RepAll W g acc.toList da->RepAll W g (yo (λx1 x2=>x1++x2) acc (bE n vs)).toList (da++(bE n ds).flatten)
 | 0,acc,da,h=>by simpa using h
 | n + 1,acc,da,h=>by
  simp only [G0,eU,lA,<-dI]
  exact xJ r n _ _ (by simpa using h.append r)
theorem xo {vs:Array Value}(r:RepAll W g vs.toList ds)(n:Nat):RepAll W g (yo (λx1 x2=>x1++x2) #[] (bE (if vs.isEmpty=true then 0 else n) vs)).toList (bE n ds).flatten:=by
 have hl:=r.length
 cases hv:vs.isEmpty with
 | true=>
  have:ds=[]:=by
   have h0:vs.size=0:=by simpa [pR] using hv
   rw [aE,h0] at hl
   exact List.length_eq_zero_iff.mp hl.symm
  subst this
  have e:(bE n ([]:List D)).flatten=[]:=by simp
  rw [e]
  simpa using RepAll.nil
 | false=>
  have:=xJ r n #[] [] .nil
  simpa using this
theorem Ow {b:Addr}{k:Int}(hl:s.heap.get? b=some (mW items m))(hlo:-(2 ^ 63:Int)<=k)(hhi:k < 2 ^ 63)(hsz:items.size * k.toNat<=2 ^ 24)(h:Q (.ref s.heap.objs.size) {s with heap:=s.heap.push (mW (yo (λx1 x2=>x1++x2) #[] (bE (if items.isEmpty=true then 0 else k.toNat) items)) 0) }):
  wpAny (model W.prog W.w) A (binaryOp .Mult (.ref b) (.int k u)) Q E s:=
 wpAny_binaryOp_repeat_ref (T:="list") (U:="int") (by decide) ⟨_,hl,rfl⟩ (λs'=>typeIs_int s' k u) noFill_list_mul F.fills_int_mul F.slot_int_rmul repeat_list F.slot_int_index.lookup
  (gU F.slot_int_rmul (typeIs_int s k u) F.entry_int_rmul (F.args_int_rmul_2 _ _) (int___rmul___int_list k u b items m)
   ⟨hl,rfl,⟨_,hl,rfl⟩,gU F.slot_list_mul ⟨_,hl,rfl⟩ F.entry_list_mul (F.args_list_mul_2 _ _)
    (AutoListH.list___mul___list_int_3 b items m k u (by simp [fJ];exact ⟨(qN (.L (.n pQ) I0) [1]:oZ [.L (.n pQ) I0]) hlo,JM hhi⟩) (by lia) (by simp [Builtin.List.listTooLong,sizeLine];exact hsz))
    ⟨hl,h⟩⟩)
theorem FY {l:Expr}{k:Int}(h1:jC W A env ρ l (.list ds) P1)(h2:jC W A env ρ r (.int k) P2)(hP:AllP (P1++P2))(hlo:-(2 ^ 63:Int)<=k)(hhi:k < 2 ^ 63)(hsz:ds.length * k.toNat<=2 ^ 24):oU W A env ρ (.BinOp l .Mult r p) (.list (bE k.toNat ds).flatten):=λg s F k Q E hQ=>
 rK (h1 hP.l g s F k _ _ λ_ g1 s1 x1 r1=>h2 hP.r g1 s1 (F.ext x1) x1.ok _ _ λ_ g2 s2 x2 r2=>by
  apply aV ((r1.mono x2.le).inv_list);intro b vs m hq0 h3 h4;subst hq0
  obtain ⟨_,rfl⟩:=r2.inv
  have hvs:vs.size=ds.length:=by rw [<-h4.length,aE]
  refine Ow (x2.ok.sub _ _ h3) hlo hhi (by rw [hvs];exact hsz) ?_
  exact hQ _ g2 _ ((x1.trans x2).trans (Ext.pushHid x2.ok _)) ⟨⟨_,⟨Heap.get?_push_size _ rfl,rfl,x2.ok.fresh (ae _)⟩,⟨_,_,rfl,xo h4 _⟩⟩,x2.ok.sysLt (ae _)⟩ ((x1.trans x2).size (ae _)))
theorem Bn {l:Expr}{k:Int}(h1:jC W A env ρ l (.list ds) P1)(h2:jC W A env ρ r (.int k) P2)(hlo:-(2 ^ 63:Int)<=k)(hhi:k < 2 ^ 63)(hsz:ds.length * k.toNat<=2 ^ 24):jC W A env ρ (.BinOp l .Mult r p) (.list (bE k.toNat ds).flatten) (P1++P2):=λhP g s F kk Q E hQ=>
 rK (h1 hP.l g s F kk _ _ λ_ g1 s1 x1 r1=>h2 hP.r g1 s1 (F.ext x1) x1.ok _ _ λ_ g2 s2 x2 r2=>by
  apply aV ((r1.mono x2.le).inv_list);intro b vs m hq0 h3 h4;subst hq0
  obtain ⟨_,rfl⟩:=r2.inv
  have hvs:vs.size=ds.length:=by rw [<-h4.length,aE]
  refine Ow (x2.ok.sub _ _ h3) hlo hhi (by rw [hvs];exact hsz) ?_
  have x3:=Ext.push x2.ok (mW (yo (λx1 x2=>x1++x2) #[] (bE (if vs.isEmpty=true then 0 else k.toNat) vs)) 0) rfl
  exact hQ _ _ _ ((x1.trans x2).trans x3) (.list (cW _ _ _) ((xo h4 _).mono x3.le)))
theorem vR:∀{names:List (Str×NameKind)} {acc cl:List (Str×Addr)},BL env names acc=some cl->∀n c,cl.lookup n=some c->acc.lookup n=some c\/(n,cb)∈names
 | [],acc,cl,h,n,c,e=>by simp only [BL,cj] at h;subst h;exact .inl e
 | (m,k) :: r,acc,cl,h,n,c,e=>by
  unfold BL at h
  by_cases hk:(k==.free)=true
  .rw [if_pos hk] at h
   apply aA (Option.bind_eq_some_iff.mp h);intro c' hc h'
   rcases vR h' n c e with q | q
   .rw [aT] at q
    by_cases hb:n==m
    .have e1:n=m:=by simpa using hb
     have e2:k=.free:=by simpa using hk
     rw [e1,e2];exact .inr (.head _)
    .simp only [hb] at q;exact .inl q
   .exact .inr (.tail _ q)
  .rw [if_neg hk] at h
   rcases vR h n c e with q | q
   .exact .inl q
   .exact .inr (.tail _ q)
noncomputable def zP (sc esc:Scope):Bool:=sc.names.all λp=>p.2 !=.free||(esc.names.lookup p.1==some .cell&&sc.names.lookup p.1==some .free)
theorem xT {v u:Option Value}(h1:h.IsCell c v)(h2:h.IsCell c u):v=u:=by
 apply aA (h1);intro o e1 e2
 apply aA (h2);intro o' e3 e4
 rw [e1] at e3;(refine eQ e3 ?_;clear e3;intro q₁;subst q₁)
 rw [e2] at e4;cases e4
 rfl
theorem kA {esc:Scope}(B:Based W W' env ρ g s)(hs:env.scope=esc)(hc:zP sc esc=true)(hcl:fd.closure=vT env sc)(hsc:fd.scope=sc)(hz:cm ρc=true)(hv:∀x d,look ρc x=some d->sc.names.lookup x=some .free/\∃c v,env.cells.lookup x=some c/\s.heap.IsCell c (some v)/\∀g',(∀a o,W'.h₀.get? a=some o->g'.obj a=some o)->Rep W' g' v d):
  ∀g' s',Ok W' g' s'->CloOk W' g' s' fd ρc:=by
 have hfree:∀n,(n,cb)∈sc.names->env.kindOf n=some .cell/\sc.names.lookup n=some .free:=λn hn=>by
  have q:=ft.mp hc _ hn
  simp only [ei,bne_iff_ne,ne_eq,not_true_eq_false,false_or,ao,beq_iff_eq] at q
  exact ⟨by unfold bj;rw [hs];exact q.1,q.2⟩
 obtain ⟨cl,hcl'⟩:=j0 (env:=env) (names:=sc.names) (acc:=[]) λn hn=>by
  apply fo (B.fra.cel n (.inl (hfree n hn).1));intro c cv e _
  rw [e];rfl
 have e0:fd.closure=cl:=by rw [hcl];unfold vT;rw [hcl'];rfl
 have hx0:=nu hcl' (λn c e=>(aK e).elim);have c1:=hx0.1;have c2:=hx0.2
 have c3:∀n c,cl.lookup n=some c->env.kindOf n=some .cell/\env.cells.lookup n=some c:=λn c e=>by
  rcases vR hcl' n c e with q | q
  .exact (aK q).elim
  .exact ⟨(hfree n q).1,c1 n c e⟩
 intro g' s' k'
 have toHeap:∀{c:Addr} {v:Option Value} {n:Str},env.kindOf n=some .cell->env.cells.lookup n=some c->s.heap.IsCell c v->s'.heap.IsCell c v:=λ{c v n} hk he zq0=>aA zq0 λo e1 e2=>by
  apply aA (B.cel n c hk he);intro o' h1 h2
  rw [e1] at h1;(refine eQ h1 ?_;clear h1;intro q₁;subst q₁)
  exact ⟨o,k'.baseHeap _ _ h2,e2⟩
 refine ⟨λx c e=>?_,λx y c h1 h2=>?_,λx e=>?_,λx d e=>by rw [hsc];exact (hv x d e).1⟩
 .rw [e0] at e
  have hx0:=c3 x c e;have h1:=hx0.1;have h2:=hx0.2
  have hx0:=B.fra.liv x c h2;have hn0:=hx0.1;obtain ⟨v,hcv⟩:=hn0
  exact ⟨⟨v,toHeap h1 h2 hcv⟩,λq=>by rw [hz] at q;exact (ag q.symm).elim⟩
 .rw [e0] at h1 h2
  exact B.fra.inj x y c (c3 x c h1).2 (c3 y c h2).2
 .rw [hsc] at e
  have hm:=mem_of_lookup e
  obtain ⟨c,hcc⟩:=Option.isSome_iff_exists.mp (c2 x (.inr hm))
  have hx0:=c3 x c hcc;have h1:=hx0.1;have h2:=hx0.2
  apply bP (B.fra.cel x (.inl h1));intro c' cv h3 h4 _
  rw [h2] at h3;(refine eQ h3 ?_;clear h3;intro q₁;subst q₁)
  refine ⟨c,cv,by rw [e0];exact hcc,toHeap h1 h2 h4,λd hd=>?_⟩
  apply qO (hv x d hd);intro _ c' v h5 h6 h7
  rw [h2] at h5;(refine eQ h5 ?_;clear h5;intro q₁;subst q₁)
  exact ⟨v,xT h4 h6,h7 g' k'.base⟩
noncomputable def tabsK:List (Addr×Addr×Str):=[(70,66,"_int2digits.<locals>.inner"),(77,73,"_digits2int.<locals>.inner"),(155,153,"_law_levels.<locals>.<lambda>"),(174,172,"law.<locals>.<lambda>")]
noncomputable def K5 (P:Addr)(n:Nat):Bool:=P !=172||dz n 309
structure Good (W:Wd):Prop where
 prg:jv W
 tabs:W.tabs=tabsK
 may:W.may=K5
theorem kC {a:Nat}(K:FnK a k x dV kV pm c)(G:Good W)(hb:yr W (kT k x dV kV pm c) names ds ds' kws)(R:Room A (n + 1))(body:∀env,env.scope=bh k->(A.deeper env).handled=none->(A.deeper env).units + 100 < cLine->kS W gl->Room (A.deeper env) n->env.code=.ref c->env.qual=x++".<locals>."->fB W (A.deeper env) env (dc names ds' .nil) [] (aH k) d [])(hok:pT (kT k x dV kV pm c) names=true:=by kernel_rfl)(hl:names.length=ds'.length:=by exact rfl):bz W A (.ref a) ds kws d:=
 (fw K G.prg hok hb hl R.dep λenv e1 e2 e3=>body env e1 R.deeper.handled R.deeper.u100 (eX G.prg) R.deeper e2 e3).toTo
theorem Based.good (B:Based W W' env ρ g s)(G:Good W):Good W':=⟨λa o e=>B.le a o (G.prg a o (by rw [<-B.w];exact e)),by rw [B.tabs];exact G.tabs,by rw [B.may];exact G.may⟩
theorem sO (hobj:∀a o,g.obj a=some o->g'.obj a=some o)(r:Rep W g v (.list (ns.map .int))):Rep W' g' v (.list (ns.map .int)):=by
 apply aV (r.inv_list);intro a vs n hq0 h1 h2;subst hq0
 have:∀{vs:List Value} {ns:List Int},RepAll W g vs (ns.map .int)->RepAll W' g' vs (ns.map .int):=by
  intro vs
  induction vs with
  | nil=>
   intro ns h
   cases ns with
   | nil=>exact .nil
   | cons n ns=>cases h
  | cons v vs ih=>
   intro ns h
   cases ns with
   | nil=>cases h
   | cons n ns=>cases h with | cons a b=>obtain ⟨_,rfl⟩:=a.inv;exact .cons (.int _ _) (ih b)
 exact .list (hobj _ _ h1) (this h2)
variable {np:Pos}{nid iid:String}
theorem AI {N I:String}(hC:ExcCallFacts X nid iid){Q:Flow->Shared->Prop}(hh:A.handled=none)(hc:ExcClass X N I)(hself:isSubtype (.type X) (.type X)=pure true)(hx:wpAny (model prog w) A (eval (.Name x np) env) (λv s₁=>v=.type X/\s₁=s) E s)(h:∀h' e,Cl s.heap h' e X []->E (.ref e) {s with heap:=h' }):
  wpAny (model prog w) A (exec (.Raise (some (.Name x np)) none pos) env) Q E s:=by
 show wpAny (model prog w) A (do standAt pos;raiseStmt env (some (do let v <-eval (.Name x np) env;standAt pos;pure v)) none) Q E s
 refine aa (cM ?_)
 unfold raiseStmt
 dsimp only
 refine aa (aa (aI hx (λv s₁ h₁=>aa (cM (aj ?_))) λ_ _ e=>e))
 have hq0:=h₁.1;have hs:=h₁.2;subst hq0
 subst hs
 refine aa (aj ?_)
 dsimp only
 refine aa (bK ?_)
 unfold excFromValue isExcClass
 refine aa (aa (aj ?_))
 simp only [if_true]
 rw [hc.base]
 refine aj ?_
 simp only [if_true]
 obtain ⟨hp,g,d,tk,os⟩:=s₁
 refine aa (wpAny_call_exc hC (hrest:=by size_fits) λh' e hm=>?_)
 apply bT (hm.there);intro t he _ _
 have hT:(⟨h',g,d,tk,os⟩:Shared).TypeIs (.ref e) X:=⟨_,he,rfl⟩
 refine aa (oq hT hc.base ?_)
 simp only [Al,bX,if_false]
 refine aj ?_
 refine aa (m:=isType (.type X)) (aj ?_)
 rw [if_pos rfl]
 refine aa (bK ?_)
 unfold raisedFor
 rw [if_neg (by decide)]
 refine aa (wpAny_typeOf hT ?_)
 refine aa (call_issubclass (issubclass_self hc hself) ?_)
 refine aa (fi ?_)
 simp only [if_true]
 refine aj ?_
 unfold setFlight raiseNew
 refine aa (aa (bC (i:=1) (x:=ef) he rfl rfl ?_))
 rw [if_neg (by decide)]
 refine aj (aa (tT ?_))
 rw [hh]
 exact aa (aj (Ae (h h' e hm)))
structure RB (W:Wd)(A:Around)(env:Env)(l:List Env)(ρ:Rho)(body:List Stmt)(X:String)(msg:Option Str):Prop where
 run:∀g s,Fra W g s env ρ->Ok W g s->Frs g s (env :: l)->∀Q E,(∀e s2,Thrown W g s (env :: l) X msg e s2->E (.ref e) s2)->wpAny (model W.prog W.w) A (execs body env) Q E s
structure ER (W:Wd)(A:Around)(env:Env)(l:List Env)(ρ:Rho)(x:Expr)(X:String)(msg:Option Str):Prop where
 run:∀g s,Fra W g s env ρ->Ok W g s->Frs g s (env :: l)->∀Q E,(∀e s2,Thrown W g s (env :: l) X msg e s2->E (.ref e) s2)->wpAny (model W.prog W.w) A (eval x env) Q E s
structure CallX (W:Wd)(A:Around)(l:List Env)(f:D)(ds:List D)(kws:List (Str×D))(X:String)(msg:Option Str):Prop where
 run:∀g s vf vs kvs,Ok W g s->Frs g s l->Rep W g vf f->RepAll W g vs ds->kvs.map (·.1)=kws.map (·.1)->RepAll W g (kvs.map (·.2)) (kws.map (·.2))->∀Q E,(∀e s2,Out W g s l X msg e s2->E (.ref e) s2)->wpAny (model W.prog W.w) A (call vf vs kvs) Q E s
theorem Thrown.before {e:Addr}(x:Ext W g0 s0 g s)(h:Thrown W g s l X msg e s'):Thrown W g0 s0 l X msg e s':=h.elim (λh=>.inl (h.before x)) λh=>.inr (h.before x)
variable {g1:View}
theorem EC {e:Addr}{args:List Value}(x:Ext W g s g1 s1)(hm:Cl s1.heap h' e X args)(hms:yl msg args):Thrown W g s l X msg e {s1 with heap:=h' }:=
 bT hm.there λt h1 h2 h3=>
 .inl ⟨g1,s1,t,args,.none,x,hms,hm.keeps,hm.new,h1,⟨_,_,h3,rfl,rfl⟩,rfl⟩
theorem lR {gl:Str->Option D}(G:kS W gl)(hk:env.kindOf x=some .globalImplicit)(e:gl x=some (.ty X))(F:Fra W g s env ρ)(k:Ok W g s):wpAny (model W.prog W.w) A (eval (.Name x p) env) (λv s₁=>v=.type X/\s₁=s) E s:=by
 apply oP (G x _ e);intro hd v hv hr
 refine wY F.kind hk ?_ hd
 have hr:=hr g
 obtain rfl:=hr.inv
 unfold loadGlobal
 rw [F.glo,F.bui]
 refine aa (mJ k.glob ?_)
 rcases hv with hv | ⟨h1,h2⟩
 .rw [hv];exact aj ⟨rfl,rfl⟩
 .rw [h1]
  refine aa (mJ k.blt ?_)
  rw [h2];exact aj ⟨rfl,rfl⟩
theorem Ep {b:List Stmt}{o:List Stmt}(ht:gv W A env ρ t true)(h:RB W A env l ρ b X msg):RB W A env l ρ (.If t b o p :: rest) X msg:=⟨λg s F k hF Q E hE=>
 aP (wpAny_If (ht g s F k _ _ λg1 s1 x1=>h.run g1 s1 (F.ext x1) x1.ok (hF.ext x1) _ _ λe s2 th=>hE e s2 (th.before x1)))⟩
theorem KS {b:List Stmt}{o:List Stmt}(ht:gv W A env ρ t false)(h:RB W A env l ρ o X msg):RB W A env l ρ (.If t b o p :: rest) X msg:=⟨λg s F k hF Q E hE=>
 aP (wpAny_If (ht g s F k _ _ λg1 s1 x1=>h.run g1 s1 (F.ext x1) x1.ok (hF.ext x1) _ _ λe s2 th=>hE e s2 (th.before x1)))⟩
theorem Nq {x:Expr}(h:ER W A env l ρ x X msg):RB W A env l ρ (.Return (some x) p :: rest) X msg:=⟨λg s F k hF Q E hE=>aP (jn (h.run g s F k hF _ _ hE))⟩
theorem xr {x:Expr}(h:ER W A env l ρ x X msg)(hn:kr x=true):RB W A env l ρ (.Assign [.Name y q] x p :: rest) X msg:=⟨λg s F k hF Q E hE=>aP (gz (h.run g s F k hF _ _ hE) (gX hn))⟩
theorem xq {x:Expr}{cp:Pos}{m:Str}(FC:ExcCallFacts X nid iid)(FR:ExcRaiseFacts X)(hh:A.handled=none)(hx:aQ W A env ρ (.Name y np) (.ty X))(hn:fN x=true)(he:aQ W A env ρ x d)(hd:jK d=some m):
  RB W A env l ρ (.Raise (some (.Call (.Name y np) [x] [] cp)) none p :: rest) X (some m):=⟨λg s F k hF Q E hE=>
 aP (Raise_madeB FC FR hh (hx g s F k _ _ λv g1 s1 x1 r1=>⟨by obtain rfl:=r1.inv;rfl,fH (.cons (aJ hn) he .nil) g1 s1 (F.ext x1) x1.ok _ _ λvs g2 s2 x2 r2=>by
  apply r2.elim1;intro u ru
  refine ⟨ac rfl,λh' e hm=>hE e _ (EC (x1.trans x2) hm ?_)⟩
  cases d<;>simp only [jK,reduceCtorEq,cj] at hd<;>subst hd
  .obtain ⟨_,rfl⟩:=ru.inv;exact ⟨_,rfl⟩
  .apply aA (ru.inv);intro _ hq0 _;subst hq0;exact ⟨_,rfl⟩⟩) (ct (aJ hn)) rfl)⟩
theorem FH {N I:String}{gl:Str->Option D}(FC:ExcCallFacts X nid iid)(hc:ExcClass X N I)(hself:isSubtype (.type X) (.type X)=pure true)(hh:A.handled=none)(G:kS W gl)(hk:env.kindOf y=some .globalImplicit)(e:gl y=some (.ty X)):
  RB W A env l ρ (.Raise (some (.Name y np)) none p :: rest) X none:=⟨λg s F k hF Q E hE=>
 aP (AI FC hh hc hself (lR G hk e F k) λh' e hm=>hE e _ (EC (Ext.refl k) hm rfl))⟩
theorem jz (hf:aQ W A env ρ (.Name y q) f)(h:EvAll W A env ρ es ds)(hk:EvKws W A env ρ kes kws)(hkp:cJ W f)(hc:CallX W A (env :: l) f ds kws X msg):ER W A env l ρ (.Call (.Name y q) es kes p) X msg:=⟨λg s F k hF Q E hE=>
 dF hf h hk hkp F k λg2 s2 vf vs kvs x2 rf rs hkv rk=>hc.run g2 s2 vf vs kvs x2.ok (hF.ext x2) rf rs hkv rk _ _ λe s3 ho=>hE e s3 (.inr (ho.before x2))⟩
theorem nS (F:Fra W g s env ρ)(hfr:env.frame=some env.locals)(hF:Frs g s l):Frs g s (env :: l):=λenv' h=>by
 rcases List.mem_cons.mp h with rfl | h
 .apply aA (F.loc);intro m hm _
  exact ⟨F.kind,hfr,⟨m,hm⟩,F.hid⟩
 .exact hF env' h
theorem cw (hA:A.frames=some l):(A.deeper env).frames=some (env :: l):=by show A.frames.map _=_;rw [hA];rfl
theorem mf {a:Nat}(K:FnK a k x dV kV pm c)(hP:jv W)(hok:pT (kT k x dV kV pm c) names=true)(hbind:∀g s vs kvs,Ok W g s->RepAll W g vs ds->kvs.map (·.1)=kws.map (·.1)->RepAll W g (kvs.map (·.2)) (kws.map (·.2))->∃vs',(∀S,peek (Kf W.w.params) S (bindArgs (kT k x dV kV pm c) ⟨vs,kvs⟩)=some (names.zip vs'))/\RepAll W g vs' ds')(hl:names.length=ds'.length)(R:A.depth < recursionLimit)(hA:A.frames=some l)(hblk:∀env,env.scope=bh k->RB W (A.deeper env) env l (dc names ds' .nil) (aH k) X msg):CallX W A l (.ref a) ds kws X msg:=⟨λg s vf vs kvs ok hF rf rs hk rk Q E hE=>by
 obtain rfl:=rf.inv
 have hx0:=jJ hok;have h1:=hx0.1;have h2:=hx0.2.1;have h3:=hx0.2.2.1;have h4:=hx0.2.2.2.1;have h5:=hx0.2.2.2.2
 apply aA (hbind g s vs kvs ok rs hk rk);intro vs' hb rs'
 refine jg (args:=⟨vs,kvs⟩) R ok (ok.baseHeap _ _ (hP a _ (K.obj _))) rfl h1 h2 h3 ((K.codeRec hP).keeps ok.baseHeap) (wL (K:=Kf W.w.params) (λa o e=>ok.baseHeap _ _ (hP a o e)) hb) h4 h5 hl rs' λenv s1 e1 e2 e3 e4 hfr x1 F=>?_
 have hF1:=nS F e4 (hF.ext x1)
 exact (hblk env e1).run g s1 F x1.ok hF1 _ _ λe s2 th=>lV (A:=A.deeper env) x1 (bf (hfr _ (.inl rfl))) (cw hA) hF1 th λs3 ho=>hE e s3 ho⟩
noncomputable def zj (b:List Stmt):Arguments:=match b with | .FunctionDef _ a _ _ _ _ _ _ _ _ :: _=>a | _=>⟨[],[],none,[],[],none,[]⟩
noncomputable def sf (b:List Stmt):List Stmt:=match b with | .FunctionDef _ _ b _ _ _ _ _ _ _ :: _=>b | _=>[]
noncomputable def t0 (b:List Stmt):Scope:=match b with | .FunctionDef _ _ _ _ _ _ sc _ _ _ :: _=>sc | _=>rw0.row.prog.main.scope
structure IsClo (W:Wd)(f:Addr)(fd:FuncData)(cl:List (Str×Addr))(args:Arguments)(body:FuncBody)(sc:Scope):Prop where
 obj:∃o,W.h₀.get? f=some o/\o.data=.func fd
 code:W.h₀.CodeRec fd.code fd.qualname
 params:fd.params=args
 body:fd.body=body
 scope:fd.scope=sc
 closure:fd.closure=cl
 glob:fd.globals=mainGlobals
 bui:fd.builtins=builtinsNs
 dfl:fd.defaults=.none
 kwd:fd.kwdefaults=.none
theorem IsClo.of (hobj:∀a o,g.obj a=some o->W'.h₀.get? a=some o)(r:Rep W g v (.lam cl args fb sc)):∃f fd,v=.ref f/\IsClo W' f fd cl args fb sc:=by
 refine r.lamE λh1 h2 h3 h4 h5 h6 h7 h8 h9 h10 h11 h12 h13=>?_
 exact ⟨_,_,rfl,⟨_,hobj _ _ h1,h2⟩,by rw [h7,h9];exact h8.code hobj,h3,h4,h5,h6,h10,h11,h12,h13⟩
theorem IsClo.keep {f:Addr}(C:IsClo W f fd cl args fb sc):cJ W (.ref f):=aA C.obj λo h1 h2=>pi h1 h2
noncomputable def Ev (sc:Scope)(names:List Str):Bool:=sc.kind==.function&&!sc.isCoroutine&&!sc.isGenerator&&(sc.names.all λy=>y.2 !=.cell)&&decide names.Nodup&&(names.all λx=>sc.names.lookup x==some .local)&&sc.names.lookup ("__classdict__":Str) !=some .free&&sc.names.lookup ("script":Str) !=some .local
noncomputable def Kr (args:Arguments)(names:List Str):Prop:=∀fd:FuncData,fd.params=args->fd.defaults=.none->fd.kwdefaults=.none->∀vs:List Value,vs.length=names.length->bindArgs fd ⟨vs,[]⟩=pure (names.zip vs)
theorem kB {f:Addr}(C:IsClo W f fd cl args (.stmts body) sc)(hT:Kr args names)(hsc:Ev sc names=true)(hC:∀g s,Ok W g s->CloOk W g s fd ρc)(hl:names.length=ds.length)(R:A.depth < recursionLimit)(hblk:∀env,env.scope=sc->fB W (A.deeper env) env (dc names ds ρc) L body d L'):CallL W A (.ref f) ds [] L d L':=by
 apply aA (C.obj);intro o h1 h2
 have hh:=hsc
 unfold Ev at hh
 simp only [ao,beq_iff_eq,dm,ft,bne_iff_ne,ne_eq,decide_eq_true_eq] at hh
 have hn0:=hh.1;have q8:=hh.2;obtain ⟨⟨⟨⟨⟨⟨q1,q2⟩,q3⟩,q4⟩,q5⟩,q6⟩,q7⟩:=hn0
 have hesc:∀v s,¬W.esc fd.scope v s:=λv _ e=>q8 (C.scope▸W.escLaw _ _ _ e)
 have e:=C.scope
 subst e
 exact GF h1 h2 C.code ⟨q1,q2,q3,C.glob,C.bui,q7⟩ (λy hy=>q4 y hy) C.body q5 (λx hx=>q6 x hx) hC (λs vs hvs=>wZ (hT fd C.params C.dfl C.kwd vs hvs)) hl R
  λenv e1 _ g s F k l Q E hQ=>rg (hblk env e1) F k l (e1▸hesc) hQ
noncomputable def CK (ns:List Int)(l r:Nat):List Int:=(ns.drop l).take (r - l)
theorem FB (ns:List Int){l r:Nat}(h1:l<=m)(h2:m<=r):CK ns l r=CK ns l m++CK ns m r:=by
 unfold CK
 have e:r - l=(m - l) + (r - m):=ar (N2) ((qB Y5 Y1 Y2 (qB Y3 Y0 Y2 (qB Y4 Y1 Y0 (qN (.l (.a Y3 Y4) Y5) [0,1,0,0,1,0,0,0,1]) (qN (.l (.a Y3 Y4) Y5) [0,1,0,0,1,0,0,0,1,1])) (qB Y4 Y1 Y0 (qN (.l (.a Y3 Y4) Y5) [0,1,0,0,1,0,0,0,1,0,1]) (qN (.l (.a Y3 Y4) Y5) [0,1,0,0,1]))) (qB Y3 Y0 Y2 (qB Y4 Y1 Y0 (qN (.l (.a Y3 Y4) Y5) [0,1,0,0,1,0,1]) (qN (.l (.a Y3 Y4) Y5) [0,1,0,0,1,0,1,0,0,1])) (qB Y4 Y1 Y0 (qN (.l (.a Y3 Y4) Y5) [0,1,0,0,1,0,1,0,0,0,1]) (qN (.l (.a Y3 Y4) Y5) [0,1,0,0,1]))):yy [.l Y0 Y1,.l Y2 Y0]) h2 h1)
 rw [e,List.take_add,iH]
 congr 3
 exact ar (MM h1) (Jn)
theorem ux {l r:Nat}(h:r<=ns.length):(CK ns l r).length=r - l:=by unfold CK;simp;exact ar ((qE Y0 Y1 Y2 (qN (.l Y0 Y1) [1]):qT [_,_,ns.length - l] [] [] _)) ((qB Y2 Y0 Y4 (qB Y5 Y1 Y4 (qC Y3 Y2 Y5 (qN (.l Y2 Y3) [0,0,1]) (qN (.l Y2 Y3) [0,0,1,0,0,1,0,1,0,1])) (qN (.l Y2 Y3) [1,0,0,0,1,0,1])) (qN (.l Y2 Y3) [0,1]):qT [_,_,_,_,l,ns.length - l] [] [.l Y0 Y1] _) h)
theorem El {l:Nat}(h:l < ns.length):CK ns l (l + 1)=[mt ns l]:=by
 unfold CK mt
 rw [dy,Aa h,GZ,List.take_zero,List.getD_eq_getElem?_getD,List.getElem?_eq_getElem h]
 rfl
theorem KM {l r:Nat}{d:Int}(h:d∈CK ns l r):d∈ns:=gr (oS h)
noncomputable def Dt:List Stmt:=aH 10
theorem LT {l:List α}(h:l.length=2):∃a b,l=[a,b]:=by
 obtain _ | ⟨a,_ | ⟨b,_ | ⟨c,l⟩⟩⟩:=l
 .cases h
 .cases h
 .exact ⟨_,_,rfl⟩
 .cases h
theorem Oz {l:List α}(h:l.length=3):∃a b c,l=[a,b,c]:=by
 obtain _ | ⟨a,l⟩:=l
 .cases h
 .apply tJ (LT (Nat.succ.inj h));intro b c hq0;subst hq0
  exact ⟨_,_,_,rfl⟩
theorem w9:Kr (zj Dt) ["L","R"]:=λfd h1 h2 h3 vs hv=>by
 apply tJ (LT hv);intro a b hq0;subst hq0
 obtain ⟨⟩:=fd
 simp only at h1 h2 h3
 subst h1 h2 h3
 rfl
theorem LW (l r:Nat):((l:Int) + (r:Int)).fdiv (2 ^ (1:Int).toNat)=(((l + r) / 2:Nat):Int):=m6 l r
theorem Ge {f:Addr}{B:Nat}(G:Good W)(C:IsClo W f fd cl (zj Dt) (.stmts (sf Dt)) (t0 Dt))(hC:∀g s,Ok W g s->CloOk W g s fd (.froz (dc ["digits","inner","n"] [.list (ns.map .int),.ref f,.int n] .nil)))(hB:∀d∈ns,0<=d/\d < 2 ^ B)(hsz:B + (n + 1) * ns.length + n * ns.length<=2 ^ 26)(hlen:ns.length < 2 ^ 25):
  ∀(m:Nat) (A:Around) (l r:Nat),Room A (m + 1)->l < r->r<=ns.length->r - l<=2 ^ m->bz W A (.ref f) [.int l,.int r] [] (.int (dW n (CK ns l r))):=by
 intro m
 induction m with
 | zero=>
  intro A l r Rm hlr hr hm
  have e:r=l + 1:=by simp at hm;exact ar (JK hm) (qW hlr)
  subst e
  refine (kB C w9 (by kernel_rfl) hC rfl Rm.dep λenv hs0=>?_).toTo
  have Rd:=Room.deeper (env:=env) (k:=0) Rm
  have hh:=Rd.handled
  have hu:(A.deeper env).units + 100 < cLine:=Rd.u100
  have Gl:=eX G.prg
  have hs:=hs0
  conv at hs=>rhs;whnf
  have C:=Cx.mk hs ‹_› ‹_› ‹_›
  clear hs0
  conv in sf Dt=>whnf
  apply df;exact dg;exact trivial
  .intro _
   apply cX;(apply l9;exact ak;exact ak;exact tV (aw hlr hr));rfl;exact ⟨ax _,Me hlen hr,trivial⟩
   exact ⟨by rw [El (aw hlr hr)];simp [dW],rfl⟩
  .intro h;simp at h
 | succ m ih=>
  intro A l r Rm hlr hr hm
  refine (kB C w9 (by kernel_rfl) hC rfl Rm.dep λenv hs0=>?_).toTo
  have Rd:=Room.deeper (env:=env) (k:=m + 1) Rm
  have hh:=Rd.handled
  have hu:(A.deeper env).units + 100 < cLine:=Rd.u100
  have Gl:=eX G.prg
  have hkp:=C.keep
  have hs:=hs0
  conv at hs=>rhs;whnf
  have C:=Cx.mk hs ‹_› ‹_› ‹_›
  clear hs0
  conv in sf Dt=>whnf
  apply df;exact dg;exact trivial
  .intro h
   have e:r=l + 1:=by simp at h;exact ar (JQ h) (qW hlr)
   subst e
   apply cX;(apply l9;exact ak;exact ak;exact tV (aw hlr hr));rfl;exact ⟨ax _,Me hlen hr,trivial⟩
   exact ⟨by rw [El (aw hlr hr)];simp [dW],rfl⟩
  .intro h
   have hlt:l + 1 < r:=by simp at h;lia
   have p2:2 ^ (m + 1)=2 * 2 ^ m:=by rw [nA,iY]
   obtain ⟨M,hM⟩:∃M,M=(l + r) / 2:=⟨_,rfl⟩
   have c1:=ih (A.deeper env) M r Rd (MA hlt hM) hr (MW hm p2 hM)
   have c2:=ih (A.deeper env) l M Rd (by exact MC hlt hM) (by exact Jq hr hlt hM) (by exact MV hm p2 hM)
   have b1:=sQ (n:=n) (ns:=CK ns M r) λd hd=>hB d (KM hd)
   have hb1:intBits (dW n (CK ns M r))<=B + (n + 1) * ns.length:=by
    refine ai (bF b1.1 b1.2) ?_
    rw [ux hr]
    exact fq (gV _ (by exact Mk hr)) _
   have hsh:(M - l) * n<=n * ns.length:=by rw [iY];exact gV _ (by exact (qA Y5 Y3 Y0 (qI Y4 (.a Y0 Y1) 1 (qN (.l Y5 Y2) [1,0,2,0,1,2,2] 1)):yy [aR Y0 Y1,.l Y1 Y2,.e Y3 Y4]) hlr hr hM)
   have hsm:(n + 1) * ns.length=n * ns.length + ns.length:=by rw [GW,GU]
   apply cG
   apply cH (d:=.int (M:Int));exact ak;assumption;rfl;rfl;exact congrArg D.int (by rw [hM];exact LW l r);exact ⟨by exact Dw,trivial⟩
   apply cH (d:=.int (((M - l) * n:Nat):Int));exact ak;assumption;rfl;rfl
   .exact congrArg D.int (by push_cast;rw [B9 (by exact Jp hlt hM)])
   .exact ⟨cQ (mZ (by exact (qN (cK (.n M1) (.s (.c Y3) (.c Y2))) [1,1,1]:gC [aR Y0 (.k 33554432),.l Y1 Y0,aR (.a Y2 J1) Y1]) hlen hr hlt) (by exact (qI Y3 (.a Y4 Y1) 1 (qN (cK (.s (.c Y2) (.c Y4)) M1) [1,0,1,1,1]):mM [aR Y0 (.k 33554432),.l Y1 Y0,.e Y2 Y3]) hlen hr hM)),trivial⟩
   apply cX (d':=.int (dW n (CK ns M r) * 2 ^ (((M - l) * n:Nat):Int).toNat + dW n (CK ns l M)))
   .apply zC
    .apply zC
     .apply fg (P4:=[]) (kd:=[]);exact ak;(apply av rfl;exact ak;apply av rfl;exact ak;exact bo);exact cf;exact hkp;exact λ_=>c1
     .exact ak
     .rfl
    .apply fg (P4:=[]) (kd:=[]);exact ak;(apply av rfl;exact ak;apply av rfl;exact ak;exact bo);exact cf;exact hkp;exact λ_=>c2
    .rfl
   .rfl
   .exact ⟨by exact ax _,by exact (qN (.L (.a (.c Y3) (.c Y4)) (.k 134217728)) [1,1,1]:mM [.l (.a (.a Y0 Y1) Y2) (.k 67108864),.l Y3 (.a Y0 Y1),.l Y4 Y2]) hsz hb1 hsh,trivial⟩
   .refine ⟨congrArg D.int ?_,rfl⟩
    rw [FB ns (show l<=M by exact Jp hlt hM) (show M<=r by exact (qI Y3 (.a Y0 Y1) 1 (qN (.l Y2 Y1) [1,0,1,2] 1):gC [aR (.a Y0 J1) Y1,.e Y2 Y3]) hlt hM),fv,ux (by exact Jq hr hlt hM),aB,iY (M - l) n,aX]
    exact au (EX) (EX)
theorem tj {f:Addr}(hk:env.kindOf x=some .cell)(hc:env.cells.lookup x=some c)(hb:∃o,W.h₀.get? c=some o/\o.data=.cell (some (.ref f)))(h:Blk W A env (.bind x (.ref f) ρ) L ss Kn Pr):Blk W A env ρ L ss Kn Pr:=.mk λg s F k l E=>by
 apply aA (hb);intro o h1 h2
 have hcell:s.heap.IsCell c (some (.ref f)):=⟨o,k.baseHeap _ _ h1,h2⟩
 refine h.run g s {kind:=F.kind,glo:=F.glo,bui:=F.bui,ncd:=F.ncd,hid:=F.hid,loc:=?_,inj:=F.inj,liv:=F.liv,cel:=λy hy=>?_ } k l E
 .apply aA (F.loc);intro m a b
  refine ⟨m,a,λy d e hy=>b y d ?_ hy⟩
  have hne:x≠y:=λq=>by subst q;rw [hk] at hy;cases hy
  simpa only [look,if_neg hne] using e
 .apply bP (F.cel y hy);intro c' cv a1 a2 a3
  refine ⟨c',cv,a1,a2,λd e=>?_⟩
  by_cases hne:x=y
  .subst hne
   rw [hc] at a1;(refine eQ a1 ?_;clear a1;intro q₁;subst q₁)
   simp only [look,if_true,cj] at e
   subst e
   exact ⟨_,xT a2 hcell,.ref _⟩
  .exact a3 d (by simpa only [look,if_neg hne] using e)
theorem qw:FnK 78 10 "_digits2int" .none .none mC 77:=⟨λP=>by kernel_rfl,λP=>by kernel_rfl⟩
theorem Kk (P:Params)(a b:Value):∀S,peek (Kf P) S (bindArgs (kT 10 "_digits2int" .none .none mC 77) ⟨[a,b],[]⟩)=some ((["digits","n"]:List Str).zip [a,b]):=λS=>by kernel_rfl
noncomputable def Pb:List Str:=["digits","n"]
theorem mi (G:Good W){B:Nat}(Rm:Room A (m + 3))(hm:ns.length<=2 ^ m)(hB:∀d∈ns,0<=d/\d < 2 ^ B)(hsz:B + (n + 1) * ns.length + n * ns.length<=2 ^ 26)(hlen:ns.length < 2 ^ 25):
  bz W A (.ref 78) [.list (ns.map .int),.int n] [] (.int (dW n ns)):=
 kC qw G (HS Kk) Rm λenv hs hh hu Gl Rd e2 e3=>by
  conv at hs=>rhs;whnf
  have C:=Cx.mk hs ‹_› ‹_› ‹_›
  conv in aH 10=>whnf
  refine E9 (c:=77) (P:=73) (q:="_digits2int.<locals>.inner") hs (by kernel_rfl) ⟨by rw [G.tabs];exact .tail _ (.head _),e2⟩ (by rw [G.may];rfl) (by unfold qualnameIn bj;rw [hs,e3];rfl) ⟨rfl,rfl⟩ rfl (el hs rfl) ?_
  refine vZ λW' g s Bs=>?_
  have G':=Bs.good G
  have Gl':=eX G'.prg
  apply bP (Bs.fra.cel "inner" (.inl (by unfold bj;rw [hs];rfl)));intro cI cvI i1 i2 i3
  apply aA (i3 _ rfl);intro vI hq0 rI;subst hq0
  apply fo (IsClo.of (W':=W') Bs.obj rI);intro f fd hq0 C;subst hq0
  apply bP (Bs.fra.cel "digits" (.inl (by unfold bj;rw [hs];rfl)));intro cD cvD j1 j2 j3
  apply aA (j3 _ rfl);intro vD hq0 rD;subst hq0
  apply bP (Bs.fra.cel "n" (.inl (by unfold bj;rw [hs];rfl)));intro cN cvN k1 k2 k3
  apply aA (k3 _ rfl);intro vN hq0 rN;subst hq0
  have hC:=kA (fd:=fd) (sc:=t0 Dt) (ρc:=.froz (dc ["digits","inner","n"] [.list (ns.map .int),.ref f,.int n] .nil)) Bs hs (by kernel_rfl) C.closure C.scope rfl (λx d hx=>by
   simp only [look,dc] at hx
   split at hx
   .rename_i q;subst q;(refine eQ hx ?_;clear hx;intro q₁;subst q₁)
    exact ⟨by kernel_rfl,cD,vD,j1,j2,λg' hg=>sO (λa o e=>hg a o (Bs.obj a o e)) rD⟩
   .split at hx
    .rename_i q;subst q;(refine eQ hx ?_;clear hx;intro q₁;subst q₁)
     exact ⟨by kernel_rfl,cI,_,i1,i2,λg' hg=>.ref _⟩
    .split at hx
     .rename_i q;subst q;(refine eQ hx ?_;clear hx;intro q₁;subst q₁)
      exact ⟨by kernel_rfl,cN,vN,k1,k2,λg' hg=>by obtain ⟨_,rfl⟩:=rN.inv;exact .int _ _⟩
     .exact (aK hx).elim)
  have hin:=Ge G' C hC hB hsz hlen
  apply aA (Bs.cel "inner" cI (by unfold bj;rw [hs];rfl) i1);intro o o1 o2
  refine tj (f:=f) (by unfold bj;rw [hs];rfl) i1 ⟨o,o2,by apply aA (i2);intro o' p1 p2;rw [o1] at p1;(refine eQ p1 ?_;clear p1;intro q₁;subst q₁);exact p2⟩ ?_
  have hkp:=C.keep
  have Cq:=Cx.mk hs (‹_›:kS W' gl) hu hh
  by_cases h0:0 < ns.length
  .have hc:=hin m (A.deeper env) 0 ns.length (Rd.le (Mb)) h0 (ae _) (Mj hm)
   have hl:(ns.map D.int).length=ns.length:=ab ..
   apply cX
   .apply sV
    .apply yC rfl;exact ak;exact show o0 (.list (ns.map .int))=some (true,[((ns.map D.int).length:Int) < 2 ^ 63]) by simp [o0,h0]
    .apply fg (P4:=[]) (kd:=[]);exact ak;(apply av rfl;exact ak;apply av rfl;exact ak;exact bo);exact cf;exact hkp;exact λ_=>by rw [hl];exact hc
   .rfl
   .exact ⟨Mc hlen hl,Mc hlen hl,trivial⟩
   .exact ⟨congrArg D.int (by unfold CK;simp),rfl⟩
  .have e:ns=[]:=List.length_eq_zero_iff.mp (ar ((qN (.l Y0 J0) [1]:di [.l Y0 J0]) (jq h0)) (Jy))
   subst e
   apply cX
   .apply qG
    .apply yC rfl;exact ak;rfl
    .exact ak
   .rfl
   .exact ⟨by decide,trivial⟩
   .exact ⟨rfl,rfl⟩
theorem Ik (h:oU W A env ρ e d')(hd:d'=d):oU W A env ρ e d:=hd▸h
theorem Ls (h:aQ W A env ρ e d')(hd:d'=d):aQ W A env ρ e d:=hd▸h
noncomputable def iM (ds:List D)(l:Nat)(vs:List D):List D:=ds.take l++vs++ds.drop (l + vs.length)
theorem wD {vs:List D}{l:Nat}(h:l + vs.length<=ds.length):(iM ds l vs).length=ds.length:=by
 unfold iM;simp;exact ar ((qC Y3 Y0 Y2 (qB Y4 Y2 (.a Y0 Y1) (qN (.l (.a Y3 (.a Y1 Y4)) Y2) [0,1,0,0,1]) (qN (.l (.a Y3 (.a Y1 Y4)) Y2) [0,1,0,0,1,0,1])) (qB Y4 Y2 (.a Y0 Y1) (qN (.l (.a Y3 (.a Y1 Y4)) Y2) [0,1,0,1,1]) (qN (.l (.a Y3 (.a Y1 Y4)) Y2) [0,1,0,1,1,0,1])):mM [.l (.a Y0 Y1) Y2]) h) ((qC Y1 Y4 Y0 (qA Y3 Y0 (.a Y4 Y2) (qN (.l Y0 (.a Y1 (.a Y2 Y3))) [0,1,0,0,1])) (qN (.l Y0 (.a Y1 (.a Y2 Y3))) [0,0,1]):mM []))
theorem uw {l:Nat}(h:l < ds.length):ds.set l d=iM ds l [d]:=by
 unfold iM
 rw [List.set_eq_take_append_cons_drop,if_pos h]
 simp
theorem CH {v1 v2:List D}{l:Nat}(hm:l + v1.length=m)(h:m + v2.length<=ds.length):iM (iM ds l v1) m v2=iM ds l (v1++v2):=by
 subst hm
 unfold iM
 have e1:(ds.take l++v1++ds.drop (l + v1.length)).take (l + v1.length)=ds.take l++v1:=by
  rw [List.take_append_of_le_length (by simp;exact MH h),aO (by simp;lia)]
 have e2:(ds.take l++v1++ds.drop (l + v1.length)).drop (l + v1.length + v2.length)=ds.drop (l + v1.length + v2.length):=by
  have hl:(ds.take l++v1).length=l + v1.length:=by simp;exact ar (Jk) (MH h)
  rw [List.drop_append,hl,fI ((qN (.l Y0 (.a (.a Y1 Y2) Y3)) [1]:gC [.e Y0 (.a Y1 Y2)]) hl),jG,iH]
  congr 1;exact ar ((qB Y2 (.a (.a Y0 Y1) Y3) (.a Y0 Y1) (qN (.l (.a (.a Y0 Y1) Y2) (.a (.a Y0 Y1) Y3)) [0,1]) (qN (.l (.a (.a Y0 Y1) Y2) (.a (.a Y0 Y1) Y3)) [0,1]):gC [])) ((qA Y3 (.a (.a Y0 Y1) Y2) (.a Y0 Y1) (qN (.l (.a (.a Y0 Y1) Y2) (.a (.a Y0 Y1) Y3)) [0,1]):gC []))
 rw [e1,e2,az]
 simp [dI,Nat.add_assoc]
theorem CI {vs:List D}(h:vs.length=ds.length):iM ds 0 vs=vs:=by
 unfold iM;simp [h]
noncomputable def Df:List Stmt:=(aH 9).drop 1
theorem w8:Kr (zj Df) ["x","L","R"]:=λfd h1 h2 h3 vs hv=>by
 apply O2 (Oz hv);intro a b c hq0;subst hq0
 obtain ⟨⟩:=fd
 simp only at h1 h2 h3
 subst h1 h2 h3
 rfl
theorem Gd {f:Addr}(hn:0 < n)(G:Good W)(C:IsClo W f fd cl (zj Df) (.stmts (sf Df)) (t0 Df))(hC:∀g s,Ok W g s->CloOk W g s fd (.froz (dc ["a_digits","inner","n"] [.ref a,.ref f,.int n] .nil))):
  ∀(m:Nat) (A:Around) (l r:Nat) (x:Int) (ds:List D),Room A (m + 1)->l < r->r<=ds.length->r - l<=2 ^ m->0<=x->x < 2 ^ (n * (r - l))->n * ds.length<=2 ^ 26->ds.length<=sizeLine->
   CallL W A (.ref f) [.int x,.int l,.int r] [] [(a,.list ds)] .none [(a,.list (iM ds l ((iT n (r - l) x).map .int)))]:=by
 intro m
 induction m with
 | zero=>
  intro A l r x ds Rm hlr hr hm hx0 hx hsz hz
  have e:r=l + 1:=by simp at hm;exact ar (JK hm) (qW hlr)
  subst e
  refine kB C w8 (by kernel_rfl) hC rfl Rm.dep λenv hs0=>?_
  have Rd:=Room.deeper (env:=env) (k:=0) Rm
  have hh:=Rd.handled
  have hu:(A.deeper env).units + 100 < cLine:=Rd.u100
  have Gl:=eX G.prg
  have hs:=hs0
  conv at hs=>rhs;whnf
  have C:=Cx.mk hs ‹_› ‹_› ‹_›
  clear hs0
  conv in sf Df=>whnf
  apply df;exact dg;exact trivial
  .intro _
   refine te (j:=l) (d:=.int x) (by apply dq;exact ak;exact trivial) (by apply dq;exact ak;exact trivial) (by apply dq;exact ak;exact trivial) (aw hlr hr) hz rfl ?_
   refine rj ⟨rfl,?_⟩
   rw [uw (aw hlr hr),dy]
   rw [dy,lE] at hx
   simp only [iT,aD,dh]
   rw [tP hx0 hx]
  .intro h;simp at h
 | succ m ih=>
  intro A l r x ds Rm hlr hr hm hx0 hx hsz hz
  refine kB C w8 (by kernel_rfl) hC rfl Rm.dep λenv hs0=>?_
  have Rd:=Room.deeper (env:=env) (k:=m + 1) Rm
  have hh:=Rd.handled
  have hu:(A.deeper env).units + 100 < cLine:=Rd.u100
  have Gl:=eX G.prg
  have hkp:=C.keep
  have hz':ds.length<=16777216:=hz
  have hs:=hs0
  conv at hs=>rhs;whnf
  have C:=Cx.mk hs ‹_› ‹_› ‹_›
  have hkind:env.scope.kind=.function:=by rw [hs]
  clear hs0
  conv in sf Df=>whnf
  apply df;exact dg;exact trivial
  .intro h
   have e:r=l + 1:=by simp at h;exact ar (JQ h) (qW hlr)
   subst e
   refine te (j:=l) (d:=.int x) (by apply dq;exact ak;exact trivial) (by apply dq;exact ak;exact trivial) (by apply dq;exact ak;exact trivial) (aw hlr hr) hz rfl ?_
   refine rj ⟨rfl,?_⟩
   rw [uw (aw hlr hr),dy]
   rw [dy,lE] at hx
   simp only [iT,aD,dh]
   rw [tP hx0 hx]
  .intro h
   have hlt:l + 1 < r:=by simp at h;lia
   have p2:2 ^ (m + 1)=2 * 2 ^ m:=by rw [nA,iY]
   obtain ⟨M,hM⟩:∃M,M=(l + r) / 2:=⟨_,rfl⟩
   obtain ⟨S,hS⟩:∃S,S=n * (M - l):=⟨_,rfl⟩
   have hSp:=cF S
   have hmul:n * (r - l)=S + n * (r - M):=by rw [hS,<-iz];congr 1;exact ar (N2) (Pg hM hlt)
   have hup:x / 2 ^ S < 2 ^ (n * (r - M)):=eJ hSp (by rw [<-dQ,nB,<-hmul];exact hx)
   have hup0:0<=x / 2 ^ S:=em hx0 (ay hSp)
   have hlo0:0<=x % 2 ^ S:=ca _ (bx hSp)
   have hlo:x % 2 ^ S < 2 ^ S:=bA _ hSp
   have hnl:n * (r - l)<=2 ^ 26:=ai (gV _ (by exact Mk hr)) hsz
   have hbu:intBits (x / 2 ^ S)<=n * (r - M):=bF hup0 hup
   have dl1:((iT n (M - l) (x % 2 ^ S)).map D.int).length=M - l:=by rw [ab,ge]
   have dl2:((iT n (r - M) (x / 2 ^ S)).map D.int).length=r - M:=by rw [ab,ge]
   have FW:(iM ds l ((iT n (M - l) (x % 2 ^ S)).map D.int)).length=ds.length:=wD (by rw [dl1];exact (qB Y5 Y2 Y4 (qI Y3 (.a Y4 Y0) 1 (qN (.l (.a Y4 Y5) Y1) [1,0,0,2,0,1,2])) (qN (.l (.a Y4 Y5) Y1) [0,1,0,1,0,0,1]):yy [.l Y0 Y1,.e Y2 Y3,aR Y4 Y0]) hr hM hlr)
   have c1:=ih (A.deeper env) l M (x % 2 ^ S) ds Rd (by exact MC hlt hM) (by exact Jq hr hlt hM) (by exact MV hm p2 hM) hlo0 (by rw [<-hS];exact hlo) hsz hz
   have c2:=ih (A.deeper env) M r (x / 2 ^ S) (iM ds l ((iT n (M - l) (x % 2 ^ S)).map D.int)) Rd (by exact MA hlt hM) (by rw [FW];exact hr) (by exact MW hm p2 hM) hup0 hup (by rw [FW];exact hsz) (by rw [FW];exact hz)
   apply cG
   apply cH (d:=.int (M:Int));exact ak;assumption;rfl;rfl;exact congrArg D.int (by rw [hM];exact LW l r);exact ⟨by exact Dw,trivial⟩
   apply cH (d:=.int (S:Int));exact ak;assumption;rfl;rfl
   .exact congrArg D.int (by rw [hS];push_cast;rw [B9 (by exact Jp hlt hM),aX])
   .exact ⟨cQ (mZ (by exact (qN (cK (.n M1) (.s (.c Y3) (.c Y2))) [1,1,1]:gC [.l Y0 Y1,.l Y1 (.k 16777216),aR (.a Y2 J1) Y0]) hr hz' hlt) (by exact (qI Y3 (.a Y4 Y0) 1 (qN (cK (.s (.c Y2) (.c Y4)) M1) [1,0,1,1,1]):mM [.l Y0 Y1,.l Y1 (.k 16777216),.e Y2 Y3]) hr hz' hM)),trivial⟩
   apply cH (d:=.int (x / 2 ^ S));exact ak;assumption;rfl;rfl
   .exact congrArg D.int (by rw [aB];exact rP x S)
   .exact ⟨ax _,trivial⟩
   apply cH (d:=.int (x % 2 ^ S));exact ak;assumption;rfl;rfl
   .exact congrArg D.int (by rw [aB];exact Hn hx0)
   .exact ⟨ax _,(qN (.L (.a (.c Y3) (.c Y1)) (.k 134217728)) [0,1,1,1]:gC [.e Y0 (.a Y1 Y2),.l Y0 (.k 67108864),.l Y3 Y2]) hmul hnl hbu,trivial⟩
   refine lw (f:=.ref f) (ds:=[.int (x % 2 ^ S),.int l,.int M]) (kds:=[]) hkind (by apply dq;exact ak;exact trivial) (by apply gS;(apply av rfl;exact ak;apply av rfl;exact ak;apply av rfl;exact ak;exact bo);exact trivial) .nil hkp c1 rfl ?_
   refine lw (f:=.ref f) (ds:=[.int (x / 2 ^ S),.int M,.int r]) (kds:=[]) hkind (by apply dq;exact ak;exact trivial) (by apply gS;(apply av rfl;exact ak;apply av rfl;exact ak;apply av rfl;exact ak;exact bo);exact trivial) .nil hkp c2 rfl ?_
   refine db ⟨rfl,?_⟩
   rw [CH (by rw [dl1];exact ar ((qB Y4 Y2 Y0 (qN (.l (.a Y0 Y4) Y2) [0,1]) (qI Y3 (.a Y0 Y1) 1 (qN (.l (.a Y0 Y4) Y2) [0,1,1,1,0,1,0,2])):mM [aR Y0 Y1,.e Y2 Y3]) hlr hM) (Jn)) (by rw [dl2];exact (qB Y5 Y0 Y3 (qN (.l (.a Y3 Y5) Y1) [0,1,0,1]) (qI Y4 (.a Y2 Y0) 1 (qN (.l (.a Y3 Y5) Y1) [1,0,1,1,0,1,1,2])):yy [.l Y0 Y1,aR Y2 Y0,.e Y3 Y4]) hr hlr hM),<-bU]
   have e:r - l=(M - l) + (r - M):=ar (N2) (Pg hM hlt)
   rw [e,Bw,hS,Bv]
theorem t6:FnK 71 9 "_int2digits" .none .none mC 70:=⟨λP=>by kernel_rfl,λP=>by kernel_rfl⟩
theorem Ki (P:Params)(a b:Value):∀S,peek (Kf P) S (bindArgs (kT 9 "_int2digits" .none .none mC 70) ⟨[a,b],[]⟩)=some ((["a","n"]:List Str).zip [a,b]):=λS=>by kernel_rfl
noncomputable def OZ:List Str:=["a","n"]
noncomputable def gH (n:Nat)(a:Int):Nat:=(intBits a + n - 1) / n
theorem EQ {a:Int}(hn:0 < n):intBits a<=n * gH n a:=by
 unfold gH
 have h:=Nat.div_add_mod (intBits a + n - 1) n
 have h2:=Nat.mod_lt (intBits a + n - 1) hn
 exact (qA Y2 (.a Y4 Y3) J1 (qN (.l Y4 Y0) [0,1,0,1,1]):mM [.e (.a Y0 Y1) Y2,aR Y1 Y3]) h h2
theorem ES {a:Int}(hn:0 < n):n * gH n a<=intBits a + n - 1:=Nat.mul_div_le _ _
theorem pD (G:Good W){a:Int}(hn:0 < n)(hn2:n < 10000)(ha:0<=a)(Rm:Room A (m + 3))(hb:intBits a<=2 ^ 22)(hm:gH n a<=2 ^ m):
  bz W A (.ref 71) [.int a,.int n] [] (.list ((iT n (gH n a) a).map .int)):=
 kC t6 G (HS Ki) Rm λenv hs hh hu Gl Rd e2 e3=>by
  have hd1:=ES (a:=a) hn
  have hd2:=EQ (a:=a) hn
  have hd3:gH n a<=n * gH n a:=D7 _ hn
  conv at hs=>rhs;whnf
  have C:=Cx.mk hs ‹_› ‹_› ‹_›
  have hkind:env.scope.kind=.function:=by rw [hs]
  conv in aH 9=>whnf
  have eK:((intBits a:Int) + (n:Int) - 1).fdiv (n:Int)=(gH n a:Int):=by
   unfold gH
   rw [bY _ (ax _)]
   push_cast
   congr 1
   exact au ((qA Y2 (.a Y0 Y1) J1 (qN (.L (.s (.a (.c Y0) (.c Y1)) J1) (.c Y2)) [0,1]):dL [])) ((qB Y1 (.a Y2 Y0) J1 (qN (.L (.c Y1) (.s (.a (.c Y2) (.c Y0)) J1)) [0,1]) (qN (.L (.c Y1) (.s (.a (.c Y2) (.c Y0)) J1)) [0,1,0,1]):dL [aR J0 Y0]) hn)
  refine n8 (d:=.list (bE (gH n a) (.int 0))) ?_ (el hs rfl) rfl λad=>?_
  .refine Ik (d':=.list (bE (((intBits a:Int) + (n:Int) - 1).fdiv (n:Int)).toNat [D.int 0]).flatten) ?_ (by rw [eK,aB];simp)
   apply FY
   .exact ak
   .exact ak
   .exact ⟨λzz=>(qF [1,1]:di [aR J0 Y0,.E (.c Y0) J0]) hn zz,fx ((qP Y1 (.c Y0) (qN (aR Y1 (.k 1073741824)) [0,1,0,1]) (qN (aR Y1 (.k 1073741824)) [0,1]):cz [aR Y0 (.k 10000)]) hn2),trivial⟩
   .rw [eK];exact JS
   .rw [eK];exact MJ hn2 hb hd1 hd3
   .rw [eK];simp;exact MF hn2 hb hd1 hd3
  refine E9 (c:=70) (P:=66) (q:="_int2digits.<locals>.inner") hs (by kernel_rfl) ⟨by rw [G.tabs];exact .head _,e2⟩ (by rw [G.may];rfl) (by unfold qualnameIn bj;rw [hs,e3];rfl) ⟨rfl,rfl⟩ rfl (el hs rfl) ?_
  refine vZ λW' g s Bs=>?_
  have G':=Bs.good G
  have Gl':=eX G'.prg
  apply bP (Bs.fra.cel "inner" (.inl (by unfold bj;rw [hs];rfl)));intro cI cvI i1 i2 i3
  apply aA (i3 _ rfl);intro vI hq0 rI;subst hq0
  apply fo (IsClo.of (W':=W') Bs.obj rI);intro f fd hq0 C;subst hq0
  apply bP (Bs.fra.cel "a_digits" (.inl (by unfold bj;rw [hs];rfl)));intro cD cvD j1 j2 j3
  apply aA (j3 _ rfl);intro vD hq0 rD;subst hq0
  apply bP (Bs.fra.cel "n" (.inl (by unfold bj;rw [hs];rfl)));intro cN cvN k1 k2 k3
  apply aA (k3 _ rfl);intro vN hq0 rN;subst hq0
  have hC:=kA (fd:=fd) (sc:=t0 Df) (ρc:=.froz (dc ["a_digits","inner","n"] [.ref ad,.ref f,.int n] .nil)) Bs hs (by kernel_rfl) C.closure C.scope rfl (λx d hx=>by
   simp only [look,dc] at hx
   split at hx
   .rename_i q;subst q;(refine eQ hx ?_;clear hx;intro q₁;subst q₁)
    exact ⟨by kernel_rfl,cD,vD,j1,j2,λg' hg=>by obtain rfl:=rD.inv;exact .ref _⟩
   .split at hx
    .rename_i q;subst q;(refine eQ hx ?_;clear hx;intro q₁;subst q₁)
     exact ⟨by kernel_rfl,cI,_,i1,i2,λg' hg=>.ref _⟩
    .split at hx
     .rename_i q;subst q;(refine eQ hx ?_;clear hx;intro q₁;subst q₁)
      exact ⟨by kernel_rfl,cN,vN,k1,k2,λg' hg=>by obtain ⟨_,rfl⟩:=rN.inv;exact .int _ _⟩
     .exact (aK hx).elim)
  have hin:=Gd hn G' C hC
  apply aA (Bs.cel "inner" cI (by unfold bj;rw [hs];rfl) i1);intro o o1 o2
  refine tj (f:=f) (by unfold bj;rw [hs];rfl) i1 ⟨o,o2,by apply aA (i2);intro o' p1 p2;rw [o1] at p1;(refine eQ p1 ?_;clear p1;intro q₁;subst q₁);exact p2⟩ ?_
  have hkp:=C.keep
  have hlenK:(bE (gH n a) (D.int 0)).length=gH n a:=D9 ..
  have hzK:(bE (gH n a) (D.int 0)).length<=sizeLine:=by rw [hlenK];show _<=16777216;exact MF hn2 hb hd1 hd3
  have Cq:=Cx.mk hs (‹_›:kS W' gl) hu hh
  apply df;exact dg;exact trivial
  .intro hne
   have hne:a≠0:=by simpa using hne
   have hpos:0 < intBits a:=(BZ (by lia)).1
   have hd0:0 < gH n a:=by
    rcases Nat.eq_zero_or_pos (gH n a) with q | q
    .rw [q,Nat.mul_zero] at hd2;exact (qN (aR J0 Y1) [1,1]:cz [.l Y0 J0,aR J0 Y0]) hd2 hpos
    .exact q
   have hc:=hin m (A.deeper env) 0 (gH n a) a (bE (gH n a) (.int 0)) (Rd.le (Mb)) hd0 (by rw [hlenK];exact ae _) (Mj hm) ha (by rw [DZ];exact gP ha hd2) (by rw [hlenK];exact (qA Y3 (.a Y1 Y0) J1 (qN (.l Y2 (.k 67108864)) [1,0,1,1,1]):gC [aR Y0 (.k 10000),.l Y1 (.k 4194304),.l Y2 Y3]) hn2 hb hd1) hzK
   rw [DZ,CI (by rw [hlenK,ab,ge])] at hc
   refine DG (f:=.ref f) (ds:=[.int a,.int 0,.int (gH n a)]) hkind (by apply dq;exact ak;exact trivial) (.cons rfl (IM (by apply dq;exact ak;exact trivial)) (.cons rfl (IM (by apply dq;exact ak;exact trivial)) (.cons rfl (nX (a:=ad) (ds:=bE (gH n a) (.int 0)) (x:="a_digits") (.head _) rfl rfl ?_) .nil))) hkp hc rfl ?_
   .refine Ls (d':=.int ((bE (gH n a) (D.int 0)).length:Nat)) ?_ (by rw [hlenK])
    apply dq;exact ak;exact ⟨by rw [hlenK];exact MJ hn2 hb hd1 hd3,trivial⟩
   apply cG
   refine iU (a:=ad) (x:="a_digits") rfl rfl ?_
   apply ji;exact ak;exact trivial
   exact ⟨rfl,rfl⟩
  .intro hne
   have hne:a=0:=by simpa using hne
   subst hne
   apply cG
   refine iU (a:=ad) (x:="a_digits") rfl rfl ?_
   apply ji;exact ak;exact trivial
   have e0:gH n 0=0:=by unfold gH;exact Nat.div_eq_of_lt (by show 0 + n - 1 < n;exact (qB Y1 (.a J0 Y0) J1 (qN (aR Y1 Y0) [0,1]) (qN (aR Y1 Y0) [0,1,0,1]):cz [aR J0 Y0]) hn)
   exact ⟨by rw [e0];rfl,rfl⟩
theorem qR {T q r:Int}(h:T=q * b + r)(h0:0<=r)(h1:r < b):q=T / b/\r=T % b:=by
 have hb:0 < b:=fM h0 h1
 have e1:=bH T b
 have e2:=ca T (bx hb)
 have e3:=bA T hb
 have e4:q * b + r=T % b + b * (T / b):=by rw [e1];exact h.symm
 have e5:b * (q - T / b)=T % b - r:=by rw [G4,aX b q];exact au ((qN (.L (.s I0 I3) (.s I2 I1)) [1]:lJ [.E (.a I0 I1) (.a I2 I3)]) e4) ((qN (.L (.s I2 I1) (.s I0 I3)) [0,1]:lJ [.E (.a I0 I1) (.a I2 I3)]) e4)
 have e6:q - T / b=0:=by
  rcases Int.lt_trichotomy (q - T / b) 0 with h' | h' | h'
  .have:b * (q - T / b)<=b * (-1):=bv ((qN (.L (.s I0 I1) (.n J1)) [1]:kI [cK (.s I0 I1) J0]) h') (ay hb)
   lia
  .exact h'
  .have:b * 1<=b * (q - T / b):=bv ((qN (.L J1 (.s I0 I1)) [1]:kI [cK J0 (.s I0 I1)]) h') (ay hb)
   lia
 rw [e6] at e5
 simp at e5
 exact ⟨au ((qN (.L I0 I1) [1]:kI [.E (.s I0 I1) J0]) e6) ((qN (.L I1 I0) [0,1]:kI [.E (.s I0 I1) J0]) e6),au ((qN (.L I1 I0) [1]:kI [.E J0 (.s I0 I1)]) e5) ((qN (.L I0 I1) [0,1]:kI [.E J0 (.s I0 I1)]) e5)⟩
variable {a12 a3 b1 b2 q0 r0:Int}
theorem Bx (hb:b=b1 * 2 ^ n + b2)(hb2:0<=b2)(h:a12=q0 * b1 + r0):a12 * 2 ^ n + a3 - q0 * b=r0 * 2 ^ n + a3 - q0 * b2:=by
 subst hb h
 rw [gx,eB,cE]
 exact au ((qN (.L (.s (.a (.a I0 I1) I2) (.a I0 I3)) (.s (.a I1 I2) I3)) []:lJ [])) ((qN (.L (.s (.a I0 I1) I2) (.s (.a (.a I3 I0) I1) (.a I3 I2))) []:lJ []))
theorem Pa (hb:b=b1 * 2 ^ n + b2)(hb2:b2 < 2 ^ n)(ha:a12 < b):a12 / 2 ^ n<=b1:=by
 have hp:=cF n
 have:a12 / 2 ^ n < b1 + 1:=eJ hp (by rw [eB,bJ];exact (qN (cK I4 (.a I1 I3)) [1,0,1,1]:uj [.E I0 (.a I1 I2),cK I2 I3,cK I4 I0]) hb hb2 ha)
 exact (qN (.L I0 I1) [1]:kI [cK I0 (.a I1 J1)]) this
theorem N1 (h3:a3 < 2 ^ n)(ha:a12 < b):a12 * 2 ^ n + a3 - (2 ^ n - 1) * b < b:=by
 have hp:=cF n
 have h1:(a12 + 1) * 2 ^ n<=b * 2 ^ n:=aW (vO ha) (ay hp)
 rw [eB,bJ] at h1
 rw [wx,bJ,aX (2 ^ n) b]
 exact (qN (cK (.s (.a I2 I0) (.s I3 I4)) I4) [1,1]:uj [cK I0 I1,.L (.a I2 I1) I3]) h3 h1
theorem N0 (hb:b=b1 * 2 ^ n + b2)(hb2:0<=b2)(hq:0<=q0)(h3:a3 < 2 ^ n)(hr:r0 < b1):r0 * 2 ^ n + a3 - q0 * b2 < b:=by
 have hp:=cF n
 have h1:(r0 + 1) * 2 ^ n<=b1 * 2 ^ n:=aW (vO hr) (ay hp)
 rw [eB,bJ] at h1
 have h2:0<=q0 * b2:=fA hq hb2
 exact (qN (cK (.s (.a I5 I3) I6) I0) [0,1,1,1,1,1]:qT [] [_,_,_,_,_,_,_] [.E I0 (.a I1 I2),.L J0 I2,cK I3 I4,.L (.a I5 I4) I1,.L J0 I6] _) hb hb2 h3 h1 h2
theorem IY {h:Nat}(a:Int):a / 2 ^ (2 * h) * 2 ^ h + a / 2 ^ h % 2 ^ h=a / 2 ^ h:=by
 have e:a / 2 ^ (2 * h)=a / 2 ^ h / 2 ^ h:=by
  rw [mH (ay (cF h)),<-dQ];congr 2;exact ar (L8) (L7)
 rw [e,aX]
 have:=bH (a / 2 ^ h) (2 ^ h)
 exact au (BC this) (BD this)
theorem Ly {h:Nat}{a:Int}(hb:0 < b):a / 2 ^ h / b * 2 ^ h + (a / 2 ^ h % b * 2 ^ h + a % 2 ^ h) / b=a / b/\(a / 2 ^ h % b * 2 ^ h + a % 2 ^ h) % b=a % b:=by
 have e1:=bH a (2 ^ h)
 have e2:=bH (a / 2 ^ h) b
 have e3:=bH (a / 2 ^ h % b * 2 ^ h + a % 2 ^ h) b
 have e4:=ca (a / 2 ^ h % b * 2 ^ h + a % 2 ^ h) (bx hb)
 have e5:=bA (a / 2 ^ h % b * 2 ^ h + a % 2 ^ h) hb
 generalize a / 2 ^ h % b=r1 at *
 generalize hq1:a / 2 ^ h / b=q1 at *
 generalize hX:a / 2 ^ h=X at *
 generalize a % 2 ^ h=lo at *
 generalize hP:(2:Int) ^ h=p at *
 generalize hq2:(r1 * p + lo) / b=q2 at *
 generalize hr2:(r1 * p + lo) % b=r2 at *
 have key:a=(q1 * p + q2) * b + r2:=by
  have h1:p * X=p * r1 + p * (b * q1):=by rw [<-e2,gx]
  have h2:(q1 * p + q2) * b=p * (b * q1) + b * q2:=by
   rw [eB,cE,aX q1,cE,aX q2 b]
  have h3:r1 * p=p * r1:=aX _ _
  exact au ((qN (.L I2 (.a I8 I3)) [0,1,0,1,1,0,0,1,0,1]:qT [] [_,_,_,_,_,_,_,_,_] [.E (.a I0 I1) I2,.E (.a I3 I4) (.a I5 I0),.E I1 (.a I6 I7),.E I8 (.a I7 I4),.E I5 I6] _) e1 e3 h1 h2 h3) ((qN (.L (.a I8 I3) I2) [1,0,1,0,0,1,1,0,1]:qT [] [_,_,_,_,_,_,_,_,_] [.E (.a I0 I1) I2,.E (.a I3 I4) (.a I5 I0),.E I1 (.a I6 I7),.E I8 (.a I7 I4),.E I5 I6] _) e1 e3 h1 h2 h3)
 have u:=qR key e4 e5
 exact ⟨u.1,u.2⟩
theorem wJ {x y:Int}(h0:0 < y)(h:y < 2 ^ n)(hn:n<=9000):fE x y=false:=by
 refine PyProof.noPylong_of_log2 (aw ((Nat.log2_lt (λzz=>(qP Y0 I0 (qF [0,0,1,1,1]) (qF [1,0,0,1]):oY [cK J0 I0,.e Y0 J0]) h0 zz)).mpr ?_) hn)
 have:((y.natAbs:Nat):Int) < ((2 ^ n:Nat):Int):=by push_cast;exact (qP Y0 I0 (qN (cK (.c Y0) I1) [0,1,0,1]) (qN (cK (.c Y0) I1) [0,1,0,1,2]):Fr [cK I0 I1,cK J0 I0]) h h0
 exact Int.ofNat_lt.mp this
theorem pA {T:Int}(hb:0 < b)(h:T < b * 2 ^ n):T / b < 2 ^ n:=eJ hb (by rw [aX];exact h)
theorem dH {a:Int}(ha:intBits a<=m)(hb:intBits b<=k)(h:m + k<=2 ^ 27):IntMulOk a b:=by
 unfold IntMulOk Builtin.Int.intTooBig
 intro q
 simp only [ao,decide_eq_true_eq] at q
 have e:bitsLine=2 ^ 27:=by rfl
 rw [e] at q
 lia
theorem zB (h:jC W A env ρ e d' P)(hd:d'=d):jC W A env ρ e d P:=hd▸h
theorem lx {a:D}{c:D}{op:Operator}(hop:N9 op=true)(hs:env.scope=sc)(hx:oA sc (cm ρ) x=true)(hv:look ρ x=some a)(he:jC W A env ρ e c P1)(hd:N8 op a c=some (d',P2))(hdd:d'=d)(hP:AllP (P1++P2))(h:Blk W A env (.bind x d ρ) L rest Kn Pr):
  Blk W A env ρ L (.AugAssign (.Name x p') op e p :: rest) Kn Pr:=by
 subst hdd;exact BY hop hs hx hv he hd hP h
theorem v8 {vs:List Expr}(hh:A.handled=none)(he:jC W A env ρ (.Tuple vs k q) (.tup ds') P)(hs:env.scope=sc)(hw:AA sc es vs=some (some names))(hd:ds'=ds)(hl:i4 names.length ds.length=true)(hk:names.all (oA sc (cm ρ))=true)(hP:AllP P)(h:Blk W A env (og names.reverse ds.reverse ρ) L rest Kn Pr):Blk W A env ρ L (.Assign [.Tuple es n pt] (.Tuple vs k q) p :: rest) Kn Pr:=by
 subst hd;exact GJ hh he hs hw hl hk hP h
theorem vp:FnK 57 7 "_div2n1n" .none .none mC 56:=⟨λP=>by kernel_rfl,λP=>by kernel_rfl⟩
theorem Bd:FnK 64 8 "_div3n2n" .none .none mC 63:=⟨λP=>by kernel_rfl,λP=>by kernel_rfl⟩
noncomputable def n2Names:List Str:=["a","b","n"]
noncomputable def n3Names:List Str:=["a12","a3","b","b1","b2","n"]
theorem GO (P:Params)(a b c:Value):∀S,peek (Kf P) S (bindArgs (kT 7 "_div2n1n" .none .none mC 56) ⟨[a,b,c],[]⟩)=some (n2Names.zip [a,b,c]):=λS=>by kernel_rfl
theorem GN (P:Params)(a b c d e f:Value):∀S,peek (Kf P) S (bindArgs (kT 8 "_div3n2n" .none .none mC 63) ⟨[a,b,c,d,e,f],[]⟩)=some (n3Names.zip [a,b,c,d,e,f]):=λS=>by kernel_rfl
theorem RepAll.inv6 {a b c e:D}(r:RepAll W g vs [a,b,c,d,e,f]):∃v1 v2 v3 v4 v5 v6,vs=[v1,v2,v3,v4,v5,v6]/\Rep W g v1 a/\Rep W g v2 b/\Rep W g v3 c/\Rep W g v4 d/\Rep W g v5 e/\Rep W g v6 f:=by
 obtain ⟨v1,r1,rfl,h1,r⟩:=r.inv_cons
 obtain ⟨v2,r2,rfl,h2,r⟩:=r.inv_cons
 obtain ⟨v3,r3,rfl,h3,r⟩:=r.inv_cons
 apply r.elim3;intro v4 v5 v6 h4 h5 h6
 exact ⟨_,_,_,_,_,_,rfl,h1,h2,h3,h4,h5,h6⟩
noncomputable def Kt (W:Wd)(A:Around)(n:Nat):Prop:=∀a b:Int,0<=a->a < b * 2 ^ n->2 ^ (n - 1)<=b->b < 2 ^ n->bz W A (.ref 57) [.int a,.int b,.int n] [] (.tup [.int (a / b),.int (a % b)])
theorem xc (hh:A.handled=none)(hu:A.units + 100 < cLine)(hs0:env.scope=bh 8)(Gl:kS W gl)(hn:n < 10000)(hb:b=b1 * 2 ^ n + b2)(h2:0<=b2)(h2':b2 < 2 ^ n)(h3:0<=a3)(h3':a3 < 2 ^ n)(hq:0<=q0)(hqb:intBits q0<=30000)(hr:0<=r0)(hrb:intBits r0<=30000)(hbp:0 < b)(h:a12=q0 * b1 + r0)(hlt:a12 * 2 ^ n + a3 - q0 * b < b):
  fB W A env (.bind "r" (.int r0) (.bind "q" (.int q0) (dc n3Names [.int a12,.int a3,.int b,.int b1,.int b2,.int n] .nil))) [] ((aH 8).drop 1) (.tup [.int ((a12 * 2 ^ n + a3) / b),.int ((a12 * 2 ^ n + a3) % b)]) []:=by
 have hs:=hs0
 conv at hs=>rhs;whnf
 have C:=Cx.mk hs ‹_› ‹_› ‹_›
 clear hs0
 conv in iw 1 (aH 8)=>whnf
 have hb2:intBits b2<=n:=bF h2 h2'
 apply cH (d:=.int (a12 * 2 ^ n + a3 - q0 * b));exact ak;assumption;rfl;rfl
 .exact congrArg D.int (by rw [aB,yO hr h3 h3'];exact (Bx hb h2 h).symm)
 .exact ⟨ax _,(qN (.L (.a (.c Y1) (.c Y0)) (.k 134217728)) [1,1]:cz [aR Y0 (.k 10000),.l Y1 (.k 30000)]) hn hrb,dH hqb hb2 ((qN (.l (.a (.k 30000) Y0) (.k 134217728)) [1]:di [aR Y0 (.k 10000)]) hn),trivial⟩
 refine lu (α:=Int) (λq=>.bind "r" (.int (a12 * 2 ^ n + a3 - q * b)) (.bind "q" (.int q) (dc n3Names [.int a12,.int a3,.int b,.int b1,.int b2,.int n] .nil))) (λ_=>[]) (λq=>decide (a12 * 2 ^ n + a3 - q * b < 0)) (λq=>q - 1) (λq=>(-(a12 * 2 ^ n + a3 - q * b)).toNat) (λq=>a12 * 2 ^ n + a3 - q * b < b) q0 hlt
  (SubR.le ⟨rfl,rfl,rfl,rfl,rfl,rfl,rfl,rfl,trivial⟩ rfl) rfl (λ_=>rfl) (λq _=>?_) (λq hi hc=>?_) (λq hi hc=>?_)
 .apply pS;exact dg;exact trivial
 .have hneg:a12 * 2 ^ n + a3 - q * b < 0:=by simpa using hc
  have e:a12 * 2 ^ n + a3 - (q - 1) * b=a12 * 2 ^ n + a3 - q * b + b:=by rw [wx,bJ];exact au ((qN (.L (.s (.a I0 I1) (.s I2 I3)) (.a (.s (.a I0 I1) I2) I3)) []:lJ [])) ((qN (.L (.a (.s (.a I0 I1) I2) I3) (.s (.a I0 I1) (.s I2 I3))) []:lJ []))
  refine ⟨by show a12 * 2 ^ n + a3 - (q - 1) * b < b;rw [e];exact (qN (cK (.a (.s (.a I0 I1) I2) I3) I3) [1]:lJ [cK (.s (.a I0 I1) I2) J0]) hneg,by show (-(a12 * 2 ^ n + a3 - (q - 1) * b)).toNat < (-(a12 * 2 ^ n + a3 - q * b)).toNat;rw [e];exact (qK Y0 (.n (.a (.s (.a I1 I2) I3) I0)) (qL Y1 (.n (.s (.a I1 I2) I3)) (qN (aR Y0 Y1) [1,0,1,0,1])) (qL Y1 (.n (.s (.a I1 I2) I3)) (qN (aR Y0 Y1) [1,0,1,0,0,1])):qT [_,_] [_,_,_,_] [cK J0 I0,cK (.s (.a I1 I2) I3) J0] _) hbp hneg,?_⟩
  apply lx (d:=.int (q - 1)) rfl hs rfl rfl;exact ak;rfl;rfl;exact trivial
  apply lx (d:=.int (a12 * 2 ^ n + a3 - (q - 1) * b)) rfl hs rfl rfl;exact ak;rfl;exact congrArg D.int e.symm;exact trivial
  refine db ⟨rfl,?_⟩
  exact SubR.le ⟨rfl,rfl,rfl,rfl,rfl,rfl,rfl,rfl,trivial⟩ rfl
 .have hge:¬a12 * 2 ^ n + a3 - q * b < 0:=by simpa using hc
  apply cX;exact ak;rfl;exact trivial
  have hx0:=qR (T:=a12 * 2 ^ n + a3) (b:=b) (q:=q) (r:=a12 * 2 ^ n + a3 - q * b) (au ((qN (.L (.a I0 I1) (.a I2 (.s (.a I0 I1) I2))) []:Fs [])) ((qN (.L (.a I0 (.s (.a I1 I2) I0)) (.a I1 I2)) []:Fs []))) (Iff.mp Ab hge) hi;have u1:=hx0.1;have u2:=hx0.2
  exact ⟨by rw [<-u1,<-u2],rfl⟩
theorem BT (G:Good W)(Rm:Room A (k + 1))(hD:∀A,Room A k->Kt W A n)(hn:n < 10000)(hn0:0 < n)(hb:b=b1 * 2 ^ n + b2)(h1:2 ^ (n - 1)<=b1)(h1':b1 < 2 ^ n)(h2:0<=b2)(h2':b2 < 2 ^ n)(h3:0<=a3)(h3':a3 < 2 ^ n)(h0:0<=a12)(h0':a12 < b):
  bz W A (.ref 64) [.int a12,.int a3,.int b,.int b1,.int b2,.int n] [] (.tup [.int ((a12 * 2 ^ n + a3) / b),.int ((a12 * 2 ^ n + a3) % b)]):=
 (fw (names:=n3Names) (ds':=[.int a12,.int a3,.int b,.int b1,.int b2,.int n]) Bd G.prg (by kernel_rfl) (λg s vs kvs k rs hk rk=>by
  have:kvs=[]:=by simpa using hk
  subst this
  apply nj (rs.inv6);intro v1 v2 v3 v4 v5 v6 hq0 r1 r2 r3 r4 r5 r6;subst hq0
  exact ⟨_,GN _ _ _ _ _ _ _,.cons r1 (.cons r2 (.cons r3 (.cons r4 (.cons r5 (.cons r6 .nil)))))⟩) rfl Rm.dep λenv hs0 e2 e3=>by
  have Rd:=Room.deeper (env:=env) (k:=k) Rm
  have hh:=Rd.handled
  have hu:(A.deeper env).units + 100 < cLine:=Rd.u100
  have Gl:=eX G.prg
  have hp:=cF n
  have hp1:=cF (n - 1)
  have hb1:0 < b1:=dx hp1 h1
  have hbp:0 < b:=by have:=Int.mul_pos hb1 hp;exact fM h0 h0'
  have hle:=Pa hb h2' h0'
  have hb12:b < 2 ^ (n + n):=by
   have:(b1 + 1) * 2 ^ n<=2 ^ n * 2 ^ n:=aW (vO h1') (ay hp)
   rw [eB,bJ] at this
   rw [dQ];exact (qN (cK I0 I4) [1,0,1,1]:uj [.E I0 (.a I1 I2),cK I2 I3,.L (.a I1 I3) I4]) hb h2' this
  have ba12:intBits a12<=n + n:=bF h0 ((qN (cK I0 I2) [1,1]:Fs [cK I0 I1,cK I1 I2]) h0' hb12)
  have bb1:intBits b1<=n:=bF (ay hb1) h1'
  have eq1:a12 / 2 ^ n * 2 ^ n + a12 % 2 ^ n=a12:=by rw [aX];have:=bH a12 (2 ^ n);exact au (BC this) (BD this)
  have mod0:=ca a12 (bx hp)
  have mod1:=bA a12 hp
  have i1:intBits 1=1:=by decide
  have hs:=hs0
  conv at hs=>rhs;whnf
  have C:=Cx.mk hs ‹_› ‹_› ‹_›
  conv in aH 8=>whnf
  apply df;exact dg;exact ⟨ax _,trivial⟩
  .intro hc
   have hc:a12 / 2 ^ n=b1:=by rw [<-rP];simpa using hc
   have hr0:a12 - b1 * 2 ^ n + b1=a12 % 2 ^ n + b1:=by rw [<-hc];exact au ((qN (.L (.a (.s I2 I0) I3) (.a I1 I3)) [0,1]:lJ [.E (.a I0 I1) I2]) eq1) ((qN (.L (.a I1 I3) (.a (.s I2 I0) I3)) [1]:lJ [.E (.a I0 I1) I2]) eq1)
   apply v8 (ds:=[.int (2 ^ n - 1),.int (a12 - b1 * 2 ^ n + b1)]) hh;exact ak;assumption;rfl
   .rw [aB,bJ]
   .rfl
   .rfl
   .exact ⟨ax _,by rw [i1];exact (qN (.L (.a J1 (.c Y0)) (.k 134217728)) [1]:di [aR Y0 (.k 10000)]) hn,ax _,(qN (.L (.a (.c Y1) (.c Y0)) (.k 134217728)) [2,1]:cz [aR Y0 (.k 10000),.l Y1 Y0]) hn bb1,trivial⟩
   apply cG
   refine de (ρ':=.bind "r" (.int (a12 - b1 * 2 ^ n + b1)) (.bind "q" (.int (2 ^ n - 1)) (dc n3Names [.int a12,.int a3,.int b,.int b1,.int b2,.int n] .nil))) (SubR.le ⟨rfl,rfl,rfl,rfl,rfl,rfl,rfl,rfl,trivial⟩ rfl) ?_
   refine xc hh hu hs0 Gl hn hb h2 h2' h3 h3' (Jd hp) ?_ ((qN (.L J0 (.a (.s I2 I3) I0)) [1,1,0,1]:lJ [cK J0 I0,.L J0 I1,.E (.a (.s I2 I3) I0) (.a I1 I0)]) hb1 mod0 hr0) ?_ hbp ?_ (N1 h3' h0')
   .exact ai (bF (m:=n) (Jd hp) (Ma)) (Jc hn)
   .rw [hr0]
    exact ai (bF (m:=n + 1) (JP hb1 mod0) (by rw [nG];exact (qN (cK (.a I2 I0) (.w I1 2)) [1,1]:Fs [cK I0 I1,cK I2 I1]) h1' mod1)) ((qN (aR Y0 (.k 30000)) [1]:di [aR Y0 (.k 10000)]) hn)
   .rw [hr0,wx,bJ]
    have:2 ^ n * b1=a12 / 2 ^ n * 2 ^ n:=by rw [hc,aX]
    exact au ((qN (.L I2 (.a (.s I3 I4) (.a I1 I4))) [0,1,0,1]:uj [.E (.a I0 I1) I2,.E I3 I0]) eq1 this) ((qN (.L (.a (.s I3 I4) (.a I1 I4)) I2) [1,0,1]:uj [.E (.a I0 I1) I2,.E I3 I0]) eq1 this)
  .intro hc
   have hc:a12 / 2 ^ n≠b1:=by rw [<-rP];simpa using hc
   have hlt:a12 < b1 * 2 ^ n:=by
    have:a12 / 2 ^ n + 1<=b1:=(Int.lt_or_gt_of_ne hc).elim (λz0=>vO z0) (λz0=>(qN (cK I0 I1) [2,1]:kI [.L I0 I1,cK I1 I0]) hle z0)
    have:=aW this (ay hp)
    rw [eB,bJ] at this
    exact (qN (cK I2 I4) [0,1,1,1]:uj [.E (.a I0 I1) I2,cK I1 I3,.L (.a I0 I3) I4]) eq1 mod1 this
   have hcall:=hD (A.deeper env) Rd a12 b1 h0 hlt h1 h1'
   have hkp:=cL vp G.prg
   have m0:=ca a12 (bx hb1)
   have m1:=bA a12 hb1
   have q0:0<=a12 / b1:=em h0 (ay hb1)
   have q1:=pA hb1 hlt
   have e:=bH a12 b1
   have e':a12=a12 / b1 * b1 + a12 % b1:=by rw [aX];exact au (BD e) (BC e)
   apply gg (ds:=[.int (a12 / b1),.int (a12 % b1)]) hh;(apply fg (P4:=[]);exact ak;apply av rfl;exact ak;apply av rfl;exact ak;apply av rfl;exact ak;exact bo;exact cf;assumption;intro _;assumption);assumption;rfl;rfl;rfl;exact trivial
   apply cG
   refine xc hh hu hs0 Gl hn hb h2 h2' h3 h3' q0 ?_ m0 ?_ hbp e' ?_
   .exact ai (bF q0 q1) (Jc hn)
   .exact ai (bF (m:=n) m0 (Jh h1' m1)) (Jc hn)
   .rw [Bx hb h2 e'];exact N0 hb h2 q0 h3' m1).toTo
theorem xf (hh:A.handled=none)(hu:A.units + 100 < cLine)(hs0:env.scope=bh 7)(G:Good W){h:Nat}(hn:h < 9000)(hh0:0 < h){a:Int}(Cc:Int)(hpad:Cc=0\/Cc=1)(h0:0<=a)(ha:a < b * 2 ^ (2 * h))(hb1:2 ^ (2 * h - 1)<=b)(hb2:b < 2 ^ (2 * h))(h3:∀a12 a3:Int,0<=a3->a3 < 2 ^ h->0<=a12->a12 < b->bz W A (.ref 64) [.int a12,.int a3,.int b,.int (b / 2 ^ h),.int (b % 2 ^ h),.int h] [] (.tup [.int ((a12 * 2 ^ h + a3) / b),.int ((a12 * 2 ^ h + a3) % b)])):
  fB W A env (.bind "pad" (.int Cc) (dc n2Names [.int a,.int b,.int ((2 * h:Nat):Int)] .nil)) [] ((aH 7).drop 3) (.tup [.int (a / b),.int (if Cc=1 then (a % b) / 2 else a % b)]) []:=by
 have Gl:=eX G.prg
 have hs:=hs0
 conv at hs=>rhs;whnf
 have C:=Cx.mk hs ‹_› ‹_› ‹_›
 clear hs0
 conv in iw 3 (aH 7)=>whnf
 have i1:intBits 1=1:=by decide
 have hp:=cF h
 have hp2:=cF (2 * h)
 have hpb:=cF (2 * h - 1)
 have hb:0 < b:=dx hpb hb1
 have ba:intBits a<=4 * h:=bF h0 (by
  have:b * 2 ^ (2 * h)<=2 ^ (2 * h) * 2 ^ (2 * h):=aW (ay hb2) (ay hp2)
  rw [<-dQ] at this
  have e:2 * h + 2 * h=4 * h:=ar ((qN (.l (.a (.m 2 Y0) (.m 2 Y0)) (.m 4 Y0)) []:di [])) ((qN (.l (.m 4 Y0) (.a (.m 2 Y0) (.m 2 Y0))) []:di []))
  rw [e] at this
  exact dx ha this)
 have kp:=cL Bd G.prg
 have a1:0<=a / 2 ^ (2 * h):=em h0 (ay hp2)
 have a2:a / 2 ^ (2 * h) < b:=eJ hp2 ha
 have ah:0<=a / 2 ^ h:=em h0 (ay hp)
 have m1:=ca (a / 2 ^ h) (bx hp)
 have m2:=bA (a / 2 ^ h) hp
 have m3:=ca a (bx hp)
 have m4:=bA a hp
 have r1:=ca (a / 2 ^ h) (bx hb)
 have r2:=bA (a / 2 ^ h) hb
 have c1:=h3 (a / 2 ^ (2 * h)) (a / 2 ^ h % 2 ^ h) m1 m2 a1 a2
 rw [IY] at c1
 have c2:=h3 (a / 2 ^ h % b) (a % 2 ^ h) m3 m4 r1 r2
 have hx0:=Ly (h:=h) (a:=a) hb;have l1:=hx0.1;have l2:=hx0.2
 have q2lt:(a / 2 ^ h % b * 2 ^ h + a % 2 ^ h) / b < 2 ^ h:=pA hb (by
  have:(a / 2 ^ h % b + 1) * 2 ^ h<=b * 2 ^ h:=aW (vO r2) (ay hp)
  rw [eB,bJ] at this
  exact Jm m4 this)
 have q2nn:0<=(a / 2 ^ h % b * 2 ^ h + a % 2 ^ h) / b:=em (by have:=fA r1 (ay hp);exact Jg m3 this) (ay hb)
 have q1nn:0<=a / 2 ^ h / b:=em ah (ay hb)
 have q1b:intBits (a / 2 ^ h / b)<=4 * h:=bF q1nn (by
  have e1:a / 2 ^ h<=a:=Int.ediv_le_self _ h0
  have e2:a / 2 ^ h / b<=a / 2 ^ h:=Int.ediv_le_self _ ah
  have e3:=gP h0 ba
  exact (qN (cK I2 I3) [1,1,1]:lJ [.L I0 I1,.L I2 I0,cK I1 I3]) e1 e2 e3)
 apply cH (d:=.int h);exact ak;assumption;rfl;rfl
 .refine congrArg D.int ?_
  show ((2 * h:Nat):Int).fdiv 2=(h:Int)
  rw [bY _ (by decide)];exact au ((qM I0 (.c (.m 2 Y0)) 1 (qN (.L I0 (.c Y0)) [1] 1):oY [])) ((qM I0 (.c (.m 2 Y0)) 1 (qN (.L (.c Y0) I0) [0,1] 1):oY []))
 .exact ⟨Dw,trivial⟩
 apply cH (d:=.int (2 ^ h - 1));exact ak;assumption;rfl;rfl
 .rw [aB,bJ]
 .exact ⟨ax _,by rw [i1];exact (qN (.L (.a J1 (.c Y0)) (.k 134217728)) [1]:di [aR Y0 (.k 9000)]) hn,trivial⟩
 apply v8 (ds:=[.int (b / 2 ^ h),.int (b % 2 ^ h)]) hh;exact ak;assumption;rfl
 .rw [aB,rP,wf (ay hb)]
 .rfl
 .rfl
 .exact ⟨ax _,trivial⟩
 apply gg (ds:=[.int (a / 2 ^ h / b),.int (a / 2 ^ h % b)]) hh
 .apply fg (P4:=[]) (kd:=[]);exact ak
  .apply av rfl;(apply zB (d:=.int (a / 2 ^ (2 * h)));exact ak;exact congrArg D.int (by rw [aB,rP]))
   apply av rfl;(apply zB (d:=.int (a / 2 ^ h % 2 ^ h));exact ak;exact congrArg D.int (by rw [aB,rP,wf ah]))
   (apply av rfl;exact ak;apply av rfl;exact ak;apply av rfl;exact ak;apply av rfl;exact ak;exact bo)
  .exact cf
  .exact kp
  .exact λ_=>c1
 .assumption
 .rfl
 .rfl
 .rfl
 .exact ⟨ax _,ax _,trivial⟩
 apply gg (ds:=[.int ((a / 2 ^ h % b * 2 ^ h + a % 2 ^ h) / b),.int ((a / 2 ^ h % b * 2 ^ h + a % 2 ^ h) % b)]) hh
 .apply fg (P4:=[]) (kd:=[]);exact ak
  .apply av rfl;exact ak
   apply av rfl;(apply zB (d:=.int (a % 2 ^ h));exact ak;exact congrArg D.int (by rw [wf h0]))
   (apply av rfl;exact ak;apply av rfl;exact ak;apply av rfl;exact ak;apply av rfl;exact ak;exact bo)
  .exact cf
  .exact kp
  .exact λ_=>c2
 .assumption
 .rfl
 .rfl
 .rfl
 .exact trivial
 have fin:i7 (a / 2 ^ h / b * 2 ^ (h:Int).toNat) ((a / 2 ^ h % b * 2 ^ h + a % 2 ^ h) / b)=a / b:=by
  rw [aB,yO q1nn q2nn q2lt,l1]
 rcases hpad with rfl | rfl
 .apply eZ;exact dg;exact trivial
  apply cG
  apply cX;exact ak;rfl;exact ⟨ax _,My hn q1b,trivial⟩
  exact ⟨by rw [fin,l2];rfl,rfl⟩
 .apply eZ;exact dg;exact trivial
  apply BY rfl hs rfl rfl;exact ak;rfl;exact ⟨by decide,trivial⟩
  apply cG
  apply cX;exact ak;rfl;exact ⟨ax _,My hn q1b,trivial⟩
  refine ⟨?_,rfl⟩
  have e2:(a % b).fdiv (2 ^ (1:Int).toNat)=a % b / 2:=by
   show (a % b).fdiv 2=_
   rw [bY _ (by decide)]
  rw [fin,l2,e2];rfl
theorem pV (G:Good W){h:Nat}(Rm:Room A (k + 1))(hD:∀A,Room A k->Kt W A h)(hn:h < 9000)(hh0:0 < h)(hb1:2 ^ (2 * h - 1)<=b)(hb2:b < 2 ^ (2 * h)):
  ∀a12 a3:Int,0<=a3->a3 < 2 ^ h->0<=a12->a12 < b->bz W A (.ref 64) [.int a12,.int a3,.int b,.int (b / 2 ^ h),.int (b % 2 ^ h),.int h] [] (.tup [.int ((a12 * 2 ^ h + a3) / b),.int ((a12 * 2 ^ h + a3) % b)]):=λa12 a3 h1 h2 h3 h4=>by
 have hp:=cF h
 have e:=bH b (2 ^ h)
 refine BT G Rm hD (aw hn (ac rfl)) hh0 (by rw [aX];exact au (BD e) (BC e)) ?_ ?_ (ca _ (bx hp)) (bA _ hp) h1 h2 h3 h4
 .refine Int.le_ediv_of_mul_le hp ?_
  rw [<-dQ]
  have:h - 1 + h=2 * h - 1:=ar ((qB Y1 Y0 J1 (qA Y2 (.m 2 Y0) J1 (qN (.l (.a Y1 Y0) Y2) [0,1,0,1])) (qA Y2 (.m 2 Y0) J1 (qN (.l (.a Y1 Y0) Y2) [0,1,0,1,0,1])):dL [aR J0 Y0]) hh0) ((qB Y1 Y2 J1 (qB Y0 (.m 2 Y2) J1 (qN (.l Y0 (.a Y1 Y2)) [0,1,0,0,0,1]) (qN (.l Y0 (.a Y1 Y2)) [0,1])) (qB Y0 (.m 2 Y2) J1 (qN (.l Y0 (.a Y1 Y2)) [0,1,0,1]) (qN (.l Y0 (.a Y1 Y2)) [0,1])):dL []))
  rw [this];exact hb1
 .refine eJ hp ?_
  rw [<-dQ]
  have:h + h=2 * h:=ar (L7) (L8)
  rw [this];exact hb2
theorem xV (G:Good W)(Rm:Room A (k + 2))(hn0:0 < n)(hn2:n<=8500)(hD:4000 < n->∀A,Room A k->∀h,0 < h->2 * h<=n + 1->Kt W A h):Kt W A n:=λa b h0 ha hb1 hb2=>
 kC vp G (Nv GO) Rm λenv hs hh hu Gl Rd e2 e3=>by
  have hs0:=hs
  have hp1:=cF (n - 1)
  have hp:=cF n
  have hb:0 < b:=(qN (cK J0 I1) [1,1]:kI [.L I0 I1,cK J0 I0]) hb1 hp1
  have ba:intBits a<=n + n:=bF h0 (by
   have:b * 2 ^ n<=2 ^ n * 2 ^ n:=aW (ay hb2) (ay hp)
   rw [<-dQ] at this
   exact dx ha this)
  conv at hs=>rhs;whnf
  have C:=Cx.mk hs ‹_› ‹_› ‹_›
  conv in aH 7=>whnf
  apply df;exact dg;exact trivial
  .intro _
   apply cX;exact ak;rfl;exact ⟨bx hb,wJ hb hb2 (ai hn2 (ac rfl)),trivial⟩
   exact ⟨by rw [bY _ (ay hb),gy _ (ay hb)],rfl⟩
  intro hc
  have hbig:4000 < n:=by simp at hc;exact (qN (aR (.k 4000) Y1) [1,1]:cz [.l Y0 (.a Y1 Y1),cK (.k 4000) (.s (.c Y0) (.c Y1))]) ba hc
  have hD:=hD hbig
  apply cG
  rcases Nat.mod_two_eq_zero_or_one n with e | e
  .obtain ⟨h,rfl⟩:∃h,n=2 * h:=⟨n / 2,ar ((qJ Y0 Y2 Y1 1 (qN (.l Y1 (.m 2 Y2)) [1,0,0,1]):dL [.e Y0 J0]) e) ((qI Y0 Y1 1 (qN (.l (.m 2 Y0) Y1) [1]):cz []))⟩
   apply cH (d:=.int 0);exact ak;assumption;rfl;rfl;exact congrArg D.int (by rw [bitAnd_m1];lia);exact trivial
   apply eZ;exact dg;exact trivial
   apply cG
   exact xf hh hu hs0 G (L9 hn2) (Jf hn0) 0 (.inl rfl) h0 ha hb1 hb2 (pV G Rd (λA R=>hD A R h (Jf hn0) ((qN (.l (.m 2 Y0) (.a (.m 2 Y0) J1)) []:di []))) (L9 hn2) (Jf hn0) hb1 hb2)
  .obtain ⟨j,rfl⟩:∃j,n=2 * j + 1:=⟨n / 2,ar ((qI Y1 Y0 1 (qN (.l Y0 (.a (.m 2 Y1) J1)) [0,1]):cz [])) ((qJ Y0 Y1 Y2 1 (qN (aR (.m 2 Y1) Y2) [0,1,0,0,1]):dL [.e Y0 J1]) e)⟩
   have e1:2 * (j + 1)=(2 * j + 1) + 1:=ar (Mz) ((qN (aR (.a (.m 2 Y0) J1) (.m 2 (.a Y0 J1))) []:di []))
   have e2:2 * (j + 1) - 1=(2 * j) + 1:=ar ((qB Y0 (.m 2 (.a Y1 J1)) J1 (qN (.l Y0 (.a (.m 2 Y1) J1)) [0,1]) (qN (.l Y0 (.a (.m 2 Y1) J1)) [0,1]):cz [])) ((qA Y1 (.m 2 (.a Y0 J1)) J1 (qN (aR (.m 2 Y0) Y1) [0,1]):cz []))
   have p1:(2:Int) ^ (2 * (j + 1))=2 ^ (2 * j + 1) * 2:=by rw [e1,nG]
   have p2:(2:Int) ^ (2 * (j + 1) - 1)=2 ^ (2 * j) * 2:=by rw [e2,nG]
   have hb1':2 ^ (2 * j)<=b:=by
                    have:2 * j + 1 - 1=2 * j:=by exact ar ((qB Y0 (.a (.m 2 Y1) J1) J1 (qN (.l Y0 (.m 2 Y1)) [0,1]) (qN (.l Y0 (.m 2 Y1)) [0,1]):cz [])) ((qA Y1 (.a (.m 2 Y0) J1) J1 (qN (.l (.m 2 Y0) Y1) [0,1]):cz []))
                    rw [this] at hb1;exact hb1
   have b1:2 ^ (2 * (j + 1) - 1)<=b * 2:=by rw [p2];exact (qN (.L (.w I0 2) (.w I1 2)) [2]:kI [.L I0 I1]) hb1'
   have b2:b * 2 < 2 ^ (2 * (j + 1)):=by rw [p1];exact (qN (cK (.w I0 2) (.w I1 2)) [2]:kI [cK I0 I1]) hb2
   have a2:a * 2 < b * 2 * 2 ^ (2 * (j + 1)):=by
    rw [p1]
    have:b * 2 * (2 ^ (2 * j + 1) * 2)=(b * 2 ^ (2 * j + 1)) * 4:=by
     generalize (2:Int) ^ (2 * j + 1)=X
     have:b * 2 * (X * 2)=b * X * (2 * 2):=by rw [cE,cE,<-cE 2 X 2,aX 2 X,cE X 2 2]
     rw [this];rfl
    rw [this];exact (qN (cK (.w I0 2) (.w I1 4)) [2,4]:kI [.L J0 I0,cK I0 I1]) h0 ha
   apply cH (d:=.int 1);exact ak;assumption;rfl;rfl;exact congrArg D.int (by rw [bitAnd_m1];lia);exact trivial
   apply eZ;exact dg;exact trivial
   apply lx (d:=.int (a * 2)) rfl hs rfl rfl;exact ak;rfl;rfl;exact ⟨by decide,(qN (cK (.c Y1) (.k 134217728)) [2,1]:cz [aR (.m 2 Y0) (.k 8500),.l Y1 (.a (.a (.m 2 Y0) J1) (.a (.m 2 Y0) J1))]) hn2 ba,trivial⟩
   apply lx (d:=.int (b * 2)) rfl hs rfl rfl;exact ak;rfl;rfl;exact ⟨by decide,by have:=bF (ay hb) hb2;exact (qN (cK (.c Y1) (.k 134217728)) [1,1]:cz [aR (.m 2 Y0) (.k 8500),.l Y1 (.a (.m 2 Y0) J1)]) hn2 this,trivial⟩
   apply lx (d:=.int ((2 * (j + 1):Nat):Int)) rfl hs rfl rfl;exact ak;rfl;exact congrArg D.int (by push_cast;exact au ((qN (cK (.a (.m 2 (.c Y0)) J1) (.m 2 (.a (.c Y0) J1))) []:di [])) ((qN (.L (.m 2 (.a (.c Y0) J1)) (.a (.a (.m 2 (.c Y0)) J1) J1)) []:di [])));exact trivial
   apply cG
   refine de (ρ':=.bind "pad" (.int 1) (dc n2Names [.int (a * 2),.int (b * 2),.int ((2 * (j + 1):Nat):Int)] .nil)) (SubR.le ⟨rfl,rfl,rfl,rfl,trivial⟩ rfl) ?_
   have tl:=xf (a:=a * 2) (b:=b * 2) (h:=j + 1) hh hu hs0 G (Mp hn2) (EW) 1 (.inr rfl) ((qN (.L J0 (.w I0 2)) [2]:oZ [.L J0 I0]) h0) a2 b1 b2 (pV G Rd (λA R=>hD A R (j + 1) (EW) (Mz)) (Mp hn2) (EW) b1 b2)
   have e4:a * 2 / (b * 2)=a / b:=Int.mul_ediv_mul_of_pos_left a b (by decide)
   have e5:(if (1:Int)=1 then a * 2 % (b * 2) / 2 else a * 2 % (b * 2))=a % b:=by
    rw [if_pos rfl,aX a,aX b,Int.mul_emod_mul_of_pos _ _ (by decide)];exact au ((qM I0 (.m 2 I1) 1 (qN (.L I0 I1) [1] 1):qT [(A.deeper env).units] [_,_] [] _)) ((qM I1 (.m 2 I0) 1 (qN (.L I0 I1) [0,1] 1):qT [(A.deeper env).units] [_,_] [] _))
   rw [e4,e5] at tl
   exact tl
theorem IU (G:Good W):∀(m:Nat) (A:Around) (n:Nat),Room A (2 * m + 2)->0 < n->n<=4000 * 2 ^ m->n<=8500->Kt W A n:=by
 intro m
 induction m with
 | zero=>intro A n Rm hn0 hn hn2;exact xV G (k:=0) Rm hn0 hn2 λh=>((qF [1,1]:di [.l Y0 (.k 4000),aR (.k 4000) Y0]) hn h).elim
 | succ m ih=>
  intro A n Rm hn0 hn hn2
  have p:2 ^ (m + 1)=2 * 2 ^ m:=by rw [nA,iY]
  exact xV G (k:=2 * m + 2) Rm hn0 hn2 λ_ A R h h0 h1=>ih A h R h0 (by lia) ((qN (.l Y1 (.k 8500)) [1,1,1]:cz [.l Y0 (.k 8500),aR J0 Y1,.l (.m 2 Y1) (.a Y0 J1)]) hn2 h0 h1)
noncomputable def qs (b:Int)(n:Nat):Int->List Int->List Int
 | _,[]=>[]
 | r,d :: xs=>(r * 2 ^ n + d) / b :: qs b n ((r * 2 ^ n + d) % b) xs
noncomputable def CM (b:Int)(n:Nat):Int->List Int->Int
 | r,[]=>r
 | r,d :: xs=>CM b n ((r * 2 ^ n + d) % b) xs
noncomputable def val (n:Nat):Int->List Int->Int
 | r,[]=>r
 | r,d :: xs=>val n (r * 2 ^ n + d) xs
theorem Et (b:Int)(n:Nat):∀(xs:List Int) (r d:Int),qs b n r (xs++[d])=qs b n r xs++[(CM b n r xs * 2 ^ n + d) / b]/\CM b n r (xs++[d])=(CM b n r xs * 2 ^ n + d) % b
 | [],r,d=>⟨rfl,rfl⟩
 | x :: xs,r,d=>by
  have hx0:=Et b n xs ((r * 2 ^ n + x) % b) d;have h1:=hx0.1;have h2:=hx0.2
  exact ⟨by simp only [b8,qs,CM,h1],by simp only [b8,CM,h2]⟩
theorem nO (b:Int)(n:Nat):∀(xs:List Int) (r:Int),(qs b n r xs).length=xs.length
 | [],_=>rfl
 | x :: xs,r=>by simp [qs,nO b n xs]
theorem Cs (n:Nat):∀(xs:List Int) (r:Int),val n r xs=dW n (xs.reverse++[r])
 | [],r=>by simp [val,dW]
 | d :: xs,r=>by
  rw [val,Cs n xs,iF,dI,fv,fv]
  congr 2
  simp only [b8,jG,dW,nH,nI]
  rw [aX];exact au (EX) (EX)
theorem Hv (n:Nat)(xs:List Int):val n 0 xs=dW n xs.reverse:=by
 rw [Cs,fv];simp [dW]
theorem CP {b:Int}{n:Nat}(hb:0 < b):∀(xs:List Int) (r:Int),0<=r->r < b->val n r xs=dW n (qs b n r xs).reverse * b + CM b n r xs/\0<=CM b n r xs/\CM b n r xs < b
 | [],r,h0,h1=>by simp [val,qs,CM,dW,h0,h1]
 | d :: xs,r,h0,h1=>by
  have m0:=ca (r * 2 ^ n + d) (bx hb)
  have m1:=bA (r * 2 ^ n + d) hb
  have hx0:=CP (n:=n) hb xs ((r * 2 ^ n + d) % b) m0 m1;have i1:=hx0.1;have i2:=hx0.2.1;have i3:=hx0.2.2
  refine ⟨?_,i2,i3⟩
  simp only [val,qs,CM,iF]
  have e:=bH (r * 2 ^ n + d) b
  have hl:(qs b n ((r * 2 ^ n + d) % b) xs).reverse.length=xs.length:=by rw [dO,nO]
  rw [fv,hl]
  simp only [dW,nH,nI]
  rw [Cs] at i1 ⊢
  rw [fv,dO] at i1 ⊢
  simp only [dW,nH,nI] at i1 ⊢
  generalize (r * 2 ^ n + d) / b=Q at *
  generalize (r * 2 ^ n + d) % b=R at *
  rw [<-e,eB,gx]
  rw [aX b Q,cE]
  exact au ((qN (.L (.a I0 (.a I1 I4)) (.a (.a I2 I4) I3)) [1]:uj [.E (.a I0 I1) (.a I2 I3)]) i1) ((qN (.L (.a (.a I2 I4) I3) (.a I0 (.a I1 I4))) [0,1]:uj [.E (.a I0 I1) (.a I2 I3)]) i1)
theorem AJ {b:Int}{n:Nat}(hb:0 < b):∀(xs:List Int) (r:Int),0<=r->r < b->(∀d∈xs,0<=d/\d < 2 ^ n)->∀q∈qs b n r xs,0<=q/\q < 2 ^ n
 | [],_,_,_,_,q,h=>by cases h
 | d :: xs,r,h0,h1,hd,q,h=>by
  have hp:=cF n
  have hx0:=hd d (.head _);have d0:=hx0.1;have d1:=hx0.2
  rcases List.mem_cons.mp h with rfl | h
  .have e0:0<=r * 2 ^ n + d:=by have:=fA h0 (ay hp);exact Jg hx0.1 this
   refine ⟨em e0 (ay hb),pA hb ?_⟩
   have:(r + 1) * 2 ^ n<=b * 2 ^ n:=aW (vO h1) (ay hp)
   rw [eB,bJ] at this
   exact Jm hx0.2 this
  .exact AJ hb xs _ (ca _ (bx hb)) (bA _ hb) (λd hd'=>hd d (.tail _ hd')) q h
theorem zr {a:Int}(hb:0 < b):-((-a - 1) / b) - 1=a / b/\b + (-((-a - 1) % b) - 1)=a % b:=by
 have e:=bH (-a - 1) b
 have m0:=ca (-a - 1) (bx hb)
 have m1:=bA (-a - 1) hb
 refine qR (b:=b) ?_ ((qN (.L J0 (.a I1 (.s (.n I0) J1))) [1]:kI [cK I0 I1]) m1) ((qN (cK (.a I1 (.s (.n I0) J1)) I1) [1]:kI [.L J0 I0]) m0)
 rw [wx,pJ,bJ,aX ((-a - 1) / b) b]
 exact au ((qN (.L I2 (.a (.s (.n I1) I3) (.a I3 (.s (.n I0) J1)))) [1]:lJ [.E (.a I0 I1) (.s (.n I2) J1)]) e) ((qN (.L (.a (.s (.n I1) I3) (.a I3 (.s (.n I0) J1))) I2) [0,1]:lJ [.E (.a I0 I1) (.s (.n I2) J1)]) e)
theorem gd {a:Int}(hb:0 < b):a.fdiv b=a / b/\a.fmod b=a % b:=⟨bY _ (ay hb),gy _ (ay hb)⟩
theorem Bf {a:Int}(hb:b < 0):a.fdiv b=(-a) / (-b)/\a.fmod b= -((-a) % (-b)):=by
 have e1:a.fdiv b=(-a).fdiv (-b):=(Int.neg_fdiv_neg a b).symm
 have e2:a.fmod b= -((-a).fmod (-b)):=by
  rw [Int.fmod_def,Int.fmod_def,<-e1]
  rw [pJ];exact au ((qN (.L (.s I0 I1) (.n (.s (.n I0) (.n I1)))) []:kI [])) ((qN (.L (.n (.s (.n I0) (.n I1))) (.s I0 I1)) []:kI []))
 rw [e1,e2,(gd (Ji hb)).1,(gd (Ji hb)).2]
 exact ⟨rfl,rfl⟩
theorem v7 (hs:env.scope.kind=.function)(hline:(apos.endLine==pos.line)=true)(hx:aQ W A env ρ (.Name x q) (.ref a))(h:EvAll W A env ρ es [d])(hn:dz es.length 30=true)(hz:ds.length<=sizeLine)(hr:Blk W A env ρ ((a,.list (ds++[d])) :: L) rest Kn Pr):
  Blk W A env ρ ((a,.list ds) :: L) (.Expr (.Call (.Attribute (.Name x q) "append" apos) es [] pos) p :: rest) Kn Pr:=
 vY hs hline hn F.slot_list_append F.type_list_append hx h (A5 hz) hr
theorem BX (hs:env.scope.kind=.function)(hline:(apos.endLine==pos.line)=true)(hx:aQ W A env ρ (.Name x q) (.ref a))(hz:ds.length<=sizeLine)(hr:Blk W A env ρ ((a,.list ds.reverse) :: L) rest Kn Pr):
  Blk W A env ρ ((a,.list ds) :: L) (.Expr (.Call (.Attribute (.Name x q) "reverse" apos) [] [] pos) p :: rest) Kn Pr:=
 vY (eds:=[]) hs hline rfl F.slot_list_reverse F.type_list_reverse hx .nil (zc hz) hr
theorem EJ:FnK 85 11 "_divmod_pos" .none .none mC 84:=⟨λP=>by kernel_rfl,λP=>by kernel_rfl⟩
theorem nU:FnK 92 12 "int_divmod" .none .none mC 91:=⟨λP=>by kernel_rfl,λP=>by kernel_rfl⟩
noncomputable def abNames:List Str:=["a","b"]
theorem Kj (P:Params)(a b:Value):∀S,peek (Kf P) S (bindArgs (kT 11 "_divmod_pos" .none .none mC 84) ⟨[a,b],[]⟩)=some (abNames.zip [a,b]):=λS=>by kernel_rfl
theorem B3 (P:Params)(a b:Value):∀S,peek (Kf P) S (bindArgs (kT 12 "int_divmod" .none .none mC 91) ⟨[a,b],[]⟩)=some (abNames.zip [a,b]):=λS=>by kernel_rfl
theorem pE (G:Good W)(Rm:Room A 40){a:Int}(ha:0<=a)(hb:0 < b)(ba:intBits a<=2 ^ 22)(bb:intBits b<=8500):bz W A (.ref 85) [.int a,.int b] [] (.tup [.int (a / b),.int (a % b)]):=
 kC EJ G (HS Kj) Rm λenv hs hh hu Gl Rd e2 e3=>by
  have hx0:=BZ hb;have bp:=hx0.1;have b1:=hx0.2.1;have b2:=hx0.2.2
  obtain ⟨n,hn⟩:∃n,n=intBits b:=⟨_,rfl⟩
  rw [<-hn] at bp b1 b2 bb
  have k1:=cL t6 G.prg
  have k2:=cL vp G.prg
  have k3:=cL qw G.prg
  have dl:=ES (a:=a) bp
  have dl2:gH n a<=n * gH n a:=D7 _ bp
  have dl3:=EQ (a:=a) bp
  have c1:=pD (A:=A.deeper env) (m:=23) G bp (bI bb (ac rfl)) ha (Rd.le (JL)) ba (ME ba bb dl dl2)
  have D2:=IU G 2 (A.deeper env) n (Rd.le ((qN (.l (.k 6) (.k 39)) []:Hx []))) bp (ai bb (ac rfl)) bb
  obtain ⟨xs,hxs⟩:∃xs,xs=(iT n (gH n a) a).reverse:=⟨_,rfl⟩
  have hxl:xs.length=gH n a:=by rw [hxs,dO,ge]
  have hxb:∀d∈xs,0<=d/\d < 2 ^ n:=λd hd=>pB n _ _ d (by rw [hxs] at hd;exact List.mem_reverse.mp hd)
  have hrem:∀k,0<=CM b n 0 (xs.take k)/\CM b n 0 (xs.take k) < b:=λk=>(CP hb (xs.take k) 0 (ee _) hb).2
  have hv:=CP (n:=n) hb xs 0 (ee _) hb
  rw [Hv,hxs,List.reverse_reverse,uM n _ _ ha (gP ha dl3),<-hxs] at hv
  have hx0:=qR hv.1 hv.2.1 hv.2.2;have u1:=hx0.1;have u2:=hx0.2
  have hqb:=AJ (n:=n) hb xs 0 (ee _) hb hxb
  have hql:=nO b n xs 0
  conv at hs=>rhs;whnf
  have C:=Cx.mk hs ‹_› ‹_› ‹_›
  have hkind:env.scope.kind=.function:=by rw [hs]
  conv in aH 11=>whnf
  apply cH (d:=.int n);exact ak;assumption;rfl;rfl;rw [hn];exact trivial
  (apply bW;apply fg (P4:=[]);exact ak;apply av rfl;exact ak;apply av rfl;exact ak;exact bo;exact cf;assumption;intro _;assumption;assumption;rfl;rfl);exact trivial
  (apply bW;exact ak;assumption;rfl;rfl);exact trivial
  refine n8 (d:=.list []) (lW .nil (by decide)) (el hs rfl) rfl λaq=>?_
  refine gL (ds:=xs.map .int) (λk=>.bind "r" (.int (CM b n 0 (xs.take k))) (.bind "q_digits" (.ref aq) (.bind "a_digits" (.list ((iT n (gH n a) a).map .int)) (.bind "n" (.int n) (dc abNames [.int a,.int b] .nil)))))
   (λk=>[(aq,.list ((qs b n 0 (xs.take k)).map .int))]) hh rfl ?_ (SubR.le ⟨rfl,rfl,rfl,rfl,rfl,rfl,trivial⟩ rfl) rfl (λ_ _=>rfl) (λk d hd=>?_) ?_
  .have e:xs.map D.int=((iT n (gH n a) a).map D.int).reverse:=by rw [hxs,ua]
   rw [e]
   exact gF (tG hh (by apply dq;exact ak;exact trivial) (aJ rfl) (by apply dq;exact ak;exact trivial))
  .obtain ⟨x,hx,rfl⟩:∃x,xs[k]? =some x/\d=.int x:=by
    rw [List.getElem?_map] at hd
    cases hx:xs[k]? with
    | none=>rw [hx] at hd;exact (aK hd).elim
    | some x=>rw [hx] at hd;(refine eQ hd ?_;clear hd;intro q₁;subst q₁);exact ⟨x,rfl,rfl⟩
   have hk:k < xs.length:=(List.getElem?_eq_some_iff.mp hx).1
   have hxm:=hxb x (List.mem_of_getElem? hx)
   have ht:xs.take (k + 1)=xs.take k++[x]:=by rw [dk,hx];rfl
   have hx0:=Et b n (xs.take k) 0 x;have q1:=hx0.1;have q2:=hx0.2
   rw [<-ht] at q1 q2
   have hp:=cF n
   obtain ⟨R,hR⟩:∃R,R=CM b n 0 (xs.take k):=⟨_,rfl⟩
   have hr:=hrem k
   rw [<-hR] at hr q1 q2
   have h0:0<=R * 2 ^ n + x:=by have:=fA hr.1 (ay hp);exact Jg hxm.1 this
   have h1:R * 2 ^ n + x < b * 2 ^ n:=by
    have:(R + 1) * 2 ^ n<=b * 2 ^ n:=aW (vO hr.2) (ay hp)
    rw [eB,bJ] at this
    exact Jm hxm.2 this
   have c2:=D2 (R * 2 ^ n + x) b h0 h1 b1 b2
   have hRb:intBits R<=n:=bF hr.1 (Jh b2 hr.2)
   refine ⟨dP hs rfl,_,rfl,?_⟩
   rw [<-hR]
   apply gg (ds:=[.int ((R * 2 ^ n + x) / b),.int ((R * 2 ^ n + x) % b)]) hh
   .apply fg (P4:=[]) (kd:=[]);exact ak
    .apply av rfl;(apply zB (d:=.int (R * 2 ^ n + x));exact ak;exact congrArg D.int (by rw [aB]))
     (apply av rfl;exact ak;apply av rfl;exact ak;exact bo)
    .exact cf
    .exact k2
    .exact λ_=>c2
   .assumption
   .rfl
   .rfl
   .rfl
   .exact ⟨ax _,(qN (.L (.a (.c Y1) (.c Y0)) (.k 134217728)) [2,1]:cz [.l Y0 (.k 8500),.l Y1 Y0]) bb hRb,trivial⟩
   refine v7 (d:=.int ((R * 2 ^ n + x) / b)) hkind rfl (by apply dq;exact ak;exact trivial) (by apply gS;(apply av rfl;exact ak;exact bo);exact trivial) rfl (by rw [ab,nO,cT];show _<=16777216;exact (qE Y6 Y7 Y5 (qA Y3 (.a Y0 Y1) J1 (qN (.l Y6 (.k 16777216)) [1,0,0,1,1,1,1,1,1])):qT [_,_,_,_,_,_,_,_] [] [.l Y0 (.k 4194304),.l Y1 (.k 8500),.l Y2 Y3,.l Y4 Y2,.e Y5 Y4] _) ba bb dl dl2 hxl) ?_
   refine db ⟨by rw [q1];simp,?_⟩
   rw [q2]
   exact SubR.le ⟨rfl,rfl,rfl,rfl,rfl,rfl,trivial⟩ rfl
  rw [ab,aO (ae _),<-u2]
  refine BX hkind rfl (by apply dq;exact ak;exact trivial) (by rw [ab,hql,hxl];show _<=16777216;exact (qA Y3 (.a Y0 Y1) J1 (qN (.l Y4 (.k 16777216)) [1,0,1,1,1,1]):mM [.l Y0 (.k 4194304),.l Y1 (.k 8500),.l Y2 Y3,.l Y4 Y2]) ba bb dl dl2) ?_
  rw [<-ua]
  have hnl:(n + 1) * xs.length<=2 * (n * xs.length):=by rw [GW,GU,hxl];exact (qN (.l (.a Y1 Y0) (.m 2 Y1)) [1]:cz [.l Y0 Y1]) dl2
  have c3:=mi (A:=A.deeper env) (ns:=(qs b n 0 xs).reverse) (n:=n) (B:=n) (m:=23) G (Rd.le (JL)) (by rw [dO,hql,hxl];exact ME ba bb dl dl2) (λd hd=>hqb d (List.mem_reverse.mp hd)) (by rw [dO,hql];rw [hxl] at hnl ⊢;exact (qA Y3 (.a Y0 Y1) J1 (qN (.l (.a (.a Y1 Y4) Y2) (.k 67108864)) [3,0,3,4,3,1]):mM [.l Y0 (.k 4194304),.l Y1 (.k 8500),.l Y2 Y3,.l Y4 (.m 2 Y2)]) ba bb dl hnl) (by rw [dO,hql,hxl];exact (qA Y3 (.a Y0 Y1) J1 (qN (aR Y4 (.k 33554432)) [1,0,1,1,1,1]):mM [.l Y0 (.k 4194304),.l Y1 (.k 8500),.l Y2 Y3,.l Y4 Y2]) ba bb dl dl2)
  rw [u1] at c3
  refine jh (d:=.int (a / b)) (nX (a:=aq) (ds:=(qs b n 0 xs).reverse.map .int) (x:="q_digits") (.head _) rfl rfl ?_) (el hs rfl) rfl ?_
  .apply dq
   .apply fg (P4:=[]) (kd:=[]);exact ak;(apply av rfl;exact ak;apply av rfl;exact ak;exact bo);exact cf;exact k3;exact λ_=>c3
   .exact trivial
  refine iU (a:=aq) (x:="q_digits") rfl rfl ?_
  apply cX;exact ak;rfl;exact trivial
  exact ⟨rfl,rfl⟩
theorem u9 (G:Good W)(Rm:Room A (k + 1)){a:Int}(hb:b≠0)(h1:b < 0->∀A,Room A k->bz W A (.ref 92) [.int (-a),.int (-b)] [] (.tup [.int ((-a) / (-b)),.int ((-a) % (-b))]))(h2:0 < b->a < 0->∀A,Room A k->bz W A (.ref 92) [.int (-a - 1),.int b] [] (.tup [.int ((-a - 1) / b),.int ((-a - 1) % b)]))(h3:0 < b->0<=a->∀A,Room A k->bz W A (.ref 85) [.int a,.int b] [] (.tup [.int (a / b),.int (a % b)])):
  bz W A (.ref 92) [.int a,.int b] [] (.tup [.int (a.fdiv b),.int (a.fmod b)]):=
 kC nU G (HS B3) Rm λenv hs hh hu Gl Rd e2 e3=>by
  have k1:=cL nU G.prg
  have k2:=cL EJ G.prg
  conv at hs=>rhs;whnf
  have C:=Cx.mk hs ‹_› ‹_› ‹_›
  conv in aH 12=>whnf
  apply df;exact dg;exact trivial
  .intro h;exact absurd (by simpa using h) hb
  intro _
  apply df;exact dg;exact trivial
  .intro h
   have hneg:b < 0:=by simpa using h
   have c:=h1 hneg (A.deeper env) Rd
   have hx0:=Bf (a:=a) hneg;have f1:=hx0.1;have f2:=hx0.2
   apply gg (ds:=[.int ((-a) / (-b)),.int ((-a) % (-b))]) hh;(apply fg (P4:=[]);exact ak;apply av rfl;exact ak;apply av rfl;exact ak;exact bo;exact cf;assumption;intro _;assumption);assumption;rfl;rfl;rfl;exact trivial
   apply cX;exact ak;rfl;exact trivial
   exact ⟨by rw [f1,f2],rfl⟩
  intro h
  have hpos:0 < b:=by
              have:¬b < 0:=by simpa using h
              exact (Int.lt_or_gt_of_ne hb).elim (λz0=>(qN (cK J0 I0) [2,1]:oZ [.L J0 I0,cK I0 J0]) (Ab.mp this) z0) (λz0=>(qN (cK J0 I0) [1]:oZ [cK J0 I0]) z0)
  have hx0:=gd (a:=a) hpos;have f1:=hx0.1;have f2:=hx0.2
  apply df;exact dg;exact trivial
  .intro h
   have ha:a < 0:=by simpa using h
   have c:=h2 hpos ha (A.deeper env) Rd
   have hx0:=zr (a:=a) hpos;have u1:=hx0.1;have u2:=hx0.2
   apply gg (ds:=[.int ((-a - 1) / b),.int ((-a - 1) % b)]) hh;(apply fg (P4:=[]);exact ak;apply av rfl;exact ak;apply av rfl;exact ak;exact bo;exact cf;assumption;intro _;assumption);assumption;rfl;rfl;rfl;exact trivial
   apply cX;exact ak;rfl;exact trivial
   exact ⟨by rw [f1,f2,<-u1,<-u2];rfl,rfl⟩
  .intro h
   have ha:0<=a:=by
              have:¬a < 0:=by simpa using h
              exact Iff.mp Ab this
   have c:=h3 hpos ha (A.deeper env) Rd
   apply cX;(apply fg (P4:=[]);exact ak;apply av rfl;exact ak;apply av rfl;exact ak;exact bo;exact cf;assumption;intro _;assumption);rfl;exact trivial
   exact ⟨by rw [f1,f2],rfl⟩
theorem EF (G:Good W)(Rm:Room A 41){a:Int}(ha:0<=a)(hb:0 < b)(ba:intBits a<=2 ^ 22)(bb:intBits b<=8500):bz W A (.ref 92) [.int a,.int b] [] (.tup [.int (a / b),.int (a % b)]):=by
 have h:=u9 (W:=W) (A:=A) (k:=40) (a:=a) (b:=b) G Rm (bx hb) (λh=>(Jt hb h).elim) (λ_ h=>((qF [1,1]:oZ [.L J0 I0,cK I0 J0]) ha h).elim) λ_ _ A R=>pE G R ha hb ba bb
 rw [(gd hb).1,(gd hb).2] at h
 exact h
theorem OY (G:Good W)(Rm:Room A 42){a:Int}(hb:0 < b)(ba:intBits a<=2 ^ 22)(bb:intBits b<=8500):bz W A (.ref 92) [.int a,.int b] [] (.tup [.int (a / b),.int (a % b)]):=by
 have h:=u9 (W:=W) (A:=A) (k:=41) (a:=a) (b:=b) G Rm (bx hb) (λh=>(Jt hb h).elim) (λ_ h A R=>EF G R (JX h) hb (kl (y:=a) (Pc h) ba) bb) λ_ h A R=>pE G (R.le ((qN (.l (.k 40) (.k 41)) []:Hx []))) h hb ba bb
 rw [(gd hb).1,(gd hb).2] at h
 exact h
theorem vU (G:Good W)(Rm:Room A 43){a:Int}(hb:b≠0)(ba:intBits a<=2 ^ 22)(bb:intBits b<=8500):bz W A (.ref 92) [.int a,.int b] [] (.tup [.int (a.fdiv b),.int (a.fmod b)]):=
 u9 (k:=42) G Rm hb (λh A R=>OY G R (Ji h) (kl (y:=a) (by lia) ba) (kl (y:=b) (by lia) bb))
  (λhp h A R=>EF G (R.le ((qN (.l (.k 41) (.k 42)) []:Hx []))) (JX h) hp (kl (y:=a) (Pc h) ba) bb) λhp h A R=>pE G (R.le ((qN (.l (.k 40) (.k 42)) []:Hx []))) h hp ba bb
noncomputable abbrev lc:Option Str:=some "lo must be non-negative"
theorem B4 (P:Params)(a x lo k:Value):∀S,peek (Kf P) S (bindArgs Fb ⟨[a,x,lo],[("key",k)]⟩)=some (bisNames.zip [a,x,lo,.none,k]):=λS=>by kernel_rfl
theorem DR (P:Params)(a x lo:Value):∀S,peek (Kf P) S (bindArgs Fd ⟨[a,x,lo],[]⟩)=some (bisNames.zip [a,x,lo,.none,.none]):=λS=>by kernel_rfl
theorem DL (P:Params)(a x lo:Value):∀S,peek (Kf P) S (bindArgs Iz ⟨[a,x,lo],[]⟩)=some (bisNames.zip [a,x,lo,.none,.none]):=λS=>by kernel_rfl
theorem B2 (P:Params)(a x lo k:Value):∀S,peek (Kf P) S (bindArgs IA ⟨[a,x,lo],[("key",k)]⟩)=some (bisNames.zip [a,x,lo,.none,k]):=λS=>by kernel_rfl
theorem Room.cx (R:Room A (k + 1))(hP:jv W)(hs:env.scope=sc):Cx W (A.deeper env) env sc:=⟨hs,eX hP,by have:=R.units;show A.units + 3 + 100 < cLine;exact (qN (aR (.a (.a Y0 J3) (.k 100)) Y2) [1]:dL [aR (.a (.a Y0 (.m 20 (.a Y1 J1))) (.k 1000)) Y2]) this,R.handled⟩
theorem Er {a:D}{x:D}{hi:D}(C:Cx W A env (bh 2)):RB W A env l (dc bisNames [a,x,.int (-1),hi,key] .nil) (aH 2) "ValueError" lc:=
 Ep (gq C [] ⟨rfl,trivial⟩) (xq F.excCall_ValueError Hf C.hh (bn C [] ⟨rfl,trivial⟩) rfl (bn C [] ⟨rfl,trivial⟩) rfl)
theorem Es {a:D}{x:D}{hi:D}(C:Cx W A env (bh 4)):RB W A env l (dc bisNames [a,x,.int (-1),hi,key] .nil) (aH 4) "ValueError" lc:=
 Ep (gq C [] ⟨rfl,trivial⟩) (xq F.excCall_ValueError Hf C.hh (bn C [] ⟨rfl,trivial⟩) rfl (bn C [] ⟨rfl,trivial⟩) rfl)
theorem KC {a:D}{x:D}(hP:jv W)(R:Room A 1)(hA:A.frames=some l):CallX W A l (.ref 50) [a,x,.int (-1)] [] "ValueError" lc:=
 mf (names:=bisNames) (ds':=[a,x,.int (-1),.none,.none]) gc hP (by kernel_rfl) (λg s vs kvs k rs hk rk=>by
  have:kvs=[]:=by simpa using hk
  subst this
  apply rs.elim3;intro v1 v2 v3 r1 r2 r3
  exact ⟨_,DR _ _ _ _,.cons r1 (.cons r2 (.cons r3 (.cons .none (.cons .none .nil))))⟩) rfl R.dep hA λenv hs=>Es (R.cx hP hs)
theorem Hp {a:D}{x:D}(hP:jv W)(R:Room A 1)(hA:A.frames=some l):CallX W A l (.ref 32) [a,x,.int (-1)] [("key",key)] "ValueError" lc:=
 mf (names:=bisNames) (ds':=[a,x,.int (-1),.none,key]) gb hP (by kernel_rfl) (λg s vs kvs k rs hk rk=>by
  apply rs.elim3;intro v1 v2 v3 r1 r2 r3
  apply aA (jP hk);intro kv hq0 hkv;subst hq0
  apply aA (rk.inv1);intro _ ekv r5
  cases ekv
  exact ⟨_,B4 _ _ _ _ _,.cons r1 (.cons r2 (.cons r3 (.cons .none (.cons r5 .nil))))⟩) rfl R.dep hA λenv hs=>Er (R.cx hP hs)
theorem KB {a:D}{x:D}{hi:D}(hP:jv W)(R:Room A 1)(hA:A.frames=some l):CallX W A l (.ref 32) [a,x,.int (-1),hi] [] "ValueError" lc:=
 mf (names:=bisNames) (ds':=[a,x,.int (-1),hi,.none]) gb hP (by kernel_rfl) (λg s vs kvs k rs hk rk=>by
  have:kvs=[]:=by simpa using hk
  subst this
  obtain ⟨v0,rest,rfl,r0,rs⟩:=rs.inv_cons
  apply rs.elim3;intro v1 v2 v3 r1 r2 r3
  exact ⟨_,wc _ _ _ _ _,.cons r0 (.cons r1 (.cons r2 (.cons r3 (.cons .none .nil))))⟩) rfl R.dep hA λenv hs=>Er (R.cx hP hs)
theorem Hq {a:D}{x:D}{hi:D}(hP:jv W)(R:Room A 1)(hA:A.frames=some l):CallX W A l (.ref 50) [a,x,.int (-1),hi] [("key",key)] "ValueError" lc:=
 mf (names:=bisNames) (ds':=[a,x,.int (-1),hi,key]) gc hP (by kernel_rfl) (λg s vs kvs k rs hk rk=>by
  obtain ⟨v0,rest,rfl,r0,rs⟩:=rs.inv_cons
  apply rs.elim3;intro v1 v2 v3 r1 r2 r3
  apply aA (jP hk);intro kv hq0 hkv;subst hq0
  apply aA (rk.inv1);intro _ ekv r5
  cases ekv
  exact ⟨_,we _ _ _ _ _ _,.cons r0 (.cons r1 (.cons r2 (.cons r3 (.cons r5 .nil))))⟩) rfl R.dep hA λenv hs=>Es (R.cx hP hs)
theorem KA {a:D}{x:D}(hP:jv W)(R:Room A 2)(hA:A.frames=some l):CallX W A l (.ref 23) [a,x,.int (-1)] [] "ValueError" lc:=
 mf (names:=bisNames) (ds':=[a,x,.int (-1),.none,.none]) jW hP (by kernel_rfl) (λg s vs kvs k rs hk rk=>by
  have:kvs=[]:=by simpa using hk
  subst this
  apply rs.elim3;intro v1 v2 v3 r1 r2 r3
  exact ⟨_,DL _ _ _ _,.cons r1 (.cons r2 (.cons r3 (.cons .none (.cons .none .nil))))⟩) rfl R.dep hA λenv hs=>by
  have C:=R.cx hP hs
  exact Ep (gq C [] ⟨rfl,trivial⟩) (xr (jz (bn C [] ⟨rfl,trivial⟩) (gG C [] ⟨rfl,trivial⟩) .nil (cL gb hP) (KB hP R.deeper (cw hA))) rfl)
theorem Ho {a:D}{x:D}(hP:jv W)(R:Room A 3)(hA:A.frames=some l){kx:D}(hkx:∀A,Room A 2->bz W A (.lam cl args fb sc) [x] [] kx):CallX W A l (.ref 41) [a,x,.int (-1)] [("key",.lam cl args fb sc)] "ValueError" lc:=
 mf (names:=bisNames) (ds':=[a,x,.int (-1),.none,.lam cl args fb sc]) jX hP (by kernel_rfl) (λg s vs kvs k rs hk rk=>by
  apply rs.elim3;intro v1 v2 v3 r1 r2 r3
  apply aA (jP hk);intro kv hq0 hkv;subst hq0
  apply aA (rk.inv1);intro _ ekv r5
  cases ekv
  exact ⟨_,B2 _ _ _ _ _,.cons r1 (.cons r2 (.cons r3 (.cons .none (.cons r5 .nil))))⟩) rfl R.dep hA λenv hs=>by
  have C:=R.cx hP hs
  exact KS (gq C [] ⟨rfl,trivial⟩) (xr (jz (bn C [] ⟨rfl,trivial⟩) (gG C [.v kx] ⟨rfl,⟨lX,hkx _ R.deeper⟩,trivial⟩) (ng C [] ⟨rfl,trivial⟩) (cL gc hP) (Hq hP (R.deeper.le (by decide)) (cw hA))) rfl)
theorem Oi {a:D}(hP:jv W)(R:Room A 1)(hA:A.frames=some l):CallX W A l (.ref 92) [a,.int 0] [] "ZeroDivisionError" none:=
 mf (names:=abNames) (ds':=[a,.int 0]) nU hP (by kernel_rfl) (λg s vs kvs k rs hk rk=>by
  have:kvs=[]:=by simpa using hk
  subst this
  apply rs.elim2;intro v1 v2 r1 r2
  exact ⟨_,B3 _ _ _,.cons r1 (.cons r2 .nil)⟩) rfl R.dep hA λenv hs=>by
  have C:=R.cx hP hs
  exact Ep (gq C [] ⟨rfl,trivial⟩) (FH (gl:=gl) F.excCall_ZeroDivisionError excClass_ZeroDivisionError F.self_ZeroDivisionError C.hh C.G (by unfold bj;rw [hs];rfl) rfl)
variable {mg:Str->Option Value}
theorem Io {M:Model}{qual:Str}{params:Arguments}{body:Expr}{P:Addr}{ps:Array Value}{firstLine:Nat}(hcl:closureFor scope env=pure clos)(hge:env.globals=mainGlobals)(hg:s.heap.Ns mainGlobals mg)(hcode:env.code=.ref c)(C:CodeHd s.heap c P)(hP:s.heap.get? P=some (tabObj ps))(ht:TriplesOk ps.toList)(hnf:codeAmong pos ps.toList=none)(hgP:mainGlobals≠P)(hb:s.heap.BuiltinsAt mg P)(h:∀c' ctv h' tk,jx P s.heap h'->s.heap.objs.size<=c'->c' < h'.objs.size->h'.CodeRec (.ref c') qual->h'.get? P=some (tabObj (ps++#[rawInt pos.line,rawInt pos.col,.ref c']))->
   (∃P',s.heap.objs.size<=P'/\h'.IsCode c' P' #[]/\h'.TableAt c' P' #[])->
   Q (.ref h'.objs.size) {s with heap:=h'.push (kla_obj name qual params body scope clos ((mg "__name__").getD .none) c' ctv),toks:=tk }):
  wpAny M A (makeFunction name qual params (.expr body) scope env [] [] [] pos firstLine) Q E s:=by
 rw [makeFunction_eq]
 simp only [List.zip_nil_right,List.filterMap_nil,List.isEmpty_nil,if_true,yM]
 apply Br (hb);intro bm ob hbm hne0 _ hneP hbo hcls hdict hdata
 unfold makeTail
 rw [hcl,hge]
 refine aa (aj ?_)
 cases clos with
 | nil=>
  simp only [List.isEmpty_nil,if_true]
  refine aa (aj ?_)
  refine aa (wpAny_functionCodeX hcode (C.code hP ht) (C.tab hP) hnf λc' h' tk hx hge' hlt _ hrec htb hnew=>?_)
  have hg':=hg.extBut hx hgP
  refine aa (wpAny_builtinsFor hg' hbm hne0 (hx _ _ hneP hbo) hcls hdict hdata ?_)
  refine aa (mJ hg' ?_)
  exact aa (aj (bB (h c' .none h' tk hx hge' hlt hrec htb.2 hnew) (by size_fits)))
 | cons q r=>
  simp only [List.isEmpty_cons,bX,if_false]
  refine aa (wpAny_newTextTuple ?_)
  have C':=C.keeps (h':=s.heap.push {cls:=.type "tuple",data:=.seq (yn (λx=>dT x.2) ((q :: r).mergeSort λa b=>decide (a.1.cps.toList<=b.1.cps.toList))).toArray }) λb o e=>Heap.get?_push_of_some _ e
  refine aa (wpAny_functionCodeX hcode (C'.code (Heap.get?_push_of_some _ hP) ht) (C'.tab (Heap.get?_push_of_some _ hP)) hnf λc' h' tk hx hge' hlt _ hrec htb hnew=>?_)
  have hg':=(hg.push _).extBut hx hgP
  have hx':jx P s.heap h':=λb o hb' e=>hx b o hb' (Heap.get?_push_of_some _ e)
  have hsz:s.heap.objs.size<=(s.heap.push {cls:=.type "tuple",data:=.seq (yn (λx=>dT x.2) ((q :: r).mergeSort λa b=>decide (a.1.cps.toList<=b.1.cps.toList))).toArray }).objs.size:=by rw [dJ];exact aY _
  refine aa (wpAny_builtinsFor hg' hbm hne0 (hx' _ _ hneP hbo) hcls hdict hdata ?_)
  refine aa (mJ hg' ?_)
  exact aa (aj (bB (h c' _ h' tk hx' (ai hsz hge') hlt hrec htb.2 (aA hnew λP' a b=>⟨P',ai hsz a,b⟩)) (by size_fits)))
noncomputable def Wd.allow (W:Wd)(P:Addr)(n:Nat):Wd:={W with may:=λP' k=>W.may P' k||(P'==P&&k==n) }
noncomputable def Fl (g:View)(c P:Addr):Prop:=∃o,g.obj c=some o/\∀h:Heap,h.get? c=some o->CodeHd h c P
theorem Ok.allow {P:Addr}(k:Ok W g s):Ok (W.allow P n) g s:=
 ⟨k.base,k.sub,λq hq=>bT (k.tabs q hq) λps a b c=>⟨ps,a,b,λpos cv h=>Ag (c pos cv h) λm r=>⟨by show (W.may _ _||_)=true;rw [m];rfl,r⟩⟩,k.tabg,k.pos,k.tok⟩
structure Fresh (W:Wd)(g:View)(s:Shared)(P:Addr)(q:Str)(args:Arguments)(b:Expr)(sc:Scope)(clos:List (Str×Addr))(f:Addr)(fd:FuncData)(c' P':Addr)(g':View)(s':Shared):Prop where
 ok:Ok W g' s'
 le:Le g g'
 but:∀a o,a≠P->s.heap.get? a=some o->s'.heap.get? a=some o
 nw:∀a o,s.heap.get? a=some o->g.obj a=none->g'.obj a=none
 same:s'={s with heap:=s'.heap,toks:=s'.toks }
 fn:∃o,g'.obj f=some o/\o.data=.func fd
 code:fd.code=.ref c'
 cr:CodeRecG g' c' q
 qual:fd.qualname=q
 params:fd.params=args
 body:fd.body=.expr b
 scope:fd.scope=sc
 clos:fd.closure=clos
 glob:fd.globals=mainGlobals
 bui:fd.builtins=builtinsNs
 dfl:fd.defaults=.none
 kwd:fd.kwdefaults=.none
 hd:Fl g' c' P'
 tab:s'.heap.get? P'=some (tabObj #[])
 tabg:g'.obj P'=none
 new:s.heap.objs.size<=P'
theorem Lf {P:Addr}{b:Expr}{q:Str}(mk:Makes W env c P q)(hno:∀n,W.may P n=true->n≠p.line)(hcl:closureFor sc env=pure clos)(hg:env.globals=mainGlobals)(k:Ok W g s)(hq:env.qual++"<lambda>"=q)(hd:args.defaults=[]/\args.kw_defaults=[])(hQ:∀f fd c' P' g' s',Fresh (W.allow P p.line) g s P q args b sc clos f fd c' P' g' s'->Q (.ref f) s'):wpAny (model W.prog W.w) A (eval (.Lambda args b sc p) env) Q E s:=by
 refine kla_eval (by rw [Gy,hd.1,hd.2];rfl) ?_
 rw [hq]
 apply bT (k.tabs _ mk.mem);intro ps hP ht hrec
 have hx0:=k.builtinsAt mk.mem;have hb:=hx0.1;have hgP:=hx0.2
 have C:=(W.codes _ mk.mem).keeps k.baseHeap
 have hnf:codeAmong p ps.toList=none:=by
  cases e:codeAmong p ps.toList with
  | none=>rfl
  | some cv=>exact absurd rfl (hno _ (hrec p cv e).1)
 refine ch (ae _) ?_
 refine Io (mg:=W.mg) hcl hg k.glob mk.code C hP ht hnf hgP hb λc' ctv h' tk hx hge hlt hr htb zq0 hn=>bT zq0 λP' hP' hc1 hc2=>?_
 apply n0 (hr);intro c2 oc vs t ec hoc hdc hv
 (refine G7 ec ?_;clear ec;intro q₁;subst q₁)
 have hfc:h'.objs.size≠c':=dN hlt
 have le1:Le g (gu (gu g c' oc) h'.objs.size (kla_obj "<lambda>" q args b sc clos ((W.mg "__name__").getD .none) c' ctv)):=(gK (k.fresh hge)).trans (gK (by rw [cV hfc];exact k.fresh (ai hge (cZ hlt))))
 have rec':CodeRecG (gu (gu g c' oc) h'.objs.size (kla_obj "<lambda>" q args b sc clos ((W.mg "__name__").getD .none) c' ctv)) c' q:=⟨oc,vs,t,by rw [cV (fy hfc)];exact cW _ _ _,hdc,hv⟩
 have htab':=hc2.2
 have hP'lt:=aF htab'
 have hne:P'≠c':=λe=>by
  have hn0:=hc2.1;have e5:=hc2.2;obtain ⟨o,vs',e1,e2,e3,e4⟩:=hn0
  rw [e,e1] at e5
  (refine eQ e5 ?_;clear e5;intro q₁;subst q₁)
  cases e2
 have x:=LN (W:=W.allow P p.line) (tk:=tk) (of:=kla_obj "<lambda>" q args b sc clos ((W.mg "__name__").getD .none) c' ctv) k.allow mk.mem hx hge hlt hoc (by
  refine ⟨_,htb,?_,λpos' cv hcv=>?_⟩
  .have:=TriplesOk_snoc p.line p.col (.ref c') ps.toList ht
   simpa using this
  .have hcv':codeAmong pos' (ps.toList++[rawInt p.line,rawInt p.col,.ref c'])=some cv:=by simpa using hcv
   by_cases hp:codeAmong pos' ps.toList=none
   .refine ⟨?_,c',wg ht hp hcv',rec'⟩
    show (W.may P pos'.line||(P==P&&pos'.line==p.line))=true
    rw [<-wh ht hp hcv']
    simp
   .obtain ⟨cv0,hc0⟩:=Option.ne_none_iff_exists'.mp hp
    rw [yj ht hc0] at hcv'
    (refine eQ hcv' ?_;clear hcv';intro q₁;subst q₁)
    apply oP (hrec pos' _ hc0);intro m3 c3 hq0 r3;subst hq0
    exact ⟨by show (W.may P pos'.line||_)=true;rw [m3];rfl,c3,rfl,r3.mono le1⟩) rfl hn
 refine hQ h'.objs.size _ c' P' _ _ ⟨x.ok,le1,λa o hne e=>Heap.get?_push_of_some _ (hx a o hne e),λa o e hg'=>?_,rfl,⟨_,cW _ _ _,rfl⟩,rfl,rec',rfl,rfl,rfl,rfl,rfl,rfl,rfl,rfl,rfl,?_,Heap.get?_push_of_some _ htab',?_,hP'⟩
 .have l1:=aF e
  rw [cV (bG (aw l1 (ai hge (cZ hlt)))),cV (bG (aw l1 hge))]
  exact hg'
 .refine ⟨oc,by rw [cV (fy hfc)];exact cW _ _ _,λh e=>?_⟩
  apply zE (CodeHd.of hc1 hc2);intro o vs2 file tf flags tg inF text tt e1 r
  rw [hoc] at e1
  (refine eQ e1 ?_;clear e1;intro q₁;subst q₁)
  exact ⟨_,vs2,file,tf,flags,tg,inF,text,tt,e,r⟩
 .rw [cV (bG hP'lt),cV hne]
  exact k.fresh hP'
structure Named (T:String):Prop where
 exc:isSubtype (.type T) (.type "BaseException")=pure true
 nt:isSubtype (.type ((Manifest.find? T).elim "type" λx=>x.metatype)) (.type "tuple")=pure false
variable {b3:Bool}{T1 T2 T3:String}
set_option maxHeartbeats 4000000 in
theorem tI {M:Model}{e:Value}{tup:Addr}{b1:Bool}{b2:Bool}{Q:Bool->Shared->Prop}(ht:IsTup s.heap tup #[.type T1,.type T2,.type T3])(hX:s.TypeIs e X)(n1:Named T1)(n2:Named T2)(n3:Named T3)(hs1:isSubtype (.type X) (.type T1)=pure b1)(hs2:isSubtype (.type X) (.type T2)=pure b2)(hs3:isSubtype (.type X) (.type T3)=pure b3)(h:Q (b1||(b2||b3)) s):wpAny M A (excMatches e (.ref tup)) Q E s:=by
 apply zF (ht);intro o ho hc n hd
 obtain ⟨hp,g,d,tk,os⟩:=s
 have h11:=n1.exc;have h12:=n1.nt;have h21:=n2.exc;have h22:=n2.nt;have h31:=n3.exc;have h32:=n3.nt
 unfold excMatches
 refine aa (oq ⟨o,ho,hc⟩ isSubtype_tuple_tuple ?_)
 dsimp only
 rw [if_pos rfl]
 refine aa (ej ho hd ?_)
 dsimp only [cn,Option.getD]
 wp_walk
 cases b1<;>cases b2<;>cases b3<;>(wp_walk;first | exact h | (simp only [Bool.or_false,Bool.or_true,Bool.false_or,Bool.true_or] at h ⊢;first | exact h | wp_walk))
theorem named_T:Named "TypeError":=⟨F.isExc_TypeError,F.notTuple_TypeError⟩
theorem K3:Named "ValueError":=⟨F.isExc_ValueError,F.notTuple_ValueError⟩
theorem K2:Named "ZeroDivisionError":=⟨F.isExc_ZeroDivisionError,F.notTuple_ZeroDivisionError⟩
theorem LS {m:Str->Option Value}(hn:s.heap.Ns a m)(x:ExtM W M g s g' s')(hm:¬M a):s'.heap.Ns a m:=
 aV hn λo es ep e hd r=>⟨o,es,ep,x.keep a o hm e (cS hd),hd,r⟩
theorem Frs.extM (F:Frs g s l)(x:ExtM W M g s g' s')(h:∀a∈cy l,¬M a):Frs g' s' l:=λenv hm=>
 have hn:=h env.locals (Cj.mpr ⟨env,hm,rfl⟩)
 Bt (F env hm) λa b zn2 c=>let ⟨m,o,es,ep,e,hd,r⟩:=zn2;⟨a,b,⟨m,o,es,ep,x.keep _ o hn e (cS hd),hd,r⟩,x.new _ o hn e (cS hd) c⟩
variable {s4:Shared}
theorem ph {pre:List Env}(x1:ExtM W (·∈cy l) g s g1 s1)(n1:∀env∈l,∀m,s.heap.Ns env.locals m->s1.heap.Ns env.locals m)(hF1:Frs g1 s1 (pre++l))(hp:∀env∈pre,B8 s env.locals)(hb:(hideAll s1.heap (cy (pre++l))).StaysIn s4.heap)(upTo:s1.heap.UpToSlots s4.heap)(hs4:s4={s1 with heap:=s4.heap,toks:=s4.toks })(htk1:s1.toks<=s4.toks):
   ExtM W (·∈cy l) g s g1 s4/\Frs g1 s4 l/\∀env∈l,∀m,s.heap.Ns env.locals m->s4.heap.Ns env.locals m:=by
 have stay:∀a o,s1.heap.get? a=some o->a∉cy (pre++l)->s4.heap.get? a=some o:=λa o e1 hn=>hb _ _ (Af _ e1 hn)
 have seen:∀a o,g1.obj a=some o->s4.heap.get? a=some o:=λa o e1=>stay a o (x1.ok.sub a o e1) λhm=>by rw [hF1.hid hm] at e1;exact (aK e1).elim
 have tabs4:∀q∈W.tabs,TabAt (W.may q.2.1) g1 s4.heap q.2.1 q.2.2:=λq hq=>by
  apply aA (x1.ok.tabs q hq);intro ps e1 r
  refine ⟨ps,stay _ _ e1 λhm=>?_,r⟩
  apply ii (hF1.dict hm);intro m o es ep e2 hd _
  rw [e1] at e2;(refine eQ e2 ?_;clear e2;intro q₁;subst q₁);cases hd
 have k4:Ok W g1 s4:=⟨x1.ok.base,seen,tabs4,x1.ok.tabg,aw x1.ok.pos htk1,λt x e1=>⟨(x1.ok.tok t x e1).1,aw (x1.ok.tok t x e1).2 htk1⟩⟩
 refine ⟨⟨x1.le,k4,λa o hn e1 ht1=>?_,λa o hn e1 ht1 hg=>x1.new a o hn e1 ht1 hg,?_⟩,λenv hm=>?_,λenv hm m hn=>?_⟩
 .refine stay a o (x1.keep a o hn e1 ht1) λhm=>?_
  unfold cy at hm
  rw [bU,jH] at hm
  rcases hm with hm | hm
  .apply aA (Cj.mp hm);intro env h1 hq0;subst hq0
   rw [hp env h1 o e1] at ht1;exact (ag ht1.symm).elim
  .exact hn hm
 .rw [hs4,x1.same]
 .have hx0:=hF1 env (D8 _ hm);have h1:=hx0.1;have h2:=hx0.2.1;have hn0:=hx0.2.2.1;have h4:=hx0.2.2.2;obtain ⟨m,h3⟩:=hn0
  exact ⟨h1,h2,⟨m,upTo.ns h3⟩,h4⟩
 .exact upTo.ns (n1 env hm m hn)
theorem Out.state {s3:Shared}{e:Addr}(hF:Frs g s l)(h:Out W g s l X msg e s3):∃g1 base t args,yl msg args/\iI base l e (.type X) (.ref t) s3.heap/\s3.heap.TupAt t args/\
  ∀s4:Shared,base.StaysIn s4.heap->s3.heap.UpToSlots s4.heap->s4={s3 with heap:=s4.heap,toks:=s4.toks }->s3.toks<=s4.toks->
   ExtM W (·∈cy l) g s g1 s4/\Frs g1 s4 l/\∀env∈l,∀m,s.heap.Ns env.locals m->s4.heap.Ns env.locals m:=by
 obtain ⟨g1,s1,pre,args,x1,n1,hF1,hp,hm,⟨t,fl,ht⟩,hsl,hs⟩:=h
 refine ⟨g1,_,t,args,hm,fl,ht,λs4 hb hu hs4 htk=>?_⟩
 exact ph x1 n1 hF1 hp hb (hsl.trans hu) (by rw [hs4,hs]) (by rw [hs] at htk;exact htk)
theorem Fra.caught (F:Fra W g s env ρ)(hl:env∈l)(hF:Frs g s l)(x:ExtM W (·∈cy l) g s g1 s4)(hF4:Frs g1 s4 l)(hns:∀env∈l,∀m,s.heap.Ns env.locals m->s4.heap.Ns env.locals m):Fra W g1 s4 env ρ:=
 have nc:∀{c:Addr} {v:Option Value},s.heap.IsCell c v->c∉cy l:=λ{c v} zq0 hm=>aA zq0 λo e1 hd=>by
  apply ii (hF.dict hm);intro m o' es ep e2 hd' _
  rw [e1] at e2;(refine eQ e2 ?_;clear e2;intro q₁;subst q₁)
  rw [hd] at hd';cases hd'
 {kind:=F.kind,glo:=F.glo,bui:=F.bui,ncd:=F.ncd,hid:=(hF4 env hl).2.2.2,inj:=F.inj
  loc:=aA F.loc λm a b=>⟨m,hns env hl m a,λy d e k=>aA (b y d e k) λv p q=>⟨v,p,q.mono x.le⟩⟩
  liv:=λy c e=>by
   have hx0:=F.liv y c e;have hn0:=hx0.1;have h3:=hx0.2;obtain ⟨v,o,h1,h2⟩:=hn0
   have hn:=nc ⟨o,h1,h2⟩
   exact ⟨⟨v,o,x.keep _ o hn h1 (du h2),h2⟩,λhz=>x.new _ o hn h1 (du h2) (h3 hz)⟩
  cel:=λy hy=>by
   apply bP (F.cel y hy);intro c cv h1 hn0 h3;obtain ⟨o,e,hd⟩:=hn0
   exact ⟨c,cv,h1,⟨o,x.keep _ o (nc ⟨o,e,hd⟩) e (du hd),hd⟩,λd e=>aA (h3 d e) λv a b=>⟨v,a,b.mono x.le⟩⟩ }
theorem Be {e:Addr}(x:iI base l e (.type X) a0 h)(o:Obj):iI base l e (.type X) a0 (h.push o):=by
 apply px (x);intro h1 h2 h3 oe vs T oT ts f1 f2 f3 f4 f5 f6 f7 f8 f9
 exact ⟨λb o e=>Heap.get?_push_of_some _ (h1 b o e),h2,h3.of_keeps λb o e _=>⟨o,Heap.get?_push_of_some _ e,rfl⟩,oe,vs,T,oT,ts,Heap.get?_push_of_some _ f1,f2,f3,f4,f5,f6,Heap.get?_push_of_some _ f7,f8,f9⟩
structure Exc (s:Shared)(e:Addr)(X:String)(args:List Value):Prop where
 at':∃t,s.heap.ExcAt e X (.ref t)/\s.heap.TupAt t args
theorem Exc.ext {e:Addr}{args:List Value}(h:Exc s e X args)(x:ExtM W M g s g' s')(hm:∀a,M a->∃o m,s.heap.get? a=some o/\s.heap.Ns a m):Exc s' e X args:=by
 apply IS (h.at');intro t hn0 ot n t1 t2 t3;obtain ⟨oe,vs,e1,e2,e3,e4⟩:=hn0
 refine ⟨t,⟨oe,vs,x.keep _ oe (λhh=>?_) e1 (by obtain ⟨c,d,dt,sl⟩:=oe;simp only at e2;subst e2;rfl),e2,e3,e4⟩,ot,n,x.keep _ ot (λhh=>?_) t1 (by obtain ⟨c,d,dt,sl⟩:=ot;simp only at t2;subst t2;rfl),t2,t3⟩
 .apply vG (hm _ hh);intro _ m _ o es ep q hd _
  rw [e1] at q;(refine eQ q ?_;clear q;intro q₁;subst q₁)
  rw [e3] at hd;cases hd
 .apply vG (hm _ hh);intro _ m _ o es ep q hd _
  rw [t1] at q;(refine eQ q ?_;clear q;intro q₁;subst q₁)
  rw [t3] at hd;cases hd
theorem Exc.ext' {e:Addr}{args:List Value}(h:Exc s e X args)(x:Ext W g s g' s'):Exc s' e X args:=h.ext (M:=λ_=>False) x.toM λ_ h=>h.elim
theorem Exc.type {e:Addr}{args:List Value}(h:Exc s e X args):s.TypeIs (.ref e) X:=aA h.at' λt zn1 _=>let ⟨oe,vs,e1,e2,_⟩:=zn1;⟨oe,e1,e2⟩
theorem zk {e:Addr}{b1:Bool}{b2:Bool}{n:Str}{b₀:Stmt}{suite:List Stmt}{rest:List ExceptHandler}{Q:Flow->Shared->Prop}(n1:Named T1)(n2:Named T2)(n3:Named T3)(hs1:isSubtype (.type X) (.type T1)=pure b1)(hs2:isSubtype (.type X) (.type T2)=pure b2)(hs3:isSubtype (.type X) (.type T3)=pure b3)(hb:(b1||(b2||b3))=true)(h:wpAny (model prog w) (A.mark (some (.ref e))) (eval t env) (λc s₁=>∃tup,c=.ref tup/\IsTup s₁.heap tup #[.type T1,.type T2,.type T3]/\s₁.TypeIs (.ref e) X/\
   wpAny (model prog w) (A.mark (some (.ref e))) (setFlight (.ref e) none) (λ_ s₂=>wpAny (model prog w) (A.mark (some (.ref e))) (storeName env n (.ref e)) (λ_ s₃=>
    wpAny (model prog w) (A.mark (some (.ref e))) (execs (b₀ :: suite) env) (λf s₄=>wpAny (model prog w) A (do bindName env n .none;unbindBehindTheSuite env n pos) (λ_ s₅=>Q f s₅) E s₄) (λ_ _=>False) s₃) (λ_ _=>False) s₂) (λ_ _=>False) s₁) (λ_ _=>False) s):
  wpAny (model prog w) A (handleBy (.ref e) env (.ExceptHandler (some t) (some n) (b₀ :: suite) pos :: rest)) Q E s:=by
 refine wpAny_handleBy_cons (codeAny_handlers_test (aI h (λc s₁ h₁=>?_) λ_ _ x=>x.elim)) (by intro q;cases q)
 apply NY (h₁);intro tp hq0 hT hX hk;subst hq0
 refine tI hT hX n1 n2 n3 hs1 hs2 hs3 ?_
 rw [hb]
 exact codeAny_handlers_suite_as (aI hk (λ_ s₂ h₂=>aI h₂ (λ_ s₃ h₃=>aI h₃ (λf s₄ h₄=>h₄) λ_ _ x=>x.elim) λ_ _ x=>x.elim) λ_ _ x=>x.elim)
structure XF (X n:String)(b1 b2 b3:Bool):Prop where
 s1:isSubtype (.type X) (.type "TypeError")=pure b1
 s2:isSubtype (.type X) (.type "ValueError")=pure b2
 s3:isSubtype (.type X) (.type "ZeroDivisionError")=pure b3
 hit:(b1||(b2||b3))=true
 n1:b1=false->(dv X==dv "TypeError")=false
 n2:b2=false->(dv X==dv "ValueError")=false
 isi:ExcIsi X
 str:ExcStrFacts X n
theorem Kz:XF "ValueError" "ValueError" false true false:=⟨by rw [bO];kernel_rfl,by rw [bO];kernel_rfl,by rw [bO];kernel_rfl,rfl,λ_=>by decide,(λh=>nomatch h),OW,F.excStr_ValueError⟩
theorem Pu:XF "TypeError" "TypeError" true false false:=⟨by rw [bO];kernel_rfl,by rw [bO];kernel_rfl,by rw [bO];kernel_rfl,rfl,(λh=>nomatch h),λ_=>by decide,OX,F.excStr_TypeError⟩
theorem Pt:XF "ZeroDivisionError" "ZeroDivisionError" false false true:=⟨by rw [bO];kernel_rfl,by rw [bO];kernel_rfl,by rw [bO];kernel_rfl,rfl,λ_=>by decide,λ_=>by decide,OV,F.excStr_ZeroDivisionError⟩
theorem Hm {e:Addr}{args:List Value}{b:Bool}(FX:ExcIsi X)(hty:typeOf (.type T)=pure (.type "type"))(hsub:isSubtype (.type X) (.type T)=pure b)(hne:b=false->(dv X==dv T)=false)(k:Ok W g s)(hE:Exc s e X args):Yl W A (call (.builtin "isinstance") [.ref e,.type T]) g s (.bool b):=λQ E hQ=>by
 cases b with
 | true=>exact Iy hty hsub hE.type (hQ _ g s (Ext.refl k) (.bool _))
 | false=>
  apply aA (hE.type);intro oe e1 e2
  exact Gc FX (hne rfl) hty hsub e1 e2 (hQ _ g _ (Ext.tk k (aY _)) (.bool _))
theorem Fm {n:String}{e:Addr}{args:List Value}(FX:ExcStrFacts X n)(hu:A.units + 2 < cLine)(hm:yl msg args)(k:Ok W g s)(hE:Exc s e X args):Yl W A (call (.type "str") [.ref e]) g s (.str (msg.getD wj)):=λQ E hQ=>by
 apply aA (hE.at');intro t h1 h2
 cases msg with
 | none=>
  have hm:args=[]:=hm
  subst hm
  exact P.str_of_exc_none FX hu h1 h2 (hQ _ g _ (Ext.tk k (aY _)) (.str _ _))
 | some m=>
  obtain ⟨u,rfl⟩:=hm
  exact P.str_of_exc_one FX hu h1 h2 (hQ _ g s (Ext.refl k) (.str _ _))
theorem ug {e:Addr}{args:List Value}(hf:aQ W A env ρ (.Name x q) f)(h:EvAll W A env ρ es ds)(hkp:cJ W f)(F:Fra W g s env ρ)(k:Ok W g s)(hE:Exc s e X args)(hc:∀g2 s2 vf vs,Ok W g2 s2->Exc s2 e X args->Rep W g2 vf f->RepAll W g2 vs ds->Yl W A (call vf vs) g2 s2 d):Yl W A (eval (.Call (.Name x q) es [] p) env) g s d:=λQ E hQ=>
 dF hf h .nil hkp F k λg2 s2 vf vs kvs x2 rf rs hkv _=>by
  have:kvs=[]:=by simpa using hkv
  subst this
  exact hc g2 s2 vf vs x2.ok (hE.ext' x2) rf rs _ _ λv g3 s3 x3 r3=>hQ v g3 s3 (x2.trans x3) r3
variable {p1 p2 p3:Pos}
theorem Gh {gl:Str->Option D}{x1 x2 x3:Str}(G:kS W gl)(F:Fra W g s env ρ)(k:Ok W g s)(h1:env.kindOf x1=some .globalImplicit/\gl x1=some (.ty T1))(h2:env.kindOf x2=some .globalImplicit/\gl x2=some (.ty T2))(h3:env.kindOf x3=some .globalImplicit/\gl x3=some (.ty T3))(hQ:Q (.ref s.heap.objs.size) {s with heap:=s.heap.push {cls:=.type "tuple",data:=.seq #[.type T1,.type T2,.type T3] } }):
  wpAny (model W.prog W.w) A (eval (.Tuple [.Name x1 p1,.Name x2 p2,.Name x3 p3] m p) env) Q E s:=by
 refine Tuple_ ?_
 show wpAny _ _ (spliced [(false,eval (.Name x1 p1) env),(false,eval (.Name x2 p2) env),(false,eval (.Name x3 p3) env)]) _ _ _
 refine ci (aI (lR G h1.1 h1.2 F k) (λv s₁ zq0=>Ag zq0 λe1 e2=>?_) λ_ _ x=>x)
 subst e1 e2
 refine ci (aI (lR G h2.1 h2.2 F k) (λv s₁ zq0=>Ag zq0 λe1 e2=>?_) λ_ _ x=>x)
 subst e1 e2
 refine ci (aI (lR G h3.1 h3.2 F k) (λv s₁ zq0=>Ag zq0 λe1 e2=>?_) λ_ _ x=>x)
 subst e1 e2
 exact eV (bB hQ (by show _<=sizeLine;exact ac rfl))
structure CallY (W:Wd)(A:Around)(l:List Env)(f:D)(ds:List D)(d:D):Prop where
 run:∀g s vf vs,Ok W g s->Frs g s l->Rep W g vf f->RepAll W g vs ds->∀Q E,(∀v g' s',ExtM W (·∈cy l) g s g' s'->Frs g' s' l->(∀env∈l,∀m,s.heap.Ns env.locals m->s'.heap.Ns env.locals m)->Rep W g' v d->Q v s')->wpAny (model W.prog W.w) A (call vf vs) Q E s
theorem fnK_refused:FnK 170 26 "_law_refused" .none .none jf 169:=⟨λP=>by kernel_rfl,λP=>by kernel_rfl⟩
noncomputable def refNames:List Str:=["deed"]
theorem z7 (P:Params)(a:Value):∀S,peek (Kf P) S (bindArgs (kT 26 "_law_refused" .none .none jf 169) ⟨[a],[]⟩)=some (refNames.zip [a]):=λS=>by kernel_rfl
noncomputable def HL (b1 b2:Bool)(msg:Option Str):D:=.list [.bool b1,.bool b2,.str (msg.getD wj)]
theorem Hl {e:Addr}{args:List Value}{x1 x2 x3:Expr}{d1 d2 d3:D}(n1:fN x1=true)(n2:fN x2=true)(n3:fN x3=true)(F:Fra W g s env ρ)(k:Ok W g s)(hE:Exc s e X args)(h1:∀g s,Fra W g s env ρ->Ok W g s->Exc s e X args->Yl W A (eval x1 env) g s d1)(h2:∀g s,Fra W g s env ρ->Ok W g s->Exc s e X args->Yl W A (eval x2 env) g s d2)(h3:∀g s,Fra W g s env ρ->Ok W g s->Exc s e X args->Yl W A (eval x3 env) g s d3):
  Yl W A (eval (.List [x1,x2,x3] p) env) g s (.list [d1,d2,d3]):=λQ E hQ=>by
 refine List_ ?_
 rw [ct (aJ n1),ct (aJ n2),ct (aJ n3)]
 show wpAny _ _ (spliced [(false,eval x1 env),(false,eval x2 env),(false,eval x3 env)]) _ _ _
 refine ci (h1 g s F k hE _ _ λv1 g1 s1 y1 r1=>?_)
 refine ci (h2 g1 s1 (F.ext y1) y1.ok (hE.ext' y1) _ _ λv2 g2 s2 y2 r2=>?_)
 refine ci (h3 g2 s2 ((F.ext y1).ext y2) y2.ok ((hE.ext' y1).ext' y2) _ _ λv3 g3 s3 y3 r3=>?_)
 refine eV (oW y3.ok (.cons (r1.mono (y2.le.trans y3.le)) (.cons (r2.mono y3.le) (.cons r3 .nil))) (ac rfl) _ _ λv g4 s4 y4 r4=>?_)
 exact hQ v g4 s4 (y1.trans (y2.trans (y3.trans y4))) r4
theorem wU {n:String}{b1:Bool}{b2:Bool}(hP:jv W)(R:Room A 5)(hA:A.frames=some l)(XC:XF X n b1 b2 b3)(hkp:cJ W f)(hc:∀env,CallX W (A.deeper env) (env :: l) f [] [] X msg):CallY W A l (.ref 170) [f] (HL b1 b2 msg):=⟨λg s vf vs ok hF rf rs Q E hQ=>by
 obtain rfl:=rf.inv
 apply rs.elim1;intro vd rd
 have hx0:=jJ (fd:=kT 26 "_law_refused" .none .none jf 169) (names:=refNames) (by kernel_rfl);have t1:=hx0.1;have t2:=hx0.2.1;have t3:=hx0.2.2.1;have t4:=hx0.2.2.2.1;have t5:=hx0.2.2.2.2
 refine jg (args:=⟨[vd],[]⟩) R.dep ok (ok.baseHeap _ _ (hP 170 _ (fnK_refused.obj _))) rfl t1 t2 t3 ((fnK_refused.codeRec hP).keeps ok.baseHeap) (wL (K:=Kf W.w.params) (λa o e=>ok.baseHeap _ _ (hP a o e)) (z7 _ vd)) t4 t5 rfl (.cons rd .nil) λenv s1 e1 e2 e3 e4 hfr x1 F=>?_
 have hF1:=nS F e4 (hF.ext x1)
 have hs:env.scope=bh 26:=e1
 have hm:env∈env :: l:=.head _
 have hku:(A.deeper env).units + 100 < cLine:=by have:=R.units;show A.units + 3 + 100 < cLine;exact (qN (aR (.a (.a Y0 J3) (.k 100)) Y1) [1]:cz [aR (.a (.a Y0 (.k 100)) (.k 1000)) Y1]) this
 have C:Cx W (A.deeper env) env (bh 26):=⟨hs,eX hP,hku,R.handled⟩
 have kd:∀x,(bh 26).names.lookup x=some .globalImplicit->env.kindOf x=some .globalImplicit:=λx h=>by unfold bj;rw [hs];exact h
 show wpAny _ _ (execs (aH 26) env) _ _ _
 refine aP (wpAny_Try_except (RB.run (X:=X) (msg:=msg) (l:=l) ?_ g s1 F x1.ok hF1 _ _ λe s2 th=>?_))
 .exact Nq (jz (f:=f) (ds:=[]) (kws:=[]) (bn C [] ⟨rfl,trivial⟩) .nil .nil hkp (hc env))
 refine zS (A:=A.deeper env) (cw hA) hF1 th λs3 ho=>?_
 apply n0 (ho.state hF1);intro g3 base t args hmsg fl ht fk
 have hx0:=fk s3 fl.1 (.refl _) rfl (ae _);have x3:=hx0.1;have Fr3:=hx0.2.1;have ns3:=hx0.2.2
 have F3:=F.caught hm hF1 x3 Fr3 ns3
 refine zk named_T K3 K2 XC.s1 XC.s2 XC.s3 XC.hit ?_
 refine Gh (A:=(A.deeper env).mark (some (.ref e))) (eX hP) F3 x3.ok ⟨kd _ rfl,rfl⟩ ⟨kd _ rfl,rfl⟩ ⟨kd _ rfl,rfl⟩ ?_
 have fl2:=Be fl {cls:=.type "tuple",data:=.seq #[.type "TypeError",.type "ValueError",.type "ZeroDivisionError"] }
 refine ⟨_,rfl,⟨_,Heap.get?_push_size _ rfl,rfl,_,rfl⟩,fl2.there,?_⟩
 refine lands_againW fl2 λh4 fl4 u4=>?_
 have u34:s3.heap.UpToSlots h4:=(eM λb o e=>Heap.get?_push_of_some _ e).trans u4
 have hx0:=fk {s3 with heap:=h4 } fl4.1 u34 rfl (ae _);have x4:=hx0.1;have Fr4:=hx0.2.1;have ns4:=hx0.2.2
 have F4:=F.caught hm hF1 x4 Fr4 ns4
 have E4:Exc {s3 with heap:=h4 } e X args:=⟨ik fl4.first λoe vs q1 q2 q3 q4=>⟨t,⟨oe,vs,q1,q2,q3,q4⟩,ht.of_slots u34⟩⟩
 refine mP F4 x4.ok (by unfold bj;rw [hs];rfl) (.ref e) λs5 x5 F5=>?_
 have E5:Exc s5 e X args:=E4.ext x5 λa h=>by
  apply aA (F4.loc);intro m hn0 _;obtain ⟨o,es,ep,q1,q2,q3⟩:=hn0
  cases h
  exact ⟨o,m,q1,o,es,ep,q1,q2,q3⟩
 have C':∀x {d},oK (bh 26) gl (.bind "error" (.ref e) (dc refNames [f] .nil)) x=some d->∀{p},aQ W ((A.deeper env).mark (some (.ref e))) env (.bind "error" (.ref e) (dc refNames [f] .nil)) (.Name x p) d:=λx {d} h {p}=>fG hs (eX hP) h
 refine aP (jn (Hl rfl rfl rfl F5 x5.ok E5 (d1:=.bool b1) (d2:=.bool b2) (d3:=.str (msg.getD wj)) (λg s F k hE=>?_) (λg s F k hE=>?_) (λg s F k hE=>?_) _ _ λv g8 s8 x8 r8=>?_))
 .exact ug (C' _ rfl) (.cons (aJ rfl) (C' _ rfl) (.cons (aJ rfl) (C' _ rfl) .nil)) (se _) F k hE λg2 s2 vf vs k2 E2 rf rs=>by
   apply rs.elim2;intro v1 v2 r1 r2
   obtain rfl:=rf.inv;obtain rfl:=r1.inv;obtain rfl:=r2.inv
   exact Hm XC.isi (by kernel_rfl) XC.s1 XC.n1 k2 E2
 .exact ug (C' _ rfl) (.cons (aJ rfl) (C' _ rfl) (.cons (aJ rfl) (C' _ rfl) .nil)) (se _) F k hE λg2 s2 vf vs k2 E2 rf rs=>by
   apply rs.elim2;intro v1 v2 r1 r2
   obtain rfl:=rf.inv;obtain rfl:=r1.inv;obtain rfl:=r2.inv
   exact Hm XC.isi (by kernel_rfl) XC.s2 XC.n2 k2 E2
 .exact ug (C' _ rfl) (.cons (aJ rfl) (C' _ rfl) .nil) (fF _) F k hE λg2 s2 vf vs k2 E2 rf rs=>by
   apply rs.elim1;intro v1 r1
   obtain rfl:=rf.inv;obtain rfl:=r1.inv
   exact Fm XC.str (bI (fq (by decide) _) hku) hmsg k2 E2
 have F8:=F5.ext x8
 apply aA (F8.loc);intro m8 hn8 _
 refine wpAny_nameGoes (by unfold bj;rw [hs];rfl) hn8 (by rw [F8.kind];rfl) λh' m' hn' hs'=>?_
 have hid:∃o,Hid g8 s8 env.locals o:=F8.hidden
 have x9:ExtM W (·∈[env.locals]) g8 s8 g8 {s8 with heap:=h',toks:=s8.toks + 1 }:=ExtM.of_keep x8.ok (λb hb=>(rF.mp hb)▸hid) (λb o hb e=>hs'.extBut b o (λq=>hb (rF.mpr q)) e) (aY _)
 have hne:∀a∈cy l,a≠env.locals:=λa ha q=>by
  apply EN (hF.dict ha);intro m o es ep q1 _
  exact absurd (aF q1) (Nat.not_lt.mpr (q▸hfr _ (.inl rfl)))
 have x59:ExtM W (·=env.locals) _ _ g8 {s8 with heap:=h',toks:=s8.toks + 1 }:=(x5.trans x8.toM).trans (x9.mono λa h=>rF.mp h)
 refine hQ v g8 _ (((x1.toM.trans x4).trans (x59.mono λa h=>h▸.head _)).drop λa o h1 h2 e=>?_) (Frs.extM (l:=l) (λe h=>Fr4 e (.tail _ h)) x59 hne) (λenv' he m hn=>?_) r8
 .rcases List.mem_cons.mp h1 with rfl | h1
  .exact bf (hfr _ (.inl rfl)) o e
  .exact absurd h1 h2
 .exact LS (ns4 env' (.tail _ he) m (LS hn (M:=λ_=>False) x1.toM id)) x59 (hne _ (Cj.mpr ⟨env',he,rfl⟩))⟩
structure Sprung (h h':Heap)(X:String)(e:Addr):Prop where
 keep:∀b o,h.get? b=some o->h'.get? b=some o
 new:h.get? e=none
 at':∃oe vs t,h'.get? e=some oe/\oe.cls=.type X/\oe.data=.fields vs/\vs[0]? =some t/\vs[1]? =some .none/\vs[2]? =some .none
theorem Sprung.of {e:Addr}(m:Heap.NewExc h h' e X):Sprung h h' X e:=⟨m.keeps,m.new,bP m.there λob t a b c=>⟨ob,_,t,a,b,c,rfl,rfl,rfl⟩⟩
theorem Sprung.attr {e:Addr}{o:Value}(m:Heap.NewAttrErr h h' e o name):Sprung h h' "AttributeError" e:=⟨m.keeps,m.new,tJ m.there λt u a=>⟨_,_,t,a,rfl,rfl,rfl,rfl,rfl⟩⟩
theorem Sprung.after {h1:Heap}{e:Addr}(k:∀b o,h.get? b=some o->h1.get? b=some o)(m:Sprung h1 h' X e):Sprung h h' X e:=by
 refine ⟨λb o q=>m.keep b o (k b o q),?_,m.at'⟩
 cases q:h.get? e with
 | none=>rfl
 | some o=>have:=k e o q;rw [m.new] at this;exact (aK this).elim
theorem Gb (hT:∀s:Shared,s.TypeIs v T)(hb:(dv T==dv "builtin_function_or_method")=false)(e2:typeLookup (.type T) "__iter__"=pure none)(e3:typeLookup (.type T) "__getitem__"=pure none)(hh:A.handled=none)(hz:(cY (toString "'"++toString (shownName T)++toString "' object is not iterable")).length<=sizeLine)(hE:∀h' tk e,Sprung s.heap h' "TypeError" e->E (.ref e) {s with heap:=h',toks:=tk }):wpAny (model prog w) A (pyIter v) Q E s:=by
 unfold pyIter
 refine aa (dj (hT _) e2 (aa (dj (hT _) e3 ?_)))
 exact aa (gO (aa (wB (hT _) hb (ke lQ hh (λh' tk e m=>hE h' tk e (.of m)) hz))))
theorem oQ {x:Value}(hT:∀s:Shared,s.TypeIs v T)(hb:(dv T==dv "builtin_function_or_method")=false)(e1:typeLookup (.type T) "__contains__"=pure none)(e2:typeLookup (.type T) "__iter__"=pure none)(e3:typeLookup (.type T) "__getitem__"=pure none)(hh:A.handled=none)(hz:(cY (toString "'"++toString (shownName T)++toString "' object is not iterable")).length<=sizeLine)(hz2:(cY (toString "argument of type '"++toString (shownName T)++toString "' is not iterable")).length<=sizeLine)(hno:stdlibNamesSay? v x=none){Q:Bool->Shared->Prop}(hE:∀h' tk e,Sprung s.heap h' "TypeError" e->E (.ref e) {s with heap:=h',toks:=tk }):wpAny (model prog w) A (contains v x) Q E s:=by
 unfold contains callSpecialUnlessNone?
 refine bK ?_
 rw [hno]
 refine aa (dj (hT _) e1 ?_)
 refine aa (aa (dj (hT _) e1 (aj ?_)))
 refine aa (gO (aa (wpAny_tryCatch (Gb hT hb e2 e3 hh hz λh' tk e m=>?_))))
 refine aa (oq (T:="TypeError") (aV m.at' λoe vs t a b _=>⟨oe,a,b⟩) F.self_TypeError ?_)
 exact aa (wB (hT _) hb (ke lQ hh (λh2 tk e m2=>hE h2 tk e (.after m.keep (.of m2))) hz2))
theorem wS (hh:A.handled=none){t:Tok}{Q:Bool->Shared->Prop}(hE:∀h' tk e,Sprung s.heap h' "TypeError" e->E (.ref e) {s with heap:=h',toks:=tk }):wpAny (model prog w) A (contains .none (.str x t)) Q E s:=
 oQ (v:=.none) (T:="NoneType") (λ_=>rfl) (by decide) (by rw [bM,aS];kernel_rfl) (by rw [bM,aS];kernel_rfl) (by rw [bM,aS];kernel_rfl) hh (ac (by kernel_rfl)) (ac (by kernel_rfl)) rfl hE
theorem zL {i:Int}(hh:A.handled=none){t:Tok}{Q:Bool->Shared->Prop}(hE:∀h' tk e,Sprung s.heap h' "TypeError" e->E (.ref e) {s with heap:=h',toks:=tk }):wpAny (model prog w) A (contains (.int i u) (.str x t)) Q E s:=
 oQ (v:=.int i u) (T:="int") (λ_=>rfl) (by decide) (by rw [bM,aS];kernel_rfl) (by rw [bM,aS];kernel_rfl) (by rw [bM,aS];kernel_rfl) hh (ac (by kernel_rfl)) (ac (by kernel_rfl)) rfl hE
theorem jr:Slot "bytes" "__contains__" "bytes.__contains__":=
 .of (owner:="bytes") (n:="__contains__") (by rw [bM,aS];kernel_rfl) (by decide +kernel) (by decide +kernel) (by decide +kernel)
  (by first | exact .inl (by decide +kernel) | exact .inr (by decide +kernel)) (by rw [bO];kernel_rfl)
theorem ni:entryFor table "bytes.__contains__"=some Builtin.«bytes.__contains__»:=oC (by kernel_rfl)
theorem mD (a b:Value):argsOk "bytes.__contains__" ⟨[a,b],[]⟩:=by
 unfold argsOk;rw [signature?_of (id:="bytes.__contains__") (n:=['_','_','s','n','i','a','t','n','o','c','_','_']) (o:=['s','e','t','y','b']) (by kernel_rfl) (show Manifest.owners.lookup (String.ofList ['s','e','t','y','b'].reverse)=some Ch by kernel_rfl)];kernel_rfl
theorem B5 {t:Tok}(hh:A.handled=none){Q:Int->Shared->Prop}(hE:∀h' tk e,Sprung s.heap h' "TypeError" e->E (.ref e) {s with heap:=h',toks:=tk }):wpAny (model prog w) A (asIndex (.str x t)) Q E s:=by
 have e2:typeLookup (.type "str") "__index__"=pure none:=by rw [bM,aS];kernel_rfl
 have hT:∀s':Shared,s'.TypeIs (.str x t) "str":=λ_=>rfl
 unfold asIndex callSpecial?
 refine aa (aj (a:=none) ?_)
 refine aa (aa (dj (hT _) e2 (aj ?_)))
 dsimp only
 refine aa (aj (a:="str") (ke lQ hh (λh' tk e m=>hE h' tk e (.of m)) (ac (by kernel_rfl))))
theorem FO (b:Array UInt8)(u:Tok):Builtin.Bytes.slotIsOwn (.bytes b u) "__buffer__"=pure true:=by kernel_rfl
theorem FF (b:Array UInt8)(u:Tok):Builtin.Bytes.ownRelease (.bytes b u)=pure false:=by kernel_rfl
theorem zZ {b:Array UInt8}{Q:Option (Array UInt8)->Shared->Prop}(h:Q (some b) s):wpAny (model prog w) A (Builtin.Bytes.buffer? "bytes.__contains__" (.bytes b u)) Q E s:=by
 have e4:typeLookup (.type "bytes") "__buffer__"=pure (some (.builtin "bytes.__buffer__")):=by rw [bM,aS];kernel_rfl
 have hT:∀s':Shared,s'.TypeIs (.bytes b u) "bytes":=λ_=>rfl
 unfold Builtin.Bytes.buffer?
 refine aa (dj (hT _) e4 ?_)
 dsimp only
 refine aa (fU (FO b u) ?_)
 refine aa (dj (hT _) e4 ?_)
 refine aa (fU (FF b u) ?_)
 exact aa (aj (aj h))
theorem DE {t:Tok}{Q:Option (Array UInt8)->Shared->Prop}(h:Q none s):wpAny (model prog w) A (Builtin.Bytes.buffer? "bytes.__contains__" (.str x t)) Q E s:=by
 have e3:typeLookup (.type "str") "__buffer__"=pure none:=by rw [bM,aS];kernel_rfl
 have hT:∀s':Shared,s'.TypeIs (.str x t) "str":=λ_=>rfl
 unfold Builtin.Bytes.buffer?
 exact aa (dj (hT _) e3 (aa (dj (hT _) e3 (aj h))))
theorem pF {b:Array UInt8}(hh:A.handled=none){t:Tok}{Q:Fin->Shared->Prop}(hE:∀h' tk e,Sprung s.heap h' "TypeError" e->E (.ref e) {s with heap:=h',toks:=tk }):wpAny (model prog w) A (Builtin.«bytes.__contains__» ⟨[.bytes b u,.str x t],[]⟩) Q E s:=by
 unfold Builtin.«bytes.__contains__» Builtin.Bytes.containsIn
 refine aa (aj (a:=(Value.bytes b u,[Value.str x t])) ?_)
 dsimp only
 refine aa (aa (Fq (B5 hh λh1 tk1 e1 m1=>?_)))
 refine aa (zZ ?_)
 dsimp only
 refine aa (DE ?_)
 dsimp only
 refine aa (gO (aa (wB (T:="str") rfl (by decide) (ke lQ hh (λh' tk e m=>hE h' tk e (.after m1.keep (.of m))) (ac (by kernel_rfl))))))
theorem vQ {b:Array UInt8}(hh:A.handled=none){t:Tok}{Q:Bool->Shared->Prop}(hE:∀h' tk e,Sprung s.heap h' "TypeError" e->E (.ref e) {s with heap:=h',toks:=tk }):wpAny (model prog w) A (contains (.bytes b u) (.str x t)) Q E s:=
 have hT:s.TypeIs (.bytes b u) "bytes":=rfl
 wpAny_contains_slot hT jr (fK jr hT ni (pF (A:=A.in1) hh hE) (mD _ _))
theorem wN {xs:Array Value}(hx:s.heap.get? a=some {cls:=.type "list",dict:=none,data:=.seq xs k,slots:=#[] })(hmiss:typeLookup (.type "list") name=pure none)(hname:(["__module__","__name__","__qualname__","__doc__","__annotations__"]:List Str).contains name=false)(hA:A.handled=none)(h:∀h' tk e,Heap.NewAttrErr s.heap h' e (.ref a) name->E (.ref e) {s with heap:=h',toks:=tk })(hsz:name.length + 100<=sizeLine):
  wpAny (model prog w) A (getAttr (.ref a) name) Q E s:=by
 obtain ⟨hp,g,d,tk,os⟩:=s
 have hT:∀tk',(⟨hp,g,d,tk',os⟩:Shared).TypeIs (.ref a) "list":=λ_=>⟨_,hx,rfl⟩
 have f1:=lN
 have f3:=Ec.lookup
 have f4:=Ec.bind (.ref a)
 have f5:=am_list_getattr_none
 unfold getAttr getAttrBy
 repeat (any_goals (first | assumption | exact hT _ | ((with_reducible show wpAny _ _ (call (pO "list.__getattribute__") _ _) _ _ _);refine gU Ec (hT _) DX (Ca _ _) (AX a xs k #[] name _ hmiss hname hsz) ⟨hx,hA,λh' tk' e hx'=>?_⟩) | wp_step))
 apply tJ (hx'.there);intro t' u' he
 show wpAny _ _ (getattributeRaised _ _ _ _ _ _ _) _ _ _
 unfold getattributeRaised
 repeat (any_goals (first | assumption | wp_step))
 exact h _ _ _ hx'
theorem DD:(Manifest.canonical "list.__getattribute__" !="object.__getattribute__")=false:=by kernel_rfl
theorem vg {xs:Array Value}{pl:Sem Bool}{Q:Value×List Value->Shared->Prop}(hx:s.heap.get? a=some {cls:=.type "list",dict:=none,data:=.seq xs k,slots:=#[] })(hmiss:typeLookup (.type "list") name=pure none)(hname:(["__module__","__name__","__qualname__","__doc__","__annotations__"]:List Str).contains name=false)(hA:A.handled=none)(h:∀h' tk e,Sprung s.heap h' "AttributeError" e->E (.ref e) {s with heap:=h',toks:=tk })(hsz:name.length + 100<=sizeLine):
  wpAny (model prog w) A (getMethod (.ref a) name pl) Q E s:=by
 have hT:s.TypeIs (.ref a) "list":=⟨_,hx,rfl⟩
 unfold getMethod
 refine aa (dj hT Ec.lookup ?_)
 dsimp only
 rw [DD]
 refine aa (dj hT am_list_getattr_none ?_)
 refine aa (dj hT hmiss ?_)
 exact aa (wN hx hmiss hname hA (λh' tk e m=>h h' tk e (.attr m)) hsz)
theorem GD {o:Expr}{args:List Expr}(hbase:attributeBase o name env (eval o env)=eval o env)(hfew:((backTo pos (starEach args env)).all (λx=>!x.1)&&(backToKw pos (keywordEach [] env)).all (λx=>x.1.isSome)
   &&decide (args.length + ([]:List Keyword).length + (if ([]:List Keyword).isEmpty then 0 else 1) < 30))=true)(h:wpAny (model prog w) A (eval o env) (λov s₁=>∀pl (Q:Value×List Value->Shared->Prop),wpAny (model prog w) A (getMethod ov name pl) Q E s₁) E s):
  wpAny (model prog w) A (eval (.Call (.Attribute o name apos) args [] pos) env) Q E s:=by
 rw [arm_eval_Call,hbase]
 refine aa (aI h (λov s₁ h₁=>?_) λ_ _ e=>e)
 refine aa (cM ?_)
 have hform:methodCallForm (args.length + ([]:List Keyword).length) (backTo pos (starEach args env)) (backToKw pos (keywordEach [] env))=true:=hfew
 unfold methodCall
 rw [hform]
 exact aa (bK (h₁ _ _))
noncomputable def Ctx0 (h:Heap)(e:Addr):Prop:=∃oe vs X,h.get? e=some oe/\oe.cls=.type X/\oe.data=.fields vs/\vs[2]? =some .none
theorem De (h:o.cls=.type X):bD o=false:=by obtain ⟨c,d,dt,sl⟩:=o;simp only at h;subst h;rfl
theorem Ctx0.keep {e:Addr}(c:Ctx0 h e)(k:∀o,h.get? e=some o->bD o=false->h'.get? e=some o):Ctx0 h' e:=ij c λoe vs X a t b d=>⟨oe,vs,X,k _ a (De t),t,b,d⟩
theorem AO {M:Model}{L:Addr}{e:Addr}{vs:Array Value}{Q:Unit->Shared->Prop}(hfr:A.frames=some (env :: outer))(hl:s.heap.FunFrames base (env :: outer))(hf:env.frame=some L)(he:s.heap.get? e=some oe)(hkb:base.StaysIn s.heap)(hen:base.get? e=none)(hd:oe.data=.fields vs)(h1:vs[1]? =some .none)(h0:vs[0]? =some a0)(h2:vs[2]? =some .none)(ht:oe.cls=.type X)(h:∀h',Heap.HeldW base (env :: outer) e oe.cls a0 L h'->s.heap.UpToSlots h'->Ctx0 h' e->Q () {s with heap:=h' }):wpAny M A (noteFrame (.ref e) env) Q E s:=by
 unfold noteFrame
 simp only [hf]
 refine aa (bC he hd h1 ?_)
 rw [if_neg (by decide)]
 have hsz:=(Array.getElem?_eq_some_iff.mp h1).1
 have hene:e∉(env :: outer).filterMap (·.frame):=λhm=>by
  apply oP (hl.mem hm);intro _ o ho hnf
  rw [he] at ho;injection ho with ho;subst ho;exact hnf vs hd
 refine aa (wpAny_frameOf_fun hfr hl hf λh₁ hs₁=>?_)
 refine aa (wpAny_entryPlaceOf λpl hpl=>?_)
 unfold EntryCells.newEntry newFields
 refine aa (bB ?_ (hpl.sizeOk5 _ _ _ _ _))
 have he₁:h₁.get? e=some oe:=(hs₁.2.1 e hene).trans he
 have kb₁:base.StaysIn h₁:=λb o hbo=>(hs₁.2.1 b λhm=>by rw [(hl.mem hm).1] at hbo;exact (aK hbo).elim).trans (hkb b o hbo)
 generalize hob:({cls:=.type "traceback",dict:=none,data:=.fields ([ef,.ref L,.none,rawInt L,.none]++(if pl.isEmpty then bE 6 ef else pl)).toArray }:Obj)=ob
 have he₂:=Heap.get?_push_of_some (h:=h₁) ob he₁
 refine jm he₂ hd hsz ?_
 have hTe:h₁.objs.size≠e:=dN (aF he₁)
 have hd₃:=eG hd (·.setIfInBounds 1 (dT h₁.objs.size))
 have he₃:=Heap.get?_update_self (jw (·.setIfInBounds 1 (dT h₁.objs.size))) he₂ (jk hd₃)
 have hT₃:=(Heap.get?_update_other (h₁.push ob) (jw (·.setIfInBounds 1 (dT h₁.objs.size))) (fy hTe)).trans (Heap.get?_push_size h₁ (by rw [<-hob];rfl))
 have keep:∀b o,b≠e->h₁.get? b=some o->((h₁.push ob).update e (jw (·.setIfInBounds 1 (dT h₁.objs.size)))).get? b=some o:=
  λb o hbe hb=>by
   rw [Heap.get?_update_other _ _ (fy hbe)]
   exact Heap.get?_push_of_some _ hb
 have noRecord:∀b o,s.heap.get? b=some o->(∀vs,o.data≠.fields vs)->b≠e:=λb o hb hnf q=>by
  rw [q,he] at hb;injection hb with hb;subst hb;exact hnf vs hd
 refine h _ ⟨λb o hbo=>keep b o (λq=>by rw [q,hen] at hbo;exact (aK hbo).elim) (kb₁ b o hbo),hen,hl.of_keeps λb o hb hnf=>?_,?_⟩ (λb o hb hnf=>?_) ?_
 .obtain ⟨sl,hs⟩:=hs₁.2.2 b o hb
  exact ⟨_,keep b _ (noRecord b o hb hnf) hs,rfl⟩
 .exact ⟨_,_,h₁.objs.size,ob,([ef,.ref L,.none,rawInt L,.none]++(if pl.isEmpty then bE 6 ef else pl)).toArray,he₃,⟨lD _ _,by rw [Array.getElem?_setIfInBounds_ne (by decide)];exact h0⟩,hd₃,by simp [hsz],kb₁.fresh,hTe,hT₃,by rw [<-hob],by first | (simp;done) | (rcases hpl with rfl | ⟨_,_,_,_,_,_,_,rfl⟩<;>simp)⟩
 .obtain ⟨sl,hs⟩:=hs₁.2.2 b o hb
  exact ⟨sl,keep b _ (noRecord b o hb hnf) hs⟩
 .exact ⟨_,_,_,he₃,(lD _ _).trans ht,hd₃,by rw [Array.getElem?_setIfInBounds_ne (by decide)];exact h2⟩
theorem zq {M:Model}{e:Addr}{cls:Value}{fl:Value}{Q:Unit->Shared->Prop}(fr:Option Addr)(hkb:base.StaysIn s.heap)(hl:s.heap.FunFrames base l)(ht:s.heap.TracedAtW base e cls a0 fl)(h:∀h',base.StaysIn h'->h'.FunFrames base l->h'.TracedAtW base e cls a0 (fr.elim .none λf=>rawInt f)->s.heap.UpToSlots h'->h'.get? e=s.heap.get? e->Q () {s with heap:=h' }):
  wpAny M A (setFlight (.ref e) fr) Q E s:=by
 apply mu (ht);intro oe vs T oT ts he hcls hd h1 hnT hTe hT hdT h3
 have hsz3:3 < ts.size:=(Array.getElem?_eq_some_iff.mp h3).1
 have other:∀b,b≠T->(s.heap.update T (jw (·.setIfInBounds 3 (fr.elim ef λf=>rawInt f)))).get? b=s.heap.get? b:=
  λb hb=>Heap.get?_update_other _ _ (fy hb)
 have noRecord:∀b o,s.heap.get? b=some o->(∀vs,o.data≠.fields vs)->b≠T:=λb o hb hnf q=>by
  rw [q,hT] at hb;injection hb with hb;subst hb;exact hnf ts hdT
 unfold setFlight
 refine aa (bC he hd h1 ?_)
 rw [if_pos (show (dT T !=ef)=true from by simp)]
 refine jm hT hdT hsz3 (h _ (λb o hbo=>(other b λq=>by rw [q,hnT] at hbo;exact (aK hbo).elim).trans (hkb b o hbo))
  (hl.of_keeps λb o hb hnf=>⟨o,(other b (noRecord b o hb hnf)).trans hb,rfl⟩) ?_ (λb o hb hnf=>⟨o.slots,(other b (noRecord b o hb hnf)).trans hb⟩) (other e (fy hTe)))
 exact ⟨oe,vs,T,_,_,(other e (fy hTe)).trans he,hcls,hd,h1,hnT,hTe,Heap.get?_update_self _ hT (jk (eG hdT _)),eG hdT _,by simp [hsz3]⟩
theorem yZ {M:Model}{L:Addr}{e:Addr}{cls:Value}{Av:Option Value}{EE:Value->Shared->Prop}(hfr:A.frames=some (env :: outer))(hf:env.frame=some L)(hfl:iI base (env :: outer) e cls a0 s.heap)(hQ:∀h',iI base outer e cls a0 h'->s.heap.UpToSlots h'->EE (.ref e) {s with heap:=h' }):
  notedBy M (A.mark Av) env (cameBackBy M A env λe' s'=>wpAny M A (leaving env e') (λ_ s''=>EE e' s'') (λe'' s''=>EE e'' s'') s') (.ref e) s:=by
 unfold notedBy
 refine wpAny_looks_onW (A:=A.mark Av) hfr hf hfl λh1 k1 u1=>?_
 unfold cameBackBy
 have b1:=k1.1;have b2:=k1.2.1;have b3:=k1.2.2.1;have b4:=k1.2.2.2
 have b4':=b4
 apply mu (b4');intro oe vs T oT ts he hcls hd hv1 hnT hTe hT hdT h3
 refine aa (bC (s:={s with heap:=h1 }) he hd hv1 ?_)
 rw [if_neg (by simp)]
 rw [hf]
 refine zq (s:={s with heap:=h1 }) (some L) b1 b3 b4 λh2 c1 c3 c4 u2 _=>?_
 unfold leaving
 refine aa (wpAny_noteFrame_againW (s:={s with heap:=h2 }) hf c4 ?_)
 refine wpAny_landsW (s:={s with heap:=h2 }) ⟨c1,b2,c3,c4⟩ λh3 d u3=>?_
 have d1:=d.1;have d2:=d.2.1;have hn0:=d.2.2.1;have d4:=d.2.2.2;obtain ⟨_,_,d3⟩:=hn0
 exact hQ h3 ⟨d1,d2,d3,d4⟩ ((u1.trans u2).trans u3)
theorem wQ:entryFor table "proto.unchain"=some Builtin.«proto.unchain»:=oC (by kernel_rfl)
theorem wG {h:Addr}{e:Addr}{vs:Array Value}{Q:α->Shared->Prop}(hh:A.handled=some (.ref h))(hne:h≠e)(hc:Ctx0 s.heap h)(he:s.heap.get? e=some oe)(hd:oe.data=.fields vs)(h2:2 < vs.size)(hE:E (.ref e) {s with heap:=s.heap.update e (jw (·.setIfInBounds 2 (.ref h))) }):wpAny (model prog w) A (raiseNew (.ref e):Sem α) Q E s:=by
 apply ij (hc);intro oh vh X a b c d
 unfold raiseNew
 refine aa (tT ?_)
 rw [hh]
 dsimp only
 rw [if_pos (show (dT h !=dT e)=true from by simp [hne])]
 refine aa (bK (runValue_entry wQ ?_))
 unfold Builtin.«proto.unchain»
 dsimp only
 refine aa (bC a c d ?_)
 rw [if_pos (by rfl)]
 refine aa (aj (aj ⟨_,rfl,?_⟩))
 obtain ⟨cc,dd,dt,sl⟩:=oe
 simp only at hd
 subst hd
 unfold updateField
 refine aa (aa (wpAny_load he ?_))
 dsimp only
 rw [if_pos h2]
 exact wpAny_update he (Ae hE)
theorem tD {cls:String}(F:ExcRaiseFacts cls){x:Sem Value}{Q:Flow->Shared->Prop}(h:wpAny (model prog w) A x (λv s₁=>∃e t,v=.ref e/\s₁.heap.get? e=some {cls:=.type cls,data:=.fields #[.ref t,.none,.none,.none,.bool false,.none] }/\wpAny (model prog w) A (raiseNew (.ref e):Sem Flow) Q E s₁) E s):
  wpAny (model prog w) A (raiseStmt env (some x) none) Q E s:=by
 unfold raiseStmt
 refine aa (aI h (λv s₁ h₁=>?_) λ_ _ x=>x)
 apply bP (h₁);intro e t hq0 he hE;subst hq0
 obtain ⟨hp,g,d,tk,os⟩:=s₁
 have hsub:=F.isExc
 have hmeta:=F.plainMeta
 repeat (first | exact hE | refine wpAny_loadPart he ?_ | wp_step)
section
open Builtin Builtin.ObjectAttr Builtin.Getset_descriptor Calls
variable {prog:Program}{w:World}{A:Around}{E:Value->Shared->Prop}{s:Shared}{K:Frag}{T q:String}
theorem yS {expr:Bool}(X:K.In s.heap)(ht:kitMeta T=true)(hs:GY T=false)(e:findCls K (.type T) (.type "type") "__name__"=some (.get (.builtin "getset_descriptor.__get__") (.builtin "type.__name__") (.type T) (.type "type")))(hq:ktynFast T=q)(hz:(cY q).length<=sizeLine)(h:∀tk u,Q (.str (cY q) tk) {s with toks:=u }):wpAny (model prog w) A (getAttr (.type T) "__name__" expr) Q E s:=by
 have hstub:opaqueClassAbove (.type T)=pure none:=by unfold opaqueClassAbove;dsimp only;rw [hs];rfl
 have L0:Looks (model prog w) s.heap (typeOf (.type T)) (.type "type"):=Looks.of_pure (kitMeta_of ht)
 have LO:Looks (model prog w) s.heap (opaqueClassAbove (.type T)) none:=Looks.of_pure hstub
 have hg:findIn K (.type "type") "__getattribute__"=some (some (.builtin "type.__getattribute__")):=type_tga
 refine cls_open X LO L0 hg (looks_hook X (r:=none) (by rfl)) (by show subIn K _ _=_;rfl) e ?_
 show wpAny _ _ (do ret (<-holding [pO "type.__name__"] (call (.builtin "getset_descriptor.__get__") [.builtin "type.__name__",.type T,.type "type"]))) _ _ _
 refine aa (bK (wpAny_call (ktyn_get (s:={s with toks:=s.toks + 1 }) (kitMeta_of ht) hq hz ?_)))
 exact aj (handed_on rfl (h _ _))
end
section
open Builtin
variable {W:Wd}{A:Around}{g g':View}{s s':Shared}{env:Env}{ρ:Rho}{d:D}{T:String}{rp:Str}
theorem tC:Slot "bytes" "__repr__" "bytes.__repr__":=
 .of (owner:="bytes") (n:="__repr__") (by rw [bM,aS];kernel_rfl) (by decide +kernel) (by decide +kernel) (by decide +kernel)
  (by first | exact .inl (by decide +kernel) | exact .inr (by decide +kernel)) (by rw [bO];kernel_rfl)
theorem sv:entryFor table "bytes.__repr__"=some Builtin.«bytes.__repr__»:=oC (by kernel_rfl)
theorem rt (a:Value):argsOk "bytes.__repr__" ⟨[a],[]⟩:=by
 unfold argsOk;rw [signature?_of (id:="bytes.__repr__") (n:=['_','_','r','p','e','r','_','_']) (o:=['s','e','t','y','b']) (by kernel_rfl) (show Manifest.owners.lookup (String.ofList ['s','e','t','y','b'].reverse)=some Ch by kernel_rfl)];kernel_rfl
theorem sj (t:Tok):PySem.Gives (Builtin.«bytes.__repr__» ⟨[.bytes #[60] t],[]⟩) (.str "b'<'"):=.of_eq (by kernel_rfl)
structure TyName (T:String):Prop where
 a:kitMeta T=true
 b:GY T=false
 c:findCls [] (.type T) (.type "type") "__name__"=some (.get (.builtin "getset_descriptor.__get__") (.builtin "type.__name__") (.type T) (.type "type"))
 d:ktynFast T=T
 e:(cY T).length<=sizeLine
theorem Ct:TyName "int":=⟨by decide +kernel,by decide +kernel,by kernel_rfl,by kernel_rfl,ac (by kernel_rfl)⟩
theorem Ar:TyName "NoneType":=⟨by decide +kernel,by decide +kernel,by kernel_rfl,by kernel_rfl,ac (by kernel_rfl)⟩
theorem yz:TyName "bytes":=⟨by decide +kernel,by decide +kernel,by kernel_rfl,by kernel_rfl,ac (by kernel_rfl)⟩
theorem As:TyName "list":=⟨by decide +kernel,by decide +kernel,by kernel_rfl,by kernel_rfl,ac (by kernel_rfl)⟩
theorem TyName.get (t:TyName T){x:Bool}(h:∀tk u,Q (.str (cY T) tk) {s with toks:=u }):wpAny (model prog w) A (getAttr (.type T) "__name__" x) Q E s:=
 yS (K:=[]) (q:=T) (λ_ _ e=>nomatch e) t.a t.b t.c t.d t.e h
structure OddX (d:D)(rp:Str)(T:String):Prop where
 repr:∀{W:Wd} {A:Around} {g:View} {s:Shared} {v:Value},Ok W g s->Rep W g v d->A.guards=some []->A.units + 100 < cLine->Yl W A (pyReprObj v) g s (.str rp)
 ty:∀{W:Wd} {g:View} {s:Shared} {v:Value},Ok W g s->Rep W g v d->s.TypeIs v T
 nb:(dv T==dv "builtin_function_or_method")=false
 name:TyName T
theorem KX:OddX (.int 7) "7" "int" where
 repr:=λk r _ _ Q E hQ=>by
  obtain ⟨_,rfl⟩:=r.inv
  exact pyReprObj_int (by decide +kernel) (hQ _ _ _ (Ext.tk k (aY _)) (.str _ _))
 ty:=λk r=>by obtain ⟨_,rfl⟩:=r.inv;rfl
 nb:=by decide
 name:=Ct
theorem H5:OddX .none "None" "NoneType" where
 repr:=λk r _ _ Q E hQ=>by
  obtain rfl:=r.inv
  exact pyReprObj_none (hQ _ _ _ (Ext.tk k (aY _)) (.str _ _))
 ty:=λk r=>by obtain rfl:=r.inv;rfl
 nb:=by decide
 name:=Ar
theorem FP:OddX (.bytes #[60]) "b'<'" "bytes" where
 repr:=λk r _ _ Q E hQ=>by
  obtain ⟨_,rfl⟩:=r.inv
  exact wpAny_pyReprObj_gives (T:="bytes") rfl tC sv (rt _) (sj _) (hQ _ _ _ (Ext.tk k (aY _)) (.str _ _)) (hx:=ac (by kernel_rfl))
 ty:=λk r=>by obtain ⟨_,rfl⟩:=r.inv;rfl
 nb:=by decide
 name:=yz
theorem H6:OddX (.list [.str "&"]) "['&']" "list" where
 repr:=λ{W A g s v} k r hg hu Q E hQ=>by
  obtain ⟨as,ra⟩:=iN (p:=.list [.str "&"]) k.sub rfl r
  apply aV (r.inv_list);intro a vs n hq0 h1 _;subst hq0
  refine ch (ae _) (pyReprObj_of_reads (d:=.list [.str "&"]) ra (by rfl) (λh=>by cases h) hg (bI (fq (by decide) _) hu) (λ_ _ e=>e) (λh' u tk hk hle=>?_) (ac (by kernel_rfl)))
  exact hQ _ _ _ (Ext.kept k hk hle) (by rw [show (PyData.list [PyData.str "&"]).shown=("['&']":Str) by kernel_rfl];exact .str _ _)
 ty:=λk r=>by apply aV (r.inv_list);intro a vs n hq0 h1 _;subst hq0;exact ⟨_,k.sub _ _ h1,rfl⟩
 nb:=by decide
 name:=As
end
noncomputable def eY (rp:Str)(T:String):Str:="cannot serialize "++rp++" (type "++cY T++")"
theorem uf {t:Tok}(k:Ok W g s)(hz:y.length<=sizeLine):Yl W A (formatField (.str y t) wj) g s (.str y):=λQ E hQ=>
 wpAny_formatField_str (hQ _ _ _ (Ext.refl k) (.str _ _)) (hQ _ _ _ (Ext.tk k (aY _)) (.str _ _)) hz
variable {rp:Str}
theorem Gj {x:Expr}(O:OddX d rp T)(hx:aQ W A env ρ x d)(hg:A.guards=some [])(hu:A.units + 100 < cLine)(hz:rp.length<=sizeLine):aQ W A env ρ (.FormattedValue x 114 none p) (.str rp):=λg s F k Q E hQ=>
 wpAny_FormattedValue_repr (hx g s F k _ _ λv g1 s1 x1 r1=>O.repr x1.ok r1 hg hu _ _ λv2 g2 s2 x2 r2=>by
  obtain ⟨_,rfl⟩:=r2.inv
  exact uf x2.ok hz _ _ λv3 g3 s3 x3 r3=>hQ v3 g3 s3 (x1.trans (x2.trans x3)) r3)
theorem Bh {xe:Expr}(O:OddX d rp T)(ht:aQ W A env ρ (.Name x p1) (.ty "type"))(hx:aQ W A env ρ xe d)(hs:fN xe=true):aQ W A env ρ (.FormattedValue (.Attribute (.Call (.Name x p1) [xe] [] p2) "__name__" p3) 115 none p) (.str (cY T)):=λg s F k Q E hQ=>by
 refine wpAny_FormattedValue_s ?_
 rw [arm_eval_Attribute]
 refine aa ?_
 show wpAny _ _ (eval (.Call (.Name x p1) [xe] [] p2) env) _ _ _
 refine dF ht (.cons (aJ hs) hx .nil) .nil (fF _) F k λg2 s2 vf vs kvs x2 rf rs hkv _=>?_
 have:kvs=[]:=by simpa using hkv
 subst this
 apply rs.elim1;intro v rv
 obtain rfl:=rf.inv
 refine call_type_of (O.ty x2.ok rv) O.nb (aa (cM (aa (bK (ch (ae _) (O.name.get λtk u hle=>?_))))))
 refine aa (aj (aj ?_))
 refine wpAny_habitSame_str ?_ ?_ O.name.e
 .exact uf (Ext.tk x2.ok hle).ok O.name.e _ _ λv3 g3 s3 x3 r3=>hQ v3 g3 s3 (x2.trans ((Ext.tk x2.ok hle).trans x3)) r3
 .exact uf (Ext.tk x2.ok (Nat.le_succ_of_le hle)).ok O.name.e _ _ λv3 g3 s3 x3 r3=>hQ v3 g3 s3 (x2.trans ((Ext.tk x2.ok (Nat.le_succ_of_le hle)).trans x3)) r3
theorem Hi {x1 x2 x3 x4 x5:Expr}(h1:aQ W A env ρ x1 (.kstr "cannot serialize "))(h2:aQ W A env ρ x2 (.str rp))(h3:aQ W A env ρ x3 (.kstr " (type "))(h4:aQ W A env ρ x4 (.str (cY T)))(h5:aQ W A env ρ x5 (.kstr ")"))(hz:(eY rp T).length<=sizeLine):
  aQ W A env ρ (.JoinedStr [x1,x2,x3,x4,x5] p) (.str (eY rp T)):=λg s F k Q E hQ=>by
 have z:∀{a b:Str},(a++b).length<=sizeLine->a.length<=sizeLine:=λ{a b} h=>by rw [strLen_append] at h;exact JC h
 refine wpAny_JoinedStr ?_
 refine h1 g s F k _ _ λv1 g1 s1 y1 r1=>?_
 apply aA (r1.inv);intro _ hq0 _;subst hq0
 refine ⟨_,_,rfl,by rewrite [hY];exact ac (by kernel_rfl),?_⟩
 refine h2 g1 s1 (F.ext y1) y1.ok _ _ λv2 g2 s2 y2 r2=>?_
 obtain ⟨_,rfl⟩:=r2.inv
 have F2:=(F.ext y1).ext y2
 refine ⟨_,_,rfl,by rewrite [hY];exact z (z (z hz)),?_⟩
 refine h3 g2 s2 F2 y2.ok _ _ λv3 g3 s3 y3 r3=>?_
 apply aA (r3.inv);intro _ hq0 _;subst hq0
 refine ⟨_,_,rfl,by rewrite [hY];exact z (z hz),?_⟩
 refine h4 g3 s3 (F2.ext y3) y3.ok _ _ λv4 g4 s4 y4 r4=>?_
 obtain ⟨_,rfl⟩:=r4.inv
 refine ⟨_,_,rfl,by rewrite [hY];exact z hz,?_⟩
 refine h5 g4 s4 ((F2.ext y3).ext y4) y4.ok _ _ λv5 g5 s5 y5 r5=>?_
 apply aA (r5.inv);intro _ hq0 _;subst hq0
 refine ⟨_,_,rfl,by rewrite [hY];exact hz,by rewrite [hY];exact hz,?_⟩
 exact hQ _ _ _ (y1.trans (y2.trans (y3.trans (y4.trans (y5.trans (Ext.tk y5.ok (aY _))))))) (by rewrite [hY];exact .str _ _)
theorem EI:FnK 99 14 "_raise_serialization_error" .none .none lS 98:=⟨λP=>by kernel_rfl,λP=>by kernel_rfl⟩
theorem Kg (P:Params)(a:Value):∀S,peek (Kf P) S (bindArgs (kT 14 "_raise_serialization_error" .none .none lS 98) ⟨[a],[]⟩)=some ((["text"]:List Str).zip [a]):=λS=>by kernel_rfl
theorem AY {h:Addr}{e:Addr}{args:List Value}(x:Ext W g s g1 s1)(hm:Cl s1.heap h' e X args)(hms:yl msg args):Made W g s X msg e {s1 with heap:=h'.update e (jw (·.setIfInBounds 2 (.ref h))) }:=by
 apply bT (hm.there);intro t h1 h2 h3
 have ne:∀b o,s1.heap.get? b=some o->b≠e:=λb o q r=>by rw [r,hm.new] at q;exact (aK q).elim
 have hte:t≠e:=λq=>by rw [q,h1] at h3;cases h3
 refine ⟨g1,s1,t,args,.ref h,x,hms,λb o q=>(Heap.get?_update_other _ _ (fy (ne b o q))).trans (hm.keeps b o q),hm.new,?_,⟨_,_,(Heap.get?_update_other _ _ (fy hte)).trans h3,rfl,rfl⟩,rfl⟩
 exact Heap.get?_update_self _ h1 rfl
theorem yL {h:Addr}{gl:Str->Option D}{m:Str}{x:Expr}{cp:Pos}{Q:Flow->Shared->Prop}(G:kS W gl)(hk:env.kindOf y=some .globalImplicit)(hy:gl y=some (.ty "TypeError"))(hh:A.handled=some (.ref h))(F:Fra W g s env ρ)(k:Ok W g s)(hc:Ctx0 s.heap h)(hn:fN x=true)(he:aQ W A env ρ x (.str m))(hE:∀e s2,Made W g s "TypeError" (some m) e s2->E (.ref e) s2):wpAny (model W.prog W.w) A (exec (.Raise (some (.Call (.Name y np) [x] [] cp)) none p) env) Q E s:=by
 rw [arm_exec_Raise]
 refine aa (cM (tD PySem.F.excRaise_TypeError (aa (aI (wpAny_Call_ofName (aI (lR G hk hy F k) (λf s₁ h₁=>?_) λ_ _ x=>x)) (λv s₁ h₁=>aa (cM (aj h₁))) λ_ _ x=>x))))
 have hq0:=h₁.1;have hq1:=h₁.2;subst hq0;subst hq1
 refine callWith_excType (gR (.cons (aJ hn) he .nil)) ?_
 have hsp:=fH (W:=W) (A:=A) (pos:=cp) (.cons (aJ hn) he .nil) g s₁ F k
 rw [ct (aJ hn)] at hsp ⊢
 refine Calls.evalArgs_plain (hsp _ _ λvs g2 s2 x2 r2=>?_)
 apply r2.elim1;intro u ru
 obtain ⟨_,rfl⟩:=ru.inv
 refine wpAny_call_exc PySem.F.excCall_TypeError (hrest:=ac rfl) λh' e hm=>?_
 apply bT (hm.there);intro t ht _ _
 have hc2:Ctx0 s2.heap h:=hc.keep λo q r=>x2.keep _ o q r
 have hne:h≠e:=λq=>by apply pv (hc2);intro oe vs X a _;rw [q,hm.new] at a;exact (aK a).elim
 exact ⟨e,t,rfl,ht,wG hh hne (hc2.keep λo q _=>hm.keeps _ _ q) ht rfl (ac rfl) (hE e _ (AY (s1:=s2) (args:=[.str m _]) (msg:=some m) x2 hm ⟨_,rfl⟩))⟩
theorem CJ {h:Addr}(hP:jv W)(O:OddX d rp T)(hz:(eY rp T).length<=sizeLine)(hh:A.handled=some (.ref h))(hdep:A.depth < recursionLimit)(hg:A.guards=some [])(hu:A.units + 300 < cLine)(hA:A.frames=some l):
  ∀g s vf vs,Ok W g s->Frs g s l->Ctx0 s.heap h->Rep W g vf (.ref 99)->RepAll W g vs [d]->∀Q (E:Value->Shared->Prop),(∀e s2,Out W g s l "TypeError" (some (eY rp T)) e s2->E (.ref e) s2)->wpAny (model W.prog W.w) A (call vf vs []) Q E s:=λg s vf vs ok hF hc rf rs Q E hE=>by
 obtain rfl:=rf.inv
 apply rs.elim1;intro vd rd
 have K:=EI
 have hx0:=jJ (fd:=kT 14 "_raise_serialization_error" .none .none lS 98) (names:=["text"]) (by kernel_rfl);have t1:=hx0.1;have t2:=hx0.2.1;have t3:=hx0.2.2.1;have t4:=hx0.2.2.2.1;have t5:=hx0.2.2.2.2
 refine jg (args:=⟨[vd],[]⟩) hdep ok (ok.baseHeap _ _ (hP 99 _ (K.obj _))) rfl t1 t2 t3 ((K.codeRec hP).keeps ok.baseHeap) (wL (K:=Kf W.w.params) (λa o e=>ok.baseHeap _ _ (hP a o e)) (Kg _ vd)) t4 t5 rfl (.cons rd .nil) λenv s1 e1 e2 e3 e4 hfr x1 F=>?_
 have hF1:=nS F e4 (hF.ext x1)
 have hs:env.scope=bh 14:=e1
 have nm:∀x {d'},oK (bh 14) gl (dc ["text"] [d] .nil) x=some d'->∀{p},aQ W (A.deeper env) env (dc ["text"] [d] .nil) (.Name x p) d':=λx {d'} h {p}=>fG hs (eX hP) h
 have hz1:rp.length<=sizeLine:=by
  unfold eY at hz
  simp only [strLen_append] at hz
  exact (qN (.l Y1 Y5) [1]:yy [.l (.a (.a (.a (.a Y0 Y1) Y2) Y3) Y4) Y5]) hz
 show wpAny _ _ (execs (aH 14) env) _ _ _
 refine aP (yL (A:=A.deeper env) (h:=h) (m:=eY rp T) (eX hP) (by unfold bj;rw [hs];rfl) rfl hh F x1.ok (hc.keep λo q r=>x1.keep _ o q r) rfl ?_ λe s2 hm=>?_)
 .exact Hi (iR rfl) (Gj O (nm _ rfl) hg (by show A.units + 3 + 100 < cLine;exact (qN (aR (.a (.a Y0 J3) (.k 100)) Y1) [1]:cz [aR (.a Y0 (.k 300)) Y1]) hu) hz1) (iR rfl) (Bh O (nm _ rfl) (nm _ rfl) rfl) (iR rfl) hz
 .exact lV (A:=A.deeper env) x1 (bf (hfr _ (.inl rfl))) (cw hA) hF1 (.inl hm) λs3 ho=>hE e s3 ho
noncomputable def Qj (W:Wd)(g:View)(s:Shared)(e:Addr)(s2:Shared):Prop:=
 ∃g1 s1 X,(X="TypeError"\/X="AttributeError")/\Ext W g s g1 s1/\Sprung s1.heap s2.heap X e/\s2={s1 with heap:=s2.heap,toks:=s2.toks }/\s1.toks<=s2.toks
noncomputable def GT (d:D):Prop:=d=.int 7\/d=.none\/d=.bytes #[60]\/d=.list [.str "&"]
theorem Ob (hu:A.units + 100 < cLine){u:Value}(k:Ok W g s)(r1:Rep W g v (.kstr "&"))(r2:Rep W g u (.list [.str "&"])):Yl W A (compareOp .In v u) g s (.bool true):=
 n7 (b:=true) (P:=[bQ (.list [.str "&"]),bQ (.str "&")]) (by kernel_rfl) (by refine ⟨?_,?_,trivial⟩<;>(unfold bQ;kernel_rfl)) k r1 r2 hu
theorem yU:typeLookup (.type "list") "replace"=pure none:=by rw [bM,aS];kernel_rfl
theorem IH {p4:Pos}{p5:Pos}{p6:Pos}{p7:Pos}{p8:Pos}{p9:Pos}{c:Expr}{bs1 bs o:List Stmt}(hh:A.handled=none)(hu:A.units + 100 < cLine)(hd:GT d)(hc:aQ W A env ρ c (.kstr "&"))(hx:∀p,aQ W A env ρ (.Name x p) d)(hes:((backTo p6 (starEach es env)).all (λx=>!x.1)&&(backToKw p6 (keywordEach [] env)).all (λx=>x.1.isSome)&&decide (es.length + ([]:List Keyword).length + (if ([]:List Keyword).isEmpty then 0 else 1) < 30))=true)(F:Fra W g s env ρ)(k:Ok W g s){Q:Flow->Shared->Prop}(hE:∀e s2,Qj W g s e s2->E (.ref e) s2):
  wpAny (model W.prog W.w) A (execs (.If (.Compare c [.In] [.Name x p2] p3) (.Assign [.Name x' p4] (.Call (.Attribute (.Name x p5) "replace" p7) es [] p6) p8 :: bs1) o p9 :: bs) env) Q E s:=by
 refine aP (wpAny_If (wpAny_isTrue_Compare1 (hc g s F k _ _ λv1 g1 s1 x1 r1=>hx p2 g1 s1 (F.ext x1) x1.ok _ _ λv2 g2 s2 x2 r2=>?_) rfl))
 have r1':=r1.mono x2.le
 have spr:∀{P:Value->Shared->Prop},(∀e s3,Qj W g s e s3->P (.ref e) s3)->∀h' tk e,Sprung s2.heap h' "TypeError" e->s2.toks<=tk->P (.ref e) {s2 with heap:=h',toks:=tk }:=λhP h' tk e m hle=>hP e _ ⟨g2,s2,"TypeError",.inl rfl,x1.trans x2,m,rfl,hle⟩
 rcases hd with rfl | rfl | rfl | rfl
 .refine r1'.kstrE λ_ _=>r2.intE λ_=>ch (ae _) (aa (zL hh (spr hE)))
 .refine r1'.kstrE λ_ _=>r2.noneE (ch (ae _) (aa (wS hh (spr hE))))
 .refine r1'.kstrE λ_ _=>r2.bytesE λ_=>ch (ae _) (aa (vQ hh (spr hE)))
 .refine Ob hu x2.ok r1' r2 _ _ λv3 g3 s3 x3 r3=>r3.boolE (fi ?_)
  have x13:=x1.trans (x2.trans x3)
  refine aP (gz (GD rfl hes (hx p5 g3 s3 (F.ext x13) x13.ok _ _ λv4 g4 s4 x4 r4=>λpl Q=>?_)) (gX rfl))
  apply aV (r4.inv_list);intro a vs n hq0 h1 _;subst hq0
  refine ch (ae _) (vg (x4.ok.sub _ _ h1) yU (by decide +kernel) hh (λh' tk e m hle=>?_) (ac (by kernel_rfl)))
  exact hE e _ ⟨g4,s4,"AttributeError",.inr rfl,x13.trans x4,m,rfl,hle⟩
theorem Gi {gl:Str->Option D}{x1 x2:Str}(G:kS W gl)(F:Fra W g s env ρ)(k:Ok W g s)(h1:env.kindOf x1=some .globalImplicit/\gl x1=some (.ty T1))(h2:env.kindOf x2=some .globalImplicit/\gl x2=some (.ty T2))(hQ:Q (.ref s.heap.objs.size) {s with heap:=s.heap.push {cls:=.type "tuple",data:=.seq #[.type T1,.type T2] } }):
  wpAny (model W.prog W.w) A (eval (.Tuple [.Name x1 p1,.Name x2 p2] m p) env) Q E s:=by
 refine Tuple_ ?_
 show wpAny _ _ (spliced [(false,eval (.Name x1 p1) env),(false,eval (.Name x2 p2) env)]) _ _ _
 refine ci (aI (lR G h1.1 h1.2 F k) (λv s₁ zq0=>Ag zq0 λe1 e2=>?_) λ_ _ x=>x)
 subst e1 e2
 refine ci (aI (lR G h2.1 h2.2 F k) (λv s₁ zq0=>Ag zq0 λe1 e2=>?_) λ_ _ x=>x)
 subst e1 e2
 exact eV (bB hQ (by show _<=sizeLine;exact ac rfl))
theorem wE {g4:View}{s7:Shared}{e:Addr}{EE:Value->Shared->Prop}(x1:Ext W g s g1 s1)(hnew:B8 s env.locals)(hA:A.frames=some (env :: l))(hf:env.frame=some env.locals)(x4:ExtM W (·∈cy (env :: l)) g1 s1 g4 s4)(Fr4:Frs g4 s4 (env :: l))(n4:∀env'∈env :: l,∀m,s1.heap.Ns env'.locals m->s4.heap.Ns env'.locals m){Av:Option Value}(ho:Out W g4 s4 (env :: l) X msg e s7)(hE:∀s8,Out W g s l X msg e s8->EE (.ref e) s8):
  notedBy (model W.prog W.w) (A.mark Av) env (cameBackBy (model W.prog W.w) A env λe' s'=>wpAny (model W.prog W.w) A (leaving env e') (λ_ s''=>EE e' s'') (λe'' s''=>EE e'' s'') s') (.ref e) s7:=by
 obtain ⟨g6,s6,pre,args,x6,n6,hF6,hp6,hm6,⟨t,fl,ht⟩,hsl,hs⟩:=ho
 refine yZ hA hf fl λh8 k1 k2=>hE _ ?_
 have e1:pre++env :: l=(pre++[env])++l:=by rw [dI];rfl
 rw [e1] at hF6 k1
 refine ⟨g6,s6,pre++[env],args,(x1.toM.trans (x4.trans x6)).drop λa o h1 h2 e=>?_,λenv' h m k=>n6 env' (.tail _ h) m (n4 env' (.tail _ h) m (pc x1 k)),hF6,λenv' hm=>?_,hm6,⟨⟨t,k1,ht.of_slots k2⟩,hsl.trans k2,by rw [hs]⟩⟩
 .rcases List.mem_cons.mp h1 with rfl | h1
  .exact hnew o e
  .exact absurd h1 h2
 .rcases jH.mp hm with hm | hm
  .refine x1.before λo q=>?_
   by_cases hin:env'.locals∈cy (env :: l)
   .apply ii (Fr4.dict hin);intro m o' es ep q1 hd _
    have:=hp6 env' hm o' q1
    rw [cS hd] at this;exact (ag this).elim
   .cases ht:bD o with
    | true=>rfl
    | false=>rw [<-ht];exact hp6 env' hm o (x4.keep _ o hin q ht)
  .rw [rF.mp hm];exact hnew
section
open Builtin.Str
noncomputable abbrev Tx:=List Nat
noncomputable def fc (s:Str):Tx:=s.cps.toList
noncomputable def dr (l:Tx):Str:=⟨l.toArray⟩
theorem qf (s:Str):dr (fc s)=s:=by cases s;rfl
theorem lM (l:Tx):fc (dr l)=l:=rfl
theorem yD {s t:Str}(h:fc s=fc t):s=t:=by rw [<-qf s,h,qf]
theorem fO (s:Str):s.length=(fc s).length:=by simp [fc,Str.length]
noncomputable def CV (c:Nat):List Tx->List Tx
 | []=>[]
 | p :: ps=>(c :: p) :: ps
noncomputable def Gz (y:Tx):Nat->Tx->List Tx
 | _,[]=>[[]]
 | k + 1,_ :: r=>Gz y k r
 | 0,c :: r=>cond (y.isPrefixOf (c :: r)) ([] :: Gz y (y.length - 1) r) (CV c (Gz y 0 r))
noncomputable def By (y:Tx)(_:y≠[])(l:Tx):List Tx:=Gz y 0 l
theorem xQ {y:Tx}:∀(k:Nat) (l:Tx),Gz y k l=Gz y 0 (l.drop k)
 | _,[]=>by rw [List.drop_nil];rfl
 | 0,_ :: _=>rfl
 | k + 1,_ :: r=>xQ k r
theorem zI (y:Tx)(h:y≠[]):∀l,∃p ps,By y h l=p :: ps
 | []=>⟨_,_,rfl⟩
 | c :: r=>by
  show ∃p ps,cond _ _ _=p :: ps
  cases y.isPrefixOf (c :: r) with
  | true=>exact ⟨_,_,rfl⟩
  | false=>apply tJ (zI y h r);intro p ps e;exact ⟨_,_,congrArg (CV c) e⟩
theorem vK {y l:Tx}{h:y≠[]}(hp:y.isPrefixOf l=true):By y h l=[] :: By y h (l.drop y.length):=by
 cases y with
 | nil=>exact absurd rfl h
 | cons a q=>cases l with
  | nil=>exact (ag hp).elim
  | cons c r=>
   show cond _ _ _=_
   rw [hp]
   exact congrArg ([] :: ·) (xQ q.length r)
theorem qU {y:Tx}{h:y≠[]}{c:Nat}{r p:Tx}{ps:List Tx}(hp:y.isPrefixOf (c :: r)=false)(e:By y h r=p :: ps):By y h (c :: r)=(c :: p) :: ps:=by
 show cond _ _ _=_
 rw [hp]
 exact congrArg (CV c) e
theorem IZ {y:Tx}{h:y≠[]}:∀(m:Nat) (l:Tx),(∀k < m,y.isPrefixOf (l.drop k)=false)->m<=l.length->y.isPrefixOf (l.drop m)=true->By y h l=l.take m :: By y h (l.drop (m + y.length))
 | 0,l,_,_,hp=>by rw [vK (by simpa using hp)];simp
 | m + 1,l,hn,hm,hp=>by
  cases l with
  | nil=>simp at hm
  | cons c r=>
   have ih:=IZ (y:=y) (h:=h) m r (λk hk=>by simpa using hn (k + 1) ((qN (aR (.a Y0 J1) (.a Y1 J1)) [1]:cz [aR Y0 Y1]) hk)) (by simpa using hm) (by simpa using hp)
   rw [qU (hn 0 (EW)) ih]
   simp [sH]
theorem zH {y:Tx}{h:y≠[]}:∀(l:Tx),(∀k,y.isPrefixOf (l.drop k)=false)->By y h l=[l]
 | [],_=>rfl
 | c :: r,hn=>qU (hn 0) (zH r λk=>by simpa using hn (k + 1))
theorem DU (hy:fc y≠[]):StrLaws.At x y x.length k<->(fc y).isPrefixOf ((fc x).drop k)=true:=by
 have hlen:y.length=(fc y).length:=fO y
 have hx:x.length=(fc x).length:=fO x
 have hpos:0 < (fc y).length:=List.length_pos_iff.mpr hy
 constructor
 .intro ⟨h1,h2⟩
  rw [GS] at h2
  have e:=eq_of_beq h2
  rw [eC]
  exact ⟨((fc x).drop k).drop y.length,by
   have:fc y=((fc x).drop k).take y.length:=e.symm
   rw [this]
   conv=>rhs;rw [<-oi y.length ((fc x).drop k)]⟩
 .intro h
  rw [eC] at h
  obtain ⟨t,ht⟩:=h
  have hl:(fc y).length + t.length=(fc x).length - k:=by rw [<-az,ht,cU]
  refine ⟨by lia,?_⟩
  rw [GS]
  have:((fc x).drop k).take y.length=fc y:=by rw [<-ht,hlen];simp
  exact beq_iff_eq.mpr this
theorem xz {x y:Str}(hy:fc y≠[]):∀(cuts:List Nat) (a f:Nat),a<=x.length->StrLaws.ChainG x y x.length a cuts f->(∀k,f<=k->¬StrLaws.At x y x.length k)->
  (iu x y.length a cuts).map fc=By (fc y) hy ((fc x).drop a)
 | [],a,f,ha,h,hn=>by
  have e:f=a:=h
  subst e
  rw [zH _ λk=>by
   cases hb:(fc y).isPrefixOf (((fc x).drop f).drop k) with
   | false=>rfl
   | true=>
    rw [iH] at hb
    exact absurd ((DU hy).mpr hb) (hn _ (EU))]
  simp only [iu,aD,dh,fc,iE]
  rw [fO,aO (by simp [fc])]
 | c :: r,a,f,ha,h,hn=>by
  have h1:=h.1;have h2:=h.2.1;have h3:=h.2.2.1;have h4:=h.2.2.2
  have hlen:y.length=(fc y).length:=fO y
  have hx:x.length=(fc x).length:=fO x
  have hb:=(DU hy).mp h2
  have hc:c + y.length<=x.length:=h2.1
  have ih:=xz hy r (c + y.length) f hc h4 hn
  have e:=IZ (y:=fc y) (h:=hy) (c - a) ((fc x).drop a) (λk hk=>by
   cases hb:(fc y).isPrefixOf (((fc x).drop a).drop k) with
   | false=>rfl
   | true=>
    rw [iH] at hb
    exact absurd ((DU hy).mpr hb) (h3 _ (by exact EU) (by exact (qB Y1 Y3 Y2 (qN (aR (.a Y2 Y0) Y3) [0,1,0,1]) (qN (aR (.a Y2 Y0) Y3) [0,1,0,1,1]):gC [aR Y0 Y1,.l Y2 Y3]) hk h1))) (by simp;exact (qA Y4 Y1 Y5 (qN (.l Y2 (.a Y4 Y5)) [0,1,1,0,1]):yy [.e Y0 Y1,.l (.a Y2 Y3) Y0]) hx hc) (by rw [iH];rw [show a + (c - a)=c by exact ar (MM h1) (Jn)];exact hb)
  rw [e,iH]
  have e2:a + (c - a + (fc y).length)=c + y.length:=ar ((qB Y4 Y3 Y2 (qN (.l (.a Y2 (.a Y4 Y1)) (.a Y3 Y0)) [0,1,0,0,1]) (qN (.l (.a Y2 (.a Y4 Y1)) (.a Y3 Y0)) [0,1,0,0,1,1]):mM [.e Y0 Y1,.l Y2 Y3]) hlen h1) ((qA Y4 Y2 Y3 (qN (.l (.a Y2 Y0) (.a Y3 (.a Y4 Y1))) [0,1,1]):mM [.e Y0 Y1]) hlen)
  rw [e2,<-ih]
  simp only [iu,aD,fc,iE]
theorem uI (hy:fc y≠[]):(partsBetween x (occurrences x y 0 x.length (x.length + 1)) y.length).map fc=By (fc y) hy (fc x):=by
 apply aA (StrLaws.occ_tight x y (by rw [fO];exact List.length_pos_iff.mpr hy));intro f hG hn
 rw [ly]
 simpa using xz hy _ 0 f (cq _) hG hn
noncomputable def Lo (z:Tx):List Tx->Tx
 | []=>[]
 | p :: ps=>p++(ps.map (z++·)).flatten
noncomputable def rep (y:Tx)(h:y≠[])(z l:Tx):Tx:=Lo z (By y h l)
theorem Eo {y:Tx}{h:y≠[]}{z:Tx}:rep y h z []=[]:=rfl
theorem AG {y:Tx}{h:y≠[]}{z l:Tx}(hp:y.isPrefixOf l=true):rep y h z l=z++rep y h z (l.drop y.length):=by
 unfold rep
 rw [vK hp]
 apply tJ (zI y h (l.drop y.length));intro p ps e
 rw [e]
 simp [Lo]
theorem uC {y:Tx}{h:y≠[]}{z r:Tx}{c:Nat}(hp:y.isPrefixOf (c :: r)=false):rep y h z (c :: r)=c :: rep y h z r:=by
 unfold rep
 apply tJ (zI y h r);intro p ps e
 rw [qU hp e,e]
 rfl
theorem Gf (z:Str):∀(parts:List Str),parts≠[]->fc (glued z parts)=Lo (fc z) (parts.map fc)
 | p :: ps,_=>by
  have go:∀(ps:List Str) (acc:Array Nat),(ps.foldl (λacc p=>acc++z.cps++p.cps) acc).toList=acc.toList++((ps.map fc).map (fc z++·)).flatten:=by
   intro ps
   induction ps with
   | nil=>intro acc;simp
   | cons q qs ih=>intro acc;rw [eU,ih];simp [fc]
  show (((p :: ps).drop 1).foldl (λacc p=>acc++z.cps++p.cps) ((p :: ps).headD wj).cps).toList=_
  rw [go]
  rfl
theorem uB {z:Str}(hy:fc y≠[]):fc (lC x y z)=rep (fc y) hy (fc z) (fc x):=by
 have hp:=uI (x:=x) hy
 unfold lC
 split
 .rename_i hc
  rw [ei] at hc
  rcases hc with hc | hc
  .have e:=my.mp hc
   rw [e] at hp
   unfold rep
   rw [<-hp,ly]
   simp only [iu,aD,dh,Lo,List.flatten_nil,fS,fc,iE]
   rw [fO]
   simp [fc,aO]
  .have:0 < y.length:=by rw [fO];exact List.length_pos_iff.mpr hy
   simp at hc;exact ((qF [1,1]:di [aR J0 Y0,.e Y0 J0]) this hc.1).elim
 .rw [Gf _ _ (by
   intro q
   have:=congrArg (yn fc) q
   rw [hp] at this
   apply tJ (zI (fc y) hy (fc x));intro p ps e
   rw [e] at this;cases this),hp]
  rfl
theorem zK {c:Nat}:tK x ⟨#[c]⟩=decide (c∈fc x):=StrLaws.found_one x c
theorem split_one {c:Nat}:(kE x ⟨#[c]⟩).map fc=By [c] (by simp) (fc x):=by
 have hp:=uI (x:=x) (y:=⟨#[c]⟩) (by simp [fc])
 have no:c∉fc x->[fc x]=By [c] (by simp) (fc x):=λh=>(zH _ λk=>by
  cases hb:[c].isPrefixOf ((fc x).drop k) with
  | false=>rfl
  | true=>
   rw [eC] at hb
   obtain ⟨t,ht⟩:=hb
   exact absurd (gr (show c∈(fc x).drop k by rw [<-ht];simp)) h).symm
 unfold kE
 split
 .rename_i hc
  rw [ei,decide_eq_true_eq,decide_eq_true_eq] at hc
  refine no λhm=>?_
  rcases hc with h | h
  .have h1:x.length < 1:=h
   rw [fO] at h1
   have:fc x=[]:=List.length_eq_zero_iff.mp (ar ((qN (.l Y0 J0) [1]:di [aR Y0 J1]) h1) (Jy))
   rw [this] at hm;cases hm
  .exact StrLaws.kind_free x c h hm
 .split
  .rename_i he
   have e:=my.mp he
   rw [e] at hp
   have hp':_=By [c] _ (fc x):=hp
   rw [<-hp',ly]
   simp only [iu,aD,dh,fc,iE]
   rw [fO]
   simp [fc,aO]
  .exact hp
theorem Lz {c:Nat}{h:[c]≠[]}{a b:Tx}(ha:c∉a)(hb:c∉b):By [c] h (a++c :: b)=[a,b]:=by
 induction a with
 | nil=>
  rw [jG,vK (by simp [hW])]
  congr 1
  simp only [aM,hV,List.drop_succ_cons,List.drop_zero]
  refine zH _ λk=>?_
  cases hq:[c].isPrefixOf (b.drop k) with
  | false=>rfl
  | true=>
   rw [eC] at hq
   obtain ⟨t,ht⟩:=hq
   exact absurd (gr (show c∈b.drop k by rw [<-ht];simp)) hb
 | cons d a ih=>
  have hd:c≠d:=λq=>ha (q▸.head _)
  rw [b8,qU (by simp [hW,hd]) (ih λq=>ha (.tail _ q))]
noncomputable abbrev iA:=List (Nat×Tx)
noncomputable def er (T:iA)(c:Nat):Tx:=(T.lookup c).getD [c]
noncomputable def esc (T:iA)(x:Tx):Tx:=x.flatMap (er T)
theorem yJ {c:Nat}{h:[c]≠[]}{z:Tx}:∀x:Tx,rep [c] h z x=esc [(c,z)] x
 | []=>Eo
 | d :: x=>by
  by_cases e:d=c
  .subst e
   rw [AG (by simp [hW])]
   show z++rep [d] h z x=_
   rw [yJ x]
   simp [esc,er]
  .have e':¬c=d:=λq=>e q.symm
   rw [uC (by simp [hW,e']),yJ x]
   have:(d==c)=false:=by simpa using e
   simp [esc,er,Fi,this]
theorem t7 {T:iA}:∀{x:Tx},(∀c∈x,T.lookup c=none)->esc T x=x
 | [],_=>rfl
 | c :: x,h=>by
  have h1:=h c (.head _)
  have h2:=t7 (x:=x) λd hd=>h d (.tail _ hd)
  unfold esc at h2 ⊢
  rw [lB,h2]
  simp [er,h1]
theorem pr {T:iA}(x y:Tx):esc T (x++y)=esc T x++esc T y:=by unfold esc;exact kb
noncomputable def mism:Tx->Tx->Bool
 | a :: x,b :: y=>a !=b||mism x y
 | _,_=>false
theorem AU:∀{x y r:Tx},mism x y=true->x.isPrefixOf (y++r)=false
 | a :: x,b :: y,r,h=>by
  simp only [mism,ei,bne_iff_ne,ne_eq] at h
  simp only [b8,hW,Bool.and_eq_false_iff,beq_eq_false_iff_ne,ne_eq]
  rcases h with h | h
  .exact .inl h
  .exact .inr (AU h)
theorem uE {a:Nat}{y:Tx}{h:a :: y≠[]}{z:Tx}:∀(w r:Tx),(∀d∈w,d≠a)->rep (a :: y) h z (w++r)=w++rep (a :: y) h z r
 | [],r,_=>rfl
 | d :: w,r,hw=>by
  have hd:¬a=d:=λq=>hw d (.head _) q.symm
  rw [b8,uC (by simp [hW,hd]),uE w r λd hd=>hw d (.tail _ hd)]
  rfl
noncomputable def LM (T:iA):Bool:=T.all λp=>(match p.2 with | a :: w=>a==38&&w.all (· !=38) | []=>false)&&T.all λq=>p.1==q.1||mism p.2 q.2
theorem fC {T:iA}(d:Nat)(x:Tx):esc T (d :: x)=er T d++esc T x:=rfl
theorem AH {T T':iA}{c:Nat}{nm:Tx}(hne:nm≠[])(hok:LM T=true)(hc:T.lookup c=some nm)(hamp:(T.lookup 38).isSome=true)(hT:∀d,T'.lookup d=if d=c then none else T.lookup d):
  ∀x:Tx,rep nm hne [c] (esc T x)=esc T' x
 | []=>Eo
 | d :: x=>by
  have ih:=AH hne hok hc hamp hT x
  have hall:=ft.mp hok
  have mem:∀{k:Nat} {w:Tx} {T:iA},T.lookup k=some w->(k,w)∈T:=λ{k w T} e=>by
   induction T with
   | nil=>exact (aK e).elim
   | cons p r ih=>
    obtain ⟨k',w'⟩:=p
    rw [aT] at e
    cases hb:k==k' with
    | true=>rw [hb] at e;(refine eQ e ?_;clear e;intro q₁;subst q₁);rw [eq_of_beq hb];exact .head _
    | false=>rw [hb] at e;exact .tail _ (ih e)
  have hcm:=hall _ (mem hc)
  simp only [ao] at hcm
  obtain ⟨y,rfl⟩:∃y,nm=38 :: y:=by
   cases nm with
   | nil=>exact absurd rfl hne
   | cons a w=>
    have:=hcm.1
    simp only [ao,beq_iff_eq] at this
    exact ⟨w,by rw [this.1]⟩
  rw [fC,fC]
  by_cases e:d=c
  .subst e
   have h1:er T d=38 :: y:=by unfold er;rw [hc];rfl
   have h2:er T' d=[d]:=by unfold er;rw [hT,if_pos rfl];rfl
   (rewrite [h1,h2,AG (by rw [eC];exact ⟨_,rfl⟩),List.drop_append_of_le_length (ae _),List.drop_length,jG,ih];try with_reducible rfl)
  .have h2:er T' d=er T d:=by unfold er;rw [hT,if_neg e]
   rw [h2,<-ih]
   cases hd:T.lookup d with
   | none=>
    have h1:er T d=[d]:=by unfold er;rw [hd];rfl
    rw [h1]
    exact uE [d] _ λq hq=>by
     rw [rF.mp hq]
     intro q;rw [q] at hd;rw [hd] at hamp;exact (ag hamp).elim
   | some w=>
    have h1:er T d=w:=by unfold er;rw [hd];rfl
    rw [h1]
    have hdm:=hall _ (mem hd)
    simp only [ao] at hdm
    have hm:mism (38 :: y) w=true:=by
     have:=ft.mp hcm.2 _ (mem hd)
     simp only [ei,beq_iff_eq] at this
     rcases this with q | q
     .exact absurd q.symm e
     .exact q
    cases w with
    | nil=>exact (ag hm).elim
    | cons b w=>
     have hb:=hdm.1
     simp only [ao,beq_iff_eq,ft,bne_iff_ne,ne_eq] at hb
     rw [b8,uC (by rw [<-b8];exact AU hm),uE w _ hb.2]
     rfl
end
variable {z:Tx}
theorem yX {w:Tx}{d:Nat}:∀{T:iA},T.lookup d=some w->(d,w)∈T
 | [],e=>(aK e).elim
 | (k,v) :: r,e=>by
  rw [aT] at e
  cases hb:d==k with
  | true=>rw [hb] at e;(refine eQ e ?_;clear e;intro q₁;subst q₁);rw [eq_of_beq hb];exact .head _
  | false=>rw [hb] at e;exact .tail _ (yX e)
theorem vC {c:Nat}{z:Tx}{T:iA}(hT:(T.all λp=>!p.2.contains c&&p.1 !=c)=true):∀x:Tx,esc [(c,z)] (esc T x)=esc (T++[(c,z)]) x
 | []=>rfl
 | d :: x=>by
  rw [fC,fC,pr,vC hT x]
  congr 1
  unfold er
  rw [Hb]
  cases h:T.lookup d with
  | none=>
   simp only [tr,Option.none_or]
   simp [esc,er]
  | some w=>
   have:=ft.mp hT _ (yX h)
   simp only [ao,dm,List.contains_eq_mem,decide_eq_false_iff_not] at this
   simp only [cn,Option.some_or]
   refine t7 λq hq=>?_
   have hne:(q==c)=false:=beq_eq_false_iff_ne.mpr λe=>this.1 (e▸hq)
   simp [Fi,hne]
theorem pq {T:iA}(hT:(T.all λp=>dn p.2.length 6)=true):∀x:Tx,(esc T x).length<=6 * x.length
 | []=>cq _
 | d :: x=>by
  have ih:=pq hT x
  rw [fC,az,aM]
  have:(er T d).length<=6:=by
   unfold er
   cases h:T.lookup d with
   | none=>simp
   | some w=>exact ac (ft.mp hT _ (yX h))
  exact Mr ih this
theorem nY:∀x:Tx,esc [] x=x:=λx=>t7 λ_ _=>rfl
theorem rh {h:ExceptHandler}{hs:List ExceptHandler}(hb:Blk W A env ρ L body (λρ' L'=>(∀a∈L'.map (·.1),a∈L.map (·.1))/\Blk W A env ρ' L' rest Kn Pr) Pr):Blk W A env ρ L (.Try body (h :: hs) [] [] p :: rest) Kn Pr:=.mk λg s F k l E=>by
 refine aP ?_
 rw [arm_exec_Try]
 refine aa (cM (wpAny_tryStmt_except (aI (hb.run g s F k l _) (λf s' q=>?_) λ_ _ e=>e)))
 cases f with
 | next=>
  apply gn (q);intro g2 ρ2 L2 x2 F2 l2 hs hb
  exact pM (aI (hb.run g2 s' F2 x2.ok l2 E) (λf s'' q=>(q.mono λa h=>h.elim .inl λh=>.inr (hs a h)).trans x2) λ_ _ e=>e)
 | ret v=>exact q
 | cont=>exact q.elim
 | brk=>exact q.elim
noncomputable def Hz (l:Tx):Rho:=dc ["text"] [.str (dr l)] .nil
theorem rm {sg nm:Str}{c k0 k1 k2:Nat}{T:iA}{x:Tx}{q0 q1 q2 q3 q4 q5 q6:Pos}(hs:env.scope=sc)(hu:A.units + 100 < cLine)(hx:x.length<=100000)(h:Blk W A env (Hz (esc (T++[(c,fc nm)]) x)) L rest Kn Pr)(hl:sc.names.lookup ("text":Str)=some .local:=by exact rfl)(hline:(apos.endLine==pos.line)=true:=by exact rfl)(hsg:sg=⟨#[c]⟩:=by exact rfl)(hT:(T.all λp=>!p.2.contains c&&p.1 !=c)=true:=by exact rfl)(hT6:(T.all λp=>dn p.2.length 6)=true:=by exact rfl)(hnm:dn (fc nm).length 6=true:=by exact rfl)(hne:(sg==nm)=false:=by exact rfl):
  Blk W A env (Hz (esc T x)) L (.If (.Compare (.Constant (.str sg) k0 q0) [.In] [.Name "text" q1] q2) [.Assign [.Name "text" q3] (.Call (.Attribute (.Name "text" q4) "replace" apos) [.Constant (.str sg) k1 q5,.Constant (.str nm) k2 q6] [] pos) p1] [] p :: rest) Kn Pr:=by
 have hlen:=pq hT6 x
 have hh:oA sc (cm (Hz (esc T x))) "text"=true:=by unfold oA;rw [hl]
 have hk:env.kindOf "text"=some .local:=by unfold bj;rw [hs];exact hl
 have nmT:∀{q:Pos},jC W A env (Hz (esc T x)) (.Name "text" q) (.str (dr (esc T x))) []:=λ{q} _=>vw (by decide) hk rfl
 refine df (c:=tK (dr (esc T x)) sg) (P:=[]) ?_ trivial ?_ ?_
 .have:=gJ (W:=W) (A:=A) (env:=env) (ρ:=Hz (esc T x)) (l:=.Constant (.str sg) k0 q0) (r:=.Name "text" q1) (op:=.In) (p:=q2) hu (hH rfl) nmT (show ll .In (.kstr sg) (.str (dr (esc T x)))=some (tK (dr (esc T x)) sg,[]) by rfl) rfl
  exact this
 .intro _
  refine bW (d:=.str (lC (dr (esc T x)) sg nm)) (IN (P1:=[]) (P2:=[]) rfl hline rfl nmT (av (P1:=[]) (P2:=[]) rfl (hH rfl) (av (P1:=[]) (P2:=[]) rfl (hH rfl) bo)) rfl rfl) hs hh rfl ?_ ?_
  .refine ⟨hne,?_,trivial⟩
   have h1:(dr (esc T x)).length=(esc T x).length:=by rw [fO,lM]
   have h2:nm.length<=6:=by rw [fO];exact ac hnm
   rw [h1]
   have h3:((esc T x).length + 1) * nm.length<=((esc T x).length + 1) * 6:=gV _ h2
   exact (qN (.l (.a Y1 Y2) (.k 16777216)) [42,7,1]:dL [.l Y0 (.k 100000),.l Y1 (.m 6 Y0),.l Y2 (.w (.a Y1 J1) 6)]) hx hlen h3
  .have e:lC (dr (esc T x)) sg nm=dr (esc (T++[(c,fc nm)]) x):=by
    apply yD
    rw [lM,<-vC hT,<-yJ (h:=by simp)]
    have hy:fc sg≠[]:=by rw [hsg];simp [fc]
    rw [uB hy]
    subst hsg
    rfl
   rw [e]
   apply cG
   exact de (ρ':=Hz (esc (T++[(c,fc nm)]) x)) (SubR.le ⟨rfl,trivial⟩ rfl) h
 .intro hc
  apply cG
  have e:esc (T++[(c,fc nm)]) x=esc T x:=by
   rw [<-vC hT]
   refine t7 λd hd=>?_
   rw [hsg,zK] at hc
   have:(d==c)=false:=beq_eq_false_iff_ne.mpr λq=>by
    subst q
    have:=of_decide_eq_false hc
    exact this hd
   simp [Fi,this]
  rw [e] at h
  exact h
noncomputable def aC:Nat->iA
 | 0=>[(38,[38,97,109,112,59]),(60,[38,108,116,59]),(62,[38,103,116,59])]
 | 1=>[(38,[38,97,109,112,59]),(60,[38,108,116,59]),(62,[38,103,116,59]),(34,[38,113,117,111,116,59]),(13,[38,35,49,51,59]),(10,[38,35,49,48,59]),(9,[38,35,48,57,59])]
 | 2=>[(38,[38,97,109,112,59]),(62,[38,103,116,59]),(34,[38,113,117,111,116,59])]
 | 3=>[(38,[38,97,109,112,59]),(60,[38,108,116,59]),(62,[38,103,116,59]),(13,[38,35,120,68,59])]
 | _=>[(38,[38,97,109,112,59]),(60,[38,108,116,59]),(34,[38,113,117,111,116,59]),(9,[38,35,120,57,59]),(10,[38,35,120,65,59]),(13,[38,35,120,68,59])]
theorem Dq (k:Nat):(aC k).lookup 38=some [38,97,109,112,59]:=by
 match k with
 | 0=>rfl
 | 1=>rfl
 | 2=>rfl
 | 3=>rfl
 | _ + 4=>rfl
theorem qv:FnK 106 15 "_escape_cdata" .none .none lS 105:=⟨λP=>by kernel_rfl,λP=>by kernel_rfl⟩
theorem ye (P:Params)(a:Value):∀S,peek (Kf P) S (bindArgs (kT 15 "_escape_cdata" .none .none lS 105) ⟨[a],[]⟩)=some ((["text"]:List Str).zip [a]):=λS=>by kernel_rfl
theorem BS (G:Good W)(Rm:Room A 2){x:Tx}(hx:x.length<=100000):bz W A (.ref 106) [.str (dr x)] [] (.str (dr (esc (aC 0) x))):=
 kC qv G (FK ye) Rm λenv hs hh hu Gl Rd e2 e3=>by
  conv at hs=>rhs;whnf
  have C:=Cx.mk hs ‹_› ‹_› ‹_›
  conv in aH 15=>whnf
  apply rh
  have e0:dc ["text"] [.str (dr x)] .nil=Hz (esc [] x):=by rw [nY];rfl
  rw [e0]
  repeat refine rm hs hu hx ?_
  apply cX;exact ak;rfl;exact trivial
  exact ⟨rfl,rfl⟩
theorem qu:FnK 113 16 "_escape_attrib" .none .none lS 112:=⟨λP=>by kernel_rfl,λP=>by kernel_rfl⟩
theorem yd (P:Params)(a:Value):∀S,peek (Kf P) S (bindArgs (kT 16 "_escape_attrib" .none .none lS 112) ⟨[a],[]⟩)=some ((["text"]:List Str).zip [a]):=λS=>by kernel_rfl
theorem BR (G:Good W)(Rm:Room A 2){x:Tx}(hx:x.length<=100000):bz W A (.ref 113) [.str (dr x)] [] (.str (dr (esc (aC 1) x))):=
 kC qu G (FK yd) Rm λenv hs hh hu Gl Rd e2 e3=>by
  conv at hs=>rhs;whnf
  have C:=Cx.mk hs ‹_› ‹_› ‹_›
  conv in aH 16=>whnf
  apply rh
  have e0:dc ["text"] [.str (dr x)] .nil=Hz (esc [] x):=by rw [nY];rfl
  rw [e0]
  repeat refine rm hs hu hx ?_
  apply cX;exact ak;rfl;exact trivial
  exact ⟨rfl,rfl⟩
theorem qt:FnK 120 17 "_escape_attrib_html" .none .none lS 119:=⟨λP=>by kernel_rfl,λP=>by kernel_rfl⟩
theorem yc (P:Params)(a:Value):∀S,peek (Kf P) S (bindArgs (kT 17 "_escape_attrib_html" .none .none lS 119) ⟨[a],[]⟩)=some ((["text"]:List Str).zip [a]):=λS=>by kernel_rfl
theorem BQ (G:Good W)(Rm:Room A 2){x:Tx}(hx:x.length<=100000):bz W A (.ref 120) [.str (dr x)] [] (.str (dr (esc (aC 2) x))):=
 kC qt G (FK yc) Rm λenv hs hh hu Gl Rd e2 e3=>by
  conv at hs=>rhs;whnf
  have C:=Cx.mk hs ‹_› ‹_› ‹_›
  conv in aH 17=>whnf
  apply rh
  have e0:dc ["text"] [.str (dr x)] .nil=Hz (esc [] x):=by rw [nY];rfl
  rw [e0]
  repeat refine rm hs hu hx ?_
  apply cX;exact ak;rfl;exact trivial
  exact ⟨rfl,rfl⟩
theorem qr:FnK 127 18 "_escape_cdata_c14n" .none .none lS 126:=⟨λP=>by kernel_rfl,λP=>by kernel_rfl⟩
theorem yb (P:Params)(a:Value):∀S,peek (Kf P) S (bindArgs (kT 18 "_escape_cdata_c14n" .none .none lS 126) ⟨[a],[]⟩)=some ((["text"]:List Str).zip [a]):=λS=>by kernel_rfl
theorem BP (G:Good W)(Rm:Room A 2){x:Tx}(hx:x.length<=100000):bz W A (.ref 127) [.str (dr x)] [] (.str (dr (esc (aC 3) x))):=
 kC qr G (FK yb) Rm λenv hs hh hu Gl Rd e2 e3=>by
  conv at hs=>rhs;whnf
  have C:=Cx.mk hs ‹_› ‹_› ‹_›
  conv in aH 18=>whnf
  apply rh
  have e0:dc ["text"] [.str (dr x)] .nil=Hz (esc [] x):=by rw [nY];rfl
  rw [e0]
  repeat refine rm hs hu hx ?_
  apply cX;exact ak;rfl;exact trivial
  exact ⟨rfl,rfl⟩
theorem qq:FnK 134 19 "_escape_attrib_c14n" .none .none lS 133:=⟨λP=>by kernel_rfl,λP=>by kernel_rfl⟩
theorem ya (P:Params)(a:Value):∀S,peek (Kf P) S (bindArgs (kT 19 "_escape_attrib_c14n" .none .none lS 133) ⟨[a],[]⟩)=some ((["text"]:List Str).zip [a]):=λS=>by kernel_rfl
theorem BO (G:Good W)(Rm:Room A 2){x:Tx}(hx:x.length<=100000):bz W A (.ref 134) [.str (dr x)] [] (.str (dr (esc (aC 4) x))):=
 kC qq G (FK ya) Rm λenv hs hh hu Gl Rd e2 e3=>by
  conv at hs=>rhs;whnf
  have C:=Cx.mk hs ‹_› ‹_› ‹_›
  conv in aH 19=>whnf
  apply rh
  have e0:dc ["text"] [.str (dr x)] .nil=Hz (esc [] x):=by rw [nY];rfl
  rw [e0]
  repeat refine rm hs hu hx ?_
  apply cX;exact ak;rfl;exact trivial
  exact ⟨rfl,rfl⟩
theorem mV:typeLookup (.type "list") "__getattr__"=pure none:=by rw [bM,aS];kernel_rfl
theorem ou:typeLookup (.type "zip") "__getattr__"=pure none:=by rw [bM,aS];kernel_rfl
theorem ki:entryFor table "zip.__getattribute__"=some Builtin.«object.__getattribute__»:=
 entryFor_alias (id':="object.__getattribute__") (by kernel_rfl) (by decide +kernel) (by decide +kernel) (by kernel_rfl)
theorem yT:typeLookup (.type "list") "keys"=pure none:=am_miss_of_fast (by kernel_rfl)
theorem AP:typeLookup (.type "zip") "keys"=pure none:=am_miss_of_fast (by kernel_rfl)
theorem uQ (a:Addr)(xs:Array Value)(sl:Array (Option Value))(name:Str)(u:Tok)(hmiss:typeLookup (.type "zip") name=pure none)(hname:(["__module__","__name__","__qualname__","__doc__","__annotations__"]:List Str).contains name=false)(hsz:name.length + 100<=sizeLine):
  Meets (Builtin.«object.__getattribute__» ⟨[.ref a,.str name u],[]⟩) (λA R s=>s.heap.get? a=some {cls:=.type "zip",dict:=none,data:=.fields xs,slots:=sl }/\raisesAttr (.ref a) name A R s):=
 Meets.of_wp λprog w A R s hs=>by
  obtain ⟨hp,g,d,tk,os⟩:=s
  have hx0:=hs;have hx:=hx0.1;have hs:=hx0.2
  have hT:(⟨hp,g,d,tk,os⟩:Shared).TypeIs (.ref a) "zip":=⟨_,hx,rfl⟩
  unfold Builtin.«object.__getattribute__»
  repeat (any_goals (first | assumption | wp_step))
  simp only [hname,bX,if_false]
  repeat (any_goals (first | assumption | wp_step))
  exact wpAny_raiseAttrError hs.1 hs.2 (attrMsg_fits (by decide +kernel) hsz)
theorem FI {xs:Array Value}{Q:Option Value->Shared->Prop}(hx:s.heap.get? a=some {cls:=.type "zip",dict:=none,data:=.fields xs,slots:=#[] })(hA:A.handled=none)(h:∀h' tk,(∀b o,s.heap.get? b=some o->h'.get? b=some o)->Q none {s with heap:=h',toks:=tk }):wpAny (model prog w) A (getAttr? (.ref a) "keys") Q E s:=by
 obtain ⟨hp,g,d,tk,os⟩:=s
 have hT:∀tk',(⟨hp,g,d,tk',os⟩:Shared).TypeIs (.ref a) "zip":=λ_=>⟨_,hx,rfl⟩
 have f1:=lN
 have f3:=F.slot_zip_getattribute.lookup
 have f4:=F.slot_zip_getattribute.bind (.ref a)
 have f5:=ou
 unfold getAttr? getAttrBy? getAttrBy
 repeat (any_goals (first | assumption | exact hT _ | ((with_reducible show wpAny _ _ (call (pO "zip.__getattribute__") _ _) _ _ _);refine gU F.slot_zip_getattribute (hT _) ki (F.args_zip_getattribute_2 _ _) (uQ a xs #[] "keys" _ AP (by decide) (by decide)) ⟨hx,hA,λh' tk' e hx'=>?_⟩) | wp_step))
 apply tJ (hx'.there);intro t' u' he
 show wpAny _ _ (getattributeRaised _ _ _ _ _ _ _) _ _ _
 unfold getattributeRaised
 repeat (any_goals (first | assumption | wp_step))
 exact h _ _ hx'.keeps
theorem CO {xs:Array Value}{Q:Option Value->Shared->Prop}(hx:s.heap.get? a=some {cls:=.type "list",dict:=none,data:=.seq xs k,slots:=#[] })(hA:A.handled=none)(h:∀h' tk,(∀b o,s.heap.get? b=some o->h'.get? b=some o)->Q none {s with heap:=h',toks:=tk }):wpAny (model prog w) A (getAttr? (.ref a) "keys") Q E s:=by
 obtain ⟨hp,g,d,tk,os⟩:=s
 have hT:∀tk',(⟨hp,g,d,tk',os⟩:Shared).TypeIs (.ref a) "list":=λ_=>⟨_,hx,rfl⟩
 have f1:=lN
 have f3:=Ec.lookup
 have f4:=Ec.bind (.ref a)
 have f5:=mV
 unfold getAttr? getAttrBy? getAttrBy
 repeat (any_goals (first | assumption | exact hT _ | ((with_reducible show wpAny _ _ (call (pO "list.__getattribute__") _ _) _ _ _);refine gU Ec (hT _) DX (Ca _ _) (AX a xs k #[] "keys" _ yT (by decide) (by decide)) ⟨hx,hA,λh' tk' e hx'=>?_⟩) | wp_step))
 apply tJ (hx'.there);intro t' u' he
 show wpAny _ _ (getattributeRaised _ _ _ _ _ _ _) _ _ _
 unfold getattributeRaised
 repeat (any_goals (first | assumption | wp_step))
 exact h _ _ hx'.keeps
theorem mU {M:Model}{Q:Option Obj->Shared->Prop}(h:Q (s.heap.get? a) s):wpAny M A (loadIfAlive a) Q E s:=λΓ p hΓ=>h
theorem je {it:Addr}{t:Tok}{c:Nat}(hit:s.heap.IsStrIter it "str_ascii_iterator" x t i)(hx:x.cps[i]? =some c)(hQ:∀h',h'.IsStrIter it "str_ascii_iterator" x t (i + 1)->tw it s.heap h'->Q (.str ⟨#[c]⟩ s.toks) {s with heap:=h',toks:=s.toks + 1 }):
  wpAny (model prog w) A (aU (.ref it)) Q E s:=by
 apply bT (id hit);intro o ho hc hd
 unfold aU
 refine aa (wpAny_callSpecial?_slot (name:=cY "__next__") hit.typeIs fD
  (fK fD hit.typeIs wz ?_ (wt _)))
 show wpAny _ _ (field (.ref it) 0 >>= _) _ _ s
 refine aa (bC ho hd (x:=.str x t) rfl ?_)
 show wpAny _ _ (field (.ref it) 1 >>= _) _ _ s
 refine aa (bC ho hd (x:=.int i 0) rfl ?_)
 simp only [aB,hx]
 refine aa (jm ho hd (by simp) (aa (wpAny_mkStr (aj ⟨_,rfl,aj (hQ _ ?_ (fV ..))⟩) (by show 1<=sizeLine;decide))))
 exact ⟨_,Heap.get?_update_self _ ho (jk (eG hd _)),(lD ..).trans hc,by
  rw [eG hd];simp [rawInt]⟩
theorem ox {it:Addr}{t:Tok}(hh:A.handled=none)(hit:s.heap.IsStrIter it "str_ascii_iterator" x t i)(hx:x.cps[i]? =none)(hE:∀h' e,jx it s.heap h'->(∃o,h'.get? e=some o/\o.cls=.type "StopIteration")->E (.ref e) {s with heap:=h' }):
  wpAny (model prog w) A (aU (.ref it)) Q E s:=by
 apply bT (id hit);intro o ho hc hd
 unfold aU
 refine aa (wpAny_callSpecial?_slot (name:=cY "__next__") hit.typeIs fD
  (fK fD hit.typeIs wz ?_ (wt _)))
 show wpAny _ _ (field (.ref it) 0 >>= _) _ _ s
 refine aa (bC ho hd (x:=.str x t) rfl ?_)
 show wpAny _ _ (field (.ref it) 1 >>= _) _ _ s
 refine aa (bC ho hd (x:=.int i 0) rfl ?_)
 simp only [aB,hx]
 refine aa (gO (aa (jm ho hd (by simp) (aa (wpAny_letGo ?_)))))
 show wpAny _ _ (newExc (.type "StopIteration") [] >>= _) _ _ _
 refine aa ?_
 simp only [newExc,newTuple]
 refine aa (bB ?_ (by size_fits))
 refine aa (m:=firstArgMember _ _) (fU (a:=ef) (by first | rfl | (simp only [firstArgMember];rfl)) ?_)
 refine bB ?_ (by size_fits)
 simp only [raiseNew]
 refine aa (tT ?_)
 first | rw [show A.in1.handled=none from hh] | rw [hh]
 refine aa (aj (Ae ?_))
 exact hE _ _ (((fV ..).extBut.push _).push _) ⟨_,Heap.get?_push_size _ rfl,rfl⟩
noncomputable def mA (f0 b1:Value)(TI TO:Addr):Obj:={cls:=.type "zip",dict:=none,data:=.fields #[f0,b1,.bool false,.ref TI,.ref TO],slots:=#[] }
variable {oT:Obj}{TI TO i1 i2:Addr}{ys:Array Value}
theorem Kx {z l T:Addr}{bb:Bool}{t:Tok}{c:Nat}{y:Value}(D:ZipApart z TI TO i1 i2 l l)(hz:s.heap.get? z=some (mA (rawInt T) (.bool bb) TI TO))(hT:s.heap.get? T=some oT)(h1:T≠z)(hTI:IsPair s.heap TI (.ref i1) (.ref i2))(hs1:s.heap.IsStrIter i1 "str_ascii_iterator" x t i)(hs2:s.heap.IsTupleIter i2 l i)(htu:s.heap.IsTuple l ys)(hx:x.cps[i]? =some c)(hy:ys[i]? =some y)(hQ:∀h' b',h'.get? z=some (mA (rawInt T) (.bool b') TI TO)->h'.IsStrIter i1 "str_ascii_iterator" x t (i + 1)->h'.IsTupleIter i2 l (i + 1)->IsPair h' s.heap.objs.size (.str ⟨#[c]⟩ s.toks) y->(∀a o,a≠z->a≠i1->a≠i2->s.heap.get? a=some o->h'.get? a=some o)->Q (.ref s.heap.objs.size) {s with heap:=h',toks:=s.toks + 1 }):
  wpAny (model prog w) A (Builtin.«zip.__next__» ⟨[.ref z],[]⟩) (λfin s'=>∃v,fin=.done (.ret v)/\Q v s') E s:=by
 show wpAny _ _ (field (.ref z) 2 >>= _) _ _ _
 refine aa (bC hz rfl (x:=.bool false) rfl ?_)
 show wpAny _ _ (field (.ref z) 3 >>= _) _ _ _
 refine aa (bC hz rfl (x:=.ref TI) rfl ?_)
 refine aa (ej hTI rfl ?_)
 show wpAny _ _ (cg (.ref z) >>= _) _ _ _
 refine aa ?_
 unfold cg
 refine aa (bC hz rfl (x:=rawInt T) rfl ?_)
 show wpAny _ _ (loadIfAlive (T:Int).toNat >>= _) _ _ _
 rw [aB]
 refine aa (mU ?_)
 rw [hT]
 refine aa (bC hz rfl (x:=.bool bb) rfl ?_)
 have key:∀(K:Bool->Shared->Prop),(∀h₁:Heap,h₁.get? z=some (mA (rawInt T) (.bool true) TI TO)->(∀a o,a≠z->s.heap.get? a=some o->h₁.get? a=some o)->h₁.objs.size=s.heap.objs.size->K false {s with heap:=h₁ })->
   wpAny (model prog w) A (if (wW bb !=wW true)=true then (setField (.ref z) 1 (.bool true) >>= λ_=>(pure false:Sem Bool)) else pure false) K E s:=by
  intro K hK
  cases bb with
  | true=>
   rw [if_neg (by decide)]
   exact aj (hK s.heap hz (λ_ _ _ e=>e) rfl)
  | false=>
   rw [if_pos (by decide)]
   refine aa (iJ hz (by simp) λh₁ hz₁ hs₁=>aj (hK h₁ ?_ (λa o ha e=>hs₁.extBut _ _ ha e) hs₁.1))
   exact hz₁
 refine key _ λh₁ hz₁ hk₁ hsz₁=>?_
 simp only [bX,if_false]
 show wpAny _ _ (forIn _ _ _ >>= _) _ _ _
 refine aa ?_
 rw [<-G6]
 simp only [eS,gt]
 refine aa (aa (bK ?_))
 show wpAny _ _ (aU (.ref i1) >>= _) _ _ _
 have q1:h₁.IsStrIter i1 "str_ascii_iterator" x t i:=by apply bT (hs1);intro o a1 a2 a3;exact ⟨o,hk₁ _ _ D.i1z a1,a2,a3⟩
 have q2:h₁.IsTupleIter i2 l i:=by apply bT (hs2);intro o a1 a2 a3;exact ⟨o,hk₁ _ _ D.i2z a1,a2,a3⟩
 have q3:h₁.IsTuple l ys:=by apply bT (htu);intro o a1 a2 a3;exact ⟨o,hk₁ _ _ D.l1z a1,a2,a3⟩
 refine aa (je q1 hx λh₂ h1₂ hs₂=>aj (aj ?_))
 refine aa (aa (bK ?_))
 show wpAny _ _ (aU (.ref i2) >>= _) _ _ _
 have q2':h₂.IsTupleIter i2 l i:=by apply bT (q2);intro o a1 a2 a3;exact ⟨o,hs₂.extBut _ _ D.i12.symm a1,a2,a3⟩
 have q3':h₂.IsTuple l ys:=by apply bT (q3);intro o a1 a2 a3;exact ⟨o,hs₂.extBut _ _ D.l1i1 a1,a2,a3⟩
 refine aa (fY q2' q3' hy λh₃ h2₃ hs₃=>aj (aj (aj ?_)))
 show wpAny _ _ (newTuple [.str ⟨#[c]⟩ s.toks,y] >>= _) _ _ _
 refine aa (wpAny_newTuple (aj ⟨_,rfl,?_⟩))
 have hsz:h₃.objs.size=s.heap.objs.size:=by rw [hs₃.1,hs₂.1,hsz₁]
 have e3:∀a o,a≠z->a≠i1->a≠i2->s.heap.get? a=some o->h₃.get? a=some o:=λa o a1 a2 a3 e=>hs₃.extBut _ _ a3 (hs₂.extBut _ _ a2 (hk₁ a o a1 e))
 have hz3:h₃.get? z=some (mA (rawInt T) (.bool true) TI TO):=hs₃.extBut _ _ D.i2z.symm (hs₂.extBut _ _ D.i1z.symm hz₁)
 have r1:h₃.IsStrIter i1 "str_ascii_iterator" x t (i + 1):=by apply bT (h1₂);intro o a1 a2 a3;exact ⟨o,hs₃.extBut _ _ D.i12 a1,a2,a3⟩
 show Q (.ref h₃.objs.size) _
 rw [hsz]
 refine hQ (h₃.push {cls:=.type "tuple",data:=.seq #[.str ⟨#[c]⟩ s.toks,y] }) true (Heap.get?_push_of_some _ hz3) ?_ ?_ ?_ λa o a1 a2 a3 e=>Heap.get?_push_of_some _ (e3 a o a1 a2 a3 e)
 .apply bT (r1);intro o a1 a2 a3;exact ⟨o,Heap.get?_push_of_some _ a1,a2,a3⟩
 .apply bT (h2₃);intro o a1 a2 a3;exact ⟨o,Heap.get?_push_of_some _ a1,a2,a3⟩
 .rw [<-hsz];exact Heap.get?_push_size _ rfl
theorem Am {z T:Addr}{bb:Bool}{t:Tok}{Q:PySem.Fin->Shared->Prop}(hh:A.handled=none)(hi1:i1≠z)(hz:s.heap.get? z=some (mA (rawInt T) (.bool bb) TI TO))(hT:s.heap.get? T=some oT)(hTI:IsPair s.heap TI (.ref i1) (.ref i2))(hs1:s.heap.IsStrIter i1 "str_ascii_iterator" x t i)(hx:x.cps[i]? =none)(hE:∀h' e,(∀a o,a≠z->a≠i1->s.heap.get? a=some o->h'.get? a=some o)->(∃o,h'.get? e=some o/\o.cls=.type "StopIteration")->E (.ref e) {s with heap:=h' }):
  wpAny (model prog w) A (Builtin.«zip.__next__» ⟨[.ref z],[]⟩) Q E s:=by
 show wpAny _ _ (field (.ref z) 2 >>= _) _ _ _
 refine aa (bC hz rfl (x:=.bool false) rfl ?_)
 show wpAny _ _ (field (.ref z) 3 >>= _) _ _ _
 refine aa (bC hz rfl (x:=.ref TI) rfl ?_)
 refine aa (ej hTI rfl ?_)
 show wpAny _ _ (cg (.ref z) >>= _) _ _ _
 refine aa ?_
 unfold cg
 refine aa (bC hz rfl (x:=rawInt T) rfl ?_)
 show wpAny _ _ (loadIfAlive (T:Int).toNat >>= _) _ _ _
 rw [aB]
 refine aa (mU ?_)
 rw [hT]
 refine aa (bC hz rfl (x:=.bool bb) rfl ?_)
 have key:∀(K:Bool->Shared->Prop),(∀h₁:Heap,(∀a o,a≠z->s.heap.get? a=some o->h₁.get? a=some o)->K false {s with heap:=h₁ })->
   wpAny (model prog w) A (if (wW bb !=wW true)=true then (setField (.ref z) 1 (.bool true) >>= λ_=>(pure false:Sem Bool)) else pure false) K E s:=by
  intro K hK
  cases bb with
  | true=>
   rw [if_neg (by decide)]
   exact aj (hK s.heap (λ_ _ _ e=>e))
  | false=>
   rw [if_pos (by decide)]
   refine aa (iJ hz (by simp) λh₁ hz₁ hs₁=>aj (hK h₁ (λa o ha e=>hs₁.extBut _ _ ha e)))
 refine key _ λh₁ hk₁=>?_
 simp only [bX,if_false]
 show wpAny _ _ (forIn _ _ _ >>= _) _ _ _
 refine aa ?_
 rw [<-G6]
 simp only [eS,gt]
 refine aa (aa (bK ?_))
 show wpAny _ _ (aU (.ref i1) >>= _) _ _ _
 have q1:h₁.IsStrIter i1 "str_ascii_iterator" x t i:=by apply bT (hs1);intro o a1 a2 a3;exact ⟨o,hk₁ _ _ hi1 a1,a2,a3⟩
 refine aa (ox hh q1 hx λh₂ e eb he=>?_)
 exact hE h₂ e (λa o a1 a2 q=>eb a o a2 (hk₁ a o a1 q)) he
theorem Ky {z l:Addr}{t:Tok}{c:Nat}{y b0:Value}(D:ZipApart z TI TO i1 i2 l l)(hz:s.heap.get? z=some (mA .none (.bool false) TI TO))(hTI:IsPair s.heap TI (.ref i1) (.ref i2))(hTO:IsPair s.heap TO a0 b0)(hs1:s.heap.IsStrIter i1 "str_ascii_iterator" x t i)(hs2:s.heap.IsTupleIter i2 l i)(htu:s.heap.IsTuple l ys)(hx:x.cps[i]? =some c)(hy:ys[i]? =some y)(hQ:∀h',h'.get? z=some (mA (rawInt s.heap.objs.size) (.bool false) TI TO)->h'.IsStrIter i1 "str_ascii_iterator" x t (i + 1)->h'.IsTupleIter i2 l (i + 1)->IsPair h' s.heap.objs.size (.str ⟨#[c]⟩ s.toks) y->IsPair h' TO (.str ⟨#[c]⟩ s.toks) y->(∀a o,a≠z->a≠TO->a≠i1->a≠i2->s.heap.get? a=some o->h'.get? a=some o)->Q (.ref s.heap.objs.size) {s with heap:=h',toks:=s.toks + 1 }):
  wpAny (model prog w) A (Builtin.«zip.__next__» ⟨[.ref z],[]⟩) (λfin s'=>∃v,fin=.done (.ret v)/\Q v s') E s:=by
 show wpAny _ _ (field (.ref z) 2 >>= _) _ _ _
 refine aa (bC hz rfl (x:=.bool false) rfl ?_)
 show wpAny _ _ (field (.ref z) 3 >>= _) _ _ _
 refine aa (bC hz rfl (x:=.ref TI) rfl ?_)
 refine aa (ej hTI rfl ?_)
 show wpAny _ _ (cg (.ref z) >>= _) _ _ _
 refine aa ?_
 unfold cg
 refine aa (bC hz rfl (x:=.none) rfl (aj ?_))
 simp only [if_true]
 refine aa (gO ?_)
 refine aa (bC hz rfl (x:=.ref TO) rfl ?_)
 refine aa (iJ hz (by simp) λh₁ hz₁ hs₁=>?_)
 replace hz₁:h₁.get? z=some (mA .ellipsis (.bool false) TI TO):=hz₁
 refine aa ?_
 simp only [List.zipIdx_cons,List.zipIdx_nil,eS,gt]
 refine aa (aa (wpAny_onRaise ?_))
 show wpAny _ _ (aU (.ref i1) >>= _) _ _ _
 have q1:h₁.IsStrIter i1 "str_ascii_iterator" x t i:=by apply bT (hs1);intro o a1 a2 a3;exact ⟨o,hs₁.extBut _ _ D.i1z a1,a2,a3⟩
 have q2:h₁.IsTupleIter i2 l i:=by apply bT (hs2);intro o a1 a2 a3;exact ⟨o,hs₁.extBut _ _ D.i2z a1,a2,a3⟩
 have q3:h₁.IsTuple l ys:=by apply bT (htu);intro o a1 a2 a3;exact ⟨o,hs₁.extBut _ _ D.l1z a1,a2,a3⟩
 refine aa (je q1 hx λh₂ h1₂ hs₂=>aj ?_)
 have hTO₂:IsPair h₂ TO a0 b0:=hs₂.extBut _ _ D.TOi1 (hs₁.extBut _ _ D.TOz hTO)
 refine aa (ej hTO₂ rfl ?_)
 refine aa (wpAny_updateSeq_pair hTO₂ λh₃ hTO₃ hs₃=>?_)
 replace hTO₃:IsPair h₃ TO (.str ⟨#[c]⟩ s.toks) b0:=hTO₃
 refine aa (wpAny_letGo (aj ?_))
 refine aa (aa (wpAny_onRaise ?_))
 show wpAny _ _ (aU (.ref i2) >>= _) _ _ _
 have r2:h₃.IsTupleIter i2 l i:=by apply bT (q2);intro o a1 a2 a3;exact ⟨o,hs₃.extBut _ _ D.TOi2.symm (hs₂.extBut _ _ D.i12.symm a1),a2,a3⟩
 have r3:h₃.IsTuple l ys:=by apply bT (q3);intro o a1 a2 a3;exact ⟨o,hs₃.extBut _ _ D.l1TO (hs₂.extBut _ _ D.l1i1 a1),a2,a3⟩
 refine aa (fY r2 r3 hy λh₄ h2₄ hs₄=>aj ?_)
 have hTO₄:IsPair h₄ TO (.str ⟨#[c]⟩ s.toks) b0:=hs₄.extBut _ _ D.TOi2 hTO₃
 refine aa (ej hTO₄ rfl ?_)
 refine aa (wpAny_updateSeq_pair hTO₄ λh₅ hTO₅ hs₅=>?_)
 replace hTO₅:IsPair h₅ TO (.str ⟨#[c]⟩ s.toks) y:=hTO₅
 refine aa (wpAny_letGo (aj (aj ?_)))
 refine aa (ej hTO₅ rfl ?_)
 refine aa (wpAny_newTuple ?_)
 have hsz:h₅.objs.size=s.heap.objs.size:=by rw [hs₅.1,hs₄.1,hs₃.1,hs₂.1,hs₁.1]
 have hz₅:h₅.get? z=some (mA .ellipsis (.bool false) TI TO):=hs₅.extBut _ _ D.TOz.symm (hs₄.extBut _ _ D.i2z.symm (hs₃.extBut _ _ D.TOz.symm (hs₂.extBut _ _ D.i1z.symm hz₁)))
 have hk₅:∀a o,a≠z->a≠TO->a≠i1->a≠i2->s.heap.get? a=some o->h₅.get? a=some o:=λa o c1 c2 c3 c4 e=>
  hs₅.extBut _ _ c2 (hs₄.extBut _ _ c4 (hs₃.extBut _ _ c2 (hs₂.extBut _ _ c3 (hs₁.extBut _ _ c1 e))))
 have e1:h₅.IsStrIter i1 "str_ascii_iterator" x t (i + 1):=by apply bT (h1₂);intro o a1 a2 a3;exact ⟨o,hs₅.extBut _ _ D.TOi1.symm (hs₄.extBut _ _ D.i12 (hs₃.extBut _ _ D.TOi1.symm a1)),a2,a3⟩
 have e2:h₅.IsTupleIter i2 l (i + 1):=by apply bT (h2₄);intro o a1 a2 a3;exact ⟨o,hs₅.extBut _ _ D.TOi2.symm a1,a2,a3⟩
 have hzlt:z < h₅.objs.size:=aF hz₅
 show wpAny _ _ (kG (.ref z) (.ref h₅.objs.size) >>= _) _ _ _
 refine aa ?_
 unfold kG
 have hz₆:(h₅.push {cls:=.type "tuple",data:=.seq #[.str ⟨#[c]⟩ s.toks,y] }).get? z=some (mA .ellipsis (.bool false) TI TO):=Heap.get?_push_of_some _ hz₅
 refine aa (iJ hz₆ (by simp) λh₇ hz₇ hs₇=>?_)
 replace hz₇:h₇.get? z=some (mA (rawInt h₅.objs.size) (.bool false) TI TO):=hz₇
 refine iJ hz₇ (by simp) λh₈ hz₈ hs₈=>?_
 replace hz₈:h₈.get? z=some (mA (rawInt h₅.objs.size) (.bool false) TI TO):=hz₈
 have up:∀a o,a≠z->h₅.get? a=some o->h₈.get? a=some o:=λa o c1 e=>hs₈.extBut _ _ c1 (hs₇.extBut _ _ c1 (Heap.get?_push_of_some _ e))
 have hT₈:IsPair h₈ h₅.objs.size (.str ⟨#[c]⟩ s.toks) y:=hs₈.extBut _ _ (dN hzlt) (hs₇.extBut _ _ (dN hzlt) (Heap.get?_push_size _ rfl))
 rw [hsz] at hz₈ hT₈
 refine aj ⟨_,rfl,?_⟩
 show Q (.ref h₅.objs.size) _
 rw [hsz]
 refine hQ h₈ hz₈ ?_ ?_ hT₈ (up _ _ D.TOz hTO₅) λa o c1 c2 c3 c4 e=>up a o c1 (hk₅ a o c1 c2 c3 c4 e)
 .apply bT (e1);intro o a1 a2 a3;exact ⟨o,up _ _ D.i1z a1,a2,a3⟩
 .apply bT (e2);intro o a1 a2 a3;exact ⟨o,up _ _ D.i2z a1,a2,a3⟩
theorem rW (l:Addr)(x:Str)(t:Tok)(ys:Array Value)(n:Nat)(ha:x.cps.all (· < 128)=true):
  Meets (Builtin.«zip.__new__» ⟨[.type "zip",.str x t,.ref l],[]⟩) (λ_ R s=>s.heap.get? l=some {cls:=.type "tuple",dict:=none,data:=.seq ys n,slots:=#[] }/\
   ∀h',h'.get? (s.heap.objs.size + 4)=some (mA .none (.bool false) (s.heap.objs.size + 2) (s.heap.objs.size + 3))->IsPair h' (s.heap.objs.size + 2) (.ref s.heap.objs.size) (.ref (s.heap.objs.size + 1))->IsPair h' (s.heap.objs.size + 3) .none .none->
    h'.IsStrIter s.heap.objs.size "str_ascii_iterator" x t 0->h'.IsTupleIter (s.heap.objs.size + 1) l 0->(∀b o,s.heap.get? b=some o->h'.get? b=some o)->R (.ok (.ret (.ref (s.heap.objs.size + 4)))) {s with heap:=h' }):=
 .of_wp λprog w A R s h=>by
  obtain ⟨hp,g,d,tk,os⟩:=s;have hx0:=h;have hl:=hx0.1;have h:=hx0.2
  have hsub:=sub_zip
  have hL2:Heap.IsTuple (Shared.heap ⟨hp.push {cls:=.type "str_ascii_iterator",data:=.fields #[.str x t,.int 0 0] },g,d,tk,os⟩) l ys:=⟨_,Heap.get?_push_of_some _ hl,rfl,n,rfl⟩
  unfold Builtin.«zip.__new__»
  refine aa ?_
  unfold Builtin.SmallTypes.newClass
  refine aa (fU (a:=true) (by rfl) ?_)
  simp only [Al,bX,if_false]
  refine aa (fU (a:=true) hsub ?_)
  simp only [Al,bX,if_false]
  refine aj ?_
  show wpAny _ _ (oo [.str x t,.ref l] >>= _) _ _ _
  refine aa ?_
  unfold oo
  simp only [eS,gt]
  refine aa (aa (aa (bK (wpAny_pyIter_ascii ha (aj ?_)))))
  refine aa (aa (bK (iK hL2 (aj (aj (aj ?_))))))
  refine aa (bB ?_ (by show (2:Nat)<=sizeLine;decide))
  refine aa (bB ?_ (by show (2:Nat)<=sizeLine;decide))
  refine aa ?_
  unfold Builtin.SmallTypes.newRecord
  refine bB ?_ (show (5:Nat)<=sizeLine + 2 by decide)
  dsimp only
  generalize hH1:hp.push {cls:=.type "str_ascii_iterator",data:=.fields #[.str x t,.int 0 0] }=H1
  have z1:H1.objs.size=hp.objs.size + 1:=by rw [<-hH1,dJ]
  have g1:H1.get? hp.objs.size=some {cls:=.type "str_ascii_iterator",data:=.fields #[.str x t,.int 0 0] }:=by rw [<-hH1];exact Heap.get?_push_size _ rfl
  have k1:∀b o,hp.get? b=some o->H1.get? b=some o:=λb o e=>by rw [<-hH1];exact Heap.get?_push_of_some _ e
  generalize hH2:H1.push {cls:=.type "tuple_iterator",data:=.fields #[.ref l,.int 0 0] }=H2
  have z2:H2.objs.size=hp.objs.size + 2:=by rw [<-hH2,dJ,z1]
  have g2:H2.get? (hp.objs.size + 1)=some {cls:=.type "tuple_iterator",data:=.fields #[.ref l,.int 0 0] }:=by rw [<-hH2,<-z1];exact Heap.get?_push_size _ rfl
  have k2:∀b o,H1.get? b=some o->H2.get? b=some o:=λb o e=>by rw [<-hH2];exact Heap.get?_push_of_some _ e
  rw [z1]
  generalize hH3:H2.push {cls:=.type "tuple",dict:=none,data:=.seq (((#[]:Array Value).push (dT hp.objs.size)).push (dT (hp.objs.size + 1))).toList.toArray }=H3
  have z3:H3.objs.size=hp.objs.size + 3:=by rw [<-hH3,dJ,z2]
  have g3:IsPair H3 (hp.objs.size + 2) (.ref hp.objs.size) (.ref (hp.objs.size + 1)):=by show H3.get? _=_;rw [<-hH3,<-z2];exact Heap.get?_push_size _ rfl
  have k3:∀b o,H2.get? b=some o->H3.get? b=some o:=λb o e=>by rw [<-hH3];exact Heap.get?_push_of_some _ e
  generalize hH4:H3.push {cls:=.type "tuple",dict:=none,data:=.seq (yn (λx=>ef) (((#[]:Array Value).push (dT hp.objs.size)).push (dT (hp.objs.size + 1))).toList).toArray }=H4
  have z4:H4.objs.size=hp.objs.size + 4:=by rw [<-hH4,dJ,z3]
  have g4:IsPair H4 (hp.objs.size + 3) .none .none:=by show H4.get? _=_;rw [<-hH4,<-z3];exact Heap.get?_push_size _ rfl
  have k4:∀b o,H3.get? b=some o->H4.get? b=some o:=λb o e=>by rw [<-hH4];exact Heap.get?_push_of_some _ e
  rw [z2,z3,z4]
  refine aj ⟨_,rfl,?_⟩
  refine h _ ?_ ?_ ?_ ?_ ?_ λb o e=>Heap.get?_push_of_some _ (k4 _ _ (k3 _ _ (k2 _ _ (k1 _ _ e))))
  .show (H4.push _).get? (hp.objs.size + 4)=_
   rw [<-z4]
   exact Heap.get?_push_size _ rfl
  .exact Heap.get?_push_of_some _ (k4 _ _ g3)
  .exact Heap.get?_push_of_some _ g4
  .exact ⟨_,Heap.get?_push_of_some _ (k4 _ _ (k3 _ _ (k2 _ _ g1))),rfl,rfl⟩
  .exact ⟨_,Heap.get?_push_of_some _ (k4 _ _ (k3 _ _ g2)),rfl,rfl⟩
structure SD (W:Wd)(g:View)(s:Shared)(a:Addr)(ks:List Str)(ds:List D):Prop where
 obj:∃o vs,Hid g s a o/\o.IsDictOf (strKind W.prog W.w) (ks.zip vs)/\ks.length=vs.length/\RepAll W g vs ds
theorem SD.extM (h:SD W g s a ks ds)(x:ExtM W M g s g' s')(hm:¬M a):SD W g' s' a ks ds:=
 ik h.obj λo vs h1 h2 h3 h4=>⟨o,vs,h1.ext x hm,h2,h3,h4.mono x.le⟩
structure PairsIt (W:Wd)(it:Value)(a:Addr)(B:Addr->Prop)(ks:List Str)(ds:List D)(St:Nat->View->Shared->Prop):Prop where
 frame:∀{i g s g' s'},St i g s->Ok W g s->ExtM W (·=a) g s g' s'->St i g' s'
 item:∀{A:Around} {i g s},A.handled=none->i < ks.length->Ok W g s->St i g s->(∃o,s.heap.get? a=some o)->∀(Q:Option Value->Shared->Prop) (E:Value->Shared->Prop),(∀T k t x d g' s',ks[i]? =some k->ds[i]? =some d->s'.heap.IsTuple T #[.str k t,x]->Rep W g' x d->ExtM W B g s g' s'->St (i + 1) g' s'->Q (some (.ref T)) s')->wpAny (model W.prog W.w) A (pyNext it) Q E s
 done:∀{A:Around} {g s},A.handled=none->Ok W g s->St ks.length g s->∀(Q:Option Value->Shared->Prop) (E:Value->Shared->Prop),(∀g' s',ExtM W B g s g' s'->Q none s')->wpAny (model W.prog W.w) A (pyNext it) Q E s
 off:¬B a
theorem Az {k:Str}(h:ks[i]? =some k):ks.take (i + 1)=ks.take i++[k]:=by rw [dk,h];rfl
theorem On {k:D}(h:ds[i]? =some k):ds.take (i + 1)=ds.take i++[k]:=by rw [dk,h];rfl
theorem Gx (PI:PairsIt W it a B ks ds St)(hl:ks.length=ds.length)(hnd:ks.Nodup)(hsz:ks.length < 1000):
  ∀(m:Nat) (i:Nat) (A:Around) (g:View) (s:Shared),m=ks.length - i->i<=ks.length->A.handled=none->Ok W g s->St i g s->SD W g s a (ks.take i) (ds.take i)->∀R:Result->Shared->Prop,
   (∀g' s',ExtM W (λb=>b=a\/B b) g s g' s'->SD W g' s' a ks ds->R (.ok (.ret .none)) s')->codeAny (model W.prog W.w) A (.builtin "dict.update.loop" ⟨[.ref a,it,rawInt i,.none],[]⟩) R s:=by
 have hpl:plainId "dict.update.loop"=true:=by decide +kernel
 have hen:entryFor table "dict.update.loop"=some Builtin.«dict.update.loop»:=oC (by kernel_rfl)
 intro m
 induction m with
 | zero=>
  intro i A g s hm hi hh k st sd R hR
  have e:i=ks.length:=ar (Bz hi) ((qA Y0 Y1 Y2 (qN (.l Y1 Y2) [0,1,0,1]):dL [.e J0 Y0]) hm)
  subst e
  refine BH hen ?_
  rw [Cn hpl]
  show wpAny _ _ (pyNext it >>= _) _ _ _
  refine aa (PI.done (A:=A.in1) hh k st _ _ λg1 s1 x1=>?_)
  show wpAny _ _ (Builtin.Dict.addKeywords a [] >>= _) _ _ _
  refine aa (aj (aj ?_))
  refine hR g1 s1 (x1.mono λb hb=>.inr hb) ?_
  have:=sd.extM x1 PI.off
  rw [t9,hl,t9] at this
  exact this
 | succ m ih=>
  intro i A g s hm hi hh k st sd R hR
  refine BH hen ?_
  rw [Cn hpl]
  show wpAny _ _ (pyNext it >>= _) _ _ _
  apply ik (sd.obj);intro o vs o1 o2 o3 o4
  refine aa (PI.item (A:=A.in1) hh (MU hm hi) k st ⟨o,o1.get⟩ _ _ λT kk t x d g1 s1 hk hd hT hx x1 st1=>?_)
  have sd1:=sd.extM x1 PI.off
  apply ik (sd1.obj);intro o' vs' p1 p2 p3 p4
  apply zF (hT);intro oT q1 q2 nT q3
  refine aa (bK (aa (wpAny_tryCatch ?_)))
  unfold Builtin.Dict.pairItems
  refine aa (wpAny_typeOf (T:="tuple") ⟨oT,q1,q2⟩ ?_)
  rw [if_pos (by decide)]
  refine aa (ej q1 q3 (aj ?_))
  show wpAny _ _ (holding [.str kk t,x] (dictSet a (.str kk t) x)) _ _ _
  have hm':=Heap.dictOf_iff.mpr ⟨_,p1.get,p2⟩
  have hil:i < ks.length:=MU hm hi
  have hlt:(ks.take i).length=i:=by rw [cT];exact ar (Jk) ((qC Y2 Y0 Y1 (qN (.l Y0 Y2) [0,0,1]) (qN (.l Y0 Y2) [0,0,1,1]):dL [.l Y0 Y1]) hi)
  refine bK (wpAny_dictSet_pairs (ur _ _ _ _) hm' (λh' hm2 sb=>?_) (by rw [wv,hlt];show _<=16777216;exact (qE Y2 Y1 Y3 (qN (.l Y2 (.k 16777216)) [1,0,1,1]):gC [aR Y0 (.k 1000),aR Y1 Y0]) hsz hil))
  have hnone:valueAt ((ks.take i).zip vs') kk=none:=by
   rw [fj]
   refine rY λhmem=>?_
   obtain ⟨j,hj,e⟩:=List.mem_take_iff_getElem.mp hmem
   obtain ⟨hi2,e2⟩:=List.getElem?_eq_some_iff.mp hk
   have:=(List.getElem_inj hnd).mp (e.trans e2.symm)
   exact (qE Y1 Y2 Y3 (qF [1,0,1,0,1]):gC [aR Y0 Y1,.e Y0 Y2]) hj this
  have ez:(ks.take i).zip vs'++[(kk,x)]=(ks.take (i + 1)).zip (vs'++[x]):=by
   rw [Az hk,List.zip_append p3];rfl
  rw [stored_absent hnone,ez] at hm2
  apply aA (Heap.dictOf_iff.mp hm2);intro o2' r1 r2
  have htab:bD o2'=false:=by apply bP (r2);intro es ep _ e2 _;exact cS e2
  have x2:=(ExtM.of_keep x1.ok (wr:=[a]) (h':=h') (n:=s1.toks + 1) (λb hb=>(rF.mp hb)▸⟨_,p1⟩) (λb o hb e=>sb.extBut b o (λq=>hb (rF.mpr q)) e) (aY _)).mono (N:=(·=a)) λb hb=>rF.mp hb
  have sd2:SD W g1 {s1 with heap:=h',toks:=s1.toks + 1 } a (ks.take (i + 1)) (ds.take (i + 1)):=⟨o2',vs'++[x],⟨r1,htab,p1.hid⟩,r2,by rw [Az hk,az,az,p3];rfl,by rw [On hd];exact p4.append (.cons hx .nil)⟩
  refine aj ⟨plainId_quiet hpl _,?_⟩
  show codeAny _ _ (.builtin "dict.update.loop" ⟨[.ref a,it,rawInt ((i:Int) + 1),.none],[]⟩) _ _
  refine ih (i + 1) A g1 _ (ar ((qB Y2 Y3 (.a Y4 J1) (qB Y1 Y3 Y4 (qN (.l Y0 Y2) [0,1,0,0,0,1,1]) (qN (.l Y0 Y2) [0,1,0,0,0,0,1])) (qB Y1 Y3 Y4 (qN (.l Y0 Y2) [0,1,0,1,0,0,1]) (qN (.l Y0 Y2) [0,1,0,0,0,0,1])):mM [.e (.a Y0 J1) Y1]) hm) ((qB Y2 Y3 (.a Y4 J1) (qA Y1 Y3 Y4 (qN (.l Y2 Y0) [0,1,0,1,0,0,1])) (qN (.l Y2 Y0) [0,1]):mM [.e (.a Y0 J1) Y1]) hm)) (qW hil) hh x2.ok (PI.frame st1 x1.ok x2) sd2 R λg3 s3 x3 sd3=>hR g3 s3 ((x1.mono λb hb=>.inr hb).trans ((x2.mono λb hb=>.inl hb).trans x3)) sd3
theorem xU {src:Value}{F0:Addr->Prop}(hh:A.handled=none)(k:Ok W g s)(hl:ks.length=ds.length)(hnd:ks.Nodup)(hsz:ks.length < 1000)(hty:∀h' tk,(∀b o,s.heap.get? b=some o->h'.get? b=some o)->({s with heap:=h',toks:=tk }:Shared).TypeIs src T)(hTd:T≠"dict")(hkeys:∀(A:Around) (h₁:Heap) (tk:Tok) (Q:Option Value->Shared->Prop) (E:Value->Shared->Prop),A.handled=none->(∀b o,s.heap.get? b=some o->h₁.get? b=some o)->(∀h' tk',(∀b o,h₁.get? b=some o->h'.get? b=some o)->Q none {s with heap:=h',toks:=tk' })->wpAny (model W.prog W.w) A (getAttr? src "keys") Q E {s with heap:=h₁,toks:=tk })(hF:∀b,s.heap.objs.size<=b->F0 b)(hiter:∀(A:Around) (g₁:View) (s₁:Shared) (Q:Value->Shared->Prop) (E:Value->Shared->Prop),A.handled=none->Ext W g s g₁ s₁->(∃o,Hid g₁ s₁ s.heap.objs.size o)->
   (∀it B St g' s',Ext W g₁ s₁ g' s'->PairsIt W it s.heap.objs.size B ks ds St->St 0 g' s'->(∀b,B b->F0 b)->Q it s')->wpAny (model W.prog W.w) A (pyIter src) Q E s₁)(hQ:∀g' s',ExtM W F0 g s g' s'->Rep W g' (.ref s.heap.objs.size) (.sdict ks ds)->Q (.ref s.heap.objs.size) s'):wpAny (model W.prog W.w) A (call (.type "dict") [src]) Q E s:=by
 refine callType_codes (Q₁:=λobj s₁=>obj=.ref s.heap.objs.size/\s₁={s with heap:=s.heap.push {cls:=.type "dict",data:=.dict #[] } }) F.kt_called_dict (F.kt_typeCall_dict_1 _) F.entry_dict_init (kt_code_dict_new _ ⟨rfl,rfl⟩) ?_
 rintro obj s₁ ⟨rfl,rfl⟩
 have hnew:(s.heap.push {cls:=.type "dict",data:=.dict #[] }).DictOf (strKind W.prog W.w) s.heap.objs.size []:=Cm s.heap
 refine ⟨hnew.typeIs,F.args_dict_init_2 _ _,?_⟩
 unfold Builtin.«dict.__init__»
 refine aa ?_
 unfold Builtin.Dict.selfAndRest
 refine aa (wpAny_notOrdered_dict hnew.typeIs ?_)
 show wpAny _ _ (pure (s.heap.objs.size,[src])) _ _ _
 refine aj ?_
 show wpAny _ _ (tR "dict.__init__" s.heap.objs.size src [] .none) _ _ _
 unfold tR
 refine aa (wpAny_typeOf (hty _ _ λb o e=>Heap.get?_push_of_some _ e) ?_)
 rw [if_pos (by simpa using hTd)]
 refine aa ?_
 have x1:=Ext.pushHid k {cls:=.type "dict",data:=.dict #[] }
 have sd:SD W g {s with heap:=s.heap.push {cls:=.type "dict",data:=.dict #[] } } s.heap.objs.size (ks.take 0) (ds.take 0):=by
  apply aA (Heap.dictOf_iff.mp hnew);intro o e h
  rw [Heap.get?_push_size _ rfl] at e
  cases e
  exact ⟨_,[],⟨Heap.get?_push_size _ rfl,rfl,k.fresh (ae _)⟩,h,rfl,.nil⟩
 refine ch (ae _) (hkeys _ _ _ _ _ hh (λb o e=>Heap.get?_push_of_some _ e) λh' tk' hk' hle=>?_)
 rw [if_pos (by rfl)]
 refine aa (gO ?_)
 have x2:=Ext.kept x1.ok hk' hle
 have x12:=x1.trans x2
 have sd2:=sd.extM (M:=λ_=>False) x2.toM id
 refine aa (hiter A.in1.in1 g _ _ _ hh x12 (by apply fo (sd2.obj);intro o vs h1 _;exact ⟨o,h1⟩) λit B St g3 s3 x3 PI st hB=>?_)
 have sd3:=sd2.extM (M:=λ_=>False) x3.toM id
 refine aj ⟨plainId_quiet (by decide +kernel) _,?_⟩
 show codeAny _ _ (.builtin "dict.update.loop" ⟨[.ref s.heap.objs.size,it,rawInt ((0:Nat):Int),.none],[]⟩) _ _
 refine Gx PI hl hnd hsz ks.length 0 A.in1 g3 s3 rfl (cq _) hh x3.ok st sd3 _ λg4 s4 x4 sd4=>?_
 apply ik (sd4.obj);intro o vs h1 h2 h3 h4
 have x5:=((x12.trans x3).toM.trans (x4.mono (N:=F0) λb hb=>hb.elim (λe=>hF b (dw e.symm)) λe=>hB b e)).see h1 (hF _ (ae _))
 refine ⟨rfl,hQ _ _ x5 ?_⟩
 exact .sdict (cW _ _ _) (k.sysLt (ae _)) h2 h3 (h4.mono (gK h1.hid))
noncomputable def kN:List Str->List D->List D
 | k :: ks,d :: ds=>.tup [.kstr k,d] :: kN ks ds
 | _,_=>[]
theorem oJ:∀(ks:List Str) (ds:List D),ks.length=ds.length->(kN ks ds).length=ks.length
 | [],[],_=>rfl
 | k :: ks,d :: ds,h=>by simp [kN,oJ ks ds (by simpa using h)]
theorem uK:∀(ks:List Str) (ds:List D) (i:Nat) {p:D},(kN ks ds)[i]? =some p->∃k d,ks[i]? =some k/\ds[i]? =some d/\p=.tup [.kstr k,d]
 | [],_,_,_,h=>by simp [kN] at h
 | _ :: _,[],_,_,h=>by simp [kN] at h
 | k :: ks,d :: ds,0,p,h=>by simp [kN] at h;exact ⟨k,d,rfl,rfl,h.symm⟩
 | k :: ks,d :: ds,i + 1,p,h=>by
  apply bP (uK ks ds i (p:=p) (by simpa [kN] using h));intro k' d' h1 h2 h3
  exact ⟨k',d',by simpa using h1,by simpa using h2,h3⟩
theorem wP (hh:A.handled=none)(hf:aQ W A env ρ (.Name x p) (.ty "dict"))(he:fN e=true)(h:aQ W A env ρ e (.list (kN ks ds)))(hl:ks.length=ds.length)(hnd:ks.Nodup)(hsz:ks.length < 1000):
  aQ W A env ρ (.Call (.Name x p) [e] [] pos) (.sdict ks ds):=λg s F k Q E hQ=>
 dF hf (.cons (aJ he) h .nil) .nil (fF _) F k λg2 s2 vf vs kvs x2 rf rs hkv _=>by
  apply rs.elim1;intro v rv
  obtain rfl:=rf.inv
  apply jQ hkv
  apply aV (rv.inv_list);intro l items n' hq0 h1 h4;subst hq0
  have hs:=x2.ok.sub _ _ h1
  have hlt:=aF hs
  have hil:items.size=ks.length:=by rw [<-oJ ks ds hl,<-h4.length,aE]
  refine xU (src:=.ref l) (T:="list") (F0:=λb=>∀o,s2.heap.get? b=some o->bD o=true) hh x2.ok hl hnd hsz (λh' tk hk=>⟨_,hk _ _ hs,rfl⟩) (by decide) (λA' h₁ tk Q E hA hk q=>?_) (λb hb=>bf hb) (λA' g₁ s₁ Q E hA x1 hD q=>?_) λg' s' x3 r=>hQ _ g' s' (x2.trans (x3.toExt λb o hb e=>hb o e)) r
  .exact CO (s:={s2 with heap:=h₁,toks:=tk }) (hk _ _ hs) hA λh' tk' hk'=>q h' tk' hk'
  .have ha:=x1.le.obj _ _ h1
   have hs1:=x1.ok.sub _ _ ha
   have hl1:s₁.heap.IsList l items:=⟨_,hs1,rfl,n',rfl⟩
   have hne:l≠s₁.heap.objs.size:=bG (aF hs1)
   have xp:=Ext.pushHid x1.ok {cls:=.type "list_iterator",data:=.fields #[.ref l,.int 0 0] }
   obtain ⟨oD,hD⟩:=hD
   have hDlt:=aF hD.get
   refine wpAny_pyIter_list hl1 (q _ (·=s₁.heap.objs.size) (λi g s=>s.heap.IsListIter s₁.heap.objs.size l i/\g.obj s₁.heap.objs.size=none/\Le g₁ g/\∀b o,g.obj b=some o->s.heap.get? b=some o) g₁ _ xp ?_ ⟨⟨_,Heap.get?_push_size _ rfl,rfl,rfl⟩,x1.ok.fresh (ae _),Le.refl _,xp.ok.sub⟩ λb hb o e=>by
    rw [hb] at e
    exact x1.before (bf (ae _)) o e)
   refine ⟨λ{i g s g' s'} st kk x=>?_,λ{A i g s} hA hi kk st ho Q E hQ=>?_,λ{A g s} hA kk st Q E hQ=>?_,λq=>by rw [q] at hDlt;exact Nat.lt_irrefl _ hDlt⟩
   .have hn0:=st.1;have a4:=st.2.1;have a5:=st.2.2.1;have a6:=st.2.2.2;obtain ⟨o,a1,a2,a3⟩:=hn0
    have hn:s₁.heap.objs.size≠s2.heap.objs.size:=dN hDlt
    have ht:bD o=false:=by unfold bD;rw [a2]
    exact ⟨⟨o,x.keep _ o hn a1 ht,a2,a3⟩,x.new _ o hn a1 ht a4,a5.trans x.le,x.ok.sub⟩
   .have a1:=st.1;have a4:=st.2.1;have a5:=st.2.2.1;have a6:=st.2.2.2
    apply bT (a1);intro o1 b1 b2 b3
    have hg:=a5.obj _ _ ha
    have hl2:s.heap.IsList l items:=⟨_,kk.sub _ _ hg,rfl,n',rfl⟩
    have hi':i < items.size:=by rw [hil];exact hi
    apply aA (h4.getV (i:=i) (v:=items[i]) (by simp [hi']));intro dp hdp rp
    apply bP (uK ks ds i hdp);intro kk' d' e1 e2 hq0;subst hq0
    apply aV ((rp.mono (x1.le.trans a5)).inv_tup);intro T tv nt eT hT rT
    apply bP (rT.inv2);intro u w ew ru rw'
    apply aA (ru.inv);intro _ hq0 ht;subst hq0
    rename_i tok
    refine wpAny_pyNext_list_item (x:=items[i]) ⟨o1,b1,b2,b3⟩ hl2 (by simp [hi']) λh' hit' sb=>?_
    have xm:=(ExtM.of_keep kk (wr:=[s₁.heap.objs.size]) (h':=h') (n:=s.toks) (λb hb=>(rF.mp hb)▸⟨o1,b1,by unfold bD;rw [b2],a4⟩) (λb o hb e=>sb.extBut b o (λq=>hb (rF.mpr q)) e) (ae _)).mono (N:=(·=s₁.heap.objs.size)) λb hb=>rF.mp hb
    rw [eT]
    have etv:tv=#[.str kk' tok,w]:=by
     have:tv.toList=[.str kk' tok,w]:=ew
     rw [<-this]
    exact hQ T kk' tok w d' g _ e1 e2 ⟨_,xm.ok.sub _ _ hT,rfl,nt,by rw [etv]⟩ rw' xm ⟨hit',a4,a5,xm.ok.sub⟩
   .have a1:=st.1;have a4:=st.2.1;have a5:=st.2.2.1;have a6:=st.2.2.2
    apply bT (a1);intro o1 b1 b2 b3
    have hg:=a5.obj _ _ ha
    have hl2:s.heap.IsList l items:=⟨_,kk.sub _ _ hg,rfl,n',rfl⟩
    refine wpAny_pyNext_list_end hA ⟨o1,b1,b2,b3⟩ hl2 (by rw [<-hil];simp) λh' eb=>?_
    have xm:=(ExtM.of_keep kk (wr:=[s₁.heap.objs.size]) (h':=h') (n:=s.toks) (λb hb=>(rF.mp hb)▸⟨o1,b1,by unfold bD;rw [b2],a4⟩) (λb o hb e=>eb b o (λq=>hb (rF.mpr q)) e) (ae _)).mono (N:=(·=s₁.heap.objs.size)) λb hb=>rF.mp hb
    exact hQ g _ xm
theorem AQ {l:Addr}{t:Tok}(ha:x.cps.all (· < 128)=true)(hl:s.heap.get? l=some {cls:=.type "tuple",dict:=none,data:=.seq ys n,slots:=#[] })(h:∀h',h'.get? (s.heap.objs.size + 4)=some (mA .none (.bool false) (s.heap.objs.size + 2) (s.heap.objs.size + 3))->IsPair h' (s.heap.objs.size + 2) (.ref s.heap.objs.size) (.ref (s.heap.objs.size + 1))->IsPair h' (s.heap.objs.size + 3) .none .none->
    h'.IsStrIter s.heap.objs.size "str_ascii_iterator" x t 0->h'.IsTupleIter (s.heap.objs.size + 1) l 0->(∀b o,s.heap.get? b=some o->h'.get? b=some o)->Q (.ref (s.heap.objs.size + 4)) {s with heap:=h' }):
  wpAny (model prog w) A (call (.type "zip") [.str x t,.ref l]) Q E s:=
 callType_new F.called_zip (by decide) (F.typeCall_zip_2 _ _) (F.newCall_zip_2 _ _) (λobj=>F.args_object_init_3 obj _ _) F.entry_zip_new (rW l x t ys n ha) ⟨hl,λh' a1 a2 a3 a4 a5 a6=>⟨⟨_,a1,rfl⟩,h h' a1 a2 a3 a4 a5 a6⟩⟩
noncomputable def nv (x:Str):List Str:=x.cps.toList.map λc=>⟨#[c]⟩
noncomputable def yu (n b:Nat):Prop:=n<=b/\b<=n + 4
theorem yt (n:Nat)(h:i<=4):yu n (n + i):=⟨EU,(qN (.l (.a Y1 Y0) (.a Y1 J4)) [1]:cz [.l Y0 J4]) h⟩
theorem Hh {a:Nat}(h:n + 4 < a):¬yu n a:=λq=>by unfold yu at q;exact (qF [1,1]:cz [aR (.a Y0 J4) Y1,.l Y1 (.a Y0 J4)]) h q.2
theorem ue (n:Nat):∀b,b∈[n + 4,n + 3,n,n + 1]->yu n b:=
 dD (yt n (i:=4) (by decide)) (dD (yt n (i:=3) (by decide)) (dD (yt n (i:=0) (by decide)) (dD (yt n (i:=1) (by decide)) AT)))
theorem pd (n:Nat)(h:i≠j):n + i≠n + j:=λzz=>(sG h).elim (λz0=>(qF [0,1,1]:dL [.e (.a Y0 Y1) (.a Y0 Y2),aR Y1 Y2]) zz z0) (λz0=>(qF [1,0,1]:dL [.e (.a Y0 Y1) (.a Y0 Y2),aR Y2 Y1]) zz z0)
structure ZSt (n l a:Addr)(x:Str)(t:Tok)(ys:Array Value)(gB:View)(i:Nat)(g:View)(s:Shared):Prop where
 ti:∃o,Hid g s (n + 2) o/\o={cls:=.type "tuple",data:=.seq #[.ref n,.ref (n + 1)] }
 s1:s.heap.IsStrIter n "str_ascii_iterator" x t i/\g.obj n=none
 s2:s.heap.IsTupleIter (n + 1) l i/\g.obj (n + 1)=none
 le:Le gB g
 ok:∀b o,g.obj b=some o->s.heap.get? b=some o
 zh:g.obj (n + 4)=none
 zt:∃o,Hid g s (n + 3) o
 zip:(i=0/\s.heap.get? (n + 4)=some (mA .none (.bool false) (n + 2) (n + 3))/\IsPair s.heap (n + 3) .none .none)\/
  (∃(T:Addr) (b:Bool) (oT:Obj),0 < i/\s.heap.get? (n + 4)=some (mA (rawInt T) (.bool b) (n + 2) (n + 3))/\s.heap.get? T=some oT/\bD oT=false/\T≠n + 4/\T≠n/\T≠n + 1/\T≠a)
variable {gB:View}
theorem ZSt.zo {l:Nat}{a:Nat}{t:Tok}(st:ZSt n l a x t ys gB i g s):∃o,s.heap.get? (n + 4)=some o/\bD o=false/\s.TypeIs (.ref (n + 4)) "zip":=
 st.zip.elim (λh=>⟨_,h.2.1,rfl,_,h.2.1,rfl⟩) λh=>pv h λT b oT _ h=>⟨_,h.1,rfl,_,h.1,rfl⟩
theorem ZSt.wr {l:Nat}{a:Nat}{t:Tok}(st:ZSt n l a x t ys gB i g s):∀b,b∈[n + 4,n + 3,n,n + 1]->∃o,Hid g s b o:=
 bT st.s1.1 λo1 p1 p2 _=>bT st.s2.1 λo2 q1 q2 _=>bT st.zo λoz z1 z2 _=>
  dD ⟨oz,z1,z2,st.zh⟩ (dD st.zt (dD ⟨_,p1,dG p2,st.s1.2⟩ (dD ⟨_,q1,dG q2,st.s2.2⟩ AT)))
variable {wr:List Addr}
theorem NH (n:Nat)(h:dn i 4=true):n + i<=n + 4:=fq (ac h) n
theorem Oe {a:Nat}{b:Nat}(ha:n + 4 < a)(h:b<=n + 4):b≠a:=bG (bI h ha)
theorem ZSt.frame {l:Nat}{a:Nat}{t:Tok}(ha:n + 4 < a)(st:ZSt n l a x t ys gB i g s)(y:ExtM W (·=a) g s g' s'):ZSt n l a x t ys gB i g' s':=by
 have keep:∀{b o},b<=n + 4->s.heap.get? b=some o->bD o=false->s'.heap.get? b=some o:=λhb e t=>y.keep _ _ (Oe ha hb) e t
 have n1:=y.new
 apply aA (st.ti);intro o h1 h2
 apply bT (st.s1.1);intro o1 p1 p2 p3
 apply bT (st.s2.1);intro o2 q1 q2 q3
 apply bT (st.zo);intro oz z1 z2 _
 have l0:=NH n (i:=0) rfl;have l1:=NH n (i:=1) rfl;have l4:=NH n (i:=4) rfl
 refine ⟨⟨o,h1.ext y (Oe ha (NH n rfl)),h2⟩,⟨⟨o1,keep l0 p1 (dG p2),p2,p3⟩,n1 _ o1 (Oe ha l0) p1 (dG p2) st.s1.2⟩,⟨⟨o2,keep l1 q1 (dG q2),q2,q3⟩,n1 _ o2 (Oe ha l1) q1 (dG q2) st.s2.2⟩,st.le.trans y.le,y.ok.sub,n1 _ oz (Oe ha l4) z1 z2 st.zh,?_,?_⟩
 .exact st.zt.elim λo3 h3=>⟨o3,h3.ext y (Oe ha (NH n rfl))⟩
 .exact st.zip.imp (λh=>⟨h.1,keep l4 h.2.1 rfl,keep (NH n rfl) h.2.2 rfl⟩) λh=>gn h λT b oT e0 e1 e2 e3 e4=>⟨T,b,oT,e0,keep l4 e1 rfl,y.keep _ _ e4.2.2.2 e2 e3,e3,e4⟩
theorem ZSt.step {l:Nat}{a:Nat}{t:Tok}(hne:n + 4 < a)(kk:Ok W g s)(st:ZSt n l a x t ys gB i g s){hT:Addr}{b':Bool}(f1:h'.get? (n + 4)=some (mA (rawInt hT) (.bool b') (n + 2) (n + 3)))(f2:h'.get? hT=some oT)(f3:bD oT=false/\hT≠n + 4/\hT≠n/\hT≠n + 1/\hT≠a)(f8:∃o,h'.get? (n + 3)=some o/\bD o=false)(f9:h'.IsStrIter n "str_ascii_iterator" x t (i + 1))(f10:h'.IsTupleIter (n + 1) l (i + 1))(f12:∀b o,b≠n + 4->b≠n + 3->b≠n->b≠n + 1->s.heap.get? b=some o->h'.get? b=some o):
  ExtM W (yu n) g s g {s with heap:=h',toks:=s.toks + 1 }/\ZSt n l a x t ys gB (i + 1) g {s with heap:=h',toks:=s.toks + 1 }:=by
 have xm:=(ExtM.of_keep kk (wr:=[n + 4,n + 3,n,n + 1]) (h':=h') (n:=s.toks + 1) st.wr (λb o hb e=>
  have h1:=eh hb;have h2:=eh h1
  f12 b o (eg hb) (eg h1) (eg h2) (eg (eh h2)) e) (aY _)).mono (N:=yu n) (ue n)
 refine ⟨xm,?_,⟨f9,st.s1.2⟩,⟨f10,st.s2.2⟩,st.le,xm.ok.sub,st.zh,?_,.inr ⟨hT,b',oT,iX _,f1,f2,f3⟩⟩
 .exact aA st.ti λo h1 h2=>⟨o,⟨f12 _ _ (pd n (i:=2) (j:=4) (by decide)) (pd n (i:=2) (j:=3) (by decide)) (pd n (i:=2) (j:=0) (by decide)) (pd n (i:=2) (j:=1) (by decide)) h1.get,h1.tab,h1.hid⟩,h2⟩
 .exact st.zt.elim λo3 h3=>aA f8 λo e1 e2=>⟨o,e1,e2,h3.hid⟩
theorem AL {l:Nat}{a:Nat}{t:Tok}(hl:gB.obj l=some (Ft ys m))(hds:RepAll W gB ys.toList ds)(hlen:x.cps.size=ds.length)(h0:0 < ds.length)(hln:l < n)(ha:n + 4 < a):
  PairsIt W (.ref (n + 4)) a (yu n) (nv x) ds (ZSt n l a x t ys gB):=by
 have Dp:ZipApart (n + 4) (n + 2) (n + 3) n (n + 1) l l:=ktu_apart n l l hln hln
 have hys:ys.size=ds.length:=by rw [<-hds.length,aE]
 have hcl:(nv x).length=ds.length:=by unfold nv;rw [ab,aE,hlen]
 refine ⟨λ{i g s g' s'} st kk x=>st.frame ha x,λ{A i g s} hA hi kk st ho Q E hQ=>?_,λ{A g s} hA kk st Q E hQ=>?_,Hh ha⟩
 .apply aA (st.ti);intro oTI hTI eTI
  subst eTI
  rw [hcl] at hi
  have hi':i < x.cps.size:=hlen.symm▸hi
  have hiy:i < ys.size:=hys.symm▸hi
  have hx:x.cps[i]? =some x.cps[i]:=Array.getElem?_eq_getElem hi'
  have hy:ys[i]? =some ys[i]:=Array.getElem?_eq_getElem hiy
  have htu:s.heap.IsTuple l ys:=⟨_,st.ok _ _ (st.le.obj _ _ hl),rfl,m,rfl⟩
  apply aA (hds.getV (i:=i) (v:=ys[i]) (by simp [hiy]));intro d hd rd
  have hk:(nv x)[i]? =some ⟨#[x.cps[i]]⟩:=by unfold nv;simp [hi']
  obtain ⟨oa,hoa⟩:=ho
  have hasz:a < s.heap.objs.size:=aF hoa
  have hszn:(n + 4:Nat) < s.heap.objs.size:=iZ ha hasz
  have fin:∀(h':Heap) (T:Addr) (b':Bool) (oT:Obj),h'.get? (n + 4)=some (mA (rawInt T) (.bool b') (n + 2) (n + 3))->h'.get? T=some oT->(bD oT=false/\T≠n + 4/\T≠n/\T≠n + 1/\T≠a)->(∃o,h'.get? (n + 3)=some o/\bD o=false)->h'.IsStrIter n "str_ascii_iterator" x t (i + 1)->h'.IsTupleIter (n + 1) l (i + 1)->IsPair h' s.heap.objs.size (.str ⟨#[x.cps[i]]⟩ s.toks) ys[i]->
    (∀b o,b≠n + 4->b≠n + 3->b≠n->b≠n + 1->s.heap.get? b=some o->h'.get? b=some o)->Q (some (.ref s.heap.objs.size)) {s with heap:=h',toks:=s.toks + 1 }:=
   λh' T b' oT f1 f2 f3 f8 f9 f10 f11 f12=>have q:=st.step ha kk f1 f2 f3 f8 f9 f10 f12;hQ s.heap.objs.size _ s.toks ys[i] d g _ hk hd ⟨_,f11,rfl,0,rfl⟩ (rd.mono st.le) q.1 q.2
  apply bT (st.zo);intro _ _ _ hTz
  unfold pyNext
  refine aa (Fq (wpAny_callSpecial?_slot (name:=cY "__next__") hTz oV (fK oV hTz F.entry_zip_next ?_ (F.args_zip_next_1 _))))
  refine st.zip.elim (λh=>?_) λh=>gn h λT b oT _ e1 e2 e3 e4=>?_
  .refine Ky Dp h.2.1 hTI.get h.2.2 st.s1.1 st.s2.1 htu hx hy λh' a1 a2 a3 a4 a6 a5=>aj ?_
   have hlt:∀{j:Nat},dn j 4=true->s.heap.objs.size≠n + j:=λhj=>dN (bI (NH n hj) hszn)
   exact fin h' s.heap.objs.size false _ a1 a4 ⟨rfl,hlt rfl,hlt (j:=0) rfl,hlt (j:=1) rfl,dN hasz⟩ ⟨_,a6,rfl⟩ a2 a3 a4 a5
  .refine Kx Dp e1 e2 e4.1 hTI.get st.s1.1 st.s2.1 htu hx hy λh' b' a1 a2 a3 a4 a5=>aj ?_
   exact fin h' T b' oT a1 (a5 _ _ e4.1 e4.2.1 e4.2.2.1 e2) ⟨e3,e4⟩ (st.zt.elim λo3 h3=>⟨o3,a5 _ _ (pd n (i:=3) (j:=4) (by decide)) (pd n (i:=3) (j:=0) (by decide)) (pd n (i:=3) (j:=1) (by decide)) h3.get,h3.tab⟩) a2 a3 a4 λc o c1 _ c3 c4 e=>a5 c o c1 c3 c4 e
 .have hx:x.cps[(nv x).length]? =none:=by rw [hcl,<-hlen];simp
  apply aA (st.ti);intro oTI hTI eTI
  subst eTI
  refine st.zip.elim (λh=>absurd (hcl.symm.trans h.1) (dN h0)) λh=>aV h λT b oT _ e1 h=>?_
  apply bT (st.zo);intro _ _ _ hTz
  unfold pyNext
  refine aa (Fq (wpAny_callSpecial?_slot (name:=cY "__next__") hTz oV (fK oV hTz F.entry_zip_next (Am hA Dp.i1z e1 h.1 hTI.get st.s1.1 hx λh' e hk he=>?_) (F.args_zip_next_1 _))))
  apply aA (he);intro o ho hc
  refine aa (oq (T:="StopIteration") (b:=true) ⟨o,ho,hc⟩ isSubtype_stop ?_)
  have xm:=ExtM.of_keep kk (wr:=[n + 4,n + 3,n,n + 1]) (h':=h') (n:=s.toks) st.wr (λb o hb e=>hk b o (eg hb) (eg (eh (eh hb))) e) (ae _)
  exact aj (hQ g _ (xm.mono (ue n)))
theorem zw {pz:Pos}{e1 e2:Expr}{tx:Str}(hh:A.handled=none)(hfd:aQ W A env ρ (.Name x p) (.ty "dict"))(hfz:aQ W A env ρ (.Name y p') (.ty "zip"))(n1:fN e1=true)(h1:aQ W A env ρ e1 (.kstr tx))(n2:fN e2=true)(h2:aQ W A env ρ e2 (.tup ds))(ha:tx.cps.all (· < 128)=true)(hl:tx.cps.size=ds.length)(h0:0 < ds.length)(hsz:ds.length < 1000)(hnd:(nv tx).Nodup):aQ W A env ρ (.Call (.Name x p) [.Call (.Name y p') [e1,e2] [] pz] [] pos) (.sdict (nv tx) ds):=λg s F k Q E hQ=>by
 have hcl:(nv tx).length=ds.length:=by unfold nv;rw [ab,aE,hl]
 refine lI (hfd g s F k _ _ λv g1 s1 x1 r1=>?_)
 obtain rfl:=r1.inv
 refine Ah (P:=λh'=>True) (by rw [ct (aJ rfl)];rfl) (λh' _=>⟨.machine,.inr (.inl rfl),.now⟩) ?_
 rw [ct (aJ rfl)]
 refine evalArgs_kw rfl (ci ?_)
 show wpAny _ _ (if false=true then _ else eval _ env) _ _ _
 refine dF hfz (.cons (aJ n1) h1 (.cons (aJ n2) h2 .nil)) .nil (fF _) (F.ext x1) x1.ok λg2 s2 vf vs kvs x2 rf rs hkv _=>?_
 apply rs.elim2;intro v1 v2 rv1 rv2
 apply jQ hkv
 obtain rfl:=rf.inv
 apply aA (rv1.inv);intro _ hq0 htok;subst hq0
 rename_i t
 apply aV (rv2.inv_tup);intro l ys m hq0 hg hds;subst hq0
 have hs:=x2.ok.sub _ _ hg
 refine AQ ha hs λh' a1 a2 a3 a4 a5 a6=>?_
 have x3:=Ext.kept x2.ok a6 (ae _)
 refine eV (mK ⟨trivial,?_⟩)
 have hlt:=aF hs
 have fr:∀{b:Addr},s2.heap.objs.size<=b->g2.obj b=none:=λhb=>x2.ok.fresh hb
 have hz4:s2.heap.objs.size + 4 < h'.objs.size:=aF a1
 have tz:∀{b:Nat},yu s2.heap.objs.size b->∀o,s.heap.get? b=some o->bD o=true:=λhb=>(x1.trans x2).before (bf hb.1)
 refine xU (s:={s2 with heap:=h' }) (src:=.ref (s2.heap.objs.size + 4)) (T:="zip") (ks:=nv tx) (ds:=ds) (F0:=λb=>∀o,s.heap.get? b=some o->bD o=true) hh x3.ok hcl hnd (by rw [hcl];exact hsz) (λh'' tk hk=>⟨_,hk _ _ a1,rfl⟩) (by decide) (λA' h₁ tk Q E hA hk q=>?_) (λb hb=>(x1.trans (x2.trans x3)).before (bf hb)) (λA' g₁ s₁ Q E hA xx hD q=>?_) λg' s' x4 r=>hQ _ g' s' (((x1.trans (x2.trans x3)).toM.trans x4).toExt λb o hb e=>hb o e) r
 .exact FI (s:={s2 with heap:=h₁,toks:=tk }) (hk _ _ a1) hA λh'' tk' hk'=>q h'' tk' hk'
 .have e1:=xx.keep _ _ a1 rfl
  refine yv e1 (q _ (yu s2.heap.objs.size) (ZSt s2.heap.objs.size l h'.objs.size tx t ys g₁) g₁ s₁ (Ext.refl xx.ok) (AL (xx.le.obj _ _ hg) (hds.mono xx.le) hl h0 hlt hz4) ?_ λb hb=>tz hb)
  have keepH:∀{b o},h'.get? b=some o->bD o=false->g2.obj b=none->Hid g₁ s₁ b o:=λe t hn=>⟨xx.keep _ _ e t,t,xx.new _ _ e t hn⟩
  apply bT (a4);intro o1 p1 p2 p3
  apply bT (a5);intro o2 q1 q2 q3
  have k1:=keepH p1 (dG p2) (fr (ae _))
  have k2:=keepH q1 (dG q2) (fr (aY _))
  have k3:=keepH a2 rfl (fr (b9 _ 2))
  have k4:=keepH a3 rfl (fr (b9 _ 3))
  have k5:=keepH a1 rfl (fr (b9 _ 4))
  exact ⟨⟨_,k3,rfl⟩,⟨⟨o1,k1.get,p2,p3⟩,k1.hid⟩,⟨⟨o2,k2.get,q2,q3⟩,k2.hid⟩,Le.refl _,xx.ok.sub,k5.hid,⟨_,k4⟩,.inl ⟨rfl,k5.get,k4.get⟩⟩
theorem Do {l:Expr}{xs ys:List D}(h1:jC W A env ρ l (.tup xs) P1)(h2:jC W A env ρ r (.tup ys) P2):jC W A env ρ (.BinOp l .Add r p) (.tup (xs++ys)) (P1++(P2++[xs.length + ys.length<=sizeLine])):=λh g s F k Q E hQ=>
 rK (h1 h.l g s F k _ _ λ_ g1 s1 x1 r1=>h2 h.r.l g1 s1 (F.ext x1) x1.ok _ _ λ_ g2 s2 x2 r2=>by
  have r1':=r1.mono x2.le
  apply aV (r1.inv_tup);intro a _ _ hq0 _ _;subst hq0
  apply aV (r2.inv_tup);intro b _ _ hq0 _ _;subst hq0
  exact w0 x2.ok r1' r2 h.r.r.1 _ _ λv g3 s3 x3 r3=>hQ v g3 s3 (x1.trans (x2.trans x3)) r3)
noncomputable def eP (sc scope:Scope):Scope:={scope with names:=scope.names.map λ(n,k)=>if (k==cb&&sc.kind==.function&&sc.names.lookup n==some .cell) then (n,eR) else (n,k) }
theorem eo (hs:env.scope=sc):(compEnvC scope cl C env).scope=eP sc scope:=by subst hs;rfl
noncomputable def gD (sc scope:Scope):Bool:=
 scope.kind==.function&&scope.names.all λp=>p.2 !=.cell&&(p.2 !=.local||scope.names.lookup p.1==some .local)&&
  (p.2 !=.free||(scope.names.lookup p.1==some .free&&(sc.names.lookup p.1==some .cell||sc.names.lookup p.1==some .free)&&p.1 !=("__classdict__":Str)))
theorem i8 (hs:env.scope=sc)(h:gD sc scope=true):ko env scope=true:=by subst hs;exact h
noncomputable def jU (sc:Scope)(t:Expr):Bool:=(ia t).all λx=>sc.names.lookup x==some .local
theorem mR {x:Str}:∀{names:List (Str×NameKind)},names.lookup x=some .local->(names.map λ(n,k)=>if (k==cb&&sc.kind==.function&&sc.names.lookup n==some .cell) then (n,eR) else (n,k)).lookup x=some .local
 | [],h=>(aK h).elim
 | (n,k) :: r,h=>by
  rw [aT] at h
  have hn:∀b:Bool,(if b=true then (n,eR) else (n,k)).1=n:=λb=>by cases b<;>rfl
  rw [aD,aT,hn]
  by_cases hx:x==n
  .simp only [hx] at h ⊢
   (refine eQ h ?_;clear h;intro q₁;subst q₁)
   rfl
  .simp only [hx] at h ⊢
   exact mR h
theorem jF (hs:env.scope=sc)(h:jU scope t=true):gN (compEnvC scope cl C env) (.under scope ρ) t:=λx hx=>by
 have q:scope.names.lookup x=some .local:=by simpa using ft.mp h x hx
 refine ⟨?_,?_⟩
 .unfold bj
  rw [eo hs]
  exact mR q
 .show (if scope.names.lookup x==some .free then look ρ x else none)=none
  rw [q];rfl
theorem nV:∀l:List D,(l.map λo=>[o]).flatten=l
 | []=>rfl
 | o :: r=>by rw [aD,lA,nV r];rfl
theorem jY {i:Expr}(hh:A.handled=none)(hs:env.scope=sc)(hok:gD sc scope=true)(hns:dR i=true)(hft:jU scope t=true)(hi:dS W A env ρ t i ds)(hz:outs.length<=sizeLine)(hl:outs.length=ds.length)(h:∀env',env'.scope=eP sc scope->∀(k:Nat) (d o:D),ds[k]? =some d->outs[k]? =some o->∃ρ',Ce t d (.under scope ρ)=some ρ'/\aQ W A env' ρ' elt o):aQ W A env ρ (.ListComp elt [⟨t,i,[],0⟩] scope pos) (.list outs):=by
 have hf:=nV outs
 refine oO (os:=outs.map λo=>[o]) hh (i8 hs hok) hns (λc hc=>by cases hc) hi (λcl C=>⟨jF hs hft,by simpa using hl,λk d o e1 e2=>?_⟩) (by rw [hf];exact hz) hf.symm
 rw [List.getElem?_map,bq] at e2
 obtain ⟨o',e2,rfl⟩:=e2
 obtain ⟨ρ',h1,h2⟩:=h _ (eo hs) k d o' e1 e2
 exact ⟨ρ',true,h1,rfl,λ_=>⟨o',h2,rfl⟩,λq=>(ag q.symm).elim⟩
theorem qy {i c:Expr}(hh:A.handled=none)(hs:env.scope=sc)(hok:gD sc scope=true)(hns:dR i=true)(hft:jU scope t=true)(hi:dS W A env ρ t i ds)(hz:outs.length<=sizeLine)(hl:os.length=ds.length)(ho:outs=os.flatten)(h:∀env',env'.scope=eP sc scope->∀(k:Nat) (d:D) (o:List D),ds[k]? =some d->os[k]? =some o->∃ρ' b,Ce t d (.under scope ρ)=some ρ'/\gv W A env' ρ' c b/\(b=true->∃d',aQ W A env' ρ' elt d'/\o=[d'])/\(b=false->o=[])):aQ W A env ρ (.ListComp elt [⟨t,i,[c],0⟩] scope pos) (.list outs):=by
 refine oO (os:=os) hh (i8 hs hok) hns (λc hc=>by cases hc) hi (λcl C=>⟨jF hs hft,hl,λk d o e1 e2=>?_⟩) (by rw [<-ho];exact hz) ho
 apply ik (h _ (eo hs) k d o e1 e2);intro ρ' b h1 h2 h3 h4
 exact ⟨ρ',b,h1,⟨b,h2,by cases b<;>rfl⟩,h3,h4⟩
structure EvS (W:Wd)(A:Around)(env:Env)(ρ:Rho)(e:Expr)(d:D)(P:List Prop):Prop where
 of:jC W A env ρ e d P
structure TrS (W:Wd)(A:Around)(env:Env)(ρ:Rho)(e:Expr)(b:Bool)(P:List Prop):Prop where
 of:LK W A env ρ e b P
structure EvAllS (W:Wd)(A:Around)(env:Env)(ρ:Rho)(es:List Expr)(ds:List D)(P:List Prop):Prop where
 of:nJ W A env ρ es ds P
structure EvKwsS (W:Wd)(A:Around)(env:Env)(ρ:Rho)(es:List Keyword)(ds:List (Str×D))(P:List Prop):Prop where
 of:wu W A env ρ es ds P
structure PartS (W:Wd)(A:Around)(env:Env)(ρ:Rho)(e:Option Expr)(i:Option Int)(P:List Prop):Prop where
 of:yk W A env ρ e i P
structure CallS (W:Wd)(A:Around)(f:D)(ds:List D)(kws:List (Str×D))(d:D):Prop where
 of:bz W A f ds kws d
structure KeepS (W:Wd)(f:D):Prop where
 of:cJ W f
theorem ku (h:EvS W A env ρ e d P)(hP:AllP P):aQ W A env ρ e d:=h.of hP
theorem km {c:Bool}(h:TrS W A env ρ e c P)(hP:AllP P):gv W A env ρ e c:=h.of hP
theorem vA (h:EvAllS W A env ρ es ds P)(hP:AllP P):EvAll W A env ρ es ds:=h.of hP
theorem IK (h:aQ W A env ρ e d):EvS W A env ρ e d []:=⟨NV h⟩
theorem Dm (h:EvS W A env ρ e d' P)(hd:d'=d):EvS W A env ρ e d P:=hd▸h
theorem Go {k:Const}(e:zM k=some (d,P)):EvS W A env ρ (.Constant k n p) d []:=⟨hH e⟩
theorem IL {gl:Str->Option D}(hs:env.scope=sc)(G:kS W gl)(e:oK sc gl ρ x=some d):EvS W A env ρ (.Name x p) d []:=⟨bg hs G e⟩
theorem zy {l:Expr}{a:D}{c:D}{op:Operator}(h1:EvS W A env ρ l a P1)(h2:EvS W A env ρ r c P2)(e:GP op a c=some (d,P3)):EvS W A env ρ (.BinOp l op r p) d (P1++(P2++P3)):=⟨zC h1.of h2.of e⟩
theorem Dn {l:Expr}{xs ys:List D}(h1:EvS W A env ρ l (.tup xs) P1)(h2:EvS W A env ρ r (.tup ys) P2):EvS W A env ρ (.BinOp l .Add r p) (.tup (xs++ys)) (P1++(P2++[xs.length + ys.length<=sizeLine])):=⟨Do h1.of h2.of⟩
theorem Eg {l:Expr}{a:D}{c:D}{op:CmpOp}{b:Bool}(hu:A.units + 100 < cLine)(h1:EvS W A env ρ l a P1)(h2:EvS W A env ρ r c P2)(e:ll op a c=some (b,P3))(hm:behindInMarks op r=false):TrS W A env ρ (.Compare l [op] [r] p) b (P1++(P2++P3)):=⟨gJ hu h1.of h2.of e hm⟩
theorem KF {b:Bool}(hp:nP e=true)(h1:EvS W A env ρ e d P1)(ht:o0 d=some (b,P2)):TrS W A env ρ e b (P1++P2):=⟨yC hp h1.of ht⟩
theorem Bl {b:Expr}{o:Expr}(h1:TrS W A env ρ t true P1)(h2:EvS W A env ρ b d P2):EvS W A env ρ (.IfExp t b o p) d (P1++P2):=⟨sV h1.of h2.of⟩
theorem zx {b:Expr}{o:Expr}(h1:TrS W A env ρ t false P1)(h2:EvS W A env ρ o d P2):EvS W A env ρ (.IfExp t b o p) d (P1++P2):=⟨qG h1.of h2.of⟩
theorem iS:EvAllS W A env ρ [] [] []:=⟨bo⟩
theorem dX (hn:fN e=true)(h1:EvS W A env ρ e d P1)(h2:EvAllS W A env ρ es ds P2):EvAllS W A env ρ (e :: es) (d :: ds) (P1++P2):=⟨av hn h1.of h2.of⟩
theorem vy:EvKwsS W A env ρ [] [] []:=⟨cf⟩
theorem Bm {n:Str}{ks:List Keyword}(h1:EvS W A env ρ e d P1)(h2:EvKwsS W A env ρ ks kd P2):EvKwsS W A env ρ (⟨some n,e,q⟩ :: ks) ((n,d) :: kd) (P1++P2):=⟨nh h1.of h2.of⟩
theorem so (h1:EvAllS W A env ρ es ds P1)(hz:dn ds.length 1000=true):EvS W A env ρ (.Tuple es n p) (.tup ds) P1:=⟨Gp h1.of hz⟩
theorem gm {l:Expr}{a:D}{c:D}{i:Expr}(h1:EvS W A env ρ l a P1)(h2:EvS W A env ρ i c P2)(e:lO a c=some (d,P3)):EvS W A env ρ (.Subscript l i p) d (P1++(P2++P3)):=⟨l9 h1.of h2.of e⟩
theorem uJ:PartS W A env ρ none none []:=⟨CT⟩
theorem CR {i:Int}(h1:EvS W A env ρ e (.int i) P1):PartS W A env ρ (some e) (some i) P1:=⟨CS h1.of⟩
theorem Gn {l:Expr}{lo hi:Option Expr}{x y z:Option Int}{P4:List Prop}(h0:EvS W A env ρ l (.list ds) P1)(h1:PartS W A env ρ lo x P2)(h2:PartS W A env ρ hi y P3)(h3:PartS W A env ρ st z P4)(hz:tY z=true):
  EvS W A env ρ (.Subscript l (.Slice lo hi st q) p) (.list (d9 ds x y z)) (P1++(P2++(P3++(P4++[ds.length<=sizeLine])))):=⟨Gq h0.of h1.of h2.of h3.of hz⟩
theorem NU {ks:List Keyword}(hf:EvS W A env ρ (.Name x q) f P1)(h1:EvAllS W A env ρ es ds P2)(h2:EvKwsS W A env ρ ks kd P3)(hk:KeepS W f)(hc:CallS W A f ds kd d):EvS W A env ρ (.Call (.Name x q) es ks p) d (P1++(P2++P3)):=
 ⟨λh=>nW (hf.of h.l) (h1.of h.r.l) (h2.of h.r.r) hk.of hc.of⟩
noncomputable def dC (k:Nat):List D:=(aC k).map λp=>.tup [.kstr ⟨#[p.1]⟩,.kstr (dr p.2)]
theorem xL:FnK 139 21 "_law_names" .none .none jf 138:=⟨λP=>by kernel_rfl,λP=>by kernel_rfl⟩
theorem DK (P:Params)(a:Value):∀S,peek (Kf P) S (bindArgs (kT 21 "_law_names" .none .none jf 138) ⟨[a],[]⟩)=some ((["kind"]:List Str).zip [a]):=λS=>by kernel_rfl
inductive Rows {α β:Type}(P:α->β->Prop):List α->List β->Prop
 | nil:Rows P [] []
 | cons {d o xs ys:_}:P d o->Rows P xs ys->Rows P (d :: xs) (o :: ys)
theorem Rows.length {P:α->β->Prop}{xs:List α}{ys:List β}(h:Rows P xs ys):ys.length=xs.length:=by
 induction h with
 | nil=>rfl
 | cons _ _ ih=>rw [aM,aM,ih]
theorem Rows.get {P:α->β->Prop}{xs:List α}{ys:List β}(h:Rows P xs ys):∀(k:Nat) (d:α) (o:β),xs[k]? =some d->ys[k]? =some o->P d o:=by
 induction h with
 | nil=>intro k d o e;simp at e
 | cons h1 _ ih=>
  intro k d o e1 e2
  cases k with
  | zero=>simp at e1 e2;subst e1 e2;exact h1
  | succ k=>exact ih k d o (by simpa using e1) (by simpa using e2)
theorem Rows.map {α β γ:Type}{P:α->β->Prop}{f:γ->α}{g:γ->β}:∀{l:List γ},(∀c∈l,P (f c) (g c))->Rows P (l.map f) (l.map g)
 | [],_=>.nil
 | c :: l,h=>.cons (h c (.head _)) (Rows.map λd hd=>h d (.tail _ hd))
noncomputable abbrev Ov (W:Wd)(A:Around)(k:Int)(j:Nat):Prop:=bz W A (.ref 139) [.int k] [] (.list (dC j))
theorem j7 (G:Good W)(Rm:Room A 2):Ov W A 0 0/\Ov W A 1 1/\Ov W A 2 2/\Ov W A 3 3/\Ov W A 4 4:=by
 refine ⟨?_,?_,?_,?_,?_⟩<;>(
  refine kC xL G (FK DK) Rm λenv hs hh hu Gl Rd e2 e3=>?_
  conv at hs=>rhs;whnf
  have C:=Cx.mk hs ‹_› ‹_› ‹_›
  conv in aH 21=>whnf
  refine bW (EvS.of (by exact ⟨ak⟩)) ‹_› rfl rfl ?_ ?_;exact ⟨by decide,by decide,trivial⟩
  refine bW (EvS.of (by first | (apply zx;exact ⟨dg⟩;exact ⟨ak⟩) | (apply Bl;exact ⟨dg⟩;exact ⟨ak⟩))) hs rfl rfl (by exact trivial) ?_
  refine iV (zw hh (by exact ky) (by exact ky) rfl (by exact ky) rfl (ku (by (apply Dn;exact ⟨ak⟩;exact ⟨ak⟩)) (by exact ⟨by decide,trivial⟩)) (by kernel_rfl) rfl (by decide) (by decide) (of_decide_eq_true (by kernel_rfl))) (el hs rfl) (gX rfl) ?_
  refine z5 (jY hh hs rfl rfl rfl (lY hh (by exact ky) rfl) (by decide) (by rfl) λenv' hs'=>Rows.get ?_) ⟨rfl,rfl⟩
  conv at hs'=>rhs;whnf
  have C:=Cx.mk hs' ‹_› ‹_› ‹_›
  repeat' first | exact Rows.nil | refine Rows.cons ⟨_,rfl,?_⟩ ?_
  all_goals exact ky)
noncomputable def Ey (p:Nat×Tx):D:=.tup [.kstr ⟨#[p.1]⟩,.kstr (dr p.2)]
noncomputable def uF (T:iA):iA:=T.drop 1++T.take 1
noncomputable def jo:iA->Bool
 | []=>true
 | (c,nm) :: r=>!nm.isEmpty&&(dn nm.length 6&&(LM ((c,nm) :: r)&&((((c,nm) :: r).lookup 38).isSome&&((r.lookup c).isNone&&(dr nm !=⟨#[c]⟩&&jo r)))))
theorem CN:∀k,jo (uF (aC k))=true
 | 0=>by decide
 | 1=>by decide
 | 2=>by decide
 | 3=>by decide
 | _ + 4=>by show jo (uF (aC 4))=true;decide
theorem sP:∀{T:iA} (i:Nat),jo T=true->jo (T.drop i)=true
 | T,0,h=>h
 | [],i + 1,h=>rfl
 | (c,nm) :: r,i + 1,h=>by
  unfold jo at h
  simp only [ao] at h
  exact sP i h.2.2.2.2.2.2
theorem xP {T T':iA}(h:∀d,T.lookup d=T'.lookup d):∀x,esc T x=esc T' x
 | []=>rfl
 | d :: x=>by rw [fC,fC,xP h x];unfold er;rw [h d]
theorem AZ (k:Nat):∀d,(aC k).lookup d=(uF (aC k)).lookup d:=by
 have key:∀(a:Nat×Tx) (r:iA),(r.all λp=>p.1 !=a.1)=true->∀d,(a :: r).lookup d=(r++[a]).lookup d:=λa r h d=>by
  have hap:∀(r s:iA),(r++s).lookup d=((r.lookup d).or (s.lookup d)):=λr s=>by
   induction r with
   | nil=>rfl
   | cons p r ih=>obtain ⟨c,w⟩:=p;simp only [b8,aT];split<;>simp [ih]
  rw [hap]
  obtain ⟨c,w⟩:=a
  simp only [aT]
  by_cases hd:d==c
  .have hr:r.lookup d=none:=by
    cases hl:r.lookup d with
    | none=>rfl
    | some w'=>
     have:=ft.mp h _ (yX hl)
     simp only [beq_iff_eq] at hd
     simp [hd] at this
   rw [hr];simp [hd]
  .simp [hd]
 match k with
 | 0=>exact key _ _ (by decide)
 | 1=>exact key _ _ (by decide)
 | 2=>exact key _ _ (by decide)
 | 3=>exact key _ _ (by decide)
 | _ + 4=>exact key _ _ (by decide)
theorem FG {T:iA}{c:Nat}{nm:Tx}(h:jo ((c,nm) :: T)=true)(x:Tx):lC (dr (esc ((c,nm) :: T) x)) (dr nm) ⟨#[c]⟩=dr (esc T x):=by
 unfold jo at h
 simp only [ao,dm,List.isEmpty_eq_false_iff,Option.isNone_iff_eq_none] at h
 have h1:=h.1;have h2:=h.2.1;have h3:=h.2.2.1;have h4:=h.2.2.2.1;have h5:=h.2.2.2.2.1;have h6:=h.2.2.2.2.2.1;have h7:=h.2.2.2.2.2.2
 apply yD
 have hy:fc (dr nm)≠[]:=by rw [lM];exact h1
 have key:∀(y:Tx) (hy:y≠[]) (z l:Tx),y=nm->rep y hy z l=rep nm h1 z l:=λy hy z l e=>by subst e;rfl
 rw [uB hy,key _ _ _ _ (lM nm)]
 have:=AH (T':=T) (c:=c) h1 h3 (by rw [aT];simp) h4 (λd=>by
  by_cases hd:d=c
  .subst hd;rw [if_pos rfl];exact h5
  .have hb:(d==c)=false:=beq_eq_false_iff_ne.mpr hd
   rw [if_neg hd]
   show T.lookup d=(match d==c with | true=>some nm | false=>T.lookup d)
   rw [hb]) x
 simp only [lM]
 exact this
theorem qc:∀{T:iA},jo T=true->(T.all λp=>dn p.2.length 6)=true
 | [],_=>rfl
 | (c,nm) :: r,h=>by
  unfold jo at h
  simp only [ao] at h
  rw [lG,ao]
  exact ⟨h.2.1,qc h.2.2.2.2.2.2⟩
theorem FL (k:Nat):d9 (dC k) (some 1) none none++d9 (dC k) none (some 1) none=(uF (aC k)).map Ey:=by
 match k with
 | 0=>rfl
 | 1=>rfl
 | 2=>rfl
 | 3=>rfl
 | _ + 4=>show d9 (dC 4) (some 1) none none++d9 (dC 4) none (some 1) none=(uF (aC 4)).map Ey;rfl
theorem wK (k:Nat):(dC k).length<=7:=by
 match k with
 | 0=>decide
 | 1=>decide
 | 2=>decide
 | 3=>decide
 | _ + 4=>show (dC 4).length<=7;decide
theorem vm:FnK 146 22 "_law_read" .none .none jf 145:=⟨λP=>by kernel_rfl,λP=>by kernel_rfl⟩
theorem GL (P:Params)(a b:Value):∀S,peek (Kf P) S (bindArgs (kT 22 "_law_read" .none .none jf 145) ⟨[a,b],[]⟩)=some ((["text","names"]:List Str).zip [a,b]):=λS=>by kernel_rfl
theorem sX (G:Good W)(Rm:Room A 2){x:Tx}(hx:x.length<=100000):bz W A (.ref 146) [.str (dr (esc (aC k) x)),.list (dC k)] [] (.str (dr x)):=
 kC vm G (HS GL) Rm λenv hs hh hu Gl Rd e2 e3=>by
  conv at hs=>rhs;whnf
  have C:=Cx.mk hs ‹_› ‹_› ‹_›
  conv in aH 22=>whnf
  obtain ⟨T,hT⟩:∃T,T=uF (aC k):=⟨_,rfl⟩
  have hok:jo T=true:=hT▸CN k
  have hnl:=wK k
  have hsz:(dC k).length<=sizeLine:=ai hnl (by decide)
  rw [xP (AZ k),<-hT]
  refine gL (ds:=T.map Ey) (λi=>.bind "text" (.str (dr (esc (T.drop i) x))) (.bind "names" (.list (dC k)) .nil)) (λ_=>[]) hh rfl (gF (cC hh ?_)) (SubR.le ⟨rfl,rfl,trivial⟩ rfl) rfl (λ_ _=>rfl) (λi d hd=>?_) ?_
  .have:=FL k
   rw [<-hT] at this
   rw [<-this]
   have h7:(aC k).length<=7:=by have:=hnl;unfold dC at this;rwa [ab] at this
   have h3:(d9 (dC k) (some 1) none none).length + (d9 (dC k) none (some 1) none).length<=sizeLine:=by
    rw [show (d9 (dC k) (some 1) none none).length + (d9 (dC k) none (some 1) none).length=(T.map Ey).length by rw [<-this,az],ab,hT]
    unfold uF
    rw [az,cU,cT]
    show _<=16777216
    exact (qA Y1 Y0 J1 (qE Y2 J1 Y0 (qN (.l (.a Y1 Y2) (.k 16777216)) [1,0,1,0,1])):dL [.l Y0 (.k 7)]) h7
   exact ky ‹_› rfl (by exact ⟨hsz,hsz,h3,trivial⟩)
  .rw [List.getElem?_map,bq] at hd
   apply aA (hd);intro hn0 hc hq1;obtain ⟨c,nm⟩:=hn0;subst hq1
   obtain ⟨hi,hc'⟩:=List.getElem?_eq_some_iff.mp hc
   have e:T.drop i=(c,nm) :: T.drop (i + 1):=by rw [<-hc'];exact Aa hi
   have hok':=sP i hok
   have hlen:=pq (qc hok') x
   rw [e] at hok' hlen
   refine ⟨dP hs rfl,_,rfl,?_⟩
   rw [e]
   refine cH (d:=.str (dr (esc (T.drop (i + 1)) x))) (EvS.of (⟨ak⟩)) hs rfl rfl (congrArg D.str (FG hok' x)) ?_ ?_
   .have hh':=hok'
    unfold jo at hh'
    simp only [ao,bne_iff_ne,ne_eq] at hh'
    refine ⟨beq_eq_false_iff_ne.mpr hh'.2.2.2.2.2.1,?_,trivial⟩
    have h1:(dr (esc ((c,nm) :: T.drop (i + 1)) x)).length=(esc ((c,nm) :: T.drop (i + 1)) x).length:=by rw [fO,lM]
    rw [h1]
    have h2:(({cps:=#[(c,nm).fst] }:Str)).length=1:=rfl
    rw [h2]
    exact (qN (.l (.a Y1 (.w (.a Y1 J1) 1)) (.k 16777216)) [12,2]:cz [.l Y0 (.k 100000),.l Y1 (.m 6 Y0)]) hx hlen
   .exact db ⟨rfl,SubR.le ⟨rfl,rfl,trivial⟩ rfl⟩
  .rw [ab]
   have e0:T.drop T.length=[]:=List.drop_length
   rw [e0,nY]
   exact ji (EvS.of (by exact ⟨ak⟩)) (by exact trivial) ⟨rfl,rfl⟩
inductive Tr
 | leaf (k:Nat)
 | node (l r:Tr)
noncomputable def o5:Nat->Nat->Nat->List Tr
 | 0,_,_=>[]
 | f + 1,size,low=>if size=1 then [.leaf low] else (aZ (size - 1)).flatMap λj=>(o5 f (j + 1) low).flatMap λa=>(o5 f (size - 1 - j) (low + 1 + j)).map λb=>.node a b
noncomputable def bS (size low:Nat):List Tr:=o5 5 size low
theorem l7 {α β:Type}{f g:α->List β}:∀{l:List α},(∀a∈l,f a=g a)->l.flatMap f=l.flatMap g
 | [],_=>rfl
 | a :: l,h=>by rw [lB,lB,h a (.head _),l7 λb hb=>h b (.tail _ hb)]
theorem mO:∀(f size low:Nat),1<=size->size<=f->o5 (f + 1) size low=o5 f size low
 | 0,size,low,h1,h2=>((qF [1,1]:di [.l J1 Y0,.l Y0 J0]) h1 h2).elim
 | f + 1,size,low,h1,h2=>by
  show (if size=1 then _ else _)=(if size=1 then _ else _)
  by_cases h:size=1
  .rw [if_pos h,if_pos h]
  .rw [if_neg h,if_neg h]
   refine l7 λj hj=>?_
   have hj:=List.mem_range.mp hj
   rw [mO f (j + 1) low (vL) (MT h2 hj),mO f (size - 1 - j) (low + 1 + j) (BB hj) ((qB Y3 Y0 J1 (qA Y2 Y3 Y4 (qN (.l Y2 Y1) [1,0,0,1,0,1])) (qA Y2 Y3 Y4 (qN (.l Y2 Y1) [1,0,0,1])):qT [_,_,_,size - 1,j] [] [.l Y0 (.a Y1 J1)] _) h2)]
theorem Au (low size:Nat)(h1:1<=size)(h2:size<=4):o5 4 size low=bS size low:=(mO 4 size low h1 h2).symm
noncomputable def js (size low m:Nat):List Tr:=(aZ m).flatMap λj=>(bS (j + 1) low).flatMap λa=>(bS (size - 1 - j) (low + 1 + j)).map λb=>.node a b
theorem iP (size low m:Nat):js size low (m + 1)=js size low m++(bS (m + 1) low).flatMap λa=>(bS (size - 1 - m) (low + 1 + m)).map λb=>.node a b:=by
 unfold js
 rw [nC,kb]
 simp
theorem kW (low:Nat):bS 1 low=[.leaf low]:=rfl
theorem jI (size low:Nat)(h1:2<=size)(h2:size<=5):bS size low=js size low (size - 1):=by
 unfold bS js o5
 rw [if_neg (λzz=>(qF [1,1]:di [.l J2 Y0,.e Y0 J1]) h1 zz)]
 refine l7 λj hj=>?_
 have hj:=List.mem_range.mp hj
 rw [Au _ (j + 1) (vL) ((qB Y2 Y0 J1 (qN (aR Y1 J4) [0,1,0,1,1]) (qN (aR Y1 J4) [0,1,0,0,1]):dL [.l Y0 J5,aR Y1 Y2]) h2 hj),Au _ (size - 1 - j) (BB hj) ((qB Y2 Y0 J1 (qA Y1 Y2 Y3 (qN (.l Y1 J4) [1,0,0,1,0,1])) (qA Y1 Y2 Y3 (qN (.l Y1 J4) [1,0,0,1])):qT [_,_,size - 1,j] [] [.l Y0 J5] _) h2)]
theorem gZ {α β:Type}{f:α->List β}{b:Nat}:∀{l:List α},(∀a∈l,(f a).length<=b)->(l.flatMap f).length<=l.length * b
 | [],_=>by simp
 | a :: l,h=>by
  rw [lB,az,aM,GW,GU,nB]
  exact z9 (gZ λb hb=>h b (.tail _ hb)) (h a (.head _))
theorem yY (low:Nat):(bS 2 low).length=1:=by rw [jI 2 low (by decide) (by decide)];rfl
theorem xF (low:Nat):(bS 3 low).length=2:=by
 rw [jI 3 low (by decide) (by decide),iP,iP]
 simp [js,G1,List.map_const',yY,kW]
theorem Ih (low:Nat):(bS 4 low).length=5:=by
 rw [jI 4 low (by decide) (by decide),iP,iP,iP]
 simp [js,G1,List.map_const',yY,xF,kW]
theorem nK (low:Nat):∀size,1<=size->size<=4->(bS size low).length<=5:=by
 intro size h1 h2
 cases size with
 | zero=>exact absurd h1 (by decide)
 | succ n=>cases n with
  | zero=>rw [kW];exact ac rfl
  | succ n=>cases n with
   | zero=>exact ai (dw (yY low)) (by decide)
   | succ n=>cases n with
    | zero=>exact ai (dw (xF low)) (by decide)
    | succ n=>cases n with
     | zero=>exact dw (Ih low)
     | succ n=>exact absurd (i0 (i0 (i0 (i0 h2)))) (Nat.not_succ_le_zero n)
theorem FU (size low m:Nat)(h1:m + 1<=size)(h2:size<=5):(js size low m).length<=m * 25:=by
 have:=gZ (l:=aZ m) (b:=25) (f:=λj=>(bS (j + 1) low).flatMap λa=>(bS (size - 1 - j) (low + 1 + j)).map λb=>Tr.node a b) λj hj=>by
  have hj:=List.mem_range.mp hj
  have e1:=nK low (j + 1) (vL) ((qN (aR Y2 J4) [1,1,1]:dL [aR Y0 Y1,.l Y1 J5,aR Y2 Y0]) h1 h2 hj)
  have e2:=nK (low + 1 + j) (size - 1 - j) ((qA Y4 Y1 J1 (qA Y3 Y4 Y2 (qN (.l J1 Y3) [0,1,0,1,1,1])):qT [_,_,_,_,size - 1] [] [aR Y0 Y1,aR Y2 Y0] _) h1 hj) ((qB Y2 Y0 J1 (qA Y1 Y2 Y3 (qN (.l Y1 J4) [1,0,0,1,0,1])) (qA Y1 Y2 Y3 (qN (.l Y1 J4) [1,0,0,1])):qT [_,_,size - 1,j] [] [.l Y0 J5] _) h2)
  have:=gZ (l:=bS (j + 1) low) (b:=5) (f:=λa=>(bS (size - 1 - j) (low + 1 + j)).map λb=>Tr.node a b) λa _=>by rw [ab];exact e2
  exact JG e1 this
 rw [ce] at this
 exact this
section
variable (T:iA)(mk:Nat)(ts:List Tx)
noncomputable def raw:Tr->Tx
 | .leaf k=>ts.getD k []
 | .node l r=>esc T (raw l)++[mk]++esc T (raw r)
end
noncomputable def ib:Tr->List Int
 | .leaf _=>[0]
 | .node l r=>(ib l++ib r).map (· + 1)
noncomputable def eF:Tr->Nat
 | .leaf _=>1
 | .node l r=>eF l + eF r
noncomputable def ek:Tr->Nat
 | .leaf _=>0
 | .node l r=>max (ek l) (ek r) + 1
theorem gQ:∀t:Tr,(ib t).length=eF t
 | .leaf _=>rfl
 | .node l r=>by simp [ib,eF,gQ l,gQ r]
noncomputable def oX (k:Nat):List (Nat×Nat):=(aZ k).flatMap λs=>(aZ (5 - s)).map λlow=>(low,s + 1)
noncomputable def tU (k l:Nat):List (Nat×Nat):=oX k++(aZ l).map λlow=>(low,k + 1)
theorem Hs (k:Nat):tU k 0=oX k:=by simp [tU]
theorem Hu (k:Nat):tU k (5 - k)=oX (k + 1):=by
 unfold tU oX
 rw [nC,kb]
 simp
theorem Ht (k l:Nat):tU k (l + 1)=tU k l++[(l,k + 1)]:=by
 unfold tU
 rw [nC,bU,<-dI]
 rfl
variable {low:Nat}
theorem C5 {s:Nat}:(low,s)∈oX k<->1<=s/\s<=k/\low + s<=5:=by
 unfold oX
 simp only [List.mem_flatMap,List.mem_range,Cj,Prod.mk.injEq]
 constructor
 .rintro ⟨j,hj,low',hl,rfl,rfl⟩;lia
 .intro h;exact ⟨s - 1,(qB Y2 Y0 J1 (qN (aR Y2 Y1) [0,1,0,1]) (qN (aR Y2 Y1) [0,1,0,1,1]):dL [.l Y0 Y1,.l J1 Y0]) h.2.1 h.1,low,(qB Y3 Y1 J1 (qA Y2 J5 Y3 (qN (aR Y0 Y2) [0,1,0,1,0,1])) (qA Y2 J5 Y3 (qN (aR Y0 Y2) [0,1,0,1,0,1,1])):qT [_,_,_,s - 1] [] [.l (.a Y0 Y1) J5,.l J1 Y1] _) h.2.2 h.1,rfl,ar (ML h.1) (Mq)⟩
theorem mem_vis {l s:Nat}:(low,s)∈tU k l<->(1<=s/\s<=k/\low + s<=5)\/(low < l/\s=k + 1):=by
 unfold tU
 rw [jH,C5]
 simp only [Cj,List.mem_range,Prod.mk.injEq]
 constructor
 .rintro (h | ⟨j,hj,rfl,rfl⟩)
  .exact .inl h
  .exact .inr ⟨hj,rfl⟩
 .rintro (h | ⟨h1,rfl⟩)
  .exact .inl h
  .exact .inr ⟨low,h1,rfl,rfl⟩
theorem KE (k l:Nat)(hk:k<=5)(hl:l<=5):(tU k l).length<=30:=by
 unfold tU oX
 rw [az,ab,ce]
 have:=gZ (l:=aZ k) (b:=5) (f:=λs=>(aZ (5 - s)).map λlow=>(low,s + 1)) λs _=>by rw [ab,ce];lia
 rw [ce] at this
 exact (qN (.l (.a Y2 Y1) (.k 30)) [5,1,1]:dL [.l Y0 J5,.l Y1 J5,.l Y2 (.w Y0 5)]) hk hl this
theorem Ie {size:Nat}{t:Tr}(h:t∈js size low m):∃j a b,j < m/\a∈bS (j + 1) low/\b∈bS (size - 1 - j) (low + 1 + j)/\t=.node a b:=by
 unfold js at h
 apply aA (List.mem_flatMap.mp h);intro j hj h
 apply aA (List.mem_flatMap.mp h);intro a ha h
 apply aA (Cj.mp h);intro b hb hq0;subst hq0
 exact ⟨j,a,b,List.mem_range.mp hj,ha,hb,rfl⟩
theorem iO:∀(n size low:Nat) (t:Tr),size<=n->1<=size->size<=5->t∈bS size low->eF t=size/\ek t + 1<=size
 | 0,size,low,t,h0,h1,h2,h=>by lia
 | n + 1,size,low,t,h0,h1,h2,h=>by
  by_cases hs:size=1
  .subst hs
   rw [kW,rF] at h
   subst h
   exact ⟨rfl,ae _⟩
  .rw [jI size low ((sG hs).elim (λz0=>(qN (.l J2 Y0) [2,1]:di [.l J1 Y0,aR Y0 J1]) h1 z0) (λz0=>(qN (.l J2 Y0) [1]:di [aR J1 Y0]) z0)) h2] at h
   apply ij (Ie h);intro j a b hj ha hb hq0;subst hq0
   have hx0:=iO n (j + 1) low a (MT h0 hj) (vL) ((qA Y2 Y0 J1 (qN (aR Y1 J5) [1,0,1,1]):dL [.l Y0 J5,aR Y1 Y2]) h2 hj) ha;have l1:=hx0.1;have l2:=hx0.2
   have hx0:=iO n (size - 1 - j) (low + 1 + j) b ((qB Y3 Y0 J1 (qA Y2 Y3 Y4 (qN (.l Y2 Y1) [1,0,0,1,0,1])) (qA Y2 Y3 Y4 (qN (.l Y2 Y1) [1,0,0,1])):qT [_,_,_,size - 1,j] [] [.l Y0 (.a Y1 J1)] _) h0) (BB hj) ((qA Y2 Y0 J1 (qA Y1 Y2 Y3 (qN (.l Y1 J5) [1,0,1,0,1])):qT [_,_,size - 1,j] [] [.l Y0 J5] _) h2) hb;have r1:=hx0.1;have r2:=hx0.2
   refine ⟨by show eF a + eF b=size;exact ar ((qB Y4 Y5 J1 (qB Y3 Y4 Y1 (qN (.l (.a Y0 Y2) Y5) [0,1,0,0,1,0,1,0,1]) (qN (.l (.a Y0 Y2) Y5) [0,1,0,0,1,0,1,0,1,0,1])) (qA Y3 Y4 Y1 (qN (.l (.a Y0 Y2) Y5) [1,0,0,2,0,1,0,1,0,1])):yy [.e Y0 (.a Y1 J1),.e Y2 Y3,aR Y1 Y4]) l1 r1 hj) ((qA Y5 Y4 J1 (qA Y3 Y5 Y1 (qN (.l Y4 (.a Y0 Y2)) [0,1,0,1,0,1,0,1])):qT [_,_,_,_,_,size - 1] [] [.e Y0 (.a Y1 J1),.e Y2 Y3] _) l1 hx0.1),?_⟩
   show max (ek a) (ek b) + 1 + 1<=size
   exact (qH Y5 Y4 Y0 (qB Y3 Y6 J1 (qA Y1 Y3 Y2 (qN (aR (.a Y5 J1) Y6) [1,0,0,1,0,0,1,0,1])) (qA Y1 Y3 Y2 (qN (aR (.a Y5 J1) Y6) [2,0,0,2,0,0,1,0,2]))) (qB Y3 Y6 J1 (qN (aR (.a Y5 J1) Y6) [0,1,0,0,1,0,0,1,1]) (qN (aR (.a Y5 J1) Y6) [0,2,0,0,1,0,0,2,1])):qT [_,_,_,_,_,_,_] [] [aR Y0 Y1,aR Y2 Y3,aR Y4 (.a Y2 J1)] _) r2 hj l2
theorem jZ {T:iA}(hT:(T.all λp=>dn p.2.length 6)=true):∀x:Tx,(esc T x).length<=6 * x.length
 | []=>cq _
 | d :: x=>by
  have ih:=jZ hT x
  rw [fC,az,aM]
  have:(er T d).length<=6:=by
   unfold er
   cases h:T.lookup d with
   | none=>simp
   | some w=>
    have hm:∀{T:iA},T.lookup d=some w->(d,w)∈T:=λ{T} e=>by
     induction T with
     | nil=>exact (aK e).elim
     | cons p T ih=>
      obtain ⟨c,u⟩:=p
      rw [aT] at e
      split at e
      .rename_i hb;(refine eQ e ?_;clear e;intro q₁;subst q₁);simp at hb;subst hb;exact .head _
      .exact .tail _ (ih e)
    exact ac (ft.mp hT _ (hm h))
  exact Mr ih this
variable {mk:Nat}{ts:List Tx}
theorem tW {T:iA}{mk:Nat}{ts:List Tx}(hT:(T.all λp=>dn p.2.length 6)=true)(hts:∀x∈ts,x.length<=10):∀t:Tr,(raw T mk ts t).length + 1<=6 ^ ek t * (11 * eF t)
 | .leaf k=>by
  show (ts.getD k []).length + 1<=6 ^ 0 * (11 * 1)
  rw [List.getD_eq_getElem?_getD]
  cases h:ts[k]? with
  | none=>simp
  | some x=>have:=hts x (List.mem_of_getElem? h);simp;exact this
 | .node l r=>by
  have h1:=tW (mk:=mk) hT hts l
  have h2:=tW (mk:=mk) hT hts r
  have e1:=jZ hT (raw T mk ts l)
  have e2:=jZ hT (raw T mk ts r)
  show (esc T (raw T mk ts l)++[mk]++esc T (raw T mk ts r)).length + 1<=6 ^ (max (ek l) (ek r) + 1) * (11 * (eF l + eF r))
  rw [az,az,oj]
  have p1:6 ^ ek l * (11 * eF l)<=6 ^ max (ek l) (ek r) * (11 * eF l):=GV _ (gw (by decide) (Nat.le_max_left _ _))
  have p2:6 ^ ek r * (11 * eF r)<=6 ^ max (ek l) (ek r) * (11 * eF r):=GV _ (gw (by decide) (Nat.le_max_right _ _))
  have e:6 ^ (max (ek l) (ek r) + 1) * (11 * (eF l + eF r))=6 * (6 ^ max (ek l) (ek r) * (11 * eF l)) + 6 * (6 ^ max (ek l) (ek r) * (11 * eF r)):=by
   rw [nA,iz,iz]
   generalize 6 ^ max (ek l) (ek r)=X
   rw [iY X 6,Nat.mul_assoc,Nat.mul_assoc]
  rw [e]
  exact (qN (aR (.a (.a Y4 J1) Y5) (.a (.m 6 Y6) (.m 6 Y7))) [6,6,1,1,6,6]:qT [_,_,_,_,_,_,_,_] [] [aR Y0 Y1,aR Y2 Y3,.l Y4 (.m 6 Y0),.l Y5 (.m 6 Y2),.l Y1 Y6,.l Y3 Y7] _) h1 h2 e1 e2 p1 p2
theorem nN {T:iA}(hT:(T.all λp=>dn p.2.length 6)=true)(hts:∀x∈ts,x.length<=10){size:Nat}{t:Tr}(h1:1<=size)(h2:size<=5)(h:t∈bS size low):(raw T mk ts t).length<=100000/\(esc T (raw T mk ts t)).length<=600000:=by
 have hx0:=iO size size low t (ae _) h1 h2 h;have e1:=hx0.1;have e2:=hx0.2
 have:=tW (mk:=mk) hT hts t
 have e3:=jZ hT (raw T mk ts t)
 have p1:6 ^ ek t * (11 * eF t)<=6 ^ 4 * (11 * 5):=Nat.mul_le_mul (gw (by decide) ((qN (.l Y1 J4) [1,1]:cz [.l Y0 J5,aR Y1 Y0]) h2 hx0.2)) (gV _ ((qN (.l Y1 J5) [1,1]:cz [.l Y0 J5,.e Y1 Y0]) h2 hx0.1))
 have p2:6 ^ 4 * (11 * 5)=71280:=by decide
 exact ⟨(qN (.l Y0 (.k 100000)) [1,1]:cz [aR Y0 Y1,.l Y1 (.k 71280)]) this p1,(qN (.l Y2 (.k 600000)) [6,1,6]:dL [aR Y0 Y1,.l Y2 (.m 6 Y0),.l Y1 (.k 71280)]) this e3 p1⟩
theorem fX (a b:Tx):dr a++dr b=dr (a++b):=by
 apply yD
 show ((dr a).cps++(dr b).cps).toList=_
 rw [Array.toList_append]
 rfl
theorem dB (a:Tx):(dr a).length=a.length:=by rw [fO,lM]
theorem iQ {n:Int}(hm:n.toNat=m)(hh:A.handled=none)(hf:aQ W A env ρ (.Name x p) (.ty "range"))(he:∀y q,e≠.Starred y q)(h:aQ W A env ρ e (.int n))(hb:-(2 ^ 62)<=n)(hb':n < 2 ^ 62):
  dS W A env ρ (.Name y p') (.Call (.Name x p) [e] [] pos) (fu 0 m):=hm▸wM hh hf he h hb hb'
theorem xI {e':Expr}{a n:Int}(hm:(n - a).toNat=m)(hh:A.handled=none)(hf:aQ W A env ρ (.Name x p) (.ty "range"))(he:∀y q,e≠.Starred y q)(h:aQ W A env ρ e (.int a))(he':∀y q,e'≠.Starred y q)(h':aQ W A env ρ e' (.int n))(ha:-(2 ^ 62)<=a)(ha':a < 2 ^ 62)(hb:-(2 ^ 62)<=n)(hb':n < 2 ^ 62):dS W A env ρ (.Name y p') (.Call (.Name x p) [e,e'] [] pos) (fu a m):=hm▸oL hh hf he h he' h' ha ha' hb hb'
theorem Lq {b c:Bool}(h:TrS W A env ρ e b P)(hb:b=c):TrS W A env ρ e c P:=hb▸h
theorem J9 (he:Oc W A env ρ L e d)(h:Pr d []):Blk W A env ρ L (.Return (some e) p :: rest) Kn Pr:=.mk λg s F k l E=>
 aP (jn (he g s F k l _ _ λv g1 s1 x1 r1=>(.inl ⟨g1,d,[],x1.toM,r1,LayOk.nil,h⟩)))
theorem qk {α β:Type}{f:α->Int}{g:α->β}{a:α}:∀{l:List α},a∈l->(∀b∈l,f b=f a->b=a)->ic (l.map f) (l.map g) (f a)=some (g a)
 | [],h,_=>by cases h
 | b :: l,h,hi=>by
  rw [aD,aD,jE]
  by_cases hb:f b=f a
  .rw [if_pos hb,hi b (.head _) hb]
  .rw [if_neg hb]
   rcases List.mem_cons.mp h with rfl | h
   .exact absurd rfl hb
   .exact qk h λc hc=>hi c (.tail _ hc)
structure Writes (W:Wd)(wa:Addr)(T:iA):Prop where
 keep:cJ W (.ref wa)
 call:∀A,Room A 2->∀x:Tx,x.length<=100000->bz W A (.ref wa) [.str (dr x)] [] (.str (dr (esc T x)))
section
variable (T:iA)(mk:Nat)(ts:List Tx)
noncomputable def oy (t:Tr):D:=.list ((ib t).map .int)
noncomputable def mB (t:Tr):D:=.tup [oy t,.str (dr (raw T mk ts t))]
noncomputable def Od (t:Tr):D:=.tup [oy t,.str (dr (esc T (raw T mk ts t)))]
noncomputable def qd (size:Nat)(t:Tr):D:=if size=5 then mB T mk ts t else Od T mk ts t
noncomputable def lh (p:Nat×Nat):Int:=((9 * p.1 + p.2:Nat):Int)
noncomputable def yx (p:Nat×Nat):D:=.list ((bS p.2 p.1).map (qd T mk ts p.2))
noncomputable def sW (k l:Nat):D:=.idict ((tU k l).map lh) ((tU k l).map (yx T mk ts))
end
theorem ql {p q:Nat×Nat}(hp:1<=p.2/\p.2<=8)(hq:1<=q.2/\q.2<=8)(h:lh p=lh q):p=q:=by
 obtain ⟨a,b⟩:=p
 obtain ⟨c,d⟩:=q
 unfold lh at h
 simp only at h hp hq
 have h':9 * a + b=9 * c + d:=by exact ar ((qN (.l (.a (.m 9 Y0) Y1) (.a (.m 9 Y2) Y3)) [1]:gC [.E (.c (.a (.m 9 Y0) Y1)) (.c (.a (.m 9 Y2) Y3))]) h) ((qN (.l (.a (.m 9 Y2) Y3) (.a (.m 9 Y0) Y1)) [0,1]:gC [.E (.c (.a (.m 9 Y0) Y1)) (.c (.a (.m 9 Y2) Y3))]) h)
 have:a=c:=by lia
 subst this
 rw [show b=d by exact ar ((qN (.l Y1 Y2) [1]:dL [.E (.c (.a (.m 9 Y0) Y1)) (.c (.a (.m 9 Y0) Y2))]) h) ((qN (.l Y2 Y1) [0,1]:dL [.E (.c (.a (.m 9 Y0) Y1)) (.c (.a (.m 9 Y0) Y2))]) h)]
theorem rL {l:Nat}(hk:k < 5){p:Nat×Nat}(h:p∈tU k l):1<=p.2/\p.2<=8:=by
 obtain ⟨a,b⟩:=p
 rcases mem_vis.mp h with h | h
 .simp only;exact ⟨JB h.1,(qN (.l Y1 (.k 8)) [1]:cz [.l (.a Y0 Y1) J5]) h.2.2⟩
 .simp only;exact ⟨(qN (.l J1 Y0) [0,1]:cz [.e Y0 (.a Y1 J1)]) h.2,(qN (.l Y1 (.k 8)) [1,1]:cz [aR Y0 J5,.e Y1 (.a Y0 J1)]) hk h.2⟩
theorem xK:FnK 151 23 "_law_nests" .none .none jf 150:=⟨λP=>by kernel_rfl,λP=>by kernel_rfl⟩
noncomputable def nestNames:List Str:=["texts","write","mark"]
theorem DJ (P:Params)(a b c:Value):∀S,peek (Kf P) S (bindArgs (kT 23 "_law_nests" .none .none jf 150) ⟨[a,b,c],[]⟩)=some (nestNames.zip [a,b,c]):=λS=>by kernel_rfl
noncomputable def eE (ts:List Tx):D:=.list (ts.map λx=>.str (dr x))
theorem o6 (h:low < ts.length):lO (eE ts) (.int low)=some (.str (dr (ts.getD low [])),[0<=(low:Int),(low:Int) < 2 ^ 63]):=by
 show (((ts.map λx=>D.str (dr x))[(low:Int).toNat]?).map λd=>(d,[0<=(low:Int),(low:Int) < 2 ^ 63]))=_
 rw [aB,List.getElem?_map,List.getD_eq_getElem?_getD,List.getElem?_eq_getElem h]
 rfl
theorem kZ {a:Int}(h:(fu a n)[k]? =some d):k < n/\d=.int (a + (k:Int)):=by
 unfold fu at h
 rw [List.getElem?_map,bq] at h
 apply aA h;intro j hj e
 have q:=List.getElem?_eq_some_iff.mp hj
 exact q.elim λh1 h2=>⟨ce (n:=n)▸h1,by rw [<-e,<-h2,rG]⟩
noncomputable def yh (k l m:Nat):List Tr:=(if k=0 then [Tr.leaf l] else [])++js (k + 1) l m
theorem Fe (k l:Nat):yh k l 0=if k=0 then [Tr.leaf l] else []:=by show _++js (k + 1) l 0=_;unfold js;exact fS _
theorem LF (k l m:Nat):yh k l (m + 1)=yh k l m++(bS (m + 1) l).flatMap λa=>(bS (k - m) (l + 1 + m)).map λb=>.node a b:=by
 show _++js (k + 1) l (m + 1)=(_++js (k + 1) l m)++_
 rw [iP,dI]
 rfl
theorem LH (l:Nat)(hk:k < 5):yh k l k=bS (k + 1) l:=by
 by_cases h0:k=0
 .subst h0;exact (Fe 0 l).trans ((if_pos rfl).trans (kW l).symm)
 .show (if k=0 then _ else _)++_=_
  rw [if_neg h0,jI (k + 1) l (by lia) (EV hk)]
  rfl
theorem LG (l:Nat)(hk:k < 5)(m:Nat)(hm:m<=k):(yh k l m).length<=101:=by
 have:=FU (k + 1) l m ((qN (aR Y0 (.a Y1 J1)) [1]:cz [.l Y0 Y1]) hm) (EV hk)
 show ((if k=0 then [Tr.leaf l] else [])++js (k + 1) l m).length<=101
 rw [az]
 split<;>simp<;>(first | exact (qN (.l (.a J1 Y2) (.k 101)) [25,1,25]:dL [.l Y0 Y1,.l Y2 (.w Y0 25),.e Y1 J0]) hm this (by assumption) | exact (qN (.l Y2 (.k 101)) [25,25,1]:dL [aR Y0 J5,.l Y1 Y0,.l Y2 (.w Y1 25)]) hk hm this)
theorem K1 {T:iA}{l:Nat}(hk:k < 5)(hl:l < 5 - k)(hm:m < k):ic ((tU k l).map lh) ((tU k l).map (yx T mk ts)) (8 * (l:Int) + ((l + 1 + m:Nat):Int))=some (.list ((bS (m + 1) l).map (Od T mk ts))):=by
 have s1:m + 1≠5:=λzz=>(qF [1,1,0,1]:cz [aR Y0 J5,aR Y1 Y0,.e (.a Y1 J1) J5]) hk hm zz
 have:=qk (f:=lh) (g:=yx T mk ts) (a:=(l,m + 1)) (l:=tU k l) (mem_vis.mpr (.inl (⟨vL,⟨qW hm,(qB Y1 J5 Y3 (qN (.l (.a Y0 (.a Y2 J1)) J5) [0,1,0,1,1]) (qN (.l (.a Y0 (.a Y2 J1)) J5) [0,1,0,1,1,1]):gC [aR Y0 Y1,aR Y2 Y3,aR Y3 J5]) hl hm hk⟩⟩))) λb hb e=>ql (rL hk hb) (by simp only;exact ⟨vL,(qN (aR Y1 (.k 8)) [1,1]:cz [aR Y0 J5,aR Y1 Y0]) hk hm⟩) e
 have e:lh (l,m + 1)=8 * (l:Int) + ((l + 1 + m:Nat):Int):=by unfold lh;simp only;exact au ((qN (.L (.c (.a (.m 9 Y0) (.a Y1 J1))) (.a (.m 8 (.c Y0)) (.c (.a (.a Y0 J1) Y1)))) []:cz [])) ((qN (.L (.a (.m 8 (.c Y0)) (.c (.a (.a Y0 J1) Y1))) (.c (.a (.m 9 Y0) (.a Y1 J1)))) []:cz []))
 rw [e] at this
 rw [this]
 unfold yx qd
 simp only [if_neg s1]
theorem K0 {T:iA}{l:Nat}(hk:k < 5)(hl:l < 5 - k)(hm:m < k):ic ((tU k l).map lh) ((tU k l).map (yx T mk ts)) (8 * ((l + 1 + m:Nat):Int) + (l:Int) + ((k + 1:Nat):Int))=some (.list ((bS (k - m) (l + 1 + m)).map (Od T mk ts))):=by
 have s2:k - m≠5:=λzz=>(qA Y1 Y0 Y2 (qF [1,0,1,0,1]):dL [aR Y0 J5,.e Y1 J5]) hk zz
 have:=qk (f:=lh) (g:=yx T mk ts) (a:=(l + 1 + m,k - m)) (l:=tU k l) (mem_vis.mpr (.inl (⟨BB hm,⟨(qA Y0 Y1 Y2 (qN (.l Y0 Y1) [1]):dL []),(qB Y4 Y2 Y3 (qB Y1 J5 Y2 (qN (.l (.a (.a (.a Y0 J1) Y3) Y4) J5) [0,1,0,0,1,0,1]) (qN (.l (.a (.a (.a Y0 J1) Y3) Y4) J5) [0,1,0,0,1,0,1,1])) (qA Y1 J5 Y2 (qN (.l (.a (.a (.a Y0 J1) Y3) Y4) J5) [1,0,3,1,0,1,1,4])):mM [aR Y0 Y1,aR Y2 J5,aR Y3 Y2]) hl hk hm⟩⟩))) λb hb e=>ql (rL hk hb) (by simp only;exact ⟨BB hm,(qA Y1 Y0 Y2 (qN (.l Y1 (.k 8)) [1,0,1]):dL [aR Y0 J5]) hk⟩) e
 have e:lh (l + 1 + m,k - m)=8 * ((l + 1 + m:Nat):Int) + (l:Int) + ((k + 1:Nat):Int):=by unfold lh;simp only;exact au ((qB Y3 Y1 Y0 (qN (.L (.c (.a (.m 9 (.a (.a Y2 J1) Y0)) Y3)) (.a (.a (.m 8 (.c (.a (.a Y2 J1) Y0))) (.c Y2)) (.c (.a Y1 J1)))) [0,1]) (qN (.L (.c (.a (.m 9 (.a (.a Y2 J1) Y0)) Y3)) (.a (.a (.m 8 (.c (.a (.a Y2 J1) Y0))) (.c Y2)) (.c (.a Y1 J1)))) [0,1,0,1]):gC [aR Y0 Y1]) hm) ((qA Y3 Y2 Y1 (qN (.L (.a (.a (.m 8 (.c (.a (.a Y0 J1) Y1))) (.c Y0)) (.c (.a Y2 J1))) (.c (.a (.m 9 (.a (.a Y0 J1) Y1)) Y3))) [0,1]):gC []))
 rw [e] at this
 rw [this]
 unfold yx qd
 simp only [if_neg s2]
theorem zT (G:Good W)(Rm:Room A 4){T:iA}{wa:Addr}(Wr:Writes W wa T)(hT:(T.all λp=>dn p.2.length 6)=true)(hts:∀x∈ts,x.length<=10)(h5:ts.length=5):
  bz W A (.ref 151) [eE ts,.ref wa,.kstr ⟨#[mk]⟩] [] (.list ((bS 5 0).map (mB T mk ts))):=
 kC xK G (Nv DJ) Rm λenv hs hh hu Gl Rd e2 e3=>by
  conv at hs=>rhs;whnf
  have C:=Cx.mk hs ‹_› ‹_› ‹_›
  have hkind:env.scope.kind=.function:=by rw [hs]
  conv in aH 23=>whnf
  refine n8 (d:=.idict [] []) C7 (el hs rfl) rfl λan=>?_
  refine gL (ds:=fu 1 5) (λ_=>.bind "nests" (.ref an) (.bind "texts" (eE ts) (.bind "write" (.ref wa) (.bind "mark" (.kstr ⟨#[mk]⟩) .nil)))) (λk=>[(an,sW T mk ts k 0)]) hh rfl
   (gF (oL (a:=1) (n:=6) hh (by exact ky) (aJ rfl) (by exact ky) (aJ rfl) (by exact ky) (by decide) (by decide) (by decide) (by decide)))
   (SubR.le ⟨rfl,rfl,rfl,rfl,trivial⟩ rfl) rfl (λ_ _=>rfl) (λk d hd=>?_) ?_
  .obtain ⟨hk,rfl⟩:k < 5/\d=.int ((k + 1:Nat):Int):=⟨(kZ hd).1,(kZ hd).2.trans (congrArg D.int (Eb ..))⟩
   refine ⟨dP hs rfl,_,rfl,?_⟩
   refine gL (ds:=fu 0 (5 - k)) (λ_=>.bind "size" (.int ((k + 1:Nat):Int)) (.bind "nests" (.ref an) (.bind "texts" (eE ts) (.bind "write" (.ref wa) (.bind "mark" (.kstr ⟨#[mk]⟩) .nil))))) (λl=>[(an,sW T mk ts k l)]) hh rfl ?_
    (SubR.le ⟨rfl,rfl,rfl,rfl,rfl,trivial⟩ rfl) rfl (λ_ _=>rfl) (λl d hd=>?_) ?_
   .exact gF (iQ (n:=6 - ((k + 1:Nat):Int)) (by exact ar ((qK Y0 (.s (.k 6) (.c (.a Y2 J1))) (qA Y1 J5 Y2 (qN (.l Y0 Y1) [0,1,0,1])) (qN (.l Y0 Y1) [0,1]):dL [])) ((qK Y2 (.s (.k 6) (.c (.a Y0 J1))) (qB Y1 J5 Y0 (qN (.l Y1 Y2) [0,1,0,0,0,1]) (qN (.l Y1 Y2) [0,1])) (qA Y1 J5 Y0 (qN (.l Y1 Y2) [1,0,5,0,0,5])):dL [aR Y0 J5]) hk)) hh (by exact ky) (aJ rfl) (by exact ky) (by exact (qN (.L (.n G3) (.s (.k 6) (.c (.a Y0 J1)))) [1]:di [aR Y0 J5]) hk) (by exact (qN (cK (.s (.k 6) (.c (.a Y0 J1))) G3) []:di [])))
   .obtain ⟨hl,rfl⟩:l < 5 - k/\d=.int (l:Int):=⟨(kZ hd).1,(kZ hd).2.trans (congrArg D.int (nF _))⟩
    refine ⟨dP hs rfl,_,rfl,?_⟩
    obtain ⟨base,hbase⟩:∃b,b=yh k l:=⟨_,rfl⟩
    have base0:base 0=if k=0 then [Tr.leaf l] else []:=hbase▸Fe k l
    have baseS:∀m,base (m + 1)=base m++(bS (m + 1) l).flatMap λa=>(bS (k - m) (l + 1 + m)).map λb=>.node a b:=hbase▸LF k l
    have baseE:base k=bS (k + 1) l:=hbase▸LH l hk
    have baseL:∀m,m<=k->(base m).length<=101:=hbase▸LG l hk
    refine n8 (d:=.list ((base 0).map (mB T mk ts))) (Ij (c:=decide (((k + 1:Nat):Int)=1)) (km (by exact ⟨dg⟩) (by exact trivial)) ?_) (el hs rfl) rfl λam=>?_
    .by_cases h0:k=0
     .subst h0
      rw [base0]
      refine lW (ds:=[.tup [.list [.int 0],.str (dr (ts.getD l []))]]) (vA (by
       apply dX rfl
       .apply so
        .apply dX rfl;exact ⟨ak⟩
         apply dX rfl
         .apply gm;exact ⟨ak⟩;exact ⟨ak⟩;exact o6 (by exact JW h5 hl)
         .exact iS
        .exact rfl
       .exact iS) (by exact ⟨by exact ax _,by exact L5 hl,trivial⟩)) (by show (1:Nat)<=16777216;exact (qN (.l J1 (.k 16777216)) []:Hx []))
     .have h1:decide (((k + 1:Nat):Int)=1)=false:=decide_eq_false (by lia)
      rw [h1,base0,if_neg h0]
      exact lW (ds:=[]) .nil (by decide)
    refine gL (ds:=fu ((l:Int) + 1) k) (λm=>.bind "made" (.ref am) (.bind "low" (.int (l:Int)) (.bind "size" (.int ((k + 1:Nat):Int)) (.bind "nests" (.ref an) (.bind "texts" (eE ts) (.bind "write" (.ref wa) (.bind "mark" (.kstr ⟨#[mk]⟩) .nil)))))))
     (λm=>[(am,.list ((base m).map (mB T mk ts))),(an,sW T mk ts k l)]) hh rfl ?_ (SubR.le ⟨rfl,rfl,rfl,rfl,rfl,rfl,rfl,trivial⟩ rfl) rfl (λ_ _=>rfl) (λm d hd=>?_) ?_
    .exact gF (xI (a:=(l:Int) + 1) (n:=(l:Int) + ((k + 1:Nat):Int)) (by exact ar ((qK Y0 (.s (.a (.c Y2) (.c (.a Y1 J1))) (.a (.c Y2) J1)) (qN (.l Y0 Y1) [0,1]) (qN (.l Y0 Y1) [0,1]):dL [])) ((qL Y1 (.s (.a (.c Y2) (.c (.a Y0 J1))) (.a (.c Y2) J1)) (qN (.l Y0 Y1) [1]):dL []))) hh (by exact ky) (aJ rfl) (by exact ky) (aJ rfl) (by exact ky) (by exact Mi) (by exact (qA Y1 J5 Y2 (qN (cK (.a (.c Y0) J1) G3) [1,0,1]):dL [aR Y0 Y1]) hl) (by exact (qN (.L (.n G3) (.a (.c Y0) (.c (.a Y1 J1)))) []:cz [])) (by exact (qA Y2 J5 Y0 (qN (cK (.a (.c Y1) (.c (.a Y0 J1))) G3) [1,0,1,1]):dL [aR Y0 J5,aR Y1 Y2]) hk hl))
    .obtain ⟨hm,rfl⟩:m < k/\d=.int ((l + 1 + m:Nat):Int):=⟨(kZ hd).1,(kZ hd).2⟩
     refine ⟨dP hs rfl,_,rfl,?_⟩
     have lenA:=nK l (m + 1) (by exact vL) (by exact (qN (aR Y1 J4) [1,1]:cz [aR Y0 J5,aR Y1 Y0]) hk hm)
     have lenB:=nK (l + 1 + m) (k - m) (by exact BB hm) (by exact (qA Y1 Y0 Y2 (qN (.l Y1 J4) [1,0,1]):dL [aR Y0 J5]) hk)
     have g1:=K1 (T:=T) (mk:=mk) (ts:=ts) hk hl hm
     have g2:=K0 (T:=T) (mk:=mk) (ts:=ts) hk hl hm
     obtain ⟨TA,hTA⟩:∃x,x=bS (m + 1) l:=⟨_,rfl⟩
     obtain ⟨TB,hTB⟩:∃x,x=bS (k - m) (l + 1 + m):=⟨_,rfl⟩
     rw [<-hTA] at g1 lenA
     rw [<-hTB] at g2 lenB
     refine gL (ds:=TA.map (Od T mk ts)) (λi=>.bind "middle" (.int ((l + 1 + m:Nat):Int)) (.bind "made" (.ref am) (.bind "low" (.int (l:Int)) (.bind "size" (.int ((k + 1:Nat):Int)) (.bind "nests" (.ref an) (.bind "texts" (eE ts) (.bind "write" (.ref wa) (.bind "mark" (.kstr ⟨#[mk]⟩) .nil))))))))
      (λi=>[(am,.list ((base m++(TA.take i).flatMap λa=>TB.map λb=>Tr.node a b).map (mB T mk ts))),(an,sW T mk ts k l)]) hh rfl
      (uZ hh (zA (.tail _ (.head _)) (by exact ky) (ky ‹_› rfl (by exact ⟨cQ (mZ (by exact Mf) (by exact JV)),trivial⟩)) g1))
      (SubR.le ⟨rfl,rfl,rfl,rfl,rfl,rfl,rfl,rfl,trivial⟩ rfl) (by simp) (λ_ _=>rfl) (λi d hd=>?_) ?_
     .rw [List.getElem?_map,bq] at hd
      apply aA (hd);intro a ha hq0;subst hq0
      have ham:=List.mem_of_getElem? ha
      rw [hTA] at ham
      have hx0:=nN (mk:=mk) hT hts (by exact vL) (by exact Je hk hm) ham;have fa1:=hx0.1;have fa2:=hx0.2
      have fa3:=(iO 5 _ _ _ (by exact Je hk hm) (by exact vL) (by exact Je hk hm) ham).1
      refine ⟨dP hs rfl,_,rfl,?_⟩
      have hi:i < TA.length:=(List.getElem?_eq_some_iff.mp ha).1
      have hpart:((TA.take i).flatMap λa=>TB.map λb=>Tr.node a b).length<=25:=by
       have:=gZ (l:=TA.take i) (b:=5) (f:=λa=>TB.map λb=>Tr.node a b) λ_ _=>by rw [ab];exact lenB
       rw [cT] at this
       exact (qE Y2 Y3 Y0 (qN (.l Y1 (.k 25)) [0,5,5,1]):gC [.l Y0 J5,.l Y1 (.w Y2 5)]) lenA this
      refine gL (ds:=TB.map (Od T mk ts)) (λj=>.bind "one" (.str (dr (esc T (raw T mk ts a)))) (.bind "first" (oy a) (.bind "middle" (.int ((l + 1 + m:Nat):Int)) (.bind "made" (.ref am) (.bind "low" (.int (l:Int)) (.bind "size" (.int ((k + 1:Nat):Int)) (.bind "nests" (.ref an) (.bind "texts" (eE ts) (.bind "write" (.ref wa) (.bind "mark" (.kstr ⟨#[mk]⟩) .nil))))))))))
       (λj=>[(am,.list ((base m++((TA.take i).flatMap λa=>TB.map λb=>Tr.node a b)++(TB.take j).map λb=>Tr.node a b).map (mB T mk ts))),(an,sW T mk ts k l)]) hh rfl
       (uZ hh (zA (.tail _ (.head _)) (by exact ky) (ky ‹_› rfl (by exact ⟨cQ (mZ (by exact Mf) (by exact JV)),trivial⟩)) g2))
       (SubR.le ⟨rfl,rfl,rfl,rfl,rfl,rfl,rfl,rfl,rfl,rfl,trivial⟩ rfl) (by simp) (λ_ _=>rfl) (λj d hd=>?_) ?_
      .rw [List.getElem?_map,bq] at hd
       apply aA (hd);intro b hb hq0;subst hq0
       have hbm:=List.mem_of_getElem? hb
       rw [hTB] at hbm
       have hx0:=nN (mk:=mk) hT hts (BB hm) (Jl hk) hbm;have fb1:=hx0.1;have fb2:=hx0.2
       have fb3:=(iO 5 _ _ _ (Jl hk) (BB hm) (Jl hk) hbm).1
       refine ⟨dP hs rfl,_,rfl,?_⟩
       have hj:j < TB.length:=(List.getElem?_eq_some_iff.mp hb).1
       have sumI:((ib a).map D.int).length + ((ib b).map D.int).length<=sizeLine:=by
        rw [ab,ab,gQ,gQ]
        show _<=16777216
        exact MI hk hm fa3 fb3
       have hcat:((dr (esc T (raw T mk ts a))++(⟨#[mk]⟩:Str))++dr (esc T (raw T mk ts b)):Str)=dr (raw T mk ts (.node a b)):=by
        rw [show (⟨#[mk]⟩:Str)=dr [mk] from rfl,fX,fX]
        rfl
       have hl1:(dr (esc T (raw T mk ts a))).length<=600000:=by rw [dB];exact fa2
       have hl2:(dr (esc T (raw T mk ts b))).length<=600000:=by rw [dB];exact fb2
       have hl3:(⟨#[mk]⟩:Str).length=1:=rfl
       have hl4:(dr (esc T (raw T mk ts a))++(⟨#[mk]⟩:Str)).length<=600001:=by
        rw [show (⟨#[mk]⟩:Str)=dr [mk] from rfl,fX,dB,az,oj]
        exact (qN (aR Y0 (.k 600001)) [1]:di [.l Y0 (.k 600000)]) fa2
       refine v7 (d:=mB T mk ts (.node a b)) hkind rfl (by exact ky) ?_ rfl ?_ ?_
       .refine .cons (aJ rfl) (po (.cons (aJ rfl) ?_ (.cons (aJ rfl) ?_ .nil)) (by show (2:Nat)<=16777216;exact (qN (.l J2 (.k 16777216)) []:Hx []))) .nil
        .refine jY (ds:=(ib a).map .int++(ib b).map .int) (outs:=(ib (.node a b)).map .int) hh hs rfl rfl rfl (cC hh (ku (by apply zy;exact ⟨ak⟩;exact ⟨ak⟩;exact rfl) (by exact ⟨sumI,trivial⟩))) ?_ ?_ λenv' hs'=>Rows.get ?_
         .rw [ab,gQ]
          show eF a + eF b<=16777216
          exact MI hk hm fa3 fb3
         .simp [ib]
         .conv at hs'=>rhs;whnf
          have C:=Cx.mk hs' ‹_› ‹_› ‹_›
          have e1:(ib a).map D.int++(ib b).map D.int=(ib a++ib b).map D.int:=by rw [bU]
          have e2:(ib (.node a b)).map D.int=(ib a++ib b).map λx=>D.int (x + 1):=by show ((ib a++ib b).map (· + 1)).map D.int=_;rw [cO];rfl
          rw [e1,e2]
          exact Rows.map λc _=>⟨_,rfl,by exact ky⟩
        .exact ku (Dm (by exact ⟨ak⟩) (congrArg D.str hcat)) (by exact ⟨by show _<=16777216;exact (qN (.l (.a Y0 Y1) (.k 16777216)) [1,1]:cz [.l Y0 (.k 600000),.e Y1 J1]) hl1 hl3,by show _<=16777216;exact (qN (.l (.a Y1 Y0) (.k 16777216)) [1,1]:cz [.l Y0 (.k 600000),.l Y1 (.k 600001)]) hl2 hl4,trivial⟩)
       .rw [ab,az,az,ab,cT]
        have:=baseL m (cZ hm)
        show _<=16777216
        exact (qE Y3 Y4 Y0 (qN (.l (.a (.a Y2 Y1) Y3) (.k 16777216)) [0,1,1,1,1]):mM [.l Y0 J5,.l Y1 (.k 25),.l Y2 (.k 101)]) lenB hpart this
       .refine db ⟨?_,SubR.le ⟨rfl,rfl,rfl,rfl,rfl,rfl,rfl,rfl,rfl,rfl,trivial⟩ rfl⟩
        rw [dk,hb]
        simp
      .refine db ⟨?_,SubR.le ⟨rfl,rfl,rfl,rfl,rfl,rfl,rfl,rfl,trivial⟩ rfl⟩
       rw [ab,aO (ae _),dk,ha,kb]
       simp
     .refine db ⟨?_,SubR.le ⟨rfl,rfl,rfl,rfl,rfl,rfl,rfl,trivial⟩ rfl⟩
      rw [ab,aO (ae _),baseS,hTA,hTB]
    .have eL:(fu ((l:Int) + 1) k).length=k:=by unfold fu;rw [ab,ce]
     rw [eL,baseE]
     refine iU (a:=am) (x:="made") rfl rfl ?_
     have key1:((tU k l).map lh).contains (9 * (l:Int) + ((k + 1:Nat):Int))=false:=by
      rw [Bool.eq_false_iff]
      intro hc
      apply aA (Cj.mp (List.contains_iff_mem.mp hc));intro p hp e
      have e':lh p=lh (l,k + 1):=by rw [e];unfold lh;simp only;exact au (MP) (MN)
      have:=ql (rL hk hp) (by simp only;exact ⟨vL,(qN (aR Y0 (.k 8)) [1]:di [aR Y0 J5]) hk⟩) e'
      subst this
      rcases mem_vis.mp hp with h | h<;>(first | exact zJ h.2.1 | exact zJ h.1)
     have nsz:(bS (k + 1) l).length<=101:=baseE▸baseL k (ae _)
     have fin:sW T mk ts k (l + 1)=.idict ((tU k l).map lh++[9 * (l:Int) + ((k + 1:Nat):Int)]) ((tU k l).map (yx T mk ts)++[.list ((bS (k + 1) l).map (qd T mk ts (k + 1)))]):=by
      unfold sW
      (rewrite [Ht,bU,bU];try with_reducible rfl)
      have:lh (l,k + 1)=9 * (l:Int) + ((k + 1:Nat):Int):=by unfold lh;simp only;exact au (MN) (MP)
      (rewrite [<-this];try with_reducible rfl)
      rfl
     refine DF (d:=.list ((bS (k + 1) l).map (qd T mk ts (k + 1)))) (by exact ky) (ky ‹_› rfl (by exact ⟨cQ (mZ (by exact (qN (cK (.n M1) (.k 9)) []:Hx [])) (by exact (qN (cK (.k 9) M1) []:Hx []))),trivial⟩)) ?_ key1 ?_ rfl ?_
     .by_cases h4:k + 1=5
      .have:qd T mk ts (k + 1)=mB T mk ts:=by unfold qd;simp only [if_pos h4]
       rw [this]
       exact l8 (c:=true) (km (Lq (by exact ⟨dg⟩) (decide_eq_true (by exact au ((qN (.L (.c (.a Y0 J1)) J5) [1]:di [aR Y0 J5]) hk) ((qN (.L J5 (.c (.a Y0 J1))) [0,1]:di [.e (.a Y0 J1) J5]) h4)))) (by exact trivial)) (by rw [if_pos rfl];exact ky)
      .have:qd T mk ts (k + 1)=Od T mk ts:=by unfold qd;simp only [if_neg h4]
       rw [this]
       refine l8 (c:=false) (km (Lq (by exact ⟨dg⟩) (decide_eq_false (by lia))) (by exact trivial)) ?_
       rw [if_neg (by decide)]
       refine jY hh hs rfl rfl rfl (cC hh (by exact ky)) (by rw [ab];show _<=16777216;exact ai nsz (ac rfl)) (by rw [ab,ab]) λenv' hs'=>Rows.get ?_
       conv at hs'=>rhs;whnf
       have C:=Cx.mk hs' ‹_› ‹_› ‹_›
       refine Rows.map λt ht=>⟨_,rfl,?_⟩
       have c1:CallS W (A.deeper env) (.ref wa) [.str (dr (raw T mk ts t))] [] (.str (dr (esc T (raw T mk ts t)))):=⟨Wr.call _ (Rd.le (by exact (qN (.l J2 J3) []:Hx []))) _ (nN hT hts (by exact vL) (by exact EV hk) ht).1⟩
       have k1:KeepS W (.ref wa):=⟨Wr.keep⟩
       (exact ku (by apply so;apply dX rfl;exact ⟨ak⟩;apply dX rfl;apply NU;exact ⟨ak⟩;apply dX rfl;exact ⟨ak⟩;exact iS;exact vy;assumption;assumption;exact iS;exact rfl) (by exact trivial))
     .rw [ab]
      have:=KE k l (by exact cZ hk) (by exact (qA Y1 J5 Y2 (qN (.l Y0 J5) [1,0,1]):dL [aR Y0 Y1]) hl)
      exact bI this (ac rfl)
     .exact db ⟨by rw [fin],SubR.le ⟨rfl,rfl,rfl,rfl,rfl,trivial⟩ rfl⟩
   .have eL:(fu 0 (5 - k)).length=5 - k:=by unfold fu;rw [ab,ce]
    rw [eL]
    refine db ⟨?_,SubR.le ⟨rfl,rfl,rfl,rfl,trivial⟩ rfl⟩
    unfold sW
    rw [Hu,Hs]
  .refine J9 (d:=.list ((bS 5 0).map (mB T mk ts))) (zA (.head _) (by exact ky) (by exact ky) ?_) ⟨rfl,rfl⟩
   exact qk (f:=lh) (g:=yx T mk ts) (a:=(0,5)) (l:=tU 5 0) (mem_vis.mpr (.inl (by exact ⟨Jx,⟨Jw,Jw⟩⟩))) λb hb e=>ql (by
    obtain ⟨x,y⟩:=b
    rcases mem_vis.mp hb with h | h
    .simp only;exact ⟨JB h.1,(qN (.l Y0 (.k 8)) [1]:di [.l Y0 J5]) h.2.1⟩
    .simp only;exact ⟨(qN (.l J1 Y1) [1]:cz [aR Y0 J0]) h.1,(qN (.l Y0 (.k 8)) [1]:di [.e Y0 (.k 6)]) h.2⟩) (by simp only;exact ⟨Jx,(qN (.l J5 (.k 8)) []:Hx [])⟩) e
noncomputable def bL (ns:List Int)(x:Int)(lo hi:Nat):Nat:=jj (jt ns x) 5 lo hi
noncomputable def bR (ns:List Int)(x:Int)(lo hi:Nat):Nat:=jj (jT ns x) 5 lo hi
theorem M0 (ns:List Int)(x:Int)(lo hi:Nat)(h:hi<=5):iW (jt ns x) lo hi=bL ns x lo hi:=fQ _ 5 lo hi (Mh h)
theorem Kl (ns:List Int)(x:Int)(lo hi:Nat)(h:hi<=5):iW (jT ns x) lo hi=bR ns x lo hi:=fQ _ 5 lo hi (Mh h)
noncomputable def AB (t:Tr):Bool:=dn (6 ^ ek t * (11 * eF t)) 100000
noncomputable def qm (ns:List Int):Nat->Nat->Nat->Nat->Nat->Option Tr
 | 0,_,_,_,_=>none
 | f + 1,low,high,begin,size=>
  if decide ((high:Int) - (low:Int) < 2)||decide ((size:Int) < 2) then (if low < 5 then some (.leaf low) else none) else
  if high<=5&&(bL ns begin (low + 1) high==low + 1&&(bL ns ((begin:Int) + size + 1) low high==high&&(bR ns ((begin:Int) + size) low high==high&&(bR ns (-1) low high==low&&decide (1<=bR ns ((begin + size / 2:Nat):Int) low high))))) then
   match qm ns f low (bL ns ((begin + size / 2:Nat):Int) low high) begin (size / 2),qm ns f (bR ns ((begin + size / 2:Nat):Int) low high - 1) high (begin + size / 2) (size / 2) with
   | some a,some b=>if AB a&&AB b then some (.node a b) else none
   | _,_=>none
  else none
theorem xk {T:iA}(hT:(T.all λp=>dn p.2.length 6)=true)(hts:∀x∈ts,x.length<=10){t:Tr}(h:AB t=true):(raw T mk ts t).length<=100000/\(esc T (raw T mk ts t)).length<=600000:=by
 have h1:=tW (mk:=mk) hT hts t
 have h2:=ac h
 have h3:=jZ hT (raw T mk ts t)
 exact ⟨(qN (.l Y0 (.k 100000)) [1,1]:cz [aR Y0 Y1,.l Y1 (.k 100000)]) h1 h2,(qN (.l Y2 (.k 600000)) [6,6,1]:dL [aR Y0 Y1,.l Y1 (.k 100000),.l Y2 (.m 6 Y0)]) h1 h2 h3⟩
noncomputable def Sh (n:Nat)(p:PyData):Prop:=p.canLay0=true/\p.depth<=n
theorem kO:∀{xs:List PyData},(∀x∈xs,x.canLay0=true)->rE xs=true
 | [],_=>rfl
 | x :: xs,h=>by rw [rE,h x (.head _),kO λy hy=>h y (.tail _ hy)];rfl
theorem nk {n:Nat}:∀{xs:List PyData},(∀x∈xs,x.depth<=n)->mF xs<=n
 | [],_=>cq _
 | x :: xs,h=>by rw [mF];exact Nat.max_le.mpr ⟨h x (.head _),nk λy hy=>h y (.tail _ hy)⟩
theorem Sh.list {xs:List PyData}(h:∀x∈xs,Sh n x):Sh (n + 1) (.list xs):=⟨by rw [kc];exact kO λx hx=>(h x hx).1,by rw [rC];exact mG (nk λx hx=>(h x hx).2)⟩
theorem Sh.tup {xs:List PyData}(h:∀x∈xs,Sh n x):Sh (n + 1) (.tuple xs):=⟨by rw [kc];exact kO λx hx=>(h x hx).1,by rw [rC];exact mG (nk λx hx=>(h x hx).2)⟩
theorem Sh.int (i:Int)(n:Nat):Sh n (.int i):=⟨by rw [kc],by rw [rC];exact cq _⟩
theorem Sh.str (h:Aj x=true)(n:Nat):Sh n (.str x):=⟨by rw [kc];exact h,by rw [rC];exact cq _⟩
theorem Sh.ok {p:PyData}(h:Sh n p)(hn:n<=64):bQ p:=by
 show mE p=true
 unfold mE
 rw [h.1,Bool.true_and]
 exact decide_eq_true (ai h.2 hn)
theorem Sh.ints (ns:List Int):Sh 1 (.list (ns.map .int)):=Sh.list λx hx=>by apply aA (Cj.mp hx);intro i _ hq0;subst hq0;exact Sh.int i 0
theorem um {α:Type}{f:α->D}{g:α->PyData}(h:∀a,lL (f a)=some (g a)):∀l:List α,kf (l.map f)=some (l.map g)
 | []=>by rw [dh,dh,kf]
 | a :: l=>by rw [aD,aD,kf,h a,um h l]
theorem HB {f:α->D}{g:α->PyData}(h:∀a,lL (f a)=some (g a))(l:List α):lL (.list (l.map f))=some (.list (l.map g)):=by rw [lL,um h];rfl
theorem pU (ns:List Int):lL (.list (ns.map .int))=some (.list (ns.map .int)):=HB (λa=>by rw [lL]) ns
theorem vE {α:Type}[DecidableEq α]{g:α->PyData}(h:∀a b,bZ (g a) (g b)=decide (a=b)):∀as bs:List α,kU (as.map g) (bs.map g)=decide (as=bs)
 | [],[]=>by rw [dh,kU];rfl
 | [],b :: bs=>by rw [dh,aD,kU];simp
 | a :: as,[]=>by rw [dh,aD,kU];simp
 | a :: as,b :: bs=>by
  rw [aD,aD,kU,h a b,vE h as bs]
  by_cases h1:a=b<;>by_cases h2:as=bs<;>simp [h1,h2]
theorem EM (a b:Int):bZ (.int a) (.int b)=decide (a=b):=by rw [bZ];rfl
theorem Bp (as bs:List Int):bZ (.list (as.map .int)) (.list (bs.map .int))=decide (as=bs):=by rw [bZ];exact vE EM as bs
theorem BJ (as bs:List Int):ll .Eq (.list (as.map .int)) (.list (bs.map .int))=some (decide (as=bs),[bQ (.list (as.map .int)),bQ (.list (bs.map .int))]):=by
 show ((lL (.list (as.map .int))).bind λp=>(lL (.list (bs.map .int))).bind λq=>some (bZ p q,[bQ p,bQ q]))=_
 rw [pU,pU]
 show some (bZ _ _,_)=_
 rw [Bp]
theorem BI (as bs:List Int):ll .NotEq (.list (as.map .int)) (.list (bs.map .int))=some (!decide (as=bs),[bQ (.list (as.map .int)),bQ (.list (bs.map .int))]):=by
 show ((lL (.list (as.map .int))).bind λp=>(lL (.list (bs.map .int))).bind λq=>some (!bZ p q,[bQ p,bQ q]))=_
 rw [pU,pU]
 show some (!bZ _ _,_)=_
 rw [Bp]
theorem pZ (as:List Int):bQ (.list (as.map .int)):=(Sh.ints as).ok (by decide)
theorem vo:FnK 163 25 "_law_join" .none .none jf 162:=⟨λP=>by kernel_rfl,λP=>by kernel_rfl⟩
noncomputable def joinNames:List Str:=["texts","points","low","high","begin","size","write","mark"]
theorem GM (P:Params)(a b c d e f g h:Value):∀S,peek (Kf P) S (bindArgs (kT 25 "_law_join" .none .none jf 162) ⟨[a,b,c,d,e,f,g,h],[]⟩)=some (joinNames.zip [a,b,c,d,e,f,g,h]):=λS=>by kernel_rfl
theorem ve (size:Nat):(size:Int).fdiv 2=((size / 2:Nat):Int):=by rw [bY _ (by decide)];exact au ((qM I0 (.c Y1) 1 (qI Y0 Y1 1 (qN (.L I0 (.c Y0)) [0,1,1] 1)):qT [_,size] [_] [] _)) ((qM I0 (.c Y1) 1 (qI Y0 Y1 1 (qN (.L (.c Y0) I0) [1,0,0,1] 1)):qT [_,size] [_] [] _))
theorem PY (hP:jv W)(R:Room A 4)(h5:ns.length=5){x:Int}(k5:hi<=5)(e:bL ns x lo hi=k):CallB W A (.ref 50) [.list (ns.map .int),.int x,.int (lo:Int),.int (hi:Int)] [] (.int (k:Int)):=
 ⟨cL gc hP,by rw [<-e,<-M0 _ _ _ _ k5];exact re (h:=some hi) hP R (show hi<=ns.length from h5.symm▸k5) (by rw [h5];decide)⟩
theorem PX (hP:jv W)(R:Room A 4)(h5:ns.length=5){x:Int}(k5:hi<=5)(e:bR ns x lo hi=k):CallB W A (.ref 32) [.list (ns.map .int),.int x,.int (lo:Int),.int (hi:Int)] [] (.int (k:Int)):=
 ⟨cL gb hP,by rw [<-e,<-Kl _ _ _ _ k5];exact rc (h:=some hi) hP R (show hi<=ns.length from h5.symm▸k5) (by rw [h5];decide)⟩
noncomputable def LV (ts:List Tx)(ns:List Int)(low high begin size:Nat)(wa:Addr)(mk:Nat):List D:=[eE ts,.list (ns.map .int),.int (low:Int),.int (high:Int),.int (begin:Int),.int (size:Int),.ref wa,.kstr ⟨#[mk]⟩]
theorem Ga (C:Cx W A env (bh 25)){high begin size md h1 l2 wa:Nat}{a a' b b' r:Str}(k6:1<=l2)(hmd:(begin:Int) + (size:Int).fdiv 2=md)(q1:CallB W A (.ref 50) [.list (ns.map .int),.int (begin:Int),.int ((low + 1:Nat):Int),.int (high:Int)] [] (.int ((low + 1:Nat):Int)))(q2:CallB W A (.ref 50) [.list (ns.map .int),.int ((begin:Int) + (size:Int) + 1),.int (low:Int),.int (high:Int)] [] (.int (high:Int)))(q3:CallB W A (.ref 32) [.list (ns.map .int),.int ((begin:Int) + (size:Int)),.int (low:Int),.int (high:Int)] [] (.int (high:Int)))(q4:CallB W A (.ref 32) [.list (ns.map .int),.int (-1),.int (low:Int),.int (high:Int)] [] (.int (low:Int)))(q5:CallB W A (.ref 50) [.list (ns.map .int),.int (md:Int),.int (low:Int),.int (high:Int)] [] (.int (h1:Int)))(q6:CallB W A (.ref 32) [.list (ns.map .int),.int (md:Int),.int (low:Int),.int (high:Int)] [] (.int (l2:Int)))(q7:CallB W A (.ref 163) [eE ts,.list (ns.map .int),.int (low:Int),.int (h1:Int),.int (begin:Int),.int ((size:Int).fdiv 2),.ref wa,.kstr ⟨#[mk]⟩] [] (.str a))(q8:CallB W A (.ref 163) [eE ts,.list (ns.map .int),.int ((l2 - 1:Nat):Int),.int (high:Int),.int (md:Int),.int ((size:Int).fdiv 2),.ref wa,.kstr ⟨#[mk]⟩] [] (.str b))(q9:CallB W A (.ref wa) [.str a] [] (.str a'))(q10:CallB W A (.ref wa) [.str b] [] (.str b'))(ha:a'.length<=600000)(ham:(a'++(⟨#[mk]⟩:Str)).length<=600001)(hb:b'.length<=600000)(hr:(a'++(⟨#[mk]⟩:Str))++b'=r):
  fB W A env (dc joinNames (LV ts ns low high begin size wa mk) .nil) [] ((aH 25).drop 1) (.str r) []:=by
 refine bV C [.v (.int ((low + 1:Nat):Int)),.v (.int (high:Int))] (.list [.int ((low + 1:Nat):Int),.int (high:Int)]) rfl ⟨rfl,q1,q2,trivial⟩ ?_
 refine sC C [.v (.int (high:Int)),.v (.int (low:Int)),.o (.bool false)] ⟨rfl,q3,q4,ac rfl,?_,trivial⟩ ?_
 .have e:=BI [(low:Int) + 1,high,high,low] [(low:Int) + 1,high,high,low]
  rw [decide_eq_true rfl] at e
  exact (show Gives (ll .NotEq (.list ([(low:Int) + 1,high,high,low].map .int)) (.list ([(low:Int) + 1,high,high,low].map .int))) false by rw [e];exact ⟨rfl,pZ _,pZ _,trivial⟩)
 refine bV C [] (.int (md:Int)) rfl ⟨congrArg D.int hmd,by decide,rfl,trivial⟩ ?_
 refine bV C [.v (.int (h1:Int)),.v (.str a)] (.str a) rfl ⟨rfl,q5,by decide,rfl,q7,trivial⟩ ?_
 refine bV C [.v (.int (l2:Int))] (.int ((l2 - 1:Nat):Int)) rfl ⟨congrArg D.int (B9 k6).symm,q6,trivial⟩ ?_
 exact Kc C [.v (.str a'),.v (.str b),.v (.str b')] (d:=.str r) ⟨congrArg D.str hr,q9,ai (GX ha _) (ac (by rfl:dn (600000 + 1) 16777216=true)),by decide,rfl,q8,q10,ai (z9 ham hb) (ac rfl),trivial⟩ ⟨rfl,rfl⟩
theorem BN (G:Good W){T:iA}{wa:Addr}(Wr:Writes W wa T)(hT:(T.all λp=>dn p.2.length 6)=true)(hts:∀x∈ts,x.length<=10)(h5:ts.length=5)(hn5:ns.length=5):
  ∀(f:Nat) (A:Around) (low high begin size:Nat) (t:Tr),Room A (f + 5)->low < 2 ^ 60->qm ns f low high begin size=some t->
   bz W A (.ref 163) [eE ts,.list (ns.map .int),.int (low:Int),.int (high:Int),.int (begin:Int),.int (size:Int),.ref wa,.kstr ⟨#[mk]⟩] [] (.str (dr (raw T mk ts t))):=by
 intro f
 induction f with
 | zero=>intro A low high begin size t _ _ h;exact (aK h).elim
 | succ f ih=>
 intro A low high begin size t Rm hl60 hj
 refine (fw (names:=joinNames) (ds':=LV ts ns low high begin size wa mk) vo G.prg (by kernel_rfl) (λg s vs kvs k rs hk rk=>?_) rfl Rm.dep λenv hs0 e2 e3=>?_).toTo
 .have:kvs=[]:=by simpa using hk
  subst this
  exact ⟨vs,A2 (P:=λvs=>∀S,peek (Kf W.w.params) S (bindArgs (kT 25 "_law_join" .none .none jf 162) ⟨vs,[]⟩)=some (joinNames.zip vs)) rs.length λa _ h=>A2 (P:=λt=>∀S,peek (Kf W.w.params) S (bindArgs (kT 25 "_law_join" .none .none jf 162) ⟨a :: t,[]⟩)=some (joinNames.zip (a :: t))) h λb _ h=>A2 (P:=λt=>∀S,peek (Kf W.w.params) S (bindArgs (kT 25 "_law_join" .none .none jf 162) ⟨a :: b :: t,[]⟩)=some (joinNames.zip (a :: b :: t))) h λc _ h=>K6 h λd e f g i=>GM _ a b c d e f g i,rs⟩
 .have Rd:=Room.deeper (env:=env) (k:=f + 5) Rm
  have hh:=Rd.handled
  have hu:(A.deeper env).units + 100 < cLine:=Rd.u100
  have Gl:=eX G.prg
  have hs:=hs0
  conv at hs=>rhs;whnf
  have C:=Cx.mk hs ‹_› ‹_› ‹_›
  clear hs0
  conv in aH 25=>whnf
  rw [qm] at hj
  obtain ⟨c1,hc1⟩:∃c,c=decide ((high:Int) - (low:Int) < 2):=⟨_,rfl⟩
  obtain ⟨c2,hc2⟩:∃c,c=decide ((size:Int) < 2):=⟨_,rfl⟩
  rw [<-hc1,<-hc2] at hj
  have t1:gv W (A.deeper env) env (dc joinNames [eE ts,.list (ns.map .int),.int (low:Int),.int (high:Int),.int (begin:Int),.int (size:Int),.ref wa,.kstr ⟨#[mk]⟩] .nil) (Expr.Compare (.BinOp (.Name "high" ⟨238,7,238,11⟩) .Sub (.Name "low" ⟨238,14,238,17⟩) ⟨238,7,238,17⟩) [.Lt] [.Constant (.int 2) 0 ⟨238,20,238,21⟩] ⟨238,7,238,21⟩) c1:=km (Lq (by exact ⟨dg⟩) hc1.symm) (by exact trivial)
  have t2:gv W (A.deeper env) env (dc joinNames [eE ts,.list (ns.map .int),.int (low:Int),.int (high:Int),.int (begin:Int),.int (size:Int),.ref wa,.kstr ⟨#[mk]⟩] .nil) (Expr.Compare (.Name "size" ⟨238,25,238,29⟩) [.Lt] [.Constant (.int 2) 0 ⟨238,32,238,33⟩] ⟨238,25,238,33⟩) c2:=km (Lq (by exact ⟨dg⟩) hc2.symm) (by exact trivial)
  refine sB (c:=c1||c2) (rM ?_) ?_
  .cases c1 with
   | true=>exact .or_true t1
   | false=>
    cases c2 with
    | true=>exact .or_false t1 (.or_true t2)
    | false=>exact .or_false t1 (.or_false t2 .or_nil)
  by_cases hc:(c1||c2)=true
  .rw [if_pos hc] at hj
   rw [if_pos hc]
   by_cases h0:low < 5
   .rw [if_pos h0] at hj
    (refine eQ hj ?_;clear hj;intro q₁;subst q₁)
    refine cX (EvS.of (by (apply gm;exact ⟨ak⟩;exact ⟨ak⟩;exact o6 (by exact JW h5 h0)))) rfl (by exact ⟨by exact ax _,by exact Jj hl60,trivial⟩) ⟨rfl,rfl⟩
   .rw [if_neg h0] at hj;exact (aK hj).elim
  .rw [if_neg hc] at hj
   rw [if_neg hc]
   apply cG
   by_cases hk:(high<=5&&(bL ns begin (low + 1) high==low + 1&&(bL ns ((begin:Int) + size + 1) low high==high&&(bR ns ((begin:Int) + size) low high==high&&(bR ns (-1) low high==low&&decide (1<=bR ns ((begin + size / 2:Nat):Int) low high))))))=true
   .rw [if_pos hk] at hj
    simp only [ao,decide_eq_true_eq,beq_iff_eq] at hk
    have k5:=hk.1;have k1:=hk.2.1;have k2:=hk.2.2.1;have k3:=hk.2.2.2.1;have k4:=hk.2.2.2.2.1;have k6:=hk.2.2.2.2.2
    obtain ⟨md,hmd⟩:∃m,m=begin + size / 2:=⟨_,rfl⟩
    rw [<-hmd] at hj k6
    obtain ⟨h1,hh1⟩:∃x,x=bL ns (md:Int) low high:=⟨_,rfl⟩
    obtain ⟨l2,hl2⟩:∃x,x=bR ns (md:Int) low high:=⟨_,rfl⟩
    rw [<-hh1,<-hl2] at hj
    rw [<-hl2] at k6
    cases ja:qm ns f low h1 begin (size / 2) with
    | none=>rw [ja] at hj;exact (aK hj).elim
    | some ta=>
    cases jb:qm ns f (l2 - 1) high md (size / 2) with
    | none=>rw [ja,jb] at hj;exact (aK hj).elim
    | some tb=>
    rw [ja,jb] at hj
    simp only at hj
    by_cases hsm:(AB ta&&AB tb)=true
    .rw [if_pos hsm] at hj
     (refine eQ hj ?_;clear hj;intro q₁;subst q₁)
     rw [ao] at hsm
     have l2le:l2<=5:=by
      have:=pI (p:=jT ns (md:Int)) (lo:=low) (hi:=high)
      rw [Kl _ _ _ _ k5,<-hl2] at this
      have hlh:low<=high:=by
       have e:c1=false:=by cases c1 with | true=>exact absurd rfl hc | false=>rfl
       have:=of_decide_eq_false (hc1.symm.trans e)
       exact (qN (.l Y1 Y0) [1]:cz [.L J2 (.s (.c Y0) (.c Y1))]) (Ab.mp this)
      have:=this hlh
      exact (qN (.l Y1 J5) [1,1]:cz [.l Y0 J5,.l Y1 Y0]) hk.1 this.2
     have R4:Room (A.deeper env) 4:=Rd.le ((qN (.l J4 (.a Y0 J5)) []:di []))
     have hx0:=xk (mk:=mk) hT hts hsm.1;have w1:=hx0.1;have w2:=hx0.2
     have hx0:=xk (mk:=mk) hT hts hsm.2;have w3:=hx0.1;have w4:=hx0.2
     have kJ:=cL vo G.prg
     refine Ga ⟨hs,Gl,hu,hh⟩ (md:=md) (h1:=h1) k6 (by rw [ve,hmd];rfl) (PY G.prg R4 hn5 k5 k1) (PY G.prg R4 hn5 k5 k2) (PX G.prg R4 hn5 k5 k3) (PX G.prg R4 hn5 k5 k4) (PY G.prg R4 hn5 k5 hh1.symm) (PX G.prg R4 hn5 k5 hl2.symm) ⟨kJ,by rw [ve];exact ih _ _ _ _ _ _ Rd hl60 ja⟩
      ⟨kJ,by rw [ve];exact ih _ _ _ _ _ _ Rd ((qA Y1 Y0 J1 (qN (aR Y1 Qd) [1,0,1]):cz [.l Y0 J5]) l2le) jb⟩ ⟨Wr.keep,Wr.call _ (Rd.le (JF)) _ w1⟩ ⟨Wr.keep,Wr.call _ (Rd.le (JF)) _ w3⟩ (by rw [dB];exact w2) ?_ (by rw [dB];exact w4) ?_
     .rw [show (⟨#[mk]⟩:Str)=dr [mk] from rfl,fX,dB,az,oj]
      exact mG w2
     .rw [show (⟨#[mk]⟩:Str)=dr [mk] from rfl,fX,fX]
      rfl
    .rw [if_neg hsm] at hj;exact (aK hj).elim
   .rw [if_neg hk] at hj;exact (aK hj).elim
theorem xv (ds:List D)(a:Nat):∀m,((aZ m).map (a + ·)).filterMap (ds[·]?)=(ds.drop a).take m
 | 0=>by simp
 | m + 1=>by
  rw [nC,bU,List.filterMap_append,xv ds a m,dk,List.getElem?_drop]
  congr 1
theorem k8 (ds:List D)(lo hi:Option Int):d9 ds lo hi none=(ds.drop (kms_lo lo ds.length)).take (kms_hi hi ds.length - kms_lo lo ds.length):=by
 unfold d9
 rw [kms_bounds]
 simp only [sliceRange_one]
 exact xv ds _ _
theorem xw (ds:List D)(a b:Nat):d9 ds (some (a:Int)) (some (b:Int)) none=(ds.drop a).take (b - a):=by
 rw [k8]
 unfold kms_lo kms_hi
 simp only
 rw [if_neg (Ab.mpr (vM)),if_neg (Ab.mpr (vM)),aB,aB]
 by_cases h:a<=ds.length
 .rw [j9 h]
  by_cases h':b<=ds.length
  .rw [j9 h']
  .rw [wm (xR (dY h')),aO (by rw [cU];exact Jv),aO (by rw [cU];exact (qB Y2 Y0 Y4 (qA Y3 Y1 Y4 (qN (.l Y2 Y3) [0,1,0,1,0,1])) (qN (.l Y2 Y3) [0,1]):mM [aR Y0 Y1]) (dY h'))]
 .rw [fI (MG (dY h)),fI (xR (dY h))];simp
theorem pb (ds:List D)(a:Nat):d9 ds (some (a:Int)) none none=ds.drop a:=by
 rw [k8]
 unfold kms_lo kms_hi
 simp only
 rw [if_neg (Ab.mpr (vM)),aB]
 by_cases h:a<=ds.length
 .rw [j9 h,aO (by rw [cU];exact Jv)]
 .rw [fI (MG (dY h)),fI (xR (dY h))];simp
theorem jM (ds:List D)(b:Nat):d9 ds none (some (b:Int)) none=ds.take b:=by
 rw [k8]
 unfold kms_lo kms_hi
 simp only
 rw [if_neg (Ab.mpr (vM)),aB,List.drop_zero,DZ]
 by_cases h:b<=ds.length
 .rw [j9 h]
 .rw [wm (xR (dY h)),aO (ae _),aO (xR (dY h))]
theorem xy (ds:List D):d9 ds none none none=ds:=by
 rw [k8]
 unfold kms_lo kms_hi
 simp
theorem FN (ds:List D):d9 ds none none (some 1)=ds:=xy ds
theorem En {α:Type}(ds:List α):∀n,n<=ds.length->((aZ n).map λk=>n - 1 - k).filterMap (ds[·]?)=(ds.take n).reverse
 | 0,_=>by simp
 | n + 1,h=>by
  have e:(aZ (n + 1)).map (λk=>n + 1 - 1 - k)=n :: (aZ n).map λk=>n - 1 - k:=by
   rw [List.range_succ_eq_map,aD,cO]
   congr 1
   apply gM
   intro k _
   show n + 1 - 1 - (k + 1)=n - 1 - k
   exact ar ((qB Y2 (.a Y3 J1) J1 (qB Y0 Y2 (.a Y4 J1) (qA Y5 Y3 J1 (qA Y1 Y5 Y4 (qN (.l Y0 Y1) [0,1,0,1,0,1,0,0,1]))) (qN (.l Y0 Y1) [0,1])) (qA Y0 Y2 (.a Y4 J1) (qN (.l Y0 Y1) [1,0,0,1])):qT [_,_,n + 1 - 1,n,k,n - 1] [] [] _)) ((qB Y2 (.a Y3 J1) J1 (qB Y1 Y2 (.a Y4 J1) (qB Y5 Y3 J1 (qB Y0 Y5 Y4 (qN (.l Y0 Y1) [0,1,0,0,1,0,0,0,1,0,0,1]) (qN (.l Y0 Y1) [0,1])) (qA Y0 Y5 Y4 (qN (.l Y0 Y1) [1,0,0,1]))) (qB Y5 Y3 J1 (qB Y0 Y5 Y4 (qN (.l Y0 Y1) [0,1,0,0,1,0,1,0,0,0,0,1]) (qN (.l Y0 Y1) [0,1])) (qA Y0 Y5 Y4 (qN (.l Y0 Y1) [1,0,0,1])))) (qA Y5 Y3 J1 (qA Y0 Y5 Y4 (qN (.l Y0 Y1) [1,0,1,0,1]))):qT [_,_,n + 1 - 1,n,k,n - 1] [] [] _))
  have e2:ds.take (n + 1)=ds.take n++[ds[n]]:=by rw [dk,List.getElem?_eq_getElem (qW h)];rfl
  rw [e,pP,En ds n (xR h),e2,List.getElem?_eq_getElem (qW h),List.reverse_append]
  rfl
theorem FM (ds:List D):d9 ds none none (some (-1))=ds.reverse:=by
 unfold d9
 rw [krv_bounds]
 show (sliceRange ((ds.length:Int) - 1) (-1) (-1)).filterMap (ds[·]?)=_
 rw [krv_sliceRange,En ds _ (ae _),aO (ae _)]
theorem B0 {p:Nat->Bool}:(∀i j,i<=j->j < hi->p i=true->p j=true)->lo<=hi->(∀i,lo<=i->i < iW p lo hi->p i=false)/\∀i,iW p lo hi<=i->i < hi->p i=true:=by
 apply Fa (P:=λlo hi r=>(∀i j,i<=j->j < hi->p i=true->p j=true)->lo<=hi->(∀i,lo<=i->i < r->p i=false)/\∀i,r<=i->i < hi->p i=true)
 .exact λlo hi h1 _ _=>⟨λi a b=>absurd a (Nat.not_le.mpr b),λi a b=>absurd (bI a b) h1⟩
 .intro lo hi r h1 h2 ih hm _
  have hx0:=ih (λi j hij hj=>hm i j hij ((qI Y3 (.a Y0 Y1) 1 (qN (aR Y2 Y1) [1,0,1,2] 1):gC [.l Y0 Y1,aR Y2 Y3]) (by assumption) hj)) (Mu h1)
  refine ⟨hx0.1,λi hi' hlt=>?_⟩
  by_cases h:i < (lo + hi) / 2
  .exact hx0.2 i hi' h
  .exact hm _ i (jq h) hlt h2
 .intro lo hi r h1 h2 ih hm _
  have hx0:=ih hm (E1 h1)
  refine ⟨λi hi' hlt=>?_,hx0.2⟩
  by_cases h:(lo + hi) / 2 + 1<=i
  .exact hx0.1 i h hlt
  .cases hp:p i with
   | false=>rfl
   | true=>exact absurd (h2.symm.trans (hm i _ ((qN (.l Y0 Y1) [1]:cz [aR Y0 (.a Y1 J1)]) (dY h)) (E1 h1) hp)) ag
section
variable {α:Type}(κ:α->Int)
noncomputable def oM (l:List α)(j:Nat)(x:α):List α:=l.take j++x :: l.drop j
noncomputable def A7 (l:List α)(x:α):List α:=oM l (iW (jT (l.map κ) (κ x)) 0 l.length) x
noncomputable def A8 (l:List α)(x:α):List α:=oM l (iW (jt (l.map κ) (κ x)) 0 l.length) x
noncomputable def vt (m:Option α)(x:α):Option α:=match m with
 | none=>some x
 | some y=>if κ x < κ y then some x else some y
noncomputable def zp (x:α)(m:Option α):Option α:=match m with
 | none=>some x
 | some y=>if κ y < κ x then some y else some x
noncomputable def fm (xs:List α):Option α:=xs.foldr (zp κ) none
noncomputable def G8 (l:List α):Prop:=l.Pairwise λa b=>κ a<=κ b
end
theorem ff {κ:α->Int}{l:List α}(h:i < l.length):mt (l.map κ) i=κ l[i]:=by
 unfold mt
 rw [List.getD_eq_getElem?_getD,List.getElem?_map,List.getElem?_eq_getElem h]
 rfl
theorem HH {κ:α->Int}{l:List α}(hs:G8 κ l)(hij:i<=j)(hj:j < l.length):κ (l[i]'(bI hij hj))<=κ l[j]:=by
 by_cases h:i=j
 .subst h;exact ee _
 .exact (List.pairwise_iff_getElem.mp hs) i j (bI hij hj) hj ((sG h).elim (λz0=>qW z0) (λz0=>(qN (aR Y0 Y1) [2,1]:cz [.l Y0 Y1,aR Y1 Y0]) hij z0))
theorem xi {κ:α->Int}{l:List α}{x:α}{r:Nat}(hs:G8 κ l)(h1:∀i (h:i < l.length),i < r->κ l[i]<=κ x)(h2:∀i (h:i < l.length),r<=i->κ x<=κ l[i]):G8 κ (oM l r x):=by
 unfold G8 oM
 have ht:∀a∈l.take r,κ a<=κ x:=λa ha=>by
  obtain ⟨i,hi,rfl⟩:=G2 ha
  rw [cT] at hi
  rw [List.getElem_take]
  exact h1 i ((qE Y1 Y3 Y2 (qN (aR Y0 Y2) [0,1,1]):gC [aR Y0 Y1]) hi) ((qE Y1 Y2 Y3 (qN (aR Y0 Y2) [1,0,1]):gC [aR Y0 Y1]) hi)
 have hd:∀b∈l.drop r,κ x<=κ b:=λb hb=>by
  obtain ⟨i,hi,rfl⟩:=G2 hb
  rw [cU] at hi
  rw [List.getElem_drop]
  exact h2 _ (by lia) (EU)
 refine List.pairwise_append.mpr ⟨hs.sublist (List.take_sublist _ _),List.pairwise_cons.mpr ⟨hd,hs.sublist (List.drop_sublist _ _)⟩,λa ha b hb=>?_⟩
 rcases List.mem_cons.mp hb with rfl | hb
 .exact ht a ha
 .exact Int.le_trans (ht a ha) (hd b hb)
theorem vc {l:List α}{x:α}{r:Nat}:(oM l r x).head? =if r=0 then some x else (match l.head? with | none=>some x | some y=>some y):=by
 unfold oM
 cases r with
 | zero=>rfl
 | succ r=>cases l<;>simp
theorem Li {κ:α->Int}{l:List α}(hs:G8 κ l)(x:α):G8 κ (A7 κ l x)/\(A7 κ l x).head? =vt κ l.head? x:=by
 have sp:=B0 (p:=jT (l.map κ) (κ x)) (lo:=0) (hi:=l.length) (λi j hij hj h=>by
  unfold jT at h ⊢
  rw [ff (by (first | exact bI hij hj | exact hj))] at h ⊢
  have:=HH hs hij hj
  have h:=of_decide_eq_true h
  exact decide_eq_true (dx h this)) (cq _)
 unfold A7
 generalize hr:iW (jT (l.map κ) (κ x)) 0 l.length=r at sp
 have s1:=sp.1;have s2:=sp.2
 refine ⟨xi hs (λi h hi=>?_) (λi h hi=>?_),?_⟩
 .have:=s1 i (cq _) hi
  unfold jT at this
  rw [ff h] at this
  have:=of_decide_eq_false this
  exact Iff.mp Ab this
 .have:=s2 i hi h
  unfold jT at this
  rw [ff h] at this
  have:=of_decide_eq_true this
  exact ay this
 .rw [vc]
  cases l with
  | nil=>simp [vt]
  | cons y l=>
   simp only [List.head?_cons,vt]
   by_cases h0:r=0
   .have:=s2 0 (JA h0) (by simp)
    unfold jT at this
    rw [ff (by simp)] at this
    have:=of_decide_eq_true this
    simp only [iG] at this
    rw [if_pos h0,if_pos this]
   .have:=s1 0 (ae _) (sF h0)
    unfold jT at this
    rw [ff (by simp)] at this
    have:=of_decide_eq_false this
    simp only [iG] at this
    rw [if_neg h0,if_neg this]
theorem Lj {κ:α->Int}{l:List α}(hs:G8 κ l)(x:α):G8 κ (A8 κ l x)/\(A8 κ l x).head? =zp κ x l.head?:=by
 have sp:=B0 (p:=jt (l.map κ) (κ x)) (lo:=0) (hi:=l.length) (λi j hij hj h=>by
  unfold jt at h ⊢
  rw [ff (by (first | exact bI hij hj | exact hj))] at h ⊢
  have:=HH hs hij hj
  simp only [dm,decide_eq_false_iff_not] at h ⊢
  exact Ab.mpr ((qN (.L I2 I1) [1,1]:Fs [.L I0 I1,.L I2 I0]) this (Ab.mp h))) (cq _)
 unfold A8
 generalize hr:iW (jt (l.map κ) (κ x)) 0 l.length=r at sp
 have s1:=sp.1;have s2:=sp.2
 refine ⟨xi hs (λi h hi=>?_) (λi h hi=>?_),?_⟩
 .have:=s1 i (cq _) hi
  unfold jt at this
  rw [ff h] at this
  simp only [Hg,decide_eq_true_eq] at this
  exact ay this
 .have:=s2 i hi h
  unfold jt at this
  rw [ff h] at this
  simp only [dm,decide_eq_false_iff_not] at this
  exact Iff.mp Ab this
 .rw [vc]
  cases l with
  | nil=>simp [zp]
  | cons y l=>
   simp only [List.head?_cons,zp]
   by_cases h0:r=0
   .have:=s2 0 (JA h0) (by simp)
    unfold jt at this
    rw [ff (by simp)] at this
    simp only [dm,decide_eq_false_iff_not,iG] at this
    rw [if_pos h0,if_neg this]
   .have:=s1 0 (ae _) (sF h0)
    unfold jt at this
    rw [ff (by simp)] at this
    simp only [Hg,decide_eq_true_eq,iG] at this
    rw [if_neg h0,if_pos this]
theorem vj {κ:α->Int}:∀(xs l:List α),G8 κ l->G8 κ (xs.foldl (A7 κ) l)/\(xs.foldl (A7 κ) l).head? =xs.foldl (vt κ) l.head?
 | [],l,h=>⟨h,rfl⟩
 | x :: xs,l,h=>by
  have hx0:=Li h x;have a:=hx0.1;have b:=hx0.2
  have hx0:=vj xs (A7 κ l x) a;have c:=hx0.1;have d:=hx0.2
  exact ⟨c,by (rewrite [eU,eU,d,b];try with_reducible rfl)⟩
theorem vk {κ:α->Int}:∀(xs l:List α),G8 κ l->G8 κ (xs.foldl (A8 κ) l)/\(xs.foldl (A8 κ) l).head? =xs.foldl (λm x=>zp κ x m) l.head?
 | [],l,h=>⟨h,rfl⟩
 | x :: xs,l,h=>by
  have hx0:=Lj h x;have a:=hx0.1;have b:=hx0.2
  have hx0:=vk xs (A8 κ l x) a;have c:=hx0.1;have d:=hx0.2
  exact ⟨c,by (rewrite [eU,eU,d,b];try with_reducible rfl)⟩
theorem zn {κ:α->Int}:∀(xs:List α) (y:α),xs.foldl (vt κ) (some y)=match fm κ xs with | none=>some y | some z=>if κ z < κ y then some z else some y
 | [],y=>rfl
 | x :: xs,y=>by
  rw [eU]
  have e:fm κ (x :: xs)=zp κ x (fm κ xs):=rfl
  rw [e]
  have e2:vt κ (some y) x=if κ x < κ y then some x else some y:=rfl
  rw [e2]
  by_cases h:κ x < κ y
  .rw [if_pos h,zn xs x]
   cases fm κ xs with
   | none=>simp [zp,h]
   | some z=>
    simp only [zp]
    by_cases h2:κ z < κ x
    .rw [if_pos h2];simp only;rw [if_pos (Jh h h2)]
    .rw [if_neg h2];simp only;rw [if_pos h]
  .rw [if_neg h,zn xs y]
   cases fm κ xs with
   | none=>simp [zp,h]
   | some z=>
    simp only [zp]
    by_cases h2:κ z < κ x
    .rw [if_pos h2]
    .rw [if_neg h2]
     simp only
     rw [if_neg (Ab.mpr (JD (Ab.mp h) (Ab.mp h2))),if_neg h]
theorem NP {κ:α->Int}(xs:List α):(xs.foldl (A7 κ) []).head? =fm κ xs:=by
 rw [(vj xs [] nD).2]
 cases xs with
 | nil=>rfl
 | cons x xs=>
  show xs.foldl (vt κ) (some x)=_
  rw [zn]
  show _=zp κ x (fm κ xs)
  cases fm κ xs<;>rfl
theorem NQ {κ:α->Int}(xs:List α):(xs.reverse.foldl (A8 κ) []).head? =fm κ xs:=by
 rw [(vk xs.reverse [] nD).2,List.foldl_reverse]
 rfl
theorem xu (f:α->D)(l:List α)(j:Nat)(x:α):jL (l.map f) j (f x)=(oM l j x).map f:=by
 unfold jL oM
 rw [bU,aD,fa,fT]
structure Nd where
 w:Int
 ks:List Int
 f:Int
noncomputable abbrev Ai:=Int×Nat×Nat
noncomputable def Qf:Nd:=⟨0,[],0⟩
noncomputable def kh (row:List Nd)(i:Nat):Nd:=row.getD i Qf
noncomputable def oN (row:List Nd)(i j:Nat):Bool:=((row.drop (i + 1)).take (j - (i + 1))).all λn=>n.f==0
noncomputable def sT (row:List Nd)(i:Nat):List Ai:=((aZ (row.length - (i + 1))).filter λm=>oN row i (i + 1 + m)).map λm=>((kh row i).w + (kh row (i + 1 + m)).w,i,i + 1 + m)
noncomputable def jV (row:List Nd):List Ai:=(aZ row.length).flatMap (sT row)
noncomputable def vV (ins:List Int):Int->List Int->List Int
 | _,[]=>[]
 | k,l :: r=>(if k∈ins then l + 1 else l) :: vV ins (k + 1) r
noncomputable def yI:Int->List Int->List Nd
 | _,[]=>[]
 | k,w :: r=>⟨w,[k],1⟩ :: yI (k + 1) r
noncomputable def ie (row:List Nd)(t:Ai):List Nd:=row.take t.2.1++[⟨t.1,(kh row t.2.1).ks++(kh row t.2.2).ks,0⟩]++(row.drop (t.2.1 + 1)).take (t.2.2 - (t.2.1 + 1))++row.drop (t.2.2 + 1)
noncomputable def tB (st:List Nd×List Int):List Nd×List Int:=match fm (·.1) (jV st.1) with
 | none=>st
 | some t=>(ie st.1 t,vV ((kh st.1 t.2.1).ks++(kh st.1 t.2.2).ks) 0 st.2)
noncomputable def uu (ws:List Int):Nat->List Nd×List Int
 | 0=>(yI 0 ws,ws.map λ_=>0)
 | n + 1=>tB (uu ws n)
noncomputable def qi (ws:List Int):List Int:=(uu ws (ws.length - 1)).2
theorem kq:∀(k:Int) (ws:List Int),(yI k ws).length=ws.length
 | _,[]=>rfl
 | k,w :: r=>by rw [yI,aM,aM,kq]
theorem kD (ins:List Int):∀(k:Int) (l:List Int),(vV ins k l).length=l.length
 | _,[]=>rfl
 | k,w :: r=>by rw [vV,aM,aM,kD]
variable {row:List Nd}
theorem nQ {t:Ai}(h:t∈jV row):t.2.1 < t.2.2/\t.2.2 < row.length:=by
 unfold jV sT at h
 apply aA (List.mem_flatMap.mp h);intro i hi h
 apply aA (Cj.mp h);intro m hm hq0;subst hq0
 have:=List.mem_range.mp (List.mem_filter.mp hm).1
 have:=List.mem_range.mp hi
 show i < i + 1 + m/\i + 1 + m < row.length
 lia
theorem A6 {l:List α}{x:α}(h1:i < j)(h2:j < l.length):(l.take i++[x]++(l.drop (i + 1)).take (j - (i + 1))++l.drop (j + 1)).length + 1=l.length:=by
 obtain ⟨a,rfl⟩:=Cg (show i + 1<=j from h1)
 obtain ⟨b,hb⟩:=Cg (show i + 1 + a + 1<=l.length from h2)
 rw [az,az,az,Ck (cZ (iZ h1 h2)),Ck (by rw [cU];exact Nat.sub_le_sub_right (cZ h2) _),cU,hb,dy,dy]
 exact sH (i + 1 + a) b 1
theorem uX {t:Ai}(h1:t.2.1 < t.2.2)(h2:t.2.2 < row.length):(ie row t).length + 1=row.length:=A6 h1 h2
theorem vr {α:Type}{κ:α->Int}:∀{xs:List α} {y:α},fm κ xs=some y->y∈xs
 | [],y,h=>(aK h).elim
 | x :: xs,y,h=>by
  have e:fm κ (x :: xs)=zp κ x (fm κ xs):=rfl
  rw [e] at h
  cases hz:fm κ xs with
  | none=>rw [hz] at h;simp only [zp,cj] at h;subst h;exact .head _
  | some z=>
   rw [hz] at h
   simp only [zp] at h
   split at h
   .simp only [cj] at h;subst h;exact .tail _ (vr hz)
   .simp only [cj] at h;subst h;exact .head _
theorem EL {κ:α->Int}(x:α)(xs:List α):∃y,fm κ (x :: xs)=some y:=by
 have e:fm κ (x :: xs)=zp κ x (fm κ xs):=rfl
 rw [e]
 cases fm κ xs with
 | none=>exact ⟨_,rfl⟩
 | some z=>simp only [zp];split<;>exact ⟨_,rfl⟩
theorem qx (h:2<=row.length):∃t,fm (·.1) (jV row)=some t:=by
 have hm:((kh row 0).w + (kh row (0 + 1 + 0)).w,0,0 + 1 + 0)∈jV row:=by
  unfold jV
  refine List.mem_flatMap.mpr ⟨0,List.mem_range.mpr ((qN (aR J0 Y0) [1]:di [.l J2 Y0]) h),?_⟩
  unfold sT
  refine Cj.mpr ⟨0,List.mem_filter.mpr ⟨List.mem_range.mpr ((qA Y1 Y0 J1 (qN (aR J0 Y1) [0,1,1]):cz [.l J2 Y0]) h),?_⟩,rfl⟩
  unfold oN
  simp
 cases hf:jV row with
 | nil=>rw [hf] at hm;cases hm
 | cons x xs=>exact EL x xs
variable {ws:List Int}
theorem o9 {ws:List Int}:∀n,n + 1<=ws.length->(uu ws n).1.length=ws.length - n/\(uu ws n).2.length=ws.length
 | 0,_=>⟨kq _ _,by show (ws.map _).length=_;rw [ab]⟩
 | n + 1,h=>by
  have hx0:=o9 (ws:=ws) n (Jb h);have a:=hx0.1;have b:=hx0.2
  obtain ⟨t,ht⟩:=qx (row:=(uu ws n).1) (Mo h hx0.1)
  have hx0:=nQ (vr ht);have m1:=hx0.1;have m2:=hx0.2
  have e:uu ws (n + 1)=(ie (uu ws n).1 t,vV ((kh (uu ws n).1 t.2.1).ks++(kh (uu ws n).1 t.2.2).ks) 0 (uu ws n).2):=by
   show tB (uu ws n)=_
   unfold tB
   rw [ht]
  rw [e]
  have:=uX m1 m2
  refine ⟨by show (ie _ t).length=_;exact ar ((qB Y3 Y4 (.a Y5 J1) (qB Y1 Y4 Y5 (qN (.l Y2 Y3) [0,1,0,0,0,1,1,0,1]) (qN (.l Y2 Y3) [0,1,0,0,0,0,1,0,1])) (qB Y1 Y4 Y5 (qN (.l Y2 Y3) [0,1,0,1,0,0,1,0,1]) (qN (.l Y2 Y3) [0,1,0,0,0,0,1,0,1])):yy [.e Y0 Y1,.e (.a Y2 J1) Y0]) a this) ((qB Y3 Y4 (.a Y5 J1) (qA Y1 Y4 Y5 (qN (.l Y3 Y2) [0,1,0,1,0,0,1,0,1])) (qN (.l Y3 Y2) [0,1]):yy [.e Y0 Y1,.e (.a Y2 J1) Y0]) a this),by show (vV _ 0 _).length=_;rw [kD];exact b⟩
theorem zm (h:row.length<=5):(jV row).length<=25:=by
 unfold jV
 have:=gZ (l:=aZ row.length) (b:=5) (f:=sT row) λi _=>by
  unfold sT
  rw [ab]
  have:=eH (λm=>oN row i (i + 1 + m)) (aZ (row.length - (i + 1)))
  rw [ce] at this
  exact (qA Y2 Y0 (.a Y3 J1) (qN (.l Y1 J5) [1,0,1,1]):gC [.l Y0 J5,.l Y1 Y2]) h this
 rw [ce] at this
 exact JG h this
theorem qg (h:i < row.length):kh row i∈row:=by
 unfold kh
 rw [List.getD_eq_getElem?_getD,List.getElem?_eq_getElem h]
 exact List.getElem_mem h
theorem HG {ws:List Int}:∀n,n + 1<=ws.length->∀d∈(uu ws n).1,d.ks.length<=2 ^ n
 | 0,_=>by
  have:∀(k:Int) (ws:List Int),∀d∈yI k ws,d.ks.length<=1:=λk ws=>by
   induction ws generalizing k with
   | nil=>intro d h;cases h
   | cons w r ih=>
    intro d h
    rcases List.mem_cons.mp h with rfl | h
    .exact ae _
    .exact ih _ d h
  exact this 0 ws
 | n + 1,h=>by
  have ih:=HG (ws:=ws) n (Jb h)
  have hx0:=o9 (ws:=ws) n (Jb h);have a:=hx0.1;have b:=hx0.2
  obtain ⟨t,ht⟩:=qx (row:=(uu ws n).1) (Mo h hx0.1)
  have hx0:=nQ (vr ht);have m1:=hx0.1;have m2:=hx0.2
  have e:(uu ws (n + 1)).1=ie (uu ws n).1 t:=by
   show (tB (uu ws n)).1=_
   unfold tB
   rw [ht]
  rw [e]
  intro d hd
  have hp:2 ^ (n + 1)=2 ^ n + 2 ^ n:=by rw [nA];exact ar ((qN (.l (.w Y0 2) (.a Y0 Y0)) []:di [])) ((qN (.l (.a Y0 Y0) (.w Y0 2)) []:di []))
  unfold ie at hd
  simp only [jH,rF] at hd
  rcases hd with ((hd | rfl) | hd) | hd
  .have:=ih d (oS hd);exact Ja hp this
  .have h1:=ih _ (qg (row:=(uu ws n).1) (i:=t.2.1) (iZ m1 m2))
   have h2:=ih _ (qg (row:=(uu ws n).1) (i:=t.2.2) m2)
   rw [az]
   exact (qN (.l (.a Y2 Y3) Y0) [0,1,1,1]:gC [.e Y0 (.a Y1 Y1),.l Y2 Y1,.l Y3 Y1]) hp h1 h2
  .have:=ih d (gr (oS hd));exact Ja hp this
  .have:=ih d (gr hd);exact Ja hp this
theorem Dz (hs:env.scope=sc)(hft:jU scope t=true)(hl:outs.length=ds.length)(h:∀env',env'.scope=eP sc scope->∀(k:Nat) (d o:D),ds[k]? =some d->outs[k]? =some o->∃ρ',Ce t d (.under scope ρ)=some ρ'/\aQ W A env' ρ' elt o):
  ∀cl C,gN (compEnvC scope cl C env) (.under scope ρ) t/\mo W A (compEnvC scope cl C env) (i6 W A (compEnvC scope cl C env) elt []) t [] (.under scope ρ) ds (outs.map λo=>[o]):=
 λcl C=>⟨jF hs hft,by simpa using hl,λk d o e1 e2=>by
  rw [List.getElem?_map,bq] at e2
  obtain ⟨o',e2,rfl⟩:=e2
  obtain ⟨ρ',h1,h2⟩:=h _ (eo hs) k d o' e1 e2
  exact ⟨ρ',true,h1,rfl,λ_=>⟨o',h2,rfl⟩,λq=>(ag q.symm).elim⟩⟩
theorem Dy {c2:Comprehension}(hs:env.scope=sc)(hft:jU scope t=true)(h:∀env',env'.scope=eP sc scope->Rows (λd o=>∃ρ',Ce t d (.under scope ρ)=some ρ'/\i6 W A env' elt [c2] ρ' o) ds os):
  ∀cl C,gN (compEnvC scope cl C env) (.under scope ρ) t/\mo W A (compEnvC scope cl C env) (i6 W A (compEnvC scope cl C env) elt [c2]) t [] (.under scope ρ) ds os:=
 λcl C=>⟨jF hs hft,(h _ (eo (cl:=cl) (C:=C) hs)).length,λk d o e1 e2=>by
  apply aA ((h _ (eo hs)).get k d o e1 e2);intro ρ' h1 h2
  exact ⟨ρ',true,h1,rfl,λ_=>h2,λq=>(ag q.symm).elim⟩⟩
theorem BF {t2 i2 c:Expr}(hns:dR i2=true)(hf:gN env ρ t2)(hi:dS W A env ρ t2 i2 ds)(ho:outs=os.flatten)(h:Rows (λd o=>∃ρ' b,Ce t2 d ρ=some ρ'/\gv W A env ρ' c b/\(b=true->∃d',aQ W A env ρ' elt d'/\o=[d'])/\(b=false->o=[])) ds os):i6 W A env elt [⟨t2,i2,[c],0⟩] ρ outs:=
 ⟨ds,os,rfl,hns,hf,hi,⟨h.length,λk d o e1 e2=>by
  apply ik (h.get k d o e1 e2);intro ρ' b h1 h2 h3 h4
  exact ⟨ρ',b,h1,⟨b,h2,by cases b<;>rfl⟩,λq=>h3 q,h4⟩⟩,ho⟩
theorem un (hs:env.scope=sc)(h:(bk sc==.function&&sc.names.lookup x'==some .local&&q.line==p.line&&!(scope.names.any λy=>y.1==x'&&(y.2==.local||y.2==.cell)))=true):
  swapsWith (.ListComp elt gs scope p) (some (.Name x' q)) n env=pure true:=by
 subst hs
 show pure (env.blockKind==.function&&env.kindOf x'==some .local&&q.line==p.line&&!(scope.names.any λy=>y.1==x'&&(y.2==.local||y.2==.cell)))=(pure true:Sem Bool)
 rw [<-h]
 rfl
theorem xZ {i:Expr}(hh:A.handled=none)(hs:env.scope=sc)(hok:gD sc scope=true)(hns:dR i=true)(hgs:∀c∈gs,c.is_async=0/\dR c.iter=true)(hw:(bk sc==.function&&sc.names.lookup y==some .local&&py.line==pos.line&&!(scope.names.any λz=>z.1==y&&(z.2==.local||z.2==.cell)))=true)(hy:sc.names.lookup y=some .local)(hi:dS W A env ρ t i ds)(hbody:∀cl C,gN (compEnvC scope cl C env) (.under scope ρ) t/\mo W A (compEnvC scope cl C env) (i6 W A (compEnvC scope cl C env) elt gs) t [] (.under scope ρ) ds os)(hz:outs.length<=sizeLine)(ho:outs=os.flatten)(h:Blk W A env (.bind y (.list outs) ρ) L rest Kn Pr):Blk W A env ρ L (.Assign [.Name y py] (.ListComp elt (⟨t,i,[],0⟩ :: gs) scope pos) spos :: rest) Kn Pr:=
 fh (λ_ h=>h) (λg s F k l Q E hQ=>mx hh (i8 hs hok) hns hgs (un hs hw) (by unfold bj;rw [hs];exact hy) hi hbody (by rw [<-ho];exact hz) ho F k λg' s' x F'=>
  hQ g' s' (x.mono λa h=>.inl (.inl h)) F' (l.step (x.mono λa h=>.inl h))) h
theorem pH {i:Expr}(hh:A.handled=none)(hs:env.scope=sc)(hok:gD sc scope=true)(hns:dR i=true)(hw:(bk sc==.function&&sc.names.lookup y==some .local&&py.line==pos.line&&!(scope.names.any λz=>z.1==y&&(z.2==.local||z.2==.cell)))=true)(hy:sc.names.lookup y=some .local)(hft:jU scope t=true)(hi:dS W A env ρ t i ds)(hz:outs.length<=sizeLine)(hl:outs.length=ds.length)(hb:∀env',env'.scope=eP sc scope->∀(k:Nat) (d o:D),ds[k]? =some d->outs[k]? =some o->∃ρ',Ce t d (.under scope ρ)=some ρ'/\aQ W A env' ρ' elt o)(h:Blk W A env (.bind y (.list outs) ρ) L rest Kn Pr):Blk W A env ρ L (.Assign [.Name y py] (.ListComp elt [⟨t,i,[],0⟩] scope pos) spos :: rest) Kn Pr:=
 xZ hh hs hok hns (λc hc=>by cases hc) hw hy hi (Dz hs hft hl hb) hz (nV outs).symm h
theorem j8 (hs:env.scope=sc)(hx:sc.names.lookup x=some .cell)(hz:cm ρ=false)(he:aQ W A env ρ (.ListComp elt gs scope pos) d)(h:Blk W A env (.bind x d ρ) L rest Kn Pr):
  Blk W A env ρ L (.Assign [.Name x p'] (.ListComp elt gs scope pos) p :: rest) Kn Pr:=
 iV he (.inr ⟨by unfold bj;rw [hs];exact hx,hz⟩) (Cy hs hx) h
noncomputable def jc (n:Nd):D:=.tup [.int n.w,.list (n.ks.map .int),.int n.f]
noncomputable def mN (t:Ai):D:=.tup [.int t.1,.int (t.2.1:Int),.int (t.2.2:Int)]
noncomputable def jd (a m:Nat):List D:=(aZ m).map λj=>.int ((a + j:Nat):Int)
theorem fW {a:Int}{b:Nat}(h:a=(b:Int))(m:Nat):fu a m=jd b m:=by
 subst h
 unfold fu jd
 apply gM
 intro j _
 rw [show ((b:Int) + (j:Int))=((b + j:Nat):Int) by exact au ((qN (.L (.a (.c Y0) (.c Y1)) (.c (.a Y0 Y1))) []:cz [])) ((qN (.L (.c (.a Y0 Y1)) (.a (.c Y0) (.c Y1))) []:cz []))]
theorem xl {P:D->D->Prop}:∀(ws:List Int) (k:Int),(∀i w,P (.tup [.int i,.int w]) (jc ⟨w,[i],1⟩))->Rows P (ju k (ws.map .int)) ((yI k ws).map jc)
 | [],_,_=>.nil
 | w :: ws,k,h=>.cons (h k w) (xl ws (k + 1) h)
theorem xn {P:D->D->Prop}{ins:List Int}:∀(ls:List Int) (k:Int),(∀i l,P (.tup [.int i,.int l]) (.int (if i∈ins then l + 1 else l)))->Rows P (ju k (ls.map .int)) ((vV ins k ls).map .int)
 | [],_,_=>.nil
 | w :: ws,k,h=>.cons (h k w) (xn ws (k + 1) h)
theorem B6 (k:Int):∀ins:List Int,(ins.map PyData.int).any (λq=>bZ q (.int k))=decide (k∈ins)
 | []=>by simp
 | i :: ins=>by
  rw [aD,List.any_cons,B6 k ins,EM]
  by_cases h:i=k
  .subst h;simp
  .have h':¬k=i:=λe=>h e.symm
   simp [h,h']
theorem Lk (k:Int)(ins:List Int):ll .In (.int k) (.list (ins.map .int))=some (decide (k∈ins),[bQ (.list (ins.map .int)),bQ (.int k)]):=by
 have e1:lL (.int k)=some (.int k):=rfl
 have e2:kf (ins.map D.int)=some (ins.map PyData.int):=um (λa=>rfl) ins
 have e:Of (.int k) (.list (ins.map .int))=some (decide (k∈ins),[bQ (.list (ins.map .int)),bQ (.int k)]):=by
  show tq ((lL (.int k)).bind λp=>(kf (ins.map D.int)).bind λps=>some (ps.any (λq=>bZ q p),[bQ (.list ps),bQ p])) _=_
  rw [e1,e2]
  show some (_,_)=_
  rw [B6]
 exact e
theorem m7 {α β:Type}(p:α->Bool)(f:α->β):∀l:List α,(l.filter p).map f=(l.map λx=>if p x then [f x] else []).flatten
 | []=>rfl
 | x :: l=>by
  rw [aD,lA,<-m7 p f l,jl]
  split<;>simp
theorem rU (ds:List D)(a b:Option Int):(d9 ds a b none).length<=ds.length:=by
 rw [k8,cT,cU]
 lia
theorem yR (h:i < row.length):(row.map jc)[i]? =some (jc (kh row i)):=by
 unfold kh
 rw [List.getElem?_map,List.getD_eq_getElem?_getD,List.getElem?_eq_getElem h]
 rfl
structure Puts (W:Wd)(pa:Addr)(st:Int)where
 ins:List Ai->Ai->List Ai
 rev:Bool
 keep:cJ W (.ref pa)
 pick:∀ds:List D,d9 ds none none (some st)=if rev then ds.reverse else ds
 nz:tY (some st)=true
 call:∀A,Room A 5->∀key:D,cJ W key->isNone key=false->(∀A,Room A 3->∀t:Ai,bz W A key [mN t] [] (.int t.1))->∀(l:List Ai) (x:Ai) (a:Addr),l.length < 1000->
  CallL W A (.ref pa) [.ref a,mN x] [("key",key)] [(a,.list (l.map mN))] .none [(a,.list ((ins l x).map mN))]
 head:∀xs:List Ai,((if rev then xs.reverse else xs).foldl ins []).head? =fm (·.1) xs
 len:∀l x,(ins l x).length=l.length + 1
theorem qp {l:List α}{x:α}(h:j<=l.length):(oM l j x).length=l.length + 1:=by
 unfold oM
 rw [az,aM,cT,cU]
 exact ar (Pf h) (Pe)
theorem ED (hk:∀A,Room A 3->∀t:Ai,bz W A key [mN t] [] (.int t.1))(l:List Ai):∀A,Room A 3->mz W A key (l.map mN) (l.map (·.1)):=λA R=>⟨by rw [ab,ab],λi d hd=>by
 rw [List.getElem?_map,bq] at hd
 apply aA (hd);intro t ht hq0;subst hq0
 obtain ⟨hi,rfl⟩:=List.getElem?_eq_some_iff.mp ht
 (rewrite [ff (κ:=(·.1)) hi];try with_reducible rfl)
 exact hk A R _⟩
noncomputable def Os (hP:jv W):Puts W 23 1 where
 ins:=A7 (·.1)
 rev:=false
 keep:=cL jW hP
 pick:=FN
 nz:=rfl
 call:=λA R key hkp hkn hk l x a hl=>by
  have:=BU (A:=A) hP R (ns:=l.map (·.1)) (x:=x.1) (key:=key) (xd:=mN x) (ds:=l.map mN) hkp hkn (ED hk l) (λA R=>hk A R x) (a:=a) (by rw [ab];exact aw hl (ac rfl)) (by rw [ab,ab])
  rw [xu,ab] at this
  exact this
 head:=NP
 len:=λl x=>qp (pI (cq _)).2
noncomputable def Ot (hP:jv W):Puts W 41 (-1) where
 ins:=A8 (·.1)
 rev:=true
 keep:=cL jX hP
 pick:=FM
 nz:=rfl
 call:=λA R key hkp hkn hk l x a hl=>by
  have:=BV (A:=A) hP R (ns:=l.map (·.1)) (x:=x.1) (key:=key) (xd:=mN x) (ds:=l.map mN) hkp hkn (ED hk l) (λA R=>hk A R x) (a:=a) (by rw [ab];exact aw hl (ac rfl)) (by rw [ab,ab])
  rw [xu,ab] at this
  exact this
 head:=NQ
 len:=λl x=>qp (pI (cq _)).2
theorem vn:FnK 156 24 "_law_levels" .none .none jf 155:=⟨λP=>by kernel_rfl,λP=>by kernel_rfl⟩
noncomputable def levNames:List Str:=["weights","put","step"]
theorem B1 (P:Params)(a b c:Value):∀S,peek (Kf P) S (bindArgs (kT 24 "_law_levels" .none .none jf 155) ⟨[a,b,c],[]⟩)=some (levNames.zip [a,b,c]):=λS=>by kernel_rfl
noncomputable def OA (ws:List Int)(pa:Addr)(st:Int):Rho:=.bind "weights" (.list (ws.map .int)) (.bind "put" (.ref pa) (.bind "step" (.int st) .nil))
theorem wV (G:Good W)(Rm:Room A 8)(h5:ws.length=5){pa:Addr}{st:Int}(P:Puts W pa st):
  bz W A (.ref 156) [.list (ws.map .int),.ref pa,.int st] [] (.list ((qi ws).map .int)):=
 kC vn G (Nv B1) Rm λenv hs hh hu Gl Rd e2 e3=>by
  conv at hs=>rhs;whnf
  have C:=Cx.mk hs ‹_› ‹_› ‹_›
  have hkind:env.scope.kind=.function:=by rw [hs]
  conv in aH 24=>whnf
  refine j8 (d:=.list ((yI 0 ws).map jc)) hs rfl rfl (jY (ds:=ju 0 (ws.map .int)) hh hs rfl rfl rfl (qn hh (by exact ky) (aJ rfl) (by exact ky)) (by rw [ab,kq];show _<=16777216;exact JT h5) (by rw [ig,ab,ab,kq]) λenv' hs'=>Rows.get ?_) ?_
  .conv at hs'=>rhs;whnf
   have C:=Cx.mk hs' ‹_› ‹_› ‹_›
   exact xl ws 0 λi w=>⟨_,rfl,by exact ky⟩
  refine pH (ds:=ws.map .int) (outs:=(ws.map λ_=>(0:Int)).map .int) hh hs rfl rfl rfl rfl rfl (cC hh (by exact ky)) (by rw [ab,ab];show _<=16777216;exact JT h5) (by rw [ab,ab,ab]) (λenv' hs'=>Rows.get ?_) ?_
  .conv at hs'=>rhs;whnf
   have C:=Cx.mk hs' ‹_› ‹_› ‹_›
   rw [cO]
   exact Rows.map λw _=>⟨_,rfl,by exact ky⟩
  refine gL (ds:=jd 0 4) (λt=>.bind "levels" (.list ((uu ws t).2.map .int)) (.bind "row" (.list ((uu ws t).1.map jc)) (OA ws pa st))) (λ_=>[]) hh rfl ?_ (SubR.le ⟨rfl,rfl,rfl,rfl,rfl,trivial⟩ rfl) rfl (λ_ _=>rfl) (λt d hd=>?_) ?_
  .rw [<-fW (a:=0) rfl]
   exact gF (iQ (n:=((ws.map D.int).length:Int) - 1) (by rw [ab];exact ar ((qK Y1 (.s (.c Y0) J1) (qN (.l Y1 J4) [0,1,0,1]) (qN (.l Y1 J4) [0,1]):cz [.e Y0 J5]) h5) ((qL Y1 (.s (.c Y0) J1) (qN (.l J4 Y1) [1,0,1]):cz [.e Y0 J5]) h5)) hh (by exact ky) (aJ rfl) (ky ‹_› rfl (by exact ⟨by rw [ab];exact (qN (cK (.c Y0) pQ) [1]:di [.e Y0 J5]) h5,trivial⟩)) (by rw [ab];exact (qN (.L (.n G3) (.s (.c Y0) J1)) []:di [])) (by rw [ab];exact (qN (cK (.s (.c Y0) J1) G3) [1]:di [.e Y0 J5]) h5))
  .obtain ⟨ht4,rfl⟩:t < 4/\d=.int (t:Int):=by
    unfold jd at hd
    rw [List.getElem?_map,bq] at hd
    apply aA (hd);intro j hj hq0;subst hq0
    obtain ⟨h1,h2⟩:=List.getElem?_eq_some_iff.mp hj
    rw [ce] at h1
    rw [rG] at h2
    subst h2
    exact ⟨h1,by rw [fL]⟩
   refine ⟨dP hs rfl,_,rfl,?_⟩
   have hx0:=o9 (ws:=ws) t (by exact JU h5 ht4);have hrl:=hx0.1;have hll:=hx0.2
   have hks:=HG (ws:=ws) t (by exact JU h5 ht4)
   obtain ⟨row,hrow⟩:∃r,r=(uu ws t).1:=⟨_,rfl⟩
   obtain ⟨lv,hlv⟩:∃r,r=(uu ws t).2:=⟨_,rfl⟩
   have hst:uu ws (t + 1)=tB (row,lv):=by rw [hrow,hlv];rfl
   rw [<-hrow] at hrl hks
   rw [<-hlv] at hll
   rw [<-hrow,<-hlv]
   obtain ⟨tt,htt⟩:=qx (row:=row) (by exact (qA Y3 Y0 Y1 (qN (.l J2 Y2) [0,1,0,1,1,0,1]):gC [.e Y0 J5,aR Y1 J4,.e Y2 Y3]) h5 ht4 hrl)
   have hx0:=nQ (vr htt);have m1:=hx0.1;have m2:=hx0.2
   have hr5:row.length<=5:=by exact (qA Y2 Y0 Y3 (qN (.l Y1 J5) [1,0,1,0,1]):gC [.e Y0 J5,.e Y1 Y2]) h5 hrl
   have hp4:2 ^ t<=8:=by
    have:2 ^ t<=2 ^ 3:=gw (by decide) (by exact (qN (.l Y0 J3) [1]:di [aR Y0 J4]) ht4)
    exact this
   have hfl:=zm hr5
   have szR:(row.map jc).length<=sizeLine:=by rw [ab];show _<=16777216;exact ai hr5 (ac rfl)
   refine xZ (ds:=jd 0 row.length) (os:=(aZ row.length).map λi=>(sT row i).map mN) (outs:=(jV row).map mN) hh hs rfl rfl (λc hc=>by rw [rF.mp hc];exact ⟨rfl,rfl⟩) rfl rfl ?_ (Dy hs rfl λenv' hs'=>?_) ?_ ?_ ?_
   .rw [<-fW (a:=0) rfl]
    exact iQ (n:=((row.map jc).length:Int)) (by rw [ab];exact ar ((qK Y0 (.c Y1) (qN (.l Y0 Y1) [0,1]) (qN (.l Y0 Y1) [0,1]):cz [])) ((qL Y1 (.c Y0) (qN (.l Y0 Y1) [1]):cz []))) hh (by exact ky) (aJ rfl) (ky ‹_› rfl (by exact ⟨by rw [ab];exact L4 hr5,trivial⟩)) (by rw [ab];exact JO) (by rw [ab];exact L1 hr5)
   .conv at hs'=>rhs;whnf
    have C:=Cx.mk hs' ‹_› ‹_› ‹_›
    unfold jd
    refine Rows.map λi hi=>⟨_,rfl,?_⟩
    have hi:=List.mem_range.mp hi
    rw [fL]
    refine BF (ds:=jd (i + 1) (row.length - (i + 1))) (os:=(aZ (row.length - (i + 1))).map λm=>if oN row i (i + 1 + m) then [mN ((kh row i).w + (kh row (i + 1 + m)).w,i,i + 1 + m)] else []) rfl (λx hx=>?_) ?_ ?_ ?_
    .have:x="j":=rF.mp hx
     subst this
     exact ⟨by unfold bj;rw [hs'];rfl,rfl⟩
    .rw [<-fW (a:=(i:Int) + 1) (by exact au (E0) (EZ))]
     exact xI (a:=(i:Int) + 1) (n:=((row.map jc).length:Int)) (by rw [ab];exact ar ((qK Y0 (.s (.c Y2) (.a (.c Y3) J1)) (qA Y1 Y2 (.a Y3 J1) (qN (.l Y0 Y1) [0,1,0,1])) (qN (.l Y0 Y1) [0,1]):gC [])) ((qK Y1 (.s (.c Y2) (.a (.c Y3) J1)) (qB Y0 Y2 (.a Y3 J1) (qN (.l Y0 Y1) [0,1,0,0,0,1]) (qN (.l Y0 Y1) [0,1])) (qB Y0 Y2 (.a Y3 J1) (qN (.l Y0 Y1) [0,1,0,1]) (qN (.l Y0 Y1) [0,1])):gC []))) hh (by exact ky) (aJ rfl) (by exact ky) (aJ rfl) (ky ‹_› rfl (by exact ⟨by rw [ab];exact L4 hr5,trivial⟩)) (by exact Mi) (by exact (qN (cK (.a (.c Y1) J1) G3) [1,1]:cz [.l Y0 J5,aR Y1 Y0]) hr5 hi) (by rw [ab];exact JO) (by rw [ab];exact L1 hr5)
    .unfold sT
     rw [cO]
     exact m7 _ _ _
    .unfold jd
     refine Rows.map λm hm=>⟨_,oN row i (i + 1 + m),rfl,?_,λhb=>⟨_,?_,by rw [if_pos hb]⟩,λhb=>by rw [hb];rfl⟩
     .have hm:=List.mem_range.mp hm
      obtain ⟨sub,hsub⟩:∃x,x=(row.drop (i + 1)).take (i + 1 + m - (i + 1)):=⟨_,rfl⟩
      obtain ⟨ones,hones⟩:∃x:List Int,x=(sub.filter λn=>n.f !=0).map λ_=>(1:Int):=⟨_,rfl⟩
      have hsl:sub.length<=5:=by rw [hsub,cT,cU];exact (qA Y2 Y0 (.a Y3 J1) (qE Y1 Y4 Y2 (qN (.l Y1 J5) [0,1,1,0,1])):qT [_,_,row.length - (i + 1),i,i + 1 + m - (i + 1)] [] [.l Y0 J5] _) hr5
      have hol:ones.length<=5:=by rw [hones,ab];exact ai (eH _ _) hsl
      have hfo:oN row i (i + 1 + m)=decide (ones=[]):=by
       unfold oN
       rw [<-hsub,hones]
       clear hsub hones hol hsl
       induction sub with
       | nil=>rfl
       | cons n r ih=>
        rw [lG,ih,jl]
        by_cases h0:n.f=0
        .simp [h0]
        .simp [h0]
      rw [hfo]
      refine km (Eg hu (IK (qy (ds:=sub.map jc) (os:=sub.map λn=>if n.f !=0 then [D.int 1] else []) (outs:=ones.map .int) hh hs' rfl rfl rfl (cC hh ?_) ?_ ?_ ?_ λenv2 hs2=>Rows.get ?_)) (by exact ⟨ak⟩) (BJ ones []) rfl) (by exact ⟨pZ _,pZ [],trivial⟩)
      .refine ku (Dm (by exact ⟨ak⟩) (congrArg D.list ?_)) (by exact ⟨szR,trivial⟩)
       have:=xw (row.map jc) (i + 1) (i + 1 + m)
       rw [<-fT,<-fa,<-hsub] at this
       exact this
      .rw [ab];show _<=16777216;exact ai hol (ac rfl)
      .rw [ab,ab]
      .rw [hones,cO];exact m7 _ _ _
      .conv at hs2=>rhs;whnf
       have C:=Cx.mk hs2 ‹_› ‹_› ‹_›
       refine Rows.map λn _=>⟨_,n.f !=0,rfl,?_,λhb=>⟨.int 1,by exact ky,by rw [if_pos hb]⟩,λhb=>by rw [hb];rfl⟩
       exact km (KF rfl (by apply gm;exact ⟨ak⟩;exact ⟨ak⟩;exact rfl) rfl) (by exact ⟨by decide,by decide,trivial⟩)
     .have hm:=List.mem_range.mp hm
      refine ku (by
       apply so
       .apply dX rfl
        .apply zy
         .apply gm
          .apply gm;exact ⟨ak⟩;exact ⟨ak⟩;exact o7 (yR (by exact hi))
          .exact ⟨ak⟩
          .exact rfl
         .apply gm
          .apply gm;exact ⟨ak⟩;exact ⟨ak⟩;exact o7 (yR (by exact (qB Y4 Y5 Y6 (qB Y1 Y3 (.a Y2 J1) (qN (aR (.a (.a Y2 J1) Y0) Y3) [0,1,0,0,0,0,1]) (qN (aR (.a (.a Y2 J1) Y0) Y3) [0,1,0,0,0,0,1,1])) (qA Y1 Y3 (.a Y2 J1) (qN (aR (.a (.a Y2 J1) Y0) Y3) [1,0,0,1,0,1,1,1])):qT [_,_,_,_,_,_,_] [] [aR Y0 Y1,aR Y2 Y3,.e Y3 Y4] _) hm hi hrl))
          .exact ⟨ak⟩
          .exact rfl
         .exact rfl
        ·(apply dX rfl;exact ⟨ak⟩;apply dX rfl;exact ⟨ak⟩;exact iS)
       .exact rfl) (by exact ⟨by exact ax _,by exact (qN (cK (.c Y1) pQ) [1,1]:cz [.l Y0 J5,aR Y1 Y0]) hr5 hi,by decide,by decide,by exact ax _,by exact (qA Y3 Y0 (.a Y1 J1) (qN (cK (.c (.a (.a Y1 J1) Y2)) pQ) [1,0,2,1,1]):gC [.l Y0 J5,aR Y1 Y0,aR Y2 Y3]) hr5 hi hm,by decide,by decide,trivial⟩)
   .rw [ab];show _<=16777216;exact ai hfl (ac rfl)
   .unfold jV
    rw [List.map_flatMap]
    rfl
   refine n8 (d:=.list []) (lW .nil (by decide)) (el hs rfl) rfl λap=>?_
   obtain ⟨xs,hxs⟩:∃x,x=(if P.rev then (jV row).reverse else jV row):=⟨_,rfl⟩
   have hxl:xs.length<=25:=by rw [hxs];split;rw [dO];exact hfl;exact hfl
   have hfold:∀ys:List Ai,(ys.foldl P.ins []).length=ys.length:=λys=>by
    have:∀(ys l:List Ai),(ys.foldl P.ins l).length=l.length + ys.length:=λys=>by
     induction ys with
     | nil=>intro l;rfl
     | cons y ys ih=>intro l;rw [eU,ih,P.len,aM];exact ar (Mx) (Mw)
    rw [this];simp
   have hhead:(xs.foldl P.ins []).head? =some tt:=by rw [hxs,P.head];exact htt
   refine gL (ds:=xs.map mN) (λk=>.bind "pairs" (.ref ap) (.bind "levels" (.list (lv.map .int)) (.bind "row" (.list (row.map jc)) (OA ws pa st)))) (λk=>[(ap,.list (((xs.take k).foldl P.ins []).map mN))]) hh rfl ?_ (SubR.le ⟨rfl,rfl,rfl,rfl,rfl,rfl,trivial⟩ rfl) rfl (λ_ _=>rfl) (λk d hd=>?_) ?_
   .refine gF (cC hh (ku (Dm (Gn (x:=none) (y:=none) (z:=some st) (by exact ⟨ak⟩) (by exact uJ) (by exact uJ) (by (apply CR;exact ⟨ak⟩)) P.nz) (congrArg D.list ?_)) (by exact ⟨by rw [ab];show _<=16777216;exact ai hfl (ac rfl),trivial⟩)))
    rw [P.pick,hxs]
    split
    .rw [ua]
    .rfl
   .rw [List.getElem?_map,bq] at hd
    apply aA (hd);intro x hx hq0;subst hq0
    refine ⟨dP hs rfl,_,rfl,?_⟩
    have hkl:=(List.getElem?_eq_some_iff.mp hx).1
    refine lw hkind (by exact ky) (vA (by (apply dX rfl;exact ⟨ak⟩;apply dX rfl;exact ⟨ak⟩;exact iS)) (by exact trivial)) ((Bm (IK (nf (c:=155) (P:=153) (q:="_law_levels.<locals>.<lambda>") hs (by kernel_rfl) ⟨by rw [G.tabs];exact .tail _ (.tail _ (.head _)),e2⟩ (by rw [G.may];rfl) (by rw [e3];rfl) ⟨rfl,rfl⟩)) vy).of trivial) P.keep
     (P.call _ (Rd.le (by exact (qN (.l J5 (.k 7)) []:Hx []))) _ lX rfl (λA' R' t'=>mh (names:=["one"]) yE rfl rfl rfl rfl (by simp) rfl rfl R'.dep λenv2 hs2=>ku (by apply gm;(apply IL ‹_› ‹_›;exact rfl);(apply Go;exact rfl);exact rfl) (by exact ⟨by decide,by decide,trivial⟩)) _ x ap (by rw [hfold,cT];exact (qE Y1 Y2 Y0 (qN (aR Y1 (.k 1000)) [0,1,1]):dL [.l Y0 (.k 25)]) hxl)) rfl ?_
    refine db ⟨?_,SubR.le ⟨rfl,rfl,rfl,rfl,rfl,rfl,trivial⟩ rfl⟩
    rw [dk,hx,List.foldl_append]
    rfl
   rw [ab,aO (ae _)]
   refine iU (a:=ap) (x:="pairs") rfl rfl ?_
   have hget:((xs.foldl P.ins []).map mN)[0]? =some (mN tt):=by
    rw [List.getElem?_map,<-List.head?_eq_getElem?,hhead]
    rfl
   refine gg (ds:=[.int tt.1,.int (tt.2.1:Int),.int (tt.2.2:Int)]) hh (EvS.of (by (apply gm;exact ⟨ak⟩;exact ⟨ak⟩;exact o7 (i:=0) hget))) hs rfl rfl rfl (by exact ⟨by decide,by decide,trivial⟩) ?_
   obtain ⟨ins,hins⟩:∃x,x=(kh row tt.2.1).ks++(kh row tt.2.2).ks:=⟨_,rfl⟩
   have hk1:=hks _ (qg (row:=row) (i:=tt.2.1) (by exact iZ m1 m2))
   have hk2:=hks _ (qg (row:=row) (i:=tt.2.2) m2)
   refine cH (d:=.list (ins.map .int)) (EvS.of (by
    apply zy
    .apply gm
     .apply gm;exact ⟨ak⟩;exact ⟨ak⟩;exact o7 (yR (by exact iZ m1 m2))
     .exact ⟨ak⟩
     .exact rfl
    .apply gm
     .apply gm;exact ⟨ak⟩;exact ⟨ak⟩;exact o7 (yR m2)
     .exact ⟨ak⟩
     .exact rfl
    .exact rfl)) hs rfl rfl (by rw [hins,bU]) (by exact ⟨by exact ax _,by exact (qN (cK (.c Y0) pQ) [1,1,1]:dL [aR Y0 Y1,aR Y1 Y2,.l Y2 J5]) m1 m2 hr5,by decide,by decide,by exact ax _,by exact (qN (cK (.c Y0) pQ) [1,1]:cz [aR Y0 Y1,.l Y1 J5]) hx0.2 hr5,by decide,by decide,by rw [ab,ab];show _<=16777216;exact (qN (.l (.a Y1 Y2) (.k 16777216)) [2,1,1]:dL [.l Y0 (.k 8),.l Y1 Y0,.l Y2 Y0]) hp4 hk1 hk2,trivial⟩) ?_
   refine pH (ds:=ju 0 (lv.map .int)) (outs:=(vV ins 0 lv).map .int) hh hs rfl rfl rfl rfl rfl (qn hh (by exact ky) (aJ rfl) (by exact ky)) (by rw [ab,kD];show _<=16777216;exact (qN (.l Y1 (.k 16777216)) [1,0,1]:cz [.e Y0 J5,.e Y1 Y0]) h5 hll) (by rw [ab,kD,ig,ab]) (λenv' hs'=>Rows.get ?_) ?_
   .conv at hs'=>rhs;whnf
    have C:=Cx.mk hs' ‹_› ‹_› ‹_›
    refine xn lv 0 λi l=>⟨_,rfl,?_⟩
    refine l8 (c:=decide (i∈ins)) (km (Eg hu (by exact ⟨ak⟩) (by exact ⟨ak⟩) (Lk i ins) rfl) (by exact ⟨pZ _,(Sh.int i 0).ok (by decide),trivial⟩)) ?_
    by_cases hi:i∈ins
    .rw [if_pos (decide_eq_true hi),if_pos hi];exact ky
    .rw [if_neg (by simpa using hi),if_neg hi];exact ky
   have hpl:=λa b=>rU (row.map jc) a b
   simp only [ab] at hpl
   have p1:=hpl none (some (tt.2.1:Int))
   have p2:=hpl (some ((tt.2.1:Int) + 1)) (some (tt.2.2:Int))
   have p3:=hpl (some ((tt.2.2:Int) + 1)) none
   refine cH (d:=.list ((ie row tt).map jc)) (EvS.of (by exact ⟨ak⟩)) hs rfl rfl ?_ (by exact ⟨szR,by simp only [aM,hV];show _<=16777216;exact (qN (aR Y1 (.k 16777216)) [1,1]:cz [.l Y0 J5,.l Y1 Y0]) hr5 p1,szR,by simp only [az,aM,hV];show _<=16777216;exact (qN (.l (.a (.a Y1 J1) Y2) (.k 16777216)) [2,1,1]:dL [.l Y0 J5,.l Y1 Y0,.l Y2 Y0]) hr5 p1 p2,szR,by simp only [az,aM,hV];show _<=16777216;exact (qN (.l (.a (.a (.a Y1 J1) Y2) Y3) (.k 16777216)) [3,1,1,1]:gC [.l Y0 J5,.l Y1 Y0,.l Y2 Y0,.l Y3 Y0]) hr5 p1 p2 p3,trivial⟩) ?_
   .have q1:=jM (row.map jc) tt.2.1
    have q2:=xw (row.map jc) (tt.2.1 + 1) tt.2.2
    have q3:=pb (row.map jc) (tt.2.2 + 1)
    rw [show (((tt.2.1 + 1:Nat)):Int)=(tt.2.1:Int) + 1 by exact au (EZ) (E0)] at q2
    rw [show (((tt.2.2 + 1:Nat)):Int)=(tt.2.2:Int) + 1 by exact au (EZ) (E0)] at q3
    rw [q1,q2,q3]
    unfold ie
    rw [<-hins]
    simp only [bU,aD,dh,fa,fT]
    rfl
   .refine db ⟨rfl,?_⟩
    have e:tB (row,lv)=(ie row tt,vV ins 0 lv):=by
     unfold tB
     simp only
     rw [htt,hins]
    rw [hst,e]
    exact SubR.le ⟨rfl,rfl,rfl,rfl,rfl,trivial⟩ rfl
  .refine cX (EvS.of (by exact ⟨ak⟩)) ?_ (by exact trivial) ⟨rfl,rfl⟩
   unfold qi jd
   rw [h5,ab,ce]
structure V5 where
 a:Int
 b:Int
 c:Int
 d:Int
 e:Int
noncomputable def V5.add (u v:V5):V5:=⟨u.a + v.a,u.b + v.b,u.c + v.c,u.d + v.d,u.e + v.e⟩
noncomputable def V5.smul (k:Int)(v:V5):V5:=⟨k * v.a,k * v.b,k * v.c,k * v.d,k * v.e⟩
noncomputable def V5.zero:V5:=⟨0,0,0,0,0⟩
noncomputable def V5.unit:Nat->V5
 | 0=>⟨1,0,0,0,0⟩
 | 1=>⟨0,1,0,0,0⟩
 | 2=>⟨0,0,1,0,0⟩
 | 3=>⟨0,0,0,1,0⟩
 | _=>⟨0,0,0,0,1⟩
noncomputable def V5.le (u v:V5):Bool:=decide (u.a<=v.a)&&(decide (u.b<=v.b)&&(decide (u.c<=v.c)&&(decide (u.d<=v.d)&&decide (u.e<=v.e))))
noncomputable def V5.dot (w v:V5):Int:=w.a * v.a + w.b * v.b + w.c * v.c + w.d * v.d + w.e * v.e
noncomputable def V5.Nn (w:V5):Prop:=0<=w.a/\0<=w.b/\0<=w.c/\0<=w.d/\0<=w.e
theorem t8 (w u v:V5):w.dot (u.add v)=w.dot u + w.dot v:=by unfold V5.dot V5.add;simp only [gx];exact au ((qN (.L (.a (.a (.a (.a (.a I0 I1) (.a I2 I3)) (.a I4 I5)) (.a I6 I7)) (.a I8 I9)) (.a (.a (.a (.a (.a I0 I2) I4) I6) I8) (.a (.a (.a (.a I1 I3) I5) I7) I9))) []:qT [] [_,_,_,_,_,_,_,_,_,_] [] _)) ((qN (.L (.a (.a (.a (.a (.a I0 I1) I2) I3) I4) (.a (.a (.a (.a I5 I6) I7) I8) I9)) (.a (.a (.a (.a (.a I0 I5) (.a I1 I6)) (.a I2 I7)) (.a I3 I8)) (.a I4 I9))) []:qT [] [_,_,_,_,_,_,_,_,_,_] [] _))
theorem vJ (w:V5)(k:Int)(v:V5):w.dot (v.smul k)=k * w.dot v:=by
 unfold V5.dot V5.smul
 simp only [gx]
 rw [i5 w.a,i5 w.b,i5 w.c,i5 w.d,i5 w.e]
theorem IT {w u v:V5}(hw:w.Nn)(h:u.le v=true):w.dot u<=w.dot v:=by
 unfold V5.le at h
 simp only [ao,decide_eq_true_eq] at h
 have h1:=h.1;have h2:=h.2.1;have h3:=h.2.2.1;have h4:=h.2.2.2.1;have h5:=h.2.2.2.2
 have w1:=hw.1;have w2:=hw.2.1;have w3:=hw.2.2.1;have w4:=hw.2.2.2.1;have w5:=hw.2.2.2.2
 have e1:=bv h1 w1
 have e2:=bv h2 w2
 have e3:=bv h3 w3
 have e4:=bv h4 w4
 have e5:=bv h5 w5
 unfold V5.dot
 exact (qN (.L (.a (.a (.a (.a I0 I2) I4) I6) I8) (.a (.a (.a (.a I1 I3) I5) I7) I9)) [1,1,1,1,1]:qT [] [_,_,_,_,_,_,_,_,_,_] [.L I0 I1,.L I2 I3,.L I4 I5,.L I6 I7,.L I8 I9] _) e1 e2 e3 e4 e5
theorem qQ (w:V5):w.dot V5.zero=0:=by unfold V5.dot V5.zero;simp
noncomputable def sk:List Nat->V5
 | []=>V5.zero
 | k :: r=>(V5.unit k).add (sk r)
theorem sU:∀x y,sk (x++y)=(sk x).add (sk y)
 | [],y=>by show sk y=V5.zero.add (sk y);unfold V5.add V5.zero;simp
 | k :: x,y=>by
  show (V5.unit k).add (sk (x++y))=((V5.unit k).add (sk x)).add (sk y)
  rw [sU x y]
  unfold V5.add
  simp only [rH]
noncomputable abbrev Hy:=List (V5×Bool)
noncomputable def G5 (w:V5)(hy:Hy):Prop:=∀p∈hy,(if p.2 then 1 else 0)<=w.dot p.1
noncomputable def DA:Hy->V5->Int->Nat->V5×Int×Nat
 | [],v,k,N=>(v,k,N)
 | p :: hy,v,k,N=>DA hy (v.add (p.1.smul ((N % 4:Nat):Int))) (k + ((N % 4:Nat):Int) * (if p.2 then 1 else 0)) (N / 4)
theorem zO {w:V5}:∀{hy:Hy} {v:V5} {k:Int} {N:Nat},G5 w hy->k<=w.dot v->(DA hy v k N).2.1<=w.dot (DA hy v k N).1
 | [],v,k,N,_,h=>h
 | p :: hy,v,k,N,ho,h=>by
  refine zO (hy:=hy) (λq hq=>ho q (.tail _ hq)) ?_
  rw [t8,vJ]
  have:=bv (ho p (.head _)) (ax (N % 4))
  exact (qN (.L (.a I0 I2) (.a I1 I3)) [1,1]:lJ [.L I0 I1,.L I2 I3]) h this
noncomputable def M8:List Nat->V5
 | [a,b,c,d,e]=>⟨a,b,c,d,e⟩
 | _=>V5.zero
noncomputable def TLn:List (List Nat):=(bS 5 0).map λt=>(ib t).map Int.toNat
noncomputable def za (lv:List Nat)(hy:Hy):List (List Nat)->Nat->Bool×Nat
 | [],N=>(true,N)
 | t :: ts,N=>let r:=DA hy V5.zero 0 N;let q:=za lv hy ts r.2.2;(r.1.le ((M8 t).add ((M8 lv).smul (-1)))&&q.1,q.2)
noncomputable def y9 (lv:List Nat)(hy:Hy)(N:Nat):Bool×Nat:=
 if TLn.contains lv then za lv hy TLn N else let r:=DA hy V5.zero 0 N;(r.1.le V5.zero&&decide (1<=r.2.1),r.2.2)
theorem uV {w:V5}{lv:List Nat}{hy:Hy}(hw:w.Nn)(ho:G5 w hy):∀{ts:List (List Nat)} {N:Nat},(za lv hy ts N).1=true->∀t∈ts,w.dot (M8 lv)<=w.dot (M8 t)
 | [],_,_,t,h=>by cases h
 | t :: ts,N,h,t',ht'=>by
  have h:=Bool.and_eq_true_iff.mp (show (_&&_)=true from h)
  rcases List.mem_cons.mp ht' with rfl | ht'
  .have h1:=zO (N:=N) ho (tO (qQ w).symm)
   have h2:=IT hw h.1
   rw [t8,vJ] at h2
   have h3:(0:Int)<=(DA hy V5.zero 0 N).2.1:=by
    have:∀(hy:Hy) (v:V5) (k:Int) (N:Nat),0<=k->0<=(DA hy v k N).2.1:=λhy=>by
     induction hy with
     | nil=>intro v k N h;exact h
     | cons p hy ih=>
      intro v k N h
      refine ih _ _ _ ?_
      have:(0:Int)<=((N % 4:Nat):Int) * (if p.2=true then 1 else 0):=by split<;>(first | exact (qN (.L J0 (.w (.c Y0) 1)) []:di []) | exact (qN (.L J0 (.w (.c Y0) 0)) []:di []))
      exact JR h this
    exact this _ _ _ _ (ee _)
   lia
  .exact uV hw ho h.2 t' ht'
noncomputable def Pk (w:V5)(lv:List Nat):Prop:=lv∈TLn/\∀t∈TLn,w.dot (M8 lv)<=w.dot (M8 t)
theorem C6 {w:V5}{lv:List Nat}{hy:Hy}{N:Nat}(hw:w.Nn)(ho:G5 w hy)(h:(y9 lv hy N).1=true):Pk w lv:=by
 unfold y9 at h
 split at h
 .rename_i hc
  exact ⟨List.contains_iff_mem.mp hc,uV hw ho h⟩
 .simp only [ao,decide_eq_true_eq] at h
  have h1:=zO (N:=N) ho (tO (qQ w).symm)
  have h2:=IT hw h.1
  rw [qQ] at h2
  exact ((qF [1,1,1]:kI [.L J1 I0,.L I0 I1,.L I1 J0]) h.2 h1 h2).elim
noncomputable abbrev SN:=List Nat×Bool
noncomputable def Px:SN:=([],false)
noncomputable def pX (row:List SN)(i:Nat):SN:=row.getD i Px
noncomputable def zl (row:List SN)(i j:Nat):Bool:=((row.drop (i + 1)).take (j - (i + 1))).all λn=>!n.2
noncomputable def Bc (row:List SN):List (Nat×Nat):=(aZ row.length).flatMap λi=>((aZ (row.length - (i + 1))).filter λm=>zl row i (i + 1 + m)).map λm=>(i,i + 1 + m)
noncomputable def qe (row:List SN)(p:Nat×Nat):V5:=sk ((pX row p.1).1++(pX row p.2).1)
noncomputable def EG (row:List SN)(me:Nat×Nat)(c:Nat):Nat->List (Nat×Nat)->Hy
 | _,[]=>[]
 | d,p :: r=>((qe row p).add ((qe row me).smul (-1)),dz d c) :: EG row me c (d + 1) r
noncomputable def xY (ins:List Nat):Nat->List Nat->List Nat
 | _,[]=>[]
 | k,l :: r=>(if ins.contains k then l + 1 else l) :: xY ins (k + 1) r
noncomputable def xG (row:List SN)(p:Nat×Nat):List SN:=row.take p.1++[((pX row p.1).1++(pX row p.2).1,false)]++(row.drop (p.1 + 1)).take (p.2 - (p.1 + 1))++row.drop (p.2 + 1)
noncomputable def HU (f:Nat->Nat×Nat->Nat->Bool×Nat):Nat->List (Nat×Nat)->Nat->Bool×Nat
 | _,[],N=>(true,N)
 | c,p :: r,N=>let a:=f c p N;let b:=HU f (c + 1) r a.2;(a.1&&b.1,b.2)
theorem AM {f:Nat->Nat×Nat->Nat->Bool×Nat}:∀{l:List (Nat×Nat)} {c N:Nat},(HU f c l N).1=true->∀i p,l[i]? =some p->∃N',(f (c + i) p N').1=true
 | [],c,N,_,i,p,h=>by simp at h
 | q :: l,c,N,h,i,p,hp=>by
  have h:=Bool.and_eq_true_iff.mp (show (_&&_)=true from h)
  cases i with
  | zero=>simp at hp;subst hp;exact ⟨N,h.1⟩
  | succ i=>
   obtain ⟨N',h'⟩:=AM h.2 i p (by simpa using hp)
   exact ⟨N',by rw [show c + (i + 1)=c + 1 + i by exact ar (Mw) (Mx)];exact h'⟩
noncomputable def PW:Nat->List SN->List Nat->Hy->Nat->Bool×Nat
 | 0,row,lv,hy,N=>y9 lv hy N
 | n + 1,row,lv,hy,N=>HU (λc p N=>PW n (xG row p) (xY ((pX row p.1).1++(pX row p.2).1) 0 lv) (hy++EG row p c 0 (Bc row)) N) 0 (Bc row) N
noncomputable def MY:Nat:=57721267045234283126502201420202235370246284782649361468104685741987599705336897490302836078547618479733451297991651594313670959018424771301897370471972487686360238660247007639246223664851479169027901094259046154495393648177596610306993924655274893735158087527210211654792731518797981734609591570935137922141905815084203398977055653619907420175458415569825572032644309279391464257894970611446936248945775836362820775305301375524837440020783129599479154298683087327867188736735959736994877654564197207273302469614972525861094129874065074023097867585828843576020280674007198116773272748924638320669911503452989418894718987019876429958159942551370133296811233742717392902883782579669697373911093799177715988061400492175078111238066304192541257142917672060808135237043855477875021199836593637190610679532872724802947478168813142254909970044139267564644021468345282939054812048095667371023015642758965584723381275764987299514841607630619879867293101664686014853042313978590542526402345961664219357893144796226196247857967398485678408889384717067388176343581044626105604020718127718877656227171771389632925333199527186287898040606431882749858853974678491038011555849503350261454203841343298904965383712128177885254044345969724073252815570087705722319059513368591687661627822258420651597822787766206450988653727193297322020973636905758602796334336005529628703325451985578813282880438042767131203973831268672522331309508170163645753281267741102970537974920408465641549734864704847591902923145309692091354880450131373819565778986802429419750558933412454706205998157641875711176898837769823599366552899611683653844234855083757885872171466336754386649541694714709653023142680669282095735195021115326987072098977488234027084978522342882045215456313718712449294423561094343495702903729630011618268497679371686137035542125487924099387443184261639096695527625971879527060413877084636698753133727447714589722105139252483191753791375913339851779984378218702800631908701402913004577526515118863444283928394442586487404521625706846659044121164357054788580478326437339967116149880098857070940991400837573871588230950727099876678887130453983667546275604007578304383180161264167021404452808877918897829178633562358798302875647638019819676352173439392307588953315870886139920402435798494689007010917667338523356019532249263534919634679173981527529796878206861901283960871495775635398852534912679917305002377415506549926442751464398424612264035453601482102295522871407373230936964943085297278092016049874091866952747002160359416810099933991537818160626861705193492653190941039977908100580811853535716192299265340885269290072115768210236246925966132206060916688813584833727401312023194735087497948678680057593239746156623606794766934784349780415144580242045206380680878253614478820087530674577940193468086484577445217207310919741066425195572101304892988011265458536198052984214711498954943126562172762583211780743663527277857999243989514461376778561552980671259283300431446737155741752344524657737860542825657255587934847549335350965603043326846102412749072020753320540570171184525351363726051754996083179561316331458983876046908946872003552499232776828459952402897996409905433377956044927289856983451671733488348771056290465631610222977323299755925159673860
theorem LD:(PW 4 [([0],true),([1],true),([2],true),([3],true),([4],true)] [0,0,0,0,0] [] MY).1=true:=by kernel_rfl
theorem EK {α:Type}{κ:α->Int}:∀{xs:List α} {y:α},fm κ xs=some y->∃c:Nat,xs[c]? =some y/\∀(d:Nat) (z:α),xs[d]? =some z->κ y<=κ z/\(d < c->κ y < κ z)
 | [],y,h=>(aK h).elim
 | x :: xs,y,h=>by
  have e:fm κ (x :: xs)=zp κ x (fm κ xs):=rfl
  rw [e] at h
  cases hz:fm κ xs with
  | none=>
   rw [hz] at h
   simp only [zp,cj] at h
   subst h
   have hn:xs=[]:=by
    cases xs with
    | nil=>rfl
    | cons a r=>obtain ⟨w,hw⟩:=EL (κ:=κ) a r;rw [hw] at hz;exact (uv hz).elim
   subst hn
   refine ⟨0,rfl,λd z hd=>?_⟩
   cases d with
   | zero=>simp at hd;subst hd;exact ⟨ee _,λh=>JJ h⟩
   | succ d=>simp at hd
  | some m=>
   apply aA (EK hz);intro c hc hall
   rw [hz] at h
   simp only [zp] at h
   split at h
   .rename_i hlt
    simp only [cj] at h
    subst h
    refine ⟨c + 1,by simpa using hc,λd z hd=>?_⟩
    cases d with
    | zero=>simp at hd;subst hd;exact ⟨ay hlt,λ_=>hlt⟩
    | succ d=>have hx0:=hall d z (by simpa using hd);have h1:=hx0.1;have h2:=hx0.2;exact ⟨h1,λh=>h2 ((qN (aR Y0 Y1) [1]:cz [aR (.a Y0 J1) (.a Y1 J1)]) h)⟩
   .rename_i hlt
    simp only [cj] at h
    subst h
    refine ⟨0,rfl,λd z hd=>?_⟩
    cases d with
    | zero=>simp at hd;subst hd;exact ⟨ee _,λh=>JJ h⟩
    | succ d=>have hx0:=hall d z (by simpa using hd);have h1:=hx0.1;have h2:=hx0.2;exact ⟨JD (Ab.mp hlt) hx0.1,λh=>(qN (cK I0 I2) [1,1,1]:qT [_] [_,_,_] [.L I0 I1,.L I1 I2,aR (.a Y0 J1) J0] _) (Ab.mp hlt) hx0.1 h⟩
noncomputable def lj (w:V5)(s:SN):Nd:=⟨w.dot (sk s.1),s.1.map dZ,if s.2 then 1 else 0⟩
noncomputable def yB (w:V5)(row:List SN)(p:Nat×Nat):Ai:=(w.dot (qe row p),p.1,p.2)
theorem jD (w:V5)(row:List SN)(i:Nat):kh (row.map (lj w)) i=lj w (pX row i):=by
 unfold kh pX
 rw [List.getD_eq_getElem?_getD,List.getD_eq_getElem?_getD,List.getElem?_map]
 cases row[i]? with
 | some s=>rfl
 | none=>show Qf=lj w Px;unfold lj Px sk;simp only;rw [qQ];rfl
theorem Dk (w:V5)(row:List SN)(i j:Nat):oN (row.map (lj w)) i j=zl row i j:=by
 unfold oN zl
 rw [<-fT,<-fa,List.all_map]
 congr 1
 funext s
 obtain ⟨ks,b⟩:=s
 cases b<;>rfl
theorem vi (w:V5)(row:List SN):jV (row.map (lj w))=(Bc row).map (yB w row):=by
 unfold jV Bc
 rw [List.map_flatMap,ab]
 refine l7 λi _=>?_
 unfold sT
 rw [cO,ab]
 have e:(λm=>oN (row.map (lj w)) i (i + 1 + m))=λm=>zl row i (i + 1 + m):=funext λm=>Dk w row i _
 rw [e]
 apply gM
 intro m _
 show _=yB w row (i,i + 1 + m)
 unfold yB qe
 rw [jD,jD,sU,t8]
 rfl
theorem xX (ins:List Nat):∀(k:Nat) (lv:List Nat),vV (ins.map dZ) (k:Int) (lv.map dZ)=(xY ins k lv).map dZ
 | _,[]=>rfl
 | k,l :: lv=>by
  have ih:=xX ins (k + 1) lv
  have hm:((k:Int)∈ins.map dZ)<->k∈ins:=by
   rw [Cj]
   constructor
   .rintro ⟨x,hx,e⟩
    have:x=k:=dZ.inj e
    exact this▸hx
   .exact λh=>⟨k,h,rfl⟩
  rw [aD,vV,xY,aD]
  rw [show ((k:Int) + 1)=((k + 1:Nat):Int) by exact au (E0) (EZ),ih]
  congr 1
  by_cases h:k∈ins
  .rw [if_pos (hm.mpr h),if_pos (List.contains_iff_mem.mpr h)];rfl
  .rw [if_neg (λq=>h (hm.mp q)),if_neg (λq=>h (List.contains_iff_mem.mp q))]
theorem zf (w:V5)(row:List SN)(p:Nat×Nat):ie (row.map (lj w)) (yB w row p)=(xG row p).map (lj w):=by
 unfold ie xG
 simp only [bU,aD,dh,fa,fT]
 have e:(⟨(yB w row p).1,(kh (row.map (lj w)) (yB w row p).2.1).ks++(kh (row.map (lj w)) (yB w row p).2.2).ks,0⟩:Nd)=lj w ((pX row p.1).1++(pX row p.2).1,false):=by
  rw [jD,jD]
  unfold lj yB qe
  simp
 rw [e]
 rfl
noncomputable def Nj:Nat->List Nd×List Int->List Nd×List Int
 | 0,st=>st
 | n + 1,st=>Nj n (tB st)
theorem A9 {w:V5}{row:List SN}{me:Nat×Nat}{c:Nat}:∀{l:List (Nat×Nat)} {d:Nat},(∀i q,l[i]? =some q->w.dot (qe row me)<=w.dot (qe row q)/\(d + i < c->w.dot (qe row me) < w.dot (qe row q)))->G5 w (EG row me c d l)
 | [],d,_,p,hp=>by cases hp
 | q :: l,d,h,p,hp=>by
  rcases List.mem_cons.mp hp with rfl | hp
  .have hx0:=h 0 q rfl;have h1:=hx0.1;have h2:=hx0.2
   simp only
   (rewrite [t8,vJ];try with_reducible rfl)
   split
   .rename_i hb
    have:=h2 (by simpa [kQ] using hb)
    lia
   .lia
  .exact A9 (l:=l) (d:=d + 1) (λi q' hq=>by
    have hx0:=h (i + 1) q' (by simpa using hq);have h1:=hx0.1;have h2:=hx0.2
    exact ⟨h1,λhh=>h2 ((qN (aR (.a Y0 (.a Y1 J1)) Y2) [1]:dL [aR (.a (.a Y0 J1) Y1) Y2]) hh)⟩) p hp
theorem ze {row:List SN}{p:Nat×Nat}(h1:p.1 < p.2)(h2:p.2 < row.length):(xG row p).length + 1=row.length:=A6 h1 h2
theorem J7 {w:V5}(hw:w.Nn):∀(n:Nat) (row:List SN) (lv:List Nat) (hy:Hy) (N:Nat),row.length=n + 1->G5 w hy->(PW n row lv hy N).1=true->
  ∃lf,(Nj n (row.map (lj w),lv.map dZ)).2=lf.map dZ/\Pk w lf
 | 0,row,lv,hy,N,hl,ho,h=>⟨lv,rfl,C6 hw ho h⟩
 | n + 1,row,lv,hy,N,hl,ho,h=>by
  obtain ⟨t,ht⟩:=qx (row:=row.map (lj w)) (by rw [ab];exact (qN (.l J2 Y0) [0,1]:cz [.e Y0 (.a (.a Y1 J1) J1)]) hl)
  apply aA (EK ht);intro c hc hall
  rw [vi,List.getElem?_map,bq] at hc
  apply aA (hc);intro p hp hq0;subst hq0
  have hx0:=nQ (vr ht);have m1:=hx0.1;have m2:=hx0.2
  rw [ab] at m2
  obtain ⟨N',h'⟩:=AM h c p hp
  rw [fL] at h'
  have hh:G5 w (EG row p c 0 (Bc row)):=A9 λi q hq=>by
   have hx0:=hall i (yB w row q) (by rw [vi,List.getElem?_map,hq];rfl);have a:=hx0.1;have b:=hx0.2
   exact ⟨a,λhlt=>b ((qN (aR Y0 Y1) [1]:cz [aR (.a J0 Y0) Y1]) hlt)⟩
  have:=J7 hw n (xG row p) (xY ((pX row p.1).1++(pX row p.2).1) 0 lv) _ N' (by have:=ze (row:=row) (p:=p) m1 m2;exact ar ((qN (.l Y2 (.a Y1 J1)) [1,0,1]:dL [.e Y0 (.a (.a Y1 J1) J1),.e (.a Y2 J1) Y0]) hl this) ((qN (aR Y1 Y2) [0,1,0,1]:dL [.e Y0 (.a (.a Y1 J1) J1),.e (.a Y2 J1) Y0]) hl this)) (λq hq=>(jH.mp hq).elim (ho q) (hh q)) h'
  apply aA (this);intro lf e b
  refine ⟨lf,?_,b⟩
  show (Nj n (tB (row.map (lj w),lv.map dZ))).2=_
  have et:tB (row.map (lj w),lv.map dZ)=((xG row p).map (lj w),(xY ((pX row p.1).1++(pX row p.2).1) 0 lv).map dZ):=by
   unfold tB
   simp only
   rw [ht]
   simp only
   (rewrite [zf,<-xX,bU];try with_reducible rfl)
   congr 1
   (rewrite [jD,jD];try with_reducible rfl)
   rfl
  rw [et]
  exact e
noncomputable def oE (ws lv:List Int):Int:=(Ci (· * ·) ws lv).sum
theorem lU:∀t:Tr,∀x∈ib t,0<=x
 | .leaf k,x,h=>by rw [ib,rF] at h;exact (qN (.L J0 I0) [0,1]:oZ [.E I0 J0]) h
 | .node l r,x,h=>by
  rw [ib] at h
  apply aA (Cj.mp h);intro y hy hq0;subst hq0
  rcases jH.mp hy with hy | hy
  .have:=lU l y hy;exact JI this
  .have:=lU r y hy;exact JI this
theorem Ay {l:List Int}(h:∀x∈l,0<=x):(l.map Int.toNat).map dZ=l:=by
 rw [cO]
 conv=>rhs;rw [<-List.map_id l]
 apply gM
 intro x hx
 have:=h x hx
 show ((x.toNat:Nat):Int)=x
 exact au (Du this) (BA)
theorem Bu {a c d e:Int}{t:Tr}(h:t∈bS 5 0):(⟨a,b,c,d,e⟩:V5).dot (M8 ((ib t).map Int.toNat))=oE [a,b,c,d,e] (ib t):=by
 have hl:(ib t).length=5:=by rw [gQ];exact (iO 5 5 0 t (by decide) (by decide) (by decide) h).1
 have hn:=lU t
 generalize ib t=l at hl hn
 revert hn
 refine K6 hl λx1 x2 x3 x4 x5 hn=>?_
 .skip
  have h1:=hn x1 (by simp)
  have h2:=hn x2 (by simp)
  have h3:=hn x3 (by simp)
  have h4:=hn x4 (by simp)
  have h5:=hn x5 (by simp)
  show a * (x1.toNat:Int) + b * (x2.toNat:Int) + c * (x3.toNat:Int) + d * (x4.toNat:Int) + e * (x5.toNat:Int)=a * x1 + (b * x2 + (c * x3 + (d * x4 + (e * x5 + 0))))
  rw [bN h1,bN h2,bN h3,bN h4,bN h5]
  exact au ((qN (.L (.a (.a (.a (.a I0 I1) I2) I3) I4) (.a I0 (.a I1 (.a I2 (.a I3 (.a I4 J0)))))) []:uj [])) ((qN (.L (.a I0 (.a I1 (.a I2 (.a I3 (.a I4 J0))))) (.a (.a (.a (.a I0 I1) I2) I3) I4)) []:uj []))
theorem Ll (h5:ws.length=5)(hw:∀x∈ws,0<=x):∃t∈bS 5 0,qi ws=ib t/\∀t'∈bS 5 0,oE ws (ib t)<=oE ws (ib t'):=by
 revert hw
 refine K6 h5 λa b c d e hw=>?_
 .skip
  have wn:(⟨a,b,c,d,e⟩:V5).Nn:=⟨hw a (by simp),hw b (by simp),hw c (by simp),hw d (by simp),hw e (by simp)⟩
  apply aA (J7 wn 4 [([0],true),([1],true),([2],true),([3],true),([4],true)] [0,0,0,0,0] [] MY rfl (λp hp=>by cases hp) LD);intro lf e1 hb
  have e0:yI 0 [a,b,c,d,e]=[([0],true),([1],true),([2],true),([3],true),([4],true)].map (lj ⟨a,b,c,d,e⟩):=by
   simp [yI,lj,sk,V5.dot,V5.add,V5.unit,V5.zero]
  have e2:qi [a,b,c,d,e]=lf.map dZ:=by
   rw [<-e1,<-e0]
   rfl
  have h1:=hb.1;have h2:=hb.2
  apply aA (Cj.mp h1);intro t ht hq0;subst hq0
  refine ⟨t,ht,by rw [e2,Ay (lU t)],λt' ht'=>?_⟩
  have:=h2 _ (Cj.mpr ⟨t',ht',rfl⟩)
  rw [Bu ht,Bu ht'] at this
  exact this
noncomputable def Py:Str:=⟨#[38,60,62,34,13,10,9]⟩
noncomputable def xg:Nat->Str
 | 0=>⟨#[]⟩
 | 1=>⟨#[97]⟩
 | 2=>⟨#[38]⟩
 | _=>⟨#[97,38]⟩
noncomputable def Eh (i n j:Nat):Str:=Txt.mul (Txt.item Py i) n++xg j
noncomputable def kK (c:Int):Tx:=fc (Eh ((c.fdiv 9).fmod 7).toNat (c.fmod 9).toNat ((c.fdiv 63).fmod 4).toNat)
theorem dE (a:Int)(h:0 < b):0<=a.fmod b/\a.fmod b < b:=by
 rw [gy _ (ay h)]
 exact ⟨ca _ (bx h),bA _ h⟩
theorem HC:((aZ 7).all λi=>(aZ 9).all λn=>(aZ 4).all λj=>dn (fc (Eh i n j)).length 10&&(fc (Eh i n j)).all λc=>dz c 128)=true:=by kernel_rfl
theorem kX (c:Int):(kK c).length<=10/\∀x∈kK c,x < 128:=by
 have h1:=dE (c.fdiv 9) (b:=7) (by decide)
 have h2:=dE c (b:=9) (by decide)
 have h3:=dE (c.fdiv 63) (b:=4) (by decide)
 have a:=ft.mp HC ((c.fdiv 9).fmod 7).toNat (List.mem_range.mpr (MR h1.2))
 have b:=ft.mp a (c.fmod 9).toNat (List.mem_range.mpr (MQ h2.2))
 have d:=ft.mp b ((c.fdiv 63).fmod 4).toNat (List.mem_range.mpr (Jr h3.2))
 rw [ao] at d
 exact ⟨ac d.1,λx hx=>by simpa [kQ] using ft.mp d.2 x hx⟩
noncomputable def kj (T:iA)(c:Nat):Bool:=(T.lookup c).isSome
noncomputable def sp (T:iA)(x:Tx):Nat:=(x.filter (kj T)).length
theorem xj (T:iA)(x y:Tx):sp T (x++y)=sp T x + sp T y:=by unfold sp;rw [Hc,az]
theorem yH (T:iA)(c:Nat)(x:Tx):sp T (c :: x)=(if kj T c then 1 else 0) + sp T x:=by
 unfold sp
 rw [jl]
 split
 .rw [aM];exact ar ((qN (aR Y0 (.a J1 Y0)) []:di [])) ((qN (.l (.a J1 Y0) (.a Y0 J1)) []:di []))
 .exact ar ((qN (.l Y0 (.a J0 Y0)) []:di [])) ((qN (.l (.a J0 Y0) Y0) []:di []))
noncomputable def kH (T:iA):Bool:=T.all λp=>(p.2.filter (kj T))==[38]
theorem ui:∀k,kH (aC k)=true
 | 0=>by decide
 | 1=>by decide
 | 2=>by decide
 | 3=>by decide
 | _ + 4=>by show kH (aC 4)=true;decide
theorem KD {T:iA}(h:kH T=true){c:Nat}{w:Tx}(e:T.lookup c=some w):w.filter (kj T)=[38]:=by
 have:=ft.mp h _ (yX e)
 simpa using this
theorem pn {T:iA}(h:kH T=true):∀x:Tx,(esc T x).filter (kj T)=bE (sp T x) 38
 | []=>rfl
 | c :: x=>by
  rw [fC,Hc,pn h x,yH]
  unfold er kj
  cases e:T.lookup c with
  | none=>
   simp only [tr,Fh,bX,if_false,fL]
   rw [jl,if_neg (by simp [e])]
   rfl
  | some w=>
   have:=KD h e
   unfold kj at this
   simp only [cn,Option.isSome_some,if_true]
   rw [this,nB,G0]
   rfl
theorem CC {T:iA}(h:kH T=true)(x:Tx):sp T (esc T x)=sp T x:=by
 have:=pn h x
 unfold sp at this ⊢
 rw [this,D9]
theorem sR {T:iA}(ha:T.lookup 38=some [38,97,109,112,59]):∀{y:Tx},(∀c∈y,kj T c=true->c=38)->(esc T y).length=y.length + 4 * sp T y
 | [],_=>rfl
 | c :: y,hy=>by
  rw [fC,az,sR ha (y:=y) λd hd=>hy d (.tail _ hd),yH,aM]
  by_cases hc:kj T c=true
  .have e:=hy c (.head _) hc
   subst e
   rw [if_pos hc]
   unfold er
   rw [ha]
   simp only [cn,aM,hV]
   exact ar ((qN (.l (.a J5 (.a Y0 (.m 4 Y1))) (.a (.a Y0 J1) (.m 4 (.a J1 Y1)))) []:cz [])) ((qN (.l (.a (.a Y0 J1) (.m 4 (.a J1 Y1))) (.a J5 (.a Y0 (.m 4 Y1)))) []:cz []))
  .rw [if_neg hc]
   have:T.lookup c=none:=by unfold kj at hc;cases e:T.lookup c with | none=>rfl | some w=>rw [e] at hc;simp at hc
   unfold er
   rw [this]
   simp only [tr,aM,hV]
   exact ar ((qN (.l (.a J1 (.a Y0 (.m 4 Y1))) (.a (.a Y0 J1) (.m 4 (.a J0 Y1)))) []:cz [])) ((qN (.l (.a (.a Y0 J1) (.m 4 (.a J0 Y1))) (.a J1 (.a Y0 (.m 4 Y1)))) []:cz []))
theorem Fg {T:iA}(h:kH T=true)(x:Tx):∀c∈esc T x,kj T c=true->c=38:=λc hc hs=>by
 have hm:c∈(esc T x).filter (kj T):=List.mem_filter.mpr ⟨hc,hs⟩
 rw [pn h x] at hm
 exact List.eq_of_mem_replicate hm
theorem A1 {T:iA}(h:kH T=true)(ha:T.lookup 38=some [38,97,109,112,59])(x:Tx):(esc T (esc T x)).length=(esc T x).length + 4 * sp T x:=by
 rw [sR ha (Fg h x),CC h]
noncomputable def uU (T:iA)(mk:Nat)(ts:List Tx)(t:Tr):Nat:=(esc T (raw T mk ts t)).length
noncomputable def Ku (T:iA)(mk:Nat)(ts:List Tx)(t:Tr):Nat:=sp T (raw T mk ts t)
theorem A0 {T:iA}{l r:Tr}:(raw T mk ts (.node l r)).length=uU T mk ts l + 1 + uU T mk ts r:=by
 show (esc T (raw T mk ts l)++[mk]++esc T (raw T mk ts r)).length=_
 rw [az,az]
 rfl
theorem FV {T:iA}{l r:Tr}(h:kH T=true)(ha:T.lookup 38=some [38,97,109,112,59]):uU T mk ts (.node l r)=uU T mk ts l + 4 * Ku T mk ts l + (er T mk).length + (uU T mk ts r + 4 * Ku T mk ts r):=by
 show (esc T (esc T (raw T mk ts l)++[mk]++esc T (raw T mk ts r))).length=_
 rw [pr,pr,az,az,A1 h ha,A1 h ha]
 have:(esc T [mk]).length=(er T mk).length:=by show (er T mk++esc T []).length=_;rw [show esc T []=[] from rfl,fS]
 rw [this]
 rfl
theorem HI {T:iA}{l r:Tr}(h:kH T=true)(hm:kj T mk=true):Ku T mk ts (.node l r)=Ku T mk ts l + 1 + Ku T mk ts r:=by
 show sp T (esc T (raw T mk ts l)++[mk]++esc T (raw T mk ts r))=_
 rw [xj,xj,CC h,CC h,yH,if_pos hm]
 rfl
noncomputable def treeL:List Tr:=[.node (.leaf 0) (.node (.leaf 1) (.node (.leaf 2) (.node (.leaf 3) (.leaf 4)))),.node (.leaf 0) (.node (.leaf 1) (.node (.node (.leaf 2) (.leaf 3)) (.leaf 4))),.node (.leaf 0) (.node (.node (.leaf 1) (.leaf 2)) (.node (.leaf 3) (.leaf 4))),.node (.leaf 0) (.node (.node (.leaf 1) (.node (.leaf 2) (.leaf 3))) (.leaf 4)),.node (.leaf 0) (.node (.node (.node (.leaf 1) (.leaf 2)) (.leaf 3)) (.leaf 4)),.node (.node (.leaf 0) (.leaf 1)) (.node (.leaf 2) (.node (.leaf 3) (.leaf 4))),.node (.node (.leaf 0) (.leaf 1)) (.node (.node (.leaf 2) (.leaf 3)) (.leaf 4)),.node (.node (.leaf 0) (.node (.leaf 1) (.leaf 2))) (.node (.leaf 3) (.leaf 4)),.node (.node (.node (.leaf 0) (.leaf 1)) (.leaf 2)) (.node (.leaf 3) (.leaf 4)),.node (.node (.leaf 0) (.node (.leaf 1) (.node (.leaf 2) (.leaf 3)))) (.leaf 4),.node (.node (.leaf 0) (.node (.node (.leaf 1) (.leaf 2)) (.leaf 3))) (.leaf 4),.node (.node (.node (.leaf 0) (.leaf 1)) (.node (.leaf 2) (.leaf 3))) (.leaf 4),.node (.node (.node (.leaf 0) (.node (.leaf 1) (.leaf 2))) (.leaf 3)) (.leaf 4),.node (.node (.node (.node (.leaf 0) (.leaf 1)) (.leaf 2)) (.leaf 3)) (.leaf 4)]
theorem nL:bS 5 0=treeL:=by kernel_rfl
theorem Ig {T:iA}{x0 x1 x2 x3 x4:Tx}{t:Tr}(h:kH T=true)(ha:T.lookup 38=some [38,97,109,112,59])(hm:kj T mk=true)(ht:t∈bS 5 0):
  ((raw T mk [x0,x1,x2,x3,x4] t).length:Int)=(((esc T x0).length:Int) + (esc T x1).length + (esc T x2).length + (esc T x3).length + (esc T x4).length)
   - 4 * ((1 + sp T x0:Int) + (1 + sp T x1) + (1 + sp T x2) + (1 + sp T x3) + (1 + sp T x4)) + 3 * (er T mk).length - 23
   + 4 * oE [1 + (sp T x0:Int),1 + sp T x1,1 + sp T x2,1 + sp T x3,1 + sp T x4] (ib t):=by
 have l0:uU T mk [x0,x1,x2,x3,x4] (.leaf 0)=(esc T x0).length:=rfl
 have l1:uU T mk [x0,x1,x2,x3,x4] (.leaf 1)=(esc T x1).length:=rfl
 have l2:uU T mk [x0,x1,x2,x3,x4] (.leaf 2)=(esc T x2).length:=rfl
 have l3:uU T mk [x0,x1,x2,x3,x4] (.leaf 3)=(esc T x3).length:=rfl
 have l4:uU T mk [x0,x1,x2,x3,x4] (.leaf 4)=(esc T x4).length:=rfl
 have s0:Ku T mk [x0,x1,x2,x3,x4] (.leaf 0)=sp T x0:=rfl
 have s1:Ku T mk [x0,x1,x2,x3,x4] (.leaf 1)=sp T x1:=rfl
 have s2:Ku T mk [x0,x1,x2,x3,x4] (.leaf 2)=sp T x2:=rfl
 have s3:Ku T mk [x0,x1,x2,x3,x4] (.leaf 3)=sp T x3:=rfl
 have s4:Ku T mk [x0,x1,x2,x3,x4] (.leaf 4)=sp T x4:=rfl
 generalize hts:[x0,x1,x2,x3,x4]=ts at l0 l1 l2 l3 l4 s0 s1 s2 s3 s4 ⊢
 have hall:∀t∈bS 5 0,((raw T mk ts t).length:Int)=(((esc T x0).length:Int) + (esc T x1).length + (esc T x2).length + (esc T x3).length + (esc T x4).length)
   - 4 * ((1 + sp T x0:Int) + (1 + sp T x1) + (1 + sp T x2) + (1 + sp T x3) + (1 + sp T x4)) + 3 * (er T mk).length - 23
   + 4 * oE [1 + (sp T x0:Int),1 + sp T x1,1 + sp T x2,1 + sp T x3,1 + sp T x4] (ib t):=by
  rw [nL]
  unfold treeL
  simp only [List.forall_mem_cons,A0,FV h ha,HI h hm,l0,l1,l2,l3,l4,s0,s1,s2,s3,s4,ib,b8,jG,aD,dh,oE,List.zipWith_cons_cons,List.zipWith_nil_left,rA,List.sum_nil]
  refine ⟨?_,?_,?_,?_,?_,?_,?_,?_,?_,?_,?_,?_,?_,?_,λ_ h=>(nomatch h)⟩<;>lia
 exact hall t ht
noncomputable def iL (t:Tr):Int:=uR (ib t)
noncomputable def cu (t:Tr):Int:=2 ^ (iL t).toNat
noncomputable def eN (t:Tr):List Int:=(ib t).map λl=>2 ^ (iL t - l).toNat
noncomputable def aN (t:Tr):List Int:=(aZ 5).map λk=>((eN t).take k).sum
noncomputable def Tr.beq:Tr->Tr->Bool
 | .leaf a,.leaf b=>i4 a b
 | .node a b,.node c d=>a.beq c&&b.beq d
 | _,_=>false
theorem Tr.eq_of_beq:∀{a b:Tr},a.beq b=true->a=b
 | .leaf a,.leaf b,h=>by rw [gh h]
 | .node a b,.node c d,h=>by
  have h:=Bool.and_eq_true_iff.mp (show (a.beq c&&b.beq d)=true from h)
  rw [Tr.eq_of_beq h.1,Tr.eq_of_beq h.2]
 | .leaf _,.node _ _,h=>(ag h).elim
 | .node _ _,.leaf _,h=>(ag h).elim
noncomputable def ed:Tr->List Int->Option Tr
 | t,[]=>some t
 | .leaf _,_ :: _=>none
 | .node l r,b :: bs=>if b==0 then ed l bs else if b==1 then ed r bs else none
noncomputable def PE (o:Option Tr)(t:Tr):Bool:=match o with | some u=>u.beq t | none=>false
noncomputable def HZ (t:Tr):Bool:=PE (qm (aN t) 6 0 5 0 (cu t).toNat) t&&(decide (0<=iL t)&&decide (iL t<=4))
noncomputable def kz (t:Tr):List Int:=(aZ (iL t + 1).toNat).map λ(k:Nat)=>(((ib t).count (iL t - (k:Int)):Nat):Int)
noncomputable def HY (t:Tr):Bool:=dW 1 (kz t)==cu t
noncomputable def gk (t:Tr)(k:Nat):Int:=(ib t).getD k 0
noncomputable def eu (t:Tr)(k:Nat):Int:=(eN t).getD k 0
noncomputable def dM (t:Tr)(k:Nat):Int:=(aN t).getD k 0
noncomputable def im (t:Tr)(k:Nat):Int:=dM t k / eu t k
noncomputable def iD (t:Tr)(k:Nat):List Int:=iT 1 ((gk t k).toNat + 1) (im t k + 2 ^ (gk t k).toNat)
noncomputable def Nz (t:Tr)(k:Nat):Bool:=decide (0 < eu t k)&&(decide (eu t k<=16)&&(dM t k==im t k * eu t k&&(cu t==eu t k * 2 ^ (gk t k).toNat&&(decide (0<=gk t k)&&(decide (gk t k<=4)&&(decide (0<=im t k)&&(decide (im t k < 2 ^ (gk t k).toNat)&&
 (i4 (gH 1 (im t k + 2 ^ (gk t k).toNat)) ((gk t k).toNat + 1)&&(dW 1 (iD t k)==im t k + 2 ^ (gk t k).toNat&&((iD t k).drop (gk t k).toNat==[1]&&match ed t (pickNums (iD t k) (some (-2)) none (some (-1))) with | some u=>u.beq (.leaf k) | none=>false))))))))))
noncomputable def Ez (t:Tr)(p:Nat):Bool:=let k:=bR (aN t) p 0 5;decide (1<=k)&&(decide (k<=5)&&(i4 (bL (aN t) ((p:Int) + 1) 0 5) k&&(decide (dM t (k - 1)<=p)&&decide ((p:Int) < dM t (k - 1) + eu t (k - 1)))))
noncomputable def m5 (ns:List Int)(j:Nat)(x:Int):List Int:=ns.take j++x :: ns.drop j
noncomputable def uW (t:Tr):List Int:=(aN t).take 2++[-1,dM t 2,cu t]++(aN t).drop 3
noncomputable def iC (ns:List Int):List Int:=ns.map λx=>2 * x
noncomputable def LR (t:Tr):Bool:=
 let L:=cu t;let P:=aN t
 let a:=m5 P (jj (jt P L) 6 1 3) L;let b:=m5 P (jj (jT P L) 6 1 3) L
 let c:=m5 P (jj (jt (iC P) (2 * L)) 6 1 3) L;let d:=m5 P (jj (jT (iC P) (2 * L)) 6 1 3) L
 m5 a (jj (jt a (-1)) 6 2 4) (-1)==uW t&&(m5 b (jj (jT b (-1)) 6 2 4) (-1)==uW t&&(m5 c (jj (jt (iC c) (2 * -1)) 6 2 4) (-1)==uW t&&m5 d (jj (jT (iC d) (2 * -1)) 6 2 4) (-1)==uW t))
theorem KV:treeL.all HZ=true:=by kernel_rfl
theorem KU:treeL.all HY=true:=by kernel_rfl
theorem KW:(treeL.all λt=>(aZ 5).all (Nz t))=true:=by kernel_rfl
theorem HX:(treeL.all λt=>(aZ (cu t).toNat).all (Ez t))=true:=by kernel_rfl
theorem Ny:treeL.all LR=true:=by kernel_rfl
theorem uH (ns:List Int)(a b c:Option Int):d9 (ns.map .int) a b c=(pickNums ns a b c).map .int:=by
 unfold d9 pickNums
 rw [ab,List.map_filterMap]
 congr 1
 funext i
 rw [List.getElem?_map]
theorem jS:∀ns:List Int,fZ (ns.map .int)=some ns
 | []=>rfl
 | n :: ns=>congrArg (Option.map (n :: ·)) (jS ns)
structure LC (W:Wd)(A:Around)(env:Env):Prop extends Cx W A env (bh 27) where
 good:Good W
 room:Room A 50
 code:env.code=.ref 174
 qual:env.qual="law"++".<locals>."
theorem oR {i:Expr}(C:Cx W A env sc)(hi:dS W A env ρ t i ds)(hq:(gD sc scope&&dR i&&jU scope t)=true)(hz:outs.length<=sizeLine)(h:∀env',Cx W A env' (eP sc scope)->Rows (λd o=>∃ρ',Ce t d (.under scope ρ)=some ρ'/\aQ W A env' ρ' elt o) ds outs):aQ W A env ρ (.ListComp elt [⟨t,i,[],0⟩] scope pos) (.list outs):=by
 simp only [ao] at hq
 exact jY C.hh C.hs hq.1.1 hq.1.2 hq.2 hi hz (h {env with scope:=eP sc scope } ⟨rfl,C.G,C.hu,C.hh⟩).length λenv' hs'=>(h env' ⟨hs',C.G,C.hu,C.hh⟩).get
theorem zN {i:Expr}(C:Cx W A env sc)(hi:dS W A env ρ t i ds)(hq:(gD sc scope&&dR i&&jU scope t&&(bk sc==.function&&sc.names.lookup y==some .local&&py.line==pos.line&&!(scope.names.any λz=>z.1==y&&(z.2==.local||z.2==.cell)))&&sc.names.lookup y==some .local)=true)(hz:outs.length<=sizeLine)(h:∀env',Cx W A env' (eP sc scope)->Rows (λd o=>∃ρ',Ce t d (.under scope ρ)=some ρ'/\aQ W A env' ρ' elt o) ds outs)(k:Blk W A env (.bind y (.list outs) ρ) L rest Kn Pr):Blk W A env ρ L (.Assign [.Name y py] (.ListComp elt [⟨t,i,[],0⟩] scope pos) spos :: rest) Kn Pr:=by
 rw [ao,ao,ao,ao] at hq
 exact pH C.hh C.hs hq.1.1.1.1 hq.1.1.1.2 hq.1.2 (beq_iff_eq.mp hq.2) hq.1.1.2 hi hz (h {env with scope:=eP sc scope } ⟨rfl,C.G,C.hu,C.hh⟩).length (λenv' hs'=>(h env' ⟨hs',C.G,C.hu,C.hh⟩).get) k
noncomputable def starts:List Int:=[12,65,37,156,26,8,61]
noncomputable def IP (f:Int->Int->Int):Int->List Int->List Int
 | _,[]=>[]
 | k,x :: l=>f k x :: IP f (k + 1) l
theorem uy {P:D->D->Prop}{f:Int->Int->Int}(h:∀k x,P (.tup [.int k,.int x]) (.int (f k x))):∀(k:Int) (l:List Int),Rows P (ju k (l.map .int)) ((IP f k l).map .int)
 | _,[]=>.nil
 | k,x :: l=>.cons (h k x) (uy h (k + 1) l)
noncomputable def DC (rs:List Int):List Int:=IP (λk x=>x + (pickNums rs (some k) none (some 7)).sum) 0 starts
theorem Cz (h:ds=ns.map .int):Gives (Ph "sum" [.list ds]) (.int ns.sum):=by
 subst h
 show Gives (tq ((fZ (ns.map .int)).map λns=>(D.int ns.sum,[])) _) _
 rw [jS]
 exact ⟨rfl,trivial⟩
noncomputable def KP (ns:List Int):Rho:=.bind "script" (.list (ns.map .int)) .nil
noncomputable def Np (ns:List Int):Rho:=.bind "total" (.int (ns.take 60).sum) (.bind "row" (.list ((ns.take 60).map .int)) (KP ns))
theorem OT (C:LC W A env)(h63:ns.length<=63)(k:Blk W A env (Np ns) L ((aH 27).drop 1) Kn Pr):Blk W A env (KP ns) L (aH 27) Kn Pr:=by
 have e:d9 (ns.map .int) none (some 60) none=(ns.take 60).map .int:=(jM (ns.map .int) 60).trans fa.symm
 refine iq C.toCx [.o (.int (ns.take 60).sum)] [.list ((ns.take 60).map .int),.int (ns.take 60).sum] rfl rfl rfl ⟨?_,?_⟩ k
 .rw [e]
 .exact ⟨by rw [ab];show _<=16777216;exact ai h63 (ac rfl),by rw [ab];show _<=16777216;exact ai h63 (ac rfl),Cz e,trivial⟩
theorem sz {l:List α}(h:l.length<=n)(hn:dn n 16777216=true):l.length<=sizeLine:=ai h (ac hn)
noncomputable def PB (ns cs:List Int):Rho:=.bind "cells" (.list (cs.map .int)) (Np ns)
theorem OS (C:LC W A env)(h63:ns.length<=63)(k:Blk W A env (PB ns (DC (ns.take 60))) L ((aH 27).drop 2) Kn Pr):Blk W A env (Np ns) L ((aH 27).drop 1) Kn Pr:=by
 refine zN C.toCx (ds:=ju 0 (starts.map .int)) (outs:=(DC (ns.take 60)).map .int) (zg C.hh (bn C.toCx [] ⟨rfl,trivial⟩) (aJ rfl) (bn C.toCx [] ⟨rfl,trivial⟩)) (by kernel_rfl) (ac rfl) (λenv' C'=>?_) k
 have hl:((ns.take 60).map D.int).length<=sizeLine:=sz (n:=60) (by rw [ab,cT];lia) rfl
 exact uy (λk x=>⟨_,rfl,bn C' [.o (.int (pickNums (ns.take 60) (some k) none (some 7)).sum)] ⟨rfl,hl,Cz (uH _ _ _ _),trivial⟩⟩) 0 starts
noncomputable def sr:Nat->Addr
 | 0=>106
 | 1=>113
 | 2=>120
 | 3=>127
 | _=>134
theorem oB {P:Nat->Prop}(h0:P 0)(h1:P 1)(h2:P 2)(h3:P 3)(h4:P 4):∀{k:Nat},k < 5->P k
 | 0,_=>h0
 | 1,_=>h1
 | 2,_=>h2
 | 3,_=>h3
 | 4,_=>h4
 | _ + 5,h=>absurd h (Nat.not_lt_of_le ((qN (.l J5 (.a Y0 J5)) []:di [])))
theorem IO (h:k < 5):Gives (lO (.tup [.ref 106,.ref 113,.ref 120,.ref 127,.ref 134]) (.int (k:Int))) (.ref (sr k)):=
 oB (P:=λk=>Gives (lO (.tup [.ref 106,.ref 113,.ref 120,.ref 127,.ref 134]) (.int (k:Int))) (.ref (sr k))) ⟨rfl,by decide,by decide,trivial⟩ ⟨rfl,by decide,by decide,trivial⟩ ⟨rfl,by decide,by decide,trivial⟩ ⟨rfl,by decide,by decide,trivial⟩ ⟨rfl,by decide,by decide,trivial⟩ h
theorem zU (G:Good W)(Rm:Room A 2)(h:k < 5):CallB W A (.ref 139) [.int (k:Int)] [] (.list (dC k)):=
 ⟨cL xL G.prg,oB (P:=λk=>bz W A (.ref 139) [.int (k:Int)] [] (.list (dC k))) (j7 G Rm).1 (j7 G Rm).2.1 (j7 G Rm).2.2.1 (j7 G Rm).2.2.2.1 (j7 G Rm).2.2.2.2 h⟩
theorem tS (G:Good W)(h:k < 5):Writes W (sr k) (aC k):=
 oB (P:=λk=>Writes W (sr k) (aC k)) ⟨cL qv G.prg,λ_ R _=>BS G R⟩ ⟨cL qu G.prg,λ_ R _=>BR G R⟩ ⟨cL qt G.prg,λ_ R _=>BQ G R⟩ ⟨cL qr G.prg,λ_ R _=>BP G R⟩ ⟨cL qq G.prg,λ_ R _=>BO G R⟩ h
noncomputable def jR (k:Nat):List Str:=(aC k).map λp=>⟨#[p.1]⟩
noncomputable def mq (k:Nat):List D:=(aC k).map λp=>.kstr (dr p.2)
theorem AK (k:Nat):kN (jR k) (mq k)=dC k:=by
 unfold jR mq dC
 induction aC k with
 | nil=>rfl
 | cons p l ih=>exact congrArg _ ih
theorem Ir (h:k < 5):(jR k).Nodup:=oB (P:=λk=>(jR k).Nodup) (of_decide_eq_true (by kernel_rfl)) (of_decide_eq_true (by kernel_rfl)) (of_decide_eq_true (by kernel_rfl)) (of_decide_eq_true (by kernel_rfl)) (of_decide_eq_true (by kernel_rfl)) h
theorem KH (h:k < 5):2<=(aC k).length/\(aC k).length<=7:=oB (P:=λk=>2<=(aC k).length/\(aC k).length<=7) (by decide) (by decide) (by decide) (by decide) (by decide) h
theorem C3 (k:Nat):(dC k).length=(aC k).length:=ab ..
noncomputable def Op (tt:Int)(cs:List Int):Rho:=.bind "cells" (.list (cs.map .int)) (.bind "total" (.int tt) .nil)
noncomputable def uz (k:Nat)(tt sp:Int)(r:Rho):Rho:=.bind "table" (.sdict (jR k) (mq k)) (.bind "names" (.list (dC k)) (.bind "write" (.ref (sr k)) (.bind "spin" (.int sp) (.bind "total" (.int tt) r))))
variable {tt:Int}
theorem OR (C:LC W A env){c0 c1 c2 c3 c4 c5 c6:Int}(k:∀(κ:Nat) (sp:Int) (mk:Nat) (wd:Tx) (i:Nat),κ < 5->(aC κ)[i]? =some (mk,wd)->1<=i->
   Blk W A env (.bind "mark" (.kstr ⟨#[mk]⟩) (uz κ tt sp (.bind "cells" (.list [.int c0,.int c1,.int c2,.int c3,.int c4,.int c5,.int c6]) .nil))) L ((aH 27).drop 7) Kn Pr):
  Blk W A env (Op tt [c0,c1,c2,c3,c4,c5,c6]) L ((aH 27).drop 2) Kn Pr:=by
 obtain ⟨κ,hκ,h5⟩:∃κ:Nat,(c5 + tt).fmod 5=κ/\κ < 5:=by
  have:=dE (c5 + tt) (b:=5) (by decide)
  exact ⟨((c5 + tt).fmod 5).toNat,au (BA) (Du this.1),(qK Y0 I0 (qN (aR Y0 J5) [0,1,0,1]) (qN (aR Y0 J5) [0,1]):oY [cK I0 J5]) this.2⟩
 refine GI C.toCx [] [.int (κ:Int),.int (c6 + tt)] rfl rfl ⟨by rw [<-hκ],by decide,by decide,by decide,by decide,by decide,trivial⟩ ?_
 refine bV C.toCx [.o (.ref (sr κ))] _ rfl ⟨rfl,IO h5,trivial⟩ ?_
 refine bV C.toCx [.v (.list (dC κ))] _ rfl ⟨rfl,zU C.good (C.room.le (by decide)) h5,trivial⟩ ?_
 have hl:=KH h5
 have hn:=C3 κ
 refine iV (d:=.sdict (jR κ) (mq κ)) (wP C.hh (bn C.toCx [] ⟨rfl,trivial⟩) rfl (AK κ▸bn C.toCx [] ⟨rfl,trivial⟩) (by unfold jR mq;rw [ab,ab]) (Ir h5) (by unfold jR;rw [ab];exact (qN (aR Y0 (.k 1000)) [1]:di [.l Y0 (.k 7)]) hl.2)) (el C.hs rfl) (gX rfl) ?_
 obtain ⟨i,hi,h1,h2⟩:∃i:Nat,(1 + (c5.fdiv 5).fmod ((dC κ).length - 1):Int)=i/\1<=i/\i < (aC κ).length:=by
  have:=dE (c5.fdiv 5) (b:=((dC κ).length - 1:Int)) ((qN (cK J0 (.s (.c Y1) J1)) [1,0,1]:cz [.l J2 Y0,.e Y1 Y0]) hl.1 hn)
  exact ⟨(1 + (c5.fdiv 5).fmod ((dC κ).length - 1)).toNat,au ((qL Y0 (.a J1 I0) (qN (.L (.a J1 I0) (.c Y0)) [1]):oY [])) ((qK Y0 (.a J1 I0) (qN (.L (.c Y0) (.a J1 I0)) [0,1]) (qN (.L (.c Y0) (.a J1 I0)) [0,1,0,1]):oY [.L J0 I0]) this.1),(qL Y0 (.a J1 I0) (qN (.l J1 Y0) [1,1]):oY [.L J0 I0]) this.1,(qK Y2 (.a J1 I0) (qN (aR Y2 Y1) [0,1,0,1,0,1]) (qN (aR Y2 Y1) [0,1,0,0,0,0,1]):qT [_,_,_] [_] [.e Y0 Y1,cK I0 (.s (.c Y0) J1),.l J2 Y1] _) hn this.2 hl.1⟩
 obtain ⟨⟨mk,wd⟩,hp⟩:∃p,(aC κ)[i]? =some p:=⟨_,List.getElem?_eq_getElem h2⟩
 refine bV C.toCx [.n,.n,.o (.tup [.kstr ⟨#[mk]⟩,.kstr (dr wd)])] _ rfl ⟨rfl,by decide,by decide,by decide,rfl,(qN (cK (.c Y1) pQ) [1,1]:cz [.l Y0 (.k 7),.e Y1 Y0]) hl.2 hn,λzz=>(qF [1,0,1,1]:cz [.l J2 Y0,.e Y1 Y0,.E (.s (.c Y1) J1) J0]) hl.1 hn zz,?_,by decide,by decide,trivial⟩ ?_
 .show Gives (lO _ (.int (1 + (c5.fdiv 5).fmod ((dC κ).length - 1)))) _
  rw [hi]
  show Gives (((dC κ)[(i:Int).toNat]?).map _) _
  rw [aB]
  rw [show (dC κ)[i]? =some (.tup [.kstr ⟨#[mk]⟩,.kstr (dr wd)]) by unfold dC;rw [List.getElem?_map,hp];rfl]
  exact ⟨rfl,vM,(qN (cK (.c Y1) pQ) [1,1]:cz [.l Y0 (.k 7),aR Y1 Y0]) hl.2 h2,trivial⟩
 .exact de (ρ':=.bind "mark" (.kstr ⟨#[mk]⟩) (uz κ tt (c6 + tt) (.bind "cells" (.list [.int c0,.int c1,.int c2,.int c3,.int c4,.int c5,.int c6]) .nil))) (SubR.le ⟨rfl,rfl,rfl,rfl,rfl,rfl,rfl,trivial⟩ rfl) (k κ _ mk wd i h5 hp h1)
theorem LB {i c:Expr}(C:Cx W A env sc)(hi:dS W A env ρ t i ds)(hq:(gD sc scope&&dR i&&jU scope t)=true)(hz:outs.length<=sizeLine)(ho:outs=os.flatten)(h:∀env',Cx W A env' (eP sc scope)->Rows (λd o=>∃ρ' b,Ce t d (.under scope ρ)=some ρ'/\gv W A env' ρ' c b/\(b=true->∃d',aQ W A env' ρ' elt d'/\o=[d'])/\(b=false->o=[])) ds os):aQ W A env ρ (.ListComp elt [⟨t,i,[c],0⟩] scope pos) (.list outs):=by
 simp only [ao] at hq
 exact qy C.hh C.hs hq.1.1 hq.1.2 hq.2 hi hz (h {env with scope:=eP sc scope } ⟨rfl,C.G,C.hu,C.hh⟩).length ho λenv' hs'=>(h env' ⟨hs',C.G,C.hu,C.hh⟩).get
theorem sa {α β:Type}(p:α->Bool)(f:α->β):∀l:List α,(l.filter p).map f=(l.map λa=>if p a then [f a] else []).flatten
 | []=>rfl
 | a :: l=>by
  rw [jl,aD,lA,<-sa p f l]
  cases p a<;>rfl
theorem rZ (T:iA)(c:Nat):ic (T.map λp=>(⟨#[p.1]⟩:Str)) (T.map λp=>D.kstr (dr p.2)) ⟨#[c]⟩=(T.lookup c).map λw=>.kstr (dr w):=by
 induction T with
 | nil=>rfl
 | cons p T ih=>
  obtain ⟨a,w⟩:=p
  rw [aD,aD,jE,aT]
  by_cases h:a=c
  .subst h;rw [if_pos rfl];simp
  .rw [if_neg λe=>h (by simpa using e),ih]
   have:(c==a)=false:=by simpa using λe=>h e.symm
   rw [this]
noncomputable def CG (c:Nat):D:=.kstr ⟨#[c]⟩
theorem ID (k c:Nat):(ic (jR k) (mq k) ⟨#[c]⟩).isSome=kj (aC k) c:=by
 unfold jR mq kj
 rw [rZ,Option.isSome_map]
theorem IE (k c:Nat):(ic (jR k) (mq k) ⟨#[c]⟩).getD (CG c)=.kstr (dr (er (aC k) c)):=by
 unfold jR mq er
 rw [rZ]
 cases (aC k).lookup c<;>rfl
noncomputable def wI (x:Tx):Prop:=x.length<=10/\∀c∈x,c < 128
theorem Fy (h:j < 4):Gives (lO (.tup [.kstr ⟨#[]⟩,.kstr ⟨#[97]⟩,.kstr ⟨#[38]⟩,.kstr ⟨#[97,38]⟩]) (.int (j:Int))) (.kstr (xg j)):=
 oB (P:=λk=>k < 4->Gives (lO (.tup [.kstr ⟨#[]⟩,.kstr ⟨#[97]⟩,.kstr ⟨#[38]⟩,.kstr ⟨#[97,38]⟩]) (.int (k:Int))) (.kstr (xg k))) (λ_=>⟨rfl,by decide,by decide,trivial⟩) (λ_=>⟨rfl,by decide,by decide,trivial⟩) (λ_=>⟨rfl,by decide,by decide,trivial⟩) (λ_=>⟨rfl,by decide,by decide,trivial⟩) (λh=>absurd h (by decide)) (lF h) h
theorem NE:((aZ 7).all λi=>(aZ 9).all λn=>dn (Txt.item Py (i:Int)).length 1&&dn (Txt.mul (Txt.item Py (i:Int)) (n:Int)).length 8)=true:=by kernel_rfl
theorem FT:((aZ 2).all λl=>(aZ 9).all λn=>decide ((decide ((n:Int) < -(2 ^ 63:Int))||decide ((n:Int) >= 2 ^ 63))=false)&&decide (¬(n:Int) < 1->¬((l:Int) > (2 ^ 63 - 1) / (n:Int)))&&!decide (l * n > sizeLine))=true:=by kernel_rfl
theorem AR (h:x.length<=1)(hn:n < 9):MulOk x (n:Int):=by
 have:=ft.mp (ft.mp FT x.length (List.mem_range.mpr (Nat.lt_succ_of_le h))) n (List.mem_range.mpr hn)
 simp only [ao,decide_eq_true_eq,dm,decide_eq_false_iff_not] at this
 exact ⟨this.1.1,λh1 _=>this.1.2 h1,λ_ _=>by rw [aB];exact decide_eq_false this.2⟩
variable {κ:Nat}
theorem OQ (C:LC W A env){sp c0 c1 c2 c3 c4 c5 c6:Int}(k:∀x0 x1 x2 x3 x4,wI x0->wI x1->wI x2->wI x3->wI x4->Blk W A env (.bind "texts" (eE [x0,x1,x2,x3,x4]) (.bind "mark" (.kstr ⟨#[mk]⟩) (uz κ tt sp .nil))) L ((aH 27).drop 8) Kn Pr):
  Blk W A env (.bind "mark" (.kstr ⟨#[mk]⟩) (uz κ tt sp (.bind "cells" (.list [.int c0,.int c1,.int c2,.int c3,.int c4,.int c5,.int c6]) .nil))) L ((aH 27).drop 7) Kn Pr:=by
 refine zN C.toCx (ds:=[c0,c1,c2,c3,c4].map .int) (outs:=[c0,c1,c2,c3,c4].map λc=>.str (dr (kK c))) (cC C.hh (bn C.toCx [] ⟨rfl,ac rfl,trivial⟩)) (by kernel_rfl) (ac rfl) (λenv' C'=>Rows.map λc _=>⟨_,rfl,?_⟩) ?_
 .obtain ⟨i,hi,hi7⟩:∃i:Nat,(c.fdiv 9).fmod 7=i/\i < 7:=by
   have:=dE (c.fdiv 9) (b:=7) (by decide)
   exact ⟨((c.fdiv 9).fmod 7).toNat,au (BA) (Du this.1),MR this.2⟩
  obtain ⟨n,hn,hn9⟩:∃i:Nat,c.fmod 9=i/\i < 9:=by
   have:=dE c (b:=9) (by decide)
   exact ⟨(c.fmod 9).toNat,au (BA) (Du this.1),MQ this.2⟩
  obtain ⟨j,hj,hj4⟩:∃i:Nat,(c.fdiv 63).fmod 4=i/\i < 4:=by
   have:=dE (c.fdiv 63) (b:=4) (by decide)
   exact ⟨((c.fdiv 63).fmod 4).toNat,au (BA) (Du this.1),Jr this.2⟩
  have hm:=ft.mp (ft.mp NE i (List.mem_range.mpr hi7)) n (List.mem_range.mpr hn9)
  rw [ao] at hm
  have h1:=ac hm.1
  have h2:=ac hm.2
  have ht:(xg j).length<=2:=oB (P:=λj=>(xg j).length<=2) (by decide) (by decide) (by decide) (by decide) (by decide) (lF hj4)
  have e:kK c=fc (Eh i n j):=by unfold kK;rw [hi,hn,hj];rfl
  refine bn C' [.n,.o (.kstr (xg j))] ⟨?_,by decide,rfl,by decide,by rw [hi];exact ax _,by rw [hi];show (i:Int) < 7;exact (qN (cK (.c Y0) (.k 7)) [1]:di [aR Y0 (.k 7)]) hi7,by rw [hi];exact (qN (cK (.c Y0) pQ) [1]:di [aR Y0 (.k 7)]) hi7,by decide,by rw [hi,hn];exact AR h1 hn9,by decide,rfl,by decide,by rw [hj];exact Fy hj4,?_,trivial⟩
  .rw [e,qf,hi,hn]
   rfl
  .rw [hi,hn]
   exact ai (z9 h2 ht) (by decide)
 .exact de (ρ':=.bind "texts" (eE [kK c0,kK c1,kK c2,kK c3,kK c4]) (.bind "mark" (.kstr ⟨#[mk]⟩) (uz κ tt sp .nil))) (SubR.le ⟨rfl,rfl,rfl,rfl,rfl,rfl,rfl,trivial⟩ rfl) (k _ _ _ _ _ (kX c0) (kX c1) (kX c2) (kX c3) (kX c4))
noncomputable def Gr (T:iA)(x:Tx):List Str:=x.map λc=>dr (er T c)
theorem Iv (T:iA):∀x:Tx,Txt.join ⟨#[]⟩ (Gr T x)=dr (esc T x):=λx=>by
 unfold Txt.join
 rw [StrLaws.glued_eq_join]
 unfold Gr
 induction x with
 | nil=>rfl
 | cons c x ih=>
  cases x with
  | nil=>show dr (er T c)=dr (er T c++[]);rw [fS]
  | cons d x=>
   show dr (er T c)++(⟨#[]⟩:Str)++Str.join ⟨#[]⟩ (yn (λc=>dr (er T c)) (d :: x))=_
   rw [ih,show (⟨#[]⟩:Str)=dr [] from rfl,fX,fX,fS]
   rfl
theorem Ei (T:iA):∀x:Tx,((Gr T x).map (·.length)).sum=(esc T x).length
 | []=>rfl
 | c :: x=>by
  have ih:=Ei T x
  unfold Gr at ih ⊢
  rw [aD,aD,rA,ih,fC,az,dB]
theorem uq (T:iA):∀x:Tx,o8 (x.map λc=>D.kstr (dr (er T c)))=some (Gr T x)
 | []=>rfl
 | c :: x=>by rw [aD,o8,uq T x];rfl
theorem LU {T:iA}{x:Tx}(h:(esc T x).length + x.length<=1048576):Gives (uP "join" (.kstr ⟨#[]⟩) [.list (x.map λc=>D.kstr (dr (er T c)))]) (.str (dr (esc T x))):=by
 show Gives ((o8 (x.map λc=>D.kstr (dr (er T c)))).map λys=>(D.str (Txt.join ⟨#[]⟩ ys),[JoinOk ⟨#[]⟩ ys=true])) _
 rw [uq]
 refine ⟨congrArg D.str (Iv T x),joinOk_of_weight ?_ (by decide),trivial⟩
 rw [Ei]
 unfold Gr
 rw [ab]
 exact h
variable {sp':Int}{xs:List Tx}
theorem OP (C:LC W A env)(hx:∀x∈xs,wI x)(h5:xs.length=5)(k:Blk W A env (.bind "weights" (.list ((xs.map λx=>(1 + (sp (aC κ) x:Int))).map .int)) (.bind "texts" (eE xs) (.bind "mark" (.kstr ⟨#[mk]⟩) (uz κ tt sp' .nil)))) L ((aH 27).drop 9) Kn Pr):
  Blk W A env (.bind "texts" (eE xs) (.bind "mark" (.kstr ⟨#[mk]⟩) (uz κ tt sp' .nil))) L ((aH 27).drop 8) Kn Pr:=by
 refine j8 C.hs rfl rfl (oR C.toCx (ds:=xs.map λx=>.str (dr x)) (cC C.hh (bn C.toCx [] ⟨rfl,trivial⟩)) (by kernel_rfl) (sz (n:=5) (by rw [ab,ab,h5];exact ae _) rfl) λenv1 C1=>?_) k
 rw [cO]
 refine Rows.map λx hm=>⟨_,rfl,bn C1 [.v (.list ((x.filter (kj (aC κ))).map CG))] ⟨by rw [ab];rfl,?_,?_,trivial⟩⟩
 .refine LB C1 (ds:=x.map CG) (os:=x.map λc=>if kj (aC κ) c then [CG c] else []) ?_ (by kernel_rfl) ?_ (sa _ _ _) λenv2 C2=>
   Rows.map λc _=>⟨_,kj (aC κ) c,rfl,gq C2 [] ⟨ID κ c,trivial⟩,λhb=>⟨_,bn C2 [] ⟨rfl,trivial⟩,by rw [if_pos hb]⟩,λhb=>by rw [hb];rfl⟩
  .exact lY (x:=dr x) C1.hh (bn C1 [] ⟨rfl,trivial⟩) rfl
  rw [ab]
  exact sz (ai (eH _ _) (hx x hm).1) rfl
 .rw [ab]
  have:=ai (eH (kj (aC κ)) x) (hx x hm).1
  exact (qN (cK (.c Y0) pQ) [1]:di [.l Y0 (.k 10)]) this
theorem kY (h:k < 5):((aC k).all λp=>dn p.2.length 6)=true:=oB (P:=λk=>((aC k).all λp=>dn p.2.length 6)=true) rfl rfl rfl rfl rfl h
theorem HD (h:k < 5):((aC k).all λp=>(aC k).lookup p.1==some p.2)=true:=oB (P:=λk=>((aC k).all λp=>(aC k).lookup p.1==some p.2)=true) rfl rfl rfl rfl rfl h
variable {wd:Tx}
theorem KI (h:k < 5)(e:(aC k)[i]? =some (mk,wd)):(aC k).lookup mk=some wd:=by
 simpa using ft.mp (HD h) _ (List.mem_of_getElem? e)
noncomputable def wA (κ:Nat)(xs:List Tx):List Int:=xs.map λx=>1 + (sp (aC κ) x:Int)
noncomputable def No (κ mk:Nat)(xs:List Tx)(tt sp':Int):Rho:=.bind "weights" (.list ((wA κ xs).map .int)) (.bind "texts" (eE xs) (.bind "mark" (.kstr ⟨#[mk]⟩) (uz κ tt sp' .nil)))
noncomputable def Hr (κ:Nat)(xs:List Tx):D:=.list (xs.map λx=>.str (dr (esc (aC κ) x)))
theorem LX (C:Cx W A env sc){x:Tx}{i:Expr}(hi:dS W A env ρ (.Name y q) i (x.map CG))(hq:(gD sc scope&&dR i&&jU scope (.Name y q))=true)(hz:x.length<=1000000)(h:∀env',Cx W A env' (eP sc scope)->∀c,aQ W A env' (.bind y (CG c) (.under scope ρ)) elt ((ic (jR κ) (mq κ) ⟨#[c]⟩).getD (CG c))):
  aQ W A env ρ (.ListComp elt [⟨.Name y q,i,[],0⟩] scope pos) (.list (x.map λc=>.kstr (dr (er (aC κ) c)))):=
 oR C hi hq (sz (n:=1000000) (by rw [ab];exact hz) rfl) λenv' C'=>Rows.map λc _=>⟨_,rfl,IE κ c▸h env' C' c⟩
theorem OO (C:LC W A env)(hκ:κ < 5)(hx:∀x∈xs,wI x)(h5:xs.length=5)(k:Blk W A env (.bind "nests" (.list ((bS 5 0).map (mB (aC κ) mk xs))) (.bind "written" (Hr κ xs) (No κ mk xs tt sp'))) L ((aH 27).drop 11) Kn Pr):
  Blk W A env (No κ mk xs tt sp') L ((aH 27).drop 9) Kn Pr:=by
 refine zN C.toCx (outs:=xs.map λx=>.str (dr (esc (aC κ) x))) (ds:=xs.map λx=>.str (dr x)) (cC C.hh (bn C.toCx [] ⟨rfl,trivial⟩)) (by kernel_rfl) (sz (n:=5) (by rw [ab,h5];exact ae _) rfl) (λenv1 C1=>Rows.map λx hm=>⟨_,rfl,bn C1 [.v (.list (x.map λc=>.kstr (dr (er (aC κ) c)))),.o (.str (dr (esc (aC κ) x)))] ⟨rfl,?_,?_,trivial⟩⟩) ?_
 .refine LX C1 ?_ (by kernel_rfl) (ai (hx x hm).1 (by decide)) λenv2 C2 c=>bn C2 [] ⟨rfl,trivial⟩
  exact lY (x:=dr x) C1.hh (bn C1 [] ⟨rfl,trivial⟩) rfl
 .exact LU (by have:=jZ (kY hκ) x;have:=(hx x hm).1;exact (qN (.l (.a Y0 Y1) (.k 1048576)) [1,7]:cz [.l Y0 (.m 6 Y1),.l Y1 (.k 10)]) (by assumption) this)
 .exact bV C.toCx [.v (.list ((bS 5 0).map (mB (aC κ) mk xs)))] _ rfl ⟨rfl,⟨cL xK C.good.prg,zT C.good (C.room.le (by decide)) (tS C.good hκ) (kY hκ) (λx h=>(hx x h).1) h5⟩,trivial⟩ k
noncomputable def KO (κ mk:Nat)(xs:List Tx)(tt sp':Int):Rho:=.bind "nests" (.list ((bS 5 0).map (mB (aC κ) mk xs))) (.bind "written" (Hr κ xs) (No κ mk xs tt sp'))
noncomputable def xE (κ:Nat)(xs:List Tx):List Int:=xs.map λx=>((esc (aC κ) x).length:Int)
noncomputable def jO (κ:Nat)(wd:Tx)(xs:List Tx):Int:=(xE κ xs).sum - 4 * (wA κ xs).sum + 3 * (wd.length:Int) - 23
noncomputable def kM (κ:Nat)(wd:Tx)(xs:List Tx):List Int:=(bS 5 0).map λt=>jO κ wd xs + 4 * oE (wA κ xs) (ib t)
theorem DH {x:Int}(h0:0<=x)(h:x < 2 ^ 40):d8 x<=64:=ai (bF h0 h) (by decide)
theorem rJ (hx:∀x∈xs,wI x):∀w∈wA κ xs,0<=w/\w < 2 ^ 40:=λw hw=>by
 apply aA (Cj.mp hw);intro x hm hq0;subst hq0
 have:sp (aC κ) x<=10:=ai (eH _ _) (hx x hm).1
 exact ⟨(qN (.L J0 (.a J1 (.c Y0))) []:di []),(qN (cK (.a J1 (.c Y0)) (.k 1099511627776)) [1]:di [.l Y0 (.k 10)]) this⟩
theorem AD {P:D->D->Prop}:∀(as bs:List Int),(∀a∈as,∀b,P (.tup [.int a,.int b]) (.int (a * b)))->Rows P (tA (as.map .int) (bs.map .int)) ((Ci (· * ·) as bs).map .int)
 | [],_,_=>.nil
 | _ :: _,[],_=>.nil
 | a :: as,b :: bs,h=>.cons (h a (.head _) b) (AD as bs λa ha=>h a (.tail _ ha))
theorem ul:(bS 5 0).length=14:=by rw [nL];rfl
theorem ON (C:LC W A env)(hκ:κ < 5)(hm:(aC κ).lookup mk=some wd)(hw6:wd.length<=6)(hx:∀x∈xs,wI x)(h5:xs.length=5)(k:Blk W A env (.bind "sizes" (.list ((kM κ wd xs).map .int)) (KO κ mk xs tt sp')) L ((aH 27).drop 13) Kn Pr):
  Blk W A env (KO κ mk xs tt sp') L ((aH 27).drop 11) Kn Pr:=by
 refine bV C.toCx [.v (.list ((xE κ xs).map .int)),.o (.int (xE κ xs).sum),.o (.int (wA κ xs).sum),.o (.kstr (dr wd))] (.int (jO κ wd xs)) rfl ⟨rfl,?_,Cz rfl,Cz rfl,cQ (by decide),?_,?_,cQ (by decide),trivial⟩ ?_
 .refine oR C.toCx (ds:=xs.map λx=>.str (dr (esc (aC κ) x))) (cC C.hh (bn C.toCx [] ⟨rfl,trivial⟩)) (by kernel_rfl) (sz (n:=5) (by unfold xE;rw [ab,ab,h5];exact ae _) rfl) λenv1 C1=>?_
  unfold xE
  rw [cO]
  refine Rows.map λx hm=>⟨_,rfl,bn C1 [] ⟨rfl,?_,trivial⟩⟩
  have:=jZ (kY hκ) x;have:=(hx x hm).1
  rw [dB]
  exact (qN (cK (.c Y0) pQ) [1,6]:cz [.l Y0 (.m 6 Y1),.l Y1 (.k 10)]) (by assumption) this
 .show Gives ((ic (jR κ) (mq κ) ⟨#[mk]⟩).map λd=>(d,[])) _
  unfold jR mq
  rw [rZ,hm]
  exact ⟨rfl,trivial⟩
 .rw [dB];exact (qN (cK (.c Y0) pQ) [1]:di [.l Y0 (.k 6)]) hw6
 .refine zN C.toCx (ds:=(bS 5 0).map (mB (aC κ) mk xs)) (outs:=(kM κ wd xs).map .int) (cC C.hh (bn C.toCx [] ⟨rfl,trivial⟩)) (by kernel_rfl) (sz (n:=14) (by unfold kM;rw [ab,ab,ul];exact ae _) rfl) (λenv1 C1=>?_) ?_
  .unfold kM
   rw [cO]
   refine Rows.map λt ht=>⟨_,rfl,bn C1 [.v (.list ((Ci (· * ·) (wA κ xs) (ib t)).map .int)),.o (.int (oE (wA κ xs) (ib t)))] ⟨rfl,?_,Cz rfl,cQ (by decide),trivial⟩⟩
   refine oR C1 (ds:=tA ((wA κ xs).map .int) ((ib t).map .int)) ?_ (by kernel_rfl) ?_ λenv2 C2=>AD _ _ λw hw l=>⟨_,rfl,bn C2 [] ⟨rfl,cQ (DH (rJ hx w hw).1 (rJ hx w hw).2),trivial⟩⟩
   .exact Db C1.hh (bn C1 [] ⟨rfl,trivial⟩) (aJ rfl) (bn C1 [] ⟨rfl,trivial⟩) (aJ rfl) (bn C1 [] ⟨rfl,trivial⟩)
   .refine sz (n:=5) ?_ rfl
    unfold wA
    rw [ab,List.length_zipWith,ab,h5]
    exact Nat.min_le_left _ _
  .exact de (ρ':=.bind "sizes" (.list ((kM κ wd xs).map .int)) (KO κ mk xs tt sp')) (SubR.le ⟨rfl,rfl,rfl,rfl,rfl,rfl,rfl,rfl,rfl,rfl,rfl,trivial⟩ rfl) k
noncomputable def Pl (n:Nat)(d:D):Prop:=∃p,lL d=some p/\Sh n p
noncomputable def PlA (n:Nat)(ds:List D):Prop:=∃ps,kf ds=some ps/\∀p∈ps,Sh n p
theorem Pl.int (n:Nat)(i:Int):Pl n (.int i):=⟨.int i,rfl,.int i n⟩
theorem HF {x:Tx}(h:∀c∈x,c < 128):Aj (dr x)=true:=by
 unfold Aj dr
 rw [List.all_toArray]
 exact ft.mpr λc hc=>decide_eq_true (iZ (h c hc) (by decide))
theorem Pl.str (n:Nat){x:Tx}(h:∀c∈x,c < 128):Pl n (.str (dr x)):=⟨.str (dr x),rfl,.str (HF h) n⟩
theorem PlA.of {n:Nat}:∀{ds:List D},(∀d∈ds,Pl n d)->PlA n ds
 | [],_=>⟨[],by rw [kf],λ_ h=>(nomatch h)⟩
 | d :: ds,h=>by
  apply aA (h d (.head _));intro p e1 e2
  apply aA (PlA.of λd hd=>h d (.tail _ hd));intro ps f1 f2
  refine ⟨p :: ps,by rw [kf,e1,f1],λq hq=>?_⟩
  rcases List.mem_cons.mp hq with rfl | hq
  .exact e2
  .exact f2 q hq
theorem Pl.list (h:∀d∈ds,Pl n d):Pl (n + 1) (.list ds):=by
 apply aA (PlA.of h);intro ps f1 f2
 exact ⟨.list ps,by rw [lL,f1];rfl,.list f2⟩
theorem Pl.tup (h:∀d∈ds,Pl n d):Pl (n + 1) (.tup ds):=by
 apply aA (PlA.of h);intro ps f1 f2
 exact ⟨.tuple ps,by rw [lL,f1];rfl,.tup f2⟩
theorem Pl.ints (ns:List Int):Pl 1 (.list (ns.map .int)):=Pl.list λd hd=>by apply aA (Cj.mp hd);intro i _ hq0;subst hq0;exact .int 0 i
theorem Qh (h:Pl n (.list ds))(hn:n<=64):Gives (ll .Eq (.list ds) (.list ds)) true:=by
 apply aA (h);intro p e1 e2
 show Gives ((lL (.list ds)).bind λp=>(lL (.list ds)).bind λq=>some (bZ p q,[bQ p,bQ q])) true
 rw [e1]
 exact ⟨iB p e2.1,e2.ok hn,e2.ok hn,trivial⟩
theorem PH (h:Pl n (.list ds))(hn:n<=64):Gives (ll .NotEq (.list ds) (.list ds)) false:=by
 apply aA (h);intro p e1 e2
 show Gives ((lL (.list ds)).bind λp=>(lL (.list ds)).bind λq=>some (!bZ p q,[bQ p,bQ q])) false
 rw [e1]
 exact ⟨by rw [iB p e2.1];rfl,e2.ok hn,e2.ok hn,trivial⟩
theorem Kp {ps:List PyData}{p:PyData}(hp:lL d=some p)(h3:bZ p p=true)(h:kf ds=some ps)(hd:d∈ds):ps.any (λq=>bZ q p)=true:=by
 induction ds generalizing ps with
 | nil=>cases hd
 | cons e ds ih=>
  rw [kf] at h
  cases he:lL e with
  | none=>rw [he] at h;exact (aK h).elim
  | some q=>
   cases hs:kf ds with
   | none=>rw [he,hs] at h;exact (aK h).elim
   | some qs=>
    rw [he,hs] at h
    (refine eQ h ?_;clear h;intro q₁;subst q₁)
    rw [List.any_cons]
    rcases List.mem_cons.mp hd with rfl | hd
    .rw [hp] at he;(refine eQ he ?_;clear he;intro q₁;subst q₁);rw [h3];rfl
    .rw [ih hs hd,Bool.or_true]
theorem C0 (h:∀d∈ds,Pl n d)(hn:n < 64)(hd:d∈ds)(hi:∃es,d=.list es\/d=.tup es):Gives (ll .NotIn d (.list ds)) false:=by
 apply aA (PlA.of h);intro ps f1 f2
 apply aA (h d hd);intro p e1 e2
 have e:Of d (.list ds)=some (ps.any λq=>bZ q p,[bQ (.list ps),bQ p]):=by
  show tq ((lL d).bind λp=>(kf ds).bind λps=>some (ps.any (λq=>bZ q p),[bQ (.list ps),bQ p])) _=_
  rw [e1,f1]
  rfl
 have q:Gives ((Of d (.list ds)).map λp=>(!p.1,p.2)) false:=by
  rw [e]
  exact ⟨by show (!ps.any λq=>bZ q p)=false;rw [Kp e1 (iB p e2.1) f1 hd];rfl,(Sh.list f2).ok hn,e2.ok (cZ hn),trivial⟩
 obtain ⟨es,rfl | rfl⟩:=hi
 .exact q
 .exact q
theorem xh (h:k < 5):((aC k).all λp=>dz p.1 128&&p.2.all λc=>dz c 128)=true:=oB (P:=λk=>((aC k).all λp=>dz p.1 128&&p.2.all λc=>dz c 128)=true) rfl rfl rfl rfl rfl h
theorem nZ (h:k < 5){x:Tx}(hx:∀c∈x,c < 128):∀c∈esc (aC k) x,c < 128:=λc hc=>by
 apply aA (List.mem_flatMap.mp hc);intro d hd hc
 unfold er at hc
 cases e:(aC k).lookup d with
 | none=>rw [e] at hc;rw [rF.mp hc];exact hx d hd
 | some w=>
  rw [e] at hc
  have:=ft.mp (xh h) _ (yX e)
  rw [ao] at this
  simpa [kQ] using ft.mp this.2 c hc
theorem rR {k mk:Nat}(h:k < 5)(hm:mk < 128){ts:List Tx}(ht:∀x∈ts,∀c∈x,c < 128):∀t:Tr,∀c∈raw (aC k) mk ts t,c < 128
 | .leaf i,c,hc=>by
  rw [raw,List.getD_eq_getElem?_getD] at hc
  cases e:ts[i]? with
  | none=>rw [e] at hc;cases hc
  | some x=>rw [e] at hc;exact ht x (List.mem_of_getElem? e) c hc
 | .node l r,c,hc=>by
  rw [raw,jH,jH] at hc
  rcases hc with (hc | hc) | hc
  .exact nZ h (rR h hm ht l) c hc
  .rw [rF.mp hc];exact hm
  .exact nZ h (rR h hm ht r) c hc
theorem Ew {a b:Expr}(h1:gv W A env ρ a false)(h2:gv W A env ρ b false)(k:Blk W A env ρ L rest Kn Pr):Blk W A env ρ L (.If (.BoolOp .Or [a,b] q) body [] p :: rest) Kn Pr:=
 sB (c:=false) (rM (.or_false h1 (.or_false h2 .or_nil))) (cG k)
theorem LQ {a b c:Expr}(h1:gv W A env ρ a false)(h2:gv W A env ρ b false)(h3:gv W A env ρ c false)(k:Blk W A env ρ L rest Kn Pr):Blk W A env ρ L (.If (.BoolOp .Or [a,b,c] q) body [] p :: rest) Kn Pr:=
 sB (c:=false) (rM (.or_false h1 (.or_false h2 (.or_false h3 .or_nil)))) (cG k)
noncomputable def Nm (κ mk:Nat)(wd:Tx)(xs:List Tx)(tt sp':Int):Rho:=.bind "sizes" (.list ((kM κ wd xs).map .int)) (KO κ mk xs tt sp')
structure Std (κ mk:Nat)(wd:Tx)(xs:List Tx):Prop where
 k5:κ < 5
 mark:(aC κ).lookup mk=some wd
 ne:mk≠38
 x5:xs.length=5
 ok:∀x∈xs,wI x
theorem Std.word (S:Std κ mk wd xs):wd.length<=6:=ac (ft.mp (kY S.k5) _ (yX S.mark))
theorem Std.mk128 (S:Std κ mk wd xs):mk < 128:=by
 have:=ft.mp (xh S.k5) _ (yX S.mark)
 rw [ao] at this
 simpa [kQ] using this.1
theorem Std.len (S:Std κ mk wd xs):∀x∈xs,x.length<=10:=λx h=>(S.ok x h).1
theorem Std.raw (S:Std κ mk wd xs){t:Tr}(h:t∈bS 5 0):(raw (aC κ) mk xs t).length<=100000/\(esc (aC κ) (raw (aC κ) mk xs t)).length<=600000:=nN (kY S.k5) S.len (by decide) (by decide) h
theorem Std.ascii (S:Std κ mk wd xs)(t:Tr):∀c∈Internal.raw (aC κ) mk xs t,c < 128:=rR S.k5 S.mk128 (λx h=>(S.ok x h).2) t
theorem Std.size (S:Std κ mk wd xs){t:Tr}(h:t∈bS 5 0):((Internal.raw (aC κ) mk xs t).length:Int)=jO κ wd xs + 4 * oE (wA κ xs) (ib t):=by
 obtain ⟨h1,h2,_,h3,h4⟩:=S
 revert h4
 refine K6 h3 λx0 x1 x2 x3 x4 h4=>?_
 .skip
  rw [Ig (ui κ) (Dq κ) (by unfold kj;rw [h2];rfl) h]
  unfold jO xE wA er
  rw [h2]
  simp only [aD,dh,rA,List.sum_nil,cn]
  exact au ((qN (.L (.a (.s (.a (.s (.a (.a (.a (.a (.c Y0) (.c Y1)) (.c Y2)) (.c Y3)) (.c Y4)) (.m 4 (.a (.a (.a (.a (.a J1 (.c Y5)) (.a J1 (.c Y6))) (.a J1 (.c Y7))) (.a J1 (.c Y8))) (.a J1 (.c Y9))))) (.m 3 (.c Ps))) (.k 23)) (.m 4 I0)) (.a (.s (.a (.s (.a (.c Y0) (.a (.c Y1) (.a (.c Y2) (.a (.c Y3) (.a (.c Y4) J0))))) (.m 4 (.a (.a J1 (.c Y5)) (.a (.a J1 (.c Y6)) (.a (.a J1 (.c Y7)) (.a (.a J1 (.c Y8)) (.a (.a J1 (.c Y9)) J0))))))) (.m 3 (.c Ps))) (.k 23)) (.m 4 I0))) []:qT [_,_,_,_,_,_,_,_,_,_,_] [_] [] _)) ((qN (.L (.a (.s (.a (.s (.a (.c Y0) (.a (.c Y1) (.a (.c Y2) (.a (.c Y3) (.a (.c Y4) J0))))) (.m 4 (.a (.a J1 (.c Y5)) (.a (.a J1 (.c Y6)) (.a (.a J1 (.c Y7)) (.a (.a J1 (.c Y8)) (.a (.a J1 (.c Y9)) J0))))))) (.m 3 (.c Ps))) (.k 23)) (.m 4 I0)) (.a (.s (.a (.s (.a (.a (.a (.a (.c Y0) (.c Y1)) (.c Y2)) (.c Y3)) (.c Y4)) (.m 4 (.a (.a (.a (.a (.a J1 (.c Y5)) (.a J1 (.c Y6))) (.a J1 (.c Y7))) (.a J1 (.c Y8))) (.a J1 (.c Y9))))) (.m 3 (.c Ps))) (.k 23)) (.m 4 I0))) []:qT [_,_,_,_,_,_,_,_,_,_,_] [_] [] _))
variable {size:Nat}
theorem Std.sizes (S:Std κ mk wd xs):((bS 5 0).map λt=>((Internal.raw (aC κ) mk xs t).length:Int))=kM κ wd xs:=gM λt h=>S.size h
theorem Std.calls (S:Std κ mk wd xs)(G:Good W)(R:Room A 2){x:Tx}(h:x.length<=100000):CallB W A (.ref (sr κ)) [.str (dr x)] [] (.str (dr (esc (aC κ) x))):=⟨(tS G S.k5).keep,(tS G S.k5).call A R x h⟩
theorem OM (C:LC W A env)(S:Std κ mk wd xs)(k:Blk W A env (Nm κ mk wd xs tt sp') L ((aH 27).drop 14) Kn Pr):Blk W A env (Nm κ mk wd xs tt sp') L ((aH 27).drop 13) Kn Pr:=by
 refine Ew (gq C.toCx [.v (Hr κ xs),.o (.bool false)] ⟨rfl,?_,PH (n:=1) (Pl.list λd hd=>?_) (by decide),trivial⟩)
  (gq C.toCx [.v (.list ((kM κ wd xs).map .int)),.o (.bool false)] ⟨rfl,?_,PH (Pl.ints _) (by decide),trivial⟩) k
 .exact oR C.toCx (ds:=xs.map λx=>.str (dr x)) (cC C.hh (bn C.toCx [] ⟨rfl,trivial⟩)) (by kernel_rfl) (sz (n:=5) (by rw [ab,S.x5];exact ae _) rfl) λenv1 C1=>Rows.map λx hm=>⟨_,rfl,bn C1 [.v (.str (dr (esc (aC κ) x)))] ⟨rfl,S.calls C.good (C.room.le (by decide)) (ai (S.len x hm) (by decide)),trivial⟩⟩
 .apply aA (Cj.mp hd);intro x hm hq0;subst hq0
  exact .str 0 (nZ S.k5 (S.ok x hm).2)
 .refine oR C.toCx (ds:=(bS 5 0).map (mB (aC κ) mk xs)) (cC C.hh (bn C.toCx [] ⟨rfl,trivial⟩)) (by kernel_rfl) (sz (n:=14) (by unfold kM;rw [ab,ab,ul];exact ae _) rfl) λenv1 C1=>?_
  rw [<-S.sizes,cO]
  refine Rows.map λt ht=>⟨_,rfl,bn C1 [] ⟨by rw [dB];rfl,?_,trivial⟩⟩
  rw [dB]
  have:=(S.raw ht).1
  exact LZ this
theorem JY {i c:Expr}(C:Cx W A env sc)(hi:dS W A env ρ t i ds)(hq:(gD sc scope&&dR i&&jU scope t&&(bk sc==.function&&sc.names.lookup y==some .local&&py.line==pos.line&&!(scope.names.any λz=>z.1==y&&(z.2==.local||z.2==.cell)))&&sc.names.lookup y==some .local)=true)(hz:outs.length<=sizeLine)(ho:outs=os.flatten)(h:∀env',Cx W A env' (eP sc scope)->Rows (λd o=>∃ρ' b,Ce t d (.under scope ρ)=some ρ'/\gv W A env' ρ' c b/\(b=true->∃d',aQ W A env' ρ' elt d'/\o=[d'])/\(b=false->o=[])) ds os)(k:Blk W A env (.bind y (.list outs) ρ) L rest Kn Pr):Blk W A env ρ L (.Assign [.Name y py] (.ListComp elt [⟨t,i,[c],0⟩] scope pos) spos :: rest) Kn Pr:=by
 rw [ao,ao,ao,ao] at hq
 exact fh (λ_ h=>h) (λg s F k l Q E hQ=>mx (os:=os) C.hh (i8 C.hs hq.1.1.1.1) hq.1.1.1.2 (λc hc=>by cases hc) (un C.hs hq.1.2) (by unfold bj;rw [C.hs];exact beq_iff_eq.mp hq.2) hi
  (λcl C'=>⟨jF C.hs hq.1.1.2,(h (compEnvC scope cl C' env) ⟨eo C.hs,C.G,C.hu,C.hh⟩).length,λk d o e1 e2=>by
   apply ik ((h (compEnvC scope cl C' env) ⟨eo C.hs,C.G,C.hu,C.hh⟩).get k d o e1 e2);intro ρ' b h1 h2 h3 h4
   exact ⟨ρ',b,h1,⟨b,h2,by cases b<;>rfl⟩,h3,h4⟩⟩) (by rw [<-ho];exact hz) ho F k λg' s' x F'=>hQ g' s' (x.mono λa h=>.inl (.inl h)) F' (l.step (x.mono λa h=>.inl h))) k
theorem PJ {m:Int}(h1:m∈ns)(h2:∀a∈ns,m<=a):Gives (Ph "min" [.list (ns.map .int)]) (.int m):=by
 show Gives (tq ((fZ (ns.map .int)).map λns=>(D.int (yW ns),[0 < ns.length])) _) _
 rw [jS]
 exact ⟨congrArg D.int (yV h1 h2),List.length_pos_of_mem h1,trivial⟩
noncomputable def Nl (κ mk:Nat)(xs:List Tx)(tt sp':Int)(t:Tr):Rho:=.bind "rights" (oy t) (.bind "nests" (.list ((bS 5 0).map (mB (aC κ) mk xs))) (.bind "texts" (eE xs) (.bind "mark" (.kstr ⟨#[mk]⟩) (uz κ tt sp' .nil))))
theorem OL (C:LC W A env)(S:Std κ mk wd xs)(k:∀t∈bS 5 0,Blk W A env (Nl κ mk xs tt sp' t) L ((aH 27).drop 17) Kn Pr):Blk W A env (Nm κ mk wd xs tt sp') L ((aH 27).drop 14) Kn Pr:=by
 have wl:(wA κ xs).length=5:=by unfold wA;rw [ab,S.x5]
 apply bT (Ll wl λw hw=>(rJ S.ok w hw).1);intro t ht hl hmin
 have hle:∀a∈kM κ wd xs,jO κ wd xs + 4 * oE (wA κ xs) (ib t)<=a:=λa ha=>by
  apply aA (Cj.mp ha);intro t' ht' hq0;subst hq0
  have:=hmin t' ht'
  exact (qN (.L (.a I2 (.m 4 I0)) (.a I2 (.m 4 I1))) [4]:Fs [.L I0 I1]) this
 have R8:Room A 8:=C.room.le (by decide)
 have lv:∀{pa:Addr} {st:Int},Puts W pa st->CallB W A (.ref 156) [.list ((wA κ xs).map .int),.ref pa,.int st] [] (oy t):=λP=>⟨cL vn C.good.prg,by have:=wV C.good R8 wl P;rwa [hl] at this⟩
 refine iq C.toCx [.v (oy t),.v (oy t),.o (.int (jO κ wd xs + 4 * oE (wA κ xs) (ib t)))] [oy t,oy t,.int (jO κ wd xs + 4 * oE (wA κ xs) (ib t))] rfl rfl rfl ⟨rfl,lv (Os C.good.prg),lv (Ot C.good.prg),PJ (Cj.mpr ⟨t,ht,rfl⟩) hle,trivial⟩ ?_
 have hmem:oy t∈((bS 5 0).filter λt'=>decide (((raw (aC κ) mk xs t').length:Int)=jO κ wd xs + 4 * oE (wA κ xs) (ib t))).map oy:=Cj.mpr ⟨t,List.mem_filter.mpr ⟨ht,decide_eq_true (S.size ht)⟩,rfl⟩
 refine JY C.toCx (ds:=(bS 5 0).map (mB (aC κ) mk xs)) (outs:=((bS 5 0).filter λt'=>decide (((raw (aC κ) mk xs t').length:Int)=jO κ wd xs + 4 * oE (wA κ xs) (ib t))).map oy) (cC C.hh (bn C.toCx [] ⟨rfl,trivial⟩)) (by kernel_rfl) ?_ (sa _ _ _) (λenv1 C1=>Rows.map λt' ht'=>⟨_,decide (((raw (aC κ) mk xs t').length:Int)=jO κ wd xs + 4 * oE (wA κ xs) (ib t)),rfl,?_,λhb=>⟨_,bn C1 [] ⟨rfl,trivial⟩,by rw [if_pos hb]⟩,λhb=>by rw [hb];rfl⟩) ?_
 .rw [ab]
  exact sz (n:=14) (ai (eH _ _) (by rw [ul];exact ae _)) rfl
 .refine gq C1 [] ⟨by rw [dB];rfl,?_,trivial⟩
  rw [dB]
  have:=(S.raw ht').1
  exact LZ this
 .have pl:∀d∈((bS 5 0).filter λt'=>decide (((raw (aC κ) mk xs t').length:Int)=jO κ wd xs + 4 * oE (wA κ xs) (ib t))).map oy,Pl 1 d:=λd hd=>by
   apply aA (Cj.mp hd);intro t' _ hq0;subst hq0
   exact Pl.ints _
  refine LQ (gq C.toCx [.o (.bool false)] ⟨rfl,C0 pl (by decide) hmem ⟨_,.inl rfl⟩,trivial⟩) (gq C.toCx [.o (.bool false)] ⟨rfl,C0 pl (by decide) hmem ⟨_,.inl rfl⟩,trivial⟩) (gq C.toCx [.o (.bool false)] ⟨rfl,PH (Pl.ints (ib t)) (by decide),trivial⟩) ?_
  exact de (ρ':=Nl κ mk xs tt sp' t) (SubR.le ⟨rfl,rfl,rfl,rfl,rfl,rfl,rfl,rfl,rfl,trivial⟩ rfl) (k t ht)
theorem Kv (h:Pl n d)(hn:n<=64):Gives (ll .NotEq d d) false:=by
 apply aA (h);intro p e1 e2
 have e:ll .NotEq d d=(lL d).bind λp=>(lL d).bind λq=>some (!bZ p q,[bQ p,bQ q]):=by cases d<;>rfl
 rw [e,e1]
 exact ⟨by rw [iB p e2.1];rfl,e2.ok hn,e2.ok hn,trivial⟩
theorem PK (ns:List Int)(h:0 < ns.length):Gives (Ph "max" [.list (ns.map .int)]) (.int (uR ns)):=by
 show Gives (tq ((fZ (ns.map .int)).map λns=>(D.int (uR ns),[0 < ns.length])) _) _
 rw [jS]
 exact ⟨rfl,h,trivial⟩
noncomputable def Ou (t:Tr):Bool:=(ib t).all λl=>decide (0<=l)&&decide (l<=iL t)
theorem Nx:(treeL.all λt=>Ou t&&decide (1<=iL t))=true:=by kernel_rfl
structure TF (t:Tr):Prop where
 mem:t∈bS 5 0
 join:qm (aN t) 6 0 5 0 (cu t).toNat=some t
 top1:1<=iL t
 top4:iL t<=4
 lev0:∀l∈ib t,0<=l/\l<=iL t
 len:(ib t).length=5
 line:dW 1 (kz t)=cu t
theorem TF.of {t:Tr}(h:t∈bS 5 0):TF t:=by
 have ht:t∈treeL:=by rw [<-nL];exact h
 have h1:=ft.mp KV t ht
 have h2:=ft.mp Nx t ht
 have h3:=ft.mp KU t ht
 unfold HZ at h1
 simp only [ao,decide_eq_true_eq] at h1 h2
 refine ⟨h,?_,h2.2,h1.2.2,λl hl=>?_,?_,by simpa [HY] using h3⟩
 .cases e:qm (aN t) 6 0 5 0 (cu t).toNat with
  | none=>rw [e] at h1;cases h1.1
  | some u=>rw [e] at h1;rw [Tr.eq_of_beq h1.1]
 .simpa using ft.mp h2.1 l hl
 .rw [gQ,(iO 5 5 0 t (ae _) (by decide) (by decide) h).1]
theorem TF.pow {t:Tr}(T:TF t){e:Int}(h0:0<=e)(h:e<=iL t):(d8 2:Int) * e<=2 ^ 27:=by
 have:=T.top4
 have:d8 2=2:=by decide
 rw [this]
 exact (qN (.L (.m 2 I0) (.k 134217728)) [2,2]:kI [.L I0 I1,.L I1 J4]) h (by assumption)
noncomputable def HK (κ mk:Nat)(xs:List Tx)(tt sp':Int)(t:Tr):Rho:=.bind "shares" (.list ((eN t).map .int)) (.bind "line" (.int (cu t)) (.bind "top" (.int (iL t)) (.bind "levels" (oy t) (.bind "nests" (.list ((bS 5 0).map (mB (aC κ) mk xs))) (.bind "texts" (eE xs) (.bind "mark" (.kstr ⟨#[mk]⟩) (uz κ tt sp' .nil)))))))
theorem OK (C:LC W A env)(S:Std κ mk wd xs){t:Tr}(T:TF t)(k:Blk W A env (.bind "points" (.list ((aN t).map .int)) (HK κ mk xs tt sp' t)) L ((aH 27).drop 20) Kn Pr):Blk W A env (Nl κ mk xs tt sp' t) L ((aH 27).drop 17) Kn Pr:=by
 have t1:=T.top1
 refine iq C.toCx [.o (.int (iL t))] [oy t,.int (iL t)] rfl rfl rfl ⟨rfl,PK _ (by rw [T.len];decide),trivial⟩ ?_
 refine iq C.toCx [.v (.list ((eN t).map .int))] [.int (cu t),.list ((eN t).map .int)] rfl rfl rfl ⟨rfl,Jz t1,T.pow (Jz t1) (ee _),?_,trivial⟩ ?_
 .refine oR C.toCx (ds:=(ib t).map .int) (cC C.hh (bn C.toCx [] ⟨rfl,trivial⟩)) (by kernel_rfl) (sz (n:=5) (by unfold eN;rw [ab,ab,T.len];exact ae _) rfl) λenv1 C1=>?_
  unfold eN
  rw [cO]
  refine Rows.map λl hl=>⟨_,rfl,bn C1 [] ⟨rfl,?_,?_,trivial⟩⟩
  .have:=T.lev0 l hl;exact JH this.2
  .have:=T.lev0 l hl;exact T.pow (JH this.2) ((qN (.L (.s I1 I0) I1) [1]:kI [.L J0 I0]) this.1)
 .refine j8 C.hs rfl rfl (oR C.toCx (ds:=jd 0 5) (outs:=(aN t).map .int) ?_ (by kernel_rfl) (sz (n:=5) (by unfold aN;rw [ab,ab];exact ae _) rfl) λenv1 C1=>?_) ?_
  .rw [<-fW (a:=0) rfl]
   exact iQ (n:=5) rfl C.hh (bn C.toCx [] ⟨rfl,trivial⟩) (aJ rfl) (bn C.toCx [] ⟨rfl,trivial⟩) (by decide) (by decide)
  .unfold aN jd
   (rewrite [cO];try with_reducible rfl)
   refine Rows.map λi _=>⟨_,rfl,bn C1 [.o (.int ((eN t).take i).sum)] ⟨rfl,?_,Cz ?_,trivial⟩⟩
   .exact sz (n:=5) (by unfold eN;rw [ab,ab,T.len];exact ae _) rfl
   .rw [fL,jM,fa]
  .exact de (ρ':=.bind "points" (.list ((aN t).map .int)) (HK κ mk xs tt sp' t)) (SubR.le ⟨rfl,rfl,rfl,rfl,rfl,rfl,rfl,rfl,rfl,rfl,rfl,rfl,rfl,trivial⟩ rfl) k
theorem N3 (ns:List Int)(i:Int):Gives (uP "count" (.list (ns.map .int)) [.int i]) (.int (ns.count i:Nat)):=by
 show Gives ((fZ (ns.map .int)).map λns=>(D.int (ns.count i:Nat),[])) _
 rw [jS]
 exact ⟨rfl,trivial⟩
noncomputable def AE (κ mk:Nat)(xs:List Tx)(tt sp':Int)(t:Tr):Rho:=.bind "nest" (.str (dr (raw (aC κ) mk xs t))) (.bind "points" (.list ((aN t).map .int)) (.bind "shares" (.list ((eN t).map .int)) (.bind "line" (.int (cu t)) (.bind "levels" (oy t) (.bind "texts" (eE xs) (.bind "mark" (.kstr ⟨#[mk]⟩) (uz κ tt sp' .nil)))))))
theorem uT (t:Tr):0 < cu t:=cF _
theorem TF.sharesLen {t:Tr}(T:TF t):(eN t).length=5:=by unfold eN;rw [ab,T.len]
theorem TF.pointsLen (t:Tr):(aN t).length=5:=by unfold aN;rw [ab];rfl
theorem OJ (C:LC W A env)(S:Std κ mk wd xs){t:Tr}(T:TF t)(k:Blk W A env (.bind "nest" (.str (dr (raw (aC κ) mk xs t))) (.bind "points" (.list ((aN t).map .int)) (HK κ mk xs tt sp' t))) L ((aH 27).drop 22) Kn Pr):Blk W A env (.bind "points" (.list ((aN t).map .int)) (HK κ mk xs tt sp' t)) L ((aH 27).drop 20) Kn Pr:=by
 have lp:=uT t
 have hr:=S.raw T.mem
 have R2:Room A 2:=C.room.le (by decide)
 refine bV C.toCx [.v (.str (dr (raw (aC κ) mk xs t)))] _ rfl ⟨rfl,⟨cL vo C.good.prg,?_⟩,trivial⟩ ?_
 .have:=BN C.good (mk:=mk) (tS C.good S.k5) (kY S.k5) S.len S.x5 (TF.pointsLen t) 6 A 0 5 0 (cu t).toNat t (C.room.le (by decide)) (by decide) T.join
  rw [bN (ay lp)] at this
  exact this
 .refine Ew (gq C.toCx [.o (.bool false)] ⟨rfl,C0 (n:=2) (λd hd=>?_) (by decide) (Cj.mpr ⟨t,T.mem,rfl⟩:mB (aC κ) mk xs t∈_) ⟨_,.inr rfl⟩,trivial⟩)
   (gq C.toCx [.v (.str (dr (esc (aC κ) (raw (aC κ) mk xs t)))),.v (.list ((raw (aC κ) mk xs t).map λc=>.kstr (dr (er (aC κ) c)))),.o (.str (dr (esc (aC κ) (raw (aC κ) mk xs t)))),.o (.bool false)] ⟨rfl,S.calls C.good R2 hr.1,?_,LU ((qN (.l (.a Y1 Y0) (.k 1048576)) [1,1]:cz [.l Y0 (.k 100000),.l Y1 (.k 600000)]) hr.1 hr.2),Kv (.str 0 (nZ S.k5 (S.ascii t))) (by decide),trivial⟩) k
  .apply aA (Cj.mp hd);intro t' _ hq0;subst hq0
   refine Pl.tup λd hd=>?_
   rcases List.mem_cons.mp hd with rfl | hd
   .exact Pl.ints _
   .rw [rF.mp hd];exact .str 1 (S.ascii t')
  .refine LX C.toCx ?_ (by kernel_rfl) (ai hr.1 (by decide)) λenv2 C2 c=>bn C2 [] ⟨rfl,trivial⟩
   exact lY (x:=dr (raw (aC κ) mk xs t)) C.hh (bn C.toCx [] ⟨rfl,trivial⟩) rfl
theorem OI (C:LC W A env){t:Tr}(T:TF t)(k:Blk W A env (AE κ mk xs tt sp' t) L ((aH 27).drop 23) Kn Pr):Blk W A env (.bind "nest" (.str (dr (raw (aC κ) mk xs t))) (.bind "points" (.list ((aN t).map .int)) (HK κ mk xs tt sp' t))) L ((aH 27).drop 22) Kn Pr:=by
 have t1:=T.top1
 have t4:=T.top4
 have R9:Room A 9:=C.room.le (by decide)
 have cl:(kz t).length<=5:=by unfold kz;rw [ab,ce];exact (qK Y0 (.a I0 J1) (qN (.l Y0 J5) [0,1,0,1]) (qN (.l Y0 J5) [0,1]):oY [.L I0 J4]) t4
 have d1:bz W A (.ref 78) [.list ((kz t).map .int),.int 1] [] (.int (cu t)):=by
  have:=mi C.good (A:=A) (ns:=kz t) (n:=1) (B:=3) (m:=3) (C.room.le (by decide)) (ai cl (by decide)) (λd hd=>?_) (MD cl) (bI cl (ac rfl))
  .rw [T.line] at this;exact this
  .apply aA (Cj.mp hd);intro i _ hq0;subst hq0
   have:=List.count_le_length (a:=iL t - (i:Int)) (l:=ib t)
   rw [T.len] at this
   exact ⟨vM,(qN (cK (.c Y0) (.k 8)) [1]:di [.l Y0 J5]) this⟩
 have hT:((iL t).toNat:Int)=iL t:=au ((qK Y0 I0 (qN (.L (.c Y0) I0) [0,1]) (qN (.L (.c Y0) I0) [0,1,0,1]):oY [.L J1 I0]) t1) (BA)
 have d2:bz W A (.ref 78) [.list [],.int (iL t)] [] (.int 0):=by
  have:=mi C.good (A:=A) (ns:=[]) (n:=(iL t).toNat) (B:=3) (m:=0) (C.room.le (by decide)) (by decide) (λd hd=>nomatch hd) (by simp) (by decide)
  rw [hT] at this
  exact this
 have i2:bz W A (.ref 71) [.int 0,.int (iL t)] [] (.list []):=by
  have e:gH (iL t).toNat 0=0:=by
   unfold gH
   rw [show d8 0=0 by decide]
   exact Nat.div_eq_of_lt ((qK Y0 I0 (qB Y1 (.a J0 Y0) J1 (qN (aR Y1 Y0) [0,1]) (qN (aR Y1 Y0) [0,1,0,0,0,0,1,0,1])) (qA Y1 (.a J0 Y0) J1 (qN (aR Y1 Y0) [1,0,1,0,0,1])):qT [_,_] [_] [.L J1 I0,.E (.c Y0) I0] _) t1 hT)
  have:=pD C.good (A:=A) (a:=0) (n:=(iL t).toNat) (m:=0) ((qN (aR J0 Y0) [1,0,1]:oY [.L J1 I0,.E (.c Y0) I0]) t1 hT) ((qN (aR Y0 (.k 10000)) [1,1]:oY [.L I0 J4,.E (.c Y0) I0]) t4 hT) (by decide) (C.room.le (by decide)) (by decide) (by rw [e];decide)
  rw [hT,e] at this
  exact this
 refine Ew (gq C.toCx [.v (.list ((kz t).map .int)),.v (.int (cu t)),.o (.bool false)] ⟨rfl,?_,⟨cL qw C.good.prg,d1⟩,Kv (.int 0 _) (by decide),trivial⟩)
  (gq C.toCx [.v (.list []),.v (.int 0),.o (.bool false)] ⟨rfl,⟨cL t6 C.good.prg,i2⟩,⟨cL qw C.good.prg,d2⟩,Kv (Pl.list (n:=1) λd hd=>?_) (by decide),trivial⟩) ?_
 .refine oR C.toCx (ds:=jd 0 (iL t + 1).toNat) ?_ (by kernel_rfl) (sz (n:=5) (by rw [ab];exact cl) rfl) λenv1 C1=>?_
  .rw [<-fW (a:=0) rfl]
   exact iQ (n:=iL t + 1) rfl C.hh (bn C.toCx [] ⟨rfl,trivial⟩) (aJ rfl) (bn C.toCx [] ⟨rfl,trivial⟩) ((qN (.L (.n G3) (.a I0 J1)) [1]:oZ [.L J1 I0]) t1) ((qN (cK (.a I0 J1) G3) [1]:oZ [.L I0 J4]) t4)
  .unfold kz jd
   (rewrite [cO];try with_reducible rfl)
   refine Rows.map λi _=>⟨_,rfl,bn C1 [.o (.int ((ib t).count (iL t - (i:Int)):Nat))] ⟨rfl,?_,trivial⟩⟩
   rw [fL]
   exact N3 _ _
 .rcases List.mem_cons.mp hd with rfl | hd
  .exact Pl.list λd hd=>nomatch hd
  .rw [rF.mp hd];exact .int 1 0
 .exact de (ρ':=AE κ mk xs tt sp' t) (SubR.le ⟨rfl,rfl,rfl,rfl,rfl,rfl,rfl,rfl,rfl,rfl,rfl,rfl,trivial⟩ rfl) k
structure Nums (u r tn ln:Int):Prop where
 u0:0 < u
 r0:0<=r
 ru:r < u
 t1:tn=1\/tn= -1
 ub:intBits u<=4110
 lb:intBits ln<=2 ^ 21 + 4200
noncomputable def oH (κ mk:Nat)(xs:List Tx)(tt sp':Int)(t:Tr)(u r tn ln:Int):Rho:=.bind "lines" (.int ln) (.bind "turn" (.int tn) (.bind "rest" (.int r) (.bind "unit" (.int u) (AE κ mk xs tt sp' t))))
theorem Fx (h:k < 3):∃w:Nat,w<=4103/\Gives (lO (.tup [.int 0,.int 9,.int 64]) (.int (k:Int))) (.int (w:Int)):=
 oB (P:=λk=>k < 3->∃w:Nat,w<=4103/\Gives (lO (.tup [.int 0,.int 9,.int 64]) (.int (k:Int))) (.int (w:Int))) (λ_=>⟨0,by decide,rfl,by decide,by decide,trivial⟩) (λ_=>⟨9,by decide,rfl,by decide,by decide,trivial⟩) (λ_=>⟨64,by decide,rfl,by decide,by decide,trivial⟩) (λh=>absurd h (by decide)) (λh=>absurd h (by decide)) (iZ h (by decide)) h
theorem OH (C:LC W A env){t:Tr}(hb:intBits tt<=2 ^ 21)(k:∀u r tn ln:Int,Nums u r tn ln->Blk W A env (oH κ mk xs tt sp' t u r tn ln) L ((aH 27).drop 26) Kn Pr):Blk W A env (AE κ mk xs tt sp' t) L ((aH 27).drop 23) Kn Pr:=by
 have step:∀w:Nat,w<=4103->Blk W A env (.bind "wide" (.int (w:Int)) (AE κ mk xs tt sp' t)) L ((aH 27).drop 24) Kn Pr:=λw hw=>by
  have hp:=cF w
  obtain ⟨j,hj⟩:∃j,j=(sp'.fdiv 16).fmod 3:=⟨_,rfl⟩
  have hj3:=dE (sp'.fdiv 16) (b:=3) (by decide)
  obtain ⟨u,hu⟩:∃u:Int,u=2 ^ w + j:=⟨_,rfl⟩
  have hub:intBits u<=4110:=by
   refine bF (JN hp hj hj3.1 hu) (dx (b:=2 ^ (w + 2)) ?_ (mS ((qN (.l (.a Y0 J2) (.k 4110)) [1]:di [.l Y0 (.k 4103)]) hw)))
   rw [dQ]
   exact (qN (cK I3 (.w I0 4)) [3,1,0,1,1]:lJ [cK J0 I0,.E I1 I2,cK I2 J3,.E I3 (.a I0 I1)]) hp hj hj3.2 hu
  have w1:(w:Int)<=4103:=Int.ofNat_le.mpr hw
  have b1:intBits 1=1:=by decide
  have b2:intBits 2=2:=by decide
  refine bV C.toCx [] (.int u) rfl ⟨by rw [aB,bJ,hu,hj],ax _,by rw [b1];exact (qN (.L (.a J1 (.c Y0)) (.k 134217728)) [1]:di [.l Y0 (.k 4103)]) hw,by decide,rfl,by decide,trivial⟩ ?_
  obtain ⟨e,he⟩:∃e,e=(sp'.fdiv 48).fmod 2:=⟨_,rfl⟩
  have he2:=dE (sp'.fdiv 48) (b:=2) (by decide)
  obtain ⟨f,hf⟩:∃e,e=(sp'.fdiv 96).fmod 2:=⟨_,rfl⟩
  have hf2:=dE (sp'.fdiv 96) (b:=2) (by decide)
  rw [<-he] at he2
  rw [<-hf] at hf2
  have bu:intBits (u - 1)<=4110:=bF (Mg hp hj hj3.1 hu) (Ea (Ma) (gP (JN hp hj hj3.1 hu) hub))
  have be:intBits e<=2:=bF he2.1 ((qN (cK I0 J4) [1]:oZ [cK I0 J2]) he2.2)
  have bt:intBits (tt + 3)<=2 ^ 21 + 1:=DI hb (n:=2) (by decide)
  have bw:intBits ((2:Int) ^ w)<=4104:=bF (ay hp) (dx (b:=2 ^ (w + 1)) (by rw [nG];exact (qN (cK I0 (.w I0 2)) [1]:oZ [cK J0 I0]) hp) (mS ((qN (aR Y0 (.k 4104)) [1]:di [.l Y0 (.k 4103)]) hw)))
  refine iq C.toCx [] [.int ((u - 1) * e),.int (1 - 2 * f),.int ((tt + 3) * 2 ^ w)] rfl rfl rfl ⟨by rw [he,hf,aB],by decide,rfl,by decide,by rw [<-he];exact dH bu be (by decide),by decide,rfl,by decide,cQ (by decide),ax _,by rw [b2];exact (qN (.L (.m 2 (.c Y0)) (.k 134217728)) [2]:di [.l Y0 (.k 4103)]) hw,by rw [aB];exact dH bt bw (by decide),trivial⟩ ?_
  refine de (ρ':=oH κ mk xs tt sp' t u ((u - 1) * e) (1 - 2 * f) ((tt + 3) * 2 ^ w)) (SubR.le ⟨rfl,rfl,rfl,rfl,rfl,rfl,rfl,rfl,rfl,rfl,rfl,rfl,rfl,rfl,rfl,rfl,trivial⟩ rfl) (k _ _ _ _ ⟨(qN (cK J0 I3) [1,0,1,1,0,1]:lJ [cK J0 I0,.E I1 I2,.L J0 I2,.E I3 (.a I0 I1)]) hp hj hj3.1 hu,?_,?_,?_,hub,ai (oF bt bw) (by decide)⟩)
  .exact fA (Mg hp hj hj3.1 hu) he2.1
  .rcases (by lia:e=0\/e=1) with h | h<;>rw [h]<;>(first | exact (qN (cK (.w (.s I3 J1) 0) I3) [1,0,1,1,0,1]:lJ [cK J0 I0,.E I1 I2,.L J0 I2,.E I3 (.a I0 I1)]) hp hj hj3.1 hu | exact (qN (cK (.w (.s I0 J1) 1) I0) []:oZ []))
  .lia
 cases hq:(sp'.fmod 16==15) with
 | true=>exact bV C.toCx [.v (.bool true)] (.int (4103:Nat)) rfl ⟨rfl,by decide,hq,trivial⟩ (step 4103 (by decide))
 | false=>
  have h3:=dE sp' (b:=3) (by decide)
  apply aA (Fx (k:=(sp'.fmod 3).toNat) ((qK Y0 I0 (qN (aR Y0 J3) [0,1,0,1]) (qN (aR Y0 J3) [0,1]):oY [cK I0 J3]) h3.2));intro w hw hg
  rw [bN h3.1] at hg
  exact bV C.toCx [.v (.bool false),.o (.int w)] (.int w) rfl ⟨rfl,by decide,hq,by decide,hg,trivial⟩ (step w hw)
theorem Dj (h:k < ns.length)(hk:k < 100):Gives (lO (.list (ns.map .int)) (.int (k:Int))) (.int (ns.getD k 0)):=by
 have e:(ns.map D.int)[k]? =some (.int (ns.getD k 0)):=by rw [List.getElem?_map,List.getD_eq_getElem?_getD,List.getElem?_eq_getElem h];rfl
 show Gives (((ns.map D.int)[(k:Int).toNat]?).map λd=>(d,[0<=(k:Int),(k:Int) < 2 ^ 63])) _
 rw [aB,e]
 exact ⟨rfl,ax _,(qN (cK (.c Y0) pQ) [1]:di [aR Y0 (.k 100)]) hk,trivial⟩
structure CF (t:Tr)(k:Nat):Prop where
 s0:0 < eu t k
 s16:eu t k<=16
 p:dM t k=im t k * eu t k
 line:cu t=eu t k * 2 ^ (gk t k).toNat
 l0:0<=gk t k
 l4:gk t k<=4
 c0:0<=im t k
 cl:im t k < 2 ^ (gk t k).toNat
 dl:gH 1 (im t k + 2 ^ (gk t k).toNat)=(gk t k).toNat + 1
 num:dW 1 (iD t k)=im t k + 2 ^ (gk t k).toNat
 one:(iD t k).drop (gk t k).toNat=[1]
 path:ed t (pickNums (iD t k) (some (-2)) none (some (-1)))=some (.leaf k)
theorem CF.of {t:Tr}(h:t∈bS 5 0)(hk:k < 5):CF t k:=by
 have h1:=ft.mp (ft.mp KW t (by rw [<-nL];exact h)) k (List.mem_range.mpr hk)
 have c1:=Og (show (decide _&&_)=true from h1);have a1:=c1.1
 have c2:=Og c1.2;have a2:=c2.1
 have c3:=Bool.and_eq_true_iff.mp c2.2;have a3:=eq_of_beq c3.1
 have c4:=Bool.and_eq_true_iff.mp c3.2;have a4:=eq_of_beq c4.1
 have c5:=Og c4.2;have a5:=c5.1
 have c6:=Og c5.2;have a6:=c6.1
 have c7:=Og c6.2;have a7:=c7.1
 have c8:=Og c7.2;have a8:=c8.1
 have c9:=Bool.and_eq_true_iff.mp c8.2;have a9:=c9.1
 have d1:=Bool.and_eq_true_iff.mp c9.2;have b1:=eq_of_beq d1.1
 have d2:=Bool.and_eq_true_iff.mp d1.2;have b2:=eq_of_beq d2.1;have b3:=d2.2
 refine ⟨a1,a2,a3,a4,a5,a6,a7,a8,gh a9,b1,b2,?_⟩
 cases e:ed t (pickNums (iD t k) (some (-2)) none (some (-1))) with
 | none=>rw [e] at b3;exact (ag b3).elim
 | some u=>rw [e] at b3;rw [Tr.eq_of_beq b3]
theorem Lp {y m r:Int}(h0:0<=r)(h:r < y):(y * m + r).fdiv y=m/\(y * m + r).fmod y=r:=by
 have hy:0 < y:=fM h0 h
 have e:(y * m + r) / y=m:=by rw [Eb,Fk _ _ (bx hy),Int.ediv_eq_zero_of_lt h0 h,nF]
 refine ⟨by rw [bY _ (ay hy)];exact e,?_⟩
 rw [gy _ (ay hy),Eb,Int.add_mul_emod_self_left]
 exact tP h0 h
variable {tn ln:Int}
theorem Ql {u r s p c line:Int}(N:Nums u r tn ln)(hs:0 < s)(hp:p=c * s)(hl:line=s * 2 ^ k):
  (tn * ((p + ln * line) * u + r)).fdiv (tn * s * u)=c + ln * 2 ^ k/\(tn * ((p + ln * line) * u + r)).fmod (tn * s * u)=tn * r:=by
 have e:(p + ln * line) * u + r=s * u * (c + ln * 2 ^ k) + r:=by
  rw [hp,hl]
  generalize (2:Int) ^ k=q
  congr 1
  rw [show c * s + ln * (s * q)=s * (c + ln * q) by rw [gx,aX c s,<-cE,<-cE,aX ln s],cE,cE,aX (c + ln * q) u]
 have hsu:r < s * u:=dx N.ru (by
  have:=aW (show (1:Int)<=s by exact (qN (.L J1 I0) [1]:oZ [cK J0 I0]) hs) (ay N.u0)
  rwa [bJ] at this)
 have hx0:=Lp (m:=c + ln * 2 ^ k) N.r0 hsu;have h1:=hx0.1;have h2:=hx0.2
 rw [e]
 rcases N.t1 with rfl | rfl
 .rw [bJ,bJ,bJ];exact ⟨h1,h2⟩
 .have e3:-1 * s * u= -(s * u):=by rw [cE,pJ,bJ]
  rw [e3,pJ,bJ,Int.neg_fdiv_neg,Int.neg_fmod_neg,h1,h2,pJ,bJ]
  exact ⟨rfl,rfl⟩
theorem il:∀(t:Tr) (a b:List Int),ed t (a++b)=(ed t a).bind λn=>ed n b
 | t,[],b=>by cases t<;>rfl
 | .leaf _,_ :: _,b=>rfl
 | .node l r,x :: a,b=>by
  rw [b8,ed,ed]
  by_cases h0:(x==0)=true
  .rw [if_pos h0,if_pos h0];exact il l a b
  .rw [if_neg h0,if_neg h0]
   by_cases h1:(x==1)=true
   .rw [if_pos h1,if_pos h1];exact il r a b
   .rw [if_neg h1,if_neg h1];rfl
theorem zG {t:Tr}{bs:List Int}{z:Tr}(h:ed t bs=some z)(hj:bs[j]? =some b):∃l r,ed t (bs.take j)=some (.node l r)/\(b=0/\ed t (bs.take (j + 1))=some l\/b=1/\ed t (bs.take (j + 1))=some r):=by
 obtain ⟨hlt,e⟩:=List.getElem?_eq_some_iff.mp hj
 have e1:bs=bs.take j++b :: bs.drop (j + 1):=by
  rw [<-e,List.getElem_cons_drop,oi]
 rw [e1,il] at h
 have e2:bs.take (j + 1)=bs.take j++[b]:=by rw [dk,hj];rfl
 cases hd:ed t (bs.take j) with
 | none=>rw [hd] at h;exact (aK h).elim
 | some n=>
  rw [hd] at h
  simp only [G9] at h
  rw [e2,il,hd]
  cases n with
  | leaf _=>exact (aK h).elim
  | node l r=>
   refine ⟨l,r,rfl,?_⟩
   rw [ed] at h
   simp only [G9,ed]
   by_cases h0:(b==0)=true
   .exact .inl ⟨beq_iff_eq.mp h0,by rw [if_pos h0]⟩
   .rw [if_neg h0] at h
    by_cases h1:(b==1)=true
    .exact .inr ⟨beq_iff_eq.mp h1,by rw [if_neg h0,if_pos h1]⟩
    .rw [if_neg h1] at h;exact (aK h).elim
theorem M9 (h:k < 5):((aC k).all λp=>!p.2.isEmpty)=true:=oB (P:=λk=>((aC k).all λp=>!p.2.isEmpty)=true) rfl rfl rfl rfl rfl h
theorem pf {k:Nat}(h:k < 5):∀x:Tx,x.length<=(esc (aC k) x).length
 | []=>ae _
 | c :: x=>by
  have ih:=pf h x
  have:1<=(er (aC k) c).length:=by
   unfold er
   cases e:(aC k).lookup c with
   | none=>exact ae _
   | some w=>
    have:=ft.mp (M9 h) _ (yX e)
    cases w with
    | nil=>exact (ag this).elim
    | cons a w=>exact mG (cq _)
  rw [fC,az,aM]
  exact (qN (aR Y0 (.a Y2 Y1)) [1,1]:dL [.l Y0 Y1,.l J1 Y2]) ih this
theorem Std.node (S:Std κ mk wd xs)(l r:Tr):(Internal.raw (aC κ) mk xs l).length<=(Internal.raw (aC κ) mk xs (.node l r)).length/\(Internal.raw (aC κ) mk xs r).length<=(Internal.raw (aC κ) mk xs (.node l r)).length:=by
 rw [A0]
 have h1:=pf S.k5 (Internal.raw (aC κ) mk xs l)
 have h2:=pf S.k5 (Internal.raw (aC κ) mk xs r)
 unfold uU
 exact ⟨(qN (.l Y0 (.a (.a Y1 J1) Y2)) [1]:dL [.l Y0 Y1]) h1,(qN (.l Y0 (.a (.a Y2 J1) Y1)) [1]:dL [.l Y0 Y1]) h2⟩
theorem Std.below (S:Std κ mk wd xs):∀(t:Tr) (bs:List Int) (n:Tr),ed t bs=some n->(Internal.raw (aC κ) mk xs n).length<=(Internal.raw (aC κ) mk xs t).length
 | t,[],n,h=>by cases t<;>((first | (refine eQ h ?_;clear h;intro q₁;subst q₁) | cases h);exact ae _)
 | .leaf _,_ :: _,n,h=>(aK h).elim
 | .node l r,b :: bs,n,h=>by
  rw [ed] at h
  by_cases h0:(b==0)=true
  .rw [if_pos h0] at h;exact ai (S.below l bs n h) (S.node l r).1
  .rw [if_neg h0] at h
   by_cases h1:(b==1)=true
   .rw [if_pos h1] at h;exact ai (S.below r bs n h) (S.node l r).2
   .rw [if_neg h1] at h;exact (aK h).elim
theorem Std.noMark (S:Std κ mk wd xs)(x:Tx):mk∉esc (aC κ) x:=λh=>S.ne (Fg (ui κ) x mk h (by unfold kj;rw [S.mark];rfl))
theorem Ni {a b:Tx}(ha:mk∉a)(hb:mk∉b)(hl:(a++[mk]++b).length<=1000000):Gives (uP "split" (.str (dr (a++[mk]++b))) [.kstr ⟨#[mk]⟩]) (.list [.str (dr a),.str (dr b)]):=by
 have hc:By [mk] (by simp) (a++[mk]++b)=[a,b]:=by rw [dI];exact Lz ha hb
 have e1:(kE (dr (a++[mk]++b)) ⟨#[mk]⟩).map fc=[a,b]:=split_one.trans hc
 have e2:=uI (x:=dr (a++[mk]++b)) (y:=⟨#[mk]⟩) (by simp [fc])
 have e3:kE (dr (a++[mk]++b)) ⟨#[mk]⟩=[dr a,dr b]:=by
  generalize kE (dr (a++[mk]++b)) ⟨#[mk]⟩=l at e1
  match l,e1 with
  | [x,y],e1=>
   simp only [aD,dh,List.cons.injEq,and_true] at e1
   rw [<-e1.1,<-e1.2,qf,qf]
 refine ⟨by rw [e3];rfl,rfl,?_,?_,trivial⟩
 .rw [dB];exact ai hl (by decide)
 .have:=congrArg List.length e2
  rw [ab] at this
  rw [this]
  show (By [mk] _ (a++[mk]++b)).length<=_
  rw [hc]
  exact ac rfl
noncomputable def EH:List Stmt->List Stmt
 | .For _ _ b _ _ :: _=>b
 | _=>[]
noncomputable def loopB:List Stmt:=EH ((aH 27).drop 26)
noncomputable def KN (κ mk:Nat)(xs:List Tx)(tt sp':Int)(t:Tr)(u r tn ln:Int)(k:Nat):Rho:=.bind "figures" (.list ((iD t k).map .int)) (.bind "k" (.int (k:Int)) (oH κ mk xs tt sp' t u r tn ln))
theorem NJ (C:LC W A env){t:Tr}(T:TF t){u r:Int}(N:Nums u r tn ln)(hk:k < 5)(K:CF t k)(c:Blk W A env (KN κ mk xs tt sp' t u r tn ln k) L (loopB.drop 4) Kn Pr):Blk W A env (.bind "k" (.int (k:Int)) (oH κ mk xs tt sp' t u r tn ln)) L loopB Kn Pr:=by
 have hx0:=Ql N K.s0 K.p K.line;have h1:=hx0.1;have h2:=hx0.2
 have lp:=uT t
 have l0:=K.l0
 have l4:=K.l4
 have bs:intBits (eu t k)<=5:=bF (ay K.s0) (fM K.s16 (by decide))
 have p5:(2:Int) ^ (gk t k).toNat<=16:=mS (i:=(gk t k).toNat) (j:=4) (MB l4)
 have pp:=cF (gk t k).toNat
 have bp:intBits ((2:Int) ^ (gk t k).toNat)<=5:=bF (ay pp) (fM p5 (by decide))
 have bc:intBits (im t k)<=5:=bF K.c0 (dx K.cl (Int.le_trans p5 (by decide)))
 have bl:intBits (cu t)<=10:=by rw [K.line];exact oF bs bp
 have bpt:intBits (dM t k)<=10:=by rw [K.p];exact oF bc bs
 have bt:intBits tn<=1:=by rcases N.t1 with h | h<;>rw [h]<;>decide
 have br:intBits r<=4110:=bF N.r0 (Ea N.ru (gP (ay N.u0) N.ub))
 have b1:intBits (ln * cu t)<=2 ^ 21 + 4210:=ai (oF N.lb bl) (by decide)
 have b2:intBits (dM t k + ln * cu t)<=2 ^ 21 + 4211:=ai (DI bpt b1) (by decide)
 have b3:=oF b2 N.ub
 have b4:intBits ((dM t k + ln * cu t) * u + r)<=2 ^ 21 + 8322:=ai (DI b3 br) (by decide)
 have b5:intBits (tn * ((dM t k + ln * cu t) * u + r))<=2 ^ 22:=ai (oF bt b4) (by decide)
 have b6:intBits (tn * eu t k)<=6:=oF bt bs
 have b7:intBits (tn * eu t k * u)<=8500:=ai (oF b6 N.ub) (by decide)
 have ne:tn * eu t k * u≠0:=by
  refine Int.mul_ne_zero (Int.mul_ne_zero ?_ (bx K.s0)) (bx N.u0)
  rcases N.t1 with h | h<;>rw [h]<;>decide
 have gp:=Dj (ns:=aN t) (k:=k) (by rw [TF.pointsLen];exact hk) (aw hk (ac rfl))
 have gs:=Dj (ns:=eN t) (k:=k) (by rw [T.sharesLen];exact hk) (aw hk (ac rfl))
 have gl:=Dj (ns:=ib t) (k:=k) (by rw [T.len];exact hk) (aw hk (ac rfl))
 have call:=vU C.good (C.room.le (by decide)) ne b5 b7
 rw [h1,h2] at call
 have b2':intBits 2=2:=by decide
 have pw:(intBits 2:Int) * gk t k<=2 ^ 27:=by rw [b2'];exact (qN (.L (.m 2 I0) (.k 134217728)) [2]:oZ [.L I0 J4]) l4
 refine ny C.toCx [.o (.int (dM t k)),.o (.int (eu t k)),.v (.tup [.int (im t k + ln * 2 ^ (gk t k).toNat),.int (tn * r)])] [.int (im t k + ln * 2 ^ (gk t k).toNat),.int (tn * r)] rfl rfl ⟨rfl,gp,dH N.lb bl (by decide),dH b2 N.ub (by decide),dH bt b4 (by decide),gs,dH bt bs (by decide),dH b6 N.ub (by decide),⟨cL nU C.good.prg,call⟩,trivial⟩ ?_
 refine bV C.toCx [.o (.int (gk t k))] (.int (im t k)) rfl ⟨congrArg D.int (Int.add_sub_cancel ..),gl,l0,pw,dH N.lb bp (by decide),trivial⟩ ?_
 have a0:0<=im t k + 2 ^ (gk t k).toNat:=by have:=K.c0;exact JP pp this
 have ba:intBits (im t k + 2 ^ (gk t k).toNat)<=6:=ai (DI bc bp) (by decide)
 have i1:=pD C.good (A:=A) (a:=im t k + 2 ^ (gk t k).toNat) (n:=1) (m:=3) (by decide) (by decide) a0 (C.room.le (by decide)) (ai ba (by decide)) (by rw [K.dl];exact (qK Y0 I0 (qN (aR Y0 (.k 8)) [0,1,0,1]) (qN (aR Y0 (.k 8)) [0,1]):oY [.L I0 J4]) l4)
 rw [K.dl] at i1
 have fl:(iD t k).length<=5:=by unfold iD;rw [ge];exact MK l4
 have d1:=mi C.good (A:=A) (ns:=iD t k) (n:=1) (B:=3) (m:=3) (C.room.le (by decide)) (ai fl (by decide)) (λd hd=>by
  have:=pB _ _ _ d hd
  exact ⟨this.1,Ea this.2 (by decide)⟩) (MD fl) (bI fl (ac rfl))
 rw [K.num] at d1
 refine bV C.toCx [.o (.int (gk t k)),.v (.list ((iD t k).map .int))] _ rfl ⟨rfl,gl,l0,pw,⟨cL t6 C.good.prg,i1⟩,trivial⟩ ?_
 refine LQ (gq C.toCx [.o (.bool false)] ⟨rfl,dH bt br (by decide),Kv (.int 0 _) (by decide),trivial⟩)
  (gq C.toCx [.o (.int (eu t k)),.o (.int (dM t k)),.o (.bool false)] ⟨rfl,gs,dH bc bs (by decide),gp,by rw [<-K.p];exact Kv (.int 0 _) (by decide),trivial⟩)
  (gq C.toCx [.v (.int (im t k + 2 ^ (gk t k).toNat)),.o (.int (gk t k)),.o (.bool false)] ⟨rfl,⟨cL qw C.good.prg,d1⟩,gl,l0,pw,Kv (.int 0 _) (by decide),trivial⟩) ?_
 exact de (ρ':=KN κ mk xs tt sp' t u r tn ln k) (SubR.le ⟨rfl,rfl,rfl,rfl,rfl,rfl,rfl,rfl,rfl,rfl,rfl,rfl,rfl,rfl,rfl,rfl,rfl,rfl,trivial⟩ rfl) c
theorem LeR.refl (ρ:Rho):LeR ρ ρ:=⟨λ_ _ e=>e,λh=>h⟩
noncomputable def tm (t:Tr)(k:Nat):List Int:=pickNums (iD t k) (some (-2)) none (some (-1))
noncomputable def jp (t:Tr)(k j:Nat):Tr:=(ed t ((tm t k).take j)).getD (.leaf 0)
noncomputable def PA (κ mk:Nat)(xs:List Tx)(tt sp':Int)(t:Tr)(u r tn ln:Int)(k:Nat)(n:Tr):Rho:=.bind "part" (.str (dr (raw (aC κ) mk xs n))) (KN κ mk xs tt sp' t u r tn ln k)
theorem NI (C:LC W A env)(S:Std κ mk wd xs){t:Tr}(T:TF t){u r:Int}(hk:k < 5)(K:CF t k)(c:Blk W A env (oH κ mk xs tt sp' t u r tn ln) [] [] Kn Pr):Blk W A env (KN κ mk xs tt sp' t u r tn ln k) [] (loopB.drop 4) Kn Pr:=by
 have gl:=Dj (ns:=ib t) (k:=k) (by rw [T.len];exact hk) (aw hk (ac rfl))
 have l0:=K.l0
 have l4:=K.l4
 have fl:(iD t k).length<=5:=by unfold iD;rw [ge];exact MK l4
 have fz:((iD t k).map D.int).length<=sizeLine:=sz (n:=5) (by rw [ab];exact fl) rfl
 have h0:jp t k 0=t:=by unfold jp;cases t<;>rfl
 refine bV C.toCx [.o (.int (gk t k)),.o (.bool true),.v (.bool true)] (.str (dr (raw (aC κ) mk xs (jp t k 0)))) rfl ⟨by rw [h0],gl,fz,?_,rfl,trivial⟩ ?_
 .rw [show d9 ((iD t k).map .int) (some (gk t k)) none none=[D.int 1] by
   rw [<-bN l0,pb,<-fT,K.one];rfl]
  exact Qh (Pl.list (n:=0) λd hd=>by rw [rF.mp hd];exact .int 0 1) (by decide)
 refine gL (ds:=(tm t k).map .int) (λj=>PA κ mk xs tt sp' t u r tn ln k (jp t k j)) (λ_=>[]) C.hh rfl (gF (cC C.hh ?_)) (LeR.refl _) rfl (λ_ _=>rfl) (λj d hd=>?_) ?_
 .rw [show (tm t k).map D.int=d9 ((iD t k).map .int) (some (-2)) none (some (-1)) from (uH _ _ _ _).symm]
  exact bn C.toCx [] ⟨rfl,fz,trivial⟩
 .rw [List.getElem?_map,bq] at hd
  apply aA (hd);intro b hb hq0;subst hq0
  refine ⟨dP C.hs rfl,_,rfl,?_⟩
  apply fo (zG K.path hb);intro l q e1 e2
  have n1:jp t k j=.node l q:=by unfold jp tm;rw [e1];rfl
  have rl:=ai (S.below t _ _ e1) (S.raw T.mem).1
  have hl:=ai (S.node l q).1 rl
  have hr:=ai (S.node l q).2 rl
  have sg:=Ni (S.noMark (raw (aC κ) mk xs l)) (S.noMark (raw (aC κ) mk xs q)) (ai rl (by decide))
  have R2:Room A 2:=C.room.le (by decide)
  rw [n1]
  refine bV C.toCx [.o (.list [.str (dr (esc (aC κ) (raw (aC κ) mk xs l))),.str (dr (esc (aC κ) (raw (aC κ) mk xs q)))]) ] _ rfl ⟨rfl,sg,trivial⟩ ?_
  rcases e2 with ⟨rfl,e2⟩ | ⟨rfl,e2⟩
  .have n2:jp t k (j + 1)=l:=by unfold jp tm;rw [e2];rfl
   refine bV C.toCx [.v (.bool true),.v (.str (dr (raw (aC κ) mk xs l)))] _ rfl ⟨rfl,Int.lt_of_sub_pos (by decide:(0:Int) < 2 ^ 63 - 2),rfl,by decide,by decide,⟨cL vm C.good.prg,sX C.good R2 hl⟩,trivial⟩ (db ⟨rfl,?_⟩)
   rw [n2]
   exact SubR.le ⟨rfl,rfl,rfl,rfl,rfl,rfl,rfl,rfl,rfl,rfl,rfl,rfl,rfl,rfl,rfl,rfl,rfl,rfl,rfl,trivial⟩ rfl
  .have n2:jp t k (j + 1)=q:=by unfold jp tm;rw [e2];rfl
   refine bV C.toCx [.v (.bool true),.v (.str (dr (raw (aC κ) mk xs q)))] _ rfl ⟨rfl,Int.lt_of_sub_pos (by decide:(0:Int) < 2 ^ 63 - 2),rfl,by decide,by decide,⟨cL vm C.good.prg,sX C.good R2 hr⟩,trivial⟩ (db ⟨rfl,?_⟩)
   rw [n2]
   exact SubR.le ⟨rfl,rfl,rfl,rfl,rfl,rfl,rfl,rfl,rfl,rfl,rfl,rfl,rfl,rfl,rfl,rfl,rfl,rfl,rfl,trivial⟩ rfl
 .have nz:jp t k ((tm t k).map D.int).length=.leaf k:=by
   unfold jp
   rw [ab,aO (ae _)]
   unfold tm
   rw [K.path]
   rfl
  rw [nz]
  have tg:Gives (lO (eE xs) (.int (k:Int))) (.str (dr (xs.getD k []))):=by
   rw [o6 (by rw [S.x5];exact hk)]
   exact ⟨rfl,ax _,L5 hk,trivial⟩
  refine sC C.toCx [.o (.str (dr (xs.getD k []))),.o (.bool false)] ⟨rfl,tg,Kv (.str 0 (S.ascii (.leaf k))) (by decide),trivial⟩ ?_
  exact de (ρ':=oH κ mk xs tt sp' t u r tn ln) (SubR.le ⟨rfl,rfl,rfl,rfl,rfl,rfl,rfl,rfl,rfl,rfl,rfl,rfl,rfl,rfl,rfl,rfl,trivial⟩ rfl) c
theorem OG (C:LC W A env)(S:Std κ mk wd xs){t:Tr}(T:TF t){u r:Int}(N:Nums u r tn ln)(c:Blk W A env (oH κ mk xs tt sp' t u r tn ln) [] ((aH 27).drop 27) Kn Pr):Blk W A env (oH κ mk xs tt sp' t u r tn ln) [] ((aH 27).drop 26) Kn Pr:=by
 refine gL (ds:=jd 0 5) (λ_=>oH κ mk xs tt sp' t u r tn ln) (λ_=>[]) C.hh rfl (gF ?_) (LeR.refl _) rfl (λ_ _=>rfl) (λk d hd=>?_) c
 .rw [<-fW (a:=0) rfl]
  exact iQ (n:=5) rfl C.hh (bn C.toCx [] ⟨rfl,trivial⟩) (aJ rfl) (bn C.toCx [] ⟨rfl,trivial⟩) (by decide) (by decide)
 .obtain ⟨hk,rfl⟩:k < 5/\d=.int (k:Int):=by
   unfold jd at hd
   rw [List.getElem?_map,bq] at hd
   apply aA (hd);intro j hj hq0;subst hq0
   obtain ⟨h1,h2⟩:=List.getElem?_eq_some_iff.mp hj
   rw [ce] at h1
   rw [rG] at h2
   subst h2
   exact ⟨h1,by rw [fL]⟩
  have K:=CF.of T.mem hk
  exact ⟨dP C.hs rfl,_,rfl,NJ C T N hk K (NI C S T hk K (db ⟨rfl,LeR.refl _⟩))⟩
noncomputable def mr (κ:Nat)(sp':Int)(t:Tr)(ln:Int)(p j:Nat):Rho:=.bind "k" (.int (j:Int)) (.bind "place" (.int (p:Int)) (.bind "lines" (.int ln) (.bind "points" (.list ((aN t).map .int)) (.bind "shares" (.list ((eN t).map .int)) (.bind "line" (.int (cu t)) (.bind "write" (.ref (sr κ)) (.bind "spin" (.int sp') .nil)))))))
theorem OF (C:LC W A env){t:Tr}(T:TF t){u r:Int}(hb:intBits tt<=2 ^ 21)(c:∀p j:Nat,j < 5->dM t j<=p->(p:Int) < dM t j + eu t j->Blk W A env (mr κ sp' t ln p j) L ((aH 27).drop 30) Kn Pr):Blk W A env (oH κ mk xs tt sp' t u r tn ln) L ((aH 27).drop 27) Kn Pr:=by
 have lp:=uT t
 have fr:=dE tt lp
 obtain ⟨p,hp,hpl⟩:∃p:Nat,tt.fmod (cu t)=p/\p < (cu t).toNat:=⟨(tt.fmod (cu t)).toNat,au (BA) (Du fr.1),(qK Y0 I0 (qL Y1 I1 (qN (aR Y0 Y1) [1,0,1,0,1])) (qL Y1 I1 (qN (aR Y0 Y1) [1,0,1,0,0,1])):qT [_,_] [_,_] [cK I0 I1,cK J0 I1] _) fr.2 lp⟩
 have h1:=ft.mp (ft.mp HX t (by rw [<-nL];exact T.mem)) p (List.mem_range.mpr hpl)
 unfold Ez at h1
 simp only [ao,decide_eq_true_eq] at h1
 have a1:=h1.1;have a2:=h1.2.1;have a3:=h1.2.2.1;have a4:=h1.2.2.2.1;have a5:=h1.2.2.2.2
 have a3:=gh a3
 have l16:cu t<=16:=mS (i:=(iL t).toNat) (j:=4) (by have:=T.top4;exact MB this)
 have bl:intBits (cu t)<=10:=bF (ay lp) (fM l16 (by decide))
 obtain ⟨j,hj⟩:∃j,bR (aN t) p 0 5=j + 1:=⟨bR (aN t) p 0 5 - 1,ar (Mq) (ML h1.1)⟩
 rw [hj] at a1 a2 a3 a4 a5
 rw [Nat.add_sub_cancel] at a4 a5
 have R4:Room A 4:=C.room.le (by decide)
 have cd:=vU C.good (A:=A) (a:=tt) (b:=cu t) (C.room.le (by decide)) (bx lp) (ai hb (by decide)) (ai bl (by decide))
 rw [hp] at cd
 have cr:=zW C.good.prg R4 (ns:=aN t) (x:=(p:Int)) (by rw [TF.pointsLen];decide)
 rw [TF.pointsLen,Kl _ _ _ _ (ae _),hj] at cr
 have cl:=zY C.good.prg R4 (ns:=aN t) (x:=(p:Int) + 1) (by rw [TF.pointsLen];decide)
 rw [TF.pointsLen,M0 _ _ _ _ (ae _),a3] at cl
 have e1:((j + 1:Nat):Int) - 1=(j:Int):=au ((qN (.L (.s (.c (.a Y0 J1)) J1) (.c Y0)) []:di [])) ((qN (.L (.c Y0) (.s (.c (.a Y0 J1)) J1)) []:di []))
 have e2:tt.fdiv (cu t) * cu t + (p:Int)=tt:=by rw [<-hp,aX];exact Int.mul_fdiv_add_fmod ..
 refine ny C.toCx [.v (.tup [.int (tt.fdiv (cu t)),.int (p:Int)])] [.int (tt.fdiv (cu t)),.int (p:Int)] rfl rfl ⟨rfl,⟨cL nU C.good.prg,cd⟩,trivial⟩ ?_
 refine bV C.toCx [.v (.int ((j + 1:Nat):Int))] (.int (j:Int)) rfl ⟨congrArg D.int e1,⟨cL gb C.good.prg,cr⟩,trivial⟩ ?_
 refine Ew (gq C.toCx [.o (.bool false)] ⟨rfl,dH (bits_fdiv hb) bl (by decide),by rw [e2];exact Kv (.int 0 _) (by decide),trivial⟩)
  (gq C.toCx [.v (.int ((j + 1:Nat):Int)),.o (.bool false)] ⟨rfl,⟨cL gc C.good.prg,cl⟩,by rw [e1];exact Kv (.int 0 _) (by decide),trivial⟩) ?_
 exact de (ρ':=mr κ sp' t ln p j) (SubR.le ⟨rfl,rfl,rfl,rfl,rfl,rfl,rfl,rfl,trivial⟩ rfl) (c p j (EV a2) a4 a5)
theorem A3 {v:Expr}{lo hi:Option Expr}{a b c:Option Int}(hv:aQ W A env ρ v (.list ds))(h1:mn W A env ρ lo a)(h2:mn W A env ρ hi b)(h3:mn W A env ρ st c)(h0:c≠some 0)(hz:ds.length<=sizeLine):
  oU W A env ρ (.Subscript v (.Slice lo hi st p') p) (.list (d9 ds a b c)):=λg s F k Q E hQ=>by
 refine DY (hv g s F k _ _ λu g1 s1 x1 r1=>wpAny_Slice (gY h1 g1 s1 (F.ext x1) x1.ok _ _ λvl g2 s2 x2 p1=>gY h2 g2 s2 ((F.ext x1).ext x2) x2.ok _ _ λvu g3 s3 x3 p2=>
  gY h3 g3 s3 (((F.ext x1).ext x2).ext x3) x3.ok _ _ λvs g4 s4 x4 p3=>?_))
 have x5:=Ext.pushHid x4.ok {cls:=.type "slice",data:=.fields #[vl,vu,vs] }
 have r5:=r1.mono (x2.le.trans (x3.le.trans (x4.le.trans x5.le)))
 apply aV (r1.inv_list);intro a' vs' n' hq0 _ _;subst hq0
 apply bT (r5.isList x5.ok);intro vz hl ra' hsz
 obtain ⟨ops,e⟩:=kn (.Slice lo hi st p') (.ref a') (.ref s4.heap.objs.size)
 refine tail_any hl.typeIs slot_list_getitem.lookup (Fp hl (wy ..) p1 p2 p3 h0 ?_ (by rw [hsz];exact hz)) e
 have x15:=x1.trans (x2.trans (x3.trans (x4.trans x5)))
 refine hQ _ g4 _ (x15.trans (Ext.pushHid x5.ok _)) ⟨⟨_,⟨Heap.get?_push_size _ rfl,rfl,x5.ok.fresh (ae _)⟩,⟨slicePick vz a b c,0,rfl,?_⟩⟩,x5.ok.sysLt (ae _)⟩ (x15.size (ae _))
 have q:=uD ra' (sliceRange (sliceBounds a b c ds.length).1 (sliceBounds a b c ds.length).2.1 (sliceBounds a b c ds.length).2.2)
 have e:(slicePick vz a b c).toList=(sliceRange (sliceBounds a b c ds.length).1 (sliceBounds a b c ds.length).2.1 (sliceBounds a b c ds.length).2.2).filterMap (vz.toList[·]?):=by
  unfold slicePick
  rw [hsz]
  simp
 rw [e]
 exact q
theorem i9 (ns:List Int)(j:Nat)(x:Int):jL (ns.map .int) j (.int x)=(m5 ns j x).map .int:=by
 unfold jL m5
 rw [bU,aD,fa,fT]
structure Lays (W:Wd)(A:Around)(f key:D)(t:Tr):Prop where
 keep:cJ W f
 one:∃q:List Int,q.length=6/\(∀a,CallL W A f [.ref a,.int (cu t),.int 1,.int 3] [("key",key)] [(a,.list ((aN t).map .int))] .none [(a,.list (q.map .int))])/\
  ∀a,CallL W A f [.ref a,.int (-1),.int 2,.int 4] [("key",key)] [(a,.list (q.map .int))] .none [(a,.list ((uW t).map .int))]
noncomputable def Oy:List Stmt:=EH ((aH 27).drop 30)
theorem zb (C:LC W A env){t:Tr}{p:Nat}(H:Lays W A f key t)(c:Blk W A env (mr κ sp' t ln p j) [] [] Kn Pr):Blk W A env (.bind "key" key (.bind "put" f (mr κ sp' t ln p j))) [] Oy Kn Pr:=by
 apply bT (H.one);intro q hq c1 c2
 have hk:env.scope.kind=.function:=by rw [C.hs];rfl
 have pl:=TF.pointsLen t
 have hz:((aN t).map D.int).length<=sizeLine:=sz (n:=5) (by rw [ab,pl];exact ae _) rfl
 refine n8 (A3 (bn C.toCx [] ⟨rfl,trivial⟩) rfl rfl rfl (by decide) hz) (el C.hs rfl) rfl λa=>?_
 rw [xy]
 refine lw hk (bn C.toCx [] ⟨rfl,trivial⟩) (gG C.toCx [] ⟨rfl,trivial⟩) (ng C.toCx [] ⟨rfl,trivial⟩) H.keep (c1 a) rfl ?_
 refine lw hk (bn C.toCx [] ⟨rfl,trivial⟩) (gG C.toCx [] ⟨rfl,trivial⟩) (ng C.toCx [] ⟨rfl,trivial⟩) H.keep (c2 a) rfl ?_
 refine iU (a:=a) (x:="laid") rfl rfl ?_
 have e:d9 ((aN t).map .int) none (some 2) none++[D.int (-1),.int (dM t 2),.int (cu t)]++d9 ((aN t).map .int) (some 3) none none=(uW t).map .int:=by
  rw [show d9 ((aN t).map .int) none (some 2) none=_ from jM _ 2,show d9 ((aN t).map .int) (some 3) none none=_ from pb _ 3]
  unfold uW
  rw [bU,bU,fa,fT]
  rfl
 have p1:=rU ((aN t).map .int) none (some 2)
 have p2:=rU ((aN t).map .int) (some 3) none
 rw [ab,pl] at p1 p2
 refine sC C.toCx [.o (.int (dM t 2)),.o (.bool false)] ⟨rfl,hz,Dj (k:=2) (by rw [pl];decide) (by decide),?_,hz,?_,?_,trivial⟩ ?_
 .show _ + 3<=16777216
  exact (qN (.l (.a Y0 J3) (.k 16777216)) [1]:di [.l Y0 J5]) p1
 .rw [az]
  show _ + 3 + _<=16777216
  exact (qN (.l (.a (.a Y0 J3) Y1) (.k 16777216)) [1,1]:cz [.l Y0 J5,.l Y1 J5]) p1 p2
 .rw [e]
  exact Kv (Pl.ints _) (by decide)
 .exact de (ρ':=mr κ sp' t ln p j) (SubR.le ⟨rfl,rfl,rfl,rfl,rfl,rfl,rfl,rfl,trivial⟩ rfl) c
theorem IB (ns:List Int)(j:Nat)(x:Int)(h:j<=ns.length):(m5 ns j x).length=ns.length + 1:=by
 unfold m5
 rw [az,cT,aM,cU]
 exact ar (Pf h) (Pe)
theorem z6 (g:Nat->Bool):∀(f lo hi:Nat),lo<=hi->jj g f lo hi<=hi
 | 0,lo,hi,h=>h
 | f + 1,lo,hi,h=>by
  rw [jj]
  split
  .split
   .exact ai (z6 g f _ _ ((qI Y2 (.a Y0 Y1) 1 (qN (.l Y0 Y2) [0,1,1] 1):dL [.l Y0 Y1]) h)) ((qI Y2 (.a Y0 Y1) 1 (qN (.l Y2 Y1) [1,0,1] 1):dL [.l Y0 Y1]) h)
   .exact z6 g f _ _ (E1 (by assumption))
  .exact h
noncomputable def twiceOk (W:Wd)(key:D):Prop:=cJ W key/\isNone key=false/\∀A,Room A 3->∀i:Int,bz W A key [.int i] [] (.int (2 * i))
theorem twiceOk.keys (h:twiceOk W key)(ns:List Int):∀A,Room A 3->mz W A key (ns.map .int) (iC ns):=λA R=>⟨by unfold iC;rw [ab,ab],λi d hd=>by
 rw [List.getElem?_map,bq] at hd
 apply aA (hd);intro v hv hq0;subst hq0
 have:mt (iC ns) i=2 * v:=by unfold mt iC;rw [List.getD_eq_getElem?_getD,List.getElem?_map,hv];rfl
 rw [this]
 exact h.2.2 A R v⟩
theorem qj (G:Good W)(R:Room A 5){t:Tr}(T:TF t):(Lays W A (.ref 41) .none t/\Lays W A (.ref 23) .none t)/\∀{key:D},twiceOk W key->Lays W A (.ref 41) key t/\Lays W A (.ref 23) key t:=by
 have h:=ft.mp Ny t (by rw [<-nL];exact T.mem)
 unfold LR at h
 simp only [ao,beq_iff_eq] at h
 have h1:=h.1;have h2:=h.2.1;have h3:=h.2.2.1;have h4:=h.2.2.2
 have pl:=TF.pointsLen t
 have tl:∀ns:List Int,(iC ns).length=ns.length:=λns=>by unfold iC;rw [ab]
 have kL:=cL jX G.prg
 have kR:=cL jW G.prg
 have le3:∀g:Nat->Bool,jj g 6 1 3<=(aN t).length:=λg=>ai (z6 g 6 1 3 (by decide)) (by rw [pl];decide)
 have l6:∀g:Nat->Bool,(m5 (aN t) (jj g 6 1 3) (cu t)).length=6:=λg=>by rw [IB _ _ _ (le3 g),pl]
 have ok4:∀g:Nat->Bool,4<=(m5 (aN t) (jj g 6 1 3) (cu t)).length:=λg=>by rw [l6];decide
 have sm:∀g:Nat->Bool,(m5 (aN t) (jj g 6 1 3) (cu t)).length < 2 ^ 20:=λg=>by rw [l6];decide
 refine ⟨⟨⟨kL,_,l6 (jt (aN t) (cu t)),λa=>?_,λa=>?_⟩,⟨kR,_,l6 (jT (aN t) (cu t)),λa=>?_,λa=>?_⟩⟩,λ{key} H=>⟨⟨kL,_,l6 (jt (iC (aN t)) (2 * cu t)),λa=>?_,λa=>?_⟩,⟨kR,_,l6 (jT (iC (aN t)) (2 * cu t)),λa=>?_,λa=>?_⟩⟩⟩
 .have:=td G.prg R (ns:=aN t) (x:=cu t) (lo:=1) (h:=some 3) (a:=a) (by rw [pl];decide) (show 1<=3 by decide) (by rw [pl];decide)
  rwa [i9,cn,fQ _ 6 1 3 (by decide)] at this
 .have:=td G.prg R (x:=-1) (lo:=2) (h:=some 4) (a:=a) (ok4 (jt (aN t) (cu t))) (show 2<=4 by decide) (sm _)
  rwa [i9,cn,fQ _ 6 2 4 (by decide),h1] at this
 .have:=sZ G.prg R (ns:=aN t) (x:=cu t) (lo:=1) (h:=some 3) (a:=a) (by rw [pl];decide) (show 1<=3 by decide) (by rw [pl];decide)
  rwa [i9,cn,fQ _ 6 1 3 (by decide)] at this
 .have:=sZ G.prg R (x:=-1) (lo:=2) (h:=some 4) (a:=a) (ok4 (jT (aN t) (cu t))) (show 2<=4 by decide) (sm _)
  rwa [i9,cn,fQ _ 6 2 4 (by decide),h2] at this
 .have:=tc G.prg R (ds:=(aN t).map .int) (ns:=iC (aN t)) (x:=2 * cu t) (xd:=.int (cu t)) H.1 H.2.1 (H.keys _) (λA R=>H.2.2 A R _) (lo:=1) (h:=some 3) (a:=a) (by rw [tl,pl];decide) (show 1<=3 by decide) (by rw [tl,pl];decide) (by rw [ab,tl])
  rwa [i9,cn,fQ _ 6 1 3 (by decide)] at this
 .have:=tc G.prg R (ds:=(m5 (aN t) (jj (jt (iC (aN t)) (2 * cu t)) 6 1 3) (cu t)).map .int) (ns:=iC _) (x:=2 * -1) (xd:=.int (-1)) H.1 H.2.1 (H.keys _) (λA R=>H.2.2 A R _) (lo:=2) (h:=some 4) (a:=a) (by rw [tl];exact ok4 _) (show 2<=4 by decide) (by rw [tl];exact sm _) (by rw [ab,tl])
  rwa [i9,cn,fQ _ 6 2 4 (by decide),h3] at this
 .have:=sY G.prg R (ds:=(aN t).map .int) (ns:=iC (aN t)) (x:=2 * cu t) (xd:=.int (cu t)) H.1 H.2.1 (H.keys _) (λA R=>H.2.2 A R _) (lo:=1) (h:=some 3) (a:=a) (by rw [tl,pl];decide) (show 1<=3 by decide) (by rw [tl,pl];decide) (by rw [ab,tl])
  rwa [i9,cn,fQ _ 6 1 3 (by decide)] at this
 .have:=sY G.prg R (ds:=(m5 (aN t) (jj (jT (iC (aN t)) (2 * cu t)) 6 1 3) (cu t)).map .int) (ns:=iC _) (x:=2 * -1) (xd:=.int (-1)) H.1 H.2.1 (H.keys _) (λA R=>H.2.2 A R _) (lo:=2) (h:=some 4) (a:=a) (by rw [tl];exact ok4 _) (show 2<=4 by decide) (by rw [tl];exact sm _) (by rw [ab,tl])
  rwa [i9,cn,fQ _ 6 2 4 (by decide),h4] at this
noncomputable def NK:Expr->List Expr
 | .Tuple es _ _=>es
 | .List es _=>es
 | _=>[]
noncomputable def PG (es:List Expr)(i:Nat):Expr:=es.getD i (.Tuple [] 0 ⟨0,0,0,0⟩)
theorem LC.makes (C:LC W A env):Makes W env 174 172 "law.<locals>.<lambda>":=⟨by rw [C.good.tabs];exact .tail _ (.tail _ (.tail _ (.head _))),C.code⟩
theorem LC.lam (C:LC W A env){b:Expr}(hp:dz p.line 309=true)(hc:nr sc (bh 27)=true)(hd:args.defaults=[]/\args.kw_defaults=[]):aQ W A env ρ (.Lambda args b sc p) (.lam (vT env sc) args (.expr b) sc):=
 nf C.hs hc C.makes (by rw [C.good.may];exact hp) (by rw [C.qual];rfl) hd
theorem BK (h:(sc.names.all λp=>p.2 !=.free)=true):vT env sc=[]:=by
 unfold vT
 have:∀(names:List (Str×NameKind)) (acc:List (Str×Addr)),(names.all λp=>p.2 !=.free)=true->BL env names acc=some acc:=λnames=>by
  induction names with
  | nil=>intro acc _;rfl
  | cons p r ih=>
   intro acc hn
   rw [lG,ao] at hn
   obtain ⟨n,k⟩:=p
   rw [BL,if_neg (by simpa using hn.1)]
   exact ih acc hn.2
 rw [this _ _ h]
 rfl
theorem LC.lam0 (C:LC W A env){b:Expr}(h:(dz p.line 309&&(sc.names.all λp=>p.2 !=.free)&&(nr sc (bh 27)&&(args.defaults.isEmpty&&args.kw_defaults.isEmpty)))=true):aQ W A env ρ (.Lambda args b sc p) (.lam [] args (.expr b) sc):=by
 simp only [ao,my] at h
 have:=C.lam (ρ:=ρ) (b:=b) (p:=p) h.1.1 h.2.1 h.2.2
 rwa [BK h.1.2] at this
theorem Kb {ss':List Stmt}(e:ss=ss')(h:Blk W A env ρ L ss' Kn Pr):Blk W A env ρ L ss Kn Pr:=e▸h
theorem OE (C:LC W A env){t:Tr}(T:TF t){p:Nat}(c:Blk W A env (mr κ sp' t ln p j) [] ((aH 27).drop 31) Kn Pr):Blk W A env (mr κ sp' t ln p j) [] ((aH 27).drop 30) Kn Pr:=by
 have R5:Room A 5:=C.room.le (by decide)
 refine gL (ds:=[.tup [.ref 41,.none],.tup [.ref 23,.none],.tup [.ref 41,.lam [] _ (.expr _) _],.tup [.ref 23,.lam [] _ (.expr _) _]]) (λ_=>mr κ sp' t ln p j) (λ_=>[]) C.hh rfl (gF (Dc C.hh (bn C.toCx [.v (.lam [] _ (.expr _) _),.v (.lam [] _ (.expr _) _)] ⟨rfl,C.lam0 (by kernel_rfl),C.lam0 (by kernel_rfl),trivial⟩))) (LeR.refl _) rfl (λ_ _=>rfl) (λi d hd=>?_) (by assumption)
 have fin:Blk W A env (mr κ sp' t ln p j) [] [] (λρ'' L''=>L''=[]/\LeR (mr κ sp' t ln p j) ρ'') Pr:=db ⟨rfl,LeR.refl _⟩
 match i,hd with
 | 0,hd=>(refine eQ hd ?_;clear hd;intro q₁;subst q₁);exact ⟨dP C.hs rfl,_,rfl,zb C (qj C.good R5 T).1.1 fin⟩
 | 1,hd=>(refine eQ hd ?_;clear hd;intro q₁;subst q₁);exact ⟨dP C.hs rfl,_,rfl,zb C (qj C.good R5 T).1.2 fin⟩
 | 2,hd=>(refine eQ hd ?_;clear hd;intro q₁;subst q₁);refine ⟨dP C.hs rfl,_,rfl,zb C ((qj C.good R5 T).2 ?_).1 fin⟩;exact ⟨lX,rfl,λA R i=>mh (names:=["one"]) yE rfl rfl rfl rfl (by simp) rfl rfl R.dep λenv2 hs2=>bn (W:=W) (A:=A.deeper env2) ⟨hs2,eX C.good.prg,by have:=R.units;show A.units + 3 + 100 < cLine;exact Jo this,R.handled⟩ [] ⟨rfl,cQ (by decide),trivial⟩⟩
 | 3,hd=>(refine eQ hd ?_;clear hd;intro q₁;subst q₁);refine ⟨dP C.hs rfl,_,rfl,zb C ((qj C.good R5 T).2 ?_).2 fin⟩;exact ⟨lX,rfl,λA R i=>mh (names:=["one"]) yE rfl rfl rfl rfl (by simp) rfl rfl R.dep λenv2 hs2=>bn (W:=W) (A:=A.deeper env2) ⟨hs2,eX C.good.prg,by have:=R.units;show A.units + 3 + 100 < cLine;exact Jo this,R.handled⟩ [] ⟨rfl,cQ (by decide),trivial⟩⟩
 | _ + 4,hd=>exact (aK hd).elim
theorem named_A:Named "AttributeError":=⟨by rw [bO];kernel_rfl,by rw [bO];kernel_rfl⟩
theorem Na:isSubtype (.type "TypeError") (.type "TypeError")=pure true:=F.self_TypeError
theorem Nb:isSubtype (.type "TypeError") (.type "AttributeError")=pure false:=by rw [bO];kernel_rfl
theorem Nc:isSubtype (.type "AttributeError") (.type "TypeError")=pure false:=by rw [bO];kernel_rfl
inductive EscSh:List Stmt->Prop
 | mk {n1 n2 n3 n4 q1 q2 q3 q4 q5 q6 q7 q8 q9 q10 q11 q12 q13 q14 q15 q16 q17 q18 q19 q20 cA cB b1 o1 bs:_}:
  EscSh [.Try (.If (.Compare (.Constant (.str "&") n1 q1) [.In] [.Name "text" q2] q3) (.Assign [.Name "text" q4] (.Call (.Attribute (.Name "text" q5) "replace" q6) [.Constant cA n2 q7,.Constant cB n3 q8] [] q9) q10 :: b1) o1 q11 :: bs) [.ExceptHandler (some (.Tuple [.Name "TypeError" q12,.Name "AttributeError" q13] n4 q14)) none [.Expr (.Call (.Name "_raise_serialization_error" q15) [.Name "text" q16] [] q17) q18] q19] [] [] q20]
theorem uh {a:Nat}(K:FnK a k x dV kV pm c)(hP:jv W)(hok:pT (kT k x dV kV pm c) ["text"]=true)(hbind:∀(P:Params) (v:Value),∀S,peek (Kf P) S (bindArgs (kT k x dV kV pm c) ⟨[v],[]⟩)=some ((["text"]:List Str).zip [v]))(hsh:EscSh (aH k))(nmt:∀d,oK (bh k) gl (dc ["text"] [d] .nil) "text"=some d)(nms:oK (bh k) gl (dc ["text"] [d] .nil) "_raise_serialization_error"=some (.ref 99))(kt:(bh k).names.lookup ("TypeError":Str)=some .globalImplicit)(ka:(bh k).names.lookup ("AttributeError":Str)=some .globalImplicit)(hd:GT d)(O:OddX d rp T)(hz:(eY rp T).length<=sizeLine)(R:Room A 3)(hg:A.guards=some [])(hA:A.frames=some l):CallX W A l (.ref a) [d] [] "TypeError" (some (eY rp T)):=⟨λg s vf vs kvs ok hF rf rs hk rk Q E hE=>by
 obtain rfl:=rf.inv
 have:kvs=[]:=by simpa using hk
 subst this
 apply rs.elim1;intro vd rd
 have hx0:=jJ hok;have t1:=hx0.1;have t2:=hx0.2.1;have t3:=hx0.2.2.1;have t4:=hx0.2.2.2.1;have t5:=hx0.2.2.2.2
 refine jg (args:=⟨[vd],[]⟩) R.dep ok (ok.baseHeap _ _ (hP a _ (K.obj _))) rfl t1 t2 t3 ((K.codeRec hP).keeps ok.baseHeap) (wL (K:=Kf W.w.params) (λa o e=>ok.baseHeap _ _ (hP a o e)) (hbind _ vd)) t4 t5 rfl (.cons rd .nil) λenv s1 e1 e2 e3 e4 hfr x1 F=>?_
 have hF1:=nS F e4 (hF.ext x1)
 have hs:env.scope=bh k:=e1
 have hm:env∈env :: l:=.head _
 have hnew:B8 s env.locals:=bf (hfr _ (.inl rfl))
 have hu0:=R.units
 have hdp:=R.depth
 have hA1:(A.deeper env).frames=some (env :: l):=cw hA
 have kd:∀x,(bh k).names.lookup x=some .globalImplicit->env.kindOf x=some .globalImplicit:=λx h=>by unfold bj;rw [hs];exact h
 show wpAny _ _ (execs (aH k) env) _ _ _
 generalize aH k=body at hsh
 obtain ⟨_⟩:=hsh
 refine aP (wpAny_Try_except (IH (A:=A.deeper env) R.handled (by show A.units + 3 + 100 < cLine;exact Jo hu0) hd (iR rfl) (λp=>fG hs (eX hP) (nmt d)) rfl F x1.ok λe s2 th=>?_))
 apply gn (th);intro g2 s2' X1 hX x2 sp hs2 ht2
 apply gT (sp.at');intro oe vs t a1 a2 a3 a4 a5 a6
 have hF2:=hF1.ext x2
 have hb2:∀a∈cy (env :: l),(hideAll s2'.heap (cy (env :: l))).get? a=none:=λa h=>pk _ h
 refine AO (A:=A.deeper env) hA1 (hF2.fun hb2 sp.keep) e4 a1 (pj _ sp.keep) (lZ _ sp.new) a3 a5 a4 a6 a2 λh3 zq0 u3 c3=>Bt zq0 λb1 b2 b3 b4=>?_
 refine zq (s:={s2 with heap:=h3 }) none b1 b3 b4 λh4 c1 c2 c4 u4 q4=>?_
 have u24:s2'.heap.UpToSlots h4:=((eM sp.keep).trans u3).trans u4
 have hs4:∀h',({s2 with heap:=h' }:Shared)={s2' with heap:=h',toks:=s2.toks }:=λh'=>by rw [hs2]
 have hx0:=ph (pre:=[]) (s4:={s2 with heap:=h4 }) (l:=env :: l) x2.toM (λenv _ m q=>pc x2 q) hF2 (λ_ h=>nomatch h) c1 u24 (hs4 _) ht2;have x4:=hx0.1;have Fr4:=hx0.2.1;have n4:=hx0.2.2
 have F4:=F.caught hm hF1 x4 Fr4 n4
 have hc4:Ctx0 h4 e:=c3.keep λo q _=>q4.trans q
 have fl4:iI (hideAll s2'.heap (cy (env :: l))) (env :: l) e (.type X1) t h4:=by rw [<-a2];exact ⟨c1,b2,c2,c4⟩
 obtain ⟨bb1,bb2,hsub1,hsub2,hor⟩:∃bb1 bb2,isSubtype (.type X1) (.type "TypeError")=pure bb1/\isSubtype (.type X1) (.type "AttributeError")=pure bb2/\(bb1||bb2)=true:=by
  rcases hX with rfl | rfl
  .exact ⟨_,_,Na,Nb,rfl⟩
  .exact ⟨_,_,Nc,lN,rfl⟩
 refine wpAny_handleBy_tup2 named_T.exc named_T.nt named_A.exc named_A.nt hsub1 hsub2 ?_
 refine Gi (A:=(A.deeper env).mark (some (.ref e))) (eX hP) F4 x4.ok ⟨kd _ kt,rfl⟩ ⟨kd _ ka,rfl⟩ ?_
 have fl5:=Be fl4 {cls:=.type "tuple",data:=.seq #[.type "TypeError",.type "AttributeError"] }
 refine ⟨_,rfl,⟨_,Heap.get?_push_size _ rfl,rfl,_,rfl⟩,fl5.there,?_⟩
 rw [if_pos hor]
 have f1:=fl5.1;have f2:=fl5.2.1;have f3:=fl5.2.2.1;have f4:=fl5.2.2.2
 refine zq none f1 f3 f4 λh6 c1' c2' c4' u6 q6=>?_
 have hc6:Ctx0 h6 e:=hc4.keep λo q _=>q6.trans (Heap.get?_push_of_some _ q)
 have u26:s2'.heap.UpToSlots h6:=(u24.trans (eM λb o e=>Heap.get?_push_of_some _ e)).trans u6
 have hx0:=ph (pre:=[]) (s4:={s2 with heap:=h6 }) (l:=env :: l) x2.toM (λenv _ m q=>pc x2 q) hF2 (λ_ h=>nomatch h) c1' u26 (hs4 _) ht2;have x6:=hx0.1;have Fr6:=hx0.2.1;have n6:=hx0.2.2
 have F6:=F.caught hm hF1 x6 Fr6 n6
 refine aP (Cr ?_ (by unfold interactive;rw [F.kind];rfl) rfl)
 refine dF (f:=.ref 99) (ds:=[d]) (fG hs (eX hP) nms) (.cons (aJ rfl) (fG hs (eX hP) (nmt d)) .nil) .nil (cL EI hP) F6 x6.ok λg7 s7 vf vs kvs x7 rf rs hkv _=>?_
 have:kvs=[]:=by simpa using hkv
 subst this
 refine CJ (A:=(A.deeper env).mark (some (.ref e))) (h:=e) hP O hz rfl (by show A.depth + 1 < recursionLimit;unfold recursionLimit;exact (qN (aR (.a Y0 J1) (.k 1000)) [1]:di [aR (.a Y0 J3) (.k 900)]) hdp) hg (by show A.units + 3 + 300 < cLine;exact (qN (aR (.a (.a Y0 J3) (.k 300)) Y1) [1]:cz [aR (.a (.a Y0 (.k 60)) (.k 1000)) Y1]) hu0) hA1 g7 s7 vf vs x7.ok (Fr6.ext x7) (hc6.keep λo q r=>x7.keep _ o q r) rf rs _ _ λe2 s8 ho=>?_
 exact wE (A:=A.deeper env) x1 hnew hA1 e4 x6 Fr6 n6 (ho.before x7) λs9 h9=>hE e2 s9 h9⟩
theorem Oj (hP:jv W)(h5:κ < 5)(hd:GT d)(O:OddX d rp T)(hz:(eY rp T).length<=sizeLine)(R:Room A 3)(hg:A.guards=some [])(hA:A.frames=some l):CallX W A l (.ref (sr κ)) [d] [] "TypeError" (some (eY rp T)):=
 oB (P:=λκ=>CallX W A l (.ref (sr κ)) [d] [] "TypeError" (some (eY rp T)))
  (uh qv hP (by kernel_rfl) (λP v=>ye P v) .mk (λ_=>rfl) rfl rfl rfl hd O hz R hg hA) (uh qu hP (by kernel_rfl) (λP v=>yd P v) .mk (λ_=>rfl) rfl rfl rfl hd O hz R hg hA)
  (uh qt hP (by kernel_rfl) (λP v=>yc P v) .mk (λ_=>rfl) rfl rfl rfl hd O hz R hg hA) (uh qr hP (by kernel_rfl) (λP v=>yb P v) .mk (λ_=>rfl) rfl rfl rfl hd O hz R hg hA)
  (uh qq hP (by kernel_rfl) (λP v=>ya P v) .mk (λ_=>rfl) rfl rfl rfl hd O hz R hg hA) h5
noncomputable def Wd.mayBe (W:Wd)(m:Addr->Nat->Bool):Wd:={W with may:=m }
theorem Fresh.ext {P:Addr}{q:Str}{b:Expr}{f c' P':Addr}(x:Fresh W g s P q args b sc clos f fd c' P' g' s')(hP:∃ps,s.heap.get? P=some (tabObj ps)):Ext W g s g' s':=
 have ne:∀a o,s.heap.get? a=some o->bD o=false->a≠P:=λa o e t r=>by
  obtain ⟨ps,h⟩:=hP
  rw [r,h] at e;(refine eQ e ?_;clear e;intro q₁;subst q₁)
  rw [zi] at t;exact (ag t.symm).elim
 ⟨x.le,x.ok,λa o e t=>x.but a o (ne a o e t) e,λa o e _=>x.nw a o e,x.same⟩
structure LmR where
 f:Addr
 fd:FuncData
 c:Addr
 P:Addr
structure Lm (g:View)(h:Heap)(env:Env)(P:Addr)(q:Str)(x:Expr)(r:LmR):Prop where
 fn:∃o,g.obj r.f=some o/\o.data=.func r.fd
 code:r.fd.code=.ref r.c
 cr:CodeRecG g r.c q
 qual:r.fd.qualname=q
 is:∃args b sc p,x=.Lambda args b sc p/\r.fd.params=args/\r.fd.body=.expr b/\r.fd.scope=sc/\r.fd.closure=vT env sc
 glob:r.fd.globals=mainGlobals
 bui:r.fd.builtins=builtinsNs
 dfl:r.fd.defaults=.none
 kwd:r.fd.kwdefaults=.none
 hd:Fl g r.c r.P
 tab:h.get? r.P=some (tabObj #[])
 tabg:g.obj r.P=none
 ne:r.P≠P
theorem Lm.up {P:Addr}{q:Str}{x:Expr}{r:LmR}(l:Lm g s.heap env P q x r)(y:Le g g')(hb:∀a o,a≠P->s.heap.get? a=some o->s'.heap.get? a=some o)(hn:∀a o,s.heap.get? a=some o->g.obj a=none->g'.obj a=none):Lm g' s'.heap env P q x r:=
 {fn:=aA l.fn λo a b=>⟨o,y.obj _ _ a,b⟩,code:=l.code,cr:=l.cr.mono y,qual:=l.qual,is:=l.is,glob:=l.glob,bui:=l.bui,dfl:=l.dfl,kwd:=l.kwd
  hd:=aA l.hd λo a b=>⟨o,y.obj _ _ a,b⟩,tab:=hb _ _ l.ne l.tab,tabg:=hn _ _ l.tab l.tabg,ne:=l.ne }
inductive LmAll (g:View)(h:Heap)(env:Env)(P:Addr)(q:Str):List Expr->List LmR->Prop
 | nil:LmAll g h env P q [] []
 | cons {x xs r rs:_}:Lm g h env P q x r->LmAll g h env P q xs rs->LmAll g h env P q (x :: xs) (r :: rs)
noncomputable def pe:Expr->Nat
 | .Lambda _ _ _ p=>p.line
 | _=>0
noncomputable def Iq (esc:Scope):Expr->Bool
 | .Lambda args _ sc _=>nr sc esc&&(args.defaults.isEmpty&&args.kw_defaults.isEmpty)
 | _=>false
theorem Ip {esc:Scope}{x:Expr}(h:Iq esc x=true):∃args b sc p,x=.Lambda args b sc p/\nr sc esc=true/\args.defaults=[]/\args.kw_defaults=[]:=by
 cases x with
 | Lambda args b sc p=>
  have h:=Bool.and_eq_true_iff.mp h
  have g:=Bool.and_eq_true_iff.mp h.2
  exact ⟨args,b,sc,p,rfl,h.1,my.mp g.1,my.mp g.2⟩
 | _=>exact (ag h).elim
theorem PP {P:Addr}{q:Str}{esc:Scope}(hs:env.scope=esc)(mk:Makes W env c P q)(hq:env.qual++"<lambda>"=q):∀(es:List Expr) (m:Addr->Nat->Bool) (g:View) (s:Shared),es.all (Iq esc)=true->(es.map pe).Nodup->(∀n,m P n=true->n∉es.map pe)->
  Fra W g s env ρ->Ok (W.mayBe m) g s->∀(Q:List Value->Shared->Prop) (E:Value->Shared->Prop),
  (∀m' fs g' s',Ext (W.mayBe m') g s g' s'->(∀a o,a≠P->s.heap.get? a=some o->s'.heap.get? a=some o)->(∀a o,s.heap.get? a=some o->g.obj a=none->g'.obj a=none)->LmAll g' s'.heap env P q es fs->(fs.map (·.P)).Pairwise (· < ·)->(∀r∈fs,s.heap.objs.size<=r.P)->Q (fs.map λr=>.ref r.f) s')->
  wpAny (model W.prog W.w) A (spliced (backTo pos (starEach es env))) Q E s:=by
 intro es
 induction es with
 | nil=>
  intro m g s _ _ _ F k Q E hQ
  exact eV (hQ m [] g s (Ext.refl k) (λ_ _ _ e=>e) (λ_ _ _ e=>e) .nil .nil (λ_ h=>nomatch h))
 | cons x es ih=>
  intro m g s hok hnd hno F k Q E hQ
  rw [lG,ao] at hok
  rw [aD,fR] at hnd
  have h1:=hok.1;have h2:=hok.2
  apply n0 (Ip h1);intro args b sc p hq0 g1 g2 g3;clear h1;subst hq0
  rw [ct (aJ rfl)]
  refine ci ?_
  show wpAny _ _ (eval (.Lambda args b sc p) env) _ _ _
  have mk':Makes (W.mayBe m) env c P q:=⟨mk.mem,mk.code⟩
  refine Lf (W:=W.mayBe m) mk' (λn hn e=>hno n hn (by rw [e];exact .head _)) (zQ F hs g1) F.glo k hq ⟨g2,g3⟩ λf fd c' P' g1 s1 fr=>?_
  have hP:∃ps,s.heap.get? P=some (tabObj ps):=aA (k.tabs _ mk'.mem) λps e _=>⟨ps,e⟩
  have x1:=fr.ext hP
  have e0:SameW W ((W.mayBe m).allow P p.line):=⟨rfl,rfl⟩
  have F0:=(F.reW e0).ext x1
  have F1:Fra W g1 s1 env ρ:=F0.reW e0.symm
  have hPP:P'≠P:=λe=>by
   obtain ⟨ps,h⟩:=hP
   have:=fr.new
   rw [e] at this
   exact absurd (aF h) (Nat.not_lt.mpr this)
  have l1:Lm g1 s1.heap env P q (.Lambda args b sc p) ⟨f,fd,c',P'⟩:=⟨fr.fn,fr.code,fr.cr,fr.qual,⟨_,_,_,_,rfl,fr.params,fr.body,fr.scope,fr.clos⟩,fr.glob,fr.bui,fr.dfl,fr.kwd,fr.hd,fr.tab,fr.tabg,hPP⟩
  refine ih _ g1 s1 h2 hnd.2 (λn hn hm=>?_) F1 x1.ok _ _ λm' fs g2 s2 x2 b2 n2 al pw lo2=>?_
  .have hn':(m P n||(P==P&&n==p.line))=true:=hn
   rw [ei] at hn'
   rcases hn' with h | h
   .exact hno n h (.tail _ hm)
   .have:n=p.line:=by simpa using h
    exact hnd.1 (show p.line∈es.map pe from this▸hm)
  .have sz1:s.heap.objs.size<=s1.heap.objs.size:=ai fr.new (cZ (aF fr.tab))
   refine hQ m' (⟨f,fd,c',P'⟩ :: fs) g2 s2 ⟨x1.le.trans x2.le,x2.ok,λa o e t=>x2.keep a o (x1.keep a o e t) t,λa o e t n=>x2.new a o (x1.keep a o e t) t (x1.new a o e t n),by rw [x2.same,x1.same]⟩
    (λa o n e=>b2 a o n (fr.but a o n e)) (λa o e n=>?_) (.cons (l1.up x2.le b2 n2) al) (.cons (λa ha=>?_) pw) λr hr=>?_
   .by_cases ha:a=P
    .subst ha
     apply aA (x1.ok.tabs _ mk'.mem);intro ps h _
     exact n2 _ _ h (fr.nw _ _ e n)
    .exact n2 a o (fr.but a o ha e) (fr.nw a o e n)
   .apply aA (Cj.mp ha);intro r hr hq0;subst hq0
    exact aw (aF fr.tab) (lo2 r hr)
   .rcases List.mem_cons.mp hr with rfl | hr
    .exact fr.new
    .exact ai sz1 (lo2 r hr)
structure Dd (W:Wd)(env:Env)(q q2:Str)(x:Expr)(r:LmR):Prop where
 fn:∃o,W.h₀.get? r.f=some o/\o.data=.func r.fd
 code:r.fd.code=.ref r.c
 cr:W.h₀.CodeRec (.ref r.c) q
 qual:r.fd.qualname=q
 is:∃args b sc p,x=.Lambda args b sc p/\r.fd.params=args/\r.fd.body=.expr b/\r.fd.scope=sc/\r.fd.closure=vT env sc
 glob:r.fd.globals=mainGlobals
 bui:r.fd.builtins=builtinsNs
 dfl:r.fd.defaults=.none
 kwd:r.fd.kwdefaults=.none
 mem:(r.c,r.P,q2)∈W.tabs
variable {q2:Str}
theorem Dd.up {q:Str}{r:LmR}{x:Expr}(d:Dd W env q q2 x r)(h:∀a o,W.h₀.get? a=some o->W'.h₀.get? a=some o)(ht:W'.tabs=W.tabs):Dd W' env q q2 x r:=
 {d with fn:=aA d.fn λo a b=>⟨o,h _ _ a,b⟩,cr:=d.cr.keeps h,mem:=by rw [ht];exact d.mem }
inductive DdAll (W:Wd)(env:Env)(q q2:Str):List Expr->List LmR->Prop
 | nil:DdAll W env q q2 [] []
 | cons {x xs r rs:_}:Dd W env q q2 x r->DdAll W env q q2 xs rs->DdAll W env q q2 (x :: xs) (r :: rs)
noncomputable def yG (q2:Str)(fs:List LmR):List (Addr×Addr×Str):=fs.map λr=>(r.c,r.P,q2)
variable {fs:List LmR}
theorem LmAll.get {P:Addr}{q:Str}(al:LmAll g h env P q es fs):∀r∈fs,∃x,Lm g h env P q x r:=by
 induction al with
 | nil=>exact λ_ h=>nomatch h
 | cons a _ ih=>exact λr hr=>(List.mem_cons.mp hr).elim (λe=>e▸⟨_,a⟩) (ih r)
noncomputable def nR (W:Wd)(g:View)(s:Shared)(m:Addr->Nat->Bool)(k:Ok (W.mayBe m) g s)(env:Env)(P:Addr)(q q2:Str)(es:List Expr)(fs:List LmR)(al:LmAll g s.heap env P q es fs)(pw:(fs.map (·.P)).Pairwise (· < ·))(old:∀t∈W.tabs,∀r∈fs,t.2.1≠r.P):Wd:=
 have kp:∀a o,W.h₀.get? a=some o->(hideAll s.heap (hidden g s.heap)).get? a=some o:=λa o e=>(fP k).mpr (k.base a o e)
 have hm:∀{t},t∈W.tabs++yG q2 fs->t∈W.tabs\/∃r∈fs,t=(r.c,r.P,q2):=λ{t} h=>(jH.mp h).imp_right λh=>aA (Cj.mp h) λr a b=>⟨r,a,b.symm⟩
 {W with
  h₀:=hideAll s.heap (hidden g s.heap)
  tabs:=W.tabs++yG q2 fs
  may:=λ_ _=>true
  g:=W.g.keeps kp
  b:=W.b.keeps kp
  nolimit:=W.nolimit.keeps kp
  bmain:=ik W.bmain λbm ob a1 a2 a3 r=>⟨bm,ob,a1,a2,kp _ _ a3,r⟩
  codes:=λt ht=>by
   rcases hm ht with h | ⟨r,hr,rfl⟩
   .exact (W.codes t h).keeps kp
   .obtain ⟨x,l⟩:=al.get r hr
    apply aA (l.hd);intro o e h
    exact h _ ((fP k).mpr e)
  tabNone:=λt ht=>by
   have:g.obj t.2.1=none:=by
    rcases hm ht with h | ⟨r,hr,rfl⟩
    .exact k.tabg t h
    .obtain ⟨x,l⟩:=al.get r hr;exact l.tabg
   cases e:(hideAll s.heap (hidden g s.heap)).get? t.2.1 with
   | none=>rfl
   | some o=>have h:=(fP k).mp e;rw [this] at h;exact (aK h).elim
  tabLt:=λt ht=>by
   rw [hideAll_size]
   rcases hm ht with h | ⟨r,hr,rfl⟩
   .apply aA (k.tabs t h);intro ps e _;exact aF e
   .obtain ⟨x,l⟩:=al.get r hr;exact aF l.tab
  tabDist:=by
   have e:(yG q2 fs).map (·.2.1)=fs.map (·.P):=by unfold yG;rw [cO];rfl
   rw [bU,e,List.nodup_append]
   refine ⟨W.tabDist,pw.imp λh=>bG h,λa ha b hb=>?_⟩
   apply aA (Cj.mp ha);intro t ht hq0;subst hq0
   apply aA (Cj.mp hb);intro r hr hq0;subst hq0
   exact old t ht r hr }
theorem C9 {P:Addr}{q:Str}{m:Addr->Nat->Bool}(k:Ok (W.mayBe m) g s)(al:LmAll g s.heap env P q es fs)(pw:(fs.map (·.P)).Pairwise (· < ·))(old:∀t∈W.tabs,∀r∈fs,t.2.1≠r.P):Ok (nR W g s m k env P q q2 es fs al pw old) g s:=
 ⟨λa o e=>(fP k).mp e,k.sub,λt ht=>by
  rcases jH.mp ht with h | h
  .apply bT (k.tabs t h);intro ps a b r
   exact ⟨ps,a,b,λpos cv q=>⟨rfl,(r pos cv q).2⟩⟩
  .apply aA (Cj.mp h);intro r hr hq0;subst hq0
   obtain ⟨x,l⟩:=al.get r hr
   exact ⟨#[],l.tab,trivial,λpos cv q=>nomatch q⟩,λt ht=>by
  rcases jH.mp ht with h | h
  .exact k.tabg t h
  .apply aA (Cj.mp h);intro r hr hq0;subst hq0
   obtain ⟨x,l⟩:=al.get r hr
   exact l.tabg,k.pos,k.tok⟩
theorem DdAll.out {q:Str}{x:Expr}{xs:List Expr}{rs:List LmR}(h:DdAll W env q q2 (x :: xs) rs):∃r rs',rs=r :: rs'/\Dd W env q q2 x r/\DdAll W env q q2 xs rs':=by
 cases h with | cons a b=>exact ⟨_,_,rfl,a,b⟩
theorem DdAll.six {q:Str}{a b c d f:Expr}{rs:List LmR}(h:DdAll W env q q2 [a,b,c,d,e,f] rs):∃x0 x1 x2 x3 x4 x5,rs=[x0,x1,x2,x3,x4,x5]/\Dd W env q q2 a x0/\Dd W env q q2 b x1/\Dd W env q q2 c x2/\Dd W env q q2 d x3/\Dd W env q q2 e x4/\Dd W env q q2 f x5:=
 bP h.out λx0 _ p0 d0 h=>bP h.out λx1 _ p1 d1 h=>bP h.out λx2 _ p2 d2 h=>bP h.out λx3 _ p3 d3 h=>bP h.out λx4 _ p4 d4 h=>bP h.out λx5 l p5 d5 h=>
  ⟨x0,x1,x2,x3,x4,x5,by rw [p0,p1,p2,p3,p4,p5,show l=[] by cases h;rfl],d0,d1,d2,d3,d4,d5⟩
theorem Da {P:Addr}{q:Str}{m:Addr->Nat->Bool}(k:Ok (W.mayBe m) g s)(al:LmAll g s.heap env P q es fs)(pw:(fs.map (·.P)).Pairwise (· < ·))(old:∀t∈W.tabs,∀r∈fs,t.2.1≠r.P):DdAll (nR W g s m k env P q q2 es fs al pw old) env q q2 es fs:=by
 have key:∀{es' fs'},LmAll g s.heap env P q es' fs'->(∀r∈fs',r∈fs)->DdAll (nR W g s m k env P q q2 es fs al pw old) env q q2 es' fs':=by
  intro es' fs' al'
  induction al' with
  | nil=>exact λ_=>.nil
  | cons l _ ih=>
   intro hsub
   refine .cons ⟨?_,l.code,?_,l.qual,l.is,l.glob,l.bui,l.dfl,l.kwd,?_⟩ (ih λr hr=>hsub r (.tail _ hr))
   .apply aA (l.fn);intro o a b
    exact ⟨o,(fP k).mpr a,b⟩
   .exact l.cr.code λa o e=>(fP k).mpr e
   .exact D8 _ (Cj.mpr ⟨_,hsub _ (.head _),rfl⟩)
 exact key al λ_ h=>h
structure Kin (W W':Wd):Prop extends SameW W W' where
 esc:W'.esc=W.esc
 le:∀a o,W.h₀.get? a=some o->W'.h₀.get? a=some o
 tabs:∀q∈W.tabs,q∈W'.tabs
 may:∀P n,W'.may P n=true
theorem Kin.prg (K:Kin W W')(h:jv W):jv W':=λa o e=>K.le a o (h a o (by rw [<-K.w];exact e))
theorem AF:∀fs:List LmR,RepAll W g (fs.map λr=>.ref r.f) (fs.map λr=>.ref r.f)
 | []=>.nil
 | r :: fs=>.cons (.ref _) (AF fs)
theorem LmAll.len {P:Addr}{q:Str}(al:LmAll g h env P q es fs):fs.length=es.length:=by
 induction al with
 | nil=>rfl
 | cons _ _ ih=>rw [aM,aM,ih]
theorem Ka {lp:Pos}{sp:Pos}{P:Addr}{q:Str}{esc:Scope}(hs:env.scope=esc)(mk:Makes W env c P q)(hq:env.qual++"<lambda>"=q)(hok:es.all (Iq esc)=true)(hnd:(es.map pe).Nodup)(hno:∀n,W.may P n=true->n∉es.map pe)(hy:Has env (cm ρ) y)(hz:es.length<=sizeLine)(h:∀W7 fs,Kin W W7->DdAll W7 env q q2 es fs->Blk W7 A env (.bind y (.list (fs.map λr=>.ref r.f)) ρ) [] rest (λ_ _=>False) (λ_ _=>False)):Blk W A env ρ [] (.Assign [.Name y py] (.List es lp) sp :: rest) Kn Pr:=.mk λg s F k l E=>by
 refine aP (gz (List_ (PP hs mk hq es W.may g s hok hnd hno F k _ _ λm' fs g1 s1 x1 b1 n1 al pw lo=>?_)) (gX rfl))
 have old:∀t∈W.tabs,∀r∈fs,t.2.1≠r.P:=λt ht r hr e=>by
  apply aA (k.tabs t ht);intro ps h1 _
  rw [e] at h1
  exact absurd (aF h1) (Nat.not_lt.mpr (lo r hr))
 have k7:=C9 (q2:=q2) x1.ok al pw old
 have d7:=Da (q2:=q2) x1.ok al pw old
 have e0:SameW W (W.mayBe m'):=⟨rfl,rfl⟩
 have e7:SameW W (nR W g1 s1 m' x1.ok env P q q2 es fs al pw old):=⟨rfl,rfl⟩
 have F1:Fra W g1 s1 env ρ:=((F.reW e0).ext x1).reW e0.symm
 have K7:Kin W (nR W g1 s1 m' x1.ok env P q q2 es fs al pw old):={prog:=rfl,w:=rfl,esc:=rfl,le:=λa o e=>(fP x1.ok).mpr (x1.ok.base a o e),tabs:=λq hq=>List.mem_append_left _ hq,may:=λ_ _=>rfl }
 have hlen:=al.len
 have hb:=h _ fs K7 d7
 generalize nR W g1 s1 m' x1.ok env P q q2 es fs al pw old=W7 at k7 d7 e7 K7 hb
 obtain ⟨ep,ew⟩:=e7
 have F7:Fra W7 g1 s1 env ρ:=F1.reW ⟨ep,ew⟩
 rw [<-ep,<-ew]
 refine oW k7 (AF fs) (by rw [ab,hlen];exact hz) _ _ λv g2 s2 x2 r2=>gi (F7.ext x2) x2.ok hy.kind r2 λs3 x3 F3=>?_
 refine aI (hb.run g2 s3 F3 x3.ok .nil E) (λf s4 q=>?_) λ_ _ e=>e
 cases f with
 | next=>apply ij (q);intro g ρ L _ _ _ h;exact h.elim
 | ret v=>exact q.elim (λzq0=>ij zq0 λ_ _ _ _ _ _ h=>h.elim) λh=>.inr ⟨by rw [<-K7.esc];exact h.1,dA x1.same (dA x2.same (dA x3.same h.2))⟩
 | cont=>exact q.elim
 | brk=>exact q.elim
noncomputable def IV (sc:Scope):Bool:=sc.kind==.function&&!sc.isCoroutine&&!sc.isGenerator&&(sc.names.lookup ("__classdict__":Str) !=some .free)&&(sc.names.all λy=>y.2 !=.cell)
theorem lr {q:Str}{r:LmR}{b:Expr}(D:Dd W env q q2 (.Lambda args b sc p) r)(hb:∀fd:FuncData,fd.params=args->fd.defaults=.none->fd.kwdefaults=.none->bindArgs fd ⟨[],[]⟩=pure [])(hq:IV sc=true)(hC:∀g s,Ok W g s->CloOk W g s r.fd ρc)(R:A.depth < recursionLimit)(hA:A.frames=some l)(hx:∀env',env'.scope=sc->env'.code=.ref r.c->env'.qual=q++".<locals>."->ER W (A.deeper env') env' l ρc b X msg):CallX W A l (.ref r.f) [] [] X msg:=⟨λg s vf vs kvs k hF rf rs hkv rk Q E hE=>by
 obtain rfl:=rf.inv
 have:kvs=[]:=by simpa using hkv
 subst this
 cases rs
 apply aA (D.fn);intro o ho hd
 apply ma (D.is);intro a' b' sc' p' e1 e2 e3 e4 e5
 cases e1
 simp only [IV,ao,beq_iff_eq,dm,bne_iff_ne,ne_eq] at hq
 have hn0:=hq.1;have q5:=hq.2;obtain ⟨⟨⟨q1,q2⟩,q3⟩,q4⟩:=hn0
 refine vF (args:=⟨[],[]⟩) (names:=[]) (vs:=[]) (ds:=[]) R k (k.baseHeap _ _ ho) hd ⟨by rw [e4];exact q1,by rw [e4];exact q2,by rw [e4];exact q3,D.glob,D.bui,by rw [e4];exact q4⟩ (λy hy=>by
   rw [e4] at hy
   simpa using ft.mp q5 y hy) (by rw [D.code,D.qual];exact D.cr.keeps k.baseHeap) (wZ (hb r.fd e2 D.dfl D.kwd)) .nil (λ_ h=>nomatch h) rfl .nil (hC g s k) λenv s1 f1 f2 f3 f4 f5 hfr x1 F=>?_
 have hF1:=nS F f5 (hF.ext x1)
 rw [e3]
 exact (hx env (f1.trans e4) (f3.trans D.code) (by rw [f4,D.qual])).run g s1 F x1.ok hF1 _ _ λe s2 th=>lV (A:=A.deeper env) x1 (bf hfr) (cw hA) hF1 th λs3 ho=>hE e s3 ho⟩
noncomputable def CX:Nat->D
 | 0=>.int 7
 | 1=>.none
 | 2=>.list [.kstr "&"]
 | _=>.bytes #[60]
noncomputable def AN:Nat->Str
 | 0=>"7 (type int)"
 | 1=>"None (type NoneType)"
 | 2=>"['&'] (type list)"
 | _=>"b'<' (type bytes)"
theorem KY (h:k < 4):Gives (lO (.tup [.tup [.int 7,.kstr "7 (type int)"],.tup [.none,.kstr "None (type NoneType)"],.tup [.list [.kstr "&"],.kstr "['&'] (type list)"],.tup [.bytes #[60],.kstr "b'<' (type bytes)"]]) (.int (k:Int))) (.tup [CX k,.kstr (AN k)]):=
 oB (P:=λk=>k < 4->Gives (lO (.tup [.tup [.int 7,.kstr "7 (type int)"],.tup [.none,.kstr "None (type NoneType)"],.tup [.list [.kstr "&"],.kstr "['&'] (type list)"],.tup [.bytes #[60],.kstr "b'<' (type bytes)"]]) (.int (k:Int))) (.tup [CX k,.kstr (AN k)]))
  (λ_=>⟨rfl,by decide,by decide,trivial⟩) (λ_=>⟨rfl,by decide,by decide,trivial⟩) (λ_=>⟨rfl,by decide,by decide,trivial⟩) (λ_=>⟨rfl,by decide,by decide,trivial⟩) (λh=>absurd h (by decide)) (lF h) h
noncomputable def Ib:D:=.list [.bool false,.bool true,.kstr "lo must be non-negative"]
noncomputable def Gw (o:Nat):List D:=[Ib,Ib,Ib,Ib,.list [.bool false,.bool false,.kstr ""],.list [.bool true,.bool false,.str ("cannot serialize "++AN o)]]
noncomputable def Em (κ:Nat)(sp':Int)(t:Tr)(ln:Int)(p j o:Nat):Rho:=.bind "words" (.kstr (AN o)) (.bind "odd" (CX o) (mr κ sp' t ln p j))
theorem OD (C:LC W A env){t:Tr}{p:Nat}(c:∀o,o < 4->Blk W A env (Em κ sp' t ln p j o) [] ((aH 27).drop 32) Kn Pr):Blk W A env (mr κ sp' t ln p j) [] ((aH 27).drop 31) Kn Pr:=by
 obtain ⟨o,ho,h4⟩:∃o:Nat,sp'.fmod 4=o/\o < 4:=by
  have:=dE sp' (b:=4) (by decide)
  exact ⟨(sp'.fmod 4).toNat,au (BA) (Du this.1),Jr this.2⟩
 exact ny C.toCx [.o (.tup [CX o,.kstr (AN o)])] [CX o,.kstr (AN o)] rfl rfl ⟨rfl,by decide,by rw [ho];exact KY h4,trivial⟩ (c o h4)
theorem KQ (h:k < 5):(((aC k).drop 1).all λp=>p.1 !=38)=true:=oB (P:=λk=>(((aC k).drop 1).all λp=>p.1 !=38)=true) rfl rfl rfl rfl rfl h
theorem BM (rs:List Int):∃c0 c1 c2 c3 c4 c5 c6,DC rs=[c0,c1,c2,c3,c4,c5,c6]:=⟨_,_,_,_,_,_,_,rfl⟩
theorem Im (C:LC W A env)(h63:ns.length<=63)(hb:intBits (ns.take 60).sum<=2 ^ 21)(c:∀(κ:Nat) (sp':Int) (t:Tr) (ln:Int) (p j o:Nat),κ < 5->TF t->j < 5->dM t j<=p->(p:Int) < dM t j + eu t j->o < 4->Blk W A env (Em κ sp' t ln p j o) [] ((aH 27).drop 32) Kn Pr):
  Blk W A env (KP ns) [] (aH 27) Kn Pr:=by
 refine OT C h63 (OS C h63 ?_)
 apply Gu (BM (ns.take 60));intro c0 c1 c2 c3 c4 c5 c6 e
 rw [e]
 refine de (ρ':=Op (ns.take 60).sum [c0,c1,c2,c3,c4,c5,c6]) (SubR.le ⟨rfl,rfl,trivial⟩ rfl) (OR C λκ sp' mk wd i h5 hi h1=>OQ C λx0 x1 x2 x3 x4 k0 k1 k2 k3 k4=>?_)
 have S:Std κ mk wd [x0,x1,x2,x3,x4]:=⟨h5,KI h5 hi,by
   have hm:(mk,wd)∈(aC κ).drop 1:=List.mem_of_getElem? (i:=i - 1) (by rw [List.getElem?_drop,nB,Nat.sub_add_cancel h1];exact hi)
   simpa using ft.mp (KQ h5) _ hm,rfl,λx hx=>by
   simp only [List.mem_cons,List.not_mem_nil,or_false] at hx
   rcases hx with rfl | rfl | rfl | rfl | rfl<;>assumption⟩
 refine OP C S.ok rfl (OO C h5 S.ok rfl (ON C h5 S.mark S.word S.ok rfl (OM C S (OL C S λt ht=>?_))))
 have T:=TF.of ht
 exact OK C S T (OJ C S T (OI C T (OH C hb λu r tn ln N=>OG C S T N (OF C T hb λp j hj h1 h2=>OE C T (OD C λo ho=>c κ sp' t ln p j o h5 T hj h1 h2 ho)))))
noncomputable def Qa:List Stmt->Expr
 | .Assign _ e _ :: _=>e
 | _=>.Tuple [] 0 ⟨0,0,0,0⟩
noncomputable def es6:List Expr:=NK (Qa ((aH 27).drop 32))
noncomputable def mv (i:Nat):Expr:=PG es6 i
noncomputable def PD (ps:List Int):Rho:=.froz (.bind "points" (.list (ps.map .int)) .nil)
variable {env':Env}
theorem Cx.deed (hP:jv W)(R:Room A 10)(h:env'.scope=sc):Cx W (A.deeper env') env' sc:=⟨h,eX hP,by have:=R.units;show A.units + 3 + 100 < cLine;exact (qN (aR (.a (.a Y0 J3) (.k 100)) Y1) [1]:cz [aR (.a (.a Y0 (.k 200)) (.k 1000)) Y1]) this,R.handled⟩
theorem R1 (R:Room A (k + 1)):Room (A.deeper env') k:=R.deeper
theorem It {esc:Scope}{r:LmR}{x0:Expr}(hm:∀P n,W.may P n=true)(D:Dd W env "law.<locals>.<lambda>" "law.<locals>.<lambda>.<locals>.<lambda>" x0 r)(h1:env'.scope=esc)(h2:env'.code=.ref r.c)(h3:env'.qual="law.<locals>.<lambda>"++".<locals>."){b:Expr}(hc:(nr sc esc&&(args.defaults.isEmpty&&args.kw_defaults.isEmpty)&&(sc.names.all λp=>p.2 !=.free))=true):aQ W A env' ρ (.Lambda args b sc p) (.lam [] args (.expr b) sc):=by
 simp only [ao,my] at hc
 have:=nf (W:=W) (A:=A) (ρ:=ρ) (b:=b) (p:=p) h1 hc.1.1 ⟨D.mem,h2⟩ (hm _ _) (by rw [h3];rfl) hc.1.2
 rwa [BK hc.2] at this
section
variable {r:LmR}{ps:List Int}(hP:jv W)(R:Room A 10)(hA:A.frames=some l)(hC:∀g s,Ok W g s->CloOk W g s r.fd (PD ps))
include hP R hA hC
theorem O8 {q:Str}(D:Dd W env q q2 (mv 0) r):CallX W A l (.ref r.f) [] [] "ValueError" lc:=
 lr D (λfd h1 h2 h3=>by
  obtain ⟨⟩:=fd
  simp only at h1 h2 h3
  subst h1 h2 h3
  rfl) (by kernel_rfl) hC R.dep hA λenv' h1 h2 h3=>jz (bn (Cx.deed hP R h1) [] ⟨rfl,trivial⟩) (gG (Cx.deed hP R h1) [] ⟨rfl,trivial⟩) .nil (cL gc hP) (KC hP ((R1 R).le (by decide)) (cw hA))
theorem O5 {q:Str}(D:Dd W env q q2 (mv 3) r):CallX W A l (.ref r.f) [] [] "ValueError" lc:=
 lr D (λfd h1 h2 h3=>by
  obtain ⟨⟩:=fd
  simp only at h1 h2 h3
  subst h1 h2 h3
  rfl) (by kernel_rfl) hC R.dep hA λenv' h1 h2 h3=>jz (bn (Cx.deed hP R h1) [] ⟨rfl,trivial⟩) (gG (Cx.deed hP R h1) [] ⟨rfl,trivial⟩) .nil (cL jW hP) (KA hP ((R1 R).le (by decide)) (cw hA))
theorem O7 (hm:∀P n,W.may P n=true)(D:Dd W env "law.<locals>.<lambda>" "law.<locals>.<lambda>.<locals>.<lambda>" (mv 1) r):CallX W A l (.ref r.f) [] [] "ValueError" lc:=
 lr D (λfd h1 h2 h3=>by
  obtain ⟨⟩:=fd
  simp only at h1 h2 h3
  subst h1 h2 h3
  rfl) (by kernel_rfl) hC R.dep hA λenv' h1 h2 h3=>jz (bn (Cx.deed hP R h1) [] ⟨rfl,trivial⟩) (gG (Cx.deed hP R h1) [] ⟨rfl,trivial⟩) (ng (Cx.deed hP R h1) [.v (.lam [] _ (.expr _) _)] ⟨rfl,It hm D h1 h2 h3 (by kernel_rfl),trivial⟩) (cL gb hP) (Hp hP ((R1 R).le (by decide)) (cw hA))
theorem O6 (hm:∀P n,W.may P n=true)(D:Dd W env "law.<locals>.<lambda>" "law.<locals>.<lambda>.<locals>.<lambda>" (mv 2) r):CallX W A l (.ref r.f) [] [] "ValueError" lc:=
 lr D (λfd h1 h2 h3=>by
  obtain ⟨⟩:=fd
  simp only at h1 h2 h3
  subst h1 h2 h3
  rfl) (by kernel_rfl) hC R.dep hA λenv' h1 h2 h3=>by
  refine jz (bn (Cx.deed hP R h1) [] ⟨rfl,trivial⟩) (gG (Cx.deed hP R h1) [] ⟨rfl,trivial⟩) (ng (Cx.deed hP R h1) [.v (.lam [] _ (.expr _) _)] ⟨rfl,It hm D h1 h2 h3 (by kernel_rfl),trivial⟩) (cL jX hP) ?_
  refine Ho (kx:=.int 0) hP ((R1 R).le (by decide)) (cw hA) λA' R'=>mh (names:=["one"]) yE rfl rfl rfl rfl (by simp) rfl rfl R'.dep λenv2 hs2=>bn (W:=W) (A:=A'.deeper env2) ⟨hs2,eX hP,by have:=R'.units;show A'.units + 3 + 100 < cLine;exact (qN (aR (.a (.a Y0 J3) (.k 100)) Y1) [1]:cz [aR (.a (.a Y0 (.k 40)) (.k 1000)) Y1]) this,R'.handled⟩ [] ⟨rfl,trivial⟩
end
theorem O4 {q:Str}{r:LmR}(hP:jv W)(R:Room A 10)(hA:A.frames=some l)(hC:∀g s,Ok W g s->CloOk W g s r.fd (.froz (.bind "lines" (.int ln) .nil)))(D:Dd W env q q2 (mv 4) r):CallX W A l (.ref r.f) [] [] "ZeroDivisionError" none:=
 lr D (λfd h1 h2 h3=>by
  obtain ⟨⟩:=fd
  simp only at h1 h2 h3
  subst h1 h2 h3
  rfl) (by kernel_rfl) hC R.dep hA λenv' h1 h2 h3=>jz (bn (Cx.deed hP R h1) [] ⟨rfl,trivial⟩) (gG (Cx.deed hP R h1) [] ⟨rfl,trivial⟩) .nil (cL nU hP) (Oi hP ((R1 R).le (by decide)) (cw hA))
theorem Iu (hP:jv W)(h5:κ < 5):cJ W (.ref (sr κ)):=
 oB (P:=λκ=>cJ W (.ref (sr κ))) (cL qv hP) (cL qu hP) (cL qt hP) (cL qr hP) (cL qq hP) h5
theorem O3 {q:Str}{r:LmR}(h5:κ < 5)(hd:GT d)(O:OddX d rp T)(hz:(eY rp T).length<=sizeLine)(hP:jv W)(R:Room A 10)(hg:A.guards=some [])(hA:A.frames=some l)(hC:∀g s,Ok W g s->CloOk W g s r.fd (.froz (.bind "write" (.ref (sr κ)) (.bind "odd" d .nil))))(D:Dd W env q q2 (mv 5) r):CallX W A l (.ref r.f) [] [] "TypeError" (some (eY rp T)):=
 lr D (λfd h1 h2 h3=>by
  obtain ⟨⟩:=fd
  simp only at h1 h2 h3
  subst h1 h2 h3
  rfl) (by kernel_rfl) hC R.dep hA λenv' h1 h2 h3=>jz (bn (Cx.deed hP R h1) [] ⟨rfl,trivial⟩) (gG (Cx.deed hP R h1) [] ⟨rfl,trivial⟩) .nil (Iu hP h5) (Oj hP h5 hd O hz ((R1 R).le (by decide)) hg (cw hA))
noncomputable def Stk (W:Wd)(env:Env)(ρ:Rho)(l:List Env)(g:View)(s:Shared):Prop:=Fra W g s env ρ/\Frs g s (env :: l)
theorem Own.lt {b:Nat}(h:Own env b)(F:Fra W g s env ρ):b < s.heap.objs.size:=aA (h.alive F) λo e _=>aF e
theorem Frs.lt (F:Frs g s l){a:Nat}(h:a∈cy l):a < s.heap.objs.size:=by
 apply EN (F.dict h);intro m o es ep e _
 exact aF e
theorem Stk.extM {g2:View}(j:Stk W env ρ l g1 s1)(x:ExtM W M g1 s1 g2 s2)(h1:∀b,M b->¬Own env b)(h2:∀b,M b->b∉cy l):Stk W env ρ l g2 s2:=
 ⟨j.1.extM x (dU λb ho hb=>h1 b hb ho),j.2.extM x λa ha hm=>by
  rcases List.mem_cons.mp ha with rfl | ha
  .exact h1 _ hm (.inl rfl)
  .exact h2 a hm ha⟩
noncomputable def Qe (W:Wd)(A:Around)(env2:Env)(ρ2:Rho)(env:Env)(ρ:Rho)(l:List Env)(x:Expr)(d:D):Prop:=
 ∀g s,Fra W g s env2 ρ2->Ok W g s->Stk W env ρ l g s->∀(Q:Value->Shared->Prop) (E:Value->Shared->Prop),
  (∀v g' s',ExtM W (·∈cy (env :: l)) g s g' s'->Fra W g' s' env2 ρ2->Stk W env ρ l g' s'->Rep W g' v d->Q v s')->wpAny (model W.prog W.w) A (eval x env2) Q E s
theorem H0 {env2:Env}(F:Fra W g s env2 ρ')(hF:Frs g s l)(hn:env2.locals∉cy l):iv env2 (·∈cy l):=
 ⟨hn,λx c e hm=>by
  have hx0:=F.liv x c e;have hn0:=hx0.1;obtain ⟨v,o,h1,h2⟩:=hn0
  apply ii (hF.dict hm);intro m o' es ep e2 hd' _
  rw [h1] at e2;(refine eQ e2 ?_;clear e2;intro q₁;subst q₁)
  rw [h2] at hd';cases hd'⟩
theorem II {env2:Env}{ρ2:Rho}(hf:aQ W A env2 ρ2 (.Name x q) f)(h:EvAll W A env2 ρ2 es ds)(hkp:cJ W f)(hc:CallY W A (env :: l) f ds d)(hn:env2.locals∉cy (env :: l)):Qe W A env2 ρ2 env ρ l (.Call (.Name x q) es [] p) d:=λg s F k j Q E hQ=>
 dF hf h .nil hkp F k λg2 s2 vf vs kvs x2 rf rs hkv _=>by
  have:kvs=[]:=by simpa using hkv
  subst this
  have F2:=F.ext x2
  have j1:=j.1.ext x2
  have j2:=j.2.ext x2
  exact hc.run g2 s2 vf vs x2.ok j2 rf rs _ _ λv g3 s3 x3 F3 n3 r3=>hQ v g3 s3 (x2.toM.trans x3) (F2.extM x3 (H0 F2 j2 hn)) ⟨j1.caught (.head _) j2 x3 F3 n3,F3⟩ r3
theorem zv {i:Expr}(hh:A.handled=none)(hok:ko env scope=true)(hns:dR i=true)(hi:dS W A env ρ t i ds)(hbody:∀cl C,gN (compEnvC scope cl C env) (.under scope ρ) t)(hel:∀cl C (k:Nat) d o,ds[k]? =some d->outs[k]? =some o->∃ρ',Ce t d (.under scope ρ)=some ρ'/\(C∉cy (env :: l)->Qe W A (compEnvC scope cl C env) ρ' env ρ l elt o))(hlen:outs.length=ds.length)(hz:outs.length<=sizeLine)(F:Fra W g s env ρ)(k:Ok W g s)(hF:Frs g s (env :: l))(hQ:∀v g' s',ExtM W (·∈cy (env :: l)) g s g' s'->Stk W env ρ l g' s'->Rep W g' v (.list outs)->Q v s'):
  wpAny (model W.prog W.w) A (eval (.ListComp elt [⟨t,i,[],0⟩] scope pos) env) Q E s:=by
 have hx0:=hZ hok;have h1:=hx0.1;have h2:=hx0.2.1;have h3:=hx0.2.2.1;have h4:=hx0.2.2.2
 obtain ⟨cl,hcl⟩:=j0 (env:=env) (names:=scope.names) (acc:=[]) λn hn=>by
  apply fo (F.cel n (h4 n hn).2.1);intro c cv e _
  rw [e];rfl
 rw [eval_ListComp]
 refine mL (use:=none) rfl (gE hns) (io hcl) h1 h3 ?_
 refine hi g s F k _ _ λit g1 s1 B St Md x1 T st hB=>?_
 have F1:=F.ext x1
 have hF1:=hF.ext x1
 have hBo:∀b,B b->¬Own env b:=λb hb h=>by
  apply aA (h.alive F);intro o e ht
  rw [hB b o hb e] at ht;exact (ag ht.symm).elim
 have hBl:∀b,B b->b∉cy (env :: l):=λb hb h=>by
  apply ii (hF.dict h);intro m o es ep e hd _
  have:=hB b o hb e
  rw [cS hd] at this;exact (ag this).elim
 have ownLt:∀b:Nat,Own env b->b < s1.heap.objs.size:=λb h=>h.lt F1
 have locLt:∀b:Nat,b∈cy (env :: l)->b < s1.heap.objs.size:=λb h=>hF1.lt h
 have offC:∀{C a:Nat},s1.heap.objs.size<=C->s1.heap.objs.size<=a->∀b,((b=C\/b=a)\/B b)->¬Own env b/\b∉cy (env :: l):=λ{C a} hC ha b h=>by
  rcases h with (rfl | rfl) | h
  .exact ⟨λq=>absurd (ownLt _ q) (Nat.not_lt.mpr hC),λq=>absurd (locLt _ q) (Nat.not_lt.mpr hC)⟩
  .exact ⟨λq=>absurd (ownLt _ q) (Nat.not_lt.mpr ha),λq=>absurd (locLt _ q) (Nat.not_lt.mpr ha)⟩
  .exact ⟨hBo b h,hBl b h⟩
 have hJ:∀C a,s1.heap.objs.size<=C->s1.heap.objs.size<=a->∀{M:Addr->Prop} {g s g' s'},Stk W env ρ l g s->ExtM W M g s g' s'->(∀b,M b->(b=C\/b=a)\/B b)->Stk W env ρ l g' s':=λC a hC ha M g s g' s' j x hm=>
  j.extM x (λb hb=>(offC hC ha b (hm b hb)).1) λb hb h=>(offC hC ha b (hm b hb)).2 (.tail _ h)
 have hfl:=nV outs
 refine pC (os:=outs.map λo=>[o]) (gs:=[]) (ifs:=[]) (P:=λC ρ2 os=>∃o,os=[o]/\(C∉cy (env :: l)->Qe W A (compEnvC scope cl C env) ρ2 env ρ l elt o)) (X:=λC a b=>(b=C\/b=a)\/b∈cy (env :: l)) (J:=Stk W env ρ l) (RR:=λacc C=>compPost (model W.prog W.w) A E none Q acc C) hh hok hcl F1 x1.ok T st hBo (λ_ h=>nomatch h)
  (λC=>⟨hbody cl C,by rw [ab,hlen],λk d o hd ho=>?_⟩) (λC a ha2 hC ha=>?_) (λ_ _ _ h=>.inl h) (λb hb C a h1 h2 h=>h.elim (λh=>h.elim h1 h2) (hBl b hb)) hJ ⟨F1,hF1⟩ (by rw [hfl];exact hz) ?_
 .rw [List.getElem?_map] at ho
  cases ho':outs[k]? with
  | none=>rw [ho'] at ho;exact (aK ho).elim
  | some o'=>
   rw [ho'] at ho
   (refine eQ ho ?_;clear ho;intro q₁;subst q₁)
   apply aA (hel cl C k d o' hd ho');intro ρ' h1 h2
   exact ⟨ρ',true,h1,rfl,λ_=>⟨o',rfl,h2⟩,nofun⟩
 .have hCl:C∉cy (env :: l):=(offC (C:=C) (a:=a) hC ha C (.inl (.inl rfl))).2
  have hal:a∉cy (env :: l):=(offC (C:=C) (a:=a) hC ha a (.inl (.inr rfl))).2
  rintro ρ2 os ⟨o,rfl,hx⟩ g2 s2 outs0 F2 k2 acc j hz2
  refine ⟨λ_ Q E hQ=>hx hCl g2 s2 F2 k2 j _ _ λv g3 s3 x3 F3 j3 r3=>?_,λc' e=>nomatch e⟩
  refine sE x3.ok (acc.ext x3 hal) r3 (ai (b9 _ _) hz2) λs4 x4 acc4=>?_
  exact hQ g3 s4 ((x3.mono λb h=>.inr h).trans (x4.mono λb h=>.inl (.inr h))) (F3.extM x4 (dU λb hb e=>ha2 (e▸hb))) acc4 (hJ C a hC ha j3 x4 λb h=>.inl (.inr h))
 intro a C g2 s2 x2 ha hC hne acc2 ⟨m,hm⟩ hid j2
 refine ⟨m,hm,λh' hs'=>?_⟩
 apply aV (hm);intro o es ep e1 hd _
 have x3:=ExtM.of_keep x2.ok (wr:=[C]) (h':=h') (n:=s2.toks) (λb hb=>(rF.mp hb)▸⟨o,e1,cS hd,hid⟩) (λb o hb e=>hs'.extBut b o (λq=>hb (rF.mpr q)) e) (ae _)
 apply fo (acc2.ext x3 (λq=>hne (rF.mp q).symm));intro vs n h5 h6
 have x4:=(x3.mono (N:=λb=>b=C\/b=a) λb hb=>.inl (rF.mp hb)).see h5 (.inr rfl)
 have j4:=hJ C a hC ha j2 x4 λb h=>.inl h
 rw [hfl] at h6
 refine hQ _ _ _ ((x1.toM.trans (x2.trans (x4.mono λb h=>.inl (.inl h)))).drop λb o hm hn e=>?_) j4 (.list (cW _ _ _) (h6.mono (gK h5.hid)))
 rcases hm with ((rfl | rfl) | hb) | hb
 .exact x1.before (bf hC) o e
 .exact x1.before (bf ha) o e
 .exact absurd hb hn
 .exact hB b o hb e
noncomputable def FQ:Nat->D
 | 0=>.int 7
 | 1=>.none
 | 2=>.list [.str "&"]
 | _=>.bytes #[60]
noncomputable def H8:Nat->Str
 | 0=>"7"
 | 1=>"None"
 | 2=>"['&']"
 | _=>"b'<'"
noncomputable def H7:Nat->String
 | 0=>"int"
 | 1=>"NoneType"
 | 2=>"list"
 | _=>"bytes"
theorem Gg {P:Nat->Prop}(h0:P 0)(h1:P 1)(h2:P 2)(h3:P 3):∀{k:Nat},k < 4->P k
 | 0,_=>h0
 | 1,_=>h1
 | 2,_=>h2
 | 3,_=>h3
 | n + 4,h=>absurd h (Nat.not_lt_of_le ((qN (.l J4 (.a Y0 J4)) []:di [])))
theorem NB {o:Nat}(h:o < 4):GT (FQ o):=Gg (P:=λo=>GT (FQ o)) (.inl rfl) (.inr (.inl rfl)) (.inr (.inr (.inr rfl))) (.inr (.inr (.inl rfl))) h
theorem NA {o:Nat}(h:o < 4):OddX (FQ o) (H8 o) (H7 o):=Gg (P:=λo=>OddX (FQ o) (H8 o) (H7 o)) KX H5 H6 FP h
theorem PF {o:Nat}(h:o < 4):(eY (H8 o) (H7 o)).length<=sizeLine:=Gg (P:=λo=>(eY (H8 o) (H7 o)).length<=sizeLine) (ac (by kernel_rfl)) (ac (by kernel_rfl)) (ac (by kernel_rfl)) (ac (by kernel_rfl)) h
theorem KR (hobj:∀a o,g.obj a=some o->g'.obj a=some o){o:Nat}(h:o < 4)(r:Rep W g v (CX o)):Rep W' g' v (FQ o):=by
 revert r
 refine Gg (P:=λo=>Rep W g v (CX o)->Rep W' g' v (FQ o)) (λr=>?_) (λr=>?_) (λr=>?_) (λr=>?_) h
 .exact r.intE λ_=>.int _ _
 .exact r.noneE .none
 .exact r.listE λa vs n h1 h2=>aA h2.inv1 λu e ru=>.list (hobj _ _ h1) (by rw [e];exact .cons (ru.kstrE λ_ _=>.str _ _) .nil)
 .exact r.bytesE λ_=>.bytes _ _
noncomputable def K4:D:=HL false true lc
noncomputable def uA (o:Nat):List D:=[K4,K4,K4,K4,HL false false none,HL true false (some (eY (H8 o) (H7 o)))]
noncomputable def M2 (o:Nat):Prop:=∃p q,lL (.list (uA o))=some p/\lL (.list (Gw o))=some q/\bZ p q=true/\mE p=true/\mE q=true
theorem NX {o:Nat}(h:o < 4):Gives (ll .Eq (.list (uA o)) (.list (Gw o))) true:=by
 obtain ⟨p,q,e1,e2,e3,e4,e5⟩:M2 o:=Gg (P:=M2) ⟨_,_,rfl,rfl,by kernel_rfl,by kernel_rfl,by kernel_rfl⟩ ⟨_,_,rfl,rfl,by kernel_rfl,by kernel_rfl,by kernel_rfl⟩ ⟨_,_,rfl,rfl,by kernel_rfl,by kernel_rfl,by kernel_rfl⟩ ⟨_,_,rfl,rfl,by kernel_rfl,by kernel_rfl,by kernel_rfl⟩ h
 show Gives (match lL (.list (uA o)),lL (.list (Gw o)) with | some p,some q=>some (bZ p q,[bQ p,bQ q]) | _,_=>none) true
 rw [e1,e2]
 exact ⟨e3,e4,e5,trivial⟩
theorem Di {r:Option (β×List Prop)}{d:β}(h:Gives r d):∃P,r=some (d,P)/\AllP P:=by
 cases r with
 | none=>exact h.elim
 | some q=>obtain ⟨d',P⟩:=q;exact ⟨P,by rw [h.1],h.2⟩
theorem m9 (h:aQ W A env ρ e d)(F:Fra W g s env ρ)(k:Ok W g s)(hQ:∀v g' s',Ext W g s g' s'->Rep W g' v d->Q v s'):wpAny (model W.prog W.w) A (eval e env) Q E s:=h g s F k Q E hQ
structure EndC (W:Wd)(A:Around)(env:Env):Prop extends Cx W A env (bh 27) where
 prg:jv W
 room:Room A 40
 grd:A.guards=some []
 frm:A.frames=some [env]
 own:env.frame=some env.locals
noncomputable def Nk (κ:Nat)(sp':Int)(t:Tr)(ln:Int)(p j o:Nat)(refs:List D):Rho:=.bind "due" (.list (Gw o)) (.froz (.bind "deeds" (.list refs) (Em κ sp' t ln p j o)))
theorem Lc (C:EndC W A env){t:Tr}{p o:Nat}{refs:List D}(h4:o < 4)(k:Blk W A env (Nk κ sp' t ln p j o refs) [] ((aH 27).drop 34) Kn Pr):Blk W A env (.froz (.bind "deeds" (.list refs) (Em κ sp' t ln p j o))) [] ((aH 27).drop 33) Kn Pr:=by
 refine iV (d:=.list (Gw o)) (qz (Bn (P1:=[]) (P2:=[]) (ds:=[Ib]) (k:=4) (λ_=>bn C.toCx [] ⟨rfl,trivial⟩) (λ_=>bn C.toCx [] ⟨rfl,trivial⟩) (by decide) (by decide) (by decide) trivial) (b:=.list [.list [.bool false,.bool false,.kstr ""],.list [.bool true,.bool false,.str ("cannot serialize "++AN o)]]) (bn C.toCx [] ⟨rfl,?_,trivial⟩) rfl ⟨ac rfl,trivial⟩) (el C.hs rfl) (gX rfl) k
 exact Gg (P:=λk=>(("cannot serialize ":Str)).length + (AN k).length<=sizeLine) (ac (by kernel_rfl)) (ac (by kernel_rfl)) (ac (by kernel_rfl)) (ac (by kernel_rfl)) h4
theorem K9 (C:EndC W A env){t:Tr}(T:TF t){p o:Nat}(hj:j < 5)(hp1:dM t j<=p)(hp2:(p:Int) < dM t j + eu t j){refs:List D}(hr:refs.length=6)(h4:o < 4)(hcs:∀(k:Nat) d r,refs[k]? =some d->(uA o)[k]? =some r->CallY W A [env] (.ref 170) [d] r)(hesc:∀sc g s,sc=bh 27->Ok W g s->W.esc sc (.bool true) s):
  Blk W A env (Nk κ sp' t ln p j o refs) [] ((aH 27).drop 34) (λ_ _=>False) (λ_ _=>False):=.mk λg s F k _ E=>by
 have pl:=TF.pointsLen t
 have gp:=Dj (ns:=aN t) (k:=j) (by rw [pl];exact hj) (aw hj (ac rfl))
 have gs:=Dj (ns:=eN t) (k:=j) (by rw [T.sharesLen];exact hj) (aw hj (ac rfl))
 refine aP (jn (BoolOp_and (wpAny_Compare1 ?_ rfl)))
 refine zv (l:=[]) (ds:=refs) (outs:=uA o) (ρ:=Nk κ sp' t ln p j o refs) C.hh ?_ ?_ ?_ ?_ ?_ hr.symm (ac rfl) F k (nS (l:=[]) F C.own (λ_ h=>nomatch h)) λv g1 s1 x1 j1 r1=>?_
 .exact i8 C.hs (by kernel_rfl)
 .rfl
 .exact cC C.hh (bn C.toCx [] ⟨rfl,trivial⟩)
 .exact λcl C'=>jF C.hs (by kernel_rfl)
 .exact λcl C' n d r hd hr=>⟨_,rfl,λhn=>II (fG (eo C.hs) C.G rfl) (.cons (aJ rfl) (fG (eo C.hs) C.G rfl) .nil) (cL fnK_refused C.prg) (hcs n d r hd hr) hn⟩
 apply aA (Di (NX h4));intro P1 q1 q2
 refine m9 (d:=.list (Gw o)) ?_ j1.1 x1.ok λv2 g2 s2 x2 r2=>?_
 .exact bn C.toCx [] ⟨rfl,trivial⟩
 refine n7 q1 q2 x2.ok (r1.mono x2.le) r2 C.hu _ _ λv3 g3 s3 x3 r3=>?_
 obtain rfl:=r3.inv
 have F3:=(j1.1.ext x2).ext x3
 refine fi ?_
 show wpAny _ _ _ _ _ _
 refine BoolOp_and (m9 (d:=.bool true) ?_ F3 x3.ok λv4 g4 s4 x4 r4=>?_)
 .refine bn C.toCx [.v (.list ((aN t).map .int)),.o (.bool true)] ⟨rfl,oR C.toCx (ds:=jd 0 5) (outs:=(aN t).map .int) ?_ (by kernel_rfl) (sz (n:=5) (by unfold aN;rw [ab,ab];exact ae _) rfl) λenv1 C1=>?_,Qh (Pl.ints _) (by decide),trivial⟩
  .rw [<-fW (a:=0) rfl]
   exact iQ (n:=5) rfl C.hh (bn C.toCx [] ⟨rfl,trivial⟩) (aJ rfl) (bn C.toCx [] ⟨rfl,trivial⟩) (by decide) (by decide)
  .unfold aN jd
   rw [cO]
   refine Rows.map λi _=>⟨_,rfl,bn C1 [.o (.int ((eN t).take i).sum)] ⟨rfl,?_,Cz ?_,trivial⟩⟩
   .exact sz (n:=5) (by unfold eN;rw [ab,ab,T.len];exact ae _) rfl
   .rw [fL,jM,fa]
 obtain rfl:=r4.inv
 have F4:=F3.ext x4
 refine fi ?_
 show wpAny _ _ _ _ _ _
 refine BoolOp_one (Compare_chain (m9 (d:=.int (dM t j)) ?_ F4 x4.ok λv5 g5 s5 x5 r5=>chain_link (m9 (d:=.int (p:Int)) ?_ (F4.ext x5) x5.ok λv6 g6 s6 x6 r6=>?_)) rfl)
 .exact bn C.toCx [.o (.int (dM t j))] ⟨rfl,gp,trivial⟩
 .exact bn C.toCx [] ⟨rfl,trivial⟩
 refine n7 (op:=.LtE) (b:=true) (P:=[]) (by rw [show ll .LtE (.int (dM t j)) (.int (p:Int))=some (decide (dM t j<=(p:Int)),[]) from rfl,decide_eq_true hp1]) trivial x6.ok (r5.mono x6.le) r6 C.hu _ _ λv7 g7 s7 x7 r7=>?_
 obtain rfl:=r7.inv
 refine fi ?_
 show wpAny _ _ _ _ _ _
 refine chain_last (m9 (d:=.int (dM t j + eu t j)) ?_ (((F4.ext x5).ext x6).ext x7) x7.ok λv8 g8 s8 x8 r8=>?_)
 .exact bn C.toCx [.o (.int (dM t j)),.o (.int (eu t j))] ⟨rfl,gp,gs,trivial⟩
 refine n7 (op:=.Lt) (b:=true) (P:=[]) ?_ trivial x8.ok (r6.mono (x7.le.trans x8.le)) r8 C.hu _ _ λv9 g9 s9 x9 r9=>?_
 .rw [show ll .Lt (.int (p:Int)) (.int (dM t j + eu t j))=some (decide ((p:Int) < dM t j + eu t j),[]) from rfl,decide_eq_true hp2]
 obtain rfl:=r9.inv
 exact .inr ⟨hesc _ g9 s9 C.hs x9.ok,dA x1.same (dA x2.same (dA x3.same (dA x4.same (dA x5.same (dA x6.same (dA x7.same (dA x8.same x9.same)))))))⟩
theorem Dd.keep {r:LmR}{q:Str}{x:Expr}(D:Dd W env q q2 x r):cJ W (.ref r.f):=aA D.fn λo a b=>pi a b
theorem NG:(es6.map pe).all (λn=>dn 309 n)=true:=by kernel_rfl
noncomputable def Pw:List Stmt->Pos
 | .Assign [.Name _ p] _ _ :: _=>p
 | _=>⟨0,0,0,0⟩
noncomputable def PL:List Stmt->Pos
 | .Assign _ (.List _ p) _ :: _=>p
 | _=>⟨0,0,0,0⟩
noncomputable def PZ:List Stmt->Pos
 | .Assign _ _ p :: _=>p
 | _=>⟨0,0,0,0⟩
theorem NZ:(aH 27).drop 32=.Assign [.Name "deeds" (Pw ((aH 27).drop 32))] (.List es6 (PL ((aH 27).drop 32))) (PZ ((aH 27).drop 32)) :: (aH 27).drop 33:=by kernel_rfl
theorem lm {W7:Wd}{ρ0:Rho}{r:LmR}{q:Str}{b:Expr}(B:Based W7 W' env ρ0 g s)(hs:env.scope=bh 27)(D:Dd W' env q q2 (.Lambda args b sc p) r)(hc:(zP sc (bh 27)&&(sc.names.lookup y==some .free&&(bh 27).names.lookup y==some .cell))=true)(hy:look ρ0 y=some d)(hr:∀{v g'},(∀a o,g.obj a=some o->g'.obj a=some o)->Rep W7 g v d->Rep W' g' v d'):∀g' s',Ok W' g' s'->CloOk W' g' s' r.fd (.froz (.bind y d' .nil)):=by
 simp only [ao,beq_iff_eq] at hc
 apply ma (D.is);intro a' b' sc' p' e1 e2 e3 e4 e5
 cases e1
 apply bP (B.fra.cel y (.inl (by unfold bj;rw [hs];exact hc.2.2)));intro c cv i1 i2 i3
 apply aA (i3 _ hy);intro v hq0 rv;subst hq0
 refine kA B hs hc.1 e5 e4 rfl λx d hx=>?_
 simp only [look] at hx
 split at hx
 .rename_i e
  subst e
  (refine eQ hx ?_;clear hx;intro q₁;subst q₁)
  exact ⟨hc.2.1,c,v,i1,i2,λg' hg=>hr (λa o e=>hg a o (B.obj a o e)) rv⟩
 .exact (aK hx).elim
theorem GC {W7:Wd}{ρ0:Rho}{r:LmR}{q:Str}{z:Str}{e e':D}{b:Expr}(B:Based W7 W' env ρ0 g s)(hs:env.scope=bh 27)(D:Dd W' env q q2 (.Lambda args b sc p) r)(hc:(zP sc (bh 27)&&((sc.names.lookup y==some .free&&(bh 27).names.lookup y==some .cell)&&(sc.names.lookup z==some .free&&(bh 27).names.lookup z==some .cell)))=true)(hy:look ρ0 y=some d)(hz:look ρ0 z=some e)(hr:∀{v g'},(∀a o,g.obj a=some o->g'.obj a=some o)->Rep W7 g v d->Rep W' g' v d')(hr2:∀{v g'},(∀a o,g.obj a=some o->g'.obj a=some o)->Rep W7 g v e->Rep W' g' v e'):∀g' s',Ok W' g' s'->CloOk W' g' s' r.fd (.froz (.bind y d' (.bind z e' .nil))):=by
 simp only [ao,beq_iff_eq] at hc
 apply ma (D.is);intro a' b' sc' p' e1 e2 e3 e4 e5
 cases e1
 apply bP (B.fra.cel y (.inl (by unfold bj;rw [hs];exact hc.2.1.2)));intro c cv i1 i2 i3
 apply aA (i3 _ hy);intro v hq0 rv;subst hq0
 apply bP (B.fra.cel z (.inl (by unfold bj;rw [hs];exact hc.2.2.2)));intro c2 cv2 j1 j2 j3
 apply aA (j3 _ hz);intro v2 hq0 rv2;subst hq0
 refine kA B hs hc.1 e5 e4 rfl λx d hx=>?_
 simp only [look] at hx
 split at hx
 .rename_i e
  subst e
  (refine eQ hx ?_;clear hx;intro q₁;subst q₁)
  exact ⟨hc.2.1.1,c,v,i1,i2,λg' hg=>hr (λa o e=>hg a o (B.obj a o e)) rv⟩
 .split at hx
  .rename_i e
   subst e
   (refine eQ hx ?_;clear hx;intro q₁;subst q₁)
   exact ⟨hc.2.2.1,c2,v2,j1,j2,λg' hg=>hr2 (λa o e=>hg a o (B.obj a o e)) rv2⟩
  .exact (aK hx).elim
theorem lq {r:LmR}{q:Str}{x:Expr}{b1:Bool}{b2:Bool}{n:String}(C:EndC W A env)(D:Dd W env q q2 x r)(XC:XF X n b1 b2 b3)(hc:∀env',Room (A.deeper env') 10->(A.deeper env').guards=some []->(A.deeper env').frames=some (env' :: [env])->CallX W (A.deeper env') (env' :: [env]) (.ref r.f) [] [] X msg):CallY W A [env] (.ref 170) [.ref r.f] (HL b1 b2 msg):=
 wU C.prg (C.room.le (by decide)) C.frm XC D.keep λenv'=>hc env' ((C.room.le (by decide):Room A 11).deeper) C.grd (cw C.frm)
theorem Ld (C:LC W A env)(hfr:env.frame=some env.locals)(hA:A.frames=some [env])(hg:A.guards=some [])(hesc:∀sc s,sc=bh 27->(∀a o,W.h₀.get? a=some o->s.heap.get? a=some o)->(∀q∈W.tabs,∃ps,s.heap.get? q.2.1=some (tabObj ps))->W.esc sc (.bool true) s)(h63:ns.length<=63)(hb:intBits (ns.take 60).sum<=2 ^ 21):Blk W A env (KP ns) [] (aH 27) Kn Pr:=by
 refine Im C h63 hb λκ sp' t ln p j o h5 T hj h1 h2 ho=>?_
 refine Kb NZ ?_
 refine Ka (esc:=bh 27) (q:="law.<locals>.<lambda>") (q2:="law.<locals>.<lambda>.<locals>.<lambda>") C.hs C.makes (by rw [C.qual];rfl) (by kernel_rfl) (by rw [show es6.map pe=[309,310,312,314,315,316] by kernel_rfl];decide) (λn hn hm=>?_) (el C.hs rfl) (ac (by kernel_rfl)) λW7 fs K7 d7=>?_
 .rw [C.good.may] at hn
  have h:=ft.mp NG n hm
  have hn':dz n 309=true:=hn
  rw [kQ] at hn'
  exact absurd (ac h) (Nat.not_le.mpr hn')
 refine vZ λW' g s B=>?_
 have hP7:=K7.prg C.good.prg
 have hP:jv W':=λa o e=>B.le a o (hP7 a o (by rw [<-B.w];exact e))
 have E:EndC W' A env:={hs:=C.hs,G:=eX hP,hu:=C.hu,hh:=C.hh,prg:=hP,room:=C.room.le (by decide),grd:=hg,frm:=hA,own:=hfr }
 have hm:∀P n,W'.may P n=true:=λP n=>by rw [B.may];exact K7.may P n
 have he:∀sc g s,sc=bh 27->Ok W' g s->W'.esc sc (.bool true) s:=λsc g s h k=>by
  rw [B.esc,K7.esc]
  exact hesc sc s h (λa o e=>k.baseHeap a o (B.le a o (K7.le a o e))) λq hq=>aA (k.tabs q (B.tabs▸K7.tabs q hq)) λps e _=>⟨ps,e⟩
 have e6:es6=[mv 0,mv 1,mv 2,mv 3,mv 4,mv 5]:=by kernel_rfl
 rw [e6] at d7
 apply nj d7.six;intro x0 x1 x2 x3 x4 x5 hq0 D0 D1 D2 D3 D4 D5;subst hq0
 replace D0:=D0.up B.le B.tabs
 replace D1:=D1.up B.le B.tabs
 replace D2:=D2.up B.le B.tabs
 replace D3:=D3.up B.le B.tabs
 replace D4:=D4.up B.le B.tabs
 replace D5:=D5.up B.le B.tabs
 have pts:∀{v:Value} {g':View},(∀a o,g.obj a=some o->g'.obj a=some o)->Rep W7 g v (.list ((aN t).map .int))->Rep W' g' v (.list ((aN t).map .int)):=λh r=>sO h r
 refine Lc E ho (K9 E T hj h1 h2 rfl ho (Oh ?_ (Oh ?_ (Oh ?_ (Oh ?_ (Oh ?_ (Oh ?_ Qm)))))) he)
 .exact lq E D0 Kz λenv' R' hg' hA'=>O8 (ps:=aN t) hP R' hA' (lm B C.hs D0 (by kernel_rfl) rfl pts) D0
 .exact lq E D1 Kz λenv' R' hg' hA'=>O7 (ps:=aN t) hP R' hA' (lm B C.hs D1 (by kernel_rfl) rfl pts) hm D1
 .exact lq E D2 Kz λenv' R' hg' hA'=>O6 (ps:=aN t) hP R' hA' (lm B C.hs D2 (by kernel_rfl) rfl pts) hm D2
 .exact lq E D3 Kz λenv' R' hg' hA'=>O5 (ps:=aN t) hP R' hA' (lm B C.hs D3 (by kernel_rfl) rfl pts) D3
 .exact lq E D4 Pt λenv' R' hg' hA'=>O4 (ln:=ln) hP R' hA' (lm B C.hs D4 (by kernel_rfl) rfl λ_ r=>r.intE λ_=>.int _ _) D4
 .exact lq E D5 Pu λenv' R' hg' hA'=>O3 h5 (NB ho) (NA ho) (PF ho) hP R' hg' hA' (GC B C.hs D5 (by kernel_rfl) rfl rfl (λ_ r=>r.refE (.ref _)) λh r=>KR h ho r) D5
theorem u5 {R:WRecords}:∀{xs:List WData},WShape.hasItems R xs .int=true->∃ns:List Int,xs=ns.map .int
 | [],_=>⟨[],rfl⟩
 | x :: xs,h=>by
  rw [WShape.hasItems,ao] at h
  obtain ⟨i,rfl⟩:=hasW_int h.1
  obtain ⟨ns,rfl⟩:=u5 h.2
  exact ⟨i :: ns,rfl⟩
theorem HQ {args:List WData}(h:rw0.row.toRowW.claim.pre args=true):∃ns:List Int,args=[.list (ns.map .int)]/\ns.length<=63:=by
 have hx0:=pre_splitW h;have h1:=hx0.1;have h2:=hx0.2
 apply bP (hasAllW_cons h1);intro d r hq0 h3 h4;subst hq0
 obtain rfl:=hasAllW_nil h4
 apply aA (hasW_list h3);intro xs hq0 h5;subst hq0
 obtain ⟨ns,rfl⟩:=u5 h5
 refine ⟨ns,rfl,?_⟩
 have h6:Cf [] (.and (.not (.lt (.lit (.int 63)) (.len (.arg 0)))) (.lit (.bool true))) {args:=[.list (ns.map .int)] }=true:=h2
 refine jq λhlt=>?_
 have e:less? (.int 63) (.int ((ns.map WData.int).length:Int))=some true:=by
  show some (decide ((63:Int) < ((ns.map WData.int).length:Int)))=some true
  rw [ab,decide_eq_true ((qN (cK (.k 63) (.c Y0)) [1]:di [aR (.k 63) Y0]) hlt)]
 have e2:pN [] (.lt (.lit (.int 63)) (.len (.arg 0))) {args:=[.list (ns.map .int)] }=some (.bool true):=by
  show (less? (.int 63) (.int ((ns.map WData.int).length:Int))).map WData.bool=_
  rw [e];rfl
 have e3:pN [] (.and (.not (.lt (.lit (.int 63)) (.len (.arg 0)))) (.lit (.bool true))) {args:=[.list (ns.map .int)] }=some (.bool false):=by
  have e4:pN [] (.not (.lt (.lit (.int 63)) (.len (.arg 0)))) {args:=[.list (ns.map .int)] }=some (.bool false):=by
   rw [pN,e2];rfl
  rw [pN,e4]
 unfold Cf at h6
 rw [e3] at h6
 cases h6
theorem sK:∀ns:List Int,intBits ns.sum<=hO (ns.map .int)
 | []=>by decide
 | n :: ns=>by
  have ih:=sK ns
  rw [rA,aD,hO]
  have h1:intBits n<=B7 (.int n):=by
   rw [B7]
   exact ae _
  exact ai (DI h1 ih) (by lia)
theorem sJ:∀(k:Nat) (ns:List Int),hO ((ns.take k).map .int)<=hO (ns.map .int)
 | 0,ns=>cq _
 | k + 1,[]=>ae _
 | k + 1,n :: ns=>by
  rw [GZ,aD,aD,hO,hO]
  exact fq (sJ k ns) _
theorem HE (h:WData.layableAll [.list (ns.map .int)]=true):intBits (ns.take 60).sum<=2 ^ 21:=by
 simp only [WData.layableAll,WData.layable,lG,List.all_nil,Bool.and_true,ao,decide_eq_true_eq] at h
 have h2:=h.2
 rw [B7] at h2
 exact ai (sK _) (ai (sJ 60 ns) (ai h2 (by decide)))
noncomputable def tabL:List Addr:=[153,73,66,172]
noncomputable def Ln (h:Heap):Heap:=hideAll h tabL
theorem ND (Y:∀P∈tabL,h.get? P=some (tabObj #[]))(e:h.get? a=some o)(hc:bD o=false):a∉tabL:=λhm=>by
 have:=Y a hm
 rw [e] at this;(refine eQ this ?_;clear this;intro q₁;subst q₁);exact (ag hc.symm).elim
theorem Bb (Y:∀P∈tabL,h.get? P=some (tabObj #[]))(e:h.get? a=some o)(hc:bD o=false):(Ln h).get? a=some o:=Af _ e (ND Y e hc)
theorem NC (Y:∀P∈tabL,h.get? P=some (tabObj #[])){m:Str->Option Value}(x:h.Ns a m):(Ln h).Ns a m:=by
 apply aV (x);intro o es ep h1 h2 r
 refine ⟨o,es,ep,Bb Y h1 ?_,h2,r⟩
 unfold bD
 rw [h2]
 cases o.cls<;>rfl
theorem pW {q:Addr×Addr×Str}(h:q∈tabsK):q.2.1∈tabL:=by
 have:tabsK.all (λq=>tabL.contains q.2.1)=true:=by decide
 exact List.contains_iff_mem.mp (ft.mp this q h)
noncomputable def NW (h:Heap)(sc:Scope)(v:Value)(s:Shared):Prop:=sc=bh 27/\v=.bool true/\(∀a o,h.get? a=some o->s.heap.get? a=some o)/\∀q∈tabsK,∃ps,s.heap.get? q.2.1=some (tabObj ps)
noncomputable def N4 (P:Params):Bool:=tabsK.all λq=>codeHdIn (Kf P) q.1 q.2.1
theorem BG (P:Params):N4 P=true:=by kernel_rfl
theorem HJ:(bh 27).names.lookup ("script":Str)=some .local:=by kernel_rfl
theorem F9 (P:Params):((Kf P).all λp=>!bD p.2)=true:=by kernel_rfl
theorem AW {β:Type}:∀{l:List (Addr×β)} {a:Addr} {b:β},l.lookup a=some b->(a,b)∈l
 | (x,y) :: r,a,b,h=>by
  rw [aT] at h
  by_cases e:a=x
  .subst e
   rw [beq_self_eq_true] at h
   (refine eQ h ?_;clear h;intro q₁;subst q₁)
   exact .head _
  .rw [beq_eq_false_iff_ne.mpr e] at h
   exact .tail _ (AW h)
theorem NO {P:Params}(X:(Kf P).In h)(Y:∀P∈tabL,h.get? P=some (tabObj #[])):(Kf P).In (Ln h):=λa o e=>Bb Y (X a o e) (by
 have:=ft.mp (F9 P) _ (AW e)
 simpa using this)
theorem CZ {n:String}(h:o.cls=.type n):bD o=false:=by
 unfold bD;rw [h]
structure World0 (W:Wd)(w:World)(h:Heap)(mg:Str->Option Value):Prop where
 prog:W.prog=rw0.row.toRowW.prog
 wr:W.w=w
 mg:W.mg=mg
 tabs:W.tabs=tabsK
 may:W.may=K5
 esc:W.esc=NW W.h₀
 sub:∀a o,W.h₀.get? a=some o->h.get? a=some o
 keep:∀a o,h.get? a=some o->a∉tabL->W.h₀.get? a=some o
 prg:(Kf w.params).In W.h₀
theorem C8 {mb:Str->Option Value}{p:Program}{loose:List Str}{mean:ExcName->Option Value}(T:Top p loose mean mg mb h)(X:(Kf w.params).In h')(Y:∀P∈tabL,h.get? P=some (tabObj #[]))(sub:∀a o,h'.get? a=some o->h.get? a=some o)(keep:∀a o,h.get? a=some o->a∉tabL->h'.get? a=some o)(no:∀P∈tabL,h'.get? P=none)(hl:h'.objs.size=h.objs.size)(ns:∀{a:Addr} {m:Str->Option Value},h.Ns a m->h'.Ns a m):∃W,World0 W w h mg:=
 ⟨{prog:=rw0.row.toRowW.prog
   w:=w
   h₀:=h'
   mg:=mg
   mb:=mb
   tabs:=tabsK
   may:=K5
   esc:=NW h'
   escLaw:=λsc v s e=>by rw [e.1];exact HJ
   g:=ns T.g
   b:=ns T.b
   nolimit:=aA T.nolimit λmc a b=>⟨mc,ns a,b⟩
   builtins:=T.builtins
   bmain:=n5 T.bmain λbm ob h1 h2 h3 h4 h5 h6=>⟨bm,ob,h1,h2,keep _ _ h3 (ND Y h3 (CZ h4)),h4,h5,h6⟩
   codes:=λq hq=>codeHd_of_K X (ft.mp (BG _) q hq)
   tabNone:=λq hq=>no _ (pW hq)
   tabLt:=λq hq=>by rw [hl];exact aF (Y _ (pW hq))
   tabDist:=by decide },⟨rfl,rfl,rfl,rfl,rfl,rfl,sub,keep,X⟩⟩
theorem FZ {mb:Str->Option Value}{p:Program}{loose:List Str}{mean:ExcName->Option Value}(T:Top p loose mean mg mb h)(X:(Kf w.params).In h)(Y:∀P∈tabL,h.get? P=some (tabObj #[])):
  ∃W,World0 W w h mg:=
 C8 (h':=Ln h) T (NO X Y) Y (λa o e=>CW _ e) (λa o e t=>Af _ e t) (λP hP=>pk _ hP) (hideAll_size _ _) (NC Y)
noncomputable def LL (W:Wd):View:=⟨W.h₀.get?,λ_=>none⟩
theorem Qk (O:World0 W w s.heap mg)(Y:∀P∈tabL,s.heap.get? P=some (tabObj #[])):Ok W (LL W) {s with toks:=s.toks + 1 }:=
 ⟨λa o e=>e,O.sub,λq hq=>⟨#[],Y _ (pW (O.tabs▸hq)),trivial,λpos cv e=>(aK e).elim⟩,λq hq=>W.tabNone q hq,iX _,λt x e=>(aK e).elim⟩
noncomputable def Pi (P:Params)(h:Heap)(v:Value):WData->Prop
 | .int n=>∃t,v=.int n t
 | .list xs=>∃a vs,v=.ref a/\h.get? a=some {cls:=.type "list",data:=.seq vs.toArray }/\WellAll P h vs xs
 | _=>True
theorem Aq {P:Params}{d:WData}(r:Well P h v d):Pi P h v d:=by
 cases r with
 | int i t=>exact ⟨_,rfl⟩
 | list h1 h2=>exact ⟨_,_,rfl,h1,h2⟩
 | _=>trivial
theorem FE {P:Params}:∀{vs:List Value},WellAll P h vs (ns.map .int)->RepAll W g vs (ns.map .int):=by
 induction ns with
 | nil=>intro vs r;cases r;exact .nil
 | cons n ns ih=>
  intro vs r
  cases r with
  | cons a b=>
   obtain ⟨t,rfl⟩:=Aq a
   exact .cons (.int _ _) (ih b)
theorem PC (Y:∀P∈tabL,s.heap.get? P=some (tabObj #[]))(O:World0 W w s.heap mg){P:Params}(r:Well P s.heap v (.list (ns.map .int))):Rep W (LL W) v (.list (ns.map .int)):=by
 apply bP (Aq r);intro a vs hq0 h1 h2;subst hq0
 exact .list (n:=0) (O.keep _ _ h1 (ND Y h1 rfl)) (FE h2)
theorem Lv {M:Model}{globals:Addr}{qual:Str}{func:Option Addr}{code:Value}{builtins:Addr}{Q:Env->Shared->Prop}(hk:scope.kind=.function)(hx:scope.names.lookup x=some .local)(hQ:∀env,env=newEnv scope s.heap.objs.size globals (cellsFrom (s.heap.objs.size + 1) scope.names []) qual func code none builtins->
   ∀h',InCallC s env.locals (λy=>if y=x then some v else none) env.cells (λ_=>none) {s with heap:=h',toks:=s.toks + 1 }->Q env {s with heap:=h',toks:=s.toks + 1 }):
  wpAny M A (newFunctionEnv scope globals [] [(x,v)] qual func code none builtins) Q E s:=by
 simp only [newFunctionEnv,Fh,bX,if_false]
 refine aa (wpAny_alloc ?_)
 refine aa (wpAny_layCells _ (λname kind cells=>by cases hkc:kind==eR<;>simp [hkc]) _ _ _ _ ?_)
 have ok:=cellsFrom_ok scope.names (s.heap.push {cls:=.type "frame",data:=.dict #[] }) (s.heap.objs.size + 1) [] ⟨λ_ _ hm=>(nomatch hm),nD⟩ (by rw [dJ];exact ae _)
 rw [dJ] at ok
 rw [show ({s with heap:=s.heap.push {cls:=.type "frame",data:=.dict #[] } }:Shared).heap.objs.size=s.heap.objs.size + 1 from dJ ..]
 have hns:(pushCells (s.heap.push {cls:=.type "frame",data:=.dict #[] }) scope.names).Ns s.heap.objs.size λ_=>none:=(Heap.Ns.new s.heap (.type "frame")).keeps (pushCells_keeps _ _)
 have keep:∀b o,s.heap.get? b=some o->(pushCells (s.heap.push {cls:=.type "frame",data:=.dict #[] }) scope.names).get? b=some o:=λb o e=>pushCells_keeps _ _ b o (Heap.get?_push_of_some _ e)
 have hkk:∀e:Env,e.scope.kind=.function->(e.scope.kind==.class||(e.scope.kind==.module&&e.locals !=e.globals))=false:=λe h=>by rw [h];rfl
 refine aa ?_
 rw [eS]
 refine aa (aa (wpAny_storeName_local (env:=newEnv scope s.heap.objs.size globals (cellsFrom (s.heap.objs.size + 1) scope.names []) qual func code none builtins) hx hns (λh' hn hs=>aj ?_) (hkk _ hk)))
 dsimp only
 rw [gt]
 refine aj (aj (hQ _ rfl h' ⟨⟨⟨_,_,rfl⟩,hn,λb o e=>hs.extBut b o (bG (aF e)) (keep b o e),ae _⟩,λn c hc=>?_,ok.apart,λn c hm=>(ok.empty n c hm).2⟩))
 exact (ok.empty n c (mem_of_lookup hc)).1.sameBut hs (dN (ok.empty n c (mem_of_lookup hc)).2)
theorem Gs (hroom:A.depth < recursionLimit)(K:Ok W g {s with toks:=s.toks + 1 })(ho:s.heap.get? a=some o)(hd:o.data=.func fd)(hf:FnOk fd)(hclo:fd.closure=[])(hnf:∀x,fd.scope.names.lookup x≠some .free)(hcd:s.heap.CodeRec fd.code fd.qualname)(hbind:BindsTo s fd ⟨[v],[]⟩ [(x,v)])(hloc:fd.scope.names.lookup x=some .local)(r:Rep W g v d)(h:∀env s1,env.scope=fd.scope->env.code=fd.code->env.qual=fd.qualname++".<locals>."->env.frame=some env.locals->Ext W g {s with toks:=s.toks + 1 } g s1->Fra W g s1 env (.bind x d .nil)->
   yq W (A.deeper env) env fd.body Q (Fj W (A.deeper env) env E) s1):wpAny (model W.prog W.w) A (call (.ref a) [v] []) Q E s:=by
 refine sw (args:=⟨[v],[]⟩) hroom ho hd hf hcd hbind ?_
 rw [hclo]
 refine Lv hf.kind hloc λenv he h' X=>?_
 subst he
 have hkeep:=X.toInCall.keep
 have x3:Ext W g {s with toks:=s.toks + 1 } g {s with heap:=h',toks:=s.toks + 1 }:=Ext.kept (s:={s with toks:=s.toks + 1 }) K hkeep (ae _)
 have hL:=X.toInCall.fresh
 have hfresh:∀x c,(cellsFrom (s.heap.objs.size + 1) fd.scope.names []).lookup x=some c->s.heap.objs.size<=c:=λx c e=>cZ (X.above x c (mem_of_lookup e))
 refine ⟨K.nolimit.keeps hkeep,h _ _ rfl rfl rfl rfl x3 {kind:=hf.kind,glo:=hf.glo,bui:=hf.bui,ncd:=hf.ncd,hid:=K.fresh hL,loc:=⟨_,X.toInCall.ns,λy d' e hk=>?_⟩,inj:=λx y c e1 e2=>name_of_addr X.apart (mem_of_lookup e1) (mem_of_lookup e2),liv:=λx c e=>?_,cel:=λy hk=>?_ }⟩
 .by_cases hy:x=y
  .subst hy
   have e':d=d':=by simpa [look] using e
   subst e'
   exact ⟨v,if_pos rfl,r⟩
  .have e':look .nil y=some d':=by simpa [look,hy] using e
   exact (aK e').elim
 .exact ⟨⟨_,X.cell x c e⟩,λ_=>K.fresh (hfresh x c e)⟩
 .have hcell:fd.scope.names.lookup y=some .cell:=by
   rcases hk with hk | hk
   .exact hk
   .exact absurd hk (hnf y)
  obtain ⟨c,hc⟩:=Option.isSome_iff_exists.mp (gf (n:=s.heap.objs.size + 1) (acc:=[]) (.inr (mem_of_lookup hcell)))
  refine ⟨c,_,hc,X.cell y c hc,λd' e=>?_⟩
  by_cases hy:x=y
  .subst hy;rw [hloc] at hcell;cases hcell
  .have e':look .nil y=some d':=by simpa [look,hy] using e
   exact (aK e').elim
theorem fnK_law:FnK 175 27 "law" .none .none jf 174:=⟨λP=>by kernel_rfl,λP=>by kernel_rfl⟩
noncomputable def HW (fd:FuncData)(x:Str):Bool:=fd.scope.kind==.function&&!fd.scope.isCoroutine&&!fd.scope.isGenerator&&fd.globals==mainGlobals&&fd.builtins==builtinsNs&&(fd.scope.names.all λp=>p.2 !=.free)&&fd.closure.isEmpty&&fd.scope.names.lookup x==some .local
theorem CU (h:HW fd x=true):FnOk fd/\fd.closure=[]/\(∀x,fd.scope.names.lookup x≠some .free)/\fd.scope.names.lookup x=some .local:=by
 unfold HW at h
 simp only [ao,beq_iff_eq,dm,ft,bne_iff_ne,ne_eq,my] at h
 have hn0:=h.1;have h8:=h.2;obtain ⟨⟨⟨⟨⟨⟨h1,h2⟩,h3⟩,h4⟩,h5⟩,h6⟩,h7⟩:=hn0
 have hnf:∀x,fd.scope.names.lookup x≠some .free:=λx e=>h6 _ (mem_of_lookup e) rfl
 exact ⟨⟨h1,h2,h3,h4,h5,hnf _⟩,h7,hnf,h8⟩
theorem La:HW (kT 27 "law" .none .none jf 174) "script"=true:=by kernel_rfl
theorem Kh (P:Params)(v:Value):∀S,peek (Kf P) S (bindArgs (kT 27 "law" .none .none jf 174) ⟨[v],[]⟩)=some [(("script":Str),v)]:=λS=>by kernel_rfl
theorem NF (P:Params):Ox P "law"=some (.ref 175):=by kernel_rfl
theorem HR (args:List WData):rw0.row.toRowW.claim.post args (.bool true) args=true:=by
 show Cf [] (.eq .res (.lit (.bool true))) {args:=args,res:=some (.bool true),after:=args }=true
 have e:pN [] (.eq .res (.lit (.bool true))) {args:=args,res:=some (.bool true),after:=args }=some (.bool true):=w_eq_bool (k:=true) (l:=true) (w_res rfl) w_lit
 unfold Cf
 rw [e]
theorem H9:lawD.name="law":=by kernel_rfl
theorem xW:4 + 3 + 20 * 50 + 1000 < cLine:=by unfold cLine;decide
theorem K8 (hP:jv W)(ht:W.tabs=tabsK)(hm:W.may=K5)(he:W.esc=NW W.h₀)(K:Ok W g {s with toks:=s.toks + 1 })(r:Rep W g v (.list (ns.map .int)))(h63:ns.length<=63)(hb:intBits (ns.take 60).sum<=2 ^ 21)(hQ:∀s',(∀a o,W.h₀.get? a=some o->s'.heap.get? a=some o)->(∀q∈tabsK,∃ps,s'.heap.get? q.2.1=some (tabObj ps))->s'={s with heap:=s'.heap,toks:=s'.toks }->Q (.bool true) s'):
  wpAny (model W.prog W.w) callerA (call (.ref 175) [v] []) Q E s:=by
 have base:∀a o,W.h₀.get? a=some o->s.heap.get? a=some o:=λa o e=>K.baseHeap a o e
 have hx0:=CU La;have t1:=hx0.1;have t2:=hx0.2.1;have t3:=hx0.2.2.1;have t4:=hx0.2.2.2
 refine Gs (by decide) K (base _ _ (hP 175 _ (fnK_law.obj _))) rfl t1 t2 t3 ((fnK_law.codeRec hP).keeps base) (wL (K:=Kf W.w.params) (λa o e=>base _ _ (hP a o e)) (Kh _ v)) t4 r λenv s1 e1 e2 e3 e4 x1 F=>?_
 have hs:env.scope=bh 27:=e1
 have C:LC W (callerA.deeper env) env:={hs:=hs,G:=eX hP,hu:=by have:=xW;show 4 + 3 + 100 < cLine;exact (qN (aR (.k 107) Y0) [1]:di [aR (.k 2007) Y0]) this,hh:=rfl,good:=⟨hP,ht,hm⟩,room:=⟨by show 1 + claimMargin + 1 + 50 < 900;decide,xW,rfl⟩,code:=e2,qual:=e3 }
 have B:=Ld (Kn:=λ_ _=>False) (Pr:=λ_ _=>False) C e4 rfl rfl (λsc s h b t=>by rw [he];exact ⟨h,rfl,b,ht▸t⟩) h63 hb
 show wpAny _ _ (execs (aH 27) env) _ _ s1
 refine aI (B.run g s1 F x1.ok .nil _) (λf s' q=>?_) λ_ _ e=>e
 cases f with
 | next=>apply ij (q);intro _ _ _ _ _ _ h;exact h.elim
 | ret u=>
  rcases q with ⟨_,_,_,_,_,_,h⟩ | ⟨h,e⟩
  .exact h.elim
  .rw [he] at h
   have hq0:=h.2.1;have h2:=h.2.2.1;have h3:=h.2.2.2;subst hq0
   exact hQ s' h2 h3 (by rw [e,x1.same])
 | cont=>exact q.elim
 | brk=>exact q.elim
theorem tH (O:World0 W w h mg)(Y:∀P∈tabL,h.get? P=some (tabObj #[])){q:Addr×Addr×Str}(hq:q∈tabsK):isCodeTable h q.2.1:=by
 obtain ⟨o,r⟩:=W.codes q (O.tabs▸hq)
 apply Bq (r);intro vs f tf fl tg b n tt e1 r
 exact (CodeHd.tab (c:=q.1) ⟨o,vs,f,tf,fl,tg,b,n,tt,O.sub _ _ e1,r⟩ (Y _ (pW hq))).isCodeTable
theorem KG {P:Addr}(h:P∈tabL):∃q∈tabsK,q.2.1=P:=by
 have:tabL.all (λP=>tabsK.any λq=>q.2.1==P)=true:=by decide
 apply aA (List.any_eq_true.mp (ft.mp this P h));intro q hq e
 exact ⟨q,hq,beq_iff_eq.mp e⟩
theorem Lb (O:World0 W w h mg)(Y:∀P∈tabL,h.get? P=some (tabObj #[]))(h1:∀a o,W.h₀.get? a=some o->h'.get? a=some o)(h2:∀q∈tabsK,∃ps,h'.get? q.2.1=some (tabObj ps)):OldK h h':=by
 have at':∀b o,h.get? b=some o->(b∉tabL/\h'.get? b=some o)\/(∃q∈tabsK,q.2.1=b):=λb o e=>by
  by_cases hb:b∈tabL
  .exact .inr (KG hb)
  .exact .inl ⟨hb,h1 b o (O.keep b o e hb)⟩
 refine ⟨λb o e=>?_,λb o e=>?_⟩
 .rcases at' b o e with ⟨_,h3⟩ | ⟨q,hq,rfl⟩
  .exact .inl h3
  .obtain ⟨ps,hp⟩:=h2 q hq
   have:=Y _ (pW hq)
   rw [e] at this;(refine eQ this ?_;clear this;intro q₁;subst q₁)
   exact .inr (.inl ⟨tH O Y hq,rfl,#[],ps,rfl,by rw [Array.empty_append];exact hp⟩)
 .rcases at' b o e with ⟨_,h3⟩ | ⟨q,hq,rfl⟩
  .exact ⟨o,h3⟩
  .obtain ⟨ps,hp⟩:=h2 q hq
   exact ⟨_,hp⟩
theorem Il:WalkO Qv lT (XL Qv []) Hk.says rw0.row.toRowW lawD [] λf vs=>PySem.call f vs:=by
 intro w s₀ s₁ mg mb G Y a o pm cd doc dV kV ho hod hcd hdf hmg hgens args vals as hpre hlay hr hw hsys
 apply aA (HQ hpre);intro ns hq0 h63;subst hq0
 cases hw with | cons hw1 hw2=>
 cases hw2
 have X:=km_in_of Y
 have Yt:∀P∈tabL,s₁.heap.get? P=some (tabObj #[]):=km_tabs_of Y
 obtain ⟨W,O⟩:=FZ G.T X Yt
 obtain rfl:=O.wr
 have hP:jv W:=O.prg
 have ha:a=175:=by
  rw [H9,<-O.mg,Ic hP,NF] at hmg
  cases hmg;rfl
 subst ha
 have h:=K8 hP O.tabs O.may O.esc (Qk O Yt) (PC Yt O hw1) h63 (HE hlay) (E:=λe s'=>GoodWG rw0.row.toRowW.claim (classAt s₀.heap) (ExcName.means s₀.heap) [.list (ns.map .int)] s₁ (.error e) s')
  (Q:=λv s'=>GoodWG rw0.row.toRowW.claim (classAt s₀.heap) (ExcName.means s₀.heap) [.list (ns.map .int)] s₁ (.ok (.ret v)) s') λs' h1 h2 e=>?_
 .rw [O.prog] at h
  exact h
 .refine ⟨.inl ⟨.bool true,.bool true,[],rfl,λ_=>rfl,.bool true,HR _,λ_=>⟨ym,λa h=>(nomatch h)⟩⟩,Lb O Yt h1 h2,by rw [e],?_⟩
  rw [e]
  exact AllBare.of_eq hgens
theorem law_holds:rw0.Holds:=hd Il
end Mine.Internal
theorem PySem.Challenge.cw_ta0075_01_holds : PySem.Challenge.rw_ta0075_01.Holds :=
 Mine.Internal.law_holds
