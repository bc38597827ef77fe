import PyProof.Rows.All
import Wide.All
import OpenK.AllK
import Wide.FinOn
import Lean
import PySem.Challenge.RW_pk0032_02
set_option tactic.hygienic false
set_option backward.match.sparseCases false
set_option bootstrap.genMatcherCode false
set_option genInjectivity false
set_option genSizeOf false
set_option Elab.async false
set_option maxRecDepth 100000
set_option maxHeartbeats 8000000
set_option linter.all false
noncomputable section
open Array renaming getD_eq_getD_getElem?->Z9,getElem?_eq_getElem->Z0,getElem?_eq_some_iff->ZZ,getElem?_toList->ZY,size_setIfInBounds->ZX,toList_append->ZW
open Bool renaming and_eq_true->ZV,and_eq_true_iff->ZU,and_false->ZT,eq_false_iff->ZS,eq_iff_iff->ZR,false_eq_true->ZQ,false_ne_true->ZP,noConfusion->ZO,not_eq_true'->ZN,not_true->ZM,or_eq_true->ZL
open Classical renaming byContradiction->ZK
open ForInStep renaming yield->ZJ
open Int renaming add_zero->ZI,fmod_eq_emod_of_nonneg->ZH,le_of_eq->ZG,le_trans->ZF,lt_of_le_of_lt->ZE,natCast_nonneg->ZC,ofNat_le->ZA,toNat_natCast->Zz,toNat_of_nonneg->Zy,zero_add->Zx
open List renaming all_eq_true->Zw,append_assoc->Zv,append_nil->Zu,cons_append->Zt,contains_iff_mem->Zs,count_eq_zero->Zr,dropWhile_append_of_pos->Zq,dropWhile_cons->Zp,drop_drop->Zo,drop_eq_getElem_cons->Zn,drop_zero->Zm,ext_getElem?->Zl,extract_eq_take_drop->Zk,filterMap_cons->Zj,filter_cons->Zi,flatMap_append->Zh,flatMap_cons->Zg,flatten_cons->Zf,getD_eq_getElem?_getD->Ze,getElem?_append_left->Zd,getElem?_append_right->Zc,getElem?_cons_zero->Zb,getElem?_drop->Za,getElem?_eq_getElem->Y9,getElem?_eq_none->Y8,getElem?_eq_some_iff->Y7,getElem?_map->YZ,getElem?_range->YY,getElem?_toArray->YX,idxOf_lt_length_of_mem->YW,isPrefixOf->YV,length->YU,length_append->YT,length_cons->YS,length_drop->YR,length_eq_zero_iff->YQ,length_filter_le->YO,length_map->YN,length_nil->YM,length_range->YL,length_replicate->YK,length_reverse->YJ,length_singleton->YI,length_take->YH,lookup->YG,lookup_cons->YF,map_append->YE,map_congr_left->YD,map_cons->YC,map_map->YB,map_reverse->YA,mem_append->Yz,mem_append_left->Yy,mem_append_right->Yx,mem_cons->Yw,mem_cons_of_mem->Yv,mem_cons_self->Yu,mem_filter->Yt,mem_iff_getElem->Ys,mem_map->Yr,mem_nil_iff->Yq,mem_of_find?_eq_some->Yp,mem_of_getElem?->Yo,mem_of_mem_drop->Yn,mem_of_mem_take->Ym,mem_range->Yl,mem_replicate->Yk,mem_reverse->Yj,mem_singleton->Yi,nil_append->Yh,pairwise_append->Yg,pairwise_cons->Ye,pairwise_reverse->Yd,range->Yc,range'->Yb,replicate->X0,replicate_succ->XZ,replicate_zero->XY,reverse_append->XX,reverse_reverse->XW,singleton_append->XU,sizeOf_lt_of_mem->XT,size_toArray->XS,sum_cons->XR,take_append_drop->XQ,take_of_length_le->XO,take_succ_cons->XN,toArray->XM
open Nat renaming add_assoc->XK,add_comm->XJ,add_sub_cancel_left->XI,add_zero->XH,div_add_mod->XG,le_add_right->XF,le_of_succ_le->XE,le_refl->Xz,le_trans->Xy,lt_irrefl->Xx,lt_of_le_of_lt->Xw,lt_of_lt_of_le->Xv,lt_succ_of_lt->Xu,lt_succ_self->Xs,lt_trans->Xr,mod_eq_of_lt->Xq,mod_lt->Xp,mul_div_cancel_left->Xo,not_lt_zero->Xn,succ_pos->Xm,zero_add->Xl,zero_le->Xk
open Ne renaming symm->Xj
open Option renaming bind_eq_some_iff->Xi,bind_some->Xh,map_eq_some_iff->Xg,map_some->Xf,none->Xe,some->Xd
open Option.some renaming inj->Xc,injEq->Xb
open Or renaming elim->Xa
open Prod.mk renaming inj->W9
open PySem renaming Addr->W8,Around->W6,Builtin->WY,Comprehension->WI,Env->WH,Fin->WB,Flow->WA,Heap->Wz,IsPart->Wn,NameKind->Wh,Program->Wf,PyData->We,Result->V6,Scope->V5,Sem->V0,Shared->VY,Slot->VX,Stmt->VW,Str->VV,Value->VO,bm_if_false->VJ,builtinLookup_eq_fast->VI,call->VH,codeAny_builtin->VG,entryFor_of_tree->VF,getMethod_builtin->VE,intText?->VD,isSubtype_type->VC,model->VB,plainId_quiet->VA,signature?_of->Vz,typeIs_str->Vy,typeLookup_type->Vx,wpAny->Vw,wpAny_Constant_int->Vv,wpAny_Constant_str->Vu,wpAny_bind->Vt,wpAny_callSpecial?_slot->Vs,wpAny_call_entry->Vr,wpAny_field->Vq,wpAny_holding->Vp,wpAny_load->Vo,wpAny_loadPart'->Vn,wpAny_newObj_type->Vm,wpAny_of_eq->Vl,wpAny_pure->Vk,wpAny_specialOf->Vj,wpAny_truthy_bool->Vi
open PySem.Around renaming under_plainId->W4
open PySem.AutoSeq1 renaming sub_list_list->WZ
open PySem.Builtin.Bytes renaming buffer?->WX,byteValue->WW,exported->WV,fitsIndex->WU,payload->WT,sliced->WS,slotIsOwn->WR,subscript?->WQ,write->WO
open PySem.Builtin.List renaming listTooLong->WN
open PySem.Builtin.Range renaming rangeSize->WM
open PySem.Calls renaming Name_function_global->WL,docDef->WK
open PySem.Challenge renaming rw_pk0032_02->WJ
open PySem.F renaming slot_int_index->WE,slot_list_lt->WD,slot_tuple_iterator_next->WC
open PySem.Heap renaming ExtBut->Wy,NewExc->Wx,SameBut->Ww,get?_push_of_some->Wu,get?_push_size->Wt,get?_update_other->Ws,get?_update_self->Wr,lt_size->Wq,size_push->Wo
open PySem.Heap.SameBut renaming update->Wv
open PySem.MeetsSeq renaming plain_index_loop->Wm,plain_remove_loop->Wl
open PySem.MeetsSeq3 renaming entry_eq_loop->Wk,plain_eq_loop->Wj
open PySem.NameKind renaming free->Wg
open PySem.PyData renaming canLayAll0->Wc,depthAll->Wb,eqv->Wa,eqvAll->V9,strOk->V8
open PySem.Sem renaming wp_mono->VZ
open PySem.Str renaming join->VU,length->VT
open PySem.StrLaws renaming glued_eq_join->VS
open PySem.Txt renaming replace->VR,strip->VQ
open PySem.Unicode renaming isSpace->VP
open PySem.Value renaming none->VN,ref->VM
open PySem.W renaming typeIs_bytes->VK
open PySem.W.FB renaming slot_bytes_getitem->VL
namespace Mine.Internal
noncomputable def Vh:=@if_pos
noncomputable def Vg:=@if_neg
noncomputable def Vf:=@beq_eq_false_iff_ne
noncomputable def Ve:=@congrArg
noncomputable def Vd:=@beq_iff_eq
noncomputable def Vc:=@decide_eq_true_eq
noncomputable def Vb:=@decide_eq_true
noncomputable def Va:=@decide_eq_false
noncomputable def U9:=@of_decide_eq_true
noncomputable def U8:=@inferInstance
namespace Z
set_option genCtorIdx false in
inductive T
 |v (i:Nat)|j (i:Nat)|n (k:Nat)|a (x y:T)|s (x y:T)|m (k:Nat) (x:T)|w (x:T) (k:Nat)|g (x:T)|c (x:T)|t (x:T)|u (x y:T)|d (x y:T)
set_option genCtorIdx false in
inductive P
 |l (b:Bool) (x y:T)|e (b:Bool) (x y:T)|q (b:Bool) (x y:T)|f|b (p:P)|c (p r:P)|o (p r:P)
noncomputable abbrev L:=List Int
noncomputable def atN(l:List Nat):Nat->Nat:= @List.rec Nat (λy=>Nat->Nat) (λy=>0) (λx y ih i=> @Nat.rec (λy=>Nat) x (λj y=>ih j) i) l
noncomputable def OH(l:List Int):Nat->Int:= @List.rec Int (λy=>Nat->Int) (λy=>0) (λx y ih i=> @Nat.rec (λy=>Int) x (λj y=>ih j) i) l
noncomputable def T.den(ρ:List Nat)(σ:List Int)(t:T):Nat×Int:= @T.rec (λz=>Nat×Int) (λi=>(atN ρ i,0)) (λi=>(0,OH σ i)) (λk=>(k,.ofNat k)) (λz z x y=>(x.1+y.1,x.2+y.2)) (λz z x y=>(x.1-y.1,x.2-y.2)) (λk z x=>(k*x.1,(k:Int)*x.2)) (λz k x=>(x.1*k,x.2*(k:Int))) (λz x=>(0,-x.2)) (λz x=>(0,(x.1:Int))) (λz x=>(x.2.toNat,0)) (λz z x y=>(max x.1 y.1,max x.2 y.2)) (λz z x y=>(min x.1 y.1,min x.2 y.2)) t
noncomputable def P.den(ρ:List Nat)(σ:List Int)(p:P):Prop:= @P.rec (λz=>Prop) (λb x y=> @Bool.rec (λz=>Prop) ((x.den ρ σ).1<(y.den ρ σ).1) ((x.den ρ σ).2<(y.den ρ σ).2) b) (λb x y=> @Bool.rec (λz=>Prop) ((x.den ρ σ).1<=(y.den ρ σ).1) ((x.den ρ σ).2<=(y.den ρ σ).2) b) (λb x y=> @Bool.rec (λz=>Prop) ((x.den ρ σ).1=(y.den ρ σ).1) ((x.den ρ σ).2=(y.den ρ σ).2) b) False (λz p=>¬p) (λz z p r=>p/\r) (λz z p r=>p\/r) p
noncomputable def add(x:L):L->L:= @List.rec Int (λz=>L->L) (λy=>y) (λi x ih y=> @List.rec Int (λz=>L) (i::x) (λj y z=>(i+j)::ih y) y) x
noncomputable def mul(k:Int)(x:L):L:= @List.rec Int (λy=>L) [] (λi y ih=>k*i::ih) x
noncomputable def ev(x:L):(Nat->Int)->Int:= @List.rec Int (λy=>(Nat->Int)->Int) (λy=>0) (λi y ih ρ=>i*ρ 0+ih λn=>ρ (n+1)) x
noncomputable def unit(i:Nat):L:= @Nat.rec (λx=>L) [1] (λx u=>0::u) i
theorem yj(x:L):∀(y:L)(ρ:Nat->Int),ev (add x y) ρ=ev x ρ+ev y ρ:=by
 induction x with
 |nil=>exactλy ρ=>(Zx _).symm
 |cons i x ih=>intro y ρ;induction y with|nil=>exact(ZI _).symm|cons j y=>show(i+j)*ρ 0+ev (add x y) _=(i*ρ 0+ev x _)+(j*ρ 0+ev y _);rw[ih y,Int.add_mul,Int.add_assoc,Int.add_assoc,Int.add_left_comm (j*ρ 0)]
theorem ng(k:Int)(x:L):∀(ρ:Nat->Int),ev (mul k x) ρ=k*ev x ρ:=by induction x with|nil=>exactλρ=>(Int.mul_zero _).symm|cons i x ih=>exactλρ=>(Ve (k*i*ρ 0+·) (ih _)).trans ((Ve (·+_) (Int.mul_assoc ..)).trans (Int.mul_add ..).symm)
theorem yi(i:Nat):∀(ρ:Nat->Int),ev (unit i) ρ=ρ i:=by induction i with|zero=>exactλρ=>(ZI _).trans (Int.one_mul _)|succ i ih=>exactλρ=>(Ve (0*ρ 0+·) (ih _)).trans ((Ve (·+_) (Int.zero_mul _)).trans (Zx _))
noncomputable def sub(x y:L):L:=add x (mul (-1) y)
noncomputable def dec(x:L):L:=add x [-1]
noncomputable def all(r:List Nat)(σ:List Int):L:= @List.rec Nat (λy=>L) σ (λx y ih=>(x:Int)::ih) r
noncomputable def ag(r:List Nat)(σ:List Int)(i:Nat):Int:= @Nat.rec (λx=>Int) 1 (λi x=>OH (all r σ) i) i
theorem Zcf(r:List Nat):∀{i:Nat},Nat.blt i r.length=true->OH (all r σ) i=(atN r i:Nat):=by
 induction r with
 |nil=>exactλh=>nomatch h
 |cons x r ih=>intro i;induction i with
  |zero=>exactλy=>rfl|succ i=>exactλh=>ih (i:=i) h
theorem Zce(r:List Nat):OH (all r σ) (r.length+j)=OH σ j:=by induction r with|nil=>exact Ve (OH σ) (Xl j)|cons x r ih=>exact(Ve (OH (all (x::r) σ)) (Nat.succ_add r.length j)).trans ih
noncomputable def H(ρ:Nat->Int)(cs:List L):Prop:= @List.rec L (λx=>Prop) True (λc x ih=>0<=ev c ρ/\ih) cs
section
variable {ρ:Nat->Int} {r:List Nat} {σ:List Int} {R:Prop}
theorem pP(x y:L):ev (sub x y) ρ=ev x ρ-ev y ρ:=(yj ..).trans ((Ve (_+·) (ng ..)).trans ((Ve (_+·) (Int.neg_one_mul _)).trans Int.sub_eq_add_neg.symm))
theorem Jg(x:L):ev (dec x) (ag r σ)=ev x (ag r σ)-1:=yj ..
theorem Hc:0<=ev c ρ->H ρ cs->H ρ (c::cs):=And.intro
noncomputable def val(b:Bool)(p:Nat×Int):Int:= @Bool.rec (λx=>Int) (p.1:Int) p.2 b
abbrev K:=L->List L->Bool
noncomputable abbrev fork(x y:Bool):Bool:= @Bool.rec (λz=>Bool) false y x
theorem lN(h:fork x y=true):x=true:=by cases x;exact h;rfl
theorem lM(h:fork x y=true):y=true:=by cases x;exact nomatch h;exact h
noncomputable def bi(x y:Bool->List L->K->Bool)(b:Bool)(cs:List L)(k:L->L->List L->Bool):Bool:=x b cs λX cs=>y b cs λY cs=>k X Y cs
noncomputable def tm(N:Nat)(t:T):Bool->List L->K->Bool:= @T.rec (λz=>Bool->List L->K->Bool) (λi b cs k=> @Bool.rec (λz=>Bool) (fork (Nat.blt i N) (k (0::unit i) cs)) false b) (λi b cs k=> @Bool.rec (λz=>Bool) false (k (0::unit (N+i)) cs) b) (λc z cs k=>k [.ofNat c] cs) (λz z x y b cs k=>bi x y b cs λX Y cs=>k (add X Y) cs) (λz z x y b cs k=>bi x y b cs λX Y cs=> @Bool.rec (λz=>Bool) (fork (k (sub X Y) (sub X Y::cs)) (k [] (dec (sub Y X)::cs))) (k (sub X Y) cs) b) (λc z x b cs k=>x b cs λX cs=>k (mul (.ofNat c) X) cs) (λz c x b cs k=>x b cs λX cs=>k (mul (.ofNat c) X) cs) (λz x b cs k=>fork b (x true cs λX cs=>k (mul (-1) X) cs)) (λz x b cs k=>fork b (x false cs k)) (λz x b cs k=> @Bool.rec (λz=>Bool) (x true cs λX cs=>fork (k X (X::cs)) (k [] (dec (mul (-1) X)::cs))) false b) (λz z x y b cs k=>bi x y b cs λX Y cs=>fork (k Y (sub Y X::cs)) (k X (sub X Y::cs))) (λz z x y b cs k=>bi x y b cs λX Y cs=>fork (k X (sub Y X::cs)) (k Y (sub X Y::cs))) t
def Ok(r:List Nat)(σ:List Int)(f:Bool->List L->K->Bool)(v:Nat×Int):Prop:=∀{R:Prop}(b:Bool)(cs:List L)(k:K),H (ag r σ) cs->f b cs k=true->(∀X JA,H (ag r σ) JA->ev X (ag r σ)=val b v->k X JA=true->R)->R
theorem nonneg(hx:ev X ρ=a)(hy:ev Y ρ=b)(h:a<=b):0<=ev (sub Y X) ρ:=pP Y X▸hx▸hy▸Int.sub_nonneg_of_le h
theorem pos(hx:ev X (ag r σ)=a)(hy:ev Y (ag r σ)=b)(h:a<b):0<=ev (dec (sub Y X)) (ag r σ):=Jg (r:=r) (σ:=σ) (sub Y X)▸pP (ρ:=ag r σ) Y X▸hx▸hy▸Int.le_sub_one_of_lt (Int.sub_pos_of_lt h)
theorem A4(hx:Ok r σ f v)(hy:Ok r σ g w)(h:H (ag r σ) cs)(e:bi f g b cs k=true)(q:∀X Y JA,H (ag r σ) JA->ev X (ag r σ)=val b v->ev Y (ag r σ)=val b w->k X Y JA=true->R):R:=hx b cs _ h e λX cs h e1 e=>hy b cs _ h e λY cs h e2 e=>q X Y cs h e1 e2 e
theorem NA(t:T):Ok r σ (tm r.length t) (t.den r σ):=by
 induction t with
 |v i=>intro _ b cs k h e g;cases b with|false=>exact g _ _ h ((Ve (0*1+·) (yi ..)).trans ((Zx _).trans (Zcf r (lN e)))) (lM e)|true=>exact nomatch e
 |j i=>intro _ b cs k h e g;cases b with|true=>exact g _ _ h ((Ve (0*1+·) (yi ..)).trans ((Zx _).trans (Zce r))) e|false=>exact nomatch e
 |n c=>exactλ{_}b cs k h e g=>g _ _ h ((ZI _).trans ((Int.mul_one _).trans (by cases b<;>rfl))) e
 |a x y hx hy=>exactλ{_}b cs k h e g=>A4 hx hy h e λX Y cs h e1 e2 e=>g _ _ h ((yj ..).trans (by rw[e1,e2];cases b<;>rfl)) e
 |s x y hx hy=>
   intro _ b cs k h e g;refine A4 hx hy h e λX Y cs h e1 e2 e=>?_;have es:=pP (ρ:=ag r σ) X Y;cases b with
   |true=>exact g _ _ h (es.trans (by rw[e1,e2];rfl)) e
   |false=>
    rcases Nat.lt_or_ge (x.den r σ).1 (y.den r σ).1 with l|l
    ·exact g [] _ (Hc (pos e1 e2 (Int.ofNat_lt.mpr l)) h) (Ve Int.ofNat (Nat.sub_eq_zero_of_le (Nat.le_of_lt l)).symm) (lM e)
    ·exact g _ _ (Hc (nonneg e2 e1 (ZA.mpr l)) h) (es.trans (by rw[e1,e2];exact(Int.ofNat_sub l).symm)) (lN e)
 |m c x hx=>exactλ{_}b cs k h e g=>hx b cs _ h e λX cs h e1 e=>g _ _ h ((ng ..).trans (by rw[e1];cases b<;>rfl)) e
 |w x c hx=>exactλ{_}b cs k h e g=>hx b cs _ h e λX cs h e1 e=>g _ _ h ((ng ..).trans ((Int.mul_comm ..).trans (by rw[e1];cases b<;>rfl))) e
 |g x hx=>intro _ b cs k h e g;cases b with|true=>exact hx true cs _ h e λX cs h e1 e=>g _ _ h ((ng ..).trans ((Int.neg_one_mul _).trans (Ve Int.neg e1))) e|false=>exact nomatch e
 |c x hx=>intro _ b cs k h e g;cases b with|true=>exact hx false cs _ h e λX cs h e1 e=>g _ _ h e1 e|false=>exact nomatch e
 |t x hx=>
   intro _ b cs k h e g;cases b with
   |true=>exact nomatch e
   |false=>
    refine hx true cs _ h e λX cs h e1 e=>?_;rcases Int.lt_or_le (x.den r σ).2 0 with l|l
    ·exact g [] _ (Hc (by rw[Jg,ng,e1,Int.neg_one_mul];exact Int.le_sub_one_of_lt (Int.neg_pos_of_neg l)) h) (Ve Int.ofNat (Int.toNat_of_nonpos (Int.le_of_lt l)).symm) (lM e)
    ·exact g _ _ (Hc (e1▸l) h) (e1.trans (Zy l).symm) (lN e)
 |u x y hx hy=>
   intro _ b cs k h e g;refine A4 hx hy h e λX Y cs h e1 e2 e=>?_;rcases Int.le_total (val b (x.den r σ)) (val b (y.den r σ))with l|l
   ·exact g _ _ (Hc (nonneg e1 e2 l) h) (e2.trans (by cases b;exact Ve Int.ofNat (Nat.max_eq_right (ZA.mp l)).symm;exact(Int.max_eq_right l).symm)) (lN e)
   ·exact g _ _ (Hc (nonneg e2 e1 l) h) (e1.trans (by cases b;exact Ve Int.ofNat (Nat.max_eq_left (ZA.mp l)).symm;exact(Int.max_eq_left l).symm)) (lM e)
 |d x y hx hy=>
   intro _ b cs k h e g;refine A4 hx hy h e λX Y cs h e1 e2 e=>?_;rcases Int.le_total (val b (x.den r σ)) (val b (y.den r σ))with l|l
   ·exact g _ _ (Hc (nonneg e1 e2 l) h) (e1.trans (by cases b;exact Ve Int.ofNat (Nat.min_eq_left (ZA.mp l)).symm;exact(Int.min_eq_left l).symm)) (lN e)
   ·exact g _ _ (Hc (nonneg e2 e1 l) h) (e2.trans (by cases b;exact Ve Int.ofNat (Nat.min_eq_right (ZA.mp l)).symm;exact(Int.min_eq_right l).symm)) (lM e)
noncomputable def two(N:Nat)(b:Bool)(x y:T)(cs:List L)(k:L->L->List L->Bool):Bool:=bi (tm N x) (tm N y) b cs λX Y cs=>k (sub X Y) (sub Y X) cs
noncomputable def pr(N:Nat)(p:P):Bool->List L->(List L->Bool)->Bool:= @P.rec (λz=>Bool->List L->(List L->Bool)->Bool) (λb x y s cs k=>two N b x y cs λD D' cs=>k (@Bool.rec (λz=>L) D (dec D') s::cs)) (λb x y s cs k=>two N b x y cs λD D' cs=>k (@Bool.rec (λz=>L) (dec D) D' s::cs)) (λb x y s cs k=>two N b x y cs λD D' cs=> @Bool.rec (λz=>Bool) (fork (k (dec D::cs)) (k (dec D'::cs))) (k (D::D'::cs)) s) (λs cs k=> @Bool.rec (λz=>Bool) (k cs) true s) (λz p s cs k=>p (!s) cs k) (λz z p r s cs k=> @Bool.rec (λz=>Bool) (fork (p false cs k) (r false cs k)) (p true cs λcs=>r true cs k) s) (λz z p r s cs k=> @Bool.rec (λz=>Bool) (p false cs λcs=>r false cs k) (fork (p true cs k) (r true cs k)) s) p
theorem Bn(h:H (ag r σ) cs)(e:two r.length b x y cs k=true)(g:∀X Y JA,H (ag r σ) JA->ev X (ag r σ)=val b (x.den r σ)->ev Y (ag r σ)=val b (y.den r σ)->k (sub X Y) (sub Y X) JA=true->R):R:=A4 (NA x) (NA y) h e λX Y cs h e1 e2 e=>g _ _ cs h e1 e2 e
theorem NW:∀(b:Bool),(P.l b x y).den r σ↔val b (x.den r σ)<val b (y.den r σ)|false=>Int.ofNat_lt.symm|true=>.rfl
theorem Oz:∀(b:Bool),(P.e b x y).den r σ↔val b (x.den r σ)<=val b (y.den r σ)|false=>ZA.symm|true=>.rfl
theorem NF:∀(b:Bool),(P.q b x y).den r σ↔val b (x.den r σ)=val b (y.den r σ)|false=>Int.ofNat_inj.symm|true=>.rfl
noncomputable def is(s:Bool)(p:Prop):Prop:= @Bool.rec (λx=>Prop) (¬p) p s
theorem NH(p:P):∀{R:Prop}(s:Bool)(cs:List L)(k:List L->Bool),H (ag r σ) cs->is s (p.den r σ)->pr r.length p s cs k=true->(∀JA,H (ag r σ) JA->k JA=true->R)->R:=by
 induction p with
 |l b x y=>intro _ s cs k h i e g;refine Bn (k:=λD D' cs=>k (@Bool.rec (λu=>L) D (dec D') s::cs)) h e λX Y cs h e1 e2 e=>?_;cases s with|true=>exact g _ (Hc (pos e1 e2 ((NW b).mp i)) h) e|false=>exact g _ (Hc (nonneg e2 e1 (Int.not_lt.mp λz=>i ((NW b).mpr z))) h) e
 |e b x y=>intro _ s cs k h i e g;refine Bn (k:=λD D' cs=>k (@Bool.rec (λu=>L) (dec D) D' s::cs)) h e λX Y cs h e1 e2 e=>?_;cases s with|true=>exact g _ (Hc (nonneg e1 e2 ((Oz b).mp i)) h) e|false=>exact g _ (Hc (pos e2 e1 (Int.not_le.mp λz=>i ((Oz b).mpr z))) h) e
 |q b x y=>
  intro _ s cs k h i e g;refine Bn (k:=λD D' cs=> @Bool.rec (λu=>Bool) (fork (k (dec D::cs)) (k (dec D'::cs))) (k (D::D'::cs)) s) h e λX Y cs h e1 e2 e=>?_;cases s with
  |true=>have l:=(NF b).mp i;exact g _ (Hc (nonneg e2 e1 (ZG l.symm)) (Hc (nonneg e1 e2 (ZG l)) h)) e
  |false=>
   rcases Int.lt_or_gt_of_ne λz=>i ((NF b).mpr z)with l|l
   ·exact g _ (Hc (pos e1 e2 l) h) (lM e)
   ·exact g _ (Hc (pos e2 e1 l) h) (lN e)
 |f=>intro _ s cs k h i e g;cases s with|true=>exact i.elim|false=>exact g cs h e
 |b p hp=>intro _ s cs k h i e g;cases s with|true=>exact hp false cs k h i e g|false=>exact hp true cs k h (ZK i) e g
 |c p q hp hq=>intro _ s cs k h i e g;cases s with|true=>exact hp true cs _ h (And.left i) e λcs h e=>hq true cs k h (And.right i) e g|false=>exact Classical.byCases (λz=>hq false cs k h (λy=>i ⟨z,y⟩) (lM e) g) λz=>hp false cs k h z (lN e) g
 |o p q hp hq=>intro _ s cs k h i e g;cases s with|true=>exact Xa i (λi=>hp true cs k h i (lN e) g) λi=>hq true cs k h i (lM e) g|false=>exact hp false cs _ h (λz=>i (.inl z)) e λcs h e=>hq false cs k h (λz=>i (.inr z)) e g
noncomputable def hd(c:L):Int:= @List.rec Int (λx=>Int) 0 (λi x x=>i) c
noncomputable def tl(c:L):L:= @List.rec Int (λx=>L) [] (λx t x=>t) c
noncomputable def sg(i:Int):Nat:= @Int.rec (λx=>Nat) (λn=> @Nat.rec (λx=>Nat) 0 (λx x=>1) n) (λx=>2) i
noncomputable def Jn(c:L):L:=hd c::tl (tl c)
noncomputable def comb(a b:L):L:=Jn (add (mul (-hd (tl b)) a) (mul (hd (tl a)) b))
noncomputable def pick(k:Nat)(cs:List L):List L:= @List.rec L (λx=>List L) [] (λc x ih=> @Bool.rec (λx=>List L) ih (c::ih) (Nat.beq (sg (hd (tl c))) k)) cs
noncomputable def OD(p:L)(aY ns:List L):List L:= @List.rec L (λx=>List L) aY (λn x ih=>comb p n::ih) ns
noncomputable def JG(ns aY ps:List L):List L:= @List.rec L (λx=>List L) aY (λp x ih=>OD p ih ns) ps
noncomputable def drops(cs:List L):List L:= @List.rec L (λx=>List L) [] (λc x ih=>Jn c::ih) cs
noncomputable def bad(cs:List L):Bool:= @List.rec L (λx=>Bool) false (λc x ih=> @List.rec Int (λx=>Bool) (@Int.rec (λx=>Bool) (λx=>ih) (λx=>true) (hd c)) (λx x x=>ih) (tl c)) cs
noncomputable def fm(f:Nat):List L->Bool:= @Nat.rec (λx=>List L->Bool) bad (λx ih cs=>ih (JG (pick 2 cs) (drops (pick 0 cs)) (pick 1 cs))) f
theorem QZ(h1:ρ 0=1)(cs:List L):H ρ cs->bad cs=true->False:=by
 induction cs with
 |nil=>exactλx e=>nomatch e
 |cons c cs ih=>
  intro h e;cases c with
  |nil=>exact ih h.2 e
  |cons i c=>
   cases c with
   |cons j c=>exact ih h.2 e
   |nil=>cases i with|ofNat n=>exact ih h.2 e|negSucc n=>have h:0<=Int.negSucc n*ρ 0+0:=h.1;rw[h1,ZI,Int.mul_one]at h;exact nomatch h
noncomputable def nx(ρ:Nat->Int)(n:Nat):Int:= @Nat.rec (λx=>Int) 1 (λn x=>ρ (n+2)) n
theorem ev3(h1:ρ 0=1)(c:L):ev c ρ=ev (Jn c) (nx ρ)+hd (tl c)*ρ 1:=by
 cases c with
 |nil=>exact Ve ((0:Int)+·) (Int.zero_mul (ρ 1)).symm
 |cons i c=>show i*ρ 0+_=_;rw[h1];cases c with|nil=>exact(ZI _).symm.trans (Ve (i*1+0+·) (Int.zero_mul (ρ 1)).symm)|cons j c=>exact(Ve (i*1+·) (Int.add_comm ..)).trans (Int.add_assoc ..).symm
theorem PY(x y:L):hd (tl (add x y))=hd (tl x)+hd (tl y):=by
 cases x with
 |nil=>exact(Zx _).symm
 |cons i x=>cases y with
  |nil=>exact(ZI _).symm
  |cons j y=>cases x with
   |nil=>exact(Zx _).symm
   |cons k x=>cases y with
    |nil=>exact(ZI _).symm|cons l y=>rfl
theorem ID(k:Int)(x:L):hd (tl (mul k x))=k*hd (tl x):=by
 cases x with
 |nil=>exact(Int.mul_zero k).symm
 |cons i x=>cases x with
  |nil=>exact(Int.mul_zero k).symm|cons j x=>rfl
theorem MQ(h1:ρ 0=1)(ha:0<=ev a ρ)(hb:0<=ev b ρ)(p:0<=hd (tl a))(n:hd (tl b)<=0):0<=ev (comb a b) (nx ρ):=by have h:=Int.add_nonneg (Int.mul_nonneg (Int.neg_nonneg_of_nonpos n) ha) (Int.mul_nonneg p hb);rw[<-ng,<-ng,<-yj,ev3 h1,PY,ID,ID,Int.neg_mul,Int.mul_comm (hd (tl b)),Int.add_left_neg,Int.zero_mul,ZI]at h;exact h
noncomputable def Hs(ρ:Nat->Int)(k:Nat)(cs:List L):Prop:= @List.rec L (λx=>Prop) True (λc x ih=>(0<=ev c ρ/\sg (hd (tl c))=k)/\ih) cs
theorem xq(k:Nat)(cs:List L):H ρ cs->Hs ρ k (pick k cs):=by
 induction cs with
 |nil=>exactλx=>trivial
 |cons c cs ih=>intro h;show Hs ρ k (@Bool.rec (λx=>List L) (pick k cs) (c::pick k cs) (Nat.beq (sg (hd (tl c))) k));cases e:Nat.beq (sg (hd (tl c))) k with|false=>exact ih h.2|true=>exact⟨⟨h.1,Nat.eq_of_beq_eq_true e⟩,ih h.2⟩
theorem sg0:∀{i:Int},sg i=0->i=0| .ofNat 0,_=>rfl| .ofNat (_+1),e=>nomatch e| .negSucc _,e=>nomatch e
theorem sg1:∀{i:Int},sg i=1->0<=i| .ofNat n,_=>ZC n| .negSucc _,e=>nomatch e
theorem sg2:∀{i:Int},sg i=2->i<=0| .ofNat 0,e=>nomatch e| .ofNat (_+1),e=>nomatch e| .negSucc n,_=>Int.le_of_lt (Int.negSucc_lt_zero n)
theorem Jm(h1:ρ 0=1)(cs:List L):Hs ρ 0 cs->H (nx ρ) (drops cs):=by induction cs with|nil=>exactλx=>trivial|cons c cs ih=>intro h;have e:=h.1.1;rw[ev3 h1,sg0 h.1.2,Int.zero_mul,ZI]at e;exact⟨e,ih h.2⟩
theorem JH(h1:ρ 0=1)(hp:0<=ev p ρ)(hs:0<=hd (tl p))(ha:H (nx ρ) aY)(ns:List L):Hs ρ 2 ns->H (nx ρ) (OD p aY ns):=by induction ns with|nil=>exactλx=>ha|cons c cs ih=>exactλh=>⟨MQ h1 hp h.1.1 hs (sg2 h.1.2),ih h.2⟩
theorem F9(h1:ρ 0=1)(hn:Hs ρ 2 ns)(ha:H (nx ρ) aY)(ps:List L):Hs ρ 1 ps->H (nx ρ) (JG ns aY ps):=by induction ps with|nil=>exactλx=>ha|cons c cs ih=>exactλh=>JH h1 h.1.1 (sg1 h.1.2) (ih h.2) ns hn
theorem US(f:Nat):∀(ρ:Nat->Int)(cs:List L),ρ 0=1->H ρ cs->fm f cs=true->False:=by induction f with|zero=>exactλρ cs h1 h e=>QZ h1 cs h e|succ f ih=>exactλρ cs h1 h e=>ih (nx ρ) _ rfl (F9 h1 (xq 2 cs h) (Jm h1 _ (xq 0 cs h)) _ (xq 1 cs h)) e
noncomputable def nn(n:Nat):List L:= @Nat.rec (λx=>List L) [] (λi ih=>(0::unit i)::ih) n
theorem Zas(r:List Nat):∀(i:Nat),i<r.length->0<=OH (all r σ) i:=by
 induction r with
 |nil=>exactλy h=>nomatch h
 |cons x r ih=>intro i;cases i with
  |zero=>exactλy=>ZC x|succ i=>exactλh=>ih i (Nat.lt_of_succ_lt_succ h)
theorem S8(n:Nat):n<=r.length->H (ag r σ) (nn n):=by induction n with|zero=>exactλx=>trivial|succ i ih=>exactλl=>⟨ZF (Zas r i l) (ZG ((Ve (0*1+·) (yi ..)).trans (Zx _)).symm),ih (XE l)⟩
noncomputable def run(N n:Nat)(p:P)(ps:List P):List L->Bool:= @List.rec P (λx=>P->List L->Bool) (λp cs=>pr N p false cs (fm n)) (λq x ih p cs=>pr N p true cs (ih q)) ps p
noncomputable def den(r:List Nat)(σ:List Int)(p:P)(ps:List P):Prop:= @List.rec P (λx=>P->Prop) (λp=>p.den r σ) (λq x ih p=>p.den r σ->ih q) ps p
theorem xd(n:Nat)(ps:List P):∀(p:P)(cs:List L),H (ag r σ) cs->run r.length n p ps cs=true->den r σ p ps:=by induction ps with|nil=>exactλp cs h e=>ZK λhn=>NH p false cs _ h hn e λcs h e=>US n _ cs rfl h e|cons q ps ih=>exactλp cs h e hp=>NH p true cs _ h hp e λcs h e=>ih q cs h e
noncomputable def sel{α:Type}(o:α)(l:List α):Nat->α:= @List.rec α (λy=>Nat->α) (λy=>o) (λx y ih i=> @Nat.rec (λy=>α) x (λj y=>ih j) i) l
noncomputable abbrev Rd(α:Type):=Nat->α×Nat
noncomputable def one{α β:Type}(f:Rd α)(c:α->β):Rd β:=λk=>(c (f k).1,(f k).2)
noncomputable def both{α β:Type}(f:Rd α)(c:α->α->β):Rd β:=λk=>(c (f k).1 (f (f k).2).1,(f (f k).2).2)
noncomputable def lit(n:Nat):Rd Nat:=λk=>(k%n,k/n)
noncomputable def rT(f:Nat):Rd T:= @Nat.rec (λx=>Rd T) (λk=>(.n 0,k)) (λx r k=> @Bool.rec (λx=>T×Nat) (sel (λk=>(.n 0,k)) [λk=>(.n 0,k),λk=>(.n 1,k),one (lit 256) .n,both r .a,both r .s,λk=>one r (.m (k%256)) (k/256),λk=>one r (.w · (k%256)) (k/256),λk=> @Bool.rec (λx=>T×Nat) (sel (λk=>(.n 0,k)) [one (lit 4294967296) .n,one r .g,one r .c,one r .t,both r .u,both r .d] (k%16-8) (k/16)) (.j (k%16),k/16) (Nat.blt (k%16) 8)] (k%16-8) (k/16)) (.v (k%16),k/16) (Nat.blt (k%16) 8)) f
noncomputable def rP(f:Nat):Rd P:= @Nat.rec (λx=>Rd P) (λk=>(.f,k)) (λx r k=>(λt=>sel (λk=>(.f,k)) [both t (.l false),both t (.e false),both t (.q false),one r .b,both r .c,both r .o,λk=>(.f,k),both t (.l true),both t (.e true),both t (.q true)] (k%16) (k/16)) (rT 20)) f
noncomputable def rL(n:Nat):Nat->List P:= @Nat.rec (λx=>Nat->List P) (λx=>[]) (λx ih k=>(rP 20 k).1::ih (rP 20 k).2) n
noncomputable def p1(k:Nat):P:=(rP 20 (k/16)).1
noncomputable def ps(k:Nat):List P:=rL (k%16-1) (rP 20 (k/16)).2
noncomputable def ck(N M k:Nat):Bool:=run N (N+M) (p1 k) (ps k) (nn N)
noncomputable def dn(r:List Nat)(σ:List Int)(k:Nat):Prop:=den r σ (p1 k) (ps k)
theorem Kh(r:List Nat)(σ:List Int)(h:ck r.length σ.length k=true):dn r σ k:=xd _ _ _ _ (S8 _ (Xz _)) h
noncomputable def dz(N M:Nat)(r:List Nat)(σ:List Int)(k:Nat):Prop:= @Bool.rec (λx=>Prop) True (dn r σ k) (ck N M k)
theorem lz(r:List Nat)(σ:List Int):dz r.length σ.length r σ k:=by unfold dz;generalize e:ck r.length σ.length k=b;exact @Bool.rec (λb=>ck r.length σ.length k=b-> @Bool.rec (λx=>Prop) True (dn r σ k) b) (λe=>trivial) (λe=>Kh r σ e) b e
end
end Z
section
open Z
theorem aZ(k:Nat):dz 1 0 [a] [] k:=lz [a] []
theorem aO(k:Nat):dz 2 0 [a,b] [] k:=lz [a,b] []
theorem bj(k:Nat):dz 3 0 [a,b,c] [] k:=lz [a,b,c] []
theorem eg(k:Nat)(h:ck 4 0 k=true):dn [a,b,c,d] [] k:=Kh _ _ h
theorem uv(k:Nat)(h:ck 5 0 k=true):dn [a,b,c,d,e] [] k:=Kh _ _ h
theorem Bc(k:Nat)(h:ck 6 0 k=true):dn [a,b,c,d,e,f] [] k:=Kh _ _ h
theorem zA7(k:Nat)(h:ck 7 0 k=true):dn [a,b,c,d,e,f,g] [] k:=Kh _ _ h
theorem Rh(k:Nat)(h:ck 8 0 k=true):dn [a,b,c,d,e,f,g,i] [] k:=Kh _ _ h
theorem yW(k:Nat):dz 0 1 [] [a] k:=lz [] [a]
theorem Rg(k:Nat):dz 0 2 [] [a,b] k:=lz [] [a,b]
theorem zB3(k:Nat)(h:ck 0 3 k=true):dn [] [a,b,c] k:=Kh _ _ h
theorem Nu(k:Nat)(h:ck 1 1 k=true):dn [a] [x] k:=Kh _ _ h
theorem zC2(k:Nat)(h:ck 2 1 k=true):dn [a,b] [x] k:=Kh _ _ h
theorem zC3(k:Nat)(h:ck 3 1 k=true):dn [a,b,c] [x] k:=Kh _ _ h
end
section
universe u0 u1 u2 u3 u4 u5 u6
theorem aU{p0 p1:Prop}{G:Prop}(h:p0/\p1)(f:p0->p1->G):G:=f h.1 h.2
theorem aI{gn:Sort u0}{p0:gn->Prop}{G:Prop}(h:∃a0,p0 a0)(f:∀a0,p0 a0->G):G:=h.elim f
theorem bD{p0 p1 p2:Prop}{G:Prop}(h:p0/\p1/\p2)(f:p0->p1->p2->G):G:=f h.1 h.2.1 h.2.2
theorem av{gn:Sort u0}{p0 p1:gn->Prop}{G:Prop}(h:∃a0,p0 a0/\p1 a0)(f:∀a0,p0 a0->p1 a0->G):G:=h.elim λa h=>aU h (f a)
theorem kK{gn:Sort u0}{jf:Sort u1}{p0:gn->jf->Prop}{G:Prop}(h:∃a0 a1,p0 a0 a1)(f:∀a0 a1,p0 a0 a1->G):G:=h.elim λa h=>aI h (f a)
theorem nE{p0 p1 p2 p3:Prop}{G:Prop}(h:p0/\p1/\p2/\p3)(f:p0->p1->p2->p3->G):G:=f h.1 h.2.1 h.2.2.1 h.2.2.2
theorem dE{gn:Sort u0}{p0 p1 p2:gn->Prop}{G:Prop}(h:∃a0,p0 a0/\p1 a0/\p2 a0)(f:∀a0,p0 a0->p1 a0->p2 a0->G):G:=h.elim λa h=>bD h (f a)
theorem eT{gn:Sort u0}{jf:Sort u1}{p0 p1:gn->jf->Prop}{G:Prop}(h:∃a0 a1,p0 a0 a1/\p1 a0 a1)(f:∀a0 a1,p0 a0 a1->p1 a0 a1->G):G:=h.elim λa h=>av h (f a)
theorem mr{gn:Sort u0}{jf:Sort u1}{nB:Sort u2}{p0:gn->jf->nB->Prop}{G:Prop}(h:∃a0 a1 a2,p0 a0 a1 a2)(f:∀a0 a1 a2,p0 a0 a1 a2->G):G:=h.elim λa h=>kK h (f a)
theorem rQ{p0 p1 p2 p3 p4:Prop}{G:Prop}(h:p0/\p1/\p2/\p3/\p4)(f:p0->p1->p2->p3->p4->G):G:=f h.1 h.2.1 h.2.2.1 h.2.2.2.1 h.2.2.2.2
theorem yY{gn:Sort u0}{p0 p1 p2 p3:gn->Prop}{G:Prop}(h:∃a0,p0 a0/\p1 a0/\p2 a0/\p3 a0)(f:∀a0,p0 a0->p1 a0->p2 a0->p3 a0->G):G:=h.elim λa h=>nE h (f a)
theorem er{gn:Sort u0}{jf:Sort u1}{p0 p1 p2:gn->jf->Prop}{G:Prop}(h:∃a0 a1,p0 a0 a1/\p1 a0 a1/\p2 a0 a1)(f:∀a0 a1,p0 a0 a1->p1 a0 a1->p2 a0 a1->G):G:=h.elim λa h=>dE h (f a)
theorem kJ{gn:Sort u0}{jf:Sort u1}{nB:Sort u2}{p0 p1:gn->jf->nB->Prop}{G:Prop}(h:∃a0 a1 a2,p0 a0 a1 a2/\p1 a0 a1 a2)(f:∀a0 a1 a2,p0 a0 a1 a2->p1 a0 a1 a2->G):G:=h.elim λa h=>eT h (f a)
theorem OR{gn:Sort u0}{jf:Sort u1}{nB:Sort u2}{wJ:Sort u3}{p0:gn->jf->nB->wJ->Prop}{G:Prop}(h:∃a0 a1 a2 a3,p0 a0 a1 a2 a3)(f:∀a0 a1 a2 a3,p0 a0 a1 a2 a3->G):G:=h.elim λa h=>mr h (f a)
theorem ED{p0 p1 p2 p3 p4 p5:Prop}{G:Prop}(h:p0/\p1/\p2/\p3/\p4/\p5)(f:p0->p1->p2->p3->p4->p5->G):G:=f h.1 h.2.1 h.2.2.1 h.2.2.2.1 h.2.2.2.2.1 h.2.2.2.2.2
theorem uw{gn:Sort u0}{p0 p1 p2 p3 p4:gn->Prop}{G:Prop}(h:∃a0,p0 a0/\p1 a0/\p2 a0/\p3 a0/\p4 a0)(f:∀a0,p0 a0->p1 a0->p2 a0->p3 a0->p4 a0->G):G:=h.elim λa h=>rQ h (f a)
theorem wL{gn:Sort u0}{jf:Sort u1}{p0 p1 p2 p3:gn->jf->Prop}{G:Prop}(h:∃a0 a1,p0 a0 a1/\p1 a0 a1/\p2 a0 a1/\p3 a0 a1)(f:∀a0 a1,p0 a0 a1->p1 a0 a1->p2 a0 a1->p3 a0 a1->G):G:=h.elim λa h=>yY h (f a)
theorem qP{gn:Sort u0}{jf:Sort u1}{nB:Sort u2}{p0 p1 p2:gn->jf->nB->Prop}{G:Prop}(h:∃a0 a1 a2,p0 a0 a1 a2/\p1 a0 a1 a2/\p2 a0 a1 a2)(f:∀a0 a1 a2,p0 a0 a1 a2->p1 a0 a1 a2->p2 a0 a1 a2->G):G:=h.elim λa h=>er h (f a)
theorem RQ{gn:Sort u0}{jf:Sort u1}{nB:Sort u2}{wJ:Sort u3}{p0 p1:gn->jf->nB->wJ->Prop}{G:Prop}(h:∃a0 a1 a2 a3,p0 a0 a1 a2 a3/\p1 a0 a1 a2 a3)(f:∀a0 a1 a2 a3,p0 a0 a1 a2 a3->p1 a0 a1 a2 a3->G):G:=h.elim λa h=>kJ h (f a)
theorem Kq{gn:Sort u0}{jf:Sort u1}{nB:Sort u2}{wJ:Sort u3}{GO:Sort u4}{p0:gn->jf->nB->wJ->GO->Prop}{G:Prop}(h:∃a0 a1 a2 a3 a4,p0 a0 a1 a2 a3 a4)(f:∀a0 a1 a2 a3 a4,p0 a0 a1 a2 a3 a4->G):G:=h.elim λa h=>OR h (f a)
theorem GQ{p0 p1 p2 p3 p4 p5 p6:Prop}{G:Prop}(h:p0/\p1/\p2/\p3/\p4/\p5/\p6)(f:p0->p1->p2->p3->p4->p5->p6->G):G:=f h.1 h.2.1 h.2.2.1 h.2.2.2.1 h.2.2.2.2.1 h.2.2.2.2.2.1 h.2.2.2.2.2.2
theorem GP{gn:Sort u0}{p0 p1 p2 p3 p4 p5:gn->Prop}{G:Prop}(h:∃a0,p0 a0/\p1 a0/\p2 a0/\p3 a0/\p4 a0/\p5 a0)(f:∀a0,p0 a0->p1 a0->p2 a0->p3 a0->p4 a0->p5 a0->G):G:=h.elim λa h=>ED h (f a)
theorem EC{gn:Sort u0}{jf:Sort u1}{p0 p1 p2 p3 p4:gn->jf->Prop}{G:Prop}(h:∃a0 a1,p0 a0 a1/\p1 a0 a1/\p2 a0 a1/\p3 a0 a1/\p4 a0 a1)(f:∀a0 a1,p0 a0 a1->p1 a0 a1->p2 a0 a1->p3 a0 a1->p4 a0 a1->G):G:=h.elim λa h=>uw h (f a)
theorem jg{gn:Sort u0}{jf:Sort u1}{nB:Sort u2}{p0 p1 p2 p3:gn->jf->nB->Prop}{G:Prop}(h:∃a0 a1 a2,p0 a0 a1 a2/\p1 a0 a1 a2/\p2 a0 a1 a2/\p3 a0 a1 a2)(f:∀a0 a1 a2,p0 a0 a1 a2->p1 a0 a1 a2->p2 a0 a1 a2->p3 a0 a1 a2->G):G:=h.elim λa h=>wL h (f a)
theorem mq{gn:Sort u0}{jf:Sort u1}{nB:Sort u2}{wJ:Sort u3}{p0 p1 p2:gn->jf->nB->wJ->Prop}{G:Prop}(h:∃a0 a1 a2 a3,p0 a0 a1 a2 a3/\p1 a0 a1 a2 a3/\p2 a0 a1 a2 a3)(f:∀a0 a1 a2 a3,p0 a0 a1 a2 a3->p1 a0 a1 a2 a3->p2 a0 a1 a2 a3->G):G:=h.elim λa h=>qP h (f a)
theorem ZaF{gn:Sort u0}{jf:Sort u1}{nB:Sort u2}{wJ:Sort u3}{GO:Sort u4}{p0 p1:gn->jf->nB->wJ->GO->Prop}{G:Prop}(h:∃a0 a1 a2 a3 a4,p0 a0 a1 a2 a3 a4/\p1 a0 a1 a2 a3 a4)(f:∀a0 a1 a2 a3 a4,p0 a0 a1 a2 a3 a4->p1 a0 a1 a2 a3 a4->G):G:=h.elim λa h=>RQ h (f a)
theorem ZaE{gn:Sort u0}{jf:Sort u1}{nB:Sort u2}{wJ:Sort u3}{GO:Sort u4}{RN:Sort u5}{p0:gn->jf->nB->wJ->GO->RN->Prop}{G:Prop}(h:∃a0 a1 a2 a3 a4 a5,p0 a0 a1 a2 a3 a4 a5)(f:∀a0 a1 a2 a3 a4 a5,p0 a0 a1 a2 a3 a4 a5->G):G:=h.elim λa h=>Kq h (f a)
theorem ZaD{p0 p1 p2 p3 p4 p5 p6 p7:Prop}{G:Prop}(h:p0/\p1/\p2/\p3/\p4/\p5/\p6/\p7)(f:p0->p1->p2->p3->p4->p5->p6->p7->G):G:=f h.1 h.2.1 h.2.2.1 h.2.2.2.1 h.2.2.2.2.1 h.2.2.2.2.2.1 h.2.2.2.2.2.2.1 h.2.2.2.2.2.2.2
theorem EB{gn:Sort u0}{jf:Sort u1}{p0 p1 p2 p3 p4 p5:gn->jf->Prop}{G:Prop}(h:∃a0 a1,p0 a0 a1/\p1 a0 a1/\p2 a0 a1/\p3 a0 a1/\p4 a0 a1/\p5 a0 a1)(f:∀a0 a1,p0 a0 a1->p1 a0 a1->p2 a0 a1->p3 a0 a1->p4 a0 a1->p5 a0 a1->G):G:=h.elim λa h=>GP h (f a)
theorem EA{gn:Sort u0}{jf:Sort u1}{nB:Sort u2}{p0 p1 p2 p3 p4:gn->jf->nB->Prop}{G:Prop}(h:∃a0 a1 a2,p0 a0 a1 a2/\p1 a0 a1 a2/\p2 a0 a1 a2/\p3 a0 a1 a2/\p4 a0 a1 a2)(f:∀a0 a1 a2,p0 a0 a1 a2->p1 a0 a1 a2->p2 a0 a1 a2->p3 a0 a1 a2->p4 a0 a1 a2->G):G:=h.elim λa h=>EC h (f a)
theorem de{gn:Sort u0}{jf:Sort u1}{nB:Sort u2}{wJ:Sort u3}{p0 p1 p2 p3:gn->jf->nB->wJ->Prop}{G:Prop}(h:∃a0 a1 a2 a3,p0 a0 a1 a2 a3/\p1 a0 a1 a2 a3/\p2 a0 a1 a2 a3/\p3 a0 a1 a2 a3)(f:∀a0 a1 a2 a3,p0 a0 a1 a2 a3->p1 a0 a1 a2 a3->p2 a0 a1 a2 a3->p3 a0 a1 a2 a3->G):G:=h.elim λa h=>jg h (f a)
theorem OQ{gn:Sort u0}{jf:Sort u1}{nB:Sort u2}{wJ:Sort u3}{GO:Sort u4}{p0 p1 p2:gn->jf->nB->wJ->GO->Prop}{G:Prop}(h:∃a0 a1 a2 a3 a4,p0 a0 a1 a2 a3 a4/\p1 a0 a1 a2 a3 a4/\p2 a0 a1 a2 a3 a4)(f:∀a0 a1 a2 a3 a4,p0 a0 a1 a2 a3 a4->p1 a0 a1 a2 a3 a4->p2 a0 a1 a2 a3 a4->G):G:=h.elim λa h=>mq h (f a)
theorem yX{gn:Sort u0}{jf:Sort u1}{nB:Sort u2}{wJ:Sort u3}{GO:Sort u4}{RN:Sort u5}{p0 p1:gn->jf->nB->wJ->GO->RN->Prop}{G:Prop}(h:∃a0 a1 a2 a3 a4 a5,p0 a0 a1 a2 a3 a4 a5/\p1 a0 a1 a2 a3 a4 a5)(f:∀a0 a1 a2 a3 a4 a5,p0 a0 a1 a2 a3 a4 a5->p1 a0 a1 a2 a3 a4 a5->G):G:=h.elim λa h=>ZaF h (f a)
theorem OP{gn:Sort u0}{jf:Sort u1}{nB:Sort u2}{wJ:Sort u3}{GO:Sort u4}{RN:Sort u5}{α6:Sort u6}{p0:gn->jf->nB->wJ->GO->RN->α6->Prop}{G:Prop}(h:∃a0 a1 a2 a3 a4 a5 a6,p0 a0 a1 a2 a3 a4 a5 a6)(f:∀a0 a1 a2 a3 a4 a5 a6,p0 a0 a1 a2 a3 a4 a5 a6->G):G:=h.elim λa h=>ZaE h (f a)
@[elab_as_elim] theorem xR {α:Sort u0} {a b:α} {P:α->Prop} (h:a=b) (k:P b):P a:=h.symm▸k
@[elab_as_elim] theorem xL {α:Sort u0} {a b:α} {P:α->Prop} (h:b=a) (k:P b):P a:=h▸k
theorem xP6{a b c d e g:Type}{P:a×b×c×d×e×g->Prop}(f:∀x y z u v w,P (x,y,z,u,v,w)):∀x,P x:=λx=>f x.1 x.2.1 x.2.2.1 x.2.2.2.1 x.2.2.2.2.1 x.2.2.2.2.2
@[elab_as_elim] theorem len0 {α:Type} {P:List α->Prop} {l:List α} (h:l.length=0) (f:P []):P l:=by
 induction l with
 |nil=>exact f
 |cons a l=>exact nomatch h
@[elab_as_elim] theorem pD {α:Type} {P:List α->Prop} {l:List α} {n:Nat} (h:l.length=n+1) (f:∀a r,r.length=n->P (a::r)):P l:=by
 induction l with
 |nil=>exact nomatch h
 |cons a l=>exact f a l (Nat.succ.inj h)
@[elab_as_elim] theorem Zbp {α:Type} {P:List α->Prop} {l:List α} (h:l.length=1) (f:∀a,P [a]):P l:=pD h λa r h=>len0 h (f a)
theorem Ow{α:Type}{l:List α}(h:l.length=1):∃a,l=[a]:=pD h λa r h=>len0 h ⟨a,rfl⟩
theorem RG{α:Type}{l:List α}(h:l.length=2):∃a b,l=[a,b]:=pD h λa r h=>(Ow h).elim λb e=>⟨a,b,e▸rfl⟩
end
open PySem PySem.W PyProof.Rows
noncomputable def So:VO->Option W8| .ref a=>Xd a|_=>Xe
def yr(K:Frag)(f:VV):Bool:=(((nsIn K mainGlobals f).bind λo=>o.bind So).bind λa=>(K.lookup a).bind λo=>if o.cls=.none then Xe else Xd ()).isSome
noncomputable def tF(h:Wz)(l:List W8):Frag:=List.rec [] (λa _ r=>(h.get? a).elim r λo=>(a,o)::r) l
theorem FU(h:Wz):∀l:List W8,Frag.In (tF h l) h:=by
 intro l;induction l with
 |nil=>exactλb o e=>nomatch e
 |cons a l ih=>
  intro b o e;have e:((h.get? a).elim (tF h l) λo=>(a,o)::tF h l).lookup b=Xd o:=e;rcases k:h.get? a with _|o'
  ·rw[k]at e;exact ih b o e
  rw[k]at e;replace e:((a,o')::tF h l).lookup b=Xd o:=e;rw[YF]at e;rcases g:b==a with _|_
  ·rw[g]at e;exact ih b o e
  ·rw[g]at e;rw[beq_iff_eq.mp g,k];exact e
noncomputable def hookAt{β:Type}(l:List W8)(see:Frag->β)(val:World->β):Hook:=⟨β,λs=>see (tF s.heap l),val,λw h=>∃K:Frag,K.In h/\see K=val w,λw s x=>⟨_,FU s.heap l,x⟩,λw h h' y k=>y.elim λK z=>⟨K,λa o e=>k a o (z.1 a o e),z.2⟩⟩
namespace Re
noncomputable def code:Array Nat:= #[14,4,0,1,4294967295,17,0,7,14,24,10,1,4294967295,13,5,22,48,57,0,1,15,17,15,13,11,9,0,26624,2147483648,0,0,0,0,0,0,15,2,0,17,1,1]
end Re
noncomputable def gE{α:Type}(n:Nonempty α)(P:α->Prop):α:= @Classical.epsilon α n λx=>¬P x
theorem lP{α:Type}(n:Nonempty α){P:α->Prop}(h:P (gE n P))(x:α):P x:=ZK λhx=> @Classical.epsilon_spec α (λx=>¬P x) ⟨x,hx⟩ h
theorem bT{α β:Type}(h:Nonempty α)(k:Nonempty β):Nonempty (α×β):=h.elim λa=>k.elim λb=>⟨(a,b)⟩
theorem pA:Nonempty VY:=⟨{}⟩
theorem rB:Nonempty W6:=⟨{}⟩
theorem GB:Nonempty World:=⟨⟨λ_ _=>0,{strHash:=λ_=>0,shareClass:=λ_=>0,mergeTok:=λx=>x,idOf:=λ_=>0,idOfShared:=λ_ _=>0,followText:=λ_=>false,idOfImm:=λ_=>0}⟩⟩
theorem neM:Nonempty Model:=GB.elim λw=>⟨VB default w⟩
@[elab_as_elim] theorem xA1 {α:Type} {P:α->Prop} (n:Nonempty α) (h:P (gE n P)) (x):P x:=lP n h x
abbrev K3{α β γ:Type}(P:α->β->γ->Prop)(t:((α×β)×γ)):Prop:=P t.1.1 t.1.2 t.2
@[elab_as_elim] theorem xA3 {α β γ:Type} {P:α->β->γ->Prop} (n:Nonempty ((α×β)×γ)) (h:K3 P (gE n (K3 P))) (x0 x1 x2):P x0 x1 x2:=lP n h ((x0,x1),x2)
abbrev K5{α β γ δ ε:Type}(P:α->β->γ->δ->ε->Prop)(t:(((α×β)×γ)×(δ×ε))):Prop:=P t.1.1.1 t.1.1.2 t.1.2 t.2.1 t.2.2
@[elab_as_elim] theorem xA5 {α β γ δ ε:Type} {P:α->β->γ->δ->ε->Prop} (n:Nonempty (((α×β)×γ)×(δ×ε))) (h:K5 P (gE n (K5 P))) (x0 x1 x2 x3 x4):P x0 x1 x2 x3 x4:=lP n h (((x0,x1),x2),(x3,x4))
abbrev K8{α β γ δ ε ζ η θ:Type}(P:α->β->γ->δ->ε->ζ->η->θ->Prop)(t:(((α×β)×(γ×δ))×((ε×ζ)×(η×θ)))):Prop:=P t.1.1.1 t.1.1.2 t.1.2.1 t.1.2.2 t.2.1.1 t.2.1.2 t.2.2.1 t.2.2.2
@[elab_as_elim] theorem OS {α β γ δ ε ζ η θ:Type} {P:α->β->γ->δ->ε->ζ->η->θ->Prop} (n:Nonempty (((α×β)×(γ×δ))×((ε×ζ)×(η×θ)))) (h:K8 P (gE n (K8 P))) (x0 x1 x2 x3 x4 x5 x6 x7):P x0 x1 x2 x3 x4 x5 x6 x7:=lP n h (((x0,x1),(x2,x3)),((x4,x5),(x6,x7)))
abbrev GN{α β γ δ ε ζ η θ ι κ:Type}(P:α->β->γ->δ->ε->ζ->η->θ->ι->κ->Prop)(t:((((α×β)×γ)×(δ×ε))×(((ζ×η)×θ)×(ι×κ)))):Prop:=P t.1.1.1.1 t.1.1.1.2 t.1.1.2 t.1.2.1 t.1.2.2 t.2.1.1.1 t.2.1.1.2 t.2.1.2 t.2.2.1 t.2.2.2
@[elab_as_elim] theorem ux {α β γ δ ε ζ η θ ι κ:Type} {P:α->β->γ->δ->ε->ζ->η->θ->ι->κ->Prop} (n:Nonempty ((((α×β)×γ)×(δ×ε))×(((ζ×η)×θ)×(ι×κ)))) (h:GN P (gE n (GN P))) (x0 x1 x2 x3 x4 x5 x6 x7 x8 x9):P x0 x1 x2 x3 x4 x5 x6 x7 x8 x9:=lP n h ((((x0,x1),x2),(x3,x4)),(((x5,x6),x7),(x8,x9)))
abbrev Gy{α β γ δ ε ζ η θ ι κ μ ν ξ:Type}(P:α->β->γ->δ->ε->ζ->η->θ->ι->κ->μ->ν->ξ->Prop)(t:((((α×β)×(γ×δ))×((ε×ζ)×η))×(((θ×ι)×κ)×((μ×ν)×ξ)))):Prop:=P t.1.1.1.1 t.1.1.1.2 t.1.1.2.1 t.1.1.2.2 t.1.2.1.1 t.1.2.1.2 t.1.2.2 t.2.1.1.1 t.2.1.1.2 t.2.1.2 t.2.2.1.1 t.2.2.1.2 t.2.2.2
@[elab_as_elim] theorem rR {α β γ δ ε ζ η θ ι κ μ ν ξ:Type} {P:α->β->γ->δ->ε->ζ->η->θ->ι->κ->μ->ν->ξ->Prop} (n:Nonempty ((((α×β)×(γ×δ))×((ε×ζ)×η))×(((θ×ι)×κ)×((μ×ν)×ξ)))) (h:Gy P (gE n (Gy P))) (x0 x1 x2 x3 x4 x5 x6 x7 x8 x9 RS RR EE):P x0 x1 x2 x3 x4 x5 x6 x7 x8 x9 RS RR EE:=lP n h ((((x0,x1),(x2,x3)),((x4,x5),x6)),(((x7,x8),x9),((RS,RR),EE)))
abbrev Q9{α β γ δ ε ζ η θ ι κ μ ν ξ π ρ σ τ υ φ χ ψ ω ϕ ϑ:Type}(P:α->β->γ->δ->ε->ζ->η->θ->ι->κ->μ->ν->ξ->π->ρ->σ->τ->υ->φ->χ->ψ->ω->ϕ->ϑ->Prop)(t:(((((α×β)×γ)×((δ×ε)×ζ))×(((η×θ)×ι)×((κ×μ)×ν)))×((((ξ×π)×ρ)×((σ×τ)×υ))×(((φ×χ)×ψ)×((ω×ϕ)×ϑ))))):Prop:=P t.1.1.1.1.1 t.1.1.1.1.2 t.1.1.1.2 t.1.1.2.1.1 t.1.1.2.1.2 t.1.1.2.2 t.1.2.1.1.1 t.1.2.1.1.2 t.1.2.1.2 t.1.2.2.1.1 t.1.2.2.1.2 t.1.2.2.2 t.2.1.1.1.1 t.2.1.1.1.2 t.2.1.1.2 t.2.1.2.1.1 t.2.1.2.1.2 t.2.1.2.2 t.2.2.1.1.1 t.2.2.1.1.2 t.2.2.1.2 t.2.2.2.1.1 t.2.2.2.1.2 t.2.2.2.2
@[elab_as_elim] theorem GR {α β γ δ ε ζ η θ ι κ μ ν ξ π ρ σ τ υ φ χ ψ ω ϕ ϑ:Type} {P:α->β->γ->δ->ε->ζ->η->θ->ι->κ->μ->ν->ξ->π->ρ->σ->τ->υ->φ->χ->ψ->ω->ϕ->ϑ->Prop} (n:Nonempty (((((α×β)×γ)×((δ×ε)×ζ))×(((η×θ)×ι)×((κ×μ)×ν)))×((((ξ×π)×ρ)×((σ×τ)×υ))×(((φ×χ)×ψ)×((ω×ϕ)×ϑ))))) (h:Q9 P (gE n (Q9 P))) (x0 x1 x2 x3 x4 x5 x6 x7 x8 x9 RS RR EE x13 x14 x15 x16 x17 x18 x19 x20 x21 x22 x23):P x0 x1 x2 x3 x4 x5 x6 x7 x8 x9 RS RR EE x13 x14 x15 x16 x17 x18 x19 x20 x21 x22 x23:=lP n h (((((x0,x1),x2),((x3,x4),x5)),(((x6,x7),x8),((x9,RS),RR))),((((EE,x13),x14),((x15,x16),x17)),(((x18,x19),x20),((x21,x22),x23))))
end Mine.Internal
namespace Mine.Internal
namespace Re
section
open PySem.Sre
noncomputable def eW(c:Nat):Bool:=48<=c&&c<=57
noncomputable def dH(c:Nat):Bool:=c==43||c==45||c==46||c==95
theorem Zci(c:Nat)(se:Seen):∃Hq,accepts code 13 c se=.ok (eW c,Hq):=by have h:accepts code 13 c se=(if 48<=c&&c<=57 then .ok (true,se.add 22)else .ok (false,(se.add 22).add 0)):=rfl;rw[h];unfold eW;cases(decide (48<=c)&&decide (c<=57))<;>exact⟨_,rfl⟩
theorem Za6:∀c<256,(code.getD (25+(1+c/32)) 0).testBit (c%32)=dH c:=by decide +kernel
theorem Zch(c:Nat)(se:Seen):∃Hq,accepts code 23 c se=.ok (dH c,Hq):=by
 have h:accepts code 23 c se=(if decide (c<256)&&(code.getD (25+(1+c/32)) 0).testBit (c%32)then .ok (true,se.add 9)else .ok (false,(se.add 9).add 0)):=rfl;rw[h];by_cases hc:c<256
 ·rw[Za6 c hc,Vb hc];cases dH c<;>exact⟨_,rfl⟩
 ·rw[Va hc];have:dH c=false:=by unfold dH;simp only[Bool.or_eq_false_iff,Vf];exact aZ 0x5fa0232ea0232da0232ba023444000001008f0032 hc
  rw[this];exact⟨_,rfl⟩
def nd(text:Array Nat):Nat->Nat->Nat|0,_=>0|n+1,p=>if eW (text.getD p 0)then nd text n (p+1)+1 else 0
theorem B2{text:Array Nat}:nd text (n+1) p=if eW (text.getD p 0)then nd text n (p+1)+1 else 0:=rfl
theorem Sj{code text:Array Nat}{i n p f:Nat}{se:Seen}:run code text i (n+1) p f se=(accepts code i (text.getD p 0) se).bind λy=>if y.1 then run code text i n (p+1) (f+1) y.2 else .ok (f,y.2):=rfl
theorem xd(text:Array Nat):∀(n p f:Nat)(se:Seen),∃Hq,run code text 13 n p f se=.ok (f+nd text n p,Hq):=by
 intro n;induction n with
 |zero=>exactλp f se=>⟨se,rfl⟩
 |succ n ih=>refineλp f se=>aI (Zci (text.getD p 0) se) λRj h1=>?_;rw[Sj,B2,h1];cases hd:eW (text.getD p 0)with|false=>exact⟨Rj,rfl⟩|true=>refine aI (ih (p+1) (f+1) Rj) λSi h2=>⟨Si,?_⟩;show run code text 13 n (p+1) (f+1) Rj=_;rw[h2,Vh rfl];congr 2;exact aO 0x91b0b190bb21
theorem cm(h:m.outcome.isSome=true):M.runFor y m=m:=by
 rcases y with⟨⟩;case zero=>rfl
 case succ=>exact Vh h
theorem bu(h:m.outcome.isSome=false):M.runFor (y+1) m=M.runFor y m.step:=Vg (by rw[h];exact ZP)
theorem bE:∀(x y:Nat)(m:M),M.runFor (x+y) m=M.runFor y (M.runFor x m):=by
 intro x;induction x with
 |zero=>intro y m;rw[Xl];rfl
 |succ x ih=>intro y m;cases h:m.outcome.isSome with|true=>rw[cm h,cm h,cm h]|false=>rw[Nat.succ_add,bu h,bu h];exact ih y m.step
theorem et(h:m.outcome=Xe):M.runFor 1 m=m.step:=by rw[bu (by rw[h];rfl)];rfl
def mk(text:Array Nat)(lim start pc pos handed:Nat)(om:Bool)(a b:Option Nat)(lm li:Int)(fr:List Frame)(wt:Nat)(ans:Option Bool)(seen:Seen):M:={code,text,lim,start,lastStart:=lim,wholeText:=false,mustAdvance:=false,pc,pos,handed,outermost:=om,marks:= #[a,b],lastmark:=lm,lastindex:=li,loops:= #[],inner:=Xe,frames:=fr,weight:=wt,answer:=ans,seen,outcome:=Xe}
end
section
open PySem.Sre
variable {text:Array Nat} {lim s:Nat} {om:Bool} {a b:Option Nat} {se:Seen} {h:Nat} {lm li:Int}
noncomputable def f0(s:Nat)(om:Bool):Frame:={wait:=.nextStart,pc:=5,pos:=s,outermost:=om}
noncomputable def k0:Kept:={lastmark:=0,lastindex:= -1}
def f1(s:Nat)(om:Bool)(pc:Nat):Frame:={wait:=.nextBranch,pc,pos:=s,outermost:=om,kept:=k0}
def at_(text:Array Nat)(lim s:Nat)(om:Bool)(a b:Option Nat)(se:Seen):M:=mk text lim s 5 s s om a b (-1) (-1) [f0 s om] 1 Xe se
theorem e1:(at_ text lim s om a b se).step=mk text lim s 7 s s om (Xd s) b 0 (-1) [f0 s om] 1 Xe (se.add 17):=rfl
theorem e2:(mk text lim s 7 s s om (Xd s) b 0 (-1) [f0 s om] 1 Xe se).step=mk text lim s 9 s s om (Xd s) b 0 (-1) [f1 s om 8,f0 s om] 2 Xe (se.add 7):=rfl
theorem e3:(mk text lim s 9 s s om (Xd s) b 0 (-1) [f1 s om 8,f0 s om] 2 Xe se).step=(if(((1:Nat):Int)>(lim:Int)-(s:Int))then mk text lim s 9 s s om (Xd s) b 0 (-1) [f1 s om 8,f0 s om] 2 (Xd false) (se.add 24)else match PySem.Sre.run code text 13 (min 4294967295 ((lim:Int)-(s:Int)).toNat) s 0 ((se.add 24).add 13)with
   | .error why=>(mk text lim s 9 s s om (Xd s) b 0 (-1) [f1 s om 8,f0 s om] 2 Xe (se.add 24)).stick why
   | .ok (n,seen)=>if n<1 then mk text lim s 9 s s om (Xd s) b 0 (-1) [f1 s om 8,f0 s om] 2 (Xd false) seen else mk text lim s 20 (s+n) (s+n) om (Xd s) b 0 (-1) [{wait:=.giveBack,pc:=9,pos:=s+n,outermost:=om,count:=n,kept:=k0},f1 s om 8,f0 s om] 3 Xe seen):=rfl
def X(text:Array Nat)(lim s:Nat)(om:Bool)(b:Option Nat)(se:Seen):M:=mk text lim s 9 s s om (Xd s) b 0 (-1) [f1 s om 8,f0 s om] 2 (Xd false) se
def Y(text:Array Nat)(lim s:Nat)(om:Bool)(b:Option Nat)(se:Seen):M:=mk text lim s 23 s s om (Xd s) b 0 (-1) [f1 s om 22,f0 s om] 2 Xe se
theorem e4:(X text lim s om b se).step=Y text lim s om b se:=rfl
theorem e5:(Y text lim s om b se).step=(if s>=lim then mk text lim s 23 s s om (Xd s) b 0 (-1) [f1 s om 22,f0 s om] 2 (Xd false) (se.add 13)else match PySem.Sre.accepts code 23 (text.getD s 0) (se.add 13)with
  | .error why=>(mk text lim s 23 s s om (Xd s) b 0 (-1) [f1 s om 22,f0 s om] 2 Xe (se.add 13)).stick why
  | .ok (false,seen)=>mk text lim s 23 s s om (Xd s) b 0 (-1) [f1 s om 22,f0 s om] 2 (Xd false) seen
  | .ok (true,seen)=>mk text lim s 35 (s+1) s om (Xd s) b 0 (-1) [f1 s om 22,f0 s om] 2 Xe seen):=rfl
theorem e6a:(mk text lim s 23 s s om (Xd s) b 0 (-1) [f1 s om 22,f0 s om] 2 (Xd false) se).step=mk text lim s 22 s s om (Xd s) b 0 (-1) [f0 s om] 1 (Xd false) se:=rfl
theorem e6b:(mk text lim s 22 s s om (Xd s) b 0 (-1) [f0 s om] 1 (Xd false) se).step=if s<lim then at_ text lim (s+1) false (Xd s) b se else mk text lim s 5 s s om (Xd s) b 0 (-1) [] 0 (Xd false) se:=rfl
theorem e6:(M.runFor 2 (mk text lim s 23 s s om (Xd s) b 0 (-1) [f1 s om 22,f0 s om] 2 (Xd false) se))=if s<lim then at_ text lim (s+1) false (Xd s) b se else mk text lim s 5 s s om (Xd s) b 0 (-1) [] 0 (Xd false) se:=by rw[bu rfl,e6a,bu rfl,e6b];rfl
structure Hit (m:M) (s e:Nat):Prop where
 out:m.outcome=Xd .matched
 start:m.start=s
 handed:m.handed=e
 marks:m.marks= #[Xd s,Xd e]
 last:m.lastmark=1
end
section
open PySem.Sre
variable {text:Array Nat} {lim s:Nat} {om:Bool} {a b:Option Nat} {se:Seen} {h:Nat} {lm li:Int} {p:Nat} {g:Frame} {fr:List Frame} {wt:Nat} {ans:Option Bool}
theorem j1:(mk text lim s 35 p h om a b lm li fr wt Xe se).step=mk text lim s 38 p h om a b lm li fr wt Xe (se.add 15):=rfl
theorem j2:(mk text lim s 20 p h om a b lm li fr wt Xe se).step=mk text lim s 38 p h om a b lm li fr wt Xe (se.add 15):=rfl
theorem j3:(mk text lim s 38 p h om a b 0 li fr wt Xe se).step=mk text lim s 40 p h om a (Xd p) 1 1 fr wt Xe (se.add 17):=by show M.mark (mk text lim s 38 p h om a b 0 li fr wt Xe (se.add 17)) 1=_;unfold M.mark;simp[mk];decide
theorem j4:(mk text lim s 40 p h om a b lm li fr wt Xe se).step=mk text lim s 40 p p om a b lm li fr wt (Xd true) (se.add 1):=by rcases om with⟨⟩<;>rfl
theorem j5:(mk text lim s q p h om a b lm li ({wait:=.giveBack,pc:=9,pos:=p,outermost:=om,count:=c,kept:=k0}::fr) wt (Xd true) se).step=mk text lim s 9 p h om a b lm li fr (wt-1) (Xd true) se:=rfl
theorem j6:(mk text lim s q p h om a b lm li (f1 s om k::fr) wt (Xd true) se).step=mk text lim s k s h om a b lm li fr (wt-1) (Xd true) se:=rfl
theorem j7:(mk text lim s q p h om a b lm li (f0 s om::fr) wt (Xd true) se).step=mk text lim s 5 s h om a b lm li fr (wt-1) (Xd true) se:=rfl
theorem j8:(mk text lim s q p h om a b lm li [] wt (Xd true) se).step={mk text lim s q p h om a b lm li [] wt (Xd true) se with outcome:=Xd .matched}:=rfl
end
section
open PySem.Sre
variable {text:Array Nat} {lim s:Nat} {om:Bool} {a b:Option Nat} {se:Seen} {h:Nat} {lm li:Int}
theorem ZbK:Hit (M.runFor 7 (mk text lim s 35 (s+1) s om (Xd s) b 0 (-1) [f1 s om 22,f0 s om] 2 Xe se)) s (s+1):=by rw[bu rfl,j1,bu rfl,j3,bu rfl,j4,bu rfl,j6,bu rfl,j7,bu rfl,j8];exact⟨rfl,rfl,rfl,rfl,rfl⟩
theorem ZbL:Hit (M.runFor 7 (mk text lim s 20 (s+n) (s+n) om (Xd s) b 0 (-1) [{wait:=.giveBack,pc:=9,pos:=s+n,outermost:=om,count:=n,kept:=k0},f1 s om 8,f0 s om] 3 Xe se)) s (s+n):=by rw[bu rfl,j2,bu rfl,j3,bu rfl,j4,bu rfl,j5,bu rfl,j6,bu rfl,j7,bu rfl,j8];exact⟨rfl,rfl,rfl,rfl,rfl⟩
theorem Ny:(M.runFor 3 (at_ text lim s om a b se))=(mk text lim s 9 s s om (Xd s) b 0 (-1) [f1 s om 8,f0 s om] 2 Xe ((se.add 17).add 7)).step:=by rw[bu rfl,e1,bu rfl,e2,bu rfl];rfl
theorem toX(hn:¬(s<lim)\/eW (text.getD s 0)=false):∃Hq,M.runFor 3 (at_ text lim s om a b se)=X text lim s om b Hq:=by
 rw[Ny,e3];by_cases hl:s<lim
 ·rw[Vg (by exact aO 0x9af0af1afc731002 hl)];refine aI (xd text (min 4294967295 ((lim:Int)-(s:Int)).toNat) s 0 ((((se.add 17).add 7).add 24).add 13)) λHq hr=>?_;rw[hr];have hz:nd text (min 4294967295 ((lim:Int)-(s:Int)).toNat) s=0:=by cases hk:min 4294967295 ((lim:Int)-(s:Int)).toNat with|zero=>rfl|succ k=>rw[B2,hn.resolve_left (by exact aO 0x100331002 hl)];rfl
  rw[hz];exact⟨Hq,rfl⟩
 ·rw[Vh (by exact aO 0x9af0af1afc710032 hl)];exact⟨_,rfl⟩
def find(text:Array Nat):Nat->Nat->Option (Nat×Nat)|0,_=>Xe|n+1,s=>if eW (text.getD s 0)then Xd (s,s+nd text (n+1) s)else if dH (text.getD s 0)then Xd (s,s+1)else find text n (s+1)
theorem CB{text:Array Nat}{n s:Nat}:find text (n+1) s=if eW (text.getD s 0)then Xd (s,s+nd text (n+1) s)else if dH (text.getD s 0)then Xd (s,s+1)else find text n (s+1):=rfl
theorem search{text:Array Nat}{lim:Nat}:∀(n s:Nat)(om:Bool)(a b:Option Nat)(se:Seen),lim<4294967295->s+n=lim->match find text n s with
  |some (p,e)=>Hit (M.runFor (7*n+11) (at_ text lim s om a b se)) p e|none=>(M.runFor (7*n+11) (at_ text lim s om a b se)).outcome=Xd .failed:=by
 intro n;induction n with
 |zero=>
  refineλs om a b se hl hs=>aI (toX (text:=text) (lim:=lim) (s:=s) (om:=om) (a:=a) (b:=b) (se:=se) (.inl (aO 0x1003180b22 hs))) λRj h1=>?_;rw[show 7*0+11=3+(1+(1+(2+(1+3))))from rfl,bE,h1,bE,et rfl,e4,bE,et rfl,e5,Vh (by exact aO 0x11180b22 hs),bE,e6,Vg (by exact aO 0x1003180b22 hs),bE,et rfl];rw[cm]
  ·rfl
  ·rfl
 |succ n ih=>
  intro s om a b se hl hs;rw[CB];cases hd:eW (text.getD s 0)with
  |true=>
   rw[Vh rfl];refine aI (xd text (min 4294967295 ((lim:Int)-(s:Int)).toNat) s 0 ((((se.add 17).add 7).add 24).add 13)) λHq hr=>?_;have hm:min 4294967295 ((lim:Int)-(s:Int)).toNat=n+1:=bj 0x92b1af0afcbfffffffff8fdf2092b1b2ffffffff8f003 hl hs;rw[hm]at hr;have hp:¬(0+nd text (n+1) s<1):=by rw[B2,hd];simp
   rw[show 7*(n+1)+11=3+(7+(7*n+8)) by exact aZ 0x8a007db07ab03ab0ba90b07db21,bE,Ny,e3,Vg (by exact bj 0x9af1af0afc7392b1af0afcbfffffffff8fdf22 hm),hm,hr];dsimp only;rw[Vg hp,bE,Xl];have hh:=ZbL (text:=text) (lim:=lim) (s:=s) (om:=om) (b:=b) (se:=Hq) (n:=nd text (n+1) s);rw[cm (by rw[hh.out];rfl)];exact hh
  |false=>
   rw[Vg ZP];refine aI (toX (lim:=lim) (s:=s) (om:=om) (a:=a) (b:=b) (se:=se) (.inr hd)) λRj h1=>aI (Zch (text.getD s 0) (Rj.add 13)) λSi h2=>?_;cases hp:dH (text.getD s 0)with
   |true=>rw[Vh rfl];rw[hp]at h2;rw[show 7*(n+1)+11=3+(1+(1+(7+(7*n+6)))) by exact aZ 0x6a007db07ab9b9b03ab0ba90b07db21,bE,h1,bE,et rfl,e4,bE,et rfl,e5,Vg (by exact bj 0x213291b0b22 hs),h2];rw[bE];have hh:=ZbK (text:=text) (lim:=lim) (s:=s) (om:=om) (b:=b) (se:=Si);rw[cm (by rw[hh.out];rfl)];exact hh
   |false=>
    rw[Vg ZP];rw[hp]at h2;have:=ih (s+1) false (Xd s) b Si hl (bj 0x2190bb2291b0b22 hs);have key:M.runFor (7*(n+1)+11) (at_ text lim s om a b se)=M.runFor (7*n+11) (at_ text lim (s+1) false (Xd s) b Si):=by rw[show 7*(n+1)+11=3+(1+(1+(2+(7*n+11)))) by exact aZ 0xba007db02ab9b9b03ab0ba90b07db21,bE,h1,bE,et rfl,e4,bE,et rfl,e5,Vg (by exact bj 0x213291b0b22 hs),h2];rw[bE,e6,Vh (by exact bj 0x200291b0b22 hs)]
    rw[key];exact this
theorem yb(s:Nat)(hl:lim<4294967295)(hs:s<=lim):match find text (lim-s) s with
  |some (p,e)=>Hit (M.runFor (7*lim+12) (forSearch code text 1 s lim false)) p e|none=>(M.runFor (7*lim+12) (forSearch code text 1 s lim false)).outcome=Xd .failed:=by
 revert hl hs;refine xA3 U8 ?_ s text lim;generalize gE _ _=tt;dsimp only[K3];generalize tt.1.1=s,tt.1.2=text,tt.2=lim;intro hl hs;by_cases hz:s=lim
 ·subst hz;rw[Nat.sub_self];have h:forSearch code text 1 s s false=(if decide (s>s)||decide (s-s<1)then(mk text s s 5 s s true Xe Xe (-1) (-1) [] 0 (Xd false) (({}:Seen).add 14)|> λm=>{m with lastStart:=0})else at_ text s s true Xe Xe (({}:Seen).add 14)):=rfl;rw[h,Vh (by simp),show 7*s+12=1+(7*s+11) by exact aZ 0xba007db9b0ca007db21,bE,et rfl];rw[cm rfl];rfl
 ·have h:forSearch code text 1 s lim false=(if decide (s>lim)||decide (lim-s<1)then(mk text lim s 5 s s true Xe Xe (-1) (-1) [] 0 (Xd false) (({}:Seen).add 14)|> λm=>{m with lastStart:=0})else at_ text lim s true Xe Xe (({}:Seen).add 14)):=rfl;have hc:¬((decide (s>lim)||decide (lim-s<1))=true):=by simp;exact aO 0x801c23101410231013 hs hz
  rw[h,Vg hc];have:=search (text:=text) (lim-s) s true Xe Xe (({}:Seen).add 14) hl (aO 0x101c0b21012 hs);cases hf:find text (lim-s) s with
  |none=>rw[hf]at this;rw[show 7*lim+12=(7*(lim-s)+11)+(7*s+1) by exact aO 0x9007db0ba01c07dbb0ca107db21012 hs,bE,cm (by rw[this];rfl)];exact this
  |some r=>obtain⟨p,e⟩:=r;rw[hf]at this;rw[show 7*lim+12=(7*(lim-s)+11)+(7*s+1) by exact aO 0x9007db0ba01c07dbb0ca107db21012 hs,bE,cm (by rw[this.out];rfl)];exact this
end
end Re
end Mine.Internal
namespace Mine.Internal
namespace Tx
section
open PySem PySem.W PyProof.Rows PySem.Builtin PySem.Builtin.Str
noncomputable def jX(y z:List Nat):Nat->List Nat->List Nat|_,[]=>[]|k,c::r=>if 0<k then jX y z (k-1) r else if y.isPrefixOf (c::r)then z++jX y z (y.length-1) r else c::jX y z 0 r
end
section
open PySem PySem.W PyProof.Rows PySem.Builtin PySem.Builtin.Str
variable {y z:List Nat}
theorem Sk{k:Nat}:jX y z k []=[]:=rfl
theorem lp{k c:Nat}{r:List Nat}:jX y z k (c::r)=if 0<k then jX y z (k-1) r else if y.isPrefixOf (c::r)then z++jX y z (y.length-1) r else c::jX y z 0 r:=rfl
theorem zH:∀(k:Nat)(l:List Nat),jX y z k l=jX y z 0 (l.drop k)|0,l=>rfl|k+1,[]=>rfl|k+1,c::r=>by rw[lp,Vh (Xm _),Nat.add_sub_cancel,zH k r,List.drop_succ_cons]
theorem Ht{l:List Nat}:∀(d a c:Nat),c-a=d->a<=c->c<=l.length->(∀k,a<=k->k<c->y.isPrefixOf (l.drop k)=false)->jX y z 0 (l.drop a)=(l.drop a).take (c-a)++jX y z 0 (l.drop c):=by intro d;induction d with|zero=>intro a c hd hac hc hn;have:a=c:=aO 0x12011810c23 hd hac;subst this;simp|succ d ih=>intro a c hd hac hc hn;have ha:a<l.length:=eg 0x31030192b10c23 rfl hd hc;have e:=Zn ha;have h0:=hn a (Xz _) (bj 0x1092b10c22 hd);rw[e]at h0 ⊢;rw[lp,Vg (Xx 0),h0,Vg ZP,ih (a+1) c (by exact bj 0x291b0c292b10c22 hd) (by exact bj 0x91b192b10c22 hd) hc λk h1 h2=>hn k (by exact aO 0x101190b12 h1) h2];have:c-a=(c-(a+1))+1:=bj 0x991b0cb10c292b10c22 hd;rw[this,XN];rfl
theorem C4(x y:VV)(i:Nat):StrLaws.At x y x.length i↔y.cps.toList.isPrefixOf (x.cps.toList.drop i)=true/\i<=x.cps.toList.length:=by
 unfold StrLaws.At;have hs:subAt x y i=((x.cps.toList.drop i).take y.length==y.cps.toList):=by
  unfold subAt;have:(x.cps.extract i (i+y.length)==y.cps)=((x.cps.extract i (i+y.length)).toList==y.cps.toList):=by rw[ZR,Vd,Vd,Array.toList_inj]
  rw[this,Array.toList_extract];simp[Zk]
 have hx:x.length=x.cps.toList.length:=by simp[VT]
 have hy:y.length=y.cps.toList.length:=by simp[VT]
 rw[hs,Vd,List.isPrefixOf_iff_prefix,hx,hy];constructor
 ·refineλy0=>aU y0 λh1 h2=>⟨⟨_,by rw[<-h2];exact XQ _ _⟩,by exact bj 0x201210b12 h1⟩
 ·refineλy1=>aU y1 λy2 hi=>aI y2 λt ht=>?_;have hl:=Ve YU ht;rw[YT,YR]at hl;exact⟨by exact eg 0x120b101c32b21013 rfl hi hl,by rw[<-ht];simp⟩
theorem gx(x:VV)(a b:Nat):(strSub x a b).cps.toList=(x.cps.toList.drop a).take (b-a):=by unfold strSub;rw[Array.toList_extract,Zk]
theorem Fm(x y z:VV)(hy:1<=y.length):∀(MP:List Nat)(a f:Nat),StrLaws.ChainG x y x.length a MP f->(∀k,f<=k->¬StrLaws.At x y x.length k)->a<=x.length->(VU z (StrLaws.partsFrom x y.length a MP)).cps.toList=jX y.cps.toList z.cps.toList 0 (x.cps.toList.drop a):=by
 intro MP;induction MP with
 |nil=>
  intro a f hc hf ha;have hfa:=hc;subst hfa;have hx:x.length=x.cps.toList.length:=by simp[VT]
  show(strSub x f x.length).cps.toList=_;rw[gx,Ht (x.length-f) f x.length rfl ha (by exact aO 0x1011022 hx) λk h1 h2=>?_]
  ·rw[hx,List.drop_length];simp[Sk]
  ·have:=hf k h1;rw[C4]at this;cases e:y.cps.toList.isPrefixOf (x.cps.toList.drop k)with|false=>rfl|true=>exact absurd ⟨e,by exact bj 0x1210201023 hx h2⟩ this
 |cons c r Aj=>
  refineλa f hc hf ha=>nE hc λh1 h2 h3 h4=>?_;have hx:x.length=x.cps.toList.length:=by simp[VT]
  have hyl:y.length=y.cps.toList.length:=by simp[VT]
  have tw:=h2.1;have ih:=Aj (c+y.length) f h4 hf tw;refine kK (StrLaws.partsFrom_ne x y.length (c+y.length) r) λp q hpq=>?_;show(VU z (strSub x a c::StrLaws.partsFrom x y.length (c+y.length) r)).cps.toList=_;rw[hpq]at ih ⊢;show(strSub x a c++z++VU z (p::q)).cps.toList=_;simp only[VV.cps_append,ZW];rw[ih,gx,Ht (c-a) a c rfl h1 (by exact eg 0x121032b11023 rfl hx tw) λk g1 g2=>?_]
  ·have Om:=(C4 x y c).mp h2;have je:c<x.cps.toList.length:=eg 0x230103b12120914 rfl hy hx tw;have e:=Zn je;have h0:=Om.1;rw[e]at h0 ⊢;rw[lp,Vg (Xx 0),Vh h0,zH (y.cps.toList.length-1),Zo,Zv];rw[show c+y.length=c+1+(y.cps.toList.length-1) by exact bj 0x91c92bb02b21020913 hy hyl]
  ·have:=h3 k g1 g2;rw[C4]at this;cases e:y.cps.toList.isPrefixOf (x.cps.toList.drop k)with|false=>rfl|true=>exact absurd ⟨e,by exact uv 0x141240032b11024 rfl hx tw g2⟩ this
theorem jY(x y z:VV)(hy:1<=y.length):(VR x y z).cps.toList=jX y.cps.toList z.cps.toList 0 x.cps.toList:=by
 refine av (StrLaws.occ_tight x y hy) λf hc hf=>?_;have key:=Fm x y z hy _ 0 f hc hf (Xk _);rw[Zm]at key;rw[<-key];unfold VR;have h0:(y.length==0)=false:=by rw[Vf];exact aZ 0x80230912 hy
 rw[h0,Bool.false_and,Bool.or_false];split
 ·rename_i he;have:=List.isEmpty_iff.mp he;rw[this];show _=(strSub x 0 x.length).cps.toList;rw[StrLaws.sub_whole]
 ·rw[VS,StrLaws.partsBetween_eq]
end
end Tx
end Mine.Internal
namespace Mine.Internal
namespace Ks
open PySem PySem.W PyProof.Rows
noncomputable def gG{α:Type}(f:Nat->Nat->Bool):KasT α->α| .ret a=>a| .ask i j k=>gG f (k (f i j))
theorem lH{α:Type}{f:Nat->Nat->Bool}{i j:Nat}{k:Bool->KasT α}:gG f (.ask i j k)=gG f (k (f i j)):=rfl
theorem gY{α β:Type}{f:Nat->Nat->Bool}{g:α->KasT β}:∀(t:KasT α),gG f (t.bind g)=gG f (g (gG f t))| .ret _=>rfl| .ask i j k=>gY (k (f i j))
section
variable {p:Array Nat} {N:Nat}
def prec(r:Nat->Nat)(x y:Nat):Prop:=r x<r y\/(r x=r y/\x<y)
noncomputable def gA{α:Type}(N:Nat):KasT α->(α->Prop)->Prop| .ret a,P=>P a| .ask i j k,P=>i<N/\j<N/\∀b,gA N (k b) P
theorem fS{α:Type}{P P':α->Prop}(h:∀a,P a->P' a):∀(t:KasT α),gA N t P->gA N t P'| .ret a,x=>h a x| .ask _ _ k,x=>⟨x.1,x.2.1,λb=>fS h (k b) (x.2.2 b)⟩
theorem fT{α β:Type}{P:β->Prop}{g:α->KasT β}:∀(t:KasT α),gA N t (λa=>gA N (g a) P)->gA N (t.bind g) P| .ret _,x=>x| .ask _ _ k,x=>⟨x.1,x.2.1,λb=>fT (k b) (x.2.2 b)⟩
def Wi(N:Nat)(p:Array Nat):Prop:=∀x∈p.toList,x<N
theorem Wi.get(h:Wi N p)(h0:0<N)(i:Nat):p.getD i 0<N:=by refine xR Z9 ?_;cases e:p[i]? with|none=>exact h0|some x=>exact h x (by rw[Array.mem_toList_iff];exact Array.mem_of_getElem? e)
theorem Wi.perm(h:Wi N p)(e:q.Perm p):Wi N q:=λx hx=>h x ((Array.perm_iff_toList_perm.mp e).mem_iff.mp hx)
theorem Wi.rev(h:Wi N p)(i j:Nat):Wi N (kas_rev p i j):=h.perm (mirror_perm _ _ _ _)
theorem Wi.bub(h:Wi N p)(i j:Nat):Wi N (bubble p i j):=h.perm (bubble_perm _ _ _)
theorem A8(h:Wi N p)(h0:0<N):∀(f n:Nat),gA N (kas_asc p f n) λx=>True:=by
 intro f;induction f with
 |zero=>exactλ_=>trivial
 |succ f ih=>exactλn=>⟨h.get h0 _,h.get h0 _,λb=>by(rcases b with⟨⟩;(case true=>exact trivial);(case false=>exact ih (n+1)))⟩
theorem F5(h0:0<N):∀(f:Nat)(p:Array Nat)(n q:Nat),Wi N p->gA N (kas_desc f p n q) λr=>Wi N r.1:=by
 intro f;induction f with
 |zero=>exactλp n q h=>h
 |succ f ih=>
  intro p n q h;exact⟨h.get h0 _,h.get h0 _,λb=>by
  rcases b with⟨⟩;case true=>
   split
   ·exact ih _ _ _ (h.rev _ _)
   ·exact ih _ _ _ h
  case false=>exact⟨h.get h0 _,h.get h0 _,λd=>by
    rcases d with⟨⟩;case true=>exact h
    case false=>exact ih _ _ _ h⟩⟩
theorem rZ(h0:0<N)(h:Wi N p)(n m:Nat):gA N (kas_tail3 n m p) λr=>Wi N r.2:=fT _ (fS (λx x=>h.rev _ _) _ (A8 (h.rev _ _) h0 _ _))
theorem mL(h0:0<N)(h:Wi N p)(n m:Nat):gA N (kas_descPart n m p) λr=>Wi N r.2:=fT _ (fS (λr hr=>by
  split
  ·exact rZ h0 (hr.rev _ _) _ _
  ·exact rZ h0 hr _ _) _ (F5 h0 _ _ _ _ h))
theorem CL(h0:0<N)(h:Wi N p)(m:Nat):gA N (kas_count m p) λr=>Wi N r.2:=fT _ (fS (λn x=>by
  split
  ·exact h
  ·split
   ·refine⟨h.get h0 _,h.get h0 _,λb=>?_⟩;rcases b with⟨⟩;case true=>exact h
    case false=>exact mL h0 (h.rev _ _) _ _
   ·exact mL h0 h _ _) _ (A8 h h0 _ _))
theorem BS(h0:0<N)(h:Wi N p)(k:Nat):∀(f l u:Nat),gA N (kas_place p k f l u) λx=>True:=by
 intro f;induction f with
 |zero=>exactλ_ _=>trivial
 |succ f ih=>
  intro l u;unfold kas_place;split
  ·exact trivial
  ·refine⟨h.get h0 _,h.get h0 _,λb=>?_⟩;rcases b with⟨⟩;case true=>exact ih _ _
   case false=>exact ih _ _
theorem J0(h0:0<N):∀(f:Nat)(p:Array Nat)(k:Nat),Wi N p->gA N (kas_bin f p k) λp=>Wi N p:=by intro f;induction f with|zero=>intro p k h;exact h|succ f ih=>exactλp k h=>fT _ (fS (λl x=>ih _ _ (h.bub _ _)) _ (BS h0 h k _ _ _))
theorem pd(h0:0<N):gA N (kas_sort N) λp=>Wi N p:=fT _ (fS (λr hr=>by
  split
  ·exact J0 h0 _ _ _ hr
  ·exact hr) _ (CL h0 (λx hx=>by simpa using hx) N))
theorem sY{α:Type}{P:α->Prop}(h:∀i j,i<N->j<N->f i j=g i j):∀(t:KasT α),gA N t P->gG f t=gG g t| .ret _,_=>rfl| .ask i j k,x=>by rw[lH,lH,h i j x.1 x.2.1];exact sY h (k (g i j)) (x.2.2 _)
def dk(f:Nat->Nat->Bool)(N:Nat):List Nat:=if N<2 then Yc N else(gG f (kas_sort N)).toList
end
section
variable {r:Nat->Nat} {p:Array Nat} {N:Nat}
noncomputable def gP(r:Nat->Nat)(i j:Nat):Bool:=decide (r i<r j)
theorem prec.trans(a:prec r x y)(b:prec r y z):prec r x z:=by unfold prec at *;exact Bc 0x5204024400553041244105320102410053 rfl a b
def Ka(r:Nat->Nat)(p:Array Nat)(m:Nat):Prop:=∀i j,i<j->j<m->prec r (p.getD i 0) (p.getD j 0)
def wG(p:Array Nat)(N m:Nat):Prop:=(∀i,m<=i->i<N->p.getD i 0=i)/\∀i,i<m->p.getD i 0<m
theorem d8(hj:j<=p.size)(k:Nat):(kas_rev p i j).getD k 0=if i<=k/\k<j then p.getD (i+j-1-k) 0 else p.getD k 0:=by simp only[Z9];have e:=getElem?_mirror_all (i:=i) hj k;unfold kas_rev;refine xR e ?_;split<;>rfl
theorem I6(hs:src<p.size)(hd:d<=src)(k:Nat):(bubble p src d).getD k 0=if k=src-d then p.getD src 0 else if src-d<k/\k<=src then p.getD (k-1) 0 else p.getD k 0:=by
 simp only[Z9];refine xR (getElem?_bubble hs d hd k) ?_;split
 ·rfl
 ·split<;>rfl
theorem J7:∀(f n:Nat),Ka r p n->wG p N n->1<=n->n+f<=N->∃m,gG (gP r) (kas_asc p f n)=m/\Ka r p m/\wG p N m/\n<=m/\m<=n+f/\(m<n+f->r (p.getD m 0)<r (p.getD (m-1) 0)):=by
 intro f;induction f with
 |zero=>exactλn hs hr h1 hn=>⟨n,rfl,hs,hr,Xz _,Xz _,λh=>absurd h (aZ 0x80b0031)⟩
 |succ f ih=>
  intro n hs hr h1 hn;rw[show gG (gP r) (kas_asc p (f+1) n)=gG (gP r) (if gP r (p.getD n 0) (p.getD (n-1) 0)=true then .ret n else kas_asc p f (n+1))from rfl];by_cases hc:r (p.getD n 0)<r (p.getD (n-1) 0)
  ·have:gP r (p.getD n 0) (p.getD (n-1) 0)=true:=Vb hc;rw[this];rw[Vh rfl];exact⟨n,rfl,hs,hr,Xz _,by exact aO 0x91b0b011,λx=>hc⟩
  ·have:gP r (p.getD n 0) (p.getD (n-1) 0)=false:=Va hc;rw[this];rw[Vg ZP];have Rv:=hr.1 n (Xz _) (bj 0x200291b0b12 hn);have hl:=hr.2 (n-1) (aZ 0x90c00912 h1);have vU:prec r (p.getD (n-1) 0) (p.getD n 0):=by unfold prec;exact uv 0x2400124010534032210034 rfl hc Rv hl
   have Am:Ka r p (n+1):=λi j gD hj=>by
    by_cases e:j=n
    ·subst e;by_cases e2:i=j-1
     ·subst e2;exact vU
     ·exact(hs i (j-1) (aO 0x91c0091c0231003 gD e2) (aO 0x191c01002 hl)).trans vU
    ·exact hs i j gD (aO 0x100102391b003 hj e)
   have rE:wG p N (n+1):=⟨λi hi hl=>hr.1 i (aO 0x101190b12 hi) hl,λi hi=>by
    by_cases e:i=n
    ·subst e;exact aO 0x91b001022 Rv
    ·have:=hr.2 i (aO 0x100102391b003 hi e);exact aO 0x91b001002 this⟩
   refine GP (ih (n+1) Am rE (aZ 0x90b911) (bj 0x2190bb1291b0b12 hn)) λm e a1 a2 a3 a4 a5=>⟨m,e,a1,a2,by exact aO 0x101190b12 a3,by exact bj 0x92b1b01291bb012 a4,λh=>a5 (bj 0x291bb0092b1b002 h)⟩
structure Dsc (r:Nat->Nat) (p:Array Nat) (n q:Nat):Prop where
 lt:q<n
 a:∀i j,i<j->j<n-(q+1)->prec r (p.getD j 0) (p.getD i 0)
 b:∀i j,i<n-(q+1)->n-(q+1)<=j->j<n->r (p.getD j 0)<r (p.getD i 0)
 c:∀i j,i<j->n-(q+1)<=i->j<n->p.getD i 0<p.getD j 0/\r (p.getD i 0)=r (p.getD j 0)
theorem Dsc.rev(h:Dsc r p n q)(hn:n<=p.size):∀i j,i<j->j<n->prec r ((kas_rev p (n-(q+1)) n).getD j 0) ((kas_rev p (n-(q+1)) n).getD i 0):=λi j gD hj=>by
 have hq:=h.lt;refine xR (d8 hn _) (xR (d8 hn _) ?_);by_cases h1:n-(q+1)<=i
 ·refine xR (Vh ⟨by exact eg 0x193b2c1093b2c11003 rfl gD h1,hj⟩) (xR (Vh ⟨h1,by exact bj 0x2002101003 gD hj⟩) ?_);have:=h.c (n-(q+1)+n-1-j) (n-(q+1)+n-1-i) (eg 0x9293b2cbcc19293b2cbcc02101003 rfl gD hj) (bj 0x9192b1cbcc92b1c11002 hj) (bj 0x129190b1cbcc0290b1c11003 hq h1);unfold prec;exact eg 0x1003224320532210042 rfl this
 ·by_cases h2:n-(q+1)<=j
  ·refine xR (Vh ⟨h2,hj⟩) (xR (Vg (bj 0x20291b0c143291b0c132 h1)) ?_);have:=h.b i (n-(q+1)+n-1-j) (bj 0x91b0c20291b0c132 h1) (bj 0x9192b1cbcc92b1c11002 hj) (eg 0x39091b0cbcc0391b0c1291b0c133 rfl h1 h2);unfold prec;exact eg 0x320102410051002 rfl this
  ·refine xR (Vg (bj 0x20291b0c143291b0c132 h2)) (xR (Vg (bj 0x20291b0c143291b0c132 h1)) ?_);exact h.a i j gD (bj 0x91b0c20291b0c132 h2)
theorem wG.rev(h:wG p N n)(hn:n<=p.size):wG (kas_rev p i n) N n:=⟨λk hk hl=>by
 rw[d8 hn,Vg (by exact bj 0x10121431012 hk)];exact h.1 k hk hl,λk hk=>by
 refine xR (d8 hn _) ?_;split
 ·exact h.2 _ (bj 0x21920bcc021010142 (by assumption))
 ·exact h.2 _ hk⟩
theorem wk6{α:Type}{P1 P2 P3 P4 P6:α->Nat->Nat->Prop}{n:Nat}(h:∃p' n' q',P1 p' n' q'/\P2 p' n' q'/\P3 p' n' q'/\P4 p' n' q'/\n+1<=n'/\P6 p' n' q'):∃p' n' q',P1 p' n' q'/\P2 p' n' q'/\P3 p' n' q'/\P4 p' n' q'/\n<=n'/\P6 p' n' q':=EA h λp' n' q' a1 a2 a3 a4 y=>aU y λa5 a6=>⟨p',n',q',a1,a2,a3,a4,XE a5,a6⟩
theorem MJ:∀(f:Nat)(p:Array Nat)(n q:Nat),p.size=N->Dsc r p n q->wG p N n->n+f<=N->∃p' n' q',gG (gP r) (kas_desc f p n q)=(p',n',q')/\p'.size=N/\Dsc r p' n' q'/\wG p' N n'/\n<=n'/\n'<=N:=by
 intro f;induction f with
 |zero=>exactλp n q hz hd hr hn=>⟨p,n,q,rfl,hz,hd,hr,Xz _,by exact aO 0x101180b12 hn⟩
 |succ f ih=>
  intro p n q hz hd hr hn;have hq:=hd.lt;rw[show gG (gP r) (kas_desc (f+1) p n q)=gG (gP r) (if gP r (p.getD n 0) (p.getD (n-1) 0)=true then(if q>0 then kas_desc f (kas_rev p (n-(q+1)) n) (n+1) 0 else kas_desc f p (n+1) 0)else .ask (p.getD (n-1) 0) (p.getD n 0) λd=>if d=true then .ret (p,n,q)else kas_desc f p (n+1) (q+1))from rfl];have Rv:=hr.1 n (Xz _) (bj 0x200291b0b12 hn);have Mb:∀j,n-(q+1)<=j->j<n->r (p.getD j 0)=r (p.getD (n-1) 0):=λj h1 h2=>by
   by_cases e:j=n-1
   ·rw[e]
   ·exact(hd.c j (n-1) (aO 0x91c0091c0231003 h2 e) h1 (aO 0x191c01002 h2)).2
  have gJ:∀{p':Array Nat},wG p' N n->wG p' N (n+1):=λhr=>⟨λi hi hl=>hr.1 i (aO 0x101190b12 hi) hl,λi hi=>by
    by_cases e:i=n
    ·subst e;have:=hr.1 i (Xz _) (bj 0x200291b0b12 hn);exact aO 0x91b001022 this
    ·have:=hr.2 i (aO 0x100102391b003 hi e);exact aO 0x91b001002 this⟩
  by_cases hc:r (p.getD n 0)<r (p.getD (n-1) 0)
  ·have:gP r (p.getD n 0) (p.getD (n-1) 0)=true:=Vb hc;rw[this];rw[Vh rfl];have low:∀i,i<n->r (p.getD n 0)<r (p.getD i 0):=λi hi=>by
    by_cases h1:n-(q+1)<=i
    ·rw[Mb i h1 hi];exact hc
    ·have:=hd.b i (n-1) (bj 0x91b0c20291b0c132 h1) (aO 0x90c91b0c11) (bj 0x90c0291b0c132 h1);exact bj 0x2002101003 hc this
   split
   ·have GD:(kas_rev p (n-(q+1)) n).size=N:=(kas_rev_size _ _).trans hz;refine wk6 (ih (kas_rev p (n-(q+1)) n) (n+1) 0 GD ⟨by exact aZ 0x90b801,λi j gD hj=>hd.rev (eg 0x21193b2b11023 rfl hz hn) i j gD (aO 0x10098b91bc002 hj),λi j hi hj Qd=>?_,λi j gD hi hj=>zA7 0x652430492b10098b92bc11004 rfl gD hi hj⟩ (gJ (hr.rev (eg 0x21193b2b11023 rfl hz hn))) (bj 0x2190bb1291b0b12 hn));have e:j=n:=aO 0x1290b10198b90bc13 hj Qd;subst e;rw[d8 (by exact eg 0x21193b2b11023 rfl hz hn),Vg (by exact aO 0x91b0c1431),d8 (by exact eg 0x21193b2b11023 rfl hz hn)];split
    ·exact low _ (bj 0x29091b0cbcc0020291b0c142 (by assumption))
    ·exact low _ (aO 0x10098b91bc002 hi)
   ·have hq0:q=0:=aZ 0x80208032 (by assumption);subst hq0;refine wk6 (ih p (n+1) 0 hz ⟨by exact aZ 0x90b801,λi j gD hj=>?_,λi j hi hj Qd=>?_,λi j gD hi hj=>zA7 0x652430492b10098b92bc11004 rfl gD hi hj⟩ (gJ hr) (bj 0x2190bb1291b0b12 hn))
    ·by_cases e:j=n-1
     ·subst e;have:=hd.b i (n-1) (by assumption) (aZ 0x90c98b0c11) (aZ 0x90c098b90bc90c02 hj);exact .inl this
     ·exact hd.a i j gD (aO 0x98b1c0091c02398b91bc003 hj e)
    ·have e:j=n:=aO 0x1290b10198b90bc13 hj Qd;subst e;exact low _ (aO 0x10098b91bc002 hi)
  ·have:gP r (p.getD n 0) (p.getD (n-1) 0)=false:=Va hc;rw[this];rw[Vg ZP];rw[lH];by_cases DW:r (p.getD (n-1) 0)<r (p.getD n 0)
   ·have:gP r (p.getD (n-1) 0) (p.getD n 0)=true:=Vb DW;rw[this];rw[Vh rfl];exact⟨p,n,q,rfl,hz,hd,hr,Xz _,by exact bj 0x201291b0b12 hn⟩
   ·have:gP r (p.getD (n-1) 0) (p.getD n 0)=false:=Va DW;rw[this];rw[Vg ZP];have ja:n+1-(q+1+1)=n-(q+1):=aO 0x91b0c991bb90bc21;refine wk6 (ih p (n+1) (q+1) hz ⟨by exact aO 0x91b90b01002 hq,λi j gD hj=>hd.a i j gD (bj 0x92b1c00992bb91bc002 hj),λi j hi hj Qd=>?_,λi j gD hi hj=>?_⟩ (gJ hr) (bj 0x2190bb1291b0b12 hn))
    ·rw[ja]at hi hj;by_cases e:j=n
     ·subst e;have:=hd.b i (j-1) hi (aO 0x90c91b0c11) (bj 0x191c092b1c002 hi);exact bj 0x21020010033 DW this
     ·exact hd.b i j hi hj (aO 0x100102391b003 Qd e)
    ·rw[ja]at hi;by_cases e:j=n
     ·subst e;have h1:=hr.2 i gD;have h2:=Mb i hi gD;exact Bc 0x2520404352140230332031026 rfl Rv hc DW h1 h2
     ·exact hd.c i j gD hi (aO 0x100102391b003 hj e)
theorem zm(hz:p.size=N)(hd:∀i j,i<j->j<n->prec r (p.getD j 0) (p.getD i 0))(hr:wG p N n)(h1:1<=n)(hn:n<=N):∃m p',gG (gP r) (kas_tail3 n N p)=(m,p')/\p'.size=N/\Ka r p' m/\wG p' N m/\1<=m/\m<=N:=by
 unfold kas_tail3;refine xR (gY _) ?_;have hs:Ka r (kas_rev p 0 n) n:=λi j gD hj=>by rw[d8 (by exact bj 0x211211023 hz hn),d8 (by exact bj 0x211211023 hz hn),Vh ⟨by exact aZ 0x811,by exact bj 0x2002101003 gD hj⟩,Vh ⟨by exact aZ 0x811,hj⟩];exact hd _ _ (bj 0x928bcc1928bcc02101003 gD hj) (bj 0x12918bcc01002 hj)
 refine GP (J7 (N-n) n hs (hr.rev (bj 0x211211023 hz hn)) h1 (aO 0x101c0b11012 hn)) λm e a1 a2 a3 a4 x=>xR e ⟨m,_,rfl,(kas_rev_size _ _).trans hz,a1,a2,by exact aO 0x1911010913 h1 a3,by exact bj 0x12101c0b211013 hn a4⟩
theorem qG(hz:p.size=N)(hd:∀i j,i<j->j<n->prec r (p.getD j 0) (p.getD i 0))(hr:wG p N n)(h1:1<=n)(hn:n<N)(ZbI:∀i,i<n->r (p.getD n 0)<r (p.getD i 0)):∃m p',gG (gP r) (kas_descPart n N p)=(m,p')/\p'.size=N/\Ka r p' m/\wG p' N m/\1<=m/\m<=N:=by
 unfold kas_descPart;refine xR (gY _) ?_;have L6:wG p N (n+1):=⟨λi hi hl=>hr.1 i (aO 0x101190b12 hi) hl,λi hi=>by
    by_cases e:i=n
    ·subst e;have:=hr.1 i (Xz _) (by assumption);exact aO 0x91b001022 this
    ·have:=hr.2 i (aO 0x100102391b003 hi e);exact aO 0x91b001002 this⟩
 refine EA (MJ (N-(n+1)) p (n+1) 0 hz ⟨by exact aZ 0x90b801,λi j gD hj=>hd i j gD (aO 0x10098b91bc002 hj),λi j hi hj Qd=>by have e:j=n:=aO 0x1290b10198b90bc13 hj Qd;cases e;exact ZbI i (aO 0x10098b91bc002 hi),λi j gD hi hj=>zA7 0x652430492b10098b92bc11004 rfl gD hi hj⟩ L6 (aO 0x190b1c90bb11002 hn)) λp' n' q' e a1 a2 a3 y0=>aU y0 λa4 a5=>xR e ?_;split
 ·exact zm ((kas_rev_size _ _).trans a1) (a2.rev (bj 0x211211023 a1 a5)) (a3.rev (bj 0x211211023 a1 a5)) (aO 0x191190b12 a4) a5
 ·have hq0:q'=0:=aZ 0x80208032 (by assumption);subst hq0;refine zm a1 (λi j gD hj=>?_) a3 (aO 0x191190b12 a4) a5;by_cases e:j=n'-1
  ·subst e;exact .inl (a2.b i (n'-1) (by assumption) (aZ 0x90c98b0c11) (by assumption))
  ·exact a2.a i j gD (aO 0x98b1c0091c0231003 hj e)
theorem kg(h:i<N):(XM (Yc N)).getD i 0=i:=by simp[Z9,h]
theorem JB(h1:1<=N):∃m p',gG (gP r) (kas_count N (XM (Yc N)))=(m,p')/\p'.size=N/\Ka r p' m/\wG p' N m/\1<=m/\m<=N:=by
 have hz:(XM (Yc N)).size=N:=by simp
 have hr:∀n,n<=N->wG (XM (Yc N)) N n:=λn hn=>⟨λi x hl=>kg hl,λi hi=>by refine xR (kg (bj 0x1200201013 hn hi)) hi⟩;unfold kas_count;simp only[gY];refine GP (J7 (r:=r) (N-1) 1 (λi j gD hj=>(aO 0x69101003 gD hj).elim) (hr 1 h1) (Xz _) (aZ 0x90c9b10912 h1)) λm e a1 a2 a3 a4 a5=>xR e ?_;by_cases hm:m=N
 ·refine xR (Vh (beq_iff_eq.mpr hm)) ⟨m,_,rfl,hz,a1,a2,by exact aZ 0x910912 a3,by exact aO 0x1011022 hm⟩
 ·refine xR (Vg (by rw[Vd];exact hm)) ?_;have je:=a5 (aO 0x90c9b10012390c9b110914 h1 a4 hm);split
  ·rename_i Cr;rw[lH];by_cases hc:r ((XM (Yc N)).getD 0 0)<r ((XM (Yc N)).getD (m-1) 0)
   ·have:gP r ((XM (Yc N)).getD 0 0) ((XM (Yc N)).getD (m-1) 0)=true:=Vb hc;refine xR this (xR (Vh rfl) ⟨m,_,rfl,hz,a1,a2,by exact aZ 0x910902 Cr,by exact aO 0x10109091c9b013 a4 Cr⟩)
   ·have:gP r ((XM (Yc N)).getD 0 0) ((XM (Yc N)).getD (m-1) 0)=false:=Va hc;refine xR this (xR (Vg ZP) ?_);have heq:=λi hi=>by
     have h0:r ((XM (Yc N)).getD 0 0)<=r ((XM (Yc N)).getD i 0):=by
      by_cases e:i=0
      ·refine xR e (Xz _)
      ·have:=a1 0 i (aZ 0x8080232 e) hi;unfold prec at this;exact eg 0x101320102410052 rfl this
     have h2:r ((XM (Yc N)).getD i 0)<=r ((XM (Yc N)).getD (m-1) 0):=by
      by_cases e:i=m-1
      ·refine xR e (Xz _)
      ·have:=a1 i (m-1) (aO 0x91c0091c0231003 hi e) (aO 0x191c01002 hi);unfold prec at this;exact eg 0x101320102410052 rfl this
     exact bj 0x12212120110034 hc h0 h2
    refine qG ((kas_rev_size _ _).trans hz) (λi j gD hj=>?_) (a2.rev (bj 0x2129091c9b211024 hz a4 Cr)) (aZ 0x910902 Cr) (aO 0x100090102391c9b014 a4 hm Cr) (λi hi=>?_)
    ·rw[d8 (by exact bj 0x2129091c9b211024 hz a4 Cr),d8 (by exact bj 0x2129091c9b211024 hz a4 Cr),Vh ⟨by exact aZ 0x811,hj⟩,Vh ⟨by exact aZ 0x811,by exact bj 0x2002101003 gD hj⟩];have:=heq (0+m-1-j) (aO 0x10918bcc01002 hj);have:=heq (0+m-1-i) (bj 0x12918bcc01002 hj);have e1:=kg (i:=0+m-1-j) (bj 0x12908bcc009091c9b013 a4 Cr);have e2:=kg (i:=0+m-1-i) (bj 0x12908bcc009091c9b013 a4 Cr);unfold prec;exact Rh 0x760532453050928bcc721928bcc624524322101007 rfl gD hj (by assumption) this e1 e2
    ·rw[d8 (by exact bj 0x2129091c9b211024 hz a4 Cr),d8 (by exact bj 0x2129091c9b211024 hz a4 Cr),Vg (by exact aZ 0x81431),Vh ⟨by exact aZ 0x811,hi⟩];have:=heq (0+m-1-i) (aO 0x10918bcc01002 hi);exact bj 0x2001221003 je this
  ·rename_i Cr;have ZbH:m=1:=aZ 0x90209030913 a3 Cr;subst ZbH;refine qG hz (λi j gD hj=>(aO 0x69101003 gD hj).elim) a2 (by assumption) (aZ 0x9009230913 h1 hm) (λi hi=>?_);have e:i=0:=aZ 0x8029002 hi;subst e;exact je
theorem sE(hs:Ka r p k):∀(f l u:Nat),l<=u->u<=k->u-l<=f->(∀i,i<l->r (p.getD i 0)<=r (p.getD k 0))->(∀i,u<=i->i<k->r (p.getD k 0)<r (p.getD i 0))->∃m,gG (gP r) (kas_place p k f l u)=m/\m<=k/\(∀i,i<m->r (p.getD i 0)<=r (p.getD k 0))/\∀i,m<=i->i<k->r (p.getD k 0)<r (p.getD i 0):=by
 intro f;induction f with
 |zero=>exactλl u h1 h2 h3 hl hu=>⟨l,rfl,by exact bj 0x2012111013 h1 h2,hl,λi hi hk=>hu i (bj 0x201211810c13 h3 hi) hk⟩
 |succ f ih=>
  intro l u h1 h2 h3 hl hu;rw[show kas_place p k (f+1) l u=(if l>=u then .ret l else .ask (p.getD k 0) (p.getD ((l+u)/2) 0) λc=>if c=true then kas_place p k f l ((l+u)/2)else kas_place p k f ((l+u)/2+1) u)from rfl];split
  ·exact⟨l,rfl,by exact bj 0x2012111013 h1 h2,hl,λi hi hk=>hu i (bj 0x2012111013 (by assumption) hi) hk⟩
  ·rw[lH];by_cases hc:r (p.getD k 0)<r (p.getD ((l+u)/2) 0)
   ·have:gP r (p.getD k 0) (p.getD ((l+u)/2) 0)=true:=Vb hc;rw[this];rw[Vh rfl];refine ih l ((l+u)/2) (eg 0x21102a3001b3202db210134 rfl (by assumption) (XG (l+u) (2)) (Xp (l+u) (Nat.le_of_ble_eq_true rfl:2>0))) (uv 0x13102b4302db220131014 rfl h2 (by assumption) (XG (l+u) (2))) (uv 0x213c101b4302db292b10c13 rfl h3 (XG (l+u) (2))) hl λi hi hk=>?_;by_cases e:i=(l+u)/2
    ·rw[e];exact hc
    ·have:=hs ((l+u)/2) i (aO 0x10001231013 hi e) hk;unfold prec at this;exact uv 0x200430212421051003 rfl hc this
   ·have:gP r (p.getD k 0) (p.getD ((l+u)/2) 0)=false:=Va hc;rw[this];rw[Vg ZP];refine ih ((l+u)/2+1) u (eg 0x92b101b3202db210133 rfl (by assumption) (XG (l+u) (2))) (aO 0x1011012 h2) (uv 0x293b0c102a4001b4302db292b10c14 rfl h3 (XG (l+u) (2)) (Xp (l+u) (Nat.le_of_ble_eq_true rfl:2>0))) (λi hi=>?_) hu;by_cases e:i=(l+u)/2
    ·rw[e];exact aO 0x1110032 hc
    ·have:=hs i ((l+u)/2) (aO 0x100102391b003 hi e) (uv 0x13002b4302db220131014 rfl h2 (by assumption) (XG (l+u) (2)));unfold prec at this;exact uv 0x214301224120510033 rfl hc this
theorem C1:∀(f:Nat)(p:Array Nat)(k:Nat),p.size=N->Ka r p k->wG p N k->k+f=N->∃p',gG (gP r) (kas_bin f p k)=p'/\p'.size=N/\Ka r p' N/\wG p' N N:=by
 intro f;induction f with
 |zero=>intro p k hz hs hr hk;have:k=N:=aO 0x102180b22 hk;subst this;exact⟨p,rfl,hz,hs,hr⟩
 |succ f ih=>
  intro p k hz hs hr hk;rw[show kas_bin (f+1) p k=(kas_place p k k 0 k).bind λl=>kas_bin f (bubble p k (k-l)) (k+1)from rfl,gY];refine yY (sE hs k 0 k (Xk _) (Xz _) (aZ 0x80c11) (λi hi=>bj 0x2118002 hi) (λi hi hk=>eg 0x3200101013 rfl hi hk)) λl e b1 b2 b3=>?_;rw[e];have hkk:=hr.1 k (Xz _) (bj 0x200291b0b22 hk);have hb:∀i,(bubble p k (k-l)).getD i 0=if i=l then p.getD k 0 else if l<i/\i<=k then p.getD (i-1) 0 else p.getD i 0:=λi=>by rw[I6 (by exact eg 0x20193b2b21023 rfl hz hk) (by exact aO 0x10c11)];have:k-(k-l)=l:=aO 0x1c1c21012 b1;rw[this]
  refine ih (bubble p k (k-l)) (k+1) ((bubble_size _ _ _).trans hz) (λi j gD hj=>?_) ⟨λi hi hl=>?_,λi hi=>?_⟩ (bj 0x2190bb2291b0b22 hk)
  ·rw[hb,hb];by_cases h1:j=l
   ·rw[Vg (show ¬i=l by exact bj 0x20232121003 gD h1),Vg (show ¬(l<i/\i<=k) by exact eg 0x301020432121003 rfl gD h1),Vh h1];have h2:=b2 i (bj 0x2002121003 gD h1);have h3:=hr.2 i (bj 0x20092b101003 gD hj);unfold prec;exact uv 0x40322432051403211024 rfl hkk h2 h3
   ·by_cases h2:i=l
    ·rw[Vh h2,Vg h1,Vh ⟨by exact bj 0x1202021003 gD h2,by exact aO 0x10191b002 hj⟩];exact .inl (b3 (j-1) (bj 0x91c212021003 gD h2) (bj 0x291c092b101003 gD hj))
    ·rw[Vg h2,Vg h1];by_cases h3:l<i
     ·rw[Vh ⟨h3,by exact bj 0x20192b101003 gD hj⟩,Vh ⟨by exact bj 0x1200201003 gD h3,by exact aO 0x10191b002 hj⟩];exact hs _ _ (bj 0x91c90c00201003 gD h3) (bj 0x291c092b101003 gD hj)
     ·rw[Vg (show ¬(l<i/\i<=k) by exact bj 0x2111004310032 h3)];split
      ·exact hs _ _ (eg 0x92c003212104010310234 rfl h2 h3 (by assumption)) (bj 0x291c021110042 (by assumption))
      ·exact hs _ _ (by assumption) (bj 0x12012120043022391b201015 b1 hj h1 (by assumption))
  ·rw[hb,Vg (by exact bj 0x223291b11013 b1 hi),Vg (by exact bj 0x1112043190b12 hi)];exact hr.1 i (aO 0x101190b12 hi) hl
  ·rw[hb];split
   ·exact aO 0x91b001022 hkk
   ·split
    ·have:=hr.2 (i-1) (bj 0x291c021110042 (by assumption));exact aO 0x91b001002 this
    ·have:=hr.2 i (bj 0x12012120043022391b201015 b1 hi (by assumption) (by assumption));exact aO 0x91b001002 this
theorem KU(h1:1<=N):∃p',gG (gP r) (kas_sort N)=p'/\p'.size=N/\Ka r p' N/\wG p' N N:=by
 unfold kas_sort;simp only[gY];refine EB (JB (r:=r) h1) λm p' e a1 a2 a3 a4 a5=>xR e ?_;split
 ·have:max m 1=m:=aZ 0x90cf20912 a4;refine xR this (C1 _ p' m a1 a2 a3 (aO 0x101c0b21002 (by assumption)))
 ·have:m=N:=aO 0x10210031013 a5 (by assumption);subst this;exact⟨p',rfl,a1,a2,a3⟩
theorem Bz(hf:∀i j,i<N->j<N->f i j=decide (r i<r j)):(dk f N).length=N/\(∀x∈dk f N,x<N)/\(dk f N).Pairwise (prec r):=by
 unfold dk;split
 ·rename_i h;refine⟨by simp,λx hx=>by simpa using hx,?_⟩;rcases N with⟨⟩|⟨⟩|N
  ·exact .nil
  ·exact List.pairwise_singleton _ _
  ·exact absurd h (by lia)
 ·rename_i h;have e:=sY hf _ (pd (aZ 0x8002a0032 h));refine xR e (yY (KU (r:=r) (N:=N) (aZ 0x9102a0032 h)) λp' e' a1 a2 a3=>xR e' ⟨by simp[a1],λx hx=>?_,?_⟩)
  ·obtain⟨i,hi,rfl⟩:=List.getElem_of_mem hx;have kU:i<p'.size:=by simpa using hi
   have:=a3.2 i (bj 0x1200201023 a1 kU);simpa[Z9,kU]using this
  ·rw[List.pairwise_iff_getElem];intro i j hi hj gD;have kU:i<p'.size:=by simpa using hi
   have Rx:j<p'.size:=by simpa using hj
   have:=a2 i j gD (bj 0x1200201023 a1 Rx);simpa[Z9,kU,Rx]using this
end
end Ks
end Mine.Internal
namespace Mine.Internal
namespace Mp
noncomputable def sS(f:Nat->Nat):Nat->Nat|0=>0|m+1=>sS f m+f m
noncomputable def dec(M:Nat->Nat)(v:Nat):Nat->Nat:=λu=>if u=v then M u-1 else M u
def wW(m:Nat):Nat->(Nat->Nat)->Nat|0,M=>1|n+1,M=>sS (λv=>if M v=0 then 0 else wW m n (dec M v)) m
def tm(m n:Nat)(M:Nat->Nat)(v:Nat):Nat:=if M v=0 then 0 else wW m n (dec M v)
theorem W_s{m n:Nat}{M:Nat->Nat}:wW m (n+1) M=sS (tm m n M) m:=rfl
def pl(m:Nat):List Nat->(Nat->Nat)->Nat|[],M=>0|x::xs,M=>sS (tm m xs.length M) x+pl m xs (dec M x)
theorem Zbe{m x:Nat}{xs:List Nat}{M:Nat->Nat}:pl m (x::xs) M=sS (tm m xs.length M) x+pl m xs (dec M x):=rfl
noncomputable def Bh:Nat->Nat|0=>1|n+1=>(n+1)*Bh n
def pF(M:Nat->Nat):Nat->Nat|0=>1|m+1=>pF M m*Bh (M m)
theorem D3:∀n,0<Bh n|0=>Nat.one_pos|n+1=>Nat.mul_pos (Xm n) (D3 n)
theorem xu(M:Nat->Nat):∀m,0<pF M m|0=>Nat.one_pos|m+1=>Nat.mul_pos (xu M m) (D3 _)
theorem nS{f g:Nat->Nat}:∀m,(∀v<m,f v=g v)->sS f m=sS g m|0,h=>rfl|m+1,h=>by show sS f m+f m=sS g m+g m;rw[nS m λv hv=>h v (Xu hv),h m (Xs m)]
theorem BE{f:Nat->Nat}{c:Nat}:∀m,sS f m*c=sS (λv=>f v*c) m|0=>Nat.zero_mul c|m+1=>by show(sS f m+f m)*c=sS (λv=>f v*c) m+f m*c;rw[Nat.add_mul,BE m]
theorem xb{f:Nat->Nat}:∀m,(∀v<m,f v=0)->sS f m=0|0,h=>rfl|m+1,h=>by show sS f m+f m=0;rw[xb m λv hv=>h v (Xu hv),h m (Xs m)]
theorem Hr{f:Nat->Nat}{v m:Nat}(hv:v<m)(h:∀u,v<u->u<m->f u=0):sS f m=sS f v+f v:=by
 induction m with
 |zero=>exact absurd hv (Xn v)
 |succ m ih=>
  by_cases e:v=m
  ·subst e;rfl
  ·have hm:v<m:=aO 0x100102391b003 hv e;show sS f m+f m=_;rw[ih hm λu h1 h2=>h u h1 (Xu h2),h m hm (Xs m),XH]
theorem Dw{f:Nat->Nat}{v:Nat}:∀m,v<m->sS f v+f v<=sS f m
 |0,h=>absurd h (Xn v)
 |m+1,h=>by
  by_cases e:v=m
  ·subst e;exact Xz _
  ·exact Xy (Dw m (aO 0x100102391b003 h e)) (XF _ _)
theorem xc{M:Nat->Nat}{v:Nat}(hv:M v≠0):∀m,v<m->sS (dec M v) m+1=sS M m
 |0,h=>absurd h (Xn v)
 |m+1,h=>by
  show sS (dec M v) m+dec M v m+1=sS M m+M m;by_cases e:v=m
  ·subst e;rw[nS (f:=dec M v) v λu hu=>Vg (Nat.ne_of_lt hu)];have:dec M v v=M v-1:=Vh rfl;exact bj 0x2b912bb290c1280233 hv this
  ·have:=xc hv m (aO 0x100102391b003 h e);have e2:dec M v m=M m:=Vg λq=>e q.symm;exact eg 0x31b920bb2322190b23 rfl this e2
theorem BY{M:Nat->Nat}{v:Nat}(hv:M v≠0):∀m,v<m->pF M m=M v*pF (dec M v) m
 |0,h=>absurd h (Xn v)
 |m+1,h=>by
  show pF M m*Bh (M m)=M v*(pF (dec M v) m*Bh (dec M v m));by_cases e:v=m
  ·subst e;have h1:∀k,k<=v->pF M k=pF (dec M v) k:=by intro k;induction k with|zero=>intro _;rfl|succ k ih=>intro hk;show pF M k*Bh (M k)=pF (dec M v) k*Bh (dec M v k);rw[ih (by exact aO 0x101190b12 hk),show dec M v k=M k from Vg (by exact aO 0x1023190b12 hk)]
   rw[h1 v (Xz v),show dec M v v=M v-1 from Vh rfl];refine aI (Nat.exists_eq_succ_of_ne_zero hv) λk hk=>?_;rw[hk];show _*((k+1)*Bh k)=(k+1)*(_*Bh (k+1-1));rw[Nat.add_sub_cancel,Nat.mul_left_comm]
  ·rw[BY hv m (by exact aO 0x100102391b003 h e),show dec M v m=M m from Vg λq=>e q.symm,Nat.mul_assoc]
theorem Es{m:Nat}:∀(n:Nat)(M:Nat->Nat),sS M m=n->wW m n M*pF M m=Bh n:=by
 intro n;induction n with
 |zero=>
  intro M h;have hz:∀k,k<=m->pF M k=1:=by
   intro k;induction k with
   |zero=>intro _;rfl
   |succ k ih=>
    intro hk;have:M k=0:=by have:=Dw (f:=M) m (show k<m by exact aO 0x100190b12 hk);exact bj 0x822021b18023 h this
    show pF M k*Bh (M k)=1;rw[ih (by exact aO 0x101190b12 hk),this];rfl
  rw[hz m (Xz m)];rfl
 |succ n ih=>
  intro M h;rw[W_s,BE,nS m λv hv=>?_,<-BE,h];rfl;unfold tm;by_cases q:M v=0
  ·rw[Vh q,q,Nat.zero_mul,Nat.zero_mul]
  ·rw[Vg q,BY q m hv,Nat.mul_left_comm,ih (dec M v) (by have:=xc q m hv;exact bj 0x122092b291b023 h this)]
theorem Zaw{m n v:Nat}{M:Nat->Nat}(h:sS M m=n+1)(hv:v<m):wW m (n+1) M*M v=(n+1)*tm m n M v:=by
 unfold tm;by_cases q:M v=0
 ·rw[Vh q,q,Nat.mul_zero,Nat.mul_zero]
 ·rw[Vg q];have h1:=Es (n+1) M h;have h2:=Es (m:=m) n (dec M v) (by have:=xc q m hv;exact bj 0x122092b291b023 h this);rw[BY q m hv,<-Nat.mul_assoc]at h1;refine Nat.eq_of_mul_eq_mul_right (xu (dec M v) m) ?_;rw[h1,Nat.mul_assoc,h2];rfl
theorem Zax{m n v:Nat}{M:Nat->Nat}(h:sS M m=n+1)(hv:v<m):wW m (n+1) M*M v/(n+1)=tm m n M v:=by rw[Zaw h hv,Xo _ (Xm n)]
noncomputable def cnt(xs:List Nat)(v:Nat):Nat:=xs.count v
theorem cnt_cons{x v:Nat}{xs:List Nat}:cnt (x::xs) v=cnt xs v+if x=v then 1 else 0:=by
 unfold cnt;rw[List.count_cons];by_cases h:x=v
 ·rw[Vh h,Vh (beq_iff_eq.mpr h)]
 ·rw[Vg h,Vg (by rw[Vd];exact h)]
theorem rK{x:Nat}{xs:List Nat}:dec (cnt (x::xs)) x=cnt xs:=funext λu=>by
 unfold dec;by_cases h:u=x
 ·rw[Vh h,cnt_cons,Vh h.symm,Nat.add_sub_cancel]
 ·rw[Vg h,cnt_cons,Vg (Xj h),XH]
theorem jy{xs ys:List Nat}(h:xs.Perm ys):cnt xs=cnt ys:=funext λv=>h.count_eq v
theorem tW{xs:List Nat}{v:Nat}(h:v∉xs):cnt xs v=0:=Zr.mpr h
theorem tX{x:Nat}{xs:List Nat}:cnt (x::xs) x≠0:=by rw[cnt_cons,Vh rfl];exact Nat.succ_ne_zero _
theorem rg{m x:Nat}{xs:List Nat}:tm m xs.length (cnt (x::xs)) x=wW m xs.length (cnt xs):=by unfold tm;rw[Vg tX,rK]
theorem iP{m x:Nat}{xs:List Nat}:pl m (x::xs) (cnt (x::xs))=sS (tm m xs.length (cnt (x::xs))) x+pl m xs (cnt xs):=by rw[Zbe,rK]
theorem rm{m:Nat}:∀xs:List Nat,(∀x∈xs,x<m)->xs.Pairwise (λa b=>b<=a)->pl m xs (cnt xs)+1=wW m xs.length (cnt xs)
 |[],h,hp=>rfl
 |x::xs,h,hp=>by
  rw[Ye]at hp;rw[iP,XK,rm xs (λy hy=>h y (Yv _ hy)) hp.2,<-rg,YS,W_s];exact(Hr (h x Yu) λu h1 h2=>by
   unfold tm;rw[Vh];exact tW λq=>by
    refine Xa (Yw.mp q) (λe=>aO 0x60121003 h1 e) λe=>?_
    ·have:=hp.1 u e;exact aO 0x60111003 h1 this).symm
theorem nZ{m:Nat}:∀xs:List Nat,xs.Pairwise (λa b=>a<=b)->pl m xs (cnt xs)=0
 |[],hp=>rfl
 |x::xs,hp=>by
  rw[Ye]at hp;rw[iP,nZ xs hp.2,XH];refine xb x λv hv=>?_;unfold tm;rw[Vh];exact tW λq=>by
   refine Xa (Yw.mp q) (λe=>aO 0x61021003 hv e) λe=>?_
   ·have:=hp.1 v e;exact aO 0x60111003 hv this
theorem DB{m:Nat}:∀xs:List Nat,(∀x∈xs,x<m)->pl m xs (cnt xs)<wW m xs.length (cnt xs)|[],h=>Nat.one_pos|x::xs,h=>by have h1:=DB xs λy hy=>h y (Yv _ hy);have h2:=Dw (f:=tm m xs.length (cnt (x::xs))) m (h x Yu);rw[rg]at h2;rw[iP,YS,W_s];exact eg 0x302b0312b11003 rfl h1 h2
theorem O1{m:Nat}{x y u:Nat}{s:List Nat}(h:∀v∈s,¬(x<v/\v<y))(h1:x<u)(h2:u<y)(n:Nat):tm m n (cnt (x::s)) u=0:=by
 unfold tm;rw[Vh];exact tW λq=>by
  refine Xa (Yw.mp q) (λe=>aO 0x60121003 h1 e) λe=>h u e ⟨h1,h2⟩
theorem NI{m x y:Nat}{s t:List Nat}(hs:∀v∈s,v<m)(h1:s.Pairwise (λa b=>b<=a))(h2:t.Pairwise (λa b=>a<=b))(hp:(y::t).Perm (x::s))(hxy:x<y)(hg:∀v∈s,¬(x<v/\v<y)):pl m (y::t) (cnt (y::t))=pl m (x::s) (cnt (x::s))+1:=by
 have hl:t.length=s.length:=by have:=hp.length_eq;simpa using this
 rw[iP,iP,nZ t h2,XH,XK,rm s hs h1,jy hp,hl,Hr hxy λu h1 h2=>O1 hg h1 h2 _,rg]
theorem Lm{m x y:Nat}{s t:List Nat}(ht:∀v∈t,v<m)(h1:s.Pairwise (λa b=>a<=b))(h2:t.Pairwise (λa b=>b<=a))(hp:(y::t).Perm (x::s))(hxy:y<x)(hg:∀v∈t,¬(y<v/\v<x)):pl m (y::t) (cnt (y::t))+1=pl m (x::s) (cnt (x::s)):=(NI ht h2 h1 hp.symm hxy hg).symm
theorem BU{m:Nat}:∀(p zs ys:List Nat),zs.Perm ys->∃A,pl m (p++zs) (cnt (p++zs))=A+pl m zs (cnt zs)/\pl m (p++ys) (cnt (p++ys))=A+pl m ys (cnt ys)
 |[],zs,ys,h=>⟨0,(Xl _).symm,(Xl _).symm⟩
 |x::p,zs,ys,h=>by
  refine av (BU (m:=m) p zs ys h) λA h1 h2=>?_;have hq:=h.append_left p;refine⟨sS (tm m (p++zs).length (cnt (x::(p++zs)))) x+A,?_,?_⟩
  ·rw[Zt,iP,h1,XK]
  ·rw[Zt,iP,h2,XK,hq.length_eq,jy (hq.cons x)]
end Mp
end Mine.Internal
namespace Mine.Internal
section
open PySem PySem.W PyProof.Rows
open Sem (wp)
theorem aa{α:Type}{a:α}{P:Prop}(h:Xe=Xd a):P:=nomatch h
set_option tactic.hygienic true in
theorem ak{α β:Type}{x:Option α}{f:α->Option β}{b:β}{P:Prop}(h:x.bind f=Xd b)(k:∀a,x=Xd a->f a=Xd b->P):P:=by
 rcases x with⟨⟩;case none=>exact aa h
 case some a=>exact k a rfl h
set_option tactic.hygienic true in
theorem ba{α β:Type}{x:Option α}{f:α->β}{b:β}{P:Prop}(h:x.map f=Xd b)(k:∀a,x=Xd a->f a=b->P):P:=by
 rcases x with⟨⟩;case none=>exact aa h
 case some a=>exact k a rfl (Xc h)
theorem aL{c:Prop}{_:Decidable c}{β:Type}{x:Option β}{b:β}{P:Prop}(h:(if c then x else Xe)=Xd b)(k:c->x=Xd b->P):P:=by
 split at h
 ·rename_i hc;exact k hc h
 ·exact aa h
theorem xX{c:Prop}{_:Decidable c}{β:Type}{x:Option β}{b:β}{P:Prop}(h:(if c then Xe else x)=Xd b)(k:¬c->x=Xd b->P):P:=by
 split at h
 ·exact aa h
 ·rename_i hc;exact k hc h
noncomputable def holders:List String:=WY.Bytes.decodersThatHold++["bytearray.__contains__","bytearray.__mod__","bytearray.__rmod__","_struct.pack_into.held","bytearray.find.held"]
noncomputable def ka:Code->Bool| .builtin id _=> !holders.contains id|_=>true
set_option backward.match.sparseCases true in
noncomputable def isCaller:Code->Bool| .builtin "claim.caller" _=>true|_=>false
def Kd(Γ:Ctx):Prop:=(∀x∈Γ.below,ka x.1=true)/\∃x∈Γ.below,isCaller x.1=true
def Clean(Γ:Ctx):Prop:=ka Γ.code=true/\(∀x∈Γ.below,ka x.1=true)/\(isCaller Γ.code=true\/∃x∈Γ.below,isCaller x.1=true)
theorem Clean.enter(h:Clean Γ)(c:Code)(hd:Option VO)(p:Pos):Kd (Γ.enter c hd p):=by
 refine⟨λx hx=>(Xa (Yw.mp hx) (λq=>xR q h.1) λq=>h.2.1 x q),(Xa h.2.2 (λq=>⟨(Γ.code,p),Yu,q⟩) λy0=>av y0 λx hx q=>⟨x,Yv _ hx,q⟩)⟩
def aP{α:Type}(M:Model)(A:W6)(t:V0 α)(Q:α->VY->Prop)(E:VO->VY->Prop)(s:VY):Prop:=∀Γ p,Γ.In A->Clean Γ/\0<s.toks->wp M Γ t (λa x s'=>Q a s') (λe x s'=>E e s') p s
def cK(M:Model)(A:W6)(c:Code)(R:V6->VY->Prop)(s:VY):Prop:=∀Γ p,Γ.code=c->Γ.Below A->Kd Γ/\0<s.toks->wpCode M Γ R p s
end
section
open PySem PySem.W PyProof.Rows
open Sem (wp)
variable {α β:Type} {M:Model} {A:W6} {E:VO->VY->Prop} {s:VY} {ag:WH}
theorem aq{Q:α->VY->Prop}(h:Vw M A t Q E s):aP M A t Q E s:=λΓ p jG x=>h Γ p jG
theorem JI{R:V6->VY->Prop}(h:codeAny M A c R s):cK M A c R s:=λΓ p hc jG x=>h Γ p hc jG
theorem ao{Q:α->VY->Prop}(h:Q a s):aP M A (pure a) Q E s:=λx x x x=>h
theorem aE{Q Q':α->VY->Prop}{E':VO->VY->Prop}(h:aP M A t Q E s)(hQ:∀a s,Q a s->Q' a s)(hE:∀e s,E e s->E' e s):aP M A t Q' E' s:=λΓ p jG hc=>VZ M Γ t (λa x s=>hQ a s) (λe x s=>hE e s) p s (h Γ p jG hc)
theorem ab{Q:β->VY->Prop}(h:aP M A m (λa s'=>aP M A (f a) Q E s') E s):aP M A (m>>=f) Q E s:=λΓ p jG hc=>by simp only[V0.wp_bind'];exact VZ M Γ m (λa p' s' h'=>h'.2 Γ p' jG ⟨hc.1,h'.1⟩) (λx x x h'=>h'.2) p s (V0.wp_toks M Γ 1 m _ _ p s hc.2 (h Γ p jG hc))
theorem au{Q:Unit->VY->Prop}(h:Q () s):aP M A (standAt pos) Q E s:=aq (wpAny_standAt h)
theorem jh{Q:Unit->VY->Prop}(h:Q () s):aP M A (rule tag) Q E s:=aq (wpAny_rule h)
theorem az{Q:α->VY->Prop}(h:aP M A m Q E s):aP M A (holding vs m) Q E s:=λΓ p jG hc=>by rw[V0.wp_holding];exact h Γ p jG hc
theorem nH{Q:VO->VY->Prop}(h:aP M A m Q E s):aP M A (operate vs m) Q E s:=λΓ p jG hc=>by rw[V0.wp_operate];exact h Γ p jG hc
theorem dj{Q:α->VY->Prop}(h:aP M A m Q (λe s'=>aP M A (k e) (λx iF=>E e iF) E s') s):aP M A (m.onRaise k) Q E s:=λΓ p jG hc=>Eq.mpr (V0.wp_onRaise ..) <|VZ M Γ m (λx x x h'=>h'.2) (λe p' s' h'=>h'.2 Γ p' jG ⟨hc.1,h'.1⟩) p s (V0.wp_toks M Γ 1 m _ _ p s hc.2 (h Γ p jG hc))
theorem kX{Q:Except VO α->VY->Prop}(h:aP M A m (λa=>Q (.ok a)) (λe=>Q (.error e)) s):aP M A m.attempt Q E s:=λΓ p jG hc=>Eq.mpr (V0.wp_attempt ..) (h Γ p jG hc)
theorem Dh{c:Prop}[Decidable c]{Q:α->VY->Prop}(h:if c then aP M A a Q E s else aP M A b Q E s):aP M A (if c then a else b) Q E s:=by split<;>simp_all
theorem bY{Q:α->VY->Prop}(h:t=pure a)(hQ:Q a s):aP M A t Q E s:=h▸ao hQ
def mX(M:Model)(A:W6)(ag:WH)(E:VO->VY->Prop):VO->VY->Prop:=λx s'=>aP M A (noteFrame x ag) (λy iF=>E x iF) E s'
theorem eG{Q:α->VY->Prop}(h:aP M A m Q (mX M A ag E) s):aP M A (m.onRaise λx=>do noteFrame x ag;theTreesLotGoes x) Q E s:=dj (aE h (λy y q=>q) λy y hx=>ab (aE hx (λy y e=>aq (wpAny_theTreesLotGoes e)) λy y e=>e))
theorem za{Q:α->VY->Prop}(h:aP M A m Q (mX M A ag E) s):aP M A (m.onRaise λx=>do noteFrame x ag;standAt pos) Q E s:=dj (aE h (λy y q=>q) λy y hx=>ab (aE hx (λy y e=>au e) λy y e=>e))
set_option backward.match.sparseCases true in
theorem Dg{Q:WA->VY->Prop}(hc:cK M (A.mark h) c (λr s'=>match r with| .ok f=>Q f s'| .error e=>E e s') s)(Ul:h≠Xd byPass):aP M A (run c h) Q E s:=λΓ p jG cl=>Eq.mpr (V0.wp_run ..) (hc _ p rfl (jG.enter c h p Ul) ⟨cl.1.enter c h p,cl.2⟩)
set_option backward.match.sparseCases true in
theorem wN{Q:VO->VY->Prop}(hc:cK M A c (λr s'=>match r with| .ok (.ret v)=>Q v s'| .ok _=>False| .error e=>E e s') s):aP M A (runValue c) Q E s:=λΓ p jG cl=>Eq.mpr (V0.wp_runValue ..) (hc _ p rfl (jG.enter c Xe p (by intro x;exact aa x)) ⟨cl.1.enter c Xe p,cl.2⟩)
set_option backward.match.sparseCases true in
theorem kW{Q:VO->VY->Prop}(hc:cK M A (.call f ⟨pos,kw⟩) (λr s'=>match r with| .ok (.ret v)=>Q v s'| .ok _=>False| .error e=>E e s') s):aP M A (call f pos kw) Q E s:=wN hc
set_option backward.match.sparseCases true in
theorem bw{R:V6->VY->Prop}(h:aP M (A.under c) (M.den c) (λfin s'=>match fin with| .done f=>R (.ok f) s'| .again c'=>c'.quiet=true/\cK M A c' R s') (λe s'=>R (.error e) s') s)(hk:ka c=true):cK M A c R s:=λΓ p hc jG cl=>by rw[wpCode_iff_wp,hc];refine VZ M Γ _ (λfin p' s' h'=>?_) (λx x x h'=>h'.2) p s (V0.wp_toks M Γ 1 _ _ _ p s cl.2 (h Γ p (hc▸jG.in) ⟨⟨by refine xR hc ?_;exact hk,cl.1.1,.inr cl.1.2⟩,cl.2⟩));refine aU h' λht h'=>?_;cases fin with|done f=>exact h'|again c'=>exact⟨h'.1,h'.2 (Γ.goto c') p' rfl (jG.goto c') ⟨cl.1,ht⟩⟩
theorem GS{Q:α->VY->Prop}(h:0<s.toks->aP M A t Q E s):aP M A t Q E s:=λΓ p jG hc=>h hc.2 Γ p jG hc
theorem nk{R R':V6->VY->Prop}(h:cK M A c R s)(hR:∀r s,R r s->R' r s):cK M A c R' s:=λΓ p hc jG cl=>wpCode_mono hR (h Γ p hc jG cl)
def Ed(M:Model)(A:W6)(ag:WH)(E:VO->VY->Prop):VO->VY->Prop:=λx s'=>aP M A (do
  if(<-field x 1)== .none then unsupported "frame.own-activation:exception-without-traceback"
  setFlight x ag.frame) (λy iF=>E x iF) E s'
set_option backward.match.sparseCases true in
theorem eY{Q:WA->VY->Prop}(hc:cK M (A.mark h) c (λr s'=>match r with| .ok f=>Q f s'| .error e=>Ed M A ag E e s') s)(Ul:h≠Xd byPass):aP M A (runOwn c ag h) Q E s:=by delta runOwn;exact dj (Dg hc Ul)
theorem nsm:(Xe:Option VO)≠Xd byPass:=by intro x;cases x
theorem ee{Q:List VO->VY->Prop}(h:Q [] s):aP M A (spliced (backTo pos (starEach [] ag))) Q E s:=ao h
theorem b8{Q:List VO->VY->Prop}(h:aP M A (eval e ag) (λv aA=>aP M A (spliced (backTo pos (starEach rest ag))) (λvs cx=>Q (v::vs) cx) E aA) E s)(he:starEach (e::rest) ag=(false,eval e ag)::starEach rest ag):aP M A (spliced (backTo pos (starEach (e::rest) ag))) Q E s:=by
 refine xR he ?_;show aP M A (do
  let v <-eval e ag;let here <-(pure [v]:V0 (List VO));return here++(<-holding here (spliced (backTo pos (starEach rest ag))))) Q E s
 exact ab (aE h (λv aA bF=>ab (ao (ab (az (aE bF (λvs cx gQ=>ao gQ) λy y x=>x))))) λy y x=>x)
theorem zc{Q:VO->VY->Prop}(h:aP M A (spliced (backTo pos (starEach elts ag))) (λvs aA=>vs.length<=sizeLine/\Q (.ref aA.heap.objs.size) {aA with heap:=aA.heap.push {cls:=.type "list",data:=.seq vs.toArray}}) E s):aP M A (eval (.List elts pos) ag) Q E s:=by rw[arm_eval_List];exact ab (au (ab (aE h (λvs aA bF=>aq (Vm bF.2 (by show vs.toArray.size<=sizeLine;refine xR XS bF.1))) λy y x=>x)))
theorem EG{Q:VO->VY->Prop}(h:aP M A (spliced (backTo pos (starEach elts ag))) (λvs aA=>vs.length<=sizeLine/\Q (.ref aA.heap.objs.size) {aA with heap:=aA.heap.push {cls:=.type "tuple",data:=.seq vs.toArray}}) E s):aP M A (eval (.Tuple elts k pos) ag) Q E s:=by rw[arm_eval_Tuple];exact ab (au (ab (aE h (λvs aA bF=>aq (Vm bF.2 (by show vs.toArray.size<=sizeLine;refine xR XS bF.1))) λy y x=>x)))
theorem EH{lower upper step:Option Expr}{p:Pos}{Q:VO->VY->Prop}(h:aP M A (evalPart lower ag) (λl aA=>aP M A (evalPart upper ag) (λu cx=>aP M A (evalPart step ag) (λst mR=>Q (.ref mR.heap.objs.size) {mR with heap:=mR.heap.push {cls:=.type "slice",data:=.fields #[l,u,st]}}) E cx) E aA) E s):aP M A (eval (.Slice lower upper step p) ag) Q E s:=by rw[arm_eval_Slice];exact ab (aE h (λl aA bF=>ab (az (aE bF (λu cx gQ=>ab (az (aE gQ (λst mR Ak=>aq (Vm Ak)) λy y x=>x))) λy y x=>x))) λy y x=>x)
theorem qh{Q:VO->VY->Prop}(h:aP M A (eval x ag) (λv aA=>aP M A (unaryOp op v) Q E aA) E s):aP M A (eval (.UnaryOp op x pos) ag) Q E s:=by rw[arm_eval_UnaryOp];exact ab (aE h (λv aA bF=>ab (au (az bF))) λy y x=>x)
theorem EI{Q:VO->VY->Prop}(h:aP M A (isTrue test ag (eval test ag)) (λb aA=>if b then aP M A (eval body ag) Q E aA else aP M A (eval orelse ag) Q E aA) E s):aP M A (eval (.IfExp test body orelse pos) ag) Q E s:=by rw[arm_eval_IfExp];refine ab (aE h (λb aA bF=>?_) λy y x=>x);rcases b with⟨⟩<;>exact bF
theorem OU{Q:WA->VY->Prop}(h:aP M A (isTrue test ag (eval test ag)) (λb cx=>if b then aP M A (execs body ag) Q E cx else aP M A (execs orelse ag) Q E cx) E s):aP M A (exec (.If test body orelse pos) ag) Q E s:=by rw[exec_If];refine ab (au (ab (aE h (λb aA bF=>?_) λy y x=>x)));rcases b with⟨⟩<;>exact bF
theorem kB{Q:WA->VY->Prop}(h:aP M A (eval e ag) (λv=>Q (.ret v)) E s):aP M A (exec (.Return (Xd e) pos) ag) Q E s:=by rw[exec_Return_some];exact ab (au (ab (aE h (λv aA bF=>ao bF) λy y x=>x)))
set_option backward.match.sparseCases true in
theorem zd{Q:WA->VY->Prop}(h:aP M A (eval e ag) (λv s'=>match v with| .ref _=>False|_=>Q .next s') E s)(hi:interactive ag=false)(hs:swapsWith e Xe pos.line ag=pure false):aP M A (exec (.Expr e pos) ag) Q E s:=by
 refine xR (exec_Expr ag e pos hi hs) ?_;refine ab (au (ab (aE h (λv s' h'=>?_) λy y x=>x)));have hv:∀a,v≠.ref a:=λa Rq=>by subst Rq;exact h'
 refine xR (dropValue_plain hv) ?_;refine ao ?_;rcases v with⟨⟩<;>first|exact h'|exact(hv _ rfl).elim
theorem EJ{Q:VO->VY->Prop}(h:aP M A (eval l ag) (λa aA=>aP M A (eval r ag) (λb cx=>aP M A (binaryOp op a b) Q E cx) E aA) E s):aP M A (eval (.BinOp l op r pos) ag) Q E s:=by rw[eval_BinOp];exact ab (aE h (λa aA bF=>ab (az (aE bF (λb cx gQ=>ab (au (nH gQ))) λy y x=>x))) λy y x=>x)
theorem bG{Q:WA->VY->Prop}(h:aP M A (eval value ag) (λv aA=>aP M A (assignAll v ((assignEach targets ag).map (·.2))) (λy=>Q .next) E aA) E s)(hs:swapsWithSole targets value pos.line ag=pure false)(hw:swappedStores targets value ag=pure Xe):aP M A (exec (.Assign targets value pos) ag) Q E s:=by simp only[exec_Assign_arm];refine ab (au ?_);refine xR hs (ab (ao ?_));refine xR (Vg (by decide)) (ab (aE h (λv aA bF=>?_) λy y x=>x));refine xR hw (ab (ao ?_));exact ab (aE bF (λy y x=>ao x) λy y x=>x)
theorem gu{Q:WA->VY->Prop}(h:aP M A (eval value ag) (λv aA=>aP M A (eval o ag) (λov cx=>aP M A (eval i ag) (λiv mR=>aP M A (setItem ov iv v) (λx=>Q .next) E mR) E cx) E aA) E s)(hs:swapsWith value (Xd (.Subscript o i pos')) pos.line ag=pure false):aP M A (exec (.Assign [.Subscript o i pos'] value pos) ag) Q E s:=λΓ p jG hc=>by obtain⟨L,eL⟩:∃L:VO->VO->VO->List VO,∀v,assign (.Subscript o i pos') ag v=(do let ov <-holding [v] (eval o ag);let iv <-holding [v,ov] (eval i ag);standAt pos';holding [v,ov,iv] (setItem ov iv v);release (L v ov iv) []):=⟨_,λv=>rfl⟩;simp only[exec_Assign_Subscript o i pos' value pos hs,eL,V0.wp_bind',V0.wp_holding,V0.wp_cmd_standAt,V0.wp_release,V0.wp_pure'];refine VZ M Γ _ ?_ (λx x x h'=>h'.2) _ _ (V0.wp_toks M Γ 1 _ _ _ _ _ hc.2 (h Γ _ jG hc));refineλv Zba aA bF=>VZ M Γ _ ?_ (λx x x h'=>h'.2) _ _ (V0.wp_toks M Γ 1 _ _ _ _ _ bF.1 (bF.2 Γ Zba jG ⟨hc.1,bF.1⟩));refineλov Za9 cx gQ=>VZ M Γ _ ?_ (λx x x h'=>h'.2) _ _ (V0.wp_toks M Γ 1 _ _ _ _ _ gQ.1 (gQ.2 Γ Za9 jG ⟨hc.1,gQ.1⟩));exactλiv Zcx mR Ak=>Ak.2 Γ _ jG ⟨hc.1,Ak.1⟩
set_option backward.match.sparseCases true in
theorem EF{Q:WA->VY->Prop}(h:cK M A (.whileLoop test body orelse ag) (λr s'=>match r with| .ok f=>Q f s'| .error e=>Ed M A ag E e s') s):aP M A (exec (.While test body orelse pos) ag) Q E s:=by rw[exec_While];exact ab (au (eY h nsm))
theorem o7{Q:Bool->VY->Prop}(h:aP M A whole (λv aA=>aP M A (truthy v) Q E aA) E s)(he:isTrue e ag whole=(do let v <-whole;standAt e.pos;holding [v] (truthy v))):aP M A (isTrue e ag whole) Q E s:=by refine xR he (ab (aE h (λv aA bF=>ab (au (az bF))) λy y x=>x))
theorem rS{Q:Bool->VY->Prop}(h:aP M A (isTrue x ag (eval x ag)) (λb aA=>Q (!b) aA) E s):aP M A (isTrue (.UnaryOp .Not x pos) ag whole) Q E s:=by rw[arm_isTrue_UnaryOp];exact ab (aE h (λb aA bF=>ao bF) λy y x=>x)
theorem nJ{Q:Bool->VY->Prop}(h:aP M A (allTrue op values ag) Q E s):aP M A (isTrue (.BoolOp op values pos) ag whole) Q E s:=by rw[arm_isTrue_BoolOp];exact h
theorem gf{Q:WA->VY->Prop}(h:Q .next s):aP M A (execs [] ag) Q E s:=λx x x x=>h
set_option backward.match.sparseCases true in
theorem bW{st:VW}{rest:List VW}{Q:WA->VY->Prop}(h:aP M A (exec st ag) (λf s'=>match f with| .next=>aP M A (execs rest ag) Q E s'|f=>Q f s') E s):aP M A (execs (st::rest) ag) Q E s:=by rw[execs_cons];refine ab (aE h (λf s' h'=>?_) λy y x=>x);rcases f with⟨⟩<;>first|exact h'|exact ao h'
theorem mC{Q:VO->VY->Prop}(h:aP M A (eval value ag) (λo aA=>aP M A (eval slice ag) (λi cx=>aP M A (subscriptTail value slice o i) Q E cx) E aA) E s):aP M A (eval (.Subscript value slice pos) ag) Q E s:=by rw[eval_Subscript];exact ab (aE h (λo aA bF=>ab (az (aE bF (λi cx gQ=>ab (au gQ)) λy y x=>x))) λy y x=>x)
end
section
open PySem PySem.W PyProof.Rows
open Sem (wp)
variable {prog:Wf} {w:World} {A:W6} {s:VY} {R:V6->VY->Prop}
set_option backward.match.sparseCases true in
theorem CP(h:aP (VB prog w) (A.deeper ag) (execs body ag) (λf s'=>R (.ok (.ret (match f with| .ret v=>v|_=>.none))) s') (λe s'=>aP (VB prog w) (A.deeper ag) (leaving ag e) (λx iF=>R (.error e) iF) (λe' iF=>R (.error e') iF) s') s):cK (VB prog w) A (.func body ag) R s:=by refine bw ?_ rfl;show aP _ (A.deeper ag) (do point;match <-(execs body ag).onRaise (leaving ag)with| .ret v=>ret v|_=>ret .none) _ _ s;refine ab (aq (wpAny_point (ab (dj (aE h (λf s' h'=>?_) λx x h'=>h')))));rcases f with⟨⟩<;>exact ao h'
theorem mx(An:A.depth<recursionLimit)(ho:s.heap.get? a=Xd o)(di:o.data=.func fd)(Me:fd.scope.isCoroutine=false)(Qf:fd.scope.isGenerator=false)(eA:fd.body=.stmts body)(Ol:s.heap.CodeRec fd.code fd.qualname)(h:aP (VB prog w) A.in1 (bindArgs fd args) (λbinds aA=>aP (VB prog w) A.in1 (newFunctionEnv fd.scope fd.globals fd.closure binds (fd.qualname++".<locals>.") (Xd a) fd.code Xe fd.builtins) (λag cx=>cx.heap.NoLimit/\cK (VB prog w) A (.func body ag) R cx) (λe s'=>R (.error e) s') aA) (λe s'=>R (.error e) s') s):cK (VB prog w) A (.call (.ref a) args) R s:=by refine bw ?_ rfl;refine ab (aq (Vo ho ?_));refine de Ol λc oc vs tq hc Ru hdc hq=>?_;rw[di];show aP _ _ (callFunction a fd args) _ _ _;delta callFunction;rw[hc,eA,Qf,Me];rw[hc]at h;refine ab (aq (Vq Ru hdc hq (ab (ao ?_))));exact ab (aE h (λbinds aA bF=>ab (aE bF (λag cx gQ=>ab (aq (wpAny_enterFrame gQ.1 An (ao (And.intro rfl gQ.2))))) λx x h'=>h')) λx x h'=>h')
set_option backward.match.sparseCases true in
theorem jx(An:A.depth<recursionLimit)(ho:s.heap.get? a=Xd o)(Uy:o.data=.func fd)(ZcB:s.heap.NoLimit)(Ol:s.heap.CodeRec fd.code fd.qualname)(eA:fd.body=.stmts body){B:VY->Prop}(oy:aP (VB prog w) A.in1 (bindArgs fd ⟨vals,[]⟩) (λbs aA=>bs=binds/\B aA) (λe s'=>R (.error e) s') s)(hB:∀aA,B aA->aA.heap.NoLimit)(ZbW:fd.closure=[])(mJ:∀aA,B aA->∀x∈binds,fd.scope.names.lookup x.1=Xd .local\/(fd.scope.names.lookup x.1=Xd .cell/\((cellsFrom (aA.heap.objs.size+1) fd.scope.names []).lookup x.1).isSome=true))(h:∀aH aA,B aH->InCallC aH (callEnvC fd aH.heap.objs.size a).locals (bindL (callEnvC fd aH.heap.objs.size a).kindOf binds λy=>Xe) (callEnvC fd aH.heap.objs.size a).cells (bindC (callEnvC fd aH.heap.objs.size a).kindOf binds λy=>Xe) aA->aP (VB prog w) (A.deeper (callEnvC fd aH.heap.objs.size a)) (execs body (callEnvC fd aH.heap.objs.size a)) (λf s'=>R (.ok (.ret (match f with| .ret v=>v|_=>.none))) s') (λe s'=>aP (VB prog w) (A.deeper (callEnvC fd aH.heap.objs.size a)) (leaving (callEnvC fd aH.heap.objs.size a) e) (λy iF=>R (.error e) iF) (λe' iF=>R (.error e') iF) s') aA)(Me:fd.scope.isCoroutine=false)(Qf:fd.scope.isGenerator=false)(hk:fd.scope.kind=.function):cK (VB prog w) A (.call (.ref a) ⟨vals,[]⟩) R s:=by refine mx An ho Uy Me Qf eA Ol (aE oy (λbs aA hb=>?_) λy y x=>x);refine aU hb ?_;rintro(rfl)hb;refine xR ZbW ?_;refine aq (wpAny_newFunctionEnv_cells hk (mJ aA hb) λag he s' x=>?_);subst he;exact⟨(hB aA hb).keeps x.toInCall.keep,CP (h aA s' hb x)⟩
end
section
open PySem PySem.W PyProof.Rows
open Sem (wp)
variable {M:Model} {A:W6} {E:VO->VY->Prop} {s:VY} {ag:WH}
theorem y9{α:Type}{c:Prop}[Decidable c]{pos:Pos}{k:PUnit->V0 α}{Q:α->VY->Prop}(h:aP M A (k ()) Q E s):aP M A (if c then(standAt pos>>=k)else k ()) Q E s:=by
 split
 ·exact ab (au h)
 ·exact h
theorem wQ{Q:Unit->VY->Prop}(h:aP M A (storeName ag x v) Q E s):aP M A (bindName ag x v) Q E s:=λΓ p jG hc=>by rw[V0.wp_bindName];exact h Γ p jG hc
theorem GU{Q:VO->VY->Prop}(h:aP M A (loadName ag x) Q E s)(hd:(x==("__debug__":VV))=false):aP M A (eval (.Name x pos) ag) Q E s:=by refine xR (eval_Name ag x pos hd) (ab (au h))
theorem Kr{Q:VO->VY->Prop}(h:aP M A (truthy v) (λb aA=>Q (.bool (!b)) aA) E s):aP M A (unaryOp .Not v) Q E s:=by unfold unaryOp;refine az (ab (aE h (λb aA bF=>ao bF) λy y x=>x))
theorem zb{α:Type}{vs:List VO}{m:V0 α}{Q:α->VY->Prop}(h:aP M A m Q E s):aP M A (m.keep vs) Q E s:=λΓ p jG hc=>by rw[V0.wp_keep];exact h Γ p jG hc
theorem iz{pos:Pos}{a:W8}{o:Obj}{fd:FuncData}{first:List VO}{args:List (Bool×V0 VO)}{Q:VO->VY->Prop}(h:aP M A (evalArgs (.ref a) true args []) (λx aA=>(aA.heap.get? a=Xd o/\o.data=.func fd)/\aP M A (call (.ref a) (first++x.pos) x.kw) Q E aA) E s):aP M A (callWith pos (.ref a) first args []) Q E s:=by
 unfold callWith;refine ab (az (aE h (λx aA bF=>ab (au ?_)) λy y x=>x));have tail:∀{t:V0 VO},aP M A t Q E aA->aP M A (t>>=λr=>holding [r] point>>=λy=>pure r) Q E aA:=λht=>ab (aE ht (λr cx hr=>ab (az (aq (wpAny_point (ao hr))))) λy y x=>x);cases hs:args.any (·.1)<;>refine ab ?_<;>unfold keeperOf<;>refine ab (aq (Vo bF.1.1 ?_))<;>rw[bF.1.2]<;>refine ao ?_
 ·first|refine Dh ?_|skip
  split<;>first|exact tail bF.2|exact tail (by unfold callMarked;exact zb bF.2)
 ·first|exact tail (by unfold callMarked;exact zb bF.2)|exact tail bF.2
def fX(M:Model)(A:W6)(E:VO->VY->Prop)(use:Option (VO->V0 Unit))(Q:VO->VY->Prop)(aY:VO)(C:W8)(r:V6)(s':VY):Prop:=match r,use with
 | .ok _,Xe=>∃m,s'.heap.Ns C m/\∀h',Ww C s'.heap h'->Q aY {s' with heap:=h'}
 | .ok _,Xd u=>aP M A (u aY) (λx iF=>∃m,iF.heap.Ns C m/\∀h',Ww C iF.heap h'->Q .none {iF with heap:=h'}) E s'
 | .error _,_=>False
theorem jN{e:Expr}{scope:V5}{pos:Pos}{xF first:V0 VO}{g:WI}{gs:List WI}{cl:List (VV×W8)}{use:Option (VO->V0 Unit)}{Q:VO->VY->Prop}(tw:clausesOf e=g::gs)(hs:∀x,foldedSetIterable g.iter ag x=pure x)(I0:closureFor scope ag=pure cl)(mJ:scope.kind=.function)(Cq:∀x∈scope.names,x.2=.local->scope.names.lookup x.1=Xd .local)(h:aP M A first (λx aA=>aP M A (pyIter x) (λit cx=>aP M A xF (λaY mR=>aP M A (newFunctionEnv scope ag.globals cl [] ag.qual Xe .none (Xd ag)) (λdy R9=>cK M A (.compStart e 0 it aY {dy with scope:=relabel scope ag}) (fX M A E use Q aY dy.locals) R9) E mR) E cx) E aA) E s):aP M A (comprehension e scope ag pos xF false first use) Q E s:=by
 revert pos gs tw hs I0 mJ Cq h
 refine no_implicit_lambda% (rR (bT (bT (bT (bT neM rB) (bT pA U8)) U8) U8) ?_ M A s scope ag E Q e use cl xF first g)
 generalize gE _ _=tt
 dsimp only[Gy]
 generalize tt.1.1.1.1=M,tt.1.1.1.2=A,tt.1.1.2.1=s,tt.1.1.2.2=scope,tt.1.2.1.1=ag,tt.1.2.1.2=E,tt.1.2.2=Q,tt.2.1.1.1=e,tt.2.1.1.2=use,tt.2.1.2=cl,tt.2.2.1.1=xF,tt.2.2.1.2=first,tt.2.2.2=g
 intro pos gs tw hs I0 mJ Cq h
 unfold comprehension
 refine xR I0 (xR tw ?_)
 refine ab (aE h (λx aA bF=>ab (au (ab (bY (hs x) (ab (az (aE bF (λit cx gQ=>y9 (ab (aE gQ (λaY mR Ak=>ab (ao (ab (aE Ak (λdy R9 Zbr=>?_) λy y h'=>h')))) λy y h'=>h'))) λy y h'=>h'))))))) λy y h'=>h')
 have hv:∀x∈(scope.names.filter λx=>(x.2== .local||x.2== .cell)&&x.1 !=(".0":VV)).reverse,x.2=.local->WH.kindOf {dy with scope:=relabel scope ag} x.1=Xd .local:=λx hx hl=>lookup_relabel_local (Cq x (Yt.mp (Yj.mp hx)).1 hl)
 have PW:∀x∈(scope.names.filter λx=>(x.2== .local||x.2== .cell)&&x.1 !=(".0":VV)).reverse.drop 1++(scope.names.filter λx=>(x.2== .local||x.2== .cell)&&x.1 !=(".0":VV)).reverse.take 1,x.2=.local->WH.kindOf {dy with scope:=relabel scope ag} x.1=Xd .local:=λx hx hl=>by
  refine Xa (Yz.mp hx) (λh1=>hv x (Yn h1) hl) λh1=>hv x (Ym h1) hl
 refine az (ab (kX (az (Dg (nk Zbr λr s' hr=>?_) (by intro x;cases x)))))
 rcases r with⟨⟩
 case ok=>
  rcases use with⟨⟩;case none=>refine av hr λm hn hr=>ab (az (aq (wpAny_comp_letGo mJ _ s' m hv hn λh' m' y Am=>ao (hr h' Am))))
  case some=>refine ab (jh (ab (az (aE hr (λy iF rE=>?_) λy y h'=>h'))));refine av rE λm hn rE=>ab (aq (wpAny_comp_letGo mJ _ iF m PW hn λh' m' y Am=>ao (rE h' Am)))
 case error=>exact(show False from by rcases use with⟨⟩<;>exact hr).elim
end
open PySem PySem.W PyProof.Rows
noncomputable abbrev pw:Wf:=PySem.Challenge.pw_pk0032_02
noncomputable abbrev iCv:Nat:=6
noncomputable abbrev Ro:Nat:=7
noncomputable abbrev NY:Nat:=2
noncomputable abbrev o4:OpenRow:=WJ.row
noncomputable def Wd:World:=(λ(P:World->Prop)(A B:Prop)(_:o4.toRowW.claim.HoldsOpenBy (callStub o4.name) (if o4.pinned then[o4.name]else[]) o4.keeps o4.writes=(A/\B/\∀w,P w))=>gE GB P) _ _ _ rfl
theorem Q7{P:World->Prop}(h:P Wd)(e:Wd=gE GB P):∀w,P w:=lP GB (e▸h)
end Mine.Internal
section
open PySem PySem.W PyProof.Rows
namespace Mine.Internal
def iK:Wf:={pw with main:={pw.main with body:=[0,2,4,5,6,7,9,10,11,12,13,14,15,16,17].filterMap (pw.main.body[·]?)}}
def theDef:DefRec:=((defOf iK "law").get (by kernel_rfl)).1
abbrev G5(s:VY):Bool:=xlAt iK [] s&&recOk (RowW.records o4.toRowW) s
noncomputable abbrev Tv:List VV:=["_twin_re_1","_ver_stages"]
def Sb:List (VV×Tok×Int×Tok):=[("dev",344,10,345),("alpha",346,20,347),("a",348,20,349),("beta",350,30,351),("b",352,30,353),("c",354,40,355),("RC",356,50,357),("rc",358,50,359),("pl",360,200,361),("p",362,200,363)]
noncomputable def entryOf(P:Params)(e:VV×Tok×Int×Tok):DictEntry:={hash:=We.keyHash P e.1,key:=.str e.1 e.2.1,val:=.int e.2.2.1 e.2.2.2}
def Za4(P:Params):Obj:=⟨.type "dict",Xe,.dict (Sb.map (entryOf P)).toArray 10,#[]⟩
noncomputable def SW:Obj:={cls:=.type "re.Pattern",data:=.fields #[.str "([0-9]+|[._+-])" 298,.int 32 342,.int 1 0,.none,.none,.ref 42,.int 0 0]}
def U7:Obj:={cls:=.type "tuple",data:=.seq (Re.code.map λn:Nat=>VO.int (n:Int) 0)}
noncomputable def Ob(K:Frag):=([("_byteswap":VV),"_comparable_version","_platform","_law_draws","_law_part","_law_cell","_law_texts","_law_led","_law_ways","_law_place","_law_refused","law"].all (yr K),tabIn K "_platform",nsIn K mainGlobals "_twin_re_1",nsIn K mainGlobals "_ver_stages",K.lookup 43,K.lookup 42,K.lookup 44)
noncomputable def Oa(w:World):=(true,Xd ((57:W8),(53:W8)),Xd (Xd (VM 43)),Xd (Xd (VM 44)),Xd SW,Xd U7,Xd (Za4 w.params))
noncomputable def hk:Hook:=hookAt [mainGlobals,42,43,44,38,51,57,58,63,70,75,80,85,92,97,104,109] Ob Oa
theorem lf(w:World):(fencedOpening treeTable pw w 1696).map (λaH=>(topFrom treeTable pw (w.withFollow "special-get-raises" false) 1696 aH).map (λs=>(openSeen iK Tv (importedModules pw.main.body) G5 true s,hk.obs s)))=Xd (Xd (openGood iK Tv,hk.val (w.withFollow "special-get-raises" false))):=by kernel_rfl
theorem lt(w:World):(fencedOpening treeTable pw w 1696).map (λaH=>(topFrom treeTable pw (w.withFollow "special-get-raises" true) 1696 aH).map (λs=>(openSeen iK Tv (importedModules pw.main.body) G5 true s,hk.obs s)))=Xd (Xd (openGood iK Tv,hk.val (w.withFollow "special-get-raises" true))):=by kernel_rfl
theorem left:LeftO o4.prog iK Tv G5 hk.obs hk.val 1696:=.of_split "special-get-raises" λw=>by obtain⟨aH,a,b⟩:=Xg.mp (lf w);obtain⟨aA,c,d⟩:=Xg.mp (lt w);obtain rfl:=Xc (a.symm.trans c);exact(Ve (Option.map _) a).trans (Ve Xd (Prod.ext b d))
end Mine.Internal
end
namespace Mine.Internal
section
open PySem PySem.Spec PySem.Calls PyProof.Rows PySem.W
open Sem (wp)
theorem yx:Clean ⟨.builtin "claim.caller" {},Xe,Xe,[],Xe⟩:=⟨by decide +kernel,(λx hx=>by rcases hx with⟨⟩),.inl rfl⟩
theorem wX{R:V6->VY->Prop}(Zbz:s.asleep)(FO:0<s.toks)(h:aP (VB prog w) callerA t (λfin s'=>∃f,fin=.done f/\(R (.ok f) s'/\leftWithCleanup s'.gens=false)) (λe s'=>R (.error e) s'/\leftWithCleanup s'.gens=false) s):∃n r s' iF,runN (denote table) prog w n s ⟨t,.builtin "claim.caller" {},default,[]⟩=.halted (outcomeOf r) s'/\schedN (denote table) prog w n (.single s ⟨t,.builtin "claim.caller" {},default,[]⟩)=.halted (outcomeOf r) s'/\s'.forget=iF.forget/\R r iF:=by
 have h1:wp (VB prog w) ⟨.builtin "claim.caller" {},Xe,Xe,[],Xe⟩ t (V0.finPost (VB prog w) ⟨.builtin "claim.caller" {},Xe,Xe,[],Xe⟩ (λr s'=>R r s'/\leftWithCleanup s'.gens=false)) (λe x s'=>R (.error e) s'/\leftWithCleanup s'.gens=false) default s:=by
  refine VZ _ _ t (λfin p' s' h'=>?_) (λx x x h'=>h') default s (h _ default caller_in ⟨yx,FO⟩)
  refine av h' ?_;rintro f(rfl)hf
  exact hf
 refine de (wp_halts_full Zbz h1) λn r aA cx hs hn hfo hR=>⟨n,r,cx,aA,hn,hs,hfo,hR⟩
theorem pO(h:fenceModule? m s=Xd s1):s1.toks=s.toks:=by
 delta fenceModule? at h;cases hb:boundIn s.heap sysModules m with
 |none=>rw[hb]at h;exact aa h
 |some v=>
  cases ht:tameNamesOf? m with
  |none=>rw[hb,ht]at h;rcases v with⟨⟩<;>exact aa h
  |some row=>
   rw[hb,ht]at h;rcases v with⟨⟩;case ref=>
    cases ho:s.heap.get? a with
    |none=>dsimp only at h;rw[ho]at h;exact aa h
    |some o=>
     dsimp only at h;rw[ho]at h;dsimp only at h;cases hD:o.dict with
     |none=>rw[hD]at h;exact aa h
     |some D=>
      rw[hD]at h;dsimp only at h;cases hd:s.heap.get? D with
      |none=>rw[hd]at h;exact aa h
      |some od=>rw[hd]at h;refine av (Xg.mp h) ?_;rintro od' _(rfl);rfl
   all_goals exact aa h
theorem mK:∀(l:List VV)(s s1:VY),fenceAll? l s=Xd s1->s1.toks=s.toks:=by intro l;induction l with|nil=>intro s s1 h;simp only[fenceAll?,Xb]at h;rw[<-h]|cons m r ih=>intro s s1 h;simp only[fenceAll?]at h;refine av (Xi.mp h) λs2 h2 h3=>(ih _ _ h3).trans (pO h2)
theorem qY:∀(l:List VV)(s s1:VY),copiesAnew? l s=Xd s1->s1.toks=s.toks:=by
 intro l;induction l with
 |nil=>intro s s1 h;simp only[copiesAnew?,Xb]at h;rw[<-h]
 |cons m r ih=>intro s s1 h;simp only[copiesAnew?]at h;refine av (Xi.mp h) λs2 h2 h3=>av (Xg.mp h2) ?_;rintro wo _(rfl);exact(ih _ _ h3).trans rfl
theorem CD(h:fenceModules? p s=Xd s1):s1.toks=s.toks:=by
 unfold fenceModules? at h;refine av (Xi.mp h) λs2 h2 h3=>?_;split at h3
 ·exact(qY _ _ _ h3).trans (mK _ _ _ h2)
 ·obtain rfl:=Xc h3;exact mK _ _ _ h2
theorem zg:∀(n:Nat)(s:VY)(t:Thread)(aA:VY),topRun tb p w Zcy ann n s t=Xd aA->s.toks<=aA.toks:=by
 intro n;induction n with
 |zero=>intro _ _ _ h;simp[topRun]at h
 |succ n ih=>
  intro s t aA h;unfold topRun at h;split at h
  ·obtain rfl:=Xc h;exact Xz _
  ·split at h
   ·exact aa h
   ·split at h
    ·rename_i s' t' hs;exact Xy (step_toks_le _ p w s s' t t' hs) (ih s' t' aA h)
    ·exact aa h
theorem qO{p q:Wf}{loose:List VV}{Xt:VY->Bool}{XP:(VV->Option VO)->Wz->Prop}{α:Type}{Yf:VY->α}{Ya:World->α}{N:Nat}(left:LeftO p q loose Xt Yf Ya N)(hX:∀s,Xt s=true->XP (s.heap.nsMap mainGlobals) s.heap)(Oj:chainsOk q=true)(w:World):(∃s,AfterRun (opening p) w s)/\∀s,AfterRun (opening p) w s->∃aH,fenceModules? p s=Xd aH/\aH.gens= #[]/\∃aA,TopRan p w aH aA/\aA.asleep/\(if true then aA.gens.size==0 else !leftWithCleanup aA.gens)=true/\aA.heap.isNs mainGlobals=true/\Ground q loose [] XP w aA (aA.heap.nsMap mainGlobals) (aA.heap.nsMap builtinsNs) aA.heap/\Yf aA=Ya w/\0<aA.toks:=by
 have h:=left w;rw[<-table_eq_tree]at h;refine av (Xg.mp h) λaA h1 e=>av (Xi.mp h1) λaH h2 h3=>av (Xi.mp h2) λs h4 h5=>?_;have A:=AfterImport.of_importEnds h4;refine⟨⟨s,A⟩,λs' Am=>?_⟩;obtain rfl:s'=s:=AfterImport.unique Am A;have z:=VY.asleep_of_life (fence_lifeW h5) A.life;unfold topFrom at h3;cases hg:(aH.heap.isNs mainGlobals&&aH.gens.size==0)with
 |false=>rw[hg]at h3;exact aa h3
 |true=>
  replace h3:=hg▸h3;refine aU (ZU.mp hg) λhg hn=>av (Xi.mp h3) λcx h6 h7=>?_;cases hs:(staticsOk (importedModules p.main.body) aH.heap cx.heap&&namesBound p cx.heap&&gensDone cx&&laidKept aH.heap cx.heap)with
  |false=>rw[hs]at h7;exact aa h7
  |true=>rw[hs]at h7;obtain rfl:cx=aA:=Xc h7;refine aU (ZU.mp hs) λhs hlk=>aU (ZU.mp hs) λhs hgd=>aU (ZU.mp hs) λhs Ul=>nE (topRun_spec _ _ _ _ z h6) λa l os fr=>GQ (ground_of_open (w:=w) hX Oj (Ve Prod.fst e)) λG g0 g1 g2 g3 g4 g5=>⟨aH,h5,Array.eq_empty_of_size_eq_zero (beq_iff_eq.mp hn),cx,⟨a,l,VY.rest_eq os,λb o hb hn=>fr b o (Wq hb) (λq=>hn (.inl q)) (λq=>hn (.inr (.inl q))) (λq=>hn (.inr (.inr ((Pin.globalOf_eq hg _).trans q)))) hb,g2,statics_of_ok hs,g3,g4,g5,gens_of_done hgd,names_of_bound Ul,laid_of_kept hlk⟩,VY.asleep_of_life l z,g0,g1,G,Ve Prod.snd e,Xv (by refine xR (CD h5) (AfterImport.toks_pos A)) (zg _ _ _ _ h6)⟩
theorem CZ{c:ClaimW}{tree:List VO->V0 WB}{w:World}{s:VY}{free:W8->Prop}{gens:Prop}{kept:Wz->Prop}(hz:s.asleep)(FO:0<s.toks)(vV:s.gens= #[])(Ua:∀args,c.pre args=true->WData.layableAll args=true->∀ord:List DictEntry->List DictEntry,(∀l,(ord l).Perm l)->∃vs aA,layAllW c.records (classAt s.heap) w.params ord args s=Xd (vs,aA)/\aP (VB c.prog w) callerA (tree vs) (λfin s'=>∃f,fin=.done f/\(c.Ends s args vs aA (.ok f) s'/\s'.os=s.os/\AllBare s'.gens/\kept s'.heap)) (λe s'=>c.Ends s args vs aA (.error e) s'/\s'.os=s.os/\AllBare s'.gens/\kept s'.heap) aA):c.CallFrom (λvs=>⟨tree vs,.builtin "claim.caller" {},default,[]⟩) w free gens kept s:=by
 refineλargs Ao IS ord Cp=>eT (Ua args Ao IS ord Cp) λvs aA oq tn=>?_;have I2:=layAllW_rest _ _ _ oq;refine de (wX (R:=λr s'=>c.Ends s args vs aA r s'/\s'.os=s.os/\kept s'.heap) (VY.asleep_of_life I2.2.2.2 hz) (Xv FO (layAllW_grows _ _ _ oq).toks) (aE tn (by
   refineλfin s' y0=>uw y0 λf e h1 h2 h3 h4=>⟨f,e,⟨h1,h2,h4⟩,leftWithCleanup_false_of_bare h3⟩) (by
   refineλe s' y0=>nE y0 λh1 h2 h3 h4=>⟨⟨h1,h2,h4⟩,leftWithCleanup_false_of_bare h3⟩))) λk r s' iF II P5 hfo y1=>?_
 refine bD y1 λow hos yP=>rQ (VY.forget_eq hfo) λeh z z eo z=>?_;have ow:=ow.congr eh;have yP:kept s'.heap:=by first|exact eh▸yP|(rw[eh]at yP;exact yP)|(rw[<-eh]at yP;exact yP)
 replace hos:=(eo).trans hos;have Uq:=(runN_life _ _ _ II).trans I2.2.2.2;refine⟨vs,aA,oq,k,_,s',P5,?_,(λz i x hx=>by rw[vV]at hx;simp at hx),yP,by exact xR Uq rfl,VY.rest_eq hos⟩;refine Xa ow (λy1=>?_) λy2=>?_
 ·refine GP y1 ?_;rintro v(rfl)d1 d2 d3 d4 d5;exact .inl ⟨v,rfl,d1,d2,d3,λb o y z=>d4 b o y,d5⟩
 ·refine EA y2 ?_;rintro e ob cls(rfl)d1 d2 d3 y3;refine aU y3 λd4 d5=>.inr ⟨e,ob,cls,rfl,d1,d2,d3,d4,λb o y z=>d5 b o y⟩
abbrev OK(q:Wf)(loose:List VV)(XP:(VV->Option VO)->Wz->Prop)(YP:World->Wz->Prop)(r:RowW)(d:DefRec)(kwd:List (VV×Expr))(run:VO->List VO->V0 VO)(w:World):Prop:=∀(aH aA:VY)(mg mb:VV->Option VO),Ground q loose r.records XP w aH mg mb aA.heap->YP w aA.heap->∀(a:W8)(o:Obj)(pm cd doc dV kV:VO),aA.heap.get? a=Xd o->o.data=.func {docDef d.name d.params d.body d.scope pm cd doc with defaults:=dV,kwdefaults:=kV}->aA.heap.CodeRec cd d.name->Dflts mg aA.heap d.params kwd dV kV->mg d.name=Xd (.ref a)->aA.gens= #[]->∀(args:List WData)(vals:List VO)(as:List W8),r.claim.pre args=true->WData.layableAll args=true->ReadsAllW r.records (classAt aH.heap) aA.heap vals args as->WellAll w.params aA.heap vals args->(∀a∈as,(a==sysModules)=false)->aP (VB r.prog w) callerA (run (.ref a) vals) (λv s'=>GoodWG r.claim (classAt aH.heap) (ExcName.means aH.heap) args aA (.ok (.ret v)) s') (λe s'=>GoodWG r.claim (classAt aH.heap) (ExcName.means aH.heap) args aA (.error e) s') aA
end
end Mine.Internal
open PySem PySem.Spec PySem.Calls PyProof.Rows PySem.W Mine.Internal in
theorem MineTop.PySem.W.holds_open{q:Program}{loose:List Str}{Xt:Shared->Bool}{XP:(Str->Option Value)->Heap->Prop}{α:Type}{Yf:Shared->α}{Ya:World->α}{YP:World->Heap->Prop}{d:DefRec}{kwd:List (Str×Expr)}{N:Nat}(left:LeftO o4.prog q loose Xt Yf Ya N)(hY:∀w s,Yf s=Ya w->YP w s.heap)(hYk:∀w h h',YP w h->(∀b o,h.get? b=some o->h'.get? b=some o)->YP w h')(hX:∀s,Xt s=true->XP (s.heap.nsMap mainGlobals) s.heap)(hXk:∀mg h h',XP mg h->(∀b o,h.get? b=some o->h'.get? b=some o)->XP mg h')(Qj:defOf q o4.name=some (d,kwd))(hp:o4.prog.theDef o4.name=some (d.params,d.body,d.scope))(hk:kwWritten? d.params.kwonlyargs d.params.kw_defaults=some kwd)(hRf:∀s,Xt s=true->RecFacts o4.records s.heap)(hwr:(!o4.writes||o4.records.isEmpty)=true)(k1:o4.wellSaid=true)(ok:(chainsOk q&&opensWell o4.prog&&(frees o4.toRowW&&o4.within.isEmpty))=true)(hb:o4.prog.bare)(hw:o4.toRowW.promised)(call:OK q loose XP YP o4.toRowW d kwd (λf vs=>PySem.call f vs) Wd):o4.Holds:=by
 refine aU (Bool.and_eq_true_iff.mp ok) λok k5=>?_;refine aU (Bool.and_eq_true_iff.mp ok) λOj o1=>?_;refine aU (Bool.and_eq_true_iff.mp k5) λk5 k6=>?_;refine rQ (frees_parts k5) λN2 hu ha hap hm=>?_;refine⟨k1,hw,⟨⟨hb,o1,rfl⟩,hw.witness,Q7 ?_ rfl⟩⟩;refine⟨(qO left hX Oj Wd).1,λs' Am=>?_⟩;obtain⟨aH,hf,hg0,s,hT,hz,vV,y0⟩:=(qO left (XP:=λmg h=>XP mg h/\RecFacts o4.records h) (λs hs=>⟨hX s hs,hRf s hs⟩) Oj Wd).2 s' Am;refine nE y0 λhg Gz y FO=>?_;have G0:Ground q loose [] XP Wd s (s.heap.nsMap mainGlobals) (s.heap.nsMap builtinsNs) s.heap:=⟨Gz.T,Gz.B,Gz.D,Gz.TE,Gz.TD,Gz.W,Gz.X.1,Gz.cls,Gz.has,Gz.apart,Gz.once,Gz.K⟩;have RF:=Gz.X.2;have hT':=hT;refine⟨aH,hf,hg0,s,hT,λn hn=>?_,RF.1,RF.2.1,?_⟩
 ·obtain rfl:n=o4.name:=by split at hn<;>simp_all
  exact pinned_of_view hg G0 Qj hp hk
 have vV:=Array.eq_empty_of_size_eq_zero (beq_iff_eq.mp vV);have G:=RF.ground G0;refine CZ hz FO vV λargs Ao IS ord Cp=>?_;refine aI (Option.isSome_iff_exists.mp (layAllW_isSome (P:=Wd.params) (ord:=ord) G.has args o4.args s (pre_splitW Ao).1)) λy0 oq=>?_;obtain⟨vs,aA⟩:=y0;have keeps:=layAllW_keeps _ _ _ oq;have I2:=layAllW_rest _ _ _ oq;refine dE (reads_layAllW Cp _ _ _ oq IS aA.heap (λx x e=>e)) λas hrd IT hold=>?_;have L:Laid o4.records Wd s aA args vs as:=⟨⟨ord,Cp,oq⟩,hrd,IT,hold,keeps,I2.1.trans vV,I2.2.2.1⟩;have Ra:=G.keeps hXk keeps;refine OP (Ra.fn Qj) λa o pm cd doc dV kV y0=>?_;refine rQ y0 λh1 h2 h3 h4 h5=>?_;have h:=call s aA _ _ Ra (hYk _ _ _ (hY Wd s y) keeps) a o pm cd doc dV kV h2 h3 h4 h5 (defOf_name Qj▸h1) L.gens args vs as Ao IS L.reads L.well (L.low G.low);have hi:=ident_freeW hu ha hap;have hwi:=List.isEmpty_iff.mp k6;refine⟨vs,aA,oq,?_⟩;refine ab (aq (wpAny_nsGet Ra.T.g ?_));rw[h1];refine ab (aE h (λv s' g=>ao ?_) λe s' g=>?_)
 ·exact⟨_,rfl,have z:=g.laid N2 hwi hi L;⟨z.1,z.2.1,z.2.2,λq=>⟨namesKept_of hT' hg _ keeps g.2.1.old,noTable hwr q⟩⟩⟩
 ·exact have z:=g.laid N2 hwi hi L;⟨z.1,z.2.1,z.2.2,λq=>⟨namesKept_of hT' hg _ keeps g.2.1.old,noTable hwr q⟩⟩
namespace Mine.Internal
open PySem PySem.W PyProof.Rows
inductive Dat where
 |none
 |bool (b:Bool)
 |int (i:Int)
 |str (s:VV)
 |bytes (b:List UInt8)
 |tuple (l:List Dat)
 |list (l:List Dat)
 |range (a b c:Int)
 |bg (b:List UInt8)
 |dict (ks:List VV) (vs:List Dat)
 |top (a:W8)
 |typ (n:String)
mutual
inductive Rep (h:Wz) (ai:W8->Prop):VO->Dat->Prop
 |none:Rep h ai .none .none
 |bool (b:Bool):Rep h ai (.bool b) (.bool b)
 |int (i:Int) (t:Tok):Rep h ai (.int i t) (.int i)
 |str (x:VV) (t:Tok):Rep h ai (.str x t) (.str x)
 |bytes (b:List UInt8) (t:Tok):Rep h ai (.bytes b.toArray t) (.bytes b)
 |tuple {a:W8} {o:Obj} {vs:List VO} {n:Nat} {ds:List Dat} (hv:¬ai a) (ho:h.get? a=Xd o) (hc:o.cls=.type "tuple") (hd:o.data=.seq vs.toArray n) (hr:aK h ai vs ds):Rep h ai (.ref a) (.tuple ds)
 |list {a:W8} {o:Obj} {vs:List VO} {n:Nat} {ds:List Dat} (hv:¬ai a) (ho:h.get? a=Xd o) (hc:o.cls=.type "list") (hn:o.dict=Xe) (hd:o.data=.seq vs.toArray n) (hr:aK h ai vs ds):Rep h ai (.ref a) (.list ds)
 |range {r:W8} {a b c:Int} {t u v:Tok} (hv:¬ai r) (hr:IsRange h r a b c t u v):Rep h ai (.ref r) (.range a b c)
 |bg {a:W8} {o:Obj} {b:List UInt8} {n:Nat} (hv:¬ai a) (ho:h.get? a=Xd o) (hc:o.cls=.type "bytearray") (hd:o.data=.bytearray b.toArray n):Rep h ai (.ref a) (.bg b)
 |dict {a:W8} {ks:List VV} {vs:List VO} {ds:List Dat} (hv:¬ai a) (hd:h.DictOf (strKind pw Wd) a (ks.zip vs)) (hl:ks.length=vs.length) (hr:aK h ai vs ds):Rep h ai (.ref a) (.dict ks ds)
 |top (a:W8):Rep h ai (.ref a) (.top a)
 |typ (n:String):Rep h ai (.type n) (.typ n)
inductive aK (h:Wz) (ai:W8->Prop):List VO->List Dat->Prop
 |nil:aK h ai [] []
 |cons {v:VO} {d:Dat} {vs:List VO} {ds:List Dat}:Rep h ai v d->aK h ai vs ds->aK h ai (v::vs) (d::ds)
end
section
variable {h h':Wz} {ai g9:W8->Prop}
def Zcm(h:Wz)(ai:W8->Prop)(v:VO):Dat->Prop| .none=>v=.none| .bool b=>v=.bool b| .int i=>∃t,v=.int i t| .str x=>∃t,v=.str x t| .bytes b=>∃t,v=.bytes b.toArray t| .tuple ds=>∃a o vs n,v=.ref a/\¬ai a/\h.get? a=Xd o/\o.cls=.type "tuple"/\o.data=.seq vs.toArray n/\aK h ai vs ds| .list ds=>∃a o vs n,v=.ref a/\¬ai a/\h.get? a=Xd o/\o.cls=.type "list"/\o.dict=Option.none/\o.data=.seq vs.toArray n/\aK h ai vs ds| .range a b c=>∃l t u w,v=.ref l/\¬ai l/\IsRange h l a b c t u w| .bg b=>∃a o n,v=.ref a/\¬ai a/\h.get? a=Xd o/\o.cls=.type "bytearray"/\o.data=.bytearray b.toArray n| .dict ks ds=>∃a vs,v=.ref a/\¬ai a/\h.DictOf (strKind pw Wd) a (ks.zip vs)/\ks.length=vs.length/\aK h ai vs ds| .top a=>v=.ref a| .typ n=>v=.type n
theorem Rep.inv(r:Rep h ai v d):Zcm h ai v d:=by
 rcases r with⟨⟩;case none=>exact rfl
 case bool=>exact rfl
 case int=>exact⟨t,rfl⟩
 case str=>exact⟨t,rfl⟩
 case bytes=>exact⟨t,rfl⟩
 case tuple=>exact⟨_,_,_,_,rfl,hv,ho,hc,hd,hr⟩
 case list=>exact⟨_,_,_,_,rfl,hv,ho,hc,hn,hd,hr⟩
 case range=>exact⟨_,_,_,_,rfl,hv,hr⟩
 case bg=>exact⟨_,_,_,rfl,hv,ho,hc,hd⟩
 case dict=>exact⟨_,_,rfl,hv,hd,hl,hr⟩
 case top=>exact rfl
 case typ=>exact rfl
theorem Rep.Eh(r:Rep h ai v (.bool b)):v=.bool b:=r.inv
theorem Rep.SY(r:Rep h ai v .none):v=.none:=r.inv
theorem Rep.eQ(r:Rep h ai v (.int i)):∃t,v=.int i t:=r.inv
theorem Rep.i5(r:Rep h ai v (.str x)):∃t,v=.str x t:=r.inv
theorem Rep.gH(r:Rep h ai v (.bytes b)):∃t,v=.bytes b.toArray t:=r.inv
theorem Rep.tuple'(r:Rep h ai v (.tuple ds)):∃a o vs n,v=.ref a/\¬ai a/\h.get? a=Xd o/\o.cls=.type "tuple"/\o.data=.seq vs.toArray n/\aK h ai vs ds:=r.inv
theorem Rep.qz(r:Rep h ai v (.list ds)):∃a o vs n,v=.ref a/\¬ai a/\h.get? a=Xd o/\o.cls=.type "list"/\o.dict=Option.none/\o.data=.seq vs.toArray n/\aK h ai vs ds:=r.inv
theorem Rep.range'(r:Rep h ai v (.range a b c)):∃l t u w,v=.ref l/\¬ai l/\IsRange h l a b c t u w:=r.inv
theorem Rep.Zar(r:Rep h ai v (.bg b)):∃a o n,v=.ref a/\¬ai a/\h.get? a=Xd o/\o.cls=.type "bytearray"/\o.data=.bytearray b.toArray n:=r.inv
theorem Rep.U0{ks:List VV}(r:Rep h ai v (.dict ks ds)):∃a vs,v=.ref a/\¬ai a/\h.DictOf (strKind pw Wd) a (ks.zip vs)/\ks.length=vs.length/\aK h ai vs ds:=r.inv
theorem Rep.ZaY(r:Rep h ai v (.typ n)):v=.type n:=r.inv
theorem Pu{o:Obj}{x:Array VO}{n:Nat}(h:o.data=.seq x n)(c:Option VO):o.data≠.cell c:=λe=>nomatch h.symm.trans e
def iD(v:VO):Prop:=v=.type "tuple"\/v=.type "list"\/v=.type "range"\/v=.type "bytearray"\/v=.type "dict"
theorem Rep.both{P:VO->Dat->Prop}{Q:List VO->List Dat->Prop}(a1:P .none .none)(a2:∀b,P (.bool b) (.bool b))(a3:∀i t,P (.int i t) (.int i))(a4:∀x t,P (.str x t) (.str x))(a5:∀(b:List UInt8)t,P (.bytes b.toArray t) (.bytes b))(a6:∀{a o vs n ds},¬ai a->h.get? a=Xd o->o.cls=.type "tuple"->o.data=.seq vs.toArray n->Q vs ds->P (.ref a) (.tuple ds))(a7:∀{a o vs n ds},¬ai a->h.get? a=Xd o->o.cls=.type "list"->o.dict=.none->o.data=.seq vs.toArray n->Q vs ds->P (.ref a) (.list ds))(a8:∀{r a b c t u v},¬ai r->IsRange h r a b c t u v->P (.ref r) (.range a b c))(a9:∀{a o n}{b:List UInt8},¬ai a->h.get? a=Xd o->o.cls=.type "bytearray"->o.data=.bytearray b.toArray n->P (.ref a) (.bg b))(a12:∀{a}{ks:List VV}{vs ds},¬ai a->h.DictOf (strKind pw Wd) a (ks.zip vs)->ks.length=vs.length->Q vs ds->P (.ref a) (.dict ks ds))(a10:∀a,P (.ref a) (.top a))(a11:∀n,P (.type n) (.typ n))(b1:Q [] [])(b2:∀{v d vs ds},P v d->Q vs ds->Q (v::vs) (d::ds)):(∀{v d},Rep h ai v d->P v d)/\∀{vs ds},aK h ai vs ds->Q vs ds:=⟨λr=>Rep.rec (motive_1:=λv d y=>P v d) (motive_2:=λv d y=>Q v d) a1 a2 a3 a4 a5 (λh1 h2 h3 h4 y=>a6 h1 h2 h3 h4) (λh1 h2 h3 h4 h5 y=>a7 h1 h2 h3 h4 h5) a8 a9 (λh1 h2 h3 y=>a12 h1 h2 h3) a10 a11 b1 (λy y=>b2) r,λr=>aK.rec (motive_1:=λv d y=>P v d) (motive_2:=λv d y=>Q v d) a1 a2 a3 a4 a5 (λh1 h2 h3 h4 y=>a6 h1 h2 h3 h4) (λh1 h2 h3 h4 h5 y=>a7 h1 h2 h3 h4 h5) a8 a9 (λh1 h2 h3 y=>a12 h1 h2 h3) a10 a11 b1 (λy y=>b2) r⟩
theorem aK.ind{Q:List VO->List Dat->Prop}(b1:Q [] [])(b2:∀{v d vs ds},Rep h ai v d->aK h ai vs ds->Q vs ds->Q (v::vs) (d::ds))(r:aK h ai vs ds):Q vs ds:=aK.rec (motive_1:=λx x x=>True) (motive_2:=λv d x=>Q v d) trivial (λx=>trivial) (λx x=>trivial) (λx x=>trivial) (λx x=>trivial) (λx x x x x x=>trivial) (λx x x x x x x=>trivial) (λx x=>trivial) (λx x x x=>trivial) (λx x x x x=>trivial) (λx=>trivial) (λx=>trivial) b1 (λr rs x=>b2 r rs) r
theorem NS(hk:∀b o,h.get? b=Xd o->¬ai b->iD o.cls->h'.get? b=Xd o/\¬g9 b):(∀{v:VO}{d:Dat},Rep h ai v d->Rep h' g9 v d)/\∀{vs:List VO}{ds:List Dat},aK h ai vs ds->aK h' g9 vs ds:=Rep.both .none .bool .int .str .bytes (λhv ho hc hd hr=>have q:=hk _ _ ho hv (.inl hc);.tuple q.2 q.1 hc hd hr) (λhv ho hc hn hd hr=>have q:=hk _ _ ho hv (.inr (.inl hc));.list q.2 q.1 hc hn hd hr) (λhv hr=>have q:=hk _ _ hr hv (.inr (.inr (.inl rfl)));.range q.2 q.1) (λhv ho hc hd=>have q:=hk _ _ ho hv (.inr (.inr (.inr (.inl hc))));.bg q.2 q.1 hc hd) (λhv hd hl hr=>by refine qP hd λo es ep ho he r=>?_;have q:=hk _ _ ho hv (.inr (.inr (.inr (.inr he.1))));exact .dict q.2 ⟨o,es,ep,q.1,he,r⟩ hl hr) .top .typ .nil .cons
theorem Rep.zY(hk:∀b o,h.get? b=Xd o->¬ai b->iD o.cls->h'.get? b=Xd o/\¬g9 b)(r:Rep h ai v d):Rep h' g9 v d:=(NS hk).1 r
theorem aK.zY(hk:∀b o,h.get? b=Xd o->¬ai b->iD o.cls->h'.get? b=Xd o/\¬g9 b)(r:aK h ai vs ds):aK h' g9 vs ds:=(NS hk).2 r
theorem Rep.mono(hk:∀b o,h.get? b=Xd o->¬ai b->h'.get? b=Xd o/\¬g9 b)(r:Rep h ai v d):Rep h' g9 v d:=r.zY λb o e n x=>hk b o e n
theorem aK.mono(hk:∀b o,h.get? b=Xd o->¬ai b->h'.get? b=Xd o/\¬g9 b)(r:aK h ai vs ds):aK h' g9 vs ds:=r.zY λb o e n x=>hk b o e n
theorem Rep.extBut(ha:h.get? a=Xd oa)(hc:¬iD oa.cls)(hs:Wy a h h')(r:Rep h ai v d):Rep h' ai v d:=r.zY λb o e n c=>⟨hs b o (λq=>by subst q;rw[ha]at e;obtain rfl:=Xc e;exact hc c) e,n⟩
theorem aK.extBut(ha:h.get? a=Xd oa)(hc:¬iD oa.cls)(hs:Wy a h h')(r:aK h ai vs ds):aK h' ai vs ds:=r.zY λb o e n c=>⟨hs b o (λq=>by subst q;rw[ha]at e;obtain rfl:=Xc e;exact hc c) e,n⟩
theorem aK.length(r:aK h ai vs ds):vs.length=ds.length:=r.ind (Q:=λvs ds=>vs.length=ds.length) rfl λx x ih=>Ve (·+1) ih
theorem aK.append(r:aK h ai vs ds)(x:aK h ai us es):aK h ai (vs++us) (ds++es):=r.ind (Q:=λvs ds=>aK h ai (vs++us) (ds++es)) x λr y ih=>.cons r ih
theorem aK.get(r:aK h ai vs ds):∀{i:Nat}{d:Dat},ds[i]?=Xd d->∃v,vs[i]?=Xd v/\Rep h ai v d:=r.ind (Q:=λvs ds=>∀{i:Nat}{d:Dat},ds[i]?=Xd d->∃v,vs[i]?=Xd v/\Rep h ai v d) nofun (by intro _ _ _ _ r _ ih i d e;induction i with|zero=>exact⟨_,rfl,Xc e▸r⟩|succ i=>exact ih (i:=i) e)
theorem aJ(h:Wz):h.get? h.objs.size=Xe:=by cases e:h.get? h.objs.size with|none=>rfl|some o=>exact absurd (Wq e) (Xx _)
structure Cx where
 h₀:Wz
 NM:OsState
 mg:VV->Option VO
 mb:VV->Option VO
 tabs:List (W8×W8×Pos×VV)
 fr:W8->Prop
def Cx.T(C:Cx)(a:W8):Prop:=∃c p q,(c,a,p,q)∈C.tabs
def Et(h:Wz)(P:W8)(p:Pos)(q:VV):Prop:=h.get? P=Xd (vr #[])\/∃c,h.get? P=Xd (vr #[rawInt p.line,rawInt p.col,.ref c])/\h.CodeRec (.ref c) q
where vr (vs:Array VO):Obj:={cls:=.none,data:=.fields vs}
structure Cx.Ok (C:Cx):Prop where
 g:C.h₀.Ns mainGlobals C.mg
 b:C.h₀.Ns builtinsNs C.mb
 nolimit:C.h₀.NoLimit
 builtins:∀x:VV,x≠"__name__"->C.mb x=bootBuiltins x
 uA:∀c P p q,(c,P,p,q)∈C.tabs->C.h₀.TableAt c P #[]/\P≠cStatics/\P≠mainGlobals/\P≠builtinsNs
def cZ(h:Wz)(a:W8):Prop:=∃o es n,h.get? a=Xd o/\o.data=.dict es n
structure Bs (C:Cx) (s:VY):Prop where
 keep:∀b o,C.h₀.get? b=Xd o->¬C.T b->s.heap.get? b=Xd o
 tab:∀c P p q,(c,P,p,q)∈C.tabs->Et s.heap P p q
 gens:AllBare s.gens
 os:s.os=C.NM
 alive:∀a,C.fr a->cZ s.heap a
def f9(h':Wz)(b:W8)(o:Obj):Prop:=∃o',h'.get? b=Xd o'/\o'.data=o.data
theorem f9.of(e:h'.get? b=Xd o):f9 h' b o:=⟨o,e,rfl⟩
theorem cZ.data(x:cZ h a)(k:∀o,h.get? a=Xd o->f9 h' a o):cZ h' a:=let⟨o,es,n,ho,hd⟩:=x;let⟨o',jH,di⟩:=k o ho;⟨o',es,n,jH,di.trans hd⟩
structure Ex (C:Cx) (s s':VY):Prop where
 keep:∀b o,s.heap.get? b=Xd o->¬C.T b->¬C.fr b->s'.heap.get? b=Xd o
 nz:∀b o,C.fr b->s.heap.get? b=Xd o->f9 s'.heap b o
 bs:Bs C s->Bs C s'
theorem Ex.refl(s:VY):Ex C s s:=⟨λx x e x x=>e,λx x x e=>.of e,id⟩
theorem Ex.trans(x:Ex C s s')(y:Ex C s' iF):Ex C s iF:=⟨λb o e t f=>y.keep b o (x.keep b o e t f) t f,λb o f e=>let⟨o1,e1,d1⟩:=x.nz b o f e;let⟨o2,e2,d2⟩:=y.nz b o1 f e1;⟨o2,e2,d2.trans d1⟩,λz=>y.bs (x.bs z)⟩
theorem Ex.data(x:Ex C s s')(e:s.heap.get? b=Xd o)(t:¬C.T b):f9 s'.heap b o:=by
 by_cases f:C.fr b
 ·exact x.nz b o f e
 ·exact .of (x.keep b o e t f)
theorem Et.keeps(hk:∀b o,h.get? b=Xd o->h'.get? b=Xd o):Et h P p q->Et h' P p q| .inl e=>.inl (hk _ _ e)| .inr ⟨c,e,r⟩=>.inr ⟨c,hk _ _ e,r.keeps hk⟩
theorem Ex.of_keep(hk:∀b o,s.heap.get? b=Xd o->s'.heap.get? b=Xd o)(hg:s'.gens=s.gens)(ho:s'.os=s.os):Ex C s s':=⟨λb o e x x=>hk b o e,λb o x e=>.of (hk b o e),λz=>⟨λb o e t=>hk b o (z.keep b o e t),λc P p q m=>(z.tab c P p q m).keeps hk,hg▸z.gens,ho.trans z.os,λa f=>(z.alive a f).data λo e=>.of (hk a o e)⟩⟩
theorem Ex.toks:Ex C s {s with toks:=t}:=.of_keep (λx x e=>e) rfl rfl
theorem Ex.push:Ex C s {s with heap:=s.heap.push o,toks:=t}:=.of_keep (λx x e=>Wu o e) rfl rfl
structure bz (C:Cx) (ai:W8->Prop) (s:VY):Prop where
 tabs:∀a,C.T a->ai a
 gZ:∀a,C.fr a->ai a
 there:∀a,ai a->∃o,s.heap.get? a=Xd o
theorem bz.ex(V:bz C ai s)(x:Ex C s s')(z:Bs C s'):bz C ai s':=by
 refine⟨V.tabs,V.gZ,λa ha=>?_⟩;by_cases t:C.T a
 ·refine mr t λc p q m=>?_;rcases z.tab c a p q m with e|⟨_,e,_⟩<;>exact⟨_,e⟩
 ·refine aI (V.there a ha) λo e=>av (x.data e t) λo' e' y=>⟨o',e'⟩
theorem bz.new(V:bz C ai s)(e:s.heap.get? a=Xe):¬ai a:=λha=>by refine aI (V.there a ha) λo q=>?_;rw[e]at q;exact aa q
theorem Rep.ex(V:bz C ai s)(x:Ex C s s')(r:Rep s.heap ai v d):Rep s'.heap ai v d:=r.mono λb o e n=>⟨x.keep b o e (λt=>n (V.tabs b t)) λf=>n (V.gZ b f),n⟩
theorem aK.ex(V:bz C ai s)(x:Ex C s s')(r:aK s.heap ai vs ds):aK s'.heap ai vs ds:=r.mono λb o e n=>⟨x.keep b o e (λt=>n (V.tabs b t)) λf=>n (V.gZ b f),n⟩
end
inductive Slot where
 |val (d:Dat)
 |own (d:Dat)
noncomputable abbrev ax:=List (VV×Slot)
noncomputable def Zcu(ae:ax)(x:VV):Option Dat:=match ae.lookup x with
 |some (.val d)=>Xd d|some (.own d)=>Xd d|none=>Xe
noncomputable def Slot.jm:Slot->Slot| .val d=>.val d| .own d=>.val d
def bp(ae:ax):ax:=ae.map λp=>(p.1,p.2.jm)
noncomputable def aS:Nat:=1000000
mutual
noncomputable def mQ:Dat->Option We
 | .none=>Xd .none
 | .bool b=>Xd (.bool b)
 | .int i=>Xd (.int i)
 | .str x=>if V8 x then Xd (.str x)else Xe
 | .list ds=>match eO ds with
  |some ps=>Xd (.list ps)
  |none=>Xe
 | .tuple ds=>match eO ds with
  |some ps=>Xd (.tuple ps)
  |none=>Xe
 |_=>Xe
noncomputable def eO:List Dat->Option (List We)
 |[]=>Xd []
 |d::ds=>match mQ d with
  |none=>Xe
  |some p=>match eO ds with
   |none=>Xe
   |some ps=>Xd (p::ps)
end
noncomputable def mh(a b:Dat):Option Bool:=match mQ a,mQ b with
 |some p,Xd q=>if p.depth<=60/\q.depth<=60 then Xd (Wa p q)else Xe|_,_=>Xe
noncomputable def Oy(a b:Dat):Option Bool:=match a,b with
 | .bytes x,.bytes y=>Xd (x==y)|a,b=>mh a b
noncomputable def Fq(op:CmpOp):Dat->Dat->Option Bool
 | .int a,.int b=>match op with
  | .Lt=>Xd (decide (a<b))| .LtE=>Xd (decide (a<=b))| .Gt=>Xd (decide (a>b))| .GtE=>Xd (decide (a>=b))|_=>Xe
 | .str a,.str b=>match op with
  | .Lt=>Xd (decide (a.cps.toList<b.cps.toList))| .LtE=>Xd (!decide (b.cps.toList<a.cps.toList))| .Gt=>Xd (decide (b.cps.toList<a.cps.toList))| .GtE=>Xd (!decide (a.cps.toList<b.cps.toList))|_=>Xe
 |_,_=>Xe
noncomputable def HT(op:CmpOp)(m n:Nat):Bool:=match op with
 | .Eq=>m==n| .NotEq=>m !=n| .Lt=>decide (m<n)| .LtE=>decide (m<=n)| .Gt=>decide (m>n)|_=>decide (m>=n)
def ij(op:CmpOp):List Dat->List Dat->Nat->Option Bool
 |a::as,b::bs,k=>match mh a b with
  |some true=>ij op as bs (k+1)|some false=>Fq op a b|none=>Xe
 |as,bs,k=>Xd (HT op (k+as.length) (k+bs.length))
def Lu(op:CmpOp):Dat->Dat->Option Bool
 | .list a,.list b=>match op with
  | .Lt=>ij .Lt a b 0| .LtE=>ij .LtE a b 0| .Gt=>ij .Gt a b 0|_=>Xe
 |a,b=>Fq op a b
noncomputable def memD(x:Dat)(ds:List Dat):Option Bool:=match mQ x,eO ds with
 |some p,Xd ps=>if p.depth<=60 then Xd (ps.any λy=>Wa y p)else Xe|_,_=>Xe
noncomputable def m9(x:Dat):List Dat->Nat->Option Nat
 |[],_=>Xe
 |y::ys,k=>match mh y x with
  |some true=>Xd k|some false=>m9 x ys (k+1)|none=>Xe
def pW(op:CmpOp)(a b:Dat):Option Bool:=match op with
 | .Eq=>Oy a b| .NotEq=>(Oy a b).map (!·)| .Lt| .LtE| .Gt| .GtE=>Lu op a b
 | .In=>match b with
  | .list ds=>memD a ds|_=>Xe
 | .NotIn=>match a,b with
  |a,.list ds=>(memD a ds).map (!·)| .str x,.str y=>Xd (!Txt.contains y x)|_,_=>Xe
 |_=>Xe
noncomputable def aM(i:Int):Bool:=decide (-(2^62)<i)&&decide (i<2^62)
def binI(op:Operator)(a b:Int):Option Dat:=match op with
 | .Add=>Xd (.int (a+b))| .Sub=>Xd (.int (a-b))| .Mult=>if aM a&&aM b then Xd (.int (a*b))else Xe| .FloorDiv=>if b=0\/¬b.natAbs<1073741824 then Xe else Xd (.int (a.fdiv b))| .Mod=>if b=0 then Xe else Xd (.int (a.fmod b))| .Pow=>if 0<=b/\b<=64/\aM a=true then Xd (.int (a^b.toNat))else Xe|_=>Xe
def Pw(op:Operator)(x:VV)(n:Int):Option Dat:=match op with
 | .Mult=>if aM n=true/\x.length*n.toNat<=aS then Xd (.str (Txt.mul x n))else Xe|_=>Xe
def Np(op:Operator)(n:Nat)(d:Dat):Option Dat:=match op with
 | .Add=>if n<=aS then Xd d else Xe|_=>Xe
def my(op:Operator)(a b:Dat):Option Dat:=match a with
 | .int a=>match b with
  | .int b=>binI op a b| .str x=>Pw op x a|_=>Xe
 | .str x=>match b with
  | .int n=>Pw op x n| .str y=>Np op (x.length+y.length) (.str (x++y))|_=>Xe
 | .bytes x=>match b with
  | .bytes y=>Np op (x.length+y.length) (.bytes (x++y))|_=>Xe
 | .list x=>match b with
  | .list y=>Np op (x.length+y.length) (.list (x++y))|_=>Xe
 |_=>Xe
def BV(a b:Dat):Prop:=(∃x y,a=.int x/\b=.int y)\/(∃x y,a=.int x/\b=.str y)\/(∃x y,a=.str x/\b=.int y)\/(∃x y,a=.str x/\b=.str y)\/(∃x y,a=.bytes x/\b=.bytes y)\/∃x y,a=.list x/\b=.list y
set_option tactic.hygienic true in
theorem QW:my op a b=Xd d->BV a b:=by
 rcases a with⟨⟩;case int x=>
  rcases b with⟨⟩;case int y=>exactλz=>.inl ⟨x,y,rfl,rfl⟩
  case str y=>exactλz=>.inr (.inl ⟨x,y,rfl,rfl⟩)
  all_goals exact aa
 case str x=>
  rcases b with⟨⟩;case int y=>exactλz=>.inr (.inr (.inl ⟨x,y,rfl,rfl⟩))
  case str y=>exactλz=>.inr (.inr (.inr (.inl ⟨x,y,rfl,rfl⟩)))
  all_goals exact aa
 case bytes x=>
  rcases b with⟨⟩;case bytes y=>exactλz=>.inr (.inr (.inr (.inr (.inl ⟨x,y,rfl,rfl⟩))))
  all_goals exact aa
 case list x=>
  rcases b with⟨⟩;case list y=>exactλz=>.inr (.inr (.inr (.inr (.inr ⟨x,y,rfl,rfl⟩))))
  all_goals exact aa
 all_goals exact aa
theorem ug:Np op n r=Xd d->op=.Add/\n<=aS/\Xd r=Xd d:=by
 rcases op with⟨⟩;case Add=>exactλh=>aL h λa b=>⟨rfl,a,b⟩
 all_goals exact aa
theorem zW:Pw op x n=Xd d->op=.Mult/\(aM n=true/\x.length*n.toNat<=aS)/\Xd (Dat.str (Txt.mul x n))=Xd d:=by
 rcases op with⟨⟩;case Mult=>exactλh=>aL h λa b=>⟨rfl,a,b⟩
 all_goals exact aa
noncomputable def unD(op:UnaryOp)(a:Dat):Option Dat:=match op,a with
 | .USub,.int a=>Xd (.int (-a))|_,_=>Xe
def kL:Dat->Option Bool| .bool b=>Xd b| .int i=>Xd (i !=0)| .str x=>if x.length<=aS then Xd (x.length !=0)else Xe| .list ds=>if ds.length<=aS then Xd (ds.length !=0)else Xe|_=>Xe
noncomputable def ez(i:Int)(n:Nat):Option Nat:=if 0<=i then(if i<n then Xd i.toNat else Xe)else(if 0<=i+n then Xd (i+n).toNat else Xe)
def Gp(i:Int)(n:Nat)(f:Nat->Option Dat):Option Dat:=if aM i then(ez i n).bind f else Xe
def ej(a i:Dat):Option Dat:=match i with
 | .int i=>match a with
  | .list ds=>Gp i ds.length (ds[·]?)| .tuple ds=>Gp i ds.length (ds[·]?)| .str x=>Gp i x.length λk=>(x.cps[k]?).map λc=>.str ⟨#[c]⟩| .bytes b=>Gp i b.length λk=>(b[k]?).map λc=>.int c.toNat| .bg b=>Gp i b.length λk=>(b[k]?).map λc=>.int c.toNat|_=>Xe
 | .str x=>match a with
  | .dict ks vs=>(ks.idxOf? x).bind (vs[·]?)|_=>Xe
 |_=>Xe
def IV(a i:Dat):Prop:=(∃k,i=.int k/\((∃x,a=.list x)\/(∃x,a=.tuple x)\/(∃x,a=.str x)\/(∃x,a=.bytes x)\/∃x,a=.bg x))\/∃x ks vs,i=.str x/\a=.dict ks vs
set_option tactic.hygienic true in
theorem L0:ej a i=Xd d->IV a i:=by
 rcases i with⟨⟩;case int k=>
  rcases a with⟨⟩;case list x=>exactλy=>.inl ⟨k,rfl,.inl ⟨x,rfl⟩⟩
  case tuple x=>exactλy=>.inl ⟨k,rfl,.inr (.inl ⟨x,rfl⟩)⟩
  case str x=>exactλy=>.inl ⟨k,rfl,.inr (.inr (.inl ⟨x,rfl⟩))⟩
  case bytes x=>exactλy=>.inl ⟨k,rfl,.inr (.inr (.inr (.inl ⟨x,rfl⟩)))⟩
  case bg x=>exactλy=>.inl ⟨k,rfl,.inr (.inr (.inr (.inr ⟨x,rfl⟩)))⟩
  all_goals exact aa
 case str x=>
  rcases a with⟨⟩;case dict ks vs=>exactλy=>.inr ⟨x,ks,vs,rfl,rfl⟩
  all_goals exact aa
 all_goals exact aa
noncomputable def pick{α:Type}(xs:List α)(lo hi st:Option Int):List α:=let b:=sliceBounds lo hi st xs.length;(sliceRange b.1 b.2.1 b.2.2).filterMap (xs[·]?)
def fe(a:Dat)(lo hi st:Option Int):Option Dat:=if st=Xd 0\/lo.all aM=false\/hi.all aM=false\/st.all aM=false then Xe else match a with
 | .list ds=>if ds.length<=aS then Xd (.list (pick ds lo hi st))else Xe| .bytes b=>if b.length<=aS then Xd (.bytes (pick b lo hi st))else Xe| .str x=>if x.length<=aS/\st=Xe then Xd (.str ⟨(pick x.cps.toList lo hi st).toArray⟩)else Xe|_=>Xe
noncomputable def ey(a b c:Int):Nat:=(WM a b c).toNat
def sC(a b c:Int):List Int:=(Yc (ey a b c)).map λk:Nat=>a+c*(k:Int)
def bP:Dat->Option (List Dat)| .list ds=>Xd ds| .tuple ds=>Xd ds| .range a b c=>if aM a&&aM b&&aM c&&c !=0 then Xd ((sC a b c).map .int)else Xe| .bytes b=>Xd (b.map λx=>.int x.toNat)| .str x=>if x.cps.all (· <128)then Xd (x.cps.toList.map λc=>.str ⟨#[c]⟩)else Xe|_=>Xe
noncomputable def JF:Const->Option Dat| .none=>Xd .none| .bool b=>Xd (.bool b)| .int i=>Xd (.int i)| .str s=>Xd (.str s)| .bytes b=>Xd (.bytes b)|_=>Xe
noncomputable def bN{α β:Type}(f:α->Option (List β)):List α->Option (List β)|[]=>Xd []|a::as=>(f a).bind λbs=>(bN f as).bind λcs=>Xd (bs++cs)
structure fO where
 fn:VV->Option (List Dat->Option Dat)
 uu:VV->Option (List Dat->Option Dat)
 pB:VV->Dat->List Dat->Option Dat
 glob:VV->Option Dat
 fuel:Nat
noncomputable def bV(sc:V5)(x:VV)(sl:Slot)(ae:ax):Option ax:=if(sc.names.lookup x=Xd .local\/sc.names.lookup x=Xd .cell)/\(x==("__debug__":VV))=false/\(x==("__classdict__":VV))=false then Xd ((x,sl)::ae)else Xe
noncomputable def asName:Expr->Option VV| .Name x _=>Xd x|_=>Xe
noncomputable def Ek:Expr->Option (List Expr)| .Tuple ts _ _=>Xd ts|_=>Xe
noncomputable def Cj:Dat->Option (List Dat)| .tuple ds=>Xd ds| .list ds=>Xd ds|_=>Xe
def pJ(ae:ax)(t:Expr):Bool:=(asName t).any λx=>(ae.lookup x).isNone
def freshT(ae:ax)(t:Expr):Bool:=pJ ae t||(Ek t).any λts=>ts.all (pJ ae)
def iA(sc:V5):List Expr->List Dat->ax->Option ax|[],[],ae=>Xd ae|t::ts,d::ds,ae=>(asName t).bind λx=>(bV sc x (.val d) ae).bind λae=>iA sc ts ds ae|_,_,_=>Xe
def bL(sc:V5)(t:Expr)(d:Dat)(ae:ax):Option ax:=match asName t with
 |some x=>bV sc x (.val d) ae|none=>(Ek t).bind λts=>(Cj d).bind λds=>iA sc ts ds ae
theorem f7:asName t=Xd x->∃p,t=.Name x p:=by cases t with|Name y p=>exactλh=>⟨p,Ve (Expr.Name · p) (Xc h)⟩|_=>exact aa
theorem Gq:Ek t=Xd ts->∃k p,t=.Tuple ts k p:=by cases t with|Tuple us k p=>exactλh=>⟨k,p,Ve (Expr.Tuple · k p) (Xc h)⟩|_=>exact aa
theorem Ci:Cj d=Xd ds->d=.list ds\/d=.tuple ds:=by cases d with|list x=>exactλh=>.inl (Ve Dat.list (Xc h))|tuple x=>exactλh=>.inr (Ve Dat.tuple (Xc h))|_=>exact aa
noncomputable def jc(sc bC:V5):Bool:=(bC.kind== .function)&&bC.names.all (λp=>bC.names.lookup p.1==Xd p.2)&&bC.names.all λp=>p.2 != .free||sc.names.lookup p.1==Xd .cell||sc.names.lookup p.1==Xd .free
noncomputable def bJ(bC:V5)(ae:ax):ax:=ae.filter λp=>bC.names.lookup p.1==Xd .free
noncomputable def ownAt(ae:ax)(x:VV):Option Dat:=match ae.lookup x with
 |some (.own d)=>Xd d|_=>Xe
def orOwn(e:Expr)(ae:ax)(whole:Option Dat):Option Dat:=(((asName e).bind (ownAt ae)).or whole)
noncomputable def vB:Expr->Bool| .Name .. =>true| .Constant .. =>true|_=>false
def AO(ds:List Dat):Option Dat:=if ds.length<=aS then Xd (.list ds)else Xe
def MZ(ds:List Dat):Option Dat:=if ds.length<=aS then Xd (.tuple ds)else Xe
noncomputable def Eg(b:Bool):Option Dat:=Xd (.bool b)
noncomputable def Zbk(b:Bool):Option Dat:=Xd (.bool !b)
noncomputable def bM{α:Type}(b:Bool)(x y:Option α):Option α:=match b with
 |true=>x|false=>y
noncomputable def asI:Dat->Option (Option Int)| .int i=>Xd (Xd i)|_=>Xe
def asL:Dat->Option (List Dat)| .list ds=>if ds.length<=aS then Xd ds else Xe|_=>Xe
noncomputable def one(d:Dat):List Dat:=[d]
def Sa:Option (Option (Option Int)×Option (Option Int)×Option (Option Int))->Option Dat->Dat->Option Dat|some p,_,a=>p.1.bind λlo=>p.2.1.bind λhi=>p.2.2.bind λst=>fe a lo hi st|none,r,a=>r.bind λi=>ej a i
def Se:Option (Option Dat)->Option Dat->Option (List Dat)|some r,_=>r.bind asL|none,r=>r.map one
noncomputable def fL(op:BoolOp)(c:Bool):Bool:=match op with
 | .And=> !c| .Or=>c
mutual
def ev(Φ:fO)(sc:V5):Expr->ax->Option Dat
 | .Constant c _ _,_=>JF c
 | .Name x _,ae=>match ae.lookup x with
  |some (.val d)=>Xd d
  |some (.own _)=>Xe
  |none=>if sc.names.lookup x=Xd .globalImplicit then Φ.glob x else Xe
 | .BinOp l op r _,ae=>(ev Φ sc l ae).bind λa=>(ev Φ sc r ae).bind λb=>my op a b
 | .UnaryOp op x _,ae=>match op with
  | .Not=>(orOwn x ae (ev Φ sc x ae)).bind λa=>(kL a).bind Zbk
  |op=>(ev Φ sc x ae).bind λa=>unD op a
 | .BoolOp op vs _,ae=>tL Φ sc op vs ae
 | .Compare l ops cs _,ae=>(orOwn l ae (ev Φ sc l ae)).bind λa=>(oE Φ sc a ops cs ae).bind Eg
 | .IfExp t b o _,ae=>(dT Φ sc t ae (ev Φ sc t ae)).bind λc=>bM c (ev Φ sc b ae) (ev Φ sc o ae)
 | .List es _,ae=>(FZ Φ sc es ae).bind AO
 | .Tuple es _ _,ae=>(FZ Φ sc es ae).bind MZ
 | .Subscript v i _,ae=>(orOwn v ae (ev Φ sc v ae)).bind (Sa (match i with
  | .Slice lo hi st _=>Xd (Ox Φ sc lo ae,Ox Φ sc hi ae,Ox Φ sc st ae)
  |_=>Xe) (ev Φ sc i ae))
 | .Call f args DN pos,ae=>match DN with
  |[]=>match f with
   | .Attribute o m apos=>if vB o=true/\(apos.endLine==pos.line)=true/\args.length<30 then(orOwn o ae (ev Φ sc o ae)).bind λa=>(FZ Φ sc args ae).bind λds=>Φ.pB m a ds else Xe
   | .Name f _=>if ae.lookup f=Xe/\sc.names.lookup f=Xd .globalImplicit then(match Φ.fn f with
     |some g=>(dQ Φ sc args ae).bind g
     |none=>(Φ.uu f).bind λg=>(kn Φ sc args ae).bind g)
    else Xe
   |_=>Xe
  |_=>Xe
 | .ListComp elt gens bC _,ae=>match gens with
  |⟨t,it,ifs,a⟩::rest=>if a=0/\jc sc bC=true/\freshT (bJ bC ae) t=true then(orOwn it ae (ev Φ sc it ae)).bind λsrc=>(bP src).bind λar=>
    (bN (λd=>(bL bC t d (bJ bC ae)).bind λaW=>(tJ Φ bC ifs aW).bind λc=>bM c (tK Φ bC rest aW λvs=>(ev Φ bC elt vs).map one) (Xd [])) ar).bind AO
   else Xe
  |_=>Xe
 |_,_=>Xe
def dT(Φ:fO)(sc:V5):Expr->ax->Option Dat->Option Bool
 | .UnaryOp op x _,ae,whole=>match op with
  | .Not=>(dT Φ sc x ae (ev Φ sc x ae)).map (!·)
  |_=>whole.bind kL
 | .BoolOp op vs _,ae,_=>fu Φ sc op vs ae
 | .Compare l ops cs _,ae,_=>(orOwn l ae (ev Φ sc l ae)).bind λa=>oE Φ sc a ops cs ae
 | .IfExp t b o _,ae,_=>(dT Φ sc t ae (ev Φ sc t ae)).bind λc=>bM c (dT Φ sc b ae (ev Φ sc b ae)) (dT Φ sc o ae (ev Φ sc o ae))
 |_,_,whole=>whole.bind kL
def fu(Φ:fO)(sc:V5):BoolOp->List Expr->ax->Option Bool
 |op,[],_=>Xd (op== .And)
 |op,e::es,ae=>(dT Φ sc e ae (ev Φ sc e ae)).bind λc=>bM (fL op c) (Xd c) (fu Φ sc op es ae)
def tL(Φ:fO)(sc:V5):BoolOp->List Expr->ax->Option Dat
 |_,[],_=>Xe
 |_,[e],ae=>ev Φ sc e ae
 |op,e::e2::es,ae=>(ev Φ sc e ae).bind λd=>(kL d).bind λc=>bM (fL op c) (Xd d) (tL Φ sc op (e2::es) ae)
def oE(Φ:fO)(sc:V5)(a:Dat):List CmpOp->List Expr->ax->Option Bool
 |[op],[e],ae=>(orOwn e ae (ev Φ sc e ae)).bind λb=>pW op a b
 |op::o2::ops,e::e2::es,ae=>(ev Φ sc e ae).bind λb=>(pW op a b).bind λc=>bM c (oE Φ sc b (o2::ops) (e2::es) ae) (Xd false)
 |_,_,_=>Xe
def FZ(Φ:fO)(sc:V5):List Expr->ax->Option (List Dat)
 |[],_=>Xd []
 |e::es,ae=>(ev Φ sc e ae).bind λd=>(FZ Φ sc es ae).map λds=>d::ds
def kn(Φ:fO)(sc:V5):List Expr->ax->Option (List Dat)
 |[],_=>Xd []
 |e::es,ae=>(orOwn e ae (ev Φ sc e ae)).bind λd=>(kn Φ sc es ae).map λds=>d::ds
def dQ(Φ:fO)(sc:V5):List Expr->ax->Option (List Dat)
 |[],_=>Xd []
 |e::es,ae=>(Se (match e with
  | .Starred x _=>Xd (orOwn x ae (ev Φ sc x ae))
  |_=>Xe) (ev Φ sc e ae)).bind λxs=>(dQ Φ sc es ae).map λds=>xs++ds
def Ox(Φ:fO)(sc:V5):Option Expr->ax->Option (Option Int)
 |none,_=>Xd Xe
 |some e,ae=>(ev Φ sc e ae).bind asI
def tJ(Φ:fO)(sc:V5):List Expr->ax->Option Bool
 |[],_=>Xd true
 |e::es,ae=>(dT Φ sc e ae (ev Φ sc e ae)).bind λc=>bM c (tJ Φ sc es ae) (Xd false)
def tK(Φ:fO)(sc:V5):List WI->ax->(ax->Option (List Dat))->Option (List Dat)
 |[],ae,k=>k ae
 |⟨t,it,ifs,a⟩::rest,ae,k=>if a=0/\freshT ae t=true then(orOwn it ae (ev Φ sc it ae)).bind λsrc=>(bP src).bind λar=>
   bN (λd=>(bL sc t d ae).bind λaW=>(tJ Φ sc ifs aW).bind λc=>bM c (tK Φ sc rest aW k) (Xd [])) ar
  else Xe
end
namespace Re
section
open PySem.Builtin.Re
theorem NR(text:Array Nat):∀(n p:Nat),nd text n p<=n:=by
 intro n;induction n with
 |zero=>exactλp=>Xz _
 |succ n ih=>
  intro p;rw[B2];split
  ·have:=ih (p+1);exact aO 0x91b90b11012 this
  ·exact aZ 0x90b811
theorem DZ:∀{n s p e:Nat},find text n s=Xd (p,e)->s<=p/\p<e/\e<=s+n:=by
 intro n;induction n with
 |zero=>intro s p e h;exact aa h
 |succ n ih=>
  intro s p e h;rw[CB]at h;split at h
  ·rename_i hd;rcases h with⟨⟩;have h1:=NR text (n+1) s;have h2:0<nd text (n+1) s:=by rw[B2,hd];simp
   exact bj 0x91b2b02b102b204221408091b013 h1 h2
  ·split at h
   ·rcases h with⟨⟩;exact aO 0x91b0b90b190b00400141
   ·have:=ih h;exact eg 0x93b0b2121041014390bb212104190b142 rfl this
noncomputable def cut(text:Array Nat)(b e:Nat):VV:=⟨text.extract b e⟩
def BX(text:Array Nat)(lim:Nat):Nat->Nat->List VV|0,last=>[cut text last lim]|k+1,last=>(find text (lim-last) last).elim [cut text last lim] λz=>cut text last z.1::cut text z.1 z.2::BX text lim k z.2
theorem DD{text:Array Nat}{lim k last:Nat}:BX text lim (k+1) last=(find text (lim-last) last).elim [cut text last lim] λz=>cut text last z.1::cut text z.1 z.2::BX text lim k z.2:=rfl
end
section
open PySem.Builtin.Re
variable {M:Model} {A:W6} {E:VO->VY->Prop} {s:VY}
theorem AE{Q:Sre.M->VY->Prop}:∀(k n:Nat)(m:Sre.M),k<n->(m.runFor (4*k)).outcome.isSome=true->Q (m.runFor (4*k)) s->Vw M A (reDrive n m) Q E s
 |k,0,m,hk,_,_=>absurd hk (Xn _)
 |0,n+1,m,hk,ho,hq=>by unfold reDrive;have hm:m.runFor reTurnSteps=m:=cm ho;simp only[hm];have jH:m.outcome.isSome=true:=ho;rw[jH,Vh rfl];exact Vk hq
 |k+1,n+1,m,hk,ho,hq=>by
  unfold reDrive;have hs:m.runFor (4*(k+1))=(m.runFor 4).runFor (4*k):=by rw[<-bE];congr 1;exact aZ 0x4d04ab90b04d21
  have h4:reTurnSteps=4:=rfl;simp only[h4];by_cases h:(m.runFor 4).outcome.isSome=true
  ·rw[Vh h];rw[hs,cm h]at hq;exact Vk hq
  ·rw[Vg h];rw[hs]at ho hq;exact Vt (wpAny_rule (AE k n _ (aO 0x10091b90b02 hk) ho hq))
theorem sv{Q:Option Sre.M->VY->Prop}(k:Nat)(m:Sre.M)(hk:k<2^64)(ho:(m.runFor (4*k)).outcome.isSome=true)(hs:∀why,(m.runFor (4*k)).outcome≠Xd (.stuck why))(h1:(m.runFor (4*k)).outcome=Xd .matched->Q (Xd (m.runFor (4*k))) s)(h2:(m.runFor (4*k)).outcome=Xd .failed->Q Xe s):Vw M A (reRunToEnd m) Q E s:=by
 unfold reRunToEnd;refine Vt (AE k (2^64) m hk ho ?_);refine Vt (wpAny_forIn_list _ (λx x s'=>s'=s) _ ?_ ?_ _ _ rfl)
 ·rintro i rest⟨⟩s' rfl;split
  ·exact Vt (wpAny_rule (Vk rfl))
  ·exact Vk rfl
 ·rintro⟨⟩s' rfl;cases hc:(m.runFor (4*k)).outcome with
  |none=>rw[hc]at ho;(rcases ho with⟨⟩)
  |some o=>
   rcases o with⟨⟩;case matched=>exact Vk (h1 hc)
   case failed=>exact Vk (h2 hc)
   case stuck=>exact absurd hc (hs why)
theorem BZ{Q:Option Sre.M->VY->Prop}{t:ReTarget}{start:Nat}(hc:t.code=code)(hg:t.groups=1)(hl:t.lim<16777217)(hs:start<=t.lim)(h1:∀m p e,find t.text (t.lim-start) start=Xd (p,e)->Hit m p e->Q (Xd m) s)(h2:find t.text (t.lim-start) start=Xe->Q Xe s):Vw M A (reNextFound t start false) Q E s:=by
 unfold reNextFound;rw[hc,hg];have hm:=yb (text:=t.text) (lim:=t.lim) start (aZ 0xffffffff8f00010000018f002 hl) hs;have hr:∀{m:Sre.M},(m.runFor (7*t.lim+12)).outcome.isSome=true->m.runFor (4*(7*t.lim+12))=m.runFor (7*t.lim+12):=λ{m}h=>by rw[show 4*(7*t.lim+12)=(7*t.lim+12)+(3*(7*t.lim+12)) by exact aZ 0xca007db03d0ca007dbb0ca007db04d21,bE,cm h]
 cases hf:find t.text (t.lim-start) start with
 |none=>rw[hf]at hm;have rE:=hr (by rw[hm];rfl);refine sv (7*t.lim+12) _ (by lia) (by rw[rE,hm];rfl) (λwhy=>by rw[rE,hm];nofun) (λh=>by rw[rE,hm]at h;rcases h with⟨⟩) λx=>h2 hf
 |some r=>obtain⟨p,e⟩:=r;rw[hf]at hm;have rE:=hr (by rw[hm.out];rfl);refine sv (7*t.lim+12) _ (by lia) (by rw[rE,hm.out];rfl) (λwhy=>by rw[rE,hm.out];nofun) (λx=>?_) (λh=>by rw[rE,hm.out]at h;rcases h with⟨⟩);rw[rE];exact h1 _ p e hf hm
end
section
open PySem.F PySem.Builtin.Re
theorem sD:PlainAttrs "re.Pattern":=by refine⟨⟨"object.__getattribute__",by rw[Vx,VI];kernel_rfl,by decide +kernel⟩,by rw[Vx,VI];kernel_rfl⟩
theorem si:VX "re.Pattern" "split" "re.Pattern.split":=.of (owner:="re.Pattern") (n:="split") (by rw[Vx,VI];kernel_rfl) (by decide +kernel) (by decide +kernel) (by decide +kernel) (by first|exact .inl (by decide +kernel)|exact .inr (by decide +kernel)) (by rw[VC];kernel_rfl)
theorem Bm:typeOf (.builtin "re.Pattern.split")=pure (.type "method_descriptor"):=by show builtinType _=_;rw[builtinType_eq_fast];kernel_rfl
theorem AB:entryFor table "re.Pattern.split"=Xd WY.«re.Pattern.split»:=VF (by kernel_rfl)
theorem Fn:Manifest.owners.lookup (String.ofList ['n','r','e','t','t','a','P','.','e','r'].reverse)=Xd Manifest.sig_re_Pattern:=by kernel_rfl
theorem yI(a b:VO):argsOk "re.Pattern.split" ⟨[a,b],[]⟩:=by unfold argsOk;rw[Vz (n:=['t','i','l','p','s']) (by kernel_rfl) Fn];kernel_rfl
theorem Fv(v:VO):reNamed "re.Pattern.split" "split" ["string","maxsplit"] 1 [v] []=pure [Xd v,Xe]:=by rfl
structure fM (h:Wz) (a c:W8):Prop where
 aV:∃o vs,h.get? a=Xd o/\o.cls=.type "re.Pattern"/\o.dict=Xe/\o.data=.fields vs/\reRawNat (vs.getD 2 .none)=1/\vs.getD 5 .none=.ref c/\reRawNat (vs.getD 6 .none)=0
 cod:∃o ar n,h.get? c=Xd o/\o.cls=.type "tuple"/\o.data=.seq ar n/\(ar.map reRawOf).map (·.toNat)=code
end
section
open PySem.F PySem.Builtin.Re
variable {M:Model} {A:W6} {E:VO->VY->Prop} {s:VY} {ai:W8->Prop}
theorem GV(hp:fM s.heap a c){Q:ReTarget->VY->Prop}(hQ:∀T:ReTarget,T.code=code->T.groups=1->T.text=t.cps->T.lim=t.cps.size->T.kind=0->Q T s):Vw M A (reWholeTarget (.ref a) (.str t tk)) Q E s:=by obtain⟨y0,y1⟩:=hp;refine EB y0 λo vs ho hc hn hd h2 y2=>aU y2 λh5 h6=>jg y1 λoc ar n Ru x hdc tn=>?_;unfold reWholeTarget;refine Vt (wpAny_fieldsOf ho hd ?_);have h1:reTextOf (.str t tk)=pure (t.cps,0):=rfl;rw[h1,h6];refine Vt (Vk ?_);dsimp only;rw[Vg (by decide),Vg (by decide)];have h3:reNoCollectionInside (.str t tk) 0=pure ():=rfl;rw[h3];refine Vt (Vk ?_);refine Vt ?_;unfold reRawItems;rw[h5];refine Vt (wpAny_seqItems Ru hdc (Vk (Vk ?_)));exact hQ _ tn h2 rfl rfl rfl
theorem ll{t:VV}{b e:Nat}(ht:t.length<=65536){Q:VO->VY->Prop}(hQ:Q (.str (cut t.cps b e) s.toks) {s with toks:=s.toks+1}):Vw M A (reSlice t.cps 0 b e) Q E s:=by
 unfold reSlice;rw[Vh (by rfl)];refine wpAny_mkStr hQ ?_;have h1:(t.cps.extract b e).size<=t.cps.size:=by rw[Array.size_extract];exact bj 0x1210dfc11
 have h2:=ht;exact Xy h1 (Xy h2 (by decide))
theorem BW(text:Array Nat)(lim:Nat):∀(f last:Nat),(BX text lim f last).length<=2*f+1:=by
 intro f;induction f with
 |zero=>exactλlast=>Xz _
 |succ f ih=>intro last;rw[DD];cases find text (lim-last) last with|none=>simp|some z=>have:=ih z.2;simp;exact aO 0x91b02d90b19102db012 this
def Q8(ai:W8->Prop)(s:VY)(text:Array Nat)(total:List VV)(rest:List Nat)(b:Array VO×Nat×Nat×Bool×Int×Bool)(s':VY):Prop:=∃k aY,s'={s with toks:=s.toks+k}/\aK s.heap ai b.1.toList (aY.map .str)/\b.2.2.2.1=false/\b.2.1=b.2.2.1/\b.2.1<=text.size/\((b.2.2.2.2.2=false/\text.size-b.2.1<rest.length/\∃f,text.size-b.2.1<=f/\aY++BX text text.size f b.2.1=total)\/(b.2.2.2.2.2=true/\aY++[cut text b.2.1 text.size]=total))
theorem zA(ht:t.length<=65536):Meets (WY.«re.Pattern.split» ⟨[.ref a,.str t tk],[]⟩) λA R s=>fM s.heap a c/\∀us k,aK s.heap ai us ((BX t.cps t.cps.size t.cps.size 0).map .str)->R (.ok (.ret (.ref s.heap.objs.size))) {s with heap:=s.heap.push {cls:=.type "list",data:=.seq us.toArray},toks:=s.toks+k}:=by
 intro prog w A R s ⟨hp,hR⟩;revert ht hp hR;refine ux (bT (bT (bT (bT rB pA) GB) U8) U8) ?_ A s w ai a t tk c prog R;generalize gE _ _=tt;dsimp only[GN];generalize tt.1.1.1.1=A,tt.1.1.1.2=s,tt.1.1.2=w,tt.1.2.1=ai,tt.1.2.2=a,tt.2.1.1.1=t,tt.2.1.1.2=tk,tt.2.1.2=c,tt.2.2.1=prog,tt.2.2.2=R;intro ht hp hR;unfold WY.«re.Pattern.split»;dsimp only;rw[Fv];refine Vt (Vk ?_);refine Vt (Vk ?_);refine Vt (GV hp λT hc hg hx hl hk=>?_);have hsz:=ht;rw[hx,hl,hk];have Uo:reMostMatches T=2*t.cps.size+3:=by unfold reMostMatches;rw[hx]
 rw[Uo];refine Vt (wpAny_forIn_list _ (Q8 ai s t.cps (BX t.cps t.cps.size t.cps.size 0)) _ ?_ ?_ _ _ ⟨0,[],rfl,.nil,rfl,rfl,Xk _,.inl ⟨rfl,by simp;exact aZ 0x3a002db001,t.cps.size,by simp,rfl⟩⟩)
 ·refineλi rest=>xP6 λout start last Zbm n over=>?_;intro s' y2;(refine EB y2 ?_;clear y2;rintro k aY(rfl)hr Um oo hle ow);dsimp only at hr Um oo hle ow ⊢;subst Um oo;refine Xa ow (λy0=>?_) λy1=>?_
  ·obtain⟨ho,hlen,f,hf,FN⟩:=y0;subst ho;rw[Vh (by rfl),Vg (by simp)];refine Vt (BZ hc hg (by rw[hl];exact aZ 0x10000018f00000100008f012 hsz) (by rw[hl];exact hle) (λm p e RA hm=>?_) λRA=>?_)
   ·rw[hx,hl]at RA;refine bD (DZ RA) λi1 i2 i3=>Vt (ll ht ?_);rw[hg];have Mb:reMachineGroup T m (0+1) (pure VN)=reSlice t.cps 0 p e:=by unfold reMachineGroup;rw[hm.last,hm.marks,hx,hk];rw[Vg (by decide)];show(if e<p then reWrongSpan else reSlice t.cps 0 p e)=_;rw[Vg (by exact aO 0x1031002 i2)]
    rw[show Yc 1=[0]from rfl];rw[List.forIn_cons,Mb];refine Vt (Vt (Vt (ll ht (Vk ?_))));dsimp only;rw[List.forIn_nil];refine Vk (Vk ?_);have Ud:aY++BX t.cps t.cps.size f start=(aY++[cut t.cps start p,cut t.cps p e])++BX t.cps t.cps.size (f-1) e:=by
     rcases f with⟨⟩;case zero=>exact(eg 0x6803c103c0b212101015 rfl i1 i2 i3 hf).elim
     case succ=>rw[DD,RA];simp
    refine⟨k+1+1,aY++[cut t.cps start p,cut t.cps p e],rfl,?_,?_,rfl,?_,.inl ⟨rfl,?_,f-1,?_,?_⟩⟩
    ·rw[hm.start];rw[Array.toList_push,Array.toList_push,Zv,YE];exact hr.append (.cons (.str _ _) (.cons (.str _ _) .nil))
    ·dsimp only;rw[hm.start,hm.handed];simp;exact aO 0x1231002 i2
    ·dsimp only;rw[hm.handed];exact bj 0x12101c0b211013 hle i3
    ·dsimp only;rw[hm.handed];simp at hlen;exact uv 0x240c010c1b4143031192b10c05 rfl hlen i1 i2 i3
    ·dsimp only;rw[hm.handed];exact uv 0x92c40c1430311210c14 rfl hf i1 i2
    ·dsimp only;rw[hm.handed,<-Ud];exact FN
   ·rw[hx,hl]at RA;refine Vk ⟨k,aY,rfl,hr,rfl,rfl,hle,.inr ⟨rfl,?_⟩⟩;rw[<-FN];congr 1;rcases f with⟨⟩;case zero=>rfl
    case succ=>rw[DD,RA];rfl
  ·refine aU y1 λho FN=>?_;subst ho;rw[Vg (by simp)];exact Vk ⟨k,aY,rfl,hr,rfl,rfl,hle,.inr ⟨rfl,FN⟩⟩
 ·refine xP6 λout start last Zbm n over=>?_;intro s' y2;(refine EB y2 ?_;clear y2;rintro k aY(rfl)hr Um oo hle ow);dsimp only at hr Um oo hle ow ⊢;subst Um oo;refine Xa ow (λy0=>?_) λy1=>?_
  ·refine bD y0 λho hlen x=>?_;simp at hlen
  ·refine aU y1 λho FN=>?_;subst ho;rw[Vg (by simp)];refine Vt (ll ht ?_);have hre:aK s.heap ai (out.push (.str (cut t.cps start t.cps.size) (s.toks+k))).toList ((BX t.cps t.cps.size t.cps.size 0).map .str):=by rw[<-FN,Array.toList_push,YE];exact hr.append (.cons (.str _ _) .nil)
   refine Vt (wpAny_newList (Vk (hR _ (k+1) hre)) ?_)
   ·have:=hre.length;rw[this,YN];exact Xy (BW _ _ _ _) (Xy (show 2*t.cps.size+1<=131073 by exact aZ 0x200018f9002db1000100008f012 hsz) (by decide))
end
end Re
theorem zS:Nonempty Cx:=⟨⟨default,{},λ_=>Xe,λ_=>Xe,[],λ_=>False⟩⟩
theorem neF:Nonempty fO:=⟨⟨λ_=>Xe,λ_=>Xe,λ_ _ _=>Xe,λ_=>Xe,0⟩⟩
theorem NQ:Nonempty Dat:=⟨.none⟩
theorem neO:Nonempty Slot:=⟨.val .none⟩
variable {C:Cx} {A:W6} {E:VO->VY->Prop} {s s' iF aH:VY} {ai aj W W' dR:W8->Prop} {ag:WH} {sc bC:V5} {ae aW V V':ax} {n k i:Nat} {Φ:fO} {ad:VV->W8} {prog:Wf} {w:World} {h h':Wz} {o:Obj} {a I D L:W8} {d:Dat} {v u:VO} {ds:List Dat} {vs:List VO} {x:VV} {t value:Expr} {pos p:Pos} {Q:VO->VY->Prop} {K:WH->W6->Prop}
structure dD (C:Cx) (n:Nat) (A:W6):Prop where
 handled:A.handled=Xe
 depth:A.depth+n<recursionLimit
 units:A.units+10*n+1000<cLine
 frames:∃fs,A.frames=Xd fs/\∀f∈fs,f.scope.kind=.function/\∃L,f.frame=Xd L/\C.fr L/\C.h₀.get? L=Xe
def Wp{α:Type}(C:Cx)(A:W6)(t:V0 α)(P:α->VY->Prop)(s:VY):Prop:=∀(E:VO->VY->Prop)(Q:α->VY->Prop),(∀a s',Ex C s s'->P a s'->Q a s')->aP (VB pw Wd) A t Q E s
abbrev eS(C:Cx)(A:W6)(ai:W8->Prop)(t:V0 VO)(d:Dat)(s:VY):Prop:=Wp C A t (λv s'=>Rep s'.heap ai v d) s
theorem Wp.mono{α:Type}{t:V0 α}{P P':α->VY->Prop}(h:Wp C A t P s)(k:∀a s',Ex C s s'->P a s'->P' a s'):Wp C A t P' s:=λE Q q=>h E Q λa s' x p=>q a s' x (k a s' x p)
theorem Wp.pure{α:Type}{a:α}{P:α->VY->Prop}(h:P a s):Wp C A (pure a) P s:=λx x q=>ao (q a s (.refl s) h)
def fI(h:Wz)(ag:WH)(x:VV)(v:VO):Prop:=(x==("__debug__":VV))=false/\(x==("__classdict__":VV))=false/\((ag.kindOf x=Xd .local/\∃m,h.Ns ag.locals m/\m x=Xd v)\/((ag.kindOf x=Xd .cell\/ag.kindOf x=Xd .free)/\∃c,ag.cells.lookup x=Xd c/\h.IsCell c (Xd v)))
inductive bl (h:Wz) (ai:W8->Prop):VO->Dat->Prop
 |rep {v:VO} {d:Dat} (r:Rep h ai v d):bl h ai v d
 |list {a:W8} {o:Obj} {vs:List VO} {n:Nat} {ds:List Dat} (ho:h.get? a=Xd o) (hc:o.cls=.type "list") (hn:o.dict=Xe) (hd:o.data=.seq vs.toArray n) (hr:aK h ai vs ds):bl h ai (.ref a) (.list ds)
 |bg {a:W8} {o:Obj} {b:List UInt8} {n:Nat} (ho:h.get? a=Xd o) (hc:o.cls=.type "bytearray") (hd:o.data=.bytearray b.toArray n):bl h ai (.ref a) (.bg b)
set_option tactic.hygienic true in
theorem bl.qz(r:bl h ai v (.list ds)):∃a o vs k,v=.ref a/\h.get? a=Xd o/\o.cls=.type "list"/\o.dict=Xe/\o.data=.seq vs.toArray k/\aK h ai vs ds:=by
 rcases r with⟨⟩;case rep r=>refine mq r.qz λa o vs k h1 x h2=>?_;exact⟨a,o,vs,k,h1,h2⟩
 case list ho hc hn hd hr=>exact⟨_,_,_,_,rfl,ho,hc,hn,hd,hr⟩
inductive iC (h:Wz) (ai:W8->Prop):List VO->List Dat->Prop
 |nil:iC h ai [] []
 |cons {v:VO} {d:Dat} {vs:List VO} {ds:List Dat}:bl h ai v d->iC h ai vs ds->iC h ai (v::vs) (d::ds)
def kz(h:Wz)(ai:W8->Prop)(L:W8)(v:VO):Slot->Prop| .val d=>Rep h ai v d| .own d=>bl h ai v d/\∃a,v=.ref a/\ai a/\a+1≠L
def Lo(h:Wz)(ai:W8->Prop)(ag:WH)(ae:ax):Prop:=∀x sl,ae.lookup x=Xd sl->∃v,fI h ag x v/\kz h ai ag.locals v sl
structure aR (ag:WH) (sc:V5):Prop where
 kind:ag.scope.kind=.function
 globals:ag.globals=mainGlobals
 builtins:ag.builtins=builtinsNs
 glob:∀x,sc.names.lookup x=Xd .globalImplicit->ag.kindOf x=Xd .globalImplicit
 loc:∀x,sc.names.lookup x=Xd .local->ag.kindOf x=Xd .local
 nA:∀x,sc.names.lookup x=Xd .cell->ag.kindOf x=Xd .cell
 fre:∀x,sc.names.lookup x=Xd .free->ag.kindOf x=Xd .cell\/ag.kindOf x=Xd .free
 cells:∀x,sc.names.lookup x=Xd .cell\/sc.names.lookup x=Xd .free->∃c,ag.cells.lookup x=Xd c
 inj:∀x y c,ag.cells.lookup x=Xd c->ag.cells.lookup y=Xd c->x=y
theorem Bs.fG(z:Bs C s)(e:s.heap.get? a=Xd o)(hd:∀es n,o.data≠.dict es n):¬C.fr a:=λf=>by refine kJ (z.alive a f) λo' es n e' d=>?_;rw[e]at e';obtain rfl:=Xc e';exact hd _ _ d
theorem Bs.d7(z:Bs C s)(e:s.heap.get? a=Xd o)(hd:∀vs,o.data≠.fields vs):¬C.T a:=by refineλy0=>mr y0 λc p q m=>?_;rcases z.tab c a p q m with e'|⟨_,e',_⟩<;>(rw[e]at e';obtain rfl:=Xc e';exact hd _ rfl)
theorem Lx(h:o.data=.cell c)(vs:Array VO):o.data≠.fields vs:=by rw[h];nofun
theorem LC(h:o.data=.cell c)(es:Array DictEntry)(n:Nat):o.data≠.dict es n:=by rw[h];nofun
theorem fI.keep(H:fI h ag x v)(h1:∀o,h.get? ag.locals=Xd o->(∃es n,o.data=.dict es n)->f9 h' ag.locals o)(h2:∀b o c,h.get? b=Xd o->o.data=.cell c->h'.get? b=Xd o):fI h' ag x v:=by
 refine bD H λa1 a2 a3=>⟨a1,a2,?_⟩;refine Xa a3 (λy0=>?_) λy2=>?_
 ·obtain⟨b1,m,y1,b5⟩:=y0;refine qP y1 λo es ep b2 b3 b4=>av (h1 _ b2 ⟨_,_,b3⟩) λo' e' d'=>.inl ⟨b1,m,⟨o',es,ep,e',d'.trans b3,b4⟩,b5⟩
 ·obtain⟨b1,c,b2,o,b3,b4⟩:=y2;exact .inr ⟨b1,c,b2,o,h2 _ _ _ b3 b4,b4⟩
theorem kx{P:Obj->Prop}(ha:h.get? a=Xd o)(hb:h.get? b=Xd o')(p:P o)(np:¬P o'):a≠b:=λq=>np (Xc (ha.symm.trans (q▸hb))▸p)
theorem fI.ex(z:Bs C s)(y:Ex C s s')(h:fI s.heap ag x v):fI s'.heap ag x v:=h.keep (λo e hd=>y.data e (z.d7 e λvs q=>let⟨_,_,hd⟩:=hd;nomatch hd.symm.trans q)) λb o c e hd=>y.keep _ _ e (z.d7 e (Lx hd)) (z.fG e (LC hd))
theorem bl.ex(z:Bs C s)(V:bz C ai s)(y:Ex C s s')(h:bl s.heap ai v d):bl s'.heap ai v d:=by
 rcases h with⟨⟩;case rep=>exact .rep (r.ex V y)
 case list=>exact .list (y.keep _ _ ho (z.d7 ho (by rw[hd];nofun)) (z.fG ho (by rw[hd];nofun))) hc hn hd (hr.ex V y)
 case bg=>exact .bg (y.keep _ _ ho (z.d7 ho (by rw[hd];nofun)) (z.fG ho (by rw[hd];nofun))) hc hd
theorem kz.ex(z:Bs C s)(V:bz C ai s)(y:Ex C s s')(h:kz s.heap ai L v sl):kz s'.heap ai L v sl:=by
 rcases sl with⟨⟩;case val=>exact Rep.ex V y h
 case own=>exact⟨bl.ex z V y h.1,h.2⟩
theorem Lo.ex(z:Bs C s)(V:bz C ai s)(y:Ex C s s')(h:Lo s.heap ai ag ae):Lo s'.heap ai ag ae:=λx sl e=>by refine av (h x sl e) λv a b=>⟨v,a.ex z y,b.ex z V y⟩
structure In (C:Cx) (ai:W8->Prop) (ag:WH) (ae:ax) (s:VY):Prop where
 bs:Bs C s
 vo:bz C ai s
 lo:Lo s.heap ai ag ae
 cells:∀x c,ag.cells.lookup x=Xd c->∃v,s.heap.IsCell c v
theorem In.ex(i:In C ai ag ae s)(y:Ex C s s'):In C ai ag ae s':=⟨y.bs i.bs,i.vo.ex y (y.bs i.bs),i.lo.ex i.bs i.vo y,λx c hc=>by refine eT (i.cells x c hc) λv o ho hd=>⟨v,o,y.keep _ _ ho (i.bs.d7 ho (by rw[hd];nofun)) (i.bs.fG ho (by rw[hd];nofun)),hd⟩⟩
structure cA (C:Cx) (n:Nat):Prop where
 bin:∀{op a b d v u A s ai},dD C n A->Bs C s->bz C ai s->Rep s.heap ai v a->Rep s.heap ai u b->my op a b=Xd d->eS C A ai (binaryOp op v u) d s
 un:∀{op a d v A s ai},dD C n A->Bs C s->bz C ai s->Rep s.heap ai v a->unD op a=Xd d->eS C A ai (unaryOp op v) d s
 cmp:∀{op a b r v u A s ai},dD C n A->Bs C s->bz C ai s->bl s.heap ai v a->bl s.heap ai u b->pW op a b=Xd r->eS C A ai (compareOp op v u) (.bool r) s
 tru:∀{a b v A s ai},dD C n A->Bs C s->bz C ai s->bl s.heap ai v a->kL a=Xd b->Wp C A (truthy v) (λt x=>t=b) s
 item:∀{value slice a i d v u A s ai},dD C n A->Bs C s->bz C ai s->bl s.heap ai v a->Rep s.heap ai u i->ej a i=Xd d->(∀p q r t,slice≠.Slice p q r t)->eS C A ai (subscriptTail value slice v u) d s
 slice:∀{value lo hi st p a d v v1 v2 v3 l1 l2 l3 sl A s ai},dD C n A->Bs C s->bz C ai s->bl s.heap ai v a->s.heap.IsSliceOf sl v1 v2 v3->Wn v1 l1->Wn v2 l2->Wn v3 l3->fe a l1 l2 l3=Xd d->
  eS C A ai (subscriptTail value (.Slice lo hi st p) v (.ref sl)) d s
structure cu (C:Cx) (Φ:fO) (n:Nat):Prop where
 fn:∀{f g},Φ.fn f=Xd g->∃a o fd,C.mg f=Xd (.ref a)/\(f==("__debug__":VV))=false/\¬C.T a/\C.h₀.get? a=Xd o/\o.data=.func fd/\
  ∀{A s ai vs ds d},dD C n A->Bs C s->bz C ai s->aK s.heap ai vs ds->g ds=Xd d->eS C A ai (VH (.ref a) vs) d s
 uu:∀{f g},Φ.uu f=Xd g->∃v,C.mg f=Xe/\C.mb f=Xd v/\(f==("__debug__":VV))=false/\(∀a,v≠.ref a)/\
  ∀{A s ai vs ds d},dD C n A->Bs C s->bz C ai s->iC s.heap ai vs ds->g ds=Xd d->eS C A ai (VH v vs) d s
 glob:∀{x d},Φ.glob x=Xd d->∃v,(C.mg x=Xd v\/(C.mg x=Xe/\C.mb x=Xd v))/\(x==("__debug__":VV))=false/\∀{s ai},Bs C s->bz C ai s->Rep s.heap ai v d
 pB:∀{m a ds d v s ai},Φ.pB m a ds=Xd d->Bs C s->bz C ai s->bl s.heap ai v a->∃id,(∀{A pl},Wp C A (getMethod v m pl) (λr y=>r=(.builtin id,[v])) s)/\
  ∀{A s vs},dD C n A->Bs C s->bz C ai s->bl s.heap ai v a->aK s.heap ai vs ds->eS C A ai (VH (.builtin id) (v::vs)) d s
inductive It (h:Wz) (ai W:W8->Prop):W8->List Dat->Prop
 |list {I l:W8} {i:Nat} {vs:List VO} {ds:List Dat} (hi:h.IsListIter I l i) (hl:h.IsList l vs.toArray) (hr:aK h ai (vs.drop i) ds) (w1:¬W I) (w2:¬W l):It h ai W I ds
 |tuple {I l:W8} {i:Nat} {vs:List VO} {ds:List Dat} (hi:h.IsTupleIter I l i) (hl:h.IsTuple l vs.toArray) (hr:aK h ai (vs.drop i) ds) (w1:¬W I) (w2:¬W l):It h ai W I ds
 |range {I:W8} {x st:Int} {n:Nat} (hi:IsRangeIter h I x (n:Int) st) (w1:¬W I):It h ai W I ((Yc n).map λk:Nat=>.int (x+st*(k:Int)))
 |str {I:W8} {x:VV} {t:Tok} {i:Nat} (hi:h.IsStrIter I "str_ascii_iterator" x t i) (w1:¬W I):It h ai W I ((x.cps.toList.drop i).map λc=>.str ⟨#[c]⟩)
 |bytes {I:W8} {b:List UInt8} {t:Tok} {i:Nat} (hi:KBw.IsBytesIter h I b.toArray t i) (w1:¬W I):It h ai W I ((b.drop i).map λc=>.int c.toNat)
theorem It.mono{g9:W8->Prop}(hk:∀b o,h.get? b=Xd o->¬W b->h'.get? b=Xd o)(hr:∀{vs ds},aK h ai vs ds->aK h' g9 vs ds)(x:It h ai W I ds):It h' g9 W I ds:=by cases x with|list hi hl rE w1 w2=>refine av hi λo ho r=>av hl λo2 o5 r2=>?_;exact .list ⟨o,hk _ _ ho w1,r⟩ ⟨o2,hk _ _ o5 w2,r2⟩ (hr rE) w1 w2|tuple hi hl rE w1 w2=>refine av hi λo ho r=>av hl λo2 o5 r2=>?_;exact .tuple ⟨o,hk _ _ ho w1,r⟩ ⟨o2,hk _ _ o5 w2,r2⟩ (hr rE) w1 w2|range hi w1=>exact .range (hk _ _ hi w1) w1|str hi w1=>refine av hi λo ho r=>?_;exact .str ⟨o,hk _ _ ho w1,r⟩ w1|bytes hi w1=>refine av hi λo ho r=>.bytes ⟨o,hk _ _ ho w1,r⟩ w1
theorem It.Fs(x:It h ai W I ds):¬W I:=by rcases x with⟨⟩<;>assumption
theorem ik{T:String}(h:["tuple","list","range","bytearray","dict"].all (· !=T)):¬iD (.type T):=by rintro(e|e|e|e|e)<;>(obtain rfl:=VO.type.inj e;exact absurd h (by decide))
theorem iq{vs:Array VO}(ho:h.get? I=Xd o)(hc:o.cls=.type T)(hT:¬iD (.type T))(hd:o.data=.fields vs):∃o,h.get? I=Xd o/\¬iD o.cls/\(∀vs n,o.data≠.seq vs n)/\(∀es n,o.data≠.dict es n)/\(∀c,o.data≠.cell c):=⟨o,ho,hc▸hT,(λx x e=>nomatch hd.symm.trans e),(λx x e=>nomatch hd.symm.trans e),λx e=>nomatch hd.symm.trans e⟩
theorem It.gi(x:It h ai W I ds):∃o,h.get? I=Xd o/\¬iD o.cls/\(∀vs n,o.data≠.seq vs n)/\(∀es n,o.data≠.dict es n)/\(∀c,o.data≠.cell c):=by cases x with|list hi=>exact let⟨o,ho,hc,hd⟩:=hi;iq ho hc (ik rfl) hd|tuple hi=>exact let⟨o,ho,hc,hd⟩:=hi;iq ho hc (ik rfl) hd|range hi=>exact iq hi rfl (ik rfl) rfl|str hi=>exact let⟨o,ho,hc,hd⟩:=hi;iq ho hc (ik rfl) hd|bytes hi=>exact let⟨o,ho,hc,hd⟩:=hi;iq ho hc (ik rfl) hd
set_option tactic.hygienic true in
theorem It.next(x:It s.heap ai W I (d::ds)){Q:Option VO->VY->Prop}(hQ:∀v h' tk,Rep h' ai v d->It h' ai W I ds->Ww I s.heap h'->Q (Xd v) {s with heap:=h',toks:=tk}):aP (VB pw Wd) A (pyNext (.ref I)) Q E s:=by
 refine yY x.gi λoI kC ox Kj y=>?_;generalize e:d::ds=l at x;cases x with
 |list hi hl hr w1 w2=>
  rename_i l i vs;subst e;have jI:l≠I:=by rintro rfl;obtain⟨o,ho,_,n,hd⟩:=hl;rw[kC]at ho;obtain rfl:=Xc ho;exact Kj _ _ hd
  cases hv:vs.drop i with
  |nil=>rw[hv]at hr;(rcases hr with⟨⟩)
  |cons v qj=>
   rw[hv]at hr;rcases hr with⟨⟩;case cons r rs=>
    have hx:vs.toArray[i]?=Xd v:=by have:=Ve (·[0]?) hv;simpa using this
    have di:vs.drop (i+1)=qj:=by rw[<-Zo,hv];rfl
    refine aq <|wpAny_pyNext_list_item hi hl hx λh' kU hs=>hQ _ _ _ (r.extBut kC ox hs.extBut) (.list kU (hl.extBut hs.extBut jI) (di▸rs.extBut kC ox hs.extBut) w1 w2) hs
 |tuple hi hl hr w1 w2=>
  rename_i l i vs;subst e;have jI:l≠I:=by rintro rfl;obtain⟨o,ho,_,n,hd⟩:=hl;rw[kC]at ho;obtain rfl:=Xc ho;exact Kj _ _ hd
  cases hv:vs.drop i with
  |nil=>rw[hv]at hr;(rcases hr with⟨⟩)
  |cons v qj=>
   rw[hv]at hr;rcases hr with⟨⟩;case cons r rs=>
    have hx:vs.toArray[i]?=Xd v:=by have:=Ve (·[0]?) hv;simpa using this
    have di:vs.drop (i+1)=qj:=by rw[<-Zo,hv];rfl
    refine aq <|wpAny_pyNext_tuple_item hi hl hx λh' kU hs=>hQ _ _ _ (r.extBut kC ox hs.extBut) (.tuple kU (hl.extBut hs.extBut jI) (di▸rs.extBut kC ox hs.extBut) w1 w2) hs
 |range hi w1=>
  rename_i x st n;rcases n with⟨⟩;case zero=>(rcases e with⟨⟩)
  case succ n=>
   simp only[List.range_succ_eq_map,YC,YB]at e;injection e with e1 e2;subst e1 e2;refine aq <|wpAny_pyNext_range_item hi (aZ 0x90baf871) λh' kU hs=>hQ _ _ _ ?_ ?_ hs
   ·simpa using Rep.int x _
   ·have Ry:IsRangeIter h' I (x+st) (n:Int) st:=by have:((n+1:Nat):Int)-1=(n:Int):=aZ 0xaf990bafc91;rw[this]at kU;exact kU
    have z:=It.range (ai:=ai) (W:=W) Ry w1;have q:(Yc n).map ((λk:Nat=>Dat.int (x+st*(k:Int)))∘Nat.succ)=(Yc n).map λk:Nat=>.int (x+st+st*(k:Int)):=by refine YD λk y=>?_;show Dat.int _=Dat.int _;congr 1;have:((Nat.succ k:Nat):Int)=(k:Int)+1:=aZ 0x90afb90baf91;simp only[this,Int.mul_add,Int.mul_one];exact zB3 0x1f2f0fbb2f1fb0fb91 rfl
    exact q▸z
 |str hi w1=>
  rename_i x t i;cases hv:x.cps.toList.drop i with
  |nil=>replace e:=hv▸e;(rcases e with⟨⟩)
  |cons c cs=>
   rw[hv]at e;injection e with e1 e2;subst e1 e2;have hx:x.cps[i]?=Xd c:=by have:=Ve (·[0]?) hv;simpa using this
   have di:x.cps.toList.drop (i+1)=cs:=by refine xL Zo (xR hv ?_);rfl
   refine aq <|wpAny_pyNext_ascii_item hi hx λh' kU hs=>hQ _ _ _ (.str _ _) ?_ hs;have z:=It.str (ai:=ai) (W:=W) kU w1;rw[di]at z;exact z
 |bytes hi w1=>
  rename_i b t i;cases hv:b.drop i with
  |nil=>replace e:=hv▸e;(rcases e with⟨⟩)
  |cons c cs=>
   rw[hv]at e;injection e with e1 e2;subst e1 e2;have hx:b.toArray[i]?=Xd c:=by have:=Ve (·[0]?) hv;simpa using this
   have di:b.drop (i+1)=cs:=by refine xL Zo (xR hv ?_);rfl
   refine aq <|KBw.next_item hi hx λh' kU hs=>hQ _ _ _ (.int _ _) ?_ hs;have z:=It.bytes (ai:=ai) (W:=W) kU w1;rw[di]at z;exact z
theorem It.done(x:It s.heap ai W I [])(hh:A.handled=Xe){Q:Option VO->VY->Prop}(hQ:∀h',Wy I s.heap h'->Q Xe {s with heap:=h'}):aP (VB pw Wd) A (pyNext (.ref I)) Q E s:=by
 generalize e:([]:List Dat)=l at x
 cases x with
 |list hi hl hr w1 w2=>subst e;have DT:=hr.length;refine aq <|wpAny_pyNext_list_end hh hi hl ?_ hQ;simp at DT ⊢;exact aO 0x101810c22 DT
 |tuple hi hl hr w1 w2=>subst e;have DT:=hr.length;refine aq <|wpAny_pyNext_tuple_end hh hi hl ?_ hQ;simp at DT ⊢;exact aO 0x101810c22 DT
 |range hi w1=>have DT:=Ve YU e;simp at DT;exact aq <|wpAny_pyNext_range_end hh hi (aZ 0x80af80822 DT) hQ
 |str hi w1=>have DT:=Ve YU e;simp at DT;exact aq <|wpAny_pyNext_ascii_end hh hi (by simp;exact aO 0x10110c822 DT) hQ
 |bytes hi w1=>have DT:=Ve YU e;simp at DT;exact aq <|KBw.next_end hh hi (by simp;exact aO 0x10110c822 DT) hQ
theorem It.self(x:It s.heap ai W I ds)(hQ:Q (.ref I) s):aP (VB pw Wd) A (pyIter (.ref I)) Q E s:=by
 cases x with
 |list hi=>exact aq <|wpAny_pyIter_listiter hi hQ
 |tuple hi=>exact aq <|wpAny_pyIter_tupleiter hi hQ
 |range hi=>exact aq <|wpAny_pyIter_rangeiter hi hQ
 |str hi=>exact aq <|wpAny_pyIter_striter_ascii hi hQ
 |bytes hi=>exact aq <|KBw.pyIter_self hi hQ
theorem eI(a b c:Int):0<=WM a b c:=by
 unfold WM;split
 ·rename_i hc;split
  ·have:0<=(b-a-1)/c:=Int.ediv_nonneg (Rg 0x90f1fcc881f0f72 (by assumption)) (yW 0xf880f872 hc);exact yW 0x90fb880f882 this
  ·lia
 ·split
  ·have:0<=(a-b-1)/(-c):=Int.ediv_nonneg (Rg 0x90f1fcc881f0f72 (by assumption)) (yW 0xf9f880f8732 (by assumption));exact yW 0x90fb880f882 this
  ·lia
theorem xm{a b c:Int}(hc:c≠0):WM a b c<=0\/WM a b c<=b-a\/WM a b c<=a-b:=by
 unfold WM;split
 ·split
  ·have:(b-a-1)/c<=b-a-1:=Int.ediv_le_self _ (Rg 0x90f1fcc881f0f72 (by assumption));exact zB3 0x1f2fc90fb82f1fc90fb85890fb8592f1fcc0f82 rfl this
  ·exact Rg 0xf1fc881f0fc88588851
 ·split
  ·have:(a-b-1)/(-c)<=a-b-1:=Int.ediv_le_self _ (Rg 0x90f1fcc881f0f72 (by assumption));exact zB3 0x2f1fc90fb81f2fc90fb85890fb8592f1fcc0f82 rfl this
  ·exact Rg 0xf1fc881f0fc88588851
theorem cG{i:Int}:aM i=true↔-(2^62)<i/\i<2^62:=by unfold aM;simp
theorem mS{n:Nat}(h:n<=aS):aM (n:Int)=true:=cG.mpr ⟨Int.lt_of_lt_of_le (by decide +kernel) (ZC n),ZE (ZA.mpr h) (by decide +kernel)⟩
theorem qt{a b c:Int}(ha:aM a=true)(hb:aM b=true)(hc:aM c=true)(h0:c≠0):WY.Range.small a b c=true:=by simp only[cG]at ha hb hc;have h1:=eI a b c;have h2:=xm (a:=a) (b:=b) h0;generalize hz:WM a b c=z at *;delta WY.Range.small;refine xR hz ?_;simp only[WY.Range.rangeFitsLong,ZV,ZL,Vc,Vd];refine⟨⟨⟨⟨⟨by lia,by lia⟩,by lia,by lia⟩,by lia,by lia⟩,by lia,by lia⟩,.inr ?_⟩;split<;>simp only[ZV,Vc]<;>constructor<;>lia
set_option tactic.hygienic true in
theorem oj(r:bl s.heap ai v d)(hd:bP d=Xd ds)(hw:∀a,W a->∃o,s.heap.get? a=Xd o)(hl:∀a,v=.ref a->¬W a)(hQ:∀I h',s.heap.get? I=Xe->(∀b o,s.heap.get? b=Xd o->h'.get? b=Xd o)->It h' ai W I ds->Q (.ref I) {s with heap:=h'}):aP (VB pw Wd) A (pyIter v) Q E s:=by
 revert r hd hw hl hQ;refine ux (bT (bT (bT (bT pA U8) rB) (bT NQ U8)) U8) ?_ s () A d ai Q E W ds v;generalize gE _ _=tt;dsimp only[GN];generalize tt.1.1.1.1=s,tt.1.1.2=A,tt.1.2.1=d,tt.1.2.2=ai,tt.2.1.1.1=Q,tt.2.1.1.2=E,tt.2.1.2=W,tt.2.2.1=ds,tt.2.2.2=v;intro r hd hw hl hQ;have hI:¬W s.heap.objs.size:=λq=>by refine aI (hw _ q) λo e=>?_;rw[aJ]at e;exact aa e
 have rp:∀(o:Obj){vs:List VO}{es:List Dat},aK s.heap ai vs es->aK (s.heap.push o) ai vs es:=λo y y r=>r.mono λb o' e n=>⟨Wu o e,n⟩;have lst:∀{a:W8}{o:Obj}{vs:List VO}{n:Nat}{es:List Dat},s.heap.get? a=Xd o->o.cls=.type "list"->o.data=.seq vs.toArray n->aK s.heap ai vs es->¬W a->(∀I h',s.heap.get? I=Xe->(∀b o,s.heap.get? b=Xd o->h'.get? b=Xd o)->It h' ai W I es->Q (.ref I) {s with heap:=h'})->aP (VB pw Wd) A (pyIter (.ref a)) Q E s:=by
  intro a o vs n es ho hc hd hr hwa hQ
  refine aq <|wpAny_pyIter_list ⟨o,ho,hc,n,hd⟩ (hQ _ _ (aJ _) (λy y e=>Wu _ e) (.list (i:=0) ⟨_,Wt _ rfl,rfl,rfl⟩ ⟨o,Wu _ ho,hc,n,hd⟩ (rp _ hr) hI hwa))
 rcases r with⟨⟩;case list ho hc hn di hr=>obtain rfl:=Xc hd;exact lst ho hc di hr (hl _ rfl) hQ
 case bg ho hc di=>exact aa hd
 case rep r=>
  rcases r with⟨⟩;case none=>exact aa hd
  case bool=>exact aa hd
  case int=>exact aa hd
  case top=>exact aa hd
  case typ=>exact aa hd
  case bg=>exact aa hd
  case dict=>exact aa hd
  case list hv ho hc hn di hr=>obtain rfl:=Xc hd;exact lst ho hc di hr (hl _ rfl) hQ
  case tuple hv ho hc di hr=>obtain rfl:=Xc hd;refine aq <|wpAny_pyIter_tuple ⟨_,ho,hc,_,di⟩ (hQ _ _ (aJ _) (λy y e=>Wu _ e) (.tuple (i:=0) ⟨_,Wt _ rfl,rfl,rfl⟩ ⟨_,Wu _ ho,hc,_,di⟩ (rp _ hr) hI (hl _ rfl)))
  case range hv hr=>
   rename_i r a b c t u v;refine aL (c:=(aM a&&aM b&&aM c&&c !=0)=true) hd λhs hd=>?_
   ·obtain rfl:=Xc hd;simp only[ZV,bne_iff_ne,ne_eq]at hs;refine aU hs λy0 h0=>?_;refine aU y0 λy1 hc=>?_;refine aU y1 λha hb=>?_;refine aq <|wpAny_pyIter_range hr (qt ha hb hc h0) (hQ _ _ (aJ _) (λy y e=>Wu _ e) ?_);have z:IsRangeIter (s.heap.push {cls:=.type "range_iterator",data:=.fields #[rawInt a,rawInt (WM a b c),rawInt c]}) s.heap.objs.size a ((ey a b c:Nat):Int) c:=by unfold ey;rw[Zy (eI a b c)];exact Wt _ rfl
    have q:=It.range (ai:=ai) (W:=W) z hI;unfold sC;rw[YB];exact q
  case str x t=>
   refine aL (c:=x.cps.all (· <128)=true) hd λhs hd=>?_
   ·obtain rfl:=Xc hd;refine aq <|wpAny_pyIter_ascii hs (hQ _ _ (aJ _) (λy y e=>Wu _ e) ?_);exact It.str (i:=0) ⟨_,Wt _ rfl,rfl,rfl⟩ hI
  case bytes b t=>obtain rfl:=Xc hd;refine aq <|KBw.pyIter_bytes (hQ _ _ (aJ _) (λy y e=>Wu _ e) ?_);exact It.bytes (i:=0) ⟨_,Wt _ rfl,rfl,rfl⟩ hI
structure gL (C:Cx) (W:W8->Prop) (s s':VY):Prop where
 keep:∀b o,s.heap.get? b=Xd o->¬C.T b->¬C.fr b->¬W b->s'.heap.get? b=Xd o
 nz:∀b o,C.fr b->¬W b->s.heap.get? b=Xd o->f9 s'.heap b o
 bs:Bs C s->(∀a,W a->C.h₀.get? a=Xe)->Bs C s'
theorem gL.refl(s:VY):gL C W s s:=⟨λx x e x x x=>e,λx x x x e=>.of e,λz x=>z⟩
theorem gL.trans(x:gL C W s s')(y:gL C W s' iF):gL C W s iF:=⟨λb o e t f w=>y.keep b o (x.keep b o e t f w) t f w,λb o f w e=>let⟨o1,e1,d1⟩:=x.nz b o f w e;let⟨o2,e2,d2⟩:=y.nz b o1 f w e1;⟨o2,e2,d2.trans d1⟩,λz w=>y.bs (x.bs z w) w⟩
theorem gL.mono(x:gL C W s s')(h:∀a,W a->W' a):gL C W' s s':=⟨λb o e t f w=>x.keep b o e t f λq=>w (h b q),λb o f w e=>x.nz b o f (λq=>w (h b q)) e,λz w=>x.bs z λa q=>w a (h a q)⟩
theorem Ex.KD(x:Ex C s s'):gL C W s s':=⟨λb o e t f y=>x.keep b o e t f,λb o f y e=>x.nz b o f e,λz y=>x.bs z⟩
theorem gL.R6(x:gL C W s s')(h:∀a,W a->s.heap.get? a=Xe)(hT:∀a,W a->¬C.T a):Ex C s s':=by
 refine⟨λb o e t f=>x.keep b o e t f λq=>?_,λb o f e=>x.nz b o f (λq=>?_) e,λz=>x.bs z λa q=>?_⟩
 ·rw[h b q]at e;exact aa e
 ·rw[h b q]at e;exact aa e
 ·cases e:C.h₀.get? a with|none=>rfl|some o=>have:=z.keep a o e (hT a q);rw[h a q]at this;exact aa this
theorem gL.same{t:Nat}(hs:Wy a s.heap h')(ha:W a)(hT:¬C.T a)(I2:C.fr a->cZ h' a)(hd:∀oa vs x t,s.heap.get? a=Xd oa->oa.data=.fields vs->vs[1]?≠Xd (.str x t)):gL C W s {s with heap:=h',toks:=t}:=⟨λb o e y y w=>hs b o (λq=>w (q▸ha)) e,λb o y w e=>.of (hs b o (λq=>w (q▸ha)) e),λz w=>⟨λb o e t'=>hs b o (λq=>by subst q;replace e:=(w _ ha).symm.trans e;exact aa e) (z.keep b o e t'),λc P p q m=>by
  refine Xa (z.tab c P p q m) (λe=>.inl (hs _ _ (λq'=>hT (q'▸⟨c,p,q,m⟩)) e)) λy0=>?_
  ·refine av y0 λb e r=>.inr ⟨b,hs _ _ (λq'=>hT (q'▸⟨c,p,q,m⟩)) e,?_⟩;refine de r λb' o vs t e1 e2 e3 e4=>ZK λhG=>?_;rcases e1 with⟨⟩;refine hG ?_;have hb:b≠a:=λq=>by subst q;exact hd o vs _ _ e2 e3 e4
   exact⟨b,o,vs,t,rfl,hs _ _ hb e2,e3,e4⟩,z.gens,z.os,λb f=>by
   by_cases q:b=a
   ·exact q▸I2 (q▸f)
   ·exact(z.alive b f).data λo e=>.of (hs b o q e)⟩⟩
theorem H5(ho:h.get? I=Xd o)(hd:o.data=.fields us)(hn:∀x t,us[1]?≠Xd (.str x t)):∀oa vs x t,h.get? I=Xd oa->oa.data=.fields vs->vs[1]?≠Xd (.str x t):=by intro oa vs x t e1 e2;obtain rfl:=Xc (ho.symm.trans e1);obtain rfl:=Data.fields.inj (hd.symm.trans e2);exact hn x t
theorem It.vJ(x:It h ai W I ds):∀oa vs x t,h.get? I=Xd oa->oa.data=.fields vs->vs[1]?≠Xd (.str x t):=by cases x with|list hi=>exact let⟨o,ho,hc,hd⟩:=hi;H5 ho hd λy y q=>nomatch q|tuple hi=>exact let⟨o,ho,hc,hd⟩:=hi;H5 ho hd λy y q=>nomatch q|range hi=>exact H5 hi rfl λy y q=>nomatch q|str hi=>exact let⟨o,ho,hc,hd⟩:=hi;H5 ho hd λy y q=>nomatch q|bytes hi=>exact let⟨o,ho,hc,hd⟩:=hi;H5 ho hd λy y q=>nomatch q
theorem Ns.unique(x:h.Ns a m)(y:h.Ns a m'):m=m':=by refine jg x λo es ep ho hd u hm=>jg y λo' es' ep' jH di u Bg=>?_;rw[ho]at jH;obtain rfl:=Xc jH;replace di:=hd.symm.trans di;rcases di with⟨⟩;funext z;simp only[<-hm,<-Bg]
structure qg (C:Cx) (h:Wz) (ai:W8->Prop) (ag:WH) (sc:V5):Prop where
 ns:∃m,h.Ns ag.locals m
 vl:ai ag.locals
 fl:C.h₀.get? ag.locals=Xe
 cell:∀x c,sc.names.lookup x=Xd .cell->ag.cells.lookup x=Xd c->ai c/\C.h₀.get? c=Xe/\∃v,h.IsCell c v
def FW(ag:WH)(sc:V5)(a:W8):Prop:=a=ag.locals\/∃x,sc.names.lookup x=Xd .cell/\ag.cells.lookup x=Xd a
theorem qg.EL(f:qg C s.heap ai ag sc)(a:W8)(h:FW ag sc a):ai a:=by
 refine Xa h (λy0=>?_) λy1=>av y1 λx h1 h2=>(f.cell x a h1 h2).1
 ·obtain rfl:=y0;exact f.vl
theorem qg.new(f:qg C s.heap ai ag sc)(a:W8)(h:FW ag sc a):C.h₀.get? a=Xe:=by
 refine Xa h (λy0=>?_) λy1=>av y1 λx h1 h2=>(f.cell x a h1 h2).2.1
 ·obtain rfl:=y0;exact f.fl
theorem qg.d7(f:qg C s.heap ai ag sc)(z:Bs C s)(a:W8)(h:FW ag sc a):¬C.T a:=by
 refine Xa h (λy0=>?_) λy1=>?_
 ·obtain rfl:=y0;refine mq f.ns λm o es ep ho hd y=>z.d7 ho (by refine xR hd ?_;nofun)
 ·refine av y1 λx h1 h2=>?_;obtain⟨_,_,v,o,ho,hd⟩:=f.cell x a h1 h2;exact z.d7 ho (by refine xR hd ?_;nofun)
theorem qg.keep(f:qg C s.heap ai ag sc)(hk:∀b o,s.heap.get? b=Xd o->FW ag sc b->f9 s'.heap b o):qg C s'.heap ai ag sc:=by refine mq f.ns λm o es ep ho hd r=>av (hk _ _ ho (.inl rfl)) λo' e' d'=>⟨⟨m,o',es,ep,e',d'.trans hd,r⟩,f.vl,f.fl,λx c h1 h2=>?_⟩;refine ZK λhG=>?_;obtain⟨a,b,v,o,ho,hd⟩:=f.cell x c h1 h2;refine hG (av (hk _ _ ho (.inr ⟨x,h1,h2⟩)) λo' e' d'=>⟨a,b,v,o',e',d'.trans hd⟩)
theorem qg.ex(f:qg C s.heap ai ag sc)(z:Bs C s)(x:Ex C s s'):qg C s'.heap ai ag sc:=f.keep λb o e w=>x.data e (f.d7 z b w)
theorem Rep.eH(ha:ai a)(hs:Wy a h h')(r:Rep h ai v d):Rep h' ai v d:=r.mono λb o e n=>⟨hs b o (λq=>n (q▸ha)) e,n⟩
theorem aK.eH(ha:ai a)(hs:Wy a h h'){v:List VO}{d:List Dat}(r:aK h ai v d):aK h' ai v d:=r.mono λb o e n=>⟨hs b o (λq=>n (q▸ha)) e,n⟩
theorem Rep.l6(hv:∀a,ai a->W a)(r:Rep h W v d):Rep h ai v d:=r.mono λb o e n=>⟨e,λq=>n (hv b q)⟩
theorem aK.l6(hv:∀a,ai a->W a){v:List VO}{d:List Dat}(r:aK h W v d):aK h ai v d:=r.mono λb o e n=>⟨e,λq=>n (hv b q)⟩
theorem bz.same{t:Nat}(V:bz C ai s)(hs:Ww a s.heap h')(ha:∃o,h'.get? a=Xd o):bz C ai {s with heap:=h',toks:=t}:=⟨V.tabs,V.gZ,λb hb=>by
  by_cases q:b=a
  ·exact q▸ha
  ·refine aI (V.there b hb) λo e=>⟨o,(hs.2 b q).trans e⟩⟩
def Odd(o:Obj):Prop:=(∃es n,o.data=.dict es n)\/∃c,o.data=.cell c
theorem Odd.H6(h:Odd o)(vs:Array VO):o.data≠.fields vs:=by rcases h with⟨_,_,e⟩|⟨_,e⟩<;>rw[e]<;>nofun
set_option tactic.hygienic true in
theorem Rep.odd(uq:h.get? a=Xd oa)(ho:Odd oa)(hs:Wy a h h'):∀{v:VO}{d:Dat},bl h ai v d->ai a->bl h' ai v d:=by
 intro v d r ha;rcases r with⟨⟩;case rep r=>exact .rep (r.eH ha hs)
 case list h1 l9 hn hd hr=>exact .list (hs _ _ (λq=>by subst q;rw[uq]at h1;obtain rfl:=Xc h1;rcases ho with⟨_,_,e⟩|⟨_,e⟩<;>(replace e:=hd.symm.trans e;rcases e with⟨⟩)) h1) l9 hn hd (hr.eH ha hs)
 case bg h1 l9 hd=>exact .bg (hs _ _ (λq=>by subst q;rw[uq]at h1;obtain rfl:=Xc h1;rcases ho with⟨_,_,e⟩|⟨_,e⟩<;>(replace e:=hd.symm.trans e;rcases e with⟨⟩)) h1) l9 hd
theorem nO(e:aR ag sc)(i:In C ai ag ae s)(f:qg C s.heap ai ag sc)(hb:bV sc x sl ae=Xd aW)(r:kz s.heap ai ag.locals v sl){Q:Unit->VY->Prop}(hQ:∀s',gL C (FW ag sc) s s'->In C ai ag aW s'->qg C s'.heap ai ag sc->(∀y w,y≠x->fI s.heap ag y w->fI s'.heap ag y w)->fI s'.heap ag x v->Q () s'):aP (VB pw Wd) A (bindName ag x v) Q E s:=by
 revert e i f hb r hQ;refine rR (bT (bT (bT (bT pA zS) (bT neO rB)) U8) U8) ?_ s C sl A ag x ai v sc ae Q E aW;generalize gE _ _=tt;dsimp only[Gy];generalize tt.1.1.1.1=s,tt.1.1.1.2=C,tt.1.1.2.1=sl,tt.1.1.2.2=A,tt.1.2.1.1=ag,tt.1.2.1.2=x,tt.1.2.2=ai,tt.2.1.1.1=v,tt.2.1.1.2=sc,tt.2.1.2=ae,tt.2.2.1.1=Q,tt.2.2.1.2=E,tt.2.2.2=aW;intro e i f hb r hQ;delta bV at hb;split at hb;case isFalse=>exact aa hb
 rename_i hx;obtain rfl:=Xc hb;refine bD hx λhk Oh hd2=>wQ ?_;have Sd:∀(a:W8)(oa:Obj)(h':Wz)(t:Nat),s.heap.get? a=Xd oa->Odd oa->FW ag sc a->Ww a s.heap h'->(∃o,h'.get? a=Xd o)->(∀y w,y≠x->fI s.heap ag y w->fI h' ag y w)->fI h' ag x v->qg C h' ai ag sc->((∃w,s.heap.IsCell a w)->∃w,h'.IsCell a w)->(C.fr a->cZ h' a)->Q () {s with heap:=h',toks:=t}:=by
  intro a oa h' t uq Ug hfw hs hex IL N1 ZbQ ZbX I2
  have va:=f.EL a hfw
  have sr:∀{w:VO}{Ri:Slot},kz s.heap ai ag.locals w Ri->kz h' ai ag.locals w Ri:=by
   intro w Ri q;rcases Ri with⟨⟩;case val=>exact Rep.eH va hs.extBut q
   case own=>exact⟨Rep.odd uq Ug hs.extBut q.1 va,q.2⟩
  have xw:gL C (FW ag sc) s {s with heap:=h',toks:=t}:=gL.same hs.extBut hfw (f.d7 i.bs a hfw) I2 (λo' vs y t e1 e2=>by replace e1:=uq.symm.trans e1;obtain rfl:=Xc e1;exact(Ug.H6 vs e2).elim)
  have Zcc:∀y c,ag.cells.lookup y=Xd c->∃w,h'.IsCell c w:=λy c hc=>by
   refine aI (i.cells y c hc) λw hw=>?_;by_cases q:c=a
   ·cases q;exact ZbX ⟨w,hw⟩
   ·exact⟨w,hw.sameBut hs q⟩
  refine hQ _ xw ⟨xw.bs i.bs f.new,i.vo.same hs hex,λy Ri hy=>?_,Zcc⟩ ZbQ IL N1
  simp only[YF]at hy
  cases hyx:y==x with
  |true=>simp only[hyx]at hy;obtain rfl:=Xc hy;refine xR (beq_iff_eq.mp hyx) ⟨v,N1,sr r⟩
  |false=>simp only[hyx]at hy;refine av (i.lo y Ri hy) λw hw hr=>⟨w,IL y w (by intro q;cases q;simp at hyx) hw,sr hr⟩
 refine Xa hk (λhk=>?_) λhk=>?_
 ·refine aI f.ns λm hm=>?_;have N9:=e.loc x hk;refine aq <|wpAny_storeName_local N9 hm (λh' hn hs=>?_) (by refine xR e.kind ?_;rfl);refine qP (id hm) λoa es ep uq Cu hra=>Sd ag.locals oa h' _ uq (.inl ⟨_,_,Cu⟩) (.inl rfl) hs (kJ hn λo es ep ho y=>⟨o,ho⟩) (λy w hy hw=>?_) ⟨Oh,hd2,.inl ⟨N9,_,hn,by simp⟩⟩ ⟨⟨_,hn⟩,f.vl,f.fl,λy c h1 h2=>?_⟩ (λ⟨w,o,q3,q4⟩=>by replace q3:=uq.symm.trans q3;obtain rfl:=Xc q3;replace q4:=Cu.symm.trans q4;rcases q4 with⟨⟩) (λz=>let⟨o,es,ep,ho,hd,_⟩:=hn;⟨o,es,ep,ho,hd⟩)
  ·refine bD hw λa1 a2 a3=>⟨a1,a2,?_⟩;refine Xa a3 (λy0=>?_) λy1=>?_
   ·obtain⟨b1,m2,b2,b3⟩:=y0;have:=Ns.unique hm b2;cases this;exact .inl ⟨b1,_,hn,by refine xR (Vg hy) b3⟩
   ·obtain⟨b1,c,b2,o,b3,b4⟩:=y1;refine .inr ⟨b1,c,b2,o,(hs.2 c λq=>?_).trans b3,b4⟩;cases q;replace b3:=uq.symm.trans b3;obtain rfl:=Xc b3;replace b4:=Cu.symm.trans b4;rcases b4 with⟨⟩
  ·obtain⟨q1,q2,w,o,q3,q4⟩:=f.cell y c h1 h2;refine⟨q1,q2,w,o,(hs.2 c λq=>?_).trans q3,q4⟩;cases q;replace q3:=uq.symm.trans q3;obtain rfl:=Xc q3;replace q4:=Cu.symm.trans q4;rcases q4 with⟨⟩
 ·have Ma:=e.nA x hk;refine aI (e.cells x (.inl hk)) λc hc=>ZK λhG=>?_;obtain⟨vc,fc,Zcv,NZ⟩:=f.cell x c hk hc;refine hG (aq <|wpAny_storeName_cell e.kind Ma hc NZ λh' hv hs=>av (id NZ) λoa uq Cu=>?_);have ht:({s with heap:=h'}:VY)={s with heap:=h',toks:=s.toks}:=rfl;refine xR ht (Sd c oa h' _ uq (.inr ⟨_,Cu⟩) (.inr ⟨x,hk,hc⟩) hs (av hv λo ho y=>⟨o,ho⟩) (λy w hy hw=>?_) ⟨Oh,hd2,.inr ⟨.inl Ma,c,hc,hv⟩⟩ ⟨?_,f.vl,f.fl,λy c' h1 h2=>?_⟩ (λz=>⟨_,hv⟩) (λq=>(i.bs.fG uq (by refine xR Cu ?_;nofun) q).elim))
  ·refine bD hw λa1 a2 a3=>⟨a1,a2,?_⟩;refine Xa a3 (λy0=>?_) λy2=>?_
   ·obtain⟨b1,m2,y1,b5⟩:=y0;refine qP y1 λo es ep b2 b3 b4=>.inl ⟨b1,m2,⟨o,es,ep,(hs.2 _ λq=>?_).trans b2,b3,b4⟩,b5⟩;simp only[q,uq]at b2;obtain rfl:=Xc b2;replace b3:=Cu.symm.trans b3;rcases b3 with⟨⟩
   ·obtain⟨b1,c',b2,o,b3,b4⟩:=y2;refine .inr ⟨b1,c',b2,o,(hs.2 c' λq=>?_).trans b3,b4⟩;cases q;exact hy (e.inj y x _ b2 hc)
  ·refine mq f.ns λm o es ep b2 b3 b4=>⟨m,o,es,ep,(hs.2 _ λq=>?_).trans b2,b3,b4⟩;simp only[q,uq]at b2;obtain rfl:=Xc b2;replace b3:=Cu.symm.trans b3;rcases b3 with⟨⟩
  ·obtain⟨q1,q2,w,o,q3,q4⟩:=f.cell y c' h1 h2;by_cases q:c'=c
   ·cases q;exact⟨q1,q2,_,hv⟩
   ·exact⟨q1,q2,w,o,(hs.2 c' q).trans q3,q4⟩
theorem MI:∀{ds:List Dat}{s:VY},It s.heap ai W I ds->∀{Q:List VO->VY->Prop},(∀vs h' tk,aK h' ai vs ds->It h' ai W I []->Ww I s.heap h'->Q vs {s with heap:=h',toks:=tk})->aP (VB pw Wd) A (draw (.ref I) ds.length) Q E s:=by intro ds;induction ds with|nil=>intro s x Q hQ;exact ao (hQ [] s.heap s.toks .nil x (.refl I _))|cons d ds ih=>intro s x Q hQ;refine ab (x.next λv h' tk r x' hs=>?_);refine dE x'.gi λoI kC ox y=>ab (az (ih x' λvs h2 tk2 rs x2 N3=>ao (hQ _ h2 tk2 (.cons (r.extBut kC ox N3.extBut) rs) x2 (hs.trans N3))))
theorem lX(ho:s.heap.get? a=Xd o)(hc:o.cls=.type T):s.TypeIs (.ref a) T:=⟨o,ho,hc⟩
theorem gh{v:VO}{T id:String}(hT:s.TypeIs v T)(hl:typeLookup (.type T) "__iter__"=pure (Xd (.builtin id))){Q:Bool->VY->Prop}(h:Q false s):aP (VB pw Wd) A (notIterableAtAll v) Q E s:=by unfold notIterableAtAll;refine ab (aq <|Vj hT hl ?_);exact ao h
theorem rV(hd:d=.list ds\/d=.tuple ds)(hA:A.handled=Xe)(r:Rep s.heap ai v d){Q:List VO->VY->Prop}(hQ:∀vs h' tk,aK h' ai vs ds->(∀b o,s.heap.get? b=Xd o->h'.get? b=Xd o)->Q vs {s with heap:=h',toks:=tk}):aP (VB pw Wd) A (unpackItems v ds.length Xe) Q E s:=by
 revert d hd hA r hQ;refine no_implicit_lambda% (OS (bT (bT (bT pA U8) (bT rB U8)) U8) ?_ s () A ds ai E v Q);generalize gE _ _=tt;dsimp only[K8];generalize tt.1.1.1=s,tt.1.2.1=A,tt.1.2.2=ds,tt.2.1.1=ai,tt.2.1.2=E,tt.2.2.1=v,tt.2.2.2=Q;intro d hd hA r hQ;unfold unpackItems;have hit:bP d=Xd ds:=by rcases hd with rfl|rfl<;>rfl
 have hni:∀{Q':Bool->VY->Prop},Q' false s->aP (VB pw Wd) A (notIterableAtAll v) Q' E s:=by
  intro Q' h;refine Xa hd (λy0=>?_) λy1=>?_
  ·obtain rfl:=y0;cases r with|list hv ho hc hn hd hr=>exact gh (lX ho hc) slot_list_iter.lookup h
  ·obtain rfl:=y1;cases r with|tuple hv ho hc hd hr=>exact gh (lX ho hc) F.slot_tuple_iter.lookup h
 refine ab (hni ?_);refine ab (az (oj (.rep r) hit (λy h=>h.elim) (λy y h=>h) λI h' hI hk x=>?_));refine dE x.gi λoI kC ox y=>ab (az (MI x λvs h2 tk rs x2 hs=>?_));refine xR (Vg (by rw[rs.length];exact aZ 0x31)) (dE x2.gi λoI2 ZbD ZbY y=>ab (az (x2.done hA λh3 he=>?_)));refine ao (hQ vs h3 tk (rs.extBut ZbD ZbY he) λb o e=>?_);have hb:b≠I:=λq=>by cases q;replace e:=hI.symm.trans e;exact aa e
 exact he b o hb ((hs.2 b hb).trans (hk b o e))
set_option tactic.hygienic true in
theorem dA(hb:iA sc ts ds ae=Xd aW):(ts=[]/\ds=[]/\aW=ae)\/∃x p Dj d kG bX,ts=.Name x p::Dj/\ds=d::kG/\bV sc x (.val d) ae=Xd bX/\iA sc Dj kG bX=Xd aW:=by
 rcases ts with⟨⟩;case nil=>cases ds with
  |nil=>exact .inl ⟨rfl,rfl,(Xc hb).symm⟩|cons d ds=>exact aa hb
 case cons t ts=>cases ds with
  |nil=>exact aa hb|cons d ds=>exact ak hb λx h1 hb=>ak hb λbX h2 hb=>(f7 h1).elim λp e=>.inr ⟨x,p,ts,d,ds,bX,e▸rfl,rfl,h2,hb⟩
theorem A6(e:aR ag sc):∀(k:Nat){ts:List Expr}{ds:List Dat}{vs:List VO}{ae:ax}{s:VY},ts.length=k->In C ai ag ae s->qg C s.heap ai ag sc->iA sc ts ds ae=Xd aW->aK s.heap ai vs ds->∀{Q:Unit->VY->Prop},(∀s',gL C (FW ag sc) s s'->In C ai ag aW s'->qg C s'.heap ai ag sc->(∀y w,(∀t∈ts,∀x p,t=.Name x p->y≠x)->fI s.heap ag y w->fI s'.heap ag y w)->Q () s')->aP (VB pw Wd) A (assignInOrder ((assignEach ts ag).map (·.2)) vs) Q E s:=by
 intro k;induction k with
 |zero=>
  intro ts ds vs ae s hk i f hb rs Q hQ;refine Xa (dA hb) (λy0=>?_) λy1=>?_
  ·refine bD y0 ?_;rintro(rfl)(rfl)(rfl);rcases rs with⟨⟩;exact ao (hQ s (.refl s) i f λz z z h=>h)
  ·refine yX y1 ?_;rintro x p Dj d kG bX(rfl)_;(rcases hk with⟨⟩)
 |succ k ih=>
  intro ts ds vs ae s hk i f hb rs Q hQ;refine Xa (dA hb) (λy0=>?_) λy1=>?_
  ·refine bD y0 ?_;rintro(rfl)(rfl)(rfl);rcases hk with⟨⟩
  ·refine yX y1 ?_;rintro x p Dj d kG bX(rfl)y2;(refine bD y2 ?_;rintro(rfl)yS Mf);cases rs with|cons r rs=>refine ab (az ?_);refine ab (au (nO e i f yS r λs1 x1 i1 f1 g1 z=>?_));refine ih (by simpa using hk) i1 f1 Mf (rs.mono λb o e' n=>⟨x1.keep b o e' (λt=>n (i.vo.tabs b t)) (λt=>n (i.vo.gZ b t)) λw=>n (f.EL b w),n⟩) λs2 x2 i2 f2 g2=>hQ s2 (x1.trans x2) i2 f2 λy w hy hw=>g2 y w (λt ht=>hy t (Yv _ ht)) (g1 y w (hy _ Yu x p rfl) hw)
theorem qb(ag:WH):∀(k:Nat){ts:List Expr}{ds:List Dat}{ae:ax},ts.length=k->iA sc ts ds ae=Xd aW->(assignEach ts ag).length=ds.length/\(assignEach ts ag).findIdx? (·.1)=Xe:=by
 intro k;induction k with
 |zero=>
  intro ts ds ae hk hb;refine Xa (dA hb) (λy0=>?_) λy1=>?_
  ·refine bD y0 ?_;rintro(rfl)(rfl)(rfl);exact⟨rfl,rfl⟩
  ·refine yX y1 ?_;rintro x p Dj d kG bX(rfl)_;(rcases hk with⟨⟩)
 |succ k ih=>
  intro ts ds ae hk hb;refine Xa (dA hb) (λy0=>?_) λy1=>?_
  ·refine bD y0 ?_;rintro(rfl)(rfl)(rfl);rcases hk with⟨⟩
  ·refine yX y1 ?_;rintro x p Dj d kG bX(rfl)y2;(refine bD y2 ?_;rintro(rfl)yS Mf);have:=ih (by simpa using hk) Mf;refine⟨Ve (·+1) this.1,?_⟩;refine xR List.findIdx?_cons ?_;simp[this.2]
theorem lT(hb:bL sc t d ae=Xd aW):(∃x p,t=.Name x p/\bV sc x (.val d) ae=Xd aW)\/∃ts k p ds,t=.Tuple ts k p/\(d=.list ds\/d=.tuple ds)/\iA sc ts ds ae=Xd aW:=by unfold bL at hb;cases hn:asName t with|some x=>rw[hn]at hb;refine aI (f7 hn) λp e=>?_;exact .inl ⟨x,p,e,hb⟩|none=>rw[hn]at hb;exact ak hb λts h1 hb=>ak hb λds h2 hb=>(Gq h1).elim λk e=>e.elim λp e=>.inr ⟨ts,k,p,ds,e,Ci h2,hb⟩
noncomputable def NotIn(y:VV):Expr->Prop| .Name x _=>y≠x| .Tuple ts _ _=>∀t∈ts,∀x p,t=.Name x p->y≠x|_=>True
theorem wz(hA:A.handled=Xe)(e:aR ag sc)(i:In C ai ag ae s)(f:qg C s.heap ai ag sc)(hb:bL sc t d ae=Xd aW)(r:Rep s.heap ai v d){Q:Unit->VY->Prop}(hQ:∀s',gL C (FW ag sc) s s'->In C ai ag aW s'->qg C s'.heap ai ag sc->(∀y w,NotIn y t->fI s.heap ag y w->fI s'.heap ag y w)->Q () s'):aP (VB pw Wd) A (assign t ag v) Q E s:=by
 refine Xa (lT hb) (λy0=>?_) λy1=>?_
 ·refine eT y0 ?_;rintro x p(rfl)hb;show aP _ A (standAt p>>=λz=>bindName ag x v) _ E s;exact ab (au (nO e i f hb r λs1 x1 i1 f1 g1 z=>hQ s1 x1 i1 f1 g1))
 ·refine mq y1 ?_;rintro ts k p ds(rfl)hd hb;refine aU (qb ag _ rfl hb) λq1 q2=>?_;simp only[arm_assign_Tuple];refine ab (au ?_);unfold unpack;refine xR q1 (xR q2 ?_);refine ab (az (rV hd hA r λvs h' tk rs hk=>?_));have x1:Ex C s {s with heap:=h',toks:=tk}:=.of_keep hk rfl rfl;exact A6 e _ rfl (i.ex x1) (f.ex i.bs x1) hb rs λs2 x2 i2 f2 g2=>hQ s2 (x1.KD.trans x2) i2 f2 λy w hy hw=>g2 y w hy (hw.ex i.bs x1)
theorem It.letGo(x:It s.heap ai W I ds){Q:Unit->VY->Prop}(hQ:Q () s):aP (VB pw Wd) A (letOwnedTupleGo t (.ref I) v) Q E s:=by
 have key:∀(o:Obj)(T:String)(vs:Array VO),s.heap.get? I=Xd o->o.cls=.type T->o.data=.fields vs->(["enumerate","zip","dict_itemiterator","dict_reverseitemiterator","odict_iterator","itertools.zip_longest","itertools.pairwise"].contains T)=false->aP (VB pw Wd) A (letOwnedTupleGo t (.ref I) v) Q E s:=by
  intro o T vs ho hc hd hn
  have k2:aP (VB pw Wd) A (letOwnedTupleGo (.List [] default) (.ref I) v) Q E s:=by
   rcases v with⟨⟩;case ref=>refine ab (aq <|Vo ho ?_);refine xR hc (xR hd ?_);dsimp only;exact hn▸ao hQ
   all_goals (exact ao hQ)
  rcases t with⟨⟩
  case Tuple=>exact k2
  case List=>exact k2
  all_goals (exact ao hQ)
 cases x with|list hi=>refine dE hi λo ho hc hd=>?_;exact key o _ _ ho hc hd (by decide)|tuple hi=>refine dE hi λo ho hc hd=>?_;exact key o _ _ ho hc hd (by decide)|range hi=>exact key _ _ _ hi rfl rfl (by decide)|str hi=>refine dE hi λo ho hc hd=>?_;exact key o _ _ ho hc hd (by decide)|bytes hi=>refine dE hi λo ho hc hd=>key o _ _ ho hc hd (by decide)
noncomputable def eM(elt:Expr)(gens:List WI)(scope:V5)(pos:Pos)(depth:Nat)(it aY:VO)(ag:WH):V0 WB:=match gens[depth+1]? with
 |some g'=>do
  let x <-eval g'.iter ag;standAt g'.iter.pos;if(g'.is_async !=0)=true then do
   let x <-foldedIterable g'.iter x;let y <-holding [x] (if(g'.is_async !=0)=true then asyncIter x else pyIter x);let _ <-runOwn (.compStart (.ListComp elt gens scope pos) (depth+1) y aY ag) ag;again (.compLoop (.ListComp elt gens scope pos) depth it aY ag)
  else do
   let x <-foldedSetIterable g'.iter ag x;let y <-holding [x] (if(g'.is_async !=0)=true then asyncIter x else pyIter x);let _ <-runOwn (.compStart (.ListComp elt gens scope pos) (depth+1) y aY ag) ag;again (.compLoop (.ListComp elt gens scope pos) depth it aY ag)
 |none=>(eval elt ag>>=λy=>call (.builtin "list.append") [aY,y]>>=λz=>pure ())>>=λz=>again (.compLoop (.ListComp elt gens scope pos) depth it aY ag)
theorem qJ(elt:Expr)(gens:List WI)(scope:V5)(pos:Pos)(depth:Nat)(t itE:Expr)(ifs:List Expr)(it aY:VO)(ag:WH)(hg:gens[depth]?=Xd ⟨t,itE,ifs,0⟩):compTurn (.ListComp elt gens scope pos) depth it aY ag=(standAt itE.pos>>=λx=>pyNext it>>=λr=>match r with
   |none=>pure (.done .next)|some v=>letOwnedTupleGo t it v>>=λx=>assign t ag v>>=λx=>(forIn ifs true λc r=>if r=true then do let ok <-isTrue c ag (eval c ag);pure (ZJ ok)else pure (ZJ r))>>=λok=>if ok=true then eM elt gens scope pos depth it aY ag else again (.compLoop (.ListComp elt gens scope pos) depth it aY ag)):=by
 delta compTurn
 simp only[hg,bne_self_eq_false,ZQ,if_false]
 delta eM
 refine Ve _ (funext λx=>Ve _ (funext λr=>?_))
 rcases r with⟨⟩
 case none=>rfl
 case some=>
  refine Ve (V0.bind _) (funext λx=>Ve (V0.bind _) (funext λx=>Ve (V0.bind _) (funext λok=>?_)));rcases ok with⟨⟩;case false=>rfl
  case true=>cases gens[depth+1]? with|none=>rfl|some g'=>rfl
def LstAt(h:Wz)(D:W8)(vs:List VO):Prop:=∃o n,h.get? D=Xd o/\o.cls=.type "list"/\o.dict=Xe/\o.data=.seq vs.toArray n
theorem LstAt.isList(x:LstAt h D vs):h.IsList D vs.toArray:=let⟨o,n,ho,hc,_,hd⟩:=x;⟨o,ho,hc,n,hd⟩
theorem LstAt.keep(x:LstAt h D vs)(hk:∀o,h.get? D=Xd o->h'.get? D=Xd o):LstAt h' D vs:=let⟨o,n,ho,r⟩:=x;⟨o,n,hk o ho,r⟩
structure um (Z:Wz->List VO->Prop) (D:W8):Prop where
 keep:∀{h h':Wz}{vs:List VO},Z h vs->(∀o,h.get? D=Xd o->h'.get? D=Xd o)->Z h' vs
 obj:∀{h:Wz}{vs:List VO},Z h vs->∃o,h.get? D=Xd o/\((∃vs n,o.data=.seq vs n)\/∃es n,o.data=.dict es n)
abbrev LA(D:W8)(h:Wz)(vs:List VO):Prop:=LstAt h D vs
theorem LA.oX:um (LA D) D:=⟨λx k=>LstAt.keep x k,λx=>by refine wL x λo n ho y z hd=>⟨o,ho,.inl ⟨_,_,hd⟩⟩⟩
structure Bb (e0:Expr):Prop where
 frS:∀{d:Nat}{it aY:VO}{ag:WH},(Code.compStart e0 d it aY ag).isFrame=false
 frL:∀{d:Nat}{it aY:VO}{ag:WH},(Code.compLoop e0 d it aY ag).isFrame=false
 okS:∀{d:Nat}{it aY:VO}{ag:WH},ka (.compStart e0 d it aY ag)=true
 okL:∀{d:Nat}{it aY:VO}{ag:WH},ka (.compLoop e0 d it aY ag)=true
 unS:∀{d:Nat}{it aY:VO}{ag:WH}{A:W6},A.under (.compStart e0 d it aY ag)=A
 unL:∀{d:Nat}{it aY:VO}{ag:WH}{A:W6},A.under (.compLoop e0 d it aY ag)=A
theorem nj{elt:Expr}{gens:List WI}:Bb (.ListComp elt gens sc pos):=⟨rfl,rfl,rfl,rfl,rfl,rfl⟩
theorem CO{k v:Expr}{gens:List WI}:Bb (.DictComp k v gens sc pos):=⟨rfl,rfl,rfl,rfl,rfl,rfl⟩
theorem bK(h:k<=aS):k<=sizeLine:=Xy h (by decide)
theorem GY(hl:LstAt s.heap D vs)(hf:f vs.toArray=us.toArray)(hvs:vs.length<=aS)(hsz:us.length<=aS){α:Type}{k:Unit->V0 α}{Q:α->VY->Prop}(hQ:∀h',LstAt h' D us->Ww D s.heap h'->Vw (VB pw Wd) A (k ()) Q E {s with heap:=h'}):Vw (VB pw Wd) A (updateSeq D f>>=k) Q E s:=by
 refine wL hl λo n ho hc hn hd=>aI (Obj.data_mapSeq hd f) λn' di=>Vt (wpAny_updateSeq ho hd (hQ _ ?_ (Wv ..)) (hz:=by refine xR XS (bK hvs)) (_hz':=by refine xR hf (xR XS ?_);have:=bK hsz;exact aO 0x91b011012 this))
 ·refine⟨_,n',Wr _ ho (Obj.isFreed_of_seq di),(Obj.cls_mapSeq ..).trans hc,?_,by exact xR di (xR hf rfl)⟩;obtain⟨c,d,dt,sl⟩:=o;subst hn hd;rfl
theorem wD{x:VO}(hl:LstAt s.heap D vs)(hsz:vs.length+1<=aS)(hQ:∀h',LstAt h' D (vs++[x])->Ww D s.heap h'->Q .none {s with heap:=h'}):aP (VB pw Wd) A (VH (.builtin "list.append") [.ref D,x]) Q E s:=by refine aq <|Vr slot_list_append hl.isList.typeIs entry_list_append ?_ (args_list_append _ _);exact GY hl (by simp) (aO 0x101190b12 hsz) (by simpa using hsz) λh' h1 h2=>Vk ⟨.none,rfl,hQ h' h1 h2⟩
def CW(D:W8)(ag:WH)(sc:V5)(a:W8):Prop:=a=D\/FW ag sc a
structure q8 (C:Cx) (ai:W8->Prop) (ag:WH) (sc:V5) (ae:ax) (Z:Wz->List VO->Prop) (s:VY) (vs:List VO) (aY:List Dat):Prop where
 bO:In C ai ag ae s
 kF:qg C s.heap ai ag sc
 at_:Z s.heap vs
 xh:aK s.heap ai vs aY
structure kT (C:Cx) (ai:W8->Prop) (ag:WH) (sc:V5) (D:W8) (A:W6):Prop where
 RH:aR ag sc
 vD:ai D
 fD:C.h₀.get? D=Xe
 dL:D+1=ag.locals
 hA:A.handled=Xe
 nF:¬C.fr D
theorem kT.cw(x:kT C ai ag sc D A)(f:qg C s.heap ai ag sc)(a:W8)(h:CW D ag sc a):ai a:=by
 refine Xa h (λy0=>?_) λh=>f.EL a h
 ·obtain rfl:=y0;exact x.vD
theorem kT.new(x:kT C ai ag sc D A)(f:qg C s.heap ai ag sc)(a:W8)(h:CW D ag sc a):C.h₀.get? a=Xe:=by
 refine Xa h (λy0=>?_) λh=>f.new a h
 ·obtain rfl:=y0;exact x.fD
theorem qx{α β:Type}{f:α->Option (List β)}{a:α}{as:List α}{out:List β}(h:bN f (a::as)=Xd out):∃b c,f a=Xd b/\bN f as=Xd c/\out=b++c:=ak h λb h1 h=>ak h λc h2 h=>⟨b,c,h1,h2,(Xc h).symm⟩
theorem aK.exw(V:bz C ai s)(hw:∀a,W a->ai a)(x:gL C W s s')(r:aK s.heap ai vs ds):aK s'.heap ai vs ds:=r.mono λb o e n=>⟨x.keep b o e (λt=>n (V.tabs b t)) (λt=>n (V.gZ b t)) λw=>n (hw b w),n⟩
set_option tactic.hygienic true in
theorem In.iter{t:Nat}(i:In C ai ag ae s)(kC:s.heap.get? I=Xd oI)(ox:¬iD oI.cls)(yQ:∀es n,oI.data≠.dict es n)(lK:∀c,oI.data≠.cell c)(hs:Wy I s.heap h')(hv:¬ai I)(M8:Bs C {s with heap:=h',toks:=t}):In C ai ag ae {s with heap:=h',toks:=t}:=by
 refine⟨M8,⟨i.vo.tabs,i.vo.gZ,λa ha=>?_⟩,λy sl hy=>?_,λy c hc=>?_⟩;rotate_right
 ·refine eT (i.cells y c hc) λw o b3 b4=>?_;exact⟨w,o,hs _ _ (λq=>by simp only[q,kC]at b3;obtain rfl:=Xc b3;exact lK _ b4) b3,b4⟩
 ·refine aI (i.vo.there a ha) λo e=>?_;exact⟨o,hs a o (λq=>hv (q▸ha)) e⟩
 ·refine av (i.lo y sl hy) λw hw hr=>?_;refine⟨w,hw.keep (λo e hd=>.of (hs _ _ (kx (P:=λo=>∃es n,o.data=.dict es n) e kC hd λ⟨_,_,q⟩=>yQ _ _ q) e)) λb o c e hd=>hs _ _ (kx (P:=λo=>∃c,o.data=.cell c) e kC ⟨c,hd⟩ λ⟨_,q⟩=>lK _ q) e,?_⟩
  ·have ro:∀{d:Dat},bl s.heap ai w d->bl h' ai w d:=by
    intro d r;rcases r with⟨⟩;case rep r=>exact .rep (r.extBut kC ox hs)
    case list h1 hc hn hd vT=>exact .list (hs _ _ (λq=>by simp only[q,kC]at h1;obtain rfl:=Xc h1;exact ox (.inr (.inl hc))) h1) hc hn hd (vT.extBut kC ox hs)
    case bg h1 hc hd=>exact .bg (hs _ _ (λq=>by replace h1:=kC▸q▸h1;obtain rfl:=Xc h1;exact ox (.inr (.inr (.inr (.inl hc))))) h1) hc hd
   rcases sl with⟨⟩;case val d=>exact Rep.extBut kC ox hs hr
   case own d=>exact⟨ro hr.1,hr.2⟩
theorem qK{e0:Expr}{depth:Nat}{body:V0 WB}{Z:Wz->List VO->Prop}{itP:Pos}{D I:W8}(hz:um Z D)(hk:Bb e0)(DS:compTurn e0 depth (.ref I) (.ref D) ag=(standAt itP>>=λx=>pyNext (.ref I)>>=λr=>match r with
   |none=>pure (.done .next)|some v=>letOwnedTupleGo t (.ref I) v>>=λx=>assign t ag v>>=λx=>body)) (fx:kT C ai ag sc D A) (f:Dat->Option (List Dat))
  (hI:C.h₀.get? I=Xe) (Cv:¬C.T I) (rF:¬ai I)
  (step:∀(d:Dat)(out aY:List Dat)(vs:List VO)(v:VO)(s:VY),q8 C ai ag sc ae Z s vs aY->f d=Xd out->aY.length+out.length<=aS->Rep s.heap ai v d->∀(Q:WB->VY->Prop)(E:VO->VY->Prop),(∀s' qj,gL C (CW D ag sc) s s'->q8 C ai ag sc ae Z s' qj (aY++out)->Q (.again (.compLoop e0 depth (.ref I) (.ref D) ag)) s')->aP (VB pw Wd) A (assign t ag v>>=λy=>body) Q E s)
  {R:V6->VY->Prop}:∀(ds out aY:List Dat)(vs:List VO)(s:VY),It s.heap ai (λa=>CW D ag sc a\/C.T a\/C.fr a) I ds->q8 C ai ag sc ae Z s vs aY->bN f ds=Xd out->aY.length+out.length<=aS->(∀s' qj,gL C (λa=>CW D ag sc a\/a=I) s s'->q8 C ai ag sc ae Z s' qj (aY++out)->R (.ok .next) s')->cK (VB pw Wd) A (.compLoop e0 depth (.ref I) (.ref D) ag) R s:=by
 have FR:(VB pw Wd).den (.compLoop e0 depth (.ref I) (.ref D) ag)=(compTurn e0 depth (.ref I) (.ref D) ag).onRaise (λx=>do noteFrame x ag;theTreesLotGoes x):=Vg λq=>ZP (hk.frL.symm.trans q);intro ds;induction ds with
 |nil=>
  intro out aY vs s x st hm hl hR;obtain rfl:=Xc hm;refine uw x.gi λoI kC ox Kj yQ lK=>bw ?_ hk.okL;refine xR hk.unL (xR FR (eG ?_));refine xR DS (ab (au (ab (x.done fx.hA λh' he=>ao ?_))));have ht:({s with heap:=h'}:VY)={s with heap:=h',toks:=s.toks}:=rfl;have xw:gL C (λa=>CW D ag sc a\/a=I) s {s with heap:=h',toks:=s.toks}:=gL.same he (.inr rfl) Cv (λq=>(rF (st.bO.vo.gZ _ q)).elim) x.vJ;simp only[ht];refine hR _ vs xw (xR (Zu _) ?_);have nD:D≠I:=λq=>by
   refine av (hz.obj st.at_) λo ho q2=>?_;rw[q,kC]at ho;obtain rfl:=Xc ho;rcases q2 with⟨_,_,e⟩|⟨_,_,e⟩
   ·exact Kj _ _ e
   ·exact yQ _ _ e
  have M8:=xw.bs st.bO.bs λa q=>by
   refine Xa q (λq=>fx.new st.kF a q) λy0=>?_
   ·obtain rfl:=y0;exact hI
  exact⟨st.bO.iter kC ox yQ lK he rF M8,st.kF.keep λb o e w=>.of (he b o (λq=>rF (q▸st.kF.EL b w)) e),hz.keep st.at_ λo e=>he _ _ nD e,st.xh.extBut kC ox he⟩
 |cons d ds ih=>
  refineλout aY vs s x st hm hl hR=>er (qx hm) ?_;rintro o1 o2 Cr hm2(rfl);refine uw x.gi λoI kC ox Kj yQ lK=>?_;have nD:D≠I:=λq=>by
   refine av (hz.obj st.at_) λo ho q2=>?_;rw[q,kC]at ho;obtain rfl:=Xc ho;rcases q2 with⟨_,_,e⟩|⟨_,_,e⟩
   ·exact Kj _ _ e
   ·exact yQ _ _ e
  refine bw ?_ hk.okL;refine xR hk.unL (xR FR (eG ?_));refine xR DS (ab (au (ab (x.next λv h1 tk r x1 lJ=>?_))));have xw1:gL C (λa=>CW D ag sc a\/a=I) s {s with heap:=h1,toks:=tk}:=gL.same lJ.extBut (.inr rfl) Cv (λq=>(rF (st.bO.vo.gZ _ q)).elim) x.vJ;have wu:=xw1.bs st.bO.bs λa q=>by
   refine Xa q (λq=>fx.new st.kF a q) λy0=>?_
   ·obtain rfl:=y0;exact hI
  have ND:q8 C ai ag sc ae Z {s with heap:=h1,toks:=tk} vs aY:=⟨st.bO.iter kC ox yQ lK lJ.extBut rF wu,st.kF.keep λb o e w=>.of (lJ.extBut b o (λq=>rF (q▸st.kF.EL b w)) e),hz.keep st.at_ λo e=>lJ.extBut _ _ nD e,st.xh.extBut kC ox lJ.extBut⟩;refine ab (x1.letGo ?_);rw[YT]at hl;refine step d o1 aY vs v _ ND Cr (eg 0x310b1321b0b12 rfl hl) r _ _ λs2 vs2 xw2 O5=>?_;have x2:=x1.mono (λb o e w=>xw2.keep b o e (λt=>w (.inr (.inl t))) (λt=>w (.inr (.inr t))) λq=>w (.inl q)) λrs=>rs.exw ND.bO.vo (fx.cw ND.kF) xw2;refine⟨rfl,ih o2 (aY++o1) vs2 s2 x2 O5 hm2 (by refine xR YT (eg 0x3210bb1321b0b12 rfl hl)) λs3 vs3 xw3 jF=>?_⟩;refine hR s3 vs3 ((xw1.trans (xw2.mono λa q=>.inl q)).trans xw3) ?_;rw[<-Zv];exact jF
noncomputable def pY(ag:WH):List (VV×Wh)->List (VV×W8)->List (VV×W8)|[],aY=>aY|(x,k)::r,aY=>pY ag r (if k== .free then(x,(ag.cells.lookup x).getD 0)::aY else aY)
theorem CR{k:Wh}{r:List (VV×Wh)}{aY:List (VV×W8)}:pY ag ((x,k)::r) aY=pY ag r (if k== .free then(x,(ag.cells.lookup x).getD 0)::aY else aY):=rfl
theorem uT(h:∀p∈bC.names,p.2=.free->∃c,ag.cells.lookup p.1=Xd c):closureFor bC ag=pure (pY ag bC.names []):=by
 delta closureFor;generalize bC.names=l at *;have key:∀(l:List (VV×Wh))(aY:List (VV×W8)),(∀p∈l,p.2=.free->∃c,ag.cells.lookup p.1=Xd c)->(forIn l aY λ(x:VV×Wh)(r:List (VV×W8))=>match x with
    |(name,kind)=>if(kind==Wg)=true then do let y <-cellOf ag name;pure (ZJ ((name,y)::r))else pure (ZJ r))=(pure (pY ag l aY):V0 _):=by
  intro l
  induction l with
  |nil=>intro aY _;rfl
  |cons p l ih=>intro aY hp;obtain⟨x,k⟩:=p;rw[List.forIn_cons];have hr:=λp hm=>hp p (Yv _ hm);cases hk:(k==Wg)with|false=>rw[CR];simp only[hk,ZQ,if_false];exact ih aY hr|true=>refine aI (hp (x,k) Yu (by simpa using hk)) λc hc=>?_;rw[CR];simp only[hk,if_true];delta cellOf;refine xR hc (ih _ hr)
 have:=key l [] h;refine xR (show(do
  let mut cs:List (VV×W8):=[];for (name,kind)in l do
   if(kind==Wg)=true then cs:=(name,<-cellOf ag name)::cs
  return cs:V0 _)=((forIn l ([]:List (VV×W8)) λ(x:VV×Wh)(r:List (VV×W8))=>match x with
    |(name,kind)=>if(kind==Wg)=true then do let y <-cellOf ag name;pure (ZJ ((name,y)::r))else pure (ZJ r))>>=λr=>pure r)from rfl) (xR this ?_)
 rfl
theorem oR:∀{l:List (VV×Wh)}{aY:List (VV×W8)},(∀p∈l,p.2=.free->∃c,ag.cells.lookup p.1=Xd c)->∀{x:VV}{c:W8},(x,c)∈pY ag l aY->(x,c)∈aY\/ag.cells.lookup x=Xd c
 |[],_,_,_,_,h=>.inl h
 |(y,k)::r,aY,hp,x,c,h=>by
  refine Xa (oR (λp hm=>hp p (Yv _ hm)) h) (λh=>?_) λh=>.inr h
  ·split at h
   ·rename_i hk;refine Xa (Yw.mp h) (λe=>?_) λh=>.inl h
    ·rcases e with⟨⟩;refine aI (hp (y,k) Yu (by simpa using hk)) λc hc=>xR hc (.inr rfl)
   ·exact .inl h
theorem AN:∀{l:List (VV×Wh)}{aY:List (VV×W8)}{x:VV},((x,Wg)∈l\/∃c,(x,c)∈aY)->∃c,(x,c)∈pY ag l aY
 |[],_,_,h=>by
  refine Xa h (λh=>?_) λh=>?_
  ·rcases h with⟨⟩
  ·exact h
 |(y,k)::r,aY,x,h=>by
  rw[CR];refine AN (Xa h (λh=>?_) λy0=>?_)
  ·refine Xa (Yw.mp h) (λe=>?_) λh=>.inl h
   ·rcases e with⟨⟩;exact .inr ⟨(ag.cells.lookup y).getD 0,by refine xR (Vh (by decide)) Yu⟩
  ·refine aI y0 λc h=>.inr ⟨c,?_⟩;split
   ·exact Yv _ h
   ·exact h
theorem eU{α:Type}:∀{l:List (VV×α)}{x:VV}{c:α},(x,c)∈l->∃c',l.lookup x=Xd c':=by
 intro l;induction l with
 |nil=>intros;first|contradiction|(rename_i h;cases h)|(rename_i h _;cases h)|(rename_i h;exact nomatch h)
 |cons y0 r ih=>
  intro x c h;obtain⟨y,d⟩:=y0;rw[YF];cases hb:x==y with
  |true=>exact⟨d,rfl⟩
  |false=>
   refine Xa (Yw.mp h) (λe=>?_) λh=>ih h
   ·rcases e with⟨⟩;simp at hb
theorem mN:∀{l:List (VV×Wh)}{n:Nat}{aY:List (VV×W8)}{x:VV}{c:W8},(x,c)∈cellsFrom n l aY->(x,c)∈aY\/((x,Wh.cell)∈l/\n<=c):=by
 intro l;induction l with
 |nil=>intro _ _ _ _ h;exact .inl h
 |cons y1 r ih=>
  intro n aY x c h;obtain⟨y,k⟩:=y1;unfold cellsFrom at h;split at h
  ·rename_i hk;refine Xa (ih h) (λh=>?_) λy0=>aU y0 λh1 h2=>.inr ⟨Yv _ h1,by exact aO 0x101190b12 h2⟩
   ·refine Xa (Yw.mp h) (λe=>?_) λh=>.inl h
    ·rcases e with⟨⟩;exact .inr ⟨by rw[show k=.cell by simpa using hk];exact Yu,Xz _⟩
  ·refine Xa (ih h) (λh=>.inl h) λy0=>aU y0 λh1 h2=>.inr ⟨Yv _ h1,h2⟩
theorem ef:∀{l:List (VV×Wh)}{n:Nat}{aY:List (VV×W8)}{x:VV},((x,Wh.cell)∈l\/∃c,(x,c)∈aY)->∃c,(x,c)∈cellsFrom n l aY:=by
 intro l;induction l with
 |nil=>
  intro _ _ _ h;refine Xa h (λh=>?_) λh=>?_
  ·rcases h with⟨⟩
  ·exact h
 |cons y1 r ih=>
  intro n aY x h;obtain⟨y,k⟩:=y1;unfold cellsFrom;split
  ·refine ih (Xa h (λh=>?_) λy0=>aI y0 λc h=>.inr ⟨c,Yv _ h⟩)
   ·refine Xa (Yw.mp h) (λe=>?_) λh=>.inl h
    ·rcases e with⟨⟩;exact .inr ⟨n,Yu⟩
  ·rename_i hk;refine ih (Xa h (λh=>?_) λy0=>aI y0 λc h=>.inr ⟨c,h⟩)
   ·refine Xa (Yw.mp h) (λe=>?_) λh=>.inl h
    ·rcases e with⟨⟩;exact absurd rfl hk
theorem mO:∀{l:List (VV×Wh)}{n:Nat}{aY:List (VV×W8)},(∀x c,(x,c)∈aY->c<n)->(∀x y c,(x,c)∈aY->(y,c)∈aY->x=y)->∀{x y:VV}{c:W8},(x,c)∈cellsFrom n l aY->(y,c)∈cellsFrom n l aY->x=y:=by
 intro l;induction l with
 |nil=>intro _ _ _ hi _ _ _ h1 h2;exact hi _ _ _ h1 h2
 |cons y0 r ih=>
  intro n aY je hi x y c h1 h2;obtain⟨z,k⟩:=y0;unfold cellsFrom at h1 h2;split at h1
  ·rename_i hk;rw[Vh hk]at h2;refine ih (λa b hm=>?_) (λa b d ha hb=>?_) h1 h2
   ·refine Xa (Yw.mp hm) (λe=>?_) λhm=>Xu (je a b hm)
    ·rcases e with⟨⟩;exact Xs _
   ·refine Xa (Yw.mp ha) (λe=>?_) λha=>?_<;>refine Xa (Yw.mp hb) (λe'=>?_) λhb=>?_
    ·rcases e with⟨⟩;rcases e' with⟨⟩;rfl
    ·rcases e with⟨⟩;exact absurd (je _ _ hb) (Xx _)
    ·rcases e' with⟨⟩;exact absurd (je _ _ ha) (Xx _)
    ·exact hi _ _ _ ha hb
  ·rename_i hk;rw[Vg hk]at h2;exact ih je hi h1 h2
theorem xn:∀{l:List (VV×Wh)}{h:Wz}{aY:List (VV×W8)}{x:VV}{c:W8},(x,c)∈cellsFrom h.objs.size l aY->(x,c)∈aY\/(pushCells h l).IsCell c Xe:=by
 intro l;induction l with
 |nil=>intro _ _ _ _ h;exact .inl h
 |cons y0 r ih=>
  intro h aY x c hm;obtain⟨y,k⟩:=y0;unfold cellsFrom at hm;unfold pushCells;split at hm
  ·rename_i hk;rw[Vh hk];have e:h.objs.size+1=(h.push {cls:=.type "cell",data:=.cell Xe}).objs.size:=(Wo ..).symm;rw[e]at hm;refine Xa (ih hm) (λhm=>?_) λhm=>.inr hm
   ·refine Xa (Yw.mp hm) (λe'=>?_) λhm=>.inl hm
    ·rcases e' with⟨⟩;exact .inr ⟨_,pushCells_keeps _ _ _ _ (Wt _ rfl),rfl⟩
  ·rename_i hk;rw[Vg hk];exact ih hm
def tZ(ag:WH)(bC:V5)(L:W8):WH:={scope:=relabel bC ag,locals:=L,globals:=ag.globals,cells:=cellsFrom (L+1) bC.names (pY ag bC.names []),qual:=ag.qual,func:=Xe,code:=ag.code,frame:=ag.frame,builtins:=ag.builtins}
theorem Fu{Q:WH->VY->Prop}(hQ:Q {scope:=bC,locals:=s.heap.objs.size,globals:=ag.globals,cells:=cellsFrom (s.heap.objs.size+1) bC.names cl,qual:=ag.qual,func:=Xe,code:=ag.code,frame:=ag.frame,builtins:=ag.builtins} {s with heap:=pushCells (s.heap.push {cls:=.type "dict",data:=.dict #[]}) bC.names}):aP (VB pw Wd) A (newFunctionEnv bC ag.globals cl [] ag.qual Xe .none (Xd ag)) Q E s:=by
 simp only[newFunctionEnv,Option.isSome_some,if_true]
 refine ab (aq <|wpAny_alloc ?_)
 refine ab (aq <|wpAny_layCells _ (λname kind cells=>by cases Ma:kind==Wh.cell<;>simp[Ma]) _ _ _ _ ?_)
 refine xR (show({s with heap:=s.heap.push {cls:=.type "dict",data:=.dict #[]}}:VY).heap.objs.size=s.heap.objs.size+1 from Wo ..) ?_
 exact ab (ao (ao hQ))
theorem qU{f:VV->Wh->Wh}:∀{l:List (VV×Wh)}{x:VV},(l.map λp=>(p.1,f p.1 p.2)).lookup x=(l.lookup x).map (f x):=by
 intro l;induction l with
 |nil=>intro x;exact rfl
 |cons y0 r ih=>intro x;obtain⟨y,k⟩:=y0;rw[YC,YF,YF];cases hb:x==y with|true=>rw[beq_iff_eq.mp hb];rfl|false=>exact ih
theorem lr{x:VV}:(relabel bC ag).names.lookup x=(bC.names.lookup x).map λk=>if(k== .free&&ag.scope.kind== .function&&ag.kindOf x==Xd .cell)then .cell else k:=by
 have:(relabel bC ag).names=bC.names.map λp=>(p.1,(λ(n:VV)(k:Wh)=>if(k== .free&&ag.scope.kind== .function&&ag.kindOf n==Xd .cell)then Wh.cell else k) p.1 p.2):=by unfold relabel;refine YD λp y=>?_;obtain⟨n,k⟩:=p;dsimp only;split<;>rfl
 simp only[this,qU (f:=λ(n:VV)(k:Wh)=>if(k== .free&&ag.scope.kind== .function&&ag.kindOf n==Xd .cell)then Wh.cell else k)]
theorem kq(h:jc sc bC=true):bC.kind=.function/\(∀p∈bC.names,bC.names.lookup p.1=Xd p.2)/\∀p∈bC.names,p.2=.free->sc.names.lookup p.1=Xd .cell\/sc.names.lookup p.1=Xd .free:=by
 unfold jc at h;simp only[ZV,Zw,Vd,ZL,bne_iff_ne,ne_eq]at h;refine⟨h.1.1,h.1.2,λp hp hf=>?_⟩;rcases h.2 p hp with(q|q)|q
 ·exact absurd hf q
 ·exact .inl q
 ·exact .inr q
theorem tE(e:aR ag sc)(h:jc sc bC=true):∀p∈bC.names,p.2=.free->∃c,ag.cells.lookup p.1=Xd c:=λp hp hf=>e.cells _ ((kq h).2.2 p hp hf)
theorem MU(e:aR ag sc)(h:jc sc bC=true)(hc:∀x c,ag.cells.lookup x=Xd c->c<L):aR (tZ ag bC L) bC:=by
 refine bD (kq h) λh1 h2 h3=>?_;have hf:=tE e h;have tw:∀x c,(x,c)∈pY ag bC.names []->ag.cells.lookup x=Xd c:=λx c hm=>(oR hf hm).resolve_left nofun;have key:∀x k,bC.names.lookup x=Xd k->k≠.free->(tZ ag bC L).kindOf x=Xd k:=λx k hx hk=>by show(relabel bC ag).names.lookup x=_;simp only[lr,hx,Xf,Vg];simp[hk]
 refine⟨h1,e.globals,e.builtins,λx hx=>key x _ hx (by decide),λx hx=>key x _ hx (by decide),λx hx=>key x _ hx (by decide),λx hx=>?_,λx hx=>?_,λx y c hx hy=>(mO (λz c hm=>Xu (hc z c (tw z c hm))) (λa b c ha hb=>e.inj a b c (tw a c ha) (tw b c hb)) (mem_of_lookup hx) (mem_of_lookup hy))⟩
 ·show(relabel bC ag).names.lookup x=_\/(relabel bC ag).names.lookup x=_;simp only[lr,hx,Xf];split
  ·exact .inl rfl
  ·exact .inr rfl
 ·have hm:∃c,(x,c)∈cellsFrom (L+1) bC.names (pY ag bC.names []):=by
   refine Xa hx (λhx=>ef (.inl (mem_of_lookup hx))) λhx=>ef (.inr (AN (.inl (mem_of_lookup hx))))
  refine aI hm λc hm=>eU hm
theorem kH{x:VV}{sl:Slot}:∀{ae:ax},(bJ bC ae).lookup x=Xd sl->ae.lookup x=Xd sl/\bC.names.lookup x=Xd .free
 |[],h=>aa h
 |(y,t)::r,h=>by
  have ih:= @kH x sl r;unfold bJ at h ih;simp only[Zi]at h;simp only[YF];split at h
  ·rename_i hp;replace h:=YF.symm.trans h;cases hb:x==y with
   |true=>simp only[hb]at h;obtain rfl:=Xc h;refine xR (beq_iff_eq.mp hb) ⟨rfl,by simpa using hp⟩
   |false=>simp only[hb]at h;exact ih h
  ·rename_i hp;have q:=ih h;cases hb:x==y with|true=>replace q:=(beq_iff_eq.mp hb)▸q;exact absurd (by simpa using q.2) hp|false=>exact q
theorem It.widen(hW:∀a,W' a->W a\/h.get? a=Xe)(x:It h ai W I ds):It h ai W' I ds:=by
 have key:∀{a:W8}{o:Obj},h.get? a=Xd o->¬W a->¬W' a:=λe w q=>by
  refine Xa (hW _ q) (λq=>w q) λq=>?_
  ·replace q:=e.symm.trans q;rcases q with⟨⟩
 cases x with|list hi hl hr w1 w2=>refine av (id hi) λo ho r=>av (id hl) λo2 o5 r2=>?_;exact .list hi hl hr (key ho w1) (key o5 w2)|tuple hi hl hr w1 w2=>refine av (id hi) λo ho r=>av (id hl) λo2 o5 r2=>?_;exact .tuple hi hl hr (key ho w1) (key o5 w2)|range hi w1=>exact .range hi (key hi w1)|str hi w1=>refine av (id hi) λo ho r=>?_;exact .str hi (key ho w1)|bytes hi w1=>refine av (id hi) λo ho r=>.bytes hi (key ho w1)
set_option tactic.hygienic true in
theorem bl.d7(z:Bs C s)(V:bz C ai s)(r:bl s.heap ai v d)(hd:bP d=Xd ds)(ha:v=.ref a):¬C.T a:=by
 rcases r with⟨⟩;case list ho hc hn di hr=>rcases ha with⟨⟩;exact z.d7 ho (by refine xR di ?_;nofun)
 case bg ho hc di=>exact aa hd
 case rep r=>
  rcases r with⟨⟩;case list hv ho hc hn di hr=>rcases ha with⟨⟩;exactλt=>hv (V.tabs _ t)
  case tuple hv ho hc di hr=>rcases ha with⟨⟩;exactλt=>hv (V.tabs _ t)
  case range hv hr=>rcases ha with⟨⟩;exactλt=>hv (V.tabs _ t)
  case bg hv ho hc di=>rcases ha with⟨⟩;exactλt=>hv (V.tabs _ t)
  case top=>exact aa hd
  case typ=>exact aa hd
  case dict=>exact aa hd
  all_goals (rcases ha with⟨⟩)
set_option tactic.hygienic true in
theorem bl.Lw(z:Bs C s)(V:bz C ai s)(r:bl s.heap ai v d)(hd:bP d=Xd ds)(ha:v=.ref a):¬C.fr a:=by
 rcases r with⟨⟩;case list ho hc hn di hr=>rcases ha with⟨⟩;exact z.fG ho (by refine xR di ?_;nofun)
 case bg ho hc di=>exact aa hd
 case rep r=>
  rcases r with⟨⟩;case list hv ho hc hn di hr=>rcases ha with⟨⟩;exactλt=>hv (V.gZ _ t)
  case tuple hv ho hc di hr=>rcases ha with⟨⟩;exactλt=>hv (V.gZ _ t)
  case range hv hr=>rcases ha with⟨⟩;exactλt=>hv (V.gZ _ t)
  case bg hv ho hc di=>rcases ha with⟨⟩;exactλt=>hv (V.gZ _ t)
  case top=>exact aa hd
  case typ=>exact aa hd
  case dict=>exact aa hd
  all_goals (rcases ha with⟨⟩)
def Cx.TF(C:Cx)(a:W8):Prop:=C.T a\/C.fr a
theorem bz.tf(V:bz C ai s)(a:W8)(h:C.TF a):ai a:=h.elim (V.tabs a) (V.gZ a)
theorem bl.NO(z:Bs C s)(V:bz C ai s)(r:bl s.heap ai v d)(hd:bP d=Xd ds)(ha:v=.ref a):¬C.TF a:=λq=>q.elim (r.d7 z V hd ha) (r.Lw z V hd ha)
theorem rh(ha:h.objs.size<=a):h.get? a=Xe:=by cases e:h.get? a with|none=>rfl|some o=>exact absurd (Wq e) (Nat.not_lt.mpr ha)
theorem MV(hf:∀p∈bC.names,p.2=.free->∃c,ag.cells.lookup p.1=Xd c)(h2:∀p∈bC.names,bC.names.lookup p.1=Xd p.2)(h:FW (tZ ag bC L) bC a):L<=a:=by
 refine Xa h (λh=>xR h (Xz L)) λy0=>?_
 ·refine av y0 λx h1 h3=>Xa (mN (mem_of_lookup h3)) (λhm=>?_) λy0=>aU y0 λz hm=>XE hm
  ·have:∀{l:List (VV×Wh)}{aY:List (VV×W8)},(x,a)∈pY ag l aY->(x,a)∈aY\/(x,Wg)∈l:=by
    intro l;induction l with
    |nil=>intro aY h;exact .inl h
    |cons p l ih=>
     intro aY h;obtain⟨y,k⟩:=p;unfold pY at h;refine Xa (ih h) (λh=>?_) λh=>.inr (Yv _ h)
     ·split at h
      ·rename_i hk;refine Xa (Yw.mp h) (λe=>?_) λh=>.inl h
       ·rcases e with⟨⟩;exact .inr (by refine xR (show k=.free by simpa using hk) Yu)
      ·exact .inl h
   refine Xa (this hm) (λq=>?_) λq=>?_
   ·rcases q with⟨⟩
   ·have:=h2 _ q;replace this:=h1.symm.trans this;rcases this with⟨⟩
def ui(C:Cx)(A:W6)(ai:W8->Prop)(ag:WH)(sc:V5)(ae:ax)(Z:Wz->List VO->Prop)(D I:W8)(e0:Expr)(depth:Nat)(t:Expr)(body:V0 WB)(f:Dat->Option (List Dat)):Prop:=∀(d:Dat)(out aY:List Dat)(vs:List VO)(v:VO)(s:VY),q8 C ai ag sc ae Z s vs aY->f d=Xd out->aY.length+out.length<=aS->Rep s.heap ai v d->∀(Q:WB->VY->Prop)(E:VO->VY->Prop),(∀s' qj,gL C (CW D ag sc) s s'->q8 C ai ag sc ae Z s' qj (aY++out)->Q (.again (.compLoop e0 depth (.ref I) (.ref D) ag)) s')->aP (VB pw Wd) A (assign t ag v>>=λx=>body) Q E s
theorem oP{e0:Expr}(hk:Bb e0){R:V6->VY->Prop}(hg:(clausesOf e0)[depth]?=Xd ⟨t,itE,ifs,0⟩)(x:It s.heap ai W I ds)(h:cK (VB pw Wd) A (.compLoop e0 depth (.ref I) aY ag) R s):cK (VB pw Wd) A (.compStart e0 depth (.ref I) aY ag) R s:=by
 refine bw ?_ hk.okS;have FR:(VB pw Wd).den (.compStart e0 depth (.ref I) aY ag)=(compStart e0 depth (.ref I) aY ag).onRaise (λx=>do noteFrame x ag;standAt theWindowsPlace):=Vg λq=>ZP (hk.frS.symm.trans q);refine xR hk.unS (xR FR (za ?_));unfold compStart;have e:=hg;refine xR e (ab (aq <|wpAny_askSetting (Dh ?_)));split
 ·first|exact ab (ao (ao (And.intro rfl h)))|exact ao (And.intro rfl h)
 ·first|exact ab (jh (ab (au (ab (x.self (ao (And.intro rfl h)))))))|(refine ab (jh ?_);show aP _ _ (standAt itE.pos>>=_) _ _ s;exact ab (au (ab (x.self (ao (And.intro rfl h))))))
theorem wm{e0:Expr}{dr:Dat}{Z:W8->Wz->List VO->Prop}{Tb:V0 VO}{oA:Obj}{body:W8->W8->WH->V0 WB}(Rw:Bb e0)(tw:clausesOf e0=⟨t,it,ifs,0⟩::rest)(hz:∀D,um (Z D) D)(kO:∀{A:W6}{E Q:VO->VY->Prop}{s:VY},Q (.ref s.heap.objs.size) {s with heap:=s.heap.push oA}->aP (VB pw Wd) A Tb Q E s)(h0:∀{h:Wz}{D:W8},h.get? D=Xd oA->Z D h [])(Qg:oA.isFreed=false) (DS:∀{dy:WH}{D I:W8},compTurn e0 0 (.ref I) (.ref D) dy=(standAt it.pos>>=λx=>pyNext (.ref I)>>=λr=>match r with
   |none=>pure (.done .next)|some v=>letOwnedTupleGo t (.ref I) v>>=λx=>assign t dy v>>=λx=>body D I dy)) (hA:A.handled=Xe) (e:aR ag sc) (i:In C ai ag ae s)
  (gC:jc sc bC=true) (IG:∀x,foldedSetIterable it ag x=pure x) (lI:Wp C A (eval it ag) (λv s'=>bl s'.heap ai v src) s) (hit:bP src=Xd ar) (f:Dat->Option (List Dat)) (hm:bN f ar=Xd out) (hl:out.length<=aS)
  (step:∀g9 dy D I,kT C g9 dy bC D A->ui C A g9 dy bC (bJ bC ae) (Z D) D I e0 0 t (body D I dy) f)
  (ZbV:∀{h:Wz}{ai:W8->Prop}{D:W8}{vs:List VO},Z D h vs->¬ai D->aK h ai vs out->Rep h ai (.ref D) dr)
  (K:∀L D s',Ex C s s'->Rep s'.heap (λa=>ai a\/a=L) (.ref D) dr->s.heap.get? L=Xe->(∃m,s'.heap.Ns L m)->fX (VB pw Wd) A E use Q (.ref D) L (.ok .next) s'):
  aP (VB pw Wd) A (comprehension e0 bC ag pos' Tb false (eval it ag) use) Q E s:=by
 refine bD (kq gC) λh1 h2 h3=>?_
 have hf:=tE e gC
 refine jN tw IG (uT hf) h1 (λx hx hl=>xR (h2 x hx) (xR hl rfl)) ?_
 refine lI _ _ λv s1 x1 r1=>?_
 have i1:=i.ex x1
 refine oj (W:=C.TF) r1 hit (λa t=>i1.vo.there a (i1.vo.tf a t)) (λa ha=>r1.NO i1.bs i1.vo hit ha) λI Oq hI ur xI=>?_
 have nI:¬C.T I:=λq=>xI.Fs (.inl q)
 refine kO ?_
 refine Fu ?_
 have PZ:(Oq.push oA).objs.size=Oq.objs.size+1:=Wo ..
 refine xR PZ ?_
 generalize hD:Oq.objs.size=D at *
 show cK _ A (.compStart _ 0 (.ref I) (.ref D) (tZ ag bC (D+1))) (fX _ A E use Q (.ref D) (D+1)) _
 generalize ou:tZ ag bC (D+1)=dy
 generalize FP:({s1 with heap:=pushCells ((Oq.push oA).push {cls:=.type "dict",data:=.dict #[]}) bC.names}:VY)=s4
 have h4:s4.heap=pushCells ((Oq.push oA).push {cls:=.type "dict",data:=.dict #[]}) bC.names:=xL FP rfl
 have Kl:∀b o,Oq.get? b=Xd o->s4.heap.get? b=Xd o:=λb o e=>by refine xR h4 (pushCells_keeps _ _ _ _ (Wu _ (Wu _ e)))
 have x4:Ex C s1 s4:=.of_keep (λb o e=>Kl b o (ur b o e)) (xL FP rfl) (xL FP rfl)
 have i4:=i1.ex x4
 have cLt:=λx c hc=>by refine eT (i1.cells x c hc) λv o ho y=>?_;have:=Wq (ur _ _ ho);simp only[hD]at this;exact Xu this
 have ec:aR dy bC:=ou▸MU e gC cLt
 have cwD:∀a,CW D dy bC a->D<=a:=λa q=>by
  refine Xa q (λy0=>?_) λq=>XE (MV hf h2 (ou▸q))
  ·obtain rfl:=y0;exact Xz _
 have cwN:=λa q=>rh (hD▸cwD a q)
 have F7:∀a,CW D dy bC a->s1.heap.get? a=Xe:=λa q=>by cases e':s1.heap.get? a with|none=>rfl|some o=>have:=ur _ _ e';replace this:=(cwN a q).symm.trans this;exact aa this
 have U3:∀a,CW D dy bC a->¬C.T a:=λa q t=>by refine aI (i1.vo.there a (i1.vo.tabs a t)) λo e'=>?_;replace e':=(F7 a q).symm.trans e';exact aa e'
 have cwF:∀a,CW D dy bC a->¬C.fr a:=λa q t=>by refine aI (i1.vo.there a (i1.vo.gZ a t)) λo e'=>?_;replace e':=(F7 a q).symm.trans e';exact aa e'
 have Lz:∀a,s1.heap.get? a=Xe->¬C.T a->C.h₀.get? a=Xe:=λa q t=>by cases e':C.h₀.get? a with|none=>rfl|some o=>have:=i1.bs.keep a o e' t;replace this:=q.symm.trans this;exact aa this
 have N8:Z D s4.heap []:=by refine h0 (xR h4 (xL hD ?_));exact pushCells_keeps _ _ _ _ (Wu _ (Wt _ Qg))
 have Og:s4.heap.Ns (D+1) λy=>Xe:=by refine xR h4 (xL PZ ?_);exact(Wz.Ns.new _ (.type "dict")).keeps (pushCells_keeps _ _)
 have tA:∀x c,(x,c)∈dy.cells->s4.heap.IsCell c Xe\/ag.cells.lookup x=Xd c:=λx c Bg=>by
  replace Bg:=ou.symm▸Bg;have hm2:(x,c)∈cellsFrom (((Oq.push oA).push {cls:=.type "dict",data:=.dict #[]}).objs.size) bC.names (pY ag bC.names []):=by simp only[Wo,PZ];exact Bg
  refine Xa (xn hm2) (λq=>.inr ((oR hf q).resolve_left nofun)) λq=>.inl (h4▸q)
 generalize hv1:(λa=>ai a\/CW D dy bC a)=o8
 have v1:∀a,ai a->o8 a:=λa q=>by refine xL hv1 (.inl q)
 have v1c:∀a,CW D dy bC a->o8 a:=λa q=>by refine xL hv1 (.inr q)
 have v1n:∀a,¬ai a->¬CW D dy bC a->¬o8 a:=λa q r=>by refine xL hv1 (λt=>t.elim q r)
 have up:∀{h:Wz}{vs:List VO}{es:List Dat},aK h ai vs es->(∀b o,h.get? b=Xd o->s4.heap.get? b=Xd o)->(∀a,CW D dy bC a->h.get? a=Xe)->aK s4.heap o8 vs es:=λr hk hn=>r.mono λb o e n=>⟨hk b o e,v1n b n λq=>by replace e:=(hn b q).symm.trans e;exact aa e⟩
 have up1:∀{h:Wz}{v:VO}{es:Dat},Rep h ai v es->(∀b o,h.get? b=Xd o->s4.heap.get? b=Xd o)->(∀a,CW D dy bC a->h.get? a=Xe)->Rep s4.heap o8 v es:=λr hk hn=>r.mono λb o e n=>⟨hk b o e,v1n b n λq=>by replace e:=(hn b q).symm.trans e;exact aa e⟩
 have fx:kT C o8 dy bC D A:=⟨ec,v1c D (.inl rfl),Lz D (F7 D (.inl rfl)) (U3 D (.inl rfl)),by refine xL ou ?_;rfl,hA,cwF D (.inl rfl)⟩
 have vo4:bz C o8 s4:=by
  refine⟨λa t=>v1 a (i4.vo.tabs a t),λa t=>v1 a (i4.vo.gZ a t),λa q=>?_⟩;simp only[<-hv1]at q;rcases q with q|rfl|rfl|⟨x,q1,q2⟩
  ·exact i4.vo.there a q
  ·refine av ((hz _).obj N8) λo ho y=>⟨o,ho⟩
  ·refine kJ Og λo y y ho y=>xL ou ⟨o,ho⟩
  ·refine Xa (tA x a (mem_of_lookup q2)) (λy0=>av y0 λo ho y=>⟨o,ho⟩) λq=>eT (i4.cells x a q) λv o ho y=>⟨o,ho⟩
 have Zb6:qg C s4.heap o8 dy bC:=by
  refine⟨⟨_,by refine xL ou Og⟩,v1c _ (.inr (.inl rfl)),Lz _ (F7 _ (.inr (.inl rfl))) (U3 _ (.inr (.inl rfl))),λx c q1 q2=>⟨v1c _ (.inr (.inr ⟨x,q1,q2⟩)),Lz _ (F7 _ (.inr (.inr ⟨x,q1,q2⟩))) (U3 _ (.inr (.inr ⟨x,q1,q2⟩))),(Xa (tA x c (mem_of_lookup q2)) (λq=>⟨_,q⟩) λq=>i4.cells x c q)⟩⟩
 have in4:In C o8 dy (bJ bC ae) s4:=by
  refine⟨i4.bs,vo4,λx sl hx=>?_,λx c hc=>(Xa (tA x c (mem_of_lookup hc)) (λq=>⟨_,q⟩) λq=>i4.cells x c q)⟩
  ·refine aU (kH hx) λhx1 hx2=>av (i4.lo x sl hx1) λv y0 hr=>bD y0 λa1 a2 a3=>?_;have hkf:=h3 _ (mem_of_lookup hx2) rfl;have mJ:ag.kindOf x=Xd .cell\/ag.kindOf x=Xd .free:=by
    refine Xa hkf (λq=>.inl (e.nA x q)) λq=>e.fre x q
   refine Xa a3 (λy0=>?_) λy1=>?_
   ·refine aU y0 λb1 y=>?_;refine Xa mJ (λq=>?_) λq=>?_<;>(replace q:=b1.symm.trans q;rcases q with⟨⟩)
   ·obtain⟨b1,c,b2,b3⟩:=y1;refine aI (ec.cells x (.inr hx2)) λc' l9=>?_;have hcc:c'=c:=by
     have Bg:(x,c')∈dy.cells:=mem_of_lookup l9;replace Bg:=ou.symm▸Bg;refine Xa (mN Bg) (λq=>?_) λy0=>?_
     ·have:=(oR hf q).resolve_left nofun;simp only[b2]at this;obtain rfl:=Xc this;rfl
     ·refine aU y0 λq y=>?_;have:=h2 _ q;replace this:=hx2.symm.trans this;rcases this with⟨⟩
    subst hcc;refine⟨v,⟨a1,a2,.inr ⟨ec.fre x hx2,c',l9,b3⟩⟩,?_⟩;rcases sl with⟨⟩;case val d=>
     refine av (i1.lo x (.val d) hx1) λv0 y0 r0=>bD y0 λc1 c2 c3=>?_;have:v0=v:=by
      refine Xa c3 (λy0=>?_) λy1=>?_
      ·refine aU y0 λq y=>?_;refine Xa mJ (λq'=>?_) λq'=>?_<;>(replace q':=q.symm.trans q';rcases q' with⟨⟩)
      ·obtain⟨_,c0,d2,o,d3,d4⟩:=y1;replace d2:=b2.symm.trans d2;obtain rfl:=Xc d2;refine av b3 λo' d5 d6=>?_;have:=x4.keep _ _ d3 (i1.bs.d7 d3 (by refine xR d4 ?_;nofun)) (i1.bs.fG d3 (by refine xR d4 ?_;nofun));replace this:=d5.symm.trans this;obtain rfl:=Xc this;replace d6:=d4.symm.trans d6;rcases d6 with⟨⟩;rfl
     cases this;exact up1 r0 (λb o e=>Kl b o (ur b o e)) F7
    case own d=>
     refine ZK λhG=>?_;obtain⟨v0,y0,r0,a0,ha0,L4,Qc⟩:=i1.lo x (.own d) hx1;refine bD y0 λc1 c2 c3=>hG ?_;have:v0=v:=by
      refine Xa c3 (λy0=>?_) λy1=>?_
      ·refine aU y0 λq y=>?_;refine Xa mJ (λq'=>?_) λq'=>?_<;>(replace q':=q.symm.trans q';rcases q' with⟨⟩)
      ·obtain⟨_,c0,d2,o,d3,d4⟩:=y1;simp only[b2]at d2;obtain rfl:=Xc d2;refine av b3 λo' d5 d6=>?_;have:=x4.keep _ _ d3 (i1.bs.d7 d3 (by refine xR d4 ?_;nofun)) (i1.bs.fG d3 (by refine xR d4 ?_;nofun));simp only[d5]at this;obtain rfl:=Xc this;replace d6:=d4.symm.trans d6;rcases d6 with⟨⟩;rfl
     cases this;have jI:a0+1≠dy.locals:=λq=>by simp only[<-ou]at q;have q':a0=D:=Nat.succ.inj q;refine aI (i1.vo.there a0 L4) λo' e'=>?_;replace e':=(F7 D (.inl rfl))▸q'▸e';exact aa e'
     refine⟨?_,a0,ha0,v1 _ L4,jI⟩;cases r0 with|rep r=>exact .rep (up1 r (λb o e=>Kl b o (ur b o e)) F7)|list ho hc hn hd vT=>exact .list (Kl _ _ (ur _ _ ho)) hc hn hd (up vT (λb o e=>Kl b o (ur b o e)) F7)|bg ho hc hd=>exact .bg (Kl _ _ (ur _ _ ho)) hc hd
 have KO:q8 C o8 dy bC (bJ bC ae) (Z D) s4 [] []:=⟨in4,Zb6,N8,.nil⟩
 have xI4:It s4.heap o8 (λa=>CW D dy bC a\/C.T a\/C.fr a) I ar:=by have w:It Oq ai (λa=>CW D dy bC a\/C.T a\/C.fr a) I ar:=xI.widen λa q=>q.elim (λq=>.inr (cwN a q)) .inl;exact w.mono (λb o e y=>Kl b o e) λr=>up r Kl cwN
 have nvI:¬o8 I:=v1n I (λq=>by refine aI (i1.vo.there I q) λo e'=>?_;replace e':=hI.symm.trans e';exact aa e') λq=>xI4.Fs (.inl q)
 refine oP (t:=t) (itE:=it) (ifs:=ifs) Rw (by rw[tw];rfl) xI4 ?_
 refine qK (hz D) Rw DS fx f (Lz I hI nI) nI nvI (step o8 dy D I fx) ar out [] [] s4 xI4 KO hm (by simpa using hl) λs5 vs5 xw5 NC=>?_
 simp only[Yh]at NC
 have x5:Ex C s1 s5:=(x4.KD.trans xw5).R6 (λa q=>q.elim (F7 a) λq=>q▸hI) λa q=>q.elim (U3 a) λq=>q▸nI
 have RD:dy.locals=D+1:=by refine xL ou ?_;rfl
 refine K (D+1) D s5 (x1.trans x5) ?_ ?_ (RD▸NC.kF.ns)
 ·refine ZbV NC.at_ (λq=>q.elim (λq=>?_) λq=>absurd q.symm (Nat.succ_ne_self D)) (NC.xh.mono λb o e n=>⟨e,λq=>n (q.elim (v1 b) λq=>v1c b (.inr (.inl (q.trans RD.symm))))⟩);refine aI (i1.vo.there D q) λo' e'=>?_;replace e':=(F7 D (.inl rfl)).symm.trans e';exact aa e'
 ·have:=F7 (D+1) (.inr (.inl RD.symm));cases e':s.heap.get? (D+1)with|none=>rfl|some o=>have:=x1.keep _ _ e' (U3 (D+1) (.inr (.inl RD.symm))) (cwF (D+1) (.inr (.inl RD.symm)));replace this:=(F7 (D+1) (.inr (.inl RD.symm))).symm.trans this;exact aa this
def fz(C:Cx)(Φ:fO)(A:W6)(e:Expr):Prop:=∀{ag sc ai ae d s},aR ag sc->In C ai ag ae s->ev Φ sc e ae=Xd d->eS C A ai (eval e ag) d s
def jE(C:Cx)(Φ:fO)(A:W6)(e:Expr):Prop:=∀{ag sc ai ae b s},aR ag sc->In C ai ag ae s->dT Φ sc e ae (ev Φ sc e ae)=Xd b->Wp C A (isTrue e ag (eval e ag)) (λt x=>t=b) s
theorem iS(e:aR ag sc)(h:fI s.heap ag x v)(hQ:Q v s):aP (VB pw Wd) A (eval (.Name x p) ag) Q E s:=by
 refine bD h λh1 h2 h3=>GU ?_ h1;rcases h3 with⟨hk,m,hm,hv⟩|⟨hk|hk,c,hc,hv⟩
 ·exact aq <|wpAny_loadName_local e.kind hk hm hv hQ
 ·exact aq <|wpAny_loadName_cell e.kind hk hc hv hQ
 ·exact aq <|wpAny_loadName_free e.kind hk hc hv hQ h2
theorem Cx.nsG(hC:C.Ok)(z:Bs C s):s.heap.Ns mainGlobals C.mg:=by refine kJ hC.g λo es ep ho r=>⟨o,es,ep,z.keep _ _ ho ?_,r⟩;refineλy0=>mr y0 λc p q m=>(hC.uA c _ p q m).2.2.1 rfl
theorem Cx.nsB(hC:C.Ok)(z:Bs C s):s.heap.Ns builtinsNs C.mb:=by refine kJ hC.b λo es ep ho r=>⟨o,es,ep,z.keep _ _ ho ?_,r⟩;refineλy0=>mr y0 λc p q m=>(hC.uA c _ p q m).2.2.2 rfl
theorem ma(hC:C.Ok)(e:aR ag sc)(z:Bs C s)(hx:sc.names.lookup x=Xd .globalImplicit)(hd:(x==("__debug__":VV))=false)(hv:C.mg x=Xd v)(hQ:Q v s):aP (VB pw Wd) A (eval (.Name x p) ag) Q E s:=aq <|WL e.kind (e.glob x hx) (Calls.loadGlobal_global (e.globals▸Cx.nsG hC z) hv hQ) hd
theorem dX(hC:C.Ok)(e:aR ag sc)(z:Bs C s)(hx:sc.names.lookup x=Xd .globalImplicit)(hd:(x==("__debug__":VV))=false)(hg:C.mg x=Xe)(hv:C.mb x=Xd v)(hQ:Q v s):aP (VB pw Wd) A (eval (.Name x p) ag) Q E s:=aq <|WL e.kind (e.glob x hx) (Calls.loadGlobal_builtin (e.globals▸Cx.nsG hC z) hg (e.builtins▸Cx.nsB hC z) hv hQ) hd
set_option tactic.hygienic true in
theorem AH(h:JF c=Xd d):eS C A ai (eval (.Constant c k p) ag) d s:=by
 rcases c with⟨⟩;case none=>obtain rfl:=Xc h;exactλE Q q=>aq <|wpAny_Constant_none (q _ _ (.refl s) .none)
 case bool b=>obtain rfl:=Xc h;exactλE Q q=>aq <|wpAny_Constant_bool (q _ _ (.refl s) (.bool b))
 case int i=>obtain rfl:=Xc h;exactλE Q q=>aq <|Vv (q _ _ .toks (.int i _))
 case str x=>obtain rfl:=Xc h;exactλE Q q=>aq <|Vu (q _ _ .toks (.str x _))
 case bytes b=>obtain rfl:=Xc h;refineλE Q q=>?_;have:aP (VB pw Wd) A (mkTextBytes b.toArray) Q E s:=λy y y y=>q _ {s with toks:=s.toks+1} .toks (.bytes b _);exact this
 all_goals (exact aa h)
theorem rC(hC:C.Ok)(hF:cu C Φ n)(e:aR ag sc)(i:In C ai ag ae s)(h:ev Φ sc (.Name x p) ae=Xd d):eS C A ai (eval (.Name x p) ag) d s:=by
 have h':(match ae.lookup x with
  |some (.val d)=>Xd d|some (.own _)=>Xe|none=>if sc.names.lookup x=Xd .globalImplicit then Φ.glob x else Xe)=Xd d:=h
 cases hl:ae.lookup x with
 |none=>
  rw[hl]at h';refine aL h' λhg h'=>dE (hF.glob h') λv h1 h2 h3=>Xa h1 (λh1=>λE Q q=>ma hC e i.bs hg h2 h1 (q v s (.refl s) (h3 i.bs i.vo))) λy0=>aU y0 λh0 h1=>λE Q q=>dX hC e i.bs hg h2 h0 h1 (q v s (.refl s) (h3 i.bs i.vo))
 |some sl=>
  rw[hl]at h';rcases sl with⟨⟩;case own=>exact aa h'
  case val=>obtain rfl:=Xc h';refine av (i.lo x _ hl) λv hv hr=>λE Q q=>iS e hv (q v s (.refl s) hr)
theorem Fo(h:ownAt ae y=Xd d):ae.lookup y=Xd (.own d):=by
 unfold ownAt at h;cases hl:ae.lookup y with
 |none=>rw[hl]at h;exact aa h
 |some sl=>
  rw[hl]at h;rcases sl with⟨⟩;case val=>exact aa h
  case own=>exact Ve (Xd <|Slot.own ·) (Xc h)
theorem qv{x:Expr}{w:Option Dat}(h:orOwn x ae w=Xd d):w=Xd d\/∃y p,x=.Name y p/\ae.lookup y=Xd (.own d):=by unfold orOwn at h;cases hn:(asName x).bind (ownAt ae)with|none=>rw[hn]at h;exact .inl h|some d'=>rw[hn]at h;exact ak hn λy h1 h2=>(f7 h1).elim λp e=>.inr ⟨y,p,e,Fo (h2.trans h)⟩
theorem vH{x:Expr}(hE:fz C Φ A x)(e:aR ag sc)(i:In C ai ag ae s)(h:orOwn x ae (ev Φ sc x ae)=Xd d):Wp C A (eval x ag) (λv s'=>bl s'.heap ai v d/\(Rep s'.heap ai v d\/∃a,v=.ref a/\ai a/\a+1≠ag.locals)) s:=by
 refine Xa (qv h) (λh=>Wp.mono (hE e i h) λz z z r=>⟨.rep r,.inl r⟩) λy0=>?_
 ·refine eT y0 ?_;rintro y p(rfl)hl;refine av (i.lo y _ hl) λv hv hr=>λE Q q=>iS e hv (q v s (.refl s) ⟨hr.1,.inr hr.2⟩)
theorem dO{x:Expr}(hE:fz C Φ A x)(e:aR ag sc)(i:In C ai ag ae s)(h:orOwn x ae (ev Φ sc x ae)=Xd d):Wp C A (eval x ag) (λv s'=>bl s'.heap ai v d) s:=Wp.mono (vH hE e i h) λy y y r=>r.1
theorem C1(hO:cA C n)(hA:dD C n A)(hl:fz C Φ A l)(hr:fz C Φ A r)(e:aR ag sc)(i:In C ai ag ae s)(h:ev Φ sc (.BinOp l op r p) ae=Xd d):eS C A ai (eval (.BinOp l op r p) ag) d s:=ak h λa h1 h=>ak h λb h2 h E Q q=>EJ (hl e i h1 _ _ λv s1 x1 r1=>hr e (i.ex x1) h2 _ _ λu s2 x2 r2=>hO.bin hA ((i.ex x1).ex x2).bs ((i.ex x1).ex x2).vo (r1.ex (i.ex x1).vo x2) r2 h _ _ λw s3 x3 r3=>q w s3 ((x1.trans x2).trans x3) r3)
theorem RY(hO:cA C n)(hA:dD C n A){x:Expr}(hx:fz C Φ A x)(e:aR ag sc)(i:In C ai ag ae s)(h:ev Φ sc (.UnaryOp op x p) ae=Xd d):eS C A ai (eval (.UnaryOp op x p) ag) d s:=by
 have plain:(ev Φ sc x ae).bind (λa=>unD op a)=Xd d->op≠.Not->eS C A ai (eval (.UnaryOp op x p) ag) d s:=λh hn=>ak h λa h1 h E Q q=>qh (hx e i h1 _ _ λv s1 x1 r1=>hO.un hA (i.ex x1).bs (i.ex x1).vo r1 h _ _ λw s2 x2 r2=>q w s2 (x1.trans x2) r2);rcases op with⟨⟩;case Not=>refine ak h λa h1 h=>ak h λb h2 h E Q q=>?_;obtain rfl:=Xc h;exact qh (dO hx e i h1 _ _ λv s1 x1 r1=>Kr (hO.tru hA (i.ex x1).bs (i.ex x1).vo r1 h2 _ _ λt s2 x2 ht=>ht▸q _ s2 (x1.trans x2) (.bool _)))
 all_goals (exact plain h nofun)
theorem or_none{x:Expr}{P:Prop}(h:orOwn x ae (ev Φ sc x ae)=Xd d)(hx:ev Φ sc x ae=Xe)(hn:∀y p,x≠.Name y p):P:=by
 refine Xa (qv h) (λh=>?_) λy0=>eT y0 λy p e z=>absurd e (hn y p)
 ·rw[hx]at h;exact aa h
theorem fF{x:Expr}(h:orOwn x ae (ev Φ sc x ae)=Xd d):∀es k p,x≠.Set es k p:=by rintro es k p rfl;exact or_none h rfl nofun
theorem z1{x:Expr}(h:∀es k p,x≠.Set es k p):behindInMarks op x=false:=by rcases x with⟨⟩<;>first|rfl|exact absurd rfl (h _ _ _)
theorem fq{x:Expr}(h:∀es k p,x≠.Set es k p)(v:VO):foldedSetIterable x ag v=pure v:=by rcases x with⟨⟩<;>first|rfl|exact absurd rfl (h _ _ _)
theorem AL(hO:cA C n)(hA:dD C n A){x:Expr}{a:Dat}(e:aR ag sc)(hx:fz C Φ A x)(i:In C ai ag ae s)(rv:bl s.heap ai v a)(h:oE Φ sc a [op] [x] ae=Xd r) {β:Type} {k:VO->VO->V0 β} {Q:β->VY->Prop} (q:∀u s2,Ex C s s2->aP (VB pw Wd) A (k u (.bool r)) Q E s2):aP (VB pw Wd) A (holding [v] (eval x ag)>>=λrv=>standAt pos>>=λy=>operate [v,rv] (compareOp op v rv)>>=k rv) Q E s:=ak h λb h1 h=>ab (az (dO hx e i h1 _ _ λu s1 x1 r1=>ab (au (ab (nH (hO.cmp hA (i.ex x1).bs (i.ex x1).vo (rv.ex i.bs i.vo x1) r1 h _ _ λw s2 x2 r2=>r2.Eh▸q u s2 (x1.trans x2)))))))
theorem AK(hO:cA C n)(hA:dD C n A){x:Expr}{a b:Dat}(e:aR ag sc)(hx:fz C Φ A x)(i:In C ai ag ae s)(rv:bl s.heap ai v a)(h1:ev Φ sc x ae=Xd b)(h:pW op a b=Xd c) {β:Type} {k:VO->VO->Bool->V0 β} {Q:β->VY->Prop} (q:∀u s2,Ex C s s2->Rep s2.heap ai u b->aP (VB pw Wd) A (k u (.bool c) c) Q E s2):aP (VB pw Wd) A (holding [v] (eval x ag)>>=λrv=>standAt pos>>=λy=>holding [v,rv] (compareOp op v rv)>>=λc=>release [v,rv] [c]>>=λy=>holding [c,rv] (truthy c)>>=k rv c) Q E s:=ab (az (hx e i h1 _ _ λu s1 x1 r1=>ab (au (ab (az (hO.cmp hA (i.ex x1).bs (i.ex x1).vo (rv.ex i.bs i.vo x1) (.rep r1) h _ _ λw s2 x2 r2=>by rw[r2.Eh];exact ab (aq <|wpAny_release (ab (az (aq <|Vi (q u s2 (x1.trans x2) (r1.ex (i.ex x1).vo x2))))))))))))
set_option tactic.hygienic true in
theorem tY(hO:cA C n)(hA:dD C n A){pos:Pos}(e:aR ag sc):∀{es:List Expr}{ops:List CmpOp}{a:Dat}{v:VO}{r:Bool}{s:VY},(∀x∈es,fz C Φ A x)->In C ai ag ae s->bl s.heap ai v a->oE Φ sc a ops es ae=Xd r->Wp C A (compareChain pos v ops (markedEach ops es (evalEach es ag))) (λu w=>u=.bool r) s/\Wp C A (testChain pos v ops (markedEach ops es (evalEach es ag))) (λu w=>u=r) s
 |[],ops,a,v,r,s,_,i,rv,h=>by
  rcases ops with⟨⟩;case nil=>exact aa h
  case cons o ops=>cases ops with
   |nil=>exact aa h|cons o2 ops=>exact aa h
 |[x],ops,a,v,r,s,hx,i,rv,h=>by
  rcases ops with⟨⟩;case nil=>exact aa h
  case cons op ops=>cases ops with
   |cons o2 ops=>exact aa h|nil=>have hm:markedEach [op] [x] (evalEach [x] ag)=[eval x ag]:=Ve (λt=>[t]) (ak h λb h1 w=>markedBehindIn_of_false (z1 (fF h1)));rw[hm];have TZ:fz C Φ A x:=hx x Yu;refine⟨λE Q q=>?_,λE Q q=>AL hO hA e TZ i rv h λu s2 x2=>az (aq <|Vi (q r s2 x2 rfl))⟩;have:=AL hO hA (pos:=pos) (E:=E) (Q:=Q) e TZ i rv h λu s2 x2=>ao (q _ s2 x2 rfl);have hp:∀rv,(operate [v,rv] (compareOp op v rv)>>=λc=>pure c)=operate [v,rv] (compareOp op v rv):=λrv=>bind_pure _;simp only[hp]at this;exact this
 |x::y::es,ops,a,v,r,s,hx,i,rv,h=>by
  rcases ops with⟨⟩;case nil=>exact aa h
  case cons op ops=>cases ops with
   |nil=>exact aa h
   |cons o2 ops=>
    refine ak h λb h1 h=>ak h λc h2 h=>?_;have TZ:fz C Φ A x:=hx x Yu;have ih:=λu s2(x2:Ex C s s2)(ru:Rep s2.heap ai u b)(h:oE Φ sc b (o2::ops) (y::es) ae=Xd r)=>tY hO hA (pos:=pos) e (λz hz=>hx z (Yv _ hz)) (i.ex x2) (.rep ru) h;refine⟨λE Q q=>AK hO hA e TZ i rv h1 h2 λu s2 x2 ru=>?_,λE Q q=>AK hO hA e TZ i rv h1 h2 λu s2 x2 ru=>?_⟩
    ·rcases c with⟨⟩;case true=>exact(ih u s2 x2 ru h).1 _ _ λu s3 x3 hu=>q u s3 (x2.trans x3) hu
     case false=>exact ao (q _ s2 x2 (by rw[Xc h]))
    ·rcases c with⟨⟩;case true=>exact(ih u s2 x2 ru h).2 _ _ λu s3 x3 hu=>q u s3 (x2.trans x3) hu
     case false=>exact ao (q _ s2 x2 (Xc h))
theorem Q5{pos:Pos}(e:aR ag sc):∀{es:List Expr}{op:BoolOp}{b:Bool}{s:VY},(∀x∈es,jE C Φ A x)->In C ai ag ae s->fu Φ sc op es ae=Xd b->Wp C A (allTrue op es ag) (λt z=>t=b) s:=by
 intro es;induction es with
 |nil=>intro op b s _ i h;exact Wp.pure (Xc h)
 |cons x es Aj=>
  intro op b s hx i h;exact ak h λc h1 h E Q q=>ab ((hx x Yu:jE C Φ A x) e i h1 _ _ λt s1 x1 ht=>by
  subst ht;have ih:=Aj (op:=op) (b:=b) (λy hy=>hx y (Yv _ hy)) (i.ex x1);rcases op with⟨⟩<;>rcases t with⟨⟩
  ·exact ao (q _ s1 x1 (Xc h))
  ·exact ih h _ _ λw s2 x2 r2=>q w s2 (x1.trans x2) r2
  ·exact ih h _ _ λw s2 x2 r2=>q w s2 (x1.trans x2) r2
  ·exact ao (q _ s1 x1 (Xc h)))
theorem wx(hO:cA C n)(hA:dD C n A){pos:Pos}(e:aR ag sc):∀{es:List Expr}{op:BoolOp}{d:Dat}{s:VY},(∀x∈es,fz C Φ A x)->In C ai ag ae s->tL Φ sc op es ae=Xd d->eS C A ai (boolOp pos op (evalEach es ag)) d s
 |[],op,d,s,_,i,h=>aa h
 |[x],op,d,s,hx,i,h=>(hx x Yu:fz C Φ A x) e i h
 |x::y::es,op,d,s,hx,i,h=>ak h λa h1 h=>ak h λc h2 h E Q q=>ab ((hx x Yu:fz C Φ A x) e i h1 _ _ λv s1 x1 r1=>
  ab (au (ab (az (hO.tru hA (i.ex x1).bs (i.ex x1).vo (.rep r1) h2 _ _ λt s2 x2 ht=>by
  subst ht;have EE:=x1.trans x2;have fin:Xd a=Xd d->Q v s2:=λhh=>q v s2 EE (Xc hh▸r1.ex (i.ex x1).vo x2);have ih:=wx hO hA (pos:=pos) (op:=op) (d:=d) e (λy hy=>hx y (Yv _ hy)) (i.ex EE);rcases op with⟨⟩<;>rcases t with⟨⟩
  ·exact ao (fin h)
  ·exact ih h _ _ λw s3 x3 r3=>q w s3 (EE.trans x3) r3
  ·exact ih h _ _ λw s3 x3 r3=>q w s3 (EE.trans x3) r3
  ·exact ao (fin h))))))
theorem i9{x:Expr}(h:ev Φ sc x ae=Xd d):∀y p,x≠.Starred y p:=by rintro y p rfl;exact aa h
theorem mG{x:Expr}(h:orOwn x ae (ev Φ sc x ae)=Xd d):∀y p,x≠.Starred y p:=by rintro y p rfl;exact or_none h rfl nofun
theorem dK{x:Expr}(h:∀y p,x≠.Starred y p):starEach (x::es) ag=(false,eval x ag)::starEach es ag:=by rcases x with⟨⟩<;>first|rfl|exact absurd rfl (h _ _)
theorem jt(e:aR ag sc):∀{es:List Expr}{ds:List Dat}{s:VY},(∀x∈es,fz C Φ A x)->In C ai ag ae s->FZ Φ sc es ae=Xd ds->Wp C A (spliced (backTo pos (starEach es ag))) (λvs s'=>aK s'.heap ai vs ds) s|[],ds,s,_,i,h=>λE Q q=>ee (q _ _ (.refl s) (Xc h▸.nil))|x::es,ds,s,hx,i,h=>ak h λd h1 h=>ba h λkG h2 h E Q q=>by subst h;exact b8 ((hx x Yu:fz C Φ A x) e i h1 _ _ λv s1 x1 r1=>jt e (λy hy=>hx y (Yv _ hy)) (i.ex x1) h2 _ _ λvs s2 x2 r2=>q _ s2 (x1.trans x2) (.cons (r1.ex (i.ex x1).vo x2) r2)) (dK (i9 h1))
theorem l7(e:aR ag sc):∀{es:List Expr}{ds:List Dat}{s:VY},(∀x∈es,fz C Φ A x)->In C ai ag ae s->kn Φ sc es ae=Xd ds->Wp C A (spliced (backTo pos (starEach es ag))) (λvs s'=>iC s'.heap ai vs ds) s|[],ds,s,_,i,h=>λE Q q=>ee (q _ _ (.refl s) (Xc h▸.nil))|x::es,ds,s,hx,i,h=>ak h λd h1 h=>ba h λkG h2 h E Q q=>by subst h;exact b8 (dO (hx x Yu) e i h1 _ _ λv s1 x1 r1=>l7 e (λy hy=>hx y (Yv _ hy)) (i.ex x1) h2 _ _ λvs s2 x2 r2=>q _ s2 (x1.trans x2) (.cons (r1.ex (i.ex x1).bs (i.ex x1).vo x2) r2)) (dK (mG h1))
theorem qw{x:Expr}(h1:∀y p,x≠.Starred y p)(h2:∀y∈starEach es ag,y.1=false):∀y∈starEach (x::es) ag,y.1=false:=λy hy=>by
 rw[dK h1]at hy;refine Xa (Yw.mp hy) (λq=>xR q rfl) λq=>h2 y q
theorem mH:∀{es:List Expr}{ds:List Dat},FZ Φ sc es ae=Xd ds->∀x∈starEach es ag,x.1=false:=by intro es;induction es with|nil=>intro _ _;exactλx hx=>nomatch hx|cons e es ih=>intro ds h;exact ak h λd h1 h=>ba h λkG h2 h=>qw (i9 h1) (ih h2)
theorem il:∀{es:List Expr}{ds:List Dat},kn Φ sc es ae=Xd ds->∀x∈starEach es ag,x.1=false:=by intro es;induction es with|nil=>intro _ _;exactλx hx=>nomatch hx|cons e es ih=>intro ds h;exact ak h λd h1 h=>ba h λkG h2 h=>qw (mG h1) (ih h2)
theorem iB(h:∀x∈l,x.1=false):(backTo pos l).any (·.1)=false:=by unfold backTo;rw[List.any_map,List.any_eq_false];exactλx hx=>ZS.mp (h x hx)
set_option tactic.hygienic true in
theorem cq(h:args.any (·.1)=false){P:List VO->VY->Prop}(hs:Wp C A (spliced args) P s):Wp C A (evalArgs f true args []) (λa s'=>a.kw=[]/\P a.pos s') s:=by
 intro E Q q;have key:evalArgs f true args []=(spliced args>>=λvs=>holding (vs++[]) (pure ⟨vs,[]⟩)):=by
  unfold evalArgs;rcases args with⟨⟩;case nil=>rfl
  case cons x r=>
   obtain⟨b,t⟩:=x;rcases b with⟨⟩;case true=>simp at h
   case false=>rfl
 refine xR key ?_;exact ab (hs _ _ λvs s1 x1 p1=>az (ao (q _ s1 x1 ⟨rfl,p1⟩)))
set_option tactic.hygienic true in
theorem cf(hf:∀a,f≠.ref a)(P8:args.any (·.1)=false)(h:aP (VB pw Wd) A (evalArgs f true args []) (λa aA=>aP (VB pw Wd) A (VH f (first++a.pos) a.kw) Q E aA) E s):aP (VB pw Wd) A (callWith pos f first args []) Q E s:=by
 unfold callWith;refine ab (az (aE h (λa aA bF=>ab (au ?_)) λy y x=>x));rw[P8];have hk:keeperOf f=pure .machine:=by
  rcases f with⟨⟩;case ref a=>exact absurd rfl (hf a)
  all_goals (rfl)
 rw[hk];refine ab (ao ?_);exact ab (aE bF (λr cx hr=>ab (az (aq <|wpAny_point (ao hr)))) λy y x=>x)
theorem Em(h:asL d=Xd ds):d=.list ds/\ds.length<=aS:=by
 rcases d with⟨⟩;case list=>exact aL h λh1 h=>⟨by exact xR (Xc h) rfl,Xc h▸h1⟩
 all_goals (exact aa h)
set_option tactic.hygienic true in
theorem Hi{x:Expr}(h:dQ Φ sc (x::es) ae=Xd ds):(∃y p xs kG,x=.Starred y p/\xs.length<=aS/\orOwn y ae (ev Φ sc y ae)=Xd (.list xs)/\dQ Φ sc es ae=Xd kG/\xs++kG=ds)\/∃d kG,ev Φ sc x ae=Xd d/\dQ Φ sc es ae=Xd kG/\d::kG=ds:=by
 have plain:((ev Φ sc x ae).map one).bind (λxs=>(dQ Φ sc es ae).map λds=>xs++ds)=Xd ds->∃d kG,ev Φ sc x ae=Xd d/\dQ Φ sc es ae=Xd kG/\d::kG=ds:=λh=>ak h λxs h1 h=>ba h1 λd h1 hx=>ba h λkG h2 h=>⟨d,kG,h1,h2,by rw[<-h,<-hx];rfl⟩;rcases x with⟨⟩;case Starred y p=>exact .inl (ak h λxs h1 h=>ak h1 λd h1 h3=>ba h λkG h2 h=>⟨y,p,xs,kG,rfl,(Em h3).2,(Em h3).1▸h1,h2,h⟩)
 all_goals (exact .inr (plain h))
theorem Ds{pos:Pos}(e:aR ag sc):∀{es:List Expr}{ds:List Dat}{s:VY},(∀x∈es,∀y,(x=y\/∃p,x=.Starred y p)->fz C Φ A y)->In C ai ag ae s->dQ Φ sc es ae=Xd ds->Wp C A (spliced (backTo pos (starEach es ag))) (λvs s'=>aK s'.heap ai vs ds) s
 |[],ds,s,_,i,h=>λE Q q=>ee (q _ _ (.refl s) (Xc h▸.nil))
 |x::es,ds,s,hx,i,h=>λE Q q=>by
  have ih:=λ{s:VY}{kG:List Dat}(i:In C ai ag ae s)(h2:dQ Φ sc es ae=Xd kG)=>Ds (pos:=pos) e (λy hy=>hx y (Yv _ hy)) i h2;refine Xa (Hi h) (λy1=>?_) λy3=>?_
  ·refine de y1 ?_;rintro y p xs kG(rfl)cU h1 y2;(refine aU y2 ?_;rintro h2(rfl));show aP _ A (spliced ((true,eval y ag>>=λv=>standAt pos>>=λz=>pure v)::backTo pos (starEach es ag))) Q E s;refine ab (ab (dO (hx _ Yu y (.inr ⟨p,rfl⟩)) e i h1 _ _ λv s1 x1 r1=>ab (au (ao ?_))));refine de r1.qz ?_;rintro a o vs k(rfl)ho hc y0;refine bD y0 λhn hd P7=>ab (gh (lX ho hc) slot_list_iter.lookup ?_);refine ab (aq <|wpAny_collect_seq a (.inl rfl) ho hc hd (λh' hk=>?_) (by refine xR XS (xR P7.length ?_);exact bK cU));have x2:Ex C s1 {s1 with heap:=h'}:=.of_keep hk rfl rfl;exact ab (az (ih ((i.ex x1).ex x2) h2 _ _ λus s3 x3 r3=>ao (q _ s3 ((x1.trans x2).trans x3) (((P7.ex (i.ex x1).vo x2).ex ((i.ex x1).ex x2).vo x3).append r3))))
  ·refine er y3 ?_;rintro d kG h1 h2(rfl);exact b8 (hx x Yu x (.inl rfl) e i h1 _ _ λv s1 x1 r1=>ih (i.ex x1) h2 _ _ λvs s2 x2 r2=>q _ s2 (x1.trans x2) (.cons (r1.ex (i.ex x1).vo x2) r2)) (dK (i9 h1))
theorem EO:∀(ifs:List Expr),(forIn ifs false λc r=>if r=true then do let ok <-isTrue c ag (eval c ag);pure (ZJ ok)else pure (ZJ r))=(pure false:V0 Bool):=by intro ifs;induction ifs with|nil=>exact rfl|cons c cs ih=>rw[List.forIn_cons];simp only[ZQ,if_false];exact ih
theorem zk(e:aR ag sc):∀{ifs:List Expr}{b:Bool}{s:VY},(∀x∈ifs,jE C Φ A x)->In C ai ag ae s->tJ Φ sc ifs ae=Xd b->Wp C A (forIn ifs true λc r=>if r=true then do let ok <-isTrue c ag (eval c ag);pure (ZJ ok)else pure (ZJ r)) (λt z=>t=b) s
 |[],b,s,_,i,h=>Wp.pure (Xc h)
 |c::cs,b,s,hx,i,h=>ak h λt h1 h E Q q=>by
  rw[List.forIn_cons];refine ab (ab ((hx c Yu:jE C Φ A c) e i h1 _ _ λt' s1 x1 ht=>ao ?_));subst ht;rcases t' with⟨⟩;case true=>exact zk e (λy hy=>hx y (Yv _ hy)) (i.ex x1) h _ _ λu s2 x2 hu=>q u s2 (x1.trans x2) hu
  case false=>have ho:(forIn cs false λc r=>if r=true then do let ok <-isTrue c ag (eval c ag);pure (ZJ ok)else pure (ZJ r))=(pure false:V0 Bool):=EO cs;exact Eq.mpr (Ve (λt=>aP (VB pw Wd) A t Q E s1) ho) (ao (q _ s1 x1 (Xc h)))
theorem eN(h:bV sc x sl ae=Xd aW):aW=(x,sl)::ae:=by
 unfold bV at h;split at h
 ·obtain rfl:=Xc h;rfl
 ·exact aa h
theorem uX:∀(k:Nat){ts:List Expr}{ds:List Dat}{ae:ax}{y:VV}{sl:Slot},ts.length=k->iA sc ts ds ae=Xd aW->(∀t∈ts,∀x p,t=.Name x p->x≠y)->ae.lookup y=Xd sl->aW.lookup y=Xd sl:=by
 intro k;induction k with
 |zero=>
  intro ts ds ae y sl hk hb hy h;refine Xa (dA hb) (λy0=>?_) λy1=>?_
  ·refine bD y0 ?_;rintro(rfl)(rfl)(rfl);exact h
  ·refine yX y1 ?_;rintro x p Dj d kG bX(rfl)_;(rcases hk with⟨⟩)
 |succ k ih=>
  intro ts ds ae y sl hk hb hy h;refine Xa (dA hb) (λy0=>?_) λy1=>?_
  ·refine bD y0 ?_;rintro(rfl)(rfl)(rfl);rcases hk with⟨⟩
  ·refine yX y1 ?_;rintro x p Dj d kG bX(rfl)y2;(refine bD y2 ?_;rintro(rfl)yS Mf);refine ih (by simpa using hk) Mf (λt ht=>hy t (Yv _ ht)) (xR (eN yS) (xR YF ?_));have:=hy _ Yu x p rfl;have hb:(y==x)=false:=by rw[Vf];exactλq=>this q.symm
   refine xR hb h
theorem yC(hb:bL sc t d ae=Xd aW)(hf:freshT ae t=true)(h:ae.lookup y=Xd sl):aW.lookup y=Xd sl:=by
 refine Xa (lT hb) (λy0=>?_) λy1=>?_
 ·refine eT y0 ?_;rintro x p(rfl)hb;refine xR (eN hb) (xR YF ?_);have hx:x≠y:=by rintro rfl;have hf:((ae.lookup x).isNone||false)=true:=hf;replace hf:=h▸hf;rcases hf with⟨⟩
  have hb:(y==x)=false:=by rw[Vf];exactλq=>hx q.symm
  refine xR hb h
 ·refine mq y1 ?_;rintro ts k p ds(rfl)hd hb;refine uX _ rfl hb (λt ht x p e=>?_) h;subst e;rintro rfl;have:=Zw.mp (show ts.all (pJ ae)=true from hf) _ ht;have:(ae.lookup x).isNone=true:=this;replace this:=h▸this;rcases this with⟨⟩
theorem In.less(i:In C ai ag aW s)(h:∀y sl,ae.lookup y=Xd sl->aW.lookup y=Xd sl):In C ai ag ae s:=⟨i.bs,i.vo,λx sl e=>i.lo x sl (h x sl e),i.cells⟩
theorem gL.UZ(x:gL C (λa=>W a\/a=I) s s')(h1:s.heap.get? I=Xe)(h2:C.h₀.get? I=Xe):gL C W s s':=⟨λb o e t f w=>x.keep b o e t f λq=>q.elim w λq=>(by subst q;rw[h1]at e;exact aa e),λb o f w e=>x.nz b o f (λq=>q.elim w λq=>(by subst q;rw[h1]at e;exact aa e)) e,λz w=>x.bs z λa q=>q.elim (w a) λq=>q▸h2⟩
section
variable {Z:Wz->List VO->Prop}
theorem um.data(hz:um Z D)(x:Z h vs):∃o,h.get? D=Xd o/\(∀c,o.data≠.cell c)/\∀fs,o.data≠.fields fs:=by
 refine av (hz.obj x) λo ho q=>⟨o,ho,?_⟩;rcases q with⟨_,_,e⟩|⟨_,_,e⟩
 ·exact⟨Pu e,λfs q=>nomatch e.symm.trans q⟩
 ·exact⟨(λc q=>nomatch e.symm.trans q),λfs q=>nomatch e.symm.trans q⟩
theorem kT.NP(fx:kT C ai ag sc D A)(hz:um Z D)(st:q8 C ai ag sc ae Z s vs aY):¬FW ag sc D:=by
 rintro(q|⟨x,q1,q2⟩)
 ·exact absurd (fx.dL.trans q.symm) (Nat.succ_ne_self D)
 ·obtain⟨_,_,v,o',jH,di⟩:=st.kF.cell x D q1 q2;refine dE (hz.data st.at_) λo ho hn y=>?_;rw[ho]at jH;obtain rfl:=Xc jH;exact hn _ di
theorem q8.d7(hz:um Z D)(st:q8 C ai ag sc ae Z s vs aY):¬C.T D:=by refine dE (hz.data st.at_) λo ho hn y=>st.bO.bs.d7 ho y
theorem q8.ex(hz:um Z D)(fx:kT C ai ag sc D A)(st:q8 C ai ag sc ae Z s vs aY)(x:Ex C s s'):q8 C ai ag sc ae Z s' vs aY:=⟨st.bO.ex x,st.kF.ex st.bO.bs x,hz.keep st.at_ λo e=>x.keep _ _ e (st.d7 hz) fx.nF,st.xh.ex st.bO.vo x⟩
def kr(Φ:fO)(sc:V5)(t:Expr)(ifs:List Expr)(ae:ax)(k:ax->Option (List Dat))(d:Dat):Option (List Dat):=(bL sc t d ae).bind λaW=>(tJ Φ sc ifs aW).bind λc=>bM c (k aW) (Xd [])
noncomputable abbrev AU(ifs:List Expr)(ag:WH)(RK:V0 WB)(c:Code):V0 WB:=(forIn ifs true λc r=>if r=true then do let ok <-isTrue c ag (eval c ag);pure (ZJ ok)else pure (ZJ r))>>=λok=>if ok=true then RK else again c
def rN(C:Cx)(A:W6)(ai:W8->Prop)(ag:WH)(sc:V5)(Z:Wz->List VO->Prop)(D I:W8)(e0:Expr)(depth:Nat)(RK:V0 WB)(k:ax->Option (List Dat)):Prop:=∀{ae:ax}{out aY:List Dat}{vs:List VO}{s:VY},q8 C ai ag sc ae Z s vs aY->k ae=Xd out->aY.length+out.length<=aS->∀(Q:WB->VY->Prop)(E:VO->VY->Prop),(∀s' qj,gL C (CW D ag sc) s s'->q8 C ai ag sc ae Z s' qj (aY++out)->Q (.again (.compLoop e0 depth (.ref I) (.ref D) ag)) s')->aP (VB pw Wd) A RK Q E s
theorem q8.less(st:q8 C ai ag sc aW Z s vs aY)(up:∀y sl,ae.lookup y=Xd sl->aW.lookup y=Xd sl):q8 C ai ag sc ae Z s vs aY:=⟨st.bO.less up,st.kF,st.at_,st.xh⟩
theorem pX{e0:Expr}{RK:V0 WB}(hz:um Z D)(hA:dD C n A)(fx:kT C ai ag sc D A){k:ax->Option (List Dat)}(IU:∀x∈ifs,jE C Φ A x)(o6:freshT ae t=true)(hk:rN C A ai ag sc Z D I e0 depth RK k):ui C A ai ag sc ae Z D I e0 depth t (AU ifs ag RK (.compLoop e0 depth (.ref I) (.ref D) ag)) (kr Φ sc t ifs ae k):=λd out aY vs v s st hf hl r Q E hQ=>ak hf λbX hb hf=>ak hf λc hi hf=>ab (wz hA.handled fx.RH st.bO st.kF hb r λs1 x1 i1 f1 g1=>by
   have ND:q8 C ai ag sc bX Z s1 vs aY:=⟨i1,f1,hz.keep st.at_ λo e=>x1.keep _ _ e (st.d7 hz) fx.nF (fx.NP hz st),st.xh.exw st.bO.vo st.kF.EL x1⟩;have x1':gL C (CW D ag sc) s s1:=x1.mono λa q=>.inr q;refine ab (zk fx.RH IU i1 hi _ _ λb' s2 x2 UD=>?_);subst UD;have O5:=ND.ex hz fx x2;have EE:=x1'.trans x2.KD;have fin:∀s' qj,gL C (CW D ag sc) s s'->q8 C ai ag sc bX Z s' qj (aY++out)->Q (.again (.compLoop e0 depth (.ref I) (.ref D) ag)) s':=λs' qj x z=>hQ s' qj x (z.less λy sl=>yC hb o6);rcases b' with⟨⟩;case false=>obtain rfl:=Xc hf;exact ao (fin s2 vs EE (by refine xR (Zu _) O5))
   case true=>exact hk O5 hf hl Q E λs' qj x z=>fin s' qj (EE.trans x) z)
theorem q8.grown{us:List VO}{es:List Dat}(hz:um Z D)(fx:kT C ai ag sc D A)(jF:q8 C ai ag sc ae Z s vs aY)(r3:aK s.heap ai us es)(hl4:Z h4 (vs++us))(FP:Ww D s.heap h4):gL C (CW D ag sc) s {s with heap:=h4,toks:=k}/\q8 C ai ag sc ae Z {s with heap:=h4,toks:=k} (vs++us) (aY++es):=by
 refine dE (hz.data jF.at_) λoD hoD hnc hnf=>?_;have x4:gL C (CW D ag sc) s {s with heap:=h4,toks:=k}:=gL.same FP.extBut (.inl rfl) (jF.d7 hz) (λq=>(fx.nF q).elim) (λoa qj y t' e1 e2=>by replace e1:=hoD.symm.trans e1;obtain rfl:=Xc e1;exact absurd e2 (hnf _));refine⟨x4,?_⟩;have bs4:=x4.bs jF.bO.bs (fx.new jF.kF);have sX:∀b o,s.heap.get? b=Xd o->b≠D->h4.get? b=Xd o:=λb o e q=>(FP.2 b q).trans e;have nC:∀{b:W8}{o:Obj}{c:Option VO},s.heap.get? b=Xd o->o.data=.cell c->b≠D:=λe hd=>kx (P:=λo=>∃c,o.data=.cell c) e hoD ⟨_,hd⟩ λ⟨_,q⟩=>hnc _ q;refine⟨⟨bs4,⟨jF.bO.vo.tabs,jF.bO.vo.gZ,λa ha=>?_⟩,λy sl hy=>?_,λy c hc=>(eT (jF.bO.cells y c hc) λw o b3 b4=>⟨w,o,sX _ _ b3 (nC b3 b4),b4⟩)⟩,jF.kF.keep λb o e w=>.of (sX b o e λq=>fx.NP hz jF (q▸w)),hl4,(jF.xh.eH fx.vD FP.extBut).append (r3.eH fx.vD FP.extBut)⟩
 ·by_cases q:a=D
  ·cases q;refine av (hz.obj hl4) λo ho x=>⟨o,ho⟩
  ·refine aI (jF.bO.vo.there a ha) λo e=>⟨o,sX a o e q⟩
 ·refine av (jF.bO.lo y sl hy) λw hw hr=>⟨w,hw.keep (λo e hd=>.of (sX _ _ e λq=>absurd (fx.dL.trans q) (Nat.succ_ne_self D))) λb o c e hd=>sX _ _ e (nC e hd),?_⟩
  ·rcases sl with⟨⟩;case val=>exact Rep.eH fx.vD FP.extBut hr
   case own=>refine ZK λhG=>?_;obtain⟨ro,a0,ha0,L4,Qc⟩:=hr;refine hG ?_;have jI:a0≠D:=λq=>Qc (q▸fx.dL);refine⟨?_,a0,ha0,L4,Qc⟩;cases ha0;cases ro with|rep r=>exact .rep (Rep.eH fx.vD FP.extBut r)|list h1 h2 h3 h4' h5=>exact .list (sX _ _ h1 jI) h2 h3 h4' (h5.eH fx.vD FP.extBut)|bg h1 h2 h3=>exact .bg (sX _ _ h1 jI) h2 h3
theorem CJ(xY:fz C Φ A elt)(fx:kT C ai ag sc D A)(kE:gens[depth+1]?=Xe):rN C A ai ag sc (LA D) D I (.ListComp elt gens sc pos) depth (eM elt gens sc pos depth (.ref I) (.ref D) ag) (λvs=>(ev Φ sc elt vs).map one):=λ{ae out aY vs s}st hf hl Q E hQ=>ba hf λd1 hv hf=>by subst hf;unfold eM;refine xR kE (ab (ab (xY fx.RH st.bO hv _ _ λu s3 x3 r3=>?_)));have jF:=st.ex LA.oX fx x3;refine ab (wD jF.at_ (by refine xR jF.xh.length hl) λh4 hl4 FP=>ao (ao ?_));refine aU (jF.grown (k:=s3.toks) LA.oX fx (.cons r3 .nil) hl4 FP) λx4 KO=>hQ _ _ (x3.KD.trans x4) KO
theorem Rep.xD(r:Rep h ai v d)(hd:bP d=Xd ds)(ha:v=.ref a):¬ai a:=by
 subst ha;rcases d with⟨⟩;case list=>refine mq r.qz λb o vs n e hv q=>?_;rcases e with⟨⟩;exact hv
 case tuple=>refine mq r.tuple' λb o vs n e hv q=>?_;rcases e with⟨⟩;exact hv
 case range=>refine mq r.range' λl t u w e hv q=>?_;rcases e with⟨⟩;exact hv
 case bytes=>refine aI r.gH λt e=>?_;(rcases e with⟨⟩)
 case str=>refine aI r.i5 λt e=>?_;(rcases e with⟨⟩)
 all_goals (exact aa hd)
theorem KQ(fx:kT C ai ag sc D A){w:VO}(jF:q8 C ai ag sc ae Z s vs aY)(hit:bP src=Xd ar)(r3:bl s.heap ai w src/\(Rep s.heap ai w src\/∃a,w=.ref a/\ai a/\a+1≠ag.locals)):∀a,w=.ref a->¬(CW D ag sc a\/C.T a\/C.fr a):=by
 rintro a rfl q;refine Xa q (λq=>?_) λq=>r3.1.NO jF.bO.bs jF.bO.vo hit rfl q
 ·have hro:=r3.1;have L3:=fx.cw jF.kF a q;have key:∀{o:Obj}{qj:Array VO}{k:Nat},a≠D->s.heap.get? a=Xd o->o.data=.seq qj k->False:=by
   intro o qj k hn ho hd;refine Xa (q.resolve_left hn) (λq=>?_) λy0=>?_
   ·refine mq jF.kF.ns λm o' es ep jH di y=>?_;rw[<-q,ho]at jH;obtain rfl:=Xc jH;replace di:=hd.symm.trans di;rcases di with⟨⟩
   ·refine av y0 λx q1 q2=>?_;obtain⟨_,_,v',o',jH,di⟩:=jF.kF.cell x a q1 q2;rw[ho]at jH;obtain rfl:=Xc jH;replace di:=hd.symm.trans di;rcases di with⟨⟩
  refine Xa r3.2 (λr=>(r.xD hit rfl) L3) λy0=>?_
  ·refine dE y0 λa' e1 e2 e3=>?_;rcases e1 with⟨⟩;have hn:a≠D:=λq=>e3 (q▸fx.dL);cases hro with|list ho hc Rv hd hr=>exact key hn ho hd|bg ho hc hd=>exact aa hit|rep r=>exact(r.xD hit rfl) L3
theorem Ly(hA:dD C n A)(fx:kT C ai ag sc D A){k:ax->Option (List Dat)}(ZbM:fz C Φ A it)(kE:gens[depth+1]?=Xd ⟨t,it,ifs,0⟩)(ih:∀{ae I},freshT ae t=true->ui C A ai ag sc ae (LA D) D I (.ListComp elt gens sc pos) (depth+1) t (AU ifs ag (eM elt gens sc pos (depth+1) (.ref I) (.ref D) ag) (.compLoop (.ListComp elt gens sc pos) (depth+1) (.ref I) (.ref D) ag)) (kr Φ sc t ifs ae k)):rN C A ai ag sc (LA D) D I (.ListComp elt gens sc pos) depth (eM elt gens sc pos depth (.ref I) (.ref D) ag) (λae=>if(0:Int)=0/\freshT ae t=true then(orOwn it ae (ev Φ sc it ae)).bind λsrc=>(bP src).bind λar=>bN (kr Φ sc t ifs ae k) ar else Xe):=λ{ae out aY vs s}O5 hf hl Q E hQ=>aL hf λo6 hf=>ak hf λsrc lI hf=>ak hf λar hit hf=>by
 have ZbR:=o6.2
 unfold eM
 refine xR kE ?_
 refine ab (vH ZbM fx.RH O5.bO lI _ _ λw s3 x3 r3=>ab (au ?_))
 have jF:=O5.ex LA.oX fx x3
 refine xR (fq (fF lI) _) ?_
 refine ab (ao (ab (az ?_)))
 have Bj:∀a,CW D ag sc a\/C.T a\/C.fr a->∃o,s3.heap.get? a=Xd o:=λa q=>by
  refine Xa q (λq=>jF.bO.vo.there a (fx.cw jF.kF a q)) λq=>jF.bO.vo.there a (jF.bO.vo.tf a q)
 refine oj r3.1 hit Bj (KQ fx jF hit r3) λI' h4 UK Kl xI=>?_
 have x4:Ex C s3 {s3 with heap:=h4}:=.of_keep Kl rfl rfl
 have KO:=jF.ex LA.oX fx x4
 have nT:¬C.T I':=λq=>by refine aI (Bj I' (.inr (.inl q))) λo e=>?_;rw[UK]at e;exact aa e
 have nF:¬C.fr I':=λq=>by refine aI (Bj I' (.inr (.inr q))) λo e=>?_;rw[UK]at e;exact aa e
 have nV:¬ai I':=λq=>by refine aI (jF.bO.vo.there I' q) λo e=>?_;rw[UK]at e;exact aa e
 have n0:C.h₀.get? I'=Xe:=by cases e:C.h₀.get? I' with|none=>rfl|some o=>have:=jF.bO.bs.keep I' o e nT;rw[UK]at this;exact aa this
 have n3:s.heap.get? I'=Xe:=by cases e:s.heap.get? I' with|none=>rfl|some o=>have:=x3.keep I' o e nT nF;rw[UK]at this;exact aa this
 have xa:gL C (CW D ag sc) s s3:=x3.KD
 refine ab (eY ?_ nsm)
 refine oP nj kE xI ?_
 exact qK LA.oX nj (qJ _ _ _ _ _ _ _ _ _ _ _ kE) fx _ n0 nT nV (ih ZbR) ar out aY vs {s3 with heap:=h4} xI KO hf hl λs5 vs5 xw5 NC=>ao (hQ s5 vs5 (gL.UZ (((xa.mono λa q=>.inl q).trans x4.KD).trans xw5) n3 n0) NC)
theorem zy(xY:fz C Φ A elt)(hA:dD C n A)(kQ:∀g∈gens,fz C Φ A g.iter/\∀x∈g.ifs,jE C Φ A x)(fx:kT C ai ag sc D A):∀(rest:List WI)(depth:Nat)(t:Expr)(ifs:List Expr)(ae:ax)(I:W8),gens.drop (depth+1)=rest->(∀x∈ifs,jE C Φ A x)->freshT ae t=true->ui C A ai ag sc ae (LA D) D I (.ListComp elt gens sc pos) depth t (AU ifs ag (eM elt gens sc pos depth (.ref I) (.ref D) ag) (.compLoop (.ListComp elt gens sc pos) depth (.ref I) (.ref D) ag)) (kr Φ sc t ifs ae λvs=>tK Φ sc rest vs λvs=>(ev Φ sc elt vs).map one):=by
 intro rest;induction rest with
 |nil=>exactλdepth t ifs ae I gJ IU o6=>pX LA.oX hA fx IU o6 (CJ xY fx (Y8 (by have:=Ve YU gJ;rw[YR,YM]at this;exact aO 0x91b01891b0c22 this)))
 |cons y0 rest ih=>
  intro depth t ifs ae I gJ IU o6;obtain⟨t',it',TY,a'⟩:=y0;have kE:gens[depth+1]?=Xd ⟨t',it',TY,a'⟩:=by have:=Ve (·[0]?) gJ;rw[Za]at this;exact this
  have Uw:gens.drop (depth+1+1)=rest:=by rw[<-Zo,gJ];rfl
  have hg:=kQ _ (Yo kE);refine pX LA.oX hA fx IU o6 λ{ae out aY vs s}st hf=>?_;have ha:=aL hf λq y=>q.1;subst ha;exact Ly hA fx hg.1 kE (λ{ae I}h=>ih (depth+1) t' TY ae I Uw hg.2 h) st hf
theorem vM(hA:A.handled=Xe)(e:aR ag sc)(i:In C ai ag ae s)(gC:jc sc bC=true)(IG:∀x,foldedSetIterable it ag x=pure x)(lI:Wp C A (eval it ag) (λv s'=>bl s'.heap ai v src) s)(hit:bP src=Xd ar)(f:Dat->Option (List Dat))(hm:bN f ar=Xd out)(hl:out.length<=aS)(step:∀g9 dy D I,kT C g9 dy bC D A->ui C A g9 dy bC (bJ bC ae) (LA D) D I (.ListComp elt (⟨t,it,ifs,0⟩::rest) bC pos) 0 t (AU ifs dy (eM elt (⟨t,it,ifs,0⟩::rest) bC pos 0 (.ref I) (.ref D) dy) (.compLoop (.ListComp elt (⟨t,it,ifs,0⟩::rest) bC pos) 0 (.ref I) (.ref D) dy)) f)(K:∀L D s',Ex C s s'->Rep s'.heap (λa=>ai a\/a=L) (.ref D) (.list out)->s.heap.get? L=Xe->(∃m,s'.heap.Ns L m)->fX (VB pw Wd) A E use Q (.ref D) L (.ok .next) s'):aP (VB pw Wd) A (comprehension (.ListComp elt (⟨t,it,ifs,0⟩::rest) bC pos) bC ag pos' (newList []) false (eval it ag) use) Q E s:=wm nj rfl (λD=>LA.oX) (λq=>aq <|Vm q (by show 0<=sizeLine;decide)) (λe=>⟨_,0,e,rfl,rfl,rfl⟩) rfl (qJ _ _ _ _ _ _ _ _ _ _ _ rfl) hA e i gC IG lI hit f hm hl step (λx n r=>by refine wL x λo k ho hc hn hd=>.list n ho hc hn hd r) K
end
theorem Ms{v i:Expr}(h:∀a b c d,i≠.Slice a b c d):ev Φ sc (.Subscript v i p) ae=(orOwn v ae (ev Φ sc v ae)).bind λa=>(ev Φ sc i ae).bind λi=>ej a i:=by rcases i with⟨⟩<;>first|rfl|exact((h _ _ _ _) rfl).elim
theorem LZ(hO:cA C n)(hA:dD C n A){v i:Expr}(kf:∀a b c d,i≠.Slice a b c d)(hv:fz C Φ A v)(hi:fz C Φ A i)(e:aR ag sc)(j:In C ai ag ae s)(h:ev Φ sc (.Subscript v i p) ae=Xd d):eS C A ai (eval (.Subscript v i p) ag) d s:=ak ((Ms kf).symm.trans h) λa h1 h=>ak h λb h2 h E Q q=>mC (dO hv e j h1 _ _ λu s1 x1 r1=>hi e (j.ex x1) h2 _ _ λw s2 x2 r2=>have j2:=(j.ex x1).ex x2;hO.item hA j2.bs j2.vo (r1.ex (j.ex x1).bs (j.ex x1).vo x2) r2 h kf _ _ λz s3 x3 r3=>q z s3 ((x1.trans x2).trans x3) r3)
set_option tactic.hygienic true in
theorem Nj(h:asI d=Xd l):∃k,d=.int k/\l=Xd k:=by
 rcases d with⟨⟩;case int k=>exact⟨k,rfl,(Xc h).symm⟩
 all_goals (exact aa h)
set_option tactic.hygienic true in
theorem l4{x:Option Expr}(hx:∀y,x=Xd y->fz C Φ A y)(e:aR ag sc)(i:In C ai ag ae s)(h:Ox Φ sc x ae=Xd l):Wp C A (evalPart x ag) (λv z=>Wn v l) s:=by
 rcases x with⟨⟩;case none=>obtain rfl:=Xc h;exact Wp.pure .none
 case some y=>refine ak h λd h1 h=>?_;refine av (Nj h) ?_;rintro k(rfl)(rfl);exact Wp.mono (hx y rfl e i h1) λv s1 x1 r=>by refine aI r.eQ ?_;rintro t(rfl);exact .int _ _
theorem ll(hO:cA C n)(hA:dD C n A){v:Expr}{lo hi st:Option Expr}{q:Pos}{d:Dat}(hv:fz C Φ A v)(h1:∀y,lo=Xd y->fz C Φ A y)(h2:∀y,hi=Xd y->fz C Φ A y)(h3:∀y,st=Xd y->fz C Φ A y)(e:aR ag sc)(j:In C ai ag ae s)(h:ev Φ sc (.Subscript v (.Slice lo hi st q) p) ae=Xd d):eS C A ai (eval (.Subscript v (.Slice lo hi st q) p) ag) d s:=ak h λa ha h=>ak h λl1 e1 h=>ak h λl2 e2 h=>ak h λl3 e3 h E Q k=>mC (dO hv e j ha _ _ λu s1 x1 r1=>have j1:=j.ex x1;EH (l4 h1 e j1 e1 _ _ λv1 s2 x2 p1=>l4 h2 e (j1.ex x2) e2 _ _ λv2 s3 x3 p2=>l4 h3 e ((j1.ex x2).ex x3) e3 _ _ λv3 s4 x4 p3=>by have j4:=((j1.ex x2).ex x3).ex x4;have x5:Ex C s4 {s4 with heap:=s4.heap.push {cls:=.type "slice",data:=.fields #[v1,v2,v3]}}:=.of_keep (λb o e=>Wu _ e) rfl rfl;have xx:=((x2.trans x3).trans x4).trans x5;exact hO.slice hA (j4.ex x5).bs (j4.ex x5).vo (r1.ex j1.bs j1.vo xx) ⟨_,Wt _ rfl,rfl,rfl⟩ p1 p2 p3 h _ _ λz s6 x6 r6=>k z s6 ((x1.trans xx).trans x6) r6))
theorem LK(hy:fz C Φ A y)(e:aR ag sc)(i:In C ai ag ae s)(h:dQ Φ sc [.Starred y p'] ae=Xd ds):Wp C A (evalArgs f true (backTo p (starEach [.Starred y p'] ag)) []) (λx s'=>x.kw=[]/\aK s'.heap ai x.pos ds) s:=ak h λes1 h h0=>ak h λd' h2 h E Q k=>by
  have hd:d'=.list es1/\es1.length<=aS:=by
   rcases d' with⟨⟩;case list l=>exact aL h λhc h=>by obtain rfl:=Xc h;exact⟨rfl,hc⟩
   all_goals (exact aa h)
  refine aU hd ?_;rintro(rfl)cU;obtain rfl:es1=ds:=(Zu es1).symm.trans (Xc h0);delta evalArgs;dsimp only;refine ab (ab (dO hy e i h2 _ _ λv s1 x1 r1=>ab (au (ao (ab (ao (az ?_)))))));refine de r1.qz ?_;rintro b o' vs k'(rfl)jH l9 y0;refine bD y0 λRv di P7=>ab (ao (ab (ab (gh (lX jH l9) slot_list_iter.lookup ?_))));show aP _ A (holding [] (collect (.ref b))) _ E s1;refine az (aq <|wpAny_collect_seq b (.inl rfl) jH l9 di (λh' hk=>?_) (by refine xR XS (xR P7.length ?_);exact bK cU));have x2:Ex C s1 {s1 with heap:=h'}:=.of_keep hk rfl rfl;exact ao (k _ _ (x1.trans x2) ⟨rfl,P7.ex (i.ex x1).vo x2⟩)
theorem Pr:∀{l:List (Bool×V0 VO)},(∀t,l≠[(true,t)])->evalArgs f true l []=(spliced l>>=λvs=>holding (vs++[]) (pure ⟨vs,[]⟩))|[],_=>rfl|(false,_)::_,_=>rfl|[(true,t)],h=>absurd rfl (h t)|(true,_)::_::_,_=>rfl
theorem Hh{p:Pos}:∀es:List Expr,(backTo p (starEach es ag)).length=es.length:=by
 intro es;induction es with
 |nil=>exact rfl
 |cons x es Aj=>
  have ih:=Aj;unfold backTo at ih ⊢;rw[YN]at ih ⊢;by_cases hz:∃y p',x=.Starred y p'
  ·refine kK hz ?_;rintro y p'(rfl);exact Ve (·+1) ih
  ·rw[dK λa b c=>hz ⟨a,b,c⟩];exact Ve (·+1) ih
theorem En(hx:∀x∈args,∀y,(x=y\/∃p,x=.Starred y p)->fz C Φ A y)(e:aR ag sc)(i:In C ai ag ae s)(h1:dQ Φ sc args ae=Xd ds):Wp C A (evalArgs f true (backTo p (starEach args ag)) []) (λx s'=>x.kw=[]/\aK s'.heap ai x.pos ds) s:=by
 by_cases hl:∃y p',args=[.Starred y p']
 ·refine kK hl ?_;rintro y p'(rfl);exact LK (hx _ Yu y (.inr ⟨p',rfl⟩)) e i h1
 ·rw[Pr λt ht=>?_]
  ·exactλE Q k=>ab (Ds e hx i h1 _ _ λvs s1 x1 p1=>az (ao (k _ s1 x1 ⟨rfl,p1⟩)))
  ·have hn:=Hh (p:=p) (ag:=ag) args;rw[ht]at hn
   ·obtain⟨z,rfl⟩:=List.length_eq_one_iff.mp hn.symm;by_cases hz:∃y p',z=.Starred y p'
    ·refine kK hz ?_;rintro y p'(rfl);exact hl ⟨y,p',rfl⟩
    ·rw[dK λa b c=>hz ⟨a,b,c⟩]at ht;have:=Ve (List.map (·.1)) ht;exact nomatch this
theorem UR(hC:C.Ok)(hF:cu C Φ n)(hA:dD C n A)(hx:∀x∈args,∀y,(x=y\/∃p,x=.Starred y p)->fz C Φ A y)(e:aR ag sc)(i:In C ai ag ae s)(hf:sc.names.lookup f=Xd .globalImplicit)(hg:Φ.fn f=Xd g)(h1:dQ Φ sc args ae=Xd ds)(h:g ds=Xd d):eS C A ai (eval (.Call (.Name f q) args [] p) ag) d s:=by refine EA (hF.fn hg) λa o fd hm hd hT ho y0=>aU y0 λUu call=>?_;refineλE Q k=>ab (ma hC e i.bs hf hd hm (iz (En hx e i h1 _ _ λx s1 x1 r1=>⟨⟨(i.ex x1).bs.keep a o ho hT,Uu⟩,?_⟩)));obtain⟨ps,kw⟩:=x;refine aU r1 ?_;rintro(rfl)r1;exact call hA (i.ex x1).bs (i.ex x1).vo r1 h _ _ λv s2 x2 r2=>k v s2 (x1.trans x2) r2
theorem QX(hC:C.Ok)(hF:cu C Φ n)(hA:dD C n A)(hx:∀x∈args,fz C Φ A x)(e:aR ag sc)(i:In C ai ag ae s)(hf:sc.names.lookup f=Xd .globalImplicit)(hg:Φ.uu f=Xd g)(h1:kn Φ sc args ae=Xd ds)(h:g ds=Xd d):eS C A ai (eval (.Call (.Name f q) args [] p) ag) d s:=by refine uw (hF.uu hg) λv hm hb hd hnr call=>?_;refineλE Q k=>ab (dX hC e i.bs hf hd hm hb ?_);have kf:=iB (pos:=p) (il (ag:=ag) h1);refine cf hnr kf (cq kf (l7 e hx i h1) _ _ λx s1 x1 r1=>?_);obtain⟨ps,kw⟩:=x;refine aU r1 ?_;rintro(rfl)r1;exact call hA (i.ex x1).bs (i.ex x1).vo r1 h _ _ λv s2 x2 r2=>k v s2 (x1.trans x2) r2
theorem Jc(kf:l.any (·.1)=false)(hl:m<30):methodCallForm (m+0) l (backToKw p (keywordEach [] ag))=true:=by
 have h1:l.all (!·.1)=true:=by rw[Zw];refineλx hx=>xR (ZS.mpr (List.any_eq_false.mp kf x hx)) ?_;rfl
 show(l.all (!·.1)&&true&&decide (m+0+0<30))=true;refine xR h1 (Vb hl)
theorem t8{o:Expr}(hp:(ap.endLine==p.line)=true):methodCallPos true o ag ap p=pure p:=by unfold methodCallPos;simp only[ZM,Bool.false_or,hp,if_true]
theorem LF(hF:cu C Φ n)(hA:dD C n A){o:Expr}{a:Dat}(ho:fz C Φ A o)(hx:∀x∈args,fz C Φ A x)(e:aR ag sc)(i:In C ai ag ae s)(hb:vB o=true)(hp:(ap.endLine==p.line)=true)(hl:args.length<30)(h0:orOwn o ae (ev Φ sc o ae)=Xd a)(h1:FZ Φ sc args ae=Xd ds)(h:Φ.pB m a ds=Xd d):eS C A ai (eval (.Call (.Attribute o m ap) args [] p) ag) d s:=by
 intro E Q k;have e0:attributeBase o m ag (eval o ag)=eval o ag:=by rcases o with⟨⟩<;>first|rfl|rcases hb with⟨⟩
 show aP _ A (attributeBase o m ag (eval o ag)>>=λov=>standAt ap.atName>>=λy=>methodCall o m ap p ag ov (args.length+0) (backTo p (starEach args ag)) (backToKw p (keywordEach [] ag))) Q E s;refine xR e0 (ab (dO ho e i h0 _ _ λv s1 x1 r1=>ab (au ?_)));have i1:=i.ex x1;refine av (hF.pB h i1.bs i1.vo r1) λid hm call=>?_;have kf:=iB (pos:=p) (mH (ag:=ag) h1);have Jd:methodCallForm (args.length+0) (backTo p (starEach args ag)) (backToKw p (keywordEach [] ag))=true:=Jc kf hl;unfold methodCall;refine xR Jd (ab (az ?_));refine hm _ _ λr s2 x2 hr=>?_;subst hr;refine ab (Eq.mpr (Ve (λt=>aP (VB pw Wd) A t _ E s2) (t8 hp)) (ao ?_));have i2:=i1.ex x2;refine cf (λy q=>by rcases q with⟨⟩) kf (cq kf (jt e hx i2 h1) _ _ λx s3 x3 r3=>?_);obtain⟨ps,kw⟩:=x;refine aU r3 ?_;rintro(rfl)r3;have i3:=i2.ex x3;exact call hA i3.bs i3.vo (r1.ex i1.bs i1.vo (x2.trans x3)) r3 _ _ λv s4 x4 r4=>k v s4 (x1.trans ((x2.trans x3).trans x4)) r4
theorem Ha{x:Expr}{es:List Expr}(h:x∈es):sizeOf x<sizeOf es:=XT h
theorem qk(hO:cA C n)(hA:dD C n A){x:Expr}(hx:fz C Φ A x)(e:aR ag sc)(i:In C ai ag ae s)(he:∀whole,isTrue x ag whole=(do let v <-whole;standAt x.pos;holding [v] (truthy v)))(h:(ev Φ sc x ae).bind kL=Xd b):Wp C A (isTrue x ag (eval x ag)) (λt y=>t=b) s:=ak h λd h1 h E Q q=>o7 (hx e i h1 _ _ λv s1 x1 r1=>hO.tru hA (i.ex x1).bs (i.ex x1).vo (.rep r1) h _ _ λt s2 x2 ht=>q t s2 (x1.trans x2) ht) (he _)
theorem CN(hO:cA C n)(hA:dD C n A)(hl:fz C Φ A l)(hc:∀y∈cs,fz C Φ A y)(e:aR ag sc)(i:In C ai ag ae s)(h:ev Φ sc (.Compare l ops cs p) ae=Xd d):eS C A ai (eval (.Compare l ops cs p) ag) d s:=ak h λa h1 h=>ak h λb h2 h E Q q=>by obtain rfl:=Xc h;exact ab (dO hl e i h1 _ _ λv s1 x1 r1=>(tY hO hA e hc (i.ex x1) r1 h2).1 _ _ λu s2 x2 hu=>hu▸q _ s2 (x1.trans x2) (.bool b))
theorem AI(hO:cA C n)(hA:dD C n A)(hl:fz C Φ A l)(hc:∀y∈cs,fz C Φ A y)(e:aR ag sc)(i:In C ai ag ae s)(h:(orOwn l ae (ev Φ sc l ae)).bind (λa=>oE Φ sc a ops cs ae)=Xd b):Wp C A (isTrue (.Compare l ops cs p) ag (eval (.Compare l ops cs p) ag)) (λt x=>t=b) s:=ak h λa h1 h E Q q=>by exact ab (dO hl e i h1 _ _ λv s1 x1 r1=>(tY hO hA e hc (i.ex x1) r1 h).2 _ _ λu s2 x2 hu=>q _ s2 (x1.trans x2) hu)
theorem IA{b o:Expr}(ht:jE C Φ A t)(hb:fz C Φ A b)(ho:fz C Φ A o)(e:aR ag sc)(i:In C ai ag ae s)(h:ev Φ sc (.IfExp t b o p) ae=Xd d):eS C A ai (eval (.IfExp t b o p) ag) d s:=ak h λc h1 h E Q q=>EI (ht e i h1 _ _ λc' s1 x1 hc=>by
  subst hc;rcases c' with⟨⟩;case true=>exact hb e (i.ex x1) h _ _ λv s2 x2 r2=>q v s2 (x1.trans x2) r2
  case false=>exact ho e (i.ex x1) h _ _ λv s2 x2 r2=>q v s2 (x1.trans x2) r2)
theorem FL{c o:Expr}(ht:jE C Φ A t)(hb:jE C Φ A c)(ho:jE C Φ A o)(e:aR ag sc)(i:In C ai ag ae s)(h:(dT Φ sc t ae (ev Φ sc t ae)).bind (λx=>bM x (dT Φ sc c ae (ev Φ sc c ae)) (dT Φ sc o ae (ev Φ sc o ae)))=Xd b):Wp C A (isTrue (.IfExp t c o p) ag (eval (.IfExp t c o p) ag)) (λt y=>t=b) s:=ak h λx h1 h E Q q=>by
  refine ab (ht e i h1 _ _ λc2 s1 x1 hc=>?_);subst hc;rcases c2 with⟨⟩;case true=>exact hb e (i.ex x1) h _ _ λv s2 x2 r2=>q v s2 (x1.trans x2) r2
  case false=>exact ho e (i.ex x1) h _ _ λv s2 x2 r2=>q v s2 (x1.trans x2) r2
theorem LL(hx:∀y∈es,fz C Φ A y)(e:aR ag sc)(i:In C ai ag ae s)(h:ev Φ sc (.List es p) ae=Xd d):eS C A ai (eval (.List es p) ag) d s:=ak h λds h1 h=>aL h λcU h E Q q=>by obtain rfl:=Xc h;refine zc (jt e hx i h1 _ _ λvs s1 x1 r1=>⟨by rw[r1.length];exact bK cU,?_⟩);have x2:Ex C s1 {s1 with heap:=s1.heap.push {cls:=.type "list",data:=.seq vs.toArray}}:=.of_keep (λb o e=>Wu _ e) rfl rfl;exact q _ _ (x1.trans x2) (.list ((i.ex x1).vo.new (aJ _)) (Wt _ rfl) rfl rfl rfl (r1.ex (i.ex x1).vo x2))
theorem G1(hx:∀y∈es,fz C Φ A y)(e:aR ag sc)(i:In C ai ag ae s)(h:ev Φ sc (.Tuple es j p) ae=Xd d):eS C A ai (eval (.Tuple es j p) ag) d s:=ak h λds h1 h=>aL h λcU h E Q q=>by obtain rfl:=Xc h;refine EG (jt e hx i h1 _ _ λvs s1 x1 r1=>⟨by rw[r1.length];exact bK cU,?_⟩);have x2:Ex C s1 {s1 with heap:=s1.heap.push {cls:=.type "tuple",data:=.seq vs.toArray}}:=.of_keep (λb o e=>Wu _ e) rfl rfl;exact q _ _ (x1.trans x2) (.tuple ((i.ex x1).vo.new (aJ _)) (Wt _ rfl) rfl rfl (r1.ex (i.ex x1).vo x2))
theorem xG(hC:C.Ok)(hF:cu C Φ n)(hA:dD C n A)(hx:∀x∈args,∀y,(x=y\/∃p,x=.Starred y p)->fz C Φ A y)(e:aR ag sc)(i:In C ai ag ae s)(h:ev Φ sc (.Call (.Name f q) args [] p) ae=Xd d):eS C A ai (eval (.Call (.Name f q) args [] p) ag) d s:=by have h':=h;refine aL h' λhg h=>?_;cases hfn:Φ.fn f with|some g=>rw[hfn]at h;exact ak h λds h1 h=>UR hC hF hA hx e i hg.2 hfn h1 h|none=>rw[hfn]at h;exact ak h λg hb h=>ak h λds h1 h=>QX hC hF hA (λy hy=>hx y hy y (.inl rfl)) e i hg.2 hb h1 h
theorem xJ(hF:cu C Φ n)(hA:dD C n A){o:Expr}(ho:fz C Φ A o)(hx:∀x∈args,fz C Φ A x)(e:aR ag sc)(i:In C ai ag ae s)(h:ev Φ sc (.Call (.Attribute o m ap) args [] p) ae=Xd d):eS C A ai (eval (.Call (.Attribute o m ap) args [] p) ag) d s:=aL h λhb h=>ak h λa h1 h=>ak h λds h2 h=>LF hF hA ho hx e i hb.1 hb.2.1 hb.2.2 h1 h2 h
theorem qL(i:In C ai ag ae s)(q:∀a s',Ex C s s'->Rep s'.heap ai a d->Q a s')(L D:W8)(s1:VY)(x1:Ex C s s1)(r1:Rep s1.heap (λa=>ai a\/a=L) (.ref D) d)(hL:s.heap.get? L=Xe)(kf:∃m,s1.heap.Ns L m):fX (VB pw Wd) A E Xe Q (.ref D) L (.ok .next) s1:=by refine aI kf λm Bg=>⟨m,Bg,λh' Am=>?_⟩;refine qP (id Bg) λoL es ep IP Md z=>?_;have hT:=(x1.bs i.bs).d7 IP (by rw[Md];nofun);have x2:gL C (λa=>a=L) s1 {s1 with heap:=h',toks:=s1.toks}:=gL.same Am.extBut rfl hT (λq=>by refine aI (i.vo.there L (i.vo.gZ L q)) λo e=>?_;rw[hL]at e;exact aa e) (λoa vs y t' e1 e2=>by rw[IP]at e1;obtain rfl:=Xc e1;rw[Md]at e2;rcases e2 with⟨⟩);exact q _ {s1 with heap:=h'} ((x1.KD.trans x2).R6 (λa q=>q▸hL) λa q=>q▸hT) ((r1.eH (.inr rfl) Am.extBut).l6 λa q=>.inl q)
theorem z8(hA:dD C n A){a:Int}(xY:fz C Φ A elt)(kQ:∀g∈(⟨t,it,ifs,a⟩::rest:List WI),fz C Φ A g.iter/\∀x∈g.ifs,jE C Φ A x)(e:aR ag sc)(i:In C ai ag ae s)(h:ev Φ sc (.ListComp elt (⟨t,it,ifs,a⟩::rest) bC p) ae=Xd d):eS C A ai (eval (.ListComp elt (⟨t,it,ifs,a⟩::rest) bC p) ag) d s:=aL h λha h=>ak h λsrc lI h=>ak h λar hit h=>ak h λds hm h=>aL h λcU h E Q q=>by
  obtain rfl:=Xc h;refine bD ha ?_;rintro(rfl)gC o6;exact vM hA.handled e i gC (fq (fF lI)) (dO (kQ _ Yu).1 e i lI) hit _ hm cU (λg9 dy D I fx=>zy xY hA kQ fx rest 0 t ifs _ I rfl (kQ _ Yu).2 o6) (qL i q)
theorem dg{x:Expr}(h:m<k+1)(hx:sizeOf x<m):sizeOf x<k:=Xv hx (Nat.le_of_lt_succ h)
theorem iY{es:List Expr}{m:Nat}(h:m<k+1)(he:sizeOf es<m):∀x∈es,sizeOf x<k:=λx hx=>Xr (Ha hx) (Xv he (Nat.le_of_lt_succ h))
theorem Dp{x:Expr}:sizeOf x<sizeOf (Expr.Starred x p):=by simp;exact aO 0x109bb001
set_option tactic.hygienic true in
theorem main(hC:C.Ok)(hO:cA C n)(hF:cu C Φ n)(hA:dD C n A)(k:Nat)(ih:∀x:Expr,sizeOf x<k->fz C Φ A x/\jE C Φ A x)(x:Expr)(hk:sizeOf x<k+1):fz C Φ A x:=by
 intro ag sc ai ae d s e i h;rcases x with⟨⟩;case Constant c j p=>exact AH h
 case Name y p=>exact rC hC hF e i h
 case BinOp l op r p=>exact C1 hO hA (ih l (dg hk (by simp;exact eg 0x32109bbbb001 rfl))).1 (ih r (dg hk (by simp;exact eg 0x30219bbbb001 rfl))).1 e i h
 case UnaryOp op y p=>exact RY hO hA (ih y (dg hk (by simp;exact bj 0x2019bbb001))).1 e i h
 case BoolOp op vs p=>exact wx hO hA e (λy hy=>(ih y (iY hk (by simp;exact bj 0x2019bbb001) y hy)).1) i h
 case Compare l ops cs p=>exact CN hO hA (ih l (dg hk (by simp;exact eg 0x32109bbbb001 rfl))).1 (λy hy=>(ih y (iY hk (by simp;exact eg 0x30219bbbb001 rfl) y hy)).1) e i h
 case IfExp t b o p=>exact IA (ih t (dg hk (by simp;exact eg 0x32109bbbb001 rfl))).2 (ih b (dg hk (by simp;exact eg 0x32019bbbb001 rfl))).1 (ih o (dg hk (by simp;exact eg 0x30219bbbb001 rfl))).1 e i h
 case List es p=>exact LL (λy hy=>(ih y (iY hk (by simp;exact aO 0x109bb001) y hy)).1) e i h
 case Tuple es j p=>exact G1 (λy hy=>(ih y (iY hk (by simp;exact bj 0x2109bbb001) y hy)).1) e i h
 case Subscript v j p=>
  by_cases hs:∃a b c d,j=.Slice a b c d
  ·refine OR hs ?_;rintro lo hi st q(rfl);exact ll hO hA (ih v (dg hk (by simp;exact Bc 0x543219bbbb09bbb001 rfl))).1 (λy hy=>(ih y (dg hk (by subst hy;simp;exact Bc 0x543209b9bbbb19bbb001 rfl))).1) (λy hy=>(ih y (dg hk (by subst hy;simp;exact Bc 0x54309b29bbbb19bbb001 rfl))).1) (λy hy=>(ih y (dg hk (by subst hy;simp;exact Bc 0x5409b329bbbb19bbb001 rfl))).1) e i h
  ·exact LZ hO hA (λa b c d q=>hs ⟨a,b,c,d,q⟩) (ih v (dg hk (by simp;exact bj 0x2109bbb001))).1 (ih j (dg hk (by simp;exact bj 0x2019bbb001))).1 e i h
 case Call f args DN p=>
  have hx:=iY hk (by simp;exact eg 0x32019bbbb001 rfl);rcases DN with⟨⟩;case cons kw DN=>exact aa h
  case nil=>
   rcases f with⟨⟩;case Attribute o m ap=>exact xJ hF hA (ih o (dg hk (by simp;exact uv 0x4932109bbb9bbbb001 rfl))).1 (λy hy=>(ih y (hx y hy)).1) e i h
   case Name g q=>
    refine xG hC hF hA (λy hy z hz=>?_) e i h;refine Xa hz (λhz=>?_) λy0=>?_
    ·exact(ih z (hz▸hx y hy)).1
    ·refine aI y0 λp' hz=>?_;exact(ih z (Xr Dp (hz▸hx y hy))).1
   all_goals (exact aa h)
 case ListComp elt gens bC p=>
  rcases gens with⟨⟩;case nil=>exact aa h
  case cons g rest=>
   obtain⟨t,it,ifs,a⟩:=g;refine z8 hA (ih elt (dg hk (by simp;exact Rh 0x76543219bbbb9bb09bbbb001 rfl))).1 (λg hg=>?_) e i h;have hgs:sizeOf g.iter+sizeOf g.ifs<k:=by
    have h1:=XT hg;obtain⟨a1,a2,a3,a4⟩:=g;simp only[WI.mk.sizeOf_spec]at h1;have h2:sizeOf (⟨t,it,ifs,a⟩::rest:List WI)<sizeOf (Expr.ListComp elt (⟨t,it,ifs,a⟩::rest) bC p):=by simp only[Expr.ListComp.sizeOf_spec];exact eg 0x32019bbbb001 rfl
    exact zA7 0x143b0060654329bbbb091b004 rfl hk h1 h2
   exact⟨(ih _ (Xw (XF _ _) hgs)).1,λy hy=>(ih y (Xr (Ha hy) (Xw (Nat.le_add_left _ _) hgs))).2⟩
 all_goals (exact aa h)
set_option tactic.hygienic true in
theorem Td(hO:cA C n)(hA:dD C n A)(k:Nat)(ih:∀x:Expr,sizeOf x<k->fz C Φ A x/\jE C Φ A x)(x:Expr)(hk:sizeOf x<k+1)(hv:fz C Φ A x):jE C Φ A x:=by
 intro ag sc ai ae b s e i h;rcases x with⟨⟩;case UnaryOp op y p=>
  rcases op with⟨⟩;case Not=>exact ba h λc h1 h E Q q=>rS ((ih y (dg hk (by simp;exact aO 0x1002abb001))).2 e i h1 _ _ λt s1 x1 ht=>q _ s1 x1 (by rw[ht];exact h))
  all_goals (exact qk hO hA hv e i (λz=>rfl) h)
 case BoolOp op vs p=>exactλE Q q=>nJ (Q5 (pos:=p) e (λy hy=>(ih y (iY hk (by simp;exact bj 0x2019bbb001) y hy)).2) i h _ _ q)
 case Compare l ops cs p=>exact AI hO hA (ih l (dg hk (by simp;exact eg 0x32109bbbb001 rfl))).1 (λy hy=>(ih y (iY hk (by simp;exact eg 0x30219bbbb001 rfl) y hy)).1) e i h
 case IfExp t c o p=>exact FL (ih t (dg hk (by simp;exact eg 0x32109bbbb001 rfl))).2 (ih c (dg hk (by simp;exact eg 0x32019bbbb001 rfl))).2 (ih o (dg hk (by simp;exact eg 0x30219bbbb001 rfl))).2 e i h
 all_goals (exact qk hO hA hv e i (λz=>rfl) h)
theorem both(hC:C.Ok)(hO:cA C n)(hF:cu C Φ n)(hA:dD C n A):∀(k:Nat)(x:Expr),sizeOf x<k->fz C Φ A x/\jE C Φ A x:=by intro k;induction k with|zero=>intro x h;exact absurd h (Xn _)|succ k ih=>exactλx h=>⟨main hC hO hF hA k (ih) x h,Td hO hA k (ih) x h (main hC hO hF hA k (ih) x h)⟩
theorem bZ(hC:C.Ok)(hO:cA C n)(hF:cu C Φ n)(hA:dD C n A)(x:Expr):fz C Φ A x:=(both hC hO hF hA _ x (Xs _)).1
theorem md(hC:C.Ok)(hO:cA C n)(hF:cu C Φ n)(hA:dD C n A)(x:Expr):jE C Φ A x:=(both hC hO hF hA _ x (Xs _)).2
inductive Fl where
 |next (ae:ax)
 |brk (ae:ax)
 |cont (ae:ax)
 |ret (d:Dat)
noncomputable def zI(x:Dat):List Dat->Option (List Dat)
 |[]=>Xe
 |y::ys=>match mh y x with
  |some true=>Xd ys|some false=>(zI x ys).map (y::·)|none=>Xe
def sP(m:VV)(a:Dat)(args:List Dat):Option Dat:=match a,args with
 | .list ds,[d]=>if m="append" then(if ds.length+1<=aS then Xd (.list (ds++[d]))else Xe)else if m="extend" then(match d with| .tuple es=>if ds.length+es.length<=aS then Xd (.list (ds++es))else Xe|_=>Xe)else if m="remove" then(if ds.length<=aS then(zI d ds).map .list else Xe)else Xe
 |_,_=>Xe
def jU(a i d:Dat):Option Dat:=match a,i,d with
 | .list ds,.int i,d=>if 0<=i/\i<(ds.length:Int)/\ds.length<=aS then Xd (.list (ds.set i.toNat d))else Xe| .bg b,.int i,.int k=>if 0<=i/\i<(b.length:Int)/\b.length<=aS/\0<=k/\k<256 then Xd (.bg (b.set i.toNat k.toNat.toUInt8))else Xe|_,_,_=>Xe
def qF(Φ:fO)(sc:V5)(e:Expr)(ae:ax):Option (Dat×ax):=match ev Φ sc e ae with
 |some d=>Xd (d,ae)|none=>(ev Φ sc e (bp ae)).map λd=>(d,bp ae)
def yk(Φ:fO)(sc:V5)(e:Expr)(ae:ax):Option (Bool×ax):=match dT Φ sc e ae (ev Φ sc e ae)with
 |some d=>Xd (d,ae)|none=>(dT Φ sc e (bp ae) (ev Φ sc e (bp ae))).map λd=>(d,bp ae)
noncomputable def pH:Expr->Bool| .ListComp .. =>true| .SetComp .. =>true| .DictComp .. =>true|_=>false
noncomputable def isTup:Expr->Bool| .Tuple .. =>true|_=>false
def newD(f:VV)(ds:List Dat):Option Dat:=match ds with
 |[d]=>
  if f="list" then(match d with
   | .list _| .tuple _| .range _ _ _=>(match bP d with|some es=>if es.length<=aS then Xd (.list es)else Xe|none=>Xe)
   |_=>Xe)
  else if f="bytearray" then(match d with
   | .int n=>if 0<=n/\n<=(aS:Int)then Xd (.bg (X0 n.toNat 0))else Xe| .bytes b=>if b.length<=aS then Xd (.bg b)else Xe|_=>Xe)
  else Xe
 |_=>Xe
noncomputable def isNew(Φ:fO)(sc:V5)(ae:ax)(f:VV):Bool:=(f="list"||f="bytearray")&&(ae.lookup f).isNone&&sc.names.lookup f==Xd .globalImplicit&&(Φ.fn f).isNone
noncomputable def yH:Expr->Option (List Expr)| .List es _=>Xd es|_=>Xe
def AS:Expr->Option (VV×List Expr)
 | .Call f args DN _=>match DN with
  |[]=>(asName f).map (·,args)|_=>Xe
 |_=>Xe
set_option tactic.hygienic true in
theorem C7:yH t=Xd ts->∃p,t=.List ts p:=by
 rcases t with⟨⟩;case List us p=>exactλh=>⟨p,Ve (Expr.List · p) (Xc h)⟩
 all_goals exact aa
set_option tactic.hygienic true in
theorem Gd:AS t=Xd z->∃q p,t=.Call (.Name z.1 q) z.2 [] p:=by
 rcases t with⟨⟩;case Call f args DN p=>
  rcases DN with⟨⟩;case nil=>exactλh=>ba h λx h1 h=>(f7 h1).elim λq e=>⟨q,p,by exact xL h (xR e rfl)⟩
  case cons k ks=>exact aa
 all_goals exact aa
noncomputable def EZ(sc:V5)(x:VV)(r:Dat×ax):Option ax:=bV sc x (.val r.1) r.2
def ku(Φ:fO)(sc:V5)(x:VV)(value:Expr)(ae:ax):Option ax:=match yH value with
 |some es=>(FZ Φ sc es ae).bind λds=>if ds.length<=aS then bV sc x (.own (.list ds)) ae else Xe|none=>bM ((AS value).any λz=>z.2.length==1&&isNew Φ sc ae z.1) ((AS value).bind λz=>(kn Φ sc z.2 ae).bind λds=>(newD z.1 ds).bind λd=>bV sc x (.own d) ae) ((qF Φ sc value ae).bind (EZ sc x))
noncomputable def jR(k:ax->Option Fl):Fl->Option Fl| .next ae=>k ae| .cont ae=>k ae| .brk ae=>Xd (.next ae)| .ret d=>Xd (.ret d)
noncomputable def oW(k:ax->Option Fl):Fl->Option Fl| .next ae=>k ae|r=>Xd r
noncomputable def d9(step:Dat->ax->Option Fl):List Dat->ax->Option Fl|[],ae=>Xd (.next ae)|d::ds,ae=>(step d ae).bind (jR (d9 step ds))
def uy(test:ax->Option Bool)(step:ax->Option Fl):Nat->ax->Option Fl|0,_=>Xe|k+1,ae=>(test ae).bind λc=>bM c ((step ae).bind (jR (uy test step k))) (Xd (.next ae))
noncomputable def two:List Expr->Option (Expr×Expr)|[a,b]=>Xd (a,b)|_=>Xe
def yz(e:Expr):Option (VV×Expr×Expr):=(AS e).bind λz=>(two z.2).map (z.1,·)
def mB(Φ:fO)(sc:V5)(it:Expr)(ae:ax):Option (Expr×Expr):=(yz it).bind λz=>if z.1="zip"/\(Φ.uu z.1).isSome=true/\ae.lookup z.1=Xe/\sc.names.lookup z.1=Xd .globalImplicit then Xd z.2 else Xe
noncomputable def lB:Option Fl->Option Fl->Option Fl|some r,_=>Xd r|none,b=>b
noncomputable def ownOf(ae:ax)(x:VV):Option Dat:=match ae.lookup x with
 |some (.own a)=>Xd a|_=>Xe
noncomputable def OO:Dat->Dat->Option (List Dat)| .list xs,.list ys=>Xd (List.zipWith (λx y=>.tuple [x,y]) xs ys)|_,_=>Xe
def uQ(Φ:fO)(sc:V5)(t it:Expr)(k:ax->Option Fl)(ae:ax):Option Fl:=match mB Φ sc it ae with
  |some z=>bM (isTup t) ((ev Φ sc z.1 ae).bind λx=>(ev Φ sc z.2 ae).bind λy=>(OO x y).bind λzs=>d9 (λd vs=>match bL sc t d vs with
      |none=>Xe|some vs=>k vs) zs ae) Xe
  |none=>(qF Φ sc it ae).bind λr=>(bP r.1).bind λar=>d9 (λd vs=>match bL sc t d vs with
      |none=>Xe|some vs=>k vs) ar r.2
set_option genCtorIdx false in
inductive Tg where
 |name (x:VV)|tup|item (x:VV) (i:Expr)|no
def tgt:Expr->Tg
 | .Name x _=>.name x
 | .Tuple .. =>.tup
 | .Subscript o i _=>match asName o with
  |some x=>.item x i|none=>.no
 |_=>.no
noncomputable def TgV(t:Expr):Tg->Prop| .name x=>∃p,t=.Name x p| .tup=>∃ts k q,t=.Tuple ts k q| .item x i=>∃p q,t=.Subscript (.Name x p) i q| .no=>True
set_option tactic.hygienic true in
theorem R7(t:Expr):TgV t (tgt t):=by
 rcases t with⟨⟩;case Name x p=>exact⟨p,rfl⟩
 case Tuple ts k q=>exact⟨ts,k,q,rfl⟩
 case Subscript o i q=>show TgV _ (match asName o with|some x=>.item x i|none=>.no);cases h:asName o with|none=>exact trivial|some x=>exact(f7 h).elim λp e=>⟨p,q,e▸rfl⟩
 all_goals exact trivial
def JR:Expr->Option (VV×VV×List Expr×Pos×Pos)
 | .Call f args DN p=>match DN with
  |[]=>match f with
   | .Attribute o m ap=>(asName o).map (·,m,args,ap,p)|_=>Xe
  |_=>Xe
 |_=>Xe
set_option tactic.hygienic true in
theorem Ge:JR e=Xd z->∃xp,e=.Call (.Attribute (.Name z.1 xp) z.2.1 z.2.2.2.1) z.2.2.1 [] z.2.2.2.2:=by
 rcases e with⟨⟩;case Call f args DN p=>
  rcases DN with⟨⟩;case cons k ks=>exact aa
  case nil=>
   rcases f with⟨⟩;case Attribute o m ap=>exactλh=>ba h λx h1 h=>(f7 h1).elim λq e=>⟨q,by exact xL h (xR e rfl)⟩
   all_goals exact aa
 all_goals exact aa
def v8(Φ:fO)(sc:V5)(t value:Expr)(ae:ax):Option Fl:=match tgt t with
 | .name x=>(ku Φ sc x value ae).map .next| .tup=>bM (pH value||isTup value) Xe ((qF Φ sc value ae).bind λr=>(bL sc t r.1 r.2).map .next)| .item x i=>bM (pH value) Xe ((ownOf ae x).bind λa=>(ev Φ sc value ae).bind λd=>(ev Φ sc i ae).bind λj=>(jU a j d).map λa'=>.next ((x,.own a')::ae))| .no=>Xe
def yh(Φ:fO)(sc:V5)(e:Expr)(ae:ax):Option Fl:=(JR e).bind λz=>if(z.2.2.2.1.endLine==z.2.2.2.2.line)=true/\z.2.2.1.length<30 then(ownOf ae z.1).bind λa=>(FZ Φ sc z.2.2.1 ae).bind λds=>(sP z.2.1 a ds).map λa'=>.next ((z.1,.own a')::ae)else Xe
mutual
def ex(Φ:fO)(Ψ:V5->VW->ax->Option Fl)(sc:V5):VW->ax->Option Fl
 | .Assign ts value _,ae=>match ts with
  |[t]=>v8 Φ sc t value ae
  |_=>Xe
 | .Expr v _,ae=>yh Φ sc v ae
 | .If t b o _,ae=>(yk Φ sc t ae).bind λr=>bM r.1 (cn Φ Ψ sc b r.2) (cn Φ Ψ sc o r.2)
 | .For t it b o _,ae=>match o with
  |[]=>uQ Φ sc t it (λvs=>cn Φ Ψ sc b vs) ae
  |_=>Xe
 | .While t b o _,ae=>match o with
  |[]=>uy (λvs=>dT Φ sc t vs (ev Φ sc t vs)) (λvs=>cn Φ Ψ sc b vs) Φ.fuel ae
  |_=>Xe
 | .Return v _,ae=>match v with
  |some e=>(qF Φ sc e ae).map λr=>.ret r.1
  |none=>Xe
 | .Break _,ae=>Xd (.brk ae)
 |_,_=>Xe
def cn(Φ:fO)(Ψ:V5->VW->ax->Option Fl)(sc:V5):List VW->ax->Option Fl
 |[],ae=>Xd (.next ae)
 |st::sts,ae=>(lB (Ψ sc st ae) (ex Φ Ψ sc st ae)).bind (oW (cn Φ Ψ sc sts))
end
def SV(st:VW):Prop:=(∃t v p,st=.Assign [t] v p)\/(∃v p,st=.Expr v p)\/(∃t b o p,st=.If t b o p)\/(∃t it b p,st=.For t it b [] p)\/(∃t b p,st=.While t b [] p)\/(∃e p,st=.Return (Xd e) p)\/∃p,st=.Break p
set_option tactic.hygienic true in
theorem CG{Φ:fO}{Ψ:V5->VW->ax->Option Fl}{sc:V5}{st:VW}{ae:ax}{fl:Fl}:ex Φ Ψ sc st ae=Xd fl->SV st:=by
 rcases st with⟨⟩;case Assign ts v p=>
  rcases ts with⟨⟩;case nil=>exact aa
  case cons t ts=>cases ts with
   |nil=>exactλx=>.inl ⟨t,v,p,rfl⟩|cons=>exact aa
 case Expr v p=>exactλx=>.inr (.inl ⟨v,p,rfl⟩)
 case If t b o p=>exactλx=>.inr (.inr (.inl ⟨t,b,o,p,rfl⟩))
 case For t it b o p=>
  rcases o with⟨⟩;case nil=>exactλx=>.inr (.inr (.inr (.inl ⟨t,it,b,p,rfl⟩)))
  case cons=>exact aa
 case While t b o p=>
  rcases o with⟨⟩;case nil=>exactλx=>.inr (.inr (.inr (.inr (.inl ⟨t,b,p,rfl⟩))))
  case cons=>exact aa
 case Return v p=>
  rcases v with⟨⟩;case none=>exact aa
  case some e=>exactλx=>.inr (.inr (.inr (.inr (.inr (.inl ⟨e,p,rfl⟩)))))
 case Break p=>exactλx=>.inr (.inr (.inr (.inr (.inr (.inr ⟨p,rfl⟩)))))
 all_goals exact aa
theorem rH{P:Prop}(h:qF Φ sc e ae=Xd r)(h1:ev Φ sc e ae=Xd r.1->r.2=ae->P)(h2:ev Φ sc e (bp ae)=Xd r.1->r.2=bp ae->P):P:=by
 unfold qF at h;cases q:ev Φ sc e ae with
 |some d=>rw[q]at h;obtain rfl:=Xc h;exact h1 q rfl
 |none=>rw[q]at h;exact ba h λd q2 h=>by subst h;exact h2 q2 rfl
theorem vG{a:Dat}(h:ownOf ae x=Xd a):ae.lookup x=Xd (.own a):=by
 unfold ownOf at h;cases q:ae.lookup x with
 |none=>rw[q]at h;exact aa h
 |some sl=>
  rw[q]at h;rcases sl with⟨⟩;case val=>exact aa h
  case own=>exact xR (Xc h) rfl
section
variable {W'':W8->Prop}
structure SS (C:Cx) (aj:W8->Prop) (ag:WH) (sc:V5) (ae:ax) (W:W8->Prop) (ad:VV->W8) (s:VY):Prop where
 bO:In C (λa=>aj a\/W a) ag ae s
 kF:qg C s.heap (λa=>aj a\/W a) ag sc
 fw:∀a,FW ag sc a->W a
 tS:∀a,W a->¬aj a
 tabs:∀a,C.T a->aj a
 gZ:∀a,C.fr a->aj a\/FW ag sc a
 w0:∀a,W a->C.h₀.get? a=Xe
 own:∀x d,ae.lookup x=Xd (.own d)->fI s.heap ag x (.ref (ad x))/\W (ad x)
 apart:∀x y d d',ae.lookup x=Xd (.own d)->ae.lookup y=Xd (.own d')->ad x=ad y->x=y
theorem SS.wT(S:SS C aj ag sc ae W ad s)(a:W8)(h:W a):¬C.T a:=λt=>S.tS a h (S.tabs a t)
structure Mv (C:Cx) (W:W8->Prop) (s:VY) (W':W8->Prop) (s':VY):Prop where
 keep:∀b o,s.heap.get? b=Xd o->¬C.T b->¬C.fr b->¬W b->s'.heap.get? b=Xd o
 nz:∀b o,C.fr b->¬W b->s.heap.get? b=Xd o->f9 s'.heap b o
 ww:∀a,W' a->W a\/(s.heap.get? a=Xe/\¬C.T a)
theorem Mv.refl(s:VY):Mv C W s W s:=⟨λx x e x x x=>e,λx x x x e=>.of e,λx h=>.inl h⟩
theorem Mv.data(x:Mv C W s W' s')(e:s.heap.get? b=Xd o)(t:¬C.T b)(w:¬W b):f9 s'.heap b o:=by
 by_cases f:C.fr b
 ·exact x.nz b o f w e
 ·exact .of (x.keep b o e t f w)
theorem Mv.trans(x:Mv C W s W' s')(y:Mv C W' s' W'' iF):Mv C W s W'' iF:=by
 refine⟨λb o e t f w=>y.keep b o (x.keep b o e t f w) t f λw'=>?_,λb o f w e=>?_,λa h=>?_⟩
 ·refine Xa (x.ww b w') (λq=>w q) λq=>?_
  ·rw[q.1]at e;exact aa e
 ·refine av (x.nz b o f w e) λo1 e1 d1=>?_;refine av (y.nz b o1 f (λw'=>by
   refine Xa (x.ww b w') (λq=>w q) λq=>?_
   ·rw[q.1]at e;exact aa e) e1) λo2 e2 d2=>?_
  exact⟨o2,e2,d2.trans d1⟩
 ·refine Xa (y.ww a h) (λq=>x.ww a q) λq=>?_
  ·by_cases w:W a
   ·exact .inl w
   ·cases e:s.heap.get? a with|none=>exact .inr ⟨rfl,q.2⟩|some o=>refine av (x.data e q.2 w) λo' e' z=>?_;rw[q.1]at e';exact aa e'
theorem Mv.iG(x:Ex C s s'):Mv C W s W s':=⟨λb o e t f y=>x.keep b o e t f,λb o f y e=>x.nz b o f e,λy h=>.inl h⟩
theorem Mv.less(x:Mv C W s W' s')(h:∀a,W'' a->W' a):Mv C W s W'' s':=⟨x.keep,x.nz,λa q=>x.ww a (h a q)⟩
theorem Mv.ofW(x:gL C W' s s')(h:∀a,W' a->W a):Mv C W s W s':=⟨λb o e t f w=>x.keep b o e t f λq=>w (h b q),λb o f w e=>x.nz b o f (λq=>w (h b q)) e,λy q=>.inl q⟩
theorem SS.ex(S:SS C aj ag sc ae W ad s)(x:Ex C s s'):SS C aj ag sc ae W ad s':=⟨S.bO.ex x,S.kF.ex S.bO.bs x,S.fw,S.tS,S.tabs,S.gZ,S.w0,λy d h=>⟨(S.own y d h).1.ex S.bO.bs x,(S.own y d h).2⟩,S.apart⟩
theorem iN:∀{ae:ax},(bp ae).lookup x=Xd sl->∃t,ae.lookup x=Xd t/\sl=t.jm:=by
 intro ae;induction ae with
 |nil=>exactλh=>aa h
 |cons y0 r ih=>
  intro h;obtain⟨y,t⟩:=y0;have e:bp ((y,t)::r)=(y,t.jm)::bp r:=rfl;rw[e,YF]at h;rw[YF];cases hb:x==y with
  |true=>rw[hb]at h;obtain rfl:=Xc h;exact⟨t,rfl,rfl⟩
  |false=>rw[hb]at h;exact ih h
theorem bl.obj(r:bl h ai (.ref a) d)(hd:(∃ds,d=.list ds)\/∃b,d=.bg b):∃o,h.get? a=Xd o/\((∃vs n,o.data=.seq vs n)\/∃b n,o.data=.bytearray b n):=by
 cases r with
 |list ho hc hn di hr=>exact⟨_,ho,.inl ⟨_,_,di⟩⟩
 |bg ho hc di=>exact⟨_,ho,.inr ⟨_,_,di⟩⟩
 |rep r=>
  cases r with
  |list hv ho hc hn di hr=>exact⟨_,ho,.inl ⟨_,_,di⟩⟩
  |tuple hv ho hc di hr=>exact⟨_,ho,.inl ⟨_,_,di⟩⟩
  |bg hv ho hc di=>exact⟨_,ho,.inr ⟨_,_,di⟩⟩
  |range=>rcases hd with⟨_,e⟩|⟨_,e⟩<;>(rcases e with⟨⟩)
  |dict=>rcases hd with⟨_,e⟩|⟨_,e⟩<;>(rcases e with⟨⟩)
  |top=>rcases hd with⟨_,e⟩|⟨_,e⟩<;>rcases e with⟨⟩
theorem qg.H4(f:qg C s.heap ai ag sc)(ho:s.heap.get? a=Xd o)(hd:(∃vs n,o.data=.seq vs n)\/∃b n,o.data=.bytearray b n):¬FW ag sc a:=by
 rintro(q|⟨x,q1,q2⟩)
 ·refine mq f.ns λm o' es ep jH di y=>?_;rw[<-q,ho]at jH;obtain rfl:=Xc jH;rcases hd with⟨_,_,e⟩|⟨_,_,e⟩<;>(replace di:=e▸di;rcases di with⟨⟩)
 ·obtain⟨_,_,v,o',jH,di⟩:=f.cell x a q1 q2;rw[ho]at jH;obtain rfl:=Xc jH;rcases hd with⟨_,_,e⟩|⟨_,_,e⟩<;>(replace di:=e▸di;rcases di with⟨⟩)
theorem fI.unique(a:fI h ag x v)(b:fI h ag x v'):v=v':=by
 revert a b;refine xA5 U8 ?_ v v' x ag h;generalize gE _ _=tt;dsimp only[K5];generalize tt.1.1.1=v,tt.1.1.2=v',tt.1.2=x,tt.2.1=ag,tt.2.2=h;refineλa b=>bD a λy y a=>bD b λy y b=>?_;rcases a with⟨k,m,hm,e⟩|⟨k,c,hc,o,ho,e⟩<;>rcases b with⟨k',m',Bg,e'⟩|⟨k',c',l9,o',jH,e'⟩
 ·rw[Ns.unique hm Bg,e']at e;exact(Xc e).symm
 ·refine Xa k' (λk'=>?_) λk'=>?_<;>(replace k':=k.symm.trans k';rcases k' with⟨⟩)
 ·refine Xa k (λk=>?_) λk=>?_<;>(replace k':=k▸k';rcases k' with⟨⟩)
 ·rw[hc]at l9;obtain rfl:=Xc l9;rw[ho]at jH;obtain rfl:=Xc jH;replace e':=e.symm.trans e';rcases e' with⟨⟩;rfl
def dC(ae:ax):Prop:=∀x d,ae.lookup x=Xd (.own d)->(∃ds,d=.list ds)\/∃b,d=.bg b
theorem SS.jm(S:SS C aj ag sc ae W ad s)(hO:dC ae):SS C aj ag sc (bp ae) (FW ag sc) ad s:=by
 have hv:∀a,(aj a\/FW ag sc a)->(aj a\/W a):=λa q=>q.imp id (S.fw a);refine⟨⟨S.bO.bs,⟨λa t=>.inl (S.tabs a t),S.gZ,λa q=>S.bO.vo.there a (hv a q)⟩,λx sl h=>?_,S.bO.cells⟩,⟨S.kF.ns,.inr (.inl rfl),S.kF.fl,λx c h1 h2=>⟨.inr (.inr ⟨x,h1,h2⟩),(S.kF.cell x c h1 h2).2⟩⟩,λz h=>h,λa h=>S.tS a (S.fw a h),S.tabs,S.gZ,λa h=>S.w0 a (S.fw a h),λx d h=>?_,λx y d d' h=>?_⟩
 ·refine av (iN h) ?_;rintro t h1(rfl);refine av (S.bO.lo x t h1) λv hh hr=>⟨v,hh,?_⟩;rcases t with⟨⟩;case val=>exact Rep.l6 hv hr
  case own=>
   obtain⟨ro,a,rfl,Rq,_⟩:=hr;have ha:a=ad x:=by cases hh.unique (S.own x d h1).1;rfl
   have hW:=ha▸(S.own x d h1).2;refine av (ro.obj (hO x d h1)) λo' jH di=>?_;have hnv:¬(aj a\/FW ag sc a):=λq=>q.elim (S.tS a hW) (S.kF.H4 jH di);cases ro with|list ho hc hn hd hr=>exact .list hnv ho hc hn hd (aK.l6 hv hr)|bg ho hc hd=>exact .bg hnv ho hc hd|rep r=>exact Rep.l6 hv r
 ·refine av (iN h) λt h1 e=>?_;rcases t with⟨⟩<;>rcases e with⟨⟩
 ·refine av (iN h) λt h1 e=>?_;rcases t with⟨⟩<;>rcases e with⟨⟩
theorem dC.jm(ae:ax):dC (bp ae):=λx d h=>by refine av (iN h) λt h1 e=>?_;rcases t with⟨⟩<;>rcases e with⟨⟩
set_option tactic.hygienic true in
theorem yn{x:Expr}(hE:fz C Φ A x)(e:aR ag sc)(S:SS C aj ag sc ae W ad s)(hO:dC ae)(h:qF Φ sc x ae=Xd (d,aW))(hQ:∀v s' W',Ex C s s'->Mv C W s W' s'->SS C aj ag sc aW W' ad s'->dC aW->Rep s'.heap (λa=>aj a\/W' a) v d->Q v s'):aP (VB pw Wd) A (eval x ag) Q E s:=by
 unfold qF at h;split at h
 ·rename_i d' h1;refine ZK λhG=>?_;rcases h with⟨⟩;refine hG ?_;exact hE e S.bO h1 _ _ λv s1 x1 r1=>hQ v s1 W x1 (.iG x1) (S.ex x1) hO r1
 ·cases h1:ev Φ sc x (bp ae)with
  |none=>rw[h1]at h;exact aa h
  |some d'=>replace h:=h1▸h;refine ZK λhG=>?_;rcases h with⟨⟩;refine hG ?_;have S1:=S.jm hO;exact hE e S1.bO h1 _ _ λv s1 x1 r1=>hQ v s1 _ x1 ((Mv.iG x1).less S.fw) (S1.ex x1) (.jm ae) r1
set_option tactic.hygienic true in
theorem Mt{x:Expr}(hE:jE C Φ A x)(e:aR ag sc)(S:SS C aj ag sc ae W ad s)(hO:dC ae)(h:yk Φ sc x ae=Xd (b,aW)){Q:Bool->VY->Prop}(hQ:∀s' W',Mv C W s W' s'->SS C aj ag sc aW W' ad s'->dC aW->Q b s'):aP (VB pw Wd) A (isTrue x ag (eval x ag)) Q E s:=by
 unfold yk at h;split at h
 ·rename_i d' h1;refine ZK λhG=>?_;rcases h with⟨⟩;refine hG ?_;exact hE e S.bO h1 _ _ λv s1 x1 r1=>r1▸hQ s1 W (.iG x1) (S.ex x1) hO
 ·cases h1:dT Φ sc x (bp ae) (ev Φ sc x (bp ae))with
  |none=>rw[h1]at h;exact aa h
  |some d'=>replace h:=h1▸h;refine ZK λhG=>?_;rcases h with⟨⟩;refine hG ?_;have S1:=S.jm hO;exact hE e S1.bO h1 _ _ λv s1 x1 r1=>r1▸hQ s1 _ ((Mv.iG x1).less S.fw) (S1.ex x1) (.jm ae)
theorem aC(h:y≠x):((x,sl)::ae).lookup y=ae.lookup y:=by
 rw[YF];have:(y==x)=false:=by rw[Vf];exact h
 rw[this]
theorem aQ:((x,sl)::ae).lookup x=Xd sl:=by rw[YF];simp
theorem fo(e:aR ag sc)(S:SS C aj ag sc ae W ad s)(hO:dC ae)(hb:bV sc x (.val d) ae=Xd aW)(r:Rep s.heap (λa=>aj a\/W a) v d){Q:Unit->VY->Prop}(hQ:∀s',Mv C W s W s'->SS C aj ag sc aW W ad s'->dC aW->gL C (FW ag sc) s s'->Q () s'):aP (VB pw Wd) A (bindName ag x v) Q E s:=by
 have hv:=eN hb;refine nO e S.bO S.kF hb r λs1 x1 i1 f1 g1 g2=>hQ s1 (.ofW x1 S.fw) ⟨i1,f1,S.fw,S.tS,S.tabs,S.gZ,S.w0,λy d' hy=>?_,λy z d1 d2 hy hz=>?_⟩ (λy d' hy=>?_) x1;all_goals subst hv
 ·have jI:y≠x:=by rintro rfl;rw[aQ]at hy;rcases hy with⟨⟩
  rw[aC jI]at hy;exact⟨g1 y _ jI (S.own y d' hy).1,(S.own y d' hy).2⟩
 ·have hy':y≠x:=by rintro rfl;replace hy:=aQ.symm.trans hy;rcases hy with⟨⟩
  have GD:z≠x:=by rintro rfl;replace hz:=aQ.symm.trans hz;rcases hz with⟨⟩
  rw[aC hy']at hy;rw[aC GD]at hz;exact S.apart y z d1 d2 hy hz
 ·have jI:y≠x:=by rintro rfl;rw[aQ]at hy;rcases hy with⟨⟩
  rw[aC jI]at hy;exact hO y d' hy
theorem C0:∀(k:Nat){ts:List Expr}{ds:List Dat}{ae:ax}{y:VV}{d:Dat},ts.length=k->iA sc ts ds ae=Xd aW->aW.lookup y=Xd (.own d)->(∀t∈ts,∀x p,t=.Name x p->y≠x)/\ae.lookup y=Xd (.own d):=by
 intro k;induction k with
 |zero=>
  intro ts ds ae y d hk hb h;refine Xa (dA hb) (λy0=>?_) λy1=>?_
  ·refine bD y0 ?_;rintro(rfl)(rfl)(rfl);exact⟨λt ht=>(nomatch ht),h⟩
  ·refine yX y1 ?_;rintro x p Dj d kG bX(rfl)_;(rcases hk with⟨⟩)
 |succ k ih=>
  intro ts ds ae y d hk hb h;refine Xa (dA hb) (λy0=>?_) λy1=>?_
  ·refine bD y0 ?_;rintro(rfl)(rfl)(rfl);rcases hk with⟨⟩
  ·refine yX y1 ?_;rintro x p Dj d' kG bX(rfl)y2;(refine bD y2 ?_;rintro(rfl)yS Mf);refine aU (ih (by simpa using hk) Mf h) λh1 h2=>?_;have hv:=eN yS;subst hv;have jI:y≠x:=by rintro rfl;replace h2:=aQ.symm.trans h2;rcases h2 with⟨⟩
   rw[aC jI]at h2;refine⟨λt ht z q e=>?_,h2⟩;refine Xa (Yw.mp ht) (λy0=>?_) λht=>h1 t ht z q e
   ·obtain rfl:=y0;rcases e with⟨⟩;exact jI
theorem mj(hb:bL sc t d ae=Xd aW)(h:aW.lookup y=Xd (.own d')):NotIn y t/\ae.lookup y=Xd (.own d'):=by
 refine Xa (lT hb) (λy0=>?_) λy1=>?_
 ·refine eT y0 ?_;rintro x p(rfl)hb;have hv:=eN hb;subst hv;have jI:y≠x:=by rintro rfl;replace h:=aQ.symm.trans h;rcases h with⟨⟩
  rw[aC jI]at h;exact⟨jI,h⟩
 ·refine mq y1 ?_;rintro ts k p ds(rfl)hd hb;exact C0 _ rfl hb h
theorem jT(hA:A.handled=Xe)(e:aR ag sc)(S:SS C aj ag sc ae W ad s)(hO:dC ae)(hb:bL sc t d ae=Xd aW)(r:Rep s.heap (λa=>aj a\/W a) v d){Q:Unit->VY->Prop}(hQ:∀s',Mv C W s W s'->SS C aj ag sc aW W ad s'->dC aW->Q () s'):aP (VB pw Wd) A (assign t ag v) Q E s:=by
 refine wz hA e S.bO S.kF hb r λs1 x1 i1 f1 g1=>hQ s1 (.ofW x1 S.fw) ⟨i1,f1,S.fw,S.tS,S.tabs,S.gZ,S.w0,λy d' hy=>(aU (mj hb hy) λh1 h2=>⟨g1 y _ h1 (S.own y d' h2).1,(S.own y d' h2).2⟩),λy z d1 d2 hy hz=>S.apart y z d1 d2 (mj hb hy).2 (mj hb hz).2⟩ λy d' hy=>hO y d' (mj hb hy).2
theorem DH(e:aR ag sc)(S:SS C aj ag sc ae W ad s)(hO:dC ae)(x1:Ex C s s')(ha:s.heap.get? a=Xe)(hsz:s.heap.objs.size<=a)(hb:bV sc x (.own d) ae=Xd aW)(r:bl s'.heap (λb=>aj b\/(W b\/b=a)) (.ref a) d)(hd:(∃ds,d=.list ds)\/∃b,d=.bg b){Q:Unit->VY->Prop}(hQ:∀iF C9,Mv C W s (λb=>W b\/b=a) iF->SS C aj ag sc aW (λb=>W b\/b=a) C9 iF->dC aW->Q () iF):aP (VB pw Wd) A (bindName ag x (.ref a)) Q E s':=by
 revert A E aW e S hO x1 ha hsz hb r hd hQ;refine no_implicit_lambda% (rR (bT (bT (bT (bT pA zS) (bT pA NQ)) U8) U8) ?_ s C s' d W aj a ag ae sc ad x Q);generalize gE _ _=tt;dsimp only[Gy];generalize tt.1.1.1.1=s,tt.1.1.1.2=C,tt.1.1.2.1=s',tt.1.1.2.2=d,tt.1.2.1.1=W,tt.1.2.1.2=aj,tt.1.2.2=a,tt.2.1.1.1=ag,tt.2.1.1.2=ae,tt.2.1.2=sc,tt.2.2.1.1=ad,tt.2.2.1.2=x,tt.2.2.2=Q;intro A E aW e S hO x1 ha hsz hb r hd hQ;have wu:=x1.bs S.bO.bs;refine av (r.obj hd) λoa uq Cu=>?_;have nv:=S.bO.vo.new ha;have nT:=λt=>nv (.inl (S.tabs a t));have n0:C.h₀.get? a=Xe:=by cases q:C.h₀.get? a with|none=>rfl|some o=>have:=S.bO.bs.keep a o q nT;rw[ha]at this;exact aa this
 have hL:ag.locals<s.heap.objs.size:=by refine aI S.kF.ns λm hm=>hm.lt
 have up:∀{v:VO}{d:Dat},Rep s.heap (λb=>aj b\/W b) v d->Rep s'.heap (λb=>aj b\/(W b\/b=a)) v d:=λr=>r.mono λb o q nn=>⟨x1.keep b o q (λt=>nn (.inl (S.tabs b t))) λt=>nn ((S.gZ b t).imp id (S.fw b)),λz=>z.elim (λz=>nn (.inl z)) λz=>z.elim (λz=>nn (.inr z)) λz=>by cases z;replace q:=ha.symm.trans q;exact aa q⟩;have ups:∀{v:List VO}{d:List Dat},aK s.heap (λb=>aj b\/W b) v d->aK s'.heap (λb=>aj b\/(W b\/b=a)) v d:=λr=>r.mono λb o q nn=>⟨x1.keep b o q (λt=>nn (.inl (S.tabs b t))) λt=>nn ((S.gZ b t).imp id (S.fw b)),λz=>z.elim (λz=>nn (.inl z)) λz=>z.elim (λz=>nn (.inr z)) λz=>by cases z;rw[ha]at q;exact aa q⟩;have i1:=S.bO.ex x1;have i2:In C (λb=>aj b\/(W b\/b=a)) ag ae s':=by
  refine⟨wu,⟨λb t=>.inl (S.tabs b t),λb t=>(S.gZ b t).imp id λq=>.inl (S.fw b q),λb q=>?_⟩,λy sl hy=>?_,i1.cells⟩
  ·refine Xa q (λq=>?_) λy1=>?_
   ·exact i1.vo.there b (.inl q)
   refine Xa y1 (λq=>i1.vo.there b (.inr q)) λy0=>?_
   ·obtain rfl:=y0;exact⟨oa,uq⟩
  ·refine av (S.bO.lo y sl hy) λv hh hr=>⟨v,hh.ex S.bO.bs x1,?_⟩;rcases sl with⟨⟩;case val=>exact up hr
   case own=>obtain⟨ro,b,rfl,hvb,hlb⟩:=hr;refine⟨?_,b,rfl,hvb.elim .inl λq=>.inr (.inl q),hlb⟩;cases ro with|rep r=>exact .rep (up r)|list ho hc hn hd hr=>exact .list (x1.keep _ _ ho (S.bO.bs.d7 ho (by refine xR hd ?_;nofun)) (S.bO.bs.fG ho (by refine xR hd ?_;nofun))) hc hn hd (ups hr)|bg ho hc hd=>exact .bg (x1.keep _ _ ho (S.bO.bs.d7 ho (by refine xR hd ?_;nofun)) (S.bO.bs.fG ho (by refine xR hd ?_;nofun))) hc hd
 have f1:=S.kF.ex S.bO.bs x1;have f2:qg C s'.heap (λb=>aj b\/(W b\/b=a)) ag sc:=⟨f1.ns,.inr (.inl (S.fw _ (.inl rfl))),f1.fl,λy c h1 h2=>⟨.inr (.inl (S.fw _ (.inr ⟨y,h1,h2⟩))),(f1.cell y c h1 h2).2⟩⟩;have hv:=eN hb;refine nO e i2 f2 hb ⟨r,a,rfl,.inr (.inr rfl),λq=>?_⟩ λs2 x2 i3 f3 g1 g2=>?_
 ·have:a<ag.locals:=by refine xL q (Xs a)
  exact absurd (Xr this hL) (Nat.not_lt.mpr hsz)
 ·refine hQ s2 (λy=>if y=x then a else ad y) ?_ ⟨i3,f3,λb q=>.inl (S.fw b q),λb q=>q.elim (S.tS b) λq=>q▸λz=>nv (.inl z),S.tabs,S.gZ,λb q=>q.elim (S.w0 b) λq=>q▸n0,λy d' hy=>?_,λy z d1 d2 hy hz=>?_⟩ λy d' hy=>?_
  ·refine⟨λb o q t f w=>x2.keep b o (x1.keep b o q t f) t f λz=>w (S.fw b z),λb o f w e=>?_,λb q=>q.elim .inl λq=>.inr (q▸⟨ha,nT⟩)⟩;refine av (x1.nz b o f e) λo1 e1 d1=>av (x2.nz b o1 f (λz=>w (S.fw b z)) e1) λo2 e2 d2=>⟨o2,e2,d2.trans d1⟩
  all_goals subst hv
  ·by_cases q:y=x
   ·subst q;refine xR (Vh rfl) ⟨g2,.inr rfl⟩
   ·rw[aC q]at hy;refine xR (Vg q) ⟨g1 y _ q ((S.own y d' hy).1.ex S.bO.bs x1),.inl (S.own y d' hy).2⟩
  ·intro Rp;by_cases q:y=x<;>by_cases q':z=x
   ·exact xR q (xR q' rfl)
   ·rw[aC q']at hz;rw[Vh q,Vg q']at Rp;exact absurd (.inr (Rp▸(S.own z d2 hz).2)) nv
   ·rw[aC q]at hy;rw[Vg q,Vh q']at Rp;exact absurd (.inr (Rp▸(S.own y d1 hy).2)) nv
   ·rw[aC q]at hy;rw[aC q']at hz;rw[Vg q,Vg q']at Rp;exact S.apart y z d1 d2 hy hz Rp
  ·by_cases q:y=x
   ·subst q;replace hy:=aQ.symm.trans hy;rcases hy with⟨⟩;exact hd
   ·rw[aC q]at hy;exact hO y d' hy
set_option tactic.hygienic true in
theorem CV{t:Nat}(S:SS C aj ag sc ae W ad s)(hO:dC ae)(hx:ae.lookup x=Xd (.own d))(hs:Ww (ad x) s.heap h')(r:bl h' (λb=>aj b\/W b) (.ref (ad x)) d')(hd:(∃ds,d'=.list ds)\/∃b,d'=.bg b):Mv C W s W {s with heap:=h',toks:=t}/\SS C aj ag sc ((x,.own d')::ae) W ad {s with heap:=h',toks:=t}/\dC ((x,.own d')::ae):=by
 revert S hO hx hs r hd;refine rR (bT (bT (bT (bT pA zS) (bT NQ NQ)) U8) U8) ?_ s C d' d aj W ad ag h' ae x t sc;generalize gE _ _=tt;dsimp only[Gy];generalize tt.1.1.1.1=s,tt.1.1.1.2=C,tt.1.1.2.1=d',tt.1.1.2.2=d,tt.1.2.1.1=aj,tt.1.2.1.2=W,tt.1.2.2=ad,tt.2.1.1.1=ag,tt.2.1.1.2=h',tt.2.1.2=ae,tt.2.2.1.1=x,tt.2.2.1.2=t,tt.2.2.2=sc;intro S hO hx hs r hd;refine aU (S.own x d hx) λhh hW=>?_;obtain⟨v,hv,ro,a,rfl,Rq,Ur⟩:=S.bO.lo x (.own d) hx;have haa:a=ad x:=by cases hv.unique hh;rfl
 subst haa;refine av (ro.obj (hO x d hx)) λoa uq Cu=>?_;have nF:=S.kF.H4 uq Cu;have nT:=S.wT _ hW;have nR:=S.bO.bs.fG uq λes k q=>by rcases Cu with⟨_,_,e⟩|⟨_,_,e⟩<;>(rw[e]at q;rcases q with⟨⟩)
 have xw:gL C W s {s with heap:=h',toks:=t}:=gL.same hs.extBut hW nT (λq=>(nR q).elim) (λo vs y t' e1 e2=>by rw[uq]at e1;obtain rfl:=Xc e1;rcases Cu with⟨_,_,q⟩|⟨_,_,q⟩<;>(rw[q]at e2;rcases e2 with⟨⟩));have odd:∀{b:W8}{o:Obj},s.heap.get? b=Xd o->Odd o->b≠ad x:=λe o=>kx e uq o λq=>by rcases q with⟨_,_,q⟩|⟨_,q⟩<;>rcases Cu with⟨_,_,q'⟩|⟨_,_,q'⟩<;>exact nomatch q.symm.trans q'
 have tj:∀{y:VV}{w:VO},fI s.heap ag y w->fI h' ag y w:=λH=>H.keep (λo e hd=>.of ((hs.2 _ (odd e (.inl hd))).trans e)) λb o c e hd=>(hs.2 _ (odd e (.inr ⟨c,hd⟩))).trans e;have va:(λb=>aj b\/W b) (ad x):=.inr hW;refine av (r.obj hd) λoa' ZbC u=>?_;refine⟨.ofW xw λu q=>q,⟨⟨xw.bs S.bO.bs S.w0,⟨λb q=>.inl (S.tabs b q),λb q=>(S.gZ b q).imp id (S.fw b),λb q=>?_⟩,λy sl hy=>?_,λy c hc=>?_⟩,S.kF.keep λb o q z=>.of ((hs.2 b λw=>nF (w▸z)).trans q),S.fw,S.tS,S.tabs,S.gZ,S.w0,λy d1 hy=>?_,λy z d1 d2 hy hz=>?_⟩,λy d1 hy=>?_⟩
 ·by_cases w:b=ad x
  ·exact⟨oa',w▸ZbC⟩
  ·refine aI (S.bO.vo.there b q) λo e=>?_;exact⟨o,(hs.2 b w).trans e⟩
 ·by_cases q:y=x
  ·subst q;rw[aQ]at hy;obtain rfl:=Xc hy;exact⟨_,tj hh,r,ad y,rfl,va,Ur⟩
  ·rw[aC q]at hy;refine av (S.bO.lo y sl hy) λw hw hr=>?_;refine⟨w,tj hw,?_⟩;rcases sl with⟨⟩;case val d1=>exact Rep.eH va hs.extBut hr
   case own d1=>
    obtain⟨ro1,b,rfl,hvb,hlb⟩:=hr;have hb:b=ad y:=by cases hw.unique (S.own y d1 hy).1;rfl
    have jI:=λz=>q (S.apart y x d1 d hy hx (hb▸z));refine⟨?_,b,rfl,hvb,hlb⟩;cases ro1 with|rep r=>exact .rep (Rep.eH va hs.extBut r)|list ho hc hn hd hr=>exact .list ((hs.2 _ jI).trans ho) hc hn hd (hr.eH va hs.extBut)|bg ho hc hd=>exact .bg ((hs.2 _ jI).trans ho) hc hd
 ·refine eT (S.bO.cells y c hc) λw o b3 b4=>?_;exact⟨w,o,(hs.2 _ (odd b3 (.inr ⟨_,b4⟩))).trans b3,b4⟩
 ·by_cases q:y=x
  ·subst q;exact⟨tj hh,hW⟩
  ·rw[aC q]at hy;exact⟨tj (S.own y d1 hy).1,(S.own y d1 hy).2⟩
 ·have key:∀{y:VV}{d1:Dat},((x,Slot.own d')::ae).lookup y=Xd (.own d1)->∃d2,ae.lookup y=Xd (.own d2):=λ{y d1}hy=>by
   by_cases q:y=x
   ·exact⟨d,q▸hx⟩
   ·rw[aC q]at hy;exact⟨d1,hy⟩
  refine aI (key hy) λe1 hy=>?_;refine aI (key hz) λe2 hz=>?_;exact S.apart y z e1 e2 hy hz
 ·by_cases q:y=x
  ·subst q;rw[aQ]at hy;rcases hy with⟨⟩;exact hd
  ·rw[aC q]at hy;exact hO y d1 hy
end
section
variable {Ψ:V5->VW->ax->Option Fl}
def Goes(C:Cx)(aj:W8->Prop)(ag:WH)(sc:V5)(W:W8->Prop)(s:VY)(aW:ax)(s':VY):Prop:=∃W' C9,Mv C W s W' s'/\SS C aj ag sc aW W' C9 s'/\dC aW
def yU(C:Cx)(aj:W8->Prop)(ag:WH)(sc:V5)(W:W8->Prop)(s:VY)(fl:Fl)(f:WA)(s':VY):Prop:=match fl with
 | .next v=>f=.next/\Goes C aj ag sc W s v s'| .brk v=>f=.brk/\Goes C aj ag sc W s v s'| .cont v=>f=.cont/\Goes C aj ag sc W s v s'| .ret d=>∃v,f=.ret v/\Rep s'.heap aj v d/\Bs C s'/\∃W',Mv C W s W' s'
def ExS(C:Cx)(Φ:fO)(Ψ:V5->VW->ax->Option Fl)(aj:W8->Prop)(ag:WH)(sc:V5)(A:W6)(st:VW):Prop:=∀{ae W ad fl s},SS C aj ag sc ae W ad s->dC ae->ex Φ Ψ sc st ae=Xd fl->∀(E:VO->VY->Prop)(Q:WA->VY->Prop),(∀f s',yU C aj ag sc W s fl f s'->Q f s')->aP (VB pw Wd) A (exec st ag) Q E s
def uk(C:Cx)(Φ:fO)(Ψ:V5->VW->ax->Option Fl)(aj:W8->Prop)(ag:WH)(sc:V5)(A:W6)(sts:List VW):Prop:=∀{ae W ad fl s},SS C aj ag sc ae W ad s->dC ae->cn Φ Ψ sc sts ae=Xd fl->∀(E:VO->VY->Prop)(Q:WA->VY->Prop),(∀f s',yU C aj ag sc W s fl f s'->Q f s')->aP (VB pw Wd) A (execs sts ag) Q E s
structure oY (C:Cx) (n:Nat):Prop where
 chg:∀{m a ds a' p s ai},sP m a ds=Xd a'->Bs C s->bz C ai s->bl s.heap ai (.ref p) a->∃id,(∀{A pl},Wp C A (getMethod (.ref p) m pl) (λr x=>r=(.builtin id,[.ref p])) s)/\
  ∀{A s vs}{E:VO->VY->Prop}{Q:VO->VY->Prop},dD C n A->Bs C s->bz C ai s->ai p->bl s.heap ai (.ref p) a->aK s.heap ai vs ds->
   (∀s1 h' t,Ex C s s1->Ww p s1.heap h'->bl h' ai (.ref p) a'->Q .none {s1 with heap:=h',toks:=t})->aP (VB pw Wd) A (VH (.builtin id) (.ref p::vs)) Q E s
 sto:∀{a j d a' p u v A s ai}{E:VO->VY->Prop}{Q:Unit->VY->Prop},jU a j d=Xd a'->dD C n A->Bs C s->bz C ai s->ai p->bl s.heap ai (.ref p) a->Rep s.heap ai u j->Rep s.heap ai v d->
  (∀s1 h' t,Ex C s s1->Ww p s1.heap h'->bl h' ai (.ref p) a'->Q () {s1 with heap:=h',toks:=t})->aP (VB pw Wd) A (setItem (.ref p) u v) Q E s
 new:∀{f ds d},newD f ds=Xd d->∃v,C.mg f=Xe/\C.mb f=Xd v/\(f==("__debug__":VV))=false/\(∀a,v≠.ref a)/\
  ∀{A s ai vs}{E:VO->VY->Prop}{Q:VO->VY->Prop},dD C n A->Bs C s->bz C ai s->iC s.heap ai vs ds->
   (∀a s1,Ex C s s1->s.heap.get? a=Xe->s.heap.objs.size<=a->bl s1.heap (λb=>ai b\/b=a) (.ref a) d->Q (.ref a) s1)->aP (VB pw Wd) A (VH v vs) Q E s
theorem yU.trans(m:Mv C W s W' s')(h:yU C aj ag sc W' s' fl f iF):yU C aj ag sc W s fl f iF:=by
 rcases fl with⟨⟩;case next=>obtain⟨a,W2,ad2,b,c,d⟩:=h;exact⟨a,W2,ad2,m.trans b,c,d⟩
 case brk=>obtain⟨a,W2,ad2,b,c,d⟩:=h;exact⟨a,W2,ad2,m.trans b,c,d⟩
 case cont=>obtain⟨a,W2,ad2,b,c,d⟩:=h;exact⟨a,W2,ad2,m.trans b,c,d⟩
 case ret=>obtain⟨v,a,b,c,W2,e⟩:=h;exact⟨v,a,b,c,W2,m.trans e⟩
theorem SS.iter{t:Nat}(S:SS C aj ag sc ae W ad s)(kC:s.heap.get? I=Xd oI)(ox:¬iD oI.cls)(yQ:∀es n,oI.data≠.dict es n)(lK:∀c,oI.data≠.cell c)(hs:Wy I s.heap h')(hv:¬(aj I\/W I))(M8:Bs C {s with heap:=h',toks:=t}):SS C aj ag sc ae W ad {s with heap:=h',toks:=t}:=by refine⟨S.bO.iter kC ox yQ lK hs hv M8,S.kF.keep λb o e w=>.of (hs b o (λq=>hv (q▸.inr (S.fw b w))) e),S.fw,S.tS,S.tabs,S.gZ,S.w0,λy d hy=>⟨?_,(S.own y d hy).2⟩,S.apart⟩;exact(S.own y d hy).1.keep (λo e hd=>.of (hs _ _ (kx (P:=λo=>∃es n,o.data=.dict es n) e kC hd λ⟨_,_,q⟩=>yQ _ _ q) e)) λb o c e hd=>hs _ _ (kx (P:=λo=>∃c,o.data=.cell c) e kC ⟨c,hd⟩ λ⟨_,q⟩=>lK _ q) e
theorem Mv.iter{t:Nat}(m:Mv C dR aH W s)(hI:aH.heap.get? I=Xe)(hs:Wy I s.heap h'):Mv C dR aH W {s with heap:=h',toks:=t}:=⟨λb o e t f w=>hs b o (λq=>by subst q;rw[hI]at e;exact aa e) (m.keep b o e t f w),λb o f w e=>let⟨o1,e1,d1⟩:=m.nz b o f w e;⟨o1,hs b o1 (λq=>by subst q;rw[hI]at e;exact aa e) e1,d1⟩,m.ww⟩
set_option tactic.hygienic true in
theorem DY{k:ax->Option Fl}(m:Mv C dR aH W s)(hf:yU C aj ag sc W s Qx f s')(h:jR k Qx=Xd fl){P:Prop}(next:∀v,(f=.next\/f=.cont)->Goes C aj ag sc W s v s'->k v=Xd fl->P)(stop:∀g,yU C aj ag sc dR aH fl g s'->(f=.brk/\g=.next\/∃v,f=.ret v/\g=.ret v)->P):P:=by
 rcases Qx with⟨⟩;case next v=>exact next v (.inl hf.1) hf.2 h
 case cont v=>exact next v (.inr hf.1) hf.2 h
 case brk v=>obtain rfl:=Xc h;obtain⟨rfl,W3,OJ,m3,S3,I3⟩:=hf;exact stop .next ⟨rfl,W3,OJ,m.trans m3,S3,I3⟩ (.inl ⟨rfl,rfl⟩)
 case ret d=>obtain rfl:=Xc h;obtain⟨v,rfl,hr,hb3,W3,m3⟩:=hf;exact stop (.ret v) ⟨v,rfl,hr,hb3,W3,m.trans m3⟩ (.inr ⟨v,rfl,rfl⟩)
theorem Cy(hA:dD C n A)(e:aR ag sc)(Kn:aH.heap.get? I=Xe)(Cv:¬C.T I)(Km:C.h₀.get? I=Xe) (eA:uk C Φ Ψ aj ag sc A body) {R:V6->VY->Prop}:∀(ar:List Dat)(ae:ax)(W:W8->Prop)(ad:VV->W8)(s:VY)(fl:Fl),It s.heap (λa=>aj a\/W a) (λa=>W a\/C.T a\/C.fr a) I ar->SS C aj ag sc ae W ad s->dC ae->¬aj I->Mv C dR aH W s->d9 (λd vs=>match bL sc t d vs with
      |none=>Xe|some vs=>cn Φ Ψ sc body vs) ar ae=Xd fl->(∀f s',yU C aj ag sc dR aH fl f s'->R (.ok f) s')->
   cK (VB pw Wd) A (.forLoop t (.ref I) body [] ag) R s:=by
 revert n hA e Kn Cv Km eA
 refine no_implicit_lambda% (rR (bT (bT (bT (bT zS rB) (bT pA neF)) U8) U8) ?_ C A aH Φ ag aj I sc t body R dR Ψ)
 generalize gE _ _=tt
 dsimp only[Gy]
 generalize tt.1.1.1.1=C,tt.1.1.1.2=A,tt.1.1.2.1=aH,tt.1.1.2.2=Φ,tt.1.2.1.1=ag,tt.1.2.1.2=aj,tt.1.2.2=I,tt.2.1.1.1=sc,tt.2.1.1.2=t,tt.2.1.2=body,tt.2.2.1.1=R,tt.2.2.1.2=dR,tt.2.2.2=Ψ
 intro n hA e Kn Cv Km eA
 intro ar
 induction ar with
 |nil=>intro ae W ad s fl x S hO rF m h hR;obtain rfl:=Xc h;refine uw x.gi λoI kC ox Kj yQ lK=>?_;have nW:¬W I:=λq=>x.Fs (.inl q);refine bw ?_ rfl;show aP _ A ((forTurn t (.ref I) body [] ag).onRaise (λx=>do noteFrame x ag;theTreesLotGoes x)) _ _ s;refine eG ?_;unfold forTurn;refine ab (au (ab (dj (x.done hA.handled λh' he=>?_))));have M8:Bs C {s with heap:=h',toks:=s.toks}:=(gL.same he rfl Cv (λq=>((S.gZ I q).elim rF λq=>nW (S.fw I q)).elim) x.vJ).bs S.bO.bs λa q=>q▸Km;have S':=S.iter kC ox yQ lK he (λq=>q.elim rF nW) M8;refine ao ⟨rfl,?_⟩;refine bw ?_ rfl;show aP _ A ((do return .done (<-(execs [] ag).onRaise (λx=>do noteFrame x ag;theTreesLotGoes x))):V0 WB) _ _ _;refine ab (dj (ao (ao ?_)));exact hR .next {s with heap:=h'} ⟨rfl,W,ad,m.iter Kn he,S',hO⟩
 |cons d ar ih=>
  refineλae W ad s fl x S hO rF m h hR=>uw x.gi λoI kC ox Kj yQ lK=>?_;have nW:¬W I:=λq=>x.Fs (.inl q);refine bw ?_ rfl;show aP _ A ((forTurn t (.ref I) body [] ag).onRaise (λx=>do noteFrame x ag;theTreesLotGoes x)) _ _ s;refine eG ?_;unfold forTurn;refine ab (au (ab (dj (x.next λv h1 tk r x1 lJ=>?_))));have wu:Bs C {s with heap:=h1,toks:=tk}:=(gL.same lJ.extBut rfl Cv (λq=>((S.gZ I q).elim rF λq=>nW (S.fw I q)).elim) x.vJ).bs S.bO.bs λa q=>q▸Km;have S1:=S.iter kC ox yQ lK lJ.extBut (λq=>q.elim rF nW) wu;have m1:Mv C dR aH W {s with heap:=h1,toks:=tk}:=m.iter Kn lJ.extBut;have h':((match bL sc t d ae with
      |none=>Xe|some vs=>cn Φ Ψ sc body vs).bind (jR (d9 (λd vs=>match bL sc t d vs with|none=>Xe|some vs=>cn Φ Ψ sc body vs) ar)))=Xd fl:=h
  clear h;cases hb:bL sc t d ae with
  |none=>rw[hb]at h';exact aa h'
  |some bX=>
   rw[hb]at h';refine ak h' λQx hx h=>?_;clear h';refine ab (x1.letGo ?_);refine ab (jT hA.handled e S1 hO hb r λs2 m2 S2 UJ=>?_)
   ·refine ab (eA S2 UJ hx _ _ λf s3 hf=>?_);have next:∀vn,Goes C aj ag sc W s2 vn s3->d9 (λd vs=>match bL sc t d vs with
      |none=>Xe|some vs=>cn Φ Ψ sc body vs) ar vn=Xd fl->cK (VB pw Wd) A (.forLoop t (.ref I) body [] ag) R s3:=by
     intro vn ⟨W3,OJ,m3,S3,I3⟩ h3;have mm:=m2.trans m3;have xw:It {s with heap:=h1,toks:=tk:VY}.heap (λa=>aj a\/W a) (λa=>(W a\/W3 a)\/C.T a\/C.fr a) I ar:=x1.widen λa q=>by
      rcases q with(q|q)|q
      ·exact .inl (.inl q)
      ·refine Xa (mm.ww a q) (λq=>.inl (.inl q)) λq=>.inr q.1
      ·exact .inl (.inr q)
     have x3:It s3.heap (λa=>aj a\/W3 a) (λa=>(W a\/W3 a)\/C.T a\/C.fr a) I ar:=xw.mono (λb o q w=>mm.keep b o q (λt=>w (.inr (.inl t))) (λt=>w (.inr (.inr t))) λz=>w (.inl (.inl z))) λrs=>rs.mono λb o q nn=>⟨mm.keep b o q (λt=>nn (.inl (S.tabs b t))) (λt=>nn ((S.gZ b t).imp id (S.fw b))) λz=>nn (.inr z),λz=>z.elim (λz=>nn (.inl z)) λz=>by
      refine Xa (mm.ww b z) (λz=>nn (.inr z)) λz=>?_
      ·rw[z.1]at q;exact aa q⟩
     exact ih vn W3 OJ s3 fl (x3.widen λa q=>.inl (q.elim (λq=>.inl (.inr q)) .inr)) S3 I3 rF (m1.trans mm) h3 hR
    refine DY (m1.trans m2) hf h (λv q hg h3=>?_) λg hg q=>?_
    ·refine Xa q (λy0=>?_) λy1=>?_
     ·obtain rfl:=y0;exact ao ⟨rfl,next v hg h3⟩
     ·obtain rfl:=y1;exact ao ⟨rfl,next v hg h3⟩
    ·refine Xa q (λy0=>?_) λy1=>?_
     ·refine aU y0 ?_;clear y0;rintro(rfl)(rfl);exact ao (hR _ s3 hg)
     ·refine av y1 ?_;clear y1;rintro v(rfl)(rfl);exact ao (hR _ s3 hg)
theorem EK(e:aR ag sc)(ht:jE C Φ A t)(eA:uk C Φ Ψ aj ag sc A body){R:V6->VY->Prop}:∀(k:Nat)(ae:ax)(W:W8->Prop)(ad:VV->W8)(s:VY)(fl:Fl),SS C aj ag sc ae W ad s->dC ae->Mv C dR aH W s->uy (λvs=>dT Φ sc t vs (ev Φ sc t vs)) (λvs=>cn Φ Ψ sc body vs) k ae=Xd fl->(∀f s',yU C aj ag sc dR aH fl f s'->R (.ok f) s')->cK (VB pw Wd) A (.whileLoop t body [] ag) R s:=by
 revert dR Ψ e ht eA;refine no_implicit_lambda% (ux (bT (bT (bT (bT zS rB) neF) (bT pA U8)) U8) ?_ C A Φ aH ag sc t body aj R);generalize gE _ _=tt;dsimp only[GN];generalize tt.1.1.1.1=C,tt.1.1.1.2=A,tt.1.1.2=Φ,tt.1.2.1=aH,tt.1.2.2=ag,tt.2.1.1.1=sc,tt.2.1.1.2=t,tt.2.1.2=body,tt.2.2.1=aj,tt.2.2.2=R;intro dR Ψ e ht eA;intro k;induction k with
 |zero=>exactλae W ad s fl S hO m h hR=>aa h
 |succ k ih=>
  refineλae W ad s fl S hO m h hR=>ak h λb hb h=>bw ?_ rfl;show aP _ A ((whileTurn t body [] ag).onRaise (λx=>do noteFrame x ag;theTreesLotGoes x)) _ _ s;refine eG (ab (ht e S.bO hb _ _ λb' s1 x1 UD=>?_));subst UD;have S1:=S.ex x1;have m1:=m.trans (.iG x1);rcases b' with⟨⟩;case false=>obtain rfl:=Xc h;exact ab (ao (ao (hR .next s1 ⟨rfl,W,ad,m1,S1,hO⟩)))
  case true=>
   refine ak h λQx hx h=>ab (eA S1 hO hx _ _ λf s2 hf=>DY m1 hf h (λv q hg h3=>?_) λg hg q=>?_)
   ·refine er hg λW3 OJ m3 S3 I3=>?_;have:=ih v W3 OJ s2 fl S3 I3 (m1.trans m3) h3 hR;refine Xa q (λy0=>?_) λy1=>?_
    ·obtain rfl:=y0;exact ao ⟨rfl,this⟩
    ·obtain rfl:=y1;exact ao ⟨rfl,this⟩
   ·refine Xa q (λy0=>?_) λy1=>?_
    ·refine aU y0 ?_;rintro(rfl)(rfl);exact ao (hR _ s2 hg)
    ·refine av y1 ?_;rintro v(rfl)(rfl);exact ao (hR _ s2 hg)
theorem SS.widen(S:SS C aj ag sc ae W ad s)(x:Ex C s s')(hL:s.heap.get? L=Xe)(hL':∃o,s'.heap.get? L=Xd o):SS C (λa=>aj a\/a=L) ag sc ae W ad s':=by
 have S':=S.ex x;have nL:∀{b o},s.heap.get? b=Xd o->b≠L:=λe q=>by rw[q,hL]at e;exact aa e
 have kp:∀b o,s.heap.get? b=Xd o->¬(aj b\/W b)->s'.heap.get? b=Xd o/\¬((aj b\/b=L)\/W b):=λb o e n=>⟨x.keep b o e (λt=>n (.inl (S.tabs b t))) λf=>n (S.bO.vo.gZ b f),λq=>q.elim (λq=>q.elim (λq=>n (.inl q)) (nL e)) λq=>n (.inr q)⟩;refine⟨⟨S'.bO.bs,⟨λa q=>.inl (.inl (S.tabs a q)),λa q=>(S.gZ a q).imp .inl (S.fw a),λa ha=>?_⟩,λy sl hy=>?_,S'.bO.cells⟩,⟨S'.kF.ns,.inr (S.fw _ (.inl rfl)),S'.kF.fl,λx c q1 q2=>⟨.inr (S.fw c (.inr ⟨x,q1,q2⟩)),(S'.kF.cell x c q1 q2).2⟩⟩,S.fw,λa w q=>q.elim (S.tS a w) λq=>(aI (S.bO.vo.there a (.inr w)) λo e=>nL e q),λa t=>.inl (S.tabs a t),λa t=>(S.gZ a t).imp .inl id,S.w0,S'.own,S.apart⟩
 ·rcases ha with(q|rfl)|q
  ·exact S'.bO.vo.there a (.inl q)
  ·exact hL'
  ·exact S'.bO.vo.there a (.inr q)
 ·refine av (S.bO.lo y sl hy) λw hw hr=>⟨w,hw.ex S.bO.bs x,?_⟩;rcases sl with⟨⟩;case val=>exact Rep.mono kp hr
  case own=>obtain⟨ro,a,rfl,Rq,Ur⟩:=hr;refine⟨?_,a,rfl,Rq.imp .inl id,Ur⟩;cases ro with|rep r=>exact .rep (r.mono kp)|list ho hc hn hd hr=>exact .list (x.keep _ _ ho (S.bO.bs.d7 ho (by rw[hd];nofun)) (S.bO.bs.fG ho (by rw[hd];nofun))) hc hn hd (hr.mono kp)|bg ho hc hd=>exact .bg (x.keep _ _ ho (S.bO.bs.d7 ho (by rw[hd];nofun)) (S.bO.bs.fG ho (by rw[hd];nofun))) hc hd
theorem SS.letGo{t:Nat}(S:SS C (λa=>aj a\/a=L) ag sc ae W ad s)(IP:s.heap.get? L=Xd oL)(Md:∃es n,oL.data=.dict es n)(hs:Wy L s.heap h')(hT:∀a,C.T a->aj a)(hF:∀a,C.fr a->aj a\/FW ag sc a)(hv:¬(aj L\/W L))(M8:Bs C {s with heap:=h',toks:=t}):SS C aj ag sc ae W ad {s with heap:=h',toks:=t}:=by
 have hl:L≠ag.locals:=λq=>hv (.inr (S.fw L (.inl q)))
 have tj:∀{y:VV}{w:VO},fI s.heap ag y w->fI h' ag y w:=λH=>H.keep (λo e x=>.of (hs _ _ hl.symm e)) λb o c e hd=>hs _ _ (kx (P:=λo=>∃c,o.data=.cell c) e IP ⟨c,hd⟩ λ⟨_,q⟩=>let⟨_,_,z⟩:=Md;nomatch z.symm.trans q) e
 have kp:∀b o,s.heap.get? b=Xd o->¬((aj b\/b=L)\/W b)->h'.get? b=Xd o/\¬(aj b\/W b):=λb o e n=>⟨hs b o (λz=>n (.inl (.inr z))) e,λq=>n (q.imp .inl id)⟩
 have f:=S.kF.keep (s':={s with heap:=h',toks:=t}) λb o q w=>.of (hs b o (λz=>hv (z▸.inr (S.fw b w))) q)
 refine⟨⟨M8,⟨λa q=>.inl (hT a q),λa q=>(hF a q).imp id (S.fw a),λa ha=>(aI (S.bO.vo.there a (ha.imp .inl id)) λo q=>⟨o,hs a o (λz=>hv (z▸ha)) q⟩)⟩,λy sl hy=>?_,λy c hc=>?_⟩,⟨f.ns,.inr (S.fw _ (.inl rfl)),f.fl,λx c q1 q2=>⟨.inr (S.fw c (.inr ⟨x,q1,q2⟩)),(f.cell x c q1 q2).2⟩⟩,S.fw,λa w q=>S.tS a w (.inl q),hT,hF,S.w0,λy d hy=>⟨tj (S.own y d hy).1,(S.own y d hy).2⟩,S.apart⟩
 ·refine av (S.bO.lo y sl hy) λw hw hr=>⟨w,tj hw,?_⟩;rcases sl with⟨⟩;case val=>exact Rep.mono kp hr
  case own=>obtain⟨ro,a,rfl,Rq,Ur⟩:=hr;obtain rfl:=VM.inj (hw.unique (S.own y d hy).1);have wa:=(S.own y d hy).2;refine⟨?_,_,rfl,.inr wa,Ur⟩;have jI:ad y≠L:=λz=>hv (.inr (z▸wa));cases ro with|rep r=>exact .rep (r.mono kp)|list ho hc hn hd hr=>exact .list (hs _ _ jI ho) hc hn hd (hr.mono kp)|bg ho hc hd=>exact .bg (hs _ _ jI ho) hc hd
 ·refine eT (S.bO.cells y c hc) λw o b3 b4=>⟨w,o,hs _ _ (λq=>by rw[q,IP]at b3;obtain rfl:=Xc b3;refine kK Md λx x z=>?_;rw[z]at b4;rcases b4 with⟨⟩) b3,b4⟩
set_option tactic.hygienic true in
theorem xM(hC:C.Ok)(hO:cA C n)(hF:cu C Φ n)(hA:dD C n A)(e:aR ag sc)(i:In C ai ag ae s)(h:ev Φ sc (.ListComp elt gens bC p) ae=Xd d){u:VO->V0 Unit}{Q:Unit->VY->Prop}(K:∀L D s',Ex C s s'->Rep s'.heap (λa=>ai a\/a=L) (.ref D) d->s.heap.get? L=Xe->(∃m,s'.heap.Ns L m)->aP (VB pw Wd) A (u (.ref D)) (λz iF=>∃m,iF.heap.Ns L m/\∀h',Ww L iF.heap h'->Q () {iF with heap:=h'}) E s'):aP (VB pw Wd) A (evalThenUse (.ListComp elt gens bC p) ag u) Q E s:=by
 rcases gens with⟨⟩
 case nil=>exact aa h
 case cons g rest=>obtain⟨t,it,ifs,a⟩:=g;refine aL h λha h=>ak h λsrc lI h=>ak h λar hit h=>ak h λds hm h=>aL h λcU h=>?_;obtain rfl:=Xc h;refine bD ha ?_;rintro(rfl)gC ZbS;have kQ:∀g∈(⟨t,it,ifs,0⟩::rest:List WI),fz C Φ A g.iter/\∀x∈g.ifs,jE C Φ A x:=λg z=>⟨bZ hC hO hF hA _,λy z=>md hC hO hF hA y⟩;refine ab (vM hA.handled e i gC (fq (fF lI)) (dO (bZ hC hO hF hA it) e i lI) hit _ hm cU (λg9 dy D I fx=>zy (bZ hC hO hF hA elt) hA kQ fx rest 0 t ifs _ I rfl (λy z=>md hC hO hF hA y) ZbS) λL D s1 x1 r1 hL kf=>?_);exact aE (K L D s1 x1 r1 hL kf) (λz s2⟨m,h1,h2⟩=>⟨m,h1,λh' hs=>ao (h2 h' hs)⟩) λz z q=>q
theorem oO(e:aR ag sc)(S1:SS C aj ag sc ae W' ad s)(Cw:dC ae)(hW:∀a,W' a->W a)(hb:bV sc x (.val d) ae=Xd aW){Q:WA->VY->Prop}(hQ:∀s',Goes C aj ag sc W s aW s'->Q .next s')(L D:W8)(s1:VY)(x1:Ex C s s1)(r1:Rep s1.heap (λa=>(aj a\/W' a)\/a=L) (.ref D) d)(hL:s.heap.get? L=Xe)(kf:∃m,s1.heap.Ns L m):aP (VB pw Wd) A (assign (.Name x xp) ag (.ref D)) (λz iF=>∃m,iF.heap.Ns L m/\∀h',Ww L iF.heap h'->aP (VB pw Wd) A (pure WA.next) Q E {iF with heap:=h'}) E s1:=by
 refine mq kf λm oL es ep IP Md hrL=>?_;have S2:=S1.widen x1 hL ⟨oL,IP⟩;refine ab (au (fo e S2 Cw hb (r1.mono λb o q n=>⟨q,λz=>n (z.elim (λz=>z.elim (λz=>.inl (.inl z)) .inr) λz=>.inl (.inr z))⟩) λs2 m2 S3 UO xw=>?_));have nL:=S1.bO.vo.new hL;have nT:=λt=>nL (.inl (S1.tabs L t));have nF:=λt=>nL ((S1.gZ L t).imp id (S1.fw L));have P9:=xw.keep _ _ IP nT nF λq=>nL (.inr (S1.fw L q));refine⟨m,⟨oL,es,ep,P9,Md,hrL⟩,λh' hs=>ao ?_⟩;have n0:C.h₀.get? L=Xe:=by cases q:C.h₀.get? L with|none=>rfl|some o=>have:=S1.bO.bs.keep L o q nT;rw[hL]at this;exact aa this
 have xL:gL C (λa=>a=L) s2 {s2 with heap:=h',toks:=s2.toks}:=gL.same hs.extBut rfl nT (λq=>(nF q).elim) (λoa vs y t' e1 e2=>by rw[P9]at e1;obtain rfl:=Xc e1;rw[Md]at e2;rcases e2 with⟨⟩);have S4:=S3.letGo P9 ⟨_,_,Md⟩ hs.extBut S1.tabs S1.gZ nL (xL.bs S3.bO.bs λa q=>q▸n0);refine hQ {s2 with heap:=h'} ⟨W',ad,⟨λb o q t f w=>hs.extBut b o (λz=>by subst z;rw[hL]at q;exact aa q) (m2.keep b o (x1.keep b o q t f) t f λz=>w (hW b z)),λb o f w q=>(by refine av (x1.nz b o f q) λo1 e1 d1=>av (m2.nz b o1 f (λz=>w (hW b z)) e1) λo2 e2 d2=>⟨o2,hs.extBut b o2 (λz=>nF (z▸f)) e2,d2.trans d1⟩),λa q=>.inl (hW a q)⟩,S4,UO⟩
theorem iL{t:Option Expr}(h:pH value=false):swapsWith value t line ag=pure false:=by rcases value with⟨⟩<;>first|rfl|rcases h with⟨⟩
set_option tactic.hygienic true in
theorem yF(hC:C.Ok)(hO:cA C n)(hF:cu C Φ n)(hA:dD C n A)(e:aR ag sc)(S:SS C aj ag sc ae W ad s)(hD:dC ae)(h:qF Φ sc value ae=Xd (d,bX))(hb:bV sc x (.val d) bX=Xd aW){Q:WA->VY->Prop}(hQ:∀s',Goes C aj ag sc W s aW s'->Q .next s'):aP (VB pw Wd) A (exec (.Assign [.Name x xp] value pos) ag) Q E s:=by
 have plain:swapsWith value (Xd (.Name x xp)) pos.line ag=pure false->aP (VB pw Wd) A (exec (.Assign [.Name x xp] value pos) ag) Q E s:=by intro hs;refine bG (yn (bZ hC hO hF hA value) e S hD h λv s1 W1 x1 m1 S1 Cw r1=>?_) hs (by rcases value with⟨⟩<;>rfl);exact ab (au (fo e S1 Cw hb r1 λs2 m2 S2 Qn u=>hQ s2 ⟨W1,ad,m1.trans m2,S2,Qn⟩))
 cases hc:pH value with
 |false=>exact plain (iL hc)
 |true=>
  rcases value with⟨⟩;case ListComp elt gens bC p=>
   have IE:∃b,swapsWith (.ListComp elt gens bC p) (Xd (.Name x xp)) pos.line ag=pure b:=⟨_,rfl⟩;refine aI IE λb IE=>?_;rcases b with⟨⟩;case false=>exact plain IE
   case true=>
    rw[exec_Assign_Name_used x xp _ pos IE];refine ab (au (ab ?_));have go:∀(W1:W8->Prop)(bX:ax),SS C aj ag sc bX W1 ad s->dC bX->(∀a,W1 a->W a)->ev Φ sc (.ListComp elt gens bC p) bX=Xd d->bV sc x (.val d) bX=Xd aW->aP (VB pw Wd) A (evalThenUse (.ListComp elt gens bC p) ag (assign (.Name x xp) ag)) (λu s'=>aP (VB pw Wd) A (pure WA.next) Q E s') E s:=λW1 bX S1 Cw hW h hb=>xM hC hO hF hA e S1.bO h (oO e S1 Cw hW hb hQ);refine rH h (λh1 h2=>?_) λh1 h2=>?_
    ·exact go W ae S hD (λu q=>q) h1 (h2▸hb)
    ·exact go _ _ (S.jm hD) (.jm ae) S.fw h1 (h2▸hb)
  case SetComp elt gens bC p=>exact rH h (λh1 u=>aa h1) λh1 u=>aa h1
  case DictComp k v gens bC p=>exact rH h (λh1 u=>aa h1) λh1 u=>aa h1
  all_goals (rcases hc with⟨⟩)
theorem z7(hC:C.Ok)(hO:cA C n)(hF:cu C Φ n)(hA:dD C n A)(e:aR ag sc)(S:SS C aj ag sc ae W ad s)(hD:dC ae)(h:ku Φ sc x (.List es p) ae=Xd aW){Q:WA->VY->Prop}(hQ:∀s',Goes C aj ag sc W s aW s'->Q .next s'):aP (VB pw Wd) A (exec (.Assign [.Name x xp] (.List es p) pos) ag) Q E s:=ak h λds h1 h=>aL h λcU h=>bG (zc (jt e (λy u=>bZ hC hO hF hA y) S.bO h1 _ _ λvs s1 x1 r1=>⟨by refine xR r1.length ?_;exact bK cU,by
  have S1:=S.ex x1;have x2:Ex C s1 {s1 with heap:=s1.heap.push {cls:=.type "list",data:=.seq vs.toArray}}:=.of_keep (λb o e=>Wu _ e) rfl rfl;refine ab (au (DH e S1 hD x2 (aJ _) (Xz _) h ?_ (.inl ⟨ds,rfl⟩) λs3 C9 m3 S3 UO=>hQ s3 ⟨_,C9,(Mv.iG x1).trans m3,S3,UO⟩));refine .list (Wt _ rfl) rfl rfl rfl (r1.mono λb o q nn=>⟨Wu _ q,λz=>?_⟩);refine Xa z (λz=>?_) λy0=>?_
  ·exact nn (.inl z)
  refine Xa y0 (λz=>nn (.inr z)) λz=>?_
  ·simp only[z,aJ]at q;exact aa q⟩)) rfl rfl
set_option tactic.hygienic true in
theorem H8(h:newD f ds=Xd d):(∃ds,d=.list ds)\/∃b,d=.bg b:=by
 match ds,h with
 |[a],h=>
  have h':(if f="list" then(match a with
   | .list _| .tuple _| .range _ _ _=>(match bP a with|some es=>if es.length<=aS then Xd (.list es)else Xe|none=>Xe)
   |_=>Xe)
  else if f="bytearray" then(match a with
   | .int n=>if 0<=n/\n<=(aS:Int)then Xd (.bg (X0 n.toNat 0))else Xe| .bytes b=>if b.length<=aS then Xd (.bg b)else Xe|_=>Xe)
  else Xe)=Xd d:=h;split at h'
  ·have key:∀{o:Option (List Dat)},(match o with|some es=>if es.length<=aS then Xd (Dat.list es)else Xe|none=>Xe)=Xd d->∃ds,d=.list ds:=λ{o}h=>by
    rcases o with⟨⟩;case none=>exact aa h
    case some es=>exact aL h λu h=>⟨es,(Xc h).symm⟩
   rcases a with⟨⟩;case list l=>exact .inl (key (o:=bP (.list l)) h')
   case tuple l=>exact .inl (key (o:=bP (.tuple l)) h')
   case range x y z=>exact .inl (key h')
   all_goals (exact aa h')
  ·refine aL h' λu h'=>?_;rcases a with⟨⟩;case int n=>exact aL h' λu h=>.inr ⟨_,(Xc h).symm⟩
   case bytes b=>exact aL h' λu h=>.inr ⟨_,(Xc h).symm⟩
   all_goals (exact aa h')
theorem B1(hC:C.Ok)(hO:cA C n)(hF:cu C Φ n)(hS:oY C n)(hA:dD C n A){a:Expr}(e:aR ag sc)(S:SS C aj ag sc ae W ad s)(hD:dC ae)(hn:isNew Φ sc ae f=true)(h:((kn Φ sc [a] ae).bind λds=>(newD f ds).bind λd=>bV sc x (.own d) ae)=Xd aW){Q:WA->VY->Prop}(hQ:∀s',Goes C aj ag sc W s aW s'->Q .next s'):aP (VB pw Wd) A (exec (.Assign [.Name x xp] (.Call (.Name f fp) [a] [] p) pos) ag) Q E s:=ak h λds h1 h=>ak h λd h2 h=>by delta isNew at hn;simp only[ZV,Vd]at hn;have hg:=hn.1.2;refine uw (hS.new h2) λv c1 c2 c3 c4 call=>bG ?_ rfl rfl;have kf:=iB (pos:=p) (il (ag:=ag) h1);refine ab (dX hC e S.bO.bs hg c3 c1 c2 (cf c4 kf (cq kf (l7 e (λy u=>bZ hC hO hF hA y) S.bO h1) _ _ λz s1 x1 r1=>?_)));obtain⟨ps,kw⟩:=z;refine aU r1 ?_;rintro(rfl)r1;have S1:=S.ex x1;refine call hA S1.bO.bs S1.bO.vo r1 λb s2 x2 hb hsz r2=>?_;have hv:(λc=>aj c\/(W c\/c=b))=λc=>(aj c\/W c)\/c=b:=funext λc=>propext or_assoc.symm;exact ab (au (DH e S1 hD x2 hb hsz h (hv▸r2) (H8 h2) λs3 C9 m3 S3 UO=>hQ s3 ⟨_,C9,(Mv.iG x1).trans m3,S3,UO⟩))
theorem C5(hC:C.Ok)(hO:cA C n)(hF:cu C Φ n)(hS:oY C n)(hA:dD C n A)(e:aR ag sc)(S:SS C aj ag sc ae W ad s)(hD:dC ae)(h:ku Φ sc x value ae=Xd aW){Q:WA->VY->Prop}(hQ:∀s',Goes C aj ag sc W s aW s'->Q .next s'):aP (VB pw Wd) A (exec (.Assign [.Name x xp] value pos) ag) Q E s:=by
 have val:(qF Φ sc value ae).bind (EZ sc x)=Xd aW->aP (VB pw Wd) A (exec (.Assign [.Name x xp] value pos) ag) Q E s:=λh=>ak h λr h1 h=>yF hC hO hF hA e S hD h1 h hQ;unfold ku at h;cases hl:yH value with
 |some es=>simp only[hl]at h;refine aI (C7 hl) ?_;rintro p(rfl);exact z7 hC hO hF hA e S hD h hQ
 |none=>
  rw[hl]at h;cases hn:(AS value).any λz=>z.2.length==1&&isNew Φ sc ae z.1 with
  |false=>rw[hn]at h;exact val h
  |true=>replace h:=hn▸h;refine ak h λz hz h=>?_;rw[hz]at hn;obtain⟨f,as⟩:=z;refine kK (Gd hz) ?_;rintro q p(rfl);refine aU (ZU.mp (show(as.length==1&&isNew Φ sc ae f)=true from hn)) λh1 hn=>?_;revert h;exact Zbp (beq_iff_eq.mp h1) λa h=>B1 hC hO hF hS hA e S hD hn h hQ
def Ba(C:Cx)(Φ:fO)(Ψ:V5->VW->ax->Option Fl)(A:W6):Prop:=∀{aj ag sc t it body pos z zs x y ae W ad s fl},aR ag sc->SS C aj ag sc ae W ad s->dC ae->mB Φ sc it ae=Xd z->isTup t=true->ev Φ sc z.1 ae=Xd x->ev Φ sc z.2 ae=Xd y->OO x y=Xd zs->(∀rU,uk C Φ Ψ rU ag sc A body)->d9 (λd vs=>match bL sc t d vs with|none=>Xe|some vs=>cn Φ Ψ sc body vs) zs ae=Xd fl->∀(E:VO->VY->Prop)(Q:WA->VY->Prop),(∀f s',yU C aj ag sc W s fl f s'->Q f s')->aP (VB pw Wd) A (exec (.For t it body [] pos) ag) Q E s
def qf(C:Cx)(Ψ:V5->VW->ax->Option Fl)(A:W6)(ag:WH):Prop:=∀{aj sc st ae W ad s fl},aR ag sc->SS C aj ag sc ae W ad s->dC ae->Ψ sc st ae=Xd fl->∀(E:VO->VY->Prop)(Q:WA->VY->Prop),(∀f s',yU C aj ag sc W s fl f s'->Q f s')->aP (VB pw Wd) A (exec st ag) Q E s
set_option backward.match.sparseCases true in
theorem CE(hP:qf C Ψ A ag)(e:aR ag sc):∀{sts:List VW},(∀st∈sts,ExS C Φ Ψ aj ag sc A st)->uk C Φ Ψ aj ag sc A sts
 |[],_,ae,W,ad,fl,s,S,hD,h,E,Q,hQ=>by obtain rfl:=Xc h;exact gf (hQ _ _ ⟨rfl,W,ad,.refl s,S,hD⟩)
 |st::sts,hm,ae,W,ad,fl,s,S,hD,h,E,Q,hQ=>ak h λQx h1 h=>by
  have one:∀(Q:WA->VY->Prop),(∀f s',yU C aj ag sc W s Qx f s'->Q f s')->aP (VB pw Wd) A (exec st ag) Q E s:=by
   intro Q hQ;cases hp:Ψ sc st ae with
   |some r=>simp only[hp]at h1;obtain rfl:=Xc h1;exact hP e S hD hp E Q hQ
   |none=>replace h1:=hp▸h1;exact hm st Yu S hD h1 E Q hQ
  refine ab (one _ λf s1 hf=>?_);rcases Qx with⟨⟩;case next v1=>refine ZK λhG=>?_;obtain⟨rfl,W1,ad1,m1,S1,Cw⟩:=hf;refine hG ?_;exact CE hP e (λy hy=>hm y (Yv _ hy)) S1 Cw h E Q λf s2 hf=>hQ f s2 (hf.trans m1)
  case brk v1=>obtain rfl:=Xc h;(refine aU (id hf) ?_;rintro(rfl)hg);exact ao (hQ _ _ hf)
  case cont v1=>obtain rfl:=Xc h;(refine aU (id hf) ?_;rintro(rfl)hg);exact ao (hQ _ _ hf)
  case ret d=>obtain rfl:=Xc h;(refine av (id hf) ?_;rintro v(rfl)hg);exact ao (hQ _ _ hf)
theorem Bv{a j a':Dat}(h:jU a j d=Xd a'):(∃ds,a'=.list ds)\/∃b,a'=.bg b:=by
 rcases a with⟨⟩;case list=>cases j with
  |int i=>exact aL h λx h=>.inl ⟨_,(Xc h).symm⟩|_=>exact aa h
 case bg=>cases j with
  |int i=>cases d with
   |int k=>exact aL h λx h=>.inr ⟨_,(Xc h).symm⟩|_=>exact aa h
  |_=>exact aa h
 all_goals (exact aa h)
theorem Ic {a a':Dat} (h:sP m a ds=Xd a'):(∃ds,a'= .list ds)∨∃b,a'= .bg b:=by
 rcases a with ⟨⟩
 case list=>match ds,h with
  |[d],h=>
   have h':(if m="append" then (if l.length + 1≤aS then Xd (.list (l++[d])) else Xe)
  else if m="extend" then (match d with| .tuple es=>if l.length + es.length≤aS then Xd (.list (l++es)) else Xe|_=>Xe)
  else if m="remove" then (if l.length≤aS then (zI d l).map .list else Xe)
  else Xe)=Xd a':=h
   split at h'
   ·exact aL h' λx h=> .inl ⟨_,(Xc h).symm⟩
   ·split at h'
    ·rcases d with ⟨⟩
     case tuple=>exact aL h' λx h=> .inl ⟨_,(Xc h).symm⟩
     all_goals (exact aa h')
    ·exact aL h' λx h'=>aL h' λx h=>ba h λes x h=> .inl ⟨_,h.symm⟩
 all_goals (exact aa h)
theorem changed{t:Nat}(S:SS C aj ag sc ae W ad s)(hD:dC ae)(hx:ae.lookup x=Xd (.own d))(x1:Ex C s s1)(hs:Ww (ad x) s1.heap h')(r:bl h' (λb=>aj b\/W b) (.ref (ad x)) a')(hd:(∃ds,a'=.list ds)\/∃b,a'=.bg b):Goes C aj ag sc W s ((x,.own a')::ae) {s1 with heap:=h',toks:=t}:=by refine bD (CV (t:=t) (S.ex x1) hD hx hs r hd) λm S2 Qn=>⟨W,ad,(Mv.iG x1).trans m,S2,Qn⟩
theorem iR(e:aR ag sc):interactive ag=false:=by unfold interactive;rw[e.kind];rfl
theorem Zbl{P:Prop}(h:(Xe:Option Fl)=Xd fl):P:=aa h
theorem rA{a:Dat}(S:SS C aj ag sc ae W ad s)(hx:ae.lookup x=Xd (.own a)):bl s.heap (λb=>aj b\/W b) (.ref (ad x)) a:=by refine av (S.bO.lo x _ hx) λw hw hr=>?_;obtain rfl:=hw.unique (S.own x a hx).1;exact hr.1
theorem zM{α:Type}{b:Bool}{y:Option α}{r:α}(h:bM b Xe y=Xd r):b=false/\y=Xd r:=by
 rcases b with⟨⟩;case true=>exact aa h
 case false=>exact⟨rfl,h⟩
theorem A7(hC:C.Ok)(hO:cA C n)(hF:cu C Φ n)(hA:dD C n A){es:List Expr}{j:Nat}{q pos:Pos}{value:Expr}{fl:Fl}(e:aR ag sc)(S:SS C aj ag sc ae W ad s)(hD:dC ae)(h:ex Φ Ψ sc (.Assign [.Tuple es j q] value pos) ae=Xd fl){Q:WA->VY->Prop}(hQ:∀f s',yU C aj ag sc W s fl f s'->Q f s'):aP (VB pw Wd) A (exec (.Assign [.Tuple es j q] value pos) ag) Q E s:=by refine aU (zM h) λhc h=>?_;rw[Bool.or_eq_false_iff]at hc;exact ak h λr h1 h=>ba h λv2 h2 h=>by subst h;refine bG (yn (bZ hC hO hF hA value) e S hD h1 λv s1 W1 x1 m1 S1 Cw r1=>?_) (iL (t:=Xd (.Tuple es j q)) (line:=pos.line) (ag:=ag) hc.1) (by rcases value with⟨⟩<;>first|rfl|cases hc.2);exact jT hA.handled e S1 Cw h2 r1 λs2 m2 S2 Qn=>hQ _ _ ⟨rfl,W1,ad,m1.trans m2,S2,Qn⟩
theorem C6(hC:C.Ok)(hO:cA C n)(hF:cu C Φ n)(hS:oY C n)(hA:dD C n A){x:VV}{i value:Expr}{xp q pos:Pos}{fl:Fl}(e:aR ag sc)(S:SS C aj ag sc ae W ad s)(hD:dC ae)(h:ex Φ Ψ sc (.Assign [.Subscript (.Name x xp) i q] value pos) ae=Xd fl){Q:WA->VY->Prop}(hQ:∀f s',yU C aj ag sc W s fl f s'->Q f s'):aP (VB pw Wd) A (exec (.Assign [.Subscript (.Name x xp) i q] value pos) ag) Q E s:=by refine aU (zM h) λhc h=>ak h λa hx h=>ak h λd h1 h=>ak h λj h2 h=>ba h λa' h3 h=>by subst h;have hx:=vG hx;refine gu (bZ hC hO hF hA value e S.bO h1 _ _ λv s1 x1 r1=>?_) (iL hc);have S1:=S.ex x1;refine iS e (S1.own x a hx).1 (bZ hC hO hF hA i e S1.bO h2 _ _ λu s2 x2 r2=>?_);have S2:=S1.ex x2;exact hS.sto h3 hA S2.bO.bs S2.bO.vo (.inr (S.own x a hx).2) (rA S2 hx) r2 (r1.ex S1.bO.vo x2) λs3 h' t x3 hs r3=>hQ _ _ ⟨rfl,changed S hD hx (x1.trans (x2.trans x3)) hs r3 (Bv h3)⟩
theorem Fx(hC:C.Ok)(hO:cA C n)(hF:cu C Φ n)(hS:oY C n)(hA:dD C n A)(e:aR ag sc)(S:SS C aj ag sc ae W ad s)(hD:dC ae)(h:ex Φ Ψ sc (.Expr (.Call (.Attribute (.Name x xp) m ap) args [] p) pos) ae=Xd fl){Q:WA->VY->Prop}(hQ:∀f s',yU C aj ag sc W s fl f s'->Q f s'):aP (VB pw Wd) A (exec (.Expr (.Call (.Attribute (.Name x xp) m ap) args [] p) pos) ag) Q E s:=aL h λhb h=>ak h λa hx h=>ak h λds h1 h=>ba h λa' h2 h=>by subst h;have hx:=vG hx;refine zd ?_ (iR e) rfl;refine av (hS.chg h2 S.bO.bs S.bO.vo (rA S hx)) λid hm call=>ab (iS e (S.own x a hx).1 (ab (au ?_)));have kf:=iB (pos:=p) (mH (ag:=ag) h1);have Jd:methodCallForm (args.length+0) (backTo p (starEach args ag)) (backToKw p (keywordEach [] ag))=true:=Jc kf hb.2;unfold methodCall;refine xR Jd (ab (az ?_));refine hm _ _ λr s2 x2 hr=>?_;subst hr;refine ab (Eq.mpr (Ve (λt=>aP (VB pw Wd) A t _ E s2) (t8 hb.1)) (ao ?_));have S2:=S.ex x2;refine cf (λu q=>by rcases q with⟨⟩) kf (cq kf (jt e (λy u=>bZ hC hO hF hA y) S2.bO h1) _ _ λz s3 x3 r3=>?_);obtain⟨ps,kw⟩:=z;refine aU r3 ?_;rintro(rfl)r3;have S3:=S2.ex x3;exact call hA S3.bO.bs S3.bO.vo (.inr (S.own x a hx).2) (rA S3 hx) r3 λs4 h' t x4 hs r4=>hQ _ _ ⟨rfl,changed S hD hx (x2.trans (x3.trans x4)) hs r4 (Ic h2)⟩
theorem Qu(hC:C.Ok)(hO:cA C n)(hF:cu C Φ n)(hA:dD C n A)(e:aR ag sc)(hb:uk C Φ Ψ aj ag sc A b)(S:SS C aj ag sc ae W ad s)(hD:dC ae)(h:((qF Φ sc it ae).bind λr=>(bP r.1).bind λar=>d9 (λd vs=>match bL sc t d vs with|none=>Xe|some vs=>cn Φ Ψ sc b vs) ar r.2)=Xd fl){Q:WA->VY->Prop}(hQ:∀f s',yU C aj ag sc W s fl f s'->Q f s'):aP (VB pw Wd) A (exec (.For t it b [] pos) ag) Q E s:=ak h λr h1 h=>ak h λar hit h=>by
  simp only[exec_For];refine ab (au (ab (yn (bZ hC hO hF hA it) e S hD h1 λv s1 W1 x1 m1 S1 Cw r1=>?_)));have kf:∀es k p,it≠.Set es k p:=by rintro es k p rfl;exact rH h1 (λq x=>aa q) λq x=>aa q
  refine xR (fq kf _) (ab (ao (ab (au (ab (az ?_))))));refine oj (W:=λa=>W1 a\/C.T a\/C.fr a) (.rep r1) hit (λa q=>q.elim (λq=>S1.bO.vo.there a (.inr q)) λq=>S1.bO.vo.there a (S1.bO.vo.tf a q)) (λa ha q=>r1.xD hit ha (q.elim .inr λq=>S1.bO.vo.tf a q)) λI h2 hI ur xI=>?_;have x2:Ex C s1 {s1 with heap:=h2}:=.of_keep ur rfl rfl;have nv:=S1.bO.vo.new hI;have nT:=λq=>nv (.inl (S1.tabs I q));have n0:C.h₀.get? I=Xe:=by cases q:C.h₀.get? I with|none=>rfl|some o=>have:=S1.bO.bs.keep I o q nT;replace this:=hI.symm.trans this;exact aa this
  refine eY ?_ nsm;exact Cy hA e hI nT n0 hb ar r.2 W1 ad {s1 with heap:=h2} fl xI (S1.ex x2) Cw (λq=>nv (.inl q)) (.iG x2) h λf s3 hf=>hQ f s3 (hf.trans m1)
theorem NT(hC:C.Ok)(hO:cA C n)(hF:cu C Φ n)(hS:oY C n)(hA:dD C n A)(hP:qf C Ψ A ag)(hZ:Ba C Φ Ψ A)(e:aR ag sc):∀(k:Nat)(aj:W8->Prop)(st:VW),sizeOf st<k->ExS C Φ Ψ aj ag sc A st:=by
 intro k;induction k with
 |zero=>exactλv x h=>((Xn _) h).elim
 |succ k ih=>
  intro aj st hk ae W ad fl s S hD h E Q hQ;have Ei:∀(rU:W8->Prop){b:List VW},sizeOf b<k->uk C Φ Ψ rU ag sc A b:=λrU{b}hb=>CE hP e λy hy=>ih rU y (Xr (XT hy) hb);have body:∀{b:List VW},sizeOf b<k->uk C Φ Ψ aj ag sc A b:=Ei aj;rcases CG h with⟨t,value,pos,rfl⟩|⟨value,pos,rfl⟩|⟨t,b,o,pos,rfl⟩|⟨t,it,b,pos,rfl⟩|⟨t,b,pos,rfl⟩|⟨x,pos,rfl⟩|⟨pos,rfl⟩
  ·have h:v8 Φ sc t value ae=Xd fl:=h;have ht:=R7 t;unfold v8 at h;generalize tgt t=g at ht h;rcases g with⟨⟩;case no=>exact Zbl h
   case name=>refine aI ht ?_;rintro xp(rfl);exact ba h λv1 h1 h=>C5 hC hO hF hS hA e S hD h1 λs1 hg=>hQ _ _ (h▸⟨rfl,hg⟩)
   case tup=>refine mr ht ?_;rintro es j q(rfl);exact A7 (Ψ:=Ψ) hC hO hF hA e S hD h hQ
   case item=>refine kK ht ?_;rintro xp q(rfl);exact C6 (Ψ:=Ψ) hC hO hF hS hA e S hD h hQ
  ·refine ak h λz h1 h=>?_;obtain⟨x,m,args,ap,p⟩:=z;refine aI (Ge h1) ?_;rintro xp(rfl);exact Fx hC hO hF hS hA e S hD h hQ
  ·have hb:sizeOf b<k/\sizeOf o<k:=by simp at hk;exact uv 0x420410494b32109bbbb02 rfl hk
   refine ak h λr h1 h=>OU (Mt (md hC hO hF hA t) e S hD h1 λs1 W1 m1 S1 Cw=>?_);cases hr:r.1 with|true=>rw[hr]at h;exact body hb.1 S1 Cw h E Q λf s2 hf=>hQ f s2 (hf.trans m1)|false=>rw[hr]at h;exact body hb.2 S1 Cw h E Q λf s2 hf=>hQ f s2 (hf.trans m1)
  ·have hb:sizeOf b<k:=by simp at hk;exact Bc 0x52095b432109bbbbb02 rfl hk
   cases hz:mB Φ sc it ae with
   |some z=>
    have h':bM (isTup t) ((ev Φ sc z.1 ae).bind λx=>(ev Φ sc z.2 ae).bind λy=>(OO x y).bind λzs=>d9 (λd vs=>match bL sc t d vs with|none=>Xe|some vs=>cn Φ Ψ sc b vs) zs ae) Xe=Xd fl:=by have h0:uQ Φ sc t it (λvs=>cn Φ Ψ sc b vs) ae=Xd fl:=h;unfold uQ at h0;rw[hz]at h0;exact h0
    cases ht:isTup t with|false=>rw[ht]at h';exact aa h'|true=>rw[ht]at h';exact ak h' λx h1 h=>ak h λy h2 h=>ak h λzs h3 h=>hZ e S hD hz ht h1 h2 h3 (λv=>Ei v hb) h E Q hQ
   |none=>
    have h':((qF Φ sc it ae).bind λr=>(bP r.1).bind λar=>d9 (λd vs=>match bL sc t d vs with|none=>Xe|some vs=>cn Φ Ψ sc b vs) ar r.2)=Xd fl:=by have h0:uQ Φ sc t it (λvs=>cn Φ Ψ sc b vs) ae=Xd fl:=h;unfold uQ at h0;replace h0:=hz▸h0;exact h0
    exact Qu hC hO hF hA e (body hb) S hD h' hQ
  ·have hb:sizeOf b<k:=by simp at hk;exact uv 0x41094b32109bbbb02 rfl hk
   exact EF (EK e (md hC hO hF hA t) (body hb) Φ.fuel ae W ad s fl S hD (.refl s) h hQ)
  ·exact ba h λr h1 h=>kB (yn (bZ hC hO hF hA x) e S hD h1 λv s1 W1 x1 m1 S1 Cw r1=>hQ _ _ (h▸⟨v,rfl,Rep.l6 (λa q=>.inl q) r1,S1.bO.bs,W1,m1⟩))
  ·obtain rfl:=Xc h;exact aq <|wpAny_Break (hQ _ _ ⟨rfl,W,ad,.refl s,S,hD⟩)
theorem vZ(hC:C.Ok)(hO:cA C n)(hF:cu C Φ n)(hS:oY C n)(hA:dD C n A)(hP:qf C Ψ A ag)(hZ:Ba C Φ Ψ A)(e:aR ag sc)(sts:List VW):uk C Φ Ψ aj ag sc A sts:=CE hP e λy x=>NT hC hO hF hS hA hP hZ e _ aj y (Xs _)
theorem JY(kindOf:VV->Option Wh):∀(binds:List (VV×VO))(m:VV->Option VO)(x:VV),kindOf x=Xd .local->bindL kindOf binds m x=(binds.reverse.lookup x).or (m x):=by
 intro binds;induction binds with
 |nil=>intro m x _;simp[bindL]
 |cons y0 r Aj=>
  intro m x hx;obtain⟨y,v⟩:=y0;unfold bindL;rw[Aj _ x hx,List.reverse_cons];have ha:∀(l:List (VV×VO)),(l++[(y,v)]).lookup x=(l.lookup x).or (if x=y then Xd v else Xe):=by
   intro l;induction l with
   |nil=>
    show YG x [(y,v)]=_;rw[YF];by_cases q:x=y
    ·subst q;simp
    ·have:(x==y)=false:=by rw[Vf];exact q
     rw[this,Vg q];rfl
   |cons p l ih=>rw[Zt,YF,YF];cases x==p.1 with|true=>rfl|false=>exact ih
  rw[ha];cases hl:r.reverse.lookup x with
  |some w=>rfl
  |none=>
   simp only[Option.none_or];by_cases q:x=y
   ·subst q;rw[Vh hx,Vh rfl,Vh rfl];rfl
   ·rw[Vg q];split
    ·dsimp only;rw[Vg q];rfl
    ·rfl
theorem JZ(kindOf:VV->Option Wh):∀(binds:List (VV×VO))(m:VV->Option VO)(x:VV),kindOf x≠Xd .local->bindC kindOf binds m x=(binds.reverse.lookup x).or (m x):=by
 intro binds;induction binds with
 |nil=>intro m x _;simp[bindC]
 |cons y0 r Aj=>
  intro m x hx;obtain⟨y,v⟩:=y0;unfold bindC;rw[Aj _ x hx,List.reverse_cons];have ha:∀(l:List (VV×VO)),(l++[(y,v)]).lookup x=(l.lookup x).or (if x=y then Xd v else Xe):=by
   intro l;induction l with
   |nil=>
    show YG x [(y,v)]=_;rw[YF];by_cases q:x=y
    ·subst q;simp
    ·have:(x==y)=false:=by rw[Vf];exact q
     rw[this,Vg q];rfl
   |cons p l ih=>rw[Zt,YF,YF];cases x==p.1 with|true=>rfl|false=>exact ih
  rw[ha];cases hl:r.reverse.lookup x with
  |some w=>rfl
  |none=>
   simp only[Option.none_or];by_cases q:x=y
   ·subst q;rw[Vg hx,Vh rfl,Vh rfl];rfl
   ·rw[Vg q];split
    ·rfl
    ·dsimp only;rw[Vg q];rfl
structure kS (sc:V5):Prop where
 kind:sc.kind=.function
 gen:sc.isGenerator=false
 co:sc.isCoroutine=false
 uniq:∀p∈sc.names,sc.names.lookup p.1=Xd p.2
 Pq:∀p∈sc.names,p.2≠.free
theorem wd(h:kS fd.scope)(hg:fd.globals=mainGlobals)(hb:fd.builtins=builtinsNs):aR (callEnvC fd L a) fd.scope:=by
 have nf:∀x,fd.scope.names.lookup x≠Xd .free:=λx q=>h.Pq _ (mem_of_lookup q) rfl;refine⟨h.kind,hg,hb,λx q=>q,λx q=>q,λx q=>q,λx q=>absurd q (nf x),λx q=>(Xa q (λq=>aI (ef (n:=L+1) (aY:=[]) (.inl (mem_of_lookup q))) λc hc=>eU hc) λq=>((nf x) q).elim),λx y c hx hy=>(mO (λz z q=>by rcases q with⟨⟩) (λz z z q=>by rcases q with⟨⟩) (mem_of_lookup hx) (mem_of_lookup hy))⟩
theorem xK{α:Type}:∀{l:List (VV×α)}{x:VV}{v:α},(l.map (·.1)).Nodup->(x,v)∈l->l.lookup x=Xd v:=by
 intro l;induction l with
 |nil=>intros;first|contradiction|(rename_i h;cases h)|(rename_i h _;cases h)|(rename_i h;exact nomatch h)
 |cons y0 r ih=>
  intro x v hn hm;obtain⟨y,w⟩:=y0;rw[YF];rw[YC,List.nodup_cons]at hn;refine Xa (Yw.mp hm) (λq=>?_) λq=>?_
  ·rcases q with⟨⟩;simp
  ·have:x≠y:=λz=>hn.1 (z▸List.mem_map_of_mem (f:=(·.1)) q);have hb:(x==y)=false:=by rw[Vf];exact this
   rw[hb];exact ih hn.2 q
theorem aK.zip{xs:List VV}(r:aK h ai vs ds):(x,d)∈xs.zip ds->∃v,(x,v)∈xs.zip vs/\Rep h ai v d:=r.ind (Q:=λvs ds=>∀xs:List VV,(x,d)∈xs.zip ds->∃v,(x,v)∈xs.zip vs/\Rep h ai v d) (λxs hm=>by simp at hm) (by
  intro v d' vs ds r rs ih xs hm;rcases xs with⟨⟩|⟨y,xs⟩
  ·simp at hm
  simp only[List.zip_cons_cons]at hm ⊢;refine Xa (Yw.mp hm) (λq=>?_) λq=>?_
  ·rcases q with⟨⟩;exact⟨_,Yu,r⟩
  ·refine av (ih xs q) λv h1 h2=>⟨v,Yv _ h1,h2⟩) xs
noncomputable def bq(xs:List VV)(ds:List Dat):ax:=(xs.zip ds).map λp=>(p.1,.val p.2)
theorem fE(h:(bq xs ds).lookup x=Xd sl):∃d,sl=.val d/\(x,d)∈xs.zip ds:=by have hm:=mem_of_lookup h;refine av (Yr.mp hm) λy0 h1 h2=>?_;obtain⟨y,d⟩:=y0;rcases h2 with⟨⟩;exact⟨d,rfl,h1⟩
noncomputable def Cx.at(C:Cx)(fr:W8->Prop):Cx:={C with fr:=fr}
theorem Cx.Ok.at(h:C.Ok)(fr:W8->Prop):(C.at fr).Ok:=⟨h.g,h.b,h.nolimit,h.builtins,h.uA⟩
def Cx.more(C:Cx)(L:W8):Cx:=C.at λa=>C.fr a\/a=L
theorem Bs.more(z:Bs C s)(h:cZ s.heap L):Bs (C.more L) s:=⟨z.keep,z.tab,z.gens,z.os,λa f=>f.elim (z.alive a) λq=>q▸h⟩
theorem Bs.less(z:Bs (C.more L) s):Bs C s:=⟨z.keep,z.tab,z.gens,z.os,λa f=>z.alive a (.inl f)⟩
theorem zz(h:kS fd.scope)(bs:Bs C s)(V:bz C ai s)(r:aK s.heap ai vs ds)(hx:xs.Nodup)(hlen:xs.length=ds.length)(hk:∀x∈xs,(fd.scope.names.lookup x=Xd .local\/fd.scope.names.lookup x=Xd .cell)/\(x==("__debug__":VV))=false/\(x==("__classdict__":VV))=false)(ic:InCallC s (callEnvC fd s.heap.objs.size a).locals (bindL (callEnvC fd s.heap.objs.size a).kindOf (xs.zip vs) λu=>Xe) (callEnvC fd s.heap.objs.size a).cells (bindC (callEnvC fd s.heap.objs.size a).kindOf (xs.zip vs) λu=>Xe) s'):SS (C.more s.heap.objs.size) ai (callEnvC fd s.heap.objs.size a) fd.scope (bq xs ds) (FW (callEnvC fd s.heap.objs.size a) fd.scope) (λu=>0) s'/\Ex C s s':=by
 generalize Qi:callEnvC fd s.heap.objs.size a=ag at *;have hL:ag.locals=s.heap.objs.size:=by refine xL Qi ?_;rfl
 have Rw:∀x,ag.kindOf x=fd.scope.names.lookup x:=λx=>by refine xL Qi ?_;rfl
 have tA:ag.cells=cellsFrom (s.heap.objs.size+1) fd.scope.names []:=by refine xL Qi ?_;rfl
 refine eT ic.done λh' tk Am hk'=>?_;have x1:Ex C s s':=by refine xR Am (.of_keep hk' rfl rfl)
 have kO:∀b,FW ag fd.scope b->s.heap.get? b=Xe:=λb q=>by
  refine Xa q (λq=>?_) λy0=>?_
  ·refine xR q (xR hL ?_);exact aJ _
  ·refine av y0 λx u q=>?_;have:=ic.above x b (mem_of_lookup q);replace this:=hL▸this;exact rh (Nat.le_of_lt this)
 have hvn:=λb q=>V.new (kO b q);have h0:∀b,FW ag fd.scope b->C.h₀.get? b=Xe:=λb q=>by cases e:C.h₀.get? b with|none=>rfl|some o=>have:=bs.keep b o e λt=>hvn b q (V.tabs b t);replace this:=(kO b q).symm.trans this;exact aa this
 have wu:=x1.bs bs;have Ut:((xs.zip vs).reverse.map (·.1)).Nodup:=by
  refine xR YA ?_;have:(xs.zip vs).map (·.1)=xs:=by rw[List.map_fst_zip];refine xR r.length (aO 0x1011022 hlen)
  refine xR this (Yd.mpr (List.Pairwise.imp (λq=>Xj q) hx))
 have V1:=V.ex x1 wu;have Mk:∀b,FW ag fd.scope b->∃o,s'.heap.get? b=Xd o:=λb q=>by
  refine Xa q (λq=>kJ ic.toInCall.ns λo u u ho u=>⟨o,q▸ho⟩) λy0=>av y0 λx u q=>av (ic.cell x b q) λo ho u=>⟨o,ho⟩
 have nT:=λb q t=>hvn b q (V.tabs b t);have bsm:Bs (C.more s.heap.objs.size) s':=wu.more (hL▸qP ic.toInCall.ns λo es ep ho hd y=>⟨o,es,ep,ho,hd⟩);refine⟨⟨⟨bsm,⟨λb t=>.inl (V.tabs b t),λb t=>t.elim (λt=>.inl (V.gZ b t)) λq=>.inr (.inl (q.trans hL.symm)),λb q=>q.elim (V1.there b) (Mk b)⟩,λx sl ta=>?_,λx c hc=>⟨_,ic.cell x c hc⟩⟩,⟨⟨_,ic.toInCall.ns⟩,.inr (.inl rfl),h0 _ (.inl rfl),λx c h1 h2=>⟨.inr (.inr ⟨x,h1,h2⟩),h0 _ (.inr ⟨x,h1,h2⟩),_,ic.cell x c h2⟩⟩,λu q=>q,hvn,V.tabs,λb t=>t.elim (λt=>.inl (V.gZ b t)) λq=>.inr (.inl (q.trans hL.symm)),h0,λx d ta=>?_,λx y d d' ta=>?_⟩,x1⟩
 ·refine av (fE ta) ?_;rintro d(rfl)hm;refine av (r.zip hm) λv hv hr=>?_;have hxm:=(List.of_mem_zip hm).1;refine bD (hk x hxm) λk1 k2 k3=>?_;have hlk:=xK Ut (Yj.mpr hv);refine⟨v,⟨k2,k3,?_⟩,(hr.mono λb o q nn=>⟨x1.keep b o q (λt=>nn (V.tabs b t)) λt=>nn (V.gZ b t),λz=>z.elim nn λz=>by replace q:=(kO b z).symm.trans q;exact aa q⟩)⟩
  ·refine Xa k1 (λk1=>?_) λk1=>?_
   ·refine .inl ⟨(Rw x).trans k1,_,ic.toInCall.ns,?_⟩;refine xR (JY _ _ _ _ ((Rw x).trans k1)) (xR hlk ?_);rfl
   ·have Ma:=(Rw x).trans k1;refine aI (ef (n:=s.heap.objs.size+1) (aY:=[]) (.inl (mem_of_lookup k1))) λc hc=>aI (eU hc) λc' l9=>?_;simp only[<-tA]at l9;refine .inr ⟨.inl Ma,c',l9,?_⟩;have:=ic.cell x c' l9;rw[JZ _ _ _ _ (by refine xR Ma ?_;decide),hlk]at this;exact this
 ·refine av (fE ta) λd' e u=>?_;rcases e with⟨⟩
 ·refine av (fE ta) λd' e u=>?_;rcases e with⟨⟩
theorem qu(xs:List VV)(ds:List Dat):dC (bq xs ds):=λx d h=>by refine av (fE h) λd' e y=>?_;rcases e with⟨⟩
theorem Bs.Ec(hC:C.Ok)(z:Bs C s)(h:C.h₀.CodeRec cd q):s.heap.CodeRec cd q:=by refine de h λc o vs t e1 e2 e3 e4=>⟨c,o,vs,t,e1,z.keep c o e2 ?_,e3,e4⟩;refineλy0=>mr y0 λc' p q' m=>?_;have:=(hC.uA c' c p q' m).1.2;rw[e2]at this;obtain rfl:=Xc this;rcases e3 with⟨⟩;simp at e4
theorem Bs.noLimit(hC:C.Ok)(z:Bs C s):s.heap.NoLimit:=by refine av hC.nolimit λmc y1 hm=>kJ y1 λo es ep ho r=>⟨mc,⟨o,es,ep,z.keep _ _ ho ?_,r⟩,hm⟩;refineλy0=>mr y0 λc p q m=>(hC.uA c _ p q m).2.1 rfl
theorem dD.deeper(h:dD C (n+1) A)(hk:ag.scope.kind=.function)(hf:ag.frame=Xd L)(h0:C.h₀.get? L=Xe):dD (C.more L) n (A.deeper ag):=by
 refine⟨h.handled,by have:=h.depth;show A.depth+1+n< _;exact bj 0x2190bb0291b0b02 this,by have:=h.units;show A.units+3+10*n+1000< _;exact bj 0x2000003e88f10ad03a0bbb02000003e88f91b0ad0bb02 this,?_⟩;refine av h.frames λfs h1 h2=>⟨ag::fs,by show A.frames.map _=_;rw[h1];rfl,λf hm=>?_⟩;refine Xa (Yw.mp hm) (λy0=>?_) λhm=>?_
 ·obtain rfl:=y0;exact⟨hk,L,hf,.inr rfl,h0⟩
 ·obtain⟨a,b,c,d,e⟩:=h2 f hm;exact⟨a,b,c,.inl d,e⟩
structure kI (C:Cx) (cd:VO) (name:VV) (ag:WH) (A:W6):Prop where
 code:ag.code=cd
 qual:ag.qual=name++".<locals>."
 frame:ag.frame=Xd ag.locals
 fr:C.fr ag.locals
 top:∃fs,A.frames=Xd (ag::fs)
theorem AQ(hC:C.Ok)(hO:∀fr,cA (C.at fr) n)(hF:∀fr,cu (C.at fr) Φ n)(hS:∀fr,oY (C.at fr) n)(hZ:∀{fr A},dD (C.at fr) n A->Ba (C.at fr) Φ Ψ A)(hP:∀{fr A ag},dD (C.at fr) n A->kI (C.at fr) cd name ag A->qf (C.at fr) Ψ A ag) (hT:¬C.T a) (ho:C.h₀.get? a=Xd o) (hd:o.data=.func (WK name params body scope pm cd doc)) (Ol:C.h₀.CodeRec cd name) (yO:kS scope) (hx:xs.Nodup) (hk:∀x∈xs,(scope.names.lookup x=Xd .local\/scope.names.lookup x=Xd .cell)/\(x==("__debug__":VV))=false/\(x==("__classdict__":VV))=false) (hlen:xs.length=es.length) (hA:dD C (n+1) A) (bs:Bs C s) (V:bz C ai s) (oy:Wp C A.in1 (bindArgs (WK name params body scope pm cd doc) ⟨vs,[]⟩) (λbs aA=>bs=xs.zip us/\aK aA.heap ai us es) s) (h:cn Φ Ψ scope body (bq xs es)=Xd (.ret d)):eS C A ai (VH (.ref a) vs) d s:=by
 intro E Q q
 refine kW (jx (B:=λaA=>Ex C s aA/\aK aA.heap ai us es) (by have:=hA.depth;exact bj 0x200291b0b02 this) (bs.keep a o ho hT) hd (bs.noLimit hC) (bs.Ec hC Ol) rfl (oy _ _ λb aA x p=>⟨p.1,x,p.2⟩) (λaA hb=>(hb.1.bs bs).noLimit hC) rfl (λaA hb p hp=>?_) (λs0 s1 hb ic=>?_) yO.co yO.gen yO.kind)
 ·obtain⟨x,v⟩:=p;refine Xa ((hk x (List.of_mem_zip hp).1).1) (λk1=>.inl k1) λk1=>?_
  ·refine .inr ⟨k1,?_⟩;refine aI (ef (n:=aA.heap.objs.size+1) (aY:=[]) (.inl (mem_of_lookup k1))) λc hc=>aI (eU hc) λc' l9=>xR l9 ?_;rfl
 ·have bs0:=hb.1.bs bs;refine aU (zz (C:=C) yO bs0 (V.ex hb.1 bs0) hb.2 hx hlen hk ic) λS x1=>?_;have e:aR (callEnvC (WK name params body scope pm cd doc) s0.heap.objs.size a) scope:=wd yO rfl rfl;have FT:dD (C.more s0.heap.objs.size) n (A.deeper (callEnvC (WK name params body scope pm cd doc) s0.heap.objs.size a)):=hA.deeper yO.kind rfl (S.kF.fl);refine av hA.frames λfs Od y=>vZ (hC.at _) (hO _) (hF _) (hS _) FT (hP FT ⟨rfl,rfl,rfl,.inr rfl,fs,by show A.frames.map _=_;refine xR Od ?_;rfl⟩) (hZ FT) e body S (qu xs es) h _ _ λf s2 hf=>?_;refine ZK λhG=>?_;obtain⟨v,rfl,hr,UD,W2,m⟩:=hf;refine hG ?_;have kO:∀b,FW (callEnvC (WK name params body scope pm cd doc) s0.heap.objs.size a) scope b->s0.heap.get? b=Xe:=λb z=>by
   cases e':s0.heap.get? b with
   |none=>rfl
   |some o'=>
    refine Xa z (λz=>?_) λy0=>?_
    ·have:b=s0.heap.objs.size:=z;rw[this,aJ]at e';exact aa e'
    ·refine av y0 λx y z=>?_;have:=ic.above x b (mem_of_lookup z);have h2:=this;rw[rh (Nat.le_of_lt h2)]at e';exact aa e'
  refine q v s2 (hb.1.trans ⟨λb o' e' t f=>m.keep b o' (x1.keep b o' e' t f) t (λz=>z.elim f λz=>by rw[z,aJ]at e';exact aa e') λz=>(by rw[kO b z]at e';exact aa e'),λb o' f e'=>?_,λy=>UD.less⟩) hr;refine av (x1.nz b o' f e') λo1 e1 d1=>av (m.nz b o1 (.inl f) (λz=>by rw[kO b z]at e';exact aa e') e1) λo2 e2 d2=>⟨o2,e2,d2.trans d1⟩
theorem M0(hC:C.Ok)(hO:∀fr,cA (C.at fr) n)(hF:∀fr,cu (C.at fr) Φ n)(hS:∀fr,oY (C.at fr) n)(hZ:∀{fr A},dD (C.at fr) n A->Ba (C.at fr) Φ Ψ A)(hP:∀{fr A ag},dD (C.at fr) n A->kI (C.at fr) cd name ag A->qf (C.at fr) Ψ A ag) (hT:¬C.T a) (ho:C.h₀.get? a=Xd o) (hd:o.data=.func (WK name params body scope pm cd doc)) (Ol:C.h₀.CodeRec cd name) (yO:kS scope) (hx:xs.Nodup) (hk:∀x∈xs,(scope.names.lookup x=Xd .local\/scope.names.lookup x=Xd .cell)/\(x==("__debug__":VV))=false/\(x==("__classdict__":VV))=false) (hlen:xs.length=ds.length) (oy:bindArgs (WK name params body scope pm cd doc) ⟨vs,[]⟩=pure (xs.zip vs)) (hA:dD C (n+1) A) (bs:Bs C s) (V:bz C ai s) (r:aK s.heap ai vs ds) (h:cn Φ Ψ scope body (bq xs ds)=Xd (.ret d)):eS C A ai (VH (.ref a) vs) d s:=AQ hC hO hF hS hZ hP hT ho hd Ol yO hx hk hlen hA bs V (by refine xR oy (Wp.pure ⟨rfl,r⟩)) h
end
theorem zD{i:Int}(h:aM i=true):WY.Int.intBits i<=64:=by refine aU (cG.mp h) λa b=>intBits_le (by lia)
theorem vK{n:Int}(h1:aM n=true)(h2:x.length*n.toNat<=aS):MulOk x n:=by
 refine aU (cG.mp h1) λa b=>⟨?_,λh3 h4=>?_,λh3 h4=>Va (Nat.not_lt.mpr (bK h2))⟩
 ·rw[Va (by lia),Va (by lia)];rfl
 ·intro hc;have hn:(n.toNat:Int)=n:=Zy (yW 0xf8890f732 h3);have h5:((x.length*n.toNat:Nat):Int)<=1000000:=ZA.mpr h2;rw[Int.natCast_mul,hn]at h5;have L8:0<n:=yW 0xf8790f732 h3;have h6:=hc;have h7:=Int.lt_mul_of_ediv_lt L8 h6;lia
theorem bS(r:bl h ai v (.list ds)):∃a o vs k,v=.ref a/\h.get? a=Xd o/\o.cls=.type "list"/\o.dict=Xe/\o.data=.seq vs.toArray k/\aK h ai vs ds:=r.qz
theorem aK.push(r:aK h ai vs ds):aK (h.push o) ai vs ds:=r.mono λb o' e nn=>⟨Wu o e,nn⟩
theorem Rep.new(V:bz C ai s)(r:aK s.heap ai vs ds):Rep (s.heap.push {cls:=.type "list",data:=.seq vs.toArray k,slots:=sl}) ai (.ref s.heap.objs.size) (.list ds):=.list (V.new (aJ _)) (Wt _ rfl) rfl rfl rfl r.push
theorem zV{i:Int}{t u:Tok}(gC:MulOk x i)(h:∀t' k,Q (.str (Txt.mul x i) t') {s with toks:=k}):Vw (VB prog w) A (binaryOp .Mult (.int i u) (.str x t)) Q E s:=by
 refine lm_binaryOp_repeat_right (by decide) (λs'=>typeIs_int s' i u) (Vy s x t) PySem.F.fills_int_mul noFill_str_mul PySem.F.slot_int_mul lm_noRepeat_int repeat_str WE.lookup (call_gives PySem.F.slot_int_mul (typeIs_int s i u) PySem.F.entry_int_mul (PySem.F.args_int_mul_2 _ _) (AutoIntG3.int___mul___int_str_0 i u x t) ⟨rfl,Vy s x t,call_gives PySem.F.slot_str_mul (Vy s x t) PySem.F.entry_str_mul (PySem.F.args_str_mul_2 _ _) (gives_str_mul x i t u gC.1 gC.2.1 gC.2.2) ?_⟩);unfold Txt.mul at h;by_cases h1:i<1
 ·rw[Vh h1];have h':=h s.toks (s.toks+1);rw[Vh h1]at h';exact⟨by decide,h'⟩
 ·rw[Vg h1];refine post_val_or_made (λhc=>fits_reps (gC.2.2 h1 (by simpa using hc))) λt' k=>?_;have h':=h t' k;rw[Vg h1]at h';exact h'
theorem Fz{i:Int}(ra:Rep s.heap ai v (.int i))(rb:Rep s.heap ai u (.str x))(hs:aM i=true/\x.length*i.toNat<=aS)(h:Xd (Dat.str (Txt.mul x i))=Xd d):eS C A ai (binaryOp .Mult v u) d s:=by refine aI ra.eQ ?_;rintro t(rfl);refine aI rb.i5 ?_;rintro t'(rfl);obtain rfl:=Xc h;exactλE Q q=>aq (zV (vK hs.1 hs.2) λt' k=>q _ _ .toks (.str _ _))
theorem Fy{i:Int}(ra:Rep s.heap ai v (.str x))(rb:Rep s.heap ai u (.int i))(hs:aM i=true/\x.length*i.toNat<=aS)(h:Xd (Dat.str (Txt.mul x i))=Xd d):eS C A ai (binaryOp .Mult v u) d s:=by refine aI ra.i5 ?_;rintro t(rfl);refine aI rb.eQ ?_;rintro t'(rfl);obtain rfl:=Xc h;exactλE Q q=>aq (SB.mul (vK hs.1 hs.2) λt' k=>q _ _ .toks (.str _ _))
theorem yJ{x y:List Dat}(V:bz C ai s)(ra:Rep s.heap ai v (.list x))(rb:Rep s.heap ai u (.list y))(hs:x.length+y.length<=aS)(h:Xd (Dat.list (x++y))=Xd d):eS C A ai (binaryOp .Add v u) d s:=by obtain rfl:=Xc h;refineλE Q q=>aq (de (bS (.rep ra)) ?_);rintro l y0 vs k1(rfl)ho hc y1;refine bD y1 λhn hd hr=>?_;obtain⟨c1,d1,Kp,w7⟩:=y0;refine de (bS (.rep rb)) ?_;rintro l2 y0 ws k2(rfl)o5 DW y1;refine bD y1 λhn2 hd2 vT=>?_;obtain⟨c2,d2,U2,uo⟩:=y0;obtain rfl:c1=_:=hc;obtain rfl:Kp=_:=hd;obtain rfl:c2=_:=DW;obtain rfl:U2=_:=hd2;refine concat_meets ⟨_,ho,rfl⟩ ⟨_,o5,rfl⟩ noFill_list_add seq_list_add PySem.F.slot_list_add PySem.F.entry_list_add (PySem.F.args_list_add_2 _ _) (list_addW l l2 vs.toArray ws.toArray k1 k2 d1 d2 w7 uo (by simp only[XS,hr.length,vT.length];exact bK hs)) ⟨ho,o5,?_⟩;rw[List.append_toArray];exact q _ _ .push (Rep.new V (hr.append vT))
theorem FK{x y:Int}(ra:Rep s.heap ai v (.int x))(rb:Rep s.heap ai u (.int y))(h:my op (.int x) (.int y)=Xd d):eS C A ai (binaryOp op v u) d s:=by
 refine aI ra.eQ ?_;rintro t(rfl);refine aI rb.eQ ?_;rintro t'(rfl);refineλE Q q=>aq ?_;have q':∀(i:Int)(t:Tok)(k:Nat),Xd (Dat.int i)=Xd d->Q (.int i t) {s with toks:=k}:=λi t k e=>q _ _ .toks (Xc e▸.int i t);rcases op with⟨⟩;case Add=>exact add_int (q' _ _ _ h)
 case Sub=>exact PyProof.Rows.sub_int (q' _ _ _ h)
 case Mult=>exact aL h λhs h=>PyProof.Rows.mul_int (q' _ _ _ h) (.of_left (zD (ZU.mp hs).1))
 case FloorDiv=>exact xX h λhs h=>floordiv_int (not_or.mp hs).1 (q' _ _ _ h) (.inl (PyProof.noPylong_small (Decidable.not_not.mp (not_or.mp hs).2)))
 case Mod=>exact xX h λhs h=>mod_int' hs (q' _ _ _ h)
 case Pow=>exact aL h λhs h=>by refine aU (cG.mp hs.2.2) λh4 h5=>pow_int_small hs.1 (by lia) (by lia) (q' _ _ _ h)
 all_goals (exact aa h)
theorem J1{a b:Dat}(bs:Bs C s)(V:bz C ai s)(ra:Rep s.heap ai v a)(rb:Rep s.heap ai u b)(h:my op a b=Xd d):eS C A ai (binaryOp op v u) d s:=by
 rcases QW h with⟨x,y,rfl,rfl⟩|⟨x,y,rfl,rfl⟩|⟨x,y,rfl,rfl⟩|⟨x,y,rfl,rfl⟩|⟨x,y,rfl,rfl⟩|⟨x,y,rfl,rfl⟩
 ·exact FK ra rb h
 ·refine bD (zW h) ?_;rintro(rfl)hs h;exact Fz ra rb hs h
 ·refine bD (zW h) ?_;rintro(rfl)hs h;exact Fy ra rb hs h
 ·refine bD (ug h) ?_;rintro(rfl)hs h;refine aI ra.i5 ?_;rintro t(rfl);refine aI rb.i5 ?_;rintro t'(rfl);obtain rfl:=Xc h;exactλE Q q=>aq (PyProof.Rows.add_str (λt' tk=>q _ _ .toks (.str _ _)) (bK hs))
 ·refine bD (ug h) ?_;rintro(rfl)hs h;refine aI ra.gH ?_;rintro t(rfl);refine aI rb.gH ?_;rintro t'(rfl);obtain rfl:=Xc h;refineλE Q q=>aq (KBy.add_bytes (by simp only[XS];exact Xy hs (by decide)) λt' k=>q _ _ .toks ?_);rw[List.append_toArray];exact .bytes _ _
 ·refine bD (ug h) ?_;rintro(rfl)hs h;exact yJ V ra rb hs h
theorem Kt{a:Dat}(ra:Rep s.heap ai v a)(h:unD op a=Xd d):eS C A ai (unaryOp op v) d s:=by
 rcases op with⟨⟩;case USub=>cases a with
  |int x=>refine aI ra.eQ ?_;rintro t(rfl);obtain rfl:=Xc h;exactλE Q q=>aq (PyProof.Rows.neg_int (q _ _ .toks (.int _ _)))
  |_=>exact aa h
 all_goals (exact aa h)
set_option tactic.hygienic true in
theorem bl.flat(r:bl h ai v d)(hl:∀ds,d≠.list ds)(hb:∀b,d≠.bg b):Rep h ai v d:=by
 rcases r with⟨⟩;case rep r=>exact r
 case list=>exact absurd rfl (hl _)
 case bg=>exact absurd rfl (hb _)
set_option tactic.hygienic true in
theorem O0{a:Dat}(r:bl s.heap ai v a)(h:kL a=Xd b):Wp C A (truthy v) (λt y=>t=b) s:=by
 rcases a with⟨⟩;case bool c=>obtain rfl:=(r.flat nofun nofun).Eh;exactλE Q q=>aq (Vi (q _ _ (.refl s) (Xc h)))
 case int i=>refine aI ((r.flat nofun nofun).eQ) ?_;rintro t(rfl);exactλE Q q=>aq (PyProof.Rows.truthy_int (q _ _ (.refl s) (Xc h)))
 case str x=>refine aI ((r.flat nofun nofun).i5) ?_;rintro t(rfl);exact aL h λhs h E Q q=>aq (PySem.P.truthy_str (by unfold aS at hs;lia) (q _ _ .toks (by show((x.length:Int) !=0)=b;rw[<-Xc h,ZR];simp[bne_iff_ne])))
 case list ds=>refine de (bS r) ?_;rintro l o vs k(rfl)ho tw y0;refine bD y0 λhn hd hr=>?_;exact aL h λhs h E Q q=>aq (wpAny_truthy_list ⟨o,ho,tw,_,hd⟩ (by have:=hr.length;unfold aS at hs;rw[XS];lia) (q _ _ .toks (by have e:=hr.length;rw[<-Xc h,<-e];rcases vs with⟨⟩<;>rfl)))
 all_goals (exact aa h)
theorem cE(hs:∀p q r t,slice≠.Slice p q r t)(o i:VO):subscripted slice false o i=operate [o,i] (getItem o i):=by rcases slice with⟨⟩<;>first|rfl|exact absurd rfl (hs _ _ _ _)
theorem fA(lo hi st:Option Expr)(p:Pos)(o i:VO):∃ops,subscripted (.Slice lo hi st p) false o i=operate ops (getItem o i):=by
 rcases st with⟨⟩;case none=>exact⟨_,rfl⟩
 case some=>exact⟨_,rfl⟩
theorem l8{i:Int}(h:ez i n=Xd k):seqIndex? i n=Xd k:=by
 unfold ez at h;split at h
 ·rename_i h0;split at h
  ·rename_i h1;obtain rfl:=Xc h;have h2:¬i<0:=yW 0x80f730f882 h0;simp[seqIndex?,h2,h0,h1]
  ·exact aa h
 ·rename_i h0;split at h
  ·rename_i h1;obtain rfl:=Xc h;have h2:i<0:=yW 0x80f70f8832 h0;have h3:i+(n:Int)<n:=Nu 0xaf0af0fb780f72 rfl h2;simp[seqIndex?,h2,h1,h3]
  ·exact aa h
theorem qW{i:Int}{t:Tok}{x:VO}(hl:s.heap.IsList l ar)(hi:aM i=true)(hk:ez i ar.size=Xd k)(hx:ar[k]?=Xd x)(hQ:Q x s):Vw (VB pw Wd) A (getItem (.ref l) (.int i t)) Q E s:=by
 refine aU (cG.mp hi) λh1 h2=>?_;unfold ez at hk;split at hk
 ·split at hk
  ·obtain rfl:=Xc hk;exact wpAny_getItem_list hl (by assumption) (by lia) hx hQ
  ·exact aa hk
 ·split at hk
  ·obtain rfl:=Xc hk;exact wpAny_getItem_list_neg hl (yW 0x80f70f8832 (by assumption)) (Nu 0xf0af9f80af0fb882 rfl (by assumption)) (by lia) hx hQ
  ·exact aa hk
theorem xV{i:Int}(r:bl s.heap ai v (.list ds))(ri:Rep s.heap ai u (.int i))(hs:∀p q r t,slice≠.Slice p q r t)(hi:aM i=true)(hk:ez i ds.length=Xd j)(h:ds[j]?=Xd d):eS C A ai (subscriptTail value slice v u) d s:=by refine de (bS r) ?_;rintro l o vs k(rfl)ho hc y0;refine bD y0 λhn hd hr=>aI ri.eQ ?_;rintro t(rfl);refine av (hr.get h) λx hx rx=>?_;have hl:s.heap.IsList l vs.toArray:=⟨o,ho,hc,_,hd⟩;exactλE Q q=>aq (tail_any hl.typeIs slot_list_getitem.lookup (qW hl hi (by rw[XS,hr.length];exact hk) (by rw[YX];exact hx) (q _ _ (.refl s) rx)) (cE hs _ _))
theorem uI{i:Int}(r:Rep s.heap ai v (.tuple ds))(ri:Rep s.heap ai u (.int i))(hs:∀p q r t,slice≠.Slice p q r t)(hi:aM i=true)(hk:ez i ds.length=Xd j)(h:ds[j]?=Xd d):eS C A ai (subscriptTail value slice v u) d s:=by refine de r.tuple' ?_;rintro l o vs k(rfl)_ ho y0;refine bD y0 λhc hd hr=>aI ri.eQ ?_;rintro t(rfl);refine av (hr.get h) λx hx rx=>?_;have ht:IsTup s.heap _ _:=⟨_,ho,hc,_,hd⟩;refine aU (cG.mp hi) λh1 h2=>λE Q q=>aq (tail_any ht.typeIs slot_tuple_getitem.lookup (getItem_tuple ht (by lia) (by lia) (l8 (by rw[XS,hr.length];exact hk)) (by rw[YX];exact hx) (q _ _ (.refl s) rx)) (cE hs _ _))
theorem Ae{i:Int}(r:Rep s.heap ai v (.str x))(ri:Rep s.heap ai u (.int i))(hs:∀p q r t,slice≠.Slice p q r t)(hi:aM i=true)(hk:ez i x.length=Xd j)(h:x.cps[j]?=Xd c):eS C A ai (subscriptTail value slice v u) (.str ⟨#[c]⟩) s:=by refine aI r.i5 ?_;rintro t(rfl);refine aI ri.eQ ?_;rintro t'(rfl);refine aU (cG.mp hi) λh1 h2=>λE Q q=>aq (tail_any (Vy _ _ _) PySem.F.slot_str_getitem.lookup (PySem.P.getItem_str (by rw[Va (by lia),Va (by lia)];rfl) (by rw[l8 hk];exact h) (q _ _ .toks (.str _ _))) (cE hs _ _))
theorem uJ{i:Int}(r:Rep s.heap ai v (.bytes b))(ri:Rep s.heap ai u (.int i))(hs:∀p q r t,slice≠.Slice p q r t)(hi:aM i=true)(hk:ez i b.length=Xd j)(h:b[j]?=Xd c):eS C A ai (subscriptTail value slice v u) (.int c.toNat) s:=by
 refine aI r.gH ?_;rintro t(rfl);refine aI ri.eQ ?_;rintro t'(rfl);refine aU (cG.mp hi) λh1 h2=>λE Q q=>aq (tail_any (VK _ _ _) VL.lookup (getItem_gives (VK s _ _) (by decide) VL FB.entry_bytes_getitem (FB.args_bytes_getitem_2 _ _) (gives_bytes_getitem _ i _ _ c ?_ ?_) (q _ _ .toks (.int _ _))) (cE hs _ _))
 ·simp only[WU,ZV,Vc];lia
 ·rw[XS,l8 hk];show b.toArray[j]?=Xd c;rw[YX];exact h
theorem zf{x:VV}{y:VO}:∀{ks:List VV}{us:List VO}{j:Nat},ks.idxOf? x=Xd j->us[j]?=Xd y->valueAt (ks.zip us) x=Xd y:=by
 intro ks;induction ks with
 |nil=>intro us j h;exact aa h
 |cons k ks ih=>
  intro us j h hy;cases us with
  |nil=>exact aa hy
  |cons u us=>
   have e:valueAt ((k::ks).zip (u::us)) x=if k=x then Xd u else valueAt (ks.zip us) x:=by
    unfold valueAt;rw[List.zip_cons_cons,List.find?_cons];by_cases q:k=x
    ·rw[Vb q,Vh q];rfl
    ·rw[Va q,Vg q]
   rw[e];rw[List.idxOf?_cons]at h;by_cases q:k=x
   ·rw[Vh q];rw[Vh (beq_iff_eq.mpr q)]at h;obtain rfl:=Xc h;exact hy
   ·rw[Vg q];rw[Vg (λz=>q (beq_iff_eq.mp z))]at h;exact ba h λi h1 h2=>by subst h2;exact ih h1 hy
theorem xW{ks:List VV}{es:List Dat}(r:Rep s.heap ai v (.dict ks es))(ri:Rep s.heap ai u (.str x))(hs:∀p q r t,slice≠.Slice p q r t)(hk:ks.idxOf? x=Xd j)(h:es[j]?=Xd d):eS C A ai (subscriptTail value slice v u) d s:=by refine EC r.U0 ?_;rintro a us(rfl)hv hd hl hr;refine aI ri.i5 ?_;rintro t(rfl);refine av (hr.get h) λy hy ry=>λE Q q=>aq (tail_any hd.typeIs slot_dict_getitem.lookup (wpAny_getItem_of (strKind_is pw Wd x t) hd.mapOf (zf hk hy) (q _ _ .toks ry)) (cE hs _ _))
theorem FH{a i:Dat}(bs:Bs C s)(V:bz C ai s)(r:bl s.heap ai v a)(ri:Rep s.heap ai u i)(h:ej a i=Xd d)(hs:∀p q r t,slice≠.Slice p q r t)(UC:∀b i d,a=.bg b->u=.int i d->eS C A ai (subscriptTail value slice v u) (.int ((b[(ez i b.length).getD 0]?).getD 0).toNat) s\/aM i=false\/ez i b.length=Xe):eS C A ai (subscriptTail value slice v u) d s:=by
 have key:∀{i:Int}{n:Nat}{f:Nat->Option Dat},Gp i n f=Xd d->aM i=true/\∃j,ez i n=Xd j/\f j=Xd d:=λh=>aL h λhi h=>ak h λj hk h=>⟨hi,j,hk,h⟩;refine Xa (L0 h) (λy0=>?_) λy1=>?_
 ·refine av y0 ?_;clear y0;rintro i(rfl)hv;rcases hv with⟨ds,rfl⟩|⟨ds,rfl⟩|⟨x,rfl⟩|⟨b,rfl⟩|⟨b,rfl⟩
  ·obtain⟨hi,j,hk,h⟩:=key h;exact xV r ri hs hi hk h
  ·obtain⟨hi,j,hk,h⟩:=key h;exact uI (r.flat nofun nofun) ri hs hi hk h
  ·obtain⟨hi,j,hk,h⟩:=key h;refine ba h λc hc h=>?_;subst h;exact Ae (r.flat nofun nofun) ri hs hi hk hc
  ·obtain⟨hi,j,hk,h⟩:=key h;refine ba h λc hc h=>?_;subst h;exact uJ (r.flat nofun nofun) ri hs hi hk hc
  ·obtain⟨hi,j,hk,h⟩:=key h;refine aI ri.eQ ?_;rintro t(rfl);refine ba h λc hc h=>?_;subst h;obtain z|z|z:=UC b i _ rfl rfl
   ·rw[hk]at z;have hg:((b[(Xd j:Option Nat).getD 0]?).getD 0).toNat=c.toNat:=Ve (λo:Option UInt8=>(o.getD 0).toNat) hc;exact hg▸z
   ·exact absurd (hi.symm.trans z) ZO
   ·exact aa (z.symm.trans hk)
 ·refine kJ y1 ?_;clear y1;rintro x ks vs(rfl)(rfl);exact ak h λj hk h=>xW (r.flat nofun nofun) ri hs hk h
theorem KG{p:We}(h:mQ (.str x)=Xd p):V8 x=true/\p=.str x:=aL h λhc h=>⟨hc,(Xc h).symm⟩
theorem zi{p:We}(h:mQ (.list ds)=Xd p):∃ps,eO ds=Xd ps/\p=.list ps:=by have h':(match eO ds with|some ps=>Xd (We.list ps)|none=>Xe)=Xd p:=h;cases e:eO ds with|none=>replace h':=e▸h';exact aa h'|some ps=>replace h':=e▸h';exact⟨ps,rfl,(Xc h').symm⟩
theorem R5(h:eO ds=Xd ps):mQ (.list ds)=Xd (.list ps):=by show(match eO ds with|some ps=>Xd (We.list ps)|none=>Xe)=_;rw[h]
theorem Za2{p:We}(h:mQ d=Xd p)(h2:eO ds=Xd ps):eO (d::ds)=Xd (p::ps):=by show(match mQ d with|none=>Xe|some p=>match eO ds with|none=>Xe|some ps=>Xd (p::ps))=_;rw[h,h2]
theorem EN{p:We}(h:mQ (.tuple ds)=Xd p):∃ps,eO ds=Xd ps/\p=.tuple ps:=by have h':(match eO ds with|some ps=>Xd (We.tuple ps)|none=>Xe)=Xd p:=h;cases e:eO ds with|none=>replace h':=e▸h';exact aa h'|some ps=>replace h':=e▸h';exact⟨ps,rfl,(Xc h').symm⟩
theorem EM(h:eO (d::ds)=Xd ps):∃p qs,mQ d=Xd p/\eO ds=Xd qs/\ps=p::qs:=by
 have h':(match mQ d with|none=>Xe|some p=>match eO ds with|none=>Xe|some ps=>Xd (p::ps))=Xd ps:=h;cases e:mQ d with
 |none=>replace h':=e▸h';exact aa h'
 |some p=>replace h':=e▸h';cases e2:eO ds with|none=>replace h':=e2▸h';exact aa h'|some qs=>replace h':=e2▸h';exact⟨p,qs,rfl,rfl,(Xc h').symm⟩
def Dc(h:Wz)(ai:W8->Prop)(d:Dat):Prop:=∀{v:VO}{p:We},Rep h ai v d->mQ d=Xd p->p.canLay0=true/\∃as,Reads h v p as
theorem BN(ih:∀{vs:List VO}{ps:List We},aK h ai vs ds->eO ds=Xd ps->Wc ps=true/\∃as,ReadsAll h vs ps as):Dc h ai (.list ds):=λr e=>by refine av (zi e) ?_;rintro ps hp(rfl);refine de r.qz ?_;rintro a o vs n(rfl)_ ho y0;refine nE y0 λhc x hd hr=>ZK λhG=>?_;obtain⟨h1,as,h2⟩:=ih hr hp;refine hG ⟨h1,_,reads_list_at ho hc hd h2⟩
theorem zJ(ih:∀{vs:List VO}{ps:List We},aK h ai vs ds->eO ds=Xd ps->Wc ps=true/\∃as,ReadsAll h vs ps as):Dc h ai (.tuple ds):=λr e=>by refine av (EN e) ?_;rintro ps hp(rfl);refine de r.tuple' ?_;rintro a o vs n(rfl)_ ho y0;refine bD y0 λhc hd hr=>ZK λhG=>?_;obtain⟨h1,as,h2⟩:=ih hr hp;refine hG ⟨h1,_,reads_tuple_at ho hc hd h2⟩
mutual
theorem vz:∀(d:Dat),Dc h ai d
 | .none=>λr e=>by obtain rfl:=r.SY;obtain rfl:=Xc e;exact⟨rfl,_,.none⟩
 | .bool b=>λr e=>by obtain rfl:=r.Eh;obtain rfl:=Xc e;exact⟨rfl,_,.bool b⟩
 | .int i=>λr e=>by(refine aI r.eQ ?_;rintro t(rfl));obtain rfl:=Xc e;exact⟨rfl,_,.int i t⟩
 | .str x=>λr e=>by(refine aI r.i5 ?_;rintro t(rfl));(refine aU (KG e) ?_;rintro hx(rfl));exact⟨hx,_,.str x t⟩
 | .list ds=>BN (jZ ds)
 | .tuple ds=>zJ (jZ ds)
 | .bytes _=>λy e=>aa e
 | .range _ _ _=>λy e=>aa e
 | .bg _=>λy e=>aa e
 | .dict _ _=>λy e=>aa e
 | .top _=>λy e=>aa e
 | .typ _=>λy e=>aa e
theorem jZ:∀(ds:List Dat){vs:List VO}{ps:List We},aK h ai vs ds->eO ds=Xd ps->Wc ps=true/\∃as,ReadsAll h vs ps as
 |[]=>λr e=>by rcases r with⟨⟩;obtain rfl:=Xc e;exact⟨rfl,_,.nil⟩
 |d::ds=>λr e=>by
  cases r with|cons r rs=>?_
  refine er (EM e) ?_;rintro p qs h1 h2(rfl)
  obtain⟨h3,as,h4⟩:=vz d r h1
  obtain⟨h5,bs,h6⟩:=jZ ds rs h2
  exact⟨by show(p.canLay0&&Wc qs)=true;rw[h3,h5];rfl,_,.cons h4 h6⟩
end
theorem Rep.reads{p:We}(r:Rep h ai v d)(e:mQ d=Xd p):p.canLay0=true/\∃as,Reads h v p as:=vz d r e
theorem aK.reads(r:aK h ai vs ds)(e:eO ds=Xd ps):Wc ps=true/\∃as,ReadsAll h vs ps as:=jZ ds r e
set_option tactic.hygienic true in
theorem bl.reads{p:We}(r:bl h ai v d)(e:mQ d=Xd p):p.canLay0=true/\∃as,Reads h v p as:=by
 rcases r with⟨⟩;case rep r=>exact r.reads e
 case list ho hc hn hd hr=>refine av (zi e) ?_;rintro ps hp(rfl);obtain⟨h1,as,h2⟩:=hr.reads hp;exact⟨h1,_,reads_list_at ho hc hd h2⟩
 case bg=>exact aa e
theorem lY{p:We}(h1:p.canLay0=true)(h2:p.depth<=60):SeqAt.shaped p=true:=by unfold SeqAt.shaped;rw[h1,Bool.true_and];exact Vb (Xy h2 (by decide))
theorem wb{a b:Dat}(h:mh a b=Xd r):∃p q,mQ a=Xd p/\mQ b=Xd q/\p.depth<=60/\q.depth<=60/\r=Wa p q:=by
 delta mh at h;cases hp:mQ a with
 |none=>rw[hp]at h;exact aa h
 |some p=>cases hq:mQ b with|none=>rw[hp,hq]at h;exact aa h|some q=>rw[hp,hq]at h;exact aL h λhd h=>⟨p,q,rfl,rfl,hd.1,hd.2,(Xc h).symm⟩
set_option tactic.hygienic true in
theorem My{a b:Dat}(h:Oy a b=Xd r):(∃x y,a=.bytes x/\b=.bytes y/\r=(x==y))\/mh a b=Xd r:=by
 rcases a with⟨⟩;case bytes x=>
  rcases b with⟨⟩;case bytes y=>exact .inl ⟨x,y,rfl,rfl,(Xc h).symm⟩
  all_goals exact .inr h
 all_goals exact .inr h
theorem wc{a b:Dat}(h:Oy a b=Xd r):(∃x y,a=.bytes x/\b=.bytes y/\r=(x==y))\/∃p q,mQ a=Xd p/\mQ b=Xd q/\p.depth<=60/\q.depth<=60/\r=Wa p q:=(My h).imp id wb
theorem Mx{a b:Dat}(hA:dD C n A)(ra:bl s.heap ai v a)(rb:bl s.heap ai u b)(h:Oy a b=Xd r):eS C A ai (compareOp .Eq v u) (.bool r) s:=by
 refineλE Q q=>aq (Xa (wc h) (λy0=>?_) λy1=>?_)
 ·refine er y0 ?_;rintro x y(rfl)(rfl)(rfl);(refine aI ((ra.flat nofun nofun).gH) ?_;rintro t(rfl));refine aI ((rb.flat nofun nofun).gH) ?_;rintro t'(rfl);refine compareOp_gives (VK s _ _) (VK s _ _) FB.slot_bytes_eq FB.entry_bytes_eq (FB.args_bytes_eq_2 _ _) (gives_bytes_eq _ _ _ _) (λe=>nomatch e) (q _ _ (.refl s) (.bool _))
 ·refine EC y1 ?_;rintro p p' hp N5 d1 d2(rfl);obtain⟨c1,as,r1⟩:=ra.reads hp;obtain⟨c2,bs,r2⟩:=rb.reads N5;exact eq_dataH r1 r2 (lY c1 d1) (lY c2 d2) (by have:=hA.units;exact bj 0x240a0b02000003e88f10ad0bb02 this) (q _ _ (.refl s) (.bool _))
theorem LB{a b:Dat}(hA:dD C n A)(ra:bl s.heap ai v a)(rb:bl s.heap ai u b)(h:Oy a b=Xd r):eS C A ai (compareOp .NotEq v u) (.bool !r) s:=by
 refineλE Q q=>aq (Xa (wc h) (λy0=>?_) λy1=>?_)
 ·refine er y0 ?_;rintro x y(rfl)(rfl)(rfl);(refine aI ((ra.flat nofun nofun).gH) ?_;rintro t(rfl));refine aI ((rb.flat nofun nofun).gH) ?_;rintro t'(rfl);refine compareOp_gives (VK s _ _) (VK s _ _) FB.slot_bytes_ne FB.entry_bytes_ne (FB.args_bytes_ne_2 _ _) (gives_bytes_ne _ _ _ _) (λe=>nomatch e) (q _ _ (.refl s) (.bool _))
 ·refine EC y1 ?_;rintro p p' hp N5 d1 d2(rfl);obtain⟨c1,as,r1⟩:=ra.reads hp;obtain⟨c2,bs,r2⟩:=rb.reads N5;exact ne_dataH r1 r2 (lY c1 d1) (lY c2 d2) (by have:=hA.units;exact bj 0x240a0b02000003e88f10ad0bb02 this) (q _ _ (.refl s) (.bool _))
theorem DR{a:Dat}(hA:dD C n A)(ra:bl s.heap ai v a)(rb:bl s.heap ai u (.list ds))(h:memD a ds=Xd r):eS C A ai (compareOp .In v u) (.bool r) s/\eS C A ai (compareOp .NotIn v u) (.bool !r) s:=by
 delta memD at h;cases hp:mQ a with
 |none=>rw[hp]at h;exact aa h
 |some p=>
  cases L7:eO ds with
  |none=>rw[hp,L7]at h;exact aa h
  |some ps=>
   rw[hp,L7]at h;refine aL h λhd h=>?_;obtain rfl:=Xc h;obtain⟨c1,as,r1⟩:=ra.reads hp;have e:=R5 L7;obtain⟨c2,bs,r2⟩:=rb.reads e;have hu:A.units+1+min (Wb ps) p.depth<cLine:=by have:=hA.units;have:=Nat.min_le_right (Wb ps) p.depth;exact uv 0x3491bb00413000003e88f20ad1bb03ca014 rfl hd (by assumption) this
   exact⟨λE Q q=>aq (SeqAt.in_list_reads r2 r1 c2 c1 hu (q _ _ (.refl s) (.bool _))),λE Q q=>aq (SeqAt.notIn_list_reads r2 r1 c2 c1 hu (q _ _ (.refl s) (.bool _)))⟩
theorem xv{a b:Dat}(ra:Rep s.heap ai v a)(rb:Rep s.heap ai u b)(h:Fq op a b=Xd r)(hQ:Q (.bool r) s):Vw (VB prog w) A (compareOp op v u) Q E s:=by
 rcases a with⟨⟩;case int=>cases b with
  |int y=>
   refine aI ra.eQ ?_;rintro t(rfl);refine aI rb.eQ ?_;rintro t'(rfl);rcases op with⟨⟩;case Lt=>obtain rfl:=Xc h;exact PyProof.Rows.lt_int hQ
   case LtE=>obtain rfl:=Xc h;exact PyProof.Rows.le_int hQ
   case Gt=>obtain rfl:=Xc h;exact PyProof.Rows.gt_int hQ
   case GtE=>obtain rfl:=Xc h;exact PyProof.Rows.ge_int hQ
   all_goals (exact aa h)
  |_=>exact aa h
 case str=>cases b with
  |str y=>
   refine aI ra.i5 ?_;rintro t(rfl);refine aI rb.i5 ?_;rintro t'(rfl);rcases op with⟨⟩;case Lt=>obtain rfl:=Xc h;exact PySem.P.lt_str hQ
   case LtE=>obtain rfl:=Xc h;exact PySem.P.le_str hQ
   case Gt=>obtain rfl:=Xc h;exact PySem.P.gt_str hQ
   case GtE=>obtain rfl:=Xc h;exact PySem.P.ge_str hQ
   all_goals (exact aa h)
  |_=>exact aa h
 all_goals (exact aa h)
theorem pR{a b:Dat}(hA:A.units+70<cLine)(ra:Rep s.heap ai v a)(rb:Rep s.heap ai u b)(h:mh a b=Xd r){Q:Bool->VY->Prop}(hQ:Q r s):Vw (VB prog w) A (eqBool v u) Q E s:=by refine EC (wb h) ?_;rintro p p' hp N5 d1 d2(rfl);obtain⟨c1,as,r1⟩:=ra.reads hp;obtain⟨c2,bs,r2⟩:=rb.reads N5;refine SeqAt.eqBoolOverData prog w A E s v u p p' as bs Q r1 r2 c1 c2 ?_ hQ;have:=Nat.min_le_left p.depth p'.depth;exact eg 0x130b02313ca21146a0b04 rfl hA d1 this
theorem head_drop{ar:Array VO}{i:Nat}{v:VO}{vs:List VO}(h:ar.toList.drop i=v::vs):ar[((i:Nat):Int).toNat]?=Xd v:=by rw[Zz,<-ZY];have:=Ve (λl:List VO=>l[0]?) h;simp only[Za,XH,Zb]at this;exact this
theorem sH{op:CmpOp}{z:Int}(hz:[CmpOp.Lt,.LtE,.Eq,.NotEq,.Gt,.GtE][z.toNat]?=Xd op)(hop:op=.Lt\/op=.LtE\/op=.Gt)(l b:W8)(ar cy:Array VO)(n n2:Nat)(dd GK:Option W8)(sl uo:Array (Option VO)):∀(ds es:List Dat)(xs ys:List VO)(i:Nat)(r:Bool),ar.toList.drop i=xs->cy.toList.drop i=ys->ar.size=i+xs.length->cy.size=i+ys.length->ij op ds es i=Xd r->Meets (WY.«list.__eq__.loop» ⟨[.ref l,.ref b,rawInt i,rawInt z],[]⟩) (λA R s=>s.heap.get? l=Xd {cls:=.type "list",dict:=dd,data:=.seq ar n,slots:=sl}/\s.heap.get? b=Xd {cls:=.type "list",dict:=GK,data:=.seq cy n2,slots:=uo}/\A.units+80<cLine/\aK s.heap ai xs ds/\aK s.heap ai ys es/\R (.ok (.ret (.bool r))) s):=by
 revert hz hop
 refine rR U8 ?_ b op l z ar cy ai n2 GK uo n dd sl
 generalize gE _ _=tt
 dsimp only[Gy]
 generalize tt.1.1.1.1=b,tt.1.1.1.2=op,tt.1.1.2.1=l,tt.1.1.2.2=z,tt.1.2.1.1=ar,tt.1.2.1.2=cy,tt.1.2.2=ai,tt.2.1.1.1=n2,tt.2.1.1.2=GK,tt.2.1.2=uo,tt.2.2.1.1=n,tt.2.2.1.2=dd,tt.2.2.2=sl
 intro hz hop
 intro ds
 induction ds with
 |nil=>intro es xs ys i r hx hy sx sy ho prog w A R s h;obtain⟨hp,g,d,tk,os⟩:=s;refine ED h ?_;clear h;intro hl hb hu r1 r2 h;rcases r1 with⟨⟩;have GG:=(Ve (ar[·]?) (Zz i)).trans (Array.getElem?_eq_none (Nat.le_of_eq sx));have e:=(Ve (HT op _) (sy.trans (Ve (i+·) r2.length))).trans ((Ve (HT op · _) sx).trans (Xc ho));wp_walk using Vn hl,Vn hb;erw [hz];wp_walk using Vn hl,Vn hb;rw[GG];wp_walk using Vn hl,Vn hb;subst e;refine Eq.mp (Ve (λx=>R (.ok (.ret x)) {heap:=hp,gens:=g,drawn:=d,toks:=tk,os:=os}) ?_) h;rcases op with⟨⟩<;>rfl
 |cons a ds ih=>
  intro es xs ys i r hx hy sx sy ho prog w A R s h;obtain⟨hp,g,d,tk,os⟩:=s;refine ED h ?_;clear h;intro hl hb hu r1 r2 h;cases r1 with| @cons v _ vs _ rv Rk=>have GG:=head_drop hx;cases r2 with
  |nil=>have Ry:=(Ve (cy[·]?) (Zz i)).trans (Array.getElem?_eq_none (Nat.le_of_eq sy));have e:=(Ve (HT op · _) (sx.trans (Ve (λx=>i+(x+1)) Rk.length))).trans ((Ve (HT op _) sy).trans (Xc ho));wp_walk using Vn hl,Vn hb;erw [hz];wp_walk using Vn hl,Vn hb;rw[GG,Ry];wp_walk using Vn hl,Vn hb;subst e;refine Eq.mp (Ve (λx=>R (.ok (.ret x)) {heap:=hp,gens:=g,drawn:=d,toks:=tk,os:=os}) ?_) h;rcases op with⟨⟩<;>rfl
  | @cons u b' us es ru rus=>
  have Ry:=head_drop hy;replace ho:(match mh a b' with|some true=>ij op ds es (i+1)|some false=>Fq op a b'|none=>Xe)=Xd r:=ho;cases he:mh a b' with
  |none=>rw[he]at ho;exact aa ho
  |some e=>
   rw[he]at ho;wp_walk using Vn hl,Vn hb;erw [hz];wp_walk using Vn hl,Vn hb;rw[GG,Ry];refine Vt (pR (by show A.units+1+70< _;exact aO 0x146a90bb0150a0b02 hu) rv ru he ?_);rcases e with⟨⟩;case true=>have go:=ih es vs us (i+1) r (by rw[<-Zo,hx];rfl) (by rw[<-Zo,hy];rfl) (sx.trans (Nat.add_right_comm i _ 1)) (sy.trans (Nat.add_right_comm i _ 1)) ho;wp_walk;exact⟨VA Wj _,VG Wk ((W4 Wj _)▸go prog w A R _ ⟨hl,hb,hu,Rk,rus,h⟩)⟩
   case false=>wp_walk using Vn hl,Vn hb;rw[GG,Ry];rcases hop with rfl|rfl|rfl<;>exact Vt (xv rv ru ho (Vk h))
theorem DL(l b:W8)(ar cy:Array VO)(n n2:Nat)(dd GK:Option W8)(sl uo:Array (Option VO))(ho:ij .Lt ds es 0=Xd r):Meets (WY.«list.__lt__» ⟨[.ref l,.ref b],[]⟩) (λA R s=>s.heap.get? l=Xd {cls:=.type "list",dict:=dd,data:=.seq ar n,slots:=sl}/\s.heap.get? b=Xd {cls:=.type "list",dict:=GK,data:=.seq cy n2,slots:=uo}/\A.units+80<cLine/\aK s.heap ai ar.toList ds/\aK s.heap ai cy.toList es/\R (.ok (.ret (.bool r))) s):=by
 intro prog w A R s h
 obtain⟨hp,g,d,tk,os⟩:=s;refine ED h λhl hb hu r1 r2 h=>?_
 have f3:=WZ
 wp_walk using Vn hl,Vn hb
 exact⟨VA Wj _,VG Wk (by exact(W4 Wj _)▸sH rfl (.inl rfl) l b ar cy n n2 dd GK sl uo ds es ar.toList cy.toList 0 r rfl rfl (by simp) (by simp) ho prog w A R _ ⟨hl,hb,hu,r1,r2,h⟩)⟩
theorem LM(l b:W8)(ar cy:Array VO)(n n2:Nat)(dd GK:Option W8)(sl uo:Array (Option VO))(ho:ij .LtE ds es 0=Xd r):Meets (WY.«list.__le__» ⟨[.ref l,.ref b],[]⟩) (λA R s=>s.heap.get? l=Xd {cls:=.type "list",dict:=dd,data:=.seq ar n,slots:=sl}/\s.heap.get? b=Xd {cls:=.type "list",dict:=GK,data:=.seq cy n2,slots:=uo}/\A.units+80<cLine/\aK s.heap ai ar.toList ds/\aK s.heap ai cy.toList es/\R (.ok (.ret (.bool r))) s):=by
 intro prog w A R s h
 obtain⟨hp,g,d,tk,os⟩:=s;refine ED h λhl hb hu r1 r2 h=>?_
 have f3:=WZ
 wp_walk using Vn hl,Vn hb
 exact⟨VA Wj _,VG Wk (by exact(W4 Wj _)▸sH rfl (.inr (.inl rfl)) l b ar cy n n2 dd GK sl uo ds es ar.toList cy.toList 0 r rfl rfl (by simp) (by simp) ho prog w A R _ ⟨hl,hb,hu,r1,r2,h⟩)⟩
theorem LN(l b:W8)(ar cy:Array VO)(n n2:Nat)(dd GK:Option W8)(sl uo:Array (Option VO))(ho:ij .Gt ds es 0=Xd r):Meets (WY.«list.__gt__» ⟨[.ref l,.ref b],[]⟩) (λA R s=>s.heap.get? l=Xd {cls:=.type "list",dict:=dd,data:=.seq ar n,slots:=sl}/\s.heap.get? b=Xd {cls:=.type "list",dict:=GK,data:=.seq cy n2,slots:=uo}/\A.units+80<cLine/\aK s.heap ai ar.toList ds/\aK s.heap ai cy.toList es/\R (.ok (.ret (.bool r))) s):=by
 intro prog w A R s h
 obtain⟨hp,g,d,tk,os⟩:=s;refine ED h λhl hb hu r1 r2 h=>?_
 have f3:=WZ
 wp_walk using Vn hl,Vn hb
 exact⟨VA Wj _,VG Wk (by exact(W4 Wj _)▸sH rfl (.inr (.inr rfl)) l b ar cy n n2 dd GK sl uo ds es ar.toList cy.toList 0 r rfl rfl (by simp) (by simp) ho prog w A R _ ⟨hl,hb,hu,r1,r2,h⟩)⟩
set_option tactic.hygienic true in
theorem HW{a b:Dat}(h:Fq op a b=Xd r):(∃x y,a=.int x/\b=.int y)\/∃x y,a=.str x/\b=.str y:=by
 rcases a with⟨⟩;case int x=>
  rcases b with⟨⟩;case int y=>exact .inl ⟨x,y,rfl,rfl⟩
  all_goals exact aa h
 case str x=>
  rcases b with⟨⟩;case str y=>exact .inr ⟨x,y,rfl,rfl⟩
  all_goals exact aa h
 all_goals exact aa h
set_option tactic.hygienic true in
theorem HV{a b:Dat}(h:Lu op a b=Xd r):(∃x y,a=.list x/\b=.list y)\/Fq op a b=Xd r:=by
 rcases a with⟨⟩;case list x=>
  rcases b with⟨⟩;case list y=>exact .inl ⟨x,y,rfl,rfl⟩
  all_goals exact .inr h
 all_goals exact .inr h
theorem n6{a b:Dat}(hA:dD C n A)(ra:bl s.heap ai v a)(rb:bl s.heap ai u b)(h:Lu op a b=Xd r)(hQ:Q (.bool r) s):Vw (VB prog w) A (compareOp op v u) Q E s:=by
 refine Xa (HV h) (λy=>?_) λh=>?_
 ·obtain⟨x,y,rfl,rfl⟩:=y;refine de (bS ra) ?_;rintro l y0 vs k1(rfl)ho hc y1;refine bD y1 λhn hd hr=>?_;obtain⟨c1,d1,Kp,w7⟩:=y0;refine de (bS rb) ?_;rintro l2 y0 ws k2(rfl)o5 DW y1;refine bD y1 λhn2 hd2 vT=>?_;obtain⟨c2,d2,U2,uo⟩:=y0;simp only at hc hd DW hd2;subst hc hd DW hd2;have hu:=hA.units;have fin:VO.bool r≠VO.notImplemented/\Q (.bool r) s:=⟨(λx=>nomatch x),hQ⟩;rcases op with⟨⟩;case Lt=>exact richCompare_meets_room (op:=.Lt) ⟨_,ho,rfl⟩ ⟨_,o5,rfl⟩ WD PySem.F.entry_list_lt (PySem.F.args_list_lt_2 _ _) (DL l l2 vs.toArray ws.toArray k1 k2 d1 d2 w7 uo h) ⟨ho,o5,by exact bj 0x250a0b02000003e88f10ad0bb02 hu,by simpa using hr,by simpa using vT,fin⟩ (bj 0x2002000003e88f10ad0bb02 hu)
  case LtE=>exact richCompare_meets_room (op:=.LtE) ⟨_,ho,rfl⟩ ⟨_,o5,rfl⟩ PySem.F.slot_list_le PySem.F.entry_list_le (PySem.F.args_list_le_2 _ _) (LM l l2 vs.toArray ws.toArray k1 k2 d1 d2 w7 uo h) ⟨ho,o5,by exact bj 0x250a0b02000003e88f10ad0bb02 hu,by simpa using hr,by simpa using vT,fin⟩ (bj 0x2002000003e88f10ad0bb02 hu)
  case Gt=>exact richCompare_meets_room (op:=.Gt) ⟨_,ho,rfl⟩ ⟨_,o5,rfl⟩ PySem.F.slot_list_gt PySem.F.entry_list_gt (PySem.F.args_list_gt_2 _ _) (LN l l2 vs.toArray ws.toArray k1 k2 d1 d2 w7 uo h) ⟨ho,o5,by exact bj 0x250a0b02000003e88f10ad0bb02 hu,by simpa using hr,by simpa using vT,fin⟩ (bj 0x2002000003e88f10ad0bb02 hu)
  all_goals exact aa h
 ·refine Xa (HW h) (λy=>?_) λy=>?_
  ·obtain⟨x,y,rfl,rfl⟩:=y;exact xv (ra.flat nofun nofun) (rb.flat nofun nofun) h hQ
  ·obtain⟨x,y,rfl,rfl⟩:=y;exact xv (ra.flat nofun nofun) (rb.flat nofun nofun) h hQ
set_option tactic.hygienic true in
theorem Ft{a b:Dat}(h:pW .NotIn a b=Xd r):(∃ds,b=.list ds/\(memD a ds).map (!·)=Xd r)\/∃x y,a=.str x/\b=.str y/\(!Txt.contains y x)=r:=by
 rcases b with⟨⟩;case list ds=>exact .inl ⟨ds,rfl,by rcases a with⟨⟩<;>exact h⟩
 case str y=>
  rcases a with⟨⟩;case str x=>exact .inr ⟨x,y,rfl,rfl,Xc h⟩
  all_goals exact aa h
 all_goals (rcases a with⟨⟩<;>exact aa h)
set_option tactic.hygienic true in
theorem PS{a b:Dat}(h:pW .In a b=Xd r):∃ds,b=.list ds/\memD a ds=Xd r:=by
 rcases b with⟨⟩;case list ds=>exact⟨ds,rfl,h⟩
 all_goals exact aa h
theorem JJ{a b:Dat}(hA:dD C n A)(ra:bl s.heap ai v a)(rb:bl s.heap ai u b)(h:pW op a b=Xd r):eS C A ai (compareOp op v u) (.bool r) s:=by
 revert op hA ra rb h;refine no_implicit_lambda% (ux (bT (bT (bT (bT pA zS) rB) (bT NQ NQ)) U8) ?_ s C A a b ai u v r n);generalize gE _ _=tt;dsimp only[GN];generalize tt.1.1.1.1=s,tt.1.1.1.2=C,tt.1.1.2=A,tt.1.2.1=a,tt.1.2.2=b,tt.2.1.1.1=ai,tt.2.1.1.2=u,tt.2.1.2=v,tt.2.2.1=r,tt.2.2.2=n;intro op hA ra rb h;rcases op with⟨⟩;case Eq=>exact Mx hA ra rb h
 case NotEq=>exact ba h λr' he e=>e▸LB hA ra rb he
 case Lt=>exactλE Q q=>aq (n6 hA ra rb h (q _ _ (.refl s) (.bool _)))
 case LtE=>exactλE Q q=>aq (n6 hA ra rb h (q _ _ (.refl s) (.bool _)))
 case Gt=>exactλE Q q=>aq (n6 hA ra rb h (q _ _ (.refl s) (.bool _)))
 case GtE=>exactλE Q q=>aq (n6 hA ra rb h (q _ _ (.refl s) (.bool _)))
 case In=>obtain⟨ds,rfl,h⟩:=PS h;exact(DR hA ra rb h).1
 case NotIn=>
  refine Xa (Ft h) (λy=>?_) λy=>?_
  ·obtain⟨ds,rfl,h⟩:=y;exact ba h λr' he e=>e▸(DR hA ra rb he).2
  ·obtain⟨x,y,rfl,rfl,rfl⟩:=y;cases ra.flat nofun nofun;cases rb.flat nofun nofun;exactλE Q q=>aq (PySem.P.notIn_str (q _ _ (.refl s) (.bool _)))
 all_goals exact aa h
theorem aK.picks(r:aK h ai vs ds):∀ks:List Nat,aK h ai (ks.filterMap (vs[·]?)) (ks.filterMap (ds[·]?))
 |[]=>.nil
 |k::ks=>by
  have ih:=r.picks ks;cases hd:ds[k]? with
  |none=>
   have hv:vs[k]?=Xe:=by rw[List.getElem?_eq_none_iff]at hd ⊢;rw[r.length];exact hd
   rw[List.filterMap_cons_none hd,List.filterMap_cons_none hv];exact ih
  |some d=>refine av (r.get hd) λv hv rv=>?_;rw[List.filterMap_cons_some hd,List.filterMap_cons_some hv];exact .cons rv ih
theorem aK.pick(r:aK h ai vs ds)(lo hi st:Option Int):aK h ai (pick vs lo hi st) (pick ds lo hi st):=by unfold Mine.Internal.pick;rw[r.length];exact r.picks _
theorem w6(vs:List VO)(lo hi st:Option Int):slicePick vs.toArray lo hi st=(pick vs lo hi st).toArray:=by unfold slicePick pick;simp only[XS,YX]
theorem fh{α:Type}(xs:List α)(lo hi:Option Int):pick xs lo hi Xe=(xs.drop (lo.elim 0 (clipAt xs.length))).take (hi.elim xs.length (clipAt xs.length)-lo.elim 0 (clipAt xs.length)):=by unfold pick;rw[sliceBounds_plain];simp only[sliceRange_one];have:=pick_run xs.toArray (lo.elim 0 (clipAt xs.length)) (hi.elim xs.length (clipAt xs.length)-lo.elim 0 (clipAt xs.length));simpa using this
theorem zL{α:Type}(xs:List α)(lo hi st:Option Int)(h0:st≠Xd 0):(pick xs lo hi st).length<=xs.length:=by
 unfold pick;refine Xy (List.length_filterMap_le _ _) (sliceRange_length_le _ _ _ _ (λhc=>⟨?_,?_⟩) λhc=>⟨?_,?_⟩)
 ·rcases lo with⟨⟩;case none=>exact ZG (Vh hc).symm
  case some=>exact ZF (Int.le_max_left 0 _) (ZG (Vh hc).symm)
 ·rcases hi with⟨⟩;case none=>exact ZG (Vh hc)
  case some=>exact ZF (ZG (Vh hc)) (Int.max_le.mpr ⟨ZC _,Int.min_le_right _ _⟩)
 ·rcases lo with⟨⟩;case none=>exact ZG (Vg hc)
  case some=>exact ZF (ZG (Vg hc)) (Int.max_le.mpr ⟨ZF (ZG (Int.zero_sub 1).symm) (Int.sub_le_sub_right (ZC _) 1),Int.min_le_right _ _⟩)
 ·rcases hi with⟨⟩;case none=>exact ZG (Vg hc).symm
  case some=>exact ZF (Int.le_max_left (-1) _) (ZG (Vg hc).symm)
theorem Hd(x:VV)(lo hi:Option Int):Txt.slice x lo hi=⟨(pick x.cps.toList lo hi Xe).toArray⟩:=by
 have e:WY.Str.strSliceIndices lo hi 1 x.length=sliceRange (sliceBounds lo hi Xe x.length).1 (sliceBounds lo hi Xe x.length).2.1 (sliceBounds lo hi Xe x.length).2.2:=by rcases lo with⟨⟩<;>rcases hi with⟨⟩<;>rfl
 unfold Txt.slice;split
 ·rename_i h;simp only[BEq.rfl,Bool.true_and,Vd]at h;rw[fh];rw[e,sliceBounds_plain]at h;simp only[sliceRange_one,YN,YL]at h;have hl:x.cps.toList.length=x.length:=by simp[VV.length]
  rw[hl];generalize hb:hi.elim x.length (clipAt x.length)=b at *;generalize ha:lo.elim 0 (clipAt x.length)=a at *;have Qk:b<=x.length:=by
   rw[<-hb];rcases hi with⟨⟩;case none=>exact Xz _
   case some=>show clipAt _ _<=_;unfold clipAt;exact Nu 0xaf0fdf8cfbf11 rfl
  by_cases hz:a=0
  ·rw[hz,Zm,XO (by exact eg 0x82c01132c21023 rfl hl h)]
  ·have:x.length=0:=bj 0x8228123201210c24 h Qk hz;have hx:=List.eq_nil_of_length_eq_zero (aO 0x8028121023 hl this);rw[hx];cases x with|mk c=>simp at hx;simp[hx]
 ·rw[e];unfold pick;have hl:x.cps.toList.length=x.length:=by simp[VV.length]
  rw[hl];simp only[ZY]
noncomputable def NL(v:VO):V0 VO:=do
 if v== .none then return .none
 if(<-specialOf v "__index__").isNone then rule "bytes.slice.part-no-index";raiseError "TypeError" "slice indices must be integers or None or have an __index__ method"
 return rawInt (<-asIndex v)
theorem sF{x:Option Int}(hp:Wn v x)(h:Q (rawPart x) s):Vw (VB prog w) A (NL v) Q E s:=by
 unfold NL;rcases hp with⟨⟩;case none=>exact Vk h
 case int=>refine wpAny_ite (KBy.ite_no (by simp) ?_);refine Vt (Vj (typeIs_int _ _ _) WE.lookup (wpAny_ite (KBy.ite_no (by simp) ?_)));exact Vt (Vl rfl (Vk h))
theorem uD{prog:Wf}{w:World}{a:W8}{o:Obj}{l:VO}{lo hi st:Option Int}(hl:Wn l lo)(hu:Wn u hi)(hv:Wn v st)(h0:st≠Xd 0)(ho:s.heap.get? a=Xd o)(hd:o.data=.fields #[l,u,v]){E:VO->VY->Prop}{Q:VO×VO×VO->VY->Prop}(h:Q (rawPart lo,rawPart hi,rawPart st) s):Vw (VB prog w) A (WY.Bytes.sliceParts (.ref a)) Q E s:=by
 refine Vt (Vq ho hd rfl (Vt (sF hv ?_)));have hn:¬((rawPart st==rawInt 0)=true):=by
  rcases hv with⟨⟩;case none=>exact ZP
  case int=>intro q;have:=eq_of_beq q;injection this with hi;exact h0 (by rw[hi])
 refine wpAny_ite (KBy.ite_no hn ?_);exact Vt (Vq ho hd rfl (Vt (sF hl (Vt (Vq ho hd rfl (Vt (sF hu (Vk h))))))))
theorem AV{b:List UInt8}{t:Tok}{a:W8}{l:VO}{lo hi st:Option Int}(hl:Wn l lo)(hu:Wn u hi)(hv:Wn v st)(h0:st≠Xd 0)(hz:b.length<=sizeLine):Meets (WY.«bytes.__getitem__» ⟨[.bytes b.toArray t,.ref a],[]⟩) (λy R s=>s.heap.IsSliceOf a l u v/\∀t' k,R (.ok (.ret (.bytes (pick b lo hi st).toArray t'))) {s with toks:=k}):=by
 revert l hl hu hv h0 hz;refine no_implicit_lambda% (OS U8 ?_ b lo hi st t a u v);generalize gE _ _=tt;dsimp only[K8];generalize tt.1.1.1=b,tt.1.1.2=lo,tt.1.2.1=hi,tt.1.2.2=st,tt.2.1.1=t,tt.2.1.2=a,tt.2.2.1=u,tt.2.2.2=v;refineλl hl hu hv h0 hz=>.of_wp λprog w A R s hS=>aU hS λy0 h=>dE y0 λo ho hc hd=>?_;have hT:s.TypeIs (.ref a) "slice":=⟨o,ho,hc⟩;show Vw _ _ (WT (.bytes b.toArray t)>>=λr=>_) _ _ s;refine Vt (Vl rfl ?_);show Vw _ _ (WQ (.ref a)>>=λr=>_) _ _ s;refine Vt ?_;unfold WQ;refine Vt (Vj hT slice_no_index (Vk ?_));refine Vt (wpAny_typeOf hT ?_);have go:Vw (VB prog w) A.in1 (sliceIndices (rawPart lo) (rawPart hi) (rawPart st) b.toArray.size) (λr s'=>r=sliceBounds lo hi st b.toArray.size/\s'=s) (λy y=>False) s:=Vl (sliceIndices_raw lo hi st b.toArray.size h0) ⟨rfl,rfl⟩;have e:WS b.toArray (sliceBounds lo hi st b.toArray.size).1 (sliceBounds lo hi st b.toArray.size).2.1 (sliceBounds lo hi st b.toArray.size).2.2=(pick b lo hi st).toArray:=by unfold WS pick;simp only[XS,YX]
 have rest:Vw (VB prog w) A.in1 (sliceIndices (rawPart lo) (rawPart hi) (rawPart st) b.toArray.size>>=λx=>do
   if x.1==0&&x.2.2==1&&x.2.1==b.toArray.size&& !b.toArray.isEmpty then if(<-typeOf (.bytes b.toArray t))== .type "bytes" then rule "bytes.__getitem__.whole";return <-ret (.bytes b.toArray t)
   ret (<-mkBytes (WS b.toArray x.1 x.2.1 x.2.2))) (λfin s'=>∃v,fin=.done (.ret v)/\R (.ok (.ret v)) s') (λe s'=>R (.error e) s') s:=by
  refine Vt (wpAny_mono go (λr s' hr=>?_) λy y e=>e.elim);refine aU hr λL6 vT=>?_;subst L6 vT;by_cases hw:((sliceBounds lo hi st b.toArray.size).1==0&&(sliceBounds lo hi st b.toArray.size).2.2==1&&(sliceBounds lo hi st b.toArray.size).2.1==b.toArray.size&& !b.toArray.isEmpty)=true
  ·rw[Vh hw];refine Vt (wpAny_typeOf (VK _ _ t) ?_);refine wpAny_ite (KBc.ite_yes rfl ?_);refine Vt (wpAny_rule ?_);refine Vk ⟨_,rfl,?_⟩;simp only[ZV,Vd]at hw;refine aU hw λy0 y=>aU y0 λy1 h3=>aU y1 λh1 h2=>?_;have e2:(pick b lo hi st).toArray=b.toArray:=by rw[<-e,h1,h2,h3];show WS b.toArray ((0:Nat):Int) ((b.toArray.size:Nat):Int) 1=b.toArray;unfold WS;rw[sliceRange_one,pick_run];simp
   have h':=h t s'.toks;rw[e2]at h';exact h'
  ·rw[Vg hw,e];exact Vt (wpAny_mkBytes (Vk ⟨_,rfl,h _ _⟩) (by rw[XS];exact Xy (zL b lo hi st h0) hz))
 exact Vt (uD hl hu hv h0 ho hd rest)
theorem DE(h:Wn v l):∃p:Option (Int×Tok),v=partValue p/\p.map (·.1)=l:=by
 rcases h with⟨⟩;case none=>exact⟨Xe,rfl,rfl⟩
 case int=>exact⟨Xd (i,t),rfl,rfl⟩
theorem uC{value:Expr}{lo hi st:Option Expr}{p:Pos}{ds:List Dat}{v1 v2 v3:VO}{l1 l2 l3:Option Int}{sl:W8}(V:bz C ai s)(r:bl s.heap ai v (.list ds))(hs:s.heap.IsSliceOf sl v1 v2 v3)(p1:Wn v1 l1)(p2:Wn v2 l2)(p3:Wn v3 l3)(h0:l3≠Xd 0)(hz:ds.length<=aS):eS C A ai (subscriptTail value (.Slice lo hi st p) v (.ref sl)) (.list (pick ds l1 l2 l3)) s:=by refineλE Q q=>aq (aI (fA lo hi st p v (.ref sl)) λops IM=>de (bS r) ?_);rintro l o vs k(rfl)ho hc y0;refine bD y0 λhn hd hr=>?_;have hl:s.heap.IsList l vs.toArray:=⟨o,ho,hc,_,hd⟩;refine tail_any hl.typeIs slot_list_getitem.lookup (wpAny_getItem_list_slice hl hs p1 p2 p3 h0 ?_ (by rw[XS,hr.length];exact bK hz)) IM;rw[w6];exact q _ _ .push (Rep.new V (hr.pick l1 l2 l3))
theorem su{value:Expr}{lo hi st:Option Expr}{p:Pos}{b:List UInt8}{v1 v2 v3:VO}{l1 l2 l3:Option Int}{sl:W8}(r:Rep s.heap ai v (.bytes b))(hs:s.heap.IsSliceOf sl v1 v2 v3)(p1:Wn v1 l1)(p2:Wn v2 l2)(p3:Wn v3 l3)(h0:l3≠Xd 0)(hz:b.length<=aS):eS C A ai (subscriptTail value (.Slice lo hi st p) v (.ref sl)) (.bytes (pick b l1 l2 l3)) s:=by refineλE Q q=>aq (aI (fA lo hi st p v (.ref sl)) λops IM=>aI r.gH ?_);rintro t(rfl);exact tail_any (VK _ _ _) VL.lookup (getItem_meets (VK _ _ _) (by decide) VL FB.entry_bytes_getitem (FB.args_bytes_getitem_2 _ _) (AV p1 p2 p3 h0 (bK hz)) ⟨hs,λt' k=>q _ _ .toks (.bytes _ _)⟩) IM
theorem w5{value:Expr}{lo hi st:Option Expr}{p:Pos}{x:VV}{v1 v2 v3:VO}{l1 l2 l3:Option Int}{sl:W8}(r:Rep s.heap ai v (.str x))(hs:s.heap.IsSliceOf sl v1 v2 v3)(p1:Wn v1 l1)(p2:Wn v2 l2)(p3:Wn v3 l3)(hz:x.length<=aS/\l3=Xe):eS C A ai (subscriptTail value (.Slice lo hi st p) v (.ref sl)) (.str ⟨(pick x.cps.toList l1 l2 l3).toArray⟩) s:=by
 refineλE Q q=>aq (aI (fA lo hi st p v (.ref sl)) λops IM=>aI r.i5 ?_);rintro t(rfl);obtain⟨hz,GF⟩:=hz;subst GF;refine av (DE p1) ?_;rintro q1(rfl)(rfl);refine av (DE p2) ?_;rintro q2(rfl)(rfl);rcases p3 with⟨⟩;refine tail_any (Vy _ _ _) PySem.F.slot_str_getitem.lookup (wpAny_getItem_str_slice (st:=Xe) hs rfl ?_) IM;have hp:=Hd x (q1.map (·.1)) (q2.map (·.1));unfold Txt.slice at hp;unfold sliceMade slicePicked;show Made.post (if((1:Int)==1&&(WY.Str.strSliceIndices (q1.map (·.1)) (q2.map (·.1)) 1 x.length).length==x.length)=true then _ else _) Q s;split
 ·rename_i hw;rw[Vh hw]at hp;refine q (.str x _) s (.refl s) ?_;rw[<-hp];exact .str _ _
 ·rename_i hw;rw[Vg hw]at hp;refine⟨?_,?_⟩
  ·show(List.filterMap _ _).toArray.size<=sizeLine;rw[XS];exact Xy (List.length_filterMap_le _ _) (Xy (sliceIndices_le _ _ _) (bK hz))
  ·refine q _ _ .toks ?_;rw[<-hp];exact .str _ _
theorem BC{value:Expr}{lo hi st:Option Expr}{p:Pos}{a d:Dat}{v1 v2 v3:VO}{l1 l2 l3:Option Int}{sl:W8}(bs:Bs C s)(V:bz C ai s)(r:bl s.heap ai v a)(hs:s.heap.IsSliceOf sl v1 v2 v3)(p1:Wn v1 l1)(p2:Wn v2 l2)(p3:Wn v3 l3)(h:fe a l1 l2 l3=Xd d):eS C A ai (subscriptTail value (.Slice lo hi st p) v (.ref sl)) d s:=by refine xX h λhh h=>?_;have h0:=λq=>hh (.inl q);cases a with|list ds=>exact aL h λhz h=>Xc h▸uC V r hs p1 p2 p3 h0 hz|bytes b=>exact aL h λhz h=>Xc h▸su (r.flat nofun nofun) hs p1 p2 p3 h0 hz|str x=>exact aL h λhz h=>Xc h▸w5 (r.flat nofun nofun) hs p1 p2 p3 hz|_=>exact aa h
theorem j9:Manifest.owners.lookup (String.ofList ['y','a','r','r','a','e','t','y','b'].reverse)=Xd Manifest.sig_bytearray:=by kernel_rfl
theorem mD:VX "bytearray" "__len__" "bytearray.__len__":=.of (owner:="bytearray") (n:="__len__") (by rw[Vx,VI];kernel_rfl) (by decide +kernel) (by decide +kernel) (by decide +kernel) (by first|exact .inl (by decide +kernel)|exact .inr (by decide +kernel)) (by rw[VC];kernel_rfl)
theorem tO:entryFor table "bytearray.__len__"=Xd WY.«bytearray.__len__»:=VF (by kernel_rfl)
theorem vh(a:VO):argsOk "bytearray.__len__" ⟨[a],[]⟩:=by unfold argsOk;rw[Vz (n:=['_','_','n','e','l','_','_']) (by kernel_rfl) j9];kernel_rfl
theorem mE:VX "bytearray" "__getitem__" "bytearray.__getitem__":=.of (owner:="bytearray") (n:="__getitem__") (by rw[Vx,VI];kernel_rfl) (by decide +kernel) (by decide +kernel) (by decide +kernel) (by first|exact .inl (by decide +kernel)|exact .inr (by decide +kernel)) (by rw[VC];kernel_rfl)
theorem tP:entryFor table "bytearray.__getitem__"=Xd WY.«bytearray.__getitem__»:=VF (by kernel_rfl)
theorem vi(a b:VO):argsOk "bytearray.__getitem__" ⟨[a,b],[]⟩:=by unfold argsOk;rw[Vz (n:=['_','_','m','e','t','i','t','e','g','_','_']) (by kernel_rfl) j9];kernel_rfl
theorem gg:VX "bytearray" "__setitem__" "bytearray.__setitem__":=.of (owner:="bytearray") (n:="__setitem__") (by rw[Vx,VI];kernel_rfl) (by decide +kernel) (by decide +kernel) (by decide +kernel) (by first|exact .inl (by decide +kernel)|exact .inr (by decide +kernel)) (by rw[VC];kernel_rfl)
theorem lQ:entryFor table "bytearray.__setitem__"=Xd WY.«bytearray.__setitem__»:=VF (by kernel_rfl)
theorem mP(a b c:VO):argsOk "bytearray.__setitem__" ⟨[a,b,c],[]⟩:=by unfold argsOk;rw[Vz (n:=['_','_','m','e','t','i','t','e','s','_','_']) (by kernel_rfl) j9];kernel_rfl
theorem J6(a:W8)(b:List UInt8)(n:Nat)(dd:Option W8)(sl:Array (Option VO))(i:Int)(u:Tok)(c:UInt8)(hr:WU i=true)(hc:(seqIndex? i b.length).bind (b[·]?)=Xd c):Meets (WY.«bytearray.__getitem__» ⟨[.ref a,.int i u],[]⟩) (λy R s=>s.heap.get? a=Xd {cls:=.type "bytearray",dict:=dd,data:=.bytearray b.toArray n,slots:=sl}/\R (.ok (.ret (.int c.toNat s.toks))) {s with toks:=s.toks+1}):=by
 refine .of_wp λprog w A R s hS=>aU hS λho h=>?_;show Vw _ _ (WQ (.int i u)>>=λr=>_) _ _ s;refine Vt ?_;unfold WQ;refine Vt (Vj (typeIs_int s i u) WE.lookup ?_);show Vw _ _ (if(!Builtin.Bytes.fitsIndex i)=true then _ else pure (Xd i)) _ _ s;rw[hr];refine Vk ?_;have hp:Vw (VB prog w) A.in1 (WT (.ref a)) (λx s'=>x=b.toArray/\s'=s) (λy y=>False) s:=by unfold WT;refine Vt (Vt (Vo ho (Vk (Vk ⟨rfl,rfl⟩))))
 refine Vt (wpAny_mono hp (λx s' hx=>?_) λy y f=>f.elim);refine aU hx ?_;rintro(rfl)(rfl);have:(seqIndex? i b.toArray.size).bind (b.toArray[·]?)=Xd c:=by simpa using hc
 rw[this];exact Vt (wpAny_mkInt (Vk ⟨_,rfl,h⟩))
set_option tactic.hygienic true in
theorem nU(r:bl h ai v (.bg b)):∃a o k,v=.ref a/\h.get? a=Xd o/\o.cls=.type "bytearray"/\o.data=.bytearray b.toArray k:=by
 rcases r with⟨⟩;case rep r=>(rcases r with⟨⟩;(case bg hv ho hc hd=>exact⟨_,_,_,rfl,ho,hc,hd⟩))
 case bg ho hc hd=>exact⟨_,_,_,rfl,ho,hc,hd⟩
theorem lD:cA C n where
 bin:=λx bs V ra rb h=>J1 bs V ra rb h;un:=λx x x ra h=>Kt ra h;cmp:=λhA x x ra rb h=>JJ hA ra rb h;tru:=λx x x r h=>O0 r h;slice:=λx bs V r hs p1 p2 p3 h=>BC bs V r hs p1 p2 p3 h;item:=λ{value slice a i d v u A s ai}x bs V r ri h hs=>FH bs V r ri h hs λb i t ea eu=>by
  subst ea eu;by_cases hi:aM i=true
  ·cases hk:ez i b.length with
   |none=>exact .inr (.inr rfl)
   |some j=>
    refine .inl λE Q q=>aq (jg (nU r) ?_);rintro a y0 k(rfl)ho hc hd;obtain⟨c1,d1,Kp,w7⟩:=y0;simp only at hc hd;subst hc hd;refine aU (cG.mp hi) λh1 h2=>?_;have hj:j<b.length:=by
     unfold ez at hk;split at hk
     ·split at hk
      ·obtain rfl:=Xc hk;exact Nu 0xfbf00af0f70f883 rfl (by assumption) (by assumption)
      ·exact aa hk
     ·split at hk
      ·obtain rfl:=Xc hk;exact Nu 0xaf0fbbf00af0fb880f8833 rfl (by assumption) (by assumption)
      ·exact aa hk
    have hb:=Y9 hj;refine tail_any ⟨_,ho,rfl⟩ mE.lookup (getItem_meets ⟨_,ho,rfl⟩ (by decide) mE tP (vi _ _) (J6 a b k d1 w7 i t b[j] ?_ ?_) ⟨ho,?_⟩) (cE hs _ _)
    ·simp only[WU,ZV,Vc];lia
    ·rw[l8 hk];exact hb
    ·refine q _ _ .toks ?_;rw[Option.getD_some,hb];exact .int _ _
  ·exact .inr (.inl (by simpa using hi))
set_option tactic.hygienic true in
theorem aK.set(rv:Rep h ai v d)(r:aK h ai vs ds):∀k,aK h ai (vs.set k v) (ds.set k d):=r.ind (Q:=λvs ds=>∀k,aK h ai (vs.set k v) (ds.set k d)) (λx=>.nil) λr rs ih k=>by
  rcases k with⟨⟩;case zero=>exact .cons rv rs
  case succ k=>exact .cons r (ih k)
theorem Obj.oM(hd:o.data=.bytearray b n)(f:Array UInt8->Array UInt8):∃n',(Obj.mapBytearray f o).data=.bytearray (f b) n'/\(Obj.mapBytearray f o).cls=o.cls:=by obtain⟨c,d,da,sl⟩:=o;simp only at hd;subst hd;exact⟨_,rfl,rfl⟩
theorem yZ{Q:Unit->VY->Prop}(ho:s.heap.get? a=Xd o)(hd:o.data=.bytearray b k)(hz:(f b).size<=sizeLine)(hQ:Q () {s with heap:=s.heap.update a (Obj.mapBytearray f)}):Vw (VB prog w) A (WO (.ref a) f) Q E s:=by
 show Vw _ _ (updateBytearray a f) _ _ s;unfold updateBytearray;refine Vt (Vo ho ?_);rw[hd];refine av (Obj.oM hd f) λn' di l9=>Vt (wpAny_update ho ?_);refine wpAny_lookBehind (Wr _ ho ?_) ?_ hQ
 ·obtain⟨c,d,da,sl⟩:=o;simp only at hd;subst hd;rfl
 ·rw[di];show(if(f b).size>sizeLine then _ else Xe)=Xe;rw[Vg (by exact aO 0x1031012 hz)]
theorem J5(a:W8)(o:Obj)(b:List UInt8)(n:Nat)(i x:Int)(u v:Tok)(hr:WU i=true)(h0:0<=i)(h1:i<b.length)(hx:0<=x)(ta:x<256)(hz:b.length<=sizeLine)(hd:o.data=.bytearray b.toArray n):Meets (WY.«bytearray.__setitem__» ⟨[.ref a,.int i u,.int x v],[]⟩) (λz R s=>s.heap.get? a=Xd o/\R (.ok (.ret .none)) {s with heap:=s.heap.update a (Obj.mapBytearray (·.setIfInBounds i.toNat x.toNat.toUInt8))}):=by
 revert hr h0 h1 hx ta hz hd;refine OS U8 ?_ i x a b u v o n;generalize gE _ _=tt;dsimp only[K8];generalize tt.1.1.1=i,tt.1.1.2=x,tt.1.2.1=a,tt.1.2.2=b,tt.2.1.1=u,tt.2.1.2=v,tt.2.2.1=o,tt.2.2.2=n;refineλhr h0 h1 hx ta hz hd=>.of_wp λprog w A R s hS=>aU hS λho h=>Vt ?_;unfold WQ;refine Vt (Vj (typeIs_int s i u) WE.lookup ?_);show Vw _ _ (if(!Builtin.Bytes.fitsIndex i)=true then _ else pure (Xd i)) _ _ s;rw[hr];refine Vk ?_;have hbv:WW (.int x v)=pure x.toNat.toUInt8:=by unfold WW;show(if(decide (x<0)||decide (x>=256))=true then _ else _)=_;rw[Vg (by simp;exact yW 0x1008f0f70f884000001008f0f70f883 hx ta)]
 refine Vt (Vl hbv ?_);have hp:Vw (VB prog w) A.in1 (WT (.ref a)) (λx s'=>x=b.toArray/\s'=s) (λz z=>False) s:=by unfold WT;refine Vt (Vt (Vo ho ?_));rw[hd];exact Vk (Vk ⟨rfl,rfl⟩)
 refine Vt (wpAny_mono hp (λx' s' ta=>?_) λz z f=>f.elim);refine aU ta ?_;rintro(rfl)(rfl);have e:seqIndex? i b.toArray.size=Xd i.toNat:=by have h2:¬i<0:=yW 0x80f730f882 h0;simp[seqIndex?,h2,h0,h1]
 show Vw _ _ (match seqIndex? i b.toArray.size with|some k=>(do WO (.ref a) (·.setIfInBounds k x.toNat.toUInt8);return <-ret .none)|none=>_) _ _ _;rw[e];refine Vt (yZ ho hd ?_ (Vk ⟨_,rfl,h⟩));rw[ZX,XS];exact hz
theorem AF(hd:o.data=.seq xs n):(Obj.mapSeq f o).dict=o.dict:=by obtain⟨c,d,da,sl⟩:=o;obtain rfl:da=_:=hd;rfl
theorem uO(hd:o.data=.bytearray xs n):(Obj.mapBytearray f o).isFreed=false:=by obtain⟨c,d,da,sl⟩:=o;obtain rfl:da=_:=hd;rfl
theorem zw{i:Int}{p:W8}{Q:Unit->VY->Prop}(hh:0<=i/\i<(ds.length:Int)/\ds.length<=aS)(hp:ai p)(r:bl s.heap ai (.ref p) (.list ds))(rj:Rep s.heap ai u (.int i))(rd:Rep s.heap ai v d)(hQ:∀s1 h' t,Ex C s s1->Ww p s1.heap h'->bl h' ai (.ref p) (.list (ds.set i.toNat d))->Q () {s1 with heap:=h',toks:=t}):aP (VB pw Wd) A (setItem (.ref p) u v) Q E s:=by
 revert d u hh hp r rj rd hQ;refine no_implicit_lambda% (ux (bT (bT (bT (bT zS pA) rB) U8) U8) ?_ C s A p v E Q i ai ds);generalize gE _ _=tt;dsimp only[GN];generalize tt.1.1.1.1=C,tt.1.1.1.2=s,tt.1.1.2=A,tt.1.2.1=p,tt.1.2.2=v,tt.2.1.1.1=E,tt.2.1.1.2=Q,tt.2.1.2=i,tt.2.2.1=ai,tt.2.2.2=ds;refineλd u hh hp r rj rd hQ=>aq (de (bS r) λl o vs k e ho hc y0=>bD y0 λhn hd hr=>?_);rcases e with⟨⟩;refine aI rj.eQ ?_;rintro t(rfl);have hl:s.heap.IsList p vs.toArray:=⟨o,ho,hc,_,hd⟩;refine bD hh λh0 h1 cU=>?_;unfold aS at cU;have ZbT:i<2^63:=Int.lt_trans h1 (ZE (ZA.mpr cU) (by decide +kernel));unfold setItem;refine Vp (Vt (wpAny_sequenceKey hl.typeIs (by decide) ?_));refine Vt (Vs hl.typeIs slot_list_setitem (Vr slot_list_setitem hl.typeIs entry_list_setitem ?_ (args_list_setitem _ _ _)));show Vw _ _ (WY.List.listSubscript? (.int i _)>>=_) _ _ s;refine Vt (wpAny_listSubscript_int (fitsIndex_of h0 ZbT) ?_);refine aI (Int.eq_ofNat_of_zero_le h0) ?_;rintro j(rfl);rw[Zz]at hQ;have hj:j<vs.length:=by rw[hr.length];exact aO 0x1001af0af72 h1
 refine Vt (Vt (wpAny_seqItemAt ho hd (Vk ?_)));have ta:vs.toArray[j]?=Xd vs[j]:=by simp[hj]
 rw[ta];refine aI (Obj.data_mapSeq hd (·.setIfInBounds j v)) λn' di=>Vt (wpAny_setSeqItemAt ho hd ?_);have fin:Q () {s with heap:=s.heap.update p (Obj.mapSeq (·.setIfInBounds j v))}:=by
  have sb:Ww p s.heap (s.heap.update p (Obj.mapSeq (·.setIfInBounds j v))):=Wv ..;refine hQ s _ s.toks (.refl s) sb (.list (vs:=vs.set j v) (n:=n') (Wr _ ho (Obj.isFreed_of_seq di)) ((Obj.cls_mapSeq ..).trans hc) ?_ ?_ ?_)
  ·exact(AF hd).trans hn
  ·rw[di,List.setIfInBounds_toArray]
  ·refine(hr.set rd j).mono λb ob e nn=>⟨?_,nn⟩;exact(sb.2 b λq=>nn (q▸hp)).trans e
 first|exact Vt (Vk (Vk ⟨.none,rfl,Vk fin⟩))|exact Vk ⟨.none,rfl,Vk fin⟩
theorem zx{i k:Int}{p:W8}{Q:Unit->VY->Prop}(hh:0<=i/\i<(b.length:Int)/\b.length<=aS/\0<=k/\k<256)(r:bl s.heap ai (.ref p) (.bg b))(rj:Rep s.heap ai u (.int i))(rd:Rep s.heap ai v (.int k))(hQ:∀s1 h' t,Ex C s s1->Ww p s1.heap h'->bl h' ai (.ref p) (.bg (b.set i.toNat k.toNat.toUInt8))->Q () {s1 with heap:=h',toks:=t}):aP (VB pw Wd) A (setItem (.ref p) u v) Q E s:=by
 refine aq (jg (nU r) λl o n' e ho hc hd=>?_);rcases e with⟨⟩;refine aI rj.eQ ?_;rintro t(rfl);refine aI rd.eQ ?_;rintro t'(rfl);refine rQ hh λh0 h1 h2 h3 h4=>?_;have hz:=bK h2;unfold aS at h2;have hT:s.TypeIs (.ref p) "bytearray":=⟨_,ho,hc⟩;unfold setItem;refine Vp (Vt (wpAny_sequenceKey hT (by decide) ?_));refine Vt (Vs hT gg (call_meets gg hT lQ (mP _ _ _) (J5 p o b n' i k _ _ ?_ h0 h1 h3 h4 hz hd) ⟨ho,Vk ?_⟩))
 ·simp only[WU,ZV,Vc];exact⟨ZF (by decide +kernel) h0,Int.lt_trans h1 (ZE (ZA.mpr h2) (by decide +kernel))⟩
 ·refine av (Obj.oM hd (·.setIfInBounds i.toNat k.toNat.toUInt8)) λm di l9=>hQ s _ s.toks (.refl s) (Wv ..) (.bg (n:=m) (Wr _ ho ?_) (l9.trans hc) ?_)
  ·exact uO hd
  ·rw[di,List.setIfInBounds_toArray]
theorem Hg{a j a':Dat}{p:W8}{Q:Unit->VY->Prop}(h:jU a j d=Xd a')(bs:Bs C s)(V:bz C ai s)(hp:ai p)(r:bl s.heap ai (.ref p) a)(rj:Rep s.heap ai u j)(rd:Rep s.heap ai v d)(hQ:∀s1 h' t,Ex C s s1->Ww p s1.heap h'->bl h' ai (.ref p) a'->Q () {s1 with heap:=h',toks:=t}):aP (VB pw Wd) A (setItem (.ref p) u v) Q E s:=by
 rcases a with⟨⟩;case list=>cases j with
  |int i=>exact aL h λhh h=>zw hh hp r rj rd (Xc h▸hQ)|_=>exact aa h
 case bg=>cases j with
  |int i=>cases d with
   |int k=>exact aL h λhh h=>zx hh r rj rd (Xc h▸hQ)|_=>exact aa h
  |_=>exact aa h
 all_goals (exact aa h)
section
open AutoSeq1 (wpAny_loadPart')
theorem size_erase_le(xs:Array VO)(k:Nat):(xs.eraseIdxIfInBounds k).size<=xs.size:=MeetsSeq.size_erased xs k
theorem s9{x y:Dat}{ys:List Dat}:m9 x (y::ys) k=(match mh y x with|some true=>Xd k|some false=>m9 x ys (k+1)|none=>Xe):=rfl
theorem BL{x:Dat}:∀{ds kG:List Dat},zI x ds=Xd kG->∃j,j<ds.length/\kG=ds.eraseIdx j/\m9 x ds 0=Xd j:=by
 intro ds;induction ds with
 |nil=>intro _ h;exact aa h
 |cons y ys Aj=>
  intro kG h;dsimp only[zI]at h;cases he:mh y x with
  |none=>rw[he]at h;exact aa h
  |some b=>
   rw[he]at h;rcases b with⟨⟩;case true=>obtain rfl:=Xc h;exact⟨0,by simp,rfl,by rw[s9,he]⟩
   case false=>
    simp only at h;cases hr:zI x ys with
    |none=>rw[hr]at h;exact aa h
    |some zs=>
     rw[hr]at h;obtain rfl:=Xc h;refine dE (Aj hr) λj h1 h2 h3=>⟨j+1,by simpa using h1,by rw[h2];rfl,?_⟩;rw[s9,he];have shift:∀(l:List Dat)(k m:Nat),m9 x l k=Xd m->m9 x l (k+1)=Xd (m+1):=by
      intro l;induction l with
      |nil=>exactλk m h=>aa h
      |cons z l ih=>
       intro k m h;rw[s9]at h ⊢;cases e:mh z x with
       |none=>rw[e]at h;exact aa h
       |some b=>
        rw[e]at h;cases b with
        |true=>obtain rfl:=Xc h;rfl
        |false=>exact ih _ _ h
     exact shift _ _ _ h3
theorem E9(l:W8)(ar:Array VO)(n:Nat)(Ju:Option W8)(Hp:Array (Option VO))(x:VO)(dx:Dat)(lJ:ar.size<=sizeLine):∀(ds:List Dat)(xs:List VO)(i j:Nat),ar.toList.drop i=xs->m9 dx ds i=Xd j->Meets (WY.«list.remove.loop» ⟨[.ref l,x,rawInt i],[]⟩) (λA R s=>s.heap.get? l=Xd {cls:=.type "list",dict:=Ju,data:=.seq ar n,slots:=Hp}/\A.units+80<cLine/\aK s.heap ai xs ds/\Rep s.heap ai x dx/\R (.ok (.ret .none)) {s with heap:=s.heap.update l (Obj.mapSeq λxs=>xs.eraseIdxIfInBounds j)}):=by
 intro ds
 induction ds with
 |nil=>exactλxs i j _ h=>aa h
 |cons d ds ih=>
  refineλxs i j hx hj prog w A R s h=>ZK λhG=>?_;obtain⟨hp,g,dd,tk,os⟩:=s;obtain⟨hl,hu,rs,rx,h⟩:=h;refine hG ?_;cases rs with| @cons v _ vs _ rv Rk=>have hi:=head_drop hx;wp_walk using Vn hl;refine xR hi ?_;rw[s9]at hj;cases he:mh d dx with
  |none=>rw[he]at hj;exact aa hj
  |some b=>
   rw[he]at hj;refine Vt (pR (by have:A.in1.units=A.units+1:=rfl;exact bj 0x146a2b090b22150a0b03 hu this) rv rx he ?_);rcases b with⟨⟩;case true=>obtain rfl:=Xc hj;have GD:(ar.eraseIdxIfInBounds i).size<=sizeLine+1:=Xy (size_erase_le ar _) (Nat.le_succ_of_le lJ);wp_walk using(wpAny_updateSeq hl rfl (_hz':=GD)),Vn hl;exact h
   case false=>
    wp_walk;have hc:((i:Int)+1)=((i+1:Nat):Int):=by push_cast;rfl
    refine xR hc ?_;have ta:ar.toList.drop (i+1)=vs:=by refine xL Zo (xR hx ?_);rfl
    exact⟨VA Wl _,VG MeetsSeq.entry_remove_loop (by refine xR (W4 Wl _) (ih vs (i+1) j ta hj prog w A R _ ⟨hl,hu,Rk,rx,h⟩))⟩
theorem xj(l:W8)(ar:Array VO)(n:Nat)(Ju:Option W8)(Hp:Array (Option VO))(x:VO)(dx:Dat)(ds:List Dat)(j:Nat)(lJ:ar.size<=sizeLine)(hj:m9 dx ds 0=Xd j):Meets (WY.«list.remove» ⟨[.ref l,x],[]⟩) (λA R s=>s.heap.get? l=Xd {cls:=.type "list",dict:=Ju,data:=.seq ar n,slots:=Hp}/\A.units+80<cLine/\aK s.heap ai ar.toList ds/\Rep s.heap ai x dx/\R (.ok (.ret .none)) {s with heap:=s.heap.update l (Obj.mapSeq λxs=>xs.eraseIdxIfInBounds j)}):=by
 intro prog w A R s h
 obtain⟨hp,g,d,tk,os⟩:=s;refine rQ h λhl hu rs rx h=>?_
 wp_walk using Vn hl
 exact⟨VA Wl _,VG MeetsSeq.entry_remove_loop (by exact(W4 Wl _)▸E9 l ar n Ju Hp x dx lJ ds ar.toList 0 j rfl hj prog w A R _ ⟨hl,hu,rs,rx,h⟩)⟩
theorem ye(l:W8)(ar:Array VO)(n:Nat)(Ju:Option W8)(Hp:Array (Option VO))(b:W8)(cy:Array VO)(n2:Nat)(dd1:Option W8)(w7:Array (Option VO))(hs0:¬(!ar.isEmpty&&WN (ar.size+cy.size))=true)(lJ:ar.size<=sizeLine)(N3:ar.size+cy.size<=sizeLine+1):Meets (WY.«list.extend» ⟨[.ref l,.ref b],[]⟩) (λy R s=>s.heap.get? l=Xd {cls:=.type "list",dict:=Ju,data:=.seq ar n,slots:=Hp}/\s.heap.get? b=Xd {cls:=.type "tuple",dict:=dd1,data:=.seq cy n2,slots:=w7}/\R (.ok (.ret VN)) {s with heap:=s.heap.update l (Obj.mapSeq λx=>x++cy)}):=.of_wp λprog w A R s h=>by
  obtain⟨hp,g,d,tk,os⟩:=s;refine bD h λhl hb h=>?_;have f1:=AutoSeq1.idx_int;have f2:=AutoSeq1.sub_tuple_tuple;have f3:=WZ;have f4:=AutoSeq1.sub_tuple_list;have f5:=AutoSeq1.sub_list_tuple;have GD:(ar++cy).size<=sizeLine+1:=by refine xR Array.size_append N3
  wp_walk using(wpAny_updateSeq hl rfl),Vn hl,Vn hb;exact⟨_,rfl,h⟩
theorem LstAt.of{p:W8}{a:Dat}(r:bl h ai (.ref p) (.list ds)):∃vs,LstAt h p vs/\aK h ai vs ds:=by refine de (bS r) λl o vs k e ho hc y0=>bD y0 λhn hd hr=>ZK λhG=>?_;rcases e with⟨⟩;refine hG ⟨vs,⟨o,k,ho,hc,hn,hd⟩,hr⟩
set_option tactic.hygienic true in
theorem aK.eraseIdx(r:aK h ai vs ds):∀k,aK h ai (vs.eraseIdx k) (ds.eraseIdx k):=r.ind (Q:=λvs ds=>∀k,aK h ai (vs.eraseIdx k) (ds.eraseIdx k)) (λx=>.nil) λr rs ih k=>by
  rcases k with⟨⟩;case zero=>exact rs
  case succ k=>exact .cons r (ih k)
theorem rG{m:VV}{id:String}{p:W8}{ds:List Dat}(slot:VX "list" m id)(ty:typeOf (.builtin id)=pure (.type "method_descriptor"))(r:bl s.heap ai (.ref p) (.list ds)){pl:V0 Bool}:Wp C A (getMethod (.ref p) m pl) (λr x=>r=(.builtin id,[.ref p])) s:=by refine de (bS r) λl o vs k e ho hc y0=>bD y0 λhn hd hr=>ZK λhG=>?_;rcases e with⟨⟩;refine hG (λE Q q=>aq (VE ⟨o,ho,hc⟩ PySem.F.plainAttrs_list slot ty (λa e=>by rcases e with⟨⟩;exact⟨o,ho,hn⟩) (q _ _ (.refl s) rfl)))
theorem lG{p:W8}(hp:ai p)(hs:Ww p s.heap h')(r:aK s.heap ai vs ds):aK h' ai vs ds:=r.mono λb ob e nn=>⟨(hs.2 b λq=>nn (q▸hp)).trans e,nn⟩
theorem bl.H0{p:W8}(l:LstAt h p vs)(r:aK h ai vs ds):bl h ai (.ref p) (.list ds):=let⟨o,n,ho,hc,hn,hd⟩:=l;.list ho hc hn hd r
def Rb(C:Cx)(n:Nat)(ai:W8->Prop)(id:String)(a a':Dat)(ds:List Dat)(p:W8):Prop:=∀{A s vs}{E:VO->VY->Prop}{Q:VO->VY->Prop},dD C n A->Bs C s->bz C ai s->ai p->bl s.heap ai (.ref p) a->aK s.heap ai vs ds->(∀s1 h' t,Ex C s s1->Ww p s1.heap h'->bl h' ai (.ref p) a'->Q .none {s1 with heap:=h',toks:=t})->aP (VB pw Wd) A (VH (.builtin id) (.ref p::vs)) Q E s
set_option tactic.hygienic true in
theorem xy{x:Dat}(r:aK h ai vs [x]):∃v,vs=[v]/\Rep h ai v x:=by(rcases r with⟨⟩;(case cons r rs=>rcases rs with⟨⟩;exact⟨_,rfl,r⟩))
theorem CU{p:W8}(hc:ds.length+1<=aS):Rb C n ai "list.append" (.list ds) (.list (ds++[d])) [d] p:=λ{A s vs E Q}hA bs V hp r rs hQ=>by refine av (xy rs) ?_;rintro v(rfl)rd;refine av (LstAt.of (a:=d) r) λvs l hr=>wD l (by refine xR hr.length hc) λh' l' hs=>hQ s h' s.toks (.refl s) hs (.H0 l' ((lG hp hs hr).append (lG hp hs (.cons rd .nil))))
theorem CT{p:W8}(hc:ds.length+es.length<=aS):Rb C n ai "list.extend" (.list ds) (.list (ds++es)) [.tuple es] p:=λ{A s vs E Q}hA bs V hp r rs hQ=>by
 refine av (xy rs) ?_;rintro v(rfl)rd;refine de (bS r) λl y0 vs k e ho tw y1=>bD y1 λhn hd hr=>?_;obtain⟨c1,d1,Kp,w7⟩:=y0;rcases e with⟨⟩;refine de rd.tuple' ?_;rintro b y0 us k2(rfl)_ hob y1;refine bD y1 λhcb hdb hrb=>?_;obtain⟨c2,d2,U2,uo⟩:=y0;obtain rfl:c1=_:=tw;obtain rfl:Kp=_:=hd;obtain rfl:c2=_:=hcb;obtain rfl:U2=_:=hdb;have hl:=hr.length;have Cs:=hrb.length;have oo:2000000<=sizeLine:=by decide
 have h1:vs.toArray.size+us.toArray.size<=1000000:=by refine xR XS (xR XS (xR hl (xR Cs ?_)));exact hc
 refine aq (call_meets PySem.F.slot_list_extend ⟨_,ho,rfl⟩ PySem.F.entry_list_extend (PySem.F.args_list_extend_2 _ _) (ye p vs.toArray k d1 w7 b us.toArray k2 d2 uo ?_ (bj 0x11000f42408f21b10001e84808f13 oo h1) (bj 0x90b21b1000f42408f21b10001e84808f13 oo h1)) ⟨ho,hob,?_⟩)
 ·have:WN (vs.toArray.size+us.toArray.size)=false:=by unfold WN;exact Va (bj 0x21b003000f42408f21b10001e84808f13 oo h1)
  simp only[this,ZT];exact ZP
 ·have sb:Ww p s.heap (s.heap.update p (Obj.mapSeq λx=>x++us.toArray)):=Wv ..;refine aI (Obj.data_mapSeq (o:=⟨.type "list",d1,.seq vs.toArray k,w7⟩) rfl (λx=>x++us.toArray)) λm hm=>hQ s _ s.toks (.refl s) sb (.H0 ⟨_,m,Wr _ ho rfl,rfl,hn,by rw[hm,List.append_toArray]⟩ ((lG hp sb hr).append (lG hp sb hrb)))
theorem F2{l:List VO}{j:Nat}(h:j<l.length):l.toArray.eraseIdxIfInBounds j=(l.eraseIdx j).toArray:=by simp[Array.eraseIdxIfInBounds,h]
theorem CS{kG:List Dat}{d:Dat}{p:W8}(hc:ds.length<=aS)(hr:zI d ds=Xd kG):Rb C n ai "list.remove" (.list ds) (.list kG) [d] p:=λ{A s vs E Q}hA bs V hp r rs hQ=>by refine dE (BL hr) ?_;rintro j hj(rfl)ZbO;refine av (xy rs) ?_;rintro v(rfl)rd;refine de (bS r) λl y0 vs k e ho tw y1=>bD y1 λhn hd hr=>?_;obtain⟨c1,d1,Kp,w7⟩:=y0;refine ZK λhG=>?_;rcases e with⟨⟩;obtain rfl:c1=_:=tw;obtain rfl:Kp=_:=hd;have hl:=hr.length;refine hG (aq (call_meets PySem.F.slot_list_remove ⟨_,ho,rfl⟩ PySem.F.entry_list_remove (PySem.F.args_list_remove_2 _ _) (xj p vs.toArray k d1 w7 _ d ds j (by refine xR XS (xR hl ?_);exact bK hc) ZbO) ⟨ho,by have:=hA.units;exact bj 0x250a0b02000003e88f10ad0bb02 this,hr,rd,?_⟩));have sb:Ww p s.heap (s.heap.update p (Obj.mapSeq λxs=>xs.eraseIdxIfInBounds j)):=Wv ..;refine aI (Obj.data_mapSeq (o:=⟨.type "list",d1,.seq vs.toArray k,w7⟩) rfl (λxs=>xs.eraseIdxIfInBounds j)) λm hm=>hQ s _ s.toks (.refl s) sb (.H0 ⟨_,m,Wr _ ho rfl,rfl,hn,by exact xR hm (xR (F2 (by rw[hl];exact hj)) rfl)⟩ ((lG hp sb hr).eraseIdx j))
theorem JM {a a':Dat} {p:W8} (h:sP m a ds=Xd a') (r0:bl s.heap ai (.ref p) a):∃id,(∀{A pl},Wp C A (getMethod (.ref p) m pl) (λr x=>r=(.builtin id,[.ref p])) s)∧
  ∀{A s vs} {E:VO→VY→Prop} {Q:VO→VY→Prop},dD C n A→Bs C s→bz C ai s→ai p→bl s.heap ai (.ref p) a→aK s.heap ai vs ds→
   (∀s1 h' t,Ex C s s1→Ww p s1.heap h'→bl h' ai (.ref p) a'→Q .none {s1 with heap:=h',toks:=t})→aP (VB pw Wd) A (VH (.builtin id) (.ref p::vs)) Q E s:=by
 revert a h r0
 refine no_implicit_lambda% (OS (bT (bT (bT zS NQ) (bT pA U8)) U8) ?_ C a' s p ai n m ds)
 generalize gE _ _=tt
 dsimp only [K8]
 generalize tt.1.1.1=C,tt.1.1.2=a',tt.1.2.1=s,tt.1.2.2=p,tt.2.1.1=ai,tt.2.1.2=n,tt.2.2.1=m,tt.2.2.2=ds
 intro a h r0
 rcases a with ⟨⟩
 case list=>match ds,h with
  |[d],h=>
   have h':(if m="append" then (if l.length + 1≤aS then Xd (.list (l++[d])) else Xe)
  else if m="extend" then (match d with| .tuple es=>if l.length + es.length≤aS then Xd (.list (l++es)) else Xe|_=>Xe)
  else if m="remove" then (if l.length≤aS then (zI d l).map .list else Xe)
  else Xe)=Xd a':=h
   split at h'
   ·rename_i hm
    subst hm
    exact aL h' λhc h=>⟨"list.append",rG slot_list_append PySem.F.type_list_append r0,Xc h▸CU hc⟩
   ·split at h'
    ·rename_i hm
     subst hm
     rcases d with ⟨⟩
     case tuple=>exact aL h' λhc h=>⟨"list.extend",rG PySem.F.slot_list_extend PySem.F.type_list_extend r0,Xc h▸CT hc⟩
     all_goals (exact aa h')
    ·refine aL h' λhm h'=>aL h' λhc h'=>ba h' λes hr hq=> ?_
     subst hm
     exact ⟨"list.remove",rG PySem.F.slot_list_remove PySem.F.type_list_remove r0,hq▸CS hc hr⟩
 all_goals (exact aa h)
end
section
open Sem (wp)
theorem jd{id:String}{args:Args}{b:WY}{R:V6->VY->Prop}(hb:entryFor table id=Xd b)(gC:ka (.builtin id args)=true)(h:aP (VB prog w) (A.under (.builtin id args)) (b args) (λfin s'=>match fin with| .done f=>R (.ok f) s'| .again c'=>c'.quiet=true/\cK (VB prog w) A c' R s') (λe s'=>R (.error e) s') s):cK (VB prog w) A (.builtin id args) R s:=by
 refine bw ?_ gC;have FR:(VB prog w).den (.builtin id args)=b args:=by show(match entryFor table id with|some b=>b args|none=>unsupported ((withoutEnding? id "#data").getD id))=_;rw[hb]
 rw[FR];exact h
set_option tactic.hygienic true in
theorem rW{Q₁:VO->VY->Prop}(ft:TypeCalled T newId Cm)(hT0:T≠"type")(hct:checkTypeCall T ⟨args,[]⟩=pure ())(kO:cK (VB prog w) A.in1 (.call (.builtin newId) ⟨.type T::args,[]⟩) (wants Q₁ E) s)(kE:∀obj aA,Q₁ obj aA->aA.TypeIs obj T/\cK (VB prog w) A.in1 (.call (.builtin Cm) ⟨obj::args,[]⟩) (wants (λr cx=>r=.none/\Q obj cx) E) aA):aP (VB prog w) A (call (.type T) args) Q E s:=by
 revert Q₁ ft hT0 hct kO kE;refine no_implicit_lambda% (ux (bT (bT (bT (bT GB rB) pA) U8) U8) ?_ w A s args T prog E newId Q Cm);generalize gE _ _=tt;dsimp only[GN];generalize tt.1.1.1.1=w,tt.1.1.1.2=A,tt.1.1.2=s,tt.1.2.1=args,tt.1.2.2=T,tt.2.1.1.1=prog,tt.2.1.1.2=E,tt.2.1.2=newId,tt.2.2.1=Q,tt.2.2.2=Cm;intro Q₁ ft hT0 hct kO kE;refine kK ft.mro λc tl ZbF=>?_;have Up:=ft.made;have ja:=ft.sub;refine kW (bw ?_ rfl);refine ao ⟨Code.quiet_builtin _ (by decide +kernel),jd F.entry_type_call rfl ?_⟩;rw[W6.under_plain (weight_type_call_type T args []) rfl];have h1:=ft.notType;have h2:=ft.canCreate;unfold WY.«type.__call__»;simp only[h1,ZQ,if_false,h2,hct,ZbF,List.isEmpty_cons,Up,pure_bind];refine ab (az (kW (nk kO λr aA hr=>?_)));rcases r with⟨⟩;case error e=>exact hr
 case ok fl=>
  rcases fl with⟨⟩;case ret obj=>
   refine aU (kE _ _ hr) λhT Qe=>?_;refine ab (aq (wpAny_isInstance hT ja ?_));refine ab (az ?_);refine ab (aq (Vj hT ft.init.lookup ?_));simp only[ft.init.bind];refine az (ab (ao (ab (kW (nk Qe λZa7 cx IH=>?_)))));rcases Za7 with⟨⟩;case error e=>exact IH
   case ok UT=>
    rcases UT with⟨⟩;case ret r=>refine aU IH ?_;rintro(rfl)hq;refine ao ?_;exact ao hq
    all_goals (exact IH.elim)
  all_goals (exact hr.elim)
set_option tactic.hygienic true in
theorem CF{Q:Bool->VY->Prop}(h:Q false s):aP M A (WV self) Q E s:=λΓ p jG hc=>by
 unfold WV;rw[V0.wp_bind'];unfold stack;rw[V0.wp_stack];show wp M Γ (pure _) _ _ _ _;rw[V0.wp_pure'];rw[V0.wp_pure'];refine(Ve (Q · s) (List.any_eq_false.mpr λx hx=>?_)).mpr h;have gC:ka x.1=true:=by
  refine Xa (Yw.mp hx) (λq=>?_) λq=>?_
  ·rw[q];exact hc.1.1
  ·exact hc.1.2.1 x q
 obtain⟨c,pp⟩:=x;rcases c with⟨⟩;case builtin id args=>
  have hn:∀y,holders.contains y=true->id≠y:=λy hy e=>by have h2:(!holders.contains id)=true:=gC;rw[e,hy]at h2;rcases h2 with⟨⟩
  obtain⟨pos,kw⟩:=args;refine ZS.mp ?_;delta WV.match_1;show(dite (id="bytearray.__contains__") _ _:Bool)=false;rw[dif_neg (hn "bytearray.__contains__" (by decide +kernel)),dif_neg (hn "bytearray.__mod__" (by decide +kernel)),dif_neg (hn "bytearray.__rmod__" (by decide +kernel)),dif_neg (hn "_struct.pack_into.held" (by decide +kernel)),dif_neg (hn "bytearray.find.held" (by decide +kernel))];rcases pos with⟨⟩;case nil=>rfl
  case cons v tl=>have h3:=ZS.mpr λe=>hn id (Zs.mpr (Yy _ (Zs.mp e))) rfl;exact(Ve (WY.Bytes.sameRef v self&&·) h3).trans (ZT _)
 all_goals (exact ZP)
theorem sG:("bytearray.__new__".splitOn ".__new__").headD ""="bytearray":=by
 set_option maxRecDepth 1000000 in
 set_option maxHeartbeats 4000000 in
 simp +decide [String.splitOn,String.splitOnAux]
theorem zX:mroOf (.type "bytearray")=pure [.type "bytearray",.type "object"]:=by rw[mroOf_type];kernel_rfl
theorem qV:typeLookup (.type "bytearray") "__new__"=pure (Xd (.builtin "bytearray.__new__")):=by rw[Vx,VI];kernel_rfl
theorem lj:VX "bytearray" "__init__" "bytearray.__init__":=.of (owner:="bytearray") (n:="__init__") (by rw[Vx,VI];kernel_rfl) (by decide +kernel) (by decide +kernel) (by decide +kernel) (by first|exact .inl (by decide +kernel)|exact .inr (by decide +kernel)) (by rw[VC];kernel_rfl)
theorem AP:TypeCalled "bytearray" "bytearray.__new__" "bytearray.__init__":=⟨by decide +kernel,by decide +kernel,⟨_,_,zX⟩,madeBy_type zX qV (by decide +kernel),by decide +kernel,by rw[VC];kernel_rfl,lj⟩
theorem qR(a:VO):checkTypeCall "bytearray" ⟨[a],[]⟩=pure ():=by kernel_rfl
theorem sO(a:VO):checkBuiltinCall "bytearray.__new__" ⟨[.type "bytearray",a],[]⟩=pure ():=by kernel_rfl
theorem tN:entryFor table "bytearray.__new__"=Xd WY.«list.__new__»:=entryFor_alias (id':="list.__new__") (by rw[fastTable_eq_tree];kernel_rfl) (by decide +kernel) (by decide +kernel) (by rw[fastTable_eq_tree];kernel_rfl)
theorem lA:plainId "bytearray.__new__"=true:=by decide +kernel
theorem qX:entryFor table "bytearray.__init__"=Xd WY.«bytearray.__init__»:=VF (by kernel_rfl)
theorem iZ:isSubtype (.type "bytearray") (.type "bytearray")=pure true:=by rw[VC];kernel_rfl
theorem uf(a b:VO):argsOk "bytearray.__init__" ⟨[a,b],[]⟩:=by unfold argsOk;rw[Vz (n:=['_','_','t','i','n','i','_','_']) (by kernel_rfl) j9];kernel_rfl
theorem uR(a:VO){Q₁:VO->VY->Prop}(h:Q₁ (.ref s.heap.objs.size) {s with heap:=s.heap.push {cls:=.type "bytearray",data:=.bytearray #[]}}):codeAny (VB prog w) A (.call (.builtin "bytearray.__new__") ⟨[.type "bytearray",a],[]⟩) (wants Q₁ E) s:=by
 refine codeAny_of_tree ?_
 show Vw _ A.in1 (do checkBuiltinCall "bytearray.__new__" ⟨[.type "bytearray",a],[]⟩;again (.builtin "bytearray.__new__" ⟨[.type "bytearray",a],[]⟩)) _ _ s
 refine Vt (Vl (sO a) (Vk ⟨VA lA _,codeAny_builtin_stack tN rfl λp st=>?_⟩))
 rw[W4 lA _]
 have ja:=iZ
 have ZbA:=sG
 refine Vt (Vl (a:=true) (by kernel_rfl) ?_)
 rw[Vg (by decide)]
 rw[ZbA]
 refine Vt (Vl (a:=true) ja ?_)
 rw[Vg (by decide)]
 refine Vt (Vl (a:=Data.bytearray #[]) (by kernel_rfl) ?_)
 dsimp only
 rw[Vh (by decide +kernel)]
 refine Vt (Vm ?_ (Xk _))
 exact Vk h
theorem nq{T:String}{name:VV}{id:String}{self:VO}{rest:List VO}{b:WY}{R:V6->VY->Prop}(slot:VX T name id)(hT:s.TypeIs self T)(hb:entryFor table id=Xd b)(ha:argsOk id ⟨self::rest,[]⟩)(gC:ka (.builtin id ⟨self::rest,[]⟩)=true)(h:aP (VB prog w) A.in1 (b ⟨self::rest,[]⟩) (λfin s'=>match fin with| .done f=>R (.ok f) s'| .again c'=>c'.quiet=true/\cK (VB prog w) A c' R s') (λe s'=>R (.error e) s') s):cK (VB prog w) A (.call (.builtin id) ⟨self::rest,[]⟩) R s:=by refine bw ?_ rfl;refine ab (aq (slot.check _ _ _ _ _ _ _ _ hT ha (ao ⟨VA slot.plain _,jd hb gC ?_⟩)));rw[W4 slot.plain _];exact h
theorem mu:typeLookup (.type "bytearray") "__release_buffer__"=pure (Xd (.builtin "bytearray.__release_buffer__")):=by rw[Vx,VI];kernel_rfl
theorem gF{Q:Bool->VY->Prop}(hT:s.TypeIs (.ref a) "bytearray")(h:Q false s):Vw (VB prog w) A (WY.Bytes.ownRelease (.ref a)) Q E s:=by
 unfold WY.Bytes.ownRelease WR;refine Vt (Vt (Vj hT mu ?_))
 ·have e1:("bytearray.__release_buffer__".endsWith ("."++"__release_buffer__"))=true:=by decide +kernel
  have e2:("bytearray.__release_buffer__".dropRight ("__release_buffer__".length+1))="bytearray":=by decide +kernel
  simp only[e1,e2];exact wpAny_isInstance hT iZ (Vk h)
theorem jL{Q:Unit->VY->Prop}(ho:s.heap.get? a=Xd {cls:=.type "bytearray",dict:=dd,data:=.bytearray b k,slots:=sl})(hz:(f b).size<=sizeLine) (hQ:∀h' k',Ww a s.heap h'->h'.get? a=Xd {cls:=.type "bytearray",dict:=dd,data:=.bytearray (f b) k',slots:=sl}->Q () {s with heap:=h'}):Vw (VB prog w) A (WO (.ref a) f) Q E s:=yZ ho rfl hz (hQ _ _ (Wv ..) (Wr _ ho rfl))
theorem AW{id:String}{b:Array UInt8}{t:Tok}:WX id (.bytes b t) true=pure (Xd b):=by unfold WX;rw[KBy.special_eq KBy.look_buffer,KBy.own_buffer,KBy.own_release];kernel_rfl
theorem v7{Q:Bool->VY->Prop}(ho:s.heap.get? a=Xd {cls:=.type "bytearray",dict:=dd,data:=.bytearray b 0,slots:=sl})(h:Q false s):aP (VB prog w) A (WV (.ref a) <||> do return(<-WY.Bytes.exportsOf (.ref a))>0) Q E s:=by
 unfold orM
 refine ab (CF ?_)
 refine ab (aq ?_)
 unfold WY.Bytes.exportsOf
 exact Vt (Vo ho (Vk (ao h)))
theorem u7(a:W8)(n:Int)(t:Tok)(ho:s.heap.get? a=Xd {cls:=.type "bytearray",dict:=dd,data:=.bytearray #[] 0,slots:=sl}) (h0:0<=n) (h1:n<=(aS:Int)) {Q:WB->VY->Prop} (hQ:∀h' k',Ww a s.heap h'->h'.get? a=Xd {cls:=.type "bytearray",dict:=dd,data:=.bytearray (Array.replicate n.toNat 0) k',slots:=sl}->Q (.done (.ret .none)) {s with heap:=h'}):aP (VB prog w) A (WY.«bytearray.__init__» ⟨[.ref a,.int n t],[]⟩) Q E s:=by
 revert sl ho h0 h1 hQ
 refine no_implicit_lambda% (ux (bT (bT (bT (bT rB GB) pA) U8) U8) ?_ A w s n a prog t E Q dd)
 generalize gE _ _=tt
 dsimp only[GN]
 generalize tt.1.1.1.1=A,tt.1.1.1.2=w,tt.1.1.2=s,tt.1.2.1=n,tt.1.2.2=a,tt.2.1.1.1=prog,tt.2.1.1.2=t,tt.2.1.2=E,tt.2.2.1=Q,tt.2.2.2=dd
 intro sl ho h0 h1 hQ
 have hT:s.TypeIs (.ref a) "bytearray":=⟨_,ho,rfl⟩
 unfold WY.«bytearray.__init__»
 refine ab (aq (gF hT ?_))
 refine ab (bY (by rfl) ?_)
 refine ab (bY (by rfl) ?_)
 refine ab (bY (by rfl) ?_)
 refine ab (v7 ho ?_)
 refine ab (aq (jL ho (by decide) λh1' k1 lJ Kk=>?_))
 refine ab (bY (by rfl) ?_)
 refine ab (ao ?_)
 refine ab (aq (Vj (typeIs_int _ n t) WE.lookup ?_))
 refine ab (kX (bY (by rfl) ?_))
 have c1:WU n=true:=by unfold aS at h1;simp only[WU,ZV,Vc];exact⟨ZF (by decide +kernel) h0,ZE h1 (by decide +kernel)⟩
 have c2:¬n<0:=yW 0x80f730f882 h0
 have c3:(n==2^63-1)=false:=by unfold aS at h1;rw[Vf];exactλe=>absurd (e▸h1) (by decide +kernel)
 have c4:WY.Bytes.tooLong n.toNat=false:=by have:=bK (by unfold aS at h1 ⊢;exact yW 0xf42408f0fbf1000f42408faf0f82 h1);unfold WY.Bytes.tooLong;simp;exact Nu 0xaf0f800fbf12 rfl this
 simp only[c1,c2,c3,c4,ZM,ZQ,if_false]
 refine ab (jh ?_)
 by_cases hn:n>0
 ·rw[Vh hn];refine ab (aq (jL Kk ?_ λh2 k2 N3 o5=>ao (hQ h2 k2 (lJ.trans N3) o5)))
  ·have hh:n.toNat<=aS:=by unfold aS at h1 ⊢;exact yW 0xf42408f0fbf1000f42408faf0f82 h1
   rw[Array.size_replicate];exact bK hh
 ·rw[Vg hn];have e:n=0:=yW 0x80f90f87380f733 c2 hn;subst e;exact ao (hQ h1' k1 lJ Kk)
theorem q7(a:W8)(b:Array UInt8)(t:Tok){dd:Option W8}{sl:Array (Option VO)}(ho:s.heap.get? a=Xd {cls:=.type "bytearray",dict:=dd,data:=.bytearray #[] 0,slots:=sl}) (h1:b.size<=aS) {Q:WB->VY->Prop} (hQ:∀h' k',Ww a s.heap h'->h'.get? a=Xd {cls:=.type "bytearray",dict:=dd,data:=.bytearray b k',slots:=sl}->Q (.done (.ret .none)) {s with heap:=h'}):aP (VB prog w) A (WY.«bytearray.__init__» ⟨[.ref a,.bytes b t],[]⟩) Q E s:=by
 revert sl ho h1 hQ
 refine no_implicit_lambda% (ux (bT (bT (bT (bT rB GB) pA) U8) U8) ?_ A w s a b prog t E Q dd)
 generalize gE _ _=tt
 dsimp only[GN]
 generalize tt.1.1.1.1=A,tt.1.1.1.2=w,tt.1.1.2=s,tt.1.2.1=a,tt.1.2.2=b,tt.2.1.1.1=prog,tt.2.1.1.2=t,tt.2.1.2=E,tt.2.2.1=Q,tt.2.2.2=dd
 intro sl ho h1 hQ
 have hT:s.TypeIs (.ref a) "bytearray":=⟨_,ho,rfl⟩
 unfold WY.«bytearray.__init__»
 refine ab (aq (gF hT ?_))
 refine ab (bY (by rfl) ?_)
 refine ab (bY (by rfl) ?_)
 refine ab (bY (by rfl) ?_)
 refine ab (v7 ho ?_)
 refine ab (aq (jL ho (by decide) λh1' k1 lJ Kk=>?_))
 refine ab (bY (by rfl) ?_)
 refine ab (ao ?_)
 have lk:typeLookup (.type "bytes") "__index__"=pure Xe:=by rw[Vx,VI];kernel_rfl
 refine ab (aq (Vj (VK _ b t) lk ?_))
 refine ab (bY (AW) ?_)
 refine ab (jh ?_)
 refine ab (aq (jL Kk (bK h1) λh2 k2 N3 o5=>?_))
 exact ao (hQ h2 k2 (lJ.trans N3) o5)
theorem wq{src:VO}{b:Array UInt8}{Q:VO->VY->Prop}(Qe:∀{s:VY}{a:W8}{dd:Option W8}{sl:Array (Option VO)}{A:W6}{E:VO->VY->Prop}{Q:WB->VY->Prop},s.heap.get? a=Xd {cls:=.type "bytearray",dict:=dd,data:=.bytearray #[] 0,slots:=sl}->(∀h' k',Ww a s.heap h'->h'.get? a=Xd {cls:=.type "bytearray",dict:=dd,data:=.bytearray b k',slots:=sl}->Q (.done (.ret .none)) {s with heap:=h'})->aP (VB prog w) A (WY.«bytearray.__init__» ⟨[.ref a,src],[]⟩) Q E s) (hQ:∀h' k',(∀c o,s.heap.get? c=Xd o->h'.get? c=Xd o)->h'.get? s.heap.objs.size=Xd {cls:=.type "bytearray",data:=.bytearray b k'}->Q (.ref s.heap.objs.size) {s with heap:=h'}):aP (VB prog w) A (call (.type "bytearray") [src]) Q E s:=by
 refine rW (Q₁:=λobj aA=>obj=.ref s.heap.objs.size/\aA={s with heap:=s.heap.push {cls:=.type "bytearray",data:=.bytearray #[]}}) AP (by decide) (qR _) (JI (uR _ ⟨rfl,rfl⟩)) λobj aA bF=>?_
 refine aU bF ?_;rintro(rfl)(rfl)
 have hS:(s.heap.push {cls:=.type "bytearray",data:=.bytearray #[]}).get? s.heap.objs.size=Xd {cls:=.type "bytearray",data:=.bytearray #[]}:=Wt _ rfl
 have hT:({s with heap:=s.heap.push {cls:=.type "bytearray",data:=.bytearray #[]}}:VY).TypeIs (.ref s.heap.objs.size) "bytearray":=⟨_,hS,rfl⟩
 refine⟨hT,nq lj hT qX (uf _ _) rfl (Qe hS λh' k' hs ho=>⟨rfl,?_⟩)⟩
 refine hQ h' k' (λc o e=>?_) ho
 have hc:c≠s.heap.objs.size:=λq=>by subst q;rw[aJ]at e;exact aa e
 exact(hs.2 c hc).trans (Wu _ e)
end
structure Cx.Plain (C:Cx):Prop where
 ok:C.Ok
 none:∀x∈([("list":VV),"bytearray","len","sum","str","ord","chr","bytes","range","isinstance","sorted","zip","int","filter","ValueError","IndexError"]:List VV),C.mg x=Xe
theorem Cx.Plain.b(hC:C.Plain)(h:bootBuiltins x=Xd v)(hx:x≠"__name__"):C.mb x=Xd v:=(hC.ok.builtins x hx).trans h
theorem aK.of_get:∀{ds:List Dat},vs.length=ds.length->(∀(j:Nat)(v:VO)(d:Dat),vs[j]?=Xd v->ds[j]?=Xd d->Rep h ai v d)->aK h ai vs ds:=by
 induction vs with
 |nil=>exactλ{ds}e x=>by cases ds with
  |nil=>exact .nil|cons=>exact nomatch e
 |cons v vs ih=>exactλ{ds}e k=>by cases ds with
  |nil=>exact nomatch e|cons d ds=>exact .cons (k 0 v d rfl rfl) (ih (Nat.succ.inj e) λj v' d' h1 h2=>k (j+1) v' d' h1 h2)
def Gw(C:Cx)(n:Nat)(v:VO)(ds:List Dat)(d:Dat):Prop:=∀A s ai vs(E:VO->VY->Prop)(Q:VO->VY->Prop),dD C n A->Bs C s->bz C ai s->iC s.heap ai vs ds->(∀a s1,Ex C s s1->s.heap.get? a=Xe->s.heap.objs.size<=a->bl s1.heap (λb=>ai b\/b=a) (.ref a) d->Q (.ref a) s1)->aP (VB pw Wd) A (VH v vs) Q E s
set_option tactic.hygienic true in
theorem Lv{x:Dat}(r:iC h ai vs [x]):∃v,vs=[v]/\bl h ai v x:=by(rcases r with⟨⟩;(case cons r rs=>rcases rs with⟨⟩;exact⟨_,rfl,r⟩))
theorem newList(V:bz C ai s)(rs:aK s.heap ai vs es)(hk:∀b o,s.heap.get? b=Xd o->h'.get? b=Xd o)(ho:h'.get? s.heap.objs.size=Xd {cls:=.type "list",data:=.seq vs.toArray k}):bl h' (λb=>ai b\/b=s.heap.objs.size) (.ref s.heap.objs.size) (.list es):=.list ho rfl rfl rfl (rs.mono λb o e nn=>⟨hk b o e,λq=>q.elim nn λq=>by rw[q,aJ]at e;exact aa e⟩)
theorem qy{x:Dat}(hT:T="list"\/T="tuple")(hl:es.length<=aS)(hx:∀{h:Wz}{ai:W8->Prop}{v:VO},bl h ai v x->∃a o vs k,v=.ref a/\h.get? a=Xd o/\o.cls=.type T/\o.data=.seq vs.toArray k/\aK h ai vs es):Gw C n (.type "list") [x] (.list es):=λA s ai vs E Q hA bs V rs hQ=>by refine av (Lv rs) ?_;rintro v(rfl)r;refine de (hx r) ?_;rintro a o us k(rfl)ho hc y0;refine aU y0 λhd hr=>aq (call_list_seq (hsz:=by rw[XS,hr.length];exact bK hl) a hT ho hc hd λh' c' hk hD=>hQ _ {s with heap:=h'} (.of_keep hk rfl rfl) (aJ _) (Xz _) (newList V hr hk hD))
theorem uH{a b c:Int}(h:bP (.range a b c)=Xd es)(hl:es.length<=aS):Gw C n (.type "list") [.range a b c] (.list es):=λA s ai vs E Q hA bs V rs hQ=>by
 refine av (Lv rs) ?_;rintro v(rfl)r;refine aL h λN0 he=>?_;obtain rfl:=Xc he;refine mq ((r.flat nofun nofun).range') ?_;rintro l t u w(rfl)_ hr;simp only[ZV,bne_iff_ne]at N0;have hlen:ey a b c<=aS:=by unfold sC at hl;simpa using hl
 refine aq (call_list_range hA.handled hr (qt N0.1.1.1 N0.1.1.2 N0.1.2 N0.2) (n:=ey a b c) (by unfold ey;rw[Zy (eI a b c)]) (by unfold aS at hlen;lia) λh' tk aY k hk ho hit=>hQ _ {s with heap:=h',toks:=tk} (.of_keep hk rfl rfl) (aJ _) (Xz _) (newList V ?_ hk ho));unfold sC;refine aU hit λi1 i2=>aK.of_get (by simp[i1]) λj v d hv hd=>?_;have PW:aY[j]?=Xd v:=by simpa using hv
 refine aI (i2 j v PW) ?_;rintro t'(rfl);have hj:j<ey a b c:=by have:=(ZZ.mp PW).1;exact bj 0x1200201023 i1 this
 simp[hj]at hd;subst hd;rw[show(j:Int)*c=c*(j:Int)from Int.mul_comm _ _];exact .int _ _
theorem A5(hm:0<=m/\m<=(aS:Int)):Gw C n (.type "bytearray") [.int m] (.bg (X0 m.toNat 0)):=λA s ai vs E Q hA bs V rs hQ=>by refine av (Lv rs) ?_;rintro v(rfl)r;refine aI ((r.flat nofun nofun).eQ) ?_;rintro t(rfl);refine wq (λho hq=>u7 _ m _ ho hm.1 hm.2 hq) λh' k' hk ho=>hQ _ {s with heap:=h'} (.of_keep hk rfl rfl) (aJ _) (Xz _) ?_;rw[<-List.toArray_replicate]at ho;exact .bg ho rfl rfl
theorem u9(hm:b.length<=aS):Gw C n (.type "bytearray") [.bytes b] (.bg b):=λA s ai vs E Q hA bs V rs hQ=>by refine av (Lv rs) ?_;rintro v(rfl)r;refine aI ((r.flat nofun nofun).gH) ?_;rintro t(rfl);exact wq (λho hq=>q7 _ b.toArray _ ho (by rw[XS];exact hm) hq) λh' k' hk ho=>hQ _ {s with heap:=h'} (.of_keep hk rfl rfl) (aJ _) (Xz _) (.bg ho rfl rfl)
set_option tactic.hygienic true in
theorem H7(hC:C.Plain)(h:newD f ds=Xd d):∃v,C.mg f=Xe/\C.mb f=Xd v/\(f==("__debug__":VV))=false/\(∀a,v≠.ref a)/\∀{A s ai vs}{E:VO->VY->Prop}{Q:VO->VY->Prop},dD C n A->Bs C s->bz C ai s->iC s.heap ai vs ds->(∀a s1,Ex C s s1->s.heap.get? a=Xe->s.heap.objs.size<=a->bl s1.heap (λb=>ai b\/b=a) (.ref a) d->Q (.ref a) s1)->aP (VB pw Wd) A (VH v vs) Q E s:=by
 rcases ds with⟨⟩|⟨a,⟨⟩|⟨b,l⟩⟩
 ·exact aa h
 rotate_left
 ·exact aa h
 ·have h':(if f="list" then(match a with
   | .list _| .tuple _| .range _ _ _=>(match bP a with|some es=>if es.length<=aS then Xd (.list es)else Xe|none=>Xe)
   |_=>Xe)
  else if f="bytearray" then(match a with
   | .int n=>if 0<=n/\n<=(aS:Int)then Xd (.bg (X0 n.toNat 0))else Xe| .bytes b=>if b.length<=aS then Xd (.bg b)else Xe|_=>Xe)
  else Xe)=Xd d:=h;split at h'
  ·rename_i hf;subst hf;suffices z:Gw C n (.type "list") [a] d from⟨.type "list",hC.none _ (by decide),hC.b (by kernel_rfl) (by decide),by decide,nofun,λ{A s ai vs E Q}=>z A s ai vs E Q⟩;rcases a with⟨⟩;case list l=>exact aL h' λhl h=>Xc h▸qy (.inl rfl) hl λr=>de (bS r) λa o us k h1 h2 h3 y=>bD y λh4 h5 h6=>⟨a,o,us,k,h1,h2,h3,h5,h6⟩
   case tuple l=>exact aL h' λhl h=>Xc h▸qy (.inr rfl) hl λr=>de (r.flat nofun nofun).tuple' λa o us k h1 y h2 y=>bD y λh3 h4 h5=>⟨a,o,us,k,h1,h2,h3,h4,h5⟩
   case range x y z=>have h2:=h';cases q:bP (.range x y z)with|none=>rw[q]at h2;exact aa h2|some es=>rw[q]at h2;exact aL h2 λhl h=>Xc h▸uH q hl
   all_goals (exact aa h')
  ·refine aL h' λhf hb=>?_;subst hf;suffices z:Gw C n (.type "bytearray") [a] d from⟨.type "bytearray",hC.none _ (by decide),hC.b (by kernel_rfl) (by decide),by decide,nofun,λ{A s ai vs E Q}=>z A s ai vs E Q⟩;rcases a with⟨⟩;case int m=>exact aL hb λhm hq=>Xc hq▸A5 hm
   case bytes b=>exact aL hb λhm hq=>Xc hq▸u9 hm
   all_goals (exact aa hb)
def Tz:Dat->Option Nat| .list ds=>Xd ds.length| .tuple ds=>Xd ds.length| .str x=>Xd x.length| .bytes b=>Xd b.length| .bg b=>Xd b.length| .range a b c=>if aM a&&aM b&&aM c&&c !=0 then Xd (ey a b c)else Xe|_=>Xe
noncomputable def intsOf:List Dat->Option (List Int)|[]=>Xd []| .int i::ds=>(intsOf ds).map (i::·)|_=>Xe
noncomputable def strsOf:List Dat->Option (List VV)|[]=>Xd []| .str i::ds=>(strsOf ds).map (i::·)|_=>Xe
noncomputable def oV(g:Dat->Option Dat):List Dat->Option Dat|[d]=>g d|_=>Xe
def lF:List Dat->Option Dat:=oV λd=>(Tz d).bind λk=>if k<=aS then Xd (.int k)else Xe
noncomputable def DM(f:List Dat->Option Dat):Dat->Option Dat| .list es=>f es|_=>Xe
def sumF:List Dat->Option Dat:=oV (DM λes=>(intsOf es).map λns=>.int ns.sum)
def Za3:Dat->Option Dat| .str x=>Xd (.str x)| .int i=>if aM i then Xd (.str (toString i))else Xe|_=>Xe
def KN:List Dat->Option Dat:=oV Za3
noncomputable def Zac:List Nat->Option Dat|[c]=>Xd (.int c)|_=>Xe
def Zbj:Dat->Option Dat| .str x=>Zac x.cps.toList|_=>Xe
def Fp:List Dat->Option Dat:=oV Zbj
noncomputable def Zcb:Dat->Option Dat| .int i=>if 0<=i/\i<=0x10FFFF then Xd (.str ⟨#[i.toNat]⟩)else Xe|_=>Xe
def MT:List Dat->Option Dat:=oV Zcb
def QS:Dat->Option Dat| .list es=>(intsOf es).bind λns=>if es.length<=aS/\∀n∈ns,0<=n/\n<256 then Xd (.bytes (ns.map λn=>n.toNat.toUInt8))else Xe| .bg b=>if b.length<=aS then Xd (.bytes b)else Xe|_=>Xe
def lS:List Dat->Option Dat:=oV QS
noncomputable def uc:Dat->Option Int| .int a=>Xd a|_=>Xe
def j0:List Dat->Option Dat|[a]=>(uc a).map λa=>.range 0 a 1|[a,b]=>(uc a).bind λa=>(uc b).map λb=>.range a b 1|[a,b,c]=>(uc a).bind λa=>(uc b).bind λb=>(uc c).bind λc=>if c≠0/\c.natAbs<1073741824 then Xd (.range a b c)else Xe|_=>Xe
noncomputable def M1:Dat->Dat->Option Dat| .bytes _,.typ t=>if t="bytes" then Xd (.bool true)else Xe|_,_=>Xe
def Iv:List Dat->Option Dat|[a,b]=>M1 a b|_=>Xe
theorem g7{i:Int}(h:uc d=Xd i):d=.int i:=by
 rcases d with⟨⟩;case int=>rw[Xc h]
 all_goals (exact aa h)
set_option tactic.hygienic true in
theorem pC{x:Dat}(h:DM f x=Xd d):∃es,x=.list es/\f es=Xd d:=by
 rcases x with⟨⟩;case list es=>exact⟨es,rfl,h⟩
 all_goals (exact aa h)
set_option tactic.hygienic true in
theorem iC.xA{x:Dat}(r:iC h ai vs [x]):∃v,vs=[v]/\bl h ai v x:=by(rcases r with⟨⟩;(case cons r rs=>rcases rs with⟨⟩;exact⟨_,rfl,r⟩))
set_option tactic.hygienic true in
theorem iC.qI{x:Dat}(r:iC h ai vs (x::xs)):∃v us,vs=v::us/\bl h ai v x/\iC h ai us xs:=by(rcases r with⟨⟩;(case cons r rs=>exact⟨_,_,rfl,r,rs⟩))
set_option tactic.hygienic true in
theorem aK.qI{x:Dat}(r:aK h ai vs (x::xs)):∃v us,vs=v::us/\Rep h ai v x/\aK h ai us xs:=by(rcases r with⟨⟩;(case cons r rs=>exact⟨_,_,rfl,r,rs⟩))
theorem aK.Pt(r:aK h ai vs []):vs=[]:=by rcases r with⟨⟩;rfl
theorem ints_cons(h:intsOf (d::ds)=Xd ns):∃i is,d=.int i/\intsOf ds=Xd is/\ns=i::is:=by
 rcases d with⟨⟩;case int=>exact ba h λis h1 h2=>⟨i,is,rfl,h1,h2.symm⟩
 all_goals (exact aa h)
set_option tactic.hygienic true in
theorem strs_cons(h:strsOf (d::ds)=Xd ns):∃i is,d=.str i/\strsOf ds=Xd is/\ns=i::is:=by
 rcases d with⟨⟩;case str i=>exact ba h λis h1 h2=>⟨i,is,rfl,h1,h2.symm⟩
 all_goals (exact aa h)
theorem aK.ints:∀{ds:List Dat}{vs:List VO}{ns:List Int},aK h ai vs ds->intsOf ds=Xd ns->IntsAre vs ns
 |[],_,_,r,e=>by obtain rfl:=r.Pt;obtain rfl:=Xc e;exact .nil
 |d::ds,_,_,r,e=>by refine er r.qI ?_;rintro v us(rfl)r rs;refine er (ints_cons e) ?_;rintro i is(rfl)h1(rfl);refine aI r.eQ ?_;rintro t(rfl);exact .cons _ _ (rs.ints h1)
theorem aK.strs:∀{ds:List Dat}{vs:List VO}{ns:List VV},aK h ai vs ds->strsOf ds=Xd ns->StrsAre vs ns
 |[],_,_,r,e=>by obtain rfl:=r.Pt;obtain rfl:=Xc e;exact .nil
 |d::ds,_,_,r,e=>by refine er r.qI ?_;rintro v us(rfl)r rs;refine er (strs_cons e) ?_;rintro i is(rfl)h1(rfl);refine aI r.i5 ?_;rintro t(rfl);exact .cons _ _ (rs.strs h1)
theorem z9(r:bl s.heap ai v (.list ds))(hk:ds.length<=aS):eS C A ai (VH (.builtin "len") [v]) (.int ds.length) s:=by refine de (bS r) ?_;rintro a o us k'(rfl)ho hc y0;refine bD y0 λhn hd hr=>?_;have hl:=hr.length;have hs:=XS.trans hl;refineλE Q q=>aq (Calls.call_len_list ⟨o,ho,hc,k',hd⟩ (by delta aS at hk;lia) ?_);refine xR hs (q _ _ .toks (.int _ _))
theorem xO(r:Rep s.heap ai v (.tuple ds))(hk:ds.length<=aS):eS C A ai (VH (.builtin "len") [v]) (.int ds.length) s:=by refine de r.tuple' ?_;rintro a o us k'(rfl)_ ho y0;refine bD y0 λhc hd hr=>?_;have hl:=hr.length;have hs:=XS.trans hl;refineλE Q q=>aq (len_tuple ⟨o,ho,hc,k',hd⟩ (by delta aS at hk;lia) ?_);refine xR hs (q _ _ .toks (.int _ _))
theorem n4{Q:Array UInt8->VY->Prop}(ho:s.heap.get? a=Xd o)(hd:o.data=.bytearray b k')(h:Q b s):Vw (VB prog w) A (WT (.ref a)) Q E s:=by unfold WT;refine Vt (Vt (Vo ho ?_));exact hd▸Vk (Vk h)
set_option tactic.hygienic true in
theorem Aa(r:bl s.heap ai v (.bg b))(hk:b.length<=aS):eS C A ai (VH (.builtin "len") [v]) (.int b.length) s:=by
 obtain⟨a,o,k',rfl,ho,hc,hd⟩:∃a o k,v=.ref a/\s.heap.get? a=Xd o/\o.cls=.type "bytearray"/\o.data=.bytearray b.toArray k:=by
  rcases r with⟨⟩;case rep r=>refine qP r.Zar λa o n h1 x h2=>?_;exact⟨a,o,n,h1,h2⟩
  case bg ho hc hd=>exact⟨_,_,_,rfl,ho,hc,hd⟩
 intro E Q q;have hT:s.TypeIs (.ref a) "bytearray":=⟨o,ho,hc⟩;refine aq (call_len_slot (n:=(b.length:Nat)) hT mD (λQ' hq=>?_) (aZ 0x80af731) (by unfold aS at hk;lia) (q _ _ .toks (.int _ _)));refine Vr mD hT tO ?_ (vh _);show Vw _ _ (WT (.ref a)>>=λb=>_) _ _ s;exact Vt (n4 ho hd (Vt (wpAny_mkInt (Vk ⟨_,rfl,hq⟩))))
theorem PK(r:bl s.heap ai v d)(h:Tz d=Xd k)(hk:k<=aS):eS C A ai (VH (.builtin "len") [v]) (.int k) s:=by
 rcases d with⟨⟩;case list=>obtain rfl:=Xc h;exact z9 r hk
 case tuple=>obtain rfl:=Xc h;exact xO (r.flat nofun nofun) hk
 case bg=>obtain rfl:=Xc h;exact Aa r hk
 case str=>obtain rfl:=Xc h;refine aI ((r.flat nofun nofun).i5) ?_;rintro t(rfl);exactλE Q q=>aq (PySem.P.len_str (by delta aS at hk;lia) (q _ _ .toks (.int _ _)))
 case bytes=>obtain rfl:=Xc h;refine aI ((r.flat nofun nofun).gH) ?_;rintro t(rfl);refineλE Q q=>aq (len_bytes (by delta aS at hk;refine xR XS ?_;lia) ?_);refine xR XS (q _ _ .toks (.int _ _))
 case range=>refine aL h λy h=>?_;obtain rfl:=Xc h;refine mq ((r.flat nofun nofun).range') ?_;rintro l t u w(rfl)_ hr;exactλE Q q=>aq (call_len_range hr (by delta ey;exact xR (Zy (eI _ _ _)) rfl) (by delta aS at hk;lia) (q _ _ .toks (.int _ _)))
 all_goals (exact aa h)
theorem O3(hA:A.handled=Xe)(r:bl s.heap ai v (.list es))(h:intsOf es=Xd ns):eS C A ai (VH (.builtin "sum") [v]) (.int ns.sum) s:=by
 refineλE Q q=>de (bS r) ?_;rintro a o us k'(rfl)ho hc y0;refine bD y0 λhn hd hr=>?_;have hi:=hr.ints h;refine aI (AllInts.items hi.allInts) λxs hx=>?_;have IF:(numsOf us).sum=ns.sum:=xR hi.numsOf rfl;have hl:s.heap.IsList a (intItems xs):=hx▸⟨o,ho,hc,k',hd⟩;refine aq (sum_intListG hA hl λh' tk t' hk=>?_);have e:preSum (numAt xs) xs.size=ns.sum:=by rw[preSum_eq,XO (by simp),<-IF];have:=nums_intItems xs;rw[<-hx]at this;simpa using Ve List.sum this.symm
 refine xR e (q _ {s with heap:=h',toks:=tk} (.of_keep hk rfl rfl) (.int _ _))
theorem JS(hA:A.handled=Xe)(r:bl s.heap ai v (.list es))(h:intsOf es=Xd ns)(hz:es.length<=aS)(hr:∀n∈ns,0<=n/\n<256):eS C A ai (VH (.type "bytes") [v]) (.bytes (ns.map λn=>n.toNat.toUInt8)) s:=by refineλE Q q=>de (bS r) ?_;rintro a o us k'(rfl)ho hc y0;refine bD y0 λhn hd rE=>?_;have hi:=rE.ints h;refine aq (call_bytes_ints ⟨o,ho,hc,k',hd⟩ hi hr (by refine xR rE.length (bK hz)) hA λh' t k hk=>?_);exact q _ {s with heap:=h',toks:=k} (.of_keep hk rfl rfl) (.bytes _ _)
theorem Ex.HA{t:Nat}:Ex C s {s with heap:=s.heap.push o,toks:=t}:=.of_keep (λx x e=>Wu o e) rfl rfl
theorem Fd(V:bz C ai s){a:Int}(r:Rep s.heap ai v (.int a)):eS C A ai (VH (.type "range") [v]) (.range 0 a 1) s:=by refine aI r.eQ ?_;rintro t(rfl);exactλE Q q=>aq (call_range_1 (q _ _ .HA (.range (V.new (aJ _)) (IsRange.new ..))))
theorem Fc(V:bz C ai s){a b:Int}(r:Rep s.heap ai v (.int a))(r2:Rep s.heap ai u (.int b)):eS C A ai (VH (.type "range") [v,u]) (.range a b 1) s:=by refine aI r.eQ ?_;rintro t(rfl);refine aI r2.eQ ?_;rintro t2(rfl);exactλE Q q=>aq (call_range_2 (q _ _ .HA (.range (V.new (aJ _)) (IsRange.new ..))))
theorem Fb(V:bz C ai s){w:VO}{a b c:Int}(r:Rep s.heap ai v (.int a))(r2:Rep s.heap ai u (.int b))(r3:Rep s.heap ai w (.int c))(hc:c≠0)(hn:c.natAbs<1073741824):eS C A ai (VH (.type "range") [v,u,w]) (.range a b c) s:=by refine aI r.eQ ?_;rintro t(rfl);refine aI r2.eQ ?_;rintro t2(rfl);refine aI r3.eQ ?_;rintro t3(rfl);exactλE Q q=>aq (call_range_3 hc (q _ _ .HA (.range (V.new (aJ _)) (IsRange.new ..))) (.inl (PyProof.noPylong_small hn)))
def iE(C:Cx)(n:Nat)(f:VV)(g:List Dat->Option Dat):Prop:=∃v,C.mg f=Xe/\C.mb f=Xd v/\(f==("__debug__":VV))=false/\(∀a,v≠.ref a)/\∀{A s ai vs ds d},dD C n A->Bs C s->bz C ai s->iC s.heap ai vs ds->g ds=Xd d->eS C A ai (VH v vs) d s
theorem log2_small{a:Int}(h:aM a=true):a.natAbs.log2<1920:=by
 refine aU (cG.mp h) λh1 h2=>?_;by_cases h0:a.natAbs=0
 ·refine xR h0 ?_;decide
 ·rw[Nat.log2_lt h0];have:a.natAbs<2^62:=by lia
  exact Xv this (Nat.pow_le_pow_right (by lia) (by lia))
theorem Gn(h1:C.mg f=Xe)(h2:C.mb f=Xd v)(h3:(f==("__debug__":VV))=false)(h4:∀a,v≠.ref a)(h:∀{A s ai u x d},dD C n A->bz C ai s->bl s.heap ai u x->g x=Xd d->eS C A ai (VH v [u]) d s):iE C n f (oV g):=⟨v,h1,h2,h3,h4,λ{A s ai vs ds d}hA bs V rs e=>by
  match ds,e with
  |[x],e=>refine av rs.xA ?_;rintro u(rfl)r;exact h hA V r e⟩
theorem Nd(hC:C.Plain):iE C n "len" lF:=Gn (v:=.builtin "len") (hC.none _ (by decide)) (hC.b (by kernel_rfl) (by decide)) (by decide) nofun λhA V r h=>ak h λk hl h=>aL h λhk h=>Xc h▸PK r hl hk
theorem Na(hC:C.Plain):iE C n "sum" sumF:=Gn (v:=.builtin "sum") (hC.none _ (by decide)) (hC.b (by kernel_rfl) (by decide)) (by decide) nofun λhA V r h=>by refine av (pC h) ?_;rintro es(rfl)h;exact ba h λk hl h=>h▸O3 hA.handled r hl
theorem Nb(hC:C.Plain):iE C n "str" KN:=Gn (v:=.type "str") (hC.none _ (by decide)) (hC.b (by kernel_rfl) (by decide)) (by decide) nofun λ{A s ai u x d}hA V r h=>by
  rcases x with⟨⟩;case str=>refine aI ((r.flat nofun nofun).i5) ?_;rintro t(rfl);obtain rfl:=Xc h;exactλE Q q=>aq (PySem.P.str_of_str (q _ _ (.refl s) (.str _ _)))
  case int=>refine aI ((r.flat nofun nofun).eQ) ?_;rintro t(rfl);refine aL h λhs h=>?_;obtain rfl:=Xc h;exactλE Q q=>aq (PySem.P.str_of_int (log2_small hs) (q _ _ .toks (.str _ _)))
  all_goals (exact aa h)
set_option tactic.hygienic true in
theorem Nc(hC:C.Plain):iE C n "ord" Fp:=Gn (v:=.builtin "ord") (hC.none _ (by decide)) (hC.b (by kernel_rfl) (by decide)) (by decide) nofun λ{A s ai u x d}hA V r h=>by
  rcases x with⟨⟩;case str x=>
   refine aI ((r.flat nofun nofun).i5) ?_;rintro t(rfl);obtain⟨⟨l⟩⟩:=x;have h':=h;rcases l with⟨⟩|⟨c,⟨⟩|⟨b,l⟩⟩
   ·exact aa h'
   rotate_left
   ·exact aa h'
   ·obtain rfl:=Xc h';exactλE Q q=>aq (PySem.P.ord_of_char (q _ _ .toks (.int _ _)))
  all_goals (exact aa h)
theorem Nf(hC:C.Plain):iE C n "chr" MT:=Gn (v:=.builtin "chr") (hC.none _ (by decide)) (hC.b (by kernel_rfl) (by decide)) (by decide) nofun λ{A s ai u x d}hA V r h=>by
  rcases x with⟨⟩;case int=>refine aI ((r.flat nofun nofun).eQ) ?_;rintro t(rfl);refine aL h λhi h=>?_;obtain rfl:=Xc h;exactλE Q q=>aq (PySem.P.chr_of_int (by simp;assumption) (q _ _ .toks (.str _ _)))
  all_goals (exact aa h)
theorem Gl(hC:C.Plain):iE C n "range" j0:=⟨.type "range",hC.none _ (by decide),hC.b (by kernel_rfl) (by decide),by decide,nofun,λ{A s ai vs ds d}hA bs V rs e=>by
  rcases ds with⟨⟩|⟨a,⟨⟩|⟨b,⟨⟩|⟨c,⟨⟩|⟨d',l⟩⟩⟩⟩
  ·exact aa e
  ·refine av rs.xA ?_;rintro u(rfl)r;refine ba e λi h1 h=>?_;obtain rfl:=g7 h1;exact h▸Fd V (r.flat nofun nofun)
  ·refine er rs.qI ?_;rintro u us(rfl)r rs;refine av rs.xA ?_;rintro w(rfl)r2;refine ak e λi h1 e=>ba e λj h2 h=>?_;obtain rfl:=g7 h1;obtain rfl:=g7 h2;exact h▸Fc V (r.flat nofun nofun) (r2.flat nofun nofun)
  ·refine er rs.qI ?_;rintro u us(rfl)r rs;refine er rs.qI ?_;rintro w us(rfl)r2 rs;refine av rs.xA ?_;rintro z(rfl)r3;refine ak e λi h1 e=>ak e λj h2 e=>ak e λk h3 e=>aL e λhc h=>?_;obtain rfl:=g7 h1;obtain rfl:=g7 h2;obtain rfl:=g7 h3;exact Xc h▸Fb V (r.flat nofun nofun) (r2.flat nofun nofun) (r3.flat nofun nofun) hc.1 hc.2
  ·exact aa e⟩
theorem ub(hC:C.Plain):iE C n "isinstance" Iv:=⟨.builtin "isinstance",hC.none _ (by decide),hC.b (by kernel_rfl) (by decide),by decide,nofun,λ{A s ai vs ds d}hA bs V rs e=>by
  rcases ds with⟨⟩|⟨a,⟨⟩|⟨b,⟨⟩|⟨c,l⟩⟩⟩
  ·exact aa e
  ·exact aa e
  ·refine er rs.qI ?_;rintro u us(rfl)r rs;refine av rs.xA ?_;rintro w(rfl)r2;rcases a with⟨⟩;case bytes x=>cases b with
    |typ t=>refine aL e λht h=>?_;obtain rfl:=Xc h;subst ht;refine aI ((r.flat nofun nofun).gH) ?_;rintro t1(rfl);obtain rfl:=(r2.flat nofun nofun).ZaY;exactλE Q q=>aq (call_isinstance (isinstance_true (by kernel_rfl) F.sub_bytes_bytes) ⟨VK _ _ _,q _ _ (.refl s) (.bool _)⟩)
    |_=>exact aa e
   all_goals (exact aa e)
  ·exact aa e⟩
theorem uZ:typeLookup (.type "bytearray") "__bytes__"=pure Xe:=by rw[Vx,VI];kernel_rfl
theorem uY:typeLookup (.type "bytearray") "__index__"=pure Xe:=by rw[Vx,VI];kernel_rfl
theorem lV:typeLookup (.type "bytearray") "__buffer__"=pure (Xd (.builtin "bytearray.__buffer__")):=by rw[Vx,VI];kernel_rfl
theorem sj{Q:Bool->VY->Prop}(hT:s.TypeIs (.ref a) "bytearray")(h:Q true s):Vw (VB prog w) A (WR (.ref a) "__buffer__") Q E s:=by
 unfold WR;refine Vt (Vj hT lV ?_);have e1:("bytearray.__buffer__".endsWith ("."++"__buffer__"))=true:=by decide +kernel
 have e2:("bytearray.__buffer__".dropRight ("__buffer__".length+1))="bytearray":=by decide +kernel
 simp only[e1,e2];exact wpAny_isInstance hT iZ h
theorem AX{id:String}{a:W8}{o:Obj}{b:Array UInt8}{k:Nat}{Q:Option (Array UInt8)->VY->Prop}(ho:s.heap.get? a=Xd o)(hc:o.cls=.type "bytearray")(hd:o.data=.bytearray b k)(h:Q (Xd b) s):Vw (VB prog w) A (WX id (.ref a) true) Q E s:=by have hT:s.TypeIs (.ref a) "bytearray":=⟨o,ho,hc⟩;unfold WX;refine Vt (Vj hT lV ?_);refine Vt (sj hT ?_);refine VJ rfl (Vt (Vj hT lV ?_));refine Vt (gF hT ?_);refine VJ rfl (Vt (n4 ho hd (Vk h)))
theorem sM(ho:s.heap.get? a=Xd o)(hc:o.cls=.type "bytearray")(hd:o.data=.bytearray b k)(hz:b.size<=sizeLine)(hQ:∀t k,Q (.bytes b t) {s with toks:=k}):codeAny (VB prog w) A (.call (.builtin "bytes.__new__") ⟨[.type "bytes",.ref a],[]⟩) (wants Q E) s:=by
 revert ho hc hd hz hQ
 refine ux (bT (bT (bT (bT GB rB) pA) U8) U8) ?_ w A s prog a Q E b o k
 generalize gE _ _=tt
 dsimp only[GN]
 generalize tt.1.1.1.1=w,tt.1.1.1.2=A,tt.1.1.2=s,tt.1.2.1=prog,tt.1.2.2=a,tt.2.1.1.1=Q,tt.2.1.1.2=E,tt.2.1.2=b,tt.2.2.1=o,tt.2.2.2=k
 intro ho hc hd hz hQ
 refine codeAny_of_tree ?_
 show Vw _ A.in1 (do checkBuiltinCall "bytes.__new__" ⟨[.type "bytes",.ref a],[]⟩;again (.builtin "bytes.__new__" ⟨[.type "bytes",.ref a],[]⟩)) _ _ s
 refine Vt (Vl (F.bm_newCall _) (Vk ⟨VA F.bm_plain _,VG F.bm_entry ?_⟩))
 rw[W4 F.bm_plain _]
 have hT:s.TypeIs (.ref a) "bytearray":=⟨o,ho,hc⟩
 unfold WY.«bytes.__new__»
 refine Vt (Vl rfl ?_)
 refine VJ rfl ?_
 refine Vt (Vl F.bm_sub ?_)
 refine VJ rfl ?_
 refine Vt (Vl (F.bm_bind _) ?_)
 refine Vt (Vl rfl ?_)
 refine Vt (Vl rfl ?_)
 refine VJ rfl ?_
 refine Vt (Vj hT uZ ?_)
 refine Vt (Vt ?_)
 refine Vt (Vo ho ?_)
 rw[hd]
 refine Vk (Vk ?_)
 refine VJ rfl ?_
 refine Vt (Vj hT uY ?_)
 refine bm_if_true rfl ?_
 first|show Vw _ _ (WX "bytes.__new__" (.ref a) true>>=_) _ _ _|(refine Vt ?_;show Vw _ _ (WX "bytes.__new__" (.ref a) true>>=_) _ _ _)
 refine Vt (AX ho hc hd ?_)
 refine Vt (wpAny_rule ?_)
 have hmk:∀{A:W6}{E:VO->VY->Prop}{Q:VO->VY->Prop}{s:VY},(∀t k,Q (.bytes b t) {s with toks:=k})->Vw (VB prog w) A (mkBytes b) Q E s:=by intro A E Q s h;unfold mkBytes;rw[Vg (by exact aO 0x1031012 hz)];exactλΓ p jG=>h _ _
 refine Vt (hmk λt k=>?_)
 first|exact Vk (Vk (hQ t k))|exact Vk (hQ t k)
theorem q0(ho:s.heap.get? a=Xd o)(hc:o.cls=.type "bytearray")(hd:o.data=.bytearray b k)(hz:b.size<=sizeLine)(hQ:∀t k,Q (.bytes b t) {s with toks:=k}):Vw (VB prog w) A (VH (.type "bytes") [.ref a]) Q E s:=by refine callType_codes (Q₁:=λobj aA=>aA.TypeIs obj "bytes"/\Q obj aA) F.bm_called (F.bm_typeCall _) F.entry_object_init (sM ho hc hd hz λt k=>⟨PySem.W.typeIs_bytes _ _ _,hQ t k⟩) λobj aA bF=>⟨bF.1,F.args_object_init_2 obj _,object_init_meets F.bm_called.init.lookup F.bm_called.made (by decide) prog w A.in1 _ aA ⟨bF.1,rfl,bF.2⟩⟩
theorem Gm(hC:C.Plain):iE C n "bytes" lS:=Gn (v:=.type "bytes") (hC.none _ (by decide)) (hC.b (by kernel_rfl) (by decide)) (by decide) nofun λ{A s ai u x d}hA V r h=>by
  rcases x with⟨⟩;case list=>exact ak h λns hl h=>aL h λhh h=>Xc h▸JS hA.handled r hl hh.1 hh.2
  case bg=>refine aL h λhb h=>?_;obtain rfl:=Xc h;refine jg (nU r) ?_;rintro a o k(rfl)ho hc hd;exactλE Q q=>aq (q0 ho hc hd (by rw[XS];exact bK hb) λt k=>q _ _ .toks (.bytes _ _))
  all_goals (exact aa h)
section
open AutoSeq1 (wpAny_loadPart')
def nr(C:Cx)(n:Nat)(m:VV)(g:Dat->List Dat->Option Dat):Prop:=∀{a ds d v s ai},g a ds=Xd d->Bs C s->bz C ai s->bl s.heap ai v a->∃id,(∀{A pl},Wp C A (getMethod v m pl) (λr x=>r=(.builtin id,[v])) s)/\∀{A s vs},dD C n A->Bs C s->bz C ai s->bl s.heap ai v a->aK s.heap ai vs ds->eS C A ai (VH (.builtin id) (v::vs)) d s
def ip(a:Dat):List Dat->Option Dat:=oV λb=>TU a b
where TU:Dat->Dat->Option Dat| .str sep,.list es=>(strsOf es).bind λys=>if(ys.map (·.length)).sum+ys.length*sep.length<=16777216 then Xd (.str (Txt.join sep ys))else Xe|_,_=>Xe
def s8(a:Dat):List Dat->Option Dat:=oV λd=>DM (λds=>if ds.length<=aS then(m9 d ds 0).map λj:Nat=>.int (j:Int)else Xe) a
theorem jD(h:oV g ds=Xd d):∃x,ds=[x]/\g x=Xd d:=by match ds,h with|[x],h=>exact⟨x,rfl,h⟩
noncomputable def El:Dat->Option (VV)| .str t=>Xd t|_=>Xe
theorem qc{y:VV}(h:El d=Xd y):d=.str y:=by
 rcases d with⟨⟩;case str=>rw[Xc h]
 all_goals exact aa h
noncomputable def Ni:Dat->Option (Int)| .int t=>Xd t|_=>Xe
theorem ud{y:Int}(h:Ni d=Xd y):d=.int y:=by
 rcases d with⟨⟩;case int=>rw[Xc h]
 all_goals exact aa h
noncomputable def OI:Dat->Option (W8)| .top t=>Xd t|_=>Xe
theorem Gr{y:W8}(h:OI d=Xd y):d=.top y:=by
 rcases d with⟨⟩;case top=>rw[Xc h]
 all_goals exact aa h
def Nl(g:Dat->Dat->Option Dat):List Dat->Option Dat|[]=>Xe|a::r=>oV (g a) r
set_option tactic.hygienic true in
theorem lW{g:Dat->Dat->Option Dat}(h:Nl g ds=Xd d):∃x y,ds=[x,y]/\g x y=Xd d:=by
 rcases ds with⟨⟩;case nil=>exact aa h
 case cons a r=>exact(jD h).elim λy h=>⟨a,y,by rw[h.1],h.2⟩
theorem aK.xA{x:Dat}(r:aK h ai vs [x]):∃v,vs=[v]/\Rep h ai v x:=by refine er r.qI λv us e r rs=>⟨v,by rw[e,rs.Pt],r⟩
theorem vL:nr C n "join" ip:=by
 intro a ds d v s ai h bs V r;refine av (jD h) ?_;rintro x(rfl)h;rcases a with⟨⟩;case str sep=>cases x with
  |list es=>refine ak h λys hl h=>aL h λhz h=>?_;obtain rfl:=Xc h;refine aI ((r.flat nofun nofun).i5) ?_;rintro t(rfl);refine⟨"str.join",λ{A pl}E Q q=>aq (VE (Vy _ _ _) PySem.F.plainAttrs_str PySem.F.slot_str_join PySem.F.type_str_join GM.noRef (q _ _ (.refl s) rfl)),λ{A s vs}hA bs V r rs=>?_⟩;refine av rs.xA ?_;rintro u(rfl)rd;refine de rd.qz ?_;rintro a o us k(rfl)_ ho y0;refine nE y0 λhc y hd hr=>λE Q q=>aq (join_list ⟨_,ho,hc,_,hd⟩ (hr.strs hl) hz λt' k=>q _ _ .toks (.str _ _))
  |_=>exact aa h
 all_goals (exact aa h)
theorem Iz (l:W8) (ar:Array VO) (n:Nat) (Ju:Option W8) (Hp:Array (Option VO)) (x:VO) (dx:Dat) (OY:Int) (hup:(ar.size:Int)≤OY):∀(ds:List Dat) (xs:List VO) (i j:Nat),ar.toList.drop i=xs→m9 dx ds i=Xd j→
  Meets (WY.«list.index.loop» ⟨[.ref l,x,rawInt i,rawInt OY],[]⟩)
   (λA R s=>s.heap.get? l=Xd {cls:= .type "list",dict:=Ju,data:= .seq ar n,slots:=Hp}∧A.units + 80 < cLine∧aK s.heap ai xs ds∧Rep s.heap ai x dx∧
    R (.ok (.ret (.int j s.toks))) {s with toks:=s.toks + 1}):=by
 intro ds
 induction ds with
 |nil=>exactλxs i j _ h=>aa h
 |cons d ds ih=>
  intro xs i j hx hj prog w A R s h
  obtain ⟨hp,g,dd,tk,os⟩:=s;obtain ⟨hl,hu,rs,rx,h⟩:=h
  cases rs with
  | @cons v _ vs _ rv Rk=>
  have hi:=head_drop hx
  have je:i < ar.size:=by
   have:=Ve YU hx
   simp at this
   exact bj 0x1092b10c22 this
  have kU:(if (i:Int) < OY then ar[((i:Nat):Int).toNat]? else Xe)=Xd v:=by rw [Vh (by exact zC2 0xf1af70100f0af83 rfl hup je)];exact hi
  wp_walk using Vn hl
  rw [kU]
  rw [s9] at hj
  cases he:mh d dx with
  |none=>rw [he] at hj;exact aa hj
  |some b=>
   rw [he] at hj
   refine Vt (pR (by have:A.in1.units=A.units + 1:=rfl;exact bj 0x146a2b090b22150a0b03 hu this) rv rx he ?_)
   rcases b with ⟨⟩
   case true=>
    obtain rfl:=Xc hj
    wp_walk
    exact h
   case false=>
    wp_walk
    have hc:((i:Int) + 1)=((i + 1:Nat):Int):=by push_cast;rfl
    rw [hc]
    have ta:ar.toList.drop (i + 1)=vs:=by rw [←Zo,hx];rfl
    exact ⟨VA Wm _,VG MeetsSeq.entry_index_loop (by
     rw [W4 Wm _]
     exact ih vs (i + 1) j ta hj prog w A R _ ⟨hl,hu,Rk,rx,h⟩)⟩
theorem Ai(l:W8)(ar:Array VO)(n:Nat)(Ju:Option W8)(Hp:Array (Option VO))(x:VO)(dx:Dat)(ds:List Dat)(j:Nat)(lJ:ar.size<=aS)(hj:m9 dx ds 0=Xd j):Meets (WY.«list.index» ⟨[.ref l,x],[]⟩) (λA R s=>s.heap.get? l=Xd {cls:=.type "list",dict:=Ju,data:=.seq ar n,slots:=Hp}/\A.units+80<cLine/\aK s.heap ai ar.toList ds/\Rep s.heap ai x dx/\R (.ok (.ret (.int j s.toks))) {s with toks:=s.toks+1}):=by
 intro prog w A R s h
 obtain⟨hp,g,d,tk,os⟩:=s;refine rQ h λhl hu rs rx h=>?_
 wp_walk using Vn hl
 have a1:((λi:Int=>if i<0 then max 0 (i+(ar.size:Int))else i) ((Xe:Option Int).getD 0))=((0:Nat):Int):=by simp
 have a2:((λi:Int=>if i<0 then max 0 (i+(ar.size:Int))else i) ((Xe:Option Int).getD (2^63-1)))=2^63-1:=by simp
 rw[a1,a2]
 exact⟨VA Wm _,VG MeetsSeq.entry_index_loop (by rw[W4 Wm _];exact Iz l ar n Ju Hp x dx _ (by unfold aS at lJ;lia) ds ar.toList 0 j rfl hj prog w A R _ ⟨hl,hu,rs,rx,h⟩)⟩
theorem sR:nr C n "index" s8:=by
 intro a ds d v s ai h bs V r;refine av (jD h) ?_;rintro x(rfl)h;refine av (pC h) ?_;rintro es(rfl)h;refine aL h λhz h=>ba h λj hj h=>?_;subst h;refine RQ (bS r) ?_;rintro l0 _ _ _(rfl)_;refine⟨"list.index",rG PySem.F.slot_list_index PySem.F.type_list_index r,λ{A s vs}hA bs V r rs=>?_⟩;refine av rs.xA ?_;rintro u(rfl)rd;refine de (bS r) λl y0 us k e ho hc y1=>bD y1 λhn hd hr=>?_;obtain⟨c1,d1,Kp,w7⟩:=y0;rcases e with⟨⟩;obtain rfl:c1=_:=hc;obtain rfl:Kp=_:=hd;refineλE Q q=>aq (call_meets PySem.F.slot_list_index ⟨_,ho,rfl⟩ PySem.F.entry_list_index (PySem.F.args_list_index_2 _ _) (Ai l0 us.toArray k d1 w7 _ x es j ?_ hj) ⟨ho,?_,hr,rd,q _ _ .toks (.int _ _)⟩)
 ·have:=hr.length;rw[XS,this];exact hz
 ·have:=hA.units;exact bj 0x250a0b02000003e88f10ad0bb02 this
end
abbrev yT:=V5->VW->ax->Option Fl
def dY(C:Cx)(n:Nat)(K:WH->W6->Prop)(Ψ:yT):Prop:=∀{A ag},dD C n A->K ag A->qf C Ψ A ag
theorem dY.none:dY C n K (λx x x=>Xe):=λ{A ag}hA hK=>by intro aj sc st ae W ad s fl e S hD h;exact aa h
noncomputable def nX(V:ax)(x:VV):Option VV:=match V.lookup x with
 |some (.val (.str t))=>Xd t|_=>Xe
theorem vA{t:VV}(h:nX V x=Xd t):V.lookup x=Xd (.val (.str t)):=by
 unfold nX at h;cases e:V.lookup x with
 |none=>rw[e]at h;exact aa h
 |some sl=>
  rw[e]at h;rcases sl with⟨⟩;case own=>exact aa h
  case val=>
   rcases d with⟨⟩;case str=>obtain rfl:=Xc h;rfl
   all_goals (exact aa h)
abbrev nu:=V5->ax->Option Fl
noncomputable def ql:VW->Nat| .Assign _ _ p=>p.line| .Expr _ p=>p.line| .Try _ _ _ _ p=>p.line|_=>0
noncomputable def lg(L:List (VW×nu)):yT:=λsc st ae=>match L.find? λp=>ql p.1==ql st with
 |some p=> @ite _ (p.1=st) (Classical.propDecidable _) (p.2 sc ae) Xe|none=>Xe
noncomputable def Ke{α:Type}(P:α->Prop):List α->Prop|[]=>True|a::l=>P a/\Ke P l
theorem Ke.mem{α:Type}{P:α->Prop}:∀{l:List α},Ke P l->∀a∈l,P a:=by
 intro l;induction l with
 |nil=>intros;first|contradiction|(rename_i h;cases h)|(rename_i h _;cases h)|(rename_i h;exact nomatch h)
 |cons a l ih=>
  refineλh b hb=>Xa (Yw.mp hb) (λe=>?_) λe=>?_
  ·rw[e];exact h.1
  ·exact ih h.2 b e
def wF(C:Cx)(n:Nat)(K:WH->W6->Prop)(p:VW×nu):Prop:=∀{A ag},dD C n A->K ag A->∀{aj sc ae W ad s fl},aR ag sc->SS C aj ag sc ae W ad s->dC ae->p.2 sc ae=Xd fl->∀(E:VO->VY->Prop)(Q:WA->VY->Prop),(∀f s',yU C aj ag sc W s fl f s'->Q f s')->aP (VB pw Wd) A (exec p.1 ag) Q E s
theorem ER{L:List (VW×nu)}{st:VW}{fl:Fl}(h:lg L sc st ae=Xd fl):∃p∈L,p.1=st/\p.2 sc ae=Xd fl:=by unfold lg at h;cases e:L.find? λp=>ql p.1==ql st with|none=>rw[e]at h;exact aa h|some p=>rw[e]at h;exact aL h λh1 h2=>⟨p,Yp e,h1,h2⟩
theorem nN{L:List (VW×nu)}(h:Ke (wF C n K) L):dY C n K (lg L):=λ{A ag}hA hK=>by intro aj sc st ae W ad s fl e S hD hf;refine dE (ER hf) ?_;rintro p hp(rfl)hm;exact h.mem p hp hA hK e S hD hm
theorem cW{L:List (VW×nu)}{st:VW}{m:nu}(h:(L.find? λp=>ql p.1==ql st)=Xd (st,m)):lg L sc st ae=m sc ae:=by unfold lg;rw[h];exact @Vh _ (Classical.propDecidable _) rfl _ _ _
def qT(x y a b:VV):nu:=λsc ae=>(nX ae y).bind λt=>if t.length<=aS then(bV sc x (.val (.str (VR t a b))) ae).map .next else Xe
theorem i6{y a b:VV}(hp:(ap.endLine==p.line)=true)(hab:(a==b)=false)(Qk:b.length<=14):wF C n K (.Assign [.Name x xp] (.Call (.Attribute (.Name y yp) "replace" ap) [.Constant (.str a) k1 TS,.Constant (.str b) k2 TR] [] p) pos,qT x y a b):=by
 intro A ag hA hK aj sc ae W ad s fl e S hD h E Q hQ;revert n K hp hab Qk hA hK fl e S hD h hQ;refine no_implicit_lambda% (GR (bT (bT (bT (bT (bT rB zS) pA) U8) U8) U8) ?_ A C s ag a b aj W p x y E k2 TR ap yp k1 TS xp Q sc ae ad pos);generalize gE _ _=tt;dsimp only[Q9];generalize tt.1.1.1.1.1=A,tt.1.1.1.1.2=C,tt.1.1.1.2=s,tt.1.1.2.1.1=ag,tt.1.1.2.1.2=a,tt.1.1.2.2=b,tt.1.2.1.1.1=aj,tt.1.2.1.1.2=W,tt.1.2.1.2=p,tt.1.2.2.1.1=x,tt.1.2.2.1.2=y,tt.1.2.2.2=E,tt.2.1.1.1.1=k2,tt.2.1.1.1.2=TR,tt.2.1.1.2=ap,tt.2.1.2.1.1=yp,tt.2.1.2.1.2=k1,tt.2.1.2.2=TS,tt.2.2.1.1.1=xp,tt.2.2.1.1.2=Q,tt.2.2.1.2=sc,tt.2.2.2.1.1=ae,tt.2.2.2.1.2=ad,tt.2.2.2.2=pos;refineλn K hp hab Qk hA hK fl e S hD h hQ=>ak h λt hy h=>aL h λT4 h=>ba h λbX hb Ct=>?_;subst Ct;refine bG ?_ rfl rfl;show aP _ A (eval (.Name y yp) ag>>=λov=>standAt ap.atName>>=λu=>methodCall (.Name y yp) "replace" ap p ag ov 2 (backTo p (starEach [.Constant (.str a) k1 TS,.Constant (.str b) k2 TR] ag)) (backToKw p (keywordEach [] ag))) _ E s;refine av (S.bO.lo y _ (vA hy)) λv hv hr=>?_;cases hr with|str _ tk=>?_
 refine ab (iS e hv (ab (au ?_)));unfold methodCall;have Jd:methodCallForm 2 (backTo p (starEach [.Constant (.str a) k1 TS,.Constant (.str b) k2 TR] ag)) (backToKw p (keywordEach [] ag))=true:=rfl;rw[Jd];refine ab (az ?_);refine aq (VE (Vy _ _ _) PySem.F.plainAttrs_str PySem.F.slot_str_replace PySem.F.type_str_replace GM.noRef ?_);have Un:methodCallPos true (.Name y yp) ag ap p=pure p:=by unfold methodCallPos;simp only[ZM,Bool.false_or,hp,if_true]
 rw[Un];refine ab (ao ?_);have kf:(backTo p (starEach [.Constant (.str a) k1 TS,.Constant (.str b) k2 TR] ag)).any (·.1)=false:=rfl;refine cf (λu q=>by rcases q with⟨⟩) kf (GS λht=>?_);refine cq (C:=C) (P:=λvs s'=>vs=[.str a s.toks,.str b (s.toks+1)]/\s'={s with toks:=s.toks+1+1}) kf (λE Q q=>b8 (aq (Vu (b8 (aq (Vu (ee (q _ {s with toks:=s.toks+1+1} .toks ⟨rfl,rfl⟩)))) rfl))) rfl) _ _ λz s3 x3 r3=>?_;obtain⟨ps,kw⟩:=z;refine bD r3 ?_;rintro(rfl)(rfl)(rfl);refine aq (SC.replaceW (Nat.pos_iff_ne_zero.mp ht) (Nat.succ_ne_zero _) (Nat.ne_of_lt (Xs _)) hab (Xy T4 (by decide)) Qk λt' k=>?_);have S3:SS C aj ag sc ae W ad {s with toks:=k}:=S.ex .toks;exact ab (au (fo e S3 hD hb (.str _ _) λs4 m4 S4 UN u=>hQ _ _ ⟨rfl,W,ad,(Mv.iG .toks).trans m4,S4,UN⟩))
theorem n5:Manifest.owners.lookup (String.ofList ['r','e','t','l','i','f'].reverse)=Xd Manifest.sig_filter:=by kernel_rfl
theorem dM:VX "filter" "__next__" "filter.__next__":=.of (owner:="filter") (n:="__next__") (by rw[Vx,VI];kernel_rfl) (by decide +kernel) (by decide +kernel) (by decide +kernel) (by first|exact .inl (by decide +kernel)|exact .inr (by decide +kernel)) (by rw[VC];kernel_rfl)
theorem iT:entryFor table "filter.__next__"=Xd WY.«filter.__next__»:=VF (by kernel_rfl)
theorem jC(a:VO):argsOk "filter.__next__" ⟨[a],[]⟩:=by unfold argsOk;rw[Vz (n:=['_','_','t','x','e','n','_','_']) (by kernel_rfl) n5];kernel_rfl
theorem jl:VX "filter" "__iter__" "filter.__iter__":=.of (owner:="filter") (n:="__iter__") (by rw[Vx,VI];kernel_rfl) (by decide +kernel) (by decide +kernel) (by decide +kernel) (by first|exact .inl (by decide +kernel)|exact .inr (by decide +kernel)) (by rw[VC];kernel_rfl)
theorem qd(a:VO):argsOk "filter.__iter__" ⟨[a],[]⟩:=by unfold argsOk;rw[Vz (n:=['_','_','r','e','t','i','_','_']) (by kernel_rfl) n5];kernel_rfl
theorem oH:entryFor table "filter.__iter__"=Xd WY.«dict_keyiterator.__iter__»:=entryFor_alias (id':="dict_keyiterator.__iter__") (by rw[fastTable_eq_tree];kernel_rfl) (by decide +kernel) (by decide +kernel) (by rw[fastTable_eq_tree];kernel_rfl)
theorem dm:plainId "filter.__next__"=true:=by decide +kernel
theorem sQ:mroOf (.type "filter")=pure [.type "filter",.type "object"]:=by rw[mroOf_type];kernel_rfl
theorem og:typeLookup (.type "filter") "__new__"=pure (Xd (.builtin "filter.__new__")):=by rw[Vx,VI];kernel_rfl
theorem pg:VX "filter" "__init__" "object.__init__":=.of (owner:="object") (n:="__init__") (by rw[Vx,VI];kernel_rfl) (by decide +kernel) (by decide +kernel) (by decide +kernel) (by first|exact .inl (by decide +kernel)|exact .inr (by decide +kernel)) (by rw[VC];kernel_rfl)
theorem eX:TypeCalled "filter" "filter.__new__" "object.__init__":=⟨by decide +kernel,by decide +kernel,⟨_,_,sQ⟩,madeBy_type sQ og (by decide +kernel),by decide +kernel,by rw[VC];kernel_rfl,pg⟩
theorem qQ(a b:VO):checkTypeCall "filter" ⟨[a,b],[]⟩=pure ():=by kernel_rfl
theorem sN(a b:VO):checkBuiltinCall "filter.__new__" ⟨[.type "filter",a,b],[]⟩=pure ():=by kernel_rfl
theorem pS:entryFor table "filter.__new__"=Xd WY.«filter.__new__»:=VF (by kernel_rfl)
theorem qS:isSubtype (.type "filter") (.type "filter")=pure true:=by rw[VC];kernel_rfl
def o3(h:Wz)(F I:W8):Prop:=∃o,h.get? F=Xd o/\o.cls=.type "filter"/\o.data=.fields #[.builtin "len",.ref I]
theorem o3.keeps(x:o3 h F I)(hk:∀o,h.get? F=Xd o->h'.get? F=Xd o):o3 h' F I:=let⟨o,ho,r⟩:=x;⟨o,hk o ho,r⟩
noncomputable def jj:VO->Bool| .str x _=>x.length !=0|_=>false
theorem rl{t:Tok}:jj (.str x t)=(x.length !=0):=rfl
theorem rY{t:W8}{x:VO}{Q:Option VO->VY->Prop}(hit:s.heap.IsTupleIter I t i)(ht:s.heap.IsTuple t ar)(hx:ar[i]?=Xd x)(hQ:∀h',h'.IsTupleIter I t (i+1)->Ww I s.heap h'->Q (Xd x) {s with heap:=h'}):Vw (VB prog w) A (callSpecial? (.ref I) (VV.ofString "__next__")) Q E s:=by refine dE (id hit) λo ho hc hd=>?_;obtain⟨ol,hol,_,nl,hdl⟩:=ht;refine Vs hit.typeIs WC (Vr WC hit.typeIs F.entry_tuple_iterator_next ?_ (F.args_tuple_iterator_next_1 _));show Vw _ _ (field (.ref I) 0>>=_) _ _ s;refine Vt (Vq ho hd (x:=.ref t) rfl ?_);rw[Vg (show ¬((VM t==VN)=true)from ZP)];refine Vt (Vq ho hd rfl ?_);refine Vt (wpAny_seqItems hol hdl ?_);simp only[Zz,hx];refine Vt (wpAny_setField ho hd (by simp) (Vk ⟨x,rfl,(hQ _ ?_ (Wv ..))⟩));exact⟨_,Wr _ ho (Obj.isFreed_of_fields (Obj.data_mapFields hd _)),(Obj.cls_mapFields ..).trans hc,by rw[Obj.data_mapFields hd];simp[rawInt]⟩
theorem uz{t:W8}{Q:Option VO->VY->Prop}(hh:A.handled=Xe)(hit:s.heap.IsTupleIter I t i)(ht:s.heap.IsTuple t ar)(hx:ar[i]?=Xe)(hE:∀e h',Wy I s.heap h'->({s with heap:=h'}:VY).TypeIs e "StopIteration"->E e {s with heap:=h'}):Vw (VB prog w) A (callSpecial? (.ref I) (VV.ofString "__next__")) Q E s:=by
 refine dE (id hit) λo ho hc hd=>?_;obtain⟨ol,hol,_,nl,hdl⟩:=ht;refine Vs hit.typeIs WC (Vr WC hit.typeIs F.entry_tuple_iterator_next ?_ (F.args_tuple_iterator_next_1 _));show Vw _ _ (field (.ref I) 0>>=_) _ _ s;refine Vt (Vq ho hd (x:=.ref t) rfl ?_);rw[Vg (show ¬((VM t==VN)=true)from ZP)];refine Vt (Vq ho hd rfl ?_);refine Vt (wpAny_seqItems hol hdl ?_);simp only[Zz,hx];refine Vt (wpAny_rule (Vt (wpAny_setField ho hd (by simp) ?_)));refine Vt ?_;simp only[newExc,newTuple];refine Vt (Vm ?_ (by size_fits));refine Vt (Vl (by first|rfl|(simp only[firstArgMember];rfl)) ?_);refine Vm ?_ (by size_fits);delta raiseNew;dsimp only;refine Vt (wpAny_handled ?_);first|rw[show A.in1.handled=Xe from hh]|rw[hh]
 refine Vt (Vk (wpAny_throw ?_));exact hE _ _ (((Wv ..).extBut.push _).push _) ⟨_,Wt _ rfl,rfl⟩
theorem DG{F t:W8}(Mg:F≠I)(L5:t≠I)(Al:∀v∈ar.toList,∃x tk,v=VO.str x tk/\x.length<=aS)(hh:A.handled=Xe){R:V6->VY->Prop}:∀(k i:Nat)(s:VY),ar.size-i=k->o3 s.heap F I->s.heap.IsTupleIter I t i->s.heap.IsTuple t ar->(∀v j h' tk,(ar.toList.drop i).filter jj=v::(ar.toList.drop j).filter jj->Ww I s.heap h'->h'.IsTupleIter I t j->R (.ok (.ret v)) {s with heap:=h',toks:=tk})->((ar.toList.drop i).filter jj=[]->∀e h' tk,Wy I s.heap h'->({s with heap:=h',toks:=tk}:VY).TypeIs e "StopIteration"->R (.error e) {s with heap:=h',toks:=tk})->codeAny (VB prog w) A (.builtin "filter.__next__" ⟨[.ref F],[]⟩) R s:=by
 revert Mg L5 Al hh
 refine OS (bT (bT (bT rB GB) U8) U8) ?_ A w ar F prog R I t
 generalize gE _ _=tt
 dsimp only[K8]
 generalize tt.1.1.1=A,tt.1.1.2=w,tt.1.2.1=ar,tt.1.2.2=F,tt.2.1.1=prog,tt.2.1.2=R,tt.2.2.1=I,tt.2.2.2=t
 intro Mg L5 Al hh
 intro k
 induction k with
 |zero=>
  refineλi s hk hF hi ht hR hE=>VG iT ?_;rw[W4 dm _];refine dE (id hF) λoF Uh hcF Uz=>?_;have ZbE:ar.toList.drop i=[]:=by simp;exact aO 0x101810c22 hk
  show Vw _ _ (field (.ref F) 0>>=λfunc=>field (.ref F) 1>>=λit=>callSpecial? it (VV.ofString "__next__")>>=λx=>_) _ _ s;refine Vt (Vq Uh Uz rfl ?_);refine Vt (Vq Uh Uz rfl ?_);refine Vt (uz hh hi ht (by simp;exact aO 0x101810c22 hk) λe h' hb hT=>?_);exact hE (by rw[ZbE];rfl) e h' s.toks hb hT
 |succ k ih=>
  refineλi s hk hF hi ht hR hE=>VG iT ?_;rw[W4 dm _];refine dE (id hF) λoF Uh hcF Uz=>?_;have je:i<ar.size:=bj 0x1092b10c22 hk;have Ux:ar.toList.drop i=ar[i]::ar.toList.drop (i+1):=by simp[Zn,je]
  show Vw _ _ (field (.ref F) 0>>=λfunc=>field (.ref F) 1>>=λit=>callSpecial? it (VV.ofString "__next__")>>=λx=>_) _ _ s;refine Vt (Vq Uh Uz rfl ?_);refine Vt (Vq Uh Uz rfl ?_);refine Vt (rY hi ht (x:=ar[i]) (by simp[je]) λh1 GG lJ=>?_);refine eT (Al ar[i] (by simp)) λx tk hx hxl=>?_;rw[hx];refine Vt (Vp ?_);refine Vt (PySem.P.len_str (by unfold aS at hxl;lia) ?_);refine Vp (PyProof.Rows.truthy_int ?_);have UL:=hF.keeps λo e=>(lJ.2 F Mg).trans e;have Rt:h1.IsTuple t ar:=by refine av ht λot Ue r=>⟨ot,(lJ.2 t L5).trans Ue,r⟩
  cases hz:(x.length !=0)with
  |true=>
   have GD:((x.length:Int) !=0)=true:=by simpa using hz
   rw[GD];simp only[if_true];refine Vk (hR (.str x tk) (i+1) h1 _ ?_ lJ GG);rw[Ux,hx,Zi];simp only[rl,hz,if_true]
  |false=>
   have GD:((x.length:Int) !=0)=false:=by simpa using hz
   rw[GD];simp only[ZQ,if_false];have Ct:(ar.toList.drop i).filter jj=(ar.toList.drop (i+1)).filter jj:=by rw[Ux,hx,Zi];simp only[rl,hz,ZQ,if_false]
   refine Vk ⟨VA dm _,ih (i+1) _ (bj 0x291b0c292b10c22 hk) UL GG Rt (λv j h' tk' e hs gD=>hR v j h' tk' (Ct.trans e) (lJ.trans hs) gD) λe=>?_⟩;exactλev h' tk' hb hT=>hE (Ct.trans e) ev h' tk' (λb o hbI e'=>hb b o hbI ((lJ.2 b hbI).trans e')) hT
theorem cQ(x:o3 s.heap F I):s.TypeIs (.ref F) "filter":=let⟨o,ho,hc,_⟩:=x;⟨o,ho,hc⟩
def Ew(F I t:W8)(ar:Array VO)(j:Nat)(h:Wz):Prop:=o3 h F I/\h.IsTuple t ar/\∃i,h.IsTupleIter I t i/\(ar.toList.drop i).filter jj=(ar.toList.filter jj).drop j
theorem wU{F t:W8}(Mg:F≠I)(L5:t≠I)(Al:∀v∈ar.toList,∃x tk,v=VO.str x tk/\x.length<=aS)(A:W6)(hh:A.handled=Xe):Walks prog w A F [F,I,t] [I] (ar.toList.filter jj).length (λj v=>(ar.toList.filter jj)[j]?=Xd v) (Ew F I t ar) where
 sub:=λb hb=>by simp at hb;simp[hb]
 frame:=λj h h' st hk=>by
  obtain⟨a,b,i,c,d⟩:=st;refine⟨a.keeps λo e=>hk F (by simp) o e,(av b λo ho r=>⟨o,hk t (by simp) o ho,r⟩),i,(av c λo ho r=>⟨o,hk I (by simp) o ho,r⟩),d⟩
 item:=λj s Q E hj st hQ=>by
  obtain⟨a,b,i,c,d⟩:=st;unfold pyNext;refine Vt (wpAny_attempt (Vs (cQ a) dM (wpAny_call (codeAny_call_builtin_code (VA dm _) (dM.check _ _ _ _ _ _ _ _ (cQ a) (jC _) ?_)))));have Oi:=Zn hj;refine DG Mg L5 Al hh _ i s rfl a c b (λv j' h' tk e hs hi=>?_) λe=>?_
  ·rw[d,Oi]at e;injection e with e1 e2;refine Vk (hQ v h' tk (by rw[Y9 hj,e1]) ⟨a.keeps λo e=>(hs.2 F Mg).trans e,?_,j',hi,e2.symm⟩ λb' o hb e=>(hs.2 b' λq=>hb (by simp[q])).trans e);refine av b λot Ue r=>⟨ot,(hs.2 t L5).trans Ue,r⟩
  ·rw[d,Oi]at e;rcases e with⟨⟩
 done:=λs Q E st hQ=>by
  obtain⟨a,b,i,c,d⟩:=st;unfold pyNext;refine Vt (wpAny_attempt (Vs (cQ a) dM (wpAny_call (codeAny_call_builtin_code (VA dm _) (dM.check _ _ _ _ _ _ _ _ (cQ a) (jC _) ?_)))));rw[List.drop_length]at d;refine DG Mg L5 Al hh _ i s rfl a c b (λv j' h' tk e hs hi=>?_) λe ev h' tk hb hT=>?_
  ·rw[d]at e;rcases e with⟨⟩
  ·refine Vt (wpAny_isInstance hT isSubtype_stop ?_);exact Vk (hQ h' tk λb o hbw e=>hb b o (λq=>hbw (by simp[q])) e)
 self:=λj s Q E st hQ=>by refine wpAny_pyIter_slot (cQ st.1) jl (Vr jl (cQ st.1) oH ?_ (qd _));exact Vk ⟨_,rfl,"filter",_,cQ st.1,dM.lookup,hQ⟩
theorem B0{t:W8}(ht:s.heap.IsTuple t ar)(hQ:∀h',(∀b o,s.heap.get? b=Xd o->h'.get? b=Xd o)->h'.IsTupleIter s.heap.objs.size t 0->o3 h' (s.heap.objs.size+1) s.heap.objs.size->h'.objs.size=s.heap.objs.size+2->Q (.ref (s.heap.objs.size+1)) {s with heap:=h'}):codeAny (VB prog w) A (.call (.builtin "filter.__new__") ⟨[.type "filter",.builtin "len",.ref t],[]⟩) (wants Q E) s:=by
 refine codeAny_of_tree ?_
 show Vw _ A.in1 (do checkBuiltinCall "filter.__new__" ⟨[.type "filter",.builtin "len",.ref t],[]⟩;again (.builtin "filter.__new__" ⟨[.type "filter",.builtin "len",.ref t],[]⟩)) _ _ s
 refine Vt (Vl (sN _ _) (Vk ⟨VA eX.plain _,VG pS ?_⟩))
 rw[W4 eX.plain _]
 unfold WY.«filter.__new__»
 refine Vt ?_
 unfold WY.SmallTypes.newClass
 refine Vt (Vl rfl ?_)
 refine VJ rfl ?_
 refine Vt (Vl qS ?_)
 refine VJ rfl ?_
 refine Vk ?_
 refine Vt (Vl (a:=()) (by kernel_rfl) ?_)
 refine Vt (Vl (a:=()) (by kernel_rfl) ?_)
 refine Vt (wpAny_pyIter_tuple ht ?_)
 have hsz:(s.heap.push {cls:=.type "tuple_iterator",data:=.fields #[.ref t,rawInt 0]}).objs.size=s.heap.objs.size+1:=by rw[Wo]
 show Vw _ _ (newObj (.type "filter") (.fields #[.builtin "len",.ref s.heap.objs.size])>>=λr=>ret r) _ _ _
 refine Vt (Vm (Vk ?_))
 have key:=hQ ((s.heap.push {cls:=.type "tuple_iterator",data:=.fields #[.ref t,rawInt 0]}).push {cls:=.type "filter",data:=.fields #[.builtin "len",.ref s.heap.objs.size]}) (λb o e=>Wu _ (Wu _ e)) ⟨_,Wu _ (Wt _ rfl),rfl,rfl⟩ ⟨_,by rw[<-hsz];exact Wt _ rfl,rfl,rfl⟩ (by rw[Wo,hsz])
 rw[<-hsz]at key
 exact key
theorem AR{t:W8}(ht:s.heap.IsTuple t ar)(hQ:∀h',(∀b o,s.heap.get? b=Xd o->h'.get? b=Xd o)->h'.IsTupleIter s.heap.objs.size t 0->o3 h' (s.heap.objs.size+1) s.heap.objs.size->h'.objs.size=s.heap.objs.size+2->Q (.ref (s.heap.objs.size+1)) {s with heap:=h'}):Vw (VB prog w) A (VH (.type "filter") [.builtin "len",.ref t]) Q E s:=by
 refine callType_codes (Q₁:=λobj aA=>aA.TypeIs obj "filter"/\Q obj aA) eX (qQ _ _) F.entry_object_init (B0 ht λh' hk h1 h2 hsz=>⟨cQ h2,hQ h' hk h1 h2 hsz⟩) λobj aA bF=>?_
 exact⟨bF.1,F.initArgs_range_2 _ _ _,object_init_meets eX.init.lookup eX.made (by decide) prog w A.in1 _ aA ⟨bF.1,rfl,bF.2⟩⟩
section
variable {K:WH->Prop}
structure iX (C:Cx) (c P:W8) (p:Pos) (q:VV):Prop where
 mem:(c,P,p,q)∈C.tabs
 code:C.h₀.IsCode c P #[]
 uniq:∀c' p' q',(c',P,p',q')∈C.tabs->p'=p/\q'=q
theorem iX.d7(hC:C.Ok)(h:iX C c P p q):¬C.T c:=by refineλy0=>mr y0 λc' p' q' m=>?_;have h1:=(hC.uA c P p q h.mem).1;refine aU h1 λy1 x=>er y1 λo vs ho hc x=>?_;have h2:=(hC.uA c' c p' q' m).1.2;rw[ho]at h2;obtain rfl:=Xc h2;rcases hc with⟨⟩
theorem iX.Iw(hC:C.Ok)(h:iX C c P p q)(bs:Bs C s)(hP:s.heap.get? P=Xd {cls:=.none,data:=.fields ps})(L7:TriplesOk ps.toList):s.heap.IsCode c P ps:=by refine OP h.code λo vs file tf flags tg inF y0=>EA y0 λtext tt op ho hd h11 h2 y1=>GQ y1 λh7 h9 h10 hop hpd htr jI=>⟨o,vs,file,tf,flags,tg,inF,text,tt,_,bs.keep c o ho (h.d7 hC),hd,h11,h2,h7,h9,h10,hP,rfl,L7,jI⟩
theorem iX.tableAt(hC:C.Ok)(h:iX C c P p q)(bs:Bs C s)(hP:s.heap.get? P=Xd {cls:=.none,data:=.fields ps}):s.heap.TableAt c P ps:=by refine aU ((hC.uA c P p q h.mem).1) λy0 x=>wL y0 λo vs ho hc hd h11=>⟨⟨o,vs,bs.keep c o ho (h.d7 hC),hc,hd,h11⟩,hP⟩
theorem uS(hl:pos.line=p.line)(hc:pos.col=p.col):codeAmong pos (#[rawInt p.line,rawInt p.col,c']:Array VO).toList=Xd c':=by simp[codeAmong,rawInt,hl,hc]
theorem iX.grown(hC:C.Ok)(h:iX C c P p q)(bs:Bs C s){t:Nat}(h0:s.heap.get? P=Xd {cls:=.none,data:=.fields #[]})(hx:Wy P s.heap h') (h1:h'.get? P=Xd {cls:=.none,data:=.fields #[rawInt p.line,rawInt p.col,.ref c']}) (hr:h'.CodeRec (.ref c') q):Ex C s {s with heap:=h',toks:=t}:=by
 have hT:C.T P:=⟨c,p,q,h.mem⟩
 refine⟨λb o e nt x=>hx b o (λz=>nt (z▸hT)) e,λb o f e=>.of (hx b o (λy=>bs.fG h0 nofun (y▸f)) e),λz=>⟨λb o e nt=>hx b o (λy=>nt (y▸hT)) (z.keep b o e nt),λc2 P2 p2 q2 m=>?_,z.gens,z.os,λa f=>(z.alive a f).data λo e=>.of (hx a o (λy=>bs.fG h0 nofun (y▸f)) e)⟩⟩
 by_cases hp:P2=P
 ·subst hp;refine aU (h.uniq c2 p2 q2 m) ?_;rintro(rfl)(rfl);exact .inr ⟨c',h1,hr⟩
 ·refine Xa (z.tab c2 P2 p2 q2 m) (λe=>.inl (hx _ _ hp e)) λy0=>?_
  ·refine av y0 λb e r=>.inr ⟨b,hx _ _ hp e,?_⟩;refine de r λb' o vs t' e1 e2 e3 e4=>?_;rcases e1 with⟨⟩;refine⟨b,o,vs,t',rfl,hx _ _ (λy=>?_) e2,e3,e4⟩;subst y;rw[h0]at e2;obtain rfl:=Xc e2;rcases e3 with⟨⟩;simp at e4
theorem tD(hC:C.Ok)(h:iX C c P p q)(hc:ag.code=.ref c)(hl:pos.line=p.line)(uK:pos.col=p.col)(hq:qn=q)(bs:Bs C s)(hQ:∀c' s',Ex C s s'->s.gens=s'.gens->s.os=s'.os->s.drawn=s'.drawn->s'.heap.CodeRec (.ref c') q->Q (.ref c') s'):Vw (VB prog w) A (genexprCode ag pos qn scope) Q E s:=by
 subst hq;refine Xa (bs.tab c P p _ h.mem) (λh0=>?_) λy0=>?_
 ·have h0':=h0;refine wpAny_genexprCodeX hc (h.Iw hC bs h0' trivial) (h.tableAt hC bs h0') rfl λc' h' tk hx x x x hr ht x=>hQ c' {s with heap:=h',toks:=tk} (h.grown hC bs h0' hx ?_ hr) rfl rfl rfl hr;have:=ht.2;simpa[hl,uK]using this
 ·refine av y0 λc' h1 hr=>?_;have h1':=h1;exact wpAny_genexprCode_hit hc (h.Iw hC bs h1' (by simp[TriplesOk,rawInt])) (uS hl uK) (hQ c' s (.refl s) rfl rfl rfl hr)
theorem IY(e:aR ag sc)(h:fI s.heap ag x v)(hQ:Q v s):Vw M A (eval (.Name x p) ag) Q E s:=by
 refine bD h λh1 h2 h3=>wpAny_Name ?_ h1;rcases h3 with⟨hk,m,hm,hv⟩|⟨hk|hk,c,hc,hv⟩
 ·exact wpAny_loadName_local e.kind hk hm hv hQ
 ·exact wpAny_loadName_cell e.kind hk hc hv hQ
 ·exact wpAny_loadName_free e.kind hk hc hv hQ h2
theorem qM(hC:C.Ok)(e:aR ag sc)(z:Bs C s)(hx:sc.names.lookup x=Xd .globalImplicit)(hd:(x==("__debug__":VV))=false)(hg:C.mg x=Xe)(hv:C.mb x=Xd v)(hQ:Q v s):Vw M A (eval (.Name x p) ag) Q E s:=WL e.kind (e.glob x hx) (Calls.loadGlobal_builtin (e.globals▸Cx.nsG hC z) hg (e.builtins▸Cx.nsB hC z) hv hQ) hd
set_option tactic.hygienic true in
theorem v9(h:args.any (·.1)=false){Q:Args->VY->Prop}(hs:Vw M A (spliced args) (λvs s'=>Q ⟨vs,[]⟩ s') E s):Vw M A (evalArgs f true args []) Q E s:=by
 have key:evalArgs f true args []=(spliced args>>=λvs=>holding (vs++[]) (pure ⟨vs,[]⟩)):=by
  unfold evalArgs;rcases args with⟨⟩;case nil=>rfl
  case cons x r=>
   obtain⟨b,t⟩:=x;rcases b with⟨⟩;case true=>simp at h
   case false=>rfl
 rw[key];exact Vt (wpAny_mono hs (λvs s1 p1=>Vp (Vk p1)) λy y x=>x)
theorem CC(hC:C.Plain){a:VV}(e:aR ag sc)(i:In C ai ag ae s)(ha:ae.lookup a=Xd (.val (.tuple ds)))(L1:strsOf ds=Xd ys)(hf:sc.names.lookup ("filter":VV)=Xd .globalImplicit)(hg:sc.names.lookup ("len":VV)=Xd .globalImplicit)(hQ:∀t ar h' tk,h'.IsTuple t ar->StrsAre ar.toList ys->¬C.T t->(∀b o,s.heap.get? b=Xd o->h'.get? b=Xd o)->h'.IsTupleIter s.heap.objs.size t 0->o3 h' (s.heap.objs.size+1) s.heap.objs.size->h'.objs.size=s.heap.objs.size+2->t<s.heap.objs.size->Q (.ref (s.heap.objs.size+1)) {s with heap:=h',toks:=tk}):Vw (VB pw Wd) A (eval (.Call (.Name "filter" fp) [.Name "len" gp,.Name a ap] [] pf) ag) Q E s:=by
 refine Vt (qM hC.ok e i.bs hf (by decide) (hC.none _ (by decide)) (hC.b (v:=.type "filter") (by kernel_rfl) (by decide)) ?_)
 refine PySem.callWith_type rfl (v9 rfl ?_)
 refine wpAny_items_cons (qM hC.ok e i.bs hg (by decide) (hC.none _ (by decide)) (hC.b (v:=.builtin "len") (by kernel_rfl) (by decide)) ?_)
 refine av (i.lo a _ ha) λv hv hr=>?_
 refine wpAny_items_cons (IY e hv ?_)
 refine wpAny_items_nil ?_
 cases hr with| @tuple t o vs k _ L3 ho hc hd hr=>
 have ht:s.heap.IsTuple t vs.toArray:=⟨o,ho,hc,k,hd⟩
 refine AR ht λh' hk h1 h2 hsz=>?_
 exact hQ t vs.toArray h' s.toks ⟨o,hk _ _ ho,hc,k,hd⟩ (by simpa using hr.strs L1) (λz=>L3 (i.vo.tabs t z)) hk h1 h2 hsz (Wq ho)
theorem lh(h:StrsAre vs ys):StrsAre (vs.filter jj) (ys.filter λy=>y.length !=0):=by
 induction h with
 |nil=>exact .nil
 |cons y t r ih=>rw[Zi,Zi];cases h:(y.length !=0)with|true=>simp only[rl,h,if_true];exact .cons y t ih|false=>simp only[rl,h,ZQ,if_false];exact ih
theorem zr(h:StrsAre vs ys):∀{v},v∈vs->∃y t,v=.str y t/\y∈ys:=by
 induction h with
 |nil=>exactλh=>nomatch h
 |cons y t r ih=>
  intro v h;refine Xa (Yw.mp h) (λq=>?_) λq=>?_
  ·exact⟨y,t,q,Yu⟩
  ·exact(ih q).elim λy' h=>h.elim λt' h=>⟨y',t',h.1,Yv _ h.2⟩
theorem zu(h:StrsAre vs ys):∀{j:Nat}{v},vs[j]?=Xd v->∃y t,v=.str y t/\ys[j]?=Xd y:=by
 induction h with
 |nil=>exactλh=>aa h
 |cons y t r ih=>
  intro j v h;rcases j with⟨⟩;case zero=>exact⟨y,t,(Xc h).symm,rfl⟩
  case succ=>exact ih h
theorem zt(h:StrsAre vs ys):vs.length=ys.length:=by induction h with|nil=>rfl|cons y t r ih=>exact Ve (·+1) ih
noncomputable def pI(y:VV):V5:={kind:=.function,names:=[(".0",.local),(y,.local)],isGenerator:=true,isCoroutine:=false}
theorem zP(n:Nat):passing (λx=>true) n 0=Yc n:=by simp[passing]
theorem UP(x4:Ex C s s4)(hI:s.heap.get? I=Xe)(hCz:s4.heap.get? Cz=Xe)(hwr:∀b∈wr,b=Cz\/b=I)(hIo:∀o vs x t,s4.heap.get? I=Xd o->o.data=.fields vs->vs[1]?≠Xd (.str x t))(k5:∀b o,s4.heap.get? b=Xd o->s5.heap.get? b=Xd o)(hg5:AllBare s4.gens->AllBare s5.gens)(ho5:s5.os=s4.os)(m:Moved wr (GenOnlyQ g) s5 s')(k:Nat):Ex C s {s' with toks:=k}:=by
 have keep:∀b o,s4.heap.get? b=Xd o->b≠I->s'.heap.get? b=Xd o:=λb o e hb=>m.heap b o (λhm=>by
  refine Xa (hwr b hm) (λq=>?_) λq=>?_
  ·subst q;rw[hCz]at e;exact aa e
  ·exact hb q) (k5 b o e)
 refine⟨λb o e t f=>keep b o (x4.keep b o e t f) λq=>by(subst q;rw[hI]at e;exact aa e),λb o f e=>(let⟨o1,e1,d1⟩:=x4.nz b o f e;⟨o1,keep b o1 e1 λq=>(by subst q;rw[hI]at e;exact aa e),d1⟩),λz=>?_⟩;have z4:=x4.bs z;refine⟨λb o e t=>keep b o (z4.keep b o e t) λq=>?_,λc P p q mm=>?_,m.gens.bare (hg5 z4.gens),m.os.trans (ho5.trans z4.os),λa f=>(z4.alive a f).data λo e=>.of (keep a o e λq=>?_)⟩
 ·subst q;have:=z.keep b o e t;rw[hI]at this;exact aa this
 ·have hPI:P≠I:=by rintro rfl;have hT:C.T P:=⟨c,p,q,mm⟩;rcases z.tab c P p q mm with e|⟨_,e,_⟩<;>(rw[hI]at e;exact aa e)
  refine Xa (z4.tab c P p q mm) (λe=>.inl (keep _ _ e hPI)) λy0=>?_
  ·refine av y0 λb e r=>.inr ⟨b,keep _ _ e hPI,?_⟩;refine de r λb' o vs t' e1 e2 e3 e4=>?_;rcases e1 with⟨⟩;exact⟨b,o,vs,t',rfl,keep _ _ e2 (λy=>by subst y;exact hIo o vs _ _ e2 e3 e4),e3,e4⟩
 ·subst q;refine kJ (z.alive a f) λo u u e u=>?_;rw[hI]at e;exact aa e
theorem Qt(hC:C.Plain)(yR:∃bm ob,BMod C.h₀ mainGlobals C.mg bm ob)(hA:dD C n A)(ht:iX C c P p q)(tn:ag.code=.ref c)(hq:ag.qual++"<genexpr>"=q){a y:VV}(e:aR ag sc)(i:In C ai ag ae s)(ha:ae.lookup a=Xd (.val (.tuple ds)))(L1:strsOf ds=Xd ys)(hf:sc.names.lookup ("filter":VV)=Xd .globalImplicit)(hg:sc.names.lookup ("len":VV)=Xd .globalImplicit)(hy:(y==(".0":VV))=false)(PU:(y==("__debug__":VV))=false)(hl:uM.line=p.line)(uK:uM.col=p.col)(h2:(GL.endLine==p2.line)=true)(cU:∀z∈ys,z.length<=aS)(hQ:∀a s5 fp wr g Pz St,WalksS pw Wd A.in4 a fp wr (GenOnlyQ g) (ys.filter λy=>y.length !=0).length Pz St->(∀i s,St i s->s.TypeIs (.ref a) "generator")->St 0 s5->(∀b∈fp,b<s5.heap.objs.size)->a∈fp->(∀j v,Pz j v->∃z u,(ys.filter λy=>y.length !=0)[j]?=Xd z/\v=.str (VQ z) u)->(∀s' k,Moved wr (GenOnlyQ g) s5 s'->Ex C s {s' with toks:=k})->Q (.ref a) s5):Vw (VB pw Wd) A (eval (.GeneratorExp (.Call (.Attribute (.Name y yp) "strip" GL) [] [] p2) [⟨.Name y py,.Call (.Name "filter" fp) [.Name "len" gp,.Name a ap] [] pf,[],0⟩] (pI y) uM) ag) Q E s:=by
 revert sc n ds p c P q py fp gp ap pf uM hC yR hA ht tn hq a e i ha L1 hf hg hy PU hl uK h2 cU hQ
 refine no_implicit_lambda% (rR (bT (bT (bT (bT rB zS) (bT pA U8)) U8) U8) ?_ A C s y ag ys p2 yp GL Q E ai ae)
 generalize gE _ _=tt
 dsimp only[Gy]
 generalize tt.1.1.1.1=A,tt.1.1.1.2=C,tt.1.1.2.1=s,tt.1.1.2.2=y,tt.1.2.1.1=ag,tt.1.2.1.2=ys,tt.1.2.2=p2,tt.2.1.1.1=yp,tt.2.1.1.2=GL,tt.2.1.2=Q,tt.2.2.1.1=E,tt.2.2.1.2=ai,tt.2.2.2=ae
 intro sc n ds p c P q py fp gp ap pf uM hC yR hA ht tn hq a e i ha L1 hf hg hy PU hl uK h2 cU hQ
 have hyl:(pI y).names.lookup y=Xd Wh.local:=by show YG y [((".0":VV),Wh.local),(y,Wh.local)]=_;rw[YF,hy];simp
 refine wpAny_GeneratorExp_walksQ hA.handled rfl (cl:=[]) rfl (λz hz=>?_) (by simp[pI]) hyl rfl (by have:=hA.depth;exact bj 0x200210b02 this) ?_ (λr=>rfl)
 ·simp only[pI,Yw,Yq,or_false]at hz;rcases hz with rfl|rfl<;>simp
 have hw0:s.heap.get? s.heap.objs.size=Xe:=aJ _
 refine CC hC e i ha L1 hf hg λt ar h1 NB Rt GF htT k1 GG UL Zcz Zbs=>?_
 have x1:Ex C s {s with heap:=h1,toks:=NB}:=.of_keep k1 rfl rfl
 have wu:=x1.bs i.bs
 have Mg:s.heap.objs.size+1≠s.heap.objs.size:=Nat.succ_ne_self _
 have L5:=Nat.ne_of_lt Zbs
 have Al:∀v∈ar.toList,∃x tk,v=VO.str x tk/\x.length<=aS:=λv hv=>by refine eT (zr GF hv) λy t e m=>⟨y,t,e,cU y m⟩
 have W0:∀A':W6,A'.handled=Xe->Walks pw Wd A' (s.heap.objs.size+1) [s.heap.objs.size+1,s.heap.objs.size,t] [s.heap.objs.size] (ar.toList.filter jj).length (λj v=>(ar.toList.filter jj)[j]?=Xd v) (Ew (s.heap.objs.size+1) s.heap.objs.size t ar):=λA' FT=>wU Mg L5 Al A' FT
 have ND:Ew (s.heap.objs.size+1) s.heap.objs.size t ar 0 h1:=⟨UL,Rt,0,GG,by simp⟩
 refine(W0 A hA.handled).self 0 {s with heap:=h1,toks:=NB} _ _ ND ⟨wu.noLimit hC.ok,?_⟩
 refine tD hC.ok ht tn hl uK hq wu λc' s3 x3 hg3 Qa hd3 hr3=>?_
 have bs3:=x3.bs wu
 have nT:∀b o,({s with heap:=h1,toks:=NB}:VY).heap.get? b=Xd o->(∀vs,o.data=.fields vs->vs≠#[]/\∀l cc c'',vs≠#[rawInt l,rawInt cc,.ref c''])->¬C.T b:=by
  refineλb o eb hh y0=>mr y0 λc2 p2 q2 m=>Xa (wu.tab c2 b p2 q2 m) (λe'=>?_) λy1=>?_
  ·rw[eb]at e';obtain rfl:=Xc e';exact(hh _ rfl).1 rfl
  ·refine av y1 λc'' e' r=>?_;rw[eb]at e';obtain rfl:=Xc e';exact(hh _ rfl).2 _ _ _ rfl
 have hFT:¬C.T (s.heap.objs.size+1):=by refine dE UL λo ho hc hd=>nT _ o ho λvs hv=>?_;rw[hd]at hv;rcases hv with⟨⟩;exact⟨by simp,by intro l cc c'' e;simp at e⟩
 have Cv:¬C.T s.heap.objs.size:=by refine dE GG λo ho hc hd=>nT _ o ho λvs hv=>?_;rw[hd]at hv;rcases hv with⟨⟩;exact⟨by simp,by intro l cc c'' e;simp at e⟩
 have jF:Ew (s.heap.objs.size+1) s.heap.objs.size t ar 0 s3.heap:=by
  refine(W0 A hA.handled).frame 0 _ _ ND λb hb o eb=>x3.keep b o eb ?_ ?_;all_goals simp only[Yw,Yq,or_false]at hb
  rotate_left
  ·refine Xa hb (λy1=>?_) λy4=>?_
   ·obtain rfl:=y1;refine dE UL λo' jH l9 di=>wu.fG jH (by rw[di];nofun)
   refine Xa y4 (λy2=>?_) λy3=>?_
   ·obtain rfl:=y2;refine dE GG λo' jH l9 di=>wu.fG jH (by rw[di];nofun)
   ·obtain rfl:=y3;obtain⟨o',jH,l9,n',di⟩:=Rt;exact wu.fG jH (by rw[di];nofun)
  refine Xa hb (λy1=>?_) λy4=>?_
  ·obtain rfl:=y1;exact hFT
  refine Xa y4 (λy2=>?_) λy3=>?_
  ·obtain rfl:=y2;exact Cv
  ·obtain rfl:=y3;exact htT
 refine kK yR λbm ob B=>?_
 have ZbZ:¬C.T bm:=by refineλy0=>mr y0 λc2 p2 q2 m=>?_;have h2:=(hC.ok.uA c2 bm p2 q2 m).1.2;rw[B.obj]at h2;obtain rfl:=Xc h2;rcases B.cls with⟨⟩
 refine wpAny_builtinsFor (e.globals▸Cx.nsG hC.ok bs3) B.name B.ne (bs3.keep _ _ B.obj ZbZ) B.cls B.dict B.data ?_
 obtain⟨hF3,ht3,i3,hi3,ZcC⟩:=id jF
 have je:∀{b:W8}{o:Obj},s3.heap.get? b=Xd o->b<s3.heap.objs.size:=λh=>Wq h
 have Zb3:s.heap.objs.size+1<s3.heap.objs.size:=by refine av hF3 λo ho r=>je ho
 have Zb2:s.heap.objs.size<s3.heap.objs.size:=by refine av hi3 λo ho r=>je ho
 have T2:t<s3.heap.objs.size:=by refine av ht3 λo ho r=>je ho
 refine⟨_,_,[s.heap.objs.size],_,_,_,λr=>true,λj v=>∃z u,(ys.filter λy=>y.length !=0)[j]?=Xd z/\v=.str (VQ z) u,rfl,W0,jF,?_,bs3.noLimit hC.ok,?_,?_,?_⟩
 ·intro b hb;simp only[Yw,Yq,or_false]at hb;refine Xa hb (λy1=>?_) λy4=>?_
  ·obtain rfl:=y1;exact Zb3
  refine Xa y4 (λy2=>?_) λy3=>?_
  ·obtain rfl:=y2;exact Zb2
  ·obtain rfl:=y3;exact T2
 ·intro hm;have hcs:cStatics=s.heap.objs.size:=by simpa using hm
  refine av (i.bs.noLimit hC.ok) λmc y1 r=>kJ y1 λo es ep ho r=>?_;have:=Wq ho;rw[hcs]at this;exact Xx _ this
 ·refineλZcA hk=>⟨λA' E' j v s2 m2 FT hP hn hx hkk=>Vk ⟨rfl,s2.heap,s2.toks,rfl,λr r e=>e⟩,λA' E' j v s2 m2 FT hP r hn hx hkk=>?_⟩;refine eT (zu (lh GF) hP) ?_;rintro z tk(rfl)hz;have hzc:z.length<=aS:=cU z (Yt.mp (Yo hz)).1;refine wpAny_Call_method_lateS rfl rfl h2 (wpAny_Name (wpAny_loadName_local rfl hyl hn hx ?_) PU);exact SB.strip (λt' k=>⟨⟨z,t',hz,rfl⟩,s2.heap,k,rfl,λr r e=>e⟩) (bK hzc)
 ·intro a h5 tk gs hgs ha Zb4 hk5 W T8;have hlen:=zt (lh GF);rw[zP,YL]at W;rw[hlen]at W T8;refine hQ a _ _ _ _ _ _ W (λj s' st=>aU st λy1 r=>qP y1 λo nm qn ho hc r=>⟨o,ho,hc⟩) T8 (λb hb=>?_) Yu (λj v hv=>?_) (λs' k m=>?_)
  ·show b<h5.objs.size;rw[Zb4];simp only[Yw,Yl]at hb;refine Xa hb (λy1=>?_) λy3=>?_
   ·obtain rfl:=y1;exact Xs _
   refine Xa y3 (λy2=>?_) λhb=>Xu (Xr hb ha)
   ·obtain rfl:=y2;exact Xu ha
  ·obtain⟨i',kU,z,u,hz,rfl⟩:=hv;have:i'=j:=by
    rw[YY]at kU
    ·obtain rfl:=Xc kU;rfl
    ·by_cases hjn:j<(ys.filter λy=>y.length !=0).length
     ·exact hjn
     ·rw[Y8 (by rw[YL];exact aO 0x1110032 hjn)]at kU;exact aa kU
   subst this;exact⟨z,u,hz,rfl⟩
  ·refine UP (s5:={s3 with heap:=h5,toks:=tk,gens:=s3.gens.push gs}) (x1.trans x3) (aJ _) (aJ _) (λb hb=>by simpa using hb) (λo vs x t' ho hd=>?_) hk5 (λhb=>hb.push hgs) rfl m k;refine dE hi3 λo' jH l9 di=>?_;rw[ho]at jH;obtain rfl:=Xc jH;rw[hd]at di;rcases di with⟨⟩;simp
end
noncomputable def dP(sep:VV)(ys:List VV):VV:=Txt.join sep ((ys.filter λy=>y.length !=0).map VQ)
def iQ(sep:VV)(ys:List VV):Bool:=decide (ys.length<=aS)&&ys.all (λz=>decide (z.length<=aS))&&decide ((((ys.filter λy=>y.length !=0).map VQ).map (·.length)).sum+((ys.filter λy=>y.length !=0).map VQ).length*sep.length<=16777216)
def lx(V:ax)(x:VV):Option (List VV):=match V.lookup x with
 |some (.val (.tuple ds))=>strsOf ds|_=>Xe
set_option tactic.hygienic true in
theorem BO(h:lx V x=Xd ys):∃ds,V.lookup x=Xd (.val (.tuple ds))/\strsOf ds=Xd ys:=by
 unfold lx at h;cases e:V.lookup x with
 |none=>rw[e]at h;exact aa h
 |some sl=>
  rw[e]at h;rcases sl with⟨⟩;case own d=>exact aa h
  case val d=>
   rcases d with⟨⟩;case tuple u=>exact⟨u,rfl,h⟩
   all_goals (exact aa h)
def joinM(x sep a:VV):nu:=λsc ae=>if sc.names.lookup ("filter":VV)=Xd .globalImplicit/\sc.names.lookup ("len":VV)=Xd .globalImplicit then(lx ae a).bind λys=>if iQ sep ys=true then(bV sc x (.val (.str (dP sep ys))) ae).map .next else Xe else Xe
theorem xU(hC:C.Plain)(yR:∃bm ob,BMod C.h₀ mainGlobals C.mg bm ob)(ht:iX C c P p q)(hq:(name++".<locals>.")++"<genexpr>"=q) {sep y a:VV} (hl:uM.line=p.line) (uK:uM.col=p.col) (h2:(GL.endLine==p2.line)=true) (h1:(ap0.endLine==p1.line)=true) (hy:(y==(".0":VV))=false) (PU:(y==("__debug__":VV))=false):wF C n (kI C (.ref c) name) (.Assign [.Name x xp] (.Call (.Attribute (.Constant (.str sep) k0 p0) "join" ap0) [.GeneratorExp (.Call (.Attribute (.Name y yp) "strip" GL) [] [] p2) [⟨.Name y py,.Call (.Name "filter" fp) [.Name "len" gp,.Name a apz] [] pf,[],0⟩] (pI y) uM] [] p1) pos,joinM x sep a):=by
 intro A ag hA hK aj sc ae W ad s fl e S hD h E Q hQ
 revert C n pos p c P q name hC yR ht hq hl uK h2 h1 hy PU hA hK aj ae W ad fl e S hD h hQ
 refine no_implicit_lambda% (GR (bT (bT (bT (bT (bT rB pA) U8) U8) U8) U8) ?_ A s sep ag p1 x E a xp yp fp gp apz GL py y p2 pf uM k0 Q p0 sc ap0)
 generalize gE _ _=tt
 dsimp only[Q9]
 generalize tt.1.1.1.1.1=A,tt.1.1.1.1.2=s,tt.1.1.1.2=sep,tt.1.1.2.1.1=ag,tt.1.1.2.1.2=p1,tt.1.1.2.2=x,tt.1.2.1.1.1=E,tt.1.2.1.1.2=a,tt.1.2.1.2=xp,tt.1.2.2.1.1=yp,tt.1.2.2.1.2=fp,tt.1.2.2.2=gp,tt.2.1.1.1.1=apz,tt.2.1.1.1.2=GL,tt.2.1.1.2=py,tt.2.1.2.1.1=y,tt.2.1.2.1.2=p2,tt.2.1.2.2=pf,tt.2.2.1.1.1=uM,tt.2.2.1.1.2=k0,tt.2.2.1.2=Q,tt.2.2.2.1.1=p0,tt.2.2.2.1.2=sc,tt.2.2.2.2=ap0
 intro C n pos p c P q name hC yR ht hq hl uK h2 h1 hy PU hA hK aj ae W ad fl e S hD h hQ
 refine aL h λhfg h=>ak h λys L1 h=>aL h λgC h=>ba h λbX hb Ct=>?_
 subst Ct
 refine aU hfg λhf hg=>?_
 refine av (BO L1) λds hds L1=>?_
 unfold iQ at gC
 simp only[ZV,Zw,Vc]at gC
 refine aU gC λy0 IF=>aU y0 λhnl cU=>?_
 refine bG ?_ rfl rfl
 refine ab (m:=eval (.Constant (.str sep) k0 p0) ag) (aq (Vu (ab (au ?_))))
 have x0:Ex C s {s with toks:=s.toks+1}:=.toks
 have S0:=S.ex x0
 unfold methodCall
 have Jd:methodCallForm 1 (backTo p1 (starEach [.GeneratorExp (.Call (.Attribute (.Name y yp) "strip" GL) [] [] p2) [⟨.Name y py,.Call (.Name "filter" fp) [.Name "len" gp,.Name a apz] [] pf,[],0⟩] (pI y) uM] ag)) (backToKw p1 (keywordEach [] ag))=true:=rfl
 have ZcD:=Jd
 first|rw[Jd]|(simp only[YS,YM];rw[Jd])
 refine ab (az ?_)
 refine aq (VE (Vy _ _ _) PySem.F.plainAttrs_str PySem.F.slot_str_join PySem.F.type_str_join GM.noRef ?_)
 have Un:methodCallPos true (.Constant (.str sep) k0 p0) ag ap0 p1=pure p1:=by unfold methodCallPos;simp only[ZM,Bool.false_or,h1,if_true]
 rw[Un]
 refine ab (ao ?_)
 refine cf (λw q=>by rcases q with⟨⟩) rfl (aq (v9 rfl ?_))
 refine wpAny_items_cons (Qt hC yR hA ht hK.code (by rw[hK.qual];exact hq) e S0.bO hds L1 hf hg hy PU hl uK h2 cU λa s5 fp wr g Pz St WG hT GF hfp haf hP hM=>?_)
 refine wpAny_items_nil (aq ?_)
 refine SC.joinGen WG.in4_2 hT GF hfp haf (λj v hv=>?_) (λs' l m hl'=>?_) (bK (Xy (YO _ _) hnl))
 ·refine eT (hP j v hv) ?_;rintro z u _(rfl);exact⟨_,_,rfl⟩
 ·have htx:l.map (·.1)=(ys.filter λy=>y.length !=0).map VQ:=by
   refine aU hl' λl1 l2=>?_;have hlen:l.length=(ys.filter λy=>y.length !=0).length:=by simpa[strValues]using l1
   refine Zl λj=>?_;rw[YZ,YZ];cases hj:l[j]? with
   |none=>rw[Y8 (by rw[<-hlen];exact List.getElem?_eq_none_iff.mp hj)];rfl
   |some pr=>refine eT (hP j (.str pr.1 pr.2) (l2 j _ (by simp[strValues,hj]))) λz u hz hv=>?_;injection hv with e1 e2;rw[hz];exact Ve Xd e1
  refine⟨joinOk_of (by rw[htx];exact IF),λt' k=>?_⟩;have xk:=x0.trans (hM s' k m);have S3:=S.ex xk;rw[htx];refine ab (au (fo e S3 hD hb (.str _ _) λs4 m4 S4 UN w=>hQ _ _ ⟨rfl,W,ad,(Mv.iG xk).trans m4,S4,UN⟩))
def eZ(t:VV):List VV:=Re.BX t.cps t.cps.size t.cps.size 0
def sf(a:W8)(x:Dat):List Dat->Option Dat:=oV λy=>(OI x).bind λb=>(El y).bind λt=>if b=a/\t.length<=65536 then Xd (.list ((eZ t).map .str))else Xe
theorem Cx.Ok.d7(hC:C.Ok)(h:C.h₀.get? a=Xd o)(hc:o.cls≠.none):¬C.T a:=by refineλy0=>mr y0 λc p q m=>?_;have h2:=(hC.uA c a p q m).1.2;rw[h]at h2;obtain rfl:=Xc h2;exact hc rfl
theorem fM.now(hC:C.Ok)(h:Re.fM C.h₀ a c)(bs:Bs C s):Re.fM s.heap a c:=by obtain⟨y0,y1⟩:=h;refine er y0 λo vs ho hc r=>qP y1 λoc ar k Ru hcc r2=>⟨⟨o,vs,bs.keep a o ho (hC.d7 ho (by rw[hc];nofun)),hc,r⟩,⟨oc,ar,k,bs.keep c oc Ru (hC.d7 Ru (by rw[hcc];nofun)),hcc,r2⟩⟩
set_option tactic.hygienic true in
theorem B4(hC:C.Ok)(hp:Re.fM C.h₀ a c):nr C n "split" (sf a):=by
 intro a' ds d v s ai h bs V r;refine av (jD h) λy0 e h=>ak h λb hb h=>ak h λt T6 h=>aL h λhh hz=>?_;obtain rfl:=Gr hb;obtain rfl:=qc T6;subst e
 ··refine aU hh ?_;rintro(rfl)ht;obtain rfl:=Xc hz;have hv:v=.ref b:=by(rcases r with⟨⟩;(case rep r=>rcases r with⟨⟩;rfl))
   subst hv;obtain⟨y0,_⟩:=fM.now hC hp bs;refine wL y0 λo vs ho hc hn r1=>?_;refine⟨"re.Pattern.split",λ{A pl}E Q q=>aq (VE ⟨o,ho,hc⟩ Re.sD Re.si Re.Bm (λx e=>by rcases e with⟨⟩;exact⟨o,ho,hn⟩) (q _ _ (.refl s) rfl)),λ{A s vs}hA bs V r rs=>?_⟩;cases rs with|cons rd rs=>rcases rs with⟨⟩;cases rd with|str _ tk=>have N5:=fM.now hC hp bs;obtain⟨y0,_⟩:=id N5;refine wL y0 λo vs ho hc hn r1=>?_;refineλE Q q=>aq (call_meets Re.si ⟨o,ho,hc⟩ Re.AB (Re.yI _ _) (Re.zA (ai:=ai) ht) ⟨N5,λus k hr=>?_⟩);refine q _ _ .push ?_;have nv:=V.new (aJ _);exact .list nv (Wt _ rfl) rfl rfl rfl (hr.mono λb o e nn=>⟨Wu _ e,nn⟩)
section
open PySem.Calls PySem.NumText
theorem kZ(a b:VO):checkTypeCall "int" ⟨[a,b],[]⟩=pure ():=by kernel_rfl
theorem mI(a b:VO):checkBuiltinCall "int.__new__" ⟨[.type "int",a,b],[]⟩=pure ():=by kernel_rfl
theorem args_object_init_3(a b c:VO):argsOk "object.__init__" ⟨[a,b,c],[]⟩:=by
 first
 |(unfold argsOk;rw[Vz (n:=['_','_','t','i','n','i','_','_']) (by kernel_rfl) PySem.F.owner_object];kernel_rfl)
theorem Ar{x:VV}{u t:Tok}{n:Int}(hl:x.length<=640)(hn:VD x=Xd n):Gives (WY.«int.__new__» ⟨[.type "int",.str x u,.int 10 t],[]⟩) (.int n):=.of_wp λM A E s Q h=>by
  obtain⟨hp,g,d,tk,os⟩:=s;have f1:=PySem.F.conv_sub_int;have f2:=PySem.F.madeHere_int;have f3:=KIN.str_int;have f4:=KIN.str_idx;have f5:=KIN.str_trunc;have f6:typeOf (.str x u)=pure (.type "str"):=rfl;have hs:=Xy (seen_length x) hl;have hr:(int_private% "readNumeral") 0 10 (numSeenOf x)=(int_private% "Numeral.value") n/\((numSeenOf x).length==(numTextOf x).length)=true:=by
   refine Xa (read0 x hs) (λy0=>?_) λy1=>?_
   ·refine dE y0 λm h1 h2 h3=>?_;rw[hn]at h1;injection h1 with h1;subst h1;exact⟨h3,h2⟩
   ·refine aU y1 λh1 y=>?_;rw[hn]at h1;rcases h1 with⟨⟩
  have hk:=KIN.Hid.mk (And.intro hs hr);repeat (any_goals (first|assumption|((with_reducible show Vw _ _ ((int_private% "intFromText") _ _ _) _ _ _);refine KIN.wp_text hk.out.1 hk.out.2.1 hk.out.2.2 ?_)|wp_step))
  all_goals first|exact⟨_,rfl,h⟩|skip
set_option backward.match.sparseCases true in
theorem FA{Q:Unit->VY->Prop}(h:Q () s):aP M A (markTheRefusal own e) Q E s:=λΓ p jG hc=>by
 unfold markTheRefusal;rw[V0.wp_bind'];unfold stack;rw[V0.wp_stack];show V0.wp M Γ (pure _) _ _ _ _;rw[V0.wp_pure'];have key:pythonCodeMadeTheCall own (((Γ.code,p)::Γ.below).map (·.1))=false:=by
  unfold pythonCodeMadeTheCall;have:(((Γ.code,p)::Γ.below).map (·.1)).any (λc=>match c with| .builtin "claim.caller" _=>true|_=>false)=true:=by
   rw[List.any_eq_true];refine Xa hc.1.2.2 (λq=>?_) λy0=>?_
   ·exact⟨Γ.code,by simp,q⟩
   ·refine av y0 λx hx q=>?_;exact⟨x.1,by simp;exact .inr ⟨x.2,hx⟩,q⟩
  rw[Bool.and_assoc];refine Bool.and_eq_false_iff.mpr (.inl ?_);rw[Bool.not_eq_false'];exact this
 rw[key];rw[Vg ZP];rw[V0.wp_pure'];exact h
theorem BP{α:Type}{Q:α->VY->Prop}(hh:A.handled=Xe)(h:E e s):aP M A (raiseNew e:V0 α) Q E s:=aq (wpAny_raiseNew_none hh h)
theorem Ag{x:VV}{u t:Tok}(hl:x.length<=640)(hn:VD x=Xe)(hz:((numSeenOf x).length==(numTextOf x).length)=true)(hr:(reprText x).length<=100000)(hA:A.handled=Xe){Q:WB->VY->Prop}(hE:∀h' e m tk,Wz.MadeExc s.heap h' e "ValueError" [m]->E (.ref e) {s with heap:=h',toks:=tk}):aP (VB prog w) A (WY.«int.__new__» ⟨[.type "int",.str x u,.int 10 t],[]⟩) Q E s:=by
 revert s hl hn hz hr hA hE;refine no_implicit_lambda% (OS (bT (bT (bT GB rB) U8) U8) ?_ w A x u prog t E Q);generalize gE _ _=tt;dsimp only[K8];generalize tt.1.1.1=w,tt.1.1.2=A,tt.1.2.1=x,tt.1.2.2=u,tt.2.1.1=prog,tt.2.1.2=t,tt.2.2.1=E,tt.2.2.2=Q;intro s hl hn hz hr hA hE;have hs:=Xy (seen_length x) hl;have hri:(int_private% "readNumeral") 0 10 (numSeenOf x)=(int_private% "Numeral.invalid"):=by
  refine Xa (read0 x hs) (λy0=>?_) λy1=>aU y1 λh1 h2=>Xa h2 (λh2=>h2) λy0=>av y0 λi h2 h3=>absurd hz h3
  ·refine dE y0 λm h1 h2 h3=>?_;rw[hn]at h1;exact aa h1
 unfold WY.«int.__new__»;dsimp only;refine ab (bY (a:=true) (by kernel_rfl) ?_);simp only[ZM,ZQ,if_false];refine ab (bY (a:=true) PySem.F.conv_sub_int ?_);simp only[ZM,ZQ,if_false];refine ab (bY (a:=()) PySem.F.madeHere_int ?_);rw[Vg (by simp),Vg (by simp)];rw[List.forIn_nil];refine ab (ao ?_);dsimp only[List.head?,List.getElem?_cons_succ,Zb,Option.orElse];rw[show(Xd (VO.int 10 t)<|>Option.map (λx:VV×VO=>x.snd) Xe)=Xd (VO.int 10 t)from rfl];dsimp only;refine ab (bY (a:=(10:Int)) (by kernel_rfl) ?_);rw[Vg (by decide)];refine ab (bY (by rfl) ?_);dsimp only;refine ab ?_;have h1:(int_private% "intFromText") (VO.str x u) (numTextOf x) (Int.toNat 10)=(if((numTextOf x).takeWhile (· !=0)).length<=640 then((pure 0:V0 Nat)>>=_)else _):=rfl;rw[h1,Vh (show _<=640 from hs)];refine ab (ao ?_);have Zbw:(int_private% "readNumeral") 0 (Int.toNat 10) ((numTextOf x).takeWhile (· !=0))=(int_private% "Numeral.invalid"):=hri;dsimp only;rw[Zbw];have hb:(int_private% "bytesOf?") (VO.str x u)=pure Xe:=rfl;rw[hb];refine ab (ao ?_);simp only[Option.isSome_none,Bool.false_and,ZQ,if_false];refine ab (jh ?_);refine ab (ao ?_);refine ab (aq (wpAny_pyRepr_str ?_ (Xy hr (by decide))));refine ab (aq (wpAny_mkStr ?_ ?_))
 ·refine ab (aq (wpAny_newExc_plain plainExc_ValueError (λh' e hm=>?_) (show 1<=sizeLine by decide)));refine ab (FA ?_);exact BP hA (hE h' e _ (s.toks+1+1) hm)
 ·have e1:∀a b:VV,(a++b).length=a.length+b.length:=λa b=>Array.size_append;rw[e1];have e2:(VV.ofString (toString "invalid literal for int() with base "++toString (Int.toNat 10)++toString ": ")).length<=100:=by decide +kernel
  have e3:({cps:=(reprText x).cps.extract 0 200}:VV).length<=200:=by show((reprText x).cps.extract 0 200).size<=200;rw[Array.size_extract];exact aZ 0xc8a80c8adfc11
  have e4:sizeLine=16777216:=rfl;exact bj 0x210b1010000008f22c8a1164a014 e2 e3 e4
theorem yy{x:VV}{u t:Tok}(hl:x.length<=640)(hn:VD x=Xe)(hz:((numSeenOf x).length==(numTextOf x).length)=true)(hr:(reprText x).length<=100000)(hA:A.handled=Xe)(hE:∀h' e m tk,Wz.MadeExc s.heap h' e "ValueError" [m]->E (.ref e) {s with heap:=h',toks:=tk}):aP (VB prog w) A (VH (.type "int") [.str x u,.int 10 t]) Q E s:=by refine rW (Q₁:=λy y=>False) PySem.F.called_int (by decide) (kZ _ _) ?_ (λobj aA h=>h.elim);refine bw ?_ rfl;refine ab (bY (mI _ _) (ao ⟨VA (by decide +kernel) _,jd PySem.F.entry_int_new (show(!holders.contains "int.__new__")=true by decide +kernel) ?_⟩));refine aE (Ag hl hn hz hr ?_ (Q:=λy y=>False) hE) (λy y q=>q.elim) λy y q=>q;rw[W4 (by decide +kernel) _];exact hA
theorem uV{x:VV}{u t:Tok}{k:Int}(hl:x.length<=640)(hn:VD x=Xd k)(h:Q (.int k s.toks) {s with toks:=s.toks+1}):Vw (VB prog w) A (VH (.type "int") [.str x u,.int 10 t]) Q E s:=callType_new PySem.F.called_int PySem.F.newNe_int (kZ _ _) (mI _ _) (λobj=>args_object_init_3 obj _ _) PySem.F.entry_int_new (Ar hl hn).meets (show(Made.int k).post _ s from⟨rfl,h⟩)
end
section
variable {M:Model} {F:W8->Prop}
structure Kb (F:W8->Prop) (h h':Wz):Prop where
 size:h'.objs.size=h.objs.size
 keep:∀b o,h.get? b=Xd o->¬F b->h'.get? b=Xd o
 data:∀b o,h.get? b=Xd o->f9 h' b o
theorem Kb.refl(h:Wz):Kb F h h:=⟨rfl,λx x e x=>e,λx x e=>.of e⟩
theorem Kb.trans(x:Kb F h h')(y:Kb F h' h''):Kb F h h'':=⟨y.size.trans x.size,λb o e f=>y.keep b o (x.keep b o e f) f,λb o e=>let⟨o1,e1,d1⟩:=x.data b o e;let⟨o2,e2,d2⟩:=y.data b o1 e1;⟨o2,e2,d2.trans d1⟩⟩
theorem Kb.upd(ho:h.get? L=Xd o)(hd:o.data=.dict es ep)(hFL:F L)(hg:∀o,(g o).data=o.data):Kb F h (h.update L g):=by
 have hnf:=Obj.isFreed_of_dict ((hg o).trans hd);refine⟨Wz.size_update ..,λb o' e nf=>?_,λb o' e=>?_⟩
 ·rw[Ws _ _ (λq=>nf (by rw[<-q];exact hFL))];exact e
 ·by_cases q:L=b
  ·subst q;rw[ho]at e;obtain rfl:=Xc e;exact⟨_,Wr _ ho hnf,hg o⟩
  ·exact .of ((Ws _ _ q).trans e)
theorem xT(h:∀v,Q v s):Vw M A (keptBack ag false outer) Q E s:=by
 rcases outer with⟨⟩;case nil=>exact wpAny_keptBack_nil h
 case cons=>exact Vk (h _)
theorem lu:∀{fs:List WH}{s:VY},(∀f∈fs,f.scope.kind=.function/\∃L,f.frame=Xd L/\F L/\cZ s.heap L)->∀{Q:Unit->VY->Prop},(∀h',Kb F s.heap h'->Q () {s with heap:=h'})->Vw M A (readyFrames fs) Q E s:=by
 intro fs;induction fs with
 |nil=>intro s _ Q hQ;exact Vk (hQ s.heap (.refl _))
 |cons ag outer ih=>
  intro s hf Q hQ;obtain⟨hk,L,hL,hFL,o,es,ep,y0⟩:=hf ag Yu;refine aU y0 λho hd=>?_;unfold readyFrames;rw[hL];refine Vt (Vo ho ?_);by_cases hr:((o.slots.getD 3 Xe).isSome)=true
  ·rw[Vh hr];exact Vk (hQ _ (.refl _))
  ·rw[Vg hr];refine Vt (Vl (a:=false) (by simp[behindIsImport,hk]) ?_);refine Vt (xT λv=>?_);refine Vt (wpAny_update ho ?_);have x:=Kb.upd ho hd hFL (g:=λo:Obj=>{o with slots:= #[Xd ag.code,Xd (VM ag.globals),o.slots.getD 2 Xe,Xd v,o.slots.getD 4 Xe,ag.func.map VM,Xd (VM ag.builtins)]++(ag.cells.map λc:VV×W8=>Xd (VM c.2)).toArray}) (λz=>rfl);refine ih (λf hm=>?_) λh' y=>hQ h' (x.trans y);obtain⟨a,b,c,d,e⟩:=hf f (Yv _ hm);exact⟨a,b,c,d,e.data λo' q=>x.data _ o' q⟩
theorem xC{vs:Array VO}{Q:Unit->VY->Prop}(o6:A.frames=Xd (ag::fs))(hf:ag.frame=Xd L)(I1:∀f∈ag::fs,f.scope.kind=.function/\∃L,f.frame=Xd L/\F L/\cZ s.heap L)(he:s.heap.get? e=Xd oe)(hFe:¬F e)(hd:oe.data=.fields vs)(h1:vs[1]?=Xd .none)(h:∀h' tb yM,(∀b o,s.heap.get? b=Xd o->b≠e->¬F b->h'.get? b=Xd o)->(∀b o,s.heap.get? b=Xd o->b≠e->f9 h' b o)->s.heap.get? tb=Xe->h'.get? e=Xd (oe.mapFields (·.setIfInBounds 1 (.ref tb)))->h'.get? tb=Xd {cls:=.type "traceback",dict:=Xe,data:=.fields yM}->3<yM.size->Q () {s with heap:=h'}):Vw M A (noteFrame (.ref e) ag) Q E s:=by
 have hsz:=(ZZ.mp h1).1
 unfold noteFrame
 simp only[hf]
 refine Vt (Vq he hd h1 ?_)
 rw[Vg (by decide)]
 unfold PySem.frameOf
 refine Vt (Vt (wpAny_frameEnvs o6 ?_))
 have hdw:((ag::fs).dropWhile λx=>x.frame !=ag.frame)=ag::fs:=by simp[List.dropWhile]
 rw[hdw]
 unfold frameObject
 refine Vt (Vt (lu I1 λbF x=>Vk ?_))
 rw[hf]
 refine Vk ?_
 refine Vt (wpAny_entryPlaceOf λpl Ap=>?_)
 unfold EntryCells.newEntry newFields
 refine Vt (Vm ?_ (Ap.sizeOk5 _ _ _ _ _))
 have Of:=x.keep e oe he hFe
 generalize PX:([VN,.ref L,.none,rawInt L,.none]++(if pl.isEmpty then X0 6 VN else pl)).toArray=yM
 have htz:3<yM.size:=by rw[<-PX];simp
 have Oe:=Wu {cls:=.type "traceback",dict:=Xe,data:=.fields yM} Of
 refine wpAny_setField Oe hd hsz ?_
 have hTe:=Nat.ne_of_gt (Wq Of)
 have DV:=Obj.data_mapFields hd (·.setIfInBounds 1 (VM bF.objs.size))
 refine h _ bF.objs.size yM (λb o hb hbe hbF=>?_) (λb o hb hbe=>?_) (Wz.get?_none_of_le (by rw[x.size];exact Xz _)) (Wr _ Oe (Obj.isFreed_of_fields DV)) ?_ htz
 ·rw[Ws _ _ (Xj hbe)];exact Wu _ (x.keep b o hb hbF)
 ·refine av (x.data b o hb) λo' e' d'=>⟨o',?_,d'⟩;rw[Ws _ _ (Xj hbe)];exact Wu _ e'
 ·rw[Ws _ _ (Xj hTe)];exact Wt bF rfl
theorem Ex.Pp{t:Nat}(hk:∀b o,s.heap.get? b=Xd o->¬C.fr b->h'.get? b=Xd o)(hd:∀b o,s.heap.get? b=Xd o->f9 h' b o)(h0:∀b,C.fr b->(∃o,s.heap.get? b=Xd o/\h'.get? b≠Xd o)->C.h₀.get? b=Xe):Ex C s {s with heap:=h',toks:=t}:=by
 refine⟨λb o e x f=>hk b o e f,λb o x e=>hd b o e,λz=>?_⟩;have nf:=λb o e n=>hk b o e (z.fG e n);refine⟨λb o e t=>?_,λc P p q m=>?_,z.gens,z.os,λa f=>(z.alive a f).data λo e=>hd a o e⟩
 ·have e1:=z.keep b o e t;by_cases f:C.fr b
  ·by_cases q:h'.get? b=Xd o
   ·exact q
   ·have:=h0 b f ⟨o,e1,q⟩;rw[e]at this;rcases this with⟨⟩
  ·exact hk b o e1 f
 ·refine Xa (z.tab c P p q m) (λe=>.inl (nf _ _ e nofun)) λy0=>?_
  ·refine av y0 λb e r=>.inr ⟨b,nf _ _ e nofun,?_⟩;refine de r λb' o vs t' e1 e2 e3 e4=>⟨b',o,vs,t',e1,nf _ _ e2 (by rw[e3];nofun),e3,e4⟩
theorem y8{Q:WA->VY->Prop}(h:aP M A body (λf aA=>match f with| .next=>aP M A orelse Q E aA|f=>Q f aA) (λe aA=>aP M A (noteFrame e ag) (λy cx=>aP M A (setFlight e Xe) (λy mR=>aP M A (handleBy e ag (h₀::hs)) Q E mR) E cx) E aA) s):aP M A (tryStmt false body (h₀::hs) orelse [] ag) Q E s:=by
 unfold tryStmt;refine ab (kX (aE h (λf aA bF=>?_) λe aA bF=>ab (aE bF (λy y gQ=>ab gQ) λy y x=>x)))
 ·rcases f with⟨⟩<;>first|exact bF|exact ao bF
theorem gK{R:V6->VY->Prop}(h:aP (VB prog w) A (eval t ag) (λc aA=>aP (VB prog w) A (excMatches e c) (λb cx=>R (.ok (if b then .brk else .next)) cx) (mX (VB prog w) A ag λx cx=>R (.error x) cx) aA) (mX (VB prog w) A ag λx aA=>R (.error x) aA) s):cK (VB prog w) A (.handlers e [.ExceptHandler (Xd t) Xe [] pos] ag) R s:=by refine bw ?_ rfl;show aP _ A (do return Fin.done (<-(handleWith e ag [.ExceptHandler (Xd t) Xe [] pos]).onRaise (λx=>do noteFrame x ag;theTreesLotGoes x))) _ _ s;refine ab (eG ?_);unfold handleWith;refine ab (au (ab (aE h (λc aA bF=>ab (au (ab (aE bF (λb cx gQ=>ao (ao ?_)) λy y x=>x)))) λy y x=>x)));exact gQ
theorem lR{R:V6->VY->Prop}(h:aP (VB prog w) A (setFlight e Xe) (λy aA=>aP (VB prog w) A (execs (Gf::body) ag) (λf cx=>R (.ok f) cx) (mX (VB prog w) A ag λx cx=>R (.error x) cx) aA) (mX (VB prog w) A ag λx aA=>R (.error x) aA) s):cK (VB prog w) A (.handlers e [.ExceptHandler Xe Xe (Gf::body) pos] ag) R s:=by refine bw ?_ rfl;show aP _ A (do return Fin.done (<-(handleWith e ag [.ExceptHandler Xe Xe (Gf::body) pos]).onRaise (λx=>do noteFrame x ag;theTreesLotGoes x))) _ _ s;refine ab (eG ?_);unfold handleWith;exact ab (au (ab (aE h (λy aA bF=>aE bF (λf cx gQ=>ao gQ) λy y x=>x) λy y x=>x)))
theorem jM{Q:WA->VY->Prop}(IX:isSubtype (.type T) (.type "BaseException")=pure true)(Ui:isSubtype (.type ((Manifest.find? T).elim "type" λx=>x.metatype)) (.type "tuple")=pure false)(ja:isSubtype (.type X) (.type T)=pure true)(h:∀E',aP (VB prog w) (A.mark (Xd (.ref e))) (eval t ag) (λc aA=>c=.type T/\aA.TypeIs (.ref e) X/\aP (VB prog w) (A.mark (Xd (.ref e))) (setFlight (.ref e) Xe) (λy cx=>∀E',aP (VB prog w) (A.mark (Xd (.ref e))) (execs (Gf::Dq) ag) Q E' cx) E' aA) E' s):aP (VB prog w) A (handleBy (.ref e) ag (.ExceptHandler (Xd t) Xe (Gf::Dq) pos::rest)) Q E s:=by
 revert s X IX Ui ja h;refine no_implicit_lambda% (rR (bT (bT (bT (bT GB rB) U8) U8) U8) ?_ w A e ag prog Gf pos Dq E Q rest t T);generalize gE _ _=tt;dsimp only[Gy];generalize tt.1.1.1.1=w,tt.1.1.1.2=A,tt.1.1.2.1=e,tt.1.1.2.2=ag,tt.1.2.1.1=prog,tt.1.2.1.2=Gf,tt.1.2.2=pos,tt.2.1.1.1=Dq,tt.2.1.1.2=E,tt.2.1.2=Q,tt.2.2.1.1=rest,tt.2.2.1.2=t,tt.2.2.2=T;intro s X IX Ui ja h;rw[handleBy];have L9:(Xd (VM e):Option VO)≠Xd byPass:=by intro q;rcases q with⟨⟩
 refine ab (az (eY (gK (aE (h _) (λc aA bF=>?_) λy y x=>x)) L9));refine bD bF ?_;rintro(rfl)hX hk;refine aq (wpAny_excMatches_type hX IX Ui ja ?_);refine ab (ao ?_);simp only[ZM,ZQ,if_false];refine ab (az (eY (lR (aE hk (λy cx gQ=>aE (gQ _) (λf mR Ak=>ao Ak) λy y x=>x) λy y x=>x)) L9))
theorem g8{Q:WA->VY->Prop}(h:aP M A (execs body ag) (λf aA=>match f with| .next=>aP M A (execs orelse ag) Q E aA|f=>Q f aA) (λe aA=>aP M A (noteFrame e ag) (λx cx=>aP M A (setFlight e Xe) (λx mR=>aP M A (handleBy e ag (h₀::hs)) Q E mR) E cx) E aA) s):aP M A (exec (.Try body (h₀::hs) orelse [] pos) ag) Q E s:=by rw[arm_exec_Try];exact ab (au (y8 h))
end
section
open PySem.Calls PySem.NumText
structure Eu (C:Cx) (g:VV) (d:W8) (stg:VV->Option Int):Prop where
 map:∃f,C.h₀.MapOf (strKind pw Wd) d f/\∀x,(f x=Xe/\stg x=Xe)\/∃k t,f x=Xd (.int k t)/\stg x=Xd k
 mods:(d==sysModules)=false
 glob:C.mg g=Xd (.ref d)
 nd:(g==("__debug__":VV))=false
noncomputable def Ah(v:VV):Bool:=decide (v.length<=640)&&((numSeenOf v).length==(numTextOf v).length)&&decide ((reprText v).length<=100000)
def R1(g:VV)(stg:VV->Option Int)(x t t2:VV)(k j:Int):nu:=λsc ae=>
 if sc.names.lookup ("int":VV)=Xd .globalImplicit/\sc.names.lookup ("ValueError":VV)=Xd .globalImplicit/\sc.names.lookup g=Xd .globalImplicit then(nX ae x).bind λv=>if Ah v=true then match VD v with
     |some i=>(bV sc x (.val (.int i)) ae).bind λae=>(bV sc t (.val (.int k)) ae).map .next|none=>(bV sc t2 (.val (.int ((stg v).getD j))) ae).map .next
    else Xe
 else Xe
theorem Ck(hC:C.Plain){v:VV}(hA:A.handled=Xe)(e:aR ag sc)(S:SS C aj ag sc ae W ad s)(hv:fI s.heap ag z (.str v tk))(hf:sc.names.lookup ("int":VV)=Xd .globalImplicit)(gC:Ah v=true) (hQ:∀i t s',VD v=Xd i->Ex C s s'->Q (.int i t) s') (hE:VD v=Xe->∀h' e m tk,Wz.MadeExc s.heap h' e "ValueError" [m]->E (.ref e) {s with heap:=h',toks:=tk}):aP (VB pw Wd) A (eval (.Call (.Name "int" fp) [.Name z yp,.Constant (.int 10) kb pb] [] cp) ag) Q E s:=by
 unfold Ah at gC
 simp only[ZV,Vc]at gC
 refine aU gC λy0 Qa=>aU y0 λKk o5=>?_
 refine ab (dX hC.ok e S.bO.bs hf (by decide) (hC.none "int" (by decide)) (hC.b (v:=.type "int") (by kernel_rfl) (by decide)) ?_)
 have kf:(backTo cp (starEach [.Name z yp,.Constant (.int 10) kb pb] ag)).any (·.1)=false:=rfl
 refine cf (λx q=>by rcases q with⟨⟩) kf ?_
 refine cq (C:=C) (P:=λvs s'=>vs=[.str v tk,.int 10 s.toks]/\s'={s with toks:=s.toks+1}) kf (λE Q q=>b8 (iS e hv (b8 (aq (Vv (ee (q _ {s with toks:=s.toks+1} .toks ⟨rfl,rfl⟩)))) rfl)) rfl) _ _ λz' s3 x3 r3=>?_
 obtain⟨ps,kw⟩:=z'
 refine bD r3 ?_;rintro(rfl)(rfl)(rfl)
 cases hn:VD v with
 |some i=>exact aq (uV Kk hn (hQ i _ _ hn .toks))
 |none=>exact yy Kk hn o5 Qa hA λh1 ea mm NB hm=>hE hn h1 ea mm NB hm
theorem Hb(hC:C.Plain){d:W8}(hT:Eu C g d stg){z t2 v:VV}(ti:(ap.endLine==p.line)=true)(e:aR ag sc)(S4:SS C aj ag sc ae W ad s4)(hD:dC ae)(hv:fI s4.heap ag z (.str v tk))(hg:sc.names.lookup g=Xd .globalImplicit)(yS:bV sc t2 (.val (.int ((stg v).getD j))) ae=Xd bX){Q:WA->VY->Prop}(hQ:∀s7,Goes C aj ag sc W s4 bX s7->Q .next s7):aP (VB pw Wd) A (execs [.Assign [.Name t2 R4] (.Call (.Attribute (.Name g gp) "get" ap) [.Name z zp,.Constant (.int j) kj pj] [] p) ap3] ag) Q E s4:=by
 revert ae ad bX ap3 hC hT ti e S4 hD hv hg yS hQ;refine no_implicit_lambda% (GR (bT (bT (bT (bT (bT rB zS) pA) U8) U8) U8) ?_ A C s4 ag j v p d E g t2 ap kj gp pj Q R4 tk z zp stg sc W aj);generalize gE _ _=tt;dsimp only[Q9];generalize tt.1.1.1.1.1=A,tt.1.1.1.1.2=C,tt.1.1.1.2=s4,tt.1.1.2.1.1=ag,tt.1.1.2.1.2=j,tt.1.1.2.2=v,tt.1.2.1.1.1=p,tt.1.2.1.1.2=d,tt.1.2.1.2=E,tt.1.2.2.1.1=g,tt.1.2.2.1.2=t2,tt.1.2.2.2=ap,tt.2.1.1.1.1=kj,tt.2.1.1.1.2=gp,tt.2.1.1.2=pj,tt.2.1.2.1.1=Q,tt.2.1.2.1.2=R4,tt.2.1.2.2=tk,tt.2.2.1.1.1=z,tt.2.2.1.1.2=zp,tt.2.2.1.2=stg,tt.2.2.2.1.1=sc,tt.2.2.2.1.2=W,tt.2.2.2.2=aj;refineλae ad bX ap3 hC hT ti e S4 hD hv hg yS hQ=>bW (bG ?_ rfl rfl);refine av hT.map λff ZbG Zbv=>?_;have bs4:=S4.bO.bs;have IQ:s4.heap.MapOf (strKind pw Wd) d ff:=by refine qP ZbG λo es ep ho hc r=>⟨o,es,ep,bs4.keep d o ho (hC.ok.d7 ho (by refine xR hc.1 ?_;nofun)),hc,r⟩
 refine ab (ma hC.ok e bs4 hg hT.nd hT.glob (ab (au ?_)));delta methodCall;have Jd:methodCallForm 2 (backTo p (starEach [.Name z zp,.Constant (.int j) kj pj] ag)) (backToKw p (keywordEach [] ag))=true:=rfl;refine xR Jd (ab (az ?_));refine aq (VE IQ.typeIs PySem.F.plainAttrs_dict PySem.F.slot_dict_get PySem.F.type_dict_get IQ.noDict ?_);have Un:methodCallPos true (.Name g gp) ag ap p=pure p:=by delta methodCallPos;simp only[ZM,Bool.false_or,ti,if_true]
 refine xR Un (ab (ao ?_));have Uj:(backTo p (starEach [.Name z zp,.Constant (.int j) kj pj] ag)).any (·.1)=false:=rfl;refine cf (λx q=>by rcases q with⟨⟩) Uj (cq (C:=C) (P:=λvs s'=>vs=[.str v tk,.int j s4.toks]/\s'={s4 with toks:=s4.toks+1}) Uj (λE Q q=>b8 (iS e hv (b8 (aq (Vv (ee (q _ {s4 with toks:=s4.toks+1} .toks ⟨rfl,rfl⟩)))) rfl)) rfl) _ _ λz' s5 x5 r5=>?_);obtain⟨ps5,kw5⟩:=z';refine bD r5 ?_;rintro(rfl)(rfl)(rfl);have N7:=IQ;refine aq (call_meetsIn PySem.F.slot_dict_get N7.typeIs PySem.F.entry_dict_get (PySem.F.args_dict_get_3 _ _ _) (meets_dict_get_default (strKind pw Wd) d (strKind_is pw Wd v tk) hT.mods (.int j s4.toks)) ⟨ff,N7,?_⟩);have S6:SS C aj ag sc ae W ad {s4 with toks:=s4.toks+1+1}:=S4.ex .toks;have rv:∀{h:Wz}{ai:W8->Prop},Rep h ai ((ff v).getD (.int j s4.toks)) (.int ((stg v).getD j)):=by
  intro h ai;refine Xa (Zbv v) (λy0=>?_) λy1=>?_
  ·refine aU y0 λq1 q2=>xR q1 (xR q2 ?_);exact .int _ _
  ·refine eT y1 λk' t' q1 q2=>xR q1 (xR q2 ?_);exact .int _ _
 refine ab (au (fo e S6 hD yS rv λs7 m7 S7 UM x=>?_));exact gf (hQ _ ⟨W,ad,(Mv.iG (.toks)).trans m7,S7,UM⟩)
theorem KY{t:VV}{k:Int}(e:aR ag sc)(S:SS C aj ag sc ae W ad s)(hD:dC ae)(hb:bV sc t (.val (.int k)) ae=Xd kY){Q:WA->VY->Prop}(hQ:∀s7,Goes C aj ag sc W s kY s7->Q .next s7):aP (VB pw Wd) A (execs [.Assign [.Name t tp] (.Constant (.int k) kk pk) GL] ag) Q E s:=by refine bW (bG (aq (Vv ?_)) rfl rfl);have S5:SS C aj ag sc ae W ad {s with toks:=s.toks+1}:=S.ex .toks;refine ab (au (fo e S5 hD hb (.int _ _) λs6 m6 S6 hD6 x=>?_));exact gf (hQ _ ⟨W,ad,(Mv.iG (.toks)).trans m6,S6,hD6⟩)
theorem Gb(hA:dD C n A)(hK:kI C cd name ag A)(S:SS C aj ag sc ae W ad s)(hm:Wz.MadeExc s.heap h1 ea "ValueError" [mm]){Q:Unit->VY->Prop}(hQ:∀s3,Ex C s s3->s3.TypeIs (.ref ea) "ValueError"->(∀{A E}{Q:Unit->VY->Prop},(∀s4,Ex C s s4->Q () s4)->aP (VB pw Wd) A (setFlight (.ref ea) Xe) Q E s3)->Q () s3):aP (VB pw Wd) A (noteFrame (.ref ea) ag) (λx s2=>aP (VB pw Wd) A (setFlight (.ref ea) Xe) Q E s2) E {s with heap:=h1,toks:=NB}:=by
 refine aI hK.top λfs0 DU=>?_;have Od:∀f∈ag::fs0,f.scope.kind=.function/\∃L,f.frame=Xd L/\C.fr L/\C.h₀.get? L=Xe:=by refine av hA.frames λfs q1 q2=>?_;simp only[DU]at q1;obtain rfl:=Xc q1;exact q2
 have fa:∀f∈ag::fs0,f.scope.kind=.function/\∃L,f.frame=Xd L/\(C.fr L/\C.h₀.get? L=Xe)/\cZ h1 L:=λf Bg=>by refine ZK λhG=>?_;obtain⟨a1,L,a2,a3,a4⟩:=Od f Bg;refine hG (kJ (S.bO.bs.alive L a3) λo es ep q1 q2=>⟨a1,L,a2,⟨a3,a4⟩,o,es,ep,hm.keeps _ _ q1,q2⟩)
 refine dE hm.there λtt hea x x=>?_;have Uv:=hm.new;have nea:¬(C.fr ea/\C.h₀.get? ea=Xe):=λq=>by refine kJ (S.bO.bs.alive ea q.1) λo es ep q1 q2=>?_;replace q1:=Uv.symm.trans q1;exact aa q1
 refine aq (xC DU hK.frame fa hea nea rfl rfl λh2 tb yM k2 d2 htb he2 T5 PX=>?_);have hd2:=Obj.data_mapFields (o:={cls:=.type "ValueError",data:=.fields #[.ref tt,.none,.none,.none,.bool false,.none]}) rfl (·.setIfInBounds 1 (VM tb));have Zbt:tb≠ea:=λq=>by have Cn:=htb;replace Cn:=hea▸q▸Cn;rcases Cn with⟨⟩
 refine aq (wpAny_setFlight_none he2 hd2 rfl T5 rfl PX ?_);have hd3:=Obj.data_mapFields (o:={cls:=.type "traceback",dict:=Xe,data:=.fields yM}) rfl (·.setIfInBounds 3 VN);have he3:(h2.update tb (Obj.mapFields (·.setIfInBounds 3 .none))).get? ea=Xd (Obj.mapFields (·.setIfInBounds 1 (.ref tb)) {cls:=.type "ValueError",data:=.fields #[.ref tt,.none,.none,.none,.bool false,.none]}):=(Ws _ _ Zbt).trans he2;have Zbu:=Wr (Obj.mapFields (·.setIfInBounds 3 .none)) T5 (Obj.isFreed_of_fields hd3);have old:∀{b:W8}{o:Obj},s.heap.get? b=Xd o->b≠ea/\b≠tb:=λ{b o}q=>by refine⟨λz=>(by replace q:=Uv▸z▸q;exact aa q),λz=>?_⟩;have Cn:=htb;replace Cn:=(hm.keeps _ _ q)▸z.symm▸Cn;rcases Cn with⟨⟩
 have xE:∀(h':Wz)(tk:Nat),(∀b,b≠tb->h'.get? b=h2.get? b)->Ex C s {s with heap:=h',toks:=tk}:=λh' tk hh=>by
  have hk3:=λb o q f=>(hh b (old q).2).trans (k2 b o (hm.keeps _ _ q) (old q).1 f);refine Ex.Pp (λb o q f=>hk3 b o q λz=>f z.1) (λb o q=>av (d2 b o (hm.keeps _ _ q) (old q).1) λo' e' d'=>⟨o',(hh b (old q).2).trans e',d'⟩) λb f⟨o,q1,q2⟩=>?_
  ·cases z:C.h₀.get? b with|none=>rfl|some o'=>exact absurd (hk3 b o q1 λw=>Option.some_ne_none _ (z.symm.trans w.2)) q2
 have xN:Ex C s {s with heap:=h2.update tb (Obj.mapFields (·.setIfInBounds 3 .none)),toks:=NB}:=xE _ _ λb nb=>Ws _ _ (Xj nb);exact hQ _ xN ⟨_,he3,rfl⟩ λ{A E Q}hq=>aq (wpAny_setFlight_none he3 hd2 rfl Zbu hd3 (by refine xR ZX PX) (hq _ (xE _ _ λb nb=>(Ws _ _ (Xj nb)).trans (Ws _ _ (Xj nb)))))
theorem OZ(hC:C.Plain){d:W8}(hT:Eu C g d stg){z t t2:VV}{k j:Int}(ti:(ap.endLine==p.line)=true):wF C n (kI C cd name) (.Try [.Assign [.Name z xp] (.Call (.Name "int" fp) [.Name z yp,.Constant (.int 10) kb pb] [] cp) ap1,.Assign [.Name t tp] (.Constant (.int k) kk pk) GL] [.ExceptHandler (Xd (.Name "ValueError" exp)) Xe [.Assign [.Name t2 R4] (.Call (.Attribute (.Name g gp) "get" ap) [.Name z zp,.Constant (.int j) kj pj] [] p) ap3] hp] [] [] pos,R1 g stg z t t2 k j):=by
 intro A ag hA hK aj sc ae W ad s fl e S hD h E Q hQ;revert n pos stg cd name xp fp yp kb pb cp ap1 tp kk pk GL exp hp hC d hT ti hA hK ad fl e S hD h hQ;refine no_implicit_lambda% (GR (bT (bT (bT (bT (bT rB zS) pA) U8) U8) U8) ?_ A C s sc ag j z t2 aj g ae W p gp R4 kj ap zp pj ap3 Q t k E);generalize gE _ _=tt;dsimp only[Q9];generalize tt.1.1.1.1.1=A,tt.1.1.1.1.2=C,tt.1.1.1.2=s,tt.1.1.2.1.1=sc,tt.1.1.2.1.2=ag,tt.1.1.2.2=j,tt.1.2.1.1.1=z,tt.1.2.1.1.2=t2,tt.1.2.1.2=aj,tt.1.2.2.1.1=g,tt.1.2.2.1.2=ae,tt.1.2.2.2=W,tt.2.1.1.1.1=p,tt.2.1.1.1.2=gp,tt.2.1.1.2=R4,tt.2.1.2.1.1=kj,tt.2.1.2.1.2=ap,tt.2.1.2.2=zp,tt.2.2.1.1.1=pj,tt.2.2.1.1.2=ap3,tt.2.2.1.2=Q,tt.2.2.2.1.1=t,tt.2.2.2.1.2=k,tt.2.2.2.2=E;refineλn pos stg cd name xp fp yp kb pb cp ap1 tp kk pk GL exp hp hC d hT ti hA hK ad fl e S hD h hQ=>aL h λQb h=>ak h λv hx h=>aL h λgC h=>bD Qb λhf hex hg=>av (S.bO.lo z _ (vA hx)) λvv hv hr=>aI hr.i5 ?_;rintro tk(rfl);refine g8 (bW (bG (Ck hC hA.handled e S hv hf gC (λi t' s1 hn x1=>?_) λhn h1 ea mm NB hm=>?_) rfl rfl))
 ·rw[hn]at h;refine ak h λbX yS h=>ba h λkY Mf Ct=>?_;subst Ct;refine ab (au (fo e (S.ex x1) hD yS (.int _ _) λs4 m4 S4 UN y=>KY e S4 UN Mf λs7⟨W7,ad7,m7,S7,UM⟩=>gf (hQ _ _ ⟨rfl,W7,ad7,?_,S7,UM⟩)));exact((Mv.iG x1).trans m4).trans m7
 ·rw[hn]at h;refine ba h λbX yS Ct=>?_;subst Ct;refine Gb hA hK S hm λs3 x3 hT3 Qw=>jM (X:="ValueError") (T:="ValueError") (by rw[VC];kernel_rfl) (by rw[VC];kernel_rfl) (by rw[VC];kernel_rfl) λE'=>dX hC.ok e (x3.bs S.bO.bs) hex (by decide) (hC.none "ValueError" (by decide)) (hC.b (by kernel_rfl) (by decide)) ⟨rfl,hT3,Qw λs4 x4 E''=>?_⟩;exact Hb hC hT ti e (S.ex x4) hD (hv.ex S.bO.bs x4) hg yS λs7⟨W7,ad7,m7,S7,UM⟩=>hQ _ _ ⟨rfl,W7,ad7,(Mv.iG x4).trans m7,S7,UM⟩
end
section
variable {Ψ:yT} {st:VW} {sts:List VW} {fl:Fl}
theorem dJ:cn Φ Ψ sc [] ae=Xd (.next ae):=rfl
theorem aF(h:lB (Ψ sc st ae) (ex Φ Ψ sc st ae)=Xd (.next aW)):cn Φ Ψ sc (st::sts) ae=cn Φ Ψ sc sts aW:=Ve (λo:Option Fl=>o.bind (oW (cn Φ Ψ sc sts))) h
set_option tactic.hygienic true in
theorem ed(h:lB (Ψ sc st ae) (ex Φ Ψ sc st ae)=Xd fl)(hf:∀v,fl≠.next v):cn Φ Ψ sc (st::sts) ae=Xd fl:=by
 refine(Ve (λo:Option Fl=>o.bind (oW (cn Φ Ψ sc sts))) h).trans ?_;rcases fl with⟨⟩;case next v=>exact absurd rfl (hf v)
 all_goals (rfl)
theorem cI(h:Ψ sc st ae=Xd fl):lB (Ψ sc st ae) (ex Φ Ψ sc st ae)=Xd fl:=by rw[h];rfl
theorem aN(h0:Ψ sc st ae=Xe)(h:ex Φ Ψ sc st ae=Xd fl):lB (Ψ sc st ae) (ex Φ Ψ sc st ae)=Xd fl:=by rw[h0];exact h
theorem fH{b o:List VW}(h:yk Φ sc t ae=Xd (c,aW)):ex Φ Ψ sc (.If t b o p) ae=cn Φ Ψ sc (if c then b else o) aW:=by refine(Ve (λx:Option (Bool×ax)=>x.bind λr=>bM r.1 (cn Φ Ψ sc b r.2) (cn Φ Ψ sc o r.2)) h).trans ?_;rcases c with⟨⟩<;>rfl
theorem cO(h:dT Φ sc t ae (ev Φ sc t ae)=Xd c):yk Φ sc t ae=Xd (c,ae):=by unfold yk;rw[h]
theorem fU(h:ev Φ sc t ae=Xd d):qF Φ sc t ae=Xd (d,ae):=by unfold qF;rw[h]
theorem yg(hz:mB Φ sc it ae=Xe)(h:qF Φ sc it ae=Xd (src,v1))(hi:bP src=Xd ar):ex Φ Ψ sc (.For t it b [] p) ae=d9 (λd vs=>match bL sc t d vs with
      |none=>Xe|some vs=>cn Φ Ψ sc b vs) ar v1:=by
 show uQ Φ sc t it (λvs=>cn Φ Ψ sc b vs) ae=_
 unfold uQ
 rw[hz]
 exact(Ve (λx:Option (Dat×ax)=>x.bind λr=>(bP r.1).bind λar=>d9 (λd vs=>match bL sc t d vs with
      |none=>Xe|some vs=>cn Φ Ψ sc b vs) ar r.2) h).trans (Ve (λx:Option (List Dat)=>x.bind λar=>d9 (λd vs=>match bL sc t d vs with|none=>Xe|some vs=>cn Φ Ψ sc b vs) ar v1) hi)
theorem eK(h:qF Φ sc t ae=Xd (d,v1)):ex Φ Ψ sc (.Return (Xd t) p) ae=Xd (.ret d):=Ve (λx:Option (Dat×ax)=>x.map λr:Dat×ax=>Fl.ret r.1) h
theorem Ax:ex Φ Ψ sc (.While t b [] p) ae=uy (λvs=>dT Φ sc t vs (ev Φ sc t vs)) (λvs=>cn Φ Ψ sc b vs) Φ.fuel ae:=rfl
theorem FV{step:Dat->ax->Option Fl}:d9 step [] ae=Xd (.next ae):=rfl
theorem eB{step:Dat->ax->Option Fl}{d:Dat}{ds:List Dat}(h:step d ae=Xd (.next aW)):d9 step (d::ds) ae=d9 step ds aW:=Ve (λo:Option Fl=>o.bind (jR (d9 step ds))) h
theorem z6:∀{ae:ax},ae.lookup x=Xd sl->(bp ae).lookup x=Xd sl.jm:=by
 intro ae;induction ae with
 |nil=>exactλh=>aa h
 |cons y0 r ih=>
  intro h;obtain⟨y,t⟩:=y0;have e:bp ((y,t)::r)=(y,t.jm)::bp r:=rfl;rw[e,YF];rw[YF]at h;cases hb:x==y with
  |true=>rw[hb]at h;obtain rfl:=Xc h;rfl
  |false=>rw[hb]at h;exact ih h
noncomputable def H9(Φ:fO)(sc:V5)(x:VV)(o:Option Slot):Option Dat:=match o with
  |some (.val d)=>Xd d|some (.own _)=>Xe|none=>if sc.names.lookup x=Xd .globalImplicit then Φ.glob x else Xe
theorem Mu(h:ae.lookup x=Xd (.own d)):qF Φ sc (.Name x p) ae=Xd (d,bp ae):=by have h1:ev Φ sc (.Name x p) ae=Xe:=Ve (H9 Φ sc x) h;have h2:ev Φ sc (.Name x p) (bp ae)=Xd d:=Ve (H9 Φ sc x) (z6 h);unfold qF;rw[h1,h2];rfl
def cV(aV:W8)(fuel:Nat):fO where
 fn _:=Xe;uu f:=if f="len" then Xd lF else if f="sum" then Xd sumF else if f="str" then Xd KN else if f="ord" then Xd Fp else if f="chr" then Xd MT else if f="bytes" then Xd lS else if f="range" then Xd j0 else if f="isinstance" then Xd Iv else Xe;pB m:=if m="split" then sf aV else if m="join" then ip else if m="index" then s8 elseλy y=>Xe;glob x:=if x="_twin_re_1" then Xd (.top aV)else if x="bytes" then Xd (.typ "bytes")else Xe;fuel:=fuel
noncomputable def fk(p:Wf)(i:Nat):List VW:=match p.main.body[i]? with|some (.FunctionDef _ _ b _ _ _ _ _ _ _)=>b|_=>[]
noncomputable def dW(p:Wf)(i:Nat):V5:=match p.main.body[i]? with|some (.FunctionDef _ _ _ _ _ _ sc _ _ _)=>sc|_=>default
noncomputable def argsAt(p:Wf)(i:Nat):Arguments:=match p.main.body[i]? with|some (.FunctionDef _ a _ _ _ _ _ _ _ _)=>a|_=>⟨[],[],Xe,[],[],Xe,[]⟩
noncomputable def df:Pos:=⟨0,0,0,0⟩
def aw(b:List VW)(i:Nat):VW:=b.getD i (.Pass df)
noncomputable def cN:VW->List VW| .For _ _ b _ _=>b|_=>[]
def cY:VW->Expr| .For _ it _ _ _=>it|_=>.Name "" df
def dF:VW->Expr| .For t _ _ _ _=>t|_=>.Name "" df
def ki:VW->Pos| .For _ _ _ _ p=>p|_=>df
def aX:VW->Expr| .If t _ _ _=>t|_=>.Name "" df
noncomputable def bA:VW->List VW| .If _ b _ _=>b|_=>[]
def ek:VW->Pos| .If _ _ _ p=>p|_=>df
def cC:VW->Expr| .While t _ _ _=>t|_=>.Name "" df
noncomputable def jO:VW->List VW| .While _ b _ _=>b|_=>[]
def cX:VW->Expr| .Return (Xd e) _=>e|_=>.Name "" df
def fQ:VW->Pos| .Return _ p=>p|_=>df
end
theorem lU{k:VV}{o:VV->Option (List Dat->Option Dat)}(h1:iE C n k Qp)(h2:∀{f g},o f=Xd g->iE C n f g)(h:(if f=k then Xd Qp else o f)=Xd g):iE C n f g:=by
 by_cases e:f=k
 ·rw[Vh e]at h;obtain rfl:=Xc h;exact e▸h1
 ·rw[Vg e]at h;exact h2 h
theorem QY(h:(Xe:Option (List Dat->Option Dat))=Xd g):iE C n f g:=aa h
theorem n9{k:VV}{o:VV->Dat->List Dat->Option Dat}(h1:nr C n k Qp)(h2:∀m,nr C n m (o m))(m:VV):nr C n m (if m=k then Qp else o m):=by
 by_cases e:m=k
 ·rw[Vh e];exact e▸h1
 ·rw[Vg e];exact h2 m
theorem DK(m:VV):nr C n m λx x=>Xe:=λh=>aa h
def uj(C:Cx)(x:VV)(d:Dat):Prop:=∃v,(C.mg x=Xd v\/(C.mg x=Xe/\C.mb x=Xd v))/\(x==("__debug__":VV))=false/\∀{s:VY}{ai:W8->Prop},Bs C s->bz C ai s->Rep s.heap ai v d
theorem xZ{k:VV}{o:VV->Option Dat}(h1:uj C k Zb8)(h2:∀{x d},o x=Xd d->uj C x d)(h:(if x=k then Xd Zb8 else o x)=Xd d):uj C x d:=by
 by_cases e:x=k
 ·rw[Vh e]at h;obtain rfl:=Xc h;exact e▸h1
 ·rw[Vg e]at h;exact h2 h
theorem DX(h:(Xe:Option Dat)=Xd d):uj C x d:=aa h
theorem tC(hC:C.Plain):uj C "bytes" (.typ "bytes"):=⟨.type "bytes",.inr ⟨hC.none "bytes" (by decide),hC.b (by kernel_rfl) (by decide)⟩,by decide,λx x=>.typ _⟩
theorem J4(hC:C.Plain)(h:(cV aV fuel).uu f=Xd g):iE C n f g:=lU (Nd hC) (lU (Na hC) (lU (Nb hC) (lU (Nc hC) (lU (Nf hC) (lU (Gm hC) (lU (Gl hC) (lU (ub hC) QY))))))) h
theorem pK(hC:C.Plain)(hp:Re.fM C.h₀ aV c)(hg:C.mg "_twin_re_1"=Xd (.ref aV)):cu C (cV aV fuel) n where
 fn h:=aa h;uu h:=J4 hC h;glob h:=xZ ⟨_,.inl hg,by decide,λx x=>.top _⟩ (xZ (tC hC) DX) h;pB {m}:=n9 (B4 hC.ok hp) (n9 vL (n9 sR DK)) m
noncomputable def fO.and(Φ:fO)(f:VV)(g:List Dat->Option Dat):fO:={Φ with fn:=λx=>if x=f then Xd g else Φ.fn x}
def oZ(C:Cx)(n:Nat)(f:VV)(g:List Dat->Option Dat):Prop:=∃a o fd,C.mg f=Xd (.ref a)/\(f==("__debug__":VV))=false/\¬C.T a/\C.h₀.get? a=Xd o/\o.data=.func fd/\∀{A s ai vs ds d},dD C n A->Bs C s->bz C ai s->aK s.heap ai vs ds->g ds=Xd d->eS C A ai (VH (.ref a) vs) d s
theorem cu.and(h:cu C Φ n)(hf:oZ C n f g):cu C (Φ.and f g) n where
 fn {f' g'} e:=by
  by_cases q:f'=f
  ·have:=(Vh q).symm.trans e;obtain rfl:=Xc this;exact q▸hf
  ·exact h.fn ((Vg q).symm.trans e)
 uu:=h.uu;glob:=h.glob;pB:=h.pB
section
variable {Ψ:yT}
theorem Dr(hC:C.Plain):oY C n where
 chg h _ _ r:=JM h r;sto h _ bs V hp r rj rd hQ:=Hg h bs V hp r rj rd hQ;new h:=H7 hC h
theorem q9(h:Φ.uu "zip"=Xe):mB Φ sc it ae=Xe:=by unfold mB;cases yz it with|none=>rfl|some z=>refine Vg λq=>?_;have q2:=q.2.1;rw[q.1,h]at q2;exact ZP q2
theorem jK(h:Φ.uu "zip"=Xe):Ba C Φ Ψ A:=by intro aj ag sc t it body pos e1 e2 xs ys ae W ad s fl e S hD hz;rw[q9 h]at hz;exact aa hz
theorem Cx.Plain.at(h:C.Plain)(fr:W8->Prop):(C.at fr).Plain:=⟨h.ok.at fr,h.none⟩
def cF(C:Cx)(f:VV)(params:Arguments)(body:List VW)(scope:V5)(cd:VO):Prop:=∃a o pm doc,C.mg f=Xd (.ref a)/\C.h₀.get? a=Xd o/\o.cls≠.none/\o.data=.func (WK f params body scope pm cd doc)/\C.h₀.CodeRec cd f
theorem tG(hC:C.Plain)(hF:∀fr,cu (C.at fr) Φ n)(hz:Φ.uu "zip"=Xe)(hD:cF C f params body scope cd)(Uk:(f==("__debug__":VV))=false) (hP:∀fr,dY (C.at fr) n (kI (C.at fr) cd f) Ψ) (yO:kS scope) (hx:xs.Nodup) (hk:∀x∈xs,(scope.names.lookup x=Xd .local\/scope.names.lookup x=Xd .cell)/\(x==("__debug__":VV))=false/\(x==("__classdict__":VV))=false) (oy:∀vs pm doc,xs.length=vs.length->bindArgs (WK f params body scope pm cd doc) ⟨vs,[]⟩=pure (xs.zip vs)) (hg:∀ds d,g ds=Xd d->xs.length=ds.length/\cn Φ Ψ scope body (bq xs ds)=Xd (.ret d)):oZ C (n+1) f g:=by
 refine de hD λa o pm doc h1 h2 h3 y0=>aU y0 λh4 h5=>?_
 refine⟨a,o,_,h1,Uk,hC.ok.d7 h2 h3,h2,h4,λ{A s ai vs ds d}hA bs V rs h=>?_⟩
 refine aU (hg ds d h) λhl he=>?_
 exact M0 hC.ok (λfr=>lD) hF (λfr=>Dr (hC.at fr)) (λy=>jK hz) (λFT hK=>hP _ FT hK) (hC.ok.d7 h2 h3) h2 h4 h5 yO hx hk hl (oy vs pm doc (hl.trans rs.length.symm)) hA bs V rs he
end
open PySem.NumText
section
variable {stg:VV->Option Int}
def eR:List VW:=fk pw iCv
def bI:V5:=dW pw iCv
def eC:List VW:=cN (aw eR 2)
def G2:VW:=aw (bA (aw eC 0)) 0
noncomputable def mw(stg:VV->Option Int):yT:=lg [(G2,R1 "_ver_stages" stg "v" "t" "t" 100 0)]
def ei(x:VV):Bool:=Txt.contains "._+-" x||Ah x
noncomputable def cD(stg:VV->Option Int)(x:VV):List Dat:=if Txt.contains "._+-" x then[]else match VD x with
  |some i=>[.int 100,.int i]|none=>[.int ((stg x).getD 0),.str x]
theorem U6(h:Txt.contains "._+-" x=false):dT Φ bI (aX (aw eC 0)) (("v",.val (.str x))::ae) (ev Φ bI (aX (aw eC 0)) (("v",.val (.str x))::ae))=Xd true:=by
 have h1:dT Φ bI (aX (aw eC 0)) (("v",.val (.str x))::ae) (ev Φ bI (aX (aw eC 0)) (("v",.val (.str x))::ae))=Xd (!Txt.contains "._+-" x):=by rfl
 rw[h1,h];rfl
theorem QD(h:Txt.contains "._+-" x=true):dT Φ bI (aX (aw eC 0)) (("v",.val (.str x))::ae) (ev Φ bI (aX (aw eC 0)) (("v",.val (.str x))::ae))=Xd false:=by
 have h1:dT Φ bI (aX (aw eC 0)) (("v",.val (.str x))::ae) (ev Φ bI (aX (aw eC 0)) (("v",.val (.str x))::ae))=Xd (!Txt.contains "._+-" x):=by rfl
 rw[h1,h];rfl
def Mq:VW:=aw (bA (aw eC 0)) 1
theorem D9:bA (aw eC 0)=[G2,Mq]:=by rfl
theorem Jw:mw stg bI G2 ((("v":VV),.val (.str x))::ae)=(if Ah x=true then match VD x with
  |some i=>(bV bI "v" (.val (.int i)) ((("v":VV),.val (.str x))::ae)).bind λae=>(bV bI "t" (.val (.int 100)) ae).map .next|none=>(bV bI "t" (.val (.int ((stg x).getD 0))) ((("v":VV),.val (.str x))::ae)).map .next
  else Xe):=(cW rfl).trans rfl
theorem Jy:ex Φ (mw stg) bI Mq ((("t":VV),.val d1)::(("v":VV),.val d2)::V)=((ownOf V "result").bind λa=>(sP "extend" a [.tuple [d1,d2]]).map λa'=>.next ((("result":VV),.own a')::(("t":VV),.val d1)::(("v":VV),.val d2)::V)):=by rfl
theorem HS(h:V.lookup x=Xd (.own d)):ownOf V x=Xd d:=by unfold ownOf;rw[h]
theorem zT(h:aY.length+2<=aS):sP "extend" (.list aY) [.tuple [d1,d2]]=Xd (.list (aY++[d1,d2])):=by unfold sP;dsimp only;rw[Vg (by decide),Vh rfl];exact Vh h
theorem MM(hr:ae.lookup ("result":VV)=Xd (.own (.list aY)))(gC:ei x=true)(hl:aY.length+2<=aS):∃v',cn Φ (mw stg) bI eC (("v",.val (.str x))::ae)=Xd (.next v')/\v'.lookup ("result":VV)=Xd (.own (.list (aY++cD stg x))):=by
 have hsh:eC=[.If (aX (aw eC 0)) (bA (aw eC 0)) [] _]:=rfl;rw[hsh];cases hc:Txt.contains "._+-" x with
 |true=>
  refine⟨(("v":VV),Slot.val (.str x))::ae,?_,?_⟩
  ·rw[aF (aN rfl (fH (cO (QD hc))))];rfl
  ·unfold cD;rw[hc,Vh rfl,Zu];exact hr
 |false=>
  unfold ei at gC;rw[hc,Bool.false_or]at gC;have hif:∀{v'},cn Φ (mw stg) bI (bA (aw eC 0)) ((("v":VV),.val (.str x))::ae)=Xd (.next v')->cn Φ (mw stg) bI eC ((("v":VV),.val (.str x))::ae)=Xd (.next v'):=λ{v'}h=>by have e1:∀q,ex Φ (mw stg) bI (.If (aX (aw eC 0)) (bA (aw eC 0)) [] q) ((("v":VV),.val (.str x))::ae)=Xd (.next v'):=λq=>(fH (cO (U6 hc))).trans h;show cn Φ (mw stg) bI [.If (aX (aw eC 0)) (bA (aw eC 0)) [] _] _=_;rw[aF (aN rfl (e1 _))];rfl
  rw[<-hsh];have Cs:∀{d:Slot}{k:VV},(k==("result":VV))=false->ae.lookup ("result":VV)=((k,d)::ae).lookup ("result":VV):=λ{d k}hk=>by
   rw[YF];have:(("result":VV)==k)=false:=by rw[Vf]at hk ⊢;exactλq=>hk q.symm
   rw[this]
  cases hi:VD x with
  |some i=>
   have h1:mw stg bI G2 ((("v":VV),.val (.str x))::ae)=Xd (.next ((("t":VV),.val (.int 100))::(("v":VV),.val (.int i))::(("v":VV),.val (.str x))::ae)):=by rw[Jw,Vh gC,hi];rfl
   have h2:ex Φ (mw stg) bI Mq ((("t":VV),.val (.int 100))::(("v":VV),.val (.int i))::(("v":VV),.val (.str x))::ae)=Xd (.next ((("result":VV),.own (.list (aY++[.int 100,.int i])))::(("t":VV),.val (.int 100))::(("v":VV),.val (.int i))::(("v":VV),.val (.str x))::ae)):=by rw[Jy,HS ((Cs (by decide)).symm.trans hr),Xh,zT hl];rfl
   have hb:=(aF (cI h1)).trans (aF (sts:=[]) (aN rfl h2));refine⟨_,hif (D9▸hb),?_⟩;unfold cD;rw[hc,Vg ZP,hi];exact aQ
  |none=>
   have h1:mw stg bI G2 ((("v":VV),.val (.str x))::ae)=Xd (.next ((("t":VV),.val (.int ((stg x).getD 0)))::(("v":VV),.val (.str x))::ae)):=by rw[Jw,Vh gC,hi];rfl
   have h2:ex Φ (mw stg) bI Mq ((("t":VV),.val (.int ((stg x).getD 0)))::(("v":VV),.val (.str x))::ae)=Xd (.next ((("result":VV),.own (.list (aY++[.int ((stg x).getD 0),.str x])))::(("t":VV),.val (.int ((stg x).getD 0)))::(("v":VV),.val (.str x))::ae)):=by rw[Jy,HS hr,Xh,zT hl];rfl
   have hb:=(aF (cI h1)).trans (aF (sts:=[]) (aN rfl h2));refine⟨_,hif (D9▸hb),?_⟩;unfold cD;rw[hc,Vg ZP,hi];exact aQ
theorem MO:∀(xs:List VV)(aY:List Dat)(ae:ax),ae.lookup ("result":VV)=Xd (.own (.list aY))->(∀x∈xs,ei x=true)->aY.length+2*xs.length<=aS->∃v',d9 (λd vs=>match bL bI (dF (aw eR 2)) d vs with
      |none=>Xe|some vs=>cn Φ (mw stg) bI eC vs) (xs.map .str) ae=Xd (.next v')/\v'.lookup ("result":VV)=Xd (.own (.list (aY++xs.flatMap (cD stg)))):=by
 intro xs
 induction xs with
 |nil=>exactλaY ae hr _ _=>⟨ae,rfl,by simpa using hr⟩
 |cons x xs ih=>
  refineλaY ae hr gC hl=>av (MM (Φ:=Φ) (stg:=stg) hr (gC x Yu) (by simp at hl;exact bj 0x202a0b1291b02d0b12 hl)) λv1 h1 r1=>?_;have Ap:(cD stg x).length<=2:=by
   unfold cD;split
   ·simp
   ·split<;>simp
  refine av (ih (aY++cD stg x) v1 r1 (λy hy=>gC y (Yv _ hy)) (by simp at hl ⊢;exact eg 0x2102d30bb102a31291b02d0b13 rfl hl Ap)) λv2 h2 r2=>⟨v2,?_,by simpa using r2⟩;rw[YC,eB]
  ·exact h2
  ·exact h1
noncomputable def QE(aV:W8)(t:VV):ax:=[(("result":VV),.own (.list [])),(("component_re":VV),.val (.top aV)),(("version":VV),.val (.str t))]
theorem Jx:eR=[aw eR 0,aw eR 1,.For (dF (aw eR 2)) (cY (aw eR 2)) eC [] (ki (aw eR 2)),.Return (Xd (.Name "result" (cX (aw eR 3)).pos)) (fQ (aw eR 3))]:=by rfl
theorem QC{t:VV}(ht:t.length<=65536)(gC:∀x∈eZ t,ei x=true)(hl:2*(eZ t).length<=aS):cn (cV aV fuel) (mw stg) bI eR (bq ["version"] [.str t])=Xd (.ret (.list ((eZ t).flatMap (cD stg)))):=by
 have h0:ex (cV aV fuel) (mw stg) bI (aw eR 0) (bq ["version"] [.str t])=Xd (.next [(("component_re":VV),.val (.top aV)),(("version":VV),.val (.str t))]):=by rfl
 have h1:ex (cV aV fuel) (mw stg) bI (aw eR 1) [(("component_re":VV),.val (.top aV)),(("version":VV),.val (.str t))]=Xd (.next (QE aV t)):=by rfl
 have h2:ev (cV aV fuel) bI (cY (aw eR 2)) (QE aV t)=sf aV (.top aV) [.str t]:=by rfl
 have h3:sf aV (.top aV) [.str t]=Xd (.list ((eZ t).map .str)):=by unfold sf;exact Vh ⟨rfl,ht⟩
 refine av (MO (Φ:=cV aV fuel) (stg:=stg) (eZ t) [] (QE aV t) (by rfl) gC (by simpa using hl)) λv' hf hr=>?_;rw[Jx,aF (aN (by rfl) h0),aF (aN (by rfl) h1),aF (aN (by rfl) ((yg (by rfl) (fU (h2.trans h3)) rfl).trans hf))];exact ed (aN (by rfl) (eK (Mu hr))) (λv q=>by rcases q with⟨⟩)
def OC(stg:VV->Option Int):List Dat->Option Dat:=oV λd=>(El d).bind λt=>if(decide (t.length<=65536)&&(eZ t).all ei&&decide (2*(eZ t).length<=aS))=true then Xd (.list ((eZ t).flatMap (cD stg)))else Xe
theorem U4:kS bI:=⟨rfl,rfl,rfl,by decide +kernel,by decide +kernel⟩
theorem U5(hC:C.Plain)(hp:Re.fM C.h₀ aV c)(hg:C.mg "_twin_re_1"=Xd (.ref aV)){d:W8}(hT:Eu C "_ver_stages" d stg)(hD:cF C "_comparable_version" (argsAt pw iCv) eR bI cd):oZ C (n+1) "_comparable_version" (OC stg):=by
 refine tG (Φ:=cV aV 0) (Ψ:=mw stg) hC (λfr=>pK (hC.at fr) hp hg) rfl hD (by decide) (λfr=>@nN (C.at fr) n (kI (C.at fr) cd "_comparable_version") _ ⟨OZ (hC.at fr) ⟨hT.map,hT.mods,hT.glob,hT.nd⟩ rfl,trivial⟩) U4 (xs:=[("version":VV)]) (by decide) (by decide +kernel) (λvs pm doc hl=>?_) (λds d h=>?_)
 ·refine aI (Ow hl.symm) ?_;rintro v(rfl);rfl
 ·refine av (jD h) λy e h=>ak h λt h1 h=>aL h λhc hz=>?_;obtain rfl:=qc h1;subst e;simp only[ZV,Vc,Zw]at hc;obtain rfl:=Xc hz;exact⟨rfl,QC hc.1.1 hc.1.2 hc.2⟩
end
def bR(V V':ax):Prop:=∀x,V.lookup x=V'.lookup x
theorem bR.refl(V:ax):bR V V:=λx=>rfl
theorem bR.trans(h:bR V V')(h':bR V' V''):bR V V'':=λx=>(h x).trans (h' x)
theorem bR.cons(h:bR V V')(x:VV)(sl:Slot):bR ((x,sl)::V) ((x,sl)::V'):=λy=>by rw[YF,YF,h y]
inductive wH:Option ax->Option ax->Prop
 |none:wH Xe Xe
 |some {V V':ax}:bR V V'->wH (Xd V) (Xd V')
theorem dU(h:bR V V')(x:VV)(sl:Slot):wH (bV sc x sl V) (bV sc x sl V'):=by
 unfold bV;split
 ·exact .some (h.cons x sl)
 ·exact .none
set_option tactic.hygienic true in
theorem yD:∀(ts:List Expr){ds:List Dat}{V V':ax},bR V V'->wH (iA sc ts ds V) (iA sc ts ds V'):=by
 intro ts;induction ts with
 |nil=>
  intro ds V V' h;rcases ds with⟨⟩;case nil=>exact .some h
  case cons=>exact .none
 |cons t ts ih=>
  intro ds V V' h;rcases ds with⟨⟩;case nil=>exact .none
  case cons d ds=>
   show wH ((asName t).bind _) ((asName t).bind _);cases asName t with
   |none=>exact .none
   |some x=>
    show wH ((bV sc x (.val d) V).bind _) ((bV sc x (.val d) V').bind _);have hb:=dU (sc:=sc) h x (.val d);generalize bV sc x (.val d) V=a at hb ⊢;generalize bV sc x (.val d) V'=b at hb ⊢;rcases hb with⟨⟩;case none=>exact .none
    case some h'=>exact ih h'
theorem iW(h:bR V V')(t:Expr)(d:Dat):wH (bL sc t d V) (bL sc t d V'):=by
 unfold bL;cases asName t with
 |some x=>exact dU h x _
 |none=>
  cases Ek t with
  |none=>exact .none
  |some ts=>cases Cj d with|none=>exact .none|some ds=>exact yD ts h
theorem ya(h:bR V V'):pJ V=pJ V':=by funext t;unfold pJ;cases asName t with|none=>rfl|some x=>exact Ve Option.isNone (h x)
theorem kh(h:bR V V')(t:Expr):freshT V t=freshT V' t:=by unfold freshT;rw[ya h]
theorem ni(h:bR V V')(bC:V5):bR (bJ bC V) (bJ bC V'):=by
 have key:∀(W:ax)(x:VV),(bJ bC W).lookup x=if bC.names.lookup x==Xd .free then W.lookup x else Xe:=by
  intro W x;induction W with
  |nil=>simp[bJ]
  |cons p W ih=>
   obtain⟨y,sl⟩:=p;unfold bJ at ih ⊢;rw[Zi];by_cases hy:x=y
   ·subst hy;cases hf:(bC.names.lookup x==Xd .free)with|true=>simp only[hf,if_true];rw[aQ,aQ]|false=>simp only[hf,ZQ,if_false];rw[ih,hf];rfl
   ·rw[aC hy];split
    ·rw[aC hy];exact ih
    ·exact ih
 intro x;rw[key,key,h x]
theorem zQ(h:bR V V')(x:VV):ownAt V x=ownAt V' x:=by unfold ownAt;rw[h x]
theorem dS(h:bR V V'){w w':Option Dat}(hw:w=w')(e:Expr):orOwn e V w=orOwn e V' w':=by unfold orOwn;rw[hw,show ownAt V=ownAt V' from funext (zQ h)]
def PE(Φ:fO)(e:Expr):Prop:=∀(sc:V5)(V V':ax),bR V V'->ev Φ sc e V=ev Φ sc e V'
def PT(Φ:fO)(e:Expr):Prop:=∀(sc:V5)(V V':ax)(w:Option Dat),bR V V'->dT Φ sc e V w=dT Φ sc e V' w
theorem bc{α β:Type}{x x':Option α}{f g:α->Option β}(h:x=x')(h2:∀a,f a=g a):x.bind f=x'.bind g:=by subst h;exact Ve x.bind (funext h2)
theorem mc{α β:Type}{x x':Option α}{f:α->β}(h:x=x'):x.map f=x'.map f:=Ve (Option.map f) h
theorem pc{α:Type}{x x' y y':Option α}(h:x=x')(h2:y=y'):bM b x y=bM b x' y':=by subst h;subst h2;rfl
set_option tactic.hygienic true in
theorem wH.bd{β:Type}{x y:Option ax}(h:wH x y){f g:ax->Option β}(hf:∀V V',bR V V'->f V=g V'):x.bind f=y.bind g:=by
 rcases h with⟨⟩;case none=>rfl
 case some h=>exact hf _ _ h
theorem jw(h:bR V V'):∀{es:List Expr},(∀e∈es,PE Φ e)->FZ Φ sc es V=FZ Φ sc es V':=by intro es;induction es with|nil=>intro _;exact rfl|cons e es ih=>exactλhe=>bc (he e Yu sc V V' h) λd=>mc (ih λx hx=>he x (Yv _ hx))
theorem tI(h:bR V V'):∀{es:List Expr},(∀e∈es,PE Φ e)->kn Φ sc es V=kn Φ sc es V':=by intro es;induction es with|nil=>intro _;exact rfl|cons e es ih=>exactλhe=>bc (dS h (he e Yu sc V V' h) e) λd=>mc (ih λx hx=>he x (Yv _ hx))
set_option tactic.hygienic true in
theorem F0(h:bR V V'){o:Option Expr}(he:∀e,o=Xd e->PE Φ e):Ox Φ sc o V=Ox Φ sc o V':=by
 rcases o with⟨⟩;case none=>rfl
 case some e=>exact bc (he e rfl sc V V' h) λx=>rfl
theorem CI(h:bR V V')(he:PE Φ e/\PT Φ e):dT Φ sc e V (ev Φ sc e V)=dT Φ sc e V' (ev Φ sc e V'):=(Ve (dT Φ sc e V) (he.1 sc V V' h)).trans (he.2 sc V V' _ h)
theorem Ay(h:bR V V'):∀{es:List Expr},(∀e∈es,PE Φ e/\PT Φ e)->tJ Φ sc es V=tJ Φ sc es V':=by intro es;induction es with|nil=>intro _;exact rfl|cons e es ih=>exactλhe=>bc (CI h (he e Yu)) λc=>pc (ih λx hx=>he x (Yv _ hx)) rfl
set_option tactic.hygienic true in
theorem yl(h:bR V V'):∀{es:List Expr},(∀e∈es,PE Φ e/\∀y p,e=.Starred y p->PE Φ y)->dQ Φ sc es V=dQ Φ sc es V':=by
 intro es;induction es with
 |nil=>intro _;exact rfl
 |cons e es Aj=>
  intro he;have ih:=Aj λx hx=>he x (Yv _ hx);have h1:=(he e Yu).1 sc V V' h;rcases e with⟨⟩;case Starred y p=>have h2:=dS h ((he _ Yu).2 y p rfl sc V V' h) y;exact bc (bc h2 λz=>rfl) λxs=>mc ih
  all_goals (exact bc (mc (f:=one) h1) λxs=>mc ih)
theorem Az(h:bR V V')(op:BoolOp):∀{es:List Expr},(∀e∈es,PE Φ e/\PT Φ e)->fu Φ sc op es V=fu Φ sc op es V':=by intro es;induction es with|nil=>intro _;exact rfl|cons e es ih=>exactλhe=>bc (CI h (he e Yu)) λc=>pc rfl (ih λx hx=>he x (Yv _ hx))
theorem oG(h:bR V V')(op:BoolOp):∀{es:List Expr},(∀e∈es,PE Φ e)->tL Φ sc op es V=tL Φ sc op es V'|[],_=>rfl|[e],he=>he e Yu sc V V' h|e::e'::es,he=>bc (he e Yu sc V V' h) λd=>bc rfl λc=>pc rfl (oG h op λx hx=>he x (Yv _ hx))
theorem lO(h:bR V V'):∀{ops:List CmpOp}{es:List Expr}{a:Dat},(∀e∈es,PE Φ e)->oE Φ sc a ops es V=oE Φ sc a ops es V'|[op],[e],a,he=>bc (dS h (he e Yu sc V V' h) e) λy=>rfl|[],[],a,_=>rfl|[],_::_,a,_=>rfl|[_],[],a,_=>rfl|_::_::_,[],a,_=>rfl|_::_::_,[_],a,_=>rfl|[_],_::_::_,a,_=>rfl|op::op'::ops,e::e'::es,a,he=>bc (he e Yu sc V V' h) λb=>bc rfl λc=>pc (lO h λx hx=>he x (Yv _ hx)) rfl
theorem mM{k k':ax->Option (List Dat)}(h:bR V V')(hi:∀x∈ifs,PE Φ x/\PT Φ x)(hk:∀V V',bR V V'->k V=k' V'):kr Φ sc t ifs V k=kr Φ sc t ifs V' k':=funext λd=>(iW h t d).bd λW W' hW=>bc (Ay hW hi) λc=>pc (hk W W' hW) rfl
theorem ic{c c':Prop}{_:Decidable c}{_:Decidable c'}{α:Type}{x x':Option α}(hc:c=c')(h:x=x'):(if c then x else Xe)=if c' then x' else Xe:=by subst hc;subst h;congr
theorem ym:∀{gens:List WI}{V V':ax}{k k':ax->Option (List Dat)},bR V V'->(∀g∈gens,PE Φ g.iter/\∀x∈g.ifs,PE Φ x/\PT Φ x)->(∀V V',bR V V'->k V=k' V')->tK Φ sc gens V k=tK Φ sc gens V' k':=by
 intro gens;induction gens with
 |nil=>intro V V' k k' h _ hk;exact hk V V' h
 |cons y0 rest ih=>intro V V' k k' h hg hk;obtain⟨t,it,ifs,a⟩:=y0;exact ic (Ve (λb=>a=0/\b=true) (kh h t)) (bc (dS h ((hg _ Yu).1 sc V V' h) it) λsrc=>bc rfl λar=>Ve (λf=>bN f ar) (mM h (hg _ Yu).2 λW W' hW=>ih hW (λg hgm=>hg g (Yv _ hgm)) hk))
theorem B3(h:bR V V')(x:VV)(p:Pos):ev Φ sc (.Name x p) V=ev Φ sc (.Name x p) V':=Ve (H9 Φ sc x) (h x)
theorem CY(h:bR V V')(h1:dQ Φ sc args V=dQ Φ sc args V')(h2:kn Φ sc args V=kn Φ sc args V'):ev Φ sc (.Call (.Name f q) args [] p) V=ev Φ sc (.Call (.Name f q) args [] p) V':=by
 refine ic (x:=match Φ.fn f with
     |some g=>(dQ Φ sc args V).bind g|none=>(Φ.uu f).bind λg=>(kn Φ sc args V).bind g)
  (x':=match Φ.fn f with
     |some g=>(dQ Φ sc args V').bind g|none=>(Φ.uu f).bind λg=>(kn Φ sc args V').bind g) (Ve (λo=>o=Xe/\sc.names.lookup f=Xd .globalImplicit) (h f)) ?_
 rw[h1,h2]
theorem B5{o:Expr}(h1:orOwn o V (ev Φ sc o V)=orOwn o V' (ev Φ sc o V'))(h2:FZ Φ sc args V=FZ Φ sc args V'):ev Φ sc (.Call (.Attribute o m ap) args [] p) V=ev Φ sc (.Call (.Attribute o m ap) args [] p) V':=ic rfl (bc h1 λa=>bc h2 λds=>rfl)
theorem B7(h:bR V V'){a:Int}(h1:PE Φ it)(h2:∀x∈ifs,PE Φ x/\PT Φ x)(h3:∀g∈rest,PE Φ g.iter/\∀x∈g.ifs,PE Φ x/\PT Φ x)(h4:PE Φ elt):ev Φ sc (.ListComp elt (⟨t,it,ifs,a⟩::rest) bC p) V=ev Φ sc (.ListComp elt (⟨t,it,ifs,a⟩::rest) bC p) V':=ic (Ve (λb=>a=0/\jc sc bC=true/\b=true) (kh (ni h bC) t)) (bc (dS h (h1 sc V V' h) it) λsrc=>bc rfl λar=>bc (Ve (λf=>bN f ar) (mM (ni h bC) h2 λW W' hW=>ym hW h3 λX X' hX=>mc (h4 bC X X' hX))) λy=>rfl)
theorem pP{v i:Expr}{W:ax}(hi:∀a b c q,i≠.Slice a b c q):ev Φ sc (.Subscript v i p) W=(orOwn v W (ev Φ sc v W)).bind (Sa Xe (ev Φ sc i W)):=by rcases i with⟨⟩<;>first|exact absurd rfl (hi _ _ _ _)|rfl
set_option tactic.hygienic true in
theorem QH(k:Nat)(ih:∀x:Expr,sizeOf x<k->PE Φ x/\PT Φ x)(e:Expr)(hk:sizeOf e<k+1):PE Φ e:=by
 intro sc V V' h;have o:=λx hx=>ih x (dg hk hx);have l:∀es:List Expr,sizeOf es<sizeOf e->∀x∈es,PE Φ x/\PT Φ x:=λes he x hx=>ih x (iY hk he x hx);have w:=λx hx=>dS h ((o x hx).1 sc V V' h) x;rcases e with⟨⟩;case Name x p=>exact B3 h x p
 case BinOp a op b p=>exact bc ((o a (by simp;exact eg 0x32109bbbb001 rfl)).1 sc V V' h) λx=>bc ((o b (by simp;exact eg 0x30219bbbb001 rfl)).1 sc V V' h) λy=>rfl
 case UnaryOp op x p=>
  rcases op with⟨⟩;case Not=>exact bc (w x (by simp;exact aO 0x1002abb001)) λa=>rfl
  all_goals (exact bc ((o x (by simp;exact aO 0x1002abb001)).1 sc V V' h) λa=>rfl)
 case BoolOp op vs p=>exact oG h op λx hx=>(l vs (by simp;exact bj 0x2019bbb001) x hx).1
 case Compare a ops cs p=>exact bc (w a (by simp;exact eg 0x32109bbbb001 rfl)) λa=>bc (lO h λx hx=>(l cs (by simp;exact eg 0x30219bbbb001 rfl) x hx).1) λr=>rfl
 case IfExp t a b p=>exact bc (CI h (o t (by simp;exact eg 0x32109bbbb001 rfl))) λc=>pc ((o a (by simp;exact eg 0x32019bbbb001 rfl)).1 sc V V' h) ((o b (by simp;exact eg 0x30219bbbb001 rfl)).1 sc V V' h)
 case List es p=>exact bc (jw h λx hx=>(l es (by simp;exact aO 0x109bb001) x hx).1) λr=>rfl
 case Tuple es kk p=>exact bc (jw h λx hx=>(l es (by simp;exact bj 0x2109bbb001) x hx).1) λr=>rfl
 case Subscript v i p=>
  by_cases hs:∃lo hi st sp,i=.Slice lo hi st sp
  ·refine OR hs ?_;rintro lo hi st sp(rfl);have q:∀u:Option Expr,(∀x,u=Xd x->sizeOf x<sizeOf (Expr.Subscript v (.Slice lo hi st sp) p))->Ox Φ sc u V=Ox Φ sc u V':=λu hu=>F0 h λx hx=>(o x (hu x hx)).1;have q1:=q lo λx e=>by subst e;simp;exact Bc 0x543209b9bbbb19bbb001 rfl
   have q2:=q hi λx e=>by subst e;simp;exact Bc 0x54309b29bbbb19bbb001 rfl
   have q3:=q st λx e=>by subst e;simp;exact Bc 0x5409b329bbbb19bbb001 rfl
   exact bc (w v (by simp;exact Bc 0x543219bbbb09bbb001 rfl)) λa=>bc q1 λr=>bc q2 λr=>bc q3 λr=>rfl
  ·have Am:=λa b c q e=>hs ⟨a,b,c,q,e⟩;rw[pP Am,pP Am];exact bc (w v (by simp;exact bj 0x2109bbb001)) λa=>bc ((o i (by simp;exact bj 0x2019bbb001)).1 sc V V' h) λr=>rfl
 case Call f args DN p=>
  rcases DN with⟨⟩;case cons=>rcases f with⟨⟩<;>rfl
  case nil=>
   have hl:=l args (by simp;exact bj 0x29019bbbb001);rcases f with⟨⟩;case Name x xp=>exact CY h (yl h λy hy=>⟨(hl y hy).1,λz q e=>(ih z (by have:=iY hk (by simp;exact eg 0x390219bb9bbbb001 rfl) y hy;subst e;exact Xr Dp this)).1⟩) (tI h λy hy=>(hl y hy).1)
   case Attribute b m ap=>exact B5 (w b (by simp;exact uv 0x4932109bbb9bbbb001 rfl)) (jw h λy hy=>(hl y hy).1)
   all_goals (rfl)
 case ListComp elt gens bC p=>
  rcases gens with⟨⟩;case nil=>rfl
  case cons g rest=>
   obtain⟨t,it,ifs,a⟩:=g;refine B7 h (o it (by simp;exact Rh 0x76543029bbbb9bb19bbbb001 rfl)).1 (l ifs (by simp;exact Rh 0x76540329bbbb9bb19bbbb001 rfl)) (λg hg=>?_) (o elt (by simp;exact Rh 0x76543219bbbb9bb09bbbb001 rfl)).1;have h1:=XT hg;obtain⟨b1,b2,b3,b4⟩:=g;simp only[WI.mk.sizeOf_spec]at h1;have h2:sizeOf rest<sizeOf (Expr.ListComp elt (⟨t,it,ifs,a⟩::rest) bC p):=by simp;exact Rh 0x76054329bbbb9bb19bbbb001 rfl
   exact⟨(o b2 (Bc 0x510540432109bbbb03 rfl h1 h2)).1,l b3 (Bc 0x520540432109bbbb03 rfl h1 h2)⟩
 all_goals (rfl)
set_option tactic.hygienic true in
theorem QG(k:Nat)(ih:∀x:Expr,sizeOf x<k->PE Φ x/\PT Φ x)(e:Expr)(hk:sizeOf e<k+1):PT Φ e:=by
 intro sc V V' w h;have o:=λx hx=>ih x (dg hk hx);have l:∀es:List Expr,sizeOf es<sizeOf e->∀x∈es,PE Φ x/\PT Φ x:=λes he x hx=>ih x (iY hk he x hx);rcases e with⟨⟩;case UnaryOp op x p=>
  rcases op with⟨⟩;case Not=>exact mc (CI h (o x (by simp;exact aO 0x1002abb001)))
  all_goals (rfl)
 case BoolOp op vs p=>exact Az h op (l vs (by simp;exact bj 0x2019bbb001))
 case Compare a ops cs p=>exact bc (dS h ((o a (by simp;exact eg 0x32109bbbb001 rfl)).1 sc V V' h) a) λy=>lO h λx hx=>(l cs (by simp;exact eg 0x30219bbbb001 rfl) x hx).1
 case IfExp t a b p=>exact bc (CI h (o t (by simp;exact eg 0x32109bbbb001 rfl))) λc=>pc (CI h (o a (by simp;exact eg 0x32019bbbb001 rfl))) (CI h (o b (by simp;exact eg 0x30219bbbb001 rfl)))
 all_goals (rfl)
theorem nh:∀(k:Nat)(e:Expr),sizeOf e<k->PE Φ e/\PT Φ e:=by intro k;induction k with|zero=>intro e h;exact absurd h (Xn _)|succ k ih=>exactλe h=>⟨QH k (ih) e h,QG k (ih) e h⟩
section
variable {Ψ:yT}
theorem cJ(h:bR V V')(e:Expr):ev Φ sc e V=ev Φ sc e V':=(nh _ e (Xs _)).1 sc V V' h
theorem pQ(h:bR V V')(e:Expr):dT Φ sc e V (ev Φ sc e V)=dT Φ sc e V' (ev Φ sc e V'):=by rw[cJ h e];exact(nh _ e (Xs _)).2 sc V V' _ h
inductive gm:Option Fl->Option Fl->Prop
 |none:gm Xe Xe
 |next {V V':ax}:bR V V'->gm (Xd (.next V)) (Xd (.next V'))
 |brk {V V':ax}:bR V V'->gm (Xd (.brk V)) (Xd (.brk V'))
 |cont {V V':ax}:bR V V'->gm (Xd (.cont V)) (Xd (.cont V'))
 |ret (d:Dat):gm (Xd (.ret d)) (Xd (.ret d))
def mz(Ψ:yT):Prop:=∀sc st V V',bR V V'->gm (Ψ sc st V) (Ψ sc st V')
theorem bR.jm(h:bR V V'):bR (bp V) (bp V'):=λx=>by
 have key:∀(W:ax),(bp W).lookup x=(W.lookup x).map Slot.jm:=by
  intro W;induction W with
  |nil=>rfl
  |cons p W ih=>obtain⟨y,t⟩:=p;have e:bp ((y,t)::W)=(y,t.jm)::bp W:=rfl;rw[e,YF,YF];cases x==y with|true=>rfl|false=>exact ih
 rw[key,key,h x]
set_option tactic.hygienic true in
theorem wH.fl{a b:Option ax}(h:wH a b):gm (a.map .next) (b.map .next):=by
 rcases h with⟨⟩;case none=>exact .none
 case some h=>exact .next h
inductive OL {α:Type}:Option (α×ax)->Option (α×ax)->Prop
 |none:OL Xe Xe
 |some {d:α} {V V':ax}:bR V V'->OL (Xd (d,V)) (Xd (d,V'))
theorem me(h:bR V V')(e:Expr):OL (qF Φ sc e V) (qF Φ sc e V'):=by
 unfold qF;rw[cJ h e,cJ h.jm e];cases ev Φ sc e V' with
 |some d=>exact .some h
 |none=>cases ev Φ sc e (bp V')with|none=>exact .none|some d=>exact .some h.jm
theorem CH(h:bR V V')(e:Expr):OL (yk Φ sc e V) (yk Φ sc e V'):=by
 unfold yk;rw[pQ h e,pQ h.jm e];cases dT Φ sc e V' (ev Φ sc e V')with
 |some d=>exact .some h
 |none=>cases dT Φ sc e (bp V') (ev Φ sc e (bp V'))with|none=>exact .none|some d=>exact .some h.jm
set_option tactic.hygienic true in
theorem OL.bf{α:Type}{x y:Option (α×ax)}(h:OL x y){f g:α×ax->Option Fl}(hf:∀d V V',bR V V'->gm (f (d,V)) (g (d,V'))):gm (x.bind f) (y.bind g):=by
 rcases h with⟨⟩;case none=>exact .none
 case some h=>exact hf _ _ _ h
set_option tactic.hygienic true in
theorem OL.bo{α:Type}{x y:Option (α×ax)}(h:OL x y){f:α×ax->Option ax}(hf:∀d V V',bR V V'->wH (f (d,V)) (f (d,V'))):wH (x.bind f) (y.bind f):=by
 rcases h with⟨⟩;case none=>exact .none
 case some h=>exact hf _ _ _ h
set_option tactic.hygienic true in
theorem ob{α:Type}{x x':Option α}{f g:α->Option ax}(hx:x=x')(h:∀a,wH (f a) (g a)):wH (x.bind f) (x'.bind g):=by
 subst hx;rcases x with⟨⟩;case none=>exact .none
 case some a=>exact h a
set_option tactic.hygienic true in
theorem fb{α:Type}{x x':Option α}{f g:α->Option Fl}(hx:x=x')(h:∀a,gm (f a) (g a)):gm (x.bind f) (x'.bind g):=by
 subst hx;rcases x with⟨⟩;case none=>exact .none
 case some a=>exact h a
theorem op{x x' y y':Option ax}(h:wH x x')(h2:wH y y'):wH (bM b x y) (bM b x' y'):=by rcases b with⟨⟩;exact h2;exact h
theorem fp{x x' y y':Option Fl}(h:gm x x')(h2:gm y y'):gm (bM b x y) (bM b x' y'):=by rcases b with⟨⟩;exact h2;exact h
theorem fi{c:Prop}{_:Decidable c}{x x':Option Fl}(h:gm x x'):gm (if c then x else Xe) (if c then x' else Xe):=by
 split
 ·exact h
 ·exact .none
set_option tactic.hygienic true in
theorem gm.th{k k':ax->Option Fl}(hk:∀V V',bR V V'->gm (k V) (k' V')){a b:Option Fl}(h:gm a b):gm (a.bind (jR k)) (b.bind (jR k')):=by
 rcases h with⟨⟩;case none=>exact .none
 case next h=>exact hk _ _ h
 case cont h=>exact hk _ _ h
 case brk h=>exact .next h
 case ret d=>exact .ret d
set_option tactic.hygienic true in
theorem gm.af{k k':ax->Option Fl}(hk:∀V V',bR V V'->gm (k V) (k' V')){a b:Option Fl}(h:gm a b):gm (a.bind (oW k)) (b.bind (oW k')):=by
 rcases h with⟨⟩;case none=>exact .none
 case next h=>exact hk _ _ h
 case cont h=>exact .cont h
 case brk h=>exact .brk h
 case ret d=>exact .ret d
theorem PEa(e:Expr):PE Φ e:=(nh _ e (Xs _)).1
theorem BD(h:bR V V')(x:VV)(value:Expr):wH ((qF Φ sc value V).bind (EZ sc x)) ((qF Φ sc value V').bind (EZ sc x)):=(me h value).bo λd W W' hW=>dU hW x _
theorem Af(h:bR V V')(f:VV):isNew Φ sc V f=isNew Φ sc V' f:=by unfold isNew;rw[h f]
theorem vb(h:bR V V')(x:VV)(value:Expr):wH (ku Φ sc x value V) (ku Φ sc x value V'):=by
 unfold ku;cases yH value with
 |some es=>
  refine ob (jw h λe y=>PEa e) λds=>?_;split
  ·exact dU h x _
  ·exact .none
 |none=>rw[show isNew Φ sc V=isNew Φ sc V' from funext (Af h)];exact op (ob rfl λz=>ob (tI h λe y=>PEa e) λds=>ob rfl λd=>dU h x _) (BD h x _)
theorem qE(hs:∀d V V',bR V V'->gm (f d V) (g d V')):∀(ds:List Dat){V V':ax},bR V V'->gm (d9 f ds V) (d9 g ds V'):=by intro ds;induction ds with|nil=>intro V V' h;exact .next h|cons d ds ih=>intro V V' h;exact .th (λW W' hW=>ih hW) (hs d V V' h)
theorem Bk{t u:ax->Option Bool}{f g:ax->Option Fl}(ht:∀V V',bR V V'->t V=u V')(hs:∀V V',bR V V'->gm (f V) (g V')):∀(k:Nat){V V':ax},bR V V'->gm (uy t f k V) (uy u g k V'):=by intro k;induction k with|zero=>intro V V' h;exact .none|succ k ih=>intro V V' h;exact fb (ht V V' h) λc=>fp (.th (λW W' hW=>ih hW) (hs V V' h)) (.next h)
theorem yV(h:bR V V')(it:Expr):mB Φ sc it V=mB Φ sc it V':=by unfold mB;cases yz it with|none=>rfl|some z=>simp only[Xh,h z.1]
set_option tactic.hygienic true in
theorem xt{a a' b b':Option Fl}(h:gm a a')(h':gm b b'):gm (lB a b) (lB a' b'):=by
 rcases h with⟨⟩;case none=>exact h'
 case next h=>exact .next h
 case brk h=>exact .brk h
 case cont h=>exact .cont h
 case ret d=>exact .ret d
theorem Jf(Ki:mz Ψ):∀{sts:List VW},(∀st∈sts,∀(sc:V5)(V V':ax),bR V V'->gm (ex Φ Ψ sc st V) (ex Φ Ψ sc st V'))->∀{sc:V5}{V V':ax},bR V V'->gm (cn Φ Ψ sc sts V) (cn Φ Ψ sc sts V'):=by intro sts;induction sts with|nil=>intro _ sc V V' h;exact .next h|cons st sts ih=>exactλhs sc V V' h=>.af (λW W' hW=>ih (λs hm=>hs s (Yv _ hm)) hW) (xt (Ki sc st V V' h) (hs st Yu sc V V' h))
theorem vF(h:bR V V')(x:VV):ownOf V x=ownOf V' x:=by unfold ownOf;rw[h x]
set_option tactic.hygienic true in
theorem mf{α:Type}{x:Option α}{f g:α->Fl}(h:∀a,gm (Xd (f a)) (Xd (g a))):gm (x.map f) (x.map g):=by
 rcases x with⟨⟩;case none=>exact .none
 case some a=>exact h a
set_option tactic.hygienic true in
theorem Mr(Ki:mz Ψ):∀(k:Nat)(st:VW),sizeOf st<k->∀(sc:V5)(V V':ax),bR V V'->gm (ex Φ Ψ sc st V) (ex Φ Ψ sc st V'):=by
 intro k;induction k with
 |zero=>intro st h;exact absurd h (Xn _)
 |succ k ih=>
  intro st hk sc V V' h;have body:∀{sts:List VW},sizeOf sts<k->∀{V V':ax},bR V V'->gm (cn Φ Ψ sc sts V) (cn Φ Ψ sc sts V'):=λ{sts}hs{V V'}h=>Jf Ki (λs hm=>ih s (Xr (XT hm) hs)) h;have turn:∀{t:Expr}{b:List VW},sizeOf b<k->∀d V V',bR V V'->gm (match bL sc t d V with|none=>Xe|some vs=>cn Φ Ψ sc b vs) (match bL sc t d V' with|none=>Xe|some vs=>cn Φ Ψ sc b vs):=λ{t b}hb d V V' h=>by
   have h1:=iW (sc:=sc) h t d;generalize bL sc t d V=x at h1 ⊢;generalize bL sc t d V'=y at h1 ⊢;rcases h1 with⟨⟩;case none=>exact .none
   case some h'=>exact body hb h'
  have key:SV st\/(ex Φ Ψ sc st V=Xe/\ex Φ Ψ sc st V'=Xe):=by
   cases e:ex Φ Ψ sc st V with
   |some fl=>exact .inl (CG e)
   |none=>cases e':ex Φ Ψ sc st V' with
    |some fl=>exact .inl (CG e')|none=>exact .inr ⟨rfl,rfl⟩
  refine Xa key (λhv=>?_) λy0=>?_
  ·rcases hv with⟨t,value,pos,rfl⟩|⟨value,pos,rfl⟩|⟨t,b,o,pos,rfl⟩|⟨t,it,b,pos,rfl⟩|⟨t,b,pos,rfl⟩|⟨e,pos,rfl⟩|⟨pos,rfl⟩
   ·show gm (v8 Φ sc t value V) (v8 Φ sc t value V');unfold v8;cases tgt t with|no=>exact gm.none|name x=>exact(vb h x value).fl|tup=>exact fp .none ((me h value).bf λd W W' hW=>(iW hW _ _).fl)|item x i=>exact fp .none (fb (vF h x) λa=>fb (cJ h value) λd=>fb (cJ h i) λj=>mf λa'=>.next (h.cons x _))
   ·show gm (yh Φ sc value V) (yh Φ sc value V');unfold yh;cases JR value with|none=>exact gm.none|some z=>exact fi (fb (vF h z.1) λa=>fb (jw h λe u=>PEa e) λds=>mf λa'=>.next (h.cons z.1 _))
   ·have hb:sizeOf b<k/\sizeOf o<k:=by simp at hk;exact uv 0x420410494b32109bbbb02 rfl hk
    exact(CH h t).bf λd W W' hW=>fp (body hb.1 hW) (body hb.2 hW)
   ·have hb:sizeOf b<k:=by simp at hk;exact Bc 0x52095b432109bbbbb02 rfl hk
    have hz:=yV (Φ:=Φ) (sc:=sc) h it;show gm (uQ Φ sc t it (λvs=>cn Φ Ψ sc b vs) V) (uQ Φ sc t it (λvs=>cn Φ Ψ sc b vs) V');unfold uQ;rw[hz];cases mB Φ sc it V' with|some z=>exact fp (fb (cJ h z.1) λx=>fb (cJ h z.2) λy=>fb rfl λzs=>qE (turn hb) zs h) .none|none=>exact(me h it).bf λd W W' hW=>fb rfl λar=>qE (turn hb) ar hW
   ·have hb:sizeOf b<k:=by simp at hk;exact uv 0x41094b32109bbbb02 rfl hk
    exact Bk (λV V' h=>pQ h t) (λV V' h=>body hb h) _ h
   ·have:=(me (Φ:=Φ) (sc:=sc) h e).bf (f:=λr=>Xd (.ret r.1)) (g:=λr=>Xd (.ret r.1)) λd W W' hW=>.ret d;show gm ((qF Φ sc e V).map λr=>Fl.ret r.1) ((qF Φ sc e V').map λr=>Fl.ret r.1);rw[Option.map_eq_bind];rw[Option.map_eq_bind];exact this
   ·exact .brk h
  ·refine aU y0 λe1 e2=>?_;rw[e1,e2];exact gm.none
theorem v5(Ki:mz Ψ)(h:bR V V')(sts:List VW):gm (cn Φ Ψ sc sts V) (cn Φ Ψ sc sts V'):=Jf Ki (λst x=>Mr Ki _ st (Xs _)) h
theorem mz.none:mz (λx x x=>Xe):=λx x x x x=>.none
set_option tactic.hygienic true in
theorem ju(Ki:mz Ψ)(h:bR V V'){W:ax}(e:cn Φ Ψ sc sts V'=Xd (.next W)):∃W',cn Φ Ψ sc sts V=Xd (.next W')/\bR W' W:=by have h1:=v5 (Φ:=Φ) (sc:=sc) Ki h sts;rw[e]at h1;generalize cn Φ Ψ sc sts V=x at h1 ⊢;rcases h1 with⟨⟩;case next h'=>exact⟨_,rfl,h'⟩
theorem oC(Ki:mz Ψ)(h:bR V V')(e:cn Φ Ψ sc sts V'=Xd (.ret d)):cn Φ Ψ sc sts V=Xd (.ret d):=by have h1:=v5 (Φ:=Φ) (sc:=sc) Ki h sts;rw[e]at h1;generalize cn Φ Ψ sc sts V=x at h1 ⊢;rcases h1 with⟨⟩;rfl
end
section
variable {A B:ax} {y:VV} {s t:Slot}
theorem bR.store:∀{A:ax},(∀p∈A,p.1≠x)->bR ((x,s)::(A++(x,t)::B)) (A++(x,s)::B)
 |[],_=>λy=>by
  by_cases h:y=x
  ·subst h;rw[aQ];exact aQ.symm
  ·rw[aC h];show YG y ((x,t)::B)=YG y ((x,s)::B);rw[aC h,aC h]
 |(z,u)::A,hA=>λy=>by
  have hz:=hA _ Yu;have ih:=bR.store λp hp=>hA p (Yv _ hp);by_cases h:y=x
  ·subst h;have h1:=ih y;rw[aQ]at h1 ⊢;show _=YG y ((z,u)::(A++(y,s)::B));rw[aC (Xj hz)];exact h1
  ·rw[aC h];have h1:=ih y;rw[aC h]at h1;show YG y ((z,u)::(A++(x,t)::B))=YG y ((z,u)::(A++(x,s)::B));rw[YF,YF,h1]
theorem bR.shadow:bR ((x,s)::(x,t)::B) ((x,s)::B):=bR.store (A:=[]) nofun
theorem bR.dead(hA:∀p∈A,p.1≠x):bR ((x,s)::(A++(x,t)::B)) ((x,s)::(A++B)):=λy=>by
 by_cases h:y=x
 ·subst h;rw[aQ,aQ]
 ·rw[aC h,aC h];induction A with
  |nil=>show YG y ((x,t)::B)=YG y B;rw[aC h]
  |cons p A ih=>obtain⟨z,u⟩:=p;show YG y ((z,u)::(A++(x,t)::B))=YG y ((z,u)::(A++B));rw[YF,YF,ih λp hp=>hA p (Yv _ hp)]
theorem bR.swap(h:x≠y):bR ((x,s)::(y,t)::B) ((y,t)::(x,s)::B):=λz=>by
 by_cases h1:z=x
 ·subst h1;rw[aQ,aC h,aQ]
 ·by_cases h2:z=y
  ·subst h2;rw[aC h1,aQ,aQ]
  ·rw[aC h1,aC h2,aC h2,aC h1]
noncomputable def swapAt(b:List UInt8)(w k:Nat):UInt8:=b.getD (k/w*w+(w-1-k%w)) 0
def hN(b:List UInt8)(w:Nat):List UInt8:=(Yc b.length).map (swapAt b w)
theorem ES{w q j:Nat}(hj:j<w):swapAt b w (q*w+(w-1-j))=b.getD (q*w+j) 0:=by
 unfold swapAt;have hw:0<w:=aO 0x1801002 hj;have h1:(q*w+(w-1-j))/w=q:=by rw[Nat.mul_comm q w,Nat.mul_add_div hw,Nat.div_eq_of_lt (by exact aO 0x190cc00802 hw)];exact aZ 0x80b21
 have h2:(q*w+(w-1-j))%w=w-1-j:=by rw[Nat.mul_comm q w,Nat.mul_add_mod,Xq (by exact aO 0x190cc00802 hw)]
 rw[h1,h2];congr 2;exact aO 0x91cc91cc21002 hj
def fN(b:List UInt8)(w:Nat)(D:Nat->Prop)(r:List UInt8):Prop:=r.length=b.length/\∀k,k<b.length->D k->r[k]?=Xd (swapAt b w k)
theorem fN.set{w:Nat}{D:Nat->Prop}(h:fN b w D r){p:Nat}(hp:p<b.length):fN b w (λk=>D k\/k=p) (r.set p (swapAt b w p)):=by
 refine⟨by rw[List.length_set];exact h.1,λk hk hd=>?_⟩;by_cases yP:p=k
 ·subst yP;rw[List.getElem?_set_self (by rw[h.1];exact hp)]
 ·rw[List.getElem?_set_ne yP];exact h.2 k hk (hd.resolve_right λq=>yP q.symm)
theorem fN.mono{w:Nat}{D D':Nat->Prop}(h:fN b w D r)(hd:∀k,k<b.length->D' k->D k):fN b w D' r:=⟨h.1,λk hk q=>h.2 k hk (hd k hk q)⟩
theorem fN.all{w:Nat}{D:Nat->Prop}(h:fN b w D r)(hd:∀k,k<b.length->D k):r=hN b w:=by
 unfold hN;apply Zl;intro k;by_cases hk:k<b.length
 ·rw[h.2 k hk (hd k hk)];simp[hk]
 ·rw[Y8 (by rw[h.1];exact aO 0x1110032 hk),Y8 (by simp;exact aO 0x1110032 hk)]
end
section
variable {aV:W8} {fuel:Nat}
def bU:List VW:=fk pw NY
def br:V5:=dW pw NY
def jz:List VW:=cN (aw bU 1)
def uW:List VW:=cN (aw jz 0)
noncomputable def ml:yT:=λx x x=>Xe
noncomputable def q6(κ:Bool)(b:List UInt8):Dat:=match κ with
 |true=>.bg b|false=>.bytes b
noncomputable def cj(r:List UInt8)(κ:Bool)(b:List UInt8)(w:Int):ax:=[(("swapped_data":VV),.own (.bg r)),(("data":VV),.val (q6 κ b)),(("width":VV),.val (.int w))]
end
section
variable {aV:W8} {fuel:Nat} {κ:Bool}
theorem Zap{w i j:Int}:ex (cV aV fuel) ml br (aw uW 0) ((("j":VV),.val (.int j))::(("i":VV),.val (.int i))::cj r κ b w)=((ej (q6 κ b) (.int (i+j))).bind λd=>(jU (.bg r) (.int (i+w-1-j)) d).map λa'=>.next ((("swapped_data":VV),.own a')::(("j":VV),.val (.int j))::(("i":VV),.val (.int i))::cj r κ b w)):=by rfl
theorem OG:uW=[aw uW 0]:=by rfl
theorem JV:jz=[.For (dF (aw jz 0)) (cY (aw jz 0)) uW [] (ki (aw jz 0))]:=by rfl
theorem Ef:bU=[aw bU 0,.For (dF (aw bU 1)) (cY (aw bU 1)) jz [] (ki (aw bU 1)),.Return (Xd (cX (aw bU 2))) (fQ (aw bU 2))]:=by rfl
theorem sZ(hk:k<b.length)(hl:b.length<=aS):ej (q6 κ b) (.int (k:Int))=Xd (.int ((b.getD k 0).toNat:Int)):=by
 have hs:aM (k:Int)=true:=mS (Xy (Nat.le_of_lt hk) hl);have e:ej (q6 κ b) (.int (k:Int))=(if aM (k:Int)=true then(ez (k:Int) b.length).bind λk=>(b[k]?).map λc=>Dat.int c.toNat else Xe):=by rcases κ with⟨⟩<;>rfl
 rw[e];rw[Vh hs];unfold ez;rw[Vh (by exact aZ 0xaf881),Vh (by exact aO 0x1af0af71002 hk)];simp[hk]
theorem Bu(hk:k<r.length)(hl:r.length<=aS):jU (.bg r) (.int (k:Int)) (.int (c.toNat:Int))=Xd (.bg (r.set k c)):=by have hc:=c.toNat_lt;show(if 0<=(k:Int)/\(k:Int)<(r.length:Int)/\r.length<=aS/\0<=(c.toNat:Int)/\(c.toNat:Int)<256 then Xd (Dat.bg (r.set (k:Int).toNat ((c.toNat:Int).toNat.toUInt8)))else Xe)=_;rw[Vh ⟨by exact aZ 0xaf881,by exact aO 0x1af0af71002 hk,hl,by exact aZ 0xaf881,by exact aZ 0x1008f0af7000001008f002 hc⟩];simp
def IsJ(J:ax):Prop:=J=[]\/∃d,J=[(("j":VV),.val d)]
theorem M3{w q j:Nat}{D:Nat->Prop}(hl:b.length<=aS)(hj:j<w)(hq:q*w+w<=b.length)(hr:fN b w D r)(hJ:IsJ J)(hV:bR V (J++(("i":VV),.val (.int ((q*w:Nat):Int)))::cj r κ b w)):∃V' r',cn (cV aV fuel) ml br uW ((("j":VV),.val (.int (j:Int)))::V)=Xd (.next V')/\fN b w (λk=>D k\/k=q*w+(w-1-j)) r'/\bR V' ([(("j":VV),.val (.int (j:Int)))]++(("i":VV),.val (.int ((q*w:Nat):Int)))::cj r' κ b w):=by
 have hp:q*w+(w-1-j)<b.length:=eg 0x3091cc2b0312b11003 rfl hj hq;have h1:bR ((("j":VV),.val (.int (j:Int)))::V) ((("j":VV),.val (.int (j:Int)))::(("i":VV),.val (.int ((q*w:Nat):Int)))::cj r κ b w):=by
  refine(hV.cons _ _).trans (Xa hJ (λy0=>?_) λy1=>?_)
  ·obtain rfl:=y0;exact .refl _
  ·refine aI y1 ?_;rintro d(rfl);exact bR.shadow
 have he:cn (cV aV fuel) ml br uW ((("j":VV),.val (.int (j:Int)))::(("i":VV),.val (.int ((q*w:Nat):Int)))::cj r κ b w)=Xd (.next ((("swapped_data":VV),.own (.bg (r.set (q*w+(w-1-j)) (swapAt b w (q*w+(w-1-j))))))::(("j":VV),.val (.int (j:Int)))::(("i":VV),.val (.int ((q*w:Nat):Int)))::cj r κ b w)):=by
  have h2:ex (cV aV fuel) ml br (aw uW 0) ((("j":VV),.val (.int (j:Int)))::(("i":VV),.val (.int ((q*w:Nat):Int)))::cj r κ b w)=_:=Zap
  have e1:((q*w:Nat):Int)+(j:Int)=((q*w+j:Nat):Int):=aO 0x10baf1af0afb91
  have e2:((q*w:Nat):Int)+(w:Int)-1-(j:Int)=((q*w+(w-1-j):Nat):Int):=bj 0x91cc2baf0af91af2afbcc91002 hj
  rw[e1,e2,sZ (by exact eg 0x302b0312b11003 rfl hj hq) hl,Xh,<-ES hj,Bu (by rw[hr.1];exact hp) (by rw[hr.1];exact hl),Xf]at h2
  rw[OG,aF (aN rfl h2)];rfl
 refine av (ju mz.none h1 he) λV' h3 h4=>⟨V',_,h3,hr.set hp,h4.trans ?_⟩;exact bR.store (A:=[(("j":VV),.val (.int (j:Int))),(("i":VV),.val (.int ((q*w:Nat):Int)))]) (λp hp=>by
  have n1:("j":VV)≠("swapped_data":VV):=by decide
  have n2:("i":VV)≠("swapped_data":VV):=by decide
  simp only[Yw,Yq,or_false]at hp;refine Xa hp (λy0=>?_) λy1=>?_
  ·obtain rfl:=y0;exact n1
  ·obtain rfl:=y1;exact n2)
theorem M6{w q:Nat}(hl:b.length<=aS)(hq:q*w+w<=b.length):∀(m j:Nat)(V J:ax)(r:List UInt8)(D:Nat->Prop),j+m=w->IsJ J->bR V (J++(("i":VV),.val (.int ((q*w:Nat):Int)))::cj r κ b w)->fN b w D r->∃V' J' r',d9 (λd vs=>match bL br (dF (aw jz 0)) d vs with
      |none=>Xe|some vs=>cn (cV aV fuel) ml br uW vs) ((Yb j m).map λk:Nat=>Dat.int (k:Int)) V=Xd (.next V')/\IsJ J'/\
   bR V' (J'++(("i":VV),.val (.int ((q*w:Nat):Int)))::cj r' κ b w)/\fN b w (λk=>D k\/(q*w<=k/\k<q*w+(w-j))) r':=by
 intro m
 induction m with
 |zero=>exactλj V J r D hj hJ hV hr=>⟨V,J,r,rfl,hJ,hV,hr.mono λk x h=>h.elim id λh=>(eg 0x601c2b303214180b23 rfl hj h).elim⟩
 |succ m ih=>
  refineλj V J r D hj hJ hV hr=>er (M3 (aV:=aV) (fuel:=fuel) hl (bj 0x200291b0b22 hj) hq hr hJ hV) λV1 r1 h1 L6 Oo=>jg (ih (j+1) V1 _ r1 _ (bj 0x2190bb2291b0b22 hj) (.inr ⟨_,rfl⟩) Oo L6) λV2 J2 r2 h2 hJ2 Qm vT=>⟨V2,J2,r2,?_,hJ2,Qm,vT.mono λk x h=>?_⟩
  ·rw[List.range'_succ,YC,eB]
   ·exact h2
   ·exact h1
  ·refine Xa h (λh=>.inl (.inl h)) λh=>?_
   ·by_cases hk:k=q*w+(w-1-j)
    ·exact .inl (.inr hk)
    ·exact .inr (eg 0x93b2c0b101014392cc0b12332c0b1010143 rfl h hk)
theorem rangeSize_pos{w:Nat}(hw:0<w)(h:n%w=0):ey 0 (n:Int) (w:Int)=n/w:=by
 unfold ey WM;rw[Vh (by exact aZ 0xaf870802 hw)];refine aI (Nat.dvd_of_mod_eq_zero h) ?_;rintro q(rfl);rw[Xo _ hw];by_cases hq:q=0
 ·subst hq;simp
 ·have L8:=Nat.mul_pos hw (aZ 0x8080232 hq);rw[Vh (by exact aZ 0xaf870802 L8)];have e1:((w*q:Nat):Int)-0-1=((w*q-1:Nat):Int):=aZ 0x90caf980afcc90802 L8;rw[e1,<-Int.natCast_ediv];have e2:(w*q-1)/w=q-1:=by
   rw[Nat.div_eq_iff hw];have:w*q=w*(q-1)+w:=by rw[<-Nat.mul_succ];congr 1;exact aZ 0x990cb0280232 hq
   constructor
   ·rw[Nat.mul_comm];exact bj 0x91c2102b120803 hw this
   ·rw[Nat.mul_comm (q-1) w];exact bj 0x921bc90c121b022 this
  rw[e2];exact aZ 0x990cafbbf280232 hq
theorem m8{w:Nat}(hw:0<w)(h:n%w=0)(hn:n<=aS)(hwn:w<=aS):bP (.range 0 (n:Int) (w:Int))=Xd ((Yb 0 (n/w)).map λk:Nat=>Dat.int ((k*w:Nat):Int)):=by
 have hs:(aM 0&&aM (n:Int)&&aM (w:Int)&&(w:Int) !=0)=true:=by rw[mS hn,mS hwn];exact bne_iff_ne.mpr λe=>Nat.ne_of_gt hw (Int.ofNat.inj e)
 unfold bP;dsimp only;rw[Vh hs];unfold sC;rw[rangeSize_pos hw h,YB,List.range_eq_range'];refine Ve Xd (YD λk x=>?_);have e:(0:Int)+(w:Int)*(k:Int)=((k*w:Nat):Int):=by rw[Int.natCast_mul,Int.mul_comm,Zx]
 exact Ve Dat.int e
def ON(K:ax):Prop:=K=[]\/∃J d,IsJ J/\K=J++[(("i":VV),.val d)]
theorem AY{w q:Nat}{D:Nat->Prop}(hw:0<w)(hl:b.length<=aS)(hq:q*w+w<=b.length)(hr:fN b w D r){K:ax}(hK:ON K)(hV:bR V (K++cj r κ b w)):∃V' K' r',cn (cV aV fuel) ml br jz ((("i":VV),.val (.int ((q*w:Nat):Int)))::V)=Xd (.next V')/\ON K'/\bR V' (K'++cj r' κ b w)/\fN b w (λk=>D k\/(q*w<=k/\k<q*w+w)) r':=by
 have hJ:∃J,IsJ J/\bR ((("i":VV),.val (.int ((q*w:Nat):Int)))::V) (J++(("i":VV),.val (.int ((q*w:Nat):Int)))::cj r κ b w):=by
  refine Xa hK (λy0=>?_) λy1=>?_
  ·obtain rfl:=y0;exact⟨[],.inl rfl,hV.cons _ _⟩
  ·refine eT y1 ?_;clear y1;rintro J d hJ(rfl);refine Xa hJ (λy0=>?_) λy1=>?_
   ·obtain rfl:=y0;exact⟨[],.inl rfl,(hV.cons _ _).trans bR.shadow⟩
   ·refine aI y1 ?_;clear y1;rintro d1(rfl);refine⟨_,.inr ⟨d1,rfl⟩,(hV.cons _ _).trans ?_⟩;refine bR.trans (bR.dead (A:=[(("j":VV),.val d1)]) (λp hp=>?_)) (bR.swap (by decide));have n1:("j":VV)≠("i":VV):=by decide
    simp only[Yw,Yq,or_false]at hp;subst hp;exact n1
 refine av hJ λJ hJ h1=>?_;have he:ev (cV aV fuel) br (cY (aw jz 0)) ((("i":VV),.val (.int ((q*w:Nat):Int)))::V)=Xd (.range 0 (w:Int) 1):=by rw[cJ h1];rcases hJ with rfl|⟨d,rfl⟩<;>rfl
 have hit:bP (.range 0 (w:Int) 1)=Xd ((Yb 0 w).map λk:Nat=>Dat.int (k:Int)):=by have:=m8 (n:=w) (w:=1) (by decide) (Nat.mod_one _) (eg 0x131032b11013 rfl hl hq) (by decide);rw[Nat.div_one]at this;rw[show((1:Nat):Int)=1 from rfl]at this;rw[this];refine Ve Xd (YD λk x=>?_);rw[Nat.mul_one]
 refine jg (M6 (aV:=aV) (fuel:=fuel) hl hq w 0 _ J r D (aZ 0x8b21) hJ h1 hr) λV2 J2 r2 h2 hJ2 Qm vT=>(⟨V2,J2++[(("i":VV),.val (.int ((q*w:Nat):Int)))],r2,?_,.inr ⟨J2,_,hJ2,rfl⟩,?_,vT.mono λk x h=>h.imp id λh=>bj 0x82c0b10101420b1010142 h⟩)
 ·rw[JV,aF (aN rfl ((yg (q9 rfl) (fU he) hit).trans h2))];rfl
 ·rw[Zv];exact Qm
theorem JU{w:Nat}(hw:0<w)(hl:b.length<=aS):∀(m q:Nat)(V K:ax)(r:List UInt8)(D:Nat->Prop),(q+m)*w=b.length->ON K->bR V (K++cj r κ b w)->fN b w D r->∃V' K' r',d9 (λd vs=>match bL br (dF (aw bU 1)) d vs with
      |none=>Xe|some vs=>cn (cV aV fuel) ml br jz vs) ((Yb q m).map λk:Nat=>Dat.int ((k*w:Nat):Int)) V=Xd (.next V')/\ON K'/\
   bR V' (K'++cj r' κ b w)/\fN b w (λk=>D k\/(q*w<=k/\k<(q+m)*w)) r':=by
 intro m
 induction m with
 |zero=>exactλq V K r D hj hK hV hr=>⟨V,K,r,rfl,hK,hV,hr.mono λk x h=>h.elim id λh=>by rw[XH]at h;exact(aO 0x601010142 h).elim⟩
 |succ m ih=>
  intro q V K r D hj hK hV hr;have e1:(q+(m+1))*w=(q+1+m)*w:=by congr 1;exact aO 0x190bb91b0b21
  have e2:(q+1)*w=q*w+w:=Nat.succ_mul q w;have e3:(q+1+m)*w=(q+1)*w+m*w:=Nat.add_mul ..;refine jg (AY (aV:=aV) (fuel:=fuel) (q:=q) hw hl (by rw[<-hj,e1,e3,e2];exact XF _ _) hr hK hV) λV1 K1 r1 h1 RE Oo L6=>jg (ih (q+1) V1 K1 r1 _ (by rw[<-e1];exact hj) RE Oo L6) λV2 K2 r2 h2 hK2 Qm vT=>⟨V2,K2,r2,?_,hK2,Qm,vT.mono λk x h=>?_⟩
  ·rw[List.range'_succ,YC,eB (aW:=V1)]
   ·exact h2
   ·exact h1
  ·refine Xa h (λh=>.inl (.inl h)) λh=>?_
   ·by_cases hk:k<q*w+w
    ·exact .inl (.inr ⟨h.1,hk⟩)
    ·exact .inr (by rw[e1]at h;exact uv 0x430301421b303430311421b024 rfl e2 h hk)
def yG:VW->Expr| .Assign _ (.Call _ [a] _ _) _=>a|_=>.Name "" df
theorem fR(h:b.length<=aS):lF [q6 κ b]=Xd (.int (b.length:Int)):=by
 have e:lF [q6 κ b]=(if b.length<=aS then Xd (Dat.int (b.length:Int))else Xe):=by rcases κ with⟨⟩<;>rfl
 rw[e,Vh h]
theorem QT{w:Nat}(hw:0<w)(hwc:w<=aS)(hl:b.length<=aS)(hm:b.length%w=0):cn (cV aV fuel) ml br bU (bq ["data","width"] [q6 κ b,.int (w:Int)])=Xd (.ret (.bytes (hN b w))):=by
 have e0:kn (cV aV fuel) br [yG (aw bU 0)] (bq ["data","width"] [q6 κ b,.int (w:Int)])=(lF [q6 κ b]).bind λd=>Xd [d]:=by rfl
 rw[fR hl,Xh]at e0;have h0:ex (cV aV fuel) ml br (aw bU 0) (bq ["data","width"] [q6 κ b,.int (w:Int)])=Xd (.next (cj (X0 b.length 0) κ b w)):=by
  have e1:ex (cV aV fuel) ml br (aw bU 0) (bq ["data","width"] [q6 κ b,.int (w:Int)])=((kn (cV aV fuel) br [yG (aw bU 0)] (bq ["data","width"] [q6 κ b,.int (w:Int)])).bind λds=>(newD "bytearray" ds).bind λd=>bV br "swapped_data" (.own d) (bq ["data","width"] [q6 κ b,.int (w:Int)])).map .next:=by rfl
  rw[e1,e0,Xh];have e2:newD "bytearray" [.int (b.length:Int)]=Xd (.bg (X0 b.length 0)):=by show(if 0<=(b.length:Int)/\(b.length:Int)<=(aS:Int)then Xd (Dat.bg (X0 (b.length:Int).toNat 0))else Xe)=_;rw[Vh ⟨by exact aZ 0xaf881,by exact aO 0x1af0af81012 hl⟩];rfl
  rw[e2];rfl
 have e3:ev (cV aV fuel) br (cY (aw bU 1)) (cj (X0 b.length 0) κ b w)=(((lF [q6 κ b]).bind λd=>Xd [d,Dat.int (w:Int)]).map λds=>Dat.int 0::ds).bind j0:=by rfl
 rw[fR hl]at e3;have e4:j0 [.int 0,.int (b.length:Int),.int (w:Int)]=Xd (.range 0 (b.length:Int) (w:Int)):=by show(if(w:Int)≠0/\(w:Int).natAbs<1073741824 then Xd (Dat.range 0 (b.length:Int) (w:Int))else Xe)=_;unfold aS at hwc;rw[Vh ⟨by exact aZ 0x80af930802 hw,by lia⟩]
 have hd:(0+b.length/w)*w=b.length:=by rw[Xl];exact Nat.div_mul_cancel (Nat.dvd_of_mod_eq_zero hm)
 refine jg (JU (aV:=aV) (fuel:=fuel) hw hl (b.length/w) 0 (cj (X0 b.length 0) κ b w) [] _ (λx=>False) hd (.inl rfl) (.refl _) ⟨by simp,λx x h=>h.elim⟩) λV' K' r' h1 hK hV hr=>?_;have I1:r'=hN b w:=hr.all λk hk=>.inr ⟨by exact aO 0x1000d11,by rw[hd];exact hk⟩;have e5:ev (cV aV fuel) br (cX (aw bU 2)) V'=lS [.bg r']:=by rw[cJ hV];rcases hK with rfl|⟨J,d,rfl|⟨d1,rfl⟩,rfl⟩<;>rfl
 have e6:lS [.bg r']=Xd (.bytes r'):=by show(if r'.length<=aS then Xd (Dat.bytes r')else Xe)=_;rw[Vh (by rw[hr.1];exact hl)]
 rw[Ef,aF (aN rfl h0),aF (aN rfl ((yg (q9 rfl) (fU (e3.trans e4)) (m8 hw hm hl hwc)).trans h1))];rw[ed (aN rfl (eK (fU (e5.trans e6)))) (λv q=>by rcases q with⟨⟩),I1]
end
section
variable {aV:W8} {fuel:Nat}
noncomputable def Nk:Dat->Option (Bool×List UInt8)| .bytes b=>Xd (false,b)| .bg b=>Xd (true,b)|_=>Xe
theorem ue{z:Bool×List UInt8}:Nk d=Xd z->d=q6 z.1 z.2:=by
 rcases d with⟨⟩;case bytes=>exactλh=>Xc h▸rfl
 case bg=>exactλh=>Xc h▸rfl
 all_goals exact aa
def M7:List Dat->Option Dat:=Nl λx y=>(Nk x).bind λb=>(Ni y).bind λw=>if 0<w/\w<=(aS:Int)/\b.2.length<=aS/\b.2.length%w.toNat=0 then Xd (.bytes (hN b.2 w.toNat))else Xe
theorem JT:kS br:=⟨rfl,rfl,rfl,by decide +kernel,by decide +kernel⟩
theorem OF(hC:C.Plain)(hp:Re.fM C.h₀ aV c)(hg:C.mg "_twin_re_1"=Xd (.ref aV))(hD:cF C "_byteswap" (argsAt pw NY) bU br cd):oZ C (n+1) "_byteswap" M7:=by
 refine tG (Φ:=cV aV 0) (Ψ:=ml) hC (λfr=>pK (hC.at fr) hp hg) rfl hD (by decide) (λfr=>dY.none) JT (xs:=[("data":VV),"width"]) (by decide) (by decide +kernel) (λvs pm doc hl=>?_) (λds d h=>?_)
 ·refine kK (RG hl.symm) ?_;rintro v u(rfl);rfl
 ·refine eT (lW h) λx y e h=>ak h λb h1 h=>ak h λw h2 h=>aL h λhc hz=>?_;obtain rfl:=ue h1;obtain rfl:=ud h2;subst e;obtain rfl:=Xc hz;have hw:w=((w.toNat:Nat):Int):=zC3 0xfbfaf0f982201140af0f840f8742 rfl hc;refine⟨rfl,?_⟩;rw[hw];exact QT (zC3 0xfbf8082201140af0f840f8742 rfl hc) (zC3 0xfbf182201140af0f840f8742 rfl hc) hc.2.2.1 hc.2.2.2
end
def CgM(p:VW×nu):Prop:=∀sc V V',bR V V'->gm (p.2 sc V) (p.2 sc V')
theorem zo{L:List (VW×nu)}(h:Ke CgM L):mz (lg L):=λsc st V V' hV=>by
 unfold lg;cases e:L.find? λp=>ql p.1==ql st with
 |none=>exact .none
 |some p=>
  dsimp only;split
  ·exact h.mem p (Yp e) sc V V' hV
  ·exact .none
theorem Je{c:Prop}{d:Decidable c}{a b:Option Fl}(h:gm a b):gm (if c then a else Xe) (if c then b else Xe):=by
 split
 ·exact h
 ·exact .none
set_option tactic.hygienic true in
theorem yd{α:Type}(x:Option α){f g:α->Option Fl}(h:∀a,gm (f a) (g a)):gm (x.bind f) (x.bind g):=by
 rcases x with⟨⟩;case none=>exact .none
 case some a=>exact h a
theorem i7{S:VW}{x y a b:VV}:CgM (S,qT x y a b):=λsc V V' h=>by
 show gm ((nX V y).bind _) ((nX V' y).bind _);have:nX V y=nX V' y:=by unfold nX;rw[h y]
 rw[this];exact yd _ λt=>Je (dU h x _).fl
theorem LX{S:VW}{x sep a:VV}:CgM (S,joinM x sep a):=λsc V V' h=>by
 show gm (if _ then(lx V a).bind _ else Xe) (if _ then(lx V' a).bind _ else Xe);have:lx V a=lx V' a:=by unfold lx;rw[h a]
 rw[this];exact Je (yd _ λt=>Je (dU h x _).fl)
def ie:Nat->VV->Option VV|0,_=>Xe|k+1,t=>if t.length<=aS/\V8 t=true/\V8 (VR t "--" "-")=true then(if VR t "--" "-"=t then Xd t else ie k (VR t "--" "-"))else Xe
section
variable {aV:W8} {fuel:Nat} {W:ax} {t:VV}
def aB:List VW:=fk pw Ro
def aG:V5:=dW pw Ro
def nc:VW->Pos| .Assign _ (.Call _ [.GeneratorExp _ _ _ p] _ _) _=>p|_=>df
def vm:VW->Pos| .While _ _ _ p=>p|_=>df
noncomputable def cT:yT:=lg [(aw aB 0,joinM "platform" "-" "args"),(aw aB 1,qT "platform" "platform" " " "_"),(aw aB 2,qT "platform" "platform" "/" "-"),(aw aB 3,qT "platform" "platform" "\\" "-"),(aw aB 4,qT "platform" "platform" ":" "-"),(aw aB 5,qT "platform" "platform" ";" "-"),(aw aB 6,qT "platform" "platform" "\"" "-"),(aw aB 7,qT "platform" "platform" "(" "-"),(aw aB 8,qT "platform" "platform" ")" "-"),(aw aB 9,qT "platform" "platform" "unknown" ""),(aw (jO (aw aB 10)) 0,qT "cleaned" "platform" "--" "-")]
noncomputable def cH(t:VV)(W:ax):ax:=(("platform":VV),.val (.str t))::W
theorem Lk:cT aG (aw aB 1) (cH t W)=(if t.length<=aS then Xd (.next (cH (VR t " " "_") (cH t W)))else Xe):=(cW rfl).trans rfl
theorem Lj:cT aG (aw aB 2) (cH t W)=(if t.length<=aS then Xd (.next (cH (VR t "/" "-") (cH t W)))else Xe):=(cW rfl).trans rfl
theorem Li:cT aG (aw aB 3) (cH t W)=(if t.length<=aS then Xd (.next (cH (VR t "\\" "-") (cH t W)))else Xe):=(cW rfl).trans rfl
theorem Lh:cT aG (aw aB 4) (cH t W)=(if t.length<=aS then Xd (.next (cH (VR t ":" "-") (cH t W)))else Xe):=(cW rfl).trans rfl
theorem Lg:cT aG (aw aB 5) (cH t W)=(if t.length<=aS then Xd (.next (cH (VR t ";" "-") (cH t W)))else Xe):=(cW rfl).trans rfl
theorem Lf:cT aG (aw aB 6) (cH t W)=(if t.length<=aS then Xd (.next (cH (VR t "\"" "-") (cH t W)))else Xe):=(cW rfl).trans rfl
theorem Le:cT aG (aw aB 7) (cH t W)=(if t.length<=aS then Xd (.next (cH (VR t "(" "-") (cH t W)))else Xe):=(cW rfl).trans rfl
theorem Ld:cT aG (aw aB 8) (cH t W)=(if t.length<=aS then Xd (.next (cH (VR t ")" "-") (cH t W)))else Xe):=(cW rfl).trans rfl
theorem Lc:cT aG (aw aB 9) (cH t W)=(if t.length<=aS then Xd (.next (cH (VR t "unknown" "") (cH t W)))else Xe):=(cW rfl).trans rfl
theorem Ll:cT aG (aw aB 0) [(("args":VV),.val (.tuple ds))]=((strsOf ds).bind λys=>if iQ "-" ys=true then Xd (.next (cH (dP "-" ys) [(("args":VV),.val (.tuple ds))]))else Xe):=(cW rfl).trans rfl
theorem HE:aB=[aw aB 0,aw aB 1,aw aB 2,aw aB 3,aw aB 4,aw aB 5,aw aB 6,aw aB 7,aw aB 8,aw aB 9,.While (cC (aw aB 10)) (jO (aw aB 10)) [] (vm (aw aB 10)),.While (cC (aw aB 11)) (jO (aw aB 11)) [] (vm (aw aB 11)),.Return (Xd (cX (aw aB 12))) (fQ (aw aB 12))]:=by rfl
end
section
variable {aV:W8} {fuel:Nat} {W:ax} {t u:VV}
def rq:List VW:=jO (aw aB 10)
def NK:List VW:=jO (aw aB 11)
theorem Lb:dT (cV aV fuel) aG (cC (aw aB 10)) V (ev (cV aV fuel) aG (cC (aw aB 10)) V)=Xd true:=by rfl
theorem Fh:rq=[aw rq 0,.If (aX (aw rq 1)) (bA (aw rq 1)) [] (ek (aw rq 1)),aw rq 2]:=by rfl
theorem SQ:cT aG (aw rq 0) (cH t W)=(if t.length<=aS then Xd (.next ((("cleaned":VV),.val (.str (VR t "--" "-")))::cH t W))else Xe):=(cW rfl).trans rfl
theorem SP:dT (cV aV fuel) aG (aX (aw rq 1)) ((("cleaned":VV),.val (.str u))::cH t W) (ev (cV aV fuel) aG (aX (aw rq 1)) ((("cleaned":VV),.val (.str u))::cH t W))=mh (.str u) (.str t):=by rfl
theorem SN:cn (cV aV fuel) cT aG (bA (aw rq 1)) V=Xd (.brk V):=by rfl
theorem SO:ex (cV aV fuel) cT aG (aw rq 2) ((("cleaned":VV),.val (.str u))::cH t W)=Xd (.next (cH u ((("cleaned":VV),.val (.str u))::cH t W))):=by rfl
theorem yo(hu:V8 u=true)(ht:V8 t=true):mh (.str u) (.str t)=Xd (u==t):=by delta mh;rw[show mQ (.str u)=Xd (.str u)from Vh hu,show mQ (.str t)=Xd (.str t)from Vh ht];rfl
theorem HN(hl:t.length<=aS)(ht:V8 t=true)(hu:V8 (VR t "--" "-")=true):cn (cV aV fuel) cT aG rq (cH t W)=if VR t "--" "-"=t then Xd (.brk ((("cleaned":VV),.val (.str t))::cH t W))else Xd (.next (cH (VR t "--" "-") ((("cleaned":VV),.val (.str (VR t "--" "-")))::cH t W))):=by
 have h0:=SQ (t:=t) (W:=W);rw[Vh hl]at h0;rw[Fh,aF (cI h0)];have h1:=SP (aV:=aV) (fuel:=fuel) (t:=t) (u:=VR t "--" "-") (W:=W);rw[yo hu ht]at h1;split
 ·rename_i he;have h2:(VR t "--" "-"==t)=true:=by rw[he];exact beq_self_eq_true t
  rw[h2]at h1;have h3:ex (cV aV fuel) cT aG (.If (aX (aw rq 1)) (bA (aw rq 1)) [] (ek (aw rq 1))) ((("cleaned":VV),.val (.str (VR t "--" "-")))::cH t W)=Xd (.brk ((("cleaned":VV),.val (.str (VR t "--" "-")))::cH t W)):=(fH (cO h1)).trans SN;rw[ed (aN rfl h3) (λv q=>by rcases q with⟨⟩),he]
 ·rename_i he;have h2:(VR t "--" "-"==t)=false:=by rw[Vf];exact he
  rw[h2]at h1;have h3:ex (cV aV fuel) cT aG (.If (aX (aw rq 1)) (bA (aw rq 1)) [] (ek (aw rq 1))) ((("cleaned":VV),.val (.str (VR t "--" "-")))::cH t W)=Xd (.next ((("cleaned":VV),.val (.str (VR t "--" "-")))::cH t W)):=(fH (cO h1)).trans rfl;rw[aF (aN rfl h3),aF (aN rfl SO)];rfl
theorem DC{α:Type}{x y:Option α}:bM true x y=x:=rfl
theorem OV{f:ax->Option Bool}{g:ax->Option Fl}{V:ax}:uy f g (k+1) V=(f V).bind λc=>bM c ((g V).bind (jR (uy f g k))) (Xd (.next V)):=rfl
theorem HG:∀(k:Nat)(t u:VV)(W:ax),ie k t=Xd u->∃W',uy (λvs=>dT (cV aV fuel) aG (cC (aw aB 10)) vs (ev (cV aV fuel) aG (cC (aw aB 10)) vs)) (λvs=>cn (cV aV fuel) cT aG rq vs) k (cH t W)=Xd (.next ((("cleaned":VV),.val (.str u))::cH u W')):=by
 intro k;induction k with
 |zero=>exactλt u W h=>aa h
 |succ k ih=>
  refineλt u W h=>aL h λhc h=>?_;have h1:=HN (aV:=aV) (fuel:=fuel) (W:=W) hc.1 hc.2.1 hc.2.2;rw[OV,Lb,Xh,DC,h1];by_cases he:VR t "--" "-"=t
  ·obtain rfl:=Xc ((Vh he).symm.trans h);rw[Vh he];exact⟨W,rfl⟩
  ·rw[Vg he];exact ih _ u _ ((Vg he).symm.trans h)
theorem Fg:NK=[aw NK 0]:=by rfl
def bx:VW->Expr| .Assign _ v _=>v|_=>.Name "" df
theorem Lq:ev (cV aV fuel) aG (bx (aw NK 0)) (cH t W)=fe (.str t) Xe (Xd (-1)) Xe:=by rfl
noncomputable def cM:Expr->List Expr| .BoolOp _ es _=>es|_=>[]
theorem HJ:dT (cV aV fuel) aG (cC (aw aB 11)) (cH t W) (ev (cV aV fuel) aG (cC (aw aB 11)) (cH t W))=fu (cV aV fuel) aG .And (cM (cC (aw aB 11))) (cH t W):=by rfl
theorem HL:cM (cC (aw aB 11))=[(cM (cC (aw aB 11))).getD 0 (.Name "" df),(cM (cC (aw aB 11))).getD 1 (.Name "" df)]:=by rfl
theorem SM:dT (cV aV fuel) aG ((cM (cC (aw aB 11))).getD 0 (.Name "" df)) (cH t W) (ev (cV aV fuel) aG ((cM (cC (aw aB 11))).getD 0 (.Name "" df)) (cH t W))=kL (.str t):=by rfl
theorem SK:dT (cV aV fuel) aG ((cM (cC (aw aB 11))).getD 1 (.Name "" df)) (cH t W) (ev (cV aV fuel) aG ((cM (cC (aw aB 11))).getD 1 (.Name "" df)) (cH t W))=((ej (.str t) (.int (-1))).bind λa=>pW .Eq a (.str "-")):=by rfl
theorem Pm:ev (cV aV fuel) aG (cX (aw aB 12)) (cH t W)=Xd (.str t):=by rfl
noncomputable def Q4(x y:Option Bool):Option Bool:=match x with
 |none=>Xe|some false=>Xd false|some true=>y
def oJ(t:VV):Option Bool:=Q4 (kL (.str t)) ((ej (.str t) (.int (-1))).bind λa=>pW .Eq a (.str "-"))
set_option tactic.hygienic true in
theorem F1{a b:Expr}{x:Option Bool}(h1:dT Φ sc a V (ev Φ sc a V)=x)(h2:dT Φ sc b V (ev Φ sc b V)=y):fu Φ sc .And [a,b] V=Q4 x y:=by
 have e:∀(p:Expr)(r:List Expr),fu Φ sc .And (p::r) V=Q4 (dT Φ sc p V (ev Φ sc p V)) (fu Φ sc .And r V):=λp r=>by
  show((dT Φ sc p V (ev Φ sc p V)).bind λc=>bM (fL .And c) (Xd c) (fu Φ sc .And r V))=_;cases dT Φ sc p V (ev Φ sc p V)with
  |none=>rfl
  |some c=>rcases c with⟨⟩<;>rfl
 rw[e,e,h1,h2];have e0:fu Φ sc .And [] V=Xd true:=rfl;rw[e0];congr 1;rcases y with⟨⟩;case none=>rfl
 case some d=>rcases d with⟨⟩<;>rfl
theorem HK:dT (cV aV fuel) aG (cC (aw aB 11)) (cH t W) (ev (cV aV fuel) aG (cC (aw aB 11)) (cH t W))=oJ t:=by rw[HJ,HL,F1 SM SK];rfl
noncomputable def KJ(o:Option Dat)(f:VV->Option VV):Option VV:=match o with
 |some (.str u)=>f u|_=>Xe
set_option tactic.hygienic true in
theorem He{o:Option Dat}{f:VV->Option VV}{u:VV}{P:Prop}(h:KJ o f=Xd u)(k:∀v,o=Xd (.str v)->f v=Xd u->P):P:=by
 cases o with
 |none=>exact aa h
 |some d=>
  rcases d with⟨⟩;case str v=>exact k v rfl h
  all_goals exact aa h
def nM:Nat->VV->Option VV
 |0,_=>Xe
 |k+1,t=>match oJ t with
  |none=>Xe|some false=>Xd t|some true=>KJ (fe (.str t) Xe (Xd (-1)) Xe) (nM k)
theorem HI(h:fe (.str t) Xe (Xd (-1)) Xe=Xd (.str u)):cn (cV aV fuel) cT aG NK (cH t W)=Xd (.next (cH u (cH t W))):=by
 have h1:ex (cV aV fuel) cT aG (aw NK 0) (cH t W)=(((qF (cV aV fuel) aG (bx (aw NK 0)) (cH t W)).bind (EZ aG "platform")).map .next):=by rfl
 rw[fU (Lq.trans h)]at h1;rw[Fg,aF (aN rfl h1)];rfl
theorem HF:∀(k:Nat)(t u:VV)(W:ax),nM k t=Xd u->∃W',uy (λvs=>dT (cV aV fuel) aG (cC (aw aB 11)) vs (ev (cV aV fuel) aG (cC (aw aB 11)) vs)) (λvs=>cn (cV aV fuel) cT aG NK vs) k (cH t W)=Xd (.next (cH u W')):=by
 intro k;induction k with
 |zero=>exactλt u W h=>aa h
 |succ k ih=>
  intro t u W h;replace h:(match oJ t with
   |none=>Xe|some false=>Xd t|some true=>KJ (fe (.str t) Xe (Xd (-1)) Xe) (nM k))=Xd u:=h
  show ∃W',((dT (cV aV fuel) aG (cC (aw aB 11)) (cH t W) (ev (cV aV fuel) aG (cC (aw aB 11)) (cH t W))).bind λc=>bM c ((cn (cV aV fuel) cT aG NK (cH t W)).bind (jR _)) (Xd (.next (cH t W))))=_;rw[HK];cases he:oJ t with
  |none=>rw[he]at h;exact aa h
  |some b=>
   rw[he]at h;rcases b with⟨⟩;case false=>obtain rfl:=Xc h;exact⟨W,rfl⟩
   case true=>rw[Xh,DC];refine He h λv hv h=>?_;rw[HI hv];exact ih v u _ h
end
section
variable {aV:W8} {fuel:Nat} {W:ax} {t u v:VV}
noncomputable def rep1(t:VV):VV:=VR t " " "_"
noncomputable def rep2(t:VV):VV:=VR t "/" "-"
noncomputable def rep3(t:VV):VV:=VR t "\\" "-"
noncomputable def px(t:VV):VV:=VR t ":" "-"
noncomputable def sA(t:VV):VV:=VR t ";" "-"
noncomputable def xi(t:VV):VV:=VR t "\"" "-"
noncomputable def BK(t:VV):VV:=VR t "(" "-"
noncomputable def Hy(t:VV):VV:=VR t ")" "-"
noncomputable def Pe(t:VV):VV:=VR t "unknown" ""
def fY(t:VV):VV:=Pe (Hy (BK (xi (sA (px (rep3 (rep2 (rep1 t))))))))
def yu(t:VV):Prop:=(t).length<=aS/\(rep1 (t)).length<=aS/\(rep2 (rep1 (t))).length<=aS/\(rep3 (rep2 (rep1 (t)))).length<=aS/\(px (rep3 (rep2 (rep1 (t))))).length<=aS/\(sA (px (rep3 (rep2 (rep1 (t)))))).length<=aS/\(xi (sA (px (rep3 (rep2 (rep1 (t))))))).length<=aS/\(BK (xi (sA (px (rep3 (rep2 (rep1 (t)))))))).length<=aS/\(Hy (BK (xi (sA (px (rep3 (rep2 (rep1 (t))))))))).length<=aS
theorem SH(h:t.length<=aS)(sts:List VW):cn (cV aV fuel) cT aG (aw aB 1::sts) (cH t W)=cn (cV aV fuel) cT aG sts (cH (rep1 t) (cH t W)):=aF (cI (Lk.trans (Vh h)))
theorem SG(h:t.length<=aS)(sts:List VW):cn (cV aV fuel) cT aG (aw aB 2::sts) (cH t W)=cn (cV aV fuel) cT aG sts (cH (rep2 t) (cH t W)):=aF (cI (Lj.trans (Vh h)))
theorem SF(h:t.length<=aS)(sts:List VW):cn (cV aV fuel) cT aG (aw aB 3::sts) (cH t W)=cn (cV aV fuel) cT aG sts (cH (rep3 t) (cH t W)):=aF (cI (Li.trans (Vh h)))
theorem SE(h:t.length<=aS)(sts:List VW):cn (cV aV fuel) cT aG (aw aB 4::sts) (cH t W)=cn (cV aV fuel) cT aG sts (cH (px t) (cH t W)):=aF (cI (Lh.trans (Vh h)))
theorem SD(h:t.length<=aS)(sts:List VW):cn (cV aV fuel) cT aG (aw aB 5::sts) (cH t W)=cn (cV aV fuel) cT aG sts (cH (sA t) (cH t W)):=aF (cI (Lg.trans (Vh h)))
theorem SA(h:t.length<=aS)(sts:List VW):cn (cV aV fuel) cT aG (aw aB 6::sts) (cH t W)=cn (cV aV fuel) cT aG sts (cH (xi t) (cH t W)):=aF (cI (Lf.trans (Vh h)))
theorem Sz(h:t.length<=aS)(sts:List VW):cn (cV aV fuel) cT aG (aw aB 7::sts) (cH t W)=cn (cV aV fuel) cT aG sts (cH (BK t) (cH t W)):=aF (cI (Le.trans (Vh h)))
theorem Sy(h:t.length<=aS)(sts:List VW):cn (cV aV fuel) cT aG (aw aB 8::sts) (cH t W)=cn (cV aV fuel) cT aG sts (cH (Hy t) (cH t W)):=aF (cI (Ld.trans (Vh h)))
theorem Sx(h:t.length<=aS)(sts:List VW):cn (cV aV fuel) cT aG (aw aB 9::sts) (cH t W)=cn (cV aV fuel) cT aG sts (cH (Pe t) (cH t W)):=aF (cI (Lc.trans (Vh h)))
theorem HH(h:yu t)(sts:List VW):∃W',cn (cV aV fuel) cT aG (aw aB 1::aw aB 2::aw aB 3::aw aB 4::aw aB 5::aw aB 6::aw aB 7::aw aB 8::aw aB 9::sts) (cH t W)=cn (cV aV fuel) cT aG sts (cH (fY t) W'):=by refine ZaD h λc1 c2 c3 c4 c5 c6 c7 y0=>aU y0 λc8 c9=>⟨_,((SH c1 _).trans ((SG c2 _).trans ((SF c3 _).trans ((SE c4 _).trans ((SD c5 _).trans ((SA c6 _).trans ((Sz c7 _).trans ((Sy c8 _).trans (Sx c9 _)))))))))⟩
theorem SJ:mz cT:=by refine zo ⟨LX,i7,i7,i7,i7,i7,i7,i7,i7,i7,i7,trivial⟩
theorem Pl(hs:strsOf ds=Xd ys)(hj:iQ "-" ys=true)(hc:yu (dP "-" ys))(h1:ie fuel (fY (dP "-" ys))=Xd u)(h2:nM fuel u=Xd v):cn (cV aV fuel) cT aG aB (bq ["args"] [.tuple ds])=Xd (.ret (.str v)):=by
 have h0:cT aG (aw aB 0) (bq ["args"] [.tuple ds])=Xd (.next (cH (dP "-" ys) [(("args":VV),.val (.tuple ds))])):=by have:=Ll (ds:=ds);rw[hs]at this;exact this.trans (Vh hj)
 rw[HE,aF (cI h0)];refine aI (HH (aV:=aV) (fuel:=fuel) (W:=[(("args":VV),.val (.tuple ds))]) hc [.While (cC (aw aB 10)) (jO (aw aB 10)) [] (vm (aw aB 10)),.While (cC (aw aB 11)) (jO (aw aB 11)) [] (vm (aw aB 11)),.Return (Xd (cX (aw aB 12))) (fQ (aw aB 12))]) λW1 e1=>?_;rw[e1];refine aI (HG (aV:=aV) (fuel:=fuel) fuel _ u W1 h1) λW2 e2=>?_;have e2':ex (cV aV fuel) cT aG (.While (cC (aw aB 10)) (jO (aw aB 10)) [] (vm (aw aB 10))) (cH (fY (dP "-" ys)) W1)=Xd (.next (((("cleaned":VV),.val (.str u)))::cH u W2)):=Ax.trans e2;rw[aF (aN rfl e2')];refine oC SJ (bR.swap (by decide)) (aI (HF (aV:=aV) (fuel:=fuel) fuel u v ((("cleaned":VV),.val (.str u))::W2) h2) λW3 e3=>?_);show cn (cV aV fuel) cT aG _ (cH u ((("cleaned":VV),.val (.str u))::W2))=_;have e3':ex (cV aV fuel) cT aG (.While (cC (aw aB 11)) (jO (aw aB 11)) [] (vm (aw aB 11))) (cH u ((("cleaned":VV),.val (.str u))::W2))=Xd (.next (cH v W3)):=Ax.trans e3;rw[aF (aN rfl e3')];exact ed (aN rfl (eK (fU Pm))) (λv q=>by rcases q with⟨⟩)
end
section
variable {lsc:V5} {K:WH->Prop}
theorem Ex.chg{t:Nat}(x:Ex C aH s)(ha:aH.heap.get? a=Xe)(hn:∀o,s.heap.get? a=Xd o->∀vs,o.data≠.fields vs)(hs:Wy a s.heap h'):Ex C aH {s with heap:=h',toks:=t}:=by
 have keep:∀{b o},s.heap.get? b=Xd o->b≠a->h'.get? b=Xd o:=λe hb=>hs _ _ hb e;refine⟨λb o e nt nf=>keep (x.keep b o e nt nf) λq=>(by rw[q,ha]at e;exact aa e),λb o f e=>(av (x.nz b o f e) λo1 e1 d1=>⟨o1,keep e1 λq=>(by rw[q,ha]at e;exact aa e),d1⟩),λz=>?_⟩
 ·have z':=x.bs z;have hT:¬C.T a:=by refineλy0=>mr y0 λc p q m=>?_;rcases z.tab c a p q m with e|⟨_,e,_⟩<;>(rw[ha]at e;exact aa e)
  refine⟨λb o e nt=>keep (z'.keep b o e nt) λq=>?_,λc P p q m=>?_,z'.gens,z'.os,λb f=>(z'.alive b f).data λo e=>.of (keep e λq=>?_)⟩
  ·have:=z.keep b o e nt;rw[q,ha]at this;exact aa this
  ·have hP:P≠a:=λq'=>hT (q'▸⟨c,p,q,m⟩);refine Xa (z'.tab c P p q m) (λe=>.inl (keep e hP)) λy1=>?_
   ·refine av y1 λb e r=>.inr ⟨b,keep e hP,?_⟩;refine de r λb' o vs t' e1 e2 e3 e4=>?_;rcases e1 with⟨⟩;exact⟨b,o,vs,t',rfl,keep e2 (λq=>hn o (q▸e2) vs e3),e3,e4⟩
  ·subst q;refine kJ (z.alive b f) λo' y y e' y=>?_;rw[ha]at e';exact aa e'
theorem Ex.fresh(bs:Bs C aH)(x:Ex C aH s)(h:s.heap.get? a=Xe):aH.heap.get? a=Xe:=by
 cases e0:aH.heap.get? a with
 |none=>rfl
 |some o=>
  exfalso;by_cases t:C.T a
  ·refine mr t λc2 p2 q2 m=>?_;rcases(x.bs bs).tab c2 _ p2 q2 m with e'|⟨_,e',_⟩<;>(rw[h]at e';exact aa e')
  ·refine av (x.data e0 t) λo' e' y=>?_;rw[h]at e';exact aa e'
theorem B9{a b:List Dat}{Q:Bool->VY->Prop}(hu:A.units+100<cLine)(ra:Rep s.heap ai v (.list a))(rb:Rep s.heap ai u (.list b))(h:ij .Lt a b 0=Xd r)(hQ:Q r s):Vw (VB prog w) A (keyLt' oneType' v u) Q E s:=by
 refine de (bS (.rep ra)) ?_;rintro l y0 vs k1(rfl)ho hc y1;refine bD y1 λhn hd hr=>?_;obtain⟨c1,d1,Kp,w7⟩:=y0;refine de (bS (.rep rb)) ?_;rintro l2 y0 ws k2(rfl)o5 DW y1;refine bD y1 λhn2 hd2 vT=>?_;obtain⟨c2,d2,U2,uo⟩:=y0;simp only at hc hd DW hd2;subst hc hd DW hd2;rw[keyLt'_oneType,oneLt'_eq];simp only[if_true];refine Vt (wpAny_cRoomFor (aO 0x100164a0b02 hu) ?_);refine Vt (wpAny_callSpecialIfBound?_slot ⟨_,ho,rfl⟩ WD ?_);refine wpAny_call (codeAny_call_builtin WD.plain PySem.F.entry_list_lt (WD.check _ _ _ _ _ _ _ _ ⟨_,ho,rfl⟩ (PySem.F.args_list_lt_2 _ _) ?_));refine wpAny_mono (DL l l2 vs.toArray ws.toArray k1 k2 d1 d2 w7 uo h prog w A (λres s'=>res=.ok (.ret (.bool r))/\s'=s) s ⟨ho,o5,by exact aO 0x150a0b0164a0b02 hu,by simpa using hr,by simpa using vT,rfl,rfl⟩) (λfin s' hf=>?_) λx x hf=>by cases hf.1
 rcases fin with⟨⟩;case done f=>refine aU hf λe1 e2=>?_;rcases e1 with⟨⟩;subst e2;exact Vi hQ
 case again c=>refine⟨hf.1,codeAny_mono hf.2 λres s' Zby=>?_⟩;refine aU Zby λe1 e2=>?_;subst e1 e2;exact Vi hQ
theorem vP{α:Type}{cmp:Nat->Nat->(Bool->VY->Prop)->VY->Prop}{Q:α->VY->Prop}{P:α->Prop}(hc:∀i j(D:Bool->VY->Prop),i<N->j<N->D (f i j) s->cmp i j D s):∀(t:KasT α),Ks.gA N t P->Q (Ks.gG f t) s->t.kasWp cmp Q s| .ret a,_,h=>h| .ask i j k,x,h=>hc i j _ x.1 x.2.1 (vP hc (k (f i j)) (x.2.2 _) h)
theorem Ks.vQ{α:Type}{P:α->Prop}:∀(t:KasT α),Ks.gA N t P->P (Ks.gG f t)| .ret _,h=>h| .ask i j k,h=>Ks.vQ (k (f i j)) (h.2.2 _)
theorem range_getD(vs:List VO):(Yc vs.length).map (λi=>vs.getD i .none)=vs:=by refine List.ext_getElem (by simp) λi h1 h2=>?_;rw[List.getElem_map,List.getElem_range,Ze,Y9 h2];rfl
theorem De{ks:List VO}(hl:ks.length=vs.length):(ks.toArray.zip vs.toArray).map (·.2)=vs.toArray:=by apply Array.toList_inj.mp;simp[List.map_snd_zip,hl]
theorem qm(h:n<2):Ks.dk g n=Yc n:=Vh h
theorem qo(h:¬n<2):Ks.dk g n=(Ks.gG g (kas_sort n)).toList:=Vg h
theorem lL{ks:List VO}{i:Nat}{v:VO}(h:ks[i]?=Xd v):ks.getD i .none=v:=by rw[Ze,h];rfl
theorem BJ{h:Wz}{ai:W8->Prop}{ks:List VO}{kd:List (List Dat)}(rk:aK h ai ks (kd.map .list)){i:Nat}(hi:i<kd.length):Rep h ai (ks.getD i .none) (.list kd[i]):=by refine av (rk.get (i:=i) (d:=.list kd[i]) (by simp[hi])) λv hv hr=>?_;rw[lL hv];exact hr
end
section
variable {lsc:V5}
noncomputable def Tu{β:Type}(o:Option Dat)(f:List Dat->Option β):Option β:=match o with
 |some (.list u)=>f u|_=>Xe
set_option tactic.hygienic true in
theorem Ii{β:Type}{o:Option Dat}{f:List Dat->Option β}{u:β}{P:Prop}(h:Tu o f=Xd u)(k:∀v,o=Xd (.list v)->f v=Xd u->P):P:=by
 cases o with
 |none=>exact aa h
 |some d=>
  rcases d with⟨⟩;case list v=>exact k v rfl h
  all_goals exact aa h
def lC(kd:List (List Dat)):Bool:=kd.all λx=>kd.all λy=>(ij .Lt x y 0).isSome
def NN(kd:List (List Dat))(i j:Nat):Bool:=((kd[i]?).bind λx=>(kd[j]?).bind λy=>ij .Lt x y 0).getD false
theorem HU(h:lC kd=true):∀i j x y,kd[i]?=Xd x->kd[j]?=Xd y->ij .Lt x y 0=Xd (NN kd i j):=λi j x y hx hy=>by
 delta lC at h;simp only[Zw]at h;have:=h x (Yo hx) y (Yo hy);delta NN;refine xR hx (xR hy ?_);dsimp only[Xh];cases e:ij .Lt x y 0 with
 |none=>replace this:=e▸this;(rcases this with⟨⟩)
 |some b=>rfl
end
theorem bindVar{a:Arg}:bindArgs (WK name ⟨[],[],Xd a,[],[],Xe,[]⟩ body scope pm cd doc) ⟨vs,[]⟩=(newTuple vs>>=λt=>pure [(a.arg,t)]):=by cases vs with|nil=>kernel_rfl|cons v vs=>kernel_rfl
def oQ(t:VV):Bool:=decide ((t).length<=aS/\(rep1 (t)).length<=aS/\(rep2 (rep1 (t))).length<=aS/\(rep3 (rep2 (rep1 (t)))).length<=aS/\(px (rep3 (rep2 (rep1 (t))))).length<=aS/\(sA (px (rep3 (rep2 (rep1 (t)))))).length<=aS/\(xi (sA (px (rep3 (rep2 (rep1 (t))))))).length<=aS/\(BK (xi (sA (px (rep3 (rep2 (rep1 (t)))))))).length<=aS/\(Hy (BK (xi (sA (px (rep3 (rep2 (rep1 (t))))))))).length<=aS)
theorem CQ{t:VV}(h:oQ t=true):yu t:=by unfold oQ at h;have:=U9 h;exact this
def Lp(ys:List VV):Option VV:=if iQ "-" ys&&oQ (dP "-" ys)then(ie ((dP "-" ys).length+2) (fY (dP "-" ys))).bind λu=>nM ((dP "-" ys).length+2) u else Xe
def NJ(ds:List Dat):Option Dat:=(strsOf ds).bind λys=>(Lp ys).map .str
theorem Sw:kS aG:=⟨rfl,rfl,rfl,by decide +kernel,by decide +kernel⟩
def OX(a:Arguments):Arg:=a.vararg.getD ⟨"",Xe,df⟩
theorem Ln:argsAt pw Ro=⟨[],[],Xd (OX (argsAt pw Ro)),[],[],Xe,[]⟩:=by rfl
theorem uB:∀{ds:List Dat}{ys:List VV},strsOf ds=Xd ys->ys.length=ds.length:=by
 intro ds;induction ds with
 |nil=>intro ys h;obtain rfl:=Xc h;rfl
 |cons d ds ih=>
  intro ys h;rcases d with⟨⟩;case str=>exact ba h λzs e q=>q▸Ve (·+1) (ih e)
  all_goals exact aa h
theorem Pk(hC:C.Plain)(yR:∃bm ob,BMod C.h₀ mainGlobals C.mg bm ob)(Ap:p.line=(nc (aw aB 0)).line)(Ud:p.col=(nc (aw aB 0)).col)(ht:iX C c2 P p "_platform.<locals>.<genexpr>")(fr:W8->Prop):dY (C.at fr) n (kI (C.at fr) (.ref c2) "_platform") cT:=by refine nN ?_;exact⟨xU (hC.at fr) yR (name:="_platform") ⟨ht.mem,ht.code,ht.uniq⟩ rfl Ap.symm Ud.symm rfl rfl rfl rfl,i6 rfl rfl (by decide),i6 rfl rfl (by decide),i6 rfl rfl (by decide),i6 rfl rfl (by decide),i6 rfl rfl (by decide),i6 rfl rfl (by decide),i6 rfl rfl (by decide),i6 rfl rfl (by decide),i6 rfl rfl (by decide),i6 rfl rfl (by decide),trivial⟩
theorem SI(hC:C.Plain)(yR:∃bm ob,BMod C.h₀ mainGlobals C.mg bm ob)(hp:Re.fM C.h₀ aV c)(hg:C.mg "_twin_re_1"=Xd (.ref aV))(Ap:p.line=(nc (aw aB 0)).line)(Ud:p.col=(nc (aw aB 0)).col)(ht:iX C c2 P p "_platform.<locals>.<genexpr>")(hD:cF C "_platform" (argsAt pw Ro) aB aG (.ref c2)):oZ C (n+1) "_platform" NJ:=by
 refine de hD λa o pm doc h1 h2 h3 y0=>aU y0 λh4 h5=>⟨a,o,_,h1,by decide,hC.ok.d7 h2 h3,h2,h4,λ{A s ai vs ds d}hA bs V rs h=>?_⟩;unfold NJ at h;cases hs:strsOf ds with
 |none=>rw[hs]at h;exact aa h
 |some ys=>
  rw[hs]at h;simp only[Xh]at h;cases hv:Lp ys with
  |none=>rw[hv]at h;exact aa h
  |some v=>
   rw[hv]at h;obtain rfl:=Xc h;unfold Lp at hv;split at hv
   ·rename_i gC;simp only[ZV]at gC;cases hu:ie ((dP "-" ys).length+2) (fY (dP "-" ys))with
    |none=>rw[hu]at hv;exact aa hv
    |some u=>
     rw[hu]at hv;simp only[Xh]at hv;have II:=Pl (aV:=aV) hs gC.1 (CQ gC.2) hu hv;have cU:ds.length<=aS:=by have:=gC.1;unfold iQ at this;simp only[ZV,Vc]at this;rw[<-uB hs];exact this.1.1
     refine AQ (us:=[.ref s.heap.objs.size]) hC.ok (λfr=>lD) (λfr=>pK (hC.at fr) hp hg) (λfr=>Dr (hC.at fr)) (λx=>jK rfl) (λ{fr A ag}FT hK=>Pk hC yR Ap Ud ht fr FT hK) (hC.ok.d7 h2 h3) h2 h4 h5 Sw (by decide) (by decide +kernel) rfl hA bs V ?_ II
     ·rw[Ln,bindVar];refineλE Q q=>ab (aq (wpAny_newTuple ?_ (by rw[rs.length];exact bK cU)));have x1:Ex C s {s with heap:=s.heap.push {cls:=.type "tuple",data:=.seq vs.toArray}}:=.of_keep (λx x e=>Wu _ e) rfl rfl;exact ao (q _ _ x1 ⟨rfl,.cons (.tuple (V.new (aJ _)) (Wt _ rfl) rfl rfl (rs.ex V x1)) .nil⟩)
   ·exact aa hv
section
variable {Ψ:yT} {st:VW} {sts:List VW} {fl:Fl}
def ph(Φ:fO)(Ψ:yT)(sc:V5)(body:List VW)(xs:List VV)(ds:List Dat):Option Dat:=if xs.length=ds.length then match cn Φ Ψ sc body (bq xs ds)with
  |some (.ret d)=>Xd d|_=>Xe
 else Xe
theorem iO(hl:xs.length=ds.length)(h:cn Φ Ψ sc body (bq xs ds)=Xd (.ret d)):ph Φ Ψ sc body xs ds=Xd d:=by unfold ph;rw[Vh hl,h]
set_option tactic.hygienic true in
theorem gO(ds:List Dat)(d:Dat)(h:ph Φ Ψ sc body xs ds=Xd d):xs.length=ds.length/\cn Φ Ψ sc body (bq xs ds)=Xd (.ret d):=by
 unfold ph at h;split at h
 ·rename_i hl;refine⟨hl,?_⟩;split at h
  ·rename_i r hr;obtain rfl:=Xc h;exact hr
  ·exact aa h
 ·exact aa h
def Nr(A B:ax)(l:List VV):Prop:=(l.map λx=>A.lookup x)=l.map λx=>B.lookup x
theorem lookup_none:∀{A:ax},x∉A.map (·.1)->A.lookup x=Xe:=by
 intro A;induction A with
 |nil=>exactλ_=>rfl
 |cons y0 A ih=>intro h;obtain⟨y,s⟩:=y0;have h1:x≠y:=λq=>h (q▸Yu);rw[aC h1];exact ih λq=>h (Yv _ q)
theorem bR.gz{A B:ax}(h:Nr A B (A.map (·.1)++B.map (·.1))):bR A B:=λx=>by
 by_cases hx:x∈A.map (·.1)++B.map (·.1)
 ·exact List.map_inj_left.mp h x hx
 ·rw[lookup_none λq=>hx (Yy _ q),lookup_none λq=>hx (Yx _ q)]
noncomputable def jv(t:VV):Option Dat->ax|none=>[]|some d=>[(t,.val d)]
theorem bR.over{t:VV}{s:Slot}(h:bR V (jv t J++B)):bR ((t,s)::V) ((t,s)::B):=by
 refine(h.cons t s).trans ?_;rcases J with⟨⟩;case none=>exact .refl _
 case some=>exact bR.shadow
def jV(Φ:fO)(Ψ:yT)(sc:V5)(t:Expr)(body:List VW):Dat->ax->Option Fl:=λd vs=>match bL sc t d vs with
      |none=>Xe|some vs=>cn Φ Ψ sc body vs
theorem I7{t:VV}{α:Type}(hg:mz Ψ)(ht:∀d V,bL sc te d V=Xd ((t,.val d)::V))(base:α->ax)(I:List Dat->α->Prop)(step:∀done d rest a,ar=done++d::rest->I done a->∃a' W,cn Φ Ψ sc body ((t,.val d)::base a)=Xd (.next W)/\bR W ((t,.val d)::base a')/\I (done++[d]) a'):∀(rest done:List Dat)(V:ax)(a:α)(J:Option Dat),ar=done++rest->bR V (jv t J++base a)->I done a->∃V' J' a',d9 (jV Φ Ψ sc te body) rest V=Xd (.next V')/\(J.isSome=true\/rest≠[]->J'.isSome=true)/\bR V' (jv t J'++base a')/\I ar a':=by
 intro rest;induction rest with
 |nil=>exactλdone V a J hi hV hI=>⟨V,J,a,rfl,λh=>h.resolve_right λq=>q rfl,hV,by rw[hi,Zu];exact hI⟩
 |cons d ds ih=>
  refineλdone V a J hi hV hI=>er (step done d ds a hi hI) λa1 W h1 h2 h3=>av (ju hg hV.over h1) λW' h4 h5=>jg (ih (done++[d]) W' a1 (Xd d) (by rw[hi];simp) (h5.trans h2) h3) λV' J' a' h6 h9 h7 h8=>⟨V',J',a',?_,λx=>h9 (.inl rfl),h7,h8⟩;rw[eB]
  ·exact h6
  ·show(match bL sc te d V with
      |none=>Xe|some vs=>cn Φ Ψ sc body vs)=_
   rw[ht];exact h4
theorem yf(hz:Φ.uu "zip"=Xe)(h:ev Φ sc it ae=Xd src)(hi:bP src=Xd ar):ex Φ Ψ sc (.For t it b [] p) ae=d9 (jV Φ Ψ sc t b) ar ae:=yg (q9 hz) (fU h) hi
theorem A2{a b:Int}(ha:aM a=true)(hb:aM b=true):my .Mult (.int a) (.int b)=Xd (.int (a*b)):=by show(if aM a&&aM b then Xd (Dat.int (a*b))else Xe)=_;rw[ha,hb];rfl
theorem oU{a b:Int}:my .Add (.int a) (.int b)=Xd (.int (a+b)):=rfl
theorem ua{a b:Int}:my .Sub (.int a) (.int b)=Xd (.int (a-b)):=rfl
theorem oT{a b:Int}(hb:b≠0):my .Mod (.int a) (.int b)=Xd (.int (a.fmod b)):=by show(if b=0 then Xe else Xd (Dat.int (a.fmod b)))=_;rw[Vg hb]
theorem A3{a b:Int}(hb:b≠0)(hs:b.natAbs<1073741824):my .FloorDiv (.int a) (.int b)=Xd (.int (a.fdiv b)):=by show(if b=0\/¬b.natAbs<1073741824 then Xe else Xd (Dat.int (a.fdiv b)))=_;rw[Vg (by simp[hb];exact hs)]
theorem jk{a:Int}(h1: -1000000<=a)(h2:a<=1000000):aM a=true:=cG.mpr ⟨Int.lt_of_lt_of_le (by decide +kernel) h1,ZE h2 (by decide +kernel)⟩
theorem Ie(h:aY.length+1<=aS):sP "append" (.list aY) [d]=Xd (.list (aY++[d])):=by unfold sP;dsimp only;rw[Vh rfl,Vh h]
theorem z2{α β:Type}{f:α->Option (List β)}{g:α->List β}:∀{l:List α},(∀a∈l,f a=Xd (g a))->bN f l=Xd (l.flatMap g):=by intro l;induction l with|nil=>intro _;exact rfl|cons a l ih=>intro h;show((f a).bind λbs=>(bN f l).bind λcs=>Xd (bs++cs))=_;rw[h a Yu,Xh,ih λb hb=>h b (Yv _ hb)];rfl
theorem B6{α β:Type}{f:α->Option (List β)}{g:α->β}{l:List α}(h:∀a∈l,f a=Xd [g a]):bN f l=Xd (l.map g):=by rw[z2 h];congr 1;induction l with|nil=>rfl|cons a l ih=>rw[Zg,YC,ih λb hb=>h b (Yv _ hb)];rfl
def bQ(op:Operator)(x y:Option Dat):Option Dat:=x.bind λa=>y.bind λb=>my op a b
noncomputable def eF(g:List Dat->Option Dat)(x:Option Dat):Option Dat:=(x.bind λd=>Xd [d]).bind g
def cP(g:List Dat->Option Dat)(x:Option Dat):Option Dat:=((x.map one).bind λxs=>Xd (xs++[])).bind g
def cb(src:Option Dat)(f:Dat->Option (List Dat)):Option Dat:=src.bind λsrc=>(bP src).bind λar=>(bN f ar).bind AO
def dI(x:Option Dat):Option (List Dat):=x.map one
theorem cS{a:Dat}:cP g (Xd a)=g [a]:=rfl
theorem b7{op:Operator}{a b:Dat}:bQ op (Xd a) (Xd b)=my op a b:=rfl
theorem eE{a:Dat}:eF g (Xd a)=g [a]:=rfl
theorem fj{src:Dat}{ar:List Dat}{f:Dat->Option (List Dat)}{g:Dat->Dat}(hi:bP src=Xd ar)(hf:∀d∈ar,f d=Xd [g d])(hl:ar.length<=aS):cb (Xd src) f=Xd (.list (ar.map g)):=by show((bP src).bind λar=>(bN f ar).bind AO)=_;rw[hi,Xh,B6 hf];show(if(ar.map g).length<=aS then Xd (Dat.list (ar.map g))else Xe)=_;rw[Vh (by rw[YN];exact hl)]
noncomputable def Zat(x:Option Dat):Option (List Dat):=x.bind λd=>Xd [d]
def Tc(m x:VV)(a:Dat)(e:Option (List Dat))(V:ax):Option Fl:=e.bind λds=>(sP m a ds).map λa'=>.next ((x,.own a')::V)
theorem Ib(h:aY.length+1<=aS):Tc "append" x (.list aY) (Zat (Xd d)) V=Xd (.next ((x,.own (.list (aY++[d])))::V)):=by show(sP "append" (.list aY) [d]).map (λa'=>Fl.next ((x,Slot.own a')::V))=_;rw[Ie h];rfl
def wY(ds:List Dat)(lo hi st m:Int):Option Dat:=eF sumF (cb (fe (.list ds) (Xd lo) (Xd hi) (Xd st)) λd=>dI (my .Mod d (.int m)))
theorem FJ(is:List Int)(lo hi st:Option Int):pick (is.map Dat.int) lo hi st=(pick is lo hi st).map .int:=by unfold pick;simp only[YN];generalize sliceRange _ _ _=l;induction l with|nil=>rfl|cons k l ih=>rw[Zj,Zj,YZ,ih];cases is[k]? <;>rfl
theorem EU:∀is:List Int,is.length<=aS->∃z:Int,sumF [.list (is.map .int)]=Xd (.int z):=by
 intro is hl;have h:intsOf (is.map .int)=Xd is:=by clear hl;induction is with|nil=>rfl|cons i is ih=>show(intsOf (is.map .int)).map (i::·)=_;rw[ih];rfl
 refine⟨is.sum,?_⟩;show(intsOf (is.map .int)).map (λns=>Dat.int ns.sum)=_;rw[h];rfl
noncomputable def onI(f:Int->Dat):Dat->Dat| .int i=>f i|d=>d
theorem ET{is:List Int}{lo hi st m:Int}(hl:is.length<=63)(hm:m≠0)(GF:st≠0)(h1:aM lo=true)(h2:aM hi=true)(h3:aM st=true):∃z:Int,wY (is.map .int) lo hi st m=Xd (.int z):=by
 have hs:fe (.list (is.map .int)) (Xd lo) (Xd hi) (Xd st)=Xd (.list ((pick is (Xd lo) (Xd hi) (Xd st)).map .int)):=by show(if(Xd st=Xd (0:Int)\/(Xd lo).all aM=false\/(Xd hi).all aM=false\/(Xd st).all aM=false)then Xe else(if(is.map Dat.int).length<=aS then Xd (Dat.list (pick (is.map Dat.int) (Xd lo) (Xd hi) (Xd st)))else Xe))=_;rw[Vg (by simp[GF,h1,h2,h3]),Vh (by rw[YN];unfold aS;exact aZ 0xf42408f013fa012 hl),FJ]
 have hp:=zL is (Xd lo) (Xd hi) (Xd st) (by simpa using GF);unfold wY;rw[hs,fj (g:=onI λx=>Dat.int (x.fmod m)) rfl (λa ha=>by refine av (Yr.mp ha) ?_;rintro x _(rfl);rw[oT hm];rfl) (by rw[YN];unfold aS;exact aO 0xf42408f110113fa013 hl hp),eE,YB];have:=EU ((pick is (Xd lo) (Xd hi) (Xd st)).map λx=>x.fmod m) (by rw[YN];unfold aS;exact aO 0xf42408f110113fa013 hl hp);rw[YB]at this;exact this
end
noncomputable def fD(p:VV×Dat):List Dat:=[.str p.1,p.2]
noncomputable def fV(p:(VV×Tok)×VO):List VO:=[.str p.1.1 p.1.2,p.2]
noncomputable def putD(m:List (VV×Dat))(k:VV)(d:Dat):List (VV×Dat):=if m.any (λp=>p.1=k)then m.map (λp=>if p.1=k then(p.1,d)else p)else m++[(k,d)]
def kR(qs:List (VV×Dat)):List (VV×Dat):=qs.foldl (λm p=>putD m p.1 p.2) []
noncomputable def A9(ps:List ((VV×Tok)×VO)):List (VV×VO):=ps.foldl (λm p=>stored m p.1.1 p.2) []
def ZD(D:W8)(h:Wz)(vs:List VO):Prop:=∃ps:List ((VV×Tok)×VO),vs=ps.flatMap fV/\h.DictOf (strKind pw Wd) D (A9 ps)
theorem ZD.oX:um (ZD D) D:=⟨λx k=>by
 refine av x λps e y=>kJ y λo es ep ho r=>⟨ps,e,o,es,ep,k o ho,r⟩,λx=>by
 refine av x λps e y=>(qP y λo es ep ho he r=>⟨o,ho,.inr ⟨es,ep,r.1⟩⟩)⟩
theorem O9{k:VV}(r:Rep h ai v d):∀(m:List (VV×VO))(n:List (VV×Dat)),m.map (·.1)=n.map (·.1)->aK h ai (m.map (·.2)) (n.map (·.2))->(m.map λp=>if p.1=k then(p.1,v)else p).map (·.1)=(n.map λp=>if p.1=k then(p.1,d)else p).map (·.1)/\aK h ai ((m.map λp=>if p.1=k then(p.1,v)else p).map (·.2)) ((n.map λp=>if p.1=k then(p.1,d)else p).map (·.2)):=by
 intro m;induction m with
 |nil=>
  intro n hk hr;rcases n with⟨⟩|⟨q,n⟩
  ·exact⟨rfl,.nil⟩
  ·exact nomatch hk
 |cons p m ih=>
  intro n hk hr;rcases n with⟨⟩|⟨q,n⟩
  ·exact nomatch hk
  ·rw[YC,YC,List.cons.injEq]at hk;cases hr with|cons r1 rs=>?_
   have z:=ih n hk.2 rs;rw[YC,YC,YC,YC,YC,YC,z.1,hk.1];by_cases e:q.1=k
   ·rw[Vh e,Vh e];exact⟨rfl,.cons r z.2⟩
   ·rw[Vg e,Vg e];exact⟨by rw[hk.1],.cons r1 z.2⟩
theorem Ph{k:VV}(r:Rep h ai v d){m:List (VV×VO)}{n:List (VV×Dat)}(hk:m.map (·.1)=n.map (·.1))(hr:aK h ai (m.map (·.2)) (n.map (·.2))):(stored m k v).map (·.1)=(putD n k d).map (·.1)/\aK h ai ((stored m k v).map (·.2)) ((putD n k d).map (·.2)):=by
 have ha:(m.any λp=>p.1=k)=n.any λp=>p.1=k:=by
  have e1:(m.any λp=>p.1=k)=(m.map (·.1)).any λy=>y=k:=by rw[List.any_map];rfl
  have e2:(n.any λp=>p.1=k)=(n.map (·.1)).any λy=>y=k:=by rw[List.any_map];rfl
  rw[e1,e2,hk]
 unfold stored putD;rw[ha];by_cases hc:(n.any λp=>p.1=k)=true
 ·rw[Vh hc,Vh hc];exact O9 r m n hk hr
 ·rw[Vg hc,Vg hc,YE,YE,YE,YE,hk];exact⟨rfl,hr.append (.cons r .nil)⟩
theorem Nn:∀(ps:List ((VV×Tok)×VO))(qs:List (VV×Dat))(m:List (VV×VO))(n:List (VV×Dat)),aK h ai (ps.flatMap fV) (qs.flatMap fD)->m.map (·.1)=n.map (·.1)->aK h ai (m.map (·.2)) (n.map (·.2))->(ps.foldl (λm p=>stored m p.1.1 p.2) m).map (·.1)=(qs.foldl (λm p=>putD m p.1 p.2) n).map (·.1)/\aK h ai ((ps.foldl (λm p=>stored m p.1.1 p.2) m).map (·.2)) ((qs.foldl (λm p=>putD m p.1 p.2) n).map (·.2)):=by
 intro ps;induction ps with
 |nil=>
  intro qs m n rs hk hr;rcases qs with⟨⟩|⟨q,qs⟩
  ·exact⟨hk,hr⟩
  ·(rcases rs with⟨⟩)
 |cons p ps ih=>
  intro qs m n rs hk hr;rcases qs with⟨⟩|⟨q,qs⟩
  ·(rcases rs with⟨⟩)
  ·replace rs:aK h ai (.str p.1.1 p.1.2::p.2::ps.flatMap fV) (.str q.1::q.2::qs.flatMap fD):=rs;cases rs with|cons r1 rs=>?_
   cases rs with|cons r2 rs=>?_
   refine aI r1.i5 λt e=>?_;have e1:p.1.1=q.1:=by rcases p with⟨⟨a,b⟩,c⟩;rcases e with⟨⟩;rfl
   rw[List.foldl_cons,List.foldl_cons];have z:=Ph (k:=q.1) r2 hk hr;rw[e1];exact ih qs _ _ rs z.1 z.2
theorem zip_fst_snd:∀m:List (VV×VO),(m.map (·.1)).zip (m.map (·.2))=m|[]=>rfl|p::m=>Ve (p::·) (zip_fst_snd m)
def dictOf(qs:List (VV×Dat)):Dat:=.dict ((kR qs).map (·.1)) ((kR qs).map (·.2))
theorem ZD.fin{qs:List (VV×Dat)}(x:ZD D h vs)(hv:¬ai D)(r:aK h ai vs (qs.flatMap fD)):Rep h ai (.ref D) (dictOf qs):=by
 refine av x ?_;rintro ps(rfl)y;have z:=Nn ps qs [] [] r rfl .nil;refine .dict (vs:=(A9 ps).map (·.2)) hv ?_ ?_ z.2
 ·have e:(kR qs).map (·.1)=(A9 ps).map (·.1):=z.1.symm;rw[e,zip_fst_snd];exact y
 ·rw[YN];exact(z.2.length.trans (YN ..)).symm
theorem Ep:∀(ps:List ((VV×Tok)×VO))(m:List (VV×VO)),(ps.foldl (λm p=>stored m p.1.1 p.2) m).length<=m.length+ps.length|[],m=>Xz _|p::ps,m=>by have h1:=Ep ps (stored m p.1.1 p.2);have h2:=stored_length_le m p.1.1 p.2;rw[List.foldl_cons,YS];exact Xy h1 (by lia)
theorem vY:∀ps:List ((VV×Tok)×VO),(ps.flatMap fV).length=2*ps.length|[]=>rfl|p::ps=>by rw[Zg,YT,vY ps,YS,Nat.mul_succ,XJ];rfl
noncomputable def QB(k v:Expr)(D:W8)(ag:WH)(c:Code):V0 WB:=(eval k ag>>=λkv=>holding [kv] (eval v ag)>>=λvv=>standAt {k.pos with endLine:=v.pos.endLine,endCol:=v.pos.endCol}>>=λx=>holding [kv,vv] (dictSet D kv vv))>>=λx=>again c
theorem yt(k v:Expr)(scope:V5)(pos:Pos)(t itE:Expr)(it:VO)(D:W8)(ag:WH):compTurn (.DictComp k v [⟨t,itE,[],0⟩] scope pos) 0 it (.ref D) ag=(standAt itE.pos>>=λx=>pyNext it>>=λr=>match r with
   |none=>pure (.done .next)|some u=>letOwnedTupleGo t it u>>=λx=>assign t ag u>>=λx=>AU [] ag (QB k v D ag (.compLoop (.DictComp k v [⟨t,itE,[],0⟩] scope pos) 0 it (.ref D) ag)) (.compLoop (.DictComp k v [⟨t,itE,[],0⟩] scope pos) 0 it (.ref D) ag)):=by
 delta compTurn
 refine Ve _ (funext λx=>Ve _ (funext λr=>?_))
 rcases r with⟨⟩<;>rfl
def mF(a b:Option Dat):Option (VV×Dat):=a.bind λkd=>(El kd).bind λkey=>b.map λvd=>(key,vd)
theorem ML{e0 ke ve:Expr}(hk:fz C Φ A ke)(hv:fz C Φ A ve)(fx:kT C ai ag sc D A):rN C A ai ag sc (ZD D) D I e0 0 (QB ke ve D ag (.compLoop e0 0 (.ref I) (.ref D) ag)) (λvs=>(mF (ev Φ sc ke vs) (ev Φ sc ve vs)).map fD):=λ{ae out aY vs s}st hf hl Q E hQ=>ba hf λp hf Uu=>ak hf λkd h1 hf=>ak hf λkey h2 hf=>ba hf λvd h3 hf=>by
 subst hf Uu
 obtain rfl:=qc h2
 unfold QB
 refine ab (ab (hk fx.RH st.bO h1 _ _ λkv s3 x3 r3=>?_))
 have jF:=st.ex ZD.oX fx x3
 refine ab (az (hv fx.RH jF.bO h3 _ _ λvv s4 x4 r4=>?_))
 have KO:=jF.ex ZD.oX fx x4
 have r3':=r3.ex jF.bO.vo x4
 refine aI r3'.i5 ?_;rintro tk(rfl)
 refine ab (au (az ?_))
 refine av (id KO.at_) λps e hd=>?_
 have hlen:(A9 ps).length<=aS:=by have h1:=Ep ps [];have h2:=KO.xh.length;rw[e,vY]at h2;have h3:=hl;have h4:([]:List (VV×VO)).length=0:=rfl;rw[h4]at h1;unfold A9;lia
 refine aq (wpAny_dictSet_pairs (strKind_is pw Wd key tk) hd (λh' di hs=>ao ?_) (bK hlen))
 refine aU (KO.grown (k:=s4.toks+1) ZD.oX fx (.cons r3' (.cons r4 .nil)) ⟨ps++[((key,tk),vv)],?_,?_⟩ hs) λx5 NC=>hQ _ _ ((x3.KD.trans x4.KD).trans x5) NC
 ·rw[e,Zh];rfl
 ·have:A9 (ps++[((key,tk),vv)])=stored (A9 ps) key vv:=by unfold A9;rw[List.foldl_append];rfl
  rw[this];exact di
theorem z5{f:Dat->Option (List Dat)}{g:Dat->Option (List (VV×Dat))}(h:∀d qs,g d=Xd qs->f d=Xd (qs.flatMap fD)):∀(ar:List Dat)(qs:List (VV×Dat)),bN g ar=Xd qs->bN f ar=Xd (qs.flatMap fD):=by
 intro ar;induction ar with
 |nil=>intro qs hm;obtain rfl:=Xc hm;rfl
 |cons d ar ih=>refineλqs hm=>er (qx hm) ?_;rintro b c h1 h2(rfl);rw[Zh];show(f d).bind _=_;rw[h d b h1,Xh,ih c h2];rfl
def dcG(Φ:fO)(bC:V5)(t ke ve:Expr)(ae:ax)(d:Dat):Option (List (VV×Dat)):=(bL bC t d ae).bind λaW=>(mF (ev Φ bC ke aW) (ev Φ bC ve aW)).map λp=>[p]
theorem F4{ke ve:Expr}(hA:dD C n A)(hk:fz C Φ A ke)(hv:fz C Φ A ve)(e:aR ag sc)(i:In C ai ag ae s)(gC:jc sc bC=true)(o6:freshT (bJ bC ae) t=true)(IG:∀x,foldedSetIterable it ag x=pure x)(lI:Wp C A (eval it ag) (λv s'=>bl s'.heap ai v src) s)(hit:bP src=Xd ar){qs:List (VV×Dat)}(hm:bN (dcG Φ bC t ke ve (bJ bC ae)) ar=Xd qs)(hl:(qs.flatMap fD).length<=aS)(K:∀L D s',Ex C s s'->Rep s'.heap (λa=>ai a\/a=L) (.ref D) (dictOf qs)->s.heap.get? L=Xe->(∃m,s'.heap.Ns L m)->fX (VB pw Wd) A E use Q (.ref D) L (.ok .next) s'):aP (VB pw Wd) A (comprehension (.DictComp ke ve [⟨t,it,[],0⟩] bC pos) bC ag pos' newDict false (eval it ag) use) Q E s:=wm CO rfl (λD=>ZD.oX) (λq=>aq <|Vm q (Xk _)) (λ{h D}e=>⟨[],rfl,_,#[],0,e,⟨rfl,rfl,rfl⟩,rfl,(λ_ he=>by simp at he),.nil,.nil⟩) rfl (yt _ _ _ _ _ _ _ _ _) hA.handled e i gC IG lI hit (kr Φ bC t [] (bJ bC ae) λvs=>(mF (ev Φ bC ke vs) (ev Φ bC ve vs)).map fD) (z5 (λd qs h=>ak h λv1 h1 h=>ba h λp h2 h=>by subst h;show(bL bC t d (bJ bC ae)).bind _=_;rw[h1,Xh];show((mF (ev Φ bC ke v1) (ev Φ bC ve v1)).map fD)=_;rw[h2];rfl) ar qs hm) hl (λg9 dy D I fx=>pX ZD.oX hA fx (λx hx=>nomatch hx) o6 (ML hk hv fx)) (λx hv r=>x.fin hv r) K
def RJ(Φ:fO)(sc bC:V5)(t it ke ve:Expr)(ae:ax):Option Dat:=if jc sc bC=true/\freshT (bJ bC ae) t=true then(orOwn it ae (ev Φ sc it ae)).bind λsrc=>(bP src).bind λar=>(bN (dcG Φ bC t ke ve (bJ bC ae)) ar).bind λqs=>if(qs.flatMap fD).length<=aS then Xd (dictOf qs)else Xe else Xe
def Js(Φ:fO)(x:VV)(bC:V5)(t it ke ve:Expr):nu:=λsc ae=>(RJ Φ sc bC t it ke ve ae).bind λd=>(bV sc x (.val d) ae).map .next
theorem D6{ke ve:Expr}(hC:C.Ok)(hO:cA C n)(hF:cu C Φ n):wF C n K (.Assign [.Name x xp] (.DictComp ke ve [⟨t,it,[],0⟩] bC p) pos,Js Φ x bC t it ke ve):=λ{A ag}hA hK{aj sc ae W ad s fl}e S hD h E Q hQ=>
 ak h λd hd h=>ba h λbX hb Ct=>aL hd λgC hd=>ak hd λsrc lI hd=>ak hd λar hit hd=>ak hd λqs hm hd=>aL hd λcU hd=>by
 subst Ct;obtain rfl:=Xc hd;have hQ':∀s',Goes C aj ag sc W s bX s'->Q .next s':=λs' g=>hQ _ _ ⟨rfl,g⟩
 have core:∀{use:Option (VO->V0 Unit)}{Q:VO->VY->Prop}{E:VO->VY->Prop},(∀L D s',Ex C s s'->Rep s'.heap (λa=>(aj a\/W a)\/a=L) (.ref D) (dictOf qs)->s.heap.get? L=Xe->(∃m,s'.heap.Ns L m)->fX (VB pw Wd) A E use Q (.ref D) L (.ok .next) s')->aP (VB pw Wd) A (comprehension (.DictComp ke ve [⟨t,it,[],0⟩] bC p) bC ag it.pos newDict false (eval it ag) use) Q E s:=λK=>F4 hA (bZ hC hO hF hA ke) (bZ hC hO hF hA ve) e S.bO gC.1 gC.2 (fq (fF lI)) (dO (bZ hC hO hF hA it) e S.bO lI) hit hm cU K;have IE:∃b,swapsWith (.DictComp ke ve [⟨t,it,[],0⟩] bC p) (Xd (.Name x xp)) pos.line ag=pure b:=⟨_,rfl⟩;refine aI IE λb IE=>?_;cases b with|false=>refine bG (core (qL S.bO λa s1 x1 r1=>?_)) IE rfl;exact ab (au (fo e (S.ex x1) hD hb r1 λs2 m2 S2 Qn u=>hQ' s2 ⟨W,ad,(Mv.iG x1).trans m2,S2,Qn⟩))|true=>rw[exec_Assign_Name_used x xp _ pos IE];refine ab (au (ab (ab (core λL D s1 x1 r1 hL kf=>?_))));exact aE (oO e S hD (λa q=>q) hb hQ' L D s1 x1 r1 hL kf) (λz s2⟨m,h1,h2⟩=>⟨m,h1,λh' hs=>ao (h2 h' hs)⟩) λz z q=>q
theorem Ho{vs:List VO}{T:VO}{g:Nat->Nat->Bool}{m:Nat}{P:WB->VY->Prop}(OE:Bs C aH)(x:Ex C aH s)(ha:aH.heap.get? a=Xe)(ho:s.heap.get? a=Xd (seqObj "list" vs.toArray m))(Ko:vs.length<64)(hT:∀h':Wz,(∀b o,b≠a->s.heap.get? b=Xd o->h'.get? b=Xd o)->(∀v∈vs,Looks (VB pw Wd) h' (typeOf v) T)/\∀i j,i<vs.length->j<vs.length->∀(Q:Bool->VY->Prop),Q (g i j) {s with heap:=h'}->Vw (VB pw Wd) A (keyLt' oneType' (vs.getD i .none) (vs.getD j .none)) Q (λ_ _=>False) {s with heap:=h'}) (UI:(T !=VO.type "tuple")=true) (UH:(T==T)=true) (hP:∀h' c,Ex C aH {s with heap:=h'}->h'.get? a=Xd (seqObj "list" ((Ks.dk g vs.length).map λi=>vs.getD i .none).toArray c)->P (.done (.ret .none)) {s with heap:=h'}):Vw (VB pw Wd) A (WY.«list.sort» ⟨[.ref a],[]⟩) P E s:=by
 revert m OE x ha ho Ko hT UI UH hP
 refine no_implicit_lambda% (ux (bT (bT (bT (bT rB zS) pA) (bT pA U8)) U8) ?_ A C s aH vs a E P g T)
 generalize gE _ _=tt
 dsimp only[GN]
 generalize tt.1.1.1.1=A,tt.1.1.1.2=C,tt.1.1.2=s,tt.1.2.1=aH,tt.1.2.2=vs,tt.2.1.1.1=a,tt.2.1.1.2=E,tt.2.1.2=P,tt.2.2.1=g,tt.2.2.2=T
 intro m OE x ha ho Ko hT UI UH hP
 have Lw:∀{xs:Array VO}{k:Nat}{h:Wz}{b:W8},h.get? b=Xd (seqObj "list" xs k)->∀o,h.get? b=Xd o->∀vs,o.data≠.fields vs:=λe o e' vs q=>by rw[e]at e';obtain rfl:=Xc e';rcases q with⟨⟩
 have s1:=Wv s.heap a (Obj.mapSeq λv=>(#[]:Array VO))
 obtain⟨e1,Kk⟩:∃e1,(s.heap.update a (Obj.mapSeq λv=>(#[]:Array VO))).get? a=Xd (seqObj "list" #[] e1):=⟨_,get?_update_seq ho λv=> #[]⟩
 have x1:Ex C aH {s with heap:=s.heap.update a (Obj.mapSeq λv=>(#[]:Array VO))}:=x.chg ha (Lw ho) s1.extBut
 have x3:Ex C aH {s with heap:=((s.heap.update a (Obj.mapSeq λv=>(#[]:Array VO))).push (seqObj "tuple" vs.toArray 0)).push (seqObj "list" #[] 0)}:=x1.trans (.of_keep (λv v e=>Wu _ (Wu _ e)) rfl rfl)
 have Qa:(((s.heap.update a (Obj.mapSeq λv=>(#[]:Array VO))).push (seqObj "tuple" vs.toArray 0)).push (seqObj "list" #[] 0)).get? a=Xd (seqObj "list" #[] e1):=Wu _ (Wu _ Kk)
 have kp:∀b o,b≠a->s.heap.get? b=Xd o->(((s.heap.update a (Obj.mapSeq λv=>(#[]:Array VO))).push (seqObj "tuple" vs.toArray 0)).push (seqObj "list" #[] 0)).get? b=Xd o:=λb o nb e=>Wu _ (Wu _ ((s1.2 b nb).trans e))
 have hTT:=hT _ kp
 have cU:vs.length<=sizeLine:=by rw[sizeLine_eq];exact aZ 0x10000008f0140a002 Ko
 rw[list_sort_plain]
 refine Vt (listItems_at ho rfl ?_)
 refine Vt (listUpdate_at ho rfl ?_ (by rw[XS];exact cU) (Xk _))
 refine Vt (seqEpoch_at Kk rfl ?_)
 refine Vt (wpAny_newTuple ?_ (by show vs.length<=_;exact cU))
 refine Vt (wpAny_newList ?_ (Xk _))
 refine Vp ?_
 dsimp only
 generalize hh3:((s.heap.update a (Obj.mapSeq λv=>(#[]:Array VO))).push (seqObj "tuple" vs.toArray 0)).push (seqObj "list" #[] 0)=h3 at *
 have tail:∀out:Array VO,out=((Ks.dk g vs.length).map λi=>vs.getD i .none).toArray->out.size<=sizeLine->∀(E:VO->VY->Prop)(bad:V0 WB),Vw (VB pw Wd) A (seqEpoch a>>=λe=>WY.List.listUpdate (.ref a) (λz=>out)>>=λz=>(if(e !=e1)=true then bad else ret .none)) P E {s with heap:=h3}:=λout e hz E bad=>by have s2:=Wv h3 a (Obj.mapSeq λz=>out);have DW:=get?_update_seq Qa λz=>out;refine Vt (seqEpoch_at Qa rfl ?_);refine Vt (listUpdate_at Qa rfl ?_ (Xk _) (Nat.le_succ_of_le hz));simp only[bne_self_eq_false,ZQ,if_false];exact Vk (hP _ _ (x3.chg ha (Lw Qa) s2.extBut) (DW.trans (Ve (λz=>Xd (seqObj "list" z _)) e)))
 have hsz:vs.toArray.size=vs.length:=XS
 by_cases h2:vs.length<2
 ·rw[hsz,Vh h2,Vh h2];refine Vt (Vk ?_);rw[StateT.run_pure];refine Vt (Vk ?_);refine tail _ ?_ ?_ _ _
  ·show(vs.toArray.zip vs.toArray).map (·.2)=_;rw[qm h2,range_getD];exact De rfl
  ·show((vs.toArray.zip vs.toArray).map (·.2)).size<=_;rw[De rfl,hsz];exact cU
 ·rw[hsz,Vg h2,Vg h2];have k2:2<=vs.length:=aZ 0x2a102a0032 h2;refine Vt (kas_kind k2 hTT.1 UI UH ?_);have e0:SortSt.mk' oneType' (vs.toArray.zip vs.toArray) #[] 7 Xe=kas_st oneType' (pairsOf vs) (XM (Yc vs.length)):=by have e:=kas_range (pairsOf vs);rw[pairsOf_size]at e;show SortSt.mk' oneType' (pairsOf vs) #[] 7 Xe=SortSt.mk' oneType' ((XM (Yc vs.length)).map (kas_item (pairsOf vs))) #[] 7 Xe;rw[e]
  have post:=Ks.pd (aZ 0x8002a0032 h2);have run:=kas_runs (prog:=pw) (w:=Wd) (A:=A) (E:=E) (κ:=oneType') (it:=pairsOf vs) (Q:=λz KP s'=>s'={s with heap:=h3}/\failedOf KP=Xe/\(arrOf KP).map (·.2)=((Ks.dk g vs.length).map λi=>vs.getD i .none).toArray/\((arrOf KP).map (·.2)).size<=sizeLine) (G:=λp s'=>s'={s with heap:=h3}/\p=Ks.gG g (kas_sort vs.length)) k2 Ko (λp' KP s' a1 a2 a3 a4=>⟨a4.1,a3,?_,by rw[Array.size_map,a2,Array.size_map,a1];exact cU⟩) (vP (λi j D hi hj hD=>?_) _ post ⟨rfl,rfl⟩)
  ·rw[<-e0]at run;refine Vt (wpAny_mono run ?_ λz z e=>e);intro y0 s' y1;obtain⟨⟨⟩,KP⟩:=y0;(refine nE y1 ?_;rintro(rfl)hf jH GD);rw[hf];exact tail _ jH GD _ _
  ·rw[a2];have hp:=a4.2;apply Array.toList_inj.mp;rw[Array.map_map,Array.toList_map];rw[qo h2,<-hp];exact YD λi hi=>by show(kas_item _ i).2=_;rw[kas_item_eq]
  ·unfold kas_cmp;rw[kas_item_eq,kas_item_eq];exact hTT.2 i j hi hj D hD
theorem BA{g:Nat->Nat->Bool}:∀i∈Ks.dk g n,i<n:=by
 by_cases h:n<2
 ·rw[qm h];exactλi hi=>Yl.mp hi
 ·rw[qo h];exact Ks.vQ _ (Ks.pd (aZ 0x8002a0032 h))
theorem aK.Lr(r:aK h ai vs ds):∀l:List Nat,(∀i∈l,i<vs.length)->aK h ai (l.map λi=>vs.getD i .none) (l.map λi=>ds.getD i .none):=by
 intro l;induction l with
 |nil=>exactλhl=>.nil
 |cons i l ih=>
  intro hl;have hi:=r.length▸hl i Yu;refine av (r.get (Y9 hi)) λv hv rv=>?_;have e:ds.getD i .none=ds[i]:=by rw[Ze,Y9 hi];rfl
  rw[YC,YC,lL hv,e];exact .cons rv (ih λj hj=>hl j (Yv _ hj))
def Kc(s:VY)(A:W6)(T:VO)(vs:List VO)(g:Nat->Nat->Bool):Prop:=∀(h':Wz),(∀b o,s.heap.get? b=Xd o->h'.get? b=Xd o)->(∀v∈vs,Looks (VB pw Wd) h' (typeOf v) T)/\∀i j,i<vs.length->j<vs.length->∀(Q:Bool->VY->Prop),Q (g i j) {s with heap:=h'}->Vw (VB pw Wd) A (keyLt' oneType' (vs.getD i .none) (vs.getD j .none)) Q (λ_ _=>False) {s with heap:=h'}
theorem vw{T:VO}{g:Nat->Nat->Bool}(bs:Bs C s)(V:bz C ai s)(r:bl s.heap ai v (.list ds))(Ko:ds.length<64)(UI:(T !=VO.type "tuple")=true)(UH:(T==T)=true)(hc:∀vs,aK s.heap ai vs ds->Kc s A.in1.in1 T vs g):eS C A ai (VH (.builtin "sorted") [v]) (.list ((Ks.dk g ds.length).map λi=>ds.getD i .none)) s:=by
 refine de (bS r) ?_;rintro l o vs k(rfl)ho tw y0;refine bD y0 λhn hd hr=>?_;have hcm:=hc vs hr;have hvl:=hr.length;have hl:s.heap.IsList l vs.toArray:=⟨o,ho,tw,_,hd⟩;have cU:vs.length<=sizeLine:=by rw[sizeLine_eq];exact aO 0x10000008f1101240a003 Ko hvl
 refineλE Q q=>aq (Calls.call_function_entry kind_sorted plain_sorted entry_sorted (args_sorted1 _) ?_);unfold WY.«sorted»;refine Vt (Vk ?_);refine Vt (collect_list hl ?_ cU);refine Vt (wpAny_newList ?_ cU);have hsz:((s.heap.push (seqObj "list" #[] 0)).update s.heap.objs.size (Obj.mapSeq (·++vs.toArray))).objs.size=s.heap.objs.size+1:=by rw[Wz.size_update,size_push']
 have IP:(((s.heap.push (seqObj "list" #[] 0)).update s.heap.objs.size (Obj.mapSeq (·++vs.toArray))).push (seqObj "list" vs.toArray 0)).get? (s.heap.objs.size+1)=Xd (seqObj "list" vs.toArray 0):=by rw[<-hsz];exact Wt _ rfl
 have keep:∀b o,s.heap.get? b=Xd o->(((s.heap.push (seqObj "list" #[] 0)).update s.heap.objs.size (Obj.mapSeq (·++vs.toArray))).push (seqObj "list" vs.toArray 0)).get? b=Xd o:=λb o q=>by have je:=Wq q;rw[Wz.get?_push_ne _ _ _ (by rw[hsz];exact Nat.ne_of_lt (Xu je)),Wz.get?_update_ne _ _ _ _ (Nat.ne_of_lt je),Wz.get?_push_ne _ _ _ (Nat.ne_of_lt je)];exact q
 have kO:s.heap.get? (s.heap.objs.size+1)=Xe:=by cases e:s.heap.get? (s.heap.objs.size+1)with|none=>rfl|some o=>exact absurd (Wq e) (Nat.not_lt_of_lt (Xs _))
 have x1:Ex C s {s with heap:=((s.heap.push (seqObj "list" #[] 0)).update s.heap.objs.size (Obj.mapSeq (·++vs.toArray))).push (seqObj "list" vs.toArray 0)}:=.of_keep keep rfl rfl;rw[hsz];refine Vt (Vp (Vr slot_list_sort ⟨_,IP,rfl⟩ entry_list_sort ?body (args_list_sort _)));case body=>
  refine Ho (g:=g) bs x1 kO IP (by rw[hvl];exact Ko) (λh' hk=>hcm h' λb o e=>hk b o (λz=>by rw[z,kO]at e;exact aa e) (keep b o e)) UI UH λh' c x' ha=>?_
  ·refine⟨_,rfl,Vk ⟨_,rfl,q _ _ x' ?_⟩⟩;refine .list (V.new kO) ha rfl rfl rfl ?_;rw[hvl];exact(hr.Lr _ λi hi=>by rw[hvl];exact BA i hi).ex V x'
def ltD(a b:Dat):Option Bool:=Lu .Lt a b
def Kg(ds:List Dat)(i j:Nat):Bool:=(ltD (ds.getD i .none) (ds.getD j .none)).getD false
def iM(ds:List Dat):List Dat:=(Ks.dk (Kg ds) ds.length).map λi=>ds.getD i .none
def mY:List Dat->Option (List (List Dat))|[]=>Xd []|d::ds=>Tu (Xd d) λu=>(mY ds).map (u::·)
def KS(ds:List Dat):Option Dat:=if ds.length<64 then(match strsOf ds with
 |some ys=>Xd (.list (iM ds))|none=>(mY ds).bind λkd=>if lC kd=true then Xd (.list (iM ds))else Xe)else Xe
def fB:List Dat->Option Dat:=oV (DM KS)
theorem EV:∀{ds:List Dat}{ys:List VV},strsOf ds=Xd ys->ds=ys.map .str:=by
 intro ds;induction ds with
 |nil=>intro ys h;obtain rfl:=Xc h;rfl
 |cons d ds ih=>intro ys h;cases d with|str x=>exact ba h λzs h1 h2=>by subst h2;rw[ih h1];rfl|_=>exact aa h
theorem FC:∀{ds:List Dat}{kd:List (List Dat)},mY ds=Xd kd->ds=kd.map .list:=by
 intro ds;induction ds with
 |nil=>intro ys h;obtain rfl:=Xc h;rfl
 |cons d ds ih=>intro kd h;exact Ii h λu h1 h2=>ba h2 λzs h3 h4=>by subst h4;rw[ih h3,Xc h1];rfl
theorem MR{ys:List VV}(r:aK s.heap ai vs (ys.map .str)):Kc s A (.type "str") vs (Kg (ys.map .str)):=by
 intro h' k;have at_:∀i,i<vs.length->∃y t,ys[i]?=Xd y/\vs[i]?=Xd (.str y t):=λi hi=>by
  have hl:i<ys.length:=by have:=r.length;rw[YN]at this;exact this▸hi
  refine av (r.get (by rw[YZ,Y9 hl];rfl)) λv hv rv=>?_;refine aI rv.i5 ?_;rintro t(rfl);exact⟨_,t,Y9 hl,hv⟩
 refine⟨λv hv=>?_,λi j hi hj Q hQ=>?_⟩
 ·refine aI (List.mem_iff_getElem?.mp hv) λi hi=>eT (at_ i (Y7.mp hi).1) λy t h1 h2=>?_;rw[hi]at h2;obtain rfl:=Xc h2;exact Looks.of_pure rfl
 ·refine eT (at_ i hi) λy t h1 h2=>eT (at_ j hj) λz u h3 h4=>?_;rw[lL h2,lL h4];refine kas_lt_str ?_;have e:Kg (ys.map .str) i j=decide (y.cps.toList<z.cps.toList):=by unfold Kg;rw[Ze,Ze,YZ,YZ,h1,h3];rfl
  rw[<-e];exact hQ
theorem MS{kd:List (List Dat)}(hu:A.units+100<cLine)(r:aK s.heap ai vs (kd.map .list))(ho:lC kd=true)(hv:∀b,ai b->True):Kc s A (.type "list") vs (Kg (kd.map .list)):=by
 intro h' k;have hl:=r.length;rw[YN]at hl;have r':=r.mono λb o e nn=>⟨k b o e,nn⟩;refine⟨λv hv=>?_,λi j hi hj Q hQ=>?_⟩
 ·refine aI (List.mem_iff_getElem?.mp hv) λi hi=>?_;have kU:=hl▸(Y7.mp hi).1;have ra:=BJ r' kU;rw[lL hi]at ra;refine de (bS (.rep ra)) ?_;rintro l o ws m(rfl)ho hc y;exactλA Q E s k' q=>wpAny_typeOf ⟨o,k' _ _ ho,hc⟩ q
 ·have kU:=hl▸hi;have Rx:=hl▸hj;refine B9 hu (BJ r' kU) (BJ r' Rx) ?_ hQ;have z:=HU ho i j _ _ (Y9 kU) (Y9 Rx);have e:Kg (kd.map .list) i j=(ij .Lt kd[i] kd[j] 0).getD false:=by unfold Kg;rw[Ze,Ze,YZ,YZ,Y9 kU,Y9 Rx];rfl
  rw[e,z];rfl
theorem C3(hC:C.Plain):iE C n "sorted" fB:=⟨.builtin "sorted",hC.none _ (by decide),hC.b (by kernel_rfl) (by decide),by decide,nofun,λ{A s ai vs ds d}hA bs V rs e=>by
  refine av (jD e) ?_;rintro x(rfl)hx;refine av rs.xA ?_;rintro u(rfl)r;refine av (pC hx) ?_;rintro es(rfl)h;refine aL h λKo h=>?_;have hu:A.in1.in1.units+100<cLine:=by have:=hA.units;lia
  cases hs:strsOf es with
  |some ys=>rw[hs]at h;obtain rfl:=Xc h;have e:=EV hs;exact vw (T:=.type "str") bs V r Ko (by decide) (by decide) λvs rs=>by rw[e];exact MR (e▸rs)
  |none=>rw[hs]at h;refine ak h λkd hk h=>aL h λho h=>?_;obtain rfl:=Xc h;have e:=FC hk;exact vw (T:=.type "list") bs V r Ko (by decide) (by decide) λvs rs=>by rw[e];exact MS hu (e▸rs) ho λb x=>trivial⟩
section
open PySem.Calls PySem.Spec
theorem range_zero(a b:Int)(t u v:Tok):MeetsIn prog w (WY.«range.__new__» ⟨[.type "range",.int a t,.int b u,.int 0 v],[]⟩) (λA R s=>A.handled=Xe/\∀h' tk e,Wx s.heap h' e "ValueError"->R (.error (.ref e)) {s with heap:=h',toks:=tk}):=.of_wp λA R s h=>by have ja:=PySem.F.called_range.sub;obtain⟨hp,g,d,tk,os⟩:=s;have h1:=h.1;have h2:=h.2;wp_walk;exact_raiseError plainExc_ValueError h1 h2
theorem qZ{a b:Int}{t u v:Tok}{Q:VO->VY->Prop}(hA:A.handled=Xe)(h:∀h' tk e,Wx s.heap h' e "ValueError"->E (.ref e) {s with heap:=h',toks:=tk}):Vw (VB prog w) A (VH (.type "range") [.int a t,.int b u,.int 0 v]) Q E s:=callType_newIn PySem.F.called_range (by decide) (PySem.F.typeCall_range_3 _ _ _) (PySem.F.newCall_range_3 _ _ _) (λobj=>PySem.F.initArgs_range_3 obj _ _ _) PySem.F.entry_range_new (range_zero a b t u v) ⟨hA,h⟩
theorem yE(a:W8)(o:Obj)(b:List UInt8)(n:Nat)(i x:Int)(u t:Tok)(hr:WU i=true)(h0:0<=i)(h1:(b.length:Int)<=i)(hx:0<=x)(ta:x<256)(hd:o.data=.bytearray b.toArray n):Meets (WY.«bytearray.__setitem__» ⟨[.ref a,.int i u,.int x t],[]⟩) (λA R s=>s.heap.get? a=Xd o/\A.handled=Xe/\∀h' tk e,Wx s.heap h' e "IndexError"->R (.error (.ref e)) {s with heap:=h',toks:=tk}):=by
 revert hr h0 h1 hx ta hd;refine OS U8 ?_ i x a b u t o n;generalize gE _ _=tt;dsimp only[K8];generalize tt.1.1.1=i,tt.1.1.2=x,tt.1.2.1=a,tt.1.2.2=b,tt.2.1.1=u,tt.2.1.2=t,tt.2.2.1=o,tt.2.2.2=n;refineλhr h0 h1 hx ta hd=>.of_wp λprog w A R s hS=>bD hS λho hA h=>Vt ?_;unfold WQ;refine Vt (Vj (typeIs_int s i u) WE.lookup ?_);show Vw _ _ (if(!Builtin.Bytes.fitsIndex i)=true then _ else pure (Xd i)) _ _ s;rw[hr];refine Vk ?_;have hbv:WW (.int x t)=pure x.toNat.toUInt8:=by unfold WW;show(if(decide (x<0)||decide (x>=256))=true then _ else _)=_;rw[Vg (by simp;exact yW 0x1008f0f70f884000001008f0f70f883 hx ta)]
 refine Vt (Vl hbv ?_);have hp:Vw (VB prog w) A.in1 (WT (.ref a)) (λx s'=>x=b.toArray/\s'=s) (λz z=>False) s:=by unfold WT;refine Vt (Vt (Vo ho ?_));rw[hd];exact Vk (Vk ⟨rfl,rfl⟩)
 refine Vt (wpAny_mono hp (λx' s' ta=>?_) λz z f=>f.elim);refine aU ta ?_;rintro(rfl)(rfl);have e:seqIndex? i b.toArray.size=Xe:=by have h2:¬i<0:=Nu 0x80f730f0af82 rfl h1;have h3:¬i<(b.length:Int):=Nu 0xaf0f730f0af82 rfl h1;simp[seqIndex?,h2,h0,h3]
 show Vw _ _ (match seqIndex? i b.toArray.size with|some k=>(do WO (.ref a) (·.setIfInBounds k x.toNat.toUInt8);return <-ret .none)|none=>_) _ _ _;rw[e];refine Vt (Vt (wpAny_rule ?_));exact_raiseError plainExc_IndexError hA h
theorem w3{C:Cx}{ai:W8->Prop}{u v:VO}{b:List UInt8}{i k:Int}{p:W8}{Q:Unit->VY->Prop}(hA:A.handled=Xe)(hh:0<=i/\(b.length:Int)<=i/\i<1000000/\0<=k/\k<256)(r:bl s.heap ai (.ref p) (.bg b))(rj:Rep s.heap ai u (.int i))(rd:Rep s.heap ai v (.int k))(hE:∀h' tk e,Wx s.heap h' e "IndexError"->E (.ref e) {s with heap:=h',toks:=tk}):aP (VB pw Wd) A (setItem (.ref p) u v) Q E s:=by refine aq (jg (nU r) λl o n' e ho hc hd=>?_);rcases e with⟨⟩;refine aI rj.eQ ?_;rintro t(rfl);refine aI rd.eQ ?_;rintro t'(rfl);refine rQ hh λh0 h1 h2 h3 h4=>?_;have hT:s.TypeIs (.ref p) "bytearray":=⟨_,ho,hc⟩;unfold setItem;refine Vp (Vt (wpAny_sequenceKey hT (by decide) ?_));refine Vt (Vs hT gg (call_meets gg hT lQ (mP _ _ _) (yE p o b n' i k _ _ ?_ h0 h1 h3 h4 hd) ⟨ho,hA,hE⟩));simp only[WU,ZV,Vc];omega
end
section
variable {M:Model} {F:W8->Prop} {e tb:W8} {X:String} {m:VO}
theorem Ex.Zab{t:Nat}(x:Ex C aH s)(ha:aH.heap.get? a=Xe)(hn:∀o vs q t,s.heap.get? a=Xd o->o.data=.fields vs->vs[1]?≠Xd (.str q t))(hs:Wy a s.heap h'):Ex C aH {s with heap:=h',toks:=t}:=by
 have keep:∀{b o},s.heap.get? b=Xd o->b≠a->h'.get? b=Xd o:=λe hb=>hs _ _ hb e;refine⟨λb o e nt nf=>keep (x.keep b o e nt nf) λq=>(by rw[q,ha]at e;exact aa e),λb o f e=>(av (x.nz b o f e) λo1 e1 d1=>⟨o1,keep e1 λq=>(by rw[q,ha]at e;exact aa e),d1⟩),λz=>?_⟩
 ·have z':=x.bs z;have hT:¬C.T a:=by refineλy0=>mr y0 λc p q m=>?_;rcases z.tab c a p q m with e|⟨_,e,_⟩<;>(rw[ha]at e;exact aa e)
  refine⟨λb o e nt=>keep (z'.keep b o e nt) λq=>?_,λc P p q m=>?_,z'.gens,z'.os,λb f=>(z'.alive b f).data λo e=>.of (keep e λq=>?_)⟩
  ·have:=z.keep b o e nt;rw[q,ha]at this;exact aa this
  ·have hP:P≠a:=λq'=>hT (q'▸⟨c,p,q,m⟩);refine Xa (z'.tab c P p q m) (λe=>.inl (keep e hP)) λy1=>?_
   ·refine av y1 λb e r=>.inr ⟨b,keep e hP,?_⟩;refine de r λb' o vs t' e1 e2 e3 e4=>?_;rcases e1 with⟨⟩;exact⟨b,o,vs,t',rfl,keep e2 (λq=>hn o vs _ _ (q▸e2) e3 e4),e3,e4⟩
  ·subst q;refine kJ (z.alive b f) λo' y y e' y=>?_;rw[ha]at e';exact aa e'
theorem Ex.rdy{t:Nat}(x:Ex C aH s)(r:Kb F s.heap h')(hF:∀b,F b->cZ s.heap b/\(C.fr b/\C.h₀.get? b=Xe\/aH.heap.get? b=Xe)):Ex C aH {s with heap:=h',toks:=t}:=by
 refine⟨λb o e nt nf=>r.keep b o (x.keep b o e nt nf) λq=>(hF b q).2.elim (λz=>nf z.1) λz=>aa (z.symm.trans e),λb o f e=>(av (x.nz b o f e) λo1 e1 d1=>av (r.data b o1 e1) λo2 e2 d2=>⟨o2,e2,d2.trans d1⟩),λz=>?_⟩
 ·have z':=x.bs z;have nf:∀b o,s.heap.get? b=Xd o->(∀es n,o.data≠.dict es n)->h'.get? b=Xd o:=λb o e hd=>r.keep b o e λq=>by refine kJ (hF b q).1 λo' es n e' d'=>?_;rw[e]at e';obtain rfl:=Xc e';exact hd _ _ d'
  refine⟨λb o e nt=>r.keep b o (z'.keep b o e nt) λq=>(hF b q).2.elim (λz=>aa (z.2.symm.trans e)) λy=>aa (y.symm.trans (z.keep b o e nt)),λc P p q m=>?_,z'.gens,z'.os,λb f=>(z'.alive b f).data λo e=>r.data b o e⟩;refine Xa (z'.tab c P p q m) (λe=>.inl (nf _ _ e nofun)) λy1=>?_
  ·refine av y1 λb e r'=>.inr ⟨b,nf _ _ e nofun,?_⟩;refine de r' λb' o vs t' e1 e2 e3 e4=>⟨b',o,vs,t',e1,nf _ _ e2 (by rw[e3];nofun),e3,e4⟩
structure Exc (h₀ h:Wz) (e:W8) (X:String) (m:VO):Prop where
 new:h₀.get? e=Xe
 there:∃o vs,h.get? e=Xd o/\o.cls=.type X/\o.data=.fields vs/\vs[1]?=Xd m
structure Trc (h₀ h:Wz) (tb:W8):Prop where
 new:h₀.get? tb=Xe
 there:∃o vs L,h.get? tb=Xd o/\o.data=.fields vs/\3<vs.size/\vs[1]?=Xd (.ref L)
def RL(h₀ h:Wz)(e:W8)(X:String):Prop:=∃tb,tb≠e/\Exc h₀ h e X (.ref tb)/\Trc h₀ h tb
theorem Exc.upd(x:Exc h₀ h e X m)(k:∀o,h.get? e=Xd o->h'.get? e=Xd o):Exc h₀ h' e X m:=⟨x.new,x.there.elim λo y=>y.elim λvs y=>⟨o,vs,k o y.1,y.2⟩⟩
theorem NewExc.exc(x:Wx h h' e X)(k:h₀.get? e=Xe):Exc h₀ h' e X .none:=⟨k,er x.there λo t e1 e2 e3=>⟨o,_,e1,e2,e3,rfl⟩⟩
theorem qe{o:Obj}{xs:Array VO}(x:cZ h a)(e:h.get? b=Xd o)(d:o.data=.fields xs):a≠b:=λq=>by refine kJ x λo' es n e' d'=>?_;rw[q,e]at e';obtain rfl:=Xc e';exact nomatch d.symm.trans d'
def Step(C:Cx)(aH s:VY)(e:W8)(X:String)(h':Wz):Prop:=Ex C aH {s with heap:=h'}/\RL aH.heap h' e X/\∀b,cZ s.heap b->cZ h' b
theorem Du{v:VO}{Q:Unit->VY->Prop}(x:Ex C aH s)(f:Exc aH.heap s.heap e X (.ref tb))(g:Trc aH.heap s.heap tb)(ne:tb≠e)(hQ:∀h',Step C aH s e X h'->Exc aH.heap h' e X (.ref tb)->Trc aH.heap h' tb->Q () {s with heap:=h'}):Vw M A (setField (.ref tb) 3 v) Q E s:=by refine jg g.there λo vs L ho hd hz h1=>wpAny_setField ho hd hz ?_;have di:=Obj.data_mapFields hd (·.setIfInBounds 3 v);have ex:Wy tb s.heap (s.heap.update tb (Obj.mapFields (·.setIfInBounds 3 v))):=λb o hb z=>(Ws _ _ (Xj hb)).trans z;have f':=f.upd λo z=>ex _ _ (Xj ne) z;have g':Trc aH.heap (s.heap.update tb (Obj.mapFields (·.setIfInBounds 3 v))) tb:=⟨g.new,_,_,L,Wr _ ho (Obj.isFreed_of_fields di),di,by rw[ZX];exact hz,by rw[Array.getElem?_setIfInBounds_ne (by decide)];exact h1⟩;refine hQ _ ⟨x.Zab g.new (λo' qj q t z d=>?_) ex,⟨tb,ne,f',g'⟩,λb z=>z.data λo' z'=>.of (ex _ _ (qe z ho hd) z')⟩ f' g';rw[ho]at z;obtain rfl:=Xc z;rw[hd]at d;rcases d with⟨⟩;rw[h1];exactλz=>nomatch z
theorem pL{fr:Option W8}{Q:Unit->VY->Prop}(x:Ex C aH s)(f:RL aH.heap s.heap e X)(hQ:∀h',Step C aH s e X h'->Q () {s with heap:=h'}):Vw M A (setFlight (.ref e) fr) Q E s:=by refine f.elim λtb y=>?_;unfold setFlight;refine er y.2.1.there λo vs ho hc y1=>Vt (Vq ho y1.1 y1.2 ?_);rw[Vh (show(VM tb !=VN)=true from by simp)];exact Du x y.2.1 y.2.2 y.1 λh' st f' g'=>hQ h' st
def vj(C:Cx)(aH s:VY)(fs:List WH):Prop:=∀f∈fs,f.scope.kind=.function/\∃L,f.frame=Xd L/\cZ s.heap L/\(C.fr L/\C.h₀.get? L=Xe\/aH.heap.get? L=Xe)
theorem vj.step{fs:List WH}(x:vj C aH s fs)(k:∀b,cZ s.heap b->cZ s'.heap b):vj C aH s' fs:=λf hm=>⟨(x f hm).1,(x f hm).2.elim λL y=>⟨L,y.1,k L y.2.1,y.2.2⟩⟩
theorem AD{fs:List WH}{b0:Bool}{hd:VO}{Q:Unit->VY->Prop}(x:Ex C aH s)(f:Exc aH.heap s.heap e X m)(bs:Bs C aH)(hm:∀q t,m≠.str q t)(o6:A.frames=Xd (ag::fs))(hf:ag.frame=Xd L)(ha:vj C aH s (ag::fs))(hQ:∀h',Step C aH s e X h'->Q () {s with heap:=h'}):Vw M A (frameOf ag>>=λfv=>entryPlaceOf L b0>>=λpl=>EntryCells.newEntry hd fv .none (rawInt L) .none pl>>=λtv=>setField (.ref e) 1 tv) Q E s:=by
 revert X b0 x f bs hm o6 hf ha hQ
 refine no_implicit_lambda% (rR (bT (bT (bT (bT rB zS) (bT neM pA)) (bT (bT pA U8) U8)) U8) ?_ A C M s aH L hd e ag fs E Q m)
 generalize gE _ _=tt
 dsimp only[Gy]
 generalize tt.1.1.1.1=A,tt.1.1.1.2=C,tt.1.1.2.1=M,tt.1.1.2.2=s,tt.1.2.1.1=aH,tt.1.2.1.2=L,tt.1.2.2=hd,tt.2.1.1.1=e,tt.2.1.1.2=ag,tt.2.1.2=fs,tt.2.2.1.1=E,tt.2.2.1.2=Q,tt.2.2.2=m
 intro X b0 x f bs hm o6 hf ha hQ
 unfold PySem.frameOf
 refine Vt (Vt (wpAny_frameEnvs o6 ?_))
 have hdw:((ag::fs).dropWhile λx=>x.frame !=ag.frame)=ag::fs:=by simp[List.dropWhile]
 rw[hdw]
 unfold frameObject
 have I1:∀g∈ag::fs,g.scope.kind=.function/\∃L',g.frame=Xd L'/\(λb=>∃g∈ag::fs,g.frame=Xd b) L'/\cZ s.heap L':=λg hm=>⟨(ha g hm).1,(ha g hm).2.elim λL y=>⟨L,y.1,⟨g,hm,y.1⟩,y.2.1⟩⟩
 refine Vt (Vt (lu I1 λbF r=>Vk ?_))
 rw[hf]
 refine Vk ?_
 refine Vt (wpAny_entryPlaceOf λpl Ap=>?_)
 unfold EntryCells.newEntry newFields
 refine Vt (Vm ?_ (Ap.sizeOk5 _ _ _ _ _))
 generalize PX:([hd,.ref L,.none,rawInt L,.none]++(if pl.isEmpty then X0 6 VN else pl)).toArray=yM
 have htz:3<yM.size:=by rw[<-PX];simp
 have Rt:yM[1]?=Xd (.ref L):=by rw[<-PX];simp
 have x1:=x.rdy (t:=s.toks) r λb y=>y.elim λg y=>(ha g y.1).2.elim λL' z=>by have:=Xc (y.2.symm.trans z.1);subst this;exact z.2
 refine er f.there λo vs ho hc y1=>?_
 have Oh:=y1.1
 have nF:¬∃g∈ag::fs,g.frame=Xd e:=λy=>y.elim λg y=>(ha g y.1).2.elim λL' z=>by have:=Xc (y.2.symm.trans z.1);subst this;exact qe z.2.1 ho Oh rfl
 have N6:=r.keep e o ho nF
 have IK:=Wu {cls:=.type "traceback",dict:=Xe,data:=.fields yM} N6
 have hsz:=(ZZ.mp y1.2).1
 refine wpAny_setField IK Oh hsz ?_
 have hTe:=Nat.ne_of_gt (Wq N6)
 have DV:=Obj.data_mapFields Oh (·.setIfInBounds 1 (VM bF.objs.size))
 have ex:Wy e (bF.push {cls:=.type "traceback",dict:=Xe,data:=.fields yM}) ((bF.push {cls:=.type "traceback",dict:=Xe,data:=.fields yM}).update e (Obj.mapFields (·.setIfInBounds 1 (VM bF.objs.size)))):=λb o hb z=>(Ws _ _ (Xj hb)).trans z
 have x2:Ex C aH {s with heap:=bF.push {cls:=.type "traceback",dict:=Xe,data:=.fields yM}}:=x1.trans (.of_keep (λb o z=>Wu _ z) rfl rfl)
 have x3:=x2.Zab (t:=s.toks) f.new (λo' qj q t z d=>by have e1:=IK.symm.trans z;obtain rfl:=Xc e1;rw[Oh]at d;rcases d with⟨⟩;rw[y1.2];exactλz=>hm _ _ (Xc z)) ex
 have hn:aH.heap.get? bF.objs.size=Xe:=Ex.fresh bs x (Wz.get?_none_of_le (by rw[r.size];exact Xz _))
 refine hQ _ ⟨x3,⟨bF.objs.size,hTe,⟨f.new,_,_,Wr _ IK (Obj.isFreed_of_fields DV),(Obj.cls_mapFields ..).trans hc,DV,?_⟩,⟨hn,_,yM,L,(Ws _ _ (Xj hTe)).trans (Wt bF rfl),rfl,htz,Rt⟩⟩,λb z=>?_⟩
 ·rw[Array.getElem?_setIfInBounds_self_of_lt hsz]
 ·exact z.data λo' z'=>av (r.data b o' z') λo2 e2 d2=>⟨o2,ex _ _ (qe z ho Oh) (Wu _ e2),d2⟩
theorem H3{fs:List WH}{Q:Unit->VY->Prop}(x:Ex C aH s)(f:Exc aH.heap s.heap e X .none)(bs:Bs C aH)(o6:A.frames=Xd (ag::fs))(ha:vj C aH s (ag::fs))(hQ:∀h',Step C aH s e X h'->Q () {s with heap:=h'}):Vw M A (noteFrame (.ref e) ag) Q E s:=by refine(ha ag Yu).2.elim λL hL=>er f.there λo vs ho hc y1=>?_;unfold noteFrame;simp only[hL.1];refine Vt (Vq ho y1.1 y1.2 ?_);rw[Vg (by decide)];exact AD x f bs (λq t z=>nomatch z) o6 hL.1 ha hQ
theorem H2{fs:List WH}{Q:Unit->VY->Prop}(x:Ex C aH s)(f:RL aH.heap s.heap e X)(bs:Bs C aH)(o6:A.frames=Xd (ag::fs))(ha:vj C aH s (ag::fs))(hQ:∀h',Step C aH s e X h'->Q () {s with heap:=h'}):Vw M A (noteFrame (.ref e) ag) Q E s:=by
 refine(ha ag Yu).2.elim λL hL=>f.elim λtb y=>er y.2.1.there λo vs ho hc y1=>jg y.2.2.there λot yM L' Ue hdt hz h1=>?_;unfold noteFrame;simp only[hL.1];refine Vt (Vq ho y1.1 y1.2 ?_);rw[Vh (show(VM tb !=VN)=true from by simp)];refine Vt (Vq Ue hdt (Z0 hz) ?_);by_cases q:(yM[3]==rawInt L)=true
 ·rw[Vh q];exact Vk (hQ s.heap ⟨x,f,λb z=>z⟩)
 ·rw[Vg q];refine Vt (Du x y.2.1 y.2.2 y.1 λh' st f' g'=>?_);exact AD st.1 f' bs (λq t z=>nomatch z) o6 hL.1 (ha.step st.2.2) λh'' KP=>hQ h'' ⟨KP.1,KP.2.1,λb z=>KP.2.2 b (st.2.2 b z)⟩
end
section
variable {aA:VY} {M:Model} {F:W8->Prop} {e tb:W8} {X:String} {m:VO} {fs:List WH} {Ψ:yT}
def Rz(C:Cx)(aH:VY)(X:String)(fs:List WH)(v:VO)(s:VY):Prop:=∃e,v=.ref e/\Ex C aH s/\(Exc aH.heap s.heap e X .none\/RL aH.heap s.heap e X)/\vj C aH s fs
def Rf(C:Cx)(aH:VY)(X:String)(fs:List WH)(v:VO)(s:VY):Prop:=∃e,v=.ref e/\Ex C aH s/\RL aH.heap s.heap e X/\vj C aH s fs
theorem Rf.rz(x:Rf C aH X fs v s):Rz C aH X fs v s:=x.elim λe y=>⟨e,y.1,y.2.1,.inr y.2.2.1,y.2.2.2⟩
theorem Pa{t:Nat}(x:Ex C aH s)(bs:Bs C aH)(fr:vj C aH s fs)(ne:Wx s.heap h' e X):Rz C aH X fs (.ref e) {s with heap:=h',toks:=t}:=⟨e,rfl,x.trans (.of_keep ne.keeps rfl rfl),.inl (NewExc.exc ne (Ex.fresh bs x ne.new)),fr.step λb z=>z.data λo e=>.of (ne.keeps b o e)⟩
theorem n8{Q:Unit->VY->Prop}(r:Rz C aH X (ag::fs) v s)(bs:Bs C aH)(o6:A.frames=Xd (ag::fs))(hQ:∀s',Rf C aH X (ag::fs) v s'->Q () s'):aP M A (noteFrame v ag) Q E s:=by
 refine r.elim λe r=>bD r ?_;rintro(rfl)x y;have fin:∀h',Step C aH s e X h'->Q () {s with heap:=h'}:=λh' st=>hQ _ ⟨e,rfl,st.1,st.2.1,y.2.step st.2.2⟩;refine y.1.elim (λf=>aq (H3 x f bs o6 y.2 fin)) λf=>aq (H2 x f bs o6 y.2 fin)
theorem km{fr:Option W8}{Q:Unit->VY->Prop}(r:Rf C aH X fs v s)(hQ:∀s',Rf C aH X fs v s'->Q () s'):aP M A (setFlight v fr) Q E s:=by refine r.elim λe r=>bD r ?_;rintro(rfl)x y;exact aq (pL x y.1 λh' st=>hQ _ ⟨e,rfl,st.1,st.2.1,y.2.step st.2.2⟩)
theorem Ac{Q:Unit->VY->Prop}(r:Rz C aH X (ag::fs) v s)(bs:Bs C aH)(o6:A.frames=Xd (ag::fs))(hQ:∀s',Rf C aH X (ag::fs) v s'->Q () s'):aP M A (leaving ag v) Q E s:=by unfold leaving;exact ab (n8 r bs o6 λs1 r1=>km r1 hQ)
theorem JQ(r:Rf C aH X fs v s)(hE:∀s',Rf C aH X fs v s'->E v s'):Ed M A ag E v s:=by refine(id r).elim λe r'=>bD r' ?_;rintro(rfl)x y;refine y.1.elim λtb z=>er z.2.1.there λo vs ho hc y1=>?_;unfold Ed;refine ab (aq (Vq ho y1.1 y1.2 ?_));rw[Vg (show ¬(VM tb==VN)=true from by simp)];exact km r hE
def runs(step:Dat->ax->Option Fl):List Dat->ax->Option ax
 |[],v=>Xd v
 |d::ds,v=>(step d v).bind λfl=>match fl with
  | .next v'=>runs step ds v'|_=>Xe
theorem As{bX:ax}{rest:List Dat}(hA:dD C n A)(e:aR ag sc)(Kn:aH.heap.get? I=Xe)(Cv:¬C.T I)(Km:C.h₀.get? I=Xe)(rF:¬aj I)(eA:uk C Φ Ψ aj ag sc A body){R:V6->VY->Prop}(gJ:∀W ad s,It s.heap (λa=>aj a\/W a) (λa=>W a\/C.T a\/C.fr a) I rest->SS C aj ag sc bX W ad s->dC bX->Mv C dR aH W s->cK (VB pw Wd) A (.forLoop t (.ref I) body [] ag) R s):∀(ar:List Dat)(ae:ax)(W:W8->Prop)(ad:VV->W8)(s:VY),It s.heap (λa=>aj a\/W a) (λa=>W a\/C.T a\/C.fr a) I (ar++rest)->SS C aj ag sc ae W ad s->dC ae->Mv C dR aH W s->runs (jV Φ Ψ sc t body) ar ae=Xd bX->cK (VB pw Wd) A (.forLoop t (.ref I) body [] ag) R s:=by
 revert dR n bX hA e Kn Cv Km rF eA gJ;refine no_implicit_lambda% (rR (bT (bT (bT (bT rB zS) (bT neF pA)) U8) U8) ?_ A C Φ aH ag t I sc aj body R Ψ rest);generalize gE _ _=tt;dsimp only[Gy];generalize tt.1.1.1.1=A,tt.1.1.1.2=C,tt.1.1.2.1=Φ,tt.1.1.2.2=aH,tt.1.2.1.1=ag,tt.1.2.1.2=t,tt.1.2.2=I,tt.2.1.1.1=sc,tt.2.1.1.2=aj,tt.2.1.2=body,tt.2.2.1.1=R,tt.2.2.1.2=Ψ,tt.2.2.2=rest;intro dR n bX hA e Kn Cv Km rF eA gJ;intro ar;induction ar with
 |nil=>intro ae W ad s x S hO m h;obtain rfl:=Xc h;exact gJ W ad s x S hO m
 |cons d ar ih=>
  refineλae W ad s x S hO m h=>uw x.gi λoI kC ox Kj yQ lK=>?_;have nW:=λq=>x.Fs (.inl q);refine bw ?_ rfl;show aP _ A ((forTurn t (.ref I) body [] ag).onRaise (λx=>do noteFrame x ag;theTreesLotGoes x)) _ _ s;refine eG ?_;unfold forTurn;refine ab (au (ab (dj (x.next λv h1 tk r x1 lJ=>?_))));have wu:Bs C {s with heap:=h1,toks:=tk}:=(gL.same lJ.extBut rfl Cv (λq=>((S.gZ I q).elim rF λq=>nW (S.fw I q)).elim) x.vJ).bs S.bO.bs λa q=>q▸Km;have S1:=S.iter kC ox yQ lK lJ.extBut (λq=>q.elim rF nW) wu;have m1:Mv C dR aH W {s with heap:=h1,toks:=tk}:=m.iter Kn lJ.extBut;refine ak h λfl h3 h4=>?_;unfold jV at h3;cases hb:bL sc t d ae with
  |none=>rw[hb]at h3;exact aa h3
  |some kY=>
   rw[hb]at h3;cases fl with
   |next vn=>
    refine ab (x1.letGo ?_);refine ab (jT hA.handled e S1 hO hb r λs2 m2 S2 UJ=>?_);refine ab (eA S2 UJ h3 _ _ λf s3 hf=>?_);refine aU hf ?_;rintro(rfl)hg;refine er hg λW3 OJ m3 S3 I3=>ao ⟨rfl,?_⟩;have mm:=m2.trans m3;have xw:It {s with heap:=h1,toks:=tk:VY}.heap (λa=>aj a\/W a) (λa=>(W a\/W3 a)\/C.T a\/C.fr a) I (ar++rest):=x1.widen λa q=>by
     rcases q with(q|q)|q
     ·exact .inl (.inl q)
     ·refine Xa (mm.ww a q) (λq=>.inl (.inl q)) λq=>.inr q.1
     ·exact .inl (.inr q)
    have x3:It s3.heap (λa=>aj a\/W3 a) (λa=>(W a\/W3 a)\/C.T a\/C.fr a) I (ar++rest):=xw.mono (λb o q w=>mm.keep b o q (λt=>w (.inr (.inl t))) (λt=>w (.inr (.inr t))) λz=>w (.inl (.inl z))) λrs=>rs.mono λb o q nn=>⟨mm.keep b o q (λt=>nn (.inl (S.tabs b t))) (λt=>nn ((S.gZ b t).imp id (S.fw b))) λz=>nn (.inr z),λz=>z.elim (λz=>nn (.inl z)) λz=>by
     refine Xa (mm.ww b z) (λz=>nn (.inr z)) λz=>?_
     ·rw[z.1]at q;exact aa q⟩
    exact ih vn W3 OJ s3 (x3.widen λa q=>.inl (q.elim (λq=>.inl (.inr q)) .inr)) S3 I3 (m1.trans mm) h4
   |_=>exact aa h4
theorem Au{kY:ax}{rest:List Dat}(hA:dD C n A)(e:aR ag sc)(Kn:aH.heap.get? I=Xe)(Cv:¬C.T I)(Km:C.h₀.get? I=Xe)(rF:¬aj I){R:V6->VY->Prop}{Z:VO->VY->Prop}(x:It s.heap (λa=>aj a\/W a) (λa=>W a\/C.T a\/C.fr a) I (d::rest))(S:SS C aj ag sc ae W ad s)(hO:dC ae)(m:Mv C dR aH W s)(hb:bL sc t d ae=Xd kY)(eA:∀s2,Mv C dR aH W s2->SS C aj ag sc kY W ad s2->dC kY->aP (VB pw Wd) A (execs body ag) (λf s=>False) Z s2)(hZ:∀v s2,Z v s2->mX (VB pw Wd) A ag (λx s'=>R (.error x) s') v s2):cK (VB pw Wd) A (.forLoop t (.ref I) body [] ag) R s:=by refine uw x.gi λoI kC ox Kj yQ lK=>?_;have nW:=λq=>x.Fs (.inl q);refine bw ?_ rfl;show aP _ A ((forTurn t (.ref I) body [] ag).onRaise (λx=>do noteFrame x ag;theTreesLotGoes x)) _ _ s;refine eG ?_;unfold forTurn;refine ab (au (ab (dj (x.next λv h1 tk r x1 lJ=>?_))));have wu:Bs C {s with heap:=h1,toks:=tk}:=(gL.same lJ.extBut rfl Cv (λq=>((S.gZ I q).elim rF λq=>nW (S.fw I q)).elim) x.vJ).bs S.bO.bs λa q=>q▸Km;have S1:=S.iter kC ox yQ lK lJ.extBut (λq=>q.elim rF nW) wu;have m1:Mv C dR aH W {s with heap:=h1,toks:=tk}:=m.iter Kn lJ.extBut;refine ab (x1.letGo ?_);refine ab (jT hA.handled e S1 hO hb r λs2 m2 S2 UJ=>?_);exact ab (aE (eA s2 (m1.trans m2) S2 UJ) (λf s3 hf=>hf.elim) hZ)
structure kA (C:Cx) (aH:VY) (L:W8) (dR:W8->Prop) (aA:VY) (fs:List WH) (ag:WH) (A:W6):Prop where
 x1:Ex C aH aA
 bs:Bs C aH
 hL:aH.heap.get? L=Xe
 hW:∀b,dR b->aH.heap.get? b=Xe
 top:A.frames=Xd (ag::fs)
 kind:ag.scope.kind=.function
 frame:ag.frame=Xd L
 gZ:∀f∈fs,f.scope.kind=.function/\∃L,f.frame=Xd L/\C.fr L/\C.h₀.get? L=Xe
theorem kA.out(z:kA C aH L dR aA fs ag A)(m:Mv (C.more L) dR aA W s)(b:Bs (C.more L) s):Ex C aH s/\vj C aH s (ag::fs):=by
 refine⟨⟨λb o e t f=>m.keep b o (z.x1.keep b o e t f) t (λy=>y.elim f λy=>aa (z.hL.symm.trans (y▸e))) (λy=>aa ((z.hW b y).symm.trans e)),λb o f e=>av (z.x1.nz b o f e) λo1 e1 d1=>av (m.nz b o1 (.inl f) (λy=>aa ((z.hW b y).symm.trans e)) e1) λo2 e2 d2=>⟨o2,e2,d2.trans d1⟩,λy=>b.less⟩,λf hm=>?_⟩;refine Xa (Yw.mp hm) (λq=>?_) λq=>⟨(z.gZ f q).1,(z.gZ f q).2.elim λL' y=>⟨L',y.1,b.alive L' (.inl y.2.1),.inl y.2⟩⟩
 ·subst q;exact⟨z.kind,L,z.frame,b.alive L (.inr rfl),.inr z.hL⟩
theorem kA.raise{t:Nat}(z:kA C aH L dR aA fs ag A)(m:Mv (C.more L) dR aA W s)(b:Bs (C.more L) s)(ne:Wx s.heap h' e X):Rz C aH X (ag::fs) (.ref e) {s with heap:=h',toks:=t}:=Pa (z.out m b).1 z.bs (z.out m b).2 ne
theorem vg(z:kA C aH L dR aA fs ag A)(hC:(C.more L).Ok)(hO:cA (C.more L) n)(hF:cu (C.more L) Φ n)(hA:dD (C.more L) n A){x:VV}{i value:Expr}{xp q pos:Pos}{b:List UInt8}{j c:Int}(e:aR ag sc)(S:SS (C.more L) aj ag sc ae W ad s)(m:Mv (C.more L) dR aA W s)(hc:pH value=false)(hx:ae.lookup x=Xd (.own (.bg b)))(h1:ev Φ sc value ae=Xd (.int c))(h2:ev Φ sc i ae=Xd (.int j))(ZbB:0<=j/\(b.length:Int)<=j/\j<1000000/\0<=c/\c<256):aP (VB pw Wd) A (exec (.Assign [.Subscript (.Name x xp) i q] value pos) ag) (λf s=>False) (Rz C aH "IndexError" (ag::fs)) s:=by refine gu (bZ hC hO hF hA value e S.bO h1 _ _ λv s2 x1 r1=>?_) (iL hc);have S1:=S.ex x1;refine iS e (S1.own x _ hx).1 (bZ hC hO hF hA i e S1.bO h2 _ _ λu s3 x2 r2=>?_);have S2:=S1.ex x2;exact w3 (C:=C) hA.handled ZbB (rA S2 hx) r2 (r1.ex S1.bO.vo x2) λh' tk e ne=>z.raise (m.trans (.iG (x1.trans x2))) S2.bO.bs ne
theorem vW(z:kA C aH L dR aA fs ag A)(hC:(C.more L).Ok)(hO:cA (C.more L) n)(hF:cu (C.more L) Φ n)(hA:dD (C.more L) n A){it:Expr}{body:List VW}(e:aR ag sc)(eA:uk (C.more L) Φ Ψ aj ag sc A body)(S:SS (C.more L) aj ag sc ae W ad s)(hD:dC ae)(m:Mv (C.more L) dR aA W s){src:Dat}{pre rest:List Dat}{bX kY:ax}(h1:ev Φ sc it ae=Xd src)(hit:bP src=Xd (pre++d::rest))(hr:runs (jV Φ Ψ sc t body) pre ae=Xd bX)(hb:bL sc t d bX=Xd kY)(hz:∀W ad s,Mv (C.more L) dR aA W s->SS (C.more L) aj ag sc kY W ad s->dC kY->aP (VB pw Wd) A (execs body ag) (λf s=>False) (Rz C aH X (ag::fs)) s):aP (VB pw Wd) A (exec (.For t it body [] pos) ag) (λf s=>False) (Rz C aH X (ag::fs)) s:=by
 simp only[exec_For];refine ab (au (ab (bZ hC hO hF hA it e S.bO h1 _ _ λv s2 x1 r1=>?_)));have kf:∀es k p,it≠.Set es k p:=by rintro es k p rfl;exact aa h1
 refine xR (fq kf _) (ab (ao (ab (au (ab (az ?_))))));have S1:=S.ex x1;refine oj (W:=λa=>W a\/(C.more L).T a\/(C.more L).fr a) (.rep r1) hit (λa q=>q.elim (λq=>S1.bO.vo.there a (.inr q)) λq=>S1.bO.vo.there a (S1.bO.vo.tf a q)) (λa ha q=>r1.xD hit ha (q.elim .inr λq=>S1.bO.vo.tf a q)) λI h2 hI ur xI=>?_;have x2:Ex (C.more L) s2 {s2 with heap:=h2}:=.of_keep ur rfl rfl;have nv:=S1.bO.vo.new hI;have nT:=λq=>nv (.inl (S1.tabs I q));have n0:(C.more L).h₀.get? I=Xe:=by cases q:(C.more L).h₀.get? I with|none=>rfl|some o=>have:=S1.bO.bs.keep I o q nT;replace this:=hI.symm.trans this;exact aa this
 refine eY ?_ nsm;have rF:=λq=>nv (.inl q);refine As hA e hI nT n0 rF eA (λW' C9 s' x' S' hO' m'=>?_) pre ae W ad {s2 with heap:=h2} xI (S1.ex x2) hD (.iG x2) hr;have mm:=λ{W s}(q:Mv (C.more L) W' s' W s)=>((m.trans (.iG x1)).trans m').trans q;refine Au hA e hI nT n0 rF x' S' hO' m' hb (λs3 m3 S3 I3=>hz W' C9 s3 ((m.trans (.iG x1)).trans m3) S3 I3) λv s3 r=>n8 r z.bs z.top λs4 r4=>JQ r4 λs5 r5=>r5.rz
theorem uP{it:Expr}{body:List VW}{Z:VO->VY->Prop}(hr:aP (VB pw Wd) A (eval it ag) (λv s=>False) Z s):aP (VB pw Wd) A (exec (.For t it body [] pos) ag) (λf s=>False) Z s:=by simp only[exec_For];exact ab (au (ab (aE hr (λv s f=>f.elim) λv s z=>z)))
theorem zK(z:kA C aH L dR aA fs ag A)(hC:(C.more L).Plain)(hO:cA (C.more L) n)(hF:cu (C.more L) Φ n)(hA:dD (C.more L) n A){fp:Pos}{es:List Expr}{a b:Int}(e:aR ag sc)(S:SS (C.more L) aj ag sc ae W ad s)(m:Mv (C.more L) dR aA W s)(hf:sc.names.lookup ("range":VV)=Xd .globalImplicit)(h1:kn Φ sc es ae=Xd [.int a,.int b,.int 0]):aP (VB pw Wd) A (eval (.Call (.Name "range" fp) es [] p) ag) (λv s=>False) (Rz C aH "ValueError" (ag::fs)) s:=by
 have kf:=iB (pos:=p) (il (ag:=ag) h1);refine ab (dX hC.ok e S.bO.bs hf (by decide) (hC.none "range" (by decide)) (hC.b (v:=.type "range") (by kernel_rfl) (by decide)) (cf (λx q=>by rcases q with⟨⟩) kf (cq kf (l7 e (λy u=>bZ hC.ok hO hF hA y) S.bO h1) _ _ λz' s2 x1 r1=>?_)));obtain⟨ps,kw⟩:=z';refine aU r1 ?_;clear r1;rintro(rfl)rr;have S1:=S.ex x1;cases rr with|cons r1 rs=>?_
 cases rs with|cons r2 rs=>?_
 cases rs with|cons r3 rs=>?_
 cases rs;refine aI (r1.flat nofun nofun).eQ ?_;rintro t1(rfl);refine aI (r2.flat nofun nofun).eQ ?_;rintro t2(rfl);refine aI (r3.flat nofun nofun).eQ ?_;rintro t3(rfl);exact aq (qZ hA.handled λh' tk e ne=>z.raise (m.trans (.iG x1)) S1.bO.bs ne)
theorem Rf.tail(r:Rf C aH X (ag::fs) v s):Rf C aH X fs v s:=r.elim λe y=>⟨e,y.1,y.2.1,y.2.2.1,λf hm=>y.2.2.2 f (Yv _ hm)⟩
theorem Rf.base(bs:Bs C aH)(x:Ex C aH aA)(r:Rf C aA X fs v s):Rf C aH X fs v s:=r.elim λe y=>by
 refine⟨e,y.1,x.trans y.2.1,(y.2.2.1.elim λtb z=>⟨tb,z.1,⟨Ex.fresh bs x z.2.1.new,z.2.1.there⟩,⟨Ex.fresh bs x z.2.2.new,z.2.2.there⟩⟩),λf hm=>⟨(y.2.2.2 f hm).1,(y.2.2.2 f hm).2.elim λL z=>⟨L,z.1,z.2.1,z.2.2.imp id λq=>Ex.fresh bs x q⟩⟩⟩
def GA(C:Cx)(n:Nat)(f:VV)(X:String)(g:List Dat->Prop):Prop:=∃a o fd,C.mg f=Xd (.ref a)/\(f==("__debug__":VV))=false/\¬C.T a/\C.h₀.get? a=Xd o/\o.data=.func fd/\∀{A fs s ai vs ds},dD C n A->A.frames=Xd fs->Bs C s->bz C ai s->aK s.heap ai vs ds->g ds->aP (VB pw Wd) A (VH (.ref a) vs) (λv s'=>False) (Rf C s X fs) s
theorem t7{g:List Dat->Prop}{xs:List VV}{cd:VO}{params:Arguments}{body:List VW}{scope:V5}{f:VV}(hC:C.Plain)(hD:cF C f params body scope cd)(Uk:(f==("__debug__":VV))=false)(yO:kS scope)(hx:xs.Nodup)(hk:∀x∈xs,(scope.names.lookup x=Xd .local\/scope.names.lookup x=Xd .cell)/\(x==("__debug__":VV))=false/\(x==("__classdict__":VV))=false)(oy:∀vs pm doc,xs.length=vs.length->bindArgs (WK f params body scope pm cd doc) ⟨vs,[]⟩=pure (xs.zip vs))(hlen:∀ds,g ds->xs.length=ds.length)(eA:∀{fr L s dR aA fs ag A ai ad ds},kA (C.at fr) s L dR aA fs ag A->SS ((C.at fr).more L) ai ag scope (bq xs ds) dR ad aA->aR ag scope->dD ((C.at fr).more L) n A->kI ((C.at fr).more L) cd f ag A->g ds->aP (VB pw Wd) A (execs body ag) (λf s=>False) (Rz (C.at fr) s X (ag::fs)) aA):GA C (n+1) f X g:=by
 refine de hD λa o pm doc h1 h2 h3 y0=>aU y0 λh4 h5=>⟨a,o,_,h1,Uk,hC.ok.d7 h2 h3,h2,h4,λ{A fs s ai vs ds}hA Od bs V rs hg=>?_⟩;have hl:=hlen ds hg;refine kW (jx (B:=λaA=>Ex C s aA/\aK aA.heap ai vs ds) (by have:=hA.depth;exact bj 0x200291b0b02 this) (bs.keep a o h2 (hC.ok.d7 h2 h3)) h4 (bs.noLimit hC.ok) (bs.Ec hC.ok h5) rfl (by refine xR (oy vs pm doc (hl.trans rs.length.symm)) (ao ⟨rfl,.refl _,rs⟩)) (λaA hb=>(hb.1.bs bs).noLimit hC.ok) rfl (λaA hb p hp=>?_) (λs0 s1 hb ic=>?_) yO.co yO.gen yO.kind)
 ·obtain⟨x,v⟩:=p;refine Xa ((hk x (List.of_mem_zip hp).1).1) (λk1=>.inl k1) λk1=>?_
  ·refine .inr ⟨k1,?_⟩;refine aI (ef (n:=aA.heap.objs.size+1) (aY:=[]) (.inl (mem_of_lookup k1))) λc hc=>aI (eU hc) λc' l9=>xR l9 ?_;rfl
 ·have bs0:=hb.1.bs bs;refine aU (zz yO bs0 (V.ex hb.1 bs0) hb.2 hx hl hk ic) λS x1=>?_;have e:aR (callEnvC (WK f params body scope pm cd doc) s0.heap.objs.size a) scope:=wd yO rfl rfl;have FT:dD (C.more s0.heap.objs.size) n (A.deeper (callEnvC (WK f params body scope pm cd doc) s0.heap.objs.size a)):=hA.deeper yO.kind rfl (S.kF.fl);refine av hA.frames λfs' ZbP o6=>?_;obtain rfl:=Xc (Od.symm.trans ZbP);have top:(A.deeper (callEnvC (WK f params body scope pm cd doc) s0.heap.objs.size a)).frames=Xd ((callEnvC (WK f params body scope pm cd doc) s0.heap.objs.size a)::fs):=by show A.frames.map _=_;refine xR Od ?_;rfl
  have kO:∀b,FW (callEnvC (WK f params body scope pm cd doc) s0.heap.objs.size a) scope b->s0.heap.get? b=Xe:=λb z=>by
   cases e':s0.heap.get? b with
   |none=>rfl
   |some o'=>
    refine Xa z (λz=>?_) λy0=>?_
    ·have:b=s0.heap.objs.size:=z;rw[this,aJ]at e';exact aa e'
    ·refine av y0 λx y z=>?_;have:=ic.above x b (mem_of_lookup z);have h2:=this;rw[rh (Nat.le_of_lt h2)]at e';exact aa e'
  have z:kA C s s0.heap.objs.size (FW (callEnvC (WK f params body scope pm cd doc) s0.heap.objs.size a) scope) s1 fs (callEnvC (WK f params body scope pm cd doc) s0.heap.objs.size a) (A.deeper (callEnvC (WK f params body scope pm cd doc) s0.heap.objs.size a)):=⟨hb.1.trans x1,bs,Ex.fresh bs hb.1 (aJ _),λb q=>Ex.fresh bs hb.1 (kO b q),top,yO.kind,rfl,o6⟩;refine aE (eA z S e FT ⟨rfl,rfl,rfl,.inr rfl,fs,top⟩ hg) (λf s' hf=>hf.elim) λv s' r=>Ac r bs top λiF r''=>r''.tail
set_option backward.match.sparseCases true in
theorem uL{Q:WA->VY->Prop}{X T:String}(IX:isSubtype (.type T) (.type "BaseException")=pure true)(Ui:isSubtype (.type ((Manifest.find? T).elim "type" λx=>x.metatype)) (.type "tuple")=pure false)(ja:isSubtype (.type X) (.type T)=pure false)(h:∀E',aP (VB prog w) (A.mark (Xd (.ref e))) (eval t ag) (λc aA=>c=.type T/\aA.TypeIs (.ref e) X/\aP (VB prog w) A (handleBy (.ref e) ag rest) Q E aA) E' s):aP (VB prog w) A (handleBy (.ref e) ag (.ExceptHandler (Xd t) Xe Dq pos::rest)) Q E s:=by
 rw[handleBy];have L9:(Xd (VM e):Option VO)≠Xd byPass:=by intro q;rcases q with⟨⟩
 refine ab (az (eY (gK (aE (h _) (λc aA bF=>?_) λy y x=>x)) L9));refine bD bF ?_;rintro(rfl)hX hk;refine aq (wpAny_excMatches_type hX IX Ui ja ?_);refine ab (ao ?_);simp only[Bool.not_false,if_true];exact hk
theorem tH{g:List Dat->Prop}{f:VV}{es:List Expr}{q:Pos}(hC:C.Ok)(hO:cA C n)(hF:cu C Φ n)(hR:GA C n f X g)(hA:dD C n A)(Od:A.frames=Xd fs)(e:aR ag sc)(S:SS C aj ag sc ae W ad s)(hf:sc.names.lookup f=Xd .globalImplicit)(h1:dQ Φ sc es ae=Xd ds)(hg:g ds):aP (VB pw Wd) A (exec (.Expr (.Call (.Name f q) es [] p) pos) ag) (λf s=>False) (Rf C s X fs) s:=by refine EA hR λa o fd hm hd hT ho y0=>aU y0 λUu call=>zd (ab (ma hC e S.bO.bs hf hd hm (iz (En (λx hx y u=>bZ hC hO hF hA y) e S.bO h1 _ _ λx s1 x1 r1=>⟨⟨(S.ex x1).bO.bs.keep a o ho hT,Uu⟩,?_⟩)))) (iR e) rfl;obtain⟨ps,kw⟩:=x;refine aU r1 ?_;rintro(rfl)r1;exact aE (call hA Od (S.ex x1).bO.bs (S.ex x1).bO.vo r1 hg) (λv s2 z=>z.elim) λv s2 r=>r.base S.bO.bs x1
theorem Rf.typeIs(y:RL aH.heap s.heap e X):s.TypeIs (.ref e) X:=y.elim λtb z=>er z.2.1.there λo vs ho hc y1=>⟨o,ho,hc⟩
def Sp(Φ:fO)(f:VV)(es:List Expr)(gI gV:List Dat->Prop)[∀ds,Decidable (gI ds)][∀ds,Decidable (gV ds)](a b:VV):nu:=λsc ae=>if sc.names.lookup f=Xd .globalImplicit/\sc.names.lookup ("IndexError":VV)=Xd .globalImplicit/\sc.names.lookup ("ValueError":VV)=Xd .globalImplicit then(dQ Φ sc es ae).bind λds=>if gI ds then Xd (.ret (.str a))else if gV ds then Xd (.ret (.str b))else Xe else Xe
theorem Dz{x:VV}{kd:Nat}{E:VO->VY->Prop}{Q:WA->VY->Prop}(bs:Bs C aH)(x1:Ex C aH s)(hQ:∀f s',yU C aj ag sc W aH (.ret (.str x)) f s'->Q f s'):aP (VB pw Wd) A (execs [.Return (Xd (.Constant (.str x) kd p)) pos] ag) Q E s:=bW (kB (AH rfl _ _ λv s2 x2 r2=>hQ _ _ ⟨v,rfl,r2,(x1.trans x2).bs bs,W,.iG (x1.trans x2)⟩))
theorem BM{cd:VO}{name f:VV}{gI gV:List Dat->Prop}[iI:∀ds,Decidable (gI ds)][iV:∀ds,Decidable (gV ds)]{es:List Expr}{a b:VV}{q Pj p1 p2 p3 p4 p5 p6 p7 p8:Pos}{k1 k2:Nat}(hC:C.Plain)(hO:cA C n)(hF:cu C Φ n)(hI:GA C n f "IndexError" gI)(hV:GA C n f "ValueError" gV):wF C n (kI C cd name) (.Try [.Expr (.Call (.Name f q) es [] p) Pj] [.ExceptHandler (Xd (.Name "IndexError" p1)) Xe [.Return (Xd (.Constant (.str a) k1 p2)) p3] p4,.ExceptHandler (Xd (.Name "ValueError" p5)) Xe [.Return (Xd (.Constant (.str b) k2 p6)) p7] p8] [] [] pos,Sp Φ f es gI gV a b):=by
 revert name iI iV hC hO hF hI hV;refine no_implicit_lambda% (GR (bT (bT (bT (bT (bT zS neF) U8) U8) U8) U8) ?_ C Φ b a p6 k2 p7 p2 k1 p3 p5 p8 p1 p4 f gV gI es p Pj q n pos cd);generalize gE _ _=tt;dsimp only[Q9];generalize tt.1.1.1.1.1=C,tt.1.1.1.1.2=Φ,tt.1.1.1.2=b,tt.1.1.2.1.1=a,tt.1.1.2.1.2=p6,tt.1.1.2.2=k2,tt.1.2.1.1.1=p7,tt.1.2.1.1.2=p2,tt.1.2.1.2=k1,tt.1.2.2.1.1=p3,tt.1.2.2.1.2=p5,tt.1.2.2.2=p8,tt.2.1.1.1.1=p1,tt.2.1.1.1.2=p4,tt.2.1.1.2=f,tt.2.1.2.1.1=gV,tt.2.1.2.1.2=gI,tt.2.1.2.2=es,tt.2.2.1.1.1=p,tt.2.2.1.1.2=Pj,tt.2.2.1.2=q,tt.2.2.2.1.1=n,tt.2.2.2.1.2=pos,tt.2.2.2.2=cd;intro name iI iV hC hO hF hI hV;intro A ag hA hK aj sc ae W ad s fl e S hD h E Q hQ;refine aL h λQb h=>ak h λds h1 h=>hK.top.elim λfs top=>?_;have bs:=S.bO.bs;by_cases hg:gI ds
 ·rw[Vh hg]at h;obtain rfl:=Xc h;refine g8 (bW (aE (tH hC.ok hO hF hI hA top e S Qb.1 h1 hg) (λf s z=>z.elim) λv s1 r=>?_));refine n8 r.rz bs top λs2 r2=>km r2 λs3 r3=>r3.elim λea y=>bD y ?_;rintro(rfl)x3 y3;refine jM (X:="IndexError") (T:="IndexError") (by rw[VC];kernel_rfl) (by rw[VC];kernel_rfl) (by rw[VC];kernel_rfl) λE'=>dX hC.ok e (x3.bs bs) Qb.2.1 (by decide) (hC.none "IndexError" (by decide)) (hC.b (by kernel_rfl) (by decide)) ⟨rfl,Rf.typeIs y3.1,aq (pL x3 y3.1 λh' st=>λE''=>Dz bs st.1 hQ)⟩
 ·rw[Vg hg]at h;refine aL h λhg h=>?_;obtain rfl:=Xc h;refine g8 (bW (aE (tH hC.ok hO hF hV hA top e S Qb.1 h1 hg) (λf s z=>z.elim) λv s1 r=>?_));refine n8 r.rz bs top λs2 r2=>km r2 λs3 r3=>r3.elim λea y=>bD y ?_;rintro(rfl)x3 y3;refine uL (X:="ValueError") (T:="IndexError") (by rw[VC];kernel_rfl) (by rw[VC];kernel_rfl) (by rw[VC];kernel_rfl) λE'=>dX hC.ok e (x3.bs bs) Qb.2.1 (by decide) (hC.none "IndexError" (by decide)) (hC.b (by kernel_rfl) (by decide)) ⟨rfl,Rf.typeIs y3.1,?_⟩;refine jM (X:="ValueError") (T:="ValueError") (by rw[VC];kernel_rfl) (by rw[VC];kernel_rfl) (by rw[VC];kernel_rfl) λE'=>dX hC.ok e (x3.bs bs) Qb.2.2 (by decide) (hC.none "ValueError" (by decide)) (hC.b (by kernel_rfl) (by decide)) ⟨rfl,Rf.typeIs y3.1,aq (pL x3 y3.1 λh' st=>λE''=>Dz bs st.1 hQ)⟩
end
section
variable {aA:VY} {aV:W8} {fuel:Nat} {κ:Bool} {fs:List WH}
theorem E8{step:Dat->ax->Option Fl}(h:step d V=Xd (.next V')):runs step (d::ds) V=runs step ds V':=by show((step d V).bind _)=_;rw[h];rfl
theorem M4{w:Nat}(hw:0<w)(hl:b.length<=aS):∀(m q:Nat)(V K:ax)(r:List UInt8)(D:Nat->Prop),(q+m)*w<=b.length->ON K->bR V (K++cj r κ b w)->fN b w D r->∃V' K' r' D',runs (jV (cV aV fuel) ml br (dF (aw bU 1)) jz) ((Yb q m).map λk:Nat=>Dat.int ((k*w:Nat):Int)) V=Xd V'/\ON K'/\bR V' (K'++cj r' κ b w)/\fN b w D' r':=by
 intro m;induction m with
 |zero=>exactλq V K r D hj hK hV hr=>⟨V,K,r,D,rfl,hK,hV,hr⟩
 |succ m ih=>
  intro q V K r D hj hK hV hr;have e1:(q+(m+1))*w=(q+1+m)*w:=by congr 1;exact aO 0x190bb91b0b21
  have e2:=Nat.succ_mul q w;have e3:(q+1+m)*w=(q+1)*w+m*w:=Nat.add_mul ..;rw[e1]at hj;refine jg (AY (aV:=aV) (fuel:=fuel) (q:=q) hw hl (Xy (by rw[e3,e2];exact XF _ _) hj) hr hK hV) λV1 K1 r1 h1 RE Oo L6=>(ih (q+1) V1 K1 r1 _ hj RE Oo L6).elim λV2 y=>y.elim λK2 y=>y.elim λr2 y=>y.elim λD2 y=>⟨V2,K2,r2,D2,?_,y.2⟩;rw[List.range'_succ,YC,E8]
  ·exact y.1
  ·exact h1
theorem QV:∃xp i q value pos,aw uW 0=.Assign [.Subscript (.Name "swapped_data" xp) i q] value pos/\pH value=false/\(∀(r b:List UInt8)(w i0 j:Int),ev (cV aV fuel) br value ((("j":VV),.val (.int j))::(("i":VV),.val (.int i0))::cj r κ b w)=ej (q6 κ b) (.int (i0+j)))/\(∀(r b:List UInt8)(w i0 j:Int),ev (cV aV fuel) br i ((("j":VV),.val (.int j))::(("i":VV),.val (.int i0))::cj r κ b w)=Xd (.int (i0+w-1-j))):=⟨_,_,_,_,_,rfl,rfl,λr b w i0 j=>rfl,λr b w i0 j=>rfl⟩
theorem JW{w:Int}(hl:b.length<=aS):ex (cV aV fuel) ml br (aw bU 0) (bq ["data","width"] [q6 κ b,.int w])=Xd (.next (cj (X0 b.length 0) κ b w)):=by
 have e0:kn (cV aV fuel) br [yG (aw bU 0)] (bq ["data","width"] [q6 κ b,.int w])=(lF [q6 κ b]).bind λd=>Xd [d]:=by rfl
 rw[fR hl,Xh]at e0;have e1:ex (cV aV fuel) ml br (aw bU 0) (bq ["data","width"] [q6 κ b,.int w])=((kn (cV aV fuel) br [yG (aw bU 0)] (bq ["data","width"] [q6 κ b,.int w])).bind λds=>(newD "bytearray" ds).bind λd=>bV br "swapped_data" (.own d) (bq ["data","width"] [q6 κ b,.int w])).map .next:=by rfl
 rw[e1,e0,Xh];have e2:newD "bytearray" [.int (b.length:Int)]=Xd (.bg (X0 b.length 0)):=by show(if 0<=(b.length:Int)/\(b.length:Int)<=(aS:Int)then Xd (Dat.bg (X0 (b.length:Int).toNat 0))else Xe)=_;rw[Vh ⟨by exact aZ 0xaf881,by exact aO 0x1af0af81012 hl⟩];rfl
 rw[e2];rfl
theorem QU:∃fp es p,cY (aw bU 1)=.Call (.Name "range" fp) es [] p/\∀(r b:List UInt8)(w:Int),kn (cV aV fuel) br es (cj r κ b w)=((lF [q6 κ b]).bind λd=>Xd [d,Dat.int w]).map λds=>Dat.int 0::ds:=⟨_,_,_,rfl,λr b w=>rfl⟩
def gV:List Dat->Option Dat:=Nl λx y=>(Nk x).bind λb=>(Ni y).bind λw=>if w=0/\b.2.length<=aS then Xd .none else Xe
def gI:List Dat->Option Dat:=Nl λx y=>(Nk x).bind λb=>(Ni y).bind λw=>if w=11/\b.2.length=76 then Xd .none else Xe
theorem Iu{K:ax}(hK:ON K)(x:VV)(h1:x≠"i")(h2:x≠"j")(V:ax):(K++V).lookup x=V.lookup x:=by
 have b1:=beq_eq_false_iff_ne.mpr h1;have b2:=beq_eq_false_iff_ne.mpr h2;rcases hK with rfl|⟨J,d,rfl|⟨d1,rfl⟩,rfl⟩
 ·rfl
 ·simp only[Yh,Zt,YF,b1]
 ·simp only[Yh,Zt,YF,b1,b2]
end
section
variable {aA:VY} {aV:W8} {fuel:Nat} {κ:Bool} {fs:List WH} {cd:VO} {b:List UInt8}
theorem Ee{w:Int}{Z:VO->VY->Prop}(hC:C.Plain)(hF:cu C (cV aV fuel) n)(hA:dD C n A)(e:aR ag br)(S:SS C aj ag br (bq ["data","width"] [q6 κ b,.int w]) W ad s)(hl:b.length<=aS)(hz:∀W' C9 s',Mv C W s W' s'->SS C aj ag br (cj (X0 b.length 0) κ b w) W' C9 s'->dC (cj (X0 b.length 0) κ b w)->aP (VB pw Wd) A (exec (.For (dF (aw bU 1)) (cY (aw bU 1)) jz [] (ki (aw bU 1))) ag) (λf s=>False) Z s'):aP (VB pw Wd) A (execs bU ag) (λf s=>False) Z s:=by rw[Ef];refine bW (NT hC.ok lD hF (Dr hC) hA (dY.none (K:=λx y=>True) hA trivial) (jK rfl) e _ aj _ (Xs _) S (qu _ _) (JW hl) _ _ λf s' hf=>?_);refine aU hf ?_;rintro(rfl)hg;refine er hg λW' C9 m S' hO=>bW (aE (hz W' C9 s' m S' hO) (λf s z=>z.elim) λv s z=>z)
theorem Gh(hC:C.Plain)(hp:Re.fM C.h₀ aV c)(hg:C.mg "_twin_re_1"=Xd (.ref aV))(hD:cF C "_byteswap" (argsAt pw NY) bU br cd):GA C (n+1) "_byteswap" "ValueError" (λds=>(gV ds).isSome=true):=by
 refine t7 (xs:=[("data":VV),"width"]) hC hD (by decide) JT (by decide) (by decide +kernel) (λvs pm doc hl=>?_) (λds hg=>?_) (λ{fr L s dR aA fs ag A ai ad ds}z S e hA hK hgv=>?_)
 ·refine kK (RG hl.symm) ?_;rintro v u(rfl);rfl
 ·refine eT (lW (Option.some_get hg).symm) λx y e h=>?_;subst e;rfl
 ·refine eT (lW (Option.some_get hgv).symm) λx y e1 h=>ak h λb h1 h=>ak h λw h2 h=>aL h λhc hz=>?_;obtain rfl:=ue h1;obtain rfl:=ud h2;subst e1;refine aU hc ?_;rintro(rfl)hl;have I4:((C.at fr).more L).Plain:=hC.at _;have hF:=pK (fuel:=0) (n:=n) I4 hp hg;refine Ee I4 hF hA e S hl λW' C9 s' m S' hO=>uP ((QU (aV:=aV) (fuel:=0) (κ:=b.1)).elim λfp y=>y.elim λes y=>y.elim λp y=>?_);rw[y.1];refine zK (a:=0) (b:=(b.2.length:Int)) z I4 lD hF hA e S' m (by decide +kernel) ?_;rw[y.2,fR hl];rfl
theorem FI{K V:ax}{a c:Slot}(hK:ON K):bR ((("j":VV),a)::(("i":VV),c)::(K++V)) ((("j":VV),a)::(("i":VV),c)::V):=λx=>by
 rw[YF,YF,YF,YF];cases hj:x==("j":VV)with
 |true=>rfl
 |false=>cases hi:x==("i":VV)with|true=>rfl|false=>exact Iu hK x (beq_eq_false_iff_ne.mp hi) (beq_eq_false_iff_ne.mp hj) V
theorem M5{w:Int}:ev (cV aV fuel) br (cY (aw bU 1)) (cj r κ b w)=(((lF [q6 κ b]).bind λd=>Xd [d,Dat.int w]).map λds=>Dat.int 0::ds).bind j0:=by rfl
theorem TV:bP (.range 0 76 11)=Xd (((Yb 0 6).map λk:Nat=>Dat.int ((k*11:Nat):Int))++ .int 66::[]):=by kernel_rfl
theorem TX:bP (.range 0 11 1)=Xd ([]++ .int 0::(Yb 1 10).map λk:Nat=>Dat.int (k:Int)):=by kernel_rfl
theorem Gi(hC:C.Plain)(hp:Re.fM C.h₀ aV c)(hg:C.mg "_twin_re_1"=Xd (.ref aV))(hD:cF C "_byteswap" (argsAt pw NY) bU br cd):GA C (n+1) "_byteswap" "IndexError" (λds=>(gI ds).isSome=true):=by
 refine t7 (xs:=[("data":VV),"width"]) hC hD (by decide) JT (by decide) (by decide +kernel) (λvs pm doc hl=>?_) (λds hg=>?_) (λ{fr L s dR aA fs ag A ai ad ds}z S e hA hK hgv=>?_)
 ·refine kK (RG hl.symm) ?_;rintro v u(rfl);rfl
 ·refine eT (lW (Option.some_get hg).symm) λx y e h=>?_;subst e;rfl
 refine eT (lW (Option.some_get hgv).symm) λx y e1 h=>ak h λbb h1 h=>ak h λw h2 h=>aL h λhc hz=>?_;obtain rfl:=ue h1;obtain rfl:=ud h2;subst e1;obtain⟨κ,b⟩:=bb;refine aU hc ?_;rintro(rfl)(Us:b.length=76);have hl:b.length<=aS:=by rw[Us];decide
 have I4:((C.at fr).more L).Plain:=hC.at _;have hF:=pK (fuel:=0) (n:=n) I4 hp hg;have hs:∀b:List VW,uk ((C.at fr).more L) (cV aV 0) ml ai ag br A b:=λb=>vZ I4.ok lD hF (Dr I4) hA (dY.none (K:=λx y=>True) hA trivial) (jK rfl) e b;refine Ee I4 hF hA e S hl λW' C9 s' m S' hO=>(M4 (aV:=aV) (fuel:=0) (by decide) hl 6 0 (cj (X0 b.length 0) κ b ((11:Nat):Int)) [] _ (λx=>False) (by rw[Us];decide) (.inl rfl) (.refl _) ⟨by simp,λx y h=>h.elim⟩).elim λV1 y=>y.elim λK1 y=>y.elim λr1 y=>y.elim λD1 y=>nE y λhr RE Oo hH1=>vW z I4.ok lD hF hA e (hs jz) S' hO m (by rw[M5,fR hl,Us];rfl) TV hr rfl λW3 OJ s3 m3 S3 I3=>?_;rw[JV];refine bW (aE (vW z I4.ok lD hF hA e (hs uW) S3 I3 m3 ?_ TX rfl rfl λW5 ad5 s5 m5 S5 hO5=>?_) (λf s z=>z.elim) λv s z=>z)
 ·rw[cJ (Oo.cons _ _)];rcases RE with rfl|⟨J,d,rfl|⟨d1,rfl⟩,rfl⟩<;>rfl
 have hV5:bR ((("j":VV),.val (.int 0))::(("i":VV),.val (.int 66))::V1) ((("j":VV),.val (.int 0))::(("i":VV),.val (.int 66))::cj r1 κ b 11):=((Oo.cons _ _).cons _ _).trans (FI RE);rw[OG];refine bW (aE (?_:aP _ _ _ (λf s=>False) (Rz (C.at fr) s "IndexError" (ag::fs)) s5) (λf s z=>z.elim) λv s z=>z);refine(QV (aV:=aV) (fuel:=0) (κ:=κ)).elim λxp y=>y.elim λi y=>y.elim λq y=>y.elim λvalue y=>y.elim λpos y=>nE y λe1 e2 e3 e4=>?_;rw[e1];refine vg (j:=76) (c:=((b.getD 66 0).toNat:Int)) z I4.ok lD hF hA e S5 m5 e2 ((hV5 _).trans rfl) ?_ ?_ ⟨by decide,?_,by decide,by exact aZ 0xaf881,?_⟩
 ·rw[cJ hV5,e3];exact sZ (by rw[Us];decide) hl
 ·rw[cJ hV5,e4];rfl
 ·rw[hH1.1,Us];decide
 ·have:=(b.getD 66 0).toNat_lt;omega
end
end Mine.Internal
namespace Mine.Internal
namespace Tx
section
open PySem PySem.W PyProof.Rows PySem.Builtin PySem.Builtin.Str
open Mine.Internal.Re (eW dH nd find cut BX)
theorem xf(c d:Nat):∀l:List Nat,jX [c] [d] 0 l=l.map λx=>if x=c then d else x
 |[]=>rfl
 |x::r=>by
  simp only[lp,Vg (Xx 0),YC];by_cases h:x=c
  ·subst h;refine xR (Vh (by simp[YV])) (xR (Vh rfl) ?_);show d::jX [x] [d] 0 r=_;simp only[xf]
  ·rw[Vg (by simp[YV];exactλq=>h q.symm),Vg h,xf]
theorem mV:∀{y:List Nat}(a b:List Nat),s∉y->y.isPrefixOf (a++s::b)=y.isPrefixOf a
 |[],a,b,_=>by rcases a with⟨⟩<;>simp[YV]
 |c::y,[],b,h=>by have:¬c=s:=λq=>h (q▸Yu);simp[YV,this]
 |c::y,x::a,b,h=>by simp only[Zt];dsimp only[YV];exact xR (mV a b λq=>h (Yv _ q)) rfl
theorem xe(hs:s∉y)(hy:y≠[]):∀(a b:List Nat)(k:Nat),k<=a.length->jX y z k (a++s::b)=jX y z k a++s::jX y z 0 b:=by
 intro a;induction a with
 |nil=>
  intro b k hk;have:k=0:=by simpa using hk
  subst this;have e0:jX y z 0 ([]:List Nat)=[]:=rfl;rw[e0,Yh,Yh];conv=>lhs;rw[lp]
  rw[Vg (Xx 0)];have h0:=mV [] b hs;rw[Yh]at h0;have h1:y.isPrefixOf ([]:List Nat)=false:=by(rcases y with⟨⟩;(case nil=>exact absurd rfl hy);(case cons _ _=>rfl))
  rw[h0,h1,Vg ZP]
 |cons c a ih=>
  intro b k hk;rw[Zt,lp,lp];by_cases h0:0<k
  ·rw[Vh h0,Vh h0];exact ih b (k-1) (by simp at hk;exact aO 0x190c191b012 hk)
  ·rw[Vg h0,Vg h0];have hp:=mV (c::a) b hs;rw[Zt]at hp;rw[hp];split
   ·rename_i h1;have hl:y.length<=a.length+1:=by have:=List.isPrefixOf_iff_prefix.mp h1;simpa using this.length_le
    rw[ih b (y.length-1) (by exact aO 0x190c191b012 hl),Zv]
   ·rw[ih b 0 (Xk _),Zt]
noncomputable def jn(s:Nat):List (List Nat)->List Nat|[]=>[]|[a]=>a|a::b::r=>a++s::jn s (b::r)
theorem PR:jn s [a]=a:=rfl
theorem Ce(hs:f s=s):∀l:List (List Nat),(jn s l).map f=jn s (l.map (·.map f))|[]=>rfl|[a]=>rfl|a::b::r=>by exact xR YE (xR YC (xR hs (xR (Ce hs (b::r)) rfl)))
theorem Cc(hs:s∉y)(hy:y≠[]):∀l:List (List Nat),jX y z 0 (jn s l)=jn s (l.map (jX y z 0))|[]=>rfl|[a]=>rfl|a::b::r=>by exact xR (xe hs hy a _ 0 (Xk _)) (xR (Cc hs hy (b::r)) rfl)
theorem join_list(s:Nat):∀l:List VV,(VU ⟨#[s]⟩ l).cps.toList=jn s (l.map (·.cps.toList))|[]=>rfl|[a]=>rfl|a::b::r=>by show(a++⟨#[s]⟩++VU ⟨#[s]⟩ (b::r)).cps.toList=a.cps.toList++s::jn s ((b::r).map (·.cps.toList));simp only[VV.cps_append,ZW];simp only[join_list s (b::r)];simp
noncomputable def sq:List Nat->List Nat|[]=>[]|c::r=>if c=45/\r.head?=Xd 45 then sq r else c::sq r
theorem nP:sq (c::r)=if c=45/\r.head?=Xd 45 then sq r else c::sq r:=rfl
def hv:List Nat->List Nat:=jX [45,45] [45] 0
theorem PV(r:List Nat):hv (45::45::r)=45::hv r:=by show jX [45,45] [45] 0 (45::45::r)=_;rw[lp,Vg (Xx 0),Vh (by simp[YV])];rw[lp,Vh (by decide)];rfl
theorem IC(h:¬(c=45/\r.head?=Xd 45)):hv (c::r)=c::hv r:=by
 show jX [45,45] [45] 0 (c::r)=_;rw[lp,Vg (Xx 0),Vg]
 ·rfl
 ·intro q;apply h;rcases r with⟨⟩;case nil=>simp[YV]at q
  case cons=>simp[YV]at q;exact⟨q.1.symm,by simp only[List.head?_cons,q.2]⟩
set_option tactic.hygienic true in
theorem tc:∀(n:Nat)(l:List Nat),l.length<=n->(hv l).head?=l.head? /\sq (hv l)=sq l/\(hv l).length<=l.length/\((hv l).length=l.length->sq l=l)/\∀x∈hv l,x∈l
 |_,[],_=>⟨rfl,rfl,Xz _,λy=>rfl,λx hx=>hx⟩
 |n+1,c::r,hn=>by
  by_cases h:c=45/\r.head?=Xd 45
  ·refine aU h ?_;rintro(rfl)h2;rcases r with⟨⟩;case nil=>exact aa h2
   case cons d r=>
    rw[List.head?_cons,Xb]at h2;subst h2;refine rQ (tc n r (by simp at hn;exact aO 0x101190b12 hn)) λh1 h2 h3 h4 h5=>?_;rw[PV];refine⟨rfl,?_,by simp;exact aO 0x91b011012 h3,λq=>by simp at q;exact(aO 0x691b021013 h3 q).elim,λx hx=>?_⟩
    ·have e:sq (45::45::r)=sq (45::r):=by rw[nP,Vh ⟨rfl,rfl⟩]
     rw[e,nP,nP,h1,h2]
    ·refine Xa (Yw.mp hx) (λq=>?_) λq=>?_
     ·rw[q];exact Yu
     ·exact Yv _ (Yv _ (h5 x q))
  ·refine rQ (tc n r (by simp at hn;assumption)) λh1 h2 h3 h4 h5=>?_;rw[IC h];refine⟨rfl,?_,by simp;assumption,λq=>?_,λx hx=>?_⟩
   ·rw[nP,nP,h1,Vg h,Vg h,h2]
   ·rw[nP,Vg h,h4 (by simpa using q)]
   ·refine Xa (Yw.mp hx) (λq=>?_) λq=>?_
    ·rw[q];exact Yu
    ·exact Yv _ (h5 x q)
theorem ib(t:VV):V8 t=true↔∀x∈t.cps.toList,x<0x110000:=by unfold V8;rw[Array.all_eq_true'];simp
theorem gN{t u:VV}(h:t.cps.toList=u.cps.toList):t=u:=VV.ext' (Array.toList_inj.mp h)
theorem len_list(t:VV):t.length=t.cps.toList.length:=by simp[VT]
theorem Bx:∀(k:Nat)(t:VV),t.length<k->t.length<=aS->V8 t=true->ie k t=Xd ⟨(sq t.cps.toList).toArray⟩:=by
 intro k;induction k with
 |zero=>exactλt h _ _=>absurd h (Xn _)
 |succ k Aj=>
  refineλt h hc ho=>rQ (tc _ t.cps.toList (Xz _)) λh1 h2 h3 h4 h5=>?_;have hr:(VR t "--" "-").cps.toList=hv t.cps.toList:=jY t "--" "-" (by decide);have o5:V8 (VR t "--" "-")=true:=by rw[ib,hr];exactλx hx=>(ib t).mp ho x (h5 x hx)
  refine(Vh ⟨hc,ho,o5⟩:ie (k+1) t=_).trans ?_;by_cases he:VR t "--" "-"=t
  ·rw[Vh he];have:hv t.cps.toList=t.cps.toList:=by rw[<-hr,he]
   rw[h4 (by rw[this])]
  ·rw[Vg he];have je:(hv t.cps.toList).length<t.cps.toList.length:=by
    refine Xa (Nat.lt_or_ge (hv t.cps.toList).length t.cps.toList.length) (λq=>q) λq=>?_
    ·exfalso;apply he;apply gN;rw[hr];have hq:(hv t.cps.toList).length=t.cps.toList.length:=aO 0x1020111013 h3 q;have e1:=h4 hq;have key:∀l:List Nat,sq l=l->hv l=l:=by
      intro l;induction l with
      |nil=>intro _;rfl
      |cons c r ih=>
       intro hs;have jI:¬(c=45/\r.head?=Xd 45):=by
        intro q;rw[nP,Vh q]at hs;have hle:∀m:List Nat,(sq m).length<=m.length:=by
         intro m;induction m with
         |nil=>exact Xz _
         |cons d m im=>
          rw[nP];split
          ·simp;exact aO 0x91b011012 im
          ·simp;assumption
        have:=hle r;rw[hs]at this;simp at this;exact aZ 0x6090b12 this
       rw[nP,Vg jI]at hs;rw[IC jI,ih (List.cons.inj hs).2]
     exact key _ e1
   have e:=Aj (VR t "--" "-") (by rw[len_list,hr];rw[len_list]at h;exact bj 0x12002091b003 h je) (by rw[len_list,hr];rw[len_list]at hc;exact bj 0x1210201013 hc je) o5;rw[e,hr,h2]
mutual
def go:List Nat->List Nat->List (List Nat)
 |g,[]=>[g]
 |g,c::r=>if eW c then g::Aq [c] r else if dH c then g::[c]::go [] r else go (g++[c]) r
def Aq:List Nat->List Nat->List (List Nat)
 |d,[]=>[d,[]]
 |d,c::r=>if eW c then Aq (d++[c]) r else d::(if dH c then[]::[c]::go [] r else go [c] r)
end
theorem Mj{g:List Nat}:go g []=[g]:=rfl
theorem uN{g r:List Nat}:go g (c::r)=if eW c then g::Aq [c] r else if dH c then g::[c]::go [] r else go (g++[c]) r:=rfl
theorem Ot{d:List Nat}:Aq d []=[d,[]]:=rfl
theorem qD{d r:List Nat}:Aq d (c::r)=if eW c then Aq (d++[c]) r else d::(if dH c then[]::[c]::go [] r else go [c] r):=rfl
set_option tactic.hygienic true in
theorem Qs(d:List Nat)(l:List Nat)(h:∀c,l.head?=Xd c->eW c=false):Aq d l=d::go [] l:=by
 rcases l with⟨⟩;case nil=>rfl
 case cons c r=>have hc:=h c rfl;simp only[qD,hc,Vg ZP,uN,hc,Vg ZP];rfl
theorem I5:(∀(l g b:List Nat),go g (l++45::b)=go g l++[45]::go [] b)/\∀(l d b:List Nat),Aq d (l++45::b)=Aq d l++[45]::go [] b:=by
 have key:∀(l:List Nat),(∀g b,go g (l++45::b)=go g l++[45]::go [] b)/\∀d b,Aq d (l++45::b)=Aq d l++[45]::go [] b:=by
  intro l;induction l with
  |nil=>
   refine⟨λg b=>?_,λd b=>?_⟩
   ·have e1:go g ([]:List Nat)=[g]:=rfl;simp only[e1,Yh];conv=>lhs;simp only[uN]
    refine xR (Vg (by decide)) (xR (Vh (by decide)) ?_);rfl
   ·have e1:Aq d ([]:List Nat)=[d,[]]:=rfl;simp only[e1,Yh];conv=>lhs;simp only[qD]
    refine xR (Vg (by decide)) (xR (Vh (by decide)) ?_);rfl
  |cons c r ih=>
   refine⟨λg b=>?_,λd b=>?_⟩
   ·simp only[Zt,uN];split
    ·refine xR (ih.2 _ _) ?_;rfl
    ·split
     ·refine xR (ih.1 _ _) ?_;rfl
     ·exact xR (ih.1 _ _) rfl
   ·simp only[Zt,qD];split
    ·exact xR (ih.2 _ _) rfl
    ·split
     ·refine xR (ih.1 _ _) ?_;rfl
     ·refine xR (ih.1 _ _) ?_;rfl
 exact⟨λl=>(key l).1,λl=>(key l).2⟩
end
section
open PySem PySem.W PyProof.Rows PySem.Builtin PySem.Builtin.Str
open Mine.Internal.Re (eW dH nd find cut BX)
variable {text:Array Nat}
theorem gS(h:s<text.size):text.toList.drop s=text.getD s 0::text.toList.drop (s+1):=by have:s<text.toList.length:=h;refine xR (Zn this) ?_;simp[Array.getD,h]
theorem Qr:∀(n s:Nat)(d:List Nat),s+n=text.size->Aq d (text.toList.drop s)=(d++(text.toList.drop s).take (nd text n s))::go [] (text.toList.drop (s+nd text n s)):=by
 intro n;induction n with
 |zero=>
  intro s d h;have e:text.toList.drop s=[]:=by rw[List.drop_eq_nil_iff];simp;exact aO 0x11180b22 h
  simp[show nd text 0 s=0 from rfl,e,Ot,Mj]
 |succ n ih=>
  intro s d h;have hs:s<text.size:=bj 0x200291b0b22 h;rw[Re.B2];cases hd:eW (text.getD s 0)with
  |true=>rw[Vh rfl,gS hs,qD,hd,Vh rfl,ih (s+1) _ (by exact bj 0x2190bb2291b0b22 h)];rw[XJ (nd text n (s+1)) 1,XK,XJ 1 (nd text n (s+1)),XN,Zv];rfl
  |false=>
   rw[Vg ZP];rw[Qs]
   ·simp
   ·intro c hc;rw[gS hs,List.head?_cons,Xb]at hc;rw[<-hc];exact hd
theorem Mn:∀(n s:Nat)(g:List Nat),s+n=text.size->match find text n s with
  |none=>go g (text.toList.drop s)=[g++text.toList.drop s]|some (p,e)=>s<=p/\p<=e/\e<=text.size/\go g (text.toList.drop s)=(g++(text.toList.drop s).take (p-s))::(text.toList.drop p).take (e-p)::go [] (text.toList.drop e):=by
 intro n;induction n with
 |zero=>
  intro s g h;have e:text.toList.drop s=[]:=by rw[List.drop_eq_nil_iff];simp;exact aO 0x11180b22 h
  simp[show find text 0 s=Xe from rfl,e,Mj]
 |succ n Aj=>
  intro s g h;have hs:s<text.size:=bj 0x200291b0b22 h;rw[Re.CB];cases hd:eW (text.getD s 0)with
  |true=>
   rw[Vh rfl];have Uk:=Re.NR text (n+1) s;refine⟨Xz _,XF _ _,by exact eg 0x230b191b31291b0b23 rfl h Uk,?_⟩;rw[gS hs,uN,hd,Vh rfl,Qr n (s+1) _ (by exact bj 0x2190bb2291b0b22 h)];have e1:nd text (n+1) s=nd text n (s+1)+1:=by rw[Re.B2,hd,Vh rfl]
   rw[e1,<-gS hs,XI,Nat.sub_self,List.take_zero,Zu];congr 2
   ·rw[gS hs,XN];rfl
   ·congr 2;exact aO 0x91b0b190bb21
  |false=>
   rw[Vg ZP];cases hp:dH (text.getD s 0)with
   |true=>rw[Vh rfl];refine⟨Xz _,by exact aZ 0x90b011,by exact aO 0x190b11002 hs,?_⟩;rw[Nat.sub_self,List.take_zero,Zu,XI];rw[gS hs,uN,hd,Vg ZP,hp,Vh rfl];rfl
   |false=>
    rw[Vg ZP];have ih:=Aj (s+1) (g++[text.getD s 0]) (bj 0x2190bb2291b0b22 h);have e0:go g (text.toList.drop s)=go (g++[text.getD s 0]) (text.toList.drop (s+1)):=by rw[gS hs,uN,hd,Vg ZP,hp,Vg ZP]
    cases hf:find text n (s+1)with
    |none=>rw[hf]at ih;rw[e0,ih,gS hs];simp
    |some r=>obtain⟨p,e⟩:=r;rw[hf]at ih;refine nE ih λi1 i2 i3 i4=>⟨by exact aO 0x101190b12 i1,i2,i3,?_⟩;rw[e0,i4,gS hs,show p-s=(p-(s+1))+1 by exact aO 0x990b1cb01c2190b12 i1,XN];simp
theorem oN(a b:Nat):(cut text a b)=⟨((text.toList.drop a).take (b-a)).toArray⟩:=by unfold cut;apply gN;rw[Array.toList_extract,Zk]
theorem Pn:∀(k last:Nat),text.size-last<=k->last<=text.size->BX text text.size k last=(go [] (text.toList.drop last)).map λl=>(⟨l.toArray⟩:VV):=by
 intro k;induction k with
 |zero=>
  intro last h hl;have:last=text.size:=aO 0x12011810c13 h hl;subst this;rw[show BX text text.size 0 text.size=[Re.cut text text.size text.size]from rfl,oN];have e:text.toList.drop text.size=[]:=by rw[List.drop_eq_nil_iff];simp
  rw[e];simp[Mj]
 |succ k ih=>
  intro last h hl;rw[Re.DD];have hg:=Mn (text.size-last) last [] (aO 0x101c0b21012 hl);cases hf:find text (text.size-last) last with
  |none=>rw[hf]at hg;rw[hg,oN,XO (by simp)];simp
  |some r=>obtain⟨p,e⟩:=r;rw[hf]at hg;dsimp only[Option.elim]at hg ⊢;refine nE hg λg1 g2 g3 g4=>?_;have:=Re.DZ hf;rw[ih e (by exact uv 0x240c110c1b414304311492b10c13 rfl h this) g3,g4,oN,oN];simp
theorem Hn(t:VV):eZ t=(go [] t.cps.toList).map λl=>(⟨l.toArray⟩:VV):=by unfold eZ;rw[Pn _ 0 (by exact aZ 0x80c11) (Xk _),Zm]
end
open PySem PySem.W PyProof.Rows PySem.NumText
section
variable {stg:VV->Option Int}
noncomputable def cR(l:List Nat):List Nat:=(l.reverse.dropWhile (·==45)).reverse
theorem mT(l:List Nat)(c:Nat):cR (l++[c])=if c=45 then cR l else l++[c]:=by
 unfold cR;rw[XX,List.reverse_singleton,XU,Zp];by_cases h:c=45
 ·subst h;simp
 ·have:(c==45)=false:=by rw[Vf];exact h
  rw[this,Vg h];simp
theorem BB(h:t.length<=aS):fe (.str t) Xe (Xd (-1)) Xe=Xd (.str ⟨t.cps.toList.dropLast.toArray⟩):=by
 have h0:fe (.str t) Xe (Xd (-1)) Xe=(if t.length<=aS/\(Xe:Option Int)=Xe then Xd (.str ⟨(pick t.cps.toList Xe (Xd (-1)) Xe).toArray⟩)else Xe):=by rfl
 rw[h0,Vh ⟨h,rfl⟩,fh];have:(clipAt t.cps.toList.length (-1))=t.cps.toList.length-1:=by cases t.cps.toList.length with|zero=>rfl|succ n=>show(max 0 (min ((-1:Int)+((n+1:Nat):Int)) ((n+1:Nat):Int))).toNat=n;rw[show(-1:Int)+((n+1:Nat):Int)=(n:Int) by rw[Int.add_comm,Int.natCast_add,Int.add_assoc];exact ZI _,Int.min_eq_left (ZA.mpr (Nat.le_succ n)),Int.max_eq_right (ZC n),Zz]
 simp only[Option.elim,Zm,Nat.sub_zero];rw[this,List.dropLast_eq_take]
theorem Ji(h:t.cps.toList=[]):oJ t=Xd false:=by
 have h0:t.length=0:=by rw[len_list,h];rfl
 unfold oJ;have:kL (.str t)=Xd false:=by show(if t.length<=aS then Xd (t.length !=0)else Xe)=_;rw[h0];rfl
 rw[this];rfl
theorem F3(h:t.cps.toList=l++[c])(hc:t.length<=aS)(ho:c<0x110000):oJ t=Xd (c==45):=by
 have hl:t.length=l.length+1:=by rw[len_list,h];simp
 unfold oJ;have h1:kL (.str t)=Xd true:=by show(if t.length<=aS then Xd (t.length !=0)else Xe)=_;rw[Vh hc,hl];rfl
 have h2:ej (.str t) (.int (-1))=Xd (.str ⟨#[c]⟩):=by
  have h0:ej (.str t) (.int (-1))=((ez (-1) t.length).bind λk=>(t.cps[k]?).map λc=>.str ⟨#[c]⟩):=by rfl
  have h3:ez (-1) t.length=Xd l.length:=by unfold ez;rw[Vg (by lia),Vh (by exact aO 0xaf99fb8891b022 hl)];congr 1;exact aO 0x10af99fbbf291b022 hl
  have h4:t.cps[l.length]?=Xd c:=by rw[<-ZY,h];simp
  rw[h0,h3,Xh,h4];rfl
 rw[h1,h2];show mh (.str ⟨#[c]⟩) (.str "-")=_;rw[yo (by rw[ib];simpa using ho) (by decide +kernel)];congr 1;rw[ZR,Vd,Vd];constructor
 ·intro q;have h9:=Ve (λt:VV=>t.cps.toList) q;have e9:("-":VV).cps.toList=[45]:=by rfl
  rw[e9]at h9;simpa using h9
 ·intro q;subst q;rfl
theorem Kz:nM (k+1) t=(match oJ t with
   |none=>Xe|some false=>Xd t|some true=>KJ (fe (.str t) Xe (Xd (-1)) Xe) (nM k)):=rfl
theorem Ky:∀(k:Nat)(t:VV),t.length<k->t.length<=aS->(∀x∈t.cps.toList,x<0x110000)->nM k t=Xd ⟨(cR t.cps.toList).toArray⟩:=by
 intro k;induction k with
 |zero=>exactλt h _ _=>absurd h (Xn _)
 |succ k ih=>
  intro t h hc ho;rw[Kz];refine Xa (List.eq_nil_or_concat t.cps.toList) (λe=>?_) λy0=>?_
  ·rw[Ji e];have:t=⟨(cR t.cps.toList).toArray⟩:=gN (by rw[e];rfl);exact Ve Xd this
  ·refine kK y0 λl c e=>?_;rw[List.concat_eq_append]at e;rw[F3 e hc (ho c (by rw[e];simp))];by_cases hq:c=45
   ·have:(c==45)=true:=by rw[Vd];exact hq
    rw[this,BB hc];show nM k _=_;have e2:(⟨t.cps.toList.dropLast.toArray⟩:VV).cps.toList=l:=by rw[e];simp
    have hl:t.length=l.length+1:=by rw[len_list,e];simp
    rw[ih _ (by rw[len_list,e2];exact bj 0x12092b0291b003 h hl) (by rw[len_list,e2];exact bj 0x12192b021013 hc hl) (λx hx=>ho x (by rw[e2]at hx;rw[e];simp[hx])),e2,e,mT,Vh hq]
   ·have:(c==45)=false:=by rw[Vf];exact hq
    rw[this];have:t=⟨(cR t.cps.toList).toArray⟩:=gN (by rw[e,mT,Vg hq]);exact Ve Xd this
def toks(stg:VV->Option Int)(l:List Nat):List Dat:=(go [] l).flatMap λp=>cD stg ⟨p.toArray⟩
def dp(l:List Nat):Bool:=(go [] l).all λp=>ei ⟨p.toArray⟩
theorem la(a b:List Nat):toks stg (a++45::b)=toks stg a++toks stg b:=by
 unfold toks;rw[I5.1,Zh,Zg];have:cD stg ⟨[45].toArray⟩=[]:=by unfold cD;rw[Vh (by decide +kernel)]
 rw[this];rfl
theorem jr(a b:List Nat):dp (a++45::b)=(dp a&&dp b):=by
 unfold dp;rw[I5.1,List.all_append,List.all_cons];have:ei ⟨[45].toArray⟩=true:=by unfold ei;rw[ZL];exact .inl (by decide +kernel)
 rw[this];rfl
theorem hH:toks stg []=[]:=by unfold toks;have:go [] []=[[]]:=rfl;rw[this,List.flatMap_singleton];unfold cD;rw[Vh (by decide +kernel)]
theorem gW:dp []=true:=by
 unfold dp;have:go [] []=[[]]:=rfl;rw[this];have:ei ⟨[].toArray⟩=true:=by unfold ei;rw[ZL];exact .inl (by decide +kernel)
 simpa using this
set_option tactic.hygienic true in
theorem KC:∀(l a:List Nat),toks stg (a++sq l)=toks stg (a++l)/\dp (a++sq l)=dp (a++l):=by
 intro l;induction l with
 |nil=>intro a;exact⟨rfl,rfl⟩
 |cons c r ih=>
  intro a;rw[nP];split
  ·rename_i h;refine aU h ?_;rintro(rfl)h2;refine aU (ih a) λi1 i2=>?_;rw[i1,i2];rcases r with⟨⟩;case nil=>exact aa h2
   case cons d r=>rw[List.head?_cons,Xb]at h2;subst h2;have e1:=la (stg:=stg) [] r;have e2:=jr [] r;rw[Yh]at e1 e2;rw[la a r,la a (45::r),jr a r,jr a (45::r),e1,e2,hH,gW];exact⟨rfl,rfl⟩
  ·refine aU (ih (a++[c])) λi1 i2=>?_;simp only[Zv,XU]at i1 i2;exact⟨i1,i2⟩
theorem Bo:∀(n:Nat)(l:List Nat),l.length=n->toks stg (cR l)=toks stg l/\dp (cR l)=dp l:=by
 intro n;induction n with
 |zero=>intro l h;have:=YQ.mp h;subst this;exact⟨rfl,rfl⟩
 |succ n ih=>
  refineλl h=>Xa (List.eq_nil_or_concat l) (λe=>?_) λy0=>?_
  ·subst e;exact⟨rfl,rfl⟩
  ·refine kK y0 λm c e=>?_;rw[List.concat_eq_append]at e;subst e;rw[mT];split
   ·rename_i hc;subst hc;refine aU (ih m (by simpa using h)) λi1 i2=>?_;have e1:=la (stg:=stg) m [];have e2:=jr m [];rw[i1,i2,e1,e2,hH,gW];simp
   ·exact⟨rfl,rfl⟩
theorem Dl:∀l:List (List Nat),toks stg (jn 45 l)=l.flatMap (toks stg)/\dp (jn 45 l)=l.all dp|[]=>⟨hH,gW⟩|[a]=>⟨by simp[PR],by simp[PR]⟩|a::b::r=>by refine aU (Dl (b::r)) λi1 i2=>?_;show toks stg (a++45::jn 45 (b::r))=_/\dp (a++45::jn 45 (b::r))=_;rw[la,jr,i1,i2];exact⟨rfl,rfl⟩
noncomputable def tr(c:Nat):Nat:=if c=32 then 95 else if c=47\/c=92\/c=58\/c=59\/c=34\/c=40\/c=41 then 45 else c
noncomputable def wV:List Nat:=[117,110,107,110,111,119,110]
def kept(y:VV):List Nat:=jX wV [] 0 ((VQ y).cps.toList.map tr)
theorem fC(x a b:VV)(c d:Nat)(ha:a.cps.toList=[c])(hb:b.cps.toList=[d]):(VR x a b).cps.toList=x.cps.toList.map λx=>if x=c then d else x:=by rw[jY x a b (by rw[len_list,ha];exact Xz _),ha,hb,xf]
theorem R3(l:List Nat):(((((((l.map (λx=>if x=32 then 95 else x)).map (λx=>if x=47 then 45 else x)).map (λx=>if x=92 then 45 else x)).map (λx=>if x=58 then 45 else x)).map (λx=>if x=59 then 45 else x)).map (λx=>if x=34 then 45 else x)).map (λx=>if x=40 then 45 else x)).map (λx=>if x=41 then 45 else x)=l.map tr:=by
 simp only[YB];refine YD λx y=>?_;simp only[Function.comp_apply,tr];by_cases h1:x=32
 ·subst h1;rfl
 ·rw[Vg h1,Vg h1];by_cases h2:x=47
  ·subst h2;rfl
  ·by_cases h3:x=92
   ·subst h3;rfl
   ·by_cases h4:x=58
    ·subst h4;rfl
    ·by_cases h5:x=59
     ·subst h5;rfl
     ·by_cases h6:x=34
      ·subst h6;rfl
      ·by_cases h7:x=40
       ·subst h7;rfl
       ·by_cases h8:x=41
        ·subst h8;rfl
        ·simp[h2,h3,h4,h5,h6,h7,h8]
theorem Dx(y:List Nat):∀(k:Nat)(l:List Nat),(jX y [] k l).length<=l.length/\∀x∈jX y [] k l,x∈l:=by
 intro k l;induction l generalizing k with
 |nil=>rcases k with⟨⟩<;>exact⟨Xz _,λx h=>h⟩
 |cons c r ih=>
  rw[lp];split
  ·have:=ih (k-1);exact⟨by simp;lia,λx hx=>Yv _ (this.2 x hx)⟩
  ·split
   ·have:=ih (y.length-1);exact⟨by simp;lia,λx hx=>Yv _ (this.2 x (by simpa using hx))⟩
   ·have:=ih 0;refine⟨by simp;lia,λx hx=>?_⟩;refine Xa (Yw.mp hx) (λq=>?_) λq=>Yv _ (this.2 x q)
    ·rw[q];exact Yu
theorem Hl:∀l:List Nat,(sq l).length<=l.length/\∀x∈sq l,x∈l:=by
 intro l;induction l with
 |nil=>exact⟨Xz _,λx h=>h⟩
 |cons c r ih=>
  have:=ih;rw[nP];split
  ·exact⟨by simp;lia,λx hx=>Yv _ (this.2 x hx)⟩
  ·refine⟨by simp;lia,λx hx=>?_⟩;refine Xa (Yw.mp hx) (λq=>?_) λq=>Yv _ (this.2 x q)
   ·rw[q];exact Yu
theorem vy(l:List Nat):(cR l).length<=l.length/\∀x∈cR l,x∈l:=by unfold cR;have h1:(l.reverse.dropWhile (·==45)).Sublist l.reverse:=List.dropWhile_sublist _;have h2:=h1.reverse;rw[XW]at h2;exact⟨h2.length_le,λx hx=>h2.subset hx⟩
theorem vt(x:VV):(VQ x).cps.toList.length<=x.cps.toList.length/\∀c∈(VQ x).cps.toList,c∈x.cps.toList:=by
 unfold VQ Txt.stripBy;split
 ·exact⟨Xz _,λc h=>h⟩
 ·unfold PySem.stripped;rw[gx];have h1:=(List.take_sublist (stripHi VP true x (stripLo VP true x)-stripLo VP true x) (x.cps.toList.drop (stripLo VP true x))).trans (List.drop_sublist _ x.cps.toList);exact⟨h1.length_le,λc h=>h1.subset h⟩
theorem Cf(s:Nat):∀l:List (List Nat),(jn s l).length<=(l.map (·.length)).sum+l.length|[]=>Xk _|[a]=>by simp[PR]|a::b::r=>by have:=Cf s (b::r);show(a++s::jn s (b::r)).length<=_;simp only[YT,YS,YC,XR]at this ⊢;exact uv 0x993bb21b4bb90b4b193b21bb012 rfl this
theorem Cd(s:Nat):∀(l:List (List Nat))(x:Nat),x∈jn s l->x=s\/∃a∈l,x∈a
 |[],x,h=>by(rcases h with⟨⟩)
 |[a],x,h=>.inr ⟨a,Yi.mpr rfl,h⟩
 |a::b::r,x,h=>by
  have h':=h;refine Xa (Yz.mp h') (λq=>.inr ⟨a,Yu,q⟩) λq=>Xa (Yw.mp q) (λq=>.inl q) λq=>Xa (Cd s (b::r) x q) (λq=>.inl q) λy0=>av y0 λc hc q=>.inr ⟨c,Yv _ hc,q⟩
theorem Br:∀l:List Nat,(∀x∈l,x<=k)->l.sum<=l.length*k:=by intro l;induction l with|nil=>intro _;exact Xk _|cons a l ih=>intro h;have h1:=ih λx hx=>h x (Yv _ hx);have h2:=h a Yu;rw[XR,YS,Nat.succ_mul];exact eg 0x31b02b13211013 rfl h1 h2
def Small(ys:List VV):Prop:=ys.length<=200/\∀y∈ys,y.length<=60/\∀c∈y.cps.toList,c<128
noncomputable def full(ys:List VV):List VV:=ys.filter λy=>y.length !=0
theorem qr(h:Small ys):((full ys).map VQ).length<=200/\∀z∈(full ys).map VQ,z.length<=60/\∀c∈z.cps.toList,c<128:=by
 refine⟨?_,λz hz=>?_⟩
 ·rw[YN];exact Xy (YO _ _) h.1
 ·refine av (Yr.mp hz) ?_;rintro y hy(rfl);have:=h.2 y (Yt.mp hy).1;have hs:=vt y;exact⟨by rw[len_list];rw[len_list]at this;lia,λc hc=>this.2 c (hs.2 c hc)⟩
theorem mZ(ys:List VV):(dP "-" ys).cps.toList=jn 45 (((full ys).map VQ).map (·.cps.toList)):=by unfold dP Txt.join;rw[VS];exact join_list 45 _
theorem qB(h:Small ys):(dP "-" ys).length<=12200/\∀c∈(dP "-" ys).cps.toList,c<128:=by
 refine aU (qr h) λh1 h2=>?_;rw[len_list,mZ];refine⟨?_,λc hc=>?_⟩
 ·have a1:=Cf 45 (((full ys).map VQ).map (·.cps.toList));have a2:=Br ((((full ys).map VQ).map (·.cps.toList)).map (·.length)) (λx hx=>by refine av (Yr.mp hx) ?_;rintro l hl(rfl);refine av (Yr.mp hl) ?_;rintro z hz(rfl);have:=(h2 z hz).1;rw[len_list]at this;exact this);simp only[YN]at a1 a2 h1;have:(full ys).length*60<=200*60:=Nat.mul_le_mul_right _ h1;exact bj 0x2fa88f013cac8d23ce123ce1121b014 a1 a2 this
 ·refine Xa (Cd 45 _ c hc) (λq=>aZ 0x80a002da022 q) λy0=>?_
  ·refine av y0 λa ha q=>?_;(refine av (Yr.mp ha) ?_;rintro z hz(rfl));exact(h2 z hz).2 c q
theorem iU(t:VV):(fY t).cps.toList=jX wV [] 0 (t.cps.toList.map tr):=by unfold fY;have h9:∀u:VV,(Pe u).cps.toList=jX wV [] 0 u.cps.toList:=λu=>jY u "unknown" "" (by decide);rw[h9,<-R3];unfold Hy BK xi sA px rep3 rep2 rep1;rw[fC _ ")" "-" 41 45 rfl rfl,fC _ "(" "-" 40 45 rfl rfl,fC _ "\"" "-" 34 45 rfl rfl,fC _ ";" "-" 59 45 rfl rfl,fC _ ":" "-" 58 45 rfl rfl,fC _ "\\" "-" 92 45 rfl rfl,fC _ "/" "-" 47 45 rfl rfl,fC _ " " "_" 32 95 rfl rfl]
theorem uU(h:t.length<=aS):oQ t=true:=by
 have e:∀{u:VV}{a b:VV}{c d:Nat},a.cps.toList=[c]->b.cps.toList=[d]->u.length<=aS->(VR u a b).length<=aS:=λha hb hu=>by rw[len_list,fC _ _ _ _ _ ha hb,YN,<-len_list];exact hu
 have e1:(rep1 t).length<=aS:=e (c:=32) (d:=95) rfl rfl h;have e2:=e (a:="/") (b:="-") (c:=47) (d:=45) rfl rfl e1;have e3:=e (a:="\\") (b:="-") (c:=92) (d:=45) rfl rfl e2;have e4:=e (a:=":") (b:="-") (c:=58) (d:=45) rfl rfl e3;have e5:=e (a:=";") (b:="-") (c:=59) (d:=45) rfl rfl e4;have e6:=e (a:="\"") (b:="-") (c:=34) (d:=45) rfl rfl e5;have e7:=e (a:="(") (b:="-") (c:=40) (d:=45) rfl rfl e6;have e8:=e (a:=")") (b:="-") (c:=41) (d:=45) rfl rfl e7;exact Vb ⟨h,e1,e2,e3,e4,e5,e6,e7,e8⟩
theorem R2(h:c<128):tr c<128:=by
 unfold tr;split
 ·lia
 ·split
  ·lia
  ·exact h
theorem rC(h:Small ys):Lp ys=Xd ⟨(cR (sq (jn 45 ((full ys).map kept)))).toArray⟩:=by
 refine aU (qB h) λj1 j2=>?_;have cU:(dP "-" ys).length<=aS:=by unfold aS;exact aZ 0xf42408f0100002fa88f012 j1
 have hk:(fY (dP "-" ys)).cps.toList=jn 45 ((full ys).map kept):=by rw[iU,mZ,Ce (by decide),Cc (by decide) (by decide)];simp only[YB];rfl
 have N9:(fY (dP "-" ys)).length<=(dP "-" ys).length/\∀c∈(fY (dP "-" ys)).cps.toList,c<128:=by rw[len_list,iU,len_list];have:=Dx wV 0 ((dP "-" ys).cps.toList.map tr);refine⟨by simpa using this.1,λc hc=>?_⟩;refine av (Yr.mp (this.2 c hc)) ?_;rintro d hd(rfl);exact R2 (j2 d hd)
 have hsq:=Hl (fY (dP "-" ys)).cps.toList;unfold Lp;have hj:iQ "-" ys=true:=by
  unfold iQ;simp only[ZV,Zw,Vc];refine⟨⟨by have:=h.1;unfold aS;exact aZ 0xf42408f01c8a012 this,λz hz=>by have:=(h.2 z hz).1;unfold aS;exact aZ 0xf42408f013ca012 this⟩,?_⟩;refine aU (qr h) λs1 s2=>?_;have a2:=Br (((full ys).map VQ).map (·.length)) (λx hx=>by refine av (Yr.mp hx) ?_;rintro z hz(rfl);exact(s2 z hz).1);have e1:("-":VV).length=1:=by rfl
  have:(full ys).length*60<=200*60:=Nat.mul_le_mul_right _ (by simpa using s1);rw[e1];simp only[YN]at *;exact aO 0x10000008f001e1b103ce11c8a013 s1 a2
 rw[Vh (by rw[hj,uU cU];rfl)];rw[Bx _ _ (by lia) (by lia) ((ib _).mpr λc hc=>by have:=N9.2 c hc;exact aZ 0x1100008f0080a002 this),Xh];have Cs:(⟨(sq (fY (dP "-" ys)).cps.toList).toArray⟩:VV).length<=(dP "-" ys).length:=by rw[len_list];have:=N9.1;rw[len_list]at this;exact Xy hsq.1 this
 rw[Ky _ _ (by exact aO 0x2a1b001012 Cs) (by exact bj 0x1210211013 cU Cs) (λc hc=>by have:=N9.2 c (hsq.2 c (by simpa using hc));exact aZ 0x1100008f0080a002 this)];rw[hk]
theorem Qq:∀l:List Nat,(∀g,(go g l).length<=2*l.length+1)/\∀d,(Aq d l).length<=2*l.length+2:=by
 intro l;induction l with
 |nil=>exact⟨λg=>by rw[Mj];simp,λd=>by rw[Ot];simp⟩
 |cons c r ih=>
  refine aU (ih) λi1 i2=>⟨λg=>?_,λd=>?_⟩
  ·rw[uN];split
   ·have:=i2 [c];simp;exact aO 0x91b02d0102a102db012 this
   ·split
    ·have:=i1 [];simp;exact aO 0x91b02d90b19102db012 this
    ·have:=i1 (g++[c]);simp;exact aO 0x991b02db019102db012 this
  ·rw[qD];split
   ·have:=i2 (d++[c]);simp;exact aO 0x2a91b02db0102a102db012 this
   ·split
    ·have:=i1 [];simp;exact aO 0x91b02d90b19102db012 this
    ·have:=i1 [c];simp;exact aO 0x991b02db019102db012 this
theorem MN(hl:l.length<=20000)(ho:dp l=true):OC stg [.str ⟨l.toArray⟩]=Xd (.list (toks stg l)):=by
 have P0:eZ ⟨l.toArray⟩=(go [] l).map λp=>(⟨p.toArray⟩:VV):=by rw[Hn]
 have h0:OC stg [.str ⟨l.toArray⟩]=(if decide ((⟨l.toArray⟩:VV).length<=65536)&&(eZ ⟨l.toArray⟩).all ei&&decide (2*(eZ ⟨l.toArray⟩).length<=aS)then Xd (.list ((eZ ⟨l.toArray⟩).flatMap (cD stg)))else Xe):=by rfl
 rw[h0,P0];have h1:(⟨l.toArray⟩:VV).length<=65536:=by rw[len_list];simp;exact aZ 0x100008f0100004e208f012 hl
 have h2:((go [] l).map λp=>(⟨p.toArray⟩:VV)).all ei=true:=by rw[List.all_map];exact ho
 have h3:2*((go [] l).map λp=>(⟨p.toArray⟩:VV)).length<=aS:=by rw[YN];have:=(Qq l).1 [];unfold aS;exact aO 0xf42408f102d19002db1100004e208f013 hl this
 rw[Vh (by rw[Vb h1,h2,Vb h3];rfl),List.flatMap_map];rfl
theorem Dk(h:Small ys)(gC:∀y∈ys,dp (kept y)=true):∃v,Lp ys=Xd v/\OC stg [.str v]=Xd (.list (ys.flatMap λy=>toks stg (kept y))):=by
 refine⟨_,rC h,?_⟩;have j1:=(qB h).1;have hk:(jn 45 ((full ys).map kept)).length<=12200:=by
  have hk:(fY (dP "-" ys)).cps.toList=jn 45 ((full ys).map kept):=by rw[iU,mZ,Ce (by decide),Cc (by decide) (by decide)];simp only[YB];rfl
  have:=Dx wV 0 ((dP "-" ys).cps.toList.map tr);rw[<-hk,iU];rw[len_list]at j1;have h9:=this.1;rw[YN]at h9;exact aO 0x2fa88f1101100002fa88f013 j1 h9
 have h1:=(vy (sq (jn 45 ((full ys).map kept)))).1;have h2:=(Hl (jn 45 ((full ys).map kept))).1;refine aU (Bo (stg:=stg) _ (sq (jn 45 ((full ys).map kept))) rfl) λt1 t2=>?_;have t3:=KC (stg:=stg) (jn 45 ((full ys).map kept)) [];rw[Yh,Yh]at t3;refine aU (Dl (stg:=stg) ((full ys).map kept)) λt4 t5=>?_;rw[MN (by exact bj 0x4e208f1102121100002fa88f014 hk h1 h2) (by rw[t2,t3.2,t5,List.all_map,Zw];exactλy hy=>gC y (Yt.mp hy).1),t1,t3.1,t4,List.flatMap_map];congr 2;clear gC h j1 hk h1 h2 t1 t2 t3 t4 t5;induction ys with
 |nil=>rfl
 |cons y ys ih=>
  unfold full at ih ⊢;rw[Zi,Zg];split
  ·rw[Zg,ih]
  ·rename_i hy;have h0:y.cps.toList=[]:=by
    have:y.length=0:=by simpa using hy
    rw[len_list]at this;exact YQ.mp this
   have h1:(VQ y).cps.toList=[]:=by have:=(vt y).1;rw[h0]at this;exact YQ.mp (by simpa using this)
   have:kept y=[]:=by unfold kept;rw[h1];rfl
   rw[this,hH,ih];rfl
end
section
open PySem.Builtin PySem.Builtin.Str
open Mine.Internal.Re (eW dH)
variable {stg:VV->Option Int}
theorem zF{s:Nat}(h:dH s=true):s=43\/s=45\/s=46\/s=95:=by unfold dH at h;simp only[ZL,Vd]at h;exact aZ 0x5fa022ea0252da0252ba0255fa022ea022da022ba025552 h
theorem KZ{s:Nat}(h:dH s=true):eW s=false:=by rcases zF h with h|h|h|h<;>subst h<;>rfl
theorem Mi{s:Nat}(hs:dH s=true):∀l:List Nat,(∀g b,go g (l++s::b)=go g l++[s]::go [] b)/\∀d b,Aq d (l++s::b)=Aq d l++[s]::go [] b:=by
 have hd:=KZ hs;intro l;induction l with
 |nil=>
  refine⟨λg b=>?_,λd b=>?_⟩
  ·have e1:go g ([]:List Nat)=[g]:=rfl;rw[e1,Yh];conv=>lhs;rw[uN]
   rw[hd,hs];rfl
  ·have e1:Aq d ([]:List Nat)=[d,[]]:=rfl;rw[e1,Yh];conv=>lhs;rw[qD]
   rw[hd,hs];rfl
 |cons c r ih=>
  refine⟨λg b=>?_,λd b=>?_⟩
  ·rw[Zt,uN,uN];split
   ·rw[ih.2];rfl
   ·split
    ·rw[ih.1];rfl
    ·rw[ih.1]
  ·rw[Zt,qD,qD];split
   ·rw[ih.2]
   ·split
    ·rw[ih.1];rfl
    ·rw[ih.1];rfl
theorem Dm{s:Nat}(hs:dH s=true):cD stg ⟨[s].toArray⟩=[]/\ei ⟨[s].toArray⟩=true:=by
 have h:Txt.contains "._+-" ⟨[s].toArray⟩=true:=by rcases zF hs with h|h|h|h<;>subst h<;>decide +kernel
 unfold cD ei;rw[h];exact⟨rfl,rfl⟩
theorem vq{s:Nat}(hs:dH s=true)(a b:List Nat):toks stg (a++s::b)=toks stg a++toks stg b/\dp (a++s::b)=(dp a&&dp b):=by unfold toks dp;rw[(Mi hs a).1,Zh,Zg,List.all_append,List.all_cons,(Dm hs).1,(Dm (stg:=stg) hs).2];exact⟨rfl,rfl⟩
theorem zv(x:VV):∃u w,x.cps.toList=u++(VQ x).cps.toList++w/\(∀c∈u,VP c=true)/\∀c∈w,VP c=true:=by
 have e:VQ x=strSub x (stripLo VP true x) (stripHi VP true x (stripLo VP true x)):=PyProof.Rows.stripBy_eq _ _ _ _;have h1:=lo_facts VP x;have h2:=hi_facts VP x _ h1.1;generalize stripLo VP true x=lo at *;generalize stripHi VP true x lo=hi at *;have hx:=len_list x;refine⟨x.cps.toList.take lo,x.cps.toList.drop hi,?_,λc hc=>?_,λc hc=>?_⟩
 ·rw[e,gx];have e1:(x.cps.toList.drop lo).drop (hi-lo)=x.cps.toList.drop hi:=by rw[Zo];congr 1;exact Nat.add_sub_of_le h2.1
  rw[<-e1,Zv,XQ,XQ]
 ·obtain⟨i,kU,rfl⟩:=Ys.mp hc;rw[YH]at kU;have:=h1.2.1 i (bj 0x10021df002 kU);rw[List.getElem_take];rw[Z9,Z0 (Xv kU (Nat.min_le_right _ _))]at this;simpa using this
 ·obtain⟨i,kU,rfl⟩:=Ys.mp hc;rw[YR]at kU;have:=h2.2.2.1 (hi+i) (aO 0x10b011) (eg 0x23b031c201023 rfl hx kU);rw[List.getElem_drop];rw[Z9,Z0 (by have:=hx;simp at this;simp[VT]at *;exact bj 0x102b021c002 kU)]at this;simpa using this
end
end Tx
end Mine.Internal
namespace Mine.Internal
open PySem PySem.W PyProof.Rows PySem.NumText
variable {C:Cx} {A:W6} {E:VO->VY->Prop} {s s' iF aH:VY} {ai aj W W' dR:W8->Prop} {ag:WH} {sc bC:V5} {ae aW V V':ax} {n k i:Nat} {Φ:fO} {ad:VV->W8} {prog:Wf} {w:World} {h h':Wz} {o:Obj} {a I D L:W8} {d:Dat} {v u:VO} {ds:List Dat} {vs:List VO} {x:VV} {t value:Expr} {pos p:Pos} {Q:VO->VY->Prop} {K:WH->W6->Prop}
theorem qC(h:n<=aS):bP (.range 0 (n:Int) 1)=Xd ((Yc n).map λk:Nat=>.int (k:Int)):=by have:=m8 (by decide) (Nat.mod_one _) h (by decide);rw[Nat.div_one]at this;rw[show((1:Nat):Int)=1 from rfl]at this;rw[this,List.range_eq_range'];refine Ve Xd (YD λk x=>?_);rw[Nat.mul_one]
mutual
noncomputable def eqB:Dat->Dat->Bool
 | .none,.none=>true
 | .bool a,.bool b=>a==b
 | .int a,.int b=>a==b
 | .str a,.str b=>a.cps.toList==b.cps.toList
 | .bytes a,.bytes b=>a==b
 | .tuple a,.tuple b=>AA a b
 | .list a,.list b=>AA a b
 |_,_=>false
noncomputable def AA:List Dat->List Dat->Bool
 |[],[]=>true
 |a::as,b::bs=>eqB a b&&AA as bs
 |_,_=>false
end
theorem MB(h:eqB .none b=true):Dat.none=b:=by rcases b with⟨⟩<;>first|rfl|exact absurd h ZP
theorem MD{x:Bool}(h:eqB (.bool x) b=true):Dat.bool x=b:=by rcases b with⟨⟩<;>first|exact Ve Dat.bool (beq_iff_eq.mp h)|exact absurd h ZP
theorem MC{x:Int}(h:eqB (.int x) b=true):Dat.int x=b:=by rcases b with⟨⟩<;>first|exact Ve Dat.int (beq_iff_eq.mp h)|exact absurd h ZP
theorem MA(h:eqB (.str x) b=true):Dat.str x=b:=by rcases b with⟨⟩<;>first|exact Ve Dat.str (Tx.gN (beq_iff_eq.mp h))|exact absurd h ZP
theorem Mz{x:List UInt8}(h:eqB (.bytes x) b=true):Dat.bytes x=b:=by rcases b with⟨⟩<;>first|exact Ve Dat.bytes (beq_iff_eq.mp h)|exact absurd h ZP
set_option tactic.hygienic true in
mutual
theorem Jh:∀{a b:Dat},eqB a b=true->a=b
 |a,b,h=>by
  rcases a with⟨⟩
  case none=>exact MB h
  case bool x=>exact MD h
  case int x=>exact MC h
  case str x=>exact MA h
  case bytes x=>exact Mz h
  case tuple x=>
   rcases b with⟨⟩
   case tuple y=>exact Ve Dat.tuple (rI (show AA x y=true from h))
   all_goals (exact absurd h ZP)
  case list x=>
   rcases b with⟨⟩
   case list y=>exact Ve Dat.list (rI (show AA x y=true from h))
   all_goals (exact absurd h ZP)
  all_goals (exact absurd (show false=true from by rcases b with⟨⟩<;>exact h) ZP)
theorem rI:∀{a b:List Dat},AA a b=true->a=b
 |[],[],_=>rfl
 |a::as,b::bs,h=>by
  have h':(eqB a b&&AA as bs)=true:=h
  rw[ZV]at h'
  rw[Jh h'.1,rI h'.2]
end
noncomputable def GH:Option Dat->Dat->Bool|some a,b=>eqB a b|none,_=>false
set_option tactic.hygienic true in
theorem iu{a:Option Dat}(h:GH a b=true):a=Xd b:=by
 rcases a with⟨⟩;case none=>(rcases h with⟨⟩)
 case some a=>exact Ve Xd (Jh h)
def Ey:fO:={cV 0 0 with
 pB:=λm=>if m="join" then ip else if m="index" then s8 elseλy y=>Xe,glob:=λx=>if x="bytes" then Xd (.typ "bytes") else Xe}
theorem ir (hC:C.Plain):cu C Ey n where
 fn h:=aa h
 uu h:=J4 (aV:=0) (fuel:=0) hC h
 glob h:=xZ (tC hC) DX h
 pB {m}:=n9 vL (n9 sR DK) m
namespace Co
section
variable {Ψ:yT}
noncomputable def n7(f:Int->Dat):Dat->Dat| .int i=>f i|d=>d
theorem xB{f:Int->Dat}{i:Int}:n7 f (.int i)=f i:=rfl
theorem Pd{n k:Nat}(h:k<n):((n:Int)-1+(-1)*(k:Int)).toNat=n-1-k:=by
 have:(n:Int)-1+(-1)*(k:Int)=((n-1-k:Nat):Int):=by rw[Int.ofNat_sub (Nat.le_sub_one_of_lt h),Int.ofNat_sub (Xw (Xk _) h),Int.neg_one_mul];rfl
 rw[this,Zz]
def vf(sc:V5)(x:VV)(e e':Option Dat)(V:ax):Option Fl:=((match e with
 |some d=>Xd (d,V)|none=>e'.map λd=>(d,bp V)).bind (EZ sc x)).map .next
theorem wC:vf sc x (Xd d) e' V=(bV sc x (.val d) V).map .next:=rfl
theorem item_at(h:ds[k]?=Xd d)(hl:ds.length<=1000):ej (.list ds) (.int (k:Int))=Xd d:=by have hk:=(Y7.mp h).1;show(if aM (k:Int)=true then(ez (k:Int) ds.length).bind (ds[·]?)else Xe)=_;rw[Vh (jk (by exact aZ 0xaf000f42408f9f81) (by exact aO 0xf42408f1af8010000003e88f013 hl hk))];unfold ez;rw[Vh (by exact aZ 0xaf881),Vh (by exact aO 0x1af0af71002 hk)];simpa using h
def fZ(g:List Dat->Option Dat)(x y:Option Dat):Option Dat:=((x.map one).bind λxs=>((y.map one).bind λys=>Xd (ys++[])).map λds=>xs++ds).bind g
theorem eD{a b:Dat}:fZ g (Xd a) (Xd b)=g [a,b]:=rfl
noncomputable def aD(l:List Nat):List Dat:=l.map λk:Nat=>.int (k:Int)
def cB(x y:Option Dat):Option Dat:=x.bind λa=>y.bind λi=>ej a i
theorem C2{a b:List UInt8}(h:a.length+b.length<=aS):my .Add (.bytes a) (.bytes b)=Xd (.bytes (a++b)):=by show(if a.length+b.length<=aS then Xd (Dat.bytes (a++b))else Xe)=_;rw[Vh h]
theorem Aw(n m:Nat):(n:Int).fdiv (m:Int)=((n/m:Nat):Int):=by rw[Int.fdiv_eq_ediv_of_nonneg _ (by exact aZ 0xaf881)];rfl
theorem oz(n m:Nat):(n:Int).fmod (m:Int)=((n%m:Nat):Int):=by rw[ZH _ (by exact aZ 0xaf881)];rfl
theorem item_last(h:ds.length<=1000):ej (.list (ds++[d])) (.int (-1))=Xd d:=by
 show(if aM (-1)=true then(ez (-1) (ds++[d]).length).bind ((ds++[d])[·]?)else Xe)=_;rw[Vh (by decide)];unfold ez;rw[Vg (by decide),Vh (by simp;exact aZ 0x90afb99fb881)];have:((-1:Int)+((ds++[d]).length:Int)).toNat=ds.length:=by simp;exact aZ 0x90afb99fbbf21
 rw[Xh,this];simp
theorem Bq{x r:List UInt8}{w:Nat}(hx:x.length=w)(hw:0<w):hN (x++r) w=x.reverse++hN r w:=by
 apply Zl;intro k;unfold hN;by_cases hk:k<w
 ·rw[Zd (by simp;exact bj 0x201201023 hx hk),YZ,YY (by simp;exact eg 0x30b201201023 rfl hx hk),Xf,List.getElem?_reverse (by exact bj 0x201201023 hx hk)];unfold swapAt;rw[Nat.div_eq_of_lt hk,Xq hk,Nat.zero_mul,Xl,Ze,Zd (by exact bj 0x291cc01201023 hx hk),hx];have:w-1-k<x.length:=bj 0x291cc01201023 hx hk;rw[Y9 this];rfl
 ·rw[Zc (by simp;exact bj 0x20112031023 hx hk),YJ,hx];by_cases ur:k<(x++r).length
  ·have hk3:k-w<r.length:=by simp at ur;exact eg 0x312c030b2012031024 rfl hx hk ur
   rw[YZ,YY ur,YZ,YY hk3,Xf,Xf];congr 1;unfold swapAt;have e1:k/w=(k-w)/w+1:=by
    have:k=(k-w)+w:=aO 0x110cb0210032 hk;conv=>lhs;rw[this]
    rw[Nat.add_div_right _ hw]
   have e2:k%w=(k-w)%w:=by
    have:k=(k-w)+w:=aO 0x110cb0210032 hk;conv=>lhs;rw[this]
    rw[Nat.add_mod_right]
   have hm:=Xp (k-w) hw;have e3:k/w*w=(k-w)/w*w+w:=by rw[e1,Nat.succ_mul]
   rw[e3,e2,Ze,Ze,Zc (by exact eg 0x391cc12bb011022 rfl hx)];congr 2;exact eg 0x391cc2b0391cc12bbc21022 rfl hx
  ·rw[Y8 (by simp at ur ⊢;assumption),Y8 (by simp at ur ⊢;exact eg 0x13c21320b11023 rfl hx ur)]
theorem gM{w:Nat}(hw:0<w):∀bs:List (List UInt8),(∀b∈bs,b.length=w)->hN bs.flatten w=(bs.map List.reverse).flatten|[],_=>rfl|b::bs,h=>by rw[Zf,Bq (h b Yu) hw,gM hw bs λx hx=>h x (Yv _ hx)];rfl
noncomputable def B8(l:List Nat):List UInt8:=l.map Nat.toUInt8
theorem Nt(l:List (List Nat)):B8 l.flatten=(l.map B8).flatten:=by unfold B8;rw[List.map_flatten]
theorem I8{α:Type}{l:List (List α)}{k:Nat}(h:∀c∈l,c.length=k):l.flatten.length=l.length*k:=by induction l with|nil=>simp|cons c l ih=>rw[Zf,YT,h c Yu,ih λx hx=>h x (Yv _ hx),YS,Nat.succ_mul,XJ]
noncomputable def zZ(g:Dat->List Dat->Option Dat)(a:Dat)(x:Option Dat):Option Dat:=(x.bind λd=>Xd [d]).bind λds=>g a ds
theorem AZ{w:Nat}(hw:0<w)(hc:w<=aS)(hl:b.length<=aS)(hm:b.length%w=0):M7 [.bytes b,.int (w:Int)]=Xd (.bytes (hN b w)):=by show(if 0<(w:Int)/\(w:Int)<=(aS:Int)/\b.length<=aS/\b.length%(w:Int).toNat=0 then Xd (Dat.bytes (hN b (w:Int).toNat))else Xe)=_;rw[Zz,Vh ⟨by exact aZ 0xaf870802 hw,by exact aO 0x1af0af81012 hc,hl,hm⟩]
theorem u8(h:c<128):(Nat.toUInt8 c).toNat=c:=by simp;exact aZ 0x1008f0080a002 h
theorem vR:∀l:List VV,(VU "" l).cps.toList=(l.map (·.cps.toList)).flatten
 |[]=>rfl
 |[a]=>by simp[VU]
 |a::b::r=>by
  show(a++""++VU "" (b::r)).cps.toList=_;simp only[VV.cps_append,ZW];rw[vR (b::r),YC,Zf];have:("":VV).cps.toList=[]:=by rfl
  rw[this,Zu];simp
theorem ia:∀l:List VV,strsOf (l.map .str)=Xd l|[]=>rfl|a::l=>by show(strsOf (l.map .str)).map (a::·)=_;rw[ia l];rfl
def Bf(b:Option Bool)(x y:Option Dat):Option Dat:=b.bind λc=>bM c x y
def dG(op:CmpOp)(x y:Option Dat):Option Bool:=x.bind λa=>y.bind λb=>pW op a b
def mv(x:Option Dat):Option (Option Int):=x.bind asI
def b9(a:Option Dat)(lo hi st:Option (Option Int)):Option Dat:=a.bind λa=>lo.bind λlo=>hi.bind λhi=>st.bind λst=>fe a lo hi st
theorem Mw(a b:Int):mh (.int a) (.int b)=Xd (a==b):=by rfl
theorem Ga{a b:VV}(ha:V8 a=true)(hb:V8 b=true):dG .Eq (Xd (.str a)) (Xd (.str b))=Xd (a==b):=yo ha hb
theorem o9{a i:Dat}:cB (Xd a) (Xd i)=ej a i:=rfl
theorem ji(h:ds[k]?=Xd d)(hl:ds.length<=1000):cB (Xd (.list ds)) (Xd (.int (k:Int)))=Xd d:=o9.trans (item_at h hl)
theorem J3{a b:VV}(h:a.length+b.length<=aS):my .Add (.str a) (.str b)=Xd (.str (a++b)):=by show(if a.length+b.length<=aS then Xd (Dat.str (a++b))else Xe)=_;rw[Vh h]
set_option tactic.hygienic true in
theorem I9{α:Type}{l:List (List α)}{m:Nat}(h:∀c∈l,c.length=m):∀(k:Nat)(c:List α),l[k]?=Xd c->(l.flatten.drop (m*k)).take m=c:=by
 induction l with
 |nil=>intro k c hk;simp at hk
 |cons b l ih=>
  intro k c hk;have hb:=h b Yu;rcases k with⟨⟩;case zero=>rw[Zb]at hk;obtain rfl:=Xc hk;rw[Nat.mul_zero,Zm,Zf,List.take_left' hb]
  case succ k=>rw[List.getElem?_cons_succ]at hk;rw[Zf,Nat.mul_succ,XJ,<-Zo,List.drop_left' hb,ih (λx hx=>h x (Yv _ hx)) k c hk]
theorem gB(i:Int):mv (Xd (.int i))=Xd (Xd i):=rfl
def wR(c:Option Bool)(x:Option (List Dat)):Option (List Dat):=(c.bind λc=>bM c (Xd true) (Xd false)).bind λc=>bM c x (Xd [])
def Zaa(op:CmpOp)(x y:Option Dat):Option Dat:=x.bind λa=>(y.bind λb=>pW op a b).bind Eg
def bind1(x:Option Dat)(f:Dat->Option (List Dat)):Option (List Dat):=x.bind λsrc=>(bP src).bind λar=>bN f ar
theorem Bp{x:Dat}{xs:List Dat}:eO (x::xs)=(match mQ x with|none=>Xe|some p=>match eO xs with|none=>Xe|some ps=>Xd (p::ps)):=rfl
theorem zh{xs:List Dat}:mQ (.list xs)=(match eO xs with|some ps=>Xd (.list ps)|none=>Xe):=rfl
set_option tactic.hygienic true in
theorem tM(l m:List Nat):mh (.list (aD l)) (.list (aD m))=Xd (l==m):=by
 have hP:∀l:List Nat,eO (aD l)=Xd (l.map λk:Nat=>.int (k:Int)):=by
  intro l;induction l with
  |nil=>rfl
  |cons a l ih=>show(match mQ (.int (a:Int))with|none=>Xe|some p=>match eO (aD l)with|none=>Xe|some ps=>Xd (p::ps))=_;rw[ih];rfl
 have hD:∀l:List Nat,Wb (l.map λk:Nat=>We.int (k:Int))=0:=by intro l;induction l with|nil=>rfl|cons a l ih=>rw[YC,Wb,ih];rfl
 delta mh;rw[zh,hP,zh,hP];dsimp only;rw[Vh (by rw[We.depth,We.depth,hD,hD];decide),Wa];congr 1;induction l generalizing m with
 |nil=>rcases m with⟨⟩<;>simp[V9]
 |cons a l ih=>
  rcases m with⟨⟩;case nil=>simp[V9]
  case cons b m=>
   rw[YC,YC,V9,ih m,Wa,ZR,ZV,Vd,Vd,Vd];constructor
   ·rintro⟨h1,h2⟩;rw[h2,show a=b by exact aO 0x1021af0af92 h1]
   ·intro h;rcases h with⟨⟩;exact⟨rfl,rfl⟩
theorem HO{α:Type}(l:List α):pick l Xe Xe (Xd (-1))=l.reverse:=by
 have hb:sliceBounds Xe Xe (Xd (-1)) l.length=((l.length:Int)-1,-1,-1):=by unfold sliceBounds;simp
 unfold pick;rw[hb];dsimp only;have hr:sliceRange ((l.length:Int)-1) (-1) (-1)=(Yc l.length).map λk=>l.length-1-k:=by
  unfold sliceRange;have hc:(if((l.length:Int)-1)> -1 then(((l.length:Int)-1)-(-1)-(-1)-1)/(-(-1))else 0).toNat=l.length:=by
   split
   ·simp
   ·exact aZ 0x8bf290afc99f732 (by assumption)
  rw[Vg (by decide)];dsimp only;rw[hc];refine YD λk hk=>Pd (Yl.mp hk)
 rw[hr,List.filterMap_map];have key:∀m:List Nat,(∀k∈m,k<l.length)->m.filterMap ((l[·]?)∘λk=>l.length-1-k)=m.filterMap λk=>l.reverse[k]? :=by intro m;induction m with|nil=>intro _;rfl|cons k m ih=>intro hm;rw[Zj,Zj,ih λx hx=>hm x (Yv _ hx),Function.comp_apply,List.getElem?_reverse (hm k Yu)]
 rw[key _ λk hk=>Yl.mp hk];have hid:∀m:List α,(Yc m.length).filterMap (λk=>m[k]?)=m:=by intro m;induction m with|nil=>rfl|cons a m ih=>rw[YS,List.range_succ_eq_map,Zj,List.filterMap_map];show a::_=_;congr 1
 have:=hid l.reverse;rw[YJ]at this;rw[this]
theorem gy{t:List UInt8}{lo hi st:Option Int}(h0:st≠Xd 0)(h1:lo.all aM=true)(h2:hi.all aM=true)(h3:st.all aM=true)(hl:t.length<=aS):b9 (Xd (.bytes t)) (Xd lo) (Xd hi) (Xd st)=Xd (.bytes (pick t lo hi st)):=by show(if st=Xd 0\/lo.all aM=false\/hi.all aM=false\/st.all aM=false then Xe else(if t.length<=aS then Xd (Dat.bytes (pick t lo hi st))else Xe))=_;rw[Vg (by simp[h0,h1,h2,h3]),Vh hl]
end
end Co
namespace L2
open Mine.Internal.Co
section
variable {aV:W8} {fuel:Nat} {script aY:List Dat} {is:List Int} {k:Int}
def jb:List VW:=fk pw 9
def ko:V5:=dW pw 9
noncomputable def CK(script:List Dat):ax:=[(("base":VV),.own (.list [.int 132575,.int 5307,.int 84867,.int 258260,.int 199540,.int 235187,.int 171511])),(("script":VV),.val (.list script))]
noncomputable def Ej:List Dat:=[.int 132575,.int 5307,.int 84867,.int 258260,.int 199540,.int 235187,.int 171511]
def D5(k:Int)(script:List Dat):Option Dat:=bQ .Mod (bQ .Add (cB (Xd (.list Ej)) (Xd (.int k))) (wY script k 60 7 275808)) (Xd (.int 275808))
theorem Zca:ex (cV aV fuel) ml ko (aw jb 0) (bq ["script"] [.list script])=Xd (.next (CK script)):=by rfl
theorem Zb9:ev (cV aV fuel) ko (cX (aw jb 1)) (CK script)=cb (Xd (.range 0 7 1)) λd=>dI (bQ .Mod (bQ .Add (cB (Xd (.list Ej)) (Xd d)) (eF sumF (cb (b9 (Xd (.list script)) (mv (Xd d)) (mv (Xd (.int 60))) (mv (Xd (.int 7)))) λx=>dI (bQ .Mod (Xd x) (Xd (.int 275808)))))) (Xd (.int 275808))):=by rfl
theorem MF:jb=[aw jb 0,.Return (Xd (cX (aw jb 1))) (fQ (aw jb 1))]:=by rfl
theorem Ng{k:Nat}(h:k<7):∃b:Int,Ej[k]?=Xd (.int b):=by rw[show Ej=[132575,5307,84867,258260,199540,235187,171511].map Dat.int from rfl,YZ,Y9 h];exact⟨_,rfl⟩
theorem Jp(hl:is.length<=63){k:Nat}(hk:k<7):∃w:Nat,D5 (k:Int) (is.map .int)=Xd (.int (w:Int))/\w<275808:=by refine aI (ET (lo:=(k:Int)) (hi:=60) (st:=7) (m:=275808) hl (by decide) (by decide) (jk (aZ 0xaf000f42408f9f81) (aZ 0xf42408f0af807a002 hk)) (by decide) (by decide)) λz hz=>aI (Ng hk) λb hb=>?_;have hb:=ji hb (by decide);unfold D5;rw[hb,hz,b7,oU,b7,oT (by decide)];have h0:=Int.fmod_nonneg_of_pos (b+z) (b:=275808) (by decide);have h1:=Int.fmod_lt_of_pos (b+z) (b:=275808) (by decide);refine⟨((b+z).fmod 275808).toNat,?_,by exact yW 0x435608f0fbf0000435608f0f72 h1⟩;rw[Zy h0]
theorem zE{a:Dat}{lo hi st:Option Int}:b9 (Xd a) (Xd lo) (Xd hi) (Xd st)=fe a lo hi st:=by unfold b9;rw[Xh,Xh,Xh,Xh]
def yq(aV:W8):List Dat->Option Dat:=ph (cV aV 0) ml ko jb ["script"]
theorem tR(hl:is.length<=63):∀m:Nat,m<=7->∃ns:List Nat,ns.length=m/\(∀w∈ns,w<275808)/\∀(k:Nat)(w:Nat),ns[k]?=Xd w->D5 (k:Int) (is.map .int)=Xd (.int (w:Int))
 |0,_=>⟨[],rfl,(λw h=>nomatch h),(λk w h=>nomatch h)⟩
 |m+1,h=>by
  refine dE (tR hl m (aZ 0x7a0107a90b12 h)) λns h1 h2 h3=>av (Jp hl (show m<7 by exact aZ 0x7a0007a90b12 h)) λw h4 h5=>⟨ns++[w],by simp[h1],λx hx=>?_,λk x hx=>?_⟩
  ·refine Xa (Yz.mp hx) (λq=>h2 x q) λq=>?_
   ·rw[Yi.mp q];exact h5
  ·by_cases hk:k<ns.length
   ·rw[Zd hk]at hx;exact h3 k x hx
   ·rw[Zc (by exact aO 0x1110032 hk)]at hx;have h6:k-ns.length=0:=by have:=(Y7.mp hx).1;simp at this;assumption
    rw[h6]at hx;have:k=m:=bj 0x122802c202031024 h1 hk h6;subst this;obtain rfl:=Xc hx;exact h4
theorem Jo(hl:is.length<=63):∃ns:List Nat,yq aV [.list (is.map .int)]=Xd (.list (aD ns))/\ns.length=7/\∀w∈ns,w<275808:=by
 refine dE (tR hl 7 (Xz _)) λns h1 h2 h3=>⟨ns,iO rfl ?_,h1,h2⟩;have hit:bP (.range 0 7 1)=Xd ((Yc 7).map λk:Nat=>.int (k:Int)):=qC (by decide);have hv:ev (cV aV 0) ko (cX (aw jb 1)) (CK (is.map .int))=Xd (.list (aD ns)):=by
  rw[Zb9,fj hit (g:=n7 λk=>.int ((ns.getD k.toNat 0:Nat):Int)) (λd hd=>?_) (by simp[aS])]
  ·refine Ve (λl=>Xd (Dat.list l)) ?_;rw[YB];unfold aD;refine Zl λi=>?_;rw[YZ,YZ];by_cases hi:i<7
   ·rw[YY hi];have hn:i<ns.length:=aO 0x1007a1007a023 h1 hi;rw[Xf,Y9 hn];show Xd (Dat.int ((ns.getD ((i:Nat):Int).toNat 0:Nat):Int))=_;rw[Zz,Ze,Y9 hn];rfl
   ·rw[Y8 (by simp;exact aZ 0x7a107a0032 hi),Y8 (by exact aO 0x10107a10307a023 h1 hi)];rfl
  ·refine av (Yr.mp hd) ?_;rintro k hk(rfl);have hk:=Yl.mp hk;have hg:ns[k]?=Xd (ns.getD k 0):=by rw[Ze,Y9 (show k<ns.length by exact aO 0x1007a1007a023 h1 hk)];rfl
   have h:=h3 k _ hg;have hs:b9 (Xd (.list (is.map .int))) (mv (Xd (.int (k:Int)))) (mv (Xd (.int 60))) (mv (Xd (.int 7)))=fe (.list (is.map .int)) (Xd (k:Int)) (Xd 60) (Xd 7):=by rw[gB,gB,gB,zE]
   rw[hs];have h':=h;unfold D5 wY at h';exact Ve dI h'
 rw[MF,aF (aN rfl Zca)];exact ed (aN rfl (eK (fU hv))) (λv q=>by rcases q with⟨⟩)
end
variable {Ψ:yT}
noncomputable def Sq:List Int:=[0,0,10,20,20,30,30,40,50,50,100,100,100,200,200]
def Nw:List Dat:=[.str "Rc",.str "x",.str "dev",.str "a",.str "alpha",.str "b",.str "beta",.str "c",.str "RC",.str "rc",.int 0,.int 9,.int 1000,.str "p",.str "pl"]
noncomputable def R8:List (List Nat):=[[82,99],[120],[100,101,118],[97],[97,108,112,104,97],[98],[98,101,116,97],[99],[82,67],[114,99],[48],[57],[49,48,48,48],[112],[112,108]]
def vE(p:Nat):List Dat:=[.int (Sq.getD p 0),Nw.getD p .none]
def xo:List VW:=fk pw 10
def nY:V5:=dW pw 10
noncomputable def num(p:Nat):Bool:=decide (10<=p)&&decide (p<=12)
def jq:List Dat->Option Dat:=ph Ey ml nY xo ["place"]
theorem HQ:(Yc 15).all (λp=>GH (jq [.int (p:Int)]) (.list (vE p)))=true:=by decide +kernel
theorem l4{p:Nat}(hp:p<15):jq [.int (p:Int)]=Xd (.list (vE p)):=iu (Zw.mp HQ p (Yl.mpr hp))
def vC(z k:Nat):List Nat:=(if num k then X0 z 48 else[])++R8.getD k []
noncomputable def Sg:List (List Nat):=[[],[10],[12],[9]]
def eV(kd sc:Nat):List Nat:=if 14<kd then[]else kd::Sg.getD sc []
noncomputable def jo:List Nat:=[32,47,92,58,59,34,40,41,45,46,95,43]
noncomputable def Ca:List Nat:=[95,45,45,45,45,45,45,45,45,46,95,43]
noncomputable def RV:List Nat:=[9,10,13,11,12]
def Jr(key:List Nat):Bool:=match key with
 |[a,b]=>num a==num b|_=>false
def w9(tab:List Nat)(so:Nat)(key:List Nat):List Nat:=if so<12 then[tab.getD so 0]else if Jr key then[46]else[]
noncomputable def Ir(sep:List Nat):List (List Nat)->List Nat|[]=>[]|[a]=>a|a::b::r=>a++sep++Ir sep (b::r)
def qH(kd sc ze so:Nat):List Nat:=Ir (w9 Ca so (eV kd sc)) ((eV kd sc).map (vC ze))
def qN(kd sc ze so:Nat):List Nat:=if kd=15 then Tx.wV else Ir (w9 jo so (eV kd sc)) ((eV kd sc).map (vC ze))
def A0(kd sc ze so:Nat):Bool:=decide ((qN kd sc ze so).length<=11)&&(qN kd sc ze so).all λc=>decide (c<128)
theorem JX:(Yc 17).all (λkd=>(Yc 4).all λsc=>(Yc 2).all λze=>(Yc 13).all λso=>A0 kd sc ze so)=true:=by decide +kernel
def mA:fO:=Ey.and "_law_part" jq
def t6:List VW:=fk pw 11
def bB:V5:=dW pw 11
abbrev gj(i:Nat):VW:=aw t6 i
def vS(x:VV)(d:Dat)(V:ax):ax:=(x,.val d)::V
noncomputable def EY:VV:=" /\\:;\"()-._+"
noncomputable def TQ:VV:="_--------._+"
noncomputable def wsS:VV:="\t\n\r\x0b\x0c"
noncomputable def Sh:Dat:=.list [.list [],.list [.int 10],.list [.int 12],.list [.int 9]]
def X1(d:Int):ax:=vS "signs" (.str EY) [(("drawn":VV),.val (.int d))]
def X2(d kd:Int):ax:=vS "kind" (.int kd) (X1 d)
def X3(d kd:Int)(ky:List Dat):ax:=vS "key" (.list ky) (X2 d kd)
def X4(d kd:Int)(ky ps:List Dat):ax:=vS "parts" (.list ps) (X3 d kd ky)
def X5(d kd:Int)(ky ps:List Dat)(so:Int):ax:=vS "sort" (.int so) (X4 d kd ky ps)
def X6(d kd:Int)(ky ps:List Dat)(so:Int)(bt:VV):ax:=vS "between" (.str bt) (X5 d kd ky ps so)
def X7(d kd:Int)(ky ps:List Dat)(so:Int)(bt kp:VV):ax:=vS "kept" (.str kp) (X6 d kd ky ps so bt)
def X8(d kd:Int)(ky ps:List Dat)(so:Int)(bt kp bo:VV):ax:=vS "body" (.str bo) (X7 d kd ky ps so bt kp)
def X9(d kd:Int)(ky ps:List Dat)(so:Int)(bt kp bo:VV)(ro:Int):ax:=vS "room" (.int ro) (X8 d kd ky ps so bt kp bo)
def XA(d kd:Int)(ky ps:List Dat)(so:Int)(bt kp bo:VV)(ro ah:Int):ax:=vS "ahead" (.int ah) (X9 d kd ky ps so bt kp bo ro)
def XB(d kd:Int)(ky ps:List Dat)(so:Int)(bt kp bo:VV)(ro ah fi:Int):ax:=vS "fill" (.int fi) (XA d kd ky ps so bt kp bo ro ah)
def XC(d kd:Int)(ky ps:List Dat)(so:Int)(bt kp bo:VV)(ro ah fi:Int)(sg:VV):ax:=vS "sign" (.str sg) (XB d kd ky ps so bt kp bo ro ah fi)
def XD(d kd:Int)(ky ps:List Dat)(so:Int)(bt kp bo:VV)(ro ah fi:Int)(sg co:VV):ax:=vS "core" (.str co) (XC d kd ky ps so bt kp bo ro ah fi sg)
section
variable {kd so ro ah fi d:Int} {ky ps:List Dat} {bt kp bo sg co:VV}
def dq(d q:Int):Option Dat:=bQ .FloorDiv (Xd (.int d)) (Xd (.int q))
def GJ(d q m:Int):Option Dat:=bQ .Mod (dq d q) (Xd (.int m))
theorem Zcd:ex mA Ψ bB (gj 0) (bq ["drawn"] [.int d])=Xd (.next (X1 d)):=by rfl
theorem Zao:ev mA bB (bx (gj 2)) (X2 d kd)=Bf (dG .Gt (Xd (.int kd)) (Xd (.int 14))) (Xd (.list [])) (bQ .Add (Xd (.list [.int kd])) (cB (Xd Sh) (GJ d 17 4))):=by rfl
def pZ(op1 op2:CmpOp)(a b c:Dat):Option Bool:=(pW op1 a b).bind λr=>bM r (pW op2 b c) (Xd false)
def Qy(d:Int)(k:Dat):Option Dat:=Bf (pZ .LtE .LtE (.int 10) k (.int 12)) (bQ .Add (bQ .Mult (Xd (.str "0")) (GJ d 884 2)) (eF KN (cB (cP jq (Xd k)) (Xd (.int 1))))) (cB (cP jq (Xd k)) (Xd (.int 1)))
theorem Zan:ev mA bB (bx (gj 3)) (X3 d kd ky)=cb (Xd (.list ky)) λk=>dI (Qy d k):=by rfl
theorem Zam:ev mA bB (bx (gj 5)) (X5 d kd ky ps so)=Bf (dG .Lt (Xd (.int so)) (Xd (.int 12))) (cB (Xd (.str EY)) (Xd (.int so))) (Xd (.str "")):=by rfl
theorem Zal:ev mA bB (bx (gj 6)) (X6 d kd ky ps so bt)=Bf (dG .Lt (Xd (.int so)) (Xd (.int 12))) (cB (Xd (.str TQ)) (Xd (.int so))) (Xd (.str "")):=by rfl
theorem Zaj:dT mA bB (aX (gj 7)) V (ev mA bB (aX (gj 7)) V)=fu mA bB .And (cM (aX (gj 7))) V:=by rfl
abbrev MY(i:Nat):Expr:=(cM (aX (gj 7))).getD i (.Name "" df)
theorem JP:cM (aX (gj 7))=[MY 0,MY 1,MY 2]:=by rfl
theorem Zai:dT mA bB (MY 0) (X7 d kd ky ps so bt kp) (ev mA bB (MY 0) (X7 d kd ky ps so bt kp))=dG .Eq (Xd (.int so)) (Xd (.int 12)):=by rfl
theorem Zah:dT mA bB (MY 1) (X7 d kd ky ps so bt kp) (ev mA bB (MY 1) (X7 d kd ky ps so bt kp))=dG .Eq (lF [.list ky]) (Xd (.int 2)):=by rfl
def bet(a:Option Dat):Option Dat:=(a.bind λk=>pZ .LtE .LtE (.int 10) k (.int 12)).bind Eg
theorem Zag:dT mA bB (MY 2) (X7 d kd ky ps so bt kp) (ev mA bB (MY 2) (X7 d kd ky ps so bt kp))=dG .Eq (bet (cB (Xd (.list ky)) (Xd (.int 0)))) (bet (cB (Xd (.list ky)) (Xd (.int 1)))):=by rfl
theorem Zak:cn mA ml bB (bA (gj 7)) (X7 d kd ky ps so bt kp)=Xd (.next (vS "kept" (.str ".") (vS "between" (.str ".") (X7 d kd ky ps so bt kp)))):=by rfl
theorem Zaf:ev mA bB (bx (gj 8)) (X7 d kd ky ps so bt kp)=Bf (dG .Eq (Xd (.int kd)) (Xd (.int 15))) (Xd (.str "unknown")) (ip (.str bt) [.list ps]):=by rfl
theorem QR:ev mA bB (bx (gj 10)) (X9 d kd ky ps so bt kp bo ro)=bQ .Mod (GJ d 1768 12) (bQ .Add (Xd (.int ro)) (Xd (.int 1))):=by rfl
theorem QQ:ev mA bB (bx (gj 12)) (XB d kd ky ps so bt kp bo ro ah fi)=Bf (dG .Lt (Xd (.int fi)) (Xd (.int 12))) (cB (Xd (.str EY)) (Xd (.int fi))) (cB (Xd (.str wsS)) (GJ d 1768 5)):=by rfl
theorem QP:ev mA bB (bx (gj 13)) (XC d kd ky ps so bt kp bo ro ah fi sg)=ip (.str kp) [.list ps]:=by rfl
def Mo(sg co:VV)(ro ah:Int):Option Dat:=bQ .Add (bQ .Add (bQ .Mult (Xd (.str sg)) (Xd (.int ah))) (Xd (.str co))) (bQ .Mult (Xd (.str sg)) (bQ .Sub (Xd (.int ro)) (Xd (.int ah))))
theorem QM:dT mA bB (aX (gj 14)) (XD d kd ky ps so bt kp bo ro ah fi sg co) (ev mA bB (aX (gj 14)) (XD d kd ky ps so bt kp bo ro ah fi sg co))=pZ .LtE .LtE (.int 9) (.int fi) (.int 11):=by rfl
theorem QO:bA (gj 14)=[aw (bA (gj 14)) 0]:=by rfl
theorem QN:ex mA Ψ bB (aw (bA (gj 14)) 0) V=vf bB "core" (ev mA bB (bx (aw (bA (gj 14)) 0)) V) (ev mA bB (bx (aw (bA (gj 14)) 0)) (bp V)) V:=by rfl
theorem QL:ev mA bB (bx (aw (bA (gj 14)) 0)) (XD d kd ky ps so bt kp bo ro ah fi sg co)=Mo sg co ro ah:=by rfl
def NU(fi ah:Int):Option Dat:=((pZ .LtE .LtE (.int 1) (.int fi) (.int 8)).bind Eg).bind λd=>(kL d).bind λc=>bM (fL .And c) (Xd d) (Zaa .Gt (Xd (.int ah)) (Xd (.int 0)))
def Za0(a b c e:Option Dat):Option Dat:=(a.bind λd=>(b.bind λd=>(c.bind λd=>(e.bind λd=>Xd [d]).map λds=>d::ds).map λds=>d::ds).map λds=>d::ds).bind MZ
theorem QK:ev mA bB (cX (gj 15)) (XD d kd ky ps so bt kp bo ro ah fi sg co)=Za0 (Mo sg bo ro ah) (Xd (.list ky)) (NU fi ah) (Xd (.str co)):=by rfl
theorem dB{Φ:fO}{st:VW}{ss:List VW}{r:Option Fl}{sc:V5}{d:Dat}(x:VV)(hv:ev Φ sc (bx st) V=Xd d)(hs:lB (Ψ sc st V) (ex Φ Ψ sc st V)=vf sc x (ev Φ sc (bx st) V) (ev Φ sc (bx st) (bp V)) V)(hb:bV sc x (.val d) V=Xd (vS x d V))(k:cn Φ Ψ sc ss (vS x d V)=r):cn Φ Ψ sc (st::ss) V=r:=(aF (hs.trans (by rw[hv,wC,hb];rfl))).trans k
theorem MX:t6=[gj 0,gj 1,gj 2,gj 3,gj 4,gj 5,gj 6,.If (aX (gj 7)) (bA (gj 7)) [] (ek (gj 7)),gj 8,gj 9,gj 10,gj 11,gj 12,gj 13,.If (aX (gj 14)) (bA (gj 14)) [] (ek (gj 14)),.Return (Xd (cX (gj 15))) (fQ (gj 15))]:=by rfl
end
noncomputable abbrev S(l:List Nat):VV:=⟨l.toArray⟩
theorem all2{f:Nat->Nat->Bool}{x y:Nat}(h:(Yc x).all (λp=>(Yc y).all (f p))=true){p q:Nat}(hp:p<x)(hq:q<y):f p q=true:=Zw.mp (Zw.mp h p (Yl.mpr hp)) q (Yl.mpr hq)
theorem Zau{f:Nat->Nat->Nat->Bool}{x y z:Nat}(h:(Yc x).all (λp=>(Yc y).all λq=>(Yc z).all (f p q))=true){p q r:Nat}(hp:p<x)(hq:q<y)(hr:r<z):f p q r=true:=Zw.mp (all2 h hp hq) r (Yl.mpr hr)
theorem C8{f:Nat->Nat->Nat->Nat->Bool}{x y z t:Nat}(h:(Yc x).all (λp=>(Yc y).all λq=>(Yc z).all λr=>(Yc t).all (f p q r))=true){p q r o:Nat}(hp:p<x)(hq:q<y)(hr:r<z)(ho:o<t):f p q r o=true:=Zw.mp (Zau h hp hq hr) o (Yl.mpr ho)
def Zbq(kd sc:Nat):Option Dat:=Bf (dG .Gt (Xd (.int (kd:Int))) (Xd (.int 14))) (Xd (.list [])) (bQ .Add (Xd (.list [.int (kd:Int)])) (cB (Xd Sh) (Xd (.int (sc:Int)))))
theorem DO:(Yc 17).all (λkd=>(Yc 4).all λsc=>GH (Zbq kd sc) (.list (aD (eV kd sc)))&&(eV kd sc).all λk=>decide (k<15))=true:=by decide +kernel
def Zb7(z k:Nat):Option Dat:=Bf (pZ .LtE .LtE (.int 10) (.int (k:Int)) (.int 12)) (bQ .Add (bQ .Mult (Xd (.str "0")) (Xd (.int (z:Int)))) (eF KN (cB (Xd (.list (vE k))) (Xd (.int 1))))) (cB (Xd (.list (vE k))) (Xd (.int 1)))
theorem ME:(Yc 15).all (λk=>(Yc 2).all λz=>GH (Zb7 z k) (.str (S (vC z k))))=true:=by decide +kernel
theorem K0:(Yc 13).all (λso=>GH (Bf (dG .Lt (Xd (.int (so:Int))) (Xd (.int 12))) (cB (Xd (.str EY)) (Xd (.int (so:Int)))) (Xd (.str ""))) (.str (S (if so<12 then[jo.getD so 0]else[])))&&GH (Bf (dG .Lt (Xd (.int (so:Int))) (Xd (.int 12))) (cB (Xd (.str TQ)) (Xd (.int (so:Int)))) (Xd (.str ""))) (.str (S (if so<12 then[Ca.getD so 0]else[]))))=true:=by decide +kernel
def Zcg(x y z:Option Bool):Option Bool:=x.bind λc=>bM (fL .And c) (Xd c) (y.bind λc=>bM (fL .And c) (Xd c) (z.bind λc=>bM (fL .And c) (Xd c) (Xd true)))
def R0(kd sc so:Nat):Option Bool:=Zcg (dG .Eq (Xd (.int (so:Int))) (Xd (.int 12))) (dG .Eq (lF [.list (aD (eV kd sc))]) (Xd (.int 2))) (dG .Eq (bet (cB (Xd (.list (aD (eV kd sc)))) (Xd (.int 0)))) (bet (cB (Xd (.list (aD (eV kd sc)))) (Xd (.int 1)))))
theorem Kw:(Yc 17).all (λkd=>(Yc 4).all λsc=>(Yc 13).all λso=>decide (R0 kd sc so=Xd (decide (so=12)&&Jr (eV kd sc))))=true:=by decide +kernel
def uF(kd sc ze:Nat):List Dat:=(eV kd sc).map λk=>.str (S (vC ze k))
theorem M9:(Yc 17).all (λkd=>(Yc 4).all λsc=>(Yc 2).all λze=>(Yc 13).all λso=>GH (Bf (dG .Eq (Xd (.int (kd:Int))) (Xd (.int 15))) (Xd (.str "unknown")) (ip (.str (S (w9 jo so (eV kd sc)))) [.list (uF kd sc ze)])) (.str (S (qN kd sc ze so)))&&GH (ip (.str (S (w9 Ca so (eV kd sc)))) [.list (uF kd sc ze)]) (.str (S (qH kd sc ze so))))=true:=by decide +kernel
theorem KW:(Yc 12).all (λm=>GH (cB (Xd (.str EY)) (Xd (.int (m:Int)))) (.str (S [jo.getD m 0])))=true:=by decide +kernel
theorem OT:(Yc 5).all (λm=>GH (cB (Xd (.str wsS)) (Xd (.int (m:Int)))) (.str (S [RV.getD m 0])))=true:=by decide +kernel
theorem LO:(Yc 13).all (λfi=>(Yc 12).all λah=>GH (NU (fi:Int) (ah:Int)) (.bool (decide (1<=fi)&&decide (fi<=8)&&decide (0<ah))))=true:=by decide +kernel
theorem Ih:(Yc 13).all (λfi=>decide (dG .Lt (Xd (.int (fi:Int))) (Xd (.int 12))=Xd (decide (fi<12)))&&decide (pZ .LtE .LtE (.int 9) (.int (fi:Int)) (.int 11)=Xd (decide (9<=fi)&&decide (fi<=11))))=true:=by decide +kernel
noncomputable def rD(n:Nat):Nat:=n%17
noncomputable def Dv(n:Nat):Nat:=n/17%4
noncomputable def pe(n:Nat):Nat:=n/68%13
noncomputable def Ez(n:Nat):Nat:=n/884%2
noncomputable def pN(n:Nat):Nat:=n/21216
def bH(n:Nat):List Nat:=eV (rD n) (Dv n)
def jA(n:Nat):List Nat:=qN (rD n) (Dv n) (Ez n) (pe n)
def coreC(n:Nat):List Nat:=qH (rD n) (Dv n) (Ez n) (pe n)
def mU(n:Nat):Nat:=11-(jA n).length
def Gv(n:Nat):Nat:=n/1768%12%(mU n+1)
def w8(n:Nat):Nat:=if pN n<12 then jo.getD (pN n) 0 else RV.getD (n/1768%5) 0
def yc(n:Nat)(b:List Nat):List Nat:=X0 (Gv n) (w8 n)++b++X0 (mU n-Gv n) (w8 n)
def keeps(n:Nat):Bool:=decide (9<=pN n)&&decide (pN n<=11)
def aT(n:Nat):List Nat:=yc n (jA n)
def b6(n:Nat):List Nat:=if keeps n then yc n (coreC n)else coreC n
def oi(n:Nat):Bool:=decide (1<=pN n)&&decide (pN n<=8)&&decide (0<Gv n)
def cL(n:Nat):Dat:=.tuple [.str (S (aT n)),.list (aD (bH n)),.bool (oi n),.str (S (b6 n))]
theorem Ov(h:n<275808):pN n<13:=by unfold pN;omega
theorem yB(n:Nat):(jA n).length<=11/\∀c∈jA n,c<128:=by have h:=C8 JX (Xp n (show 0<17 by decide)) (Xp (n/17) (show 0<4 by decide)) (Xp (n/884) (show 0<2 by decide)) (Xp (n/68) (show 0<13 by decide));unfold A0 at h;rw[ZV,Vc,Zw]at h;exact⟨h.1,λc hc=>U9 (h.2 c hc)⟩
theorem J8(n:Nat):Gv n<=mU n:=Nat.le_of_lt_succ (Xp _ (Xm _))
theorem Zav(n:Nat):Gv n<12:=Xw (Nat.mod_le _ _) (Xp _ (by decide))
theorem text_len(n:Nat):(aT n).length=11:=by have h1:=(yB n).1;have h2:=J8 n;unfold aT yc;simp only[YT,YK];unfold mU at *;exact aO 0xba100bacc01bb200bac110ba013 h1 h2
theorem Dt(n:Nat):w8 n<128:=by
 have h:∀k<13,jo.getD k 0<128:=by decide
 have h':∀k<5,RV.getD k 0<128:=by decide
 unfold w8;split
 ·exact h _ (aZ 0xda000ca002 (by assumption))
 ·exact h' _ (Xp _ (by decide))
theorem jS(n:Nat):∀c∈aT n,c<128:=λc hc=>by
 unfold aT yc at hc;refine Xa (Yz.mp hc) (λq=>?_) λq=>?_
 ·refine Xa (Yz.mp q) (λq=>?_) λq=>(yB n).2 c q
  ·rw[(Yk.mp q).2];exact Dt n
 ·rw[(Yk.mp q).2];exact Dt n
theorem zU(s:Nat):∀(k:Nat)(aY:Array Nat),((X0 k #[s]).foldl (·++·) aY).toList=aY.toList++X0 k s|0,aY=>by simp|k+1,aY=>by rw[XZ,List.foldl_cons,zU s k,ZW,Zv];rfl
theorem mul_list(s n:Nat):(Txt.mul ⟨#[s]⟩ (n:Int)).cps.toList=X0 n s:=by
 unfold Txt.mul;by_cases h1:(n:Int)<1
 ·rw[Vh h1];have:n=0:=aZ 0x80290af72 h1;subst this;rfl
 ·rw[Vg h1];split
  ·rename_i hc;rw[ZL,Vd,Vd]at hc;refine Xa hc (λh=>?_) λh=>?_
   ·have:n=1:=aZ 0x90290af92 h;subst this;rfl
   ·rcases h with⟨⟩
  ·have h:=zU s ((n:Int)).toNat #[];rw[Zz]at h;exact h
theorem Gk{s:Nat}(h:n<=1000):my .Mult (.str ⟨#[s]⟩) (.int (n:Int))=Xd (.str ⟨(X0 n s).toArray⟩):=by show(if aM (n:Int)=true/\(⟨#[s]⟩:VV).length*(n:Int).toNat<=aS then Xd (Dat.str (Txt.mul ⟨#[s]⟩ (n:Int)))else Xe)=_;rw[Vh ⟨jk (by exact aZ 0xaf000f42408f9f81) (by exact aZ 0xf42408f0af8000003e88f012 h),by show 1*(n:Int).toNat<=aS;rw[Zz];unfold aS;exact aZ 0xf42408f001d1000003e88f012 h⟩];congr 2;exact Tx.gN (mul_list s n)
theorem A1{s:Nat}(h:n<=1000):bQ .Mult (Xd (.str (S [s]))) (Xd (.int (n:Int)))=Xd (.str (S (X0 n s))):=b7.trans (Gk h)
theorem xH{a:Nat}{m:Nat}(h:0<m):bQ .Mod (Xd (.int (a:Int))) (Xd (.int (m:Int)))=Xd (.int ((a%m:Nat):Int)):=by rw[b7,oT (by exact aZ 0x80af930802 h),oz]
theorem Jq{a:Nat}{m:Nat}(h:0<m)(h2:m<1073741824):dq (a:Int) (m:Int)=Xd (.int ((a/m:Nat):Int)):=by unfold dq;rw[b7,A3 (by exact aZ 0x80af930802 h) (by rw[Int.natAbs_natCast];exact h2),Aw]
theorem oK{a:Nat}{m q:Nat}(h:0<m)(h2:m<1073741824)(hq:0<q):GJ (a:Int) (m:Int) (q:Int)=Xd (.int ((a/m%q:Nat):Int)):=by unfold GJ;rw[Jq h h2,xH hq]
theorem len_str{t:VV}(h:t.length<=1000):lF [.str t]=Xd (.int (t.length:Int)):=by show(if t.length<=aS then Xd (Dat.int (t.length:Int))else Xe)=_;rw[Vh (by unfold aS;exact aZ 0xf42408f01000003e88f012 h)]
theorem pD(l:List Nat):(S l).length=l.length:=Tx.len_list _
theorem Q6{a b:List Nat}(h:a.length+b.length<=1000):bQ .Add (Xd (.str (S a))) (Xd (.str (S b)))=Xd (.str (S (a++b))):=by rw[b7,J3 (by rw[pD,pD];unfold aS;exact aO 0xf42408f10b1000003e88f10b12 h)];refine Ve (λt=>Xd (Dat.str t)) (Tx.gN ?_);rw[VV.cps_append,ZW]
theorem Jb{sg ah ro:Nat}{b:List Nat}(h:ah<=ro)(h2:ro<=100)(hb:b.length<=100):Mo (S [sg]) (S b) (ro:Int) (ah:Int)=Xd (.str (S (X0 ah sg++b++X0 (ro-ah) sg))):=by
 unfold Mo;have e:bQ .Sub (Xd (.int (ro:Int))) (Xd (.int (ah:Int)))=Xd (.int ((ro-ah:Nat):Int)):=by rw[Int.ofNat_sub h];rfl
 rw[e,A1 (by exact aO 0x3e88f0164a111013 h h2),A1 (by exact aO 0x3e88f10c164a012 h2),Q6 (by simp only[YK];exact bj 0x3e88f20b164a2164a111014 h h2 hb),Q6 (by simp only[YT,YK];exact bj 0x3e88f01c20bb164a2164a111014 h h2 hb)]
theorem jB{Ψ:yT}{e e':Option Dat}{st:VW}(h:ex Φ Ψ sc st V=vf sc x e e' V)(hv:e=Xd d)(hb:bV sc x (.val d) V=Xd V'):ex Φ Ψ sc st V=Xd (.next V'):=by rw[h,hv,wC,hb];rfl
def ccF:List Dat->Option Dat:=ph mA ml bB t6 ["drawn"]
theorem CJ{n k:Nat}(hk:k<15):Qy (n:Int) (.int (k:Int))=Xd (.str (S (vC (Ez n) k))):=by unfold Qy;rw[show GJ (n:Int) 884 2=_ from oK (by decide) (by decide) (by decide),cS,l4 hk];exact iu (all2 ME hk (Xp (n/884) (by decide)))
theorem AG(n:Nat):(coreC n).length<=11:=by
 have h:(Yc 17).all (λkd=>(Yc 4).all λsc=>(Yc 2).all λze=>(Yc 13).all λso=>decide ((qH kd sc ze so).length<=11))=true:=by decide +kernel
 exact U9 (C8 h (Xp n (show 0<17 by decide)) (Xp (n/17) (show 0<4 by decide)) (Xp (n/884) (show 0<2 by decide)) (Xp (n/68) (show 0<13 by decide)))
theorem MW(hn:n<275808):ccF [.int (n:Int)]=Xd (cL n):=by
 revert hn;refine xA1 ⟨0⟩ ?_ n;generalize gE _ _=n;intro hn;have hk:rD n<17:=Xp _ (by decide);have hs:Dv n<4:=Xp _ (by decide);have hz:Ez n<2:=Xp _ (by decide);have ho:pe n<13:=Xp _ (by decide);have hf:=Ov hn;have hK:=all2 DO hk hs;rw[ZV,Zw]at hK;have hB:=C8 M9 hk hs hz ho;rw[ZV]at hB;have hS:=Zw.mp K0 _ (Yl.mpr ho);rw[ZV]at hS;have hT:=U9 (Zau Kw hk hs ho);have hL:=Zw.mp Ih _ (Yl.mpr hf);rw[ZV,Vc,Vc]at hL;have hky:ev mA bB (bx (gj 2)) (X2 (n:Int) (rD n:Int))=Xd (.list (aD (bH n))):=by rw[Zao,show GJ (n:Int) 17 4=_ from oK (a:=n) (m:=17) (q:=4) (by decide) (by decide) (by decide)];exact iu hK.1
 have L7:ev mA bB (bx (gj 3)) (X3 (n:Int) (rD n:Int) (aD (bH n)))=Xd (.list (uF (rD n) (Dv n) (Ez n))):=by
  have hit:bP (.list (aD (bH n)))=Xd (aD (bH n)):=rfl;rw[Zan,fj hit (g:=n7 λk=>.str (S (vC (Ez n) k.toNat))) (λd hd=>by
   refine av (Yr.mp hd) ?_;rintro k hk(rfl);rw[CJ (U9 (hK.2 k hk))];rfl) (by
   have:(bH n).length<=2:=by
    unfold bH eV;split
    ·decide
    ·have h:∀k<4,(Sg.getD k []).length<=1:=by decide
     have:=h _ hs;rw[YS];exact aZ 0x2a90b19012 this
   unfold aD;rw[YN];unfold aS;exact aZ 0xf42408f0102a012 this)]
  unfold aD;rw[YB];rfl
 refine iO rfl (xR MX ((aF (aN rfl Zcd)).trans (dB "kind" (xH (a:=n) (m:=17) (by decide)) rfl rfl (dB "key" hky rfl rfl (dB "parts" L7 rfl rfl (dB "sort" (oK (a:=n) (m:=68) (by decide) (by decide) (by decide)) rfl rfl (dB "between" (Zam.trans (iu hS.1)) rfl rfl (dB "kept" (Zal.trans (iu hS.2)) rfl rfl ?_))))))));have q1:∃V',ex mA ml bB (.If (aX (gj 7)) (bA (gj 7)) [] (ek (gj 7))) (X7 (n:Int) (rD n:Int) (aD (bH n)) (uF (rD n) (Dv n) (Ez n)) (pe n:Int) (S (if pe n<12 then[jo.getD (pe n) 0]else[])) (S (if pe n<12 then[Ca.getD (pe n) 0]else[])))=Xd (.next V')/\bR V' (X7 (n:Int) (rD n:Int) (aD (bH n)) (uF (rD n) (Dv n) (Ez n)) (pe n:Int) (S (w9 jo (pe n) (bH n))) (S (w9 Ca (pe n) (bH n)))):=by
  generalize RB:S (if pe n<12 then[jo.getD (pe n) 0]else[])=bt
  generalize yP:S (if pe n<12 then[Ca.getD (pe n) 0]else[])=kp
  have ht:=Zaj (V:=X7 (n:Int) (rD n:Int) (aD (bH n)) (uF (rD n) (Dv n) (Ez n)) (pe n:Int) bt kp)
  have ht2:fu mA bB .And (cM (aX (gj 7))) (X7 (n:Int) (rD n:Int) (aD (bH n)) (uF (rD n) (Dv n) (Ez n)) (pe n:Int) bt kp)=R0 (rD n) (Dv n) (pe n):=by rw[JP];exact congr (Ve (λx y=>x.bind λc=>bM (fL .And c) (Xd c) y) Zai) (congr (Ve (λx y=>x.bind λc=>bM (fL .And c) (Xd c) y) Zah) (Ve (λx=>x.bind λc=>bM (fL .And c) (Xd c) (Xd true)) Zag))
  rw[ht2,hT]at ht
  unfold w9
  cases hc:decide (pe n=12)&&Jr (eV (rD n) (Dv n))with
  |false=>
   rw[hc]at ht;refine⟨_,(fH (cO ht)).trans dJ,?_⟩;by_cases tB:pe n<12
   ·rw[Vh tB,Vh tB];rw[Vh tB]at RB yP;subst RB yP;exact .refl _
   ·have:pe n=12:=aZ 0xca020ca0030da003 ho tB;rw[this]at hc;have hd:Jr (bH n)=false:=hc;rw[Vg tB,Vg tB,hd];rw[Vg tB]at RB yP;subst RB yP;exact .refl _
  |true=>
   rw[hc]at ht;rw[ZV,Vc]at hc;have tB:¬pe n<12:=by omega
   rw[Vg tB,Vg tB,Vh (show Jr (bH n)=true from hc.2)];refine⟨_,(fH (cO ht)).trans (by rw[Vh rfl];exact Zak),?_⟩;exact bR.gz rfl
 refine av q1 λV' hV hl=>(aF (aN rfl hV)).trans (oC mz.none hl ?_);have yS:=(yB n).1;have hah:=J8 n;have I2:=Zav n;have Me:=AG n;have An:bQ .Sub (Xd (.int 11)) (lF [.str (S (jA n))])=Xd (.int (mU n:Int)):=by rw[len_str (by rw[pD];exact aZ 0x3e88f010ba012 yS),pD];unfold mU;rw[Int.ofNat_sub yS];rfl
 generalize RB:S (w9 jo (pe n) (bH n))=bt at *;generalize yP:S (w9 Ca (pe n) (bH n))=kp at *;have eA:Bf (dG .Eq (Xd (.int (rD n:Int))) (Xd (.int 15))) (Xd (.str "unknown")) (ip (.str bt) [.list (uF (rD n) (Dv n) (Ez n))])=Xd (.str (S (jA n))):=by subst RB;exact iu hB.1
 have UB:ip (.str kp) [.list (uF (rD n) (Dv n) (Ez n))]=Xd (.str (S (coreC n))):=by subst yP;exact iu hB.2
 generalize uF (rD n) (Dv n) (Ez n)=ps at *;have Zb0:bQ .Mod (GJ (n:Int) 1768 12) (bQ .Add (Xd (.int (mU n:Int))) (Xd (.int 1)))=Xd (.int (Gv n:Int)):=by rw[show GJ (n:Int) 1768 12=_ from oK (a:=n) (by decide) (by decide) (by decide)];exact xH (Xm _)
 have hsg:Bf (dG .Lt (Xd (.int (pN n:Int))) (Xd (.int 12))) (cB (Xd (.str EY)) (Xd (.int (pN n:Int)))) (cB (Xd (.str wsS)) (GJ (n:Int) 1768 5))=Xd (.str (S [w8 n])):=by
  rw[hL.1];unfold w8;by_cases tB:pN n<12
  ·rw[Vb tB,Vh tB];have h1:=iu (Zw.mp KW _ (Yl.mpr tB));rw[h1];rfl
  ·rw[Va tB,Vg tB,show GJ (n:Int) 1768 5=_ from oK (a:=n) (q:=5) (by decide) (by decide) (by decide)];have h1:=iu (Zw.mp OT (n/1768%5) (Yl.mpr (Xp _ (by decide))));rw[h1];rfl
 have hld:=iu (all2 LO hf I2);have N4:mU n<=100:=by unfold mU;exact aZ 0x64a00bac11
 refine dB "body" (Zaf.trans eA) rfl rfl (dB "room" An rfl rfl (dB "ahead" (QR.trans Zb0) rfl rfl (dB "fill" (Jq (a:=n) (by decide) (by decide)) rfl rfl (dB "sign" (QQ.trans hsg) rfl rfl (dB "core" (QP.trans UB) rfl rfl ?_)))));have q2:∃V',ex mA ml bB (.If (aX (gj 14)) (bA (gj 14)) [] (ek (gj 14))) (XD (n:Int) (rD n:Int) (aD (bH n)) ps (pe n:Int) bt kp (S (jA n)) (mU n:Int) (Gv n:Int) (pN n:Int) (S [w8 n]) (S (coreC n)))=Xd (.next V')/\bR V' (XD (n:Int) (rD n:Int) (aD (bH n)) ps (pe n:Int) bt kp (S (jA n)) (mU n:Int) (Gv n:Int) (pN n:Int) (S [w8 n]) (S (b6 n))):=by
  have ht:=QM (d:=(n:Int)) (kd:=(rD n:Int)) (ky:=aD (bH n)) (ps:=ps) (so:=(pe n:Int)) (bt:=bt) (kp:=kp) (bo:=S (jA n)) (ro:=(mU n:Int)) (ah:=(Gv n:Int)) (fi:=(pN n:Int)) (sg:=S [w8 n]) (co:=S (coreC n))
  rw[hL.2]at ht
  have e:(decide (9<=pN n)&&decide (pN n<=11))=keeps n:=rfl
  rw[e]at ht
  unfold b6
  cases hc:keeps n with
  |false=>rw[hc]at ht;exact⟨_,(fH (cO ht)).trans dJ,by rw[Vg ZP];exact .refl _⟩
  |true=>rw[hc]at ht;refine⟨_,(fH (cO ht)).trans (by rw[Vh rfl,QO];exact(aF (aN rfl (jB QN (QL.trans (Jb hah N4 (aZ 0x64a010ba012 Me))) rfl))).trans dJ),?_⟩;rw[Vh rfl];exact bR.gz rfl
 refine av q2 λV2 Qm Cs=>(aF (aN rfl Qm)).trans (oC mz.none Cs (ed (aN rfl (eK (fU (QK.trans ?_)))) (λv q=>by rcases q with⟨⟩)));rw[Jb hah N4 (by exact aZ 0x64a010ba012 yS),hld];rfl
section
open PySem.Builtin PySem.Builtin.Str
noncomputable def Nz(p:Nat->Bool)(l:List Nat):List Nat:=((l.dropWhile p).reverse.dropWhile p).reverse
theorem iw{p:Nat->Bool}{m:List Nat}(h:∀c,m.head?=Xd c->p c=false):m.dropWhile p=m:=by
 rcases m with _|⟨c,m⟩
 ·rfl
 ·rw[Zp,h c rfl,Vg ZP]
theorem vp{p:Nat->Bool}{u m w:List Nat}(hu:∀c∈u,p c=true)(hw:∀c∈w,p c=true)(h1:∀c,m.head?=Xd c->p c=false)(h2:∀c,m.reverse.head?=Xd c->p c=false):Nz p (u++m++w)=m:=by
 unfold Nz;rw[Zv,Zq hu];have hw':=λc hc=>hw c (Yj.mp hc);by_cases hm:m=[]
 ·subst hm;rw[Yh];have:w.dropWhile p=[]:=by have:=Zq (l₂:=[]) hw;rwa [Zu]at this
  rw[this];rfl
 ·have e:(m++w).dropWhile p=m++w:=iw λc hc=>h1 c (by
   rcases m with _|⟨a,m⟩
   ·exact absurd rfl hm
   ·exact hc)
  have e2:(w.reverse++m.reverse).dropWhile p=m.reverse:=by rw[Zq hw',iw h2]
  rw[e,XX,e2,XW]
theorem sa(x:VV):(∀c,(VQ x).cps.toList.head?=Xd c->VP c=false)/\∀c,(VQ x).cps.toList.reverse.head?=Xd c->VP c=false:=by
 refine xA1 ⟨("":VV)⟩ ?_ x;generalize gE _ _=x;have e:VQ x=strSub x (stripLo VP true x) (stripHi VP true x (stripLo VP true x)):=PyProof.Rows.stripBy_eq _ _ _ _;have h1:=lo_facts VP x;have h2:=hi_facts VP x _ h1.1;generalize stripLo VP true x=lo at *;generalize stripHi VP true x lo=hi at *;rw[e,Tx.gx];have hx:=Tx.len_list x;have hd:∀i,x.cps.getD i 0=x.cps.toList.getD i 0:=λi=>by rw[Ze,Z9,ZY]
 rw[hd]at h1;rw[hd (hi-1)]at h2;generalize x.cps.toList=l at *;have hlo:=h1.1;have hhi:=h2.2.1;rw[hx]at hlo hhi;have hlen:((l.drop lo).take (hi-lo)).length=hi-lo:=by rw[YH,YR];exact bj 0x20c21c20cdf21012 hhi
 refine⟨λc hc=>?_,λc hc=>?_⟩
 ·rw[List.head?_eq_getElem?]at hc;have Oc:=(Y7.mp hc).1;rw[hlen]at Oc;rw[List.getElem?_take_of_lt Oc,Za,XH]at hc;refine Xa h1.2.2 (λq=>(eg 0x603232c801211025 rfl hx hhi Oc q).elim) λq=>?_
  ·rw[Ze,hc]at q;exact q
 ·rw[List.head?_reverse,List.getLast?_eq_getElem?,hlen]at hc;have Oc:=(Y7.mp hc).1;rw[hlen]at Oc;rw[List.getElem?_take_of_lt Oc,Za]at hc;refine Xa h2.2.2.2 (λq=>(aO 0x610210c910cc03 Oc q).elim) λq=>?_
  ·have e2:lo+(hi-lo-1)=hi-1:=aO 0x90c910cc1b210c910cc02 Oc;rw[e2]at hc;rw[Ze,hc]at q;exact q
theorem vu{x:VV}{u m w:List Nat}(e:x.cps.toList=u++m++w)(hu:∀c∈u,VP c=true)(hw:∀c∈w,VP c=true)(h1:∀c,m.head?=Xd c->VP c=false)(h2:∀c,m.reverse.head?=Xd c->VP c=false):(VQ x).cps.toList=m:=by refine er (Tx.zv x) λu' w' e' hu' hw'=>?_;have z:=vp hu hw h1 h2;rw[<-e,e']at z;rw[vp hu' hw' (sa x).1 (sa x).2]at z;exact z
end
open Mine.Internal.Tx (tr wV jX kept sq nP cR jn)
theorem pv{s:Nat}(hs:s∉wV)(x:List Nat):∀a:Nat,jX wV [] 0 (X0 a s++x)=X0 a s++jX wV [] 0 x|0=>rfl|a+1=>by have h:=Tx.xe (z:=[]) hs (by decide) [] (X0 a s++x) 0 (Xz _);rw[XZ,Zt];exact h.trans (Ve (s::·) (pv hs x a))
theorem BF{s:Nat}(hs:s∉wV)(x:List Nat)(c:Nat):jX wV [] 0 (x++X0 c s)=jX wV [] 0 x++X0 c s:=by
 rcases c with _|c
 ·rw[XY,Zu,Zu]
 ·rw[XZ,Tx.xe hs (by decide) x (X0 c s) 0 (Xk _)];have h:=pv hs [] c;rw[Zu]at h;rw[h];show _++s::(X0 c s++[])=_;rw[Zu]
noncomputable def Jj(l:List Nat):Bool:=(l.head?.all λc=> !Unicode.isSpace c)&&(l.reverse.head?.all λc=> !Unicode.isSpace c)
theorem JD:(Yc 17).all (λkd=>(Yc 4).all λsc=>(Yc 2).all λze=>(Yc 13).all λso=>jX wV [] 0 ((qN kd sc ze so).map tr)==qH kd sc ze so&&Jj (qN kd sc ze so))=true:=by decide +kernel
theorem Gj(n:Nat):jX wV [] 0 ((jA n).map tr)=coreC n/\(∀c,(jA n).head?=Xd c->VP c=false)/\∀c,(jA n).reverse.head?=Xd c->VP c=false:=by
 have h:=C8 JD (Xp n (show 0<17 by decide)) (Xp (n/17) (show 0<4 by decide)) (Xp (n/884) (show 0<2 by decide)) (Xp (n/68) (show 0<13 by decide));unfold Jj at h;rw[ZV,Vd,ZV]at h;refine⟨h.1,λc hc=>?_,λc hc=>?_⟩
 ·have z:=h.2.1;rw[show(qN (n%17) (n/17%4) (n/884%2) (n/68%13)).head?=Xd c from hc]at z;exact ZN _▸z
 ·have z:=h.2.2;rw[show(qN (n%17) (n/17%4) (n/884%2) (n/68%13)).reverse.head?=Xd c from hc]at z;exact ZN _▸z
theorem oB{p:Nat->Bool}{s:Nat}{b:List Nat}(hs:p s=false)(hb:∀c,b.head?=Xd c->p c=false)(x y:Nat):∀c,(X0 x s++b++X0 y s).head?=Xd c->p c=false:=λc hc=>by
 rcases x with _|x
 ·rw[XY,Yh]at hc;rcases b with _|⟨a,b⟩
  ·rcases y with _|y
   ·exact nomatch hc
   ·obtain rfl:=Xc hc;exact hs
  ·exact hb c hc
 ·obtain rfl:=Xc hc;exact hs
theorem D0{s:Nat}{b:List Nat}(x y:Nat):(X0 x s++b++X0 y s).reverse=X0 y s++b.reverse++X0 x s:=by rw[XX,XX,List.reverse_replicate,List.reverse_replicate,Zv]
def dash(n:Nat):Bool:=decide (1<=pN n)&&decide (pN n<=8)
def Be(n:Nat):Nat:=if dash n then Gv n else 0
def LR(n:Nat):Nat:=if dash n then mU n-Gv n else 0
theorem KX:(Yc 12).all (λk=>(if 1<=k then !Unicode.isSpace (jo.getD k 0)else VP (jo.getD k 0))&&(if 1<=k then(if k<=8 then tr (jo.getD k 0)==45 else tr (jo.getD k 0)==jo.getD k 0)else true)&& !(wV.contains (tr (jo.getD k 0))))=true:=by decide +kernel
theorem RU:∀k<5,VP (RV.getD k 0)=true:=by decide +kernel
theorem vO{n:Nat}(hn:n<275808):kept (S (aT n))=X0 (Be n) 45++b6 n++X0 (LR n) 45:=by
 revert hn;refine xA1 ⟨0⟩ ?_ n;generalize gE _ _=n;intro hn;have hf:=Ov hn;refine bD (Gj n) λhc h1 h2=>?_;have ht:(S (aT n)).cps.toList=X0 (Gv n) (w8 n)++jA n++X0 (mU n-Gv n) (w8 n):=rfl;show jX wV [] 0 ((VQ (S (aT n))).cps.toList.map tr)=_;have blank:VP (w8 n)=true->dash n=false->keeps n=false->jX wV [] 0 ((VQ (S (aT n))).cps.toList.map tr)=X0 (Be n) 45++b6 n++X0 (LR n) 45:=λhs hd hk=>by rw[vu ht (λc q=>(Yk.mp q).2▸hs) (λc q=>(Yk.mp q).2▸hs) h1 h2,hc];unfold Be LR b6;rw[hd,hk,Vg ZP,Vg ZP,Vg ZP,XY,Yh,Zu]
 by_cases tB:pN n<12
 ·have hT:=Zw.mp KX _ (Yl.mpr tB);have es:w8 n=jo.getD (pN n) 0:=Vh tB;rw[<-es,ZV,ZV]at hT;by_cases h0:1<=pN n
  ·rw[Vh h0,Vh h0]at hT;have hs:VP (w8 n)=false:=by have:=hT.1.1;rwa [ZN]at this
   have hu:tr (w8 n)∉wV:=by have:=hT.2;rw[ZN,List.contains_eq_mem,decide_eq_false_iff_not]at this;exact this
   have e1:(VQ (S (aT n))).cps.toList=aT n:=vu (u:=[]) (w:=[]) (by rw[Yh,Zu]) (λc q=>nomatch q) (λc q=>nomatch q) (oB hs h1 _ _) (by unfold aT yc;rw[D0];exact oB hs h2 _ _);rw[e1];unfold aT yc;rw[YE,YE,List.map_replicate,List.map_replicate,BF hu,pv hu,hc];unfold Be LR b6;by_cases h8:pN n<=8
   ·have hd:dash n=true:=by unfold dash;rw[Vb h0,Vb h8];rfl
    have hk:keeps n=false:=by unfold keeps;rw[Va (by exact aZ 0x9a1308a012 h8)];rfl
    rw[Vh h8]at hT;rw[hd,hk,Vh rfl,Vh rfl,Vg ZP,beq_iff_eq.mp hT.1.2]
   ·have hd:dash n=false:=by unfold dash;rw[Va h8,ZT]
    have hk:keeps n=true:=by unfold keeps;rw[Vb (by exact aZ 0x9a108a0132 h8),Vb (by exact aZ 0xba010ca002 tB)];rfl
    rw[Vg h8]at hT;rw[hd,hk,Vg ZP,Vg ZP,Vh rfl,beq_iff_eq.mp hT.1.2,XY,Yh,Zu];rfl
  ·rw[Vg h0]at hT;exact blank hT.1.1 (by unfold dash;rw[Va h0];rfl) (by unfold keeps;rw[Va (by exact aZ 0x9a1309132 h0)];rfl)
 ·have es:w8 n=RV.getD (n/1768%5) 0:=Vg tB;exact blank (es▸RU _ (Xp _ (by decide))) (by unfold dash;rw[Va (show ¬pN n<=8 by exact aZ 0x8a0130ca0032 tB),ZT]) (by unfold keeps;rw[Va (show ¬pN n<=11 by exact aZ 0xba0130ca0032 tB),ZT])
noncomputable def eJ(c:Nat):Bool:=c==45
def dw(l:List Nat):List Nat:=l.dropWhile eJ
def sL:List Nat->Bool|[]=>true|c::r=> !(eJ c&&r.head?.any eJ)&&sL r
theorem sI{c:Nat}{r:List Nat}:sL (c::r)=(!(eJ c&&r.head?.any eJ)&&sL r):=rfl
structure RM (l:List Nat):Prop where
 hd:l.head?.any eJ=false
 nd:sL l=true
 tl:cR l=l
theorem By{c:Nat}{r:List Nat}(h:(eJ c&&r.head?.any eJ)=false):sq (c::r)=c::sq r:=by
 rw[nP,Vg];intro q;have e:(eJ c&&r.head?.any eJ)=true:=by rw[q.1,q.2];rfl
 rw[e]at h;exact ZO h
theorem Hm:∀r:List Nat,sq (45::r)=45::sq (dw r)
 |[]=>rfl
 |c::r=>by
  by_cases hc:c=45
  ·subst hc;rw[nP,Vh ⟨rfl,rfl⟩];exact Hm r
  ·have e:eJ c=false:=beq_eq_false_iff_ne.mpr hc;have e2:dw (c::r)=c::r:=by unfold dw;rw[Zp,e,Vg ZP]
   rw[e2];exact By (by rw[show(c::r).head?.any eJ=eJ c from rfl,e,ZT])
theorem drop_nil{p:Nat->Bool}:∀{l:List Nat},l.dropWhile p=[]->∀c∈l,p c=true
 |[],h,c,hc=>nomatch hc
 |a::l,h,c,hc=>by
  rw[Zp]at h;by_cases q:p a=true
  ·rw[Vh q]at h;refine Xa (Yw.mp hc) (λe=>?_) λe=>drop_nil h c e
   ·rw[e];exact q
  ·rw[Vg q]at h;exact nomatch h
theorem pn(x y:List Nat):cR (x++y)=if cR y=[]then cR x else x++cR y:=by
 unfold cR;rw[XX];by_cases h:∀c∈y.reverse,(c==45)=true
 ·have e:y.reverse.dropWhile (·==45)=[]:=by have:=Zq (l₂:=[]) h;rwa [Zu]at this
  rw[Zq h,e];exact(Vh rfl).symm
 ·have e:(y.reverse++x.reverse).dropWhile (·==45)=y.reverse.dropWhile (·==45)++x.reverse:=by rw[List.dropWhile_append,Vg];intro q;rw[List.isEmpty_iff]at q;refine h λc hc=>ZK λhn=>?_;have:=drop_nil q c hc;exact hn this
  have ne:(y.reverse.dropWhile (·==45)).reverse≠[]:=λq=>by rw[List.reverse_eq_nil_iff]at q;exact h λc hc=>drop_nil q c hc
  rw[Vg ne,e,XX,XW]
def dd(l:List Nat):List Nat:=cR (sq (dw l))
theorem zG(y:List Nat):cR (45::y)=if cR y=[]then[]else 45::cR y:=pn [45] y
theorem Ta(l:List Nat):cR (sq (45::l))=if dd l=[]then[]else 45::dd l:=by rw[Hm,zG];rfl
theorem S9{l:List Nat}(h:l.head?.any eJ=false):cR (sq l)=dd l:=by
 unfold dd;rcases l with _|⟨c,l⟩
 ·rfl
 ·have e:eJ c=false:=h;unfold dw;rw[Zp,e,Vg ZP]
theorem OB(l:List Nat):dd (45::l)=dd l:=rfl
theorem ix(l:List Nat):∀a:Nat,dd (X0 a 45++l)=dd l|0=>rfl|a+1=>ix l a
theorem O6:∀{c:List Nat}(r:List Nat),sL c=true->cR c=c->sq (c++45::r)=c++sq (45::r):=by
 intro c;induction c with
 |nil=>intro r h1 h2;rfl
 |cons a c ih=>
  intro r h1 h2;rw[sI,ZV,ZN]at h1;have ht:cR c=c:=by
   have e:=pn [a] c;rw[show[a]++c=a::c from rfl,h2]at e;by_cases q:cR c=[]
   ·rw[Vh q]at e;have el:=Ve YU e;have:(cR [a]).length<=1:=(Tx.vy [a]).1;rw[YS]at el;have:c=[]:=YQ.mp (aO 0x802911190b23 el this);rw[this];rfl
   ·rw[Vg q]at e;exact(List.cons.inj e).2.symm
  rw[Zt,By,ih r h1.2 ht];rfl;rcases c with _|⟨b,c⟩
  ·have:eJ a=false:=by cases q:eJ a with|false=>rfl|true=>have:=beq_iff_eq.mp q;subst this;exact absurd h2 (by decide)
   rw[this];rfl
  ·exact h1.1
theorem O7:∀{c:List Nat},sL c=true->sq c=c:=by intro c;induction c with|nil=>intro h;rfl|cons a c ih=>intro h;rw[sI,ZV,ZN]at h;rw[By h.1,ih h.2]
theorem OA{l:List Nat}(h:l.head?.any eJ=false):dw l=l:=by
 rcases l with _|⟨c,l⟩
 ·rfl
 ·have e:eJ c=false:=h;unfold dw;rw[Zp,e,Vg ZP]
theorem QA{c:List Nat}(h:RM c):dd c=c:=by unfold dd;rw[OA h.hd,O7 h.nd,h.tl]
theorem D8{c:List Nat}(h:RM c)(hc:c≠[])(r:List Nat):dd (c++45::r)=if dd r=[]then c else c++45::dd r:=by
 unfold dd;have e:dw (c++45::r)=c++45::r:=OA (by
  rcases c with _|⟨a,c⟩
  ·exact absurd rfl hc
  ·exact h.hd)
 rw[e,O6 r h.nd h.tl,pn,Hm,zG,h.tl];by_cases q:cR (sq (dw r))=[]
 ·rw[Vh q,Vh rfl,Vh q]
 ·rw[Vg q,Vg (by exactλz=>nomatch z),Vg q]
theorem wj{c:List Nat}(h:RM c)(b:Nat):dd (c++X0 b 45)=c:=by
 rcases b with _|b
 ·rw[XY,Zu];exact QA h
 ·have hz:dd (X0 b 45)=[]:=by have:=ix [] b;rw[Zu]at this;rw[this];rfl
  by_cases hc:c=[]
  ·subst hc;exact hz
  ·rw[XZ,D8 h hc,Vh hz]
noncomputable def nA(z:Nat×List Nat×Nat):List Nat:=X0 z.1 45++z.2.1++X0 z.2.2 45
noncomputable def iy(zs:List (Nat×List Nat×Nat)):List (List Nat):=(zs.map λz=>z.2.1).filter λc=> !c.isEmpty
theorem NX{l:List (List Nat)}(h:l≠[])(ha:∀c∈l,c≠[]):jn 45 l≠[]:=by
 rcases l with _|⟨a,_|⟨b,l⟩⟩
 ·exact absurd rfl h
 ·exact ha a Yu
 ·exactλq=>nomatch(List.append_eq_nil_iff.mp q).2
theorem PQ{a b:List Nat}{l:List (List Nat)}:jn 45 (a::b::l)=a++45::jn 45 (b::l):=rfl
theorem MK:∀zs:List (Nat×List Nat×Nat),(∀z∈zs,RM z.2.1)->dd (jn 45 (zs.map nA))=jn 45 (iy zs):=by
 intro zs;induction zs with
 |nil=>intro h;rfl
 |cons z zs ih=>
  intro h;have hz:=h z Yu;have hr:=ih λy hy=>h y (Yv _ hy);have hcs:iy (z::zs)=if z.2.1=[]then iy zs else z.2.1::iy zs:=by unfold iy;rw[YC,Zi];rcases z.2.1 with _|⟨a,c⟩<;>rfl
  rcases zs with _|⟨y,zs⟩
  ·show dd (nA z)=_;unfold nA;rw[Zv,ix,wj hz,hcs];by_cases q:z.2.1=[]
   ·rw[Vh q,q];rfl
   ·rw[Vg q];rfl
  ·rw[YC,YC,PQ];unfold nA;rw[Zv,Zv,ix];have e:∀b:Nat,X0 b 45++45::jn 45 (nA y::zs.map nA)=45::(X0 b 45++jn 45 (nA y::zs.map nA)):=λb=>by rw[show X0 b 45++45::jn 45 (nA y::zs.map nA)=(X0 b 45++[45])++jn 45 (nA y::zs.map nA) by rw[Zv];rfl];rw[<-List.replicate_succ',XZ];rfl
   have rE:dd (jn 45 (nA y::zs.map nA))=jn 45 (iy (y::zs)):=hr;show dd (z.2.1++(X0 z.2.2 45++45::jn 45 (nA y::zs.map nA)))=_;rw[e,hcs];by_cases q:z.2.1=[]
   ·rw[Vh q,q,Yh,OB,ix,rE]
   ·rw[Vg q,D8 hz q,ix,rE];rcases Me:iy (y::zs)with _|⟨c,cs⟩
    ·exact Vh rfl
    ·rw[Vg (NX (by exactλz=>nomatch z) (λx hx=>?_))];rfl;rw[<-Me]at hx;unfold iy at hx;have:=(Yt.mp hx).2;intro q2;rw[q2]at this;exact ZO this
open Mine.Internal.Tx (toks dp)
open Mine.Internal.Re (eW dH)
def Za5:List (VV×Int):=[("dev",10),("alpha",20),("a",20),("beta",30),("b",30),("c",40),("RC",50),("rc",50),("pl",200),("p",200)]
def kM(x:VV):Option Int:=Za5.lookup x
noncomputable def SX:List Dat->List Dat|a::b::r=>b::SX r|_=>[]
def keyOf(l:List Dat):List Nat:=(SX l).map λd=>Nw.findIdx λw=>eqB w d
def gR(key:List Nat):List Dat:=key.flatMap vE
def JL(l:List Nat):Bool:= !(l.head?.any eJ)&&sL l&& !(l.reverse.head?.any eJ)
theorem JK{l:List Nat}(h:JL l=true):RM l:=by
 unfold JL at h;rw[ZV,ZV,ZN,ZN]at h;refine⟨h.1.1,h.1.2,?_⟩;unfold cR;have e:l.reverse.dropWhile (·==45)=l.reverse:=iw λc hc=>by have z:=h.2;rw[hc]at z;exact z
 rw[e,XW]
theorem G4:(Yc 17).all (λkd=>(Yc 4).all λsc=>(Yc 2).all λze=>(Yc 13).all λso=>JL (qH kd sc ze so)&&(AA (toks kM (qH kd sc ze so)) (gR (eV kd sc))&&dp (qH kd sc ze so)))=true:=by decide +kernel
theorem tU(n:Nat):JL (coreC n)=true/\toks kM (coreC n)=gR (bH n)/\dp (coreC n)=true:=by have h:=C8 G4 (Xp n (show 0<17 by decide)) (Xp (n/17) (show 0<4 by decide)) (Xp (n/884) (show 0<2 by decide)) (Xp (n/68) (show 0<13 by decide));rw[ZV,ZV]at h;exact⟨h.1,rI h.2.1,h.2.2⟩
theorem fP{s:Nat}(hs:dH s=true)(l:List Nat):∀a:Nat,toks kM (X0 a s++l)=toks kM l/\dp (X0 a s++l)=dp l|0=>⟨rfl,rfl⟩|a+1=>by have h:=Tx.vq (stg:=kM) hs [] (X0 a s++l);rw[Yh,Tx.hH,Tx.gW,Yh,Bool.true_and]at h;have z:=fP hs l a;exact⟨h.1.trans z.1,h.2.trans z.2⟩
theorem iJ{s:Nat}(hs:dH s=true)(l:List Nat):∀a:Nat,toks kM (l++X0 a s)=toks kM l/\dp (l++X0 a s)=dp l|0=>by rw[XY,Zu];exact⟨rfl,rfl⟩|a+1=>by have h:=Tx.vq (stg:=kM) hs l (X0 a s);have z:=fP hs [] a;rw[Zu,Tx.hH,Tx.gW]at z;rw[XZ,h.1,h.2,z.1,z.2,Zu,Bool.and_true];exact⟨rfl,rfl⟩
theorem DP{n:Nat}(h:keeps n=true):dH (w8 n)=true/\eJ (w8 n)=false:=by
 unfold keeps at h;rw[ZV,Vc,Vc]at h;have e:w8 n=jo.getD (pN n) 0:=Vh (aZ 0xca000ba01009a142 h);have t:∀k<12,9<=k->dH (jo.getD k 0)=true/\eJ (jo.getD k 0)=false:=by decide +kernel
 rw[e];exact t _ (aZ 0xca000ba01009a142 h) h.1
theorem sJ{s:Nat}(hs:eJ s=false)(l:List Nat):∀a:Nat,sL (X0 a s++l)=sL l|0=>rfl|a+1=>by rw[XZ,Zt,sI,hs,Bool.false_and];exact sJ hs l a
theorem zR{s:Nat}(hs:eJ s=false)(b:Nat):∀l:List Nat,sL l=true->sL (l++X0 b s)=true
 |[],h=>by have z:=sJ hs [] b;rw[Zu]at z;rw[Yh,z];rfl
 |c::l,h=>by
  rw[sI,ZV]at h;rw[Zt,sI,zR hs b l h.2,Bool.and_true];rcases l with _|⟨d,l⟩
  ·rcases b with _|b
   ·exact h.1
   ·show(!(eJ c&&eJ s))=true;rw[hs,ZT];rfl
  ·exact h.1
theorem any_false{l:List Nat}:(l.head?.any eJ=false)↔∀c,l.head?=Xd c->eJ c=false:=by
 rcases l with _|⟨a,l⟩
 ·exact⟨λh c hc=>(nomatch hc),λh=>rfl⟩
 ·exact⟨λh c hc=>(by obtain rfl:=Xc hc;exact h),λh=>h a rfl⟩
theorem mi(n:Nat):RM (b6 n):=by
 have h:=(tU n).1;unfold b6;by_cases hk:keeps n=true
 ·rw[Vh hk];refine JK ?_;unfold JL at h ⊢;rw[ZV,ZV,ZN,ZN]at h ⊢;have hs:=(DP hk).2;unfold yc;refine⟨⟨any_false.mpr (oB hs (any_false.mp h.1.1) _ _),?_⟩,?_⟩
  ·rw[Zv,sJ hs];exact zR hs _ _ h.1.2
  ·rw[D0];exact any_false.mpr (oB hs (any_false.mp h.2) _ _)
 ·rw[Vg hk];exact JK h
theorem CM(n:Nat):toks kM (b6 n)=gR (bH n)/\dp (b6 n)=true:=by
 have h:=(tU n).2;unfold b6;by_cases hk:keeps n=true
 ·rw[Vh hk];have hs:=(DP hk).1;unfold yc;rw[(iJ hs _ _).1,(iJ hs _ _).2,(fP hs _ _).1,(fP hs _ _).2];exact h
 ·rw[Vg hk];exact h
theorem gX{n:Nat}(hn:n<275808):toks kM (kept (S (aT n)))=gR (bH n)/\dp (kept (S (aT n)))=true:=by
 have h45:dH 45=true:=by decide
 rw[vO hn,(iJ h45 _ _).1,(iJ h45 _ _).2,(fP h45 _ _).1,(fP h45 _ _).2];exact CM n
def qa(n:Nat):Nat×List Nat×Nat:=(Be n,b6 n,LR n)
theorem sW{n:Nat}(hn:n<275808):kept (S (aT n))=nA (qa n):=vO hn
theorem xQ(n:Nat):oi n=decide (0<Be n):=by unfold oi Be dash;cases decide (1<=pN n)&&decide (pN n<=8)<;>rfl
theorem p9{n m:Nat}(hn:n<275808)(hm:m<275808)(h:aT n=aT m):bH n=bH m/\b6 n=b6 m/\(b6 n≠[]->oi n=oi m):=by
 have e:nA (qa n)=nA (qa m):=by rw[<-sW hn,<-sW hm,h]
 have dc:∀n:Nat,dd (nA (qa n))=b6 n:=λn=>by show dd (X0 (Be n) 45++b6 n++X0 (LR n) 45)=_;rw[Zv,ix,wj (mi n)]
 have ec:b6 n=b6 m:=by rw[<-dc n,<-dc m,e]
 have inv:(Yc 17).all (λkd=>(Yc 4).all λsc=>keyOf (gR (eV kd sc))==eV kd sc)=true:=by decide +kernel
 refine⟨?_,ec,λjI=>?_⟩
 ·have t:gR (bH n)=gR (bH m):=by rw[<-(gX hn).1,<-(gX hm).1,h]
  have i:=λn=>beq_iff_eq.mp (all2 inv (Xp n (show 0<17 by decide)) (Xp (n/17) (show 0<4 by decide)));have:=(i n).symm.trans ((Ve keyOf t).trans (i m));exact this
 ·rw[xQ,xQ];have hh:∀n:Nat,b6 n≠[]->(nA (qa n)).head?.any eJ=decide (0<Be n):=λn jI=>by
   show(X0 (Be n) 45++b6 n++X0 (LR n) 45).head?.any eJ=_;have hc:=(mi n).hd;rcases Be n with _|a
   ·rw[XY,Yh];rcases hcf:b6 n with _|⟨c,r⟩
    ·exact absurd hcf jI
    ·rw[hcf]at hc;exact hc
   ·rfl
  rw[<-hh n jI,<-hh m (ec▸jI),e]
open Mine.Internal.Mp (sS dec wW tm pl Bh pF cnt)
def wM:List VW:=fk pw 14
def nG:V5:=dW pw 14
def nK:List Dat->Option Dat:=ph Ey ml nG wM ["many"]
noncomputable def comps:Nat->Nat->List (List Nat)|0,_=>[[]]|f+1,n=>if n=0 then[[]]else(Yc n).flatMap λk=>(comps f (n-(k+1))).map ((k+1)::·)
theorem F8:∀(f n:Nat)(l:List Nat),n<=f->l.sum=n->(∀c∈l,c≠0)->l∈comps f n:=by
 intro f;induction f with
 |zero=>
  intro n l hn hs h;rcases l with _|⟨c,l⟩
  ·exact Yu
  ·have:=h c Yu;rw[XR]at hs;exact(bj 0x68123021b28014 hn hs this).elim
 |succ f ih=>
  intro n l hn hs h;show l∈if n=0 then[[]]else(Yc n).flatMap λk=>(comps f (n-(k+1))).map ((k+1)::·);rcases l with _|⟨c,l⟩
  ·rw[Vh (by rw[<-hs];rfl)];exact Yu
  ·have hc:=h c Yu;rw[XR]at hs;rw[Vg (by exact bj 0x82238023210b23 hs hc)];refine List.mem_flatMap.mpr ⟨c-1,Yl.mpr (bj 0x290c08023210b23 hs hc),Yr.mpr ⟨l,ih _ l (bj 0x1992cb0c191b012 hn) (bj 0x990cb2c128023210b23 hs hc) λd hd=>h d (Yv _ hd),?_⟩⟩;rw[Nat.sub_add_cancel (Nat.one_le_iff_ne_zero.mpr hc)]
noncomputable def iH(l:List Nat)(v:Nat):Nat:=l.getD v 0
theorem GW:(comps 7 7).all (λl=>GH (nK [.list (aD l)]) (.int ((Bh 7/pF (iH l) l.length:Nat):Int)))=true:=by decide +kernel
theorem Bt:∀l:List Nat,sS (iH l) l.length=l.sum:=by
 have key:∀(l r:List Nat),sS (iH (r++l)) r.length+l.sum=sS (iH (r++l)) (r.length+l.length):=by
  intro l;induction l with
  |nil=>intro r;rfl
  |cons c l ih=>
   intro r;have z:=ih (r++[c]);rw[Zv,XU,YT,YI]at z;have e:sS (iH (r++c::l)) (r.length+1)=sS (iH (r++c::l)) r.length+c:=by show _+iH (r++c::l) r.length=_;unfold iH;rw[Ze,Zc (Xz _),Nat.sub_self];rfl
   rw[e]at z;rw[XR,<-XK,z,YS];congr 1;exact aO 0x91b0b190bb21
 intro l;have:=key l [];simp only[Yh,YM,Xl]at this;rw[<-this];exact Xl _▸rfl
theorem Di{l:List Nat}(hs:l.sum=7)(h:∀c∈l,c≠0):nK [.list (aD l)]=Xd (.int ((wW l.length 7 (iH l):Nat):Int)):=by
 have e:Bh 7/pF (iH l) l.length=wW l.length 7 (iH l):=by have:=Mp.Es 7 (iH l) ((Bt l).trans hs);rw[<-this,Nat.mul_div_cancel _ (Mp.xu _ _)]
 rw[<-e];exact iu (Zw.mp GW l (F8 7 7 l (Xz _) hs h))
def vk:fO:=Ey.and "_law_ways" nK
def HM:List VW:=fk pw 15
def fJ:V5:=dW pw 15
abbrev Bd(i:Nat):VW:=aw HM i
def d0:List VW:=cN (Bd 3)
def rq(row many l:List Dat)(w t:Int):ax:=[(("told":VV),.val (.int t)),(("ways":VV),.val (.int w)),(("left":VV),.own (.list l)),(("row":VV),.val (.list row)),(("many":VV),.val (.list many))]
section
variable {row many l:List Dat} {w t Kf one:Int} {J:Option Dat}
theorem Zbd:ex vk Ψ fJ (Bd 0) (bq ["row","many"] [.list row,.list many])=((newD "list" [.list many]).bind λd=>bV fJ "left" (.own d) (bq ["row","many"] [.list row,.list many])).map .next:=by rfl
def pV1(row many l:List Dat):ax:=(("left":VV),.own (.list l))::bq ["row","many"] [.list row,.list many]
theorem Sr:ev vk fJ (bx (Bd 1)) (pV1 row many l)=nK [.list many]:=by rfl
theorem Zbc:ex vk Ψ fJ (Bd 2) V=Xd (.next (("told",.val (.int 0))::V)):=by rfl
theorem Zbb:Bd 3=.For (dF (Bd 3)) (cY (Bd 3)) d0 [] (ki (Bd 3)):=by rfl
theorem Pg:ev vk fJ (cY (Bd 3)) (rq row many l w t)=Xd (.list row):=by rfl
def pT(one:Int)(J:Option Dat)(row many l:List Dat)(w t:Int):ax:=(("one":VV),.val (.int one))::(jv "total" J++rq row many l w t)
theorem Zbi:ex vk Ψ fJ (aw d0 0) (pT one J row many l w t)=vf fJ "total" (sumF [.list l]) (ev vk fJ (bx (aw d0 0)) (bp (pT one J row many l w t))) (pT one J row many l w t):=by rcases J with⟨⟩<;>rfl
def pU(one Kf:Int)(J:Option Dat)(row many l:List Dat)(w t:Int):ax:=(("total":VV),.val (.int Kf))::pT one J row many l w t
theorem Zbh:ex vk Ψ fJ (aw d0 1) V=vf fJ "told" (ev vk fJ (bx (aw d0 1)) V) (ev vk fJ (bx (aw d0 1)) (bp V)) V:=by rfl
def O4(l:List Dat)(one w Kf:Int):Option Dat:=eF sumF (cb (b9 (Xd (.list l)) (Xd Xe) (mv (Xd (.int one))) (Xd Xe)) λc=>dI (bQ .FloorDiv (bQ .Mult (Xd (.int w)) (Xd c)) (Xd (.int Kf))))
theorem SU:ev vk fJ (bx (aw d0 1)) (pU one Kf Xe row many l w t)=bQ .Add (Xd (.int t)) (O4 l one w Kf):=by rfl
theorem Zbg:ex vk Ψ fJ (aw d0 2) V=vf fJ "ways" (ev vk fJ (bx (aw d0 2)) V) (ev vk fJ (bx (aw d0 2)) (bp V)) V:=by rfl
theorem SR{t':Int}:ev vk fJ (bx (aw d0 2)) ((("told":VV),.val (.int t'))::pU one Kf Xe row many l w t)=bQ .FloorDiv (bQ .Mult (Xd (.int w)) (cB (Xd (.list l)) (Xd (.int one)))) (Xd (.int Kf)):=by rfl
def Hf(x:VV)(a:Dat)(j e:Option Dat)(V:ax):Option Fl:=e.bind λd=>j.bind λj=>(jU a j d).map λa'=>.next ((x,.own a')::V)
theorem Zbf{t' w':Int}:ex vk Ψ fJ (aw d0 3) ((("ways":VV),.val (.int w'))::(("told":VV),.val (.int t'))::pU one Kf Xe row many l w t)=Hf "left" (.list l) (Xd (.int one)) (bQ .Sub (cB (Xd (.list l)) (Xd (.int one))) (Xd (.int 1))) ((("ways":VV),.val (.int w'))::(("told":VV),.val (.int t'))::pU one Kf Xe row many l w t):=by rfl
theorem Ls:d0=[aw d0 0,aw d0 1,aw d0 2,aw d0 3]:=by rfl
theorem K9:HM=[Bd 0,Bd 1,Bd 2,Bd 3,.Return (Xd (cX (Bd 4))) (fQ (Bd 4))]:=by rfl
theorem Pf(d:Dat)(V:ax):bL fJ (dF (Bd 3)) d V=Xd ((("one":VV),.val d)::V):=by rfl
end
theorem rM{n:Nat}{k:Nat}(h:k<=n):clipAt n (k:Int)=k:=by unfold clipAt;rw[Vg (by exact aZ 0x80af731)];exact aO 0x1af0afdf8cfbf21012 h
theorem sm{α:Type}(xs:List α){k:Nat}(hk:k<=xs.length):pick xs Xe (Xd (k:Int)) Xe=xs.take k:=by rw[fh];show(xs.drop 0).take (clipAt xs.length (k:Int)-0)=_;rw[rM hk,Zm,Nat.sub_zero]
theorem sk{α:Type}(xs:List α){k:Nat}(hk:k<=xs.length):pick xs (Xd (k:Int)) Xe Xe=xs.drop k:=by rw[fh];show(xs.drop (clipAt xs.length (k:Int))).take (xs.length-clipAt xs.length (k:Int))=_;rw[rM hk,XO (by rw[YR];exact Xz _)]
theorem vx{α:Type}(xs:List α){j k:Nat}(hj:j<=xs.length)(hk:k<=xs.length):pick xs (Xd (j:Int)) (Xd (k:Int)) Xe=(xs.drop j).take (k-j):=by rw[fh];show(xs.drop (clipAt xs.length (j:Int))).take (clipAt xs.length (k:Int)-clipAt xs.length (j:Int))=_;rw[rM hj,rM hk]
theorem jW{k:Nat}(h:k<=1000):aM (k:Int)=true:=jk (aZ 0xaf000f42408f9f81) (aZ 0xf42408f0af8000003e88f012 h)
theorem EX{ds:List Dat}{hi:Int}(h2:aM hi=true)(hl:ds.length<=aS):b9 (Xd (.list ds)) (Xd Xe) (Xd (Xd hi)) (Xd Xe)=Xd (.list (pick ds Xe (Xd hi) Xe)):=by show(if(Xe:Option Int)=Xd 0\/(Xe:Option Int).all aM=false\/(Xd hi).all aM=false\/(Xe:Option Int).all aM=false then Xe else(if ds.length<=aS then Xd (Dat.list (pick ds Xe (Xd hi) Xe))else Xe))=_;rw[Vg (by simp[h2]),Vh hl]
theorem EP{ds:List Dat}{k:Nat}(hk:k<=ds.length)(hl:ds.length<=1000):b9 (Xd (.list ds)) (Xd Xe) (mv (Xd (.int (k:Int)))) (Xd Xe)=Xd (.list (ds.take k)):=by rw[gB,EX (jW (Xy hk hl)) (Xy hl (by decide)),sm ds hk]
theorem zq(l:List Nat):sumF [.list (aD l)]=Xd (.int (l.sum:Int)):=by
 have h:∀l:List Nat,intsOf (aD l)=Xd (l.map λk:Nat=>(k:Int)):=by intro l;induction l with|nil=>rfl|cons i l ih=>show(intsOf (aD l)).map ((i:Int)::·)=_;rw[ih];rfl
 have e:∀l:List Nat,(l.map λk:Nat=>(k:Int)).sum=(l.sum:Int):=by intro l;induction l with|nil=>rfl|cons i l ih=>rw[YC,XR,ih,XR];rfl
 show(intsOf (aD l)).map (λns=>Dat.int ns.sum)=_;rw[h];show Xd (Dat.int (l.map λk:Nat=>(k:Int)).sum)=_;rw[e]
theorem zl(f:Nat->Nat)(l:List Nat):∀x,x<=l.length->((l.take x).map f).sum=sS (λv=>f (iH l v)) x
 |0,h=>rfl
 |x+1,h=>by
  have e:l.take (x+1)=l.take x++[iH l x]:=by have hx:=h;rw[List.take_add_one,Y9 hx];unfold iH;rw[Ze,Y9 hx];rfl
  rw[e,YE,List.sum_append,zl f l x (XE h)];rw[XH];rfl
theorem Q2(l:List Nat){x c:Nat}(hx:x<l.length)(v:Nat):iH (l.set x c) v=if v=x then c else iH l v:=by
 unfold iH;rw[Ze,List.getElem?_set];by_cases h:x=v
 ·subst h;rw[Vh rfl,Vh hx,Vh rfl];rfl
 ·rw[Vg h,Vg (Xj h),Ze]
theorem rJ:∀{xs:List Nat}{m:Nat},(∀x∈xs,x<m)->sS (cnt xs) m=xs.length|[],m,h=>Mp.xb m λv hv=>rfl|x::xs,m,h=>by have hx:=h x Yu;have:=Mp.xc (M:=cnt (x::xs)) Mp.tX m hx;rw[Mp.rK,rJ λy hy=>h y (Yv _ hy)]at this;exact this.symm
theorem Zcj{n m:Nat}{M:Nat->Nat}(h:sS M m=n)(h7:n<=7):wW m n M<=5040:=by
 have h1:=Mp.Es n M h;have h2:wW m n M<=Bh n:=by rw[<-h1];exact Nat.le_mul_of_pos_right _ (Mp.xu M m)
 have h3:∀k<8,Bh k<=5040:=by decide
 exact Xy h2 (h3 n (aZ 0x8a0007a012 h7))
theorem Q3{l:List Nat}{x:Nat}(hx:x<l.length):(aD l)[x]?=Xd (.int (iH l x:Int)):=by unfold aD iH;rw[YZ,Ze,Y9 hx];rfl
theorem cz(l:List Nat):(aD l).length=l.length:=YN ..
theorem mul_div{a b c:Nat}(ha:a<=5040)(hb:b<=7)(hc:0<c)(hc7:c<=7):bQ .FloorDiv (bQ .Mult (Xd (.int (a:Int))) (Xd (.int (b:Int)))) (Xd (.int (c:Int)))=Xd (.int ((a*b/c:Nat):Int)):=by rw[b7,A2 (zC (by exact aZ 0x27108f01000013b08f012 ha)) (zC (by exact aZ 0x27108f0107a012 hb)),b7,A3 (by exact aZ 0x80af930802 hc) (by omega)];rw[<-Int.natCast_mul,Aw]
where zC {k:Nat} (h:k<=10000):aM (k:Int)=true:=jk (aZ 0xaf000f42408f9f81) (aZ 0xf42408f0af8000027108f012 h)
theorem BR{x:Nat}{rs l:List Nat}{t:Nat}{J:Option Dat}{row many:List Dat}(hl:∀v,iH l v=cnt (x::rs) v)(hm:l.length<=7)(hb:∀y∈x::rs,y<l.length)(h7:rs.length<7):∃l' W',cn vk ml fJ d0 (pT (x:Int) J row many (aD l) ((wW l.length (rs.length+1) (cnt (x::rs)):Nat):Int) (t:Int))=Xd (.next W')/\l'.length=l.length/\(∀v,iH l' v=cnt rs v)/\bR W' ((("one":VV),.val (.int (x:Int)))::(jv "total" (Xd (.int ((rs.length+1:Nat):Int)))++rq row many (aD l') ((wW l.length rs.length (cnt rs):Nat):Int) ((t+sS (tm l.length rs.length (cnt (x::rs))) x:Nat):Int))):=by
 revert J many hl hm hb h7;refine no_implicit_lambda% (xA5 U8 ?_ l x rs row t);generalize gE _ _=tt;dsimp only[K5];generalize tt.1.1.1=l,tt.1.1.2=x,tt.1.2=rs,tt.2.1=row,tt.2.2=t;intro J many hl hm hb h7;have hx:=hb x Yu;have IW:=funext hl;have IF:l.sum=rs.length+1:=by rw[<-Bt,IW,rJ hb];rfl
 have hS:sS (cnt (x::rs)) l.length=rs.length+1:=rJ hb;have hw:=Zcj hS (aZ 0x7a90b107a002 h7);have h0:cn vk ml fJ d0 (pT (x:Int) J row many (aD l) ((wW l.length (rs.length+1) (cnt (x::rs)):Nat):Int) (t:Int))=cn vk ml fJ [aw d0 1,aw d0 2,aw d0 3] (pU (x:Int) ((rs.length+1:Nat):Int) J row many (aD l) ((wW l.length (rs.length+1) (cnt (x::rs)):Nat):Int) (t:Int)):=by rw[Ls];exact aF (aN rfl (jB Zbi (by rw[zq,IF]) rfl))
 have hE:bR (pU (x:Int) ((rs.length+1:Nat):Int) J row many (aD l) ((wW l.length (rs.length+1) (cnt (x::rs)):Nat):Int) (t:Int)) (pU (x:Int) ((rs.length+1:Nat):Int) Xe row many (aD l) ((wW l.length (rs.length+1) (cnt (x::rs)):Nat):Int) (t:Int)):=by
  rcases J with⟨⟩
  ·exact .refl _
  ·exact bR.gz rfl
 generalize hW:wW l.length (rs.length+1) (cnt (x::rs))=w at *;have hdiv:∀v,v<l.length->w*iH l v/(rs.length+1)=tm l.length rs.length (cnt (x::rs)) v:=λv hv=>by rw[<-hW,hl v];exact Mp.Zax hS hv
 have Om:∀v,v<l.length->iH l v<=7:=λv hv=>by have:=Mp.Dw (f:=iH l) l.length hv;rw[IW,hS]at this;rw[IW];exact bj 0x7a2190b21b107a003 h7 this
 have T7:O4 (aD l) (x:Int) (w:Int) ((rs.length+1:Nat):Int)=Xd (.int ((sS (tm l.length rs.length (cnt (x::rs))) x:Nat):Int)):=by
  unfold O4;rw[EP (by rw[cz];exact aO 0x1011002 hx) (by rw[cz];exact aZ 0x3e88f0107a012 hm)];have hit:bP (.list ((aD l).take x))=Xd ((aD l).take x):=rfl;have FO:(aD l).take x=aD (l.take x):=by unfold aD;rw[List.map_take]
  rw[FO]at hit ⊢;rw[fj hit (g:=n7 λc=>.int ((w*c.toNat/(rs.length+1):Nat):Int)) (λd hd=>by
   refine av (Yr.mp hd) ?_;rintro c hc(rfl);obtain⟨i,hi,rfl⟩:=Ys.mp hc;rw[YH]at hi;have hil:i<l.length:=bj 0x20021df002 hi;have h7':(l.take x)[i]<=7:=by rw[List.getElem_take];have:=Om i hil;unfold iH at this;rwa [Ze,Y9 hil]at this
   rw[mul_div hw h7' (Xm _) (by exact aZ 0x7a90b107a002 h7)];rfl) (by rw[cz,YH];unfold aS;exact aO 0xf42408f01df107a012 hm),eE]
  have e:(aD (l.take x)).map (n7 λc=>.int ((w*c.toNat/(rs.length+1):Nat):Int))=aD ((l.take x).map λc=>w*c/(rs.length+1)):=by unfold aD;rw[YB,YB];rfl
  rw[e,zq,zl _ l x (by exact aO 0x1011002 hx),Mp.nS x λv hv=>hdiv v (by exact bj 0x1200201003 hx hv)]
 have ja:=ji (Q3 hx) (by rw[cz];exact aZ 0x3e88f0107a012 hm);have T1:bQ .FloorDiv (bQ .Mult (Xd (.int (w:Int))) (cB (Xd (.list (aD l))) (Xd (.int (x:Int))))) (Xd (.int ((rs.length+1:Nat):Int)))=Xd (.int ((wW l.length rs.length (cnt rs):Nat):Int)):=by rw[ja,mul_div hw (Om x hx) (Xm _) (by exact aZ 0x7a90b107a002 h7),hdiv x hx,Mp.rg]
 have hax:iH l x≠0:=by rw[IW];exact Mp.tX
 have GF:Hf "left" (.list (aD l)) (Xd (.int (x:Int))) (bQ .Sub (cB (Xd (.list (aD l))) (Xd (.int (x:Int)))) (Xd (.int 1)))=λV=>Xd (.next ((("left":VV),.own (.list (aD (l.set x (iH l x-1)))))::V)):=by
  funext V;rw[ja];have e1:bQ .Sub (Xd (.int (iH l x:Int))) (Xd (.int 1))=Xd (.int ((iH l x-1:Nat):Int)):=by rw[b7,ua];have e0:((iH l x:Nat):Int)-1=((iH l x-1:Nat):Int):=aZ 0x90caf90afc980232 hax;rw[e0]
  rw[e1];show(jU (.list (aD l)) (.int (x:Int)) (.int ((iH l x-1:Nat):Int))).map _=_;have e2:jU (.list (aD l)) (.int (x:Int)) (.int ((iH l x-1:Nat):Int))=Xd (.list (aD (l.set x (iH l x-1)))):=by show(if 0<=(x:Int)/\(x:Int)<((aD l).length:Int)/\(aD l).length<=aS then Xd (Dat.list ((aD l).set (x:Int).toNat (.int ((iH l x-1:Nat):Int))))else Xe)=_;rw[Vh ⟨by exact aZ 0xaf881,by rw[cz];exact aO 0x1af0af71002 hx,by rw[cz];unfold aS;exact aZ 0xf42408f0107a012 hm⟩,Zz];unfold aD;rw[List.map_set]
  rw[e2];rfl
 have h1:cn vk ml fJ [aw d0 1,aw d0 2,aw d0 3] (pU (x:Int) ((rs.length+1:Nat):Int) Xe row many (aD l) (w:Int) (t:Int))=Xd (.next ((("left":VV),.own (.list (aD (l.set x (iH l x-1)))))::(("ways":VV),.val (.int ((wW l.length rs.length (cnt rs):Nat):Int)))::(("told":VV),.val (.int ((t+sS (tm l.length rs.length (cnt (x::rs))) x:Nat):Int)))::pU (x:Int) ((rs.length+1:Nat):Int) Xe row many (aD l) (w:Int) (t:Int))):=by refine(aF (aW:=(("told":VV),.val (.int ((t+sS (tm l.length rs.length (cnt (x::rs))) x:Nat):Int)))::pU (x:Int) ((rs.length+1:Nat):Int) Xe row many (aD l) (w:Int) (t:Int)) (aN rfl (jB Zbh (SU.trans (by rw[T7,b7,oU];rfl)) rfl))).trans ((aF (aN rfl (jB Zbg (SR.trans T1) rfl))).trans ((aF (aN rfl (Zbf.trans (congrFun GF _)))).trans ?_));rfl
 refine av (ju mz.none hE h1) λW' h2 h3=>⟨l.set x (iH l x-1),W',h0.trans h2,List.length_set,λv=>?_,h3.trans (bR.gz rfl)⟩;rw[Q2 l hx,<-Mp.rK];unfold Mp.dec;rw[<-IW];by_cases e:v=x
 ·subst e;rfl
 ·rw[Vg e,Vg e]
def pz:List Dat->Option Dat:=ph vk ml fJ HM ["row","many"]
noncomputable abbrev PSt:=Option Dat×List Nat×Nat×Nat
def HR(row many:List Nat)(a:PSt):ax:=jv "total" a.1++rq (aD row) (aD many) (aD a.2.1) (a.2.2.1:Int) (a.2.2.2:Int)
def Zcl(row:List Nat)(m:Nat)(done:List Dat)(a:PSt):Prop:=∃dn rs,row=dn++rs/\done=aD dn/\a.2.1.length=m/\(∀v,iH a.2.1 v=cnt rs v)/\a.2.2.1=wW m rs.length (cnt rs)/\a.2.2.2+pl m rs (cnt rs)=pl m row (cnt row)
theorem ints_cons{rs:List Nat}{rest:List Dat}(h:aD rs=d::rest):∃x r,rs=x::r/\d=.int ((x:Nat):Int):=by
 rcases rs with _|⟨x,rs⟩
 ·exact nomatch h
 ·exact⟨x,rs,rfl,(List.cons.inj h).1.symm⟩
theorem sE{row many:List Nat}(hm:many.length<=7)(hs:many.sum=7)(h0:∀c∈many,c≠0)(hr:row.length=7)(hb:∀x∈row,x<many.length)(hc:∀v,iH many v=cnt row v):pz [.list (aD row),.list (aD many)]=Xd (.int ((pl many.length row (cnt row):Nat):Int)):=by
 refine iO rfl ?_;have hw:=Di hs h0;rw[show iH many=cnt row from funext hc]at hw;refine xR K9 ?_;have hn:newD "list" [.list (aD many)]=Xd (.list (aD many)):=by show(if(aD many).length<=aS then Xd (Dat.list (aD many))else Xe)=_;rw[Vh (by rw[cz];unfold aS;exact aZ 0xf42408f0107a012 hm)]
 refine(aF (aN rfl (Zbd.trans (by rw[hn];rfl)))).trans (dB "ways" (Sr.trans hw) rfl rfl ((aF (aN rfl Zbc)).trans ?_));rw[Zbb];have Qh:=I7 (ar:=aD row) mz.none Pf (HR row many) (Zcl row many.length) (λdone d rest a hi hI=>by
  refine EB hI λdn rs e1 e2 e3 e4 e5 e6=>?_;subst e2;have gJ:aD rs=d::rest:=by have z:=hi;rw[e1]at z;unfold aD at z ⊢;rw[YE]at z;exact List.append_cancel_left z
  refine eT (ints_cons gJ) λx rs q1 q2=>?_;subst q1 q2;have Qk:=λy hy=>e3▸hb y (e1▸Yx dn hy);have h7:rs.length<7:=by have:=Ve YU e1;rw[YT,YS,hr]at this;exact aO 0x7a1091b0b07a22 this
  refine wL (BR (J:=a.1) (row:=aD row) (many:=aD many) (t:=a.2.2.2) e4 (e3▸hm) Qk h7) λl' W' f1 f2 f3 f4=>?_;have ew:a.2.2.1=wW a.2.1.length (rs.length+1) (cnt (x::rs)):=e5.trans (by rw[e3];rfl);refine⟨(Xd (.int ((rs.length+1:Nat):Int)),l',wW a.2.1.length rs.length (cnt rs),a.2.2.2+sS (tm a.2.1.length rs.length (cnt (x::rs))) x),W',?_,f4,dn++[x],rs,by rw[e1,Zv];rfl,by unfold aD;rw[YE];rfl,f2.trans e3,f3,by rw[e3],?_⟩
  ·rw[<-ew]at f1;exact f1
  ·show a.2.2.2+_+pl many.length rs (cnt rs)=_;rw[<-e6,Mp.iP,e3,XK]) (aD row) [] (HR row many (Xe,many,wW many.length 7 (cnt row),0)) (Xe,many,wW many.length 7 (cnt row),0) Xe rfl (.refl _) ⟨[],row,rfl,rfl,rfl,hc,by rw[hr],by show 0+_=_;rw[Xl]⟩
 refine jg Qh λV' J' a' g1 g2 g3 hI=>EB hI λdn rs e1 e2 e3 e4 e5 e6=>?_;have P7:rs=[]:=by have h1:=Ve YU e1;have h2:=Ve YU e2;rw[cz,cz]at h2;rw[YT]at h1;exact YQ.mp (bj 0x82210221b023 h1 h2)
 subst P7;have e7:a'.2.2.2=pl many.length row (cnt row):=by rw[<-e6];rfl
 refine(aF (aN rfl ((yf rfl Pg rfl).trans g1))).trans (ed (aN rfl (eK (fU (d:=.int (a'.2.2.2:Int)) ?_))) (λv q=>by rcases q with⟨⟩)|>.trans (by rw[e7]));rw[cJ g3];unfold HR;rcases J' with⟨⟩<;>rcases a'.1 with⟨⟩<;>rfl
def jQ:List VW:=fk pw 12
def jP:V5:=dW pw 12
theorem gU{i:Int}(h:aM i=true):(Xd i).all aM=true:=h
def Pc(t:Dat)(w:Int):Option Dat:=(((lF [t]).bind λd=>Xd [d,Dat.int w]).map λds=>Dat.int 0::ds).bind j0
def txE(t:Dat)(k:Dat):Option Dat:=zZ ip (.str "") (cb (b9 (Xd t) (mv (Xd k)) (mv (bQ .Add (Xd k) (Xd (.int 11)))) (Xd Xe)) λx=>dI (eF MT (Xd x)))
theorem ZaZ{t:List UInt8}:ev Ey jP (cX (aw jQ 0)) (bq ["tape"] [.bytes t])=cb (Pc (.bytes t) 11) λk=>dI (txE (.bytes t) k):=by rfl
theorem Ku:jQ=[.Return (Xd (cX (aw jQ 0))) (fQ (aw jQ 0))]:=by rfl
def lb:List Dat->Option Dat:=ph Ey ml jP jQ ["tape"]
theorem JN{l:List Nat}(hl:l.length<=1000)(h:∀c∈l,c<128):zZ ip (.str "") (cb (Xd (.bytes (B8 l))) λx=>dI (eF MT (Xd x)))=Xd (.str ⟨l.toArray⟩):=by
 rw[fj rfl (g:=n7 λi=>Dat.str ⟨#[i.toNat]⟩) (λd hd=>by refine av (Yr.mp hd) ?_;rintro u hu(rfl);have:=u.toNat_lt;show dI (if 0<=(u.toNat:Int)/\(u.toNat:Int)<=0x10FFFF then Xd (Dat.str ⟨#[(u.toNat:Int).toNat]⟩)else Xe)=_;rw[Vh ⟨by exact aZ 0xaf881,by omega⟩];rfl) (by unfold B8 aS;rw[YN,YN];exact aZ 0xf42408f01000003e88f012 hl)];have e:((B8 l).map λx=>Dat.int (x.toNat:Int)).map (n7 λi=>Dat.str ⟨#[i.toNat]⟩)=(l.map λc=>(⟨#[c]⟩:VV)).map .str:=by unfold B8;rw[YB,YB,YB];refine YD λc hc=>?_;simp only[Function.comp_apply,xB];rw[u8 (h c hc),Zz]
 rw[e];show(strsOf ((l.map λc=>(⟨#[c]⟩:VV)).map .str)).bind (λys=>if(ys.map (·.length)).sum+ys.length*("":VV).length<=16777216 then Xd (Dat.str (Txt.join "" ys))else Xe)=_;rw[ia,Xh];have e2:("":VV).length=0:=by rfl
 have e3:((l.map λc=>(⟨#[c]⟩:VV)).map (·.length)).sum=l.length:=by rw[YB];clear hl h e;induction l with|nil=>rfl|cons c l ih=>rw[YC,XR,ih,YS];show 1+l.length=_;exact aZ 0x90b09b21
 rw[Vh (by rw[e2,e3];exact aO 0x10000008f100e0b1000003e88f012 hl)];refine Ve (λt=>Xd (Dat.str t)) (Tx.gN ?_);unfold Txt.join;rw[VS,vR,YB];clear hl h e e3;induction l with|nil=>rfl|cons c l ih=>rw[YC,Zf,ih];rfl
def fK{α:Type}(l:List (List α)):Prop:=∀c∈l,c.length=11
theorem tQ{α:Type}{l:List (List α)}(h:fK l):l.flatten.length=11*l.length:=by rw[I8 h,Nat.mul_comm]
theorem we{α:Type}:∀{l:List (List α)},fK l->∀k,l.flatten.take (11*k)=(l.take k).flatten|[],h,k=>by simp|c::l,h,0=>by simp|c::l,h,k+1=>by have hc:=h c Yu;rw[Zf,XN,Zf,Nat.mul_succ,XJ,List.take_append,hc,XO (by exact aO 0x10bd0bab010ba022 hc),XI,we λx hx=>h x (Yv _ hx)]
theorem wg{α:Type}:∀{l:List (List α)},fK l->∀k,l.flatten.drop (11*k)=(l.drop k).flatten|[],h,k=>by simp|c::l,h,0=>by simp|c::l,h,k+1=>by have hc:=h c Yu;rw[Zf,List.drop_succ_cons,Nat.mul_succ,XJ,<-Zo,List.drop_left' hc,wg λx hx=>h x (Yv _ hx)]
theorem len_bytes{t:List UInt8}(h:t.length<=1000):lF [.bytes t]=Xd (.int (t.length:Int)):=fR (κ:=false) (Xy h (by decide))
theorem K4{t:List UInt8}{q:Nat}(h:t.length=11*q)(hq:q<=7):Pc (.bytes t) 11=Xd (.range 0 ((11*q:Nat):Int) 11):=by unfold Pc;rw[len_bytes (by exact aO 0x3e88f0107a1110bd023 h hq),h];rfl
theorem LY:∀q<8,bP (.range 0 ((11*q:Nat):Int) 11)=Xd ((Yc q).map λk:Nat=>.int ((11*k:Nat):Int)):=by intro q hq;rcases q with _|_|_|_|_|_|_|_|q;all_goals first|exact(aZ 0x608a999999990bbbbbbbb02 hq).elim|kernel_rfl
theorem zj{cs:List (List Nat)}(h:fK cs)(hl:cs.length<=7)(Qo:∀c∈cs,∀x∈c,x<128):lb [.bytes (B8 cs.flatten)]=Xd (.list (cs.map λc=>.str (S c))):=by
 refine iO rfl ?_;have hlen:(B8 cs.flatten).length=11*cs.length:=by unfold B8;rw[YN,tQ h]
 have hv:ev Ey jP (cX (aw jQ 0)) (bq ["tape"] [.bytes (B8 cs.flatten)])=Xd (.list (cs.map λc=>.str (S c))):=by
  rw[ZaZ,K4 hlen hl,fj (LY _ (by exact aZ 0x8a0007a012 hl)) (g:=n7 λk=>.str (S (cs.getD (k.toNat/11) []))) (λd hd=>by
   refine av (Yr.mp hd) ?_;rintro k hk(rfl);have hk:=Yl.mp hk;have e1:bQ .Add (Xd (.int ((11*k:Nat):Int))) (Xd (.int 11))=Xd (.int ((11*k+11:Nat):Int)):=rfl;have oo:b9 (Xd (.bytes (B8 cs.flatten))) (mv (Xd (.int ((11*k:Nat):Int)))) (mv (bQ .Add (Xd (.int ((11*k:Nat):Int))) (Xd (.int 11)))) (Xd Xe)=Xd (.bytes (B8 (cs.getD k []))):=by rw[e1,gB,gB,gy (by simp) (gU (jW (by exact aO 0x3e88f10bd101007a013 hl hk))) (gU (jW (by exact aO 0x3e88f0ba10bdb101007a013 hl hk))) rfl (by rw[hlen];unfold aS;exact aZ 0xf42408f00bd107a012 hl),vx _ (by exact bj 0x20bd112010bd023 hlen hk) (by exact bj 0xba20bdb112010bd023 hlen hk)];refine Ve (λb=>Xd (Dat.bytes b)) ?_;unfold B8;rw[<-List.map_drop,<-List.map_take,show 11*k+11-11*k=11 by exact aZ 0xba00bd0ba00bdbc21,I9 h k (cs.getD k []) (by rw[Ze,Y9 hk];rfl)]
   show dI (zZ ip (.str "") (cb _ _))=_;have kQ:cs.getD k []∈cs:=by rw[Ze,Y9 hk];exact List.getElem_mem hk
   rw[oo,JN (by rw[h _ kQ];decide) (Qo _ kQ)];show Xd [_]=Xd [_];rw[xB,Zz,Xo _ (by decide)]) (by rw[YN,YL];unfold aS;exact aZ 0xf42408f0107a012 hl),YB]
  refine Ve (λl=>Xd (Dat.list l)) (Zl λj=>?_);rw[YZ,YZ];by_cases hj:j<cs.length
  ·rw[YY hj,Y9 hj];show Xd (n7 _ (.int ((11*j:Nat):Int)))=_;rw[xB,Zz,Xo _ (by decide),Ze,Y9 hj];rfl
  ·rw[Y8 (by rw[YL];exact aO 0x1110032 hj),Y8 (by exact aO 0x1110032 hj)];rfl
 rw[Ku];exact ed (aN rfl (eK (fU hv))) (λv q=>by rcases q with⟨⟩)
def Dd:fO:=(Ey.and "_byteswap" M7).and "_law_texts" lb
def pG:List VW:=fk pw 13
def dv:V5:=dW pw 13
abbrev ny(i:Nat):VW:=aw pG i
section
variable {t hd en:List UInt8} {R:Dat} {bk:Bool} {td ps bh:List Dat} {pl sp:Int}
def E0(t:List UInt8)(R:Dat)(bk:Bool):ax:=bq ["tape","ranks","back"] [.bytes t,R,.bool bk]
def E1(t:List UInt8)(R:Dat)(bk:Bool)(td:List Dat):ax:=vS "told" (.list td) (E0 t R bk)
def E2(t:List UInt8)(R:Dat)(bk:Bool)(td ps:List Dat):ax:=vS "places" (.list ps) (E1 t R bk td)
def E3(t:List UInt8)(R:Dat)(bk:Bool)(td ps:List Dat)(pl:Int):ax:=vS "place" (.int pl) (E2 t R bk td ps)
def E4(t:List UInt8)(R:Dat)(bk:Bool)(td ps:List Dat)(pl:Int)(hd:List UInt8):ax:=vS "head" (.bytes hd) (E3 t R bk td ps pl)
def E5(t:List UInt8)(R:Dat)(bk:Bool)(td ps:List Dat)(pl:Int)(hd en:List UInt8):ax:=vS "end" (.bytes en) (E4 t R bk td ps pl hd)
def E6(t:List UInt8)(R:Dat)(bk:Bool)(td ps:List Dat)(pl:Int)(hd en:List UInt8)(bh:List Dat):ax:=vS "behind" (.list bh) (E5 t R bk td ps pl hd en)
def E7(t:List UInt8)(R:Dat)(bk:Bool)(td ps:List Dat)(pl:Int)(hd en:List UInt8)(bh:List Dat)(sp:Int):ax:=vS "spot" (.int sp) (E6 t R bk td ps pl hd en bh)
def KH(R:Dat)(t:List UInt8):Option Dat:=cb (cP lb (Xd (.bytes t))) λx=>dI (cB (Xd R) (Xd x))
theorem TP:ev Dd dv (bx (ny 0)) (E0 t R bk)=KH R t:=by rfl
def Rn(bk:Bool)(x y:Option Dat):Option Bool:=bM bk (dG .Lt y x) (dG .Lt x y)
def Nh(l:List Dat)(k:Dat):Option Dat:=cB (Xd (.list l)) (Xd k)
def atS(l:List Dat)(k:Dat):Option Dat:=cB (Xd (.list l)) (bQ .Add (Xd k) (Xd (.int 1)))
theorem TO:ev Dd dv (bx (ny 1)) (E1 t R bk td)=cb (Xd (.range 0 6 1)) λk=>wR (Rn bk (Nh td k) (atS td k)) (dI (Xd k)):=by rfl
theorem TN:ev Dd dv (bx (ny 2)) (E2 t R bk td ps)=Bf (kL (.list ps)) (cB (Xd (.list ps)) (Xd (.int (-1)))) (Xd (.int (-1))):=by rfl
def Jz(pl:Int):Option Dat:=bQ .Add (bQ .Mult (Xd (.int 11)) (Xd (.int pl))) (Xd (.int 11))
theorem TM:ev Dd dv (bx (ny 3)) (E3 t R bk td ps pl)=b9 (Xd (.bytes t)) (Xd Xe) (mv (Jz pl)) (Xd Xe):=by rfl
theorem TL:ev Dd dv (bx (ny 4)) (E4 t R bk td ps pl hd)=fZ M7 (fZ M7 (b9 (Xd (.bytes t)) (mv (Jz pl)) (Xd Xe) (Xd Xe)) (bQ .Sub (Xd (.int 66)) (bQ .Mult (Xd (.int 11)) (Xd (.int pl))))) (Xd (.int 11)):=by rfl
theorem NV:dT Dd dv (aX (ny 5)) (E5 t R bk td ps pl hd en) (ev Dd dv (aX (ny 5)) (E5 t R bk td ps pl hd en))=dG .Lt (Xd (.int pl)) (Xd (.int 0)):=by rfl
theorem TK:cn Dd ml dv (bA (ny 5)) (E5 t R bk td ps pl hd en)=Xd (.ret (.bytes en)):=by rfl
theorem TH:ev Dd dv (bx (ny 6)) (E5 t R bk td ps pl hd en)=KH R en:=by rfl
theorem TG:ev Dd dv (bx (ny 7)) (E6 t R bk td ps pl hd en bh)=cB (cb (eF j0 (bQ .Sub (Xd (.int 6)) (Xd (.int pl)))) λk=>wR (Rn bk (Nh td (.int pl)) (Nh bh k)) (dI (bQ .Mult (Xd (.int 11)) (Xd k)))) (Xd (.int 0)):=by rfl
def Sf(sp:Int):Option (Option Int):=mv (bQ .Add (Xd (.int sp)) (Xd (.int 11)))
theorem TC:ev Dd dv (cX (ny 8)) (E7 t R bk td ps pl hd en bh sp)=bQ .Add (bQ .Add (bQ .Add (bQ .Add (b9 (Xd (.bytes hd)) (Xd Xe) (Xd (Xd (-11))) (Xd Xe)) (b9 (Xd (.bytes en)) (Xd (Xd sp)) (Sf sp) (Xd Xe))) (b9 (Xd (.bytes en)) (Xd Xe) (Xd (Xd sp)) (Xd Xe))) (b9 (Xd (.bytes hd)) (Xd (Xd (-11))) (Xd Xe) (Xd Xe))) (b9 (Xd (.bytes en)) (Sf sp) (Xd Xe) (Xd Xe)):=by rfl
theorem LQ:pG=[ny 0,ny 1,ny 2,ny 3,ny 4,.If (aX (ny 5)) (bA (ny 5)) [] (ek (ny 5)),ny 6,ny 7,.Return (Xd (cX (ny 8))) (fQ (ny 8))]:=by rfl
end
def T(cs:List (List Nat)):List UInt8:=B8 cs.flatten
theorem Zay(a b:List (List Nat)):T (a++b)=T a++T b:=by unfold T B8;rw[List.flatten_append,YE]
theorem J9(cs:List (List Nat)):T cs=(cs.map B8).flatten:=Nt cs
theorem uh{cs:List (List Nat)}(h:fK cs):(T cs).length=11*cs.length:=by unfold T B8;rw[YN,tQ h]
theorem fK.sub{α:Type}{a b:List (List α)}(h:fK b)(hs:∀x∈a,x∈b):fK a:=λc hc=>h c (hs c hc)
theorem Jk{cs:List (List Nat)}(h:fK cs):fK (cs.map B8):=λc hc=>by refine av (Yr.mp hc) ?_;rintro x hx(rfl);unfold B8;rw[YN];exact h x hx
theorem yK{cs:List (List Nat)}(h:fK cs)(k:Nat):(T cs).take (11*k)=T (cs.take k):=by unfold T B8;rw[<-List.map_take,we h]
theorem yL{cs:List (List Nat)}(h:fK cs)(k:Nat):(T cs).drop (11*k)=T (cs.drop k):=by unfold T B8;rw[<-List.map_drop,wg h]
theorem Eb{src:Dat}{n:Nat}{c:Nat->Bool}{e:Nat->Nat}{F:Dat->Option (List Dat)}(hs:bP src=Xd ((Yc n).map λk:Nat=>.int (k:Int)))(hn:n<=100)(hF:∀k<n,F (.int (k:Int))=wR (Xd (c k)) (Xd [.int (e k:Int)])):cb (Xd src) F=Xd (.list (aD (((Yc n).filter c).map e))):=by
 have key:∀l:List Nat,(∀k∈l,k<n)->bN F (l.map λk:Nat=>.int (k:Int))=Xd (aD ((l.filter c).map e)):=by intro l;induction l with|nil=>intro _;rfl|cons k l ih=>intro hl;show((F (.int (k:Int))).bind λbs=>(bN F (l.map λk:Nat=>.int (k:Int))).bind λcs=>Xd (bs++cs))=_;rw[hF k (hl k Yu),ih λj hj=>hl j (Yv _ hj),Zi];cases c k<;>rfl
 show((bP src).bind λar=>(bN F ar).bind AO)=_;rw[hs,Xh,key _ λk hk=>Yl.mp hk];show(if(aD (((Yc n).filter c).map e)).length<=aS then Xd (Dat.list (aD (((Yc n).filter c).map e)))else Xe)=_;rw[Vh];rw[cz,YN];have:=YO c (Yc n);rw[YL]at this;unfold aS;exact aO 0xf42408f1101164a013 hn this
theorem Kv{cs:List (List Nat)}(h:fK cs)(hl:cs.length<=7)(h0:cs≠[]):fZ M7 (fZ M7 (Xd (.bytes (T cs))) (Xd (.int ((11*cs.length:Nat):Int)))) (Xd (.int 11))=Xd (.bytes (T cs.reverse)):=by
 have hlen:=uh h;have hp:=List.length_pos_iff.mpr h0;have e1:hN (T cs) (11*cs.length)=(T cs).reverse:=by have z:=gM (w:=11*cs.length) (aZ 0xbd800802 hp) [T cs] (λb hb=>by rw[Yi.mp hb];exact hlen);simpa using z
 rw[eD,AZ (by exact aZ 0xbd800802 hp) (by unfold aS;exact aZ 0xf42408f00bd107a012 hl) (by rw[hlen];unfold aS;exact aZ 0xf42408f00bd107a012 hl) (by rw[hlen,Nat.mod_self]),e1];have e2:(T cs).reverse=((cs.map B8).reverse.map List.reverse).flatten:=by rw[J9,List.reverse_flatten,YA]
 have e3:hN (T cs).reverse 11=T cs.reverse:=by
  rw[e2,gM (by decide) _ λb hb=>?_]
  ·rw[YB,show(List.reverse∘List.reverse:List UInt8->List UInt8)=id from funext XW,List.map_id,J9,YA]
  ·refine av (Yr.mp hb) ?_;rintro x hx(rfl);rw[YJ];exact Jk h x (Yj.mp hx)
 rw[eD,show(.int 11:Dat)=.int ((11:Nat):Int)from rfl,AZ (by decide) (by decide) (by rw[YJ,hlen];unfold aS;exact aZ 0xf42408f00bd107a012 hl) (by rw[YJ,hlen,Nat.mul_mod_right]),e3]
noncomputable def onStr(f:List Nat->Dat):Dat->Dat| .str x=>f x.cps.toList|d=>d
theorem Dn{R:Dat}{rk:List Nat->List Dat}{cs:List (List Nat)}(h:fK cs)(hl:cs.length<=7)(Qo:∀c∈cs,∀x∈c,x<128)(hR:∀c∈cs,ej R (.str (S c))=Xd (.list (rk c))):KH R (T cs)=Xd (.list (cs.map λc=>.list (rk c))):=by unfold KH;rw[cS,show lb [.bytes (T cs)]=_ from zj h hl Qo,fj rfl (g:=onStr λl=>.list (rk l)) (λd hd=>by refine av (Yr.mp hd) ?_;rintro c hc(rfl);rw[o9,hR c hc];rfl) (by rw[YN];unfold aS;exact aZ 0xf42408f0107a012 hl),YB];rfl
def sU(code:List Nat->Nat)(bk:Bool)(x y:List Nat):Bool:=if bk then decide (code y<code x)else decide (code x<code y)
theorem PJ{rk:List Nat->List Dat}{code:List Nat->Nat}{bk:Bool}{x y:List Nat}(h1:ij .Lt (rk x) (rk y) 0=Xd (decide (code x<code y)))(h2:ij .Lt (rk y) (rk x) 0=Xd (decide (code y<code x))):Rn bk (Xd (.list (rk x))) (Xd (.list (rk y)))=Xd (sU code bk x y):=by cases bk with|true=>exact h2|false=>exact h1
theorem t9{t:List UInt8}{hi:Int}(h:aM hi=true)(hl:t.length<=aS):b9 (Xd (.bytes t)) (Xd Xe) (Xd (Xd hi)) (Xd Xe)=Xd (.bytes (pick t Xe (Xd hi) Xe)):=gy (by simp) rfl (gU h) rfl hl
theorem oS{t:List UInt8}{lo:Int}(h:aM lo=true)(hl:t.length<=aS):b9 (Xd (.bytes t)) (Xd (Xd lo)) (Xd Xe) (Xd Xe)=Xd (.bytes (pick t (Xd lo) Xe Xe)):=gy (by simp) (gU h) rfl rfl hl
theorem Gg{t:List UInt8}{lo hi:Int}(h:aM lo=true)(h':aM hi=true)(hl:t.length<=aS):b9 (Xd (.bytes t)) (Xd (Xd lo)) (Xd (Xd hi)) (Xd Xe)=Xd (.bytes (pick t (Xd lo) (Xd hi) Xe)):=gy (by simp) (gU h) (gU h') rfl hl
theorem AM{n:Nat}(h:11<=n):clipAt n (-11)=n-11:=by unfold clipAt;rw[Vh (by decide)];exact aZ 0xba0c0af0af0ba9fbdf8cfbf21
theorem Fj{α:Type}(xs:List α)(h:11<=xs.length):pick xs Xe (Xd (-11)) Xe=xs.take (xs.length-11):=by rw[fh];show(xs.drop 0).take (clipAt xs.length (-11)-0)=_;rw[AM h,Zm,Nat.sub_zero]
theorem Fi{α:Type}(xs:List α)(h:11<=xs.length):pick xs (Xd (-11)) Xe Xe=xs.drop (xs.length-11):=by rw[fh];show(xs.drop (clipAt xs.length (-11))).take (xs.length-clipAt xs.length (-11))=_;rw[AM h,XO (by rw[YR];exact Xz _)]
def uG(code:List Nat->Nat)(bk:Bool)(cs:List (List Nat)):List Nat:=(Yc 6).filter λk=>sU code bk (cs.getD k []) (cs.getD (k+1) [])
def nQ(code:List Nat->Nat)(bk:Bool)(x:List Nat)(s:List (List Nat)):Nat:=((Yc s.length).filter λk=>sU code bk x (s.getD k [])).headD 0
def FE(code:List Nat->Nat)(bk:Bool)(cs:List (List Nat))(p:Nat):List (List Nat):=cs.take p++((cs.drop (p+1)).reverse.getD (nQ code bk (cs.getD p []) (cs.drop (p+1)).reverse) []::((cs.drop (p+1)).reverse.take (nQ code bk (cs.getD p []) (cs.drop (p+1)).reverse)++cs.getD p []::(cs.drop (p+1)).reverse.drop (nQ code bk (cs.getD p []) (cs.drop (p+1)).reverse+1)))
def oh(code:List Nat->Nat)(bk:Bool)(cs:List (List Nat)):List (List Nat):=match(uG code bk cs).getLast? with
 |none=>cs.reverse|some p=>FE code bk cs p
def xP:List Dat->Option Dat:=ph Dd ml dv pG ["tape","ranks","back"]
theorem K7:bP (.range 0 6 1)=Xd ((Yc 6).map λk:Nat=>.int (k:Int)):=by kernel_rfl
theorem getD_mem{α:Type}{l:List α}{k:Nat}{z:α}(h:k<l.length):l.getD k z∈l:=by rw[Ze,Y9 h];exact List.getElem_mem h
structure Nq (R:Dat) (rk:List Nat->List Dat) (code:List Nat->Nat) (cs:List (List Nat)):Prop where
 el:fK cs
 len:cs.length=7
 lt:∀c∈cs,∀x∈c,x<128
 tab:∀c∈cs,ej R (.str (S c))=Xd (.list (rk c))
 ord:∀c∈cs,∀c'∈cs,ij .Lt (rk c) (rk c') 0=Xd (decide (code c<code c'))
section
variable {R:Dat} {rk:List Nat->List Dat} {code:List Nat->Nat} {cs:List (List Nat)} {bk:Bool}
theorem Nq.lte(h:Nq R rk code cs){x y:List Nat}(hx:x∈cs)(hy:y∈cs):Rn bk (Xd (.list (rk x))) (Xd (.list (rk y)))=Xd (sU code bk x y):=PJ (h.ord x hx y hy) (h.ord y hy x hx)
theorem Dy{cs:List (List Nat)}{k:Nat}(hk:k<cs.length)(hl:cs.length<=7):Nh (cs.map λc=>.list (rk c)) (.int (k:Int))=Xd (.list (rk (cs.getD k []))):=by unfold Nh;exact ji (by rw[YZ,Ze,Y9 hk];rfl) (by rw[YN];exact aZ 0x3e88f0107a012 hl)
theorem Ff(h:Nq R rk code cs):(cb (Xd (.range 0 6 1)) λk=>wR (Rn bk (Nh (cs.map λc=>.list (rk c)) k) (atS (cs.map λc=>.list (rk c)) k)) (dI (Xd k)))=Xd (.list (aD (uG code bk cs))):=by rw[Eb K7 (by decide) (λk hk=>by have e:atS (cs.map λc=>Dat.list (rk c)) (.int (k:Int))=Nh (cs.map λc=>.list (rk c)) (.int ((k+1:Nat):Int)):=rfl;have hl:=h.len;rw[e,Dy (by exact aO 0x10007a1206a003 hk hl) (by exact aZ 0x7a0107a022 hl),Dy (by exact aO 0x190b007a1206a003 hk hl) (by exact aZ 0x7a0107a022 hl),h.lte (getD_mem (by exact aO 0x10007a1206a003 hk hl)) (getD_mem (by exact aO 0x190b007a1206a003 hk hl))];rfl),List.map_id'];rfl
theorem vN(h:Nq R rk code cs)(ps:List Dat)(L7:ps=aD (uG code bk cs)){pl:Int}(Ap:Bf (kL (.list ps)) (cB (Xd (.list ps)) (Xd (.int (-1)))) (Xd (.int (-1)))=Xd (.int pl)){q:Nat}(hq:q<=6)(UA:Jz pl=Xd (.int ((11*q:Nat):Int)))(hw:bQ .Sub (Xd (.int 66)) (bQ .Mult (Xd (.int 11)) (Xd (.int pl)))=Xd (.int ((11*(7-q):Nat):Int))):cn Dd ml dv pG (E0 (T cs) R bk)=cn Dd ml dv [.If (aX (ny 5)) (bA (ny 5)) [] (ek (ny 5)),ny 6,ny 7,.Return (Xd (cX (ny 8))) (fQ (ny 8))] (E5 (T cs) R bk (cs.map λc=>.list (rk c)) ps pl (T (cs.take q)) (T (cs.drop q).reverse)):=by
 have hl:=h.len;have T4:=uh h.el;have hk:aM ((11*q:Nat):Int)=true:=jW (aZ 0x3e88f00bd106a012 hq);have cU:(T cs).length<=aS:=by rw[T4];unfold aS;exact aZ 0xf42408f00bd107a022 hl
 rw[LQ];refine dB "told" (TP.trans (Dn h.el (aZ 0x7a0107a022 hl) h.lt h.tab)) rfl rfl ?_;subst L7;refine dB "places" (TO.trans (Ff h)) rfl rfl (dB "place" (TN.trans Ap) rfl rfl (dB "head" (TM.trans (by rw[UA,gB,t9 hk cU,sm _ (by exact bj 0x200bd110bd2207a1206a014 hq hl T4),yK h.el])) rfl rfl ?_));refine dB "end" (TL.trans (by
  have hd:(cs.drop q).length=7-q:=by rw[YR];exact aO 0x107ac10c207a022 hl
  rw[UA,gB,oS hk cU,sk _ (by exact bj 0x200bd110bd2207a1206a014 hq hl T4),yL h.el,hw,<-hd];exact Kv (h.el.sub λx hx=>Yn hx) (aO 0x7a01107ac022 hd) (by intro z;rw[z]at hd;rw[YM]at hd;exact aZ 0x6007ac8206a013 hq hd))) rfl rfl rfl
theorem Ik(h:Nq R rk code cs)(hp:uG code bk cs=[]):xP [.bytes (T cs),R,.bool bk]=Xd (.bytes (T cs.reverse)):=by refine iO rfl ((vN (q:=0) h [] (by rw[hp];rfl) rfl (by decide) (by kernel_rfl) (by kernel_rfl)).trans (ed (aN rfl ((fH (cO (NV.trans rfl))).trans TK)) (λv q=>by rcases q with⟨⟩)))
theorem Ig{p:Nat}(hp:p<=7):bQ .Mult (Xd (.int 11)) (Xd (.int (p:Int)))=Xd (.int ((11*p:Nat):Int)):=by rw[b7,A2 (by decide) (jW (by exact aZ 0x3e88f0107a012 hp))];rw[Int.natCast_mul];rfl
theorem QF{p:Nat}(hp:p<=6):Jz (p:Int)=Xd (.int ((11*(p+1):Nat):Int)):=by unfold Jz;rw[Ig (by exact aZ 0x7a0106a012 hp),b7,oU];rfl
theorem O8{p:Nat}(hp:p<=6):bQ .Sub (Xd (.int 66)) (bQ .Mult (Xd (.int 11)) (Xd (.int (p:Int))))=Xd (.int ((11*(7-(p+1)):Nat):Int)):=by rw[Ig (by exact aZ 0x7a0106a012 hp),b7,ua];have e:(66:Int)-((11*p:Nat):Int)=((11*(7-(p+1)):Nat):Int):=aZ 0x90b07ac0bdaf00bdaf42ac906a012 hp;rw[e]
theorem LV{P:List Nat}{p:Nat}(hl:P.length<=100):Bf (kL (.list (aD (P++[p])))) (cB (Xd (.list (aD (P++[p])))) (Xd (.int (-1)))) (Xd (.int (-1)))=Xd (.int (p:Int)):=by
 have e:aD (P++[p])=aD P++[.int (p:Int)]:=by unfold aD;rw[YE];rfl
 have ht:kL (.list (aD (P++[p])))=Xd true:=by show(if(aD (P++[p])).length<=aS then Xd ((aD (P++[p])).length !=0)else Xe)=_;rw[Vh (by rw[cz,YT,YI];unfold aS;exact aZ 0xf42408f90b164a012 hl),cz,YT,YI];rfl
 rw[ht,e];exact item_last (by rw[cz];exact aZ 0x3e88f0164a012 hl)
theorem rev_last{α:Type}{l:List α}{p:Nat}{z:α}(h:p<l.length):((l.drop p).reverse).getD (l.length-p-1) z=l.getD p z:=by rw[Ze,Ze,List.getElem?_reverse (by rw[YR];exact aO 0x1c901cc01002 h),YR,Za];congr 2;exact aO 0x901cc901ccc0b21
theorem KR(h:Nq R rk code cs){p:Nat}(hp:p<6)(je:sU code bk (cs.getD p []) (cs.getD (p+1) [])=true):cB (cb (eF j0 (bQ .Sub (Xd (.int 6)) (Xd (.int (p:Int))))) λk=>wR (Rn bk (Nh (cs.map λc=>.list (rk c)) (.int (p:Int))) (Nh ((cs.drop (p+1)).reverse.map λc=>.list (rk c)) k)) (dI (bQ .Mult (Xd (.int 11)) (Xd k)))) (Xd (.int 0))=Xd (.int ((11*nQ code bk (cs.getD p []) (cs.drop (p+1)).reverse:Nat):Int))/\nQ code bk (cs.getD p []) (cs.drop (p+1)).reverse<(cs.drop (p+1)).reverse.length:=by
 have hl:=h.len;have oo:(cs.drop (p+1)).reverse.length=6-p:=by rw[YJ,YR];exact aO 0x106ac91b0c207a022 hl
 have kQ:∀x∈(cs.drop (p+1)).reverse,x∈cs:=λx hx=>Yn (Yj.mp hx);have hn:bQ .Sub (Xd (.int 6)) (Xd (.int (p:Int)))=Xd (.int (((6-p:Nat)):Int)):=by rw[b7,ua];have e:(6:Int)-(p:Int)=((6-p:Nat):Int):=aZ 0x6acaf0af06ac906a002 hp;rw[e]
 have vU:=rev_last (l:=cs) (p:=p+1) (z:=[]) (aO 0x190b007a1206a003 hp hl);unfold nQ;generalize hs:(cs.drop (p+1)).reverse=s at *;rw[hn,eE,show j0 [.int ((6-p:Nat):Int)]=Xd (.range 0 ((6-p:Nat):Int) 1)from rfl];rw[Eb (qC (by unfold aS;exact aZ 0xf42408f006ac11)) (by exact aZ 0x64a006ac11) (λk hk=>by rw[Dy (by exact bj 0x20206ac1007a023 hl hk) (by exact aZ 0x7a0107a022 hl),Dy (by exact bj 0x20106ac20106ac023 oo hk) (by exact aO 0x7a01106ac022 oo),h.lte (getD_mem (by exact bj 0x20206ac1007a023 hl hk)) (kQ _ (getD_mem (by exact bj 0x20106ac20106ac023 oo hk))),Ig (by exact aO 0x7a01106ac002 hk)];rfl)];have IT:cs.length-(p+1)-1∈(Yc s.length).filter λk=>sU code bk (cs.getD p []) (s.getD k []):=by refine Yt.mpr ⟨Yl.mpr (bj 0x2990b1cc0006ac2207a1206a004 hp hl oo),?_⟩;rw[vU];exact je
 rw[oo]at IT ⊢;rcases hq:(Yc (6-p)).filter λk=>sU code bk (cs.getD p []) (s.getD k [])with _|⟨j,Q⟩
 ·rw[hq]at IT;exact nomatch IT
 ·have hj:j∈(Yc (6-p)).filter λk=>sU code bk (cs.getD p []) (s.getD k []):=by rw[hq];exact Yu
  refine⟨?_,Yl.mp (Yt.mp hj).1⟩;refine ji rfl ?_;rw[cz,YN,<-hq];have:=YO (λk=>sU code bk (cs.getD p []) (s.getD k [])) (Yc (6-p));rw[YL]at this;exact aO 0x3e88f01106ac012 this
theorem Er{a b:List (List Nat)}(h:11*a.length+11*b.length<=1000)(ha:fK a)(hb:fK b):bQ .Add (Xd (.bytes (T a))) (Xd (.bytes (T b)))=Xd (.bytes (T (a++b))):=by rw[b7,C2 (by rw[uh ha,uh hb];unfold aS;exact aO 0xf42408f10bd00bdb1000003e88f10bd00bdb12 h),Zay]
theorem Ij(h:Nq R rk code cs){P:List Nat}{p:Nat}(hp:uG code bk cs=P++[p]):xP [.bytes (T cs),R,.bool bk]=Xd (.bytes (T (FE code bk cs p))):=by
 revert rk h P hp;refine no_implicit_lambda% (xA5 (bT (bT (bT NQ U8) U8) U8) ?_ R p cs bk code);generalize gE _ _=tt;dsimp only[K5];generalize tt.1.1.1=R,tt.1.1.2=p,tt.1.2=cs,tt.2.1=bk,tt.2.2=code;intro rk h P hp;have hl:=h.len;have IT:p∈uG code bk cs:=by rw[hp];exact Yx P Yu
 have IJ:=Yl.mp (Yt.mp IT).1;have je:=(Yt.mp IT).2;have hPl:P.length<=100:=by have h1:=Ve YU hp;have:=YO (λk=>sU code bk (cs.getD k []) (cs.getD (k+1) [])) (Yc 6);unfold uG at h1;rw[YT,YI]at h1;rw[YL]at this;exact aO 0x64a1106a0191b023 h1 this
 refine aU (KR h IJ je) λT9 FQ=>?_;have kQ:∀x∈(cs.drop (p+1)).reverse,x∈cs:=λx hx=>Yn (Yj.mp hx);have IZ:=h.el.sub kQ;have oo:(cs.drop (p+1)).reverse.length=6-p:=by rw[YJ,YR];exact aO 0x106ac91b0c207a022 hl
 have xY:fK (cs.take (p+1)):=h.el.sub λx hx=>Ym hx;have FO:(cs.take (p+1)).length=p+1:=by rw[YH];exact aO 0x91b091bdf206a1007a023 hl IJ
 refine iO rfl ((vN (q:=p+1) h (aD (P++[p])) (by rw[hp]) (LV hPl) (aZ 0x6a90b106a002 IJ) (QF (aZ 0x6a0106a002 IJ)) (O8 (aZ 0x6a0106a002 IJ))).trans ((aF (aN rfl ((fH (cO (NV.trans (show _=Xd false by show Xd (decide ((p:Int)<0))=_;rw[Va (by exact aZ 0x80af731)])))).trans dJ))).trans ?_));generalize hj:nQ code bk (cs.getD p []) (cs.drop (p+1)).reverse=j at *;have ZbJ:FE code bk cs p=(((cs.take p++[(cs.drop (p+1)).reverse.getD j []])++(cs.drop (p+1)).reverse.take j)++[cs.getD p []])++(cs.drop (p+1)).reverse.drop (j+1):=by unfold FE;rw[hj];simp only[Zv,XU,Zt,Yh]
 rw[ZbJ];generalize hs:(cs.drop (p+1)).reverse=s at *;have hk:aM ((11*j:Nat):Int)=true:=jW (bj 0x3e88f20bd1020106ac023 oo FQ);have ur:aM ((11*(j+1):Nat):Int)=true:=jW (bj 0x3e88f92b0bd1020106ac023 oo FQ);have UG:=uh IZ;have UE:=uh xY;have Ub:Sf ((11*j:Nat):Int)=Xd (Xd ((11*(j+1):Nat):Int)):=rfl;refine dB "behind" (TH.trans (Dn IZ (aO 0x7a01106ac022 oo) (λc hc=>h.lt c (kQ c hc)) λc hc=>h.tab c (kQ c hc))) rfl rfl (dB "spot" (Eq.trans TG T9) rfl rfl (ed (aN rfl (eK (fU (TC.trans ?_)))) (λv q=>by rcases q with⟨⟩)));have c1:(T (cs.take (p+1))).length<=aS:=by rw[UE];unfold aS;exact aO 0xf42408f10bd190b1206a003 IJ FO
 have c2:(T s).length<=aS:=by rw[UG];unfold aS;exact aO 0xf42408f00bd1106ac022 oo
 have t1:(cs.take (p+1)).take p=cs.take p:=by rw[List.take_take,Nat.min_eq_left (Nat.le_succ p)]
 have t2:(cs.take (p+1)).drop p=[cs.getD p []]:=by rw[List.take_add_one,List.drop_append_of_le_length (by rw[YH];exact aO 0x1df1106a1007a023 hl IJ),List.drop_of_length_le (by rw[YH];exact aO 0x10df11),Yh,Ze,Y9 (show p<cs.length by exact aO 0x1006a1007a023 hl IJ)];rfl
 have t3:(s.drop j).take 1=[s.getD j []]:=by rw[Ze,Y9 FQ,Zn FQ];rfl
 have p1:b9 (Xd (.bytes (T (cs.take (p+1))))) (Xd Xe) (Xd (Xd (-11))) (Xd Xe)=Xd (.bytes (T (cs.take p))):=by rw[t9 (by decide) c1,Fj _ (by exact bj 0x20ba100bd2291b023 FO UE),UE,FO,show 11*(p+1)-11=11*p by exact aZ 0xbd0ba90b0bdc21,yK xY,t1]
 have p2:b9 (Xd (.bytes (T (cs.take (p+1))))) (Xd (Xd (-11))) (Xd Xe) (Xd Xe)=Xd (.bytes (T [cs.getD p []])):=by rw[oS (by decide) c1,Fi _ (by exact bj 0x20ba100bd2291b023 FO UE),UE,FO,show 11*(p+1)-11=11*p by exact aZ 0xbd0ba90b0bdc21,yL xY,t2]
 have p3:b9 (Xd (.bytes (T s))) (Xd (Xd ((11*j:Nat):Int))) (Sf ((11*j:Nat):Int)) (Xd Xe)=Xd (.bytes (T [s.getD j []])):=by rw[Ub,Gg hk ur c2,vx _ (by exact bj 0x200bd110bd221003 FQ UG) (by exact bj 0x290b0bd110bd221003 FQ UG),yL IZ,show 11*(j+1)-11*j=11*1 by exact aZ 0x90bd00bd90b0bdc21,yK (IZ.sub λx hx=>Yn hx),t3]
 have p4:b9 (Xd (.bytes (T s))) (Xd Xe) (Xd (Xd ((11*j:Nat):Int))) (Xd Xe)=Xd (.bytes (T (s.take j))):=by rw[t9 hk c2,sm _ (by exact bj 0x200bd110bd221003 FQ UG),yK IZ]
 have p5:b9 (Xd (.bytes (T s))) (Sf ((11*j:Nat):Int)) (Xd Xe) (Xd Xe)=Xd (.bytes (T (s.drop (j+1)))):=by rw[Ub,oS ur c2,sk _ (by exact bj 0x290b0bd110bd221003 FQ UG),yL IZ]
 have q1:fK (cs.take p):=h.el.sub λx hx=>Ym hx;have q2:fK [s.getD j []]:=IZ.sub λx hx=>by rw[Yi.mp hx];exact getD_mem FQ
 have q3:fK (s.take j):=IZ.sub λx hx=>Ym hx;have q4:fK [cs.getD p []]:=h.el.sub λx hx=>by rw[Yi.mp hx];exact getD_mem (aO 0x1006a1007a023 hl IJ)
 have q5:fK (s.drop (j+1)):=IZ.sub λx hx=>Yn hx;have app:∀{a b:List (List Nat)},fK a->fK b->fK (a++b):=λha hb c hc=>(Yz.mp hc).elim (ha c) (hb c);have l1:(cs.take p).length=p:=by rw[YH];exact aO 0x101df206a1007a023 hl IJ
 have l3:(s.take j).length=j:=by rw[YH];exact aO 0x10df21002 FQ
 have l5:(s.drop (j+1)).length=6-p-(j+1):=by rw[YR];exact bj 0x92b106acc92b0c2106ac022 oo
 rw[p1,p2,p3,p4,p5,Er (by rw[l1,YI];exact aZ 0x3e88f90bd00bdb106a002 IJ) q1 q2,Er (by rw[YT,l1,l3,YI];exact bj 0x3e88f20bd91b0bdb1020106ac023 oo FQ) (app q1 q2) q3,Er (by rw[YT,YT,l1,l3,YI,YI];exact bj 0x3e88f90bd291bb0bdb1020106ac023 oo FQ) (app (app q1 q2) q3) q4,Er (by rw[YT,YT,YT,l1,l3,l5,YI,YI];exact bj 0x3e88f92b106acc0bd9291bbb0bdb1020106ac023 oo FQ) (app (app (app q1 q2) q3) q4) q5]
theorem PL(h:Nq R rk code cs):xP [.bytes (T cs),R,.bool bk]=Xd (.bytes (T (oh code bk cs))):=by
 unfold oh;rcases e:(uG code bk cs).getLast? with _|p
 ·exact Ik h (List.getLast?_eq_none_iff.mp e)
 ·refine aI (List.getLast?_eq_some_iff.mp e) λP hP=>?_;exact Ij h hP
end
theorem BQ{α:Type}{R:α->α->Prop}{z:α}(ht:∀a b c,R a b->R b c->R a c):∀l:List α,(∀k,k+1<l.length->R (l.getD k z) (l.getD (k+1) z))->l.Pairwise R
 |[],h=>.nil
 |[a],h=>by simp
 |a::b::l,h=>by
  have ih:=BQ ht (b::l) λk hk=>h (k+1) (Nat.succ_lt_succ hk);have h0:=h 0 (by simp);refine Ye.mpr ⟨λc hc=>?_,ih⟩;refine Xa (Yw.mp hc) (λe=>?_) λe=>ht a b c h0 ((Ye.mp ih).1 c e)
  ·rw[e];exact h0
theorem FX{c:Nat->Bool}{n p:Nat}{P:List Nat}(h:(Yc n).filter c=P++[p]):p<n/\c p=true/\∀k,p<k->k<n->c k=false:=by
 have hp:p∈(Yc n).filter c:=by rw[h];exact Yx P Yu
 have hm:=Yt.mp hp;refine⟨Yl.mp hm.1,hm.2,λk h1 h2=>?_⟩;cases hc:c k with
 |false=>rfl
 |true=>
  have hk:=Yt.mpr ⟨Yl.mpr h2,hc⟩;have hs:((Yc n).filter c).Pairwise (· < ·):=List.Pairwise.filter _ List.pairwise_lt_range;rw[h]at hk hs;refine Xa (Yz.mp hk) (λq=>?_) λq=>?_
  ·have:=(Yg.mp hs).2.2 k q p Yu;exact(aO 0x60101003 h1 this).elim
  ·have:=Yi.mp q;exact(aO 0x60121003 h1 this).elim
theorem FY{c:Nat->Bool}{n j:Nat}{Q:List Nat}(h:(Yc n).filter c=j::Q):j<n/\c j=true/\∀i,i<j->c i=false:=by
 have hj:j∈(Yc n).filter c:=by rw[h];exact Yu
 have hm:=Yt.mp hj;have hn:=Yl.mp hm.1;refine⟨hn,hm.2,λi hi=>?_⟩;cases hc:c i with
 |false=>rfl
 |true=>
  have hk:i∈(Yc n).filter c:=Yt.mpr ⟨Yl.mpr (bj 0x1200201003 hn hi),hc⟩;have hs:((Yc n).filter c).Pairwise (· < ·):=List.Pairwise.filter _ List.pairwise_lt_range;rw[h]at hk hs;refine Xa (Yw.mp hk) (λq=>(aO 0x61021003 hi q).elim) λq=>?_
  ·have:=(Ye.mp hs).1 i q;exact(aO 0x60101003 hi this).elim
structure Ord {α:Type} (lt:α->α->Bool):Prop where
 asy:∀a b,lt a b=true->lt b a=false
 neg:∀a b c,lt a b=false->lt b c=false->lt a c=false
theorem zB{α:Type}{l:List α}{p:Nat}{z:α}(h:p<l.length):l=l.take p++l.getD p z::l.drop (p+1):=by rw[Ze,Y9 h];show l=l.take p++l[p]::l.drop (p+1);rw[<-Zn h,XQ]
theorem Bw{α:Type}{lt:α->α->Bool}(o:Ord lt){z x:α}{s:List α}(hs:s.Pairwise λa b=>lt a b=false){j:Nat}(hj:j<s.length)(h1:lt x (s.reverse.getD j z)=true)(h2:∀i,i<j->lt x (s.reverse.getD i z)=false):(s.reverse.take j++x::s.reverse.drop (j+1)).Pairwise (λa b=>lt b a=false)/\(s.reverse.getD j z::(s.reverse.take j++x::s.reverse.drop (j+1))).Perm (x::s)/\∀v∈s,¬(lt x v=true/\lt v (s.reverse.getD j z)=true):=by
 have hr:=Yd.mpr hs;have hjr:j<s.reverse.length:=by rw[YJ];exact hj
 have P0:=zB (z:=z) hjr;generalize s.reverse.getD j z=y at *;have hp1:(y::(s.reverse.take j++x::s.reverse.drop (j+1))).Perm (x::s):=by
  have e1:(y::(s.reverse.take j++x::s.reverse.drop (j+1))).Perm (x::(s.reverse.take j++y::s.reverse.drop (j+1))):=by refine(List.Perm.cons y List.perm_middle).trans (.trans ?_ (List.Perm.cons x List.perm_middle.symm));exact List.Perm.swap x y _
  rw[<-P0]at e1;exact e1.trans (List.Perm.cons x (List.reverse_perm s))
 have N0:∀v∈s.reverse.take j,lt x v=false:=λv hv=>by obtain⟨i,hi,rfl⟩:=Ys.mp hv;rw[YH]at hi;have:=h2 i (bj 0x10021df002 hi);rw[Ze,Y9 (by exact bj 0x20021df002 hi)]at this;rw[List.getElem_take];exact this
 rw[P0,Yg,Ye]at hr;have je:=λv hv=>hr.2.1.1 v hv;refine⟨?_,hp1,λv hv q=>?_⟩
 ·rw[Yg,Ye];refine⟨hr.1,⟨λv hv=>o.neg v y x (je v hv) (o.asy x y h1),hr.2.1.2⟩,λa ha b hb=>?_⟩
  ·refine Xa (Yw.mp hb) (λe=>?_) λe=>hr.2.2 a ha b (Yv _ e)
   ·rw[e];exact N0 a ha
 ·have PW:=Yj.mpr hv;rw[P0]at PW;refine Xa (Yz.mp PW) (λe=>?_) λe=>?_
  ·rw[N0 v e]at q;exact ZO q.1
  ·refine Xa (Yw.mp e) (λe=>?_) λe=>?_
   ·rw[e]at q;have:=o.asy y y q.2;rw[this]at q;exact ZO q.2
   ·rw[je v e]at q;exact ZO q.2
theorem LJ(ρ:List Nat->Nat)(bk:Bool):Ord (sU ρ bk):=by
 refine⟨λa b h=>?_,λa b c h1 h2=>?_⟩
 ·unfold sU at *;cases bk with|true=>rw[Vh rfl,Vc]at h;rw[Vh rfl,decide_eq_false_iff_not];exact aO 0x1031002 h|false=>rw[Vg ZP,Vc]at h;rw[Vg ZP,decide_eq_false_iff_not];exact aO 0x1031002 h
 ·unfold sU at *;cases bk with|true=>rw[Vh rfl,decide_eq_false_iff_not]at h1 h2;rw[Vh rfl,decide_eq_false_iff_not];exact bj 0x1203020310033 h1 h2|false=>rw[Vg ZP,decide_eq_false_iff_not]at h1 h2;rw[Vg ZP,decide_eq_false_iff_not];exact bj 0x2003210310033 h1 h2
theorem pE(ρ:List Nat->Nat)(bk:Bool){cs:List (List Nat)}(h7:cs.length=7):(cs.Pairwise (λa b=>sU ρ bk a b=false)/\oh ρ bk cs=cs.reverse)\/∃p x y s t,cs=p++x::s/\oh ρ bk cs=p++y::t/\s.Pairwise (λa b=>sU ρ bk a b=false)/\t.Pairwise (λa b=>sU ρ bk b a=false)/\(y::t).Perm (x::s)/\sU ρ bk x y=true/\∀v∈s,¬(sU ρ bk x v=true/\sU ρ bk v y=true):=by
 revert h7;refine xA3 U8 ?_ cs ρ bk;generalize gE _ _=tt;dsimp only[K3];generalize tt.1.1=cs,tt.1.2=ρ,tt.2=bk;intro h7;have o:=LJ ρ bk;unfold oh;rcases e:(uG ρ bk cs).getLast? with _|p
 ·refine .inl ⟨BQ (z:=[]) o.neg cs λk hk=>?_,rfl⟩;have hn:=List.getLast?_eq_none_iff.mp e;cases hc:sU ρ bk (cs.getD k []) (cs.getD (k+1) [])with|false=>rfl|true=>have:k∈uG ρ bk cs:=Yt.mpr ⟨Yl.mpr (aO 0x6a10091b007a023 h7 hk),hc⟩;rw[hn]at this;exact nomatch this
 ·refine aI (List.getLast?_eq_some_iff.mp e) λP hP=>?_;refine .inr (bD (FX hP) λhp hc Ql=>?_);have Ap:p<cs.length:=aO 0x1006a1007a023 h7 hp;have oo:(cs.drop (p+1)).length=6-p:=by rw[YR];exact aO 0x106ac91b0c207a022 h7
  have hs:(cs.drop (p+1)).Pairwise (λa b=>sU ρ bk a b=false):=BQ o.neg _ λk hk=>by have:=Ql (p+1+k) (aO 0x190bb001) (bj 0x6a291bb0092b0106ac023 oo hk);rw[Ze,Ze,Za,Za];rw[Ze,Ze]at this;exact this
  have vU:=rev_last (l:=cs) (p:=p+1) (z:=[]) (aO 0x91b006a1007a023 h7 hp);have IT:cs.length-(p+1)-1∈(Yc (cs.drop (p+1)).reverse.length).filter λk=>sU ρ bk (cs.getD p []) ((cs.drop (p+1)).reverse.getD k []):=by refine Yt.mpr ⟨Yl.mpr (by rw[YJ];exact bj 0x2991b0cc0106ac2206a1007a024 h7 hp oo),?_⟩;rw[vU];exact hc
  rcases hq:(Yc (cs.drop (p+1)).reverse.length).filter (λk=>sU ρ bk (cs.getD p []) ((cs.drop (p+1)).reverse.getD k []))with _|⟨j,Q⟩
  ·rw[hq]at IT;exact nomatch IT
  refine bD (FY hq) λhj h1 h2=>?_;rw[YJ]at hj;have P0:nQ ρ bk (cs.getD p []) (cs.drop (p+1)).reverse=j:=by unfold nQ;rw[hq];rfl
  refine bD (Bw o hs hj h1 h2) λf1 f2 f3=>⟨cs.take p,cs.getD p [],(cs.drop (p+1)).reverse.getD j [],cs.drop (p+1),(cs.drop (p+1)).reverse.take j++cs.getD p []::(cs.drop (p+1)).reverse.drop (j+1),zB Ap,?_,hs,f1,f2,h1,f3⟩;show FE ρ bk cs p=_;unfold FE;rw[P0]
theorem Ab(ρ:List Nat->Nat)(bk:Bool){cs:List (List Nat)}(h7:cs.length=7):(oh ρ bk cs).Perm cs:=by
 refine Xa (pE ρ bk h7) (λh=>?_) λh=>?_
 ·rw[h.2];exact List.reverse_perm cs
 ·refine Kq h λp x y s t q=>GQ q λe1 e2 f1 f2 f3 f4 f5=>?_;rw[e2];conv=>rhs;rw[e1]
  exact f3.append_left p
def ig(ρ:List Nat->Nat)(m:Nat)(cs:List (List Nat)):Nat:=pl m (cs.map ρ) (cnt (cs.map ρ))
theorem ly{ρ:List Nat->Nat}{l:List (List Nat)}{R:Nat->Nat->Prop}{Q:List Nat->List Nat->Prop}(h:l.Pairwise Q)(hq:∀a b,Q a b->R (ρ a) (ρ b)):(l.map ρ).Pairwise R:=List.pairwise_map.mpr (h.imp λ{a b}q=>hq a b q)
theorem FD(ρ:List Nat->Nat)(m:Nat){cs:List (List Nat)}(h7:cs.length=7)(hm:∀c∈cs,ρ c<m):ig ρ m (oh ρ false cs)=(ig ρ m cs+1)%wW m 7 (cnt (cs.map ρ))/\ig ρ m (oh ρ true cs)=(ig ρ m cs+(wW m 7 (cnt (cs.map ρ))-1))%wW m 7 (cnt (cs.map ρ)):=by
 revert h7 hm;refine xA3 U8 ?_ ρ cs m;generalize gE _ _=tt;dsimp only[K3];generalize tt.1.1=ρ,tt.1.2=cs,tt.2=m;intro h7 hm;have yR:∀{l:List (List Nat)},(∀c∈l,c∈cs)->∀x∈l.map ρ,x<m:=λhl x hx=>by refine av (Yr.mp hx) ?_;rintro c hc(rfl);exact hm c (hl c hc)
 have hlen:(cs.map ρ).length=7:=by rw[YN,h7]
 have je:=Mp.DB (cs.map ρ) (yR λc hc=>hc);rw[hlen]at je;have hcr:=Mp.jy ((List.reverse_perm cs).map ρ);constructor
 ·refine Xa (pE ρ false h7) (λh=>?_) λh=>?_
  ·have h1:=Mp.rm (cs.map ρ) (yR λc hc=>hc) (ly h.1 λa b q=>by have:=of_decide_eq_false (show decide (ρ a<ρ b)=false from q);exact aO 0x1110032 this);have h2:=Mp.nZ (m:=m) (cs.reverse.map ρ) (by rw[YA];exact Yd.mpr (ly h.1 λa b q=>by have:=of_decide_eq_false (show decide (ρ a<ρ b)=false from q);exact aO 0x1110032 this));unfold ig;rw[h.2,h2,h1,hlen,Nat.mod_self]
  ·refine Kq h λp x y s t q=>GQ q λe1 e2 f1 f2 f3 f4 f5=>?_;have hs:∀c∈s,c∈cs:=λc hc=>by rw[e1];exact Yx p (Yv _ hc)
   have hup:=Mp.NI (yR hs) (ly f1 λa b q=>by have:=of_decide_eq_false (show decide (ρ a<ρ b)=false from q);exact aO 0x1110032 this) (ly f2 λa b q=>by have:=of_decide_eq_false (show decide (ρ b<ρ a)=false from q);exact aO 0x1110032 this) (f3.map ρ) (U9 f4) (λv hv q=>by refine av (Yr.mp hv) ?_;rintro c hc(rfl);exact f5 c hc ⟨Vb q.1,Vb q.2⟩);refine av (Mp.BU (m:=m) (p.map ρ) ((x::s).map ρ) ((y::t).map ρ) (f3.symm.map ρ)) λA g1 g2=>?_;have k1:ig ρ m cs=A+pl m ((x::s).map ρ) (cnt ((x::s).map ρ)):=by unfold ig;rw[e1,YE];exact g1
   have k2:ig ρ m (oh ρ false cs)=A+pl m ((y::t).map ρ) (cnt ((y::t).map ρ)):=by unfold ig;rw[e2,YE];exact g2
   have k3:pl m ((y::t).map ρ) (cnt ((y::t).map ρ))=pl m ((x::s).map ρ) (cnt ((x::s).map ρ))+1:=hup;have hp:=Ab ρ false h7;have Cs:=Mp.DB ((oh ρ false cs).map ρ) (yR λc hc=>hp.mem_iff.mp hc);rw[Mp.jy (hp.map ρ),(hp.map ρ).length_eq,hlen]at Cs;have k4:ig ρ m (oh ρ false cs)<wW m 7 (cnt (cs.map ρ)):=by unfold ig;rw[Mp.jy (hp.map ρ)];exact Cs
   rw[k2,k3,<-XK,<-k1,Xq (by exact Bc 0x590b053092b4241b3221b025 rfl k1 k2 k3 k4)]
 ·refine Xa (pE ρ true h7) (λh=>?_) λh=>?_
  ·have h1:=Mp.nZ (m:=m) (cs.map ρ) (ly h.1 λa b q=>by have:=of_decide_eq_false (show decide (ρ b<ρ a)=false from q);exact aO 0x1110032 this);have h2:=Mp.rm (cs.reverse.map ρ) (yR λc hc=>Yj.mp hc) (by rw[YA];exact Yd.mpr (ly h.1 λa b q=>by have:=of_decide_eq_false (show decide (ρ b<ρ a)=false from q);exact aO 0x1110032 this));rw[hcr,YN,YJ,h7]at h2;unfold ig;rw[h.2,h1,Xl,hcr,Xq (by exact aO 0x191c0190b22 h2)];exact aO 0x91c02190b22 h2
  ·refine Kq h λp x y s t q=>GQ q λe1 e2 f1 f2 f3 f4 f5=>?_;have ht:∀c∈t,c∈cs:=λc hc=>by rw[e1];have:=f3.mem_iff.mp (Yv y hc);exact Yx p this
   have hdn:=Mp.Lm (yR ht) (ly f1 λa b q=>by have:=of_decide_eq_false (show decide (ρ b<ρ a)=false from q);exact aO 0x1110032 this) (ly f2 λa b q=>by have:=of_decide_eq_false (show decide (ρ a<ρ b)=false from q);exact aO 0x1110032 this) (f3.map ρ) (U9 f4) (λv hv q=>by
    refine av (Yr.mp hv) ?_;rintro c hc(rfl);have l9:=f3.mem_iff.mp (Yv y hc);refine Xa (Yw.mp l9) (λe=>?_) λe=>?_
    ·rw[e]at q;exact aO 0x611010042 q
    ·exact f5 c e ⟨Vb q.2,Vb q.1⟩)
   refine av (Mp.BU (m:=m) (p.map ρ) ((x::s).map ρ) ((y::t).map ρ) (f3.symm.map ρ)) λA g1 g2=>?_;have k1:ig ρ m cs=A+pl m ((x::s).map ρ) (cnt ((x::s).map ρ)):=by unfold ig;rw[e1,YE];exact g1
   have k2:ig ρ m (oh ρ true cs)=A+pl m ((y::t).map ρ) (cnt ((y::t).map ρ)):=by unfold ig;rw[e2,YE];exact g2
   have k3:pl m ((y::t).map ρ) (cnt ((y::t).map ρ))+1=pl m ((x::s).map ρ) (cnt ((x::s).map ρ)):=hdn;have k5:ig ρ m cs<wW m 7 (cnt (cs.map ρ)):=je;have e:ig ρ m cs+(wW m 7 (cnt (cs.map ρ))-1)=ig ρ m (oh ρ true cs)+wW m 7 (cnt (cs.map ρ)):=Bc 0x53b95c0b2500294b241b3221b025 rfl k1 k2 k3 k5;rw[e,Nat.add_mod_right,Xq (by exact bj 0x12012b91c0b21003 k5 e)]
structure Gs where
 gc:List Dat->Option Dat
 gp:List Dat->Option Dat
 gb:List Dat->Option Dat
 gd:List Dat->Option Dat
 gk:List Dat->Option Dat
 ge:List Dat->Option Dat
 gt:List Dat->Option Dat
 gl:List Dat->Option Dat
 gw:List Dat->Option Dat
 gq:List Dat->Option Dat
 gr:List Dat->Option Dat
def ΦS:fO:={Ey with uu:=λf=>if f="sorted" then Xd fB else Ey.uu f}
def dZ(G:Gs):fO:=((((((((((ΦS.and "_comparable_version" G.gc).and "_platform" G.gp).and "_byteswap" G.gb).and "_law_draws" G.gd).and "_law_part" G.gk).and "_law_cell" G.ge).and "_law_texts" G.gt).and "_law_led" G.gl).and "_law_ways" G.gw).and "_law_place" G.gq).and "_law_refused" G.gr
def sT:List VW:=fk pw 17
def ay:V5:=dW pw 17
abbrev dh(i:Nat):VW:=aw sT i
section
variable {G:Gs} {script cs:List Dat} {tb rn:Dat} {ky mn:List Dat} {pl:Int} {tp:List UInt8} {kd:Dat}
noncomputable def Z1(script cs:List Dat):ax:=vS "cells" (.list cs) (bq ["script"] [.list script])
noncomputable def Z2(script cs:List Dat)(tb:Dat):ax:=vS "table" tb (Z1 script cs)
def Z3(script cs:List Dat)(tb rn:Dat):ax:=vS "ranks" rn (Z2 script cs tb)
def Z4(script cs:List Dat)(tb rn:Dat)(ky:List Dat):ax:=(("keys":VV),.own (.list ky))::Z3 script cs tb rn
def Z5(script cs:List Dat)(tb rn:Dat)(ky:List Dat)(kd:Dat):ax:=vS "key" kd (Z4 script cs tb rn ky)
def Z6(script cs:List Dat)(tb rn:Dat)(ky:List Dat)(kd:Dat)(mn:List Dat):ax:=vS "many" (.list mn) (Z5 script cs tb rn ky kd)
def Z7(script cs:List Dat)(tb rn:Dat)(ky:List Dat)(kd:Dat)(mn:List Dat)(pl:Int):ax:=vS "place" (.int pl) (Z6 script cs tb rn ky kd mn)
def Z8(script cs:List Dat)(tb rn:Dat)(ky:List Dat)(kd:Dat)(mn:List Dat)(pl:Int)(tp:List UInt8):ax:=vS "tape" (.bytes tp) (Z7 script cs tb rn ky kd mn pl)
theorem Tt:ev (dZ G) ay (bx (dh 0)) (bq ["script"] [.list script])=cb (cP G.gd (Xd (.list script))) λd=>dI (cP G.ge (Xd d)):=by rfl
noncomputable def dcP:VW->Option (Expr×Expr×Expr×Expr×V5)| .Assign _ (.DictComp k v [⟨t,it,_,_⟩] s _) _=>Xd (k,v,t,it,s)|_=>Xe
def U1(st:VW):Expr×Expr×Expr×Expr×V5:=(dcP st).getD (.Name "" df,.Name "" df,.Name "" df,.Name "" df,default)
def F6(G:Gs)(x:VV)(st:VW):nu:=Js (dZ G) x (U1 st).2.2.2.2 (U1 st).2.2.1 (U1 st).2.2.2.1 (U1 st).1 (U1 st).2.1
def RI(cs:List Dat)(f:Dat->Option (VV×Dat)):Option Dat:=(bN (λd=>(f d).map λp=>[p]) cs).bind λqs=>if(qs.flatMap fD).length<=aS then Xd (dictOf qs)else Xe
theorem Tr:F6 G "table" (dh 1) ay (Z1 script cs)=(RI cs λd=>mF (cB (Xd d) (Xd (.int 0))) (Xd d)).bind λd=>(bV ay "table" (.val d) (Z1 script cs)).map .next:=by rfl
theorem Tq:F6 G "ranks" (dh 2) ay (Z2 script cs tb)=(RI cs λd=>mF (cB (Xd d) (Xd (.int 0))) (cP G.gc (cP G.gp (cB (Xd d) (Xd (.int 0)))))).bind λd=>(bV ay "ranks" (.val d) (Z2 script cs tb)).map .next:=by rfl
theorem Zbo:ex (dZ G) Ψ ay (dh 3) (Z3 script cs tb rn)=Xd (.next (Z4 script cs tb rn [])):=by rfl
def i8(j:Int)(d:Dat):Option Dat:=cB (Xd d) (Xd (.int j))
theorem PA:ev (dZ G) ay (cY (dh 4)) (Z4 script cs tb rn ky)=eF fB (cb (Xd (.list cs)) λd=>dI (i8 1 d)):=by rfl
theorem LI(d:Dat)(V:ax):bL ay (dF (dh 4)) d V=Xd ((("key":VV),.val d)::V):=by rfl
theorem Tp:cN (dh 4)=[.If (aX (aw (cN (dh 4)) 0)) (bA (aw (cN (dh 4)) 0)) [] (ek (aw (cN (dh 4)) 0))]:=by rfl
theorem Tj:dT (dZ G) ay (aX (aw (cN (dh 4)) 0)) (Z5 script cs tb rn ky kd) (ev (dZ G) ay (aX (aw (cN (dh 4)) 0)) (Z5 script cs tb rn ky kd))=dG .NotIn (Xd kd) (Xd (.list ky)):=by rfl
theorem To:bA (aw (cN (dh 4)) 0)=[aw (bA (aw (cN (dh 4)) 0)) 0]:=by rfl
theorem Tn:ex (dZ G) Ψ ay (aw (bA (aw (cN (dh 4)) 0)) 0) (Z5 script cs tb rn ky kd)=Tc "append" "keys" (.list ky) (Zat (Xd kd)) (Z5 script cs tb rn ky kd):=by rfl
def mnE(cs:List Dat)(k:Dat):Option Dat:=eF lF (cb (Xd (.list cs)) λd=>wR (dG .Eq (i8 1 d) (Xd k)) (dI (Xd d)))
theorem Ti:ev (dZ G) ay (bx (dh 5)) (Z5 script cs tb rn ky kd)=cb (Xd (.list ky)) λk=>dI (mnE cs k):=by rfl
def BG(cs ky:List Dat):Option Dat:=cb (Xd (.list cs)) λd=>dI (zZ s8 (.list ky) (i8 1 d))
theorem Th:ev (dZ G) ay (bx (dh 6)) (Z6 script cs tb rn ky kd mn)=fZ G.gq (BG cs ky) (Xd (.list mn)):=by rfl
theorem Tf:ev (dZ G) ay (bx (dh 7)) (Z7 script cs tb rn ky kd mn pl)=eF lS (cb (Xd (.list cs)) λd=>bind1 (i8 0 d) λx=>dI (eF Fp (Xd x))):=by rfl
end
structure LP where
 script:List Dat
 cs:List Dat
 tb:Dat
 rn:Dat
 ky:List Dat
 kd:Dat
 mn:List Dat
 pl:Int
 tp:List UInt8
structure TJ where
 tx:List Dat
 sd:List Dat
 cr:List Dat
 du:List Dat
 nm:Dat
 td:Dat
def jJ:Option TJ->ax|none=>[]|some j=>[(("told":VV),.val j.td),(("name":VV),.val j.nm),(("due":VV),.val (.list j.du)),(("cores":VV),.val (.list j.cr)),(("stand":VV),.val (.list j.sd)),(("texts":VV),.val (.list j.tx))]
def ZB(P:LP):ax:=Z8 P.script P.cs P.tb P.rn P.ky P.kd P.mn P.pl P.tp
section
variable {G:Gs} {P:LP} {J:Option TJ} {le:List UInt8} {st:Int} {tx sd cr du:List Dat} {nm td:Dat}
noncomputable def Y0(P:LP)(J:Option TJ)(le:List UInt8)(st:Int):ax:=vS "step" (.int st) (vS "led" (.bytes le) (jJ J++ZB P))
noncomputable def Y1(P:LP)(J:Option TJ)(le:List UInt8)(st:Int)(tx:List Dat):ax:=vS "texts" (.list tx) (Y0 P J le st)
noncomputable def Y2(P:LP)(J:Option TJ)(le:List UInt8)(st:Int)(tx sd:List Dat):ax:=vS "stand" (.list sd) (Y1 P J le st tx)
noncomputable def Y3(P:LP)(J:Option TJ)(le:List UInt8)(st:Int)(tx sd cr:List Dat):ax:=vS "cores" (.list cr) (Y2 P J le st tx sd)
def Y4(P:LP)(J:Option TJ)(le:List UInt8)(st:Int)(tx sd cr du:List Dat):ax:=vS "due" (.list du) (Y3 P J le st tx sd cr)
def Y5(P:LP)(J:Option TJ)(le:List UInt8)(st:Int)(tx sd cr du:List Dat)(nm:Dat):ax:=vS "name" nm (Y4 P J le st tx sd cr du)
def Y6(P:LP)(J:Option TJ)(le:List UInt8)(st:Int)(tx sd cr du:List Dat)(nm td:Dat):ax:=vS "told" td (Y5 P J le st tx sd cr du nm)
def qi:List VW:=cN (dh 8)
abbrev wS(i:Nat):VW:=aw qi i
theorem w_0:ex (dZ G) Ψ ay (wS 0) (Y0 P J le st)=vf ay "texts" (cP G.gt (Xd (.bytes le))) (ev (dZ G) ay (bx (wS 0)) (bp (Y0 P J le st))) (Y0 P J le st):=by rcases J with⟨⟩<;>rfl
theorem ZaX:dT (dZ G) ay (aX (wS 1)) (Y1 P J le st tx) (ev (dZ G) ay (aX (wS 1)) (Y1 P J le st tx))=dG .NotEq (eF fB (Xd (.list tx))) (eF fB (cb (Xd (.list P.cs)) λd=>dI (i8 0 d))):=by rcases J with⟨⟩<;>rfl
theorem ZaW:ev (dZ G) ay (bx (wS 2)) (Y1 P J le st tx)=cb (Xd (.list tx)) λt=>dI (cB (Xd P.tb) (Xd t)):=by rcases J with⟨⟩<;>rfl
theorem ZaV:dT (dZ G) ay (aX (wS 3)) (Y2 P J le st tx sd) (ev (dZ G) ay (aX (wS 3)) (Y2 P J le st tx sd))=dG .NotEq (fZ G.gq (BG sd P.ky) (Xd (.list P.mn))) (bQ .Mod (bQ .Add (Xd (.int P.pl)) (Xd (.int st))) (cP G.gw (Xd (.list P.mn)))):=by rcases J with⟨⟩<;>rfl
theorem ZaU:ev (dZ G) ay (bx (wS 4)) (Y2 P J le st tx sd)=cb (Xd (.list sd)) λd=>wR (dG .NotEq (i8 3 d) (Xd (.str ""))) (dI (i8 3 d)):=by rcases J with⟨⟩<;>rfl
theorem ZaT:ev (dZ G) ay (bx (wS 5)) (Y3 P J le st tx sd cr)=cb (Xd (.list sd)) λd=>bind1 (i8 1 d) λk=>bind1 (cP G.gk (Xd k)) λx=>dI (Xd x):=by rcases J with⟨⟩<;>rfl
theorem ZaS:ev (dZ G) ay (bx (wS 6)) (Y4 P J le st tx sd cr du)=ip (.str "-") [.list cr]:=by rcases J with⟨⟩<;>rfl
abbrev wA(i:Nat):Expr:=(cM (aX (wS 7))).getD i (.Name "" df)
abbrev wO(i:Nat):Expr:=(cM (wA 1)).getD i (.Name "" df)
theorem ZaN:dT (dZ G) ay (aX (wS 7)) V (ev (dZ G) ay (aX (wS 7)) V)=fu (dZ G) ay .And [wA 0,wA 1] V:=by rfl
theorem ZaM:dT (dZ G) ay (wA 0) (Y5 P J le st tx sd cr du nm) (ev (dZ G) ay (wA 0) (Y5 P J le st tx sd cr du nm))=dG .NotEq (Xd (.list cr)) (Xd (.list [])):=by rcases J with⟨⟩<;>rfl
theorem ZaL:dT (dZ G) ay (wA 1) V (ev (dZ G) ay (wA 1) V)=fu (dZ G) ay .Or [wO 0,wO 1] V:=by rfl
theorem ZaR:dT (dZ G) ay (wO 0) (Y5 P J le st tx sd cr du nm) (ev (dZ G) ay (wO 0) (Y5 P J le st tx sd cr du nm))=(cB (cB (Xd (.list sd)) (Xd (.int 0))) (Xd (.int 2))).bind kL:=by rcases J with⟨⟩<;>rfl
theorem ZaQ:dT (dZ G) ay (wO 1) (Y5 P J le st tx sd cr du nm) (ev (dZ G) ay (wO 1) (Y5 P J le st tx sd cr du nm))=dG .Eq (cB (cB (Xd (.list sd)) (Xd (.int 0))) (Xd (.int 3))) (Xd (.str "")):=by rcases J with⟨⟩<;>rfl
theorem ZaP:bA (wS 7)=[aw (bA (wS 7)) 0]:=by rfl
theorem ZaO:ex (dZ G) Ψ ay (aw (bA (wS 7)) 0) (Y5 P J le st tx sd cr du nm)=vf ay "name" (bQ .Add (Xd (.str "-")) (Xd nm)) (ev (dZ G) ay (bx (aw (bA (wS 7)) 0)) (bp (Y5 P J le st tx sd cr du nm))) (Y5 P J le st tx sd cr du nm):=by rcases J with⟨⟩<;>rfl
def Hj(g:List Dat->Option Dat)(a:Dat)(ds:List Dat):Option Dat:=(((if ds.length<=aS then Xd ds else Xe).bind λxs=>Xd (xs++[])).map λds=>[a]++ds).bind g
theorem ZaK:ev (dZ G) ay (bx (wS 8)) (Y5 P J le st tx sd cr du nm)=Hj G.gp (.str "") tx:=by rcases J with⟨⟩<;>rfl
abbrev wB(i:Nat):Expr:=(cM (aX (wS 9))).getD i (.Name "" df)
theorem ZaJ:dT (dZ G) ay (aX (wS 9)) V (ev (dZ G) ay (aX (wS 9)) V)=fu (dZ G) ay .Or [wB 0,wB 1] V:=by rfl
theorem ZaI:dT (dZ G) ay (wB 0) (Y6 P J le st tx sd cr du nm td) (ev (dZ G) ay (wB 0) (Y6 P J le st tx sd cr du nm td))=dG .NotEq (Xd td) (Xd nm):=by rcases J with⟨⟩<;>rfl
theorem ZaH:dT (dZ G) ay (wB 1) (Y6 P J le st tx sd cr du nm td) (ev (dZ G) ay (wB 1) (Y6 P J le st tx sd cr du nm td))=dG .NotEq (cP G.gc (Xd td)) (Xd (.list du)):=by rcases J with⟨⟩<;>rfl
theorem OW:qi=[wS 0,.If (aX (wS 1)) (bA (wS 1)) [] (ek (wS 1)),wS 2,.If (aX (wS 3)) (bA (wS 3)) [] (ek (wS 3)),wS 4,wS 5,wS 6,.If (aX (wS 7)) (bA (wS 7)) [] (ek (wS 7)),wS 8,.If (aX (wS 9)) (bA (wS 9)) [] (ek (wS 9))]:=by rfl
theorem RW{V:ax}:bL ay (dF (dh 8)) (.tuple [.bytes le,.int st]) V=Xd (vS "step" (.int st) (vS "led" (.bytes le) V)):=by rfl
def Za1(a b c:Option Dat):Option Dat:=(a.bind λd=>(b.bind λd=>(c.bind λd=>Xd [d]).map λds=>d::ds).map λds=>d::ds).bind MZ
def tupI(x:Option Dat)(i:Int):Option Dat:=(x.bind λd=>Xd [d,.int i]).bind MZ
def yA(g:List Dat->Option Dat)(x y z:Option Dat):Option Dat:=((x.map one).bind λxs=>((y.map one).bind λys=>((z.map one).bind λzs=>Xd (zs++[])).map λds=>ys++ds).map λds=>xs++ds).bind g
theorem Py:ev (dZ G) ay (cY (dh 8)) (ZB P)=Za1 (tupI (Xd (.bytes P.tp)) 0) (tupI (yA G.gl (Xd (.bytes P.tp)) (Xd P.rn) (Xd (.bool false))) 1) (tupI (yA G.gl (Xd (.bytes P.tp)) (Xd P.rn) (Xd (.bool true))) (-1)):=by rfl
theorem Zbn:ex (dZ G) Ψ ay (dh 9) (Y0 P J le st)=((newD "bytearray" [.bytes P.tp]).bind λd=>bV ay "given" (.own d) (Y0 P J le st)).map .next:=by rcases J with⟨⟩<;>rfl
def Q0(P:LP)(J:Option TJ)(le:List UInt8)(st:Int)(gv:Dat):ax:=(("given":VV),.own gv)::Y0 P J le st
theorem Ts:ex (dZ G) Ψ ay (dh 10) V=vf ay "turned" (ev (dZ G) ay (bx (dh 10)) V) (ev (dZ G) ay (bx (dh 10)) (bp V)) V:=by rfl
theorem PI{gv:Dat}:ev (dZ G) ay (bx (dh 10)) (Q0 P J le st gv)=Xe:=by rcases J with⟨⟩<;>rfl
theorem PH{gv:Dat}:ev (dZ G) ay (bx (dh 10)) (bp (Q0 P J le st gv))=fZ G.gb (Xd gv) (Xd (.int 77)):=by rcases J with⟨⟩<;>rfl
def Q1(P:LP)(J:Option TJ)(le:List UInt8)(st:Int)(gv tu:Dat):ax:=vS "turned" tu (bp (Q0 P J le st gv))
abbrev qA(i:Nat):Expr:=(cM (aX (dh 11))).getD i (.Name "" df)
theorem PG:dT (dZ G) ay (aX (dh 11)) V (ev (dZ G) ay (aX (dh 11)) V)=fu (dZ G) ay .Or [qA 0,qA 1,qA 2] V:=by rfl
theorem PF{gv tu:Dat}:dT (dZ G) ay (qA 0) (Q1 P J le st gv tu) (ev (dZ G) ay (qA 0) (Q1 P J le st gv tu))=((Iv [tu,.typ "bytes"]).bind kL).map (!·):=by rcases J with⟨⟩<;>rfl
theorem PD{gv tu:Dat}:dT (dZ G) ay (qA 1) (Q1 P J le st gv tu) (ev (dZ G) ay (qA 1) (Q1 P J le st gv tu))=dG .NotEq (Xd tu) (b9 (Xd (.bytes P.tp)) (Xd Xe) (Xd Xe) (Xd (Xd (-1)))):=by rcases J with⟨⟩<;>rfl
theorem PC{gv tu:Dat}:dT (dZ G) ay (qA 2) (Q1 P J le st gv tu) (ev (dZ G) ay (qA 2) (Q1 P J le st gv tu))=dG .NotEq (lS [gv]) (Xd (.bytes P.tp)):=by rcases J with⟨⟩<;>rfl
def Tw(x y:Option Dat):Option Dat:=(x.bind λd=>(y.bind λe=>Xd [e]).map λds=>d::ds).bind AO
theorem PB{gv tu:Dat}:ev (dZ G) ay (cX (dh 12)) (Q1 P J le st gv tu)=Zaa .Eq (Tw (fZ G.gr (Xd (.bytes P.tp)) (Xd (.int 0))) (fZ G.gr (b9 (Xd (.bytes P.tp)) (Xd (Xd 1)) (Xd Xe) (Xd Xe)) (Xd (.int 11)))) (Xd (.list [.str "ValueError",.str "IndexError"])):=by rcases J with⟨⟩<;>rfl
theorem LH:sT=[dh 0,dh 1,dh 2,dh 3,.For (dF (dh 4)) (cY (dh 4)) (cN (dh 4)) [] (ki (dh 4)),dh 5,dh 6,dh 7,.For (dF (dh 8)) (cY (dh 8)) qi [] (ki (dh 8)),dh 9,dh 10,.If (aX (dh 11)) (bA (dh 11)) [] (ek (dh 11)),.Return (Xd (cX (dh 12))) (fQ (dh 12))]:=by rfl
end
theorem La{m:List (VV×Dat)}{k:VV}{d:Dat}{qs:List (VV×Dat)}(h1:∀p∈m,p∈qs)(hd:(k,d)∈qs):(∀p∈putD m k d,p∈qs)/\(∀x,x∈m.map (·.1)\/x=k->x∈(putD m k d).map (·.1)):=by
 unfold putD;by_cases hc:(m.any λp=>p.1=k)=true
 ·rw[Vh hc];refine⟨λp hp=>?_,λx hx=>?_⟩
  ·refine av (Yr.mp hp) λq hq e=>?_;by_cases he:q.1=k
   ·rw[Vh he]at e;rw[<-e,he];exact hd
   ·rw[Vg he]at e;rw[<-e];exact h1 q hq
  ·have e:(m.map λp=>if p.1=k then(p.1,d)else p).map (·.1)=m.map (·.1):=by
    rw[YB];refine YD λp hp=>?_;show(if p.1=k then(p.1,d)else p).1=p.1;by_cases he:p.1=k
    ·rw[Vh he]
    ·rw[Vg he]
   rw[e];refine Xa hx id λq=>?_;rw[List.any_eq_true]at hc;refine hc.elim λp hp=>?_;rw[q,<-U9 hp.2];exact List.mem_map_of_mem hp.1
 ·rw[Vg hc];refine⟨λp hp=>?_,λx hx=>?_⟩
  ·refine Xa (Yz.mp hp) (h1 p) λq=>?_;rw[Yi.mp q];exact hd
  ·rw[YE];exact Yz.mpr (hx.imp id λq=>by rw[q];exact Yi.mpr rfl)
theorem Eo(qs:List (VV×Dat)):∀(rs:List (VV×Dat))(m:List (VV×Dat)),(∀p∈rs,p∈qs)->(∀p∈m,p∈qs)->(∀p∈rs.foldl (λm p=>putD m p.1 p.2) m,p∈qs)/\∀x,x∈m.map (·.1)\/x∈rs.map (·.1)->x∈(rs.foldl (λm p=>putD m p.1 p.2) m).map (·.1)|[],m,hr,hm=>⟨hm,λx hx=>hx.elim id λq=>nomatch q⟩|p::rs,m,hr,hm=>by have z:=La hm (hr p Yu);have y:=Eo qs rs (putD m p.1 p.2) (λq hq=>hr q (Yv _ hq)) z.1;refine⟨y.1,λx hx=>y.2 x ?_⟩;refine Xa hx (λq=>.inl (z.2 x (.inl q))) λq=>?_;rw[YC]at q;refine Xa (Yw.mp q) (λe=>.inl (z.2 x (.inr e))) .inr
theorem wh{qs:List (VV×Dat)}{x:VV}(h:x∈qs.map (·.1)):∃d,(x,d)∈qs/\ej (dictOf qs) (.str x)=Xd d:=by
 have z:=Eo qs qs [] (λp hp=>hp) (λp hp=>nomatch hp);have hx:x∈(kR qs).map (·.1):=z.2 x (.inr h);have hi:((kR qs).map (·.1)).idxOf? x=Xd (((kR qs).map (·.1)).idxOf x):=by rw[List.idxOf?_eq_some_iff];refine⟨YW hx,List.getElem_idxOf _,λj hj=>?_⟩;intro e;have:=List.not_of_lt_findIdx hj;rw[ZS]at this;exact this (beq_iff_eq.mpr e)
 have hl:=YW hx;have Cs:=hl;rw[YN]at Cs;refine⟨((kR qs)[((kR qs).map (·.1)).idxOf x]).2,?_,?_⟩
 ·have e:((kR qs)[((kR qs).map (·.1)).idxOf x]).1=x:=by have:=List.getElem_idxOf hl;rw[List.getElem_map]at this;exact this
  have hm:=z.1 _ (List.getElem_mem Cs);have e2:(kR qs)[((kR qs).map (·.1)).idxOf x]=(x,((kR qs)[((kR qs).map (·.1)).idxOf x]).2):=by
   conv=>lhs;rw[<-Prod.eta ((kR qs)[((kR qs).map (·.1)).idxOf x])]
   rw[e]
  rw[<-e2];exact hm
 ·show((((kR qs).map (·.1)).idxOf? x).bind (((kR qs).map (·.2))[·]?))=_;rw[hi,Xh,YZ,Y9 Cs];rfl
theorem Jv{ns:List Nat}{c:Nat->Dat}{f:Dat->Option (VV×Dat)}{g:Nat->VV×Dat}(hf:∀n∈ns,f (c n)=Xd (g n))(hl:ns.length<=100):RI (ns.map c) f=Xd (dictOf (ns.map g)):=by
 have key:∀l:List Nat,(∀n∈l,n∈ns)->bN (λd=>(f d).map λp=>[p]) (l.map c)=Xd (l.map g):=by intro l;induction l with|nil=>intro _;rfl|cons n l ih=>intro h;show(((f (c n)).map λp=>[p]).bind λbs=>(bN (λd=>(f d).map λp=>[p]) (l.map c)).bind λcs=>Xd (bs++cs))=_;rw[hf n (h n Yu),ih λm hm=>h m (Yv _ hm)];rfl
 unfold RI;rw[key ns λn h=>h,Xh,Vh];have:∀l:List Nat,((l.map g).flatMap fD).length=2*l.length:=by intro l;induction l with|nil=>rfl|cons n l ih=>rw[YC,Zg,YT,ih];show 2+_=_;rw[YS];exact aZ 0x90b02d002d02ab21
 rw[this];unfold aS;exact aZ 0xf42408f002d164a012 hl
def kD(k:List Nat):Dat:=.list (aD k)
noncomputable def kP(k:List Nat):We:=.list (k.map λi:Nat=>.int (i:Int))
theorem DQ(k:List Nat):mQ (kD k)=Xd (kP k):=by
 have h:∀l:List Nat,eO (aD l)=Xd (l.map λi:Nat=>.int (i:Int)):=by
  intro l;induction l with
  |nil=>rfl
  |cons a l ih=>show(match mQ (.int (a:Int))with|none=>Xe|some p=>match eO (aD l)with|none=>Xe|some ps=>Xd (p::ps))=_;rw[ih];rfl
 unfold kD;rw[zh,h];rfl
theorem Cb(k:List Nat):(kP k).depth<=60:=by
 have h:∀l:List Nat,Wb (l.map λi:Nat=>We.int (i:Int))=0:=by intro l;induction l with|nil=>rfl|cons a l ih=>rw[YC,Wb,ih];rfl
 unfold kP;rw[We.depth,h];decide
theorem PO(k l:List Nat):Wa (kP k) (kP l)=(k==l):=by
 have h:=tM k l;have e:mh (kD k) (kD l)=Xd (Wa (kP k) (kP l)):=by delta mh;rw[DQ,DQ];exact Vh ⟨Cb k,Cb l⟩
 have:mh (kD k) (kD l)=Xd (k==l):=h;rw[e]at this;exact Xc this
theorem Iq:∀ks:List (List Nat),eO (ks.map kD)=Xd (ks.map kP)|[]=>rfl|k::ks=>by rw[YC,Bp,DQ,Iq ks];rfl
theorem Px(k:List Nat)(ks:List (List Nat)):dG .NotIn (Xd (kD k)) (Xd (.list (ks.map kD)))=Xd (!(ks.contains k)):=by
 show(memD (kD k) (ks.map kD)).map (!·)=_;have e:memD (kD k) (ks.map kD)=Xd ((ks.map kP).any λy=>Wa y (kP k)):=by delta memD;rw[DQ,Iq];exact Vh (Cb k)
 rw[e,List.any_map];have e2:(ks.any ((λy=>Wa y (kP k))∘kP))=ks.contains k:=by rw[List.contains_eq_any_beq];congr 1;funext y;show Wa (kP y) (kP k)=_;rw[PO,ZR,Vd,Vd,eq_comm]
 rw[e2];rfl
theorem UU(k l:List Nat):dG .Eq (Xd (kD k)) (Xd (kD l))=Xd (k==l):=tM k l
theorem IB{k:List Nat}:∀(ks:List (List Nat))(j:Nat),k∈ks->m9 (kD k) (ks.map kD) j=Xd (j+ks.idxOf k)
 |[],j,h=>nomatch h
 |y::ks,j,h=>by
  have e:mh (kD y) (kD k)=Xd (y==k):=tM y k;show(match mh (kD y) (kD k)with|some true=>Xd j|some false=>m9 (kD k) (ks.map kD) (j+1)|none=>Xe)=_;rw[e,List.idxOf_cons];cases hq:y==k with
  |true=>rw[cond_true];rfl
  |false=>
   rw[cond_false];show m9 (kD k) (ks.map kD) (j+1)=_;have hm:=(Yw.mp h).resolve_left λq=>by rw[q,beq_self_eq_true]at hq;exact ZO hq
   rw[IB ks (j+1) hm];congr 1;exact aO 0x91b0b190bb21
theorem Iy{k:List Nat}{ks:List (List Nat)}(h:k∈ks)(hl:ks.length<=100):zZ s8 (.list (ks.map kD)) (Xd (kD k))=Xd (.int (ks.idxOf k:Int)):=by show(if(ks.map kD).length<=aS then(m9 (kD k) (ks.map kD) 0).map λj:Nat=>Dat.int (j:Int)else Xe)=_;rw[Vh (by rw[YN];unfold aS;exact aZ 0xf42408f0164a012 hl),IB ks 0 h,Xl];rfl
theorem vI:∀(N:Nat)(l:List Nat),l.Nodup->(∀x∈l,x<N)->l.length<=N
 |0,l,h,hl=>by
  rcases l with _|⟨a,l⟩
  ·exact Xz _
  ·exact absurd (hl a Yu) (Xn a)
 |N+1,l,h,hl=>by
  have:=vI N (l.erase N) (h.erase N) λx hx=>by have z:=h.mem_erase_iff.mp hx;have:=hl x z.2;omega
  have e:=List.length_erase (a:=N) (l:=l);split at e<;>omega
theorem EW{r:Nat->Nat}{N:Nat}{f:Nat->Nat->Bool}(hf:∀i j,i<N->j<N->f i j=decide (r i<r j)):(Ks.dk f N).Perm (Yc N)/\(Ks.dk f N).Pairwise (λi j=>r i<=r j):=by
 refine bD (Ks.Bz hf) λh1 h2 h3=>?_;have hn:(Ks.dk f N).Nodup:=h3.imp λ{a b}q e=>by subst e;unfold Ks.prec at q;exact aO 0x6110002400052 q
 have kQ:=λi hi=>ZK λhc=>by have:=vI N (i::Ks.dk f N) (List.nodup_cons.mpr ⟨hc,hn⟩) λx hx=>(Yw.mp hx).elim (λe=>e▸hi) (h2 x);rw[YS]at this;exact aO 0x6190b11023 h1 this
 refine⟨List.perm_iff_count.mpr λa=>?_,h3.imp λ{a b}q=>by unfold Ks.prec at q;exact eg 0x101320102410052 rfl q⟩;have c1:=List.nodup_iff_count.mp hn a;have c2:=List.nodup_iff_count.mp (List.nodup_range (n:=N)) a;by_cases ha:a<N
 ·have d1:=List.count_pos_iff.mpr (kQ a ha);have d2:=List.count_pos_iff.mpr (Yl.mpr ha);exact aO 0x1021800809119015 c1 c2 d1 d2
 ·rw[Zr.mpr λq=>ha (h2 a q),Zr.mpr λq=>ha (Yl.mp q)]
theorem Fe{α:Type}{z:α}:∀l:List α,(Yc l.length).map (λi=>l.getD i z)=l:=λl=>Zl λj=>by
 rw[YZ];by_cases h:j<l.length
 ·rw[YY h,Y9 h];show Xd (l.getD j z)=_;rw[Ze,Y9 h];rfl
 ·rw[Y8 (by rw[YL];exact aO 0x1110032 h),Y8 (by exact aO 0x1110032 h)];rfl
theorem sh{α:Type}{z:α}{D:α->Dat}{l:List α}{r:α->Nat}(hf:∀a∈l,∀b∈l,ltD (D a) (D b)=Xd (decide (r a<r b))):∃us:List α,iM (l.map D)=us.map D/\us.Perm l/\us.Pairwise (λa b=>r a<=r b):=by
 have Om:∀i,i<l.length->(l.map D).getD i .none=D (l.getD i z):=λi hi=>by rw[Ze,Ze,YZ,Y9 hi];rfl
 have hg:∀i j,i<l.length->j<l.length->Kg (l.map D) i j=decide (r (l.getD i z)<r (l.getD j z)):=λi j hi hj=>by unfold Kg;rw[Om i hi,Om j hj,hf _ (getD_mem hi) _ (getD_mem hj)];rfl
 have hs:=EW hg;refine⟨(Ks.dk (Kg (l.map D)) l.length).map λi=>l.getD i z,?_,?_,List.pairwise_map.mpr hs.2⟩
 ·unfold iM;rw[YN,YB];refine YD λi hi=>Om i (Yl.mp (hs.1.mem_iff.mp hi))
 ·have:=hs.1.map λi=>l.getD i z;rw[Fe]at this;exact this
theorem wk{α:Type}{p q:α->Bool}{a:α}:∀{l:List α},(∀x∈l,p x=true->q x=true)->a∈l->p a=false->q a=true->l.countP p<l.countP q
 |[],h,ha,h1,h2=>nomatch ha
 |b::l,h,ha,h1,h2=>by
  have hm:=List.countP_mono_left λx hx=>h x (Yv b hx);rw[List.countP_cons,List.countP_cons];by_cases e:b=a
  ·subst e;rw[h1,h2,Vg ZP,Vh rfl];exact aO 0x91b80b01012 hm
  ·have:=wk (λx hx=>h x (Yv b hx)) ((Yw.mp ha).resolve_left λz=>e z.symm) h1 h2;have hb:=h b Yu;cases hp:p b with|true=>rw[hb hp,Vh rfl];exact aO 0x91b90b01002 this|false=>rw[Vg ZP];exact bj 0x21b80b01002 this
noncomputable def ltT(a b:List Nat):Bool:=decide (a<b)
def Rl(ts:List (List Nat))(a:List Nat):Nat:=ts.countP λt=>ltT t a
theorem BH{ts:List (List Nat)}{a b:List Nat}(ha:a∈ts):(a<b)↔Rl ts a<Rl ts b:=by
 constructor
 ·refineλh=>wk (λx hx hp=>?_) ha (Va (List.lt_irrefl a)) (Vb h);exact Vb (List.lt_trans (U9 hp) h)
 ·refineλh=>ZK λhn=>?_;have:Rl ts b<=Rl ts a:=List.countP_mono_left λx hx hp=>by refine Vb (ZK λhc=>?_);have h1:=U9 hp;have h2:=List.not_lt.mp hn;have h3:=List.not_lt.mp hc;exact(List.not_lt.mpr (List.le_trans h2 h3)) h1
  exact aO 0x60111003 h this
theorem w4{ts Dj:List (List Nat)}(hp:Dj.Perm ts)(hl:ts.length<64):∃us:List (List Nat),us.Perm ts/\fB [.list (ts.map λt=>.str (S t))]=Xd (.list (us.map λt=>.str (S t)))/\fB [.list (Dj.map λt=>.str (S t))]=Xd (.list (us.map λt=>.str (S t))):=by
 have run:∀ys:List (List Nat),ys.Perm ts->∃us:List (List Nat),fB [.list (ys.map λt=>.str (S t))]=Xd (.list (us.map λt=>.str (S t)))/\us.Perm ts/\us.Pairwise (λa b=>Rl ts a<=Rl ts b):=λys hy=>by
  have hs:=sh (z:=[]) (D:=λt=>.str (S t)) λa ha b hb=>by exact Ve Xd (decide_eq_decide.mpr (BH (hy.mem_iff.mp ha)))
  refine hs.elim λus h=>⟨us,?_,h.2.1.trans hy,h.2.2⟩;show(if(ys.map λt=>Dat.str (S t)).length<64 then(match strsOf (ys.map λt=>Dat.str (S t))with
   |some zs=>Xd (Dat.list (iM (ys.map λt=>Dat.str (S t))))|none=>(mY (ys.map λt=>Dat.str (S t))).bind λkd=>if lC kd=true then Xd (Dat.list (iM (ys.map λt=>Dat.str (S t))))else Xe)else Xe)=_
  have e:ys.map (λt=>Dat.str (S t))=(ys.map S).map .str:=by rw[YB];rfl
  rw[Vh (by rw[YN,hy.length_eq];exact hl),h.1,e,ia]
 refine dE (run ts (.refl _)) λus h1 h2 h3=>dE (run Dj hp) λvs g1 g2 g3=>?_;have e:=List.Perm.eq_of_pairwise (λa b ha hb q1 q2=>by
  refine List.le_antisymm (List.not_lt.mp λq=>?_) (List.not_lt.mp λq=>?_)
  ·have:=(BH (g2.mem_iff.mp hb)).mp q;exact aO 0x60101013 q1 this
  ·have:=(BH (h2.mem_iff.mp ha)).mp q;exact aO 0x60101013 q2 this) h3 g3 (h2.trans g2.symm)
 subst e;exact⟨us,h2,h1,g1⟩
section
variable {G:Gs}
theorem D7{Φ:fO}{x:VV}{bC:V5}{t it ke ve:Expr}{st:VW}:CgM (st,Js Φ x bC t it ke ve):=λsc V V' h=>by
 have hc:=ni h bC;have hg:dcG Φ bC t ke ve (bJ bC V)=dcG Φ bC t ke ve (bJ bC V'):=funext λd=>by have ho:=iW (sc:=bC) hc t d;show(bL bC t d (bJ bC V)).bind _=(bL bC t d (bJ bC V')).bind _;generalize bL bC t d (bJ bC V)=a at *;generalize bL bC t d (bJ bC V')=b at *;cases ho with|none=>rfl|some hl=>show(mF (ev Φ bC ke _) (ev Φ bC ve _)).map _=(mF (ev Φ bC ke _) (ev Φ bC ve _)).map _;rw[cJ hl,cJ hl]
 have e:RJ Φ sc bC t it ke ve V=RJ Φ sc bC t it ke ve V':=by unfold RJ;rw[kh hc t,dS h (cJ h it) it,hg]
 show gm ((RJ Φ sc bC t it ke ve V).bind _) ((RJ Φ sc bC t it ke ve V').bind _);rw[e];exact yd _ λd=>(dU h _ _).fl
noncomputable def wK(G:Gs):yT:=lg [(dh 1,F6 G "table" (dh 1)),(dh 2,F6 G "ranks" (dh 2))]
theorem rO:mz (wK G):=zo ⟨D7,D7,trivial⟩
theorem RP:wK G ay (dh 1) V=F6 G "table" (dh 1) ay V:=cW (by rfl)
theorem RO:wK G ay (dh 2) V=F6 G "ranks" (dh 2) ay V:=cW (by rfl)
noncomputable def kc:List Nat->Nat|a::b::_=>4*a+(if b=9 then 2 else if b=10 then 3 else 4)|[a]=>4*a+1|[]=>0
noncomputable def Po(o:Option Bool)(b:Bool):Bool:=match o with
 |some c=>c==b|none=>false
theorem DF{o:Option Bool}{b:Bool}(h:Po o b=true):o=Xd b:=by
 rcases o with _|c
 ·exact ZO h
 ·exact Ve Xd (beq_iff_eq.mp h)
theorem LW:(Yc 17).all (λa=>(Yc 4).all λb=>(Yc 17).all λc=>(Yc 4).all λd=>Po (ij .Lt (aD (eV a b)) (aD (eV c d)) 0) (decide (kc (eV a b)<kc (eV c d)))&&(Po (ij .Lt (gR (eV a b)) (gR (eV c d)) 0) (decide (kc (eV a b)<kc (eV c d)))&&(kc (eV a b) !=kc (eV c d)||eV a b==eV c d)))=true:=by decide +kernel
theorem xS(n m:Nat):ij .Lt (aD (bH n)) (aD (bH m)) 0=Xd (decide (kc (bH n)<kc (bH m)))/\ij .Lt (gR (bH n)) (gR (bH m)) 0=Xd (decide (kc (bH n)<kc (bH m)))/\(kc (bH n)=kc (bH m)->bH n=bH m):=by have h:=C8 LW (Xp n (show 0<17 by decide)) (Xp (n/17) (show 0<4 by decide)) (Xp m (show 0<17 by decide)) (Xp (m/17) (show 0<4 by decide));rw[ZV,ZV]at h;refine⟨DF h.1,DF h.2.1,λe=>?_⟩;have z:=h.2.2;rw[ZL,bne_iff_ne,Vd]at z;exact z.resolve_left λq=>q e
noncomputable def once(ks aY:List (List Nat)):List (List Nat):=ks.foldl (λa k=>if a.contains k then a else a++[k]) aY
theorem HZ(k:List Nat)(ks aY:List (List Nat)):once (k::ks) aY=once ks (if aY.contains k then aY else aY++[k]):=rfl
theorem mW:∀(ks aY:List (List Nat)),(aY++ks).Pairwise (λa b=>kc a<=kc b)->aY.Pairwise (λa b=>kc a<kc b)->(∀a∈aY++ks,∀b∈aY++ks,kc a=kc b->a=b)->(once ks aY).Pairwise (λa b=>kc a<kc b)/\(∀x,x∈once ks aY↔x∈aY++ks)/\(once ks aY).length<=aY.length+ks.length
 |[],aY,h1,h2,h3=>⟨h2,λx=>by rw[Zu];rfl,Xz _⟩
 |k::ks,aY,h1,h2,h3=>by
  rw[HZ];by_cases hc:aY.contains k=true
  ·rw[Vh hc];have hk:k∈aY:=by rwa [Zs]at hc
   have ja:=(List.Sublist.refl aY).append (List.sublist_cons_self k ks);have z:=mW ks aY (h1.sublist ja) h2 λa ha b hb=>h3 a (ja.mem ha) b (ja.mem hb);refine⟨z.1,λx=>(z.2.1 x).trans ⟨λq=>ja.mem q,λq=>?_⟩,Xy z.2.2 (by rw[YS];exact aO 0x91b0b10b11)⟩;refine Xa (Yz.mp q) (λq=>Yy _ q) λq=>Xa (Yw.mp q) (λq=>?_) λq=>Yx _ q;rw[q];exact Yy _ hk
  ·rw[Vg hc];have e:(aY++[k])++ks=aY++k::ks:=by rw[Zv];rfl
   have hnk:=λq=>hc (Zs.mpr q);have z:=mW ks (aY++[k]) (e▸h1) (Yg.mpr ⟨h2,List.pairwise_singleton ..,λa ha b hb=>by rw[Yi.mp hb];have h4:=(Yg.mp h1).2.2 a ha k Yu;refine Nat.lt_of_le_of_ne h4 λq=>hnk ?_;rw[<-h3 a (Yy _ ha) k (Yx _ Yu) q];exact ha⟩) (e▸h3);rw[e]at z;have z3:=z.2.2;rw[YT]at z3;have e1:[k].length=1:=rfl;exact⟨z.1,z.2.1,by rw[YS];exact eg 0x93b1b01922321bb013 rfl z3 e1⟩
theorem FF{script cs:List Dat}{tb rn:Dat}(k:List Nat)(aY:List (List Nat)){J:Option Dat}{V:ax}(hl:aY.length<=99)(hV:bR V (jv "key" J++Z4 script cs tb rn (aY.map kD))):∃V',jV (dZ G) (wK G) ay (dF (dh 4)) (cN (dh 4)) (kD k) V=Xd (.next V')/\bR V' (Z5 script cs tb rn ((if aY.contains k then aY else aY++[k]).map kD) (kD k)):=by
 have hE:bR ((("key":VV),.val (kD k))::V) (Z5 script cs tb rn (aY.map kD) (kD k)):=bR.over hV;have II:∃wW,cn (dZ G) (wK G) ay (cN (dh 4)) (Z5 script cs tb rn (aY.map kD) (kD k))=Xd (.next wW)/\bR wW (Z5 script cs tb rn ((if aY.contains k then aY else aY++[k]).map kD) (kD k)):=by have ht:=Tj (G:=G) (script:=script) (cs:=cs) (tb:=tb) (rn:=rn) (ky:=aY.map kD) (kd:=kD k);rw[Px]at ht;rw[Tp];cases hc:aY.contains k with|true=>rw[hc]at ht;refine⟨_,(aF (aN rfl ((fH (cO ht)).trans dJ))).trans dJ,?_⟩;rw[Vh rfl];exact .refl _|false=>rw[hc]at ht;refine⟨_,(aF (aN rfl ((fH (cO ht)).trans (by rw[Vh (by rfl),To];exact(aF (aN rfl (Tn.trans (Ib (by rw[YN];unfold aS;exact aZ 0xf42408f90b163a012 hl))))).trans dJ)))).trans dJ,?_⟩;rw[Vg ZP,YE];exact bR.gz rfl
 refine II.elim λwW hW=>av (ju rO hE hW.1) λV' h1 h2=>⟨V',?_,h2.trans hW.2⟩;show(match bL ay (dF (dh 4)) (kD k) _ with
     |none=>Xe|some vs=>cn (dZ G) (wK G) ay (cN (dh 4)) vs)=_
 rw[LI];exact h1
theorem FG{script cs:List Dat}{tb rn:Dat}:∀(ks aY:List (List Nat))(J:Option Dat)(V:ax),aY.length+ks.length<=100->ks≠[]->bR V (jv "key" J++Z4 script cs tb rn (aY.map kD))->∃V' kd,d9 (jV (dZ G) (wK G) ay (dF (dh 4)) (cN (dh 4))) (ks.map kD) V=Xd (.next V')/\bR V' (Z5 script cs tb rn ((once ks aY).map kD) kd):=by
 intro ks;induction ks with
 |nil=>exactλaY J V hl hn hV=>absurd rfl hn
 |cons k ks ih=>
  intro aY J V hl hn hV;rw[YS]at hl;refine(FF (G:=G) k aY (aO 0x63a0164a91b0b12 hl) hV).elim λV1 h1=>?_;rw[YC,eB h1.1,HZ];have hlen:(if aY.contains k then aY else aY++[k]).length<=aY.length+1:=by
   split
   ·exact aZ 0x90b011
   ·rw[YT];exact Xz _
  rcases ks with _|⟨k2,ks⟩
  ·exact⟨V1,kD k,FV,h1.2⟩
  ·exact ih (if aY.contains k then aY else aY++[k]) (Xd (kD k)) V1 (bj 0x64a20b164a92b1b191b013 hlen hl) (by exactλq=>nomatch q) h1.2
end
theorem comp_map{α:Type}{l:List α}{c h:α->Dat}{F:Dat->Option (List Dat)}(hF:∀a∈l,F (c a)=Xd [h a])(hl:l.length<=1000):cb (Xd (.list (l.map c))) F=Xd (.list (l.map h)):=by
 have key:∀m:List α,(∀a∈m,a∈l)->bN F (m.map c)=Xd (m.map h):=by intro m;induction m with|nil=>intro _;rfl|cons a m ih=>intro hm;show((F (c a)).bind λbs=>(bN F (m.map c)).bind λcs=>Xd (bs++cs))=_;rw[hF a (hm a Yu),ih λb hb=>hm b (Yv _ hb)];rfl
 show(bN F (l.map c)).bind AO=_;rw[key l λa h=>h];show(if(l.map h).length<=aS then Xd (Dat.list (l.map h))else Xe)=_;rw[Vh (by rw[YN];unfold aS;exact aZ 0xf42408f01000003e88f012 hl)]
theorem tV{α:Type}{l:List α}{c:α->Dat}{h:α->List Dat}{F:Dat->Option (List Dat)}(hF:∀a∈l,F (c a)=Xd (h a))(hl:(l.flatMap h).length<=1000):cb (Xd (.list (l.map c))) F=Xd (.list (l.flatMap h)):=by
 have key:∀m:List α,(∀a∈m,a∈l)->bN F (m.map c)=Xd (m.flatMap h):=by intro m;induction m with|nil=>intro _;rfl|cons a m ih=>intro hm;show((F (c a)).bind λbs=>(bN F (m.map c)).bind λcs=>Xd (bs++cs))=_;rw[hF a (hm a Yu),ih λb hb=>hm b (Yv _ hb)];rfl
 show(bN F (l.map c)).bind AO=_;rw[key l λa h=>h];show(if(l.flatMap h).length<=aS then Xd (Dat.list (l.flatMap h))else Xe)=_;rw[Vh (by unfold aS;exact aZ 0xf42408f01000003e88f012 hl)]
theorem AJ{α:Type}{l:List α}{c h:α->Dat}{p:α->Bool}{F:Dat->Option (List Dat)}(hF:∀a∈l,F (c a)=wR (Xd (p a)) (Xd [h a]))(hl:l.length<=1000):cb (Xd (.list (l.map c))) F=Xd (.list ((l.filter p).map h)):=by
 have e:∀m:List α,(m.filter p).map h=m.flatMap λa=>if p a then[h a]else[]:=by intro m;induction m with|nil=>rfl|cons a m ih=>rw[Zi,Zg,<-ih];cases p a<;>rfl
 rw[e];refine tV (λa ha=>?_) ?_
 ·rw[hF a ha];cases p a<;>rfl
 ·rw[<-e,YN];exact Xy (YO _ _) hl
theorem yw(n:Nat):i8 0 (cL n)=Xd (.str (S (aT n))):=by rfl
theorem yv(n:Nat):i8 1 (cL n)=Xd (kD (bH n)):=by rfl
theorem QI(n:Nat):cB (Xd (cL n)) (Xd (.int 2))=Xd (.bool (oi n)):=by rfl
theorem JO(n:Nat):i8 3 (cL n)=Xd (.str (S (b6 n))):=by rfl
structure KL (ns:List Nat) (kl:List (List Nat)):Prop where
 srt:kl.Pairwise (λa b=>kc a<kc b)
 mem:∀x,x∈kl↔∃n∈ns,bH n=x
 len:kl.length<=ns.length
def eP(kl:List (List Nat))(n:Nat):Nat:=kl.idxOf (bH n)
def manyN(kl:List (List Nat))(ns:List Nat):List Nat:=kl.map λk=>(ns.filter λn=>bH n==k).length
section
variable {ns ms:List Nat} {kl:List (List Nat)}
theorem KL.in_(h:KL ns kl){n:Nat}(hn:n∈ns):bH n∈kl:=(h.mem _).mpr ⟨n,hn,rfl⟩
theorem KL.lt(h:KL ns kl){n:Nat}(hn:n∈ns):eP kl n<kl.length:=YW (h.in_ hn)
theorem KL.at(h:KL ns kl){n:Nat}(hn:n∈ns):kl[eP kl n]'(h.lt hn)=bH n:=List.getElem_idxOf (h.lt hn)
theorem KL.ord(h:KL ns kl){n m:Nat}(hn:n∈ns)(hm:m∈ns):kc (bH n)<kc (bH m)↔eP kl n<eP kl m:=by
 have hp:=List.pairwise_iff_getElem.mp h.srt;have h1:=h.at hn;have h2:=h.at hm;constructor
 ·refineλq=>ZK λhc=>?_;rcases Nat.lt_or_ge (eP kl m) (eP kl n)with q2|q2
  ·have:=hp _ _ (h.lt hm) (h.lt hn) q2;rw[h1,h2]at this;exact aO 0x60101003 q this
  ·have e:eP kl n=eP kl m:=aO 0x10210110033 hc q2;have:bH n=bH m:=by rw[<-h1,<-h2];simp only[e]
   rw[this]at q;exact aZ 0x60002 q
 ·intro q;have:=hp _ _ (h.lt hn) (h.lt hm) q;rw[h1,h2]at this;exact this
theorem KL.nodup(h:KL ns kl):kl.Nodup:=h.srt.imp λ{a b}q e=>by subst e;exact aZ 0x60002 q
theorem KL.many(h:KL ns kl)(v:Nat):iH (manyN kl ns) v=cnt (ns.map (eP kl)) v:=by
 unfold iH manyN Mp.cnt;by_cases hv:v<kl.length
 ·rw[Ze,YZ,Y9 hv];show(ns.filter λn=>bH n==kl[v]).length=_;rw[<-List.countP_eq_length_filter,List.count_eq_countP,List.countP_map];refine List.countP_congr λn hn=>?_;show(bH n==kl[v])=true↔(eP kl n==v)=true;rw[Vd,Vd];constructor
  ·intro e;unfold eP;rw[e];exact h.nodup.idxOf_getElem v hv
  ·intro e;rw[<-h.at hn];simp only[e]
 ·rw[Ze,Y8 (by rw[YN];exact aO 0x1110032 hv)];refine(Zr.mpr λq=>?_).symm;refine av (Yr.mp q) λn hn e=>?_;have:=h.lt hn;exact bj 0x612002210034 hv e this
theorem lE:(manyN kl ns).length=kl.length:=YN ..
theorem KL.sum(h:KL ns kl):(manyN kl ns).sum=ns.length:=by rw[<-Bt,show iH (manyN kl ns)=cnt (ns.map (eP kl))from funext h.many,lE,rJ λx hx=>?_,YN];refine av (Yr.mp hx) ?_;rintro n hn(rfl);exact h.lt hn
theorem KL.poz(h:KL ns kl):∀c∈manyN kl ns,c≠0:=λc hc=>by refine av (Yr.mp hc) ?_;rintro k hk(rfl);refine av ((h.mem k).mp hk) λn hn e=>?_;intro z;have:=YQ.mp z;have hm:n∈ns.filter λn=>bH n==k:=Yt.mpr ⟨hn,by rw[e];exact beq_self_eq_true k⟩;rw[this]at hm;exact nomatch hm
theorem KL.ZaG(h:KL ns kl)(h7:ns.length=7):nK [.list (aD (manyN kl ns))]=Xd (.int ((wW kl.length 7 (cnt (ns.map (eP kl))):Nat):Int)):=by rw[Di (h.sum.trans h7) h.poz,lE,show iH (manyN kl ns)=cnt (ns.map (eP kl))from funext h.many]
theorem KL.place(h:KL ns kl)(h7:ns.length=7)(hp:ms.Perm ns):pz [.list (aD (ms.map (eP kl))),.list (aD (manyN kl ns))]=Xd (.int ((pl kl.length (ms.map (eP kl)) (cnt (ms.map (eP kl))):Nat):Int)):=by
 have:=sE (row:=ms.map (eP kl)) (by rw[lE];have:=h.len;exact aO 0x7a1101107a023 h7 this) (h.sum.trans h7) h.poz (by rw[YN,hp.length_eq,h7]) (λx hx=>by refine av (Yr.mp hx) ?_;rintro n hn(rfl);rw[lE];exact h.lt (hp.mem_iff.mp hn)) λv=>by rw[h.many v,Mp.jy (hp.map (eP kl))]
 rw[lE]at this;exact this
theorem Hu(h:KL ns kl)(hm:∀n∈ms,n∈ns)(hl:ms.length<=7)(h7:ns.length<=7):BG (ms.map cL) (kl.map kD)=Xd (.list (aD (ms.map (eP kl)))):=by unfold BG;rw[comp_map (λn hn=>by rw[yv,Iy (h.in_ (hm n hn)) (by have:=h.len;exact aO 0x64a1101107a013 h7 this)];rfl) (by exact aZ 0x3e88f0107a012 hl)];unfold aD;rw[YB];rfl
theorem len_list{l:List Dat}(h:l.length<=1000):lF [.list l]=Xd (.int (l.length:Int)):=by show(if l.length<=aS then Xd (Dat.int (l.length:Int))else Xe)=_;rw[Vh (by unfold aS;exact aZ 0xf42408f01000003e88f012 h)]
theorem LG(h7:ns.length<=7)(hk:kl.length<=7):(cb (Xd (.list (kl.map kD))) λk=>dI (mnE (ns.map cL) k))=Xd (.list (aD (manyN kl ns))):=by rw[comp_map (λk hk=>by unfold mnE;rw[AJ (λn hn=>by rw[yv,UU];rfl) (by exact aZ 0x3e88f0107a012 h7),eE,len_list (by rw[YN];have:=YO (λn=>bH n==k) ns;exact aO 0x3e88f1101107a013 h7 this),YN];rfl) (by exact aZ 0x3e88f0107a012 hk)];unfold aD manyN;rw[YB];rfl
theorem KI(h7:ns.length<=7):eF lS (cb (Xd (.list (ns.map cL))) λd=>bind1 (i8 0 d) λx=>dI (eF Fp (Xd x)))=Xd (.bytes (T (ns.map aT))):=by
 have Oj:∀n:Nat,(bind1 (i8 0 (cL n)) λx=>dI (eF Fp (Xd x)))=Xd (aD (aT n)):=λn=>by
  rw[yw];have hit:bP (.str (S (aT n)))=Xd ((aT n).map λc=>.str ⟨#[c]⟩):=by show(if(S (aT n)).cps.all (· <128)then Xd ((aT n).map λc=>Dat.str ⟨#[c]⟩)else Xe)=_;rw[Vh (by rw[<-Array.all_toList,Zw];exactλc hc=>Vb (jS n c hc))]
  show(bP (.str (S (aT n)))).bind _=_;rw[hit,Xh];generalize aT n=l;induction l with|nil=>rfl|cons c l ih=>show((dI (eF Fp (Xd (.str ⟨#[c]⟩)))).bind λbs=>(bN _ (l.map λc=>Dat.str ⟨#[c]⟩)).bind λcs=>Xd (bs++cs))=_;rw[ih];rfl
 have Ct:ns.flatMap (λn=>aD (aT n))=aD (ns.map aT).flatten:=by unfold aD;rw[List.map_flatten,YB,List.flatMap_def];rfl
 have IZ:fK (ns.map aT):=λc hc=>by refine av (Yr.mp hc) ?_;rintro n hn(rfl);exact text_len n
 have hlen:(aD (ns.map aT).flatten).length<=1000:=by rw[cz,tQ IZ,YN];exact aZ 0x3e88f00bd107a012 h7
 rw[tV (λn hn=>Oj n) (by rw[Ct];exact hlen),eE,Ct];have hi:∀l:List Nat,intsOf (aD l)=Xd (l.map λk:Nat=>(k:Int)):=by intro l;induction l with|nil=>rfl|cons i l ih=>show(intsOf (aD l)).map ((i:Int)::·)=_;rw[ih];rfl
 show(intsOf (aD (ns.map aT).flatten)).bind (λjs=>if(aD (ns.map aT).flatten).length<=aS/\∀j∈js,0<=j/\j<256 then Xd (Dat.bytes (js.map λj=>j.toNat.toUInt8))else Xe)=_;rw[hi,Xh,Vh ⟨Xy hlen (by decide),λj hj=>by refine av (Yr.mp hj) ?_;rintro k hk(rfl);refine av (List.mem_flatten.mp hk) λc hc Ma=>av (Yr.mp hc) ?_;rintro n hn(rfl);have:=jS n k Ma;exact aZ 0x1008f0af70af88480a002 this⟩,YB];refine Ve (λl=>Xd (Dat.bytes l)) ?_;unfold T B8;refine YD λk hk=>?_;show((k:Int).toNat).toUInt8=_;rw[Zz]
end
open Mine.Internal.Tx (Small full)
def wI(d:Dat):Prop:=(∃i,d=.int i)\/∃x,d=.str x/\V8 x=true
theorem pM:∀l:List Dat,(∀d∈l,wI d)->∃ps,eO l=Xd ps/\Wb ps=0/\V9 ps ps=true/\ps.isEmpty=l.isEmpty
 |[],h=>⟨[],rfl,rfl,rfl,rfl⟩
 |d::l,h=>by
  refine yY (pM l λx hx=>h x (Yv _ hx)) λps h1 h2 h3 h4=>Xa (h d Yu) (λy=>?_) λy=>?_
  ·refine aI y ?_;rintro i(rfl);refine⟨.int i::ps,by rw[Bp,h1];rfl,by rw[Wb,h2];rfl,?_,rfl⟩;rw[V9,h3,Bool.and_true,Wa];exact beq_self_eq_true i
  ·refine av y ?_;rintro x(rfl)hx;have e:mQ (.str x)=Xd (.str x):=Vh hx;refine⟨.str x::ps,by rw[Bp,h1,e],by rw[Wb,h2];rfl,?_,rfl⟩;rw[V9,h3,Bool.and_true,Wa];exact beq_self_eq_true x
theorem DJ{l:List Dat}(h:∀d∈l,wI d):dG .NotEq (Xd (.list l)) (Xd (.list l))=Xd false:=by
 refine yY (pM l h) λps h1 h2 h3 h4=>?_;show(mh (.list l) (.list l)).map (!·)=_;have e:mh (.list l) (.list l)=Xd true:=by
  have hd:(We.list ps).depth<=60:=by rw[We.depth,h2];decide
  delta mh;rw[zh,h1];exact(Vh ⟨hd,hd⟩).trans (Ve Xd (by rw[Wa];exact h3))
 rw[e];rfl
theorem ne_nil{l:List Dat}(h:∀d∈l,wI d):dG .NotEq (Xd (.list l)) (Xd (.list []))=Xd (!l.isEmpty):=by
 refine yY (pM l h) λps h1 h2 h3 h4=>?_;show(mh (.list l) (.list [])).map (!·)=_;have e:mh (.list l) (.list [])=Xd l.isEmpty:=by
  have hd:(We.list ps).depth<=60:=by rw[We.depth,h2];decide
  have hd2:(We.list []).depth<=60:=by rw[We.depth];decide
  have he:Wa (.list ps) (.list [])=l.isEmpty:=by rw[Wa,<-h4];rcases ps with _|⟨p,ps⟩<;>rfl
  delta mh;rw[zh,h1];exact(Vh ⟨hd,hd2⟩).trans (Ve Xd he)
 rw[e];rfl
theorem wZ{l:List Nat}(h:∀c∈l,c<128):V8 (S l)=true:=(Tx.ib _).mpr λc hc=>Xr (h c hc) (by decide)
theorem Zck(a b:List Nat):(S a==S b)=(a==b):=by
 rw[ZR,Vd,Vd];constructor
 ·intro e;have:=Ve (λt:VV=>t.cps.toList) e;exact this
 ·intro e;rw[e]
theorem D4{a b:List Nat}(ha:∀c∈a,c<128)(hb:∀c∈b,c<128):dG .Eq (Xd (.str (S a))) (Xd (.str (S b)))=Xd (a==b):=by rw[Ga (wZ ha) (wZ hb),Zck]
theorem DI{a b:List Nat}(ha:∀c∈a,c<128)(hb:∀c∈b,c<128):dG .NotEq (Xd (.str (S a))) (Xd (.str (S b)))=Xd (!(a==b)):=by have h:=D4 ha hb;show(Oy (.str (S a)) (.str (S b))).map (!·)=_;have e:Oy (.str (S a)) (.str (S b))=Xd (a==b):=h;rw[e];rfl
theorem fW(n:Nat):(b6 n).length<=22/\∀c∈b6 n,c<128:=by
 have h:(Yc 17).all (λkd=>(Yc 4).all λsc=>(Yc 2).all λze=>(Yc 13).all λso=>(qH kd sc ze so).all λc=>decide (c<128))=true:=by decide +kernel
 have hc:=C8 h (Xp n (show 0<17 by decide)) (Xp (n/17) (show 0<4 by decide)) (Xp (n/884) (show 0<2 by decide)) (Xp (n/68) (show 0<13 by decide));rw[Zw]at hc;have l9:=λc q=>U9 (hc c q);have hl:=AG n;have ha:=J8 n;unfold b6;by_cases hk:keeps n=true
 ·rw[Vh hk];unfold yc;refine⟨by simp only[YT,YK];unfold mU at *;exact bj 0x16a120bacc01bb120bac110ba013 hl ha,λc q=>?_⟩;refine Xa (Yz.mp q) (λq=>?_) λq=>?_
  ·refine Xa (Yz.mp q) (λq=>?_) (l9 c);rw[(Yk.mp q).2];exact Dt n
  ·rw[(Yk.mp q).2];exact Dt n
 ·rw[Vg hk];exact⟨by exact aZ 0x16a010ba012 hl,l9⟩
theorem xU{cs:List (List Nat)}(hl:cs.length<=7)(h:∀c∈cs,c.length<=22):ip (.str "-") [.list (cs.map λc=>.str (S c))]=Xd (.str (S (jn 45 cs))):=by
 have e:cs.map (λc=>Dat.str (S c))=(cs.map S).map .str:=by rw[YB];rfl
 rw[e];show(strsOf ((cs.map S).map .str)).bind (λys=>if(ys.map (·.length)).sum+ys.length*("-":VV).length<=16777216 then Xd (Dat.str (Txt.join "-" ys))else Xe)=_;rw[ia,Xh,Vh]
 ·refine Ve (λt=>Xd (Dat.str t)) (Tx.gN ?_);unfold Txt.join;rw[VS];have z:=Tx.join_list 45 (cs.map S);rw[YB]at z;have e2:((λt:VV=>t.cps.toList)∘S)=id:=by funext l;rfl
  rw[show((λx:VV=>x.cps.toList)∘S)=id from e2,List.map_id]at z;exact z
 ·have hs:((cs.map S).map (·.length)).sum<=cs.length*22:=by clear hl e;induction cs with|nil=>exact Xk _|cons c cs ih=>rw[YC,YC,XR,pD,YS];have h1:=h c Yu;have h2:=ih λx hx=>h x (Yv _ hx);exact bj 0x92b16e10b1216e1116a013 h1 h2
  have h1:("-":VV).length=1:=by rfl
  rw[h1,YN];exact aO 0x10000008f001e1b1016e1107a013 hl hs
def Ja(ms:List Nat):Bool:=match ms with
 |n::_=>decide (0<Be n)||(b6 n).isEmpty|[]=>false
def gT(ms:List Nat):List (List Nat):=iy (ms.map qa)
def kN(ms:List Nat):List Nat:=if !(gT ms).isEmpty&&Ja ms then 45::jn 45 (gT ms)else jn 45 (gT ms)
theorem Mc{n m:Nat}{ms:List Nat}:(jn 45 ((n::m::ms).map λk=>nA (qa k))).head?.any eJ=Ja (n::m::ms):=by
 show(nA (qa n)++45::_).head?.any eJ=(decide (0<Be n)||(b6 n).isEmpty);show((X0 (Be n) 45++b6 n++X0 (LR n) 45)++45::_).head?.any eJ=_;have hc:=(mi n).hd;rcases Be n with _|a
 ·rw[XY,Yh];rcases hcf:b6 n with _|⟨c,r⟩
  ·rcases LR n with _|b<;>rfl
  ·rw[hcf]at hc;exact hc
 ·rfl
theorem LD{ms:List Nat}(h2:2<=ms.length):cR (sq (jn 45 (ms.map λk=>nA (qa k))))=kN ms:=by
 have hd:dd (jn 45 (ms.map λk=>nA (qa k)))=jn 45 (gT ms):=by
  have:=MK (ms.map qa) λz hz=>by refine av (Yr.mp hz) ?_;rintro n hn(rfl);exact mi n
  rw[YB]at this;exact this
 rcases ms with _|⟨n,_|⟨m,ms⟩⟩
 ·exact absurd h2 (by decide)
 ·exact absurd h2 (by simp)
 have hh:=Mc (n:=n) (m:=m) (ms:=ms);have jI:∀l,l∈gT (n::m::ms)->l≠[]:=λl hl e=>by have:=(Yt.mp hl).2;rw[e]at this;exact ZO this
 unfold kN;cases hf:Ja (n::m::ms)with
 |false=>rw[hf]at hh;rw[S9 hh,hd,ZT,Vg ZP]
 |true=>
  rw[hf]at hh;generalize jn 45 ((n::m::ms).map λk=>nA (qa k))=l at *;rcases l with _|⟨c,l⟩
  ·exact ZO hh
  have hc:=beq_iff_eq.mp hh;subst hc;rw[Ta,<-OB,hd,Bool.and_true];rcases Me:gT (n::m::ms)with _|⟨x,xs⟩
  ·exact Vh rfl
  ·rw[Me]at jI;rw[Vg (NX (by exactλq=>nomatch q) jI)];exact(Vh rfl).symm
theorem qp{ms:List Nat}(hl:ms.length<=7):Small (("":VV)::ms.map λn=>S (aT n)):=by
 refine⟨by rw[YS,YN];exact aZ 0xc8a90b107a012 hl,λy hy=>?_⟩;refine Xa (Yw.mp hy) (λe=>?_) λe=>?_
 ·subst e;exact⟨by decide,λc hc=>nomatch hc⟩
 ·refine av (Yr.mp e) ?_;rintro n hn(rfl);exact⟨by rw[pD,text_len];decide,jS n⟩
theorem DA{ms:List Nat}(h2:2<=ms.length)(hl:ms.length<=7)(hn:∀n∈ms,n<275808):Lp (("":VV)::ms.map λn=>S (aT n))=Xd (S (kN ms)):=by
 rw[Tx.rC (qp hl)];have hf:full (("":VV)::ms.map λn=>S (aT n))=ms.map λn=>S (aT n):=by show((("":VV)::ms.map λn=>S (aT n)).filter λy=>y.length !=0)=_;rw[Zi];refine(Vg (by decide)).trans (List.filter_eq_self.mpr λy hy=>av (Yr.mp hy) ?_);rintro n hn(rfl);rw[pD,text_len];rfl
 have hk:(ms.map λn=>S (aT n)).map kept=ms.map λk=>nA (qa k):=by rw[YB];exact YD λn h=>sW (hn n h)
 rw[hf,hk,LD h2]
theorem KA{ms:List Nat}(h2:2<=ms.length)(hl:ms.length<=7)(hn:∀n∈ms,n<275808):OC kM [.str (S (kN ms))]=Xd (.list (ms.flatMap λn=>gR (bH n))):=by
 have e0:toks kM (kept "")=[]/\dp (kept "")=true:=by
  have:kept ""=[]:=by decide +kernel
  rw[this];exact⟨Tx.hH,Tx.gW⟩
 refine av (Tx.Dk (stg:=kM) (qp hl) λy hy=>?_) λv h1 h3=>?_
 ·refine Xa (Yw.mp hy) (λe=>?_) λe=>?_
  ·subst e;exact e0.2
  ·refine av (Yr.mp e) ?_;rintro n h(rfl);exact(gX (hn n h)).2
 ·rw[DA h2 hl hn]at h1;obtain rfl:=Xc h1;rw[h3,Zg,e0.1,Yh,List.flatMap_map];refine Ve (λl=>Xd (Dat.list l)) ?_;clear h1 h3 h2 hl;induction ms with|nil=>rfl|cons n ms ih=>rw[Zg,Zg,(gX (hn n Yu)).1,ih λm hm=>hn m (Yv _ hm)]
theorem G3{n:Nat}(hn:n<275808):cP (OC kM) (cP NJ (Xd (.str (S (aT n)))))=Xd (.list (gR (bH n))):=by
 have hs:Small [S (aT n)]:=⟨by show 1<=200;decide,λy hy=>by rw[Yi.mp hy];exact⟨by rw[pD,text_len];decide,jS n⟩⟩;refine av (Tx.Dk (stg:=kM) hs λy hy=>by rw[Yi.mp hy];exact(gX hn).2) λv h1 h3=>?_;have e1:NJ [.str (S (aT n))]=Xd (.str v):=by show(strsOf [.str (S (aT n))]).bind (λys=>(Lp ys).map Dat.str)=_;rw[show strsOf [.str (S (aT n))]=Xd [S (aT n)]from rfl,Xh,h1];rfl
 rw[cS,e1,cS,h3,Zg,List.flatMap_nil,Zu,(gX hn).1]
theorem Ia(ms:List Nat):∀c∈kN ms,c<128:=λc hc=>by
 have hj:∀c∈jn 45 (gT ms),c<128:=λc hc=>by refine Xa (Tx.Cd 45 _ c hc) (λe=>by rw[e];decide) λy=>av y λa ha hca=>av (Yr.mp (Yt.mp ha).1) ?_;rintro z hz(rfl);refine av (Yr.mp hz) ?_;rintro n hn(rfl);exact(fW n).2 c hca
 unfold kN at hc;split at hc
 ·refine Xa (Yw.mp hc) (λe=>by rw[e];decide) (hj c)
 ·exact hj c hc
def lq:List VW:=fk pw 16
def lZ:V5:=dW pw 16
noncomputable def Kx:VW->List Expr| .Try [.Expr (.Call _ es _ _) _] _ _ _ _=>es|_=>[]
def rfM:nu:=Sp Ey "_byteswap" (Kx (aw lq 0)) (λds=>(gI ds).isSome=true) (λds=>(gV ds).isSome=true) "IndexError" "ValueError"
noncomputable def ΨR:yT:=lg [(aw lq 0,rfM)]
noncomputable def Rm:List Dat->Option Dat:=ph Ey ΨR lZ lq ["octets","width"]
theorem K6:lq=[aw lq 0,aw lq 1]:=by rfl
theorem Hw{b:List UInt8}{w:Int}:rfM lZ (bq ["octets","width"] [.bytes b,.int w])=(if(gI [.bytes b,.int w]).isSome=true then Xd (.ret (.str "IndexError"))else if(gV [.bytes b,.int w]).isSome=true then Xd (.ret (.str "ValueError"))else Xe):=by rfl
theorem Hx{b:List UInt8}{w:Int}{d:Dat}(h:rfM lZ (bq ["octets","width"] [.bytes b,.int w])=Xd (.ret d)):Rm [.bytes b,.int w]=Xd d:=by refine iO rfl ?_;rw[K6];exact ed (cI ((cW (by rfl)).trans h)) (λv q=>by rcases q with⟨⟩)
theorem Zb5{b:List UInt8}:gV [.bytes b,.int 0]=if(0:Int)=0/\b.length<=aS then Xd .none else Xe:=by rfl
theorem UQ{b:List UInt8}{w:Int}:gI [.bytes b,.int w]=if w=11/\b.length=76 then Xd .none else Xe:=by rfl
theorem Za8{b:List UInt8}(h:b.length<=aS):Rm [.bytes b,.int 0]=Xd (.str "ValueError"):=by
 refine Hx (Hw.trans ?_);have h1:gI [.bytes b,.int 0]=Xe:=by rw[UQ,Vg (λq=>absurd q.1 (by decide))]
 have h2:gV [.bytes b,.int 0]=Xd .none:=by rw[Zb5,Vh ⟨rfl,h⟩]
 rw[h1,h2];rfl
theorem Sn{b:List UInt8}(h:b.length=76):Rm [.bytes b,.int 11]=Xd (.str "IndexError"):=by
 refine Hx (Hw.trans ?_);have h1:gI [.bytes b,.int 11]=Xd .none:=by rw[UQ,Vh ⟨rfl,h⟩]
 rw[h1];rfl
noncomputable def GC(aV:W8):Gs:={gc:=OC kM,gp:=NJ,gb:=M7,gd:=yq aV,gk:=jq,ge:=ccF,gt:=lb,gl:=xP,gw:=nK,gq:=pz,gr:=Rm}
structure Gx (ns:List Nat) (kl:List (List Nat)) (P:LP) (f:Nat->Nat):Prop where
 cs:P.cs=ns.map cL
 ky:P.ky=kl.map kD
 mn:P.mn=aD (manyN kl ns)
 tb:∀n∈ns,f n∈ns/\aT (f n)=aT n/\ej P.tb (.str (S (aT n)))=Xd (cL (f n))
 kl:KL ns kl
 len:ns.length=7
 dr:∀n∈ns,n<275808
section
variable {ns ms:List Nat} {kl:List (List Nat)} {P:LP} {f:Nat->Nat} {aV:W8}
theorem Gx.same(h:Gx ns kl P f){n:Nat}(hn:n∈ns):bH (f n)=bH n/\b6 (f n)=b6 n/\(b6 n≠[]->oi (f n)=oi n):=by have hf:=h.tb n hn;have:=p9 (h.dr n hn) (h.dr _ hf.1) hf.2.1.symm;exact⟨this.1.symm,this.2.1.symm,λq=>(this.2.2 q).symm⟩
def rX(ms:List Nat):List Dat:=ms.map λn=>.str (S (aT n))
def uE(f:Nat->Nat)(ms:List Nat):List Dat:=(ms.map f).map cL
def Bi(ms:List Nat):List Dat:=(gT ms).map λc=>.str (S c)
def GI(ms:List Nat):List Dat:=ms.flatMap λn=>gR (bH n)
def fy(ms:List Nat):List UInt8:=T (ms.map aT)
theorem pV(ms:List Nat):fK (ms.map aT):=λc hc=>by refine av (Yr.mp hc) ?_;rintro n hn(rfl);exact text_len n
theorem G6(hl:ms.length<=7):lb [.bytes (fy ms)]=Xd (.list (rX ms)):=by unfold fy T;rw[zj (pV ms) (by rw[YN];exact hl) (λc hc=>by refine av (Yr.mp hc) ?_;rintro n hn(rfl);exact jS n),YB];rfl
theorem vX{us:List (List Nat)}(h:∀u∈us,∀c∈u,c<128):∀d∈us.map (λt=>Dat.str (S t)),wI d:=λd hd=>by refine av (Yr.mp hd) ?_;rintro u hu(rfl);exact .inr ⟨_,rfl,wZ (h u hu)⟩
theorem KV(h:Gx ns kl P f)(hp:ms.Perm ns):dG .NotEq (eF fB (Xd (.list (rX ms)))) (eF fB (cb (Xd (.list P.cs)) λd=>dI (i8 0 d)))=Xd false:=by
 have e2:(cb (Xd (.list P.cs)) λd=>dI (i8 0 d))=Xd (.list (rX ns)):=by rw[h.cs];exact comp_map (λn hn=>by rw[yw];rfl) (by have:=h.len;exact aZ 0x3e88f0107a022 this)
 refine dE (w4 (hp.map aT) (by rw[YN,h.len];decide)) λus h1 h2 h3=>?_;have t1:rX ms=(ms.map aT).map λt=>.str (S t):=by unfold rX;rw[YB];rfl
 have t2:rX ns=(ns.map aT).map λt=>.str (S t):=by unfold rX;rw[YB];rfl
 rw[e2,eE,eE,t1,t2,h2,h3];refine DJ (vX λu hu=>?_);refine av (Yr.mp (h1.mem_iff.mp hu)) ?_;rintro n hn(rfl);exact jS n
theorem Hk(h:Gx ns kl P f)(hp:ms.Perm ns):(cb (Xd (.list (rX ms))) λt=>dI (cB (Xd P.tb) (Xd t)))=Xd (.list (uE f ms)):=by unfold uE;rw[YB];exact comp_map (λn hn=>by rw[o9,(h.tb n (hp.mem_iff.mp hn)).2.2];rfl) (by rw[hp.length_eq,h.len];decide)
theorem Pb(h:Gx ns kl P f)(hp:ms.Perm ns):BG (uE f ms) P.ky=Xd (.list (aD (ms.map (eP kl)))):=by have hl:=hp.length_eq.trans h.len;unfold uE;rw[h.ky,Hu h.kl (λn hn=>by refine av (Yr.mp hn) ?_;rintro m hm(rfl);exact(h.tb m (hp.mem_iff.mp hm)).1) (by rw[YN];exact aZ 0x7a0107a022 hl) (by have:=h.len;exact aZ 0x7a0107a022 this),YB];refine Ve (λl=>Xd (Dat.list (aD l))) (YD λn hn=>?_);show eP kl (f n)=eP kl n;unfold eP;rw[(h.same (hp.mem_iff.mp hn)).1]
def yN(kl:List (List Nat))(ms:List Nat):Nat:=pl kl.length (ms.map (eP kl)) (cnt (ms.map (eP kl)))
def Df(kl:List (List Nat))(ns:List Nat):Nat:=wW kl.length 7 (cnt (ns.map (eP kl)))
theorem HD(h:Gx ns kl P f)(hp:ms.Perm ns){a st:Int}(hw:0<Df kl ns)(he:(yN kl ms:Int)=(a+st).fmod (Df kl ns)):dG .NotEq (fZ pz (BG (uE f ms) P.ky) (Xd (.list P.mn))) (bQ .Mod (bQ .Add (Xd (.int a)) (Xd (.int st))) (cP nK (Xd (.list P.mn))))=Xd false:=by rw[Pb h hp,h.mn,eD,h.kl.place h.len hp,cS,h.kl.ZaG h.len,b7,oU,b7,oT (by unfold Df at hw;exact aZ 0x80af930802 hw)];show(mh (.int (yN kl ms:Int)) (.int ((a+st).fmod (Df kl ns)))).map (!·)=_;rw[<-he,Mw,beq_self_eq_true];rfl
theorem JC(h:Gx ns kl P f)(hp:ms.Perm ns):(cb (Xd (.list (uE f ms))) λd=>wR (dG .NotEq (i8 3 d) (Xd (.str ""))) (dI (i8 3 d)))=Xd (.list (Bi ms)):=by have hl:=hp.length_eq.trans h.len;unfold uE;rw[show(ms.map f).map cL=ms.map λn=>cL (f n)from YB ..,AJ (h:=λn=>.str (S (b6 n))) (p:=λn=> !(b6 n).isEmpty) (λn hn=>by rw[JO,(h.same (hp.mem_iff.mp hn)).2.1,show("":VV)=S []from rfl,DI (b:=[]) (fW n).2 (λc q=>nomatch q)];rcases b6 n with _|⟨c,r⟩<;>rfl) (by exact aZ 0x3e88f0107a022 hl)];refine Ve (λl=>Xd (Dat.list l)) ?_;unfold Bi gT iy;rw[YB,List.filter_map,YB];rfl
theorem Ip(n:Nat):∀k∈bH n,k<15:=λk hk=>by have hK:=all2 DO (Xp n (show 0<17 by decide)) (Xp (n/17) (show 0<4 by decide));rw[ZV,Zw]at hK;exact U9 (hK.2 k hk)
theorem PN(n:Nat):(bH n).length<=2:=by
 have h:(Yc 17).all (λa=>(Yc 4).all λb=>decide ((eV a b).length<=2))=true:=by decide +kernel
 exact U9 (all2 h (Xp n (show 0<17 by decide)) (Xp (n/17) (show 0<4 by decide)))
theorem MH(n:Nat):(gR (bH n)).length<=4:=by
 have h:=PN n;unfold gR;generalize bH n=l at *;rcases l with _|⟨a,_|⟨b,_|⟨c,l⟩⟩⟩
 ·decide
 ·exact(show 2<=4 by decide)
 ·exact(show 4<=4 by decide)
 ·simp at h
theorem MG(n:Nat):(bind1 (i8 1 (cL n)) λk=>bind1 (cP jq (Xd k)) λx=>dI (Xd x))=Xd (gR (bH n)):=by rw[yv];show bN (λk=>bind1 (cP jq (Xd k)) λx=>dI (Xd x)) (aD (bH n))=_;have hk:=Ip n;unfold gR;generalize bH n=l at *;induction l with|nil=>rfl|cons k l ih=>show((bind1 (cP jq (Xd (.int (k:Int)))) λx=>dI (Xd x)).bind λbs=>(bN (λk=>bind1 (cP jq (Xd k)) λx=>dI (Xd x)) (aD l)).bind λcs=>Xd (bs++cs))=_;rw[ih λj hj=>hk j (Yv _ hj),cS,l4 (hk k Yu)];rfl
theorem Qz(h:Gx ns kl P f)(hp:ms.Perm ns):(cb (Xd (.list (uE f ms))) λd=>bind1 (i8 1 d) λk=>bind1 (cP jq (Xd k)) λx=>dI (Xd x))=Xd (.list (GI ms)):=by
 have hl:=hp.length_eq.trans h.len;unfold uE;rw[YB];refine tV (c:=λn=>cL (f n)) (λn hn=>?_) ?_
 ·rw[MG (f n),(h.same (hp.mem_iff.mp hn)).1]
 ·have:∀l:List Nat,(l.flatMap λn=>gR (bH n)).length<=4*l.length:=by intro l;induction l with|nil=>exact Xz _|cons a l ih=>rw[Zg,YT,YS];have:=MH a;exact bj 0x91b04d02b104a21104d013 ih this
  have:=this ms;exact aO 0x3e88f11004d1107a023 hl this
theorem Jl(ms:List Nat):∀d∈GI ms,wI d:=λd hd=>by
 have hp:(Yc 15).all (λp=>(vE p).all λd=>match d with| .int i=>true| .str x=>V8 x|_=>false)=true:=by decide +kernel
 refine av (List.mem_flatMap.mp hd) λn hn hd=>av (List.mem_flatMap.mp hd) λk hk hd=>?_;have:=Zw.mp (Zw.mp hp k (Yl.mpr (Ip n k hk))) d hd;cases d with|int i=>exact .inl ⟨i,rfl⟩|str x=>exact .inr ⟨x,rfl,this⟩|_=>exact ZO this
theorem JE(ms:List Nat):∀d∈Bi ms,wI d:=vX λu hu=>by refine av (Yr.mp (Yt.mp hu).1) ?_;rintro z hz(rfl);refine av (Yr.mp hz) ?_;rintro n hn(rfl);exact(fW n).2
theorem Ea(ms:List Nat):(gT ms).length<=ms.length:=by unfold gT iy;refine Xy (YO _ _) ?_;rw[YN,YN];exact Xz _
theorem join_eq(hl:ms.length<=7):ip (.str "-") [.list (Bi ms)]=Xd (.str (S (jn 45 (gT ms)))):=xU (Xy (Ea ms) hl) λc hc=>by refine av (Yr.mp (Yt.mp hc).1) ?_;rintro z hz(rfl);refine av (Yr.mp hz) ?_;rintro n hn(rfl);exact(fW n).1
end
section
variable {ns ms:List Nat} {kl:List (List Nat)} {P:LP} {f:Nat->Nat} {aV:W8} {J:Option TJ} {st:Int}
theorem ZaC:(GC aV).gc=OC kM:=rfl
theorem ZaA:(GC aV).gp=NJ:=rfl
theorem Zco:(GC aV).gt=lb:=rfl
theorem Zcq:(GC aV).gk=jq:=rfl
theorem Zaz:(GC aV).gq=pz:=rfl
theorem Zcn:(GC aV).gw=nK:=rfl
theorem Nm{Φ:fO}{sc:V5}{V:ax}{a b:Expr}{x:Bool}{y:Option Bool}(h1:dT Φ sc a V (ev Φ sc a V)=Xd x)(h2:dT Φ sc b V (ev Φ sc b V)=y):fu Φ sc .And [a,b] V=if x then(y.bind λc=>bM (fL .And c) (Xd c) (Xd true))else Xd false:=by show((dT Φ sc a V (ev Φ sc a V)).bind λc=>bM (fL .And c) (Xd c) ((dT Φ sc b V (ev Φ sc b V)).bind λc=>bM (fL .And c) (Xd c) (Xd true)))=_;rw[h1,h2];cases x<;>rfl
theorem HX{Φ:fO}{sc:V5}{V:ax}{a b:Expr}{x y:Bool}(h1:dT Φ sc a V (ev Φ sc a V)=Xd x)(h2:dT Φ sc b V (ev Φ sc b V)=Xd y):fu Φ sc .Or [a,b] V=Xd (x||y):=by show((dT Φ sc a V (ev Φ sc a V)).bind λc=>bM (fL .Or c) (Xd c) ((dT Φ sc b V (ev Φ sc b V)).bind λc=>bM (fL .Or c) (Xd c) (Xd false)))=_;rw[h1,h2];cases x<;>cases y<;>rfl
def UW(f:Nat->Nat)(ms:List Nat):TJ:=⟨rX ms,uE f ms,Bi ms,GI ms,.str (S (kN ms)),.str (S (kN ms))⟩
theorem Fw(h:Gx ns kl P f)(hp:ms.Perm ns){le:List UInt8}:∃V',ex (dZ (GC aV)) (wK (GC aV)) ay (.If (aX (wS 7)) (bA (wS 7)) [] (ek (wS 7))) (Y5 P J le st (rX ms) (uE f ms) (Bi ms) (GI ms) (.str (S (jn 45 (gT ms)))))=Xd (.next V')/\bR V' (Y5 P J le st (rX ms) (uE f ms) (Bi ms) (GI ms) (.str (S (kN ms)))):=by
 have hl:=hp.length_eq.trans h.len;rcases ms with _|⟨n0,ms⟩
 ·exact nomatch hl
 have hn0:=hp.mem_iff.mp (Yu);have hs:=h.same hn0;have hx:=ZaM (G:=GC aV) (P:=P) (J:=J) (le:=le) (st:=st) (tx:=rX (n0::ms)) (sd:=uE f (n0::ms)) (cr:=Bi (n0::ms)) (du:=GI (n0::ms)) (nm:=.str (S (jn 45 (gT (n0::ms)))));rw[ne_nil (JE (n0::ms))]at hx;have hsd:cB (Xd (.list (uE f (n0::ms)))) (Xd (.int 0))=Xd (cL (f n0)):=ji rfl (by unfold uE;rw[YN,YN];exact aZ 0x3e88f0107a022 hl);have ha:=ZaR (G:=GC aV) (P:=P) (J:=J) (le:=le) (st:=st) (tx:=rX (n0::ms)) (sd:=uE f (n0::ms)) (cr:=Bi (n0::ms)) (du:=GI (n0::ms)) (nm:=.str (S (jn 45 (gT (n0::ms)))));rw[hsd,QI]at ha;have hb:=ZaQ (G:=GC aV) (P:=P) (J:=J) (le:=le) (st:=st) (tx:=rX (n0::ms)) (sd:=uE f (n0::ms)) (cr:=Bi (n0::ms)) (du:=GI (n0::ms)) (nm:=.str (S (jn 45 (gT (n0::ms)))));rw[hsd,show cB (Xd (cL (f n0))) (Xd (.int 3))=Xd (.str (S (b6 (f n0))))from JO (f n0),show("":VV)=S []from rfl,D4 (b:=[]) (fW (f n0)).2 (λc q=>nomatch q)]at hb;have hy:=(ZaL).trans (HX ha hb);have ht:=(ZaN).trans (Nm hx hy);have ZbU:(oi (f n0)||(b6 (f n0)==[]))=Ja (n0::ms):=by
  show _=(decide (0<Be n0)||(b6 n0).isEmpty);rw[hs.2.1];rcases hc:b6 n0 with _|⟨c,r⟩
  ·rw[show(([]:List Nat)==[])=true from rfl,Bool.or_true,show([]:List Nat).isEmpty=true from rfl,Bool.or_true]
  ·rw[hs.2.2 (by rw[hc];exactλq=>nomatch q),xQ];rfl
 rw[ZbU]at ht;have hcr:(Bi (n0::ms)).isEmpty=(gT (n0::ms)).isEmpty:=by unfold Bi;rcases gT (n0::ms)with _|⟨a,l⟩<;>rfl
 rw[hcr]at ht;unfold kN;cases hc:(gT (n0::ms)).isEmpty with
 |true=>rw[hc]at ht;refine⟨_,(fH (cO ht)).trans dJ,?_⟩;exact .refl _
 |false=>
  rw[hc]at ht;cases hf:Ja (n0::ms)with
  |false=>rw[hf]at ht;refine⟨_,(fH (cO ht)).trans dJ,?_⟩;exact .refl _
  |true=>
   rw[hf]at ht;have Zb1:bQ .Add (Xd (.str "-")) (Xd (.str (S (jn 45 (gT (n0::ms))))))=Xd (.str (S (45::jn 45 (gT (n0::ms))))):=by
    have hj:(jn 45 (gT (n0::ms))).length<=900:=by
     have h1:=Tx.Cf 45 (gT (n0::ms));have h2:=Ea (n0::ms);have h3:=Tx.Br ((gT (n0::ms)).map (·.length)) λx hx=>by refine av (Yr.mp hx) ?_;rintro c hc(rfl);refine av (Yr.mp (Yt.mp hc).1) ?_;rintro z hz(rfl);refine av (Yr.mp hz) ?_;rintro n hn(rfl);exact(fW n).1
     rw[YN]at h3;exact eg 0x3848f11316e2103132b1107a025 rfl hl h1 h2 h3
    exact Q6 (a:=[45]) (by simp only[YI];exact aZ 0x3e88f09b1000003848f012 hj)
   refine⟨_,(fH (cO ht)).trans (by rw[Vh (by rfl),ZaP];exact(aF (aN rfl (jB ZaO Zb1 rfl))).trans dJ),?_⟩;exact bR.gz (by rcases J with⟨⟩<;>rfl)
theorem GZ(h:Gx ns kl P f)(hp:ms.Perm ns)(hw:0<Df kl ns)(he:(yN kl ms:Int)=(P.pl+st).fmod (Df kl ns)):∃W',cn (dZ (GC aV)) (wK (GC aV)) ay qi (Y0 P J (fy ms) st)=Xd (.next W')/\bR W' (Y0 P (Xd (UW f ms)) (fy ms) st):=by
 have hl:=hp.length_eq.trans h.len;have Ux:=λn hn=>h.dr n (hp.mem_iff.mp hn);rw[OW];refine av (Fw (aV:=aV) (J:=J) (st:=st) (le:=fy ms) h hp) λV7 g1 g2=>?_;have first:cn (dZ (GC aV)) (wK (GC aV)) ay [wS 0,.If (aX (wS 1)) (bA (wS 1)) [] (ek (wS 1)),wS 2,.If (aX (wS 3)) (bA (wS 3)) [] (ek (wS 3)),wS 4,wS 5,wS 6,.If (aX (wS 7)) (bA (wS 7)) [] (ek (wS 7)),wS 8,.If (aX (wS 9)) (bA (wS 9)) [] (ek (wS 9))] (Y0 P J (fy ms) st)=cn (dZ (GC aV)) (wK (GC aV)) ay [wS 8,.If (aX (wS 9)) (bA (wS 9)) [] (ek (wS 9))] V7:=by refine(aF (aN rfl (jB w_0 (by rw[Zco,cS];exact G6 (aZ 0x7a0107a022 hl)) rfl))).trans ((aF (aN rfl ((fH (cO (ZaX.trans (KV h hp)))).trans dJ))).trans (dB "stand" (ZaW.trans (Hk h hp)) rfl rfl ((aF (aN rfl ((fH (cO (ZaV.trans (by rw[Zaz,Zcn];exact HD h hp hw he)))).trans dJ))).trans (dB "cores" (ZaU.trans (JC h hp)) rfl rfl (dB "due" (ZaT.trans (by rw[Zcq];exact Qz h hp)) rfl rfl (dB "name" (ZaS.trans (join_eq (aZ 0x7a0107a022 hl))) rfl rfl (aF (aN rfl g1))))))))
 have Uc:Hj NJ (.str "") (rX ms)=Xd (.str (S (kN ms))):=by
  unfold Hj;rw[Vh (by unfold rX;rw[YN];unfold aS;exact aZ 0xf42408f0107a022 hl),Xh];show NJ (.str ""::(rX ms++[]))=_;have e:(.str ""::(rX ms++[]):List Dat)=((("":VV)::ms.map λn=>S (aT n)).map .str):=by unfold rX;rw[Zu,YC,YB];rfl
  rw[e];show(strsOf _).bind (λys=>(Lp ys).map Dat.str)=_;rw[ia,Xh,DA (by exact aZ 0x2a107a022 hl) (by exact aZ 0x7a0107a022 hl) Ux];rfl
 have gJ:cn (dZ (GC aV)) (wK (GC aV)) ay [wS 8,.If (aX (wS 9)) (bA (wS 9)) [] (ek (wS 9))] (Y5 P J (fy ms) st (rX ms) (uE f ms) (Bi ms) (GI ms) (.str (S (kN ms))))=Xd (.next (Y6 P J (fy ms) st (rX ms) (uE f ms) (Bi ms) (GI ms) (.str (S (kN ms))) (.str (S (kN ms))))):=by refine dB "told" (ZaK.trans (by rw[ZaA];exact Uc)) rfl rfl ?_;have hx:=ZaI (G:=GC aV) (P:=P) (J:=J) (le:=fy ms) (st:=st) (tx:=rX ms) (sd:=uE f ms) (cr:=Bi ms) (du:=GI ms) (nm:=.str (S (kN ms))) (td:=.str (S (kN ms)));rw[DI (Ia ms) (Ia ms),beq_self_eq_true]at hx;have hy:=ZaH (G:=GC aV) (P:=P) (J:=J) (le:=fy ms) (st:=st) (tx:=rX ms) (sd:=uE f ms) (cr:=Bi ms) (du:=GI ms) (nm:=.str (S (kN ms))) (td:=.str (S (kN ms)));rw[ZaC,cS,KA (by exact aZ 0x2a107a022 hl) (by exact aZ 0x7a0107a022 hl) Ux]at hy;replace hy:=hy.trans (DJ (Jl ms));have ht:=(ZaJ).trans (HX hx hy);exact(aF (aN rfl ((fH (cO ht)).trans dJ))).trans dJ
 refine av (ju rO g2 gJ) λW' k1 k2=>⟨W',first.trans k1,k2.trans ?_⟩;exact bR.gz (by rcases J with⟨⟩<;>rfl)
end
section
variable {ns ms:List Nat} {kl:List (List Nat)} {P:LP} {f:Nat->Nat} {aV:W8}
def zN(ns:List Nat)(c:List Nat):Nat:=(ns.find? λn=>aT n==c).getD 0
theorem rt{n:Nat}(hn:n∈ns):zN ns (aT n)∈ns/\aT (zN ns (aT n))=aT n:=by
 unfold zN;rcases e:ns.find? (λm=>aT m==aT n)with _|m
 ·have:=List.find?_eq_none.mp e n hn;exact absurd (beq_self_eq_true _) this
 ·exact⟨Yp e,beq_iff_eq.mp (List.find?_some (p:=λm=>aT m==aT n) e)⟩
def G8(ns:List Nat):Dat:=dictOf (ns.map λn=>(S (aT n),cL n))
def xg(ns:List Nat):Dat:=dictOf (ns.map λn=>(S (aT n),.list (gR (bH n))))
theorem OM{a b:List Nat}(h:S a=S b):a=b:=Ve (λt:VV=>t.cps.toList) h
theorem G7{n:Nat}(hn:n∈ns):∃m∈ns,aT m=aT n/\ej (G8 ns) (.str (S (aT n)))=Xd (cL m):=by refine av (wh (qs:=ns.map λn=>(S (aT n),cL n)) (by rw[YB];exact Yr.mpr ⟨n,hn,rfl⟩)) λd h1 h2=>av (Yr.mp h1) λm hm e=>⟨m,hm,OM (Ve Prod.fst e),?_⟩;have:=Ve Prod.snd e;have e2:cL m=d:=this;rw[e2];exact h2
theorem Hv{n:Nat}(hn:n∈ns):∃m∈ns,aT m=aT n/\ej (xg ns) (.str (S (aT n)))=Xd (.list (gR (bH m))):=by refine av (wh (qs:=ns.map λn=>(S (aT n),Dat.list (gR (bH n)))) (by rw[YB];exact Yr.mpr ⟨n,hn,rfl⟩)) λd h1 h2=>av (Yr.mp h1) λm hm e=>⟨m,hm,OM (Ve Prod.fst e),?_⟩;have e2:Dat.list (gR (bH m))=d:=Ve Prod.snd e;rw[e2];exact h2
def sz(ns:List Nat)(kl:List (List Nat))(c:List Nat):Nat:=eP kl (zN ns c)
theorem BI(hd:∀n∈ns,n<275808){n:Nat}(hn:n∈ns):sz ns kl (aT n)=eP kl n:=by have h:=rt hn;unfold sz eP;rw[(p9 (hd _ h.1) (hd n hn) h.2).1]
theorem O2(hd:∀n∈ns,n<275808)(h7:ns.length=7)(hk:KL ns kl):Nq (xg ns) (λc=>gR (bH (zN ns c))) (sz ns kl) (ns.map aT):=by
 refine⟨pV ns,by rw[YN,h7],λc hc=>?_,λc hc=>?_,λc hc c' l9=>?_⟩
 ·refine av (Yr.mp hc) ?_;rintro n hn(rfl);exact jS n
 ·refine av (Yr.mp hc) ?_;rintro n hn(rfl);refine dE (Hv hn) λm hm e h=>?_;have hp:=rt hn;rw[h,(p9 (hd m hm) (hd _ hp.1) (e.trans hp.2.symm)).1]
 ·refine av (Yr.mp hc) ?_;rintro n hn(rfl);refine av (Yr.mp l9) ?_;rintro m hm(rfl);rw[(xS _ _).2.1];exact Ve Xd (decide_eq_decide.mpr (hk.ord (rt hn).1 (rt hm).1))
theorem HP{α β:Type}{g:α->β}:∀{l l':List β},l.Perm l'->∀ns:List α,l'=ns.map g->∃ms:List α,ms.Perm ns/\l=ms.map g:=by
 intro l l' h;induction h with
 |nil=>exactλns e=>⟨ns,.refl _,e⟩
 |cons x h ih=>
  intro ns e;rcases ns with _|⟨n,ns⟩
  ·exact nomatch e
  ·rw[YC,List.cons.injEq]at e;refine av (ih ns e.2) λms h1 h2=>⟨n::ms,h1.cons n,by rw[YC,<-h2,e.1]⟩
 |swap x y l=>
  intro ns e;rcases ns with _|⟨n,_|⟨m,ns⟩⟩
  ·exact nomatch e
  ·exact nomatch(List.cons.inj e).2
  ·rw[YC,YC,List.cons.injEq,List.cons.injEq]at e;exact⟨m::n::ns,List.Perm.swap n m ns,by rw[YC,YC,<-e.1,<-e.2.1,<-e.2.2]⟩
 |trans h1 h2 ih1 ih2=>refineλns e=>av (ih2 ns e) λms g1 g2=>av (ih1 ms g2) λls k1 k2=>⟨ls,k1.trans g1,k2⟩
theorem Il(hd:∀n∈ns,n<275808)(h7:ns.length=7)(hk:KL ns kl)(bk:Bool):∃ms:List Nat,ms.Perm ns/\xP [.bytes (fy ns),xg ns,.bool bk]=Xd (.bytes (fy ms))/\yN kl ms=ig (sz ns kl) kl.length (oh (sz ns kl) bk (ns.map aT)):=by
 have hp:=Ab (sz ns kl) bk (cs:=ns.map aT) (by rw[YN,h7]);refine av (HP hp ns rfl) λms h1 h2=>⟨ms,h1,?_,?_⟩
 ·have z:=PL (bk:=bk) (O2 hd h7 hk);rw[h2]at z;exact z
 ·rw[h2];unfold yN ig;have e:(ms.map aT).map (sz ns kl)=ms.map (eP kl):=by rw[YB];exact YD λn hn=>BI hd (h1.mem_iff.mp hn)
  rw[e]
theorem Ml{a w:Nat}:((a:Int)+1).fmod (w:Int)=(((a+1)%w:Nat):Int):=oz (a+1) w
theorem Mm{a w:Nat}(hw:0<w):((a:Int)+(-1)).fmod (w:Int)=(((a+(w-1))%w:Nat):Int):=by rw[<-oz,ZH _ (by exact aZ 0xaf881),ZH _ (by exact aZ 0xaf881)];have e:((a+(w-1):Nat):Int)=(a:Int)+(-1)+(w:Int):=aO 0xaf99f1afbb90c1baf90802 hw;rw[e,Int.add_emod_right]
theorem places(hd:∀n∈ns,n<275808)(h7:ns.length=7)(hk:KL ns kl):0<Df kl ns/\(yN kl ns:Int)=((yN kl ns:Int)+0).fmod (Df kl ns)/\(∃ms:List Nat,ms.Perm ns/\xP [.bytes (fy ns),xg ns,.bool false]=Xd (.bytes (fy ms))/\(yN kl ms:Int)=((yN kl ns:Int)+1).fmod (Df kl ns))/\∃ms:List Nat,ms.Perm ns/\xP [.bytes (fy ns),xg ns,.bool true]=Xd (.bytes (fy ms))/\(yN kl ms:Int)=((yN kl ns:Int)+(-1)).fmod (Df kl ns):=by
 have hr:(ns.map aT).map (sz ns kl)=ns.map (eP kl):=by rw[YB];exact YD λn hn=>BI hd hn
 have je:yN kl ns<Df kl ns:=by
  have:=Mp.DB (ns.map (eP kl)) λx hx=>by refine av (Yr.mp hx) ?_;rintro n hn(rfl);exact hk.lt hn
  rw[YN,h7]at this;exact this
 have hb:∀c∈ns.map aT,sz ns kl c<kl.length:=λc hc=>by refine av (Yr.mp hc) ?_;rintro n hn(rfl);rw[BI hd hn];exact hk.lt hn
 have hl:=FD (sz ns kl) kl.length (by rw[YN,h7]) hb;have e0:ig (sz ns kl) kl.length (ns.map aT)=yN kl ns:=by unfold ig yN;rw[hr]
 rw[hr,e0]at hl;have hw:0<Df kl ns:=aO 0x1801002 je;refine⟨hw,?_,?_,?_⟩
 ·rw[ZI,oz,Xq je]
 ·refine dE (Il hd h7 hk false) λms h1 h2 h3=>⟨ms,h1,h2,?_⟩;rw[h3,hl.1,Ml];rfl
 ·refine dE (Il hd h7 hk true) λms h1 h2 h3=>⟨ms,h1,h2,?_⟩;rw[h3,hl.2,Mm hw];rfl
theorem Ad(h7:ns.length=7):∃us:List (List Nat),eF fB (cb (Xd (.list (ns.map cL))) λd=>dI (i8 1 d))=Xd (.list (us.map kD))/\us≠[]/\us.length=7/\KL ns (once us []):=by
 have e1:(cb (Xd (.list (ns.map cL))) λd=>dI (i8 1 d))=Xd (.list ((ns.map bH).map kD)):=by rw[YB];exact comp_map (λn hn=>by rw[yv];rfl) (aZ 0x3e88f0107a022 h7)
 have Cp:∀a∈ns.map bH,∀b∈ns.map bH,ij .Lt (aD a) (aD b) 0=Xd (decide (kc a<kc b)):=λa ha b hb=>by refine av (Yr.mp ha) ?_;rintro n hn(rfl);refine av (Yr.mp hb) ?_;rintro m hm(rfl);exact(xS n m).1
 refine dE (sh (z:=[]) (D:=kD) λa ha b hb=>Cp a ha b hb) λus h1 h2 h3=>?_;have hlen:us.length=7:=by rw[h2.length_eq,YN,h7]
 have ZbN:∀a∈us,∀b∈us,kc a=kc b->a=b:=λa ha b hb e=>by refine av (Yr.mp (h2.mem_iff.mp ha)) ?_;rintro n hn(rfl);refine av (Yr.mp (h2.mem_iff.mp hb)) ?_;rintro m hm(rfl);exact(xS n m).2.2 e
 have hon:=mW us [] h3 .nil ZbN;refine⟨us,?_,(by intro q;rw[q]at hlen;exact(nomatch hlen)),hlen,hon.1,λx=>?_,?_⟩
 ·rw[e1,eE];show(if((ns.map bH).map kD).length<64 then(match strsOf ((ns.map bH).map kD)with
   |some zs=>Xd (Dat.list (iM ((ns.map bH).map kD)))|none=>(mY ((ns.map bH).map kD)).bind λkd=>if lC kd=true then Xd (Dat.list (iM ((ns.map bH).map kD)))else Xe)else Xe)=_
  have hl:∀l:List (List Nat),mY (l.map kD)=Xd (l.map aD):=by intro l;induction l with|nil=>rfl|cons a l ih=>show(mY (l.map kD)).map (aD a::·)=_;rw[ih];rfl
  have hs:strsOf ((ns.map bH).map kD)=Xe:=by
   rcases ns with _|⟨n,ns⟩
   ·exact nomatch h7
   ·rfl
  have ho:lC ((ns.map bH).map aD)=true:=by unfold lC;refine Zw.mpr λx hx=>Zw.mpr λy hy=>av (Yr.mp hx) ?_;rintro a ha(rfl);refine av (Yr.mp hy) ?_;rintro b hb(rfl);rw[Cp a ha b hb];rfl
  rw[Vh (by rw[YN,YN];exact aZ 0x40a0007a022 h7),hs,hl,Xh,Vh ho,h1]
 ·rw[hon.2.1,Yh,h2.mem_iff];exact Yr
 ·have:=hon.2.2;rw[YM]at this;exact bj 0x2118b2107a1207a024 h7 hlen this
end
section
variable {ns ms:List Nat} {kl:List (List Nat)} {P:LP} {f:Nat->Nat} {aV:W8} {J:Option TJ}
theorem Zcs:(GC aV).gd=yq aV:=rfl
theorem Zcr:(GC aV).ge=ccF:=rfl
theorem Zct:(GC aV).gb=M7:=rfl
theorem ZaB:(GC aV).gl=xP:=rfl
theorem Zcp:(GC aV).gr=Rm:=rfl
theorem pa(h:Gx ns kl P f)(hp:ms.Perm ns)(hw:0<Df kl ns){st:Int}(he:(yN kl ms:Int)=(P.pl+st).fmod (Df kl ns)){V:ax}(hV:bR V (jJ J++ZB P)\/∃le s',bR V (Y0 P J le s')):∃V',jV (dZ (GC aV)) (wK (GC aV)) ay (dF (dh 8)) qi (.tuple [.bytes (fy ms),.int st]) V=Xd (.next V')/\bR V' (Y0 P (Xd (UW f ms)) (fy ms) st):=by
 refine av (GZ (aV:=aV) (J:=J) (st:=st) h hp hw he) λW' h1 h2=>?_;have hE:bR (vS "step" (.int st) (vS "led" (.bytes (fy ms)) V)) (Y0 P J (fy ms) st):=by refine Xa hV (λq=>(q.cons _ _).cons _ _) λq=>q.elim λle q=>q.elim λs' q=>((q.cons _ _).cons _ _).trans (bR.gz (by rcases J with⟨⟩<;>rfl))
 refine av (ju rO hE h1) λV' k1 k2=>⟨V',?_,k2.trans h2⟩;show(match bL ay (dF (dh 8)) (Dat.tuple [.bytes (fy ms),.int st]) V with
     |none=>Xe|some vs=>cn (dZ (GC aV)) (wK (GC aV)) ay qi vs)=_
 rw[RW];exact k1
theorem HY{Φ:fO}{sc:V5}{V:ax}{a b c:Expr}(h1:dT Φ sc a V (ev Φ sc a V)=Xd false)(h2:dT Φ sc b V (ev Φ sc b V)=Xd false)(h3:dT Φ sc c V (ev Φ sc c V)=Xd false):fu Φ sc .Or [a,b,c] V=Xd false:=by show((dT Φ sc a V (ev Φ sc a V)).bind λx=>bM (fL .Or x) (Xd x) ((dT Φ sc b V (ev Φ sc b V)).bind λx=>bM (fL .Or x) (Xd x) ((dT Φ sc c V (ev Φ sc c V)).bind λx=>bM (fL .Or x) (Xd x) (Xd false))))=_;rw[h1,h2,h3];rfl
theorem ne_bytes(b:List UInt8):dG .NotEq (Xd (.bytes b)) (Xd (.bytes b))=Xd false:=by show(Xd (b==b)).map (!·)=_;rw[beq_self_eq_true];rfl
theorem Io(h:Gx ns kl P f)(Rr:P.tp=fy ns){le:List UInt8}{st:Int}:cn (dZ (GC aV)) (wK (GC aV)) ay [dh 9,dh 10,.If (aX (dh 11)) (bA (dh 11)) [] (ek (dh 11)),.Return (Xd (cX (dh 12))) (fQ (dh 12))] (Y0 P J le st)=Xd (.ret (.bool true)):=by
 have hlen:P.tp.length=77:=by rw[Rr];unfold fy;rw[uh (pV ns),YN,h.len]
 have cU:P.tp.length<=aS:=by rw[hlen];decide
 have h9:newD "bytearray" [.bytes P.tp]=Xd (.bg P.tp):=by show(if P.tp.length<=aS then Xd (Dat.bg P.tp)else Xe)=_;rw[Vh cU]
 have IE:hN P.tp 77=P.tp.reverse:=by have z:=gM (w:=77) (by decide) [P.tp] (λb hb=>by rw[Yi.mp hb];exact hlen);simpa using z
 have h10:fZ (GC aV).gb (Xd (.bg P.tp)) (Xd (.int 77))=Xd (.bytes P.tp.reverse):=by rw[Zct,eD];show(if 0<(77:Int)/\(77:Int)<=(aS:Int)/\P.tp.length<=aS/\P.tp.length%(77:Int).toNat=0 then Xd (Dat.bytes (hN P.tp (77:Int).toNat))else Xe)=_;rw[Vh ⟨by decide,by decide,cU,by rw[hlen];rfl⟩];exact Ve (λb=>Xd (Dat.bytes b)) IE
 refine(aF (aW:=Q0 P J le st (.bg P.tp)) (aN rfl (Zbn.trans (by rw[h9];rfl)))).trans ((aF (aN rfl (Ts.trans (by rw[PI,PH,h10];rfl)))).trans ?_);have hx:=PF (G:=GC aV) (P:=P) (J:=J) (le:=le) (st:=st) (gv:=.bg P.tp) (tu:=.bytes P.tp.reverse);have hy:=PD (G:=GC aV) (P:=P) (J:=J) (le:=le) (st:=st) (gv:=.bg P.tp) (tu:=.bytes P.tp.reverse);have hz:=PC (G:=GC aV) (P:=P) (J:=J) (le:=le) (st:=st) (gv:=.bg P.tp) (tu:=.bytes P.tp.reverse);have Zbx:b9 (Xd (.bytes P.tp)) (Xd Xe) (Xd Xe) (Xd (Xd (-1)))=Xd (.bytes P.tp.reverse):=by rw[gy (by simp) rfl rfl (by decide) cU,HO]
 have hby:lS [.bg P.tp]=Xd (.bytes P.tp):=by show(if P.tp.length<=aS then Xd (Dat.bytes P.tp)else Xe)=_;rw[Vh cU]
 rw[Zbx,ne_bytes]at hy;rw[hby,ne_bytes]at hz;have ht:=(PG).trans (HY (hx.trans (by rfl)) hy hz);refine(aF (aN rfl ((fH (cO ht)).trans dJ))).trans ?_;have hlo:b9 (Xd (.bytes P.tp)) (Xd (Xd 1)) (Xd Xe) (Xd Xe)=Xd (.bytes (P.tp.drop 1)):=by rw[oS (by decide) cU];exact Ve (λb=>Xd (Dat.bytes b)) (sk P.tp (k:=1) (aZ 0x914da022 hlen))
 have hv:ev (dZ (GC aV)) ay (cX (dh 12)) (Q1 P J le st (.bg P.tp) (.bytes P.tp.reverse))=Xd (.bool true):=by rw[PB,Zcp,eD,Za8 cU,hlo,eD,Sn (by rw[YR,hlen])];kernel_rfl
 exact ed (aN rfl (eK (fU hv))) (λv q=>by rcases q with⟨⟩)
theorem LU(h:Gx ns kl P f)(Rr:P.tp=fy ns)(Ap:P.pl=(yN kl ns:Int))(hrn:P.rn=xg ns):cn (dZ (GC aV)) (wK (GC aV)) ay [.For (dF (dh 8)) (cY (dh 8)) qi [] (ki (dh 8)),dh 9,dh 10,.If (aX (dh 11)) (bA (dh 11)) [] (ek (dh 11)),.Return (Xd (cX (dh 12))) (fQ (dh 12))] (ZB P)=Xd (.ret (.bool true)):=by
 refine nE (places h.dr h.len h.kl) λhw e0 y1 y2=>dE y1 λm1 p1 l1 e1=>dE y2 λm2 p2 l2 e2=>?_;have hit:ev (dZ (GC aV)) ay (cY (dh 8)) (ZB P)=Xd (.tuple [.tuple [.bytes (fy ns),.int 0],.tuple [.bytes (fy m1),.int 1],.tuple [.bytes (fy m2),.int (-1)]]):=by
  have c1:yA (GC aV).gl (Xd (.bytes P.tp)) (Xd P.rn) (Xd (.bool false))=Xd (.bytes (fy m1)):=by rw[Rr,hrn,ZaB];exact l1
  have c2:yA (GC aV).gl (Xd (.bytes P.tp)) (Xd P.rn) (Xd (.bool true))=Xd (.bytes (fy m2)):=by rw[Rr,hrn,ZaB];exact l2
  rw[Py,c1,c2,Rr];rfl
 refine av (pa (aV:=aV) (J:=Xe) (V:=ZB P) h (.refl ns) hw (by rw[Ap];exact e0) (.inl (.refl _))) λV1 a1 b1=>av (pa (aV:=aV) h p1 hw (by rw[Ap];exact e1) (.inr ⟨_,_,b1⟩)) λV2 a2 b2=>av (pa (aV:=aV) h p2 hw (by rw[Ap];exact e2) (.inr ⟨_,_,b2⟩)) λV3 a3 b3=>?_;have Qh:ex (dZ (GC aV)) (wK (GC aV)) ay (.For (dF (dh 8)) (cY (dh 8)) qi [] (ki (dh 8))) (ZB P)=Xd (.next V3):=by refine(yf rfl hit rfl).trans ?_;rw[eB a1,eB a2,eB a3];rfl
 refine(aF (aN rfl Qh)).trans (oC rO b3 (Io h Rr))
end
section
variable {ns ms:List Nat} {kl:List (List Nat)} {P:LP} {f:Nat->Nat} {aV:W8} {is:List Int}
theorem LS(hl:is.length<=63):cn (dZ (GC aV)) (wK (GC aV)) ay sT (bq ["script"] [.list (is.map .int)])=Xd (.ret (.bool true)):=by
 refine dE (Jo (aV:=aV) hl) λns hd h7 je=>?_;rw[LH];have h0:cb (cP (GC aV).gd (Xd (.list (is.map .int)))) (λd=>dI (cP (GC aV).ge (Xd d)))=Xd (.list (ns.map cL)):=by rw[Zcs,cS,hd];exact comp_map (λn hn=>by rw[Zcr,cS,MW (je n hn)];rfl) (aZ 0x3e88f0107a022 h7)
 refine dB "cells" (Tt.trans h0) rfl rfl ?_;have h1:RI (ns.map cL) (λd=>mF (cB (Xd d) (Xd (.int 0))) (Xd d))=Xd (G8 ns):=Jv (λn hn=>by rw[show cB (Xd (cL n)) (Xd (.int 0))=Xd (.str (S (aT n)))from yw n];rfl) (aZ 0x64a0107a022 h7);refine(aF (cI (RP.trans (Tr.trans (by rw[h1];rfl))))).trans ?_;have h2:RI (ns.map cL) (λd=>mF (cB (Xd d) (Xd (.int 0))) (cP (GC aV).gc (cP (GC aV).gp (cB (Xd d) (Xd (.int 0))))))=Xd (xg ns):=Jv (λn hn=>by rw[show cB (Xd (cL n)) (Xd (.int 0))=Xd (.str (S (aT n)))from yw n,ZaC,ZaA,G3 (je n hn)];rfl) (aZ 0x64a0107a022 h7);refine(aF (cI (RO.trans (Tq.trans (by rw[h2];rfl))))).trans ((aF (aN rfl Zbo)).trans (yY (Ad h7) λus hus jI hul hk=>eT (FG (G:=GC aV) us [] Xe (Z4 (is.map .int) (ns.map cL) (G8 ns) (xg ns) []) (by rw[YM];exact aZ 0x64a08b107a022 hul) jI (.refl _)) λV4 kd g1 g2=>(aF (aN rfl ((yf rfl (PA.trans hus) rfl).trans g1))).trans (oC rO g2 ?_)));generalize once us []=kl at *;have N9:kl.length<=7:=by have:=hk.len;exact aO 0x7a1101107a023 h7 this
 refine dB "many" (Ti.trans (LG (aZ 0x7a0107a022 h7) N9)) rfl rfl ?_;have h6:fZ (GC aV).gq (BG (ns.map cL) (kl.map kD)) (Xd (.list (aD (manyN kl ns))))=Xd (.int (yN kl ns:Int)):=by rw[Hu hk (λn hn=>hn) (by exact aZ 0x7a0107a022 h7) (by exact aZ 0x7a0107a022 h7),Zaz,eD];exact hk.place h7 (.refl ns)
 refine dB "place" (Th.trans h6) rfl rfl (dB "tape" (Tf.trans (KI (aZ 0x7a0107a022 h7))) rfl rfl ?_);have Oj:∀n:Nat,∃m:Nat,n∈ns->m∈ns/\aT m=aT n/\ej (G8 ns) (.str (S (aT n)))=Xd (cL m):=λn=>by
  by_cases hn:n∈ns
  ·refine dE (G7 hn) λm h1 h2 h3=>⟨m,λq=>⟨h1,h2,h3⟩⟩
  ·exact⟨0,λq=>absurd q hn⟩
 exact LU (P:=⟨is.map .int,ns.map cL,G8 ns,xg ns,kl.map kD,kd,aD (manyN kl ns),(yN kl ns:Int),fy ns⟩) ⟨rfl,rfl,rfl,λn hn=>Classical.choose_spec (Oj n) hn,hk,h7,je⟩ rfl rfl rfl
end
section
variable {aV c:W8} {cd:VO}
theorem UX:kS ko:=⟨rfl,rfl,rfl,by decide +kernel,by decide +kernel⟩
theorem Ss:kS nY:=⟨rfl,rfl,rfl,by decide +kernel,by decide +kernel⟩
theorem Zad:kS bB:=⟨rfl,rfl,rfl,by decide +kernel,by decide +kernel⟩
theorem RZ:kS jP:=⟨rfl,rfl,rfl,by decide +kernel,by decide +kernel⟩
theorem TA:kS dv:=⟨rfl,rfl,rfl,by decide +kernel,by decide +kernel⟩
theorem RT:kS nG:=⟨rfl,rfl,rfl,by decide +kernel,by decide +kernel⟩
theorem Su:kS fJ:=⟨rfl,rfl,rfl,by decide +kernel,by decide +kernel⟩
theorem Sl:kS lZ:=⟨rfl,rfl,rfl,by decide +kernel,by decide +kernel⟩
theorem Te:kS ay:=⟨rfl,rfl,rfl,by decide +kernel,by decide +kernel⟩
theorem UY(hC:C.Plain)(hp:Re.fM C.h₀ aV c)(hg:C.mg "_twin_re_1"=Xd (.ref aV))(hD:cF C "_law_draws" (argsAt pw 9) jb ko cd):oZ C (n+1) "_law_draws" (yq aV):=by refine tG hC (λfr=>pK (hC.at fr) hp hg) rfl hD (by decide) (λfr=>dY.none) UX (by decide) (by decide +kernel) (λvs pm doc hl=>?_) gO;refine aI (Ow hl.symm) ?_;rintro v(rfl);rfl
theorem NG(hC:C.Plain)(hD:cF C "_law_part" (argsAt pw 10) xo nY cd):oZ C (n+1) "_law_part" jq:=by refine tG hC (λfr=>ir (hC.at fr)) rfl hD (by decide) (λfr=>dY.none) Ss (by decide) (by decide +kernel) (λvs pm doc hl=>?_) gO;refine aI (Ow hl.symm) ?_;rintro v(rfl);rfl
theorem Zae(hC:C.Plain){QJ:VO}(hU:cF C "_law_part" (argsAt pw 10) xo nY QJ)(hD:cF C "_law_cell" (argsAt pw 11) t6 bB cd):oZ C (n+2) "_law_cell" ccF:=by refine tG hC (λfr=>(ir (hC.at fr)).and (NG (hC.at fr) hU)) rfl hD (by decide) (λfr=>dY.none) Zad (by decide) (by decide +kernel) (λvs pm doc hl=>?_) gO;refine aI (Ow hl.symm) ?_;rintro v(rfl);rfl
theorem Nx(hC:C.Plain)(hD:cF C "_law_texts" (argsAt pw 12) jQ jP cd):oZ C (n+1) "_law_texts" lb:=by refine tG hC (λfr=>ir (hC.at fr)) rfl hD (by decide) (λfr=>dY.none) RZ (by decide) (by decide +kernel) (λvs pm doc hl=>?_) gO;refine aI (Ow hl.symm) ?_;rintro v(rfl);rfl
theorem TB(hC:C.Plain)(hp:Re.fM C.h₀ aV c)(hg:C.mg "_twin_re_1"=Xd (.ref aV)){QJ:VO}(hB:cF C "_byteswap" (argsAt pw NY) bU br QJ){ct:VO}(hT:cF C "_law_texts" (argsAt pw 12) jQ jP ct)(hD:cF C "_law_led" (argsAt pw 13) pG dv cd):oZ C (n+2) "_law_led" xP:=by refine tG hC (λfr=>((ir (hC.at fr)).and (OF (hC.at fr) hp hg hB)).and (Nx (hC.at fr) hT)) rfl hD (by decide) (λfr=>dY.none) TA (by decide) (by decide +kernel) (λvs pm doc hl=>?_) gO;refine Mine.Internal.pD hl.symm λv r h=>kK (RG h) ?_;rintro u t(rfl);rfl
theorem Nv(hC:C.Plain)(hD:cF C "_law_ways" (argsAt pw 14) wM nG cd):oZ C (n+1) "_law_ways" nK:=by refine tG hC (λfr=>ir (hC.at fr)) rfl hD (by decide) (λfr=>dY.none) RT (by decide) (by decide +kernel) (λvs pm doc hl=>?_) gO;refine aI (Ow hl.symm) ?_;rintro v(rfl);rfl
theorem Sv(hC:C.Plain){QJ:VO}(hU:cF C "_law_ways" (argsAt pw 14) wM nG QJ)(hD:cF C "_law_place" (argsAt pw 15) HM fJ cd):oZ C (n+2) "_law_place" pz:=by refine tG hC (λfr=>(ir (hC.at fr)).and (Nv (hC.at fr) hU)) rfl hD (by decide) (λfr=>dY.none) Su (by decide) (by decide +kernel) (λvs pm doc hl=>?_) gO;refine kK (RG hl.symm) ?_;rintro v u(rfl);rfl
theorem Sm(hC:C.Plain)(hp:Re.fM C.h₀ aV c)(hg:C.mg "_twin_re_1"=Xd (.ref aV)){QJ:VO}(hB:cF C "_byteswap" (argsAt pw NY) bU br QJ)(hD:cF C "_law_refused" (argsAt pw 16) lq lZ cd):oZ C (n+2) "_law_refused" Rm:=by
 refine tG hC (λfr=>ir (hC.at fr)) rfl hD (by decide) (λfr=>?_) Sl (by decide) (by decide +kernel) (λvs pm doc hl=>?_) gO
 ·exact @nN (C.at fr) (n+1) (kI (C.at fr) cd "_law_refused") _ ⟨BM (hC.at fr) lD (ir (hC.at fr)) (Gi (hC.at fr) hp hg hB) (Gh (hC.at fr) hp hg hB),trivial⟩
 ·refine kK (RG hl.symm) ?_;rintro v u(rfl);rfl
structure Top (C:Cx) (aV:W8):Prop where
 plain:C.Plain
 bm:∃bm ob,BMod C.h₀ mainGlobals C.mg bm ob
 rx:∃c,Re.fM C.h₀ aV c
 zO:C.mg "_twin_re_1"=Xd (.ref aV)
 stg:∃d,Eu C "_ver_stages" d kM
 cv:∃cd,cF C "_comparable_version" (argsAt pw iCv) eR bI cd
 bs:∃cd,cF C "_byteswap" (argsAt pw NY) bU br cd
 dw:∃cd,cF C "_law_draws" (argsAt pw 9) jb ko cd
 pt:∃cd,cF C "_law_part" (argsAt pw 10) xo nY cd
 ce:∃cd,cF C "_law_cell" (argsAt pw 11) t6 bB cd
 tx:∃cd,cF C "_law_texts" (argsAt pw 12) jQ jP cd
 le:∃cd,cF C "_law_led" (argsAt pw 13) pG dv cd
 wy:∃cd,cF C "_law_ways" (argsAt pw 14) wM nG cd
 pq:∃cd,cF C "_law_place" (argsAt pw 15) HM fJ cd
 rf:∃cd,cF C "_law_refused" (argsAt pw 16) lq lZ cd
 pl:∃(a P:W8)(p:Pos),p.line=(nc (aw aB 0)).line/\p.col=(nc (aw aB 0)).col/\iX C a P p "_platform.<locals>.<genexpr>"/\cF C "_platform" (argsAt pw Ro) aB aG (.ref a)
 lw:∃cd,cF C "law" (argsAt pw 17) sT ay cd
theorem Top.at(T:Top C aV)(fr:W8->Prop):Top (C.at fr) aV:=jg T.pl λa P p h1 h2 h3 h4=>T.stg.elim λd g=>⟨T.plain.at fr,T.bm,T.rx,T.zO,⟨d,g.map,g.mods,g.glob,g.nd⟩,T.cv,T.bs,T.dw,T.pt,T.ce,T.tx,T.le,T.wy,T.pq,T.rf,⟨a,P,p,h1,h2,⟨h3.mem,h3.code,h3.uniq⟩,h4⟩,T.lw⟩
theorem Qv(hC:C.Plain):cu C ΦS n where
 fn h:=aa h;uu {f g} h:=by
  by_cases q:f="sorted"
  ·have:=(Vh q).symm.trans h;obtain rfl:=Xc this;exact q▸C3 hC
  ·exact(ir hC).uu ((Vg q).symm.trans h)
 glob h:=(ir (n:=n) hC).glob h;pB {m}:=(ir hC).pB
theorem CA(T:Top C aV):cu C (dZ (GC aV)) (n+2):=by refine aI T.rx λc hp=>jg T.pl λa P p h1 h2 h3 h4=>aI T.stg λd hT=>aI T.cv λx k0=>aI T.bs λx k1=>aI T.dw λx k2=>aI T.pt λx k3=>aI T.ce λx k4=>aI T.tx λx k5=>aI T.le λx k6=>aI T.wy λx k7=>aI T.pq λx k8=>aI T.rf λx k9=>(((((((((((Qv T.plain).and (U5 T.plain hp T.zO hT k0)).and (SI T.plain T.bm hp T.zO h1 h2 h3 h4)).and (OF T.plain hp T.zO k1)).and (UY T.plain hp T.zO k2)).and (NG T.plain k3)).and (Zae T.plain k3 k4)).and (Nx T.plain k5)).and (TB T.plain hp T.zO k1 k5 k6)).and (Nv T.plain k7)).and (Sv T.plain k7 k8)).and (Sm T.plain hp T.zO k1 k9)
theorem PM(T:Top C aV):oZ C 5 "law" (ph (dZ (GC aV)) (wK (GC aV)) ay sT ["script"]):=by
 refine aI T.lw λcd h4=>?_;refine tG T.plain (λfr=>CA (T.at fr)) rfl h4 (by decide) (λfr=>?_) Te (by decide) (by decide +kernel) (λvs pm doc hl=>?_) gO
 ·exact @nN (C.at fr) 4 (kI (C.at fr) cd "law") _ ⟨D6 (T.at fr).plain.ok lD (CA (T.at fr)),D6 (T.at fr).plain.ok lD (CA (T.at fr)),trivial⟩
 ·refine aI (Ow hl.symm) ?_;rintro v(rfl);rfl
theorem Im(T:Top C aV){A:W6}{s:VY}{ai:W8->Prop}{is:List Int}{a:W8}{v:VO}(hg:C.mg "law"=Xd (.ref a))(hA:dD C 5 A)(bs:Bs C s)(V:bz C ai s)(r:Rep s.heap ai v (.list (is.map .int)))(hl:is.length<=63):eS C A ai (VH (.ref a) [v]) (.bool true) s:=by obtain⟨b,o,fd,h1,h2,h3,h4,h5,h6⟩:=PM T;rw[h1]at hg;obtain rfl:=VM.inj (Xc hg);exact h6 hA bs V (.cons r .nil) (iO rfl (LS hl))
end
end L2
section
open PySem.Spec PySem.Calls
variable {q:Wf} {loose:List VV} {z0:ExcName->Option VO} {mg mb:VV->Option VO} {K:Frag}
def posAt(p:Wf)(i:Nat):Pos:=match p.main.body[i]? with|some (.FunctionDef _ _ _ _ _ _ _ _ _ pos)=>pos|_=>df
def recAt(p:Wf)(f:VV)(i:Nat):DefRec:=⟨f,argsAt p i,fk p i,dW p i,posAt p i⟩
def dN(q p:Wf)(f:VV)(i:Nat):Prop:=(recsOf q).find? (λe=>e.name==f)=Xd (recAt p f i)
theorem Hz(h:So v=Xd a):v=.ref a:=by
 rcases v with⟨⟩;case ref=>rw[Xc h]
 all_goals exact aa h
theorem wi(X:K.In h)(g:h.Ns mainGlobals mg)(hc:yr K f=true)(hm:mg f=Xd (.ref a))(ho:h.get? a=Xd o):o.cls≠.none:=by obtain⟨u,hu⟩:=Option.isSome_iff_exists.mp hc;refine ak hu λb h1 hu=>ak h1 λq h2 h1=>ak h1 λv h3 h1=>ak hu λo2 h4 hu=>?_;obtain rfl:=Hz h1;subst h3;have e1:=mg_of X g h2;rw[hm]at e1;obtain rfl:=VM.inj (Xc e1);have e2:=X _ _ h4;rw[ho]at e2;obtain rfl:=Xc e2;exactλe=>aa ((Vh e).symm.trans hu)
theorem Jt(hh:C.h₀=h)(hm:C.mg=mg)(T:Top q loose z0 mg mb h)(X:K.In h){p:Wf}(hd:dN q p f i)(hc:yr K f=true):∃cd,cF C f (argsAt p i) (fk p i) (dW p i) cd:=by subst hh hm;refine OQ (T.fn _ (Yp hd)) λa o pm code doc h1 h2 y0=>?_;refine aU y0 λh3 h4=>⟨code,a,o,pm,doc,h1,h2,wi X T.g hc h1 h2,h3,h4⟩
theorem G9(hh:C.h₀=h)(hm:C.mg=mg)(T:Top q loose z0 mg mb h)(X:K.In h){p:Wf}(hd:dN q p f i)(hc:yr K f=true)(ht:tabIn K f=Xd (c,P)):cF C f (argsAt p i) (fk p i) (dW p i) (.ref c)/\h.IsCode c P #[]/\h.TableAt c P #[]:=by
 revert hh hm T X hd hc ht;refine rR (bT (bT (bT (bT zS U8) U8) U8) U8) ?_ C f p i c P q loose z0 mb K mg h;generalize gE _ _=tt;dsimp only[Gy];generalize tt.1.1.1.1=C,tt.1.1.1.2=f,tt.1.1.2.1=p,tt.1.1.2.2=i,tt.1.2.1.1=c,tt.1.2.1.2=P,tt.1.2.2=q,tt.2.1.1.1=loose,tt.2.1.1.2=z0,tt.2.1.2=mb,tt.2.2.1.1=K,tt.2.2.1.2=mg,tt.2.2.2=h;intro hh hm T X hd hc ht;subst hh hm;have hr:=Yp hd;refine OQ (T.fn _ hr) λa o pm code doc h1 h2 y0=>aU y0 λh3 h4=>OQ (T.tab _ hr) λa' o' fd c' P' g1 g2 y0=>nE y0 λg3 g4 g5 g6=>?_;have e1:=law_code X T.g ht g1 g2 g3;replace g1:=h1.symm.trans g1;refine ZK λhG=>?_;rcases g1 with⟨⟩;rw[h2]at g2;obtain rfl:=Xc g2;rw[h3]at g3;rcases g3 with⟨⟩;have e2:=e1;subst e2;rcases g4 with⟨⟩;refine hG ?_;have hx:=(tab_of T X hd ht).1;refine OP hx λoc vs fl tf fg tg inF y0=>EC y0 λtx tt k1 k2 k3 k4 x=>?_;have e3:P'=P:=by refine aU g6 λy0 x=>wL y0 λoc' qj j1 j2 j3 j4=>?_;rw[k1]at j1;obtain rfl:=Xc j1;replace j3:=k3.symm.trans j3;rcases j3 with⟨⟩;replace j4:=k4.symm.trans j4;rcases j4 with⟨⟩;rfl
 cases e3;exact⟨⟨a,o,pm,doc,h1,h2,wi X T.g hc h1 h2,h3,h4⟩,g5,g6⟩
noncomputable def plainNames:List VV:=[("list":VV),"bytearray","len","sum","str","ord","chr","bytes","range","isinstance","sorted","zip","int","filter","ValueError","IndexError"]
noncomputable def Ou(q:Wf)(loose:List VV):Bool:=plainNames.all λx=> !(startupNames.contains x)&& !(loose.contains x)&& !(((recsOf q).map (·.name)).contains x)&& !(((litsOf q).map (·.1)).contains x)&& !(((clssOf q loose).map (·.name)).contains x)
noncomputable def tT(s:VY)(mg mb:VV->Option VO)(tabs:List (W8×W8×Pos×VV)):Cx:={h₀:=s.heap,NM:=s.os,mg:=mg,mb:=mb,tabs:=tabs,fr:=λx=>False}
theorem HC(T:Top q loose z0 mg mb s.heap)(hf:Ou q loose=true)(ht:∀c P p q,(c,P,p,q)∈tabs->s.heap.TableAt c P #[]/\P≠cStatics/\P≠mainGlobals/\P≠builtinsNs):(tT s mg mb tabs).Plain:=by refine⟨⟨T.g,T.b,T.nolimit,T.builtins,ht⟩,λx hx=>?_⟩;have h:=Zw.mp hf x hx;simp only[ZV,ZN,List.contains_eq_mem,decide_eq_false_iff_not]at h;exact T.free x h.1.1.1.1 h.1.1.1.2 h.1.1.2 h.1.2 h.2
theorem Zaq(hg:s.gens= #[])(ht:∀c P p q,(c,P,p,q)∈tabs->s.heap.TableAt c P #[]):Bs (tT s mg mb tabs) s:=⟨λb o e x=>e,λc P p q m=>.inl (ht c P p q m).2,.of_eq hg,rfl,λa ha=>ha.elim⟩
theorem RX(ht:∀c P p q,(c,P,p,q)∈tabs->s.heap.TableAt c P #[]):bz (tT s mg mb tabs) (tT s mg mb tabs).T s:=⟨λa h=>h,λa h=>h.elim,λa⟨c,pp,qq,m⟩=>⟨_,(ht _ _ _ _ m).2⟩⟩
theorem Gu:∀{xs:List WData},WShape.hasItems R xs .int=true->∃is:List Int,xs=is.map WData.int:=by
 intro xs;induction xs with
 |nil=>exactλ_=>⟨[],rfl⟩
 |cons d r ih=>intro hh;have hh':(WShape.has R d .int&&WShape.hasItems R r .int)=true:=hh;rw[ZV]at hh';refine aI (ih hh'.2) λis e=>aI (hasW_int hh'.1) ?_;rintro i(rfl);exact⟨i::is,by rw[e];rfl⟩
theorem HB{l:OpenLaw}{n:Nat}{args:List WData}(hm:l.most=Xd n)(hb:l.bound=Xe)(Ao:l.row.toRowW.claim.pre args=true):∃is:List Int,args=[.list (is.map .int)]/\is.length<=n:=by
 refine aU (pre_splitW Ao) λhs hc=>er (hasAllW_cons (show WShape.hasAll [] args [.list .int]=true from hs)) ?_;rintro d r(rfl)h1 h2;obtain rfl:=hasAllW_nil h2;refine av (hasW_list h1) ?_;rintro xs(rfl)h3;refine aI (Gu h3) ?_;rintro is(rfl);refine⟨is,rfl,?_⟩;have hp:l.row.toRowW.pre=.and (.not (.lt (.lit (.int n)) (.len (.arg 0)))) (.lit (.bool true)):=by show OpenLaw.pre l=_;delta OpenLaw.pre;exact xR hm (xR hb rfl)
 simp only[hp]at hc;have h4:=(holds_andW hc).1;have h5:=condW_of h4 (by rfl);simp only[YN,ZN,decide_eq_false_iff_not]at h5;exact aO 0x111af0af732 h5
theorem Bl:∀{vs:List VO}{is:List Int},WellAll P h vs (is.map .int)->aK h ai vs (is.map Dat.int):=by
 intro g0 is;induction is generalizing g0 with
 |nil=>intro w;rcases w with⟨⟩;exact .nil
 |cons i is ih=>refineλw=>er (wellAll_cons_inv w) ?_;rintro v qj(rfl)w1 w2;rcases w1 with⟨⟩;exact .cons (.int _ _) (ih w2)
set_option tactic.hygienic true in
theorem GX{P:Params}{vals:List VO}{is:List Int}(w:WellAll P h vals [.list (is.map .int)]):∃a vs,vals=[.ref a]/\h.get? a=Xd {cls:=.type "list",data:=.seq vs.toArray}/\∀ai,aK h ai vs (is.map Dat.int):=by refine er (wellAll_cons_inv w) ?_;rintro v qj(rfl)w1 w2;rcases w2 with⟨⟩;rcases w1 with⟨⟩;case list e r=>exact⟨_,_,rfl,e,λai=>Bl r⟩
theorem Mh{l:OpenLaw}{s s':VY}{tabs:List (W8×W8×Pos×VV)}{cl:VV->Option W8}{args:List WData}{v:VO}{ai:W8->Prop}(ht:∀c P p q,(c,P,p,q)∈tabs->s.heap.TableAt c P #[]/\P≠cStatics/\P≠mainGlobals/\P≠builtinsNs)(hg:s.gens= #[])(x:Ex (tT s mg mb tabs) s s')(r:Rep s'.heap ai v (.bool true)):GoodWG l.row.toRowW.claim cl z0 args s (.ok (.ret v)) s':=by
 have b:=x.bs (Zaq hg λc P p q m=>(ht c P p q m).1);rcases r with⟨⟩;have hold:∀b o,s.heap.get? b=Xd o->asItWas s.heap s'.heap b o/\∃o',s'.heap.get? b=Xd o':=by
  intro a o e;by_cases hT:(tT s mg mb tabs).T a
  ·refine mr hT λc pp qq m=>?_;have h1:=(ht _ _ _ _ m).1;have e2:=h1.2;rw[e]at e2;obtain rfl:=Xc e2;refine Xa (b.tab _ _ _ _ m) (λk=>⟨.inl k,_,k⟩) λy0=>av y0 λc' k y=>⟨.inr (.inl ⟨h1.isCodeTable,rfl,#[],#[rawInt pp.line,rawInt pp.col,.ref c'],rfl,by refine xR Array.empty_append k⟩),_,k⟩
  ·have k:=x.keep a o e hT (λq=>q);exact⟨.inl k,_,k⟩
 refine⟨.inl ⟨_,.bool true,[],rfl,λcls=>rfl,.bool true,?_,λy=>⟨List.nodup_nil,λa ha=>by rcases ha with⟨⟩⟩⟩,⟨λa o e=>(hold a o e).1,λa o e=>(hold a o e).2⟩,b.os,b.gens⟩;exact postW_of (by rfl) (by rfl) (by simp[W.same])
end
namespace L2
section
open PySem.Spec PySem.Calls Mine.Internal.Co
theorem sV(P:Params):∀l:List (VV×Tok×Int×Tok),KeysLit P (l.map (entryOf P))|[]=>trivial|e::r=>⟨⟨e.1,e.2.1,rfl,rfl⟩,sV P r⟩
theorem Av(P:Params)(x:VV):∀l:List (VV×Tok×Int×Tok),(findBy VO.isStrOf (l.map (entryOf P)).toArray x=Xe/\(l.map λe=>(e.1,e.2.2.1)).lookup x=Xe)\/∃k t,findBy VO.isStrOf (l.map (entryOf P)).toArray x=Xd (.int k t)/\(l.map λe=>(e.1,e.2.2.1)).lookup x=Xd k
 |[]=>.inl ⟨rfl,rfl⟩
 |e::r=>by
  have ih:=Av P x r;unfold findBy at ih ⊢;rw[List.find?_toArray]at ih ⊢;rw[YC,YC,YF,List.find?_cons];have hk:VO.isStrOf x (entryOf P e).key=(x==e.1):=by show(e.1==x)=(x==e.1);rw[ZR,Vd,Vd];exact eq_comm
  rw[hk];cases x==e.1 with|true=>exact .inr ⟨_,_,rfl,rfl⟩|false=>exact ih
structure Facts (q:Wf) (loose:List VV):Prop where
 free:Ou q (looseW q loose)=true
 r2:dN q pw "_byteswap" 2
 r6:dN q pw "_comparable_version" 6
 r7:dN q pw "_platform" 7
 r9:dN q pw "_law_draws" 9
 r10:dN q pw "_law_part" 10
 r11:dN q pw "_law_cell" 11
 r12:dN q pw "_law_texts" 12
 r13:dN q pw "_law_led" 13
 r14:dN q pw "_law_ways" 14
 r15:dN q pw "_law_place" 15
 r16:dN q pw "_law_refused" 16
 r17:dN q pw "law" 17
def r8:List (W8×W8×Pos×VV):=[(57,53,nc (aw aB 0),"_platform.<locals>.<genexpr>")]
theorem top2{q:Wf}{loose:List VV}{K:Frag}(F:Facts q loose){z0:ExcName->Option VO}{mg mb:VV->Option VO}{s:VY}(T:PyProof.Rows.Top q (looseW q loose) z0 mg mb s.heap)(X:K.In s.heap)(Y:Ob K=Oa Wd):Top (tT s mg mb r8) 43/\∀c P p z,(c,P,p,z)∈r8->s.heap.TableAt c P #[]/\P≠cStatics/\P≠mainGlobals/\P≠builtinsNs:=by
 have y1:=W9 Y;have y2:=W9 y1.2;have y4:=W9 y2.2;have y5:=W9 y4.2;have y6:=W9 y5.2;have y7:=W9 y6.2;have hc:=λ(f:VV)(n:Nat)e=>Zw.mp y1.1 f (Yo (i:=n) e);have hD:=λ(f:VV)(i n:Nat)(r:dN q pw f i)e=>Jt (C:=tT s mg mb r8) rfl rfl T X r (hc f n e);refine bD (G9 (C:=tT s mg mb r8) rfl rfl T X F.r7 (hc _ 2 rfl) y2.1) λp1 p2 p3=>?_;have ht:∀c P p z,(c,P,p,z)∈r8->s.heap.TableAt c P #[]/\P≠cStatics/\P≠mainGlobals/\P≠builtinsNs:=by have g:∀x∈r8,s.heap.TableAt x.1 x.2.1 #[]/\x.2.1≠cStatics/\x.2.1≠mainGlobals/\x.2.1≠builtinsNs:=λx m=>Yi.mp m▸⟨p3,by decide,by decide,by decide⟩;exactλc P p z m=>g _ m
 refine⟨?_,ht⟩;exact{plain:=HC T F.free ht,bm:=bmod_of_top T,rx:=⟨42,⟨SW,_,X _ _ y6.1,rfl,rfl,rfl,by decide +kernel,by decide +kernel,by decide +kernel⟩,⟨U7,_,_,X _ _ y7.1,rfl,rfl,by decide +kernel⟩⟩,zO:=mg_of X T.g y4.1,stg:=⟨44,⟨_,mapOf_K X y7.2 (sV _ _),λx=>Av _ x Sb⟩,by decide,mg_of X T.g y5.1,by decide⟩,cv:=hD _ _ 1 F.r6 rfl,bs:=hD _ _ 0 F.r2 rfl,dw:=hD _ _ 3 F.r9 rfl,pt:=hD _ _ 4 F.r10 rfl,ce:=hD _ _ 5 F.r11 rfl,tx:=hD _ _ 6 F.r12 rfl,le:=hD _ _ 7 F.r13 rfl,wy:=hD _ _ 8 F.r14 rfl,pq:=hD _ _ 9 F.r15 rfl,rf:=hD _ _ 10 F.r16 rfl,lw:=hD _ _ 11 F.r17 rfl,pl:=⟨57,53,_,rfl,rfl,⟨.head _,p2,λc' p' q' m=>by exact W9 (W9 (W9 (Yi.mp m)).2).2⟩,p1⟩}
theorem CX{s:VY}{mg mb:VV->Option VO}{tabs:List (W8×W8×Pos×VV)}:dD (tT s mg mb tabs) 5 callerA:=⟨rfl,by decide +kernel,by decide +kernel,[],rfl,λf hf=>nomatch hf⟩
theorem walk2{q:Wf}{loose:List VV}{XP:(VV->Option VO)->Wz->Prop}{d:DefRec}{kwd:List (VV×Expr)}(F:Facts q loose)(hn:d.name="law"):OK q loose XP hk.says o4.toRowW d kwd (λf vs=>VH f vs) Wd:=by refineλaH aA mg mb G Y fa o pm cd doc dV kV ho hd Ol hD hmg hg args vals as Ao IS hrd hwl hlo=>Y.elim λK Y=>aU (top2 F G.T Y.1 Y.2) λT3 ht=>?_;rw[hn]at hmg;refine av (HB rfl rfl Ao) ?_;rintro is(rfl)hl;refine er (GX hwl) ?_;rintro a vs(rfl)ha hr;have T6:=λc P p z m=>(ht c P p z m).1;have r:Rep aA.heap (tT aA mg mb r8).T (.ref a) (.list (is.map .int)):=.list (λ⟨c,p,z,m⟩=>by have:=(T6 _ _ _ _ m).2;rw[ha]at this;rcases this with⟨⟩) ha rfl rfl rfl (hr _);exact Im T3 hmg CX (Zaq hg T6) (RX T6) r hl _ _ λv s' x rv=>Mh ht hg x rv
end
end L2
end Mine.Internal
open PySem PySem.W PyProof.Rows
open Mine.Internal
namespace MineTop
theorem t:PySem.Challenge.rw_pk0032_02.Holds:=by refine holds_law (by kernel_rfl) λZcw=>MineTop.PySem.W.holds_open (XP:=XL iK []) (YP:=hk.says) (d:=theDef) (kwd:=[]) left hk.of hk.keeps (λs e=>xl_of s (Bool.and_eq_true_iff.mp e).1) XL.keeps (by kernel_rfl) (by kernel_rfl) (by kernel_rfl) (λs e=>recFacts_of (Bool.and_eq_true_iff.mp e).2) (by kernel_rfl) (by assumption) (by kernel_rfl) ⟨rfl,rfl,rfl,rfl,rfl,by decide +kernel⟩ ⟨[.list []],by decide +kernel,by decide +kernel⟩ (Mine.Internal.L2.walk2 {free:=by kernel_rfl,r2:=by unfold Mine.Internal.dN;kernel_rfl,r6:=by unfold Mine.Internal.dN;kernel_rfl,r7:=by unfold Mine.Internal.dN;kernel_rfl,r9:=by unfold Mine.Internal.dN;kernel_rfl,r10:=by unfold Mine.Internal.dN;kernel_rfl,r11:=by unfold Mine.Internal.dN;kernel_rfl,r12:=by unfold Mine.Internal.dN;kernel_rfl,r13:=by unfold Mine.Internal.dN;kernel_rfl,r14:=by unfold Mine.Internal.dN;kernel_rfl,r15:=by unfold Mine.Internal.dN;kernel_rfl,r16:=by unfold Mine.Internal.dN;kernel_rfl,r17:=by unfold Mine.Internal.dN;kernel_rfl} rfl)
end MineTop
end
theorem PySem.Challenge.cw_pk0032_02_holds : PySem.Challenge.rw_pk0032_02.Holds := by
 exact MineTop.t
