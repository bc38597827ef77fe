import PyProof.Rows.All
import Wide.All
import OpenK.AllK
import Wide.FinOn
import Lean
import PySem.Challenge.RW_pk0032_01
set_option tactic.hygienic false
set_option backward.match.sparseCases false
set_option bootstrap.genMatcherCode false
set_option genInjectivity false
set_option genSizeOf false
set_option Elab.async false
set_option maxRecDepth 100000
set_option maxHeartbeats 8000000
set_option linter.all false
noncomputable section
open Array renaming getD_eq_getD_getElem?->Z9,getElem?_eq_some_iff->Z8,toList_append->Z7
open Bool renaming and_eq_true->Z6,and_eq_true_iff->Z5,eq_false_iff->Z4,eq_iff_iff->ZZ,false_eq_true->ZY,false_ne_true->ZX,not_true->ZW,or_eq_true->ZV
open Classical renaming byContradiction->ZU
open ForInStep renaming yield->ZT
open Int renaming add_zero->ZS,le_of_eq->ZR,le_trans->ZQ,lt_of_le_of_lt->ZO,natCast_nonneg->ZN,ofNat->ZM,ofNat_le->ZL,toNat_natCast->ZK,toNat_of_nonneg->ZJ,zero_add->ZI
open List renaming all_eq_true->ZH,append_assoc->ZG,append_nil->ZF,cons_append->ZE,contains_iff_mem->ZD,drop_drop->ZC,drop_eq_getElem_cons->ZA,drop_zero->Zz,ext_getElem?->Zy,extract_eq_take_drop->Zx,filterMap_cons->Zw,filter_cons->Zv,flatMap_append->Zu,flatMap_cons->Zt,flatMap_singleton->Zs,flatten_cons->Zr,forIn_cons->Zq,getD_eq_getElem?_getD->Zp,getElem?_append_left->Zo,getElem?_append_right->Zn,getElem?_cons_succ->Zm,getElem?_cons_zero->Zl,getElem?_eq_getElem->Zk,getElem?_eq_none->Zj,getElem?_eq_none_iff->Zi,getElem?_eq_some_iff->Zh,getElem?_map->Zg,getElem?_range->Zf,getElem?_toArray->Ze,idxOf_cons->Zd,isPrefixOf->Zc,isPrefixOf_iff_prefix->Zb,length->Za,length_append->Y9,length_cons->Y8,length_drop->Y7,length_eq_zero_iff->Y6,length_filter_le->Y5,length_map->Y4,length_nil->YZ,length_range->YY,length_reverse->YX,length_singleton->YW,length_take->YV,lookup->YU,lookup_cons->YT,map_append->YS,map_congr_left->YR,map_cons->YQ,map_map->YO,map_reverse->YN,mem_append->YM,mem_cons->YL,mem_cons_of_mem->YK,mem_cons_self->YJ,mem_filter->YI,mem_map->YH,mem_nil_iff->YG,mem_of_find?_eq_some->YF,mem_of_getElem?->YE,mem_range->YD,mem_replicate->YC,mem_reverse->YB,mem_singleton->YA,nil_append->Yz,range->Yy,range_eq_range'->Yx,range_succ->Yw,replicate->Yv,reverse->Yu,reverse_append->Yt,reverse_cons->Ys,reverse_nil->Yr,reverse_reverse->Yq,sizeOf_lt_of_mem->Yp,size_toArray->Yo,take_add_one->Yn,take_of_length_le->Ym,take_succ_cons->Yl,toArray->Yk
open Nat renaming add_sub_cancel_left->Yj,div_add_mod->Yi,le_refl->Yh,le_trans->Yg,lt_irrefl->Ye,lt_of_lt_of_le->Yd,lt_succ_of_lt->Yc,lt_succ_self->Yb,lt_trans->X9,mod_lt->X8,mul_comm->X7,mul_div_cancel_left->X6,not_lt_zero->X5,sub_self->X4,succ_mul->X3,zero_add->X2,zero_le->X1
open Option renaming bind_eq_some_iff->X0,bind_some->XZ,map_eq_some_iff->XY,map_some->XX,none->XW,some->XU
open Option.some renaming inj->XT,injEq->XS
open Or renaming elim->XR
open Prod.mk renaming inj->XQ
open PySem renaming Addr->XO,Around->XN,Builtin->XJ,Comprehension->Xw,Fin->Xr,Flow->Xq,Heap->Xp,IsPart->Xf,NameKind->Xa,Program->W8,PyData->W6,Result->WZ,Scope->WY,Sem->WX,Shared->WV,Slot->WU,Stmt->WT,Str->WS,Value->WJ,World->WD,bm_if_false->WC,builtinLookup_eq_fast->WB,call->WA,codeAny_builtin->Wz,entryFor_of_tree->Wy,getMethod_builtin->Wx,intText?->Ww,isSubtype_type->Wv,model->Wu,plainId_quiet->Wt,signature?_of->Ws,sizeLine_eq->Wr,typeIs_str->Wq,typeLookup_type->Wo,wpAny->Wn,wpAny_Constant_int->Wm,wpAny_Constant_str->Wl,wpAny_bind->Wk,wpAny_callSpecial?_slot->Wj,wpAny_call_entry->Wh,wpAny_field->Wg,wpAny_load->Wf,wpAny_loadPart'->We,wpAny_newObj_type->Wc,wpAny_of_eq->Wb,wpAny_pure->Wa,wpAny_specialOf->V9,wpAny_truthy_bool->V8
open PySem.Around renaming under_plainId->XM
open PySem.AutoSeq1 renaming sub_list_list->XK
open PySem.Builtin.Bytes renaming buffer?->XI,exported->XH,fitsIndex->XG,payload->XF,sliced->XE,slotIsOwn->XD,subscript?->XC
open PySem.Builtin.List renaming listTooLong->XB
open PySem.Builtin.Range renaming rangeSize->XA
open PySem.Calls renaming Name_function_global->Xz,docDef->Xy
open PySem.Challenge renaming rw_pk0032_01->Xx
open PySem.F renaming slot_int_index->Xv,slot_list_lt->Xu,slot_tuple_iterator_next->Xs
open PySem.Heap renaming ExtBut->Xo,SameBut->Xn,get?_push_of_some->Xl,get?_push_size->Xk,get?_update_other->Xj,get?_update_self->Xi,lt_size->Xh,size_push->Xg
open PySem.Heap.SameBut renaming update->Xm
open PySem.MeetsSeq renaming plain_index_loop->Xe,plain_remove_loop->Xd
open PySem.MeetsSeq3 renaming entry_eq_loop->Xc,plain_eq_loop->Xb
open PySem.NameKind renaming free->W9
open PySem.PyData renaming canLayAll0->W5,strOk->W4
open PySem.Sem renaming wp_mono->WW
open PySem.Str renaming cps_append->WR,join->WQ,length->WO,ofString->WN
open PySem.Txt renaming replace->WM,strip->WL
open PySem.Unicode renaming isSpace->WK
open PySem.Value renaming ref->WI
open PySem.W renaming typeIs_bytes->WE
open PySem.W.FB renaming slot_bytes_getitem->WH
namespace Mine.Internal
noncomputable def V7:=@if_pos
noncomputable def V6:=@if_neg
noncomputable def V5:=@beq_eq_false_iff_ne
noncomputable def V4:=@congrArg
noncomputable def V3:=@beq_iff_eq
noncomputable def V0:=@decide_eq_true_eq
noncomputable def VZ:=@decide_eq_true
noncomputable def VY:=@decide_eq_false
noncomputable def VX:=@beq_self_eq_true
noncomputable def VW:=@of_decide_eq_true
noncomputable def VV:=@inferInstance
namespace Z
set_option genCtorIdx false in
inductive T
 |v (i:Nat)|j (i:Nat)|n (k:Nat)|a (x y:T)|s (x y:T)|m (k:Nat) (x:T)|w (x:T) (k:Nat)|g (x:T)|c (x:T)|t (x:T)|u (x y:T)|d (x y:T)
set_option genCtorIdx false in
inductive P
 |l (b:Bool) (x y:T)|e (b:Bool) (x y:T)|q (b:Bool) (x y:T)|f|b (p:P)|c (p r:P)|o (p r:P)
noncomputable abbrev L:=List Int
noncomputable def atN (l:List Nat):Nat->Nat:= @List.rec Nat (fun y=>Nat->Nat) (fun y=>0) (fun x y ih i=> @Nat.rec (fun y=>Nat) x (fun j y=>ih j) i) l
noncomputable def MP (l:List Int):Nat->Int:= @List.rec Int (fun y=>Nat->Int) (fun y=>0) (fun x y ih i=> @Nat.rec (fun y=>Int) x (fun j y=>ih j) i) l
noncomputable def T.den (ρ:List Nat)(σ:List Int)(t:T):Nat×Int:= @T.rec (fun z=>Nat×Int) (fun i=>(atN ρ i,0)) (fun i=>(0,MP σ i)) (fun k=>(k,.ofNat k)) (fun z z x y=>(x.1+y.1,x.2+y.2)) (fun z z x y=>(x.1-y.1,x.2-y.2)) (fun k z x=>(k*x.1,(k:Int)*x.2)) (fun z k x=>(x.1*k,x.2*(k:Int))) (fun z x=>(0,-x.2)) (fun z x=>(0,(x.1:Int))) (fun z x=>(x.2.toNat,0)) (fun z z x y=>(max x.1 y.1,max x.2 y.2)) (fun z z x y=>(min x.1 y.1,min x.2 y.2)) t
noncomputable def P.den (ρ:List Nat)(σ:List Int)(p:P):Prop:= @P.rec (fun z=>Prop) (fun b x y=> @Bool.rec (fun z=>Prop) ((x.den ρ σ).1<(y.den ρ σ).1) ((x.den ρ σ).2<(y.den ρ σ).2) b) (fun b x y=> @Bool.rec (fun z=>Prop) ((x.den ρ σ).1<=(y.den ρ σ).1) ((x.den ρ σ).2<=(y.den ρ σ).2) b) (fun b x y=> @Bool.rec (fun z=>Prop) ((x.den ρ σ).1=(y.den ρ σ).1) ((x.den ρ σ).2=(y.den ρ σ).2) b) False (fun z p=>¬p) (fun z z p r=>p/\r) (fun z z p r=>p\/r) p
noncomputable def add (x:L):L->L:= @List.rec Int (fun z=>L->L) (fun y=>y) (fun i x ih y=> @List.rec Int (fun z=>L) (i::x) (fun j y z=>(i+j)::ih y) y) x
noncomputable def mul (k:Int)(x:L):L:= @List.rec Int (fun y=>L) [] (fun i y ih=>k*i::ih) x
noncomputable def ev (x:L):(Nat->Int)->Int:= @List.rec Int (fun y=>(Nat->Int)->Int) (fun y=>0) (fun i y ih ρ=>i*ρ 0+ih fun n=>ρ (n+1)) x
noncomputable def unit (i:Nat):L:= @Nat.rec (fun x=>L) [1] (fun x u=>0::u) i
theorem xq (x:L):∀(y:L)(ρ:Nat->Int),ev (add x y) ρ=ev x ρ+ev y ρ:=by
 induction x with
 |nil=>exact fun y ρ=>(ZI _).symm
 |cons i x ih=>intro y ρ;induction y with|nil=>exact(ZS _).symm|cons j y=>show(i+j)*ρ 0+ev (add x y) _=(i*ρ 0+ev x _)+(j*ρ 0+ev y _);rw[ih y,Int.add_mul,Int.add_assoc,Int.add_assoc,Int.add_left_comm (j*ρ 0)]
theorem mI (k:Int)(x:L):∀(ρ:Nat->Int),ev (mul k x) ρ=k*ev x ρ:=by induction x with|nil=>exact fun ρ=>(Int.mul_zero _).symm|cons i x ih=>exact fun ρ=>(V4 (k*i*ρ 0+·) (ih _)).trans ((V4 (·+_) (Int.mul_assoc ..)).trans (Int.mul_add ..).symm)
theorem xo (i:Nat):∀(ρ:Nat->Int),ev (unit i) ρ=ρ i:=by induction i with|zero=>exact fun ρ=>(ZS _).trans (Int.one_mul _)|succ i ih=>exact fun ρ=>(V4 (0*ρ 0+·) (ih _)).trans ((V4 (·+_) (Int.zero_mul _)).trans (ZI _))
noncomputable def sub (x y:L):L:=add x (mul (-1) y)
noncomputable def dec (x:L):L:=add x [-1]
noncomputable def all (r:List Nat)(σ:List Int):L:= @List.rec Nat (fun y=>L) σ (fun x y ih=>(x:Int)::ih) r
noncomputable def ag (r:List Nat)(σ:List Int)(i:Nat):Int:= @Nat.rec (fun x=>Int) 1 (fun i x=>MP (all r σ) i) i
theorem ZaY (r:List Nat):∀{i:Nat},Nat.blt i r.length=true->MP (all r σ) i=(atN r i:Nat):=by
 induction r with
 |nil=>exact fun h=>nomatch h
 |cons x r ih=>intro i;induction i with
  |zero=>exact fun y=>rfl|succ i=>exact fun h=>ih (i:=i) h
theorem ZaX (r:List Nat):MP (all r σ) (r.length+j)=MP σ j:=by induction r with|nil=>exact V4 (MP σ) (X2 j)|cons x r ih=>exact(V4 (MP (all (x::r) σ)) (Nat.succ_add r.length j)).trans ih
noncomputable def H (ρ:Nat->Int)(cs:List L):Prop:= @List.rec L (fun x=>Prop) True (fun c x ih=>0<=ev c ρ/\ih) cs
section
variable {ρ:Nat->Int} {r:List Nat} {σ:List Int} {R:Prop}
theorem o7 (x y:L):ev (sub x y) ρ=ev x ρ-ev y ρ:=(xq ..).trans ((V4 (_+·) (mI ..)).trans ((V4 (_+·) (Int.neg_one_mul _)).trans Int.sub_eq_add_neg.symm))
theorem HY (x:L):ev (dec x) (ag r σ)=ev x (ag r σ)-1:=xq ..
theorem Hc:0<=ev c ρ->H ρ cs->H ρ (c::cs):=And.intro
noncomputable def val (b:Bool)(p:Nat×Int):Int:= @Bool.rec (fun x=>Int) (p.1:Int) p.2 b
abbrev K:=L->List L->Bool
noncomputable abbrev fork (x y:Bool):Bool:= @Bool.rec (fun z=>Bool) false y x
theorem kO (h:fork x y=true):x=true:=by cases x;exact h;rfl
theorem kN (h:fork x y=true):y=true:=by cases x;exact nomatch h;exact h
noncomputable def bi (x y:Bool->List L->K->Bool)(b:Bool)(cs:List L)(k:L->L->List L->Bool):Bool:=x b cs fun X cs=>y b cs fun Y cs=>k X Y cs
noncomputable def tm (N:Nat)(t:T):Bool->List L->K->Bool:= @T.rec (fun z=>Bool->List L->K->Bool) (fun i b cs k=> @Bool.rec (fun z=>Bool) (fork (Nat.blt i N) (k (0::unit i) cs)) false b) (fun i b cs k=> @Bool.rec (fun z=>Bool) false (k (0::unit (N+i)) cs) b) (fun c z cs k=>k [.ofNat c] cs) (fun z z x y b cs k=>bi x y b cs fun X Y cs=>k (add X Y) cs) (fun z z x y b cs k=>bi x y b cs fun X Y cs=> @Bool.rec (fun z=>Bool) (fork (k (sub X Y) (sub X Y::cs)) (k [] (dec (sub Y X)::cs))) (k (sub X Y) cs) b) (fun c z x b cs k=>x b cs fun X cs=>k (mul (.ofNat c) X) cs) (fun z c x b cs k=>x b cs fun X cs=>k (mul (.ofNat c) X) cs) (fun z x b cs k=>fork b (x true cs fun X cs=>k (mul (-1) X) cs)) (fun z x b cs k=>fork b (x false cs k)) (fun z x b cs k=> @Bool.rec (fun z=>Bool) (x true cs fun X cs=>fork (k X (X::cs)) (k [] (dec (mul (-1) X)::cs))) false b) (fun z z x y b cs k=>bi x y b cs fun X Y cs=>fork (k Y (sub Y X::cs)) (k X (sub X Y::cs))) (fun z z x y b cs k=>bi x y b cs fun X Y cs=>fork (k X (sub Y X::cs)) (k Y (sub X Y::cs))) t
def Ok (r:List Nat)(σ:List Int)(f:Bool->List L->K->Bool)(v:Nat×Int):Prop:=∀{R:Prop}(b:Bool)(cs:List L)(k:K),H (ag r σ) cs->f b cs k=true->(∀X Ig,H (ag r σ) Ig->ev X (ag r σ)=val b v->k X Ig=true->R)->R
theorem nonneg (hx:ev X ρ=a)(hy:ev Y ρ=b)(h:a<=b):0<=ev (sub Y X) ρ:=o7 Y X▸hx▸hy▸Int.sub_nonneg_of_le h
theorem pos (hx:ev X (ag r σ)=a)(hy:ev Y (ag r σ)=b)(h:a<b):0<=ev (dec (sub Y X)) (ag r σ):=HY (r:=r) (σ:=σ) (sub Y X)▸o7 (ρ:=ag r σ) Y X▸hx▸hy▸Int.le_sub_one_of_lt (Int.sub_pos_of_lt h)
theorem Ad (hx:Ok r σ f v)(hy:Ok r σ g w)(h:H (ag r σ) cs)(e:bi f g b cs k=true)(q:∀X Y Ig,H (ag r σ) Ig->ev X (ag r σ)=val b v->ev Y (ag r σ)=val b w->k X Y Ig=true->R):R:=hx b cs _ h e fun X cs h e1 e=>hy b cs _ h e fun Y cs h e2 e=>q X Y cs h e1 e2 e
theorem LU (t:T):Ok r σ (tm r.length t) (t.den r σ):=by
 induction t with
 |v i=>intro _ b cs k h e g;cases b with|false=>exact g _ _ h ((V4 (0*1+·) (xo ..)).trans ((ZI _).trans (ZaY r (kO e)))) (kN e)|true=>exact nomatch e
 |j i=>intro _ b cs k h e g;cases b with|true=>exact g _ _ h ((V4 (0*1+·) (xo ..)).trans ((ZI _).trans (ZaX r))) e|false=>exact nomatch e
 |n c=>exact fun{_}b cs k h e g=>g _ _ h ((ZS _).trans ((Int.mul_one _).trans (by cases b<;>rfl))) e
 |a x y hx hy=>exact fun{_}b cs k h e g=>Ad hx hy h e fun X Y cs h e1 e2 e=>g _ _ h ((xq ..).trans (by rw[e1,e2];cases b<;>rfl)) e
 |s x y hx hy=>
   intro _ b cs k h e g;refine Ad hx hy h e fun X Y cs h e1 e2 e=>?_;have es:=o7 (ρ:=ag r σ) X Y;cases b with
   |true=>exact g _ _ h (es.trans (by rw[e1,e2];rfl)) e
   |false=>
    rcases Nat.lt_or_ge (x.den r σ).1 (y.den r σ).1 with l|l
    ·exact g [] _ (Hc (pos e1 e2 (Int.ofNat_lt.mpr l)) h) (V4 ZM (Nat.sub_eq_zero_of_le (Nat.le_of_lt l)).symm) (kN e)
    ·exact g _ _ (Hc (nonneg e2 e1 (ZL.mpr l)) h) (es.trans (by rw[e1,e2];exact(Int.ofNat_sub l).symm)) (kO e)
 |m c x hx=>exact fun{_}b cs k h e g=>hx b cs _ h e fun X cs h e1 e=>g _ _ h ((mI ..).trans (by rw[e1];cases b<;>rfl)) e
 |w x c hx=>exact fun{_}b cs k h e g=>hx b cs _ h e fun X cs h e1 e=>g _ _ h ((mI ..).trans ((Int.mul_comm ..).trans (by rw[e1];cases b<;>rfl))) e
 |g x hx=>intro _ b cs k h e g;cases b with|true=>exact hx true cs _ h e fun X cs h e1 e=>g _ _ h ((mI ..).trans ((Int.neg_one_mul _).trans (V4 Int.neg e1))) e|false=>exact nomatch e
 |c x hx=>intro _ b cs k h e g;cases b with|true=>exact hx false cs _ h e fun X cs h e1 e=>g _ _ h e1 e|false=>exact nomatch e
 |t x hx=>
   intro _ b cs k h e g;cases b with
   |true=>exact nomatch e
   |false=>
    refine hx true cs _ h e fun X cs h e1 e=>?_;rcases Int.lt_or_le (x.den r σ).2 0 with l|l
    ·exact g [] _ (Hc (by rw[HY,mI,e1,Int.neg_one_mul];exact Int.le_sub_one_of_lt (Int.neg_pos_of_neg l)) h) (V4 ZM (Int.toNat_of_nonpos (Int.le_of_lt l)).symm) (kN e)
    ·exact g _ _ (Hc (e1▸l) h) (e1.trans (ZJ l).symm) (kO e)
 |u x y hx hy=>
   intro _ b cs k h e g;refine Ad hx hy h e fun X Y cs h e1 e2 e=>?_;rcases Int.le_total (val b (x.den r σ)) (val b (y.den r σ))with l|l
   ·exact g _ _ (Hc (nonneg e1 e2 l) h) (e2.trans (by cases b;exact V4 ZM (Nat.max_eq_right (ZL.mp l)).symm;exact(Int.max_eq_right l).symm)) (kO e)
   ·exact g _ _ (Hc (nonneg e2 e1 l) h) (e1.trans (by cases b;exact V4 ZM (Nat.max_eq_left (ZL.mp l)).symm;exact(Int.max_eq_left l).symm)) (kN e)
 |d x y hx hy=>
   intro _ b cs k h e g;refine Ad hx hy h e fun X Y cs h e1 e2 e=>?_;rcases Int.le_total (val b (x.den r σ)) (val b (y.den r σ))with l|l
   ·exact g _ _ (Hc (nonneg e1 e2 l) h) (e1.trans (by cases b;exact V4 ZM (Nat.min_eq_left (ZL.mp l)).symm;exact(Int.min_eq_left l).symm)) (kO e)
   ·exact g _ _ (Hc (nonneg e2 e1 l) h) (e2.trans (by cases b;exact V4 ZM (Nat.min_eq_right (ZL.mp l)).symm;exact(Int.min_eq_right l).symm)) (kN e)
noncomputable def two (N:Nat)(b:Bool)(x y:T)(cs:List L)(k:L->L->List L->Bool):Bool:=bi (tm N x) (tm N y) b cs fun X Y cs=>k (sub X Y) (sub Y X) cs
noncomputable def pr (N:Nat)(p:P):Bool->List L->(List L->Bool)->Bool:= @P.rec (fun z=>Bool->List L->(List L->Bool)->Bool) (fun b x y s cs k=>two N b x y cs fun D D' cs=>k (@Bool.rec (fun z=>L) D (dec D') s::cs)) (fun b x y s cs k=>two N b x y cs fun D D' cs=>k (@Bool.rec (fun z=>L) (dec D) D' s::cs)) (fun b x y s cs k=>two N b x y cs fun D D' cs=> @Bool.rec (fun z=>Bool) (fork (k (dec D::cs)) (k (dec D'::cs))) (k (D::D'::cs)) s) (fun s cs k=> @Bool.rec (fun z=>Bool) (k cs) true s) (fun z p s cs k=>p (!s) cs k) (fun z z p r s cs k=> @Bool.rec (fun z=>Bool) (fork (p false cs k) (r false cs k)) (p true cs fun cs=>r true cs k) s) (fun z z p r s cs k=> @Bool.rec (fun z=>Bool) (p false cs fun cs=>r false cs k) (fork (p true cs k) (r true cs k)) s) p
theorem AA (h:H (ag r σ) cs)(e:two r.length b x y cs k=true)(g:∀X Y Ig,H (ag r σ) Ig->ev X (ag r σ)=val b (x.den r σ)->ev Y (ag r σ)=val b (y.den r σ)->k (sub X Y) (sub Y X) Ig=true->R):R:=Ad (LU x) (LU y) h e fun X Y cs h e1 e2 e=>g _ _ cs h e1 e2 e
theorem Ma:∀(b:Bool),(P.l b x y).den r σ↔val b (x.den r σ)<val b (y.den r σ)|false=>Int.ofNat_lt.symm|true=>.rfl
theorem MH:∀(b:Bool),(P.e b x y).den r σ↔val b (x.den r σ)<=val b (y.den r σ)|false=>ZL.symm|true=>.rfl
theorem LY:∀(b:Bool),(P.q b x y).den r σ↔val b (x.den r σ)=val b (y.den r σ)|false=>Int.ofNat_inj.symm|true=>.rfl
noncomputable def is (s:Bool)(p:Prop):Prop:= @Bool.rec (fun x=>Prop) (¬p) p s
theorem LZ (p:P):∀{R:Prop}(s:Bool)(cs:List L)(k:List L->Bool),H (ag r σ) cs->is s (p.den r σ)->pr r.length p s cs k=true->(∀Ig,H (ag r σ) Ig->k Ig=true->R)->R:=by
 induction p with
 |l b x y=>intro _ s cs k h i e g;refine AA (k:=fun D D' cs=>k (@Bool.rec (fun u=>L) D (dec D') s::cs)) h e fun X Y cs h e1 e2 e=>?_;cases s with|true=>exact g _ (Hc (pos e1 e2 ((Ma b).mp i)) h) e|false=>exact g _ (Hc (nonneg e2 e1 (Int.not_lt.mp fun z=>i ((Ma b).mpr z))) h) e
 |e b x y=>intro _ s cs k h i e g;refine AA (k:=fun D D' cs=>k (@Bool.rec (fun u=>L) (dec D) D' s::cs)) h e fun X Y cs h e1 e2 e=>?_;cases s with|true=>exact g _ (Hc (nonneg e1 e2 ((MH b).mp i)) h) e|false=>exact g _ (Hc (pos e2 e1 (Int.not_le.mp fun z=>i ((MH b).mpr z))) h) e
 |q b x y=>
  intro _ s cs k h i e g;refine AA (k:=fun D D' cs=> @Bool.rec (fun u=>Bool) (fork (k (dec D::cs)) (k (dec D'::cs))) (k (D::D'::cs)) s) h e fun X Y cs h e1 e2 e=>?_;cases s with
  |true=>have l:=(LY b).mp i;exact g _ (Hc (nonneg e2 e1 (ZR l.symm)) (Hc (nonneg e1 e2 (ZR l)) h)) e
  |false=>
   rcases Int.lt_or_gt_of_ne fun z=>i ((LY b).mpr z)with l|l
   ·exact g _ (Hc (pos e1 e2 l) h) (kN e)
   ·exact g _ (Hc (pos e2 e1 l) h) (kO e)
 |f=>intro _ s cs k h i e g;cases s with|true=>exact i.elim|false=>exact g cs h e
 |b p hp=>intro _ s cs k h i e g;cases s with|true=>exact hp false cs k h i e g|false=>exact hp true cs k h (ZU i) e g
 |c p q hp hq=>intro _ s cs k h i e g;cases s with|true=>exact hp true cs _ h (And.left i) e fun cs h e=>hq true cs k h (And.right i) e g|false=>exact Classical.byCases (fun z=>hq false cs k h (fun y=>i ⟨z,y⟩) (kN e) g) fun z=>hp false cs k h z (kO e) g
 |o p q hp hq=>intro _ s cs k h i e g;cases s with|true=>exact XR i (fun i=>hp true cs k h i (kO e) g) fun i=>hq true cs k h i (kN e) g|false=>exact hp false cs _ h (fun z=>i (.inl z)) e fun cs h e=>hq false cs k h (fun z=>i (.inr z)) e g
noncomputable def hd (c:L):Int:= @List.rec Int (fun x=>Int) 0 (fun i x x=>i) c
noncomputable def tl (c:L):L:= @List.rec Int (fun x=>L) [] (fun x t x=>t) c
noncomputable def sg (i:Int):Nat:= @Int.rec (fun x=>Nat) (fun n=> @Nat.rec (fun x=>Nat) 0 (fun x x=>1) n) (fun x=>2) i
noncomputable def H6 (c:L):L:=hd c::tl (tl c)
noncomputable def comb (a b:L):L:=H6 (add (mul (-hd (tl b)) a) (mul (hd (tl a)) b))
noncomputable def pick (k:Nat)(cs:List L):List L:= @List.rec L (fun x=>List L) [] (fun c x ih=> @Bool.rec (fun x=>List L) ih (c::ih) (Nat.beq (sg (hd (tl c))) k)) cs
noncomputable def MK (p:L)(aR ns:List L):List L:= @List.rec L (fun x=>List L) aR (fun n x ih=>comb p n::ih) ns
noncomputable def Ik (ns aR ps:List L):List L:= @List.rec L (fun x=>List L) aR (fun p x ih=>MK p ih ns) ps
noncomputable def drops (cs:List L):List L:= @List.rec L (fun x=>List L) [] (fun c x ih=>H6 c::ih) cs
noncomputable def bad (cs:List L):Bool:= @List.rec L (fun x=>Bool) false (fun c x ih=> @List.rec Int (fun x=>Bool) (@Int.rec (fun x=>Bool) (fun x=>ih) (fun x=>true) (hd c)) (fun x x x=>ih) (tl c)) cs
noncomputable def fm (f:Nat):List L->Bool:= @Nat.rec (fun x=>List L->Bool) bad (fun x ih cs=>ih (Ik (pick 2 cs) (drops (pick 0 cs)) (pick 1 cs))) f
theorem O3 (h1:ρ 0=1)(cs:List L):H ρ cs->bad cs=true->False:=by
 induction cs with
 |nil=>exact fun x e=>nomatch e
 |cons c cs ih=>
  intro h e;cases c with
  |nil=>exact ih h.2 e
  |cons i c=>
   cases c with
   |cons j c=>exact ih h.2 e
   |nil=>cases i with|ofNat n=>exact ih h.2 e|negSucc n=>have h:0<=Int.negSucc n*ρ 0+0:=h.1;rw[h1,ZS,Int.mul_one]at h;exact nomatch h
noncomputable def nx (ρ:Nat->Int)(n:Nat):Int:= @Nat.rec (fun x=>Int) 1 (fun n x=>ρ (n+2)) n
theorem ev3 (h1:ρ 0=1)(c:L):ev c ρ=ev (H6 c) (nx ρ)+hd (tl c)*ρ 1:=by
 cases c with
 |nil=>exact V4 ((0:Int)+·) (Int.zero_mul (ρ 1)).symm
 |cons i c=>show i*ρ 0+_=_;rw[h1];cases c with|nil=>exact(ZS _).symm.trans (V4 (i*1+0+·) (Int.zero_mul (ρ 1)).symm)|cons j c=>exact(V4 (i*1+·) (Int.add_comm ..)).trans (Int.add_assoc ..).symm
theorem NW (x y:L):hd (tl (add x y))=hd (tl x)+hd (tl y):=by
 cases x with
 |nil=>exact(ZI _).symm
 |cons i x=>cases y with
  |nil=>exact(ZS _).symm
  |cons j y=>cases x with
   |nil=>exact(ZI _).symm
   |cons k x=>cases y with
    |nil=>exact(ZS _).symm|cons l y=>rfl
theorem Hp (k:Int)(x:L):hd (tl (mul k x))=k*hd (tl x):=by
 cases x with
 |nil=>exact(Int.mul_zero k).symm
 |cons i x=>cases x with
  |nil=>exact(Int.mul_zero k).symm|cons j x=>rfl
theorem Lk (h1:ρ 0=1)(ha:0<=ev a ρ)(hb:0<=ev b ρ)(p:0<=hd (tl a))(n:hd (tl b)<=0):0<=ev (comb a b) (nx ρ):=by have h:=Int.add_nonneg (Int.mul_nonneg (Int.neg_nonneg_of_nonpos n) ha) (Int.mul_nonneg p hb);rw[<-mI,<-mI,<-xq,ev3 h1,NW,Hp,Hp,Int.neg_mul,Int.mul_comm (hd (tl b)),Int.add_left_neg,Int.zero_mul,ZS]at h;exact h
noncomputable def Hs (ρ:Nat->Int)(k:Nat)(cs:List L):Prop:= @List.rec L (fun x=>Prop) True (fun c x ih=>(0<=ev c ρ/\sg (hd (tl c))=k)/\ih) cs
theorem wC (k:Nat)(cs:List L):H ρ cs->Hs ρ k (pick k cs):=by
 induction cs with
 |nil=>exact fun x=>trivial
 |cons c cs ih=>intro h;show Hs ρ k (@Bool.rec (fun x=>List L) (pick k cs) (c::pick k cs) (Nat.beq (sg (hd (tl c))) k));cases e:Nat.beq (sg (hd (tl c))) k with|false=>exact ih h.2|true=>exact⟨⟨h.1,Nat.eq_of_beq_eq_true e⟩,ih h.2⟩
theorem sg0:∀{i:Int},sg i=0->i=0| .ofNat 0,_=>rfl| .ofNat (_+1),e=>nomatch e| .negSucc _,e=>nomatch e
theorem sg1:∀{i:Int},sg i=1->0<=i| .ofNat n,_=>ZN n| .negSucc _,e=>nomatch e
theorem sg2:∀{i:Int},sg i=2->i<=0| .ofNat 0,e=>nomatch e| .ofNat (_+1),e=>nomatch e| .negSucc n,_=>Int.le_of_lt (Int.negSucc_lt_zero n)
theorem H5 (h1:ρ 0=1)(cs:List L):Hs ρ 0 cs->H (nx ρ) (drops cs):=by induction cs with|nil=>exact fun x=>trivial|cons c cs ih=>intro h;have e:=h.1.1;rw[ev3 h1,sg0 h.1.2,Int.zero_mul,ZS]at e;exact⟨e,ih h.2⟩
theorem Il (h1:ρ 0=1)(hp:0<=ev p ρ)(hs:0<=hd (tl p))(ha:H (nx ρ) aR)(ns:List L):Hs ρ 2 ns->H (nx ρ) (MK p aR ns):=by induction ns with|nil=>exact fun x=>ha|cons c cs ih=>exact fun h=>⟨Lk h1 hp h.1.1 hs (sg2 h.1.2),ih h.2⟩
theorem EU (h1:ρ 0=1)(hn:Hs ρ 2 ns)(ha:H (nx ρ) aR)(ps:List L):Hs ρ 1 ps->H (nx ρ) (Ik ns aR ps):=by induction ps with|nil=>exact fun x=>ha|cons c cs ih=>exact fun h=>Il h1 h.1.1 (sg1 h.1.2) (ih h.2) ns hn
theorem Sz (f:Nat):∀(ρ:Nat->Int)(cs:List L),ρ 0=1->H ρ cs->fm f cs=true->False:=by induction f with|zero=>exact fun ρ cs h1 h e=>O3 h1 cs h e|succ f ih=>exact fun ρ cs h1 h e=>ih (nx ρ) _ rfl (EU h1 (wC 2 cs h) (H5 h1 _ (wC 0 cs h)) _ (wC 1 cs h)) e
noncomputable def nn (n:Nat):List L:= @Nat.rec (fun x=>List L) [] (fun i ih=>(0::unit i)::ih) n
theorem TJ (r:List Nat):∀(i:Nat),i<r.length->0<=MP (all r σ) i:=by
 induction r with
 |nil=>exact fun y h=>nomatch h
 |cons x r ih=>intro i;cases i with
  |zero=>exact fun y=>ZN x|succ i=>exact fun h=>ih i (Nat.lt_of_succ_lt_succ h)
theorem QV (n:Nat):n<=r.length->H (ag r σ) (nn n):=by induction n with|zero=>exact fun x=>trivial|succ i ih=>exact fun l=>⟨ZQ (TJ r i l) (ZR ((V4 (0*1+·) (xo ..)).trans (ZI _)).symm),ih (Nat.le_of_succ_le l)⟩
noncomputable def run (N n:Nat)(p:P)(ps:List P):List L->Bool:= @List.rec P (fun x=>P->List L->Bool) (fun p cs=>pr N p false cs (fm n)) (fun q x ih p cs=>pr N p true cs (ih q)) ps p
noncomputable def den (r:List Nat)(σ:List Int)(p:P)(ps:List P):Prop:= @List.rec P (fun x=>P->Prop) (fun p=>p.den r σ) (fun q x ih p=>p.den r σ->ih q) ps p
theorem wq (n:Nat)(ps:List P):∀(p:P)(cs:List L),H (ag r σ) cs->run r.length n p ps cs=true->den r σ p ps:=by induction ps with|nil=>exact fun p cs h e=>ZU fun hn=>LZ p false cs _ h hn e fun cs h e=>Sz n _ cs rfl h e|cons q ps ih=>exact fun p cs h e hp=>LZ p true cs _ h hp e fun cs h e=>ih q cs h e
noncomputable def sel {α:Type}(o:α)(l:List α):Nat->α:= @List.rec α (fun y=>Nat->α) (fun y=>o) (fun x y ih i=> @Nat.rec (fun y=>α) x (fun j y=>ih j) i) l
noncomputable abbrev Rd (α:Type):=Nat->α×Nat
noncomputable def one {α β:Type}(f:Rd α)(c:α->β):Rd β:=fun k=>(c (f k).1,(f k).2)
noncomputable def both {α β:Type}(f:Rd α)(c:α->α->β):Rd β:=fun k=>(c (f k).1 (f (f k).2).1,(f (f k).2).2)
noncomputable def lit (n:Nat):Rd Nat:=fun k=>(k%n,k/n)
noncomputable def rT (f:Nat):Rd T:= @Nat.rec (fun x=>Rd T) (fun k=>(.n 0,k)) (fun x r k=> @Bool.rec (fun x=>T×Nat) (sel (fun k=>(.n 0,k)) [fun k=>(.n 0,k),fun k=>(.n 1,k),one (lit 256) .n,both r .a,both r .s,fun k=>one r (.m (k%256)) (k/256),fun k=>one r (.w · (k%256)) (k/256),fun k=> @Bool.rec (fun x=>T×Nat) (sel (fun k=>(.n 0,k)) [one (lit 4294967296) .n,one r .g,one r .c,one r .t,both r .u,both r .d] (k%16-8) (k/16)) (.j (k%16),k/16) (Nat.blt (k%16) 8)] (k%16-8) (k/16)) (.v (k%16),k/16) (Nat.blt (k%16) 8)) f
noncomputable def rP (f:Nat):Rd P:= @Nat.rec (fun x=>Rd P) (fun k=>(.f,k)) (fun x r k=>(fun t=>sel (fun k=>(.f,k)) [both t (.l false),both t (.e false),both t (.q false),one r .b,both r .c,both r .o,fun k=>(.f,k),both t (.l true),both t (.e true),both t (.q true)] (k%16) (k/16)) (rT 20)) f
noncomputable def rL (n:Nat):Nat->List P:= @Nat.rec (fun x=>Nat->List P) (fun x=>[]) (fun x ih k=>(rP 20 k).1::ih (rP 20 k).2) n
noncomputable def p1 (k:Nat):P:=(rP 20 (k/16)).1
noncomputable def ps (k:Nat):List P:=rL (k%16-1) (rP 20 (k/16)).2
noncomputable def ck (N M k:Nat):Bool:=run N (N+M) (p1 k) (ps k) (nn N)
noncomputable def dn (r:List Nat)(σ:List Int)(k:Nat):Prop:=den r σ (p1 k) (ps k)
theorem C2 (r:List Nat)(σ:List Int)(h:ck r.length σ.length k=true):dn r σ k:=wq _ _ _ _ (QV _ (Yh _)) h
end
end Z
section
open Z
theorem bq (k:Nat)(h:ck 1 0 k=true):dn [a] [] k:=C2 _ _ h
theorem aT (k:Nat)(h:ck 2 0 k=true):dn [a,b] [] k:=C2 _ _ h
theorem br (k:Nat)(h:ck 3 0 k=true):dn [a,b,c] [] k:=C2 _ _ h
theorem cX (k:Nat)(h:ck 4 0 k=true):dn [a,b,c,d] [] k:=C2 _ _ h
theorem oC (k:Nat)(h:ck 5 0 k=true):dn [a,b,c,d,e] [] k:=C2 _ _ h
theorem CC (k:Nat)(h:ck 6 0 k=true):dn [a,b,c,d,e,f] [] k:=C2 _ _ h
theorem PJ (k:Nat)(h:ck 7 0 k=true):dn [a,b,c,d,e,f,g] [] k:=C2 _ _ h
theorem MU (k:Nat)(h:ck 8 0 k=true):dn [a,b,c,d,e,f,g,i] [] k:=C2 _ _ h
theorem An (k:Nat)(h:ck 0 1 k=true):dn [] [a] k:=C2 _ _ h
theorem Pl (k:Nat)(h:ck 0 2 k=true):dn [] [a,b] k:=C2 _ _ h
theorem UH (k:Nat)(h:ck 0 3 k=true):dn [] [a,b,c] k:=C2 _ _ h
theorem Pk (k:Nat)(h:ck 1 1 k=true):dn [a] [x] k:=C2 _ _ h
theorem zC2 (k:Nat)(h:ck 2 1 k=true):dn [a,b] [x] k:=C2 _ _ h
theorem UG (k:Nat)(h:ck 3 1 k=true):dn [a,b,c] [x] k:=C2 _ _ h
end
section
universe u0 u1 u2 u3 u4 u5 u6
theorem aZ {p0 p1:Prop}{G:Prop}(h:p0/\p1)(f:p0->p1->G):G:=f h.1 h.2
theorem aM {gq:Sort u0}{p0:gq->Prop}{G:Prop}(h:∃a0,p0 a0)(f:∀a0,p0 a0->G):G:=h.elim f
theorem bH {p0 p1 p2:Prop}{G:Prop}(h:p0/\p1/\p2)(f:p0->p1->p2->G):G:=f h.1 h.2.1 h.2.2
theorem aE {gq:Sort u0}{p0 p1:gq->Prop}{G:Prop}(h:∃a0,p0 a0/\p1 a0)(f:∀a0,p0 a0->p1 a0->G):G:=h.elim fun a h=>aZ h (f a)
theorem gY {gq:Sort u0}{i0:Sort u1}{p0:gq->i0->Prop}{G:Prop}(h:∃a0 a1,p0 a0 a1)(f:∀a0 a1,p0 a0 a1->G):G:=h.elim fun a h=>aM h (f a)
theorem lH {p0 p1 p2 p3:Prop}{G:Prop}(h:p0/\p1/\p2/\p3)(f:p0->p1->p2->p3->G):G:=f h.1 h.2.1 h.2.2.1 h.2.2.2
theorem eB {gq:Sort u0}{p0 p1 p2:gq->Prop}{G:Prop}(h:∃a0,p0 a0/\p1 a0/\p2 a0)(f:∀a0,p0 a0->p1 a0->p2 a0->G):G:=h.elim fun a h=>bH h (f a)
theorem fE {gq:Sort u0}{i0:Sort u1}{p0 p1:gq->i0->Prop}{G:Prop}(h:∃a0 a1,p0 a0 a1/\p1 a0 a1)(f:∀a0 a1,p0 a0 a1->p1 a0 a1->G):G:=h.elim fun a h=>aE h (f a)
theorem iM {gq:Sort u0}{i0:Sort u1}{mW:Sort u2}{p0:gq->i0->mW->Prop}{G:Prop}(h:∃a0 a1 a2,p0 a0 a1 a2)(f:∀a0 a1 a2,p0 a0 a1 a2->G):G:=h.elim fun a h=>gY h (f a)
theorem tN {p0 p1 p2 p3 p4:Prop}{G:Prop}(h:p0/\p1/\p2/\p3/\p4)(f:p0->p1->p2->p3->p4->G):G:=f h.1 h.2.1 h.2.2.1 h.2.2.2.1 h.2.2.2.2
theorem Jj {gq:Sort u0}{p0 p1 p2 p3:gq->Prop}{G:Prop}(h:∃a0,p0 a0/\p1 a0/\p2 a0/\p3 a0)(f:∀a0,p0 a0->p1 a0->p2 a0->p3 a0->G):G:=h.elim fun a h=>lH h (f a)
theorem eH {gq:Sort u0}{i0:Sort u1}{p0 p1 p2:gq->i0->Prop}{G:Prop}(h:∃a0 a1,p0 a0 a1/\p1 a0 a1/\p2 a0 a1)(f:∀a0 a1,p0 a0 a1->p1 a0 a1->p2 a0 a1->G):G:=h.elim fun a h=>eB h (f a)
theorem jX {gq:Sort u0}{i0:Sort u1}{mW:Sort u2}{p0 p1:gq->i0->mW->Prop}{G:Prop}(h:∃a0 a1 a2,p0 a0 a1 a2/\p1 a0 a1 a2)(f:∀a0 a1 a2,p0 a0 a1 a2->p1 a0 a1 a2->G):G:=h.elim fun a h=>fE h (f a)
theorem MX {gq:Sort u0}{i0:Sort u1}{mW:Sort u2}{vP:Sort u3}{p0:gq->i0->mW->vP->Prop}{G:Prop}(h:∃a0 a1 a2 a3,p0 a0 a1 a2 a3)(f:∀a0 a1 a2 a3,p0 a0 a1 a2 a3->G):G:=h.elim fun a h=>iM h (f a)
theorem DF {p0 p1 p2 p3 p4 p5:Prop}{G:Prop}(h:p0/\p1/\p2/\p3/\p4/\p5)(f:p0->p1->p2->p3->p4->p5->G):G:=f h.1 h.2.1 h.2.2.1 h.2.2.2.1 h.2.2.2.2.1 h.2.2.2.2.2
theorem ye {gq:Sort u0}{p0 p1 p2 p3 p4:gq->Prop}{G:Prop}(h:∃a0,p0 a0/\p1 a0/\p2 a0/\p3 a0/\p4 a0)(f:∀a0,p0 a0->p1 a0->p2 a0->p3 a0->p4 a0->G):G:=h.elim fun a h=>tN h (f a)
theorem mi {gq:Sort u0}{i0:Sort u1}{p0 p1 p2 p3:gq->i0->Prop}{G:Prop}(h:∃a0 a1,p0 a0 a1/\p1 a0 a1/\p2 a0 a1/\p3 a0 a1)(f:∀a0 a1,p0 a0 a1->p1 a0 a1->p2 a0 a1->p3 a0 a1->G):G:=h.elim fun a h=>Jj h (f a)
theorem qV {gq:Sort u0}{i0:Sort u1}{mW:Sort u2}{p0 p1 p2:gq->i0->mW->Prop}{G:Prop}(h:∃a0 a1 a2,p0 a0 a1 a2/\p1 a0 a1 a2/\p2 a0 a1 a2)(f:∀a0 a1 a2,p0 a0 a1 a2->p1 a0 a1 a2->p2 a0 a1 a2->G):G:=h.elim fun a h=>eH h (f a)
theorem DE {gq:Sort u0}{i0:Sort u1}{mW:Sort u2}{vP:Sort u3}{p0 p1:gq->i0->mW->vP->Prop}{G:Prop}(h:∃a0 a1 a2 a3,p0 a0 a1 a2 a3/\p1 a0 a1 a2 a3)(f:∀a0 a1 a2 a3,p0 a0 a1 a2 a3->p1 a0 a1 a2 a3->G):G:=h.elim fun a h=>jX h (f a)
theorem UO {gq:Sort u0}{i0:Sort u1}{mW:Sort u2}{vP:Sort u3}{Fu:Sort u4}{p0:gq->i0->mW->vP->Fu->Prop}{G:Prop}(h:∃a0 a1 a2 a3 a4,p0 a0 a1 a2 a3 a4)(f:∀a0 a1 a2 a3 a4,p0 a0 a1 a2 a3 a4->G):G:=h.elim fun a h=>MX h (f a)
theorem PK {p0 p1 p2 p3 p4 p5 p6:Prop}{G:Prop}(h:p0/\p1/\p2/\p3/\p4/\p5/\p6)(f:p0->p1->p2->p3->p4->p5->p6->G):G:=f h.1 h.2.1 h.2.2.1 h.2.2.2.1 h.2.2.2.2.1 h.2.2.2.2.2.1 h.2.2.2.2.2.2
theorem Fz {gq:Sort u0}{p0 p1 p2 p3 p4 p5:gq->Prop}{G:Prop}(h:∃a0,p0 a0/\p1 a0/\p2 a0/\p3 a0/\p4 a0/\p5 a0)(f:∀a0,p0 a0->p1 a0->p2 a0->p3 a0->p4 a0->p5 a0->G):G:=h.elim fun a h=>DF h (f a)
theorem Fy {gq:Sort u0}{i0:Sort u1}{p0 p1 p2 p3 p4:gq->i0->Prop}{G:Prop}(h:∃a0 a1,p0 a0 a1/\p1 a0 a1/\p2 a0 a1/\p3 a0 a1/\p4 a0 a1)(f:∀a0 a1,p0 a0 a1->p1 a0 a1->p2 a0 a1->p3 a0 a1->p4 a0 a1->G):G:=h.elim fun a h=>ye h (f a)
theorem iL {gq:Sort u0}{i0:Sort u1}{mW:Sort u2}{p0 p1 p2 p3:gq->i0->mW->Prop}{G:Prop}(h:∃a0 a1 a2,p0 a0 a1 a2/\p1 a0 a1 a2/\p2 a0 a1 a2/\p3 a0 a1 a2)(f:∀a0 a1 a2,p0 a0 a1 a2->p1 a0 a1 a2->p2 a0 a1 a2->p3 a0 a1 a2->G):G:=h.elim fun a h=>mi h (f a)
theorem ke {gq:Sort u0}{i0:Sort u1}{mW:Sort u2}{vP:Sort u3}{p0 p1 p2:gq->i0->mW->vP->Prop}{G:Prop}(h:∃a0 a1 a2 a3,p0 a0 a1 a2 a3/\p1 a0 a1 a2 a3/\p2 a0 a1 a2 a3)(f:∀a0 a1 a2 a3,p0 a0 a1 a2 a3->p1 a0 a1 a2 a3->p2 a0 a1 a2 a3->G):G:=h.elim fun a h=>qV h (f a)
theorem UN {gq:Sort u0}{i0:Sort u1}{mW:Sort u2}{vP:Sort u3}{Fu:Sort u4}{p0 p1:gq->i0->mW->vP->Fu->Prop}{G:Prop}(h:∃a0 a1 a2 a3 a4,p0 a0 a1 a2 a3 a4/\p1 a0 a1 a2 a3 a4)(f:∀a0 a1 a2 a3 a4,p0 a0 a1 a2 a3 a4->p1 a0 a1 a2 a3 a4->G):G:=h.elim fun a h=>DE h (f a)
theorem UM {gq:Sort u0}{i0:Sort u1}{mW:Sort u2}{vP:Sort u3}{Fu:Sort u4}{PH:Sort u5}{p0:gq->i0->mW->vP->Fu->PH->Prop}{G:Prop}(h:∃a0 a1 a2 a3 a4 a5,p0 a0 a1 a2 a3 a4 a5)(f:∀a0 a1 a2 a3 a4 a5,p0 a0 a1 a2 a3 a4 a5->G):G:=h.elim fun a h=>UO h (f a)
theorem UL {p0 p1 p2 p3 p4 p5 p6 p7:Prop}{G:Prop}(h:p0/\p1/\p2/\p3/\p4/\p5/\p6/\p7)(f:p0->p1->p2->p3->p4->p5->p6->p7->G):G:=f h.1 h.2.1 h.2.2.1 h.2.2.2.1 h.2.2.2.2.1 h.2.2.2.2.2.1 h.2.2.2.2.2.2.1 h.2.2.2.2.2.2.2
theorem Ji {gq:Sort u0}{i0:Sort u1}{p0 p1 p2 p3 p4 p5:gq->i0->Prop}{G:Prop}(h:∃a0 a1,p0 a0 a1/\p1 a0 a1/\p2 a0 a1/\p3 a0 a1/\p4 a0 a1/\p5 a0 a1)(f:∀a0 a1,p0 a0 a1->p1 a0 a1->p2 a0 a1->p3 a0 a1->p4 a0 a1->p5 a0 a1->G):G:=h.elim fun a h=>Fz h (f a)
theorem DD {gq:Sort u0}{i0:Sort u1}{mW:Sort u2}{p0 p1 p2 p3 p4:gq->i0->mW->Prop}{G:Prop}(h:∃a0 a1 a2,p0 a0 a1 a2/\p1 a0 a1 a2/\p2 a0 a1 a2/\p3 a0 a1 a2/\p4 a0 a1 a2)(f:∀a0 a1 a2,p0 a0 a1 a2->p1 a0 a1 a2->p2 a0 a1 a2->p3 a0 a1 a2->p4 a0 a1 a2->G):G:=h.elim fun a h=>Fy h (f a)
theorem cQ {gq:Sort u0}{i0:Sort u1}{mW:Sort u2}{vP:Sort u3}{p0 p1 p2 p3:gq->i0->mW->vP->Prop}{G:Prop}(h:∃a0 a1 a2 a3,p0 a0 a1 a2 a3/\p1 a0 a1 a2 a3/\p2 a0 a1 a2 a3/\p3 a0 a1 a2 a3)(f:∀a0 a1 a2 a3,p0 a0 a1 a2 a3->p1 a0 a1 a2 a3->p2 a0 a1 a2 a3->p3 a0 a1 a2 a3->G):G:=h.elim fun a h=>iL h (f a)
theorem MW {gq:Sort u0}{i0:Sort u1}{mW:Sort u2}{vP:Sort u3}{Fu:Sort u4}{p0 p1 p2:gq->i0->mW->vP->Fu->Prop}{G:Prop}(h:∃a0 a1 a2 a3 a4,p0 a0 a1 a2 a3 a4/\p1 a0 a1 a2 a3 a4/\p2 a0 a1 a2 a3 a4)(f:∀a0 a1 a2 a3 a4,p0 a0 a1 a2 a3 a4->p1 a0 a1 a2 a3 a4->p2 a0 a1 a2 a3 a4->G):G:=h.elim fun a h=>ke h (f a)
theorem yd {gq:Sort u0}{i0:Sort u1}{mW:Sort u2}{vP:Sort u3}{Fu:Sort u4}{PH:Sort u5}{p0 p1:gq->i0->mW->vP->Fu->PH->Prop}{G:Prop}(h:∃a0 a1 a2 a3 a4 a5,p0 a0 a1 a2 a3 a4 a5/\p1 a0 a1 a2 a3 a4 a5)(f:∀a0 a1 a2 a3 a4 a5,p0 a0 a1 a2 a3 a4 a5->p1 a0 a1 a2 a3 a4 a5->G):G:=h.elim fun a h=>UN h (f a)
theorem MV {gq:Sort u0}{i0:Sort u1}{mW:Sort u2}{vP:Sort u3}{Fu:Sort u4}{PH:Sort u5}{α6:Sort u6}{p0:gq->i0->mW->vP->Fu->PH->α6->Prop}{G:Prop}(h:∃a0 a1 a2 a3 a4 a5 a6,p0 a0 a1 a2 a3 a4 a5 a6)(f:∀a0 a1 a2 a3 a4 a5 a6,p0 a0 a1 a2 a3 a4 a5 a6->G):G:=h.elim fun a h=>UM h (f a)
@[elab_as_elim] theorem xR {α:Sort u0} {a b:α} {P:α->Prop} (h:a=b) (k:P b):P a:=h.symm▸k
@[elab_as_elim] theorem xL {α:Sort u0} {a b:α} {P:α->Prop} (h:b=a) (k:P b):P a:=h▸k
theorem xP6 {a b c d e g:Type}{P:a×b×c×d×e×g->Prop}(f:∀x y z u v w,P (x,y,z,u,v,w)):∀x,P x:=fun x=>f x.1 x.2.1 x.2.2.1 x.2.2.2.1 x.2.2.2.2.1 x.2.2.2.2.2
@[elab_as_elim] theorem len0 {α:Type} {P:List α->Prop} {l:List α} (h:l.length=0) (f:P []):P l:=by
 induction l with
 |nil=>exact f
 |cons a l=>exact nomatch h
@[elab_as_elim] theorem NG {α:Type} {P:List α->Prop} {l:List α} {n:Nat} (h:l.length=n+1) (f:∀a r,r.length=n->P (a::r)):P l:=by
 induction l with
 |nil=>exact nomatch h
 |cons a l=>exact f a l (Nat.succ.inj h)
@[elab_as_elim] theorem Vt {α:Type} {P:List α->Prop} {l:List α} (h:l.length=1) (f:∀a,P [a]):P l:=NG h fun a r h=>len0 h (f a)
theorem OP {α:Type}{l:List α}(h:l.length=1):∃a,l=[a]:=NG h fun a r h=>len0 h ⟨a,rfl⟩
theorem SD {α:Type}{l:List α}(h:l.length=2):∃a b,l=[a,b]:=NG h fun a r h=>(OP h).elim fun b e=>⟨a,b,e▸rfl⟩
end
open PySem PySem.W PyProof.Rows
noncomputable def Qv:WJ->Option XO| .ref a=>XU a|_=>XW
def xC (K:Frag)(f:WS):Bool:=(((nsIn K mainGlobals f).bind fun o=>o.bind Qv).bind fun a=>(K.lookup a).bind fun o=>if o.cls=.none then XW else XU ()).isSome
noncomputable def sH (h:Xp)(l:List XO):Frag:=List.rec [] (fun a _ r=>(h.get? a).elim r fun o=>(a,o)::r) l
theorem EI (h:Xp):∀l:List XO,Frag.In (sH h l) h:=by
 intro l;induction l with
 |nil=>exact fun b o e=>nomatch e
 |cons a l ih=>
  intro b o e;have e:((h.get? a).elim (sH h l) fun o=>(a,o)::sH h l).lookup b=XU o:=e;rcases k:h.get? a with _|o'
  ·rw[k]at e;exact ih b o e
  rw[k]at e;replace e:((a,o')::sH h l).lookup b=XU o:=e;rw[YT]at e;rcases g:b==a with _|_
  ·rw[g]at e;exact ih b o e
  ·rw[g]at e;rw[beq_iff_eq.mp g,k];exact e
noncomputable def hookAt {β:Type}(l:List XO)(see:Frag->β)(val:WD->β):Hook:=⟨β,fun s=>see (sH s.heap l),val,fun w h=>∃K:Frag,K.In h/\see K=val w,fun w s x=>⟨_,EI s.heap l,x⟩,fun w h h' y k=>y.elim fun K z=>⟨K,fun a o e=>k a o (z.1 a o e),z.2⟩⟩
namespace Re
noncomputable def code:Array Nat:= #[14,4,0,1,4294967295,17,0,7,14,24,10,1,4294967295,13,5,22,48,57,0,1,15,17,15,13,11,9,0,26624,2147483648,0,0,0,0,0,0,15,2,0,17,1,1]
end Re
noncomputable def gB {α:Type}(n:Nonempty α)(P:α->Prop):α:= @Classical.epsilon α n fun x=>¬P x
theorem kR {α:Type}(n:Nonempty α){P:α->Prop}(h:P (gB n P))(x:α):P x:=ZU fun hx=> @Classical.epsilon_spec α (fun x=>¬P x) ⟨x,hx⟩ h
theorem bL {α β:Type}(h:Nonempty α)(k:Nonempty β):Nonempty (α×β):=h.elim fun a=>k.elim fun b=>⟨(a,b)⟩
theorem pQ:Nonempty WV:=⟨{}⟩
theorem pR:Nonempty XN:=⟨{}⟩
theorem Fi:Nonempty WD:=⟨⟨fun _ _=>0,{strHash:=fun _=>0,shareClass:=fun _=>0,mergeTok:=fun x=>x,idOf:=fun _=>0,idOfShared:=fun _ _=>0,followText:=fun _=>false,idOfImm:=fun _=>0}⟩⟩
theorem neM:Nonempty Model:=Fi.elim fun w=>⟨Wu default w⟩
@[elab_as_elim] theorem xA1 {α:Type} {P:α->Prop} (n:Nonempty α) (h:P (gB n P)) (x):P x:=kR n h x
abbrev K3 {α β γ:Type}(P:α->β->γ->Prop)(t:((α×β)×γ)):Prop:=P t.1.1 t.1.2 t.2
@[elab_as_elim] theorem TV {α β γ:Type} {P:α->β->γ->Prop} (n:Nonempty ((α×β)×γ)) (h:K3 P (gB n (K3 P))) (x0 x1 x2):P x0 x1 x2:=kR n h ((x0,x1),x2)
abbrev K5 {α β γ δ ε:Type}(P:α->β->γ->δ->ε->Prop)(t:(((α×β)×γ)×(δ×ε))):Prop:=P t.1.1.1 t.1.1.2 t.1.2 t.2.1 t.2.2
@[elab_as_elim] theorem xA5 {α β γ δ ε:Type} {P:α->β->γ->δ->ε->Prop} (n:Nonempty (((α×β)×γ)×(δ×ε))) (h:K5 P (gB n (K5 P))) (x0 x1 x2 x3 x4):P x0 x1 x2 x3 x4:=kR n h (((x0,x1),x2),(x3,x4))
abbrev K8 {α β γ δ ε ζ η θ:Type}(P:α->β->γ->δ->ε->ζ->η->θ->Prop)(t:(((α×β)×(γ×δ))×((ε×ζ)×(η×θ)))):Prop:=P t.1.1.1 t.1.1.2 t.1.2.1 t.1.2.2 t.2.1.1 t.2.1.2 t.2.2.1 t.2.2.2
@[elab_as_elim] theorem MY {α β γ δ ε ζ η θ:Type} {P:α->β->γ->δ->ε->ζ->η->θ->Prop} (n:Nonempty (((α×β)×(γ×δ))×((ε×ζ)×(η×θ)))) (h:K8 P (gB n (K8 P))) (x0 x1 x2 x3 x4 x5 x6 x7):P x0 x1 x2 x3 x4 x5 x6 x7:=kR n h (((x0,x1),(x2,x3)),((x4,x5),(x6,x7)))
abbrev I3 {α β γ δ ε ζ η θ ι κ:Type}(P:α->β->γ->δ->ε->ζ->η->θ->ι->κ->Prop)(t:((((α×β)×γ)×(δ×ε))×(((ζ×η)×θ)×(ι×κ)))):Prop:=P t.1.1.1.1 t.1.1.1.2 t.1.1.2 t.1.2.1 t.1.2.2 t.2.1.1.1 t.2.1.1.2 t.2.1.2 t.2.2.1 t.2.2.2
@[elab_as_elim] theorem vR {α β γ δ ε ζ η θ ι κ:Type} {P:α->β->γ->δ->ε->ζ->η->θ->ι->κ->Prop} (n:Nonempty ((((α×β)×γ)×(δ×ε))×(((ζ×η)×θ)×(ι×κ)))) (h:I3 P (gB n (I3 P))) (x0 x1 x2 x3 x4 x5 x6 x7 x8 x9):P x0 x1 x2 x3 x4 x5 x6 x7 x8 x9:=kR n h ((((x0,x1),x2),(x3,x4)),(((x5,x6),x7),(x8,x9)))
abbrev As {α β γ δ ε ζ η θ ι κ μ ν ξ:Type}(P:α->β->γ->δ->ε->ζ->η->θ->ι->κ->μ->ν->ξ->Prop)(t:((((α×β)×(γ×δ))×((ε×ζ)×η))×(((θ×ι)×κ)×((μ×ν)×ξ)))):Prop:=P t.1.1.1.1 t.1.1.1.2 t.1.1.2.1 t.1.1.2.2 t.1.2.1.1 t.1.2.1.2 t.1.2.2 t.2.1.1.1 t.2.1.1.2 t.2.1.2 t.2.2.1.1 t.2.2.1.2 t.2.2.2
@[elab_as_elim] theorem mX {α β γ δ ε ζ η θ ι κ μ ν ξ:Type} {P:α->β->γ->δ->ε->ζ->η->θ->ι->κ->μ->ν->ξ->Prop} (n:Nonempty ((((α×β)×(γ×δ))×((ε×ζ)×η))×(((θ×ι)×κ)×((μ×ν)×ξ)))) (h:As P (gB n (As P))) (x0 x1 x2 x3 x4 x5 x6 x7 x8 x9 PM PL Av):P x0 x1 x2 x3 x4 x5 x6 x7 x8 x9 PM PL Av:=kR n h ((((x0,x1),(x2,x3)),((x4,x5),x6)),(((x7,x8),x9),((PM,PL),Av)))
abbrev Pg {α β γ δ ε ζ η θ ι κ μ ν ξ π ρ σ τ υ φ χ ψ ω ϕ ϑ:Type}(P:α->β->γ->δ->ε->ζ->η->θ->ι->κ->μ->ν->ξ->π->ρ->σ->τ->υ->φ->χ->ψ->ω->ϕ->ϑ->Prop)(t:(((((α×β)×γ)×((δ×ε)×ζ))×(((η×θ)×ι)×((κ×μ)×ν)))×((((ξ×π)×ρ)×((σ×τ)×υ))×(((φ×χ)×ψ)×((ω×ϕ)×ϑ))))):Prop:=P t.1.1.1.1.1 t.1.1.1.1.2 t.1.1.1.2 t.1.1.2.1.1 t.1.1.2.1.2 t.1.1.2.2 t.1.2.1.1.1 t.1.2.1.1.2 t.1.2.1.2 t.1.2.2.1.1 t.1.2.2.1.2 t.1.2.2.2 t.2.1.1.1.1 t.2.1.1.1.2 t.2.1.1.2 t.2.1.2.1.1 t.2.1.2.1.2 t.2.1.2.2 t.2.2.1.1.1 t.2.2.1.1.2 t.2.2.1.2 t.2.2.2.1.1 t.2.2.2.1.2 t.2.2.2.2
@[elab_as_elim] theorem FA {α β γ δ ε ζ η θ ι κ μ ν ξ π ρ σ τ υ φ χ ψ ω ϕ ϑ:Type} {P:α->β->γ->δ->ε->ζ->η->θ->ι->κ->μ->ν->ξ->π->ρ->σ->τ->υ->φ->χ->ψ->ω->ϕ->ϑ->Prop} (n:Nonempty (((((α×β)×γ)×((δ×ε)×ζ))×(((η×θ)×ι)×((κ×μ)×ν)))×((((ξ×π)×ρ)×((σ×τ)×υ))×(((φ×χ)×ψ)×((ω×ϕ)×ϑ))))) (h:Pg P (gB n (Pg P))) (x0 x1 x2 x3 x4 x5 x6 x7 x8 x9 PM PL Av x13 x14 x15 x16 x17 x18 x19 x20 x21 x22 x23):P x0 x1 x2 x3 x4 x5 x6 x7 x8 x9 PM PL Av x13 x14 x15 x16 x17 x18 x19 x20 x21 x22 x23:=kR n h (((((x0,x1),x2),((x3,x4),x5)),(((x6,x7),x8),((x9,PM),PL))),((((Av,x13),x14),((x15,x16),x17)),(((x18,x19),x20),((x21,x22),x23))))
end Mine.Internal
namespace Mine.Internal
namespace Re
section
open PySem.Sre
noncomputable def fz (c:Nat):Bool:=48<=c&&c<=57
noncomputable def cO (c:Nat):Bool:=c==43||c==45||c==46||c==95
theorem Za0 (c:Nat)(se:Seen):∃Gl,accepts code 13 c se=.ok (fz c,Gl):=by have h:accepts code 13 c se=(if 48<=c&&c<=57 then .ok (true,se.add 22)else .ok (false,(se.add 22).add 0)):=rfl;rw[h];unfold fz;cases(decide (48<=c)&&decide (c<=57))<;>exact⟨_,rfl⟩
theorem U6:∀c<256,(code.getD (25+(1+c/32)) 0).testBit (c%32)=cO c:=by decide +kernel
theorem ZaZ (c:Nat)(se:Seen):∃Gl,accepts code 23 c se=.ok (cO c,Gl):=by
 have h:accepts code 23 c se=(if decide (c<256)&&(code.getD (25+(1+c/32)) 0).testBit (c%32)then .ok (true,se.add 9)else .ok (false,(se.add 9).add 0)):=rfl;rw[h];by_cases hc:c<256
 ·rw[U6 c hc,VZ hc];cases cO c<;>exact⟨_,rfl⟩
 ·rw[VY hc];have:cO c=false:=by unfold cO;simp only[Bool.or_eq_false_iff,V5];exact bq 0x5fa0232ea0232da0232ba023444000001008f0032 rfl hc
  rw[this];exact⟨_,rfl⟩
def nd (text:Array Nat):Nat->Nat->Nat|0,_=>0|n+1,p=>if fz (text.getD p 0)then nd text n (p+1)+1 else 0
theorem Bk {text:Array Nat}:nd text (n+1) p=if fz (text.getD p 0)then nd text n (p+1)+1 else 0:=rfl
theorem Qs {code text:Array Nat}{i n p f:Nat}{se:Seen}:run code text i (n+1) p f se=(accepts code i (text.getD p 0) se).bind fun y=>if y.1 then run code text i n (p+1) (f+1) y.2 else .ok (f,y.2):=rfl
theorem wq (text:Array Nat):∀(n p f:Nat)(se:Seen),∃Gl,run code text 13 n p f se=.ok (f+nd text n p,Gl):=by
 intro n;induction n with
 |zero=>intro p f se;exact⟨se,rfl⟩
 |succ n ih=>intro p f se;refine aM (Za0 (text.getD p 0) se) fun Po h1=>?_;rw[Qs,Bk,h1];cases hd:fz (text.getD p 0)with|false=>exact⟨Po,rfl⟩|true=>refine aM (ih (p+1) (f+1) Po) fun Qr h2=>?_;refine⟨Qr,?_⟩;show run code text 13 n (p+1) (f+1) Po=_;rw[h2,V7 rfl];congr 2;exact aT 0x91b0b190bb21 rfl
set_option tactic.hygienic true in
theorem cb (h:m.outcome.isSome=true):M.runFor y m=m:=by
 rcases y with⟨⟩;case zero=>rfl
 case succ y=>exact V7 h
theorem bu (h:m.outcome.isSome=false):M.runFor (y+1) m=M.runFor y m.step:=V6 (by rw[h];exact ZX)
theorem bC:∀(x y:Nat)(m:M),M.runFor (x+y) m=M.runFor y (M.runFor x m):=by
 intro x;induction x with
 |zero=>intro y m;rw[X2];rfl
 |succ x ih=>intro y m;cases h:m.outcome.isSome with|true=>rw[cb h,cb h,cb h]|false=>rw[Nat.succ_add,bu h,bu h];exact ih y m.step
theorem ef (h:m.outcome=XW):M.runFor 1 m=m.step:=by rw[bu (by rw[h];rfl)];rfl
def mk (text:Array Nat)(lim start pc pos handed:Nat)(om:Bool)(a b:Option Nat)(lm li:Int)(fr:List Frame)(wt:Nat)(ans:Option Bool)(seen:Seen):M:={code,text,lim,start,lastStart:=lim,wholeText:=false,mustAdvance:=false,pc,pos,handed,outermost:=om,marks:= #[a,b],lastmark:=lm,lastindex:=li,loops:= #[],inner:=XW,frames:=fr,weight:=wt,answer:=ans,seen,outcome:=XW}
end
section
open PySem.Sre
variable {text:Array Nat} {lim s:Nat} {om:Bool} {a b:Option Nat} {se:Seen} {h:Nat} {lm li:Int}
noncomputable def f0 (s:Nat)(om:Bool):Frame:={wait:=.nextStart,pc:=5,pos:=s,outermost:=om}
noncomputable def k0:Kept:={lastmark:=0,lastindex:= -1}
def f1 (s:Nat)(om:Bool)(pc:Nat):Frame:={wait:=.nextBranch,pc,pos:=s,outermost:=om,kept:=k0}
def at_ (text:Array Nat)(lim s:Nat)(om:Bool)(a b:Option Nat)(se:Seen):M:=mk text lim s 5 s s om a b (-1) (-1) [f0 s om] 1 XW se
theorem e1:(at_ text lim s om a b se).step=mk text lim s 7 s s om (XU s) b 0 (-1) [f0 s om] 1 XW (se.add 17):=rfl
theorem e2:(mk text lim s 7 s s om (XU s) b 0 (-1) [f0 s om] 1 XW se).step=mk text lim s 9 s s om (XU s) b 0 (-1) [f1 s om 8,f0 s om] 2 XW (se.add 7):=rfl
theorem e3:(mk text lim s 9 s s om (XU s) b 0 (-1) [f1 s om 8,f0 s om] 2 XW se).step=(if(((1:Nat):Int)>(lim:Int)-(s:Int))then mk text lim s 9 s s om (XU s) b 0 (-1) [f1 s om 8,f0 s om] 2 (XU false) (se.add 24)else match PySem.Sre.run code text 13 (min 4294967295 ((lim:Int)-(s:Int)).toNat) s 0 ((se.add 24).add 13)with
   | .error why=>(mk text lim s 9 s s om (XU s) b 0 (-1) [f1 s om 8,f0 s om] 2 XW (se.add 24)).stick why
   | .ok (n,seen)=>if n<1 then mk text lim s 9 s s om (XU s) b 0 (-1) [f1 s om 8,f0 s om] 2 (XU false) seen else mk text lim s 20 (s+n) (s+n) om (XU s) b 0 (-1) [{wait:=.giveBack,pc:=9,pos:=s+n,outermost:=om,count:=n,kept:=k0},f1 s om 8,f0 s om] 3 XW seen):=rfl
def X (text:Array Nat)(lim s:Nat)(om:Bool)(b:Option Nat)(se:Seen):M:=mk text lim s 9 s s om (XU s) b 0 (-1) [f1 s om 8,f0 s om] 2 (XU false) se
def Y (text:Array Nat)(lim s:Nat)(om:Bool)(b:Option Nat)(se:Seen):M:=mk text lim s 23 s s om (XU s) b 0 (-1) [f1 s om 22,f0 s om] 2 XW se
theorem e4:(X text lim s om b se).step=Y text lim s om b se:=rfl
theorem e5:(Y text lim s om b se).step=(if s>=lim then mk text lim s 23 s s om (XU s) b 0 (-1) [f1 s om 22,f0 s om] 2 (XU false) (se.add 13)else match PySem.Sre.accepts code 23 (text.getD s 0) (se.add 13)with
  | .error why=>(mk text lim s 23 s s om (XU s) b 0 (-1) [f1 s om 22,f0 s om] 2 XW (se.add 13)).stick why
  | .ok (false,seen)=>mk text lim s 23 s s om (XU s) b 0 (-1) [f1 s om 22,f0 s om] 2 (XU false) seen
  | .ok (true,seen)=>mk text lim s 35 (s+1) s om (XU s) b 0 (-1) [f1 s om 22,f0 s om] 2 XW seen):=rfl
theorem e6a:(mk text lim s 23 s s om (XU s) b 0 (-1) [f1 s om 22,f0 s om] 2 (XU false) se).step=mk text lim s 22 s s om (XU s) b 0 (-1) [f0 s om] 1 (XU false) se:=rfl
theorem e6b:(mk text lim s 22 s s om (XU s) b 0 (-1) [f0 s om] 1 (XU false) se).step=if s<lim then at_ text lim (s+1) false (XU s) b se else mk text lim s 5 s s om (XU s) b 0 (-1) [] 0 (XU false) se:=rfl
theorem e6:(M.runFor 2 (mk text lim s 23 s s om (XU s) b 0 (-1) [f1 s om 22,f0 s om] 2 (XU false) se))=if s<lim then at_ text lim (s+1) false (XU s) b se else mk text lim s 5 s s om (XU s) b 0 (-1) [] 0 (XU false) se:=by rw[bu rfl,e6a,bu rfl,e6b];rfl
structure TU (m:M) (s e:Nat):Prop where
 out:m.outcome=XU .matched
 start:m.start=s
 handed:m.handed=e
 marks:m.marks= #[XU s,XU e]
 last:m.lastmark=1
end
section
open PySem.Sre
variable {text:Array Nat} {lim s:Nat} {om:Bool} {a b:Option Nat} {se:Seen} {h:Nat} {lm li:Int} {p:Nat} {g:Frame} {fr:List Frame} {wt:Nat} {ans:Option Bool}
theorem j1:(mk text lim s 35 p h om a b lm li fr wt XW se).step=mk text lim s 38 p h om a b lm li fr wt XW (se.add 15):=rfl
theorem j2:(mk text lim s 20 p h om a b lm li fr wt XW se).step=mk text lim s 38 p h om a b lm li fr wt XW (se.add 15):=rfl
theorem j3:(mk text lim s 38 p h om a b 0 li fr wt XW se).step=mk text lim s 40 p h om a (XU p) 1 1 fr wt XW (se.add 17):=by show M.mark (mk text lim s 38 p h om a b 0 li fr wt XW (se.add 17)) 1=_;unfold M.mark;simp[mk];decide
theorem j4:(mk text lim s 40 p h om a b lm li fr wt XW se).step=mk text lim s 40 p p om a b lm li fr wt (XU true) (se.add 1):=by rcases om with⟨⟩<;>rfl
theorem j5:(mk text lim s q p h om a b lm li ({wait:=.giveBack,pc:=9,pos:=p,outermost:=om,count:=c,kept:=k0}::fr) wt (XU true) se).step=mk text lim s 9 p h om a b lm li fr (wt-1) (XU true) se:=rfl
theorem j6:(mk text lim s q p h om a b lm li (f1 s om k::fr) wt (XU true) se).step=mk text lim s k s h om a b lm li fr (wt-1) (XU true) se:=rfl
theorem j7:(mk text lim s q p h om a b lm li (f0 s om::fr) wt (XU true) se).step=mk text lim s 5 s h om a b lm li fr (wt-1) (XU true) se:=rfl
theorem j8:(mk text lim s q p h om a b lm li [] wt (XU true) se).step={mk text lim s q p h om a b lm li [] wt (XU true) se with outcome:=XU .matched}:=rfl
end
section
open PySem.Sre
variable {text:Array Nat} {lim s:Nat} {om:Bool} {a b:Option Nat} {se:Seen} {h:Nat} {lm li:Int}
theorem Zah:TU (M.runFor 7 (mk text lim s 35 (s+1) s om (XU s) b 0 (-1) [f1 s om 22,f0 s om] 2 XW se)) s (s+1):=by rw[bu rfl,j1,bu rfl,j3,bu rfl,j4,bu rfl,j6,bu rfl,j7,bu rfl,j8];exact⟨rfl,rfl,rfl,rfl,rfl⟩
theorem Zai:TU (M.runFor 7 (mk text lim s 20 (s+n) (s+n) om (XU s) b 0 (-1) [{wait:=.giveBack,pc:=9,pos:=s+n,outermost:=om,count:=n,kept:=k0},f1 s om 8,f0 s om] 3 XW se)) s (s+n):=by rw[bu rfl,j2,bu rfl,j3,bu rfl,j4,bu rfl,j5,bu rfl,j6,bu rfl,j7,bu rfl,j8];exact⟨rfl,rfl,rfl,rfl,rfl⟩
theorem LR:(M.runFor 3 (at_ text lim s om a b se))=(mk text lim s 9 s s om (XU s) b 0 (-1) [f1 s om 8,f0 s om] 2 XW ((se.add 17).add 7)).step:=by rw[bu rfl,e1,bu rfl,e2,bu rfl];rfl
theorem toX (hn:¬(s<lim)\/fz (text.getD s 0)=false):∃Gl,M.runFor 3 (at_ text lim s om a b se)=X text lim s om b Gl:=by
 rw[LR,e3];by_cases hl:s<lim
 ·rw[V6 (by exact aT 0x9af0af1afc731002 rfl hl)];refine aM (wq text (min 4294967295 ((lim:Int)-(s:Int)).toNat) s 0 ((((se.add 17).add 7).add 24).add 13)) fun Gl hr=>?_;rw[hr];have hz:nd text (min 4294967295 ((lim:Int)-(s:Int)).toNat) s=0:=by cases hk:min 4294967295 ((lim:Int)-(s:Int)).toNat with|zero=>rfl|succ k=>rw[Bk,hn.resolve_left (by exact aT 0x100331002 rfl hl)];rfl
  rw[hz];exact⟨Gl,rfl⟩
 ·rw[V7 (by exact aT 0x9af0af1afc710032 rfl hl)];exact⟨_,rfl⟩
def find (text:Array Nat):Nat->Nat->Option (Nat×Nat)|0,_=>XW|n+1,s=>if fz (text.getD s 0)then XU (s,s+nd text (n+1) s)else if cO (text.getD s 0)then XU (s,s+1)else find text n (s+1)
theorem BR {text:Array Nat}{n s:Nat}:find text (n+1) s=if fz (text.getD s 0)then XU (s,s+nd text (n+1) s)else if cO (text.getD s 0)then XU (s,s+1)else find text n (s+1):=rfl
theorem search {text:Array Nat}{lim:Nat}:∀(n s:Nat)(om:Bool)(a b:Option Nat)(se:Seen),lim<4294967295->s+n=lim->match find text n s with
  |some (p,e)=>TU (M.runFor (7*n+11) (at_ text lim s om a b se)) p e|none=>(M.runFor (7*n+11) (at_ text lim s om a b se)).outcome=XU .failed:=by
 intro n;induction n with
 |zero=>
  intro s om a b se hl hs;refine aM (toX (text:=text) (lim:=lim) (s:=s) (om:=om) (a:=a) (b:=b) (se:=se) (.inl (aT 0x1003180b22 rfl hs))) fun Po h1=>?_;rw[show 7*0+11=3+(1+(1+(2+(1+3))))from rfl,bC,h1,bC,ef rfl,e4,bC,ef rfl,e5,V7 (by exact aT 0x11180b22 rfl hs),bC,e6,V6 (by exact aT 0x1003180b22 rfl hs),bC,ef rfl];rw[cb]
  ·rfl
  ·rfl
 |succ n ih=>
  intro s om a b se hl hs;rw[BR];cases hd:fz (text.getD s 0)with
  |true=>
   rw[V7 rfl];refine aM (wq text (min 4294967295 ((lim:Int)-(s:Int)).toNat) s 0 ((((se.add 17).add 7).add 24).add 13)) fun Gl hr=>?_;have hm:min 4294967295 ((lim:Int)-(s:Int)).toNat=n+1:=br 0x92b1af0afcbfffffffff8fdf2092b1b2ffffffff8f003 rfl hl hs;rw[hm]at hr;have hp:¬(0+nd text (n+1) s<1):=by rw[Bk,hd];simp
   rw[show 7*(n+1)+11=3+(7+(7*n+8)) by exact bq 0x8a007db07ab03ab0ba90b07db21 rfl,bC,LR,e3,V6 (by exact br 0x9af1af0afc7392b1af0afcbfffffffff8fdf22 rfl hm),hm,hr];dsimp only;rw[V6 hp,bC,X2];have hh:=Zai (text:=text) (lim:=lim) (s:=s) (om:=om) (b:=b) (se:=Gl) (n:=nd text (n+1) s);rw[cb (by rw[hh.out];rfl)];exact hh
  |false=>
   rw[V6 ZX];refine aM (toX (lim:=lim) (s:=s) (om:=om) (a:=a) (b:=b) (se:=se) (.inr hd)) fun Po h1=>?_;refine aM (ZaZ (text.getD s 0) (Po.add 13)) fun Qr h2=>?_;cases hp:cO (text.getD s 0)with
   |true=>rw[V7 rfl];rw[hp]at h2;rw[show 7*(n+1)+11=3+(1+(1+(7+(7*n+6)))) by exact bq 0x6a007db07ab9b9b03ab0ba90b07db21 rfl,bC,h1,bC,ef rfl,e4,bC,ef rfl,e5,V6 (by exact br 0x213291b0b22 rfl hs),h2];rw[bC];have hh:=Zah (text:=text) (lim:=lim) (s:=s) (om:=om) (b:=b) (se:=Qr);rw[cb (by rw[hh.out];rfl)];exact hh
   |false=>
    rw[V6 ZX];rw[hp]at h2;have:=ih (s+1) false (XU s) b Qr hl (br 0x2190bb2291b0b22 rfl hs);have key:M.runFor (7*(n+1)+11) (at_ text lim s om a b se)=M.runFor (7*n+11) (at_ text lim (s+1) false (XU s) b Qr):=by rw[show 7*(n+1)+11=3+(1+(1+(2+(7*n+11)))) by exact bq 0xba007db02ab9b9b03ab0ba90b07db21 rfl,bC,h1,bC,ef rfl,e4,bC,ef rfl,e5,V6 (by exact br 0x213291b0b22 rfl hs),h2];rw[bC,e6,V7 (by exact br 0x200291b0b22 rfl hs)]
    rw[key];exact this
theorem xg (s:Nat)(hl:lim<4294967295)(hs:s<=lim):match find text (lim-s) s with
  |some (p,e)=>TU (M.runFor (7*lim+12) (forSearch code text 1 s lim false)) p e|none=>(M.runFor (7*lim+12) (forSearch code text 1 s lim false)).outcome=XU .failed:=by
 revert hl hs;refine TV VV ?_ s text lim;generalize gB _ _=tt;dsimp only[K3];generalize tt.1.1=s,tt.1.2=text,tt.2=lim;intro hl hs;by_cases hz:s=lim
 ·subst hz;rw[X4];have h:forSearch code text 1 s s false=(if decide (s>s)||decide (s-s<1)then(mk text s s 5 s s true XW XW (-1) (-1) [] 0 (XU false) (({}:Seen).add 14)|> fun m=>{m with lastStart:=0})else at_ text s s true XW XW (({}:Seen).add 14)):=rfl;rw[h,V7 (by simp),show 7*s+12=1+(7*s+11) by exact bq 0xba007db9b0ca007db21 rfl,bC,ef rfl];rw[cb rfl];rfl
 ·have h:forSearch code text 1 s lim false=(if decide (s>lim)||decide (lim-s<1)then(mk text lim s 5 s s true XW XW (-1) (-1) [] 0 (XU false) (({}:Seen).add 14)|> fun m=>{m with lastStart:=0})else at_ text lim s true XW XW (({}:Seen).add 14)):=rfl;have hc:¬((decide (s>lim)||decide (lim-s<1))=true):=by simp;exact aT 0x801c23101410231013 rfl hs hz
  rw[h,V6 hc];have:=search (text:=text) (lim-s) s true XW XW (({}:Seen).add 14) hl (aT 0x101c0b21012 rfl hs);cases hf:find text (lim-s) s with
  |none=>rw[hf]at this;rw[show 7*lim+12=(7*(lim-s)+11)+(7*s+1) by exact aT 0x9007db0ba01c07dbb0ca107db21012 rfl hs,bC,cb (by rw[this];rfl)];exact this
  |some r=>obtain⟨p,e⟩:=r;rw[hf]at this;rw[show 7*lim+12=(7*(lim-s)+11)+(7*s+1) by exact aT 0x9007db0ba01c07dbb0ca107db21012 rfl hs,bC,cb (by rw[this.out];rfl)];exact this
end
end Re
end Mine.Internal
namespace Mine.Internal
namespace Tx
section
open PySem PySem.W PyProof.Rows PySem.Builtin PySem.Builtin.Str
noncomputable def ka (y z:List Nat):Nat->List Nat->List Nat|_,[]=>[]|k,c::r=>if 0<k then ka y z (k-1) r else if y.isPrefixOf (c::r)then z++ka y z (y.length-1) r else c::ka y z 0 r
end
section
open PySem PySem.W PyProof.Rows PySem.Builtin PySem.Builtin.Str
variable {y z:List Nat}
theorem Qt {k:Nat}:ka y z k []=[]:=rfl
theorem jT {k c:Nat}{r:List Nat}:ka y z k (c::r)=if 0<k then ka y z (k-1) r else if y.isPrefixOf (c::r)then z++ka y z (y.length-1) r else c::ka y z 0 r:=rfl
theorem rD:∀(k:Nat)(l:List Nat),ka y z k l=ka y z 0 (l.drop k)|0,l=>rfl|k+1,[]=>rfl|k+1,c::r=>by rw[jT,V7 (Nat.succ_pos _),Nat.add_sub_cancel,rD k r,List.drop_succ_cons]
theorem Gn {l:List Nat}:∀(d a c:Nat),c-a=d->a<=c->c<=l.length->(∀k,a<=k->k<c->y.isPrefixOf (l.drop k)=false)->ka y z 0 (l.drop a)=(l.drop a).take (c-a)++ka y z 0 (l.drop c):=by intro d;induction d with|zero=>intro a c hd hac hc hn;have:a=c:=aT 0x12011810c23 rfl hd hac;subst this;simp|succ d ih=>intro a c hd hac hc hn;have ha:a<l.length:=cX 0x31030192b10c23 rfl hd hc;have e:=ZA ha;have h0:=hn a (Yh _) (br 0x1092b10c22 rfl hd);rw[e]at h0 ⊢;rw[jT,V6 (Ye 0),h0,V6 ZX,ih (a+1) c (by exact br 0x291b0c292b10c22 rfl hd) (by exact br 0x91b192b10c22 rfl hd) hc fun k h1 h2=>hn k (by exact aT 0x101190b12 rfl h1) h2];have:c-a=(c-(a+1))+1:=br 0x991b0cb10c292b10c22 rfl hd;rw[this,Yl];rfl
theorem Ct (x y:WS)(i:Nat):StrLaws.At x y x.length i↔y.cps.toList.isPrefixOf (x.cps.toList.drop i)=true/\i<=x.cps.toList.length:=by
 unfold StrLaws.At;have hs:subAt x y i=((x.cps.toList.drop i).take y.length==y.cps.toList):=by
  unfold subAt;have:(x.cps.extract i (i+y.length)==y.cps)=((x.cps.extract i (i+y.length)).toList==y.cps.toList):=by rw[ZZ,V3,V3,Array.toList_inj]
  rw[this,Array.toList_extract];simp[Zx]
 have hx:x.length=x.cps.toList.length:=by simp[WO]
 have hy:y.length=y.cps.toList.length:=by simp[WO]
 rw[hs,V3,Zb,hx,hy];constructor
 ·intro y0;refine aZ y0 fun h1 h2=>?_;exact⟨⟨_,by rw[<-h2];exact List.take_append_drop _ _⟩,by exact br 0x201210b12 rfl h1⟩
 ·intro y1;refine aZ y1 fun y2 hi=>?_;refine aM y2 fun t ht=>?_;have hl:=V4 Za ht;rw[Y9,Y7]at hl;exact⟨by exact cX 0x120b101c32b21013 rfl hi hl,by rw[<-ht];simp⟩
theorem iA (x:WS)(a b:Nat):(strSub x a b).cps.toList=(x.cps.toList.drop a).take (b-a):=by unfold strSub;rw[Array.toList_extract,Zx]
theorem Ed (x y z:WS)(hy:1<=y.length):∀(Lj:List Nat)(a f:Nat),StrLaws.ChainG x y x.length a Lj f->(∀k,f<=k->¬StrLaws.At x y x.length k)->a<=x.length->(WQ z (StrLaws.partsFrom x y.length a Lj)).cps.toList=ka y.cps.toList z.cps.toList 0 (x.cps.toList.drop a):=by
 intro Lj;induction Lj with
 |nil=>
  intro a f hc hf ha;have R0:=hc;subst R0;have hx:x.length=x.cps.toList.length:=by simp[WO]
  show(strSub x f x.length).cps.toList=_;rw[iA,Gn (x.length-f) f x.length rfl ha (by exact aT 0x1011022 rfl hx) fun k h1 h2=>?_]
  ·rw[hx,List.drop_length];simp[Qt]
  ·have:=hf k h1;rw[Ct]at this;cases e:y.cps.toList.isPrefixOf (x.cps.toList.drop k)with|false=>rfl|true=>exact absurd ⟨e,by exact br 0x1210201023 rfl hx h2⟩ this
 |cons c r zy=>
  intro a f hc hf ha;refine lH hc fun h1 h2 h3 h4=>?_;have hx:x.length=x.cps.toList.length:=by simp[WO]
  have T7:y.length=y.cps.toList.length:=by simp[WO]
  have qt:=h2.1;have ih:=zy (c+y.length) f h4 hf qt;refine gY (StrLaws.partsFrom_ne x y.length (c+y.length) r) fun p q hpq=>?_;show(WQ z (strSub x a c::StrLaws.partsFrom x y.length (c+y.length) r)).cps.toList=_;rw[hpq]at ih ⊢;show(strSub x a c++z++WQ z (p::q)).cps.toList=_;simp only[WR,Z7];rw[ih,iA,Gn (c-a) a c rfl h1 (by exact cX 0x121032b11023 rfl hx qt) fun k g1 g2=>?_]
  ·have sD:=(Ct x y c).mp h2;have jw:c<x.cps.toList.length:=cX 0x230103b12120914 rfl hy hx qt;have e:=ZA jw;have h0:=sD.1;rw[e]at h0 ⊢;rw[jT,V6 (Ye 0),V7 h0,rD (y.cps.toList.length-1),ZC,ZG];rw[show c+y.length=c+1+(y.cps.toList.length-1) by exact br 0x91c92bb02b21020913 rfl hy T7]
  ·have:=h3 k g1 g2;rw[Ct]at this;cases e:y.cps.toList.isPrefixOf (x.cps.toList.drop k)with|false=>rfl|true=>exact absurd ⟨e,by exact oC 0x141240032b11024 rfl hx qt g2⟩ this
theorem jD (x y z:WS)(hy:1<=y.length):(WM x y z).cps.toList=ka y.cps.toList z.cps.toList 0 x.cps.toList:=by
 refine aE (StrLaws.occ_tight x y hy) fun f hc hf=>?_;have key:=Ed x y z hy _ 0 f hc hf (X1 _);rw[Zz]at key;rw[<-key];unfold WM;have h0:(y.length==0)=false:=by rw[V5];exact bq 0x80230912 rfl hy
 rw[h0,Bool.false_and,Bool.or_false];split
 ·rename_i he;have:=List.isEmpty_iff.mp he;rw[this];show _=(strSub x 0 x.length).cps.toList;rw[StrLaws.sub_whole]
 ·rw[StrLaws.glued_eq_join,StrLaws.partsBetween_eq]
end
end Tx
end Mine.Internal
namespace Mine.Internal
namespace Ks
open PySem PySem.W PyProof.Rows
noncomputable def gF {α:Type}(f:Nat->Nat->Bool):KasT α->α| .ret a=>a| .ask i j k=>gF f (k (f i j))
theorem kL {α:Type}{f:Nat->Nat->Bool}{i j:Nat}{k:Bool->KasT α}:gF f (.ask i j k)=gF f (k (f i j)):=rfl
theorem gU {α β:Type}{f:Nat->Nat->Bool}{g:α->KasT β}:∀(t:KasT α),gF f (t.bind g)=gF f (g (gF f t))| .ret _=>rfl| .ask i j k=>gU (k (f i j))
section
variable {p:Array Nat} {N:Nat}
def prec (r:Nat->Nat)(x y:Nat):Prop:=r x<r y\/(r x=r y/\x<y)
noncomputable def gx {α:Type}(N:Nat):KasT α->(α->Prop)->Prop| .ret a,P=>P a| .ask i j k,P=>i<N/\j<N/\∀b,gx N (k b) P
theorem fX {α:Type}{P P':α->Prop}(h:∀a,P a->P' a):∀(t:KasT α),gx N t P->gx N t P'| .ret a,x=>h a x| .ask _ _ k,x=>⟨x.1,x.2.1,fun b=>fX h (k b) (x.2.2 b)⟩
theorem fY {α β:Type}{P:β->Prop}{g:α->KasT β}:∀(t:KasT α),gx N t (fun a=>gx N (g a) P)->gx N (t.bind g) P| .ret _,x=>x| .ask _ _ k,x=>⟨x.1,x.2.1,fun b=>fY (k b) (x.2.2 b)⟩
def Wi (N:Nat)(p:Array Nat):Prop:=∀x∈p.toList,x<N
theorem Wi.get (h:Wi N p)(h0:0<N)(i:Nat):p.getD i 0<N:=by refine xR Z9 ?_;cases e:p[i]? with|none=>exact h0|some x=>exact h x (by rw[Array.mem_toList_iff];exact Array.mem_of_getElem? e)
theorem Wi.perm (h:Wi N p)(e:q.Perm p):Wi N q:=fun x hx=>h x ((Array.perm_iff_toList_perm.mp e).mem_iff.mp hx)
theorem Wi.rev (h:Wi N p)(i j:Nat):Wi N (kas_rev p i j):=h.perm (mirror_perm _ _ _ _)
theorem Wi.bub (h:Wi N p)(i j:Nat):Wi N (bubble p i j):=h.perm (bubble_perm _ _ _)
theorem Aj (h:Wi N p)(h0:0<N):∀(f n:Nat),gx N (kas_asc p f n) fun x=>True:=by
 intro f;induction f with
 |zero=>intro _;exact trivial
 |succ f ih=>intro n;exact⟨h.get h0 _,h.get h0 _,fun b=>by(rcases b with⟨⟩;(case true=>exact trivial);(case false=>exact ih (n+1)))⟩
theorem ES (h0:0<N):∀(f:Nat)(p:Array Nat)(n q:Nat),Wi N p->gx N (kas_desc f p n q) fun r=>Wi N r.1:=by
 intro f;induction f with
 |zero=>intro p n q h;exact h
 |succ f ih=>
  intro p n q h;exact⟨h.get h0 _,h.get h0 _,fun b=>by
  rcases b with⟨⟩;case true=>
   split
   ·exact ih _ _ _ (h.rev _ _)
   ·exact ih _ _ _ h
  case false=>exact⟨h.get h0 _,h.get h0 _,fun d=>by
    rcases d with⟨⟩;case true=>exact h
    case false=>exact ih _ _ _ h⟩⟩
theorem q8 (h0:0<N)(h:Wi N p)(n m:Nat):gx N (kas_tail3 n m p) fun r=>Wi N r.2:=fY _ (fX (fun x x=>h.rev _ _) _ (Aj (h.rev _ _) h0 _ _))
theorem l7 (h0:0<N)(h:Wi N p)(n m:Nat):gx N (kas_descPart n m p) fun r=>Wi N r.2:=fY _ (fX (fun r hr=>by
  split
  ·exact q8 h0 (hr.rev _ _) _ _
  ·exact q8 h0 hr _ _) _ (ES h0 _ _ _ _ h))
theorem B5 (h0:0<N)(h:Wi N p)(m:Nat):gx N (kas_count m p) fun r=>Wi N r.2:=fY _ (fX (fun n x=>by
  split
  ·exact h
  ·split
   ·refine⟨h.get h0 _,h.get h0 _,fun b=>?_⟩;rcases b with⟨⟩;case true=>exact h
    case false=>exact l7 h0 (h.rev _ _) _ _
   ·exact l7 h0 h _ _) _ (Aj h h0 _ _))
theorem Bb (h0:0<N)(h:Wi N p)(k:Nat):∀(f l u:Nat),gx N (kas_place p k f l u) fun x=>True:=by
 intro f;induction f with
 |zero=>intro _ _;exact trivial
 |succ f ih=>
  intro l u;unfold kas_place;split
  ·exact trivial
  ·refine⟨h.get h0 _,h.get h0 _,fun b=>?_⟩;rcases b with⟨⟩;case true=>exact ih _ _
   case false=>exact ih _ _
theorem IJ (h0:0<N):∀(f:Nat)(p:Array Nat)(k:Nat),Wi N p->gx N (kas_bin f p k) fun p=>Wi N p:=by intro f;induction f with|zero=>intro p k h;exact h|succ f ih=>intro p k h;exact fY _ (fX (fun l x=>ih _ _ (h.bub _ _)) _ (Bb h0 h k _ _ _))
theorem uF (h0:0<N):gx N (kas_sort N) fun p=>Wi N p:=fY _ (fX (fun r hr=>by
  split
  ·exact IJ h0 _ _ _ hr
  ·exact hr) _ (B5 h0 (fun x hx=>by simpa using hx) N))
theorem si {α:Type}{P:α->Prop}(h:∀i j,i<N->j<N->f i j=g i j):∀(t:KasT α),gx N t P->gF f t=gF g t| .ret _,_=>rfl| .ask i j k,x=>by rw[kL,kL,h i j x.1 x.2.1];exact si h (k (g i j)) (x.2.2 _)
def eV (f:Nat->Nat->Bool)(N:Nat):List Nat:=if N<2 then Yy N else(gF f (kas_sort N)).toList
end
section
variable {r:Nat->Nat} {p:Array Nat} {N:Nat}
noncomputable def gP (r:Nat->Nat)(i j:Nat):Bool:=decide (r i<r j)
theorem prec.trans (a:prec r x y)(b:prec r y z):prec r x z:=by unfold prec at *;exact CC 0x5204024400553041244105320102410053 rfl a b
def IY (r:Nat->Nat)(p:Array Nat)(m:Nat):Prop:=∀i j,i<j->j<m->prec r (p.getD i 0) (p.getD j 0)
def vM (p:Array Nat)(N m:Nat):Prop:=(∀i,m<=i->i<N->p.getD i 0=i)/\∀i,i<m->p.getD i 0<m
theorem dW (hj:j<=p.size)(k:Nat):(kas_rev p i j).getD k 0=if i<=k/\k<j then p.getD (i+j-1-k) 0 else p.getD k 0:=by simp only[Z9];have e:=getElem?_mirror_all (i:=i) hj k;unfold kas_rev;refine xR e ?_;split<;>rfl
theorem HQ (hs:src<p.size)(hd:d<=src)(k:Nat):(bubble p src d).getD k 0=if k=src-d then p.getD src 0 else if src-d<k/\k<=src then p.getD (k-1) 0 else p.getD k 0:=by
 simp only[Z9];refine xR (getElem?_bubble hs d hd k) ?_;split
 ·rfl
 ·split<;>rfl
theorem IQ:∀(f n:Nat),IY r p n->vM p N n->1<=n->n+f<=N->∃m,gF (gP r) (kas_asc p f n)=m/\IY r p m/\vM p N m/\n<=m/\m<=n+f/\(m<n+f->r (p.getD m 0)<r (p.getD (m-1) 0)):=by
 intro f;induction f with
 |zero=>intro n hs hr h1 hn;exact⟨n,rfl,hs,hr,Yh _,Yh _,fun h=>absurd h (bq 0x80b0031 rfl)⟩
 |succ f ih=>
  intro n hs hr h1 hn;rw[show gF (gP r) (kas_asc p (f+1) n)=gF (gP r) (if gP r (p.getD n 0) (p.getD (n-1) 0)=true then .ret n else kas_asc p f (n+1))from rfl];by_cases hc:r (p.getD n 0)<r (p.getD (n-1) 0)
  ·have:gP r (p.getD n 0) (p.getD (n-1) 0)=true:=VZ hc;rw[this];rw[V7 rfl];exact⟨n,rfl,hs,hr,Yh _,by exact aT 0x91b0b011 rfl,fun x=>hc⟩
  ·have:gP r (p.getD n 0) (p.getD (n-1) 0)=false:=VY hc;rw[this];rw[V6 ZX];have Mm:=hr.1 n (Yh _) (br 0x200291b0b12 rfl hn);have hl:=hr.2 (n-1) (bq 0x90c00912 rfl h1);have nG:prec r (p.getD (n-1) 0) (p.getD n 0):=by unfold prec;exact oC 0x2400124010534032210034 rfl hc Mm hl
   have zD:IY r p (n+1):=fun i j en hj=>by
    by_cases e:j=n
    ·subst e;by_cases e2:i=j-1
     ·subst e2;exact nG
     ·exact(hs i (j-1) (aT 0x91c0091c0231003 rfl en e2) (aT 0x191c01002 rfl hl)).trans nG
    ·exact hs i j en (aT 0x100102391b003 rfl hj e)
   have t9:vM p N (n+1):=⟨fun i hi hl=>hr.1 i (aT 0x101190b12 rfl hi) hl,fun i hi=>by
    by_cases e:i=n
    ·subst e;exact aT 0x91b001022 rfl Mm
    ·have:=hr.2 i (aT 0x100102391b003 rfl hi e);exact aT 0x91b001002 rfl this⟩
   refine Fz (ih (n+1) zD t9 (bq 0x90b911 rfl) (br 0x2190bb1291b0b12 rfl hn)) fun m e a1 a2 a3 a4 a5=>?_;exact⟨m,e,a1,a2,by exact aT 0x101190b12 rfl a3,by exact br 0x92b1b01291bb012 rfl a4,fun h=>a5 (br 0x291bb0092b1b002 rfl h)⟩
structure UC (r:Nat->Nat) (p:Array Nat) (n q:Nat):Prop where
 lt:q<n
 a:∀i j,i<j->j<n-(q+1)->prec r (p.getD j 0) (p.getD i 0)
 b:∀i j,i<n-(q+1)->n-(q+1)<=j->j<n->r (p.getD j 0)<r (p.getD i 0)
 c:∀i j,i<j->n-(q+1)<=i->j<n->p.getD i 0<p.getD j 0/\r (p.getD i 0)=r (p.getD j 0)
theorem UC.rev (h:UC r p n q)(hn:n<=p.size):∀i j,i<j->j<n->prec r ((kas_rev p (n-(q+1)) n).getD j 0) ((kas_rev p (n-(q+1)) n).getD i 0):=fun i j en hj=>by
 have hq:=h.lt;refine xR (dW hn _) (xR (dW hn _) ?_);by_cases h1:n-(q+1)<=i
 ·refine xR (V7 ⟨by exact cX 0x193b2c1093b2c11003 rfl en h1,hj⟩) (xR (V7 ⟨h1,by exact br 0x2002101003 rfl en hj⟩) ?_);have:=h.c (n-(q+1)+n-1-j) (n-(q+1)+n-1-i) (cX 0x9293b2cbcc19293b2cbcc02101003 rfl en hj) (br 0x9192b1cbcc92b1c11002 rfl hj) (br 0x129190b1cbcc0290b1c11003 rfl hq h1);unfold prec;exact cX 0x1003224320532210042 rfl this
 ·by_cases h2:n-(q+1)<=j
  ·refine xR (V7 ⟨h2,hj⟩) (xR (V6 (br 0x20291b0c143291b0c132 rfl h1)) ?_);have:=h.b i (n-(q+1)+n-1-j) (br 0x91b0c20291b0c132 rfl h1) (br 0x9192b1cbcc92b1c11002 rfl hj) (cX 0x39091b0cbcc0391b0c1291b0c133 rfl h1 h2);unfold prec;exact cX 0x320102410051002 rfl this
  ·refine xR (V6 (br 0x20291b0c143291b0c132 rfl h2)) (xR (V6 (br 0x20291b0c143291b0c132 rfl h1)) ?_);exact h.a i j en (br 0x91b0c20291b0c132 rfl h2)
theorem vM.rev (h:vM p N n)(hn:n<=p.size):vM (kas_rev p i n) N n:=⟨fun k hk hl=>by
 rw[dW hn,V6 (by exact br 0x10121431012 rfl hk)];exact h.1 k hk hl,fun k hk=>by
 refine xR (dW hn _) ?_;split
 ·exact h.2 _ (br 0x21920bcc021010142 rfl (by assumption))
 ·exact h.2 _ hk⟩
theorem UP {α:Type}{P1 P2 P3 P4 P6:α->Nat->Nat->Prop}{n:Nat}(h:∃p' n' q',P1 p' n' q'/\P2 p' n' q'/\P3 p' n' q'/\P4 p' n' q'/\n+1<=n'/\P6 p' n' q'):∃p' n' q',P1 p' n' q'/\P2 p' n' q'/\P3 p' n' q'/\P4 p' n' q'/\n<=n'/\P6 p' n' q':=DD h fun p' n' q' a1 a2 a3 a4 y=>aZ y fun a5 a6=>⟨p',n',q',a1,a2,a3,a4,Nat.le_of_succ_le a5,a6⟩
theorem Lf:∀(f:Nat)(p:Array Nat)(n q:Nat),p.size=N->UC r p n q->vM p N n->n+f<=N->∃p' n' q',gF (gP r) (kas_desc f p n q)=(p',n',q')/\p'.size=N/\UC r p' n' q'/\vM p' N n'/\n<=n'/\n'<=N:=by
 intro f;induction f with
 |zero=>intro p n q hz hd hr hn;exact⟨p,n,q,rfl,hz,hd,hr,Yh _,by exact aT 0x101180b12 rfl hn⟩
 |succ f ih=>
  intro p n q hz hd hr hn;have hq:=hd.lt;rw[show gF (gP r) (kas_desc (f+1) p n q)=gF (gP r) (if gP r (p.getD n 0) (p.getD (n-1) 0)=true then(if q>0 then kas_desc f (kas_rev p (n-(q+1)) n) (n+1) 0 else kas_desc f p (n+1) 0)else .ask (p.getD (n-1) 0) (p.getD n 0) fun d=>if d=true then .ret (p,n,q)else kas_desc f p (n+1) (q+1))from rfl];have Mm:=hr.1 n (Yh _) (br 0x200291b0b12 rfl hn);have KA:∀j,n-(q+1)<=j->j<n->r (p.getD j 0)=r (p.getD (n-1) 0):=fun j h1 h2=>by
   by_cases e:j=n-1
   ·rw[e]
   ·exact(hd.c j (n-1) (aT 0x91c0091c0231003 rfl h2 e) h1 (aT 0x191c01002 rfl h2)).2
  have pX:∀{p':Array Nat},vM p' N n->vM p' N (n+1):=fun hr=>⟨fun i hi hl=>hr.1 i (aT 0x101190b12 rfl hi) hl,fun i hi=>by
    by_cases e:i=n
    ·subst e;have:=hr.1 i (Yh _) (br 0x200291b0b12 rfl hn);exact aT 0x91b001022 rfl this
    ·have:=hr.2 i (aT 0x100102391b003 rfl hi e);exact aT 0x91b001002 rfl this⟩
  by_cases hc:r (p.getD n 0)<r (p.getD (n-1) 0)
  ·have:gP r (p.getD n 0) (p.getD (n-1) 0)=true:=VZ hc;rw[this];rw[V7 rfl];have low:∀i,i<n->r (p.getD n 0)<r (p.getD i 0):=fun i hi=>by
    by_cases h1:n-(q+1)<=i
    ·rw[KA i h1 hi];exact hc
    ·have:=hd.b i (n-1) (br 0x91b0c20291b0c132 rfl h1) (aT 0x90c91b0c11 rfl) (br 0x90c0291b0c132 rfl h1);exact br 0x2002101003 rfl hc this
   split
   ·have Fj:(kas_rev p (n-(q+1)) n).size=N:=(kas_rev_size _ _).trans hz;refine UP (ih (kas_rev p (n-(q+1)) n) (n+1) 0 Fj ⟨by exact bq 0x90b801 rfl,fun i j en hj=>hd.rev (cX 0x21193b2b11023 rfl hz hn) i j en (aT 0x10098b91bc002 rfl hj),fun i j hi hj Od=>?_,fun i j en hi hj=>PJ 0x652430492b10098b92bc11004 rfl en hi hj⟩ (pX (hr.rev (cX 0x21193b2b11023 rfl hz hn))) (br 0x2190bb1291b0b12 rfl hn));have e:j=n:=aT 0x1290b10198b90bc13 rfl hj Od;subst e;rw[dW (by exact cX 0x21193b2b11023 rfl hz hn),V6 (by exact aT 0x91b0c1431 rfl),dW (by exact cX 0x21193b2b11023 rfl hz hn)];split
    ·exact low _ (br 0x29091b0cbcc0020291b0c142 rfl (by assumption))
    ·exact low _ (aT 0x10098b91bc002 rfl hi)
   ·have hq0:q=0:=bq 0x80208032 rfl (by assumption);subst hq0;refine UP (ih p (n+1) 0 hz ⟨by exact bq 0x90b801 rfl,fun i j en hj=>?_,fun i j hi hj Od=>?_,fun i j en hi hj=>PJ 0x652430492b10098b92bc11004 rfl en hi hj⟩ (pX hr) (br 0x2190bb1291b0b12 rfl hn))
    ·by_cases e:j=n-1
     ·subst e;have:=hd.b i (n-1) (by assumption) (bq 0x90c98b0c11 rfl) (bq 0x90c098b90bc90c02 rfl hj);exact .inl this
     ·exact hd.a i j en (aT 0x98b1c0091c02398b91bc003 rfl hj e)
    ·have e:j=n:=aT 0x1290b10198b90bc13 rfl hj Od;subst e;exact low _ (aT 0x10098b91bc002 rfl hi)
  ·have:gP r (p.getD n 0) (p.getD (n-1) 0)=false:=VY hc;rw[this];rw[V6 ZX];rw[kL];by_cases Aq:r (p.getD (n-1) 0)<r (p.getD n 0)
   ·have:gP r (p.getD (n-1) 0) (p.getD n 0)=true:=VZ Aq;rw[this];rw[V7 rfl];exact⟨p,n,q,rfl,hz,hd,hr,Yh _,by exact br 0x201291b0b12 rfl hn⟩
   ·have:gP r (p.getD (n-1) 0) (p.getD n 0)=false:=VY Aq;rw[this];rw[V6 ZX];have t7:n+1-(q+1+1)=n-(q+1):=aT 0x91b0c991bb90bc21 rfl;refine UP (ih p (n+1) (q+1) hz ⟨by exact aT 0x91b90b01002 rfl hq,fun i j en hj=>hd.a i j en (br 0x92b1c00992bb91bc002 rfl hj),fun i j hi hj Od=>?_,fun i j en hi hj=>?_⟩ (pX hr) (br 0x2190bb1291b0b12 rfl hn))
    ·rw[t7]at hi hj;by_cases e:j=n
     ·subst e;have:=hd.b i (j-1) hi (aT 0x90c91b0c11 rfl) (br 0x191c092b1c002 rfl hi);exact br 0x21020010033 rfl Aq this
     ·exact hd.b i j hi hj (aT 0x100102391b003 rfl Od e)
    ·rw[t7]at hi;by_cases e:j=n
     ·subst e;have h1:=hr.2 i en;have h2:=KA i hi en;exact CC 0x2520404352140230332031026 rfl Mm hc Aq h1 h2
     ·exact hd.c i j en hi (aT 0x100102391b003 rfl hj e)
theorem yr (hz:p.size=N)(hd:∀i j,i<j->j<n->prec r (p.getD j 0) (p.getD i 0))(hr:vM p N n)(h1:1<=n)(hn:n<=N):∃m p',gF (gP r) (kas_tail3 n N p)=(m,p')/\p'.size=N/\IY r p' m/\vM p' N m/\1<=m/\m<=N:=by
 unfold kas_tail3;refine xR (gU _) ?_;have hs:IY r (kas_rev p 0 n) n:=fun i j en hj=>by rw[dW (by exact br 0x211211023 rfl hz hn),dW (by exact br 0x211211023 rfl hz hn),V7 ⟨by exact bq 0x811 rfl,by exact br 0x2002101003 rfl en hj⟩,V7 ⟨by exact bq 0x811 rfl,hj⟩];exact hd _ _ (br 0x928bcc1928bcc02101003 rfl en hj) (br 0x12918bcc01002 rfl hj)
 refine Fz (IQ (N-n) n hs (hr.rev (br 0x211211023 rfl hz hn)) h1 (aT 0x101c0b11012 rfl hn)) fun m e a1 a2 a3 a4 x=>?_;refine xR e ?_;exact⟨m,_,rfl,(kas_rev_size _ _).trans hz,a1,a2,by exact aT 0x1911010913 rfl h1 a3,by exact br 0x12101c0b211013 rfl hn a4⟩
theorem qa (hz:p.size=N)(hd:∀i j,i<j->j<n->prec r (p.getD j 0) (p.getD i 0))(hr:vM p N n)(h1:1<=n)(hn:n<N)(Hy:∀i,i<n->r (p.getD n 0)<r (p.getD i 0)):∃m p',gF (gP r) (kas_descPart n N p)=(m,p')/\p'.size=N/\IY r p' m/\vM p' N m/\1<=m/\m<=N:=by
 unfold kas_descPart;refine xR (gU _) ?_;have Hr:vM p N (n+1):=⟨fun i hi hl=>hr.1 i (aT 0x101190b12 rfl hi) hl,fun i hi=>by
    by_cases e:i=n
    ·subst e;have:=hr.1 i (Yh _) (by assumption);exact aT 0x91b001022 rfl this
    ·have:=hr.2 i (aT 0x100102391b003 rfl hi e);exact aT 0x91b001002 rfl this⟩
 refine DD (Lf (N-(n+1)) p (n+1) 0 hz ⟨by exact bq 0x90b801 rfl,fun i j en hj=>hd i j en (aT 0x10098b91bc002 rfl hj),fun i j hi hj Od=>by have e:j=n:=aT 0x1290b10198b90bc13 rfl hj Od;cases e;exact Hy i (aT 0x10098b91bc002 rfl hi),fun i j en hi hj=>PJ 0x652430492b10098b92bc11004 rfl en hi hj⟩ Hr (aT 0x190b1c90bb11002 rfl hn)) fun p' n' q' e a1 a2 a3 y0=>?_;refine aZ y0 fun a4 a5=>?_;refine xR e ?_;split
 ·exact yr ((kas_rev_size _ _).trans a1) (a2.rev (br 0x211211023 rfl a1 a5)) (a3.rev (br 0x211211023 rfl a1 a5)) (aT 0x191190b12 rfl a4) a5
 ·have hq0:q'=0:=bq 0x80208032 rfl (by assumption);subst hq0;refine yr a1 (fun i j en hj=>?_) a3 (aT 0x191190b12 rfl a4) a5;by_cases e:j=n'-1
  ·subst e;exact .inl (a2.b i (n'-1) (by assumption) (bq 0x90c98b0c11 rfl) (by assumption))
  ·exact a2.a i j en (aT 0x98b1c0091c0231003 rfl hj e)
theorem jL (h:i<N):(Yk (Yy N)).getD i 0=i:=by simp[Z9,h]
theorem Ih (h1:1<=N):∃m p',gF (gP r) (kas_count N (Yk (Yy N)))=(m,p')/\p'.size=N/\IY r p' m/\vM p' N m/\1<=m/\m<=N:=by
 have hz:(Yk (Yy N)).size=N:=by simp
 have hr:∀n,n<=N->vM (Yk (Yy N)) N n:=fun n hn=>⟨fun i x hl=>jL hl,fun i hi=>by refine xR (jL (br 0x1200201013 rfl hn hi)) ?_;exact hi⟩;unfold kas_count;simp only[gU];refine Fz (IQ (r:=r) (N-1) 1 (fun i j en hj=>(aT 0x69101003 rfl en hj).elim) (hr 1 h1) (Yh _) (bq 0x90c9b10912 rfl h1)) fun m e a1 a2 a3 a4 a5=>?_;refine xR e ?_;by_cases hm:m=N
 ·refine xR (V7 (beq_iff_eq.mpr hm)) ?_;exact⟨m,_,rfl,hz,a1,a2,by exact bq 0x910912 rfl a3,by exact aT 0x1011022 rfl hm⟩
 ·refine xR (V6 (by rw[V3];exact hm)) ?_;have jw:=a5 (aT 0x90c9b10012390c9b110914 rfl h1 a4 hm);split
  ·rename_i BJ;rw[kL];by_cases hc:r ((Yk (Yy N)).getD 0 0)<r ((Yk (Yy N)).getD (m-1) 0)
   ·have:gP r ((Yk (Yy N)).getD 0 0) ((Yk (Yy N)).getD (m-1) 0)=true:=VZ hc;refine xR this ?_;refine xR (V7 rfl) ?_;exact⟨m,_,rfl,hz,a1,a2,by exact bq 0x910902 rfl BJ,by exact aT 0x10109091c9b013 rfl a4 BJ⟩
   ·have:gP r ((Yk (Yy N)).getD 0 0) ((Yk (Yy N)).getD (m-1) 0)=false:=VY hc;refine xR this ?_;refine xR (V6 ZX) ?_;have heq:=fun i hi=>by
     have h0:r ((Yk (Yy N)).getD 0 0)<=r ((Yk (Yy N)).getD i 0):=by
      by_cases e:i=0
      ·refine xR e ?_;exact Yh _
      ·have:=a1 0 i (bq 0x8080232 rfl e) hi;unfold prec at this;exact cX 0x101320102410052 rfl this
     have h2:r ((Yk (Yy N)).getD i 0)<=r ((Yk (Yy N)).getD (m-1) 0):=by
      by_cases e:i=m-1
      ·refine xR e ?_;exact Yh _
      ·have:=a1 i (m-1) (aT 0x91c0091c0231003 rfl hi e) (aT 0x191c01002 rfl hi);unfold prec at this;exact cX 0x101320102410052 rfl this
     exact br 0x12212120110034 rfl hc h0 h2
    refine qa ((kas_rev_size _ _).trans hz) (fun i j en hj=>?_) (a2.rev (br 0x2129091c9b211024 rfl hz a4 BJ)) (bq 0x910902 rfl BJ) (aT 0x100090102391c9b014 rfl a4 hm BJ) (fun i hi=>?_)
    ·rw[dW (by exact br 0x2129091c9b211024 rfl hz a4 BJ),dW (by exact br 0x2129091c9b211024 rfl hz a4 BJ),V7 ⟨by exact bq 0x811 rfl,hj⟩,V7 ⟨by exact bq 0x811 rfl,by exact br 0x2002101003 rfl en hj⟩];have:=heq (0+m-1-j) (aT 0x10918bcc01002 rfl hj);have:=heq (0+m-1-i) (br 0x12918bcc01002 rfl hj);have e1:=jL (i:=0+m-1-j) (br 0x12908bcc009091c9b013 rfl a4 BJ);have e2:=jL (i:=0+m-1-i) (br 0x12908bcc009091c9b013 rfl a4 BJ);unfold prec;exact MU 0x760532453050928bcc721928bcc624524322101007 rfl en hj (by assumption) this e1 e2
    ·rw[dW (by exact br 0x2129091c9b211024 rfl hz a4 BJ),dW (by exact br 0x2129091c9b211024 rfl hz a4 BJ),V6 (by exact bq 0x81431 rfl),V7 ⟨by exact bq 0x811 rfl,hi⟩];have:=heq (0+m-1-i) (aT 0x10918bcc01002 rfl hi);exact br 0x2001221003 rfl jw this
  ·rename_i BJ;have Zag:m=1:=bq 0x90209030913 rfl a3 BJ;subst Zag;refine qa hz (fun i j en hj=>(aT 0x69101003 rfl en hj).elim) a2 (by omega) (bq 0x9009230913 rfl h1 hm) (fun i hi=>?_);have e:i=0:=bq 0x8029002 rfl hi;subst e;exact jw
theorem Gw (hs:IY r p k):∀(f l u:Nat),l<=u->u<=k->u-l<=f->(∀i,i<l->r (p.getD i 0)<=r (p.getD k 0))->(∀i,u<=i->i<k->r (p.getD k 0)<r (p.getD i 0))->∃m,gF (gP r) (kas_place p k f l u)=m/\m<=k/\(∀i,i<m->r (p.getD i 0)<=r (p.getD k 0))/\∀i,m<=i->i<k->r (p.getD k 0)<r (p.getD i 0):=by
 intro f;induction f with
 |zero=>intro l u h1 h2 h3 hl hu;exact⟨l,rfl,by exact br 0x2012111013 rfl h1 h2,hl,fun i hi hk=>hu i (br 0x201211810c13 rfl h3 hi) hk⟩
 |succ f ih=>
  intro l u h1 h2 h3 hl hu;rw[show kas_place p k (f+1) l u=(if l>=u then .ret l else .ask (p.getD k 0) (p.getD ((l+u)/2) 0) fun c=>if c=true then kas_place p k f l ((l+u)/2)else kas_place p k f ((l+u)/2+1) u)from rfl];split
  ·exact⟨l,rfl,by exact br 0x2012111013 rfl h1 h2,hl,fun i hi hk=>hu i (br 0x2012111013 rfl (by assumption) hi) hk⟩
  ·rw[kL];by_cases hc:r (p.getD k 0)<r (p.getD ((l+u)/2) 0)
   ·have:gP r (p.getD k 0) (p.getD ((l+u)/2) 0)=true:=VZ hc;rw[this];rw[V7 rfl];refine ih l ((l+u)/2) (cX 0x21102a3001b3202db210134 rfl (by assumption) (Yi (l+u) (2)) (X8 (l+u) (Nat.le_of_ble_eq_true rfl:2>0))) (oC 0x13102b4302db220131014 rfl h2 (by assumption) (Yi (l+u) (2))) (oC 0x213c101b4302db292b10c13 rfl h3 (Yi (l+u) (2))) hl fun i hi hk=>?_;by_cases e:i=(l+u)/2
    ·rw[e];exact hc
    ·have:=hs ((l+u)/2) i (aT 0x10001231013 rfl hi e) hk;unfold prec at this;exact oC 0x200430212421051003 rfl hc this
   ·have:gP r (p.getD k 0) (p.getD ((l+u)/2) 0)=false:=VY hc;rw[this];rw[V6 ZX];refine ih ((l+u)/2+1) u (cX 0x92b101b3202db210133 rfl (by assumption) (Yi (l+u) (2))) (aT 0x1011012 rfl h2) (oC 0x293b0c102a4001b4302db292b10c14 rfl h3 (Yi (l+u) (2)) (X8 (l+u) (Nat.le_of_ble_eq_true rfl:2>0))) (fun i hi=>?_) hu;by_cases e:i=(l+u)/2
    ·rw[e];exact aT 0x1110032 rfl hc
    ·have:=hs i ((l+u)/2) (aT 0x100102391b003 rfl hi e) (oC 0x13002b4302db220131014 rfl h2 (by assumption) (Yi (l+u) (2)));unfold prec at this;exact oC 0x214301224120510033 rfl hc this
theorem Cq:∀(f:Nat)(p:Array Nat)(k:Nat),p.size=N->IY r p k->vM p N k->k+f=N->∃p',gF (gP r) (kas_bin f p k)=p'/\p'.size=N/\IY r p' N/\vM p' N N:=by
 intro f;induction f with
 |zero=>intro p k hz hs hr hk;have:k=N:=aT 0x102180b22 rfl hk;subst this;exact⟨p,rfl,hz,hs,hr⟩
 |succ f ih=>
  intro p k hz hs hr hk;rw[show kas_bin (f+1) p k=(kas_place p k k 0 k).bind fun l=>kas_bin f (bubble p k (k-l)) (k+1)from rfl,gU];refine Jj (Gw hs k 0 k (X1 _) (Yh _) (bq 0x80c11 rfl) (fun i hi=>br 0x2118002 rfl hi) (fun i hi hk=>cX 0x3200101013 rfl hi hk)) fun l e b1 b2 b3=>?_;rw[e];have Uk:=hr.1 k (Yh _) (br 0x200291b0b22 rfl hk);have hb:∀i,(bubble p k (k-l)).getD i 0=if i=l then p.getD k 0 else if l<i/\i<=k then p.getD (i-1) 0 else p.getD i 0:=fun i=>by rw[HQ (by exact cX 0x20193b2b21023 rfl hz hk) (by exact aT 0x10c11 rfl)];have:k-(k-l)=l:=aT 0x1c1c21012 rfl b1;rw[this]
  refine ih (bubble p k (k-l)) (k+1) ((bubble_size _ _ _).trans hz) (fun i j en hj=>?_) ⟨fun i hi hl=>?_,fun i hi=>?_⟩ (br 0x2190bb2291b0b22 rfl hk)
  ·rw[hb,hb];by_cases h1:j=l
   ·rw[V6 (show ¬i=l by exact br 0x20232121003 rfl en h1),V6 (show ¬(l<i/\i<=k) by exact cX 0x301020432121003 rfl en h1),V7 h1];have h2:=b2 i (br 0x2002121003 rfl en h1);have h3:=hr.2 i (br 0x20092b101003 rfl en hj);unfold prec;exact oC 0x40322432051403211024 rfl Uk h2 h3
   ·by_cases h2:i=l
    ·rw[V7 h2,V6 h1,V7 ⟨by exact br 0x1202021003 rfl en h2,by exact aT 0x10191b002 rfl hj⟩];exact .inl (b3 (j-1) (br 0x91c212021003 rfl en h2) (br 0x291c092b101003 rfl en hj))
    ·rw[V6 h2,V6 h1];by_cases h3:l<i
     ·rw[V7 ⟨h3,by exact br 0x20192b101003 rfl en hj⟩,V7 ⟨by exact br 0x1200201003 rfl en h3,by exact aT 0x10191b002 rfl hj⟩];exact hs _ _ (br 0x91c90c00201003 rfl en h3) (br 0x291c092b101003 rfl en hj)
     ·rw[V6 (show ¬(l<i/\i<=k) by exact br 0x2111004310032 rfl h3)];split
      ·exact hs _ _ (cX 0x92c003212104010310234 rfl h2 h3 (by assumption)) (br 0x291c021110042 rfl (by assumption))
      ·exact hs _ _ (by assumption) (br 0x12012120043022391b201015 rfl b1 hj h1 (by assumption))
  ·rw[hb,V6 (by exact br 0x223291b11013 rfl b1 hi),V6 (by exact br 0x1112043190b12 rfl hi)];exact hr.1 i (aT 0x101190b12 rfl hi) hl
  ·rw[hb];split
   ·exact aT 0x91b001022 rfl Uk
   ·split
    ·have:=hr.2 (i-1) (br 0x291c021110042 rfl (by assumption));exact aT 0x91b001002 rfl this
    ·have:=hr.2 i (br 0x12012120043022391b201015 rfl b1 hi (by assumption) (by assumption));exact aT 0x91b001002 rfl this
theorem wi (h1:1<=N):∃p',gF (gP r) (kas_sort N)=p'/\p'.size=N/\IY r p' N/\vM p' N N:=by
 unfold kas_sort;simp only[gU];refine Ji (Ih (r:=r) h1) fun m p' e a1 a2 a3 a4 a5=>?_;refine xR e ?_;split
 ·have:max m 1=m:=bq 0x90cf20912 rfl a4;refine xR this ?_;exact Cq _ p' m a1 a2 a3 (aT 0x101c0b21002 rfl (by assumption))
 ·have:m=N:=aT 0x10210031013 rfl a5 (by assumption);subst this;exact⟨p',rfl,a1,a2,a3⟩
theorem AP (hf:∀i j,i<N->j<N->f i j=decide (r i<r j)):(eV f N).length=N/\(∀x∈eV f N,x<N)/\(eV f N).Pairwise (prec r):=by
 unfold eV;split
 ·rename_i h;refine⟨by simp,fun x hx=>by simpa using hx,?_⟩;rcases N with⟨⟩|⟨⟩|N
  ·exact .nil
  ·exact List.pairwise_singleton _ _
  ·exact absurd h (by lia)
 ·rename_i h;have e:=si hf _ (uF (bq 0x8002a0032 rfl h));refine xR e ?_;refine Jj (wi (r:=r) (N:=N) (bq 0x9102a0032 rfl h)) fun p' e' a1 a2 a3=>?_;refine xR e' ?_;refine⟨by simp[a1],fun x hx=>?_,?_⟩
  ·obtain⟨i,hi,rfl⟩:=List.getElem_of_mem hx;have mV:i<p'.size:=by simpa using hi
   have:=a3.2 i (br 0x1200201023 rfl a1 mV);simpa[Z9,mV]using this
  ·rw[List.pairwise_iff_getElem];intro i j hi hj en;have mV:i<p'.size:=by simpa using hi
   have hj':j<p'.size:=by simpa using hj
   have:=a2 i j en (br 0x1200201023 rfl a1 hj');simpa[Z9,mV,hj']using this
end
end Ks
end Mine.Internal
namespace Mine.Internal
namespace Fo
noncomputable def fwd (le:Nat->Bool)(low:Bool):List Nat->List Nat->List Nat|[],_=>[]|a::r,aR=>if le a==low then a::(aR.reverse++fwd le low r [])else fwd le low r (a::aR)
noncomputable def bwd (le:Nat->Bool)(low:Bool):Nat->List Nat->List Nat->List Nat|f,aR,[]=>aR.reverse++[f]|f,aR,a::r=>if le a==low then aR.reverse++f::bwd le low a [] r else bwd le low f (a::aR) r
section
variable {le:Nat->Bool} {low:Bool} {v:Nat->Nat}
theorem Sj {aR:List Nat}:fwd le low [] aR=[]:=rfl
theorem z7 {aR:List Nat}:bwd le low f aR []=aR.reverse++[f]:=rfl
theorem sG {aR:List Nat}:fwd le low (a::r) aR=if le a==low then a::(aR.reverse++fwd le low r [])else fwd le low r (a::aR):=rfl
theorem vE {aR:List Nat}:bwd le low f aR (a::r)=if le a==low then aR.reverse++f::bwd le low a [] r else bwd le low f (a::aR) r:=rfl
theorem eE (h:∀b,(a::r).getLast?=XU b->le b=low):∀b,r.getLast?=XU b->le b=low:=fun b hb=>h b (by rw[List.getLast?_cons,hb];rfl)
theorem nil_of (h:∀b,(a::r).getLast?=XU b->le b=low)(hn:¬(le a==low)=true):r=[]->a::aR=[]:=fun e=>by subst e;exact absurd (beq_iff_eq.mpr (h a rfl)) hn
theorem kM:∀(l aR:List Nat),(∀b,l.getLast?=XU b->le b=low)->(l=[]->aR=[])->(fwd le low l aR).Perm (aR.reverse++l)
 |[],aR,_,h=>by rw[h rfl];exact .refl _
 |a::r,aR,hl,_=>by
  rw[sG];split
  ·have h:=kM r [] (eE hl) fun x=>rfl;exact((h.append_left aR.reverse).cons a).trans List.perm_middle.symm
  ·rename_i hn;have h:=kM r (a::aR) (eE hl) (nil_of hl hn);rwa [Ys,ZG]at h
theorem mG (c:Bool):∀(l aR:List Nat),(∀b,l.getLast?=XU b->le b=low)->(l=[]->aR=[])->(∀a∈aR,le a≠low)->(fwd le low l aR).filter (fun a=>le a==c)=(aR.reverse++l).filter fun a=>le a==c
 |[],aR,_,h,_=>by rw[h rfl];rfl
 |a::r,aR,hl,_,ha=>by
  rw[sG];split
  ·rename_i hc;have h:=mG c r [] (eE hl) (fun y=>rfl) (fun a ha=>nomatch ha);rw[Yr,Yz]at h;have hA:∀d:Bool,d=low->aR.reverse.filter (fun a=>le a==d)=[]:=fun d hd=>by rw[List.filter_eq_nil_iff];exact fun x hx=>by rw[hd,V3];exact ha x (YB.mp hx)
   rw[Zv,List.filter_append,h,List.filter_append,Zv];by_cases hq:(le a==c)=true
   ·have:=(beq_iff_eq.mp hq).symm.trans (beq_iff_eq.mp hc);rw[V7 hq,V7 hq,hA c this];rfl
   ·rw[V6 hq,V6 hq]
  ·rename_i hn;have h:=mG c r (a::aR) (eE hl) (nil_of hl hn) (fun x hx=>by
    refine XR (YL.mp hx) (fun q=>?_) fun q=>?_
    ·subst q;exact fun e=>hn (beq_iff_eq.mpr e)
    ·exact ha x q)
   rwa [Ys,ZG]at h
theorem Dr (f:Nat):∀(m aR:List Nat)(r:List Nat),(∀a∈m,le a≠low)->bwd le low f aR (m++r)=bwd le low f (m.reverse++aR) r|[],aR,r,_=>rfl|a::m,aR,r,h=>by rw[ZE,vE,V6 (fun e=>h a YJ (beq_iff_eq.mp e)),Dr f m (a::aR) r fun x hx=>h x (YK _ hx),Ys,ZG];rfl
theorem xM:∀(l aR:List Nat),l≠[]->(∀b,l.getLast?=XU b->le b=low)->(∀a∈aR,le a≠low)->∃a m,fwd le low l aR=a::m/\le a=low/\bwd le low a [] m=aR.reverse++l
 |[],_,h,_,_=>absurd rfl h
 |a::r,aR,_,hl,ha=>by
  rw[sG];split
  ·rename_i hc;refine⟨a,_,rfl,beq_iff_eq.mp hc,?_⟩;rw[Dr a aR.reverse [] _ (fun x hx=>ha x (YB.mp hx)),Yq,ZF];cases r with|nil=>rfl|cons b r=>refine eH (xM (b::r) [] (by simp) (eE hl) (fun x hx=>nomatch hx)) fun d m h1 h2 h3=>?_;rw[h1,vE,V7 (beq_iff_eq.mpr h2),h3];rfl
  ·rename_i hn;have hr:r≠[]:=fun e=>by have:=nil_of (aR:=aR) hl hn e;rcases this with⟨⟩
   refine eH (xM r (a::aR) hr (eE hl) (fun x hx=>by
    refine XR (YL.mp hx) (fun q=>?_) fun q=>?_
    ·subst q;exact fun e=>hn (beq_iff_eq.mpr e)
    ·exact ha x q)) fun d m h1 h2 h3=>?_
   exact⟨d,m,h1,h2,by rw[h3,Ys,ZG];rfl⟩
noncomputable def cnt (v:Nat->Nat)(a:Nat)(l:List Nat):Nat:=l.countP fun b=>decide (v b<v a)
def inv (v:Nat->Nat):List Nat->Nat|[]=>0|a::r=>cnt v a r+inv v r
def jW (v:Nat->Nat):List Nat->List Nat->Nat|[],_=>0|a::r,l=>cnt v a l+jW v r l
theorem zt:inv v (a::r)=cnt v a r+inv v r:=rfl
theorem lC:jW v (a::r) l=cnt v a l+jW v r l:=rfl
theorem cnt_append (a:Nat)(l m:List Nat):cnt v a (l++m)=cnt v a l+cnt v a m:=List.countP_append ..
theorem zU (a:Nat)(h:l.Perm m):cnt v a l=cnt v a m:=h.countP_eq _
theorem s8:∀(A:List Nat){l m:List Nat},l.Perm m->jW v A l=jW v A m|[],_,_,_=>rfl|a::A,_,_,h=>by rw[lC,lC,zU a h,s8 A h]
theorem ig:∀(A B:List Nat),inv v (A++B)=inv v A+inv v B+jW v A B|[],B=>(X2 _).symm|a::A,B=>by rw[ZE,zt,zt,lC,ig A B,cnt_append];exact oC 0x41b320bbb432bb10bb21 rfl
theorem mJ:∀(A:List Nat)(b:Nat)(B:List Nat),jW v A (b::B)=(A.countP fun a=>decide (v b<v a))+jW v A B|[],_,_=>rfl|a::A,b,B=>by rw[lC,lC,mJ A b B,List.countP_cons];unfold cnt;rw[List.countP_cons];exact cX 0x30b12bb32b10bb21 rfl
noncomputable def big (v:Nat->Nat)(x:Nat)(l:List Nat):Nat:=l.countP fun a=>decide (v x<v a)
theorem Cs (x:Nat)(l m:List Nat):big v x (l++m)=big v x l+big v x m:=List.countP_append ..
theorem vw (x:Nat):∀l:List Nat,jW v l [x]=big v x l:=fun l=>by
 rw[mJ l x []];have:∀l:List Nat,jW v l []=0:=fun l=>by induction l with|nil=>rfl|cons a l ih=>rw[lC,ih];rfl
 rw[this,Nat.add_zero];rfl
theorem w5 (x:Nat):∀(l aR:List Nat),(∀b,l.getLast?=XU b->decide (v b<=v x)=low)->(l=[]->aR=[])->(∀a∈aR,decide (v a<=v x)≠low)->(low=true->inv v (aR.reverse++l)=inv v (fwd (fun a=>decide (v a<=v x)) low l aR)+big v x (aR.reverse++l))/\(low=false->inv v (aR.reverse++l)+(aR.reverse++l).length=inv v (fwd (fun a=>decide (v a<=v x)) low l aR)+big v x (aR.reverse++l))
 |[],aR,_,h,_=>by rw[h rfl];exact⟨fun y=>rfl,fun y=>rfl⟩
 |a::r,aR,hl,_,ha=>by
  rw[sG];split
  ·rename_i hc;have hc:=beq_iff_eq.mp hc;have hp:=kM r [] (eE hl) fun y=>rfl;rw[Yr,Yz]at hp;have h:=w5 x r [] (eE hl) (fun y=>rfl) (fun a ha=>nomatch ha);rw[Yr,Yz]at h;have e1:inv v (aR.reverse++a::r)=inv v aR.reverse+(cnt v a r+inv v r)+((aR.reverse.countP fun b=>decide (v a<v b))+jW v aR.reverse r):=by rw[ig,mJ];rfl
   have e2:inv v (a::(aR.reverse++fwd (fun a=>decide (v a<=v x)) low r []))=(cnt v a aR.reverse+cnt v a r)+(inv v aR.reverse+inv v (fwd (fun a=>decide (v a<=v x)) low r [])+jW v aR.reverse r):=by rw[zt,cnt_append,zU a hp,ig,s8 _ hp]
   have e3:big v x (aR.reverse++a::r)=big v x aR.reverse+((if decide (v x<v a)=true then 1 else 0)+big v x r):=by rw[Cs];unfold big;rw[List.countP_cons];exact br 0x12b0b21b0b21 rfl
   have hA:=fun b hb=>ha b (YB.mp hb);rw[e1,e2,e3];constructor
   ·intro Hy;subst Hy;have Py:v a<=v x:=VW hc;have Ov:=fun b hb=>by have:=hA b hb;simp only[ne_eq,V0]at this;exact aT 0x1010132 rfl this
    have c1:(aR.reverse.countP fun b=>decide (v a<v b))=aR.reverse.length:=List.countP_eq_length.mpr fun b hb=>VZ (by have:=Ov b hb;exact br 0x2002101013 rfl Py this);have c2:cnt v a aR.reverse=0:=List.countP_eq_zero.mpr fun b hb=>by have:=Ov b hb;simp;exact br 0x2012101013 rfl Py this
    have c3:big v x aR.reverse=aR.reverse.length:=List.countP_eq_length.mpr fun b hb=>VZ (Ov b hb);have c4:(if decide (v x<v a)=true then 1 else 0)=0:=V6 (by simp;assumption);have:=h.1 rfl;rw[c1,c2,c3,c4];exact PJ 0x28b5b613bb48bbb65b04b3bb221b022 rfl this
   ·intro Hy;subst Hy;have Py:v x<v a:=by have:=of_decide_eq_false hc;exact aT 0x1010132 rfl this
    have Ov:=fun b hb=>by have:=hA b hb;simp only[ne_eq,decide_eq_false_iff_not,Decidable.not_not]at this;exact this
    have c1:(aR.reverse.countP fun b=>decide (v a<v b))=0:=List.countP_eq_zero.mpr fun b hb=>by have:=Ov b hb;simp;exact br 0x1210211003 rfl Py this
    have c2:cnt v a aR.reverse=aR.reverse.length:=List.countP_eq_length.mpr fun b hb=>VZ (by have:=Ov b hb;exact br 0x1200211003 rfl Py this);have c3:big v x aR.reverse=0:=List.countP_eq_zero.mpr fun b hb=>by have:=Ov b hb;simp;assumption
    have c4:(if decide (v x<v a)=true then 1 else 0)=1:=V7 (VZ Py);have:=h.2 rfl;rw[c1,c2,c3,c4];simp only[Y9,Y8]at *;exact MU 0x39b8b624bb57bbb91b7b68b05b4bbb232b10b22 rfl this
  ·rename_i hn;have h:=w5 x r (a::aR) (eE hl) (nil_of hl hn) (fun b hb=>by
    refine XR (YL.mp hb) (fun q=>?_) fun q=>?_
    ·subst q;exact fun e=>hn (beq_iff_eq.mpr e)
    ·exact ha b q)
   rwa [Ys,ZG]at h
def tp (v:Nat->Nat):Nat->List Nat|0=>[0]|n+1=>fwd (fun a=>decide (v a<=v (n+1))) (decide (v n<=v (n+1))) (tp v n) []++[n+1]
noncomputable def fl (v:Nat->Nat):Nat->Nat|0=>0|n+1=>if v (n+1)<v n then fl v n+(n+1)else fl v n
theorem AD:tp v (n+1)=fwd (fun a=>decide (v a<=v (n+1))) (decide (v n<=v (n+1))) (tp v n) []++[n+1]:=rfl
theorem OO:fl v (n+1)=if v (n+1)<v n then fl v n+(n+1)else fl v n:=rfl
theorem vY:∀n,(tp v n).getLast?=XU n|0=>rfl|n+1=>by rw[AD,List.getLast?_append];rfl
theorem qJ (n:Nat):∀b,(tp v n).getLast?=XU b->decide (v b<=v (n+1))=decide (v n<=v (n+1)):=fun b hb=>by rw[vY]at hb;obtain rfl:=XT hb;rfl
theorem PW (n:Nat):tp v n≠[]:=fun e=>by have:=vY (v:=v) n;rw[e]at this;rcases this with⟨⟩
theorem oK (n:Nat):(fwd (fun a=>decide (v a<=v (n+1))) (decide (v n<=v (n+1))) (tp v n) []).Perm (tp v n):=kM (tp v n) [] (qJ n) fun x=>rfl
theorem qI:∀n,(tp v n).Perm (Yy (n+1))|0=>.refl _|n+1=>by rw[AD,Yw];exact((oK n).trans (qI n)).append_right _
theorem vX (n:Nat):(tp v n).length=n+1:=by rw[(qI n).length_eq,YY]
theorem FN:∀n,inv v (tp v n)=fl v n
 |0=>rfl
 |n+1=>by
  rw[AD,ig,vw,OO,<-FN n];have hb:big v (n+1) (fwd (fun a=>decide (v a<=v (n+1))) (decide (v n<=v (n+1))) (tp v n) [])=big v (n+1) (tp v n):=(oK n).countP_eq _;have h:=w5 (n+1) (tp v n) [] (qJ n) (fun x=>rfl) (fun a ha=>nomatch ha);rw[Yr,Yz]at h;have hi:inv v [n+1]=0:=rfl;rw[hb,hi];by_cases hc:v (n+1)<v n
  ·have h2:=h.2 (VY (aT 0x1131002 rfl hc));rw[V7 hc];rw[vX]at h2;exact cX 0x91b0b382bb232b91b0b22 rfl h2
  ·have h1:=h.1 (VZ (aT 0x1110032 rfl hc));rw[V6 hc];exact br 0x281bb221b022 rfl h1
theorem Jr (n:Nat):∃a m,tp v (n+1)=a::(m++[n+1])/\decide (v a<=v (n+1))=decide (v n<=v (n+1))/\bwd (fun a=>decide (v a<=v (n+1))) (decide (v a<=v (n+1))) a [] m=tp v n:=by refine eH (xM (tp v n) [] (PW n) (qJ n) (fun a ha=>nomatch ha)) fun a m h1 h2 h3=>?_;refine⟨a,m,by rw[AD,h1];rfl,h2,?_⟩;rw[h2];exact h3
theorem mD (p:Nat->Bool)(hi:p i=true)(hj:p j=true):∀l:List Nat,(l.idxOf i<l.idxOf j↔(l.filter p).idxOf i<(l.filter p).idxOf j)
 |[]=>Iff.rfl
 |a::l=>by
  have ih:=mD p hi hj l;rw[Zv];by_cases ha:p a=true
  ·rw[V7 ha,Zd,Zd,Zd,Zd];cases a==i<;>cases a==j<;>simp[ih]
  ·rw[V6 ha,Zd,Zd];have e1:(a==i)=false:=by rw[V5];rintro rfl;exact ha hi
   have e2:(a==j)=false:=by rw[V5];rintro rfl;exact ha hj
   rw[e1,e2];simp[ih]
theorem BG {l:List Nat}{x i:Nat}(hi:i∈l):(l++[x]).idxOf i=l.idxOf i:=by rw[List.idxOf_append,V7 hi]
theorem G5:i∈tp v n↔i<n+1:=by rw[(qI n).mem_iff,YD]
theorem nA:i∈fwd (fun a=>decide (v a<=v (n+1))) (decide (v n<=v (n+1))) (tp v n) []↔i<n+1:=by rw[(oK n).mem_iff,G5]
theorem zz {n i j:Nat}(hi:i<n+1)(hj:j<n+1)(h:decide (v i<=v (n+1))=decide (v j<=v (n+1))):(tp v (n+1)).idxOf i<(tp v (n+1)).idxOf j↔(tp v n).idxOf i<(tp v n).idxOf j:=by rw[AD,BG (nA.mpr hi),BG (nA.mpr hj),mD (fun a=>decide (v a<=v (n+1))==decide (v j<=v (n+1))) (by rw[h];simp) (by simp),mG _ (tp v n) [] (qJ n) (fun x=>rfl) (fun a ha=>nomatch ha)];exact(mD (fun a=>decide (v a<=v (n+1))==decide (v j<=v (n+1))) (by rw[h];simp) (by simp) (tp v n)).symm
theorem w7 {n i:Nat}(hi:i<n+1):(tp v (n+1)).idxOf i<(tp v (n+1)).idxOf (n+1):=by
 have h1:(n+1)∉fwd (fun a=>decide (v a<=v (n+1))) (decide (v n<=v (n+1))) (tp v n) []:=fun q=>by have:=nA.mp q;exact bq 0x690b90b02 rfl this
 have h2:=nA (v:=v).mpr hi;rw[AD,BG h2,List.idxOf_append,V6 h1];have:=List.idxOf_lt_length_of_mem h2;exact br 0x12b001002 rfl this
theorem CF:∀(n i j:Nat),i<j->j<=n->v i=v j->(tp v n).idxOf i<(tp v n).idxOf j
 |0,i,j,h1,h2,_=>by exact cX 0x3208111003 rfl h1 h2
 |n+1,i,j,h1,h2,hv=>by
  by_cases hj:j=n+1
  ·subst hj;exact w7 (by assumption)
  ·exact(zz (by exact br 0x92b0092b111003 rfl h1 h2) (by exact aT 0x91b0091b02391b013 rfl h2 hj) (by rw[hv])).mpr (CF n i j h1 (by exact aT 0x10191b02391b013 rfl h2 hj) hv)
def Nb (v:Nat→Nat) (n p q:Nat):Prop:=p≤n∧q≤n∧(v p < v q∨v p=v q∧p < q)∧∀r≤n,¬((v p < v r∨v p=v r∧p < r)∧(v r < v q∨v r=v q∧r < q))
theorem LS:∀(n p q:Nat),Nb v n p q->(p<q↔(tp v n).idxOf p<(tp v n).idxOf q)
 |0,p,q,h=>by refine lH h fun h1 h2 h3 h4=>?_;have e1:p=0:=bq 0x8028012 rfl h1;have e2:q=0:=bq 0x8028012 rfl h2;subst e1;subst e2;exact(bq 0x6880002400052 rfl h3).elim
 |n+1,p,q,h=>by
  refine lH h fun h1 h2 h3 h4=>?_;by_cases hp:p=n+1
  ·subst hp;have hq:q≠n+1:=by rintro rfl;exact aT 0x691b91b0002400052 rfl h3
   have hq':q<n+1:=aT 0x91b0091b02391b013 rfl h2 hq;exact⟨fun h=>absurd h (Nat.not_lt_of_lt hq'),fun h=>absurd h (Nat.not_lt_of_lt (w7 (v:=v) hq'))⟩
  ·by_cases hq:q=n+1
   ·subst hq;have Ht:p<n+1:=aT 0x91b0091b02391b013 rfl h1 hp;exact⟨fun h=>w7 (v:=v) Ht,fun h=>Ht⟩
   ·have hx:=h4 (n+1) (Yh _);have hs:decide (v p<=v (n+1))=decide (v q<=v (n+1)):=by
     rw[ZZ,V0,V0];constructor
     ·intro h;refine Nat.le_of_not_lt fun h'=>hx ⟨?_,?_⟩
      ·exact cX 0x91b003224320532191b02391b014 rfl h1 hp h
      ·exact cX 0x392b0102410051002 rfl h'
     ·intro h;exact oC 0x401411320102410053 rfl h3 h
    rw[zz (by exact aT 0x91b0091b02391b013 rfl h1 hp) (by exact aT 0x91b0091b02391b013 rfl h2 hq) hs];exact LS n p q ⟨by exact aT 0x10191b02391b013 rfl h1 hp,by exact aT 0x10191b02391b013 rfl h2 hq,h3,fun r hr=>h4 r (aT 0x91b011012 rfl hr)⟩
end
end Fo
end Mine.Internal
namespace Mine.Internal
section
open PySem PySem.W PyProof.Rows
open Sem (wp)
theorem aa {α:Type}{a:α}{P:Prop}(h:XW=XU a):P:=nomatch h
set_option tactic.hygienic true in
theorem au {α β:Type}{x:Option α}{f:α->Option β}{b:β}{P:Prop}(h:x.bind f=XU b)(k:∀a,x=XU a->f a=XU b->P):P:=by
 rcases x with⟨⟩;case none=>exact aa h
 case some a=>exact k a rfl h
set_option tactic.hygienic true in
theorem bx {α β:Type}{x:Option α}{f:α->β}{b:β}{P:Prop}(h:x.map f=XU b)(k:∀a,x=XU a->f a=b->P):P:=by
 rcases x with⟨⟩;case none=>exact aa h
 case some a=>exact k a rfl (XT h)
theorem aQ {c:Prop}{_:Decidable c}{β:Type}{x:Option β}{b:β}{P:Prop}(h:(if c then x else XW)=XU b)(k:c->x=XU b->P):P:=by
 split at h
 ·rename_i hc;exact k hc h
 ·exact aa h
theorem w6 {c:Prop}{_:Decidable c}{β:Type}{x:Option β}{b:β}{P:Prop}(h:(if c then XW else x)=XU b)(k:¬c->x=XU b->P):P:=by
 split at h
 ·exact aa h
 ·rename_i hc;exact k hc h
noncomputable def holders:List String:=XJ.Bytes.decodersThatHold++["bytearray.__contains__","bytearray.__mod__","bytearray.__rmod__","_struct.pack_into.held","bytearray.find.held"]
noncomputable def mA:Code->Bool| .builtin id _=> !holders.contains id|_=>true
set_option backward.match.sparseCases true in
noncomputable def isCaller:Code->Bool| .builtin "claim.caller" _=>true|_=>false
def I5 (Γ:Ctx):Prop:=(∀x∈Γ.below,mA x.1=true)/\∃x∈Γ.below,isCaller x.1=true
def Clean (Γ:Ctx):Prop:=mA Γ.code=true/\(∀x∈Γ.below,mA x.1=true)/\(isCaller Γ.code=true\/∃x∈Γ.below,isCaller x.1=true)
theorem Clean.enter (h:Clean Γ)(c:Code)(hd:Option WJ)(p:Pos):I5 (Γ.enter c hd p):=by
 refine⟨fun x hx=>?_,?_⟩
 ·refine XR (YL.mp hx) (fun q=>?_) fun q=>?_
  ·refine xR q ?_;exact h.1
  ·exact h.2.1 x q
 ·refine XR h.2.2 (fun q=>?_) fun y0=>?_
  ·exact⟨(Γ.code,p),YJ,q⟩
  ·refine aE y0 fun x hx q=>?_;exact⟨x,YK _ hx,q⟩
def aV {α:Type}(M:Model)(A:XN)(t:WX α)(Q:α->WV->Prop)(E:WJ->WV->Prop)(s:WV):Prop:=∀Γ p,Γ.In A->Clean Γ/\0<s.toks->wp M Γ t (fun a x s'=>Q a s') (fun e x s'=>E e s') p s
def cy (M:Model)(A:XN)(c:Code)(R:WZ->WV->Prop)(s:WV):Prop:=∀Γ p,Γ.code=c->Γ.Below A->I5 Γ/\0<s.toks->wpCode M Γ R p s
end
section
open PySem PySem.W PyProof.Rows
open Sem (wp)
variable {α β:Type} {M:Model} {A:XN} {E:WJ->WV->Prop} {s:WV} {ag:Env}
theorem ao {Q:α->WV->Prop}(h:Wn M A t Q E s):aV M A t Q E s:=fun Γ p ju x=>h Γ p ju
theorem Im {R:WZ->WV->Prop}(h:codeAny M A c R s):cy M A c R s:=fun Γ p hc ju x=>h Γ p hc ju
theorem aj {Q:α->WV->Prop}(h:Q a s):aV M A (pure a) Q E s:=fun x x x x=>h
theorem aH {Q Q':α->WV->Prop}{E':WJ->WV->Prop}(h:aV M A t Q E s)(hQ:∀a s,Q a s->Q' a s)(hE:∀e s,E e s->E' e s):aV M A t Q' E' s:=fun Γ p ju hc=>WW M Γ t (fun a x s=>hQ a s) (fun e x s=>hE e s) p s (h Γ p ju hc)
theorem ab {Q:β->WV->Prop}(h:aV M A m (fun a s'=>aV M A (f a) Q E s') E s):aV M A (m>>=f) Q E s:=fun Γ p ju hc=>by simp only[WX.wp_bind'];exact WW M Γ m (fun a p' s' h'=>h'.2 Γ p' ju ⟨hc.1,h'.1⟩) (fun x x x h'=>h'.2) p s (WX.wp_toks M Γ 1 m _ _ p s hc.2 (h Γ p ju hc))
theorem aw {Q:Unit->WV->Prop}(h:Q () s):aV M A (standAt pos) Q E s:=ao (wpAny_standAt h)
theorem gZ {Q:Unit->WV->Prop}(h:Q () s):aV M A (rule tag) Q E s:=ao (wpAny_rule h)
theorem aA {Q:α->WV->Prop}(h:aV M A m Q E s):aV M A (holding vs m) Q E s:=fun Γ p ju hc=>by rw[WX.wp_holding];exact h Γ p ju hc
theorem mY {Q:WJ->WV->Prop}(h:aV M A m Q E s):aV M A (operate vs m) Q E s:=fun Γ p ju hc=>by rw[WX.wp_operate];exact h Γ p ju hc
theorem cA {Q:α->WV->Prop}(h:aV M A m Q (fun e s'=>aV M A (k e) (fun x gv=>E e gv) E s') s):aV M A (m.onRaise k) Q E s:=fun Γ p ju hc=>Eq.mpr (WX.wp_onRaise ..) <|WW M Γ m (fun x x x h'=>h'.2) (fun e p' s' h'=>h'.2 Γ p' ju ⟨hc.1,h'.1⟩) p s (WX.wp_toks M Γ 1 m _ _ p s hc.2 (h Γ p ju hc))
theorem ix {Q:Except WJ α->WV->Prop}(h:aV M A m (fun a=>Q (.ok a)) (fun e=>Q (.error e)) s):aV M A m.attempt Q E s:=fun Γ p ju hc=>Eq.mpr (WX.wp_attempt ..) (h Γ p ju hc)
theorem CE {c:Prop}[Decidable c]{Q:α->WV->Prop}(h:if c then aV M A a Q E s else aV M A b Q E s):aV M A (if c then a else b) Q E s:=by split<;>simp_all
theorem bX {Q:α->WV->Prop}(h:t=pure a)(hQ:Q a s):aV M A t Q E s:=h▸aj hQ
def oQ (M:Model)(A:XN)(ag:Env)(E:WJ->WV->Prop):WJ->WV->Prop:=fun x s'=>aV M A (noteFrame x ag) (fun y gv=>E x gv) E s'
theorem eC {Q:α->WV->Prop}(h:aV M A m Q (oQ M A ag E) s):aV M A (m.onRaise fun x=>do noteFrame x ag;theTreesLotGoes x) Q E s:=cA (aH h (fun y y q=>q) fun y y hx=>ab (aH hx (fun y y e=>ao (wpAny_theTreesLotGoes e)) fun y y e=>e))
theorem yi {Q:α->WV->Prop}(h:aV M A m Q (oQ M A ag E) s):aV M A (m.onRaise fun x=>do noteFrame x ag;standAt pos) Q E s:=cA (aH h (fun y y q=>q) fun y y hx=>ab (aH hx (fun y y e=>aw e) fun y y e=>e))
set_option backward.match.sparseCases true in
theorem CD {Q:Xq->WV->Prop}(hc:cy M (A.mark h) c (fun r s'=>match r with| .ok f=>Q f s'| .error e=>E e s') s)(Kw:h≠XU byPass):aV M A (run c h) Q E s:=fun Γ p ju cl=>Eq.mpr (WX.wp_run ..) (hc _ p rfl (ju.enter c h p Kw) ⟨cl.1.enter c h p,cl.2⟩)
set_option backward.match.sparseCases true in
theorem vS {Q:WJ->WV->Prop}(hc:cy M A c (fun r s'=>match r with| .ok (.ret v)=>Q v s'| .ok _=>False| .error e=>E e s') s):aV M A (runValue c) Q E s:=fun Γ p ju cl=>Eq.mpr (WX.wp_runValue ..) (hc _ p rfl (ju.enter c XW p (by intro x;exact aa x)) ⟨cl.1.enter c XW p,cl.2⟩)
set_option backward.match.sparseCases true in
theorem g8 {Q:WJ->WV->Prop}(hc:cy M A (.call f ⟨pos,kw⟩) (fun r s'=>match r with| .ok (.ret v)=>Q v s'| .ok _=>False| .error e=>E e s') s):aV M A (call f pos kw) Q E s:=vS hc
set_option backward.match.sparseCases true in
theorem bj {R:WZ->WV->Prop}(h:aV M (A.under c) (M.den c) (fun fin s'=>match fin with| .done f=>R (.ok f) s'| .again c'=>c'.quiet=true/\cy M A c' R s') (fun e s'=>R (.error e) s') s)(hk:mA c=true):cy M A c R s:=fun Γ p hc ju cl=>by rw[wpCode_iff_wp,hc];refine WW M Γ _ (fun fin p' s' h'=>?_) (fun x x x h'=>h'.2) p s (WX.wp_toks M Γ 1 _ _ _ p s cl.2 (h Γ p (hc▸ju.in) ⟨⟨by refine xR hc ?_;exact hk,cl.1.1,.inr cl.1.2⟩,cl.2⟩));refine aZ h' fun ht h'=>?_;cases fin with|done f=>exact h'|again c'=>exact⟨h'.1,h'.2 (Γ.goto c') p' rfl (ju.goto c') ⟨cl.1,ht⟩⟩
theorem FC {Q:α->WV->Prop}(h:0<s.toks->aV M A t Q E s):aV M A t Q E s:=fun Γ p ju hc=>h hc.2 Γ p ju hc
theorem mM {R R':WZ->WV->Prop}(h:cy M A c R s)(hR:∀r s,R r s->R' r s):cy M A c R' s:=fun Γ p hc ju cl=>wpCode_mono hR (h Γ p hc ju cl)
def ML (M:Model)(A:XN)(ag:Env)(E:WJ->WV->Prop):WJ->WV->Prop:=fun x s'=>aV M A (do
  if(<-field x 1)== .none then unsupported "frame.own-activation:exception-without-traceback"
  setFlight x ag.frame) (fun y gv=>E x gv) E s'
set_option backward.match.sparseCases true in
theorem fT {Q:Xq->WV->Prop}(hc:cy M (A.mark h) c (fun r s'=>match r with| .ok f=>Q f s'| .error e=>ML M A ag E e s') s)(Kw:h≠XU byPass):aV M A (runOwn c ag h) Q E s:=by delta runOwn;exact cA (CD hc Kw)
theorem T4:(XW:Option WJ)≠XU byPass:=by intro x;cases x
theorem dz {Q:List WJ->WV->Prop}(h:Q [] s):aV M A (spliced (backTo pos (starEach [] ag))) Q E s:=aj h
theorem bU {Q:List WJ->WV->Prop}(h:aV M A (eval e ag) (fun v aG=>aV M A (spliced (backTo pos (starEach rest ag))) (fun vs bW=>Q (v::vs) bW) E aG) E s)(he:starEach (e::rest) ag=(false,eval e ag)::starEach rest ag):aV M A (spliced (backTo pos (starEach (e::rest) ag))) Q E s:=by
 refine xR he ?_;show aV M A (do
  let v <-eval e ag;let here <-(pure [v]:WX (List WJ));return here++(<-holding here (spliced (backTo pos (starEach rest ag))))) Q E s
 exact ab (aH h (fun v aG bF=>ab (aj (ab (aA (aH bF (fun vs bW fK=>aj fK) fun y y x=>x))))) fun y y x=>x)
theorem yk {Q:WJ->WV->Prop}(h:aV M A (spliced (backTo pos (starEach elts ag))) (fun vs aG=>vs.length<=sizeLine/\Q (.ref aG.heap.objs.size) {aG with heap:=aG.heap.push {cls:=.type "list",data:=.seq vs.toArray}}) E s):aV M A (eval (.List elts pos) ag) Q E s:=by rw[arm_eval_List];exact ab (aw (ab (aH h (fun vs aG bF=>ao (Wc bF.2 (by show vs.toArray.size<=sizeLine;refine xR Yo ?_;exact bF.1))) fun y y x=>x)))
theorem DH {Q:WJ->WV->Prop}(h:aV M A (spliced (backTo pos (starEach elts ag))) (fun vs aG=>vs.length<=sizeLine/\Q (.ref aG.heap.objs.size) {aG with heap:=aG.heap.push {cls:=.type "tuple",data:=.seq vs.toArray}}) E s):aV M A (eval (.Tuple elts k pos) ag) Q E s:=by rw[arm_eval_Tuple];exact ab (aw (ab (aH h (fun vs aG bF=>ao (Wc bF.2 (by show vs.toArray.size<=sizeLine;refine xR Yo ?_;exact bF.1))) fun y y x=>x)))
theorem DI {lower upper step:Option Expr}{p:Pos}{Q:WJ->WV->Prop}(h:aV M A (evalPart lower ag) (fun l aG=>aV M A (evalPart upper ag) (fun u bW=>aV M A (evalPart step ag) (fun st mq=>Q (.ref mq.heap.objs.size) {mq with heap:=mq.heap.push {cls:=.type "slice",data:=.fields #[l,u,st]}}) E bW) E aG) E s):aV M A (eval (.Slice lower upper step p) ag) Q E s:=by rw[arm_eval_Slice];exact ab (aH h (fun l aG bF=>ab (aA (aH bF (fun u bW fK=>ab (aA (aH fK (fun st mq zA=>ao (Wc zA)) fun y y x=>x))) fun y y x=>x))) fun y y x=>x)
theorem pH {Q:WJ->WV->Prop}(h:aV M A (eval x ag) (fun v aG=>aV M A (unaryOp op v) Q E aG) E s):aV M A (eval (.UnaryOp op x pos) ag) Q E s:=by rw[arm_eval_UnaryOp];exact ab (aH h (fun v aG bF=>ab (aw (aA bF))) fun y y x=>x)
theorem DJ {Q:WJ->WV->Prop}(h:aV M A (isTrue test ag (eval test ag)) (fun b aG=>if b then aV M A (eval body ag) Q E aG else aV M A (eval orelse ag) Q E aG) E s):aV M A (eval (.IfExp test body orelse pos) ag) Q E s:=by rw[arm_eval_IfExp];refine ab (aH h (fun b aG bF=>?_) fun y y x=>x);rcases b with⟨⟩<;>exact bF
theorem MZ {Q:Xq->WV->Prop}(h:aV M A (isTrue test ag (eval test ag)) (fun b bW=>if b then aV M A (execs body ag) Q E bW else aV M A (execs orelse ag) Q E bW) E s):aV M A (exec (.If test body orelse pos) ag) Q E s:=by rw[exec_If];refine ab (aw (ab (aH h (fun b aG bF=>?_) fun y y x=>x)));rcases b with⟨⟩<;>exact bF
theorem qg {Q:Xq->WV->Prop}(h:aV M A (eval e ag) (fun v=>Q (.ret v)) E s):aV M A (exec (.Return (XU e) pos) ag) Q E s:=by rw[exec_Return_some];exact ab (aw (ab (aH h (fun v aG bF=>aj bF) fun y y x=>x)))
set_option backward.match.sparseCases true in
theorem FF {Q:Xq->WV->Prop}(h:aV M A (eval e ag) (fun v s'=>match v with| .ref _=>False|_=>Q .next s') E s)(hi:interactive ag=false)(hs:swapsWith e XW pos.line ag=pure false):aV M A (exec (.Expr e pos) ag) Q E s:=by
 refine xR (exec_Expr ag e pos hi hs) ?_;refine ab (aw (ab (aH h (fun v s' h'=>?_) fun y y x=>x)));have hv:∀a,v≠.ref a:=fun a Mf=>by subst Mf;exact h'
 refine xR (dropValue_plain hv) ?_;refine aj ?_;rcases v with⟨⟩<;>first|exact h'|exact(hv _ rfl).elim
theorem DK {Q:WJ->WV->Prop}(h:aV M A (eval l ag) (fun a aG=>aV M A (eval r ag) (fun b bW=>aV M A (binaryOp op a b) Q E bW) E aG) E s):aV M A (eval (.BinOp l op r pos) ag) Q E s:=by rw[eval_BinOp];exact ab (aH h (fun a aG bF=>ab (aA (aH bF (fun b bW fK=>ab (aw (mY fK))) fun y y x=>x))) fun y y x=>x)
theorem bE {Q:Xq->WV->Prop}(h:aV M A (eval value ag) (fun v aG=>aV M A (assignAll v ((assignEach targets ag).map (·.2))) (fun y=>Q .next) E aG) E s)(hs:swapsWithSole targets value pos.line ag=pure false)(hw:swappedStores targets value ag=pure XW):aV M A (exec (.Assign targets value pos) ag) Q E s:=by simp only[exec_Assign_arm];refine ab (aw ?_);refine xR hs ?_;refine ab (aj ?_);refine xR (V6 (by decide)) ?_;refine ab (aH h (fun v aG bF=>?_) fun y y x=>x);refine xR hw ?_;refine ab (aj ?_);exact ab (aH bF (fun y y x=>aj x) fun y y x=>x)
theorem kf {Q:Xq->WV->Prop}(h:aV M A (eval value ag) (fun v aG=>aV M A (eval o ag) (fun ov bW=>aV M A (eval i ag) (fun iv mq=>aV M A (setItem ov iv v) (fun x=>Q .next) E mq) E bW) E aG) E s)(hs:swapsWith value (XU (.Subscript o i pos')) pos.line ag=pure false):aV M A (exec (.Assign [.Subscript o i pos'] value pos) ag) Q E s:=fun Γ p ju hc=>by obtain⟨L,eL⟩:∃L:WJ->WJ->WJ->List WJ,∀v,assign (.Subscript o i pos') ag v=(do let ov <-holding [v] (eval o ag);let iv <-holding [v,ov] (eval i ag);standAt pos';holding [v,ov,iv] (setItem ov iv v);release (L v ov iv) []):=⟨_,fun v=>rfl⟩;simp only[exec_Assign_Subscript o i pos' value pos hs,eL,WX.wp_bind',WX.wp_holding,WX.wp_cmd_standAt,WX.wp_release,WX.wp_pure'];refine WW M Γ _ ?_ (fun x x x h'=>h'.2) _ _ (WX.wp_toks M Γ 1 _ _ _ _ _ hc.2 (h Γ _ ju hc));intro v Vb aG bF;refine WW M Γ _ ?_ (fun x x x h'=>h'.2) _ _ (WX.wp_toks M Γ 1 _ _ _ _ _ bF.1 (bF.2 Γ Vb ju ⟨hc.1,bF.1⟩));intro ov Va bW fK;refine WW M Γ _ ?_ (fun x x x h'=>h'.2) _ _ (WX.wp_toks M Γ 1 _ _ _ _ _ fK.1 (fK.2 Γ Va ju ⟨hc.1,fK.1⟩));intro iv Za5 mq zA;exact zA.2 Γ _ ju ⟨hc.1,zA.1⟩
set_option backward.match.sparseCases true in
theorem DG {Q:Xq->WV->Prop}(h:cy M A (.whileLoop test body orelse ag) (fun r s'=>match r with| .ok f=>Q f s'| .error e=>ML M A ag E e s') s):aV M A (exec (.While test body orelse pos) ag) Q E s:=by rw[exec_While];exact ab (aw (fT h T4))
theorem oE {Q:Bool->WV->Prop}(h:aV M A whole (fun v aG=>aV M A (truthy v) Q E aG) E s)(he:isTrue e ag whole=(do let v <-whole;standAt e.pos;holding [v] (truthy v))):aV M A (isTrue e ag whole) Q E s:=by refine xR he ?_;exact ab (aH h (fun v aG bF=>ab (aw (aA bF))) fun y y x=>x)
theorem qW {Q:Bool->WV->Prop}(h:aV M A (isTrue x ag (eval x ag)) (fun b aG=>Q (!b) aG) E s):aV M A (isTrue (.UnaryOp .Not x pos) ag whole) Q E s:=by rw[arm_isTrue_UnaryOp];exact ab (aH h (fun b aG bF=>aj bF) fun y y x=>x)
theorem mZ {Q:Bool->WV->Prop}(h:aV M A (allTrue op values ag) Q E s):aV M A (isTrue (.BoolOp op values pos) ag whole) Q E s:=by rw[arm_isTrue_BoolOp];exact h
theorem gi {Q:Xq->WV->Prop}(h:Q .next s):aV M A (execs [] ag) Q E s:=fun x x x x=>h
set_option backward.match.sparseCases true in
theorem g7 {st:WT}{rest:List WT}{Q:Xq->WV->Prop}(h:aV M A (exec st ag) (fun f s'=>match f with| .next=>aV M A (execs rest ag) Q E s'|f=>Q f s') E s):aV M A (execs (st::rest) ag) Q E s:=by rw[execs_cons];refine ab (aH h (fun f s' h'=>?_) fun y y x=>x);rcases f with⟨⟩<;>first|exact h'|exact aj h'
theorem lP {Q:WJ->WV->Prop}(h:aV M A (eval value ag) (fun o aG=>aV M A (eval slice ag) (fun i bW=>aV M A (subscriptTail value slice o i) Q E bW) E aG) E s):aV M A (eval (.Subscript value slice pos) ag) Q E s:=by rw[eval_Subscript];exact ab (aH h (fun o aG bF=>ab (aA (aH bF (fun i bW fK=>ab (aw fK)) fun y y x=>x))) fun y y x=>x)
end
section
open PySem PySem.W PyProof.Rows
open Sem (wp)
variable {prog:W8} {w:WD} {A:XN} {s:WV} {R:WZ->WV->Prop}
set_option backward.match.sparseCases true in
theorem Ca (h:aV (Wu prog w) (A.deeper ag) (execs body ag) (fun f s'=>R (.ok (.ret (match f with| .ret v=>v|_=>.none))) s') (fun e s'=>aV (Wu prog w) (A.deeper ag) (leaving ag e) (fun x gv=>R (.error e) gv) (fun e' gv=>R (.error e') gv) s') s):cy (Wu prog w) A (.func body ag) R s:=by refine bj ?_ rfl;show aV _ (A.deeper ag) (do point;match <-(execs body ag).onRaise (leaving ag)with| .ret v=>ret v|_=>ret .none) _ _ s;refine ab (ao (wpAny_point (ab (cA (aH h (fun f s' h'=>?_) fun x x h'=>h')))));rcases f with⟨⟩<;>exact aj h'
theorem lN (zE:A.depth<recursionLimit)(ho:s.heap.get? a=XU o)(cU:o.data=.func fd)(EG:fd.scope.isCoroutine=false)(oX:fd.scope.isGenerator=false)(gz:fd.body=.stmts body)(De:s.heap.CodeRec fd.code fd.qualname)(h:aV (Wu prog w) A.in1 (bindArgs fd args) (fun binds aG=>aV (Wu prog w) A.in1 (newFunctionEnv fd.scope fd.globals fd.closure binds (fd.qualname++".<locals>.") (XU a) fd.code XW fd.builtins) (fun ag bW=>bW.heap.NoLimit/\cy (Wu prog w) A (.func body ag) R bW) (fun e s'=>R (.error e) s') aG) (fun e s'=>R (.error e) s') s):cy (Wu prog w) A (.call (.ref a) args) R s:=by refine bj ?_ rfl;refine ab (ao (Wf ho ?_));refine cQ De fun c oc vs tq hc Fn KC hq=>?_;rw[cU];show aV _ _ (callFunction a fd args) _ _ _;delta callFunction;rw[hc,gz,oX,EG];rw[hc]at h;refine ab (ao (Wg Fn KC hq (ab (aj ?_))));exact ab (aH h (fun binds aG bF=>ab (aH bF (fun ag bW fK=>ab (ao (wpAny_enterFrame fK.1 zE (aj (And.intro rfl fK.2))))) fun x x h'=>h')) fun x x h'=>h')
set_option backward.match.sparseCases true in
theorem pn (zE:A.depth<recursionLimit)(ho:s.heap.get? a=XU o)(R3:o.data=.func fd)(Za9:s.heap.NoLimit)(De:s.heap.CodeRec fd.code fd.qualname)(gz:fd.body=.stmts body){B:WV->Prop}(nN:aV (Wu prog w) A.in1 (bindArgs fd ⟨vals,[]⟩) (fun bs aG=>bs=binds/\B aG) (fun e s'=>R (.error e) s') s)(hB:∀aG,B aG->aG.heap.NoLimit)(Zaq:fd.closure=[])(jc:∀aG,B aG->∀x∈binds,fd.scope.names.lookup x.1=XU .local\/(fd.scope.names.lookup x.1=XU .cell/\((cellsFrom (aG.heap.objs.size+1) fd.scope.names []).lookup x.1).isSome=true))(h:∀s₀ aG,B s₀->InCallC s₀ (callEnvC fd s₀.heap.objs.size a).locals (bindL (callEnvC fd s₀.heap.objs.size a).kindOf binds fun y=>XW) (callEnvC fd s₀.heap.objs.size a).cells (bindC (callEnvC fd s₀.heap.objs.size a).kindOf binds fun y=>XW) aG->aV (Wu prog w) (A.deeper (callEnvC fd s₀.heap.objs.size a)) (execs body (callEnvC fd s₀.heap.objs.size a)) (fun f s'=>R (.ok (.ret (match f with| .ret v=>v|_=>.none))) s') (fun e s'=>aV (Wu prog w) (A.deeper (callEnvC fd s₀.heap.objs.size a)) (leaving (callEnvC fd s₀.heap.objs.size a) e) (fun y gv=>R (.error e) gv) (fun e' gv=>R (.error e') gv) s') aG)(EG:fd.scope.isCoroutine=false)(oX:fd.scope.isGenerator=false)(hk:fd.scope.kind=.function):cy (Wu prog w) A (.call (.ref a) ⟨vals,[]⟩) R s:=by refine lN zE ho R3 EG oX gz De (aH nN (fun bs aG hb=>?_) fun y y x=>x);refine aZ hb ?_;rintro(rfl) hb;refine xR Zaq ?_;refine ao (wpAny_newFunctionEnv_cells hk (jc aG hb) fun ag he s' x=>?_);subst he;exact⟨(hB aG hb).keeps x.toInCall.keep,Ca (h aG s' hb x)⟩
end
section
open PySem PySem.W PyProof.Rows
open Sem (wp)
variable {M:Model} {A:XN} {E:WJ->WV->Prop} {s:WV} {ag:Env}
theorem yh {α:Type}{c:Prop}[Decidable c]{pos:Pos}{k:PUnit->WX α}{Q:α->WV->Prop}(h:aV M A (k ()) Q E s):aV M A (if c then(standAt pos>>=k)else k ()) Q E s:=by
 split
 ·exact ab (aw h)
 ·exact h
theorem vU {Q:Unit->WV->Prop}(h:aV M A (storeName ag x v) Q E s):aV M A (bindName ag x v) Q E s:=fun Γ p ju hc=>by rw[WX.wp_bindName];exact h Γ p ju hc
theorem FE {Q:WJ->WV->Prop}(h:aV M A (loadName ag x) Q E s)(hd:(x==("__debug__":WS))=false):aV M A (eval (.Name x pos) ag) Q E s:=by refine xR (eval_Name ag x pos hd) ?_;exact ab (aw h)
theorem Jk {Q:WJ->WV->Prop}(h:aV M A (truthy v) (fun b aG=>Q (.bool (!b)) aG) E s):aV M A (unaryOp .Not v) Q E s:=by unfold unaryOp;refine aA ?_;exact ab (aH h (fun b aG bF=>aj bF) fun y y x=>x)
theorem yj {α:Type}{vs:List WJ}{m:WX α}{Q:α->WV->Prop}(h:aV M A m Q E s):aV M A (m.keep vs) Q E s:=fun Γ p ju hc=>by rw[WX.wp_keep];exact h Γ p ju hc
theorem mO {pos:Pos}{a:XO}{o:Obj}{fd:FuncData}{first:List WJ}{args:List (Bool×WX WJ)}{Q:WJ->WV->Prop}(h:aV M A (evalArgs (.ref a) true args []) (fun x aG=>(aG.heap.get? a=XU o/\o.data=.func fd)/\aV M A (call (.ref a) (first++x.pos) x.kw) Q E aG) E s):aV M A (callWith pos (.ref a) first args []) Q E s:=by
 unfold callWith;refine ab (aA (aH h (fun x aG bF=>ab (aw ?_)) fun y y x=>x));have tail:∀{t:WX WJ},aV M A t Q E aG->aV M A (t>>=fun r=>holding [r] point>>=fun y=>pure r) Q E aG:=fun ht=>ab (aH ht (fun r bW hr=>ab (aA (ao (wpAny_point (aj hr))))) fun y y x=>x);cases hs:args.any (·.1)<;>refine ab ?_<;>unfold keeperOf<;>refine ab (ao (Wf bF.1.1 ?_))<;>rw[bF.1.2]<;>refine aj ?_
 ·first|refine CE ?_|skip
  split<;>first|exact tail bF.2|exact tail (by unfold callMarked;exact yj bF.2)
 ·first|exact tail (by unfold callMarked;exact yj bF.2)|exact tail bF.2
def pg (M:Model)(A:XN)(E:WJ->WV->Prop)(use:Option (WJ->WX Unit))(Q:WJ->WV->Prop)(aR:WJ)(C:XO)(r:WZ)(s':WV):Prop:=match r,use with
 | .ok _,XW=>∃m,s'.heap.Ns C m/\∀h',Xn C s'.heap h'->Q aR {s' with heap:=h'}
 | .ok _,XU u=>aV M A (u aR) (fun x gv=>∃m,gv.heap.Ns C m/\∀h',Xn C gv.heap h'->Q .none {gv with heap:=h'}) E s'
 | .error _,_=>False
set_option tactic.hygienic true in
theorem jy {e:Expr}{scope:WY}{pos:Pos}{wN first:WX WJ}{g:Xw}{gs:List Xw}{cl:List (WS×XO)}{use:Option (WJ->WX Unit)}{Q:WJ->WV->Prop}(qt:clausesOf e=g::gs)(hs:∀x,foldedSetIterable g.iter ag x=pure x)(HL:closureFor scope ag=pure cl)(jc:scope.kind=.function)(BI:∀x∈scope.names,x.2=.local->scope.names.lookup x.1=XU .local)(h:aV M A first (fun x aG=>aV M A (pyIter x) (fun it bW=>aV M A wN (fun aR mq=>aV M A (newFunctionEnv scope ag.globals cl [] ag.qual XW .none (XU ag)) (fun eR Qd=>cy M A (.compStart e 0 it aR {eR with scope:=relabel scope ag}) (pg M A E use Q aR eR.locals) Qd) E mq) E bW) E aG) E s):aV M A (comprehension e scope ag pos wN false first use) Q E s:=by
 revert pos gs qt hs HL jc BI h
 refine no_implicit_lambda% (mX (bL (bL (bL (bL neM pR) (bL pQ VV)) VV) VV) ?_ M A s scope ag E Q e use cl wN first g)
 generalize gB _ _=tt
 dsimp only[As]
 generalize tt.1.1.1.1=M,tt.1.1.1.2=A,tt.1.1.2.1=s,tt.1.1.2.2=scope,tt.1.2.1.1=ag,tt.1.2.1.2=E,tt.1.2.2=Q,tt.2.1.1.1=e,tt.2.1.1.2=use,tt.2.1.2=cl,tt.2.2.1.1=wN,tt.2.2.1.2=first,tt.2.2.2=g
 intro pos gs qt hs HL jc BI h
 unfold comprehension
 refine xR HL (xR qt ?_)
 refine ab (aH h (fun x aG bF=>ab (aw (ab (bX (hs x) (ab (aA (aH bF (fun it bW fK=>yh (ab (aH fK (fun aR mq zA=>ab (aj (ab (aH zA (fun eR Qd VG=>?_) fun y y h'=>h')))) fun y y h'=>h'))) fun y y h'=>h'))))))) fun y y h'=>h')
 have hv:∀x∈(scope.names.filter fun x=>(x.2== .local||x.2== .cell)&&x.1 !=(".0":WS)).reverse,x.2=.local->Env.kindOf {eR with scope:=relabel scope ag} x.1=XU .local:=fun x hx hl=>lookup_relabel_local (BI x (YI.mp (YB.mp hx)).1 hl)
 have Ja:∀x∈(scope.names.filter fun x=>(x.2== .local||x.2== .cell)&&x.1 !=(".0":WS)).reverse.drop 1++(scope.names.filter fun x=>(x.2== .local||x.2== .cell)&&x.1 !=(".0":WS)).reverse.take 1,x.2=.local->Env.kindOf {eR with scope:=relabel scope ag} x.1=XU .local:=fun x hx hl=>by
  refine XR (YM.mp hx) (fun h1=>?_) fun h1=>?_
  ·exact hv x (List.mem_of_mem_drop h1) hl
  ·exact hv x (List.mem_of_mem_take h1) hl
 refine aA (ab (ix (aA (CD (mM VG fun r s' hr=>?_) (by intro x;cases x)))))
 rcases r with⟨⟩
 case ok f=>
  rcases use with⟨⟩;case none=>refine aE hr fun m hn hr=>?_;exact ab (aA (ao (wpAny_comp_letGo jc _ s' m hv hn fun h' m' y zD=>aj (hr h' zD))))
  case some u=>refine ab (gZ (ab (aA (aH hr (fun y gv t9=>?_) fun y y h'=>h'))));refine aE t9 fun m hn t9=>?_;exact ab (ao (wpAny_comp_letGo jc _ gv m Ja hn fun h' m' y zD=>aj (t9 h' zD)))
 case error x=>exact(show False from by rcases use with⟨⟩<;>exact hr).elim
end
open PySem PySem.W PyProof.Rows
noncomputable abbrev pw:W8:=PySem.Challenge.pw_pk0032_01
noncomputable abbrev VE:Nat:=4
noncomputable abbrev Ry:Nat:=5
noncomputable abbrev VF:Nat:=7
noncomputable abbrev oz:OpenRow:=Xx.row
noncomputable def Wd:WD:=(fun(P:WD->Prop)(A B:Prop)(_:oz.toRowW.claim.HoldsOpenBy (callStub oz.name) (if oz.pinned then[oz.name]else[]) oz.keeps oz.writes=(A/\B/\∀w,P w))=>gB Fi P) _ _ _ rfl
theorem Pe {P:WD->Prop}(h:P Wd)(e:Wd=gB Fi P):∀w,P w:=kR Fi (e▸h)
end Mine.Internal
section
open PySem PySem.W PyProof.Rows
namespace Mine.Internal
def iy:W8:={pw with main:={pw.main with body:=[0,2,3,4,5,7,9,10,11,12,13,14,15,16,17].filterMap (pw.main.body[·]?)}}
def theDef:DefRec:=((defOf iy "law").get (by kernel_rfl)).1
abbrev FV (s:WV):Bool:=xlAt iy [] s&&recOk (RowW.records oz.toRowW) s
noncomputable abbrev Rg:List WS:=["_twin_re_1","_ver_stages"]
noncomputable def Qf:List (WS×Tok×Int×Tok):=[("dev",331,10,332),("alpha",333,20,334),("a",335,20,336),("beta",337,30,338),("b",339,30,340),("c",341,40,342),("RC",343,50,344),("rc",345,50,346),("pl",347,200,348),("p",349,200,350)]
noncomputable def entryOf (P:Params)(e:WS×Tok×Int×Tok):DictEntry:={hash:=W6.keyHash P e.1,key:=.str e.1 e.2.1,val:=.int e.2.2.1 e.2.2.2}
def U1 (P:Params):Obj:=⟨.type "dict",XW,.dict (Qf.map (entryOf P)).toArray 10,#[]⟩
noncomputable def QP:Obj:={cls:=.type "re.Pattern",data:=.fields #[.str "([0-9]+|[._+-])" 285,.int 32 329,.int 1 0,.none,.none,.ref 35,.int 0 0]}
def SP:Obj:={cls:=.type "tuple",data:=.seq (Re.code.map fun n:Nat=>WJ.int (n:Int) 0)}
noncomputable def Mq (K:Frag):=([("_comparable_version":WS),"_platform","_byteswap","_law_draws","_law_due","_law_cell","_law_told","_law_pairs","_law_forth","_law_back","_law_stand","law"].all (xC K),tabIn K "_platform",tabIn K "law",nsIn K mainGlobals "_twin_re_1",nsIn K mainGlobals "_ver_stages",K.lookup 36,K.lookup 35,K.lookup 37)
noncomputable def Mp (w:WD):=(true,XU ((50:XO),(46:XO)),XU ((106:XO),(104:XO)),XU (XU (WI 36)),XU (XU (WI 37)),XU QP,XU SP,XU (U1 w.params))
noncomputable def hk:Hook:=hookAt [mainGlobals,35,36,37,44,50,51,58,63,70,75,80,85,92,97,102,106,107] Mq Mp
theorem lf (w:WD):(fencedOpening treeTable pw w 1696).map (fun s₀=>(topFrom treeTable pw (w.withFollow "special-get-raises" false) 1696 s₀).map (fun s=>(openSeen iy Rg (importedModules pw.main.body) FV true s,hk.obs s)))=XU (XU (openGood iy Rg,hk.val (w.withFollow "special-get-raises" false))):=by kernel_rfl
theorem lt (w:WD):(fencedOpening treeTable pw w 1696).map (fun s₀=>(topFrom treeTable pw (w.withFollow "special-get-raises" true) 1696 s₀).map (fun s=>(openSeen iy Rg (importedModules pw.main.body) FV true s,hk.obs s)))=XU (XU (openGood iy Rg,hk.val (w.withFollow "special-get-raises" true))):=by kernel_rfl
theorem left:LeftO oz.prog iy Rg FV hk.obs hk.val 1696:=.of_split "special-get-raises" fun w=>by obtain⟨s₀,a,b⟩:=XY.mp (lf w);obtain⟨aG,c,d⟩:=XY.mp (lt w);obtain rfl:=XT (a.symm.trans c);exact(V4 (Option.map _) a).trans (V4 XU (Prod.ext b d))
end Mine.Internal
end
namespace Mine.Internal
section
open PySem PySem.Spec PySem.Calls PyProof.Rows PySem.W
open Sem (wp)
theorem xG:Clean ⟨.builtin "claim.caller" {},XW,XW,[],XW⟩:=⟨by decide +kernel,(fun x hx=>by rcases hx with⟨⟩),.inl rfl⟩
theorem wb {R:WZ->WV->Prop}(VT:s.asleep)(Mg:0<s.toks)(h:aV (Wu prog w) callerA t (fun fin s'=>∃f,fin=.done f/\(R (.ok f) s'/\leftWithCleanup s'.gens=false)) (fun e s'=>R (.error e) s'/\leftWithCleanup s'.gens=false) s):∃n r s' gv,runN (denote table) prog w n s ⟨t,.builtin "claim.caller" {},default,[]⟩=.halted (outcomeOf r) s'/\schedN (denote table) prog w n (.single s ⟨t,.builtin "claim.caller" {},default,[]⟩)=.halted (outcomeOf r) s'/\s'.forget=gv.forget/\R r gv:=by
 have h1:wp (Wu prog w) ⟨.builtin "claim.caller" {},XW,XW,[],XW⟩ t (WX.finPost (Wu prog w) ⟨.builtin "claim.caller" {},XW,XW,[],XW⟩ (fun r s'=>R r s'/\leftWithCleanup s'.gens=false)) (fun e x s'=>R (.error e) s'/\leftWithCleanup s'.gens=false) default s:=by
  refine WW _ _ t (fun fin p' s' h'=>?_) (fun x x x h'=>h') default s (h _ default caller_in ⟨xG,Mg⟩)
  refine aE h' ?_;rintro f (rfl) hf
  exact hf
 refine cQ (wp_halts_full VT h1) fun n r aG bW hs hn hfo hR=>?_;exact⟨n,r,bW,aG,hn,hs,hfo,hR⟩
set_option tactic.hygienic true in
theorem o6 (h:fenceModule? m s=XU s1):s1.toks=s.toks:=by
 delta fenceModule? at h;cases hb:boundIn s.heap sysModules m with
 |none=>rw[hb]at h;exact aa h
 |some v=>
  cases ht:tameNamesOf? m with
  |none=>rw[hb,ht]at h;rcases v with⟨⟩<;>exact aa h
  |some row=>
   rw[hb,ht]at h;rcases v with⟨⟩;case ref a=>
    cases ho:s.heap.get? a with
    |none=>dsimp only at h;rw[ho]at h;exact aa h
    |some o=>
     dsimp only at h;rw[ho]at h;dsimp only at h;cases hD:o.dict with
     |none=>rw[hD]at h;exact aa h
     |some D=>
      rw[hD]at h;dsimp only at h;cases hd:s.heap.get? D with
      |none=>rw[hd]at h;exact aa h
      |some od=>rw[hd]at h;refine aE (XY.mp h) ?_;rintro od' _ (rfl);rfl
   all_goals exact aa h
theorem l5:∀(l:List WS)(s s1:WV),fenceAll? l s=XU s1->s1.toks=s.toks:=by intro l;induction l with|nil=>intro s s1 h;simp only[fenceAll?,XS]at h;rw[<-h]|cons m r ih=>intro s s1 h;simp only[fenceAll?]at h;refine aE (X0.mp h) fun s2 h2 h3=>?_;exact(ih _ _ h3).trans (o6 h2)
theorem qA:∀(l:List WS)(s s1:WV),copiesAnew? l s=XU s1->s1.toks=s.toks:=by
 intro l;induction l with
 |nil=>intro s s1 h;simp only[copiesAnew?,XS]at h;rw[<-h]
 |cons m r ih=>intro s s1 h;simp only[copiesAnew?]at h;refine aE (X0.mp h) fun s2 h2 h3=>?_;refine aE (XY.mp h2) ?_;rintro wo _ (rfl);exact(ih _ _ h3).trans rfl
theorem BU (h:fenceModules? p s=XU s1):s1.toks=s.toks:=by
 unfold fenceModules? at h;refine aE (X0.mp h) fun s2 h2 h3=>?_;split at h3
 ·exact(qA _ _ _ h3).trans (l5 _ _ _ h2)
 ·obtain rfl:=XT h3;exact l5 _ _ _ h2
theorem yl:∀(n:Nat)(s:WV)(t:Thread)(aG:WV),topRun tb p w Za6 ann n s t=XU aG->s.toks<=aG.toks:=by
 intro n;induction n with
 |zero=>intro _ _ _ h;simp[topRun]at h
 |succ n ih=>
  intro s t aG h;unfold topRun at h;split at h
  ·obtain rfl:=XT h;exact Yh _
  ·split at h
   ·exact aa h
   ·split at h
    ·rename_i s' t' hs;exact Yg (step_toks_le _ p w s s' t t' hs) (ih s' t' aG h)
    ·exact aa h
theorem qf {p q:W8}{loose:List WS}{Xt:WV->Bool}{XP:(WS->Option WJ)->Xp->Prop}{α:Type}{Yf:WV->α}{Ya:WD->α}{N:Nat}(left:LeftO p q loose Xt Yf Ya N)(hX:∀s,Xt s=true->XP (s.heap.nsMap mainGlobals) s.heap)(Uo:chainsOk q=true)(w:WD):(∃s,AfterRun (opening p) w s)/\∀s,AfterRun (opening p) w s->∃s₀,fenceModules? p s=XU s₀/\s₀.gens= #[]/\∃aG,TopRan p w s₀ aG/\aG.asleep/\(if true then aG.gens.size==0 else !leftWithCleanup aG.gens)=true/\aG.heap.isNs mainGlobals=true/\Ground q loose [] XP w aG (aG.heap.nsMap mainGlobals) (aG.heap.nsMap builtinsNs) aG.heap/\Yf aG=Ya w/\0<aG.toks:=by
 have h:=left w;rw[<-table_eq_tree]at h;refine aE (XY.mp h) fun aG h1 e=>?_;refine aE (X0.mp h1) fun s₀ h2 h3=>?_;refine aE (X0.mp h2) fun s h4 h5=>?_;have A:=AfterImport.of_importEnds h4;refine⟨⟨s,A⟩,fun s' zD=>?_⟩;obtain rfl:s'=s:=AfterImport.unique zD A;have z:=WV.asleep_of_life (fence_lifeW h5) A.life;unfold topFrom at h3;cases hg:(s₀.heap.isNs mainGlobals&&s₀.gens.size==0)with
 |false=>rw[hg]at h3;exact aa h3
 |true=>
  replace h3:=hg▸h3;refine aZ (Z5.mp hg) fun hg hn=>?_;refine aE (X0.mp h3) fun bW h6 h7=>?_;cases hs:(staticsOk (importedModules p.main.body) s₀.heap bW.heap&&namesBound p bW.heap&&gensDone bW&&laidKept s₀.heap bW.heap)with
  |false=>rw[hs]at h7;exact aa h7
  |true=>rw[hs]at h7;obtain rfl:bW=aG:=XT h7;refine aZ (Z5.mp hs) fun hs Uh=>?_;refine aZ (Z5.mp hs) fun hs hgd=>?_;refine aZ (Z5.mp hs) fun hs Kw=>?_;refine lH (topRun_spec _ _ _ _ z h6) fun a l os fr=>?_;refine PK (ground_of_open (w:=w) hX Uo (V4 Prod.fst e)) fun G g0 g1 g2 g3 g4 g5=>?_;exact⟨s₀,h5,Array.eq_empty_of_size_eq_zero (beq_iff_eq.mp hn),bW,⟨a,l,WV.rest_eq os,fun b o hb hn=>fr b o (Xh hb) (fun q=>hn (.inl q)) (fun q=>hn (.inr (.inl q))) (fun q=>hn (.inr (.inr ((Pin.globalOf_eq hg _).trans q)))) hb,g2,statics_of_ok hs,g3,g4,g5,gens_of_done hgd,names_of_bound Kw,laid_of_kept Uh⟩,WV.asleep_of_life l z,g0,g1,G,V4 Prod.snd e,Yd (by refine xR (BU h5) ?_;exact AfterImport.toks_pos A) (yl _ _ _ _ h6)⟩
theorem Cn {c:ClaimW}{tree:List WJ->WX Xr}{w:WD}{s:WV}{free:XO->Prop}{gens:Prop}{kept:Xp->Prop}(hz:s.asleep)(Mg:0<s.toks)(vd:s.gens= #[])(RH:∀args,c.pre args=true->WData.layableAll args=true->∀ord:List DictEntry->List DictEntry,(∀l,(ord l).Perm l)->∃vs aG,layAllW c.records (classAt s.heap) w.params ord args s=XU (vs,aG)/\aV (Wu c.prog w) callerA (tree vs) (fun fin s'=>∃f,fin=.done f/\(c.Ends s args vs aG (.ok f) s'/\s'.os=s.os/\AllBare s'.gens/\kept s'.heap)) (fun e s'=>c.Ends s args vs aG (.error e) s'/\s'.os=s.os/\AllBare s'.gens/\kept s'.heap) aG):c.CallFrom (fun vs=>⟨tree vs,.builtin "claim.caller" {},default,[]⟩) w free gens kept s:=by
 intro args zF Hz ord ED;refine fE (RH args zF Hz ord ED) fun vs aG nH nJ=>?_;have Dg:=layAllW_rest _ _ _ nH;refine cQ (wb (R:=fun r s'=>c.Ends s args vs aG r s'/\s'.os=s.os/\kept s'.heap) (WV.asleep_of_life Dg.2.2.2 hz) (Yd Mg (layAllW_grows _ _ _ nH).toks) (aH nJ (by
   intro fin s' y0;refine ye y0 fun f e h1 h2 h3 h4=>?_;exact⟨f,e,⟨h1,h2,h4⟩,leftWithCleanup_false_of_bare h3⟩) (by
   intro e s' y0;refine lH y0 fun h1 h2 h3 h4=>?_;exact⟨⟨h1,h2,h4⟩,leftWithCleanup_false_of_bare h3⟩))) fun k r s' gv N2 N0 hfo y1=>?_
 refine bH y1 fun nM RL HB=>?_;refine tN (WV.forget_eq hfo) fun eh z z eo z=>?_;have nM:=nM.congr eh;have HB:kept s'.heap:=by first|exact eh▸HB|(rw[eh]at HB;exact HB)|(rw[<-eh]at HB;exact HB)
 replace RL:=(eo).trans RL;have RW:=(runN_life _ _ _ N2).trans Dg.2.2.2;refine⟨vs,aG,nH,k,_,s',N0,?_,(fun z i x hx=>by rw[vd]at hx;simp at hx),HB,by exact xR RW rfl,WV.rest_eq RL⟩;refine XR nM (fun y1=>?_) fun y2=>?_
 ·refine Fz y1 ?_;rintro v (rfl) d1 d2 d3 d4 d5;exact .inl ⟨v,rfl,d1,d2,d3,fun b o y z=>d4 b o y,d5⟩
 ·refine DD y2 ?_;rintro e ob cls (rfl) d1 d2 d3 y3;refine aZ y3 fun d4 d5=>?_;exact .inr ⟨e,ob,cls,rfl,d1,d2,d3,d4,fun b o y z=>d5 b o y⟩
abbrev MS (q:W8)(loose:List WS)(XP:(WS->Option WJ)->Xp->Prop)(YP:WD->Xp->Prop)(r:RowW)(d:DefRec)(kwd:List (WS×Expr))(run:WJ->List WJ->WX WJ)(w:WD):Prop:=∀(s₀ aG:WV)(mg mb:WS->Option WJ),Ground q loose r.records XP w s₀ mg mb aG.heap->YP w aG.heap->∀(a:XO)(o:Obj)(pm cd doc dV kV:WJ),aG.heap.get? a=XU o->o.data=.func {docDef d.name d.params d.body d.scope pm cd doc with defaults:=dV,kwdefaults:=kV}->aG.heap.CodeRec cd d.name->Dflts mg aG.heap d.params kwd dV kV->mg d.name=XU (.ref a)->aG.gens= #[]->∀(args:List WData)(vals:List WJ)(as:List XO),r.claim.pre args=true->WData.layableAll args=true->ReadsAllW r.records (classAt s₀.heap) aG.heap vals args as->WellAll w.params aG.heap vals args->(∀a∈as,(a==sysModules)=false)->aV (Wu r.prog w) callerA (run (.ref a) vals) (fun v s'=>GoodWG r.claim (classAt s₀.heap) (ExcName.means s₀.heap) args aG (.ok (.ret v)) s') (fun e s'=>GoodWG r.claim (classAt s₀.heap) (ExcName.means s₀.heap) args aG (.error e) s') aG
end
end Mine.Internal
open PySem PySem.Spec PySem.Calls PyProof.Rows PySem.W Mine.Internal in
theorem MineTop.PySem.W.holds_open {q:Program}{loose:List Str}{Xt:Shared->Bool}{XP:(Str->Option Value)->Heap->Prop}{α:Type}{Yf:Shared->α}{Ya:World->α}{YP:World->Heap->Prop}{d:DefRec}{kwd:List (Str×Expr)}{N:Nat}(left:LeftO oz.prog q loose Xt Yf Ya N)(hY:∀w s,Yf s=Ya w->YP w s.heap)(hYk:∀w h h',YP w h->(∀b o,h.get? b=some o->h'.get? b=some o)->YP w h')(hX:∀s,Xt s=true->XP (s.heap.nsMap mainGlobals) s.heap)(hXk:∀mg h h',XP mg h->(∀b o,h.get? b=some o->h'.get? b=some o)->XP mg h')(HJ:defOf q oz.name=some (d,kwd))(hp:oz.prog.theDef oz.name=some (d.params,d.body,d.scope))(hk:kwWritten? d.params.kwonlyargs d.params.kw_defaults=some kwd)(hRf:∀s,Xt s=true->RecFacts oz.records s.heap)(T9:(!oz.writes||oz.records.isEmpty)=true)(k1:oz.wellSaid=true)(ok:(chainsOk q&&opensWell oz.prog&&(frees oz.toRowW&&oz.within.isEmpty))=true)(hb:oz.prog.bare)(hw:oz.toRowW.promised)(call:MS q loose XP YP oz.toRowW d kwd (fun f vs=>PySem.call f vs) Wd):oz.Holds:=by
 refine aZ (Bool.and_eq_true_iff.mp ok) fun ok k5=>?_;refine aZ (Bool.and_eq_true_iff.mp ok) fun Uo o1=>?_;refine aZ (Bool.and_eq_true_iff.mp k5) fun k5 k6=>?_;refine tN (frees_parts k5) fun Mj hu ha hap hm=>?_;refine⟨k1,hw,⟨⟨hb,o1,rfl⟩,hw.witness,Pe ?_ rfl⟩⟩;refine⟨(qf left hX Uo Wd).1,fun s' zD=>?_⟩;obtain⟨s₀,hf,hg0,s,hT,hz,vd,y0⟩:=(qf left (XP:=fun mg h=>XP mg h/\RecFacts oz.records h) (fun s hs=>⟨hX s hs,hRf s hs⟩) Uo Wd).2 s' zD;refine lH y0 fun hg Ff y Mg=>?_;have G0:Ground q loose [] XP Wd s (s.heap.nsMap mainGlobals) (s.heap.nsMap builtinsNs) s.heap:=⟨Ff.T,Ff.B,Ff.D,Ff.TE,Ff.TD,Ff.W,Ff.X.1,Ff.cls,Ff.has,Ff.apart,Ff.once,Ff.K⟩;have RF:=Ff.X.2;have hT':=hT;refine⟨s₀,hf,hg0,s,hT,fun n hn=>?_,RF.1,RF.2.1,?_⟩
 ·obtain rfl:n=oz.name:=by split at hn<;>simp_all
  exact pinned_of_view hg G0 HJ hp hk
 have vd:=Array.eq_empty_of_size_eq_zero (beq_iff_eq.mp vd);have G:=RF.ground G0;refine Cn hz Mg vd fun args zF Hz ord ED=>?_;refine aM (Option.isSome_iff_exists.mp (layAllW_isSome (P:=Wd.params) (ord:=ord) G.has args oz.args s (pre_splitW zF).1)) fun y0 nH=>?_;obtain⟨vs,aG⟩:=y0;have keeps:=layAllW_keeps _ _ _ nH;have Dg:=layAllW_rest _ _ _ nH;refine eB (reads_layAllW ED _ _ _ nH Hz aG.heap (fun x x e=>e)) fun as hrd hin hold=>?_;have L:Laid oz.records Wd s aG args vs as:=⟨⟨ord,ED,nH⟩,hrd,hin,hold,keeps,Dg.1.trans vd,Dg.2.2.1⟩;have Ph:=G.keeps hXk keeps;refine MV (Ph.fn HJ) fun a o pm cd doc dV kV y0=>?_;refine tN y0 fun h1 h2 h3 h4 h5=>?_;have h:=call s aG _ _ Ph (hYk _ _ _ (hY Wd s y) keeps) a o pm cd doc dV kV h2 h3 h4 h5 (defOf_name HJ▸h1) L.gens args vs as zF Hz L.reads L.well (L.low G.low);have hi:=ident_freeW hu ha hap;have hwi:=List.isEmpty_iff.mp k6;refine⟨vs,aG,nH,?_⟩;refine ab (ao (wpAny_nsGet Ph.T.g ?_));rw[h1];refine ab (aH h (fun v s' g=>aj ?_) fun e s' g=>?_)
 ·exact⟨_,rfl,have z:=g.laid Mj hwi hi L;⟨z.1,z.2.1,z.2.2,fun q=>⟨namesKept_of hT' hg _ keeps g.2.1.old,noTable T9 q⟩⟩⟩
 ·exact have z:=g.laid Mj hwi hi L;⟨z.1,z.2.1,z.2.2,fun q=>⟨namesKept_of hT' hg _ keeps g.2.1.old,noTable T9 q⟩⟩
namespace Mine.Internal
open PySem PySem.W PyProof.Rows
inductive Dat where
 |none
 |bool (b:Bool)
 |int (i:Int)
 |str (s:WS)
 |bytes (b:List UInt8)
 |tuple (l:List Dat)
 |list (l:List Dat)
 |range (a b c:Int)
 |bz (b:List UInt8)
 |dict (ks:List WS) (vs:List Dat)
 |top (a:XO)
 |typ (n:String)
mutual
inductive Rep (h:Xp) (ak:XO->Prop):WJ->Dat->Prop
 |none:Rep h ak .none .none
 |bool (b:Bool):Rep h ak (.bool b) (.bool b)
 |int (i:Int) (t:Tok):Rep h ak (.int i t) (.int i)
 |str (x:WS) (t:Tok):Rep h ak (.str x t) (.str x)
 |bytes (b:List UInt8) (t:Tok):Rep h ak (.bytes b.toArray t) (.bytes b)
 |tuple {a:XO} {o:Obj} {vs:List WJ} {n:Nat} {ds:List Dat} (hv:¬ak a) (ho:h.get? a=XU o) (hc:o.cls=.type "tuple") (hd:o.data=.seq vs.toArray n) (hr:aK h ak vs ds):Rep h ak (.ref a) (.tuple ds)
 |list {a:XO} {o:Obj} {vs:List WJ} {n:Nat} {ds:List Dat} (hv:¬ak a) (ho:h.get? a=XU o) (hc:o.cls=.type "list") (hn:o.dict=XW) (hd:o.data=.seq vs.toArray n) (hr:aK h ak vs ds):Rep h ak (.ref a) (.list ds)
 |range {r:XO} {a b c:Int} {t u v:Tok} (hv:¬ak r) (hr:IsRange h r a b c t u v):Rep h ak (.ref r) (.range a b c)
 |bz {a:XO} {o:Obj} {b:List UInt8} {n:Nat} (hv:¬ak a) (ho:h.get? a=XU o) (hc:o.cls=.type "bytearray") (hd:o.data=.bytearray b.toArray n):Rep h ak (.ref a) (.bz b)
 |top (a:XO):Rep h ak (.ref a) (.top a)
 |typ (n:String):Rep h ak (.type n) (.typ n)
inductive aK (h:Xp) (ak:XO->Prop):List WJ->List Dat->Prop
 |nil:aK h ak [] []
 |cons {v:WJ} {d:Dat} {vs:List WJ} {ds:List Dat}:Rep h ak v d->aK h ak vs ds->aK h ak (v::vs) (d::ds)
end
section
variable {h h':Xp} {ak fF:XO->Prop}
noncomputable def Za1 (h:Xp)(ak:XO->Prop)(v:WJ):Dat->Prop| .none=>v=.none| .bool b=>v=.bool b| .int i=>∃t,v=.int i t| .str x=>∃t,v=.str x t| .bytes b=>∃t,v=.bytes b.toArray t| .tuple ds=>∃a o vs n,v=.ref a/\¬ak a/\h.get? a=XU o/\o.cls=.type "tuple"/\o.data=.seq vs.toArray n/\aK h ak vs ds| .list ds=>∃a o vs n,v=.ref a/\¬ak a/\h.get? a=XU o/\o.cls=.type "list"/\o.dict=Option.none/\o.data=.seq vs.toArray n/\aK h ak vs ds| .range a b c=>∃l t u w,v=.ref l/\¬ak l/\IsRange h l a b c t u w| .bz b=>∃a o n,v=.ref a/\¬ak a/\h.get? a=XU o/\o.cls=.type "bytearray"/\o.data=.bytearray b.toArray n| .dict _ _=>False| .top a=>v=.ref a| .typ n=>v=.type n
set_option tactic.hygienic true in
theorem Rep.inv (r:Rep h ak v d):Za1 h ak v d:=by
 rcases r with⟨⟩;case none=>exact rfl
 case bool b=>exact rfl
 case int i t=>exact⟨t,rfl⟩
 case str x t=>exact⟨t,rfl⟩
 case bytes b t=>exact⟨t,rfl⟩
 case tuple hv ho hc hd hr=>exact⟨_,_,_,_,rfl,hv,ho,hc,hd,hr⟩
 case list hv ho hc hn hd hr=>exact⟨_,_,_,_,rfl,hv,ho,hc,hn,hd,hr⟩
 case range hv hr=>exact⟨_,_,_,_,rfl,hv,hr⟩
 case bz hv ho hc hd=>exact⟨_,_,_,rfl,hv,ho,hc,hd⟩
 case top a=>exact rfl
 case typ n=>exact rfl
theorem Rep.Dt (r:Rep h ak v (.bool b)):v=.bool b:=r.inv
theorem Rep.QU (r:Rep h ak v .none):v=.none:=r.inv
theorem Rep.fO (r:Rep h ak v (.int i)):∃t,v=.int i t:=r.inv
theorem Rep.ku (r:Rep h ak v (.str x)):∃t,v=.str x t:=r.inv
theorem Rep.gK (r:Rep h ak v (.bytes b)):∃t,v=.bytes b.toArray t:=r.inv
theorem Rep.tuple' (r:Rep h ak v (.tuple ds)):∃a o vs n,v=.ref a/\¬ak a/\h.get? a=XU o/\o.cls=.type "tuple"/\o.data=.seq vs.toArray n/\aK h ak vs ds:=r.inv
theorem Rep.lZ (r:Rep h ak v (.list ds)):∃a o vs n,v=.ref a/\¬ak a/\h.get? a=XU o/\o.cls=.type "list"/\o.dict=Option.none/\o.data=.seq vs.toArray n/\aK h ak vs ds:=r.inv
theorem Rep.range' (r:Rep h ak v (.range a b c)):∃l t u w,v=.ref l/\¬ak l/\IsRange h l a b c t u w:=r.inv
theorem Rep.Tq (r:Rep h ak v (.bz b)):∃a o n,v=.ref a/\¬ak a/\h.get? a=XU o/\o.cls=.type "bytearray"/\o.data=.bytearray b.toArray n:=r.inv
theorem Rep.UT (r:Rep h ak v (.typ n)):v=.type n:=r.inv
theorem Bj {o:Obj}{x:Array WJ}{n:Nat}(h:o.data=.seq x n)(es:Array DictEntry)(k:Nat):o.data≠.dict es k:=fun e=>nomatch h.symm.trans e
theorem Bl {o:Obj}{x:Array WJ}{n:Nat}(h:o.data=.seq x n)(c:Option WJ):o.data≠.cell c:=fun e=>nomatch h.symm.trans e
theorem Nu {o:Obj}{x:Array WJ}(h:o.data=.fields x)(es:Array DictEntry)(k:Nat):o.data≠.dict es k:=fun e=>nomatch h.symm.trans e
theorem Nw {o:Obj}{x:Array WJ}(h:o.data=.fields x)(c:Option WJ):o.data≠.cell c:=fun e=>nomatch h.symm.trans e
theorem Nv {o:Obj}{x:Array UInt8}{n:Nat}(h:o.data=.bytearray x n)(es:Array DictEntry)(k:Nat):o.data≠.dict es k:=fun e=>nomatch h.symm.trans e
theorem Nx {o:Obj}{x:Array UInt8}{n:Nat}(h:o.data=.bytearray x n)(c:Option WJ):o.data≠.cell c:=fun e=>nomatch h.symm.trans e
def ir (v:WJ):Prop:=v=.type "tuple"\/v=.type "list"\/v=.type "range"\/v=.type "bytearray"
theorem Rep.both {P:WJ->Dat->Prop}{Q:List WJ->List Dat->Prop}(a1:P .none .none)(a2:∀b,P (.bool b) (.bool b))(a3:∀i t,P (.int i t) (.int i))(a4:∀x t,P (.str x t) (.str x))(a5:∀(b:List UInt8)t,P (.bytes b.toArray t) (.bytes b))(a6:∀{a o vs n ds},¬ak a->h.get? a=XU o->o.cls=.type "tuple"->o.data=.seq vs.toArray n->Q vs ds->P (.ref a) (.tuple ds))(a7:∀{a o vs n ds},¬ak a->h.get? a=XU o->o.cls=.type "list"->o.dict=.none->o.data=.seq vs.toArray n->Q vs ds->P (.ref a) (.list ds))(a8:∀{r a b c t u v},¬ak r->IsRange h r a b c t u v->P (.ref r) (.range a b c))(a9:∀{a o n}{b:List UInt8},¬ak a->h.get? a=XU o->o.cls=.type "bytearray"->o.data=.bytearray b.toArray n->P (.ref a) (.bz b))(a10:∀a,P (.ref a) (.top a))(a11:∀n,P (.type n) (.typ n))(b1:Q [] [])(b2:∀{v d vs ds},P v d->Q vs ds->Q (v::vs) (d::ds)):(∀{v d},Rep h ak v d->P v d)/\∀{vs ds},aK h ak vs ds->Q vs ds:=⟨fun r=>Rep.rec a1 a2 a3 a4 a5 (fun h1 h2 h3 h4 y=>a6 h1 h2 h3 h4) (fun h1 h2 h3 h4 h5 y=>a7 h1 h2 h3 h4 h5) a8 a9 a10 a11 b1 (fun y y=>b2) r,fun r=>aK.rec a1 a2 a3 a4 a5 (fun h1 h2 h3 h4 y=>a6 h1 h2 h3 h4) (fun h1 h2 h3 h4 h5 y=>a7 h1 h2 h3 h4 h5) a8 a9 a10 a11 b1 (fun y y=>b2) r⟩
theorem aK.ind {Q:List WJ->List Dat->Prop}(b1:Q [] [])(b2:∀{v d vs ds},Rep h ak v d->aK h ak vs ds->Q vs ds->Q (v::vs) (d::ds))(r:aK h ak vs ds):Q vs ds:=aK.rec (motive_1:=fun x x x=>True) trivial (fun x=>trivial) (fun x x=>trivial) (fun x x=>trivial) (fun x x=>trivial) (fun x x x x x x=>trivial) (fun x x x x x x x=>trivial) (fun x x=>trivial) (fun x x x x=>trivial) (fun x=>trivial) (fun x=>trivial) b1 (fun r rs x=>b2 r rs) r
theorem L8 (hk:∀b o,h.get? b=XU o->¬ak b->ir o.cls->(∀es n,o.data≠.dict es n)->(∀c,o.data≠.cell c)->h'.get? b=XU o/\¬fF b):(∀{v:WJ}{d:Dat},Rep h ak v d->Rep h' fF v d)/\∀{vs:List WJ}{ds:List Dat},aK h ak vs ds->aK h' fF vs ds:=Rep.both .none .bool .int .str .bytes (fun hv ho hc hd hr=>have q:=hk _ _ ho hv (.inl hc) (Bj hd) (Bl hd);.tuple q.2 q.1 hc hd hr) (fun hv ho hc hn hd hr=>have q:=hk _ _ ho hv (.inr (.inl hc)) (Bj hd) (Bl hd);.list q.2 q.1 hc hn hd hr) (fun hv hr=>have q:=hk _ _ hr hv (.inr (.inr (.inl rfl))) (Nu rfl) (Nw rfl);.range q.2 q.1) (fun hv ho hc hd=>have q:=hk _ _ ho hv (.inr (.inr (.inr hc))) (Nv hd) (Nx hd);.bz q.2 q.1 hc hd) .top .typ .nil .cons
theorem Rep.rV (hk:∀b o,h.get? b=XU o->¬ak b->ir o.cls->(∀es n,o.data≠.dict es n)->(∀c,o.data≠.cell c)->h'.get? b=XU o/\¬fF b)(r:Rep h ak v d):Rep h' fF v d:=(L8 hk).1 r
theorem aK.rV (hk:∀b o,h.get? b=XU o->¬ak b->ir o.cls->(∀es n,o.data≠.dict es n)->(∀c,o.data≠.cell c)->h'.get? b=XU o/\¬fF b)(r:aK h ak vs ds):aK h' fF vs ds:=(L8 hk).2 r
theorem Rep.mono (hk:∀b o,h.get? b=XU o->¬ak b->h'.get? b=XU o/\¬fF b)(r:Rep h ak v d):Rep h' fF v d:=r.rV fun b o e n x x x=>hk b o e n
theorem aK.mono (hk:∀b o,h.get? b=XU o->¬ak b->h'.get? b=XU o/\¬fF b)(r:aK h ak vs ds):aK h' fF vs ds:=r.rV fun b o e n x x x=>hk b o e n
theorem Rep.extBut (ha:h.get? a=XU oa)(hc:¬ir oa.cls)(hs:Xo a h h')(r:Rep h ak v d):Rep h' ak v d:=r.rV fun b o e n c x x=>⟨hs b o (fun q=>by subst q;rw[ha]at e;obtain rfl:=XT e;exact hc c) e,n⟩
theorem aK.extBut (ha:h.get? a=XU oa)(hc:¬ir oa.cls)(hs:Xo a h h')(r:aK h ak vs ds):aK h' ak vs ds:=r.rV fun b o e n c x x=>⟨hs b o (fun q=>by subst q;rw[ha]at e;obtain rfl:=XT e;exact hc c) e,n⟩
theorem Rep.HW (ha:h.get? a=XU oa)(hc:(∃es n,oa.data=.dict es n)\/∃c,oa.data=.cell c)(hs:Xo a h h')(r:Rep h ak v d):Rep h' ak v d:=r.rV fun b o e n x c1 c2=>⟨hs b o (fun q=>by subst q;rw[ha]at e;obtain rfl:=XT e;rcases hc with⟨_,_,hc⟩|⟨_,hc⟩;exact c1 _ _ hc;exact c2 _ hc) e,n⟩
theorem aK.length (r:aK h ak vs ds):vs.length=ds.length:=r.ind (Q:=fun vs ds=>vs.length=ds.length) rfl fun x x ih=>V4 (·+1) ih
theorem aK.append (r:aK h ak vs ds)(x:aK h ak us es):aK h ak (vs++us) (ds++es):=r.ind (Q:=fun vs ds=>aK h ak (vs++us) (ds++es)) x fun r y ih=>.cons r ih
theorem aK.get (r:aK h ak vs ds):∀{i:Nat}{d:Dat},ds[i]?=XU d->∃v,vs[i]?=XU v/\Rep h ak v d:=r.ind (Q:=fun vs ds=>∀{i:Nat}{d:Dat},ds[i]?=XU d->∃v,vs[i]?=XU v/\Rep h ak v d) nofun (by intro _ _ _ _ r _ ih i d e;induction i with|zero=>exact⟨_,rfl,XT e▸r⟩|succ i=>exact ih e)
theorem aF (h:Xp):h.get? h.objs.size=XW:=by cases e:h.get? h.objs.size with|none=>rfl|some o=>exact absurd (Xh e) (Ye _)
structure Cx where
 h₀:Xp
 L3:OsState
 mg:WS->Option WJ
 mb:WS->Option WJ
 tabs:List (XO×XO×Pos×WS)
 fr:XO->Prop
def Cx.T (C:Cx)(a:XO):Prop:=∃c p q,(c,a,p,q)∈C.tabs
def Dz (h:Xp)(P:XO)(p:Pos)(q:WS):Prop:=h.get? P=XU (uD #[])\/∃c,h.get? P=XU (uD #[rawInt p.line,rawInt p.col,.ref c])/\h.CodeRec (.ref c) q
where uD (vs:Array WJ):Obj:={cls:=.none,data:=.fields vs}
structure Cx.Ok (C:Cx):Prop where
 g:C.h₀.Ns mainGlobals C.mg
 b:C.h₀.Ns builtinsNs C.mb
 nolimit:C.h₀.NoLimit
 builtins:∀x:WS,x≠"__name__"->C.mb x=bootBuiltins x
 q6:∀c P p q,(c,P,p,q)∈C.tabs->C.h₀.TableAt c P #[]/\P≠cStatics/\P≠mainGlobals/\P≠builtinsNs
def gn (h:Xp)(a:XO):Prop:=∃o es n,h.get? a=XU o/\o.data=.dict es n
structure Bs (C:Cx) (s:WV):Prop where
 keep:∀b o,C.h₀.get? b=XU o->¬C.T b->s.heap.get? b=XU o
 tab:∀c P p q,(c,P,p,q)∈C.tabs->Dz s.heap P p q
 gens:AllBare s.gens
 os:s.os=C.L3
 alive:∀a,C.fr a->gn s.heap a
def gh (h':Xp)(b:XO)(o:Obj):Prop:=∃o',h'.get? b=XU o'/\o'.data=o.data
theorem gh.of (e:h'.get? b=XU o):gh h' b o:=⟨o,e,rfl⟩
theorem gn.data (x:gn h a)(k:∀o,h.get? a=XU o->gh h' a o):gn h' a:=let⟨o,es,n,ho,hd⟩:=x;let⟨o',ja,cU⟩:=k o ho;⟨o',es,n,ja,cU.trans hd⟩
structure Ex (C:Cx) (s s':WV):Prop where
 keep:∀b o,s.heap.get? b=XU o->¬C.T b->¬C.fr b->s'.heap.get? b=XU o
 nO:∀b o,C.fr b->s.heap.get? b=XU o->gh s'.heap b o
 bs:Bs C s->Bs C s'
theorem Ex.refl (s:WV):Ex C s s:=⟨fun x x e x x=>e,fun x x x e=>.of e,id⟩
theorem Ex.trans (x:Ex C s s')(y:Ex C s' gv):Ex C s gv:=⟨fun b o e t f=>y.keep b o (x.keep b o e t f) t f,fun b o f e=>let⟨o1,e1,d1⟩:=x.nO b o f e;let⟨o2,e2,d2⟩:=y.nO b o1 f e1;⟨o2,e2,d2.trans d1⟩,fun z=>y.bs (x.bs z)⟩
theorem Ex.data (x:Ex C s s')(e:s.heap.get? b=XU o)(t:¬C.T b):gh s'.heap b o:=by
 by_cases f:C.fr b
 ·exact x.nO b o f e
 ·exact .of (x.keep b o e t f)
theorem Dz.keeps (hk:∀b o,h.get? b=XU o->h'.get? b=XU o):Dz h P p q->Dz h' P p q| .inl e=>.inl (hk _ _ e)| .inr ⟨c,e,r⟩=>.inr ⟨c,hk _ _ e,r.keeps hk⟩
theorem Ex.of_keep (hk:∀b o,s.heap.get? b=XU o->s'.heap.get? b=XU o)(hg:s'.gens=s.gens)(ho:s'.os=s.os):Ex C s s':=⟨fun b o e x x=>hk b o e,fun b o x e=>.of (hk b o e),fun z=>⟨fun b o e t=>hk b o (z.keep b o e t),fun c P p q m=>(z.tab c P p q m).keeps hk,hg▸z.gens,ho.trans z.os,fun a f=>(z.alive a f).data fun o e=>.of (hk a o e)⟩⟩
theorem Ex.toks:Ex C s {s with toks:=t}:=.of_keep (fun x x e=>e) rfl rfl
theorem Ex.push:Ex C s {s with heap:=s.heap.push o,toks:=t}:=.of_keep (fun x x e=>Xl o e) rfl rfl
structure bw (C:Cx) (ak:XO->Prop) (s:WV):Prop where
 tabs:∀a,C.T a->ak a
 fZ:∀a,C.fr a->ak a
 there:∀a,ak a->∃o,s.heap.get? a=XU o
theorem bw.ex (V:bw C ak s)(x:Ex C s s')(z:Bs C s'):bw C ak s':=by
 refine⟨V.tabs,V.fZ,fun a ha=>?_⟩;by_cases t:C.T a
 ·refine iM t fun c p q m=>?_;rcases z.tab c a p q m with e|⟨_,e,_⟩<;>exact⟨_,e⟩
 ·refine aM (V.there a ha) fun o e=>?_;refine aE (x.data e t) fun o' e' y=>?_;exact⟨o',e'⟩
theorem bw.new (V:bw C ak s)(e:s.heap.get? a=XW):¬ak a:=fun ha=>by refine aM (V.there a ha) fun o q=>?_;rw[e]at q;exact aa q
theorem Rep.ex (V:bw C ak s)(x:Ex C s s')(r:Rep s.heap ak v d):Rep s'.heap ak v d:=r.mono fun b o e n=>⟨x.keep b o e (fun t=>n (V.tabs b t)) fun f=>n (V.fZ b f),n⟩
theorem aK.ex (V:bw C ak s)(x:Ex C s s')(r:aK s.heap ak vs ds):aK s'.heap ak vs ds:=r.mono fun b o e n=>⟨x.keep b o e (fun t=>n (V.tabs b t)) fun f=>n (V.fZ b f),n⟩
end
inductive Slot where
 |val (d:Dat)
 |own (d:Dat)
noncomputable abbrev az:=List (WS×Slot)
noncomputable def Za2 (ae:az)(x:WS):Option Dat:=match ae.lookup x with
 |some (.val d)=>XU d|some (.own d)=>XU d|none=>XW
noncomputable def Slot.i8:Slot->Slot| .val d=>.val d| .own d=>.val d
def aS (ae:az):az:=ae.map fun p=>(p.1,p.2.i8)
noncomputable def aW:Nat:=1000000
mutual
noncomputable def ml:Dat->Option W6
 | .none=>XU .none
 | .bool b=>XU (.bool b)
 | .int i=>XU (.int i)
 | .str x=>if W4 x then XU (.str x)else XW
 | .list ds=>match fB ds with
  |some ps=>XU (.list ps)
  |none=>XW
 | .tuple ds=>match fB ds with
  |some ps=>XU (.tuple ps)
  |none=>XW
 |_=>XW
noncomputable def fB:List Dat->Option (List W6)
 |[]=>XU []
 |d::ds=>match ml d with
  |none=>XW
  |some p=>match fB ds with
   |none=>XW
   |some ps=>XU (p::ps)
end
noncomputable def qy (a b:Dat):Option Bool:=match ml a,ml b with
 |some p,XU q=>if p.depth<=60/\q.depth<=60 then XU (W6.eqv p q)else XW|_,_=>XW
noncomputable def MG (a b:Dat):Option Bool:=match a,b with
 | .bytes x,.bytes y=>XU (x==y)|a,b=>qy a b
noncomputable def Eg (op:CmpOp):Dat->Dat->Option Bool
 | .int a,.int b=>match op with
  | .Lt=>XU (decide (a<b))| .LtE=>XU (decide (a<=b))| .Gt=>XU (decide (a>b))| .GtE=>XU (decide (a>=b))|_=>XW
 | .str a,.str b=>match op with
  | .Lt=>XU (decide (a.cps.toList<b.cps.toList))| .LtE=>XU (!decide (b.cps.toList<a.cps.toList))| .Gt=>XU (decide (b.cps.toList<a.cps.toList))| .GtE=>XU (!decide (a.cps.toList<b.cps.toList))|_=>XW
 |_,_=>XW
noncomputable def GL (op:CmpOp)(m n:Nat):Bool:=match op with
 | .Eq=>m==n| .NotEq=>m !=n| .Lt=>decide (m<n)| .LtE=>decide (m<=n)| .Gt=>decide (m>n)|_=>decide (m>=n)
def jH (op:CmpOp):List Dat->List Dat->Nat->Option Bool
 |a::as,b::bs,k=>match qy a b with
  |some true=>jH op as bs (k+1)|some false=>Eg op a b|none=>XW
 |as,bs,k=>XU (GL op (k+as.length) (k+bs.length))
def GP (op:CmpOp):Dat->Dat->Option Bool
 | .list a,.list b=>match op with
  | .Lt=>jH .Lt a b 0| .LtE=>jH .LtE a b 0| .Gt=>jH .Gt a b 0|_=>XW
 |a,b=>Eg op a b
noncomputable def memD (x:Dat)(ds:List Dat):Option Bool:=match ml x,fB ds with
 |some p,XU ps=>if p.depth<=60 then XU (ps.any fun y=>W6.eqv y p)else XW|_,_=>XW
noncomputable def nE (x:Dat):List Dat->Nat->Option Nat
 |[],_=>XW
 |y::ys,k=>match qy y x with
  |some true=>XU k|some false=>nE x ys (k+1)|none=>XW
def kW (op:CmpOp)(a b:Dat):Option Bool:=match op with
 | .Eq=>MG a b| .NotEq=>(MG a b).map (!·)| .Lt| .LtE| .Gt| .GtE=>GP op a b
 | .In=>match b with
  | .list ds=>memD a ds|_=>XW
 | .NotIn=>match a,b with
  |a,.list ds=>(memD a ds).map (!·)| .str x,.str y=>XU (!Txt.contains y x)|_,_=>XW
 |_=>XW
noncomputable def aP (i:Int):Bool:=decide (-(2^62)<i)&&decide (i<2^62)
def binI (op:Operator)(a b:Int):Option Dat:=match op with
 | .Add=>XU (.int (a+b))| .Sub=>XU (.int (a-b))| .Mult=>if aP a&&aP b then XU (.int (a*b))else XW| .FloorDiv=>if b=0\/¬b.natAbs<1073741824 then XW else XU (.int (a.fdiv b))| .Mod=>if b=0 then XW else XU (.int (a.fmod b))| .Pow=>if 0<=b/\b<=64/\aP a=true then XU (.int (a^b.toNat))else XW|_=>XW
def Ny (op:Operator)(x:WS)(n:Int):Option Dat:=match op with
 | .Mult=>if aP n=true/\x.length*n.toNat<=aW then XU (.str (Txt.mul x n))else XW|_=>XW
def LL (op:Operator)(n:Nat)(d:Dat):Option Dat:=match op with
 | .Add=>if n<=aW then XU d else XW|_=>XW
def lO (op:Operator)(a b:Dat):Option Dat:=match a with
 | .int a=>match b with
  | .int b=>binI op a b| .str x=>Ny op x a|_=>XW
 | .str x=>match b with
  | .int n=>Ny op x n| .str y=>LL op (x.length+y.length) (.str (x++y))|_=>XW
 | .bytes x=>match b with
  | .bytes y=>LL op (x.length+y.length) (.bytes (x++y))|_=>XW
 | .list x=>match b with
  | .list y=>LL op (x.length+y.length) (.list (x++y))|_=>XW
 |_=>XW
def BV (a b:Dat):Prop:=(∃x y,a=.int x/\b=.int y)\/(∃x y,a=.int x/\b=.str y)\/(∃x y,a=.str x/\b=.int y)\/(∃x y,a=.str x/\b=.str y)\/(∃x y,a=.bytes x/\b=.bytes y)\/∃x y,a=.list x/\b=.list y
set_option tactic.hygienic true in
theorem O0:lO op a b=XU d->BV a b:=by
 rcases a with⟨⟩;case int x=>
  rcases b with⟨⟩;case int y=>exact fun z=>.inl ⟨x,y,rfl,rfl⟩
  case str y=>exact fun z=>.inr (.inl ⟨x,y,rfl,rfl⟩)
  all_goals exact aa
 case str x=>
  rcases b with⟨⟩;case int y=>exact fun z=>.inr (.inr (.inl ⟨x,y,rfl,rfl⟩))
  case str y=>exact fun z=>.inr (.inr (.inr (.inl ⟨x,y,rfl,rfl⟩)))
  all_goals exact aa
 case bytes x=>
  rcases b with⟨⟩;case bytes y=>exact fun z=>.inr (.inr (.inr (.inr (.inl ⟨x,y,rfl,rfl⟩))))
  all_goals exact aa
 case list x=>
  rcases b with⟨⟩;case list y=>exact fun z=>.inr (.inr (.inr (.inr (.inr ⟨x,y,rfl,rfl⟩))))
  all_goals exact aa
 all_goals exact aa
theorem tH:LL op n r=XU d->op=.Add/\n<=aW/\XU r=XU d:=by
 rcases op with⟨⟩;case Add=>exact fun h=>aQ h fun a b=>⟨rfl,a,b⟩
 all_goals exact aa
theorem za:Ny op x n=XU d->op=.Mult/\(aP n=true/\x.length*n.toNat<=aW)/\XU (Dat.str (Txt.mul x n))=XU d:=by
 rcases op with⟨⟩;case Mult=>exact fun h=>aQ h fun a b=>⟨rfl,a,b⟩
 all_goals exact aa
noncomputable def TX (op:UnaryOp)(a:Dat):Option Dat:=match op,a with
 | .USub,.int a=>XU (.int (-a))|_,_=>XW
def qj:Dat->Option Bool| .bool b=>XU b| .int i=>XU (i !=0)| .str x=>if x.length<=aW then XU (x.length !=0)else XW|_=>XW
noncomputable def dU (i:Int)(n:Nat):Option Nat:=if 0<=i then(if i<n then XU i.toNat else XW)else(if 0<=i+n then XU (i+n).toNat else XW)
def E7 (i:Int)(n:Nat)(f:Nat->Option Dat):Option Dat:=if aP i then(dU i n).bind f else XW
def dp (a i:Dat):Option Dat:=match i with
 | .int i=>match a with
  | .list ds=>E7 i ds.length (ds[·]?)| .tuple ds=>E7 i ds.length (ds[·]?)| .str x=>E7 i x.length fun k=>(x.cps[k]?).map fun c=>.str ⟨#[c]⟩| .bytes b=>E7 i b.length fun k=>(b[k]?).map fun c=>.int c.toNat| .bz b=>E7 i b.length fun k=>(b[k]?).map fun c=>.int c.toNat|_=>XW
 | .str x=>match a with
  | .dict ks vs=>(ks.idxOf? x).bind (vs[·]?)|_=>XW
 |_=>XW
def IV (a i:Dat):Prop:=(∃k,i=.int k/\((∃x,a=.list x)\/(∃x,a=.tuple x)\/(∃x,a=.str x)\/(∃x,a=.bytes x)\/∃x,a=.bz x))\/∃x ks vs,i=.str x/\a=.dict ks vs
set_option tactic.hygienic true in
theorem Kn:dp a i=XU d->IV a i:=by
 rcases i with⟨⟩;case int k=>
  rcases a with⟨⟩;case list x=>exact fun y=>.inl ⟨k,rfl,.inl ⟨x,rfl⟩⟩
  case tuple x=>exact fun y=>.inl ⟨k,rfl,.inr (.inl ⟨x,rfl⟩)⟩
  case str x=>exact fun y=>.inl ⟨k,rfl,.inr (.inr (.inl ⟨x,rfl⟩))⟩
  case bytes x=>exact fun y=>.inl ⟨k,rfl,.inr (.inr (.inr (.inl ⟨x,rfl⟩)))⟩
  case bz x=>exact fun y=>.inl ⟨k,rfl,.inr (.inr (.inr (.inr ⟨x,rfl⟩)))⟩
  all_goals exact aa
 case str x=>
  rcases a with⟨⟩;case dict ks vs=>exact fun y=>.inr ⟨x,ks,vs,rfl,rfl⟩
  all_goals exact aa
 all_goals exact aa
noncomputable def pick {α:Type}(xs:List α)(lo hi st:Option Int):List α:=let b:=sliceBounds lo hi st xs.length;(sliceRange b.1 b.2.1 b.2.2).filterMap (xs[·]?)
def eZ (a:Dat)(lo hi st:Option Int):Option Dat:=if st=XU 0\/lo.all aP=false\/hi.all aP=false\/st.all aP=false then XW else match a with
 | .list ds=>if ds.length<=aW then XU (.list (pick ds lo hi st))else XW| .bytes b=>if b.length<=aW then XU (.bytes (pick b lo hi st))else XW| .str x=>if x.length<=aW/\st=XW then XU (.str ⟨(pick x.cps.toList lo hi st).toArray⟩)else XW|_=>XW
noncomputable def cV (a b c:Int):Nat:=(XA a b c).toNat
def jF (a b c:Int):List Int:=(Yy (cV a b c)).map fun k:Nat=>a+c*(k:Int)
def bM:Dat->Option (List Dat)| .list ds=>XU ds| .tuple ds=>XU ds| .range a b c=>if aP a&&aP b&&aP c&&c !=0 then XU ((jF a b c).map .int)else XW| .bytes b=>XU (b.map fun x=>.int x.toNat)| .str x=>if x.cps.all (· <128)then XU (x.cps.toList.map fun c=>.str ⟨#[c]⟩)else XW|_=>XW
noncomputable def Ij:Const->Option Dat| .none=>XU .none| .bool b=>XU (.bool b)| .int i=>XU (.int i)| .str s=>XU (.str s)| .bytes b=>XU (.bytes b)|_=>XW
noncomputable def cZ {α β:Type}(f:α->Option (List β)):List α->Option (List β)|[]=>XU []|a::as=>(f a).bind fun bs=>(cZ f as).bind fun cs=>XU (bs++cs)
structure fN where
 fn:WS->Option (List Dat->Option Dat)
 tC:WS->Option (List Dat->Option Dat)
 oR:WS->Dat->List Dat->Option Dat
 glob:WS->Option Dat
 fuel:Nat
noncomputable def b8 (sc:WY)(x:WS)(sl:Slot)(ae:az):Option az:=if(sc.names.lookup x=XU .local\/sc.names.lookup x=XU .cell)/\(x==("__debug__":WS))=false/\(x==("__classdict__":WS))=false then XU ((x,sl)::ae)else XW
noncomputable def asName:Expr->Option WS| .Name x _=>XU x|_=>XW
noncomputable def Dx:Expr->Option (List Expr)| .Tuple ts _ _=>XU ts|_=>XW
noncomputable def BB:Dat->Option (List Dat)| .tuple ds=>XU ds| .list ds=>XU ds|_=>XW
def o5 (ae:az)(t:Expr):Bool:=(asName t).any fun x=>(ae.lookup x).isNone
def freshT (ae:az)(t:Expr):Bool:=o5 ae t||(Dx t).any fun ts=>ts.all (o5 ae)
def il (sc:WY):List Expr->List Dat->az->Option az|[],[],ae=>XU ae|t::ts,d::ds,ae=>(asName t).bind fun x=>(b8 sc x (.val d) ae).bind fun ae=>il sc ts ds ae|_,_,_=>XW
def bJ (sc:WY)(t:Expr)(d:Dat)(ae:az):Option az:=match asName t with
 |some x=>b8 sc x (.val d) ae|none=>(Dx t).bind fun ts=>(BB d).bind fun ds=>il sc ts ds ae
theorem gg:asName t=XU x->∃p,t=.Name x p:=by cases t with|Name y p=>exact fun h=>⟨p,V4 (Expr.Name · p) (XT h)⟩|_=>exact aa
theorem E8:Dx t=XU ts->∃k p,t=.Tuple ts k p:=by cases t with|Tuple us k p=>exact fun h=>⟨k,p,V4 (Expr.Tuple · k p) (XT h)⟩|_=>exact aa
theorem BA:BB d=XU ds->d=.list ds\/d=.tuple ds:=by cases d with|list x=>exact fun h=>.inl (V4 Dat.list (XT h))|tuple x=>exact fun h=>.inr (V4 Dat.tuple (XT h))|_=>exact aa
noncomputable def gH (sc cj:WY):Bool:=(cj.kind== .function)&&cj.names.all (fun p=>cj.names.lookup p.1==XU p.2)&&cj.names.all fun p=>p.2 != .free||sc.names.lookup p.1==XU .cell||sc.names.lookup p.1==XU .free
noncomputable def b0 (cj:WY)(ae:az):az:=ae.filter fun p=>cj.names.lookup p.1==XU .free
noncomputable def ownAt (ae:az)(x:WS):Option Dat:=match ae.lookup x with
 |some (.own d)=>XU d|_=>XW
def orOwn (e:Expr)(ae:az)(whole:Option Dat):Option Dat:=(((asName e).bind (ownAt ae)).or whole)
noncomputable def uN:Expr->Bool| .Name .. =>true| .Constant .. =>true|_=>false
def xF (ds:List Dat):Option Dat:=if ds.length<=aW then XU (.list ds)else XW
def ZaR (ds:List Dat):Option Dat:=if ds.length<=aW then XU (.tuple ds)else XW
noncomputable def MN (b:Bool):Option Dat:=XU (.bool b)
noncomputable def Vf (b:Bool):Option Dat:=XU (.bool !b)
noncomputable def cn {α:Type}(b:Bool)(x y:Option α):Option α:=match b with
 |true=>x|false=>y
noncomputable def asI:Dat->Option (Option Int)| .int i=>XU (XU i)|_=>XW
def asL:Dat->Option (List Dat)| .list ds=>if ds.length<=aW then XU ds else XW|_=>XW
noncomputable def one (d:Dat):List Dat:=[d]
def Qe:Option (Option (Option Int)×Option (Option Int)×Option (Option Int))->Option Dat->Dat->Option Dat|some p,_,a=>p.1.bind fun lo=>p.2.1.bind fun hi=>p.2.2.bind fun st=>eZ a lo hi st|none,r,a=>r.bind fun i=>dp a i
def Qi:Option (Option Dat)->Option Dat->Option (List Dat)|some r,_=>r.bind asL|none,r=>r.map one
noncomputable def pJ (op:BoolOp)(c:Bool):Bool:=match op with
 | .And=> !c| .Or=>c
mutual
def ev (Φ:fN)(sc:WY):Expr->az->Option Dat
 | .Constant c _ _,_=>Ij c
 | .Name x _,ae=>match ae.lookup x with
  |some (.val d)=>XU d
  |some (.own _)=>XW
  |none=>if sc.names.lookup x=XU .globalImplicit then Φ.glob x else XW
 | .BinOp l op r _,ae=>(ev Φ sc l ae).bind fun a=>(ev Φ sc r ae).bind fun b=>lO op a b
 | .UnaryOp op x _,ae=>match op with
  | .Not=>(orOwn x ae (ev Φ sc x ae)).bind fun a=>(qj a).bind Vf
  |op=>(ev Φ sc x ae).bind fun a=>TX op a
 | .BoolOp op vs _,ae=>sS Φ sc op vs ae
 | .Compare l ops cs _,ae=>(orOwn l ae (ev Φ sc l ae)).bind fun a=>(nY Φ sc a ops cs ae).bind MN
 | .IfExp t b o _,ae=>(dQ Φ sc t ae (ev Φ sc t ae)).bind fun c=>cn c (ev Φ sc b ae) (ev Φ sc o ae)
 | .List es _,ae=>(Dk Φ sc es ae).bind xF
 | .Tuple es _ _,ae=>(Dk Φ sc es ae).bind ZaR
 | .Subscript v i _,ae=>(orOwn v ae (ev Φ sc v ae)).bind (Qe (match i with
  | .Slice lo hi st _=>XU (MF Φ sc lo ae,MF Φ sc hi ae,MF Φ sc st ae)
  |_=>XW) (ev Φ sc i ae))
 | .Call f args C3 pos,ae=>match C3 with
  |[]=>match f with
   | .Attribute o m apos=>if uN o=true/\(apos.endLine==pos.line)=true/\args.length<30 then(orOwn o ae (ev Φ sc o ae)).bind fun a=>(Dk Φ sc args ae).bind fun ds=>Φ.oR m a ds else XW
   | .Name f _=>if ae.lookup f=XW/\sc.names.lookup f=XU .globalImplicit then(match Φ.fn f with
     |some g=>(d7 Φ sc args ae).bind g
     |none=>(Φ.tC f).bind fun g=>(mH Φ sc args ae).bind g)
    else XW
   |_=>XW
  |_=>XW
 | .ListComp elt gens cj _,ae=>match gens with
  |⟨t,it,ifs,a⟩::rest=>if a=0/\gH sc cj=true/\freshT (b0 cj ae) t=true then(orOwn it ae (ev Φ sc it ae)).bind fun src=>(bM src).bind fun av=>
    (cZ (fun d=>(bJ cj t d (b0 cj ae)).bind fun bl=>(sQ Φ cj ifs bl).bind fun c=>cn c (sR Φ cj rest bl fun vs=>(ev Φ cj elt vs).map one) (XU [])) av).bind xF
   else XW
  |_=>XW
 |_,_=>XW
def dQ (Φ:fN)(sc:WY):Expr->az->Option Dat->Option Bool
 | .UnaryOp op x _,ae,whole=>match op with
  | .Not=>(dQ Φ sc x ae (ev Φ sc x ae)).map (!·)
  |_=>whole.bind qj
 | .BoolOp op vs _,ae,_=>ew Φ sc op vs ae
 | .Compare l ops cs _,ae,_=>(orOwn l ae (ev Φ sc l ae)).bind fun a=>nY Φ sc a ops cs ae
 | .IfExp t b o _,ae,_=>(dQ Φ sc t ae (ev Φ sc t ae)).bind fun c=>cn c (dQ Φ sc b ae (ev Φ sc b ae)) (dQ Φ sc o ae (ev Φ sc o ae))
 |_,_,whole=>whole.bind qj
def ew (Φ:fN)(sc:WY):BoolOp->List Expr->az->Option Bool
 |op,[],_=>XU (op== .And)
 |op,e::es,ae=>(dQ Φ sc e ae (ev Φ sc e ae)).bind fun c=>cn (pJ op c) (XU c) (ew Φ sc op es ae)
def sS (Φ:fN)(sc:WY):BoolOp->List Expr->az->Option Dat
 |_,[],_=>XW
 |_,[e],ae=>ev Φ sc e ae
 |op,e::e2::es,ae=>(ev Φ sc e ae).bind fun d=>(qj d).bind fun c=>cn (pJ op c) (XU d) (sS Φ sc op (e2::es) ae)
def nY (Φ:fN)(sc:WY)(a:Dat):List CmpOp->List Expr->az->Option Bool
 |[op],[e],ae=>(orOwn e ae (ev Φ sc e ae)).bind fun b=>kW op a b
 |op::o2::ops,e::e2::es,ae=>(ev Φ sc e ae).bind fun b=>(kW op a b).bind fun c=>cn c (nY Φ sc b (o2::ops) (e2::es) ae) (XU false)
 |_,_,_=>XW
def Dk (Φ:fN)(sc:WY):List Expr->az->Option (List Dat)
 |[],_=>XU []
 |e::es,ae=>(ev Φ sc e ae).bind fun d=>(Dk Φ sc es ae).map fun ds=>d::ds
def mH (Φ:fN)(sc:WY):List Expr->az->Option (List Dat)
 |[],_=>XU []
 |e::es,ae=>(orOwn e ae (ev Φ sc e ae)).bind fun d=>(mH Φ sc es ae).map fun ds=>d::ds
def d7 (Φ:fN)(sc:WY):List Expr->az->Option (List Dat)
 |[],_=>XU []
 |e::es,ae=>(Qi (match e with
  | .Starred x _=>XU (orOwn x ae (ev Φ sc x ae))
  |_=>XW) (ev Φ sc e ae)).bind fun xs=>(d7 Φ sc es ae).map fun ds=>xs++ds
def MF (Φ:fN)(sc:WY):Option Expr->az->Option (Option Int)
 |none,_=>XU XW
 |some e,ae=>(ev Φ sc e ae).bind asI
def sQ (Φ:fN)(sc:WY):List Expr->az->Option Bool
 |[],_=>XU true
 |e::es,ae=>(dQ Φ sc e ae (ev Φ sc e ae)).bind fun c=>cn c (sQ Φ sc es ae) (XU false)
def sR (Φ:fN)(sc:WY):List Xw->az->(az->Option (List Dat))->Option (List Dat)
 |[],ae,k=>k ae
 |⟨t,it,ifs,a⟩::rest,ae,k=>if a=0/\freshT ae t=true then(orOwn it ae (ev Φ sc it ae)).bind fun src=>(bM src).bind fun av=>
   cZ (fun d=>(bJ sc t d ae).bind fun bl=>(sQ Φ sc ifs bl).bind fun c=>cn c (sR Φ sc rest bl k) (XU [])) av
  else XW
end
namespace Re
section
open PySem.Builtin.Re
theorem L7 (text:Array Nat):∀(n p:Nat),nd text n p<=n:=by
 intro n;induction n with
 |zero=>intro p;exact Yh _
 |succ n ih=>
  intro p;rw[Bk];split
  ·have:=ih (p+1);exact aT 0x91b90b11012 rfl this
  ·exact bq 0x90b811 rfl
theorem Dj:∀{n s p e:Nat},find text n s=XU (p,e)->s<=p/\p<e/\e<=s+n:=by
 intro n;induction n with
 |zero=>intro s p e h;exact aa h
 |succ n ih=>
  intro s p e h;rw[BR]at h;split at h
  ·rename_i hd;rcases h with⟨⟩;have h1:=L7 text (n+1) s;have h2:0<nd text (n+1) s:=by rw[Bk,hd];simp
   exact br 0x91b2b02b102b204221408091b013 rfl h1 h2
  ·split at h
   ·rcases h with⟨⟩;exact aT 0x91b0b90b190b00400141 rfl
   ·have:=ih h;exact cX 0x93b0b2121041014390bb212104190b142 rfl this
noncomputable def cut (text:Array Nat)(b e:Nat):WS:=⟨text.extract b e⟩
def Bd (text:Array Nat)(lim:Nat):Nat->Nat->List WS|0,last=>[cut text last lim]|k+1,last=>(find text (lim-last) last).elim [cut text last lim] fun z=>cut text last z.1::cut text z.1 z.2::Bd text lim k z.2
theorem CU {text:Array Nat}{lim k last:Nat}:Bd text lim (k+1) last=(find text (lim-last) last).elim [cut text last lim] fun z=>cut text last z.1::cut text z.1 z.2::Bd text lim k z.2:=rfl
end
section
open PySem.Builtin.Re
variable {M:Model} {A:XN} {E:WJ->WV->Prop} {s:WV}
theorem zR {Q:Sre.M->WV->Prop}:∀(k n:Nat)(m:Sre.M),k<n->(m.runFor (4*k)).outcome.isSome=true->Q (m.runFor (4*k)) s->Wn M A (reDrive n m) Q E s
 |k,0,m,hk,_,_=>absurd hk (X5 _)
 |0,n+1,m,hk,ho,hq=>by unfold reDrive;have hm:m.runFor reTurnSteps=m:=cb ho;simp only[hm];have ja:m.outcome.isSome=true:=ho;rw[ja,V7 rfl];exact Wa hq
 |k+1,n+1,m,hk,ho,hq=>by
  unfold reDrive;have hs:m.runFor (4*(k+1))=(m.runFor 4).runFor (4*k):=by rw[<-bC];congr 1;exact bq 0x4d04ab90b04d21 rfl
  have h4:reTurnSteps=4:=rfl;simp only[h4];by_cases h:(m.runFor 4).outcome.isSome=true
  ·rw[V7 h];rw[hs,cb h]at hq;exact Wa hq
  ·rw[V6 h];rw[hs]at ho hq;exact Wk (wpAny_rule (zR k n _ (aT 0x10091b90b02 rfl hk) ho hq))
set_option tactic.hygienic true in
theorem rC {Q:Option Sre.M->WV->Prop}(k:Nat)(m:Sre.M)(hk:k<2^64)(ho:(m.runFor (4*k)).outcome.isSome=true)(hs:∀why,(m.runFor (4*k)).outcome≠XU (.stuck why))(h1:(m.runFor (4*k)).outcome=XU .matched->Q (XU (m.runFor (4*k))) s)(h2:(m.runFor (4*k)).outcome=XU .failed->Q XW s):Wn M A (reRunToEnd m) Q E s:=by
 unfold reRunToEnd;refine Wk (zR k (2^64) m hk ho ?_);refine Wk (wpAny_forIn_list _ (fun x x s'=>s'=s) _ ?_ ?_ _ _ rfl)
 ·rintro i rest ⟨⟩ s' rfl;split
  ·exact Wk (wpAny_rule (Wa rfl))
  ·exact Wa rfl
 ·rintro⟨⟩ s' rfl;cases hc:(m.runFor (4*k)).outcome with
  |none=>rw[hc]at ho;(rcases ho with⟨⟩)
  |some o=>
   rcases o with⟨⟩;case matched=>exact Wa (h1 hc)
   case failed=>exact Wa (h2 hc)
   case stuck why=>exact absurd hc (hs why)
theorem Bf {Q:Option Sre.M->WV->Prop}{t:ReTarget}{start:Nat}(hc:t.code=code)(hg:t.groups=1)(hl:t.lim<16777217)(hs:start<=t.lim)(h1:∀m p e,find t.text (t.lim-start) start=XU (p,e)->TU m p e->Q (XU m) s)(h2:find t.text (t.lim-start) start=XW->Q XW s):Wn M A (reNextFound t start false) Q E s:=by
 unfold reNextFound;rw[hc,hg];have hm:=xg (text:=t.text) (lim:=t.lim) start (bq 0xffffffff8f00010000018f002 rfl hl) hs;have hr:∀{m:Sre.M},(m.runFor (7*t.lim+12)).outcome.isSome=true->m.runFor (4*(7*t.lim+12))=m.runFor (7*t.lim+12):=fun{m}h=>by rw[show 4*(7*t.lim+12)=(7*t.lim+12)+(3*(7*t.lim+12)) by exact bq 0xca007db03d0ca007dbb0ca007db04d21 rfl,bC,cb h]
 cases hf:find t.text (t.lim-start) start with
 |none=>rw[hf]at hm;have t9:=hr (by rw[hm];rfl);refine rC (7*t.lim+12) _ (by lia) (by rw[t9,hm];rfl) (fun why=>by rw[t9,hm];nofun) (fun h=>by rw[t9,hm]at h;rcases h with⟨⟩) fun x=>h2 hf
 |some r=>obtain⟨p,e⟩:=r;rw[hf]at hm;have t9:=hr (by rw[hm.out];rfl);refine rC (7*t.lim+12) _ (by lia) (by rw[t9,hm.out];rfl) (fun why=>by rw[t9,hm.out];nofun) (fun x=>?_) (fun h=>by rw[t9,hm.out]at h;rcases h with⟨⟩);rw[t9];exact h1 _ p e hf hm
end
section
open PySem.F PySem.Builtin.Re
theorem rI:PlainAttrs "re.Pattern":=by refine⟨⟨"object.__getattribute__",by rw[Wo,WB];kernel_rfl,by decide +kernel⟩,by rw[Wo,WB];kernel_rfl⟩
theorem rn:WU "re.Pattern" "split" "re.Pattern.split":=.of (owner:="re.Pattern") (n:="split") (by rw[Wo,WB];kernel_rfl) (by decide +kernel) (by decide +kernel) (by decide +kernel) (by first|exact .inl (by decide +kernel)|exact .inr (by decide +kernel)) (by rw[Wv];kernel_rfl)
theorem Az:typeOf (.builtin "re.Pattern.split")=pure (.type "method_descriptor"):=by show builtinType _=_;rw[builtinType_eq_fast];kernel_rfl
theorem zQ:entryFor table "re.Pattern.split"=XU XJ.«re.Pattern.split»:=Wy (by kernel_rfl)
theorem Ee:Manifest.owners.lookup (String.ofList ['n','r','e','t','t','a','P','.','e','r'].reverse)=XU Manifest.sig_re_Pattern:=by kernel_rfl
theorem xT (a b:WJ):argsOk "re.Pattern.split" ⟨[a,b],[]⟩:=by unfold argsOk;rw[Ws (n:=['t','i','l','p','s']) (by kernel_rfl) Ee];kernel_rfl
theorem Ej (v:WJ):reNamed "re.Pattern.split" "split" ["string","maxsplit"] 1 [v] []=pure [XU v,XW]:=by rfl
structure gM (h:Xp) (a c:XO):Prop where
 bb:∃o vs,h.get? a=XU o/\o.cls=.type "re.Pattern"/\o.dict=XW/\o.data=.fields vs/\reRawNat (vs.getD 2 .none)=1/\vs.getD 5 .none=.ref c/\reRawNat (vs.getD 6 .none)=0
 cod:∃o av n,h.get? c=XU o/\o.cls=.type "tuple"/\o.data=.seq av n/\(av.map reRawOf).map (·.toNat)=code
end
section
open PySem.F PySem.Builtin.Re
variable {M:Model} {A:XN} {E:WJ->WV->Prop} {s:WV} {ak:XO->Prop}
theorem FG (hp:gM s.heap a c){Q:ReTarget->WV->Prop}(hQ:∀T:ReTarget,T.code=code->T.groups=1->T.text=t.cps->T.lim=t.cps.size->T.kind=0->Q T s):Wn M A (reWholeTarget (.ref a) (.str t tk)) Q E s:=by obtain⟨y0,y1⟩:=hp;refine Ji y0 fun o vs ho hc hn hd h2 y2=>?_;refine aZ y2 fun h5 h6=>?_;refine iL y1 fun oc av n Fn x KC nJ=>?_;unfold reWholeTarget;refine Wk (wpAny_fieldsOf ho hd ?_);have h1:reTextOf (.str t tk)=pure (t.cps,0):=rfl;rw[h1,h6];refine Wk (Wa ?_);dsimp only;rw[V6 (by decide),V6 (by decide)];have h3:reNoCollectionInside (.str t tk) 0=pure ():=rfl;rw[h3];refine Wk (Wa ?_);refine Wk ?_;unfold reRawItems;rw[h5];refine Wk (wpAny_seqItems Fn KC (Wa (Wa ?_)));exact hQ _ nJ h2 rfl rfl rfl
theorem kz {t:WS}{b e:Nat}(ht:t.length<=65536){Q:WJ->WV->Prop}(hQ:Q (.str (cut t.cps b e) s.toks) {s with toks:=s.toks+1}):Wn M A (reSlice t.cps 0 b e) Q E s:=by
 unfold reSlice;rw[V7 (by rfl)];refine wpAny_mkStr hQ ?_;have h1:(t.cps.extract b e).size<=t.cps.size:=by rw[Array.size_extract];exact br 0x1210dfc11 rfl
 have h2:=ht;exact Yg h1 (Yg h2 (by decide))
set_option tactic.hygienic true in
theorem Bc (text:Array Nat)(lim:Nat):∀(f last:Nat),(Bd text lim f last).length<=2*f+1:=by
 intro f;induction f with
 |zero=>intro last;exact Yh _
 |succ f ih=>intro last;rw[CU];cases find text (lim-last) last with|none=>simp|some z=>have:=ih z.2;simp;exact aT 0x91b02d90b19102db012 rfl this
def Pf (ak:XO->Prop)(s:WV)(text:Array Nat)(total:List WS)(rest:List Nat)(b:Array WJ×Nat×Nat×Bool×Int×Bool)(s':WV):Prop:=∃k aR,s'={s with toks:=s.toks+k}/\aK s.heap ak b.1.toList (aR.map .str)/\b.2.2.2.1=false/\b.2.1=b.2.2.1/\b.2.1<=text.size/\((b.2.2.2.2.2=false/\text.size-b.2.1<rest.length/\∃f,text.size-b.2.1<=f/\aR++Bd text text.size f b.2.1=total)\/(b.2.2.2.2.2=true/\aR++[cut text b.2.1 text.size]=total))
set_option tactic.hygienic true in
theorem yD (ht:t.length<=65536):Meets (XJ.«re.Pattern.split» ⟨[.ref a,.str t tk],[]⟩) fun A R s=>gM s.heap a c/\∀us k,aK s.heap ak us ((Bd t.cps t.cps.size t.cps.size 0).map .str)->R (.ok (.ret (.ref s.heap.objs.size))) {s with heap:=s.heap.push {cls:=.type "list",data:=.seq us.toArray},toks:=s.toks+k}:=by
 intro prog w A R s ⟨hp,hR⟩;revert ht hp hR;refine vR (bL (bL (bL (bL pR pQ) Fi) VV) VV) ?_ A s w ak a t tk c prog R;generalize gB _ _=tt;dsimp only[I3];generalize tt.1.1.1.1=A,tt.1.1.1.2=s,tt.1.1.2=w,tt.1.2.1=ak,tt.1.2.2=a,tt.2.1.1.1=t,tt.2.1.1.2=tk,tt.2.1.2=c,tt.2.2.1=prog,tt.2.2.2=R;intro ht hp hR;unfold XJ.«re.Pattern.split»;dsimp only;rw[Ej];refine Wk (Wa ?_);refine Wk (Wa ?_);refine Wk (FG hp fun T hc hg hx hl hk=>?_);have hsz:=ht;rw[hx,hl,hk];have RR:reMostMatches T=2*t.cps.size+3:=by unfold reMostMatches;rw[hx]
 rw[RR];refine Wk (wpAny_forIn_list _ (Pf ak s t.cps (Bd t.cps t.cps.size t.cps.size 0)) _ ?_ ?_ _ _ ?_)
 ·intro i rest;refine xP6 fun out start last Vj n over=>?_;intro s' y2;(refine Ji y2 ?_;clear y2;rintro k aR (rfl) hr N8 mU hle nM);dsimp only at hr N8 mU hle nM ⊢;subst N8 mU;refine XR nM (fun y0=>?_) fun y1=>?_
  ·obtain⟨ho,hlen,f,hf,EA⟩:=y0;subst ho;rw[V7 (by rfl),V6 (by simp)];refine Wk (Bf hc hg (by rw[hl];exact bq 0x10000018f00000100008f012 rfl hsz) (by rw[hl];exact hle) (fun m p e Px hm=>?_) fun Px=>?_)
   ·rw[hx,hl]at Px;refine bH (Dj Px) fun i1 i2 i3=>?_;refine Wk (kz ht ?_);rw[hg];have KA:reMachineGroup T m (0+1) (pure WJ.none)=reSlice t.cps 0 p e:=by unfold reMachineGroup;rw[hm.last,hm.marks,hx,hk];rw[V6 (by decide)];show(if e<p then reWrongSpan else reSlice t.cps 0 p e)=_;rw[V6 (by exact aT 0x1031002 rfl i2)]
    rw[show Yy 1=[0]from rfl];rw[Zq,KA];refine Wk (Wk (Wk (kz ht (Wa ?_))));dsimp only;rw[List.forIn_nil];refine Wa (Wa ?_);have RK:aR++Bd t.cps t.cps.size f start=(aR++[cut t.cps start p,cut t.cps p e])++Bd t.cps t.cps.size (f-1) e:=by
     rcases f with⟨⟩;case zero=>exact(cX 0x6803c103c0b212101015 rfl i1 i2 i3 hf).elim
     case succ f=>rw[CU,Px];simp
    refine⟨k+1+1,aR++[cut t.cps start p,cut t.cps p e],rfl,?_,?_,rfl,?_,.inl ⟨rfl,?_,f-1,?_,?_⟩⟩
    ·rw[hm.start];rw[Array.toList_push,Array.toList_push,ZG,YS];exact hr.append (.cons (.str _ _) (.cons (.str _ _) .nil))
    ·dsimp only;rw[hm.start,hm.handed];simp;exact aT 0x1231002 rfl i2
    ·dsimp only;rw[hm.handed];exact br 0x12101c0b211013 rfl hle i3
    ·dsimp only;rw[hm.handed];simp at hlen;exact oC 0x240c010c1b4143031192b10c05 rfl hlen i1 i2 i3
    ·dsimp only;rw[hm.handed];exact oC 0x92c40c1430311210c14 rfl hf i1 i2
    ·dsimp only;rw[hm.handed,<-RK];exact EA
   ·rw[hx,hl]at Px;refine Wa ⟨k,aR,rfl,hr,rfl,rfl,hle,.inr ⟨rfl,?_⟩⟩;rw[<-EA];congr 1;rcases f with⟨⟩;case zero=>rfl
    case succ f=>rw[CU,Px];rfl
  ·refine aZ y1 fun ho EA=>?_;subst ho;rw[V6 (by simp)];exact Wa ⟨k,aR,rfl,hr,rfl,rfl,hle,.inr ⟨rfl,EA⟩⟩
 ·refine xP6 fun out start last Vj n over=>?_;intro s' y2;(refine Ji y2 ?_;clear y2;rintro k aR (rfl) hr N8 mU hle nM);dsimp only at hr N8 mU hle nM ⊢;subst N8 mU;refine XR nM (fun y0=>?_) fun y1=>?_
  ·refine bH y0 fun ho hlen x=>?_;simp at hlen
  ·refine aZ y1 fun ho EA=>?_;subst ho;rw[V6 (by simp)];refine Wk (kz ht ?_);have hre:aK s.heap ak (out.push (.str (cut t.cps start t.cps.size) (s.toks+k))).toList ((Bd t.cps t.cps.size t.cps.size 0).map .str):=by rw[<-EA,Array.toList_push,YS];exact hr.append (.cons (.str _ _) .nil)
   refine Wk (wpAny_newList ?_ ?_)
   ·exact Wa (hR _ (k+1) hre)
   ·have:=hre.length;rw[this,Y4];exact Yg (Bc _ _ _ _) (Yg (show 2*t.cps.size+1<=131073 by exact bq 0x200018f9002db1000100008f012 rfl hsz) (by decide))
 ·exact⟨0,[],rfl,.nil,rfl,rfl,X1 _,.inl ⟨rfl,by simp;exact bq 0x3a002db001 rfl,t.cps.size,by simp,rfl⟩⟩
end
end Re
theorem ya:Nonempty Cx:=⟨⟨default,{},fun _=>XW,fun _=>XW,[],fun _=>False⟩⟩
theorem Vh:Nonempty fN:=⟨⟨fun _=>XW,fun _=>XW,fun _ _ _=>XW,fun _=>XW,0⟩⟩
theorem G1:Nonempty Dat:=⟨.none⟩
theorem neO:Nonempty Slot:=⟨.val .none⟩
variable {C:Cx} {A:XN} {E:WJ->WV->Prop} {s s' gv s₀:WV} {ak ai W W' W₀:XO->Prop} {ag:Env} {sc cj:WY} {ae bl V V':az} {n k i:Nat} {Φ:fN} {ad:WS->XO} {prog:W8} {w:WD} {h h':Xp} {o:Obj} {a I D L:XO} {d:Dat} {v u:WJ} {ds:List Dat} {vs:List WJ} {x:WS} {t value:Expr} {pos p:Pos} {Q:WJ->WV->Prop} {K:Env->XN->Prop}
structure dy (C:Cx) (n:Nat) (A:XN):Prop where
 handled:A.handled=XW
 depth:A.depth+n<recursionLimit
 units:A.units+10*n+1000<cLine
 frames:∃fs,A.frames=XU fs/\∀f∈fs,f.scope.kind=.function/\∃L,f.frame=XU L/\C.fr L/\C.h₀.get? L=XW
def Wp {α:Type}(C:Cx)(A:XN)(t:WX α)(P:α->WV->Prop)(s:WV):Prop:=∀(E:WJ->WV->Prop)(Q:α->WV->Prop),(∀a s',Ex C s s'->P a s'->Q a s')->aV (Wu pw Wd) A t Q E s
abbrev eN (C:Cx)(A:XN)(ak:XO->Prop)(t:WX WJ)(d:Dat)(s:WV):Prop:=Wp C A t (fun v s'=>Rep s'.heap ak v d) s
theorem Wp.mono {α:Type}{t:WX α}{P P':α->WV->Prop}(h:Wp C A t P s)(k:∀a s',Ex C s s'->P a s'->P' a s'):Wp C A t P' s:=fun E Q q=>h E Q fun a s' x p=>q a s' x (k a s' x p)
theorem Wp.pure {α:Type}{a:α}{P:α->WV->Prop}(h:P a s):Wp C A (pure a) P s:=fun x x q=>aj (q a s (.refl s) h)
def fq (h:Xp)(ag:Env)(x:WS)(v:WJ):Prop:=(x==("__debug__":WS))=false/\(x==("__classdict__":WS))=false/\((ag.kindOf x=XU .local/\∃m,h.Ns ag.locals m/\m x=XU v)\/((ag.kindOf x=XU .cell\/ag.kindOf x=XU .free)/\∃c,ag.cells.lookup x=XU c/\h.IsCell c (XU v)))
inductive bt (h:Xp) (ak:XO->Prop):WJ->Dat->Prop
 |rep {v:WJ} {d:Dat} (r:Rep h ak v d):bt h ak v d
 |list {a:XO} {o:Obj} {vs:List WJ} {n:Nat} {ds:List Dat} (ho:h.get? a=XU o) (hc:o.cls=.type "list") (hn:o.dict=XW) (hd:o.data=.seq vs.toArray n) (hr:aK h ak vs ds):bt h ak (.ref a) (.list ds)
 |bz {a:XO} {o:Obj} {b:List UInt8} {n:Nat} (ho:h.get? a=XU o) (hc:o.cls=.type "bytearray") (hd:o.data=.bytearray b.toArray n):bt h ak (.ref a) (.bz b)
set_option tactic.hygienic true in
theorem bt.lZ (r:bt h ak v (.list ds)):∃a o vs k,v=.ref a/\h.get? a=XU o/\o.cls=.type "list"/\o.dict=XW/\o.data=.seq vs.toArray k/\aK h ak vs ds:=by
 rcases r with⟨⟩;case rep r=>refine ke r.lZ fun a o vs k h1 x h2=>?_;exact⟨a,o,vs,k,h1,h2⟩
 case list ho hc hn hd hr=>exact⟨_,_,_,_,rfl,ho,hc,hn,hd,hr⟩
inductive iq (h:Xp) (ak:XO->Prop):List WJ->List Dat->Prop
 |nil:iq h ak [] []
 |cons {v:WJ} {d:Dat} {vs:List WJ} {ds:List Dat}:bt h ak v d->iq h ak vs ds->iq h ak (v::vs) (d::ds)
def gk (h:Xp)(ak:XO->Prop)(L:XO)(v:WJ):Slot->Prop| .val d=>Rep h ak v d| .own d=>bt h ak v d/\∃a,v=.ref a/\ak a/\a+1≠L
def Lo (h:Xp)(ak:XO->Prop)(ag:Env)(ae:az):Prop:=∀x sl,ae.lookup x=XU sl->∃v,fq h ag x v/\gk h ak ag.locals v sl
structure bh (ag:Env) (sc:WY):Prop where
 kind:ag.scope.kind=.function
 globals:ag.globals=mainGlobals
 builtins:ag.builtins=builtinsNs
 glob:∀x,sc.names.lookup x=XU .globalImplicit->ag.kindOf x=XU .globalImplicit
 loc:∀x,sc.names.lookup x=XU .local->ag.kindOf x=XU .local
 cel:∀x,sc.names.lookup x=XU .cell->ag.kindOf x=XU .cell
 fre:∀x,sc.names.lookup x=XU .free->ag.kindOf x=XU .cell\/ag.kindOf x=XU .free
 cells:∀x,sc.names.lookup x=XU .cell\/sc.names.lookup x=XU .free->∃c,ag.cells.lookup x=XU c
 inj:∀x y c,ag.cells.lookup x=XU c->ag.cells.lookup y=XU c->x=y
theorem Bs.dT (z:Bs C s)(e:s.heap.get? a=XU o)(hd:∀es n,o.data≠.dict es n):¬C.fr a:=fun f=>by refine jX (z.alive a f) fun o' es n e' d=>?_;rw[e]at e';obtain rfl:=XT e';exact hd _ _ d
theorem Bs.dF (z:Bs C s)(e:s.heap.get? a=XU o)(hd:∀vs,o.data≠.fields vs):¬C.T a:=by intro y0;refine iM y0 fun c p q m=>?_;rcases z.tab c a p q m with e'|⟨_,e',_⟩<;>(rw[e]at e';obtain rfl:=XT e';exact hd _ rfl)
theorem J3 (h:o.data=.cell c)(vs:Array WJ):o.data≠.fields vs:=by rw[h];nofun
theorem J7 (h:o.data=.cell c)(es:Array DictEntry)(n:Nat):o.data≠.dict es n:=by rw[h];nofun
theorem fq.keep (H:fq h ag x v)(h1:∀o,h.get? ag.locals=XU o->(∃es n,o.data=.dict es n)->gh h' ag.locals o)(h2:∀b o c,h.get? b=XU o->o.data=.cell c->h'.get? b=XU o):fq h' ag x v:=by
 refine bH H fun a1 a2 a3=>?_;refine⟨a1,a2,?_⟩;refine XR a3 (fun y0=>?_) fun y2=>?_
 ·obtain⟨b1,m,y1,b5⟩:=y0;refine qV y1 fun o es ep b2 b3 b4=>?_;refine aE (h1 _ b2 ⟨_,_,b3⟩) fun o' e' d'=>?_;exact .inl ⟨b1,m,⟨o',es,ep,e',d'.trans b3,b4⟩,b5⟩
 ·obtain⟨b1,c,b2,o,b3,b4⟩:=y2;exact .inr ⟨b1,c,b2,o,h2 _ _ _ b3 b4,b4⟩
theorem iJ {P:Obj->Prop}(ha:h.get? a=XU o)(hb:h.get? b=XU o')(p:P o)(np:¬P o'):a≠b:=fun q=>np (XT (ha.symm.trans (q▸hb))▸p)
theorem fq.ex (z:Bs C s)(y:Ex C s s')(h:fq s.heap ag x v):fq s'.heap ag x v:=h.keep (fun o e hd=>y.data e (z.dF e fun vs q=>let⟨_,_,hd⟩:=hd;nomatch hd.symm.trans q)) fun b o c e hd=>y.keep _ _ e (z.dF e (J3 hd)) (z.dT e (J7 hd))
set_option tactic.hygienic true in
theorem bt.ex (z:Bs C s)(V:bw C ak s)(y:Ex C s s')(h:bt s.heap ak v d):bt s'.heap ak v d:=by
 rcases h with⟨⟩;case rep r=>exact .rep (r.ex V y)
 case list ho hc hn hd hr=>exact .list (y.keep _ _ ho (z.dF ho (by rw[hd];nofun)) (z.dT ho (by rw[hd];nofun))) hc hn hd (hr.ex V y)
 case bz ho hc hd=>exact .bz (y.keep _ _ ho (z.dF ho (by rw[hd];nofun)) (z.dT ho (by rw[hd];nofun))) hc hd
set_option tactic.hygienic true in
theorem gk.ex (z:Bs C s)(V:bw C ak s)(y:Ex C s s')(h:gk s.heap ak L v sl):gk s'.heap ak L v sl:=by
 rcases sl with⟨⟩;case val d=>exact Rep.ex V y h
 case own d=>exact⟨bt.ex z V y h.1,h.2⟩
theorem Lo.ex (z:Bs C s)(V:bw C ak s)(y:Ex C s s')(h:Lo s.heap ak ag ae):Lo s'.heap ak ag ae:=fun x sl e=>by refine aE (h x sl e) fun v a b=>?_;exact⟨v,a.ex z y,b.ex z V y⟩
structure In (C:Cx) (ak:XO->Prop) (ag:Env) (ae:az) (s:WV):Prop where
 bs:Bs C s
 vo:bw C ak s
 lo:Lo s.heap ak ag ae
 cells:∀x c,ag.cells.lookup x=XU c->∃v,s.heap.IsCell c v
theorem In.ex (i:In C ak ag ae s)(y:Ex C s s'):In C ak ag ae s':=⟨y.bs i.bs,i.vo.ex y (y.bs i.bs),i.lo.ex i.bs i.vo y,fun x c hc=>by refine fE (i.cells x c hc) fun v o ho hd=>?_;exact⟨v,o,y.keep _ _ ho (i.bs.dF ho (by rw[hd];nofun)) (i.bs.dT ho (by rw[hd];nofun)),hd⟩⟩
structure cI (C:Cx) (n:Nat):Prop where
 bin:∀{op a b d v u A s ak},dy C n A->Bs C s->bw C ak s->Rep s.heap ak v a->Rep s.heap ak u b->lO op a b=XU d->eN C A ak (binaryOp op v u) d s
 un:∀{op a d v A s ak},dy C n A->Bs C s->bw C ak s->Rep s.heap ak v a->TX op a=XU d->eN C A ak (unaryOp op v) d s
 cmp:∀{op a b r v u A s ak},dy C n A->Bs C s->bw C ak s->bt s.heap ak v a->bt s.heap ak u b->kW op a b=XU r->eN C A ak (compareOp op v u) (.bool r) s
 TY:∀{a b v A s ak},dy C n A->Bs C s->bw C ak s->bt s.heap ak v a->qj a=XU b->Wp C A (truthy v) (fun t x=>t=b) s
 item:∀{value slice a i d v u A s ak},dy C n A->Bs C s->bw C ak s->bt s.heap ak v a->Rep s.heap ak u i->dp a i=XU d->(∀p q r t,slice≠.Slice p q r t)->eN C A ak (subscriptTail value slice v u) d s
 slice:∀{value lo hi st p a d v v1 v2 v3 l1 l2 l3 sl A s ak},dy C n A->Bs C s->bw C ak s->bt s.heap ak v a->s.heap.IsSliceOf sl v1 v2 v3->Xf v1 l1->Xf v2 l2->Xf v3 l3->eZ a l1 l2 l3=XU d->
  eN C A ak (subscriptTail value (.Slice lo hi st p) v (.ref sl)) d s
structure b9 (C:Cx) (Φ:fN) (n:Nat):Prop where
 fn:∀{f g},Φ.fn f=XU g->∃a o fd,C.mg f=XU (.ref a)/\(f==("__debug__":WS))=false/\¬C.T a/\C.h₀.get? a=XU o/\o.data=.func fd/\
  ∀{A s ak vs ds d},dy C n A->Bs C s->bw C ak s->aK s.heap ak vs ds->g ds=XU d->eN C A ak (WA (.ref a) vs) d s
 tC:∀{f g},Φ.tC f=XU g->∃v,C.mg f=XW/\C.mb f=XU v/\(f==("__debug__":WS))=false/\(∀a,v≠.ref a)/\
  ∀{A s ak vs ds d},dy C n A->Bs C s->bw C ak s->iq s.heap ak vs ds->g ds=XU d->eN C A ak (WA v vs) d s
 glob:∀{x d},Φ.glob x=XU d->∃v,(C.mg x=XU v\/(C.mg x=XW/\C.mb x=XU v))/\(x==("__debug__":WS))=false/\∀{s ak},Bs C s->bw C ak s->Rep s.heap ak v d
 oR:∀{m a ds d v s ak},Φ.oR m a ds=XU d->Bs C s->bw C ak s->bt s.heap ak v a->∃id,(∀{A pl},Wp C A (getMethod v m pl) (fun r y=>r=(.builtin id,[v])) s)/\
  ∀{A s vs},dy C n A->Bs C s->bw C ak s->bt s.heap ak v a->aK s.heap ak vs ds->eN C A ak (WA (.builtin id) (v::vs)) d s
inductive It (h:Xp) (ak W:XO->Prop):XO->List Dat->Prop
 |list {I l:XO} {i:Nat} {vs:List WJ} {ds:List Dat} (hi:h.IsListIter I l i) (hl:h.IsList l vs.toArray) (hr:aK h ak (vs.drop i) ds) (w1:¬W I) (w2:¬W l):It h ak W I ds
 |tuple {I l:XO} {i:Nat} {vs:List WJ} {ds:List Dat} (hi:h.IsTupleIter I l i) (hl:h.IsTuple l vs.toArray) (hr:aK h ak (vs.drop i) ds) (w1:¬W I) (w2:¬W l):It h ak W I ds
 |range {I:XO} {x st:Int} {n:Nat} (hi:IsRangeIter h I x (n:Int) st) (w1:¬W I):It h ak W I ((Yy n).map fun k:Nat=>.int (x+st*(k:Int)))
 |str {I:XO} {x:WS} {t:Tok} {i:Nat} (hi:h.IsStrIter I "str_ascii_iterator" x t i) (w1:¬W I):It h ak W I ((x.cps.toList.drop i).map fun c=>.str ⟨#[c]⟩)
 |bytes {I:XO} {b:List UInt8} {t:Tok} {i:Nat} (hi:KBw.IsBytesIter h I b.toArray t i) (w1:¬W I):It h ak W I ((b.drop i).map fun c=>.int c.toNat)
theorem It.mono {fF:XO->Prop}(hk:∀b o,h.get? b=XU o->¬W b->h'.get? b=XU o)(hr:∀{vs ds},aK h ak vs ds->aK h' fF vs ds)(x:It h ak W I ds):It h' fF W I ds:=by cases x with|list hi hl t9 w1 w2=>refine aE hi fun o ho r=>?_;refine aE hl fun o2 mE r2=>?_;exact .list ⟨o,hk _ _ ho w1,r⟩ ⟨o2,hk _ _ mE w2,r2⟩ (hr t9) w1 w2|tuple hi hl t9 w1 w2=>refine aE hi fun o ho r=>?_;refine aE hl fun o2 mE r2=>?_;exact .tuple ⟨o,hk _ _ ho w1,r⟩ ⟨o2,hk _ _ mE w2,r2⟩ (hr t9) w1 w2|range hi w1=>exact .range (hk _ _ hi w1) w1|str hi w1=>refine aE hi fun o ho r=>?_;exact .str ⟨o,hk _ _ ho w1,r⟩ w1|bytes hi w1=>refine aE hi fun o ho r=>?_;exact .bytes ⟨o,hk _ _ ho w1,r⟩ w1
theorem It.J1 (x:It h ak W I ds):¬W I:=by rcases x with⟨⟩<;>assumption
theorem ia {T:String}(h:["tuple","list","range","bytearray"].all (· !=T)):¬ir (.type T):=by rintro(e|e|e|e)<;>(obtain rfl:=WJ.type.inj e;exact absurd h (by decide))
theorem ib {vs:Array WJ}(ho:h.get? I=XU o)(hc:o.cls=.type T)(hT:¬ir (.type T))(hd:o.data=.fields vs):∃o,h.get? I=XU o/\¬ir o.cls/\(∀vs n,o.data≠.seq vs n)/\(∀es n,o.data≠.dict es n)/\(∀c,o.data≠.cell c):=⟨o,ho,hc▸hT,(fun x x e=>nomatch hd.symm.trans e),(fun x x e=>nomatch hd.symm.trans e),fun x e=>nomatch hd.symm.trans e⟩
theorem It.iE (x:It h ak W I ds):∃o,h.get? I=XU o/\¬ir o.cls/\(∀vs n,o.data≠.seq vs n)/\(∀es n,o.data≠.dict es n)/\(∀c,o.data≠.cell c):=by cases x with|list hi=>exact let⟨o,ho,hc,hd⟩:=hi;ib ho hc (ia rfl) hd|tuple hi=>exact let⟨o,ho,hc,hd⟩:=hi;ib ho hc (ia rfl) hd|range hi=>exact ib hi rfl (ia rfl) rfl|str hi=>exact let⟨o,ho,hc,hd⟩:=hi;ib ho hc (ia rfl) hd|bytes hi=>exact let⟨o,ho,hc,hd⟩:=hi;ib ho hc (ia rfl) hd
set_option tactic.hygienic true in
theorem It.next (x:It s.heap ak W I (d::ds)){Q:Option WJ->WV->Prop}(hQ:∀v h' tk,Rep h' ak v d->It h' ak W I ds->Xn I s.heap h'->Q (XU v) {s with heap:=h',toks:=tk}):aV (Wu pw Wd) A (pyNext (.ref I)) Q E s:=by
 refine Jj x.iE fun oI ly qu Mk y=>?_;generalize e:d::ds=l at x;cases x with
 |list hi hl hr w1 w2=>
  rename_i l i vs;subst e;have gS:l≠I:=by rintro rfl;obtain⟨o,ho,_,n,hd⟩:=hl;rw[ly]at ho;obtain rfl:=XT ho;exact Mk _ _ hd
  cases hv:vs.drop i with
  |nil=>rw[hv]at hr;(rcases hr with⟨⟩)
  |cons v mj=>
   rw[hv]at hr;rcases hr with⟨⟩;case cons r rs=>
    have hx:vs.toArray[i]?=XU v:=by have:=V4 (·[0]?) hv;simpa using this
    have cU:vs.drop (i+1)=mj:=by rw[<-ZC,hv];rfl
    refine ao <|wpAny_pyNext_list_item hi hl hx fun h' mV hs=>hQ _ _ _ (r.extBut ly qu hs.extBut) (.list mV (hl.extBut hs.extBut gS) (cU▸rs.extBut ly qu hs.extBut) w1 w2) hs
 |tuple hi hl hr w1 w2=>
  rename_i l i vs;subst e;have gS:l≠I:=by rintro rfl;obtain⟨o,ho,_,n,hd⟩:=hl;rw[ly]at ho;obtain rfl:=XT ho;exact Mk _ _ hd
  cases hv:vs.drop i with
  |nil=>rw[hv]at hr;(rcases hr with⟨⟩)
  |cons v mj=>
   rw[hv]at hr;rcases hr with⟨⟩;case cons r rs=>
    have hx:vs.toArray[i]?=XU v:=by have:=V4 (·[0]?) hv;simpa using this
    have cU:vs.drop (i+1)=mj:=by rw[<-ZC,hv];rfl
    refine ao <|wpAny_pyNext_tuple_item hi hl hx fun h' mV hs=>hQ _ _ _ (r.extBut ly qu hs.extBut) (.tuple mV (hl.extBut hs.extBut gS) (cU▸rs.extBut ly qu hs.extBut) w1 w2) hs
 |range hi w1=>
  rename_i x st n;rcases n with⟨⟩;case zero=>(rcases e with⟨⟩)
  case succ n=>
   simp only[List.range_succ_eq_map,YQ,YO]at e;injection e with e1 e2;subst e1 e2;refine ao <|wpAny_pyNext_range_item hi (bq 0x90baf871 rfl) fun h' mV hs=>hQ _ _ _ ?_ ?_ hs
   ·simpa using Rep.int x _
   ·have Pw:IsRangeIter h' I (x+st) (n:Int) st:=by have:((n+1:Nat):Int)-1=(n:Int):=bq 0xaf990bafc91 rfl;rw[this]at mV;exact mV
    have z:=It.range (ak:=ak) Pw w1;have q:(Yy n).map ((fun k:Nat=>Dat.int (x+st*(k:Int)))∘Nat.succ)=(Yy n).map fun k:Nat=>.int (x+st+st*(k:Int)):=by refine YR fun k y=>?_;show Dat.int _=Dat.int _;congr 1;have:((Nat.succ k:Nat):Int)=(k:Int)+1:=bq 0x90afb90baf91 rfl;simp only[this,Int.mul_add,Int.mul_one];exact UH 0x1f2f0fbb2f1fb0fb91 rfl
    exact q▸z
 |str hi w1=>
  rename_i x t i;cases hv:x.cps.toList.drop i with
  |nil=>replace e:=hv▸e;(rcases e with⟨⟩)
  |cons c cs=>
   rw[hv]at e;injection e with e1 e2;subst e1 e2;have hx:x.cps[i]?=XU c:=by have:=V4 (·[0]?) hv;simpa using this
   have cU:x.cps.toList.drop (i+1)=cs:=by refine xL ZC (xR hv ?_);rfl
   refine ao <|wpAny_pyNext_ascii_item hi hx fun h' mV hs=>hQ _ _ _ (.str _ _) ?_ hs;have z:=It.str (ak:=ak) mV w1;rw[cU]at z;exact z
 |bytes hi w1=>
  rename_i b t i;cases hv:b.drop i with
  |nil=>replace e:=hv▸e;(rcases e with⟨⟩)
  |cons c cs=>
   rw[hv]at e;injection e with e1 e2;subst e1 e2;have hx:b.toArray[i]?=XU c:=by have:=V4 (·[0]?) hv;simpa using this
   have cU:b.drop (i+1)=cs:=by refine xL ZC (xR hv ?_);rfl
   refine ao <|KBw.next_item hi hx fun h' mV hs=>hQ _ _ _ (.int _ _) ?_ hs;have z:=It.bytes (ak:=ak) mV w1;rw[cU]at z;exact z
set_option tactic.hygienic true in
theorem It.done (x:It s.heap ak W I [])(hh:A.handled=XW){Q:Option WJ->WV->Prop}(hQ:∀h',Xo I s.heap h'->Q XW {s with heap:=h'}):aV (Wu pw Wd) A (pyNext (.ref I)) Q E s:=by
 generalize e:([]:List Dat)=l at x
 cases x with
 |list hi hl hr w1 w2=>rename_i l i vs;subst e;have C9:=hr.length;refine ao <|wpAny_pyNext_list_end hh hi hl ?_ hQ;simp at C9 ⊢;exact aT 0x101810c22 rfl C9
 |tuple hi hl hr w1 w2=>rename_i l i vs;subst e;have C9:=hr.length;refine ao <|wpAny_pyNext_tuple_end hh hi hl ?_ hQ;simp at C9 ⊢;exact aT 0x101810c22 rfl C9
 |range hi w1=>rename_i x st n;have C9:=V4 Za e;simp at C9;exact ao <|wpAny_pyNext_range_end hh hi (bq 0x80af80822 rfl C9) hQ
 |str hi w1=>rename_i x t i;have C9:=V4 Za e;simp at C9;exact ao <|wpAny_pyNext_ascii_end hh hi (by simp;exact aT 0x10110c822 rfl C9) hQ
 |bytes hi w1=>rename_i b t i;have C9:=V4 Za e;simp at C9;exact ao <|KBw.next_end hh hi (by simp;exact aT 0x10110c822 rfl C9) hQ
theorem It.self (x:It s.heap ak W I ds)(hQ:Q (.ref I) s):aV (Wu pw Wd) A (pyIter (.ref I)) Q E s:=by
 cases x with
 |list hi=>exact ao <|wpAny_pyIter_listiter hi hQ
 |tuple hi=>exact ao <|wpAny_pyIter_tupleiter hi hQ
 |range hi=>exact ao <|wpAny_pyIter_rangeiter hi hQ
 |str hi=>exact ao <|wpAny_pyIter_striter_ascii hi hQ
 |bytes hi=>exact ao <|KBw.pyIter_self hi hQ
theorem dE (a b c:Int):0<=XA a b c:=by
 unfold XA;split
 ·rename_i hc;split
  ·have:=Int.ediv_nonneg (Pl 0x90f1fcc881f0f72 rfl (by assumption)) (An 0xf880f872 rfl hc);exact An 0x90fb880f882 rfl this
  ·lia
 ·split
  ·have:=Int.ediv_nonneg (Pl 0x90f1fcc881f0f72 rfl (by assumption)) (An 0xf9f880f8732 rfl (by assumption));exact An 0x90fb880f882 rfl this
  ·lia
theorem wz {a b c:Int}(hc:c≠0):XA a b c<=0\/XA a b c<=b-a\/XA a b c<=a-b:=by
 unfold XA;split
 ·split
  ·have:(b-a-1)/c<=b-a-1:=Int.ediv_le_self _ (Pl 0x90f1fcc881f0f72 rfl (by assumption));exact UH 0x1f2fc90fb82f1fc90fb85890fb8592f1fcc0f82 rfl this
  ·exact Pl 0xf1fc881f0fc88588851 rfl
 ·split
  ·have:(a-b-1)/(-c)<=a-b-1:=Int.ediv_le_self _ (Pl 0x90f1fcc881f0f72 rfl (by assumption));exact UH 0x2f1fc90fb81f2fc90fb85890fb8592f1fcc0f82 rfl this
  ·exact Pl 0xf1fc881f0fc88588851 rfl
theorem cJ {i:Int}:aP i=true↔-(2^62)<i/\i<2^62:=by unfold aP;simp
theorem mu {n:Nat}(h:n<=aW):aP (n:Int)=true:=cJ.mpr ⟨Int.lt_of_lt_of_le (by decide +kernel) (ZN n),ZO (ZL.mpr h) (by decide +kernel)⟩
theorem kG {a b c:Int}(ha:aP a=true)(hb:aP b=true)(hc:aP c=true)(h0:c≠0):XJ.Range.small a b c=true:=by simp only[cJ]at ha hb hc;have h1:=dE a b c;have h2:=wz (a:=a) (b:=b) h0;generalize hz:XA a b c=z at *;delta XJ.Range.small;refine xR hz ?_;simp only[XJ.Range.rangeFitsLong,Z6,ZV,V0,V3];refine⟨⟨⟨⟨⟨by lia,by lia⟩,by lia,by lia⟩,by lia,by lia⟩,by lia,by lia⟩,.inr ?_⟩;split<;>simp only[Z6,V0]<;>constructor<;>lia
set_option tactic.hygienic true in
theorem qM (r:bt s.heap ak v d)(hd:bM d=XU ds)(hw:∀a,W a->∃o,s.heap.get? a=XU o)(hl:∀a,v=.ref a->¬W a)(hQ:∀I h',s.heap.get? I=XW->(∀b o,s.heap.get? b=XU o->h'.get? b=XU o)->It h' ak W I ds->Q (.ref I) {s with heap:=h'}):aV (Wu pw Wd) A (pyIter v) Q E s:=by
 revert r hd hw hl hQ;refine vR (bL (bL (bL (bL pQ VV) pR) (bL G1 VV)) VV) ?_ s () A d ak Q E W ds v;generalize gB _ _=tt;dsimp only[I3];generalize tt.1.1.1.1=s,tt.1.1.2=A,tt.1.2.1=d,tt.1.2.2=ak,tt.2.1.1.1=Q,tt.2.1.1.2=E,tt.2.1.2=W,tt.2.2.1=ds,tt.2.2.2=v;intro r hd hw hl hQ;have hI:¬W s.heap.objs.size:=fun q=>by refine aM (hw _ q) fun o e=>?_;rw[aF]at e;exact aa e
 have rp:∀(o:Obj){vs:List WJ}{es:List Dat},aK s.heap ak vs es->aK (s.heap.push o) ak vs es:=fun o y y r=>r.mono fun b o' e n=>⟨Xl o e,n⟩;have lst:∀{a:XO}{o:Obj}{vs:List WJ}{n:Nat}{es:List Dat},s.heap.get? a=XU o->o.cls=.type "list"->o.data=.seq vs.toArray n->aK s.heap ak vs es->¬W a->(∀I h',s.heap.get? I=XW->(∀b o,s.heap.get? b=XU o->h'.get? b=XU o)->It h' ak W I es->Q (.ref I) {s with heap:=h'})->aV (Wu pw Wd) A (pyIter (.ref a)) Q E s:=by
  intro a o vs n es ho hc hd hr hwa hQ
  refine ao <|wpAny_pyIter_list ⟨o,ho,hc,n,hd⟩ (hQ _ _ (aF _) (fun y y e=>Xl _ e) (.list ⟨_,Xk _ rfl,rfl,rfl⟩ ⟨o,Xl _ ho,hc,n,hd⟩ (rp _ hr) hI hwa))
 rcases r with⟨⟩;case list ho hc hn cU hr=>obtain rfl:=XT hd;exact lst ho hc cU hr (hl _ rfl) hQ
 case bz ho hc cU=>exact aa hd
 case rep r=>
  rcases r with⟨⟩;case none=>exact aa hd
  case bool=>exact aa hd
  case int=>exact aa hd
  case top=>exact aa hd
  case typ=>exact aa hd
  case bz=>exact aa hd
  case list hv ho hc hn cU hr=>obtain rfl:=XT hd;exact lst ho hc cU hr (hl _ rfl) hQ
  case tuple hv ho hc cU hr=>obtain rfl:=XT hd;refine ao <|wpAny_pyIter_tuple ⟨_,ho,hc,_,cU⟩ (hQ _ _ (aF _) (fun y y e=>Xl _ e) (.tuple ⟨_,Xk _ rfl,rfl,rfl⟩ ⟨_,Xl _ ho,hc,_,cU⟩ (rp _ hr) hI (hl _ rfl)))
  case range hv hr=>
   rename_i r a b c t u v;refine aQ hd fun hs hd=>?_
   ·obtain rfl:=XT hd;simp only[Z6,bne_iff_ne,ne_eq]at hs;refine aZ hs fun y0 h0=>?_;refine aZ y0 fun y1 hc=>?_;refine aZ y1 fun ha hb=>?_;refine ao <|wpAny_pyIter_range hr (kG ha hb hc h0) (hQ _ _ (aF _) (fun y y e=>Xl _ e) ?_);have z:IsRangeIter (s.heap.push {cls:=.type "range_iterator",data:=.fields #[rawInt a,rawInt (XA a b c),rawInt c]}) s.heap.objs.size a ((cV a b c:Nat):Int) c:=by unfold cV;rw[ZJ (dE a b c)];exact Xk _ rfl
    have q:=It.range (ak:=ak) z hI;unfold jF;rw[YO];exact q
  case str x t=>
   refine aQ hd fun hs hd=>?_
   ·obtain rfl:=XT hd;refine ao <|wpAny_pyIter_ascii hs (hQ _ _ (aF _) (fun y y e=>Xl _ e) ?_);exact It.str (i:=0) ⟨_,Xk _ rfl,rfl,rfl⟩ hI
  case bytes b t=>obtain rfl:=XT hd;refine ao <|KBw.pyIter_bytes (hQ _ _ (aF _) (fun y y e=>Xl _ e) ?_);exact It.bytes (i:=0) ⟨_,Xk _ rfl,rfl,rfl⟩ hI
structure gX (C:Cx) (W:XO->Prop) (s s':WV):Prop where
 keep:∀b o,s.heap.get? b=XU o->¬C.T b->¬C.fr b->¬W b->s'.heap.get? b=XU o
 nO:∀b o,C.fr b->¬W b->s.heap.get? b=XU o->gh s'.heap b o
 bs:Bs C s->(∀a,W a->C.h₀.get? a=XW)->Bs C s'
theorem gX.refl (s:WV):gX C W s s:=⟨fun x x e x x x=>e,fun x x x x e=>.of e,fun z x=>z⟩
theorem gX.trans (x:gX C W s s')(y:gX C W s' gv):gX C W s gv:=⟨fun b o e t f w=>y.keep b o (x.keep b o e t f w) t f w,fun b o f w e=>let⟨o1,e1,d1⟩:=x.nO b o f w e;let⟨o2,e2,d2⟩:=y.nO b o1 f w e1;⟨o2,e2,d2.trans d1⟩,fun z w=>y.bs (x.bs z w) w⟩
theorem gX.mono (x:gX C W s s')(h:∀a,W a->W' a):gX C W' s s':=⟨fun b o e t f w=>x.keep b o e t f fun q=>w (h b q),fun b o f w e=>x.nO b o f (fun q=>w (h b q)) e,fun z w=>x.bs z fun a q=>w a (h a q)⟩
theorem Ex.M8 (x:Ex C s s'):gX C W s s':=⟨fun b o e t f y=>x.keep b o e t f,fun b o f y e=>x.nO b o f e,fun z y=>x.bs z⟩
theorem gX.Qb (x:gX C W s s')(h:∀a,W a->s.heap.get? a=XW)(hT:∀a,W a->¬C.T a):Ex C s s':=by
 refine⟨fun b o e t f=>x.keep b o e t f fun q=>?_,fun b o f e=>x.nO b o f (fun q=>?_) e,fun z=>x.bs z fun a q=>?_⟩
 ·rw[h b q]at e;exact aa e
 ·rw[h b q]at e;exact aa e
 ·cases e:C.h₀.get? a with|none=>rfl|some o=>have:=z.keep a o e (hT a q);rw[h a q]at this;exact aa this
theorem gX.same {t:Nat}(hs:Xo a s.heap h')(ha:W a)(hT:¬C.T a)(Dg:C.fr a->gn h' a)(hd:∀oa vs x t,s.heap.get? a=XU oa->oa.data=.fields vs->vs[1]?≠XU (.str x t)):gX C W s {s with heap:=h',toks:=t}:=⟨fun b o e y y w=>hs b o (fun q=>w (q▸ha)) e,fun b o y w e=>.of (hs b o (fun q=>w (q▸ha)) e),fun z w=>⟨fun b o e t'=>hs b o (fun q=>by subst q;replace e:=(w _ ha).symm.trans e;exact aa e) (z.keep b o e t'),fun c P p q m=>by
  refine XR (z.tab c P p q m) (fun e=>?_) fun y0=>?_
  ·exact .inl (hs _ _ (fun q'=>hT (q'▸⟨c,p,q,m⟩)) e)
  ·refine aE y0 fun b e r=>?_;refine .inr ⟨b,hs _ _ (fun q'=>hT (q'▸⟨c,p,q,m⟩)) e,?_⟩;refine cQ r fun b' o vs t e1 e2 e3 e4=>?_;refine ZU fun hG=>?_;rcases e1 with⟨⟩;refine hG ?_;have hb:b≠a:=fun q=>by subst q;exact hd o vs _ _ e2 e3 e4
   exact⟨b,o,vs,t,rfl,hs _ _ hb e2,e3,e4⟩,z.gens,z.os,fun b f=>by
   by_cases q:b=a
   ·exact q▸Dg (q▸f)
   ·exact(z.alive b f).data fun o e=>.of (hs b o q e)⟩⟩
theorem GW (ho:h.get? I=XU o)(hd:o.data=.fields us)(hn:∀x t,us[1]?≠XU (.str x t)):∀oa vs x t,h.get? I=XU oa->oa.data=.fields vs->vs[1]?≠XU (.str x t):=by intro oa vs x t e1 e2;obtain rfl:=XT (ho.symm.trans e1);obtain rfl:=Data.fields.inj (hd.symm.trans e2);exact hn x t
theorem It.CX (x:It h ak W I ds):∀oa vs x t,h.get? I=XU oa->oa.data=.fields vs->vs[1]?≠XU (.str x t):=by cases x with|list hi=>exact let⟨o,ho,hc,hd⟩:=hi;GW ho hd fun y y q=>nomatch q|tuple hi=>exact let⟨o,ho,hc,hd⟩:=hi;GW ho hd fun y y q=>nomatch q|range hi=>exact GW hi rfl fun y y q=>nomatch q|str hi=>exact let⟨o,ho,hc,hd⟩:=hi;GW ho hd fun y y q=>nomatch q|bytes hi=>exact let⟨o,ho,hc,hd⟩:=hi;GW ho hd fun y y q=>nomatch q
theorem Ns.unique (x:h.Ns a m)(y:h.Ns a m'):m=m':=by refine iL x fun o es ep ho hd u hm=>?_;refine iL y fun o' es' ep' ja cU u Ao=>?_;rw[ho]at ja;obtain rfl:=XT ja;replace cU:=hd.symm.trans cU;rcases cU with⟨⟩;funext z;simp only[<-hm,<-Ao]
structure pF (C:Cx) (h:Xp) (ak:XO->Prop) (ag:Env) (sc:WY):Prop where
 ns:∃m,h.Ns ag.locals m
 vl:ak ag.locals
 fl:C.h₀.get? ag.locals=XW
 cell:∀x c,sc.names.lookup x=XU .cell->ag.cells.lookup x=XU c->ak c/\C.h₀.get? c=XW/\∃v,h.IsCell c v
def FW (ag:Env)(sc:WY)(a:XO):Prop:=a=ag.locals\/∃x,sc.names.lookup x=XU .cell/\ag.cells.lookup x=XU a
theorem pF.DN (f:pF C s.heap ak ag sc)(a:XO)(h:FW ag sc a):ak a:=by
 refine XR h (fun y0=>?_) fun y1=>?_
 ·obtain rfl:=y0;exact f.vl
 ·refine aE y1 fun x h1 h2=>?_;exact(f.cell x a h1 h2).1
theorem pF.new (f:pF C s.heap ak ag sc)(a:XO)(h:FW ag sc a):C.h₀.get? a=XW:=by
 refine XR h (fun y0=>?_) fun y1=>?_
 ·obtain rfl:=y0;exact f.fl
 ·refine aE y1 fun x h1 h2=>?_;exact(f.cell x a h1 h2).2.1
theorem pF.dF (f:pF C s.heap ak ag sc)(z:Bs C s)(a:XO)(h:FW ag sc a):¬C.T a:=by
 refine XR h (fun y0=>?_) fun y1=>?_
 ·obtain rfl:=y0;refine ke f.ns fun m o es ep ho hd y=>?_;exact z.dF ho (by refine xR hd ?_;nofun)
 ·refine aE y1 fun x h1 h2=>?_;obtain⟨_,_,v,o,ho,hd⟩:=f.cell x a h1 h2;exact z.dF ho (by refine xR hd ?_;nofun)
theorem pF.keep (f:pF C s.heap ak ag sc)(hk:∀b o,s.heap.get? b=XU o->FW ag sc b->gh s'.heap b o):pF C s'.heap ak ag sc:=by refine ke f.ns fun m o es ep ho hd r=>?_;refine aE (hk _ _ ho (.inl rfl)) fun o' e' d'=>?_;refine⟨⟨m,o',es,ep,e',d'.trans hd,r⟩,f.vl,f.fl,fun x c h1 h2=>?_⟩;refine ZU fun hG=>?_;obtain⟨a,b,v,o,ho,hd⟩:=f.cell x c h1 h2;refine hG ?_;refine aE (hk _ _ ho (.inr ⟨x,h1,h2⟩)) fun o' e' d'=>?_;exact⟨a,b,v,o',e',d'.trans hd⟩
theorem pF.ex (f:pF C s.heap ak ag sc)(z:Bs C s)(x:Ex C s s'):pF C s'.heap ak ag sc:=f.keep fun b o e w=>x.data e (f.dF z b w)
theorem Rep.eW (ha:ak a)(hs:Xo a h h')(r:Rep h ak v d):Rep h' ak v d:=r.mono fun b o e n=>⟨hs b o (fun q=>n (q▸ha)) e,n⟩
theorem aK.eW (ha:ak a)(hs:Xo a h h'){v:List WJ}{d:List Dat}(r:aK h ak v d):aK h' ak v d:=r.mono fun b o e n=>⟨hs b o (fun q=>n (q▸ha)) e,n⟩
theorem bw.same {t:Nat}(V:bw C ak s)(hs:Xn a s.heap h')(ha:∃o,h'.get? a=XU o):bw C ak {s with heap:=h',toks:=t}:=⟨V.tabs,V.fZ,fun b hb=>by
  by_cases q:b=a
  ·exact q▸ha
  ·refine aM (V.there b hb) fun o e=>?_;exact⟨o,(hs.2 b q).trans e⟩⟩
def TR (o:Obj):Prop:=(∃es n,o.data=.dict es n)\/∃c,o.data=.cell c
theorem TR.GX (h:TR o)(vs:Array WJ):o.data≠.fields vs:=by rcases h with⟨_,_,e⟩|⟨_,e⟩<;>rw[e]<;>nofun
set_option tactic.hygienic true in
theorem Rep.odd (tL:h.get? a=XU oa)(ho:TR oa)(hs:Xo a h h'):∀{v:WJ}{d:Dat},bt h ak v d->ak a->bt h' ak v d:=by
 intro v d r ha;rcases r with⟨⟩;case rep r=>exact .rep (r.eW ha hs)
 case list h1 qv hn hd hr=>exact .list (hs _ _ (fun q=>by subst q;rw[tL]at h1;obtain rfl:=XT h1;rcases ho with⟨_,_,e⟩|⟨_,e⟩<;>(replace e:=hd.symm.trans e;rcases e with⟨⟩)) h1) qv hn hd (hr.eW ha hs)
 case bz h1 qv hd=>exact .bz (hs _ _ (fun q=>by subst q;rw[tL]at h1;obtain rfl:=XT h1;rcases ho with⟨_,_,e⟩|⟨_,e⟩<;>(replace e:=hd.symm.trans e;rcases e with⟨⟩)) h1) qv hd
set_option tactic.hygienic true in
theorem nh (e:bh ag sc)(i:In C ak ag ae s)(f:pF C s.heap ak ag sc)(hb:b8 sc x sl ae=XU bl)(r:gk s.heap ak ag.locals v sl){Q:Unit->WV->Prop}(hQ:∀s',gX C (FW ag sc) s s'->In C ak ag bl s'->pF C s'.heap ak ag sc->(∀y w,y≠x->fq s.heap ag y w->fq s'.heap ag y w)->fq s'.heap ag x v->Q () s'):aV (Wu pw Wd) A (bindName ag x v) Q E s:=by
 revert e i f hb r hQ;refine mX (bL (bL (bL (bL pQ ya) (bL neO pR)) VV) VV) ?_ s C sl A ag x ak v sc ae Q E bl;generalize gB _ _=tt;dsimp only[As];generalize tt.1.1.1.1=s,tt.1.1.1.2=C,tt.1.1.2.1=sl,tt.1.1.2.2=A,tt.1.2.1.1=ag,tt.1.2.1.2=x,tt.1.2.2=ak,tt.2.1.1.1=v,tt.2.1.1.2=sc,tt.2.1.2=ae,tt.2.2.1.1=Q,tt.2.2.1.2=E,tt.2.2.2=bl;intro e i f hb r hQ;delta b8 at hb;split at hb;case isFalse=>exact aa hb
 rename_i hx;obtain rfl:=XT hb;refine bH hx fun hk hd1 hd2=>?_;refine vU ?_;have Qh:∀(a:XO)(oa:Obj)(h':Xp)(t:Nat),s.heap.get? a=XU oa->TR oa->FW ag sc a->Xn a s.heap h'->(∃o,h'.get? a=XU o)->(∀y w,y≠x->fq s.heap ag y w->fq h' ag y w)->fq h' ag x v->pF C h' ak ag sc->((∃w,s.heap.IsCell a w)->∃w,h'.IsCell a w)->(C.fr a->gn h' a)->Q () {s with heap:=h',toks:=t}:=by
  intro a oa h' t tL RM hfw hs hex Hu Mi Zaj Zar Dg
  have va:=f.DN a hfw
  have sr:∀{w:WJ}{Pn:Slot},gk s.heap ak ag.locals w Pn->gk h' ak ag.locals w Pn:=by
   intro w Pn q;rcases Pn with⟨⟩;case val d=>exact Rep.eW va hs.extBut q
   case own d=>exact⟨Rep.odd tL RM hs.extBut q.1 va,q.2⟩
  have xw:gX C (FW ag sc) s {s with heap:=h',toks:=t}:=gX.same hs.extBut hfw (f.dF i.bs a hfw) Dg (fun o' vs y t e1 e2=>by replace e1:=tL.symm.trans e1;obtain rfl:=XT e1;exact(RM.GX vs e2).elim)
  have ZaI:∀y c,ag.cells.lookup y=XU c->∃w,h'.IsCell c w:=fun y c hc=>by
   refine aM (i.cells y c hc) fun w hw=>?_;by_cases q:c=a
   ·cases q;exact Zar ⟨w,hw⟩
   ·exact⟨w,hw.sameBut hs q⟩
  refine hQ _ xw ⟨xw.bs i.bs f.new,i.vo.same hs hex,fun y Pn hy=>?_,ZaI⟩ Zaj Hu Mi
  simp only[YT]at hy
  cases T6:y==x with
  |true=>simp only[T6]at hy;obtain rfl:=XT hy;refine xR (beq_iff_eq.mp T6) ?_;exact⟨v,Mi,sr r⟩
  |false=>simp only[T6]at hy;refine aE (i.lo y Pn hy) fun w hw hr=>?_;exact⟨w,Hu y w (by intro q;cases q;simp at T6) hw,sr hr⟩
 refine XR hk (fun hk=>?_) fun hk=>?_
 ·refine aM f.ns fun m hm=>?_;have HC:=e.loc x hk;refine ao <|wpAny_storeName_local HC hm (fun h' hn hs=>?_) (by refine xR e.kind ?_;rfl);refine qV (id hm) fun oa es ep tL BM hra=>?_;refine Qh ag.locals oa h' _ tL (.inl ⟨_,_,BM⟩) (.inl rfl) hs (jX hn fun o es ep ho y=>⟨o,ho⟩) (fun y w hy hw=>?_) ⟨hd1,hd2,.inl ⟨HC,_,hn,by simp⟩⟩ ⟨⟨_,hn⟩,f.vl,f.fl,fun y c h1 h2=>?_⟩ (fun⟨w,o,q3,q4⟩=>by replace q3:=tL.symm.trans q3;obtain rfl:=XT q3;replace q4:=BM.symm.trans q4;rcases q4 with⟨⟩) (fun z=>let⟨o,es,ep,ho,hd,_⟩:=hn;⟨o,es,ep,ho,hd⟩)
  ·refine bH hw fun a1 a2 a3=>?_;refine⟨a1,a2,?_⟩;refine XR a3 (fun y0=>?_) fun y1=>?_
   ·obtain⟨b1,m2,b2,b3⟩:=y0;have:=Ns.unique hm b2;cases this;exact .inl ⟨b1,_,hn,by refine xR (V6 hy) ?_;exact b3⟩
   ·obtain⟨b1,c,b2,o,b3,b4⟩:=y1;refine .inr ⟨b1,c,b2,o,(hs.2 c fun q=>?_).trans b3,b4⟩;cases q;replace b3:=tL.symm.trans b3;obtain rfl:=XT b3;replace b4:=BM.symm.trans b4;rcases b4 with⟨⟩
  ·obtain⟨q1,q2,w,o,q3,q4⟩:=f.cell y c h1 h2;refine⟨q1,q2,w,o,(hs.2 c fun q=>?_).trans q3,q4⟩;cases q;replace q3:=tL.symm.trans q3;obtain rfl:=XT q3;replace q4:=BM.symm.trans q4;rcases q4 with⟨⟩
 ·have Ob:=e.cel x hk;refine aM (e.cells x (.inl hk)) fun c hc=>?_;refine ZU fun hG=>?_;obtain⟨vc,fc,Za3,Me⟩:=f.cell x c hk hc;refine hG ?_;refine ao <|wpAny_storeName_cell e.kind Ob hc Me fun h' hv hs=>?_;refine aE (id Me) fun oa tL BM=>?_;have ht:({s with heap:=h'}:WV)={s with heap:=h',toks:=s.toks}:=rfl;refine xR ht ?_;refine Qh c oa h' _ tL (.inr ⟨_,BM⟩) (.inr ⟨x,hk,hc⟩) hs (aE hv fun o ho y=>⟨o,ho⟩) (fun y w hy hw=>?_) ⟨hd1,hd2,.inr ⟨.inl Ob,c,hc,hv⟩⟩ ⟨?_,f.vl,f.fl,fun y c' h1 h2=>?_⟩ (fun z=>⟨_,hv⟩) (fun q=>(i.bs.dT tL (by refine xR BM ?_;nofun) q).elim)
  ·refine bH hw fun a1 a2 a3=>?_;refine⟨a1,a2,?_⟩;refine XR a3 (fun y0=>?_) fun y2=>?_
   ·obtain⟨b1,m2,y1,b5⟩:=y0;refine qV y1 fun o es ep b2 b3 b4=>?_;refine .inl ⟨b1,m2,⟨o,es,ep,(hs.2 _ fun q=>?_).trans b2,b3,b4⟩,b5⟩;simp only[q,tL]at b2;obtain rfl:=XT b2;replace b3:=BM.symm.trans b3;rcases b3 with⟨⟩
   ·obtain⟨b1,c',b2,o,b3,b4⟩:=y2;refine .inr ⟨b1,c',b2,o,(hs.2 c' fun q=>?_).trans b3,b4⟩;cases q;exact hy (e.inj y x _ b2 hc)
  ·refine ke f.ns fun m o es ep b2 b3 b4=>?_;refine⟨m,o,es,ep,(hs.2 _ fun q=>?_).trans b2,b3,b4⟩;simp only[q,tL]at b2;obtain rfl:=XT b2;replace b3:=BM.symm.trans b3;rcases b3 with⟨⟩
  ·obtain⟨q1,q2,w,o,q3,q4⟩:=f.cell y c' h1 h2;by_cases q:c'=c
   ·cases q;exact⟨q1,q2,_,hv⟩
   ·exact⟨q1,q2,w,o,(hs.2 c' q).trans q3,q4⟩
theorem Le:∀{ds:List Dat}{s:WV},It s.heap ak W I ds->∀{Q:List WJ->WV->Prop},(∀vs h' tk,aK h' ak vs ds->It h' ak W I []->Xn I s.heap h'->Q vs {s with heap:=h',toks:=tk})->aV (Wu pw Wd) A (draw (.ref I) ds.length) Q E s:=by intro ds;induction ds with|nil=>intro s x Q hQ;exact aj (hQ [] s.heap s.toks .nil x (.refl I _))|cons d ds ih=>intro s x Q hQ;refine ab (x.next fun v h' tk r x' hs=>?_);refine eB x'.iE fun oI ly qu y=>?_;refine ab (aA (ih x' fun vs h2 tk2 rs x2 C8=>aj (hQ _ h2 tk2 (.cons (r.extBut ly qu C8.extBut) rs) x2 (hs.trans C8))))
theorem lh (ho:s.heap.get? a=XU o)(hc:o.cls=.type T):s.TypeIs (.ref a) T:=⟨o,ho,hc⟩
theorem gj {v:WJ}{T id:String}(hT:s.TypeIs v T)(hl:typeLookup (.type T) "__iter__"=pure (XU (.builtin id))){Q:Bool->WV->Prop}(h:Q false s):aV (Wu pw Wd) A (notIterableAtAll v) Q E s:=by unfold notIterableAtAll;refine ab (ao <|V9 hT hl ?_);exact aj h
theorem qZ (hd:d=.list ds\/d=.tuple ds)(hA:A.handled=XW)(r:Rep s.heap ak v d){Q:List WJ->WV->Prop}(hQ:∀vs h' tk,aK h' ak vs ds->(∀b o,s.heap.get? b=XU o->h'.get? b=XU o)->Q vs {s with heap:=h',toks:=tk}):aV (Wu pw Wd) A (unpackItems v ds.length XW) Q E s:=by
 revert d hd hA r hQ;refine no_implicit_lambda% (MY (bL (bL (bL pQ VV) (bL pR VV)) VV) ?_ s () A ds ak E v Q);generalize gB _ _=tt;dsimp only[K8];generalize tt.1.1.1=s,tt.1.2.1=A,tt.1.2.2=ds,tt.2.1.1=ak,tt.2.1.2=E,tt.2.2.1=v,tt.2.2.2=Q;intro d hd hA r hQ;unfold unpackItems;have hit:bM d=XU ds:=by rcases hd with rfl|rfl<;>rfl
 have hni:∀{Q':Bool->WV->Prop},Q' false s->aV (Wu pw Wd) A (notIterableAtAll v) Q' E s:=by
  intro Q' h;refine XR hd (fun y0=>?_) fun y1=>?_
  ·obtain rfl:=y0;cases r with|list hv ho hc hn hd hr=>exact gj (lh ho hc) slot_list_iter.lookup h
  ·obtain rfl:=y1;cases r with|tuple hv ho hc hd hr=>exact gj (lh ho hc) F.slot_tuple_iter.lookup h
 refine ab (hni ?_);refine ab (aA (qM (.rep r) hit (fun y h=>h.elim) (fun y y h=>h) fun I h' hI hk x=>?_));refine eB x.iE fun oI ly qu y=>?_;refine ab (aA (Le x fun vs h2 tk rs x2 hs=>?_));refine xR (V6 (by rw[rs.length];exact bq 0x31 rfl)) ?_;refine eB x2.iE fun oI2 Zac Zas y=>?_;refine ab (aA (x2.done hA fun h3 he=>?_));refine aj (hQ vs h3 tk (rs.extBut Zac Zas he) fun b o e=>?_);have hb:b≠I:=fun q=>by cases q;replace e:=hI.symm.trans e;exact aa e
 exact he b o hb ((hs.2 b hb).trans (hk b o e))
set_option tactic.hygienic true in
theorem dr (hb:il sc ts ds ae=XU bl):(ts=[]/\ds=[]/\bl=ae)\/∃x p I7 d jV cC,ts=.Name x p::I7/\ds=d::jV/\b8 sc x (.val d) ae=XU cC/\il sc I7 jV cC=XU bl:=by
 rcases ts with⟨⟩;case nil=>cases ds with
  |nil=>exact .inl ⟨rfl,rfl,(XT hb).symm⟩|cons d ds=>exact aa hb
 case cons t ts=>cases ds with
  |nil=>exact aa hb|cons d ds=>exact au hb fun x h1 hb=>au hb fun cC h2 hb=>(gg h1).elim fun p e=>.inr ⟨x,p,ts,d,ds,cC,e▸rfl,rfl,h2,hb⟩
set_option tactic.hygienic true in
theorem Ah (e:bh ag sc):∀(k:Nat){ts:List Expr}{ds:List Dat}{vs:List WJ}{ae:az}{s:WV},ts.length=k->In C ak ag ae s->pF C s.heap ak ag sc->il sc ts ds ae=XU bl->aK s.heap ak vs ds->∀{Q:Unit->WV->Prop},(∀s',gX C (FW ag sc) s s'->In C ak ag bl s'->pF C s'.heap ak ag sc->(∀y w,(∀t∈ts,∀x p,t=.Name x p->y≠x)->fq s.heap ag y w->fq s'.heap ag y w)->Q () s')->aV (Wu pw Wd) A (assignInOrder ((assignEach ts ag).map (·.2)) vs) Q E s:=by
 intro k;induction k with
 |zero=>
  intro ts ds vs ae s hk i f hb rs Q hQ;refine XR (dr hb) (fun y0=>?_) fun y1=>?_
  ·refine bH y0 ?_;rintro(rfl) (rfl) (rfl);rcases rs with⟨⟩;exact aj (hQ s (.refl s) i f fun z z z h=>h)
  ·refine yd y1 ?_;rintro x p I7 d jV cC (rfl) _;(rcases hk with⟨⟩)
 |succ k ih=>
  intro ts ds vs ae s hk i f hb rs Q hQ;refine XR (dr hb) (fun y0=>?_) fun y1=>?_
  ·refine bH y0 ?_;rintro(rfl) (rfl) (rfl);rcases hk with⟨⟩
  ·refine yd y1 ?_;rintro x p I7 d jV cC (rfl) y2;(refine bH y2 ?_;rintro(rfl) Df KD);cases rs with|cons r rs=>rename_i v vs;refine ab (aA ?_);refine ab (aw (nh e i f Df r fun s1 x1 i1 f1 g1 z=>?_));refine ih (by simpa using hk) i1 f1 KD (rs.mono fun b o e' n=>⟨x1.keep b o e' (fun t=>n (i.vo.tabs b t)) (fun t=>n (i.vo.fZ b t)) fun w=>n (f.DN b w),n⟩) fun s2 x2 i2 f2 g2=>hQ s2 (x1.trans x2) i2 f2 fun y w hy hw=>g2 y w (fun t ht=>hy t (YK _ ht)) (g1 y w (hy _ YJ x p rfl) hw)
theorem pz (ag:Env):∀(k:Nat){ts:List Expr}{ds:List Dat}{ae:az},ts.length=k->il sc ts ds ae=XU bl->(assignEach ts ag).length=ds.length/\(assignEach ts ag).findIdx? (·.1)=XW:=by
 intro k;induction k with
 |zero=>
  intro ts ds ae hk hb;refine XR (dr hb) (fun y0=>?_) fun y1=>?_
  ·refine bH y0 ?_;rintro(rfl) (rfl) (rfl);exact⟨rfl,rfl⟩
  ·refine yd y1 ?_;rintro x p I7 d jV cC (rfl) _;(rcases hk with⟨⟩)
 |succ k ih=>
  intro ts ds ae hk hb;refine XR (dr hb) (fun y0=>?_) fun y1=>?_
  ·refine bH y0 ?_;rintro(rfl) (rfl) (rfl);rcases hk with⟨⟩
  ·refine yd y1 ?_;rintro x p I7 d jV cC (rfl) y2;(refine bH y2 ?_;rintro(rfl) Df KD);have:=ih (by simpa using hk) KD;refine⟨V4 (·+1) this.1,?_⟩;refine xR List.findIdx?_cons ?_;simp[this.2]
theorem kZ (hb:bJ sc t d ae=XU bl):(∃x p,t=.Name x p/\b8 sc x (.val d) ae=XU bl)\/∃ts k p ds,t=.Tuple ts k p/\(d=.list ds\/d=.tuple ds)/\il sc ts ds ae=XU bl:=by unfold bJ at hb;cases hn:asName t with|some x=>rw[hn]at hb;refine aM (gg hn) fun p e=>?_;exact .inl ⟨x,p,e,hb⟩|none=>rw[hn]at hb;exact au hb fun ts h1 hb=>au hb fun ds h2 hb=>(E8 h1).elim fun k e=>e.elim fun p e=>.inr ⟨ts,k,p,ds,e,BA h2,hb⟩
noncomputable def NotIn (y:WS):Expr->Prop| .Name x _=>y≠x| .Tuple ts _ _=>∀t∈ts,∀x p,t=.Name x p->y≠x|_=>True
theorem vI (hA:A.handled=XW)(e:bh ag sc)(i:In C ak ag ae s)(f:pF C s.heap ak ag sc)(hb:bJ sc t d ae=XU bl)(r:Rep s.heap ak v d){Q:Unit->WV->Prop}(hQ:∀s',gX C (FW ag sc) s s'->In C ak ag bl s'->pF C s'.heap ak ag sc->(∀y w,NotIn y t->fq s.heap ag y w->fq s'.heap ag y w)->Q () s'):aV (Wu pw Wd) A (assign t ag v) Q E s:=by
 refine XR (kZ hb) (fun y0=>?_) fun y1=>?_
 ·refine fE y0 ?_;rintro x p (rfl) hb;show aV _ A (standAt p>>=fun z=>bindName ag x v) _ E s;exact ab (aw (nh e i f hb r fun s1 x1 i1 f1 g1 z=>hQ s1 x1 i1 f1 g1))
 ·refine ke y1 ?_;rintro ts k p ds (rfl) hd hb;refine aZ (pz ag _ rfl hb) fun q1 q2=>?_;simp only[arm_assign_Tuple];refine ab (aw ?_);unfold unpack;refine xR q1 (xR q2 ?_);refine ab (aA (qZ hd hA r fun vs h' tk rs hk=>?_));have x1:Ex C s {s with heap:=h',toks:=tk}:=.of_keep hk rfl rfl;exact Ah e _ rfl (i.ex x1) (f.ex i.bs x1) hb rs fun s2 x2 i2 f2 g2=>hQ s2 (x1.M8.trans x2) i2 f2 fun y w hy hw=>g2 y w hy (hw.ex i.bs x1)
set_option tactic.hygienic true in
theorem It.letGo (x:It s.heap ak W I ds){Q:Unit->WV->Prop}(hQ:Q () s):aV (Wu pw Wd) A (letOwnedTupleGo t (.ref I) v) Q E s:=by
 have key:∀(o:Obj)(T:String)(vs:Array WJ),s.heap.get? I=XU o->o.cls=.type T->o.data=.fields vs->(["enumerate","zip","dict_itemiterator","dict_reverseitemiterator","odict_iterator","itertools.zip_longest","itertools.pairwise"].contains T)=false->aV (Wu pw Wd) A (letOwnedTupleGo t (.ref I) v) Q E s:=by
  intro o T vs ho hc hd hn
  have k2:aV (Wu pw Wd) A (letOwnedTupleGo (.List [] default) (.ref I) v) Q E s:=by
   rcases v with⟨⟩;case ref a=>refine ab (ao <|Wf ho ?_);refine xR hc (xR hd ?_);dsimp only;exact hn▸aj hQ
   all_goals (exact aj hQ)
  rcases t with⟨⟩
  case Tuple a b c=>exact k2
  case List a b=>exact k2
  all_goals (exact aj hQ)
 cases x with|list hi=>refine eB hi fun o ho hc hd=>?_;exact key o _ _ ho hc hd (by decide)|tuple hi=>refine eB hi fun o ho hc hd=>?_;exact key o _ _ ho hc hd (by decide)|range hi=>exact key _ _ _ hi rfl rfl (by decide)|str hi=>refine eB hi fun o ho hc hd=>?_;exact key o _ _ ho hc hd (by decide)|bytes hi=>refine eB hi fun o ho hc hd=>?_;exact key o _ _ ho hc hd (by decide)
noncomputable def f7 (elt:Expr)(gens:List Xw)(scope:WY)(pos:Pos)(depth:Nat)(it aR:WJ)(ag:Env):WX Xr:=match gens[depth+1]? with
 |some g'=>do
  let x <-eval g'.iter ag;standAt g'.iter.pos;if(g'.is_async !=0)=true then do
   let x <-foldedIterable g'.iter x;let y <-holding [x] (if(g'.is_async !=0)=true then asyncIter x else pyIter x);let _ <-runOwn (.compStart (.ListComp elt gens scope pos) (depth+1) y aR ag) ag;again (.compLoop (.ListComp elt gens scope pos) depth it aR ag)
  else do
   let x <-foldedSetIterable g'.iter ag x;let y <-holding [x] (if(g'.is_async !=0)=true then asyncIter x else pyIter x);let _ <-runOwn (.compStart (.ListComp elt gens scope pos) (depth+1) y aR ag) ag;again (.compLoop (.ListComp elt gens scope pos) depth it aR ag)
 |none=>(eval elt ag>>=fun y=>call (.builtin "list.append") [aR,y]>>=fun z=>pure ())>>=fun z=>again (.compLoop (.ListComp elt gens scope pos) depth it aR ag)
set_option tactic.hygienic true in
theorem qc (elt:Expr)(gens:List Xw)(scope:WY)(pos:Pos)(depth:Nat)(t itE:Expr)(ifs:List Expr)(it aR:WJ)(ag:Env)(hg:gens[depth]?=XU ⟨t,itE,ifs,0⟩):compTurn (.ListComp elt gens scope pos) depth it aR ag=(standAt itE.pos>>=fun x=>pyNext it>>=fun r=>match r with
   |none=>pure (.done .next)|some v=>letOwnedTupleGo t it v>>=fun x=>assign t ag v>>=fun x=>(forIn ifs true fun c r=>if r=true then do let ok <-isTrue c ag (eval c ag);pure (ZT ok)else pure (ZT r))>>=fun ok=>if ok=true then f7 elt gens scope pos depth it aR ag else again (.compLoop (.ListComp elt gens scope pos) depth it aR ag)):=by
 delta compTurn
 simp only[hg,bne_self_eq_false,ZY,if_false]
 delta f7
 refine V4 _ (funext fun x=>V4 _ (funext fun r=>?_))
 rcases r with⟨⟩
 case none=>rfl
 case some v=>
  refine V4 (WX.bind _) (funext fun x=>V4 (WX.bind _) (funext fun x=>V4 (WX.bind _) (funext fun ok=>?_)));rcases ok with⟨⟩;case false=>rfl
  case true=>cases gens[depth+1]? with|none=>rfl|some g'=>rfl
def LstAt (h:Xp)(D:XO)(vs:List WJ):Prop:=∃o n,h.get? D=XU o/\o.cls=.type "list"/\o.dict=XW/\o.data=.seq vs.toArray n
theorem LstAt.isList (x:LstAt h D vs):h.IsList D vs.toArray:=let⟨o,n,ho,hc,_,hd⟩:=x;⟨o,ho,hc,n,hd⟩
theorem LstAt.keep (x:LstAt h D vs)(hk:∀o,h.get? D=XU o->h'.get? D=XU o):LstAt h' D vs:=let⟨o,n,ho,r⟩:=x;⟨o,n,hk o ho,r⟩
theorem bK (h:k<=aW):k<=sizeLine:=Yg h (by decide)
theorem FI (hl:LstAt s.heap D vs)(hf:f vs.toArray=us.toArray)(hvs:vs.length<=aW)(hsz:us.length<=aW){α:Type}{k:Unit->WX α}{Q:α->WV->Prop}(hQ:∀h',LstAt h' D us->Xn D s.heap h'->Wn (Wu pw Wd) A (k ()) Q E {s with heap:=h'}):Wn (Wu pw Wd) A (updateSeq D f>>=k) Q E s:=by
 refine mi hl fun o n ho hc hn hd=>?_;refine aM (Obj.data_mapSeq hd f) fun n' cU=>?_;refine Wk (wpAny_updateSeq ho hd (hQ _ ?_ (Xm ..)) (hz:=by refine xR Yo ?_;exact bK hvs) (_hz':=by refine xR hf (xR Yo ?_);have:=bK hsz;exact aT 0x91b011012 rfl this))
 ·refine⟨_,n',Xi _ ho (Obj.isFreed_of_seq cU),(Obj.cls_mapSeq ..).trans hc,?_,by exact xR cU (xR hf rfl)⟩;obtain⟨c,d,dt,sl⟩:=o;subst hn hd;rfl
theorem vK {x:WJ}(hl:LstAt s.heap D vs)(hsz:vs.length+1<=aW)(hQ:∀h',LstAt h' D (vs++[x])->Xn D s.heap h'->Q .none {s with heap:=h'}):aV (Wu pw Wd) A (WA (.builtin "list.append") [.ref D,x]) Q E s:=by refine ao <|Wh slot_list_append hl.isList.typeIs entry_list_append ?_ (args_list_append _ _);exact FI hl (by simp) (aT 0x101190b12 rfl hsz) (by simpa using hsz) fun h' h1 h2=>Wa ⟨.none,rfl,hQ h' h1 h2⟩
def CW (D:XO)(ag:Env)(sc:WY)(a:XO):Prop:=a=D\/FW ag sc a
structure oA (C:Cx) (ak:XO->Prop) (ag:Env) (sc:WY) (ae:az) (D:XO) (s:WV) (vs:List WJ) (aR:List Dat):Prop where
 bV:In C ak ag ae s
 j0:pF C s.heap ak ag sc
 at_:LstAt s.heap D vs
 yL:aK s.heap ak vs aR
structure pG (C:Cx) (ak:XO->Prop) (ag:Env) (sc:WY) (D:XO) (A:XN):Prop where
 Uv:bh ag sc
 vD:ak D
 fD:C.h₀.get? D=XW
 dL:D+1=ag.locals
 hA:A.handled=XW
theorem pG.cw (x:pG C ak ag sc D A)(f:pF C s.heap ak ag sc)(a:XO)(h:CW D ag sc a):ak a:=by
 refine XR h (fun y0=>?_) fun h=>?_
 ·obtain rfl:=y0;exact x.vD
 ·exact f.DN a h
theorem pG.new (x:pG C ak ag sc D A)(f:pF C s.heap ak ag sc)(a:XO)(h:CW D ag sc a):C.h₀.get? a=XW:=by
 refine XR h (fun y0=>?_) fun h=>?_
 ·obtain rfl:=y0;exact x.fD
 ·exact f.new a h
theorem zg {α β:Type}{f:α->Option (List β)}{a:α}{as:List α}{out:List β}(h:cZ f (a::as)=XU out):∃b c,f a=XU b/\cZ f as=XU c/\out=b++c:=au h fun b h1 h=>au h fun c h2 h=>⟨b,c,h1,h2,(XT h).symm⟩
theorem aK.exw (V:bw C ak s)(hw:∀a,W a->ak a)(x:gX C W s s')(r:aK s.heap ak vs ds):aK s'.heap ak vs ds:=r.mono fun b o e n=>⟨x.keep b o e (fun t=>n (V.tabs b t)) (fun t=>n (V.fZ b t)) fun w=>n (hw b w),n⟩
set_option tactic.hygienic true in
theorem In.iter {t:Nat}(i:In C ak ag ae s)(ly:s.heap.get? I=XU oI)(qu:¬ir oI.cls)(Fq:∀es n,oI.data≠.dict es n)(oZ:∀c,oI.data≠.cell c)(hs:Xo I s.heap h')(hv:¬ak I)(Ly:Bs C {s with heap:=h',toks:=t}):In C ak ag ae {s with heap:=h',toks:=t}:=by
 refine⟨Ly,⟨i.vo.tabs,i.vo.fZ,fun a ha=>?_⟩,fun y sl hy=>?_,fun y c hc=>?_⟩;rotate_right
 ·refine fE (i.cells y c hc) fun w o b3 b4=>?_;exact⟨w,o,hs _ _ (fun q=>by simp only[q,ly]at b3;obtain rfl:=XT b3;exact oZ _ b4) b3,b4⟩
 ·refine aM (i.vo.there a ha) fun o e=>?_;exact⟨o,hs a o (fun q=>hv (q▸ha)) e⟩
 ·refine aE (i.lo y sl hy) fun w hw hr=>?_;refine⟨w,hw.keep (fun o e hd=>.of (hs _ _ (iJ (P:=fun o=>∃es n,o.data=.dict es n) e ly hd fun⟨_,_,q⟩=>Fq _ _ q) e)) fun b o c e hd=>hs _ _ (iJ (P:=fun o=>∃c,o.data=.cell c) e ly ⟨c,hd⟩ fun⟨_,q⟩=>oZ _ q) e,?_⟩
  ·have ro:∀{d:Dat},bt s.heap ak w d->bt h' ak w d:=by
    intro d r;rcases r with⟨⟩;case rep r=>exact .rep (r.extBut ly qu hs)
    case list h1 hc hn hd sm=>exact .list (hs _ _ (fun q=>by simp only[q,ly]at h1;obtain rfl:=XT h1;exact qu (.inr (.inl hc))) h1) hc hn hd (sm.extBut ly qu hs)
    case bz h1 hc hd=>exact .bz (hs _ _ (fun q=>by replace h1:=ly▸q▸h1;obtain rfl:=XT h1;exact qu (.inr (.inr (.inr hc)))) h1) hc hd
   rcases sl with⟨⟩;case val d=>exact Rep.extBut ly qu hs hr
   case own d=>exact⟨ro hr.1,hr.2⟩
theorem qd {elt:Expr}{gens:List Xw}{pos:Pos}{depth:Nat}{itE:Expr}{ifs:List Expr}{D I:XO}(hg:gens[depth]?=XU ⟨t,itE,ifs,0⟩)(fx:pG C ak ag sc D A)(f:Dat->Option (List Dat)){xZ:WY}(hI:C.h₀.get? I=XW)(HN:¬C.T I)(BN:¬ak I)(step:∀(d:Dat)(out aR:List Dat)(vs:List WJ)(v:WJ)(s:WV),oA C ak ag sc ae D s vs aR->f d=XU out->aR.length+out.length<=aW->Rep s.heap ak v d->∀(Q:Xr->WV->Prop)(E:WJ->WV->Prop),(∀s' mj,gX C (CW D ag sc) s s'->oA C ak ag sc ae D s' mj (aR++out)->Q (.again (.compLoop (.ListComp elt gens xZ pos) depth (.ref I) (.ref D) ag)) s')->aV (Wu pw Wd) A (assign t ag v>>=fun y=>(forIn ifs true fun c r=>if r=true then do let ok <-isTrue c ag (eval c ag);pure (ZT ok)else pure (ZT r))>>=fun ok=>if ok=true then f7 elt gens xZ pos depth (.ref I) (.ref D) ag else again (.compLoop (.ListComp elt gens xZ pos) depth (.ref I) (.ref D) ag)) Q E s){R:WZ->WV->Prop}:∀(ds out aR:List Dat)(vs:List WJ)(s:WV),It s.heap ak (fun a=>CW D ag sc a\/C.T a\/C.fr a) I ds->oA C ak ag sc ae D s vs aR->cZ f ds=XU out->aR.length+out.length<=aW->(∀s' mj,gX C (fun a=>CW D ag sc a\/a=I) s s'->oA C ak ag sc ae D s' mj (aR++out)->R (.ok .next) s')->cy (Wu pw Wd) A (.compLoop (.ListComp elt gens xZ pos) depth (.ref I) (.ref D) ag) R s:=by
 revert t itE ifs hg fx f hI HN BN step R;refine no_implicit_lambda% (mX (bL (bL (bL (bL ya pR) VV) VV) VV) ?_ C A ag D sc ak I ae elt gens xZ pos depth);generalize gB _ _=tt;dsimp only[As];generalize tt.1.1.1.1=C,tt.1.1.1.2=A,tt.1.1.2.1=ag,tt.1.1.2.2=D,tt.1.2.1.1=sc,tt.1.2.1.2=ak,tt.1.2.2=I,tt.2.1.1.1=ae,tt.2.1.1.2=elt,tt.2.1.2=gens,tt.2.2.1.1=xZ,tt.2.2.1.2=pos,tt.2.2.2=depth;intro t itE ifs hg fx f hI HN BN step R;intro ds;induction ds with
 |nil=>
  intro out aR vs s x st hm hl hR;obtain rfl:=XT hm;refine ye x.iE fun oI ly qu Mk Fq oZ=>?_;refine bj ?_ rfl;show aV _ A ((compTurn (.ListComp elt gens xZ pos) depth (.ref I) (.ref D) ag).onRaise (fun x=>do noteFrame x ag;theTreesLotGoes x)) _ _ s;refine eC ?_;refine xR (qc _ _ _ _ _ _ _ _ _ _ _ hg) ?_;refine ab (aw (ab (x.done fx.hA fun h' he=>aj ?_)));have ht:({s with heap:=h'}:WV)={s with heap:=h',toks:=s.toks}:=rfl;have xw:gX C (fun a=>CW D ag sc a\/a=I) s {s with heap:=h',toks:=s.toks}:=gX.same he (.inr rfl) HN (fun q=>(BN (st.bV.vo.fZ _ q)).elim) x.CX;simp only[ht];refine hR _ vs xw ?_;refine xR (ZF _) ?_;have nD:D≠I:=fun q=>by refine mi st.at_ fun o n ho hc y hd=>?_;rw[q,ly]at ho;obtain rfl:=XT ho;exact Mk _ _ hd
  have Ly:=xw.bs st.bV.bs fun a q=>by
   refine XR q (fun q=>?_) fun y0=>?_
   ·exact fx.new st.j0 a q
   ·obtain rfl:=y0;exact hI
  exact⟨st.bV.iter ly qu Fq oZ he BN Ly,st.j0.keep fun b o e w=>.of (he b o (fun q=>BN (q▸st.j0.DN b w)) e),st.at_.keep fun o e=>he _ _ nD e,st.yL.extBut ly qu he⟩
 |cons d ds ih=>
  intro out aR vs s x st hm hl hR;refine eH (zg hm) ?_;rintro o1 o2 BJ hm2 (rfl);refine ye x.iE fun oI ly qu Mk Fq oZ=>?_;have nD:D≠I:=fun q=>by refine mi st.at_ fun o n ho hc y hd=>?_;rw[q,ly]at ho;obtain rfl:=XT ho;exact Mk _ _ hd
  refine bj ?_ rfl;show aV _ A ((compTurn (.ListComp elt gens xZ pos) depth (.ref I) (.ref D) ag).onRaise (fun x=>do noteFrame x ag;theTreesLotGoes x)) _ _ s;refine eC ?_;refine xR (qc _ _ _ _ _ _ _ _ _ _ _ hg) ?_;refine ab (aw (ab (x.next fun v h1 tk r x1 lJ=>?_)));have xw1:gX C (fun a=>CW D ag sc a\/a=I) s {s with heap:=h1,toks:=tk}:=gX.same lJ.extBut (.inr rfl) HN (fun q=>(BN (st.bV.vo.fZ _ q)).elim) x.CX;have Ar:=xw1.bs st.bV.bs fun a q=>by
   refine XR q (fun q=>?_) fun y0=>?_
   ·exact fx.new st.j0 a q
   ·obtain rfl:=y0;exact hI
  have LW:oA C ak ag sc ae D {s with heap:=h1,toks:=tk} vs aR:=⟨st.bV.iter ly qu Fq oZ lJ.extBut BN Ar,st.j0.keep fun b o e w=>.of (lJ.extBut b o (fun q=>BN (q▸st.j0.DN b w)) e),st.at_.keep fun o e=>lJ.extBut _ _ nD e,st.yL.extBut ly qu lJ.extBut⟩;refine ab (x1.letGo ?_);rw[Y9]at hl;refine step d o1 aR vs v _ LW BJ (cX 0x310b1321b0b12 rfl hl) r _ _ fun s2 vs2 UJ Nc=>?_;have x2:=x1.mono (fun b o e w=>UJ.keep b o e (fun t=>w (.inr (.inl t))) (fun t=>w (.inr (.inr t))) fun q=>w (.inl q)) fun rs=>rs.exw LW.bV.vo (fx.cw LW.j0) UJ;refine⟨rfl,ih o2 (aR++o1) vs2 s2 x2 Nc hm2 (by refine xR Y9 ?_;exact cX 0x3210bb1321b0b12 rfl hl) fun s3 vs3 xw3 jY=>?_⟩;refine hR s3 vs3 ((xw1.trans (UJ.mono fun a q=>.inl q)).trans xw3) ?_;rw[<-ZG];exact jY
noncomputable def gJ (ag:Env):List (WS×Xa)->List (WS×XO)->List (WS×XO)|[],aR=>aR|(x,k)::r,aR=>gJ ag r (if k== .free then(x,(ag.cells.lookup x).getD 0)::aR else aR)
theorem Cd {k:Xa}{r:List (WS×Xa)}{aR:List (WS×XO)}:gJ ag ((x,k)::r) aR=gJ ag r (if k== .free then(x,(ag.cells.lookup x).getD 0)::aR else aR):=rfl
theorem l9 (h:∀p∈cj.names,p.2=.free->∃c,ag.cells.lookup p.1=XU c):closureFor cj ag=pure (gJ ag cj.names []):=by
 delta closureFor;generalize cj.names=l at *;have key:∀(l:List (WS×Xa))(aR:List (WS×XO)),(∀p∈l,p.2=.free->∃c,ag.cells.lookup p.1=XU c)->(forIn l aR fun(x:WS×Xa)(r:List (WS×XO))=>match x with
    |(name,kind)=>if(kind==W9)=true then do let y <-cellOf ag name;pure (ZT ((name,y)::r))else pure (ZT r))=(pure (gJ ag l aR):WX _):=by
  intro l
  induction l with
  |nil=>intro aR _;rfl
  |cons p l ih=>intro aR hp;obtain⟨x,k⟩:=p;rw[Zq];have hr:=fun p hm=>hp p (YK _ hm);cases hk:(k==W9)with|false=>rw[Cd];simp only[hk,ZY,if_false];exact ih aR hr|true=>refine aM (hp (x,k) YJ (by simpa using hk)) fun c hc=>?_;rw[Cd];simp only[hk,if_true];delta cellOf;refine xR hc ?_;exact ih _ hr
 have:=key l [] h;refine xR (show(do
  let mut cs:List (WS×XO):=[];for (name,kind)in l do
   if(kind==W9)=true then cs:=(name,<-cellOf ag name)::cs
  return cs:WX _)=((forIn l ([]:List (WS×XO)) fun(x:WS×Xa)(r:List (WS×XO))=>match x with
    |(name,kind)=>if(kind==W9)=true then do let y <-cellOf ag name;pure (ZT ((name,y)::r))else pure (ZT r))>>=fun r=>pure r)from rfl) (xR this ?_)
 rfl
theorem jh:∀{l:List (WS×Xa)}{aR:List (WS×XO)},(∀p∈l,p.2=.free->∃c,ag.cells.lookup p.1=XU c)->∀{x:WS}{c:XO},(x,c)∈gJ ag l aR->(x,c)∈aR\/ag.cells.lookup x=XU c
 |[],_,_,_,_,h=>.inl h
 |(y,k)::r,aR,hp,x,c,h=>by
  refine XR (jh (fun p hm=>hp p (YK _ hm)) h) (fun h=>?_) fun h=>?_
  ·split at h
   ·rename_i hk;refine XR (YL.mp h) (fun e=>?_) fun h=>?_
    ·rcases e with⟨⟩;refine aM (hp (y,k) YJ (by simpa using hk)) fun c hc=>?_;refine xR hc ?_;exact .inr rfl
    ·exact .inl h
   ·exact .inl h
  ·exact .inr h
theorem oj:∀{l:List (WS×Xa)}{aR:List (WS×XO)}{x:WS},((x,W9)∈l\/∃c,(x,c)∈aR)->∃c,(x,c)∈gJ ag l aR
 |[],_,_,h=>by
  refine XR h (fun h=>?_) fun h=>?_
  ·rcases h with⟨⟩
  ·exact h
 |(y,k)::r,aR,x,h=>by
  rw[Cd];refine oj ?_;refine XR h (fun h=>?_) fun y0=>?_
  ·refine XR (YL.mp h) (fun e=>?_) fun h=>?_
   ·rcases e with⟨⟩;exact .inr ⟨(ag.cells.lookup y).getD 0,by refine xR (V7 (by decide)) ?_;exact YJ⟩
   ·exact .inl h
  ·refine aM y0 fun c h=>?_;refine .inr ⟨c,?_⟩;split
   ·exact YK _ h
   ·exact h
theorem dZ {α:Type}:∀{l:List (WS×α)}{x:WS}{c:α},(x,c)∈l->∃c',l.lookup x=XU c':=by
 intro l;induction l with
 |nil=>intros;first|contradiction|(rename_i h;cases h)|(rename_i h _;cases h)|(rename_i h;exact nomatch h)
 |cons y0 r ih=>
  intro x c h;obtain⟨y,d⟩:=y0;rw[YT];cases hb:x==y with
  |true=>exact⟨d,rfl⟩
  |false=>
   refine XR (YL.mp h) (fun e=>?_) fun h=>?_
   ·rcases e with⟨⟩;simp at hb
   ·exact ih h
theorem md:∀{l:List (WS×Xa)}{n:Nat}{aR:List (WS×XO)}{x:WS}{c:XO},(x,c)∈cellsFrom n l aR->(x,c)∈aR\/((x,Xa.cell)∈l/\n<=c):=by
 intro l;induction l with
 |nil=>intro _ _ _ _ h;exact .inl h
 |cons y1 r ih=>
  intro n aR x c h;obtain⟨y,k⟩:=y1;unfold cellsFrom at h;split at h
  ·rename_i hk;refine XR (ih h) (fun h=>?_) fun y0=>?_
   ·refine XR (YL.mp h) (fun e=>?_) fun h=>?_
    ·rcases e with⟨⟩;exact .inr ⟨by rw[show k=.cell by simpa using hk];exact YJ,Yh _⟩
    ·exact .inl h
   ·refine aZ y0 fun h1 h2=>?_;exact .inr ⟨YK _ h1,by exact aT 0x101190b12 rfl h2⟩
  ·refine XR (ih h) (fun h=>?_) fun y0=>?_
   ·exact .inl h
   ·refine aZ y0 fun h1 h2=>?_;exact .inr ⟨YK _ h1,h2⟩
theorem eS:∀{l:List (WS×Xa)}{n:Nat}{aR:List (WS×XO)}{x:WS},((x,Xa.cell)∈l\/∃c,(x,c)∈aR)->∃c,(x,c)∈cellsFrom n l aR:=by
 intro l;induction l with
 |nil=>
  intro _ _ _ h;refine XR h (fun h=>?_) fun h=>?_
  ·rcases h with⟨⟩
  ·exact h
 |cons y1 r ih=>
  intro n aR x h;obtain⟨y,k⟩:=y1;unfold cellsFrom;split
  ·refine ih ?_;refine XR h (fun h=>?_) fun y0=>?_
   ·refine XR (YL.mp h) (fun e=>?_) fun h=>?_
    ·rcases e with⟨⟩;exact .inr ⟨n,YJ⟩
    ·exact .inl h
   ·refine aM y0 fun c h=>?_;exact .inr ⟨c,YK _ h⟩
  ·rename_i hk;refine ih ?_;refine XR h (fun h=>?_) fun y0=>?_
   ·refine XR (YL.mp h) (fun e=>?_) fun h=>?_
    ·rcases e with⟨⟩;exact absurd rfl hk
    ·exact .inl h
   ·refine aM y0 fun c h=>?_;exact .inr ⟨c,h⟩
theorem me:∀{l:List (WS×Xa)}{n:Nat}{aR:List (WS×XO)},(∀x c,(x,c)∈aR->c<n)->(∀x y c,(x,c)∈aR->(y,c)∈aR->x=y)->∀{x y:WS}{c:XO},(x,c)∈cellsFrom n l aR->(y,c)∈cellsFrom n l aR->x=y:=by
 intro l;induction l with
 |nil=>intro _ _ _ hi _ _ _ h1 h2;exact hi _ _ _ h1 h2
 |cons y0 r ih=>
  intro n aR jw hi x y c h1 h2;obtain⟨z,k⟩:=y0;unfold cellsFrom at h1 h2;split at h1
  ·rename_i hk;rw[V7 hk]at h2;refine ih (fun a b hm=>?_) (fun a b d ha hb=>?_) h1 h2
   ·refine XR (YL.mp hm) (fun e=>?_) fun hm=>?_
    ·rcases e with⟨⟩;exact Yb _
    ·exact Yc (jw a b hm)
   ·refine XR (YL.mp ha) (fun e=>?_) fun ha=>?_<;>refine XR (YL.mp hb) (fun e'=>?_) fun hb=>?_
    ·rcases e with⟨⟩;rcases e' with⟨⟩;rfl
    ·rcases e with⟨⟩;exact absurd (jw _ _ hb) (Ye _)
    ·rcases e' with⟨⟩;exact absurd (jw _ _ ha) (Ye _)
    ·exact hi _ _ _ ha hb
  ·rename_i hk;rw[V6 hk]at h2;exact ih jw hi h1 h2
theorem wA:∀{l:List (WS×Xa)}{h:Xp}{aR:List (WS×XO)}{x:WS}{c:XO},(x,c)∈cellsFrom h.objs.size l aR->(x,c)∈aR\/(pushCells h l).IsCell c XW:=by
 intro l;induction l with
 |nil=>intro _ _ _ _ h;exact .inl h
 |cons y0 r ih=>
  intro h aR x c hm;obtain⟨y,k⟩:=y0;unfold cellsFrom at hm;unfold pushCells;split at hm
  ·rename_i hk;rw[V7 hk];have e:h.objs.size+1=(h.push {cls:=.type "cell",data:=.cell XW}).objs.size:=(Xg ..).symm;rw[e]at hm;refine XR (ih hm) (fun hm=>?_) fun hm=>?_
   ·refine XR (YL.mp hm) (fun e'=>?_) fun hm=>?_
    ·rcases e' with⟨⟩;exact .inr ⟨_,pushCells_keeps _ _ _ _ (Xk _ rfl),rfl⟩
    ·exact .inl hm
   ·exact .inr hm
  ·rename_i hk;rw[V6 hk];exact ih hm
def ta (ag:Env)(cj:WY)(L:XO):Env:={scope:=relabel cj ag,locals:=L,globals:=ag.globals,cells:=cellsFrom (L+1) cj.names (gJ ag cj.names []),qual:=ag.qual,func:=XW,code:=ag.code,frame:=ag.frame,builtins:=ag.builtins}
theorem Ei {Q:Env->WV->Prop}(hQ:Q {scope:=cj,locals:=s.heap.objs.size,globals:=ag.globals,cells:=cellsFrom (s.heap.objs.size+1) cj.names cl,qual:=ag.qual,func:=XW,code:=ag.code,frame:=ag.frame,builtins:=ag.builtins} {s with heap:=pushCells (s.heap.push {cls:=.type "dict",data:=.dict #[]}) cj.names}):aV (Wu pw Wd) A (newFunctionEnv cj ag.globals cl [] ag.qual XW .none (XU ag)) Q E s:=by
 simp only[newFunctionEnv,Option.isSome_some,if_true]
 refine ab (ao <|wpAny_alloc ?_)
 refine ab (ao <|wpAny_layCells _ (fun name kind cells=>by cases Ob:kind==Xa.cell<;>simp[Ob]) _ _ _ _ ?_)
 refine xR (show({s with heap:=s.heap.push {cls:=.type "dict",data:=.dict #[]}}:WV).heap.objs.size=s.heap.objs.size+1 from Xg ..) ?_
 exact ab (aj (aj hQ))
theorem qm {f:WS->Xa->Xa}:∀{l:List (WS×Xa)}{x:WS},(l.map fun p=>(p.1,f p.1 p.2)).lookup x=(l.lookup x).map (f x):=by
 intro l;induction l with
 |nil=>intro x;exact rfl
 |cons y0 r ih=>intro x;obtain⟨y,k⟩:=y0;rw[YQ,YT,YT];cases hb:x==y with|true=>rw[beq_iff_eq.mp hb];rfl|false=>exact ih
theorem kE {x:WS}:(relabel cj ag).names.lookup x=(cj.names.lookup x).map fun k=>if(k== .free&&ag.scope.kind== .function&&ag.kindOf x==XU .cell)then .cell else k:=by
 have:(relabel cj ag).names=cj.names.map fun p=>(p.1,(fun(n:WS)(k:Xa)=>if(k== .free&&ag.scope.kind== .function&&ag.kindOf n==XU .cell)then Xa.cell else k) p.1 p.2):=by unfold relabel;refine YR fun p y=>?_;obtain⟨n,k⟩:=p;dsimp only;split<;>rfl
 simp only[this,qm (f:=fun(n:WS)(k:Xa)=>if(k== .free&&ag.scope.kind== .function&&ag.kindOf n==XU .cell)then Xa.cell else k)]
theorem eF (h:gH sc cj=true):cj.kind=.function/\(∀p∈cj.names,cj.names.lookup p.1=XU p.2)/\∀p∈cj.names,p.2=.free->sc.names.lookup p.1=XU .cell\/sc.names.lookup p.1=XU .free:=by
 unfold gH at h;simp only[Z6,ZH,V3,ZV,bne_iff_ne,ne_eq]at h;refine⟨h.1.1,h.1.2,fun p hp hf=>?_⟩;rcases h.2 p hp with(q|q)|q
 ·exact absurd hf q
 ·exact .inl q
 ·exact .inr q
theorem ij (e:bh ag sc)(h:gH sc cj=true):∀p∈cj.names,p.2=.free->∃c,ag.cells.lookup p.1=XU c:=fun p hp hf=>e.cells _ ((eF h).2.2 p hp hf)
theorem Ln (e:bh ag sc)(h:gH sc cj=true)(hc:∀x c,ag.cells.lookup x=XU c->c<L):bh (ta ag cj L) cj:=by
 refine bH (eF h) fun h1 h2 h3=>?_;have hf:=ij e h;have qt:∀x c,(x,c)∈gJ ag cj.names []->ag.cells.lookup x=XU c:=fun x c hm=>(jh hf hm).resolve_left nofun;have key:∀x k,cj.names.lookup x=XU k->k≠.free->(ta ag cj L).kindOf x=XU k:=fun x k hx hk=>by show(relabel cj ag).names.lookup x=_;simp only[kE,hx,XX,V6];simp[hk]
 refine⟨h1,e.globals,e.builtins,fun x hx=>key x _ hx (by decide),fun x hx=>key x _ hx (by decide),fun x hx=>key x _ hx (by decide),fun x hx=>?_,fun x hx=>?_,fun x y c hx hy=>?_⟩
 ·show(relabel cj ag).names.lookup x=_\/(relabel cj ag).names.lookup x=_;simp only[kE,hx,XX];split
  ·exact .inl rfl
  ·exact .inr rfl
 ·have hm:∃c,(x,c)∈cellsFrom (L+1) cj.names (gJ ag cj.names []):=by
   refine XR hx (fun hx=>?_) fun hx=>?_
   ·exact eS (.inl (mem_of_lookup hx))
   ·exact eS (.inr (oj (.inl (mem_of_lookup hx))))
  refine aM hm fun c hm=>?_;exact dZ hm
 ·exact me (fun z c hm=>Yc (hc z c (qt z c hm))) (fun a b c ha hb=>e.inj a b c (qt a c ha) (qt b c hb)) (mem_of_lookup hx) (mem_of_lookup hy)
theorem eX {x:WS}{sl:Slot}:∀{ae:az},(b0 cj ae).lookup x=XU sl->ae.lookup x=XU sl/\cj.names.lookup x=XU .free
 |[],h=>aa h
 |(y,t)::r,h=>by
  have ih:= @eX x sl r;unfold b0 at h ih;simp only[Zv]at h;simp only[YT];split at h
  ·rename_i hp;replace h:=YT.symm.trans h;cases hb:x==y with
   |true=>simp only[hb]at h;obtain rfl:=XT h;refine xR (beq_iff_eq.mp hb) ?_;exact⟨rfl,by simpa using hp⟩
   |false=>simp only[hb]at h;exact ih h
  ·rename_i hp;have q:=ih h;cases hb:x==y with|true=>replace q:=(beq_iff_eq.mp hb)▸q;exact absurd (by simpa using q.2) hp|false=>exact q
theorem It.widen (hW:∀a,W' a->W a\/h.get? a=XW)(x:It h ak W I ds):It h ak W' I ds:=by
 have key:∀{a:XO}{o:Obj},h.get? a=XU o->¬W a->¬W' a:=fun e w q=>by
  refine XR (hW _ q) (fun q=>?_) fun q=>?_
  ·exact w q
  ·replace q:=e.symm.trans q;rcases q with⟨⟩
 cases x with|list hi hl hr w1 w2=>refine aE (id hi) fun o ho r=>?_;refine aE (id hl) fun o2 mE r2=>?_;exact .list hi hl hr (key ho w1) (key mE w2)|tuple hi hl hr w1 w2=>refine aE (id hi) fun o ho r=>?_;refine aE (id hl) fun o2 mE r2=>?_;exact .tuple hi hl hr (key ho w1) (key mE w2)|range hi w1=>exact .range hi (key hi w1)|str hi w1=>refine aE (id hi) fun o ho r=>?_;exact .str hi (key ho w1)|bytes hi w1=>refine aE (id hi) fun o ho r=>?_;exact .bytes hi (key ho w1)
set_option tactic.hygienic true in
theorem bt.dF (z:Bs C s)(V:bw C ak s)(r:bt s.heap ak v d)(hd:bM d=XU ds)(ha:v=.ref a):¬C.T a:=by
 rcases r with⟨⟩;case list ho hc hn cU hr=>rcases ha with⟨⟩;exact z.dF ho (by refine xR cU ?_;nofun)
 case bz ho hc cU=>exact aa hd
 case rep r=>
  rcases r with⟨⟩;case list hv ho hc hn cU hr=>rcases ha with⟨⟩;exact fun t=>hv (V.tabs _ t)
  case tuple hv ho hc cU hr=>rcases ha with⟨⟩;exact fun t=>hv (V.tabs _ t)
  case range hv hr=>rcases ha with⟨⟩;exact fun t=>hv (V.tabs _ t)
  case bz hv ho hc cU=>rcases ha with⟨⟩;exact fun t=>hv (V.tabs _ t)
  case top=>exact aa hd
  case typ=>exact aa hd
  all_goals (rcases ha with⟨⟩)
set_option tactic.hygienic true in
theorem bt.tW (z:Bs C s)(V:bw C ak s)(r:bt s.heap ak v d)(hd:bM d=XU ds)(ha:v=.ref a):¬C.fr a:=by
 rcases r with⟨⟩;case list ho hc hn cU hr=>rcases ha with⟨⟩;exact z.dT ho (by refine xR cU ?_;nofun)
 case bz ho hc cU=>exact aa hd
 case rep r=>
  rcases r with⟨⟩;case list hv ho hc hn cU hr=>rcases ha with⟨⟩;exact fun t=>hv (V.fZ _ t)
  case tuple hv ho hc cU hr=>rcases ha with⟨⟩;exact fun t=>hv (V.fZ _ t)
  case range hv hr=>rcases ha with⟨⟩;exact fun t=>hv (V.fZ _ t)
  case bz hv ho hc cU=>rcases ha with⟨⟩;exact fun t=>hv (V.fZ _ t)
  case top=>exact aa hd
  case typ=>exact aa hd
  all_goals (rcases ha with⟨⟩)
def Cx.TF (C:Cx)(a:XO):Prop:=C.T a\/C.fr a
theorem bw.tf (V:bw C ak s)(a:XO)(h:C.TF a):ak a:=h.elim (V.tabs a) (V.fZ a)
theorem bt.L5 (z:Bs C s)(V:bw C ak s)(r:bt s.heap ak v d)(hd:bM d=XU ds)(ha:v=.ref a):¬C.TF a:=fun q=>q.elim (r.dF z V hd ha) (r.tW z V hd ha)
theorem wc (ha:h.objs.size<=a):h.get? a=XW:=by cases e:h.get? a with|none=>rfl|some o=>exact absurd (Xh e) (Nat.not_lt.mpr ha)
theorem Lq (hf:∀p∈cj.names,p.2=.free->∃c,ag.cells.lookup p.1=XU c)(h2:∀p∈cj.names,cj.names.lookup p.1=XU p.2)(h:FW (ta ag cj L) cj a):L<=a:=by
 refine XR h (fun h=>?_) fun y0=>?_
 ·refine xR h ?_;exact Yh L
 ·refine aE y0 fun x h1 h3=>?_;refine XR (md (mem_of_lookup h3)) (fun hm=>?_) fun y0=>?_
  ·have:∀{l:List (WS×Xa)}{aR:List (WS×XO)},(x,a)∈gJ ag l aR->(x,a)∈aR\/(x,W9)∈l:=by
    intro l;induction l with
    |nil=>intro aR h;exact .inl h
    |cons p l ih=>
     intro aR h;obtain⟨y,k⟩:=p;unfold gJ at h;refine XR (ih h) (fun h=>?_) fun h=>?_
     ·split at h
      ·rename_i hk;refine XR (YL.mp h) (fun e=>?_) fun h=>?_
       ·rcases e with⟨⟩;exact .inr (by refine xR (show k=.free by simpa using hk) ?_;exact YJ)
       ·exact .inl h
      ·exact .inl h
     ·exact .inr (YK _ h)
   refine XR (this hm) (fun q=>?_) fun q=>?_
   ·rcases q with⟨⟩
   ·have:=h2 _ q;replace this:=h1.symm.trans this;rcases this with⟨⟩
  ·refine aZ y0 fun z hm=>?_;exact Nat.le_of_succ_le hm
def xV (C:Cx)(A:XN)(ak:XO->Prop)(ag:Env)(sc:WY)(ae:az)(D I:XO)(elt:Expr)(gens:List Xw)(xZ:WY)(pos:Pos)(depth:Nat)(t:Expr)(ifs:List Expr)(f:Dat->Option (List Dat)):Prop:=∀(d:Dat)(out aR:List Dat)(vs:List WJ)(v:WJ)(s:WV),oA C ak ag sc ae D s vs aR->f d=XU out->aR.length+out.length<=aW->Rep s.heap ak v d->∀(Q:Xr->WV->Prop)(E:WJ->WV->Prop),(∀s' mj,gX C (CW D ag sc) s s'->oA C ak ag sc ae D s' mj (aR++out)->Q (.again (.compLoop (.ListComp elt gens xZ pos) depth (.ref I) (.ref D) ag)) s')->aV (Wu pw Wd) A (assign t ag v>>=fun x=>(forIn ifs true fun c r=>if r=true then do let ok <-isTrue c ag (eval c ag);pure (ZT ok)else pure (ZT r))>>=fun ok=>if ok=true then f7 elt gens xZ pos depth (.ref I) (.ref D) ag else again (.compLoop (.ListComp elt gens xZ pos) depth (.ref I) (.ref D) ag)) Q E s
theorem oh {R:WZ->WV->Prop}(hg:gens[depth]?=XU ⟨t,itE,ifs,0⟩)(x:It s.heap ak W I ds)(h:cy (Wu pw Wd) A (.compLoop (.ListComp elt gens xZ pos) depth (.ref I) aR ag) R s):cy (Wu pw Wd) A (.compStart (.ListComp elt gens xZ pos) depth (.ref I) aR ag) R s:=by
 refine bj ?_ rfl;show aV _ A ((compStart (.ListComp elt gens xZ pos) depth (.ref I) aR ag).onRaise (fun x=>do noteFrame x ag;standAt theWindowsPlace)) _ _ s;refine yi ?_;unfold compStart;have e:=hg;refine xR e ?_;refine ab (ao <|wpAny_askSetting (CE ?_));split
 ·first|exact ab (aj (aj (And.intro rfl h)))|exact aj (And.intro rfl h)
 ·first|exact ab (gZ (ab (aw (ab (x.self (aj (And.intro rfl h)))))))|(refine ab (gZ ?_);show aV _ _ (standAt itE.pos>>=_) _ _ s;exact ab (aw (ab (x.self (aj (And.intro rfl h))))))
theorem vx (hA:A.handled=XW)(e:bh ag sc)(i:In C ak ag ae s)(fL:gH sc cj=true)(VQ:∀x,foldedSetIterable it ag x=pure x)(t8:Wp C A (eval it ag) (fun v s'=>bt s'.heap ak v src) s)(hit:bM src=XU av)(f:Dat->Option (List Dat))(hm:cZ f av=XU out)(hl:out.length<=aW)(step:∀fF eR D I,pG C fF eR cj D A->xV C A fF eR cj (b0 cj ae) D I elt (⟨t,it,ifs,0⟩::rest) cj pos 0 t ifs f)(K:∀L D s',Ex C s s'->Rep s'.heap ak (.ref D) (.list out)->s.heap.get? L=XW->(∃m,s'.heap.Ns L m)->pg (Wu pw Wd) A E use Q (.ref D) L (.ok .next) s'):aV (Wu pw Wd) A (comprehension (.ListComp elt (⟨t,it,ifs,0⟩::rest) cj pos) cj ag pos' (newList []) false (eval it ag) use) Q E s:=by
 refine bH (eF fL) fun h1 h2 h3=>?_;have hf:=ij e fL;refine jy rfl VQ (l9 hf) h1 (fun x hx hl=>xR (h2 x hx) (xR hl rfl)) ?_;refine t8 _ _ fun v s1 x1 r1=>?_;have i1:=i.ex x1;refine qM (W:=C.TF) r1 hit (fun a t=>i1.vo.there a (i1.vo.tf a t)) (fun a ha=>r1.L5 i1.bs i1.vo hit ha) fun I Jd hI sv xI=>?_;have nI:¬C.T I:=fun q=>xI.J1 (.inl q);refine ao <|Wc ?_ (by show 0<=sizeLine;decide);refine Ei ?_;have NX:(Jd.push {cls:=.type "list",data:=.seq #[]}).objs.size=Jd.objs.size+1:=Xg ..;refine xR NX ?_;generalize hD:Jd.objs.size=D at *;show cy _ A (.compStart _ 0 (.ref I) (.ref D) (ta ag cj (D+1))) (pg _ A E use Q (.ref D) (D+1)) _;generalize nK:ta ag cj (D+1)=eR;generalize EC:({s1 with heap:=pushCells ((Jd.push {cls:=.type "list",data:=.seq #[]}).push {cls:=.type "dict",data:=.dict #[]}) cj.names}:WV)=s4;have h4:s4.heap=pushCells ((Jd.push {cls:=.type "list",data:=.seq #[]}).push {cls:=.type "dict",data:=.dict #[]}) cj.names:=xL EC rfl;have EF:∀b o,Jd.get? b=XU o->s4.heap.get? b=XU o:=fun b o e=>by refine xR h4 ?_;exact pushCells_keeps _ _ _ _ (Xl _ (Xl _ e))
 have x4:Ex C s1 s4:=.of_keep (fun b o e=>EF b o (sv b o e)) (xL EC rfl) (xL EC rfl);have i4:=i1.ex x4;have cLt:=fun x c hc=>by refine fE (i1.cells x c hc) fun v o ho y=>?_;have:=Xh (sv _ _ ho);simp only[hD]at this;exact Yc this
 have ec:bh eR cj:=nK▸Ln e fL cLt;have cwD:∀a,CW D eR cj a->D<=a:=fun a q=>by
  refine XR q (fun y0=>?_) fun q=>?_
  ·obtain rfl:=y0;exact Yh _
  ·exact Nat.le_of_succ_le (Lq hf h2 (nK▸q))
 have cwN:=fun a q=>wc (hD▸cwD a q);have ET:∀a,CW D eR cj a->s1.heap.get? a=XW:=fun a q=>by cases e':s1.heap.get? a with|none=>rfl|some o=>have:=sv _ _ e';replace this:=(cwN a q).symm.trans this;exact aa this
 have SK:∀a,CW D eR cj a->¬C.T a:=fun a q t=>by refine aM (i1.vo.there a (i1.vo.tabs a t)) fun o e'=>?_;replace e':=(ET a q).symm.trans e';exact aa e'
 have cwF:∀a,CW D eR cj a->¬C.fr a:=fun a q t=>by refine aM (i1.vo.there a (i1.vo.fZ a t)) fun o e'=>?_;replace e':=(ET a q).symm.trans e';exact aa e'
 have J5:∀a,s1.heap.get? a=XW->¬C.T a->C.h₀.get? a=XW:=fun a q t=>by cases e':C.h₀.get? a with|none=>rfl|some o=>have:=i1.bs.keep a o e' t;replace this:=q.symm.trans this;exact aa this
 have Mo:LstAt s4.heap D []:=by refine⟨{cls:=.type "list",data:=.seq #[]},0,?_,rfl,rfl,rfl⟩;refine xR h4 (xL hD ?_);exact pushCells_keeps _ _ _ _ (Xl _ (Xk _ rfl))
 have Mu:s4.heap.Ns (D+1) fun y=>XW:=by refine xR h4 (xL NX ?_);exact(Xp.Ns.new _ (.type "dict")).keeps (pushCells_keeps _ _)
 have sC:∀x c,(x,c)∈eR.cells->s4.heap.IsCell c XW\/ag.cells.lookup x=XU c:=fun x c Ao=>by
  replace Ao:=nK.symm▸Ao;have hm2:(x,c)∈cellsFrom (((Jd.push {cls:=.type "list",data:=.seq #[]}).push {cls:=.type "dict",data:=.dict #[]}).objs.size) cj.names (gJ ag cj.names []):=by simp only[Xg,NX];exact Ao
  refine XR (wA hm2) (fun q=>?_) fun q=>?_
  ·exact .inr ((jh hf q).resolve_left nofun)
  ·exact .inl (h4▸q)
 generalize NV:(fun a=>ak a\/CW D eR cj a)=oG;have v1:∀a,ak a->oG a:=fun a q=>by refine xL NV ?_;exact .inl q
 have US:∀a,CW D eR cj a->oG a:=fun a q=>by refine xL NV ?_;exact .inr q
 have UR:∀a,¬ak a->¬CW D eR cj a->¬oG a:=fun a q r=>by refine xL NV ?_;exact fun t=>t.elim q r
 have up:∀{h:Xp}{vs:List WJ}{es:List Dat},aK h ak vs es->(∀b o,h.get? b=XU o->s4.heap.get? b=XU o)->(∀a,CW D eR cj a->h.get? a=XW)->aK s4.heap oG vs es:=fun r hk hn=>r.mono fun b o e n=>⟨hk b o e,UR b n fun q=>by replace e:=(hn b q).symm.trans e;exact aa e⟩;have up1:∀{h:Xp}{v:WJ}{es:Dat},Rep h ak v es->(∀b o,h.get? b=XU o->s4.heap.get? b=XU o)->(∀a,CW D eR cj a->h.get? a=XW)->Rep s4.heap oG v es:=fun r hk hn=>r.mono fun b o e n=>⟨hk b o e,UR b n fun q=>by replace e:=(hn b q).symm.trans e;exact aa e⟩;have fx:pG C oG eR cj D A:=⟨ec,US D (.inl rfl),J5 D (ET D (.inl rfl)) (SK D (.inl rfl)),by refine xL nK ?_;rfl,hA⟩;have vo4:bw C oG s4:=by
  refine⟨fun a t=>v1 a (i4.vo.tabs a t),fun a t=>v1 a (i4.vo.fZ a t),fun a q=>?_⟩;simp only[<-NV]at q;rcases q with q|rfl|rfl|⟨x,q1,q2⟩
  ·exact i4.vo.there a q
  ·refine fE Mo fun o n ho y=>?_;exact⟨o,ho⟩
  ·refine jX Mu fun o y y ho y=>?_;refine xL nK ?_;exact⟨o,ho⟩
  ·refine XR (sC x a (mem_of_lookup q2)) (fun y0=>?_) fun q=>?_
   ·refine aE y0 fun o ho y=>?_;exact⟨o,ho⟩
   ·refine fE (i4.cells x a q) fun v o ho y=>?_;exact⟨o,ho⟩
 have Zax:pF C s4.heap oG eR cj:=by
  refine⟨⟨_,by refine xL nK ?_;exact Mu⟩,US _ (.inr (.inl rfl)),?_,fun x c q1 q2=>⟨US _ (.inr (.inr ⟨x,q1,q2⟩)),?_,?_⟩⟩
  ·exact J5 _ (ET _ (.inr (.inl rfl))) (SK _ (.inr (.inl rfl)))
  ·exact J5 _ (ET _ (.inr (.inr ⟨x,q1,q2⟩))) (SK _ (.inr (.inr ⟨x,q1,q2⟩)))
  ·refine XR (sC x c (mem_of_lookup q2)) (fun q=>?_) fun q=>?_
   ·exact⟨_,q⟩
   ·exact i4.cells x c q
 have in4:In C oG eR (b0 cj ae) s4:=by
  refine⟨i4.bs,vo4,fun x sl hx=>?_,fun x c hc=>?_⟩
  ·refine aZ (eX hx) fun Rz NT=>?_;refine aE (i4.lo x sl Rz) fun v y0 hr=>?_;refine bH y0 fun a1 a2 a3=>?_;have hkf:=h3 _ (mem_of_lookup NT) rfl;have jc:ag.kindOf x=XU .cell\/ag.kindOf x=XU .free:=by
    refine XR hkf (fun q=>?_) fun q=>?_
    ·exact .inl (e.cel x q)
    ·exact e.fre x q
   refine XR a3 (fun y0=>?_) fun y1=>?_
   ·refine aZ y0 fun b1 y=>?_;refine XR jc (fun q=>?_) fun q=>?_<;>(replace q:=b1.symm.trans q;rcases q with⟨⟩)
   ·obtain⟨b1,c,b2,b3⟩:=y1;refine aM (ec.cells x (.inr NT)) fun c' qv=>?_;have Up:c'=c:=by
     have Ao:(x,c')∈eR.cells:=mem_of_lookup qv;replace Ao:=nK.symm▸Ao;refine XR (md Ao) (fun q=>?_) fun y0=>?_
     ·have:=(jh hf q).resolve_left nofun;simp only[b2]at this;obtain rfl:=XT this;rfl
     ·refine aZ y0 fun q y=>?_;have:=h2 _ q;replace this:=NT.symm.trans this;rcases this with⟨⟩
    subst Up;refine⟨v,⟨a1,a2,.inr ⟨ec.fre x NT,c',qv,b3⟩⟩,?_⟩;rcases sl with⟨⟩;case val d=>
     refine aE (i1.lo x (.val d) Rz) fun v0 y0 r0=>?_;refine bH y0 fun c1 c2 c3=>?_;have:v0=v:=by
      refine XR c3 (fun y0=>?_) fun y1=>?_
      ·refine aZ y0 fun q y=>?_;refine XR jc (fun q'=>?_) fun q'=>?_<;>(replace q':=q.symm.trans q';rcases q' with⟨⟩)
      ·obtain⟨_,c0,d2,o,d3,d4⟩:=y1;replace d2:=b2.symm.trans d2;obtain rfl:=XT d2;refine aE b3 fun o' d5 d6=>?_;have:=x4.keep _ _ d3 (i1.bs.dF d3 (by refine xR d4 ?_;nofun)) (i1.bs.dT d3 (by refine xR d4 ?_;nofun));replace this:=d5.symm.trans this;obtain rfl:=XT this;replace d6:=d4.symm.trans d6;rcases d6 with⟨⟩;rfl
     cases this;exact up1 r0 (fun b o e=>EF b o (sv b o e)) ET
    case own d=>
     refine ZU fun hG=>?_;obtain⟨v0,y0,r0,a0,PA,Kq,Oa⟩:=i1.lo x (.own d) Rz;refine bH y0 fun c1 c2 c3=>?_;refine hG ?_;have:v0=v:=by
      refine XR c3 (fun y0=>?_) fun y1=>?_
      ·refine aZ y0 fun q y=>?_;refine XR jc (fun q'=>?_) fun q'=>?_<;>(replace q':=q.symm.trans q';rcases q' with⟨⟩)
      ·obtain⟨_,c0,d2,o,d3,d4⟩:=y1;simp only[b2]at d2;obtain rfl:=XT d2;refine aE b3 fun o' d5 d6=>?_;have:=x4.keep _ _ d3 (i1.bs.dF d3 (by refine xR d4 ?_;nofun)) (i1.bs.dT d3 (by refine xR d4 ?_;nofun));simp only[d5]at this;obtain rfl:=XT this;replace d6:=d4.symm.trans d6;rcases d6 with⟨⟩;rfl
     cases this;have gS:a0+1≠eR.locals:=fun q=>by simp only[<-nK]at q;have q':a0=D:=Nat.succ.inj q;refine aM (i1.vo.there a0 Kq) fun o' e'=>?_;replace e':=(ET D (.inl rfl))▸q'▸e';exact aa e'
     refine⟨?_,a0,PA,v1 _ Kq,gS⟩;cases r0 with|rep r=>exact .rep (up1 r (fun b o e=>EF b o (sv b o e)) ET)|list ho hc hn hd sm=>exact .list (EF _ _ (sv _ _ ho)) hc hn hd (up sm (fun b o e=>EF b o (sv b o e)) ET)|bz ho hc hd=>exact .bz (EF _ _ (sv _ _ ho)) hc hd
  ·refine XR (sC x c (mem_of_lookup hc)) (fun q=>?_) fun q=>?_
   ·exact⟨_,q⟩
   ·exact i4.cells x c q
 have Qp:oA C oG eR cj (b0 cj ae) D s4 [] []:=⟨in4,Zax,Mo,.nil⟩;have UK:It s4.heap oG (fun a=>CW D eR cj a\/C.T a\/C.fr a) I av:=by have w:It Jd ak (fun a=>CW D eR cj a\/C.T a\/C.fr a) I av:=xI.widen fun a q=>q.elim (fun q=>.inr (cwN a q)) .inl;exact w.mono (fun b o e y=>EF b o e) fun r=>up r EF cwN
 have nvI:¬oG I:=UR I (fun q=>by refine aM (i1.vo.there I q) fun o e'=>?_;replace e':=hI.symm.trans e';exact aa e') fun q=>UK.J1 (.inl q);refine oh (t:=t) (itE:=it) (ifs:=ifs) rfl UK ?_;refine qd (t:=t) (itE:=it) (ifs:=ifs) rfl fx f (J5 I hI nI) nI nvI (step oG eR D I fx) av out [] [] s4 UK Qp hm (by simpa using hl) fun s5 vs5 UI Pm=>?_;simp only[Yz]at Pm;have x5:Ex C s1 s5:=(x4.M8.trans UI).Qb (fun a q=>q.elim (ET a) fun q=>q▸hI) fun a q=>q.elim (SK a) fun q=>q▸nI;have R9:eR.locals=D+1:=by refine xL nK ?_;rfl
 refine K (D+1) D s5 (x1.trans x5) ?_ ?_ (R9▸Pm.j0.ns)
 ·refine mi Pm.at_ fun o n ho hc hn hd=>?_;refine .list (fun q=>?_) ho hc hn hd (Pm.yL.mono fun b o e n=>⟨e,fun q=>n (v1 b q)⟩);refine aM (i1.vo.there D q) fun o' e'=>?_;replace e':=(ET D (.inl rfl)).symm.trans e';exact aa e'
 ·have:=ET (D+1) (.inr (.inl R9.symm));cases e':s.heap.get? (D+1)with|none=>rfl|some o=>have:=x1.keep _ _ e' (SK (D+1) (.inr (.inl R9.symm))) (cwF (D+1) (.inr (.inl R9.symm)));replace this:=(ET (D+1) (.inr (.inl R9.symm))).symm.trans this;exact aa this
def fS (C:Cx)(Φ:fN)(A:XN)(e:Expr):Prop:=∀{ag sc ak ae d s},bh ag sc->In C ak ag ae s->ev Φ sc e ae=XU d->eN C A ak (eval e ag) d s
def jr (C:Cx)(Φ:fN)(A:XN)(e:Expr):Prop:=∀{ag sc ak ae b s},bh ag sc->In C ak ag ae s->dQ Φ sc e ae (ev Φ sc e ae)=XU b->Wp C A (isTrue e ag (eval e ag)) (fun t x=>t=b) s
theorem jK (e:bh ag sc)(h:fq s.heap ag x v)(hQ:Q v s):aV (Wu pw Wd) A (eval (.Name x p) ag) Q E s:=by
 refine bH h fun h1 h2 h3=>?_;refine FE ?_ h1;rcases h3 with⟨hk,m,hm,hv⟩|⟨hk|hk,c,hc,hv⟩
 ·exact ao <|wpAny_loadName_local e.kind hk hm hv hQ
 ·exact ao <|wpAny_loadName_cell e.kind hk hc hv hQ
 ·exact ao <|wpAny_loadName_free e.kind hk hc hv hQ h2
theorem Cx.QT (hC:C.Ok)(z:Bs C s):s.heap.Ns mainGlobals C.mg:=by refine jX hC.g fun o es ep ho r=>?_;refine⟨o,es,ep,z.keep _ _ ho ?_,r⟩;intro y0;refine iM y0 fun c p q m=>?_;exact(hC.q6 c _ p q m).2.2.1 rfl
theorem Cx.nsB (hC:C.Ok)(z:Bs C s):s.heap.Ns builtinsNs C.mb:=by refine jX hC.b fun o es ep ho r=>?_;refine⟨o,es,ep,z.keep _ _ ho ?_,r⟩;intro y0;refine iM y0 fun c p q m=>?_;exact(hC.q6 c _ p q m).2.2.2 rfl
theorem o3 (hC:C.Ok)(e:bh ag sc)(z:Bs C s)(hx:sc.names.lookup x=XU .globalImplicit)(hd:(x==("__debug__":WS))=false)(hv:C.mg x=XU v)(hQ:Q v s):aV (Wu pw Wd) A (eval (.Name x p) ag) Q E s:=ao <|Xz e.kind (e.glob x hx) (Calls.loadGlobal_global (e.globals▸Cx.QT hC z) hv hQ) hd
theorem fh (hC:C.Ok)(e:bh ag sc)(z:Bs C s)(hx:sc.names.lookup x=XU .globalImplicit)(hd:(x==("__debug__":WS))=false)(hg:C.mg x=XW)(hv:C.mb x=XU v)(hQ:Q v s):aV (Wu pw Wd) A (eval (.Name x p) ag) Q E s:=ao <|Xz e.kind (e.glob x hx) (Calls.loadGlobal_builtin (e.globals▸Cx.QT hC z) hg (e.builtins▸Cx.nsB hC z) hv hQ) hd
set_option tactic.hygienic true in
theorem Ii (h:Ij c=XU d):eN C A ak (eval (.Constant c k p) ag) d s:=by
 rcases c with⟨⟩;case none=>obtain rfl:=XT h;exact fun E Q q=>ao <|wpAny_Constant_none (q _ _ (.refl s) .none)
 case bool b=>obtain rfl:=XT h;exact fun E Q q=>ao <|wpAny_Constant_bool (q _ _ (.refl s) (.bool b))
 case int i=>obtain rfl:=XT h;exact fun E Q q=>ao <|Wm (q _ _ .toks (.int i _))
 case str x=>obtain rfl:=XT h;exact fun E Q q=>ao <|Wl (q _ _ .toks (.str x _))
 case bytes b=>obtain rfl:=XT h;refine fun E Q q=>?_;have:aV (Wu pw Wd) A (mkTextBytes b.toArray) Q E s:=fun y y y y=>q _ {s with toks:=s.toks+1} .toks (.bytes b _);exact this
 all_goals (exact aa h)
set_option tactic.hygienic true in
theorem wO (hC:C.Ok)(hF:b9 C Φ n)(e:bh ag sc)(i:In C ak ag ae s)(h:ev Φ sc (.Name x p) ae=XU d):eN C A ak (eval (.Name x p) ag) d s:=by
 have h':(match ae.lookup x with
  |some (.val d)=>XU d|some (.own _)=>XW|none=>if sc.names.lookup x=XU .globalImplicit then Φ.glob x else XW)=XU d:=h
 cases hl:ae.lookup x with
 |none=>
  rw[hl]at h';refine aQ h' fun hg h'=>?_;refine eB (hF.glob h') fun v h1 h2 h3=>?_;refine XR h1 (fun h1=>?_) fun y0=>?_
  ·exact fun E Q q=>o3 hC e i.bs hg h2 h1 (q v s (.refl s) (h3 i.bs i.vo))
  ·refine aZ y0 fun h0 h1=>?_;exact fun E Q q=>fh hC e i.bs hg h2 h0 h1 (q v s (.refl s) (h3 i.bs i.vo))
 |some sl=>
  rw[hl]at h';rcases sl with⟨⟩;case own d'=>exact aa h'
  case val d'=>obtain rfl:=XT h';refine aE (i.lo x _ hl) fun v hv hr=>?_;exact fun E Q q=>jK e hv (q v s (.refl s) hr)
set_option tactic.hygienic true in
theorem Ef (h:ownAt ae y=XU d):ae.lookup y=XU (.own d):=by
 unfold ownAt at h;cases hl:ae.lookup y with
 |none=>rw[hl]at h;exact aa h
 |some sl=>
  rw[hl]at h;rcases sl with⟨⟩;case val d'=>exact aa h
  case own d'=>exact V4 (XU <|Slot.own ·) (XT h)
theorem pO {x:Expr}{w:Option Dat}(h:orOwn x ae w=XU d):w=XU d\/∃y p,x=.Name y p/\ae.lookup y=XU (.own d):=by unfold orOwn at h;cases hn:(asName x).bind (ownAt ae)with|none=>rw[hn]at h;exact .inl h|some d'=>rw[hn]at h;exact au hn fun y h1 h2=>(gg h1).elim fun p e=>.inr ⟨y,p,e,Ef (h2.trans h)⟩
theorem uS {x:Expr}(hE:fS C Φ A x)(e:bh ag sc)(i:In C ak ag ae s)(h:orOwn x ae (ev Φ sc x ae)=XU d):Wp C A (eval x ag) (fun v s'=>bt s'.heap ak v d/\(Rep s'.heap ak v d\/∃a,v=.ref a/\ak a/\a+1≠ag.locals)) s:=by
 refine XR (pO h) (fun h=>?_) fun y0=>?_
 ·exact Wp.mono (hE e i h) fun z z z r=>⟨.rep r,.inl r⟩
 ·refine fE y0 ?_;rintro y p (rfl) hl;refine aE (i.lo y _ hl) fun v hv hr=>?_;exact fun E Q q=>jK e hv (q v s (.refl s) ⟨hr.1,.inr hr.2⟩)
theorem dR {x:Expr}(hE:fS C Φ A x)(e:bh ag sc)(i:In C ak ag ae s)(h:orOwn x ae (ev Φ sc x ae)=XU d):Wp C A (eval x ag) (fun v s'=>bt s'.heap ak v d) s:=Wp.mono (uS hE e i h) fun y y y r=>r.1
theorem Cq (hO:cI C n)(hA:dy C n A)(hl:fS C Φ A l)(hr:fS C Φ A r)(e:bh ag sc)(i:In C ak ag ae s)(h:ev Φ sc (.BinOp l op r p) ae=XU d):eN C A ak (eval (.BinOp l op r p) ag) d s:=au h fun a h1 h=>au h fun b h2 h E Q q=>DK (hl e i h1 _ _ fun v s1 x1 r1=>hr e (i.ex x1) h2 _ _ fun u s2 x2 r2=>hO.bin hA ((i.ex x1).ex x2).bs ((i.ex x1).ex x2).vo (r1.ex (i.ex x1).vo x2) r2 h _ _ fun w s3 x3 r3=>q w s3 ((x1.trans x2).trans x3) r3)
theorem PR (hO:cI C n)(hA:dy C n A){x:Expr}(hx:fS C Φ A x)(e:bh ag sc)(i:In C ak ag ae s)(h:ev Φ sc (.UnaryOp op x p) ae=XU d):eN C A ak (eval (.UnaryOp op x p) ag) d s:=by
 have plain:(ev Φ sc x ae).bind (fun a=>TX op a)=XU d->op≠.Not->eN C A ak (eval (.UnaryOp op x p) ag) d s:=fun h hn=>au h fun a h1 h E Q q=>pH (hx e i h1 _ _ fun v s1 x1 r1=>hO.un hA (i.ex x1).bs (i.ex x1).vo r1 h _ _ fun w s2 x2 r2=>q w s2 (x1.trans x2) r2);rcases op with⟨⟩;case Not=>refine au h fun a h1 h=>au h fun b h2 h E Q q=>?_;obtain rfl:=XT h;exact pH (dR hx e i h1 _ _ fun v s1 x1 r1=>Jk (hO.TY hA (i.ex x1).bs (i.ex x1).vo r1 h2 _ _ fun t s2 x2 ht=>ht▸q _ s2 (x1.trans x2) (.bool _)))
 all_goals (exact plain h nofun)
theorem or_none {x:Expr}{P:Prop}(h:orOwn x ae (ev Φ sc x ae)=XU d)(hx:ev Φ sc x ae=XW)(hn:∀y p,x≠.Name y p):P:=by
 refine XR (pO h) (fun h=>?_) fun y0=>?_
 ·rw[hx]at h;exact aa h
 ·refine fE y0 fun y p e z=>?_;exact absurd e (hn y p)
theorem gQ {x:Expr}(h:orOwn x ae (ev Φ sc x ae)=XU d):∀es k p,x≠.Set es k p:=by rintro es k p rfl;exact or_none h rfl nofun
theorem zf {x:Expr}(h:∀es k p,x≠.Set es k p):behindInMarks op x=false:=by rcases x with⟨⟩<;>first|rfl|exact absurd rfl (h _ _ _)
theorem gA {x:Expr}(h:∀es k p,x≠.Set es k p)(v:WJ):foldedSetIterable x ag v=pure v:=by rcases x with⟨⟩<;>first|rfl|exact absurd rfl (h _ _ _)
theorem zW (hO:cI C n)(hA:dy C n A){x:Expr}{a:Dat}(e:bh ag sc)(hx:fS C Φ A x)(i:In C ak ag ae s)(rv:bt s.heap ak v a)(h:nY Φ sc a [op] [x] ae=XU r) {β:Type} {k:WJ->WJ->WX β} {Q:β->WV->Prop} (q:∀u s2,Ex C s s2->aV (Wu pw Wd) A (k u (.bool r)) Q E s2):aV (Wu pw Wd) A (holding [v] (eval x ag)>>=fun rv=>standAt pos>>=fun y=>operate [v,rv] (compareOp op v rv)>>=k rv) Q E s:=au h fun b h1 h=>ab (aA (dR hx e i h1 _ _ fun u s1 x1 r1=>ab (aw (ab (mY (hO.cmp hA (i.ex x1).bs (i.ex x1).vo (rv.ex i.bs i.vo x1) r1 h _ _ fun w s2 x2 r2=>r2.Dt▸q u s2 (x1.trans x2)))))))
theorem zV (hO:cI C n)(hA:dy C n A){x:Expr}{a b:Dat}(e:bh ag sc)(hx:fS C Φ A x)(i:In C ak ag ae s)(rv:bt s.heap ak v a)(h1:ev Φ sc x ae=XU b)(h:kW op a b=XU c) {β:Type} {k:WJ->WJ->Bool->WX β} {Q:β->WV->Prop} (q:∀u s2,Ex C s s2->Rep s2.heap ak u b->aV (Wu pw Wd) A (k u (.bool c) c) Q E s2):aV (Wu pw Wd) A (holding [v] (eval x ag)>>=fun rv=>standAt pos>>=fun y=>holding [v,rv] (compareOp op v rv)>>=fun c=>release [v,rv] [c]>>=fun y=>holding [c,rv] (truthy c)>>=k rv c) Q E s:=ab (aA (hx e i h1 _ _ fun u s1 x1 r1=>ab (aw (ab (aA (hO.cmp hA (i.ex x1).bs (i.ex x1).vo (rv.ex i.bs i.vo x1) (.rep r1) h _ _ fun w s2 x2 r2=>by rw[r2.Dt];exact ab (ao <|wpAny_release (ab (aA (ao <|V8 (q u s2 (x1.trans x2) (r1.ex (i.ex x1).vo x2))))))))))))
set_option tactic.hygienic true in
theorem s9 (hO:cI C n)(hA:dy C n A){pos:Pos}(e:bh ag sc):∀{es:List Expr}{ops:List CmpOp}{a:Dat}{v:WJ}{r:Bool}{s:WV},(∀x∈es,fS C Φ A x)->In C ak ag ae s->bt s.heap ak v a->nY Φ sc a ops es ae=XU r->Wp C A (compareChain pos v ops (markedEach ops es (evalEach es ag))) (fun u w=>u=.bool r) s/\Wp C A (testChain pos v ops (markedEach ops es (evalEach es ag))) (fun u w=>u=r) s
 |[],ops,a,v,r,s,_,i,rv,h=>by
  rcases ops with⟨⟩;case nil=>exact aa h
  case cons o ops=>cases ops with
   |nil=>exact aa h|cons o2 ops=>exact aa h
 |[x],ops,a,v,r,s,hx,i,rv,h=>by
  rcases ops with⟨⟩;case nil=>exact aa h
  case cons op ops=>cases ops with
   |cons o2 ops=>exact aa h|nil=>have hm:markedEach [op] [x] (evalEach [x] ag)=[eval x ag]:=V4 (fun t=>[t]) (au h fun b h1 w=>markedBehindIn_of_false (zf (gQ h1)));rw[hm];have RA:fS C Φ A x:=hx x YJ;refine⟨fun E Q q=>?_,fun E Q q=>zW hO hA e RA i rv h fun u s2 x2=>aA (ao <|V8 (q r s2 x2 rfl))⟩;have:=zW hO hA (pos:=pos) (E:=E) (Q:=Q) e RA i rv h fun u s2 x2=>aj (q _ s2 x2 rfl);have hp:∀rv,(operate [v,rv] (compareOp op v rv)>>=fun c=>pure c)=operate [v,rv] (compareOp op v rv):=fun rv=>bind_pure _;simp only[hp]at this;exact this
 |x::y::es,ops,a,v,r,s,hx,i,rv,h=>by
  rcases ops with⟨⟩;case nil=>exact aa h
  case cons op ops=>cases ops with
   |nil=>exact aa h
   |cons o2 ops=>
    refine au h fun b h1 h=>au h fun c h2 h=>?_;have RA:fS C Φ A x:=hx x YJ;have ih:=fun u s2(x2:Ex C s s2)(ru:Rep s2.heap ak u b)(h:nY Φ sc b (o2::ops) (y::es) ae=XU r)=>s9 hO hA (pos:=pos) e (fun z hz=>hx z (YK _ hz)) (i.ex x2) (.rep ru) h;refine⟨fun E Q q=>zV hO hA e RA i rv h1 h2 fun u s2 x2 ru=>?_,fun E Q q=>zV hO hA e RA i rv h1 h2 fun u s2 x2 ru=>?_⟩
    ·rcases c with⟨⟩;case true=>exact(ih u s2 x2 ru h).1 _ _ fun u s3 x3 hu=>q u s3 (x2.trans x3) hu
     case false=>exact aj (q _ s2 x2 (by rw[XT h]))
    ·rcases c with⟨⟩;case true=>exact(ih u s2 x2 ru h).2 _ _ fun u s3 x3 hu=>q u s3 (x2.trans x3) hu
     case false=>exact aj (q _ s2 x2 (XT h))
theorem Pb {pos:Pos}(e:bh ag sc):∀{es:List Expr}{op:BoolOp}{b:Bool}{s:WV},(∀x∈es,jr C Φ A x)->In C ak ag ae s->ew Φ sc op es ae=XU b->Wp C A (allTrue op es ag) (fun t z=>t=b) s:=by
 intro es;induction es with
 |nil=>intro op b s _ i h;exact Wp.pure (XT h)
 |cons x es zy=>
  intro op b s hx i h;exact au h fun c h1 h E Q q=>ab ((hx x YJ:jr C Φ A x) e i h1 _ _ fun t s1 x1 ht=>by
  subst ht;have ih:=zy (op:=op) (b:=b) (fun y hy=>hx y (YK _ hy)) (i.ex x1);rcases op with⟨⟩<;>rcases t with⟨⟩
  ·exact aj (q _ s1 x1 (XT h))
  ·exact ih h _ _ fun w s2 x2 r2=>q w s2 (x1.trans x2) r2
  ·exact ih h _ _ fun w s2 x2 r2=>q w s2 (x1.trans x2) r2
  ·exact aj (q _ s1 x1 (XT h)))
theorem vF (hO:cI C n)(hA:dy C n A){pos:Pos}(e:bh ag sc):∀{es:List Expr}{op:BoolOp}{d:Dat}{s:WV},(∀x∈es,fS C Φ A x)->In C ak ag ae s->sS Φ sc op es ae=XU d->eN C A ak (boolOp pos op (evalEach es ag)) d s
 |[],op,d,s,_,i,h=>aa h
 |[x],op,d,s,hx,i,h=>(hx x YJ:fS C Φ A x) e i h
 |x::y::es,op,d,s,hx,i,h=>au h fun a h1 h=>au h fun c h2 h E Q q=>ab ((hx x YJ:fS C Φ A x) e i h1 _ _ fun v s1 x1 r1=>
  ab (aw (ab (aA (hO.TY hA (i.ex x1).bs (i.ex x1).vo (.rep r1) h2 _ _ fun t s2 x2 ht=>by
  subst ht;have Av:=x1.trans x2;have fin:XU a=XU d->Q v s2:=fun hh=>q v s2 Av (XT hh▸r1.ex (i.ex x1).vo x2);have ih:=vF hO hA (pos:=pos) (op:=op) (d:=d) e (fun y hy=>hx y (YK _ hy)) (i.ex Av);rcases op with⟨⟩<;>rcases t with⟨⟩
  ·exact aj (fin h)
  ·exact ih h _ _ fun w s3 x3 r3=>q w s3 (Av.trans x3) r3
  ·exact ih h _ _ fun w s3 x3 r3=>q w s3 (Av.trans x3) r3
  ·exact aj (fin h))))))
theorem iS {x:Expr}(h:ev Φ sc x ae=XU d):∀y p,x≠.Starred y p:=by rintro y p rfl;exact aa h
theorem lW {x:Expr}(h:orOwn x ae (ev Φ sc x ae)=XU d):∀y p,x≠.Starred y p:=by rintro y p rfl;exact or_none h rfl nofun
theorem cD {x:Expr}(h:∀y p,x≠.Starred y p):starEach (x::es) ag=(false,eval x ag)::starEach es ag:=by rcases x with⟨⟩<;>first|rfl|exact absurd rfl (h _ _)
theorem ie (e:bh ag sc):∀{es:List Expr}{ds:List Dat}{s:WV},(∀x∈es,fS C Φ A x)->In C ak ag ae s->Dk Φ sc es ae=XU ds->Wp C A (spliced (backTo pos (starEach es ag))) (fun vs s'=>aK s'.heap ak vs ds) s|[],ds,s,_,i,h=>fun E Q q=>dz (q _ _ (.refl s) (XT h▸.nil))|x::es,ds,s,hx,i,h=>au h fun d h1 h=>bx h fun jV h2 h E Q q=>by subst h;exact bU ((hx x YJ:fS C Φ A x) e i h1 _ _ fun v s1 x1 r1=>ie e (fun y hy=>hx y (YK _ hy)) (i.ex x1) h2 _ _ fun vs s2 x2 r2=>q _ s2 (x1.trans x2) (.cons (r1.ex (i.ex x1).vo x2) r2)) (cD (iS h1))
theorem oV (e:bh ag sc):∀{es:List Expr}{ds:List Dat}{s:WV},(∀x∈es,fS C Φ A x)->In C ak ag ae s->mH Φ sc es ae=XU ds->Wp C A (spliced (backTo pos (starEach es ag))) (fun vs s'=>iq s'.heap ak vs ds) s|[],ds,s,_,i,h=>fun E Q q=>dz (q _ _ (.refl s) (XT h▸.nil))|x::es,ds,s,hx,i,h=>au h fun d h1 h=>bx h fun jV h2 h E Q q=>by subst h;exact bU (dR (hx x YJ) e i h1 _ _ fun v s1 x1 r1=>oV e (fun y hy=>hx y (YK _ hy)) (i.ex x1) h2 _ _ fun vs s2 x2 r2=>q _ s2 (x1.trans x2) (.cons (r1.ex (i.ex x1).bs (i.ex x1).vo x2) r2)) (cD (lW h1))
theorem pP {x:Expr}(h1:∀y p,x≠.Starred y p)(h2:∀y∈starEach es ag,y.1=false):∀y∈starEach (x::es) ag,y.1=false:=fun y hy=>by
 rw[cD h1]at hy;refine XR (YL.mp hy) (fun q=>?_) fun q=>?_
 ·exact xR q rfl
 ·exact h2 y q
theorem iT:∀{es:List Expr}{ds:List Dat},Dk Φ sc es ae=XU ds->∀x∈starEach es ag,x.1=false:=by intro es;induction es with|nil=>intro _ _;exact fun x hx=>nomatch hx|cons e es ih=>intro ds h;exact au h fun d h1 h=>bx h fun jV h2 h=>pP (iS h1) (ih h2)
theorem kI:∀{es:List Expr}{ds:List Dat},mH Φ sc es ae=XU ds->∀x∈starEach es ag,x.1=false:=by intro es;induction es with|nil=>intro _ _;exact fun x hx=>nomatch hx|cons e es ih=>intro ds h;exact au h fun d h1 h=>bx h fun jV h2 h=>pP (lW h1) (ih h2)
theorem ip (h:∀x∈l,x.1=false):(backTo pos l).any (·.1)=false:=by unfold backTo;rw[List.any_map,List.any_eq_false];exact fun x hx=>Z4.mp (h x hx)
set_option tactic.hygienic true in
theorem cf (h:args.any (·.1)=false){P:List WJ->WV->Prop}(hs:Wp C A (spliced args) P s):Wp C A (evalArgs f true args []) (fun a s'=>a.kw=[]/\P a.pos s') s:=by
 intro E Q q;have key:evalArgs f true args []=(spliced args>>=fun vs=>holding (vs++[]) (pure ⟨vs,[]⟩)):=by
  unfold evalArgs;rcases args with⟨⟩;case nil=>rfl
  case cons x r=>
   obtain⟨b,t⟩:=x;rcases b with⟨⟩;case true=>simp at h
   case false=>rfl
 refine xR key ?_;exact ab (hs _ _ fun vs s1 x1 p1=>aA (aj (q _ s1 x1 ⟨rfl,p1⟩)))
set_option tactic.hygienic true in
theorem b6 (hf:∀a,f≠.ref a)(N4:args.any (·.1)=false)(h:aV (Wu pw Wd) A (evalArgs f true args []) (fun a aG=>aV (Wu pw Wd) A (WA f (first++a.pos) a.kw) Q E aG) E s):aV (Wu pw Wd) A (callWith pos f first args []) Q E s:=by
 unfold callWith;refine ab (aA (aH h (fun a aG bF=>ab (aw ?_)) fun y y x=>x));rw[N4];have hk:keeperOf f=pure .machine:=by
  rcases f with⟨⟩;case ref a=>exact absurd rfl (hf a)
  all_goals (rfl)
 rw[hk];refine ab (aj ?_);exact ab (aH bF (fun r bW hr=>ab (aA (ao <|wpAny_point (aj hr)))) fun y y x=>x)
set_option tactic.hygienic true in
theorem Dy (h:asL d=XU ds):d=.list ds/\ds.length<=aW:=by
 rcases d with⟨⟩;case list es=>exact aQ h fun h1 h=>⟨by exact xR (XT h) rfl,XT h▸h1⟩
 all_goals (exact aa h)
set_option tactic.hygienic true in
theorem F8 {x:Expr}(h:d7 Φ sc (x::es) ae=XU ds):(∃y p xs jV,x=.Starred y p/\xs.length<=aW/\orOwn y ae (ev Φ sc y ae)=XU (.list xs)/\d7 Φ sc es ae=XU jV/\xs++jV=ds)\/∃d jV,ev Φ sc x ae=XU d/\d7 Φ sc es ae=XU jV/\d::jV=ds:=by
 have plain:((ev Φ sc x ae).map one).bind (fun xs=>(d7 Φ sc es ae).map fun ds=>xs++ds)=XU ds->∃d jV,ev Φ sc x ae=XU d/\d7 Φ sc es ae=XU jV/\d::jV=ds:=fun h=>au h fun xs h1 h=>bx h1 fun d h1 hx=>bx h fun jV h2 h=>⟨d,jV,h1,h2,by rw[<-h,<-hx];rfl⟩;rcases x with⟨⟩;case Starred y p=>exact .inl (au h fun xs h1 h=>au h1 fun d h1 h3=>bx h fun jV h2 h=>⟨y,p,xs,jV,rfl,(Dy h3).2,(Dy h3).1▸h1,h2,h⟩)
 all_goals (exact .inr (plain h))
theorem CO {pos:Pos}(e:bh ag sc):∀{es:List Expr}{ds:List Dat}{s:WV},(∀x∈es,∀y,(x=y\/∃p,x=.Starred y p)->fS C Φ A y)->In C ak ag ae s->d7 Φ sc es ae=XU ds->Wp C A (spliced (backTo pos (starEach es ag))) (fun vs s'=>aK s'.heap ak vs ds) s
 |[],ds,s,_,i,h=>fun E Q q=>dz (q _ _ (.refl s) (XT h▸.nil))
 |x::es,ds,s,hx,i,h=>fun E Q q=>by
  have ih:=fun{s:WV}{jV:List Dat}(i:In C ak ag ae s)(h2:d7 Φ sc es ae=XU jV)=>CO (pos:=pos) e (fun y hy=>hx y (YK _ hy)) i h2;refine XR (F8 h) (fun y1=>?_) fun y3=>?_
  ·refine cQ y1 ?_;rintro y p xs jV (rfl) fP h1 y2;(refine aZ y2 ?_;rintro h2 (rfl));show aV _ A (spliced ((true,eval y ag>>=fun v=>standAt pos>>=fun z=>pure v)::backTo pos (starEach es ag))) Q E s;refine ab (ab (dR (hx _ YJ y (.inr ⟨p,rfl⟩)) e i h1 _ _ fun v s1 x1 r1=>ab (aw (aj ?_))));refine cQ r1.lZ ?_;rintro a o vs k (rfl) ho hc y0;refine bH y0 fun hn hd RI=>?_;refine ab (gj (lh ho hc) slot_list_iter.lookup ?_);refine ab (ao <|wpAny_collect_seq a (.inl rfl) ho hc hd (fun h' hk=>?_) (by refine xR Yo (xR RI.length ?_);exact bK fP));have x2:Ex C s1 {s1 with heap:=h'}:=.of_keep hk rfl rfl;exact ab (aA (ih ((i.ex x1).ex x2) h2 _ _ fun us s3 x3 r3=>aj (q _ s3 ((x1.trans x2).trans x3) (((RI.ex (i.ex x1).vo x2).ex ((i.ex x1).ex x2).vo x3).append r3))))
  ·refine eH y3 ?_;rintro d jV h1 h2 (rfl);exact bU (hx x YJ x (.inl rfl) e i h1 _ _ fun v s1 x1 r1=>ih (i.ex x1) h2 _ _ fun vs s2 x2 r2=>q _ s2 (x1.trans x2) (.cons (r1.ex (i.ex x1).vo x2) r2)) (cD (iS h1))
theorem DR:∀(ifs:List Expr),(forIn ifs false fun c r=>if r=true then do let ok <-isTrue c ag (eval c ag);pure (ZT ok)else pure (ZT r))=(pure false:WX Bool):=by intro ifs;induction ifs with|nil=>exact rfl|cons c cs ih=>rw[Zq];simp only[ZY,if_false];exact ih
theorem yq (e:bh ag sc):∀{ifs:List Expr}{b:Bool}{s:WV},(∀x∈ifs,jr C Φ A x)->In C ak ag ae s->sQ Φ sc ifs ae=XU b->Wp C A (forIn ifs true fun c r=>if r=true then do let ok <-isTrue c ag (eval c ag);pure (ZT ok)else pure (ZT r)) (fun t z=>t=b) s
 |[],b,s,_,i,h=>Wp.pure (XT h)
 |c::cs,b,s,hx,i,h=>au h fun t h1 h E Q q=>by
  rw[Zq];refine ab (ab ((hx c YJ:jr C Φ A c) e i h1 _ _ fun t' s1 x1 ht=>aj ?_));subst ht;rcases t' with⟨⟩;case true=>exact yq e (fun y hy=>hx y (YK _ hy)) (i.ex x1) h _ _ fun u s2 x2 hu=>q u s2 (x1.trans x2) hu
  case false=>have ho:(forIn cs false fun c r=>if r=true then do let ok <-isTrue c ag (eval c ag);pure (ZT ok)else pure (ZT r))=(pure false:WX Bool):=DR cs;exact Eq.mpr (V4 (fun t=>aV (Wu pw Wd) A t Q E s1) ho) (aj (q _ s1 x1 (XT h)))
theorem eG (h:b8 sc x sl ae=XU bl):bl=(x,sl)::ae:=by
 unfold b8 at h;split at h
 ·obtain rfl:=XT h;rfl
 ·exact aa h
theorem uk:∀(k:Nat){ts:List Expr}{ds:List Dat}{ae:az}{y:WS}{sl:Slot},ts.length=k->il sc ts ds ae=XU bl->(∀t∈ts,∀x p,t=.Name x p->x≠y)->ae.lookup y=XU sl->bl.lookup y=XU sl:=by
 intro k;induction k with
 |zero=>
  intro ts ds ae y sl hk hb hy h;refine XR (dr hb) (fun y0=>?_) fun y1=>?_
  ·refine bH y0 ?_;rintro(rfl) (rfl) (rfl);exact h
  ·refine yd y1 ?_;rintro x p I7 d jV cC (rfl) _;(rcases hk with⟨⟩)
 |succ k ih=>
  intro ts ds ae y sl hk hb hy h;refine XR (dr hb) (fun y0=>?_) fun y1=>?_
  ·refine bH y0 ?_;rintro(rfl) (rfl) (rfl);rcases hk with⟨⟩
  ·refine yd y1 ?_;rintro x p I7 d jV cC (rfl) y2;(refine bH y2 ?_;rintro(rfl) Df KD);refine ih (by simpa using hk) KD (fun t ht=>hy t (YK _ ht)) ?_;refine xR (eG Df) (xR YT ?_);have:=hy _ YJ x p rfl;have hb:(y==x)=false:=by rw[V5];exact fun q=>this q.symm
   refine xR hb ?_;exact h
theorem xO (hb:bJ sc t d ae=XU bl)(hf:freshT ae t=true)(h:ae.lookup y=XU sl):bl.lookup y=XU sl:=by
 refine XR (kZ hb) (fun y0=>?_) fun y1=>?_
 ·refine fE y0 ?_;rintro x p (rfl) hb;refine xR (eG hb) (xR YT ?_);have hx:x≠y:=by rintro rfl;have hf:((ae.lookup x).isNone||false)=true:=hf;replace hf:=h▸hf;rcases hf with⟨⟩
  have hb:(y==x)=false:=by rw[V5];exact fun q=>hx q.symm
  refine xR hb ?_;exact h
 ·refine ke y1 ?_;rintro ts k p ds (rfl) hd hb;refine uk _ rfl hb (fun t ht x p e=>?_) h;subst e;rintro rfl;have:=ZH.mp (show ts.all (o5 ae)=true from hf) _ ht;have:(ae.lookup x).isNone=true:=this;replace this:=h▸this;rcases this with⟨⟩
theorem In.less (i:In C ak ag bl s)(h:∀y sl,ae.lookup y=XU sl->bl.lookup y=XU sl):In C ak ag ae s:=⟨i.bs,i.vo,fun x sl e=>i.lo x sl (h x sl e),i.cells⟩
theorem gX.SH (x:gX C (fun a=>W a\/a=I) s s')(h1:s.heap.get? I=XW)(h2:C.h₀.get? I=XW):gX C W s s':=⟨fun b o e t f w=>x.keep b o e t f fun q=>q.elim w fun q=>(by subst q;rw[h1]at e;exact aa e),fun b o f w e=>x.nO b o f (fun q=>q.elim w fun q=>(by subst q;rw[h1]at e;exact aa e)) e,fun z w=>x.bs z fun a q=>q.elim (w a) fun q=>q▸h2⟩
theorem oA.L6 (st:oA C ak ag sc ae D s vs aR):¬FW ag sc D:=by
 refine mi st.at_ fun o k ho hc hn hd=>?_;rintro(q|⟨x,q1,q2⟩)
 ·refine ke st.j0.ns fun m o' es ep ja cU y=>?_;rw[<-q,ho]at ja;obtain rfl:=XT ja;replace cU:=hd.symm.trans cU;rcases cU with⟨⟩
 ·obtain⟨_,_,v,o',ja,cU⟩:=st.j0.cell x D q1 q2;rw[ho]at ja;obtain rfl:=XT ja;replace cU:=hd.symm.trans cU;rcases cU with⟨⟩
theorem oA.dF (st:oA C ak ag sc ae D s vs aR):¬C.T D:=by refine mi st.at_ fun o k ho hc hn hd=>?_;exact st.bV.bs.dF ho (by rw[hd];nofun)
theorem oA.tW (st:oA C ak ag sc ae D s vs aR):¬C.fr D:=by refine mi st.at_ fun o k ho hc hn hd=>?_;exact st.bV.bs.dT ho (by rw[hd];nofun)
theorem oA.ex (st:oA C ak ag sc ae D s vs aR)(x:Ex C s s'):oA C ak ag sc ae D s' vs aR:=⟨st.bV.ex x,st.j0.ex st.bV.bs x,st.at_.keep fun o e=>x.keep _ _ e st.dF st.tW,st.yL.ex st.bV.vo x⟩
def lE (Φ:fN)(sc:WY)(t:Expr)(ifs:List Expr)(ae:az)(k:az->Option (List Dat))(d:Dat):Option (List Dat):=(bJ sc t d ae).bind fun bl=>(sQ Φ sc ifs bl).bind fun c=>cn c (k bl) (XU [])
def xY (C:Cx)(A:XN)(ak:XO->Prop)(ag:Env)(sc:WY)(D I:XO)(elt:Expr)(gens:List Xw)(xZ:WY)(pos:Pos)(depth:Nat)(k:az->Option (List Dat)):Prop:=∀{ae:az}{out aR:List Dat}{vs:List WJ}{s:WV},oA C ak ag sc ae D s vs aR->k ae=XU out->aR.length+out.length<=aW->∀(Q:Xr->WV->Prop)(E:WJ->WV->Prop),(∀s' mj,gX C (CW D ag sc) s s'->oA C ak ag sc ae D s' mj (aR++out)->Q (.again (.compLoop (.ListComp elt gens xZ pos) depth (.ref I) (.ref D) ag)) s')->aV (Wu pw Wd) A (f7 elt gens xZ pos depth (.ref I) (.ref D) ag) Q E s
theorem oA.less (st:oA C ak ag sc bl D s vs aR)(up:∀y sl,ae.lookup y=XU sl->bl.lookup y=XU sl):oA C ak ag sc ae D s vs aR:=⟨st.bV.less up,st.j0,st.at_,st.yL⟩
theorem vz (hA:dy C n A)(fx:pG C ak ag sc D A){k:az->Option (List Dat)}(HE:∀x∈ifs,jr C Φ A x)(HF:freshT ae t=true)(hk:xY C A ak ag sc D I elt gens sc pos depth k):xV C A ak ag sc ae D I elt gens sc pos depth t ifs (lE Φ sc t ifs ae k):=fun d out aR vs v s st hf hl r Q E hQ=>au hf fun cC hb hf=>au hf fun c hi hf=>ab (vI hA.handled fx.Uv st.bV st.j0 hb r fun s1 x1 i1 f1 g1=>by
   have LW:oA C ak ag sc cC D s1 vs aR:=⟨i1,f1,st.at_.keep fun o e=>x1.keep _ _ e st.dF st.tW st.L6,st.yL.exw st.bV.vo st.j0.DN x1⟩;have x1':gX C (CW D ag sc) s s1:=x1.mono fun a q=>.inr q;refine ab (yq fx.Uv HE i1 hi _ _ fun b' s2 x2 Om=>?_);subst Om;have Nc:=LW.ex x2;have Av:=x1'.trans x2.M8;have fin:∀s' mj,gX C (CW D ag sc) s s'->oA C ak ag sc cC D s' mj (aR++out)->Q (.again (.compLoop (.ListComp elt gens sc pos) depth (.ref I) (.ref D) ag)) s':=fun s' mj x z=>hQ s' mj x (z.less fun y sl=>xO hb HF);rcases b' with⟨⟩;case false=>obtain rfl:=XT hf;exact aj (fin s2 vs Av (by refine xR (ZF _) ?_;exact Nc))
   case true=>exact hk Nc hf hl Q E fun s' mj x z=>fin s' mj (Av.trans x) z)
set_option tactic.hygienic true in
theorem oA.grown (fx:pG C ak ag sc D A)(jY:oA C ak ag sc ae D s vs aR)(r3:Rep s.heap ak u d1)(Ui:LstAt h4 D (vs++[u]))(EC:Xn D s.heap h4):gX C (CW D ag sc) s {s with heap:=h4}/\oA C ak ag sc ae D {s with heap:=h4} (vs++[u]) (aR++[d1]):=by
 refine mi (id jY.at_) fun oD kD Ue hcD hnD Un=>?_;have x4:gX C (CW D ag sc) s {s with heap:=h4,toks:=s.toks}:=gX.same EC.extBut (.inl rfl) jY.dF (fun q=>(jY.tW q).elim) (fun oa mj y t' e1 e2=>by replace e1:=Ue.symm.trans e1;obtain rfl:=XT e1;replace e2:=Un.symm.trans e2;rcases e2 with⟨⟩);refine⟨x4,?_⟩;have Uy:=x4.bs jY.bV.bs (fx.new jY.j0);have sh:∀b o,s.heap.get? b=XU o->b≠D->h4.get? b=XU o:=fun b o e q=>(EC.2 b q).trans e;have nlo:∀{o:Obj},s.heap.get? D=XU o->o=oD:=fun e=>by replace e:=Ue.symm.trans e;exact(XT e).symm
 refine⟨⟨Uy,⟨jY.bV.vo.tabs,jY.bV.vo.fZ,fun a ha=>?_⟩,fun y sl hy=>?_,fun y c hc=>?_⟩,jY.j0.keep fun b o e w=>.of (sh b o e fun q=>jY.L6 (q▸w)),Ui,?_⟩
 ·by_cases q:a=D
  ·cases q;refine fE Ui fun o x ho x=>?_;exact⟨o,ho⟩
  ·refine aM (jY.bV.vo.there a ha) fun o e=>?_;exact⟨o,sh a o e q⟩
 ·refine aE (jY.bV.lo y sl hy) fun w hw hr=>?_;refine⟨w,hw.keep (fun o e hd=>.of (sh _ _ e (iJ (P:=fun o=>∃es n,o.data=.dict es n) e Ue hd fun⟨_,_,q⟩=>nomatch Un.symm.trans q))) fun b o c e hd=>sh _ _ e (iJ (P:=fun o=>∃c,o.data=.cell c) e Ue ⟨c,hd⟩ fun⟨_,q⟩=>nomatch Un.symm.trans q),?_⟩
  ·rcases sl with⟨⟩;case val d'=>exact Rep.eW fx.vD EC.extBut hr
   case own d'=>refine ZU fun hG=>?_;obtain⟨ro,a0,PA,Kq,Oa⟩:=hr;refine hG ?_;have gS:a0≠D:=fun q=>Oa (q▸fx.dL);refine⟨?_,a0,PA,Kq,Oa⟩;cases PA;cases ro with|rep r=>exact .rep (Rep.eW fx.vD EC.extBut r)|list h1 h2 h3 h4' h5=>exact .list (sh _ _ h1 gS) h2 h3 h4' (h5.eW fx.vD EC.extBut)|bz h1 h2 h3=>exact .bz (sh _ _ h1 gS) h2 h3
 ·refine fE (jY.bV.cells y c hc) fun w o b3 b4=>?_;exact⟨w,o,sh _ _ b3 (fun q=>by replace b3:=q▸b3;replace b4:=Un▸(nlo b3)▸b4;rcases b4 with⟨⟩),b4⟩
 ·exact(jY.yL.eW fx.vD EC.extBut).append (.cons (Rep.eW fx.vD EC.extBut r3) .nil)
theorem OQ (HG:fS C Φ A elt)(fx:pG C ak ag sc D A)(jU:gens[depth+1]?=XW):xY C A ak ag sc D I elt gens sc pos depth (fun vs=>(ev Φ sc elt vs).map one):=fun{ae out aR vs s}st hf hl Q E hQ=>bx hf fun d1 hv hf=>by subst hf;unfold f7;refine xR jU ?_;refine ab (ab (HG fx.Uv st.bV hv _ _ fun u s3 x3 r3=>?_));have jY:=st.ex x3;refine ab (vK jY.at_ (by refine xR jY.yL.length ?_;exact hl) fun h4 Ui EC=>aj (aj ?_));refine aZ (jY.grown fx r3 Ui EC) fun x4 Qp=>?_;exact hQ _ _ (x3.M8.trans x4) Qp
set_option tactic.hygienic true in
theorem Rep.Be (r:Rep h ak v d)(hd:bM d=XU ds)(ha:v=.ref a):¬ak a:=by
 subst ha;rcases d with⟨⟩;case list l=>refine ke r.lZ fun b o vs n e hv q=>?_;rcases e with⟨⟩;exact hv
 case tuple l=>refine ke r.tuple' fun b o vs n e hv q=>?_;rcases e with⟨⟩;exact hv
 case range x y z=>refine ke r.range' fun l t u w e hv q=>?_;rcases e with⟨⟩;exact hv
 case bytes b=>refine aM r.gK fun t e=>?_;(rcases e with⟨⟩)
 case str x=>refine aM r.ku fun t e=>?_;(rcases e with⟨⟩)
 all_goals (exact aa hd)
theorem Jz (fx:pG C ak ag sc D A){w:WJ}(jY:oA C ak ag sc ae D s vs aR)(hit:bM src=XU av)(r3:bt s.heap ak w src/\(Rep s.heap ak w src\/∃a,w=.ref a/\ak a/\a+1≠ag.locals)):∀a,w=.ref a->¬(CW D ag sc a\/C.T a\/C.fr a):=by
 rintro a rfl q;refine XR q (fun q=>?_) fun q=>?_
 ·have hro:=r3.1;have Kp:=fx.cw jY.j0 a q;have key:∀{o:Obj}{mj:Array WJ}{k:Nat},a≠D->s.heap.get? a=XU o->o.data=.seq mj k->False:=by
   intro o mj k hn ho hd;refine XR (q.resolve_left hn) (fun q=>?_) fun y0=>?_
   ·refine ke jY.j0.ns fun m o' es ep ja cU y=>?_;rw[<-q,ho]at ja;obtain rfl:=XT ja;replace cU:=hd.symm.trans cU;rcases cU with⟨⟩
   ·refine aE y0 fun x q1 q2=>?_;obtain⟨_,_,v',o',ja,cU⟩:=jY.j0.cell x a q1 q2;rw[ho]at ja;obtain rfl:=XT ja;replace cU:=hd.symm.trans cU;rcases cU with⟨⟩
  refine XR r3.2 (fun r=>?_) fun y0=>?_
  ·exact(r.Be hit rfl) Kp
  ·refine eB y0 fun a' e1 e2 e3=>?_;rcases e1 with⟨⟩;have hn:a≠D:=fun q=>e3 (q▸fx.dL);cases hro with|list ho hc Mm hd hr=>exact key hn ho hd|bz ho hc hd=>exact aa hit|rep r=>exact(r.Be hit rfl) Kp
 ·exact r3.1.L5 jY.bV.bs jY.bV.vo hit rfl q
theorem J4 (hA:dy C n A)(fx:pG C ak ag sc D A){k:az->Option (List Dat)}(Oe:fS C Φ A it)(jU:gens[depth+1]?=XU ⟨t,it,ifs,0⟩)(ih:∀{ae I},freshT ae t=true->xV C A ak ag sc ae D I elt gens sc pos (depth+1) t ifs (lE Φ sc t ifs ae k)):xY C A ak ag sc D I elt gens sc pos depth (fun ae=>if(0:Int)=0/\freshT ae t=true then(orOwn it ae (ev Φ sc it ae)).bind fun src=>(bM src).bind fun av=>cZ (lE Φ sc t ifs ae k) av else XW):=fun{ae out aR vs s}Nc hf hl Q E hQ=>aQ hf fun HF hf=>au hf fun src t8 hf=>au hf fun av hit hf=>by
 have Zak:=HF.2
 unfold f7
 refine xR jU ?_
 refine ab (uS Oe fx.Uv Nc.bV t8 _ _ fun w s3 x3 r3=>ab (aw ?_))
 have jY:=Nc.ex x3
 refine xR (gA (gQ t8) _) ?_
 refine ab (aj (ab (aA ?_)))
 have Aw:∀a,CW D ag sc a\/C.T a\/C.fr a->∃o,s3.heap.get? a=XU o:=fun a q=>by
  refine XR q (fun q=>?_) fun q=>?_
  ·exact jY.bV.vo.there a (fx.cw jY.j0 a q)
  ·exact jY.bV.vo.there a (jY.bV.vo.tf a q)
 refine qM r3.1 hit Aw (Jz fx jY hit r3) fun I' h4 Sb EF xI=>?_
 have x4:Ex C s3 {s3 with heap:=h4}:=.of_keep EF rfl rfl
 have Qp:=jY.ex x4
 have nT:¬C.T I':=fun q=>by refine aM (Aw I' (.inr (.inl q))) fun o e=>?_;rw[Sb]at e;exact aa e
 have nF:¬C.fr I':=fun q=>by refine aM (Aw I' (.inr (.inr q))) fun o e=>?_;rw[Sb]at e;exact aa e
 have nV:¬ak I':=fun q=>by refine aM (jY.bV.vo.there I' q) fun o e=>?_;rw[Sb]at e;exact aa e
 have n0:C.h₀.get? I'=XW:=by cases e:C.h₀.get? I' with|none=>rfl|some o=>have:=jY.bV.bs.keep I' o e nT;rw[Sb]at this;exact aa this
 have n3:s.heap.get? I'=XW:=by cases e:s.heap.get? I' with|none=>rfl|some o=>have:=x3.keep I' o e nT nF;rw[Sb]at this;exact aa this
 have xa:gX C (CW D ag sc) s s3:=x3.M8
 refine ab (fT ?_ T4)
 refine oh jU xI ?_
 exact qd jU fx _ n0 nT nV (ih Zak) av out aR vs {s3 with heap:=h4} xI Qp hf hl fun s5 vs5 UI Pm=>aj (hQ s5 vs5 (gX.SH (((xa.mono fun a q=>.inl q).trans x4.M8).trans UI) n3 n0) Pm)
theorem yC (HG:fS C Φ A elt)(hA:dy C n A)(qr:∀g∈gens,fS C Φ A g.iter/\∀x∈g.ifs,jr C Φ A x)(fx:pG C ak ag sc D A):∀(rest:List Xw)(depth:Nat)(t:Expr)(ifs:List Expr)(ae:az)(I:XO),gens.drop (depth+1)=rest->(∀x∈ifs,jr C Φ A x)->freshT ae t=true->xV C A ak ag sc ae D I elt gens sc pos depth t ifs (lE Φ sc t ifs ae fun vs=>sR Φ sc rest vs fun vs=>(ev Φ sc elt vs).map one):=by
 intro rest;induction rest with
 |nil=>intro depth t ifs ae I pX HE HF;exact vz hA fx HE HF (OQ HG fx (Zj (by have:=V4 Za pX;rw[Y7,YZ]at this;exact aT 0x91b01891b0c22 rfl this)))
 |cons y0 rest ih=>
  intro depth t ifs ae I pX HE HF;obtain⟨t',it',Rx,a'⟩:=y0;have jU:gens[depth+1]?=XU ⟨t',it',Rx,a'⟩:=by have:=V4 (·[0]?) pX;rw[List.getElem?_drop]at this;exact this
  have HI:gens.drop (depth+1+1)=rest:=by rw[<-ZC,pX];rfl
  have hg:=qr _ (YE jU);refine vz hA fx HE HF fun{ae out aR vs s}st hf=>?_;have ha:=aQ hf fun q y=>q.1;subst ha;exact J4 hA fx hg.1 jU (fun{ae I}h=>ih (depth+1) t' Rx ae I HI hg.2 h) st hf
theorem KX {v i:Expr}(h:∀a b c d,i≠.Slice a b c d):ev Φ sc (.Subscript v i p) ae=(orOwn v ae (ev Φ sc v ae)).bind fun a=>(ev Φ sc i ae).bind fun i=>dp a i:=by rcases i with⟨⟩<;>first|rfl|exact((h _ _ _ _) rfl).elim
theorem Km (hO:cI C n)(hA:dy C n A){v i:Expr}(iF:∀a b c d,i≠.Slice a b c d)(hv:fS C Φ A v)(hi:fS C Φ A i)(e:bh ag sc)(j:In C ak ag ae s)(h:ev Φ sc (.Subscript v i p) ae=XU d):eN C A ak (eval (.Subscript v i p) ag) d s:=au ((KX iF).symm.trans h) fun a h1 h=>au h fun b h2 h E Q q=>lP (dR hv e j h1 _ _ fun u s1 x1 r1=>hi e (j.ex x1) h2 _ _ fun w s2 x2 r2=>have j2:=(j.ex x1).ex x2;hO.item hA j2.bs j2.vo (r1.ex (j.ex x1).bs (j.ex x1).vo x2) r2 h iF _ _ fun z s3 x3 r3=>q z s3 ((x1.trans x2).trans x3) r3)
set_option tactic.hygienic true in
theorem LJ (h:asI d=XU l):∃k,d=.int k/\l=XU k:=by
 rcases d with⟨⟩;case int k=>exact⟨k,rfl,(XT h).symm⟩
 all_goals (exact aa h)
set_option tactic.hygienic true in
theorem wF {x:Option Expr}(hx:∀y,x=XU y->fS C Φ A y)(e:bh ag sc)(i:In C ak ag ae s)(h:MF Φ sc x ae=XU l):Wp C A (evalPart x ag) (fun v z=>Xf v l) s:=by
 rcases x with⟨⟩;case none=>obtain rfl:=XT h;exact Wp.pure .none
 case some y=>refine au h fun d h1 h=>?_;refine aE (LJ h) ?_;rintro k (rfl) (rfl);exact Wp.mono (hx y rfl e i h1) fun v s1 x1 r=>by refine aM r.fO ?_;rintro t (rfl);exact .int _ _
theorem kz (hO:cI C n)(hA:dy C n A){v:Expr}{lo hi st:Option Expr}{q:Pos}{d:Dat}(hv:fS C Φ A v)(h1:∀y,lo=XU y->fS C Φ A y)(h2:∀y,hi=XU y->fS C Φ A y)(h3:∀y,st=XU y->fS C Φ A y)(e:bh ag sc)(j:In C ak ag ae s)(h:ev Φ sc (.Subscript v (.Slice lo hi st q) p) ae=XU d):eN C A ak (eval (.Subscript v (.Slice lo hi st q) p) ag) d s:=au h fun a ha h=>au h fun l1 e1 h=>au h fun l2 e2 h=>au h fun l3 e3 h E Q k=>lP (dR hv e j ha _ _ fun u s1 x1 r1=>have j1:=j.ex x1;DI (wF h1 e j1 e1 _ _ fun v1 s2 x2 p1=>wF h2 e (j1.ex x2) e2 _ _ fun v2 s3 x3 p2=>wF h3 e ((j1.ex x2).ex x3) e3 _ _ fun v3 s4 x4 p3=>by have j4:=((j1.ex x2).ex x3).ex x4;have x5:Ex C s4 {s4 with heap:=s4.heap.push {cls:=.type "slice",data:=.fields #[v1,v2,v3]}}:=.of_keep (fun b o e=>Xl _ e) rfl rfl;have xx:=((x2.trans x3).trans x4).trans x5;exact hO.slice hA (j4.ex x5).bs (j4.ex x5).vo (r1.ex j1.bs j1.vo xx) ⟨_,Xk _ rfl,rfl,rfl⟩ p1 p2 p3 h _ _ fun z s6 x6 r6=>k z s6 ((x1.trans xx).trans x6) r6))
theorem Ka (hy:fS C Φ A y)(e:bh ag sc)(i:In C ak ag ae s)(h:d7 Φ sc [.Starred y p'] ae=XU ds):Wp C A (evalArgs f true (backTo p (starEach [.Starred y p'] ag)) []) (fun x s'=>x.kw=[]/\aK s'.heap ak x.pos ds) s:=au h fun Uu h h0=>au h fun d' h2 h E Q k=>by
  have hd:d'=.list Uu/\Uu.length<=aW:=by
   rcases d' with⟨⟩;case list l=>exact aQ h fun hc h=>by obtain rfl:=XT h;exact⟨rfl,hc⟩
   all_goals (exact aa h)
  refine aZ hd ?_;rintro(rfl) fP;obtain rfl:Uu=ds:=(ZF Uu).symm.trans (XT h0);delta evalArgs;dsimp only;refine ab (ab (dR hy e i h2 _ _ fun v s1 x1 r1=>ab (aw (aj (ab (aj (aA ?_)))))));refine cQ r1.lZ ?_;rintro b o' vs k' (rfl) ja qv y0;refine bH y0 fun Mm cU RI=>?_;refine ab (aj (ab (ab (gj (lh ja qv) slot_list_iter.lookup ?_))));show aV _ A (holding [] (collect (.ref b))) _ E s1;refine aA (ao <|wpAny_collect_seq b (.inl rfl) ja qv cU (fun h' hk=>?_) (by refine xR Yo (xR RI.length ?_);exact bK fP));have x2:Ex C s1 {s1 with heap:=h'}:=.of_keep hk rfl rfl;exact aj (k _ _ (x1.trans x2) ⟨rfl,RI.ex (i.ex x1).vo x2⟩)
theorem Nr:∀{l:List (Bool×WX WJ)},(∀t,l≠[(true,t)])->evalArgs f true l []=(spliced l>>=fun vs=>holding (vs++[]) (pure ⟨vs,[]⟩))|[],_=>rfl|(false,_)::_,_=>rfl|[(true,t)],h=>absurd rfl (h t)|(true,_)::_::_,_=>rfl
theorem F7 {p:Pos}:∀es:List Expr,(backTo p (starEach es ag)).length=es.length:=by
 intro es;induction es with
 |nil=>exact rfl
 |cons x es zy=>
  have ih:=zy;unfold backTo at ih ⊢;rw[Y4]at ih ⊢;by_cases hz:∃y p',x=.Starred y p'
  ·refine gY hz ?_;rintro y p' (rfl);exact V4 (·+1) ih
  ·rw[cD fun a b c=>hz ⟨a,b,c⟩];exact V4 (·+1) ih
theorem LK (hx:∀x∈args,∀y,(x=y\/∃p,x=.Starred y p)->fS C Φ A y)(e:bh ag sc)(i:In C ak ag ae s)(h1:d7 Φ sc args ae=XU ds):Wp C A (evalArgs f true (backTo p (starEach args ag)) []) (fun x s'=>x.kw=[]/\aK s'.heap ak x.pos ds) s:=by
 by_cases hl:∃y p',args=[.Starred y p']
 ·refine gY hl ?_;rintro y p' (rfl);exact Ka (hx _ YJ y (.inr ⟨p',rfl⟩)) e i h1
 ·rw[Nr fun t ht=>?_]
  ·exact fun E Q k=>ab (CO e hx i h1 _ _ fun vs s1 x1 p1=>aA (aj (k _ s1 x1 ⟨rfl,p1⟩)))
  ·have hn:=F7 (p:=p) (ag:=ag) args;rw[ht]at hn
   ·obtain⟨z,rfl⟩:=List.length_eq_one_iff.mp hn.symm;by_cases hz:∃y p',z=.Starred y p'
    ·refine gY hz ?_;rintro y p' (rfl);exact hl ⟨y,p',rfl⟩
    ·rw[cD fun a b c=>hz ⟨a,b,c⟩]at ht;have:=V4 (List.map (·.1)) ht;exact nomatch this
theorem Sx (hC:C.Ok)(hF:b9 C Φ n)(hA:dy C n A)(hx:∀x∈args,∀y,(x=y\/∃p,x=.Starred y p)->fS C Φ A y)(e:bh ag sc)(i:In C ak ag ae s)(hf:sc.names.lookup f=XU .globalImplicit)(hg:Φ.fn f=XU g)(h1:d7 Φ sc args ae=XU ds)(h:g ds=XU d):eN C A ak (eval (.Call (.Name f q) args [] p) ag) d s:=by refine DD (hF.fn hg) fun a o fd hm hd hT ho y0=>?_;refine aZ y0 fun hfd call=>?_;intro E Q k;refine ab (o3 hC e i.bs hf hd hm (mO (LK hx e i h1 _ _ fun x s1 x1 r1=>⟨⟨(i.ex x1).bs.keep a o ho hT,hfd⟩,?_⟩)));obtain⟨ps,kw⟩:=x;refine aZ r1 ?_;rintro(rfl) r1;exact call hA (i.ex x1).bs (i.ex x1).vo r1 h _ _ fun v s2 x2 r2=>k v s2 (x1.trans x2) r2
theorem O1 (hC:C.Ok)(hF:b9 C Φ n)(hA:dy C n A)(hx:∀x∈args,fS C Φ A x)(e:bh ag sc)(i:In C ak ag ae s)(hf:sc.names.lookup f=XU .globalImplicit)(hg:Φ.tC f=XU g)(h1:mH Φ sc args ae=XU ds)(h:g ds=XU d):eN C A ak (eval (.Call (.Name f q) args [] p) ag) d s:=by refine ye (hF.tC hg) fun v hm hb hd hnr call=>?_;intro E Q k;refine ab (fh hC e i.bs hf hd hm hb ?_);have iF:=ip (pos:=p) (kI (ag:=ag) h1);refine b6 hnr iF (cf iF (oV e hx i h1) _ _ fun x s1 x1 r1=>?_);obtain⟨ps,kw⟩:=x;refine aZ r1 ?_;rintro(rfl) r1;exact call hA (i.ex x1).bs (i.ex x1).vo r1 h _ _ fun v s2 x2 r2=>k v s2 (x1.trans x2) r2
theorem HU (iF:l.any (·.1)=false)(hl:m<30):methodCallForm (m+0) l (backToKw p (keywordEach [] ag))=true:=by
 have h1:l.all (!·.1)=true:=by rw[ZH];intro x hx;refine xR (Z4.mpr (List.any_eq_false.mp iF x hx)) ?_;rfl
 show(l.all (!·.1)&&true&&decide (m+0+0<30))=true;refine xR h1 ?_;exact VZ hl
theorem ti {o:Expr}(hp:(ap.endLine==p.line)=true):methodCallPos true o ag ap p=pure p:=by unfold methodCallPos;simp only[ZW,Bool.false_or,hp,if_true]
theorem J8 (hF:b9 C Φ n)(hA:dy C n A){o:Expr}{a:Dat}(ho:fS C Φ A o)(hx:∀x∈args,fS C Φ A x)(e:bh ag sc)(i:In C ak ag ae s)(hb:uN o=true)(hp:(ap.endLine==p.line)=true)(hl:args.length<30)(h0:orOwn o ae (ev Φ sc o ae)=XU a)(h1:Dk Φ sc args ae=XU ds)(h:Φ.oR m a ds=XU d):eN C A ak (eval (.Call (.Attribute o m ap) args [] p) ag) d s:=by
 intro E Q k;have e0:attributeBase o m ag (eval o ag)=eval o ag:=by rcases o with⟨⟩<;>first|rfl|rcases hb with⟨⟩
 show aV _ A (attributeBase o m ag (eval o ag)>>=fun ov=>standAt ap.atName>>=fun y=>methodCall o m ap p ag ov (args.length+0) (backTo p (starEach args ag)) (backToKw p (keywordEach [] ag))) Q E s;refine xR e0 ?_;refine ab (dR ho e i h0 _ _ fun v s1 x1 r1=>ab (aw ?_));have i1:=i.ex x1;refine aE (hF.oR h i1.bs i1.vo r1) fun id hm call=>?_;have iF:=ip (pos:=p) (iT (ag:=ag) h1);have HV:methodCallForm (args.length+0) (backTo p (starEach args ag)) (backToKw p (keywordEach [] ag))=true:=HU iF hl;unfold methodCall;refine xR HV ?_;refine ab (aA ?_);refine hm _ _ fun r s2 x2 hr=>?_;subst hr;refine ab (Eq.mpr (V4 (fun t=>aV (Wu pw Wd) A t _ E s2) (ti hp)) (aj ?_));have i2:=i1.ex x2;refine b6 (fun y q=>by rcases q with⟨⟩) iF (cf iF (ie e hx i2 h1) _ _ fun x s3 x3 r3=>?_);obtain⟨ps,kw⟩:=x;refine aZ r3 ?_;rintro(rfl) r3;have i3:=i2.ex x3;exact call hA i3.bs i3.vo (r1.ex i1.bs i1.vo (x2.trans x3)) r3 _ _ fun v s4 x4 r4=>k v s4 (x1.trans ((x2.trans x3).trans x4)) r4
theorem FY {x:Expr}{es:List Expr}(h:x∈es):sizeOf x<sizeOf es:=Yp h
theorem pI (hO:cI C n)(hA:dy C n A){x:Expr}(hx:fS C Φ A x)(e:bh ag sc)(i:In C ak ag ae s)(he:∀whole,isTrue x ag whole=(do let v <-whole;standAt x.pos;holding [v] (truthy v)))(h:(ev Φ sc x ae).bind qj=XU b):Wp C A (isTrue x ag (eval x ag)) (fun t y=>t=b) s:=au h fun d h1 h E Q q=>oE (hx e i h1 _ _ fun v s1 x1 r1=>hO.TY hA (i.ex x1).bs (i.ex x1).vo (.rep r1) h _ _ fun t s2 x2 ht=>q t s2 (x1.trans x2) ht) (he _)
theorem B6 (hO:cI C n)(hA:dy C n A)(hl:fS C Φ A l)(hc:∀y∈cs,fS C Φ A y)(e:bh ag sc)(i:In C ak ag ae s)(h:ev Φ sc (.Compare l ops cs p) ae=XU d):eN C A ak (eval (.Compare l ops cs p) ag) d s:=au h fun a h1 h=>au h fun b h2 h E Q q=>by obtain rfl:=XT h;exact ab (dR hl e i h1 _ _ fun v s1 x1 r1=>(s9 hO hA e hc (i.ex x1) r1 h2).1 _ _ fun u s2 x2 hu=>hu▸q _ s2 (x1.trans x2) (.bool b))
theorem zT (hO:cI C n)(hA:dy C n A)(hl:fS C Φ A l)(hc:∀y∈cs,fS C Φ A y)(e:bh ag sc)(i:In C ak ag ae s)(h:(orOwn l ae (ev Φ sc l ae)).bind (fun a=>nY Φ sc a ops cs ae)=XU b):Wp C A (isTrue (.Compare l ops cs p) ag (eval (.Compare l ops cs p) ag)) (fun t x=>t=b) s:=au h fun a h1 h E Q q=>by exact ab (dR hl e i h1 _ _ fun v s1 x1 r1=>(s9 hO hA e hc (i.ex x1) r1 h).2 _ _ fun u s2 x2 hu=>q _ s2 (x1.trans x2) hu)
theorem Hl {b o:Expr}(ht:jr C Φ A t)(hb:fS C Φ A b)(ho:fS C Φ A o)(e:bh ag sc)(i:In C ak ag ae s)(h:ev Φ sc (.IfExp t b o p) ae=XU d):eN C A ak (eval (.IfExp t b o p) ag) d s:=au h fun c h1 h E Q q=>DJ (ht e i h1 _ _ fun c' s1 x1 hc=>by
  subst hc;rcases c' with⟨⟩;case true=>exact hb e (i.ex x1) h _ _ fun v s2 x2 r2=>q v s2 (x1.trans x2) r2
  case false=>exact ho e (i.ex x1) h _ _ fun v s2 x2 r2=>q v s2 (x1.trans x2) r2)
theorem Ez {c o:Expr}(ht:jr C Φ A t)(hb:jr C Φ A c)(ho:jr C Φ A o)(e:bh ag sc)(i:In C ak ag ae s)(h:(dQ Φ sc t ae (ev Φ sc t ae)).bind (fun x=>cn x (dQ Φ sc c ae (ev Φ sc c ae)) (dQ Φ sc o ae (ev Φ sc o ae)))=XU b):Wp C A (isTrue (.IfExp t c o p) ag (eval (.IfExp t c o p) ag)) (fun t y=>t=b) s:=au h fun x h1 h E Q q=>by
  refine ab (ht e i h1 _ _ fun c2 s1 x1 hc=>?_);subst hc;rcases c2 with⟨⟩;case true=>exact hb e (i.ex x1) h _ _ fun v s2 x2 r2=>q v s2 (x1.trans x2) r2
  case false=>exact ho e (i.ex x1) h _ _ fun v s2 x2 r2=>q v s2 (x1.trans x2) r2
theorem Kb (hx:∀y∈es,fS C Φ A y)(e:bh ag sc)(i:In C ak ag ae s)(h:ev Φ sc (.List es p) ae=XU d):eN C A ak (eval (.List es p) ag) d s:=au h fun ds h1 h=>aQ h fun fP h E Q q=>by obtain rfl:=XT h;refine yk (ie e hx i h1 _ _ fun vs s1 x1 r1=>⟨by rw[r1.length];exact bK fP,?_⟩);have x2:Ex C s1 {s1 with heap:=s1.heap.push {cls:=.type "list",data:=.seq vs.toArray}}:=.of_keep (fun b o e=>Xl _ e) rfl rfl;exact q _ _ (x1.trans x2) (.list ((i.ex x1).vo.new (aF _)) (Xk _ rfl) rfl rfl rfl (r1.ex (i.ex x1).vo x2))
theorem FK (hx:∀y∈es,fS C Φ A y)(e:bh ag sc)(i:In C ak ag ae s)(h:ev Φ sc (.Tuple es j p) ae=XU d):eN C A ak (eval (.Tuple es j p) ag) d s:=au h fun ds h1 h=>aQ h fun fP h E Q q=>by obtain rfl:=XT h;refine DH (ie e hx i h1 _ _ fun vs s1 x1 r1=>⟨by rw[r1.length];exact bK fP,?_⟩);have x2:Ex C s1 {s1 with heap:=s1.heap.push {cls:=.type "tuple",data:=.seq vs.toArray}}:=.of_keep (fun b o e=>Xl _ e) rfl rfl;exact q _ _ (x1.trans x2) (.tuple ((i.ex x1).vo.new (aF _)) (Xk _ rfl) rfl rfl (r1.ex (i.ex x1).vo x2))
theorem wQ (hC:C.Ok)(hF:b9 C Φ n)(hA:dy C n A)(hx:∀x∈args,∀y,(x=y\/∃p,x=.Starred y p)->fS C Φ A y)(e:bh ag sc)(i:In C ak ag ae s)(h:ev Φ sc (.Call (.Name f q) args [] p) ae=XU d):eN C A ak (eval (.Call (.Name f q) args [] p) ag) d s:=by have h':=h;refine aQ h' fun hg h=>?_;cases hfn:Φ.fn f with|some g=>rw[hfn]at h;exact au h fun ds h1 h=>Sx hC hF hA hx e i hg.2 hfn h1 h|none=>rw[hfn]at h;exact au h fun g hb h=>au h fun ds h1 h=>O1 hC hF hA (fun y hy=>hx y hy y (.inl rfl)) e i hg.2 hb h1 h
theorem wR (hF:b9 C Φ n)(hA:dy C n A){o:Expr}(ho:fS C Φ A o)(hx:∀x∈args,fS C Φ A x)(e:bh ag sc)(i:In C ak ag ae s)(h:ev Φ sc (.Call (.Attribute o m ap) args [] p) ae=XU d):eN C A ak (eval (.Call (.Attribute o m ap) args [] p) ag) d s:=aQ h fun hb h=>au h fun a h1 h=>au h fun ds h2 h=>J8 hF hA ho hx e i hb.1 hb.2.1 hb.2.2 h1 h2 h
theorem zj (hA:dy C n A){a:Int}(HG:fS C Φ A elt)(qr:∀g∈(⟨t,it,ifs,a⟩::rest:List Xw),fS C Φ A g.iter/\∀x∈g.ifs,jr C Φ A x)(e:bh ag sc)(i:In C ak ag ae s)(h:ev Φ sc (.ListComp elt (⟨t,it,ifs,a⟩::rest) cj p) ae=XU d):eN C A ak (eval (.ListComp elt (⟨t,it,ifs,a⟩::rest) cj p) ag) d s:=aQ h fun ha h=>au h fun src t8 h=>au h fun av hit h=>au h fun ds hm h=>aQ h fun fP h E Q q=>by
  obtain rfl:=XT h;refine bH ha ?_;rintro(rfl) fL HF;refine vx hA.handled e i fL (gA (gQ t8)) (dR (qr _ YJ).1 e i t8) hit _ hm fP (fun fF eR D I fx=>yC HG hA qr fx rest 0 t ifs _ I rfl (qr _ YJ).2 HF) fun L D s1 x1 r1 hL iF=>?_;refine aM iF fun m Ao=>?_;refine⟨m,Ao,fun h' zD=>?_⟩;refine qV (id Ao) fun oL es ep EE Dd z=>?_;have hT:=(x1.bs i.bs).dF EE (by rw[Dd];nofun);have x2:gX C (fun a=>a=L) s1 {s1 with heap:=h',toks:=s1.toks}:=gX.same zD.extBut rfl hT (fun q=>by refine aM (i.vo.there L (i.vo.fZ L q)) fun o e=>?_;rw[hL]at e;exact aa e) (fun oa vs y t' e1 e2=>by rw[EE]at e1;obtain rfl:=XT e1;rw[Dd]at e2;rcases e2 with⟨⟩);exact q _ {s1 with heap:=h'} ((x1.M8.trans x2).Qb (fun a q=>q▸hL) fun a q=>q▸hT) (r1.HW EE (.inl ⟨_,_,Dd⟩) zD.extBut)
theorem cY {x:Expr}(h:m<k+1)(hx:sizeOf x<m):sizeOf x<k:=Yd hx (Nat.le_of_lt_succ h)
theorem iO {es:List Expr}{m:Nat}(h:m<k+1)(he:sizeOf es<m):∀x∈es,sizeOf x<k:=fun x hx=>X9 (FY hx) (Yd he (Nat.le_of_lt_succ h))
theorem CN {x:Expr}:sizeOf x<sizeOf (Expr.Starred x p):=by simp;exact aT 0x109bb001 rfl
set_option tactic.hygienic true in
theorem main (hC:C.Ok)(hO:cI C n)(hF:b9 C Φ n)(hA:dy C n A)(k:Nat)(ih:∀x:Expr,sizeOf x<k->fS C Φ A x/\jr C Φ A x)(x:Expr)(hk:sizeOf x<k+1):fS C Φ A x:=by
 intro ag sc ak ae d s e i h;rcases x with⟨⟩;case Constant c j p=>exact Ii h
 case Name y p=>exact wO hC hF e i h
 case BinOp l op r p=>exact Cq hO hA (ih l (cY hk (by simp;exact cX 0x32109bbbb001 rfl))).1 (ih r (cY hk (by simp;exact cX 0x30219bbbb001 rfl))).1 e i h
 case UnaryOp op y p=>exact PR hO hA (ih y (cY hk (by simp;exact br 0x2019bbb001 rfl))).1 e i h
 case BoolOp op vs p=>exact vF hO hA e (fun y hy=>(ih y (iO hk (by simp;exact br 0x2019bbb001 rfl) y hy)).1) i h
 case Compare l ops cs p=>exact B6 hO hA (ih l (cY hk (by simp;exact cX 0x32109bbbb001 rfl))).1 (fun y hy=>(ih y (iO hk (by simp;exact cX 0x30219bbbb001 rfl) y hy)).1) e i h
 case IfExp t b o p=>exact Hl (ih t (cY hk (by simp;exact cX 0x32109bbbb001 rfl))).2 (ih b (cY hk (by simp;exact cX 0x32019bbbb001 rfl))).1 (ih o (cY hk (by simp;exact cX 0x30219bbbb001 rfl))).1 e i h
 case List es p=>exact Kb (fun y hy=>(ih y (iO hk (by simp;exact aT 0x109bb001 rfl) y hy)).1) e i h
 case Tuple es j p=>exact FK (fun y hy=>(ih y (iO hk (by simp;exact br 0x2109bbb001 rfl) y hy)).1) e i h
 case Subscript v j p=>
  by_cases hs:∃a b c d,j=.Slice a b c d
  ·refine MX hs ?_;rintro lo hi st q (rfl);exact kz hO hA (ih v (cY hk (by simp;exact CC 0x543219bbbb09bbb001 rfl))).1 (fun y hy=>(ih y (cY hk (by subst hy;simp;exact CC 0x543209b9bbbb19bbb001 rfl))).1) (fun y hy=>(ih y (cY hk (by subst hy;simp;exact CC 0x54309b29bbbb19bbb001 rfl))).1) (fun y hy=>(ih y (cY hk (by subst hy;simp;exact CC 0x5409b329bbbb19bbb001 rfl))).1) e i h
  ·exact Km hO hA (fun a b c d q=>hs ⟨a,b,c,d,q⟩) (ih v (cY hk (by simp;exact br 0x2109bbb001 rfl))).1 (ih j (cY hk (by simp;exact br 0x2019bbb001 rfl))).1 e i h
 case Call f args C3 p=>
  have hx:=iO hk (by simp;exact cX 0x32019bbbb001 rfl);rcases C3 with⟨⟩;case cons kw C3=>exact aa h
  case nil=>
   rcases f with⟨⟩;case Attribute o m ap=>exact wR hF hA (ih o (cY hk (by simp;exact oC 0x4932109bbb9bbbb001 rfl))).1 (fun y hy=>(ih y (hx y hy)).1) e i h
   case Name g q=>
    refine wQ hC hF hA (fun y hy z hz=>?_) e i h;refine XR hz (fun hz=>?_) fun y0=>?_
    ·exact(ih z (hz▸hx y hy)).1
    ·refine aM y0 fun p' hz=>?_;exact(ih z (X9 CN (hz▸hx y hy))).1
   all_goals (exact aa h)
 case ListComp elt gens cj p=>
  rcases gens with⟨⟩;case nil=>exact aa h
  case cons g rest=>
   obtain⟨t,it,ifs,a⟩:=g;refine zj hA (ih elt (cY hk (by simp;exact MU 0x76543219bbbb9bb09bbbb001 rfl))).1 (fun g hg=>?_) e i h;have Um:sizeOf g.iter+sizeOf g.ifs<k:=by
    have h1:=Yp hg;obtain⟨a1,a2,a3,a4⟩:=g;simp only[Xw.mk.sizeOf_spec]at h1;have h2:sizeOf (⟨t,it,ifs,a⟩::rest:List Xw)<sizeOf (Expr.ListComp elt (⟨t,it,ifs,a⟩::rest) cj p):=by simp only[Expr.ListComp.sizeOf_spec];exact cX 0x32019bbbb001 rfl
    exact PJ 0x143b0060654329bbbb091b004 rfl hk h1 h2
   exact⟨(ih _ (Nat.lt_of_le_of_lt (Nat.le_add_right _ _) Um)).1,fun y hy=>(ih y (X9 (FY hy) (Nat.lt_of_le_of_lt (Nat.le_add_left _ _) Um))).2⟩
 all_goals (exact aa h)
set_option tactic.hygienic true in
theorem QW (hO:cI C n)(hA:dy C n A)(k:Nat)(ih:∀x:Expr,sizeOf x<k->fS C Φ A x/\jr C Φ A x)(x:Expr)(hk:sizeOf x<k+1)(hv:fS C Φ A x):jr C Φ A x:=by
 intro ag sc ak ae b s e i h;rcases x with⟨⟩;case UnaryOp op y p=>
  rcases op with⟨⟩;case Not=>exact bx h fun c h1 h E Q q=>qW ((ih y (cY hk (by simp;exact aT 0x1002abb001 rfl))).2 e i h1 _ _ fun t s1 x1 ht=>q _ s1 x1 (by rw[ht];exact h))
  all_goals (exact pI hO hA hv e i (fun z=>rfl) h)
 case BoolOp op vs p=>exact fun E Q q=>mZ (Pb (pos:=p) e (fun y hy=>(ih y (iO hk (by simp;exact br 0x2019bbb001 rfl) y hy)).2) i h _ _ q)
 case Compare l ops cs p=>exact zT hO hA (ih l (cY hk (by simp;exact cX 0x32109bbbb001 rfl))).1 (fun y hy=>(ih y (iO hk (by simp;exact cX 0x30219bbbb001 rfl) y hy)).1) e i h
 case IfExp t c o p=>exact Ez (ih t (cY hk (by simp;exact cX 0x32109bbbb001 rfl))).2 (ih c (cY hk (by simp;exact cX 0x32019bbbb001 rfl))).2 (ih o (cY hk (by simp;exact cX 0x30219bbbb001 rfl))).2 e i h
 all_goals (exact pI hO hA hv e i (fun z=>rfl) h)
theorem both (hC:C.Ok)(hO:cI C n)(hF:b9 C Φ n)(hA:dy C n A):∀(k:Nat)(x:Expr),sizeOf x<k->fS C Φ A x/\jr C Φ A x:=by intro k;induction k with|zero=>intro x h;exact absurd h (X5 _)|succ k ih=>intro x h;exact⟨main hC hO hF hA k (ih) x h,QW hO hA k (ih) x h (main hC hO hF hA k (ih) x h)⟩
theorem cW (hC:C.Ok)(hO:cI C n)(hF:b9 C Φ n)(hA:dy C n A)(x:Expr):fS C Φ A x:=(both hC hO hF hA _ x (Yb _)).1
theorem lA (hC:C.Ok)(hO:cI C n)(hF:b9 C Φ n)(hA:dy C n A)(x:Expr):jr C Φ A x:=(both hC hO hF hA _ x (Yb _)).2
inductive Fl where
 |next (ae:az)
 |brk (ae:az)
 |cont (ae:az)
 |ret (d:Dat)
noncomputable def tU (x:Dat):List Dat->Option (List Dat)
 |[]=>XW
 |y::ys=>match qy y x with
  |some true=>XU ys|some false=>(tU x ys).map (y::·)|none=>XW
def ny (m:WS)(a:Dat)(args:List Dat):Option Dat:=match a,args with
 | .list ds,[d]=>if m="append" then(if ds.length+1<=aW then XU (.list (ds++[d]))else XW)else if m="extend" then(match d with| .tuple es=>if ds.length+es.length<=aW then XU (.list (ds++es))else XW|_=>XW)else if m="remove" then(if ds.length<=aW then(tU d ds).map .list else XW)else XW
 |_,_=>XW
def oJ (a i d:Dat):Option Dat:=match a,i,d with
 | .list ds,.int i,d=>if 0<=i/\i<(ds.length:Int)/\ds.length<=aW then XU (.list (ds.set i.toNat d))else XW| .bz b,.int i,.int k=>if 0<=i/\i<(b.length:Int)/\b.length<=aW/\0<=k/\k<256 then XU (.bz (b.set i.toNat k.toNat.toUInt8))else XW|_,_,_=>XW
def p9 (Φ:fN)(sc:WY)(e:Expr)(ae:az):Option (Dat×az):=match ev Φ sc e ae with
 |some d=>XU (d,ae)|none=>(ev Φ sc e (aS ae)).map fun d=>(d,aS ae)
def xt (Φ:fN)(sc:WY)(e:Expr)(ae:az):Option (Bool×az):=match dQ Φ sc e ae (ev Φ sc e ae)with
 |some d=>XU (d,ae)|none=>(dQ Φ sc e (aS ae) (ev Φ sc e (aS ae))).map fun d=>(d,aS ae)
noncomputable def wZ:Expr->Bool| .ListComp .. =>true| .SetComp .. =>true| .DictComp .. =>true|_=>false
noncomputable def isTup:Expr->Bool| .Tuple .. =>true|_=>false
def newD (f:WS)(ds:List Dat):Option Dat:=match ds with
 |[d]=>
  if f="list" then(match d with
   | .list _| .tuple _| .range _ _ _=>(match bM d with|some es=>if es.length<=aW then XU (.list es)else XW|none=>XW)
   |_=>XW)
  else if f="bytearray" then(match d with
   | .int n=>if 0<=n/\n<=(aW:Int)then XU (.bz (Yv n.toNat 0))else XW| .bytes b=>if b.length<=aW then XU (.bz b)else XW|_=>XW)
  else XW
 |_=>XW
noncomputable def isNew (Φ:fN)(sc:WY)(ae:az)(f:WS):Bool:=(f="list"||f="bytearray")&&(ae.lookup f).isNone&&sc.names.lookup f==XU .globalImplicit&&(Φ.fn f).isNone
noncomputable def xS:Expr->Option (List Expr)| .List es _=>XU es|_=>XW
def z5:Expr->Option (WS×List Expr)
 | .Call f args C3 _=>match C3 with
  |[]=>(asName f).map (·,args)|_=>XW
 |_=>XW
set_option tactic.hygienic true in
theorem Cw:xS t=XU ts->∃p,t=.List ts p:=by
 rcases t with⟨⟩;case List us p=>exact fun h=>⟨p,V4 (Expr.List · p) (XT h)⟩
 all_goals exact aa
set_option tactic.hygienic true in
theorem vC:z5 t=XU z->∃q p,t=.Call (.Name z.1 q) z.2 [] p:=by
 rcases t with⟨⟩;case Call f args C3 p=>
  rcases C3 with⟨⟩;case nil=>exact fun h=>bx h fun x h1 h=>(gg h1).elim fun q e=>⟨q,p,by exact xL h (xR e rfl)⟩
  case cons k ks=>exact aa
 all_goals exact aa
noncomputable def D3 (sc:WY)(x:WS)(r:Dat×az):Option az:=b8 sc x (.val r.1) r.2
def jQ (Φ:fN)(sc:WY)(x:WS)(value:Expr)(ae:az):Option az:=match xS value with
 |some es=>(Dk Φ sc es ae).bind fun ds=>if ds.length<=aW then b8 sc x (.own (.list ds)) ae else XW|none=>cn ((z5 value).any fun z=>z.2.length==1&&isNew Φ sc ae z.1) ((z5 value).bind fun z=>(mH Φ sc z.2 ae).bind fun ds=>(newD z.1 ds).bind fun d=>b8 sc x (.own d) ae) ((p9 Φ sc value ae).bind (D3 sc x))
noncomputable def iN (k:az->Option Fl):Fl->Option Fl| .next ae=>k ae| .cont ae=>k ae| .brk ae=>XU (.next ae)| .ret d=>XU (.ret d)
noncomputable def oq (k:az->Option Fl):Fl->Option Fl| .next ae=>k ae|r=>XU r
noncomputable def cP (step:Dat->az->Option Fl):List Dat->az->Option Fl|[],ae=>XU (.next ae)|d::ds,ae=>(step d ae).bind (iN (cP step ds))
def tO (test:az->Option Bool)(step:az->Option Fl):Nat->az->Option Fl|0,_=>XW|k+1,ae=>(test ae).bind fun c=>cn c ((step ae).bind (iN (tO test step k))) (XU (.next ae))
noncomputable def two:List Expr->Option (Expr×Expr)|[a,b]=>XU (a,b)|_=>XW
def lF (e:Expr):Option (WS×Expr×Expr):=(z5 e).bind fun z=>(two z.2).map (z.1,·)
def kc (Φ:fN)(sc:WY)(it:Expr)(ae:az):Option (Expr×Expr):=(lF it).bind fun z=>if z.1="zip"/\(Φ.tC z.1).isSome=true/\ae.lookup z.1=XW/\sc.names.lookup z.1=XU .globalImplicit then XU z.2 else XW
theorem Jm (h:two es=XU z):es=[z.1,z.2]:=by rcases es with⟨⟩|⟨a,⟨⟩|⟨b,⟨⟩⟩⟩<;>first|exact aa h|(obtain rfl:=XT h;rfl)
theorem z3 (h:lF it=XU z):∃fp p,it=.Call (.Name z.1 fp) [z.2.1,z.2.2] [] p:=au h fun y h1 h=>bx h fun w h2 h=>(vC h1).elim fun q e=>e.elim fun p e=>⟨q,p,by exact xL h (xR e (xR (Jm h2) rfl))⟩
noncomputable def mz:Option Fl->Option Fl->Option Fl|some r,_=>XU r|none,b=>b
noncomputable def ownOf (ae:az)(x:WS):Option Dat:=match ae.lookup x with
 |some (.own a)=>XU a|_=>XW
noncomputable def Fx:Dat->Dat->Option (List Dat)| .list xs,.list ys=>XU (List.zipWith (fun x y=>.tuple [x,y]) xs ys)|_,_=>XW
def ue (Φ:fN)(sc:WY)(t it:Expr)(k:az->Option Fl)(ae:az):Option Fl:=match kc Φ sc it ae with
  |some z=>cn (isTup t) ((ev Φ sc z.1 ae).bind fun x=>(ev Φ sc z.2 ae).bind fun y=>(Fx x y).bind fun zs=>cP (fun d vs=>match bJ sc t d vs with
      |none=>XW|some vs=>k vs) zs ae) XW
  |none=>(p9 Φ sc it ae).bind fun r=>(bM r.1).bind fun av=>cP (fun d vs=>match bJ sc t d vs with
      |none=>XW|some vs=>k vs) av r.2
set_option genCtorIdx false in
inductive Tg where
 |name (x:WS)|tup|item (x:WS) (i:Expr)|no
def TZ:Expr->Tg
 | .Name x _=>.name x
 | .Tuple .. =>.tup
 | .Subscript o i _=>match asName o with
  |some x=>.item x i|none=>.no
 |_=>.no
noncomputable def TgV (t:Expr):Tg->Prop| .name x=>∃p,t=.Name x p| .tup=>∃ts k q,t=.Tuple ts k q| .item x i=>∃p q,t=.Subscript (.Name x p) i q| .no=>True
set_option tactic.hygienic true in
theorem Qc (t:Expr):TgV t (TZ t):=by
 rcases t with⟨⟩;case Name x p=>exact⟨p,rfl⟩
 case Tuple ts k q=>exact⟨ts,k,q,rfl⟩
 case Subscript o i q=>show TgV _ (match asName o with|some x=>.item x i|none=>.no);cases h:asName o with|none=>exact trivial|some x=>exact(gg h).elim fun p e=>⟨p,q,e▸rfl⟩
 all_goals exact trivial
def Iz:Expr->Option (WS×WS×List Expr×Pos×Pos)
 | .Call f args C3 p=>match C3 with
  |[]=>match f with
   | .Attribute o m ap=>(asName o).map (·,m,args,ap,p)|_=>XW
  |_=>XW
 |_=>XW
set_option tactic.hygienic true in
theorem EY:Iz e=XU z->∃xp,e=.Call (.Attribute (.Name z.1 xp) z.2.1 z.2.2.2.1) z.2.2.1 [] z.2.2.2.2:=by
 rcases e with⟨⟩;case Call f args C3 p=>
  rcases C3 with⟨⟩;case cons k ks=>exact aa
  case nil=>
   rcases f with⟨⟩;case Attribute o m ap=>exact fun h=>bx h fun x h1 h=>(gg h1).elim fun q e=>⟨q,by exact xL h (xR e rfl)⟩
   all_goals exact aa
 all_goals exact aa
def vn (Φ:fN)(sc:WY)(t value:Expr)(ae:az):Option Fl:=match TZ t with
 | .name x=>(jQ Φ sc x value ae).map .next| .tup=>cn (wZ value||isTup value) XW ((p9 Φ sc value ae).bind fun r=>(bJ sc t r.1 r.2).map .next)| .item x i=>cn (wZ value) XW ((ownOf ae x).bind fun a=>(ev Φ sc value ae).bind fun d=>(ev Φ sc i ae).bind fun j=>(oJ a j d).map fun a'=>.next ((x,.own a')::ae))| .no=>XW
def xn (Φ:fN)(sc:WY)(e:Expr)(ae:az):Option Fl:=(Iz e).bind fun z=>if(z.2.2.2.1.endLine==z.2.2.2.2.line)=true/\z.2.2.1.length<30 then(ownOf ae z.1).bind fun a=>(Dk Φ sc z.2.2.1 ae).bind fun ds=>(ny z.2.1 a ds).map fun a'=>.next ((z.1,.own a')::ae)else XW
mutual
def ex (Φ:fN)(Ψ:WY->WT->az->Option Fl)(sc:WY):WT->az->Option Fl
 | .Assign ts value _,ae=>match ts with
  |[t]=>vn Φ sc t value ae
  |_=>XW
 | .Expr v _,ae=>xn Φ sc v ae
 | .If t b o _,ae=>(xt Φ sc t ae).bind fun r=>cn r.1 (cz Φ Ψ sc b r.2) (cz Φ Ψ sc o r.2)
 | .For t it b o _,ae=>match o with
  |[]=>ue Φ sc t it (fun vs=>cz Φ Ψ sc b vs) ae
  |_=>XW
 | .While t b o _,ae=>match o with
  |[]=>tO (fun vs=>dQ Φ sc t vs (ev Φ sc t vs)) (fun vs=>cz Φ Ψ sc b vs) Φ.fuel ae
  |_=>XW
 | .Return v _,ae=>match v with
  |some e=>(p9 Φ sc e ae).map fun r=>.ret r.1
  |none=>XW
 | .Break _,ae=>XU (.brk ae)
 |_,_=>XW
def cz (Φ:fN)(Ψ:WY->WT->az->Option Fl)(sc:WY):List WT->az->Option Fl
 |[],ae=>XU (.next ae)
 |st::sts,ae=>(mz (Ψ sc st ae) (ex Φ Ψ sc st ae)).bind (oq (cz Φ Ψ sc sts))
end
def SV (st:WT):Prop:=(∃t v p,st=.Assign [t] v p)\/(∃v p,st=.Expr v p)\/(∃t b o p,st=.If t b o p)\/(∃t it b p,st=.For t it b [] p)\/(∃t b p,st=.While t b [] p)\/(∃e p,st=.Return (XU e) p)\/∃p,st=.Break p
set_option tactic.hygienic true in
theorem BY {Φ:fN}{Ψ:WY->WT->az->Option Fl}{sc:WY}{st:WT}{ae:az}{fl:Fl}:ex Φ Ψ sc st ae=XU fl->SV st:=by
 rcases st with⟨⟩;case Assign ts v p=>
  rcases ts with⟨⟩;case nil=>exact aa
  case cons t ts=>cases ts with
   |nil=>exact fun x=>.inl ⟨t,v,p,rfl⟩|cons=>exact aa
 case Expr v p=>exact fun x=>.inr (.inl ⟨v,p,rfl⟩)
 case If t b o p=>exact fun x=>.inr (.inr (.inl ⟨t,b,o,p,rfl⟩))
 case For t it b o p=>
  rcases o with⟨⟩;case nil=>exact fun x=>.inr (.inr (.inr (.inl ⟨t,it,b,p,rfl⟩)))
  case cons=>exact aa
 case While t b o p=>
  rcases o with⟨⟩;case nil=>exact fun x=>.inr (.inr (.inr (.inr (.inl ⟨t,b,p,rfl⟩))))
  case cons=>exact aa
 case Return v p=>
  rcases v with⟨⟩;case none=>exact aa
  case some e=>exact fun x=>.inr (.inr (.inr (.inr (.inr (.inl ⟨e,p,rfl⟩)))))
 case Break p=>exact fun x=>.inr (.inr (.inr (.inr (.inr (.inr ⟨p,rfl⟩)))))
 all_goals exact aa
theorem qO {P:Prop}(h:p9 Φ sc e ae=XU r)(h1:ev Φ sc e ae=XU r.1->r.2=ae->P)(h2:ev Φ sc e (aS ae)=XU r.1->r.2=aS ae->P):P:=by
 unfold p9 at h;cases q:ev Φ sc e ae with
 |some d=>rw[q]at h;obtain rfl:=XT h;exact h1 q rfl
 |none=>rw[q]at h;exact bx h fun d q2 h=>by subst h;exact h2 q2 rfl
set_option tactic.hygienic true in
theorem uQ {a:Dat}(h:ownOf ae x=XU a):ae.lookup x=XU (.own a):=by
 unfold ownOf at h;cases q:ae.lookup x with
 |none=>rw[q]at h;exact aa h
 |some sl=>
  rw[q]at h;rcases sl with⟨⟩;case val d=>exact aa h
  case own d=>exact xR (XT h) rfl
section
variable {UA:XO->Prop}
structure SS (C:Cx) (ai:XO->Prop) (ag:Env) (sc:WY) (ae:az) (W:XO->Prop) (ad:WS->XO) (s:WV):Prop where
 bV:In C (fun a=>ai a\/W a) ag ae s
 j0:pF C s.heap (fun a=>ai a\/W a) ag sc
 fw:∀a,FW ag sc a->W a
 n8:∀a,W a->¬ai a
 tabs:∀a,C.T a->ai a
 fZ:∀a,C.fr a->ai a\/FW ag sc a
 w0:∀a,W a->C.h₀.get? a=XW
 own:∀x d,ae.lookup x=XU (.own d)->fq s.heap ag x (.ref (ad x))/\W (ad x)
 apart:∀x y d d',ae.lookup x=XU (.own d)->ae.lookup y=XU (.own d')->ad x=ad y->x=y
theorem SS.wT (S:SS C ai ag sc ae W ad s)(a:XO)(h:W a):¬C.T a:=fun t=>S.n8 a h (S.tabs a t)
structure Mv (C:Cx) (W:XO->Prop) (s:WV) (W':XO->Prop) (s':WV):Prop where
 keep:∀b o,s.heap.get? b=XU o->¬C.T b->¬C.fr b->¬W b->s'.heap.get? b=XU o
 nO:∀b o,C.fr b->¬W b->s.heap.get? b=XU o->gh s'.heap b o
 ww:∀a,W' a->W a\/(s.heap.get? a=XW/\¬C.T a)
theorem Mv.refl (s:WV):Mv C W s W s:=⟨fun x x e x x x=>e,fun x x x x e=>.of e,fun x h=>.inl h⟩
theorem Mv.data (x:Mv C W s W' s')(e:s.heap.get? b=XU o)(t:¬C.T b)(w:¬W b):gh s'.heap b o:=by
 by_cases f:C.fr b
 ·exact x.nO b o f w e
 ·exact .of (x.keep b o e t f w)
theorem Mv.trans (x:Mv C W s W' s')(y:Mv C W' s' UA gv):Mv C W s UA gv:=by
 refine⟨fun b o e t f w=>y.keep b o (x.keep b o e t f w) t f fun w'=>?_,fun b o f w e=>?_,fun a h=>?_⟩
 ·refine XR (x.ww b w') (fun q=>?_) fun q=>?_
  ·exact w q
  ·rw[q.1]at e;exact aa e
 ·refine aE (x.nO b o f w e) fun o1 e1 d1=>?_;refine aE (y.nO b o1 f (fun w'=>by
   refine XR (x.ww b w') (fun q=>?_) fun q=>?_
   ·exact w q
   ·rw[q.1]at e;exact aa e) e1) fun o2 e2 d2=>?_
  exact⟨o2,e2,d2.trans d1⟩
 ·refine XR (y.ww a h) (fun q=>?_) fun q=>?_
  ·exact x.ww a q
  ·by_cases w:W a
   ·exact .inl w
   ·cases e:s.heap.get? a with|none=>exact .inr ⟨rfl,q.2⟩|some o=>refine aE (x.data e q.2 w) fun o' e' z=>?_;rw[q.1]at e';exact aa e'
theorem Mv.jZ (x:Ex C s s'):Mv C W s W s':=⟨fun b o e t f y=>x.keep b o e t f,fun b o f y e=>x.nO b o f e,fun y h=>.inl h⟩
theorem Mv.less (x:Mv C W s W' s')(h:∀a,UA a->W' a):Mv C W s UA s':=⟨x.keep,x.nO,fun a q=>x.ww a (h a q)⟩
theorem Mv.Ve (x:gX C W' s s')(h:∀a,W' a->W a):Mv C W s W s':=⟨fun b o e t f w=>x.keep b o e t f fun q=>w (h b q),fun b o f w e=>x.nO b o f (fun q=>w (h b q)) e,fun y q=>.inl q⟩
theorem SS.ex (S:SS C ai ag sc ae W ad s)(x:Ex C s s'):SS C ai ag sc ae W ad s':=⟨S.bV.ex x,S.j0.ex S.bV.bs x,S.fw,S.n8,S.tabs,S.fZ,S.w0,fun y d h=>⟨(S.own y d h).1.ex S.bV.bs x,(S.own y d h).2⟩,S.apart⟩
theorem Rep.jI (hv:∀a,ak a->W a)(r:Rep h W v d):Rep h ak v d:=r.mono fun b o e n=>⟨e,fun q=>n (hv b q)⟩
theorem aK.jI (hv:∀a,ak a->W a){v:List WJ}{d:List Dat}(r:aK h W v d):aK h ak v d:=r.mono fun b o e n=>⟨e,fun q=>n (hv b q)⟩
theorem iB:∀{ae:az},(aS ae).lookup x=XU sl->∃t,ae.lookup x=XU t/\sl=t.i8:=by
 intro ae;induction ae with
 |nil=>intro h;exact aa h
 |cons y0 r ih=>
  intro h;obtain⟨y,t⟩:=y0;have e:aS ((y,t)::r)=(y,t.i8)::aS r:=rfl;rw[e,YT]at h;rw[YT];cases hb:x==y with
  |true=>rw[hb]at h;obtain rfl:=XT h;exact⟨t,rfl,rfl⟩
  |false=>rw[hb]at h;exact ih h
theorem bt.obj (r:bt h ak (.ref a) d)(hd:(∃ds,d=.list ds)\/∃b,d=.bz b):∃o,h.get? a=XU o/\((∃vs n,o.data=.seq vs n)\/∃b n,o.data=.bytearray b n):=by
 cases r with
 |list ho hc hn cU hr=>exact⟨_,ho,.inl ⟨_,_,cU⟩⟩
 |bz ho hc cU=>exact⟨_,ho,.inr ⟨_,_,cU⟩⟩
 |rep r=>
  cases r with
  |list hv ho hc hn cU hr=>exact⟨_,ho,.inl ⟨_,_,cU⟩⟩
  |tuple hv ho hc cU hr=>exact⟨_,ho,.inl ⟨_,_,cU⟩⟩
  |bz hv ho hc cU=>exact⟨_,ho,.inr ⟨_,_,cU⟩⟩
  |range=>rcases hd with⟨_,e⟩|⟨_,e⟩<;>(rcases e with⟨⟩)
  |top=>rcases hd with⟨_,e⟩|⟨_,e⟩<;>rcases e with⟨⟩
theorem pF.GV (f:pF C s.heap ak ag sc)(ho:s.heap.get? a=XU o)(hd:(∃vs n,o.data=.seq vs n)\/∃b n,o.data=.bytearray b n):¬FW ag sc a:=by
 rintro(q|⟨x,q1,q2⟩)
 ·refine ke f.ns fun m o' es ep ja cU y=>?_;rw[<-q,ho]at ja;obtain rfl:=XT ja;rcases hd with⟨_,_,e⟩|⟨_,_,e⟩<;>(replace cU:=e▸cU;rcases cU with⟨⟩)
 ·obtain⟨_,_,v,o',ja,cU⟩:=f.cell x a q1 q2;rw[ho]at ja;obtain rfl:=XT ja;rcases hd with⟨_,_,e⟩|⟨_,_,e⟩<;>(replace cU:=e▸cU;rcases cU with⟨⟩)
theorem fq.unique (a:fq h ag x v)(b:fq h ag x v'):v=v':=by
 revert a b;refine xA5 VV ?_ v v' x ag h;generalize gB _ _=tt;dsimp only[K5];generalize tt.1.1.1=v,tt.1.1.2=v',tt.1.2=x,tt.2.1=ag,tt.2.2=h;intro a b;refine bH a fun y y a=>?_;refine bH b fun y y b=>?_;rcases a with⟨k,m,hm,e⟩|⟨k,c,hc,o,ho,e⟩<;>rcases b with⟨k',m',Ao,e'⟩|⟨k',c',qv,o',ja,e'⟩
 ·rw[Ns.unique hm Ao,e']at e;exact(XT e).symm
 ·refine XR k' (fun k'=>?_) fun k'=>?_<;>(replace k':=k.symm.trans k';rcases k' with⟨⟩)
 ·refine XR k (fun k=>?_) fun k=>?_<;>(replace k':=k▸k';rcases k' with⟨⟩)
 ·rw[hc]at qv;obtain rfl:=XT qv;rw[ho]at ja;obtain rfl:=XT ja;replace e':=e.symm.trans e';rcases e' with⟨⟩;rfl
def dY (ae:az):Prop:=∀x d,ae.lookup x=XU (.own d)->(∃ds,d=.list ds)\/∃b,d=.bz b
set_option tactic.hygienic true in
theorem SS.i8 (S:SS C ai ag sc ae W ad s)(hO:dY ae):SS C ai ag sc (aS ae) (FW ag sc) ad s:=by
 have hv:∀a,(ai a\/FW ag sc a)->(ai a\/W a):=fun a q=>q.imp id (S.fw a);refine⟨⟨S.bV.bs,⟨fun a t=>.inl (S.tabs a t),S.fZ,fun a q=>S.bV.vo.there a (hv a q)⟩,fun x sl h=>?_,S.bV.cells⟩,⟨S.j0.ns,.inr (.inl rfl),S.j0.fl,fun x c h1 h2=>⟨.inr (.inr ⟨x,h1,h2⟩),(S.j0.cell x c h1 h2).2⟩⟩,fun z h=>h,fun a h=>S.n8 a (S.fw a h),S.tabs,S.fZ,fun a h=>S.w0 a (S.fw a h),fun x d h=>?_,fun x y d d' h=>?_⟩
 ·refine aE (iB h) ?_;rintro t h1 (rfl);refine aE (S.bV.lo x t h1) fun v hh hr=>?_;refine⟨v,hh,?_⟩;rcases t with⟨⟩;case val d=>exact Rep.jI hv hr
  case own d=>
   obtain⟨ro,a,rfl,Mf,_⟩:=hr;have ha:a=ad x:=by cases hh.unique (S.own x d h1).1;rfl
   have hW:=ha▸(S.own x d h1).2;refine aE (ro.obj (hO x d h1)) fun o' ja cU=>?_;have hnv:¬(ai a\/FW ag sc a):=fun q=>q.elim (S.n8 a hW) (S.j0.GV ja cU);cases ro with|list ho hc hn hd hr=>exact .list hnv ho hc hn hd (aK.jI hv hr)|bz ho hc hd=>exact .bz hnv ho hc hd|rep r=>exact Rep.jI hv r
 ·refine aE (iB h) fun t h1 e=>?_;rcases t with⟨⟩<;>rcases e with⟨⟩
 ·refine aE (iB h) fun t h1 e=>?_;rcases t with⟨⟩<;>rcases e with⟨⟩
theorem dY.i8 (ae:az):dY (aS ae):=fun x d h=>by refine aE (iB h) fun t h1 e=>?_;rcases t with⟨⟩<;>rcases e with⟨⟩
set_option tactic.hygienic true in
theorem xy {x:Expr}(hE:fS C Φ A x)(e:bh ag sc)(S:SS C ai ag sc ae W ad s)(hO:dY ae)(h:p9 Φ sc x ae=XU (d,bl))(hQ:∀v s' W',Ex C s s'->Mv C W s W' s'->SS C ai ag sc bl W' ad s'->dY bl->Rep s'.heap (fun a=>ai a\/W' a) v d->Q v s'):aV (Wu pw Wd) A (eval x ag) Q E s:=by
 unfold p9 at h;split at h
 ·rename_i d' h1;refine ZU fun hG=>?_;rcases h with⟨⟩;refine hG ?_;exact hE e S.bV h1 _ _ fun v s1 x1 r1=>hQ v s1 W x1 (.jZ x1) (S.ex x1) hO r1
 ·cases h1:ev Φ sc x (aS ae)with
  |none=>rw[h1]at h;exact aa h
  |some d'=>replace h:=h1▸h;refine ZU fun hG=>?_;rcases h with⟨⟩;refine hG ?_;have S1:=S.i8 hO;exact hE e S1.bV h1 _ _ fun v s1 x1 r1=>hQ v s1 _ x1 ((Mv.jZ x1).less S.fw) (S1.ex x1) (.i8 ae) r1
set_option tactic.hygienic true in
theorem KY {x:Expr}(hE:jr C Φ A x)(e:bh ag sc)(S:SS C ai ag sc ae W ad s)(hO:dY ae)(h:xt Φ sc x ae=XU (b,bl)){Q:Bool->WV->Prop}(hQ:∀s' W',Mv C W s W' s'->SS C ai ag sc bl W' ad s'->dY bl->Q b s'):aV (Wu pw Wd) A (isTrue x ag (eval x ag)) Q E s:=by
 unfold xt at h;split at h
 ·rename_i d' h1;refine ZU fun hG=>?_;rcases h with⟨⟩;refine hG ?_;exact hE e S.bV h1 _ _ fun v s1 x1 r1=>r1▸hQ s1 W (.jZ x1) (S.ex x1) hO
 ·cases h1:dQ Φ sc x (aS ae) (ev Φ sc x (aS ae))with
  |none=>rw[h1]at h;exact aa h
  |some d'=>replace h:=h1▸h;refine ZU fun hG=>?_;rcases h with⟨⟩;refine hG ?_;have S1:=S.i8 hO;exact hE e S1.bV h1 _ _ fun v s1 x1 r1=>r1▸hQ s1 _ ((Mv.jZ x1).less S.fw) (S1.ex x1) (.i8 ae)
theorem aD (h:y≠x):((x,sl)::ae).lookup y=ae.lookup y:=by
 rw[YT];have:(y==x)=false:=by rw[V5];exact h
 rw[this]
theorem aU:((x,sl)::ae).lookup x=XU sl:=by rw[YT];simp
theorem fv (e:bh ag sc)(S:SS C ai ag sc ae W ad s)(hO:dY ae)(hb:b8 sc x (.val d) ae=XU bl)(r:Rep s.heap (fun a=>ai a\/W a) v d){Q:Unit->WV->Prop}(hQ:∀s',Mv C W s W s'->SS C ai ag sc bl W ad s'->dY bl->gX C (FW ag sc) s s'->Q () s'):aV (Wu pw Wd) A (bindName ag x v) Q E s:=by
 have hv:=eG hb;refine nh e S.bV S.j0 hb r fun s1 x1 i1 f1 g1 g2=>hQ s1 (.Ve x1 S.fw) ⟨i1,f1,S.fw,S.n8,S.tabs,S.fZ,S.w0,fun y d' hy=>?_,fun y z d1 d2 hy hz=>?_⟩ (fun y d' hy=>?_) x1;all_goals subst hv
 ·have gS:y≠x:=by rintro rfl;rw[aU]at hy;rcases hy with⟨⟩
  rw[aD gS]at hy;exact⟨g1 y _ gS (S.own y d' hy).1,(S.own y d' hy).2⟩
 ·have T8:y≠x:=by rintro rfl;replace hy:=aU.symm.trans hy;rcases hy with⟨⟩
  have Fj:z≠x:=by rintro rfl;replace hz:=aU.symm.trans hz;rcases hz with⟨⟩
  rw[aD T8]at hy;rw[aD Fj]at hz;exact S.apart y z d1 d2 hy hz
 ·have gS:y≠x:=by rintro rfl;rw[aU]at hy;rcases hy with⟨⟩
  rw[aD gS]at hy;exact hO y d' hy
theorem Cp:∀(k:Nat){ts:List Expr}{ds:List Dat}{ae:az}{y:WS}{d:Dat},ts.length=k->il sc ts ds ae=XU bl->bl.lookup y=XU (.own d)->(∀t∈ts,∀x p,t=.Name x p->y≠x)/\ae.lookup y=XU (.own d):=by
 intro k;induction k with
 |zero=>
  intro ts ds ae y d hk hb h;refine XR (dr hb) (fun y0=>?_) fun y1=>?_
  ·refine bH y0 ?_;rintro(rfl) (rfl) (rfl);exact⟨fun t ht=>(nomatch ht),h⟩
  ·refine yd y1 ?_;rintro x p I7 d jV cC (rfl) _;(rcases hk with⟨⟩)
 |succ k ih=>
  intro ts ds ae y d hk hb h;refine XR (dr hb) (fun y0=>?_) fun y1=>?_
  ·refine bH y0 ?_;rintro(rfl) (rfl) (rfl);rcases hk with⟨⟩
  ·refine yd y1 ?_;rintro x p I7 d' jV cC (rfl) y2;(refine bH y2 ?_;rintro(rfl) Df KD);refine aZ (ih (by simpa using hk) KD h) fun h1 h2=>?_;have hv:=eG Df;subst hv;have gS:y≠x:=by rintro rfl;replace h2:=aU.symm.trans h2;rcases h2 with⟨⟩
   rw[aD gS]at h2;refine⟨fun t ht z q e=>?_,h2⟩;refine XR (YL.mp ht) (fun y0=>?_) fun ht=>?_
   ·obtain rfl:=y0;rcases e with⟨⟩;exact gS
   ·exact h1 t ht z q e
theorem lG (hb:bJ sc t d ae=XU bl)(h:bl.lookup y=XU (.own d')):NotIn y t/\ae.lookup y=XU (.own d'):=by
 refine XR (kZ hb) (fun y0=>?_) fun y1=>?_
 ·refine fE y0 ?_;rintro x p (rfl) hb;have hv:=eG hb;subst hv;have gS:y≠x:=by rintro rfl;replace h:=aU.symm.trans h;rcases h with⟨⟩
  rw[aD gS]at h;exact⟨gS,h⟩
 ·refine ke y1 ?_;rintro ts k p ds (rfl) hd hb;exact Cp _ rfl hb h
theorem mn (hA:A.handled=XW)(e:bh ag sc)(S:SS C ai ag sc ae W ad s)(hO:dY ae)(hb:bJ sc t d ae=XU bl)(r:Rep s.heap (fun a=>ai a\/W a) v d){Q:Unit->WV->Prop}(hQ:∀s',Mv C W s W s'->SS C ai ag sc bl W ad s'->dY bl->Q () s'):aV (Wu pw Wd) A (assign t ag v) Q E s:=by
 refine vI hA e S.bV S.j0 hb r fun s1 x1 i1 f1 g1=>hQ s1 (.Ve x1 S.fw) ⟨i1,f1,S.fw,S.n8,S.tabs,S.fZ,S.w0,fun y d' hy=>?_,fun y z d1 d2 hy hz=>?_⟩ fun y d' hy=>?_
 ·refine aZ (lG hb hy) fun h1 h2=>?_;exact⟨g1 y _ h1 (S.own y d' h2).1,(S.own y d' h2).2⟩
 ·exact S.apart y z d1 d2 (lG hb hy).2 (lG hb hz).2
 ·exact hO y d' (lG hb hy).2
set_option tactic.hygienic true in
theorem CZ (e:bh ag sc)(S:SS C ai ag sc ae W ad s)(hO:dY ae)(x1:Ex C s s')(ha:s.heap.get? a=XW)(hsz:s.heap.objs.size<=a)(hb:b8 sc x (.own d) ae=XU bl)(r:bt s'.heap (fun b=>ai b\/(W b\/b=a)) (.ref a) d)(hd:(∃ds,d=.list ds)\/∃b,d=.bz b){Q:Unit->WV->Prop}(hQ:∀gv Fd,Mv C W s (fun b=>W b\/b=a) gv->SS C ai ag sc bl (fun b=>W b\/b=a) Fd gv->dY bl->Q () gv):aV (Wu pw Wd) A (bindName ag x (.ref a)) Q E s':=by
 revert A E bl e S hO x1 ha hsz hb r hd hQ;refine no_implicit_lambda% (mX (bL (bL (bL (bL pQ ya) (bL pQ G1)) VV) VV) ?_ s C s' d W ai a ag ae sc ad x Q);generalize gB _ _=tt;dsimp only[As];generalize tt.1.1.1.1=s,tt.1.1.1.2=C,tt.1.1.2.1=s',tt.1.1.2.2=d,tt.1.2.1.1=W,tt.1.2.1.2=ai,tt.1.2.2=a,tt.2.1.1.1=ag,tt.2.1.1.2=ae,tt.2.1.2=sc,tt.2.2.1.1=ad,tt.2.2.1.2=x,tt.2.2.2=Q;intro A E bl e S hO x1 ha hsz hb r hd hQ;have Ar:=x1.bs S.bV.bs;refine aE (r.obj hd) fun oa tL BM=>?_;have nv:=S.bV.vo.new ha;have nT:=fun t=>nv (.inl (S.tabs a t));have n0:C.h₀.get? a=XW:=by cases q:C.h₀.get? a with|none=>rfl|some o=>have:=S.bV.bs.keep a o q nT;rw[ha]at this;exact aa this
 have hL:ag.locals<s.heap.objs.size:=by refine aM S.j0.ns fun m hm=>?_;exact hm.lt
 have up:∀{v:WJ}{d:Dat},Rep s.heap (fun b=>ai b\/W b) v d->Rep s'.heap (fun b=>ai b\/(W b\/b=a)) v d:=fun r=>r.mono fun b o q nn=>⟨x1.keep b o q (fun t=>nn (.inl (S.tabs b t))) fun t=>nn ((S.fZ b t).imp id (S.fw b)),fun z=>z.elim (fun z=>nn (.inl z)) fun z=>z.elim (fun z=>nn (.inr z)) fun z=>by cases z;replace q:=ha.symm.trans q;exact aa q⟩;have ups:∀{v:List WJ}{d:List Dat},aK s.heap (fun b=>ai b\/W b) v d->aK s'.heap (fun b=>ai b\/(W b\/b=a)) v d:=fun r=>r.mono fun b o q nn=>⟨x1.keep b o q (fun t=>nn (.inl (S.tabs b t))) fun t=>nn ((S.fZ b t).imp id (S.fw b)),fun z=>z.elim (fun z=>nn (.inl z)) fun z=>z.elim (fun z=>nn (.inr z)) fun z=>by cases z;rw[ha]at q;exact aa q⟩;have i1:=S.bV.ex x1;have i2:In C (fun b=>ai b\/(W b\/b=a)) ag ae s':=by
  refine⟨Ar,⟨fun b t=>.inl (S.tabs b t),fun b t=>(S.fZ b t).imp id fun q=>.inl (S.fw b q),fun b q=>?_⟩,fun y sl hy=>?_,i1.cells⟩
  ·refine XR q (fun q=>?_) fun y1=>?_
   ·exact i1.vo.there b (.inl q)
   refine XR y1 (fun q=>?_) fun y0=>?_
   ·exact i1.vo.there b (.inr q)
   ·obtain rfl:=y0;exact⟨oa,tL⟩
  ·refine aE (S.bV.lo y sl hy) fun v hh hr=>?_;refine⟨v,hh.ex S.bV.bs x1,?_⟩;rcases sl with⟨⟩;case val d'=>exact up hr
   case own d'=>obtain⟨ro,b,rfl,VI,hlb⟩:=hr;refine⟨?_,b,rfl,VI.elim .inl fun q=>.inr (.inl q),hlb⟩;cases ro with|rep r=>exact .rep (up r)|list ho hc hn hd hr=>exact .list (x1.keep _ _ ho (S.bV.bs.dF ho (by refine xR hd ?_;nofun)) (S.bV.bs.dT ho (by refine xR hd ?_;nofun))) hc hn hd (ups hr)|bz ho hc hd=>exact .bz (x1.keep _ _ ho (S.bV.bs.dF ho (by refine xR hd ?_;nofun)) (S.bV.bs.dT ho (by refine xR hd ?_;nofun))) hc hd
 have f1:=S.j0.ex S.bV.bs x1;have f2:pF C s'.heap (fun b=>ai b\/(W b\/b=a)) ag sc:=⟨f1.ns,.inr (.inl (S.fw _ (.inl rfl))),f1.fl,fun y c h1 h2=>⟨.inr (.inl (S.fw _ (.inr ⟨y,h1,h2⟩))),(f1.cell y c h1 h2).2⟩⟩;have hv:=eG hb;refine nh e i2 f2 hb ⟨r,a,rfl,.inr (.inr rfl),fun q=>?_⟩ fun s2 x2 i3 f3 g1 g2=>?_
 ·have:a<ag.locals:=by refine xL q ?_;exact Yb a
  exact absurd (X9 this hL) (Nat.not_lt.mpr hsz)
 ·refine hQ s2 (fun y=>if y=x then a else ad y) ?_ ⟨i3,f3,fun b q=>.inl (S.fw b q),fun b q=>q.elim (S.n8 b) fun q=>q▸fun z=>nv (.inl z),S.tabs,S.fZ,fun b q=>q.elim (S.w0 b) fun q=>q▸n0,fun y d' hy=>?_,fun y z d1 d2 hy hz=>?_⟩ fun y d' hy=>?_
  ·refine⟨fun b o q t f w=>x2.keep b o (x1.keep b o q t f) t f fun z=>w (S.fw b z),fun b o f w e=>?_,fun b q=>q.elim .inl fun q=>.inr (q▸⟨ha,nT⟩)⟩;refine aE (x1.nO b o f e) fun o1 e1 d1=>?_;refine aE (x2.nO b o1 f (fun z=>w (S.fw b z)) e1) fun o2 e2 d2=>?_;exact⟨o2,e2,d2.trans d1⟩
  all_goals subst hv
  ·by_cases q:y=x
   ·subst q;refine xR (V7 rfl) ?_;exact⟨g2,.inr rfl⟩
   ·rw[aD q]at hy;refine xR (V6 q) ?_;exact⟨g1 y _ q ((S.own y d' hy).1.ex S.bV.bs x1),.inl (S.own y d' hy).2⟩
  ·intro Pq;by_cases q:y=x<;>by_cases q':z=x
   ·exact xR q (xR q' rfl)
   ·rw[aD q']at hz;rw[V7 q,V6 q']at Pq;exact absurd (.inr (Pq▸(S.own z d2 hz).2)) nv
   ·rw[aD q]at hy;rw[V6 q,V7 q']at Pq;exact absurd (.inr (Pq▸(S.own y d1 hy).2)) nv
   ·rw[aD q]at hy;rw[aD q']at hz;rw[V6 q,V6 q']at Pq;exact S.apart y z d1 d2 hy hz Pq
  ·by_cases q:y=x
   ·subst q;replace hy:=aU.symm.trans hy;rcases hy with⟨⟩;exact hd
   ·rw[aD q]at hy;exact hO y d' hy
set_option tactic.hygienic true in
theorem Cj {t:Nat}(S:SS C ai ag sc ae W ad s)(hO:dY ae)(hx:ae.lookup x=XU (.own d))(hs:Xn (ad x) s.heap h')(r:bt h' (fun b=>ai b\/W b) (.ref (ad x)) d')(hd:(∃ds,d'=.list ds)\/∃b,d'=.bz b):Mv C W s W {s with heap:=h',toks:=t}/\SS C ai ag sc ((x,.own d')::ae) W ad {s with heap:=h',toks:=t}/\dY ((x,.own d')::ae):=by
 revert S hO hx hs r hd;refine mX (bL (bL (bL (bL pQ ya) (bL G1 G1)) VV) VV) ?_ s C d' d ai W ad ag h' ae x t sc;generalize gB _ _=tt;dsimp only[As];generalize tt.1.1.1.1=s,tt.1.1.1.2=C,tt.1.1.2.1=d',tt.1.1.2.2=d,tt.1.2.1.1=ai,tt.1.2.1.2=W,tt.1.2.2=ad,tt.2.1.1.1=ag,tt.2.1.1.2=h',tt.2.1.2=ae,tt.2.2.1.1=x,tt.2.2.1.2=t,tt.2.2.2=sc;intro S hO hx hs r hd;refine aZ (S.own x d hx) fun hh hW=>?_;obtain⟨v,hv,ro,a,rfl,Mf,hla⟩:=S.bV.lo x (.own d) hx;have haa:a=ad x:=by cases hv.unique hh;rfl
 subst haa;refine aE (ro.obj (hO x d hx)) fun oa tL BM=>?_;have nF:=S.j0.GV tL BM;have nT:=S.wT _ hW;have nR:=S.bV.bs.dT tL fun es k q=>by rcases BM with⟨_,_,e⟩|⟨_,_,e⟩<;>(rw[e]at q;rcases q with⟨⟩)
 have xw:gX C W s {s with heap:=h',toks:=t}:=gX.same hs.extBut hW nT (fun q=>(nR q).elim) (fun o vs y t' e1 e2=>by rw[tL]at e1;obtain rfl:=XT e1;rcases BM with⟨_,_,q⟩|⟨_,_,q⟩<;>(rw[q]at e2;rcases e2 with⟨⟩));have odd:∀{b:XO}{o:Obj},s.heap.get? b=XU o->TR o->b≠ad x:=fun e o=>iJ e tL o fun q=>by rcases q with⟨_,_,q⟩|⟨_,q⟩<;>rcases BM with⟨_,_,q'⟩|⟨_,_,q'⟩<;>exact nomatch q.symm.trans q'
 have sA:∀{y:WS}{w:WJ},fq s.heap ag y w->fq h' ag y w:=fun H=>H.keep (fun o e hd=>.of ((hs.2 _ (odd e (.inl hd))).trans e)) fun b o c e hd=>(hs.2 _ (odd e (.inr ⟨c,hd⟩))).trans e;have va:(fun b=>ai b\/W b) (ad x):=.inr hW;refine aE (r.obj hd) fun oa' Zab u=>?_;refine⟨.Ve xw fun u q=>q,⟨⟨xw.bs S.bV.bs S.w0,⟨fun b q=>.inl (S.tabs b q),fun b q=>(S.fZ b q).imp id (S.fw b),fun b q=>?_⟩,fun y sl hy=>?_,fun y c hc=>?_⟩,S.j0.keep fun b o q z=>.of ((hs.2 b fun w=>nF (w▸z)).trans q),S.fw,S.n8,S.tabs,S.fZ,S.w0,fun y d1 hy=>?_,fun y z d1 d2 hy hz=>?_⟩,fun y d1 hy=>?_⟩
 ·by_cases w:b=ad x
  ·exact⟨oa',w▸Zab⟩
  ·refine aM (S.bV.vo.there b q) fun o e=>?_;exact⟨o,(hs.2 b w).trans e⟩
 ·by_cases q:y=x
  ·subst q;rw[aU]at hy;obtain rfl:=XT hy;exact⟨_,sA hh,r,ad y,rfl,va,hla⟩
  ·rw[aD q]at hy;refine aE (S.bV.lo y sl hy) fun w hw hr=>?_;refine⟨w,sA hw,?_⟩;rcases sl with⟨⟩;case val d1=>exact Rep.eW va hs.extBut hr
   case own d1=>
    obtain⟨ro1,b,rfl,VI,hlb⟩:=hr;have hb:b=ad y:=by cases hw.unique (S.own y d1 hy).1;rfl
    have gS:=fun z=>q (S.apart y x d1 d hy hx (hb▸z));refine⟨?_,b,rfl,VI,hlb⟩;cases ro1 with|rep r=>exact .rep (Rep.eW va hs.extBut r)|list ho hc hn hd hr=>exact .list ((hs.2 _ gS).trans ho) hc hn hd (hr.eW va hs.extBut)|bz ho hc hd=>exact .bz ((hs.2 _ gS).trans ho) hc hd
 ·refine fE (S.bV.cells y c hc) fun w o b3 b4=>?_;exact⟨w,o,(hs.2 _ (odd b3 (.inr ⟨_,b4⟩))).trans b3,b4⟩
 ·by_cases q:y=x
  ·subst q;exact⟨sA hh,hW⟩
  ·rw[aD q]at hy;exact⟨sA (S.own y d1 hy).1,(S.own y d1 hy).2⟩
 ·have key:∀{y:WS}{d1:Dat},((x,Slot.own d')::ae).lookup y=XU (.own d1)->∃d2,ae.lookup y=XU (.own d2):=fun{y d1}hy=>by
   by_cases q:y=x
   ·exact⟨d,q▸hx⟩
   ·rw[aD q]at hy;exact⟨d1,hy⟩
  refine aM (key hy) fun e1 hy=>?_;refine aM (key hz) fun e2 hz=>?_;exact S.apart y z e1 e2 hy hz
 ·by_cases q:y=x
  ·subst q;rw[aU]at hy;rcases hy with⟨⟩;exact hd
  ·rw[aD q]at hy;exact hO y d1 hy
end
section
variable {Ψ:WY->WT->az->Option Fl}
def Goes (C:Cx)(ai:XO->Prop)(ag:Env)(sc:WY)(W:XO->Prop)(s:WV)(bl:az)(s':WV):Prop:=∃W' Fd,Mv C W s W' s'/\SS C ai ag sc bl W' Fd s'/\dY bl
def tM (C:Cx)(ai:XO->Prop)(ag:Env)(sc:WY)(W:XO->Prop)(s:WV)(fl:Fl)(f:Xq)(s':WV):Prop:=match fl with
 | .next v=>f=.next/\Goes C ai ag sc W s v s'| .brk v=>f=.brk/\Goes C ai ag sc W s v s'| .cont v=>f=.cont/\Goes C ai ag sc W s v s'| .ret d=>∃v,f=.ret v/\Rep s'.heap ai v d/\Bs C s'/\∃W',Mv C W s W' s'
def ExS (C:Cx)(Φ:fN)(Ψ:WY->WT->az->Option Fl)(ai:XO->Prop)(ag:Env)(sc:WY)(A:XN)(st:WT):Prop:=∀{ae W ad fl s},SS C ai ag sc ae W ad s->dY ae->ex Φ Ψ sc st ae=XU fl->∀(E:WJ->WV->Prop)(Q:Xq->WV->Prop),(∀f s',tM C ai ag sc W s fl f s'->Q f s')->aV (Wu pw Wd) A (exec st ag) Q E s
def xX (C:Cx)(Φ:fN)(Ψ:WY->WT->az->Option Fl)(ai:XO->Prop)(ag:Env)(sc:WY)(A:XN)(sts:List WT):Prop:=∀{ae W ad fl s},SS C ai ag sc ae W ad s->dY ae->cz Φ Ψ sc sts ae=XU fl->∀(E:WJ->WV->Prop)(Q:Xq->WV->Prop),(∀f s',tM C ai ag sc W s fl f s'->Q f s')->aV (Wu pw Wd) A (execs sts ag) Q E s
structure ou (C:Cx) (n:Nat):Prop where
 chg:∀{m a ds a' p s ak},ny m a ds=XU a'->Bs C s->bw C ak s->bt s.heap ak (.ref p) a->∃id,(∀{A pl},Wp C A (getMethod (.ref p) m pl) (fun r x=>r=(.builtin id,[.ref p])) s)/\
  ∀{A s vs}{E:WJ->WV->Prop}{Q:WJ->WV->Prop},dy C n A->Bs C s->bw C ak s->ak p->bt s.heap ak (.ref p) a->aK s.heap ak vs ds->
   (∀s1 h' t,Ex C s s1->Xn p s1.heap h'->bt h' ak (.ref p) a'->Q .none {s1 with heap:=h',toks:=t})->aV (Wu pw Wd) A (WA (.builtin id) (.ref p::vs)) Q E s
 sto:∀{a j d a' p u v A s ak}{E:WJ->WV->Prop}{Q:Unit->WV->Prop},oJ a j d=XU a'->dy C n A->Bs C s->bw C ak s->ak p->bt s.heap ak (.ref p) a->Rep s.heap ak u j->Rep s.heap ak v d->
  (∀s1 h' t,Ex C s s1->Xn p s1.heap h'->bt h' ak (.ref p) a'->Q () {s1 with heap:=h',toks:=t})->aV (Wu pw Wd) A (setItem (.ref p) u v) Q E s
 new:∀{f ds d},newD f ds=XU d->∃v,C.mg f=XW/\C.mb f=XU v/\(f==("__debug__":WS))=false/\(∀a,v≠.ref a)/\
  ∀{A s ak vs}{E:WJ->WV->Prop}{Q:WJ->WV->Prop},dy C n A->Bs C s->bw C ak s->iq s.heap ak vs ds->
   (∀a s1,Ex C s s1->s.heap.get? a=XW->s.heap.objs.size<=a->bt s1.heap (fun b=>ak b\/b=a) (.ref a) d->Q (.ref a) s1)->aV (Wu pw Wd) A (WA v vs) Q E s
set_option tactic.hygienic true in
theorem tM.trans (m:Mv C W s W' s')(h:tM C ai ag sc W' s' fl f gv):tM C ai ag sc W s fl f gv:=by
 rcases fl with⟨⟩;case next v=>obtain⟨a,W2,TQ,b,c,d⟩:=h;exact⟨a,W2,TQ,m.trans b,c,d⟩
 case brk v=>obtain⟨a,W2,TQ,b,c,d⟩:=h;exact⟨a,W2,TQ,m.trans b,c,d⟩
 case cont v=>obtain⟨a,W2,TQ,b,c,d⟩:=h;exact⟨a,W2,TQ,m.trans b,c,d⟩
 case ret d=>obtain⟨v,a,b,c,W2,e⟩:=h;exact⟨v,a,b,c,W2,m.trans e⟩
theorem SS.iter {t:Nat}(S:SS C ai ag sc ae W ad s)(ly:s.heap.get? I=XU oI)(qu:¬ir oI.cls)(Fq:∀es n,oI.data≠.dict es n)(oZ:∀c,oI.data≠.cell c)(hs:Xo I s.heap h')(hv:¬(ai I\/W I))(Ly:Bs C {s with heap:=h',toks:=t}):SS C ai ag sc ae W ad {s with heap:=h',toks:=t}:=by refine⟨S.bV.iter ly qu Fq oZ hs hv Ly,S.j0.keep fun b o e w=>.of (hs b o (fun q=>hv (q▸.inr (S.fw b w))) e),S.fw,S.n8,S.tabs,S.fZ,S.w0,fun y d hy=>⟨?_,(S.own y d hy).2⟩,S.apart⟩;exact(S.own y d hy).1.keep (fun o e hd=>.of (hs _ _ (iJ (P:=fun o=>∃es n,o.data=.dict es n) e ly hd fun⟨_,_,q⟩=>Fq _ _ q) e)) fun b o c e hd=>hs _ _ (iJ (P:=fun o=>∃c,o.data=.cell c) e ly ⟨c,hd⟩ fun⟨_,q⟩=>oZ _ q) e
theorem Mv.iter {t:Nat}(m:Mv C W₀ s₀ W s)(hI:s₀.heap.get? I=XW)(hs:Xo I s.heap h'):Mv C W₀ s₀ W {s with heap:=h',toks:=t}:=⟨fun b o e t f w=>hs b o (fun q=>by subst q;rw[hI]at e;exact aa e) (m.keep b o e t f w),fun b o f w e=>let⟨o1,e1,d1⟩:=m.nO b o f w e;⟨o1,hs b o1 (fun q=>by subst q;rw[hI]at e;exact aa e) e1,d1⟩,m.ww⟩
set_option tactic.hygienic true in
theorem xi {k:az->Option Fl}(m:Mv C W₀ s₀ W s)(hf:tM C ai ag sc W s ME f s')(h:iN k ME=XU fl){P:Prop}(next:∀v,(f=.next\/f=.cont)->Goes C ai ag sc W s v s'->k v=XU fl->P)(stop:∀g,tM C ai ag sc W₀ s₀ fl g s'->(f=.brk/\g=.next\/∃v,f=.ret v/\g=.ret v)->P):P:=by
 rcases ME with⟨⟩;case next v=>exact next v (.inl hf.1) hf.2 h
 case cont v=>exact next v (.inr hf.1) hf.2 h
 case brk v=>obtain rfl:=XT h;obtain⟨rfl,W3,Pd,m3,S3,Ot⟩:=hf;exact stop .next ⟨rfl,W3,Pd,m.trans m3,S3,Ot⟩ (.inl ⟨rfl,rfl⟩)
 case ret d=>obtain rfl:=XT h;obtain⟨v,rfl,hr,hb3,W3,m3⟩:=hf;exact stop (.ret v) ⟨v,rfl,hr,hb3,W3,m.trans m3⟩ (.inr ⟨v,rfl,rfl⟩)
theorem BP (hA:dy C n A)(e:bh ag sc)(Ut:s₀.heap.get? I=XW)(HN:¬C.T I)(Us:C.h₀.get? I=XW) (gz:xX C Φ Ψ ai ag sc A body) {R:WZ->WV->Prop}:∀(av:List Dat)(ae:az)(W:XO->Prop)(ad:WS->XO)(s:WV)(fl:Fl),It s.heap (fun a=>ai a\/W a) (fun a=>W a\/C.T a\/C.fr a) I av->SS C ai ag sc ae W ad s->dY ae->¬ai I->Mv C W₀ s₀ W s->cP (fun d vs=>match bJ sc t d vs with
      |none=>XW|some vs=>cz Φ Ψ sc body vs) av ae=XU fl->(∀f s',tM C ai ag sc W₀ s₀ fl f s'->R (.ok f) s')->
   cy (Wu pw Wd) A (.forLoop t (.ref I) body [] ag) R s:=by
 revert n hA e Ut HN Us gz
 refine no_implicit_lambda% (mX (bL (bL (bL (bL ya pR) (bL pQ Vh)) VV) VV) ?_ C A s₀ Φ ag ai I sc t body R W₀ Ψ)
 generalize gB _ _=tt
 dsimp only[As]
 generalize tt.1.1.1.1=C,tt.1.1.1.2=A,tt.1.1.2.1=s₀,tt.1.1.2.2=Φ,tt.1.2.1.1=ag,tt.1.2.1.2=ai,tt.1.2.2=I,tt.2.1.1.1=sc,tt.2.1.1.2=t,tt.2.1.2=body,tt.2.2.1.1=R,tt.2.2.1.2=W₀,tt.2.2.2=Ψ
 intro n hA e Ut HN Us gz
 intro av
 induction av with
 |nil=>intro ae W ad s fl x S hO BN m h hR;obtain rfl:=XT h;refine ye x.iE fun oI ly qu Mk Fq oZ=>?_;have nW:¬W I:=fun q=>x.J1 (.inl q);refine bj ?_ rfl;show aV _ A ((forTurn t (.ref I) body [] ag).onRaise (fun x=>do noteFrame x ag;theTreesLotGoes x)) _ _ s;refine eC ?_;unfold forTurn;refine ab (aw (ab (cA (x.done hA.handled fun h' he=>?_))));have Ly:Bs C {s with heap:=h',toks:=s.toks}:=(gX.same he rfl HN (fun q=>((S.fZ I q).elim BN fun q=>nW (S.fw I q)).elim) x.CX).bs S.bV.bs fun a q=>q▸Us;have S':=S.iter ly qu Fq oZ he (fun q=>q.elim BN nW) Ly;refine aj ⟨rfl,?_⟩;refine bj ?_ rfl;show aV _ A ((do return .done (<-(execs [] ag).onRaise (fun x=>do noteFrame x ag;theTreesLotGoes x))):WX Xr) _ _ _;refine ab (cA (aj (aj ?_)));exact hR .next {s with heap:=h'} ⟨rfl,W,ad,m.iter Ut he,S',hO⟩
 |cons d av ih=>
  intro ae W ad s fl x S hO BN m h hR;refine ye x.iE fun oI ly qu Mk Fq oZ=>?_;have nW:¬W I:=fun q=>x.J1 (.inl q);refine bj ?_ rfl;show aV _ A ((forTurn t (.ref I) body [] ag).onRaise (fun x=>do noteFrame x ag;theTreesLotGoes x)) _ _ s;refine eC ?_;unfold forTurn;refine ab (aw (ab (cA (x.next fun v h1 tk r x1 lJ=>?_))));have Ar:Bs C {s with heap:=h1,toks:=tk}:=(gX.same lJ.extBut rfl HN (fun q=>((S.fZ I q).elim BN fun q=>nW (S.fw I q)).elim) x.CX).bs S.bV.bs fun a q=>q▸Us;have S1:=S.iter ly qu Fq oZ lJ.extBut (fun q=>q.elim BN nW) Ar;have m1:Mv C W₀ s₀ W {s with heap:=h1,toks:=tk}:=m.iter Ut lJ.extBut;have h':((match bJ sc t d ae with
      |none=>XW|some vs=>cz Φ Ψ sc body vs).bind (iN (cP (fun d vs=>match bJ sc t d vs with|none=>XW|some vs=>cz Φ Ψ sc body vs) av)))=XU fl:=h
  clear h;cases hb:bJ sc t d ae with
  |none=>rw[hb]at h';exact aa h'
  |some cC=>
   rw[hb]at h';refine au h' fun ME hx h=>?_;clear h';refine ab (x1.letGo ?_);refine ab (mn hA.handled e S1 hO hb r fun s2 m2 S2 R8=>?_)
   ·refine ab (gz S2 R8 hx _ _ fun f s3 hf=>?_);have next:∀m8,Goes C ai ag sc W s2 m8 s3->cP (fun d vs=>match bJ sc t d vs with
      |none=>XW|some vs=>cz Φ Ψ sc body vs) av m8=XU fl->cy (Wu pw Wd) A (.forLoop t (.ref I) body [] ag) R s3:=by
     intro m8 ⟨W3,Pd,m3,S3,Ot⟩ h3;have mm:=m2.trans m3;have xw:It {s with heap:=h1,toks:=tk:WV}.heap (fun a=>ai a\/W a) (fun a=>(W a\/W3 a)\/C.T a\/C.fr a) I av:=x1.widen fun a q=>by
      rcases q with(q|q)|q
      ·exact .inl (.inl q)
      ·refine XR (mm.ww a q) (fun q=>?_) fun q=>?_
       ·exact .inl (.inl q)
       ·exact .inr q.1
      ·exact .inl (.inr q)
     have x3:It s3.heap (fun a=>ai a\/W3 a) (fun a=>(W a\/W3 a)\/C.T a\/C.fr a) I av:=xw.mono (fun b o q w=>mm.keep b o q (fun t=>w (.inr (.inl t))) (fun t=>w (.inr (.inr t))) fun z=>w (.inl (.inl z))) fun rs=>rs.mono fun b o q nn=>⟨mm.keep b o q (fun t=>nn (.inl (S.tabs b t))) (fun t=>nn ((S.fZ b t).imp id (S.fw b))) fun z=>nn (.inr z),fun z=>z.elim (fun z=>nn (.inl z)) fun z=>by
      refine XR (mm.ww b z) (fun z=>?_) fun z=>?_
      ·exact nn (.inr z)
      ·rw[z.1]at q;exact aa q⟩
     exact ih m8 W3 Pd s3 fl (x3.widen fun a q=>.inl (q.elim (fun q=>.inl (.inr q)) .inr)) S3 Ot BN (m1.trans mm) h3 hR
    refine xi (m1.trans m2) hf h (fun v q hg h3=>?_) fun g hg q=>?_
    ·refine XR q (fun y0=>?_) fun y1=>?_
     ·obtain rfl:=y0;exact aj ⟨rfl,next v hg h3⟩
     ·obtain rfl:=y1;exact aj ⟨rfl,next v hg h3⟩
    ·refine XR q (fun y0=>?_) fun y1=>?_
     ·refine aZ y0 ?_;clear y0;rintro(rfl) (rfl);exact aj (hR _ s3 hg)
     ·refine aE y1 ?_;clear y1;rintro v (rfl) (rfl);exact aj (hR _ s3 hg)
theorem DM (e:bh ag sc)(ht:jr C Φ A t)(gz:xX C Φ Ψ ai ag sc A body){R:WZ->WV->Prop}:∀(k:Nat)(ae:az)(W:XO->Prop)(ad:WS->XO)(s:WV)(fl:Fl),SS C ai ag sc ae W ad s->dY ae->Mv C W₀ s₀ W s->tO (fun vs=>dQ Φ sc t vs (ev Φ sc t vs)) (fun vs=>cz Φ Ψ sc body vs) k ae=XU fl->(∀f s',tM C ai ag sc W₀ s₀ fl f s'->R (.ok f) s')->cy (Wu pw Wd) A (.whileLoop t body [] ag) R s:=by
 revert W₀ Ψ e ht gz;refine no_implicit_lambda% (vR (bL (bL (bL (bL ya pR) Vh) (bL pQ VV)) VV) ?_ C A Φ s₀ ag sc t body ai R);generalize gB _ _=tt;dsimp only[I3];generalize tt.1.1.1.1=C,tt.1.1.1.2=A,tt.1.1.2=Φ,tt.1.2.1=s₀,tt.1.2.2=ag,tt.2.1.1.1=sc,tt.2.1.1.2=t,tt.2.1.2=body,tt.2.2.1=ai,tt.2.2.2=R;intro W₀ Ψ e ht gz;intro k;induction k with
 |zero=>intro ae W ad s fl S hO m h hR;exact aa h
 |succ k ih=>
  intro ae W ad s fl S hO m h hR;refine au h fun b hb h=>bj ?_ rfl;show aV _ A ((whileTurn t body [] ag).onRaise (fun x=>do noteFrame x ag;theTreesLotGoes x)) _ _ s;refine eC (ab (ht e S.bV hb _ _ fun b' s1 x1 Om=>?_));subst Om;have S1:=S.ex x1;have m1:=m.trans (.jZ x1);rcases b' with⟨⟩;case false=>obtain rfl:=XT h;exact ab (aj (aj (hR .next s1 ⟨rfl,W,ad,m1,S1,hO⟩)))
  case true=>
   refine au h fun ME hx h=>ab (gz S1 hO hx _ _ fun f s2 hf=>xi m1 hf h (fun v q hg h3=>?_) fun g hg q=>?_)
   ·refine eH hg fun W3 Pd m3 S3 Ot=>?_;have:=ih v W3 Pd s2 fl S3 Ot (m1.trans m3) h3 hR;refine XR q (fun y0=>?_) fun y1=>?_
    ·obtain rfl:=y0;exact aj ⟨rfl,this⟩
    ·obtain rfl:=y1;exact aj ⟨rfl,this⟩
   ·refine XR q (fun y0=>?_) fun y1=>?_
    ·refine aZ y0 ?_;rintro(rfl) (rfl);exact aj (hR _ s2 hg)
    ·refine aE y1 ?_;rintro v (rfl) (rfl);exact aj (hR _ s2 hg)
set_option tactic.hygienic true in
theorem SS.other {t:Nat}(S:SS C ai ag sc ae W ad s)(EE:s.heap.get? L=XU oL)(Dd:∃es n,oL.data=.dict es n)(hs:Xo L s.heap h')(hv:¬(ai L\/W L))(Ly:Bs C {s with heap:=h',toks:=t}):SS C ai ag sc ae W ad {s with heap:=h',toks:=t}:=by
 have hl:L≠ag.locals:=fun q=>hv (.inr (S.fw L (.inl q)))
 have sA:∀{y:WS}{w:WJ},fq s.heap ag y w->fq h' ag y w:=fun H=>H.keep (fun o e x=>.of (hs _ _ hl.symm e)) fun b o c e hd=>hs _ _ (iJ (P:=fun o=>∃c,o.data=.cell c) e EE ⟨c,hd⟩ fun⟨_,q⟩=>let⟨_,_,z⟩:=Dd;nomatch z.symm.trans q) e
 refine⟨⟨Ly,⟨fun a q=>.inl (S.tabs a q),fun a q=>(S.fZ a q).imp id (S.fw a),fun a ha=>?_⟩,fun y sl hy=>?_,fun y c hc=>?_⟩,S.j0.keep fun b o q w=>.of (hs b o (fun z=>hv (z▸.inr (S.fw b w))) q),S.fw,S.n8,S.tabs,S.fZ,S.w0,fun y d hy=>⟨sA (S.own y d hy).1,(S.own y d hy).2⟩,S.apart⟩
 ·refine aM (S.bV.vo.there a ha) fun o q=>?_;exact⟨o,hs a o (fun z=>hv (z▸ha)) q⟩
 ·refine aE (S.bV.lo y sl hy) fun w hw hr=>?_;refine⟨w,sA hw,?_⟩;have up:∀{v:WJ}{d:Dat},Rep s.heap (fun a=>ai a\/W a) v d->Rep h' (fun a=>ai a\/W a) v d:=fun r=>r.HW EE (.inl Dd) hs;rcases sl with⟨⟩;case val d=>exact up hr
  case own d=>
   obtain⟨ro,a,rfl,Mf,hla⟩:=hr;refine⟨?_,a,rfl,Mf,hla⟩;have gS:a≠L:=fun z=>hv (z▸Mf);cases ro with
   |rep r=>exact .rep (up r)
   |list ho hc hn hd hr=>exact .list (hs _ _ gS ho) hc hn hd (hr.rV fun b o q nn x c1 x=>⟨hs b o (fun z=>by subst z;rw[EE]at q;obtain rfl:=XT q;refine gY Dd fun x x z=>?_;exact c1 _ _ z) q,nn⟩)
   |bz ho hc hd=>exact .bz (hs _ _ gS ho) hc hd
 ·refine fE (S.bV.cells y c hc) fun w o b3 b4=>?_;exact⟨w,o,hs _ _ (fun q=>by rw[q,EE]at b3;obtain rfl:=XT b3;refine gY Dd fun x x z=>?_;rw[z]at b4;rcases b4 with⟨⟩) b3,b4⟩
set_option tactic.hygienic true in
theorem wV (hC:C.Ok)(hO:cI C n)(hF:b9 C Φ n)(hA:dy C n A)(e:bh ag sc)(i:In C ak ag ae s)(h:ev Φ sc (.ListComp elt gens cj p) ae=XU d){u:WJ->WX Unit}{Q:Unit->WV->Prop}(K:∀L D s',Ex C s s'->Rep s'.heap ak (.ref D) d->s.heap.get? L=XW->(∃m,s'.heap.Ns L m)->aV (Wu pw Wd) A (u (.ref D)) (fun z gv=>∃m,gv.heap.Ns L m/\∀h',Xn L gv.heap h'->Q () {gv with heap:=h'}) E s'):aV (Wu pw Wd) A (evalThenUse (.ListComp elt gens cj p) ag u) Q E s:=by
 rcases gens with⟨⟩
 case nil=>exact aa h
 case cons g rest=>obtain⟨t,it,ifs,a⟩:=g;refine aQ h fun ha h=>au h fun src t8 h=>au h fun av hit h=>au h fun ds hm h=>aQ h fun fP h=>?_;obtain rfl:=XT h;refine bH ha ?_;rintro(rfl) fL Zal;have qr:∀g∈(⟨t,it,ifs,0⟩::rest:List Xw),fS C Φ A g.iter/\∀x∈g.ifs,jr C Φ A x:=fun g z=>⟨cW hC hO hF hA _,fun y z=>lA hC hO hF hA y⟩;refine ab (vx hA.handled e i fL (gA (gQ t8)) (dR (cW hC hO hF hA it) e i t8) hit _ hm fP (fun fF eR D I fx=>yC (cW hC hO hF hA elt) hA qr fx rest 0 t ifs _ I rfl (fun y z=>lA hC hO hF hA y) Zal) fun L D s1 x1 r1 hL iF=>?_);exact aH (K L D s1 x1 r1 hL iF) (fun z s2⟨m,h1,h2⟩=>⟨m,h1,fun h' hs=>aj (h2 h' hs)⟩) fun z z q=>q
theorem kn {t:Option Expr}(h:wZ value=false):swapsWith value t line ag=pure false:=by rcases value with⟨⟩<;>first|rfl|rcases h with⟨⟩
set_option tactic.hygienic true in
theorem xQ (hC:C.Ok)(hO:cI C n)(hF:b9 C Φ n)(hA:dy C n A)(e:bh ag sc)(S:SS C ai ag sc ae W ad s)(hD:dY ae)(h:p9 Φ sc value ae=XU (d,cC))(hb:b8 sc x (.val d) cC=XU bl){Q:Xq->WV->Prop}(hQ:∀s',Goes C ai ag sc W s bl s'->Q .next s'):aV (Wu pw Wd) A (exec (.Assign [.Name x xp] value pos) ag) Q E s:=by
 have plain:swapsWith value (XU (.Name x xp)) pos.line ag=pure false->aV (Wu pw Wd) A (exec (.Assign [.Name x xp] value pos) ag) Q E s:=by intro hs;refine bE (xy (cW hC hO hF hA value) e S hD h fun v s1 W1 x1 m1 S1 EH r1=>?_) hs (by rcases value with⟨⟩<;>rfl);exact ab (aw (fv e S1 EH hb r1 fun s2 m2 S2 Sg u=>hQ s2 ⟨W1,ad,m1.trans m2,S2,Sg⟩))
 cases hc:wZ value with
 |false=>exact plain (kn hc)
 |true=>
  rcases value with⟨⟩;case ListComp elt gens cj p=>
   have Uc:∃b,swapsWith (.ListComp elt gens cj p) (XU (.Name x xp)) pos.line ag=pure b:=⟨_,rfl⟩;refine aM Uc fun b Uc=>?_;rcases b with⟨⟩;case false=>exact plain Uc
   case true=>
    rw[exec_Assign_Name_used x xp _ pos Uc];refine ab (aw (ab ?_));have go:∀(W1:XO->Prop)(cC:az),SS C ai ag sc cC W1 ad s->dY cC->(∀a,W1 a->W a)->ev Φ sc (.ListComp elt gens cj p) cC=XU d->b8 sc x (.val d) cC=XU bl->aV (Wu pw Wd) A (evalThenUse (.ListComp elt gens cj p) ag (assign (.Name x xp) ag)) (fun u s'=>aV (Wu pw Wd) A (pure Xq.next) Q E s') E s:=by
     intro W1 cC S1 EH hW h hb
     refine wV hC hO hF hA e S1.bV h fun L D s1 x1 r1 hL iF=>?_
     have S2:=S1.ex x1
     refine ab (aw (fv e S2 EH hb r1 fun s2 m2 S3 Sf xw=>?_))
     refine ke iF fun m oL es ep EE Dd hrL=>?_
     have nL:=S1.bV.vo.new hL
     have nT:=fun t=>nL (.inl (S1.tabs L t))
     have nF:=fun t=>nL ((S1.fZ L t).imp id (S1.fw L))
     have N7:=xw.keep _ _ EE nT nF fun q=>nL (.inr (S1.fw L q))
     refine⟨m,⟨oL,es,ep,N7,Dd,hrL⟩,fun h' hs=>aj ?_⟩
     have n0:C.h₀.get? L=XW:=by cases q:C.h₀.get? L with|none=>rfl|some o=>have:=S1.bV.bs.keep L o q nT;rw[hL]at this;exact aa this
     have xL:gX C (fun a=>a=L) s2 {s2 with heap:=h',toks:=s2.toks}:=gX.same hs.extBut rfl nT (fun q=>(nF q).elim) (fun oa vs y t' e1 e2=>by rw[N7]at e1;obtain rfl:=XT e1;rw[Dd]at e2;rcases e2 with⟨⟩)
     have S4:=S3.other N7 ⟨_,_,Dd⟩ hs.extBut nL (xL.bs S3.bV.bs fun a q=>q▸n0)
     refine hQ {s2 with heap:=h'} ⟨W1,ad,⟨fun b o q t f w=>hs.extBut b o (fun z=>by subst z;rw[hL]at q;exact aa q) (m2.keep b o (x1.keep b o q t f) t f fun z=>w (hW b z)),fun b o f w q=>(by refine aE (x1.nO b o f q) fun o1 e1 d1=>?_;refine aE (m2.nO b o1 f (fun z=>w (hW b z)) e1) fun o2 e2 d2=>?_;exact⟨o2,hs.extBut b o2 (fun z=>nF (z▸f)) e2,d2.trans d1⟩),fun a q=>.inl (hW a q)⟩,S4,Sf⟩
    refine qO h (fun h1 h2=>?_) fun h1 h2=>?_
    ·exact go W ae S hD (fun u q=>q) h1 (h2▸hb)
    ·exact go _ _ (S.i8 hD) (.i8 ae) S.fw h1 (h2▸hb)
  case SetComp elt gens cj p=>exact qO h (fun h1 u=>aa h1) fun h1 u=>aa h1
  case DictComp k v gens cj p=>exact qO h (fun h1 u=>aa h1) fun h1 u=>aa h1
  all_goals (rcases hc with⟨⟩)
theorem zi (hC:C.Ok)(hO:cI C n)(hF:b9 C Φ n)(hA:dy C n A)(e:bh ag sc)(S:SS C ai ag sc ae W ad s)(hD:dY ae)(h:jQ Φ sc x (.List es p) ae=XU bl){Q:Xq->WV->Prop}(hQ:∀s',Goes C ai ag sc W s bl s'->Q .next s'):aV (Wu pw Wd) A (exec (.Assign [.Name x xp] (.List es p) pos) ag) Q E s:=au h fun ds h1 h=>aQ h fun fP h=>bE (yk (ie e (fun y u=>cW hC hO hF hA y) S.bV h1 _ _ fun vs s1 x1 r1=>⟨by refine xR r1.length ?_;exact bK fP,by
  have S1:=S.ex x1;have x2:Ex C s1 {s1 with heap:=s1.heap.push {cls:=.type "list",data:=.seq vs.toArray}}:=.of_keep (fun b o e=>Xl _ e) rfl rfl;refine ab (aw (CZ e S1 hD x2 (aF _) (Yh _) h ?_ (.inl ⟨ds,rfl⟩) fun s3 Fd m3 S3 Sf=>hQ s3 ⟨_,Fd,(Mv.jZ x1).trans m3,S3,Sf⟩));refine .list (Xk _ rfl) rfl rfl rfl (r1.mono fun b o q nn=>⟨Xl _ q,fun z=>?_⟩);refine XR z (fun z=>?_) fun y0=>?_
  ·exact nn (.inl z)
  refine XR y0 (fun z=>?_) fun z=>?_
  ·exact nn (.inr z)
  ·simp only[z,aF]at q;exact aa q⟩)) rfl rfl
set_option tactic.hygienic true in
theorem GZ (h:newD f ds=XU d):(∃ds,d=.list ds)\/∃b,d=.bz b:=by
 match ds,h with
 |[a],h=>
  have h':(if f="list" then(match a with
   | .list _| .tuple _| .range _ _ _=>(match bM a with|some es=>if es.length<=aW then XU (.list es)else XW|none=>XW)
   |_=>XW)
  else if f="bytearray" then(match a with
   | .int n=>if 0<=n/\n<=(aW:Int)then XU (.bz (Yv n.toNat 0))else XW| .bytes b=>if b.length<=aW then XU (.bz b)else XW|_=>XW)
  else XW)=XU d:=h;split at h'
  ·have key:∀{o:Option (List Dat)},(match o with|some es=>if es.length<=aW then XU (Dat.list es)else XW|none=>XW)=XU d->∃ds,d=.list ds:=fun{o}h=>by
    rcases o with⟨⟩;case none=>exact aa h
    case some es=>exact aQ h fun u h=>⟨es,(XT h).symm⟩
   rcases a with⟨⟩;case list l=>exact .inl (key (o:=bM (.list l)) h')
   case tuple l=>exact .inl (key (o:=bM (.tuple l)) h')
   case range x y z=>exact .inl (key h')
   all_goals (exact aa h')
  ·refine aQ h' fun u h'=>?_;rcases a with⟨⟩;case int n=>exact aQ h' fun u h=>.inr ⟨_,(XT h).symm⟩
   case bytes b=>exact aQ h' fun u h=>.inr ⟨_,(XT h).symm⟩
   all_goals (exact aa h')
theorem Bi (hC:C.Ok)(hO:cI C n)(hF:b9 C Φ n)(hS:ou C n)(hA:dy C n A){a:Expr}(e:bh ag sc)(S:SS C ai ag sc ae W ad s)(hD:dY ae)(hn:isNew Φ sc ae f=true)(h:((mH Φ sc [a] ae).bind fun ds=>(newD f ds).bind fun d=>b8 sc x (.own d) ae)=XU bl){Q:Xq->WV->Prop}(hQ:∀s',Goes C ai ag sc W s bl s'->Q .next s'):aV (Wu pw Wd) A (exec (.Assign [.Name x xp] (.Call (.Name f fp) [a] [] p) pos) ag) Q E s:=au h fun ds h1 h=>au h fun d h2 h=>by delta isNew at hn;simp only[Z6,V3]at hn;have hg:=hn.1.2;refine ye (hS.new h2) fun v c1 c2 c3 c4 call=>?_;refine bE ?_ rfl rfl;have iF:=ip (pos:=p) (kI (ag:=ag) h1);refine ab (fh hC e S.bV.bs hg c3 c1 c2 (b6 c4 iF (cf iF (oV e (fun y u=>cW hC hO hF hA y) S.bV h1) _ _ fun z s1 x1 r1=>?_)));obtain⟨ps,kw⟩:=z;refine aZ r1 ?_;rintro(rfl) r1;have S1:=S.ex x1;refine call hA S1.bV.bs S1.bV.vo r1 fun b s2 x2 hb hsz r2=>?_;have hv:(fun c=>ai c\/(W c\/c=b))=fun c=>(ai c\/W c)\/c=b:=funext fun c=>propext or_assoc.symm;exact ab (aw (CZ e S1 hD x2 hb hsz h (hv▸r2) (GZ h2) fun s3 Fd m3 S3 Sf=>hQ s3 ⟨_,Fd,(Mv.jZ x1).trans m3,S3,Sf⟩))
theorem Cu (hC:C.Ok)(hO:cI C n)(hF:b9 C Φ n)(hS:ou C n)(hA:dy C n A)(e:bh ag sc)(S:SS C ai ag sc ae W ad s)(hD:dY ae)(h:jQ Φ sc x value ae=XU bl){Q:Xq->WV->Prop}(hQ:∀s',Goes C ai ag sc W s bl s'->Q .next s'):aV (Wu pw Wd) A (exec (.Assign [.Name x xp] value pos) ag) Q E s:=by
 have val:(p9 Φ sc value ae).bind (D3 sc x)=XU bl->aV (Wu pw Wd) A (exec (.Assign [.Name x xp] value pos) ag) Q E s:=fun h=>au h fun r h1 h=>xQ hC hO hF hA e S hD h1 h hQ;unfold jQ at h;cases hl:xS value with
 |some es=>simp only[hl]at h;refine aM (Cw hl) ?_;rintro p (rfl);exact zi hC hO hF hA e S hD h hQ
 |none=>
  rw[hl]at h;cases hn:(z5 value).any fun z=>z.2.length==1&&isNew Φ sc ae z.1 with
  |false=>rw[hn]at h;exact val h
  |true=>replace h:=hn▸h;refine au h fun z hz h=>?_;rw[hz]at hn;obtain⟨f,as⟩:=z;refine gY (vC hz) ?_;rintro q p (rfl);refine aZ (Z5.mp (show(as.length==1&&isNew Φ sc ae f)=true from hn)) fun h1 hn=>?_;revert h;exact Vt (beq_iff_eq.mp h1) fun a h=>Bi hC hO hF hS hA e S hD hn h hQ
def vL (C:Cx)(Φ:fN)(Ψ:WY->WT->az->Option Fl)(A:XN):Prop:=∀{ai ag sc t it body pos z zs x y ae W ad s fl},bh ag sc->SS C ai ag sc ae W ad s->dY ae->kc Φ sc it ae=XU z->isTup t=true->ev Φ sc z.1 ae=XU x->ev Φ sc z.2 ae=XU y->Fx x y=XU zs->(∀fU,xX C Φ Ψ fU ag sc A body)->cP (fun d vs=>match bJ sc t d vs with|none=>XW|some vs=>cz Φ Ψ sc body vs) zs ae=XU fl->∀(E:WJ->WV->Prop)(Q:Xq->WV->Prop),(∀f s',tM C ai ag sc W s fl f s'->Q f s')->aV (Wu pw Wd) A (exec (.For t it body [] pos) ag) Q E s
def pC (C:Cx)(Ψ:WY->WT->az->Option Fl)(A:XN)(ag:Env):Prop:=∀{ai sc st ae W ad s fl},bh ag sc->SS C ai ag sc ae W ad s->dY ae->Ψ sc st ae=XU fl->∀(E:WJ->WV->Prop)(Q:Xq->WV->Prop),(∀f s',tM C ai ag sc W s fl f s'->Q f s')->aV (Wu pw Wd) A (exec st ag) Q E s
set_option backward.match.sparseCases true in
theorem BW (hP:pC C Ψ A ag)(e:bh ag sc):∀{sts:List WT},(∀st∈sts,ExS C Φ Ψ ai ag sc A st)->xX C Φ Ψ ai ag sc A sts
 |[],_,ae,W,ad,fl,s,S,hD,h,E,Q,hQ=>by obtain rfl:=XT h;exact gi (hQ _ _ ⟨rfl,W,ad,.refl s,S,hD⟩)
 |st::sts,hm,ae,W,ad,fl,s,S,hD,h,E,Q,hQ=>au h fun ME h1 h=>by
  have one:∀(Q:Xq->WV->Prop),(∀f s',tM C ai ag sc W s ME f s'->Q f s')->aV (Wu pw Wd) A (exec st ag) Q E s:=by
   intro Q hQ;cases hp:Ψ sc st ae with
   |some r=>simp only[hp]at h1;obtain rfl:=XT h1;exact hP e S hD hp E Q hQ
   |none=>replace h1:=hp▸h1;exact hm st YJ S hD h1 E Q hQ
  refine ab (one _ fun f s1 hf=>?_);rcases ME with⟨⟩;case next v1=>refine ZU fun hG=>?_;obtain⟨rfl,W1,ad1,m1,S1,EH⟩:=hf;refine hG ?_;exact BW hP e (fun y hy=>hm y (YK _ hy)) S1 EH h E Q fun f s2 hf=>hQ f s2 (hf.trans m1)
  case brk v1=>obtain rfl:=XT h;(refine aZ (id hf) ?_;rintro(rfl) hg);exact aj (hQ _ _ hf)
  case cont v1=>obtain rfl:=XT h;(refine aZ (id hf) ?_;rintro(rfl) hg);exact aj (hQ _ _ hf)
  case ret d=>obtain rfl:=XT h;(refine aE (id hf) ?_;rintro v (rfl) hg);exact aj (hQ _ _ hf)
set_option tactic.hygienic true in
theorem AK {a j a':Dat}(h:oJ a j d=XU a'):(∃ds,a'=.list ds)\/∃b,a'=.bz b:=by
 rcases a with⟨⟩;case list ds=>cases j with
  |int i=>exact aQ h fun x h=>.inl ⟨_,(XT h).symm⟩|_=>exact aa h
 case bz b=>cases j with
  |int i=>cases d with
   |int k=>exact aQ h fun x h=>.inr ⟨_,(XT h).symm⟩|_=>exact aa h
  |_=>exact aa h
 all_goals (exact aa h)
set_option tactic.hygienic true in
theorem G3 {a a':Dat} (h:ny m a ds=XU a'):(∃ds,a'= .list ds)∨∃b,a'= .bz b:=by
 rcases a with ⟨⟩
 case list l=>match ds,h with
  |[d],h=>
   have h':(if m="append" then (if l.length + 1≤aW then XU (.list (l++[d])) else XW)
  else if m="extend" then (match d with| .tuple es=>if l.length + es.length≤aW then XU (.list (l++es)) else XW|_=>XW)
  else if m="remove" then (if l.length≤aW then (tU d l).map .list else XW)
  else XW)=XU a':=h
   split at h'
   ·exact aQ h' fun x h=> .inl ⟨_,(XT h).symm⟩
   ·split at h'
    ·rcases d with ⟨⟩
     case tuple es=>exact aQ h' fun x h=> .inl ⟨_,(XT h).symm⟩
     all_goals (exact aa h')
    ·exact aQ h' fun x h'=>aQ h' fun x h=>bx h fun es x h=> .inl ⟨_,h.symm⟩
 all_goals (exact aa h)
theorem changed {t:Nat}(S:SS C ai ag sc ae W ad s)(hD:dY ae)(hx:ae.lookup x=XU (.own d))(x1:Ex C s s1)(hs:Xn (ad x) s1.heap h')(r:bt h' (fun b=>ai b\/W b) (.ref (ad x)) a')(hd:(∃ds,a'=.list ds)\/∃b,a'=.bz b):Goes C ai ag sc W s ((x,.own a')::ae) {s1 with heap:=h',toks:=t}:=by refine bH (Cj (t:=t) (S.ex x1) hD hx hs r hd) fun m S2 Sg=>?_;exact⟨W,ad,(Mv.jZ x1).trans m,S2,Sg⟩
theorem nC (e:bh ag sc):interactive ag=false:=by unfold interactive;rw[e.kind];rfl
theorem Vg {P:Prop}(h:(XW:Option Fl)=XU fl):P:=aa h
theorem wH {a:Dat}(S:SS C ai ag sc ae W ad s)(hx:ae.lookup x=XU (.own a)):bt s.heap (fun b=>ai b\/W b) (.ref (ad x)) a:=by refine aE (S.bV.lo x _ hx) fun w hw hr=>?_;obtain rfl:=hw.unique (S.own x a hx).1;exact hr.1
theorem yQ {α:Type}{b:Bool}{y:Option α}{r:α}(h:cn b XW y=XU r):b=false/\y=XU r:=by
 rcases b with⟨⟩;case true=>exact aa h
 case false=>exact⟨rfl,h⟩
theorem Ai (hC:C.Ok)(hO:cI C n)(hF:b9 C Φ n)(hA:dy C n A){es:List Expr}{j:Nat}{q pos:Pos}{value:Expr}{fl:Fl}(e:bh ag sc)(S:SS C ai ag sc ae W ad s)(hD:dY ae)(h:ex Φ Ψ sc (.Assign [.Tuple es j q] value pos) ae=XU fl){Q:Xq->WV->Prop}(hQ:∀f s',tM C ai ag sc W s fl f s'->Q f s'):aV (Wu pw Wd) A (exec (.Assign [.Tuple es j q] value pos) ag) Q E s:=by refine aZ (yQ h) fun hc h=>?_;rw[Bool.or_eq_false_iff]at hc;exact au h fun r h1 h=>bx h fun v2 h2 h=>by subst h;refine bE (xy (cW hC hO hF hA value) e S hD h1 fun v s1 W1 x1 m1 S1 EH r1=>?_) (kn (t:=XU (.Tuple es j q)) (line:=pos.line) (ag:=ag) hc.1) (by rcases value with⟨⟩<;>first|rfl|cases hc.2);exact mn hA.handled e S1 EH h2 r1 fun s2 m2 S2 Sg=>hQ _ _ ⟨rfl,W1,ad,m1.trans m2,S2,Sg⟩
theorem Cv (hC:C.Ok)(hO:cI C n)(hF:b9 C Φ n)(hS:ou C n)(hA:dy C n A){x:WS}{i value:Expr}{xp q pos:Pos}{fl:Fl}(e:bh ag sc)(S:SS C ai ag sc ae W ad s)(hD:dY ae)(h:ex Φ Ψ sc (.Assign [.Subscript (.Name x xp) i q] value pos) ae=XU fl){Q:Xq->WV->Prop}(hQ:∀f s',tM C ai ag sc W s fl f s'->Q f s'):aV (Wu pw Wd) A (exec (.Assign [.Subscript (.Name x xp) i q] value pos) ag) Q E s:=by refine aZ (yQ h) fun hc h=>?_;exact au h fun a hx h=>au h fun d h1 h=>au h fun j h2 h=>bx h fun a' h3 h=>by subst h;have hx:=uQ hx;refine kf (cW hC hO hF hA value e S.bV h1 _ _ fun v s1 x1 r1=>?_) (kn hc);have S1:=S.ex x1;refine jK e (S1.own x a hx).1 (cW hC hO hF hA i e S1.bV h2 _ _ fun u s2 x2 r2=>?_);have S2:=S1.ex x2;exact hS.sto h3 hA S2.bV.bs S2.bV.vo (.inr (S.own x a hx).2) (wH S2 hx) r2 (r1.ex S1.bV.vo x2) fun s3 h' t x3 hs r3=>hQ _ _ ⟨rfl,changed S hD hx (x1.trans (x2.trans x3)) hs r3 (AK h3)⟩
theorem Ek (hC:C.Ok)(hO:cI C n)(hF:b9 C Φ n)(hS:ou C n)(hA:dy C n A)(e:bh ag sc)(S:SS C ai ag sc ae W ad s)(hD:dY ae)(h:ex Φ Ψ sc (.Expr (.Call (.Attribute (.Name x xp) m ap) args [] p) pos) ae=XU fl){Q:Xq->WV->Prop}(hQ:∀f s',tM C ai ag sc W s fl f s'->Q f s'):aV (Wu pw Wd) A (exec (.Expr (.Call (.Attribute (.Name x xp) m ap) args [] p) pos) ag) Q E s:=aQ h fun hb h=>au h fun a hx h=>au h fun ds h1 h=>bx h fun a' h2 h=>by subst h;have hx:=uQ hx;refine FF ?_ (nC e) rfl;refine aE (hS.chg h2 S.bV.bs S.bV.vo (wH S hx)) fun id hm call=>?_;refine ab (jK e (S.own x a hx).1 (ab (aw ?_)));have iF:=ip (pos:=p) (iT (ag:=ag) h1);have HV:methodCallForm (args.length+0) (backTo p (starEach args ag)) (backToKw p (keywordEach [] ag))=true:=HU iF hb.2;unfold methodCall;refine xR HV ?_;refine ab (aA ?_);refine hm _ _ fun r s2 x2 hr=>?_;subst hr;refine ab (Eq.mpr (V4 (fun t=>aV (Wu pw Wd) A t _ E s2) (ti hb.1)) (aj ?_));have S2:=S.ex x2;refine b6 (fun u q=>by rcases q with⟨⟩) iF (cf iF (ie e (fun y u=>cW hC hO hF hA y) S2.bV h1) _ _ fun z s3 x3 r3=>?_);obtain⟨ps,kw⟩:=z;refine aZ r3 ?_;rintro(rfl) r3;have S3:=S2.ex x3;exact call hA S3.bV.bs S3.bV.vo (.inr (S.own x a hx).2) (wH S3 hx) r3 fun s4 h' t x4 hs r4=>hQ _ _ ⟨rfl,changed S hD hx (x2.trans (x3.trans x4)) hs r4 (G3 h2)⟩
theorem OE (hC:C.Ok)(hO:cI C n)(hF:b9 C Φ n)(hA:dy C n A)(e:bh ag sc)(hb:xX C Φ Ψ ai ag sc A b)(S:SS C ai ag sc ae W ad s)(hD:dY ae)(h:((p9 Φ sc it ae).bind fun r=>(bM r.1).bind fun av=>cP (fun d vs=>match bJ sc t d vs with|none=>XW|some vs=>cz Φ Ψ sc b vs) av r.2)=XU fl){Q:Xq->WV->Prop}(hQ:∀f s',tM C ai ag sc W s fl f s'->Q f s'):aV (Wu pw Wd) A (exec (.For t it b [] pos) ag) Q E s:=au h fun r h1 h=>au h fun av hit h=>by
  simp only[exec_For];refine ab (aw (ab (xy (cW hC hO hF hA it) e S hD h1 fun v s1 W1 x1 m1 S1 EH r1=>?_)));have iF:∀es k p,it≠.Set es k p:=by rintro es k p rfl;exact qO h1 (fun q x=>aa q) fun q x=>aa q
  refine xR (gA iF _) ?_;refine ab (aj (ab (aw (ab (aA ?_)))));refine qM (W:=fun a=>W1 a\/C.T a\/C.fr a) (.rep r1) hit (fun a q=>q.elim (fun q=>S1.bV.vo.there a (.inr q)) fun q=>S1.bV.vo.there a (S1.bV.vo.tf a q)) (fun a ha q=>r1.Be hit ha (q.elim .inr fun q=>S1.bV.vo.tf a q)) fun I h2 hI sv xI=>?_;have x2:Ex C s1 {s1 with heap:=h2}:=.of_keep sv rfl rfl;have nv:=S1.bV.vo.new hI;have nT:=fun q=>nv (.inl (S1.tabs I q));have n0:C.h₀.get? I=XW:=by cases q:C.h₀.get? I with|none=>rfl|some o=>have:=S1.bV.bs.keep I o q nT;replace this:=hI.symm.trans this;exact aa this
  refine fT ?_ T4;exact BP hA e hI nT n0 hb av r.2 W1 ad {s1 with heap:=h2} fl xI (S1.ex x2) EH (fun q=>nv (.inl q)) (.jZ x2) h fun f s3 hf=>hQ f s3 (hf.trans m1)
set_option tactic.hygienic true in
theorem QX (hC:C.Ok)(hO:cI C n)(hF:b9 C Φ n)(hS:ou C n)(hA:dy C n A)(hP:pC C Ψ A ag)(hZ:vL C Φ Ψ A)(e:bh ag sc):∀(k:Nat)(ai:XO->Prop)(st:WT),sizeOf st<k->ExS C Φ Ψ ai ag sc A st:=by
 intro k;induction k with
 |zero=>intro v x h;exact((X5 _) h).elim
 |succ k ih=>
  intro ai st hk ae W ad fl s S hD h E Q hQ;have Du:∀(fU:XO->Prop){b:List WT},sizeOf b<k->xX C Φ Ψ fU ag sc A b:=fun fU{b}hb=>BW hP e fun y hy=>ih fU y (X9 (Yp hy) hb);have body:∀{b:List WT},sizeOf b<k->xX C Φ Ψ ai ag sc A b:=Du ai;rcases BY h with⟨t,value,pos,rfl⟩|⟨value,pos,rfl⟩|⟨t,b,o,pos,rfl⟩|⟨t,it,b,pos,rfl⟩|⟨t,b,pos,rfl⟩|⟨x,pos,rfl⟩|⟨pos,rfl⟩
  ·have h:vn Φ sc t value ae=XU fl:=h;have ht:=Qc t;unfold vn at h;generalize TZ t=g at ht h;rcases g with⟨⟩;case no=>exact Vg h
   case name x=>refine aM ht ?_;rintro xp (rfl);exact bx h fun v1 h1 h=>Cu hC hO hF hS hA e S hD h1 fun s1 hg=>hQ _ _ (h▸⟨rfl,hg⟩)
   case tup=>refine iM ht ?_;rintro es j q (rfl);exact Ai (Ψ:=Ψ) hC hO hF hA e S hD h hQ
   case item x i=>refine gY ht ?_;rintro xp q (rfl);exact Cv (Ψ:=Ψ) hC hO hF hS hA e S hD h hQ
  ·refine au h fun z h1 h=>?_;obtain⟨x,m,args,ap,p⟩:=z;refine aM (EY h1) ?_;rintro xp (rfl);exact Ek hC hO hF hS hA e S hD h hQ
  ·have hb:sizeOf b<k/\sizeOf o<k:=by simp at hk;exact oC 0x420410494b32109bbbb02 rfl hk
   refine au h fun r h1 h=>MZ (KY (lA hC hO hF hA t) e S hD h1 fun s1 W1 m1 S1 EH=>?_);cases hr:r.1 with|true=>rw[hr]at h;exact body hb.1 S1 EH h E Q fun f s2 hf=>hQ f s2 (hf.trans m1)|false=>rw[hr]at h;exact body hb.2 S1 EH h E Q fun f s2 hf=>hQ f s2 (hf.trans m1)
  ·have hb:sizeOf b<k:=by simp at hk;exact CC 0x52095b432109bbbbb02 rfl hk
   cases hz:kc Φ sc it ae with
   |some z=>
    have h':cn (isTup t) ((ev Φ sc z.1 ae).bind fun x=>(ev Φ sc z.2 ae).bind fun y=>(Fx x y).bind fun zs=>cP (fun d vs=>match bJ sc t d vs with|none=>XW|some vs=>cz Φ Ψ sc b vs) zs ae) XW=XU fl:=by have h0:ue Φ sc t it (fun vs=>cz Φ Ψ sc b vs) ae=XU fl:=h;unfold ue at h0;rw[hz]at h0;exact h0
    cases ht:isTup t with|false=>rw[ht]at h';exact aa h'|true=>rw[ht]at h';exact au h' fun x h1 h=>au h fun y h2 h=>au h fun zs h3 h=>hZ e S hD hz ht h1 h2 h3 (fun v=>Du v hb) h E Q hQ
   |none=>
    have h':((p9 Φ sc it ae).bind fun r=>(bM r.1).bind fun av=>cP (fun d vs=>match bJ sc t d vs with|none=>XW|some vs=>cz Φ Ψ sc b vs) av r.2)=XU fl:=by have h0:ue Φ sc t it (fun vs=>cz Φ Ψ sc b vs) ae=XU fl:=h;unfold ue at h0;replace h0:=hz▸h0;exact h0
    exact OE hC hO hF hA e (body hb) S hD h' hQ
  ·have hb:sizeOf b<k:=by simp at hk;exact oC 0x41094b32109bbbb02 rfl hk
   exact DG (DM e (lA hC hO hF hA t) (body hb) Φ.fuel ae W ad s fl S hD (.refl s) h hQ)
  ·exact bx h fun r h1 h=>qg (xy (cW hC hO hF hA x) e S hD h1 fun v s1 W1 x1 m1 S1 EH r1=>hQ _ _ (h▸⟨v,rfl,Rep.jI (fun a q=>.inl q) r1,S1.bV.bs,W1,m1⟩))
  ·obtain rfl:=XT h;exact ao <|wpAny_Break (hQ _ _ ⟨rfl,W,ad,.refl s,S,hD⟩)
theorem EL (hC:C.Ok)(hO:cI C n)(hF:b9 C Φ n)(hS:ou C n)(hA:dy C n A)(hP:pC C Ψ A ag)(hZ:vL C Φ Ψ A)(e:bh ag sc)(sts:List WT):xX C Φ Ψ ai ag sc A sts:=BW hP e fun y x=>QX hC hO hF hS hA hP hZ e _ ai y (Yb _)
theorem IH (kindOf:WS->Option Xa):∀(binds:List (WS×WJ))(m:WS->Option WJ)(x:WS),kindOf x=XU .local->bindL kindOf binds m x=(binds.reverse.lookup x).or (m x):=by
 intro binds;induction binds with
 |nil=>intro m x _;simp[bindL]
 |cons y0 r zy=>
  intro m x hx;obtain⟨y,v⟩:=y0;unfold bindL;rw[zy _ x hx,Ys];have ha:∀(l:List (WS×WJ)),(l++[(y,v)]).lookup x=(l.lookup x).or (if x=y then XU v else XW):=by
   intro l;induction l with
   |nil=>
    show YU x [(y,v)]=_;rw[YT];by_cases q:x=y
    ·subst q;simp
    ·have:(x==y)=false:=by rw[V5];exact q
     rw[this,V6 q];rfl
   |cons p l ih=>rw[ZE,YT,YT];cases x==p.1 with|true=>rfl|false=>exact ih
  rw[ha];cases hl:r.reverse.lookup x with
  |some w=>rfl
  |none=>
   simp only[Option.none_or];by_cases q:x=y
   ·subst q;rw[V7 hx,V7 rfl,V7 rfl];rfl
   ·rw[V6 q];split
    ·dsimp only;rw[V6 q];rfl
    ·rfl
theorem II (kindOf:WS->Option Xa):∀(binds:List (WS×WJ))(m:WS->Option WJ)(x:WS),kindOf x≠XU .local->bindC kindOf binds m x=(binds.reverse.lookup x).or (m x):=by
 intro binds;induction binds with
 |nil=>intro m x _;simp[bindC]
 |cons y0 r zy=>
  intro m x hx;obtain⟨y,v⟩:=y0;unfold bindC;rw[zy _ x hx,Ys];have ha:∀(l:List (WS×WJ)),(l++[(y,v)]).lookup x=(l.lookup x).or (if x=y then XU v else XW):=by
   intro l;induction l with
   |nil=>
    show YU x [(y,v)]=_;rw[YT];by_cases q:x=y
    ·subst q;simp
    ·have:(x==y)=false:=by rw[V5];exact q
     rw[this,V6 q];rfl
   |cons p l ih=>rw[ZE,YT,YT];cases x==p.1 with|true=>rfl|false=>exact ih
  rw[ha];cases hl:r.reverse.lookup x with
  |some w=>rfl
  |none=>
   simp only[Option.none_or];by_cases q:x=y
   ·subst q;rw[V6 hx,V7 rfl,V7 rfl];rfl
   ·rw[V6 q];split
    ·rfl
    ·dsimp only;rw[V6 q];rfl
structure j9 (sc:WY):Prop where
 kind:sc.kind=.function
 gen:sc.isGenerator=false
 co:sc.isCoroutine=false
 uniq:∀p∈sc.names,sc.names.lookup p.1=XU p.2
 Nq:∀p∈sc.names,p.2≠.free
theorem EP (h:j9 fd.scope)(hg:fd.globals=mainGlobals)(hb:fd.builtins=builtinsNs):bh (callEnvC fd L a) fd.scope:=by
 have nf:∀x,fd.scope.names.lookup x≠XU .free:=fun x q=>h.Nq _ (mem_of_lookup q) rfl;refine⟨h.kind,hg,hb,fun x q=>q,fun x q=>q,fun x q=>q,fun x q=>absurd q (nf x),fun x q=>?_,fun x y c hx hy=>?_⟩
 ·refine XR q (fun q=>?_) fun q=>?_
  ·refine aM (eS (n:=L+1) (aR:=[]) (.inl (mem_of_lookup q))) fun c hc=>?_;exact dZ hc
  ·exact((nf x) q).elim
 ·exact me (fun z z q=>by rcases q with⟨⟩) (fun z z z q=>by rcases q with⟨⟩) (mem_of_lookup hx) (mem_of_lookup hy)
theorem wU {α:Type}:∀{l:List (WS×α)}{x:WS}{v:α},(l.map (·.1)).Nodup->(x,v)∈l->l.lookup x=XU v:=by
 intro l;induction l with
 |nil=>intros;first|contradiction|(rename_i h;cases h)|(rename_i h _;cases h)|(rename_i h;exact nomatch h)
 |cons y0 r ih=>
  intro x v hn hm;obtain⟨y,w⟩:=y0;rw[YT];rw[YQ,List.nodup_cons]at hn;refine XR (YL.mp hm) (fun q=>?_) fun q=>?_
  ·rcases q with⟨⟩;simp
  ·have:x≠y:=fun z=>hn.1 (z▸List.mem_map_of_mem (f:=(·.1)) q);have hb:(x==y)=false:=by rw[V5];exact this
   rw[hb];exact ih hn.2 q
theorem aK.zip {xs:List WS}(r:aK h ak vs ds):(x,d)∈xs.zip ds->∃v,(x,v)∈xs.zip vs/\Rep h ak v d:=r.ind (Q:=fun vs ds=>∀xs:List WS,(x,d)∈xs.zip ds->∃v,(x,v)∈xs.zip vs/\Rep h ak v d) (fun xs hm=>by simp at hm) (by
  intro v d' vs ds r rs ih xs hm;rcases xs with⟨⟩|⟨y,xs⟩
  ·simp at hm
  simp only[List.zip_cons_cons]at hm ⊢;refine XR (YL.mp hm) (fun q=>?_) fun q=>?_
  ·rcases q with⟨⟩;exact⟨_,YJ,r⟩
  ·refine aE (ih xs q) fun v h1 h2=>?_;exact⟨v,YK _ h1,h2⟩) xs
noncomputable def bI (xs:List WS)(ds:List Dat):az:=(xs.zip ds).map fun p=>(p.1,.val p.2)
theorem fJ (h:(bI xs ds).lookup x=XU sl):∃d,sl=.val d/\(x,d)∈xs.zip ds:=by have hm:=mem_of_lookup h;refine aE (YH.mp hm) fun y0 h1 h2=>?_;obtain⟨y,d⟩:=y0;rcases h2 with⟨⟩;exact⟨d,rfl,h1⟩
noncomputable def Cx.at (C:Cx)(fr:XO->Prop):Cx:={C with fr:=fr}
theorem Cx.Ok.at (h:C.Ok)(fr:XO->Prop):(C.at fr).Ok:=⟨h.g,h.b,h.nolimit,h.builtins,h.q6⟩
def Cx.more (C:Cx)(L:XO):Cx:=C.at fun a=>C.fr a\/a=L
theorem Bs.more (z:Bs C s)(h:gn s.heap L):Bs (C.more L) s:=⟨z.keep,z.tab,z.gens,z.os,fun a f=>f.elim (z.alive a) fun q=>q▸h⟩
theorem Bs.less (z:Bs (C.more L) s):Bs C s:=⟨z.keep,z.tab,z.gens,z.os,fun a f=>z.alive a (.inl f)⟩
theorem F6 (h:j9 fd.scope)(bs:Bs C s)(V:bw C ak s)(r:aK s.heap ak vs ds)(hx:xs.Nodup)(hlen:xs.length=ds.length)(hk:∀x∈xs,(fd.scope.names.lookup x=XU .local\/fd.scope.names.lookup x=XU .cell)/\(x==("__debug__":WS))=false/\(x==("__classdict__":WS))=false)(ic:InCallC s (callEnvC fd s.heap.objs.size a).locals (bindL (callEnvC fd s.heap.objs.size a).kindOf (xs.zip vs) fun u=>XW) (callEnvC fd s.heap.objs.size a).cells (bindC (callEnvC fd s.heap.objs.size a).kindOf (xs.zip vs) fun u=>XW) s'):SS (C.more s.heap.objs.size) ak (callEnvC fd s.heap.objs.size a) fd.scope (bI xs ds) (FW (callEnvC fd s.heap.objs.size a) fd.scope) (fun u=>0) s'/\Ex C s s':=by
 generalize Oi:callEnvC fd s.heap.objs.size a=ag at *;have hL:ag.locals=s.heap.objs.size:=by refine xL Oi ?_;rfl
 have Kx:∀x,ag.kindOf x=fd.scope.names.lookup x:=fun x=>by refine xL Oi ?_;rfl
 have sC:ag.cells=cellsFrom (s.heap.objs.size+1) fd.scope.names []:=by refine xL Oi ?_;rfl
 refine fE ic.done fun h' tk zD Ap=>?_;have x1:Ex C s s':=by refine xR zD ?_;exact .of_keep Ap rfl rfl
 have qp:∀b,FW ag fd.scope b->s.heap.get? b=XW:=fun b q=>by
  refine XR q (fun q=>?_) fun y0=>?_
  ·refine xR q (xR hL ?_);exact aF _
  ·refine aE y0 fun x u q=>?_;have:=ic.above x b (mem_of_lookup q);replace this:=hL▸this;exact wc (Nat.le_of_lt this)
 have VH:=fun b q=>V.new (qp b q);have h0:∀b,FW ag fd.scope b->C.h₀.get? b=XW:=fun b q=>by cases e:C.h₀.get? b with|none=>rfl|some o=>have:=bs.keep b o e fun t=>VH b q (V.tabs b t);replace this:=(qp b q).symm.trans this;exact aa this
 have Ar:=x1.bs bs;have HD:((xs.zip vs).reverse.map (·.1)).Nodup:=by
  refine xR YN ?_;have:(xs.zip vs).map (·.1)=xs:=by rw[List.map_fst_zip];refine xR r.length ?_;exact aT 0x1011022 rfl hlen
  refine xR this ?_;exact List.pairwise_reverse.mpr (List.Pairwise.imp (fun q=>Ne.symm q) hx)
 have V1:=V.ex x1 Ar;have KL:∀b,FW ag fd.scope b->∃o,s'.heap.get? b=XU o:=fun b q=>by
  refine XR q (fun q=>?_) fun y0=>?_
  ·refine jX ic.toInCall.ns fun o u u ho u=>?_;exact⟨o,q▸ho⟩
  ·refine aE y0 fun x u q=>?_;refine aE (ic.cell x b q) fun o ho u=>?_;exact⟨o,ho⟩
 have nT:=fun b q t=>VH b q (V.tabs b t);have bsm:Bs (C.more s.heap.objs.size) s':=Ar.more (hL▸qV ic.toInCall.ns fun o es ep ho hd y=>⟨o,es,ep,ho,hd⟩);refine⟨⟨⟨bsm,⟨fun b t=>.inl (V.tabs b t),fun b t=>t.elim (fun t=>.inl (V.fZ b t)) fun q=>.inr (.inl (q.trans hL.symm)),fun b q=>q.elim (V1.there b) (KL b)⟩,fun x sl zB=>?_,fun x c hc=>⟨_,ic.cell x c hc⟩⟩,⟨⟨_,ic.toInCall.ns⟩,.inr (.inl rfl),h0 _ (.inl rfl),fun x c h1 h2=>⟨.inr (.inr ⟨x,h1,h2⟩),h0 _ (.inr ⟨x,h1,h2⟩),_,ic.cell x c h2⟩⟩,fun u q=>q,VH,V.tabs,fun b t=>t.elim (fun t=>.inl (V.fZ b t)) fun q=>.inr (.inl (q.trans hL.symm)),h0,fun x d zB=>?_,fun x y d d' zB=>?_⟩,x1⟩
 ·refine aE (fJ zB) ?_;rintro d (rfl) hm;refine aE (r.zip hm) fun v hv hr=>?_;have hxm:=(List.of_mem_zip hm).1;refine bH (hk x hxm) fun k1 k2 k3=>?_;have Uh:=wU HD (YB.mpr hv);refine⟨v,⟨k2,k3,?_⟩,?_⟩
  ·refine XR k1 (fun k1=>?_) fun k1=>?_
   ·refine .inl ⟨(Kx x).trans k1,_,ic.toInCall.ns,?_⟩;refine xR (IH _ _ _ _ ((Kx x).trans k1)) (xR Uh ?_);rfl
   ·have Ob:=(Kx x).trans k1;refine aM (eS (n:=s.heap.objs.size+1) (aR:=[]) (.inl (mem_of_lookup k1))) fun c hc=>?_;refine aM (dZ hc) fun c' qv=>?_;simp only[<-sC]at qv;refine .inr ⟨.inl Ob,c',qv,?_⟩;have:=ic.cell x c' qv;rw[II _ _ _ _ (by refine xR Ob ?_;decide),Uh]at this;exact this
  ·exact hr.mono fun b o q nn=>⟨x1.keep b o q (fun t=>nn (V.tabs b t)) fun t=>nn (V.fZ b t),fun z=>z.elim nn fun z=>by replace q:=(qp b z).symm.trans q;exact aa q⟩
 ·refine aE (fJ zB) fun d' e u=>?_;rcases e with⟨⟩
 ·refine aE (fJ zB) fun d' e u=>?_;rcases e with⟨⟩
theorem yT (xs:List WS)(ds:List Dat):dY (bI xs ds):=fun x d h=>by refine aE (fJ h) fun d' e y=>?_;rcases e with⟨⟩
theorem Bs.Ll (hC:C.Ok)(z:Bs C s)(h:C.h₀.CodeRec cd q):s.heap.CodeRec cd q:=by refine cQ h fun c o vs t e1 e2 e3 e4=>?_;refine⟨c,o,vs,t,e1,z.keep c o e2 ?_,e3,e4⟩;intro y0;refine iM y0 fun c' p q' m=>?_;have:=(hC.q6 c' c p q' m).1.2;rw[e2]at this;obtain rfl:=XT this;rcases e3 with⟨⟩;simp at e4
theorem Bs.noLimit (hC:C.Ok)(z:Bs C s):s.heap.NoLimit:=by refine aE hC.nolimit fun mc y1 hm=>?_;refine jX y1 fun o es ep ho r=>?_;refine⟨mc,⟨o,es,ep,z.keep _ _ ho ?_,r⟩,hm⟩;intro y0;refine iM y0 fun c p q m=>?_;exact(hC.q6 c _ p q m).2.1 rfl
theorem dy.deeper (h:dy C (n+1) A)(hk:ag.scope.kind=.function)(hf:ag.frame=XU L)(h0:C.h₀.get? L=XW):dy (C.more L) n (A.deeper ag):=by
 refine⟨h.handled,by have:=h.depth;show A.depth+1+n< _;exact br 0x2190bb0291b0b02 rfl this,by have:=h.units;show A.units+3+10*n+1000< _;exact br 0x2000003e88f10ad03a0bbb02000003e88f91b0ad0bb02 rfl this,?_⟩;refine aE h.frames fun fs h1 h2=>?_;refine⟨ag::fs,by show A.frames.map _=_;rw[h1];rfl,fun f hm=>?_⟩;refine XR (YL.mp hm) (fun y0=>?_) fun hm=>?_
 ·obtain rfl:=y0;exact⟨hk,L,hf,.inr rfl,h0⟩
 ·obtain⟨a,b,c,d,e⟩:=h2 f hm;exact⟨a,b,c,.inl d,e⟩
structure lg (C:Cx) (cd:WJ) (name:WS) (ag:Env) (A:XN):Prop where
 code:ag.code=cd
 qual:ag.qual=name++".<locals>."
 frame:ag.frame=XU ag.locals
 fr:C.fr ag.locals
 top:∃fs,A.frames=XU (ag::fs)
theorem zY (hC:C.Ok)(hO:∀fr,cI (C.at fr) n)(hF:∀fr,b9 (C.at fr) Φ n)(hS:∀fr,ou (C.at fr) n)(hZ:∀{fr A},dy (C.at fr) n A->vL (C.at fr) Φ Ψ A)(hP:∀{fr A ag},dy (C.at fr) n A->lg (C.at fr) cd name ag A->pC (C.at fr) Ψ A ag) (hT:¬C.T a) (ho:C.h₀.get? a=XU o) (hd:o.data=.func (Xy name params body scope pm cd doc)) (De:C.h₀.CodeRec cd name) (C7:j9 scope) (hx:xs.Nodup) (hk:∀x∈xs,(scope.names.lookup x=XU .local\/scope.names.lookup x=XU .cell)/\(x==("__debug__":WS))=false/\(x==("__classdict__":WS))=false) (hlen:xs.length=es.length) (hA:dy C (n+1) A) (bs:Bs C s) (V:bw C ak s) (nN:Wp C A.in1 (bindArgs (Xy name params body scope pm cd doc) ⟨vs,[]⟩) (fun bs aG=>bs=xs.zip us/\aK aG.heap ak us es) s) (h:cz Φ Ψ scope body (bI xs es)=XU (.ret d)):eN C A ak (WA (.ref a) vs) d s:=by
 intro E Q q
 refine g8 (pn (B:=fun aG=>Ex C s aG/\aK aG.heap ak us es) (by have:=hA.depth;exact br 0x200291b0b02 rfl this) (bs.keep a o ho hT) hd (bs.noLimit hC) (bs.Ll hC De) rfl (nN _ _ fun b aG x p=>⟨p.1,x,p.2⟩) (fun aG hb=>(hb.1.bs bs).noLimit hC) rfl (fun aG hb p hp=>?_) (fun s0 s1 hb ic=>?_) C7.co C7.gen C7.kind)
 ·obtain⟨x,v⟩:=p;refine XR ((hk x (List.of_mem_zip hp).1).1) (fun k1=>?_) fun k1=>?_
  ·exact .inl k1
  ·refine .inr ⟨k1,?_⟩;refine aM (eS (n:=aG.heap.objs.size+1) (aR:=[]) (.inl (mem_of_lookup k1))) fun c hc=>?_;refine aM (dZ hc) fun c' qv=>?_;refine xR qv ?_;rfl
 ·have bs0:=hb.1.bs bs;refine aZ (F6 (C:=C) C7 bs0 (V.ex hb.1 bs0) hb.2 hx hlen hk ic) fun S x1=>?_;have e:bh (callEnvC (Xy name params body scope pm cd doc) s0.heap.objs.size a) scope:=EP C7 rfl rfl;have w9:dy (C.more s0.heap.objs.size) n (A.deeper (callEnvC (Xy name params body scope pm cd doc) s0.heap.objs.size a)):=hA.deeper C7.kind rfl (S.j0.fl);refine aE hA.frames fun fs hfs y=>?_;refine EL (hC.at _) (hO _) (hF _) (hS _) w9 (hP w9 ⟨rfl,rfl,rfl,.inr rfl,fs,by show A.frames.map _=_;refine xR hfs ?_;rfl⟩) (hZ w9) e body S (yT xs es) h _ _ fun f s2 hf=>?_;refine ZU fun hG=>?_;obtain⟨v,rfl,hr,Om,W2,m⟩:=hf;refine hG ?_;have qp:∀b,FW (callEnvC (Xy name params body scope pm cd doc) s0.heap.objs.size a) scope b->s0.heap.get? b=XW:=fun b z=>by
   cases e':s0.heap.get? b with
   |none=>rfl
   |some o'=>
    refine XR z (fun z=>?_) fun y0=>?_
    ·have:b=s0.heap.objs.size:=z;rw[this,aF]at e';exact aa e'
    ·refine aE y0 fun x y z=>?_;have:=ic.above x b (mem_of_lookup z);have h2:=this;rw[wc (Nat.le_of_lt h2)]at e';exact aa e'
  refine q v s2 (hb.1.trans ⟨fun b o' e' t f=>m.keep b o' (x1.keep b o' e' t f) t (fun z=>z.elim f fun z=>by rw[z,aF]at e';exact aa e') fun z=>(by rw[qp b z]at e';exact aa e'),fun b o' f e'=>?_,fun y=>Om.less⟩) hr;refine aE (x1.nO b o' f e') fun o1 e1 d1=>?_;refine aE (m.nO b o1 (.inl f) (fun z=>by rw[qp b z]at e';exact aa e') e1) fun o2 e2 d2=>?_;exact⟨o2,e2,d2.trans d1⟩
theorem Dp (hC:C.Ok)(hO:∀fr,cI (C.at fr) n)(hF:∀fr,b9 (C.at fr) Φ n)(hS:∀fr,ou (C.at fr) n)(hZ:∀{fr A},dy (C.at fr) n A->vL (C.at fr) Φ Ψ A)(hP:∀{fr A ag},dy (C.at fr) n A->lg (C.at fr) cd name ag A->pC (C.at fr) Ψ A ag) (hT:¬C.T a) (ho:C.h₀.get? a=XU o) (hd:o.data=.func (Xy name params body scope pm cd doc)) (De:C.h₀.CodeRec cd name) (C7:j9 scope) (hx:xs.Nodup) (hk:∀x∈xs,(scope.names.lookup x=XU .local\/scope.names.lookup x=XU .cell)/\(x==("__debug__":WS))=false/\(x==("__classdict__":WS))=false) (hlen:xs.length=ds.length) (nN:bindArgs (Xy name params body scope pm cd doc) ⟨vs,[]⟩=pure (xs.zip vs)) (hA:dy C (n+1) A) (bs:Bs C s) (V:bw C ak s) (r:aK s.heap ak vs ds) (h:cz Φ Ψ scope body (bI xs ds)=XU (.ret d)):eN C A ak (WA (.ref a) vs) d s:=zY hC hO hF hS hZ hP hT ho hd De C7 hx hk hlen hA bs V (by refine xR nN ?_;exact Wp.pure ⟨rfl,r⟩) h
end
theorem yH {i:Int}(h:aP i=true):XJ.Int.intBits i<=64:=by refine aZ (cJ.mp h) fun a b=>?_;exact intBits_le (by lia)
theorem uV {n:Int}(h1:aP n=true)(h2:x.length*n.toNat<=aW):MulOk x n:=by
 refine aZ (cJ.mp h1) fun a b=>?_;refine⟨?_,fun h3 h4=>?_,fun h3 h4=>?_⟩
 ·rw[VY (by lia),VY (by lia)];rfl
 ·intro hc;have hn:(n.toNat:Int)=n:=ZJ (An 0xf8890f732 rfl h3);have h5:((x.length*n.toNat:Nat):Int)<=1000000:=ZL.mpr h2;rw[Int.natCast_mul,hn]at h5;have Kv:0<n:=An 0xf8790f732 rfl h3;have h6:=hc;have h7:=Int.lt_mul_of_ediv_lt Kv h6;lia
 ·exact VY (Nat.not_lt.mpr (bK h2))
theorem bY (r:bt h ak v (.list ds)):∃a o vs k,v=.ref a/\h.get? a=XU o/\o.cls=.type "list"/\o.dict=XW/\o.data=.seq vs.toArray k/\aK h ak vs ds:=r.lZ
theorem aK.push (r:aK h ak vs ds):aK (h.push o) ak vs ds:=r.mono fun b o' e nn=>⟨Xl o e,nn⟩
theorem Rep.new (V:bw C ak s)(r:aK s.heap ak vs ds):Rep (s.heap.push {cls:=.type "list",data:=.seq vs.toArray k,slots:=sl}) ak (.ref s.heap.objs.size) (.list ds):=.list (V.new (aF _)) (Xk _ rfl) rfl rfl rfl r.push
theorem yZ {i:Int}{t u:Tok}(fL:MulOk x i)(h:∀t' k,Q (.str (Txt.mul x i) t') {s with toks:=k}):Wn (Wu prog w) A (binaryOp .Mult (.int i u) (.str x t)) Q E s:=by
 refine lm_binaryOp_repeat_right (by decide) (fun s'=>typeIs_int s' i u) (Wq s x t) PySem.F.fills_int_mul noFill_str_mul PySem.F.slot_int_mul lm_noRepeat_int repeat_str Xv.lookup (call_gives PySem.F.slot_int_mul (typeIs_int s i u) PySem.F.entry_int_mul (PySem.F.args_int_mul_2 _ _) (AutoIntG3.int___mul___int_str_0 i u x t) ⟨rfl,Wq s x t,call_gives PySem.F.slot_str_mul (Wq s x t) PySem.F.entry_str_mul (PySem.F.args_str_mul_2 _ _) (gives_str_mul x i t u fL.1 fL.2.1 fL.2.2) ?_⟩);unfold Txt.mul at h;by_cases h1:i<1
 ·rw[V7 h1];have h':=h s.toks (s.toks+1);rw[V7 h1]at h';exact⟨by decide,h'⟩
 ·rw[V6 h1];refine post_val_or_made (fun hc=>fits_reps (fL.2.2 h1 (by simpa using hc))) fun t' k=>?_;have h':=h t' k;rw[V6 h1]at h';exact h'
theorem Em {i:Int}(ra:Rep s.heap ak v (.int i))(rb:Rep s.heap ak u (.str x))(hs:aP i=true/\x.length*i.toNat<=aW)(h:XU (Dat.str (Txt.mul x i))=XU d):eN C A ak (binaryOp .Mult v u) d s:=by refine aM ra.fO ?_;rintro t (rfl);refine aM rb.ku ?_;rintro t' (rfl);obtain rfl:=XT h;exact fun E Q q=>ao (yZ (uV hs.1 hs.2) fun t' k=>q _ _ .toks (.str _ _))
theorem El {i:Int}(ra:Rep s.heap ak v (.str x))(rb:Rep s.heap ak u (.int i))(hs:aP i=true/\x.length*i.toNat<=aW)(h:XU (Dat.str (Txt.mul x i))=XU d):eN C A ak (binaryOp .Mult v u) d s:=by refine aM ra.ku ?_;rintro t (rfl);refine aM rb.fO ?_;rintro t' (rfl);obtain rfl:=XT h;exact fun E Q q=>ao (SB.mul (uV hs.1 hs.2) fun t' k=>q _ _ .toks (.str _ _))
theorem xU {x y:List Dat}(V:bw C ak s)(ra:Rep s.heap ak v (.list x))(rb:Rep s.heap ak u (.list y))(hs:x.length+y.length<=aW)(h:XU (Dat.list (x++y))=XU d):eN C A ak (binaryOp .Add v u) d s:=by obtain rfl:=XT h;intro E Q q;refine ao ?_;refine cQ (bY (.rep ra)) ?_;rintro l y0 vs k1 (rfl) ho hc y1;refine bH y1 fun hn hd hr=>?_;obtain⟨c1,d1,Je,wm⟩:=y0;refine cQ (bY (.rep rb)) ?_;rintro l2 y0 ws k2 (rfl) mE Aq y1;refine bH y1 fun hn2 hd2 sm=>?_;obtain⟨c2,d2,SI,tK⟩:=y0;obtain rfl:c1=_:=hc;obtain rfl:Je=_:=hd;obtain rfl:c2=_:=Aq;obtain rfl:SI=_:=hd2;refine concat_meets ⟨_,ho,rfl⟩ ⟨_,mE,rfl⟩ noFill_list_add seq_list_add PySem.F.slot_list_add PySem.F.entry_list_add (PySem.F.args_list_add_2 _ _) (list_addW l l2 vs.toArray ws.toArray k1 k2 d1 d2 wm tK (by simp only[Yo,hr.length,sm.length];exact bK hs)) ⟨ho,mE,?_⟩;rw[List.append_toArray];exact q _ _ .push (Rep.new V (hr.append sm))
theorem Ey {x y:Int}(ra:Rep s.heap ak v (.int x))(rb:Rep s.heap ak u (.int y))(h:lO op (.int x) (.int y)=XU d):eN C A ak (binaryOp op v u) d s:=by
 refine aM ra.fO ?_;rintro t (rfl);refine aM rb.fO ?_;rintro t' (rfl);intro E Q q;refine ao ?_;have q':∀(i:Int)(t:Tok)(k:Nat),XU (Dat.int i)=XU d->Q (.int i t) {s with toks:=k}:=fun i t k e=>q _ _ .toks (XT e▸.int i t);rcases op with⟨⟩;case Add=>exact add_int (q' _ _ _ h)
 case Sub=>exact PyProof.Rows.sub_int (q' _ _ _ h)
 case Mult=>exact aQ h fun hs h=>PyProof.Rows.mul_int (q' _ _ _ h) (.of_left (yH (Z5.mp hs).1))
 case FloorDiv=>exact w6 h fun hs h=>floordiv_int (not_or.mp hs).1 (q' _ _ _ h) (.inl (PyProof.noPylong_small (Decidable.not_not.mp (not_or.mp hs).2)))
 case Mod=>exact w6 h fun hs h=>mod_int' hs (q' _ _ _ h)
 case Pow=>exact aQ h fun hs h=>by refine aZ (cJ.mp hs.2.2) fun h4 h5=>?_;exact pow_int_small hs.1 (by lia) (by lia) (q' _ _ _ h)
 all_goals (exact aa h)
theorem IK {a b:Dat}(bs:Bs C s)(V:bw C ak s)(ra:Rep s.heap ak v a)(rb:Rep s.heap ak u b)(h:lO op a b=XU d):eN C A ak (binaryOp op v u) d s:=by
 rcases O0 h with⟨x,y,rfl,rfl⟩|⟨x,y,rfl,rfl⟩|⟨x,y,rfl,rfl⟩|⟨x,y,rfl,rfl⟩|⟨x,y,rfl,rfl⟩|⟨x,y,rfl,rfl⟩
 ·exact Ey ra rb h
 ·refine bH (za h) ?_;rintro(rfl) hs h;exact Em ra rb hs h
 ·refine bH (za h) ?_;rintro(rfl) hs h;exact El ra rb hs h
 ·refine bH (tH h) ?_;rintro(rfl) hs h;refine aM ra.ku ?_;rintro t (rfl);refine aM rb.ku ?_;rintro t' (rfl);obtain rfl:=XT h;exact fun E Q q=>ao (PyProof.Rows.add_str (fun t' tk=>q _ _ .toks (.str _ _)) (bK hs))
 ·refine bH (tH h) ?_;rintro(rfl) hs h;refine aM ra.gK ?_;rintro t (rfl);refine aM rb.gK ?_;rintro t' (rfl);obtain rfl:=XT h;refine fun E Q q=>ao (KBy.add_bytes (by simp only[Yo];exact Yg hs (by decide)) fun t' k=>q _ _ .toks ?_);rw[List.append_toArray];exact .bytes _ _
 ·refine bH (tH h) ?_;rintro(rfl) hs h;exact xU V ra rb hs h
theorem Jl {a:Dat}(ra:Rep s.heap ak v a)(h:TX op a=XU d):eN C A ak (unaryOp op v) d s:=by
 rcases op with⟨⟩;case USub=>cases a with
  |int x=>refine aM ra.fO ?_;rintro t (rfl);obtain rfl:=XT h;exact fun E Q q=>ao (PyProof.Rows.neg_int (q _ _ .toks (.int _ _)))
  |_=>exact aa h
 all_goals (exact aa h)
set_option tactic.hygienic true in
theorem bt.flat (r:bt h ak v d)(hl:∀ds,d≠.list ds)(hb:∀b,d≠.bz b):Rep h ak v d:=by
 rcases r with⟨⟩;case rep r=>exact r
 case list=>exact absurd rfl (hl _)
 case bz=>exact absurd rfl (hb _)
set_option tactic.hygienic true in
theorem M6 {a:Dat}(r:bt s.heap ak v a)(h:qj a=XU b):Wp C A (truthy v) (fun t y=>t=b) s:=by
 rcases a with⟨⟩;case bool c=>obtain rfl:=(r.flat nofun nofun).Dt;exact fun E Q q=>ao (V8 (q _ _ (.refl s) (XT h)))
 case int i=>refine aM ((r.flat nofun nofun).fO) ?_;rintro t (rfl);exact fun E Q q=>ao (PyProof.Rows.truthy_int (q _ _ (.refl s) (XT h)))
 case str x=>refine aM ((r.flat nofun nofun).ku) ?_;rintro t (rfl);exact aQ h fun hs h E Q q=>ao (PySem.P.truthy_str (by unfold aW at hs;lia) (q _ _ .toks (by show((x.length:Int) !=0)=b;rw[<-XT h,ZZ];simp[bne_iff_ne])))
 all_goals (exact aa h)
theorem de (hs:∀p q r t,slice≠.Slice p q r t)(o i:WJ):subscripted slice false o i=operate [o,i] (getItem o i):=by rcases slice with⟨⟩<;>first|rfl|exact absurd rfl (hs _ _ _ _)
set_option tactic.hygienic true in
theorem fH (lo hi st:Option Expr)(p:Pos)(o i:WJ):∃ops,subscripted (.Slice lo hi st p) false o i=operate ops (getItem o i):=by
 rcases st with⟨⟩;case none=>exact⟨_,rfl⟩
 case some x=>exact⟨_,rfl⟩
theorem lx {i:Int}(h:dU i n=XU k):seqIndex? i n=XU k:=by
 unfold dU at h;split at h
 ·rename_i h0;split at h
  ·rename_i h1;obtain rfl:=XT h;have h2:¬i<0:=An 0x80f730f882 rfl h0;simp[seqIndex?,h2,h0,h1]
  ·exact aa h
 ·rename_i h0;split at h
  ·rename_i h1;obtain rfl:=XT h;have h2:i<0:=An 0x80f70f8832 rfl h0;have h3:i+(n:Int)<n:=Pk 0xaf0af0fb780f72 rfl h2;simp[seqIndex?,h2,h1,h3]
  ·exact aa h
theorem qw {i:Int}{t:Tok}{x:WJ}(hl:s.heap.IsList l av)(hi:aP i=true)(hk:dU i av.size=XU k)(hx:av[k]?=XU x)(hQ:Q x s):Wn (Wu pw Wd) A (getItem (.ref l) (.int i t)) Q E s:=by
 refine aZ (cJ.mp hi) fun h1 h2=>?_;unfold dU at hk;split at hk
 ·split at hk
  ·obtain rfl:=XT hk;exact wpAny_getItem_list hl (by assumption) (by lia) hx hQ
  ·exact aa hk
 ·split at hk
  ·obtain rfl:=XT hk;exact wpAny_getItem_list_neg hl (An 0x80f70f8832 rfl (by assumption)) (Pk 0xf0af9f80af0fb882 rfl (by assumption)) (by lia) hx hQ
  ·exact aa hk
theorem wY {i:Int}(r:bt s.heap ak v (.list ds))(ri:Rep s.heap ak u (.int i))(hs:∀p q r t,slice≠.Slice p q r t)(hi:aP i=true)(hk:dU i ds.length=XU j)(h:ds[j]?=XU d):eN C A ak (subscriptTail value slice v u) d s:=by refine cQ (bY r) ?_;rintro l o vs k (rfl) ho hc y0;refine bH y0 fun hn hd hr=>?_;refine aM ri.fO ?_;rintro t (rfl);refine aE (hr.get h) fun x hx rx=>?_;have hl:s.heap.IsList l vs.toArray:=⟨o,ho,hc,_,hd⟩;exact fun E Q q=>ao (tail_any hl.typeIs slot_list_getitem.lookup (qw hl hi (by rw[Yo,hr.length];exact hk) (by rw[Ze];exact hx) (q _ _ (.refl s) rx)) (de hs _ _))
theorem tZ {i:Int}(r:Rep s.heap ak v (.tuple ds))(ri:Rep s.heap ak u (.int i))(hs:∀p q r t,slice≠.Slice p q r t)(hi:aP i=true)(hk:dU i ds.length=XU j)(h:ds[j]?=XU d):eN C A ak (subscriptTail value slice v u) d s:=by refine cQ r.tuple' ?_;rintro l o vs k (rfl) _ ho y0;refine bH y0 fun hc hd hr=>?_;refine aM ri.fO ?_;rintro t (rfl);refine aE (hr.get h) fun x hx rx=>?_;have ht:IsTup s.heap _ _:=⟨_,ho,hc,_,hd⟩;refine aZ (cJ.mp hi) fun h1 h2=>?_;exact fun E Q q=>ao (tail_any ht.typeIs slot_tuple_getitem.lookup (getItem_tuple ht (by lia) (by lia) (lx (by rw[Yo,hr.length];exact hk)) (by rw[Ze];exact hx) (q _ _ (.refl s) rx)) (de hs _ _))
theorem zq {i:Int}(r:Rep s.heap ak v (.str x))(ri:Rep s.heap ak u (.int i))(hs:∀p q r t,slice≠.Slice p q r t)(hi:aP i=true)(hk:dU i x.length=XU j)(h:x.cps[j]?=XU c):eN C A ak (subscriptTail value slice v u) (.str ⟨#[c]⟩) s:=by refine aM r.ku ?_;rintro t (rfl);refine aM ri.fO ?_;rintro t' (rfl);refine aZ (cJ.mp hi) fun h1 h2=>?_;exact fun E Q q=>ao (tail_any (Wq _ _ _) PySem.F.slot_str_getitem.lookup (PySem.P.getItem_str (by rw[VY (by lia),VY (by lia)];rfl) (by rw[lx hk];exact h) (q _ _ .toks (.str _ _))) (de hs _ _))
theorem t6 {i:Int}(r:Rep s.heap ak v (.bytes b))(ri:Rep s.heap ak u (.int i))(hs:∀p q r t,slice≠.Slice p q r t)(hi:aP i=true)(hk:dU i b.length=XU j)(h:b[j]?=XU c):eN C A ak (subscriptTail value slice v u) (.int c.toNat) s:=by
 refine aM r.gK ?_;rintro t (rfl);refine aM ri.fO ?_;rintro t' (rfl);refine aZ (cJ.mp hi) fun h1 h2=>?_;refine fun E Q q=>ao (tail_any (WE _ _ _) WH.lookup (getItem_gives (WE s _ _) (by decide) WH FB.entry_bytes_getitem (FB.args_bytes_getitem_2 _ _) (gives_bytes_getitem _ i _ _ c ?_ ?_) (q _ _ .toks (.int _ _))) (de hs _ _))
 ·simp only[XG,Z6,V0];lia
 ·rw[Yo,lx hk];show b.toArray[j]?=XU c;rw[Ze];exact h
theorem Et {a i:Dat}(bs:Bs C s)(V:bw C ak s)(r:bt s.heap ak v a)(ri:Rep s.heap ak u i)(h:dp a i=XU d)(hs:∀p q r t,slice≠.Slice p q r t)(R6:∀b i d,a=.bz b->u=.int i d->eN C A ak (subscriptTail value slice v u) (.int ((b[(dU i b.length).getD 0]?).getD 0).toNat) s\/aP i=false\/dU i b.length=XW):eN C A ak (subscriptTail value slice v u) d s:=by
 have key:∀{i:Int}{n:Nat}{f:Nat->Option Dat},E7 i n f=XU d->aP i=true/\∃j,dU i n=XU j/\f j=XU d:=fun h=>aQ h fun hi h=>au h fun j hk h=>⟨hi,j,hk,h⟩;refine XR (Kn h) (fun y0=>?_) fun y1=>?_
 ·refine aE y0 ?_;rintro i (rfl) hv;rcases hv with⟨ds,rfl⟩|⟨ds,rfl⟩|⟨x,rfl⟩|⟨b,rfl⟩|⟨b,rfl⟩
  ·obtain⟨hi,j,hk,h⟩:=key h;exact wY r ri hs hi hk h
  ·obtain⟨hi,j,hk,h⟩:=key h;exact tZ (r.flat nofun nofun) ri hs hi hk h
  ·obtain⟨hi,j,hk,h⟩:=key h;refine bx h fun c hc h=>?_;subst h;exact zq (r.flat nofun nofun) ri hs hi hk hc
  ·obtain⟨hi,j,hk,h⟩:=key h;refine bx h fun c hc h=>?_;subst h;exact t6 (r.flat nofun nofun) ri hs hi hk hc
  ·obtain⟨hi,j,hk,h⟩:=key h;refine aM ri.fO ?_;rintro t (rfl);refine bx h fun c hc h=>?_;subst h;obtain z|z|z:=R6 b i _ rfl rfl
   ·rw[hk]at z;have hg:=V4 (fun o:Option UInt8=>(o.getD 0).toNat) hc;exact hg▸z
   ·exact absurd (hi.symm.trans z) Bool.noConfusion
   ·exact aa (z.symm.trans hk)
 ·refine jX y1 ?_;rintro x ks vs (rfl) (rfl);exact(r.flat nofun nofun).inv.elim
theorem Jv {p:W6}(h:ml (.str x)=XU p):W4 x=true/\p=.str x:=aQ h fun hc h=>⟨hc,(XT h).symm⟩
theorem yo {p:W6}(h:ml (.list ds)=XU p):∃ps,fB ds=XU ps/\p=.list ps:=by have h':(match fB ds with|some ps=>XU (W6.list ps)|none=>XW)=XU p:=h;cases e:fB ds with|none=>replace h':=e▸h';exact aa h'|some ps=>replace h':=e▸h';exact⟨ps,rfl,(XT h').symm⟩
theorem FU (h:fB ds=XU ps):ml (.list ds)=XU (.list ps):=by show(match fB ds with|some ps=>XU (W6.list ps)|none=>XW)=_;rw[h]
theorem UY {p:W6}(h:ml d=XU p)(h2:fB ds=XU ps):fB (d::ds)=XU (p::ps):=by show(match ml d with|none=>XW|some p=>match fB ds with|none=>XW|some ps=>XU (p::ps))=_;rw[h,h2]
theorem DQ {p:W6}(h:ml (.tuple ds)=XU p):∃ps,fB ds=XU ps/\p=.tuple ps:=by have h':(match fB ds with|some ps=>XU (W6.tuple ps)|none=>XW)=XU p:=h;cases e:fB ds with|none=>replace h':=e▸h';exact aa h'|some ps=>replace h':=e▸h';exact⟨ps,rfl,(XT h').symm⟩
theorem DP (h:fB (d::ds)=XU ps):∃p qs,ml d=XU p/\fB ds=XU qs/\ps=p::qs:=by
 have h':(match ml d with|none=>XW|some p=>match fB ds with|none=>XW|some ps=>XU (p::ps))=XU ps:=h;cases e:ml d with
 |none=>replace h':=e▸h';exact aa h'
 |some p=>replace h':=e▸h';cases e2:fB ds with|none=>replace h':=e2▸h';exact aa h'|some qs=>replace h':=e2▸h';exact⟨p,qs,rfl,rfl,(XT h').symm⟩
def CA (h:Xp)(ak:XO->Prop)(d:Dat):Prop:=∀{v:WJ}{p:W6},Rep h ak v d->ml d=XU p->p.canLay0=true/\∃as,Reads h v p as
theorem A8 (ih:∀{vs:List WJ}{ps:List W6},aK h ak vs ds->fB ds=XU ps->W5 ps=true/\∃as,ReadsAll h vs ps as):CA h ak (.list ds):=fun r e=>by refine aE (yo e) ?_;rintro ps hp (rfl);refine cQ r.lZ ?_;rintro a o vs n (rfl) _ ho y0;refine lH y0 fun hc x hd hr=>?_;refine ZU fun hG=>?_;obtain⟨h1,as,h2⟩:=ih hr hp;refine hG ?_;exact⟨h1,_,reads_list_at ho hc hd h2⟩
theorem yN (ih:∀{vs:List WJ}{ps:List W6},aK h ak vs ds->fB ds=XU ps->W5 ps=true/\∃as,ReadsAll h vs ps as):CA h ak (.tuple ds):=fun r e=>by refine aE (DQ e) ?_;rintro ps hp (rfl);refine cQ r.tuple' ?_;rintro a o vs n (rfl) _ ho y0;refine bH y0 fun hc hd hr=>?_;refine ZU fun hG=>?_;obtain⟨h1,as,h2⟩:=ih hr hp;refine hG ?_;exact⟨h1,_,reads_tuple_at ho hc hd h2⟩
mutual
theorem uK:∀(d:Dat),CA h ak d
 | .none=>fun r e=>by obtain rfl:=r.QU;obtain rfl:=XT e;exact⟨rfl,_,.none⟩
 | .bool b=>fun r e=>by obtain rfl:=r.Dt;obtain rfl:=XT e;exact⟨rfl,_,.bool b⟩
 | .int i=>fun r e=>by(refine aM r.fO ?_;rintro t (rfl));obtain rfl:=XT e;exact⟨rfl,_,.int i t⟩
 | .str x=>fun r e=>by(refine aM r.ku ?_;rintro t (rfl));(refine aZ (Jv e) ?_;rintro hx (rfl));exact⟨hx,_,.str x t⟩
 | .list ds=>A8 (jE ds)
 | .tuple ds=>yN (jE ds)
 | .bytes _=>fun y e=>aa e
 | .range _ _ _=>fun y e=>aa e
 | .bz _=>fun y e=>aa e
 | .dict _ _=>fun y e=>aa e
 | .top _=>fun y e=>aa e
 | .typ _=>fun y e=>aa e
theorem jE:∀(ds:List Dat){vs:List WJ}{ps:List W6},aK h ak vs ds->fB ds=XU ps->W5 ps=true/\∃as,ReadsAll h vs ps as
 |[]=>fun r e=>by rcases r with⟨⟩;obtain rfl:=XT e;exact⟨rfl,_,.nil⟩
 |d::ds=>fun r e=>by
  cases r with|cons r rs=>?_
  refine eH (DP e) ?_;rintro p qs h1 h2 (rfl)
  obtain⟨h3,as,h4⟩:=uK d r h1
  obtain⟨h5,bs,h6⟩:=jE ds rs h2
  exact⟨by show(p.canLay0&&W5 qs)=true;rw[h3,h5];rfl,_,.cons h4 h6⟩
end
theorem Rep.reads {p:W6}(r:Rep h ak v d)(e:ml d=XU p):p.canLay0=true/\∃as,Reads h v p as:=uK d r e
theorem aK.reads (r:aK h ak vs ds)(e:fB ds=XU ps):W5 ps=true/\∃as,ReadsAll h vs ps as:=jE ds r e
set_option tactic.hygienic true in
theorem bt.reads {p:W6}(r:bt h ak v d)(e:ml d=XU p):p.canLay0=true/\∃as,Reads h v p as:=by
 rcases r with⟨⟩;case rep r=>exact r.reads e
 case list ho hc hn hd hr=>refine aE (yo e) ?_;rintro ps hp (rfl);obtain⟨h1,as,h2⟩:=hr.reads hp;exact⟨h1,_,reads_list_at ho hc hd h2⟩
 case bz=>exact aa e
theorem ll {p:W6}(h1:p.canLay0=true)(h2:p.depth<=60):SeqAt.shaped p=true:=by unfold SeqAt.shaped;rw[h1,Bool.true_and];exact VZ (Yg h2 (by decide))
set_option tactic.hygienic true in
theorem vq {a b:Dat}(h:qy a b=XU r):∃p q,ml a=XU p/\ml b=XU q/\p.depth<=60/\q.depth<=60/\r=W6.eqv p q:=by
 delta qy at h;cases hp:ml a with
 |none=>rw[hp]at h;exact aa h
 |some p=>cases hq:ml b with|none=>rw[hp,hq]at h;exact aa h|some q=>rw[hp,hq]at h;exact aQ h fun hd h=>⟨p,q,rfl,rfl,hd.1,hd.2,(XT h).symm⟩
set_option tactic.hygienic true in
theorem K4 {a b:Dat}(h:MG a b=XU r):(∃x y,a=.bytes x/\b=.bytes y/\r=(x==y))\/qy a b=XU r:=by
 rcases a with⟨⟩;case bytes x=>
  rcases b with⟨⟩;case bytes y=>exact .inl ⟨x,y,rfl,rfl,(XT h).symm⟩
  all_goals exact .inr h
 all_goals exact .inr h
theorem vr {a b:Dat}(h:MG a b=XU r):(∃x y,a=.bytes x/\b=.bytes y/\r=(x==y))\/∃p q,ml a=XU p/\ml b=XU q/\p.depth<=60/\q.depth<=60/\r=W6.eqv p q:=(K4 h).imp id vq
theorem K0 {a b:Dat}(hA:dy C n A)(ra:bt s.heap ak v a)(rb:bt s.heap ak u b)(h:MG a b=XU r):eN C A ak (compareOp .Eq v u) (.bool r) s:=by
 intro E Q q;refine ao ?_;refine XR (vr h) (fun y0=>?_) fun y1=>?_
 ·refine eH y0 ?_;rintro x y (rfl) (rfl) (rfl);(refine aM ((ra.flat nofun nofun).gK) ?_;rintro t (rfl));refine aM ((rb.flat nofun nofun).gK) ?_;rintro t' (rfl);refine compareOp_gives (WE s _ _) (WE s _ _) FB.slot_bytes_eq FB.entry_bytes_eq (FB.args_bytes_eq_2 _ _) (gives_bytes_eq _ _ _ _) (fun e=>nomatch e) (q _ _ (.refl s) (.bool _))
 ·refine Fy y1 ?_;rintro p p' hp Ht d1 d2 (rfl);obtain⟨c1,as,r1⟩:=ra.reads hp;obtain⟨c2,bs,r2⟩:=rb.reads Ht;exact eq_dataH r1 r2 (ll c1 d1) (ll c2 d2) (by have:=hA.units;exact br 0x240a0b02000003e88f10ad0bb02 rfl this) (q _ _ (.refl s) (.bool _))
theorem J6 {a b:Dat}(hA:dy C n A)(ra:bt s.heap ak v a)(rb:bt s.heap ak u b)(h:MG a b=XU r):eN C A ak (compareOp .NotEq v u) (.bool !r) s:=by
 intro E Q q;refine ao ?_;refine XR (vr h) (fun y0=>?_) fun y1=>?_
 ·refine eH y0 ?_;rintro x y (rfl) (rfl) (rfl);(refine aM ((ra.flat nofun nofun).gK) ?_;rintro t (rfl));refine aM ((rb.flat nofun nofun).gK) ?_;rintro t' (rfl);refine compareOp_gives (WE s _ _) (WE s _ _) FB.slot_bytes_ne FB.entry_bytes_ne (FB.args_bytes_ne_2 _ _) (gives_bytes_ne _ _ _ _) (fun e=>nomatch e) (q _ _ (.refl s) (.bool _))
 ·refine Fy y1 ?_;rintro p p' hp Ht d1 d2 (rfl);obtain⟨c1,as,r1⟩:=ra.reads hp;obtain⟨c2,bs,r2⟩:=rb.reads Ht;exact ne_dataH r1 r2 (ll c1 d1) (ll c2 d2) (by have:=hA.units;exact br 0x240a0b02000003e88f10ad0bb02 rfl this) (q _ _ (.refl s) (.bool _))
set_option tactic.hygienic true in
theorem C6 {a:Dat}(hA:dy C n A)(ra:bt s.heap ak v a)(rb:bt s.heap ak u (.list ds))(h:memD a ds=XU r):eN C A ak (compareOp .In v u) (.bool r) s/\eN C A ak (compareOp .NotIn v u) (.bool !r) s:=by
 delta memD at h;cases hp:ml a with
 |none=>rw[hp]at h;exact aa h
 |some p=>
  cases Ku:fB ds with
  |none=>rw[hp,Ku]at h;exact aa h
  |some ps=>
   rw[hp,Ku]at h;refine aQ h fun hd h=>?_;obtain rfl:=XT h;obtain⟨c1,as,r1⟩:=ra.reads hp;have e:=FU Ku;obtain⟨c2,bs,r2⟩:=rb.reads e;have hu:A.units+1+min (W6.depthAll ps) p.depth<cLine:=by have:=hA.units;have:=Nat.min_le_right (W6.depthAll ps) p.depth;exact oC 0x3491bb00413000003e88f20ad1bb03ca014 rfl hd (by assumption) this
   exact⟨fun E Q q=>ao (SeqAt.in_list_reads r2 r1 c2 c1 hu (q _ _ (.refl s) (.bool _))),fun E Q q=>ao (SeqAt.notIn_list_reads r2 r1 c2 c1 hu (q _ _ (.refl s) (.bool _)))⟩
set_option tactic.hygienic true in
theorem wJ {a b:Dat}(ra:Rep s.heap ak v a)(rb:Rep s.heap ak u b)(h:Eg op a b=XU r)(hQ:Q (.bool r) s):Wn (Wu prog w) A (compareOp op v u) Q E s:=by
 rcases a with⟨⟩;case int x=>cases b with
  |int y=>
   refine aM ra.fO ?_;rintro t (rfl);refine aM rb.fO ?_;rintro t' (rfl);rcases op with⟨⟩;case Lt=>obtain rfl:=XT h;exact PyProof.Rows.lt_int hQ
   case LtE=>obtain rfl:=XT h;exact PyProof.Rows.le_int hQ
   case Gt=>obtain rfl:=XT h;exact PyProof.Rows.gt_int hQ
   case GtE=>obtain rfl:=XT h;exact PyProof.Rows.ge_int hQ
   all_goals (exact aa h)
  |_=>exact aa h
 case str x=>cases b with
  |str y=>
   refine aM ra.ku ?_;rintro t (rfl);refine aM rb.ku ?_;rintro t' (rfl);rcases op with⟨⟩;case Lt=>obtain rfl:=XT h;exact PySem.P.lt_str hQ
   case LtE=>obtain rfl:=XT h;exact PySem.P.le_str hQ
   case Gt=>obtain rfl:=XT h;exact PySem.P.gt_str hQ
   case GtE=>obtain rfl:=XT h;exact PySem.P.ge_str hQ
   all_goals (exact aa h)
  |_=>exact aa h
 all_goals (exact aa h)
theorem pd {a b:Dat}(hA:A.units+70<cLine)(ra:Rep s.heap ak v a)(rb:Rep s.heap ak u b)(h:qy a b=XU r){Q:Bool->WV->Prop}(hQ:Q r s):Wn (Wu prog w) A (eqBool v u) Q E s:=by refine Fy (vq h) ?_;rintro p p' hp Ht d1 d2 (rfl);obtain⟨c1,as,r1⟩:=ra.reads hp;obtain⟨c2,bs,r2⟩:=rb.reads Ht;refine SeqAt.eqBoolOverData prog w A E s v u p p' as bs Q r1 r2 c1 c2 ?_ hQ;have:=Nat.min_le_left p.depth p'.depth;exact cX 0x130b02313ca21146a0b04 rfl hA d1 this
theorem head_drop {av:Array WJ}{i:Nat}{v:WJ}{vs:List WJ}(h:av.toList.drop i=v::vs):av[((i:Nat):Int).toNat]?=XU v:=by rw[ZK,<-Array.getElem?_toList];have:=V4 (fun l:List WJ=>l[0]?) h;simp only[List.getElem?_drop,Nat.add_zero,Zl]at this;exact this
theorem rO {op:CmpOp}{z:Int}(hz:[CmpOp.Lt,.LtE,.Eq,.NotEq,.Gt,.GtE][z.toNat]?=XU op)(Ud:op=.Lt\/op=.LtE\/op=.Gt)(l b:XO)(av cx:Array WJ)(n n2:Nat)(dd Fs:Option XO)(sl tK:Array (Option WJ)):∀(ds es:List Dat)(xs ys:List WJ)(i:Nat)(r:Bool),av.toList.drop i=xs->cx.toList.drop i=ys->av.size=i+xs.length->cx.size=i+ys.length->jH op ds es i=XU r->Meets (XJ.«list.__eq__.loop» ⟨[.ref l,.ref b,rawInt i,rawInt z],[]⟩) (fun A R s=>s.heap.get? l=XU {cls:=.type "list",dict:=dd,data:=.seq av n,slots:=sl}/\s.heap.get? b=XU {cls:=.type "list",dict:=Fs,data:=.seq cx n2,slots:=tK}/\A.units+80<cLine/\aK s.heap ak xs ds/\aK s.heap ak ys es/\R (.ok (.ret (.bool r))) s):=by
 revert hz Ud
 refine mX VV ?_ b op l z av cx ak n2 Fs tK n dd sl
 generalize gB _ _=tt
 dsimp only[As]
 generalize tt.1.1.1.1=b,tt.1.1.1.2=op,tt.1.1.2.1=l,tt.1.1.2.2=z,tt.1.2.1.1=av,tt.1.2.1.2=cx,tt.1.2.2=ak,tt.2.1.1.1=n2,tt.2.1.1.2=Fs,tt.2.1.2=tK,tt.2.2.1.1=n,tt.2.2.1.2=dd,tt.2.2.2=sl
 intro hz Ud
 intro ds
 induction ds with
 |nil=>intro es xs ys i r hx hy sx sy ho prog w A R s h;obtain⟨hp,g,d,tk,os⟩:=s;refine DF h ?_;clear h;intro hl hb hu r1 r2 h;rcases r1 with⟨⟩;have Fp:=(V4 (av[·]?) (ZK i)).trans (Array.getElem?_eq_none (Nat.le_of_eq sx));have e:=(V4 (GL op _) (sy.trans (V4 (i+·) r2.length))).trans ((V4 (GL op · _) sx).trans (XT ho));wp_walk using We hl,We hb;erw [hz];wp_walk using We hl,We hb;rw[Fp];wp_walk using We hl,We hb;subst e;refine Eq.mp (V4 (fun x=>R (.ok (.ret x)) {heap:=hp,gens:=g,drawn:=d,toks:=tk,os:=os}) ?_) h;rcases op with⟨⟩<;>rfl
 |cons a ds ih=>
  intro es xs ys i r hx hy sx sy ho prog w A R s h;obtain⟨hp,g,d,tk,os⟩:=s;refine DF h ?_;clear h;intro hl hb hu r1 r2 h;cases r1 with| @cons v _ vs _ rv Pp=>have Fp:=head_drop hx;cases r2 with
  |nil=>have Pw:=(V4 (cx[·]?) (ZK i)).trans (Array.getElem?_eq_none (Nat.le_of_eq sy));have e:=(V4 (GL op · _) (sx.trans (V4 (fun x=>i+(x+1)) Pp.length))).trans ((V4 (GL op _) sy).trans (XT ho));wp_walk using We hl,We hb;erw [hz];wp_walk using We hl,We hb;rw[Fp,Pw];wp_walk using We hl,We hb;subst e;refine Eq.mp (V4 (fun x=>R (.ok (.ret x)) {heap:=hp,gens:=g,drawn:=d,toks:=tk,os:=os}) ?_) h;rcases op with⟨⟩<;>rfl
  | @cons u b' us es ru rus=>
  have Pw:=head_drop hy;replace ho:(match qy a b' with|some true=>jH op ds es (i+1)|some false=>Eg op a b'|none=>XW)=XU r:=ho;cases he:qy a b' with
  |none=>rw[he]at ho;exact aa ho
  |some e=>
   rw[he]at ho;wp_walk using We hl,We hb;erw [hz];wp_walk using We hl,We hb;rw[Fp,Pw];refine Wk (pd (by show A.units+1+70< _;exact aT 0x146a90bb0150a0b02 rfl hu) rv ru he ?_);rcases e with⟨⟩;case true=>have go:=ih es vs us (i+1) r (by rw[<-ZC,hx];rfl) (by rw[<-ZC,hy];rfl) (sx.trans (Nat.add_right_comm i _ 1)) (sy.trans (Nat.add_right_comm i _ 1)) ho;wp_walk;exact⟨Wt Xb _,Wz Xc ((XM Xb _)▸go prog w A R _ ⟨hl,hb,hu,Pp,rus,h⟩)⟩
   case false=>wp_walk using We hl,We hb;rw[Fp,Pw];rcases Ud with rfl|rfl|rfl<;>exact Wk (wJ rv ru ho (Wa h))
theorem C1 (l b:XO)(av cx:Array WJ)(n n2:Nat)(dd Fs:Option XO)(sl tK:Array (Option WJ))(ho:jH .Lt ds es 0=XU r):Meets (XJ.«list.__lt__» ⟨[.ref l,.ref b],[]⟩) (fun A R s=>s.heap.get? l=XU {cls:=.type "list",dict:=dd,data:=.seq av n,slots:=sl}/\s.heap.get? b=XU {cls:=.type "list",dict:=Fs,data:=.seq cx n2,slots:=tK}/\A.units+80<cLine/\aK s.heap ak av.toList ds/\aK s.heap ak cx.toList es/\R (.ok (.ret (.bool r))) s):=by
 intro prog w A R s h
 obtain⟨hp,g,d,tk,os⟩:=s;refine DF h fun hl hb hu r1 r2 h=>?_
 have f3:=XK
 wp_walk using We hl,We hb
 exact⟨Wt Xb _,Wz Xc (by exact(XM Xb _)▸rO rfl (.inl rfl) l b av cx n n2 dd Fs sl tK ds es av.toList cx.toList 0 r rfl rfl (by simp) (by simp) ho prog w A R _ ⟨hl,hb,hu,r1,r2,h⟩)⟩
theorem Kc (l b:XO)(av cx:Array WJ)(n n2:Nat)(dd Fs:Option XO)(sl tK:Array (Option WJ))(ho:jH .LtE ds es 0=XU r):Meets (XJ.«list.__le__» ⟨[.ref l,.ref b],[]⟩) (fun A R s=>s.heap.get? l=XU {cls:=.type "list",dict:=dd,data:=.seq av n,slots:=sl}/\s.heap.get? b=XU {cls:=.type "list",dict:=Fs,data:=.seq cx n2,slots:=tK}/\A.units+80<cLine/\aK s.heap ak av.toList ds/\aK s.heap ak cx.toList es/\R (.ok (.ret (.bool r))) s):=by
 intro prog w A R s h
 obtain⟨hp,g,d,tk,os⟩:=s;refine DF h fun hl hb hu r1 r2 h=>?_
 have f3:=XK
 wp_walk using We hl,We hb
 exact⟨Wt Xb _,Wz Xc (by exact(XM Xb _)▸rO rfl (.inr (.inl rfl)) l b av cx n n2 dd Fs sl tK ds es av.toList cx.toList 0 r rfl rfl (by simp) (by simp) ho prog w A R _ ⟨hl,hb,hu,r1,r2,h⟩)⟩
theorem Kd (l b:XO)(av cx:Array WJ)(n n2:Nat)(dd Fs:Option XO)(sl tK:Array (Option WJ))(ho:jH .Gt ds es 0=XU r):Meets (XJ.«list.__gt__» ⟨[.ref l,.ref b],[]⟩) (fun A R s=>s.heap.get? l=XU {cls:=.type "list",dict:=dd,data:=.seq av n,slots:=sl}/\s.heap.get? b=XU {cls:=.type "list",dict:=Fs,data:=.seq cx n2,slots:=tK}/\A.units+80<cLine/\aK s.heap ak av.toList ds/\aK s.heap ak cx.toList es/\R (.ok (.ret (.bool r))) s):=by
 intro prog w A R s h
 obtain⟨hp,g,d,tk,os⟩:=s;refine DF h fun hl hb hu r1 r2 h=>?_
 have f3:=XK
 wp_walk using We hl,We hb
 exact⟨Wt Xb _,Wz Xc (by exact(XM Xb _)▸rO rfl (.inr (.inr rfl)) l b av cx n n2 dd Fs sl tK ds es av.toList cx.toList 0 r rfl rfl (by simp) (by simp) ho prog w A R _ ⟨hl,hb,hu,r1,r2,h⟩)⟩
set_option tactic.hygienic true in
theorem GQ {a b:Dat}(h:Eg op a b=XU r):(∃x y,a=.int x/\b=.int y)\/∃x y,a=.str x/\b=.str y:=by
 rcases a with⟨⟩;case int x=>
  rcases b with⟨⟩;case int y=>exact .inl ⟨x,y,rfl,rfl⟩
  all_goals exact aa h
 case str x=>
  rcases b with⟨⟩;case str y=>exact .inr ⟨x,y,rfl,rfl⟩
  all_goals exact aa h
 all_goals exact aa h
set_option tactic.hygienic true in
theorem GO {a b:Dat}(h:GP op a b=XU r):(∃x y,a=.list x/\b=.list y)\/Eg op a b=XU r:=by
 rcases a with⟨⟩;case list x=>
  rcases b with⟨⟩;case list y=>exact .inl ⟨x,y,rfl,rfl⟩
  all_goals exact .inr h
 all_goals exact .inr h
theorem nr {a b:Dat}(hA:dy C n A)(ra:bt s.heap ak v a)(rb:bt s.heap ak u b)(h:GP op a b=XU r)(hQ:Q (.bool r) s):Wn (Wu prog w) A (compareOp op v u) Q E s:=by
 refine XR (GO h) (fun y=>?_) fun h=>?_
 ·obtain⟨x,y,rfl,rfl⟩:=y;refine cQ (bY ra) ?_;rintro l y0 vs k1 (rfl) ho hc y1;refine bH y1 fun hn hd hr=>?_;obtain⟨c1,d1,Je,wm⟩:=y0;refine cQ (bY rb) ?_;rintro l2 y0 ws k2 (rfl) mE Aq y1;refine bH y1 fun hn2 hd2 sm=>?_;obtain⟨c2,d2,SI,tK⟩:=y0;simp only at hc hd Aq hd2;subst hc hd Aq hd2;have hu:=hA.units;have fin:WJ.bool r≠WJ.notImplemented/\Q (.bool r) s:=⟨(fun x=>nomatch x),hQ⟩;rcases op with⟨⟩;case Lt=>exact richCompare_meets_room (op:=.Lt) ⟨_,ho,rfl⟩ ⟨_,mE,rfl⟩ Xu PySem.F.entry_list_lt (PySem.F.args_list_lt_2 _ _) (C1 l l2 vs.toArray ws.toArray k1 k2 d1 d2 wm tK h) ⟨ho,mE,by exact br 0x250a0b02000003e88f10ad0bb02 rfl hu,by simpa using hr,by simpa using sm,fin⟩ (br 0x2002000003e88f10ad0bb02 rfl hu)
  case LtE=>exact richCompare_meets_room (op:=.LtE) ⟨_,ho,rfl⟩ ⟨_,mE,rfl⟩ PySem.F.slot_list_le PySem.F.entry_list_le (PySem.F.args_list_le_2 _ _) (Kc l l2 vs.toArray ws.toArray k1 k2 d1 d2 wm tK h) ⟨ho,mE,by exact br 0x250a0b02000003e88f10ad0bb02 rfl hu,by simpa using hr,by simpa using sm,fin⟩ (br 0x2002000003e88f10ad0bb02 rfl hu)
  case Gt=>exact richCompare_meets_room (op:=.Gt) ⟨_,ho,rfl⟩ ⟨_,mE,rfl⟩ PySem.F.slot_list_gt PySem.F.entry_list_gt (PySem.F.args_list_gt_2 _ _) (Kd l l2 vs.toArray ws.toArray k1 k2 d1 d2 wm tK h) ⟨ho,mE,by exact br 0x250a0b02000003e88f10ad0bb02 rfl hu,by simpa using hr,by simpa using sm,fin⟩ (br 0x2002000003e88f10ad0bb02 rfl hu)
  all_goals exact aa h
 ·refine XR (GQ h) (fun y=>?_) fun y=>?_
  ·obtain⟨x,y,rfl,rfl⟩:=y;exact wJ (ra.flat nofun nofun) (rb.flat nofun nofun) h hQ
  ·obtain⟨x,y,rfl,rfl⟩:=y;exact wJ (ra.flat nofun nofun) (rb.flat nofun nofun) h hQ
set_option tactic.hygienic true in
theorem Eh {a b:Dat}(h:kW .NotIn a b=XU r):(∃ds,b=.list ds/\(memD a ds).map (!·)=XU r)\/∃x y,a=.str x/\b=.str y/\(!Txt.contains y x)=r:=by
 rcases b with⟨⟩;case list ds=>exact .inl ⟨ds,rfl,by rcases a with⟨⟩<;>exact h⟩
 case str y=>
  rcases a with⟨⟩;case str x=>exact .inr ⟨x,y,rfl,rfl,XT h⟩
  all_goals exact aa h
 all_goals (rcases a with⟨⟩<;>exact aa h)
set_option tactic.hygienic true in
theorem NR {a b:Dat}(h:kW .In a b=XU r):∃ds,b=.list ds/\memD a ds=XU r:=by
 rcases b with⟨⟩;case list ds=>exact⟨ds,rfl,h⟩
 all_goals exact aa h
theorem Io {a b:Dat}(hA:dy C n A)(ra:bt s.heap ak v a)(rb:bt s.heap ak u b)(h:kW op a b=XU r):eN C A ak (compareOp op v u) (.bool r) s:=by
 revert op hA ra rb h;refine no_implicit_lambda% (vR (bL (bL (bL (bL pQ ya) pR) (bL G1 G1)) VV) ?_ s C A a b ak u v r n);generalize gB _ _=tt;dsimp only[I3];generalize tt.1.1.1.1=s,tt.1.1.1.2=C,tt.1.1.2=A,tt.1.2.1=a,tt.1.2.2=b,tt.2.1.1.1=ak,tt.2.1.1.2=u,tt.2.1.2=v,tt.2.2.1=r,tt.2.2.2=n;intro op hA ra rb h;rcases op with⟨⟩;case Eq=>exact K0 hA ra rb h
 case NotEq=>exact bx h fun r' he e=>e▸J6 hA ra rb he
 case Lt=>exact fun E Q q=>ao (nr hA ra rb h (q _ _ (.refl s) (.bool _)))
 case LtE=>exact fun E Q q=>ao (nr hA ra rb h (q _ _ (.refl s) (.bool _)))
 case Gt=>exact fun E Q q=>ao (nr hA ra rb h (q _ _ (.refl s) (.bool _)))
 case GtE=>exact fun E Q q=>ao (nr hA ra rb h (q _ _ (.refl s) (.bool _)))
 case In=>obtain⟨ds,rfl,h⟩:=NR h;exact(C6 hA ra rb h).1
 case NotIn=>
  refine XR (Eh h) (fun y=>?_) fun y=>?_
  ·obtain⟨ds,rfl,h⟩:=y;exact bx h fun r' he e=>e▸(C6 hA ra rb he).2
  ·obtain⟨x,y,rfl,rfl,rfl⟩:=y;cases ra.flat nofun nofun;cases rb.flat nofun nofun;exact fun E Q q=>ao (PySem.P.notIn_str (q _ _ (.refl s) (.bool _)))
 all_goals exact aa h
theorem aK.picks (r:aK h ak vs ds):∀ks:List Nat,aK h ak (ks.filterMap (vs[·]?)) (ks.filterMap (ds[·]?))
 |[]=>.nil
 |k::ks=>by
  have ih:=r.picks ks;cases hd:ds[k]? with
  |none=>
   have hv:vs[k]?=XW:=by rw[Zi]at hd ⊢;rw[r.length];exact hd
   rw[List.filterMap_cons_none hd,List.filterMap_cons_none hv];exact ih
  |some d=>refine aE (r.get hd) fun v hv rv=>?_;rw[List.filterMap_cons_some hd,List.filterMap_cons_some hv];exact .cons rv ih
theorem aK.pick (r:aK h ak vs ds)(lo hi st:Option Int):aK h ak (pick vs lo hi st) (pick ds lo hi st):=by unfold Mine.Internal.pick;rw[r.length];exact r.picks _
theorem wk (vs:List WJ)(lo hi st:Option Int):slicePick vs.toArray lo hi st=(pick vs lo hi st).toArray:=by unfold slicePick pick;simp only[Yo,Ze]
theorem fW {α:Type}(xs:List α)(lo hi:Option Int):pick xs lo hi XW=(xs.drop (lo.elim 0 (clipAt xs.length))).take (hi.elim xs.length (clipAt xs.length)-lo.elim 0 (clipAt xs.length)):=by unfold pick;rw[sliceBounds_plain];simp only[sliceRange_one];have:=pick_run xs.toArray (lo.elim 0 (clipAt xs.length)) (hi.elim xs.length (clipAt xs.length)-lo.elim 0 (clipAt xs.length));simpa using this
set_option tactic.hygienic true in
theorem yP {α:Type}(xs:List α)(lo hi st:Option Int)(h0:st≠XU 0):(pick xs lo hi st).length<=xs.length:=by
 unfold pick;refine Yg (List.length_filterMap_le _ _) (sliceRange_length_le _ _ _ _ (fun hc=>⟨?_,?_⟩) fun hc=>⟨?_,?_⟩)
 ·rcases lo with⟨⟩;case none=>exact ZR (V7 hc).symm
  case some i=>exact ZQ (Int.le_max_left 0 _) (ZR (V7 hc).symm)
 ·rcases hi with⟨⟩;case none=>exact ZR (V7 hc)
  case some i=>exact ZQ (ZR (V7 hc)) (Int.max_le.mpr ⟨ZN _,Int.min_le_right _ _⟩)
 ·rcases lo with⟨⟩;case none=>exact ZR (V6 hc)
  case some i=>exact ZQ (ZR (V6 hc)) (Int.max_le.mpr ⟨ZQ (ZR (Int.zero_sub 1).symm) (Int.sub_le_sub_right (ZN _) 1),Int.min_le_right _ _⟩)
 ·rcases hi with⟨⟩;case none=>exact ZR (V6 hc).symm
  case some i=>exact ZQ (Int.le_max_left (-1) _) (ZR (V6 hc).symm)
set_option tactic.hygienic true in
theorem F2 (x:WS)(lo hi:Option Int):Txt.slice x lo hi=⟨(pick x.cps.toList lo hi XW).toArray⟩:=by
 have e:XJ.Str.strSliceIndices lo hi 1 x.length=sliceRange (sliceBounds lo hi XW x.length).1 (sliceBounds lo hi XW x.length).2.1 (sliceBounds lo hi XW x.length).2.2:=by rcases lo with⟨⟩<;>rcases hi with⟨⟩<;>rfl
 unfold Txt.slice;split
 ·rename_i h;simp only[BEq.rfl,Bool.true_and,V3]at h;rw[fW];rw[e,sliceBounds_plain]at h;simp only[sliceRange_one,Y4,YY]at h;have hl:x.cps.toList.length=x.length:=by simp[WS.length]
  rw[hl];generalize hb:hi.elim x.length (clipAt x.length)=b at *;generalize ha:lo.elim 0 (clipAt x.length)=a at *;have R5:b<=x.length:=by
   rw[<-hb];rcases hi with⟨⟩;case none=>exact Yh _
   case some j=>show clipAt _ _<=_;unfold clipAt;exact Pk 0xaf0fdf8cfbf11 rfl
  by_cases hz:a=0
  ·rw[hz,Zz,Ym (by exact cX 0x82c01132c21023 rfl hl h)]
  ·have:x.length=0:=br 0x8228123201210c24 rfl h R5 hz;have hx:=List.eq_nil_of_length_eq_zero (aT 0x8028121023 rfl hl this);rw[hx];cases x with|mk c=>simp at hx;simp[hx]
 ·rw[e];unfold pick;have hl:x.cps.toList.length=x.length:=by simp[WS.length]
  rw[hl];simp only[Array.getElem?_toList]
noncomputable def L2 (v:WJ):WX WJ:=do
 if v== .none then return .none
 if(<-specialOf v "__index__").isNone then rule "bytes.slice.part-no-index";raiseError "TypeError" "slice indices must be integers or None or have an __index__ method"
 return rawInt (<-asIndex v)
set_option tactic.hygienic true in
theorem rJ {x:Option Int}(hp:Xf v x)(h:Q (rawPart x) s):Wn (Wu prog w) A (L2 v) Q E s:=by
 unfold L2;rcases hp with⟨⟩;case none=>exact Wa h
 case int i t=>refine wpAny_ite (KBy.ite_no (by simp) ?_);refine Wk (V9 (typeIs_int _ _ _) Xv.lookup (wpAny_ite (KBy.ite_no (by simp) ?_)));exact Wk (Wb rfl (Wa h))
set_option tactic.hygienic true in
theorem tT {prog:W8}{w:WD}{a:XO}{o:Obj}{l:WJ}{lo hi st:Option Int}(hl:Xf l lo)(hu:Xf u hi)(hv:Xf v st)(h0:st≠XU 0)(ho:s.heap.get? a=XU o)(hd:o.data=.fields #[l,u,v]){E:WJ->WV->Prop}{Q:WJ×WJ×WJ->WV->Prop}(h:Q (rawPart lo,rawPart hi,rawPart st) s):Wn (Wu prog w) A (XJ.Bytes.sliceParts (.ref a)) Q E s:=by
 refine Wk (Wg ho hd rfl (Wk (rJ hv ?_)));have hn:¬((rawPart st==rawInt 0)=true):=by
  rcases hv with⟨⟩;case none=>exact ZX
  case int i t=>intro q;have:=eq_of_beq q;injection this with hi;exact h0 (by rw[hi])
 refine wpAny_ite (KBy.ite_no hn ?_);exact Wk (Wg ho hd rfl (Wk (rJ hl (Wk (Wg ho hd rfl (Wk (rJ hu (Wa h))))))))
theorem z6 {b:List UInt8}{t:Tok}{a:XO}{l:WJ}{lo hi st:Option Int}(hl:Xf l lo)(hu:Xf u hi)(hv:Xf v st)(h0:st≠XU 0)(hz:b.length<=sizeLine):Meets (XJ.«bytes.__getitem__» ⟨[.bytes b.toArray t,.ref a],[]⟩) (fun y R s=>s.heap.IsSliceOf a l u v/\∀t' k,R (.ok (.ret (.bytes (pick b lo hi st).toArray t'))) {s with toks:=k}):=by
 revert l hl hu hv h0 hz;refine no_implicit_lambda% (MY VV ?_ b lo hi st t a u v);generalize gB _ _=tt;dsimp only[K8];generalize tt.1.1.1=b,tt.1.1.2=lo,tt.1.2.1=hi,tt.1.2.2=st,tt.2.1.1=t,tt.2.1.2=a,tt.2.2.1=u,tt.2.2.2=v;intro l hl hu hv h0 hz;refine .of_wp fun prog w A R s hS=>?_;refine aZ hS fun y0 h=>?_;refine eB y0 fun o ho hc hd=>?_;have hT:s.TypeIs (.ref a) "slice":=⟨o,ho,hc⟩;show Wn _ _ (XF (.bytes b.toArray t)>>=fun r=>_) _ _ s;refine Wk (Wb rfl ?_);show Wn _ _ (XC (.ref a)>>=fun r=>_) _ _ s;refine Wk ?_;unfold XC;refine Wk (V9 hT slice_no_index (Wa ?_));refine Wk (wpAny_typeOf hT ?_);have go:Wn (Wu prog w) A.in1 (sliceIndices (rawPart lo) (rawPart hi) (rawPart st) b.toArray.size) (fun r s'=>r=sliceBounds lo hi st b.toArray.size/\s'=s) (fun y y=>False) s:=Wb (sliceIndices_raw lo hi st b.toArray.size h0) ⟨rfl,rfl⟩;have e:XE b.toArray (sliceBounds lo hi st b.toArray.size).1 (sliceBounds lo hi st b.toArray.size).2.1 (sliceBounds lo hi st b.toArray.size).2.2=(pick b lo hi st).toArray:=by unfold XE pick;simp only[Yo,Ze]
 have rest:Wn (Wu prog w) A.in1 (sliceIndices (rawPart lo) (rawPart hi) (rawPart st) b.toArray.size>>=fun x=>do
   if x.1==0&&x.2.2==1&&x.2.1==b.toArray.size&& !b.toArray.isEmpty then if(<-typeOf (.bytes b.toArray t))== .type "bytes" then rule "bytes.__getitem__.whole";return <-ret (.bytes b.toArray t)
   ret (<-mkBytes (XE b.toArray x.1 x.2.1 x.2.2))) (fun fin s'=>∃v,fin=.done (.ret v)/\R (.ok (.ret v)) s') (fun e s'=>R (.error e) s') s:=by
  refine Wk (wpAny_mono go (fun r s' hr=>?_) fun y y e=>e.elim);refine aZ hr fun Hr sm=>?_;subst Hr sm;by_cases hw:((sliceBounds lo hi st b.toArray.size).1==0&&(sliceBounds lo hi st b.toArray.size).2.2==1&&(sliceBounds lo hi st b.toArray.size).2.1==b.toArray.size&& !b.toArray.isEmpty)=true
  ·rw[V7 hw];refine Wk (wpAny_typeOf (WE _ _ t) ?_);refine wpAny_ite (KBc.ite_yes rfl ?_);refine Wk (wpAny_rule ?_);refine Wa ⟨_,rfl,?_⟩;simp only[Z6,V3]at hw;refine aZ hw fun y0 y=>?_;refine aZ y0 fun y1 h3=>?_;refine aZ y1 fun h1 h2=>?_;have e2:(pick b lo hi st).toArray=b.toArray:=by rw[<-e,h1,h2,h3];show XE b.toArray ((0:Nat):Int) ((b.toArray.size:Nat):Int) 1=b.toArray;unfold XE;rw[sliceRange_one,pick_run];simp
   have h':=h t s'.toks;rw[e2]at h';exact h'
  ·rw[V6 hw,e];exact Wk (wpAny_mkBytes (Wa ⟨_,rfl,h _ _⟩) (by rw[Yo];exact Yg (yP b lo hi st h0) hz))
 exact Wk (tT hl hu hv h0 ho hd rest)
set_option tactic.hygienic true in
theorem CV (h:Xf v l):∃p:Option (Int×Tok),v=partValue p/\p.map (·.1)=l:=by
 rcases h with⟨⟩;case none=>exact⟨XW,rfl,rfl⟩
 case int i t=>exact⟨XU (i,t),rfl,rfl⟩
theorem tS {value:Expr}{lo hi st:Option Expr}{p:Pos}{ds:List Dat}{v1 v2 v3:WJ}{l1 l2 l3:Option Int}{sl:XO}(V:bw C ak s)(r:bt s.heap ak v (.list ds))(hs:s.heap.IsSliceOf sl v1 v2 v3)(p1:Xf v1 l1)(p2:Xf v2 l2)(p3:Xf v3 l3)(h0:l3≠XU 0)(hz:ds.length<=aW):eN C A ak (subscriptTail value (.Slice lo hi st p) v (.ref sl)) (.list (pick ds l1 l2 l3)) s:=by intro E Q q;refine ao ?_;refine aM (fH lo hi st p v (.ref sl)) fun ops Hv=>?_;refine cQ (bY r) ?_;rintro l o vs k (rfl) ho hc y0;refine bH y0 fun hn hd hr=>?_;have hl:s.heap.IsList l vs.toArray:=⟨o,ho,hc,_,hd⟩;refine tail_any hl.typeIs slot_list_getitem.lookup (wpAny_getItem_list_slice hl hs p1 p2 p3 h0 ?_ (by rw[Yo,hr.length];exact bK hz)) Hv;rw[wk];exact q _ _ .push (Rep.new V (hr.pick l1 l2 l3))
theorem rz {value:Expr}{lo hi st:Option Expr}{p:Pos}{b:List UInt8}{v1 v2 v3:WJ}{l1 l2 l3:Option Int}{sl:XO}(r:Rep s.heap ak v (.bytes b))(hs:s.heap.IsSliceOf sl v1 v2 v3)(p1:Xf v1 l1)(p2:Xf v2 l2)(p3:Xf v3 l3)(h0:l3≠XU 0)(hz:b.length<=aW):eN C A ak (subscriptTail value (.Slice lo hi st p) v (.ref sl)) (.bytes (pick b l1 l2 l3)) s:=by intro E Q q;refine ao ?_;refine aM (fH lo hi st p v (.ref sl)) fun ops Hv=>?_;refine aM r.gK ?_;rintro t (rfl);exact tail_any (WE _ _ _) WH.lookup (getItem_meets (WE _ _ _) (by decide) WH FB.entry_bytes_getitem (FB.args_bytes_getitem_2 _ _) (z6 p1 p2 p3 h0 (bK hz)) ⟨hs,fun t' k=>q _ _ .toks (.bytes _ _)⟩) Hv
theorem wj {value:Expr}{lo hi st:Option Expr}{p:Pos}{x:WS}{v1 v2 v3:WJ}{l1 l2 l3:Option Int}{sl:XO}(r:Rep s.heap ak v (.str x))(hs:s.heap.IsSliceOf sl v1 v2 v3)(p1:Xf v1 l1)(p2:Xf v2 l2)(p3:Xf v3 l3)(hz:x.length<=aW/\l3=XW):eN C A ak (subscriptTail value (.Slice lo hi st p) v (.ref sl)) (.str ⟨(pick x.cps.toList l1 l2 l3).toArray⟩) s:=by
 intro E Q q;refine ao ?_;refine aM (fH lo hi st p v (.ref sl)) fun ops Hv=>?_;refine aM r.ku ?_;rintro t (rfl);obtain⟨hz,Fm⟩:=hz;subst Fm;refine aE (CV p1) ?_;rintro q1 (rfl) (rfl);refine aE (CV p2) ?_;rintro q2 (rfl) (rfl);rcases p3 with⟨⟩;refine tail_any (Wq _ _ _) PySem.F.slot_str_getitem.lookup (wpAny_getItem_str_slice (st:=XW) hs rfl ?_) Hv;have hp:=F2 x (q1.map (·.1)) (q2.map (·.1));unfold Txt.slice at hp;unfold sliceMade slicePicked;show Made.post (if((1:Int)==1&&(XJ.Str.strSliceIndices (q1.map (·.1)) (q2.map (·.1)) 1 x.length).length==x.length)=true then _ else _) Q s;split
 ·rename_i hw;rw[V7 hw]at hp;refine q (.str x _) s (.refl s) ?_;rw[<-hp];exact .str _ _
 ·rename_i hw;rw[V6 hw]at hp;refine⟨?_,?_⟩
  ·show(List.filterMap _ _).toArray.size<=sizeLine;rw[Yo];exact Yg (List.length_filterMap_le _ _) (Yg (sliceIndices_le _ _ _) (bK hz))
  ·refine q _ _ .toks ?_;rw[<-hp];exact .str _ _
theorem AW {value:Expr}{lo hi st:Option Expr}{p:Pos}{a d:Dat}{v1 v2 v3:WJ}{l1 l2 l3:Option Int}{sl:XO}(bs:Bs C s)(V:bw C ak s)(r:bt s.heap ak v a)(hs:s.heap.IsSliceOf sl v1 v2 v3)(p1:Xf v1 l1)(p2:Xf v2 l2)(p3:Xf v3 l3)(h:eZ a l1 l2 l3=XU d):eN C A ak (subscriptTail value (.Slice lo hi st p) v (.ref sl)) d s:=by refine w6 h fun hh h=>?_;have h0:=fun q=>hh (.inl q);cases a with|list ds=>exact aQ h fun hz h=>XT h▸tS V r hs p1 p2 p3 h0 hz|bytes b=>exact aQ h fun hz h=>XT h▸rz (r.flat nofun nofun) hs p1 p2 p3 h0 hz|str x=>exact aQ h fun hz h=>XT h▸wj (r.flat nofun nofun) hs p1 p2 p3 hz|_=>exact aa h
theorem jG:Manifest.owners.lookup (String.ofList ['y','a','r','r','a','e','t','y','b'].reverse)=XU Manifest.sig_bytearray:=by kernel_rfl
theorem lT:WU "bytearray" "__len__" "bytearray.__len__":=.of (owner:="bytearray") (n:="__len__") (by rw[Wo,WB];kernel_rfl) (by decide +kernel) (by decide +kernel) (by decide +kernel) (by first|exact .inl (by decide +kernel)|exact .inr (by decide +kernel)) (by rw[Wv];kernel_rfl)
theorem sW:entryFor table "bytearray.__len__"=XU XJ.«bytearray.__len__»:=Wy (by kernel_rfl)
theorem uz (a:WJ):argsOk "bytearray.__len__" ⟨[a],[]⟩:=by unfold argsOk;rw[Ws (n:=['_','_','n','e','l','_','_']) (by kernel_rfl) jG];kernel_rfl
theorem lU:WU "bytearray" "__getitem__" "bytearray.__getitem__":=.of (owner:="bytearray") (n:="__getitem__") (by rw[Wo,WB];kernel_rfl) (by decide +kernel) (by decide +kernel) (by decide +kernel) (by first|exact .inl (by decide +kernel)|exact .inr (by decide +kernel)) (by rw[Wv];kernel_rfl)
theorem sX:entryFor table "bytearray.__getitem__"=XU XJ.«bytearray.__getitem__»:=Wy (by kernel_rfl)
theorem uA (a b:WJ):argsOk "bytearray.__getitem__" ⟨[a,b],[]⟩:=by unfold argsOk;rw[Ws (n:=['_','_','m','e','t','i','t','e','g','_','_']) (by kernel_rfl) jG];kernel_rfl
theorem lS:WU "bytearray" "__setitem__" "bytearray.__setitem__":=.of (owner:="bytearray") (n:="__setitem__") (by rw[Wo,WB];kernel_rfl) (by decide +kernel) (by decide +kernel) (by decide +kernel) (by first|exact .inl (by decide +kernel)|exact .inr (by decide +kernel)) (by rw[Wv];kernel_rfl)
theorem sU:entryFor table "bytearray.__setitem__"=XU XJ.«bytearray.__setitem__»:=Wy (by kernel_rfl)
theorem uy (a b c:WJ):argsOk "bytearray.__setitem__" ⟨[a,b,c],[]⟩:=by unfold argsOk;rw[Ws (n:=['_','_','m','e','t','i','t','e','s','_','_']) (by kernel_rfl) jG];kernel_rfl
theorem IP (a:XO)(b:List UInt8)(n:Nat)(dd:Option XO)(sl:Array (Option WJ))(i:Int)(u:Tok)(c:UInt8)(hr:XG i=true)(hc:(seqIndex? i b.length).bind (b[·]?)=XU c):Meets (XJ.«bytearray.__getitem__» ⟨[.ref a,.int i u],[]⟩) (fun y R s=>s.heap.get? a=XU {cls:=.type "bytearray",dict:=dd,data:=.bytearray b.toArray n,slots:=sl}/\R (.ok (.ret (.int c.toNat s.toks))) {s with toks:=s.toks+1}):=by
 refine .of_wp fun prog w A R s hS=>?_;refine aZ hS fun ho h=>?_;show Wn _ _ (XC (.int i u)>>=fun r=>_) _ _ s;refine Wk ?_;unfold XC;refine Wk (V9 (typeIs_int s i u) Xv.lookup ?_);show Wn _ _ (if(!Builtin.Bytes.fitsIndex i)=true then _ else pure (XU i)) _ _ s;rw[hr];refine Wa ?_;have hp:Wn (Wu prog w) A.in1 (XF (.ref a)) (fun x s'=>x=b.toArray/\s'=s) (fun y y=>False) s:=by unfold XF;refine Wk ?_;exact Wk (Wf ho (Wa (Wa ⟨rfl,rfl⟩)))
 refine Wk (wpAny_mono hp (fun x s' hx=>?_) fun y y f=>f.elim);refine aZ hx ?_;rintro(rfl) (rfl);have:(seqIndex? i b.toArray.size).bind (b.toArray[·]?)=XU c:=by simpa using hc
 rw[this];exact Wk (wpAny_mkInt (Wa ⟨_,rfl,h⟩))
set_option tactic.hygienic true in
theorem rF (r:bt h ak v (.bz b)):∃a o k,v=.ref a/\h.get? a=XU o/\o.cls=.type "bytearray"/\o.data=.bytearray b.toArray k:=by
 rcases r with⟨⟩;case rep r=>(rcases r with⟨⟩;(case bz hv ho hc hd=>exact⟨_,_,_,rfl,ho,hc,hd⟩))
 case bz ho hc hd=>exact⟨_,_,_,rfl,ho,hc,hd⟩
theorem uT:cI C n where
 bin:=fun x bs V ra rb h=>IK bs V ra rb h;un:=fun x x x ra h=>Jl ra h;cmp:=fun hA x x ra rb h=>Io hA ra rb h;TY:=fun x x x r h=>M6 r h;slice:=fun x bs V r hs p1 p2 p3 h=>AW bs V r hs p1 p2 p3 h;item:=fun{value slice a i d v u A s ak}x bs V r ri h hs=>Et bs V r ri h hs fun b i t ea eu=>by
  subst ea eu;by_cases hi:aP i=true
  ·cases hk:dU i b.length with
   |none=>exact .inr (.inr rfl)
   |some j=>
    refine .inl fun E Q q=>ao ?_;refine iL (rF r) ?_;rintro a y0 k (rfl) ho hc hd;obtain⟨c1,d1,Je,wm⟩:=y0;simp only at hc hd;subst hc hd;refine aZ (cJ.mp hi) fun h1 h2=>?_;have hj:j<b.length:=by
     unfold dU at hk;split at hk
     ·split at hk
      ·obtain rfl:=XT hk;exact Pk 0xfbf00af0f70f883 rfl (by assumption) (by assumption)
      ·exact aa hk
     ·split at hk
      ·obtain rfl:=XT hk;exact Pk 0xaf0fbbf00af0fb880f8833 rfl (by assumption) (by assumption)
      ·exact aa hk
    have hb:=Zk hj;refine tail_any ⟨_,ho,rfl⟩ lU.lookup (getItem_meets ⟨_,ho,rfl⟩ (by decide) lU sX (uA _ _) (IP a b k d1 wm i t b[j] ?_ ?_) ⟨ho,?_⟩) (de hs _ _)
    ·simp only[XG,Z6,V0];lia
    ·rw[lx hk];exact hb
    ·refine q _ _ .toks ?_;rw[Option.getD_some,hb];exact .int _ _
  ·exact .inr (.inl (by simpa using hi))
set_option tactic.hygienic true in
theorem aK.set (rv:Rep h ak v d)(r:aK h ak vs ds):∀k,aK h ak (vs.set k v) (ds.set k d):=r.ind (Q:=fun vs ds=>∀k,aK h ak (vs.set k v) (ds.set k d)) (fun x=>.nil) fun r rs ih k=>by
  rcases k with⟨⟩;case zero=>exact .cons rv rs
  case succ k=>exact .cons r (ih k)
theorem Obj.n9 (hd:o.data=.bytearray b n)(f:Array UInt8->Array UInt8):∃n',(Obj.mapBytearray f o).data=.bytearray (f b) n'/\(Obj.mapBytearray f o).cls=o.cls:=by obtain⟨c,d,da,sl⟩:=o;simp only at hd;subst hd;exact⟨_,rfl,rfl⟩
theorem yf {Q:Unit->WV->Prop}(ho:s.heap.get? a=XU o)(hd:o.data=.bytearray b k)(hz:(f b).size<=sizeLine)(hQ:Q () {s with heap:=s.heap.update a (Obj.mapBytearray f)}):Wn (Wu prog w) A (XJ.Bytes.write (.ref a) f) Q E s:=by
 show Wn _ _ (updateBytearray a f) _ _ s;unfold updateBytearray;refine Wk (Wf ho ?_);rw[hd];refine aE (Obj.n9 hd f) fun n' cU qv=>?_;refine Wk (wpAny_update ho ?_);refine wpAny_lookBehind (Xi _ ho ?_) ?_ hQ
 ·obtain⟨c,d,da,sl⟩:=o;simp only at hd;subst hd;rfl
 ·rw[cU];show(if(f b).size>sizeLine then _ else XW)=XW;rw[V6 (by exact aT 0x1031012 rfl hz)]
theorem IM (a:XO)(o:Obj)(b:List UInt8)(n:Nat)(i x:Int)(u v:Tok)(hr:XG i=true)(h0:0<=i)(h1:i<b.length)(hx:0<=x)(zB:x<256)(hz:b.length<=sizeLine)(hd:o.data=.bytearray b.toArray n):Meets (XJ.«bytearray.__setitem__» ⟨[.ref a,.int i u,.int x v],[]⟩) (fun z R s=>s.heap.get? a=XU o/\R (.ok (.ret .none)) {s with heap:=s.heap.update a (Obj.mapBytearray (·.setIfInBounds i.toNat x.toNat.toUInt8))}):=by
 revert hr h0 h1 hx zB hz hd;refine MY VV ?_ i x a b u v o n;generalize gB _ _=tt;dsimp only[K8];generalize tt.1.1.1=i,tt.1.1.2=x,tt.1.2.1=a,tt.1.2.2=b,tt.2.1.1=u,tt.2.1.2=v,tt.2.2.1=o,tt.2.2.2=n;intro hr h0 h1 hx zB hz hd;refine .of_wp fun prog w A R s hS=>?_;refine aZ hS fun ho h=>?_;refine Wk ?_;unfold XC;refine Wk (V9 (typeIs_int s i u) Xv.lookup ?_);show Wn _ _ (if(!Builtin.Bytes.fitsIndex i)=true then _ else pure (XU i)) _ _ s;rw[hr];refine Wa ?_;have hbv:XJ.Bytes.byteValue (.int x v)=pure x.toNat.toUInt8:=by unfold XJ.Bytes.byteValue;show(if(decide (x<0)||decide (x>=256))=true then _ else _)=_;rw[V6 (by simp;exact An 0x1008f0f70f884000001008f0f70f883 rfl hx zB)]
 refine Wk (Wb hbv ?_);have hp:Wn (Wu prog w) A.in1 (XF (.ref a)) (fun x s'=>x=b.toArray/\s'=s) (fun z z=>False) s:=by unfold XF;refine Wk ?_;refine Wk (Wf ho ?_);rw[hd];exact Wa (Wa ⟨rfl,rfl⟩)
 refine Wk (wpAny_mono hp (fun x' s' zB=>?_) fun z z f=>f.elim);refine aZ zB ?_;rintro(rfl) (rfl);have e:seqIndex? i b.toArray.size=XU i.toNat:=by have h2:¬i<0:=An 0x80f730f882 rfl h0;simp[seqIndex?,h2,h0,h1]
 show Wn _ _ (match seqIndex? i b.toArray.size with|some k=>(do XJ.Bytes.write (.ref a) (·.setIfInBounds k x.toNat.toUInt8);return <-ret .none)|none=>_) _ _ _;rw[e];refine Wk (yf ho hd ?_ (Wa ⟨_,rfl,h⟩));rw[Array.size_setIfInBounds,Yo];exact hz
theorem zS (hd:o.data=.seq xs n):(Obj.mapSeq f o).dict=o.dict:=by obtain⟨c,d,da,sl⟩:=o;obtain rfl:da=_:=hd;rfl
theorem ud (hd:o.data=.bytearray xs n):(Obj.mapBytearray f o).isFreed=false:=by obtain⟨c,d,da,sl⟩:=o;obtain rfl:da=_:=hd;rfl
theorem yA {i:Int}{p:XO}{Q:Unit->WV->Prop}(hh:0<=i/\i<(ds.length:Int)/\ds.length<=aW)(hp:ak p)(r:bt s.heap ak (.ref p) (.list ds))(rj:Rep s.heap ak u (.int i))(rd:Rep s.heap ak v d)(hQ:∀s1 h' t,Ex C s s1->Xn p s1.heap h'->bt h' ak (.ref p) (.list (ds.set i.toNat d))->Q () {s1 with heap:=h',toks:=t}):aV (Wu pw Wd) A (setItem (.ref p) u v) Q E s:=by
 revert d u hh hp r rj rd hQ;refine no_implicit_lambda% (vR (bL (bL (bL (bL ya pQ) pR) VV) VV) ?_ C s A p v E Q i ak ds);generalize gB _ _=tt;dsimp only[I3];generalize tt.1.1.1.1=C,tt.1.1.1.2=s,tt.1.1.2=A,tt.1.2.1=p,tt.1.2.2=v,tt.2.1.1.1=E,tt.2.1.1.2=Q,tt.2.1.2=i,tt.2.2.1=ak,tt.2.2.2=ds;intro d u hh hp r rj rd hQ;refine ao ?_;refine cQ (bY r) fun l o vs k e ho hc y0=>?_;refine bH y0 fun hn hd hr=>?_;rcases e with⟨⟩;refine aM rj.fO ?_;rintro t (rfl);have hl:s.heap.IsList p vs.toArray:=⟨o,ho,hc,_,hd⟩;refine bH hh fun h0 h1 fP=>?_;unfold aW at fP;have Zam:i<2^63:=Int.lt_trans h1 (ZO (ZL.mpr fP) (by decide +kernel));unfold setItem;refine wpAny_holding ?_;refine Wk (wpAny_sequenceKey hl.typeIs (by decide) ?_);refine Wk (Wj hl.typeIs slot_list_setitem (Wh slot_list_setitem hl.typeIs entry_list_setitem ?_ (args_list_setitem _ _ _)));show Wn _ _ (XJ.List.listSubscript? (.int i _)>>=_) _ _ s;refine Wk (wpAny_listSubscript_int (fitsIndex_of h0 Zam) ?_);refine aM (Int.eq_ofNat_of_zero_le h0) ?_;rintro j (rfl);rw[ZK]at hQ;have hj:j<vs.length:=by rw[hr.length];exact aT 0x1001af0af72 rfl h1
 refine Wk (Wk (wpAny_seqItemAt ho hd (Wa ?_)));have zB:vs.toArray[j]?=XU vs[j]:=by simp[hj]
 rw[zB];refine aM (Obj.data_mapSeq hd (·.setIfInBounds j v)) fun n' cU=>?_;refine Wk (wpAny_setSeqItemAt ho hd ?_);have fin:Q () {s with heap:=s.heap.update p (Obj.mapSeq (·.setIfInBounds j v))}:=by
  have sb:Xn p s.heap (s.heap.update p (Obj.mapSeq (·.setIfInBounds j v))):=Xm ..;refine hQ s _ s.toks (.refl s) sb (.list (vs:=vs.set j v) (n:=n') (Xi _ ho (Obj.isFreed_of_seq cU)) ((Obj.cls_mapSeq ..).trans hc) ?_ ?_ ?_)
  ·exact(zS hd).trans hn
  ·rw[cU,List.setIfInBounds_toArray]
  ·refine(hr.set rd j).mono fun b ob e nn=>⟨?_,nn⟩;exact(sb.2 b fun q=>nn (q▸hp)).trans e
 first|exact Wk (Wa (Wa ⟨.none,rfl,Wa fin⟩))|exact Wa ⟨.none,rfl,Wa fin⟩
theorem yB {i k:Int}{p:XO}{Q:Unit->WV->Prop}(hh:0<=i/\i<(b.length:Int)/\b.length<=aW/\0<=k/\k<256)(r:bt s.heap ak (.ref p) (.bz b))(rj:Rep s.heap ak u (.int i))(rd:Rep s.heap ak v (.int k))(hQ:∀s1 h' t,Ex C s s1->Xn p s1.heap h'->bt h' ak (.ref p) (.bz (b.set i.toNat k.toNat.toUInt8))->Q () {s1 with heap:=h',toks:=t}):aV (Wu pw Wd) A (setItem (.ref p) u v) Q E s:=by
 refine ao ?_;refine iL (rF r) fun l o n' e ho hc hd=>?_;rcases e with⟨⟩;refine aM rj.fO ?_;rintro t (rfl);refine aM rd.fO ?_;rintro t' (rfl);refine tN hh fun h0 h1 h2 h3 h4=>?_;have hz:=bK h2;unfold aW at h2;have hT:s.TypeIs (.ref p) "bytearray":=⟨_,ho,hc⟩;unfold setItem;refine wpAny_holding ?_;refine Wk (wpAny_sequenceKey hT (by decide) ?_);refine Wk (Wj hT lS (call_meets lS hT sU (uy _ _ _) (IM p o b n' i k _ _ ?_ h0 h1 h3 h4 hz hd) ⟨ho,Wa ?_⟩))
 ·simp only[XG,Z6,V0];exact⟨ZQ (by decide +kernel) h0,Int.lt_trans h1 (ZO (ZL.mpr h2) (by decide +kernel))⟩
 ·refine aE (Obj.n9 hd (·.setIfInBounds i.toNat k.toNat.toUInt8)) fun m cU qv=>?_;refine hQ s _ s.toks (.refl s) (Xm ..) (.bz (n:=m) (Xi _ ho ?_) (qv.trans hc) ?_)
  ·exact ud hd
  ·rw[cU,List.setIfInBounds_toArray]
set_option tactic.hygienic true in
theorem F4 {a j a':Dat}{p:XO}{Q:Unit->WV->Prop}(h:oJ a j d=XU a')(bs:Bs C s)(V:bw C ak s)(hp:ak p)(r:bt s.heap ak (.ref p) a)(rj:Rep s.heap ak u j)(rd:Rep s.heap ak v d)(hQ:∀s1 h' t,Ex C s s1->Xn p s1.heap h'->bt h' ak (.ref p) a'->Q () {s1 with heap:=h',toks:=t}):aV (Wu pw Wd) A (setItem (.ref p) u v) Q E s:=by
 rcases a with⟨⟩;case list ds=>cases j with
  |int i=>exact aQ h fun hh h=>yA hh hp r rj rd (XT h▸hQ)|_=>exact aa h
 case bz b=>cases j with
  |int i=>cases d with
   |int k=>exact aQ h fun hh h=>yB hh r rj rd (XT h▸hQ)|_=>exact aa h
  |_=>exact aa h
 all_goals (exact aa h)
section
open AutoSeq1 (wpAny_loadPart')
theorem size_erase_le (xs:Array WJ)(k:Nat):(xs.eraseIdxIfInBounds k).size<=xs.size:=MeetsSeq.size_erased xs k
theorem sj {x y:Dat}{ys:List Dat}:nE x (y::ys) k=(match qy y x with|some true=>XU k|some false=>nE x ys (k+1)|none=>XW):=rfl
theorem A7 {x:Dat}:∀{ds jV:List Dat},tU x ds=XU jV->∃j,j<ds.length/\jV=ds.eraseIdx j/\nE x ds 0=XU j:=by
 intro ds;induction ds with
 |nil=>intro _ h;exact aa h
 |cons y ys zy=>
  intro jV h;dsimp only[tU]at h;cases he:qy y x with
  |none=>rw[he]at h;exact aa h
  |some b=>
   rw[he]at h;rcases b with⟨⟩;case true=>obtain rfl:=XT h;exact⟨0,by simp,rfl,by rw[sj,he]⟩
   case false=>
    simp only at h;cases hr:tU x ys with
    |none=>rw[hr]at h;exact aa h
    |some zs=>
     rw[hr]at h;obtain rfl:=XT h;refine eB (zy hr) fun j h1 h2 h3=>?_;refine⟨j+1,by simpa using h1,by rw[h2];rfl,?_⟩;rw[sj,he];have shift:∀(l:List Dat)(k m:Nat),nE x l k=XU m->nE x l (k+1)=XU (m+1):=by
      intro l;induction l with
      |nil=>intro k m h;exact aa h
      |cons z l ih=>
       intro k m h;rw[sj]at h ⊢;cases e:qy z x with
       |none=>rw[e]at h;exact aa h
       |some b=>
        rw[e]at h;cases b with
        |true=>obtain rfl:=XT h;rfl
        |false=>exact ih _ _ h
     exact shift _ _ _ h3
theorem D7 (l:XO)(av:Array WJ)(n:Nat)(H9:Option XO)(Gg:Array (Option WJ))(x:WJ)(dx:Dat)(lJ:av.size<=sizeLine):∀(ds:List Dat)(xs:List WJ)(i j:Nat),av.toList.drop i=xs->nE dx ds i=XU j->Meets (XJ.«list.remove.loop» ⟨[.ref l,x,rawInt i],[]⟩) (fun A R s=>s.heap.get? l=XU {cls:=.type "list",dict:=H9,data:=.seq av n,slots:=Gg}/\A.units+80<cLine/\aK s.heap ak xs ds/\Rep s.heap ak x dx/\R (.ok (.ret .none)) {s with heap:=s.heap.update l (Obj.mapSeq fun xs=>xs.eraseIdxIfInBounds j)}):=by
 intro ds
 induction ds with
 |nil=>intro xs i j _ h;exact aa h
 |cons d ds ih=>
  intro xs i j hx hj prog w A R s h;refine ZU fun hG=>?_;obtain⟨hp,g,dd,tk,os⟩:=s;obtain⟨hl,hu,rs,rx,h⟩:=h;refine hG ?_;cases rs with| @cons v _ vs _ rv Pp=>have hi:=head_drop hx;wp_walk using We hl;refine xR hi ?_;rw[sj]at hj;cases he:qy d dx with
  |none=>rw[he]at hj;exact aa hj
  |some b=>
   rw[he]at hj;refine Wk (pd (by have:A.in1.units=A.units+1:=rfl;exact br 0x146a2b090b22150a0b03 rfl hu this) rv rx he ?_);rcases b with⟨⟩;case true=>obtain rfl:=XT hj;have Fj:(av.eraseIdxIfInBounds i).size<=sizeLine+1:=Yg (size_erase_le av _) (Nat.le_succ_of_le lJ);wp_walk using(wpAny_updateSeq hl rfl (_hz':=Fj)),We hl;exact h
   case false=>
    wp_walk;have hc:((i:Int)+1)=((i+1:Nat):Int):=by push_cast;rfl
    refine xR hc ?_;have zB:av.toList.drop (i+1)=vs:=by refine xL ZC (xR hx ?_);rfl
    exact⟨Wt Xd _,Wz MeetsSeq.entry_remove_loop (by refine xR (XM Xd _) ?_;exact ih vs (i+1) j zB hj prog w A R _ ⟨hl,hu,Pp,rx,h⟩)⟩
theorem wy (l:XO)(av:Array WJ)(n:Nat)(H9:Option XO)(Gg:Array (Option WJ))(x:WJ)(dx:Dat)(ds:List Dat)(j:Nat)(lJ:av.size<=sizeLine)(hj:nE dx ds 0=XU j):Meets (XJ.«list.remove» ⟨[.ref l,x],[]⟩) (fun A R s=>s.heap.get? l=XU {cls:=.type "list",dict:=H9,data:=.seq av n,slots:=Gg}/\A.units+80<cLine/\aK s.heap ak av.toList ds/\Rep s.heap ak x dx/\R (.ok (.ret .none)) {s with heap:=s.heap.update l (Obj.mapSeq fun xs=>xs.eraseIdxIfInBounds j)}):=by
 intro prog w A R s h
 obtain⟨hp,g,d,tk,os⟩:=s;refine tN h fun hl hu rs rx h=>?_
 wp_walk using We hl
 exact⟨Wt Xd _,Wz MeetsSeq.entry_remove_loop (by exact(XM Xd _)▸D7 l av n H9 Gg x dx lJ ds av.toList 0 j rfl hj prog w A R _ ⟨hl,hu,rs,rx,h⟩)⟩
theorem xj (l:XO)(av:Array WJ)(n:Nat)(H9:Option XO)(Gg:Array (Option WJ))(b:XO)(cx:Array WJ)(n2:Nat)(dd1:Option XO)(wm:Array (Option WJ))(Ml:¬(!av.isEmpty&&XB (av.size+cx.size))=true)(lJ:av.size<=sizeLine)(C8:av.size+cx.size<=sizeLine+1):Meets (XJ.«list.extend» ⟨[.ref l,.ref b],[]⟩) (fun y R s=>s.heap.get? l=XU {cls:=.type "list",dict:=H9,data:=.seq av n,slots:=Gg}/\s.heap.get? b=XU {cls:=.type "tuple",dict:=dd1,data:=.seq cx n2,slots:=wm}/\R (.ok (.ret WJ.none)) {s with heap:=s.heap.update l (Obj.mapSeq fun x=>x++cx)}):=.of_wp fun prog w A R s h=>by
  obtain⟨hp,g,d,tk,os⟩:=s;refine bH h fun hl hb h=>?_;have f1:=AutoSeq1.idx_int;have f2:=AutoSeq1.sub_tuple_tuple;have f3:=XK;have f4:=AutoSeq1.sub_tuple_list;have f5:=AutoSeq1.sub_list_tuple;have Fj:(av++cx).size<=sizeLine+1:=by refine xR Array.size_append ?_;exact C8
  wp_walk using(wpAny_updateSeq hl rfl),We hl,We hb;exact⟨_,rfl,h⟩
theorem LstAt.of {p:XO}{a:Dat}(r:bt h ak (.ref p) (.list ds)):∃vs,LstAt h p vs/\aK h ak vs ds:=by refine cQ (bY r) fun l o vs k e ho hc y0=>?_;refine bH y0 fun hn hd hr=>?_;refine ZU fun hG=>?_;rcases e with⟨⟩;refine hG ?_;exact⟨vs,⟨o,k,ho,hc,hn,hd⟩,hr⟩
set_option tactic.hygienic true in
theorem aK.eraseIdx (r:aK h ak vs ds):∀k,aK h ak (vs.eraseIdx k) (ds.eraseIdx k):=r.ind (Q:=fun vs ds=>∀k,aK h ak (vs.eraseIdx k) (ds.eraseIdx k)) (fun x=>.nil) fun r rs ih k=>by
  rcases k with⟨⟩;case zero=>exact rs
  case succ k=>exact .cons r (ih k)
theorem qN {m:WS}{id:String}{p:XO}{ds:List Dat}(slot:WU "list" m id)(ty:typeOf (.builtin id)=pure (.type "method_descriptor"))(r:bt s.heap ak (.ref p) (.list ds)){pl:WX Bool}:Wp C A (getMethod (.ref p) m pl) (fun r x=>r=(.builtin id,[.ref p])) s:=by refine cQ (bY r) fun l o vs k e ho hc y0=>?_;refine bH y0 fun hn hd hr=>?_;refine ZU fun hG=>?_;rcases e with⟨⟩;refine hG ?_;exact fun E Q q=>ao (Wx ⟨o,ho,hc⟩ PySem.F.plainAttrs_list slot ty (fun a e=>by rcases e with⟨⟩;exact⟨o,ho,hn⟩) (q _ _ (.refl s) rfl))
theorem kK {p:XO}(hp:ak p)(hs:Xn p s.heap h')(r:aK s.heap ak vs ds):aK h' ak vs ds:=r.mono fun b ob e nn=>⟨(hs.2 b fun q=>nn (q▸hp)).trans e,nn⟩
theorem bt.GS {p:XO}(l:LstAt h p vs)(r:aK h ak vs ds):bt h ak (.ref p) (.list ds):=let⟨o,n,ho,hc,hn,hd⟩:=l;.list ho hc hn hd r
def Pj (C:Cx)(n:Nat)(ak:XO->Prop)(id:String)(a a':Dat)(ds:List Dat)(p:XO):Prop:=∀{A s vs}{E:WJ->WV->Prop}{Q:WJ->WV->Prop},dy C n A->Bs C s->bw C ak s->ak p->bt s.heap ak (.ref p) a->aK s.heap ak vs ds->(∀s1 h' t,Ex C s s1->Xn p s1.heap h'->bt h' ak (.ref p) a'->Q .none {s1 with heap:=h',toks:=t})->aV (Wu pw Wd) A (WA (.builtin id) (.ref p::vs)) Q E s
set_option tactic.hygienic true in
theorem wK {x:Dat}(r:aK h ak vs [x]):∃v,vs=[v]/\Rep h ak v x:=by(rcases r with⟨⟩;(case cons r rs=>rcases rs with⟨⟩;exact⟨_,rfl,r⟩))
theorem Ci {p:XO}(hc:ds.length+1<=aW):Pj C n ak "list.append" (.list ds) (.list (ds++[d])) [d] p:=fun{A s vs E Q}hA bs V hp r rs hQ=>by refine aE (wK rs) ?_;rintro v (rfl) rd;refine aE (LstAt.of (a:=d) r) fun vs l hr=>?_;exact vK l (by refine xR hr.length ?_;exact hc) fun h' l' hs=>hQ s h' s.toks (.refl s) hs (.GS l' ((kK hp hs hr).append (kK hp hs (.cons rd .nil))))
theorem Cf {p:XO}(hc:ds.length+es.length<=aW):Pj C n ak "list.extend" (.list ds) (.list (ds++es)) [.tuple es] p:=fun{A s vs E Q}hA bs V hp r rs hQ=>by
 refine aE (wK rs) ?_;rintro v (rfl) rd;refine cQ (bY r) fun l y0 vs k e ho qt y1=>?_;refine bH y1 fun hn hd hr=>?_;obtain⟨c1,d1,Je,wm⟩:=y0;rcases e with⟨⟩;refine cQ rd.tuple' ?_;rintro b y0 us k2 (rfl) _ hob y1;refine bH y1 fun hcb hdb hrb=>?_;obtain⟨c2,d2,SI,tK⟩:=y0;obtain rfl:c1=_:=qt;obtain rfl:Je=_:=hd;obtain rfl:c2=_:=hcb;obtain rfl:SI=_:=hdb;have hl:=hr.length;have HA:=hrb.length;have mU:2000000<=sizeLine:=by decide
 have h1:vs.toArray.size+us.toArray.size<=1000000:=by refine xR Yo (xR Yo (xR hl (xR HA ?_)));exact hc
 refine ao (call_meets PySem.F.slot_list_extend ⟨_,ho,rfl⟩ PySem.F.entry_list_extend (PySem.F.args_list_extend_2 _ _) (xj p vs.toArray k d1 wm b us.toArray k2 d2 tK ?_ (br 0x11000f42408f21b10001e84808f13 rfl mU h1) (br 0x90b21b1000f42408f21b10001e84808f13 rfl mU h1)) ⟨ho,hob,?_⟩)
 ·have:XB (vs.toArray.size+us.toArray.size)=false:=by unfold XB;exact VY (br 0x21b003000f42408f21b10001e84808f13 rfl mU h1)
  simp only[this,Bool.and_false];exact ZX
 ·have sb:Xn p s.heap (s.heap.update p (Obj.mapSeq fun x=>x++us.toArray)):=Xm ..;refine aM (Obj.data_mapSeq (o:=⟨.type "list",d1,.seq vs.toArray k,wm⟩) rfl (fun x=>x++us.toArray)) fun m hm=>?_;exact hQ s _ s.toks (.refl s) sb (.GS ⟨_,m,Xi _ ho rfl,rfl,hn,by rw[hm,List.append_toArray]⟩ ((kK hp sb hr).append (kK hp sb hrb)))
theorem EO {l:List WJ}{j:Nat}(h:j<l.length):l.toArray.eraseIdxIfInBounds j=(l.eraseIdx j).toArray:=by simp[Array.eraseIdxIfInBounds,h]
theorem Ce {jV:List Dat}{d:Dat}{p:XO}(hc:ds.length<=aW)(hr:tU d ds=XU jV):Pj C n ak "list.remove" (.list ds) (.list jV) [d] p:=fun{A s vs E Q}hA bs V hp r rs hQ=>by refine eB (A7 hr) ?_;rintro j hj (rfl) Kz;refine aE (wK rs) ?_;rintro v (rfl) rd;refine cQ (bY r) fun l y0 vs k e ho qt y1=>?_;refine bH y1 fun hn hd hr=>?_;obtain⟨c1,d1,Je,wm⟩:=y0;refine ZU fun hG=>?_;rcases e with⟨⟩;obtain rfl:c1=_:=qt;obtain rfl:Je=_:=hd;have hl:=hr.length;refine hG ?_;refine ao (call_meets PySem.F.slot_list_remove ⟨_,ho,rfl⟩ PySem.F.entry_list_remove (PySem.F.args_list_remove_2 _ _) (wy p vs.toArray k d1 wm _ d ds j (by refine xR Yo (xR hl ?_);exact bK hc) Kz) ⟨ho,by have:=hA.units;exact br 0x250a0b02000003e88f10ad0bb02 rfl this,hr,rd,?_⟩);have sb:Xn p s.heap (s.heap.update p (Obj.mapSeq fun xs=>xs.eraseIdxIfInBounds j)):=Xm ..;refine aM (Obj.data_mapSeq (o:=⟨.type "list",d1,.seq vs.toArray k,wm⟩) rfl (fun xs=>xs.eraseIdxIfInBounds j)) fun m hm=>?_;exact hQ s _ s.toks (.refl s) sb (.GS ⟨_,m,Xi _ ho rfl,rfl,hn,by exact xR hm (xR (EO (by rw[hl];exact hj)) rfl)⟩ ((kK hp sb hr).eraseIdx j))
set_option tactic.hygienic true in
theorem Ip {a a':Dat} {p:XO} (h:ny m a ds=XU a') (r0:bt s.heap ak (.ref p) a):∃id,(∀{A pl},Wp C A (getMethod (.ref p) m pl) (fun r x=>r=(.builtin id,[.ref p])) s)∧
  ∀{A s vs} {E:WJ→WV→Prop} {Q:WJ→WV→Prop},dy C n A→Bs C s→bw C ak s→ak p→bt s.heap ak (.ref p) a→aK s.heap ak vs ds→
   (∀s1 h' t,Ex C s s1→Xn p s1.heap h'→bt h' ak (.ref p) a'→Q .none {s1 with heap:=h',toks:=t})→aV (Wu pw Wd) A (WA (.builtin id) (.ref p::vs)) Q E s:=by
 revert a h r0
 refine no_implicit_lambda% (MY (bL (bL (bL ya G1) (bL pQ VV)) VV) ?_ C a' s p ak n m ds)
 generalize gB _ _=tt
 dsimp only [K8]
 generalize tt.1.1.1=C,tt.1.1.2=a',tt.1.2.1=s,tt.1.2.2=p,tt.2.1.1=ak,tt.2.1.2=n,tt.2.2.1=m,tt.2.2.2=ds
 intro a h r0
 rcases a with ⟨⟩
 case list l=>match ds,h with
  |[d],h=>
   have h':(if m="append" then (if l.length + 1≤aW then XU (.list (l++[d])) else XW)
  else if m="extend" then (match d with| .tuple es=>if l.length + es.length≤aW then XU (.list (l++es)) else XW|_=>XW)
  else if m="remove" then (if l.length≤aW then (tU d l).map .list else XW)
  else XW)=XU a':=h
   split at h'
   ·rename_i hm
    subst hm
    exact aQ h' fun hc h=>⟨"list.append",qN slot_list_append PySem.F.type_list_append r0,XT h▸Ci hc⟩
   ·split at h'
    ·rename_i hm
     subst hm
     rcases d with ⟨⟩
     case tuple es=>exact aQ h' fun hc h=>⟨"list.extend",qN PySem.F.slot_list_extend PySem.F.type_list_extend r0,XT h▸Cf hc⟩
     all_goals (exact aa h')
    ·refine aQ h' fun hm h'=>aQ h' fun hc h'=>bx h' fun es hr hq=> ?_
     subst hm
     exact ⟨"list.remove",qN PySem.F.slot_list_remove PySem.F.type_list_remove r0,hq▸Ce hc hr⟩
 all_goals (exact aa h)
end
section
open Sem (wp)
theorem eQ {id:String}{args:Args}{b:XJ}{R:WZ->WV->Prop}(hb:entryFor table id=XU b)(fL:mA (.builtin id args)=true)(h:aV (Wu prog w) (A.under (.builtin id args)) (b args) (fun fin s'=>match fin with| .done f=>R (.ok f) s'| .again c'=>c'.quiet=true/\cy (Wu prog w) A c' R s') (fun e s'=>R (.error e) s') s):cy (Wu prog w) A (.builtin id args) R s:=by
 refine bj ?_ fL;have Zap:(Wu prog w).den (.builtin id args)=b args:=by show(match entryFor table id with|some b=>b args|none=>unsupported ((withoutEnding? id "#data").getD id))=_;rw[hb]
 rw[Zap];exact h
set_option tactic.hygienic true in
theorem q0 {Q₁:WJ->WV->Prop}(ft:TypeCalled T newId BF)(hT0:T≠"type")(Mw:checkTypeCall T ⟨args,[]⟩=pure ())(qp:cy (Wu prog w) A.in1 (.call (.builtin newId) ⟨.type T::args,[]⟩) (wants Q₁ E) s)(jU:∀obj aG,Q₁ obj aG->aG.TypeIs obj T/\cy (Wu prog w) A.in1 (.call (.builtin BF) ⟨obj::args,[]⟩) (wants (fun r bW=>r=.none/\Q obj bW) E) aG):aV (Wu prog w) A (call (.type T) args) Q E s:=by
 revert Q₁ ft hT0 Mw qp jU;refine no_implicit_lambda% (vR (bL (bL (bL (bL Fi pR) pQ) VV) VV) ?_ w A s args T prog E newId Q BF);generalize gB _ _=tt;dsimp only[I3];generalize tt.1.1.1.1=w,tt.1.1.1.2=A,tt.1.1.2=s,tt.1.2.1=args,tt.1.2.2=T,tt.2.1.1.1=prog,tt.2.1.1.2=E,tt.2.1.2=newId,tt.2.2.1=Q,tt.2.2.2=BF;intro Q₁ ft hT0 Mw qp jU;refine gY ft.mro fun c tl Zae=>?_;have RU:=ft.made;have t7:=ft.sub;refine g8 (bj ?_ rfl);refine aj ⟨Code.quiet_builtin _ (by decide +kernel),eQ F.entry_type_call rfl ?_⟩;rw[XN.under_plain (weight_type_call_type T args []) rfl];have h1:=ft.notType;have h2:=ft.canCreate;unfold XJ.«type.__call__»;simp only[h1,ZY,if_false,h2,Mw,Zae,List.isEmpty_cons,RU,pure_bind];refine ab (aA (g8 (mM qp fun r aG hr=>?_)));rcases r with⟨⟩;case error e=>exact hr
 case ok fl=>
  rcases fl with⟨⟩;case ret obj=>
   refine aZ (jU _ _ hr) fun hT Of=>?_;refine ab (ao (wpAny_isInstance hT t7 ?_));refine ab (aA ?_);refine ab (ao (V9 hT ft.init.lookup ?_));simp only[ft.init.bind];refine aA (ab (aj (ab (g8 (mM Of fun U7 bW Hq=>?_)))));rcases U7 with⟨⟩;case error e=>exact Hq
   case ok SA=>
    rcases SA with⟨⟩;case ret r=>refine aZ Hq ?_;rintro(rfl) hq;refine aj ?_;exact aj hq
    all_goals (exact Hq.elim)
  all_goals (exact hr.elim)
set_option tactic.hygienic true in
theorem BX {Q:Bool->WV->Prop}(h:Q false s):aV M A (XH self) Q E s:=fun Γ p ju hc=>by
 unfold XH;rw[WX.wp_bind'];unfold stack;rw[WX.wp_stack];show wp M Γ (pure _) _ _ _ _;rw[WX.wp_pure'];rw[WX.wp_pure'];refine(V4 (Q · s) (List.any_eq_false.mpr fun x hx=>?_)).mpr h;have fL:mA x.1=true:=by
  refine XR (YL.mp hx) (fun q=>?_) fun q=>?_
  ·rw[q];exact hc.1.1
  ·exact hc.1.2.1 x q
 obtain⟨c,pp⟩:=x;rcases c with⟨⟩;case builtin id args=>
  have hn:∀y,holders.contains y=true->id≠y:=fun y hy e=>by have h2:(!holders.contains id)=true:=fL;rw[e,hy]at h2;rcases h2 with⟨⟩
  obtain⟨pos,kw⟩:=args;refine Z4.mp ?_;delta XH.match_1;show(dite (id="bytearray.__contains__") _ _:Bool)=false;rw[dif_neg (hn "bytearray.__contains__" (by decide +kernel)),dif_neg (hn "bytearray.__mod__" (by decide +kernel)),dif_neg (hn "bytearray.__rmod__" (by decide +kernel)),dif_neg (hn "_struct.pack_into.held" (by decide +kernel)),dif_neg (hn "bytearray.find.held" (by decide +kernel))];rcases pos with⟨⟩;case nil=>rfl
  case cons v tl=>have h3:=Z4.mpr fun e=>hn id (ZD.mpr (List.mem_append_left _ (ZD.mp e))) rfl;exact(V4 (XJ.Bytes.sameRef v self&&·) h3).trans (Bool.and_false _)
 all_goals (exact ZX)
theorem rN:("bytearray.__new__".splitOn ".__new__").headD ""="bytearray":=by
 set_option maxRecDepth 1000000 in
 set_option maxHeartbeats 4000000 in
 simp +decide [String.splitOn,String.splitOnAux]
theorem zb:mroOf (.type "bytearray")=pure [.type "bytearray",.type "object"]:=by rw[mroOf_type];kernel_rfl
theorem qo:typeLookup (.type "bytearray") "__new__"=pure (XU (.builtin "bytearray.__new__")):=by rw[Wo,WB];kernel_rfl
theorem kx:WU "bytearray" "__init__" "bytearray.__init__":=.of (owner:="bytearray") (n:="__init__") (by rw[Wo,WB];kernel_rfl) (by decide +kernel) (by decide +kernel) (by decide +kernel) (by first|exact .inl (by decide +kernel)|exact .inr (by decide +kernel)) (by rw[Wv];kernel_rfl)
theorem zX:TypeCalled "bytearray" "bytearray.__new__" "bytearray.__init__":=⟨by decide +kernel,by decide +kernel,⟨_,_,zb⟩,madeBy_type zb qo (by decide +kernel),by decide +kernel,by rw[Wv];kernel_rfl,kx⟩
theorem qi (a:WJ):checkTypeCall "bytearray" ⟨[a],[]⟩=pure ():=by kernel_rfl
theorem rS (a:WJ):checkBuiltinCall "bytearray.__new__" ⟨[.type "bytearray",a],[]⟩=pure ():=by kernel_rfl
theorem sV:entryFor table "bytearray.__new__"=XU XJ.«list.__new__»:=entryFor_alias (id':="list.__new__") (by rw[fastTable_eq_tree];kernel_rfl) (by decide +kernel) (by decide +kernel) (by rw[fastTable_eq_tree];kernel_rfl)
theorem kH:plainId "bytearray.__new__"=true:=by decide +kernel
theorem qz:entryFor table "bytearray.__init__"=XU XJ.«bytearray.__init__»:=Wy (by kernel_rfl)
theorem iP:isSubtype (.type "bytearray") (.type "bytearray")=pure true:=by rw[Wv];kernel_rfl
theorem tG (a b:WJ):argsOk "bytearray.__init__" ⟨[a,b],[]⟩:=by unfold argsOk;rw[Ws (n:=['_','_','t','i','n','i','_','_']) (by kernel_rfl) jG];kernel_rfl
theorem uh (a:WJ){Q₁:WJ->WV->Prop}(h:Q₁ (.ref s.heap.objs.size) {s with heap:=s.heap.push {cls:=.type "bytearray",data:=.bytearray #[]}}):codeAny (Wu prog w) A (.call (.builtin "bytearray.__new__") ⟨[.type "bytearray",a],[]⟩) (wants Q₁ E) s:=by
 refine codeAny_of_tree ?_
 show Wn _ A.in1 (do checkBuiltinCall "bytearray.__new__" ⟨[.type "bytearray",a],[]⟩;again (.builtin "bytearray.__new__" ⟨[.type "bytearray",a],[]⟩)) _ _ s
 refine Wk (Wb (rS a) (Wa ⟨Wt kH _,codeAny_builtin_stack sV rfl fun p st=>?_⟩))
 rw[XM kH _]
 have t7:=iP
 have Zaa:=rN
 refine Wk (Wb (a:=true) (by kernel_rfl) ?_)
 rw[V6 (by decide)]
 rw[Zaa]
 refine Wk (Wb (a:=true) t7 ?_)
 rw[V6 (by decide)]
 refine Wk (Wb (a:=Data.bytearray #[]) (by kernel_rfl) ?_)
 dsimp only
 rw[V7 (by decide +kernel)]
 refine Wk (Wc ?_ (X1 _))
 exact Wa h
theorem mN {T:String}{name:WS}{id:String}{self:WJ}{rest:List WJ}{b:XJ}{R:WZ->WV->Prop}(slot:WU T name id)(hT:s.TypeIs self T)(hb:entryFor table id=XU b)(ha:argsOk id ⟨self::rest,[]⟩)(fL:mA (.builtin id ⟨self::rest,[]⟩)=true)(h:aV (Wu prog w) A.in1 (b ⟨self::rest,[]⟩) (fun fin s'=>match fin with| .done f=>R (.ok f) s'| .again c'=>c'.quiet=true/\cy (Wu prog w) A c' R s') (fun e s'=>R (.error e) s') s):cy (Wu prog w) A (.call (.builtin id) ⟨self::rest,[]⟩) R s:=by refine bj ?_ rfl;refine ab (ao (slot.check _ _ _ _ _ _ _ _ hT ha (aj ⟨Wt slot.plain _,eQ hb fL ?_⟩)));rw[XM slot.plain _];exact h
theorem lI:typeLookup (.type "bytearray") "__release_buffer__"=pure (XU (.builtin "bytearray.__release_buffer__")):=by rw[Wo,WB];kernel_rfl
theorem gE {Q:Bool->WV->Prop}(hT:s.TypeIs (.ref a) "bytearray")(h:Q false s):Wn (Wu prog w) A (XJ.Bytes.ownRelease (.ref a)) Q E s:=by
 unfold XJ.Bytes.ownRelease XD;refine Wk (Wk (V9 hT lI ?_))
 ·have e1:("bytearray.__release_buffer__".endsWith ("."++"__release_buffer__"))=true:=by decide +kernel
  have e2:("bytearray.__release_buffer__".dropRight ("__release_buffer__".length+1))="bytearray":=by decide +kernel
  simp only[e1,e2];exact wpAny_isInstance hT iP (Wa h)
theorem jx {Q:Unit->WV->Prop}(ho:s.heap.get? a=XU {cls:=.type "bytearray",dict:=dd,data:=.bytearray b k,slots:=sl})(hz:(f b).size<=sizeLine) (hQ:∀h' k',Xn a s.heap h'->h'.get? a=XU {cls:=.type "bytearray",dict:=dd,data:=.bytearray (f b) k',slots:=sl}->Q () {s with heap:=h'}):Wn (Wu prog w) A (XJ.Bytes.write (.ref a) f) Q E s:=yf ho rfl hz (hQ _ _ (Xm ..) (Xi _ ho rfl))
theorem z8 {id:String}{b:Array UInt8}{t:Tok}:XI id (.bytes b t) true=pure (XU b):=by unfold XI;rw[KBy.special_eq KBy.look_buffer,KBy.own_buffer,KBy.own_release];kernel_rfl
theorem vm {Q:Bool->WV->Prop}(ho:s.heap.get? a=XU {cls:=.type "bytearray",dict:=dd,data:=.bytearray b 0,slots:=sl})(h:Q false s):aV (Wu prog w) A (XH (.ref a) <||> do return(<-XJ.Bytes.exportsOf (.ref a))>0) Q E s:=by
 unfold orM
 refine ab (BX ?_)
 refine ab (ao ?_)
 unfold XJ.Bytes.exportsOf
 exact Wk (Wf ho (Wa (aj h)))
theorem uq (a:XO)(n:Int)(t:Tok)(ho:s.heap.get? a=XU {cls:=.type "bytearray",dict:=dd,data:=.bytearray #[] 0,slots:=sl}) (h0:0<=n) (h1:n<=(aW:Int)) {Q:Xr->WV->Prop} (hQ:∀h' k',Xn a s.heap h'->h'.get? a=XU {cls:=.type "bytearray",dict:=dd,data:=.bytearray (Array.replicate n.toNat 0) k',slots:=sl}->Q (.done (.ret .none)) {s with heap:=h'}):aV (Wu prog w) A (XJ.«bytearray.__init__» ⟨[.ref a,.int n t],[]⟩) Q E s:=by
 revert sl ho h0 h1 hQ
 refine no_implicit_lambda% (vR (bL (bL (bL (bL pR Fi) pQ) VV) VV) ?_ A w s n a prog t E Q dd)
 generalize gB _ _=tt
 dsimp only[I3]
 generalize tt.1.1.1.1=A,tt.1.1.1.2=w,tt.1.1.2=s,tt.1.2.1=n,tt.1.2.2=a,tt.2.1.1.1=prog,tt.2.1.1.2=t,tt.2.1.2=E,tt.2.2.1=Q,tt.2.2.2=dd
 intro sl ho h0 h1 hQ
 have hT:s.TypeIs (.ref a) "bytearray":=⟨_,ho,rfl⟩
 unfold XJ.«bytearray.__init__»
 refine ab (ao (gE hT ?_))
 refine ab (bX (by rfl) ?_)
 refine ab (bX (by rfl) ?_)
 refine ab (bX (by rfl) ?_)
 refine ab (vm ho ?_)
 refine ab (ao (jx ho (by decide) fun MA k1 lJ Jb=>?_))
 refine ab (bX (by rfl) ?_)
 refine ab (aj ?_)
 refine ab (ao (V9 (typeIs_int _ n t) Xv.lookup ?_))
 refine ab (ix (bX (by rfl) ?_))
 have c1:XG n=true:=by unfold aW at h1;simp only[XG,Z6,V0];exact⟨ZQ (by decide +kernel) h0,ZO h1 (by decide +kernel)⟩
 have c2:¬n<0:=An 0x80f730f882 rfl h0
 have c3:(n==2^63-1)=false:=by unfold aW at h1;rw[V5];exact fun e=>absurd (e▸h1) (by decide +kernel)
 have c4:XJ.Bytes.tooLong n.toNat=false:=by have:=bK (by unfold aW at h1 ⊢;exact An 0xf42408f0fbf1000f42408faf0f82 rfl h1);unfold XJ.Bytes.tooLong;simp;exact Pk 0xaf0f800fbf12 rfl this
 simp only[c1,c2,c3,c4,ZW,ZY,if_false]
 refine ab (gZ ?_)
 by_cases hn:n>0
 ·rw[V7 hn];refine ab (ao (jx Jb ?_ fun h2 k2 C8 mE=>?_))
  ·have hh:n.toNat<=aW:=by unfold aW at h1 ⊢;exact An 0xf42408f0fbf1000f42408faf0f82 rfl h1
   rw[Array.size_replicate];exact bK hh
  ·exact aj (hQ h2 k2 (lJ.trans C8) mE)
 ·rw[V6 hn];have e:n=0:=An 0x80f90f87380f733 rfl c2 hn;subst e;exact aj (hQ MA k1 lJ Jb)
theorem qE (a:XO)(b:Array UInt8)(t:Tok){dd:Option XO}{sl:Array (Option WJ)}(ho:s.heap.get? a=XU {cls:=.type "bytearray",dict:=dd,data:=.bytearray #[] 0,slots:=sl}) (h1:b.size<=aW) {Q:Xr->WV->Prop} (hQ:∀h' k',Xn a s.heap h'->h'.get? a=XU {cls:=.type "bytearray",dict:=dd,data:=.bytearray b k',slots:=sl}->Q (.done (.ret .none)) {s with heap:=h'}):aV (Wu prog w) A (XJ.«bytearray.__init__» ⟨[.ref a,.bytes b t],[]⟩) Q E s:=by
 revert sl ho h1 hQ
 refine no_implicit_lambda% (vR (bL (bL (bL (bL pR Fi) pQ) VV) VV) ?_ A w s a b prog t E Q dd)
 generalize gB _ _=tt
 dsimp only[I3]
 generalize tt.1.1.1.1=A,tt.1.1.1.2=w,tt.1.1.2=s,tt.1.2.1=a,tt.1.2.2=b,tt.2.1.1.1=prog,tt.2.1.1.2=t,tt.2.1.2=E,tt.2.2.1=Q,tt.2.2.2=dd
 intro sl ho h1 hQ
 have hT:s.TypeIs (.ref a) "bytearray":=⟨_,ho,rfl⟩
 unfold XJ.«bytearray.__init__»
 refine ab (ao (gE hT ?_))
 refine ab (bX (by rfl) ?_)
 refine ab (bX (by rfl) ?_)
 refine ab (bX (by rfl) ?_)
 refine ab (vm ho ?_)
 refine ab (ao (jx ho (by decide) fun MA k1 lJ Jb=>?_))
 refine ab (bX (by rfl) ?_)
 refine ab (aj ?_)
 have lk:typeLookup (.type "bytes") "__index__"=pure XW:=by rw[Wo,WB];kernel_rfl
 refine ab (ao (V9 (WE _ b t) lk ?_))
 refine ab (bX (z8) ?_)
 refine ab (gZ ?_)
 refine ab (ao (jx Jb (bK h1) fun h2 k2 C8 mE=>?_))
 exact aj (hQ h2 k2 (lJ.trans C8) mE)
theorem vB {src:WJ}{b:Array UInt8}{Q:WJ->WV->Prop}(Of:∀{s:WV}{a:XO}{dd:Option XO}{sl:Array (Option WJ)}{A:XN}{E:WJ->WV->Prop}{Q:Xr->WV->Prop},s.heap.get? a=XU {cls:=.type "bytearray",dict:=dd,data:=.bytearray #[] 0,slots:=sl}->(∀h' k',Xn a s.heap h'->h'.get? a=XU {cls:=.type "bytearray",dict:=dd,data:=.bytearray b k',slots:=sl}->Q (.done (.ret .none)) {s with heap:=h'})->aV (Wu prog w) A (XJ.«bytearray.__init__» ⟨[.ref a,src],[]⟩) Q E s) (hQ:∀h' k',(∀c o,s.heap.get? c=XU o->h'.get? c=XU o)->h'.get? s.heap.objs.size=XU {cls:=.type "bytearray",data:=.bytearray b k'}->Q (.ref s.heap.objs.size) {s with heap:=h'}):aV (Wu prog w) A (call (.type "bytearray") [src]) Q E s:=by
 refine q0 (Q₁:=fun obj aG=>obj=.ref s.heap.objs.size/\aG={s with heap:=s.heap.push {cls:=.type "bytearray",data:=.bytearray #[]}}) zX (by decide) (qi _) (Im (uh _ ⟨rfl,rfl⟩)) fun obj aG bF=>?_
 refine aZ bF ?_;rintro(rfl) (rfl)
 have hS:(s.heap.push {cls:=.type "bytearray",data:=.bytearray #[]}).get? s.heap.objs.size=XU {cls:=.type "bytearray",data:=.bytearray #[]}:=Xk _ rfl
 have hT:({s with heap:=s.heap.push {cls:=.type "bytearray",data:=.bytearray #[]}}:WV).TypeIs (.ref s.heap.objs.size) "bytearray":=⟨_,hS,rfl⟩
 refine⟨hT,mN kx hT qz (tG _ _) rfl (Of hS fun h' k' hs ho=>⟨rfl,?_⟩)⟩
 refine hQ h' k' (fun c o e=>?_) ho
 have hc:c≠s.heap.objs.size:=fun q=>by subst q;rw[aF]at e;exact aa e
 exact(hs.2 c hc).trans (Xl _ e)
end
structure Cx.Plain (C:Cx):Prop where
 ok:C.Ok
 none:∀x∈([("list":WS),"bytearray","len","sum","str","ord","chr","bytes","range","isinstance","sorted","zip","int","filter","ValueError","IndexError"]:List WS),C.mg x=XW
theorem Cx.Plain.b (hC:C.Plain)(h:bootBuiltins x=XU v)(hx:x≠"__name__"):C.mb x=XU v:=(hC.ok.builtins x hx).trans h
theorem aK.of_get:∀{ds:List Dat},vs.length=ds.length->(∀(j:Nat)(v:WJ)(d:Dat),vs[j]?=XU v->ds[j]?=XU d->Rep h ak v d)->aK h ak vs ds:=by
 induction vs with
 |nil=>exact fun{ds}e x=>by cases ds with
  |nil=>exact .nil|cons=>exact nomatch e
 |cons v vs ih=>exact fun{ds}e k=>by cases ds with
  |nil=>exact nomatch e|cons d ds=>exact .cons (k 0 v d rfl rfl) (ih (Nat.succ.inj e) fun j v' d' h1 h2=>k (j+1) v' d' h1 h2)
def Fe (C:Cx)(n:Nat)(v:WJ)(ds:List Dat)(d:Dat):Prop:=∀A s ak vs(E:WJ->WV->Prop)(Q:WJ->WV->Prop),dy C n A->Bs C s->bw C ak s->iq s.heap ak vs ds->(∀a s1,Ex C s s1->s.heap.get? a=XW->s.heap.objs.size<=a->bt s1.heap (fun b=>ak b\/b=a) (.ref a) d->Q (.ref a) s1)->aV (Wu pw Wd) A (WA v vs) Q E s
set_option tactic.hygienic true in
theorem JY {x:Dat}(r:iq h ak vs [x]):∃v,vs=[v]/\bt h ak v x:=by(rcases r with⟨⟩;(case cons r rs=>rcases rs with⟨⟩;exact⟨_,rfl,r⟩))
theorem newList (V:bw C ak s)(rs:aK s.heap ak vs es)(hk:∀b o,s.heap.get? b=XU o->h'.get? b=XU o)(ho:h'.get? s.heap.objs.size=XU {cls:=.type "list",data:=.seq vs.toArray k}):bt h' (fun b=>ak b\/b=s.heap.objs.size) (.ref s.heap.objs.size) (.list es):=.list ho rfl rfl rfl (rs.mono fun b o e nn=>⟨hk b o e,fun q=>q.elim nn fun q=>by rw[q,aF]at e;exact aa e⟩)
theorem pU {x:Dat}(hT:T="list"\/T="tuple")(hl:es.length<=aW)(hx:∀{h:Xp}{ak:XO->Prop}{v:WJ},bt h ak v x->∃a o vs k,v=.ref a/\h.get? a=XU o/\o.cls=.type T/\o.data=.seq vs.toArray k/\aK h ak vs es):Fe C n (.type "list") [x] (.list es):=fun A s ak vs E Q hA bs V rs hQ=>by refine aE (JY rs) ?_;rintro v (rfl) r;refine cQ (hx r) ?_;rintro a o us k (rfl) ho hc y0;refine aZ y0 fun hd hr=>?_;exact ao (call_list_seq (hsz:=by rw[Yo,hr.length];exact bK hl) a hT ho hc hd fun h' c' hk hD=>hQ _ {s with heap:=h'} (.of_keep hk rfl rfl) (aF _) (Yh _) (newList V hr hk hD))
theorem tX {a b c:Int}(h:bM (.range a b c)=XU es)(hl:es.length<=aW):Fe C n (.type "list") [.range a b c] (.list es):=fun A s ak vs E Q hA bs V rs hQ=>by
 refine aE (JY rs) ?_;rintro v (rfl) r;refine aQ h fun Mh he=>?_;obtain rfl:=XT he;refine ke ((r.flat nofun nofun).range') ?_;rintro l t u w (rfl) _ hr;simp only[Z6,bne_iff_ne]at Mh;have hlen:cV a b c<=aW:=by unfold jF at hl;simpa using hl
 refine ao (call_list_range hA.handled hr (kG Mh.1.1.1 Mh.1.1.2 Mh.1.2 Mh.2) (n:=cV a b c) (by unfold cV;rw[ZJ (dE a b c)]) (by unfold aW at hlen;lia) fun h' tk aR k hk ho hit=>hQ _ {s with heap:=h',toks:=tk} (.of_keep hk rfl rfl) (aF _) (Yh _) (newList V ?_ hk ho));unfold jF;refine aZ hit fun i1 i2=>?_;refine aK.of_get (by simp[i1]) fun j v d hv hd=>?_;have Ja:aR[j]?=XU v:=by simpa using hv
 refine aM (i2 j v Ja) ?_;rintro t' (rfl);have hj:j<cV a b c:=by have:=(Z8.mp Ja).1;exact br 0x1200201023 rfl i1 this
 simp[hj]at hd;subst hd;rw[show(j:Int)*c=c*(j:Int)from Int.mul_comm _ _];exact .int _ _
theorem Ae (hm:0<=m/\m<=(aW:Int)):Fe C n (.type "bytearray") [.int m] (.bz (Yv m.toNat 0)):=fun A s ak vs E Q hA bs V rs hQ=>by refine aE (JY rs) ?_;rintro v (rfl) r;refine aM ((r.flat nofun nofun).fO) ?_;rintro t (rfl);refine vB (fun ho hq=>uq _ m _ ho hm.1 hm.2 hq) fun h' k' hk ho=>hQ _ {s with heap:=h'} (.of_keep hk rfl rfl) (aF _) (Yh _) ?_;rw[<-List.toArray_replicate]at ho;exact .bz ho rfl rfl
theorem uu (hm:b.length<=aW):Fe C n (.type "bytearray") [.bytes b] (.bz b):=fun A s ak vs E Q hA bs V rs hQ=>by refine aE (JY rs) ?_;rintro v (rfl) r;refine aM ((r.flat nofun nofun).gK) ?_;rintro t (rfl);exact vB (fun ho hq=>qE _ b.toArray _ ho (by rw[Yo];exact hm) hq) fun h' k' hk ho=>hQ _ {s with heap:=h'} (.of_keep hk rfl rfl) (aF _) (Yh _) (.bz ho rfl rfl)
set_option tactic.hygienic true in
theorem GY (hC:C.Plain)(h:newD f ds=XU d):∃v,C.mg f=XW/\C.mb f=XU v/\(f==("__debug__":WS))=false/\(∀a,v≠.ref a)/\∀{A s ak vs}{E:WJ->WV->Prop}{Q:WJ->WV->Prop},dy C n A->Bs C s->bw C ak s->iq s.heap ak vs ds->(∀a s1,Ex C s s1->s.heap.get? a=XW->s.heap.objs.size<=a->bt s1.heap (fun b=>ak b\/b=a) (.ref a) d->Q (.ref a) s1)->aV (Wu pw Wd) A (WA v vs) Q E s:=by
 rcases ds with⟨⟩|⟨a,⟨⟩|⟨b,l⟩⟩
 ·exact aa h
 rotate_left
 ·exact aa h
 ·have h':(if f="list" then(match a with
   | .list _| .tuple _| .range _ _ _=>(match bM a with|some es=>if es.length<=aW then XU (.list es)else XW|none=>XW)
   |_=>XW)
  else if f="bytearray" then(match a with
   | .int n=>if 0<=n/\n<=(aW:Int)then XU (.bz (Yv n.toNat 0))else XW| .bytes b=>if b.length<=aW then XU (.bz b)else XW|_=>XW)
  else XW)=XU d:=h;split at h'
  ·rename_i hf;subst hf;suffices z:Fe C n (.type "list") [a] d from⟨.type "list",hC.none _ (by decide),hC.b (by kernel_rfl) (by decide),by decide,nofun,fun{A s ak vs E Q}=>z A s ak vs E Q⟩;rcases a with⟨⟩;case list l=>exact aQ h' fun hl h=>XT h▸pU (.inl rfl) hl fun r=>cQ (bY r) fun a o us k h1 h2 h3 y=>bH y fun h4 h5 h6=>⟨a,o,us,k,h1,h2,h3,h5,h6⟩
   case tuple l=>exact aQ h' fun hl h=>XT h▸pU (.inr rfl) hl fun r=>cQ (r.flat nofun nofun).tuple' fun a o us k h1 y h2 y=>bH y fun h3 h4 h5=>⟨a,o,us,k,h1,h2,h3,h4,h5⟩
   case range x y z=>have h2:=h';cases q:bM (.range x y z)with|none=>rw[q]at h2;exact aa h2|some es=>rw[q]at h2;exact aQ h2 fun hl h=>XT h▸tX q hl
   all_goals (exact aa h')
  ·refine aQ h' fun hf hb=>?_;subst hf;suffices z:Fe C n (.type "bytearray") [a] d from⟨.type "bytearray",hC.none _ (by decide),hC.b (by kernel_rfl) (by decide),by decide,nofun,fun{A s ak vs E Q}=>z A s ak vs E Q⟩;rcases a with⟨⟩;case int m=>exact aQ hb fun hm hq=>XT hq▸Ae hm
   case bytes b=>exact aQ hb fun hm hq=>XT hq▸uu hm
   all_goals (exact aa hb)
def Ri:Dat->Option Nat| .list ds=>XU ds.length| .tuple ds=>XU ds.length| .str x=>XU x.length| .bytes b=>XU b.length| .bz b=>XU b.length| .range a b c=>if aP a&&aP b&&aP c&&c !=0 then XU (cV a b c)else XW|_=>XW
noncomputable def intsOf:List Dat->Option (List Int)|[]=>XU []| .int i::ds=>(intsOf ds).map (i::·)|_=>XW
noncomputable def strsOf:List Dat->Option (List WS)|[]=>XU []| .str i::ds=>(strsOf ds).map (i::·)|_=>XW
noncomputable def pB (g:Dat->Option Dat):List Dat->Option Dat|[d]=>g d|_=>XW
def iu:List Dat->Option Dat:=pB fun d=>(Ri d).bind fun k=>if k<=aW then XU (.int k)else XW
noncomputable def Hb (f:List Dat->Option Dat):Dat->Option Dat| .list es=>f es|_=>XW
def sumF:List Dat->Option Dat:=pB (Hb fun es=>(intsOf es).map fun ns=>.int ns.sum)
def U0:Dat->Option Dat| .str x=>XU (.str x)| .int i=>if aP i then XU (.str (toString i))else XW|_=>XW
def DZ:List Dat->Option Dat:=pB U0
noncomputable def SQ:List Nat->Option Dat|[c]=>XU (.int c)|_=>XW
def Vd:Dat->Option Dat| .str x=>SQ x.cps.toList|_=>XW
def JX:List Dat->Option Dat:=pB Vd
noncomputable def ZaH:Dat->Option Dat| .int i=>if 0<=i/\i<=0x10FFFF then XU (.str ⟨#[i.toNat]⟩)else XW|_=>XW
def Lm:List Dat->Option Dat:=pB ZaH
def OX:Dat->Option Dat| .list es=>(intsOf es).bind fun ns=>if es.length<=aW/\∀n∈ns,0<=n/\n<256 then XU (.bytes (ns.map fun n=>n.toNat.toUInt8))else XW| .bz b=>if b.length<=aW then XU (.bytes b)else XW|_=>XW
def px:List Dat->Option Dat:=pB OX
noncomputable def tF:Dat->Option Int| .int a=>XU a|_=>XW
def eg:List Dat->Option Dat|[a]=>(tF a).map fun a=>.range 0 a 1|[a,b]=>(tF a).bind fun a=>(tF b).map fun b=>.range a b 1|[a,b,c]=>(tF a).bind fun a=>(tF b).bind fun b=>(tF c).bind fun c=>if c≠0/\c.natAbs<1073741824 then XU (.range a b c)else XW|_=>XW
noncomputable def Lu:Dat->Dat->Option Dat| .bytes _,.typ t=>if t="bytes" then XU (.bool true)else XW|_,_=>XW
def Md:List Dat->Option Dat|[a,b]=>Lu a b|_=>XW
set_option tactic.hygienic true in
theorem gW {i:Int}(h:tF d=XU i):d=.int i:=by
 rcases d with⟨⟩;case int j=>rw[XT h]
 all_goals (exact aa h)
set_option tactic.hygienic true in
theorem uY {x:Dat}(h:Hb f x=XU d):∃es,x=.list es/\f es=XU d:=by
 rcases x with⟨⟩;case list es=>exact⟨es,rfl,h⟩
 all_goals (exact aa h)
set_option tactic.hygienic true in
theorem iq.yW {x:Dat}(r:iq h ak vs [x]):∃v,vs=[v]/\bt h ak v x:=by(rcases r with⟨⟩;(case cons r rs=>rcases rs with⟨⟩;exact⟨_,rfl,r⟩))
set_option tactic.hygienic true in
theorem iq.qb {x:Dat}(r:iq h ak vs (x::xs)):∃v us,vs=v::us/\bt h ak v x/\iq h ak us xs:=by(rcases r with⟨⟩;(case cons r rs=>exact⟨_,_,rfl,r,rs⟩))
set_option tactic.hygienic true in
theorem aK.qb {x:Dat}(r:aK h ak vs (x::xs)):∃v us,vs=v::us/\Rep h ak v x/\aK h ak us xs:=by(rcases r with⟨⟩;(case cons r rs=>exact⟨_,_,rfl,r,rs⟩))
theorem aK.Nt (r:aK h ak vs []):vs=[]:=by rcases r with⟨⟩;rfl
set_option tactic.hygienic true in
theorem ints_cons (h:intsOf (d::ds)=XU ns):∃i is,d=.int i/\intsOf ds=XU is/\ns=i::is:=by
 rcases d with⟨⟩;case int i=>exact bx h fun is h1 h2=>⟨i,is,rfl,h1,h2.symm⟩
 all_goals (exact aa h)
set_option tactic.hygienic true in
theorem strs_cons (h:strsOf (d::ds)=XU ns):∃i is,d=.str i/\strsOf ds=XU is/\ns=i::is:=by
 rcases d with⟨⟩;case str i=>exact bx h fun is h1 h2=>⟨i,is,rfl,h1,h2.symm⟩
 all_goals (exact aa h)
theorem aK.ints:∀{ds:List Dat}{vs:List WJ}{ns:List Int},aK h ak vs ds->intsOf ds=XU ns->IntsAre vs ns
 |[],_,_,r,e=>by obtain rfl:=r.Nt;obtain rfl:=XT e;exact .nil
 |d::ds,_,_,r,e=>by refine eH r.qb ?_;rintro v us (rfl) r rs;refine eH (ints_cons e) ?_;rintro i is (rfl) h1 (rfl);refine aM r.fO ?_;rintro t (rfl);exact .cons _ _ (rs.ints h1)
theorem aK.strs:∀{ds:List Dat}{vs:List WJ}{ns:List WS},aK h ak vs ds->strsOf ds=XU ns->StrsAre vs ns
 |[],_,_,r,e=>by obtain rfl:=r.Nt;obtain rfl:=XT e;exact .nil
 |d::ds,_,_,r,e=>by refine eH r.qb ?_;rintro v us (rfl) r rs;refine eH (strs_cons e) ?_;rintro i is (rfl) h1 (rfl);refine aM r.ku ?_;rintro t (rfl);exact .cons _ _ (rs.strs h1)
theorem zk (r:bt s.heap ak v (.list ds))(hk:ds.length<=aW):eN C A ak (WA (.builtin "len") [v]) (.int ds.length) s:=by refine cQ (bY r) ?_;rintro a o us k' (rfl) ho hc y0;refine bH y0 fun hn hd hr=>?_;have hl:=hr.length;have hs:=Yo.trans hl;refine fun E Q q=>ao (Calls.call_len_list ⟨o,ho,hc,k',hd⟩ (by delta aW at hk;lia) ?_);refine xR hs ?_;exact q _ _ .toks (.int _ _)
theorem wW (r:Rep s.heap ak v (.tuple ds))(hk:ds.length<=aW):eN C A ak (WA (.builtin "len") [v]) (.int ds.length) s:=by refine cQ r.tuple' ?_;rintro a o us k' (rfl) _ ho y0;refine bH y0 fun hc hd hr=>?_;have hl:=hr.length;have hs:=Yo.trans hl;refine fun E Q q=>ao (len_tuple ⟨o,ho,hc,k',hd⟩ (by delta aW at hk;lia) ?_);refine xR hs ?_;exact q _ _ .toks (.int _ _)
theorem nk {Q:Array UInt8->WV->Prop}(ho:s.heap.get? a=XU o)(hd:o.data=.bytearray b k')(h:Q b s):Wn (Wu prog w) A (XF (.ref a)) Q E s:=by unfold XF;refine Wk ?_;refine Wk (Wf ho ?_);exact hd▸Wa (Wa h)
set_option tactic.hygienic true in
theorem zl (r:bt s.heap ak v (.bz b))(hk:b.length<=aW):eN C A ak (WA (.builtin "len") [v]) (.int b.length) s:=by
 obtain⟨a,o,k',rfl,ho,hc,hd⟩:∃a o k,v=.ref a/\s.heap.get? a=XU o/\o.cls=.type "bytearray"/\o.data=.bytearray b.toArray k:=by
  rcases r with⟨⟩;case rep r=>refine qV r.Tq fun a o n h1 x h2=>?_;exact⟨a,o,n,h1,h2⟩
  case bz ho hc hd=>exact⟨_,_,_,rfl,ho,hc,hd⟩
 intro E Q q;have hT:s.TypeIs (.ref a) "bytearray":=⟨o,ho,hc⟩;refine ao (call_len_slot (n:=(b.length:Nat)) hT lT (fun Q' hq=>?_) (bq 0x80af731 rfl) (by unfold aW at hk;lia) (q _ _ .toks (.int _ _)));refine Wh lT hT sW ?_ (uz _);show Wn _ _ (XF (.ref a)>>=fun b=>_) _ _ s;exact Wk (nk ho hd (Wk (wpAny_mkInt (Wa ⟨_,rfl,hq⟩))))
set_option tactic.hygienic true in
theorem NF (r:bt s.heap ak v d)(h:Ri d=XU k)(hk:k<=aW):eN C A ak (WA (.builtin "len") [v]) (.int k) s:=by
 rcases d with⟨⟩;case list ds=>obtain rfl:=XT h;exact zk r hk
 case tuple ds=>obtain rfl:=XT h;exact wW (r.flat nofun nofun) hk
 case bz b=>obtain rfl:=XT h;exact zl r hk
 case str x=>obtain rfl:=XT h;refine aM ((r.flat nofun nofun).ku) ?_;rintro t (rfl);exact fun E Q q=>ao (PySem.P.len_str (by delta aW at hk;lia) (q _ _ .toks (.int _ _)))
 case bytes b=>obtain rfl:=XT h;refine aM ((r.flat nofun nofun).gK) ?_;rintro t (rfl);refine fun E Q q=>ao (len_bytes (by delta aW at hk;refine xR Yo ?_;lia) ?_);refine xR Yo ?_;exact q _ _ .toks (.int _ _)
 case range a b c=>refine aQ h fun y h=>?_;obtain rfl:=XT h;refine ke ((r.flat nofun nofun).range') ?_;rintro l t u w (rfl) _ hr;exact fun E Q q=>ao (call_len_range hr (by delta cV;exact xR (ZJ (dE _ _ _)) rfl) (by delta aW at hk;lia) (q _ _ .toks (.int _ _)))
 all_goals (exact aa h)
theorem M9 (hA:A.handled=XW)(r:bt s.heap ak v (.list es))(h:intsOf es=XU ns):eN C A ak (WA (.builtin "sum") [v]) (.int ns.sum) s:=by
 intro E Q q;refine cQ (bY r) ?_;rintro a o us k' (rfl) ho hc y0;refine bH y0 fun hn hd hr=>?_;have hi:=hr.ints h;refine aM (AllInts.items hi.allInts) fun xs hx=>?_;have NY:(numsOf us).sum=ns.sum:=xR hi.numsOf rfl;have hl:s.heap.IsList a (intItems xs):=hx▸⟨o,ho,hc,k',hd⟩;refine ao (sum_intListG hA hl fun h' tk t' hk=>?_);have e:preSum (numAt xs) xs.size=ns.sum:=by rw[preSum_eq,Ym (by simp),<-NY];have:=nums_intItems xs;rw[<-hx]at this;simpa using V4 List.sum this.symm
 refine xR e ?_;exact q _ {s with heap:=h',toks:=tk} (.of_keep hk rfl rfl) (.int _ _)
theorem IA (hA:A.handled=XW)(r:bt s.heap ak v (.list es))(h:intsOf es=XU ns)(hz:es.length<=aW)(hr:∀n∈ns,0<=n/\n<256):eN C A ak (WA (.type "bytes") [v]) (.bytes (ns.map fun n=>n.toNat.toUInt8)) s:=by intro E Q q;refine cQ (bY r) ?_;rintro a o us k' (rfl) ho hc y0;refine bH y0 fun hn hd t9=>?_;have hi:=t9.ints h;refine ao (call_bytes_ints ⟨o,ho,hc,k',hd⟩ hi hr (by refine xR t9.length ?_;exact bK hz) hA fun h' t k hk=>?_);exact q _ {s with heap:=h',toks:=k} (.of_keep hk rfl rfl) (.bytes _ _)
theorem Ex.Gr {t:Nat}:Ex C s {s with heap:=s.heap.push o,toks:=t}:=.of_keep (fun x x e=>Xl o e) rfl rfl
theorem Ea (V:bw C ak s){a:Int}(r:Rep s.heap ak v (.int a)):eN C A ak (WA (.type "range") [v]) (.range 0 a 1) s:=by refine aM r.fO ?_;rintro t (rfl);exact fun E Q q=>ao (call_range_1 (q _ _ .Gr (.range (V.new (aF _)) (IsRange.new ..))))
theorem D9 (V:bw C ak s){a b:Int}(r:Rep s.heap ak v (.int a))(r2:Rep s.heap ak u (.int b)):eN C A ak (WA (.type "range") [v,u]) (.range a b 1) s:=by refine aM r.fO ?_;rintro t (rfl);refine aM r2.fO ?_;rintro t2 (rfl);exact fun E Q q=>ao (call_range_2 (q _ _ .Gr (.range (V.new (aF _)) (IsRange.new ..))))
theorem D8 (V:bw C ak s){w:WJ}{a b c:Int}(r:Rep s.heap ak v (.int a))(r2:Rep s.heap ak u (.int b))(r3:Rep s.heap ak w (.int c))(hc:c≠0)(hn:c.natAbs<1073741824):eN C A ak (WA (.type "range") [v,u,w]) (.range a b c) s:=by refine aM r.fO ?_;rintro t (rfl);refine aM r2.fO ?_;rintro t2 (rfl);refine aM r3.fO ?_;rintro t3 (rfl);exact fun E Q q=>ao (call_range_3 hc (q _ _ .Gr (.range (V.new (aF _)) (IsRange.new ..))) (.inl (PyProof.noPylong_small hn)))
def iK (C:Cx)(n:Nat)(f:WS)(g:List Dat->Option Dat):Prop:=∃v,C.mg f=XW/\C.mb f=XU v/\(f==("__debug__":WS))=false/\(∀a,v≠.ref a)/\∀{A s ak vs ds d},dy C n A->Bs C s->bw C ak s->iq s.heap ak vs ds->g ds=XU d->eN C A ak (WA v vs) d s
theorem log2_small {a:Int}(h:aP a=true):a.natAbs.log2<1920:=by
 refine aZ (cJ.mp h) fun h1 h2=>?_;by_cases h0:a.natAbs=0
 ·refine xR h0 ?_;decide
 ·rw[Nat.log2_lt h0];have:a.natAbs<2^62:=by lia
  exact Yd this (Nat.pow_le_pow_right (by lia) (by lia))
theorem E4 (h1:C.mg f=XW)(h2:C.mb f=XU v)(h3:(f==("__debug__":WS))=false)(h4:∀a,v≠.ref a)(h:∀{A s ak u x d},dy C n A->bw C ak s->bt s.heap ak u x->g x=XU d->eN C A ak (WA v [u]) d s):iK C n f (pB g):=⟨v,h1,h2,h3,h4,fun{A s ak vs ds d}hA bs V rs e=>by
  match ds,e with
  |[x],e=>refine aE rs.yW ?_;rintro u (rfl) r;exact h hA V r e⟩
theorem LD (hC:C.Plain):iK C n "len" iu:=E4 (v:=.builtin "len") (hC.none _ (by decide)) (hC.b (by kernel_rfl) (by decide)) (by decide) nofun fun hA V r h=>au h fun k hl h=>aQ h fun hk h=>XT h▸NF r hl hk
theorem LA (hC:C.Plain):iK C n "sum" sumF:=E4 (v:=.builtin "sum") (hC.none _ (by decide)) (hC.b (by kernel_rfl) (by decide)) (by decide) nofun fun hA V r h=>by refine aE (uY h) ?_;rintro es (rfl) h;exact bx h fun k hl h=>h▸M9 hA.handled r hl
set_option tactic.hygienic true in
theorem LB (hC:C.Plain):iK C n "str" DZ:=E4 (v:=.type "str") (hC.none _ (by decide)) (hC.b (by kernel_rfl) (by decide)) (by decide) nofun fun{A s ak u x d}hA V r h=>by
  rcases x with⟨⟩;case str x=>refine aM ((r.flat nofun nofun).ku) ?_;rintro t (rfl);obtain rfl:=XT h;exact fun E Q q=>ao (PySem.P.str_of_str (q _ _ (.refl s) (.str _ _)))
  case int i=>refine aM ((r.flat nofun nofun).fO) ?_;rintro t (rfl);refine aQ h fun hs h=>?_;obtain rfl:=XT h;exact fun E Q q=>ao (PySem.P.str_of_int (log2_small hs) (q _ _ .toks (.str _ _)))
  all_goals (exact aa h)
set_option tactic.hygienic true in
theorem LC (hC:C.Plain):iK C n "ord" JX:=E4 (v:=.builtin "ord") (hC.none _ (by decide)) (hC.b (by kernel_rfl) (by decide)) (by decide) nofun fun{A s ak u x d}hA V r h=>by
  rcases x with⟨⟩;case str x=>
   refine aM ((r.flat nofun nofun).ku) ?_;rintro t (rfl);obtain⟨⟨l⟩⟩:=x;have h':=h;rcases l with⟨⟩|⟨c,⟨⟩|⟨b,l⟩⟩
   ·exact aa h'
   rotate_left
   ·exact aa h'
   ·obtain rfl:=XT h';exact fun E Q q=>ao (PySem.P.ord_of_char (q _ _ .toks (.int _ _)))
  all_goals (exact aa h)
set_option tactic.hygienic true in
theorem LF (hC:C.Plain):iK C n "chr" Lm:=E4 (v:=.builtin "chr") (hC.none _ (by decide)) (hC.b (by kernel_rfl) (by decide)) (by decide) nofun fun{A s ak u x d}hA V r h=>by
  rcases x with⟨⟩;case int i=>refine aM ((r.flat nofun nofun).fO) ?_;rintro t (rfl);refine aQ h fun hi h=>?_;obtain rfl:=XT h;exact fun E Q q=>ao (PySem.P.chr_of_int (by simp;assumption) (q _ _ .toks (.str _ _)))
  all_goals (exact aa h)
theorem E2 (hC:C.Plain):iK C n "range" eg:=⟨.type "range",hC.none _ (by decide),hC.b (by kernel_rfl) (by decide),by decide,nofun,fun{A s ak vs ds d}hA bs V rs e=>by
  rcases ds with⟨⟩|⟨a,⟨⟩|⟨b,⟨⟩|⟨c,⟨⟩|⟨d',l⟩⟩⟩⟩
  ·exact aa e
  ·refine aE rs.yW ?_;rintro u (rfl) r;refine bx e fun i h1 h=>?_;obtain rfl:=gW h1;exact h▸Ea V (r.flat nofun nofun)
  ·refine eH rs.qb ?_;rintro u us (rfl) r rs;refine aE rs.yW ?_;rintro w (rfl) r2;refine au e fun i h1 e=>bx e fun j h2 h=>?_;obtain rfl:=gW h1;obtain rfl:=gW h2;exact h▸D9 V (r.flat nofun nofun) (r2.flat nofun nofun)
  ·refine eH rs.qb ?_;rintro u us (rfl) r rs;refine eH rs.qb ?_;rintro w us (rfl) r2 rs;refine aE rs.yW ?_;rintro z (rfl) r3;refine au e fun i h1 e=>au e fun j h2 e=>au e fun k h3 e=>aQ e fun hc h=>?_;obtain rfl:=gW h1;obtain rfl:=gW h2;obtain rfl:=gW h3;exact XT h▸D8 V (r.flat nofun nofun) (r2.flat nofun nofun) (r3.flat nofun nofun) hc.1 hc.2
  ·exact aa e⟩
theorem tB (hC:C.Plain):iK C n "isinstance" Md:=⟨.builtin "isinstance",hC.none _ (by decide),hC.b (by kernel_rfl) (by decide),by decide,nofun,fun{A s ak vs ds d}hA bs V rs e=>by
  rcases ds with⟨⟩|⟨a,⟨⟩|⟨b,⟨⟩|⟨c,l⟩⟩⟩
  ·exact aa e
  ·exact aa e
  ·refine eH rs.qb ?_;rintro u us (rfl) r rs;refine aE rs.yW ?_;rintro w (rfl) r2;rcases a with⟨⟩;case bytes x=>cases b with
    |typ t=>refine aQ e fun ht h=>?_;obtain rfl:=XT h;subst ht;refine aM ((r.flat nofun nofun).gK) ?_;rintro t1 (rfl);obtain rfl:=(r2.flat nofun nofun).UT;exact fun E Q q=>ao (call_isinstance (isinstance_true (by kernel_rfl) F.sub_bytes_bytes) ⟨WE _ _ _,q _ _ (.refl s) (.bool _)⟩)
    |_=>exact aa e
   all_goals (exact aa e)
  ·exact aa e⟩
theorem uo:typeLookup (.type "bytearray") "__bytes__"=pure XW:=by rw[Wo,WB];kernel_rfl
theorem um:typeLookup (.type "bytearray") "__index__"=pure XW:=by rw[Wo,WB];kernel_rfl
theorem la:typeLookup (.type "bytearray") "__buffer__"=pure (XU (.builtin "bytearray.__buffer__")):=by rw[Wo,WB];kernel_rfl
theorem rq {Q:Bool->WV->Prop}(hT:s.TypeIs (.ref a) "bytearray")(h:Q true s):Wn (Wu prog w) A (XD (.ref a) "__buffer__") Q E s:=by
 unfold XD;refine Wk (V9 hT la ?_);have e1:("bytearray.__buffer__".endsWith ("."++"__buffer__"))=true:=by decide +kernel
 have e2:("bytearray.__buffer__".dropRight ("__buffer__".length+1))="bytearray":=by decide +kernel
 simp only[e1,e2];exact wpAny_isInstance hT iP h
theorem z9 {id:String}{a:XO}{o:Obj}{b:Array UInt8}{k:Nat}{Q:Option (Array UInt8)->WV->Prop}(ho:s.heap.get? a=XU o)(hc:o.cls=.type "bytearray")(hd:o.data=.bytearray b k)(h:Q (XU b) s):Wn (Wu prog w) A (XI id (.ref a) true) Q E s:=by have hT:s.TypeIs (.ref a) "bytearray":=⟨o,ho,hc⟩;unfold XI;refine Wk (V9 hT la ?_);refine Wk (rq hT ?_);refine WC rfl ?_;refine Wk (V9 hT la ?_);refine Wk (gE hT ?_);refine WC rfl ?_;exact Wk (nk ho hd (Wa h))
theorem rQ (ho:s.heap.get? a=XU o)(hc:o.cls=.type "bytearray")(hd:o.data=.bytearray b k)(hz:b.size<=sizeLine)(hQ:∀t k,Q (.bytes b t) {s with toks:=k}):codeAny (Wu prog w) A (.call (.builtin "bytes.__new__") ⟨[.type "bytes",.ref a],[]⟩) (wants Q E) s:=by
 revert ho hc hd hz hQ
 refine vR (bL (bL (bL (bL Fi pR) pQ) VV) VV) ?_ w A s prog a Q E b o k
 generalize gB _ _=tt
 dsimp only[I3]
 generalize tt.1.1.1.1=w,tt.1.1.1.2=A,tt.1.1.2=s,tt.1.2.1=prog,tt.1.2.2=a,tt.2.1.1.1=Q,tt.2.1.1.2=E,tt.2.1.2=b,tt.2.2.1=o,tt.2.2.2=k
 intro ho hc hd hz hQ
 refine codeAny_of_tree ?_
 show Wn _ A.in1 (do checkBuiltinCall "bytes.__new__" ⟨[.type "bytes",.ref a],[]⟩;again (.builtin "bytes.__new__" ⟨[.type "bytes",.ref a],[]⟩)) _ _ s
 refine Wk (Wb (F.bm_newCall _) (Wa ⟨Wt F.bm_plain _,Wz F.bm_entry ?_⟩))
 rw[XM F.bm_plain _]
 have hT:s.TypeIs (.ref a) "bytearray":=⟨o,ho,hc⟩
 unfold XJ.«bytes.__new__»
 refine Wk (Wb rfl ?_)
 refine WC rfl ?_
 refine Wk (Wb F.bm_sub ?_)
 refine WC rfl ?_
 refine Wk (Wb (F.bm_bind _) ?_)
 refine Wk (Wb rfl ?_)
 refine Wk (Wb rfl ?_)
 refine WC rfl ?_
 refine Wk (V9 hT uo ?_)
 refine Wk (Wk ?_)
 refine Wk (Wf ho ?_)
 rw[hd]
 refine Wa (Wa ?_)
 refine WC rfl ?_
 refine Wk (V9 hT um ?_)
 refine bm_if_true rfl ?_
 first|show Wn _ _ (XI "bytes.__new__" (.ref a) true>>=_) _ _ _|(refine Wk ?_;show Wn _ _ (XI "bytes.__new__" (.ref a) true>>=_) _ _ _)
 refine Wk (z9 ho hc hd ?_)
 refine Wk (wpAny_rule ?_)
 have RS:∀{A:XN}{E:WJ->WV->Prop}{Q:WJ->WV->Prop}{s:WV},(∀t k,Q (.bytes b t) {s with toks:=k})->Wn (Wu prog w) A (mkBytes b) Q E s:=by intro A E Q s h;unfold mkBytes;rw[V6 (by exact aT 0x1031012 rfl hz)];exact fun Γ p ju=>h _ _
 refine Wk (RS fun t k=>?_)
 first|exact Wa (Wa (hQ t k))|exact Wa (hQ t k)
theorem qD (ho:s.heap.get? a=XU o)(hc:o.cls=.type "bytearray")(hd:o.data=.bytearray b k)(hz:b.size<=sizeLine)(hQ:∀t k,Q (.bytes b t) {s with toks:=k}):Wn (Wu prog w) A (WA (.type "bytes") [.ref a]) Q E s:=by refine callType_codes (Q₁:=fun obj aG=>aG.TypeIs obj "bytes"/\Q obj aG) F.bm_called (F.bm_typeCall _) F.entry_object_init (rQ ho hc hd hz fun t k=>⟨PySem.W.typeIs_bytes _ _ _,hQ t k⟩) fun obj aG bF=>?_;exact⟨bF.1,F.args_object_init_2 obj _,object_init_meets F.bm_called.init.lookup F.bm_called.made (by decide) prog w A.in1 _ aG ⟨bF.1,rfl,bF.2⟩⟩
set_option tactic.hygienic true in
theorem E3 (hC:C.Plain):iK C n "bytes" px:=E4 (v:=.type "bytes") (hC.none _ (by decide)) (hC.b (by kernel_rfl) (by decide)) (by decide) nofun fun{A s ak u x d}hA V r h=>by
  rcases x with⟨⟩;case list es=>exact au h fun ns hl h=>aQ h fun hh h=>XT h▸IA hA.handled r hl hh.1 hh.2
  case bz b=>refine aQ h fun hb h=>?_;obtain rfl:=XT h;refine iL (rF r) ?_;rintro a o k (rfl) ho hc hd;exact fun E Q q=>ao (qD ho hc hd (by rw[Yo];exact bK hb) fun t k=>q _ _ .toks (.bytes _ _))
  all_goals (exact aa h)
section
open AutoSeq1 (wpAny_loadPart')
def mS (C:Cx)(n:Nat)(m:WS)(g:Dat->List Dat->Option Dat):Prop:=∀{a ds d v s ak},g a ds=XU d->Bs C s->bw C ak s->bt s.heap ak v a->∃id,(∀{A pl},Wp C A (getMethod v m pl) (fun r x=>r=(.builtin id,[v])) s)/\∀{A s vs},dy C n A->Bs C s->bw C ak s->bt s.heap ak v a->aK s.heap ak vs ds->eN C A ak (WA (.builtin id) (v::vs)) d s
def zo (a:Dat):List Dat->Option Dat:=pB fun b=>Rw a b
where Rw:Dat->Dat->Option Dat| .str sep,.list es=>(strsOf es).bind fun ys=>if(ys.map (·.length)).sum+ys.length*sep.length<=16777216 then XU (.str (Txt.join sep ys))else XW|_,_=>XW
def oW (a:Dat):List Dat->Option Dat:=pB fun d=>Hb (fun ds=>if ds.length<=aW then(nE d ds 0).map fun j:Nat=>.int (j:Int)else XW) a
theorem lb (h:pB g ds=XU d):∃x,ds=[x]/\g x=XU d:=by match ds,h with|[x],h=>exact⟨x,rfl,h⟩
noncomputable def IS:Dat->Option (WS)| .str t=>XU t|_=>XW
theorem vJ {y:WS}(h:IS d=XU y):d=.str y:=by
 rcases d with⟨⟩;case str=>rw[XT h]
 all_goals exact aa h
noncomputable def TL:Dat->Option (List UInt8)| .bytes t=>XU t|_=>XW
theorem IU {y:List UInt8}(h:TL d=XU y):d=.bytes y:=by
 rcases d with⟨⟩;case bytes=>rw[XT h]
 all_goals exact aa h
noncomputable def TK:Dat->Option (Int)| .int t=>XU t|_=>XW
theorem IT {y:Int}(h:TK d=XU y):d=.int y:=by
 rcases d with⟨⟩;case int=>rw[XT h]
 all_goals exact aa h
noncomputable def MQ:Dat->Option (XO)| .top t=>XU t|_=>XW
theorem Fb {y:XO}(h:MQ d=XU y):d=.top y:=by
 rcases d with⟨⟩;case top=>rw[XT h]
 all_goals exact aa h
def TM (g:Dat->Dat->Option Dat):List Dat->Option Dat|[]=>XW|a::r=>pB (g a) r
set_option tactic.hygienic true in
theorem IW {g:Dat->Dat->Option Dat}(h:TM g ds=XU d):∃x y,ds=[x,y]/\g x y=XU d:=by
 rcases ds with⟨⟩;case nil=>exact aa h
 case cons a r=>exact(lb h).elim fun y h=>⟨a,y,by rw[h.1],h.2⟩
theorem aK.yW {x:Dat}(r:aK h ak vs [x]):∃v,vs=[v]/\Rep h ak v x:=by refine eH r.qb fun v us e r rs=>?_;exact⟨v,by rw[e,rs.Nt],r⟩
theorem uW:mS C n "join" zo:=by
 intro a ds d v s ak h bs V r;refine aE (lb h) ?_;rintro x (rfl) h;rcases a with⟨⟩;case str sep=>cases x with
  |list es=>refine au h fun ys hl h=>aQ h fun hz h=>?_;obtain rfl:=XT h;refine aM ((r.flat nofun nofun).ku) ?_;rintro t (rfl);refine⟨"str.join",fun{A pl}E Q q=>ao (Wx (Wq _ _ _) PySem.F.plainAttrs_str PySem.F.slot_str_join PySem.F.type_str_join GM.noRef (q _ _ (.refl s) rfl)),fun{A s vs}hA bs V r rs=>?_⟩;refine aE rs.yW ?_;rintro u (rfl) rd;refine cQ rd.lZ ?_;rintro a o us k (rfl) _ ho y0;refine lH y0 fun hc y hd hr=>?_;exact fun E Q q=>ao (join_list ⟨_,ho,hc,_,hd⟩ (hr.strs hl) hz fun t' k=>q _ _ .toks (.str _ _))
  |_=>exact aa h
 all_goals (exact aa h)
theorem Hk (l:XO) (av:Array WJ) (n:Nat) (H9:Option XO) (Gg:Array (Option WJ)) (x:WJ) (dx:Dat) (M3:Int) (hup:(av.size:Int)≤M3):∀(ds:List Dat) (xs:List WJ) (i j:Nat),av.toList.drop i=xs→nE dx ds i=XU j→
  Meets (XJ.«list.index.loop» ⟨[.ref l,x,rawInt i,rawInt M3],[]⟩)
   (fun A R s=>s.heap.get? l=XU {cls:= .type "list",dict:=H9,data:= .seq av n,slots:=Gg}∧A.units + 80 < cLine∧aK s.heap ak xs ds∧Rep s.heap ak x dx∧
    R (.ok (.ret (.int j s.toks))) {s with toks:=s.toks + 1}):=by
 intro ds
 induction ds with
 |nil=>intro xs i j _ h;exact aa h
 |cons d ds ih=>
  intro xs i j hx hj prog w A R s h
  obtain ⟨hp,g,dd,tk,os⟩:=s;obtain ⟨hl,hu,rs,rx,h⟩:=h
  cases rs with
  | @cons v _ vs _ rv Pp=>
  have hi:=head_drop hx
  have jw:i < av.size:=by
   have:=V4 Za hx
   simp at this
   exact br 0x1092b10c22 rfl this
  have mV:(if (i:Int) < M3 then av[((i:Nat):Int).toNat]? else XW)=XU v:=by rw [V7 (by exact zC2 0xf1af70100f0af83 rfl hup jw)];exact hi
  wp_walk using We hl
  rw [mV]
  rw [sj] at hj
  cases he:qy d dx with
  |none=>rw [he] at hj;exact aa hj
  |some b=>
   rw [he] at hj
   refine Wk (pd (by have:A.in1.units=A.units + 1:=rfl;exact br 0x146a2b090b22150a0b03 rfl hu this) rv rx he ?_)
   rcases b with ⟨⟩
   case true=>
    obtain rfl:=XT hj
    wp_walk
    exact h
   case false=>
    wp_walk
    have hc:((i:Int) + 1)=((i + 1:Nat):Int):=by push_cast;rfl
    rw [hc]
    have zB:av.toList.drop (i + 1)=vs:=by rw [←ZC,hx];rfl
    exact ⟨Wt Xe _,Wz MeetsSeq.entry_index_loop (by
     rw [XM Xe _]
     exact ih vs (i + 1) j zB hj prog w A R _ ⟨hl,hu,Pp,rx,h⟩)⟩
theorem zx (l:XO)(av:Array WJ)(n:Nat)(H9:Option XO)(Gg:Array (Option WJ))(x:WJ)(dx:Dat)(ds:List Dat)(j:Nat)(lJ:av.size<=aW)(hj:nE dx ds 0=XU j):Meets (XJ.«list.index» ⟨[.ref l,x],[]⟩) (fun A R s=>s.heap.get? l=XU {cls:=.type "list",dict:=H9,data:=.seq av n,slots:=Gg}/\A.units+80<cLine/\aK s.heap ak av.toList ds/\Rep s.heap ak x dx/\R (.ok (.ret (.int j s.toks))) {s with toks:=s.toks+1}):=by
 intro prog w A R s h
 obtain⟨hp,g,d,tk,os⟩:=s;refine tN h fun hl hu rs rx h=>?_
 wp_walk using We hl
 have a1:((fun i:Int=>if i<0 then max 0 (i+(av.size:Int))else i) ((XW:Option Int).getD 0))=((0:Nat):Int):=by simp
 have a2:((fun i:Int=>if i<0 then max 0 (i+(av.size:Int))else i) ((XW:Option Int).getD (2^63-1)))=2^63-1:=by simp
 rw[a1,a2]
 exact⟨Wt Xe _,Wz MeetsSeq.entry_index_loop (by rw[XM Xe _];exact Hk l av n H9 Gg x dx _ (by unfold aW at lJ;lia) ds av.toList 0 j rfl hj prog w A R _ ⟨hl,hu,rs,rx,h⟩)⟩
theorem rW:mS C n "index" oW:=by
 intro a ds d v s ak h bs V r;refine aE (lb h) ?_;rintro x (rfl) h;refine aE (uY h) ?_;rintro es (rfl) h;refine aQ h fun hz h=>bx h fun j hj h=>?_;subst h;refine DE (bY r) ?_;rintro l0 _ _ _ (rfl) _;refine⟨"list.index",qN PySem.F.slot_list_index PySem.F.type_list_index r,fun{A s vs}hA bs V r rs=>?_⟩;refine aE rs.yW ?_;rintro u (rfl) rd;refine cQ (bY r) fun l y0 us k e ho hc y1=>?_;refine bH y1 fun hn hd hr=>?_;obtain⟨c1,d1,Je,wm⟩:=y0;rcases e with⟨⟩;obtain rfl:c1=_:=hc;obtain rfl:Je=_:=hd;refine fun E Q q=>ao (call_meets PySem.F.slot_list_index ⟨_,ho,rfl⟩ PySem.F.entry_list_index (PySem.F.args_list_index_2 _ _) (zx l0 us.toArray k d1 wm _ x es j ?_ hj) ⟨ho,?_,hr,rd,?_⟩)
 ·have:=hr.length;rw[Yo,this];exact hz
 ·have:=hA.units;exact br 0x250a0b02000003e88f10ad0bb02 rfl this
 ·exact q _ _ .toks (.int _ _)
end
abbrev pD:=WY->WT->az->Option Fl
def dP (C:Cx)(n:Nat)(K:Env->XN->Prop)(Ψ:pD):Prop:=∀{A ag},dy C n A->K ag A->pC C Ψ A ag
theorem dP.none:dP C n K (fun x x x=>XW):=fun{A ag}hA hK=>by intro ai sc st ae W ad s fl e S hD h;exact aa h
noncomputable def nj (V:az)(x:WS):Option WS:=match V.lookup x with
 |some (.val (.str t))=>XU t|_=>XW
set_option tactic.hygienic true in
theorem uL {t:WS}(h:nj V x=XU t):V.lookup x=XU (.val (.str t)):=by
 unfold nj at h;cases e:V.lookup x with
 |none=>rw[e]at h;exact aa h
 |some sl=>
  rw[e]at h;rcases sl with⟨⟩;case own d=>exact aa h
  case val d=>
   rcases d with⟨⟩;case str u=>obtain rfl:=XT h;rfl
   all_goals (exact aa h)
abbrev qG:=WY->az->Option Fl
noncomputable def pK:WT->Nat| .Assign _ _ p=>p.line| .Expr _ p=>p.line| .Try _ _ _ _ p=>p.line|_=>0
noncomputable def lR (L:List (WT×qG)):pD:=fun sc st ae=>match L.find? fun p=>pK p.1==pK st with
 |some p=> @ite _ (p.1=st) (Classical.propDecidable _) (p.2 sc ae) XW|none=>XW
noncomputable def I6 {α:Type}(P:α->Prop):List α->Prop|[]=>True|a::l=>P a/\I6 P l
theorem I6.mem {α:Type}{P:α->Prop}:∀{l:List α},I6 P l->∀a∈l,P a:=by
 intro l;induction l with
 |nil=>intros;first|contradiction|(rename_i h;cases h)|(rename_i h _;cases h)|(rename_i h;exact nomatch h)
 |cons a l ih=>
  intro h b hb;refine XR (YL.mp hb) (fun e=>?_) fun e=>?_
  ·rw[e];exact h.1
  ·exact ih h.2 b e
def Am (C:Cx)(n:Nat)(K:Env->XN->Prop)(p:WT×qG):Prop:=∀{A ag},dy C n A->K ag A->∀{ai sc ae W ad s fl},bh ag sc->SS C ai ag sc ae W ad s->dY ae->p.2 sc ae=XU fl->∀(E:WJ->WV->Prop)(Q:Xq->WV->Prop),(∀f s',tM C ai ag sc W s fl f s'->Q f s')->aV (Wu pw Wd) A (exec p.1 ag) Q E s
theorem DV {L:List (WT×qG)}{st:WT}{fl:Fl}(h:lR L sc st ae=XU fl):∃p∈L,p.1=st/\p.2 sc ae=XU fl:=by unfold lR at h;cases e:L.find? fun p=>pK p.1==pK st with|none=>rw[e]at h;exact aa h|some p=>rw[e]at h;exact aQ h fun h1 h2=>⟨p,YF e,h1,h2⟩
theorem q9 {L:List (WT×qG)}(h:I6 (Am C n K) L):dP C n K (lR L):=fun{A ag}hA hK=>by intro ai sc st ae W ad s fl e S hD hf;refine eB (DV hf) ?_;rintro p hp (rfl) hm;exact h.mem p hp hA hK e S hD hm
theorem dC {L:List (WT×qG)}{st:WT}{m:qG}(h:(L.find? fun p=>pK p.1==pK st)=XU (st,m)):lR L sc st ae=m sc ae:=by unfold lR;rw[h];exact @V7 _ (Classical.propDecidable _) rfl _ _ _
def ql (x y a b:WS):qG:=fun sc ae=>(nj ae y).bind fun t=>if t.length<=aW then(b8 sc x (.val (.str (WM t a b))) ae).map .next else XW
theorem iQ {y a b:WS}(hp:(ap.endLine==p.line)=true)(My:(a==b)=false)(R5:b.length<=14):Am C n K (.Assign [.Name x xp] (.Call (.Attribute (.Name y yp) "replace" ap) [.Constant (.str a) k1 Rv,.Constant (.str b) k2 Ru] [] p) pos,ql x y a b):=by
 intro A ag hA hK ai sc ae W ad s fl e S hD h E Q hQ;revert n K hp My R5 hA hK fl e S hD h hQ;refine no_implicit_lambda% (FA (bL (bL (bL (bL (bL pR ya) pQ) VV) VV) VV) ?_ A C s ag a b ai W p x y E k2 Ru ap yp k1 Rv xp Q sc ae ad pos);generalize gB _ _=tt;dsimp only[Pg];generalize tt.1.1.1.1.1=A,tt.1.1.1.1.2=C,tt.1.1.1.2=s,tt.1.1.2.1.1=ag,tt.1.1.2.1.2=a,tt.1.1.2.2=b,tt.1.2.1.1.1=ai,tt.1.2.1.1.2=W,tt.1.2.1.2=p,tt.1.2.2.1.1=x,tt.1.2.2.1.2=y,tt.1.2.2.2=E,tt.2.1.1.1.1=k2,tt.2.1.1.1.2=Ru,tt.2.1.1.2=ap,tt.2.1.2.1.1=yp,tt.2.1.2.1.2=k1,tt.2.1.2.2=Rv,tt.2.2.1.1.1=xp,tt.2.2.1.1.2=Q,tt.2.2.1.2=sc,tt.2.2.2.1.1=ae,tt.2.2.2.1.2=ad,tt.2.2.2.2=pos;intro n K hp My R5 hA hK fl e S hD h hQ;refine au h fun t hy h=>aQ h fun Kr h=>bx h fun cC hb ve=>?_;subst ve;refine bE ?_ rfl rfl;show aV _ A (eval (.Name y yp) ag>>=fun ov=>standAt ap.atName>>=fun u=>methodCall (.Name y yp) "replace" ap p ag ov 2 (backTo p (starEach [.Constant (.str a) k1 Rv,.Constant (.str b) k2 Ru] ag)) (backToKw p (keywordEach [] ag))) _ E s;refine aE (S.bV.lo y _ (uL hy)) fun v hv hr=>?_;cases hr with|str _ tk=>?_
 refine ab (jK e hv (ab (aw ?_)));unfold methodCall;have HV:methodCallForm 2 (backTo p (starEach [.Constant (.str a) k1 Rv,.Constant (.str b) k2 Ru] ag)) (backToKw p (keywordEach [] ag))=true:=rfl;rw[HV];refine ab (aA ?_);refine ao (Wx (Wq _ _ _) PySem.F.plainAttrs_str PySem.F.slot_str_replace PySem.F.type_str_replace GM.noRef ?_);have RQ:methodCallPos true (.Name y yp) ag ap p=pure p:=by unfold methodCallPos;simp only[ZW,Bool.false_or,hp,if_true]
 rw[RQ];refine ab (aj ?_);have iF:(backTo p (starEach [.Constant (.str a) k1 Rv,.Constant (.str b) k2 Ru] ag)).any (·.1)=false:=rfl;refine b6 (fun u q=>by rcases q with⟨⟩) iF (FC fun ht=>?_);refine cf (C:=C) (P:=fun vs s'=>vs=[.str a s.toks,.str b (s.toks+1)]/\s'={s with toks:=s.toks+1+1}) iF (fun E Q q=>bU (ao (Wl (bU (ao (Wl (dz (q _ {s with toks:=s.toks+1+1} .toks ⟨rfl,rfl⟩)))) rfl))) rfl) _ _ fun z s3 x3 r3=>?_;obtain⟨ps,kw⟩:=z;refine bH r3 ?_;rintro(rfl) (rfl) (rfl);refine ao (SC.replaceW (Nat.pos_iff_ne_zero.mp ht) (Nat.succ_ne_zero _) (Nat.ne_of_lt (Yb _)) My (Yg Kr (by decide)) R5 fun t' k=>?_);have S3:SS C ai ag sc ae W ad {s with toks:=k}:=S.ex .toks;exact ab (aw (fv e S3 hD hb (.str _ _) fun s4 m4 S4 Ou u=>hQ _ _ ⟨rfl,W,ad,(Mv.jZ .toks).trans m4,S4,Ou⟩))
theorem nq:Manifest.owners.lookup (String.ofList ['r','e','t','l','i','f'].reverse)=XU Manifest.sig_filter:=by kernel_rfl
theorem dD:WU "filter" "__next__" "filter.__next__":=.of (owner:="filter") (n:="__next__") (by rw[Wo,WB];kernel_rfl) (by decide +kernel) (by decide +kernel) (by decide +kernel) (by first|exact .inl (by decide +kernel)|exact .inr (by decide +kernel)) (by rw[Wv];kernel_rfl)
theorem iH:entryFor table "filter.__next__"=XU XJ.«filter.__next__»:=Wy (by kernel_rfl)
theorem jm (a:WJ):argsOk "filter.__next__" ⟨[a],[]⟩:=by unfold argsOk;rw[Ws (n:=['_','_','t','x','e','n','_','_']) (by kernel_rfl) nq];kernel_rfl
theorem i7:WU "filter" "__iter__" "filter.__iter__":=.of (owner:="filter") (n:="__iter__") (by rw[Wo,WB];kernel_rfl) (by decide +kernel) (by decide +kernel) (by decide +kernel) (by first|exact .inl (by decide +kernel)|exact .inr (by decide +kernel)) (by rw[Wv];kernel_rfl)
theorem pA (a:WJ):argsOk "filter.__iter__" ⟨[a],[]⟩:=by unfold argsOk;rw[Ws (n:=['_','_','r','e','t','i','_','_']) (by kernel_rfl) nq];kernel_rfl
theorem n4:entryFor table "filter.__iter__"=XU XJ.«dict_keyiterator.__iter__»:=entryFor_alias (id':="dict_keyiterator.__iter__") (by rw[fastTable_eq_tree];kernel_rfl) (by decide +kernel) (by decide +kernel) (by rw[fastTable_eq_tree];kernel_rfl)
theorem df:plainId "filter.__next__"=true:=by decide +kernel
theorem rU:mroOf (.type "filter")=pure [.type "filter",.type "object"]:=by rw[mroOf_type];kernel_rfl
theorem nB:typeLookup (.type "filter") "__new__"=pure (XU (.builtin "filter.__new__")):=by rw[Wo,WB];kernel_rfl
theorem oM:WU "filter" "__init__" "object.__init__":=.of (owner:="object") (n:="__init__") (by rw[Wo,WB];kernel_rfl) (by decide +kernel) (by decide +kernel) (by decide +kernel) (by first|exact .inl (by decide +kernel)|exact .inr (by decide +kernel)) (by rw[Wv];kernel_rfl)
theorem eT:TypeCalled "filter" "filter.__new__" "object.__init__":=⟨by decide +kernel,by decide +kernel,⟨_,_,rU⟩,madeBy_type rU nB (by decide +kernel),by decide +kernel,by rw[Wv];kernel_rfl,oM⟩
theorem qh (a b:WJ):checkTypeCall "filter" ⟨[a,b],[]⟩=pure ():=by kernel_rfl
theorem rR (a b:WJ):checkBuiltinCall "filter.__new__" ⟨[.type "filter",a,b],[]⟩=pure ():=by kernel_rfl
theorem pe:entryFor table "filter.__new__"=XU XJ.«filter.__new__»:=Wy (by kernel_rfl)
theorem qk:isSubtype (.type "filter") (.type "filter")=pure true:=by rw[Wv];kernel_rfl
def ox (h:Xp)(F I:XO):Prop:=∃o,h.get? F=XU o/\o.cls=.type "filter"/\o.data=.fields #[.builtin "len",.ref I]
theorem ox.keeps (x:ox h F I)(hk:∀o,h.get? F=XU o->h'.get? F=XU o):ox h' F I:=let⟨o,ho,r⟩:=x;⟨o,hk o ho,r⟩
noncomputable def i6:WJ->Bool| .str x _=>x.length !=0|_=>false
theorem qK {t:Tok}:i6 (.str x t)=(x.length !=0):=rfl
theorem q5 {t:XO}{x:WJ}{Q:Option WJ->WV->Prop}(hit:s.heap.IsTupleIter I t i)(ht:s.heap.IsTuple t av)(hx:av[i]?=XU x)(hQ:∀h',h'.IsTupleIter I t (i+1)->Xn I s.heap h'->Q (XU x) {s with heap:=h'}):Wn (Wu prog w) A (callSpecial? (.ref I) (WN "__next__")) Q E s:=by refine eB (id hit) fun o ho hc hd=>?_;obtain⟨ol,hol,_,nl,Mt⟩:=ht;refine Wj hit.typeIs Xs (Wh Xs hit.typeIs F.entry_tuple_iterator_next ?_ (F.args_tuple_iterator_next_1 _));show Wn _ _ (field (.ref I) 0>>=_) _ _ s;refine Wk (Wg ho hd (x:=.ref t) rfl ?_);rw[V6 (show ¬((WI t==WJ.none)=true)from ZX)];refine Wk (Wg ho hd rfl ?_);refine Wk (wpAny_seqItems hol Mt ?_);simp only[ZK,hx];refine Wk (wpAny_setField ho hd (by simp) (Wa ⟨x,rfl,(hQ _ ?_ (Xm ..))⟩));exact⟨_,Xi _ ho (Obj.isFreed_of_fields (Obj.data_mapFields hd _)),(Obj.cls_mapFields ..).trans hc,by rw[Obj.data_mapFields hd];simp[rawInt]⟩
theorem tQ {t:XO}{Q:Option WJ->WV->Prop}(hh:A.handled=XW)(hit:s.heap.IsTupleIter I t i)(ht:s.heap.IsTuple t av)(hx:av[i]?=XW)(hE:∀e h',Xo I s.heap h'->({s with heap:=h'}:WV).TypeIs e "StopIteration"->E e {s with heap:=h'}):Wn (Wu prog w) A (callSpecial? (.ref I) (WN "__next__")) Q E s:=by
 refine eB (id hit) fun o ho hc hd=>?_;obtain⟨ol,hol,_,nl,Mt⟩:=ht;refine Wj hit.typeIs Xs (Wh Xs hit.typeIs F.entry_tuple_iterator_next ?_ (F.args_tuple_iterator_next_1 _));show Wn _ _ (field (.ref I) 0>>=_) _ _ s;refine Wk (Wg ho hd (x:=.ref t) rfl ?_);rw[V6 (show ¬((WI t==WJ.none)=true)from ZX)];refine Wk (Wg ho hd rfl ?_);refine Wk (wpAny_seqItems hol Mt ?_);simp only[ZK,hx];refine Wk (wpAny_rule (Wk (wpAny_setField ho hd (by simp) ?_)));refine Wk ?_;simp only[newExc,newTuple];refine Wk (Wc ?_ (by size_fits));refine Wk (Wb (by first|rfl|(simp only[firstArgMember];rfl)) ?_);refine Wc ?_ (by size_fits);delta raiseNew;dsimp only;refine Wk (wpAny_handled ?_);first|rw[show A.in1.handled=XW from hh]|rw[hh]
 refine Wk (Wa (wpAny_throw ?_));exact hE _ _ (((Xm ..).extBut.push _).push _) ⟨_,Xk _ rfl,rfl⟩
theorem CY {F t:XO}(KG:F≠I)(Kt:t≠I)(zC:∀v∈av.toList,∃x tk,v=WJ.str x tk/\x.length<=aW)(hh:A.handled=XW){R:WZ->WV->Prop}:∀(k i:Nat)(s:WV),av.size-i=k->ox s.heap F I->s.heap.IsTupleIter I t i->s.heap.IsTuple t av->(∀v j h' tk,(av.toList.drop i).filter i6=v::(av.toList.drop j).filter i6->Xn I s.heap h'->h'.IsTupleIter I t j->R (.ok (.ret v)) {s with heap:=h',toks:=tk})->((av.toList.drop i).filter i6=[]->∀e h' tk,Xo I s.heap h'->({s with heap:=h',toks:=tk}:WV).TypeIs e "StopIteration"->R (.error e) {s with heap:=h',toks:=tk})->codeAny (Wu prog w) A (.builtin "filter.__next__" ⟨[.ref F],[]⟩) R s:=by
 revert KG Kt zC hh
 refine MY (bL (bL (bL pR Fi) VV) VV) ?_ A w av F prog R I t
 generalize gB _ _=tt
 dsimp only[K8]
 generalize tt.1.1.1=A,tt.1.1.2=w,tt.1.2.1=av,tt.1.2.2=F,tt.2.1.1=prog,tt.2.1.2=R,tt.2.2.1=I,tt.2.2.2=t
 intro KG Kt zC hh
 intro k
 induction k with
 |zero=>
  intro i s hk hF hi ht hR hE;refine Wz iH ?_;rw[XM df _];refine eB (id hF) fun oF RN hcF R4=>?_;have Zad:av.toList.drop i=[]:=by simp;exact aT 0x101810c22 rfl hk
  show Wn _ _ (field (.ref F) 0>>=fun func=>field (.ref F) 1>>=fun it=>callSpecial? it (WN "__next__")>>=fun x=>_) _ _ s;refine Wk (Wg RN R4 rfl ?_);refine Wk (Wg RN R4 rfl ?_);refine Wk (tQ hh hi ht (by simp;exact aT 0x101810c22 rfl hk) fun e h' hb hT=>?_);exact hE (by rw[Zad];rfl) e h' s.toks hb hT
 |succ k ih=>
  intro i s hk hF hi ht hR hE;refine Wz iH ?_;rw[XM df _];refine eB (id hF) fun oF RN hcF R4=>?_;have jw:i<av.size:=br 0x1092b10c22 rfl hk;have Oj:av.toList.drop i=av[i]::av.toList.drop (i+1):=by simp[ZA,jw]
  show Wn _ _ (field (.ref F) 0>>=fun func=>field (.ref F) 1>>=fun it=>callSpecial? it (WN "__next__")>>=fun x=>_) _ _ s;refine Wk (Wg RN R4 rfl ?_);refine Wk (Wg RN R4 rfl ?_);refine Wk (q5 hi ht (x:=av[i]) (by simp[jw]) fun h1 Fp lJ=>?_);refine fE (zC av[i] (by simp)) fun x tk hx hxl=>?_;rw[hx];refine Wk (wpAny_holding ?_);refine Wk (PySem.P.len_str (by unfold aW at hxl;lia) ?_);refine wpAny_holding (PyProof.Rows.truthy_int ?_);have Sd:=hF.keeps fun o e=>(lJ.2 F KG).trans e;have Ub:h1.IsTuple t av:=by refine aE ht fun ot hot r=>?_;exact⟨ot,(lJ.2 t Kt).trans hot,r⟩
  cases hz:(x.length !=0)with
  |true=>
   have Fj:((x.length:Int) !=0)=true:=by simpa using hz
   rw[Fj];simp only[if_true];refine Wa ?_;refine hR (.str x tk) (i+1) h1 _ ?_ lJ Fp;rw[Oj,hx,Zv];simp only[qK,hz,if_true]
  |false=>
   have Fj:((x.length:Int) !=0)=false:=by simpa using hz
   rw[Fj];simp only[ZY,if_false];have ve:(av.toList.drop i).filter i6=(av.toList.drop (i+1)).filter i6:=by rw[Oj,hx,Zv];simp only[qK,hz,ZY,if_false]
   refine Wa ⟨Wt df _,ih (i+1) _ (br 0x291b0c292b10c22 rfl hk) Sd Fp Ub (fun v j h' UZ e hs en=>hR v j h' UZ (ve.trans e) (lJ.trans hs) en) fun e=>?_⟩;exact fun ev h' UZ hb hT=>hE (ve.trans e) ev h' UZ (fun b o hbI e'=>hb b o hbI ((lJ.2 b hbI).trans e')) hT
theorem cR (x:ox s.heap F I):s.TypeIs (.ref F) "filter":=let⟨o,ho,hc,_⟩:=x;⟨o,ho,hc⟩
def DC (F I t:XO)(av:Array WJ)(j:Nat)(h:Xp):Prop:=ox h F I/\h.IsTuple t av/\∃i,h.IsTupleIter I t i/\(av.toList.drop i).filter i6=(av.toList.filter i6).drop j
theorem vV {F t:XO}(KG:F≠I)(Kt:t≠I)(zC:∀v∈av.toList,∃x tk,v=WJ.str x tk/\x.length<=aW)(A:XN)(hh:A.handled=XW):Walks prog w A F [F,I,t] [I] (av.toList.filter i6).length (fun j v=>(av.toList.filter i6)[j]?=XU v) (DC F I t av) where
 sub:=fun b hb=>by simp at hb;simp[hb]
 frame:=fun j h h' st hk=>by
  obtain⟨a,b,i,c,d⟩:=st;refine⟨a.keeps fun o e=>hk F (by simp) o e,?_,i,?_,d⟩
  ·refine aE b fun o ho r=>?_;exact⟨o,hk t (by simp) o ho,r⟩
  ·refine aE c fun o ho r=>?_;exact⟨o,hk I (by simp) o ho,r⟩
 item:=fun j s Q E hj st hQ=>by
  obtain⟨a,b,i,c,d⟩:=st;unfold pyNext;refine Wk (wpAny_attempt (Wj (cR a) dD (wpAny_call (codeAny_call_builtin_code (Wt df _) (dD.check _ _ _ _ _ _ _ _ (cR a) (jm _) ?_)))));have Mx:=ZA hj;refine CY KG Kt zC hh _ i s rfl a c b (fun v j' h' tk e hs hi=>?_) fun e=>?_
  ·rw[d,Mx]at e;injection e with e1 e2;refine Wa (hQ v h' tk (by rw[Zk hj,e1]) ⟨a.keeps fun o e=>(hs.2 F KG).trans e,?_,j',hi,e2.symm⟩ fun b' o hb e=>(hs.2 b' fun q=>hb (by simp[q])).trans e);refine aE b fun ot hot r=>?_;exact⟨ot,(hs.2 t Kt).trans hot,r⟩
  ·rw[d,Mx]at e;rcases e with⟨⟩
 done:=fun s Q E st hQ=>by
  obtain⟨a,b,i,c,d⟩:=st;unfold pyNext;refine Wk (wpAny_attempt (Wj (cR a) dD (wpAny_call (codeAny_call_builtin_code (Wt df _) (dD.check _ _ _ _ _ _ _ _ (cR a) (jm _) ?_)))));rw[List.drop_length]at d;refine CY KG Kt zC hh _ i s rfl a c b (fun v j' h' tk e hs hi=>?_) fun e ev h' tk hb hT=>?_
  ·rw[d]at e;rcases e with⟨⟩
  ·refine Wk (wpAny_isInstance hT isSubtype_stop ?_);exact Wa (hQ h' tk fun b o hbw e=>hb b o (fun q=>hbw (by simp[q])) e)
 self:=fun j s Q E st hQ=>by refine wpAny_pyIter_slot (cR st.1) i7 (Wh i7 (cR st.1) n4 ?_ (pA _));exact Wa ⟨_,rfl,"filter",_,cR st.1,dD.lookup,hQ⟩
theorem Bg {t:XO}(ht:s.heap.IsTuple t av)(hQ:∀h',(∀b o,s.heap.get? b=XU o->h'.get? b=XU o)->h'.IsTupleIter s.heap.objs.size t 0->ox h' (s.heap.objs.size+1) s.heap.objs.size->h'.objs.size=s.heap.objs.size+2->Q (.ref (s.heap.objs.size+1)) {s with heap:=h'}):codeAny (Wu prog w) A (.call (.builtin "filter.__new__") ⟨[.type "filter",.builtin "len",.ref t],[]⟩) (wants Q E) s:=by
 refine codeAny_of_tree ?_
 show Wn _ A.in1 (do checkBuiltinCall "filter.__new__" ⟨[.type "filter",.builtin "len",.ref t],[]⟩;again (.builtin "filter.__new__" ⟨[.type "filter",.builtin "len",.ref t],[]⟩)) _ _ s
 refine Wk (Wb (rR _ _) (Wa ⟨Wt eT.plain _,Wz pe ?_⟩))
 rw[XM eT.plain _]
 unfold XJ.«filter.__new__»
 refine Wk ?_
 unfold XJ.SmallTypes.newClass
 refine Wk (Wb rfl ?_)
 refine WC rfl ?_
 refine Wk (Wb qk ?_)
 refine WC rfl ?_
 refine Wa ?_
 refine Wk (Wb (a:=()) (by kernel_rfl) ?_)
 refine Wk (Wb (a:=()) (by kernel_rfl) ?_)
 refine Wk (wpAny_pyIter_tuple ht ?_)
 have hsz:(s.heap.push {cls:=.type "tuple_iterator",data:=.fields #[.ref t,rawInt 0]}).objs.size=s.heap.objs.size+1:=by rw[Xg]
 show Wn _ _ (newObj (.type "filter") (.fields #[.builtin "len",.ref s.heap.objs.size])>>=fun r=>ret r) _ _ _
 refine Wk (Wc (Wa ?_))
 have key:=hQ ((s.heap.push {cls:=.type "tuple_iterator",data:=.fields #[.ref t,rawInt 0]}).push {cls:=.type "filter",data:=.fields #[.builtin "len",.ref s.heap.objs.size]}) (fun b o e=>Xl _ (Xl _ e)) ⟨_,Xl _ (Xk _ rfl),rfl,rfl⟩ ⟨_,by rw[<-hsz];exact Xk _ rfl,rfl,rfl⟩ (by rw[Xg,hsz])
 rw[<-hsz]at key
 exact key
theorem zZ {t:XO}(ht:s.heap.IsTuple t av)(hQ:∀h',(∀b o,s.heap.get? b=XU o->h'.get? b=XU o)->h'.IsTupleIter s.heap.objs.size t 0->ox h' (s.heap.objs.size+1) s.heap.objs.size->h'.objs.size=s.heap.objs.size+2->Q (.ref (s.heap.objs.size+1)) {s with heap:=h'}):Wn (Wu prog w) A (WA (.type "filter") [.builtin "len",.ref t]) Q E s:=by
 refine callType_codes (Q₁:=fun obj aG=>aG.TypeIs obj "filter"/\Q obj aG) eT (qh _ _) F.entry_object_init (Bg ht fun h' hk h1 h2 hsz=>⟨cR h2,hQ h' hk h1 h2 hsz⟩) fun obj aG bF=>?_
 exact⟨bF.1,F.initArgs_range_2 _ _ _,object_init_meets eT.init.lookup eT.made (by decide) prog w A.in1 _ aG ⟨bF.1,rfl,bF.2⟩⟩
section
variable {K:Env->Prop}
structure fR (C:Cx) (c P:XO) (p:Pos) (q:WS):Prop where
 mem:(c,P,p,q)∈C.tabs
 code:C.h₀.IsCode c P #[]
 uniq:∀c' p' q',(c',P,p',q')∈C.tabs->p'=p/\q'=q
theorem fR.dF (hC:C.Ok)(h:fR C c P p q):¬C.T c:=by intro y0;refine iM y0 fun c' p' q' m=>?_;have h1:=(hC.q6 c P p q h.mem).1;refine aZ h1 fun y1 x=>?_;refine eH y1 fun o vs ho hc x=>?_;have h2:=(hC.q6 c' c p' q' m).1.2;rw[ho]at h2;obtain rfl:=XT h2;rcases hc with⟨⟩
theorem fR.w4 (hC:C.Ok)(h:fR C c P p q)(bs:Bs C s)(hP:s.heap.get? P=XU {cls:=.none,data:=.fields ps})(Ku:TriplesOk ps.toList):s.heap.IsCode c P ps:=by refine MV h.code fun o vs file tf flags tg inF y0=>?_;refine DD y0 fun text tt op ho hd h11 h2 y1=>?_;refine PK y1 fun h7 h9 h10 Ud hpd htr gS=>?_;exact⟨o,vs,file,tf,flags,tg,inF,text,tt,_,bs.keep c o ho (h.dF hC),hd,h11,h2,h7,h9,h10,hP,rfl,Ku,gS⟩
theorem fR.tableAt (hC:C.Ok)(h:fR C c P p q)(bs:Bs C s)(hP:s.heap.get? P=XU {cls:=.none,data:=.fields ps}):s.heap.TableAt c P ps:=by refine aZ ((hC.q6 c P p q h.mem).1) fun y0 x=>?_;refine mi y0 fun o vs ho hc hd h11=>?_;exact⟨⟨o,vs,bs.keep c o ho (h.dF hC),hc,hd,h11⟩,hP⟩
theorem l8 (hl:pos.line=p.line)(hc:pos.col=p.col):codeAmong pos (#[rawInt p.line,rawInt p.col,c']:Array WJ).toList=XU c':=by simp[codeAmong,rawInt,hl,hc]
theorem fR.grown (hC:C.Ok)(h:fR C c P p q)(bs:Bs C s){t:Nat}(h0:s.heap.get? P=XU {cls:=.none,data:=.fields #[]})(hx:Xo P s.heap h') (h1:h'.get? P=XU {cls:=.none,data:=.fields #[rawInt p.line,rawInt p.col,.ref c']}) (hr:h'.CodeRec (.ref c') q):Ex C s {s with heap:=h',toks:=t}:=by
 have hT:C.T P:=⟨c,p,q,h.mem⟩
 refine⟨fun b o e nt x=>hx b o (fun z=>nt (z▸hT)) e,fun b o f e=>.of (hx b o (fun y=>bs.dT h0 nofun (y▸f)) e),fun z=>⟨fun b o e nt=>hx b o (fun y=>nt (y▸hT)) (z.keep b o e nt),fun c2 P2 p2 q2 m=>?_,z.gens,z.os,fun a f=>(z.alive a f).data fun o e=>.of (hx a o (fun y=>bs.dT h0 nofun (y▸f)) e)⟩⟩
 by_cases hp:P2=P
 ·subst hp;refine aZ (h.uniq c2 p2 q2 m) ?_;rintro(rfl) (rfl);exact .inr ⟨c',h1,hr⟩
 ·refine XR (z.tab c2 P2 p2 q2 m) (fun e=>?_) fun y0=>?_
  ·exact .inl (hx _ _ hp e)
  ·refine aE y0 fun b e r=>?_;refine .inr ⟨b,hx _ _ hp e,?_⟩;refine cQ r fun b' o vs t' e1 e2 e3 e4=>?_;rcases e1 with⟨⟩;refine⟨b,o,vs,t',rfl,hx _ _ (fun y=>?_) e2,e3,e4⟩;subst y;rw[h0]at e2;obtain rfl:=XT e2;rcases e3 with⟨⟩;simp at e4
theorem sF (hC:C.Ok)(h:fR C c P p q)(hc:ag.code=.ref c)(hl:pos.line=p.line)(iV:pos.col=p.col)(hq:qn=q)(bs:Bs C s)(hQ:∀c' s',Ex C s s'->s.gens=s'.gens->s.os=s'.os->s.drawn=s'.drawn->s'.heap.CodeRec (.ref c') q->Q (.ref c') s'):Wn (Wu prog w) A (genexprCode ag pos qn scope) Q E s:=by
 subst hq;refine XR (bs.tab c P p _ h.mem) (fun h0=>?_) fun y0=>?_
 ·have Ow:=h0;refine wpAny_genexprCodeX hc (h.w4 hC bs Ow trivial) (h.tableAt hC bs Ow) rfl fun c' h' tk hx x x x hr ht x=>hQ c' {s with heap:=h',toks:=tk} (h.grown hC bs Ow hx ?_ hr) rfl rfl rfl hr;have:=ht.2;simpa[hl,iV]using this
 ·refine aE y0 fun c' h1 hr=>?_;have MA:=h1;exact wpAny_genexprCode_hit hc (h.w4 hC bs MA (by simp[TriplesOk,rawInt])) (l8 hl iV) (hQ c' s (.refl s) rfl rfl rfl hr)
theorem HH (e:bh ag sc)(h:fq s.heap ag x v)(hQ:Q v s):Wn M A (eval (.Name x p) ag) Q E s:=by
 refine bH h fun h1 h2 h3=>?_;refine wpAny_Name ?_ h1;rcases h3 with⟨hk,m,hm,hv⟩|⟨hk|hk,c,hc,hv⟩
 ·exact wpAny_loadName_local e.kind hk hm hv hQ
 ·exact wpAny_loadName_cell e.kind hk hc hv hQ
 ·exact wpAny_loadName_free e.kind hk hc hv hQ h2
theorem qe (hC:C.Ok)(e:bh ag sc)(z:Bs C s)(hx:sc.names.lookup x=XU .globalImplicit)(hd:(x==("__debug__":WS))=false)(hg:C.mg x=XW)(hv:C.mb x=XU v)(hQ:Q v s):Wn M A (eval (.Name x p) ag) Q E s:=Xz e.kind (e.glob x hx) (Calls.loadGlobal_builtin (e.globals▸Cx.QT hC z) hg (e.builtins▸Cx.nsB hC z) hv hQ) hd
set_option tactic.hygienic true in
theorem vp (h:args.any (·.1)=false){Q:Args->WV->Prop}(hs:Wn M A (spliced args) (fun vs s'=>Q ⟨vs,[]⟩ s') E s):Wn M A (evalArgs f true args []) Q E s:=by
 have key:evalArgs f true args []=(spliced args>>=fun vs=>holding (vs++[]) (pure ⟨vs,[]⟩)):=by
  unfold evalArgs;rcases args with⟨⟩;case nil=>rfl
  case cons x r=>
   obtain⟨b,t⟩:=x;rcases b with⟨⟩;case true=>simp at h
   case false=>rfl
 rw[key];exact Wk (wpAny_mono hs (fun vs s1 p1=>wpAny_holding (Wa p1)) fun y y x=>x)
theorem BS (hC:C.Plain){a:WS}(e:bh ag sc)(i:In C ak ag ae s)(ha:ae.lookup a=XU (.val (.tuple ds)))(Ko:strsOf ds=XU ys)(hf:sc.names.lookup ("filter":WS)=XU .globalImplicit)(hg:sc.names.lookup ("len":WS)=XU .globalImplicit)(hQ:∀t av h' tk,h'.IsTuple t av->StrsAre av.toList ys->¬C.T t->(∀b o,s.heap.get? b=XU o->h'.get? b=XU o)->h'.IsTupleIter s.heap.objs.size t 0->ox h' (s.heap.objs.size+1) s.heap.objs.size->h'.objs.size=s.heap.objs.size+2->t<s.heap.objs.size->Q (.ref (s.heap.objs.size+1)) {s with heap:=h',toks:=tk}):Wn (Wu pw Wd) A (eval (.Call (.Name "filter" fp) [.Name "len" gp,.Name a ap] [] pf) ag) Q E s:=by
 refine Wk (qe hC.ok e i.bs hf (by decide) (hC.none _ (by decide)) (hC.b (v:=.type "filter") (by kernel_rfl) (by decide)) ?_)
 refine PySem.callWith_type rfl (vp rfl ?_)
 refine wpAny_items_cons (qe hC.ok e i.bs hg (by decide) (hC.none _ (by decide)) (hC.b (v:=.builtin "len") (by kernel_rfl) (by decide)) ?_)
 refine aE (i.lo a _ ha) fun v hv hr=>?_
 refine wpAny_items_cons (HH e hv ?_)
 refine wpAny_items_nil ?_
 cases hr with| @tuple t o vs k _ Kp ho hc hd hr=>
 have ht:s.heap.IsTuple t vs.toArray:=⟨o,ho,hc,k,hd⟩
 refine zZ ht fun h' hk h1 h2 hsz=>?_
 exact hQ t vs.toArray h' s.toks ⟨o,hk _ _ ho,hc,k,hd⟩ (by simpa using hr.strs Ko) (fun z=>Kp (i.vo.tabs t z)) hk h1 h2 hsz (Xh ho)
theorem kq (h:StrsAre vs ys):StrsAre (vs.filter i6) (ys.filter fun y=>y.length !=0):=by
 induction h with
 |nil=>exact .nil
 |cons y t r ih=>rw[Zv,Zv];cases h:(y.length !=0)with|true=>simp only[qK,h,if_true];exact .cons y t ih|false=>simp only[qK,h,ZY,if_false];exact ih
theorem yw (h:StrsAre vs ys):∀{v},v∈vs->∃y t,v=.str y t/\y∈ys:=by
 induction h with
 |nil=>exact fun h=>nomatch h
 |cons y t r ih=>
  intro v h;refine XR (YL.mp h) (fun q=>?_) fun q=>?_
  ·exact⟨y,t,q,YJ⟩
  ·exact(ih q).elim fun y' h=>h.elim fun t' h=>⟨y',t',h.1,YK _ h.2⟩
set_option tactic.hygienic true in
theorem yy (h:StrsAre vs ys):∀{j:Nat}{v},vs[j]?=XU v->∃y t,v=.str y t/\ys[j]?=XU y:=by
 induction h with
 |nil=>exact fun h=>aa h
 |cons y t r ih=>
  intro j v h;rcases j with⟨⟩;case zero=>exact⟨y,t,(XT h).symm,rfl⟩
  case succ j=>exact ih h
theorem yx (h:StrsAre vs ys):vs.length=ys.length:=by induction h with|nil=>rfl|cons y t r ih=>exact V4 (·+1) ih
noncomputable def o4 (y:WS):WY:={kind:=.function,names:=[(".0",.local),(y,.local)],isGenerator:=true,isCoroutine:=false}
theorem yS (n:Nat):passing (fun x=>true) n 0=Yy n:=by simp[passing]
theorem Si (x4:Ex C s s4)(hI:s.heap.get? I=XW)(hCz:s4.heap.get? Cz=XW)(T9:∀b∈wr,b=Cz\/b=I)(hIo:∀o vs x t,s4.heap.get? I=XU o->o.data=.fields vs->vs[1]?≠XU (.str x t))(k5:∀b o,s4.heap.get? b=XU o->s5.heap.get? b=XU o)(hg5:AllBare s4.gens->AllBare s5.gens)(ho5:s5.os=s4.os)(m:Moved wr (GenOnlyQ g) s5 s')(k:Nat):Ex C s {s' with toks:=k}:=by
 have keep:∀b o,s4.heap.get? b=XU o->b≠I->s'.heap.get? b=XU o:=fun b o e hb=>m.heap b o (fun hm=>by
  refine XR (T9 b hm) (fun q=>?_) fun q=>?_
  ·subst q;rw[hCz]at e;exact aa e
  ·exact hb q) (k5 b o e)
 refine⟨fun b o e t f=>keep b o (x4.keep b o e t f) fun q=>by(subst q;rw[hI]at e;exact aa e),fun b o f e=>(let⟨o1,e1,d1⟩:=x4.nO b o f e;⟨o1,keep b o1 e1 fun q=>(by subst q;rw[hI]at e;exact aa e),d1⟩),fun z=>?_⟩;have z4:=x4.bs z;refine⟨fun b o e t=>keep b o (z4.keep b o e t) fun q=>?_,fun c P p q mm=>?_,?_,?_,fun a f=>(z4.alive a f).data fun o e=>.of (keep a o e fun q=>?_)⟩
 ·subst q;have:=z.keep b o e t;rw[hI]at this;exact aa this
 ·have hPI:P≠I:=by rintro rfl;have hT:C.T P:=⟨c,p,q,mm⟩;rcases z.tab c P p q mm with e|⟨_,e,_⟩<;>(rw[hI]at e;exact aa e)
  refine XR (z4.tab c P p q mm) (fun e=>?_) fun y0=>?_
  ·exact .inl (keep _ _ e hPI)
  ·refine aE y0 fun b e r=>?_;refine .inr ⟨b,keep _ _ e hPI,?_⟩;refine cQ r fun b' o vs t' e1 e2 e3 e4=>?_;rcases e1 with⟨⟩;exact⟨b,o,vs,t',rfl,keep _ _ e2 (fun y=>by subst y;exact hIo o vs _ _ e2 e3 e4),e3,e4⟩
 ·exact m.gens.bare (hg5 z4.gens)
 ·exact m.os.trans (ho5.trans z4.os)
 ·subst q;refine jX (z.alive a f) fun o u u e u=>?_;rw[hI]at e;exact aa e
theorem OB (hC:C.Plain)(zH:∃bm ob,BMod C.h₀ mainGlobals C.mg bm ob)(hA:dy C n A)(ht:fR C c P p q)(nJ:ag.code=.ref c)(hq:ag.qual++"<genexpr>"=q){a y:WS}(e:bh ag sc)(i:In C ak ag ae s)(ha:ae.lookup a=XU (.val (.tuple ds)))(Ko:strsOf ds=XU ys)(hf:sc.names.lookup ("filter":WS)=XU .globalImplicit)(hg:sc.names.lookup ("len":WS)=XU .globalImplicit)(hy:(y==(".0":WS))=false)(NS:(y==("__debug__":WS))=false)(hl:ub.line=p.line)(iV:ub.col=p.col)(h2:(Ft.endLine==p2.line)=true)(fP:∀z∈ys,z.length<=aW)(hQ:∀a s5 fp wr g Pz St,WalksS pw Wd A.in4 a fp wr (GenOnlyQ g) (ys.filter fun y=>y.length !=0).length Pz St->(∀i s,St i s->s.TypeIs (.ref a) "generator")->St 0 s5->(∀b∈fp,b<s5.heap.objs.size)->a∈fp->(∀j v,Pz j v->∃z u,(ys.filter fun y=>y.length !=0)[j]?=XU z/\v=.str (WL z) u)->(∀s' k,Moved wr (GenOnlyQ g) s5 s'->Ex C s {s' with toks:=k})->Q (.ref a) s5):Wn (Wu pw Wd) A (eval (.GeneratorExp (.Call (.Attribute (.Name y yp) "strip" Ft) [] [] p2) [⟨.Name y py,.Call (.Name "filter" fp) [.Name "len" gp,.Name a ap] [] pf,[],0⟩] (o4 y) ub) ag) Q E s:=by
 revert sc n ds p c P q py fp gp ap pf ub hC zH hA ht nJ hq a e i ha Ko hf hg hy NS hl iV h2 fP hQ
 refine no_implicit_lambda% (mX (bL (bL (bL (bL pR ya) (bL pQ VV)) VV) VV) ?_ A C s y ag ys p2 yp Ft Q E ak ae)
 generalize gB _ _=tt
 dsimp only[As]
 generalize tt.1.1.1.1=A,tt.1.1.1.2=C,tt.1.1.2.1=s,tt.1.1.2.2=y,tt.1.2.1.1=ag,tt.1.2.1.2=ys,tt.1.2.2=p2,tt.2.1.1.1=yp,tt.2.1.1.2=Ft,tt.2.1.2=Q,tt.2.2.1.1=E,tt.2.2.1.2=ak,tt.2.2.2=ae
 intro sc n ds p c P q py fp gp ap pf ub hC zH hA ht nJ hq a e i ha Ko hf hg hy NS hl iV h2 fP hQ
 have T7:(o4 y).names.lookup y=XU Xa.local:=by show YU y [((".0":WS),Xa.local),(y,Xa.local)]=_;rw[YT,hy];simp
 refine wpAny_GeneratorExp_walksQ hA.handled rfl (cl:=[]) rfl (fun z hz=>?_) (by simp[o4]) T7 rfl (by have:=hA.depth;exact br 0x200210b02 rfl this) ?_ (fun r=>rfl)
 ·simp only[o4,YL,YG,or_false]at hz;rcases hz with rfl|rfl<;>simp
 have hw0:s.heap.get? s.heap.objs.size=XW:=aF _
 refine BS hC e i ha Ko hf hg fun t av h1 LV Ub Fm htT k1 Fp Sd Za7 VK=>?_
 have x1:Ex C s {s with heap:=h1,toks:=LV}:=.of_keep k1 rfl rfl
 have Ar:=x1.bs i.bs
 have KG:s.heap.objs.size+1≠s.heap.objs.size:=Nat.succ_ne_self _
 have Kt:=Nat.ne_of_lt VK
 have zC:∀v∈av.toList,∃x tk,v=WJ.str x tk/\x.length<=aW:=fun v hv=>by refine fE (yw Fm hv) fun y t e m=>?_;exact⟨y,t,e,fP y m⟩
 have W0:∀A':XN,A'.handled=XW->Walks pw Wd A' (s.heap.objs.size+1) [s.heap.objs.size+1,s.heap.objs.size,t] [s.heap.objs.size] (av.toList.filter i6).length (fun j v=>(av.toList.filter i6)[j]?=XU v) (DC (s.heap.objs.size+1) s.heap.objs.size t av):=fun A' w9=>vV KG Kt zC A' w9
 have LW:DC (s.heap.objs.size+1) s.heap.objs.size t av 0 h1:=⟨Sd,Ub,0,Fp,by simp⟩
 refine(W0 A hA.handled).self 0 {s with heap:=h1,toks:=LV} _ _ LW ⟨Ar.noLimit hC.ok,?_⟩
 refine sF hC.ok ht nJ hl iV hq Ar fun c' s3 x3 hg3 Ug hd3 hr3=>?_
 have bs3:=x3.bs Ar
 have nT:∀b o,({s with heap:=h1,toks:=LV}:WV).heap.get? b=XU o->(∀vs,o.data=.fields vs->vs≠#[]/\∀l cc Ux,vs≠#[rawInt l,rawInt cc,.ref Ux])->¬C.T b:=by
  intro b o eb hh y0;refine iM y0 fun c2 p2 q2 m=>?_;refine XR (Ar.tab c2 b p2 q2 m) (fun e'=>?_) fun y1=>?_
  ·rw[eb]at e';obtain rfl:=XT e';exact(hh _ rfl).1 rfl
  ·refine aE y1 fun Ux e' r=>?_;rw[eb]at e';obtain rfl:=XT e';exact(hh _ rfl).2 _ _ _ rfl
 have hFT:¬C.T (s.heap.objs.size+1):=by refine eB Sd fun o ho hc hd=>?_;refine nT _ o ho fun vs hv=>?_;rw[hd]at hv;rcases hv with⟨⟩;exact⟨by simp,by intro l cc Ux e;simp at e⟩
 have HN:¬C.T s.heap.objs.size:=by refine eB Fp fun o ho hc hd=>?_;refine nT _ o ho fun vs hv=>?_;rw[hd]at hv;rcases hv with⟨⟩;exact⟨by simp,by intro l cc Ux e;simp at e⟩
 have jY:DC (s.heap.objs.size+1) s.heap.objs.size t av 0 s3.heap:=by
  refine(W0 A hA.handled).frame 0 _ _ LW fun b hb o eb=>x3.keep b o eb ?_ ?_;all_goals simp only[YL,YG,or_false]at hb
  rotate_left
  ·refine XR hb (fun y1=>?_) fun y4=>?_
   ·obtain rfl:=y1;refine eB Sd fun o' ja qv cU=>?_;exact Ar.dT ja (by rw[cU];nofun)
   refine XR y4 (fun y2=>?_) fun y3=>?_
   ·obtain rfl:=y2;refine eB Fp fun o' ja qv cU=>?_;exact Ar.dT ja (by rw[cU];nofun)
   ·obtain rfl:=y3;obtain⟨o',ja,qv,n',cU⟩:=Ub;exact Ar.dT ja (by rw[cU];nofun)
  refine XR hb (fun y1=>?_) fun y4=>?_
  ·obtain rfl:=y1;exact hFT
  refine XR y4 (fun y2=>?_) fun y3=>?_
  ·obtain rfl:=y2;exact HN
  ·obtain rfl:=y3;exact htT
 refine gY zH fun bm ob B=>?_
 have Ol:¬C.T bm:=by intro y0;refine iM y0 fun c2 p2 q2 m=>?_;have h2:=(hC.ok.q6 c2 bm p2 q2 m).1.2;rw[B.obj]at h2;obtain rfl:=XT h2;rcases B.cls with⟨⟩
 refine wpAny_builtinsFor (e.globals▸Cx.QT hC.ok bs3) B.name B.ne (bs3.keep _ _ B.obj Ol) B.cls B.dict B.data ?_
 obtain⟨hF3,ht3,i3,hi3,Zbb⟩:=id jY
 have jw:∀{b:XO}{o:Obj},s3.heap.get? b=XU o->b<s3.heap.objs.size:=fun h=>Xh h
 have Zav:s.heap.objs.size+1<s3.heap.objs.size:=by refine aE hF3 fun o ho r=>?_;exact jw ho
 have Zau:s.heap.objs.size<s3.heap.objs.size:=by refine aE hi3 fun o ho r=>?_;exact jw ho
 have RB:t<s3.heap.objs.size:=by refine aE ht3 fun o ho r=>?_;exact jw ho
 refine⟨_,_,[s.heap.objs.size],_,_,_,fun r=>true,fun j v=>∃z u,(ys.filter fun y=>y.length !=0)[j]?=XU z/\v=.str (WL z) u,rfl,W0,jY,?_,bs3.noLimit hC.ok,?_,?_,?_⟩
 ·intro b hb;simp only[YL,YG,or_false]at hb;refine XR hb (fun y1=>?_) fun y4=>?_
  ·obtain rfl:=y1;exact Zav
  refine XR y4 (fun y2=>?_) fun y3=>?_
  ·obtain rfl:=y2;exact Zau
  ·obtain rfl:=y3;exact RB
 ·intro hm;have hcs:cStatics=s.heap.objs.size:=by simpa using hm
  refine aE (i.bs.noLimit hC.ok) fun mc y1 r=>?_;refine jX y1 fun o es ep ho r=>?_;have:=Xh ho;rw[hcs]at this;exact Ye _ this
 ·intro Za8 hk;refine⟨fun A' E' j v s2 m2 w9 hP hn hx Uk=>Wa ⟨rfl,s2.heap,s2.toks,rfl,fun r r e=>e⟩,fun A' E' j v s2 m2 w9 hP r hn hx Uk=>?_⟩;refine fE (yy (kq Fm) hP) ?_;rintro z tk (rfl) hz;have hzc:z.length<=aW:=fP z (YI.mp (YE hz)).1;refine wpAny_Call_method_lateS rfl rfl h2 (wpAny_Name (wpAny_loadName_local rfl T7 hn hx ?_) NS);exact SB.strip (fun t' k=>⟨⟨z,t',hz,rfl⟩,s2.heap,k,rfl,fun r r e=>e⟩) (bK hzc)
 ·intro a h5 tk gs Um ha Zaw hk5 W RG;have hlen:=yx (kq Fm);rw[yS,YY]at W;rw[hlen]at W RG;refine hQ a _ _ _ _ _ _ W (fun j s' st=>?_) RG (fun b hb=>?_) YJ (fun j v hv=>?_) (fun s' k m=>?_)
  ·refine aZ st fun y1 r=>?_;refine qV y1 fun o nm qn ho hc r=>?_;exact⟨o,ho,hc⟩
  ·show b<h5.objs.size;rw[Zaw];simp only[YL,YD]at hb;refine XR hb (fun y1=>?_) fun y3=>?_
   ·obtain rfl:=y1;exact Yb _
   refine XR y3 (fun y2=>?_) fun hb=>?_
   ·obtain rfl:=y2;exact Yc ha
   ·exact Yc (X9 hb ha)
  ·obtain⟨i',mV,z,u,hz,rfl⟩:=hv;have:i'=j:=by
    rw[Zf]at mV
    ·obtain rfl:=XT mV;rfl
    ·by_cases hjn:j<(ys.filter fun y=>y.length !=0).length
     ·exact hjn
     ·rw[Zj (by rw[YY];exact aT 0x1110032 rfl hjn)]at mV;exact aa mV
   subst this;exact⟨z,u,hz,rfl⟩
  ·refine Si (s5:={s3 with heap:=h5,toks:=tk,gens:=s3.gens.push gs}) (x1.trans x3) (aF _) (aF _) (fun b hb=>by simpa using hb) (fun o vs x t' ho hd=>?_) hk5 (fun hb=>hb.push Um) rfl m k;refine eB hi3 fun o' ja qv cU=>?_;rw[ho]at ja;obtain rfl:=XT ja;rw[hd]at cU;rcases cU with⟨⟩;simp
end
noncomputable def dG (sep:WS)(ys:List WS):WS:=Txt.join sep ((ys.filter fun y=>y.length !=0).map WL)
def iD (sep:WS)(ys:List WS):Bool:=decide (ys.length<=aW)&&ys.all (fun z=>decide (z.length<=aW))&&decide ((((ys.filter fun y=>y.length !=0).map WL).map (·.length)).sum+((ys.filter fun y=>y.length !=0).map WL).length*sep.length<=16777216)
def kF (V:az)(x:WS):Option (List WS):=match V.lookup x with
 |some (.val (.tuple ds))=>strsOf ds|_=>XW
set_option tactic.hygienic true in
theorem A9 (h:kF V x=XU ys):∃ds,V.lookup x=XU (.val (.tuple ds))/\strsOf ds=XU ys:=by
 unfold kF at h;cases e:V.lookup x with
 |none=>rw[e]at h;exact aa h
 |some sl=>
  rw[e]at h;rcases sl with⟨⟩;case own d=>exact aa h
  case val d=>
   rcases d with⟨⟩;case tuple u=>exact⟨u,rfl,h⟩
   all_goals (exact aa h)
def joinM (x sep a:WS):qG:=fun sc ae=>if sc.names.lookup ("filter":WS)=XU .globalImplicit/\sc.names.lookup ("len":WS)=XU .globalImplicit then(kF ae a).bind fun ys=>if iD sep ys=true then(b8 sc x (.val (.str (dG sep ys))) ae).map .next else XW else XW
theorem Kk (hC:C.Plain)(zH:∃bm ob,BMod C.h₀ mainGlobals C.mg bm ob)(ht:fR C c P p q)(hq:(name++".<locals>.")++"<genexpr>"=q) {sep y a:WS} (hl:ub.line=p.line) (iV:ub.col=p.col) (h2:(Ft.endLine==p2.line)=true) (h1:(Uz.endLine==p1.line)=true) (hy:(y==(".0":WS))=false) (NS:(y==("__debug__":WS))=false):Am C n (lg C (.ref c) name) (.Assign [.Name x xp] (.Call (.Attribute (.Constant (.str sep) k0 p0) "join" Uz) [.GeneratorExp (.Call (.Attribute (.Name y yp) "strip" Ft) [] [] p2) [⟨.Name y py,.Call (.Name "filter" fp) [.Name "len" gp,.Name a apz] [] pf,[],0⟩] (o4 y) ub] [] p1) pos,joinM x sep a):=by
 intro A ag hA hK ai sc ae W ad s fl e S hD h E Q hQ
 revert C n pos p c P q name hC zH ht hq hl iV h2 h1 hy NS hA hK ai ae W ad fl e S hD h hQ
 refine no_implicit_lambda% (FA (bL (bL (bL (bL (bL pR pQ) VV) VV) VV) VV) ?_ A s sep ag p1 x E a xp yp fp gp apz Ft py y p2 pf ub k0 Q p0 sc Uz)
 generalize gB _ _=tt
 dsimp only[Pg]
 generalize tt.1.1.1.1.1=A,tt.1.1.1.1.2=s,tt.1.1.1.2=sep,tt.1.1.2.1.1=ag,tt.1.1.2.1.2=p1,tt.1.1.2.2=x,tt.1.2.1.1.1=E,tt.1.2.1.1.2=a,tt.1.2.1.2=xp,tt.1.2.2.1.1=yp,tt.1.2.2.1.2=fp,tt.1.2.2.2=gp,tt.2.1.1.1.1=apz,tt.2.1.1.1.2=Ft,tt.2.1.1.2=py,tt.2.1.2.1.1=y,tt.2.1.2.1.2=p2,tt.2.1.2.2=pf,tt.2.2.1.1.1=ub,tt.2.2.1.1.2=k0,tt.2.2.1.2=Q,tt.2.2.2.1.1=p0,tt.2.2.2.1.2=sc,tt.2.2.2.2=Uz
 intro C n pos p c P q name hC zH ht hq hl iV h2 h1 hy NS hA hK ai ae W ad fl e S hD h hQ
 refine aQ h fun hfg h=>au h fun ys Ko h=>aQ h fun fL h=>bx h fun cC hb ve=>?_
 subst ve
 refine aZ hfg fun hf hg=>?_
 refine aE (A9 Ko) fun ds hds Ko=>?_
 unfold iD at fL
 simp only[Z6,ZH,V0]at fL
 refine aZ fL fun y0 NY=>?_;refine aZ y0 fun hnl fP=>?_
 refine bE ?_ rfl rfl
 refine ab (m:=eval (.Constant (.str sep) k0 p0) ag) (ao (Wl (ab (aw ?_))))
 have x0:Ex C s {s with toks:=s.toks+1}:=.toks
 have S0:=S.ex x0
 unfold methodCall
 have HV:methodCallForm 1 (backTo p1 (starEach [.GeneratorExp (.Call (.Attribute (.Name y yp) "strip" Ft) [] [] p2) [⟨.Name y py,.Call (.Name "filter" fp) [.Name "len" gp,.Name a apz] [] pf,[],0⟩] (o4 y) ub] ag)) (backToKw p1 (keywordEach [] ag))=true:=rfl
 have Zbc:=HV
 first|rw[HV]|(simp only[Y8,YZ];rw[HV])
 refine ab (aA ?_)
 refine ao (Wx (Wq _ _ _) PySem.F.plainAttrs_str PySem.F.slot_str_join PySem.F.type_str_join GM.noRef ?_)
 have RQ:methodCallPos true (.Constant (.str sep) k0 p0) ag Uz p1=pure p1:=by unfold methodCallPos;simp only[ZW,Bool.false_or,h1,if_true]
 rw[RQ]
 refine ab (aj ?_)
 refine b6 (fun w q=>by rcases q with⟨⟩) rfl (ao (vp rfl ?_))
 refine wpAny_items_cons (OB hC zH hA ht hK.code (by rw[hK.qual];exact hq) e S0.bV hds Ko hf hg hy NS hl iV h2 fP fun a s5 fp wr g Pz St WG hT Fm hfp haf hP hM=>?_)
 refine wpAny_items_nil (ao ?_)
 refine SC.joinGen WG.in4_2 hT Fm hfp haf (fun j v hv=>?_) (fun s' l m hl'=>?_) ?_
 ·refine fE (hP j v hv) ?_;rintro z u _ (rfl);exact⟨_,_,rfl⟩
 ·have htx:l.map (·.1)=(ys.filter fun y=>y.length !=0).map WL:=by
   refine aZ hl' fun l1 l2=>?_;have hlen:l.length=(ys.filter fun y=>y.length !=0).length:=by simpa[strValues]using l1
   refine Zy fun j=>?_;rw[Zg,Zg];cases hj:l[j]? with
   |none=>rw[Zj (by rw[<-hlen];exact Zi.mp hj)];rfl
   |some pr=>refine fE (hP j (.str pr.1 pr.2) (l2 j _ (by simp[strValues,hj]))) fun z u hz hv=>?_;injection hv with e1 e2;rw[hz];exact V4 XU e1
  refine⟨joinOk_of (by rw[htx];exact NY),fun t' k=>?_⟩;have xk:=x0.trans (hM s' k m);have S3:=S.ex xk;rw[htx];refine ab (aw (fv e S3 hD hb (.str _ _) fun s4 m4 S4 Ou w=>hQ _ _ ⟨rfl,W,ad,(Mv.jZ xk).trans m4,S4,Ou⟩))
 ·exact bK (Yg (Y5 _ _) hnl)
def eY (t:WS):List WS:=Re.Bd t.cps t.cps.size t.cps.size 0
def rl (a:XO)(x:Dat):List Dat->Option Dat:=pB fun y=>(MQ x).bind fun b=>(IS y).bind fun t=>if b=a/\t.length<=65536 then XU (.list ((eY t).map .str))else XW
theorem Cx.Ok.dF (hC:C.Ok)(h:C.h₀.get? a=XU o)(hc:o.cls≠.none):¬C.T a:=by intro y0;refine iM y0 fun c p q m=>?_;have h2:=(hC.q6 c a p q m).1.2;rw[h]at h2;obtain rfl:=XT h2;exact hc rfl
theorem gM.now (hC:C.Ok)(h:Re.gM C.h₀ a c)(bs:Bs C s):Re.gM s.heap a c:=by obtain⟨y0,y1⟩:=h;refine eH y0 fun o vs ho hc r=>?_;refine qV y1 fun oc av k Fn Up r2=>?_;exact⟨⟨o,vs,bs.keep a o ho (hC.dF ho (by rw[hc];nofun)),hc,r⟩,⟨oc,av,k,bs.keep c oc Fn (hC.dF Fn (by rw[Up];nofun)),Up,r2⟩⟩
set_option tactic.hygienic true in
theorem Bo (hC:C.Ok)(hp:Re.gM C.h₀ a c):mS C n "split" (rl a):=by
 intro a' ds d v s ak h bs V r;refine aE (lb h) fun y0 e h=>au h fun b hb h=>au h fun t RE h=>aQ h fun hh hz=>?_;obtain rfl:=Fb hb;obtain rfl:=vJ RE;subst e
 ··refine aZ hh ?_;rintro(rfl) ht;obtain rfl:=XT hz;have hv:v=.ref b:=by(rcases r with⟨⟩;(case rep r=>rcases r with⟨⟩;rfl))
   subst hv;obtain⟨y0,_⟩:=gM.now hC hp bs;refine mi y0 fun o vs ho hc hn r1=>?_;refine⟨"re.Pattern.split",fun{A pl}E Q q=>ao (Wx ⟨o,ho,hc⟩ Re.rI Re.rn Re.Az (fun x e=>by rcases e with⟨⟩;exact⟨o,ho,hn⟩) (q _ _ (.refl s) rfl)),fun{A s vs}hA bs V r rs=>?_⟩;cases rs with|cons rd rs=>rcases rs with⟨⟩;cases rd with|str _ tk=>have Ht:=gM.now hC hp bs;obtain⟨y0,_⟩:=id Ht;refine mi y0 fun o vs ho hc hn r1=>?_;refine fun E Q q=>ao (call_meets Re.rn ⟨o,ho,hc⟩ Re.zQ (Re.xT _ _) (Re.yD (ak:=ak) ht) ⟨Ht,fun us k hr=>?_⟩);refine q _ _ .push ?_;have nv:=V.new (aF _);exact .list nv (Xk _ rfl) rfl rfl rfl (hr.mono fun b o e nn=>⟨Xl _ e,nn⟩)
section
open PySem.Calls PySem.NumText
theorem kh (a b:WJ):checkTypeCall "int" ⟨[a,b],[]⟩=pure ():=by kernel_rfl
theorem lY (a b:WJ):checkBuiltinCall "int.__new__" ⟨[.type "int",a,b],[]⟩=pure ():=by kernel_rfl
theorem args_object_init_3 (a b c:WJ):argsOk "object.__init__" ⟨[a,b,c],[]⟩:=by
 first
 |(unfold argsOk;rw[Ws (n:=['_','_','t','i','n','i','_','_']) (by kernel_rfl) PySem.F.owner_object];kernel_rfl)
theorem zJ {x:WS}{u t:Tok}{n:Int}(hl:x.length<=640)(hn:Ww x=XU n):Gives (XJ.«int.__new__» ⟨[.type "int",.str x u,.int 10 t],[]⟩) (.int n):=.of_wp fun M A E s Q h=>by
  obtain⟨hp,g,d,tk,os⟩:=s;have f1:=PySem.F.conv_sub_int;have f2:=PySem.F.madeHere_int;have f3:=KIN.str_int;have f4:=KIN.str_idx;have f5:=KIN.str_trunc;have f6:typeOf (.str x u)=pure (.type "str"):=rfl;have hs:=Yg (seen_length x) hl;have hr:(int_private% "readNumeral") 0 10 (numSeenOf x)=(int_private% "Numeral.value") n/\((numSeenOf x).length==(numTextOf x).length)=true:=by
   refine XR (read0 x hs) (fun y0=>?_) fun y1=>?_
   ·refine eB y0 fun m h1 h2 h3=>?_;rw[hn]at h1;injection h1 with h1;subst h1;exact⟨h3,h2⟩
   ·refine aZ y1 fun h1 y=>?_;rw[hn]at h1;rcases h1 with⟨⟩
  have hk:=KIN.Hid.mk (And.intro hs hr);repeat (any_goals (first|assumption|((with_reducible show Wn _ _ ((int_private% "intFromText") _ _ _) _ _ _);refine KIN.wp_text hk.out.1 hk.out.2.1 hk.out.2.2 ?_)|wp_step))
  all_goals first|exact⟨_,rfl,h⟩|skip
set_option backward.match.sparseCases true in
theorem En {Q:Unit->WV->Prop}(h:Q () s):aV M A (markTheRefusal own e) Q E s:=fun Γ p ju hc=>by
 unfold markTheRefusal;rw[WX.wp_bind'];unfold stack;rw[WX.wp_stack];show WX.wp M Γ (pure _) _ _ _ _;rw[WX.wp_pure'];have key:pythonCodeMadeTheCall own (((Γ.code,p)::Γ.below).map (·.1))=false:=by
  unfold pythonCodeMadeTheCall;have:(((Γ.code,p)::Γ.below).map (·.1)).any (fun c=>match c with| .builtin "claim.caller" _=>true|_=>false)=true:=by
   rw[List.any_eq_true];refine XR hc.1.2.2 (fun q=>?_) fun y0=>?_
   ·exact⟨Γ.code,by simp,q⟩
   ·refine aE y0 fun x hx q=>?_;exact⟨x.1,by simp;exact .inr ⟨x.2,hx⟩,q⟩
  rw[Bool.and_assoc];refine Bool.and_eq_false_iff.mpr (.inl ?_);rw[Bool.not_eq_false'];exact this
 rw[key];rw[V6 ZX];rw[WX.wp_pure'];exact h
theorem Ba {α:Type}{Q:α->WV->Prop}(hh:A.handled=XW)(h:E e s):aV M A (raiseNew e:WX α) Q E s:=ao (wpAny_raiseNew_none hh h)
theorem zu {x:WS}{u t:Tok}(hl:x.length<=640)(hn:Ww x=XW)(hz:((numSeenOf x).length==(numTextOf x).length)=true)(hr:(reprText x).length<=100000)(hA:A.handled=XW){Q:Xr->WV->Prop}(hE:∀h' e m tk,Xp.MadeExc s.heap h' e "ValueError" [m]->E (.ref e) {s with heap:=h',toks:=tk}):aV (Wu prog w) A (XJ.«int.__new__» ⟨[.type "int",.str x u,.int 10 t],[]⟩) Q E s:=by
 revert s hl hn hz hr hA hE;refine no_implicit_lambda% (MY (bL (bL (bL Fi pR) VV) VV) ?_ w A x u prog t E Q);generalize gB _ _=tt;dsimp only[K8];generalize tt.1.1.1=w,tt.1.1.2=A,tt.1.2.1=x,tt.1.2.2=u,tt.2.1.1=prog,tt.2.1.2=t,tt.2.2.1=E,tt.2.2.2=Q;intro s hl hn hz hr hA hE;have hs:=Yg (seen_length x) hl;have hri:(int_private% "readNumeral") 0 10 (numSeenOf x)=(int_private% "Numeral.invalid"):=by
  refine XR (read0 x hs) (fun y0=>?_) fun y1=>?_
  ·refine eB y0 fun m h1 h2 h3=>?_;rw[hn]at h1;exact aa h1
  ·refine aZ y1 fun h1 h2=>?_;refine XR h2 (fun h2=>?_) fun y0=>?_
   ·exact h2
   ·refine aE y0 fun i h2 h3=>?_;exact absurd hz h3
 unfold XJ.«int.__new__»;dsimp only;refine ab (bX (a:=true) (by kernel_rfl) ?_);simp only[ZW,ZY,if_false];refine ab (bX (a:=true) PySem.F.conv_sub_int ?_);simp only[ZW,ZY,if_false];refine ab (bX (a:=()) PySem.F.madeHere_int ?_);rw[V6 (by simp),V6 (by simp)];rw[List.forIn_nil];refine ab (aj ?_);dsimp only[List.head?,Zm,Zl,Option.orElse];rw[show(XU (WJ.int 10 t)<|>Option.map (fun x:WS×WJ=>x.snd) XW)=XU (WJ.int 10 t)from rfl];dsimp only;refine ab (bX (a:=(10:Int)) (by kernel_rfl) ?_);rw[V6 (by decide)];refine ab (bX (by rfl) ?_);dsimp only;refine ab ?_;have h1:(int_private% "intFromText") (WJ.str x u) (numTextOf x) (Int.toNat 10)=(if((numTextOf x).takeWhile (· !=0)).length<=640 then((pure 0:WX Nat)>>=_)else _):=rfl;rw[h1,V7 (show _<=640 from hs)];refine ab (aj ?_);have VR:(int_private% "readNumeral") 0 (Int.toNat 10) ((numTextOf x).takeWhile (· !=0))=(int_private% "Numeral.invalid"):=hri;dsimp only;rw[VR];have hb:(int_private% "bytesOf?") (WJ.str x u)=pure XW:=rfl;rw[hb];refine ab (aj ?_);simp only[Option.isSome_none,Bool.false_and,ZY,if_false];refine ab (gZ ?_);refine ab (aj ?_);refine ab (ao (wpAny_pyRepr_str ?_ (Yg hr (by decide))));refine ab (ao (wpAny_mkStr ?_ ?_))
 ·refine ab (ao (wpAny_newExc_plain plainExc_ValueError (fun h' e hm=>?_) (show 1<=sizeLine by decide)));refine ab (En ?_);exact Ba hA (hE h' e _ (s.toks+1+1) hm)
 ·have e1:∀a b:WS,(a++b).length=a.length+b.length:=fun a b=>Array.size_append;rw[e1];have e2:(WS.ofString (toString "invalid literal for int() with base "++toString (Int.toNat 10)++toString ": ")).length<=100:=by decide +kernel
  have e3:({cps:=(reprText x).cps.extract 0 200}:WS).length<=200:=by show((reprText x).cps.extract 0 200).size<=200;rw[Array.size_extract];exact bq 0xc8a80c8adfc11 rfl
  have e4:sizeLine=16777216:=rfl;exact br 0x210b1010000008f22c8a1164a014 rfl e2 e3 e4
theorem xH {x:WS}{u t:Tok}(hl:x.length<=640)(hn:Ww x=XW)(hz:((numSeenOf x).length==(numTextOf x).length)=true)(hr:(reprText x).length<=100000)(hA:A.handled=XW)(hE:∀h' e m tk,Xp.MadeExc s.heap h' e "ValueError" [m]->E (.ref e) {s with heap:=h',toks:=tk}):aV (Wu prog w) A (WA (.type "int") [.str x u,.int 10 t]) Q E s:=by refine q0 (Q₁:=fun y y=>False) PySem.F.called_int (by decide) (kh _ _) ?_ (fun obj aG h=>h.elim);refine bj ?_ rfl;refine ab (bX (lY _ _) (aj ⟨Wt (by decide +kernel) _,eQ PySem.F.entry_int_new (show(!holders.contains "int.__new__")=true by decide +kernel) ?_⟩));refine aH (zu hl hn hz hr ?_ (Q:=fun y y=>False) hE) (fun y y q=>q.elim) fun y y q=>q;rw[XM (by decide +kernel) _];exact hA
theorem uj {x:WS}{u t:Tok}{k:Int}(hl:x.length<=640)(hn:Ww x=XU k)(h:Q (.int k s.toks) {s with toks:=s.toks+1}):Wn (Wu prog w) A (WA (.type "int") [.str x u,.int 10 t]) Q E s:=callType_new PySem.F.called_int PySem.F.newNe_int (kh _ _) (lY _ _) (fun obj=>args_object_init_3 obj _ _) PySem.F.entry_int_new (zJ hl hn).meets (show(Made.int k).post _ s from⟨rfl,h⟩)
end
section
variable {M:Model} {F:XO->Prop}
structure Jf (F:XO->Prop) (h h':Xp):Prop where
 size:h'.objs.size=h.objs.size
 keep:∀b o,h.get? b=XU o->¬F b->h'.get? b=XU o
 data:∀b o,h.get? b=XU o->gh h' b o
theorem Jf.refl (h:Xp):Jf F h h:=⟨rfl,fun x x e x=>e,fun x x e=>.of e⟩
theorem Jf.trans (x:Jf F h h')(y:Jf F h' h''):Jf F h h'':=⟨y.size.trans x.size,fun b o e f=>y.keep b o (x.keep b o e f) f,fun b o e=>let⟨o1,e1,d1⟩:=x.data b o e;let⟨o2,e2,d2⟩:=y.data b o1 e1;⟨o2,e2,d2.trans d1⟩⟩
theorem Jf.upd (ho:h.get? L=XU o)(hd:o.data=.dict es ep)(hFL:F L)(hg:∀o,(g o).data=o.data):Jf F h (h.update L g):=by
 have hnf:=Obj.isFreed_of_dict ((hg o).trans hd);refine⟨Xp.size_update ..,fun b o' e nf=>?_,fun b o' e=>?_⟩
 ·rw[Xj _ _ (fun q=>nf (by rw[<-q];exact hFL))];exact e
 ·by_cases q:L=b
  ·subst q;rw[ho]at e;obtain rfl:=XT e;exact⟨_,Xi _ ho hnf,hg o⟩
  ·exact .of ((Xj _ _ q).trans e)
set_option tactic.hygienic true in
theorem wX (h:∀v,Q v s):Wn M A (keptBack ag false outer) Q E s:=by
 rcases outer with⟨⟩;case nil=>exact wpAny_keptBack_nil h
 case cons c r=>exact Wa (h _)
theorem rG:∀{fs:List Env}{s:WV},(∀f∈fs,f.scope.kind=.function/\∃L,f.frame=XU L/\F L/\gn s.heap L)->∀{Q:Unit->WV->Prop},(∀h',Jf F s.heap h'->Q () {s with heap:=h'})->Wn M A (readyFrames fs) Q E s:=by
 intro fs;induction fs with
 |nil=>intro s _ Q hQ;exact Wa (hQ s.heap (.refl _))
 |cons ag outer ih=>
  intro s hf Q hQ;obtain⟨hk,L,hL,hFL,o,es,ep,y0⟩:=hf ag YJ;refine aZ y0 fun ho hd=>?_;unfold readyFrames;rw[hL];refine Wk (Wf ho ?_);by_cases hr:((o.slots.getD 3 XW).isSome)=true
  ·rw[V7 hr];exact Wa (hQ _ (.refl _))
  ·rw[V6 hr];refine Wk (Wb (a:=false) (by simp[behindIsImport,hk]) ?_);refine Wk (wX fun v=>?_);refine Wk (wpAny_update ho ?_);have x:=Jf.upd ho hd hFL (g:=fun o:Obj=>{o with slots:= #[XU ag.code,XU (WI ag.globals),o.slots.getD 2 XW,XU v,o.slots.getD 4 XW,ag.func.map WI,XU (WI ag.builtins)]++(ag.cells.map fun c:WS×XO=>XU (WI c.2)).toArray}) (fun z=>rfl);refine ih (fun f hm=>?_) fun h' y=>hQ h' (x.trans y);obtain⟨a,b,c,d,e⟩:=hf f (YK _ hm);exact⟨a,b,c,d,e.data fun o' q=>x.data _ o' q⟩
theorem wM {vs:Array WJ}{Q:Unit->WV->Prop}(HF:A.frames=XU (ag::fs))(hf:ag.frame=XU L)(Oo:∀f∈ag::fs,f.scope.kind=.function/\∃L,f.frame=XU L/\F L/\gn s.heap L)(he:s.heap.get? e=XU oe)(hFe:¬F e)(hd:oe.data=.fields vs)(h1:vs[1]?=XU .none)(h:∀h' tb LQ,(∀b o,s.heap.get? b=XU o->b≠e->¬F b->h'.get? b=XU o)->(∀b o,s.heap.get? b=XU o->b≠e->gh h' b o)->s.heap.get? tb=XW->h'.get? e=XU (oe.mapFields (·.setIfInBounds 1 (.ref tb)))->h'.get? tb=XU {cls:=.type "traceback",dict:=XW,data:=.fields LQ}->3<LQ.size->Q () {s with heap:=h'}):Wn M A (noteFrame (.ref e) ag) Q E s:=by
 have hsz:=(Z8.mp h1).1
 unfold noteFrame
 simp only[hf]
 refine Wk (Wg he hd h1 ?_)
 rw[V6 (by decide)]
 unfold PySem.frameOf
 refine Wk (Wk (wpAny_frameEnvs HF ?_))
 have hdw:((ag::fs).dropWhile fun x=>x.frame !=ag.frame)=ag::fs:=by simp[List.dropWhile]
 rw[hdw]
 unfold frameObject
 refine Wk (Wk (rG Oo fun bF x=>Wa ?_))
 rw[hf]
 refine Wa ?_
 refine Wk (wpAny_entryPlaceOf fun pl N5=>?_)
 unfold EntryCells.newEntry newFields
 refine Wk (Wc ?_ (N5.sizeOk5 _ _ _ _ _))
 have Ms:=x.keep e oe he hFe
 generalize Ua:([WJ.none,.ref L,.none,rawInt L,.none]++(if pl.isEmpty then Yv 6 WJ.none else pl)).toArray=LQ
 have htz:3<LQ.size:=by rw[<-Ua];simp
 have Mr:=Xl {cls:=.type "traceback",dict:=XW,data:=.fields LQ} Ms
 refine wpAny_setField Mr hd hsz ?_
 have hTe:=Nat.ne_of_gt (Xh Ms)
 have R2:=Obj.data_mapFields hd (·.setIfInBounds 1 (WI bF.objs.size))
 refine h _ bF.objs.size LQ (fun b o hb hbe hbF=>?_) (fun b o hb hbe=>?_) (Xp.get?_none_of_le (by rw[x.size];exact Yh _)) (Xi _ Mr (Obj.isFreed_of_fields R2)) ?_ htz
 ·rw[Xj _ _ (Ne.symm hbe)];exact Xl _ (x.keep b o hb hbF)
 ·refine aE (x.data b o hb) fun o' e' d'=>?_;refine⟨o',?_,d'⟩;rw[Xj _ _ (Ne.symm hbe)];exact Xl _ e'
 ·rw[Xj _ _ (Ne.symm hTe)];exact Xk bF rfl
theorem Ex.Np {t:Nat}(hk:∀b o,s.heap.get? b=XU o->¬C.fr b->h'.get? b=XU o)(hd:∀b o,s.heap.get? b=XU o->gh h' b o)(h0:∀b,C.fr b->(∃o,s.heap.get? b=XU o/\h'.get? b≠XU o)->C.h₀.get? b=XW):Ex C s {s with heap:=h',toks:=t}:=by
 refine⟨fun b o e x f=>hk b o e f,fun b o x e=>hd b o e,fun z=>?_⟩;have nf:=fun b o e n=>hk b o e (z.dT e n);refine⟨fun b o e t=>?_,fun c P p q m=>?_,z.gens,z.os,fun a f=>(z.alive a f).data fun o e=>hd a o e⟩
 ·have e1:=z.keep b o e t;by_cases f:C.fr b
  ·by_cases q:h'.get? b=XU o
   ·exact q
   ·have:=h0 b f ⟨o,e1,q⟩;rw[e]at this;rcases this with⟨⟩
  ·exact hk b o e1 f
 ·refine XR (z.tab c P p q m) (fun e=>?_) fun y0=>?_
  ·exact .inl (nf _ _ e nofun)
  ·refine aE y0 fun b e r=>?_;refine .inr ⟨b,nf _ _ e nofun,?_⟩;refine cQ r fun b' o vs t' e1 e2 e3 e4=>?_;exact⟨b',o,vs,t',e1,nf _ _ e2 (by rw[e3];nofun),e3,e4⟩
theorem yg {Q:Xq->WV->Prop}(h:aV M A body (fun f aG=>match f with| .next=>aV M A orelse Q E aG|f=>Q f aG) (fun e aG=>aV M A (noteFrame e ag) (fun y bW=>aV M A (setFlight e XW) (fun y mq=>aV M A (handleBy e ag (h₀::hs)) Q E mq) E bW) E aG) s):aV M A (tryStmt false body (h₀::hs) orelse [] ag) Q E s:=by
 unfold tryStmt;refine ab (ix (aH h (fun f aG bF=>?_) fun e aG bF=>?_))
 ·rcases f with⟨⟩<;>first|exact bF|exact aj bF
 ·exact ab (aH bF (fun y y fK=>ab fK) fun y y x=>x)
theorem lM {R:WZ->WV->Prop}(h:aV (Wu prog w) A (eval t ag) (fun c aG=>aV (Wu prog w) A (excMatches e c) (fun b bW=>R (.ok (if b then .brk else .next)) bW) (oQ (Wu prog w) A ag fun x bW=>R (.error x) bW) aG) (oQ (Wu prog w) A ag fun x aG=>R (.error x) aG) s):cy (Wu prog w) A (.handlers e [.ExceptHandler (XU t) XW [] pos] ag) R s:=by refine bj ?_ rfl;show aV _ A (do return Fin.done (<-(handleWith e ag [.ExceptHandler (XU t) XW [] pos]).onRaise (fun x=>do noteFrame x ag;theTreesLotGoes x))) _ _ s;refine ab (eC ?_);unfold handleWith;refine ab (aw (ab (aH h (fun c aG bF=>ab (aw (ab (aH bF (fun b bW fK=>aj (aj ?_)) fun y y x=>x)))) fun y y x=>x)));exact fK
theorem kT {R:WZ->WV->Prop}(h:aV (Wu prog w) A (setFlight e XW) (fun y aG=>aV (Wu prog w) A (execs (E0::body) ag) (fun f bW=>R (.ok f) bW) (oQ (Wu prog w) A ag fun x bW=>R (.error x) bW) aG) (oQ (Wu prog w) A ag fun x aG=>R (.error x) aG) s):cy (Wu prog w) A (.handlers e [.ExceptHandler XW XW (E0::body) pos] ag) R s:=by refine bj ?_ rfl;show aV _ A (do return Fin.done (<-(handleWith e ag [.ExceptHandler XW XW (E0::body) pos]).onRaise (fun x=>do noteFrame x ag;theTreesLotGoes x))) _ _ s;refine ab (eC ?_);unfold handleWith;exact ab (aw (ab (aH h (fun y aG bF=>aH bF (fun f bW fK=>aj fK) fun y y x=>x) fun y y x=>x)))
theorem vT {Q:Xq->WV->Prop}(Oh:isSubtype (.type T) (.type "BaseException")=pure true)(hnt:isSubtype (.type ((Manifest.find? T).elim "type" fun x=>x.metatype)) (.type "tuple")=pure false)(t7:isSubtype (.type X) (.type T)=pure true)(h:∀E',aV (Wu prog w) (A.mark (XU (.ref e))) (eval t ag) (fun c aG=>c=.type T/\aG.TypeIs (.ref e) X/\aV (Wu prog w) (A.mark (XU (.ref e))) (setFlight (.ref e) XW) (fun y bW=>∀E',aV (Wu prog w) (A.mark (XU (.ref e))) (execs (E0::F1) ag) Q E' bW) E' aG) E' s):aV (Wu prog w) A (handleBy (.ref e) ag (.ExceptHandler (XU t) XW (E0::F1) pos::rest)) Q E s:=by
 revert s X Oh hnt t7 h;refine no_implicit_lambda% (mX (bL (bL (bL (bL Fi pR) VV) VV) VV) ?_ w A e ag prog E0 pos F1 E Q rest t T);generalize gB _ _=tt;dsimp only[As];generalize tt.1.1.1.1=w,tt.1.1.1.2=A,tt.1.1.2.1=e,tt.1.1.2.2=ag,tt.1.2.1.1=prog,tt.1.2.1.2=E0,tt.1.2.2=pos,tt.2.1.1.1=F1,tt.2.1.1.2=E,tt.2.1.2=Q,tt.2.2.1.1=rest,tt.2.2.1.2=t,tt.2.2.2=T;intro s X Oh hnt t7 h;rw[handleBy];have RP:(XU (WI e):Option WJ)≠XU byPass:=by intro q;rcases q with⟨⟩
 refine ab (aA (fT (lM (aH (h _) (fun c aG bF=>?_) fun y y x=>x)) RP));refine bH bF ?_;rintro(rfl) hX hk;refine ao (wpAny_excMatches_type hX Oh hnt t7 ?_);refine ab (aj ?_);simp only[ZW,ZY,if_false];refine ab (aA (fT (kT (aH hk (fun y bW fK=>?_) fun y y x=>?_)) RP))
 ·exact aH (fK _) (fun f mq zA=>aj zA) fun y y x=>x
 ·exact x
theorem qY {Q:Xq->WV->Prop}(h:aV M A (execs body ag) (fun f aG=>match f with| .next=>aV M A (execs orelse ag) Q E aG|f=>Q f aG) (fun e aG=>aV M A (noteFrame e ag) (fun x bW=>aV M A (setFlight e XW) (fun x mq=>aV M A (handleBy e ag (h₀::hs)) Q E mq) E bW) E aG) s):aV M A (exec (.Try body (h₀::hs) orelse [] pos) ag) Q E s:=by rw[arm_exec_Try];exact ab (aw (yg h))
end
section
open PySem.Calls PySem.NumText
structure DB (C:Cx) (g:WS) (d:XO) (stg:WS->Option Int):Prop where
 map:∃f,C.h₀.MapOf (strKind pw Wd) d f/\∀x,(f x=XW/\stg x=XW)\/∃k t,f x=XU (.int k t)/\stg x=XU k
 mods:(d==sysModules)=false
 glob:C.mg g=XU (.ref d)
 nd:(g==("__debug__":WS))=false
noncomputable def zv (v:WS):Bool:=decide (v.length<=640)&&((numSeenOf v).length==(numTextOf v).length)&&decide ((reprText v).length<=100000)
def PS (g:WS)(stg:WS->Option Int)(x t t2:WS)(k j:Int):qG:=fun sc ae=>
 if sc.names.lookup ("int":WS)=XU .globalImplicit/\sc.names.lookup ("ValueError":WS)=XU .globalImplicit/\sc.names.lookup g=XU .globalImplicit then(nj ae x).bind fun v=>if zv v=true then match Ww v with
     |some i=>(b8 sc x (.val (.int i)) ae).bind fun ae=>(b8 sc t (.val (.int k)) ae).map .next|none=>(b8 sc t2 (.val (.int ((stg v).getD j))) ae).map .next
    else XW
 else XW
theorem BD (hC:C.Plain){v:WS}(hA:A.handled=XW)(e:bh ag sc)(S:SS C ai ag sc ae W ad s)(hv:fq s.heap ag z (.str v tk))(hf:sc.names.lookup ("int":WS)=XU .globalImplicit)(fL:zv v=true) (hQ:∀i t s',Ww v=XU i->Ex C s s'->Q (.int i t) s') (hE:Ww v=XW->∀h' e m tk,Xp.MadeExc s.heap h' e "ValueError" [m]->E (.ref e) {s with heap:=h',toks:=tk}):aV (Wu pw Wd) A (eval (.Call (.Name "int" fp) [.Name z yp,.Constant (.int 10) kb pb] [] cp) ag) Q E s:=by
 unfold zv at fL
 simp only[Z6,V0]at fL
 refine aZ fL fun y0 Ug=>?_;refine aZ y0 fun Jb mE=>?_
 refine ab (fh hC.ok e S.bV.bs hf (by decide) (hC.none "int" (by decide)) (hC.b (v:=.type "int") (by kernel_rfl) (by decide)) ?_)
 have iF:(backTo cp (starEach [.Name z yp,.Constant (.int 10) kb pb] ag)).any (·.1)=false:=rfl
 refine b6 (fun x q=>by rcases q with⟨⟩) iF ?_
 refine cf (C:=C) (P:=fun vs s'=>vs=[.str v tk,.int 10 s.toks]/\s'={s with toks:=s.toks+1}) iF (fun E Q q=>bU (jK e hv (bU (ao (Wm (dz (q _ {s with toks:=s.toks+1} .toks ⟨rfl,rfl⟩)))) rfl)) rfl) _ _ fun z' s3 x3 r3=>?_
 obtain⟨ps,kw⟩:=z'
 refine bH r3 ?_;rintro(rfl) (rfl) (rfl)
 cases hn:Ww v with
 |some i=>exact ao (uj Jb hn (hQ i _ _ hn .toks))
 |none=>exact xH Jb hn mE Ug hA fun h1 ea mm LV hm=>hE hn h1 ea mm LV hm
theorem F0 (hC:C.Plain){d:XO}(hT:DB C g d stg){z t2 v:WS}(so:(ap.endLine==p.line)=true)(e:bh ag sc)(S4:SS C ai ag sc ae W ad s4)(hD:dY ae)(hv:fq s4.heap ag z (.str v tk))(hg:sc.names.lookup g=XU .globalImplicit)(Df:b8 sc t2 (.val (.int ((stg v).getD j))) ae=XU cC){Q:Xq->WV->Prop}(hQ:∀s7,Goes C ai ag sc W s4 cC s7->Q .next s7):aV (Wu pw Wd) A (execs [.Assign [.Name t2 PX] (.Call (.Attribute (.Name g gp) "get" ap) [.Name z zp,.Constant (.int j) kj pj] [] p) TP] ag) Q E s4:=by
 revert ae ad cC TP hC hT so e S4 hD hv hg Df hQ;refine no_implicit_lambda% (FA (bL (bL (bL (bL (bL pR ya) pQ) VV) VV) VV) ?_ A C s4 ag j v p d E g t2 ap kj gp pj Q PX tk z zp stg sc W ai);generalize gB _ _=tt;dsimp only[Pg];generalize tt.1.1.1.1.1=A,tt.1.1.1.1.2=C,tt.1.1.1.2=s4,tt.1.1.2.1.1=ag,tt.1.1.2.1.2=j,tt.1.1.2.2=v,tt.1.2.1.1.1=p,tt.1.2.1.1.2=d,tt.1.2.1.2=E,tt.1.2.2.1.1=g,tt.1.2.2.1.2=t2,tt.1.2.2.2=ap,tt.2.1.1.1.1=kj,tt.2.1.1.1.2=gp,tt.2.1.1.2=pj,tt.2.1.2.1.1=Q,tt.2.1.2.1.2=PX,tt.2.1.2.2=tk,tt.2.2.1.1.1=z,tt.2.2.1.1.2=zp,tt.2.2.1.2=stg,tt.2.2.2.1.1=sc,tt.2.2.2.1.2=W,tt.2.2.2.2=ai;intro ae ad cC TP hC hT so e S4 hD hv hg Df hQ;refine g7 (bE ?_ rfl rfl);refine aE hT.map fun ff Zaf VO=>?_;have Uy:=S4.bV.bs;have Hx:s4.heap.MapOf (strKind pw Wd) d ff:=by refine qV Zaf fun o es ep ho hc r=>?_;exact⟨o,es,ep,Uy.keep d o ho (hC.ok.dF ho (by refine xR hc.1 ?_;nofun)),hc,r⟩
 refine ab (o3 hC.ok e Uy hg hT.nd hT.glob (ab (aw ?_)));delta methodCall;have HV:methodCallForm 2 (backTo p (starEach [.Name z zp,.Constant (.int j) kj pj] ag)) (backToKw p (keywordEach [] ag))=true:=rfl;refine xR HV ?_;refine ab (aA ?_);refine ao (Wx Hx.typeIs PySem.F.plainAttrs_dict PySem.F.slot_dict_get PySem.F.type_dict_get Hx.noDict ?_);have RQ:methodCallPos true (.Name g gp) ag ap p=pure p:=by delta methodCallPos;simp only[ZW,Bool.false_or,so,if_true]
 refine xR RQ ?_;refine ab (aj ?_);have RO:(backTo p (starEach [.Name z zp,.Constant (.int j) kj pj] ag)).any (·.1)=false:=rfl;refine b6 (fun x q=>by rcases q with⟨⟩) RO ?_;refine cf (C:=C) (P:=fun vs s'=>vs=[.str v tk,.int j s4.toks]/\s'={s4 with toks:=s4.toks+1}) RO (fun E Q q=>bU (jK e hv (bU (ao (Wm (dz (q _ {s4 with toks:=s4.toks+1} .toks ⟨rfl,rfl⟩)))) rfl)) rfl) _ _ fun z' s5 x5 r5=>?_;obtain⟨ps5,kw5⟩:=z';refine bH r5 ?_;rintro(rfl) (rfl) (rfl);have Mn:=Hx;refine ao (call_meetsIn PySem.F.slot_dict_get Mn.typeIs PySem.F.entry_dict_get (PySem.F.args_dict_get_3 _ _ _) (meets_dict_get_default (strKind pw Wd) d (strKind_is pw Wd v tk) hT.mods (.int j s4.toks)) ⟨ff,Mn,?_⟩);have S6:SS C ai ag sc ae W ad {s4 with toks:=s4.toks+1+1}:=S4.ex .toks;have rv:∀{h:Xp}{ak:XO->Prop},Rep h ak ((ff v).getD (.int j s4.toks)) (.int ((stg v).getD j)):=by
  intro h ak;refine XR (VO v) (fun y0=>?_) fun y1=>?_
  ·refine aZ y0 fun q1 q2=>?_;refine xR q1 (xR q2 ?_);exact .int _ _
  ·refine fE y1 fun k' t' q1 q2=>?_;refine xR q1 (xR q2 ?_);exact .int _ _
 refine ab (aw (fv e S6 hD Df rv fun s7 m7 S7 Se x=>?_));exact gi (hQ _ ⟨W,ad,(Mv.jZ (.toks)).trans m7,S7,Se⟩)
theorem JC {t:WS}{k:Int}(e:bh ag sc)(S:SS C ai ag sc ae W ad s)(hD:dY ae)(hb:b8 sc t (.val (.int k)) ae=XU LP){Q:Xq->WV->Prop}(hQ:∀s7,Goes C ai ag sc W s LP s7->Q .next s7):aV (Wu pw Wd) A (execs [.Assign [.Name t tp] (.Constant (.int k) kk pk) Ft] ag) Q E s:=by refine g7 (bE (ao (Wm ?_)) rfl rfl);have S5:SS C ai ag sc ae W ad {s with toks:=s.toks+1}:=S.ex .toks;refine ab (aw (fv e S5 hD hb (.int _ _) fun s6 m6 S6 hD6 x=>?_));exact gi (hQ _ ⟨W,ad,(Mv.jZ (.toks)).trans m6,S6,hD6⟩)
theorem EX (hA:dy C n A)(hK:lg C cd name ag A)(S:SS C ai ag sc ae W ad s)(hm:Xp.MadeExc s.heap h1 ea "ValueError" [mm]){Q:Unit->WV->Prop}(hQ:∀s3,Ex C s s3->s3.TypeIs (.ref ea) "ValueError"->(∀{A E}{Q:Unit->WV->Prop},(∀s4,Ex C s s4->Q () s4)->aV (Wu pw Wd) A (setFlight (.ref ea) XW) Q E s3)->Q () s3):aV (Wu pw Wd) A (noteFrame (.ref ea) ag) (fun x s2=>aV (Wu pw Wd) A (setFlight (.ref ea) XW) Q E s2) E {s with heap:=h1,toks:=LV}:=by
 refine aM hK.top fun fs0 Dc=>?_;have hfs:∀f∈ag::fs0,f.scope.kind=.function/\∃L,f.frame=XU L/\C.fr L/\C.h₀.get? L=XW:=by refine aE hA.frames fun fs q1 q2=>?_;simp only[Dc]at q1;obtain rfl:=XT q1;exact q2
 have fa:∀f∈ag::fs0,f.scope.kind=.function/\∃L,f.frame=XU L/\(C.fr L/\C.h₀.get? L=XW)/\gn h1 L:=fun f Ao=>by refine ZU fun hG=>?_;obtain⟨a1,L,a2,a3,a4⟩:=hfs f Ao;refine hG ?_;refine jX (S.bV.bs.alive L a3) fun o es ep q1 q2=>?_;exact⟨a1,L,a2,⟨a3,a4⟩,o,es,ep,hm.keeps _ _ q1,q2⟩
 refine eB hm.there fun tt hea x x=>?_;have R1:=hm.new;have nea:¬(C.fr ea/\C.h₀.get? ea=XW):=fun q=>by refine jX (S.bV.bs.alive ea q.1) fun o es ep q1 q2=>?_;replace q1:=R1.symm.trans q1;exact aa q1
 refine ao (wM Dc hK.frame fa hea nea rfl rfl fun h2 tb LQ k2 d2 htb he2 RD Ua=>?_);have hd2:=Obj.data_mapFields (o:={cls:=.type "ValueError",data:=.fields #[.ref tt,.none,.none,.none,.bool false,.none]}) rfl (·.setIfInBounds 1 (WI tb));have VM:tb≠ea:=fun q=>by have BH:=htb;replace BH:=hea▸q▸BH;rcases BH with⟨⟩
 refine ao (wpAny_setFlight_none he2 hd2 rfl RD rfl Ua ?_);have hd3:=Obj.data_mapFields (o:={cls:=.type "traceback",dict:=XW,data:=.fields LQ}) rfl (·.setIfInBounds 3 WJ.none);have he3:(h2.update tb (Obj.mapFields (·.setIfInBounds 3 .none))).get? ea=XU (Obj.mapFields (·.setIfInBounds 1 (.ref tb)) {cls:=.type "ValueError",data:=.fields #[.ref tt,.none,.none,.none,.bool false,.none]}):=(Xj _ _ VM).trans he2;have VN:=Xi (Obj.mapFields (·.setIfInBounds 3 .none)) RD (Obj.isFreed_of_fields hd3);have old:∀{b:XO}{o:Obj},s.heap.get? b=XU o->b≠ea/\b≠tb:=fun{b o}q=>by refine⟨fun z=>(by replace q:=R1▸z▸q;exact aa q),fun z=>?_⟩;have BH:=htb;replace BH:=(hm.keeps _ _ q)▸z.symm▸BH;rcases BH with⟨⟩
 have xE:∀(h':Xp)(tk:Nat),(∀b,b≠tb->h'.get? b=h2.get? b)->Ex C s {s with heap:=h',toks:=tk}:=fun h' tk hh=>by
  have Pu:=fun b o q f=>(hh b (old q).2).trans (k2 b o (hm.keeps _ _ q) (old q).1 f);refine Ex.Np (fun b o q f=>Pu b o q fun z=>f z.1) (fun b o q=>?_) fun b f⟨o,q1,q2⟩=>?_
  ·refine aE (d2 b o (hm.keeps _ _ q) (old q).1) fun o' e' d'=>?_;exact⟨o',(hh b (old q).2).trans e',d'⟩
  ·cases z:C.h₀.get? b with|none=>rfl|some o'=>exact absurd (Pu b o q1 fun w=>Option.some_ne_none _ (z.symm.trans w.2)) q2
 have xN:Ex C s {s with heap:=h2.update tb (Obj.mapFields (·.setIfInBounds 3 .none)),toks:=LV}:=xE _ _ fun b nb=>Xj _ _ (Ne.symm nb);exact hQ _ xN ⟨_,he3,rfl⟩ fun{A E Q}hq=>ao (wpAny_setFlight_none he3 hd2 rfl VN hd3 (by refine xR Array.size_setIfInBounds ?_;exact Ua) (hq _ (xE _ _ fun b nb=>(Xj _ _ (Ne.symm nb)).trans (Xj _ _ (Ne.symm nb)))))
theorem M5 (hC:C.Plain){d:XO}(hT:DB C g d stg){z t t2:WS}{k j:Int}(so:(ap.endLine==p.line)=true):Am C n (lg C cd name) (.Try [.Assign [.Name z xp] (.Call (.Name "int" fp) [.Name z yp,.Constant (.int 10) kb pb] [] cp) ap1,.Assign [.Name t tp] (.Constant (.int k) kk pk) Ft] [.ExceptHandler (XU (.Name "ValueError" exp)) XW [.Assign [.Name t2 PX] (.Call (.Attribute (.Name g gp) "get" ap) [.Name z zp,.Constant (.int j) kj pj] [] p) TP] hp] [] [] pos,PS g stg z t t2 k j):=by
 intro A ag hA hK ai sc ae W ad s fl e S hD h E Q hQ;revert n pos stg cd name xp fp yp kb pb cp ap1 tp kk pk Ft exp hp hC d hT so hA hK ad fl e S hD h hQ;refine no_implicit_lambda% (FA (bL (bL (bL (bL (bL pR ya) pQ) VV) VV) VV) ?_ A C s sc ag j z t2 ai g ae W p gp PX kj ap zp pj TP Q t k E);generalize gB _ _=tt;dsimp only[Pg];generalize tt.1.1.1.1.1=A,tt.1.1.1.1.2=C,tt.1.1.1.2=s,tt.1.1.2.1.1=sc,tt.1.1.2.1.2=ag,tt.1.1.2.2=j,tt.1.2.1.1.1=z,tt.1.2.1.1.2=t2,tt.1.2.1.2=ai,tt.1.2.2.1.1=g,tt.1.2.2.1.2=ae,tt.1.2.2.2=W,tt.2.1.1.1.1=p,tt.2.1.1.1.2=gp,tt.2.1.1.2=PX,tt.2.1.2.1.1=kj,tt.2.1.2.1.2=ap,tt.2.1.2.2=zp,tt.2.2.1.1.1=pj,tt.2.2.1.1.2=TP,tt.2.2.1.2=Q,tt.2.2.2.1.1=t,tt.2.2.2.1.2=k,tt.2.2.2.2=E;intro n pos stg cd name xp fp yp kb pb cp ap1 tp kk pk Ft exp hp hC d hT so hA hK ad fl e S hD h hQ;refine aQ h fun hnm h=>au h fun v hx h=>aQ h fun fL h=>?_;refine bH hnm fun hf hex hg=>?_;refine aE (S.bV.lo z _ (uL hx)) fun vv hv hr=>?_;refine aM hr.ku ?_;rintro tk (rfl);refine qY (g7 (bE (BD hC hA.handled e S hv hf fL (fun i t' s1 hn x1=>?_) fun hn h1 ea mm LV hm=>?_) rfl rfl))
 ·rw[hn]at h;refine au h fun cC Df h=>bx h fun LP KD ve=>?_;subst ve;refine ab (aw (fv e (S.ex x1) hD Df (.int _ _) fun s4 m4 S4 Ou y=>JC e S4 Ou KD fun s7⟨W7,ad7,m7,S7,Se⟩=>gi (hQ _ _ ⟨rfl,W7,ad7,?_,S7,Se⟩)));exact((Mv.jZ x1).trans m4).trans m7
 ·rw[hn]at h;refine bx h fun cC Df ve=>?_;subst ve;refine EX hA hK S hm fun s3 x3 hT3 ON=>vT (X:="ValueError") (T:="ValueError") (by rw[Wv];kernel_rfl) (by rw[Wv];kernel_rfl) (by rw[Wv];kernel_rfl) fun E'=>?_;refine fh hC.ok e (x3.bs S.bV.bs) hex (by decide) (hC.none "ValueError" (by decide)) (hC.b (by kernel_rfl) (by decide)) ⟨rfl,hT3,ON fun s4 x4 E''=>?_⟩;exact F0 hC hT so e (S.ex x4) hD (hv.ex S.bV.bs x4) hg Df fun s7⟨W7,ad7,m7,S7,Se⟩=>hQ _ _ ⟨rfl,W7,ad7,(Mv.jZ x4).trans m7,S7,Se⟩
end
section
variable {Ψ:pD} {st:WT} {sts:List WT} {fl:Fl}
theorem bP:cz Φ Ψ sc [] ae=XU (.next ae):=rfl
theorem ar (h:mz (Ψ sc st ae) (ex Φ Ψ sc st ae)=XU (.next bl)):cz Φ Ψ sc (st::sts) ae=cz Φ Ψ sc sts bl:=V4 (fun o:Option Fl=>o.bind (oq (cz Φ Ψ sc sts))) h
set_option tactic.hygienic true in
theorem er (h:mz (Ψ sc st ae) (ex Φ Ψ sc st ae)=XU fl)(hf:∀v,fl≠.next v):cz Φ Ψ sc (st::sts) ae=XU fl:=by
 refine(V4 (fun o:Option Fl=>o.bind (oq (cz Φ Ψ sc sts))) h).trans ?_;rcases fl with⟨⟩;case next v=>exact absurd rfl (hf v)
 all_goals (rfl)
theorem dg (h:Ψ sc st ae=XU fl):mz (Ψ sc st ae) (ex Φ Ψ sc st ae)=XU fl:=by rw[h];rfl
theorem ax (h0:Ψ sc st ae=XW)(h:ex Φ Ψ sc st ae=XU fl):mz (Ψ sc st ae) (ex Φ Ψ sc st ae)=XU fl:=by rw[h0];exact h
theorem fA {b o:List WT}(h:xt Φ sc t ae=XU (c,bl)):ex Φ Ψ sc (.If t b o p) ae=cz Φ Ψ sc (if c then b else o) bl:=by refine(V4 (fun x:Option (Bool×az)=>x.bind fun r=>cn r.1 (cz Φ Ψ sc b r.2) (cz Φ Ψ sc o r.2)) h).trans ?_;rcases c with⟨⟩<;>rfl
theorem cH (h:dQ Φ sc t ae (ev Φ sc t ae)=XU c):xt Φ sc t ae=XU (c,ae):=by unfold xt;rw[h]
theorem fM (h:ev Φ sc t ae=XU d):p9 Φ sc t ae=XU (d,ae):=by unfold p9;rw[h]
theorem xm (hz:kc Φ sc it ae=XW)(h:p9 Φ sc it ae=XU (src,v1))(hi:bM src=XU av):ex Φ Ψ sc (.For t it b [] p) ae=cP (fun d vs=>match bJ sc t d vs with
      |none=>XW|some vs=>cz Φ Ψ sc b vs) av v1:=by
 show ue Φ sc t it (fun vs=>cz Φ Ψ sc b vs) ae=_
 unfold ue
 rw[hz]
 exact(V4 (fun x:Option (Dat×az)=>x.bind fun r=>(bM r.1).bind fun av=>cP (fun d vs=>match bJ sc t d vs with
      |none=>XW|some vs=>cz Φ Ψ sc b vs) av r.2) h).trans (V4 (fun x:Option (List Dat)=>x.bind fun av=>cP (fun d vs=>match bJ sc t d vs with|none=>XW|some vs=>cz Φ Ψ sc b vs) av v1) hi)
theorem d0 (h:p9 Φ sc t ae=XU (d,v1)):ex Φ Ψ sc (.Return (XU t) p) ae=XU (.ret d):=V4 (fun x:Option (Dat×az)=>x.map fun r:Dat×az=>Fl.ret r.1) h
theorem zM:ex Φ Ψ sc (.While t b [] p) ae=tO (fun vs=>dQ Φ sc t vs (ev Φ sc t vs)) (fun vs=>cz Φ Ψ sc b vs) Φ.fuel ae:=rfl
theorem ik {step:Dat->az->Option Fl}{d:Dat}{ds:List Dat}(h:step d ae=XU (.next bl)):cP step (d::ds) ae=cP step ds bl:=V4 (fun o:Option Fl=>o.bind (iN (cP step ds))) h
theorem zh:∀{ae:az},ae.lookup x=XU sl->(aS ae).lookup x=XU sl.i8:=by
 intro ae;induction ae with
 |nil=>intro h;exact aa h
 |cons y0 r ih=>
  intro h;obtain⟨y,t⟩:=y0;have e:aS ((y,t)::r)=(y,t.i8)::aS r:=rfl;rw[e,YT];rw[YT]at h;cases hb:x==y with
  |true=>rw[hb]at h;obtain rfl:=XT h;rfl
  |false=>rw[hb]at h;exact ih h
noncomputable def G2 (Φ:fN)(sc:WY)(x:WS)(o:Option Slot):Option Dat:=match o with
  |some (.val d)=>XU d|some (.own _)=>XW|none=>if sc.names.lookup x=XU .globalImplicit then Φ.glob x else XW
theorem KZ (h:ae.lookup x=XU (.own d)):p9 Φ sc (.Name x p) ae=XU (d,aS ae):=by have h1:ev Φ sc (.Name x p) ae=XW:=V4 (G2 Φ sc x) h;have h2:ev Φ sc (.Name x p) (aS ae)=XU d:=V4 (G2 Φ sc x) (zh h);unfold p9;rw[h1,h2];rfl
def dB (bb:XO)(fuel:Nat):fN where
 fn _:=XW;tC f:=if f="len" then XU iu else if f="sum" then XU sumF else if f="str" then XU DZ else if f="ord" then XU JX else if f="chr" then XU Lm else if f="bytes" then XU px else if f="range" then XU eg else if f="isinstance" then XU Md else XW;oR m:=if m="split" then rl bb else if m="join" then zo else if m="index" then oW else fun y y=>XW;glob x:=if x="_twin_re_1" then XU (.top bb)else if x="bytes" then XU (.typ "bytes")else XW;fuel:=fuel
noncomputable def fj (p:W8)(i:Nat):List WT:=match p.main.body[i]? with|some (.FunctionDef _ _ b _ _ _ _ _ _ _)=>b|_=>[]
noncomputable def dN (p:W8)(i:Nat):WY:=match p.main.body[i]? with|some (.FunctionDef _ _ _ _ _ _ sc _ _ _)=>sc|_=>default
noncomputable def argsAt (p:W8)(i:Nat):Arguments:=match p.main.body[i]? with|some (.FunctionDef _ a _ _ _ _ _ _ _ _)=>a|_=>⟨[],[],XW,[],[],XW,[]⟩
noncomputable def cM:Pos:=⟨0,0,0,0⟩
def aB (b:List WT)(i:Nat):WT:=b.getD i (.Pass cM)
noncomputable def bg:WT->List WT| .For _ _ b _ _=>b|_=>[]
def bO:WT->Expr| .For _ it _ _ _=>it|_=>.Name "" cM
def bR:WT->Expr| .For t _ _ _ _=>t|_=>.Name "" cM
def dO:WT->Pos| .For _ _ _ _ p=>p|_=>cM
def aN:WT->Expr| .If t _ _ _=>t|_=>.Name "" cM
noncomputable def bN:WT->List WT| .If _ b _ _=>b|_=>[]
def gy:WT->Pos| .If _ _ _ p=>p|_=>cM
def cB:WT->Expr| .While t _ _ _=>t|_=>.Name "" cM
noncomputable def jz:WT->List WT| .While _ b _ _=>b|_=>[]
def cu:WT->Expr| .Return (XU e) _=>e|_=>.Name "" cM
def gD:WT->Pos| .Return _ p=>p|_=>cM
end
theorem jO {k:WS}{o:WS->Option (List Dat->Option Dat)}(h1:iK C n k Ox)(h2:∀{f g},o f=XU g->iK C n f g)(h:(if f=k then XU Ox else o f)=XU g):iK C n f g:=by
 by_cases e:f=k
 ·rw[V7 e]at h;obtain rfl:=XT h;exact e▸h1
 ·rw[V6 e]at h;exact h2 h
theorem O2 (h:(XW:Option (List Dat->Option Dat))=XU g):iK C n f g:=aa h
theorem nz {k:WS}{o:WS->Dat->List Dat->Option Dat}(h1:mS C n k Ox)(h2:∀m,mS C n m (o m))(m:WS):mS C n m (if m=k then Ox else o m):=by
 by_cases e:m=k
 ·rw[V7 e];exact e▸h1
 ·rw[V6 e];exact h2 m
theorem C0 (m:WS):mS C n m fun x x=>XW:=fun h=>aa h
def tJ (C:Cx)(x:WS)(d:Dat):Prop:=∃v,(C.mg x=XU v\/(C.mg x=XW/\C.mb x=XU v))/\(x==("__debug__":WS))=false/\∀{s:WV}{ak:XO->Prop},Bs C s->bw C ak s->Rep s.heap ak v d
theorem xb {k:WS}{o:WS->Option Dat}(h1:tJ C k ZaD)(h2:∀{x d},o x=XU d->tJ C x d)(h:(if x=k then XU ZaD else o x)=XU d):tJ C x d:=by
 by_cases e:x=k
 ·rw[V7 e]at h;obtain rfl:=XT h;exact e▸h1
 ·rw[V6 e]at h;exact h2 h
theorem Dh (h:(XW:Option Dat)=XU d):tJ C x d:=aa h
theorem sE (hC:C.Plain):tJ C "bytes" (.typ "bytes"):=⟨.type "bytes",.inr ⟨hC.none "bytes" (by decide),hC.b (by kernel_rfl) (by decide)⟩,by decide,fun x x=>.typ _⟩
theorem IL (hC:C.Plain)(h:(dB bb fuel).tC f=XU g):iK C n f g:=jO (LD hC) (jO (LA hC) (jO (LB hC) (jO (LC hC) (jO (LF hC) (jO (E3 hC) (jO (E2 hC) (jO (tB hC) O2))))))) h
theorem xh (hC:C.Plain)(hp:Re.gM C.h₀ bb c)(hg:C.mg "_twin_re_1"=XU (.ref bb)):b9 C (dB bb fuel) n where
 fn h:=aa h;tC h:=IL hC h;glob h:=xb ⟨_,.inl hg,by decide,fun x x=>.top _⟩ (xb (sE hC) Dh) h;oR {m}:=nz (Bo hC.ok hp) (nz uW (nz rW C0)) m
noncomputable def fN.and (Φ:fN)(f:WS)(g:List Dat->Option Dat):fN:={Φ with fn:=fun x=>if x=f then XU g else Φ.fn x}
def mT (C:Cx)(n:Nat)(f:WS)(g:List Dat->Option Dat):Prop:=∃a o fd,C.mg f=XU (.ref a)/\(f==("__debug__":WS))=false/\¬C.T a/\C.h₀.get? a=XU o/\o.data=.func fd/\∀{A s ak vs ds d},dy C n A->Bs C s->bw C ak s->aK s.heap ak vs ds->g ds=XU d->eN C A ak (WA (.ref a) vs) d s
theorem b9.and (h:b9 C Φ n)(hf:mT C n f g):b9 C (Φ.and f g) n where
 fn {f' g'} e:=by
  by_cases q:f'=f
  ·have:=(V7 q).symm.trans e;obtain rfl:=XT this;exact q▸hf
  ·exact h.fn ((V6 q).symm.trans e)
 tC:=h.tC;glob:=h.glob;oR:=h.oR
section
variable {Ψ:pD}
theorem F5 (hC:C.Plain):ou C n where
 chg h _ _ r:=Ip h r;sto h _ bs V hp r rj rd hQ:=F4 h bs V hp r rj rd hQ;new h:=GY hC h
theorem qH (h:Φ.tC "zip"=XW):kc Φ sc it ae=XW:=by unfold kc;cases lF it with|none=>rfl|some z=>refine V6 fun q=>?_;have q2:=q.2.1;rw[q.1,h]at q2;exact ZX q2
theorem qU (h:Φ.tC "zip"=XW):vL C Φ Ψ A:=by intro ai ag sc t it body pos e1 e2 xs ys ae W ad s fl e S hD hz;rw[qH h]at hz;exact aa hz
theorem Cx.Plain.at (h:C.Plain)(fr:XO->Prop):(C.at fr).Plain:=⟨h.ok.at fr,h.none⟩
def dv (C:Cx)(f:WS)(params:Arguments)(body:List WT)(scope:WY)(cd:WJ):Prop:=∃a o pm doc,C.mg f=XU (.ref a)/\C.h₀.get? a=XU o/\o.cls≠.none/\o.data=.func (Xy f params body scope pm cd doc)/\C.h₀.CodeRec cd f
theorem uf (hC:C.Plain)(hF:∀fr,b9 (C.at fr) Φ n)(hz:Φ.tC "zip"=XW)(hD:dv C f params body scope cd)(Jc:(f==("__debug__":WS))=false) (hP:∀fr,dP (C.at fr) n (lg (C.at fr) cd f) Ψ) (C7:j9 scope) (hx:xs.Nodup) (hk:∀x∈xs,(scope.names.lookup x=XU .local\/scope.names.lookup x=XU .cell)/\(x==("__debug__":WS))=false/\(x==("__classdict__":WS))=false) (nN:∀vs pm doc,xs.length=vs.length->bindArgs (Xy f params body scope pm cd doc) ⟨vs,[]⟩=pure (xs.zip vs)) (hg:∀ds d,g ds=XU d->xs.length=ds.length/\cz Φ Ψ scope body (bI xs ds)=XU (.ret d)):mT C (n+1) f g:=by
 refine cQ hD fun a o pm doc h1 h2 h3 y0=>?_;refine aZ y0 fun h4 h5=>?_
 refine⟨a,o,_,h1,Jc,hC.ok.dF h2 h3,h2,h4,fun{A s ak vs ds d}hA bs V rs h=>?_⟩
 refine aZ (hg ds d h) fun hl he=>?_
 exact Dp hC.ok (fun fr=>uT) hF (fun fr=>F5 (hC.at fr)) (fun y=>qU hz) (fun w9 hK=>hP _ w9 hK) (hC.ok.dF h2 h3) h2 h4 h5 C7 hx hk hl (nN vs pm doc (hl.trans rs.length.symm)) hA bs V rs he
end
open PySem.NumText
section
variable {stg:WS->Option Int}
def eJ:List WT:=fj pw VE
def bG:WY:=dN pw VE
def ey:List WT:=bg (aB eJ 2)
def FL:WT:=aB (bN (aB ey 0)) 0
noncomputable def lL (stg:WS->Option Int):pD:=lR [(FL,PS "_ver_stages" stg "v" "t" "t" 100 0)]
def ed (x:WS):Bool:=Txt.contains "._+-" x||zv x
noncomputable def cE (stg:WS->Option Int)(x:WS):List Dat:=if Txt.contains "._+-" x then[]else match Ww x with
  |some i=>[.int 100,.int i]|none=>[.int ((stg x).getD 0),.str x]
theorem SO (h:Txt.contains "._+-" x=false):dQ Φ bG (aN (aB ey 0)) (("v",.val (.str x))::ae) (ev Φ bG (aN (aB ey 0)) (("v",.val (.str x))::ae))=XU true:=by
 have h1:dQ Φ bG (aN (aB ey 0)) (("v",.val (.str x))::ae) (ev Φ bG (aN (aB ey 0)) (("v",.val (.str x))::ae))=XU (!Txt.contains "._+-" x):=by rfl
 rw[h1,h];rfl
theorem OS (h:Txt.contains "._+-" x=true):dQ Φ bG (aN (aB ey 0)) (("v",.val (.str x))::ae) (ev Φ bG (aN (aB ey 0)) (("v",.val (.str x))::ae))=XU false:=by
 have h1:dQ Φ bG (aN (aB ey 0)) (("v",.val (.str x))::ae) (ev Φ bG (aN (aB ey 0)) (("v",.val (.str x))::ae))=XU (!Txt.contains "._+-" x):=by rfl
 rw[h1,h];rfl
def KV:WT:=aB (bN (aB ey 0)) 1
theorem Dn:bN (aB ey 0)=[FL,KV]:=by rfl
theorem Ia:lL stg bG FL ((("v":WS),.val (.str x))::ae)=(if zv x=true then match Ww x with
  |some i=>(b8 bG "v" (.val (.int i)) ((("v":WS),.val (.str x))::ae)).bind fun ae=>(b8 bG "t" (.val (.int 100)) ae).map .next|none=>(b8 bG "t" (.val (.int ((stg x).getD 0))) ((("v":WS),.val (.str x))::ae)).map .next
  else XW):=(dC rfl).trans rfl
theorem Ic:ex Φ (lL stg) bG KV ((("t":WS),.val d1)::(("v":WS),.val d2)::V)=((ownOf V "result").bind fun a=>(ny "extend" a [.tuple [d1,d2]]).map fun a'=>.next ((("result":WS),.own a')::(("t":WS),.val d1)::(("v":WS),.val d2)::V)):=by rfl
theorem GJ (h:V.lookup x=XU (.own d)):ownOf V x=XU d:=by unfold ownOf;rw[h]
theorem yX (h:aR.length+2<=aW):ny "extend" (.list aR) [.tuple [d1,d2]]=XU (.list (aR++[d1,d2])):=by unfold ny;dsimp only;rw[V6 (by decide),V7 rfl];exact V7 h
theorem Lg (hr:ae.lookup ("result":WS)=XU (.own (.list aR)))(fL:ed x=true)(hl:aR.length+2<=aW):∃v',cz Φ (lL stg) bG ey (("v",.val (.str x))::ae)=XU (.next v')/\v'.lookup ("result":WS)=XU (.own (.list (aR++cE stg x))):=by
 have hsh:ey=[.If (aN (aB ey 0)) (bN (aB ey 0)) [] _]:=rfl;rw[hsh];cases hc:Txt.contains "._+-" x with
 |true=>
  refine⟨(("v":WS),Slot.val (.str x))::ae,?_,?_⟩
  ·rw[ar (ax rfl (fA (cH (OS hc))))];rfl
  ·unfold cE;rw[hc,V7 rfl,ZF];exact hr
 |false=>
  unfold ed at fL;rw[hc,Bool.false_or]at fL;have hif:∀{v'},cz Φ (lL stg) bG (bN (aB ey 0)) ((("v":WS),.val (.str x))::ae)=XU (.next v')->cz Φ (lL stg) bG ey ((("v":WS),.val (.str x))::ae)=XU (.next v'):=fun{v'}h=>by have e1:∀q,ex Φ (lL stg) bG (.If (aN (aB ey 0)) (bN (aB ey 0)) [] q) ((("v":WS),.val (.str x))::ae)=XU (.next v'):=fun q=>(fA (cH (SO hc))).trans h;show cz Φ (lL stg) bG [.If (aN (aB ey 0)) (bN (aB ey 0)) [] _] _=_;rw[ar (ax rfl (e1 _))];rfl
  rw[<-hsh];have HA:∀{d:Slot}{k:WS},(k==("result":WS))=false->ae.lookup ("result":WS)=((k,d)::ae).lookup ("result":WS):=fun{d k}hk=>by
   rw[YT];have:(("result":WS)==k)=false:=by rw[V5]at hk ⊢;exact fun q=>hk q.symm
   rw[this]
  cases hi:Ww x with
  |some i=>
   have h1:lL stg bG FL ((("v":WS),.val (.str x))::ae)=XU (.next ((("t":WS),.val (.int 100))::(("v":WS),.val (.int i))::(("v":WS),.val (.str x))::ae)):=by rw[Ia,V7 fL,hi];rfl
   have h2:ex Φ (lL stg) bG KV ((("t":WS),.val (.int 100))::(("v":WS),.val (.int i))::(("v":WS),.val (.str x))::ae)=XU (.next ((("result":WS),.own (.list (aR++[.int 100,.int i])))::(("t":WS),.val (.int 100))::(("v":WS),.val (.int i))::(("v":WS),.val (.str x))::ae)):=by rw[Ic,GJ ((HA (by decide)).symm.trans hr),XZ,yX hl];rfl
   have hb:=(ar (dg h1)).trans (ar (sts:=[]) (ax rfl h2));refine⟨_,hif (Dn▸hb),?_⟩;unfold cE;rw[hc,V6 ZX,hi];exact aU
  |none=>
   have h1:lL stg bG FL ((("v":WS),.val (.str x))::ae)=XU (.next ((("t":WS),.val (.int ((stg x).getD 0)))::(("v":WS),.val (.str x))::ae)):=by rw[Ia,V7 fL,hi];rfl
   have h2:ex Φ (lL stg) bG KV ((("t":WS),.val (.int ((stg x).getD 0)))::(("v":WS),.val (.str x))::ae)=XU (.next ((("result":WS),.own (.list (aR++[.int ((stg x).getD 0),.str x])))::(("t":WS),.val (.int ((stg x).getD 0)))::(("v":WS),.val (.str x))::ae)):=by rw[Ic,GJ hr,XZ,yX hl];rfl
   have hb:=(ar (dg h1)).trans (ar (sts:=[]) (ax rfl h2));refine⟨_,hif (Dn▸hb),?_⟩;unfold cE;rw[hc,V6 ZX,hi];exact aU
theorem Li:∀(xs:List WS)(aR:List Dat)(ae:az),ae.lookup ("result":WS)=XU (.own (.list aR))->(∀x∈xs,ed x=true)->aR.length+2*xs.length<=aW->∃v',cP (fun d vs=>match bJ bG (bR (aB eJ 2)) d vs with
      |none=>XW|some vs=>cz Φ (lL stg) bG ey vs) (xs.map .str) ae=XU (.next v')/\v'.lookup ("result":WS)=XU (.own (.list (aR++xs.flatMap (cE stg)))):=by
 intro xs
 induction xs with
 |nil=>intro aR ae hr _ _;exact⟨ae,rfl,by simpa using hr⟩
 |cons x xs ih=>
  intro aR ae hr fL hl;refine aE (Lg (Φ:=Φ) (stg:=stg) hr (fL x YJ) (by simp at hl;exact br 0x202a0b1291b02d0b12 rfl hl)) fun v1 h1 r1=>?_;have N5:(cE stg x).length<=2:=by
   unfold cE;split
   ·simp
   ·split<;>simp
  refine aE (ih (aR++cE stg x) v1 r1 (fun y hy=>fL y (YK _ hy)) (by simp at hl ⊢;exact cX 0x2102d30bb102a31291b02d0b13 rfl hl N5)) fun v2 h2 r2=>?_;refine⟨v2,?_,by simpa using r2⟩;rw[YQ,ik]
  ·exact h2
  ·exact h1
noncomputable def OT (bb:XO)(t:WS):az:=[(("result":WS),.own (.list [])),(("component_re":WS),.val (.top bb)),(("version":WS),.val (.str t))]
theorem Ib:eJ=[aB eJ 0,aB eJ 1,.For (bR (aB eJ 2)) (bO (aB eJ 2)) ey [] (dO (aB eJ 2)),.Return (XU (.Name "result" (cu (aB eJ 3)).pos)) (gD (aB eJ 3))]:=by rfl
theorem OR {t:WS}(ht:t.length<=65536)(fL:∀x∈eY t,ed x=true)(hl:2*(eY t).length<=aW):cz (dB bb fuel) (lL stg) bG eJ (bI ["version"] [.str t])=XU (.ret (.list ((eY t).flatMap (cE stg)))):=by
 have h0:ex (dB bb fuel) (lL stg) bG (aB eJ 0) (bI ["version"] [.str t])=XU (.next [(("component_re":WS),.val (.top bb)),(("version":WS),.val (.str t))]):=by rfl
 have h1:ex (dB bb fuel) (lL stg) bG (aB eJ 1) [(("component_re":WS),.val (.top bb)),(("version":WS),.val (.str t))]=XU (.next (OT bb t)):=by rfl
 have h2:ev (dB bb fuel) bG (bO (aB eJ 2)) (OT bb t)=rl bb (.top bb) [.str t]:=by rfl
 have h3:rl bb (.top bb) [.str t]=XU (.list ((eY t).map .str)):=by unfold rl;exact V7 ⟨rfl,ht⟩
 refine aE (Li (Φ:=dB bb fuel) (stg:=stg) (eY t) [] (OT bb t) (by rfl) fL (by simpa using hl)) fun v' hf hr=>?_;rw[Ib,ar (ax (by rfl) h0),ar (ax (by rfl) h1),ar (ax (by rfl) ((xm (by rfl) (fM (h2.trans h3)) rfl).trans hf))];exact er (ax (by rfl) (d0 (KZ hr))) (fun v q=>by rcases q with⟨⟩)
def OU (stg:WS->Option Int):List Dat->Option Dat:=pB fun d=>(IS d).bind fun t=>if(decide (t.length<=65536)&&(eY t).all ed&&decide (2*(eY t).length<=aW))=true then XU (.list ((eY t).flatMap (cE stg)))else XW
theorem SM:j9 bG:=⟨rfl,rfl,rfl,by decide +kernel,by decide +kernel⟩
theorem SN (hC:C.Plain)(hp:Re.gM C.h₀ bb c)(hg:C.mg "_twin_re_1"=XU (.ref bb)){d:XO}(hT:DB C "_ver_stages" d stg)(hD:dv C "_comparable_version" (argsAt pw VE) eJ bG cd):mT C (n+1) "_comparable_version" (OU stg):=by
 refine uf (Φ:=dB bb 0) (Ψ:=lL stg) hC (fun fr=>xh (hC.at fr) hp hg) rfl hD (by decide) (fun fr=>?_) SM (xs:=[("version":WS)]) (by decide) (by decide +kernel) (fun vs pm doc hl=>?_) (fun ds d h=>?_)
 ·exact @q9 (C.at fr) n (lg (C.at fr) cd "_comparable_version") _ ⟨M5 (hC.at fr) ⟨hT.map,hT.mods,hT.glob,hT.nd⟩ rfl,trivial⟩
 ·refine aM (OP hl.symm) ?_;rintro v (rfl);rfl
 ·refine aE (lb h) fun y e h=>au h fun t h1 h=>aQ h fun hc hz=>?_;obtain rfl:=vJ h1;subst e;simp only[Z6,V0,ZH]at hc;obtain rfl:=XT hz;exact⟨rfl,OR hc.1.1 hc.1.2 hc.2⟩
end
def bT (V V':az):Prop:=∀x,V.lookup x=V'.lookup x
theorem bT.refl (V:az):bT V V:=fun x=>rfl
theorem bT.trans (h:bT V V')(h':bT V' V''):bT V V'':=fun x=>(h x).trans (h' x)
theorem bT.cons (h:bT V V')(x:WS)(sl:Slot):bT ((x,sl)::V) ((x,sl)::V'):=fun y=>by rw[YT,YT,h y]
inductive vO:Option az->Option az->Prop
 |none:vO XW XW
 |some {V V':az}:bT V V'->vO (XU V) (XU V')
theorem dJ (h:bT V V')(x:WS)(sl:Slot):vO (b8 sc x sl V) (b8 sc x sl V'):=by
 unfold b8;split
 ·exact .some (h.cons x sl)
 ·exact .none
set_option tactic.hygienic true in
theorem xP:∀(ts:List Expr){ds:List Dat}{V V':az},bT V V'->vO (il sc ts ds V) (il sc ts ds V'):=by
 intro ts;induction ts with
 |nil=>
  intro ds V V' h;rcases ds with⟨⟩;case nil=>exact .some h
  case cons=>exact .none
 |cons t ts ih=>
  intro ds V V' h;rcases ds with⟨⟩;case nil=>exact .none
  case cons d ds=>
   show vO ((asName t).bind _) ((asName t).bind _);cases asName t with
   |none=>exact .none
   |some x=>
    show vO ((b8 sc x (.val d) V).bind _) ((b8 sc x (.val d) V').bind _);have hb:=dJ (sc:=sc) h x (.val d);generalize b8 sc x (.val d) V=a at hb ⊢;generalize b8 sc x (.val d) V'=b at hb ⊢;rcases hb with⟨⟩;case none=>exact .none
    case some h'=>exact ih h'
theorem kY (h:bT V V')(t:Expr)(d:Dat):vO (bJ sc t d V) (bJ sc t d V'):=by
 unfold bJ;cases asName t with
 |some x=>exact dJ h x _
 |none=>
  cases Dx t with
  |none=>exact .none
  |some ts=>cases BB d with|none=>exact .none|some ds=>exact xP ts h
theorem xf (h:bT V V'):o5 V=o5 V':=by funext t;unfold o5;cases asName t with|none=>rfl|some x=>exact V4 Option.isNone (h x)
theorem nQ (h:bT V V')(t:Expr):freshT V t=freshT V' t:=by unfold freshT;rw[xf h]
theorem mL (h:bT V V')(cj:WY):bT (b0 cj V) (b0 cj V'):=by
 have key:∀(W:az)(x:WS),(b0 cj W).lookup x=if cj.names.lookup x==XU .free then W.lookup x else XW:=by
  intro W x;induction W with
  |nil=>simp[b0]
  |cons p W ih=>
   obtain⟨y,sl⟩:=p;unfold b0 at ih ⊢;rw[Zv];by_cases hy:x=y
   ·subst hy;cases hf:(cj.names.lookup x==XU .free)with|true=>simp only[hf,if_true];rw[aU,aU]|false=>simp only[hf,ZY,if_false];rw[ih,hf];rfl
   ·rw[aD hy];split
    ·rw[aD hy];exact ih
    ·exact ih
 intro x;rw[key,key,h x]
theorem yV (h:bT V V')(x:WS):ownAt V x=ownAt V' x:=by unfold ownAt;rw[h x]
theorem ei (h:bT V V'){w w':Option Dat}(hw:w=w')(e:Expr):orOwn e V w=orOwn e V' w':=by unfold orOwn;rw[hw,show ownAt V=ownAt V' from funext (yV h)]
def PE (Φ:fN)(e:Expr):Prop:=∀(sc:WY)(V V':az),bT V V'->ev Φ sc e V=ev Φ sc e V'
def PT (Φ:fN)(e:Expr):Prop:=∀(sc:WY)(V V':az)(w:Option Dat),bT V V'->dQ Φ sc e V w=dQ Φ sc e V' w
theorem bc {α β:Type}{x x':Option α}{f g:α->Option β}(h:x=x')(h2:∀a,f a=g a):x.bind f=x'.bind g:=by subst h;exact V4 x.bind (funext h2)
theorem mc {α β:Type}{x x':Option α}{f:α->β}(h:x=x'):x.map f=x'.map f:=V4 (Option.map f) h
theorem pc {α:Type}{x x' y y':Option α}(h:x=x')(h2:y=y'):cn b x y=cn b x' y':=by subst h;subst h2;rfl
set_option tactic.hygienic true in
theorem vO.bd {β:Type}{x y:Option az}(h:vO x y){f g:az->Option β}(hf:∀V V',bT V V'->f V=g V'):x.bind f=y.bind g:=by
 rcases h with⟨⟩;case none=>rfl
 case some h=>exact hf _ _ h
theorem jf (h:bT V V'):∀{es:List Expr},(∀e∈es,PE Φ e)->Dk Φ sc es V=Dk Φ sc es V':=by intro es;induction es with|nil=>intro _;exact rfl|cons e es ih=>intro he;exact bc (he e YJ sc V V' h) fun d=>mc (ih fun x hx=>he x (YK _ hx))
theorem sP (h:bT V V'):∀{es:List Expr},(∀e∈es,PE Φ e)->mH Φ sc es V=mH Φ sc es V':=by intro es;induction es with|nil=>intro _;exact rfl|cons e es ih=>intro he;exact bc (ei h (he e YJ sc V V' h) e) fun d=>mc (ih fun x hx=>he x (YK _ hx))
set_option tactic.hygienic true in
theorem EM (h:bT V V'){o:Option Expr}(he:∀e,o=XU e->PE Φ e):MF Φ sc o V=MF Φ sc o V':=by
 rcases o with⟨⟩;case none=>rfl
 case some e=>exact bc (he e rfl sc V V' h) fun x=>rfl
theorem B0 (h:bT V V')(he:PE Φ e/\PT Φ e):dQ Φ sc e V (ev Φ sc e V)=dQ Φ sc e V' (ev Φ sc e V'):=(V4 (dQ Φ sc e V) (he.1 sc V V' h)).trans (he.2 sc V V' _ h)
theorem zN (h:bT V V'):∀{es:List Expr},(∀e∈es,PE Φ e/\PT Φ e)->sQ Φ sc es V=sQ Φ sc es V':=by intro es;induction es with|nil=>intro _;exact rfl|cons e es ih=>intro he;exact bc (B0 h (he e YJ)) fun c=>pc (ih fun x hx=>he x (YK _ hx)) rfl
set_option tactic.hygienic true in
theorem xu (h:bT V V'):∀{es:List Expr},(∀e∈es,PE Φ e/\∀y p,e=.Starred y p->PE Φ y)->d7 Φ sc es V=d7 Φ sc es V':=by
 intro es;induction es with
 |nil=>intro _;exact rfl
 |cons e es zy=>
  intro he;have ih:=zy fun x hx=>he x (YK _ hx);have h1:=(he e YJ).1 sc V V' h;rcases e with⟨⟩;case Starred y p=>have h2:=ei h ((he _ YJ).2 y p rfl sc V V' h) y;exact bc (bc h2 fun z=>rfl) fun xs=>mc ih
  all_goals (exact bc (mc (f:=one) h1) fun xs=>mc ih)
theorem zO (h:bT V V')(op:BoolOp):∀{es:List Expr},(∀e∈es,PE Φ e/\PT Φ e)->ew Φ sc op es V=ew Φ sc op es V':=by intro es;induction es with|nil=>intro _;exact rfl|cons e es ih=>intro he;exact bc (B0 h (he e YJ)) fun c=>pc rfl (ih fun x hx=>he x (YK _ hx))
theorem nZ (h:bT V V')(op:BoolOp):∀{es:List Expr},(∀e∈es,PE Φ e)->sS Φ sc op es V=sS Φ sc op es V'|[],_=>rfl|[e],he=>he e YJ sc V V' h|e::e'::es,he=>bc (he e YJ sc V V' h) fun d=>bc rfl fun c=>pc rfl (nZ h op fun x hx=>he x (YK _ hx))
theorem kQ (h:bT V V'):∀{ops:List CmpOp}{es:List Expr}{a:Dat},(∀e∈es,PE Φ e)->nY Φ sc a ops es V=nY Φ sc a ops es V'|[op],[e],a,he=>bc (ei h (he e YJ sc V V' h) e) fun y=>rfl|[],[],a,_=>rfl|[],_::_,a,_=>rfl|[_],[],a,_=>rfl|_::_::_,[],a,_=>rfl|_::_::_,[_],a,_=>rfl|[_],_::_::_,a,_=>rfl|op::op'::ops,e::e'::es,a,he=>bc (he e YJ sc V V' h) fun b=>bc rfl fun c=>pc (kQ h fun x hx=>he x (YK _ hx)) rfl
theorem ma {k k':az->Option (List Dat)}(h:bT V V')(hi:∀x∈ifs,PE Φ x/\PT Φ x)(hk:∀V V',bT V V'->k V=k' V'):lE Φ sc t ifs V k=lE Φ sc t ifs V' k':=funext fun d=>(kY h t d).bd fun W W' hW=>bc (zN hW hi) fun c=>pc (hk W W' hW) rfl
theorem ic {c c':Prop}{_:Decidable c}{_:Decidable c'}{α:Type}{x x':Option α}(hc:c=c')(h:x=x'):(if c then x else XW)=if c' then x' else XW:=by subst hc;subst h;congr
theorem xv:∀{gens:List Xw}{V V':az}{k k':az->Option (List Dat)},bT V V'->(∀g∈gens,PE Φ g.iter/\∀x∈g.ifs,PE Φ x/\PT Φ x)->(∀V V',bT V V'->k V=k' V')->sR Φ sc gens V k=sR Φ sc gens V' k':=by
 intro gens;induction gens with
 |nil=>intro V V' k k' h _ hk;exact hk V V' h
 |cons y0 rest ih=>intro V V' k k' h hg hk;obtain⟨t,it,ifs,a⟩:=y0;exact ic (V4 (fun b=>a=0/\b=true) (nQ h t)) (bc (ei h ((hg _ YJ).1 sc V V' h) it) fun src=>bc rfl fun av=>V4 (fun f=>cZ f av) (ma h (hg _ YJ).2 fun W W' hW=>ih hW (fun g hgm=>hg g (YK _ hgm)) hk))
theorem Bm (h:bT V V')(x:WS)(p:Pos):ev Φ sc (.Name x p) V=ev Φ sc (.Name x p) V':=V4 (G2 Φ sc x) (h x)
theorem Cm (h:bT V V')(h1:d7 Φ sc args V=d7 Φ sc args V')(h2:mH Φ sc args V=mH Φ sc args V'):ev Φ sc (.Call (.Name f q) args [] p) V=ev Φ sc (.Call (.Name f q) args [] p) V':=by
 refine ic (x:=match Φ.fn f with
     |some g=>(d7 Φ sc args V).bind g|none=>(Φ.tC f).bind fun g=>(mH Φ sc args V).bind g)
  (x':=match Φ.fn f with
     |some g=>(d7 Φ sc args V').bind g|none=>(Φ.tC f).bind fun g=>(mH Φ sc args V').bind g) (V4 (fun o=>o=XW/\sc.names.lookup f=XU .globalImplicit) (h f)) ?_
 rw[h1,h2]
theorem Bp {o:Expr}(h1:orOwn o V (ev Φ sc o V)=orOwn o V' (ev Φ sc o V'))(h2:Dk Φ sc args V=Dk Φ sc args V'):ev Φ sc (.Call (.Attribute o m ap) args [] p) V=ev Φ sc (.Call (.Attribute o m ap) args [] p) V':=ic rfl (bc h1 fun a=>bc h2 fun ds=>rfl)
theorem Br (h:bT V V'){a:Int}(h1:PE Φ it)(h2:∀x∈ifs,PE Φ x/\PT Φ x)(h3:∀g∈rest,PE Φ g.iter/\∀x∈g.ifs,PE Φ x/\PT Φ x)(h4:PE Φ elt):ev Φ sc (.ListComp elt (⟨t,it,ifs,a⟩::rest) cj p) V=ev Φ sc (.ListComp elt (⟨t,it,ifs,a⟩::rest) cj p) V':=ic (V4 (fun b=>a=0/\gH sc cj=true/\b=true) (nQ (mL h cj) t)) (bc (ei h (h1 sc V V' h) it) fun src=>bc rfl fun av=>bc (V4 (fun f=>cZ f av) (ma (mL h cj) h2 fun W W' hW=>xv hW h3 fun X X' hX=>mc (h4 cj X X' hX))) fun y=>rfl)
theorem o7 {v i:Expr}{W:az}(hi:∀a b c q,i≠.Slice a b c q):ev Φ sc (.Subscript v i p) W=(orOwn v W (ev Φ sc v W)).bind (Qe XW (ev Φ sc i W)):=by rcases i with⟨⟩<;>first|exact absurd rfl (hi _ _ _ _)|rfl
set_option tactic.hygienic true in
theorem OW (k:Nat)(ih:∀x:Expr,sizeOf x<k->PE Φ x/\PT Φ x)(e:Expr)(hk:sizeOf e<k+1):PE Φ e:=by
 intro sc V V' h;have o:=fun x hx=>ih x (cY hk hx);have l:∀es:List Expr,sizeOf es<sizeOf e->∀x∈es,PE Φ x/\PT Φ x:=fun es he x hx=>ih x (iO hk he x hx);have w:=fun x hx=>ei h ((o x hx).1 sc V V' h) x;rcases e with⟨⟩;case Name x p=>exact Bm h x p
 case BinOp a op b p=>exact bc ((o a (by simp;exact cX 0x32109bbbb001 rfl)).1 sc V V' h) fun x=>bc ((o b (by simp;exact cX 0x30219bbbb001 rfl)).1 sc V V' h) fun y=>rfl
 case UnaryOp op x p=>
  rcases op with⟨⟩;case Not=>exact bc (w x (by simp;exact aT 0x1002abb001 rfl)) fun a=>rfl
  all_goals (exact bc ((o x (by simp;exact aT 0x1002abb001 rfl)).1 sc V V' h) fun a=>rfl)
 case BoolOp op vs p=>exact nZ h op fun x hx=>(l vs (by simp;exact br 0x2019bbb001 rfl) x hx).1
 case Compare a ops cs p=>exact bc (w a (by simp;exact cX 0x32109bbbb001 rfl)) fun a=>bc (kQ h fun x hx=>(l cs (by simp;exact cX 0x30219bbbb001 rfl) x hx).1) fun r=>rfl
 case IfExp t a b p=>exact bc (B0 h (o t (by simp;exact cX 0x32109bbbb001 rfl))) fun c=>pc ((o a (by simp;exact cX 0x32019bbbb001 rfl)).1 sc V V' h) ((o b (by simp;exact cX 0x30219bbbb001 rfl)).1 sc V V' h)
 case List es p=>exact bc (jf h fun x hx=>(l es (by simp;exact aT 0x109bb001 rfl) x hx).1) fun r=>rfl
 case Tuple es kk p=>exact bc (jf h fun x hx=>(l es (by simp;exact br 0x2109bbb001 rfl) x hx).1) fun r=>rfl
 case Subscript v i p=>
  by_cases hs:∃lo hi st sp,i=.Slice lo hi st sp
  ·refine MX hs ?_;rintro lo hi st sp (rfl);have q:∀u:Option Expr,(∀x,u=XU x->sizeOf x<sizeOf (Expr.Subscript v (.Slice lo hi st sp) p))->MF Φ sc u V=MF Φ sc u V':=fun u hu=>EM h fun x hx=>(o x (hu x hx)).1;have q1:=q lo fun x e=>by subst e;simp;exact CC 0x543209b9bbbb19bbb001 rfl
   have q2:=q hi fun x e=>by subst e;simp;exact CC 0x54309b29bbbb19bbb001 rfl
   have q3:=q st fun x e=>by subst e;simp;exact CC 0x5409b329bbbb19bbb001 rfl
   exact bc (w v (by simp;exact CC 0x543219bbbb09bbb001 rfl)) fun a=>bc q1 fun r=>bc q2 fun r=>bc q3 fun r=>rfl
  ·have zD:=fun a b c q e=>hs ⟨a,b,c,q,e⟩;rw[o7 zD,o7 zD];exact bc (w v (by simp;exact br 0x2109bbb001 rfl)) fun a=>bc ((o i (by simp;exact br 0x2019bbb001 rfl)).1 sc V V' h) fun r=>rfl
 case Call f args C3 p=>
  rcases C3 with⟨⟩;case cons=>rcases f with⟨⟩<;>rfl
  case nil=>
   have hl:=l args (by simp;exact br 0x29019bbbb001 rfl);rcases f with⟨⟩;case Name x xp=>exact Cm h (xu h fun y hy=>⟨(hl y hy).1,fun z q e=>(ih z (by have:=iO hk (by simp;exact cX 0x390219bb9bbbb001 rfl) y hy;subst e;exact X9 CN this)).1⟩) (sP h fun y hy=>(hl y hy).1)
   case Attribute b m ap=>exact Bp (w b (by simp;exact oC 0x4932109bbb9bbbb001 rfl)) (jf h fun y hy=>(hl y hy).1)
   all_goals (rfl)
 case ListComp elt gens cj p=>
  rcases gens with⟨⟩;case nil=>rfl
  case cons g rest=>
   obtain⟨t,it,ifs,a⟩:=g;refine Br h (o it (by simp;exact MU 0x76543029bbbb9bb19bbbb001 rfl)).1 (l ifs (by simp;exact MU 0x76540329bbbb9bb19bbbb001 rfl)) (fun g hg=>?_) (o elt (by simp;exact MU 0x76543219bbbb9bb09bbbb001 rfl)).1;have h1:=Yp hg;obtain⟨b1,b2,b3,b4⟩:=g;simp only[Xw.mk.sizeOf_spec]at h1;have h2:sizeOf rest<sizeOf (Expr.ListComp elt (⟨t,it,ifs,a⟩::rest) cj p):=by simp;exact MU 0x76054329bbbb9bb19bbbb001 rfl
   exact⟨(o b2 (CC 0x510540432109bbbb03 rfl h1 h2)).1,l b3 (CC 0x520540432109bbbb03 rfl h1 h2)⟩
 all_goals (rfl)
set_option tactic.hygienic true in
theorem OV (k:Nat)(ih:∀x:Expr,sizeOf x<k->PE Φ x/\PT Φ x)(e:Expr)(hk:sizeOf e<k+1):PT Φ e:=by
 intro sc V V' w h;have o:=fun x hx=>ih x (cY hk hx);have l:∀es:List Expr,sizeOf es<sizeOf e->∀x∈es,PE Φ x/\PT Φ x:=fun es he x hx=>ih x (iO hk he x hx);rcases e with⟨⟩;case UnaryOp op x p=>
  rcases op with⟨⟩;case Not=>exact mc (B0 h (o x (by simp;exact aT 0x1002abb001 rfl)))
  all_goals (rfl)
 case BoolOp op vs p=>exact zO h op (l vs (by simp;exact br 0x2019bbb001 rfl))
 case Compare a ops cs p=>exact bc (ei h ((o a (by simp;exact cX 0x32109bbbb001 rfl)).1 sc V V' h) a) fun y=>kQ h fun x hx=>(l cs (by simp;exact cX 0x30219bbbb001 rfl) x hx).1
 case IfExp t a b p=>exact bc (B0 h (o t (by simp;exact cX 0x32109bbbb001 rfl))) fun c=>pc (B0 h (o a (by simp;exact cX 0x32019bbbb001 rfl))) (B0 h (o b (by simp;exact cX 0x30219bbbb001 rfl)))
 all_goals (rfl)
theorem mK:∀(k:Nat)(e:Expr),sizeOf e<k->PE Φ e/\PT Φ e:=by intro k;induction k with|zero=>intro e h;exact absurd h (X5 _)|succ k ih=>intro e h;exact⟨OW k (ih) e h,OV k (ih) e h⟩
section
variable {Ψ:pD}
theorem et (h:bT V V')(e:Expr):ev Φ sc e V=ev Φ sc e V':=(mK _ e (Yb _)).1 sc V V' h
theorem o8 (h:bT V V')(e:Expr):dQ Φ sc e V (ev Φ sc e V)=dQ Φ sc e V' (ev Φ sc e V'):=by rw[et h e];exact(mK _ e (Yb _)).2 sc V V' _ h
inductive gm:Option Fl->Option Fl->Prop
 |none:gm XW XW
 |next {V V':az}:bT V V'->gm (XU (.next V)) (XU (.next V'))
 |brk {V V':az}:bT V V'->gm (XU (.brk V)) (XU (.brk V'))
 |cont {V V':az}:bT V V'->gm (XU (.cont V)) (XU (.cont V'))
 |ret (d:Dat):gm (XU (.ret d)) (XU (.ret d))
def iY (Ψ:pD):Prop:=∀sc st V V',bT V V'->gm (Ψ sc st V) (Ψ sc st V')
theorem bT.i8 (h:bT V V'):bT (aS V) (aS V'):=fun x=>by
 have key:∀(W:az),(aS W).lookup x=(W.lookup x).map Slot.i8:=by
  intro W;induction W with
  |nil=>rfl
  |cons p W ih=>obtain⟨y,t⟩:=p;have e:aS ((y,t)::W)=(y,t.i8)::aS W:=rfl;rw[e,YT,YT];cases x==y with|true=>rfl|false=>exact ih
 rw[key,key,h x]
set_option tactic.hygienic true in
theorem vO.fl {a b:Option az}(h:vO a b):gm (a.map .next) (b.map .next):=by
 rcases h with⟨⟩;case none=>exact .none
 case some h=>exact .next h
inductive MT {α:Type}:Option (α×az)->Option (α×az)->Prop
 |none:MT XW XW
 |some {d:α} {V V':az}:bT V V'->MT (XU (d,V)) (XU (d,V'))
theorem lB (h:bT V V')(e:Expr):MT (p9 Φ sc e V) (p9 Φ sc e V'):=by
 unfold p9;rw[et h e,et h.i8 e];cases ev Φ sc e V' with
 |some d=>exact .some h
 |none=>cases ev Φ sc e (aS V')with|none=>exact .none|some d=>exact .some h.i8
theorem BZ (h:bT V V')(e:Expr):MT (xt Φ sc e V) (xt Φ sc e V'):=by
 unfold xt;rw[o8 h e,o8 h.i8 e];cases dQ Φ sc e V' (ev Φ sc e V')with
 |some d=>exact .some h
 |none=>cases dQ Φ sc e (aS V') (ev Φ sc e (aS V'))with|none=>exact .none|some d=>exact .some h.i8
set_option tactic.hygienic true in
theorem MT.bf {α:Type}{x y:Option (α×az)}(h:MT x y){f g:α×az->Option Fl}(hf:∀d V V',bT V V'->gm (f (d,V)) (g (d,V'))):gm (x.bind f) (y.bind g):=by
 rcases h with⟨⟩;case none=>exact .none
 case some h=>exact hf _ _ _ h
set_option tactic.hygienic true in
theorem MT.bo {α:Type}{x y:Option (α×az)}(h:MT x y){f:α×az->Option az}(hf:∀d V V',bT V V'->vO (f (d,V)) (f (d,V'))):vO (x.bind f) (y.bind f):=by
 rcases h with⟨⟩;case none=>exact .none
 case some h=>exact hf _ _ _ h
set_option tactic.hygienic true in
theorem ob {α:Type}{x x':Option α}{f g:α->Option az}(hx:x=x')(h:∀a,vO (f a) (g a)):vO (x.bind f) (x'.bind g):=by
 subst hx;rcases x with⟨⟩;case none=>exact .none
 case some a=>exact h a
set_option tactic.hygienic true in
theorem fb {α:Type}{x x':Option α}{f g:α->Option Fl}(hx:x=x')(h:∀a,gm (f a) (g a)):gm (x.bind f) (x'.bind g):=by
 subst hx;rcases x with⟨⟩;case none=>exact .none
 case some a=>exact h a
theorem op {x x' y y':Option az}(h:vO x x')(h2:vO y y'):vO (cn b x y) (cn b x' y'):=by rcases b with⟨⟩;exact h2;exact h
theorem fp {x x' y y':Option Fl}(h:gm x x')(h2:gm y y'):gm (cn b x y) (cn b x' y'):=by rcases b with⟨⟩;exact h2;exact h
theorem fi {c:Prop}{_:Decidable c}{x x':Option Fl}(h:gm x x'):gm (if c then x else XW) (if c then x' else XW):=by
 split
 ·exact h
 ·exact .none
set_option tactic.hygienic true in
theorem gm.th {k k':az->Option Fl}(hk:∀V V',bT V V'->gm (k V) (k' V')){a b:Option Fl}(h:gm a b):gm (a.bind (iN k)) (b.bind (iN k')):=by
 rcases h with⟨⟩;case none=>exact .none
 case next h=>exact hk _ _ h
 case cont h=>exact hk _ _ h
 case brk h=>exact .next h
 case ret d=>exact .ret d
set_option tactic.hygienic true in
theorem gm.af {k k':az->Option Fl}(hk:∀V V',bT V V'->gm (k V) (k' V')){a b:Option Fl}(h:gm a b):gm (a.bind (oq k)) (b.bind (oq k')):=by
 rcases h with⟨⟩;case none=>exact .none
 case next h=>exact hk _ _ h
 case cont h=>exact .cont h
 case brk h=>exact .brk h
 case ret d=>exact .ret d
theorem PEa (e:Expr):PE Φ e:=(mK _ e (Yb _)).1
theorem AX (h:bT V V')(x:WS)(value:Expr):vO ((p9 Φ sc value V).bind (D3 sc x)) ((p9 Φ sc value V').bind (D3 sc x)):=(lB h value).bo fun d W W' hW=>dJ hW x _
theorem zr (h:bT V V')(f:WS):isNew Φ sc V f=isNew Φ sc V' f:=by unfold isNew;rw[h f]
theorem ux (h:bT V V')(x:WS)(value:Expr):vO (jQ Φ sc x value V) (jQ Φ sc x value V'):=by
 unfold jQ;cases xS value with
 |some es=>
  refine ob (jf h fun e y=>PEa e) fun ds=>?_;split
  ·exact dJ h x _
  ·exact .none
 |none=>rw[show isNew Φ sc V=isNew Φ sc V' from funext (zr h)];exact op (ob rfl fun z=>ob (sP h fun e y=>PEa e) fun ds=>ob rfl fun d=>dJ h x _) (AX h x _)
theorem pZ (hs:∀d V V',bT V V'->gm (f d V) (g d V')):∀(ds:List Dat){V V':az},bT V V'->gm (cP f ds V) (cP g ds V'):=by intro ds;induction ds with|nil=>intro V V' h;exact .next h|cons d ds ih=>intro V V' h;exact .th (fun W W' hW=>ih hW) (hs d V V' h)
theorem Ax {t u:az->Option Bool}{f g:az->Option Fl}(ht:∀V V',bT V V'->t V=u V')(hs:∀V V',bT V V'->gm (f V) (g V')):∀(k:Nat){V V':az},bT V V'->gm (tO t f k V) (tO u g k V'):=by intro k;induction k with|zero=>intro V V' h;exact .none|succ k ih=>intro V V' h;exact fb (ht V V' h) fun c=>fp (.th (fun W W' hW=>ih hW) (hs V V' h)) (.next h)
theorem yc (h:bT V V')(it:Expr):kc Φ sc it V=kc Φ sc it V':=by unfold kc;cases lF it with|none=>rfl|some z=>simp only[XZ,h z.1]
set_option tactic.hygienic true in
theorem wD {a a' b b':Option Fl}(h:gm a a')(h':gm b b'):gm (mz a b) (mz a' b'):=by
 rcases h with⟨⟩;case none=>exact h'
 case next h=>exact .next h
 case brk h=>exact .brk h
 case cont h=>exact .cont h
 case ret d=>exact .ret d
theorem HX (I8:iY Ψ):∀{sts:List WT},(∀st∈sts,∀(sc:WY)(V V':az),bT V V'->gm (ex Φ Ψ sc st V) (ex Φ Ψ sc st V'))->∀{sc:WY}{V V':az},bT V V'->gm (cz Φ Ψ sc sts V) (cz Φ Ψ sc sts V'):=by intro sts;induction sts with|nil=>intro _ sc V V' h;exact .next h|cons st sts ih=>intro hs sc V V' h;exact .af (fun W W' hW=>ih (fun s hm=>hs s (YK _ hm)) hW) (wD (I8 sc st V V' h) (hs st YJ sc V V' h))
theorem uP (h:bT V V')(x:WS):ownOf V x=ownOf V' x:=by unfold ownOf;rw[h x]
set_option tactic.hygienic true in
theorem mf {α:Type}{x:Option α}{f g:α->Fl}(h:∀a,gm (XU (f a)) (XU (g a))):gm (x.map f) (x.map g):=by
 rcases x with⟨⟩;case none=>exact .none
 case some a=>exact h a
set_option tactic.hygienic true in
theorem KW (I8:iY Ψ):∀(k:Nat)(st:WT),sizeOf st<k->∀(sc:WY)(V V':az),bT V V'->gm (ex Φ Ψ sc st V) (ex Φ Ψ sc st V'):=by
 intro k;induction k with
 |zero=>intro st h;exact absurd h (X5 _)
 |succ k ih=>
  intro st hk sc V V' h;have body:∀{sts:List WT},sizeOf sts<k->∀{V V':az},bT V V'->gm (cz Φ Ψ sc sts V) (cz Φ Ψ sc sts V'):=fun{sts}hs{V V'}h=>HX I8 (fun s hm=>ih s (X9 (Yp hm) hs)) h;have turn:∀{t:Expr}{b:List WT},sizeOf b<k->∀d V V',bT V V'->gm (match bJ sc t d V with|none=>XW|some vs=>cz Φ Ψ sc b vs) (match bJ sc t d V' with|none=>XW|some vs=>cz Φ Ψ sc b vs):=fun{t b}hb d V V' h=>by
   have h1:=kY (sc:=sc) h t d;generalize bJ sc t d V=x at h1 ⊢;generalize bJ sc t d V'=y at h1 ⊢;rcases h1 with⟨⟩;case none=>exact .none
   case some h'=>exact body hb h'
  have key:SV st\/(ex Φ Ψ sc st V=XW/\ex Φ Ψ sc st V'=XW):=by
   cases e:ex Φ Ψ sc st V with
   |some fl=>exact .inl (BY e)
   |none=>cases e':ex Φ Ψ sc st V' with
    |some fl=>exact .inl (BY e')|none=>exact .inr ⟨rfl,rfl⟩
  refine XR key (fun hv=>?_) fun y0=>?_
  ·rcases hv with⟨t,value,pos,rfl⟩|⟨value,pos,rfl⟩|⟨t,b,o,pos,rfl⟩|⟨t,it,b,pos,rfl⟩|⟨t,b,pos,rfl⟩|⟨e,pos,rfl⟩|⟨pos,rfl⟩
   ·show gm (vn Φ sc t value V) (vn Φ sc t value V');unfold vn;cases TZ t with|no=>exact gm.none|name x=>exact(ux h x value).fl|tup=>exact fp .none ((lB h value).bf fun d W W' hW=>(kY hW _ _).fl)|item x i=>exact fp .none (fb (uP h x) fun a=>fb (et h value) fun d=>fb (et h i) fun j=>mf fun a'=>.next (h.cons x _))
   ·show gm (xn Φ sc value V) (xn Φ sc value V');unfold xn;cases Iz value with|none=>exact gm.none|some z=>exact fi (fb (uP h z.1) fun a=>fb (jf h fun e u=>PEa e) fun ds=>mf fun a'=>.next (h.cons z.1 _))
   ·have hb:sizeOf b<k/\sizeOf o<k:=by simp at hk;exact oC 0x420410494b32109bbbb02 rfl hk
    exact(BZ h t).bf fun d W W' hW=>fp (body hb.1 hW) (body hb.2 hW)
   ·have hb:sizeOf b<k:=by simp at hk;exact CC 0x52095b432109bbbbb02 rfl hk
    have hz:=yc (Φ:=Φ) (sc:=sc) h it;show gm (ue Φ sc t it (fun vs=>cz Φ Ψ sc b vs) V) (ue Φ sc t it (fun vs=>cz Φ Ψ sc b vs) V');unfold ue;rw[hz];cases kc Φ sc it V' with|some z=>exact fp (fb (et h z.1) fun x=>fb (et h z.2) fun y=>fb rfl fun zs=>pZ (turn hb) zs h) .none|none=>exact(lB h it).bf fun d W W' hW=>fb rfl fun av=>pZ (turn hb) av hW
   ·have hb:sizeOf b<k:=by simp at hk;exact oC 0x41094b32109bbbb02 rfl hk
    exact Ax (fun V V' h=>o8 h t) (fun V V' h=>body hb h) _ h
   ·have:=(lB (Φ:=Φ) (sc:=sc) h e).bf (f:=fun r=>XU (.ret r.1)) (g:=fun r=>XU (.ret r.1)) fun d W W' hW=>.ret d;show gm ((p9 Φ sc e V).map fun r=>Fl.ret r.1) ((p9 Φ sc e V').map fun r=>Fl.ret r.1);rw[Option.map_eq_bind];rw[Option.map_eq_bind];exact this
   ·exact .brk h
  ·refine aZ y0 fun e1 e2=>?_;rw[e1,e2];exact gm.none
theorem vk (I8:iY Ψ)(h:bT V V')(sts:List WT):gm (cz Φ Ψ sc sts V) (cz Φ Ψ sc sts V'):=HX I8 (fun st x=>KW I8 _ st (Yb _)) h
theorem iY.none:iY (fun x x x=>XW):=fun x x x x x=>.none
set_option tactic.hygienic true in
theorem nX (I8:iY Ψ)(h:bT V V'){W:az}(e:cz Φ Ψ sc sts V'=XU (.next W)):∃W',cz Φ Ψ sc sts V=XU (.next W')/\bT W' W:=by have h1:=vk (Φ:=Φ) (sc:=sc) I8 h sts;rw[e]at h1;generalize cz Φ Ψ sc sts V=x at h1 ⊢;rcases h1 with⟨⟩;case next h'=>exact⟨_,rfl,h'⟩
theorem iG (I8:iY Ψ)(h:bT V V')(e:cz Φ Ψ sc sts V'=XU (.ret d)):cz Φ Ψ sc sts V=XU (.ret d):=by have h1:=vk (Φ:=Φ) (sc:=sc) I8 h sts;rw[e]at h1;generalize cz Φ Ψ sc sts V=x at h1 ⊢;rcases h1 with⟨⟩;rfl
end
section
variable {A B:az} {y:WS} {s t:Slot}
theorem bT.store:∀{A:az},(∀p∈A,p.1≠x)->bT ((x,s)::(A++(x,t)::B)) (A++(x,s)::B)
 |[],_=>fun y=>by
  by_cases h:y=x
  ·subst h;rw[aU];exact aU.symm
  ·rw[aD h];show YU y ((x,t)::B)=YU y ((x,s)::B);rw[aD h,aD h]
 |(z,u)::A,hA=>fun y=>by
  have hz:=hA _ YJ;have ih:=bT.store fun p hp=>hA p (YK _ hp);by_cases h:y=x
  ·subst h;have h1:=ih y;rw[aU]at h1 ⊢;show _=YU y ((z,u)::(A++(y,s)::B));rw[aD (Ne.symm hz)];exact h1
  ·rw[aD h];have h1:=ih y;rw[aD h]at h1;show YU y ((z,u)::(A++(x,t)::B))=YU y ((z,u)::(A++(x,s)::B));rw[YT,YT,h1]
theorem bT.shadow:bT ((x,s)::(x,t)::B) ((x,s)::B):=bT.store (A:=[]) nofun
theorem bT.dead (hA:∀p∈A,p.1≠x):bT ((x,s)::(A++(x,t)::B)) ((x,s)::(A++B)):=fun y=>by
 by_cases h:y=x
 ·subst h;rw[aU,aU]
 ·rw[aD h,aD h];induction A with
  |nil=>show YU y ((x,t)::B)=YU y B;rw[aD h]
  |cons p A ih=>obtain⟨z,u⟩:=p;show YU y ((z,u)::(A++(x,t)::B))=YU y ((z,u)::(A++B));rw[YT,YT,ih fun p hp=>hA p (YK _ hp)]
theorem bT.swap (h:x≠y):bT ((x,s)::(y,t)::B) ((y,t)::(x,s)::B):=fun z=>by
 by_cases h1:z=x
 ·subst h1;rw[aU,aD h,aU]
 ·by_cases h2:z=y
  ·subst h2;rw[aD h1,aU,aU]
  ·rw[aD h1,aD h2,aD h2,aD h1]
noncomputable def swapAt (b:List UInt8)(w k:Nat):UInt8:=b.getD (k/w*w+(w-1-k%w)) 0
def ko (b:List UInt8)(w:Nat):List UInt8:=(Yy b.length).map (swapAt b w)
theorem DW {w q j:Nat}(hj:j<w):swapAt b w (q*w+(w-1-j))=b.getD (q*w+j) 0:=by
 unfold swapAt;have hw:0<w:=aT 0x1801002 rfl hj;have h1:(q*w+(w-1-j))/w=q:=by rw[X7 q w,Nat.mul_add_div hw,Nat.div_eq_of_lt (by exact aT 0x190cc00802 rfl hw)];exact bq 0x80b21 rfl
 have h2:(q*w+(w-1-j))%w=w-1-j:=by rw[X7 q w,Nat.mul_add_mod,Nat.mod_eq_of_lt (by exact aT 0x190cc00802 rfl hw)]
 rw[h1,h2];congr 2;exact aT 0x91cc91cc21002 rfl hj
def gN (b:List UInt8)(w:Nat)(D:Nat->Prop)(r:List UInt8):Prop:=r.length=b.length/\∀k,k<b.length->D k->r[k]?=XU (swapAt b w k)
theorem gN.set {w:Nat}{D:Nat->Prop}(h:gN b w D r){p:Nat}(hp:p<b.length):gN b w (fun k=>D k\/k=p) (r.set p (swapAt b w p)):=by
 refine⟨by rw[List.length_set];exact h.1,fun k hk hd=>?_⟩;by_cases HB:p=k
 ·subst HB;rw[List.getElem?_set_self (by rw[h.1];exact hp)]
 ·rw[List.getElem?_set_ne HB];exact h.2 k hk (hd.resolve_right fun q=>HB q.symm)
theorem gN.mono {w:Nat}{D D':Nat->Prop}(h:gN b w D r)(hd:∀k,k<b.length->D' k->D k):gN b w D' r:=⟨h.1,fun k hk q=>h.2 k hk (hd k hk q)⟩
theorem gN.all {w:Nat}{D:Nat->Prop}(h:gN b w D r)(hd:∀k,k<b.length->D k):r=ko b w:=by
 unfold ko;apply Zy;intro k;by_cases hk:k<b.length
 ·rw[h.2 k hk (hd k hk)];simp[hk]
 ·rw[Zj (by rw[h.1];exact aT 0x1110032 rfl hk),Zj (by simp;exact aT 0x1110032 rfl hk)]
end
section
variable {bb:XO} {fuel:Nat}
def dH:List WT:=fj pw VF
def b7:WY:=dN pw VF
def mh:List WT:=bg (aB dH 1)
def Ab:List WT:=bg (aB mh 0)
noncomputable def gC:pD:=fun x x x=>XW
noncomputable def d8 (r b:List UInt8)(w:Int):az:=[(("swapped_data":WS),.own (.bz r)),(("data":WS),.val (.bytes b)),(("width":WS),.val (.int w))]
theorem To {w i j:Int}:ex (dB bb fuel) gC b7 (aB Ab 0) ((("j":WS),.val (.int j))::(("i":WS),.val (.int i))::d8 r b w)=((dp (.bytes b) (.int (i+j))).bind fun d=>(oJ (.bz r) (.int (i+w-1-j)) d).map fun a'=>.next ((("swapped_data":WS),.own a')::(("j":WS),.val (.int j))::(("i":WS),.val (.int i))::d8 r b w)):=by rfl
theorem Tn:Ab=[aB Ab 0]:=by rfl
theorem OZ:mh=[.For (bR (aB mh 0)) (bO (aB mh 0)) Ab [] (dO (aB mh 0))]:=by rfl
theorem Lx:dH=[aB dH 0,.For (bR (aB dH 1)) (bO (aB dH 1)) mh [] (dO (aB dH 1)),.Return (XU (cu (aB dH 2))) (gD (aB dH 2))]:=by rfl
theorem BC (hk:k<b.length)(hl:b.length<=aW):dp (.bytes b) (.int (k:Int))=XU (.int ((b.getD k 0).toNat:Int)):=by have hs:aP (k:Int)=true:=mu (Yg (Nat.le_of_lt hk) hl);show(if aP (k:Int)=true then(dU (k:Int) b.length).bind fun k=>(b[k]?).map fun c=>Dat.int c.toNat else XW)=_;rw[V7 hs];unfold dU;rw[V7 (by exact bq 0xaf881 rfl),V7 (by exact aT 0x1af0af71002 rfl hk)];simp[hk]
theorem AJ (hk:k<r.length)(hl:r.length<=aW):oJ (.bz r) (.int (k:Int)) (.int (c.toNat:Int))=XU (.bz (r.set k c)):=by have hc:=c.toNat_lt;show(if 0<=(k:Int)/\(k:Int)<(r.length:Int)/\r.length<=aW/\0<=(c.toNat:Int)/\(c.toNat:Int)<256 then XU (Dat.bz (r.set (k:Int).toNat ((c.toNat:Int).toNat.toUInt8)))else XW)=_;rw[V7 ⟨by exact bq 0xaf881 rfl,by exact aT 0x1af0af71002 rfl hk,hl,by exact bq 0xaf881 rfl,by exact bq 0x1008f0af7000001008f002 rfl hc⟩];simp
def TS (J:az):Prop:=J=[]\/∃d,J=[(("j":WS),.val d)]
theorem Lv {w q j:Nat}{D:Nat->Prop}(hl:b.length<=aW)(hj:j<w)(hq:q*w+w<=b.length)(hr:gN b w D r)(hJ:TS J)(hV:bT V (J++(("i":WS),.val (.int ((q*w:Nat):Int)))::d8 r b w)):∃V' r',cz (dB bb fuel) gC b7 Ab ((("j":WS),.val (.int (j:Int)))::V)=XU (.next V')/\gN b w (fun k=>D k\/k=q*w+(w-1-j)) r'/\bT V' ([(("j":WS),.val (.int (j:Int)))]++(("i":WS),.val (.int ((q*w:Nat):Int)))::d8 r' b w):=by
 have hp:q*w+(w-1-j)<b.length:=cX 0x3091cc2b0312b11003 rfl hj hq;have h1:bT ((("j":WS),.val (.int (j:Int)))::V) ((("j":WS),.val (.int (j:Int)))::(("i":WS),.val (.int ((q*w:Nat):Int)))::d8 r b w):=by
  refine(hV.cons _ _).trans ?_;refine XR hJ (fun y0=>?_) fun y1=>?_
  ·obtain rfl:=y0;exact .refl _
  ·refine aM y1 ?_;rintro d (rfl);exact bT.shadow
 have he:cz (dB bb fuel) gC b7 Ab ((("j":WS),.val (.int (j:Int)))::(("i":WS),.val (.int ((q*w:Nat):Int)))::d8 r b w)=XU (.next ((("swapped_data":WS),.own (.bz (r.set (q*w+(w-1-j)) (swapAt b w (q*w+(w-1-j))))))::(("j":WS),.val (.int (j:Int)))::(("i":WS),.val (.int ((q*w:Nat):Int)))::d8 r b w)):=by
  have h2:ex (dB bb fuel) gC b7 (aB Ab 0) ((("j":WS),.val (.int (j:Int)))::(("i":WS),.val (.int ((q*w:Nat):Int)))::d8 r b w)=_:=To
  have e1:((q*w:Nat):Int)+(j:Int)=((q*w+j:Nat):Int):=aT 0x10baf1af0afb91 rfl
  have e2:((q*w:Nat):Int)+(w:Int)-1-(j:Int)=((q*w+(w-1-j):Nat):Int):=br 0x91cc2baf0af91af2afbcc91002 rfl hj
  rw[e1,e2,BC (by exact cX 0x302b0312b11003 rfl hj hq) hl,XZ,<-DW hj,AJ (by rw[hr.1];exact hp) (by rw[hr.1];exact hl),XX]at h2
  rw[Tn,ar (ax rfl h2)];rfl
 refine aE (nX iY.none h1 he) fun V' h3 h4=>?_;refine⟨V',_,h3,hr.set hp,h4.trans ?_⟩;exact bT.store (A:=[(("j":WS),.val (.int (j:Int))),(("i":WS),.val (.int ((q*w:Nat):Int)))]) (fun p hp=>by
  have n1:("j":WS)≠("swapped_data":WS):=by decide
  have n2:("i":WS)≠("swapped_data":WS):=by decide
  simp only[YL,YG,or_false]at hp;refine XR hp (fun y0=>?_) fun y1=>?_
  ·obtain rfl:=y0;exact n1
  ·obtain rfl:=y1;exact n2)
theorem Lw {w q:Nat}(hl:b.length<=aW)(hq:q*w+w<=b.length):∀(m j:Nat)(V J:az)(r:List UInt8)(D:Nat->Prop),j+m=w->TS J->bT V (J++(("i":WS),.val (.int ((q*w:Nat):Int)))::d8 r b w)->gN b w D r->∃V' J' r',cP (fun d vs=>match bJ b7 (bR (aB mh 0)) d vs with
      |none=>XW|some vs=>cz (dB bb fuel) gC b7 Ab vs) ((List.range' j m).map fun k:Nat=>Dat.int (k:Int)) V=XU (.next V')/\TS J'/\
   bT V' (J'++(("i":WS),.val (.int ((q*w:Nat):Int)))::d8 r' b w)/\gN b w (fun k=>D k\/(q*w<=k/\k<q*w+(w-j))) r':=by
 intro m
 induction m with
 |zero=>intro j V J r D hj hJ hV hr;exact⟨V,J,r,rfl,hJ,hV,hr.mono fun k x h=>h.elim id fun h=>(cX 0x601c2b303214180b23 rfl hj h).elim⟩
 |succ m ih=>
  intro j V J r D hj hJ hV hr;refine eH (Lv (bb:=bb) (fuel:=fuel) hl (br 0x200291b0b22 rfl hj) hq hr hJ hV) fun V1 r1 h1 Hr hV1=>?_;refine iL (ih (j+1) V1 _ r1 _ (br 0x2190bb2291b0b22 rfl hj) (.inr ⟨_,rfl⟩) hV1 Hr) fun V2 J2 r2 h2 hJ2 R7 sm=>?_;refine⟨V2,J2,r2,?_,hJ2,R7,sm.mono fun k x h=>?_⟩
  ·rw[List.range'_succ,YQ,ik]
   ·exact h2
   ·exact h1
  ·refine XR h (fun h=>?_) fun h=>?_
   ·exact .inl (.inl h)
   ·by_cases hk:k=q*w+(w-1-j)
    ·exact .inl (.inr hk)
    ·exact .inr (cX 0x93b2c0b101014392cc0b12332c0b1010143 rfl h hk)
theorem rangeSize_pos {w:Nat}(hw:0<w)(h:n%w=0):cV 0 (n:Int) (w:Int)=n/w:=by
 unfold cV XA;rw[V7 (by exact bq 0xaf870802 rfl hw)];refine aM (Nat.dvd_of_mod_eq_zero h) ?_;rintro q (rfl);rw[X6 _ hw];by_cases hq:q=0
 ·subst hq;simp
 ·have Kv:=Nat.mul_pos hw (bq 0x8080232 rfl hq);rw[V7 (by exact bq 0xaf870802 rfl Kv)];have e1:((w*q:Nat):Int)-0-1=((w*q-1:Nat):Int):=bq 0x90caf980afcc90802 rfl Kv;rw[e1,<-Int.natCast_ediv];have e2:(w*q-1)/w=q-1:=by
   rw[Nat.div_eq_iff hw];have:w*q=w*(q-1)+w:=by rw[<-Nat.mul_succ];congr 1;exact bq 0x990cb0280232 rfl hq
   constructor
   ·rw[X7];exact br 0x91c2102b120803 rfl hw this
   ·rw[X7 (q-1) w];exact br 0x921bc90c121b022 rfl this
  rw[e2];exact bq 0x990cafbbf280232 rfl hq
theorem jJ {w:Nat}(hw:0<w)(h:n%w=0)(hn:n<=aW)(hwn:w<=aW):bM (.range 0 (n:Int) (w:Int))=XU ((List.range' 0 (n/w)).map fun k:Nat=>Dat.int ((k*w:Nat):Int)):=by
 have hs:(aP 0&&aP (n:Int)&&aP (w:Int)&&(w:Int) !=0)=true:=by rw[mu hn,mu hwn];exact bne_iff_ne.mpr fun e=>Nat.ne_of_gt hw (ZM.inj e)
 unfold bM;dsimp only;rw[V7 hs];unfold jF;rw[rangeSize_pos hw h,YO,Yx];refine V4 XU (YR fun k x=>?_);have e:(0:Int)+(w:Int)*(k:Int)=((k*w:Nat):Int):=by rw[Int.natCast_mul,Int.mul_comm,ZI]
 exact V4 Dat.int e
def UB (K:az):Prop:=K=[]\/∃J d,TS J/\K=J++[(("i":WS),.val d)]
theorem IC {w q:Nat}{D:Nat->Prop}(hw:0<w)(hl:b.length<=aW)(hq:q*w+w<=b.length)(hr:gN b w D r){K:az}(hK:UB K)(hV:bT V (K++d8 r b w)):∃V' K' r',cz (dB bb fuel) gC b7 mh ((("i":WS),.val (.int ((q*w:Nat):Int)))::V)=XU (.next V')/\UB K'/\bT V' (K'++d8 r' b w)/\gN b w (fun k=>D k\/(q*w<=k/\k<q*w+w)) r':=by
 have hJ:∃J,TS J/\bT ((("i":WS),.val (.int ((q*w:Nat):Int)))::V) (J++(("i":WS),.val (.int ((q*w:Nat):Int)))::d8 r b w):=by
  refine XR hK (fun y0=>?_) fun y1=>?_
  ·obtain rfl:=y0;exact⟨[],.inl rfl,hV.cons _ _⟩
  ·refine fE y1 ?_;rintro J d hJ (rfl);refine XR hJ (fun y0=>?_) fun y1=>?_
   ·obtain rfl:=y0;exact⟨[],.inl rfl,(hV.cons _ _).trans bT.shadow⟩
   ·refine aM y1 ?_;rintro d1 (rfl);refine⟨_,.inr ⟨d1,rfl⟩,(hV.cons _ _).trans ?_⟩;refine bT.trans (bT.dead (A:=[(("j":WS),.val d1)]) (fun p hp=>?_)) (bT.swap (by decide));have n1:("j":WS)≠("i":WS):=by decide
    simp only[YL,YG,or_false]at hp;subst hp;exact n1
 refine aE hJ fun J hJ h1=>?_;have he:ev (dB bb fuel) b7 (bO (aB mh 0)) ((("i":WS),.val (.int ((q*w:Nat):Int)))::V)=XU (.range 0 (w:Int) 1):=by rw[et h1];rcases hJ with rfl|⟨d,rfl⟩<;>rfl
 have hit:bM (.range 0 (w:Int) 1)=XU ((List.range' 0 w).map fun k:Nat=>Dat.int (k:Int)):=by have:=jJ (n:=w) (by decide) (Nat.mod_one _) (cX 0x131032b11013 rfl hl hq) (by decide);rw[Nat.div_one]at this;rw[show((1:Nat):Int)=1 from rfl]at this;rw[this];refine V4 XU (YR fun k x=>?_);rw[Nat.mul_one]
 refine iL (Lw (bb:=bb) (fuel:=fuel) hl hq w 0 _ J r D (bq 0x8b21 rfl) hJ h1 hr) fun V2 J2 r2 h2 hJ2 R7 sm=>?_;refine⟨V2,J2++[(("i":WS),.val (.int ((q*w:Nat):Int)))],r2,?_,.inr ⟨J2,_,hJ2,rfl⟩,?_,sm.mono fun k x h=>h.imp id fun h=>br 0x82c0b10101420b1010142 rfl h⟩
 ·rw[OZ,ar (ax rfl ((xm (qH rfl) (fM he) hit).trans h2))];rfl
 ·rw[ZG];exact R7
theorem IE {w:Nat}(hw:0<w)(hl:b.length<=aW):∀(m q:Nat)(V K:az)(r:List UInt8)(D:Nat->Prop),(q+m)*w=b.length->UB K->bT V (K++d8 r b w)->gN b w D r->∃V' K' r',cP (fun d vs=>match bJ b7 (bR (aB dH 1)) d vs with
      |none=>XW|some vs=>cz (dB bb fuel) gC b7 mh vs) ((List.range' q m).map fun k:Nat=>Dat.int ((k*w:Nat):Int)) V=XU (.next V')/\UB K'/\
   bT V' (K'++d8 r' b w)/\gN b w (fun k=>D k\/(q*w<=k/\k<(q+m)*w)) r':=by
 intro m
 induction m with
 |zero=>intro q V K r D hj hK hV hr;exact⟨V,K,r,rfl,hK,hV,hr.mono fun k x h=>h.elim id fun h=>by rw[Nat.add_zero]at h;exact(aT 0x601010142 rfl h).elim⟩
 |succ m ih=>
  intro q V K r D hj hK hV hr;have e1:(q+(m+1))*w=(q+1+m)*w:=by congr 1;exact aT 0x190bb91b0b21 rfl
  have e2:=X3 q w;have e3:(q+1+m)*w=(q+1)*w+m*w:=Nat.add_mul ..;refine iL (IC (bb:=bb) (fuel:=fuel) (q:=q) hw hl (by rw[<-hj,e1,e3,e2];exact Nat.le_add_right _ _) hr hK hV) fun V1 K1 r1 h1 hK1 hV1 Hr=>?_;refine iL (ih (q+1) V1 K1 r1 _ (by rw[<-e1];exact hj) hK1 hV1 Hr) fun V2 K2 r2 h2 hK2 R7 sm=>?_;refine⟨V2,K2,r2,?_,hK2,R7,sm.mono fun k x h=>?_⟩
  ·rw[List.range'_succ,YQ,ik]
   ·exact h2
   ·exact h1
  ·refine XR h (fun h=>?_) fun h=>?_
   ·exact .inl (.inl h)
   ·by_cases hk:k<q*w+w
    ·exact .inl (.inr ⟨h.1,hk⟩)
    ·exact .inr (by rw[e1]at h;exact oC 0x430301421b303430311421b024 rfl e2 h hk)
def tE:WT->Expr| .Assign _ (.Call _ [a] _ _) _=>a|_=>.Name "" cM
theorem rZ (h:b.length<=aW):iu [.bytes b]=XU (.int (b.length:Int)):=by show(if b.length<=aW then XU (Dat.int (b.length:Int))else XW)=_;rw[V7 h]
theorem OY {w:Nat}(hw:0<w)(hwc:w<=aW)(hl:b.length<=aW)(hm:b.length%w=0):cz (dB bb fuel) gC b7 dH (bI ["data","width"] [.bytes b,.int (w:Int)])=XU (.ret (.bytes (ko b w))):=by
 have e0:mH (dB bb fuel) b7 [tE (aB dH 0)] (bI ["data","width"] [.bytes b,.int (w:Int)])=(iu [.bytes b]).bind fun d=>XU [d]:=by rfl
 rw[rZ hl,XZ]at e0;have h0:ex (dB bb fuel) gC b7 (aB dH 0) (bI ["data","width"] [.bytes b,.int (w:Int)])=XU (.next (d8 (Yv b.length 0) b w)):=by
  have e1:ex (dB bb fuel) gC b7 (aB dH 0) (bI ["data","width"] [.bytes b,.int (w:Int)])=((mH (dB bb fuel) b7 [tE (aB dH 0)] (bI ["data","width"] [.bytes b,.int (w:Int)])).bind fun ds=>(newD "bytearray" ds).bind fun d=>b8 b7 "swapped_data" (.own d) (bI ["data","width"] [.bytes b,.int (w:Int)])).map .next:=by rfl
  rw[e1,e0,XZ];have e2:newD "bytearray" [.int (b.length:Int)]=XU (.bz (Yv b.length 0)):=by show(if 0<=(b.length:Int)/\(b.length:Int)<=(aW:Int)then XU (Dat.bz (Yv (b.length:Int).toNat 0))else XW)=_;rw[V7 ⟨by exact bq 0xaf881 rfl,by exact aT 0x1af0af81012 rfl hl⟩];rfl
  rw[e2];rfl
 have e3:ev (dB bb fuel) b7 (bO (aB dH 1)) (d8 (Yv b.length 0) b w)=(((iu [.bytes b]).bind fun d=>XU [d,Dat.int (w:Int)]).map fun ds=>Dat.int 0::ds).bind eg:=by rfl
 rw[rZ hl]at e3;have e4:eg [.int 0,.int (b.length:Int),.int (w:Int)]=XU (.range 0 (b.length:Int) (w:Int)):=by show(if(w:Int)≠0/\(w:Int).natAbs<1073741824 then XU (Dat.range 0 (b.length:Int) (w:Int))else XW)=_;unfold aW at hwc;rw[V7 ⟨by exact bq 0x80af930802 rfl hw,by lia⟩]
 have hd:(0+b.length/w)*w=b.length:=by rw[X2];exact Nat.div_mul_cancel (Nat.dvd_of_mod_eq_zero hm)
 refine iL (IE (bb:=bb) (fuel:=fuel) hw hl (b.length/w) 0 (d8 (Yv b.length 0) b w) [] _ (fun x=>False) hd (.inl rfl) (.refl _) ⟨by simp,fun x x h=>h.elim⟩) fun V' K' r' h1 hK hV hr=>?_;have Oo:=hr.all fun k hk=>.inr ⟨by exact aT 0x1000d11 rfl,by rw[hd];exact hk⟩;have e5:ev (dB bb fuel) b7 (cu (aB dH 2)) V'=px [.bz r']:=by rw[et hV];rcases hK with rfl|⟨J,d,rfl|⟨d1,rfl⟩,rfl⟩<;>rfl
 have e6:px [.bz r']=XU (.bytes r'):=by show(if r'.length<=aW then XU (Dat.bytes r')else XW)=_;rw[V7 (by rw[hr.1];exact hl)]
 rw[Lx,ar (ax rfl h0),ar (ax rfl ((xm (qH rfl) (fM (e3.trans e4)) (jJ hw hm hl hwc)).trans h1))];rw[er (ax rfl (d0 (fM (e5.trans e6)))) (fun v q=>by rcases q with⟨⟩),Oo]
def tw:List Dat->Option Dat:=TM fun x y=>(TL x).bind fun b=>(TK y).bind fun w=>if 0<w/\w<=(aW:Int)/\b.length<=aW/\b.length%w.toNat=0 then XU (.bytes (ko b w.toNat))else XW
theorem Tj:j9 b7:=⟨rfl,rfl,rfl,by decide +kernel,by decide +kernel⟩
theorem ID (hC:C.Plain)(hp:Re.gM C.h₀ bb c)(hg:C.mg "_twin_re_1"=XU (.ref bb))(hD:dv C "_byteswap" (argsAt pw VF) dH b7 cd):mT C (n+1) "_byteswap" tw:=by
 refine uf (Φ:=dB bb 0) hC (fun fr=>xh (hC.at fr) hp hg) rfl hD (by decide) (fun fr=>dP.none) Tj (xs:=[("data":WS),"width"]) (by decide) (by decide +kernel) (fun vs pm doc hl=>?_) (fun ds d h=>?_)
 ·refine gY (SD hl.symm) ?_;rintro v u (rfl);rfl
 ·refine fE (IW h) fun x y e h=>au h fun b h1 h=>au h fun w h2 h=>aQ h fun hc hz=>?_;obtain rfl:=IU h1;obtain rfl:=IT h2;subst e;obtain rfl:=XT hz;have hw:w=((w.toNat:Nat):Int):=UG 0xfbfaf0f982201140af0f840f8742 rfl hc;refine⟨rfl,?_⟩;rw[hw];exact OY (UG 0xfbf8082201140af0f840f8742 rfl hc) (UG 0xfbf182201140af0f840f8742 rfl hc) hc.2.2.1 hc.2.2.2
end
def UD (p:WT×qG):Prop:=∀sc V V',bT V V'->gm (p.2 sc V) (p.2 sc V')
theorem yt {L:List (WT×qG)}(h:I6 UD L):iY (lR L):=fun sc st V V' hV=>by
 unfold lR;cases e:L.find? fun p=>pK p.1==pK st with
 |none=>exact .none
 |some p=>
  dsimp only;split
  ·exact h.mem p (YF e) sc V V' hV
  ·exact .none
theorem vi {c:Prop}{d:Decidable c}{a b:Option Fl}(h:gm a b):gm (if c then a else XW) (if c then b else XW):=by
 split
 ·exact h
 ·exact .none
set_option tactic.hygienic true in
theorem nU {α:Type}(x:Option α){f g:α->Option Fl}(h:∀a,gm (f a) (g a)):gm (x.bind f) (x.bind g):=by
 rcases x with⟨⟩;case none=>exact .none
 case some a=>exact h a
theorem iR {S:WT}{x y a b:WS}:UD (S,ql x y a b):=fun sc V V' h=>by
 show gm ((nj V y).bind _) ((nj V' y).bind _);have:nj V y=nj V' y:=by unfold nj;rw[h y]
 rw[this];exact nU _ fun t=>vi (dJ h x _).fl
theorem Kl {S:WT}{x sep a:WS}:UD (S,joinM x sep a):=fun sc V V' h=>by
 show gm (if _ then(kF V a).bind _ else XW) (if _ then(kF V' a).bind _ else XW);have:kF V a=kF V' a:=by unfold kF;rw[h a]
 rw[this];exact vi (nU _ fun t=>vi (dJ h x _).fl)
def g9:Nat->WS->Option WS|0,_=>XW|k+1,t=>if t.length<=aW/\W4 t=true/\W4 (WM t "--" "-")=true then(if WM t "--" "-"=t then XU t else g9 k (WM t "--" "-"))else XW
section
variable {bb:XO} {fuel:Nat} {W:az} {t:WS}
def aC:List WT:=fj pw Ry
def aI:WY:=dN pw Ry
def mF:WT->Pos| .Assign _ (.Call _ [.GeneratorExp _ _ _ p] _ _) _=>p|_=>cM
def uB:WT->Pos| .While _ _ _ p=>p|_=>cM
noncomputable def cT:pD:=lR [(aB aC 0,joinM "platform" "-" "args"),(aB aC 1,ql "platform" "platform" " " "_"),(aB aC 2,ql "platform" "platform" "/" "-"),(aB aC 3,ql "platform" "platform" "\\" "-"),(aB aC 4,ql "platform" "platform" ":" "-"),(aB aC 5,ql "platform" "platform" ";" "-"),(aB aC 6,ql "platform" "platform" "\"" "-"),(aB aC 7,ql "platform" "platform" "(" "-"),(aB aC 8,ql "platform" "platform" ")" "-"),(aB aC 9,ql "platform" "platform" "unknown" ""),(aB (jz (aB aC 10)) 0,ql "cleaned" "platform" "--" "-")]
noncomputable def cL (t:WS)(W:az):az:=(("platform":WS),.val (.str t))::W
theorem JQ:cT aI (aB aC 1) (cL t W)=(if t.length<=aW then XU (.next (cL (WM t " " "_") (cL t W)))else XW):=(dC rfl).trans rfl
theorem JP:cT aI (aB aC 2) (cL t W)=(if t.length<=aW then XU (.next (cL (WM t "/" "-") (cL t W)))else XW):=(dC rfl).trans rfl
theorem JO:cT aI (aB aC 3) (cL t W)=(if t.length<=aW then XU (.next (cL (WM t "\\" "-") (cL t W)))else XW):=(dC rfl).trans rfl
theorem JN:cT aI (aB aC 4) (cL t W)=(if t.length<=aW then XU (.next (cL (WM t ":" "-") (cL t W)))else XW):=(dC rfl).trans rfl
theorem JM:cT aI (aB aC 5) (cL t W)=(if t.length<=aW then XU (.next (cL (WM t ";" "-") (cL t W)))else XW):=(dC rfl).trans rfl
theorem JL:cT aI (aB aC 6) (cL t W)=(if t.length<=aW then XU (.next (cL (WM t "\"" "-") (cL t W)))else XW):=(dC rfl).trans rfl
theorem JK:cT aI (aB aC 7) (cL t W)=(if t.length<=aW then XU (.next (cL (WM t "(" "-") (cL t W)))else XW):=(dC rfl).trans rfl
theorem JJ:cT aI (aB aC 8) (cL t W)=(if t.length<=aW then XU (.next (cL (WM t ")" "-") (cL t W)))else XW):=(dC rfl).trans rfl
theorem JI:cT aI (aB aC 9) (cL t W)=(if t.length<=aW then XU (.next (cL (WM t "unknown" "") (cL t W)))else XW):=(dC rfl).trans rfl
theorem JR:cT aI (aB aC 0) [(("args":WS),.val (.tuple ds))]=((strsOf ds).bind fun ys=>if iD "-" ys=true then XU (.next (cL (dG "-" ys) [(("args":WS),.val (.tuple ds))]))else XW):=(dC rfl).trans rfl
theorem Gx:aC=[aB aC 0,aB aC 1,aB aC 2,aB aC 3,aB aC 4,aB aC 5,aB aC 6,aB aC 7,aB aC 8,aB aC 9,.While (cB (aB aC 10)) (jz (aB aC 10)) [] (uB (aB aC 10)),.While (cB (aB aC 11)) (jz (aB aC 11)) [] (uB (aB aC 11)),.Return (XU (cu (aB aC 12))) (gD (aB aC 12))]:=by rfl
end
section
variable {bb:XO} {fuel:Nat} {W:az} {t u:WS}
def wB:List WT:=jz (aB aC 10)
def L0:List WT:=jz (aB aC 11)
theorem JH:dQ (dB bb fuel) aI (cB (aB aC 10)) V (ev (dB bb fuel) aI (cB (aB aC 10)) V)=XU true:=by rfl
theorem Ec:wB=[aB wB 0,.If (aN (aB wB 1)) (bN (aB wB 1)) [] (gy (aB wB 1)),aB wB 2]:=by rfl
theorem QO:cT aI (aB wB 0) (cL t W)=(if t.length<=aW then XU (.next ((("cleaned":WS),.val (.str (WM t "--" "-")))::cL t W))else XW):=(dC rfl).trans rfl
theorem QN:dQ (dB bb fuel) aI (aN (aB wB 1)) ((("cleaned":WS),.val (.str u))::cL t W) (ev (dB bb fuel) aI (aN (aB wB 1)) ((("cleaned":WS),.val (.str u))::cL t W))=qy (.str u) (.str t):=by rfl
theorem QL:cz (dB bb fuel) cT aI (bN (aB wB 1)) V=XU (.brk V):=by rfl
theorem QM:ex (dB bb fuel) cT aI (aB wB 2) ((("cleaned":WS),.val (.str u))::cL t W)=XU (.next (cL u ((("cleaned":WS),.val (.str u))::cL t W))):=by rfl
theorem Dl (hu:W4 u=true)(ht:W4 t=true):qy (.str u) (.str t)=XU (u==t):=by delta qy;rw[show ml (.str u)=XU (.str u)from V7 hu,show ml (.str t)=XU (.str t)from V7 ht];rfl
theorem GH (hl:t.length<=aW)(ht:W4 t=true)(hu:W4 (WM t "--" "-")=true):cz (dB bb fuel) cT aI wB (cL t W)=if WM t "--" "-"=t then XU (.brk ((("cleaned":WS),.val (.str t))::cL t W))else XU (.next (cL (WM t "--" "-") ((("cleaned":WS),.val (.str (WM t "--" "-")))::cL t W))):=by
 have h0:=QO (t:=t) (W:=W);rw[V7 hl]at h0;rw[Ec,ar (dg h0)];have h1:=QN (bb:=bb) (fuel:=fuel) (t:=t) (u:=WM t "--" "-") (W:=W);rw[Dl hu ht]at h1;split
 ·rename_i he;have h2:(WM t "--" "-"==t)=true:=by rw[he];exact VX t
  rw[h2]at h1;have h3:ex (dB bb fuel) cT aI (.If (aN (aB wB 1)) (bN (aB wB 1)) [] (gy (aB wB 1))) ((("cleaned":WS),.val (.str (WM t "--" "-")))::cL t W)=XU (.brk ((("cleaned":WS),.val (.str (WM t "--" "-")))::cL t W)):=(fA (cH h1)).trans QL;rw[er (ax rfl h3) (fun v q=>by rcases q with⟨⟩),he]
 ·rename_i he;have h2:(WM t "--" "-"==t)=false:=by rw[V5];exact he
  rw[h2]at h1;have h3:ex (dB bb fuel) cT aI (.If (aN (aB wB 1)) (bN (aB wB 1)) [] (gy (aB wB 1))) ((("cleaned":WS),.val (.str (WM t "--" "-")))::cL t W)=XU (.next ((("cleaned":WS),.val (.str (WM t "--" "-")))::cL t W)):=(fA (cH h1)).trans rfl;rw[ar (ax rfl h3),ar (ax rfl QM)];rfl
theorem CT {α:Type}{x y:Option α}:cn true x y=x:=rfl
theorem M0 {f:az->Option Bool}{g:az->Option Fl}{V:az}:tO f g (k+1) V=(f V).bind fun c=>cn c ((g V).bind (iN (tO f g k))) (XU (.next V)):=rfl
theorem Gz:∀(k:Nat)(t u:WS)(W:az),g9 k t=XU u->∃W',tO (fun vs=>dQ (dB bb fuel) aI (cB (aB aC 10)) vs (ev (dB bb fuel) aI (cB (aB aC 10)) vs)) (fun vs=>cz (dB bb fuel) cT aI wB vs) k (cL t W)=XU (.next ((("cleaned":WS),.val (.str u))::cL u W')):=by
 intro k;induction k with
 |zero=>intro t u W h;exact aa h
 |succ k ih=>
  intro t u W h;refine aQ h fun hc h=>?_;have h1:=GH (bb:=bb) (fuel:=fuel) (W:=W) hc.1 hc.2.1 hc.2.2;rw[M0,JH,XZ,CT,h1];by_cases he:WM t "--" "-"=t
  ·obtain rfl:=XT ((V7 he).symm.trans h);rw[V7 he];exact⟨W,rfl⟩
  ·rw[V6 he];exact ih _ u _ ((V6 he).symm.trans h)
theorem Eb:L0=[aB L0 0]:=by rfl
def aJ:WT->Expr| .Assign _ v _=>v|_=>.Name "" cM
theorem JT:ev (dB bb fuel) aI (aJ (aB L0 0)) (cL t W)=eZ (.str t) XW (XU (-1)) XW:=by rfl
noncomputable def bZ:Expr->List Expr| .BoolOp _ es _=>es|_=>[]
theorem GD:dQ (dB bb fuel) aI (cB (aB aC 11)) (cL t W) (ev (dB bb fuel) aI (cB (aB aC 11)) (cL t W))=ew (dB bb fuel) aI .And (bZ (cB (aB aC 11))) (cL t W):=by rfl
theorem GG:bZ (cB (aB aC 11))=[(bZ (cB (aB aC 11))).getD 0 (.Name "" cM),(bZ (cB (aB aC 11))).getD 1 (.Name "" cM)]:=by rfl
theorem QK:dQ (dB bb fuel) aI ((bZ (cB (aB aC 11))).getD 0 (.Name "" cM)) (cL t W) (ev (dB bb fuel) aI ((bZ (cB (aB aC 11))).getD 0 (.Name "" cM)) (cL t W))=qj (.str t):=by rfl
theorem QJ:dQ (dB bb fuel) aI ((bZ (cB (aB aC 11))).getD 1 (.Name "" cM)) (cL t W) (ev (dB bb fuel) aI ((bZ (cB (aB aC 11))).getD 1 (.Name "" cM)) (cL t W))=((dp (.str t) (.int (-1))).bind fun a=>kW .Eq a (.str "-")):=by rfl
theorem Nk:ev (dB bb fuel) aI (cu (aB aC 12)) (cL t W)=XU (.str t):=by rfl
noncomputable def Pa (x y:Option Bool):Option Bool:=match x with
 |none=>XW|some false=>XU false|some true=>y
def n5 (t:WS):Option Bool:=Pa (qj (.str t)) ((dp (.str t) (.int (-1))).bind fun a=>kW .Eq a (.str "-"))
set_option tactic.hygienic true in
theorem o9 {a b:Expr}{x:Option Bool}(h1:dQ Φ sc a V (ev Φ sc a V)=x)(h2:dQ Φ sc b V (ev Φ sc b V)=y):ew Φ sc .And [a,b] V=Pa x y:=by
 have e:∀(p:Expr)(r:List Expr),ew Φ sc .And (p::r) V=Pa (dQ Φ sc p V (ev Φ sc p V)) (ew Φ sc .And r V):=fun p r=>by
  show((dQ Φ sc p V (ev Φ sc p V)).bind fun c=>cn (pJ .And c) (XU c) (ew Φ sc .And r V))=_;cases dQ Φ sc p V (ev Φ sc p V)with
  |none=>rfl
  |some c=>rcases c with⟨⟩<;>rfl
 rw[e,e,h1,h2];have e0:ew Φ sc .And [] V=XU true:=rfl;rw[e0];congr 1;rcases y with⟨⟩;case none=>rfl
 case some d=>rcases d with⟨⟩<;>rfl
theorem GF:dQ (dB bb fuel) aI (cB (aB aC 11)) (cL t W) (ev (dB bb fuel) aI (cB (aB aC 11)) (cL t W))=n5 t:=by rw[GD,GG,o9 QK QJ];rfl
noncomputable def Jw (o:Option Dat)(f:WS->Option WS):Option WS:=match o with
 |some (.str u)=>f u|_=>XW
set_option tactic.hygienic true in
theorem F3 {o:Option Dat}{f:WS->Option WS}{u:WS}{P:Prop}(h:Jw o f=XU u)(k:∀v,o=XU (.str v)->f v=XU u->P):P:=by
 cases o with
 |none=>exact aa h
 |some d=>
  rcases d with⟨⟩;case str v=>exact k v rfl h
  all_goals exact aa h
def m9:Nat->WS->Option WS
 |0,_=>XW
 |k+1,t=>match n5 t with
  |none=>XW|some false=>XU t|some true=>Jw (eZ (.str t) XW (XU (-1)) XW) (m9 k)
theorem GB (h:eZ (.str t) XW (XU (-1)) XW=XU (.str u)):cz (dB bb fuel) cT aI L0 (cL t W)=XU (.next (cL u (cL t W))):=by
 have h1:ex (dB bb fuel) cT aI (aB L0 0) (cL t W)=(((p9 (dB bb fuel) aI (aJ (aB L0 0)) (cL t W)).bind (D3 aI "platform")).map .next):=by rfl
 rw[fM (JT.trans h)]at h1;rw[Eb,ar (ax rfl h1)];rfl
set_option tactic.hygienic true in
theorem Gy:∀(k:Nat)(t u:WS)(W:az),m9 k t=XU u->∃W',tO (fun vs=>dQ (dB bb fuel) aI (cB (aB aC 11)) vs (ev (dB bb fuel) aI (cB (aB aC 11)) vs)) (fun vs=>cz (dB bb fuel) cT aI L0 vs) k (cL t W)=XU (.next (cL u W')):=by
 intro k;induction k with
 |zero=>intro t u W h;exact aa h
 |succ k ih=>
  intro t u W h;replace h:(match n5 t with
   |none=>XW|some false=>XU t|some true=>Jw (eZ (.str t) XW (XU (-1)) XW) (m9 k))=XU u:=h
  show ∃W',((dQ (dB bb fuel) aI (cB (aB aC 11)) (cL t W) (ev (dB bb fuel) aI (cB (aB aC 11)) (cL t W))).bind fun c=>cn c ((cz (dB bb fuel) cT aI L0 (cL t W)).bind (iN _)) (XU (.next (cL t W))))=_;rw[GF];cases he:n5 t with
  |none=>rw[he]at h;exact aa h
  |some b=>
   rw[he]at h;rcases b with⟨⟩;case false=>obtain rfl:=XT h;exact⟨W,rfl⟩
   case true=>rw[XZ,CT];refine F3 h fun v hv h=>?_;rw[GB hv];exact ih v u _ h
end
section
variable {bb:XO} {fuel:Nat} {W:az} {t u v:WS}
noncomputable def rep1 (t:WS):WS:=WM t " " "_"
noncomputable def rep2 (t:WS):WS:=WM t "/" "-"
noncomputable def rep3 (t:WS):WS:=WM t "\\" "-"
noncomputable def oO (t:WS):WS:=WM t ":" "-"
noncomputable def rE (t:WS):WS:=WM t ";" "-"
noncomputable def wx (t:WS):WS:=WM t "\"" "-"
noncomputable def A5 (t:WS):WS:=WM t "(" "-"
noncomputable def Gp (t:WS):WS:=WM t ")" "-"
noncomputable def Ng (t:WS):WS:=WM t "unknown" ""
def gc (t:WS):WS:=Ng (Gp (A5 (wx (rE (oO (rep3 (rep2 (rep1 t))))))))
def xD (t:WS):Prop:=(t).length<=aW/\(rep1 (t)).length<=aW/\(rep2 (rep1 (t))).length<=aW/\(rep3 (rep2 (rep1 (t)))).length<=aW/\(oO (rep3 (rep2 (rep1 (t))))).length<=aW/\(rE (oO (rep3 (rep2 (rep1 (t)))))).length<=aW/\(wx (rE (oO (rep3 (rep2 (rep1 (t))))))).length<=aW/\(A5 (wx (rE (oO (rep3 (rep2 (rep1 (t)))))))).length<=aW/\(Gp (A5 (wx (rE (oO (rep3 (rep2 (rep1 (t))))))))).length<=aW
theorem QG (h:t.length<=aW)(sts:List WT):cz (dB bb fuel) cT aI (aB aC 1::sts) (cL t W)=cz (dB bb fuel) cT aI sts (cL (rep1 t) (cL t W)):=ar (dg (JQ.trans (V7 h)))
theorem QF (h:t.length<=aW)(sts:List WT):cz (dB bb fuel) cT aI (aB aC 2::sts) (cL t W)=cz (dB bb fuel) cT aI sts (cL (rep2 t) (cL t W)):=ar (dg (JP.trans (V7 h)))
theorem QE (h:t.length<=aW)(sts:List WT):cz (dB bb fuel) cT aI (aB aC 3::sts) (cL t W)=cz (dB bb fuel) cT aI sts (cL (rep3 t) (cL t W)):=ar (dg (JO.trans (V7 h)))
theorem QD (h:t.length<=aW)(sts:List WT):cz (dB bb fuel) cT aI (aB aC 4::sts) (cL t W)=cz (dB bb fuel) cT aI sts (cL (oO t) (cL t W)):=ar (dg (JN.trans (V7 h)))
theorem QC (h:t.length<=aW)(sts:List WT):cz (dB bb fuel) cT aI (aB aC 5::sts) (cL t W)=cz (dB bb fuel) cT aI sts (cL (rE t) (cL t W)):=ar (dg (JM.trans (V7 h)))
theorem QB (h:t.length<=aW)(sts:List WT):cz (dB bb fuel) cT aI (aB aC 6::sts) (cL t W)=cz (dB bb fuel) cT aI sts (cL (wx t) (cL t W)):=ar (dg (JL.trans (V7 h)))
theorem QA (h:t.length<=aW)(sts:List WT):cz (dB bb fuel) cT aI (aB aC 7::sts) (cL t W)=cz (dB bb fuel) cT aI sts (cL (A5 t) (cL t W)):=ar (dg (JK.trans (V7 h)))
theorem Qz (h:t.length<=aW)(sts:List WT):cz (dB bb fuel) cT aI (aB aC 8::sts) (cL t W)=cz (dB bb fuel) cT aI sts (cL (Gp t) (cL t W)):=ar (dg (JJ.trans (V7 h)))
theorem Qy (h:t.length<=aW)(sts:List WT):cz (dB bb fuel) cT aI (aB aC 9::sts) (cL t W)=cz (dB bb fuel) cT aI sts (cL (Ng t) (cL t W)):=ar (dg (JI.trans (V7 h)))
theorem GA (h:xD t)(sts:List WT):∃W',cz (dB bb fuel) cT aI (aB aC 1::aB aC 2::aB aC 3::aB aC 4::aB aC 5::aB aC 6::aB aC 7::aB aC 8::aB aC 9::sts) (cL t W)=cz (dB bb fuel) cT aI sts (cL (gc t) W'):=by refine UL h fun c1 c2 c3 c4 c5 c6 c7 y0=>?_;refine aZ y0 fun c8 c9=>?_;exact⟨_,((QG c1 _).trans ((QF c2 _).trans ((QE c3 _).trans ((QD c4 _).trans ((QC c5 _).trans ((QB c6 _).trans ((QA c7 _).trans ((Qz c8 _).trans (Qy c9 _)))))))))⟩
theorem QI:iY cT:=by refine yt ?_;exact⟨Kl,iR,iR,iR,iR,iR,iR,iR,iR,iR,iR,trivial⟩
theorem Nj (hs:strsOf ds=XU ys)(hj:iD "-" ys=true)(hc:xD (dG "-" ys))(h1:g9 fuel (gc (dG "-" ys))=XU u)(h2:m9 fuel u=XU v):cz (dB bb fuel) cT aI aC (bI ["args"] [.tuple ds])=XU (.ret (.str v)):=by
 have h0:cT aI (aB aC 0) (bI ["args"] [.tuple ds])=XU (.next (cL (dG "-" ys) [(("args":WS),.val (.tuple ds))])):=by have:=JR (ds:=ds);rw[hs]at this;exact this.trans (V7 hj)
 rw[Gx,ar (dg h0)];refine aM (GA (bb:=bb) (fuel:=fuel) (W:=[(("args":WS),.val (.tuple ds))]) hc [.While (cB (aB aC 10)) (jz (aB aC 10)) [] (uB (aB aC 10)),.While (cB (aB aC 11)) (jz (aB aC 11)) [] (uB (aB aC 11)),.Return (XU (cu (aB aC 12))) (gD (aB aC 12))]) fun W1 e1=>?_;rw[e1];refine aM (Gz (bb:=bb) (fuel:=fuel) fuel _ u W1 h1) fun W2 e2=>?_;have e2':ex (dB bb fuel) cT aI (.While (cB (aB aC 10)) (jz (aB aC 10)) [] (uB (aB aC 10))) (cL (gc (dG "-" ys)) W1)=XU (.next (((("cleaned":WS),.val (.str u)))::cL u W2)):=zM.trans e2;rw[ar (ax rfl e2')];refine iG QI (bT.swap (by decide)) ?_;refine aM (Gy (bb:=bb) (fuel:=fuel) fuel u v ((("cleaned":WS),.val (.str u))::W2) h2) fun W3 e3=>?_;show cz (dB bb fuel) cT aI _ (cL u ((("cleaned":WS),.val (.str u))::W2))=_;have e3':ex (dB bb fuel) cT aI (.While (cB (aB aC 11)) (jz (aB aC 11)) [] (uB (aB aC 11))) (cL u ((("cleaned":WS),.val (.str u))::W2))=XU (.next (cL v W3)):=zM.trans e3;rw[ar (ax rfl e3')];exact er (ax rfl (d0 (fM Nk))) (fun v q=>by rcases q with⟨⟩)
end
section
variable {K:Env->Prop}
theorem qx (hC:C.Ok)(h:fR C c P p q)(hc:ag.code=.ref c)(hl:pos.line=p.line)(iV:pos.col=p.col)(hq:qn=q)(bs:Bs C s)(hQ:∀c' s',Ex C s s'->s'.heap.CodeRec (.ref c') q->Q (.ref c') s'):Wn (Wu prog w) A (functionCode ag pos fl name qn ps scope bd) Q E s:=by
 subst hq;refine XR (bs.tab c P p _ h.mem) (fun h0=>?_) fun y0=>?_
 ·have Ow:=h0;refine wpAny_functionCodeX hc (h.w4 hC bs Ow trivial) (h.tableAt hC bs Ow) rfl fun c' h' tk hx x x x hr ht x=>hQ c' {s with heap:=h',toks:=tk} (h.grown hC bs Ow hx ?_ hr) hr;have:=ht.2;simpa[hl,iV]using this
 ·refine aE y0 fun c' h1 hr=>?_;have MA:=h1;exact wpAny_functionCode_hit hc (h.w4 hC bs MA (by simp[TriplesOk,rawInt])) (l8 hl iV) (hQ c' s (.refl s) hr)
theorem Eo (hC:C.Ok)(zH:∃bm ob,BMod C.h₀ mainGlobals C.mg bm ob)(ht:fR C c P p q)(nJ:ag.code=.ref c)(hq:ag.qual++"<lambda>"=q)(e:bh ag sc)(bs:Bs C s)(zG:∀p∈scope.names,p.2=.free->∃c,ag.cells.lookup p.1=XU c)(HJ:defaultsOf params ag=([],[]))(hl:pos.line=p.line)(iV:pos.col=p.col)(hQ:∀a s' c' Ie pm,Ex C s s'->s.heap.get? a=XW->s'.heap.get? a=XU (kla_obj "<lambda>" q params body scope (gJ ag scope.names []) pm c' Ie)->s'.heap.CodeRec (.ref c') q->Q (.ref a) s'):Wn (Wu pw Wd) A (eval (.Lambda params body scope pos) ag) Q E s:=by
 refine kla_eval HJ ?_;rw[makeFunction_eq];simp only[List.zip_nil_right,List.filterMap_nil,List.isEmpty_nil,if_true,pure_bind];unfold makeTail;rw[l9 zG];refine Wk (Wa ?_);refine gY zH fun bm ob B=>?_;have Ol:¬C.T bm:=by intro y0;refine iM y0 fun c2 p2 q2 m=>?_;have h2:=(hC.q6 c2 bm p2 q2 m).1.2;rw[B.obj]at h2;obtain rfl:=XT h2;rcases B.cls with⟨⟩
 have fin:∀(Ie:WJ)(s1:WV),Ex C s s1->Wn (Wu pw Wd) A (do
   let code <-functionCode ag pos pos.line "<lambda>" (ag.qual++"<lambda>") params scope (.expr body);let b <-builtinsFor ag.globals ag.builtins;let pm <-nsGet ag.globals "__name__";let doc <-(pure .none:WX WJ);newObj (.type "function") (.func {name:="<lambda>",qualname:=ag.qual++"<lambda>",params,body:=.expr body,scope,globals:=ag.globals,closure:=gJ ag scope.names [],closureTuple:=Ie,code:=code,builtins:=b,defaults:=.none,kwdefaults:=.none,annotations:=XW,pyModule:=pm.getD .none,doc:=doc})) Q E s1:=by
  intro Ie s1 x1;refine Wk (qx hC ht nJ hl iV hq (x1.bs bs) fun c' s2 x2 hr=>?_);have MM:=x2.bs (x1.bs bs);have iF:=e.globals▸Cx.QT hC MM;refine Wk (wpAny_builtinsFor iF B.name B.ne (MM.keep _ _ B.obj Ol) B.cls B.dict B.data ?_);refine Wk (wpAny_nsGet iF (Wk (Wa ?_)));refine Wc ?_ (by size_fits);have x3:Ex C s2 {s2 with heap:=s2.heap.push {cls:=.type "function",data:=.func {name:="<lambda>",qualname:=ag.qual++"<lambda>",params,body:=.expr body,scope,globals:=ag.globals,closure:=gJ ag scope.names [],closureTuple:=Ie,code:=.ref c',builtins:=builtinsNs,defaults:=.none,kwdefaults:=.none,annotations:=XW,pyModule:=(C.mg "__name__").getD .none,doc:=.none}}}:=.of_keep (fun x x e=>Xl _ e) rfl rfl;refine hQ s2.heap.objs.size _ c' Ie ((C.mg "__name__").getD .none) (x1.trans (x2.trans x3)) ?_ ?_ (hr.push _)
  ·cases e0:s.heap.get? s2.heap.objs.size with
   |none=>rfl
   |some o=>
    exfalso;have Av:=x1.trans x2;by_cases t:C.T s2.heap.objs.size
    ·refine iM t fun c2 p2 q2 m=>?_;rcases MM.tab c2 _ p2 q2 m with e'|⟨_,e',_⟩<;>(have h3:=aF s2.heap;rw[e']at h3;rcases h3 with⟨⟩)
    ·refine aE (Av.data e0 t) fun o' e' x=>?_;have h3:=aF s2.heap;rw[e']at h3;rcases h3 with⟨⟩
  ·rw[<-hq];have:=e.globals;rw[this];exact Xk _ rfl
 cases qt:(gJ ag scope.names [])with|nil=>simp only[List.isEmpty_nil,if_true];refine Wk (Wa ?_);have:=fin .none s (.refl s);rw[qt]at this;exact this|cons z r=>simp only[List.isEmpty_cons,ZY,if_false];refine Wk (wpAny_newTextTuple ?_);rw[<-qt];exact fin _ _ (.of_keep (fun x x e=>Xl _ e) rfl rfl)
end
section
variable {R:WZ->WV->Prop}
theorem Cb (h:aV (Wu prog w) (A.deeper ag) (eval e ag) (fun v s'=>R (.ok (.ret v)) s') (fun e' s'=>aV (Wu prog w) (A.deeper ag) (leaving ag e') (fun x gv=>R (.error e') gv) (fun e'' gv=>R (.error e'') gv) s') s):cy (Wu prog w) A (.expr e ag) R s:=by refine bj ?_ rfl;show aV _ (A.deeper ag) (do point;ret (<-(eval e ag).onRaise (leaving ag))) _ _ s;exact ab (ao (wpAny_point (ab (cA (aH h (fun v s' h'=>aj h') fun x x h'=>h')))))
theorem kU (zE:A.depth<recursionLimit)(ho:s.heap.get? a=XU o)(cU:o.data=.func fd)(EG:fd.scope.isCoroutine=false)(oX:fd.scope.isGenerator=false)(gz:fd.body=.expr body)(De:s.heap.CodeRec fd.code fd.qualname)(h:aV (Wu prog w) A.in1 (bindArgs fd args) (fun binds aG=>aV (Wu prog w) A.in1 (newFunctionEnv fd.scope fd.globals fd.closure binds (fd.qualname++".<locals>.") (XU a) fd.code XW fd.builtins) (fun ag bW=>bW.heap.NoLimit/\cy (Wu prog w) A (.expr body ag) R bW) (fun e s'=>R (.error e) s') aG) (fun e s'=>R (.error e) s') s):cy (Wu prog w) A (.call (.ref a) args) R s:=by refine bj ?_ rfl;show aV _ A.in1 (callAny (.ref a) args) _ _ s;delta callAny;refine ab (ao (Wf ho ?_));refine cQ De fun c oc vs tq hc Fn KC hq=>?_;rw[cU];show aV _ _ (callFunction a fd args) _ _ _;delta callFunction;rw[hc,gz,oX,EG];rw[hc]at h;refine ab (ao (Wg Fn KC hq (ab (aj ?_))));exact ab (aH h (fun binds aG bF=>ab (aH bF (fun ag bW fK=>ab (ao (wpAny_enterFrame fK.1 zE (aj (And.intro rfl fK.2))))) fun x x h'=>h')) fun x x h'=>h')
end
section
variable {eM:WY} {K:Env->Prop}
noncomputable def Hf (p:Pos):Arguments:=⟨[],[⟨"k",XW,p⟩],XW,[],[],XW,[]⟩
theorem Er (e:bh ag sc)(fL:gH sc eM=true)(Hw:∀p∈eM.names,p.2≠.cell):bh (envX q eM L a cd (gJ ag eM.names [])) eM:=by
 refine bH (eF fL) fun h1 h2 h3=>?_;have hf:=ij e fL;have qt:∀x c,(x,c)∈gJ ag eM.names []->ag.cells.lookup x=XU c:=fun x c hm=>(jh hf hm).resolve_left nofun;refine⟨h1,rfl,rfl,fun x q=>q,fun x q=>q,fun x q=>q,fun x q=>.inr q,fun x q=>?_,fun x y c hx hy=>?_⟩
 ·refine XR q (fun q=>?_) fun q=>?_
  ·exact absurd rfl (Hw _ (mem_of_lookup q))
  ·refine aM (oj (ag:=ag) (aR:=[]) (.inl (mem_of_lookup q))) fun c hc=>?_;exact dZ hc
 ·exact e.inj x y c (qt x c (mem_of_lookup hx)) (qt y c (mem_of_lookup hy))
theorem Bu (hC:C.Ok)(hO:∀fr,cI (C.at fr) n)(hF:∀fr,b9 (C.at fr) Φ n)(hA:dy C (n+1) A)(e:bh ag sc)(i:In C ak ag ae s)(fL:gH sc eM=true)(Hw:∀p∈eM.names,p.2≠.cell)(oX:eM.isGenerator=false)(EG:eM.isCoroutine=false)(hk:eM.names.lookup ("k":WS)=XU .local)(hv:∀x sl,(b0 eM ae).lookup x=XU sl->∃d,sl=.val d)(ho:s.heap.get? a=XU (kla_obj "<lambda>" q (Hf ap) body eM (gJ ag eM.names []) pm c' Ie))(De:s.heap.CodeRec (.ref c') q)(r:Rep s.heap ak v dk)(h:ev Φ eM body ((("k":WS),.val dk)::b0 eM ae)=XU d):eN C A ak (WA (.ref a) [v]) d s:=by
 revert sc n Φ d ap pm Ie hC hO hF hA e i fL Hw oX EG hk hv ho De r h;refine no_implicit_lambda% (mX (bL (bL (bL (bL pQ ya) (bL G1 pR)) VV) VV) ?_ s C dk A ag eM q c' a ak ae v body);generalize gB _ _=tt;dsimp only[As];generalize tt.1.1.1.1=s,tt.1.1.1.2=C,tt.1.1.2.1=dk,tt.1.1.2.2=A,tt.1.2.1.1=ag,tt.1.2.1.2=eM,tt.1.2.2=q,tt.2.1.1.1=c',tt.2.1.1.2=a,tt.2.1.2=ak,tt.2.2.1.1=ae,tt.2.2.1.2=v,tt.2.2.2=body;intro sc n Φ d ap pm Ie hC hO hF hA e i fL Hw oX EG hk hv ho De r h;intro E Q hQ;have jc:=(eF fL).1;have hf:=ij e fL;have qt:∀x c,(x,c)∈gJ ag eM.names []->ag.cells.lookup x=XU c:=fun x c hm=>(jh hf hm).resolve_left nofun;refine g8 (kU (by have:=hA.depth;exact br 0x200291b0b02 rfl this) ho rfl EG oX rfl De ?_);have hb:bindArgs (kla_fn "<lambda>" q (Hf ap) body eM (gJ ag eM.names []) pm (.ref c') Ie) ⟨[v],[]⟩=pure [(("k":WS),v)]:=rfl;rw[hb];refine aj (ao (wpAny_newFunctionEnv Hw (fun x hx=>by rw[YA.mp hx];exact hk) (fun bF iF hsb=>?_) jc));have su:=fun b o e=>hsb.extBut b o (Nat.ne_of_lt (Xh e)) (Xl _ e);have x1:Ex C s {s with heap:=bF,toks:=s.toks+1}:=.of_keep su rfl rfl;refine⟨(x1.bs i.bs).noLimit hC,?_⟩;have Sa:s.heap.get? s.heap.objs.size=XW:=aF _;have hvL:=i.vo.new Sa;have h0:C.h₀.get? s.heap.objs.size=XW:=by cases e0:C.h₀.get? s.heap.objs.size with|none=>rfl|some o=>have:=i.bs.keep _ o e0 fun t=>hvL (i.vo.tabs _ t);rw[Sa]at this;exact aa this
 have w9:dy (C.more s.heap.objs.size) n (A.deeper (envX q eM s.heap.objs.size a (.ref c') (gJ ag eM.names []))):=hA.deeper jc rfl h0;have e':bh (envX q eM s.heap.objs.size a (.ref c') (gJ ag eM.names [])) eM:=Er e fL Hw;have V1:=i.vo.ex x1 (x1.bs i.bs);have i':In (C.more s.heap.objs.size) (fun b=>ak b\/b=s.heap.objs.size) (envX q eM s.heap.objs.size a (.ref c') (gJ ag eM.names [])) ((("k":WS),.val dk)::b0 eM ae) {s with heap:=bF,toks:=s.toks+1}:=by
  refine qV (id iF) fun oL es ep EE Dd hrL=>?_;refine⟨(x1.bs i.bs).more ⟨oL,es,ep,EE,Dd⟩,⟨fun b t=>.inl (i.vo.tabs b t),fun b t=>t.imp (i.vo.fZ b) id,fun b t=>t.elim (V1.there b) fun q=>⟨oL,q▸EE⟩⟩,fun x sl hx=>?_,fun x c hc=>?_⟩
  ·rw[YT]at hx;cases hb:x==("k":WS)with
   |true=>rw[hb]at hx;obtain rfl:=XT hx;have:=beq_iff_eq.mp hb;subst this;refine⟨v,⟨by decide,by decide,.inl ⟨hk,_,iF,by simp⟩⟩,?_⟩;exact r.mono fun b o q nn=>⟨su b o q,fun z=>z.elim nn fun z=>by rw[z,Sa]at q;exact aa q⟩
   |false=>
    rw[hb]at hx;refine aZ (eX hx) fun Rz NT=>?_;refine aM (hv _ _ hx) fun d' cU=>?_;subst cU;refine aE (i.lo x _ Rz) fun v' y0 hr=>?_;refine bH y0 fun g1 g2 g3=>?_;have zG:=mem_of_lookup NT;refine aM (hf _ zG rfl) fun c hc=>?_;have C7:=(eF fL).2.2 _ zG rfl;have hcv:s.heap.IsCell c (XU v'):=by
     refine XR g3 (fun y0=>?_) fun y1=>?_
     ·refine aZ y0 fun g4 y=>?_;exfalso;refine XR C7 (fun z=>?_) fun z=>?_
      ·have:=e.cel x z;rw[g4]at this;rcases this with⟨⟩
      ·refine XR (e.fre x z) (fun z=>?_) fun z=>?_<;>(rw[g4]at z;rcases z with⟨⟩)
     ·obtain⟨_,c2,g5,g6⟩:=y1;dsimp only at hc;rw[hc]at g5;obtain rfl:=XT g5;exact g6
    refine aM (oj (ag:=ag) (aR:=[]) (.inl zG)) fun c2 Aq=>?_;refine aM (dZ Aq) fun c3 hc3=>?_;have hc4:=qt x c3 (mem_of_lookup hc3);rw[hc]at hc4;obtain rfl:=XT hc4;refine aE hcv fun oc Fn KC=>?_;refine⟨v',⟨g1,g2,.inr ⟨.inr NT,c,hc3,oc,su _ _ Fn,KC⟩⟩,?_⟩;exact Rep.mono (fun b o q nn=>⟨su b o q,fun z=>z.elim nn fun z=>by rw[z,Sa]at q;exact aa q⟩) (show Rep s.heap ak v' d' from hr)
  ·refine fE (i.cells x c (qt x c (mem_of_lookup hc))) fun u oc Fn KC=>?_;exact⟨u,oc,su _ _ Fn,KC⟩
 refine Cb (cW (hC.at _) (hO _) (hF _) w9 body e' i' h _ _ fun u s2 x2 r2=>?_);refine hQ u s2 ?_ (r2.jI fun b z=>.inl z);refine⟨fun b o e1 t f=>x2.keep b o (su b o e1) t fun z=>z.elim f fun z=>(by rw[z,Sa]at e1;exact aa e1),fun b o f e1=>x2.nO b o (.inl f) (su b o e1),fun z=>(x2.bs i'.bs).less⟩
def I4 (s:WV)(a c:Int)(n:Nat)(res:WZ)(s':WV):Prop:=∃h' tk aR c',res=.ok (.ret (.ref s.heap.objs.size))/\s'={s with heap:=h',toks:=tk}/\(∀b o,s.heap.get? b=XU o->h'.get? b=XU o)/\h'.get? s.heap.objs.size=XU {cls:=.type "list",dict:=XW,data:=.seq aR c',slots:= #[]}/\ItemsOf (fun i v=>∃t,v=.int (a+i*c) t) aR n
theorem ug {a b c:Int}{t u v:Tok}{Q:List WJ->WV->Prop}(hh:A.handled=XW)(hr:IsRange s.heap r a b c t u v)(NZ:XJ.Range.small a b c=true)(hn:XA a b c=n)(hlen:n<=2^24)(hQ:∀h' tk aR,(∀b o,s.heap.get? b=XU o->h'.get? b=XU o)->ItemsOf (fun i v=>∃t,v=.int (a+i*c) t) aR n->Q aR.toList {s with heap:=h',toks:=tk}):Wn (Wu prog w) A (collect (.ref r)) Q E s:=by
 unfold collect;have key:codeAny (Wu prog w) A (.builtin "proto.collect" ⟨[.ref r],[]⟩) (I4 s a c n) s:=by refine Wz entry_proto_collect' ?_;refine Wk (wpAny_newList (Wa ⟨Code.quiet_builtin _ (by decide +kernel),Wz entry_list_iadd' ?_⟩));exact wpAny_extend_range hh (Xl _ hr) NZ hn hlen s.heap.objs.size _ 0 (Xk _ rfl) fun h' tk aR c' hk ho hi=>⟨h',tk,aR,c',rfl,rfl,fun b o e=>hk b o (Nat.ne_of_lt (Xh e)) (Xl _ e),ho,hi⟩
 refine Wk (wpAny_runValue (codeAny_mono key fun res s' N3=>?_));refine cQ N3 ?_;rintro h' tk aR c' (rfl) (rfl) hk y0;refine aZ y0 fun ho hi=>?_;refine Wk (Wf ho ?_);exact Wa (hQ h' tk aR hk hi)
theorem Ex.chg {t:Nat}(x:Ex C s₀ s)(ha:s₀.heap.get? a=XW)(hn:∀o,s.heap.get? a=XU o->∀vs,o.data≠.fields vs)(hs:Xo a s.heap h'):Ex C s₀ {s with heap:=h',toks:=t}:=by
 have keep:∀{b o},s.heap.get? b=XU o->b≠a->h'.get? b=XU o:=fun e hb=>hs _ _ hb e;refine⟨fun b o e nt nf=>keep (x.keep b o e nt nf) fun q=>(by rw[q,ha]at e;exact aa e),fun b o f e=>?_,fun z=>?_⟩
 ·refine aE (x.nO b o f e) fun o1 e1 d1=>?_;exact⟨o1,keep e1 fun q=>(by rw[q,ha]at e;exact aa e),d1⟩
 ·have z':=x.bs z;have hT:¬C.T a:=by intro y0;refine iM y0 fun c p q m=>?_;rcases z.tab c a p q m with e|⟨_,e,_⟩<;>(rw[ha]at e;exact aa e)
  refine⟨fun b o e nt=>keep (z'.keep b o e nt) fun q=>?_,fun c P p q m=>?_,z'.gens,z'.os,fun b f=>(z'.alive b f).data fun o e=>.of (keep e fun q=>?_)⟩
  ·have:=z.keep b o e nt;rw[q,ha]at this;exact aa this
  ·have hP:P≠a:=fun q'=>hT (q'▸⟨c,p,q,m⟩);refine XR (z'.tab c P p q m) (fun e=>?_) fun y1=>?_
   ·exact .inl (keep e hP)
   ·refine aE y1 fun b e r=>?_;refine .inr ⟨b,keep e hP,?_⟩;refine cQ r fun b' o vs t' e1 e2 e3 e4=>?_;rcases e1 with⟨⟩;exact⟨b,o,vs,t',rfl,keep e2 (fun q=>hn o (q▸e2) vs e3),e3,e4⟩
  ·subst q;refine jX (z.alive b f) fun o' y y e' y=>?_;rw[ha]at e';exact aa e'
theorem Ex.fresh (bs:Bs C s₀)(x:Ex C s₀ s)(h:s.heap.get? a=XW):s₀.heap.get? a=XW:=by
 cases e0:s₀.heap.get? a with
 |none=>rfl
 |some o=>
  exfalso;by_cases t:C.T a
  ·refine iM t fun c2 p2 q2 m=>?_;rcases(x.bs bs).tab c2 _ p2 q2 m with e'|⟨_,e',_⟩<;>(rw[h]at e';exact aa e')
  ·refine aE (x.data e0 t) fun o' e' y=>?_;rw[h]at e';exact aa e'
set_option tactic.hygienic true in
theorem In.grow {N:XO->Prop}(i:In C ak ag ae s₀)(x:Ex C s₀ s)(hN:∀b,N b->s₀.heap.get? b=XW/\∃o,s.heap.get? b=XU o):In C (fun b=>ak b\/N b) ag ae s:=by
 have i':=i.ex x;have V':=i'.vo;have rm:∀{v:WJ}{d:Dat},Rep s₀.heap ak v d->Rep s.heap (fun b=>ak b\/N b) v d:=fun r=>r.mono fun b o e nn=>⟨x.keep b o e (fun t=>nn (i.vo.tabs b t)) fun f=>nn (i.vo.fZ b f),fun z=>z.elim nn fun z=>by rw[(hN b z).1]at e;exact aa e⟩;have rms:∀{v:List WJ}{d:List Dat},aK s₀.heap ak v d->aK s.heap (fun b=>ak b\/N b) v d:=fun r=>r.mono fun b o e nn=>⟨x.keep b o e (fun t=>nn (i.vo.tabs b t)) fun f=>nn (i.vo.fZ b f),fun z=>z.elim nn fun z=>by rw[(hN b z).1]at e;exact aa e⟩;refine⟨i'.bs,⟨fun b t=>.inl (i.vo.tabs b t),fun b f=>.inl (i.vo.fZ b f),fun b z=>z.elim (V'.there b) fun z=>(hN b z).2⟩,fun y sl hy=>?_,i'.cells⟩;refine aE (i.lo y sl hy) fun v hv hr=>?_;refine⟨v,hv.ex i.bs x,?_⟩;rcases sl with⟨⟩;case val d=>exact rm hr
 case own d=>
  obtain⟨ro,a,e,Mf,hL⟩:=hr;refine⟨?_,a,e,.inl Mf,hL⟩;rcases ro with⟨⟩;case rep r=>exact .rep (rm r)
  case list ho hc hn hd hr=>exact .list (x.keep _ _ ho (i.bs.dF ho (by rw[hd];nofun)) (i.bs.dT ho (by rw[hd];nofun))) hc hn hd (rms hr)
  case bz ho hc hd=>exact .bz (x.keep _ _ ho (i.bs.dF ho (by rw[hd];nofun)) (i.bs.dT ho (by rw[hd];nofun))) hc hd
theorem Bx {a b:List Dat}{Q:Bool->WV->Prop}(hu:A.units+100<cLine)(ra:Rep s.heap ak v (.list a))(rb:Rep s.heap ak u (.list b))(h:jH .Lt a b 0=XU r)(hQ:Q r s):Wn (Wu prog w) A (keyLt' oneType' v u) Q E s:=by
 refine cQ (bY (.rep ra)) ?_;rintro l y0 vs k1 (rfl) ho hc y1;refine bH y1 fun hn hd hr=>?_;obtain⟨c1,d1,Je,wm⟩:=y0;refine cQ (bY (.rep rb)) ?_;rintro l2 y0 ws k2 (rfl) mE Aq y1;refine bH y1 fun hn2 hd2 sm=>?_;obtain⟨c2,d2,SI,tK⟩:=y0;simp only at hc hd Aq hd2;subst hc hd Aq hd2;rw[keyLt'_oneType,oneLt'_eq];simp only[if_true];refine Wk (wpAny_cRoomFor (aT 0x100164a0b02 rfl hu) ?_);refine Wk (wpAny_callSpecialIfBound?_slot ⟨_,ho,rfl⟩ Xu ?_);refine wpAny_call (codeAny_call_builtin Xu.plain PySem.F.entry_list_lt (Xu.check _ _ _ _ _ _ _ _ ⟨_,ho,rfl⟩ (PySem.F.args_list_lt_2 _ _) ?_));refine wpAny_mono (C1 l l2 vs.toArray ws.toArray k1 k2 d1 d2 wm tK h prog w A (fun res s'=>res=.ok (.ret (.bool r))/\s'=s) s ⟨ho,mE,by exact aT 0x150a0b0164a0b02 rfl hu,by simpa using hr,by simpa using sm,rfl,rfl⟩) (fun fin s' hf=>?_) fun x x hf=>by cases hf.1
 rcases fin with⟨⟩;case done f=>refine aZ hf fun e1 e2=>?_;rcases e1 with⟨⟩;subst e2;exact V8 hQ
 case again c=>refine⟨hf.1,codeAny_mono hf.2 fun res s' N3=>?_⟩;refine aZ N3 fun e1 e2=>?_;subst e1 e2;exact V8 hQ
theorem u7 {α:Type}{cmp:Nat->Nat->(Bool->WV->Prop)->WV->Prop}{Q:α->WV->Prop}{P:α->Prop}(hc:∀i j(D:Bool->WV->Prop),i<N->j<N->D (f i j) s->cmp i j D s):∀(t:KasT α),Ks.gx N t P->Q (Ks.gF f t) s->t.kasWp cmp Q s| .ret a,_,h=>h| .ask i j k,x,h=>hc i j _ x.1 x.2.1 (u7 hc (k (f i j)) (x.2.2 _) h)
theorem FD {Q:PUnit->WV->Prop}(I:Nat->WV->Prop):∀(vs:List WJ)(i:Nat)(s:WV),I i s->(∀j x s',vs[j]?=XU x->I (i+j) s'->aV M A (body x ⟨⟩) (fun r gv=>r=.yield ⟨⟩/\I (i+j+1) gv) E s')->(∀s',I (i+vs.length) s'->Q ⟨⟩ s')->aV M A (forIn vs PUnit.unit body) Q E s:=by
 intro vs;induction vs with
 |nil=>intro i s hI _ done;rw[List.forIn_nil];exact aj (done s (by simpa using hI))
 |cons x vs ih=>
  intro i s hI step done;rw[Zq];refine ab (aH (step 0 x s (by simp) hI) (fun r s' h'=>?_) fun z z e=>e);refine aZ h' ?_;rintro(rfl) hI';refine ih (i+1) s' hI' (fun j y gv hy hJ=>?_) fun gv hd=>done gv ?_
  ·have e:i+(j+1)=i+1+j:=aT 0x190bb91b0b21 rfl;have h1:=step (j+1) y gv (by simpa using hy) (by rw[e];exact hJ);rw[e]at h1;exact h1
  ·have e:i+(x::vs).length=i+1+vs.length:=by rw[Y8];exact aT 0x190bb91b0b21 rfl
   rw[e];exact hd
theorem dy.in1 (h:dy C (n+1) A):dy C n A.in1.in1:=⟨h.handled,by have:=h.depth;show A.depth+n< _;exact br 0x210b0291b0b02 rfl this,by have:=h.units;show A.units+1+1+10*n+1000< _;exact br 0x2000003e88f10ad990bbbb02000003e88f91b0ad0bb02 rfl this,h.frames⟩
theorem oT {ks:List WJ}(hl:ks.length=vs.length){i:Nat}(hi:i<vs.length):kas_item (ks.toArray.zip vs.toArray) i=(ks.getD i .none,vs.getD i .none):=by
 have h1:i<(ks.toArray.zip vs.toArray).size:=by simp;exact br 0x10df201201023 rfl hl hi
 have h2:i<ks.length:=br 0x201201023 rfl hl hi;unfold kas_item;rw[Z9];have h3:i<(ks.zip vs).length:=by simp;exact br 0x12df002001003 rfl hi h2
 simp[hi,h2,Zk h3,List.getElem_zip]
theorem Ks.u9 {α:Type}{P:α->Prop}:∀(t:KasT α),Ks.gx N t P->P (Ks.gF f t)| .ret _,h=>h| .ask i j k,h=>Ks.u9 (k (f i j)) (h.2.2 _)
theorem r8 {st:SortSt}{P:Xr->WV->Prop}(hk:s.heap.get? kS=XU (seqObj "list" ks e))(ha:s.heap.get? a=XU (seqObj "list" #[] e1))(BL:kS≠a)(hks:ks.size<64)(ho:(arrOf st).map (·.2)=out)(RL:out.size<64)(hf:failedOf st=XW)(hP:∀h' c,h'.get? a=XU (seqObj "list" out c)->(∀b,b≠a->b≠kS->h'.get? b=s.heap.get? b)->(∃o,h'.get? kS=XU o)->P (.done (.ret .none)) {s with heap:=h'}):Wn (Wu prog w) A (ksk_tail a false e1 (.ref kS) st) P E s:=by
 have s1:=Xm s.heap kS (Obj.mapSeq fun x=>(#[]:Array WJ))
 have Vi:=(s1.2 a BL.symm).trans ha
 have s2:=Xm (s.heap.update kS (Obj.mapSeq fun x=>(#[]:Array WJ))) a (Obj.mapSeq fun x=>out)
 have Aq:=get?_update_seq Vi fun x=>out
 unfold ksk_tail
 rw[ho]
 refine Wk (listUpdate_at hk rfl ?_ (by rw[Wr];exact bq 0x10000008f0140a002 rfl hks) (X1 _))
 refine Wk (wpAny_letGo ?_)
 refine Wk (seqEpoch_at Vi rfl ?_)
 refine Wk (listUpdate_at Vi rfl ?_ (X1 _) (by show out.size<=_;rw[Wr];exact bq 0x9010000008fb0140a002 rfl RL))
 rw[hf]
 simp only[bne_self_eq_false,ZY,if_false]
 exact Wa (hP _ _ Aq (fun b h1 h2=>(s2.2 b h1).trans (s1.2 b h2)) ⟨_,(s2.2 kS BL).trans (get?_update_seq hk fun x=>(#[]:Array WJ))⟩)
theorem range_getD (vs:List WJ):(Yy vs.length).map (fun i=>vs.getD i .none)=vs:=by refine List.ext_getElem (by simp) fun i h1 h2=>?_;rw[List.getElem_map,List.getElem_range,Zp,Zk h2];rfl
theorem Jg {ks:List WJ}(hl:ks.length=vs.length):(ks.toArray.zip vs.toArray).map (·.2)=vs.toArray:=by apply Array.toList_inj.mp;simp[List.map_snd_zip,hl]
theorem pL (h:n<2):Ks.eV g n=Yy n:=V7 h
theorem yF (h:¬n<2):Ks.eV g n=(Ks.gF g (kas_sort n)).toList:=V6 h
theorem Fv {ks:List WJ}(hl:ks.length=vs.length):(ks.toArray.zip vs.toArray).size=vs.length:=by simp[hl]
theorem HP {ks:List WJ}{i:Nat}{v:WJ}(h:ks[i]?=XU v):ks.getD i .none=v:=by rw[Zp,h];rfl
theorem AZ {h:Xp}{ak:XO->Prop}{ks:List WJ}{kd:List (List Dat)}(rk:aK h ak ks (kd.map .list)){i:Nat}(hi:i<kd.length):Rep h ak (ks.getD i .none) (.list kd[i]):=by refine aE (rk.get (i:=i) (d:=.list kd[i]) (by simp[hi])) fun v hv hr=>?_;rw[HP hv];exact hr
theorem Es {prog:W8}{w:WD}{kS:XO}{e e1:Nat}{ks:List WJ}{kd:List (List Dat)}{g:Nat->Nat->Bool}{P:Xr->WV->Prop}(hk:s.heap.get? kS=XU (seqObj "list" ks.toArray e))(ha:s.heap.get? a=XU (seqObj "list" #[] e1))(BL:kS≠a)(hu:A.units+100<cLine)(hl:ks.length=vs.length)(ua:vs.length<64)(rk:aK s.heap ak ks (kd.map .list))(hg:∀i j x y,kd[i]?=XU x->kd[j]?=XU y->jH .Lt x y 0=XU (g i j))(hP:∀h' c,h'.get? a=XU (seqObj "list" ((Ks.eV g vs.length).map fun i=>vs.getD i .none).toArray c)->(∀b,b≠a->b≠kS->h'.get? b=s.heap.get? b)->(∃o,h'.get? kS=XU o)->P (.done (.ret .none)) {s with heap:=h'}):Wn (Wu prog w) A (ksk_end a false vs.toArray e1 (.ref kS) ks.toArray) P E s:=by
 have Kx:kd.length=vs.length:=by have:=rk.length;rw[Y4]at this;exact br 0x1222021023 rfl hl this
 unfold ksk_end
 dsimp only
 rw[V6 ZX,V6 ZX]
 have hsv:vs.toArray.size=vs.length:=by simp
 by_cases h2:vs.length<2
 ·rw[hsv,V7 h2,V7 h2];refine Wk (Wa ?_);rw[StateT.run_pure];refine Wk (Wa ?_);dsimp only;refine r8 hk ha BL (by simp;exact aT 0x40a0002a101023 rfl hl h2) ?_ ?_ rfl hP
  ·show(ks.toArray.zip vs.toArray).map (·.2)=_;rw[pL h2,range_getD];exact Jg hl
  ·rw[pL h2,range_getD];exact ua
 ·rw[hsv,V6 h2,V6 h2];refine Wk (kas_kind (T:=.type "list") (by exact aT 0x2a102a1031023 rfl hl h2) (fun v hv=>?_) (by decide) (by rfl) ?_)
  ·obtain⟨i,hi,rfl⟩:=List.getElem_of_mem hv;have hr:=AZ rk (i:=i) (by rw[Kx,<-hl];exact hi);rw[Zp,Zk hi]at hr;refine cQ (bY (.rep hr)) fun l o us k' e' ho hc y0=>?_;refine bH y0 fun hn hd sm=>?_;dsimp only[Option.getD_some]at e';rw[e'];intro A' Q' E' s' k q;exact wpAny_typeOf (T:="list") ⟨_,k _ _ ho,hc⟩ q
  ·have hz:=Fv hl;have e0:SortSt.mk' oneType' (ks.toArray.zip vs.toArray) #[] 7 XW=kas_st oneType' (ks.toArray.zip vs.toArray) (Yk (Yy vs.length)):=by unfold kas_st;have:=kas_range (ks.toArray.zip vs.toArray);rw[hz]at this;rw[this]
   have post:=Ks.uF (N:=vs.length) (by exact bq 0x8002a0032 rfl h2);have run:=kas_runs (prog:=prog) (w:=w) (A:=A) (E:=E) (κ:=oneType') (it:=ks.toArray.zip vs.toArray) (s:=s) (Q:=fun z Qq s'=>s'=s/\failedOf Qq=XW/\(arrOf Qq).size=vs.length/\(arrOf Qq).map (·.2)=((Ks.eV g vs.length).map fun i=>vs.getD i .none).toArray) (G:=fun p s'=>s'=s/\p=Ks.gF g (kas_sort vs.length)) (by exact bq 0x2a102a0032 rfl h2) ua (fun p' Qq s' a1 a2 a3 a4=>⟨a4.1,a3,by rw[a2,Array.size_map];exact a1,?_⟩) (u7 (f:=g) (fun i j D hi hj hD=>?_) _ post ⟨rfl,rfl⟩)
   ·rw[<-e0]at run;refine Wk (wpAny_mono run ?_ fun z z e=>e);intro y0 s' y1;obtain⟨⟨⟩,Qq⟩:=y0;(refine lH y1 ?_;clear y1;rintro(rfl) hf Fj ho);refine r8 hk ha BL (by simp;exact aT 0x40a0040a101023 rfl hl ua) ho ?_ hf hP;rw[<-ho,Array.size_map];exact aT 0x40a1001240a003 rfl ua Fj
   ·rw[a2];have hp:=a4.2;apply Array.toList_inj.mp;rw[Array.map_map,Array.toList_map];rw[yF h2,<-hp];refine YR fun i hi=>?_;have jw:=Ks.u9 (f:=g) _ post i (by rw[<-hp];exact hi);show(kas_item _ i).2=_;rw[oT hl jw]
   ·unfold kas_cmp;rw[oT hl hi,oT hl hj];exact Bx hu (AZ rk (Kx▸hi)) (AZ rk (Kx▸hj)) (hg i j _ _ (Zk _) (Zk _)) hD
structure IZ (C:Cx) (n:Nat) (ak:XO->Prop) (s₀:WV) (f:XO) (ds:List Dat) (kd:List (List Dat)):Prop where
 len:kd.length=ds.length
 call:∀{A:XN}{s:WV}{N:XO->Prop},dy C (n+1) A->Ex C s₀ s->(∀b,N b->s₀.heap.get? b=XW/\∃o,s.heap.get? b=XU o)->∀(j:Nat)(d:Dat)(k:List Dat),ds[j]?=XU d->kd[j]?=XU k->∀v:WJ,Rep s.heap (fun b=>ak b\/N b) v d->
  eN C A (fun b=>ak b\/N b) (WA (.ref f) [v]) (.list k) s
theorem Bv (hC:C.Ok)(hA:dy C (n+1) A)(tu:Bs C s₀)(Al:bw C ak s₀)(x:Ex C s₀ s)(hf:IZ C n ak s₀ f ds kd)(ho:s.heap.get? a=XU (seqObj "list" vs.toArray m))(ha:s₀.heap.get? a=XW)(rv:aK s₀.heap ak vs ds)(ua:ds.length<64)(hg:∀i j x y,kd[i]?=XU x->kd[j]?=XU y->jH .Lt x y 0=XU (g i j)){P:Xr->WV->Prop}(hP:∀s' c,Ex C s₀ s'->s'.heap.get? a=XU (seqObj "list" ((Ks.eV g ds.length).map fun i=>vs.getD i .none).toArray c)->P (.done (.ret .none)) s'):aV (Wu pw Wd) A (ksk_tree a (.ref f) false) P E s:=by
 revert m g hC hA tu Al x hf ho ha rv ua hg hP;refine no_implicit_lambda% (mX (bL (bL (bL (bL pQ ya) (bL pQ pR)) VV) VV) ?_ s C s₀ A vs a kd ak f E ds P n);generalize gB _ _=tt;dsimp only[As];generalize tt.1.1.1.1=s,tt.1.1.1.2=C,tt.1.1.2.1=s₀,tt.1.1.2.2=A,tt.1.2.1.1=vs,tt.1.2.1.2=a,tt.1.2.2=kd,tt.2.1.1.1=ak,tt.2.1.1.2=f,tt.2.1.2=E,tt.2.2.1.1=ds,tt.2.2.1.2=P,tt.2.2.2=n;intro m g hC hA tu Al x hf ho ha rv ua hg hP;have I9:vs.length=ds.length:=rv.length;have tW:∀{xs:Array WJ}{k:Nat}{h:Xp}{b:XO},h.get? b=XU (seqObj "list" xs k)->∀o,h.get? b=XU o->∀vs,o.data≠.fields vs:=fun e o e' vs q=>by rw[e]at e';obtain rfl:=XT e';rcases q with⟨⟩
 have s1:=Xm s.heap a (Obj.mapSeq fun v=>(#[]:Array WJ));obtain⟨e1,Jb⟩:∃e1,(s.heap.update a (Obj.mapSeq fun v=>(#[]:Array WJ))).get? a=XU (seqObj "list" #[] e1):=⟨_,get?_update_seq ho fun v=> #[]⟩;have x1:Ex C s₀ {s with heap:=s.heap.update a (Obj.mapSeq fun v=>(#[]:Array WJ))}:=x.chg ha (tW ho) s1.extBut;unfold ksk_tree;refine ab (ao (listItems_at ho rfl ?_));refine ab (ao (listUpdate_at ho rfl ?_ (by rw[Yo,Wr];exact aT 0x10000008f1101240a003 rfl ua I9) (X1 _)));refine ab (ao (seqEpoch_at Jb rfl ?_));refine ab (ao (wpAny_newTuple ?_ (by show vs.length<=_;rw[Wr];exact aT 0x10000008f1101240a003 rfl ua I9)));refine ab (ao (wpAny_newList ?_ (X1 _)));refine aA ?_;generalize hkS:(({s with heap:=s.heap.update a (Obj.mapSeq fun v=>(#[]:Array WJ))}:WV).heap.push {cls:=.type "tuple",data:=.seq vs.toArray.toList.toArray}).objs.size=kS;have x2:Ex C s₀ {s with heap:=(s.heap.update a (Obj.mapSeq fun v=>(#[]:Array WJ))).push {cls:=.type "tuple",data:=.seq vs.toArray.toList.toArray}}:=x1.trans (.of_keep (fun v v e=>Xl _ e) rfl rfl);have Oc:((s.heap.update a (Obj.mapSeq fun v=>(#[]:Array WJ))).push {cls:=.type "tuple",data:=.seq vs.toArray.toList.toArray}).get? kS=XW:=by rw[<-hkS];exact aF _
 have hk0:s₀.heap.get? kS=XW:=x2.fresh tu Oc;have mE:((s.heap.update a (Obj.mapSeq fun v=>(#[]:Array WJ))).push {cls:=.type "tuple",data:=.seq vs.toArray.toList.toArray}).get? a=XU (seqObj "list" #[] e1):=Xl _ Jb;have BL:kS≠a:=fun q=>by rw[q,mE]at Oc;rcases Oc with⟨⟩
 have x3:Ex C s₀ {s with heap:=((s.heap.update a (Obj.mapSeq fun v=>(#[]:Array WJ))).push {cls:=.type "tuple",data:=.seq vs.toArray.toList.toArray}).push {cls:=.type "list",data:=.seq ([]:List WJ).toArray}}:=x2.trans (.of_keep (fun v v e=>Xl _ e) rfl rfl);have Ug:(((s.heap.update a (Obj.mapSeq fun v=>(#[]:Array WJ))).push {cls:=.type "tuple",data:=.seq vs.toArray.toList.toArray}).push {cls:=.type "list",data:=.seq ([]:List WJ).toArray}).get? a=XU (seqObj "list" #[] e1):=Xl _ mE;have Pu:(((s.heap.update a (Obj.mapSeq fun v=>(#[]:Array WJ))).push {cls:=.type "tuple",data:=.seq vs.toArray.toList.toArray}).push {cls:=.type "list",data:=.seq ([]:List WJ).toArray}).get? kS=XU (seqObj "list" ([]:List WJ).toArray 0):=by rw[<-hkS];exact Xk _ rfl
 unfold ksk_rest;refine ab (gZ ?_);have hN:∀{s':WV}{kA:List WJ}{e:Nat},s'.heap.get? kS=XU (seqObj "list" kA.toArray e)->s'.heap.get? a=XU (seqObj "list" #[] e1)->∀b,(b=a\/b=kS)->s₀.heap.get? b=XW/\∃o,s'.heap.get? b=XU o:=fun h1 h2 b q=>by
  refine XR q (fun y2=>?_) fun y3=>?_
  ·obtain rfl:=y2;exact⟨ha,_,h2⟩
  ·obtain rfl:=y3;exact⟨hk0,_,h1⟩
 rw[<-Array.forIn_toList];refine ab (FD (fun i s'=>∃kA e,Ex C s₀ s'/\s'.heap.get? kS=XU (seqObj "list" kA.toArray e)/\s'.heap.get? a=XU (seqObj "list" #[] e1)/\aK s'.heap (fun b=>ak b\/(b=a\/b=kS)) kA ((kd.take i).map .list)) _ 0 _ ⟨[],0,x3,Pu,Ug,.nil⟩ ?step ?done);case step=>
  intro j y s' hy y0;refine mi y0 fun kA e x' Ap PB rk=>?_;simp only[X2]at rk ⊢;have T8:vs[j]?=XU y:=by simpa using hy
  have hj:j<vs.length:=(Zh.mp T8).1;obtain⟨d,hd⟩:∃d,ds[j]?=XU d:=⟨_,Zk (br 0x1200201023 rfl I9 hj)⟩;obtain⟨k,Ul⟩:∃k,kd[j]?=XU k:=⟨_,Zk (by have:=hf.len;exact cX 0x3201320201024 rfl I9 hj this)⟩;refine aE (rv.get hd) fun v' Ja rv'=>?_;rw[T8]at Ja;obtain rfl:=XT Ja;have ry:Rep s'.heap (fun b=>ak b\/(b=a\/b=kS)) y d:=rv'.mono fun b o q nn=>⟨x'.keep b o q (fun t=>nn (Al.tabs b t)) fun t=>nn (Al.fZ b t),fun z=>z.elim nn fun z=>by rw[(hN Ap PB b z).1]at q;exact aa q⟩;have hz:kA.length<=vs.length:=by have:=rk.length;rw[Y4,YV]at this;exact cX 0x12130df221003 rfl hj this
  have PN:=x'.bs tu;refine ab (ix (hf.call hA x' (hN Ap PB) j d k hd Ul y ry _ _ fun u s2 x2 r2=>?_));dsimp only;have nT:∀{b:XO}{xs:Array WJ}{m:Nat},s'.heap.get? b=XU (seqObj "list" xs m)->s2.heap.get? b=XU (seqObj "list" xs m):=fun e=>x2.keep _ _ e (PN.dF e nofun) (PN.dT e nofun);have sv:=nT Ap;have ha2:=nT PB;have sb:=Xm s2.heap kS (Obj.mapSeq (·.push u));have EF:=get?_update_seq sv (·.push u);refine ab (ao (listUpdate_at sv rfl ?_ (by rw[Yo,Wr];exact br 0x10000008f2112101240a004 rfl ua I9 hz) (by rw[Array.size_push,Yo,Wr];exact br 0x9010000008fb92b112101240a004 rfl ua I9 hz)));have RJ:kA.toArray.push u=(kA++[u]).toArray:=by simp
  rw[RJ]at EF;have ek:(kd.take (j+1)).map Dat.list=(kd.take j).map Dat.list++[Dat.list k]:=by rw[Yn,Ul];simp
  refine aj ⟨rfl,kA++[u],_,(x'.trans x2).chg hk0 (tW sv) sb.extBut,EF,(sb.2 a BL.symm).trans ha2,?_⟩;rw[ek];have mv:∀b o,s2.heap.get? b=XU o->¬(ak b\/(b=a\/b=kS))->(s2.heap.update kS (Obj.mapSeq (·.push u))).get? b=XU o/\¬(ak b\/(b=a\/b=kS)):=fun b o q nn=>⟨(sb.2 b fun z=>nn (.inr (.inr z))).trans q,nn⟩;refine aK.append (aK.mono mv ?_) (.cons (r2.mono mv) .nil);exact rk.mono fun b o q nn=>⟨x2.keep b o q (fun t=>nn (.inl (Al.tabs b t))) fun t=>nn (.inl (Al.fZ b t)),nn⟩
 case done=>
  intro s' y0;refine mi y0 fun kA e x' Ap PB rk=>?_;have e3:kd.take (0+vs.toArray.toList.length)=kd:=Ym (by have:=hf.len;simp;exact br 0x211221023 rfl I9 this);rw[e3]at rk;refine ab (ao (listItems_at Ap rfl ?_));have HC:kA.length=vs.length:=by have:=rk.length;have:=hf.len;rw[Y4]at *;exact cX 0x221323221024 rfl I9 (by assumption) this
  have hu:=hA.units;refine ao (Es (ak:=fun b=>ak b\/(b=a\/b=kS)) Ap PB BL (br 0x264a0b02000003e88f91b0ad0bb02 rfl hu) HC (aT 0x40a1001240a003 rfl ua I9) rk hg fun h' c h1 h2 h3=>?_);rw[I9]at h1;have xk:Ex C s₀ {s' with heap:=h'}:=by
   have y1:Ex C s₀ {s' with heap:=h'}:=by
    have keep:∀{b o},s'.heap.get? b=XU o->b≠a->b≠kS->h'.get? b=XU o:=fun e q1 q2=>(h2 _ q1 q2).trans e;have nn:∀{b o},s₀.heap.get? b=XU o->b≠a/\b≠kS:=fun e=>⟨fun q=>(by rw[q,ha]at e;exact aa e),fun q=>(by rw[q,hk0]at e;exact aa e)⟩;refine⟨fun b o e nt nf=>keep (x'.keep b o e nt nf) (nn e).1 (nn e).2,fun b o f e=>?_,fun z=>?_⟩
    ·refine aE (x'.nO b o f e) fun o1 e1 d1=>?_;exact⟨o1,keep e1 (nn e).1 (nn e).2,d1⟩
    ·have z':=x'.bs z;refine⟨fun b o e nt=>keep (z'.keep b o e nt) (nn (z.keep b o e nt)).1 (nn (z.keep b o e nt)).2,fun c P p q m=>?_,z'.gens,z'.os,fun b f=>(z'.alive b f).data fun o e=>?_⟩
     ·have HM:P≠a/\P≠kS:=by rcases z.tab c P p q m with e|⟨_,e,_⟩<;>exact nn e
      refine XR (z'.tab c P p q m) (fun e=>?_) fun y2=>?_
      ·exact .inl (keep e HM.1 HM.2)
      ·refine aE y2 fun b e r=>?_;refine .inr ⟨b,keep e HM.1 HM.2,?_⟩;refine cQ r fun b' o us t' q1 q2 q3 q4=>?_;rcases q1 with⟨⟩;exact⟨b,o,us,t',rfl,keep q2 (fun q=>tW PB o (q▸q2) us q3) (fun q=>tW Ap o (q▸q2) us q3),q3,q4⟩
     ·refine jX (z.alive b f) fun o' v v e' v=>?_;exact .of (keep e (nn e').1 (nn e').2)
   exact y1
  exact hP {s' with heap:=h'} c xk h1
end
section
variable {eM:WY}
theorem CodeRec.ex (bs:Bs C s)(x:Ex C s s')(h:s.heap.CodeRec cd q):s'.heap.CodeRec cd q:=by
 refine cQ h fun c o vs t e1 e2 e3 e4=>?_;refine⟨c,o,vs,t,e1,x.keep c o e2 ?_ (bs.dT e2 (by rw[e3];nofun)),e3,e4⟩;intro y0;refine iM y0 fun c' p q' m=>?_;refine XR (bs.tab c' c p q' m) (fun e=>?_) fun y1=>?_
 ·rw[e2]at e;obtain rfl:=XT e;rcases e3 with⟨⟩;simp at e4
 ·refine aE y1 fun b e y=>?_;rw[e2]at e;obtain rfl:=XT e;rcases e3 with⟨⟩;simp[rawInt]at e4
theorem qC {id:String}{args:Args}(hk:builtinKind id=XW)(ha:argsOk id args):checkBuiltinCall id args=pure ():=by simp only[checkBuiltinCall,hk];cases VP:Manifest.signature? id with|none=>rfl|some sig=>simpa only[argsOk,VP]using ha
theorem wh (hC:C.Ok)(hA:dy C (n+2) A)(tu:Bs C s₀)(Al:bw C ak s₀){f:XO}{x:WJ}{ds:List Dat}{kd:List (List Dat)}(hf:IZ C n ak s₀ f ds kd)(iV:∀{A':XN}{E:WJ->WV->Prop}{Q:List WJ->WV->Prop},A'.handled=XW->(∀us s1,Ex C s₀ s1->aK s₀.heap ak us ds->Q us s1)->Wn (Wu pw Wd) A' (collect x) Q E s₀)(ua:ds.length<64){g:Nat->Nat->Bool}(hg:∀i j x y,kd[i]?=XU x->kd[j]?=XU y->jH .Lt x y 0=XU (g i j)){Q:WJ->WV->Prop}(hQ:∀a s' c us,Ex C s₀ s'->s₀.heap.get? a=XW->aK s₀.heap ak us ds->s'.heap.get? a=XU (seqObj "list" ((Ks.eV g ds.length).map fun i=>us.getD i .none).toArray c)->Q (.ref a) s'):aV (Wu pw Wd) A (WA (.builtin "sorted") [x] [(WN "key",.ref f)]) Q E s₀:=by have hA1:=hA.in1;refine g8 (bj ?_ rfl);show aV _ A.in1 (checkBuiltinCall "sorted" ⟨[x],[(WN "key",.ref f)]⟩>>=fun z=>again (.builtin "sorted" ⟨[x],[(WN "key",.ref f)]⟩)) _ _ s₀;rw[qC kind_sorted (ksk_s1 _ _)];refine ab (aj (aj ⟨Wt plain_sorted _,eQ entry_sorted (by rfl) ?_⟩));rw[XM plain_sorted _];unfold XJ.«sorted»;refine ab (aj ?_);refine ab (ao (iV hA.handled fun us s1 x1 rv=>?_));have hul:=rv.length;refine ab (ao (wpAny_newList ?_ (by rw[Wr];exact aT 0x10000008f1101240a003 rfl ua hul)));have ho:({s1 with heap:=s1.heap.push {cls:=.type "list",data:=.seq us.toArray}}:WV).heap.get? s1.heap.objs.size=XU (seqObj "list" us.toArray 0):=Xk _ rfl;have ha:=x1.fresh tu (aF _);have x2:Ex C s₀ {s1 with heap:=s1.heap.push {cls:=.type "list",data:=.seq us.toArray}}:=x1.trans (.of_keep (fun z z e=>Xl _ e) rfl rfl);refine ab (aA (g8 (bj ?_ rfl)));refine ab (ao (slot_list_sort.check _ _ _ _ _ _ _ _ ⟨_,ho,rfl⟩ (ksk_l1 _ _) (aj ⟨Wt slot_list_sort.plain _,eQ entry_list_sort (by rfl) ?_⟩)));rw[XM slot_list_sort.plain _,ksk_t1];refine Bv hC hA1 tu Al x2 hf ho ha rv ua hg fun s' c x3 h3=>?_;exact aj (hQ _ s' c us x3 ha rv h3)
theorem qX {Q:List WJ->WV->Prop}(h:aV M A (eval value ag) (fun v aG=>Q [v] aG) E s):aV M A (evalAll ((backToKw pos (keywordEach [⟨XU name,value,kp⟩] ag)).map (·.2))) Q E s:=by show aV M A (evalAll [do let v <-eval value ag;standAt pos;pure v]) Q E s;rw[evalAll];refine ab (ab (aH h (fun v aG bF=>ab (aw (aj ?_))) fun y y x=>x));exact ab (aA (aj (aj bF)))
theorem xJ {M:Model}{kp:Pos}{id:String}{e:Expr}{name:WS}{value:Expr}{Q:WJ->WV->Prop}(Fm:starEach [e] ag=[(false,eval e ag)])(h:aV M A (spliced (backTo pos (starEach [e] ag))) (fun vs aG=>aV M A (eval value ag) (fun kv bW=>aV M A (WA (.builtin id) vs [(name,kv)]) Q E bW) E aG) E s):aV M A (callWith pos (.builtin id) [] (backTo pos (starEach [e] ag)) (backToKw pos (keywordEach [⟨XU name,value,kp⟩] ag))) Q E s:=by
 unfold callWith;have hb:backTo pos (starEach [e] ag)=[(false,eval e ag)]:=by rw[Fm];rfl
 have Om:(backTo pos (starEach [e] ag)).any (·.1)=false:=by rw[hb];rfl
 refine ab (aA ?_);have ha:aV M A (evalArgs (.builtin id) true (backTo pos (starEach [e] ag)) (backToKw pos (keywordEach [⟨XU name,value,kp⟩] ag))) (fun a aG=>aV M A (WA (.builtin id) a.pos a.kw) Q E aG) E s:=by rw[hb]at h ⊢;unfold evalArgs;refine ab (aH h (fun vs s' h'=>?_) fun y y x=>x);refine aA ?_;rw[V7 (by rfl)];exact ab (qX (aH h' (fun kv bW fK=>ab (aj (aj fK))) fun y y x=>x))
 refine aH ha (fun a aG bF=>ab (aw ?_)) fun y y x=>x;rw[Om];have sv:(backToKw pos (keywordEach [⟨XU name,value,kp⟩] ag)).any (·.1.isNone)=false:=rfl;rw[sv];have hk:keeperOf (.builtin id)=pure .machine:=rfl;rw[hk];refine ab (aj ?_);exact ab (aH bF (fun r bW hr=>ab (aA (ao (wpAny_point (aj hr))))) fun y y x=>x)
noncomputable def G9 {β:Type}(o:Option Dat)(f:List Dat->Option β):Option β:=match o with
 |some (.list u)=>f u|_=>XW
set_option tactic.hygienic true in
theorem G8 {β:Type}{o:Option Dat}{f:List Dat->Option β}{u:β}{P:Prop}(h:G9 o f=XU u)(k:∀v,o=XU (.list v)->f v=XU u->P):P:=by
 cases o with
 |none=>exact aa h
 |some d=>
  rcases d with⟨⟩;case list v=>exact k v rfl h
  all_goals exact aa h
def gR (Φ:fN)(eM:WY)(body:Expr)(ae:az):List Dat->Option (List (List Dat))|[]=>XU []|d::ds=>G9 (ev Φ eM body ((("k":WS),.val d)::b0 eM ae)) fun k=>(gR Φ eM body ae ds).map (k::·)
set_option tactic.hygienic true in
theorem zm:∀{ds:List Dat}{kd:List (List Dat)},gR Φ eM body ae ds=XU kd->kd.length=ds.length/\∀(j:Nat)(d:Dat)(k:List Dat),ds[j]?=XU d->kd[j]?=XU k->ev Φ eM body ((("k":WS),.val d)::b0 eM ae)=XU (.list k):=by
 intro ds;induction ds with
 |nil=>intro kd h;obtain rfl:=XT h;exact⟨rfl,fun j d k h=>by simp at h⟩
 |cons d ds ih=>
  intro kd h;refine G8 h fun k hk h=>?_;cases h1:gR Φ eM body ae ds with
  |none=>rw[h1]at h;exact aa h
  |some ks=>
   rw[h1]at h;obtain rfl:=XT h;refine aZ (ih h1) fun a b=>?_;refine⟨V4 (·+1) a,fun j d' k' hd Ap=>?_⟩;rcases j with⟨⟩;case zero=>rw[Zl]at hd Ap;obtain rfl:=XT hd;obtain rfl:=XT Ap;exact hk
   case succ j=>rw[Zm]at hd Ap;exact b j d' k' hd Ap
def oP (kd:List (List Dat)):Bool:=kd.all fun x=>kd.all fun y=>(jH .Lt x y 0).isSome
def uR (kd:List (List Dat))(i j:Nat):Bool:=((kd[i]?).bind fun x=>(kd[j]?).bind fun y=>jH .Lt x y 0).getD false
theorem GN (h:oP kd=true):∀i j x y,kd[i]?=XU x->kd[j]?=XU y->jH .Lt x y 0=XU (uR kd i j):=fun i j x y hx hy=>by
 delta oP at h;simp only[ZH]at h;have:=h x (YE hx) y (YE hy);delta uR;refine xR hx (xR hy ?_);dsimp only[XZ];cases e:jH .Lt x y 0 with
 |none=>replace this:=e▸this;(rcases this with⟨⟩)
 |some b=>rfl
def yG (kd:List (List Dat))(ds:List Dat):List Dat:=(Ks.eV (uR kd) ds.length).map fun i=>ds.getD i .none
noncomputable def mB:Option Slot->Bool|some (.own _)=>false|_=>true
noncomputable def CJ:Option Dat->Option (Int×Int×Int)|some (.range a b c)=>XU (a,b,c)|_=>XW
set_option tactic.hygienic true in
theorem yn {o:Option Dat}(h:CJ o=XU r):o=XU (.range r.1 r.2.1 r.2.2):=by
 rcases o with⟨⟩;case none=>exact aa h
 case some d=>
  rcases d with⟨⟩;case range a b c=>obtain rfl:=XT h;rfl
  all_goals (exact aa h)
theorem aK.getD (r:aK h ak vs ds)(l:List Nat):aK h ak (l.map fun i=>vs.getD i .none) (l.map fun i=>ds.getD i .none):=by
 induction l with
 |nil=>exact .nil
 |cons i l ih=>
  refine .cons ?_ ih;dsimp only;refine xR Zp (xR Zp ?_);cases hd:ds[i]? with
  |some d=>refine aE (r.get hd) fun v hv hr=>?_;refine xR hv ?_;exact hr
  |none=>
   have:vs[i]?=XW:=by rw[Zi]at hd ⊢;refine xR r.length ?_;exact hd
   refine xR this ?_;exact .none
def yE (Φ:fN)(x:WS)(it body:Expr)(eM:WY):qG:=fun sc ae=>if(eM.names.all fun p=>p.2 != .free||mB (ae.lookup p.1))=true/\sc.names.lookup ("sorted":WS)=XU .globalImplicit/\gH sc eM=true then(CJ (ev Φ sc it ae)).bind fun r=>(bM (.range r.1 r.2.1 r.2.2)).bind fun av=>if av.length<64 then(gR Φ eM body ae av).bind fun kd=>if oP kd=true then(b8 sc x (.val (.list (yG kd av))) ae).map .next else XW else XW else XW
set_option tactic.hygienic true in
theorem wi (hC:C.Plain)(zH:∃bm ob,BMod C.h₀ mainGlobals C.mg bm ob)(hO:∀fr,cI (C.at fr) n)(hF:∀fr,b9 (C.at fr) Φ n)(R8:cI C (n+2))(hF2:b9 C Φ (n+2)){c P:XO}{p:Pos}{q name:WS}(ht:fR C c P p q)(hq:(name++".<locals>.")++"<lambda>"=q){x:WS}{xp fp NL Ha Vz cp:Pos}{it body:Expr}{eM:WY}(hl:Ha.line=p.line)(iV:Ha.col=p.col)(Hw:(eM.names.all fun p=>p.2 != .cell)=true)(oX:eM.isGenerator=false)(EG:eM.isCoroutine=false)(hk:eM.names.lookup ("k":WS)=XU .local):Am C (n+2) (lg C (.ref c) name) (.Assign [.Name x xp] (.Call (.Name "sorted" fp) [it] [⟨XU "key",.Lambda ⟨[],[⟨"k",XW,NL⟩],XW,[],[],XW,[]⟩ body eM Ha,Vz⟩] cp) pos,yE Φ x it body eM):=by
 intro A ag hA hK ai sc ae W ad s fl e S hD h E Q hQ;revert pos hC zH hO hF R8 hF2 c P p name ht hq hl iV Hw oX EG hk hA hK fl e S hD h hQ;refine no_implicit_lambda% (FA (bL (bL (bL (bL (bL pR ya) Vh) (bL (bL pQ VV) VV)) VV) VV) ?_ A C Φ s ai W ag x ae sc E xp eM Q body NL q ad n Ha it cp Vz fp);generalize gB _ _=tt;dsimp only[Pg];generalize tt.1.1.1.1.1=A,tt.1.1.1.1.2=C,tt.1.1.1.2=Φ,tt.1.1.2.1.1=s,tt.1.1.2.1.2=ai,tt.1.1.2.2=W,tt.1.2.1.1.1=ag,tt.1.2.1.1.2=x,tt.1.2.1.2=ae,tt.1.2.2.1.1=sc,tt.1.2.2.1.2=E,tt.1.2.2.2=xp,tt.2.1.1.1.1=eM,tt.2.1.1.1.2=Q,tt.2.1.1.2=body,tt.2.1.2.1.1=NL,tt.2.1.2.1.2=q,tt.2.1.2.2=ad,tt.2.2.1.1.1=n,tt.2.2.1.1.2=Ha,tt.2.2.1.2=it,tt.2.2.2.1.1=cp,tt.2.2.2.1.2=Vz,tt.2.2.2.2=fp;intro pos hC zH hO hF R8 hF2 c P p name ht hq hl iV Hw oX EG hk hA hK fl e S hD h hQ;refine aQ h fun hv h=>au h fun r hit h=>au h fun av w8 h=>aQ h fun ua h=>au h fun kd Kx h=>aQ h fun ED h=>bx h fun cC hb ve=>?_;subst ve;refine bH hv fun VJ hs fL=>?_;have hit:=yn hit;obtain⟨a,b,cc⟩:=r;simp only[ZH,bne_iff_ne]at Hw;have iF:∀y p,it≠.Starred y p:=by rintro y p rfl;exact aa hit
 refine bE ?_ rfl rfl;refine ab (fh hC.ok e S.bV.bs hs (by decide) (hC.none _ (by decide)) (hC.b (v:=.builtin "sorted") (by kernel_rfl) (by decide)) ?_);refine xJ (cD iF) (bU ?_ (cD iF));refine cW hC.ok R8 hF2 hA it e S.bV hit _ _ fun v s1 x1 r1=>?_;refine dz ?_;have S1:=S.ex x1;refine ao (Eo hC.ok zH ht hK.code (by refine xR hK.qual ?_;exact hq) e S1.bV.bs (ij e fL) rfl hl iV fun fa s2 c' Ie pm x2 Zba R0 VU=>?_);have S2:=S1.ex x2;have MM:=S2.bV.bs;have V2:=S2.bV.vo;cases r1 with|range NV Hr=>?_
 rename_i ra t1 t2 t3;have hrT:¬C.T ra:=by intro y0;refine iM y0 fun c2 p2 q2 m=>?_;rcases S1.bV.bs.tab c2 ra p2 q2 m with e'|⟨_,e',_⟩<;>(have h9:=Hr;unfold IsRange at h9;replace h9:=e'.symm.trans h9;rcases h9 with⟨⟩)
 have sm:=x2.keep _ _ Hr hrT (S1.bV.bs.dT Hr nofun);dsimp only[bM]at w8;split at w8;case isFalse=>exact aa w8
 rename_i Mh;obtain rfl:=XT w8;simp only[Z6,bne_iff_ne]at Mh;refine aZ Mh fun y1 g4=>?_;refine aZ y1 fun y2 g3=>?_;refine aZ y2 fun g1 g2=>?_;have hlen:cV a b cc<64:=by delta jF at ua;simpa using ua
 refine aZ (zm Kx) fun kl kg=>?_;have hf:IZ C n (fun b=>ai b\/W b) s2 fa ((jF a b cc).map .int) kd:=by
  refine⟨kl,fun{A' s3 N}w9 x3 hN j d k hd Ul v rv=>?_⟩;have Zan:=x3.keep _ _ R0 (MM.dF R0 nofun) (MM.dT R0 nofun);exact Bu hC.ok hO hF w9 e (S2.bV.grow x3 hN) fL Hw oX EG hk (fun y sl hy=>by
   refine aZ (eX hy) fun z1 z2=>?_;have:=ZH.mp VJ _ (mem_of_lookup z2);simp only[z1]at this;rcases sl with⟨⟩;case val d=>exact⟨d,rfl⟩
   case own d=>exact absurd this ZX) Zan (CodeRec.ex MM x3 VU) rv (kg j d k hd Ul)
 refine wh hC.ok hA MM V2 hf (fun{A' E' Q'}hh hQ'=>?_) ua (GN ED) fun sa s3 cc' us x3 PA ru ha3=>?_
 ·refine ug hh sm (kG g1 g2 g3 g4) (n:=cV a b cc) (by unfold cV;simp only[ZJ (dE a b cc)]) (by lia) fun h' tk aR Ap Oe=>?_;refine hQ' _ {s2 with heap:=h',toks:=tk} (.of_keep Ap rfl rfl) ?_;refine aZ Oe fun i1 i2=>?_;unfold jF;refine aK.of_get (by simp[i1]) fun j v d hv hd=>?_;have Ja:aR[j]?=XU v:=by simpa using hv
  refine aM (i2 j v Ja) ?_;rintro t' (rfl);have hj:j<cV a b cc:=by have:=(Z8.mp Ja).1;exact br 0x1200201023 rfl i1 this
  simp[hj]at hd;subst hd;refine xR (show(j:Int)*cc=cc*(j:Int)from Int.mul_comm _ _) ?_;exact .int _ _
 ·have S3:=S2.ex x3;have rr:Rep s3.heap (fun b=>ai b\/W b) (.ref sa) (.list (yG kd ((jF a b cc).map .int))):=.list (V2.new PA) ha3 rfl rfl rfl ((ru.ex V2 x3).getD _);refine ab (aw (fv e S3 hD hb rr fun s4 m4 S4 Ou z=>hQ _ _ ⟨rfl,W,ad,(Mv.jZ (x1.trans (x2.trans x3))).trans m4,S4,Ou⟩))
theorem tY (h:bT V V'):∀ds:List Dat,gR Φ eM body V ds=gR Φ eM body V' ds:=by intro ds;induction ds with|nil=>exact rfl|cons d ds ih=>refine(V4 (G9 · _) (et ((mL h eM).cons _ _) _)).trans (V4 (G9 _) (funext fun k=>V4 (Option.map _) ih))
theorem JA:UD (S,yE Φ x it body eM):=fun sc V V' h=>by
 have e1:(eM.names.all fun p=>p.2 != .free||mB (V.lookup p.1))=(eM.names.all fun p=>p.2 != .free||mB (V'.lookup p.1)):=by congr 1;funext p;exact xR (h p.1) rfl
 show gm (if(eM.names.all fun p=>p.2 != .free||mB (V.lookup p.1))=true/\_ then _ else XW) (if(eM.names.all fun p=>p.2 != .free||mB (V'.lookup p.1))=true/\_ then _ else XW);refine xR e1 (xR (et h it) ?_);refine vi (nU _ fun r=>nU _ fun av=>vi ?_);refine xR (tY h av) ?_;exact nU _ fun kd=>vi (dJ h _ _).fl
end
theorem bindVar {a:Arg}:bindArgs (Xy name ⟨[],[],XU a,[],[],XW,[]⟩ body scope pm cd doc) ⟨vs,[]⟩=(newTuple vs>>=fun t=>pure [(a.arg,t)]):=by cases vs with|nil=>kernel_rfl|cons v vs=>kernel_rfl
def oi (t:WS):Bool:=decide ((t).length<=aW/\(rep1 (t)).length<=aW/\(rep2 (rep1 (t))).length<=aW/\(rep3 (rep2 (rep1 (t)))).length<=aW/\(oO (rep3 (rep2 (rep1 (t))))).length<=aW/\(rE (oO (rep3 (rep2 (rep1 (t)))))).length<=aW/\(wx (rE (oO (rep3 (rep2 (rep1 (t))))))).length<=aW/\(A5 (wx (rE (oO (rep3 (rep2 (rep1 (t)))))))).length<=aW/\(Gp (A5 (wx (rE (oO (rep3 (rep2 (rep1 (t))))))))).length<=aW)
theorem Cc {t:WS}(h:oi t=true):xD t:=by unfold oi at h;have:=VW h;exact this
def Nl (ys:List WS):Option WS:=if iD "-" ys&&oi (dG "-" ys)then(g9 ((dG "-" ys).length+2) (gc (dG "-" ys))).bind fun u=>m9 ((dG "-" ys).length+2) u else XW
def Nm (ds:List Dat):Option Dat:=(strsOf ds).bind fun ys=>(Nl ys).map .str
theorem Qx:j9 aI:=⟨rfl,rfl,rfl,by decide +kernel,by decide +kernel⟩
def M1 (a:Arguments):Arg:=a.vararg.getD ⟨"",XW,cM⟩
theorem JS:argsAt pw Ry=⟨[],[],XU (M1 (argsAt pw Ry)),[],[],XW,[]⟩:=by rfl
set_option tactic.hygienic true in
theorem tR:∀{ds:List Dat}{ys:List WS},strsOf ds=XU ys->ys.length=ds.length:=by
 intro ds;induction ds with
 |nil=>intro ys h;obtain rfl:=XT h;rfl
 |cons d ds ih=>
  intro ys h;rcases d with⟨⟩;case str x=>exact bx h fun zs e q=>q▸V4 (·+1) (ih e)
  all_goals exact aa h
theorem Ni (hC:C.Plain)(zH:∃bm ob,BMod C.h₀ mainGlobals C.mg bm ob)(N5:p.line=(mF (aB aC 0)).line)(RK:p.col=(mF (aB aC 0)).col)(ht:fR C c2 P p "_platform.<locals>.<genexpr>")(fr:XO->Prop):dP (C.at fr) n (lg (C.at fr) (.ref c2) "_platform") cT:=by refine q9 ?_;exact⟨Kk (hC.at fr) zH (name:="_platform") ⟨ht.mem,ht.code,ht.uniq⟩ rfl N5.symm RK.symm rfl rfl rfl rfl,iQ rfl rfl (by decide),iQ rfl rfl (by decide),iQ rfl rfl (by decide),iQ rfl rfl (by decide),iQ rfl rfl (by decide),iQ rfl rfl (by decide),iQ rfl rfl (by decide),iQ rfl rfl (by decide),iQ rfl rfl (by decide),iQ rfl rfl (by decide),trivial⟩
theorem QH (hC:C.Plain)(zH:∃bm ob,BMod C.h₀ mainGlobals C.mg bm ob)(hp:Re.gM C.h₀ bb c)(hg:C.mg "_twin_re_1"=XU (.ref bb))(N5:p.line=(mF (aB aC 0)).line)(RK:p.col=(mF (aB aC 0)).col)(ht:fR C c2 P p "_platform.<locals>.<genexpr>")(hD:dv C "_platform" (argsAt pw Ry) aC aI (.ref c2)):mT C (n+1) "_platform" Nm:=by
 refine cQ hD fun a o pm doc h1 h2 h3 y0=>?_;refine aZ y0 fun h4 h5=>?_;refine⟨a,o,_,h1,by decide,hC.ok.dF h2 h3,h2,h4,fun{A s ak vs ds d}hA bs V rs h=>?_⟩;unfold Nm at h;cases hs:strsOf ds with
 |none=>rw[hs]at h;exact aa h
 |some ys=>
  rw[hs]at h;simp only[XZ]at h;cases hv:Nl ys with
  |none=>rw[hv]at h;exact aa h
  |some v=>
   rw[hv]at h;obtain rfl:=XT h;unfold Nl at hv;split at hv
   ·rename_i fL;simp only[Z6]at fL;cases hu:g9 ((dG "-" ys).length+2) (gc (dG "-" ys))with
    |none=>rw[hu]at hv;exact aa hv
    |some u=>
     rw[hu]at hv;simp only[XZ]at hv;have N2:=Nj (bb:=bb) hs fL.1 (Cc fL.2) hu hv;have fP:ds.length<=aW:=by have:=fL.1;unfold iD at this;simp only[Z6,V0]at this;rw[<-tR hs];exact this.1.1
     refine zY (us:=[.ref s.heap.objs.size]) hC.ok (fun fr=>uT) (fun fr=>xh (hC.at fr) hp hg) (fun fr=>F5 (hC.at fr)) (fun x=>qU rfl) (fun{fr A ag}w9 hK=>?_) (hC.ok.dF h2 h3) h2 h4 h5 Qx (by decide) (by decide +kernel) rfl hA bs V ?_ N2
     ·exact Ni hC zH N5 RK ht fr w9 hK
     ·rw[JS,bindVar];intro E Q q;refine ab (ao (wpAny_newTuple ?_ (by rw[rs.length];exact bK fP)));have x1:Ex C s {s with heap:=s.heap.push {cls:=.type "tuple",data:=.seq vs.toArray}}:=.of_keep (fun x x e=>Xl _ e) rfl rfl;exact aj (q _ _ x1 ⟨rfl,.cons (.tuple (V.new (aF _)) (Xk _ rfl) rfl rfl (rs.ex V x1)) .nil⟩)
   ·exact aa hv
end Mine.Internal
namespace Mine.Internal
namespace Tx
section
open PySem PySem.W PyProof.Rows PySem.Builtin PySem.Builtin.Str
open Mine.Internal.Re (fz cO nd find cut Bd)
theorem wu (c d:Nat):∀l:List Nat,ka [c] [d] 0 l=l.map fun x=>if x=c then d else x
 |[]=>rfl
 |x::r=>by
  simp only[jT,V6 (Ye 0),YQ];by_cases h:x=c
  ·subst h;refine xR (V7 (by simp[Zc])) (xR (V7 rfl) ?_);show d::ka [x] [d] 0 r=_;simp only[wu]
  ·rw[V6 (by simp[Zc];exact fun q=>h q.symm),V6 h,wu]
theorem my:∀{y:List Nat}(a b:List Nat),s∉y->y.isPrefixOf (a++s::b)=y.isPrefixOf a
 |[],a,b,_=>by rcases a with⟨⟩<;>simp[Zc]
 |c::y,[],b,h=>by have:¬c=s:=fun q=>h (q▸YJ);simp[Zc,this]
 |c::y,x::a,b,h=>by simp only[ZE];dsimp only[Zc];exact xR (my a b fun q=>h (YK _ q)) rfl
theorem CR (hs:s∉y)(hy:y≠[]):∀(a b:List Nat)(k:Nat),k<=a.length->ka y z k (a++s::b)=ka y z k a++s::ka y z 0 b:=by
 intro a;induction a with
 |nil=>
  intro b k hk;have:k=0:=by simpa using hk
  subst this;have e0:ka y z 0 ([]:List Nat)=[]:=rfl;rw[e0,Yz,Yz];conv=>lhs;rw[jT]
  rw[V6 (Ye 0)];have h0:=my [] b hs;rw[Yz]at h0;have h1:y.isPrefixOf ([]:List Nat)=false:=by(rcases y with⟨⟩;(case nil=>exact absurd rfl hy);(case cons _ _=>rfl))
  rw[h0,h1,V6 ZX]
 |cons c a ih=>
  intro b k hk;rw[ZE,jT,jT];by_cases h0:0<k
  ·rw[V7 h0,V7 h0];exact ih b (k-1) (by simp at hk;exact aT 0x190c191b012 rfl hk)
  ·rw[V6 h0,V6 h0];have hp:=my (c::a) b hs;rw[ZE]at hp;rw[hp];split
   ·rename_i h1;have hl:y.length<=a.length+1:=by have:=Zb.mp h1;simpa using this.length_le
    rw[ih b (y.length-1) (by exact aT 0x190c191b012 rfl hl),ZG]
   ·rw[ih b 0 (X1 _),ZE]
noncomputable def jn (s:Nat):List (List Nat)->List Nat|[]=>[]|[a]=>a|a::b::r=>a++s::jn s (b::r)
theorem NP:jn s [a]=a:=rfl
theorem Bz (hs:f s=s):∀l:List (List Nat),(jn s l).map f=jn s (l.map (·.map f))|[]=>rfl|[a]=>rfl|a::b::r=>by exact xR YS (xR YQ (xR hs (xR (Bz hs (b::r)) rfl)))
theorem By (hs:s∉y)(hy:y≠[]):∀l:List (List Nat),ka y z 0 (jn s l)=jn s (l.map (ka y z 0))|[]=>rfl|[a]=>rfl|a::b::r=>by exact xR (CR hs hy a _ 0 (X1 _)) (xR (By hs hy (b::r)) rfl)
theorem join_list (s:Nat):∀l:List WS,(WQ ⟨#[s]⟩ l).cps.toList=jn s (l.map (·.cps.toList))|[]=>rfl|[a]=>rfl|a::b::r=>by show(a++⟨#[s]⟩++WQ ⟨#[s]⟩ (b::r)).cps.toList=a.cps.toList++s::jn s ((b::r).map (·.cps.toList));simp only[WR,Z7];simp only[join_list s (b::r)];simp
noncomputable def sq:List Nat->List Nat|[]=>[]|c::r=>if c=45/\r.head?=XU 45 then sq r else c::sq r
theorem rh:sq (c::r)=if c=45/\r.head?=XU 45 then sq r else c::sq r:=rfl
def hv:List Nat->List Nat:=ka [45,45] [45] 0
theorem NU (r:List Nat):hv (45::45::r)=45::hv r:=by show ka [45,45] [45] 0 (45::45::r)=_;rw[jT,V6 (Ye 0),V7 (by simp[Zc])];rw[jT,V7 (by decide)];rfl
set_option tactic.hygienic true in
theorem Hn (h:¬(c=45/\r.head?=XU 45)):hv (c::r)=c::hv r:=by
 show ka [45,45] [45] 0 (c::r)=_;rw[jT,V6 (Ye 0),V6]
 ·rfl
 ·intro q;apply h;rcases r with⟨⟩;case nil=>simp[Zc]at q
  case cons d r=>simp[Zc]at q;exact⟨q.1.symm,by simp only[List.head?_cons,q.2]⟩
set_option tactic.hygienic true in
theorem sk:∀(n:Nat)(l:List Nat),l.length<=n->(hv l).head?=l.head? /\sq (hv l)=sq l/\(hv l).length<=l.length/\((hv l).length=l.length->sq l=l)/\∀x∈hv l,x∈l
 |_,[],_=>⟨rfl,rfl,Yh _,fun y=>rfl,fun x hx=>hx⟩
 |n+1,c::r,hn=>by
  by_cases h:c=45/\r.head?=XU 45
  ·refine aZ h ?_;rintro(rfl) h2;rcases r with⟨⟩;case nil=>exact aa h2
   case cons d r=>
    rw[List.head?_cons,XS]at h2;subst h2;refine tN (sk n r (by simp at hn;exact aT 0x101190b12 rfl hn)) fun h1 h2 h3 h4 h5=>?_;rw[NU];refine⟨rfl,?_,by simp;exact aT 0x91b011012 rfl h3,fun q=>by simp at q;exact(aT 0x691b021013 rfl h3 q).elim,fun x hx=>?_⟩
    ·have e:sq (45::45::r)=sq (45::r):=by rw[rh,V7 ⟨rfl,rfl⟩]
     rw[e,rh,rh,h1,h2]
    ·refine XR (YL.mp hx) (fun q=>?_) fun q=>?_
     ·rw[q];exact YJ
     ·exact YK _ (YK _ (h5 x q))
  ·refine tN (sk n r (by simp at hn;assumption)) fun h1 h2 h3 h4 h5=>?_;rw[Hn h];refine⟨rfl,?_,by simp;assumption,fun q=>?_,fun x hx=>?_⟩
   ·rw[rh,rh,h1,V6 h,V6 h,h2]
   ·rw[rh,V6 h,h4 (by simpa using q)]
   ·refine XR (YL.mp hx) (fun q=>?_) fun q=>?_
    ·rw[q];exact YJ
    ·exact YK _ (h5 x q)
theorem jB (t:WS):W4 t=true↔∀x∈t.cps.toList,x<0x110000:=by unfold W4;rw[Array.all_eq_true'];simp
theorem iz {t u:WS}(h:t.cps.toList=u.cps.toList):t=u:=WS.ext' (Array.toList_inj.mp h)
theorem len_list (t:WS):t.length=t.cps.toList.length:=by simp[WO]
theorem AN:∀(k:Nat)(t:WS),t.length<k->t.length<=aW->W4 t=true->g9 k t=XU ⟨(sq t.cps.toList).toArray⟩:=by
 intro k;induction k with
 |zero=>intro t h _ _;exact absurd h (X5 _)
 |succ k zy=>
  intro t h hc ho;refine tN (sk _ t.cps.toList (Yh _)) fun h1 h2 h3 h4 h5=>?_;have hr:(WM t "--" "-").cps.toList=hv t.cps.toList:=jD t "--" "-" (by decide);have mE:W4 (WM t "--" "-")=true:=by rw[jB,hr];exact fun x hx=>(jB t).mp ho x (h5 x hx)
  refine(V7 ⟨hc,ho,mE⟩:g9 (k+1) t=_).trans ?_;by_cases he:WM t "--" "-"=t
  ·rw[V7 he];have:hv t.cps.toList=t.cps.toList:=by rw[<-hr,he]
   rw[h4 (by rw[this])]
  ·rw[V6 he];have jw:(hv t.cps.toList).length<t.cps.toList.length:=by
    refine XR (Nat.lt_or_ge (hv t.cps.toList).length t.cps.toList.length) (fun q=>?_) fun q=>?_
    ·exact q
    ·exfalso;apply he;apply iz;rw[hr];have hq:(hv t.cps.toList).length=t.cps.toList.length:=aT 0x1020111013 rfl h3 q;have e1:=h4 hq;have key:∀l:List Nat,sq l=l->hv l=l:=by
      intro l;induction l with
      |nil=>intro _;rfl
      |cons c r ih=>
       intro hs;have gS:¬(c=45/\r.head?=XU 45):=by
        intro q;rw[rh,V7 q]at hs;have hle:∀m:List Nat,(sq m).length<=m.length:=by
         intro m;induction m with
         |nil=>exact Yh _
         |cons d m im=>
          rw[rh];split
          ·simp;exact aT 0x91b011012 rfl im
          ·simp;assumption
        have:=hle r;rw[hs]at this;simp at this;exact bq 0x6090b12 rfl this
       rw[rh,V6 gS]at hs;rw[Hn gS,ih (List.cons.inj hs).2]
     exact key _ e1
   have e:=zy (WM t "--" "-") (by rw[len_list,hr];rw[len_list]at h;exact br 0x12002091b003 rfl h jw) (by rw[len_list,hr];rw[len_list]at hc;exact br 0x1210201013 rfl hc jw) mE;rw[e,hr,h2]
mutual
def go:List Nat->List Nat->List (List Nat)
 |g,[]=>[g]
 |g,c::r=>if fz c then g::zI [c] r else if cO c then g::[c]::go [] r else go (g++[c]) r
def zI:List Nat->List Nat->List (List Nat)
 |d,[]=>[d,[]]
 |d,c::r=>if fz c then zI (d++[c]) r else d::(if cO c then[]::[c]::go [] r else go [c] r)
end
theorem KJ {g:List Nat}:go g []=[g]:=rfl
theorem uc {g r:List Nat}:go g (c::r)=if fz c then g::zI [c] r else if cO c then g::[c]::go [] r else go (g++[c]) r:=rfl
theorem MB {d:List Nat}:zI d []=[d,[]]:=rfl
theorem pY {d r:List Nat}:zI d (c::r)=if fz c then zI (d++[c]) r else d::(if cO c then[]::[c]::go [] r else go [c] r):=rfl
set_option tactic.hygienic true in
theorem OA (d:List Nat)(l:List Nat)(h:∀c,l.head?=XU c->fz c=false):zI d l=d::go [] l:=by
 rcases l with⟨⟩;case nil=>rfl
 case cons c r=>have hc:=h c rfl;simp only[pY,hc,V6 ZX,uc,hc,V6 ZX];rfl
theorem HO:(∀(l g b:List Nat),go g (l++45::b)=go g l++[45]::go [] b)/\∀(l d b:List Nat),zI d (l++45::b)=zI d l++[45]::go [] b:=by
 have key:∀(l:List Nat),(∀g b,go g (l++45::b)=go g l++[45]::go [] b)/\∀d b,zI d (l++45::b)=zI d l++[45]::go [] b:=by
  intro l;induction l with
  |nil=>
   refine⟨fun g b=>?_,fun d b=>?_⟩
   ·have e1:go g ([]:List Nat)=[g]:=rfl;simp only[e1,Yz];conv=>lhs;simp only[uc]
    refine xR (V6 (by decide)) (xR (V7 (by decide)) ?_);rfl
   ·have e1:zI d ([]:List Nat)=[d,[]]:=rfl;simp only[e1,Yz];conv=>lhs;simp only[pY]
    refine xR (V6 (by decide)) (xR (V7 (by decide)) ?_);rfl
  |cons c r ih=>
   refine⟨fun g b=>?_,fun d b=>?_⟩
   ·simp only[ZE,uc];split
    ·refine xR (ih.2 _ _) ?_;rfl
    ·split
     ·refine xR (ih.1 _ _) ?_;rfl
     ·exact xR (ih.1 _ _) rfl
   ·simp only[ZE,pY];split
    ·exact xR (ih.2 _ _) rfl
    ·split
     ·refine xR (ih.1 _ _) ?_;rfl
     ·refine xR (ih.1 _ _) ?_;rfl
 exact⟨fun l=>(key l).1,fun l=>(key l).2⟩
end
section
open PySem PySem.W PyProof.Rows PySem.Builtin PySem.Builtin.Str
open Mine.Internal.Re (fz cO nd find cut Bd)
variable {text:Array Nat}
theorem gT (h:s<text.size):text.toList.drop s=text.getD s 0::text.toList.drop (s+1):=by have:s<text.toList.length:=h;refine xR (ZA this) ?_;simp[Array.getD,h]
theorem Oz:∀(n s:Nat)(d:List Nat),s+n=text.size->zI d (text.toList.drop s)=(d++(text.toList.drop s).take (nd text n s))::go [] (text.toList.drop (s+nd text n s)):=by
 intro n;induction n with
 |zero=>
  intro s d h;have e:text.toList.drop s=[]:=by rw[List.drop_eq_nil_iff];simp;exact aT 0x11180b22 rfl h
  simp[show nd text 0 s=0 from rfl,e,MB,KJ]
 |succ n ih=>
  intro s d h;have hs:s<text.size:=br 0x200291b0b22 rfl h;rw[Re.Bk];cases hd:fz (text.getD s 0)with
  |true=>rw[V7 rfl,gT hs,pY,hd,V7 rfl,ih (s+1) _ (by exact br 0x2190bb2291b0b22 rfl h)];rw[Nat.add_comm (nd text n (s+1)) 1,Nat.add_assoc,Nat.add_comm 1 (nd text n (s+1)),Yl,ZG];rfl
  |false=>
   rw[V6 ZX];rw[OA]
   ·simp
   ·intro c hc;rw[gT hs,List.head?_cons,XS]at hc;rw[<-hc];exact hd
theorem KU:∀(n s:Nat)(g:List Nat),s+n=text.size->match find text n s with
  |none=>go g (text.toList.drop s)=[g++text.toList.drop s]|some (p,e)=>s<=p/\p<=e/\e<=text.size/\go g (text.toList.drop s)=(g++(text.toList.drop s).take (p-s))::(text.toList.drop p).take (e-p)::go [] (text.toList.drop e):=by
 intro n;induction n with
 |zero=>
  intro s g h;have e:text.toList.drop s=[]:=by rw[List.drop_eq_nil_iff];simp;exact aT 0x11180b22 rfl h
  simp[show find text 0 s=XW from rfl,e,KJ]
 |succ n zy=>
  intro s g h;have hs:s<text.size:=br 0x200291b0b22 rfl h;rw[Re.BR];cases hd:fz (text.getD s 0)with
  |true=>
   rw[V7 rfl];have Jc:=Re.L7 text (n+1) s;refine⟨Yh _,Nat.le_add_right _ _,by exact cX 0x230b191b31291b0b23 rfl h Jc,?_⟩;rw[gT hs,uc,hd,V7 rfl,Oz n (s+1) _ (by exact br 0x2190bb2291b0b22 rfl h)];have e1:nd text (n+1) s=nd text n (s+1)+1:=by rw[Re.Bk,hd,V7 rfl]
   rw[e1,<-gT hs,Yj,X4,List.take_zero,ZF];congr 2
   ·rw[gT hs,Yl];rfl
   ·congr 2;exact aT 0x91b0b190bb21 rfl
  |false=>
   rw[V6 ZX];cases hp:cO (text.getD s 0)with
   |true=>rw[V7 rfl];refine⟨Yh _,by exact bq 0x90b011 rfl,by exact aT 0x190b11002 rfl hs,?_⟩;rw[X4,List.take_zero,ZF,Yj];rw[gT hs,uc,hd,V6 ZX,hp,V7 rfl];rfl
   |false=>
    rw[V6 ZX];have ih:=zy (s+1) (g++[text.getD s 0]) (br 0x2190bb2291b0b22 rfl h);have e0:go g (text.toList.drop s)=go (g++[text.getD s 0]) (text.toList.drop (s+1)):=by rw[gT hs,uc,hd,V6 ZX,hp,V6 ZX]
    cases hf:find text n (s+1)with
    |none=>rw[hf]at ih;rw[e0,ih,gT hs];simp
    |some r=>obtain⟨p,e⟩:=r;rw[hf]at ih;refine lH ih fun i1 i2 i3 i4=>?_;refine⟨by exact aT 0x101190b12 rfl i1,i2,i3,?_⟩;rw[e0,i4,gT hs,show p-s=(p-(s+1))+1 by exact aT 0x990b1cb01c2190b12 rfl i1,Yl];simp
theorem og (a b:Nat):(cut text a b)=⟨((text.toList.drop a).take (b-a)).toArray⟩:=by unfold cut;apply iz;rw[Array.toList_extract,Zx]
theorem Nn:∀(k last:Nat),text.size-last<=k->last<=text.size->Bd text text.size k last=(go [] (text.toList.drop last)).map fun l=>(⟨l.toArray⟩:WS):=by
 intro k;induction k with
 |zero=>
  intro last h hl;have:last=text.size:=aT 0x12011810c13 rfl h hl;subst this;rw[show Bd text text.size 0 text.size=[Re.cut text text.size text.size]from rfl,og];have e:text.toList.drop text.size=[]:=by rw[List.drop_eq_nil_iff];simp
  rw[e];simp[KJ]
 |succ k ih=>
  intro last h hl;rw[Re.CU];have hg:=KU (text.size-last) last [] (aT 0x101c0b21012 rfl hl);cases hf:find text (text.size-last) last with
  |none=>rw[hf]at hg;rw[hg,og,Ym (by simp)];simp
  |some r=>obtain⟨p,e⟩:=r;rw[hf]at hg;dsimp only[Option.elim]at hg ⊢;refine lH hg fun g1 g2 g3 g4=>?_;have:=Re.Dj hf;rw[ih e (by exact oC 0x240c110c1b414304311492b10c13 rfl h this) g3,g4,og,og];simp
theorem Gd (t:WS):eY t=(go [] t.cps.toList).map fun l=>(⟨l.toArray⟩:WS):=by unfold eY;rw[Nn _ 0 (by exact bq 0x80c11 rfl) (X1 _),Zz]
end
open PySem PySem.W PyProof.Rows PySem.NumText
section
variable {stg:WS->Option Int}
noncomputable def jS (l:List Nat):List Nat:=(l.reverse.dropWhile (·==45)).reverse
theorem mw (l:List Nat)(c:Nat):jS (l++[c])=if c=45 then jS l else l++[c]:=by
 unfold jS;rw[Yt,List.reverse_singleton,List.singleton_append,List.dropWhile_cons];by_cases h:c=45
 ·subst h;simp
 ·have:(c==45)=false:=by rw[V5];exact h
  rw[this,V6 h];simp
theorem AS (h:t.length<=aW):eZ (.str t) XW (XU (-1)) XW=XU (.str ⟨t.cps.toList.dropLast.toArray⟩):=by
 have h0:eZ (.str t) XW (XU (-1)) XW=(if t.length<=aW/\(XW:Option Int)=XW then XU (.str ⟨(pick t.cps.toList XW (XU (-1)) XW).toArray⟩)else XW):=by rfl
 rw[h0,V7 ⟨h,rfl⟩,fW];have:(clipAt t.cps.toList.length (-1))=t.cps.toList.length-1:=by cases t.cps.toList.length with|zero=>rfl|succ n=>show(max 0 (min ((-1:Int)+((n+1:Nat):Int)) ((n+1:Nat):Int))).toNat=n;rw[show(-1:Int)+((n+1:Nat):Int)=(n:Int) by rw[Int.add_comm,Int.natCast_add,Int.add_assoc];exact ZS _,Int.min_eq_left (ZL.mpr (Nat.le_succ n)),Int.max_eq_right (ZN n),ZK]
 simp only[Option.elim,Zz,Nat.sub_zero];rw[this,List.dropLast_eq_take]
theorem H3 (h:t.cps.toList=[]):n5 t=XU false:=by
 have h0:t.length=0:=by rw[len_list,h];rfl
 unfold n5;have:qj (.str t)=XU false:=by show(if t.length<=aW then XU (t.length !=0)else XW)=_;rw[h0];rfl
 rw[this];rfl
theorem ER (h:t.cps.toList=l++[c])(hc:t.length<=aW)(ho:c<0x110000):n5 t=XU (c==45):=by
 have hl:t.length=l.length+1:=by rw[len_list,h];simp
 unfold n5;have h1:qj (.str t)=XU true:=by show(if t.length<=aW then XU (t.length !=0)else XW)=_;rw[V7 hc,hl];rfl
 have h2:dp (.str t) (.int (-1))=XU (.str ⟨#[c]⟩):=by
  have h0:dp (.str t) (.int (-1))=((dU (-1) t.length).bind fun k=>(t.cps[k]?).map fun c=>.str ⟨#[c]⟩):=by rfl
  have h3:dU (-1) t.length=XU l.length:=by unfold dU;rw[V6 (by lia),V7 (by exact aT 0xaf99fb8891b022 rfl hl)];congr 1;exact aT 0x10af99fbbf291b022 rfl hl
  have h4:t.cps[l.length]?=XU c:=by rw[<-Array.getElem?_toList,h];simp
  rw[h0,h3,XZ,h4];rfl
 rw[h1,h2];show qy (.str ⟨#[c]⟩) (.str "-")=_;rw[Dl (by rw[jB];simpa using ho) (by decide +kernel)];congr 1;rw[ZZ,V3,V3];constructor
 ·intro q;have h9:=V4 (fun t:WS=>t.cps.toList) q;have e9:("-":WS).cps.toList=[45]:=by rfl
  rw[e9]at h9;simpa using h9
 ·intro q;subst q;rfl
theorem Jq:m9 (k+1) t=(match n5 t with
   |none=>XW|some false=>XU t|some true=>Jw (eZ (.str t) XW (XU (-1)) XW) (m9 k)):=rfl
theorem Jp:∀(k:Nat)(t:WS),t.length<k->t.length<=aW->(∀x∈t.cps.toList,x<0x110000)->m9 k t=XU ⟨(jS t.cps.toList).toArray⟩:=by
 intro k;induction k with
 |zero=>intro t h _ _;exact absurd h (X5 _)
 |succ k ih=>
  intro t h hc ho;rw[Jq];refine XR (List.eq_nil_or_concat t.cps.toList) (fun e=>?_) fun y0=>?_
  ·rw[H3 e];have:t=⟨(jS t.cps.toList).toArray⟩:=iz (by rw[e];rfl);exact V4 XU this
  ·refine gY y0 fun l c e=>?_;rw[List.concat_eq_append]at e;rw[ER e hc (ho c (by rw[e];simp))];by_cases hq:c=45
   ·have:(c==45)=true:=by rw[V3];exact hq
    rw[this,AS hc];show m9 k _=_;have e2:(⟨t.cps.toList.dropLast.toArray⟩:WS).cps.toList=l:=by rw[e];simp
    have hl:t.length=l.length+1:=by rw[len_list,e];simp
    rw[ih _ (by rw[len_list,e2];exact br 0x12092b0291b003 rfl h hl) (by rw[len_list,e2];exact br 0x12192b021013 rfl hc hl) (fun x hx=>ho x (by rw[e2]at hx;rw[e];simp[hx])),e2,e,mw,V7 hq]
   ·have:(c==45)=false:=by rw[V5];exact hq
    rw[this];have:t=⟨(jS t.cps.toList).toArray⟩:=iz (by rw[e,mw,V6 hq]);exact V4 XU this
def toks (stg:WS->Option Int)(l:List Nat):List Dat:=(go [] l).flatMap fun p=>cE stg ⟨p.toArray⟩
def dS (l:List Nat):Bool:=(go [] l).all fun p=>ed ⟨p.toArray⟩
theorem ki (a b:List Nat):toks stg (a++45::b)=toks stg a++toks stg b:=by
 unfold toks;rw[HO.1,Zu,Zt];have:cE stg ⟨[45].toArray⟩=[]:=by unfold cE;rw[V7 (by decide +kernel)]
 rw[this];rfl
theorem i9 (a b:List Nat):dS (a++45::b)=(dS a&&dS b):=by
 unfold dS;rw[HO.1,List.all_append,List.all_cons];have:ed ⟨[45].toArray⟩=true:=by unfold ed;rw[ZV];exact .inl (by decide +kernel)
 rw[this];rfl
theorem km:toks stg []=[]:=by unfold toks;have:go [] []=[[]]:=rfl;rw[this,Zs];unfold cE;rw[V7 (by decide +kernel)]
theorem lr:dS []=true:=by
 unfold dS;have:go [] []=[[]]:=rfl;rw[this];have:ed ⟨[].toArray⟩=true:=by unfold ed;rw[ZV];exact .inl (by decide +kernel)
 simpa using this
set_option tactic.hygienic true in
theorem Jt:∀(l a:List Nat),toks stg (a++sq l)=toks stg (a++l)/\dS (a++sq l)=dS (a++l):=by
 intro l;induction l with
 |nil=>intro a;exact⟨rfl,rfl⟩
 |cons c r ih=>
  intro a;rw[rh];split
  ·rename_i h;refine aZ h ?_;rintro(rfl) h2;refine aZ (ih a) fun i1 i2=>?_;rw[i1,i2];rcases r with⟨⟩;case nil=>exact aa h2
   case cons d r=>rw[List.head?_cons,XS]at h2;subst h2;have e1:=ki (stg:=stg) [] r;have e2:=i9 [] r;rw[Yz]at e1 e2;rw[ki a r,ki a (45::r),i9 a r,i9 a (45::r),e1,e2,km,lr];exact⟨rfl,rfl⟩
  ·refine aZ (ih (a++[c])) fun i1 i2=>?_;simp only[ZG,List.singleton_append]at i1 i2;exact⟨i1,i2⟩
theorem AE:∀(n:Nat)(l:List Nat),l.length=n->toks stg (jS l)=toks stg l/\dS (jS l)=dS l:=by
 intro n;induction n with
 |zero=>intro l h;have:=Y6.mp h;subst this;exact⟨rfl,rfl⟩
 |succ n ih=>
  intro l h;refine XR (List.eq_nil_or_concat l) (fun e=>?_) fun y0=>?_
  ·subst e;exact⟨rfl,rfl⟩
  ·refine gY y0 fun m c e=>?_;rw[List.concat_eq_append]at e;subst e;rw[mw];split
   ·rename_i hc;subst hc;refine aZ (ih m (by simpa using h)) fun i1 i2=>?_;have e1:=ki (stg:=stg) m [];have e2:=i9 m [];rw[i1,i2,e1,e2,km,lr];simp
   ·exact⟨rfl,rfl⟩
theorem CH:∀l:List (List Nat),toks stg (jn 45 l)=l.flatMap (toks stg)/\dS (jn 45 l)=l.all dS|[]=>⟨km,lr⟩|[a]=>⟨by simp[NP],by simp[NP]⟩|a::b::r=>by refine aZ (CH (b::r)) fun i1 i2=>?_;show toks stg (a++45::jn 45 (b::r))=_/\dS (a++45::jn 45 (b::r))=_;rw[ki,i9,i1,i2];exact⟨rfl,rfl⟩
noncomputable def tr (c:Nat):Nat:=if c=32 then 95 else if c=47\/c=92\/c=58\/c=59\/c=34\/c=40\/c=41 then 45 else c
noncomputable def tP:List Nat:=[117,110,107,110,111,119,110]
def kept (y:WS):List Nat:=ka tP [] 0 ((WL y).cps.toList.map tr)
theorem fI (x a b:WS)(c d:Nat)(ha:a.cps.toList=[c])(hb:b.cps.toList=[d]):(WM x a b).cps.toList=x.cps.toList.map fun x=>if x=c then d else x:=by rw[jD x a b (by rw[len_list,ha];exact Yh _),ha,hb,wu]
theorem PV (l:List Nat):(((((((l.map (fun x=>if x=32 then 95 else x)).map (fun x=>if x=47 then 45 else x)).map (fun x=>if x=92 then 45 else x)).map (fun x=>if x=58 then 45 else x)).map (fun x=>if x=59 then 45 else x)).map (fun x=>if x=34 then 45 else x)).map (fun x=>if x=40 then 45 else x)).map (fun x=>if x=41 then 45 else x)=l.map tr:=by
 simp only[YO];refine YR fun x y=>?_;simp only[Function.comp_apply,tr];by_cases h1:x=32
 ·subst h1;rfl
 ·rw[V6 h1,V6 h1];by_cases h2:x=47
  ·subst h2;rfl
  ·by_cases h3:x=92
   ·subst h3;rfl
   ·by_cases h4:x=58
    ·subst h4;rfl
    ·by_cases h5:x=59
     ·subst h5;rfl
     ·by_cases h6:x=34
      ·subst h6;rfl
      ·by_cases h7:x=40
       ·subst h7;rfl
       ·by_cases h8:x=41
        ·subst h8;rfl
        ·simp[h2,h3,h4,h5,h6,h7,h8]
theorem CS (y:List Nat):∀(k:Nat)(l:List Nat),(ka y [] k l).length<=l.length/\∀x∈ka y [] k l,x∈l:=by
 intro k l;induction l generalizing k with
 |nil=>rcases k with⟨⟩<;>exact⟨Yh _,fun x h=>h⟩
 |cons c r ih=>
  rw[jT];split
  ·have:=ih (k-1);exact⟨by simp;lia,fun x hx=>YK _ (this.2 x hx)⟩
  ·split
   ·have:=ih (y.length-1);exact⟨by simp;lia,fun x hx=>YK _ (this.2 x (by simpa using hx))⟩
   ·have:=ih 0;refine⟨by simp;lia,fun x hx=>?_⟩;refine XR (YL.mp hx) (fun q=>?_) fun q=>?_
    ·rw[q];exact YJ
    ·exact YK _ (this.2 x q)
theorem Gb:∀l:List Nat,(sq l).length<=l.length/\∀x∈sq l,x∈l:=by
 intro l;induction l with
 |nil=>exact⟨Yh _,fun x h=>h⟩
 |cons c r ih=>
  have:=ih;rw[rh];split
  ·exact⟨by simp;lia,fun x hx=>YK _ (this.2 x hx)⟩
  ·refine⟨by simp;lia,fun x hx=>?_⟩;refine XR (YL.mp hx) (fun q=>?_) fun q=>?_
   ·rw[q];exact YJ
   ·exact YK _ (this.2 x q)
theorem D6 (l:List Nat):(jS l).length<=l.length/\∀x∈jS l,x∈l:=by unfold jS;have h1:(l.reverse.dropWhile (·==45)).Sublist l.reverse:=List.dropWhile_sublist _;have h2:=h1.reverse;rw[Yq]at h2;exact⟨h2.length_le,fun x hx=>h2.subset hx⟩
theorem uE (x:WS):(WL x).cps.toList.length<=x.cps.toList.length/\∀c∈(WL x).cps.toList,c∈x.cps.toList:=by
 unfold WL Txt.stripBy;split
 ·exact⟨Yh _,fun c h=>h⟩
 ·unfold PySem.stripped;rw[iA];have h1:=(List.take_sublist (stripHi WK true x (stripLo WK true x)-stripLo WK true x) (x.cps.toList.drop (stripLo WK true x))).trans (List.drop_sublist _ x.cps.toList);exact⟨h1.length_le,fun c h=>h1.subset h⟩
theorem Hj (s:Nat):∀l:List (List Nat),(jn s l).length<=(l.map (·.length)).sum+l.length|[]=>X1 _|[a]=>by simp[NP]|a::b::r=>by have:=Hj s (b::r);show(a++s::jn s (b::r)).length<=_;simp only[Y9,Y8,YQ,List.sum_cons]at this ⊢;exact oC 0x993bb21b4bb90b4b193b21bb012 rfl this
theorem Hi (s:Nat):∀(l:List (List Nat))(x:Nat),x∈jn s l->x=s\/∃a∈l,x∈a
 |[],x,h=>by(rcases h with⟨⟩)
 |[a],x,h=>.inr ⟨a,YA.mpr rfl,h⟩
 |a::b::r,x,h=>by
  have h':=h;refine XR (YM.mp h') (fun q=>?_) fun q=>?_
  ·exact .inr ⟨a,YJ,q⟩
  ·refine XR (YL.mp q) (fun q=>?_) fun q=>?_
   ·exact .inl q
   ·refine XR (Hi s (b::r) x q) (fun q=>?_) fun y0=>?_
    ·exact .inl q
    ·refine aE y0 fun c hc q=>?_;exact .inr ⟨c,YK _ hc,q⟩
theorem FZ:∀l:List Nat,(∀x∈l,x<=k)->l.sum<=l.length*k:=by intro l;induction l with|nil=>intro _;exact X1 _|cons a l ih=>intro h;have h1:=ih fun x hx=>h x (YK _ hx);have h2:=h a YJ;rw[List.sum_cons,Y8,X3];exact cX 0x31b02b13211013 rfl h1 h2
def Small (ys:List WS):Prop:=ys.length<=200/\∀y∈ys,y.length<=60/\∀c∈y.cps.toList,c<128
noncomputable def full (ys:List WS):List WS:=ys.filter fun y=>y.length !=0
theorem pM (h:Small ys):((full ys).map WL).length<=200/\∀z∈(full ys).map WL,z.length<=60/\∀c∈z.cps.toList,c<128:=by
 refine⟨?_,fun z hz=>?_⟩
 ·rw[Y4];exact Yg (Y5 _ _) h.1
 ·refine aE (YH.mp hz) ?_;rintro y hy (rfl);have:=h.2 y (YI.mp hy).1;have hs:=uE y;exact⟨by rw[len_list];rw[len_list]at this;lia,fun c hc=>this.2 c (hs.2 c hc)⟩
theorem mC (ys:List WS):(dG "-" ys).cps.toList=jn 45 (((full ys).map WL).map (·.cps.toList)):=by unfold dG Txt.join;rw[StrLaws.glued_eq_join];exact join_list 45 _
theorem pW (h:Small ys):(dG "-" ys).length<=12200/\∀c∈(dG "-" ys).cps.toList,c<128:=by
 refine aZ (pM h) fun h1 h2=>?_;rw[len_list,mC];refine⟨?_,fun c hc=>?_⟩
 ·have a1:=Hj 45 (((full ys).map WL).map (·.cps.toList));have a2:=FZ ((((full ys).map WL).map (·.cps.toList)).map (·.length)) (fun x hx=>by refine aE (YH.mp hx) ?_;rintro l hl (rfl);refine aE (YH.mp hl) ?_;rintro z hz (rfl);have:=(h2 z hz).1;rw[len_list]at this;exact this);simp only[Y4]at a1 a2 h1;have:(full ys).length*60<=200*60:=Nat.mul_le_mul_right _ h1;exact br 0x2fa88f013cac8d23ce123ce1121b014 rfl a1 a2 this
 ·refine XR (Hi 45 _ c hc) (fun q=>?_) fun y0=>?_
  ·exact bq 0x80a002da022 rfl q
  ·refine aE y0 fun a ha q=>?_;(refine aE (YH.mp ha) ?_;rintro z hz (rfl));exact(h2 z hz).2 c q
theorem iI (t:WS):(gc t).cps.toList=ka tP [] 0 (t.cps.toList.map tr):=by unfold gc;have h9:∀u:WS,(Ng u).cps.toList=ka tP [] 0 u.cps.toList:=fun u=>jD u "unknown" "" (by decide);rw[h9,<-PV];unfold Gp A5 wx rE oO rep3 rep2 rep1;rw[fI _ ")" "-" 41 45 rfl rfl,fI _ "(" "-" 40 45 rfl rfl,fI _ "\"" "-" 34 45 rfl rfl,fI _ ";" "-" 59 45 rfl rfl,fI _ ":" "-" 58 45 rfl rfl,fI _ "\\" "-" 92 45 rfl rfl,fI _ "/" "-" 47 45 rfl rfl,fI _ " " "_" 32 95 rfl rfl]
theorem ui (h:t.length<=aW):oi t=true:=by
 have e:∀{u:WS}{a b:WS}{c d:Nat},a.cps.toList=[c]->b.cps.toList=[d]->u.length<=aW->(WM u a b).length<=aW:=fun ha hb hu=>by rw[len_list,fI _ _ _ _ _ ha hb,Y4,<-len_list];exact hu
 have e1:(rep1 t).length<=aW:=e (c:=32) (d:=95) rfl rfl h;have e2:=e (a:="/") (b:="-") (c:=47) (d:=45) rfl rfl e1;have e3:=e (a:="\\") (b:="-") (c:=92) (d:=45) rfl rfl e2;have e4:=e (a:=":") (b:="-") (c:=58) (d:=45) rfl rfl e3;have e5:=e (a:=";") (b:="-") (c:=59) (d:=45) rfl rfl e4;have e6:=e (a:="\"") (b:="-") (c:=34) (d:=45) rfl rfl e5;have e7:=e (a:="(") (b:="-") (c:=40) (d:=45) rfl rfl e6;have e8:=e (a:=")") (b:="-") (c:=41) (d:=45) rfl rfl e7;exact VZ ⟨h,e1,e2,e3,e4,e5,e6,e7,e8⟩
theorem PU (h:c<128):tr c<128:=by
 unfold tr;split
 ·lia
 ·split
  ·lia
  ·exact h
theorem wO (h:Small ys):Nl ys=XU ⟨(jS (sq (jn 45 ((full ys).map kept)))).toArray⟩:=by
 refine aZ (pW h) fun j1 j2=>?_;have fP:(dG "-" ys).length<=aW:=by unfold aW;exact bq 0xf42408f0100002fa88f012 rfl j1
 have hk:(gc (dG "-" ys)).cps.toList=jn 45 ((full ys).map kept):=by rw[iI,mC,Bz (by decide),By (by decide) (by decide)];simp only[YO];rfl
 have HC:(gc (dG "-" ys)).length<=(dG "-" ys).length/\∀c∈(gc (dG "-" ys)).cps.toList,c<128:=by rw[len_list,iI,len_list];have:=CS tP 0 ((dG "-" ys).cps.toList.map tr);refine⟨by simpa using this.1,fun c hc=>?_⟩;refine aE (YH.mp (this.2 c hc)) ?_;rintro d hd (rfl);exact PU (j2 d hd)
 have hsq:=Gb (gc (dG "-" ys)).cps.toList;unfold Nl;have hj:iD "-" ys=true:=by
  unfold iD;simp only[Z6,ZH,V0];refine⟨⟨by have:=h.1;unfold aW;exact bq 0xf42408f01c8a012 rfl this,fun z hz=>by have:=(h.2 z hz).1;unfold aW;exact bq 0xf42408f013ca012 rfl this⟩,?_⟩;refine aZ (pM h) fun s1 s2=>?_;have a2:=FZ (((full ys).map WL).map (·.length)) (fun x hx=>by refine aE (YH.mp hx) ?_;rintro z hz (rfl);exact(s2 z hz).1);have e1:("-":WS).length=1:=by rfl
  have:(full ys).length*60<=200*60:=Nat.mul_le_mul_right _ (by simpa using s1);rw[e1];simp only[Y4]at *;exact aT 0x10000008f001e1b103ce11c8a013 rfl s1 a2
 rw[V7 (by rw[hj,ui fP];rfl)];rw[AN _ _ (by lia) (by lia) ((jB _).mpr fun c hc=>by have:=HC.2 c hc;exact bq 0x1100008f0080a002 rfl this),XZ];have HA:(⟨(sq (gc (dG "-" ys)).cps.toList).toArray⟩:WS).length<=(dG "-" ys).length:=by rw[len_list];have:=HC.1;rw[len_list]at this;exact Yg hsq.1 this
 rw[Jp _ _ (by exact aT 0x2a1b001012 rfl HA) (by exact br 0x1210211013 rfl fP HA) (fun c hc=>by have:=HC.2 c (hsq.2 c (by simpa using hc));exact bq 0x1100008f0080a002 rfl this)];rw[hk]
theorem Oy:∀l:List Nat,(∀g,(go g l).length<=2*l.length+1)/\∀d,(zI d l).length<=2*l.length+2:=by
 intro l;induction l with
 |nil=>exact⟨fun g=>by rw[KJ];simp,fun d=>by rw[MB];simp⟩
 |cons c r ih=>
  refine aZ (ih) fun i1 i2=>?_;refine⟨fun g=>?_,fun d=>?_⟩
  ·rw[uc];split
   ·have:=i2 [c];simp;exact aT 0x91b02d0102a102db012 rfl this
   ·split
    ·have:=i1 [];simp;exact aT 0x91b02d90b19102db012 rfl this
    ·have:=i1 (g++[c]);simp;exact aT 0x991b02db019102db012 rfl this
  ·rw[pY];split
   ·have:=i2 (d++[c]);simp;exact aT 0x2a91b02db0102a102db012 rfl this
   ·split
    ·have:=i1 [];simp;exact aT 0x91b02d90b19102db012 rfl this
    ·have:=i1 [c];simp;exact aT 0x991b02db019102db012 rfl this
theorem Lh (hl:l.length<=20000)(ho:dS l=true):OU stg [.str ⟨l.toArray⟩]=XU (.list (toks stg l)):=by
 have Pr:eY ⟨l.toArray⟩=(go [] l).map fun p=>(⟨p.toArray⟩:WS):=by rw[Gd]
 have h0:OU stg [.str ⟨l.toArray⟩]=(if decide ((⟨l.toArray⟩:WS).length<=65536)&&(eY ⟨l.toArray⟩).all ed&&decide (2*(eY ⟨l.toArray⟩).length<=aW)then XU (.list ((eY ⟨l.toArray⟩).flatMap (cE stg)))else XW):=by rfl
 rw[h0,Pr];have h1:(⟨l.toArray⟩:WS).length<=65536:=by rw[len_list];simp;exact bq 0x100008f0100004e208f012 rfl hl
 have h2:((go [] l).map fun p=>(⟨p.toArray⟩:WS)).all ed=true:=by rw[List.all_map];exact ho
 have h3:2*((go [] l).map fun p=>(⟨p.toArray⟩:WS)).length<=aW:=by rw[Y4];have:=(Oy l).1 [];unfold aW;exact aT 0xf42408f102d19002db1100004e208f013 rfl hl this
 rw[V7 (by rw[VZ h1,h2,VZ h3];rfl),List.flatMap_map];rfl
theorem Js (h:Small ys)(fL:∀y∈ys,dS (kept y)=true):∃v,Nl ys=XU v/\OU stg [.str v]=XU (.list (ys.flatMap fun y=>toks stg (kept y))):=by
 refine⟨_,wO h,?_⟩;have j1:=(pW h).1;have hk:(jn 45 ((full ys).map kept)).length<=12200:=by
  have hk:(gc (dG "-" ys)).cps.toList=jn 45 ((full ys).map kept):=by rw[iI,mC,Bz (by decide),By (by decide) (by decide)];simp only[YO];rfl
  have:=CS tP 0 ((dG "-" ys).cps.toList.map tr);rw[<-hk,iI];rw[len_list]at j1;have h9:=this.1;rw[Y4]at h9;exact aT 0x2fa88f1101100002fa88f013 rfl j1 h9
 have h1:=(D6 (sq (jn 45 ((full ys).map kept)))).1;have h2:=(Gb (jn 45 ((full ys).map kept))).1;refine aZ (AE (stg:=stg) _ (sq (jn 45 ((full ys).map kept))) rfl) fun t1 t2=>?_;have t3:=Jt (stg:=stg) (jn 45 ((full ys).map kept)) [];rw[Yz,Yz]at t3;refine aZ (CH (stg:=stg) ((full ys).map kept)) fun t4 t5=>?_;rw[Lh (by exact br 0x4e208f1102121100002fa88f014 rfl hk h1 h2) (by rw[t2,t3.2,t5,List.all_map,ZH];exact fun y hy=>fL y (YI.mp hy).1),t1,t3.1,t4,List.flatMap_map];congr 2;clear fL h j1 hk h1 h2 t1 t2 t3 t4 t5;induction ys with
 |nil=>rfl
 |cons y ys ih=>
  unfold full at ih ⊢;rw[Zv,Zt];split
  ·rw[Zt,ih]
  ·rename_i hy;have h0:y.cps.toList=[]:=by
    have:y.length=0:=by simpa using hy
    rw[len_list]at this;exact Y6.mp this
   have h1:(WL y).cps.toList=[]:=by have:=(uE y).1;rw[h0]at this;exact Y6.mp (by simpa using this)
   have:kept y=[]:=by unfold kept;rw[h1];rfl
   rw[this,km,ih];rfl
end
end Tx
end Mine.Internal
namespace Mine.Internal
open PySem PySem.W PyProof.Rows
variable {C:Cx} {A:XN} {E:WJ->WV->Prop} {s s' gv s₀:WV} {ak ai W W' W₀:XO->Prop} {ag:Env} {sc cj:WY} {ae bl V V':az} {n k i:Nat} {Φ:fN} {ad:WS->XO} {prog:W8} {w:WD} {h h':Xp} {o:Obj} {a I D L:XO} {d:Dat} {v u:WJ} {ds:List Dat} {vs:List WJ} {x:WS} {t value:Expr} {pos p:Pos} {Q:WJ->WV->Prop} {K:Env->XN->Prop}
section
variable {Ψ:pD} {st:WT} {sts:List WT} {fl:Fl}
def oN (Φ:fN)(Ψ:pD)(sc:WY)(body:List WT)(xs:List WS)(ds:List Dat):Option Dat:=if xs.length=ds.length then match cz Φ Ψ sc body (bI xs ds)with
  |some (.ret d)=>XU d|_=>XW
 else XW
theorem iC (hl:xs.length=ds.length)(h:cz Φ Ψ sc body (bI xs ds)=XU (.ret d)):oN Φ Ψ sc body xs ds=XU d:=by unfold oN;rw[V7 hl,h]
set_option tactic.hygienic true in
theorem gO (ds:List Dat)(d:Dat)(h:oN Φ Ψ sc body xs ds=XU d):xs.length=ds.length/\cz Φ Ψ sc body (bI xs ds)=XU (.ret d):=by
 unfold oN at h;split at h
 ·rename_i hl;refine⟨hl,?_⟩;split at h
  ·rename_i r hr;obtain rfl:=XT h;exact hr
  ·exact aa h
 ·exact aa h
def LO (A B:az)(l:List WS):Prop:=(l.map fun x=>A.lookup x)=l.map fun x=>B.lookup x
theorem lookup_none:∀{A:az},x∉A.map (·.1)->A.lookup x=XW:=by
 intro A;induction A with
 |nil=>intro _;exact rfl
 |cons y0 A ih=>intro h;obtain⟨y,s⟩:=y0;have h1:x≠y:=fun q=>h (q▸YJ);rw[aD h1];exact ih fun q=>h (YK _ q)
theorem bT.el {A B:az}(h:LO A B (A.map (·.1)++B.map (·.1))):bT A B:=fun x=>by
 by_cases hx:x∈A.map (·.1)++B.map (·.1)
 ·exact List.map_inj_left.mp h x hx
 ·rw[lookup_none fun q=>hx (List.mem_append_left _ q),lookup_none fun q=>hx (List.mem_append_right _ q)]
noncomputable def jv (t:WS):Option Dat->az|none=>[]|some d=>[(t,.val d)]
set_option tactic.hygienic true in
theorem bT.over {t:WS}{s:Slot}(h:bT V (jv t J++B)):bT ((t,s)::V) ((t,s)::B):=by
 refine(h.cons t s).trans ?_;rcases J with⟨⟩;case none=>exact .refl _
 case some u=>exact bT.shadow
def jC (Φ:fN)(Ψ:pD)(sc:WY)(t:Expr)(body:List WT):Dat->az->Option Fl:=fun d vs=>match bJ sc t d vs with
      |none=>XW|some vs=>cz Φ Ψ sc body vs
theorem jd {t:WS}{α:Type}(hg:iY Ψ)(ht:∀d V,bJ sc te d V=XU ((t,.val d)::V))(base:α->az)(I:List Dat->α->Prop)(step:∀done d rest a,av=done++d::rest->I done a->∃a' W,cz Φ Ψ sc body ((t,.val d)::base a)=XU (.next W)/\bT W ((t,.val d)::base a')/\I (done++[d]) a'):∀(rest done:List Dat)(V:az)(a:α)(J:Option Dat),av=done++rest->bT V (jv t J++base a)->I done a->∃V' J' a',cP (jC Φ Ψ sc te body) rest V=XU (.next V')/\(J.isSome=true\/rest≠[]->J'.isSome=true)/\bT V' (jv t J'++base a')/\I av a':=by
 intro rest;induction rest with
 |nil=>intro done V a J hi hV hI;exact⟨V,J,a,rfl,fun h=>h.resolve_right fun q=>q rfl,hV,by rw[hi,ZF];exact hI⟩
 |cons d ds ih=>
  intro done V a J hi hV hI;refine eH (step done d ds a hi hI) fun a1 W h1 h2 h3=>?_;refine aE (nX hg hV.over h1) fun W' h4 h5=>?_;refine iL (ih (done++[d]) W' a1 (XU d) (by rw[hi];simp) (h5.trans h2) h3) fun V' J' a' h6 h9 h7 h8=>?_;refine⟨V',J',a',?_,fun x=>h9 (.inl rfl),h7,h8⟩;rw[ik]
  ·exact h6
  ·show(match bJ sc te d V with
      |none=>XW|some vs=>cz Φ Ψ sc body vs)=_
   rw[ht];exact h4
theorem lz (hz:Φ.tC "zip"=XW)(h:ev Φ sc it ae=XU src)(hi:bM src=XU av):ex Φ Ψ sc (.For t it b [] p) ae=cP (jC Φ Ψ sc t b) av ae:=xm (qH hz) (fM h) hi
theorem jl {a b:Int}(ha:aP a=true)(hb:aP b=true):lO .Mult (.int a) (.int b)=XU (.int (a*b)):=by show(if aP a&&aP b then XU (Dat.int (a*b))else XW)=_;rw[ha,hb];rfl
theorem eA {a b:Int}:lO .Add (.int a) (.int b)=XU (.int (a+b)):=rfl
theorem eU {a b:Int}:lO .Sub (.int a) (.int b)=XU (.int (a-b)):=rfl
theorem k9 {a b:Int}(hb:b≠0):lO .Mod (.int a) (.int b)=XU (.int (a.fmod b)):=by show(if b=0 then XW else XU (Dat.int (a.fmod b)))=_;rw[V6 hb]
theorem tA {a b:Int}(hb:b≠0)(hs:b.natAbs<1073741824):lO .FloorDiv (.int a) (.int b)=XU (.int (a.fdiv b)):=by show(if b=0\/¬b.natAbs<1073741824 then XW else XU (Dat.int (a.fdiv b)))=_;rw[V6 (by simp[hb];exact hs)]
theorem ct {a:Int}(h1: -1000000<=a)(h2:a<=1000000):aP a=true:=cJ.mpr ⟨Int.lt_of_lt_of_le (by decide +kernel) h1,ZO h2 (by decide +kernel)⟩
theorem G4 (h:aR.length+1<=aW):ny "append" (.list aR) [d]=XU (.list (aR++[d])):=by unfold ny;dsimp only;rw[V7 rfl,V7 h]
theorem pS {α β:Type}{f:α->Option (List β)}{g:α->List β}:∀{l:List α},(∀a∈l,f a=XU (g a))->cZ f l=XU (l.flatMap g):=by intro l;induction l with|nil=>intro _;exact rfl|cons a l ih=>intro h;show((f a).bind fun bs=>(cZ f l).bind fun cs=>XU (bs++cs))=_;rw[h a YJ,XZ,ih fun b hb=>h b (YK _ hb)];rfl
theorem Bq {α β:Type}{f:α->Option (List β)}{g:α->β}{l:List α}(h:∀a∈l,f a=XU [g a]):cZ f l=XU (l.map g):=by rw[pS h];congr 1;induction l with|nil=>rfl|cons a l ih=>rw[Zt,YQ,ih fun b hb=>h b (YK _ hb)];rfl
def bD (op:Operator)(x y:Option Dat):Option Dat:=x.bind fun a=>y.bind fun b=>lO op a b
noncomputable def cq (g:List Dat->Option Dat)(x:Option Dat):Option Dat:=(x.bind fun d=>XU [d]).bind g
def jN (g:List Dat->Option Dat)(x:Option Dat):Option Dat:=((x.map one).bind fun xs=>XU (xs++[])).bind g
def eP (src:Option Dat)(f:Dat->Option (List Dat)):Option Dat:=src.bind fun src=>(bM src).bind fun av=>(cZ f av).bind xF
def hH (x:Option Dat):Option (List Dat):=x.map one
theorem ez {a:Dat}:jN g (XU a)=g [a]:=rfl
theorem aO {op:Operator}{a b:Dat}:bD op (XU a) (XU b)=lO op a b:=rfl
theorem tj {a:Dat}:cq g (XU a)=g [a]:=rfl
theorem f9 {src:Dat}{av:List Dat}{f:Dat->Option (List Dat)}{g:Dat->Dat}(hi:bM src=XU av)(hf:∀d∈av,f d=XU [g d])(hl:av.length<=aW):eP (XU src) f=XU (.list (av.map g)):=by show((bM src).bind fun av=>(cZ f av).bind xF)=_;rw[hi,XZ,Bq hf];show(if(av.map g).length<=aW then XU (Dat.list (av.map g))else XW)=_;rw[V7 (by rw[Y4];exact hl)]
noncomputable def Cy (x:Option Dat):Option (List Dat):=x.bind fun d=>XU [d]
def Bn (m x:WS)(a:Dat)(e:Option (List Dat))(V:az):Option Fl:=e.bind fun ds=>(ny m a ds).map fun a'=>.next ((x,.own a')::V)
theorem nu (h:aR.length+1<=aW):Bn "append" x (.list aR) (Cy (XU d)) V=XU (.next ((x,.own (.list (aR++[d])))::V)):=by show(ny "append" (.list aR) [d]).map (fun a'=>Fl.next ((x,Slot.own a')::V))=_;rw[G4 h];rfl
def wd (ds:List Dat)(lo hi st m:Int):Option Dat:=cq sumF (eP (eZ (.list ds) (XU lo) (XU hi) (XU st)) fun d=>hH (lO .Mod d (.int m)))
theorem Ew (is:List Int)(lo hi st:Option Int):pick (is.map Dat.int) lo hi st=(pick is lo hi st).map .int:=by unfold pick;simp only[Y4];generalize sliceRange _ _ _=l;induction l with|nil=>rfl|cons k l ih=>rw[Zw,Zw,Zg,ih];cases is[k]? <;>rfl
theorem DY:∀is:List Int,is.length<=aW->∃z:Int,sumF [.list (is.map .int)]=XU (.int z):=by
 intro is hl;have h:intsOf (is.map .int)=XU is:=by clear hl;induction is with|nil=>rfl|cons i is ih=>show(intsOf (is.map .int)).map (i::·)=_;rw[ih];rfl
 refine⟨is.sum,?_⟩;show(intsOf (is.map .int)).map (fun ns=>Dat.int ns.sum)=_;rw[h];rfl
noncomputable def onI (f:Int->Dat):Dat->Dat| .int i=>f i|d=>d
theorem DX {is:List Int}{lo hi st m:Int}(hl:is.length<=63)(hm:m≠0)(Fm:st≠0)(h1:aP lo=true)(h2:aP hi=true)(h3:aP st=true):∃z:Int,wd (is.map .int) lo hi st m=XU (.int z):=by
 have hs:eZ (.list (is.map .int)) (XU lo) (XU hi) (XU st)=XU (.list ((pick is (XU lo) (XU hi) (XU st)).map .int)):=by show(if(XU st=XU (0:Int)\/(XU lo).all aP=false\/(XU hi).all aP=false\/(XU st).all aP=false)then XW else(if(is.map Dat.int).length<=aW then XU (Dat.list (pick (is.map Dat.int) (XU lo) (XU hi) (XU st)))else XW))=_;rw[V6 (by simp[Fm,h1,h2,h3]),V7 (by rw[Y4];unfold aW;exact bq 0xf42408f013fa012 rfl hl),Ew]
 have hp:=yP is (XU lo) (XU hi) (XU st) (by simpa using Fm);unfold wd;rw[hs,f9 (g:=onI fun x=>Dat.int (x.fmod m)) rfl (fun a ha=>by refine aE (YH.mp ha) ?_;rintro x _ (rfl);rw[k9 hm];rfl) (by rw[Y4];unfold aW;exact aT 0xf42408f110113fa013 rfl hl hp),tj,YO];have:=DY ((pick is (XU lo) (XU hi) (XU st)).map fun x=>x.fmod m) (by rw[Y4];unfold aW;exact aT 0xf42408f110113fa013 rfl hl hp);rw[YO]at this;exact this
end
open PySem.NumText
theorem dm (h:n<=aW):bM (.range 0 (n:Int) 1)=XU ((Yy n).map fun k:Nat=>.int (k:Int)):=by have:=jJ (by decide) (Nat.mod_one _) h (by decide);rw[Nat.div_one]at this;rw[show((1:Nat):Int)=1 from rfl]at this;rw[this,Yx];refine V4 XU (YR fun k x=>?_);rw[Nat.mul_one]
mutual
noncomputable def eqB:Dat->Dat->Bool
 | .none,.none=>true
 | .bool a,.bool b=>a==b
 | .int a,.int b=>a==b
 | .str a,.str b=>a.cps.toList==b.cps.toList
 | .bytes a,.bytes b=>a==b
 | .tuple a,.tuple b=>zP a b
 | .list a,.list b=>zP a b
 |_,_=>false
noncomputable def zP:List Dat->List Dat->Bool
 |[],[]=>true
 |a::as,b::bs=>eqB a b&&zP as bs
 |_,_=>false
end
theorem K9 (h:eqB .none b=true):Dat.none=b:=by rcases b with⟨⟩<;>first|rfl|exact absurd h ZX
theorem Lb {x:Bool}(h:eqB (.bool x) b=true):Dat.bool x=b:=by rcases b with⟨⟩<;>first|exact V4 Dat.bool (beq_iff_eq.mp h)|exact absurd h ZX
theorem La {x:Int}(h:eqB (.int x) b=true):Dat.int x=b:=by rcases b with⟨⟩<;>first|exact V4 Dat.int (beq_iff_eq.mp h)|exact absurd h ZX
theorem K7 (h:eqB (.str x) b=true):Dat.str x=b:=by rcases b with⟨⟩<;>first|exact V4 Dat.str (Tx.iz (beq_iff_eq.mp h))|exact absurd h ZX
theorem K6 {x:List UInt8}(h:eqB (.bytes x) b=true):Dat.bytes x=b:=by rcases b with⟨⟩<;>first|exact V4 Dat.bytes (beq_iff_eq.mp h)|exact absurd h ZX
set_option tactic.hygienic true in
mutual
theorem H2:∀{a b:Dat},eqB a b=true->a=b
 |a,b,h=>by
  rcases a with⟨⟩
  case none=>exact K9 h
  case bool x=>exact Lb h
  case int x=>exact La h
  case str x=>exact K7 h
  case bytes x=>exact K6 h
  case tuple x=>
   rcases b with⟨⟩
   case tuple y=>exact V4 Dat.tuple (qS (show zP x y=true from h))
   all_goals (exact absurd h ZX)
  case list x=>
   rcases b with⟨⟩
   case list y=>exact V4 Dat.list (qS (show zP x y=true from h))
   all_goals (exact absurd h ZX)
  all_goals (exact absurd (show false=true from by rcases b with⟨⟩<;>exact h) ZX)
theorem qS:∀{a b:List Dat},zP a b=true->a=b
 |[],[],_=>rfl
 |a::as,b::bs,h=>by
  have h':(eqB a b&&zP as bs)=true:=h
  rw[Z6]at h'
  rw[H2 h'.1,qS h'.2]
end
noncomputable def PG:Option Dat->Dat->Bool|some a,b=>eqB a b|none,_=>false
set_option tactic.hygienic true in
theorem sT {a:Option Dat}(h:PG a b=true):a=XU b:=by
 rcases a with⟨⟩;case none=>(rcases h with⟨⟩)
 case some a=>exact V4 XU (H2 h)
def yb:fN:={dB 0 0 with
 oR:=fun m=>if m="join" then zo else if m="index" then oW else fun y y=>XW,glob:=fun x=>if x="bytes" then XU (.typ "bytes")else XW}
theorem kP (hC:C.Plain):b9 C yb n where
 fn h:=aa h;tC h:=IL (bb:=0) (fuel:=0) hC h;glob h:=xb (sE hC) Dh h;oR {m}:=nz uW (nz rW C0) m
namespace Co
section
variable {Ψ:pD}
noncomputable def GR (f:Int->Dat):Dat->Dat| .int i=>f i|d=>d
theorem JZ {f:Int->Dat}{i:Int}:GR f (.int i)=f i:=rfl
theorem gt7 {k:Nat}:(7:Int)<((7*(k+1):Nat):Int)↔0<k:=(Int.ofNat_lt (n:=7)).trans ((Nat.lt_mul_iff_one_lt_right (by decide)).trans Nat.succ_lt_succ_iff)
theorem Nf {n k:Nat}(h:k<n):((n:Int)-1+(-1)*(k:Int)).toNat=n-1-k:=by
 have:(n:Int)-1+(-1)*(k:Int)=((n-1-k:Nat):Int):=by rw[Int.ofNat_sub (Nat.le_sub_one_of_lt h),Int.ofNat_sub (Nat.lt_of_le_of_lt (X1 _) h),Int.neg_one_mul];rfl
 rw[this,ZK]
def fk (sc:WY)(x:WS)(e e':Option Dat)(V:az):Option Fl:=((match e with
 |some d=>XU (d,V)|none=>e'.map fun d=>(d,aS V)).bind (D3 sc x)).map .next
theorem bp:fk sc x (XU d) e' V=(b8 sc x (.val d) V).map .next:=rfl
theorem item_at (h:ds[k]?=XU d)(hl:ds.length<=1000):dp (.list ds) (.int (k:Int))=XU d:=by have hk:=(Zh.mp h).1;show(if aP (k:Int)=true then(dU (k:Int) ds.length).bind (ds[·]?)else XW)=_;rw[V7 (ct (by exact bq 0xaf000f42408f9f81 rfl) (by exact aT 0xf42408f1af8010000003e88f013 rfl hl hk))];unfold dU;rw[V7 (by exact bq 0xaf881 rfl),V7 (by exact aT 0x1af0af71002 rfl hk)];simpa using h
def cK (g:List Dat->Option Dat)(x y:Option Dat):Option Dat:=((x.map one).bind fun xs=>((y.map one).bind fun ys=>XU (ys++[])).map fun ds=>xs++ds).bind g
theorem dq {a b:Dat}:cK g (XU a) (XU b)=g [a,b]:=rfl
noncomputable def aL (l:List Nat):List Dat:=l.map fun k:Nat=>.int (k:Int)
def bQ (x y:Option Dat):Option Dat:=x.bind fun a=>y.bind fun i=>dp a i
theorem Cr {a b:List UInt8}(h:a.length+b.length<=aW):lO .Add (.bytes a) (.bytes b)=XU (.bytes (a++b)):=by show(if a.length+b.length<=aW then XU (Dat.bytes (a++b))else XW)=_;rw[V7 h]
theorem sO (n m:Nat):(n:Int).fdiv (m:Int)=((n/m:Nat):Int):=by rw[Int.fdiv_eq_ediv_of_nonneg _ (by exact bq 0xaf881 rfl)];rfl
theorem sM (n m:Nat):(n:Int).fmod (m:Int)=((n%m:Nat):Int):=by rw[Int.fmod_eq_emod_of_nonneg _ (by exact bq 0xaf881 rfl)];rfl
theorem item_last (h:ds.length<=1000):dp (.list (ds++[d])) (.int (-1))=XU d:=by
 show(if aP (-1)=true then(dU (-1) (ds++[d]).length).bind ((ds++[d])[·]?)else XW)=_;rw[V7 (by decide)];unfold dU;rw[V6 (by decide),V7 (by simp;exact bq 0x90afb99fb881 rfl)];have:((-1:Int)+((ds++[d]).length:Int)).toNat=ds.length:=by simp;exact bq 0x90afb99fbbf21 rfl
 rw[XZ,this];simp
theorem AI {x r:List UInt8}{w:Nat}(hx:x.length=w)(hw:0<w):ko (x++r) w=x.reverse++ko r w:=by
 apply Zy;intro k;unfold ko;by_cases hk:k<w
 ·rw[Zo (by simp;exact br 0x201201023 rfl hx hk),Zg,Zf (by simp;exact cX 0x30b201201023 rfl hx hk),XX,List.getElem?_reverse (by exact br 0x201201023 rfl hx hk)];unfold swapAt;rw[Nat.div_eq_of_lt hk,Nat.mod_eq_of_lt hk,Nat.zero_mul,X2,Zp,Zo (by exact br 0x291cc01201023 rfl hx hk),hx];have:w-1-k<x.length:=br 0x291cc01201023 rfl hx hk;rw[Zk this];rfl
 ·rw[Zn (by simp;exact br 0x20112031023 rfl hx hk),YX,hx];by_cases sv:k<(x++r).length
  ·have Pu:k-w<r.length:=by simp at sv;exact cX 0x312c030b2012031024 rfl hx hk sv
   rw[Zg,Zf sv,Zg,Zf Pu,XX,XX];congr 1;unfold swapAt;have e1:k/w=(k-w)/w+1:=by
    have:k=(k-w)+w:=aT 0x110cb0210032 rfl hk;conv=>lhs;rw[this]
    rw[Nat.add_div_right _ hw]
   have e2:k%w=(k-w)%w:=by
    have:k=(k-w)+w:=aT 0x110cb0210032 rfl hk;conv=>lhs;rw[this]
    rw[Nat.add_mod_right]
   have hm:=X8 (k-w) hw;have e3:k/w*w=(k-w)/w*w+w:=by rw[e1,X3]
   rw[e3,e2,Zp,Zp,Zn (by exact cX 0x391cc12bb011022 rfl hx)];congr 2;exact cX 0x391cc2b0391cc12bbc21022 rfl hx
  ·rw[Zj (by simp at sv ⊢;assumption),Zj (by simp at sv ⊢;exact cX 0x13c21320b11023 rfl hx sv)]
theorem jA {w:Nat}(hw:0<w):∀bs:List (List UInt8),(∀b∈bs,b.length=w)->ko bs.flatten w=(bs.map Yu).flatten|[],_=>rfl|b::bs,h=>by rw[Zr,AI (h b YJ) hw,jA hw bs fun x hx=>h x (YK _ hx)];rfl
noncomputable def B8 (l:List Nat):List UInt8:=l.map Nat.toUInt8
theorem sN {α:Type}{l:List (List α)}{k:Nat}(h:∀c∈l,c.length=k):l.flatten.length=l.length*k:=by induction l with|nil=>simp|cons c l ih=>rw[Zr,Y9,h c YJ,ih fun x hx=>h x (YK _ hx),Y8,X3,Nat.add_comm]
noncomputable def zc (g:Dat->List Dat->Option Dat)(a:Dat)(x:Option Dat):Option Dat:=(x.bind fun d=>XU [d]).bind fun ds=>g a ds
theorem tv {w:Nat}(hw:0<w)(hc:w<=aW)(hl:b.length<=aW)(hm:b.length%w=0):tw [.bytes b,.int (w:Int)]=XU (.bytes (ko b w)):=by show(if 0<(w:Int)/\(w:Int)<=(aW:Int)/\b.length<=aW/\b.length%(w:Int).toNat=0 then XU (Dat.bytes (ko b (w:Int).toNat))else XW)=_;rw[ZK,V7 ⟨by exact bq 0xaf870802 rfl hw,by exact aT 0x1af0af81012 rfl hc,hl,hm⟩]
theorem u8 (h:c<128):(Nat.toUInt8 c).toNat=c:=by simp;exact bq 0x1008f0080a002 rfl h
theorem vb:∀l:List WS,(WQ "" l).cps.toList=(l.map (·.cps.toList)).flatten
 |[]=>rfl
 |[a]=>by simp[WQ]
 |a::b::r=>by
  show(a++""++WQ "" (b::r)).cps.toList=_;simp only[WR,Z7];rw[vb (b::r),YQ,Zr];have:("":WS).cps.toList=[]:=by rfl
  rw[this,ZF];simp
theorem mr:∀l:List WS,strsOf (l.map .str)=XU l|[]=>rfl|a::l=>by show(strsOf (l.map .str)).map (a::·)=_;rw[mr l];rfl
def gI (op:CmpOp)(x y:Option Dat):Option Bool:=x.bind fun a=>y.bind fun b=>kW op a b
def eI (x:Option Dat):Option (Option Int):=x.bind asI
def bB (a:Option Dat)(lo hi st:Option (Option Int)):Option Dat:=a.bind fun a=>lo.bind fun lo=>hi.bind fun hi=>st.bind fun st=>eZ a lo hi st
theorem qQ (a b:Int):qy (.int a) (.int b)=XU (a==b):=by rfl
theorem EV (a b:Int):gI .Eq (XU (.int a)) (XU (.int b))=XU (a==b):=qQ a b
theorem oH {a i:Dat}:bQ (XU a) (XU i)=dp a i:=rfl
theorem fu (h:ds[k]?=XU d)(hl:ds.length<=1000):bQ (XU (.list ds)) (XU (.int (k:Int)))=XU d:=oH.trans (item_at h hl)
theorem jj {a b:WS}(h:a.length+b.length<=aW):lO .Add (.str a) (.str b)=XU (.str (a++b)):=by show(if a.length+b.length<=aW then XU (Dat.str (a++b))else XW)=_;rw[V7 h]
def F9 (g:List Dat->Option Dat)(ds:List Dat):Option Dat:=((if ds.length<=aW then XU ds else XW).bind fun xs=>XU (xs++[])).bind g
theorem Ag {f:Nat->Dat}{n k:Nat}(h:k<n):((Yy n).map f)[k]?=XU (f k):=by rw[Zg,Zf h];rfl
set_option tactic.hygienic true in
theorem HT {α:Type}{l:List (List α)}{m:Nat}(h:∀c∈l,c.length=m):∀(k:Nat)(c:List α),l[k]?=XU c->(l.flatten.drop (m*k)).take m=c:=by
 induction l with
 |nil=>intro k c hk;simp at hk
 |cons b l ih=>
  intro k c hk;have hb:=h b YJ;rcases k with⟨⟩;case zero=>rw[Zl]at hk;obtain rfl:=XT hk;rw[Nat.mul_zero,Zz,Zr,List.take_left' hb]
  case succ k=>rw[Zm]at hk;rw[Zr,Nat.mul_succ,Nat.add_comm,<-ZC,List.drop_left' hb,ih (fun x hx=>h x (YK _ hx)) k c hk]
theorem slice_list {ds:List Dat}{lo hi:Int}(h1:aP lo=true)(h2:aP hi=true)(hl:ds.length<=aW):bB (XU (.list ds)) (XU (XU lo)) (XU (XU hi)) (XU XW)=XU (.list (pick ds (XU lo) (XU hi) XW)):=by show(if(XW:Option Int)=XU 0\/(XU lo).all aP=false\/(XU hi).all aP=false\/(XW:Option Int).all aP=false then XW else(if ds.length<=aW then XU (Dat.list (pick ds (XU lo) (XU hi) XW))else XW))=_;rw[V6 (by simp[h1,h2]),V7 hl]
theorem Gf {l:List (List Dat)}{m:Nat}{c:List Dat}(h:∀c∈l,c.length=m)(hk:l[k]?=XU c)(hl:l.length<=100)(hm:m<=10):bB (XU (.list l.flatten)) (XU (XU ((m*k:Nat):Int))) (XU (XU ((m*k+m:Nat):Int))) (XU XW)=XU (.list c):=by
 have hlen:=sN h;have HC:=(Zh.mp hk).1;have b1:m*k<=m*l.length:=Nat.mul_le_mul_left _ (aT 0x1011002 rfl HC);have b2:m*k+m<=l.length*m:=by rw[<-Nat.mul_succ,X7];exact Nat.mul_le_mul_right _ HC
 have b3:=Nat.mul_le_mul hl hm;rw[slice_list (ct (by exact bq 0xaf000f42408f9f81 rfl) (by exact br 0xf42408f0af80aa64d21210b13 rfl b2 b3)) (ct (by exact aT 0x10baf000f42408f9f81 rfl) (by exact br 0xf42408f10baf80aa64d21210b13 rfl b2 b3)) (by rw[hlen];unfold aW;exact bq 0xf42408f010aa64d012 rfl b3),fW];have c1:clipAt l.flatten.length ((m*k:Nat):Int)=m*k:=by unfold clipAt;rw[V6 (by exact bq 0x80af731 rfl)];exact cX 0x20af2afdf8cfbf2132b11023 rfl hlen b2
 have c2:clipAt l.flatten.length ((m*k+m:Nat):Int)=m*k+m:=by unfold clipAt;rw[V6 (by exact aT 0x810baf731 rfl)];exact cX 0x32b0af32bafdf8cfbf2132b11023 rfl hlen b2
 simp only[Option.elim];rw[c1,c2,show m*k+m-m*k=m by exact aT 0x1010bc21 rfl,HT h k c hk]
theorem cG (i:Int):eI (XU (.int i))=XU (XU i):=rfl
def NI:WT->Expr| .Assign _ (.Call _ _ [⟨_,.Lambda _ b _ _,_⟩] _) _=>b|_=>.Name "" cM
noncomputable def Ep:WT->WY| .Assign _ (.Call _ _ [⟨_,.Lambda _ _ s _,_⟩] _) _=>s|_=>default
def Hg:WT->Expr| .Assign _ (.Call _ [it] _ _) _=>it|_=>.Name "" cM
theorem AO {a b c:Int}(h3:gH sc eM=true)(h8:(eM.names.all fun p=>p.2 != .free||mB (ae.lookup p.1))=true)(h9:sc.names.lookup ("sorted":WS)=XU .globalImplicit)(hi:ev Φ sc it ae=XU (.range a b c))(hit:bM (.range a b c)=XU av)(ua:av.length<64)(hk:gR Φ eM body ae av=XU kd)(ho:oP kd=true):yE Φ x it body eM sc ae=(b8 sc x (.val (.list (yG kd av))) ae).map .next:=by unfold yE;rw[V7 ⟨h8,h9,h3⟩,hi];show((bM (.range a b c)).bind fun av=>_)=_;rw[hit,XZ,V7 ua,hk,XZ,V7 ho]
def DL (c:Option Bool)(x:Option (List Dat)):Option (List Dat):=(c.bind fun c=>cn c (XU true) (XU false)).bind fun c=>cn c x (XU [])
def qB (op:CmpOp)(x y:Option Dat):Option Dat:=x.bind fun a=>(y.bind fun b=>kW op a b).bind MN
def bind1 (x:Option Dat)(f:Dat->Option (List Dat)):Option (List Dat):=x.bind fun src=>(bM src).bind fun av=>cZ f av
theorem FT {x:Dat}{xs:List Dat}:fB (x::xs)=(match ml x with|none=>XW|some p=>match fB xs with|none=>XW|some ps=>XU (p::ps)):=rfl
theorem pV:∀l:List Nat,(∀i∈l,ev Φ eM body ((("k":WS),.val (.int (i:Int)))::b0 eM ae)=XU (.list (g i)))->gR Φ eM body ae (l.map fun k:Nat=>.int (k:Int))=XU (l.map g)|[],_=>rfl|i::l,h=>by refine(V4 (G9 · _) (h i YJ)).trans ?_;exact xR (pV l fun x hx=>h x (YK _ hx)) rfl
theorem HZ {a b:Expr}(h1:dQ Φ sc a V (ev Φ sc a V)=XU false)(h2:dQ Φ sc b V (ev Φ sc b V)=XU false):ew Φ sc .Or [a,b] V=XU false:=(V4 (Option.bind · fun c=>cn (pJ .Or c) (XU c) (ew Φ sc .Or [b] V)) h1).trans ((V4 (Option.bind · fun c=>cn (pJ .Or c) (XU c) (ew Φ sc .Or [] V)) h2).trans rfl)
theorem GI {α:Type}(l:List α):pick l XW XW (XU (-1))=l.reverse:=by
 have hb:sliceBounds XW XW (XU (-1)) l.length=((l.length:Int)-1,-1,-1):=by unfold sliceBounds;simp
 unfold pick;rw[hb];dsimp only;have hr:sliceRange ((l.length:Int)-1) (-1) (-1)=(Yy l.length).map fun k=>l.length-1-k:=by
  unfold sliceRange;have hc:(if((l.length:Int)-1)> -1 then(((l.length:Int)-1)-(-1)-(-1)-1)/(-(-1))else 0).toNat=l.length:=by
   split
   ·simp
   ·exact bq 0x8bf290afc99f732 rfl (by assumption)
  rw[V6 (by decide)];dsimp only;rw[hc];refine YR fun k hk=>?_;exact Nf (YD.mp hk)
 rw[hr,List.filterMap_map];have key:∀m:List Nat,(∀k∈m,k<l.length)->m.filterMap ((l[·]?)∘fun k=>l.length-1-k)=m.filterMap fun k=>l.reverse[k]? :=by intro m;induction m with|nil=>intro _;rfl|cons k m ih=>intro hm;rw[Zw,Zw,ih fun x hx=>hm x (YK _ hx),Function.comp_apply,List.getElem?_reverse (hm k YJ)]
 rw[key _ fun k hk=>YD.mp hk];have hid:∀m:List α,(Yy m.length).filterMap (fun k=>m[k]?)=m:=by intro m;induction m with|nil=>rfl|cons a m ih=>rw[Y8,List.range_succ_eq_map,Zw,List.filterMap_map];show a::_=_;congr 1
 have:=hid l.reverse;rw[YX]at this;rw[this]
theorem pN {t:List UInt8}{lo hi st:Option Int}(h0:st≠XU 0)(h1:lo.all aP=true)(h2:hi.all aP=true)(h3:st.all aP=true)(hl:t.length<=aW):bB (XU (.bytes t)) (XU lo) (XU hi) (XU st)=XU (.bytes (pick t lo hi st)):=by show(if st=XU 0\/lo.all aP=false\/hi.all aP=false\/st.all aP=false then XW else(if t.length<=aW then XU (Dat.bytes (pick t lo hi st))else XW))=_;rw[V6 (by simp[h0,h1,h2,h3]),V7 hl]
theorem vy (a b:Bool):gI .Eq (XU (.bool a)) (XU (.bool b))=XU (a==b):=by rcases a with⟨⟩<;>rcases b with⟨⟩<;>rfl
end
end Co
namespace L1
section
open Mine.Internal.Co
variable {bb:XO} {fuel:Nat} {kB aR:List Dat} {is:List Int} {k:Int}
def iX:List WT:=fj pw 9
def jM:WY:=dN pw 9
noncomputable def B3 (kB:List Dat):az:=[(("base":WS),.own (.list [.int 38403,.int 25586,.int 56724,.int 95823,.int 118754,.int 47456])),(("script":WS),.val (.list kB))]
noncomputable def Dw:List Dat:=[.int 38403,.int 25586,.int 56724,.int 95823,.int 118754,.int 47456]
def Dm (k:Int)(kB:List Dat):Option Dat:=bD .Mod (bD .Add (bQ (XU (.list Dw)) (XU (.int k))) (wd kB k 60 6 126000)) (XU (.int 126000))
theorem ZaF:ex (dB bb fuel) gC jM (aB iX 0) (bI ["script"] [.list kB])=XU (.next (B3 kB)):=by rfl
theorem ZaE:ev (dB bb fuel) jM (cu (aB iX 1)) (B3 kB)=eP (XU (.range 0 6 1)) fun d=>hH (bD .Mod (bD .Add (bQ (XU (.list Dw)) (XU d)) (cq sumF (eP (bB (XU (.list kB)) (eI (XU d)) (eI (XU (.int 60))) (eI (XU (.int 6)))) fun x=>hH (bD .Mod (XU x) (XU (.int 126000)))))) (XU (.int 126000))):=by rfl
theorem Lc:iX=[aB iX 0,.Return (XU (cu (aB iX 1))) (gD (aB iX 1))]:=by rfl
theorem LG {k:Nat}(h:k<6):∃b:Int,Dw[k]?=XU (.int b):=by rw[show Dw=[38403,25586,56724,95823,118754,47456].map Dat.int from rfl,Zg,Zk h];exact⟨_,rfl⟩
theorem H8 (hl:is.length<=63){k:Nat}(hk:k<6):∃w:Nat,Dm (k:Int) (is.map .int)=XU (.int (w:Int))/\w<126000:=by refine aM (DX (lo:=(k:Int)) (hi:=60) (st:=6) (m:=126000) hl (by decide) (by decide) (ct (bq 0xaf000f42408f9f81 rfl) (bq 0xf42408f0af806a002 rfl hk)) (by decide) (by decide)) fun z hz=>?_;refine aM (LG hk) fun b hb=>?_;have hb:=fu hb (by decide);unfold Dm;rw[hb,hz,aO,eA,aO,k9 (by decide)];have h0:=Int.fmod_nonneg_of_pos (b+z) (b:=126000) (by decide);have h1:=Int.fmod_lt_of_pos (b+z) (b:=126000) (by decide);refine⟨((b+z).fmod 126000).toNat,?_,by exact An 0x1ec308f0fbf00001ec308f0f72 rfl h1⟩;rw[ZJ h0]
theorem yJ {a:Dat}{lo hi st:Option Int}:bB (XU a) (XU lo) (XU hi) (XU st)=eZ a lo hi st:=by unfold bB;rw[XZ,XZ,XZ,XZ]
def xB (bb:XO):List Dat->Option Dat:=oN (dB bb 0) gC jM iX ["script"]
theorem sY (hl:is.length≤63):∀m≤6,∃ns:List Nat,ns.length=m∧(∀w∈ns,w < 126000)∧∀(k:Nat) (w:Nat),ns[k]? =XU w→Dm (k:Int) (is.map .int)=XU (.int (w:Int))
 |0,_=>⟨[],rfl,(fun w h=>nomatch h),(fun k w h=>nomatch h)⟩
 |m + 1,h=>by
  refine eB (sY hl m (by exact bq 0x6a0106a90b12 rfl h)) fun ns h1 h2 h3=> ?_
  refine aE (H8 hl (show m < 6 by exact bq 0x6a0006a90b12 rfl h)) fun w h4 h5=> ?_
  refine ⟨ns++[w],by simp [h1],fun x hx=> ?_,fun k x hx=> ?_⟩
  ·refine XR (YM.mp hx) (fun q=> ?_) fun q=> ?_
   ·exact h2 x q
   ·rw [YA.mp q];exact h5
  ·by_cases hk:k < ns.length
   ·rw [Zo hk] at hx
    exact h3 k x hx
   ·rw [Zn (by exact aT 0x1110032 rfl hk)] at hx
    have h6:k - ns.length=0:=by
     have:=(Zh.mp hx).1
     simp at this;assumption
    rw [h6] at hx
    have:k=m:=by exact br 0x122802c202031024 rfl h1 hk h6
    subst this
    obtain rfl:=XT hx
    exact h4
theorem H7 (hl:is.length≤63):∃ns:List Nat,xB bb [.list (is.map .int)]=XU (.list (aL ns))∧ns.length=6∧∀w∈ns,w < 126000:=by
 refine eB (sY hl 6 (Yh _)) fun ns h1 h2 h3=> ?_
 refine ⟨ns,iC rfl ?_,h1,h2⟩
 have hit:bM (.range 0 6 1)=XU ((Yy 6).map fun k:Nat=> .int (k:Int)):=dm (by decide)
 have hv:ev (dB bb 0) jM (cu (aB iX 1)) (B3 (is.map .int))=XU (.list (aL ns)):=by
  rw [ZaE,f9 hit (g:=GR fun k=> .int ((ns.getD k.toNat 0:Nat):Int)) (fun d hd=> ?_) (by simp [aW])]
  ·refine V4 (fun l=>XU (Dat.list l)) ?_
   rw [YO]
   unfold aL
   refine Zy fun i=> ?_
   rw [Zg,Zg]
   by_cases hi:i < 6
   ·rw [Zf hi]
    have hn:i < ns.length:=by exact aT 0x1006a1006a023 rfl h1 hi
    rw [XX,Zk hn]
    show XU (Dat.int ((ns.getD ((i:Nat):Int).toNat 0:Nat):Int))=_
    rw [ZK,Zp,Zk hn];rfl
   ·rw [Zj (by simp;exact bq 0x6a106a0032 rfl hi),Zj (by exact aT 0x10106a10306a023 rfl h1 hi)];rfl
  ·refine aE (YH.mp hd) ?_;rintro k hk (rfl)
   have hk:=YD.mp hk
   have hg:ns[k]? =XU (ns.getD k 0):=by
    rw [Zp,Zk (show k < ns.length by exact aT 0x1006a1006a023 rfl h1 hk)];rfl
   have h:=h3 k _ hg
   have hs:bB (XU (.list (is.map .int))) (eI (XU (.int (k:Int)))) (eI (XU (.int 60))) (eI (XU (.int 6)))=eZ (.list (is.map .int)) (XU (k:Int)) (XU 60) (XU 6):=by rw [cG,cG,cG,yJ]
   rw [hs]
   have h':=h
   unfold Dm wd at h'
   exact V4 hH h'
 rw [Lc,ar (ax rfl ZaF)]
 exact er (ax rfl (d0 (fM hv))) (fun v q=>by rcases q with ⟨⟩)
noncomputable def Qw:List Int:=[0,0,10,20,20,30,30,40,50,50,100,100,100,200,200]
noncomputable def PO:List Dat:=[.str "Rc",.str "x",.str "dev",.str "a",.str "alpha",.str "b",.str "beta",.str "c",.str "RC",.str "rc",.int 0,.int 9,.int 1000,.str "p",.str "pl"]
noncomputable def lQ:List WS:=["Rc","x","dev","a","alpha","b","beta","c","RC","rc","0","9","1000","p","pl"]
def QQ (p:Nat):List Dat:=[.int (Qw.getD p 0),PO.getD p .none]
def xA:List WT:=fj pw 10
def n6:WY:=dN pw 10
noncomputable def num (p:Nat):Bool:=decide (10<=p)&&decide (p<=12)
def behind (p b:Nat):List Dat:=if num p then(if b=0 then[.int 0,.str "x"]else[.int 40,.str "c"])else(if b=0 then[.int 100,.int 3]else[.int 100,.int 8])
def fQ (p b:Nat):List Dat:=QQ p++behind p b
def B4:List Dat->Option Dat:=oN yb gC n6 xA ["key"]
noncomputable def Ki (p b:Nat):Dat:=.list [.int (p:Int),.int (b:Int)]
def ZaG (p b:Nat):Bool:=PG (B4 [Ki p b]) (.list (fQ p b))
theorem Ld:(Yy 15).all (fun p=>(Yy 2).all fun b=>ZaG p b)=true:=by decide +kernel
theorem H4 {p b:Nat}(hp:p<15)(hb:b<2):B4 [Ki p b]=XU (.list (fQ p b)):=sT (ZH.mp (ZH.mp Ld p (YD.mpr hp)) b (YD.mpr hb))
def tc:List WT:=fj pw 11
def aY:WY:=dN pw 11
end
section
open Mine.Internal.Co
variable {bb:XO} {fuel:Nat} {Ψ:pD} {d pl:Int} {due:List Dat} {f b:WS} {r a:Int} {sg:WS}
def iZ:fN:=yb.and "_law_due" B4
abbrev fC (i:Nat):WT:=aB tc i
noncomputable def cV0 (d:Int):az:=[(("drawn":WS),.val (.int d))]
noncomputable def cV1 (d pl:Int):az:=(("place":WS),.val (.int pl))::cV0 d
noncomputable def cV2 (d pl:Int)(due:List Dat):az:=(("due":WS),.val (.list due))::cV1 d pl
noncomputable def EZ (d pl:Int)(due:List Dat)(f:WS):az:=(("first":WS),.val (.str f))::cV2 d pl due
theorem ZaQ:ex iZ Ψ aY (fC 0) (cV0 d)=fk aY "place" (bD .Mod (XU (.int d)) (XU (.int 15))) (bD .Mod (XU (.int d)) (XU (.int 15))) (cV0 d):=by rfl
def L9 (x y:Option Dat):Option Dat:=(x.bind fun d=>(y.bind fun e=>XU [e]).map fun ds=>d::ds).bind xF
theorem Th:ev iZ aY (aJ (fC 1)) (cV1 d pl)=jN B4 (L9 (XU (.int pl)) (bD .Mod (bD .FloorDiv (XU (.int d)) (XU (.int 15))) (XU (.int 2)))):=by rfl
theorem ZaP:ex iZ Ψ aY (fC 1) V=fk aY "due" (ev iZ aY (aJ (fC 1)) V) (ev iZ aY (aJ (fC 1)) (aS V)) V:=by rfl
theorem Tf:ev iZ aY (aJ (fC 2)) (cV2 d pl due)=cq DZ (bQ (XU (.list due)) (XU (.int 1))):=by rfl
theorem ZaO:ex iZ Ψ aY (fC 2) V=fk aY "first" (ev iZ aY (aJ (fC 2)) V) (ev iZ aY (aJ (fC 2)) (aS V)) V:=by rfl
theorem S9:ev iZ aY (aJ (fC 4)) (EZ d pl due f)=bD .Add (bD .Add (XU (.str f)) (bQ (XU (.list [.str "",.str ".",.str "_",.str "+",.str "-"])) (bD .Mod (bD .FloorDiv (XU (.int d)) (XU (.int 60))) (XU (.int 5))))) (cq DZ (bQ (XU (.list due)) (XU (.int 3)))):=by rfl
theorem ZaM:ex iZ Ψ aY (fC 4) V=fk aY "body" (ev iZ aY (aJ (fC 4)) V) (ev iZ aY (aJ (fC 4)) (aS V)) V:=by rfl
noncomputable def cV4 (d pl:Int)(due:List Dat)(f b:WS):az:=(("body":WS),.val (.str b))::EZ d pl due f
theorem S8:ev iZ aY (aJ (fC 5)) (cV4 d pl due f b)=bD .Sub (XU (.int 7)) (iu [.str b]):=by rfl
theorem ZaL:ex iZ Ψ aY (fC 5) V=fk aY "room" (ev iZ aY (aJ (fC 5)) V) (ev iZ aY (aJ (fC 5)) (aS V)) V:=by rfl
noncomputable def cV5 (d pl:Int)(due:List Dat)(f b:WS)(r:Int):az:=(("room":WS),.val (.int r))::cV4 d pl due f b
theorem SY:ev iZ aY (aJ (fC 6)) (cV5 d pl due f b r)=bD .Mod (bD .Mod (bD .FloorDiv (XU (.int d)) (XU (.int 300))) (XU (.int 7))) (bD .Add (XU (.int r)) (XU (.int 1))):=by rfl
theorem ZaK:ex iZ Ψ aY (fC 6) V=fk aY "ahead" (ev iZ aY (aJ (fC 6)) V) (ev iZ aY (aJ (fC 6)) (aS V)) V:=by rfl
noncomputable def cV6 (d pl:Int)(due:List Dat)(f b:WS)(r a:Int):az:=(("ahead":WS),.val (.int a))::cV5 d pl due f b r
theorem SX:ev iZ aY (aJ (fC 7)) (cV6 d pl due f b r a)=bQ (XU (.str " /\\:;\"()-._+")) (bD .Mod (bD .FloorDiv (XU (.int d)) (XU (.int 2100))) (XU (.int 12))):=by rfl
theorem ZaJ:ex iZ Ψ aY (fC 7) V=fk aY "sign" (ev iZ aY (aJ (fC 7)) V) (ev iZ aY (aJ (fC 7)) (aS V)) V:=by rfl
noncomputable def cV7 (d pl:Int)(due:List Dat)(f b:WS)(r a:Int)(sg:WS):az:=(("sign":WS),.val (.str sg))::cV6 d pl due f b r a
theorem SW:ev iZ aY (cu (fC 8)) (cV7 d pl due f b r a sg)=cq px (eP (bD .Add (bD .Add (bD .Mult (XU (.str sg)) (XU (.int a))) (XU (.str b))) (bD .Mult (XU (.str sg)) (bD .Sub (XU (.int r)) (XU (.int a))))) fun x=>hH (cq JX (XU x))):=by rfl
theorem Ls:tc=[fC 0,fC 1,fC 2,.If (aN (fC 3)) (bN (fC 3)) [] (gy (fC 3)),fC 4,fC 5,fC 6,fC 7,.Return (XU (cu (fC 8))) (gD (fC 8))]:=by rfl
theorem Td:dQ iZ aY (aN (fC 3)) V (ev iZ aY (aN (fC 3)) V)=ew iZ aY .And (bZ (aN (fC 3))) V:=by rfl
theorem Iy:bZ (aN (fC 3))=[(bZ (aN (fC 3))).getD 0 (.Name "" cM),(bZ (aN (fC 3))).getD 1 (.Name "" cM)]:=by rfl
theorem Te:bN (fC 3)=[aB (bN (fC 3)) 0]:=by rfl
theorem Tc:ev iZ aY (aJ (aB (bN (fC 3)) 0)) (EZ d pl due f)=bD .Add (XU (.str "0")) (XU (.str f)):=by rfl
theorem ZaN:ex iZ Ψ aY (aB (bN (fC 3)) 0) V=fk aY "first" (ev iZ aY (aJ (aB (bN (fC 3)) 0)) V) (ev iZ aY (aJ (aB (bN (fC 3)) 0)) (aS V)) V:=by rfl
theorem Ta:dQ iZ aY ((bZ (aN (fC 3))).getD 1 (.Name "" cM)) (EZ d pl due f) (ev iZ aY ((bZ (aN (fC 3))).getD 1 (.Name "" cM)) (EZ d pl due f))=gI .Eq (bD .Mod (bD .FloorDiv (XU (.int d)) (XU (.int 30))) (XU (.int 2))) (XU (.int 1)):=by rfl
def Ir (o1 o2:CmpOp)(a b c:Dat):Option Bool:=(kW o1 a b).bind fun r=>cn r (kW o2 b c) (XU false)
theorem Tb {p:Nat}(hp:p<15):dQ iZ aY ((bZ (aN (fC 3))).getD 0 (.Name "" cM)) (EZ d (p:Int) due f) (ev iZ aY ((bZ (aN (fC 3))).getD 0 (.Name "" cM)) (EZ d (p:Int) due f))=XU (num p):=by
 have key:∀i:Int,dQ iZ aY ((bZ (aN (fC 3))).getD 0 (.Name "" cM)) (EZ d i due f) (ev iZ aY ((bZ (aN (fC 3))).getD 0 (.Name "" cM)) (EZ d i due f))=Ir .LtE .LtE (.int 10) (.int i) (.int 12):=fun i=>by rfl
 rw[key];have h:(Yy 15).all (fun p=>decide (Ir .LtE .LtE (.int 10) (.int (p:Int)) (.int 12)=XU (num p)))=true:=by decide +kernel
 exact VW (ZH.mp h p (YD.mpr hp))
end
section
open Mine.Internal.Co
noncomputable def CQ:List Nat:=[32,47,92,58,59,34,40,41,45,46,95,43]
noncomputable def Gj (m:Nat):WS:=(["",".","_","+","-"]:List WS).getD m ""
def iW (p z:Nat):WS:=if num p&&decide (z=1)then "0"++lQ.getD p "" else lQ.getD p ""
def Nd (p b:Nat):WS:=if num p then(if b=0 then "x" else "c")else(if b=0 then "3" else "8")
def vG (p b z m:Nat):WS:=(iW p z++Gj m)++Nd p b
theorem all2 {f:Nat->Nat->Bool}{x y:Nat}(h:(Yy x).all (fun p=>(Yy y).all (f p))=true){p q:Nat}(hp:p<x)(hq:q<y):f p q=true:=ZH.mp (ZH.mp h p (YD.mpr hp)) q (YD.mpr hq)
theorem EK:(Yy 15).all (fun p=>(Yy 2).all fun b=>PG (cq DZ (bQ (XU (.list (fQ p b))) (XU (.int 1)))) (.str (lQ.getD p ""))&&PG (cq DZ (bQ (XU (.list (fQ p b))) (XU (.int 3)))) (.str (Nd p b))&&decide ((lQ.getD p "").length<=5)&&decide ((Nd p b).length<=1))=true:=by decide +kernel
theorem IG:(Yy 15).all (fun p=>(Yy 2).all fun b=>(Yy 2).all fun z=>(Yy 5).all fun m=>decide ((vG p b z m).length<=7))=true:=by decide +kernel
theorem JE:(Yy 5).all (fun m=>PG (bQ (XU (.list [.str "",.str ".",.str "_",.str "+",.str "-"])) (XU (.int (m:Int)))) (.str (Gj m)))=true:=by decide +kernel
theorem Gi:(Yy 12).all (fun m=>PG (bQ (XU (.str " /\\:;\"()-._+")) (XU (.int (m:Int)))) (.str ⟨#[CQ.getD m 0]⟩))=true:=by decide +kernel
end
end L1
end Mine.Internal
namespace Mine.Internal
namespace Tx
section
open PySem PySem.W PyProof.Rows PySem.NumText PySem.Builtin PySem.Builtin.Str
open Mine.Internal.Re (fz cO)
variable {stg:WS->Option Int}
theorem rA {s:Nat}(h:cO s=true):s=43\/s=45\/s=46\/s=95:=by unfold cO at h;simp only[ZV,V3]at h;exact bq 0x5fa022ea0252da0252ba0255fa022ea022da022ba025552 rfl h
theorem JD {s:Nat}(h:cO s=true):fz s=false:=by rcases rA h with h|h|h|h<;>subst h<;>rfl
theorem KI {s:Nat}(hs:cO s=true):∀l:List Nat,(∀g b,go g (l++s::b)=go g l++[s]::go [] b)/\∀d b,zI d (l++s::b)=zI d l++[s]::go [] b:=by
 have hd:=JD hs;intro l;induction l with
 |nil=>
  refine⟨fun g b=>?_,fun d b=>?_⟩
  ·have e1:go g ([]:List Nat)=[g]:=rfl;rw[e1,Yz];conv=>lhs;rw[uc]
   rw[hd,hs];rfl
  ·have e1:zI d ([]:List Nat)=[d,[]]:=rfl;rw[e1,Yz];conv=>lhs;rw[pY]
   rw[hd,hs];rfl
 |cons c r ih=>
  refine⟨fun g b=>?_,fun d b=>?_⟩
  ·rw[ZE,uc,uc];split
   ·rw[ih.2];rfl
   ·split
    ·rw[ih.1];rfl
    ·rw[ih.1]
  ·rw[ZE,pY,pY];split
   ·rw[ih.2]
   ·split
    ·rw[ih.1];rfl
    ·rw[ih.1];rfl
theorem CI {s:Nat}(hs:cO s=true):cE stg ⟨[s].toArray⟩=[]/\ed ⟨[s].toArray⟩=true:=by
 have h:Txt.contains "._+-" ⟨[s].toArray⟩=true:=by rcases rA hs with h|h|h|h<;>subst h<;>decide +kernel
 unfold cE ed;rw[h];exact⟨rfl,rfl⟩
theorem uC {s:Nat}(hs:cO s=true)(a b:List Nat):toks stg (a++s::b)=toks stg a++toks stg b/\dS (a++s::b)=(dS a&&dS b):=by unfold toks dS;rw[(KI hs a).1,Zu,Zt,List.all_append,List.all_cons,(CI hs).1,(CI (stg:=stg) hs).2];exact⟨rfl,rfl⟩
def KT (stg:WS->Option Int)(l:List Nat):List Dat×Bool:=(toks stg (ka tP [] 0 (l.map tr)),dS (ka tP [] 0 (l.map tr)))
theorem CB:KT stg []=([],true):=by unfold KT;have:ka tP [] 0 (([]:List Nat).map tr)=[]:=rfl;rw[this,km,lr]
theorem I0 {c:Nat}(h:cO (tr c)=true)(a b:List Nat):KT stg (a++c::b)=((KT stg a).1++(KT stg b).1,((KT stg a).2&&(KT stg b).2)):=by
 have hu:tr c∉tP:=by rcases rA h with h|h|h|h<;>rw[h]<;>decide
 unfold KT;rw[YS,YQ,CR hu (by decide) _ _ 0 (X1 _),(uC h _ _).1,(uC (stg:=stg) h _ _).2]
theorem ow {c:Nat}(h:cO (tr c)=true)(b:List Nat):KT stg (c::b)=KT stg b:=by have:=I0 (stg:=stg) h [] b;rw[Yz,CB]at this;rw[this,Yz,Bool.true_and]
theorem I1 {c:Nat}(h:cO (tr c)=true)(a:List Nat):KT stg (a++[c])=KT stg a:=by have:=I0 (stg:=stg) h a [];rw[CB]at this;rw[this,ZF,Bool.and_true]
theorem tI:∀{u:List Nat},(∀c∈u,cO (tr c)=true)->∀b,KT stg (u++b)=KT stg b|[],_,b=>rfl|c::u,h,b=>by rw[ZE,ow (h c YJ),tI (fun x hx=>h x (YK _ hx))]
theorem pE:∀{u:List Nat},(∀c∈u,cO (tr c)=true)->∀a,KT stg (a++u)=KT stg a|[],_,a=>by rw[ZF]|c::u,h,a=>by rw[<-List.singleton_append,<-ZG,pE (fun x hx=>h x (YK _ hx)),I1 (h c YJ)]
theorem xW (b:List Nat):KT stg (tP++b)=KT stg b:=by
 unfold KT;have h:ka tP [] 0 ((tP++b).map tr)=ka tP [] 0 (b.map tr):=by rw[YS,show tP.map tr=tP from rfl];show ka tP [] 0 (117::([110,107,110,111,119,110]++b.map tr))=_;rw[jT,V6 (Ye 0),V7 (by rw[Zb];exact List.prefix_append tP _),rD];rfl
 rw[h]
theorem yz (x:WS):∃u w,x.cps.toList=u++(WL x).cps.toList++w/\(∀c∈u,WK c=true)/\∀c∈w,WK c=true:=by
 have e:WL x=strSub x (stripLo WK true x) (stripHi WK true x (stripLo WK true x)):=PyProof.Rows.stripBy_eq _ _ _ _;have h1:=lo_facts WK x;have h2:=hi_facts WK x _ h1.1;generalize stripLo WK true x=lo at *;generalize stripHi WK true x lo=hi at *;have hx:=len_list x;refine⟨x.cps.toList.take lo,x.cps.toList.drop hi,?_,fun c hc=>?_,fun c hc=>?_⟩
 ·rw[e,iA];have e1:(x.cps.toList.drop lo).drop (hi-lo)=x.cps.toList.drop hi:=by rw[ZC];congr 1;exact Nat.add_sub_of_le h2.1
  rw[<-e1,ZG,List.take_append_drop,List.take_append_drop]
 ·obtain⟨i,mV,rfl⟩:=List.mem_iff_getElem.mp hc;rw[YV]at mV;have:=h1.2.1 i (br 0x10021df002 rfl mV);rw[List.getElem_take];rw[Z9,Array.getElem?_eq_getElem (Yd mV (Nat.min_le_right _ _))]at this;simpa using this
 ·obtain⟨i,mV,rfl⟩:=List.mem_iff_getElem.mp hc;rw[Y7]at mV;have:=h2.2.2.1 (hi+i) (aT 0x10b011 rfl) (cX 0x23b031c201023 rfl hx mV);rw[List.getElem_drop];rw[Z9,Array.getElem?_eq_getElem (by have:=hx;simp at this;simp[WO]at *;exact br 0x102b021c002 rfl mV)]at this;simpa using this
theorem C4 {y:WS}(h:∀c∈y.cps.toList,WK c=true->cO (tr c)=true):(toks stg (kept y),dS (kept y))=KT stg y.cps.toList:=by
 refine eH (yz y) fun u w e hu hw=>?_;have h0:(toks stg (kept y),dS (kept y))=KT stg (WL y).cps.toList:=rfl;rw[h0];conv=>rhs;rw[e]
 rw[pE (fun c hc=>h c (by rw[e];simp[hc]) (hw c hc)),tI (fun c hc=>h c (by rw[e];simp[hc]) (hu c hc))]
end
end Tx
end Mine.Internal
namespace Mine.Internal
namespace L1
variable {C:Cx} {A:XN} {E:WJ->WV->Prop} {s s' gv s₀:WV} {ak ai W W' W₀:XO->Prop} {ag:Env} {sc cj:WY} {ae bl V V':az} {n k i:Nat} {Φ:fN} {ad:WS->XO} {prog:W8} {w:WD} {h h':Xp} {o:Obj} {a I D L:XO} {d:Dat} {v u:WJ} {ds:List Dat} {vs:List WJ} {x:WS} {t value:Expr} {pos p:Pos} {Q:WJ->WV->Prop} {K:Env->XN->Prop}
section
open PySem PySem.W PyProof.Rows PySem.NumText Mine.Internal.Co
theorem yY (s:Nat):∀(k:Nat)(aR:Array Nat),((Yv k #[s]).foldl (·++·) aR).toList=aR.toList++Yv k s|0,aR=>by simp|k+1,aR=>by rw[List.replicate_succ,List.foldl_cons,yY s k,Z7,ZG];rfl
theorem mul_list (s n:Nat):(Txt.mul ⟨#[s]⟩ (n:Int)).cps.toList=Yv n s:=by
 unfold Txt.mul;by_cases h1:(n:Int)<1
 ·rw[V7 h1];have:n=0:=bq 0x80290af72 rfl h1;subst this;rfl
 ·rw[V6 h1];split
  ·rename_i hc;rw[ZV,V3,V3]at hc;refine XR hc (fun h=>?_) fun h=>?_
   ·have:n=1:=bq 0x90290af92 rfl h;subst this;rfl
   ·rcases h with⟨⟩
  ·have h:=yY s ((n:Int)).toNat #[];rw[ZK]at h;exact h
theorem Ac {s:Nat}(h:n<=1000):lO .Mult (.str ⟨#[s]⟩) (.int (n:Int))=XU (.str ⟨(Yv n s).toArray⟩):=by show(if aP (n:Int)=true/\(⟨#[s]⟩:WS).length*(n:Int).toNat<=aW then XU (Dat.str (Txt.mul ⟨#[s]⟩ (n:Int)))else XW)=_;rw[V7 ⟨ct (by exact bq 0xaf000f42408f9f81 rfl) (by exact bq 0xf42408f0af8000003e88f012 rfl h),by show 1*(n:Int).toNat<=aW;rw[ZK];unfold aW;exact bq 0xf42408f001d1000003e88f012 rfl h⟩];congr 2;exact Tx.iz (mul_list s n)
theorem IB {t:WS}(h:∀c∈t.cps.toList,c<128)(hl:t.cps.toList.length<=1000):cq px (eP (XU (.str t)) fun x=>hH (cq JX (XU x)))=XU (.bytes (B8 t.cps.toList)):=by
 have hit:bM (.str t)=XU (t.cps.toList.map fun c=>.str ⟨#[c]⟩):=by show(if t.cps.all (· <128)then XU (t.cps.toList.map fun c=>Dat.str ⟨#[c]⟩)else XW)=_;rw[V7 (by rw[<-Array.all_toList,ZH];exact fun c hc=>VZ (h c hc))]
 rw[f9 hit (g:=fun d=>match d with| .str x=>(match x.cps.toList with|[c]=>.int (c:Int)|_=>d)|d=>d) (fun d hd=>?_) (by rw[Y4];unfold aW;exact bq 0xf42408f01000003e88f012 rfl hl),tj,YO]
 ·have hi:∀l:List Nat,intsOf (l.map fun c:Nat=>Dat.int (c:Int))=XU (l.map fun c:Nat=>(c:Int)):=by intro l;induction l with|nil=>rfl|cons a l ih=>show(intsOf (l.map fun c:Nat=>Dat.int (c:Int))).map ((a:Int)::·)=_;rw[ih];rfl
  show(intsOf (t.cps.toList.map fun c:Nat=>Dat.int (c:Int))).bind (fun ns=>if(t.cps.toList.map fun c:Nat=>Dat.int (c:Int)).length<=aW/\∀n∈ns,0<=n/\n<256 then XU (Dat.bytes (ns.map fun n=>n.toNat.toUInt8))else XW)=_;rw[hi,XZ,V7 ⟨by rw[Y4];unfold aW;exact bq 0xf42408f01000003e88f012 rfl hl,fun n hn=>by refine aE (YH.mp hn) ?_;rintro c hc (rfl);have:=h c hc;exact bq 0x1008f0af70af88480a002 rfl this⟩,YO];unfold B8;refine V4 (fun l=>XU (Dat.bytes l)) (YR fun c y=>?_);show(c:Int).toNat.toUInt8=c.toUInt8;rw[ZK]
 ·refine aE (YH.mp hd) ?_;rintro c hc (rfl);rfl
def dA (n:Nat):WS:=vG (n%15) (n/15%2) (n/30%2) (n/60%5)
def eK (n:Nat):Nat:=n/300%7%(7-(dA n).length+1)
def lV (n:Nat):Nat:=CQ.getD (n/2100%12) 0
def dX (n:Nat):List Nat:=Yv (eK n) (lV n)++(dA n).cps.toList++Yv (7-(dA n).length-eK n) (lV n)
theorem vA (n:Nat):(dA n).length<=7:=by have h:=ZH.mp (all2 IG (X8 n (show 0<15 by decide)) (X8 (n/15) (show 0<2 by decide))) (n/30%2) (YD.mpr (X8 _ (by decide)));exact VW (ZH.mp h (n/60%5) (YD.mpr (X8 _ (by decide))))
theorem Ak (n:Nat):eK n<=7-(dA n).length:=by unfold eK;have:=X8 (n/300%7) (show 0<7-(dA n).length+1 by exact bq 0x9007acb801 rfl);exact aT 0x107ac019107acb002 rfl this
theorem ji (n:Nat):(dX n).length=7:=by unfold dX;have h1:=vA n;have h2:=Ak n;rw[Tx.len_list]at *;simp only[Y9,List.length_replicate];exact aT 0x7a1007acc01bb2007ac1107a013 rfl h1 h2
theorem CP (n:Nat):lV n<128:=by
 have h:∀k<12,CQ.getD k 0<128:=by decide
 exact h _ (X8 _ (by decide))
theorem EW:(Yy 15).all (fun p=>(Yy 2).all fun b=>(Yy 2).all fun z=>(Yy 5).all fun m=>(vG p b z m).cps.toList.all fun c=>decide (c<128))=true:=by decide +kernel
theorem Iw (n:Nat):∀c∈(dA n).cps.toList,c<128:=fun c hc=>by have h:=ZH.mp (all2 EW (X8 n (show 0<15 by decide)) (X8 (n/15) (show 0<2 by decide))) (n/30%2) (YD.mpr (X8 _ (by decide)));exact VW (ZH.mp (ZH.mp h (n/60%5) (YD.mpr (X8 _ (by decide)))) c hc)
theorem kX (n:Nat):∀c∈dX n,c<128:=fun c hc=>by
 unfold dX at hc;refine XR (YM.mp hc) (fun q=>?_) fun q=>?_
 ·refine XR (YM.mp q) (fun q=>?_) fun q=>?_
  ·rw[(YC.mp q).2];exact CP n
  ·exact Iw n c q
 ·rw[(YC.mp q).2];exact CP n
def Uw:List Dat->Option Dat:=oN iZ gC aY tc ["drawn"]
theorem o9 {a b:Expr}{x y:Bool}(h1:dQ Φ sc a V (ev Φ sc a V)=XU x)(h2:dQ Φ sc b V (ev Φ sc b V)=XU y):ew Φ sc .And [a,b] V=XU (x&&y):=by show((dQ Φ sc a V (ev Φ sc a V)).bind fun c=>cn (pJ .And c) (XU c) ((dQ Φ sc b V (ev Φ sc b V)).bind fun c=>cn (pJ .And c) (XU c) (XU true)))=_;rw[h1,h2];rcases x with⟨⟩<;>rcases y with⟨⟩<;>rfl
theorem lu {a:Nat}{m:Nat}(h:0<m):bD .Mod (XU (.int (a:Int))) (XU (.int (m:Int)))=XU (.int ((a%m:Nat):Int)):=by rw[aO,k9 (by exact bq 0x80af930802 rfl h),sM]
theorem n7 {a:Nat}{m:Nat}(h:0<m)(h2:m<1073741824):bD .FloorDiv (XU (.int (a:Int))) (XU (.int (m:Int)))=XU (.int ((a/m:Nat):Int)):=by rw[aO,tA (by exact bq 0x80af930802 rfl h) (by rw[Int.natAbs_natCast];exact h2),sO]
theorem len_str {t:WS}(h:t.length<=1000):iu [.str t]=XU (.int (t.length:Int)):=by show(if t.length<=aW then XU (Dat.int (t.length:Int))else XW)=_;rw[V7 (by unfold aW;exact bq 0xf42408f01000003e88f012 rfl h)]
theorem Lr:Uw [.int (n:Int)]=XU (.bytes (B8 (dX n))):=by
 refine xA1 ⟨0⟩ ?_ n;generalize gB _ _=n;have hp:n%15<15:=X8 _ (by decide);have hb:n/15%2<2:=X8 _ (by decide);have hz:n/30%2<2:=X8 _ (by decide);have hm:n/60%5<5:=X8 _ (by decide);have hs:n/2100%12<12:=X8 _ (by decide);have hf:=all2 EK hp hb;simp only[Z6,V0]at hf;refine aZ hf ?_;rintro(⟨⟨f1,f2⟩,f3⟩) f4;have f1:=sT f1;have f2:=sT f2;have Pr:=sT (ZH.mp JE _ (YD.mpr hm));have hsg:=sT (ZH.mp Gi _ (YD.mpr hs));have m15:=lu (a:=n) (m:=15) (by decide);have d15:=n7 (a:=n) (m:=15) (by decide) (by decide);have d30:=n7 (a:=n) (m:=30) (by decide) (by decide);have d60:=n7 (a:=n) (m:=60) (by decide) (by decide);have SJ:=n7 (a:=n) (m:=300) (by decide) (by decide);have MJ:=n7 (a:=n) (m:=2100) (by decide) (by decide);have m2:=fun a=>lu (a:=a) (m:=2) (by decide);have m5:=fun a=>lu (a:=a) (m:=5) (by decide);have m7:=fun a=>lu (a:=a) (m:=7) (by decide);have m12:=fun a=>lu (a:=a) (m:=12) (by decide);rw[show((15:Nat):Int)=15 from rfl]at m15 d15;rw[show((30:Nat):Int)=30 from rfl]at d30;rw[show((60:Nat):Int)=60 from rfl]at d60;rw[show((300:Nat):Int)=300 from rfl]at SJ;rw[show((2100:Nat):Int)=2100 from rfl]at MJ;simp only[show((2:Nat):Int)=2 from rfl]at m2;simp only[show((5:Nat):Int)=5 from rfl]at m5;simp only[show((7:Nat):Int)=7 from rfl]at m7;simp only[show((12:Nat):Int)=12 from rfl]at m12;have Mw:=vA n;have Dg:=Ak n;refine iC rfl ?_;rw[Ls];refine(ar (bl:=cV1 (n:Int) ((n%15:Nat):Int)) (ax rfl (ZaQ.trans (by rw[m15,bp];rfl)))).trans ?_;refine(ar (bl:=cV2 (n:Int) ((n%15:Nat):Int) (fQ (n%15) (n/15%2))) (ax rfl (ZaP.trans (by rw[Th,d15,m2];have:L9 (XU (.int ((n%15:Nat):Int))) (XU (.int ((n/15%2:Nat):Int)))=XU (Ki (n%15) (n/15%2)):=rfl;rw[this,ez,H4 hp hb,bp];rfl)))).trans ?_;refine(ar (ax rfl (ZaO.trans (by rw[Tf,f1,bp];rfl)))).trans ?_;obtain⟨V',hV,hl⟩:∃V',ex iZ gC aY (.If (aN (fC 3)) (bN (fC 3)) [] (gy (fC 3))) (EZ (n:Int) ((n%15:Nat):Int) (fQ (n%15) (n/15%2)) (lQ.getD (n%15) ""))=XU (.next V')/\bT V' (EZ (n:Int) ((n%15:Nat):Int) (fQ (n%15) (n/15%2)) (iW (n%15) (n/30%2))):=by
  have hx:=Tb (d:=(n:Int)) (due:=fQ (n%15) (n/15%2)) (f:=lQ.getD (n%15) "") hp;have hy:=Ta (d:=(n:Int)) (pl:=((n%15:Nat):Int)) (due:=fQ (n%15) (n/15%2)) (f:=lQ.getD (n%15) "");rw[d30,m2,EV]at hy;have ht:=Td (V:=EZ (n:Int) ((n%15:Nat):Int) (fQ (n%15) (n/15%2)) (lQ.getD (n%15) ""));rw[Iy,o9 hx hy]at ht;have e1:((((n/30%2:Nat):Int))==1)=decide (n/30%2=1):=by rw[ZZ,V3,V0];exact Int.ofNat_inj (n:=1)
  rw[e1]at ht;unfold iW;cases hc:num (n%15)&&decide (n/30%2=1)with
  |false=>rw[hc]at ht;exact⟨_,(fA (cH ht)).trans bP,by rw[V6 ZX];exact .refl _⟩
  |true=>
   rw[hc]at ht;refine⟨(("first":WS),.val (.str ("0"++lQ.getD (n%15) "")))::EZ (n:Int) ((n%15:Nat):Int) (fQ (n%15) (n/15%2)) (lQ.getD (n%15) ""),(fA (cH ht)).trans ?_,?_⟩
   ·rw[V7 rfl,Te];refine(ar (ax rfl (ZaN.trans (by rw[Tc,aO,jj (by show 1+_<=aW;unfold aW;exact bq 0xf42408f09b105a012 rfl f3),bp];rfl)))).trans bP
   ·rw[V7 rfl];exact bT.el rfl
 refine(ar (ax rfl hV)).trans ?_;refine iG iY.none hl ?_;have l1:(iW (n%15) (n/30%2)).length<=6:=by
  unfold iW;split
  ·rw[Tx.len_list]at f3 ⊢;simp only[WR,Z7,Y9];exact bq 0x6a09b105a012 rfl f3
  ·exact bq 0x6a0105a012 rfl f3
 have l2:(Gj (n/60%5)).length<=1:=by
  have h:∀k<5,(Gj k).length<=1:=by decide +kernel
  exact h _ hm
 have l3:(iW (n%15) (n/30%2)++Gj (n/60%5)).length<=7:=by rw[Tx.len_list]at l1 l2 ⊢;simp only[WR,Z7,Y9];exact aT 0x7a10b191106a013 rfl l1 l2
 refine(ar (bl:=cV4 (n:Int) ((n%15:Nat):Int) (fQ (n%15) (n/15%2)) (iW (n%15) (n/30%2)) (dA n)) (ax rfl (ZaM.trans (by rw[S9,d60,m5,Pr,aO,jj (by unfold aW;exact aT 0xf42408f10b191106a013 rfl l1 l2),f2,aO,jj (by unfold aW;exact aT 0xf42408f01b107a119013 rfl f4 l3),bp];rfl)))).trans ?_;refine(ar (bl:=cV5 (n:Int) ((n%15:Nat):Int) (fQ (n%15) (n/15%2)) (iW (n%15) (n/30%2)) (dA n) ((7-(dA n).length:Nat):Int)) (ax rfl (ZaL.trans (by rw[S8,len_str (by exact bq 0x3e88f0107a012 rfl Mw),aO,eU,show(7:Int)-((dA n).length:Int)=((7-(dA n).length:Nat):Int) by exact bq 0x7acaf0af07ac907a012 rfl Mw,bp];rfl)))).trans ?_;refine(ar (bl:=cV6 (n:Int) ((n%15:Nat):Int) (fQ (n%15) (n/15%2)) (iW (n%15) (n/30%2)) (dA n) ((7-(dA n).length:Nat):Int) (eK n:Int)) (ax rfl (ZaK.trans (by rw[SY,SJ,m7,aO,eA,show((7-(dA n).length:Nat):Int)+1=((7-(dA n).length+1:Nat):Int) by exact bq 0x9007acbaf9007acafb91 rfl,lu (by exact bq 0x9007acb801 rfl),bp];rfl)))).trans ?_;refine(ar (ax rfl (ZaJ.trans (by rw[SX,MJ,m12,hsg,bp];rfl)))).trans ?_;have hr:ev iZ aY (cu (fC 8)) (cV7 (n:Int) ((n%15:Nat):Int) (fQ (n%15) (n/15%2)) (iW (n%15) (n/30%2)) (dA n) ((7-(dA n).length:Nat):Int) (eK n:Int) ⟨#[lV n]⟩)=XU (.bytes (B8 (dX n))):=by
  rw[SW,aO (op:=.Sub),eU,show((7-(dA n).length:Nat):Int)-(eK n:Int)=((7-(dA n).length-eK n:Nat):Int) by exact aT 0x107accaf0af107acafc9107ac012 rfl Dg,aO,Ac (by exact aT 0x3e88f01107ac012 rfl Dg),aO (op:=.Mult),Ac (by exact aT 0x3e88f1007acc11 rfl),aO];have e1:(⟨(Yv (eK n) (lV n)).toArray⟩:WS).length=eK n:=by rw[Tx.len_list];simp
  have e2:(⟨(Yv (7-(dA n).length-eK n) (lV n)).toArray⟩:WS).length=7-(dA n).length-eK n:=by rw[Tx.len_list];simp
  have e3:((⟨(Yv (eK n) (lV n)).toArray⟩:WS)++dA n).length=eK n+(dA n).length:=by rw[Tx.len_list];simp only[WR,Z7,Y9,<-Tx.len_list];simp
  rw[jj (by rw[e1];unfold aW;exact aT 0xf42408f01b1007ac1107a013 rfl Mw Dg),aO,jj (by rw[e2,e3];unfold aW;exact aT 0xf42408f1007acc01bb1007ac1107a013 rfl Mw Dg)];have e4:((⟨(Yv (eK n) (lV n)).toArray⟩:WS)++dA n++⟨(Yv (7-(dA n).length-eK n) (lV n)).toArray⟩).cps.toList=dX n:=by simp only[WR,Z7];rfl
  rw[IB (by rw[e4];exact kX n) (by rw[e4,ji];decide),e4]
 exact er (ax rfl (d0 (fM hr))) (fun v q=>by rcases q with⟨⟩)
end
section
open PySem PySem.W PyProof.Rows PySem.NumText Mine.Internal.Co
open Mine.Internal.Re (cO)
noncomputable def U2:List (WS×Int):=[("dev",10),("alpha",20),("a",20),("beta",30),("b",30),("c",40),("RC",50),("rc",50),("pl",200),("p",200)]
def ni (x:WS):Option Int:=U2.lookup x
def lK:List (List Nat):=[[],Tx.tP,[32],[40]++Tx.tP++[41],Tx.tP++[32]++Tx.tP]
def zK (n:Nat):List Nat:=lK.getD (n/25200) []
theorem xc (n:Nat):zK n∈lK:=by unfold zK;rw[Zp];cases h:lK[n/25200]? with|none=>exact YJ|some x=>exact YE h
theorem xd:∀g∈lK,g.length<=15/\∀c∈g,c<128/\(PySem.Unicode.isSpace c=true->cO (Tx.tr c)=true):=by decide +kernel
theorem I2 (hg:g∈lK)(b:List Nat):Tx.KT ni (g++b)=Tx.KT ni b:=by
 unfold lK at hg;simp only[YL,List.not_mem_nil,or_false]at hg;rcases hg with h|h|h|h|h<;>subst h
 ·rfl
 ·exact Tx.xW b
 ·exact Tx.ow (by decide +kernel) b
 ·simp only[ZG];exact(Tx.ow (by decide +kernel) _).trans ((Tx.xW _).trans (Tx.ow (by decide +kernel) b))
 ·simp only[ZG];exact(Tx.xW _).trans ((Tx.ow (by decide +kernel) _).trans (Tx.xW b))
theorem Gh:∀k<12,cO (Tx.tr (CQ.getD k 0))=true:=by decide +kernel
theorem FR:(Yy 15).all (fun p=>(Yy 2).all fun b=>(Yy 2).all fun z=>(Yy 5).all fun m=>zP (Tx.KT ni (vG p b z m).cps.toList).1 (fQ p b)&&(Tx.KT ni (vG p b z m).cps.toList).2&&(vG p b z m).cps.toList.all fun c=> !PySem.Unicode.isSpace c)=true:=by decide +kernel
def gG (n:Nat):List Dat:=fQ (n%15) (n/15%2)
theorem IF (n:Nat):Tx.KT ni (dA n).cps.toList=(gG n,true)/\∀c∈(dA n).cps.toList,PySem.Unicode.isSpace c=false:=by have h:=ZH.mp (all2 FR (X8 n (show 0<15 by decide)) (X8 (n/15) (show 0<2 by decide))) (n/30%2) (YD.mpr (X8 _ (by decide)));have h:=ZH.mp h (n/60%5) (YD.mpr (X8 _ (by decide)));simp only[Z6,ZH,Bool.not_eq_true']at h;exact⟨Prod.ext (qS h.1.1) h.1.2,h.2⟩
theorem qT (n:Nat):Tx.KT ni (dX n)=(gG n,true)/\∀c∈dX n,PySem.Unicode.isSpace c=true->cO (Tx.tr c)=true:=by
 have hs:cO (Tx.tr (lV n))=true:=Gh _ (X8 _ (by decide));refine aZ (IF n) fun h1 h2=>?_;constructor
 ·unfold dX;rw[Tx.pE (fun c hc=>by rw[(YC.mp hc).2];exact hs),Tx.tI (fun c hc=>by rw[(YC.mp hc).2];exact hs),h1]
 ·intro c hc Pr;unfold dX at hc;refine XR (YM.mp hc) (fun q=>?_) fun q=>?_
  ·refine XR (YM.mp q) (fun q=>?_) fun q=>?_
   ·rw[(YC.mp q).2];exact hs
   ·rw[h2 c q]at Pr;rcases Pr with⟨⟩
  ·rw[(YC.mp q).2];exact hs
theorem yK (hg:g∈lK)(n:Nat):(Tx.toks ni (Tx.kept ⟨(g++dX n).toArray⟩),Tx.dS (Tx.kept ⟨(g++dX n).toArray⟩))=(gG n,true):=by
 rw[Tx.C4,I2 hg,(qT n).1];intro c hc;refine XR (YM.mp hc) (fun q=>?_) fun q=>?_
 ·exact((xd g hg).2 c q).2
 ·exact(qT n).2 c q
theorem Di (hg:g∈lK):(Tx.toks ni (Tx.kept ⟨g.toArray⟩),Tx.dS (Tx.kept ⟨g.toArray⟩))=([],true):=by rw[Tx.C4 fun c hc=>((xd g hg).2 c hc).2];have:=I2 hg [];rw[ZF]at this;exact this.trans Tx.CB
def kC (g:List Nat)(ns:List Nat):List WS:=ns.flatMap fun n=>[⟨(g++dX n).toArray⟩,⟨g.toArray⟩]
theorem AY (hg:g∈lK)(hl:ns.length<=6):Tx.Small (kC g ns)/\∀y∈kC g ns,Tx.dS (Tx.kept y)=true:=by
 have hlen:(kC g ns).length=2*ns.length:=by clear hl;unfold kC;induction ns with|nil=>rfl|cons n ns ih=>rw[Zt,Y9,ih];show 2+2*ns.length=2*(ns.length+1);lia
 have qr:∀y∈kC g ns,(∃n,y=⟨(g++dX n).toArray⟩)\/y=⟨g.toArray⟩:=fun y hy=>by
  refine aE (List.mem_flatMap.mp hy) fun n x h=>?_;refine XR (YL.mp h) (fun h=>?_) fun h=>?_
  ·exact .inl ⟨n,h⟩
  ·exact .inr (YA.mp h)
 have hg2:=xd g hg;refine⟨⟨by rw[hlen];lia,fun y hy=>?_⟩,fun y hy=>?_⟩
 ·rcases qr y hy with⟨n,rfl⟩|rfl
  ·refine⟨by rw[Tx.len_list];show(g++dX n).length<=60;rw[Y9,ji];lia,fun c hc=>?_⟩;refine XR (YM.mp hc) (fun q=>?_) fun q=>?_
   ·exact(hg2.2 c q).1
   ·exact kX n c q
  ·exact⟨by rw[Tx.len_list];show g.length<=60;lia,fun c hc=>(hg2.2 c hc).1⟩
 ·rcases qr y hy with⟨n,rfl⟩|rfl
  ·exact V4 Prod.snd (yK hg n)
  ·exact V4 Prod.snd (Di hg)
theorem uI (hg:g∈lK):∀ns:List Nat,(kC g ns).flatMap (fun y=>Tx.toks ni (Tx.kept y))=ns.flatMap gG|[]=>rfl|n::ns=>by have h1:=V4 Prod.fst (yK hg n);have h2:=V4 Prod.fst (Di hg);dsimp only at h1 h2;show List.flatMap _ (_::_::kC g ns)=_;rw[Zt,Zt,h1,h2,uI hg ns,Zt,Yz]
theorem D4 (hg:g∈lK)(hl:ns.length<=6):∃v,Nl (kC g ns)=XU v/\OU ni [.str v]=XU (.list (ns.flatMap gG)):=by refine aZ (AY hg hl) fun h1 h2=>?_;refine aE (Tx.Js (stg:=ni) h1 h2) fun v e1 e2=>?_;rw[uI hg ns]at e2;exact⟨v,e1,e2⟩
end
section
open PySem PySem.W PyProof.Rows PySem.NumText Mine.Internal.Co
def dK (l:List (List UInt8)):Prop:=∀c∈l,c.length=7
end
section
open PySem PySem.W PyProof.Rows PySem.NumText Mine.Internal.Co
variable {l X:List (List UInt8)}
theorem dK.drop (h:dK l)(a:Nat):dK (l.drop a):=fun c hc=>h c (List.mem_of_mem_drop hc)
theorem dK.rev (h:dK l):dK l.reverse:=fun c hc=>h c (YB.mp hc)
theorem dK.tail (h:dK (c::l)):dK l:=fun x hx=>h x (YK _ hx)
theorem lp (h:dK l):l.flatten.length=7*l.length:=by rw[sN h,X7]
theorem vg:∀{l:List (List UInt8)}(h:dK l)(a:Nat),l.flatten.drop (7*a)=(l.drop a).flatten|[],_,a=>by simp|c::l,h,0=>rfl|c::l,h,a+1=>by rw[Zr,Nat.mul_succ,Nat.add_comm,<-ZC,List.drop_left' (h c YJ),List.drop_succ_cons,vg h.tail a]
theorem vf:∀{l:List (List UInt8)}(h:dK l)(a:Nat),l.flatten.take (7*a)=(l.take a).flatten|[],_,a=>by simp|c::l,h,0=>rfl|c::l,h,a+1=>by have hc:=h c YJ;rw[Zr,List.take_append,hc,show 7*(a+1)-7=7*a by exact bq 0x7d07a90b07dc21 rfl,vf h.tail a,Ym (by exact aT 0x91b07d0107a022 rfl hc),Yl,Zr]
theorem gr (h:dK l)(hl:l.length<=100){lo hi:Option Int}(s1:lo.all aP=true)(s2:hi.all aP=true){a b:Nat}(ha:lo.elim 0 (clipAt (7*l.length))=7*a)(hb:hi.elim (7*l.length) (clipAt (7*l.length))=7*b):bB (XU (.bytes l.flatten)) (XU lo) (XU hi) (XU XW)=XU (.bytes ((l.drop a).take (b-a)).flatten):=by have hn:=lp h;rw[pN (by simp) s1 s2 rfl (by rw[hn];unfold aW;exact bq 0xf42408f007d164a012 rfl hl),fW,hn,ha,hb,show 7*b-7*a=7*(b-a) by exact aT 0x10c07d107d007dc21 rfl,vg h,vf (h.drop a)]
theorem uG {i:Int}(h:aP i=true):(XU i).all aP=true:=h
theorem jg (h:k<=n):clipAt n (k:Int)=k:=by unfold clipAt;rw[V6 (by exact bq 0x80af731 rfl)];exact aT 0x1af0afdf8cfbf21012 rfl h
theorem yI (h:dK l)(hl:l.length<=100){a b:Nat}(My:a<=b)(hb:b<=l.length):bB (XU (.bytes l.flatten)) (XU (XU ((7*a:Nat):Int))) (XU (XU ((7*b:Nat):Int))) (XU XW)=XU (.bytes ((l.drop a).take (b-a)).flatten):=gr h hl (uG (ct (bq 0x7daf000f42408f9f81 rfl) (br 0xf42408f107daf802121164a014 rfl hl My hb))) (uG (ct (bq 0x7daf000f42408f9f81 rfl) (aT 0xf42408f107daf801164a013 rfl hl hb))) (jg (br 0x207d007d12111013 rfl My hb)) (jg (aT 0x107d007d11012 rfl hb))
theorem AV {c:List UInt8}(h:dK (c::l))(hl:(c::l).length<=100):bB (XU (.bytes (c::l).flatten)) (XU XW) (XU (XU 7)) (XU XW)=XU (.bytes c):=by have:=gr (lo:=XW) (hi:=XU 7) (a:=0) (b:=1) h hl rfl (by decide) rfl (jg (by simp;exact bq 0x90b07d07a11 rfl));simpa using this
theorem AR {c:List UInt8}(h:dK (c::l))(hl:(c::l).length<=100):bB (XU (.bytes (c::l).flatten)) (XU (XU 7)) (XU XW) (XU XW)=XU (.bytes l.flatten):=by have:=gr (lo:=XU 7) (hi:=XW) (a:=1) h hl (by decide) rfl (jg (by simp;exact bq 0x90b07d07a11 rfl)) rfl;simpa using this
theorem D2 {c:List UInt8}(h:dK (l++[c]))(hl:(l++[c]).length<=100):bB (XU (.bytes (l++[c]).flatten)) (XU (XU (-7))) (XU XW) (XU XW)=XU (.bytes c):=by have:=gr (lo:=XU (-7)) (hi:=XW) (a:=l.length) (b:=l.length+1) h hl (by decide) rfl (by simp[clipAt];exact bq 0x7d90afb07d90afb07d07a9fbdf8cfbf21 rfl) (by simp);simpa using this
theorem AU {c:List UInt8}(h:dK (l++[c]))(hl:(l++[c]).length<=100):bB (XU (.bytes (l++[c]).flatten)) (XU XW) (XU (XU (-7))) (XU XW)=XU (.bytes l.flatten):=by have:=gr (lo:=XW) (hi:=XU (-7)) (a:=0) (b:=l.length) h hl rfl (by decide) rfl (by simp[clipAt];exact bq 0x7d90afb07d90afb07d07a9fbdf8cfbf21 rfl);simpa using this
theorem HS:∀l:List (List UInt8),l.flatten.reverse=(l.reverse.map Yu).flatten:=fun l=>by rw[List.reverse_flatten,YN]
theorem rev_rev (l:List (List UInt8)):(l.map Yu).map Yu=l:=by
 rw[YO];conv=>rhs;rw[<-List.map_id l]
 exact YR fun c x=>by simp
theorem dK.Qu (h:dK l):dK (l.map Yu):=fun c hc=>by refine aE (YH.mp hc) ?_;rintro d hd (rfl);rw[YX];exact h d hd
theorem yv (hb:0<b.length):ko b b.length=b.reverse:=by have:=jA hb [b] (fun x hx=>by rw[YA.mp hx]);simpa using this
theorem Ds (h:dK X)(gS:0<X.length)(hl:X.length<=100):tw [.bytes X.flatten,.int ((7*X.length:Nat):Int)]=XU (.bytes (X.reverse.map Yu).flatten):=by have hn:=lp h;rw[tv (by exact bq 0x7d800802 rfl gS) (by unfold aW;exact bq 0xf42408f007d164a012 rfl hl) (by rw[hn];unfold aW;exact bq 0xf42408f007d164a012 rfl hl) (by rw[hn];exact Nat.mod_self _),<-hn,yv (by exact aT 0x180007d120803 rfl gS hn),HS]
theorem Aa (h:dK X)(hl:X.length<=100):tw [.bytes X.flatten,.int 7]=XU (.bytes (X.map Yu).flatten):=by have hn:=lp h;have:=tv (w:=7) (by decide) (by decide) (by rw[hn];unfold aW;exact bq 0xf42408f007d164a012 rfl hl) (by rw[hn];exact Nat.mul_mod_right _ _);rw[jA (by decide) X h]at this;exact this
theorem Jn (h:dK X)(gS:0<X.length)(hl:X.length<=100):cK tw (cK tw (XU (.bytes X.flatten)) (XU (.int ((7*X.length:Nat):Int)))) (XU (.int 7))=XU (.bytes X.reverse.flatten):=by rw[dq,Ds h gS hl,dq,Aa h.rev.Qu (by simpa using hl),rev_rev]
theorem Jo (h:dK X)(gS:0<X.length)(hl:X.length<=100):cK tw (cK tw (XU (.bytes X.flatten)) (XU (.int 7))) (XU (.int ((7*X.length:Nat):Int)))=XU (.bytes X.reverse.flatten):=by have:=Ds h.Qu (by simpa using gS) (by simpa using hl);rw[Y4]at this;rw[dq,Aa h hl,dq,this,YN,rev_rev]
end
section
open PySem PySem.W PyProof.Rows PySem.NumText Mine.Internal.Co
variable {bb:XO} {Ψ:pD} {aR:List Dat} {t:List UInt8} {g:WS} {k m:Int}
def wa:List WT:=fj pw 12
def cm:WY:=dN pw 12
abbrev toS (i:Nat):WT:=aB wa i
abbrev toF (i:Nat):WT:=aB (bg (toS 1)) i
def vQ:fN:=(yb.and "_platform" Nm).and "_comparable_version" (OU ni)
noncomputable def Dq (g:List Dat->Option Dat)(x y z:Option Dat):Option Dat:=(x.bind fun d=>(y.bind fun e=>(z.bind fun f=>XU [f]).map fun ds=>e::ds).map fun ds=>d::ds).bind g
noncomputable def tV (aR:List Dat)(t:List UInt8)(g:WS):az:=[(("texts":WS),.own (.list aR)),(("tape":WS),.val (.bytes t)),(("ahead":WS),.val (.str g))]
theorem UX:ex vQ Ψ cm (toS 0) (bI ["tape","ahead"] [.bytes t,.str g])=XU (.next (tV [] t g)):=by rfl
theorem M7:ev vQ cm (bO (toS 1)) (tV aR t g)=Dq eg (XU (.int 0)) (cq iu (XU (.bytes t))) (XU (.int 7)):=by rfl
theorem Qa:bg (toS 1)=[toF 0,toF 1]:=by rfl
theorem P9 (d:Dat)(V:az):bJ cm (bR (toS 1)) d V=XU ((("k":WS),.val d)::V):=by rfl
theorem P5:ex vQ Ψ cm (toF 0) ((("k":WS),.val (.int k))::tV aR t g)=Bn "append" "texts" (.list aR) (Cy (bD .Add (XU (.str g)) (zc zo (.str "") (eP (bB (XU (.bytes t)) (eI (XU (.int k))) (eI (bD .Add (XU (.int k)) (XU (.int 7)))) (XU XW)) fun x=>hH (cq Lm (XU x)))))) ((("k":WS),.val (.int k))::tV aR t g):=by rfl
theorem P0:ex vQ Ψ cm (toF 1) ((("texts":WS),.own (.list ds))::(("k":WS),.val (.int k))::tV aR t g)=Bn "append" "texts" (.list ds) (Cy (XU (.str g))) ((("texts":WS),.own (.list ds))::(("k":WS),.val (.int k))::tV aR t g):=by rfl
theorem P8:ev vQ cm (aJ (toS 2)) (jv "k" J++tV aR t g)=jN (OU ni) (F9 Nm aR):=by rcases J with⟨⟩<;>rfl
theorem UW:ex vQ Ψ cm (toS 2) V=fk cm "flat" (ev vQ cm (aJ (toS 2)) V) (ev vQ cm (aJ (toS 2)) (aS V)) V:=by rfl
theorem P7:ev vQ cm (cu (toS 3)) ((("flat":WS),.val (.list ds))::(jv "k" J++tV aR t g))=eP (Dq eg (XU (.int 0)) (cq iu (XU (.list ds))) (XU (.int 4))) fun d=>hH (bB (XU (.list ds)) (eI (XU d)) (eI (bD .Add (XU d) (XU (.int 4)))) (XU XW)):=by rcases J with⟨⟩<;>rfl
theorem Ju:wa=[toS 0,.For (bR (toS 1)) (bO (toS 1)) (bg (toS 1)) [] (dO (toS 1)),toS 2,.Return (XU (cu (toS 3))) (gD (toS 3))]:=by rfl
def ym:List Dat->Option Dat:=oN vQ gC cm wa ["tape","ahead"]
end
section
open PySem PySem.W PyProof.Rows PySem.NumText Mine.Internal.Co
variable {bb:XO} {Ψ:pD} {aR:List Dat} {t:List UInt8} {g:List Nat} {k m:Int}
def bS (n:Nat):List UInt8:=B8 (dX n)
def gL (ns:List Nat):List (List UInt8):=ns.map bS
def aq (ns:List Nat):List UInt8:=(gL ns).flatten
theorem dM (ns:List Nat):dK (gL ns):=fun c hc=>by refine aE (YH.mp hc) ?_;rintro n _ (rfl);unfold bS B8;rw[Y4,ji]
theorem cS (ns:List Nat):(gL ns).length=ns.length:=Y4 ..
theorem i5 (ns:List Nat):(aq ns).length=7*ns.length:=by unfold aq;rw[lp (dM ns),cS]
theorem Iq (hl:l.length<=1000)(h:∀c∈l,c<128):zc zo (.str "") (eP (XU (.bytes (B8 l))) fun x=>hH (cq Lm (XU x)))=XU (.str ⟨l.toArray⟩):=by
 rw[f9 rfl (fun d hd=>?_) (by unfold B8 aW;simp;lia)]
 ·have e:((B8 l).map fun x=>Dat.int (x.toNat:Int)).map (GR fun i=>Dat.str ⟨#[i.toNat]⟩)=(l.map fun c=>(⟨#[c]⟩:WS)).map .str:=by unfold B8;rw[YO,YO,YO];refine YR fun c hc=>?_;simp only[Function.comp_apply,JZ];rw[u8 (h c hc),ZK]
  rw[e];show(strsOf ((l.map fun c=>(⟨#[c]⟩:WS)).map .str)).bind (fun ys=>if(ys.map (·.length)).sum+ys.length*("":WS).length<=16777216 then XU (Dat.str (Txt.join "" ys))else XW)=_;rw[mr,XZ];have e2:("":WS).length=0:=by rfl
  have e3:((l.map fun c=>(⟨#[c]⟩:WS)).map (·.length)).sum=l.length:=by rw[YO];clear hl h e;induction l with|nil=>rfl|cons c l ih=>rw[YQ,List.sum_cons,ih,Y8];show 1+l.length=_;lia
  rw[V7 (by rw[e2,e3];lia)];congr 2;apply Tx.iz;unfold Txt.join;rw[StrLaws.glued_eq_join,vb,YO];clear hl h e e3;induction l with|nil=>rfl|cons c l ih=>rw[YQ,Zr,ih];rfl
 ·refine aE (YH.mp hd) ?_;rintro b hb (rfl);have jw:(b.toNat:Int)<=0x10FFFF:=by have:=b.toNat_lt;lia
  show hH (if 0<=(b.toNat:Int)/\(b.toNat:Int)<=0x10FFFF then XU (Dat.str ⟨#[(b.toNat:Int).toNat]⟩)else XW)=_;rw[V7 ⟨by lia,jw⟩];rfl
set_option tactic.hygienic true in
theorem CM (hl:ns.length<=6)(hj:ns[j]?=XU n):bB (XU (.bytes (aq ns))) (eI (XU (.int ((j*7:Nat):Int)))) (eI (bD .Add (XU (.int ((j*7:Nat):Int))) (XU (.int 7)))) (XU XW)=XU (.bytes (bS n)):=by
 have jw:=(Zh.mp hj).1;rw[aO,eA,show((j*7:Nat):Int)+7=((7*(j+1):Nat):Int)from V4 ZM ((X3 j 7).symm.trans (X7 (j+1) 7)),show((j*7:Nat):Int)=((7*j:Nat):Int)from V4 ZM (X7 j 7)];have:=yI (dM ns) (by rw[cS];lia) (a:=j) (b:=j+1) (by lia) (by rw[cS];lia);refine this.trans ?_;rw[Yj];have e:((gL ns).drop j).take 1=[bS n]:=by
  refine Zy fun i=>?_;unfold gL;rcases i with⟨⟩;case zero=>simp[hj]
  case succ i=>rw[Zj (by simp;lia),Zj (by simp)]
 rw[e,List.flatten_singleton]
def d9 (g:List Nat)(ns:List Nat):List Dat:=(kC g ns).map .str
theorem D5 (g:List Nat)(ns:List Nat)(n:Nat):d9 g (ns++[n])=(d9 g ns++[.str ⟨(g++dX n).toArray⟩])++[.str ⟨g.toArray⟩]:=by unfold d9 kC;simp
theorem uJ (g:List Nat)(ns:List Nat):(d9 g ns).length=2*ns.length:=by unfold d9 kC;rw[Y4];induction ns with|nil=>rfl|cons n ns ih=>rw[Zt,Y9,ih];show 2+_=2*(ns.length+1);lia
theorem range_items {w:Nat}(hw:0<w)(hw2:w<=100)(hn:n<=1000):bM (.range 0 ((w*n:Nat):Int) (w:Int))=XU ((Yy n).map fun k:Nat=>.int ((k*w:Nat):Int)):=by have hc:=Nat.mul_le_mul hw2 hn;have:=jJ (n:=w*n) hw (Nat.mul_mod_right _ _) (by unfold aW;lia) (by unfold aW;lia);rw[X6 _ hw,<-Yx]at this;exact this
theorem DO (hl:ns.length<=6)(hg:g∈lK):∃V' J,cP (jC vQ gC cm (bR (toS 1)) (bg (toS 1))) ((Yy ns.length).map fun k:Nat=>.int ((k*7:Nat):Int)) (tV [] (aq ns) ⟨g.toArray⟩)=XU (.next V')/\bT V' (jv "k" J++tV (d9 g ns) (aq ns) ⟨g.toArray⟩):=by
 have hgl:=xd g hg;refine iL (jd (Ψ:=gC) (body:=bg (toS 1)) iY.none P9 (fun a=>tV a (aq ns) ⟨g.toArray⟩) (fun done a=>a=d9 g (ns.take done.length)) (av:=(Yy ns.length).map fun k:Nat=>.int ((k*7:Nat):Int)) (fun done o rest a hi hI=>by
   subst hI;have hlen:done.length<ns.length:=by have:=V4 Za hi;simp at this;lia
   have ho:o=.int ((done.length*7:Nat):Int):=by have h5:=V4 (fun l=>l[done.length]?) hi;simp only[Zn (Yh _),X4,Zl]at h5;rw[Zg,Zf hlen]at h5;exact(XT h5).symm
   subst ho;have sD:=Zk hlen;generalize ns[done.length]=n at sD;have jw:(d9 g (ns.take done.length)).length<=12:=by rw[uJ,YV];lia
   have hc:=Iq (by rw[ji];lia) (kX n);have e0:ex vQ gC cm (toF 0) ((("k":WS),.val (.int ((done.length*7:Nat):Int)))::tV (d9 g (ns.take done.length)) (aq ns) ⟨g.toArray⟩)=XU (.next ((("texts":WS),.own (.list (d9 g (ns.take done.length)++[.str ⟨(g++dX n).toArray⟩])))::(("k":WS),.val (.int ((done.length*7:Nat):Int)))::tV (d9 g (ns.take done.length)) (aq ns) ⟨g.toArray⟩)):=by rw[P5,CM hl sD];unfold bS;rw[hc,aO,jj (by rw[Tx.len_list,Tx.len_list];show g.length+(dX n).length<=aW;rw[ji];unfold aW;lia)];have e:((⟨g.toArray⟩:WS)++⟨(dX n).toArray⟩)=⟨(g++dX n).toArray⟩:=Tx.iz (by rw[WR,Z7]);rw[e,nu (by unfold aW;lia)]
   have e1:ex vQ gC cm (toF 1) ((("texts":WS),.own (.list (d9 g (ns.take done.length)++[.str ⟨(g++dX n).toArray⟩])))::(("k":WS),.val (.int ((done.length*7:Nat):Int)))::tV (d9 g (ns.take done.length)) (aq ns) ⟨g.toArray⟩)=XU (.next ((("texts":WS),.own (.list ((d9 g (ns.take done.length)++[.str ⟨(g++dX n).toArray⟩])++[.str ⟨g.toArray⟩])))::(("texts":WS),.own (.list (d9 g (ns.take done.length)++[.str ⟨(g++dX n).toArray⟩])))::(("k":WS),.val (.int ((done.length*7:Nat):Int)))::tV (d9 g (ns.take done.length)) (aq ns) ⟨g.toArray⟩)):=by rw[P0,nu (by rw[Y9,YW];unfold aW;lia)]
   refine⟨d9 g (ns.take (done.length+1)),_,(by rw[Qa,ar (ax rfl e0),ar (ax rfl e1)];exact bP),?_,by simp⟩;have ht:ns.take (done.length+1)=ns.take done.length++[n]:=by rw[Yn,sD];rfl
   rw[ht,D5];exact bT.el rfl)
  _ [] (tV [] (aq ns) ⟨g.toArray⟩) [] XW rfl (.refl _) rfl) fun V' J' a h1 hJ h2 h3=>?_
 refine⟨V',J',h1,?_⟩;rw[h3]at h2;simp at h2;exact h2
theorem FQ (hl:ns.length<=6)(hg:g∈lK):ym [.bytes (aq ns),.str ⟨g.toArray⟩]=XU (.list (ns.map fun n=>.list (gG n))):=by
 refine fE (DO hl hg) fun V' J h1 h2=>?_;refine aE (D4 hg hl) fun v e1 e2=>?_;have hlen:=i5 ns;have hr:ev vQ cm (bO (toS 1)) (tV [] (aq ns) ⟨g.toArray⟩)=XU (.range 0 ((7*ns.length:Nat):Int) ((7:Nat):Int)):=by
  rw[M7];have:cq iu (XU (.bytes (aq ns)))=XU (.int ((7*ns.length:Nat):Int)):=by show(if(aq ns).length<=aW then XU (Dat.int ((aq ns).length:Int))else XW)=_;rw[hlen,V7 (by unfold aW;lia)]
  rw[this];rfl
 have oY:ex vQ gC cm (.For (bR (toS 1)) (bO (toS 1)) (bg (toS 1)) [] (dO (toS 1))) (tV [] (aq ns) ⟨g.toArray⟩)=XU (.next V'):=(lz rfl hr (range_items (by decide) (by decide) (by lia))).trans h1;have ve:(ns.map gG).flatten.length=4*ns.length:=by rw[sN (k:=4) fun c hc=>by(refine aE (YH.mp hc) ?_;rintro n _ (rfl));unfold gG fQ behind;split<;>split<;>rfl,Y4,X7]
 refine iC rfl ?_;rw[Ju,ar (ax rfl UX),ar (ax rfl oY)];refine iG iY.none h2 ?_;have h3:ev vQ cm (aJ (toS 2)) (jv "k" J++tV (d9 g ns) (aq ns) ⟨g.toArray⟩)=XU (.list (ns.flatMap gG)):=by
  rw[P8];have:F9 Nm (d9 g ns)=XU (.str v):=by unfold F9;rw[V7 (by rw[uJ];unfold aW;lia)];show Nm (d9 g ns++[])=_;rw[ZF];unfold d9 Nm;rw[mr,XZ,e1];rfl
  rw[this,ez,e2]
 have e3:ex vQ gC cm (toS 2) (jv "k" J++tV (d9 g ns) (aq ns) ⟨g.toArray⟩)=XU (.next ((("flat":WS),.val (.list (ns.flatMap gG)))::(jv "k" J++tV (d9 g ns) (aq ns) ⟨g.toArray⟩))):=by rw[UW,h3,bp];rfl
 refine(ar (ax rfl e3)).trans ?_;have h4:ev vQ cm (cu (toS 3)) ((("flat":WS),.val (.list (ns.flatMap gG)))::(jv "k" J++tV (d9 g ns) (aq ns) ⟨g.toArray⟩))=XU (.list (ns.map fun n=>.list (gG n))):=by
  rw[P7];have RZ:ns.flatMap gG=(ns.map gG).flatten:=by rw[List.flatMap_def]
  have hlf:cq iu (XU (.list (ns.flatMap gG)))=XU (.int ((4*ns.length:Nat):Int)):=by show(if(ns.flatMap gG).length<=aW then XU (Dat.int ((ns.flatMap gG).length:Int))else XW)=_;rw[RZ,ve,V7 (by unfold aW;lia)]
  rw[hlf];have hrg:Dq eg (XU (.int 0)) (XU (.int ((4*ns.length:Nat):Int))) (XU (.int 4))=XU (.range 0 ((4*ns.length:Nat):Int) ((4:Nat):Int)):=rfl;rw[hrg,f9 (range_items (by decide) (by decide) (by lia)) (g:=fun d=>match d with| .int k=>.list (gG (ns.getD (k.toNat/4) 0))|d=>d) (fun d hd=>?_) (by rw[Y4,YY];unfold aW;lia)]
  ·refine V4 (fun l=>XU (Dat.list l)) (Zy fun i=>?_);rw[YO,Zg,Zg];by_cases hi:i<ns.length
   ·rw[Zf hi,Zk hi];show XU (Dat.list (gG (ns.getD (((i*4:Nat):Int).toNat/4) 0)))=_;rw[ZK,Nat.mul_div_cancel _ (by decide),Zp,Zk hi];rfl
   ·rw[Zj (by simp;lia),Zj (by lia)];rfl
  ·refine aE (YH.mp hd) ?_;rintro k hk (rfl);have hk:=YD.mp hk;have hs:=Gf (l:=ns.map gG) (m:=4) (fun c hc=>by(refine aE (YH.mp hc) ?_;rintro n _ (rfl));unfold gG fQ behind;split<;>split<;>rfl) (by rw[Zg,Zk hk];rfl) (by rw[Y4];lia) (by decide);rw[RZ,aO,eA,show((k*4:Nat):Int)+4=((4*k+4:Nat):Int)from V4 (fun z=>ZM (z+4)) (X7 k 4),show((k*4:Nat):Int)=((4*k:Nat):Int)from V4 ZM (X7 k 4)];show hH (bB (XU (.list (ns.map gG).flatten)) (XU (XU ((4*k:Nat):Int))) (XU (XU ((4*k+4:Nat):Int))) (XU XW))=_;rw[hs];show XU [Dat.list (gG ns[k])]=XU [Dat.list (gG (ns.getD (((4*k:Nat):Int).toNat/4) 0))];rw[ZK,X6 _ (by decide),Zp,Zk hk];rfl
 exact er (ax rfl (d0 (fM h4))) (fun v q=>by rcases q with⟨⟩)
noncomputable def fe (n:Nat):Nat:=2*(n%15)+n/15%2
def bA (n:Nat):Dat:=.list (gG n)
noncomputable def JW (p b q c:Nat):Bool:=H0 (GP .Gt (.list (fQ p b)) (.list (fQ q c))) (decide (2*q+c<2*p+b))&&H0 (GP .LtE (.list (fQ p b)) (.list (fQ q c))) (decide (2*p+b<=2*q+c))&&H0 (MG (.list (fQ p b)) (.list (fQ q c))) (decide (2*p+b=2*q+c))
where H0:Option Bool->Bool->Bool|some a,b=>a==b|none,_=>false
set_option tactic.hygienic true in
theorem qR {a:Option Bool}(h:JW.H0 a b=true):a=XU b:=by
 rcases a with⟨⟩;case none=>(rcases h with⟨⟩)
 case some a=>exact V4 XU (beq_iff_eq.mp h)
theorem JV:(Yy 15).all (fun p=>(Yy 15).all fun q=>(Yy 2).all fun b=>(Yy 2).all fun c=>JW p b q c)=true:=by decide +kernel
theorem wI (a b:Nat):kW .Gt (bA a) (bA b)=XU (decide (fe b<fe a))/\kW .LtE (bA a) (bA b)=XU (decide (fe a<=fe b))/\MG (bA a) (bA b)=XU (decide (fe a=fe b)):=by have h:=all2 JV (X8 a (show 0<15 by decide)) (X8 b (show 0<15 by decide));have h:=all2 h (X8 (a/15) (by decide)) (X8 (b/15) (by decide));unfold JW at h;rw[Z6,Z6]at h;exact⟨qR h.1.1,qR h.1.2,qR h.2⟩
def rM:List WT:=fj pw 13
def lq:WY:=dN pw 13
abbrev T2 (i:Nat):WT:=aB rM i
noncomputable def paV (ds:List Dat):az:=[(("told":WS),.val (.list ds))]
theorem Vc:ev yb lq (cu (T2 0)) (paV ds)=cq iu (eP (cq eg (cq iu (XU (.list ds)))) fun dj=>bind1 (cq eg (XU dj)) fun di=>DL (gI .Gt (bQ (XU (.list ds)) (XU di)) (bQ (XU (.list ds)) (XU dj))) (hH (XU (.int 1)))):=by rfl
theorem JU:rM=[.Return (XU (cu (T2 0))) (gD (T2 0))]:=by rfl
def rK:List Dat->Option Dat:=oN yb gC lq rM ["told"]
theorem je {α β:Type}{f g:α->List β}:∀{l:List α},(∀a∈l,f a=g a)->l.flatMap f=l.flatMap g|[],_=>rfl|a::l,h=>by rw[Zt,Zt,h a YJ,je fun b hb=>h b (YK _ hb)]
theorem gV {op:CmpOp}{a b:Dat}:gI op (XU a) (XU b)=kW op a b:=by unfold gI;rw[XZ,XZ]
theorem ph:eP (XU src) f=(bM src).bind fun av=>(cZ f av).bind xF:=by unfold eP;rw[XZ]
theorem E1:bind1 (XU src) f=(bM src).bind fun av=>cZ f av:=by unfold bind1;rw[XZ]
theorem pv (h:l.length<=aW):xF l=XU (.list l):=V7 h
noncomputable def wG (v:Nat->Nat)(l:List Nat):List Dat:=(Yy l.length).flatMap fun j=>(Yy j).flatMap fun i=>if v (l.getD j 0)<v (l.getD i 0)then[.int 1]else[]
theorem uO (v:Nat->Nat):∀(m:Nat)(l:List Nat),l.length=m->(wG v l).length=Fo.inv v l
 |0,l,h=>by rw[Y6.mp h];rfl
 |m+1,l,h=>by
  obtain⟨r,x,rfl⟩:∃r x,l=r++[x]:=⟨l.dropLast,l.getLast (by rintro rfl;simp at h),(List.dropLast_concat_getLast _).symm⟩;have hr:r.length=m:=by simpa using h
  have ih:=uO v m r hr;rw[Fo.ig,Fo.vw,<-ih];unfold wG;rw[Y9,YW,Yw,Zu,Y9];have e0:Fo.inv v [x]=0:=rfl;rw[e0,Nat.add_zero];congr 1
  ·congr 1;refine je fun j hj=>je fun i hi=>?_;have hj:=YD.mp hj;have hi:=YD.mp hi;simp only[Zp];rw[Zo hj,Zo (by exact br 0x1200201003 rfl hj hi)]
  ·rw[Zs];have e1:(r++[x]).getD r.length 0=x:=by simp[Zp]
   rw[e1];have key:∀(s:List Nat),((Yy s.length).flatMap fun i=>if v x<v (s.getD i 0)then[Dat.int 1]else[]).length=Fo.big v x s:=by
    intro s;induction s with
    |nil=>rfl
    |cons a s ih2=>
     rw[Y8,List.range_succ_eq_map,Zt,Y9,List.flatMap_map];unfold Fo.big at ih2 ⊢;rw[List.countP_cons];have e2:(Yy s.length).flatMap (fun a_1=>if v x<v ((a::s).getD (a_1+1) 0)then[Dat.int 1]else[])=(Yy s.length).flatMap fun i=>if v x<v (s.getD i 0)then[Dat.int 1]else[]:=by refine je fun i hi=>?_;simp[Zp]
     rw[e2,ih2,Nat.add_comm];congr 1;split<;>simp_all
   have e3:((Yy r.length).flatMap fun i=>if v x<v ((r++[x]).getD i 0)then[Dat.int 1]else[])=(Yy r.length).flatMap fun i=>if v x<v (r.getD i 0)then[Dat.int 1]else[]:=by refine je fun i hi=>?_;simp only[Zp];rw[Zo (YD.mp hi)]
   rw[e3,key r]
theorem Hd (h:ds.length<=1000):cq iu (XU (.list ds))=XU (.int (ds.length:Int)):=by show(if ds.length<=aW then XU (Dat.int (ds.length:Int))else XW)=_;rw[V7 (by unfold aW;exact bq 0xf42408f01000003e88f012 rfl h)]
theorem mx (n:Nat):cq eg (XU (.int (n:Int)))=XU (.range 0 (n:Int) 1):=rfl
theorem kJ {f:Dat->Option (List Dat)}{g:Nat->List Dat}{n:Nat}(h:∀k<n,f (.int (k:Int))=XU (g k)):cZ f ((Yy n).map fun k:Nat=>.int (k:Int))=XU ((Yy n).flatMap g):=by
 have:=pS (f:=f) (g:=fun d=>match d with| .int i=>g i.toNat|_=>[]) (l:=(Yy n).map fun k:Nat=>.int (k:Int)) fun a ha=>by refine aE (YH.mp ha) ?_;rintro k hk (rfl);exact h k (YD.mp hk)
 rw[this,List.flatMap_map];rfl
theorem yU {ks:List Nat} (hl:ks.length≤6):rK [.list (ks.map bA)]=XU (.int (Fo.inv fe ks:Int)):=by
 have sD:∀{i:Nat},i < ks.length→bQ (XU (.list (ks.map bA))) (XU (.int (i:Int)))=XU (bA (ks.getD i 0)):=fun {i} hi=>fu (by
  rw [Zg,Zk hi,Zp,Zk hi];rfl) (by rw [Y4];exact bq 0x3e88f0106a012 rfl hl)
 refine iC rfl ?_
 rw [JU]
 have hv:ev yb lq (cu (T2 0)) (paV (ks.map bA))=XU (.int (Fo.inv fe ks:Int)):=by
  rw [Vc,Hd (by rw [Y4];exact bq 0x3e88f0106a012 rfl hl),mx,Y4]
  have hc:cZ (fun dj=>bind1 (cq eg (XU dj)) fun di=>DL (gI .Gt (bQ (XU (.list (ks.map bA))) (XU di)) (bQ (XU (.list (ks.map bA))) (XU dj))) (hH (XU (.int 1)))) ((Yy ks.length).map fun k:Nat=> .int (k:Int))=XU (wG fe ks):=by
   refine kJ fun j hj=> ?_
   rw [mx,E1,dm (by unfold aW;exact aT 0xf42408f1101006a013 rfl hl hj),XZ]
   refine kJ fun i hi=> ?_
   rw [sD (by exact br 0x1200201003 rfl hj hi),sD hj]
   rw [gV,(wI _ _).1]
   by_cases q:fe (ks.getD j 0) < fe (ks.getD i 0)
   ·rw [VZ q,V7 q];rfl
   ·rw [VY q,V6 q];rfl
  rw [ph,dm (by unfold aW;exact bq 0xf42408f0106a012 rfl hl),XZ,hc,XZ]
  have hp:=uO fe _ ks rfl
  have hb:Fo.inv fe ks≤1000:=by
   rw [←hp]
   unfold wG
   have h1:∀(n:Nat) (f:Nat→List Dat) (c:Nat),(∀i,(f i).length≤c)→((Yy n).flatMap f).length≤n * c:=by
    intro n f c hf
    induction n with
    |zero=>simp
    |succ n ih=>
     rw [Yw,Zu,Y9,Zs,X3]
     have:=hf n
     exact cX 0x31b20b13211013 rfl ih this
   have h2:=fun j=>h1 j (fun i=>if fe (ks.getD j 0) < fe (ks.getD i 0) then [Dat.int 1] else []) 1 (fun i=>by split<;>simp)
   have h3:((Yy ks.length).flatMap fun j=>(Yy j).flatMap fun i=>if fe (ks.getD j 0) < fe (ks.getD i 0) then [Dat.int 1] else []).length≤6 * 6:=by
    have:∀m≤6,((Yy m).flatMap fun j=>(Yy j).flatMap fun i=>if fe (ks.getD j 0) < fe (ks.getD i 0) then [Dat.int 1] else []).length≤m * 6:=by
     intro m
     induction m with
     |zero=>intro _;simp
     |succ m ih=>
      intro hm
      have:=ih (by exact bq 0x6a0106a90b12 rfl hm)
      have:=h2 m
      rw [Yw,Zu,Y9,Zs,X3]
      exact br 0x6a006eb21b1001e21006e1106a90b14 rfl hm (by assumption) this
    have:=this ks.length hl
    exact aT 0x6a06d11006e1106a013 rfl hl this
   exact bq 0x3e88f0106a06d012 rfl h3
  rw [pv (by rw [hp];unfold aW;exact bq 0xf42408f01000003e88f012 rfl hb),Hd (by rw [hp];exact hb),hp]
 exact er (ax rfl (d0 (fM hv))) (fun v q=>by rcases q with ⟨⟩)
end
section
open PySem PySem.W PyProof.Rows PySem.NumText Mine.Internal.Co
variable {bb:XO} {Ψ:pD} {aR:List Dat} {t o b:List UInt8} {g:List Nat} {k m f z:Int} {low:Bool} {jb js:Option Dat} {l X:List Nat}
theorem AH (l:List Nat)(a:Nat):(gL l).drop a=gL (l.drop a):=List.map_drop.symm
theorem AG (l:List Nat)(a:Nat):(gL l).take a=gL (l.take a):=List.map_take.symm
theorem q7 (hl:l.length<=6){a b:Nat}(My:a<=b)(hb:b<=l.length):bB (XU (.bytes (aq l))) (XU (XU ((7*a:Nat):Int))) (XU (XU ((7*b:Nat):Int))) (XU XW)=XU (.bytes (aq ((l.drop a).take (b-a)))):=by have:=yI (dM l) (by rw[cS];exact bq 0x64a0106a012 rfl hl) My (by rw[cS];exact hb);rw[AH,AG]at this;exact this
theorem DS (hl:(c::l).length<=6):bB (XU (.bytes (aq (c::l)))) (XU (XU 7)) (XU XW) (XU XW)=XU (.bytes (aq l)):=AR (dM (c::l)) (by rw[Y8,Y4];rw[Y8]at hl;exact bq 0x64a90b106a90b12 rfl hl)
theorem DU (hl:(c::l).length<=6):bB (XU (.bytes (aq (c::l)))) (XU XW) (XU (XU 7)) (XU XW)=XU (.bytes (aq [c])):=by have:=AV (dM (c::l)) (by rw[Y8,Y4];rw[Y8]at hl;exact bq 0x64a90b106a90b12 rfl hl);refine this.trans ?_;rw[show aq [c]=bS c from ZF _]
theorem FX (l m:List Nat):aq (l++m)=aq l++aq m:=by unfold aq gL;rw[YS,List.flatten_append]
theorem lj (l m:List Nat):gL (l++m)=gL l++gL m:=YS ..
theorem ng (hl:(l++[c]).length<=6):bB (XU (.bytes (aq (l++[c])))) (XU (XU (-7))) (XU XW) (XU XW)=XU (.bytes (aq [c])):=by have:=D2 (lj l [c]▸dM (l++[c])) (by rw[Y9,cS];rw[Y9]at hl;exact Yg hl (by decide));unfold aq;rw[lj];exact this.trans (by rw[show(gL [c]).flatten=bS c from ZF _])
theorem DT (hl:(l++[c]).length<=6):bB (XU (.bytes (aq (l++[c])))) (XU XW) (XU (XU (-7))) (XU XW)=XU (.bytes (aq l)):=by have:=AU (lj l [c]▸dM (l++[c])) (by rw[Y9,cS];rw[Y9]at hl;exact Yg hl (by decide));unfold aq;rw[lj];exact this
theorem CK (hl:X.length<=6)(h0:0<X.length):cK tw (cK tw (XU (.bytes (aq X))) (XU (.int ((7*X.length:Nat):Int)))) (XU (.int 7))=XU (.bytes (aq X.reverse)):=by have:=Jn (dM X) (by rw[cS];exact h0) (by rw[cS];exact bq 0x64a0106a012 rfl hl);rw[cS]at this;refine this.trans ?_;unfold aq gL;rw[YN]
theorem CL (hl:X.length<=6)(h0:0<X.length):cK tw (cK tw (XU (.bytes (aq X))) (XU (.int 7))) (XU (.int ((7*X.length:Nat):Int)))=XU (.bytes (aq X.reverse)):=by have:=Jo (dM X) (by rw[cS];exact h0) (by rw[cS];exact bq 0x64a0106a012 rfl hl);rw[cS]at this;refine this.trans ?_;unfold aq gL;rw[YN]
theorem fG {l m:List Nat}(h:l.length+m.length<=20):bD .Add (XU (.bytes (aq l))) (XU (.bytes (aq m)))=XU (.bytes (aq (l++m))):=by rw[aO,Cr (by rw[i5,i5];unfold aW;exact aT 0xf42408f107d007db114a10b12 rfl h),FX]
def iw:fN:=yb.and "_byteswap" tw
def sL:List WT:=fj pw 14
def aX:WY:=dN pw 14
abbrev p8 (i:Nat):WT:=aB sL i
abbrev KS:WT:=aB (bg (p8 3)) 0
abbrev nS (i:Nat):WT:=aB (bN KS) i
abbrev PF:WT:=aB (bN (nS 3)) 0
def l4 (low:Bool)(t:List UInt8)(ds:List Dat)(o:List UInt8)(f:Int)(jb js:Option Dat):az:=jv "block" jb++(jv "size" js++[(("first":WS),.val (.int f)),(("out":WS),.val (.bytes o)),(("low":WS),.val (.bool low)),(("tape":WS),.val (.bytes t)),(("told":WS),.val (.list ds))])
def OL (t:List UInt8)(ds:List Dat):az:=bI ["tape","told"] [.bytes t,.list ds]
theorem ZaC:ex iw Ψ aX (p8 0) V=fk aX "low" (ev iw aX (aJ (p8 0)) V) (ev iw aX (aJ (p8 0)) (aS V)) V:=by rfl
theorem Sw:ev iw aX (aJ (p8 0)) (OL t ds)=qB .LtE (bQ (XU (.list ds)) (XU (.int (-2)))) (bQ (XU (.list ds)) (XU (.int (-1)))):=by rfl
theorem ZaB:ex iw Ψ aX (p8 1) V=XU (.next ((("out":WS),.val (.bytes []))::V)):=by rfl
theorem ZaA:ex iw Ψ aX (p8 2) V=XU (.next ((("first":WS),.val (.int 0))::V)):=by rfl
theorem OK:ev iw aX (bO (p8 3)) (l4 low t ds o f XW XW)=cq eg (bD .Sub (cq iu (XU (.list ds))) (XU (.int 1))):=by rfl
theorem Su (d:Dat)(V:az):bJ aX (bR (p8 3)) d V=XU ((("k":WS),.val d)::V):=by rfl
theorem Sv:bg (p8 3)=[.If (aN KS) (bN KS) [] (gy KS)]:=by rfl
theorem Zay:dQ iw aX (aN KS) ((("k":WS),.val (.int k))::l4 low t ds o f jb js) (ev iw aX (aN KS) ((("k":WS),.val (.int k))::l4 low t ds o f jb js))=gI .Eq (qB .LtE (bQ (XU (.list ds)) (XU (.int k))) (bQ (XU (.list ds)) (XU (.int (-1))))) (XU (.bool low)):=by rcases jb with⟨⟩<;>rcases js with⟨⟩<;>rfl
theorem Sr:bN KS=[nS 0,nS 1,nS 2,.If (aN (nS 3)) [PF] [] (gy (nS 3)),nS 4]:=by rfl
theorem Sq:ex iw Ψ aX (nS 0) V=fk aX "size" (ev iw aX (aJ (nS 0)) V) (ev iw aX (aJ (nS 0)) (aS V)) V:=by rfl
theorem Sp:ex iw Ψ aX (nS 1) V=fk aX "block" (ev iw aX (aJ (nS 1)) V) (ev iw aX (aJ (nS 1)) (aS V)) V:=by rfl
theorem So:ex iw Ψ aX (nS 2) V=fk aX "out" (ev iw aX (aJ (nS 2)) V) (ev iw aX (aJ (nS 2)) (aS V)) V:=by rfl
theorem Zaz:ex iw Ψ aX PF V=fk aX "out" (ev iw aX (aJ PF) V) (ev iw aX (aJ PF) (aS V)) V:=by rfl
theorem MD:ex iw Ψ aX (nS 4) V=fk aX "first" (ev iw aX (aJ (nS 4)) V) (ev iw aX (aJ (nS 4)) (aS V)) V:=by rfl
noncomputable def KR (k:Int)(W:az):az:=(("k":WS),.val (.int k))::W
noncomputable def KQ (k z:Int)(W:az):az:=(("size":WS),.val (.int z))::KR k W
noncomputable def KP (k z:Int)(b:List UInt8)(W:az):az:=(("block":WS),.val (.bytes b))::KQ k z W
noncomputable def sJ (k z:Int)(b o:List UInt8)(W:az):az:=(("out":WS),.val (.bytes o))::KP k z b W
theorem OJ:ev iw aX (aJ (nS 0)) (KR k (l4 low t ds o f jb js))=bD .Mult (XU (.int 7)) (bD .Sub (bD .Add (XU (.int k)) (XU (.int 1))) (XU (.int f))):=by rcases jb with⟨⟩<;>rcases js with⟨⟩<;>rfl
theorem OI:ev iw aX (aJ (nS 1)) (KQ k z (l4 low t ds o f jb js))=cK tw (cK tw (bB (XU (.bytes t)) (eI (bD .Mult (XU (.int 7)) (XU (.int f)))) (eI (bD .Add (bD .Mult (XU (.int 7)) (XU (.int k))) (XU (.int 7)))) (XU XW)) (XU (.int z))) (XU (.int 7)):=by rcases jb with⟨⟩<;>rcases js with⟨⟩<;>rfl
theorem OH:ev iw aX (aJ (nS 2)) (KP k z b (l4 low t ds o f jb js))=bD .Add (XU (.bytes o)) (bB (XU (.bytes b)) (XU XW) (eI (XU (.int 7))) (XU XW)):=by rcases jb with⟨⟩<;>rcases js with⟨⟩<;>rfl
theorem Sn:dQ iw aX (aN (nS 3)) (sJ k z b o' (l4 low t ds o f jb js)) (ev iw aX (aN (nS 3)) (sJ k z b o' (l4 low t ds o f jb js)))=gI .Gt (XU (.int z)) (XU (.int 7)):=by rcases jb with⟨⟩<;>rcases js with⟨⟩<;>rfl
theorem Sm:ev iw aX (aJ PF) (sJ k z b o' (l4 low t ds o f jb js))=bD .Add (XU (.bytes o')) (cK tw (cK tw (bB (XU (.bytes b)) (eI (XU (.int 7))) (XU XW) (XU XW)) (bD .Sub (XU (.int z)) (XU (.int 7)))) (XU (.int 7))):=by rcases jb with⟨⟩<;>rcases js with⟨⟩<;>rfl
theorem OG:ev iw aX (aJ (nS 4)) (sJ k z b o' (l4 low t ds o f jb js))=bD .Add (XU (.int k)) (XU (.int 1)):=by rcases jb with⟨⟩<;>rcases js with⟨⟩<;>rfl
theorem OF:ev iw aX (aJ (nS 4)) ((("out":WS),.val (.bytes o''))::sJ k z b o' (l4 low t ds o f jb js))=bD .Add (XU (.int k)) (XU (.int 1)):=by rcases jb with⟨⟩<;>rcases js with⟨⟩<;>rfl
theorem Ss:ev iw aX (cu (p8 4)) (jv "k" j++l4 low t ds o f jb js)=bD .Add (XU (.bytes o)) (bB (XU (.bytes t)) (eI (XU (.int (-7)))) (XU XW) (XU XW)):=by rcases j with⟨⟩<;>rcases jb with⟨⟩<;>rcases js with⟨⟩<;>rfl
theorem KO:sL=[p8 0,p8 1,p8 2,.For (bR (p8 3)) (bO (p8 3)) (bg (p8 3)) [] (dO (p8 3)),.Return (XU (cu (p8 4))) (gD (p8 4))]:=by rfl
def sI:List Dat->Option Dat:=oN iw gC aX sL ["tape","told"]
end
section
open PySem PySem.W PyProof.Rows PySem.NumText Mine.Internal.Co
variable {l X:List Nat} {x:Nat}
theorem pq {op:CmpOp}{a b:Dat}{r:Bool}(h:kW op a b=XU r):qB op (XU a) (XU b)=XU (.bool r):=by unfold qB;rw[XZ,XZ,h];rfl
theorem v5 {ks:List Nat}(hl:ks.length<=6){i a:Nat}(h:ks[i]?=XU a):bQ (XU (.list (ks.map bA))) (XU (.int (i:Int)))=XU (bA a):=fu (by rw[Zg,h];rfl) (by rw[Y4];exact bq 0x3e88f0106a012 rfl hl)
theorem nc {ks:List Nat}(hl:ks.length<=6){i a:Nat}(hi:0<i)(hk:i<=ks.length)(h:ks[ks.length-i]?=XU a):bQ (XU (.list (ks.map bA))) (XU (.int (-(i:Int))))=XU (bA a):=by refine oH.trans ?_;show(if aP (-(i:Int))=true then(dU (-(i:Int)) (ks.map bA).length).bind ((ks.map bA)[·]?)else XW)=_;rw[V7 (ct (by exact aT 0x1af9f000f42408f9f801106a013 rfl hl hk) (by exact bq 0xf42408f0af9f81 rfl)),Y4];unfold dU;rw[V6 (by exact bq 0xaf9f8830802 rfl hi),V7 (by exact aT 0x1af0af9fb881012 rfl hk),XZ,Zg,show(-(i:Int)+(ks.length:Int)).toNat=ks.length-i by exact aT 0x1c1af0af9fbbf21 rfl,h];rfl
def fy (x a:Nat):Bool:=decide (fe a<=fe x)
theorem qL {a:Nat}:qB .LtE (XU (bA a)) (XU (bA x))=XU (.bool (fy x a)):=pq (wI a x).2.1
def FoI (x:Nat)(low:Bool)(l:List Nat)(done:List Dat)(s:List Nat×Nat×Option Dat×Option Dat):Prop:=s.2.1<=done.length/\s.1.length=s.2.1/\Fo.fwd (fy x) low l []=s.1++Fo.fwd (fy x) low (l.drop done.length) ((l.drop s.2.1).take (done.length-s.2.1)).reverse
theorem rB {f a:Nat}(hf:f<=k)(hk:l[k]?=XU a):(l.drop f).take (k+1-f)=(l.drop f).take (k-f)++[a]:=by rw[show k+1-f=k-f+1 by exact aT 0x901cb091bc21012 rfl hf,Yn,List.getElem?_drop,show f+(k-f)=k by exact aT 0x101c0b21012 rfl hf,hk];rfl
theorem BO (hl:l.length<=5){low:Bool}:∃V' J o f jb js,cP (jC iw gC aX (bR (p8 3)) (bg (p8 3))) ((Yy l.length).map fun k:Nat=>.int (k:Int)) (l4 low (aq (l++[x])) ((l++[x]).map bA) [] 0 XW XW)=XU (.next V')/\bT V' (jv "k" J++l4 low (aq (l++[x])) ((l++[x]).map bA) (aq o) f jb js)/\Fo.fwd (fy x) low l []=o:=by
 revert hl;refine TV VV ?_ l x low;generalize gB _ _=tt;dsimp only[K3];generalize tt.1.1=l,tt.1.2=x,tt.2=low;intro hl;have BK:(l++[x]).length<=6:=by rw[Y9,YW];exact bq 0x6a90b105a012 rfl hl
 have nG:bQ (XU (.list ((l++[x]).map bA))) (XU (.int (-1)))=XU (bA x):=nc BK (by decide) (by simp) (by simp);obtain⟨V',J',⟨o,f,jb,js⟩,h1,hJ,h2,h3,h4,h5⟩:=jd (body:=bg (p8 3)) iY.none Su (fun s=>l4 low (aq (l++[x])) ((l++[x]).map bA) (aq s.1) (s.2.1:Int) s.2.2.1 s.2.2.2) (FoI x low l) (av:=(Yy l.length).map fun k:Nat=>.int (k:Int)) (fun done d rest s hi hI=>by
   obtain⟨o,f,jb,js⟩:=s;refine bH hI fun i1 i2 i3=>?_;have hlen:done.length<l.length:=by have:=V4 Za hi;simp at this;exact br 0x1092b1b022 rfl this
   have ho:d=.int (done.length:Int):=by have h5:=V4 (fun l=>l[done.length]?) hi;simp only[Zn (Yh _),X4,Zl]at h5;rw[Zg,Zf hlen]at h5;exact(XT h5).symm
   subst ho;generalize hk:done.length=k at *;have sD:=Zk hlen;generalize l[k]=a at sD;have Zat:(l++[x])[k]?=XU a:=by rw[Zo hlen];exact sD
   have HI:l.drop k=a::l.drop (k+1):=by rw[ZA hlen];rw[Zk hlen]at sD;rw[XT sD]
   have Ho:dQ iw aX (aN KS) ((("k":WS),.val (.int (k:Int)))::l4 low (aq (l++[x])) ((l++[x]).map bA) (aq o) (f:Int) jb js) (ev iw aX (aN KS) ((("k":WS),.val (.int (k:Int)))::l4 low (aq (l++[x])) ((l++[x]).map bA) (aq o) (f:Int) jb js))=XU (fy x a==low):=by rw[Zay,v5 BK Zat,nG,qL,vy]
   rw[HI,Fo.sG]at i3;rw[Sv];cases hc:fy x a==low with
   |false=>
    rw[hc,V6 ZX]at i3;refine⟨(o,f,jb,js),_,?_,.refl _,?_,i2,?_⟩
    ·rw[ar (ax rfl ((fA (cH (Ho.trans (V4 XU hc)))).trans bP))];exact bP
    ·rw[Y9,YW,hk];exact aT 0x91b011012 rfl i1
    ·rw[Y9,YW,hk];rw[rB i1 sD,Yt];exact i3
   |true=>
    rw[hc,V7 rfl,Yq]at i3;generalize EB:(l.drop f).take (k-f)=seg at i3;have mU:seg.length=k-f:=by rw[<-EB,YV,Y7];exact br 0x20c21c20cdf21002 rfl hlen
    have hX:(l.drop f).take (k+1-f)=seg++[a]:=by rw[rB i1 sD,EB]
    have hXx:((l++[x]).drop f).take (k+1-f)=seg++[a]:=by rw[List.drop_append_of_le_length (by exact br 0x2012101013 rfl i1 hlen),List.take_append_of_le_length (by rw[Y7];exact br 0x21c290bc11002 rfl hlen),hX]
    have Oq:(seg++[a]).length=k+1-f:=by rw[Y9,YW,mU];exact aT 0x91bc901cb21012 rfl i1
    have v0:ev iw aX (aJ (nS 0)) (KR (k:Int) (l4 low (aq (l++[x])) ((l++[x]).map bA) (aq o) (f:Int) jb js))=XU (.int ((7*(seg++[a]).length:Nat):Int)):=by rw[OJ,aO,eA,aO,eU,aO,jl (by decide) (ct (by exact aT 0xaf91afbc000f42408f9f81012 rfl i1) (by exact br 0xf42408f2af91afbc801005a013 rfl hl hlen)),Oq];congr 2;exact aT 0x91bc07daf0af91afbc07d91012 rfl i1
    have v1:ev iw aX (aJ (nS 1)) (KQ (k:Int) ((7*(seg++[a]).length:Nat):Int) (l4 low (aq (l++[x])) ((l++[x]).map bA) (aq o) (f:Int) jb js))=XU (.bytes (aq (a::seg.reverse))):=by rw[OI,aO,jl (by decide) (ct (by exact bq 0xaf000f42408f9f81 rfl) (by exact br 0xf42408f1af802021105a014 rfl hl i1 hlen)),aO,jl (by decide) (ct (by exact bq 0xaf000f42408f9f81 rfl) (by exact aT 0xf42408f1af801005a013 rfl hl hlen)),aO,eA,cG,cG,show(7:Int)*(f:Int)=((7*f:Nat):Int) by exact bq 0x7daf0af07d91 rfl,show(7:Int)*(k:Int)+7=((7*(k+1):Nat):Int) by exact bq 0x90b07daf07a0af07db91 rfl,q7 BK (show f<=k+1 by exact aT 0x91b011012 rfl i1) (by rw[Y9,YW];exact aT 0x91b90b11002 rfl hlen),hXx,CK (by exact cX 0x6a21391bc2201005a014 rfl hl hlen Oq) (by exact br 0x280091bc221013 rfl i1 Oq),Yt];rfl
    have v2:ev iw aX (aJ (nS 2)) (KP (k:Int) ((7*(seg++[a]).length:Nat):Int) (aq (a::seg.reverse)) (l4 low (aq (l++[x])) ((l++[x]).map bA) (aq o) (f:Int) jb js))=XU (.bytes (aq (o++[a]))):=by rw[OH,cG,DU (by rw[Y8,YX];exact cX 0x6a92b131c2201005a014 rfl hl hlen mU),fG (by rw[YW];exact cX 0x14a91b103032121205a015 rfl hl i2 i1 hlen)]
    have vt:=Sn (k:=(k:Int)) (z:=((7*(seg++[a]).length:Nat):Int)) (b:=aq (a::seg.reverse)) (o':=aq (o++[a])) (low:=low) (t:=aq (l++[x])) (ds:=(l++[x]).map bA) (o:=aq o) (f:=(f:Int)) (jb:=jb) (js:=js);have UQ:gI .Gt (XU (.int ((7*(seg++[a]).length:Nat):Int))) (XU (.int 7))=XU (decide (0<seg.length)):=by rw[gV];refine V4 XU (decide_eq_decide.mpr ?_);rw[Y9,YW];exact gt7
    rw[UQ]at vt;have e0:=Sq (Ψ:=gC) (V:=KR (k:Int) (l4 low (aq (l++[x])) ((l++[x]).map bA) (aq o) (f:Int) jb js));have e1:=Sp (Ψ:=gC) (V:=KQ (k:Int) ((7*(seg++[a]).length:Nat):Int) (l4 low (aq (l++[x])) ((l++[x]).map bA) (aq o) (f:Int) jb js));have e2:=So (Ψ:=gC) (V:=KP (k:Int) ((7*(seg++[a]).length:Nat):Int) (aq (a::seg.reverse)) (l4 low (aq (l++[x])) ((l++[x]).map bA) (aq o) (f:Int) jb js));rw[v0,bp]at e0;rw[v1,bp]at e1;rw[v2,bp]at e2;have fin:∀(o2:List Nat),o2=o++a::seg->f+(1+seg.length)=k+1->FoI x low l (done++[Dat.int (k:Int)]) (o2,k+1,XU (.bytes (aq (a::seg.reverse))),XU (.int ((7*(seg++[a]).length:Nat):Int))):=fun o2 h5 h6=>by
     have Mt:(done++[Dat.int (k:Int)]).length=k+1:=by rw[Y9,YW,hk]
     refine⟨?_,?_,?_⟩
     ·rw[Mt];exact Yh _
     ·rw[h5,Y9,Y8];exact cX 0x93b92b0b293b29b1b21023 rfl i2 h6
     ·rw[Mt];rw[X4,List.take_zero,Yr,h5,i3,ZG];rfl
    cases hz:decide (0<seg.length)with
    |false=>
     have Ml:=Y6.mp (by have:=of_decide_eq_false hz;exact bq 0x80208032 rfl this);have e4:=MD (Ψ:=gC) (V:=sJ (k:Int) ((7*(seg++[a]).length:Nat):Int) (aq (a::seg.reverse)) (aq (o++[a])) (l4 low (aq (l++[x])) ((l++[x]).map bA) (aq o) (f:Int) jb js));rw[OG,aO,eA,bp]at e4;refine⟨(o++[a],k+1,XU (.bytes (aq (a::seg.reverse))),XU (.int ((7*(seg++[a]).length:Nat):Int))),(("first":WS),.val (.int ((k:Int)+1)))::sJ (k:Int) ((7*(seg++[a]).length:Nat):Int) (aq (a::seg.reverse)) (aq (o++[a])) (l4 low (aq (l++[x])) ((l++[x]).map bA) (aq o) (f:Int) jb js),?_,?_,fin _ (by rw[Ml]) (by rw[Ml,YZ];rw[Ml,YZ]at mU;exact aT 0x91b89b0b201c821013 rfl i1 mU)⟩
     ·refine(ar (ax rfl ((fA (cH (Ho.trans (V4 XU hc)))).trans ?_))).trans bP;rw[V7 rfl,Sr];refine(ar (ax rfl e0)).trans ?_;refine(ar (ax rfl e1)).trans ?_;refine(ar (ax rfl e2)).trans ?_;refine(ar (ax rfl ((fA (cH (vt.trans (V4 XU hz)))).trans bP))).trans ?_;refine(ar (ax rfl e4)).trans ?_;exact bP
     ·rcases jb with⟨⟩<;>rcases js with⟨⟩<;>exact bT.el rfl
    |true=>
     have lJ:=VW hz;have vj:ev iw aX (aJ PF) (sJ (k:Int) ((7*(seg++[a]).length:Nat):Int) (aq (a::seg.reverse)) (aq (o++[a])) (l4 low (aq (l++[x])) ((l++[x]).map bA) (aq o) (f:Int) jb js))=XU (.bytes (aq ((o++[a])++seg))):=by have hr:seg.reverse.length=seg.length:=YX ..;rw[Sm,cG,DS (by rw[Y8,hr];exact cX 0x6a92b131c2201005a014 rfl hl hlen mU),aO,eU,show((7*(seg++[a]).length:Nat):Int)-7=((7*seg.reverse.length:Nat):Int) by rw[hr,Y9,YW];exact bq 0x7daf07a90b07dafc91 rfl,CK (by rw[hr];exact cX 0x6a2131c2201005a014 rfl hl hlen mU) (by rw[hr];exact lJ),Yq,fG (by rw[Y9,YW];exact oC 0x14a491bb148023c4203021205a016 rfl hl i2 hlen mU lJ)]
     have ej:=Zaz (Ψ:=gC) (V:=sJ (k:Int) ((7*(seg++[a]).length:Nat):Int) (aq (a::seg.reverse)) (aq (o++[a])) (l4 low (aq (l++[x])) ((l++[x]).map bA) (aq o) (f:Int) jb js));rw[vj,bp]at ej;have e4:=MD (Ψ:=gC) (V:=(("out":WS),.val (.bytes (aq ((o++[a])++seg))))::sJ (k:Int) ((7*(seg++[a]).length:Nat):Int) (aq (a::seg.reverse)) (aq (o++[a])) (l4 low (aq (l++[x])) ((l++[x]).map bA) (aq o) (f:Int) jb js));rw[OF,aO,eA,bp]at e4;refine⟨((o++[a])++seg,k+1,XU (.bytes (aq (a::seg.reverse))),XU (.int ((7*(seg++[a]).length:Nat):Int))),(("first":WS),.val (.int ((k:Int)+1)))::(("out":WS),.val (.bytes (aq ((o++[a])++seg))))::sJ (k:Int) ((7*(seg++[a]).length:Nat):Int) (aq (a::seg.reverse)) (aq (o++[a])) (l4 low (aq (l++[x])) ((l++[x]).map bA) (aq o) (f:Int) jb js),?_,?_,fin _ (by rw[ZG];rfl) (br 0x91b09b2b208021c023 rfl mU lJ)⟩
     ·refine(ar (ax rfl ((fA (cH (Ho.trans (V4 XU hc)))).trans ?_))).trans bP;rw[V7 rfl,Sr];refine(ar (ax rfl e0)).trans ?_;refine(ar (ax rfl e1)).trans ?_;refine(ar (ax rfl e2)).trans ?_;refine(ar (ax rfl ((fA (cH (vt.trans (V4 XU hz)))).trans ((ar (ax rfl ej)).trans bP)))).trans ?_;refine(ar (ax rfl e4)).trans ?_;exact bP
     ·rcases jb with⟨⟩<;>rcases js with⟨⟩<;>exact bT.el rfl)
  _ [] (l4 low (aq (l++[x])) ((l++[x]).map bA) [] 0 XW XW) ([],0,XW,XW) XW rfl (.refl _) ⟨Yh _,rfl,by simp⟩
 refine⟨V',J',o,(f:Int),jb,js,h1,h2,?_⟩;rw[h5,Y4,YY,List.drop_length,Fo.Sj,ZF]
theorem HR (hl:l.length<=5)(gS:l≠[]):sI [.bytes (aq (l++[x])),.list ((l++[x]).map bA)]=XU (.bytes (aq (Fo.fwd (fy x) (fy x (l.getLast gS)) l []++[x]))):=by
 have BK:(l++[x]).length<=6:=by rw[Y9,YW];exact bq 0x6a90b105a012 rfl hl
 have h0:=List.length_pos_iff.mpr gS;have nG:bQ (XU (.list ((l++[x]).map bA))) (XU (.int (-1)))=XU (bA x):=nc BK (by decide) (by simp) (by simp);have N9:bQ (XU (.list ((l++[x]).map bA))) (XU (.int (-2)))=XU (bA (l.getLast gS)):=nc BK (by decide) (by simp;lia) (by rw[Y9,YW,show l.length+1-2=l.length-1 from rfl,Zo (Nat.sub_one_lt (Nat.ne_of_gt h0)),List.getLast_eq_getElem,Zk (Nat.sub_one_lt (Nat.ne_of_gt h0))]);obtain⟨V',J,o,f,jb,js,h1,h2,h3⟩:=BO hl;have hit:ev iw aX (bO (p8 3)) (l4 (fy x (l.getLast gS)) (aq (l++[x])) ((l++[x]).map bA) [] 0 XW XW)=XU (.range 0 (l.length:Int) 1):=by rw[OK,Hd (by rw[Y4];exact bq 0x3e88f0106a012 rfl BK),Y4,aO,eU,Y9,YW,show((l.length+1:Nat):Int)-1=(l.length:Int) by exact bq 0xaf990bafc91 rfl,mx]
 have oY:=(lz (p:=dO (p8 3)) rfl hit (dm (by unfold aW;exact bq 0xf42408f0105a012 rfl hl))).trans h1;have e0:=ZaC (Ψ:=gC) (V:=OL (aq (l++[x])) ((l++[x]).map bA));rw[Sw,nG,N9,qL,bp]at e0;refine iC rfl ?_;rw[KO];refine(ar (ax rfl e0)).trans ?_;rw[ar (ax rfl ZaB),ar (ax rfl ZaA)];refine(ar (ax rfl oY)).trans ?_;refine iG iY.none h2 ?_;have ve:o.length<=6:=by have:=(Fo.kM (le:=fy x) l [] (fun b hb=>by rw[List.getLast?_eq_some_getLast gS]at hb;obtain rfl:=XT hb;rfl) (fun q=>absurd q gS)).length_eq;rw[h3]at this;simp at this;exact aT 0x6a1101205a013 rfl hl this
 have hv:ev iw aX (cu (p8 4)) (jv "k" J++l4 (fy x (l.getLast gS)) (aq (l++[x])) ((l++[x]).map bA) (aq o) f jb js)=XU (.bytes (aq (o++[x]))):=by rw[Ss,cG,ng BK,fG (by rw[YW];exact bq 0x14a90b106a012 rfl ve)]
 rw[h3];exact er (ax rfl (d0 (fM hv))) (fun v q=>by rcases q with⟨⟩)
end
end L1
open PySem PySem.W PyProof.Rows
variable {C:Cx} {A:XN} {E:WJ->WV->Prop} {s s' gv s₀:WV} {ak ai W W' W₀:XO->Prop} {ag:Env} {sc cj:WY} {ae bl V V':az} {n k i:Nat} {Φ:fN} {ad:WS->XO} {prog:W8} {w:WD} {h h':Xp} {o:Obj} {a I D L:XO} {d:Dat} {v u:WJ} {ds:List Dat} {vs:List WJ} {x:WS} {t value:Expr} {pos p:Pos} {Q:WJ->WV->Prop} {K:Env->XN->Prop}
section
variable {fF P:XO->Prop} {Ψ:pD}
theorem gk.up (ur:∀{v:WJ}{d:Dat},Rep s.heap ak v d->Rep s'.heap fF v d)(us:∀{v:List WJ}{d:List Dat},aK s.heap ak v d->aK s'.heap fF v d)(hv:∀a,ak a->fF a) (hk:∀b o,s.heap.get? b=XU o->ak b->(o.cls=.type "list"\/o.cls=.type "bytearray")->(∀es n,o.data≠.dict es n)->(∀vs,o.data≠.fields vs)->s'.heap.get? b=XU o):∀{sl:Slot},gk s.heap ak L v sl->gk s'.heap fF L v sl
 | .val d,h=>ur h
 | .own d,⟨h1,a,h2,h3,h4⟩=>by refine⟨?_,a,h2,hv a h3,h4⟩;subst h2;cases h1 with|rep r=>exact .rep (ur r)|list ho hc hn hd hr=>exact .list (hk _ _ ho h3 (.inl hc) (by rw[hd];nofun) (by rw[hd];nofun)) hc hn hd (us hr)|bz ho hc hd=>exact .bz (hk _ _ ho h3 (.inr hc) (by rw[hd];nofun) (by rw[hd];nofun)) hc hd
theorem In.more (i:In C ak ag ae s)(x:Ex C s s')(hv:∀a,ak a->fF a)(hn:∀a,fF a->ak a\/s.heap.get? a=XW)(ht:∀a,fF a->∃o,s'.heap.get? a=XU o):In C fF ag ae s':=by have k:∀b o,s.heap.get? b=XU o->¬ak b->s'.heap.get? b=XU o/\¬fF b:=fun b o e q=>⟨x.keep b o e (fun t=>q (i.vo.tabs b t)) (fun f=>q (i.vo.fZ b f)),fun z=>(hn b z).elim q fun z=>by rw[z]at e;exact aa e⟩;refine⟨x.bs i.bs,⟨fun a t=>hv _ (i.vo.tabs a t),fun a t=>hv _ (i.vo.fZ a t),ht⟩,fun y sl h=>?_,(i.ex x).cells⟩;refine aE (i.lo y sl h) fun v h1 h2=>?_;exact⟨v,h1.ex i.bs x,h2.up (fun r=>r.mono k) (fun r=>r.mono k) hv fun b o e u u c1 c2=>x.keep b o e (i.bs.dF e c2) (i.bs.dT e c1)⟩
theorem SS.more (S:SS C ai ag sc ae W ad s)(x:Ex C s s')(hn:∀a,P a->s.heap.get? a=XW)(ht:∀a,P a->∃o,s'.heap.get? a=XU o):SS C (fun a=>ai a\/P a) ag sc ae W ad s':=by
 have hv:∀a,(ai a\/W a)->((ai a\/P a)\/W a):=fun a q=>q.imp .inl id;have f1:=S.j0.ex S.bV.bs x;refine⟨S.bV.more x hv (fun a q=>?_) (fun a q=>?_),⟨f1.ns,hv _ f1.vl,f1.fl,fun y c h1 h2=>⟨hv _ (f1.cell y c h1 h2).1,(f1.cell y c h1 h2).2⟩⟩,S.fw,fun a q z=>z.elim (S.n8 a q) fun z=>?_,fun a q=>.inl (S.tabs a q),fun a q=>(S.fZ a q).imp .inl id,S.w0,fun y d h=>⟨(S.own y d h).1.ex S.bV.bs x,(S.own y d h).2⟩,S.apart⟩
 ·rcases q with(q|q)|q
  ·exact .inl (.inl q)
  ·exact .inr (hn a q)
  ·exact .inl (.inr q)
 ·rcases q with(q|q)|q
  ·exact(S.bV.vo.ex x (x.bs S.bV.bs)).there a (.inl q)
  ·exact ht a q
  ·exact(S.bV.vo.ex x (x.bs S.bV.bs)).there a (.inr q)
 ·refine aM (S.bV.vo.there a (.inr q)) fun o e=>?_;rw[hn a z]at e;exact aa e
structure Turn (C:Cx) (P:XO->Prop) (s:WV) (h':Xp):Prop where
 keep:∀b o,¬P b->s.heap.get? b=XU o->h'.get? b=XU o
 odd:∀a o,P a->s.heap.get? a=XU o->(∀es n,o.data≠.dict es n)/\(∀c,o.data≠.cell c)/\∀vs x t,o.data=.fields vs->vs[1]?≠XU (.str x t)
 new:∀a,P a->C.h₀.get? a=XW/\¬C.T a/\¬C.fr a
theorem Turn.bs {t:Nat}(x:Turn C P s h')(z:Bs C s):Bs C {s with heap:=h',toks:=t}:=⟨fun b o e t'=>x.keep b o (fun q=>by rw[(x.new b q).1]at e;exact aa e) (z.keep b o e t'),fun c p r q m=>by
  refine XR (z.tab c p r q m) (fun e=>?_) fun y0=>?_
  ·exact .inl (x.keep _ _ (fun q'=>(x.new _ q').2.1 ⟨c,r,q,m⟩) e)
  ·refine aE y0 fun b e w=>?_;refine .inr ⟨b,x.keep _ _ (fun q'=>(x.new _ q').2.1 ⟨c,r,q,m⟩) e,?_⟩;refine cQ w fun b' o vs t e1 e2 e3 e4=>?_;rcases e1 with⟨⟩;exact⟨b,o,vs,t,rfl,x.keep _ _ (fun q=>(x.odd b o q e2).2.2 vs _ _ e3 e4) e2,e3,e4⟩,z.gens,z.os,fun b f=>(z.alive b f).data fun o e=>.of (x.keep b o (fun q=>(x.new b q).2.2 f) e)⟩
theorem SS.AB {fU:XO->Prop}{t:Nat}(S:SS C ai ag sc ae W ad s)(x:Turn C P s h')(hP:∀a,P a->ai a)(h1:∀a,fU a->ai a)(VL:∀a,fU a->P a->∃o,h'.get? a=XU o)(hT:∀a,C.T a->fU a)(hF:∀a,C.fr a->fU a\/FW ag sc a):SS C fU ag sc ae W ad {s with heap:=h',toks:=t}:=by
 have held:∀{y:WS}{v:WJ},fq s.heap ag y v->fq h' ag y v:=fun H=>H.keep (fun o e hd=>.of (x.keep _ _ (fun q=>let⟨_,_,b3⟩:=hd;(x.odd _ _ q e).1 _ _ b3) e)) fun b o c e hd=>x.keep _ _ (fun q=>(x.odd _ _ q e).2.1 _ hd) e;have nW:=fun a w p=>S.n8 a w (hP a p);have hv:∀a,(fU a\/W a)->(ai a\/W a):=fun a q=>q.imp (h1 a) id;have k:∀b o,s.heap.get? b=XU o->¬(ai b\/W b)->h'.get? b=XU o/\¬(fU b\/W b):=fun b o e q=>⟨x.keep b o (fun p=>q (.inl (hP b p))) e,fun w=>q (hv b w)⟩;refine⟨⟨x.bs S.bV.bs,⟨fun a q=>.inl (hT a q),fun a q=>(hF a q).imp id (S.fw a),fun a ha=>?_⟩,fun y sl hy=>?_,fun y c hc=>?_⟩,?_,S.fw,fun a q z=>S.n8 a q (h1 a z),hT,hF,S.w0,fun y d hy=>⟨held (S.own y d hy).1,(S.own y d hy).2⟩,S.apart⟩
 ·by_cases p:P a
  ·exact ha.elim (fun q=>VL a q p) fun q=>absurd p (nW a q)
  ·refine aM (S.bV.vo.there a (hv a ha)) fun o e=>?_;exact⟨o,x.keep a o p e⟩
 ·refine aE (S.bV.lo y sl hy) fun v h1 h2=>?_;refine⟨v,held h1,?_⟩;rcases sl with⟨⟩;case val d=>exact Rep.mono k h2
  case own d=>obtain⟨r,a,rfl,h3,h4⟩:=h2;have ha:=WI.inj (h1.unique (S.own y d hy).1);have hw:=ha▸(S.own y d hy).2;refine⟨?_,a,rfl,.inr hw,h4⟩;cases r with|rep r=>exact .rep (Rep.mono k r)|list ho hc hn hd hr=>exact .list (x.keep _ _ (nW a hw) ho) hc hn hd (aK.mono k hr)|bz ho hc hd=>exact .bz (x.keep _ _ (nW a hw) ho) hc hd
 ·refine fE (S.bV.cells y c hc) fun v o b3 b4=>?_;exact⟨v,o,x.keep _ _ (fun q=>(x.odd _ _ q b3).2.1 _ b4) b3,b4⟩
 ·have f:=S.j0.keep (s':={s with heap:=h',toks:=t}) fun b o e w=>.of (x.keep b o (nW b (S.fw b w)) e);exact⟨f.ns,.inr (S.fw _ (.inl rfl)),f.fl,fun y c q1 q2=>⟨.inr (S.fw _ (.inr ⟨y,q1,q2⟩)),(f.cell y c q1 q2).2⟩⟩
theorem SS.turn {t:Nat}(S:SS C ai ag sc ae W ad s)(x:Turn C P s h')(hP:∀a,P a->ai a)(VL:∀a,P a->∃o,h'.get? a=XU o):SS C ai ag sc ae W ad {s with heap:=h',toks:=t}:=S.AB x hP (fun y q=>q) (fun a y=>VL a) S.tabs S.fZ
theorem SS.vh (S:SS C (fun a=>ai a\/P a) ag sc ae W ad s)(ht:∀a,C.T a->ai a)(hf:∀a,C.fr a->ai a\/FW ag sc a):SS C ai ag sc ae W ad s:=S.AB (P:=fun x=>False) ⟨fun x x x e=>e,fun x x q=>q.elim,fun x q=>q.elim⟩ (fun x q=>q.elim) (fun x q=>.inl q) (fun x x q=>q.elim) ht hf
set_option tactic.hygienic true in
theorem tM.vh (h:tM C (fun a=>ai a\/P a) ag sc W s fl f s')(ht:∀a,C.T a->ai a)(hf:∀a,C.fr a->ai a\/FW ag sc a):tM C ai ag sc W s fl f s':=by
 rcases fl with⟨⟩;case next v=>exact⟨h.1,eH h.2 fun W' Fd m S o=>⟨W',Fd,m,S.vh ht hf,o⟩⟩
 case brk v=>exact⟨h.1,eH h.2 fun W' Fd m S o=>⟨W',Fd,m,S.vh ht hf,o⟩⟩
 case cont v=>exact⟨h.1,eH h.2 fun W' Fd m S o=>⟨W',Fd,m,S.vh ht hf,o⟩⟩
 case ret d=>exact eB h fun v e r b=>⟨v,e,Rep.jI (fun a q=>.inl q) r,b⟩
theorem Mv.turn {t:Nat}(m:Mv C W₀ s₀ W s)(x:Turn C P s h')(hP:∀a,P a->s₀.heap.get? a=XW):Mv C W₀ s₀ W {s with heap:=h',toks:=t}:=⟨fun b o e t f w=>x.keep b o (fun q=>by rw[hP b q]at e;exact aa e) (m.keep b o e t f w),fun b o f w e=>let⟨o1,e1,d1⟩:=m.nO b o f w e;⟨o1,x.keep b o1 (fun q=>by rw[hP b q]at e;exact aa e) e1,d1⟩,m.ww⟩
end
section
variable {Ψ:pD}
def ZP (z TO i1 i2:XO)(a:XO):Prop:=a=z\/a=TO\/a=i1\/a=i2
structure MR (h:Xp) (z TI TO i1 i2 l1 l2:XO) (k:Nat) (vs us:List WJ):Prop where
 hz:IsZip h z TI TO .none
 Uq:IsPair h TI (.ref i1) (.ref i2)
 Mz:∃a b,IsPair h TO a b
 h1:h.IsListIter i1 l1 k
 h2:h.IsListIter i2 l2 k
 Uj:h.IsList l1 vs.toArray
 HA:h.IsList l2 us.toArray
end
section
variable {Ψ:pD} {z TI TO i1 i2 l1 l2:XO} {us:List WJ}
theorem IsListIter.keep {i l:XO}(x:h.IsListIter i l k)(hk:∀o,h.get? i=XU o->h'.get? i=XU o):h'.IsListIter i l k:=by refine aE x fun o ho r=>?_;exact⟨o,hk o ho,r⟩
theorem IsList.keep {a:Array WJ}(x:h.IsList l a)(hk:∀o,h.get? l=XU o->h'.get? l=XU o):h'.IsList l a:=by refine aE x fun o ho r=>?_;exact⟨o,hk o ho,r⟩
theorem MR.keep (x:MR h z TI TO i1 i2 l1 l2 k vs us)(hk:∀a o,ZP z TO i1 i2 a\/a=TI\/a=l1\/a=l2->h.get? a=XU o->h'.get? a=XU o):MR h' z TI TO i1 i2 l1 l2 k vs us:=⟨hk _ _ (.inl (.inl rfl)) x.hz,hk _ _ (.inr (.inl rfl)) x.Uq,let⟨a,b,q⟩:=x.Mz;⟨a,b,hk _ _ (.inl (.inr (.inl rfl))) q⟩,IsListIter.keep x.h1 fun o=>hk _ o (.inl (.inr (.inr (.inl rfl)))),IsListIter.keep x.h2 fun o=>hk _ o (.inl (.inr (.inr (.inr rfl)))),IsList.keep x.Uj fun o=>hk _ o (.inr (.inr (.inl rfl))),IsList.keep x.HA fun o=>hk _ o (.inr (.inr (.inr rfl)))⟩
theorem L4 {ws:Array WJ}(hd:o.data=.fields ws)(h1:∀x t,ws[1]?≠XU (.str x t)):(∀es n,o.data≠.dict es n)/\(∀c,o.data≠.cell c)/\∀vs x t,o.data=.fields vs->vs[1]?≠XU (.str x t):=⟨(fun es n q=>nomatch hd.symm.trans q),(fun c q=>nomatch hd.symm.trans q),fun vs x t q=>Data.fields.inj (hd.symm.trans q)▸h1 x t⟩
theorem MR.odd (x:MR h z TI TO i1 i2 l1 l2 k vs us):∀a o,ZP z TO i1 i2 a->h.get? a=XU o->(∀es n,o.data≠.dict es n)/\(∀c,o.data≠.cell c)/\∀vs x t,o.data=.fields vs->vs[1]?≠XU (.str x t):=by
 have it:∀{i l:XO}{o:Obj},h.IsListIter i l k->h.get? i=XU o->(∀es n,o.data≠.dict es n)/\(∀c,o.data≠.cell c)/\∀vs x t,o.data=.fields vs->vs[1]?≠XU (.str x t):=by intro i l o y e;refine aE y fun o' ho y=>?_;obtain rfl:=XT (ho.symm.trans e);exact L4 y.2 fun x t q=>by rcases q with⟨⟩
 intro a o p e;rcases p with p|p|p|p
 ·subst p;obtain rfl:=XT (x.hz.symm.trans e);exact L4 rfl fun x t q=>by rcases q with⟨⟩
 ·subst p;refine gY x.Mz fun u v q=>?_;obtain rfl:=XT (q.symm.trans e);exact⟨Bj rfl,Bl rfl,fun vs x t q=>nomatch q⟩
 ·subst p;exact it x.h1 e
 ·subst p;exact it x.h2 e
set_option tactic.hygienic true in
theorem Au (hA:dy C n A)(e:bh ag sc)(D:ZipApart z TI TO i1 i2 l1 l2)(Ur:∀a,ZP z TO i1 i2 a->s₀.heap.get? a=XW)(HM:∀a,ZP z TO i1 i2 a->C.h₀.get? a=XW/\¬C.T a/\¬C.fr a) (hPd:∀a,ZP z TO i1 i2 a->¬ai a) (hT:∀a,C.T a->ai a) (hF:∀a,C.fr a->ai a\/FW ag sc a) (gz:xX C Φ Ψ (fun a=>ai a\/ZP z TO i1 i2 a) ag sc A body) {R:WZ->WV->Prop}:∀(ds es:List Dat)(k:Nat)(ae:az)(W:XO->Prop)(ad:WS->XO)(s:WV)(fl:Fl),MR s.heap z TI TO i1 i2 l1 l2 k vs us->aK s.heap (fun a=>(ai a\/ZP z TO i1 i2 a)\/W a) (vs.drop k) ds->aK s.heap (fun a=>(ai a\/ZP z TO i1 i2 a)\/W a) (us.drop k) es->(∀a,a=TI\/a=l1\/a=l2->¬C.T a/\¬C.fr a/\¬W a/\∃o,s.heap.get? a=XU o)->SS C (fun a=>ai a\/ZP z TO i1 i2 a) ag sc ae W ad s->dY ae->Mv C W₀ s₀ W s->cP (fun d vs=>match bJ sc (.Tuple elts ek ep) d vs with
      |none=>XW|some vs=>cz Φ Ψ sc body vs) (List.zipWith (fun x y=>.tuple [x,y]) ds es) ae=XU fl->(∀f s',tM C ai ag sc W₀ s₀ fl f s'->R (.ok f) s')->
   cy (Wu pw Wd) A (.forLoop (.Tuple elts ek ep) (.ref z) body [] ag) R s:=by
 revert s₀ W₀ n Φ vs Ψ l1 l2 us body hA e D Ur HM hPd hT hF gz R
 refine no_implicit_lambda% (mX (bL (bL (bL (bL pR ya) VV) VV) VV) ?_ A C z TO i1 i2 ai ag elts ek ep sc TI)
 generalize gB _ _=tt
 dsimp only[As]
 generalize tt.1.1.1.1=A,tt.1.1.1.2=C,tt.1.1.2.1=z,tt.1.1.2.2=TO,tt.1.2.1.1=i1,tt.1.2.1.2=i2,tt.1.2.2=ai,tt.2.1.1.1=ag,tt.2.1.1.2=elts,tt.2.1.2=ek,tt.2.2.1.1=ep,tt.2.2.1.2=sc,tt.2.2.2=TI
 intro s₀ W₀ n Φ vs Ψ l1 l2 us body hA e D Ur HM hPd hT hF gz R
 have fin:∀(k:Nat)(ae:az)(W:XO->Prop)(ad:WS->XO)(s:WV)(fl:Fl),MR s.heap z TI TO i1 i2 l1 l2 k vs us->(vs.toArray[k]?=XW\/us.toArray[k]?=XW)->SS C (fun a=>ai a\/ZP z TO i1 i2 a) ag sc ae W ad s->dY ae->Mv C W₀ s₀ W s->XU (Fl.next ae)=XU fl->(∀f s',tM C ai ag sc W₀ s₀ fl f s'->R (.ok f) s')->cy (Wu pw Wd) A (.forLoop (.Tuple elts ek ep) (.ref z) body [] ag) R s:=by
  intro k ae W ad s fl x Zao S hO m h hR
  refine gY x.Mz fun a b Mz=>?_
  refine bj ?_ rfl
  show aV _ A ((forTurn (.Tuple elts ek ep) (.ref z) body [] ag).onRaise (fun x=>do noteFrame x ag;theTreesLotGoes x)) _ _ s
  refine eC ?_
  unfold forTurn
  refine ab (aw (ab (cA (ao <|wpAny_pyNext_zip_end hA.handled D x.hz x.Uq Mz x.h1 x.h2 x.Uj x.HA Zao fun h' hk=>?_))))
  have T:Turn C (ZP z TO i1 i2) s h':=⟨fun b o p q=>hk b o (fun w=>p (.inl w)) (fun w=>p (.inr (.inl w))) (fun w=>p (.inr (.inr (.inl w)))) (fun w=>p (.inr (.inr (.inr w)))) q,x.odd,HM⟩
  have S':SS C ai ag sc ae W ad {s with heap:=h',toks:=s.toks}:=S.AB T (fun j=>.inr) (fun j=>.inl) (fun a q p=>absurd q (hPd a p)) hT hF
  have m':Mv C W₀ s₀ W {s with heap:=h',toks:=s.toks}:=m.turn T Ur
  refine aj ⟨rfl,?_⟩
  refine bj ?_ rfl
  show aV _ A ((do return .done (<-(execs [] ag).onRaise (fun x=>do noteFrame x ag;theTreesLotGoes x))):WX Xr) _ _ _
  refine ab (cA (aj (aj ?_)))
  obtain rfl:=XT h
  exact hR .next {s with heap:=h'} ⟨rfl,W,ad,m',S',hO⟩
 intro ds
 induction ds with
 |nil=>intro es k ae W ad s fl x r1 r2 hI S hO m h hR;have hl:=r1.length;refine fin k ae W ad s fl x (.inl ?_) S hO m h hR;rw[Y7,YZ]at hl;simp;exact aT 0x101810c22 rfl hl
 |cons d ds ih=>
  intro es k ae W ad s fl x r1 r2 hI S hO m h hR;rcases es with⟨⟩;case nil=>have hl:=r2.length;refine fin k ae W ad s fl x (.inr ?_) S hO m h hR;rw[Y7,YZ]at hl;simp;exact aT 0x101810c22 rfl hl
  case cons d' es=>
   obtain⟨v,mj,ev,q1,U9⟩:∃v mj,vs.drop k=v::mj/\Rep s.heap (fun a=>(ai a\/ZP z TO i1 i2 a)\/W a) v d/\aK s.heap (fun a=>(ai a\/ZP z TO i1 i2 a)\/W a) mj ds:=by generalize vs.drop k=l at r1;rcases r1 with⟨⟩;case cons r rs=>exact⟨_,_,rfl,r,rs⟩
   obtain⟨u,us',eu,q2,U8⟩:∃v mj,us.drop k=v::mj/\Rep s.heap (fun a=>(ai a\/ZP z TO i1 i2 a)\/W a) v d'/\aK s.heap (fun a=>(ai a\/ZP z TO i1 i2 a)\/W a) mj es:=by generalize us.drop k=l at r2;rcases r2 with⟨⟩;case cons r rs=>exact⟨_,_,rfl,r,rs⟩
   have at_:∀{l l':List WJ}{a:WJ},l.drop k=a::l'->l.toArray[k]?=XU a/\l.drop (k+1)=l':=fun{l l' a}q=>⟨by have:=V4 (·[0]?) q;simpa using this,by rw[<-ZC,q];rfl⟩;refine gY x.Mz fun a b Mz=>?_;refine bj ?_ rfl;show aV _ A ((forTurn (.Tuple elts ek ep) (.ref z) body [] ag).onRaise (fun x=>do noteFrame x ag;theTreesLotGoes x)) _ _ s;refine eC ?_;unfold forTurn;refine ab (aw (ab (cA (ao <|wpAny_pyNext_zip_item D x.hz x.Uq Mz x.h1 x.h2 x.Uj x.HA (at_ ev).1 (at_ eu).1 fun h1 z1 t1 j1 j2 pr sz1 hk1=>?_))));refine ab (ao <|wpAny_letOwnedTupleGo_zip z1 fun h2 z2 C8=>?_);have up:∀b o,¬ZP z TO i1 i2 b->s.heap.get? b=XU o->h2.get? b=XU o:=fun b o p q=>(C8.2 b fun w=>p (.inl w)).trans (hk1 b o (fun w=>p (.inl w)) (fun w=>p (.inr (.inl w))) (fun w=>p (.inr (.inr (.inl w)))) (fun w=>p (.inr (.inr (.inr w)))) q);have T:Turn C (ZP z TO i1 i2) s h2:=⟨up,x.odd,HM⟩;have t2:IsPair h2 TO v u:=(C8.2 _ D.TOz).trans t1;have k1:h2.IsListIter i1 l1 (k+1):=IsListIter.keep j1 fun o q=>(C8.2 _ D.i1z).trans q;have k2:h2.IsListIter i2 l2 (k+1):=IsListIter.keep j2 fun o q=>(C8.2 _ D.i2z).trans q;have S2:SS C (fun a=>ai a\/ZP z TO i1 i2 a) ag sc ae W ad {s with heap:=h2,toks:=s.toks}:=S.turn T (fun j=>.inr) fun c p=>by
    rcases p with p|p|p|p
    ·exact p▸⟨_,z2⟩
    ·exact p▸⟨_,t2⟩
    ·exact aE k1 fun o q y=>p▸⟨o,q⟩
    ·exact aE k2 fun o q y=>p▸⟨o,q⟩
   have m2:Mv C W₀ s₀ W {s with heap:=h2,toks:=s.toks}:=m.turn T Ur;have nP:∀c,c=TI\/c=l1\/c=l2->¬ZP z TO i1 i2 c:=fun c hc p=>by
    refine XR hc (fun y7=>?_) fun z0=>?_
    ·obtain rfl:=y7;rcases p with p|p|p|p
     ·exact D.TIz p
     ·exact D.TITO p
     ·exact D.TIi1 p
     ·exact D.TIi2 p
    refine XR z0 (fun y8=>?_) fun y9=>?_
    ·obtain rfl:=y8;rcases p with p|p|p|p
     ·exact D.l1z p
     ·exact D.l1TO p
     ·exact D.l1i1 p
     ·exact D.l1i2 p
    ·obtain rfl:=y9;rcases p with p|p|p|p
     ·exact D.l2z p
     ·exact D.l2TO p
     ·exact D.l2i1 p
     ·exact D.l2i2 p
   have x2:MR h2 z TI TO i1 i2 l1 l2 (k+1) vs us:=⟨z2,up _ _ (nP _ (.inl rfl)) x.Uq,⟨v,u,t2⟩,k1,k2,IsList.keep x.Uj fun o=>up _ o (nP _ (.inr (.inl rfl))),IsList.keep x.HA fun o=>up _ o (nP _ (.inr (.inr rfl)))⟩;have kr:∀b o,s.heap.get? b=XU o->¬((ai b\/ZP z TO i1 i2 b)\/W b)->h2.get? b=XU o/\¬((ai b\/ZP z TO i1 i2 b)\/W b):=fun b o q nn=>⟨up b o (fun p=>nn (.inl (.inr p))) q,nn⟩;have hTn:s.heap.get? s.heap.objs.size=XW:=aF _;have nv:¬((ai s.heap.objs.size\/ZP z TO i1 i2 s.heap.objs.size)\/W s.heap.objs.size):=S.bV.vo.new hTn;have pr2:IsPair h2 s.heap.objs.size v u:=(C8.2 _ fun w=>nv (.inl (.inr (.inl w)))).trans pr;have r:Rep h2 (fun a=>(ai a\/ZP z TO i1 i2 a)\/W a) (.ref s.heap.objs.size) (.tuple [d,d']):=.tuple (vs:=[v,u]) nv pr2 rfl rfl (.cons (q1.mono kr) (.cons (q2.mono kr) .nil));have h':((match bJ sc (.Tuple elts ek ep) (.tuple [d,d']) ae with
      |none=>XW|some vs=>cz Φ Ψ sc body vs).bind (iN (cP (fun d vs=>match bJ sc (.Tuple elts ek ep) d vs with|none=>XW|some vs=>cz Φ Ψ sc body vs) (List.zipWith (fun x y=>.tuple [x,y]) ds es))))=XU fl:=h
   clear h;cases hb:bJ sc (.Tuple elts ek ep) (.tuple [d,d']) ae with
   |none=>rw[hb]at h';exact aa h'
   |some cC=>
    rw[hb]at h';refine au (x:=cz Φ Ψ sc body cC) h' fun ME hx h=>?_;clear h';refine ab (mn (s:={s with heap:=h2,toks:=s.toks}) hA.handled e S2 hO hb r fun s2 m3 S3 Ot=>?_);refine ab (gz S3 Ot hx _ _ fun f s3 hf=>?_);have next:∀m8,Goes C (fun a=>ai a\/ZP z TO i1 i2 a) ag sc W s2 m8 s3->cP (fun d vs=>match bJ sc (.Tuple elts ek ep) d vs with
      |none=>XW|some vs=>cz Φ Ψ sc body vs) (List.zipWith (fun x y=>.tuple [x,y]) ds es) m8=XU fl->cy (Wu pw Wd) A (.forLoop (.Tuple elts ek ep) (.ref z) body [] ag) R s3:=by
     intro m8 ⟨W3,Pd,m4,S4,hO4⟩ h3;have mm:Mv C W {s with heap:=h2,toks:=s.toks} W3 s3:=m3.trans m4;have nw3:∀{b:XO}{o:Obj},h2.get? b=XU o->¬W b->¬W3 b:=fun{b o}q w w3=>(mm.ww b w3).elim w fun w=>by have w1:h2.get? b=XW:=w.1;rw[q]at w1;rcases w1 with⟨⟩
     have hI2:∀c o,ZP z TO i1 i2 c\/c=TI\/c=l1\/c=l2->h2.get? c=XU o->s3.heap.get? c=XU o:=fun c o hc q=>by
      refine XR hc (fun p=>?_) fun hc=>?_
      ·exact mm.keep c o q (HM c p).2.1 (HM c p).2.2 fun w=>S.n8 c w (.inr p)
      ·exact mm.keep c o q (hI c hc).1 (hI c hc).2.1 (hI c hc).2.2.1
     have ks:∀b o,h2.get? b=XU o->¬((ai b\/ZP z TO i1 i2 b)\/W b)->s3.heap.get? b=XU o/\¬((ai b\/ZP z TO i1 i2 b)\/W3 b):=fun b o q nn=>⟨mm.keep b o q (fun w=>nn (.inl (S.tabs b w))) (fun w=>nn ((S.fZ b w).imp id (S.fw b))) fun w=>nn (.inr w),fun w=>w.elim (fun w=>nn (.inl w)) (nw3 q fun w=>nn (.inr w))⟩;refine ih es (k+1) m8 W3 Pd s3 fl (x2.keep hI2) ((at_ ev).2▸(U9.mono kr).mono ks) ((at_ eu).2▸(U8.mono kr).mono ks) (fun c hc=>?_) S4 hO4 (m2.trans mm) h3 hR;obtain⟨y1,y2,y3,o,y4⟩:=hI c hc;have y5:=up c o (nP c hc) y4;exact⟨y1,y2,nw3 y5 y3,o,hI2 c o (.inr hc) y5⟩
    refine xi (m2.trans m3) hf h (fun v q hg h3=>?_) fun g hg q=>?_
    ·refine XR q (fun y0=>?_) fun y6=>?_
     ·obtain rfl:=y0;exact aj ⟨rfl,next v hg h3⟩
     ·obtain rfl:=y6;exact aj ⟨rfl,next v hg h3⟩
    ·refine XR q (fun y0=>?_) fun y6=>?_
     ·refine aZ y0 ?_;clear y0;rintro(rfl) (rfl);exact aj (hR _ s3 (hg.vh hT hF))
     ·refine aE y6 ?_;clear y6;rintro v (rfl) (rfl);exact aj (hR _ s3 (hg.vh hT hF))
end
section
variable {Ψ:pD}
theorem Eu (h:isTup t=true):∃es k p,t=.Tuple es k p:=by rcases t with⟨⟩<;>first|exact⟨_,_,_,rfl⟩|exact absurd h ZX
theorem Fw {x y:Dat}(h:Fx x y=XU zs):∃xs ys,x=.list xs/\y=.list ys/\zs=List.zipWith (fun x y=>.tuple [x,y]) xs ys:=by rcases x with⟨⟩<;>first|exact aa h|(rcases y with⟨⟩<;>first|exact aa h|exact⟨_,_,rfl,rfl,(XT h).symm⟩)
set_option tactic.hygienic true in
theorem PI (hC:C.Plain)(hO:cI C n)(hF:b9 C Φ n)(hA:dy C n A):vL C Φ Ψ A:=by
 intro ai ag sc t it body pos z zs x y ae W ad s fl e S hD hz ht h1 h2 h3 hb h E Q hQ;refine iM (Eu ht) ?_;rintro es ek ep (rfl);refine eH (Fw h3) ?_;rintro xs ys (rfl) (rfl) (rfl);obtain⟨⟨f,a,b⟩,hz1,hz2⟩:∃q,lF it=XU q/\(if q.1="zip"/\(Φ.tC q.1).isSome=true/\ae.lookup q.1=XW/\sc.names.lookup q.1=XU .globalImplicit then XU q.2 else XW)=XU z:=by unfold kc at hz;cases hq:lF it with|none=>rw[hq]at hz;exact aa hz|some q=>rw[hq]at hz;exact⟨q,rfl,hz⟩
 refine aQ hz2 fun hc hz3=>?_;obtain rfl:=XT hz3;refine lH hc fun hf u u hg=>?_;subst hf;refine gY (z3 hz1) ?_;rintro fp p (rfl);dsimp only;have hev:Dk Φ sc [a,b] ae=XU [.list xs,.list ys]:=by show((ev Φ sc a ae).bind fun d=>((ev Φ sc b ae).bind fun d=>(XU []).map fun ds=>d::ds).map fun ds=>d::ds)=_;rw[h1,h2];rfl
 rw[exec_For];refine ab (aw (ab ?_));have iF:=ip (pos:=p) (iT (ag:=ag) hev);refine ab (fh hC.ok e S.bV.bs hg (by decide) (hC.none "zip" (by decide)) (hC.b boot_zip (by decide)) (b6 (fun u q=>nomatch q) iF (cf iF (ie e (fun y u=>cW hC.ok hO hF hA y) S.bV hev) _ _ fun q s1 x1 r1=>?_)));obtain⟨ps,kw⟩:=q;refine aZ r1 ?_;clear r1;rintro(rfl) r1;have S1:=S.ex x1;obtain⟨v1,v2,rfl,q1,q2⟩:∃v1 v2,ps=[v1,v2]/\Rep s1.heap (fun a=>ai a\/W a) v1 (.list xs)/\Rep s1.heap (fun a=>ai a\/W a) v2 (.list ys):=by rcases r1 with⟨⟩;case cons r rs=>rcases rs with⟨⟩;case cons r' rs=>rcases rs with⟨⟩;case nil=>exact⟨_,_,rfl,r,r'⟩
 refine cQ q1.lZ ?_;rintro l1 o1 vs c1 (rfl) n1 e1 y0;refine lH y0 fun k1 u d1 U9=>?_;refine cQ q2.lZ ?_;rintro l2 o2 us c2 (rfl) n2 e2 y0;refine lH y0 fun k2 u d2 U8=>?_;refine ao <|call_zip_2 ⟨o1,e1,k1,c1,d1⟩ ⟨o2,e2,k2,c2,d2⟩ fun h' z1 t1 t2 j1 j2 sz hk=>?_;have fr:∀k,s1.heap.get? (s1.heap.objs.size+k)=XW:=fun k=>Xp.get?_none_of_le (Nat.le_add_right _ k);have PD:∀c,ZP (s1.heap.objs.size+4) (s1.heap.objs.size+3) s1.heap.objs.size (s1.heap.objs.size+1) c->s1.heap.get? c=XW:=fun c q=>by
  rcases q with q|q|q|q
  ·exact q▸fr 4
  ·exact q▸fr 3
  ·exact q▸fr 0
  ·exact q▸fr 1
 have x2:Ex C s1 {s1 with heap:=h'}:=.of_keep hk rfl rfl;have S2:=S1.more x2 PD fun c q=>by
  rcases q with q|q|q|q
  ·exact q▸⟨_,z1⟩
  ·exact q▸⟨_,t2⟩
  ·exact let⟨o,e,_⟩:=j1;q▸⟨o,e⟩
  ·exact let⟨o,e,_⟩:=j2;q▸⟨o,e⟩
 have nv:∀{c:XO},s1.heap.get? c=XW->¬(ai c\/W c):=fun q=>S1.bV.vo.new q;have nT:∀{c:XO},s1.heap.get? c=XW->¬C.T c/\¬C.fr c:=fun q=>⟨fun w=>nv q (.inl (S.tabs _ w)),fun w=>nv q ((S.fZ _ w).imp id (S.fw _))⟩;have n0:∀{c:XO},s1.heap.get? c=XW->C.h₀.get? c=XW:=fun{c}q=>by cases w:C.h₀.get? c with|none=>rfl|some o=>have:=S1.bV.bs.keep c o w (nT q).1;rw[q]at this;exact aa this
 have kr:∀b o,s1.heap.get? b=XU o->¬(ai b\/W b)->h'.get? b=XU o/\¬((ai b\/ZP (s1.heap.objs.size+4) (s1.heap.objs.size+3) s1.heap.objs.size (s1.heap.objs.size+1) b)\/W b):=fun b o q nn=>⟨hk b o q,fun w=>w.elim (fun w=>w.elim (fun w=>nn (.inl w)) fun w=>by rw[PD b w]at q;exact aa q) fun w=>nn (.inr w)⟩;rw[gA (by rintro es k p ⟨⟩)];refine ab (aj (ab (aw (ab (aA ?_)))));refine ao <|wpAny_pyIter_zip z1 ?_;refine fT ?_ T4;refine Au (s₀:=s1) (W₀:=W) (vs:=vs) (us:=us) hA e (zipApart_new (Xh e1) (Xh e2)) PD (fun c q=>⟨n0 (PD c q),nT (PD c q)⟩) (fun c q w=>nv (PD c q) (.inl w)) S.tabs S.fZ (hb _) xs ys 0 ae W ad {s1 with heap:=h'} fl ⟨z1,t1,⟨_,_,t2⟩,j1,j2,⟨o1,hk _ _ e1,k1,c1,d1⟩,⟨o2,hk _ _ e2,k2,c2,d2⟩⟩ (U9.mono kr) (U8.mono kr) (fun c hc=>?_) S2 hD (.jZ x2) h fun f s3 hf=>hQ f s3 (hf.trans (.jZ x1));refine XR hc (fun y1=>?_) fun y4=>?_
 ·obtain rfl:=y1;exact⟨(nT (fr 2)).1,(nT (fr 2)).2,fun w=>nv (fr 2) (.inr w),_,t1⟩
 refine XR y4 (fun y2=>?_) fun y3=>?_
 ·obtain rfl:=y2;exact⟨fun w=>n1 (.inl (S.tabs _ w)),fun w=>n1 ((S.fZ _ w).imp id (S.fw _)),fun w=>n1 (.inr w),o1,hk _ _ e1⟩
 ·obtain rfl:=y3;exact⟨fun w=>n2 (.inl (S.tabs _ w)),fun w=>n2 ((S.fZ _ w).imp id (S.fw _)),fun w=>n2 (.inr w),o2,hk _ _ e2⟩
noncomputable def fN.zip (Φ:fN):fN:={Φ with tC:=fun f=>if f="zip" then XU (fun x=>XW)else Φ.tC f}
theorem b9.zip (hC:C.Plain)(h:b9 C Φ n):b9 C Φ.zip n where
 fn:=h.fn;tC e:=jO ⟨.type "zip",hC.none "zip" (by decide),hC.b boot_zip (by decide),by decide,nofun,fun x x x x h=>aa h⟩ h.tC e;glob:=h.glob;oR:=h.oR
theorem Sy (hC:C.Plain)(hF:∀fr,b9 (C.at fr) Φ n)(hD:dv C f params body scope cd)(Jc:(f==("__debug__":WS))=false) (hP:∀fr,dP (C.at fr) n (lg (C.at fr) cd f) Ψ) (C7:j9 scope) (hx:xs.Nodup) (hk:∀x∈xs,(scope.names.lookup x=XU .local\/scope.names.lookup x=XU .cell)/\(x==("__debug__":WS))=false/\(x==("__classdict__":WS))=false) (nN:∀vs pm doc,xs.length=vs.length->bindArgs (Xy f params body scope pm cd doc) ⟨vs,[]⟩=pure (xs.zip vs)) (hg:∀ds d,g ds=XU d->xs.length=ds.length/\cz Φ Ψ scope body (bI xs ds)=XU (.ret d)):mT C (n+1) f g:=by
 refine cQ hD fun a o pm doc h1 h2 h3 y0=>?_;refine aZ y0 fun h4 h5=>?_
 refine⟨a,o,_,h1,Jc,hC.ok.dF h2 h3,h2,h4,fun{A s ak vs ds d}hA bs V rs h=>?_⟩
 refine aZ (hg ds d h) fun hl he=>?_
 exact Dp hC.ok (fun fr=>uT) hF (fun fr=>F5 (hC.at fr)) (fun{fr A}w9=>PI (hC.at fr) uT (hF fr) w9) (fun w9 hK=>hP _ w9 hK) (hC.ok.dF h2 h3) h2 h4 h5 C7 hx hk hl (nN vs pm doc (hl.trans rs.length.symm)) hA bs V rs he
end
namespace L1
section
open PySem.NumText Mine.Internal.Co
variable {bb:XO} {W:az} {Ψ:pD} {aR ms:List Dat} {t o b:List UInt8} {g:List Nat} {k m f z i j:Int} {low:Bool} {jb js:Option Dat}
def jR:fN:=iw.zip
def tD:List WT:=fj pw 15
def bk:WY:=dN pw 15
abbrev jP (i:Nat):WT:=aB tD i
abbrev uw (i:Nat):WT:=aB (bg (jP 3)) i
abbrev TH:WT:=aB (bN (uw 2)) 0
noncomputable def T5:Option (Int×Int)->az
 |none=>[]
 |some p=>[(("last":WS),.val (.int p.2)),(("first":WS),.val (.int p.1))]
def qF (low:Bool)(t:List UInt8)(ds ms:List Dat)(o:List UInt8)(jb js:Option Dat):az:=jv "block" jb++(jv "size" js++[(("out":WS),.val (.bytes o)),(("marks":WS),.val (.list ms)),(("low":WS),.val (.bool low)),(("tape":WS),.val (.bytes t)),(("told":WS),.val (.list ds))])
def list1 (x:Option Dat):Option Dat:=(x.bind fun d=>XU [d]).bind xF
theorem ZaW:ex jR Ψ bk (jP 0) V=fk bk "low" (ev jR bk (aJ (jP 0)) V) (ev jR bk (aJ (jP 0)) (aS V)) V:=by rfl
theorem TG:ev jR bk (aJ (jP 0)) (OL t ds)=qB .LtE (bQ (XU (.list ds)) (XU (.int 0))) (bQ (XU (.list ds)) (XU (.int (-1)))):=by rfl
theorem ZaV:ex jR Ψ bk (jP 1) V=fk bk "marks" (ev jR bk (aJ (jP 1)) V) (ev jR bk (aJ (jP 1)) (aS V)) V:=by rfl
theorem TC:ev jR bk (aJ (jP 1)) ((("low":WS),.val (.bool low))::OL t ds)=bD .Add (eP (cq eg (bD .Sub (cq iu (XU (.list ds))) (XU (.int 1)))) fun d=>DL (gI .Eq (qB .LtE (bQ (XU (.list ds)) (XU d)) (bQ (XU (.list ds)) (XU (.int (-1))))) (XU (.bool low))) (hH (XU d))) (list1 (bD .Sub (cq iu (XU (.list ds))) (XU (.int 1)))):=by rfl
theorem ZaU:ex jR Ψ bk (jP 2) V=XU (.next ((("out":WS),.val (.bytes []))::V)):=by rfl
theorem ZaT:ex jR Ψ bk (.For (bR (jP 3)) (bO (jP 3)) (bg (jP 3)) [] (dO (jP 3))) (qF low t ds ms o XW XW)=(bB (XU (.list ms)) (eI (XU (.int 1))) (XU XW) (XU XW)).bind fun y=>(Fx (.list ms) y).bind fun zs=>cP (jC jR Ψ bk (bR (jP 3)) (bg (jP 3))) zs (qF low t ds ms o XW XW):=by rfl
theorem TA:bJ bk (bR (jP 3)) (.tuple [.int i,.int j]) V=XU ((("last":WS),.val (.int j))::(("first":WS),.val (.int i))::V):=by rfl
theorem TB:bg (jP 3)=[uw 0,uw 1,.If (aN (uw 2)) [TH] [] (gy (uw 2)),uw 3]:=by rfl
theorem Tw:ex jR Ψ bk (uw 0) V=fk bk "size" (ev jR bk (aJ (uw 0)) V) (ev jR bk (aJ (uw 0)) (aS V)) V:=by rfl
theorem Tv:ex jR Ψ bk (uw 1) V=fk bk "block" (ev jR bk (aJ (uw 1)) V) (ev jR bk (aJ (uw 1)) (aS V)) V:=by rfl
theorem ZaS:ex jR Ψ bk TH V=fk bk "out" (ev jR bk (aJ TH) V) (ev jR bk (aJ TH) (aS V)) V:=by rfl
theorem MO:ex jR Ψ bk (uw 3) V=fk bk "out" (ev jR bk (aJ (uw 3)) V) (ev jR bk (aJ (uw 3)) (aS V)) V:=by rfl
noncomputable def E6 (i j:Int)(W:az):az:=(("last":WS),.val (.int j))::(("first":WS),.val (.int i))::W
noncomputable def O9 (i j z:Int)(W:az):az:=(("size":WS),.val (.int z))::E6 i j W
noncomputable def uv (i j z:Int)(b:List UInt8)(W:az):az:=(("block":WS),.val (.bytes b))::O9 i j z W
theorem O8:ev jR bk (aJ (uw 0)) (E6 i j (qF low t ds ms o jb js))=bD .Mult (XU (.int 7)) (bD .Sub (XU (.int j)) (XU (.int i))):=by rcases jb with⟨⟩<;>rcases js with⟨⟩<;>rfl
theorem O7:ev jR bk (aJ (uw 1)) (O9 i j z (qF low t ds ms o jb js))=cK tw (cK tw (bB (XU (.bytes t)) (eI (bD .Mult (XU (.int 7)) (XU (.int i)))) (eI (bD .Mult (XU (.int 7)) (XU (.int j)))) (XU XW)) (XU (.int 7))) (XU (.int z)):=by rcases jb with⟨⟩<;>rcases js with⟨⟩<;>rfl
theorem Tu:dQ jR bk (aN (uw 2)) (uv i j z b (qF low t ds ms o jb js)) (ev jR bk (aN (uw 2)) (uv i j z b (qF low t ds ms o jb js)))=gI .Gt (XU (.int z)) (XU (.int 7)):=by rcases jb with⟨⟩<;>rcases js with⟨⟩<;>rfl
theorem Tt:ev jR bk (aJ TH) (uv i j z b (qF low t ds ms o jb js))=bD .Add (XU (.bytes o)) (cK tw (cK tw (bB (XU (.bytes b)) (XU XW) (eI (XU (.int (-7)))) (XU XW)) (XU (.int 7))) (bD .Sub (XU (.int z)) (XU (.int 7)))):=by rcases jb with⟨⟩<;>rcases js with⟨⟩<;>rfl
theorem O6:ev jR bk (aJ (uw 3)) (uv i j z b (qF low t ds ms o jb js))=bD .Add (XU (.bytes o)) (bB (XU (.bytes b)) (eI (XU (.int (-7)))) (XU XW) (XU XW)):=by rcases jb with⟨⟩<;>rcases js with⟨⟩<;>rfl
theorem O5:ev jR bk (aJ (uw 3)) ((("out":WS),.val (.bytes o'))::uv i j z b (qF low t ds ms o jb js))=bD .Add (XU (.bytes o')) (bB (XU (.bytes b)) (eI (XU (.int (-7)))) (XU XW) (XU XW)):=by rcases jb with⟨⟩<;>rcases js with⟨⟩<;>rfl
theorem Tz:ev jR bk (cu (jP 4)) (T5 q++qF low t ds ms o jb js)=bD .Add (XU (.bytes o)) (bB (XU (.bytes t)) (eI (XU (.int (-7)))) (XU XW) (XU XW)):=by rcases q with⟨⟩<;>rcases jb with⟨⟩<;>rcases js with⟨⟩<;>rfl
theorem LI:tD=[jP 0,jP 1,jP 2,.For (bR (jP 3)) (bO (jP 3)) (bg (jP 3)) [] (dO (jP 3)),.Return (XU (cu (jP 4))) (gD (jP 4))]:=by rfl
def Af:List Dat->Option Dat:=oN jR gC bk tD ["tape","told"]
end
section
open PySem.NumText Mine.Internal.Co
variable {l X L:List Nat} {x:Nat} {low:Bool} {jb js:Option Dat} {ms:List Dat}
noncomputable def cF (le:Nat->Bool)(low:Bool):Nat->List Nat->List Nat|_,[]=>[]|k,a::r=>if le a==low then k::cF le low (k+1) r else cF le low (k+1) r
theorem G6 {le:Nat->Bool}{low:Bool}{k a:Nat}{r:List Nat}:cF le low k (a::r)=if le a==low then k::cF le low (k+1) r else cF le low (k+1) r:=rfl
noncomputable def Dv (L:List Nat)(p:Nat×Nat):List Nat:=(L.drop (p.1+1)).take (p.2-(p.1+1))++[L.getD p.1 0]
noncomputable def Fh (ms:List Nat):List (Nat×Nat):=ms.zip ms.tail
theorem G7 {le:Nat->Bool}{low:Bool}:cF le low k []=[]:=rfl
theorem rY {le:Nat->Bool}{low:Bool}{a:Nat}{r:List Nat}:cF le low k (a::r)=if le a==low then k::cF le low (k+1) r else cF le low (k+1) r:=rfl
theorem z7 {le:Nat->Bool}{low:Bool}{f:Nat}{aR:List Nat}:Fo.bwd le low f aR []=aR.reverse++[f]:=rfl
theorem yO (a b:Nat)(r:List Nat):Fh (a::b::r)=(a,b)::Fh (b::r):=rfl
theorem mP:∀(r:List Nat)(k first f:Nat)(aR:List Nat),L.drop k=r->k<=L.length->L[first]?=XU f->first<k->aR=((L.drop (first+1)).take (k-(first+1))).reverse->(Fh (first::(cF le low k r++[L.length]))).flatMap (Dv L)=Fo.bwd le low f aR r
 |[],k,first,f,aR,h1,h2,h3,h4,h5=>by
  have hk:k=L.length:=by have:=V4 Za h1;simp at this;exact aT 0x102801c21013 rfl h2 this
  rw[G7,Yz,yO,z7,h5,Yq,hk];show Dv L (first,L.length)++[]=_;unfold Dv;rw[ZF,Zp,h3];rfl
 |a::r,k,first,f,aR,h1,h2,h3,h4,h5=>by
  have jw:k<L.length:=by have:=V4 Za h1;simp at this;exact br 0x1092b10c22 rfl this
  have BL:L[k]?=XU a:=by have:=V4 (·[0]?) h1;simpa using this
  have Oj:L.drop (k+1)=r:=by rw[<-ZC,h1];rfl
  rw[rY,Fo.vE];by_cases hc:(le a==low)=true
  ·rw[V7 hc,V7 hc,ZE,yO,Zt,mP r (k+1) k a [] Oj jw BL (Yb k) (by rw[X4];rfl),h5,Yq];unfold Dv;rw[Zp,h3,ZG];rfl
  ·rw[V6 hc,V6 hc];refine mP r (k+1) first f (a::aR) Oj jw h3 (Yc h4) ?_
   rw[rB (l:=L) (f:=first+1) (k:=k) h4 BL,Yt,h5];rfl
theorem rX {le:Nat->Bool}{low:Bool}:∀(r:List Nat)(k:Nat),L.drop k=r->((List.range' k r.length).flatMap fun j=>if le (L.getD j 0)==low then[Dat.int (j:Int)]else[])=aL (cF le low k r)
 |[],k,_=>rfl
 |a::r,k,h=>by
  have BL:L[k]?=XU a:=by have:=V4 (·[0]?) h;simpa using this
  have Oj:L.drop (k+1)=r:=by rw[<-ZC,h];rfl
  rw[Y8,List.range'_succ,Zt,rX r (k+1) Oj,rY,Zp,BL];show(if le a==low then[Dat.int (k:Int)]else[])++_=_;by_cases hc:(le a==low)=true
  ·rw[V7 hc,V7 hc];rfl
  ·rw[V6 hc,V6 hc];rfl
set_option tactic.hygienic true in
theorem ze {le:Nat->Bool}{low:Bool}:∀(r:List Nat)(k:Nat),(cF le low k r).length<=r.length/\∀p∈Fh (cF le low k r++[k+r.length]),k<=p.1/\p.1<p.2/\p.2<=k+r.length
 |[],k=>⟨Yh _,fun p hp=>nomatch hp⟩
 |a::r,k=>by
  have ih:=ze (le:=le) (low:=low) r (k+1);have e:k+1+r.length=k+(a::r).length:=by rw[Y8];exact aT 0x91b0b190bb21 rfl
  rw[e]at ih;rw[rY];by_cases hc:(le a==low)=true
  ·rw[V7 hc];refine⟨by rw[Y8,Y8];lia,fun p hp=>?_⟩;cases hm:cF le low (k+1) r with
   |nil=>
    rw[hm]at hp;have:p=(k,k+(a::r).length):=by simpa[Fh]using hp
    subst this;exact⟨Yh _,by rw[Y8];dsimp only;exact aT 0x91b0b001 rfl,Yh _⟩
   |cons b ms=>
    rw[hm]at hp ih;refine XR (YL.mp (show p∈(k,b)::Fh (b::(ms++[k+(a::r).length]))from hp)) (fun q=>?_) fun q=>?_
    ·subst q;rcases ms with⟨⟩;case nil=>have:=ih.2 (b,k+(a::r).length) (by simp[Fh]);exact⟨Yh _,by dsimp only at *;exact br 0x10020b20b120b104190b142 rfl this,by dsimp only at *;exact br 0x20b1120b20b120b104190b142 rfl this⟩
     case cons c ms=>have:=ih.2 (b,c) (by simp[Fh]);exact⟨Yh _,by dsimp only at *;exact cX 0x10030b212104190b142 rfl this,by dsimp only at *;exact cX 0x30b1130b212104190b142 rfl this⟩
    ·have:=ih.2 p q;exact⟨by exact cX 0x10130b212104190b142 rfl this,this.2.1,this.2.2⟩
  ·rw[V6 hc];exact⟨by rw[Y8];lia,fun p hp=>let q:=ih.2 p hp;⟨by exact cX 0x10130b212104190b142 rfl q,q.2⟩⟩
theorem E5 (hl:L.length<=6)(en:i<j)(hj:j<=L.length){o:List Nat}(ho:o.length<=6):∃W NQ NO,cz jR gC bk (bg (jP 3)) (E6 (i:Int) (j:Int) (qF low (aq L) ds ms (aq o) jb js))=XU (.next W)/\bT W (E6 (i:Int) (j:Int) (qF low (aq L) ds ms (aq (o++Dv L (i,j))) NQ NO)):=by
 revert jb hl en hj ho;refine no_implicit_lambda% (MY VV ?_ L i j o ds ms low js);generalize gB _ _=tt;dsimp only[K8];generalize tt.1.1.1=L,tt.1.1.2=i,tt.1.2.1=j,tt.1.2.2=o,tt.2.1.1=ds,tt.2.1.2=ms,tt.2.2.1=low,tt.2.2.2=js;intro jb hl en hj ho;generalize EB:(L.drop (i+1)).take (j-(i+1))=seg;have jw:i<L.length:=br 0x2002111003 rfl en hj;have hX:(L.drop i).take (j-i)=L.getD i 0::seg:=by rw[ZA jw,show j-i=j-(i+1)+1 by exact aT 0x990b1cb01c21002 rfl en,Yl,EB,Zp,Zk jw];rfl
 have mU:seg.length=j-(i+1):=by rw[<-EB,YV,Y7];exact br 0x92b0c92b1c92b0cdf21012 rfl hj
 have hb:Dv L (i,j)=seg++[L.getD i 0]:=by unfold Dv;rw[EB]
 rw[hb];generalize L.getD i 0=a at hX;have Oq:(a::seg).length=j-i:=by rw[Y8,mU];exact aT 0x1c990b1cb21002 rfl en
 have Pt:seg.reverse.length=seg.length:=YX ..;have v0:=O8 (i:=(i:Int)) (j:=(j:Int)) (low:=low) (t:=aq L) (ds:=ds) (ms:=ms) (o:=aq o) (jb:=jb) (js:=js);rw[aO,eU,aO,jl (by decide) (ct (by exact aT 0xaf1afc000f42408f9f81002 rfl en) (by exact br 0xf42408f2af1afc801106a013 rfl hl hj)),show(7:Int)*((j:Int)-(i:Int))=((7*(a::seg).length:Nat):Int) by rw[Oq];exact aT 0x1c07daf0af1afc07d91002 rfl en]at v0;have v1:=O7 (i:=(i:Int)) (j:=(j:Int)) (z:=((7*(a::seg).length:Nat):Int)) (low:=low) (t:=aq L) (ds:=ds) (ms:=ms) (o:=aq o) (jb:=jb) (js:=js);rw[aO,jl (by decide) (ct (by exact bq 0xaf000f42408f9f81 rfl) (by exact aT 0xf42408f1af801006a013 rfl hl jw)),aO,jl (by decide) (ct (by exact bq 0xaf000f42408f9f81 rfl) (by exact aT 0xf42408f1af801106a013 rfl hl hj)),cG,cG,show(7:Int)*(i:Int)=((7*i:Nat):Int) by exact bq 0x7daf0af07d91 rfl,show(7:Int)*(j:Int)=((7*j:Nat):Int) by exact bq 0x7daf0af07d91 rfl,q7 hl (Nat.le_of_lt en) hj,hX,CL (by exact cX 0x6a2131c2201106a014 rfl hl hj Oq) (by exact br 0x28001c221003 rfl en Oq),Ys]at v1;have e0:=Tw (Ψ:=gC) (V:=E6 (i:Int) (j:Int) (qF low (aq L) ds ms (aq o) jb js));rw[v0,bp]at e0;have e1:=Tv (Ψ:=gC) (V:=O9 (i:Int) (j:Int) ((7*(a::seg).length:Nat):Int) (qF low (aq L) ds ms (aq o) jb js));rw[v1,bp]at e1;have vt:=Tu (i:=(i:Int)) (j:=(j:Int)) (z:=((7*(a::seg).length:Nat):Int)) (b:=aq (seg.reverse++[a])) (low:=low) (t:=aq L) (ds:=ds) (ms:=ms) (o:=aq o) (jb:=jb) (js:=js);have UQ:gI .Gt (XU (.int ((7*(a::seg).length:Nat):Int))) (XU (.int 7))=XU (decide (0<seg.length)):=by rw[gV];show XU (decide ((7:Int)<((7*(a::seg).length:Nat):Int)))=_;refine V4 XU (decide_eq_decide.mpr ?_);rw[Y8];exact gt7
 rw[UQ]at vt;rw[TB];cases hz:decide (0<seg.length)with
 |false=>
  have Ml:seg=[]:=Y6.mp (by have:=of_decide_eq_false hz;exact bq 0x80208032 rfl this);have v3:=O6 (i:=(i:Int)) (j:=(j:Int)) (z:=((7*(a::seg).length:Nat):Int)) (b:=aq (seg.reverse++[a])) (low:=low) (t:=aq L) (ds:=ds) (ms:=ms) (o:=aq o) (jb:=jb) (js:=js);rw[cG,ng (by rw[Y9,YW,Pt];exact cX 0x6a92b193b1c2201106a014 rfl hl hj mU),fG (by rw[YW];exact bq 0x14a90b106a012 rfl ho)]at v3;have e3:=MO (Ψ:=gC) (V:=uv (i:Int) (j:Int) ((7*(a::seg).length:Nat):Int) (aq (seg.reverse++[a])) (qF low (aq L) ds ms (aq o) jb js));rw[v3,bp]at e3;refine⟨(("out":WS),.val (.bytes (aq (o++[a]))))::uv (i:Int) (j:Int) ((7*(a::seg).length:Nat):Int) (aq (seg.reverse++[a])) (qF low (aq L) ds ms (aq o) jb js),XU (.bytes (aq (seg.reverse++[a]))),XU (.int ((7*(a::seg).length:Nat):Int)),?_,?_⟩
  ·refine(ar (ax rfl e0)).trans ?_;refine(ar (ax rfl e1)).trans ?_;refine(ar (ax rfl ((fA (cH (vt.trans (V4 XU hz)))).trans bP))).trans ?_;refine(ar (ax rfl e3)).trans ?_;exact bP
  ·rw[Ml];rcases jb with⟨⟩<;>rcases js with⟨⟩<;>exact bT.el rfl
 |true=>
  have lJ:0<seg.length:=VW hz;have vj:=Tt (i:=(i:Int)) (j:=(j:Int)) (z:=((7*(a::seg).length:Nat):Int)) (b:=aq (seg.reverse++[a])) (low:=low) (t:=aq L) (ds:=ds) (ms:=ms) (o:=aq o) (jb:=jb) (js:=js);rw[cG,DT (by rw[Y9,YW,Pt];exact cX 0x6a92b193b1c2201106a014 rfl hl hj mU),aO,eU,show((7*(a::seg).length:Nat):Int)-7=((7*seg.reverse.length:Nat):Int) by rw[Pt,Y8];exact bq 0x7daf07a90b07dafc91 rfl,CL (by exact oC 0x6a4124293b1c2201106a015 rfl hl hj mU Pt) (by exact aT 0x801801023 rfl Pt lJ),Yq,fG (by exact oC 0x14a32b194b1c3206a2101106a015 rfl hl hj ho mU)]at vj;have ej:=ZaS (Ψ:=gC) (V:=uv (i:Int) (j:Int) ((7*(a::seg).length:Nat):Int) (aq (seg.reverse++[a])) (qF low (aq L) ds ms (aq o) jb js));rw[vj,bp]at ej;have v3:=O5 (o':=aq (o++seg)) (i:=(i:Int)) (j:=(j:Int)) (z:=((7*(a::seg).length:Nat):Int)) (b:=aq (seg.reverse++[a])) (low:=low) (t:=aq L) (ds:=ds) (ms:=ms) (o:=aq o) (jb:=jb) (js:=js);rw[cG,ng (by rw[Y9,YW,Pt];exact cX 0x6a92b193b1c2201106a014 rfl hl hj mU),fG (by rw[Y9,YW];exact oC 0x14a932bb194b1c3206a2101106a015 rfl hl hj ho mU)]at v3;have e3:=MO (Ψ:=gC) (V:=(("out":WS),.val (.bytes (aq (o++seg))))::uv (i:Int) (j:Int) ((7*(a::seg).length:Nat):Int) (aq (seg.reverse++[a])) (qF low (aq L) ds ms (aq o) jb js));rw[v3,bp]at e3;refine⟨(("out":WS),.val (.bytes (aq ((o++seg)++[a]))))::(("out":WS),.val (.bytes (aq (o++seg))))::uv (i:Int) (j:Int) ((7*(a::seg).length:Nat):Int) (aq (seg.reverse++[a])) (qF low (aq L) ds ms (aq o) jb js),XU (.bytes (aq (seg.reverse++[a]))),XU (.int ((7*(a::seg).length:Nat):Int)),?_,?_⟩
  ·refine(ar (ax rfl e0)).trans ?_;refine(ar (ax rfl e1)).trans ?_;refine(ar (ax rfl ((fA (cH (vt.trans (V4 XU hz)))).trans ((ar (ax rfl ej)).trans bP)))).trans ?_;refine(ar (ax rfl e3)).trans ?_;exact bP
  ·rw[ZG];rcases jb with⟨⟩<;>rcases js with⟨⟩<;>exact bT.el rfl
noncomputable def pairD (p:Nat×Nat):Dat:=.tuple [.int (p.1:Int),.int (p.2:Int)]
set_option tactic.hygienic true in
theorem vH (hl:L.length<=6):∀(ps:List (Nat×Nat))(o:List Nat)(V:az)(q:Option (Int×Int))(jb js:Option Dat),(∀p∈ps,p.1<p.2/\p.2<=L.length)->o.length+(ps.flatMap (Dv L)).length<=6->bT V (T5 q++qF low (aq L) ds ms (aq o) jb js)->∃V' q' NQ NO,cP (jC jR gC bk (bR (jP 3)) (bg (jP 3))) (ps.map pairD) V=XU (.next V')/\bT V' (T5 q'++qF low (aq L) ds ms (aq (o++ps.flatMap (Dv L))) NQ NO)
 |[],o,V,q,jb,js,_,_,hV=>⟨V,q,jb,js,rfl,by rw[List.flatMap_nil,ZF];exact hV⟩
 |(i,j)::ps,o,V,q,jb,js,hp,ho,hV=>by
  have en:=hp (i,j) YJ;rw[Zt,Y9]at ho;refine jX (E5 (low:=low) (ds:=ds) (ms:=ms) (jb:=jb) (js:=js) hl en.1 en.2 (br 0x6a0106a21b0b12 rfl ho)) fun W jb1 js1 h1 h2=>?_;have hLE:bT ((("last":WS),.val (.int (j:Int)))::(("first":WS),.val (.int (i:Int)))::V) (E6 (i:Int) (j:Int) (qF low (aq L) ds ms (aq o) jb js)):=by
   refine((hV.cons "first" (.val (.int (i:Int)))).cons "last" (.val (.int (j:Int)))).trans ?_;rcases q with⟨⟩;case none=>exact .refl _
   case some q=>rcases jb with⟨⟩<;>rcases js with⟨⟩<;>exact bT.el rfl
  refine aE (nX iY.none hLE h1) fun W' h3 h4=>?_;refine DE (vH hl ps (o++Dv L (i,j)) W' (XU ((i:Int),(j:Int))) jb1 js1 (fun p hpp=>hp p (YK _ hpp)) (by rw[Y9];exact br 0x6a210bb106a21b0b12 rfl ho) (h4.trans h2)) fun V' q' NQ NO h5 h6=>?_;refine⟨V',q',NQ,NO,?_,by rw[Zt,<-ZG];exact h6⟩;rw[YQ,ik]
  ·exact h5
  ·show(match bJ bk (bR (jP 3)) (pairD (i,j)) V with
      |none=>XW|some vs=>cz jR gC bk (bg (jP 3)) vs)=_
   unfold pairD;rw[TA];exact h3
theorem AQ (h:ds.length<=1000):bB (XU (.list (d::ds))) (XU (XU 1)) (XU XW) (XU XW)=XU (.list ds):=by show(if(XW:Option Int)=XU 0\/(XU (1:Int)).all aP=false\/(XW:Option Int).all aP=false\/(XW:Option Int).all aP=false then XW else(if(d::ds).length<=aW then XU (Dat.list (pick (d::ds) (XU 1) XW XW))else XW))=_;rw[V6 (by simp;decide),V7 (by rw[Y8];unfold aW;exact bq 0xf42408f90b1000003e88f012 rfl h),fW];refine V4 (fun l=>XU (Dat.list l)) ?_;have:clipAt (d::ds).length 1=1:=jg (by rw[Y8];exact bq 0x90b911 rfl);show((d::ds).drop (clipAt (d::ds).length 1)).take ((d::ds).length-clipAt (d::ds).length 1)=ds;rw[this,Y8,Nat.add_sub_cancel];show ds.take ds.length=ds;rw[List.take_length]
theorem Jh:∀(M:List Nat),List.zipWith (fun x y=>Dat.tuple [x,y]) (aL M) (aL M.tail)=(Fh M).map pairD:=fun M=>by unfold Fh aL pairD;rw[List.zipWith_map,List.zip,List.map_zipWith]
theorem Lz {p:Nat×Nat}(h:p.1<p.2/\p.2<=l.length):Dv (l++[x]) p=Dv l p:=by unfold Dv;rw[List.drop_append_of_le_length (by exact br 0x290b121110042 rfl h),List.take_append_of_le_length (by rw[Y7];exact br 0x90b2c90b1c121110042 rfl h),Zp,Zo (by exact br 0x20021110042 rfl h),Zp]
theorem EJ {α β:Type}{f g:α->List β}{l:List α}(h:∀a∈l,f a=g a):l.flatMap f=l.flatMap g:=je h
theorem oo:∀(r aR:List Nat)(f:Nat),(Fo.bwd le low f aR r).length=aR.length+1+r.length
 |[],aR,f=>by rw[Fo.z7,Y9,YX];rfl
 |a::r,aR,f=>by
  rw[Fo.vE];split
  ·rw[Y9,Y8,oo r [] a,YX,Y8,YZ];exact aT 0x91b90bb9198bbb0b21 rfl
  ·rw[oo r (a::aR) f,Y8,Y8];exact aT 0x91b90bb1990bbb21 rfl
theorem LH {f:Nat}{r:List Nat}(hl:(f::r).length<=5):Af [.bytes (aq ((f::r)++[x])),.list (((f::r)++[x]).map bA)]=XU (.bytes (aq (Fo.bwd (fy x) (fy x f) f [] r++[x]))):=by
 revert hl;refine TV VV ?_ r f x;generalize gB _ _=tt;dsimp only[K3];generalize tt.1.1=r,tt.1.2=f,tt.2=x;intro hl;generalize hle:f::r=l at hl;have BK:(l++[x]).length<=6:=by rw[Y9,YW];exact bq 0x6a90b105a012 rfl hl
 have h0:0<l.length:=by rw[<-hle];exact Nat.succ_pos _
 have hf:(l++[x])[0]?=XU f:=by rw[<-hle];rfl
 have nG:bQ (XU (.list ((l++[x]).map bA))) (XU (.int (-1)))=XU (bA x):=nc (i:=1) BK (by decide) (by simp) (by simp);have Og:bQ (XU (.list ((l++[x]).map bA))) (XU (.int 0))=XU (bA f):=v5 BK hf;have hm:cF (fy x) (fy x f) 0 l=0::cF (fy x) (fy x f) 1 r:=by rw[<-hle,G6,V7 (VX _)]
 have RY:bD .Sub (cq iu (XU (.list ((l++[x]).map bA)))) (XU (.int 1))=XU (.int (l.length:Int)):=by rw[Hd (by rw[Y4];exact bq 0x3e88f0106a012 rfl BK),Y4,aO,eU,Y9,YW,show((l.length+1:Nat):Int)-1=(l.length:Int) by exact bq 0xaf990bafc91 rfl]
 have RS:=ze (le:=fy x) (low:=fy x f) l 0;rw[X2]at RS;have NV:ev jR bk (aJ (jP 1)) ((("low":WS),.val (.bool (fy x f)))::OL (aq (l++[x])) ((l++[x]).map bA))=XU (.list (aL (cF (fy x) (fy x f) 0 l++[l.length]))):=by
  rw[TC,RY,mx,ph,dm (by unfold aW;exact bq 0xf42408f0105a012 rfl hl),XZ,kJ (g:=fun k=>if fy x (l.getD k 0)==fy x f then[Dat.int (k:Int)]else[]) (fun k hk=>?_),XZ,Yx,rX l 0 rfl,pv (by unfold aL;rw[Y4];unfold aW;lia)]
  ·show bD .Add _ (XU (.list [.int (l.length:Int)]))=_;rw[aO];show(if(aL (cF (fy x) (fy x f) 0 l)).length+[Dat.int (l.length:Int)].length<=aW then XU (Dat.list (aL (cF (fy x) (fy x f) 0 l)++[Dat.int (l.length:Int)]))else XW)=_;rw[V7 (by unfold aL;rw[Y4,YW];unfold aW;lia)];unfold aL;rw[YS];rfl
  ·have BL:(l++[x])[k]?=XU (l.getD k 0):=by rw[Zo hk,Zp,Zk hk];rfl
   rw[v5 BK BL,nG,qL,vy];by_cases q:(fy x (l.getD k 0)==fy x f)=true
   ·rw[V7 q,q];rfl
   ·rw[V6 q,Z4.mpr q];rfl
 have Ku:=fun p hp=>(RS.2 p hp).2;have RZ:(Fh (cF (fy x) (fy x f) 0 l++[l.length])).flatMap (Dv (l++[x]))=Fo.bwd (fy x) (fy x f) f [] r:=by rw[EJ fun p hp=>Lz (Ku p hp),hm,ZE];exact mP r 1 0 f [] (by rw[<-hle];rfl) h0 (by rw[<-hle];rfl) (by decide) rfl
 refine DE (vH BK (Fh (cF (fy x) (fy x f) 0 l++[l.length])) [] (qF (fy x f) (aq (l++[x])) ((l++[x]).map bA) (aL (cF (fy x) (fy x f) 0 l++[l.length])) [] XW XW) XW XW XW (fun p hp=>⟨(Ku p hp).1,by rw[Y9,YW];have:=(Ku p hp).2;exact aT 0x91b011012 rfl this⟩) (by
   rw[RZ,oo];have:r.length+1=l.length:=by rw[<-hle];rfl
   simp;exact aT 0x6a19b1091b205a013 rfl hl this) (.refl _)) fun V' q' NQ NO h1 h2=>?_
 rw[Yz,RZ]at h2;have oY:ex jR gC bk (.For (bR (jP 3)) (bO (jP 3)) (bg (jP 3)) [] (dO (jP 3))) (qF (fy x f) (aq (l++[x])) ((l++[x]).map bA) (aL (cF (fy x) (fy x f) 0 l++[l.length])) [] XW XW)=XU (.next V'):=by
  rw[ZaT,cG];have hs:bB (XU (.list (aL (cF (fy x) (fy x f) 0 l++[l.length])))) (XU (XU 1)) (XU XW) (XU XW)=XU (.list (aL (cF (fy x) (fy x f) 0 l++[l.length]).tail)):=by rw[hm,ZE,List.tail_cons];exact AQ (by have:=RS.1;rw[hm,Y8]at this;rw[Y4,Y9,YW];exact aT 0x3e88f91b1091b105a013 rfl hl this)
  rw[hs,XZ];show(XU _).bind _=_;rw[XZ,Jh];exact h1
 have e0:=ZaW (Ψ:=gC) (V:=OL (aq (l++[x])) ((l++[x]).map bA));rw[TG,nG,Og,qL,bp]at e0;have e1:=ZaV (Ψ:=gC) (V:=(("low":WS),.val (.bool (fy x f)))::OL (aq (l++[x])) ((l++[x]).map bA));rw[NV,bp]at e1;refine iC rfl ?_;rw[LI];refine(ar (ax rfl e0)).trans ?_;refine(ar (ax rfl e1)).trans ?_;refine(ar (ax rfl ZaU)).trans ?_;refine(ar (ax rfl oY)).trans ?_;refine iG (Ψ:=gC) iY.none h2 ?_;have hv:ev jR bk (cu (jP 4)) (T5 q'++qF (fy x f) (aq (l++[x])) ((l++[x]).map bA) (aL (cF (fy x) (fy x f) 0 l++[l.length])) (aq (Fo.bwd (fy x) (fy x f) f [] r)) NQ NO)=XU (.bytes (aq (Fo.bwd (fy x) (fy x f) f [] r++[x]))):=by
  rw[Tz,cG,ng BK,fG (by
   have:r.length+1=l.length:=by rw[<-hle];rfl
   rw[oo,YW,YZ];exact aT 0x14a9198bbb1091b205a013 rfl hl this)]
 exact er (ax rfl (d0 (fM hv))) (fun v q=>by rcases q with⟨⟩)
end
section
open PySem.NumText Mine.Internal.Co
variable {W:az} {Ψ:pD} {cs lf td:List Dat} {t:List UInt8} {k:Int} {j:Option Dat}
def rg:List WT:=fj pw 16
def eD:WY:=dN pw 16
abbrev wg (i:Nat):WT:=aB rg i
abbrev T1 (i:Nat):WT:=aB (bg (wg 2)) i
def tE:WT->Expr| .Assign _ (.Call _ [a] _ _) _=>a|_=>.Name "" cM
noncomputable def Fg (t:List UInt8)(cs lf td:List Dat):az:=[(("told":WS),.own (.list td)),(("left":WS),.own (.list lf)),(("tape":WS),.val (.bytes t)),(("cells":WS),.val (.list cs))]
theorem U5:ex yb Ψ eD (wg 0) (bI ["tape","cells"] [.bytes t,.list cs])=((((orOwn (tE (wg 0)) (bI ["tape","cells"] [.bytes t,.list cs]) (cq eg (cq iu (XU (.list cs))))).bind fun d=>XU [d]).bind fun ds=>(newD "list" ds).bind fun e=>b8 eD "left" (.own e) (bI ["tape","cells"] [.bytes t,.list cs]))).map .next:=by rfl
theorem U4:ex yb Ψ eD (wg 1) ((("left":WS),.own (.list lf))::bI ["tape","cells"] [.bytes t,.list cs])=XU (.next (Fg t cs lf [])):=by rfl
theorem Na:ev yb eD (bO (wg 2)) (Fg t cs lf td)=Dq eg (XU (.int 0)) (cq iu (XU (.bytes t))) (XU (.int 7)):=by rfl
theorem Qn (d:Dat)(V:az):bJ eD (bR (wg 2)) d V=XU ((("k":WS),.val d)::V):=by rfl
theorem Qo:bg (wg 2)=[T1 0,T1 1]:=by rfl
theorem Qm:ex yb Ψ eD (T1 0) ((("k":WS),.val (.int k))::Fg t cs lf td)=Bn "append" "told" (.list td) (Cy (bQ (eP (XU (.list lf)) fun d=>DL (gI .Eq (bQ (XU (.list cs)) (XU d)) (bB (XU (.bytes t)) (eI (XU (.int k))) (eI (bD .Add (XU (.int k)) (XU (.int 7)))) (XU XW))) (hH (XU d))) (XU (.int 0)))) ((("k":WS),.val (.int k))::Fg t cs lf td):=by rfl
theorem Ql:ex yb Ψ eD (T1 1) ((("told":WS),.own (.list ds))::(("k":WS),.val (.int k))::Fg t cs lf td)=Bn "remove" "left" (.list lf) (Cy (dp (.list ds) (.int (-1)))) ((("told":WS),.own (.list ds))::(("k":WS),.val (.int k))::Fg t cs lf td):=by rfl
theorem U3:cz yb gC eD [wg 3] (jv "k" j++Fg t cs lf td)=XU (.ret (.list td)):=by rcases j with⟨⟩<;>rfl
theorem Jy:rg=[wg 0,wg 1,.For (bR (wg 2)) (bO (wg 2)) (bg (wg 2)) [] (dO (wg 2)),wg 3]:=by rfl
def we:List Dat->Option Dat:=oN yb gC eD rg ["tape","cells"]
end
section
open PySem.NumText Mine.Internal.Co
variable {c t:List Nat}
theorem yM {a:Nat}:∀{lf:List Nat},a∈lf->tU (.int (a:Int)) (aL lf)=XU (aL (lf.erase a))
 |[],h=>nomatch h
 |y::ys,h=>by
  show(match qy (.int (y:Int)) (.int (a:Int))with|some true=>XU (aL ys)|some false=>(tU (.int (a:Int)) (aL ys)).map (Dat.int (y:Int)::·)|none=>XW)=_
  rw[qQ,List.erase_cons];by_cases q:y=a
  ·subst q;rw[show((y:Int)==(y:Int))=true from VX _,VX];rfl
  ·have q2:((y:Int)==(a:Int))=false:=by rw[V5];exact aT 0x1af0af9310232 rfl q
   rw[q2,show(y==a)=false from beq_eq_false_iff_ne.mpr q];rw[yM ((YL.mp h).resolve_left fun w=>q w.symm)];rfl
theorem pT {p:Nat->Bool}:∀{lf:List Nat},(∀j∈lf,f (.int (j:Int))=XU (if p j then[.int (j:Int)]else[]))->cZ f (aL lf)=XU (aL (lf.filter p))
 |[],_=>rfl
 |j::lf,h=>by
  show((f (.int (j:Int))).bind fun bs=>(cZ f (aL lf)).bind fun cs=>XU (bs++cs))=_;rw[h j YJ,XZ,pT fun x hx=>h x (YK _ hx),XZ,Zv];by_cases q:p j=true
  ·rw[V7 q,V7 q];rfl
  ·rw[V6 q,V6 q];rfl
noncomputable def dh (t:List Nat)(N k:Nat):List Nat:=(Yy N).filter fun j=> !(t.take k).contains j
theorem Bt {N a:Nat}(h:t[k]?=XU a):(dh t N k).erase a=dh t N (k+1):=by
 have hn:(dh t N k).Nodup:=List.nodup_range.sublist List.filter_sublist;rw[hn.erase_eq_filter];unfold dh;rw[List.filter_filter];refine List.filter_congr fun j x=>?_;rw[Yn,h,Option.toList_some,List.contains_append];cases(t.take k).contains j
 ·simp[bne];rfl
 ·simp
theorem Hm (hp:t.Perm (Yy N))(hj:j<N)(h:t.idxOf j<k):(t.take k).contains j=true:=by have hm:=hp.mem_iff.mpr (YD.mpr hj);have hi:=List.idxOf_lt_length_of_mem hm;rw[ZD,List.mem_take_iff_getElem];exact⟨t.idxOf j,by exact br 0x21df002001003 rfl h hi,List.getElem_idxOf hi⟩
set_option tactic.hygienic true in
theorem AL {N a:Nat}(hp:t.Perm (Yy N)){p:Nat->Bool}(h:t[k]?=XU a)(hpa:p a=true)(H:∀j,j<a->p j=true->t.idxOf j<t.idxOf a):∃r,(dh t N k).filter p=a::r:=by
 have hk:=(Zh.mp h).1;have hta:=(Zh.mp h).2;have haN:=YD.mp (hp.mem_iff.mp (hta▸List.getElem_mem hk));have Jc:=hp.nodup_iff.mpr List.nodup_range;have Kz:t.idxOf a=k:=by rw[<-hta];exact Jc.idxOf_getElem k hk
 have hna:(t.take k).contains a=false:=by rw[Z4];intro q;rw[ZD,List.mem_take_iff_getElem]at q;obtain⟨i,hi,e⟩:=q;have:=Jc.idxOf_getElem i (by lia);rw[e,Kz]at this;lia
 unfold dh;rw[List.filter_filter];have hf:(Yy N).find? (fun j=>p j&& !(t.take k).contains j)=XU a:=by rw[List.find?_range_eq_some];refine⟨by rw[hpa,hna];rfl,YD.mpr haN,fun j hj=>?_⟩;cases N6:p j with|false=>rfl|true=>rw[Hm hp (by exact br 0x1200201003 rfl haN hj) (Kz▸H j hj N6)];rfl
 rw[<-List.head?_filter]at hf;generalize(Yy N).filter _=M at hf ⊢;rcases M with⟨⟩;case nil=>exact aa hf
 case cons b r=>obtain rfl:=XT hf;exact⟨r,rfl⟩
theorem Iu (hl:c.length<=6)(hi:i<c.length):bQ (XU (.list (c.map fun n=>.bytes (bS n)))) (XU (.int (i:Int)))=XU (.bytes (bS (c.getD i 0))):=fu (by rw[Zg,Zk hi,Zp,Zk hi];rfl) (by rw[Y4];exact bq 0x3e88f0106a012 rfl hl)
theorem uZ:(dh t N k).length<=N:=by unfold dh;exact Yg (Y5 _ _) (by rw[YY];exact Yh _)
theorem AM {a:Nat}(hl:c.length<=6)(hr:(dh t c.length k).filter (fun j=>bS (c.getD j 0)==bS (c.getD a 0))=a::r):eP (XU (.list (aL (dh t c.length k)))) (fun d=>DL (gI .Eq (bQ (XU (.list (c.map fun n=>.bytes (bS n)))) (XU d)) (XU (.bytes (bS (c.getD a 0))))) (hH (XU d)))=XU (.list (aL (a::r))):=by
 have RV:=uZ (t:=t) (N:=c.length) (k:=k);rw[ph];show(XU (aL (dh t c.length k))).bind _=_;rw[XZ,pT (fun j hj=>?_),XZ,hr,pv]
 ·have:=V4 Za hr;have h2:=Y5 (fun j=>bS (c.getD j 0)==bS (c.getD a 0)) (dh t c.length k);unfold aL;rw[Y4,<-this];unfold aW;exact br 0xf42408f2112101106a014 rfl hl RV h2
 ·have hjN:=YD.mp (YI.mp hj).1;rw[Iu hl hjN,gV];show DL (XU (bS (c.getD j 0)==bS (c.getD a 0))) _=_;by_cases q:(bS (c.getD j 0)==bS (c.getD a 0))=true
  ·rw[V7 q,q];rfl
  ·rw[V6 q,Z4.mpr q];rfl
theorem D0 {a N:Nat}(hN:N<=6)(ht:td.length<=100)(sD:t[k]?=XU a)(hm:a∈dh t N k):Bn "remove" "left" (.list (aL (dh t N k))) (Cy (dp (.list (td++[Dat.int (a:Int)])) (.int (-1)))) V=XU (.next ((("left":WS),.own (.list (aL (dh t N (k+1)))))::V)):=by
 have RV:=uZ (t:=t) (N:=N) (k:=k);rw[Co.item_last (by exact bq 0x3e88f0164a012 rfl ht)];have N8:ny "remove" (.list (aL (dh t N k))) [.int (a:Int)]=XU (.list (aL (dh t N (k+1)))):=by unfold ny;dsimp only;rw[V6 (by decide),V6 (by decide),V7 rfl,V7 (by unfold aL;rw[Y4];unfold aW;exact aT 0xf42408f1101106a013 rfl hN RV),yM hm,Bt sD];rfl
 show(ny "remove" (.list (aL (dh t N k))) [.int (a:Int)]).map (fun a'=>Fl.next (("left",Slot.own a')::V))=_;rw[N8];rfl
theorem Bh (h:bM d=XU es)(hl:es.length<=aW)(hr:∃a b c,d=.range a b c):newD "list" [d]=XU (.list es):=by
 refine iM hr ?_;rintro a b c (rfl);have:newD "list" [.range a b c]=(bM (.range a b c)).bind fun es=>if es.length<=aW then XU (.list es)else XW:=by unfold newD;dsimp only;rw[V7 rfl];cases bM (.range a b c)<;>rfl
 rw[this,h];exact V7 hl
theorem D1 {N:Nat}(h:N<=1000):newD "list" [.range 0 (N:Int) 1]=XU (.list (aL (Yy N))):=Bh (dm (by unfold aW;exact bq 0xf42408f01000003e88f012 rfl h)) (by unfold aL;rw[Y4,YY];unfold aW;exact bq 0xf42408f01000003e88f012 rfl h) ⟨_,_,_,rfl⟩
theorem Ga (hl:c.length<=6)(hp:t.Perm (Yy c.length))(H:∀i j,i<j->j<c.length->bS (c.getD i 0)=bS (c.getD j 0)->t.idxOf i<t.idxOf j):we [.bytes (aq (t.map fun i=>c.getD i 0)),.list (c.map fun n=>.bytes (bS n))]=XU (.list (aL t)):=by
 have Kr:t.length=c.length:=by rw[hp.length_eq,YY]
 have hml:(t.map fun i=>c.getD i 0).length=t.length:=Y4 ..;have qr:∀{a:Nat},a∈t->a<c.length:=fun h=>YD.mp (hp.mem_iff.mp h);refine iL (jd (Ψ:=gC) (body:=bg (wg 2)) iY.none Qn (fun k=>Fg (aq (t.map fun i=>c.getD i 0)) (c.map fun n=>.bytes (bS n)) (aL (dh t c.length k)) (aL (t.take k))) (fun done k=>k=done.length) (av:=(Yy t.length).map fun k:Nat=>.int ((k*7:Nat):Int)) (fun done o rest k hi hI=>by
   subst hI;have hlen:done.length<t.length:=by have:=V4 Za hi;simp at this;exact br 0x1092b1b022 rfl this
   have ho:o=.int ((done.length*7:Nat):Int):=by have h5:=V4 (fun l=>l[done.length]?) hi;simp only[Zn (Yh _),X4,Zl]at h5;rw[Zg,Zf hlen]at h5;exact(XT h5).symm
   subst ho;have Mt:(done++[Dat.int ((done.length*7:Nat):Int)]).length=done.length+1:=by rw[Y9,YW]
   rw[Mt];generalize done.length=k at hlen;obtain⟨a,sD⟩:∃a,t[k]?=XU a:=⟨_,Zk hlen⟩;have ha:=qr (YE sD);have mU:=CM (br 0x6a2112201206a014 rfl hl Kr hml) (by rw[Zg,sD];rfl);refine aM (AL (p:=fun j=>bS (c.getD j 0)==bS (c.getD a 0)) hp sD (VX _) fun j hj N6=>H j a hj ha (beq_iff_eq.mp N6)) fun r hr=>?_;have RV:(dh t c.length k).length<=6:=by unfold dh;exact Yg (Y5 _ _) (by rw[YY];exact hl)
   have HK:=AM hl hr;have RT:=(YI.mp (hr▸YJ:a∈(dh t c.length k).filter _)).1;have e0:=Qm (Ψ:=gC) (k:=((k*7:Nat):Int)) (t:=aq (t.map fun i=>c.getD i 0)) (cs:=c.map fun n=>.bytes (bS n)) (lf:=aL (dh t c.length k)) (td:=aL (t.take k));have Ml:bQ (XU (.list (aL (a::r)))) (XU (.int 0))=XU (.int (a:Int)):=fu rfl (by have:=V4 Za hr;unfold aL;rw[Y4,<-this];exact Yg (Y5 _ _) (Yg RV (by decide)));have Mg:(aL (t.take k)).length<=6:=by unfold aL;rw[Y4,YV];exact br 0x6a12df101206a013 rfl hl Kr
   rw[mU,HK,Ml,nu (by unfold aW;exact bq 0xf42408f90b106a012 rfl Mg)]at e0;have htd:aL (t.take k)++[Dat.int (a:Int)]=aL (t.take (k+1)):=by rw[Yn,sD];unfold aL;rw[YS];rfl
   have e1:=Ql (Ψ:=gC) (k:=((k*7:Nat):Int)) (t:=aq (t.map fun i=>c.getD i 0)) (cs:=c.map fun n=>.bytes (bS n)) (lf:=aL (dh t c.length k)) (td:=aL (t.take k)) (ds:=aL (t.take k)++[Dat.int (a:Int)]);have VS:=D0 (V:=((("told":WS),.own (.list (aL (t.take k)++[Dat.int (a:Int)])))::(("k":WS),.val (.int ((k*7:Nat):Int)))::Fg (aq (t.map fun i=>c.getD i 0)) (c.map fun n=>.bytes (bS n)) (aL (dh t c.length k)) (aL (t.take k)))) hl (bq 0x64a0106a012 rfl Mg) sD RT;rw[VS]at e1;rw[htd]at e0 e1;refine⟨k+1,(("left":WS),.own (.list (aL (dh t c.length (k+1)))))::(("told":WS),.own (.list (aL (t.take (k+1)))))::(("k":WS),.val (.int ((k*7:Nat):Int)))::Fg (aq (t.map fun i=>c.getD i 0)) (c.map fun n=>.bytes (bS n)) (aL (dh t c.length k)) (aL (t.take k)),by rw[Qo,ar (ax rfl e0)];exact(ar (ax rfl e1)).trans bP,bT.el rfl,rfl⟩)
  _ [] (Fg (aq (t.map fun i=>c.getD i 0)) (c.map fun n=>.bytes (bS n)) (aL (Yy c.length)) []) 0 XW rfl (by
   have e:dh t c.length 0=Yy c.length:=by unfold dh;rw[List.take_zero,List.filter_eq_self];exact fun x x=>rfl
   rw[e];exact .refl _) rfl) fun V' J a h1 hJ h2 h3=>?_
 have hlc:cq iu (XU (.list (c.map fun n=>Dat.bytes (bS n))))=XU (.int (c.length:Int)):=by rw[Hd (by rw[Y4];exact bq 0x3e88f0106a012 rfl hl),Y4]
 have e0:=U5 (Ψ:=gC) (t:=aq (t.map fun i=>c.getD i 0)) (cs:=c.map fun n=>.bytes (bS n));have qp:=D1 (N:=c.length) (bq 0x3e88f0106a012 rfl hl);have hor:∀d,orOwn (tE (wg 0)) (bI ["tape","cells"] [.bytes (aq (t.map fun i=>c.getD i 0)),.list (c.map fun n=>.bytes (bS n))]) (XU d)=XU d:=fun d=>rfl;rw[hlc,mx,hor,XZ,XZ,qp,XZ]at e0;have RX:cq iu (XU (.bytes (aq (t.map fun i=>c.getD i 0))))=XU (.int ((7*t.length:Nat):Int)):=by show(if(aq (t.map fun i=>c.getD i 0)).length<=aW then XU (Dat.int ((aq (t.map fun i=>c.getD i 0)).length:Int))else XW)=_;rw[i5,hml,V7 (by unfold aW;exact aT 0xf42408f107d101206a013 rfl hl Kr)]
 have hit:ev yb eD (bO (wg 2)) (Fg (aq (t.map fun i=>c.getD i 0)) (c.map fun n=>.bytes (bS n)) (aL (Yy c.length)) [])=XU (.range 0 ((7*t.length:Nat):Int) ((7:Nat):Int)):=by rw[Na,RX];rfl
 have oY:=(lz (p:=dO (wg 2)) rfl hit (range_items (by decide) (by decide) (aT 0x3e88f1101206a013 rfl hl Kr))).trans h1;refine iC rfl ?_;rw[Jy];refine(ar (ax rfl e0)).trans ?_;refine(ar (ax rfl U4)).trans ?_;refine(ar (ax rfl oY)).trans ?_;have ha:a=t.length:=by rw[h3,Y4,YY]
 subst ha;rw[List.take_length]at h2;exact iG iY.none h2 U3
end
section
open PySem.NumText Mine.Internal.Co
structure Gs where
 gd:List Dat->Option Dat
 ge:List Dat->Option Dat
 gt:List Dat->Option Dat
 gp:List Dat->Option Dat
 gf:List Dat->Option Dat
 gb:List Dat->Option Dat
 gs:List Dat->Option Dat
 gw:List Dat->Option Dat
 gu:List Dat->Option Dat
def dc (G:Gs):fN:=((((((((yb.and "_law_draws" G.gd).and "_law_cell" G.ge).and "_law_told" G.gt).and "_law_pairs" G.gp).and "_law_forth" G.gf).and "_law_back" G.gb).and "_law_stand" G.gs).and "_byteswap" G.gw).and "_law_due" G.gu
end
section
open PySem.NumText Mine.Internal.Co
variable {G:Gs} {W:az} {Ψ:pD} {ky cl ah tp td lt sd od sc:List Dat} {t tn:List UInt8} {k f:Int} {J jp jt js jo jk:Option Dat}
def oS:List WT:=fj pw 17
def ay:WY:=dN pw 17
abbrev ee (i:Nat):WT:=aB oS i
abbrev uX (i:Nat):Expr:=aJ (aB oS i)
abbrev l6 (i:Nat):WT:=aB (bg (ee 6)) i
abbrev lX (i:Nat):WT:=aB (bg (ee 10)) i
noncomputable def oy (G:Gs):pD:=lR [(lX 1,yE (dc G) "order" (Hg (lX 1)) (NI (lX 1)) (Ep (lX 1)))]
theorem oB:iY (oy G):=yt ⟨JA,trivial⟩
structure N1 where
 sc:List Dat
 ds:List Dat
 ky:List Dat
 cl:List Dat
 ah:List Dat
end
section
open PySem.NumText Mine.Internal.Co
variable {G:Gs} {W:az} {Ψ:pD} {ky cl ah tp td lt sd od sc:List Dat} {t tn:List UInt8} {k f:Int} {J jp jt js jo jk:Option Dat} {N:N1}
def A0 (sc:List Dat):az:=bI ["script"] [.list sc]
def A1 (sc ds:List Dat):az:=(("drawn":WS),.val (.list ds))::A0 sc
def A2 (sc ds ky:List Dat):az:=(("keys":WS),.val (.list ky))::A1 sc ds
def A3 (sc ds ky cl:List Dat):az:=(("cells":WS),.val (.list cl))::A2 sc ds ky
def A4 (N:N1):az:=(("ahead":WS),.val (.list N.ah))::A3 N.sc N.ds N.ky N.cl
def A6 (N:N1)(tp:List Dat)(f:Int):az:=(("falls":WS),.val (.int f))::(("tapes":WS),.own (.list tp))::A4 N
def Rf (x y:Option Dat):Option Dat:=(x.bind fun d=>(y.bind fun e=>XU [e]).map fun ds=>d::ds).bind xF
noncomputable def OD:List Dat:=[.str "",.str "unknown",.str " ",.str "(unknown)",.str "unknown unknown"]
theorem Vs:ex (dc G) Ψ ay (ee 0) V=fk ay "drawn" (ev (dc G) ay (uX 0) V) (ev (dc G) ay (uX 0) (aS V)) V:=by rfl
theorem Vr:ex (dc G) Ψ ay (ee 1) V=fk ay "keys" (ev (dc G) ay (uX 1) V) (ev (dc G) ay (uX 1) (aS V)) V:=by rfl
theorem Vq:ex (dc G) Ψ ay (ee 2) V=fk ay "cells" (ev (dc G) ay (uX 2) V) (ev (dc G) ay (uX 2) (aS V)) V:=by rfl
theorem Vp:ex (dc G) Ψ ay (ee 3) V=fk ay "ahead" (ev (dc G) ay (uX 3) V) (ev (dc G) ay (uX 3) (aS V)) V:=by rfl
theorem Rb:ev (dc G) ay (uX 0) (A0 sc)=jN G.gd (XU (.list sc)):=by rfl
theorem Ra:ev (dc G) ay (uX 1) (A1 sc ds)=eP (XU (.list ds)) fun d=>hH (Rf (bD .Mod (XU d) (XU (.int 15))) (bD .Mod (bD .FloorDiv (XU d) (XU (.int 15))) (XU (.int 2)))):=by rfl
theorem Q9:ev (dc G) ay (uX 2) (A2 sc ds ky)=eP (XU (.list ds)) fun d=>hH (jN G.ge (XU d)):=by rfl
theorem Q8:ev (dc G) ay (uX 3) (A3 sc ds ky cl)=eP (XU (.list ds)) fun d=>hH (bQ (XU (.list OD)) (bD .FloorDiv (XU d) (XU (.int 25200)))):=by rfl
theorem Vo:ex (dc G) Ψ ay (ee 4) (A4 N)=((((bQ (XU (.list N.cl)) (XU (.int 0))).bind fun d=>XU [d]).bind fun ds=>if ds.length<=aW then b8 ay "tapes" (.own (.list ds)) (A4 N)else XW)).map .next:=by rfl
theorem Vn:ex (dc G) Ψ ay (ee 5) ((("tapes":WS),.own (.list tp))::A4 N)=XU (.next (A6 N tp 0)):=by rfl
def Lp (N:N1)(tp:List Dat)(f:Int)(jp jt:Option Dat):az:=jv "told" jt++(jv "tape" jp++A6 N tp f)
theorem NA:ev (dc G) ay (bO (ee 6)) (A6 N tp f)=XU (.range 1 6 1):=by rfl
theorem Q6 (d:Dat)(V:az):bJ ay (bR (ee 6)) d V=XU ((("new":WS),.val d)::V):=by rfl
theorem Q7:bg (ee 6)=[l6 0,l6 1,.If (aN (l6 2)) (bN (l6 2)) [] (gy (l6 2)),l6 3,.If (aN (l6 4)) [aB (bN (l6 4)) 0] [] (gy (l6 4))]:=by rfl
noncomputable def Y0 (k:Int)(V:az):az:=(("new":WS),.val (.int k))::V
noncomputable def Y1 (t:List UInt8)(k:Int)(V:az):az:=(("tape":WS),.val (.bytes t))::Y0 k V
noncomputable def Y2 (td:List Dat)(t:List UInt8)(k:Int)(V:az):az:=(("told":WS),.val (.list td))::Y1 t k V
noncomputable def Y3 (tq td:List Dat)(t:List UInt8)(k:Int)(V:az):az:=(("tapes":WS),.own (.list tq))::Y2 td t k V
theorem Vy:ex (dc G) Ψ ay (l6 0) V=fk ay "tape" (ev (dc G) ay (aJ (l6 0)) V) (ev (dc G) ay (aJ (l6 0)) (aS V)) V:=by rfl
theorem Vx:ex (dc G) Ψ ay (l6 1) V=fk ay "told" (ev (dc G) ay (aJ (l6 1)) V) (ev (dc G) ay (aJ (l6 1)) (aS V)) V:=by rfl
theorem Rt:ev (dc G) ay (aJ (l6 0)) (Y0 k (Lp N tp f jp jt))=bD .Add (dp (.list tp) (.int (-1))) (bQ (XU (.list N.cl)) (XU (.int k))):=by rcases jp with⟨⟩<;>rcases jt with⟨⟩<;>rfl
theorem Rr:ev (dc G) ay (aJ (l6 1)) (Y1 t k (Lp N tp f jp jt))=cK G.gt (XU (.bytes t)) (bQ (XU (.list N.ah)) (XU (.int k))):=by rcases jp with⟨⟩<;>rcases jt with⟨⟩<;>rfl
theorem Rq:dQ (dc G) ay (aN (l6 2)) (Y2 td t k (Lp N tp f jp jt)) (ev (dc G) ay (aN (l6 2)) (Y2 td t k (Lp N tp f jp jt)))=gI .NotEq (jN G.gp (bB (XU (.list td)) (XU XW) (eI (XU (.int k))) (XU XW))) (XU (.int f)):=by rcases jp with⟨⟩<;>rcases jt with⟨⟩<;>rfl
theorem Vw:ex (dc G) Ψ ay (l6 3) (Y2 td t k (Lp N tp f jp jt))=Bn "append" "tapes" (.list tp) (Cy (cK G.gf (XU (.bytes t)) (XU (.list td)))) (Y2 td t k (Lp N tp f jp jt)):=by rcases jp with⟨⟩<;>rcases jt with⟨⟩<;>rfl
theorem Ro:dQ (dc G) ay (aN (l6 4)) (Y3 tq td t k (Lp N tp f jp jt)) (ev (dc G) ay (aN (l6 4)) (Y3 tq td t k (Lp N tp f jp jt)))=gI .Lt (bQ (XU (.list N.ky)) (XU (.int k))) (bQ (XU (.list N.ky)) (bD .Sub (XU (.int k)) (XU (.int 1)))):=by rcases jp with⟨⟩<;>rcases jt with⟨⟩<;>rfl
theorem Rp:ex (dc G) Ψ ay (aB (bN (l6 4)) 0) (Y3 tq td t k (Lp N tp f jp jt))=XU (.next ((("falls":WS),.val (.int (f+k)))::Y3 tq td t k (Lp N tp f jp jt))):=by rcases jp with⟨⟩<;>rcases jt with⟨⟩<;>rfl
def B7 (N:N1)(tp:List Dat)(f:Int)(J jp jt:Option Dat):az:=jv "new" J++Lp N tp f jp jt
def UE (N:N1)(tp:List Dat)(f:Int)(J jp jt:Option Dat)(lt:List Dat):az:=(("last":WS),.val (.list lt))::B7 N tp f J jp jt
def B9 (N:N1)(tp:List Dat)(f:Int)(J jp jt:Option Dat)(lt:List Dat)(tn:List UInt8):az:=(("turned":WS),.val (.bytes tn))::UE N tp f J jp jt lt
theorem Vm:ex (dc G) Ψ ay (ee 7) V=fk ay "last" (ev (dc G) ay (uX 7) V) (ev (dc G) ay (uX 7) (aS V)) V:=by rfl
theorem Vl:ex (dc G) Ψ ay (ee 8) V=fk ay "turned" (ev (dc G) ay (uX 8) V) (ev (dc G) ay (uX 8) (aS V)) V:=by rfl
theorem Q5:ev (dc G) ay (uX 7) (B7 N tp f J jp jt)=cK G.gt (dp (.list tp) (.int 5)) (bQ (XU (.list N.ah)) (XU (.int 0))):=by rcases J with⟨⟩<;>rcases jp with⟨⟩<;>rcases jt with⟨⟩<;>rfl
theorem Q4:ev (dc G) ay (uX 8) (UE N tp f J jp jt lt)=cK G.gw (dp (.list tp) (.int 5)) (XU (.int 42)):=by rcases J with⟨⟩<;>rcases jp with⟨⟩<;>rcases jt with⟨⟩<;>rfl
noncomputable def bZ:Expr->List Expr| .BoolOp _ es _=>es|_=>[]
abbrev mQ (e:Expr)(i:Nat):Expr:=(bZ e).getD i (.Name "" cM)
theorem Vk:dQ (dc G) ay (aN (ee 9)) V (ev (dc G) ay (aN (ee 9)) V)=ew (dc G) ay .Or [mQ (aN (ee 9)) 0,mQ (aN (ee 9)) 1,mQ (aN (ee 9)) 2] V:=by rfl
theorem Q3:dQ (dc G) ay (mQ (aN (ee 9)) 0) (B9 N tp f J jp jt lt tn) (ev (dc G) ay (mQ (aN (ee 9)) 0) (B9 N tp f J jp jt lt tn))=gI .NotEq (jN G.gp (XU (.list lt))) (XU (.int f)):=by rcases J with⟨⟩<;>rcases jp with⟨⟩<;>rcases jt with⟨⟩<;>rfl
theorem Q2:dQ (dc G) ay (mQ (aN (ee 9)) 1) (B9 N tp f J jp jt lt tn) (ev (dc G) ay (mQ (aN (ee 9)) 1) (B9 N tp f J jp jt lt tn))=XU false:=by rcases J with⟨⟩<;>rcases jp with⟨⟩<;>rcases jt with⟨⟩<;>rfl
theorem Q1:dQ (dc G) ay (mQ (aN (ee 9)) 2) (B9 N tp f J jp jt lt tn) (ev (dc G) ay (mQ (aN (ee 9)) 2) (B9 N tp f J jp jt lt tn))=gI .NotEq (XU (.bytes tn)) (bB (dp (.list tp) (.int 5)) (XU XW) (XU XW) (eI (XU (.int (-1))))):=by rcases J with⟨⟩<;>rcases jp with⟨⟩<;>rcases jt with⟨⟩<;>rfl
theorem Nz:ev (dc G) ay (bO (ee 10)) (B9 N tp f J jp jt lt tn)=XU (.range 0 6 1):=by rcases J with⟨⟩<;>rcases jp with⟨⟩<;>rcases jt with⟨⟩<;>rfl
theorem QZ (d:Dat)(V:az):bJ ay (bR (ee 10)) d V=XU ((("new":WS),.val d)::V):=by rfl
theorem Q0:bg (ee 10)=[lX 0,lX 1,.For (bR (lX 2)) (bO (lX 2)) [.If (aN (aB (bg (lX 2)) 0)) (bN (aB (bg (lX 2)) 0)) [] (gy (aB (bg (lX 2)) 0))] [] (dO (lX 2)),.If (aN (lX 3)) (bN (lX 3)) [] (gy (lX 3))]:=by rfl
theorem Vv:ex (dc G) Ψ ay (lX 0) V=fk ay "stand" (ev (dc G) ay (aJ (lX 0)) V) (ev (dc G) ay (aJ (lX 0)) (aS V)) V:=by rfl
def E9 (N:N1)(tp:List Dat)(f:Int)(d1 d2 d3:Dat)(lt:List Dat)(tn:List UInt8)(js jo jk:Option Dat):az:=jv "k" jk++(jv "order" jo++(jv "stand" js++B9 N tp f (XU d1) (XU d2) (XU d3) lt tn))
end
section
open PySem.NumText Mine.Internal.Co
variable {G:Gs} {W:az} {Ψ:pD} {ky cl ah tp td lt sd od sc:List Dat} {t tn:List UInt8} {k f:Int} {J jp jt js jo jk:Option Dat} {N:N1} {d1 d2 d3:Dat}
noncomputable def Z0 (k:Int)(V:az):az:=(("new":WS),.val (.int k))::V
noncomputable def Z1 (sd:List Dat)(k:Int)(V:az):az:=(("stand":WS),.val (.list sd))::Z0 k V
noncomputable def Z2 (od sd:List Dat)(k:Int)(V:az):az:=(("order":WS),.val (.list od))::Z1 sd k V
theorem Rn:ev (dc G) ay (aJ (lX 0)) (Z0 k (E9 N tp f d1 d2 d3 lt tn js jo jk))=cK G.gs (dp (.list tp) (.int k)) (bB (XU (.list N.cl)) (XU XW) (eI (bD .Add (XU (.int k)) (XU (.int 1)))) (XU XW)):=by rcases js with⟨⟩<;>rcases jo with⟨⟩<;>rcases jk with⟨⟩<;>rfl
theorem NK:ev (dc G) ay (Hg (lX 1)) (Z1 sd k (E9 N tp f d1 d2 d3 lt tn js jo jk))=cq eg (bD .Add (XU (.int k)) (XU (.int 1))):=by rcases js with⟨⟩<;>rcases jo with⟨⟩<;>rcases jk with⟨⟩<;>rfl
theorem Rm:ev (dc G) (Ep (lX 1)) (NI (lX 1)) ((("k":WS),.val d)::b0 (Ep (lX 1)) (Z1 sd k (E9 N tp f d1 d2 d3 lt tn js jo jk)))=bQ (XU (.list N.ky)) (XU d):=by rcases js with⟨⟩<;>rcases jo with⟨⟩<;>rcases jk with⟨⟩<;>rfl
theorem NJ:ev (dc G) ay (bO (lX 2)) (Z2 od sd k (E9 N tp f d1 d2 d3 lt tn js jo jk))=cq eg (XU (.int k)):=by rcases js with⟨⟩<;>rcases jo with⟨⟩<;>rcases jk with⟨⟩<;>rfl
theorem Rl (d:Dat)(V:az):bJ ay (bR (lX 2)) d V=XU ((("k":WS),.val d)::V):=by rfl
def Z3 (jq:Option Dat)(V:az):az:=jv "k" jq++V
theorem Rk {i:Int}{jq:Option Dat}:dQ (dc G) ay (aN (aB (bg (lX 2)) 0)) ((("k":WS),.val (.int i))::Z2 od sd k (E9 N tp f d1 d2 d3 lt tn js jo jk)) (ev (dc G) ay (aN (aB (bg (lX 2)) 0)) ((("k":WS),.val (.int i))::Z2 od sd k (E9 N tp f d1 d2 d3 lt tn js jo jk)))=gI .NotEq (qB .Lt (bQ (XU (.list od)) (XU (.int i))) (bQ (XU (.list od)) (bD .Add (XU (.int i)) (XU (.int 1))))) (qB .Lt (zc oW (.list sd) (bQ (XU (.list od)) (XU (.int i)))) (zc oW (.list sd) (bQ (XU (.list od)) (bD .Add (XU (.int i)) (XU (.int 1)))))):=by rcases js with⟨⟩<;>rcases jo with⟨⟩<;>rcases jk with⟨⟩<;>rfl
theorem Vu:dQ (dc G) ay (aN (lX 3)) (Z3 jq (Z2 od sd k (E9 N tp f d1 d2 d3 lt tn js jo jk))) (ev (dc G) ay (aN (lX 3)) (Z3 jq (Z2 od sd k (E9 N tp f d1 d2 d3 lt tn js jo jk))))=ew (dc G) ay .And [mQ (aN (lX 3)) 0,mQ (aN (lX 3)) 1] (Z3 jq (Z2 od sd k (E9 N tp f d1 d2 d3 lt tn js jo jk))):=by rfl
theorem Mb:dQ (dc G) ay (mQ (aN (lX 3)) 0) (Z3 jq (Z2 od sd k (E9 N tp f d1 d2 d3 lt tn js jo jk))) (ev (dc G) ay (mQ (aN (lX 3)) 0) (Z3 jq (Z2 od sd k (E9 N tp f d1 d2 d3 lt tn js jo jk))))=qj (.int k):=by rcases jq with⟨⟩<;>rcases js with⟨⟩<;>rcases jo with⟨⟩<;>rcases jk with⟨⟩<;>rfl
theorem Rj:dQ (dc G) ay (mQ (aN (lX 3)) 1) (Z3 jq (Z2 od sd k (E9 N tp f d1 d2 d3 lt tn js jo jk))) (ev (dc G) ay (mQ (aN (lX 3)) 1) (Z3 jq (Z2 od sd k (E9 N tp f d1 d2 d3 lt tn js jo jk))))=gI .NotEq (cK G.gb (dp (.list tp) (.int k)) (cK G.gt (dp (.list tp) (.int k)) (bQ (XU (.list N.ah)) (XU (.int k))))) (bD .Add (bQ (XU (.list tp)) (bD .Sub (XU (.int k)) (XU (.int 1)))) (bQ (XU (.list N.cl)) (XU (.int k)))):=by rcases jq with⟨⟩<;>rcases js with⟨⟩<;>rcases jo with⟨⟩<;>rcases jk with⟨⟩<;>rfl
theorem NB:ev (dc G) ay (cu (ee 11)) (jv "new" J++E9 N tp f d1 d2 d3 lt tn (XU (.list sd)) jo jk)=qB .Eq (XU (.list lt)) (eP (XU (.list sd)) fun d=>hH (jN G.gu (bQ (XU (.list N.ky)) (XU d)))):=by rcases J with⟨⟩<;>rcases jo with⟨⟩<;>rcases jk with⟨⟩<;>rfl
theorem J9:oS=[ee 0,ee 1,ee 2,ee 3,ee 4,ee 5,.For (bR (ee 6)) (bO (ee 6)) (bg (ee 6)) [] (dO (ee 6)),ee 7,ee 8,.If (aN (ee 9)) (bN (ee 9)) [] (gy (ee 9)),.For (bR (ee 10)) (bO (ee 10)) (bg (ee 10)) [] (dO (ee 10)),.Return (XU (cu (ee 11))) (gD (ee 11))]:=by rfl
end
section
open PySem.NumText Mine.Internal.Co
variable {ns:List Nat}
noncomputable def cN (ns:List Nat)(i:Nat):Nat:=ns.getD i 0
def vN (ns:List Nat)(i:Nat):Nat:=fe (cN ns i)
def TN (ns:List Nat)(k:Nat):List Nat:=(Fo.tp (vN ns) k).map (cN ns)
theorem xe:∀(l aR:List Nat),Fo.fwd le low (l.map f) (aR.map f)=(Fo.fwd (fun a=>le (f a)) low l aR).map f
 |[],aR=>rfl
 |a::l,aR=>by
  have h1:=xe (le:=le) (low:=low) (f:=f) l [];have h2:=xe (le:=le) (low:=low) (f:=f) l (a::aR);rw[List.map_nil]at h1;rw[YQ]at h2;rw[YQ,Fo.sG,Fo.sG];split
  ·rw[h1,YQ,YS,YN]
  ·exact h2
theorem xK:∀(r:List Nat)(b:Nat)(aR:List Nat),Fo.bwd le low (f b) (aR.map f) (r.map f)=(Fo.bwd (fun a=>le (f a)) low b aR r).map f
 |[],b,aR=>by rw[List.map_nil,Fo.z7,Fo.z7,YS,YN];rfl
 |a::r,b,aR=>by
  have h1:=xK (le:=le) (low:=low) (f:=f) r a [];have h2:=xK (le:=le) (low:=low) (f:=f) r b (a::aR);rw[List.map_nil]at h1;rw[YQ]at h2;rw[YQ,Fo.vE,Fo.vE];split
  ·rw[h1,YS,YQ,YN]
  ·exact h2
theorem C5:∀l:List Nat,Fo.inv fe (l.map f)=Fo.inv (fun i=>fe (f i)) l|[]=>rfl|a::l=>by rw[YQ,Fo.zt,Fo.zt,C5 l];unfold Fo.cnt;rw[List.countP_map];rfl
theorem mR (k:Nat):(TN ns k).length=k+1:=by unfold TN;rw[Y4,Fo.vX]
theorem DA (k:Nat):TN ns k≠[]:=fun q=>by have:=mR (ns:=ns) k;rw[q]at this;rcases this with⟨⟩
theorem LN (k:Nat):(TN ns k).getLast (DA k)=cN ns k:=by
 have h:(TN ns k).getLast?=XU (cN ns k):=by unfold TN;rw[List.getLast?_map,Fo.vY];rfl
 rw[List.getLast?_eq_some_getLast (DA k)]at h;exact XT h
theorem LM (k:Nat):TN ns (k+1)=Fo.fwd (fy (cN ns (k+1))) (fy (cN ns (k+1)) ((TN ns k).getLast (DA k))) (TN ns k) []++[cN ns (k+1)]:=by rw[LN];have h:=xe (le:=fy (cN ns (k+1))) (low:=fy (cN ns (k+1)) (cN ns k)) (f:=cN ns) (Fo.tp (vN ns) k) [];rw[List.map_nil]at h;unfold TN;rw[h,Fo.AD,YS];rfl
theorem IX (k:Nat):Fo.inv fe (TN ns k)=Fo.fl (vN ns) k:=by unfold TN;rw[C5];exact Fo.FN k
theorem KN (hk:k<=4):sI [.bytes (aq (TN ns k++[cN ns (k+1)])),.list ((TN ns k++[cN ns (k+1)]).map bA)]=XU (.bytes (aq (TN ns (k+1)))):=by rw[LM];exact HR (by rw[mR];exact bq 0x5a90b104a012 rfl hk) (DA k)
theorem O4 (hk:k<=4):Af [.bytes (aq (TN ns (k+1))),.list ((TN ns (k+1)).map bA)]=XU (.bytes (aq (TN ns k++[cN ns (k+1)]))):=by
 refine eH (Fo.Jr (v:=vN ns) k) fun a m h1 h2 h3=>?_;have hT:TN ns (k+1)=(cN ns a::m.map (cN ns))++[cN ns (k+1)]:=by unfold TN;rw[h1,YQ,YS];rfl
 have hl:(cN ns a::m.map (cN ns)).length<=5:=by have:=mR (ns:=ns) (k+1);rw[hT,Y9,YW]at this;exact aT 0x5a11990bb91b204a013 rfl hk this
 have hb:=xK (le:=fy (cN ns (k+1))) (low:=fy (cN ns (k+1)) (cN ns a)) (f:=cN ns) m a [];rw[List.map_nil]at hb;rw[hT,LH hl,hb];have:Fo.bwd (fun i=>fy (cN ns (k+1)) (cN ns i)) (fy (cN ns (k+1)) (cN ns a)) a [] m=Fo.tp (vN ns) k:=h3;rw[this];rfl
theorem FJ:∀{l m:List Nat},(∀c∈l,c<128)->(∀c∈m,c<128)->B8 l=B8 m->l=m
 |[],[],_,_,_=>rfl
 |[],_::_,_,_,h=>by(rcases h with⟨⟩)
 |_::_,[],_,_,h=>by(rcases h with⟨⟩)
 |a::l,b::m,h1,h2,h=>by have h':=h;have e1:=V4 UInt8.toNat (List.cons.inj h').1;rw[u8 (h1 a YJ),u8 (h2 b YJ)]at e1;rw[e1,FJ (fun c hc=>h1 c (YK _ hc)) (fun c hc=>h2 c (YK _ hc)) (List.cons.inj h').2]
theorem Iv {a b:Nat}(h:bS a=bS b):fe a=fe b:=by have hl:=FJ (kX a) (kX b) h;have h1:=(qT a).1;have h2:=(qT b).1;rw[hl,h2]at h1;have hd:=V4 Prod.fst h1;have e:bA a=bA b:=V4 Dat.list hd.symm;have q1:=(wI a b).2.2;have q2:=(wI b b).2.2;rw[e,q2]at q1;have:=XT q1;rw[VZ rfl]at this;exact VW this.symm
theorem vW:i∈Fo.tp (vN ns) k↔i<=k:=by rw[Fo.G5];lia
theorem Jx (hn:ns.length=6)(hk:k<=5):we [.bytes (aq (TN ns k)),.list ((ns.take (k+1)).map fun n=>.bytes (bS n))]=XU (.list (aL (Fo.tp (vN ns) k))):=by
 have hl:(ns.take (k+1)).length=k+1:=by rw[YV];exact aT 0x91b091bdf205a1106a023 rfl hn hk
 have hg:∀{i:Nat},i<=k->(ns.take (k+1)).getD i 0=cN ns i:=fun{i}hi=>by unfold cN;rw[Zp,Zp,List.getElem?_take,V7 (by exact aT 0x91b001012 rfl hi)]
 have h:=Ga (t:=Fo.tp (vN ns) k) (aT 0x6a1190b1205a013 rfl hk hl) (by rw[hl];exact Fo.qI k) (fun i j en hj hc=>by rw[hl]at hj;rw[hg (by exact br 0x20192b101003 rfl en hj),hg (by exact aT 0x10191b002 rfl hj)]at hc;exact Fo.CF k i j en (aT 0x10191b002 rfl hj) (Iv hc));have e:(Fo.tp (vN ns) k).map (fun i=>(ns.take (k+1)).getD i 0)=TN ns k:=YR fun i hi=>hg (vW.mp hi);rw[e]at h;exact h
noncomputable def oU (n:Nat):List Dat:=[.int ((n%15:Nat):Int),.int ((n/15%2:Nat):Int)]
theorem Kh:(Yy 15).all (fun p=>(Yy 15).all fun q=>(Yy 2).all fun b=>(Yy 2).all fun c=>JW.H0 (jH .Lt [.int (p:Int),.int (b:Int)] [.int (q:Int),.int (c:Int)] 0) (decide (2*p+b<2*q+c)))=true:=by decide +kernel
theorem Bw (a b:Nat):jH .Lt (oU a) (oU b) 0=XU (decide (fe a<fe b)):=by have h:=all2 Kh (X8 a (show 0<15 by decide)) (X8 b (show 0<15 by decide));have h:=all2 h (X8 (a/15) (by decide)) (X8 (b/15) (by decide));exact qR h
theorem Kg (a b:Nat):gI .Lt (XU (.list (oU a))) (XU (.list (oU b)))=XU (decide (fe a<fe b)):=gV.trans (Bw a b)
theorem uU:∀(l m:List Nat),l.Nodup->(∀x∈l,x∈m)->l.length<=m.length
 |[],m,_,_=>X1 _
 |a::l,m,hn,hs=>by
  rw[List.nodup_cons]at hn;have ha:=hs a YJ;have:=uU l (m.erase a) hn.2 fun x hx=>by have gS:x≠a:=fun q=>hn.1 (q▸hx);exact(List.mem_erase_of_ne gS).mpr (hs x (YK _ hx))
  rw[List.length_erase_of_mem ha]at this;have hp:=List.length_pos_of_mem ha;rw[Y8];exact aT 0x190b118091c013 rfl this hp
theorem Pc {N:Nat}{l:List Nat}(hn:l.Nodup)(hl:l.length=N)(hs:∀x∈l,x<N){r:Nat}(hr:r<N):r∈l:=by
 refine ZU fun hc=>?_;have:=uU (r::l) (Yy N) (List.nodup_cons.mpr ⟨hc,hn⟩) fun x hx=>by
  refine XR (YL.mp hx) (fun q=>?_) fun q=>?_
  ·rw[q];exact YD.mpr hr
  ·exact YD.mpr (hs x q)
 rw[Y8,YY]at this;exact aT 0x6190b11023 rfl hl this
theorem rH {v:Nat->Nat}{x:Nat}:¬Ks.prec v x x:=by unfold Ks.prec;exact aT 0x1100024000531 rfl
theorem uM {v:Nat->Nat}{x y:Nat}(h:Ks.prec v x y):¬Ks.prec v y x:=by unfold Ks.prec at *;exact cX 0x230012401053320102410052 rfl h
theorem GK {v:Nat->Nat}{k:Nat}{od:List Nat}(hl:od.length=k+1)(jw:∀x∈od,x<k+1)(hp:od.Pairwise (Ks.prec v)){j p q:Nat}(h1:od[j]?=XU p)(h2:od[j+1]?=XU q):Fo.Nb v k p q:=by
 have gS:∀{a b:Nat},Ks.prec v a b->a≠b:=fun h e=>by subst e;exact rH h
 have Jc:=hp.imp gS;have hj:=(Zh.mp h2).1;have pw:=List.pairwise_iff_getElem.mp hp;have N6:=(Zh.mp h1).2;have hqj:=(Zh.mp h2).2;refine⟨by have:=jw p (YE h1);exact aT 0x10191b002 rfl this,by have:=jw q (YE h2);exact aT 0x10191b002 rfl this,N6▸hqj▸pw j (j+1) (aT 0x100190b02 rfl hj) hj (bq 0x90b001 rfl),fun r hr hc=>?_⟩;obtain⟨i,hi,e⟩:=List.getElem_of_mem (Pc Jc hl jw (show r<k+1 by exact aT 0x91b001012 rfl hr));by_cases en:i<=j
 ·by_cases Ky:i=j
  ·subst Ky;rw[N6]at e;subst e;exact rH (show Ks.prec v p p from hc.1)
  ·have:=pw i j hi (by lia) (by lia);rw[e,N6]at this;exact uM this hc.1
 ·by_cases Ky:i=j+1
  ·subst Ky;rw[hqj]at e;subst e;exact rH (show Ks.prec v q q from hc.2)
  ·have:=pw (j+1) i (by assumption) hi (aT 0x91b091b02310133 rfl en Ky);rw[e,hqj]at this;exact uM this hc.2
theorem idx_int:∀(l:List Nat)(o:Nat),i∈l->nE (.int (i:Int)) (aL l) o=XU (o+l.idxOf i)
 |[],_,h=>nomatch h
 |y::ys,o,h=>by
  show(match qy (.int (y:Int)) (.int (i:Int))with|some true=>XU o|some false=>nE (.int (i:Int)) (aL ys) (o+1)|none=>XW)=_
  rw[qQ,Zd];by_cases q:y=i
  ·subst q;rw[show((y:Int)==(y:Int))=true from VX _,VX];rfl
  ·have q2:((y:Int)==(i:Int))=false:=by rw[V5];exact aT 0x1af0af9310232 rfl q
   rw[q2,show(y==i)=false from beq_eq_false_iff_ne.mpr q];dsimp only;rw[idx_int ys (o+1) ((YL.mp h).resolve_left fun w=>q w.symm),cond_false];congr 1;exact aT 0x91b0b190bb21 rfl
theorem zw (hl:l.length<=100)(h:i∈l):zc oW (.list (aL l)) (XU (.int (i:Int)))=XU (.int (l.idxOf i:Int)):=by show(if(aL l).length<=aW then(nE (.int (i:Int)) (aL l) 0).map fun j:Nat=>Dat.int (j:Int)else XW)=_;rw[V7 (by unfold aL;rw[Y4];unfold aW;exact bq 0xf42408f0164a012 rfl hl),idx_int l 0 h,X2];rfl
end
section
open PySem.NumText Mine.Internal.Co
variable {ns:List Nat} {bb:XO} {sc:List Dat}
def GC (bb:XO):Gs:=⟨xB bb,Uw,ym,rK,sI,Af,we,tw,B4⟩
def NC (sc:List Dat)(ns:List Nat):N1:=⟨sc,aL ns,ns.map fun n=>.list (oU n),ns.map fun n=>.bytes (bS n),ns.map fun n=>.str ⟨(zK n).toArray⟩⟩
def fV (ns:List Nat)(k:Nat):List Dat:=(Yy (k+1)).map fun j=>.bytes (aq (TN ns j))
theorem FO (k:Nat):fV ns (k+1)=fV ns k++[.bytes (aq (TN ns (k+1)))]:=by unfold fV;rw[Yw,YS];rfl
theorem CG (k:Nat):(fV ns k).length=k+1:=by unfold fV;rw[Y4,YY]
theorem FP (k:Nat)(hk:k<=5):dp (.list (fV ns k)) (.int (-1))=XU (.bytes (aq (TN ns k))):=by unfold fV;rw[Yw,YS];exact Co.item_last (by rw[Y4,YY];exact bq 0x3e88f0105a012 rfl hk)
theorem vZ (hk:k<=5)(hj:j<=k):dp (.list (fV ns k)) (.int (j:Int))=XU (.bytes (aq (TN ns j))):=by refine Co.item_at ?_ (by rw[CG];exact bq 0x3e88f90b105a012 rfl hk);unfold fV;exact Ag (aT 0x91b001012 rfl hj)
theorem iU (hn:ns.length=6)(hi:i<6):bQ (XU (.list (ns.map f))) (XU (.int (i:Int)))=XU (f (cN ns i)):=fu (by rw[Zg,Zk (by exact aT 0x1006a1006a023 rfl hn hi)];unfold cN;rw[Zp,Zk (by exact aT 0x1006a1006a023 rfl hn hi)];rfl) (by rw[Y4];exact bq 0x3e88f0106a022 rfl hn)
theorem Ge (h2:aP hi=true)(hl:ds.length<=aW):bB (XU (.list ds)) (XU XW) (XU (XU hi)) (XU XW)=XU (.list (pick ds XW (XU hi) XW)):=by show(if(XW:Option Int)=XU 0\/(XW:Option Int).all aP=false\/(XU hi).all aP=false\/(XW:Option Int).all aP=false then XW else(if ds.length<=aW then XU (Dat.list (pick ds XW (XU hi) XW))else XW))=_;rw[V6 (by simp[h2]),V7 hl]
theorem rt (hl:ds.length<=100)(hk:k<=ds.length):bB (XU (.list ds)) (XU XW) (eI (XU (.int (k:Int)))) (XU XW)=XU (.list (ds.take k)):=by rw[cG,Ge (ct (by exact bq 0xaf000f42408f9f81 rfl) (by exact aT 0xf42408f1af801164a013 rfl hl hk)) (by unfold aW;exact bq 0xf42408f0164a012 rfl hl),fW];refine V4 (fun l=>XU (Dat.list l)) ?_;show(ds.drop 0).take (clipAt ds.length (k:Int)-0)=_;rw[jg hk,Zz,Nat.sub_zero]
theorem ne_int (a b:Int):gI .NotEq (XU (.int a)) (XU (.int b))=XU (!(a==b)):=by rw[gV];show(qy (.int a) (.int b)).map (!·)=_;rw[qQ];rfl
theorem ne_bytes (a b:List UInt8):gI .NotEq (XU (.bytes a)) (XU (.bytes b))=XU (!(a==b)):=rfl
theorem AF {k:Nat}(g:List Nat)(hg:g∈lK){l:List Nat}(hl:l.length<=6):cK ym (XU (.bytes (aq l))) (XU (.str ⟨g.toArray⟩))=XU (.list (l.map bA)):=by rw[dq,FQ hl hg];rfl
theorem Qg (hn:ns.length=6){k:Nat}(hk:k<5){jp jt:Option Dat}:∃W VB VA,cz (dc (GC bb)) (oy (GC bb)) ay (bg (ee 6)) (Y0 ((k+1:Nat):Int) (Lp (NC sc ns) (fV ns k) (Fo.fl (vN ns) k:Int) jp jt))=XU (.next W)/\bT W (Y0 ((k+1:Nat):Int) (Lp (NC sc ns) (fV ns (k+1)) (Fo.fl (vN ns) (k+1):Int) (XU VB) (XU VA))):=by
 revert hn hk jp;refine xA5 VV ?_ k ns sc bb jt;generalize gB _ _=tt;dsimp only[K5];generalize tt.1.1.1=k,tt.1.1.2=ns,tt.1.2=sc,tt.2.1=bb,tt.2.2=jt;intro hn hk jp;have PC:=mR (ns:=ns) k;have v0:ev (dc (GC bb)) ay (aJ (l6 0)) (Y0 ((k+1:Nat):Int) (Lp (NC sc ns) (fV ns k) (Fo.fl (vN ns) k:Int) jp jt))=XU (.bytes (aq (TN ns k++[cN ns (k+1)]))):=by rw[Rt,FP k (by exact bq 0x5a0105a002 rfl hk)];have h:=iU (f:=fun n=>.bytes (bS n)) hn (show k+1<6 by exact bq 0x6a90b005a002 rfl hk);have:bQ (XU (.list (NC sc ns).cl)) (XU (.int ((k+1:Nat):Int)))=XU (.bytes (aq [cN ns (k+1)])):=h.trans (by rw[show aq [cN ns (k+1)]=bS (cN ns (k+1))from ZF _]);rw[this,fG (by rw[PC,YW];exact bq 0x14a990bb105a002 rfl hk)]
 have e0:=Vy (G:=GC bb) (Ψ:=oy (GC bb)) (V:=Y0 ((k+1:Nat):Int) (Lp (NC sc ns) (fV ns k) (Fo.fl (vN ns) k:Int) jp jt));rw[v0,bp]at e0;have v1:ev (dc (GC bb)) ay (aJ (l6 1)) (Y1 (aq (TN ns k++[cN ns (k+1)])) ((k+1:Nat):Int) (Lp (NC sc ns) (fV ns k) (Fo.fl (vN ns) k:Int) jp jt))=XU (.list ((TN ns k++[cN ns (k+1)]).map bA)):=by rw[Rr];have h:bQ (XU (.list (NC sc ns).ah)) (XU (.int ((k+1:Nat):Int)))=XU (.str ⟨(zK (cN ns (k+1))).toArray⟩):=iU hn (show k+1<6 by exact bq 0x6a90b005a002 rfl hk);rw[h];exact AF (k:=0) _ (xc _) (by rw[Y9,PC,YW];exact bq 0x6a990bb105a002 rfl hk)
 have e1:=Vx (G:=GC bb) (Ψ:=oy (GC bb)) (V:=Y1 (aq (TN ns k++[cN ns (k+1)])) ((k+1:Nat):Int) (Lp (NC sc ns) (fV ns k) (Fo.fl (vN ns) k:Int) jp jt));rw[v1,bp]at e1;have v2:=Rq (G:=GC bb) (td:=(TN ns k++[cN ns (k+1)]).map bA) (t:=aq (TN ns k++[cN ns (k+1)])) (k:=((k+1:Nat):Int)) (N:=NC sc ns) (tp:=fV ns k) (f:=(Fo.fl (vN ns) k:Int)) (jp:=jp) (jt:=jt);have mU:bB (XU (.list ((TN ns k++[cN ns (k+1)]).map bA))) (XU XW) (eI (XU (.int ((k+1:Nat):Int)))) (XU XW)=XU (.list ((TN ns k).map bA)):=by rw[rt (by rw[Y4,Y9,PC,YW];exact bq 0x64a990bb105a002 rfl hk) (by rw[Y4,Y9,PC,YW];exact bq 0x990bb90b11 rfl),YS,List.take_left' (by rw[Y4,PC])]
 rw[mU,ez,show(GC bb).gp=rK from rfl,yU (by rw[PC];exact bq 0x6a90b105a002 rfl hk),IX,ne_int,VX]at v2;have e3:=Vw (G:=GC bb) (Ψ:=oy (GC bb)) (td:=(TN ns k++[cN ns (k+1)]).map bA) (t:=aq (TN ns k++[cN ns (k+1)])) (k:=((k+1:Nat):Int)) (N:=NC sc ns) (tp:=fV ns k) (f:=(Fo.fl (vN ns) k:Int)) (jp:=jp) (jt:=jt);rw[dq,show(GC bb).gf=sI from rfl,KN (by exact bq 0x4a0105a002 rfl hk),nu (by rw[CG];unfold aW;exact bq 0xf42408f990bb105a002 rfl hk),<-FO]at e3;have v4:=Ro (G:=GC bb) (tq:=fV ns (k+1)) (td:=(TN ns k++[cN ns (k+1)]).map bA) (t:=aq (TN ns k++[cN ns (k+1)])) (k:=((k+1:Nat):Int)) (N:=NC sc ns) (tp:=fV ns k) (f:=(Fo.fl (vN ns) k:Int)) (jp:=jp) (jt:=jt);have h1:bQ (XU (.list (NC sc ns).ky)) (XU (.int ((k+1:Nat):Int)))=XU (.list (oU (cN ns (k+1)))):=iU hn (show k+1<6 by exact bq 0x6a90b005a002 rfl hk);have h2:bQ (XU (.list (NC sc ns).ky)) (bD .Sub (XU (.int ((k+1:Nat):Int))) (XU (.int 1)))=XU (.list (oU (cN ns k))):=by rw[aO,eU,show((k+1:Nat):Int)-1=(k:Int) by exact bq 0xaf990bafc91 rfl];exact iU hn (show k<6 by exact bq 0x6a0005a002 rfl hk)
 rw[h1,h2,Kg]at v4;have e4:=Rp (G:=GC bb) (Ψ:=oy (GC bb)) (tq:=fV ns (k+1)) (td:=(TN ns k++[cN ns (k+1)]).map bA) (t:=aq (TN ns k++[cN ns (k+1)])) (k:=((k+1:Nat):Int)) (N:=NC sc ns) (tp:=fV ns k) (f:=(Fo.fl (vN ns) k:Int)) (jp:=jp) (jt:=jt);rw[Q7];by_cases hc:vN ns (k+1)<vN ns k
 ·have ve:(Fo.fl (vN ns) (k+1):Int)=(Fo.fl (vN ns) k:Int)+((k+1:Nat):Int):=by rw[Fo.OO,V7 hc];exact aT 0x91baf0afb91b0baf91 rfl
  refine⟨(("falls":WS),.val (.int ((Fo.fl (vN ns) k:Int)+((k+1:Nat):Int))))::Y3 (fV ns (k+1)) ((TN ns k++[cN ns (k+1)]).map bA) (aq (TN ns k++[cN ns (k+1)])) ((k+1:Nat):Int) (Lp (NC sc ns) (fV ns k) (Fo.fl (vN ns) k:Int) jp jt),.bytes (aq (TN ns k++[cN ns (k+1)])),.list ((TN ns k++[cN ns (k+1)]).map bA),?_,?_⟩
  ·refine(ar (ax rfl e0)).trans ?_;refine(ar (ax rfl e1)).trans ?_;refine(ar (ax rfl ((fA (cH v2)).trans bP))).trans ?_;refine(ar (ax rfl e3)).trans ?_;refine(ar (ax rfl ((fA (cH (v4.trans (V4 XU (VZ hc))))).trans ((ar (ax rfl e4)).trans bP)))).trans ?_;exact bP
  ·rw[ve];rcases jp with⟨⟩<;>rcases jt with⟨⟩<;>exact bT.el rfl
 ·have ve:(Fo.fl (vN ns) (k+1):Int)=(Fo.fl (vN ns) k:Int):=by rw[Fo.OO,V6 hc]
  refine⟨Y3 (fV ns (k+1)) ((TN ns k++[cN ns (k+1)]).map bA) (aq (TN ns k++[cN ns (k+1)])) ((k+1:Nat):Int) (Lp (NC sc ns) (fV ns k) (Fo.fl (vN ns) k:Int) jp jt),.bytes (aq (TN ns k++[cN ns (k+1)])),.list ((TN ns k++[cN ns (k+1)]).map bA),?_,?_⟩
  ·refine(ar (ax rfl e0)).trans ?_;refine(ar (ax rfl e1)).trans ?_;refine(ar (ax rfl ((fA (cH v2)).trans bP))).trans ?_;refine(ar (ax rfl e3)).trans ?_;refine(ar (ax rfl ((fA (cH (v4.trans (V4 XU (VY hc))))).trans bP))).trans ?_;exact bP
  ·rw[ve];rcases jp with⟨⟩<;>rcases jt with⟨⟩<;>exact bT.el rfl
set_option tactic.hygienic true in
theorem Rh (hn:ns.length=6):∃V' d1 d2 d3,cP (jC (dc (GC bb)) (oy (GC bb)) ay (bR (ee 6)) (bg (ee 6))) ((Yy 5).map fun k:Nat=>.int ((k+1:Nat):Int)) (A6 (NC sc ns) (fV ns 0) 0)=XU (.next V')/\bT V' (B7 (NC sc ns) (fV ns 5) (Fo.fl (vN ns) 5:Int) (XU d1) (XU d2) (XU d3)):=by
 revert hn;refine TV VV ?_ ns sc bb;generalize gB _ _=tt;dsimp only[K3];generalize tt.1.1=ns,tt.1.2=sc,tt.2=bb;intro hn;refine DD (jd oB Q6 (fun s=>Lp (NC sc ns) (fV ns s.1) (Fo.fl (vN ns) s.1:Int) s.2.1 s.2.2) (fun done s=>s.1=done.length/\(done≠[]->s.2.1.isSome=true/\s.2.2.isSome=true)) (av:=(Yy 5).map fun k:Nat=>.int ((k+1:Nat):Int)) (fun done o rest s hi hI=>by
   obtain⟨k,jp,jt⟩:=s;refine aZ hI fun i1 i2=>?_;subst i1;have hlen:done.length<5:=by have:=V4 Za hi;simp at this;exact aT 0x5a0091b0b05a22 rfl this
   have ho:o=.int ((done.length+1:Nat):Int):=by have h5:=V4 (fun l=>l[done.length]?) hi;simp only[Zn (Yh _),X4,Zl]at h5;rw[Zg,Zf hlen]at h5;exact(XT h5).symm
   subst ho;refine jX (Qg (bb:=bb) (sc:=sc) (jp:=jp) (jt:=jt) hn hlen) fun W VB VA h1 h2=>?_;exact⟨(done.length+1,XU VB,XU VA),W,h1,h2,by rw[Y9,YW],fun x=>⟨rfl,rfl⟩⟩)
  _ [] (A6 (NC sc ns) (fV ns 0) 0) (0,XW,XW) XW rfl (.refl _) ⟨rfl,fun q=>absurd rfl q⟩) ?_;rintro V' J ⟨k,jp,jt⟩ h1 hJ h2 h3 h4
 dsimp only at h2 h3 h4;have hk:k=5:=by rw[h3,Y4,YY]
 subst hk;have h5:=h4 (by simp);have h6:=hJ (.inr (by simp));rcases J with⟨⟩;case none=>(rcases h6 with⟨⟩)
 case some d1=>cases jp with
  |none=>exact absurd h5.1 ZX
  |some d2=>cases jt with
   |none=>exact absurd h5.2 ZX|some d3=>exact⟨V',d1,d2,d3,h1,h2⟩
end
section
open PySem.NumText Mine.Internal.Co
variable {N:N1} {sd tp:List Dat} {k:Int} {ns:List Nat} {bb:XO} {sc lt:List Dat} {tn:List UInt8} {f:Int} {d1 d2 d3:Dat} {js jo jk:Option Dat}
def Mc (ns:List Nat)(k:Nat):List (List Dat):=(Yy (k+1)).map fun i=>oU (cN ns i)
theorem Hh {k i:Nat}(hi:i<k+1):(Mc ns k)[i]?=XU (oU (cN ns i)):=by unfold Mc;rw[Zg,Zf hi];rfl
theorem Kj (k:Nat):oP (Mc ns k)=true:=by unfold oP Mc;simp only[ZH,YH];rintro _ ⟨a,_,rfl⟩ _ ⟨b,_,rfl⟩;rw[Bw];rfl
theorem NN {k i j:Nat}(hi:i<k+1)(hj:j<k+1):uR (Mc ns k) i j=decide (vN ns i<vN ns j):=by unfold uR;rw[Hh hi,Hh hj,XZ,XZ,Bw];rfl
def wL (ns:List Nat)(k:Nat):List Nat:=Ks.eV (uR (Mc ns k)) (k+1)
theorem GU (k:Nat):(wL ns k).length=k+1/\(∀x∈wL ns k,x<k+1)/\(wL ns k).Pairwise (Ks.prec (vN ns)):=Ks.AP fun i j hi hj=>NN hi hj
theorem JB (k:Nat):yG (Mc ns k) ((Yy (k+1)).map fun k:Nat=>.int (k:Int))=aL (wL ns k):=by unfold yG aL wL;rw[show((Yy (k+1)).map fun k:Nat=>Dat.int (k:Int)).length=k+1 by simp];refine YR fun i hi=>?_;rw[Zp,Ag ((GU k).2.1 i hi)];rfl
theorem J0:((Ep (lX 1)).names.all fun p=>p.2 != .free||mB ((Z1 sd k (E9 N tp f d1 d2 d3 lt tn js jo jk)).lookup p.1))=true:=by rcases js with⟨⟩<;>rcases jo with⟨⟩<;>rcases jk with⟨⟩<;>rfl
theorem Gm (hn:ns.length=6){k:Nat}(hk:k<=5){sd tp:List Dat}:oy (GC bb) ay (lX 1) (Z1 sd (k:Int) (E9 (NC sc ns) tp f d1 d2 d3 lt tn js jo jk))=XU (.next (Z2 (aL (wL ns k)) sd (k:Int) (E9 (NC sc ns) tp f d1 d2 d3 lt tn js jo jk))):=by
 have hit:bM (.range 0 ((k+1:Nat):Int) 1)=XU ((Yy (k+1)).map fun k:Nat=>.int (k:Int)):=dm (by unfold aW;exact bq 0xf42408f90b105a012 rfl hk);have hi:ev (dc (GC bb)) ay (Hg (lX 1)) (Z1 sd (k:Int) (E9 (NC sc ns) tp f d1 d2 d3 lt tn js jo jk))=XU (.range 0 ((k+1:Nat):Int) 1):=by rw[NK,aO,eA,show(k:Int)+1=((k+1:Nat):Int) by exact bq 0x90baf90afb91 rfl,mx]
 have HD:gR (dc (GC bb)) (Ep (lX 1)) (NI (lX 1)) (Z1 sd (k:Int) (E9 (NC sc ns) tp f d1 d2 d3 lt tn js jo jk)) ((Yy (k+1)).map fun k:Nat=>.int (k:Int))=XU (Mc ns k):=by refine pV _ fun i hi=>?_;have:=YD.mp hi;rw[Rm];exact iU hn (aT 0x6a1090b1005a013 rfl hk this)
 have h:=AO (x:="order") (by decide +kernel:gH ay (Ep (lX 1))=true) J0 (by rfl) hi hit (by simp;exact bq 0x40a90b005a012 rfl hk) HD (Kj k);rw[JB]at h;exact(dC rfl).trans (h.trans rfl)
theorem lt_int (a b:Nat):qB .Lt (XU (.int (a:Int))) (XU (.int (b:Int)))=XU (.bool (decide (a<b))):=by refine pq ?_;exact V4 XU (decide_eq_decide.mpr Int.ofNat_lt)
theorem ne_bool (a b:Bool):gI .NotEq (XU (.bool a)) (XU (.bool b))=XU (!(a==b)):=by rcases a with⟨⟩<;>rcases b with⟨⟩<;>rfl
theorem qP {Φ:fN}{sc:WY}{V:az}{op:BoolOp}{e:Expr}{es:List Expr}:ew Φ sc op (e::es) V=(dQ Φ sc e V (ev Φ sc e V)).bind fun c=>cn (pJ op c) (XU c) (ew Φ sc op es V):=rfl
theorem B2 {Φ:fN}{sc:WY}{V:az}{a b:Expr}(h1:dQ Φ sc a V (ev Φ sc a V)=XU false):ew Φ sc .And [a,b] V=XU false:=by rw[qP,h1];rfl
theorem B1 {Φ:fN}{sc:WY}{V:az}{a b:Expr}{c:Bool}(h1:dQ Φ sc a V (ev Φ sc a V)=XU true)(h2:dQ Φ sc b V (ev Φ sc b V)=XU c):ew Φ sc .And [a,b] V=XU c:=by rw[qP,h1];rw[qP,h2];rcases c with⟨⟩<;>rfl
theorem EN {Φ:fN}{sc:WY}{V:az}{a b c:Expr}(h1:dQ Φ sc a V (ev Φ sc a V)=XU false)(h2:dQ Φ sc b V (ev Φ sc b V)=XU false)(h3:dQ Φ sc c V (ev Φ sc c V)=XU false):ew Φ sc .Or [a,b,c] V=XU false:=by rw[qP,h1];exact HZ h2 h3
end
section
open PySem.NumText Mine.Internal.Co
variable {N:N1} {sd:List Dat} {ns:List Nat} {bb:XO} {sc lt:List Dat} {tn:List UInt8} {f:Int} {d1 d2 d3:Dat} {js jo jk:Option Dat}
def LX (p b:Nat):Bool:=match ml (.list (fQ p b))with
 |some q=>W6.eqv q q&&decide (q.depth<=3)|none=>false
theorem Gk:(Yy 15).all (fun p=>(Yy 2).all fun b=>LX p b)=true:=by decide +kernel
theorem JG (n:Nat):∃q,ml (bA n)=XU q/\W6.eqv q q=true/\q.depth<=3:=by have h:=all2 Gk (X8 n (show 0<15 by decide)) (X8 (n/15) (show 0<2 by decide));unfold LX at h;have e:bA n=.list (fQ (n%15) (n/15%2)):=rfl;rw[e];cases hq:ml (.list (fQ (n%15) (n/15%2)))with|none=>rw[hq]at h;exact absurd h ZX|some q=>rw[hq]at h;have h2:=h;rw[Z6]at h2;exact⟨q,rfl,h2.1,VW h2.2⟩
theorem FT:fB (d::ds)=(match ml d with|none=>XW|some p=>match fB ds with|none=>XW|some ps=>XU (p::ps)):=rfl
theorem FU:ml (.list ds)=(match fB ds with|some ps=>XU (.list ps)|none=>XW):=rfl
theorem uH:∀ks:List Nat,∃qs,fB (ks.map bA)=XU qs/\W6.eqvAll qs qs=true/\W6.depthAll qs<=3
 |[]=>⟨[],rfl,by simp[W6.eqvAll],X1 _⟩
 |n::ks=>by
  refine eB (JG n) fun q h1 h2 h3=>?_;refine eB (uH ks) fun qs g1 g2 g3=>?_;refine⟨q::qs,?_,?_,?_⟩
  ·rw[YQ,FT,h1,g1]
  ·rw[W6.eqvAll,h2,g2];rfl
  ·rw[W6.depthAll];exact Nat.max_le.mpr ⟨h3,g3⟩
theorem JF (ks:List Nat):qB .Eq (XU (.list (ks.map bA))) (XU (.list (ks.map bA)))=XU (.bool true):=by refine pq ?_;show qy (.list (ks.map bA)) (.list (ks.map bA))=XU true;refine eB (uH ks) fun qs g1 g2 g3=>?_;unfold qy;rw[FU,g1];dsimp only;rw[V7 (by rw[W6.depth];exact bq 0x3ca90b13ca90b1403a012 rfl g3),W6.eqv,g2]
theorem BE (hk:k<=5):∃V' jq,cP (jC (dc (GC bb)) (oy (GC bb)) ay (bR (lX 2)) [.If (aN (aB (bg (lX 2)) 0)) (bN (aB (bg (lX 2)) 0)) [] (gy (aB (bg (lX 2)) 0))]) ((Yy k).map fun k:Nat=>.int (k:Int)) (Z2 (aL (wL ns k)) (aL (Fo.tp (vN ns) k)) (k:Int) (E9 N tp f d1 d2 d3 lt tn js jo jk))=XU (.next V')/\bT V' (Z3 jq (Z2 (aL (wL ns k)) (aL (Fo.tp (vN ns) k)) (k:Int) (E9 N tp f d1 d2 d3 lt tn js jo jk))):=by
 refine bH (GU (ns:=ns) k) fun ol om op=>?_;refine iL (jd (Ψ:=oy (GC bb)) (body:=[.If (aN (aB (bg (lX 2)) 0)) (bN (aB (bg (lX 2)) 0)) [] (gy (aB (bg (lX 2)) 0))]) oB Rl (fun x=>Z2 (aL (wL ns k)) (aL (Fo.tp (vN ns) k)) (k:Int) (E9 N tp f d1 d2 d3 lt tn js jo jk)) (fun x x=>True) (av:=(Yy k).map fun k:Nat=>.int (k:Int)) (fun done o rest a hi x=>by
   have hlen:done.length<k:=by have:=V4 Za hi;simp at this;exact br 0x1092b1b022 rfl this
   have ho:o=.int (done.length:Int):=by have h5:=V4 (fun l=>l[done.length]?) hi;simp only[Zn (Yh _),X4,Zl]at h5;rw[Zg,Zf hlen]at h5;exact(XT h5).symm
   subst ho;generalize done.length=i at hlen;obtain⟨p,hp⟩:∃p,(wL ns k)[i]?=XU p:=⟨_,Zk (br 0x2012091b023 rfl ol hlen)⟩;obtain⟨q,hq⟩:∃q,(wL ns k)[i+1]?=XU q:=⟨_,Zk (br 0x92b012091b023 rfl ol hlen)⟩;have Kw:=GK ol om op hp hq;have hpm:p∈Fo.tp (vN ns) k:=vW.mpr Kw.1;have hqm:q∈Fo.tp (vN ns) k:=vW.mpr Kw.2.1;have Kr:(Fo.tp (vN ns) k).length<=100:=by rw[Fo.vX];exact bq 0x64a90b105a012 rfl hk
   have iat:∀{j r:Nat},(wL ns k)[j]?=XU r->bQ (XU (.list (aL (wL ns k)))) (XU (.int (j:Int)))=XU (.int (r:Int)):=fun{j r}h=>fu (by unfold aL;rw[Zg,h];rfl) (by unfold aL;rw[Y4];exact aT 0x3e88f1190b1205a013 rfl hk ol);have hv:=Rk (G:=GC bb) (i:=(i:Int)) (jq:=XW) (od:=aL (wL ns k)) (sd:=aL (Fo.tp (vN ns) k)) (k:=(k:Int)) (N:=N) (tp:=tp) (f:=f) (d1:=d1) (d2:=d2) (d3:=d3) (lt:=lt) (tn:=tn) (js:=js) (jo:=jo) (jk:=jk);rw[aO,eA,show(i:Int)+1=((i+1:Nat):Int) by exact bq 0x90baf90afb91 rfl,iat hp,iat hq,zw Kr hpm,zw Kr hqm,lt_int,lt_int,ne_bool]at hv;have hb:(decide (p<q)==decide ((Fo.tp (vN ns) k).idxOf p<(Fo.tp (vN ns) k).idxOf q))=true:=by rw[V3];exact decide_eq_decide.mpr (Fo.LS k p q Kw)
   rw[hb]at hv;exact⟨(),_,(ar (ax rfl ((fA (cH hv)).trans bP))).trans bP,.refl _,trivial⟩)
  _ [] (Z2 (aL (wL ns k)) (aL (Fo.tp (vN ns) k)) (k:Int) (E9 N tp f d1 d2 d3 lt tn js jo jk)) () XW rfl (.refl _) trivial) fun V' J a h1 hJ h2 h3=>?_
 exact⟨V',J,h1,h2⟩
set_option tactic.hygienic true in
theorem M4 (hn:ns.length=6)(hk:k<=5):∃W VC VD,cz (dc (GC bb)) (oy (GC bb)) ay (bg (ee 10)) (Z0 (k:Int) (E9 (NC sc ns) (fV ns 5) f d1 d2 d3 lt tn js jo jk))=XU (.next W)/\bT W (Z0 (k:Int) (E9 (NC sc ns) (fV ns 5) f d1 d2 d3 lt tn (XU (.list (aL (Fo.tp (vN ns) k)))) VC VD)):=by
 revert hn hk;refine mX (bL (bL (bL (bL G1 G1) (bL G1 VV)) VV) VV) ?_ d1 d2 d3 ns sc lt tn f k bb jk jo js;generalize gB _ _=tt;dsimp only[As];generalize tt.1.1.1.1=d1,tt.1.1.1.2=d2,tt.1.1.2.1=d3,tt.1.1.2.2=ns,tt.1.2.1.1=sc,tt.1.2.1.2=lt,tt.1.2.2=tn,tt.2.1.1.1=f,tt.2.1.1.2=k,tt.2.1.2=bb,tt.2.2.1.1=jk,tt.2.2.1.2=jo,tt.2.2.2=js;intro hn hk;have v0:ev (dc (GC bb)) ay (aJ (lX 0)) (Z0 (k:Int) (E9 (NC sc ns) (fV ns 5) f d1 d2 d3 lt tn js jo jk))=XU (.list (aL (Fo.tp (vN ns) k))):=by
  rw[Rn,vZ (by decide) hk,aO,eA,show(k:Int)+1=((k+1:Nat):Int) by exact bq 0x90baf90afb91 rfl];have hs:bB (XU (.list (NC sc ns).cl)) (XU XW) (eI (XU (.int ((k+1:Nat):Int)))) (XU XW)=XU (.list ((ns.take (k+1)).map fun n=>.bytes (bS n))):=by have h:=rt (ds:=(NC sc ns).cl) (by show(ns.map _).length<=100;rw[Y4];exact bq 0x64a0106a022 rfl hn) (by show k+1<=(ns.map _).length;rw[Y4];exact aT 0x91b105a1106a023 rfl hn hk);rw[h];exact V4 (fun l=>XU (Dat.list l)) List.map_take.symm
  rw[hs,dq];exact Jx hn hk
 have e0:=Vv (G:=GC bb) (Ψ:=oy (GC bb)) (V:=Z0 (k:Int) (E9 (NC sc ns) (fV ns 5) f d1 d2 d3 lt tn js jo jk));rw[v0,bp]at e0;have e1:=Gm (bb:=bb) (sc:=sc) (f:=f) (d1:=d1) (d2:=d2) (d3:=d3) (lt:=lt) (tn:=tn) (js:=js) (jo:=jo) (jk:=jk) hn hk (sd:=aL (Fo.tp (vN ns) k)) (tp:=fV ns 5);refine fE (BE (bb:=bb) (N:=NC sc ns) (ns:=ns) (f:=f) (d1:=d1) (d2:=d2) (d3:=d3) (lt:=lt) (tn:=tn) (js:=js) (jo:=jo) (jk:=jk) hk (tp:=fV ns 5)) fun V' jq h1 h2=>?_;have hit:ev (dc (GC bb)) ay (bO (lX 2)) (Z2 (aL (wL ns k)) (aL (Fo.tp (vN ns) k)) (k:Int) (E9 (NC sc ns) (fV ns 5) f d1 d2 d3 lt tn js jo jk))=XU (.range 0 (k:Int) 1):=by rw[NJ,mx]
 have oY:=(lz (p:=dO (lX 2)) rfl hit (dm (by unfold aW;exact bq 0xf42408f0105a012 rfl hk))).trans h1;have v3:dQ (dc (GC bb)) ay (aN (lX 3)) (Z3 jq (Z2 (aL (wL ns k)) (aL (Fo.tp (vN ns) k)) (k:Int) (E9 (NC sc ns) (fV ns 5) f d1 d2 d3 lt tn js jo jk))) (ev (dc (GC bb)) ay (aN (lX 3)) (Z3 jq (Z2 (aL (wL ns k)) (aL (Fo.tp (vN ns) k)) (k:Int) (E9 (NC sc ns) (fV ns 5) f d1 d2 d3 lt tn js jo jk))))=XU false:=by
  rw[Vu];rcases k with⟨⟩;case zero=>refine B2 ?_;rw[Mb];rfl
  case succ k=>
   refine B1 ?_ ?_
   ·rw[Mb];show XU (!(((k+1:Nat):Int)==0))=XU true;rw[show(((k+1:Nat):Int)==0)=false from beq_eq_false_iff_ne.mpr (by exact bq 0x890baf931 rfl)];rfl
   ·have hg:bQ (XU (.list (NC sc ns).ah)) (XU (.int ((k+1:Nat):Int)))=XU (.str ⟨(zK (cN ns (k+1))).toArray⟩):=iU hn (show k+1<6 by exact bq 0x6a90b005a90b12 rfl hk);have hc:bQ (XU (.list (NC sc ns).cl)) (XU (.int ((k+1:Nat):Int)))=XU (.bytes (aq [cN ns (k+1)])):=(iU hn (show k+1<6 by exact bq 0x6a90b005a90b12 rfl hk)).trans (by rw[show aq [cN ns (k+1)]=bS (cN ns (k+1))from ZF _]);have hp:bQ (XU (.list (fV ns 5))) (bD .Sub (XU (.int ((k+1:Nat):Int))) (XU (.int 1)))=XU (.bytes (aq (TN ns k))):=by rw[aO,eU,show((k+1:Nat):Int)-1=(k:Int) by exact bq 0xaf990bafc91 rfl];exact oH.trans (vZ (by decide) (bq 0x5a0105a90b12 rfl hk))
    rw[Rj,vZ (by decide) hk,hg,hc,hp,show(GC bb).gt=ym from rfl,AF (k:=0) _ (xc _) (by rw[mR];exact bq 0x6a990bb105a90b12 rfl hk),dq,show(GC bb).gb=Af from rfl,O4 (by exact bq 0x4a0105a90b12 rfl hk),fG (by rw[mR,YW];exact bq 0x14a990bb105a90b12 rfl hk),ne_bytes,VX];rfl
 refine aE (nX (Ψ:=oy (GC bb)) oB h2 (sts:=[.If (aN (lX 3)) (bN (lX 3)) [] (gy (lX 3))]) ((ar (ax rfl ((fA (cH v3)).trans bP))).trans bP)) fun W' h5 h6=>?_;refine⟨W',XU (.list (aL (wL ns k))),(jq.or jk),?_,h6.trans ?_⟩
 ·rw[Q0];refine(ar (ax rfl e0)).trans ?_;refine(ar (dg e1)).trans ?_;exact(ar (ax rfl oY)).trans h5
 ·rcases jq with⟨⟩<;>rcases js with⟨⟩<;>rcases jo with⟨⟩<;>rcases jk with⟨⟩<;>exact bT.el rfl
theorem ND (hn:ns.length=6):∃V' J jo jk,cP (jC (dc (GC bb)) (oy (GC bb)) ay (bR (ee 10)) (bg (ee 10))) ((Yy 6).map fun k:Nat=>.int (k:Int)) (B9 (NC sc ns) (fV ns 5) f (XU d1) (XU d2) (XU d3) lt tn)=XU (.next V')/\bT V' (jv "new" J++E9 (NC sc ns) (fV ns 5) f d1 d2 d3 lt tn (XU (.list (aL (Fo.tp (vN ns) 5)))) jo jk):=by
 refine iL (jd oB QZ (fun s=>E9 (NC sc ns) (fV ns 5) f d1 d2 d3 lt tn s.1 s.2.1 s.2.2) (fun done s=>∀k,done.length=k+1->s.1=XU (.list (aL (Fo.tp (vN ns) k)))) (av:=(Yy 6).map fun k:Nat=>.int (k:Int)) (fun done o rest s hi hI=>by
   obtain⟨js,jo,jk⟩:=s;have hlen:done.length<6:=by have:=V4 Za hi;simp at this;exact aT 0x6a0091b0b06a22 rfl this
   have ho:o=.int (done.length:Int):=by have h5:=V4 (fun l=>l[done.length]?) hi;simp only[Zn (Yh _),X4,Zl]at h5;rw[Zg,Zf hlen]at h5;exact(XT h5).symm
   subst ho;refine jX (M4 (bb:=bb) (sc:=sc) (f:=f) (d1:=d1) (d2:=d2) (d3:=d3) (lt:=lt) (tn:=tn) (js:=js) (jo:=jo) (jk:=jk) hn (show done.length<=5 by exact bq 0x5a0106a002 rfl hlen)) fun W VC VD h1 h2=>?_;refine⟨(XU (.list (aL (Fo.tp (vN ns) done.length))),VC,VD),W,h1,h2,fun k hk=>?_⟩;rw[Y9,YW]at hk;obtain rfl:done.length=k:=aT 0x10291b90b22 rfl hk;rfl)
  _ [] (B9 (NC sc ns) (fV ns 5) f (XU d1) (XU d2) (XU d3) lt tn) (XW,XW,XW) XW rfl (.refl _) (fun k hk=>by rcases hk with⟨⟩)) ?_;rintro V' J ⟨js,jo,jk⟩ h1 hJ h2 h3
 have h4:=h3 5 (by rw[Y4,YY]);subst h4;exact⟨V',J,jo,jk,h1,h2⟩
end
section
open PySem.NumText Mine.Internal.Co
variable {N:N1} {sd:List Dat} {ns:List Nat} {bb:XO} {sc lt:List Dat} {tn:List UInt8} {f:Int} {d1 d2 d3:Dat} {js jo jk:Option Dat} {is:List Int}
theorem lD {f:Dat->Option (List Dat)}{g:Nat->Dat}(hn:ns.length=6)(h:∀n∈ns,f (.int (n:Int))=XU [g n]):eP (XU (.list (aL ns))) f=XU (.list (ns.map g)):=by
 rw[f9 (g:=fun d=>match d with| .int i=>g i.toNat|d=>d) rfl (fun d hd=>?_) (by unfold aL aW;rw[Y4];exact bq 0xf42408f0106a022 rfl hn)]
 ·unfold aL;rw[YO];rfl
 ·unfold aL at hd;refine aE (YH.mp hd) ?_;rintro n Mm (rfl);exact h n Mm
theorem OC {n:Nat}(h:n<126000):bQ (XU (.list OD)) (bD .FloorDiv (XU (.int (n:Int))) (XU (.int 25200)))=XU (.str ⟨(zK n).toArray⟩):=by
 rw[aO,tA (by decide) (by decide),show((n:Int).fdiv 25200)=((n/25200:Nat):Int)from sO n 25200];refine fu ?_ (by decide);have hq:n/25200<lK.length:=by rw[Nat.div_lt_iff_lt_mul (by decide)];exact h
 rw[show OD=lK.map fun g=>Dat.str ⟨g.toArray⟩from rfl,Zg,Zk hq];unfold zK;rw[Zp,Zk hq];rfl
theorem NM (n:Nat):hH (Rf (bD .Mod (XU (.int (n:Int))) (XU (.int 15))) (bD .Mod (bD .FloorDiv (XU (.int (n:Int))) (XU (.int 15))) (XU (.int 2))))=XU [.list (oU n)]:=by rw[aO,k9 (by decide),show((n:Int).fmod 15)=((n%15:Nat):Int)from sM n 15,aO,tA (by decide) (by decide),show((n:Int).fdiv 15)=((n/15:Nat):Int)from sO n 15,aO,k9 (by decide),show(((n/15:Nat):Int).fmod 2)=((n/15%2:Nat):Int)from sM (n/15) 2];rfl
theorem Nh:bM (.range 1 6 1)=XU ((Yy 5).map fun k:Nat=>.int ((k+1:Nat):Int)):=by rfl
theorem Kf (hn:ns.length=6):cz (dc (GC bb)) (oy (GC bb)) ay [ee 7,ee 8,.If (aN (ee 9)) (bN (ee 9)) [] (gy (ee 9)),.For (bR (ee 10)) (bO (ee 10)) (bg (ee 10)) [] (dO (ee 10)),.Return (XU (cu (ee 11))) (gD (ee 11))] (B7 (NC sc ns) (fV ns 5) (Fo.fl (vN ns) 5:Int) (XU d1) (XU d2) (XU d3))=XU (.ret (.bool true)):=by
 have hT:=mR (ns:=ns) 5;have h5:=vZ (ns:=ns) (k:=5) (j:=5) (by decide) (by decide);have v7:ev (dc (GC bb)) ay (uX 7) (B7 (NC sc ns) (fV ns 5) (Fo.fl (vN ns) 5:Int) (XU d1) (XU d2) (XU d3))=XU (.list ((TN ns 5).map bA)):=by have hg:bQ (XU (.list (NC sc ns).ah)) (XU (.int 0))=XU (.str ⟨(zK (cN ns 0)).toArray⟩):=iU (i:=0) hn (by decide);rw[Q5,hg];have Sh:dp (.list (fV ns 5)) (.int 5)=XU (.bytes (aq (TN ns 5))):=h5;rw[Sh];exact AF (k:=0) _ (xc _) (bq 0x6a01905ab022 rfl hT)
 have e7:=Vm (G:=GC bb) (Ψ:=oy (GC bb)) (V:=B7 (NC sc ns) (fV ns 5) (Fo.fl (vN ns) 5:Int) (XU d1) (XU d2) (XU d3));rw[v7,bp]at e7;have hb:(aq (TN ns 5)).length=42:=by rw[i5,hT]
 have v8:ev (dc (GC bb)) ay (uX 8) (UE (NC sc ns) (fV ns 5) (Fo.fl (vN ns) 5:Int) (XU d1) (XU d2) (XU d3) ((TN ns 5).map bA))=XU (.bytes (aq (TN ns 5)).reverse):=by have Sh:dp (.list (fV ns 5)) (.int 5)=XU (.bytes (aq (TN ns 5))):=h5;rw[Q4,Sh,dq];have hs:=tv (b:=aq (TN ns 5)) (w:=42) (by decide) (by decide) (by rw[hb];decide) (by rw[hb]);have hw:=yv (b:=aq (TN ns 5)) (by rw[hb];decide);rw[hb]at hw;rw[hw,show(((42:Nat):Int))=(42:Int)from rfl]at hs;rw[show(GC bb).gw=tw from rfl,hs]
 have e8:=Vl (G:=GC bb) (Ψ:=oy (GC bb)) (V:=UE (NC sc ns) (fV ns 5) (Fo.fl (vN ns) 5:Int) (XU d1) (XU d2) (XU d3) ((TN ns 5).map bA));rw[v8,bp]at e8;have v9:dQ (dc (GC bb)) ay (aN (ee 9)) (B9 (NC sc ns) (fV ns 5) (Fo.fl (vN ns) 5:Int) (XU d1) (XU d2) (XU d3) ((TN ns 5).map bA) (aq (TN ns 5)).reverse) (ev (dc (GC bb)) ay (aN (ee 9)) (B9 (NC sc ns) (fV ns 5) (Fo.fl (vN ns) 5:Int) (XU d1) (XU d2) (XU d3) ((TN ns 5).map bA) (aq (TN ns 5)).reverse))=XU false:=by
  rw[Vk];refine EN ?_ Q2 ?_
  ·rw[Q3,ez,show(GC bb).gp=rK from rfl,yU (by exact bq 0x6a01905ab022 rfl hT),IX,ne_int,VX];rfl
  ·have Sh:dp (.list (fV ns 5)) (.int 5)=XU (.bytes (aq (TN ns 5))):=h5;rw[Q1,Sh,cG,pN (by decide) rfl rfl (by decide) (by rw[hb];decide),GI,ne_bytes,VX];rfl
 refine DE (ND (bb:=bb) (sc:=sc) (f:=(Fo.fl (vN ns) 5:Int)) (d1:=d1) (d2:=d2) (d3:=d3) (lt:=(TN ns 5).map bA) (tn:=(aq (TN ns 5)).reverse) hn) fun V' J jo jk h1 h2=>?_;have oY:=(lz (Ψ:=oy (GC bb)) (b:=bg (ee 10)) (t:=bR (ee 10)) (p:=dO (ee 10)) rfl Nz (dm (n:=6) (by decide))).trans h1;refine(ar (ax rfl e7)).trans ?_;refine(ar (ax rfl e8)).trans ?_;refine(ar (ax rfl ((fA (cH v9)).trans bP))).trans ?_;refine(ar (ax rfl oY)).trans ?_;refine iG (Ψ:=oy (GC bb)) oB h2 ?_;have HK:eP (XU (.list (aL (Fo.tp (vN ns) 5)))) (fun d=>hH (jN (GC bb).gu (bQ (XU (.list (NC sc ns).ky)) (XU d))))=XU (.list ((TN ns 5).map bA)):=by
  refine(lD (ns:=Fo.tp (vN ns) 5) (g:=fun i=>bA (cN ns i)) (Fo.vX 5) fun i hi=>?_).trans ?_
  ·have hk:bQ (XU (.list (NC sc ns).ky)) (XU (.int (i:Int)))=XU (.list (oU (cN ns i))):=iU hn (by have:=vW.mp hi;exact bq 0x6a0005a012 rfl this);rw[hk,ez];show hH (B4 [Ki (cN ns i%15) (cN ns i/15%2)])=_;rw[H4 (X8 _ (by decide)) (X8 _ (by decide))];rfl
  ·unfold TN;rw[YO];rfl
 have hv:=NB (G:=GC bb) (N:=NC sc ns) (tp:=fV ns 5) (f:=(Fo.fl (vN ns) 5:Int)) (d1:=d1) (d2:=d2) (d3:=d3) (lt:=(TN ns 5).map bA) (tn:=(aq (TN ns 5)).reverse) (sd:=aL (Fo.tp (vN ns) 5)) (J:=J) (jo:=jo) (jk:=jk);rw[HK,JF]at hv;exact er (ax rfl (d0 (fM hv))) (fun v q=>by rcases q with⟨⟩)
theorem Ke (hl:is.length<=63):cz (dc (GC bb)) (oy (GC bb)) ay oS (bI ["script"] [.list (is.map .int)])=XU (.ret (.bool true)):=by refine eB (H7 (bb:=bb) hl) fun ns h1 hn jw=>?_;have e0:=Vs (G:=GC bb) (Ψ:=oy (GC bb)) (V:=A0 (is.map .int));rw[Rb,ez,show(GC bb).gd=xB bb from rfl,h1,bp]at e0;have e1:=Vr (G:=GC bb) (Ψ:=oy (GC bb)) (V:=A1 (is.map .int) (aL ns));rw[Ra,lD hn (fun n x=>NM n),bp]at e1;have e2:=Vq (G:=GC bb) (Ψ:=oy (GC bb)) (V:=A2 (is.map .int) (aL ns) (ns.map fun n=>.list (oU n)));rw[Q9,lD hn (fun n x=>by rw[ez,show(GC bb).ge=Uw from rfl,Lr];rfl),bp]at e2;have e3:=Vp (G:=GC bb) (Ψ:=oy (GC bb)) (V:=A3 (is.map .int) (aL ns) (ns.map fun n=>.list (oU n)) (ns.map fun n=>.bytes (bS n)));rw[Q8,lD hn (fun n h=>by rw[OC (jw n h)];rfl),bp]at e3;have e4:=Vo (G:=GC bb) (Ψ:=oy (GC bb)) (N:=NC (is.map .int) ns);have hc:bQ (XU (.list (NC (is.map .int) ns).cl)) (XU (.int 0))=XU (.bytes (aq (TN ns 0))):=(iU (i:=0) hn (by decide)).trans (by rw[show aq (TN ns 0)=bS (cN ns 0)from ZF _]);rw[hc,XZ,XZ,V7 (by rw[YW];unfold aW;lia)]at e4;refine DE (Rh (bb:=bb) (sc:=is.map .int) hn) fun V' d1 d2 d3 h2 h3=>?_;have oY:=(lz (Ψ:=oy (GC bb)) (p:=dO (ee 6)) rfl NA Nh).trans h2;rw[J9];refine(ar (ax rfl e0)).trans ?_;refine(ar (ax rfl e1)).trans ?_;refine(ar (ax rfl e2)).trans ?_;refine(ar (ax rfl e3)).trans ?_;refine(ar (ax rfl e4)).trans ?_;refine(ar (ax rfl (Vn (tp:=fV ns 0)))).trans ?_;refine(ar (ax rfl oY)).trans ?_;exact iG (Ψ:=oy (GC bb)) oB h3 (Kf hn)
end
section
open PySem.NumText Mine.Internal.Co
variable {bb c:XO} {cd:WJ}
theorem SE:j9 jM:=⟨rfl,rfl,rfl,by decide +kernel,by decide +kernel⟩
theorem SG:j9 n6:=⟨rfl,rfl,rfl,by decide +kernel,by decide +kernel⟩
theorem SR:j9 aY:=⟨rfl,rfl,rfl,by decide +kernel,by decide +kernel⟩
theorem PY:j9 cm:=⟨rfl,rfl,rfl,by decide +kernel,by decide +kernel⟩
theorem QR:j9 lq:=⟨rfl,rfl,rfl,by decide +kernel,by decide +kernel⟩
theorem Sk:j9 aX:=⟨rfl,rfl,rfl,by decide +kernel,by decide +kernel⟩
theorem Tr:j9 bk:=⟨rfl,rfl,rfl,by decide +kernel,by decide +kernel⟩
theorem Qj:j9 eD:=⟨rfl,rfl,rfl,by decide +kernel,by decide +kernel⟩
theorem QY:j9 ay:=⟨rfl,rfl,rfl,by decide +kernel,by decide +kernel⟩
theorem SF (hC:C.Plain)(hp:Re.gM C.h₀ bb c)(hg:C.mg "_twin_re_1"=XU (.ref bb))(hD:dv C "_law_draws" (argsAt pw 9) iX jM cd):mT C (n+1) "_law_draws" (xB bb):=by refine uf hC (fun fr=>xh (hC.at fr) hp hg) rfl hD (by decide) (fun fr=>dP.none) SE (by decide) (by decide +kernel) (fun vs pm doc hl=>?_) gO;refine aM (OP hl.symm) ?_;rintro v (rfl);rfl
theorem MI (hC:C.Plain)(hD:dv C "_law_due" (argsAt pw 10) xA n6 cd):mT C (n+1) "_law_due" B4:=by refine uf hC (fun fr=>kP (hC.at fr)) rfl hD (by decide) (fun fr=>dP.none) SG (by decide) (by decide +kernel) (fun vs pm doc hl=>?_) gO;refine aM (OP hl.symm) ?_;rintro v (rfl);rfl
theorem SU (hC:C.Plain){Ti:WJ}(hU:dv C "_law_due" (argsAt pw 10) xA n6 Ti)(hD:dv C "_law_cell" (argsAt pw 11) tc aY cd):mT C (n+2) "_law_cell" Uw:=by refine uf hC (fun fr=>(kP (hC.at fr)).and (MI (hC.at fr) hU)) rfl hD (by decide) (fun fr=>dP.none) SR (by decide) (by decide +kernel) (fun vs pm doc hl=>?_) gO;refine aM (OP hl.symm) ?_;rintro v (rfl);rfl
theorem QS (hC:C.Plain)(hD:dv C "_law_pairs" (argsAt pw 13) rM lq cd):mT C (n+1) "_law_pairs" rK:=by refine uf hC (fun fr=>kP (hC.at fr)) rfl hD (by decide) (fun fr=>dP.none) QR (by decide) (by decide +kernel) (fun vs pm doc hl=>?_) gO;refine aM (OP hl.symm) ?_;rintro v (rfl);rfl
theorem Qk (hC:C.Plain)(hD:dv C "_law_stand" (argsAt pw 16) rg eD cd):mT C (n+1) "_law_stand" we:=by refine uf hC (fun fr=>kP (hC.at fr)) rfl hD (by decide) (fun fr=>dP.none) Qj (by decide) (by decide +kernel) (fun vs pm doc hl=>?_) gO;refine gY (SD hl.symm) ?_;rintro v u (rfl);rfl
theorem Sl (hC:C.Plain)(hp:Re.gM C.h₀ bb c)(hg:C.mg "_twin_re_1"=XU (.ref bb)){Ti:WJ}(hB:dv C "_byteswap" (argsAt pw 7) dH b7 Ti)(hD:dv C "_law_forth" (argsAt pw 14) sL aX cd):mT C (n+2) "_law_forth" sI:=by refine uf hC (fun fr=>(kP (hC.at fr)).and (ID (hC.at fr) hp hg hB)) rfl hD (by decide) (fun fr=>dP.none) Sk (by decide) (by decide +kernel) (fun vs pm doc hl=>?_) gO;refine gY (SD hl.symm) ?_;rintro v u (rfl);rfl
theorem Ts (hC:C.Plain)(hp:Re.gM C.h₀ bb c)(hg:C.mg "_twin_re_1"=XU (.ref bb)){Ti:WJ}(hB:dv C "_byteswap" (argsAt pw 7) dH b7 Ti)(hD:dv C "_law_back" (argsAt pw 15) tD bk cd):mT C (n+2) "_law_back" Af:=by refine Sy hC (fun fr=>((kP (hC.at fr)).and (ID (hC.at fr) hp hg hB)).zip (hC.at fr)) hD (by decide) (fun fr=>dP.none) Tr (by decide) (by decide +kernel) (fun vs pm doc hl=>?_) gO;refine gY (SD hl.symm) ?_;rintro v u (rfl);rfl
structure Top (C:Cx) (bb:XO):Prop where
 plain:C.Plain
 bm:∃bm ob,BMod C.h₀ mainGlobals C.mg bm ob
 rx:∃c,Re.gM C.h₀ bb c
 yR:C.mg "_twin_re_1"=XU (.ref bb)
 stg:∃d,DB C "_ver_stages" d ni
 cv:∃cd,dv C "_comparable_version" (argsAt pw 4) eJ bG cd
 bs:∃cd,dv C "_byteswap" (argsAt pw 7) dH b7 cd
 dw:∃cd,dv C "_law_draws" (argsAt pw 9) iX jM cd
 du:∃cd,dv C "_law_due" (argsAt pw 10) xA n6 cd
 ce:∃cd,dv C "_law_cell" (argsAt pw 11) tc aY cd
 to:∃cd,dv C "_law_told" (argsAt pw 12) wa cm cd
 pa:∃cd,dv C "_law_pairs" (argsAt pw 13) rM lq cd
 fo:∃cd,dv C "_law_forth" (argsAt pw 14) sL aX cd
 ba:∃cd,dv C "_law_back" (argsAt pw 15) tD bk cd
 st:∃cd,dv C "_law_stand" (argsAt pw 16) rg eD cd
 pl:∃(a P:XO)(p:Pos),p.line=(mF (aB aC 0)).line/\p.col=(mF (aB aC 0)).col/\fR C a P p "_platform.<locals>.<genexpr>"/\dv C "_platform" (argsAt pw 5) aC aI (.ref a)
 lw:∃(a P:XO)(p:Pos),p.line=125/\p.col=43/\fR C a P p "law.<locals>.<lambda>"/\dv C "law" (argsAt pw 17) oS ay (.ref a)
theorem Top.at (T:Top C bb)(fr:XO->Prop):Top (C.at fr) bb:=iL T.pl fun a P p h1 h2 h3 h4=>iL T.lw fun a' P' p' MA Jd h3' h4'=>T.stg.elim fun d g=>⟨T.plain.at fr,T.bm,T.rx,T.yR,⟨d,g.map,g.mods,g.glob,g.nd⟩,T.cv,T.bs,T.dw,T.du,T.ce,T.to,T.pa,T.fo,T.ba,T.st,⟨a,P,p,h1,h2,⟨h3.mem,h3.code,h3.uniq⟩,h4⟩,⟨a',P',p',MA,Jd,⟨h3'.mem,h3'.code,h3'.uniq⟩,h4'⟩⟩
theorem OM (T:Top C bb):b9 C vQ (n+1):=by refine aM T.rx fun c hp=>?_;refine iL T.pl fun a P p h1 h2 h3 h4=>?_;refine aM T.stg fun d hT=>?_;refine aM T.cv fun x k6=>?_;exact((kP T.plain).and (QH T.plain T.bm hp T.yR h1 h2 h3 h4)).and (SN T.plain hp T.yR hT k6)
theorem PZ (T:Top C bb):mT C (n+2) "_law_told" ym:=by refine aM T.to fun cd hD=>?_;refine uf T.plain (fun fr=>OM (T.at fr)) rfl hD (by decide) (fun fr=>dP.none) PY (by decide) (by decide +kernel) (fun vs pm doc hl=>?_) gO;refine gY (SD hl.symm) ?_;rintro v u (rfl);rfl
theorem BQ (T:Top C bb):b9 C (dc (GC bb)) (n+2):=by refine aM T.rx fun c hp=>?_;refine aM T.dw fun x k1=>?_;refine aM T.du fun x k2=>?_;refine aM T.ce fun x k3=>?_;refine aM T.pa fun x k4=>?_;refine aM T.bs fun x k5=>?_;refine aM T.fo fun x k6=>?_;refine aM T.ba fun x k7=>?_;refine aM T.st fun x k8=>?_;exact(((((((((kP T.plain).and (SF T.plain hp T.yR k1)).and (SU T.plain k2 k3)).and (PZ T)).and (QS T.plain k4)).and (Sl T.plain hp T.yR k5 k6)).and (Ts T.plain hp T.yR k5 k7)).and (Qk T.plain k8)).and (ID T.plain hp T.yR k5)).and (MI T.plain k2)
theorem NH (T:Top C bb):mT C 5 "law" (oN (dc (GC bb)) (oy (GC bb)) ay oS ["script"]):=by
 refine iL T.lw fun a P p h1 h2 h3 h4=>?_;refine uf (n:=4) T.plain (fun fr=>BQ (n:=2) (T.at fr)) rfl h4 (by decide) (fun fr=>?_) QY (by decide) (by decide +kernel) (fun vs pm doc hl=>?_) gO
 ·exact @q9 (C.at fr) 4 (lg (C.at fr) (.ref a) "law") _ ⟨wi (n:=2) (T.at fr).plain T.bm (fun fr=>uT) (fun fr'=>BQ ((T.at fr).at fr')) uT (BQ (T.at fr)) ⟨h3.mem,h3.code,h3.uniq⟩ rfl h1.symm h2.symm rfl rfl rfl rfl,trivial⟩
 ·refine aM (OP hl.symm) ?_;rintro v (rfl);rfl
theorem He (T:Top C bb){A:XN}{s:WV}{ak:XO->Prop}{is:List Int}{a:XO}{v:WJ}(hg:C.mg "law"=XU (.ref a))(hA:dy C 5 A)(bs:Bs C s)(V:bw C ak s)(r:Rep s.heap ak v (.list (is.map .int)))(hl:is.length<=63):eN C A ak (WA (.ref a) [v]) (.bool true) s:=by obtain⟨b,o,fd,h1,h2,h3,h4,h5,h6⟩:=NH T;rw[h1]at hg;obtain rfl:=WI.inj (XT hg);exact h6 hA bs V (.cons r .nil) (iC rfl (Ke hl))
end
end L1
section
open PySem.Spec PySem.Calls
variable {q:W8} {loose:List WS} {zd:ExcName->Option WJ} {mg mb:WS->Option WJ} {K:Frag}
def posAt (p:W8)(i:Nat):Pos:=match p.main.body[i]? with|some (.FunctionDef _ _ _ _ _ _ _ _ _ pos)=>pos|_=>cM
def recAt (p:W8)(f:WS)(i:Nat):DefRec:=⟨f,argsAt p i,fj p i,dN p i,posAt p i⟩
def dI (q p:W8)(f:WS)(i:Nat):Prop:=(recsOf q).find? (fun e=>e.name==f)=XU (recAt p f i)
theorem Gq (h:Qv v=XU a):v=.ref a:=by
 rcases v with⟨⟩;case ref=>rw[XT h]
 all_goals exact aa h
theorem vu (X:K.In h)(g:h.Ns mainGlobals mg)(hc:xC K f=true)(hm:mg f=XU (.ref a))(ho:h.get? a=XU o):o.cls≠.none:=by obtain⟨u,hu⟩:=Option.isSome_iff_exists.mp hc;refine au hu fun b h1 hu=>au h1 fun q h2 h1=>au h1 fun v h3 h1=>au hu fun o2 h4 hu=>?_;obtain rfl:=Gq h1;subst h3;have e1:=mg_of X g h2;rw[hm]at e1;obtain rfl:=WI.inj (XT e1);have e2:=X _ _ h4;rw[ho]at e2;obtain rfl:=XT e2;exact fun e=>aa ((V7 e).symm.trans hu)
theorem eO (hh:C.h₀=h)(hm:C.mg=mg)(T:Top q loose zd mg mb h)(X:K.In h){p:W8}(hd:dI q p f i)(hc:xC K f=true):∃cd,dv C f (argsAt p i) (fj p i) (dN p i) cd:=by subst hh hm;refine MW (T.fn _ (YF hd)) fun a o pm code doc h1 h2 y0=>?_;refine aZ y0 fun h3 h4=>?_;exact⟨code,a,o,pm,doc,h1,h2,vu X T.g hc h1 h2,h3,h4⟩
theorem yu (hh:C.h₀=h)(hm:C.mg=mg)(T:Top q loose zd mg mb h)(X:K.In h){p:W8}(hd:dI q p f i)(hc:xC K f=true)(ht:tabIn K f=XU (c,P)):dv C f (argsAt p i) (fj p i) (dN p i) (.ref c)/\h.IsCode c P #[]/\h.TableAt c P #[]:=by
 revert hh hm T X hd hc ht;refine mX (bL (bL (bL (bL ya VV) VV) VV) VV) ?_ C f p i c P q loose zd mb K mg h;generalize gB _ _=tt;dsimp only[As];generalize tt.1.1.1.1=C,tt.1.1.1.2=f,tt.1.1.2.1=p,tt.1.1.2.2=i,tt.1.2.1.1=c,tt.1.2.1.2=P,tt.1.2.2=q,tt.2.1.1.1=loose,tt.2.1.1.2=zd,tt.2.1.2=mb,tt.2.2.1.1=K,tt.2.2.1.2=mg,tt.2.2.2=h;intro hh hm T X hd hc ht;subst hh hm;have hr:=YF hd;refine MW (T.fn _ hr) fun a o pm code doc h1 h2 y0=>?_;refine aZ y0 fun h3 h4=>?_;refine MW (T.tab _ hr) fun a' o' fd c' P' g1 g2 y0=>?_;refine lH y0 fun g3 g4 g5 g6=>?_;have e1:=law_code X T.g ht g1 g2 g3;replace g1:=h1.symm.trans g1;refine ZU fun hG=>?_;rcases g1 with⟨⟩;rw[h2]at g2;obtain rfl:=XT g2;rw[h3]at g3;rcases g3 with⟨⟩;have e2:=e1;subst e2;rcases g4 with⟨⟩;refine hG ?_;have hx:=(tab_of T X hd ht).1;refine MV hx fun oc vs fl tf fg tg inF y0=>?_;refine Fy y0 fun tx tt k1 k2 k3 k4 x=>?_;have e3:P'=P:=by refine aZ g6 fun y0 x=>?_;refine mi y0 fun oc' mj j1 j2 j3 j4=>?_;rw[k1]at j1;obtain rfl:=XT j1;replace j3:=k3.symm.trans j3;rcases j3 with⟨⟩;replace j4:=k4.symm.trans j4;rcases j4 with⟨⟩;rfl
 cases e3;exact⟨⟨a,o,pm,doc,h1,h2,vu X T.g hc h1 h2,h3,h4⟩,g5,g6⟩
noncomputable def plainNames:List WS:=[("list":WS),"bytearray","len","sum","str","ord","chr","bytes","range","isinstance","sorted","zip","int","filter","ValueError","IndexError"]
noncomputable def MC (q:W8)(loose:List WS):Bool:=plainNames.all fun x=> !(startupNames.contains x)&& !(loose.contains x)&& !(((recsOf q).map (·.name)).contains x)&& !(((litsOf q).map (·.1)).contains x)&& !(((clssOf q loose).map (·.name)).contains x)
noncomputable def sZ (s:WV)(mg mb:WS->Option WJ)(tabs:List (XO×XO×Pos×WS)):Cx:={h₀:=s.heap,L3:=s.os,mg:=mg,mb:=mb,tabs:=tabs,fr:=fun x=>False}
theorem Gv (T:Top q loose zd mg mb s.heap)(hf:MC q loose=true)(ht:∀c P p q,(c,P,p,q)∈tabs->s.heap.TableAt c P #[]/\P≠cStatics/\P≠mainGlobals/\P≠builtinsNs):(sZ s mg mb tabs).Plain:=by refine⟨⟨T.g,T.b,T.nolimit,T.builtins,ht⟩,fun x hx=>?_⟩;have h:=ZH.mp hf x hx;simp only[Z6,Bool.not_eq_true',List.contains_eq_mem,decide_eq_false_iff_not]at h;exact T.free x h.1.1.1.1 h.1.1.1.2 h.1.1.2 h.1.2 h.2
theorem Tp (hg:s.gens= #[])(ht:∀c P p q,(c,P,p,q)∈tabs->s.heap.TableAt c P #[]):Bs (sZ s mg mb tabs) s:=⟨fun b o e x=>e,fun c P p q m=>.inl (ht c P p q m).2,.of_eq hg,rfl,fun a ha=>ha.elim⟩
theorem PQ (ht:∀c P p q,(c,P,p,q)∈tabs->s.heap.TableAt c P #[]):bw (sZ s mg mb tabs) (sZ s mg mb tabs).T s:=⟨fun a h=>h,fun a h=>h.elim,fun a⟨c,pp,qq,m⟩=>⟨_,(ht _ _ _ _ m).2⟩⟩
theorem Fc:∀{xs:List WData},WShape.hasItems R xs .int=true->∃is:List Int,xs=is.map WData.int:=by
 intro xs;induction xs with
 |nil=>intro _;exact⟨[],rfl⟩
 |cons d r ih=>intro hh;have hh':(WShape.has R d .int&&WShape.hasItems R r .int)=true:=hh;rw[Z6]at hh';refine aM (ih hh'.2) fun is e=>?_;refine aM (hasW_int hh'.1) ?_;rintro i (rfl);exact⟨i::is,by rw[e];rfl⟩
theorem Gu {l:OpenLaw}{n:Nat}{args:List WData}(hm:l.most=XU n)(hb:l.bound=XW)(zF:l.row.toRowW.claim.pre args=true):∃is:List Int,args=[.list (is.map .int)]/\is.length<=n:=by
 refine aZ (pre_splitW zF) fun hs hc=>?_;refine eH (hasAllW_cons (show WShape.hasAll [] args [.list .int]=true from hs)) ?_;rintro d r (rfl) h1 h2;obtain rfl:=hasAllW_nil h2;refine aE (hasW_list h1) ?_;rintro xs (rfl) h3;refine aM (Fc h3) ?_;rintro is (rfl);refine⟨is,rfl,?_⟩;have hp:l.row.toRowW.pre=.and (.not (.lt (.lit (.int n)) (.len (.arg 0)))) (.lit (.bool true)):=by show OpenLaw.pre l=_;delta OpenLaw.pre;exact xR hm (xR hb rfl)
 simp only[hp]at hc;have h4:=(holds_andW hc).1;have h5:=condW_of h4 (by rfl);simp only[Y4,Bool.not_eq_true',decide_eq_false_iff_not]at h5;exact aT 0x111af0af732 rfl h5
theorem Ay:∀{vs:List WJ}{is:List Int},WellAll P h vs (is.map .int)->aK h ak vs (is.map Dat.int):=by
 intro g0 is;induction is generalizing g0 with
 |nil=>intro w;rcases w with⟨⟩;exact .nil
 |cons i is ih=>intro w;refine eH (wellAll_cons_inv w) ?_;rintro v mj (rfl) w1 w2;rcases w1 with⟨⟩;exact .cons (.int _ _) (ih w2)
set_option tactic.hygienic true in
theorem FH {P:Params}{vals:List WJ}{is:List Int}(w:WellAll P h vals [.list (is.map .int)]):∃a vs,vals=[.ref a]/\h.get? a=XU {cls:=.type "list",data:=.seq vs.toArray}/\∀ak,aK h ak vs (is.map Dat.int):=by refine eH (wellAll_cons_inv w) ?_;rintro v mj (rfl) w1 w2;rcases w2 with⟨⟩;rcases w1 with⟨⟩;case list e r=>exact⟨_,_,rfl,e,fun ak=>Ay r⟩
theorem KH {l:OpenLaw}{s s':WV}{tabs:List (XO×XO×Pos×WS)}{cl:WS->Option XO}{args:List WData}{v:WJ}{ak:XO->Prop}(ht:∀c P p q,(c,P,p,q)∈tabs->s.heap.TableAt c P #[]/\P≠cStatics/\P≠mainGlobals/\P≠builtinsNs)(hg:s.gens= #[])(x:Ex (sZ s mg mb tabs) s s')(r:Rep s'.heap ak v (.bool true)):GoodWG l.row.toRowW.claim cl zd args s (.ok (.ret v)) s':=by
 have b:=x.bs (Tp hg fun c P p q m=>(ht c P p q m).1);rcases r with⟨⟩;have hold:∀b o,s.heap.get? b=XU o->asItWas s.heap s'.heap b o/\∃o',s'.heap.get? b=XU o':=by
  intro a o e;by_cases hT:(sZ s mg mb tabs).T a
  ·refine iM hT fun c pp qq m=>?_;have h1:=(ht _ _ _ _ m).1;have e2:=h1.2;rw[e]at e2;obtain rfl:=XT e2;refine XR (b.tab _ _ _ _ m) (fun k=>?_) fun y0=>?_
   ·exact⟨.inl k,_,k⟩
   ·refine aE y0 fun c' k y=>?_;exact⟨.inr (.inl ⟨h1.isCodeTable,rfl,#[],#[rawInt pp.line,rawInt pp.col,.ref c'],rfl,by refine xR Array.empty_append ?_;exact k⟩),_,k⟩
  ·have k:=x.keep a o e hT (fun q=>q);exact⟨.inl k,_,k⟩
 refine⟨.inl ⟨_,.bool true,[],rfl,fun cls=>rfl,.bool true,?_,fun y=>⟨List.nodup_nil,fun a ha=>by rcases ha with⟨⟩⟩⟩,⟨fun a o e=>(hold a o e).1,fun a o e=>(hold a o e).2⟩,b.os,b.gens⟩;exact postW_of (by rfl) (by rfl) (by simp[W.same])
end
namespace L1
section
open PySem.Spec PySem.Calls Mine.Internal.Co
theorem sf (P:Params):∀l:List (WS×Tok×Int×Tok),KeysLit P (l.map (entryOf P))|[]=>trivial|e::r=>⟨⟨e.1,e.2.1,rfl,rfl⟩,sf P r⟩
theorem zL (P:Params)(x:WS):∀l:List (WS×Tok×Int×Tok),(findBy WJ.isStrOf (l.map (entryOf P)).toArray x=XW/\(l.map fun e=>(e.1,e.2.2.1)).lookup x=XW)\/∃k t,findBy WJ.isStrOf (l.map (entryOf P)).toArray x=XU (.int k t)/\(l.map fun e=>(e.1,e.2.2.1)).lookup x=XU k
 |[]=>.inl ⟨rfl,rfl⟩
 |e::r=>by
  have ih:=zL P x r;unfold findBy at ih ⊢;rw[List.find?_toArray]at ih ⊢;rw[YQ,YQ,YT,List.find?_cons];have hk:WJ.isStrOf x (entryOf P e).key=(x==e.1):=by show(e.1==x)=(x==e.1);rw[ZZ,V3,V3];exact eq_comm
  rw[hk];cases x==e.1 with|true=>exact .inr ⟨_,_,rfl,rfl⟩|false=>exact ih
structure Facts (q:W8) (loose:List WS):Prop where
 free:MC q (looseW q loose)=true
 r4:dI q pw "_comparable_version" 4
 r5:dI q pw "_platform" 5
 r7:dI q pw "_byteswap" 7
 r9:dI q pw "_law_draws" 9
 r10:dI q pw "_law_due" 10
 r11:dI q pw "_law_cell" 11
 r12:dI q pw "_law_told" 12
 r13:dI q pw "_law_pairs" 13
 r14:dI q pw "_law_forth" 14
 r15:dI q pw "_law_back" 15
 r16:dI q pw "_law_stand" 16
 r17:dI q pw "law" 17
def rf:List (XO×XO×Pos×WS):=[(50,46,mF (aB aC 0),"_platform.<locals>.<genexpr>"),(106,104,⟨125,43,0,0⟩,"law.<locals>.<lambda>")]
theorem UU {q:W8} {loose:List WS} {K:Frag} (F:Facts q loose) {zd:ExcName→Option WJ} {mg mb:WS→Option WJ} {s:WV} (T:PyProof.Rows.Top q (looseW q loose) zd mg mb s.heap) (X:K.In s.heap) (Y:Mq K=Mp Wd):
  Top (sZ s mg mb rf) 36∧∀c P p z,(c,P,p,z)∈rf→s.heap.TableAt c P #[]∧P≠cStatics∧P≠mainGlobals∧P≠builtinsNs:=by
 have y1:=XQ Y
 have y2:=XQ y1.2
 have y3:=XQ y2.2
 have y4:=XQ y3.2
 have y5:=XQ y4.2
 have y6:=XQ y5.2
 have y7:=XQ y6.2
 have hc:=fun f hf=>ZH.mp y1.1 f hf
 refine bH (yu (C:=sZ s mg mb rf) rfl rfl T X F.r5 (hc _ (by simp)) y2.1) fun p1 p2 p3=> ?_
 refine bH (yu (C:=sZ s mg mb rf) rfl rfl T X F.r17 (hc _ (by simp)) y3.1) fun l1 l2 l3=> ?_
 have ht:∀c P p z,(c,P,p,z)∈rf→s.heap.TableAt c P #[]∧P≠cStatics∧P≠mainGlobals∧P≠builtinsNs:=by
  intro c P p z m
  unfold rf at m
  refine XR (YL.mp m) (fun e=> ?_) fun m=> ?_
  ·rcases e with ⟨⟩;exact ⟨p3,by decide,by decide,by decide⟩
  refine XR (YL.mp m) (fun e=> ?_) fun m=> ?_
  ·rcases e with ⟨⟩;exact ⟨l3,by decide,by decide,by decide⟩
  ·rcases m with ⟨⟩
 refine ⟨?_,ht⟩
 exact {
  plain:=Gv T F.free ht
  bm:=bmod_of_top T
  rx:=⟨35,⟨QP,_,X _ _ y6.1,rfl,rfl,rfl,by decide +kernel,by decide +kernel,by decide +kernel⟩,⟨SP,_,_,X _ _ y7.1,rfl,rfl,by decide +kernel⟩⟩
  yR:=mg_of X T.g y4.1
  stg:=⟨37,⟨_,mapOf_K X y7.2 (sf _ _),fun x=>zL _ x Qf⟩,by decide,mg_of X T.g y5.1,by decide⟩
  cv:=eO rfl rfl T X F.r4 (hc _ (by simp))
  bs:=eO rfl rfl T X F.r7 (hc _ (by simp))
  dw:=eO rfl rfl T X F.r9 (hc _ (by simp))
  du:=eO rfl rfl T X F.r10 (hc _ (by simp))
  ce:=eO rfl rfl T X F.r11 (hc _ (by simp))
  to:=eO rfl rfl T X F.r12 (hc _ (by simp))
  pa:=eO rfl rfl T X F.r13 (hc _ (by simp))
  fo:=eO rfl rfl T X F.r14 (hc _ (by simp))
  ba:=eO rfl rfl T X F.r15 (hc _ (by simp))
  st:=eO rfl rfl T X F.r16 (hc _ (by simp))
  pl:=⟨50,46,_,rfl,rfl,⟨.head _,p2,fun c' p' q' m=>by
   refine XR (YL.mp m) (fun e=> ?_) fun m=> ?_
   ·rcases e with ⟨⟩;exact ⟨rfl,rfl⟩
   refine XR (YL.mp m) (fun e=> ?_) fun m=> ?_
   ·rcases e with ⟨⟩
   ·rcases m with ⟨⟩⟩,p1⟩
  lw:=⟨106,104,_,rfl,rfl,⟨.tail _ (.head _),l2,fun c' p' q' m=>by
   refine XR (YL.mp m) (fun e=> ?_) fun m=> ?_
   ·rcases e with ⟨⟩
   refine XR (YL.mp m) (fun e=> ?_) fun m=> ?_
   ·rcases e with ⟨⟩;exact ⟨rfl,rfl⟩
   ·rcases m with ⟨⟩⟩,l1⟩}
theorem Ck {s:WV}{mg mb:WS->Option WJ}{tabs:List (XO×XO×Pos×WS)}:dy (sZ s mg mb tabs) 5 callerA:=⟨rfl,by decide +kernel,by decide +kernel,[],rfl,fun f hf=>nomatch hf⟩
theorem walk1 {q:W8}{loose:List WS}{XP:(WS->Option WJ)->Xp->Prop}{d:DefRec}{kwd:List (WS×Expr)}(F:Facts q loose)(hn:d.name="law"):MS q loose XP hk.says oz.toRowW d kwd (fun f vs=>WA f vs) Wd:=by intro s₀ aG mg mb G Y fa o pm cd doc dV kV ho hd De hD hmg hg args vals as zF Hz hrd hwl hlo;refine Y.elim fun K Y=>?_;refine aZ (UU F G.T Y.1 Y.2) fun T3 ht=>?_;rw[hn]at hmg;refine aE (Gu rfl rfl zF) ?_;rintro is (rfl) hl;refine eH (FH hwl) ?_;rintro a vs (rfl) ha hr;have RE:=fun c P p z m=>(ht c P p z m).1;have r:Rep aG.heap (sZ aG mg mb rf).T (.ref a) (.list (is.map .int)):=.list (fun⟨c,p,z,m⟩=>by have:=(RE _ _ _ _ m).2;rw[ha]at this;rcases this with⟨⟩) ha rfl rfl rfl (hr _);exact He T3 hmg Ck (Tp hg RE) (PQ RE) r hl _ _ fun v s' x rv=>KH ht hg x rv
end
end L1
end Mine.Internal
open PySem PySem.W PyProof.Rows
open Mine.Internal
namespace MineTop
theorem t:PySem.Challenge.rw_pk0032_01.Holds:=by refine holds_law (by kernel_rfl) fun Za4=>?_;refine MineTop.PySem.W.holds_open (XP:=XL iy []) (YP:=hk.says) (d:=theDef) (kwd:=[]) left hk.of hk.keeps (fun s e=>xl_of s (Bool.and_eq_true_iff.mp e).1) XL.keeps (by kernel_rfl) (by kernel_rfl) (by kernel_rfl) (fun s e=>recFacts_of (Bool.and_eq_true_iff.mp e).2) (by kernel_rfl) (by assumption) (by kernel_rfl) ⟨rfl,rfl,rfl,rfl,rfl,by decide +kernel⟩ ⟨[.list []],by decide +kernel,by decide +kernel⟩ ?_;exact Mine.Internal.L1.walk1 {free:=by kernel_rfl,r4:=by unfold Mine.Internal.dI;kernel_rfl,r5:=by unfold Mine.Internal.dI;kernel_rfl,r7:=by unfold Mine.Internal.dI;kernel_rfl,r9:=by unfold Mine.Internal.dI;kernel_rfl,r10:=by unfold Mine.Internal.dI;kernel_rfl,r11:=by unfold Mine.Internal.dI;kernel_rfl,r12:=by unfold Mine.Internal.dI;kernel_rfl,r13:=by unfold Mine.Internal.dI;kernel_rfl,r14:=by unfold Mine.Internal.dI;kernel_rfl,r15:=by unfold Mine.Internal.dI;kernel_rfl,r16:=by unfold Mine.Internal.dI;kernel_rfl,r17:=by unfold Mine.Internal.dI;kernel_rfl} rfl
end MineTop
end
theorem PySem.Challenge.cw_pk0032_01_holds : PySem.Challenge.rw_pk0032_01.Holds := by
 exact MineTop.t
