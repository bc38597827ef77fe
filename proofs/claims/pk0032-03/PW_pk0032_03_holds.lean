import PyProof.Rows.All
import Wide.All
import OpenK.AllK
import Wide.FinOn
import Lean
import PySem.Challenge.RW_pk0032_03
set_option tactic.hygienic false
set_option backward.match.sparseCases false
set_option bootstrap.genMatcherCode false
set_option genInjectivity false
set_option genSizeOf false
set_option Elab.async false
set_option maxRecDepth 100000
set_option maxHeartbeats 8000000
set_option linter.all false
noncomputable section
namespace Mine.Internal
def Z9:=@Option.some.inj
def Z8:=@PySem.wpAny_bind
def Z7:=@List.mem_cons_of_mem
def Z6:=@List.mem_cons_self
def Z5:=@List.getD_eq_getElem?_getD
def Z4:=@Or.elim
def Z3:=@PySem.Heap.get?_push_of_some
def Z2:=@List.length_map
def Z1:=@if_pos
def Z0:=@PySem.wpAny_pure
def ZZ:=@Bool.false_ne_true
def ZY:=@List.getElem?_eq_getElem
def ZX:=@if_neg
def ZW:=@Nat.add_le_add
def ZV:=@Option.bind_some
def ZU:=@Classical.byContradiction
def ZT:=@List.size_toArray
def ZS:=@List.lookup_cons
def ZR:=@Bool.and_eq_true
def ZQ:=@Nat.le_refl
def ZP:=@List.getElem?_map
def ZO:=@PySem.Heap.get?_push_size
def ZN:=@List.length_append
def ZM:=@PySem.builtinLookup_eq_fast
def ZL:=@PySem.Around.under_plainId
def ZK:=@Nat.le_trans
def ZJ:=@beq_eq_false_iff_ne
def ZI:=@List.map_cons
def ZH:=@List.map_map
def ZG:=@Bool.false_eq_true
def ZF:=@List.map_congr_left
def ZE:=@Int.toNat_natCast
def ZD:=@List.mem_of_getElem?
def ZC:=@PySem.typeLookup_type
def ZA:=@List.map_append
def Zz:=@List.append_nil
theorem Zy{α:Type u}{a b:α}{l:List α}(h:a∈b::l):a=b∨a∈l:=List.mem_cons.mp h
theorem Zx{α:Type u}{β:Type v}{b:β}{f:α->β}{l:List α}(h:b∈l.map f):∃a,a∈l∧f a=b:=List.mem_map.mp h
theorem Zw{α:Type u}{p:α->Bool}{l:List α}(h:l.all p=true):∀x,x∈l->p x=true:=List.all_eq_true.mp h
theorem Zv{m n:Nat}(h:m∈List.range n):m<n:=List.mem_range.mp h
namespace Z
inductive T
 |v (i:Nat)|j (i:Nat)|n (k:Nat)|a (x y:T)|s (x y:T)|m (k:Nat) (x:T)|w (x:T) (k:Nat)|g (x:T)|c (x:T)|t (x:T)|u (x y:T)|d (x y:T)
inductive P
 |l (b:Bool) (x y:T)|e (b:Bool) (x y:T)|q (b:Bool) (x y:T)|f|b (p:P)|c (p r:P)|o (p r:P)
noncomputable abbrev L:=List Int
noncomputable def Vu (l:List Nat):Nat->Nat:= @List.rec Nat (fun y=>Nat->Nat) (fun y=>0) (fun x y ih i=> @Nat.rec (fun y=>Nat) x (fun j y=>ih j) i) l
noncomputable def Kl (l:List Int):Nat->Int:= @List.rec Int (fun y=>Nat->Int) (fun y=>0) (fun x y ih i=> @Nat.rec (fun y=>Int) x (fun j y=>ih j) i) l
noncomputable def T.den (ρ:List Nat)(σ:List Int)(t:T):Nat×Int:= @T.rec (fun z=>Nat×Int) (fun i=>(Vu ρ i,0)) (fun i=>(0,Kl σ i)) (fun k=>(k,.ofNat k)) (fun z z x y=>(x.1+y.1,x.2+y.2)) (fun z z x y=>(x.1-y.1,x.2-y.2)) (fun k z x=>(k*x.1,(k:Int)*x.2)) (fun z k x=>(x.1*k,x.2*(k:Int))) (fun z x=>(0,-x.2)) (fun z x=>(0,(x.1:Int))) (fun z x=>(x.2.toNat,0)) (fun z z x y=>(max x.1 y.1,max x.2 y.2)) (fun z z x y=>(min x.1 y.1,min x.2 y.2)) t
noncomputable def P.den (ρ:List Nat)(σ:List Int)(p:P):Prop:= @P.rec (fun z=>Prop) (fun b x y=> @Bool.rec (fun z=>Prop) ((x.den ρ σ).1<(y.den ρ σ).1) ((x.den ρ σ).2<(y.den ρ σ).2) b) (fun b x y=> @Bool.rec (fun z=>Prop) ((x.den ρ σ).1<=(y.den ρ σ).1) ((x.den ρ σ).2<=(y.den ρ σ).2) b) (fun b x y=> @Bool.rec (fun z=>Prop) ((x.den ρ σ).1=(y.den ρ σ).1) ((x.den ρ σ).2=(y.den ρ σ).2) b) False (fun z p=>¬p) (fun z z p r=>p/\r) (fun z z p r=>p\/r) p
noncomputable def add (x:L):L->L:= @List.rec Int (fun z=>L->L) (fun y=>y) (fun i x ih y=> @List.rec Int (fun z=>L) (i::x) (fun j y z=>(i+j)::ih y) y) x
noncomputable def mul (k:Int)(x:L):L:= @List.rec Int (fun y=>L) [] (fun i y ih=>k*i::ih) x
noncomputable def ev (x:L):(Nat->Int)->Int:= @List.rec Int (fun y=>(Nat->Int)->Int) (fun y=>0) (fun i y ih ρ=>i*ρ 0+ih fun n=>ρ (n+1)) x
noncomputable def unit (i:Nat):L:= @Nat.rec (fun x=>L) [1] (fun x u=>0::u) i
theorem vO (x:L):∀(y:L)(ρ:Nat->Int),ev (add x y) ρ=ev x ρ+ev y ρ:=by
 induction x with
 |nil=>exact fun y ρ=>(Int.zero_add _).symm
 |cons i x ih=>intro y ρ;induction y with|nil=>exact(Int.add_zero _).symm|cons j y=>show(i+j)*ρ 0+ev (add x y) _=(i*ρ 0+ev x _)+(j*ρ 0+ev y _);rw[ih y,Int.add_mul,Int.add_assoc,Int.add_assoc,Int.add_left_comm (j*ρ 0)]
theorem lY (k:Int)(x:L):∀(ρ:Nat->Int),ev (mul k x) ρ=k*ev x ρ:=by induction x with|nil=>exact fun ρ=>(Int.mul_zero _).symm|cons i x ih=>exact fun ρ=>(congrArg (k*i*ρ 0+·) (ih _)).trans ((congrArg (·+_) (Int.mul_assoc ..)).trans (Int.mul_add ..).symm)
theorem vN (i:Nat):∀(ρ:Nat->Int),ev (unit i) ρ=ρ i:=by induction i with|zero=>exact fun ρ=>(Int.add_zero _).trans (Int.one_mul _)|succ i ih=>exact fun ρ=>(congrArg (0*ρ 0+·) (ih _)).trans ((congrArg (·+_) (Int.zero_mul _)).trans (Int.zero_add _))
noncomputable def sub (x y:L):L:=add x (mul (-1) y)
noncomputable def dec (x:L):L:=add x [-1]
noncomputable def all (r:List Nat)(σ:List Int):L:= @List.rec Nat (fun y=>L) σ (fun x y ih=>(x:Int)::ih) r
noncomputable def env (r:List Nat)(σ:List Int)(i:Nat):Int:= @Nat.rec (fun x=>Int) 1 (fun i x=>Kl (all r σ) i) i
theorem Ug (r:List Nat):∀{i:Nat},Nat.blt i r.length=true->Kl (all r σ) i=(Vu r i:Nat):=by
 induction r with
 |nil=>exact fun h=>nomatch h
 |cons x r ih=>intro i;induction i with
  |zero=>exact fun y=>rfl|succ i=>exact fun h=>ih (i:=i) h
theorem Ue (r:List Nat):Kl (all r σ) (r.length+j)=Kl σ j:=by induction r with|nil=>exact congrArg (Kl σ) (Nat.zero_add j)|cons x r ih=>exact(congrArg (Kl (all (x::r) σ)) (Nat.succ_add r.length j)).trans ih
noncomputable def H (ρ:Nat->Int)(cs:List L):Prop:= @List.rec L (fun x=>Prop) True (fun c x ih=>0<=ev c ρ/\ih) cs
section
variable {ρ:Nat->Int} {r:List Nat} {σ:List Int} {R:Prop}
theorem oj (x y:L):ev (sub x y) ρ=ev x ρ-ev y ρ:=(vO ..).trans ((congrArg (_+·) (lY ..)).trans ((congrArg (_+·) (Int.neg_one_mul _)).trans Int.sub_eq_add_neg.symm))
theorem FJ (x:L):ev (dec x) (env r σ)=ev x (env r σ)-1:=vO ..
theorem Hc:0<=ev c ρ->H ρ cs->H ρ (c::cs):=And.intro
noncomputable def val (b:Bool)(p:Nat×Int):Int:= @Bool.rec (fun x=>Int) (p.1:Int) p.2 b
abbrev K:=L->List L->Bool
noncomputable abbrev fork (x y:Bool):Bool:= @Bool.rec (fun z=>Bool) false y x
theorem kn (h:fork x y=true):x=true:=by cases x;exact h;rfl
theorem km (h:fork x y=true):y=true:=by cases x;exact nomatch h;exact h
noncomputable def bi (x y:Bool->List L->K->Bool)(b:Bool)(cs:List L)(k:L->L->List L->Bool):Bool:=x b cs fun X cs=>y b cs fun Y cs=>k X Y cs
noncomputable def tm (N:Nat)(t:T):Bool->List L->K->Bool:= @T.rec (fun z=>Bool->List L->K->Bool) (fun i b cs k=> @Bool.rec (fun z=>Bool) (fork (Nat.blt i N) (k (0::unit i) cs)) false b) (fun i b cs k=> @Bool.rec (fun z=>Bool) false (k (0::unit (N+i)) cs) b) (fun c z cs k=>k [.ofNat c] cs) (fun z z x y b cs k=>bi x y b cs fun X Y cs=>k (add X Y) cs) (fun z z x y b cs k=>bi x y b cs fun X Y cs=> @Bool.rec (fun z=>Bool) (fork (k (sub X Y) (sub X Y::cs)) (k [] (dec (sub Y X)::cs))) (k (sub X Y) cs) b) (fun c z x b cs k=>x b cs fun X cs=>k (mul (.ofNat c) X) cs) (fun z c x b cs k=>x b cs fun X cs=>k (mul (.ofNat c) X) cs) (fun z x b cs k=>fork b (x true cs fun X cs=>k (mul (-1) X) cs)) (fun z x b cs k=>fork b (x false cs k)) (fun z x b cs k=> @Bool.rec (fun z=>Bool) (x true cs fun X cs=>fork (k X (X::cs)) (k [] (dec (mul (-1) X)::cs))) false b) (fun z z x y b cs k=>bi x y b cs fun X Y cs=>fork (k Y (sub Y X::cs)) (k X (sub X Y::cs))) (fun z z x y b cs k=>bi x y b cs fun X Y cs=>fork (k X (sub Y X::cs)) (k Y (sub X Y::cs))) t
def Ok (r:List Nat)(σ:List Int)(f:Bool->List L->K->Bool)(v:Nat×Int):Prop:=∀{R:Prop}(b:Bool)(cs:List L)(k:K),H (env r σ) cs->f b cs k=true->(∀X CZ,H (env r σ) CZ->ev X (env r σ)=val b v->k X CZ=true->R)->R
theorem nonneg (hx:ev X ρ=a)(hy:ev Y ρ=b)(h:a<=b):0<=ev (sub Y X) ρ:=oj Y X▸hx▸hy▸Int.sub_nonneg_of_le h
theorem pos (hx:ev X (env r σ)=a)(hy:ev Y (env r σ)=b)(h:a<b):0<=ev (dec (sub Y X)) (env r σ):=FJ (r:=r) (σ:=σ) (sub Y X)▸oj (ρ:=env r σ) Y X▸hx▸hy▸Int.le_sub_one_of_lt (Int.sub_pos_of_lt h)
theorem yD (hx:Ok r σ f v)(hy:Ok r σ g w)(h:H (env r σ) cs)(e:bi f g b cs k=true)(q:∀X Y CZ,H (env r σ) CZ->ev X (env r σ)=val b v->ev Y (env r σ)=val b w->k X Y CZ=true->R):R:=hx b cs _ h e fun X cs h e1 e=>hy b cs _ h e fun Y cs h e2 e=>q X Y cs h e1 e2 e
theorem Jx (t:T):Ok r σ (tm r.length t) (t.den r σ):=by
 induction t with
 |v i=>intro _ b cs k h e g;cases b with|false=>exact g _ _ h ((congrArg (0*1+·) (vN ..)).trans ((Int.zero_add _).trans (Ug r (kn e)))) (km e)|true=>exact nomatch e
 |j i=>intro _ b cs k h e g;cases b with|true=>exact g _ _ h ((congrArg (0*1+·) (vN ..)).trans ((Int.zero_add _).trans (Ue r))) e|false=>exact nomatch e
 |n c=>exact fun{_}b cs k h e g=>g _ _ h ((Int.add_zero _).trans ((Int.mul_one _).trans (by cases b<;>rfl))) e
 |a x y hx hy=>exact fun{_}b cs k h e g=>yD hx hy h e fun X Y cs h e1 e2 e=>g _ _ h ((vO ..).trans (by rw[e1,e2];cases b<;>rfl)) e
 |s x y hx hy=>
   intro _ b cs k h e g;refine yD hx hy h e fun X Y cs h e1 e2 e=>?_;have es:=oj (ρ:=env r σ) X Y;cases b with
   |true=>exact g _ _ h (es.trans (by rw[e1,e2];rfl)) e
   |false=>
    rcases Nat.lt_or_ge (x.den r σ).1 (y.den r σ).1 with l|l
    ·exact g [] _ (Hc (pos e1 e2 (Int.ofNat_lt.mpr l)) h) (congrArg Int.ofNat (Nat.sub_eq_zero_of_le (Nat.le_of_lt l)).symm) (km e)
    ·exact g _ _ (Hc (nonneg e2 e1 (Int.ofNat_le.mpr l)) h) (es.trans (by rw[e1,e2];exact(Int.ofNat_sub l).symm)) (kn e)
 |m c x hx=>exact fun{_}b cs k h e g=>hx b cs _ h e fun X cs h e1 e=>g _ _ h ((lY ..).trans (by rw[e1];cases b<;>rfl)) e
 |w x c hx=>exact fun{_}b cs k h e g=>hx b cs _ h e fun X cs h e1 e=>g _ _ h ((lY ..).trans ((Int.mul_comm ..).trans (by rw[e1];cases b<;>rfl))) e
 |g x hx=>intro _ b cs k h e g;cases b with|true=>exact hx true cs _ h e fun X cs h e1 e=>g _ _ h ((lY ..).trans ((Int.neg_one_mul _).trans (congrArg Int.neg e1))) e|false=>exact nomatch e
 |c x hx=>intro _ b cs k h e g;cases b with|true=>exact hx false cs _ h e fun X cs h e1 e=>g _ _ h e1 e|false=>exact nomatch e
 |t x hx=>
   intro _ b cs k h e g;cases b with
   |true=>exact nomatch e
   |false=>
    refine hx true cs _ h e fun X cs h e1 e=>?_;rcases Int.lt_or_le (x.den r σ).2 0 with l|l
    ·exact g [] _ (Hc (by rw[FJ,lY,e1,Int.neg_one_mul];exact Int.le_sub_one_of_lt (Int.neg_pos_of_neg l)) h) (congrArg Int.ofNat (Int.toNat_of_nonpos (Int.le_of_lt l)).symm) (km e)
    ·exact g _ _ (Hc (e1▸l) h) (e1.trans (Int.toNat_of_nonneg l).symm) (kn e)
 |u x y hx hy=>
   intro _ b cs k h e g;refine yD hx hy h e fun X Y cs h e1 e2 e=>?_;rcases Int.le_total (val b (x.den r σ)) (val b (y.den r σ))with l|l
   ·exact g _ _ (Hc (nonneg e1 e2 l) h) (e2.trans (by cases b;exact congrArg Int.ofNat (Nat.max_eq_right (Int.ofNat_le.mp l)).symm;exact(Int.max_eq_right l).symm)) (kn e)
   ·exact g _ _ (Hc (nonneg e2 e1 l) h) (e1.trans (by cases b;exact congrArg Int.ofNat (Nat.max_eq_left (Int.ofNat_le.mp l)).symm;exact(Int.max_eq_left l).symm)) (km e)
 |d x y hx hy=>
   intro _ b cs k h e g;refine yD hx hy h e fun X Y cs h e1 e2 e=>?_;rcases Int.le_total (val b (x.den r σ)) (val b (y.den r σ))with l|l
   ·exact g _ _ (Hc (nonneg e1 e2 l) h) (e1.trans (by cases b;exact congrArg Int.ofNat (Nat.min_eq_left (Int.ofNat_le.mp l)).symm;exact(Int.min_eq_left l).symm)) (kn e)
   ·exact g _ _ (Hc (nonneg e2 e1 l) h) (e2.trans (by cases b;exact congrArg Int.ofNat (Nat.min_eq_right (Int.ofNat_le.mp l)).symm;exact(Int.min_eq_right l).symm)) (km e)
noncomputable def two (N:Nat)(b:Bool)(x y:T)(cs:List L)(k:L->L->List L->Bool):Bool:=bi (tm N x) (tm N y) b cs fun X Y cs=>k (sub X Y) (sub Y X) cs
noncomputable def pr (N:Nat)(p:P):Bool->List L->(List L->Bool)->Bool:= @P.rec (fun z=>Bool->List L->(List L->Bool)->Bool) (fun b x y s cs k=>two N b x y cs fun D D' cs=>k (@Bool.rec (fun z=>L) D (dec D') s::cs)) (fun b x y s cs k=>two N b x y cs fun D D' cs=>k (@Bool.rec (fun z=>L) (dec D) D' s::cs)) (fun b x y s cs k=>two N b x y cs fun D D' cs=> @Bool.rec (fun z=>Bool) (fork (k (dec D::cs)) (k (dec D'::cs))) (k (D::D'::cs)) s) (fun s cs k=> @Bool.rec (fun z=>Bool) (k cs) true s) (fun z p s cs k=>p (!s) cs k) (fun z z p r s cs k=> @Bool.rec (fun z=>Bool) (fork (p false cs k) (r false cs k)) (p true cs fun cs=>r true cs k) s) (fun z z p r s cs k=> @Bool.rec (fun z=>Bool) (p false cs fun cs=>r false cs k) (fork (p true cs k) (r true cs k)) s) p
theorem yX (h:H (env r σ) cs)(e:two r.length b x y cs k=true)(g:∀X Y CZ,H (env r σ) CZ->ev X (env r σ)=val b (x.den r σ)->ev Y (env r σ)=val b (y.den r σ)->k (sub X Y) (sub Y X) CZ=true->R):R:=yD (Jx x) (Jx y) h e fun X Y cs h e1 e2 e=>g _ _ cs h e1 e2 e
theorem JN:∀(b:Bool),(P.l b x y).den r σ↔val b (x.den r σ)<val b (y.den r σ)|false=>Int.ofNat_lt.symm|true=>.rfl
theorem Kd:∀(b:Bool),(P.e b x y).den r σ↔val b (x.den r σ)<=val b (y.den r σ)|false=>Int.ofNat_le.symm|true=>.rfl
theorem JA:∀(b:Bool),(P.q b x y).den r σ↔val b (x.den r σ)=val b (y.den r σ)|false=>Int.ofNat_inj.symm|true=>.rfl
noncomputable def is (s:Bool)(p:Prop):Prop:= @Bool.rec (fun x=>Prop) (¬p) p s
theorem JB (p:P):∀{R:Prop}(s:Bool)(cs:List L)(k:List L->Bool),H (env r σ) cs->is s (p.den r σ)->pr r.length p s cs k=true->(∀CZ,H (env r σ) CZ->k CZ=true->R)->R:=by
 induction p with
 |l b x y=>intro _ s cs k h i e g;refine yX (k:=fun D D' cs=>k (@Bool.rec (fun u=>L) D (dec D') s::cs)) h e fun X Y cs h e1 e2 e=>?_;cases s with|true=>exact g _ (Hc (pos e1 e2 ((JN b).mp i)) h) e|false=>exact g _ (Hc (nonneg e2 e1 (Int.not_lt.mp fun z=>i ((JN b).mpr z))) h) e
 |e b x y=>intro _ s cs k h i e g;refine yX (k:=fun D D' cs=>k (@Bool.rec (fun u=>L) (dec D) D' s::cs)) h e fun X Y cs h e1 e2 e=>?_;cases s with|true=>exact g _ (Hc (nonneg e1 e2 ((Kd b).mp i)) h) e|false=>exact g _ (Hc (pos e2 e1 (Int.not_le.mp fun z=>i ((Kd b).mpr z))) h) e
 |q b x y=>
  intro _ s cs k h i e g;refine yX (k:=fun D D' cs=> @Bool.rec (fun u=>Bool) (fork (k (dec D::cs)) (k (dec D'::cs))) (k (D::D'::cs)) s) h e fun X Y cs h e1 e2 e=>?_;cases s with
  |true=>have l:=(JA b).mp i;exact g _ (Hc (nonneg e2 e1 (Int.le_of_eq l.symm)) (Hc (nonneg e1 e2 (Int.le_of_eq l)) h)) e
  |false=>
   rcases Int.lt_or_gt_of_ne fun z=>i ((JA b).mpr z)with l|l
   ·exact g _ (Hc (pos e1 e2 l) h) (km e)
   ·exact g _ (Hc (pos e2 e1 l) h) (kn e)
 |f=>intro _ s cs k h i e g;cases s with|true=>exact i.elim|false=>exact g cs h e
 |b p hp=>intro _ s cs k h i e g;cases s with|true=>exact hp false cs k h i e g|false=>exact hp true cs k h (ZU i) e g
 |c p q hp hq=>intro _ s cs k h i e g;cases s with|true=>exact hp true cs _ h (And.left i) e fun cs h e=>hq true cs k h (And.right i) e g|false=>exact Classical.byCases (fun z=>hq false cs k h (fun y=>i ⟨z,y⟩) (km e) g) fun z=>hp false cs k h z (kn e) g
 |o p q hp hq=>intro _ s cs k h i e g;cases s with|true=>exact Z4 i (fun i=>hp true cs k h i (kn e) g) fun i=>hq true cs k h i (km e) g|false=>exact hp false cs _ h (fun z=>i (.inl z)) e fun cs h e=>hq false cs k h (fun z=>i (.inr z)) e g
noncomputable def hd (c:L):Int:= @List.rec Int (fun x=>Int) 0 (fun i x x=>i) c
noncomputable def tl (c:L):L:= @List.rec Int (fun x=>L) [] (fun x t x=>t) c
noncomputable def sg (i:Int):Nat:= @Int.rec (fun x=>Nat) (fun n=> @Nat.rec (fun x=>Nat) 0 (fun x x=>1) n) (fun x=>2) i
noncomputable def FR (c:L):L:=hd c::tl (tl c)
noncomputable def comb (a b:L):L:=FR (add (mul (-hd (tl b)) a) (mul (hd (tl a)) b))
noncomputable def pick (k:Nat)(cs:List L):List L:= @List.rec L (fun x=>List L) [] (fun c x ih=> @Bool.rec (fun x=>List L) ih (c::ih) (Nat.beq (sg (hd (tl c))) k)) cs
noncomputable def Kf (p:L)(acc ns:List L):List L:= @List.rec L (fun x=>List L) acc (fun n x ih=>comb p n::ih) ns
noncomputable def F8 (ns acc ps:List L):List L:= @List.rec L (fun x=>List L) acc (fun p x ih=>Kf p ih ns) ps
noncomputable def drops (cs:List L):List L:= @List.rec L (fun x=>List L) [] (fun c x ih=>FR c::ih) cs
noncomputable def bad (cs:List L):Bool:= @List.rec L (fun x=>Bool) false (fun c x ih=> @List.rec Int (fun x=>Bool) (@Int.rec (fun x=>Bool) (fun x=>ih) (fun x=>true) (hd c)) (fun x x x=>ih) (tl c)) cs
noncomputable def fm (f:Nat):List L->Bool:= @Nat.rec (fun x=>List L->Bool) bad (fun x ih cs=>ih (F8 (pick 2 cs) (drops (pick 0 cs)) (pick 1 cs))) f
theorem M6 (h1:ρ 0=1)(cs:List L):H ρ cs->bad cs=true->False:=by
 induction cs with
 |nil=>exact fun x e=>nomatch e
 |cons c cs ih=>
  intro h e;cases c with
  |nil=>exact ih h.2 e
  |cons i c=>
   cases c with
   |cons j c=>exact ih h.2 e
   |nil=>cases i with|ofNat n=>exact ih h.2 e|negSucc n=>have h:0<=Int.negSucc n*ρ 0+0:=h.1;rw[h1,Int.add_zero,Int.mul_one]at h;exact nomatch h
noncomputable def nx (ρ:Nat->Int)(n:Nat):Int:= @Nat.rec (fun x=>Int) 1 (fun n x=>ρ (n+2)) n
theorem Vq (h1:ρ 0=1)(c:L):ev c ρ=ev (FR c) (nx ρ)+hd (tl c)*ρ 1:=by
 cases c with
 |nil=>exact congrArg ((0:Int)+·) (Int.zero_mul (ρ 1)).symm
 |cons i c=>show i*ρ 0+_=_;rw[h1];cases c with|nil=>exact(Int.add_zero _).symm.trans (congrArg (i*1+0+·) (Int.zero_mul (ρ 1)).symm)|cons j c=>exact(congrArg (i*1+·) (Int.add_comm ..)).trans (Int.add_assoc ..).symm
theorem L1 (x y:L):hd (tl (add x y))=hd (tl x)+hd (tl y):=by
 cases x with
 |nil=>exact(Int.zero_add _).symm
 |cons i x=>cases y with
  |nil=>exact(Int.add_zero _).symm
  |cons j y=>cases x with
   |nil=>exact(Int.zero_add _).symm
   |cons k x=>cases y with
    |nil=>exact(Int.add_zero _).symm|cons l y=>rfl
theorem Fb (k:Int)(x:L):hd (tl (mul k x))=k*hd (tl x):=by
 cases x with
 |nil=>exact(Int.mul_zero k).symm
 |cons i x=>cases x with
  |nil=>exact(Int.mul_zero k).symm|cons j x=>rfl
theorem I3 (h1:ρ 0=1)(ha:0<=ev a ρ)(hb:0<=ev b ρ)(p:0<=hd (tl a))(n:hd (tl b)<=0):0<=ev (comb a b) (nx ρ):=by have h:=Int.add_nonneg (Int.mul_nonneg (Int.neg_nonneg_of_nonpos n) ha) (Int.mul_nonneg p hb);rw[<-lY,<-lY,<-vO,Vq h1,L1,Fb,Fb,Int.neg_mul,Int.mul_comm (hd (tl b)),Int.add_left_neg,Int.zero_mul,Int.add_zero]at h;exact h
noncomputable def Hs (ρ:Nat->Int)(k:Nat)(cs:List L):Prop:= @List.rec L (fun x=>Prop) True (fun c x ih=>(0<=ev c ρ/\sg (hd (tl c))=k)/\ih) cs
theorem u7 (k:Nat)(cs:List L):H ρ cs->Hs ρ k (pick k cs):=by
 induction cs with
 |nil=>exact fun x=>trivial
 |cons c cs ih=>intro h;show Hs ρ k (@Bool.rec (fun x=>List L) (pick k cs) (c::pick k cs) (Nat.beq (sg (hd (tl c))) k));cases e:Nat.beq (sg (hd (tl c))) k with|false=>exact ih h.2|true=>exact⟨⟨h.1,Nat.eq_of_beq_eq_true e⟩,ih h.2⟩
theorem VN:∀{i:Int},sg i=0->i=0| .ofNat 0,_=>rfl| .ofNat (_+1),e=>nomatch e| .negSucc _,e=>nomatch e
theorem VM:∀{i:Int},sg i=1->0<=i| .ofNat n,_=>Int.natCast_nonneg n| .negSucc _,e=>nomatch e
theorem VL:∀{i:Int},sg i=2->i<=0| .ofNat 0,e=>nomatch e| .ofNat (_+1),e=>nomatch e| .negSucc n,_=>Int.le_of_lt (Int.negSucc_lt_zero n)
theorem FQ (h1:ρ 0=1)(cs:List L):Hs ρ 0 cs->H (nx ρ) (drops cs):=by induction cs with|nil=>exact fun x=>trivial|cons c cs ih=>intro h;have e:=h.1.1;rw[Vq h1,VN h.1.2,Int.zero_mul,Int.add_zero]at e;exact⟨e,ih h.2⟩
theorem F9 (h1:ρ 0=1)(hp:0<=ev p ρ)(hs:0<=hd (tl p))(ha:H (nx ρ) acc)(ns:List L):Hs ρ 2 ns->H (nx ρ) (Kf p acc ns):=by induction ns with|nil=>exact fun x=>ha|cons c cs ih=>exact fun h=>⟨I3 h1 hp h.1.1 hs (VL h.1.2),ih h.2⟩
theorem C1 (h1:ρ 0=1)(hn:Hs ρ 2 ns)(ha:H (nx ρ) acc)(ps:List L):Hs ρ 1 ps->H (nx ρ) (F8 ns acc ps):=by induction ps with|nil=>exact fun x=>ha|cons c cs ih=>exact fun h=>F9 h1 h.1.1 (VM h.1.2) (ih h.2) ns hn
theorem Qw (f:Nat):∀(ρ:Nat->Int)(cs:List L),ρ 0=1->H ρ cs->fm f cs=true->False:=by induction f with|zero=>exact fun ρ cs h1 h e=>M6 h1 cs h e|succ f ih=>exact fun ρ cs h1 h e=>ih (nx ρ) _ rfl (C1 h1 (u7 2 cs h) (FQ h1 _ (u7 0 cs h)) _ (u7 1 cs h)) e
noncomputable def nn (n:Nat):List L:= @Nat.rec (fun x=>List L) [] (fun i ih=>(0::unit i)::ih) n
theorem QU (r:List Nat):∀(i:Nat),i<r.length->0<=Kl (all r σ) i:=by
 induction r with
 |nil=>exact fun y h=>nomatch h
 |cons x r ih=>intro i;cases i with
  |zero=>exact fun y=>Int.natCast_nonneg x|succ i=>exact fun h=>ih i (Nat.lt_of_succ_lt_succ h)
theorem OI (n:Nat):n<=r.length->H (env r σ) (nn n):=by induction n with|zero=>exact fun x=>trivial|succ i ih=>exact fun l=>⟨Int.le_trans (QU r i l) (Int.le_of_eq ((congrArg (0*1+·) (vN ..)).trans (Int.zero_add _)).symm),ih (Nat.le_of_succ_le l)⟩
noncomputable def run (N n:Nat)(p:P)(ps:List P):List L->Bool:= @List.rec P (fun x=>P->List L->Bool) (fun p cs=>pr N p false cs (fm n)) (fun q x ih p cs=>pr N p true cs (ih q)) ps p
noncomputable def den (r:List Nat)(σ:List Int)(p:P)(ps:List P):Prop:= @List.rec P (fun x=>P->Prop) (fun p=>p.den r σ) (fun q x ih p=>p.den r σ->ih q) ps p
theorem uR (n:Nat)(ps:List P):∀(p:P)(cs:List L),H (env r σ) cs->run r.length n p ps cs=true->den r σ p ps:=by induction ps with|nil=>exact fun p cs h e=>ZU fun hn=>JB p false cs _ h hn e fun cs h e=>Qw n _ cs rfl h e|cons q ps ih=>exact fun p cs h e hp=>JB p true cs _ h hp e fun cs h e=>ih q cs h e
noncomputable def sel {α:Type}(o:α)(l:List α):Nat->α:= @List.rec α (fun y=>Nat->α) (fun y=>o) (fun x y ih i=> @Nat.rec (fun y=>α) x (fun j y=>ih j) i) l
noncomputable abbrev Rd (α:Type):=Nat->α×Nat
noncomputable def one {α β:Type}(f:Rd α)(c:α->β):Rd β:=fun k=>(c (f k).1,(f k).2)
noncomputable def both {α β:Type}(f:Rd α)(c:α->α->β):Rd β:=fun k=>(c (f k).1 (f (f k).2).1,(f (f k).2).2)
noncomputable def lit (n:Nat):Rd Nat:=fun k=>(k%n,k/n)
noncomputable def rT (f:Nat):Rd T:= @Nat.rec (fun x=>Rd T) (fun k=>(.n 0,k)) (fun x r k=> @Bool.rec (fun x=>T×Nat) (sel (fun k=>(.n 0,k)) [fun k=>(.n 0,k),fun k=>(.n 1,k),one (lit 256) .n,both r .a,both r .s,fun k=>one r (.m (k%256)) (k/256),fun k=>one r (.w · (k%256)) (k/256),fun k=> @Bool.rec (fun x=>T×Nat) (sel (fun k=>(.n 0,k)) [one (lit 4294967296) .n,one r .g,one r .c,one r .t,both r .u,both r .d] (k%16-8) (k/16)) (.j (k%16),k/16) (Nat.blt (k%16) 8)] (k%16-8) (k/16)) (.v (k%16),k/16) (Nat.blt (k%16) 8)) f
noncomputable def rP (f:Nat):Rd P:= @Nat.rec (fun x=>Rd P) (fun k=>(.f,k)) (fun x r k=>(fun t=>sel (fun k=>(.f,k)) [both t (.l false),both t (.e false),both t (.q false),one r .b,both r .c,both r .o,fun k=>(.f,k),both t (.l true),both t (.e true),both t (.q true)] (k%16) (k/16)) (rT 20)) f
noncomputable def rL (n:Nat):Nat->List P:= @Nat.rec (fun x=>Nat->List P) (fun x=>[]) (fun x ih k=>(rP 20 k).1::ih (rP 20 k).2) n
noncomputable def p1 (k:Nat):P:=(rP 20 (k/16)).1
noncomputable def ps (k:Nat):List P:=rL (k%16-1) (rP 20 (k/16)).2
noncomputable def ck (N M k:Nat):Bool:=run N (N+M) (p1 k) (ps k) (nn N)
noncomputable def dn (r:List Nat)(σ:List Int)(k:Nat):Prop:=den r σ (p1 k) (ps k)
theorem A3 (r:List Nat)(σ:List Int)(h:ck r.length σ.length k=true):dn r σ k:=uR _ _ _ _ (OI _ (ZQ _)) h
end
end Z
section
open Z
theorem bC (k:Nat)(h:ck 1 0 k=true):dn [a] [] k:=A3 _ _ h
theorem aR (k:Nat)(h:ck 2 0 k=true):dn [a,b] [] k:=A3 _ _ h
theorem aX (k:Nat)(h:ck 3 0 k=true):dn [a,b,c] [] k:=A3 _ _ h
theorem cZ (k:Nat)(h:ck 4 0 k=true):dn [a,b,c,d] [] k:=A3 _ _ h
theorem r8 (k:Nat)(h:ck 5 0 k=true):dn [a,b,c,d,e] [] k:=A3 _ _ h
theorem AG (k:Nat)(h:ck 6 0 k=true):dn [a,b,c,d,e,f] [] k:=A3 _ _ h
theorem Q2 (k:Nat)(h:ck 7 0 k=true):dn [a,b,c,d,e,f,g] [] k:=A3 _ _ h
theorem Ni (k:Nat)(h:ck 8 0 k=true):dn [a,b,c,d,e,f,g,i] [] k:=A3 _ _ h
theorem ni (k:Nat)(h:ck 0 1 k=true):dn [] [a] k:=A3 _ _ h
theorem Nh (k:Nat)(h:ck 0 2 k=true):dn [] [a,b] k:=A3 _ _ h
theorem RI (k:Nat)(h:ck 0 3 k=true):dn [] [a,b,c] k:=A3 _ _ h
theorem Jt (k:Nat)(h:ck 1 1 k=true):dn [a] [x] k:=A3 _ _ h
theorem VC (k:Nat)(h:ck 2 1 k=true):dn [a,b] [x] k:=A3 _ _ h
theorem RH (k:Nat)(h:ck 3 1 k=true):dn [a,b,c] [x] k:=A3 _ _ h
end
section
universe u0 u1 u2 u3 u4 u5 u6
theorem aL {p0 p1:Prop}{G:Prop}(h:p0/\p1)(f:p0->p1->G):G:=f h.1 h.2
theorem aJ {fJ:Sort u0}{p0:fJ->Prop}{G:Prop}(h:∃a0,p0 a0)(f:∀a0,p0 a0->G):G:=h.elim f
theorem bg {p0 p1 p2:Prop}{G:Prop}(h:p0/\p1/\p2)(f:p0->p1->p2->G):G:=f h.1 h.2.1 h.2.2
theorem ax {fJ:Sort u0}{p0 p1:fJ->Prop}{G:Prop}(h:∃a0,p0 a0/\p1 a0)(f:∀a0,p0 a0->p1 a0->G):G:=h.elim fun a h=>aL h (f a)
theorem jK {fJ:Sort u0}{iB:Sort u1}{p0:fJ->iB->Prop}{G:Prop}(h:∃a0 a1,p0 a0 a1)(f:∀a0 a1,p0 a0 a1->G):G:=h.elim fun a h=>aJ h (f a)
theorem mu {p0 p1 p2 p3:Prop}{G:Prop}(h:p0/\p1/\p2/\p3)(f:p0->p1->p2->p3->G):G:=f h.1 h.2.1 h.2.2.1 h.2.2.2
theorem eD {fJ:Sort u0}{p0 p1 p2:fJ->Prop}{G:Prop}(h:∃a0,p0 a0/\p1 a0/\p2 a0)(f:∀a0,p0 a0->p1 a0->p2 a0->G):G:=h.elim fun a h=>bg h (f a)
theorem eZ {fJ:Sort u0}{iB:Sort u1}{p0 p1:fJ->iB->Prop}{G:Prop}(h:∃a0 a1,p0 a0 a1/\p1 a0 a1)(f:∀a0 a1,p0 a0 a1->p1 a0 a1->G):G:=h.elim fun a h=>ax h (f a)
theorem i0 {fJ:Sort u0}{iB:Sort u1}{mr:Sort u2}{p0:fJ->iB->mr->Prop}{G:Prop}(h:∃a0 a1 a2,p0 a0 a1 a2)(f:∀a0 a1 a2,p0 a0 a1 a2->G):G:=h.elim fun a h=>jK h (f a)
theorem sh {p0 p1 p2 p3 p4:Prop}{G:Prop}(h:p0/\p1/\p2/\p3/\p4)(f:p0->p1->p2->p3->p4->G):G:=f h.1 h.2.1 h.2.2.1 h.2.2.2.1 h.2.2.2.2
theorem yR {fJ:Sort u0}{p0 p1 p2 p3:fJ->Prop}{G:Prop}(h:∃a0,p0 a0/\p1 a0/\p2 a0/\p3 a0)(f:∀a0,p0 a0->p1 a0->p2 a0->p3 a0->G):G:=h.elim fun a h=>mu h (f a)
theorem eB {fJ:Sort u0}{iB:Sort u1}{p0 p1 p2:fJ->iB->Prop}{G:Prop}(h:∃a0 a1,p0 a0 a1/\p1 a0 a1/\p2 a0 a1)(f:∀a0 a1,p0 a0 a1->p1 a0 a1->p2 a0 a1->G):G:=h.elim fun a h=>eD h (f a)
theorem jJ {fJ:Sort u0}{iB:Sort u1}{mr:Sort u2}{p0 p1:fJ->iB->mr->Prop}{G:Prop}(h:∃a0 a1 a2,p0 a0 a1 a2/\p1 a0 a1 a2)(f:∀a0 a1 a2,p0 a0 a1 a2->p1 a0 a1 a2->G):G:=h.elim fun a h=>eZ h (f a)
theorem Kv {fJ:Sort u0}{iB:Sort u1}{mr:Sort u2}{uz:Sort u3}{p0:fJ->iB->mr->uz->Prop}{G:Prop}(h:∃a0 a1 a2 a3,p0 a0 a1 a2 a3)(f:∀a0 a1 a2 a3,p0 a0 a1 a2 a3->G):G:=h.elim fun a h=>i0 h (f a)
theorem By {p0 p1 p2 p3 p4 p5:Prop}{G:Prop}(h:p0/\p1/\p2/\p3/\p4/\p5)(f:p0->p1->p2->p3->p4->p5->G):G:=f h.1 h.2.1 h.2.2.1 h.2.2.2.1 h.2.2.2.2.1 h.2.2.2.2.2
theorem uB {fJ:Sort u0}{p0 p1 p2 p3 p4:fJ->Prop}{G:Prop}(h:∃a0,p0 a0/\p1 a0/\p2 a0/\p3 a0/\p4 a0)(f:∀a0,p0 a0->p1 a0->p2 a0->p3 a0->p4 a0->G):G:=h.elim fun a h=>sh h (f a)
theorem iZ {fJ:Sort u0}{iB:Sort u1}{p0 p1 p2 p3:fJ->iB->Prop}{G:Prop}(h:∃a0 a1,p0 a0 a1/\p1 a0 a1/\p2 a0 a1/\p3 a0 a1)(f:∀a0 a1,p0 a0 a1->p1 a0 a1->p2 a0 a1->p3 a0 a1->G):G:=h.elim fun a h=>yR h (f a)
theorem sd {fJ:Sort u0}{iB:Sort u1}{mr:Sort u2}{p0 p1 p2:fJ->iB->mr->Prop}{G:Prop}(h:∃a0 a1 a2,p0 a0 a1 a2/\p1 a0 a1 a2/\p2 a0 a1 a2)(f:∀a0 a1 a2,p0 a0 a1 a2->p1 a0 a1 a2->p2 a0 a1 a2->G):G:=h.elim fun a h=>eB h (f a)
theorem NJ {fJ:Sort u0}{iB:Sort u1}{mr:Sort u2}{uz:Sort u3}{p0 p1:fJ->iB->mr->uz->Prop}{G:Prop}(h:∃a0 a1 a2 a3,p0 a0 a1 a2 a3/\p1 a0 a1 a2 a3)(f:∀a0 a1 a2 a3,p0 a0 a1 a2 a3->p1 a0 a1 a2 a3->G):G:=h.elim fun a h=>jJ h (f a)
theorem RP {fJ:Sort u0}{iB:Sort u1}{mr:Sort u2}{uz:Sort u3}{DC:Sort u4}{p0:fJ->iB->mr->uz->DC->Prop}{G:Prop}(h:∃a0 a1 a2 a3 a4,p0 a0 a1 a2 a3 a4)(f:∀a0 a1 a2 a3 a4,p0 a0 a1 a2 a3 a4->G):G:=h.elim fun a h=>Kv h (f a)
theorem NI {p0 p1 p2 p3 p4 p5 p6:Prop}{G:Prop}(h:p0/\p1/\p2/\p3/\p4/\p5/\p6)(f:p0->p1->p2->p3->p4->p5->p6->G):G:=f h.1 h.2.1 h.2.2.1 h.2.2.2.1 h.2.2.2.2.1 h.2.2.2.2.2.1 h.2.2.2.2.2.2
theorem Bx {fJ:Sort u0}{p0 p1 p2 p3 p4 p5:fJ->Prop}{G:Prop}(h:∃a0,p0 a0/\p1 a0/\p2 a0/\p3 a0/\p4 a0/\p5 a0)(f:∀a0,p0 a0->p1 a0->p2 a0->p3 a0->p4 a0->p5 a0->G):G:=h.elim fun a h=>By h (f a)
theorem Bw {fJ:Sort u0}{iB:Sort u1}{p0 p1 p2 p3 p4:fJ->iB->Prop}{G:Prop}(h:∃a0 a1,p0 a0 a1/\p1 a0 a1/\p2 a0 a1/\p3 a0 a1/\p4 a0 a1)(f:∀a0 a1,p0 a0 a1->p1 a0 a1->p2 a0 a1->p3 a0 a1->p4 a0 a1->G):G:=h.elim fun a h=>uB h (f a)
theorem jz {fJ:Sort u0}{iB:Sort u1}{mr:Sort u2}{p0 p1 p2 p3:fJ->iB->mr->Prop}{G:Prop}(h:∃a0 a1 a2,p0 a0 a1 a2/\p1 a0 a1 a2/\p2 a0 a1 a2/\p3 a0 a1 a2)(f:∀a0 a1 a2,p0 a0 a1 a2->p1 a0 a1 a2->p2 a0 a1 a2->p3 a0 a1 a2->G):G:=h.elim fun a h=>iZ h (f a)
theorem jI {fJ:Sort u0}{iB:Sort u1}{mr:Sort u2}{uz:Sort u3}{p0 p1 p2:fJ->iB->mr->uz->Prop}{G:Prop}(h:∃a0 a1 a2 a3,p0 a0 a1 a2 a3/\p1 a0 a1 a2 a3/\p2 a0 a1 a2 a3)(f:∀a0 a1 a2 a3,p0 a0 a1 a2 a3->p1 a0 a1 a2 a3->p2 a0 a1 a2 a3->G):G:=h.elim fun a h=>sd h (f a)
theorem RO {fJ:Sort u0}{iB:Sort u1}{mr:Sort u2}{uz:Sort u3}{DC:Sort u4}{p0 p1:fJ->iB->mr->uz->DC->Prop}{G:Prop}(h:∃a0 a1 a2 a3 a4,p0 a0 a1 a2 a3 a4/\p1 a0 a1 a2 a3 a4)(f:∀a0 a1 a2 a3 a4,p0 a0 a1 a2 a3 a4->p1 a0 a1 a2 a3 a4->G):G:=h.elim fun a h=>NJ h (f a)
theorem NH {fJ:Sort u0}{iB:Sort u1}{mr:Sort u2}{uz:Sort u3}{DC:Sort u4}{NG:Sort u5}{p0:fJ->iB->mr->uz->DC->NG->Prop}{G:Prop}(h:∃a0 a1 a2 a3 a4 a5,p0 a0 a1 a2 a3 a4 a5)(f:∀a0 a1 a2 a3 a4 a5,p0 a0 a1 a2 a3 a4 a5->G):G:=h.elim fun a h=>RP h (f a)
theorem RN {p0 p1 p2 p3 p4 p5 p6 p7:Prop}{G:Prop}(h:p0/\p1/\p2/\p3/\p4/\p5/\p6/\p7)(f:p0->p1->p2->p3->p4->p5->p6->p7->G):G:=f h.1 h.2.1 h.2.2.1 h.2.2.2.1 h.2.2.2.2.1 h.2.2.2.2.2.1 h.2.2.2.2.2.2.1 h.2.2.2.2.2.2.2
theorem DE {fJ:Sort u0}{iB:Sort u1}{p0 p1 p2 p3 p4 p5:fJ->iB->Prop}{G:Prop}(h:∃a0 a1,p0 a0 a1/\p1 a0 a1/\p2 a0 a1/\p3 a0 a1/\p4 a0 a1/\p5 a0 a1)(f:∀a0 a1,p0 a0 a1->p1 a0 a1->p2 a0 a1->p3 a0 a1->p4 a0 a1->p5 a0 a1->G):G:=h.elim fun a h=>Bx h (f a)
theorem uA {fJ:Sort u0}{iB:Sort u1}{mr:Sort u2}{p0 p1 p2 p3 p4:fJ->iB->mr->Prop}{G:Prop}(h:∃a0 a1 a2,p0 a0 a1 a2/\p1 a0 a1 a2/\p2 a0 a1 a2/\p3 a0 a1 a2/\p4 a0 a1 a2)(f:∀a0 a1 a2,p0 a0 a1 a2->p1 a0 a1 a2->p2 a0 a1 a2->p3 a0 a1 a2->p4 a0 a1 a2->G):G:=h.elim fun a h=>Bw h (f a)
theorem cL {fJ:Sort u0}{iB:Sort u1}{mr:Sort u2}{uz:Sort u3}{p0 p1 p2 p3:fJ->iB->mr->uz->Prop}{G:Prop}(h:∃a0 a1 a2 a3,p0 a0 a1 a2 a3/\p1 a0 a1 a2 a3/\p2 a0 a1 a2 a3/\p3 a0 a1 a2 a3)(f:∀a0 a1 a2 a3,p0 a0 a1 a2 a3->p1 a0 a1 a2 a3->p2 a0 a1 a2 a3->p3 a0 a1 a2 a3->G):G:=h.elim fun a h=>jz h (f a)
theorem G5 {fJ:Sort u0}{iB:Sort u1}{mr:Sort u2}{uz:Sort u3}{DC:Sort u4}{p0 p1 p2:fJ->iB->mr->uz->DC->Prop}{G:Prop}(h:∃a0 a1 a2 a3 a4,p0 a0 a1 a2 a3 a4/\p1 a0 a1 a2 a3 a4/\p2 a0 a1 a2 a3 a4)(f:∀a0 a1 a2 a3 a4,p0 a0 a1 a2 a3 a4->p1 a0 a1 a2 a3 a4->p2 a0 a1 a2 a3 a4->G):G:=h.elim fun a h=>jI h (f a)
theorem wz {fJ:Sort u0}{iB:Sort u1}{mr:Sort u2}{uz:Sort u3}{DC:Sort u4}{NG:Sort u5}{p0 p1:fJ->iB->mr->uz->DC->NG->Prop}{G:Prop}(h:∃a0 a1 a2 a3 a4 a5,p0 a0 a1 a2 a3 a4 a5/\p1 a0 a1 a2 a3 a4 a5)(f:∀a0 a1 a2 a3 a4 a5,p0 a0 a1 a2 a3 a4 a5->p1 a0 a1 a2 a3 a4 a5->G):G:=h.elim fun a h=>RO h (f a)
theorem Ku {fJ:Sort u0}{iB:Sort u1}{mr:Sort u2}{uz:Sort u3}{DC:Sort u4}{NG:Sort u5}{VB:Sort u6}{p0:fJ->iB->mr->uz->DC->NG->VB->Prop}{G:Prop}(h:∃a0 a1 a2 a3 a4 a5 a6,p0 a0 a1 a2 a3 a4 a5 a6)(f:∀a0 a1 a2 a3 a4 a5 a6,p0 a0 a1 a2 a3 a4 a5 a6->G):G:=h.elim fun a h=>NH h (f a)
@[elab_as_elim] theorem xR {α:Sort u0} {a b:α} {P:α->Prop} (h:a=b) (k:P b):P a:=h.symm▸k
@[elab_as_elim] theorem xL {α:Sort u0} {a b:α} {P:α->Prop} (h:b=a) (k:P b):P a:=h▸k
theorem Up {a b c d e g:Type}{P:a×b×c×d×e×g->Prop}(f:∀x y z u v w,P (x,y,z,u,v,w)):∀x,P x:=fun x=>f x.1 x.2.1 x.2.2.1 x.2.2.2.1 x.2.2.2.2.1 x.2.2.2.2.2
@[elab_as_elim] theorem len0 {α:Type} {P:List α->Prop} {l:List α} (h:l.length=0) (f:P []):P l:=by
 induction l with
 |nil=>exact f
 |cons a l=>exact nomatch h
@[elab_as_elim] theorem zE {α:Type} {P:List α->Prop} {l:List α} {n:Nat} (h:l.length=n+1) (f:∀a r,r.length=n->P (a::r)):P l:=by
 induction l with
 |nil=>exact nomatch h
 |cons a l=>exact f a l (Nat.succ.inj h)
@[elab_as_elim] theorem Sl {α:Type} {P:List α->Prop} {l:List α} (h:l.length=1) (f:∀a,P [a]):P l:=zE h fun a r h=>len0 h (f a)
theorem Qy {α:Type}{l:List α}(h:l.length=1):∃a,l=[a]:=zE (P:=fun l=>∃a,l=[a]) h fun a r h=>len0 (P:=fun r=>∃b,a::r=[b]) h ⟨a,rfl⟩
theorem Rv {α:Type}{l:List α}(h:l.length=2):∃a b,l=[a,b]:=zE (P:=fun l=>∃a b,l=[a,b]) h fun a r h=>(Qy h).elim fun b e=>⟨a,b,e▸rfl⟩
theorem X4 {α:Type}{l:List α}(h:l.length=6):∃a b c d e g,l=[a,b,c,d,e,g]:=zE (P:=fun l=>∃a b c d e g,l=[a,b,c,d,e,g]) h fun a r h=>zE (P:=fun r=>∃x b c d e g,a::r=[x,b,c,d,e,g]) h fun b r h=>zE (P:=fun r=>∃x y c d e g,a::b::r=[x,y,c,d,e,g]) h fun c r h=>zE (P:=fun r=>∃x y z d e g,a::b::c::r=[x,y,z,d,e,g]) h fun d r h=>(Rv h).elim fun e h=>h.elim fun g h=>⟨a,b,c,d,e,g,h▸rfl⟩
theorem Yr {P:Nat->Prop}(h:k<0):P k:=(Nat.not_lt_zero k h).elim
theorem Au {P:Nat->Prop}(g:k<n->P k)(f:P n)(h:k<n+1):P k:=(Nat.lt_or_eq_of_le (Nat.le_of_lt_succ h)).elim g fun e=>e▸f
@[elab_as_elim] theorem Sj {P:Nat->Prop} (h:k<6) (a:P 0) (b:P 1) (c:P 2) (d:P 3) (e:P 4) (f:P 5):P k:=Au (Au (Au (Au (Au (Au Yr a) b) c) d) e) f h
@[elab_as_elim] theorem Pe {P:Nat->Prop} (h:k<15) (a:P 0) (b:P 1) (c:P 2) (d:P 3) (e:P 4) (f:P 5) (a':P 6) (b':P 7) (c':P 8) (d':P 9) (e':P 10) (f':P 11) (g:P 12) (i:P 13) (j:P 14):P k:=
 Au (Au (Au (Au (Au (Au (Au (Au (Au (Sj · a b c d e f) a') b') c') d') e') f') g) i) j h
end
section
open PySem PySem.W PyProof.Rows
open Sem (wp)
theorem aa {α:Type}{a:α}{P:Prop}(h:none=some a):P:=nomatch h
set_option tactic.hygienic true in
theorem ao {α β:Type}{x:Option α}{f:α->Option β}{b:β}{P:Prop}(h:x.bind f=some b)(k:∀a,x=some a->f a=some b->P):P:=by
 rcases x with⟨⟩;case none=>exact aa h
 case some a=>exact k a rfl h
set_option tactic.hygienic true in
theorem aZ {α β:Type}{x:Option α}{f:α->β}{b:β}{P:Prop}(h:x.map f=some b)(k:∀a,x=some a->f a=b->P):P:=by
 rcases x with⟨⟩;case none=>exact aa h
 case some a=>exact k a rfl (Z9 h)
theorem aI {c:Prop}{_:Decidable c}{β:Type}{x:Option β}{b:β}{P:Prop}(h:(if c then x else none)=some b)(k:c->x=some b->P):P:=by
 split at h
 ·rename_i hc;exact k hc h
 ·exact aa h
theorem vA {c:Prop}{_:Decidable c}{β:Type}{x:Option β}{b:β}{P:Prop}(h:(if c then none else x)=some b)(k:¬c->x=some b->P):P:=by
 split at h
 ·exact aa h
 ·rename_i hc;exact k hc h
noncomputable def holders:List String:=Builtin.Bytes.decodersThatHold++["bytearray.__contains__","bytearray.__mod__","bytearray.__rmod__","_struct.pack_into.held","bytearray.find.held"]
def lT:Code->Bool| .builtin id _=> !holders.contains id|_=>true
set_option backward.match.sparseCases true in
noncomputable def isCaller:Code->Bool| .builtin "claim.caller" _=>true|_=>false
def GP (Γ:Ctx):Prop:=(∀x∈Γ.below,lT x.1=true)/\∃x∈Γ.below,isCaller x.1=true
def Clean (Γ:Ctx):Prop:=lT Γ.code=true/\(∀x∈Γ.below,lT x.1=true)/\(isCaller Γ.code=true\/∃x∈Γ.below,isCaller x.1=true)
theorem Clean.enter (h:Clean Γ)(c:Code)(hd:Option Value)(p:Pos):GP (Γ.enter c hd p):=by
 refine⟨fun x hx=>?_,?_⟩
 ·refine Z4 (Zy hx) (fun q=>?_) fun q=>?_
  ·refine xR q ?_;exact h.1
  ·exact h.2.1 x q
 ·refine Z4 h.2.2 (fun q=>?_) fun y0=>?_
  ·exact⟨(Γ.code,p),Z6,q⟩
  ·refine ax y0 fun x hx q=>?_;exact⟨x,Z7 _ hx,q⟩
def aK {α:Type}(M:Model)(A:Around)(t:Sem α)(Q:α->Shared->Prop)(E:Value->Shared->Prop)(s:Shared):Prop:=∀Γ p,Γ.In A->Clean Γ/\0<s.toks->wp M Γ t (fun a x s'=>Q a s') (fun e x s'=>E e s') p s
def cb (M:Model)(A:Around)(c:Code)(R:Result->Shared->Prop)(s:Shared):Prop:=∀Γ p,Γ.code=c->Γ.Below A->GP Γ/\0<s.toks->wpCode M Γ R p s
end
section
open PySem PySem.W PyProof.Rows
open Sem (wp)
variable {α β:Type} {M:Model} {A:Around} {E:Value->Shared->Prop} {s:Shared} {env:Env}
theorem ai {Q:α->Shared->Prop}(h:wpAny M A t Q E s):aK M A t Q E s:=fun Γ p iW x=>h Γ p iW
theorem Ga {R:Result->Shared->Prop}(h:codeAny M A c R s):cb M A c R s:=fun Γ p hc iW x=>h Γ p hc iW
theorem ah {Q:α->Shared->Prop}(h:Q a s):aK M A (pure a) Q E s:=fun x x x x=>h
theorem aD {Q Q':α->Shared->Prop}{E':Value->Shared->Prop}(h:aK M A t Q E s)(hQ:∀a s,Q a s->Q' a s)(hE:∀e s,E e s->E' e s):aK M A t Q' E' s:=fun Γ p iW hc=>Sem.wp_mono M Γ t (fun a x s=>hQ a s) (fun e x s=>hE e s) p s (h Γ p iW hc)
theorem ab {Q:β->Shared->Prop}(h:aK M A m (fun a s'=>aK M A (f a) Q E s') E s):aK M A (m>>=f) Q E s:=fun Γ p iW hc=>by simp only[Sem.wp_bind'];exact Sem.wp_mono M Γ m (fun a p' s' h'=>h'.2 Γ p' iW ⟨hc.1,h'.1⟩) (fun x x x h'=>h'.2) p s (Sem.wp_toks M Γ 1 m _ _ p s hc.2 (h Γ p iW hc))
theorem aq {Q:Unit->Shared->Prop}(h:Q () s):aK M A (standAt pos) Q E s:=ai (wpAny_standAt h)
theorem gA {Q:Unit->Shared->Prop}(h:Q () s):aK M A (rule tag) Q E s:=ai (wpAny_rule h)
theorem ar {Q:α->Shared->Prop}(h:aK M A m Q E s):aK M A (holding vs m) Q E s:=fun Γ p iW hc=>by rw[Sem.wp_holding];exact h Γ p iW hc
theorem mw {Q:Value->Shared->Prop}(h:aK M A m Q E s):aK M A (operate vs m) Q E s:=fun Γ p iW hc=>by rw[Sem.wp_operate];exact h Γ p iW hc
theorem dj {Q:α->Shared->Prop}(h:aK M A m Q (fun e s'=>aK M A (k e) (fun x fM=>E e fM) E s') s):aK M A (m.onRaise k) Q E s:=fun Γ p iW hc=>Eq.mpr (Sem.wp_onRaise ..) <|Sem.wp_mono M Γ m (fun x x x h'=>h'.2) (fun e p' s' h'=>h'.2 Γ p' iW ⟨hc.1,h'.1⟩) p s (Sem.wp_toks M Γ 1 m _ _ p s hc.2 (h Γ p iW hc))
theorem gU {Q:Except Value α->Shared->Prop}(h:aK M A m (fun a=>Q (.ok a)) (fun e=>Q (.error e)) s):aK M A m.attempt Q E s:=fun Γ p iW hc=>Eq.mpr (Sem.wp_attempt ..) (h Γ p iW hc)
theorem AI {c:Prop}[Decidable c]{Q:α->Shared->Prop}(h:if c then aK M A a Q E s else aK M A b Q E s):aK M A (if c then a else b) Q E s:=by split<;>simp_all
theorem bO {Q:α->Shared->Prop}(h:t=pure a)(hQ:Q a s):aK M A t Q E s:=h▸ah hQ
def nO (M:Model)(A:Around)(env:Env)(E:Value->Shared->Prop):Value->Shared->Prop:=fun x s'=>aK M A (noteFrame x env) (fun y fM=>E x fM) E s'
theorem fe {Q:α->Shared->Prop}(h:aK M A m Q (nO M A env E) s):aK M A (m.onRaise fun x=>do noteFrame x env;theTreesLotGoes x) Q E s:=dj (aD h (fun y y q=>q) fun y y hx=>ab (aD hx (fun y y e=>ai (wpAny_theTreesLotGoes e)) fun y y e=>e))
theorem wD {Q:α->Shared->Prop}(h:aK M A m Q (nO M A env E) s):aK M A (m.onRaise fun x=>do noteFrame x env;standAt pos) Q E s:=dj (aD h (fun y y q=>q) fun y y hx=>ab (aD hx (fun y y e=>aq e) fun y y e=>e))
set_option backward.match.sparseCases true in
theorem AH {Q:Flow->Shared->Prop}(hc:cb M (A.mark h) c (fun r s'=>match r with| .ok f=>Q f s'| .error e=>E e s') s)(PS:h≠some byPass):aK M A (run c h) Q E s:=fun Γ p iW cl=>Eq.mpr (Sem.wp_run ..) (hc _ p rfl (iW.enter c h p PS) ⟨cl.1.enter c h p,cl.2⟩)
set_option backward.match.sparseCases true in
theorem uC {Q:Value->Shared->Prop}(hc:cb M A c (fun r s'=>match r with| .ok (.ret v)=>Q v s'| .ok _=>False| .error e=>E e s') s):aK M A (runValue c) Q E s:=fun Γ p iW cl=>Eq.mpr (Sem.wp_runValue ..) (hc _ p rfl (iW.enter c none p (by intro x;exact aa x)) ⟨cl.1.enter c none p,cl.2⟩)
set_option backward.match.sparseCases true in
theorem gC {Q:Value->Shared->Prop}(hc:cb M A (.call f ⟨pos,kw⟩) (fun r s'=>match r with| .ok (.ret v)=>Q v s'| .ok _=>False| .error e=>E e s') s):aK M A (call f pos kw) Q E s:=uC hc
set_option backward.match.sparseCases true in
theorem aS {R:Result->Shared->Prop}(h:aK M (A.under c) (M.den c) (fun fin s'=>match fin with| .done f=>R (.ok f) s'| .again c'=>c'.quiet=true/\cb M A c' R s') (fun e s'=>R (.error e) s') s)(hk:lT c=true):cb M A c R s:=fun Γ p hc iW cl=>by rw[wpCode_iff_wp,hc];refine Sem.wp_mono M Γ _ (fun fin p' s' h'=>?_) (fun x x x h'=>h'.2) p s (Sem.wp_toks M Γ 1 _ _ _ p s cl.2 (h Γ p (hc▸iW.in) ⟨⟨by refine xR hc ?_;exact hk,cl.1.1,.inr cl.1.2⟩,cl.2⟩));refine aL h' fun ht h'=>?_;cases fin with|done f=>exact h'|again c'=>exact⟨h'.1,h'.2 (Γ.goto c') p' rfl (iW.goto c') ⟨cl.1,ht⟩⟩
theorem DF {Q:α->Shared->Prop}(h:0<s.toks->aK M A t Q E s):aK M A t Q E s:=fun Γ p iW hc=>h hc.2 Γ p iW hc
theorem l8 {R R':Result->Shared->Prop}(h:cb M A c R s)(hR:∀r s,R r s->R' r s):cb M A c R' s:=fun Γ p hc iW cl=>wpCode_mono hR (h Γ p hc iW cl)
def Kh (M:Model)(A:Around)(env:Env)(E:Value->Shared->Prop):Value->Shared->Prop:=fun x s'=>aK M A (do
  if(<-field x 1)== .none then unsupported "frame.own-activation:exception-without-traceback"
  setFlight x env.frame) (fun y fM=>E x fM) E s'
set_option backward.match.sparseCases true in
theorem gz {Q:Flow->Shared->Prop}(hc:cb M (A.mark h) c (fun r s'=>match r with| .ok f=>Q f s'| .error e=>Kh M A env E e s') s)(PS:h≠some byPass:=by intro x;cases x):aK M A (runOwn c env h) Q E s:=by delta runOwn;exact dj (AH hc PS)
theorem bY {Q:List Value->Shared->Prop}(h:Q [] s):aK M A (spliced (backTo pos (starEach [] env))) Q E s:=ah h
theorem bu {Q:List Value->Shared->Prop}(h:aK M A (eval e env) (fun v aB=>aK M A (spliced (backTo pos (starEach rest env))) (fun vs bM=>Q (v::vs) bM) E aB) E s)(he:starEach (e::rest) env=(false,eval e env)::starEach rest env:=by rfl):aK M A (spliced (backTo pos (starEach (e::rest) env))) Q E s:=by
 refine xR he ?_;show aK M A (do
  let v <-eval e env;let here <-(pure [v]:Sem (List Value));return here++(<-holding here (spliced (backTo pos (starEach rest env))))) Q E s
 exact ab (aD h (fun v aB bh=>ab (ah (ab (ar (aD bh (fun vs bM eM=>ah eM) fun y y x=>x))))) fun y y x=>x)
theorem wG {Q:Value->Shared->Prop}(h:aK M A (spliced (backTo pos (starEach elts env))) (fun vs aB=>vs.length<=sizeLine/\Q (.ref aB.heap.objs.size) {aB with heap:=aB.heap.push {cls:=.type "list",data:=.seq vs.toArray}}) E s):aK M A (eval (.List elts pos) env) Q E s:=by rw[arm_eval_List];exact ab (aq (ab (aD h (fun vs aB bh=>ai (wpAny_newObj_type bh.2 (by show vs.toArray.size<=sizeLine;refine xR ZT ?_;exact bh.1))) fun y y x=>x)))
theorem BA {Q:Value->Shared->Prop}(h:aK M A (spliced (backTo pos (starEach elts env))) (fun vs aB=>vs.length<=sizeLine/\Q (.ref aB.heap.objs.size) {aB with heap:=aB.heap.push {cls:=.type "tuple",data:=.seq vs.toArray}}) E s):aK M A (eval (.Tuple elts k pos) env) Q E s:=by rw[arm_eval_Tuple];exact ab (aq (ab (aD h (fun vs aB bh=>ai (wpAny_newObj_type bh.2 (by show vs.toArray.size<=sizeLine;refine xR ZT ?_;exact bh.1))) fun y y x=>x)))
theorem BB {lower upper step:Option Expr}{p:Pos}{Q:Value->Shared->Prop}(h:aK M A (evalPart lower env) (fun l aB=>aK M A (evalPart upper env) (fun u bM=>aK M A (evalPart step env) (fun st lP=>Q (.ref lP.heap.objs.size) {lP with heap:=lP.heap.push {cls:=.type "slice",data:=.fields #[l,u,st]}}) E bM) E aB) E s):aK M A (eval (.Slice lower upper step p) env) Q E s:=by rw[arm_eval_Slice];exact ab (aD h (fun l aB bh=>ab (ar (aD bh (fun u bM eM=>ab (ar (aD eM (fun st lP xW=>ai (wpAny_newObj_type xW)) fun y y x=>x))) fun y y x=>x))) fun y y x=>x)
theorem oM {Q:Value->Shared->Prop}(h:aK M A (eval x env) (fun v aB=>aK M A (unaryOp op v) Q E aB) E s):aK M A (eval (.UnaryOp op x pos) env) Q E s:=by rw[arm_eval_UnaryOp];exact ab (aD h (fun v aB bh=>ab (aq (ar bh))) fun y y x=>x)
theorem BD {Q:Value->Shared->Prop}(h:aK M A (isTrue test env (eval test env)) (fun b aB=>if b then aK M A (eval body env) Q E aB else aK M A (eval orelse env) Q E aB) E s):aK M A (eval (.IfExp test body orelse pos) env) Q E s:=by rw[arm_eval_IfExp];refine ab (aD h (fun b aB bh=>?_) fun y y x=>x);rcases b with⟨⟩<;>exact bh
theorem Kw {Q:Flow->Shared->Prop}(h:aK M A (isTrue test env (eval test env)) (fun b bM=>if b then aK M A (execs body env) Q E bM else aK M A (execs orelse env) Q E bM) E s):aK M A (exec (.If test body orelse pos) env) Q E s:=by rw[exec_If];refine ab (aq (ab (aD h (fun b aB bh=>?_) fun y y x=>x)));rcases b with⟨⟩<;>exact bh
theorem pq {Q:Flow->Shared->Prop}(h:aK M A (eval e env) (fun v=>Q (.ret v)) E s):aK M A (exec (.Return (some e) pos) env) Q E s:=by rw[exec_Return_some];exact ab (aq (ab (aD h (fun v aB bh=>ah bh) fun y y x=>x)))
set_option backward.match.sparseCases true in
theorem wH {Q:Flow->Shared->Prop}(h:aK M A (eval e env) (fun v s'=>match v with| .ref _=>False|_=>Q .next s') E s)(hi:interactive env=false:=by rfl)(hs:swapsWith e none pos.line env=pure false:=by rfl):aK M A (exec (.Expr e pos) env) Q E s:=by
 refine xR (exec_Expr env e pos hi hs) ?_;refine ab (aq (ab (aD h (fun v s' h'=>?_) fun y y x=>x)));have hv:∀a,v≠.ref a:=fun a JQ=>by subst JQ;exact h'
 refine xR (dropValue_plain hv) ?_;refine ah ?_;rcases v with⟨⟩<;>first|exact h'|exact(hv _ rfl).elim
theorem BE {Q:Value->Shared->Prop}(h:aK M A (eval l env) (fun a aB=>aK M A (eval r env) (fun b bM=>aK M A (binaryOp op a b) Q E bM) E aB) E s):aK M A (eval (.BinOp l op r pos) env) Q E s:=by rw[eval_BinOp];exact ab (aD h (fun a aB bh=>ab (ar (aD bh (fun b bM eM=>ab (aq (mw eM))) fun y y x=>x))) fun y y x=>x)
theorem bl {Q:Flow->Shared->Prop}(h:aK M A (eval value env) (fun v aB=>aK M A (assignAll v ((assignEach targets env).map (·.2))) (fun y=>Q .next) E aB) E s)(hs:swapsWithSole targets value pos.line env=pure false)(hw:swappedStores targets value env=pure none):aK M A (exec (.Assign targets value pos) env) Q E s:=by simp only[exec_Assign_arm];refine ab (aq ?_);refine xR hs ?_;refine ab (ah ?_);refine xR (ZX (by decide)) ?_;refine ab (aD h (fun v aB bh=>?_) fun y y x=>x);refine xR hw ?_;refine ab (ah ?_);exact ab (aD bh (fun y y x=>ah x) fun y y x=>x)
theorem jL {Q:Flow->Shared->Prop}(h:aK M A (eval value env) (fun v aB=>aK M A (eval o env) (fun ov bM=>aK M A (eval i env) (fun iv lP=>aK M A (setItem ov iv v) (fun x=>Q .next) E lP) E bM) E aB) E s)(hs:swapsWith value (some (.Subscript o i pos')) pos.line env=pure false:=by rfl):aK M A (exec (.Assign [.Subscript o i pos'] value pos) env) Q E s:=fun Γ p iW hc=>by obtain⟨L,eL⟩:∃L:Value->Value->Value->List Value,∀v,assign (.Subscript o i pos') env v=(do let ov <-holding [v] (eval o env);let iv <-holding [v,ov] (eval i env);standAt pos';holding [v,ov,iv] (setItem ov iv v);release (L v ov iv) []):=⟨_,fun v=>rfl⟩;simp only[exec_Assign_Subscript o i pos' value pos hs,eL,Sem.wp_bind',Sem.wp_holding,Sem.wp_cmd_standAt,Sem.wp_release,Sem.wp_pure'];refine Sem.wp_mono M Γ _ ?_ (fun x x x h'=>h'.2) _ _ (Sem.wp_toks M Γ 1 _ _ _ _ _ hc.2 (h Γ _ iW hc));intro v R3 aB bh;refine Sem.wp_mono M Γ _ ?_ (fun x x x h'=>h'.2) _ _ (Sem.wp_toks M Γ 1 _ _ _ _ _ bh.1 (bh.2 Γ R3 iW ⟨hc.1,bh.1⟩));intro ov R2 bM eM;refine Sem.wp_mono M Γ _ ?_ (fun x x x h'=>h'.2) _ _ (Sem.wp_toks M Γ 1 _ _ _ _ _ eM.1 (eM.2 Γ R2 iW ⟨hc.1,eM.1⟩));intro iv VV lP xW;exact xW.2 Γ _ iW ⟨hc.1,xW.1⟩
set_option backward.match.sparseCases true in
theorem Bz {Q:Flow->Shared->Prop}(h:cb M A (.whileLoop test body orelse env) (fun r s'=>match r with| .ok f=>Q f s'| .error e=>Kh M A env E e s') s):aK M A (exec (.While test body orelse pos) env) Q E s:=by rw[exec_While];exact ab (aq (gz h))
theorem nB {Q:Bool->Shared->Prop}(h:aK M A whole (fun v aB=>aK M A (truthy v) Q E aB) E s)(he:isTrue e env whole=(do let v <-whole;standAt e.pos;holding [v] (truthy v)):=by rfl):aK M A (isTrue e env whole) Q E s:=by refine xR he ?_;exact ab (aD h (fun v aB bh=>ab (aq (ar bh))) fun y y x=>x)
theorem p8 {Q:Bool->Shared->Prop}(h:aK M A (isTrue x env (eval x env)) (fun b aB=>Q (!b) aB) E s):aK M A (isTrue (.UnaryOp .Not x pos) env whole) Q E s:=by rw[arm_isTrue_UnaryOp];exact ab (aD h (fun b aB bh=>ah bh) fun y y x=>x)
theorem mx {Q:Bool->Shared->Prop}(h:aK M A (allTrue op values env) Q E s):aK M A (isTrue (.BoolOp op values pos) env whole) Q E s:=by rw[arm_isTrue_BoolOp];exact h
theorem fE {Q:Flow->Shared->Prop}(h:Q .next s):aK M A (execs [] env) Q E s:=fun x x x x=>h
set_option backward.match.sparseCases true in
theorem gB {st:Stmt}{rest:List Stmt}{Q:Flow->Shared->Prop}(h:aK M A (exec st env) (fun f s'=>match f with| .next=>aK M A (execs rest env) Q E s'|f=>Q f s') E s):aK M A (execs (st::rest) env) Q E s:=by rw[execs_cons];refine ab (aD h (fun f s' h'=>?_) fun y y x=>x);rcases f with⟨⟩<;>first|exact h'|exact ah h'
theorem lb {Q:Value->Shared->Prop}(h:aK M A (eval value env) (fun o aB=>aK M A (eval slice env) (fun i bM=>aK M A (subscriptTail value slice o i) Q E bM) E aB) E s):aK M A (eval (.Subscript value slice pos) env) Q E s:=by rw[eval_Subscript];exact ab (aD h (fun o aB bh=>ab (ar (aD bh (fun i bM eM=>ab (aq eM)) fun y y x=>x))) fun y y x=>x)
end
open PySem PySem.W PyProof.Rows
noncomputable def jF {α:Type}(n:Nonempty α)(P:α->Prop):α:= @Classical.epsilon α n fun x=>¬P x
theorem vW {α:Type}(n:Nonempty α){P:α->Prop}(h:P (jF n P))(x:α):P x:=ZU fun hx=> @Classical.epsilon_spec α (fun x=>¬P x) ⟨x,hx⟩ h
theorem b8 {α β:Type}(h:Nonempty α)(k:Nonempty β):Nonempty (α×β):=h.elim fun a=>k.elim fun b=>⟨(a,b)⟩
theorem sA:Nonempty Shared:=⟨{}⟩
theorem vm:Nonempty Around:=⟨{}⟩
theorem HL:Nonempty World:=⟨⟨fun _ _=>0,{strHash:=fun _=>0,shareClass:=fun _=>0,mergeTok:=fun x=>x,idOf:=fun _=>0,idOfShared:=fun _ _=>0,followText:=fun _=>false,idOfImm:=fun _=>0}⟩⟩
theorem V4:Nonempty Model:=HL.elim fun w=>⟨model default w⟩
abbrev K5 {α β γ δ ε:Type}(P:α->β->γ->δ->ε->Prop)(t:(((α×β)×γ)×(δ×ε))):Prop:=P t.1.1.1 t.1.1.2 t.1.2 t.2.1 t.2.2
@[elab_as_elim] theorem Q3 {α β γ δ ε:Type} {P:α->β->γ->δ->ε->Prop} (n:Nonempty (((α×β)×γ)×(δ×ε))) (h:K5 P (jF n (K5 P))) (x0 x1 x2 x3 x4):P x0 x1 x2 x3 x4:=vW n h (((x0,x1),x2),(x3,x4))
abbrev K8 {α β γ δ ε ζ η θ:Type}(P:α->β->γ->δ->ε->ζ->η->θ->Prop)(t:(((α×β)×(γ×δ))×((ε×ζ)×(η×θ)))):Prop:=P t.1.1.1 t.1.1.2 t.1.2.1 t.1.2.2 t.2.1.1 t.2.1.2 t.2.2.1 t.2.2.2
@[elab_as_elim] theorem Nj {α β γ δ ε ζ η θ:Type} {P:α->β->γ->δ->ε->ζ->η->θ->Prop} (n:Nonempty (((α×β)×(γ×δ))×((ε×ζ)×(η×θ)))) (h:K8 P (jF n (K8 P))) (x0 x1 x2 x3 x4 x5 x6 x7):P x0 x1 x2 x3 x4 x5 x6 x7:=vW n h (((x0,x1),(x2,x3)),((x4,x5),(x6,x7)))
abbrev DB {α β γ δ ε ζ η θ ι κ:Type}(P:α->β->γ->δ->ε->ζ->η->θ->ι->κ->Prop)(t:((((α×β)×γ)×(δ×ε))×(((ζ×η)×θ)×(ι×κ)))):Prop:=P t.1.1.1.1 t.1.1.1.2 t.1.1.2 t.1.2.1 t.1.2.2 t.2.1.1.1 t.2.1.1.2 t.2.1.2 t.2.2.1 t.2.2.2
@[elab_as_elim] theorem si {α β γ δ ε ζ η θ ι κ:Type} {P:α->β->γ->δ->ε->ζ->η->θ->ι->κ->Prop} (n:Nonempty ((((α×β)×γ)×(δ×ε))×(((ζ×η)×θ)×(ι×κ)))) (h:DB P (jF n (DB P))) (x0 x1 x2 x3 x4 x5 x6 x7 x8 x9):P x0 x1 x2 x3 x4 x5 x6 x7 x8 x9:=vW n h ((((x0,x1),x2),(x3,x4)),(((x5,x6),x7),(x8,x9)))
abbrev Bu {α β γ δ ε ζ η θ ι κ μ ν ξ:Type}(P:α->β->γ->δ->ε->ζ->η->θ->ι->κ->μ->ν->ξ->Prop)(t:((((α×β)×(γ×δ))×((ε×ζ)×η))×(((θ×ι)×κ)×((μ×ν)×ξ)))):Prop:=P t.1.1.1.1 t.1.1.1.2 t.1.1.2.1 t.1.1.2.2 t.1.2.1.1 t.1.2.1.2 t.1.2.2 t.2.1.1.1 t.2.1.1.2 t.2.1.2 t.2.2.1.1 t.2.2.1.2 t.2.2.2
@[elab_as_elim] theorem pn {α β γ δ ε ζ η θ ι κ μ ν ξ:Type} {P:α->β->γ->δ->ε->ζ->η->θ->ι->κ->μ->ν->ξ->Prop} (n:Nonempty ((((α×β)×(γ×δ))×((ε×ζ)×η))×(((θ×ι)×κ)×((μ×ν)×ξ)))) (h:Bu P (jF n (Bu P))) (x0 x1 x2 x3 x4 x5 x6 x7 x8 x9 Ur Uq Dp):P x0 x1 x2 x3 x4 x5 x6 x7 x8 x9 Ur Uq Dp:=vW n h ((((x0,x1),(x2,x3)),((x4,x5),x6)),(((x7,x8),x9),((Ur,Uq),Dp)))
section
open Sem (wp)
variable {prog:Program} {w:World} {A:Around} {s:Shared} {R:Result->Shared->Prop}
set_option backward.match.sparseCases true in
theorem Ah (h:aK (model prog w) (A.deeper env) (execs body env) (fun f s'=>R (.ok (.ret (match f with| .ret v=>v|_=>.none))) s') (fun e s'=>aK (model prog w) (A.deeper env) (leaving env e) (fun x fM=>R (.error e) fM) (fun e' fM=>R (.error e') fM) s') s):cb (model prog w) A (.func body env) R s:=by refine aS ?_ rfl;show aK _ (A.deeper env) (do point;match <-(execs body env).onRaise (leaving env)with| .ret v=>ret v|_=>ret .none) _ _ s;refine ab (ai (wpAny_point (ab (dj (aD h (fun f s' h'=>?_) fun x x h'=>h')))));rcases f with⟨⟩<;>exact ah h'
theorem k8 (ya:A.depth<recursionLimit)(ho:s.heap.get? a=some o)(cB:o.data=.func fd)(Fs:fd.scope.isCoroutine=false)(q5:fd.scope.isGenerator=false)(iL:fd.body=.stmts body)(Be:s.heap.CodeRec fd.code fd.qualname)(h:aK (model prog w) A.in1 (bindArgs fd args) (fun binds aB=>aK (model prog w) A.in1 (newFunctionEnv fd.scope fd.globals fd.closure binds (fd.qualname++".<locals>.") (some a) fd.code none fd.builtins) (fun env bM=>bM.heap.NoLimit/\cb (model prog w) A (.func body env) R bM) (fun e s'=>R (.error e) s') aB) (fun e s'=>R (.error e) s') s):cb (model prog w) A (.call (.ref a) args) R s:=by refine aS ?_ rfl;show aK _ A.in1 (callAny (.ref a) args) _ _ s;refine ab (ai (wpAny_load ho ?_));refine cL Be fun c oc vs tq hc Dt Fq hq=>?_;rw[cB];show aK _ _ (callFunction a fd args) _ _ _;delta callFunction;rw[hc,iL,q5,Fs];rw[hc]at h;refine ab (m:=field (.ref c) 1) (ai (wpAny_field Dt Fq hq (ab (ah ?_))));exact ab (aD h (fun binds aB bh=>ab (aD bh (fun env bM eM=>ab (ai (wpAny_enterFrame eM.1 ya (ah (And.intro rfl eM.2))))) fun x x h'=>h')) fun x x h'=>h')
set_option backward.match.sparseCases true in
theorem oy (ya:A.depth<recursionLimit)(ho:s.heap.get? a=some o)(P6:o.data=.func fd)(WS:s.heap.NoLimit)(Be:s.heap.CodeRec fd.code fd.qualname)(iL:fd.body=.stmts body){B:Shared->Prop}(q8:aK (model prog w) A.in1 (bindArgs fd ⟨vals,[]⟩) (fun bs aB=>bs=binds/\B aB) (fun e s'=>R (.error e) s') s)(hB:∀aB,B aB->aB.heap.NoLimit)(TA:fd.closure=[])(iK:∀aB,B aB->∀x∈binds,fd.scope.names.lookup x.1=some .local\/(fd.scope.names.lookup x.1=some .cell/\((cellsFrom (aB.heap.objs.size+1) fd.scope.names []).lookup x.1).isSome=true))(h:∀s₀ aB,B s₀->InCallC s₀ (callEnvC fd s₀.heap.objs.size a).locals (bindL (callEnvC fd s₀.heap.objs.size a).kindOf binds fun y=>none) (callEnvC fd s₀.heap.objs.size a).cells (bindC (callEnvC fd s₀.heap.objs.size a).kindOf binds fun y=>none) aB->aK (model prog w) (A.deeper (callEnvC fd s₀.heap.objs.size a)) (execs body (callEnvC fd s₀.heap.objs.size a)) (fun f s'=>R (.ok (.ret (match f with| .ret v=>v|_=>.none))) s') (fun e s'=>aK (model prog w) (A.deeper (callEnvC fd s₀.heap.objs.size a)) (leaving (callEnvC fd s₀.heap.objs.size a) e) (fun y fM=>R (.error e) fM) (fun e' fM=>R (.error e') fM) s') aB)(Fs:fd.scope.isCoroutine=false:=by rfl)(q5:fd.scope.isGenerator=false:=by rfl)(hk:fd.scope.kind=.function:=by rfl):cb (model prog w) A (.call (.ref a) ⟨vals,[]⟩) R s:=by
 refine k8 ya ho P6 Fs q5 iL Be (aD q8 (fun bs aB hb=>?_) fun y y x=>x)
 refine aL hb ?_;clear hb;rintro(rfl) hb
 refine xR TA ?_
 refine ai (wpAny_newFunctionEnv_cells hk (iK aB hb) fun env he s' x=>?_)
 subst he
 exact⟨(hB aB hb).keeps x.toInCall.keep,Ah (h aB s' hb x)⟩
end
section
open Sem (wp)
variable {M:Model} {A:Around} {E:Value->Shared->Prop} {s:Shared} {env:Env}
theorem wC {α:Type}{c:Prop}[Decidable c]{pos:Pos}{k:PUnit->Sem α}{Q:α->Shared->Prop}(h:aK M A (k ()) Q E s):aK M A (if c then(standAt pos>>=k)else k ()) Q E s:=by
 split
 ·exact ab (aq h)
 ·exact h
theorem uE {Q:Unit->Shared->Prop}(h:aK M A (storeName env x v) Q E s):aK M A (bindName env x v) Q E s:=fun Γ p iW hc=>by rw[Sem.wp_bindName];exact h Γ p iW hc
theorem DH {Q:Value->Shared->Prop}(h:aK M A (loadName env x) Q E s)(hd:(x==("__debug__":Str))=false):aK M A (eval (.Name x pos) env) Q E s:=by refine xR (eval_Name env x pos hd) ?_;exact ab (aq h)
theorem G6 {Q:Value->Shared->Prop}(h:aK M A (truthy v) (fun b aB=>Q (.bool (!b)) aB) E s):aK M A (unaryOp .Not v) Q E s:=by unfold unaryOp;refine ar ?_;exact ab (aD h (fun b aB bh=>ah bh) fun y y x=>x)
theorem wF {α:Type}{vs:List Value}{m:Sem α}{Q:α->Shared->Prop}(h:aK M A m Q E s):aK M A (m.keep vs) Q E s:=fun Γ p iW hc=>by rw[Sem.wp_keep];exact h Γ p iW hc
theorem me {pos:Pos}{a:Addr}{o:Obj}{fd:FuncData}{first:List Value}{args:List (Bool×Sem Value)}{Q:Value->Shared->Prop}(h:aK M A (evalArgs (.ref a) true args []) (fun x aB=>(aB.heap.get? a=some o/\o.data=.func fd)/\aK M A (call (.ref a) (first++x.pos) x.kw) Q E aB) E s):aK M A (callWith pos (.ref a) first args []) Q E s:=by
 unfold callWith;refine ab (ar (aD h (fun x aB bh=>ab (aq ?_)) fun y y x=>x));have tail:∀{t:Sem Value},aK M A t Q E aB->aK M A (t>>=fun r=>holding [r] point>>=fun y=>pure r) Q E aB:=fun ht=>ab (aD ht (fun r bM hr=>ab (ar (ai (wpAny_point (ah hr))))) fun y y x=>x);cases hs:args.any (·.1)<;>refine ab (m:=keeperOf (.ref a)) ?_<;>unfold keeperOf<;>refine ab (ai (wpAny_load bh.1.1 ?_))<;>rw[bh.1.2]<;>refine ah ?_
 ·first|refine AI ?_|skip
  split<;>first|exact tail bh.2|exact tail (by unfold callMarked;exact wF bh.2)
 ·first|exact tail (by unfold callMarked;exact wF bh.2)|exact tail bh.2
def ox (M:Model)(A:Around)(E:Value->Shared->Prop)(use:Option (Value->Sem Unit))(Q:Value->Shared->Prop)(acc:Value)(C:Addr)(r:Result)(s':Shared):Prop:=match r,use with
 | .ok _,none=>∃m,s'.heap.Ns C m/\∀h',Heap.SameBut C s'.heap h'->Q acc {s' with heap:=h'}
 | .ok _,some u=>aK M A (u acc) (fun x fM=>∃m,fM.heap.Ns C m/\∀h',Heap.SameBut C fM.heap h'->Q .none {fM with heap:=h'}) E s'
 | .error _,_=>False
set_option tactic.hygienic true in
theorem i9 {e:Expr}{scope:Scope}{pos:Pos}{vk first:Sem Value}{g:Comprehension}{gs:List Comprehension}{cl:List (Str×Addr)}{use:Option (Value->Sem Unit)}{Q:Value->Shared->Prop}(jm:clausesOf e=g::gs)(hs:∀x,foldedSetIterable g.iter env x=pure x)(Ft:closureFor scope env=pure cl)(iK:scope.kind=.function)(zT:∀x∈scope.names,x.2=.local->scope.names.lookup x.1=some .local)(h:aK M A first (fun x aB=>aK M A (pyIter x) (fun it bM=>aK M A vk (fun acc lP=>aK M A (newFunctionEnv scope env.globals cl [] env.qual none .none (some env)) (fun cenv N1=>cb M A (.compStart e 0 it acc {cenv with scope:=relabel scope env}) (ox M A E use Q acc cenv.locals) N1) E lP) E bM) E aB) E s):aK M A (comprehension e scope env pos vk false first use) Q E s:=by
 revert pos gs jm hs Ft iK zT h
 refine no_implicit_lambda% (pn (b8 (b8 (b8 (b8 V4 vm) (b8 sA inferInstance)) inferInstance) inferInstance) ?_ M A s scope env E Q e use cl vk first g)
 generalize jF _ _=tt
 dsimp only[Bu]
 generalize tt.1.1.1.1=M,tt.1.1.1.2=A,tt.1.1.2.1=s,tt.1.1.2.2=scope,tt.1.2.1.1=env,tt.1.2.1.2=E,tt.1.2.2=Q,tt.2.1.1.1=e,tt.2.1.1.2=use,tt.2.1.2=cl,tt.2.2.1.1=vk,tt.2.2.1.2=first,tt.2.2.2=g
 intro pos gs jm hs Ft iK zT h
 unfold comprehension
 refine xR Ft (xR jm ?_)
 refine ab (aD h (fun x aB bh=>ab (aq (ab (bO (hs x) (ab (ar (aD bh (fun it bM eM=>wC (ab (aD eM (fun acc lP xW=>ab (ah (ab (aD xW (fun cenv N1 Sr=>?_) fun y y h'=>h')))) fun y y h'=>h'))) fun y y h'=>h'))))))) fun y y h'=>h')
 dsimp only
 have hv:∀x∈(scope.names.filter fun x=>(x.2== .local||x.2== .cell)&&x.1 !=(".0":Str)).reverse,x.2=.local->Env.kindOf {cenv with scope:=relabel scope env} x.1=some .local:=fun x hx hl=>lookup_relabel_local (zT x (List.mem_filter.mp (List.mem_reverse.mp hx)).1 hl)
 have GW:∀x∈(scope.names.filter fun x=>(x.2== .local||x.2== .cell)&&x.1 !=(".0":Str)).reverse.drop 1++(scope.names.filter fun x=>(x.2== .local||x.2== .cell)&&x.1 !=(".0":Str)).reverse.take 1,x.2=.local->Env.kindOf {cenv with scope:=relabel scope env} x.1=some .local:=fun x hx hl=>by
  refine Z4 (List.mem_append.mp hx) (fun h1=>?_) fun h1=>?_
  ·exact hv x (List.mem_of_mem_drop h1) hl
  ·exact hv x (List.mem_of_mem_take h1) hl
 refine ar (ab (gU (ar (AH (l8 Sr fun r s' hr=>?_) (by intro x;cases x)))))
 rcases r with⟨⟩
 case ok f=>
  rcases use with⟨⟩;case none=>refine ax hr fun m hn hr=>?_;exact ab (ar (ai (wpAny_comp_letGo (cenv:={cenv with scope:=relabel scope env}) iK _ s' m hv hn fun h' m' y xZ=>ah (hr h' xZ))))
  case some u=>refine ab (gA (ab (ar (aD hr (fun y fM sI=>?_) fun y y h'=>h'))));refine ax sI fun m hn sI=>?_;exact ab (ai (wpAny_comp_letGo (cenv:={cenv with scope:=relabel scope env}) iK _ fM m GW hn fun h' m' y xZ=>ah (sI h' xZ)))
 case error x=>exact(show False from by rcases use with⟨⟩<;>exact hr).elim
end
section
open PySem.Spec PySem.Calls
open Sem (wp)
theorem v5:Clean ⟨.builtin "claim.caller" {},none,none,[],none⟩:=⟨by decide +kernel,(fun x hx=>by rcases hx with⟨⟩),.inl rfl⟩
theorem uJ {R:Result->Shared->Prop}(SJ:s.asleep)(Px:0<s.toks)(h:aK (model prog w) callerA t (fun fin s'=>∃f,fin=.done f/\(R (.ok f) s'/\leftWithCleanup s'.gens=false)) (fun e s'=>R (.error e) s'/\leftWithCleanup s'.gens=false) s):∃n r s' fM,runN (denote table) prog w n s ⟨t,.builtin "claim.caller" {},default,[]⟩=.halted (outcomeOf r) s'/\schedN (denote table) prog w n (.single s ⟨t,.builtin "claim.caller" {},default,[]⟩)=.halted (outcomeOf r) s'/\s'.forget=fM.forget/\R r fM:=by
 have h1:wp (model prog w) ⟨.builtin "claim.caller" {},none,none,[],none⟩ t (Sem.finPost (model prog w) ⟨.builtin "claim.caller" {},none,none,[],none⟩ (fun r s'=>R r s'/\leftWithCleanup s'.gens=false)) (fun e x s'=>R (.error e) s'/\leftWithCleanup s'.gens=false) default s:=by
  refine Sem.wp_mono _ _ t (fun fin p' s' h'=>?_) (fun x x x h'=>h') default s (h _ default caller_in ⟨v5,Px⟩)
  refine ax h' ?_;clear h';rintro f (rfl) hf
  exact hf
 refine cL (wp_halts_full (M:=model prog w) (R:=R) SJ h1) fun n r aB bM hs hn Tq hR=>?_;exact⟨n,r,bM,aB,hn,hs,Tq,hR⟩
set_option tactic.hygienic true in
theorem oi (h:fenceModule? m s=some s1):s1.toks=s.toks:=by
 delta fenceModule? at h;cases hb:boundIn s.heap sysModules m with
 |none=>rw[hb]at h;exact aa h
 |some v=>
  cases ht:tameNamesOf? m with
  |none=>rw[hb,ht]at h;rcases v with⟨⟩<;>exact aa h
  |some row=>
   rw[hb,ht]at h;clear hb ht;rcases v with⟨⟩;case ref a=>
    cases ho:s.heap.get? a with
    |none=>dsimp only at h;rw[ho]at h;exact aa h
    |some o=>
     dsimp only at h;rw[ho]at h;dsimp only at h;cases hD:o.dict with
     |none=>rw[hD]at h;exact aa h
     |some D=>
      rw[hD]at h;dsimp only at h;cases hd:s.heap.get? D with
      |none=>rw[hd]at h;exact aa h
      |some od=>rw[hd]at h;refine ax (Option.map_eq_some_iff.mp h) ?_;rintro Yx _ (rfl);rfl
   all_goals exact aa h
theorem lz:∀(l:List Str)(s s1:Shared),fenceAll? l s=some s1->s1.toks=s.toks:=by intro l;induction l with|nil=>intro s s1 h;simp only[fenceAll?,Option.some.injEq]at h;rw[<-h]|cons m r ih=>intro s s1 h;simp only[fenceAll?]at h;refine ax (Option.bind_eq_some_iff.mp h) fun s2 h2 h3=>?_;exact(ih _ _ h3).trans (oi h2)
theorem pI:∀(l:List Str)(s s1:Shared),copiesAnew? l s=some s1->s1.toks=s.toks:=by
 intro l;induction l with
 |nil=>intro s s1 h;simp only[copiesAnew?,Option.some.injEq]at h;rw[<-h]
 |cons m r ih=>intro s s1 h;simp only[copiesAnew?]at h;refine ax (Option.bind_eq_some_iff.mp h) fun s2 h2 h3=>?_;refine ax (Option.map_eq_some_iff.mp h2) ?_;rintro wo _ (rfl);exact(ih _ _ h3).trans rfl
theorem z8 (h:fenceModules? p s=some s1):s1.toks=s.toks:=by
 unfold fenceModules? at h;refine ax (Option.bind_eq_some_iff.mp h) fun s2 h2 h3=>?_;split at h3
 ·exact(pI _ _ _ h3).trans (lz _ _ _ h2)
 ·obtain rfl:=Z9 h3;exact lz _ _ _ h2
theorem wI:∀(n:Nat)(s:Shared)(t:Thread)(aB:Shared),topRun tb p w VX ann n s t=some aB->s.toks<=aB.toks:=by
 intro n;induction n with
 |zero=>intro _ _ _ h;simp[topRun]at h
 |succ n ih=>
  intro s t aB h;unfold topRun at h;split at h
  ·obtain rfl:=Z9 h;exact ZQ _
  ·split at h
   ·exact aa h
   ·split at h
    ·rename_i s' t' hs;exact ZK (step_toks_le _ p w s s' t t' hs) (ih s' t' aB h)
    ·exact aa h
theorem ph {p q:Program}{loose:List Str}{Xt:Shared->Bool}{XP:(Str->Option Value)->Heap->Prop}{α:Type}{Yf:Shared->α}{Ya:World->α}{N:Nat}(left:LeftO p q loose Xt Yf Ya N)(hX:∀s,Xt s=true->XP (s.heap.nsMap mainGlobals) s.heap)(Rq:chainsOk q=true)(w:World):(∃s,AfterRun (opening p) w s)/\∀s,AfterRun (opening p) w s->∃s₀,fenceModules? p s=some s₀/\s₀.gens= #[]/\∃aB,TopRan p w s₀ aB/\aB.asleep/\(if true then aB.gens.size==0 else !leftWithCleanup aB.gens)=true/\aB.heap.isNs mainGlobals=true/\Ground q loose [] XP w aB (aB.heap.nsMap mainGlobals) (aB.heap.nsMap builtinsNs) aB.heap/\Yf aB=Ya w/\0<aB.toks:=by
 have h:=left w;rw[<-table_eq_tree]at h;refine ax (Option.map_eq_some_iff.mp h) fun aB h1 e=>?_;refine ax (Option.bind_eq_some_iff.mp h1) fun s₀ h2 h3=>?_;refine ax (Option.bind_eq_some_iff.mp h2) fun s h4 h5=>?_;have A:=AfterImport.of_importEnds h4;refine⟨⟨s,A⟩,fun s' xZ=>?_⟩;obtain rfl:s'=s:=AfterImport.unique xZ A;have z:s₀.asleep:=Shared.asleep_of_life (fence_lifeW h5) A.life;unfold topFrom at h3;cases hg:(s₀.heap.isNs mainGlobals&&s₀.gens.size==0)with
 |false=>rw[hg]at h3;exact aa h3
 |true=>
  replace h3:=hg▸h3;refine aL (Bool.and_eq_true_iff.mp hg) fun hg hn=>?_;refine ax (Option.bind_eq_some_iff.mp h3) fun bM h6 h7=>?_;cases hs:(staticsOk (importedModules p.main.body) s₀.heap bM.heap&&namesBound p bM.heap&&gensDone bM&&laidKept s₀.heap bM.heap)with
  |false=>rw[hs]at h7;exact aa h7
  |true=>rw[hs]at h7;obtain rfl:bM=aB:=Z9 h7;refine aL (Bool.and_eq_true_iff.mp hs) fun hs JY=>?_;refine aL (Bool.and_eq_true_iff.mp hs) fun hs W9=>?_;refine aL (Bool.and_eq_true_iff.mp hs) fun hs PS=>?_;refine mu (topRun_spec _ _ _ _ z h6) fun a l os fr=>?_;refine NI (ground_of_open (w:=w) hX Rq (congrArg Prod.fst e)) fun G g0 g1 g2 g3 g4 g5=>?_;exact⟨s₀,h5,Array.eq_empty_of_size_eq_zero (beq_iff_eq.mp hn),bM,⟨a,l,Shared.rest_eq os,fun b o hb hn=>fr b o (Heap.lt_size hb) (fun q=>hn (.inl q)) (fun q=>hn (.inr (.inl q))) (fun q=>hn (.inr (.inr ((Pin.globalOf_eq hg _).trans q)))) hb,g2,statics_of_ok hs,g3,g4,g5,gens_of_done W9,names_of_bound PS,laid_of_kept JY⟩,Shared.asleep_of_life l z,g0,g1,G,congrArg Prod.snd e,Nat.lt_of_lt_of_le (by refine xR (z8 h5) ?_;exact AfterImport.toks_pos A) (wI _ _ _ _ h6)⟩
theorem Ar {c:ClaimW}{tree:List Value->Sem PySem.Fin}{w:World}{s:Shared}{free:Addr->Prop}{gens:Prop}{kept:Heap->Prop}(hz:s.asleep)(Px:0<s.toks)(tX:s.gens= #[])(PD:∀args,c.pre args=true->WData.layableAll args=true->∀ord:List DictEntry->List DictEntry,(∀l,(ord l).Perm l)->∃vs aB,layAllW c.records (classAt s.heap) w.params ord args s=some (vs,aB)/\aK (model c.prog w) callerA (tree vs) (fun fin s'=>∃f,fin=.done f/\(c.Ends s args vs aB (.ok f) s'/\s'.os=s.os/\AllBare s'.gens/\kept s'.heap)) (fun e s'=>c.Ends s args vs aB (.error e) s'/\s'.os=s.os/\AllBare s'.gens/\kept s'.heap) aB):c.CallFrom (fun vs=>⟨tree vs,.builtin "claim.caller" {},default,[]⟩) w free gens kept s:=by
 intro args yb Fj ord CC;refine eZ (PD args yb Fj ord CC) fun vs aB mM mN=>?_;have Ir:=layAllW_rest _ _ _ mM;refine cL (uJ (prog:=c.prog) (w:=w) (t:=tree vs) (s:=aB) (R:=fun r s'=>c.Ends s args vs aB r s'/\s'.os=s.os/\kept s'.heap) (Shared.asleep_of_life Ir.2.2.2 hz) (Nat.lt_of_lt_of_le Px (layAllW_grows _ _ _ mM).toks) (aD mN (by
   intro fin s' y0;refine uB y0 fun f e h1 h2 h3 h4=>?_;exact⟨f,e,⟨h1,h2,h4⟩,leftWithCleanup_false_of_bare h3⟩) (by
   intro e s' y0;refine mu y0 fun h1 h2 h3 h4=>?_;exact⟨⟨h1,h2,h4⟩,leftWithCleanup_false_of_bare h3⟩))) fun k r s' fM L8 L7 Tq y1=>?_
 refine bg y1 fun mP PL Fm=>?_;refine sh (Shared.forget_eq Tq) fun eh z z eo z=>?_;have mP:=mP.congr eh;have Fm:kept s'.heap:=by first|exact eh▸Fm|(rw[eh]at Fm;exact Fm)|(rw[<-eh]at Fm;exact Fm)
 replace PL:=(eo).trans PL;have PX:s'.heap.life=s.heap.life:=(runN_life _ _ _ L8).trans Ir.2.2.2;refine⟨vs,aB,mM,k,_,s',L7,?_,(fun z i x hx=>by rw[tX]at hx;simp at hx),Fm,by exact xR PX rfl,Shared.rest_eq PL⟩;refine Z4 mP (fun y1=>?_) fun y2=>?_
 ·refine Bx y1 ?_;clear y1;rintro v (rfl) d1 d2 d3 d4 d5;exact .inl ⟨v,rfl,d1,d2,d3,fun b o y z=>d4 b o y,d5⟩
 ·refine uA y2 ?_;clear y2;rintro e ob cls (rfl) d1 d2 d3 y3;refine aL y3 fun d4 d5=>?_;exact .inr ⟨e,ob,cls,rfl,d1,d2,d3,d4,fun b o y z=>d5 b o y⟩
abbrev Kn (q:Program)(loose:List Str)(XP:(Str->Option Value)->Heap->Prop)(YP:World->Heap->Prop)(r:RowW)(d:DefRec)(kwd:List (Str×Expr))(run:Value->List Value->Sem Value):Prop:=∀(w:World)(s₀ aB:Shared)(mg mb:Str->Option Value),Ground q loose r.records XP w s₀ mg mb aB.heap->YP w aB.heap->∀(a:Addr)(o:Obj)(pm cd doc dV kV:Value),aB.heap.get? a=some o->o.data=.func {docDef d.name d.params d.body d.scope pm cd doc with defaults:=dV,kwdefaults:=kV}->aB.heap.CodeRec cd d.name->Dflts mg aB.heap d.params kwd dV kV->mg d.name=some (.ref a)->aB.gens= #[]->∀(args:List WData)(vals:List Value)(as:List Addr),r.claim.pre args=true->WData.layableAll args=true->ReadsAllW r.records (classAt s₀.heap) aB.heap vals args as->WellAll w.params aB.heap vals args->(∀a∈as,(a==sysModules)=false)->aK (model r.prog w) callerA (run (.ref a) vals) (fun v s'=>GoodWG r.claim (classAt s₀.heap) (ExcName.means s₀.heap) args aB (.ok (.ret v)) s') (fun e s'=>GoodWG r.claim (classAt s₀.heap) (ExcName.means s₀.heap) args aB (.error e) s') aB
end
end Mine.Internal
open PySem PySem.Spec PySem.Calls PyProof.Rows PySem.W Mine.Internal in
theorem MineTop.PySem.W.holds_open {r:OpenRow}{q:Program}{loose:List Str}{Xt:Shared->Bool}{XP:(Str->Option Value)->Heap->Prop}{α:Type}{Yf:Shared->α}{Ya:World->α}{YP:World->Heap->Prop}{d:DefRec}{kwd:List (Str×Expr)}{N:Nat}(left:LeftO r.prog q loose Xt Yf Ya N)(hY:∀w s,Yf s=Ya w->YP w s.heap)(XA:∀w h h',YP w h->(∀b o,h.get? b=some o->h'.get? b=some o)->YP w h')(hX:∀s,Xt s=true->XP (s.heap.nsMap mainGlobals) s.heap)(XB:∀mg h h',XP mg h->(∀b o,h.get? b=some o->h'.get? b=some o)->XP mg h')(Fp:defOf q r.name=some (d,kwd))(hp:r.prog.theDef r.name=some (d.params,d.body,d.scope))(hk:kwWritten? d.params.kwonlyargs d.params.kw_defaults=some kwd)(XE:∀s,Xt s=true->RecFacts r.records s.heap)(Q9:(!r.writes||r.records.isEmpty)=true)(k1:r.wellSaid=true)(ok:(chainsOk q&&opensWell r.prog&&(frees r.toRowW&&r.within.isEmpty))=true)(hb:r.prog.bare)(hw:r.toRowW.promised)(call:Kn q loose XP YP r.toRowW d kwd fun f vs=>PySem.call f vs):r.Holds:=by
 refine aL (Bool.and_eq_true_iff.mp ok) fun ok k5=>?_;refine aL (Bool.and_eq_true_iff.mp ok) fun Rq o1=>?_;refine aL (Bool.and_eq_true_iff.mp k5) fun k5 k6=>?_;refine sh (frees_parts k5) fun JT hu ha Xv hm=>?_;refine⟨k1,hw,⟨⟨hb,o1,by show r.makers.map _=[];rw[hm];rfl⟩,hw.witness,fun w=>⟨(ph left hX Rq w).1,fun s' xZ=>?_⟩⟩⟩;obtain⟨s₀,hf,Xb,s,hT,hz,tX,y0⟩:=(ph left (XP:=fun mg h=>XP mg h/\RecFacts r.records h) (fun s hs=>⟨hX s hs,XE s hs⟩) Rq w).2 s' xZ;refine mu y0 fun hg Dn y Px=>?_;have G0:Ground q loose [] XP w s (s.heap.nsMap mainGlobals) (s.heap.nsMap builtinsNs) s.heap:=⟨Dn.T,Dn.B,Dn.D,Dn.TE,Dn.TD,Dn.W,Dn.X.1,Dn.cls,Dn.has,Dn.apart,Dn.once,Dn.K⟩;have RF:=Dn.X.2;have Vj:=hT;refine⟨s₀,hf,Xb,s,hT,fun n hn=>?_,RF.1,RF.2.1,?_⟩
 ·obtain rfl:n=r.name:=by split at hn<;>simp_all
  exact pinned_of_view hg G0 Fp hp hk
 have tX:s.gens= #[]:=Array.eq_empty_of_size_eq_zero (beq_iff_eq.mp tX);have G:Ground q loose r.records XP w s _ _ s.heap:=RF.ground G0;refine Ar (c:=r.claim) hz Px tX fun args yb Fj ord CC=>?_;refine aJ (Option.isSome_iff_exists.mp (layAllW_isSome (P:=w.params) (ord:=ord) G.has args r.args s (pre_splitW yb).1)) fun y0 mM=>?_;obtain⟨vs,aB⟩:=y0;have keeps:=layAllW_keeps _ _ _ mM;have Ir:=layAllW_rest _ _ _ mM;refine eD (reads_layAllW CC _ _ _ mM Fj aB.heap (fun x x e=>e)) fun as UT WY hold=>?_;have L:Laid r.records w s aB args vs as:=⟨⟨ord,CC,mM⟩,UT,WY,hold,keeps,Ir.1.trans tX,Ir.2.2.1⟩;have Nf:=G.keeps XB keeps;refine Ku (Nf.fn Fp) fun a o pm cd doc dV kV y0=>?_;refine sh y0 fun h1 h2 h3 h4 h5=>?_;have h:=call w s aB _ _ Nf (XA _ _ _ (hY w s y) keeps) a o pm cd doc dV kV h2 h3 h4 h5 (defOf_name Fp▸h1) L.gens args vs as yb Fj L.reads L.well (L.low G.low);have hi:=ident_freeW hu ha Xv;have Ra:r.claim.within=[]:=List.isEmpty_iff.mp k6;refine⟨vs,aB,mM,?_⟩;refine ab (ai (wpAny_nsGet Nf.T.g ?_));rw[h1];refine ab (aD h (fun v s' g=>ah ?_) fun e s' g=>?_)
 ·exact⟨_,rfl,have z:=g.laid (c:=r.claim) JT Ra hi L;⟨z.1,z.2.1,z.2.2,fun q=>⟨namesKept_of Vj hg _ keeps g.2.1.old,noTable Q9 q⟩⟩⟩
 ·exact have z:=g.laid (c:=r.claim) JT Ra hi L;⟨z.1,z.2.1,z.2.2,fun q=>⟨namesKept_of Vj hg _ keeps g.2.1.old,noTable Q9 q⟩⟩
namespace Mine.Internal
open PySem PySem.W PyProof.Rows
inductive Dat where
 |none
 |bool (b:Bool)
 |int (i:Int)
 |str (s:Str)
 |bytes (b:List UInt8)
 |tuple (l:List Dat)
 |list (l:List Dat)
 |range (a b c:Int)
 |ba (b:List UInt8)
 |dict (ks:List Str) (vs:List Dat)
 |top (a:Addr)
 |typ (n:String)
mutual
inductive Rep (h:Heap) (vol:Addr->Prop):Value->Dat->Prop
 |none:Rep h vol .none .none
 |bool (b:Bool):Rep h vol (.bool b) (.bool b)
 |int (i:Int) (t:Tok):Rep h vol (.int i t) (.int i)
 |str (x:Str) (t:Tok):Rep h vol (.str x t) (.str x)
 |bytes (b:List UInt8) (t:Tok):Rep h vol (.bytes b.toArray t) (.bytes b)
 |tuple {a:Addr} {o:Obj} {vs:List Value} {n:Nat} {ds:List Dat} (hv:¬vol a) (ho:h.get? a=some o) (hc:o.cls=.type "tuple") (hd:o.data=.seq vs.toArray n) (hr:aH h vol vs ds):Rep h vol (.ref a) (.tuple ds)
 |list {a:Addr} {o:Obj} {vs:List Value} {n:Nat} {ds:List Dat} (hv:¬vol a) (ho:h.get? a=some o) (hc:o.cls=.type "list") (hn:o.dict=none) (hd:o.data=.seq vs.toArray n) (hr:aH h vol vs ds):Rep h vol (.ref a) (.list ds)
 |range {r:Addr} {a b c:Int} {t u v:Tok} (hv:¬vol r) (hr:IsRange h r a b c t u v):Rep h vol (.ref r) (.range a b c)
 |ba {a:Addr} {o:Obj} {b:List UInt8} {n:Nat} (hv:¬vol a) (ho:h.get? a=some o) (hc:o.cls=.type "bytearray") (hd:o.data=.bytearray b.toArray n):Rep h vol (.ref a) (.ba b)
 |top (a:Addr):Rep h vol (.ref a) (.top a)
 |typ (n:String):Rep h vol (.type n) (.typ n)
inductive aH (h:Heap) (vol:Addr->Prop):List Value->List Dat->Prop
 |nil:aH h vol [] []
 |cons {v:Value} {d:Dat} {vs:List Value} {ds:List Dat}:Rep h vol v d->aH h vol vs ds->aH h vol (v::vs) (d::ds)
end
section
variable {h h':Heap} {vol jb:Addr->Prop}
noncomputable def Un (h:Heap)(vol:Addr->Prop)(v:Value):Dat->Prop| .none=>v=.none| .bool b=>v=.bool b| .int i=>∃t,v=.int i t| .str x=>∃t,v=.str x t| .bytes b=>∃t,v=.bytes b.toArray t| .tuple ds=>∃a o vs n,v=.ref a/\¬vol a/\h.get? a=some o/\o.cls=.type "tuple"/\o.data=.seq vs.toArray n/\aH h vol vs ds| .list ds=>∃a o vs n,v=.ref a/\¬vol a/\h.get? a=some o/\o.cls=.type "list"/\o.dict=Option.none/\o.data=.seq vs.toArray n/\aH h vol vs ds| .range a b c=>∃l t u w,v=.ref l/\¬vol l/\IsRange h l a b c t u w| .ba b=>∃a o n,v=.ref a/\¬vol a/\h.get? a=some o/\o.cls=.type "bytearray"/\o.data=.bytearray b.toArray n| .dict _ _=>False| .top a=>v=.ref a| .typ n=>v=.type n
set_option tactic.hygienic true in
theorem Rep.inv (r:Rep h vol v d):Un h vol v d:=by
 rcases r with⟨⟩;case none=>exact rfl
 case bool b=>exact rfl
 case int i t=>exact⟨t,rfl⟩
 case str x t=>exact⟨t,rfl⟩
 case bytes b t=>exact⟨t,rfl⟩
 case tuple hv ho hc hd hr=>exact⟨_,_,_,_,rfl,hv,ho,hc,hd,hr⟩
 case list hv ho hc hn hd hr=>exact⟨_,_,_,_,rfl,hv,ho,hc,hn,hd,hr⟩
 case range hv hr=>exact⟨_,_,_,_,rfl,hv,hr⟩
 case ba hv ho hc hd=>exact⟨_,_,_,rfl,hv,ho,hc,hd⟩
 case top a=>exact rfl
 case typ n=>exact rfl
theorem Rep.Bn (r:Rep h vol v (.bool b)):v=.bool b:=r.inv
theorem Rep.OH (r:Rep h vol v .none):v=.none:=r.inv
theorem Rep.eS (r:Rep h vol v (.int i)):∃t,v=.int i t:=r.inv
theorem Rep.jS (r:Rep h vol v (.str x)):∃t,v=.str x t:=r.inv
theorem Rep.f7 (r:Rep h vol v (.bytes b)):∃t,v=.bytes b.toArray t:=r.inv
theorem Rep.tuple' (r:Rep h vol v (.tuple ds)):∃a o vs n,v=.ref a/\¬vol a/\h.get? a=some o/\o.cls=.type "tuple"/\o.data=.seq vs.toArray n/\aH h vol vs ds:=r.inv
theorem Rep.oX (r:Rep h vol v (.list ds)):∃a o vs n,v=.ref a/\¬vol a/\h.get? a=some o/\o.cls=.type "list"/\o.dict=Option.none/\o.data=.seq vs.toArray n/\aH h vol vs ds:=r.inv
theorem Rep.range' (r:Rep h vol v (.range a b c)):∃l t u w,v=.ref l/\¬vol l/\IsRange h l a b c t u w:=r.inv
theorem Rep.QT (r:Rep h vol v (.ba b)):∃a o n,v=.ref a/\¬vol a/\h.get? a=some o/\o.cls=.type "bytearray"/\o.data=.bytearray b.toArray n:=r.inv
theorem Rep.RS (r:Rep h vol v (.typ n)):v=.type n:=r.inv
theorem EJ {o:Obj}{x:Array Value}{n:Nat}(h:o.data=.seq x n)(es:Array DictEntry)(k:Nat):o.data≠.dict es k:=fun e=>nomatch h.symm.trans e
theorem EK {o:Obj}{x:Array Value}{n:Nat}(h:o.data=.seq x n)(c:Option Value):o.data≠.cell c:=fun e=>nomatch h.symm.trans e
theorem Lp {o:Obj}{x:Array UInt8}{n:Nat}(h:o.data=.bytearray x n)(es:Array DictEntry)(k:Nat):o.data≠.dict es k:=fun e=>nomatch h.symm.trans e
theorem Lq {o:Obj}{x:Array UInt8}{n:Nat}(h:o.data=.bytearray x n)(c:Option Value):o.data≠.cell c:=fun e=>nomatch h.symm.trans e
def gQ (v:Value):Prop:=v=.type "tuple"\/v=.type "list"\/v=.type "range"\/v=.type "bytearray"
theorem Rep.both {P:Value->Dat->Prop}{Q:List Value->List Dat->Prop}(a1:P .none .none)(a2:∀b,P (.bool b) (.bool b))(a3:∀i t,P (.int i t) (.int i))(a4:∀x t,P (.str x t) (.str x))(a5:∀(b:List UInt8)t,P (.bytes b.toArray t) (.bytes b))(a6:∀{a o vs n ds},¬vol a->h.get? a=some o->o.cls=.type "tuple"->o.data=.seq vs.toArray n->Q vs ds->P (.ref a) (.tuple ds))(a7:∀{a o vs n ds},¬vol a->h.get? a=some o->o.cls=.type "list"->o.dict=.none->o.data=.seq vs.toArray n->Q vs ds->P (.ref a) (.list ds))(a8:∀{r a b c t u v},¬vol r->IsRange h r a b c t u v->P (.ref r) (.range a b c))(a9:∀{a o n}{b:List UInt8},¬vol a->h.get? a=some o->o.cls=.type "bytearray"->o.data=.bytearray b.toArray n->P (.ref a) (.ba b))(Vy:∀a,P (.ref a) (.top a))(Vx:∀n,P (.type n) (.typ n))(b1:Q [] [])(b2:∀{v d vs ds},P v d->Q vs ds->Q (v::vs) (d::ds)):(∀{v d},Rep h vol v d->P v d)/\∀{vs ds},aH h vol vs ds->Q vs ds:=⟨fun r=>Rep.rec (motive_1:=fun v d y=>P v d) (motive_2:=fun v d y=>Q v d) a1 a2 a3 a4 a5 (fun h1 h2 h3 h4 y=>a6 h1 h2 h3 h4) (fun h1 h2 h3 h4 h5 y=>a7 h1 h2 h3 h4 h5) a8 a9 Vy Vx b1 (fun y y=>b2) r,fun r=>aH.rec (motive_1:=fun v d y=>P v d) (motive_2:=fun v d y=>Q v d) a1 a2 a3 a4 a5 (fun h1 h2 h3 h4 y=>a6 h1 h2 h3 h4) (fun h1 h2 h3 h4 h5 y=>a7 h1 h2 h3 h4 h5) a8 a9 Vy Vx b1 (fun y y=>b2) r⟩
theorem aH.ind {Q:List Value->List Dat->Prop}(b1:Q [] [])(b2:∀{v d vs ds},Rep h vol v d->aH h vol vs ds->Q vs ds->Q (v::vs) (d::ds))(r:aH h vol vs ds):Q vs ds:=aH.rec (motive_1:=fun x x x=>True) (motive_2:=fun v d x=>Q v d) trivial (fun x=>trivial) (fun x x=>trivial) (fun x x=>trivial) (fun x x=>trivial) (fun x x x x x x=>trivial) (fun x x x x x x x=>trivial) (fun x x=>trivial) (fun x x x x=>trivial) (fun x=>trivial) (fun x=>trivial) b1 (fun r rs x=>b2 r rs) r
theorem JJ (hk:∀b o,h.get? b=some o->¬vol b->gQ o.cls->(∀es n,o.data≠.dict es n)->(∀c,o.data≠.cell c)->h'.get? b=some o/\¬jb b):(∀{v:Value}{d:Dat},Rep h vol v d->Rep h' jb v d)/\∀{vs:List Value}{ds:List Dat},aH h vol vs ds->aH h' jb vs ds:=Rep.both .none .bool .int .str .bytes (fun hv ho hc hd hr=>have q:=hk _ _ ho hv (.inl hc) (EJ hd) (EK hd);.tuple q.2 q.1 hc hd hr) (fun hv ho hc hn hd hr=>have q:=hk _ _ ho hv (.inr (.inl hc)) (EJ hd) (EK hd);.list q.2 q.1 hc hn hd hr) (fun hv hr=>have q:=hk _ _ hr hv (.inr (.inr (.inl rfl))) nofun nofun;.range q.2 q.1) (fun hv ho hc hd=>have q:=hk _ _ ho hv (.inr (.inr (.inr hc))) (Lp hd) (Lq hd);.ba q.2 q.1 hc hd) .top .typ .nil .cons
theorem Rep.qM (hk:∀b o,h.get? b=some o->¬vol b->gQ o.cls->(∀es n,o.data≠.dict es n)->(∀c,o.data≠.cell c)->h'.get? b=some o/\¬jb b)(r:Rep h vol v d):Rep h' jb v d:=(JJ hk).1 r
theorem aH.qM (hk:∀b o,h.get? b=some o->¬vol b->gQ o.cls->(∀es n,o.data≠.dict es n)->(∀c,o.data≠.cell c)->h'.get? b=some o/\¬jb b)(r:aH h vol vs ds):aH h' jb vs ds:=(JJ hk).2 r
theorem Rep.mono (hk:∀b o,h.get? b=some o->¬vol b->h'.get? b=some o/\¬jb b)(r:Rep h vol v d):Rep h' jb v d:=r.qM fun b o e n x x x=>hk b o e n
theorem aH.mono (hk:∀b o,h.get? b=some o->¬vol b->h'.get? b=some o/\¬jb b)(r:aH h vol vs ds):aH h' jb vs ds:=r.qM fun b o e n x x x=>hk b o e n
theorem Rep.extBut (ha:h.get? a=some oa)(hc:¬gQ oa.cls)(hs:Heap.ExtBut a h h')(r:Rep h vol v d):Rep h' vol v d:=r.qM fun b o e n c x x=>⟨hs b o (fun q=>by subst q;rw[ha]at e;obtain rfl:=Z9 e;exact hc c) e,n⟩
theorem aH.extBut (ha:h.get? a=some oa)(hc:¬gQ oa.cls)(hs:Heap.ExtBut a h h')(r:aH h vol vs ds):aH h' vol vs ds:=r.qM fun b o e n c x x=>⟨hs b o (fun q=>by subst q;rw[ha]at e;obtain rfl:=Z9 e;exact hc c) e,n⟩
theorem Rep.FH (ha:h.get? a=some oa)(hc:(∃es n,oa.data=.dict es n)\/∃c,oa.data=.cell c)(hs:Heap.ExtBut a h h')(r:Rep h vol v d):Rep h' vol v d:=r.qM fun b o e n x c1 c2=>⟨hs b o (fun q=>by subst q;rw[ha]at e;obtain rfl:=Z9 e;rcases hc with⟨_,_,hc⟩|⟨_,hc⟩;exact c1 _ _ hc;exact c2 _ hc) e,n⟩
theorem aH.length (r:aH h vol vs ds):vs.length=ds.length:=r.ind (Q:=fun vs ds=>vs.length=ds.length) rfl fun x x ih=>congrArg (·+1) ih
theorem aH.append (r:aH h vol vs ds)(x:aH h vol us es):aH h vol (vs++us) (ds++es):=r.ind (Q:=fun vs ds=>aH h vol (vs++us) (ds++es)) x fun r y ih=>.cons r ih
theorem aH.get (r:aH h vol vs ds):∀{i:Nat}{d:Dat},ds[i]?=some d->∃v,vs[i]?=some v/\Rep h vol v d:=r.ind (Q:=fun vs ds=>∀{i:Nat}{d:Dat},ds[i]?=some d->∃v,vs[i]?=some v/\Rep h vol v d) nofun (by intro _ _ _ _ r _ ih i d e;induction i with|zero=>exact⟨_,rfl,Z9 e▸r⟩|succ i=>exact ih (i:=i) e)
theorem aE (h:Heap):h.get? h.objs.size=none:=by cases e:h.get? h.objs.size with|none=>rfl|some o=>exact absurd (Heap.lt_size e) (Nat.lt_irrefl _)
structure Cx where
 prog:Program
 w:World
 h₀:Heap
 JF:OsState
 mg:Str->Option Value
 mb:Str->Option Value
 tabs:List (Addr×Addr×Pos×Str)
 fr:Addr->Prop
def Cx.T (C:Cx)(a:Addr):Prop:=∃c p q,(c,a,p,q)∈C.tabs
def Br (h:Heap)(P:Addr)(p:Pos)(q:Str):Prop:=h.get? P=some (tA #[])\/∃c,h.get? P=some (tA #[rawInt p.line,rawInt p.col,.ref c])/\h.CodeRec (.ref c) q
where tA (vs:Array Value):Obj:={cls:=.none,data:=.fields vs}
structure Cx.Ok (C:Cx):Prop where
 g:C.h₀.Ns mainGlobals C.mg
 b:C.h₀.Ns builtinsNs C.mb
 nolimit:C.h₀.NoLimit
 builtins:∀x:Str,x≠"__name__"->C.mb x=bootBuiltins x
 qg:∀c P p q,(c,P,p,q)∈C.tabs->C.h₀.TableAt c P #[]/\P≠cStatics/\P≠mainGlobals/\P≠builtinsNs
def fI (h:Heap)(a:Addr):Prop:=∃o es n,h.get? a=some o/\o.data=.dict es n
structure Bs (C:Cx) (s:Shared):Prop where
 keep:∀b o,C.h₀.get? b=some o->¬C.T b->s.heap.get? b=some o
 tab:∀c P p q,(c,P,p,q)∈C.tabs->Br s.heap P p q
 gens:AllBare s.gens
 os:s.os=C.JF
 alive:∀a,C.fr a->fI s.heap a
def fC (h':Heap)(b:Addr)(o:Obj):Prop:=∃o',h'.get? b=some o'/\o'.data=o.data
theorem fC.of (e:h'.get? b=some o):fC h' b o:=⟨o,e,rfl⟩
theorem fI.data (x:fI h a)(k:∀o,h.get? a=some o->fC h' a o):fI h' a:=let⟨o,es,n,ho,hd⟩:=x;let⟨o',iJ,cB⟩:=k o ho;⟨o',es,n,iJ,cB.trans hd⟩
structure Ex (C:Cx) (s s':Shared):Prop where
 keep:∀b o,s.heap.get? b=some o->¬C.T b->¬C.fr b->s'.heap.get? b=some o
 nj:∀b o,C.fr b->s.heap.get? b=some o->fC s'.heap b o
 bs:Bs C s->Bs C s'
theorem Ex.refl (s:Shared):Ex C s s:=⟨fun x x e x x=>e,fun x x x e=>.of e,id⟩
theorem Ex.trans (x:Ex C s s')(y:Ex C s' fM):Ex C s fM:=⟨fun b o e t f=>y.keep b o (x.keep b o e t f) t f,fun b o f e=>let⟨o1,e1,d1⟩:=x.nj b o f e;let⟨o2,e2,d2⟩:=y.nj b o1 f e1;⟨o2,e2,d2.trans d1⟩,fun z=>y.bs (x.bs z)⟩
theorem Ex.data (x:Ex C s s')(e:s.heap.get? b=some o)(t:¬C.T b):fC s'.heap b o:=by
 by_cases f:C.fr b
 ·exact x.nj b o f e
 ·exact .of (x.keep b o e t f)
theorem Br.keeps (hk:∀b o,h.get? b=some o->h'.get? b=some o):Br h P p q->Br h' P p q| .inl e=>.inl (hk _ _ e)| .inr ⟨c,e,r⟩=>.inr ⟨c,hk _ _ e,r.keeps hk⟩
theorem Ex.of_keep (hk:∀b o,s.heap.get? b=some o->s'.heap.get? b=some o)(hg:s'.gens=s.gens)(ho:s'.os=s.os):Ex C s s':=⟨fun b o e x x=>hk b o e,fun b o x e=>.of (hk b o e),fun z=>⟨fun b o e t=>hk b o (z.keep b o e t),fun c P p q m=>(z.tab c P p q m).keeps hk,hg▸z.gens,ho.trans z.os,fun a f=>(z.alive a f).data fun o e=>.of (hk a o e)⟩⟩
theorem Ex.toks:Ex C s {s with toks:=t}:=.of_keep (fun x x e=>e) rfl rfl
theorem Ex.push:Ex C s {s with heap:=s.heap.push o,toks:=t}:=.of_keep (fun x x e=>Z3 o e) rfl rfl
structure aW (C:Cx) (vol:Addr->Prop) (s:Shared):Prop where
 tabs:∀a,C.T a->vol a
 gS:∀a,C.fr a->vol a
 there:∀a,vol a->∃o,s.heap.get? a=some o
theorem aW.ex (V:aW C vol s)(x:Ex C s s')(z:Bs C s'):aW C vol s':=by
 refine⟨V.tabs,V.gS,fun a ha=>?_⟩;by_cases t:C.T a
 ·refine i0 t fun c p q m=>?_;rcases z.tab c a p q m with e|⟨_,e,_⟩<;>exact⟨_,e⟩
 ·refine aJ (V.there a ha) fun o e=>?_;refine ax (x.data e t) fun o' e' y=>?_;exact⟨o',e'⟩
theorem aW.new (V:aW C vol s)(e:s.heap.get? a=none):¬vol a:=fun ha=>by refine aJ (V.there a ha) fun o q=>?_;rw[e]at q;exact aa q
theorem Rep.ex (V:aW C vol s)(x:Ex C s s')(r:Rep s.heap vol v d):Rep s'.heap vol v d:=r.mono fun b o e n=>⟨x.keep b o e (fun t=>n (V.tabs b t)) fun f=>n (V.gS b f),n⟩
theorem aH.ex (V:aW C vol s)(x:Ex C s s')(r:aH s.heap vol vs ds):aH s'.heap vol vs ds:=r.mono fun b o e n=>⟨x.keep b o e (fun t=>n (V.tabs b t)) fun f=>n (V.gS b f),n⟩
end
inductive Slot where
 |val (d:Dat)
 |own (d:Dat)
noncomputable abbrev az:=List (Str×Slot)
noncomputable def Ux (vars:az)(x:Str):Option Dat:=match vars.lookup x with
 |some (.val d)=>some d|some (.own d)=>some d|none=>none
noncomputable def Slot.iD:Slot->Slot| .val d=>.val d| .own d=>.val d
def aO (vars:az):az:=vars.map fun p=>(p.1,p.2.iD)
noncomputable def aM:Nat:=1000000
mutual
noncomputable def oP:Dat->Option PyData
 | .none=>some .none
 | .bool b=>some (.bool b)
 | .int i=>some (.int i)
 | .str x=>if PyData.strOk x then some (.str x)else none
 | .list ds=>match dI ds with
  |some ps=>some (.list ps)
  |none=>none
 | .tuple ds=>match dI ds with
  |some ps=>some (.tuple ps)
  |none=>none
 |_=>none
noncomputable def dI:List Dat->Option (List PyData)
 |[]=>some []
 |d::ds=>match oP d with
  |none=>none
  |some p=>match dI ds with
   |none=>none
   |some ps=>some (p::ps)
end
noncomputable def lB (a b:Dat):Option Bool:=match oP a,oP b with
 |some p,some q=>if p.depth<=60/\q.depth<=60 then some (PyData.eqv p q)else none|_,_=>none
noncomputable def NC (a b:Dat):Option Bool:=match a,b with
 | .bytes x,.bytes y=>some (x==y)|a,b=>lB a b
noncomputable def sv (op:CmpOp):Dat->Dat->Option Bool
 | .int a,.int b=>match op with
  | .Lt=>some (decide (a<b))| .LtE=>some (decide (a<=b))| .Gt=>some (decide (a>b))| .GtE=>some (decide (a>=b))|_=>none
 | .str a,.str b=>match op with
  | .Lt=>some (decide (a.cps.toList<b.cps.toList))| .LtE=>some (!decide (b.cps.toList<a.cps.toList))| .Gt=>some (decide (b.cps.toList<a.cps.toList))| .GtE=>some (!decide (a.cps.toList<b.cps.toList))|_=>none
 |_,_=>none
noncomputable def vg (op:CmpOp)(m n:Nat):Bool:=match op with
 | .Eq=>m==n| .NotEq=>m !=n| .Lt=>decide (m<n)| .LtE=>decide (m<=n)| .Gt=>decide (m>n)|_=>decide (m>=n)
def gi (op:CmpOp):List Dat->List Dat->Nat->Option Bool
 |a::as,b::bs,k=>match lB a b with
  |some true=>gi op as bs (k+1)|some false=>sv op a b|none=>none
 |as,bs,k=>some (vg op (k+as.length) (k+bs.length))
def Lj (op:CmpOp):Dat->Dat->Option Bool
 | .list a,.list b=>match op with
  | .Lt=>gi .Lt a b 0| .LtE=>gi .LtE a b 0| .Gt=>gi .Gt a b 0|_=>none
 |a,b=>sv op a b
noncomputable def memD (x:Dat)(ds:List Dat):Option Bool:=match oP x,dI ds with
 |some p,some ps=>if p.depth<=60 then some (ps.any fun y=>PyData.eqv y p)else none|_,_=>none
noncomputable def qW (x:Dat):List Dat->Nat->Option Nat
 |[],_=>none
 |y::ys,k=>match lB y x with
  |some true=>some k|some false=>qW x ys (k+1)|none=>none
def pJ (op:CmpOp)(a b:Dat):Option Bool:=match op with
 | .Eq=>NC a b| .NotEq=>(NC a b).map (!·)| .Lt| .LtE| .Gt| .GtE=>Lj op a b
 | .In=>match b with
  | .list ds=>memD a ds|_=>none
 | .NotIn=>match a,b with
  |a,.list ds=>(memD a ds).map (!·)| .str x,.str y=>some (!Txt.contains y x)|_,_=>none
 |_=>none
noncomputable def aG (i:Int):Bool:=decide (-(2^62)<i)&&decide (i<2^62)
def binI (op:Operator)(a b:Int):Option Dat:=match op with
 | .Add=>some (.int (a+b))| .Sub=>some (.int (a-b))| .Mult=>if aG a&&aG b then some (.int (a*b))else none| .FloorDiv=>if b=0\/¬b.natAbs<1073741824 then none else some (.int (a.fdiv b))| .Mod=>if b=0 then none else some (.int (a.fmod b))| .Pow=>if 0<=b/\b<=64/\aG a=true then some (.int (a^b.toNat))else none|_=>none
def Lr (op:Operator)(x:Str)(n:Int):Option Dat:=match op with
 | .Mult=>if aG n=true/\x.length*n.toNat<=aM then some (.str (Txt.mul x n))else none|_=>none
def gO (op:Operator)(n:Nat)(d:Dat):Option Dat:=match op with
 | .Add=>if n<=aM then some d else none|_=>none
def js (op:Operator)(a b:Dat):Option Dat:=match a with
 | .int a=>match b with
  | .int b=>binI op a b| .str x=>Lr op x a|_=>none
 | .str x=>match b with
  | .int n=>Lr op x n| .str y=>gO op (x.length+y.length) (.str (x++y))|_=>none
 | .bytes x=>match b with
  | .bytes y=>gO op (x.length+y.length) (.bytes (x++y))|_=>none
 | .list x=>match b with
  | .list y=>gO op (x.length+y.length) (.list (x++y))|_=>none
 |_=>none
def BV (a b:Dat):Prop:=(∃x y,a=.int x/\b=.int y)\/(∃x y,a=.int x/\b=.str y)\/(∃x y,a=.str x/\b=.int y)\/(∃x y,a=.str x/\b=.str y)\/(∃x y,a=.bytes x/\b=.bytes y)\/∃x y,a=.list x/\b=.list y
set_option tactic.hygienic true in
theorem M3:js op a b=some d->BV a b:=by
 rcases a with⟨⟩;case int x=>
  rcases b with⟨⟩;case int y=>exact fun z=>.inl ⟨x,y,rfl,rfl⟩
  case str y=>exact fun z=>.inr (.inl ⟨x,y,rfl,rfl⟩)
  all_goals exact aa
 case str x=>
  rcases b with⟨⟩;case int y=>exact fun z=>.inr (.inr (.inl ⟨x,y,rfl,rfl⟩))
  case str y=>exact fun z=>.inr (.inr (.inr (.inl ⟨x,y,rfl,rfl⟩)))
  all_goals exact aa
 case bytes x=>
  rcases b with⟨⟩;case bytes y=>exact fun z=>.inr (.inr (.inr (.inr (.inl ⟨x,y,rfl,rfl⟩))))
  all_goals exact aa
 case list x=>
  rcases b with⟨⟩;case list y=>exact fun z=>.inr (.inr (.inr (.inr (.inr ⟨x,y,rfl,rfl⟩))))
  all_goals exact aa
 all_goals exact aa
theorem rU:gO op n r=some d->op=.Add/\n<=aM/\some r=some d:=by
 rcases op with⟨⟩;case Add=>exact fun h=>aI h fun a b=>⟨rfl,a,b⟩
 all_goals exact aa
theorem xC:Lr op x n=some d->op=.Mult/\(aG n=true/\x.length*n.toNat<=aM)/\some (Dat.str (Txt.mul x n))=some d:=by
 rcases op with⟨⟩;case Mult=>exact fun h=>aI h fun a b=>⟨rfl,a,b⟩
 all_goals exact aa
noncomputable def Q4 (op:UnaryOp)(a:Dat):Option Dat:=match op,a with
 | .USub,.int a=>some (.int (-a))|_,_=>none
def nE:Dat->Option Bool| .bool b=>some b| .int i=>some (i !=0)| .str x=>if x.length<=aM then some (x.length !=0)else none|_=>none
noncomputable def dN (i:Int)(n:Nat):Option Nat:=if 0<=i then(if i<n then some i.toNat else none)else(if 0<=i+n then some (i+n).toNat else none)
def Df (i:Int)(n:Nat)(f:Nat->Option Dat):Option Dat:=if aG i then(dN i n).bind f else none
def ez (a i:Dat):Option Dat:=match i with
 | .int i=>match a with
  | .list ds=>Df i ds.length (ds[·]?)| .tuple ds=>Df i ds.length (ds[·]?)| .str x=>Df i x.length fun k=>(x.cps[k]?).map fun c=>.str ⟨#[c]⟩| .bytes b=>Df i b.length fun k=>(b[k]?).map fun c=>.int c.toNat| .ba b=>Df i b.length fun k=>(b[k]?).map fun c=>.int c.toNat|_=>none
 | .str x=>match a with
  | .dict ks vs=>(ks.idxOf? x).bind (vs[·]?)|_=>none
 |_=>none
def IV (a i:Dat):Prop:=(∃k,i=.int k/\((∃x,a=.list x)\/(∃x,a=.tuple x)\/(∃x,a=.str x)\/(∃x,a=.bytes x)\/∃x,a=.ba x))\/∃x ks vs,i=.str x/\a=.dict ks vs
set_option tactic.hygienic true in
theorem Ia:ez a i=some d->IV a i:=by
 rcases i with⟨⟩;case int k=>
  rcases a with⟨⟩;case list x=>exact fun y=>.inl ⟨k,rfl,.inl ⟨x,rfl⟩⟩
  case tuple x=>exact fun y=>.inl ⟨k,rfl,.inr (.inl ⟨x,rfl⟩)⟩
  case str x=>exact fun y=>.inl ⟨k,rfl,.inr (.inr (.inl ⟨x,rfl⟩))⟩
  case bytes x=>exact fun y=>.inl ⟨k,rfl,.inr (.inr (.inr (.inl ⟨x,rfl⟩)))⟩
  case ba x=>exact fun y=>.inl ⟨k,rfl,.inr (.inr (.inr (.inr ⟨x,rfl⟩)))⟩
  all_goals exact aa
 case str x=>
  rcases a with⟨⟩;case dict ks vs=>exact fun y=>.inr ⟨x,ks,vs,rfl,rfl⟩
  all_goals exact aa
 all_goals exact aa
noncomputable def pick {α:Type}(xs:List α)(lo hi st:Option Int):List α:=let b:=sliceBounds lo hi st xs.length;(sliceRange b.1 b.2.1 b.2.2).filterMap (xs[·]?)
def fh (a:Dat)(lo hi st:Option Int):Option Dat:=if st=some 0\/lo.all aG=false\/hi.all aG=false\/st.all aG=false then none else match a with
 | .list ds=>if ds.length<=aM then some (.list (pick ds lo hi st))else none| .bytes b=>if b.length<=aM then some (.bytes (pick b lo hi st))else none| .str x=>if x.length<=aM/\st=none then some (.str ⟨(pick x.cps.toList lo hi st).toArray⟩)else none|_=>none
noncomputable def cC (a b c:Int):Nat:=(Builtin.Range.rangeSize a b c).toNat
def jj (a b c:Int):List Int:=(List.range (cC a b c)).map fun k:Nat=>a+c*(k:Int)
def bb:Dat->Option (List Dat)| .list ds=>some ds| .tuple ds=>some ds| .range a b c=>if aG a&&aG b&&aG c&&c !=0 then some ((jj a b c).map .int)else none| .bytes b=>some (b.map fun x=>.int x.toNat)| .str x=>if x.cps.all (· <128)then some (x.cps.toList.map fun c=>.str ⟨#[c]⟩)else none|_=>none
noncomputable def F7:Const->Option Dat| .none=>some .none| .bool b=>some (.bool b)| .int i=>some (.int i)| .str s=>some (.str s)| .bytes b=>some (.bytes b)|_=>none
noncomputable def cG {α β:Type}(f:α->Option (List β)):List α->Option (List β)|[]=>some []|a::as=>(f a).bind fun bs=>(cG f as).bind fun cs=>some (bs++cs)
structure gq where
 fn:Str->Option (List Dat->Option Dat)
 rO:Str->Option (List Dat->Option Dat)
 nQ:Str->Dat->List Dat->Option Dat
 glob:Str->Option Dat
 fuel:Nat
noncomputable def bL (sc:Scope)(x:Str)(sl:Slot)(vars:az):Option az:=if(sc.names.lookup x=some .local\/sc.names.lookup x=some .cell)/\(x==("__debug__":Str))=false/\(x==("__classdict__":Str))=false then some ((x,sl)::vars)else none
noncomputable def asName:Expr->Option Str| .Name x _=>some x|_=>none
noncomputable def Bp:Expr->Option (List Expr)| .Tuple ts _ _=>some ts|_=>none
noncomputable def qT:Dat->Option (List Dat)| .tuple ds=>some ds| .list ds=>some ds|_=>none
def oh (vars:az)(t:Expr):Bool:=(asName t).any fun x=>(vars.lookup x).isNone
def freshT (vars:az)(t:Expr):Bool:=oh vars t||(Bp t).any fun ts=>ts.all (oh vars)
def gN (sc:Scope):List Expr->List Dat->az->Option az|[],[],vars=>some vars|t::ts,d::ds,vars=>(asName t).bind fun x=>(bL sc x (.val d) vars).bind fun vars=>gN sc ts ds vars|_,_,_=>none
def bp (sc:Scope)(t:Expr)(d:Dat)(vars:az):Option az:=match asName t with
 |some x=>bL sc x (.val d) vars|none=>(Bp t).bind fun ts=>(qT d).bind fun ds=>gN sc ts ds vars
theorem fA:asName t=some x->∃p,t=.Name x p:=by cases t with|Name y p=>exact fun h=>⟨p,congrArg (Expr.Name · p) (Z9 h)⟩|_=>exact aa
theorem Di:Bp t=some ts->∃k p,t=.Tuple ts k p:=by cases t with|Tuple us k p=>exact fun h=>⟨k,p,congrArg (Expr.Tuple · k p) (Z9 h)⟩|_=>exact aa
theorem zN:qT d=some ds->d=.list ds\/d=.tuple ds:=by cases d with|list x=>exact fun h=>.inl (congrArg Dat.list (Z9 h))|tuple x=>exact fun h=>.inr (congrArg Dat.tuple (Z9 h))|_=>exact aa
noncomputable def fv (sc bD:Scope):Bool:=(bD.kind== .function)&&bD.names.all (fun p=>bD.names.lookup p.1==some p.2)&&bD.names.all fun p=>p.2 != .free||sc.names.lookup p.1==some .cell||sc.names.lookup p.1==some .free
noncomputable def bw (bD:Scope)(vars:az):az:=vars.filter fun p=>bD.names.lookup p.1==some .free
noncomputable def ownAt (vars:az)(x:Str):Option Dat:=match vars.lookup x with
 |some (.own d)=>some d|_=>none
def orOwn (e:Expr)(vars:az)(whole:Option Dat):Option Dat:=(((asName e).bind (ownAt vars)).or whole)
noncomputable def kL:Expr->Bool| .Name .. =>true| .Constant .. =>true|_=>false
def yt (ds:List Dat):Option Dat:=if ds.length<=aM then some (.list ds)else none
def QN (ds:List Dat):Option Dat:=if ds.length<=aM then some (.tuple ds)else none
noncomputable def Gk (b:Bool):Option Dat:=some (.bool b)
noncomputable def R8 (b:Bool):Option Dat:=some (.bool !b)
noncomputable def bX {α:Type}(b:Bool)(x y:Option α):Option α:=match b with
 |true=>x|false=>y
noncomputable def Uh:Dat->Option (Option Int)| .int i=>some (some i)|_=>none
def Rz:Dat->Option (List Dat)| .list ds=>if ds.length<=aM then some ds else none|_=>none
noncomputable def one (d:Dat):List Dat:=[d]
def N2:Option (Option (Option Int)×Option (Option Int)×Option (Option Int))->Option Dat->Dat->Option Dat|some p,_,a=>p.1.bind fun lo=>p.2.1.bind fun hi=>p.2.2.bind fun st=>fh a lo hi st|none,r,a=>r.bind fun i=>ez a i
def N7:Option (Option Dat)->Option Dat->Option (List Dat)|some r,_=>r.bind Rz|none,r=>r.map one
noncomputable def wY (op:BoolOp)(c:Bool):Bool:=match op with
 | .And=> !c| .Or=>c
mutual
def ev (Φ:gq)(sc:Scope):Expr->az->Option Dat
 | .Constant c _ _,_=>F7 c
 | .Name x _,vars=>match vars.lookup x with
  |some (.val d)=>some d
  |some (.own _)=>none
  |none=>if sc.names.lookup x=some .globalImplicit then Φ.glob x else none
 | .BinOp l op r _,vars=>(ev Φ sc l vars).bind fun a=>(ev Φ sc r vars).bind fun b=>js op a b
 | .UnaryOp op x _,vars=>match op with
  | .Not=>(orOwn x vars (ev Φ sc x vars)).bind fun a=>(nE a).bind R8
  |op=>(ev Φ sc x vars).bind fun a=>Q4 op a
 | .BoolOp op vs _,vars=>rn Φ sc op vs vars
 | .Compare l ops cs _,vars=>(orOwn l vars (ev Φ sc l vars)).bind fun a=>(lA Φ sc a ops cs vars).bind Gk
 | .IfExp t b o _,vars=>(dO Φ sc t vars (ev Φ sc t vars)).bind fun c=>bX c (ev Φ sc b vars) (ev Φ sc o vars)
 | .List es _,vars=>(vM Φ sc es vars).bind yt
 | .Tuple es _ _,vars=>(vM Φ sc es vars).bind QN
 | .Subscript v i _,vars=>(orOwn v vars (ev Φ sc v vars)).bind (N2 (match i with
  | .Slice lo hi st _=>some (FK Φ sc lo vars,FK Φ sc hi vars,FK Φ sc st vars)
  |_=>none) (ev Φ sc i vars))
 | .Call f args A4 pos,vars=>match A4 with
  |[]=>match f with
   | .Attribute o m apos=>if kL o=true/\(apos.endLine==pos.line)=true/\args.length<30 then(orOwn o vars (ev Φ sc o vars)).bind fun a=>(vM Φ sc args vars).bind fun ds=>Φ.nQ m a ds else none
   | .Name f _=>if vars.lookup f=none/\sc.names.lookup f=some .globalImplicit then(match Φ.fn f with
     |some g=>(dg Φ sc args vars).bind g
     |none=>(Φ.rO f).bind fun g=>(jq Φ sc args vars).bind g)
    else none
   |_=>none
  |_=>none
 | .ListComp elt gens bD _,vars=>match gens with
  |⟨t,it,ifs,a⟩::rest=>if a=0/\fv sc bD=true/\freshT (bw bD vars) t=true then(orOwn it vars (ev Φ sc it vars)).bind fun src=>(bb src).bind fun items=>
    (cG (fun d=>(bp bD t d (bw bD vars)).bind fun vars'=>(o8 Φ bD ifs vars').bind fun c=>bX c (gK Φ bD rest vars' fun vs=>(ev Φ bD elt vs).map one) (some [])) items).bind yt
   else none
  |_=>none
 |_,_=>none
def dO (Φ:gq)(sc:Scope):Expr->az->Option Dat->Option Bool
 | .UnaryOp op x _,vars,whole=>match op with
  | .Not=>(dO Φ sc x vars (ev Φ sc x vars)).map (!·)
  |_=>whole.bind nE
 | .BoolOp op vs _,vars,_=>f9 Φ sc op vs vars
 | .Compare l ops cs _,vars,_=>(orOwn l vars (ev Φ sc l vars)).bind fun a=>lA Φ sc a ops cs vars
 | .IfExp t b o _,vars,_=>(dO Φ sc t vars (ev Φ sc t vars)).bind fun c=>bX c (dO Φ sc b vars (ev Φ sc b vars)) (dO Φ sc o vars (ev Φ sc o vars))
 |_,_,whole=>whole.bind nE
def f9 (Φ:gq)(sc:Scope):BoolOp->List Expr->az->Option Bool
 |op,[],_=>some (op== .And)
 |op,e::es,vars=>(dO Φ sc e vars (ev Φ sc e vars)).bind fun c=>bX (wY op c) (some c) (f9 Φ sc op es vars)
def rn (Φ:gq)(sc:Scope):BoolOp->List Expr->az->Option Dat
 |_,[],_=>none
 |_,[e],vars=>ev Φ sc e vars
 |op,e::e2::es,vars=>(ev Φ sc e vars).bind fun d=>(nE d).bind fun c=>bX (wY op c) (some d) (rn Φ sc op (e2::es) vars)
def lA (Φ:gq)(sc:Scope)(a:Dat):List CmpOp->List Expr->az->Option Bool
 |[op],[e],vars=>(orOwn e vars (ev Φ sc e vars)).bind fun b=>pJ op a b
 |op::o2::ops,e::e2::es,vars=>(ev Φ sc e vars).bind fun b=>(pJ op a b).bind fun c=>bX c (lA Φ sc b (o2::ops) (e2::es) vars) (some false)
 |_,_,_=>none
def vM (Φ:gq)(sc:Scope):List Expr->az->Option (List Dat)
 |[],_=>some []
 |e::es,vars=>(ev Φ sc e vars).bind fun d=>(vM Φ sc es vars).map fun ds=>d::ds
def jq (Φ:gq)(sc:Scope):List Expr->az->Option (List Dat)
 |[],_=>some []
 |e::es,vars=>(orOwn e vars (ev Φ sc e vars)).bind fun d=>(jq Φ sc es vars).map fun ds=>d::ds
def dg (Φ:gq)(sc:Scope):List Expr->az->Option (List Dat)
 |[],_=>some []
 |e::es,vars=>(N7 (match e with
  | .Starred x _=>some (orOwn x vars (ev Φ sc x vars))
  |_=>none) (ev Φ sc e vars)).bind fun xs=>(dg Φ sc es vars).map fun ds=>xs++ds
def FK (Φ:gq)(sc:Scope):Option Expr->az->Option (Option Int)
 |none,_=>some none
 |some e,vars=>(ev Φ sc e vars).bind Uh
def o8 (Φ:gq)(sc:Scope):List Expr->az->Option Bool
 |[],_=>some true
 |e::es,vars=>(dO Φ sc e vars (ev Φ sc e vars)).bind fun c=>bX c (o8 Φ sc es vars) (some false)
def gK (Φ:gq)(sc:Scope):List Comprehension->az->(az->Option (List Dat))->Option (List Dat)
 |[],vars,k=>k vars
 |⟨t,it,ifs,a⟩::rest,vars,k=>if a=0/\freshT vars t=true then(orOwn it vars (ev Φ sc it vars)).bind fun src=>(bb src).bind fun items=>
   cG (fun d=>(bp sc t d vars).bind fun vars'=>(o8 Φ sc ifs vars').bind fun c=>bX c (gK Φ sc rest vars' k) (some [])) items
  else none
end
theorem zv:Nonempty Cx:=HL.elim fun w=>⟨⟨default,w,default,{},fun _=>none,fun _=>none,[],fun _=>False⟩⟩
theorem UI:Nonempty gq:=⟨⟨fun _=>none,fun _=>none,fun _ _ _=>none,fun _=>none,0⟩⟩
theorem GS:Nonempty Dat:=⟨.none⟩
theorem V3:Nonempty Slot:=⟨.val .none⟩
variable {C:Cx} {A:Around} {E:Value->Shared->Prop} {s s' fM s₀:Shared} {vol aj W W' W₀:Addr->Prop} {env:Env} {sc bD:Scope} {vars vars' V V':az} {n k i:Nat} {Φ:gq} {ad:Str->Addr} {prog:Program} {w:World} {h h':Heap} {o:Obj} {a I D L:Addr} {d:Dat} {v u:Value} {ds:List Dat} {vs:List Value} {x:Str} {t value:Expr} {pos p:Pos} {Q:Value->Shared->Prop} {K:Env->Around->Prop}
structure cV (C:Cx) (n:Nat) (A:Around):Prop where
 handled:A.handled=none
 depth:A.depth+n<recursionLimit
 units:A.units+10*n+1000<cLine
 frames:∃fs,A.frames=some fs/\∀f∈fs,f.scope.kind=.function/\∃L,f.frame=some L/\C.fr L/\C.h₀.get? L=none
def Wp {α:Type}(C:Cx)(A:Around)(t:Sem α)(P:α->Shared->Prop)(s:Shared):Prop:=∀(E:Value->Shared->Prop)(Q:α->Shared->Prop),(∀a s',Ex C s s'->P a s'->Q a s')->aK (model C.prog C.w) A t Q E s
abbrev dY (C:Cx)(A:Around)(vol:Addr->Prop)(t:Sem Value)(d:Dat)(s:Shared):Prop:=Wp C A t (fun v s'=>Rep s'.heap vol v d) s
theorem Wp.mono {α:Type}{t:Sem α}{P P':α->Shared->Prop}(h:Wp C A t P s)(k:∀a s',Ex C s s'->P a s'->P' a s'):Wp C A t P' s:=fun E Q q=>h E Q fun a s' x p=>q a s' x (k a s' x p)
theorem Wp.pure {α:Type}{a:α}{P:α->Shared->Prop}(h:P a s):Wp C A (pure a) P s:=fun x x q=>ah (q a s (.refl s) h)
def eR (h:Heap)(env:Env)(x:Str)(v:Value):Prop:=(x==("__debug__":Str))=false/\(x==("__classdict__":Str))=false/\((env.kindOf x=some .local/\∃m,h.Ns env.locals m/\m x=some v)\/((env.kindOf x=some .cell\/env.kindOf x=some .free)/\∃c,env.cells.lookup x=some c/\h.IsCell c (some v)))
inductive aT (h:Heap) (vol:Addr->Prop):Value->Dat->Prop
 |rep {v:Value} {d:Dat} (r:Rep h vol v d):aT h vol v d
 |list {a:Addr} {o:Obj} {vs:List Value} {n:Nat} {ds:List Dat} (ho:h.get? a=some o) (hc:o.cls=.type "list") (hn:o.dict=none) (hd:o.data=.seq vs.toArray n) (hr:aH h vol vs ds):aT h vol (.ref a) (.list ds)
 |ba {a:Addr} {o:Obj} {b:List UInt8} {n:Nat} (ho:h.get? a=some o) (hc:o.cls=.type "bytearray") (hd:o.data=.bytearray b.toArray n):aT h vol (.ref a) (.ba b)
set_option tactic.hygienic true in
theorem aT.oX (r:aT h vol v (.list ds)):∃a o vs k,v=.ref a/\h.get? a=some o/\o.cls=.type "list"/\o.dict=none/\o.data=.seq vs.toArray k/\aH h vol vs ds:=by
 rcases r with⟨⟩;case rep r=>refine jI r.oX fun a o vs k h1 x h2=>?_;exact⟨a,o,vs,k,h1,h2⟩
 case list ho hc hn hd hr=>exact⟨_,_,_,_,rfl,ho,hc,hn,hd,hr⟩
inductive gP (h:Heap) (vol:Addr->Prop):List Value->List Dat->Prop
 |nil:gP h vol [] []
 |cons {v:Value} {d:Dat} {vs:List Value} {ds:List Dat}:aT h vol v d->gP h vol vs ds->gP h vol (v::vs) (d::ds)
def ju (h:Heap)(vol:Addr->Prop)(L:Addr)(v:Value):Slot->Prop| .val d=>Rep h vol v d| .own d=>aT h vol v d/\∃a,v=.ref a/\vol a/\a+1≠L
def Lo (h:Heap)(vol:Addr->Prop)(env:Env)(vars:az):Prop:=∀x sl,vars.lookup x=some sl->∃v,eR h env x v/\ju h vol env.locals v sl
structure aN (env:Env) (sc:Scope):Prop where
 kind:env.scope.kind=.function
 globals:env.globals=mainGlobals
 builtins:env.builtins=builtinsNs
 glob:∀x,sc.names.lookup x=some .globalImplicit->env.kindOf x=some .globalImplicit
 loc:∀x,sc.names.lookup x=some .local->env.kindOf x=some .local
 Ud:∀x,sc.names.lookup x=some .cell->env.kindOf x=some .cell
 T4:∀x,sc.names.lookup x=some .free->env.kindOf x=some .cell\/env.kindOf x=some .free
 cells:∀x,sc.names.lookup x=some .cell\/sc.names.lookup x=some .free->∃c,env.cells.lookup x=some c
 inj:∀x y c,env.cells.lookup x=some c->env.cells.lookup y=some c->x=y
theorem Bs.dF (z:Bs C s)(e:s.heap.get? a=some o)(hd:∀es n,o.data≠.dict es n):¬C.fr a:=fun f=>by refine jJ (z.alive a f) fun o' es n e' d=>?_;rw[e]at e';obtain rfl:=Z9 e';exact hd _ _ d
theorem Bs.dv (z:Bs C s)(e:s.heap.get? a=some o)(hd:∀vs,o.data≠.fields vs):¬C.T a:=by intro y0;refine i0 y0 fun c p q m=>?_;rcases z.tab c a p q m with e'|⟨_,e',_⟩<;>(rw[e]at e';obtain rfl:=Z9 e';exact hd _ rfl)
theorem HI (h:o.data=.cell c)(vs:Array Value):o.data≠.fields vs:=by rw[h];nofun
theorem HN (h:o.data=.cell c)(es:Array DictEntry)(n:Nat):o.data≠.dict es n:=by rw[h];nofun
theorem eR.keep (H:eR h env x v)(h1:∀o,h.get? env.locals=some o->(∃es n,o.data=.dict es n)->fC h' env.locals o)(h2:∀b o c,h.get? b=some o->o.data=.cell c->h'.get? b=some o):eR h' env x v:=by
 refine bg H fun a1 a2 a3=>?_;refine⟨a1,a2,?_⟩;refine Z4 a3 (fun y0=>?_) fun y2=>?_
 ·obtain⟨b1,m,y1,b5⟩:=y0;refine sd y1 fun o es ep b2 b3 b4=>?_;refine ax (h1 _ b2 ⟨_,_,b3⟩) fun o' e' d'=>?_;exact .inl ⟨b1,m,⟨o',es,ep,e',d'.trans b3,b4⟩,b5⟩
 ·obtain⟨b1,c,b2,o,b3,b4⟩:=y2;exact .inr ⟨b1,c,b2,o,h2 _ _ _ b3 b4,b4⟩
theorem ij {P:Obj->Prop}(ha:h.get? a=some o)(hb:h.get? b=some o')(p:P o)(np:¬P o'):a≠b:=fun q=>np (Z9 (ha.symm.trans (q▸hb))▸p)
theorem eR.ex (z:Bs C s)(y:Ex C s s')(h:eR s.heap env x v):eR s'.heap env x v:=h.keep (fun o e hd=>y.data e (z.dv e fun vs q=>let⟨_,_,hd⟩:=hd;nomatch hd.symm.trans q)) fun b o c e hd=>y.keep _ _ e (z.dv e (HI hd)) (z.dF e (HN hd))
set_option tactic.hygienic true in
theorem aT.ex (z:Bs C s)(V:aW C vol s)(y:Ex C s s')(h:aT s.heap vol v d):aT s'.heap vol v d:=by
 rcases h with⟨⟩;case rep r=>exact .rep (r.ex V y)
 case list ho hc hn hd hr=>exact .list (y.keep _ _ ho (z.dv ho (by rw[hd];nofun)) (z.dF ho (by rw[hd];nofun))) hc hn hd (hr.ex V y)
 case ba ho hc hd=>exact .ba (y.keep _ _ ho (z.dv ho (by rw[hd];nofun)) (z.dF ho (by rw[hd];nofun))) hc hd
set_option tactic.hygienic true in
theorem ju.ex (z:Bs C s)(V:aW C vol s)(y:Ex C s s')(h:ju s.heap vol L v sl):ju s'.heap vol L v sl:=by
 rcases sl with⟨⟩;case val d=>exact Rep.ex V y h
 case own d=>exact⟨aT.ex z V y h.1,h.2⟩
theorem Lo.ex (z:Bs C s)(V:aW C vol s)(y:Ex C s s')(h:Lo s.heap vol env vars):Lo s'.heap vol env vars:=fun x sl e=>by refine ax (h x sl e) fun v a b=>?_;exact⟨v,a.ex z y,b.ex z V y⟩
structure In (C:Cx) (vol:Addr->Prop) (env:Env) (vars:az) (s:Shared):Prop where
 bs:Bs C s
 vo:aW C vol s
 lo:Lo s.heap vol env vars
 cells:∀x c,env.cells.lookup x=some c->∃v,s.heap.IsCell c v
theorem In.ex (i:In C vol env vars s)(y:Ex C s s'):In C vol env vars s':=⟨y.bs i.bs,i.vo.ex y (y.bs i.bs),i.lo.ex i.bs i.vo y,fun x c hc=>by refine eZ (i.cells x c hc) fun v o ho hd=>?_;exact⟨v,o,y.keep _ _ ho (i.bs.dv ho (by rw[hd];nofun)) (i.bs.dF ho (by rw[hd];nofun)),hd⟩⟩
structure cj (C:Cx) (n:Nat):Prop where
 bin:∀{op a b d v u A s vol},cV C n A->Bs C s->aW C vol s->Rep s.heap vol v a->Rep s.heap vol u b->js op a b=some d->dY C A vol (binaryOp op v u) d s
 un:∀{op a d v A s vol},cV C n A->Bs C s->aW C vol s->Rep s.heap vol v a->Q4 op a=some d->dY C A vol (unaryOp op v) d s
 cmp:∀{op a b r v u A s vol},cV C n A->Bs C s->aW C vol s->aT s.heap vol v a->aT s.heap vol u b->pJ op a b=some r->dY C A vol (compareOp op v u) (.bool r) s
 Q5:∀{a b v A s vol},cV C n A->Bs C s->aW C vol s->aT s.heap vol v a->nE a=some b->Wp C A (truthy v) (fun t x=>t=b) s
 item:∀{value slice a i d v u A s vol},cV C n A->Bs C s->aW C vol s->aT s.heap vol v a->Rep s.heap vol u i->ez a i=some d->(∀p q r t,slice≠.Slice p q r t)->dY C A vol (subscriptTail value slice v u) d s
 slice:∀{value lo hi st p a d v v1 v2 v3 l1 l2 l3 sl A s vol},cV C n A->Bs C s->aW C vol s->aT s.heap vol v a->s.heap.IsSliceOf sl v1 v2 v3->IsPart v1 l1->IsPart v2 l2->IsPart v3 l3->fh a l1 l2 l3=some d->
  dY C A vol (subscriptTail value (.Slice lo hi st p) v (.ref sl)) d s
structure b7 (C:Cx) (Φ:gq) (n:Nat):Prop where
 fn:∀{f g},Φ.fn f=some g->∃a o fd,C.mg f=some (.ref a)/\(f==("__debug__":Str))=false/\¬C.T a/\C.h₀.get? a=some o/\o.data=.func fd/\
  ∀{A s vol vs ds d},cV C n A->Bs C s->aW C vol s->aH s.heap vol vs ds->g ds=some d->dY C A vol (PySem.call (.ref a) vs) d s
 rO:∀{f g},Φ.rO f=some g->∃v,C.mg f=none/\C.mb f=some v/\(f==("__debug__":Str))=false/\(∀a,v≠.ref a)/\
  ∀{A s vol vs ds d},cV C n A->Bs C s->aW C vol s->gP s.heap vol vs ds->g ds=some d->dY C A vol (PySem.call v vs) d s
 glob:∀{x d},Φ.glob x=some d->∃v,(C.mg x=some v\/(C.mg x=none/\C.mb x=some v))/\(x==("__debug__":Str))=false/\∀{s vol},Bs C s->aW C vol s->Rep s.heap vol v d
 nQ:∀{m a ds d v s vol},Φ.nQ m a ds=some d->Bs C s->aW C vol s->aT s.heap vol v a->∃id,(∀{A pl},Wp C A (getMethod v m pl) (fun r y=>r=(.builtin id,[v])) s)/\
  ∀{A s vs},cV C n A->Bs C s->aW C vol s->aT s.heap vol v a->aH s.heap vol vs ds->dY C A vol (PySem.call (.builtin id) (v::vs)) d s
inductive It (h:Heap) (vol W:Addr->Prop):Addr->List Dat->Prop
 |list {I l:Addr} {i:Nat} {vs:List Value} {ds:List Dat} (hi:h.IsListIter I l i) (hl:h.IsList l vs.toArray) (hr:aH h vol (vs.drop i) ds) (w1:¬W I) (w2:¬W l):It h vol W I ds
 |tuple {I l:Addr} {i:Nat} {vs:List Value} {ds:List Dat} (hi:h.IsTupleIter I l i) (hl:h.IsTuple l vs.toArray) (hr:aH h vol (vs.drop i) ds) (w1:¬W I) (w2:¬W l):It h vol W I ds
 |range {I:Addr} {x st:Int} {n:Nat} (hi:IsRangeIter h I x (n:Int) st) (w1:¬W I):It h vol W I ((List.range n).map fun k:Nat=>.int (x+st*(k:Int)))
 |str {I:Addr} {x:Str} {t:Tok} {i:Nat} (hi:h.IsStrIter I "str_ascii_iterator" x t i) (w1:¬W I):It h vol W I ((x.cps.toList.drop i).map fun c=>.str ⟨#[c]⟩)
 |bytes {I:Addr} {b:List UInt8} {t:Tok} {i:Nat} (hi:KBw.IsBytesIter h I b.toArray t i) (w1:¬W I):It h vol W I ((b.drop i).map fun c=>.int c.toNat)
theorem It.mono {jb:Addr->Prop}(hk:∀b o,h.get? b=some o->¬W b->h'.get? b=some o)(hr:∀{vs ds},aH h vol vs ds->aH h' jb vs ds)(x:It h vol W I ds):It h' jb W I ds:=by cases x with|list hi hl sI w1 w2=>refine ax hi fun o ho r=>?_;refine ax hl fun o2 lV r2=>?_;exact .list ⟨o,hk _ _ ho w1,r⟩ ⟨o2,hk _ _ lV w2,r2⟩ (hr sI) w1 w2|tuple hi hl sI w1 w2=>refine ax hi fun o ho r=>?_;refine ax hl fun o2 lV r2=>?_;exact .tuple ⟨o,hk _ _ ho w1,r⟩ ⟨o2,hk _ _ lV w2,r2⟩ (hr sI) w1 w2|range hi w1=>exact .range (hk _ _ hi w1) w1|str hi w1=>refine ax hi fun o ho r=>?_;exact .str ⟨o,hk _ _ ho w1,r⟩ w1|bytes hi w1=>refine ax hi fun o ho r=>?_;exact .bytes ⟨o,hk _ _ ho w1,r⟩ w1
theorem It.HH (x:It h vol W I ds):¬W I:=by rcases x with⟨⟩<;>assumption
theorem gF (h1:T≠"tuple":=by decide)(h2:T≠"list":=by decide)(h3:T≠"range":=by decide)(h4:T≠"bytearray":=by decide):¬gQ (.type T):=by rintro(e|e|e|e)<;>rcases e with⟨⟩<;>contradiction
theorem gH {vs:Array Value}(ho:h.get? I=some o)(hc:o.cls=.type T)(hT:¬gQ (.type T))(hd:o.data=.fields vs):∃o,h.get? I=some o/\¬gQ o.cls/\(∀vs n,o.data≠.seq vs n)/\(∀es n,o.data≠.dict es n)/\(∀c,o.data≠.cell c):=⟨o,ho,hc▸hT,(fun x x e=>nomatch hd.symm.trans e),(fun x x e=>nomatch hd.symm.trans e),fun x e=>nomatch hd.symm.trans e⟩
theorem It.gX (x:It h vol W I ds):∃o,h.get? I=some o/\¬gQ o.cls/\(∀vs n,o.data≠.seq vs n)/\(∀es n,o.data≠.dict es n)/\(∀c,o.data≠.cell c):=by cases x with|list hi=>exact let⟨o,ho,hc,hd⟩:=hi;gH ho hc gF hd|tuple hi=>exact let⟨o,ho,hc,hd⟩:=hi;gH ho hc gF hd|range hi=>exact gH hi rfl gF rfl|str hi=>exact let⟨o,ho,hc,hd⟩:=hi;gH ho hc gF hd|bytes hi=>exact let⟨o,ho,hc,hd⟩:=hi;gH ho hc gF hd
set_option tactic.hygienic true in
theorem It.next (x:It s.heap vol W I (d::ds)){Q:Option Value->Shared->Prop}(hQ:∀v h' tk,Rep h' vol v d->It h' vol W I ds->Heap.SameBut I s.heap h'->Q (some v) {s with heap:=h',toks:=tk}):aK (model C.prog C.w) A (pyNext (.ref I)) Q E s:=by
 refine yR x.gX fun oI kO pE JU y=>?_;generalize e:d::ds=l at x;cases x with
 |list hi hl hr w1 w2=>
  rename_i l i vs;subst e;have iX:l≠I:=by rintro rfl;obtain⟨o,ho,_,n,hd⟩:=hl;rw[kO]at ho;obtain rfl:=Z9 ho;exact JU _ _ hd
  cases hv:vs.drop i with
  |nil=>rw[hv]at hr;(rcases hr with⟨⟩)
  |cons v pO=>
   rw[hv]at hr;rcases hr with⟨⟩;case cons r rs=>
    have hx:vs.toArray[i]?=some v:=by have:=congrArg (·[0]?) hv;simpa using this
    have cB:vs.drop (i+1)=pO:=by rw[<-List.drop_drop,hv];rfl
    refine ai <|wpAny_pyNext_list_item hi hl hx fun h' ly hs=>hQ _ _ _ (r.extBut kO pE hs.extBut) (.list ly (hl.extBut hs.extBut iX) (cB▸rs.extBut kO pE hs.extBut) w1 w2) hs
 |tuple hi hl hr w1 w2=>
  rename_i l i vs;subst e;have iX:l≠I:=by rintro rfl;obtain⟨o,ho,_,n,hd⟩:=hl;rw[kO]at ho;obtain rfl:=Z9 ho;exact JU _ _ hd
  cases hv:vs.drop i with
  |nil=>rw[hv]at hr;(rcases hr with⟨⟩)
  |cons v pO=>
   rw[hv]at hr;rcases hr with⟨⟩;case cons r rs=>
    have hx:vs.toArray[i]?=some v:=by have:=congrArg (·[0]?) hv;simpa using this
    have cB:vs.drop (i+1)=pO:=by rw[<-List.drop_drop,hv];rfl
    refine ai <|wpAny_pyNext_tuple_item hi hl hx fun h' ly hs=>hQ _ _ _ (r.extBut kO pE hs.extBut) (.tuple ly (hl.extBut hs.extBut iX) (cB▸rs.extBut kO pE hs.extBut) w1 w2) hs
 |range hi w1=>
  rename_i x st n;rcases n with⟨⟩;case zero=>(rcases e with⟨⟩)
  case succ n=>
   simp only[List.range_succ_eq_map,ZI,ZH]at e;injection e with e1 e2;subst e1 e2;refine ai <|wpAny_pyNext_range_item hi (bC 0x90baf871 rfl) fun h' ly hs=>hQ _ _ _ ?_ ?_ hs
   ·simpa using Rep.int x _
   ·have Nv:IsRangeIter h' I (x+st) (n:Int) st:=by have:((n+1:Nat):Int)-1=(n:Int):=bC 0xaf990bafc91 rfl;rw[this]at ly;exact ly
    have z:=It.range (vol:=vol) (W:=W) Nv w1;have q:(List.range n).map ((fun k:Nat=>Dat.int (x+st*(k:Int)))∘Nat.succ)=(List.range n).map fun k:Nat=>.int (x+st+st*(k:Int)):=by refine ZF fun k y=>?_;show Dat.int _=Dat.int _;congr 1;have:((Nat.succ k:Nat):Int)=(k:Int)+1:=bC 0x90afb90baf91 rfl;simp only[this,Int.mul_add,Int.mul_one];exact RI 0x1f2f0fbb2f1fb0fb91 rfl
    exact q▸z
 |str hi w1=>
  rename_i x t i;cases hv:x.cps.toList.drop i with
  |nil=>replace e:=hv▸e;(rcases e with⟨⟩)
  |cons c cs=>
   rw[hv]at e;injection e with e1 e2;subst e1 e2;have hx:x.cps[i]?=some c:=by have:=congrArg (·[0]?) hv;simpa using this
   have cB:x.cps.toList.drop (i+1)=cs:=by refine xL List.drop_drop (xR hv ?_);rfl
   refine ai <|wpAny_pyNext_ascii_item hi hx fun h' ly hs=>hQ _ _ _ (.str _ _) ?_ hs;have z:=It.str (vol:=vol) (W:=W) ly w1;rw[cB]at z;exact z
 |bytes hi w1=>
  rename_i b t i;cases hv:b.drop i with
  |nil=>replace e:=hv▸e;(rcases e with⟨⟩)
  |cons c cs=>
   rw[hv]at e;injection e with e1 e2;subst e1 e2;have hx:b.toArray[i]?=some c:=by have:=congrArg (·[0]?) hv;simpa using this
   have cB:b.drop (i+1)=cs:=by refine xL List.drop_drop (xR hv ?_);rfl
   refine ai <|KBw.next_item hi hx fun h' ly hs=>hQ _ _ _ (.int _ _) ?_ hs;have z:=It.bytes (vol:=vol) (W:=W) ly w1;rw[cB]at z;exact z
set_option tactic.hygienic true in
theorem It.done (x:It s.heap vol W I [])(hh:A.handled=none){Q:Option Value->Shared->Prop}(hQ:∀h',Heap.ExtBut I s.heap h'->Q none {s with heap:=h'}):aK (model C.prog C.w) A (pyNext (.ref I)) Q E s:=by
 generalize e:([]:List Dat)=l at x
 cases x with
 |list hi hl hr w1 w2=>rename_i l i vs;subst e;have Ba:=hr.length;refine ai <|wpAny_pyNext_list_end hh hi hl ?_ hQ;simp at Ba ⊢;exact aR 0x101810c22 rfl Ba
 |tuple hi hl hr w1 w2=>rename_i l i vs;subst e;have Ba:=hr.length;refine ai <|wpAny_pyNext_tuple_end hh hi hl ?_ hQ;simp at Ba ⊢;exact aR 0x101810c22 rfl Ba
 |range hi w1=>rename_i x st n;have Ba:=congrArg List.length e;simp at Ba;exact ai <|wpAny_pyNext_range_end hh hi (bC 0x80af80822 rfl Ba) hQ
 |str hi w1=>rename_i x t i;have Ba:=congrArg List.length e;simp at Ba;exact ai <|wpAny_pyNext_ascii_end hh hi (by simp;exact aR 0x10110c822 rfl Ba) hQ
 |bytes hi w1=>rename_i b t i;have Ba:=congrArg List.length e;simp at Ba;exact ai <|KBw.next_end hh hi (by simp;exact aR 0x10110c822 rfl Ba) hQ
theorem It.self (x:It s.heap vol W I ds)(hQ:Q (.ref I) s):aK (model C.prog C.w) A (pyIter (.ref I)) Q E s:=by
 cases x with
 |list hi=>exact ai <|wpAny_pyIter_listiter hi hQ
 |tuple hi=>exact ai <|wpAny_pyIter_tupleiter hi hQ
 |range hi=>exact ai <|wpAny_pyIter_rangeiter hi hQ
 |str hi=>exact ai <|wpAny_pyIter_striter_ascii hi hQ
 |bytes hi=>exact ai <|KBw.pyIter_self hi hQ
theorem df (a b c:Int):0<=Builtin.Range.rangeSize a b c:=by
 unfold Builtin.Range.rangeSize;split
 ·rename_i hc;split
  ·have:0<=(b-a-1)/c:=Int.ediv_nonneg (Nh 0x90f1fcc881f0f72 rfl (by assumption)) (ni 0xf880f872 rfl hc);exact ni 0x90fb880f882 rfl this
  ·lia
 ·split
  ·have:0<=(a-b-1)/(-c):=Int.ediv_nonneg (Nh 0x90f1fcc881f0f72 rfl (by assumption)) (ni 0xf9f880f8732 rfl (by assumption));exact ni 0x90fb880f882 rfl this
  ·lia
theorem uW {a b c:Int}(hc:c≠0):Builtin.Range.rangeSize a b c<=0\/Builtin.Range.rangeSize a b c<=b-a\/Builtin.Range.rangeSize a b c<=a-b:=by
 unfold Builtin.Range.rangeSize;split
 ·split
  ·have:(b-a-1)/c<=b-a-1:=Int.ediv_le_self _ (Nh 0x90f1fcc881f0f72 rfl (by assumption));exact RI 0x1f2fc90fb82f1fc90fb85890fb8592f1fcc0f82 rfl this
  ·exact Nh 0xf1fc881f0fc88588851 rfl
 ·split
  ·have:(a-b-1)/(-c)<=a-b-1:=Int.ediv_le_self _ (Nh 0x90f1fcc881f0f72 rfl (by assumption));exact RI 0x2f1fc90fb81f2fc90fb85890fb8592f1fcc0f82 rfl this
  ·exact Nh 0xf1fc881f0fc88588851 rfl
theorem cS {i:Int}:aG i=true↔-(2^62)<i/\i<2^62:=by unfold aG;simp
theorem jZ {a b c:Int}(ha:aG a=true)(hb:aG b=true)(hc:aG c=true)(h0:c≠0):Builtin.Range.small a b c=true:=by simp only[cS]at ha hb hc;have h1:=df a b c;have h2:=uW (a:=a) (b:=b) h0;generalize hz:Builtin.Range.rangeSize a b c=z at *;delta Builtin.Range.small;refine xR hz ?_;simp only[Builtin.Range.rangeFitsLong,ZR,Bool.or_eq_true,decide_eq_true_eq,beq_iff_eq];refine⟨⟨⟨⟨⟨by lia,by lia⟩,by lia,by lia⟩,by lia,by lia⟩,by lia,by lia⟩,.inr ?_⟩;split<;>simp only[ZR,decide_eq_true_eq]<;>constructor<;>lia
set_option tactic.hygienic true in
theorem pS (r:aT s.heap vol v d)(hd:bb d=some ds)(hw:∀a,W a->∃o,s.heap.get? a=some o)(hl:∀a,v=.ref a->¬W a)(hQ:∀I h',s.heap.get? I=none->(∀b o,s.heap.get? b=some o->h'.get? b=some o)->It h' vol W I ds->Q (.ref I) {s with heap:=h'}):aK (model C.prog C.w) A (pyIter v) Q E s:=by
 revert r hd hw hl hQ;refine si (b8 (b8 (b8 (b8 sA zv) vm) (b8 GS inferInstance)) inferInstance) ?_ s C A d vol Q E W ds v;generalize jF _ _=tt;dsimp only[DB];generalize tt.1.1.1.1=s,tt.1.1.1.2=C,tt.1.1.2=A,tt.1.2.1=d,tt.1.2.2=vol,tt.2.1.1.1=Q,tt.2.1.1.2=E,tt.2.1.2=W,tt.2.2.1=ds,tt.2.2.2=v;intro r hd hw hl hQ;have hI:¬W s.heap.objs.size:=fun q=>by refine aJ (hw _ q) fun o e=>?_;rw[aE]at e;exact aa e
 have rp:∀(o:Obj){vs:List Value}{es:List Dat},aH s.heap vol vs es->aH (s.heap.push o) vol vs es:=fun o y y r=>r.mono fun b o' e n=>⟨Z3 o e,n⟩;have lst:∀{a:Addr}{o:Obj}{vs:List Value}{n:Nat}{es:List Dat},s.heap.get? a=some o->o.cls=.type "list"->o.data=.seq vs.toArray n->aH s.heap vol vs es->¬W a->(∀I h',s.heap.get? I=none->(∀b o,s.heap.get? b=some o->h'.get? b=some o)->It h' vol W I es->Q (.ref I) {s with heap:=h'})->aK (model C.prog C.w) A (pyIter (.ref a)) Q E s:=by
  intro a o vs n es ho hc hd hr Wl hQ
  refine ai <|wpAny_pyIter_list ⟨o,ho,hc,n,hd⟩ (hQ _ _ (aE _) (fun y y e=>Z3 _ e) (.list (i:=0) ⟨_,ZO _ rfl,rfl,rfl⟩ ⟨o,Z3 _ ho,hc,n,hd⟩ (rp _ hr) hI Wl))
 rcases r with⟨⟩;case list ho hc hn cB hr=>obtain rfl:=Z9 hd;exact lst ho hc cB hr (hl _ rfl) hQ
 case ba ho hc cB=>exact aa hd
 case rep r=>
  rcases r with⟨⟩;case none=>exact aa hd
  case bool=>exact aa hd
  case int=>exact aa hd
  case top=>exact aa hd
  case typ=>exact aa hd
  case ba=>exact aa hd
  case list hv ho hc hn cB hr=>obtain rfl:=Z9 hd;exact lst ho hc cB hr (hl _ rfl) hQ
  case tuple hv ho hc cB hr=>obtain rfl:=Z9 hd;refine ai <|wpAny_pyIter_tuple ⟨_,ho,hc,_,cB⟩ (hQ _ _ (aE _) (fun y y e=>Z3 _ e) (.tuple (i:=0) ⟨_,ZO _ rfl,rfl,rfl⟩ ⟨_,Z3 _ ho,hc,_,cB⟩ (rp _ hr) hI (hl _ rfl)))
  case range hv hr=>
   rename_i r a b c t u v;refine aI (c:=(aG a&&aG b&&aG c&&c !=0)=true) hd fun hs hd=>?_
   ·obtain rfl:=Z9 hd;simp only[ZR,bne_iff_ne,ne_eq]at hs;refine aL hs fun y0 h0=>?_;refine aL y0 fun y1 hc=>?_;refine aL y1 fun ha hb=>?_;refine ai <|wpAny_pyIter_range hr (jZ ha hb hc h0) (hQ _ _ (aE _) (fun y y e=>Z3 _ e) ?_);have z:IsRangeIter (s.heap.push {cls:=.type "range_iterator",data:=.fields #[rawInt a,rawInt (Builtin.Range.rangeSize a b c),rawInt c]}) s.heap.objs.size a ((cC a b c:Nat):Int) c:=by unfold cC;rw[Int.toNat_of_nonneg (df a b c)];exact ZO _ rfl
    have q:=It.range (vol:=vol) (W:=W) z hI;unfold jj;rw[ZH];exact q
  case str x t=>
   refine aI (c:=x.cps.all (· <128)=true) hd fun hs hd=>?_
   ·obtain rfl:=Z9 hd;refine ai <|wpAny_pyIter_ascii hs (hQ _ _ (aE _) (fun y y e=>Z3 _ e) ?_);exact It.str (i:=0) ⟨_,ZO _ rfl,rfl,rfl⟩ hI
  case bytes b t=>obtain rfl:=Z9 hd;refine ai <|KBw.pyIter_bytes (hQ _ _ (aE _) (fun y y e=>Z3 _ e) ?_);exact It.bytes (i:=0) ⟨_,ZO _ rfl,rfl,rfl⟩ hI
structure gy (C:Cx) (W:Addr->Prop) (s s':Shared):Prop where
 keep:∀b o,s.heap.get? b=some o->¬C.T b->¬C.fr b->¬W b->s'.heap.get? b=some o
 nj:∀b o,C.fr b->¬W b->s.heap.get? b=some o->fC s'.heap b o
 bs:Bs C s->(∀a,W a->C.h₀.get? a=none)->Bs C s'
theorem gy.refl (s:Shared):gy C W s s:=⟨fun x x e x x x=>e,fun x x x x e=>.of e,fun z x=>z⟩
theorem gy.trans (x:gy C W s s')(y:gy C W s' fM):gy C W s fM:=⟨fun b o e t f w=>y.keep b o (x.keep b o e t f w) t f w,fun b o f w e=>let⟨o1,e1,d1⟩:=x.nj b o f w e;let⟨o2,e2,d2⟩:=y.nj b o1 f w e1;⟨o2,e2,d2.trans d1⟩,fun z w=>y.bs (x.bs z w) w⟩
theorem gy.mono (x:gy C W s s')(h:∀a,W a->W' a):gy C W' s s':=⟨fun b o e t f w=>x.keep b o e t f fun q=>w (h b q),fun b o f w e=>x.nj b o f (fun q=>w (h b q)) e,fun z w=>x.bs z fun a q=>w a (h a q)⟩
theorem Ex.KU (x:Ex C s s'):gy C W s s':=⟨fun b o e t f y=>x.keep b o e t f,fun b o f y e=>x.nj b o f e,fun z y=>x.bs z⟩
theorem gy.NZ (x:gy C W s s')(h:∀a,W a->s.heap.get? a=none)(hT:∀a,W a->¬C.T a):Ex C s s':=by
 refine⟨fun b o e t f=>x.keep b o e t f fun q=>?_,fun b o f e=>x.nj b o f (fun q=>?_) e,fun z=>x.bs z fun a q=>?_⟩
 ·rw[h b q]at e;exact aa e
 ·rw[h b q]at e;exact aa e
 ·cases e:C.h₀.get? a with|none=>rfl|some o=>have:=z.keep a o e (hT a q);rw[h a q]at this;exact aa this
theorem gy.same {t:Nat}(hs:Heap.ExtBut a s.heap h')(ha:W a)(hT:¬C.T a)(Ir:C.fr a->fI h' a)(hd:∀oa vs x t,s.heap.get? a=some oa->oa.data=.fields vs->vs[1]?≠some (.str x t)):gy C W s {s with heap:=h',toks:=t}:=⟨fun b o e y y w=>hs b o (fun q=>w (q▸ha)) e,fun b o y w e=>.of (hs b o (fun q=>w (q▸ha)) e),fun z w=>⟨fun b o e t'=>hs b o (fun q=>by subst q;replace e:=(w _ ha).symm.trans e;exact aa e) (z.keep b o e t'),fun c P p q m=>by
  refine Z4 (z.tab c P p q m) (fun e=>?_) fun y0=>?_
  ·exact .inl (hs _ _ (fun q'=>hT (q'▸⟨c,p,q,m⟩)) e)
  ·refine ax y0 fun b e r=>?_;refine .inr ⟨b,hs _ _ (fun q'=>hT (q'▸⟨c,p,q,m⟩)) e,?_⟩;refine cL r fun b' o vs t e1 e2 e3 e4=>?_;refine ZU fun hG=>?_;rcases e1 with⟨⟩;refine hG ?_;have hb:b≠a:=fun q=>by subst q;exact hd o vs _ _ e2 e3 e4
   exact⟨b,o,vs,t,rfl,hs _ _ hb e2,e3,e4⟩,z.gens,z.os,fun b f=>by
   by_cases q:b=a
   ·exact q▸Ir (q▸f)
   ·exact(z.alive b f).data fun o e=>.of (hs b o q e)⟩⟩
theorem EG (ho:h.get? I=some o)(hd:o.data=.fields us)(hn:∀x t,us[1]?≠some (.str x t)):∀oa vs x t,h.get? I=some oa->oa.data=.fields vs->vs[1]?≠some (.str x t):=by intro oa vs x t e1 e2;obtain rfl:=Z9 (ho.symm.trans e1);obtain rfl:=Data.fields.inj (hd.symm.trans e2);exact hn x t
theorem It.AX (x:It h vol W I ds):∀oa vs x t,h.get? I=some oa->oa.data=.fields vs->vs[1]?≠some (.str x t):=by cases x with|list hi=>exact let⟨o,ho,hc,hd⟩:=hi;EG ho hd fun y y q=>nomatch q|tuple hi=>exact let⟨o,ho,hc,hd⟩:=hi;EG ho hd fun y y q=>nomatch q|range hi=>exact EG hi rfl fun y y q=>nomatch q|str hi=>exact let⟨o,ho,hc,hd⟩:=hi;EG ho hd fun y y q=>nomatch q|bytes hi=>exact let⟨o,ho,hc,hd⟩:=hi;EG ho hd fun y y q=>nomatch q
theorem Ns.unique (x:h.Ns a m)(y:h.Ns a m'):m=m':=by refine jz x fun o es ep ho hd u hm=>?_;refine jz y fun o' YQ YR iJ cB u yN=>?_;rw[ho]at iJ;obtain rfl:=Z9 iJ;replace cB:=hd.symm.trans cB;rcases cB with⟨⟩;funext z;simp only[<-hm,<-yN]
structure oJ (C:Cx) (h:Heap) (vol:Addr->Prop) (env:Env) (sc:Scope):Prop where
 ns:∃m,h.Ns env.locals m
 vl:vol env.locals
 fl:C.h₀.get? env.locals=none
 cell:∀x c,sc.names.lookup x=some .cell->env.cells.lookup x=some c->vol c/\C.h₀.get? c=none/\∃v,h.IsCell c v
def FW (env:Env)(sc:Scope)(a:Addr):Prop:=a=env.locals\/∃x,sc.names.lookup x=some .cell/\env.cells.lookup x=some a
theorem oJ.BG (f:oJ C s.heap vol env sc)(a:Addr)(h:FW env sc a):vol a:=by
 refine Z4 h (fun y0=>?_) fun y1=>?_
 ·obtain rfl:=y0;exact f.vl
 ·refine ax y1 fun x h1 h2=>?_;exact(f.cell x a h1 h2).1
theorem oJ.new (f:oJ C s.heap vol env sc)(a:Addr)(h:FW env sc a):C.h₀.get? a=none:=by
 refine Z4 h (fun y0=>?_) fun y1=>?_
 ·obtain rfl:=y0;exact f.fl
 ·refine ax y1 fun x h1 h2=>?_;exact(f.cell x a h1 h2).2.1
theorem oJ.dv (f:oJ C s.heap vol env sc)(z:Bs C s)(a:Addr)(h:FW env sc a):¬C.T a:=by
 refine Z4 h (fun y0=>?_) fun y1=>?_
 ·obtain rfl:=y0;refine jI f.ns fun m o es ep ho hd y=>?_;exact z.dv ho (by refine xR hd ?_;nofun)
 ·refine ax y1 fun x h1 h2=>?_;obtain⟨_,_,v,o,ho,hd⟩:=f.cell x a h1 h2;exact z.dv ho (by refine xR hd ?_;nofun)
theorem oJ.keep (f:oJ C s.heap vol env sc)(hk:∀b o,s.heap.get? b=some o->FW env sc b->fC s'.heap b o):oJ C s'.heap vol env sc:=by refine jI f.ns fun m o es ep ho hd r=>?_;refine ax (hk _ _ ho (.inl rfl)) fun o' e' d'=>?_;refine⟨⟨m,o',es,ep,e',d'.trans hd,r⟩,f.vl,f.fl,fun x c h1 h2=>?_⟩;refine ZU fun hG=>?_;obtain⟨a,b,v,o,ho,hd⟩:=f.cell x c h1 h2;refine hG ?_;refine ax (hk _ _ ho (.inr ⟨x,h1,h2⟩)) fun o' e' d'=>?_;exact⟨a,b,v,o',e',d'.trans hd⟩
theorem oJ.ex (f:oJ C s.heap vol env sc)(z:Bs C s)(x:Ex C s s'):oJ C s'.heap vol env sc:=f.keep fun b o e w=>x.data e (f.dv z b w)
theorem Rep.dE (ha:vol a)(hs:Heap.ExtBut a h h')(r:Rep h vol v d):Rep h' vol v d:=r.mono fun b o e n=>⟨hs b o (fun q=>n (q▸ha)) e,n⟩
theorem aH.dE (ha:vol a)(hs:Heap.ExtBut a h h'){v:List Value}{d:List Dat}(r:aH h vol v d):aH h' vol v d:=r.mono fun b o e n=>⟨hs b o (fun q=>n (q▸ha)) e,n⟩
theorem aW.same {t:Nat}(V:aW C vol s)(hs:Heap.SameBut a s.heap h')(ha:∃o,h'.get? a=some o):aW C vol {s with heap:=h',toks:=t}:=⟨V.tabs,V.gS,fun b hb=>by
  by_cases q:b=a
  ·exact q▸ha
  ·refine aJ (V.there b hb) fun o e=>?_;exact⟨o,(hs.2 b q).trans e⟩⟩
def NF (o:Obj):Prop:=(∃es n,o.data=.dict es n)\/∃c,o.data=.cell c
theorem NF.EH (h:NF o)(vs:Array Value):o.data≠.fields vs:=by rcases h with⟨_,_,e⟩|⟨_,e⟩<;>rw[e]<;>nofun
set_option tactic.hygienic true in
theorem Rep.odd (rZ:h.get? a=some oa)(ho:NF oa)(hs:Heap.ExtBut a h h'):∀{v:Value}{d:Dat},aT h vol v d->vol a->aT h' vol v d:=by
 intro v d r ha;rcases r with⟨⟩;case rep r=>exact .rep (r.dE ha hs)
 case list h1 n7 hn hd hr=>exact .list (hs _ _ (fun q=>by subst q;rw[rZ]at h1;obtain rfl:=Z9 h1;rcases ho with⟨_,_,e⟩|⟨_,e⟩<;>(replace e:=hd.symm.trans e;rcases e with⟨⟩)) h1) n7 hn hd (hr.dE ha hs)
 case ba h1 n7 hd=>exact .ba (hs _ _ (fun q=>by subst q;rw[rZ]at h1;obtain rfl:=Z9 h1;rcases ho with⟨_,_,e⟩|⟨_,e⟩<;>(replace e:=hd.symm.trans e;rcases e with⟨⟩)) h1) n7 hd
set_option tactic.hygienic true in
theorem mA (e:aN env sc)(i:In C vol env vars s)(f:oJ C s.heap vol env sc)(hb:bL sc x sl vars=some vars')(r:ju s.heap vol env.locals v sl){Q:Unit->Shared->Prop}(hQ:∀s',gy C (FW env sc) s s'->In C vol env vars' s'->oJ C s'.heap vol env sc->(∀y w,y≠x->eR s.heap env y w->eR s'.heap env y w)->eR s'.heap env x v->Q () s'):aK (model C.prog C.w) A (bindName env x v) Q E s:=by
 revert e i f hb r hQ;refine pn (b8 (b8 (b8 (b8 sA zv) (b8 V3 vm)) inferInstance) inferInstance) ?_ s C sl A env x vol v sc vars Q E vars';generalize jF _ _=tt;dsimp only[Bu];generalize tt.1.1.1.1=s,tt.1.1.1.2=C,tt.1.1.2.1=sl,tt.1.1.2.2=A,tt.1.2.1.1=env,tt.1.2.1.2=x,tt.1.2.2=vol,tt.2.1.1.1=v,tt.2.1.1.2=sc,tt.2.1.2=vars,tt.2.2.1.1=Q,tt.2.2.1.2=E,tt.2.2.2=vars';intro e i f hb r hQ;delta bL at hb;split at hb;case isFalse=>exact aa hb
 rename_i hx;obtain rfl:=Z9 hb;refine bg hx fun hk Va hd2=>?_;refine uE ?_;have N6:∀(a:Addr)(oa:Obj)(h':Heap)(t:Nat),s.heap.get? a=some oa->NF oa->FW env sc a->Heap.SameBut a s.heap h'->(∃o,h'.get? a=some o)->(∀y w,y≠x->eR s.heap env y w->eR h' env y w)->eR h' env x v->oJ C h' vol env sc->((∃w,s.heap.IsCell a w)->∃w,h'.IsCell a w)->(C.fr a->fI h' a)->Q () {s with heap:=h',toks:=t}:=by
  intro a oa h' t rZ PM Ti hs hex Fd JS Tn TB Ir
  have va:=f.BG a Ti
  have sr:∀{w:Value}{Nl:Slot},ju s.heap vol env.locals w Nl->ju h' vol env.locals w Nl:=by
   intro w Nl q;rcases Nl with⟨⟩;case val d=>exact Rep.dE va hs.extBut q
   case own d=>exact⟨Rep.odd rZ PM hs.extBut q.1 va,q.2⟩
  have xw:gy C (FW env sc) s {s with heap:=h',toks:=t}:=gy.same hs.extBut Ti (f.dv i.bs a Ti) Ir (fun o' vs y t e1 e2=>by replace e1:=rZ.symm.trans e1;obtain rfl:=Z9 e1;exact(PM.EH vs e2).elim)
  have Uc:∀y c,env.cells.lookup y=some c->∃w,h'.IsCell c w:=fun y c hc=>by
   refine aJ (i.cells y c hc) fun w hw=>?_;by_cases q:c=a
   ·cases q;exact TB ⟨w,hw⟩
   ·exact⟨w,hw.sameBut hs q⟩
  refine hQ _ xw ⟨xw.bs i.bs f.new,i.vo.same hs hex,fun y Nl hy=>?_,Uc⟩ Tn Fd JS
  simp only[ZS]at hy
  cases Q8:y==x with
  |true=>simp only[Q8]at hy;obtain rfl:=Z9 hy;refine xR (beq_iff_eq.mp Q8) ?_;exact⟨v,JS,sr r⟩
  |false=>simp only[Q8]at hy;refine ax (i.lo y Nl hy) fun w hw hr=>?_;exact⟨w,Fd y w (by intro q;cases q;simp at Q8) hw,sr hr⟩
 refine Z4 hk (fun hk=>?_) fun hk=>?_
 ·refine aJ f.ns fun m hm=>?_;have zV:=e.loc x hk;refine ai <|wpAny_storeName_local zV hm (fun h' hn hs=>?_) (by refine xR e.kind ?_;rfl);refine sd (id hm) fun oa es ep rZ zX YF=>?_;refine N6 env.locals oa h' _ rZ (.inl ⟨_,_,zX⟩) (.inl rfl) hs (let⟨o,_,_,ho,_⟩:=hn;⟨o,ho⟩) (fun y w hy hw=>?_) ⟨Va,hd2,.inl ⟨zV,_,hn,by simp⟩⟩ ⟨⟨_,hn⟩,f.vl,f.fl,fun y c h1 h2=>?_⟩ (fun⟨w,o,q3,q4⟩=>by replace q3:=rZ.symm.trans q3;obtain rfl:=Z9 q3;replace q4:=zX.symm.trans q4;rcases q4 with⟨⟩) (fun z=>let⟨o,es,ep,ho,hd,_⟩:=hn;⟨o,es,ep,ho,hd⟩)
  ·refine bg hw fun a1 a2 a3=>?_;refine⟨a1,a2,?_⟩;refine Z4 a3 (fun y0=>?_) fun y1=>?_
   ·obtain⟨b1,m2,b2,b3⟩:=y0;have:=Ns.unique hm b2;cases this;exact .inl ⟨b1,_,hn,by refine xR (ZX hy) ?_;exact b3⟩
   ·obtain⟨b1,c,b2,o,b3,b4⟩:=y1;refine .inr ⟨b1,c,b2,o,(hs.2 c fun q=>?_).trans b3,b4⟩;cases q;replace b3:=rZ.symm.trans b3;obtain rfl:=Z9 b3;replace b4:=zX.symm.trans b4;rcases b4 with⟨⟩
  ·obtain⟨q1,q2,w,o,q3,q4⟩:=f.cell y c h1 h2;refine⟨q1,q2,w,o,(hs.2 c fun q=>?_).trans q3,q4⟩;cases q;replace q3:=rZ.symm.trans q3;obtain rfl:=Z9 q3;replace q4:=zX.symm.trans q4;rcases q4 with⟨⟩
 ·have Mg:=e.Ud x hk;refine aJ (e.cells x (.inl hk)) fun c hc=>?_;refine ZU fun hG=>?_;obtain⟨vc,fc,VF,JP⟩:=f.cell x c hk hc;refine hG ?_;refine ai <|wpAny_storeName_cell e.kind Mg hc JP fun h' hv hs=>?_;refine ax (id JP) fun oa rZ zX=>?_;have ht:({s with heap:=h'}:Shared)={s with heap:=h',toks:=s.toks}:=rfl;refine xR ht ?_;refine N6 c oa h' _ rZ (.inr ⟨_,zX⟩) (.inr ⟨x,hk,hc⟩) hs (let⟨o,ho,_⟩:=hv;⟨o,ho⟩) (fun y w hy hw=>?_) ⟨Va,hd2,.inr ⟨.inl Mg,c,hc,hv⟩⟩ ⟨?_,f.vl,f.fl,fun y c' h1 h2=>?_⟩ (fun z=>⟨_,hv⟩) (fun q=>(i.bs.dF rZ (by refine xR zX ?_;nofun) q).elim)
  ·refine bg hw fun a1 a2 a3=>?_;refine⟨a1,a2,?_⟩;refine Z4 a3 (fun y0=>?_) fun y2=>?_
   ·obtain⟨b1,m2,y1,b5⟩:=y0;refine sd y1 fun o es ep b2 b3 b4=>?_;refine .inl ⟨b1,m2,⟨o,es,ep,(hs.2 _ fun q=>?_).trans b2,b3,b4⟩,b5⟩;simp only[q,rZ]at b2;obtain rfl:=Z9 b2;replace b3:=zX.symm.trans b3;rcases b3 with⟨⟩
   ·obtain⟨b1,c',b2,o,b3,b4⟩:=y2;refine .inr ⟨b1,c',b2,o,(hs.2 c' fun q=>?_).trans b3,b4⟩;cases q;exact hy (e.inj y x _ b2 hc)
  ·refine jI f.ns fun m o es ep b2 b3 b4=>?_;refine⟨m,o,es,ep,(hs.2 _ fun q=>?_).trans b2,b3,b4⟩;simp only[q,rZ]at b2;obtain rfl:=Z9 b2;replace b3:=zX.symm.trans b3;rcases b3 with⟨⟩
  ·obtain⟨q1,q2,w,o,q3,q4⟩:=f.cell y c' h1 h2;by_cases q:c'=c
   ·cases q;exact⟨q1,q2,_,hv⟩
   ·exact⟨q1,q2,w,o,(hs.2 c' q).trans q3,q4⟩
theorem IX:∀{ds:List Dat}{s:Shared},It s.heap vol W I ds->∀{Q:List Value->Shared->Prop},(∀vs h' tk,aH h' vol vs ds->It h' vol W I []->Heap.SameBut I s.heap h'->Q vs {s with heap:=h',toks:=tk})->aK (model C.prog C.w) A (draw (.ref I) ds.length) Q E s:=by
 intro ds;induction ds with
 |nil=>intro s x Q hQ;exact ah (hQ [] s.heap s.toks .nil x (.refl I _))
 |cons d ds ih=>intro s x Q hQ;show aK _ A (pyNext (.ref I)>>=fun r=>match r with|none=>pure []|some v=>do return v::(<-holding [v] (draw (.ref I) ds.length))) Q E s;refine ab (x.next fun v h' tk r x' hs=>?_);refine eD x'.gX fun oI kO pE y=>?_;refine ab (ar (ih (s:={s with heap:=h',toks:=tk}) x' fun vs h2 VK rs x2 GY=>ah (hQ _ h2 VK (.cons (r.extBut kO pE GY.extBut) rs) x2 (hs.trans GY))))
theorem kJ (ho:s.heap.get? a=some o)(hc:o.cls=.type T):s.TypeIs (.ref a) T:=⟨o,ho,hc⟩
theorem fF {v:Value}{T id:String}(hT:s.TypeIs v T)(hl:typeLookup (.type T) "__iter__"=pure (some (.builtin id))){Q:Bool->Shared->Prop}(h:Q false s):aK (model C.prog C.w) A (notIterableAtAll v) Q E s:=by unfold notIterableAtAll;refine ab (ai <|wpAny_specialOf hT hl ?_);exact ah h
theorem qc (hd:d=.list ds\/d=.tuple ds)(hA:A.handled=none)(r:Rep s.heap vol v d){Q:List Value->Shared->Prop}(hQ:∀vs h' tk,aH h' vol vs ds->(∀b o,s.heap.get? b=some o->h'.get? b=some o)->Q vs {s with heap:=h',toks:=tk}):aK (model C.prog C.w) A (unpackItems v ds.length none) Q E s:=by
 revert d hd hA r hQ;refine no_implicit_lambda% (Nj (b8 (b8 (b8 sA zv) (b8 vm inferInstance)) inferInstance) ?_ s C A ds vol E v Q);generalize jF _ _=tt;dsimp only[K8];generalize tt.1.1.1=s,tt.1.1.2=C,tt.1.2.1=A,tt.1.2.2=ds,tt.2.1.1=vol,tt.2.1.2=E,tt.2.2.1=v,tt.2.2.2=Q;intro d hd hA r hQ;unfold unpackItems;have hit:bb d=some ds:=by rcases hd with rfl|rfl<;>rfl
 have WN:∀{Q':Bool->Shared->Prop},Q' false s->aK (model C.prog C.w) A (notIterableAtAll v) Q' E s:=by
  intro Q' h;refine Z4 hd (fun y0=>?_) fun y1=>?_
  ·obtain rfl:=y0;cases r with|list hv ho hc hn hd hr=>exact fF (kJ ho hc) slot_list_iter.lookup h
  ·obtain rfl:=y1;cases r with|tuple hv ho hc hd hr=>exact fF (kJ ho hc) F.slot_tuple_iter.lookup h
 refine ab (WN ?_);dsimp only[Bool.false_eq_true,if_false];refine ab (ar (pS (W:=fun y=>False) (.rep r) hit (fun y h=>h.elim) (fun y y h=>h) fun I h' hI hk x=>?_));refine eD x.gX fun oI kO pE y=>?_;refine ab (ar (IX (s:={s with heap:=h'}) x fun vs h2 tk rs x2 hs=>?_));refine xR (ZX (by rw[rs.length];exact bC 0x31 rfl)) ?_;refine eD x2.gX fun Yz SR TG y=>?_;refine ab (ar (x2.done (s:={s with heap:=h2,toks:=tk}) hA fun h3 he=>?_));refine ah (hQ vs h3 tk (rs.extBut SR TG he) fun b o e=>?_);have hb:b≠I:=fun q=>by cases q;replace e:=hI.symm.trans e;exact aa e
 exact he b o hb ((hs.2 b hb).trans (hk b o e))
set_option tactic.hygienic true in
theorem cR (hb:gN sc ts ds vars=some vars'):(ts=[]/\ds=[]/\vars'=vars)\/∃x p Dq d jy b9,ts=.Name x p::Dq/\ds=d::jy/\bL sc x (.val d) vars=some b9/\gN sc Dq jy b9=some vars':=by
 rcases ts with⟨⟩;case nil=>cases ds with
  |nil=>exact .inl ⟨rfl,rfl,(Z9 hb).symm⟩|cons d ds=>exact aa hb
 case cons t ts=>cases ds with
  |nil=>exact aa hb|cons d ds=>exact ao (x:=asName t) hb fun x h1 hb=>ao (x:=bL sc x (.val d) vars) hb fun b9 h2 hb=>(fA h1).elim fun p e=>.inr ⟨x,p,ts,d,ds,b9,e▸rfl,rfl,h2,hb⟩
set_option tactic.hygienic true in
theorem yF (e:aN env sc):∀(k:Nat){ts:List Expr}{ds:List Dat}{vs:List Value}{vars:az}{s:Shared},ts.length=k->In C vol env vars s->oJ C s.heap vol env sc->gN sc ts ds vars=some vars'->aH s.heap vol vs ds->∀{Q:Unit->Shared->Prop},(∀s',gy C (FW env sc) s s'->In C vol env vars' s'->oJ C s'.heap vol env sc->(∀y w,(∀t∈ts,∀x p,t=.Name x p->y≠x)->eR s.heap env y w->eR s'.heap env y w)->Q () s')->aK (model C.prog C.w) A (assignInOrder ((assignEach ts env).map (·.2)) vs) Q E s:=by
 intro k;induction k with
 |zero=>
  intro ts ds vs vars s hk i f hb rs Q hQ;refine Z4 (cR hb) (fun y0=>?_) fun y1=>?_
  ·refine bg y0 ?_;clear y0;rintro(rfl) (rfl) (rfl);rcases rs with⟨⟩;exact ah (hQ s (.refl s) i f fun z z z h=>h)
  ·refine wz y1 ?_;clear y1;rintro x p Dq d jy b9 (rfl) _;(rcases hk with⟨⟩)
 |succ k ih=>
  intro ts ds vs vars s hk i f hb rs Q hQ;refine Z4 (cR hb) (fun y0=>?_) fun y1=>?_
  ·refine bg y0 ?_;clear y0;rintro(rfl) (rfl) (rfl);rcases hk with⟨⟩
  ·refine wz y1 ?_;clear y1;rintro x p Dq d jy b9 (rfl) y2;(refine bg y2 ?_;clear y2;rintro(rfl) Dx Iq);cases rs with|cons r rs=>rename_i v vs;show aK _ A (holding vs (assign (.Name x p) env v)>>=fun z=>assignInOrder ((assignEach Dq env).map (·.2)) vs) Q E s;refine ab (ar ?_);refine ab (aq (mA e i f Dx r fun s1 x1 i1 f1 g1 z=>?_));refine ih (by simpa using hk) i1 f1 Iq (rs.mono fun b o e' n=>⟨x1.keep b o e' (fun t=>n (i.vo.tabs b t)) (fun t=>n (i.vo.gS b t)) fun w=>n (f.BG b w),n⟩) fun s2 x2 i2 f2 g2=>hQ s2 (x1.trans x2) i2 f2 fun y w hy hw=>g2 y w (fun t ht=>hy t (Z7 _ ht)) (g1 y w (hy _ Z6 x p rfl) hw)
theorem oz (env:Env):∀(k:Nat){ts:List Expr}{ds:List Dat}{vars:az},ts.length=k->gN sc ts ds vars=some vars'->(assignEach ts env).length=ds.length/\(assignEach ts env).findIdx? (·.1)=none:=by
 intro k;induction k with
 |zero=>
  intro ts ds vars hk hb;refine Z4 (cR hb) (fun y0=>?_) fun y1=>?_
  ·refine bg y0 ?_;clear y0;rintro(rfl) (rfl) (rfl);exact⟨rfl,rfl⟩
  ·refine wz y1 ?_;clear y1;rintro x p Dq d jy b9 (rfl) _;(rcases hk with⟨⟩)
 |succ k ih=>
  intro ts ds vars hk hb;refine Z4 (cR hb) (fun y0=>?_) fun y1=>?_
  ·refine bg y0 ?_;clear y0;rintro(rfl) (rfl) (rfl);rcases hk with⟨⟩
  ·refine wz y1 ?_;clear y1;rintro x p Dq d jy b9 (rfl) y2;(refine bg y2 ?_;clear y2;rintro(rfl) Dx Iq);have:=ih (by simpa using hk) Iq;refine⟨congrArg (·+1) this.1,?_⟩;show List.findIdx? _ ((false,assign (.Name x p) env)::assignEach Dq env)=none;refine xR List.findIdx?_cons ?_;simp[this.2]
theorem kE (hb:bp sc t d vars=some vars'):(∃x p,t=.Name x p/\bL sc x (.val d) vars=some vars')\/∃ts k p ds,t=.Tuple ts k p/\(d=.list ds\/d=.tuple ds)/\gN sc ts ds vars=some vars':=by unfold bp at hb;cases hn:asName t with|some x=>rw[hn]at hb;refine aJ (fA hn) fun p e=>?_;exact .inl ⟨x,p,e,hb⟩|none=>rw[hn]at hb;exact ao hb fun ts h1 hb=>ao hb fun ds h2 hb=>(Di h1).elim fun k e=>e.elim fun p e=>.inr ⟨ts,k,p,ds,e,zN h2,hb⟩
noncomputable def NotIn (y:Str):Expr->Prop| .Name x _=>y≠x| .Tuple ts _ _=>∀t∈ts,∀x p,t=.Name x p->y≠x|_=>True
theorem uu (hA:A.handled=none)(e:aN env sc)(i:In C vol env vars s)(f:oJ C s.heap vol env sc)(hb:bp sc t d vars=some vars')(r:Rep s.heap vol v d){Q:Unit->Shared->Prop}(hQ:∀s',gy C (FW env sc) s s'->In C vol env vars' s'->oJ C s'.heap vol env sc->(∀y w,NotIn y t->eR s.heap env y w->eR s'.heap env y w)->Q () s'):aK (model C.prog C.w) A (assign t env v) Q E s:=by
 refine Z4 (kE hb) (fun y0=>?_) fun y1=>?_
 ·refine eZ y0 ?_;clear y0;rintro x p (rfl) hb;show aK _ A (standAt p>>=fun z=>bindName env x v) _ E s;exact ab (aq (mA e i f hb r fun s1 x1 i1 f1 g1 z=>hQ s1 x1 i1 f1 g1))
 ·refine jI y1 ?_;clear y1;rintro ts k p ds (rfl) hd hb;refine aL (oz env _ rfl hb) fun q1 q2=>?_;simp only[arm_assign_Tuple];refine ab (aq ?_);unfold unpack;refine xR q1 (xR q2 ?_);refine ab (ar (qc hd hA r fun vs h' tk rs hk=>?_));have x1:Ex C s {s with heap:=h',toks:=tk}:=.of_keep hk rfl rfl;exact yF e _ rfl (i.ex x1) (f.ex i.bs x1) hb rs fun s2 x2 i2 f2 g2=>hQ s2 (x1.KU.trans x2) i2 f2 fun y w hy hw=>g2 y w hy (hw.ex i.bs x1)
set_option tactic.hygienic true in
theorem It.letGo (x:It s.heap vol W I ds){Q:Unit->Shared->Prop}(hQ:Q () s):aK (model C.prog C.w) A (letOwnedTupleGo t (.ref I) v) Q E s:=by
 have key:∀(o:Obj)(T:String)(vs:Array Value),s.heap.get? I=some o->o.cls=.type T->o.data=.fields vs->(["enumerate","zip","dict_itemiterator","dict_reverseitemiterator","odict_iterator","itertools.zip_longest","itertools.pairwise"].contains T)=false->aK (model C.prog C.w) A (letOwnedTupleGo t (.ref I) v) Q E s:=by
  intro o T vs ho hc hd hn
  have k2:aK (model C.prog C.w) A (letOwnedTupleGo (.List [] default) (.ref I) v) Q E s:=by
   rcases v with⟨⟩;case ref a=>refine ab (ai <|wpAny_load ho ?_);refine xR hc (xR hd ?_);dsimp only;exact hn▸ah hQ
   all_goals (exact ah hQ)
  rcases t with⟨⟩
  case Tuple a b c=>exact k2
  case List a b=>exact k2
  all_goals (exact ah hQ)
 cases x with|list hi=>refine eD hi fun o ho hc hd=>?_;exact key o _ _ ho hc hd (by decide)|tuple hi=>refine eD hi fun o ho hc hd=>?_;exact key o _ _ ho hc hd (by decide)|range hi=>exact key _ _ _ hi rfl rfl (by decide)|str hi=>refine eD hi fun o ho hc hd=>?_;exact key o _ _ ho hc hd (by decide)|bytes hi=>refine eD hi fun o ho hc hd=>?_;exact key o _ _ ho hc hd (by decide)
noncomputable def fy (elt:Expr)(gens:List Comprehension)(scope:Scope)(pos:Pos)(depth:Nat)(it acc:Value)(env:Env):Sem PySem.Fin:=match gens[depth+1]? with
 |some g'=>do
  let x <-eval g'.iter env;standAt g'.iter.pos;if(g'.is_async !=0)=true then do
   let x <-foldedIterable g'.iter x;let y <-holding [x] (if(g'.is_async !=0)=true then asyncIter x else pyIter x);let _ <-runOwn (.compStart (.ListComp elt gens scope pos) (depth+1) y acc env) env;again (.compLoop (.ListComp elt gens scope pos) depth it acc env)
  else do
   let x <-foldedSetIterable g'.iter env x;let y <-holding [x] (if(g'.is_async !=0)=true then asyncIter x else pyIter x);let _ <-runOwn (.compStart (.ListComp elt gens scope pos) (depth+1) y acc env) env;again (.compLoop (.ListComp elt gens scope pos) depth it acc env)
 |none=>(eval elt env>>=fun y=>call (.builtin "list.append") [acc,y]>>=fun z=>pure ())>>=fun z=>again (.compLoop (.ListComp elt gens scope pos) depth it acc env)
set_option tactic.hygienic true in
theorem pd (elt:Expr)(gens:List Comprehension)(scope:Scope)(pos:Pos)(depth:Nat)(t itE:Expr)(ifs:List Expr)(it acc:Value)(env:Env)(hg:gens[depth]?=some ⟨t,itE,ifs,0⟩):compTurn (.ListComp elt gens scope pos) depth it acc env=(standAt itE.pos>>=fun x=>pyNext it>>=fun r=>match r with
   |none=>pure (.done .next)|some v=>letOwnedTupleGo t it v>>=fun x=>assign t env v>>=fun x=>(forIn ifs true fun c r=>if r=true then do let ok <-isTrue c env (eval c env);pure (ForInStep.yield ok)else pure (ForInStep.yield r))>>=fun ok=>if ok=true then fy elt gens scope pos depth it acc env else again (.compLoop (.ListComp elt gens scope pos) depth it acc env)):=by
 delta compTurn
 simp only[hg,bne_self_eq_false,ZG,if_false]
 delta fy
 refine congrArg _ (funext fun x=>congrArg _ (funext fun r=>?_))
 rcases r with⟨⟩
 case none=>rfl
 case some v=>
  refine congrArg (Sem.bind _) (funext fun x=>congrArg (Sem.bind _) (funext fun x=>congrArg (Sem.bind _) (funext fun ok=>?_)));rcases ok with⟨⟩;case false=>rfl
  case true=>cases gens[depth+1]? with|none=>rfl|some g'=>rfl
def LstAt (h:Heap)(D:Addr)(vs:List Value):Prop:=∃o n,h.get? D=some o/\o.cls=.type "list"/\o.dict=none/\o.data=.seq vs.toArray n
theorem LstAt.isList (x:LstAt h D vs):h.IsList D vs.toArray:=let⟨o,n,ho,hc,_,hd⟩:=x;⟨o,ho,hc,n,hd⟩
theorem LstAt.keep (x:LstAt h D vs)(hk:∀o,h.get? D=some o->h'.get? D=some o):LstAt h' D vs:=let⟨o,n,ho,r⟩:=x;⟨o,n,hk o ho,r⟩
theorem bx (h:k<=aM):k<=sizeLine:=ZK h (by decide)
theorem DN (hl:LstAt s.heap D vs)(hf:f vs.toArray=us.toArray)(Wm:vs.length<=aM)(hsz:us.length<=aM){α:Type}{k:Unit->Sem α}{Q:α->Shared->Prop}(hQ:∀h',LstAt h' D us->Heap.SameBut D s.heap h'->wpAny (model C.prog C.w) A (k ()) Q E {s with heap:=h'}):wpAny (model C.prog C.w) A (updateSeq D f>>=k) Q E s:=by
 refine iZ hl fun o n ho hc hn hd=>?_;refine aJ (Obj.data_mapSeq hd f) fun n' cB=>?_;refine Z8 (wpAny_updateSeq ho hd (hQ _ ?_ (Heap.SameBut.update ..)) (hz:=by refine xR ZT ?_;exact bx Wm) (_hz':=by refine xR hf (xR ZT ?_);have:=bx hsz;exact aR 0x91b011012 rfl this))
 ·refine⟨_,n',Heap.get?_update_self _ ho (Obj.isFreed_of_seq cB),(Obj.cls_mapSeq ..).trans hc,?_,by exact xR cB (xR hf rfl)⟩;obtain⟨c,d,dt,sl⟩:=o;dsimp only at hn hd;subst hn hd;rfl
theorem oC {x:Value}(hl:LstAt s.heap D vs)(hsz:vs.length+1<=aM)(hQ:∀h',LstAt h' D (vs++[x])->Heap.SameBut D s.heap h'->Q .none {s with heap:=h'}):aK (model C.prog C.w) A (PySem.call (.builtin "list.append") [.ref D,x]) Q E s:=by refine ai <|wpAny_call_entry slot_list_append hl.isList.typeIs entry_list_append ?_ (args_list_append _ _);exact DN hl (us:=vs++[x]) (by simp) (aR 0x101190b12 rfl hsz) (by simpa using hsz) fun h' h1 h2=>Z0 ⟨.none,rfl,hQ h' h1 h2⟩
def CW (D:Addr)(env:Env)(sc:Scope)(a:Addr):Prop:=a=D\/FW env sc a
structure nA (C:Cx) (vol:Addr->Prop) (env:Env) (sc:Scope) (vars:az) (D:Addr) (s:Shared) (vs:List Value) (acc:List Dat):Prop where
 bV:In C vol env vars s
 ki:oJ C s.heap vol env sc
 at_:LstAt s.heap D vs
 xc:aH s.heap vol vs acc
structure oK (C:Cx) (vol:Addr->Prop) (env:Env) (sc:Scope) (D:Addr) (A:Around):Prop where
 Rx:aN env sc
 vD:vol D
 fD:C.h₀.get? D=none
 dL:D+1=env.locals
 hA:A.handled=none
theorem oK.cw (x:oK C vol env sc D A)(f:oJ C s.heap vol env sc)(a:Addr)(h:CW D env sc a):vol a:=by
 refine Z4 h (fun y0=>?_) fun h=>?_
 ·obtain rfl:=y0;exact x.vD
 ·exact f.BG a h
theorem oK.new (x:oK C vol env sc D A)(f:oJ C s.heap vol env sc)(a:Addr)(h:CW D env sc a):C.h₀.get? a=none:=by
 refine Z4 h (fun y0=>?_) fun h=>?_
 ·obtain rfl:=y0;exact x.fD
 ·exact f.new a h
theorem xG {α β:Type}{f:α->Option (List β)}{a:α}{as:List α}{out:List β}(h:cG f (a::as)=some out):∃b c,f a=some b/\cG f as=some c/\out=b++c:=ao h fun b h1 h=>ao h fun c h2 h=>⟨b,c,h1,h2,(Z9 h).symm⟩
theorem aH.Vp (V:aW C vol s)(hw:∀a,W a->vol a)(x:gy C W s s')(r:aH s.heap vol vs ds):aH s'.heap vol vs ds:=r.mono fun b o e n=>⟨x.keep b o e (fun t=>n (V.tabs b t)) (fun t=>n (V.gS b t)) fun w=>n (hw b w),n⟩
set_option tactic.hygienic true in
theorem In.iter {t:Nat}(i:In C vol env vars s)(kO:s.heap.get? I=some oI)(pE:¬gQ oI.cls)(Dw:∀es n,oI.data≠.dict es n)(n6:∀c,oI.data≠.cell c)(hs:Heap.ExtBut I s.heap h')(hv:¬vol I)(Jg:Bs C {s with heap:=h',toks:=t}):In C vol env vars {s with heap:=h',toks:=t}:=by
 refine⟨Jg,⟨i.vo.tabs,i.vo.gS,fun a ha=>?_⟩,fun y sl hy=>?_,fun y c hc=>?_⟩;rotate_right
 ·refine eZ (i.cells y c hc) fun w o b3 b4=>?_;exact⟨w,o,hs _ _ (fun q=>by simp only[q,kO]at b3;obtain rfl:=Z9 b3;exact n6 _ b4) b3,b4⟩
 ·refine aJ (i.vo.there a ha) fun o e=>?_;exact⟨o,hs a o (fun q=>hv (q▸ha)) e⟩
 ·refine ax (i.lo y sl hy) fun w hw hr=>?_;refine⟨w,hw.keep (fun o e hd=>.of (hs _ _ (ij (P:=fun o=>∃es n,o.data=.dict es n) e kO hd fun⟨_,_,q⟩=>Dw _ _ q) e)) fun b o c e hd=>hs _ _ (ij (P:=fun o=>∃c,o.data=.cell c) e kO ⟨c,hd⟩ fun⟨_,q⟩=>n6 _ q) e,?_⟩
  ·have ro:∀{d:Dat},aT s.heap vol w d->aT h' vol w d:=by
    intro d r;rcases r with⟨⟩;case rep r=>exact .rep (r.extBut kO pE hs)
    case list h1 hc hn hd qY=>exact .list (hs _ _ (fun q=>by simp only[q,kO]at h1;obtain rfl:=Z9 h1;exact pE (.inr (.inl hc))) h1) hc hn hd (qY.extBut kO pE hs)
    case ba h1 hc hd=>exact .ba (hs _ _ (fun q=>by replace h1:=kO▸q▸h1;obtain rfl:=Z9 h1;exact pE (.inr (.inr (.inr hc)))) h1) hc hd
   rcases sl with⟨⟩;case val d=>exact Rep.extBut kO pE hs hr
   case own d=>exact⟨ro hr.1,hr.2⟩
theorem pe {elt:Expr}{gens:List Comprehension}{pos:Pos}{depth:Nat}{itE:Expr}{ifs:List Expr}{D I:Addr}(hg:gens[depth]?=some ⟨t,itE,ifs,0⟩)(fx:oK C vol env sc D A)(f:Dat->Option (List Dat)){uQ:Scope}(hI:C.h₀.get? I=none)(Fu:¬C.T I)(zZ:¬vol I)(step:∀(d:Dat)(out acc:List Dat)(vs:List Value)(v:Value)(s:Shared),nA C vol env sc vars D s vs acc->f d=some out->acc.length+out.length<=aM->Rep s.heap vol v d->∀(Q:PySem.Fin->Shared->Prop)(E:Value->Shared->Prop),(∀s' pO,gy C (CW D env sc) s s'->nA C vol env sc vars D s' pO (acc++out)->Q (.again (.compLoop (.ListComp elt gens uQ pos) depth (.ref I) (.ref D) env)) s')->aK (model C.prog C.w) A (assign t env v>>=fun y=>(forIn ifs true fun c r=>if r=true then do let ok <-isTrue c env (eval c env);pure (ForInStep.yield ok)else pure (ForInStep.yield r))>>=fun ok=>if ok=true then fy elt gens uQ pos depth (.ref I) (.ref D) env else again (.compLoop (.ListComp elt gens uQ pos) depth (.ref I) (.ref D) env)) Q E s){R:Result->Shared->Prop}:∀(ds out acc:List Dat)(vs:List Value)(s:Shared),It s.heap vol (fun a=>CW D env sc a\/C.T a\/C.fr a) I ds->nA C vol env sc vars D s vs acc->cG f ds=some out->acc.length+out.length<=aM->(∀s' pO,gy C (fun a=>CW D env sc a\/a=I) s s'->nA C vol env sc vars D s' pO (acc++out)->R (.ok .next) s')->cb (model C.prog C.w) A (.compLoop (.ListComp elt gens uQ pos) depth (.ref I) (.ref D) env) R s:=by
 revert t itE ifs hg fx f hI Fu zZ step R;refine no_implicit_lambda% (pn (b8 (b8 (b8 (b8 zv vm) inferInstance) inferInstance) inferInstance) ?_ C A env D sc vol I vars elt gens uQ pos depth);generalize jF _ _=tt;dsimp only[Bu];generalize tt.1.1.1.1=C,tt.1.1.1.2=A,tt.1.1.2.1=env,tt.1.1.2.2=D,tt.1.2.1.1=sc,tt.1.2.1.2=vol,tt.1.2.2=I,tt.2.1.1.1=vars,tt.2.1.1.2=elt,tt.2.1.2=gens,tt.2.2.1.1=uQ,tt.2.2.1.2=pos,tt.2.2.2=depth;intro t itE ifs hg fx f hI Fu zZ step R;intro ds;induction ds with
 |nil=>
  intro out acc vs s x st hm hl hR;obtain rfl:=Z9 hm;refine uB x.gX fun oI kO pE JU Dw n6=>?_;refine aS ?_ rfl;show aK _ A ((compTurn (.ListComp elt gens uQ pos) depth (.ref I) (.ref D) env).onRaise (fun x=>do noteFrame x env;theTreesLotGoes x)) _ _ s;refine fe ?_;refine xR (pd _ _ _ _ _ _ _ _ _ _ _ hg) ?_;refine ab (aq (ab (x.done fx.hA fun h' he=>ah ?_)));have ht:({s with heap:=h'}:Shared)={s with heap:=h',toks:=s.toks}:=rfl;have xw:gy C (fun a=>CW D env sc a\/a=I) s {s with heap:=h',toks:=s.toks}:=gy.same he (.inr rfl) Fu (fun q=>(zZ (st.bV.vo.gS _ q)).elim) x.AX;simp only[ht];refine hR _ vs xw ?_;refine xR (Zz _) ?_;have nD:D≠I:=fun q=>by refine iZ st.at_ fun o n ho hc y hd=>?_;rw[q,kO]at ho;obtain rfl:=Z9 ho;exact JU _ _ hd
  have Jg:Bs C {s with heap:=h',toks:=s.toks}:=xw.bs st.bV.bs fun a q=>by
   refine Z4 q (fun q=>?_) fun y0=>?_
   ·exact fx.new st.ki a q
   ·obtain rfl:=y0;exact hI
  exact⟨st.bV.iter kO pE Dw n6 he zZ Jg,st.ki.keep fun b o e w=>.of (he b o (fun q=>zZ (q▸st.ki.BG b w)) e),st.at_.keep fun o e=>he _ _ nD e,st.xc.extBut kO pE he⟩
 |cons d ds ih=>
  intro out acc vs s x st hm hl hR;refine eB (xG hm) ?_;rintro o1 o2 zU SX (rfl);refine uB x.gX fun oI kO pE JU Dw n6=>?_;have nD:D≠I:=fun q=>by refine iZ st.at_ fun o n ho hc y hd=>?_;rw[q,kO]at ho;obtain rfl:=Z9 ho;exact JU _ _ hd
  refine aS ?_ rfl;show aK _ A ((compTurn (.ListComp elt gens uQ pos) depth (.ref I) (.ref D) env).onRaise (fun x=>do noteFrame x env;theTreesLotGoes x)) _ _ s;refine fe ?_;refine xR (pd _ _ _ _ _ _ _ _ _ _ _ hg) ?_;refine ab (aq (ab (x.next fun v h1 tk r x1 hs1=>?_)));have Uo:gy C (fun a=>CW D env sc a\/a=I) s {s with heap:=h1,toks:=tk}:=gy.same hs1.extBut (.inr rfl) Fu (fun q=>(zZ (st.bV.vo.gS _ q)).elim) x.AX;have yQ:Bs C {s with heap:=h1,toks:=tk}:=Uo.bs st.bV.bs fun a q=>by
   refine Z4 q (fun q=>?_) fun y0=>?_
   ·exact fx.new st.ki a q
   ·obtain rfl:=y0;exact hI
  have Jz:nA C vol env sc vars D {s with heap:=h1,toks:=tk} vs acc:=⟨st.bV.iter kO pE Dw n6 hs1.extBut zZ yQ,st.ki.keep fun b o e w=>.of (hs1.extBut b o (fun q=>zZ (q▸st.ki.BG b w)) e),st.at_.keep fun o e=>hs1.extBut _ _ nD e,st.xc.extBut kO pE hs1.extBut⟩;refine ab (x1.letGo (s:={s with heap:=h1,toks:=tk}) ?_);rw[ZN]at hl;refine step d o1 acc vs v _ Jz zU (cZ 0x310b1321b0b12 rfl hl) r _ _ fun s2 VH RL KX=>?_;have x2:It s2.heap vol (fun a=>CW D env sc a\/C.T a\/C.fr a) I ds:=x1.mono (fun b o e w=>RL.keep b o e (fun t=>w (.inr (.inl t))) (fun t=>w (.inr (.inr t))) fun q=>w (.inl q)) fun rs=>rs.Vp Jz.bV.vo (fx.cw Jz.ki) RL;refine⟨rfl,ih o2 (acc++o1) VH s2 x2 KX SX (by refine xR ZN ?_;exact cZ 0x3210bb1321b0b12 rfl hl) fun s3 VG VD jB=>?_⟩;refine hR s3 VG ((Uo.trans (RL.mono fun a q=>.inl q)).trans VD) ?_;rw[<-List.append_assoc];exact jB
noncomputable def fR (env:Env):List (Str×NameKind)->List (Str×Addr)->List (Str×Addr)|[],acc=>acc|(x,k)::r,acc=>fR env r (if k== .free then(x,(env.cells.lookup x).getD 0)::acc else acc)
theorem Ak {k:NameKind}{r:List (Str×NameKind)}{acc:List (Str×Addr)}:fR env ((x,k)::r) acc=fR env r (if k== .free then(x,(env.cells.lookup x).getD 0)::acc else acc):=rfl
theorem lI (h:∀p∈bD.names,p.2=.free->∃c,env.cells.lookup p.1=some c):closureFor bD env=pure (fR env bD.names []):=by
 delta closureFor;generalize bD.names=l at *;have key:∀(l:List (Str×NameKind))(acc:List (Str×Addr)),(∀p∈l,p.2=.free->∃c,env.cells.lookup p.1=some c)->(forIn l acc fun(x:Str×NameKind)(r:List (Str×Addr))=>match x with
    |(name,kind)=>if(kind==NameKind.free)=true then do let y <-cellOf env name;pure (ForInStep.yield ((name,y)::r))else pure (ForInStep.yield r))=(pure (fR env l acc):Sem _):=by
  intro l
  induction l with
  |nil=>intro acc _;rfl
  |cons p l ih=>intro acc hp;obtain⟨x,k⟩:=p;rw[List.forIn_cons];have hr:∀p∈l,p.2=.free->∃c,env.cells.lookup p.1=some c:=fun p hm=>hp p (Z7 _ hm);cases hk:(k==NameKind.free)with|false=>rw[Ak];simp only[hk,ZG,if_false];exact ih acc hr|true=>refine aJ (hp (x,k) Z6 (by simpa using hk)) fun c hc=>?_;rw[Ak];simp only[hk,if_true];delta cellOf;refine xR hc ?_;exact ih _ hr
 have:=key l [] h;refine xR (show(do
  let mut cs:List (Str×Addr):=[];for (name,kind)in l do
   if(kind==NameKind.free)=true then cs:=(name,<-cellOf env name)::cs
  return cs:Sem _)=((forIn l ([]:List (Str×Addr)) fun(x:Str×NameKind)(r:List (Str×Addr))=>match x with
    |(name,kind)=>if(kind==NameKind.free)=true then do let y <-cellOf env name;pure (ForInStep.yield ((name,y)::r))else pure (ForInStep.yield r))>>=fun r=>pure r)from rfl) (xR this ?_)
 rfl
theorem iP:∀{l:List (Str×NameKind)}{acc:List (Str×Addr)},(∀p∈l,p.2=.free->∃c,env.cells.lookup p.1=some c)->∀{x:Str}{c:Addr},(x,c)∈fR env l acc->(x,c)∈acc\/env.cells.lookup x=some c
 |[],_,_,_,_,h=>.inl h
 |(y,k)::r,acc,hp,x,c,h=>by
  refine Z4 (iP (fun p hm=>hp p (Z7 _ hm)) h) (fun h=>?_) fun h=>?_
  ·split at h
   ·rename_i hk;refine Z4 (Zy h) (fun e=>?_) fun h=>?_
    ·rcases e with⟨⟩;refine aJ (hp (y,k) Z6 (by simpa using hk)) fun c hc=>?_;refine xR hc ?_;exact .inr rfl
    ·exact .inl h
   ·exact .inl h
  ·exact .inr h
theorem m9:∀{l:List (Str×NameKind)}{acc:List (Str×Addr)}{x:Str},((x,NameKind.free)∈l\/∃c,(x,c)∈acc)->∃c,(x,c)∈fR env l acc
 |[],_,_,h=>by
  refine Z4 h (fun h=>?_) fun h=>?_
  ·rcases h with⟨⟩
  ·exact h
 |(y,k)::r,acc,x,h=>by
  rw[Ak];refine m9 ?_;refine Z4 h (fun h=>?_) fun y0=>?_
  ·refine Z4 (Zy h) (fun e=>?_) fun h=>?_
   ·rcases e with⟨⟩;exact .inr ⟨(env.cells.lookup y).getD 0,by refine xR (Z1 (by decide)) ?_;exact Z6⟩
   ·exact .inl h
  ·refine aJ y0 fun c h=>?_;refine .inr ⟨c,?_⟩;split
   ·exact Z7 _ h
   ·exact h
theorem dB {α:Type}:∀{l:List (Str×α)}{x:Str}{c:α},(x,c)∈l->∃c',l.lookup x=some c':=by
 intro l;induction l with
 |nil=>intros;first|contradiction|(rename_i h;cases h)|(rename_i h _;cases h)|(rename_i h;exact nomatch h)
 |cons y0 r ih=>
  intro x c h;obtain⟨y,d⟩:=y0;rw[ZS];cases hb:x==y with
  |true=>exact⟨d,rfl⟩
  |false=>
   refine Z4 (Zy h) (fun e=>?_) fun h=>?_
   ·rcases e with⟨⟩;simp at hb
   ·exact ih h
theorem lK:∀{l:List (Str×NameKind)}{n:Nat}{acc:List (Str×Addr)}{x:Str}{c:Addr},(x,c)∈cellsFrom n l acc->(x,c)∈acc\/((x,NameKind.cell)∈l/\n<=c):=by
 intro l;induction l with
 |nil=>intro _ _ _ _ h;exact .inl h
 |cons y1 r ih=>
  intro n acc x c h;obtain⟨y,k⟩:=y1;unfold cellsFrom at h;split at h
  ·rename_i hk;refine Z4 (ih h) (fun h=>?_) fun y0=>?_
   ·refine Z4 (Zy h) (fun e=>?_) fun h=>?_
    ·rcases e with⟨⟩;exact .inr ⟨by rw[show k=.cell by simpa using hk];exact Z6,ZQ _⟩
    ·exact .inl h
   ·refine aL y0 fun h1 h2=>?_;exact .inr ⟨Z7 _ h1,by exact aR 0x101190b12 rfl h2⟩
  ·refine Z4 (ih h) (fun h=>?_) fun y0=>?_
   ·exact .inl h
   ·refine aL y0 fun h1 h2=>?_;exact .inr ⟨Z7 _ h1,h2⟩
theorem d8:∀{l:List (Str×NameKind)}{n:Nat}{acc:List (Str×Addr)}{x:Str},((x,NameKind.cell)∈l\/∃c,(x,c)∈acc)->∃c,(x,c)∈cellsFrom n l acc:=by
 intro l;induction l with
 |nil=>
  intro _ _ _ h;refine Z4 h (fun h=>?_) fun h=>?_
  ·rcases h with⟨⟩
  ·exact h
 |cons y1 r ih=>
  intro n acc x h;obtain⟨y,k⟩:=y1;unfold cellsFrom;split
  ·refine ih ?_;refine Z4 h (fun h=>?_) fun y0=>?_
   ·refine Z4 (Zy h) (fun e=>?_) fun h=>?_
    ·rcases e with⟨⟩;exact .inr ⟨n,Z6⟩
    ·exact .inl h
   ·refine aJ y0 fun c h=>?_;exact .inr ⟨c,Z7 _ h⟩
  ·rename_i hk;refine ih ?_;refine Z4 h (fun h=>?_) fun y0=>?_
   ·refine Z4 (Zy h) (fun e=>?_) fun h=>?_
    ·rcases e with⟨⟩;exact absurd rfl hk
    ·exact .inl h
   ·refine aJ y0 fun c h=>?_;exact .inr ⟨c,h⟩
theorem lL:∀{l:List (Str×NameKind)}{n:Nat}{acc:List (Str×Addr)},(∀x c,(x,c)∈acc->c<n)->(∀x y c,(x,c)∈acc->(y,c)∈acc->x=y)->∀{x y:Str}{c:Addr},(x,c)∈cellsFrom n l acc->(y,c)∈cellsFrom n l acc->x=y:=by
 intro l;induction l with
 |nil=>intro _ _ _ hi _ _ _ h1 h2;exact hi _ _ _ h1 h2
 |cons y0 r ih=>
  intro n acc pD hi x y c h1 h2;obtain⟨z,k⟩:=y0;unfold cellsFrom at h1 h2;split at h1
  ·rename_i hk;rw[Z1 hk]at h2;refine ih (n:=n+1) (acc:=(z,n)::acc) (fun a b hm=>?_) (fun a b d ha hb=>?_) h1 h2
   ·refine Z4 (Zy hm) (fun e=>?_) fun hm=>?_
    ·rcases e with⟨⟩;exact Nat.lt_succ_self _
    ·exact Nat.lt_succ_of_lt (pD a b hm)
   ·refine Z4 (Zy ha) (fun e=>?_) fun ha=>?_<;>refine Z4 (Zy hb) (fun e'=>?_) fun hb=>?_
    ·rcases e with⟨⟩;rcases e' with⟨⟩;rfl
    ·rcases e with⟨⟩;exact absurd (pD _ _ hb) (Nat.lt_irrefl _)
    ·rcases e' with⟨⟩;exact absurd (pD _ _ ha) (Nat.lt_irrefl _)
    ·exact hi _ _ _ ha hb
  ·rename_i hk;rw[ZX hk]at h2;exact ih pD hi h1 h2
theorem uY:∀{l:List (Str×NameKind)}{h:Heap}{acc:List (Str×Addr)}{x:Str}{c:Addr},(x,c)∈cellsFrom h.objs.size l acc->(x,c)∈acc\/(pushCells h l).IsCell c none:=by
 intro l;induction l with
 |nil=>intro _ _ _ _ h;exact .inl h
 |cons y0 r ih=>
  intro h acc x c hm;obtain⟨y,k⟩:=y0;unfold cellsFrom at hm;unfold pushCells;split at hm
  ·rename_i hk;rw[Z1 hk];have e:h.objs.size+1=(h.push {cls:=.type "cell",data:=.cell none}).objs.size:=(Heap.size_push ..).symm;rw[e]at hm;refine Z4 (ih hm) (fun hm=>?_) fun hm=>?_
   ·refine Z4 (Zy hm) (fun e'=>?_) fun hm=>?_
    ·rcases e' with⟨⟩;exact .inr ⟨_,pushCells_keeps _ _ _ _ (ZO _ rfl),rfl⟩
    ·exact .inl hm
   ·exact .inr hm
  ·rename_i hk;rw[ZX hk];exact ih hm
def rE (env:Env)(bD:Scope)(L:Addr):Env:={scope:=relabel bD env,locals:=L,globals:=env.globals,cells:=cellsFrom (L+1) bD.names (fR env bD.names []),qual:=env.qual,func:=none,code:=env.code,frame:=env.frame,builtins:=env.builtins}
theorem Ca {Q:Env->Shared->Prop}(hQ:Q {scope:=bD,locals:=s.heap.objs.size,globals:=env.globals,cells:=cellsFrom (s.heap.objs.size+1) bD.names cl,qual:=env.qual,func:=none,code:=env.code,frame:=env.frame,builtins:=env.builtins} {s with heap:=pushCells (s.heap.push {cls:=.type "dict",data:=.dict #[]}) bD.names}):aK (model C.prog C.w) A (newFunctionEnv bD env.globals cl [] env.qual none .none (some env)) Q E s:=by
 simp only[newFunctionEnv,Option.isSome_some,if_true]
 refine ab (ai <|wpAny_alloc ?_)
 refine ab (ai <|wpAny_layCells _ (fun name kind cells=>by cases Mg:kind==NameKind.cell<;>simp[Mg]) _ _ _ _ ?_)
 refine xR (show({s with heap:=s.heap.push {cls:=.type "dict",data:=.dict #[]}}:Shared).heap.objs.size=s.heap.objs.size+1 from Heap.size_push ..) ?_
 exact ab (ah (ah hQ))
theorem pB {f:Str->NameKind->NameKind}:∀{l:List (Str×NameKind)}{x:Str},(l.map fun p=>(p.1,f p.1 p.2)).lookup x=(l.lookup x).map (f x):=by
 intro l;induction l with
 |nil=>intro x;exact rfl
 |cons y0 r ih=>intro x;obtain⟨y,k⟩:=y0;rw[ZI,ZS,ZS];cases hb:x==y with|true=>rw[beq_iff_eq.mp hb];rfl|false=>exact ih
theorem jX {x:Str}:(relabel bD env).names.lookup x=(bD.names.lookup x).map fun k=>if(k== .free&&env.scope.kind== .function&&env.kindOf x==some .cell)then .cell else k:=by
 have:(relabel bD env).names=bD.names.map fun p=>(p.1,(fun(n:Str)(k:NameKind)=>if(k== .free&&env.scope.kind== .function&&env.kindOf n==some .cell)then NameKind.cell else k) p.1 p.2):=by unfold relabel;refine ZF fun p y=>?_;obtain⟨n,k⟩:=p;dsimp only;split<;>rfl
 simp only[this,pB (f:=fun(n:Str)(k:NameKind)=>if(k== .free&&env.scope.kind== .function&&env.kindOf n==some .cell)then NameKind.cell else k)]
theorem dR (h:fv sc bD=true):bD.kind=.function/\(∀p∈bD.names,bD.names.lookup p.1=some p.2)/\∀p∈bD.names,p.2=.free->sc.names.lookup p.1=some .cell\/sc.names.lookup p.1=some .free:=by
 unfold fv at h;simp only[ZR,List.all_eq_true,beq_iff_eq,Bool.or_eq_true,bne_iff_ne,ne_eq]at h;refine⟨h.1.1,h.1.2,fun p hp hf=>?_⟩;rcases h.2 p hp with(q|q)|q
 ·exact absurd hf q
 ·exact .inl q
 ·exact .inr q
theorem gI (e:aN env sc)(h:fv sc bD=true):∀p∈bD.names,p.2=.free->∃c,env.cells.lookup p.1=some c:=fun p hp hf=>e.cells _ ((dR h).2.2 p hp hf)
theorem I7 (e:aN env sc)(h:fv sc bD=true)(hc:∀x c,env.cells.lookup x=some c->c<L):aN (rE env bD L) bD:=by
 refine bg (dR h) fun h1 h2 h3=>?_;have hf:=gI e h;have jm:∀x c,(x,c)∈fR env bD.names []->env.cells.lookup x=some c:=fun x c hm=>(iP hf hm).resolve_left nofun;have key:∀x k,bD.names.lookup x=some k->k≠.free->(rE env bD L).kindOf x=some k:=fun x k hx hk=>by show(relabel bD env).names.lookup x=_;simp only[jX,hx,Option.map_some,ZX];simp[hk]
 refine⟨h1,e.globals,e.builtins,fun x hx=>key x _ hx (by decide),fun x hx=>key x _ hx (by decide),fun x hx=>key x _ hx (by decide),fun x hx=>?_,fun x hx=>?_,fun x y c hx hy=>?_⟩
 ·show(relabel bD env).names.lookup x=_\/(relabel bD env).names.lookup x=_;simp only[jX,hx,Option.map_some];split
  ·exact .inl rfl
  ·exact .inr rfl
 ·have hm:∃c,(x,c)∈cellsFrom (L+1) bD.names (fR env bD.names []):=by
   refine Z4 hx (fun hx=>?_) fun hx=>?_
   ·exact d8 (.inl (mem_of_lookup hx))
   ·exact d8 (.inr (m9 (.inl (mem_of_lookup hx))))
  refine aJ hm fun c hm=>?_;exact dB hm
 ·exact lL (fun z c hm=>Nat.lt_succ_of_lt (hc z c (jm z c hm))) (fun a b c ha hb=>e.inj a b c (jm a c ha) (jm b c hb)) (mem_of_lookup hx) (mem_of_lookup hy)
theorem eg {x:Str}{sl:Slot}:∀{vars:az},(bw bD vars).lookup x=some sl->vars.lookup x=some sl/\bD.names.lookup x=some .free
 |[],h=>aa h
 |(y,t)::r,h=>by
  have ih:= @eg x sl r;unfold bw at h ih;simp only[List.filter_cons]at h;simp only[ZS];split at h
  ·rename_i hp;replace h:=List.lookup_cons.symm.trans h;cases hb:x==y with
   |true=>simp only[hb]at h;obtain rfl:=Z9 h;refine xR (beq_iff_eq.mp hb) ?_;exact⟨rfl,by simpa using hp⟩
   |false=>simp only[hb]at h;exact ih h
  ·rename_i hp;have q:=ih h;cases hb:x==y with|true=>replace q:=(beq_iff_eq.mp hb)▸q;exact absurd (by simpa using q.2) hp|false=>exact q
theorem It.widen (hW:∀a,W' a->W a\/h.get? a=none)(x:It h vol W I ds):It h vol W' I ds:=by
 have key:∀{a:Addr}{o:Obj},h.get? a=some o->¬W a->¬W' a:=fun e w q=>by
  refine Z4 (hW _ q) (fun q=>?_) fun q=>?_
  ·exact w q
  ·replace q:=e.symm.trans q;rcases q with⟨⟩
 cases x with|list hi hl hr w1 w2=>refine ax (id hi) fun o ho r=>?_;refine ax (id hl) fun o2 lV r2=>?_;exact .list hi hl hr (key ho w1) (key lV w2)|tuple hi hl hr w1 w2=>refine ax (id hi) fun o ho r=>?_;refine ax (id hl) fun o2 lV r2=>?_;exact .tuple hi hl hr (key ho w1) (key lV w2)|range hi w1=>exact .range hi (key hi w1)|str hi w1=>refine ax (id hi) fun o ho r=>?_;exact .str hi (key ho w1)|bytes hi w1=>refine ax (id hi) fun o ho r=>?_;exact .bytes hi (key ho w1)
set_option tactic.hygienic true in
theorem aT.dv (z:Bs C s)(V:aW C vol s)(r:aT s.heap vol v d)(hd:bb d=some ds)(ha:v=.ref a):¬C.T a:=by
 rcases r with⟨⟩;case list ho hc hn cB hr=>rcases ha with⟨⟩;exact z.dv ho (by refine xR cB ?_;nofun)
 case ba ho hc cB=>exact aa hd
 case rep r=>
  rcases r with⟨⟩;case list hv ho hc hn cB hr=>rcases ha with⟨⟩;exact fun t=>hv (V.tabs _ t)
  case tuple hv ho hc cB hr=>rcases ha with⟨⟩;exact fun t=>hv (V.tabs _ t)
  case range hv hr=>rcases ha with⟨⟩;exact fun t=>hv (V.tabs _ t)
  case ba hv ho hc cB=>rcases ha with⟨⟩;exact fun t=>hv (V.tabs _ t)
  case top=>exact aa hd
  case typ=>exact aa hd
  all_goals (rcases ha with⟨⟩)
set_option tactic.hygienic true in
theorem aT.sz (z:Bs C s)(V:aW C vol s)(r:aT s.heap vol v d)(hd:bb d=some ds)(ha:v=.ref a):¬C.fr a:=by
 rcases r with⟨⟩;case list ho hc hn cB hr=>rcases ha with⟨⟩;exact z.dF ho (by refine xR cB ?_;nofun)
 case ba ho hc cB=>exact aa hd
 case rep r=>
  rcases r with⟨⟩;case list hv ho hc hn cB hr=>rcases ha with⟨⟩;exact fun t=>hv (V.gS _ t)
  case tuple hv ho hc cB hr=>rcases ha with⟨⟩;exact fun t=>hv (V.gS _ t)
  case range hv hr=>rcases ha with⟨⟩;exact fun t=>hv (V.gS _ t)
  case ba hv ho hc cB=>rcases ha with⟨⟩;exact fun t=>hv (V.gS _ t)
  case top=>exact aa hd
  case typ=>exact aa hd
  all_goals (rcases ha with⟨⟩)
def Cx.TF (C:Cx)(a:Addr):Prop:=C.T a\/C.fr a
theorem aW.tf (V:aW C vol s)(a:Addr)(h:C.TF a):vol a:=h.elim (V.tabs a) (V.gS a)
theorem aT.JG (z:Bs C s)(V:aW C vol s)(r:aT s.heap vol v d)(hd:bb d=some ds)(ha:v=.ref a):¬C.TF a:=fun q=>q.elim (r.dv z V hd ha) (r.sz z V hd ha)
theorem uK (ha:h.objs.size<=a):h.get? a=none:=by cases e:h.get? a with|none=>rfl|some o=>exact absurd (Heap.lt_size e) (Nat.not_lt.mpr ha)
theorem I8 (hf:∀p∈bD.names,p.2=.free->∃c,env.cells.lookup p.1=some c)(h2:∀p∈bD.names,bD.names.lookup p.1=some p.2)(h:FW (rE env bD L) bD a):L<=a:=by
 refine Z4 h (fun h=>?_) fun y0=>?_
 ·refine xR h ?_;exact ZQ L
 ·refine ax y0 fun x h1 h3=>?_;refine Z4 (lK (mem_of_lookup h3)) (fun hm=>?_) fun y0=>?_
  ·have:∀{l:List (Str×NameKind)}{acc:List (Str×Addr)},(x,a)∈fR env l acc->(x,a)∈acc\/(x,NameKind.free)∈l:=by
    intro l;induction l with
    |nil=>intro acc h;exact .inl h
    |cons p l ih=>
     intro acc h;obtain⟨y,k⟩:=p;unfold fR at h;refine Z4 (ih h) (fun h=>?_) fun h=>?_
     ·split at h
      ·rename_i hk;refine Z4 (Zy h) (fun e=>?_) fun h=>?_
       ·rcases e with⟨⟩;exact .inr (by refine xR (show k=.free by simpa using hk) ?_;exact Z6)
       ·exact .inl h
      ·exact .inl h
     ·exact .inr (Z7 _ h)
   refine Z4 (this hm) (fun q=>?_) fun q=>?_
   ·rcases q with⟨⟩
   ·have:=h2 _ q;replace this:=h1.symm.trans this;rcases this with⟨⟩
  ·refine aL y0 fun z hm=>?_;exact Nat.le_of_succ_le hm
def wk (C:Cx)(A:Around)(vol:Addr->Prop)(env:Env)(sc:Scope)(vars:az)(D I:Addr)(elt:Expr)(gens:List Comprehension)(uQ:Scope)(pos:Pos)(depth:Nat)(t:Expr)(ifs:List Expr)(f:Dat->Option (List Dat)):Prop:=∀(d:Dat)(out acc:List Dat)(vs:List Value)(v:Value)(s:Shared),nA C vol env sc vars D s vs acc->f d=some out->acc.length+out.length<=aM->Rep s.heap vol v d->∀(Q:PySem.Fin->Shared->Prop)(E:Value->Shared->Prop),(∀s' pO,gy C (CW D env sc) s s'->nA C vol env sc vars D s' pO (acc++out)->Q (.again (.compLoop (.ListComp elt gens uQ pos) depth (.ref I) (.ref D) env)) s')->aK (model C.prog C.w) A (assign t env v>>=fun x=>(forIn ifs true fun c r=>if r=true then do let ok <-isTrue c env (eval c env);pure (ForInStep.yield ok)else pure (ForInStep.yield r))>>=fun ok=>if ok=true then fy elt gens uQ pos depth (.ref I) (.ref D) env else again (.compLoop (.ListComp elt gens uQ pos) depth (.ref I) (.ref D) env)) Q E s
theorem mZ {R:Result->Shared->Prop}(hg:gens[depth]?=some ⟨t,itE,ifs,0⟩)(x:It s.heap vol W I ds)(h:cb (model C.prog C.w) A (.compLoop (.ListComp elt gens uQ pos) depth (.ref I) acc env) R s):cb (model C.prog C.w) A (.compStart (.ListComp elt gens uQ pos) depth (.ref I) acc env) R s:=by
 refine aS ?_ rfl;show aK _ A ((compStart (.ListComp elt gens uQ pos) depth (.ref I) acc env).onRaise (fun x=>do noteFrame x env;standAt theWindowsPlace)) _ _ s;refine wD ?_;unfold compStart;have e:(clausesOf (.ListComp elt gens uQ pos))[depth]?=some ⟨t,itE,ifs,0⟩:=hg;refine xR e ?_;refine ab (ai <|wpAny_askSetting (AI ?_));split
 ·first|exact ab (ah (ah (And.intro rfl h)))|exact ah (And.intro rfl h)
 ·first|exact ab (gA (ab (aq (ab (x.self (ah (And.intro rfl h)))))))|(refine ab (gA ?_);show aK _ _ (standAt itE.pos>>=_) _ _ s;exact ab (aq (ab (x.self (ah (And.intro rfl h))))))
theorem uf (hA:A.handled=none)(e:aN env sc)(i:In C vol env vars s)(eN:fv sc bD=true)(SE:∀x,foldedSetIterable it env x=pure x)(sH:Wp C A (eval it env) (fun v s'=>aT s'.heap vol v src) s)(hit:bb src=some items)(f:Dat->Option (List Dat))(hm:cG f items=some out)(hl:out.length<=aM)(step:∀jb cenv D I,oK C jb cenv bD D A->wk C A jb cenv bD (bw bD vars) D I elt (⟨t,it,ifs,0⟩::rest) bD pos 0 t ifs f)(K:∀L D s',Ex C s s'->Rep s'.heap vol (.ref D) (.list out)->s.heap.get? L=none->(∃m,s'.heap.Ns L m)->ox (model C.prog C.w) A E use Q (.ref D) L (.ok .next) s'):aK (model C.prog C.w) A (comprehension (.ListComp elt (⟨t,it,ifs,0⟩::rest) bD pos) bD env pos' (newList []) false (eval it env) use) Q E s:=by
 refine bg (dR eN) fun h1 h2 h3=>?_;have hf:=gI e eN;refine i9 rfl SE (lI hf) h1 (fun x hx hl=>xR (h2 x hx) (xR hl rfl)) ?_;refine sH _ _ fun v s1 x1 r1=>?_;have i1:=i.ex x1;refine pS (W:=C.TF) r1 hit (fun a t=>i1.vo.there a (i1.vo.tf a t)) (fun a ha=>r1.JG i1.bs i1.vo hit ha) fun I CJ hI pU xI=>?_;have nI:¬C.T I:=fun q=>xI.HH (.inl q);refine ai <|wpAny_newObj_type ?_ (by show 0<=sizeLine;decide);refine Ca ?_;have L4:(CJ.push {cls:=.type "list",data:=.seq #[]}).objs.size=CJ.objs.size+1:=Heap.size_push ..;refine xR L4 ?_;generalize hD:CJ.objs.size=D at *;show cb _ A (.compStart _ 0 (.ref I) (.ref D) (rE env bD (D+1))) (ox _ A E use Q (.ref D) (D+1)) _;generalize mO:rE env bD (D+1)=cenv;generalize CA:({s1 with heap:=pushCells ((CJ.push {cls:=.type "list",data:=.seq #[]}).push {cls:=.type "dict",data:=.dict #[]}) bD.names}:Shared)=s4;have h4:s4.heap=pushCells ((CJ.push {cls:=.type "list",data:=.seq #[]}).push {cls:=.type "dict",data:=.dict #[]}) bD.names:=xL CA rfl;have CE:∀b o,CJ.get? b=some o->s4.heap.get? b=some o:=fun b o e=>by refine xR h4 ?_;exact pushCells_keeps _ _ _ _ (Z3 _ (Z3 _ e))
 have x4:Ex C s1 s4:=.of_keep (fun b o e=>CE b o (pU b o e)) (xL CA rfl) (xL CA rfl);have i4:=i1.ex x4;have Yn:∀x c,env.cells.lookup x=some c->c<D+1:=fun x c hc=>by refine eZ (i1.cells x c hc) fun v o ho y=>?_;have:=Heap.lt_size (pU _ _ ho);simp only[hD]at this;exact Nat.lt_succ_of_lt this
 have ec:aN cenv bD:=mO▸I7 e eN Yn;have Ym:∀a,CW D cenv bD a->D<=a:=fun a q=>by
  refine Z4 q (fun y0=>?_) fun q=>?_
  ·obtain rfl:=y0;exact ZQ _
  ·exact Nat.le_of_succ_le (I8 hf h2 (mO▸q))
 have Ua:∀a,CW D cenv bD a->CJ.get? a=none:=fun a q=>uK (hD▸Ym a q);have CY:∀a,CW D cenv bD a->s1.heap.get? a=none:=fun a q=>by cases e':s1.heap.get? a with|none=>rfl|some o=>have:=pU _ _ e';replace this:=(Ua a q).symm.trans this;exact aa this
 have QF:∀a,CW D cenv bD a->¬C.T a:=fun a q t=>by refine aJ (i1.vo.there a (i1.vo.tabs a t)) fun o e'=>?_;replace e':=(CY a q).symm.trans e';exact aa e'
 have Yl:∀a,CW D cenv bD a->¬C.fr a:=fun a q t=>by refine aJ (i1.vo.there a (i1.vo.gS a t)) fun o e'=>?_;replace e':=(CY a q).symm.trans e';exact aa e'
 have HK:∀a,s1.heap.get? a=none->¬C.T a->C.h₀.get? a=none:=fun a q t=>by cases e':C.h₀.get? a with|none=>rfl|some o=>have:=i1.bs.keep a o e' t;replace this:=q.symm.trans this;exact aa this
 have JZ:LstAt s4.heap D []:=by refine⟨{cls:=.type "list",data:=.seq #[]},0,?_,rfl,rfl,rfl⟩;refine xR h4 (xL hD ?_);exact pushCells_keeps _ _ _ _ (Z3 _ (ZO _ rfl))
 have J7:s4.heap.Ns (D+1) fun y=>none:=by refine xR h4 (xL L4 ?_);exact(Heap.Ns.new _ (.type "dict")).keeps (pushCells_keeps _ _)
 have q7:∀x c,(x,c)∈cenv.cells->s4.heap.IsCell c none\/env.cells.lookup x=some c:=fun x c yN=>by
  replace yN:=mO.symm▸yN;have SX:(x,c)∈cellsFrom (((CJ.push {cls:=.type "list",data:=.seq #[]}).push {cls:=.type "dict",data:=.dict #[]}).objs.size) bD.names (fR env bD.names []):=by simp only[Heap.size_push,L4];exact yN
  refine Z4 (uY SX) (fun q=>?_) fun q=>?_
  ·exact .inr ((iP hf q).resolve_left nofun)
  ·exact .inl (h4▸q)
 generalize Pu:(fun a=>vol a\/CW D cenv bD a)=nC;have v1:∀a,vol a->nC a:=fun a q=>by refine xL Pu ?_;exact .inl q
 have RR:∀a,CW D cenv bD a->nC a:=fun a q=>by refine xL Pu ?_;exact .inr q
 have RQ:∀a,¬vol a->¬CW D cenv bD a->¬nC a:=fun a q r=>by refine xL Pu ?_;exact fun t=>t.elim q r
 have up:∀{h:Heap}{vs:List Value}{es:List Dat},aH h vol vs es->(∀b o,h.get? b=some o->s4.heap.get? b=some o)->(∀a,CW D cenv bD a->h.get? a=none)->aH s4.heap nC vs es:=fun r hk hn=>r.mono fun b o e n=>⟨hk b o e,RQ b n fun q=>by replace e:=(hn b q).symm.trans e;exact aa e⟩;have up1:∀{h:Heap}{v:Value}{es:Dat},Rep h vol v es->(∀b o,h.get? b=some o->s4.heap.get? b=some o)->(∀a,CW D cenv bD a->h.get? a=none)->Rep s4.heap nC v es:=fun r hk hn=>r.mono fun b o e n=>⟨hk b o e,RQ b n fun q=>by replace e:=(hn b q).symm.trans e;exact aa e⟩;have fx:oK C nC cenv bD D A:=⟨ec,RR D (.inl rfl),HK D (CY D (.inl rfl)) (QF D (.inl rfl)),by refine xL mO ?_;rfl,hA⟩;have VI:aW C nC s4:=by
  refine⟨fun a t=>v1 a (i4.vo.tabs a t),fun a t=>v1 a (i4.vo.gS a t),fun a q=>?_⟩;simp only[<-Pu]at q;rcases q with q|rfl|rfl|⟨x,q1,q2⟩
  ·exact i4.vo.there a q
  ·refine eZ JZ fun o n ho y=>?_;exact⟨o,ho⟩
  ·refine jJ J7 fun o y y ho y=>?_;refine xL mO ?_;exact⟨o,ho⟩
  ·refine Z4 (q7 x a (mem_of_lookup q2)) (fun y0=>?_) fun q=>?_
   ·refine ax y0 fun o ho y=>?_;exact⟨o,ho⟩
   ·refine eZ (i4.cells x a q) fun v o ho y=>?_;exact⟨o,ho⟩
 have T5:oJ C s4.heap nC cenv bD:=by
  refine⟨⟨_,by refine xL mO ?_;exact J7⟩,RR _ (.inr (.inl rfl)),?_,fun x c q1 q2=>⟨RR _ (.inr (.inr ⟨x,q1,q2⟩)),?_,?_⟩⟩
  ·exact HK _ (CY _ (.inr (.inl rfl))) (QF _ (.inr (.inl rfl)))
  ·exact HK _ (CY _ (.inr (.inr ⟨x,q1,q2⟩))) (QF _ (.inr (.inr ⟨x,q1,q2⟩)))
  ·refine Z4 (q7 x c (mem_of_lookup q2)) (fun q=>?_) fun q=>?_
   ·exact⟨_,q⟩
   ·exact i4.cells x c q
 have in4:In C nC cenv (bw bD vars) s4:=by
  refine⟨i4.bs,VI,fun x sl hx=>?_,fun x c hc=>?_⟩
  ·refine aL (eg hx) fun Pr LZ=>?_;refine ax (i4.lo x sl Pr) fun v y0 hr=>?_;refine bg y0 fun a1 a2 a3=>?_;have WW:=h3 _ (mem_of_lookup LZ) rfl;have iK:env.kindOf x=some .cell\/env.kindOf x=some .free:=by
    refine Z4 WW (fun q=>?_) fun q=>?_
    ·exact .inl (e.Ud x q)
    ·exact e.T4 x q
   refine Z4 a3 (fun y0=>?_) fun y1=>?_
   ·refine aL y0 fun b1 y=>?_;refine Z4 iK (fun q=>?_) fun q=>?_<;>(replace q:=b1.symm.trans q;rcases q with⟨⟩)
   ·obtain⟨b1,c,b2,b3⟩:=y1;refine aJ (ec.cells x (.inr LZ)) fun c' n7=>?_;have J9:c'=c:=by
     have yN:(x,c')∈cenv.cells:=mem_of_lookup n7;replace yN:=mO.symm▸yN;refine Z4 (lK yN) (fun q=>?_) fun y0=>?_
     ·have:=(iP hf q).resolve_left nofun;simp only[b2]at this;obtain rfl:=Z9 this;rfl
     ·refine aL y0 fun q y=>?_;have:=h2 _ q;replace this:=LZ.symm.trans this;rcases this with⟨⟩
    subst J9;refine⟨v,⟨a1,a2,.inr ⟨ec.T4 x LZ,c',n7,b3⟩⟩,?_⟩;rcases sl with⟨⟩;case val d=>
     refine ax (i1.lo x (.val d) Pr) fun v0 y0 r0=>?_;refine bg y0 fun c1 c2 c3=>?_;have:v0=v:=by
      refine Z4 c3 (fun y0=>?_) fun y1=>?_
      ·refine aL y0 fun q y=>?_;refine Z4 iK (fun q'=>?_) fun q'=>?_<;>(replace q':=q.symm.trans q';rcases q' with⟨⟩)
      ·obtain⟨_,c0,d2,o,d3,d4⟩:=y1;replace d2:=b2.symm.trans d2;obtain rfl:=Z9 d2;refine ax b3 fun o' d5 d6=>?_;have:=x4.keep _ _ d3 (i1.bs.dv d3 (by refine xR d4 ?_;nofun)) (i1.bs.dF d3 (by refine xR d4 ?_;nofun));replace this:=d5.symm.trans this;obtain rfl:=Z9 this;replace d6:=d4.symm.trans d6;rcases d6 with⟨⟩;rfl
     cases this;exact up1 r0 (fun b o e=>CE b o (pU b o e)) CY
    case own d=>
     refine ZU fun hG=>?_;obtain⟨v0,y0,r0,a0,NA,Ie,Mf⟩:=i1.lo x (.own d) Pr;refine bg y0 fun c1 c2 c3=>?_;refine hG ?_;have:v0=v:=by
      refine Z4 c3 (fun y0=>?_) fun y1=>?_
      ·refine aL y0 fun q y=>?_;refine Z4 iK (fun q'=>?_) fun q'=>?_<;>(replace q':=q.symm.trans q';rcases q' with⟨⟩)
      ·obtain⟨_,c0,d2,o,d3,d4⟩:=y1;simp only[b2]at d2;obtain rfl:=Z9 d2;refine ax b3 fun o' d5 d6=>?_;have:=x4.keep _ _ d3 (i1.bs.dv d3 (by refine xR d4 ?_;nofun)) (i1.bs.dF d3 (by refine xR d4 ?_;nofun));simp only[d5]at this;obtain rfl:=Z9 this;replace d6:=d4.symm.trans d6;rcases d6 with⟨⟩;rfl
     cases this;have iX:a0+1≠cenv.locals:=fun q=>by simp only[<-mO]at q;have q':a0=D:=Nat.succ.inj q;refine aJ (i1.vo.there a0 Ie) fun o' e'=>?_;replace e':=(CY D (.inl rfl))▸q'▸e';exact aa e'
     refine⟨?_,a0,NA,v1 _ Ie,iX⟩;cases r0 with|rep r=>exact .rep (up1 r (fun b o e=>CE b o (pU b o e)) CY)|list ho hc hn hd qY=>exact .list (CE _ _ (pU _ _ ho)) hc hn hd (up qY (fun b o e=>CE b o (pU b o e)) CY)|ba ho hc hd=>exact .ba (CE _ _ (pU _ _ ho)) hc hd
  ·refine Z4 (q7 x c (mem_of_lookup hc)) (fun q=>?_) fun q=>?_
   ·exact⟨_,q⟩
   ·exact i4.cells x c q
 have N8:nA C nC cenv bD (bw bD vars) D s4 [] []:=⟨in4,T5,JZ,.nil⟩;have RM:It s4.heap nC (fun a=>CW D cenv bD a\/C.T a\/C.fr a) I items:=by have w:It CJ vol (fun a=>CW D cenv bD a\/C.T a\/C.fr a) I items:=xI.widen fun a q=>q.elim (fun q=>.inr (Ua a q)) .inl;exact w.mono (fun b o e y=>CE b o e) fun r=>up r CE Ua
 have VY:¬nC I:=RQ I (fun q=>by refine aJ (i1.vo.there I q) fun o e'=>?_;replace e':=hI.symm.trans e';exact aa e') fun q=>RM.HH (.inl q);refine mZ (t:=t) (itE:=it) (ifs:=ifs) rfl RM ?_;refine pe (t:=t) (itE:=it) (ifs:=ifs) rfl fx f (HK I hI nI) nI VY (step nC cenv D I fx) items out [] [] s4 RM N8 hm (by simpa using hl) fun s5 Us RK Nk=>?_;simp only[List.nil_append]at Nk;have x5:Ex C s1 s5:=(x4.KU.trans RK).NZ (fun a q=>q.elim (CY a) fun q=>q▸hI) fun a q=>q.elim (QF a) fun q=>q▸nI;have Qf:cenv.locals=D+1:=by refine xL mO ?_;rfl
 refine K (D+1) D s5 (x1.trans x5) ?_ ?_ (Qf▸Nk.ki.ns)
 ·refine iZ Nk.at_ fun o n ho hc hn hd=>?_;refine .list (fun q=>?_) ho hc hn hd (Nk.xc.mono fun b o e n=>⟨e,fun q=>n (v1 b q)⟩);refine aJ (i1.vo.there D q) fun o' e'=>?_;replace e':=(CY D (.inl rfl)).symm.trans e';exact aa e'
 ·have:=CY (D+1) (.inr (.inl Qf.symm));cases e':s.heap.get? (D+1)with|none=>rfl|some o=>have:=x1.keep _ _ e' (QF (D+1) (.inr (.inl Qf.symm))) (Yl (D+1) (.inr (.inl Qf.symm)));replace this:=(CY (D+1) (.inr (.inl Qf.symm))).symm.trans this;exact aa this
def eX (C:Cx)(Φ:gq)(A:Around)(e:Expr):Prop:=∀{env sc vol vars d s},aN env sc->In C vol env vars s->ev Φ sc e vars=some d->dY C A vol (eval e env) d s
def iU (C:Cx)(Φ:gq)(A:Around)(e:Expr):Prop:=∀{env sc vol vars b s},aN env sc->In C vol env vars s->dO Φ sc e vars (ev Φ sc e vars)=some b->Wp C A (isTrue e env (eval e env)) (fun t x=>t=b) s
theorem g7 (e:aN env sc)(h:eR s.heap env x v)(hQ:Q v s):aK (model C.prog C.w) A (eval (.Name x p) env) Q E s:=by
 refine bg h fun h1 h2 h3=>?_;refine DH ?_ h1;rcases h3 with⟨hk,m,hm,hv⟩|⟨hk|hk,c,hc,hv⟩
 ·exact ai <|wpAny_loadName_local e.kind hk hm hv hQ
 ·exact ai <|wpAny_loadName_cell e.kind hk hc hv hQ
 ·exact ai <|wpAny_loadName_free e.kind hk hc hv hQ h2
theorem Cx.OG (hC:C.Ok)(z:Bs C s):s.heap.Ns mainGlobals C.mg:=by refine jJ hC.g fun o es ep ho r=>?_;refine⟨o,es,ep,z.keep _ _ ho ?_,r⟩;intro y0;refine i0 y0 fun c p q m=>?_;exact(hC.qg c _ p q m).2.2.1 rfl
theorem Cx.UH (hC:C.Ok)(z:Bs C s):s.heap.Ns builtinsNs C.mb:=by refine jJ hC.b fun o es ep ho r=>?_;refine⟨o,es,ep,z.keep _ _ ho ?_,r⟩;intro y0;refine i0 y0 fun c p q m=>?_;exact(hC.qg c _ p q m).2.2.2 rfl
theorem n9 (hC:C.Ok)(e:aN env sc)(z:Bs C s)(hx:sc.names.lookup x=some .globalImplicit)(hd:(x==("__debug__":Str))=false)(hv:C.mg x=some v)(hQ:Q v s):aK (model C.prog C.w) A (eval (.Name x p) env) Q E s:=ai <|Calls.Name_function_global e.kind (e.glob x hx) (Calls.loadGlobal_global (e.globals▸Cx.OG hC z) hv hQ) hd
theorem fz (hC:C.Ok)(e:aN env sc)(z:Bs C s)(hx:sc.names.lookup x=some .globalImplicit)(hd:(x==("__debug__":Str))=false)(hg:C.mg x=none)(hv:C.mb x=some v)(hQ:Q v s):aK (model C.prog C.w) A (eval (.Name x p) env) Q E s:=ai <|Calls.Name_function_global e.kind (e.glob x hx) (Calls.loadGlobal_builtin (e.globals▸Cx.OG hC z) hg (e.builtins▸Cx.UH hC z) hv hQ) hd
set_option tactic.hygienic true in
theorem F6 (h:F7 c=some d):dY C A vol (eval (.Constant c k p) env) d s:=by
 rcases c with⟨⟩;case none=>obtain rfl:=Z9 h;exact fun E Q q=>ai <|wpAny_Constant_none (q _ _ (.refl s) .none)
 case bool b=>obtain rfl:=Z9 h;exact fun E Q q=>ai <|wpAny_Constant_bool (q _ _ (.refl s) (.bool b))
 case int i=>obtain rfl:=Z9 h;exact fun E Q q=>ai <|wpAny_Constant_int (q _ _ .toks (.int i _))
 case str x=>obtain rfl:=Z9 h;exact fun E Q q=>ai <|wpAny_Constant_str (q _ _ .toks (.str x _))
 case bytes b=>obtain rfl:=Z9 h;refine fun E Q q=>?_;have:aK (model C.prog C.w) A (mkTextBytes b.toArray) Q E s:=fun y y y y=>q _ {s with toks:=s.toks+1} .toks (.bytes b _);exact this
 all_goals (exact aa h)
set_option tactic.hygienic true in
theorem vn (hC:C.Ok)(hF:b7 C Φ n)(e:aN env sc)(i:In C vol env vars s)(h:ev Φ sc (.Name x p) vars=some d):dY C A vol (eval (.Name x p) env) d s:=by
 have h':(match vars.lookup x with
  |some (.val d)=>some d|some (.own _)=>none|none=>if sc.names.lookup x=some .globalImplicit then Φ.glob x else none)=some d:=h
 cases hl:vars.lookup x with
 |none=>
  rw[hl]at h';refine aI h' fun hg h'=>?_;refine eD (hF.glob h') fun v h1 h2 h3=>?_;refine Z4 h1 (fun h1=>?_) fun y0=>?_
  ·exact fun E Q q=>n9 hC e i.bs hg h2 h1 (q v s (.refl s) (h3 i.bs i.vo))
  ·refine aL y0 fun h0 h1=>?_;exact fun E Q q=>fz hC e i.bs hg h2 h0 h1 (q v s (.refl s) (h3 i.bs i.vo))
 |some sl=>
  rw[hl]at h';rcases sl with⟨⟩;case own d'=>exact aa h'
  case val d'=>obtain rfl:=Z9 h';refine ax (i.lo x _ hl) fun v hv hr=>?_;exact fun E Q q=>g7 e hv (q v s (.refl s) hr)
set_option tactic.hygienic true in
theorem B7 (h:ownAt vars y=some d):vars.lookup y=some (.own d):=by
 unfold ownAt at h;cases hl:vars.lookup y with
 |none=>rw[hl]at h;exact aa h
 |some sl=>
  rw[hl]at h;rcases sl with⟨⟩;case val d'=>exact aa h
  case own d'=>exact congrArg (some <|Slot.own ·) (Z9 h)
theorem oU {x:Expr}{w:Option Dat}(h:orOwn x vars w=some d):w=some d\/∃y p,x=.Name y p/\vars.lookup y=some (.own d):=by unfold orOwn at h;cases hn:(asName x).bind (ownAt vars)with|none=>rw[hn]at h;exact .inl h|some d'=>rw[hn]at h;exact ao hn fun y h1 h2=>(fA h1).elim fun p e=>.inr ⟨y,p,e,B7 (h2.trans h)⟩
theorem tO {x:Expr}(hE:eX C Φ A x)(e:aN env sc)(i:In C vol env vars s)(h:orOwn x vars (ev Φ sc x vars)=some d):Wp C A (eval x env) (fun v s'=>aT s'.heap vol v d/\(Rep s'.heap vol v d\/∃a,v=.ref a/\vol a/\a+1≠env.locals)) s:=by
 refine Z4 (oU h) (fun h=>?_) fun y0=>?_
 ·exact Wp.mono (hE e i h) fun z z z r=>⟨.rep r,.inl r⟩
 ·refine eZ y0 ?_;clear y0;rintro y p (rfl) hl;refine ax (i.lo y _ hl) fun v hv hr=>?_;exact fun E Q q=>g7 e hv (q v s (.refl s) ⟨hr.1,.inr hr.2⟩)
theorem du {x:Expr}(hE:eX C Φ A x)(e:aN env sc)(i:In C vol env vars s)(h:orOwn x vars (ev Φ sc x vars)=some d):Wp C A (eval x env) (fun v s'=>aT s'.heap vol v d) s:=Wp.mono (tO hE e i h) fun y y y r=>r.1
theorem Aw (hO:cj C n)(hA:cV C n A)(hl:eX C Φ A l)(hr:eX C Φ A r)(e:aN env sc)(i:In C vol env vars s)(h:ev Φ sc (.BinOp l op r p) vars=some d):dY C A vol (eval (.BinOp l op r p) env) d s:=ao (x:=ev Φ sc l vars) h fun a h1 h=>ao (x:=ev Φ sc r vars) h fun b h2 h E Q q=>BE (hl e i h1 _ _ fun v s1 x1 r1=>hr e (i.ex x1) h2 _ _ fun u s2 x2 r2=>hO.bin hA ((i.ex x1).ex x2).bs ((i.ex x1).ex x2).vo (r1.ex (i.ex x1).vo x2) r2 h _ _ fun w s3 x3 r3=>q w s3 ((x1.trans x2).trans x3) r3)
theorem NT (hO:cj C n)(hA:cV C n A){x:Expr}(hx:eX C Φ A x)(e:aN env sc)(i:In C vol env vars s)(h:ev Φ sc (.UnaryOp op x p) vars=some d):dY C A vol (eval (.UnaryOp op x p) env) d s:=by
 have plain:(ev Φ sc x vars).bind (fun a=>Q4 op a)=some d->op≠.Not->dY C A vol (eval (.UnaryOp op x p) env) d s:=fun h hn=>ao h fun a h1 h E Q q=>oM (hx e i h1 _ _ fun v s1 x1 r1=>hO.un hA (i.ex x1).bs (i.ex x1).vo r1 h _ _ fun w s2 x2 r2=>q w s2 (x1.trans x2) r2);rcases op with⟨⟩;case Not=>refine ao (x:=orOwn x vars (ev Φ sc x vars)) h fun a h1 h=>ao (x:=nE a) h fun b h2 h E Q q=>?_;obtain rfl:=Z9 h;exact oM (du hx e i h1 _ _ fun v s1 x1 r1=>G6 (hO.Q5 hA (i.ex x1).bs (i.ex x1).vo r1 h2 _ _ fun t s2 x2 ht=>ht▸q _ s2 (x1.trans x2) (.bool _)))
 all_goals (exact plain h nofun)
theorem or_none {x:Expr}{P:Prop}(h:orOwn x vars (ev Φ sc x vars)=some d)(hx:ev Φ sc x vars=none)(hn:∀y p,x≠.Name y p):P:=by
 refine Z4 (oU h) (fun h=>?_) fun y0=>?_
 ·rw[hx]at h;exact aa h
 ·refine eZ y0 fun y p e z=>?_;exact absurd e (hn y p)
theorem gj {x:Expr}(h:orOwn x vars (ev Φ sc x vars)=some d):∀es k p,x≠.Set es k p:=by rintro es k p rfl;exact or_none h rfl nofun
theorem xF {x:Expr}(h:∀es k p,x≠.Set es k p):behindInMarks op x=false:=by rcases x with⟨⟩<;>first|rfl|exact absurd rfl (h _ _ _)
theorem g8 {x:Expr}(h:∀es k p,x≠.Set es k p)(v:Value):foldedSetIterable x env v=pure v:=by rcases x with⟨⟩<;>first|rfl|exact absurd rfl (h _ _ _)
theorem yo (hO:cj C n)(hA:cV C n A){x:Expr}{a:Dat}(e:aN env sc)(hx:eX C Φ A x)(i:In C vol env vars s)(rv:aT s.heap vol v a)(h:lA Φ sc a [op] [x] vars=some r) {β:Type} {k:Value->Value->Sem β} {Q:β->Shared->Prop} (q:∀u s2,Ex C s s2->aK (model C.prog C.w) A (k u (.bool r)) Q E s2):aK (model C.prog C.w) A (holding [v] (eval x env)>>=fun rv=>standAt pos>>=fun y=>operate [v,rv] (compareOp op v rv)>>=k rv) Q E s:=ao (x:=orOwn x vars (ev Φ sc x vars)) h fun b h1 h=>ab (ar (du hx e i h1 _ _ fun u s1 x1 r1=>ab (aq (ab (mw (hO.cmp hA (i.ex x1).bs (i.ex x1).vo (rv.ex i.bs i.vo x1) r1 h _ _ fun w s2 x2 r2=>r2.Bn▸q u s2 (x1.trans x2)))))))
theorem yn (hO:cj C n)(hA:cV C n A){x:Expr}{a b:Dat}(e:aN env sc)(hx:eX C Φ A x)(i:In C vol env vars s)(rv:aT s.heap vol v a)(h1:ev Φ sc x vars=some b)(h:pJ op a b=some c) {β:Type} {k:Value->Value->Bool->Sem β} {Q:β->Shared->Prop} (q:∀u s2,Ex C s s2->Rep s2.heap vol u b->aK (model C.prog C.w) A (k u (.bool c) c) Q E s2):aK (model C.prog C.w) A (holding [v] (eval x env)>>=fun rv=>standAt pos>>=fun y=>holding [v,rv] (compareOp op v rv)>>=fun c=>release [v,rv] [c]>>=fun y=>holding [c,rv] (truthy c)>>=k rv c) Q E s:=ab (ar (hx e i h1 _ _ fun u s1 x1 r1=>ab (aq (ab (ar (hO.cmp hA (i.ex x1).bs (i.ex x1).vo (rv.ex i.bs i.vo x1) (.rep r1) h _ _ fun w s2 x2 r2=>by rw[r2.Bn];exact ab (ai <|wpAny_release (ab (ar (ai <|wpAny_truthy_bool (q u s2 (x1.trans x2) (r1.ex (i.ex x1).vo x2))))))))))))
set_option tactic.hygienic true in
theorem rD (hO:cj C n)(hA:cV C n A){pos:Pos}(e:aN env sc):∀{es:List Expr}{ops:List CmpOp}{a:Dat}{v:Value}{r:Bool}{s:Shared},(∀x∈es,eX C Φ A x)->In C vol env vars s->aT s.heap vol v a->lA Φ sc a ops es vars=some r->Wp C A (compareChain pos v ops (markedEach ops es (evalEach es env))) (fun u w=>u=.bool r) s/\Wp C A (testChain pos v ops (markedEach ops es (evalEach es env))) (fun u w=>u=r) s
 |[],ops,a,v,r,s,_,i,rv,h=>by
  rcases ops with⟨⟩;case nil=>exact aa h
  case cons o ops=>cases ops with
   |nil=>exact aa h|cons o2 ops=>exact aa h
 |[x],ops,a,v,r,s,hx,i,rv,h=>by
  rcases ops with⟨⟩;case nil=>exact aa h
  case cons op ops=>cases ops with
   |cons o2 ops=>exact aa h|nil=>have hm:markedEach [op] [x] (evalEach [x] env)=[eval x env]:=congrArg (fun t=>[t]) (ao (x:=orOwn x vars (ev Φ sc x vars)) h fun b h1 w=>markedBehindIn_of_false (xF (gj h1)));rw[hm];have Pt:eX C Φ A x:=hx x Z6;refine⟨fun E Q q=>?_,fun E Q q=>yo hO hA e Pt i rv h (k:=fun w c=>holding [c] (truthy c)) fun u s2 x2=>ar (ai <|wpAny_truthy_bool (q r s2 x2 rfl))⟩;have:=yo hO hA (pos:=pos) (E:=E) (Q:=Q) e Pt i rv h (k:=fun w c=>pure c) fun u s2 x2=>ah (q _ s2 x2 rfl);have hp:∀rv,(operate [v,rv] (compareOp op v rv)>>=fun c=>pure c)=operate [v,rv] (compareOp op v rv):=fun rv=>bind_pure _;simp only[hp]at this;exact this
 |x::y::es,ops,a,v,r,s,hx,i,rv,h=>by
  rcases ops with⟨⟩;case nil=>exact aa h
  case cons op ops=>cases ops with
   |nil=>exact aa h
   |cons o2 ops=>
    refine ao (x:=ev Φ sc x vars) h fun b h1 h=>ao (x:=pJ op a b) h fun c h2 h=>?_;have Pt:eX C Φ A x:=hx x Z6;have ih:=fun u s2(x2:Ex C s s2)(ru:Rep s2.heap vol u b)(h:lA Φ sc b (o2::ops) (y::es) vars=some r)=>rD hO hA (pos:=pos) e (v:=u) (fun z hz=>hx z (Z7 _ hz)) (i.ex x2) (.rep ru) h;refine⟨fun E Q q=>yn hO hA e Pt i rv h1 h2 (k:=fun rv c b=>if b=true then compareChain pos rv (o2::ops) (markedEach (o2::ops) (y::es) (evalEach (y::es) env))else pure c) fun u s2 x2 ru=>?_,fun E Q q=>yn hO hA e Pt i rv h1 h2 (k:=fun rv c b=>if b=true then testChain pos rv (o2::ops) (markedEach (o2::ops) (y::es) (evalEach (y::es) env))else pure false) fun u s2 x2 ru=>?_⟩
    ·rcases c with⟨⟩;case true=>exact(ih u s2 x2 ru h).1 _ _ fun u s3 x3 hu=>q u s3 (x2.trans x3) hu
     case false=>exact ah (q _ s2 x2 (by rw[Z9 h]))
    ·rcases c with⟨⟩;case true=>exact(ih u s2 x2 ru h).2 _ _ fun u s3 x3 hu=>q u s3 (x2.trans x3) hu
     case false=>exact ah (q _ s2 x2 (Z9 h))
theorem M9 {pos:Pos}(e:aN env sc):∀{es:List Expr}{op:BoolOp}{b:Bool}{s:Shared},(∀x∈es,iU C Φ A x)->In C vol env vars s->f9 Φ sc op es vars=some b->Wp C A (allTrue op es env) (fun t z=>t=b) s:=by
 intro es;induction es with
 |nil=>intro op b s _ i h;exact Wp.pure (Z9 h)
 |cons x es vz=>
  intro op b s hx i h;exact ao (x:=dO Φ sc x vars (ev Φ sc x vars)) h fun c h1 h E Q q=>ab ((hx x Z6:iU C Φ A x) e i h1 _ _ fun t s1 x1 ht=>by
  subst ht;have ih:=vz (op:=op) (b:=b) (fun y hy=>hx y (Z7 _ hy)) (i.ex x1);rcases op with⟨⟩<;>rcases t with⟨⟩
  ·exact ah (q _ s1 x1 (Z9 h))
  ·exact ih h _ _ fun w s2 x2 r2=>q w s2 (x1.trans x2) r2
  ·exact ih h _ _ fun w s2 x2 r2=>q w s2 (x1.trans x2) r2
  ·exact ah (q _ s1 x1 (Z9 h)))
theorem uo (hO:cj C n)(hA:cV C n A){pos:Pos}(e:aN env sc):∀{es:List Expr}{op:BoolOp}{d:Dat}{s:Shared},(∀x∈es,eX C Φ A x)->In C vol env vars s->rn Φ sc op es vars=some d->dY C A vol (boolOp pos op (evalEach es env)) d s
 |[],op,d,s,_,i,h=>aa h
 |[x],op,d,s,hx,i,h=>(hx x Z6:eX C Φ A x) e i h
 |x::y::es,op,d,s,hx,i,h=>ao (x:=ev Φ sc x vars) h fun a h1 h=>ao (x:=nE a) h fun c h2 h E Q q=>ab ((hx x Z6:eX C Φ A x) e i h1 _ _ fun v s1 x1 r1=>
  ab (aq (ab (ar (hO.Q5 hA (i.ex x1).bs (i.ex x1).vo (.rep r1) h2 _ _ fun t s2 x2 ht=>by
  subst ht;have Dp:=x1.trans x2;have fin:some a=some d->Q v s2:=fun hh=>q v s2 Dp (Z9 hh▸r1.ex (i.ex x1).vo x2);have ih:=uo hO hA (pos:=pos) (op:=op) (d:=d) e (fun y hy=>hx y (Z7 _ hy)) (i.ex Dp);rcases op with⟨⟩<;>rcases t with⟨⟩
  ·exact ah (fin h)
  ·exact ih h _ _ fun w s3 x3 r3=>q w s3 (Dp.trans x3) r3
  ·exact ih h _ _ fun w s3 x3 r3=>q w s3 (Dp.trans x3) r3
  ·exact ah (fin h))))))
theorem iy {x:Expr}(h:ev Φ sc x vars=some d):∀y p,x≠.Starred y p:=by rintro y p rfl;exact aa h
theorem lq {x:Expr}(h:orOwn x vars (ev Φ sc x vars)=some d):∀y p,x≠.Starred y p:=by rintro y p rfl;exact or_none h rfl nofun
theorem bH {x:Expr}(h:∀y p,x≠.Starred y p):starEach (x::es) env=(false,eval x env)::starEach es env:=by rcases x with⟨⟩<;>first|rfl|exact absurd rfl (h _ _)
theorem iH (e:aN env sc):∀{es:List Expr}{ds:List Dat}{s:Shared},(∀x∈es,eX C Φ A x)->In C vol env vars s->vM Φ sc es vars=some ds->Wp C A (spliced (backTo pos (starEach es env))) (fun vs s'=>aH s'.heap vol vs ds) s|[],ds,s,_,i,h=>fun E Q q=>bY (q _ _ (.refl s) (Z9 h▸.nil))|x::es,ds,s,hx,i,h=>ao (x:=ev Φ sc x vars) h fun d h1 h=>aZ (x:=vM Φ sc es vars) h fun jy h2 h E Q q=>by subst h;exact bu ((hx x Z6:eX C Φ A x) e i h1 _ _ fun v s1 x1 r1=>iH e (fun y hy=>hx y (Z7 _ hy)) (i.ex x1) h2 _ _ fun vs s2 x2 r2=>q _ s2 (x1.trans x2) (.cons (r1.ex (i.ex x1).vo x2) r2)) (bH (iy h1))
theorem nX (e:aN env sc):∀{es:List Expr}{ds:List Dat}{s:Shared},(∀x∈es,eX C Φ A x)->In C vol env vars s->jq Φ sc es vars=some ds->Wp C A (spliced (backTo pos (starEach es env))) (fun vs s'=>gP s'.heap vol vs ds) s|[],ds,s,_,i,h=>fun E Q q=>bY (q _ _ (.refl s) (Z9 h▸.nil))|x::es,ds,s,hx,i,h=>ao (x:=orOwn x vars (ev Φ sc x vars)) h fun d h1 h=>aZ (x:=jq Φ sc es vars) h fun jy h2 h E Q q=>by subst h;exact bu (du (hx x Z6) e i h1 _ _ fun v s1 x1 r1=>nX e (fun y hy=>hx y (Z7 _ hy)) (i.ex x1) h2 _ _ fun vs s2 x2 r2=>q _ s2 (x1.trans x2) (.cons (r1.ex (i.ex x1).bs (i.ex x1).vo x2) r2)) (bH (lq h1))
theorem oV {x:Expr}(h1:∀y p,x≠.Starred y p)(h2:∀y∈starEach es env,y.1=false):∀y∈starEach (x::es) env,y.1=false:=fun y hy=>by
 rw[bH h1]at hy;refine Z4 (Zy hy) (fun q=>?_) fun q=>?_
 ·exact xR q rfl
 ·exact h2 y q
theorem lr:∀{es:List Expr}{ds:List Dat},vM Φ sc es vars=some ds->∀x∈starEach es env,x.1=false:=by intro es;induction es with|nil=>intro _ _;exact fun x hx=>nomatch hx|cons e es ih=>intro ds h;exact ao (x:=ev Φ sc e vars) h fun d h1 h=>aZ (x:=vM Φ sc es vars) h fun jy h2 h=>oV (iy h1) (ih h2)
theorem kc:∀{es:List Expr}{ds:List Dat},jq Φ sc es vars=some ds->∀x∈starEach es env,x.1=false:=by intro es;induction es with|nil=>intro _ _;exact fun x hx=>nomatch hx|cons e es ih=>intro ds h;exact ao (x:=orOwn e vars (ev Φ sc e vars)) h fun d h1 h=>aZ (x:=jq Φ sc es vars) h fun jy h2 h=>oV (lq h1) (ih h2)
theorem jt (h:∀x∈l,x.1=false):(backTo pos l).any (·.1)=false:=by unfold backTo;rw[List.any_map,List.any_eq_false];exact fun x hx=>Bool.eq_false_iff.mp (h x hx)
set_option tactic.hygienic true in
theorem cn (h:args.any (·.1)=false){P:List Value->Shared->Prop}(hs:Wp C A (spliced args) P s):Wp C A (evalArgs f true args []) (fun a s'=>a.kw=[]/\P a.pos s') s:=by
 intro E Q q;have key:evalArgs f true args []=(spliced args>>=fun vs=>holding (vs++[]) (pure ⟨vs,[]⟩)):=by
  unfold evalArgs;rcases args with⟨⟩;case nil=>rfl
  case cons x r=>
   obtain⟨b,t⟩:=x;rcases b with⟨⟩;case true=>simp at h
   case false=>rfl
 refine xR key ?_;exact ab (hs _ _ fun vs s1 x1 p1=>ar (ah (q _ s1 x1 ⟨rfl,p1⟩)))
set_option tactic.hygienic true in
theorem bQ (hf:∀a,f≠.ref a)(Ma:args.any (·.1)=false)(h:aK (model C.prog C.w) A (evalArgs f true args []) (fun a aB=>aK (model C.prog C.w) A (PySem.call f (first++a.pos) a.kw) Q E aB) E s):aK (model C.prog C.w) A (callWith pos f first args []) Q E s:=by
 unfold callWith;refine ab (ar (aD h (fun a aB bh=>ab (aq ?_)) fun y y x=>x));rw[Ma];have hk:keeperOf f=pure .machine:=by
  rcases f with⟨⟩;case ref a=>exact absurd rfl (hf a)
  all_goals (rfl)
 rw[hk];refine ab (ah ?_);exact ab (aD bh (fun r bM hr=>ab (ar (ai <|wpAny_point (ah hr)))) fun y y x=>x)
set_option tactic.hygienic true in
theorem Bq (h:Rz d=some ds):d=.list ds/\ds.length<=aM:=by
 rcases d with⟨⟩;case list es=>exact aI (x:=some es) h fun h1 h=>⟨by exact xR (Z9 h) rfl,Z9 h▸h1⟩
 all_goals (exact aa h)
set_option tactic.hygienic true in
theorem D3 {x:Expr}(h:dg Φ sc (x::es) vars=some ds):(∃y p xs jy,x=.Starred y p/\xs.length<=aM/\orOwn y vars (ev Φ sc y vars)=some (.list xs)/\dg Φ sc es vars=some jy/\xs++jy=ds)\/∃d jy,ev Φ sc x vars=some d/\dg Φ sc es vars=some jy/\d::jy=ds:=by
 have plain:((ev Φ sc x vars).map one).bind (fun xs=>(dg Φ sc es vars).map fun ds=>xs++ds)=some ds->∃d jy,ev Φ sc x vars=some d/\dg Φ sc es vars=some jy/\d::jy=ds:=fun h=>ao h fun xs h1 h=>aZ h1 fun d h1 hx=>aZ h fun jy h2 h=>⟨d,jy,h1,h2,by rw[<-h,<-hx];rfl⟩;rcases x with⟨⟩;case Starred y p=>exact .inl (ao (x:=(orOwn y vars (ev Φ sc y vars)).bind Rz) h fun xs h1 h=>ao h1 fun d h1 h3=>aZ (x:=dg Φ sc es vars) h fun jy h2 h=>⟨y,p,xs,jy,rfl,(Bq h3).2,(Bq h3).1▸h1,h2,h⟩)
 all_goals (exact .inr (plain h))
theorem AO {pos:Pos}(e:aN env sc):∀{es:List Expr}{ds:List Dat}{s:Shared},(∀x∈es,∀y,(x=y\/∃p,x=.Starred y p)->eX C Φ A y)->In C vol env vars s->dg Φ sc es vars=some ds->Wp C A (spliced (backTo pos (starEach es env))) (fun vs s'=>aH s'.heap vol vs ds) s
 |[],ds,s,_,i,h=>fun E Q q=>bY (q _ _ (.refl s) (Z9 h▸.nil))
 |x::es,ds,s,hx,i,h=>fun E Q q=>by
  have ih:=fun{s:Shared}{jy:List Dat}(i:In C vol env vars s)(h2:dg Φ sc es vars=some jy)=>AO (pos:=pos) e (fun y hy=>hx y (Z7 _ hy)) i h2;refine Z4 (D3 h) (fun y1=>?_) fun y3=>?_
  ·refine cL y1 ?_;clear y1;rintro y p xs jy (rfl) eT h1 y2;(refine aL y2 ?_;clear y2;rintro h2 (rfl));show aK _ A (spliced ((true,eval y env>>=fun v=>standAt pos>>=fun z=>pure v)::backTo pos (starEach es env))) Q E s;refine ab (ab (du (hx _ Z6 y (.inr ⟨p,rfl⟩)) e i h1 _ _ fun v s1 x1 r1=>ab (aq (ah ?_))));refine cL r1.oX ?_;rintro a o vs k (rfl) ho hc y0;refine bg y0 fun hn hd PF=>?_;refine ab (fF (kJ ho hc) slot_list_iter.lookup ?_);refine ab (ai <|wpAny_collect_seq a (.inl rfl) ho hc hd (fun h' hk=>?_) (by refine xR ZT (xR PF.length ?_);exact bx eT));have x2:Ex C s1 {s1 with heap:=h'}:=.of_keep hk rfl rfl;exact ab (ar (ih ((i.ex x1).ex x2) h2 _ _ fun us s3 x3 r3=>ah (q _ s3 ((x1.trans x2).trans x3) (((PF.ex (i.ex x1).vo x2).ex ((i.ex x1).ex x2).vo x3).append r3))))
  ·refine eB y3 ?_;clear y3;rintro d jy h1 h2 (rfl);exact bu (hx x Z6 x (.inl rfl) e i h1 _ _ fun v s1 x1 r1=>ih (i.ex x1) h2 _ _ fun vs s2 x2 r2=>q _ s2 (x1.trans x2) (.cons (r1.ex (i.ex x1).vo x2) r2)) (bH (iy h1))
theorem BK:∀(ifs:List Expr),(forIn ifs false fun c r=>if r=true then do let ok <-isTrue c env (eval c env);pure (ForInStep.yield ok)else pure (ForInStep.yield r))=(pure false:Sem Bool):=by intro ifs;induction ifs with|nil=>exact rfl|cons c cs ih=>rw[List.forIn_cons];simp only[ZG,if_false];exact ih
theorem wN (e:aN env sc):∀{ifs:List Expr}{b:Bool}{s:Shared},(∀x∈ifs,iU C Φ A x)->In C vol env vars s->o8 Φ sc ifs vars=some b->Wp C A (forIn ifs true fun c r=>if r=true then do let ok <-isTrue c env (eval c env);pure (ForInStep.yield ok)else pure (ForInStep.yield r)) (fun t z=>t=b) s
 |[],b,s,_,i,h=>Wp.pure (Z9 h)
 |c::cs,b,s,hx,i,h=>ao (x:=dO Φ sc c vars (ev Φ sc c vars)) h fun t h1 h E Q q=>by
  rw[List.forIn_cons];refine ab (ab ((hx c Z6:iU C Φ A c) e i h1 _ _ fun t' s1 x1 ht=>ah ?_));subst ht;rcases t' with⟨⟩;case true=>exact wN e (fun y hy=>hx y (Z7 _ hy)) (i.ex x1) h _ _ fun u s2 x2 hu=>q u s2 (x1.trans x2) hu
  case false=>have ho:(forIn cs false fun c r=>if r=true then do let ok <-isTrue c env (eval c env);pure (ForInStep.yield ok)else pure (ForInStep.yield r))=(pure false:Sem Bool):=BK cs;exact Eq.mpr (congrArg (fun t=>aK (model C.prog C.w) A t Q E s1) ho) (ah (q _ s1 x1 (Z9 h)))
theorem dS (h:bL sc x sl vars=some vars'):vars'=(x,sl)::vars:=by
 unfold bL at h;split at h
 ·obtain rfl:=Z9 h;rfl
 ·exact aa h
theorem sU:∀(k:Nat){ts:List Expr}{ds:List Dat}{vars:az}{y:Str}{sl:Slot},ts.length=k->gN sc ts ds vars=some vars'->(∀t∈ts,∀x p,t=.Name x p->x≠y)->vars.lookup y=some sl->vars'.lookup y=some sl:=by
 intro k;induction k with
 |zero=>
  intro ts ds vars y sl hk hb hy h;refine Z4 (cR hb) (fun y0=>?_) fun y1=>?_
  ·refine bg y0 ?_;clear y0;rintro(rfl) (rfl) (rfl);exact h
  ·refine wz y1 ?_;clear y1;rintro x p Dq d jy b9 (rfl) _;(rcases hk with⟨⟩)
 |succ k ih=>
  intro ts ds vars y sl hk hb hy h;refine Z4 (cR hb) (fun y0=>?_) fun y1=>?_
  ·refine bg y0 ?_;clear y0;rintro(rfl) (rfl) (rfl);rcases hk with⟨⟩
  ·refine wz y1 ?_;clear y1;rintro x p Dq d jy b9 (rfl) y2;(refine bg y2 ?_;clear y2;rintro(rfl) Dx Iq);refine ih (by simpa using hk) Iq (fun t ht=>hy t (Z7 _ ht)) ?_;refine xR (dS Dx) (xR ZS ?_);have:x≠y:=hy _ Z6 x p rfl;have hb:(y==x)=false:=by rw[ZJ];exact fun q=>this q.symm
   refine xR hb ?_;exact h
theorem wb (hb:bp sc t d vars=some vars')(hf:freshT vars t=true)(h:vars.lookup y=some sl):vars'.lookup y=some sl:=by
 refine Z4 (kE hb) (fun y0=>?_) fun y1=>?_
 ·refine eZ y0 ?_;clear y0;rintro x p (rfl) hb;refine xR (dS hb) (xR ZS ?_);have hx:x≠y:=by rintro rfl;have hf:((vars.lookup x).isNone||false)=true:=hf;replace hf:=h▸hf;rcases hf with⟨⟩
  have hb:(y==x)=false:=by rw[ZJ];exact fun q=>hx q.symm
  refine xR hb ?_;exact h
 ·refine jI y1 ?_;clear y1;rintro ts k p ds (rfl) hd hb;refine sU _ rfl hb (fun t ht x p e=>?_) h;subst e;rintro rfl;have:=Zw (show ts.all (oh vars)=true from hf) _ ht;have:(vars.lookup x).isNone=true:=this;replace this:=h▸this;rcases this with⟨⟩
theorem In.less (i:In C vol env vars' s)(h:∀y sl,vars.lookup y=some sl->vars'.lookup y=some sl):In C vol env vars s:=⟨i.bs,i.vo,fun x sl e=>i.lo x sl (h x sl e),i.cells⟩
theorem gy.QD (x:gy C (fun a=>W a\/a=I) s s')(h1:s.heap.get? I=none)(h2:C.h₀.get? I=none):gy C W s s':=⟨fun b o e t f w=>x.keep b o e t f fun q=>q.elim w fun q=>(by subst q;rw[h1]at e;exact aa e),fun b o f w e=>x.nj b o f (fun q=>q.elim w fun q=>(by subst q;rw[h1]at e;exact aa e)) e,fun z w=>x.bs z fun a q=>q.elim (w a) fun q=>q▸h2⟩
theorem nA.JH (st:nA C vol env sc vars D s vs acc):¬FW env sc D:=by
 refine iZ st.at_ fun o k ho hc hn hd=>?_;rintro(q|⟨x,q1,q2⟩)
 ·refine jI st.ki.ns fun m o' es ep iJ cB y=>?_;rw[<-q,ho]at iJ;obtain rfl:=Z9 iJ;replace cB:=hd.symm.trans cB;rcases cB with⟨⟩
 ·obtain⟨_,_,v,o',iJ,cB⟩:=st.ki.cell x D q1 q2;rw[ho]at iJ;obtain rfl:=Z9 iJ;replace cB:=hd.symm.trans cB;rcases cB with⟨⟩
theorem nA.dv (st:nA C vol env sc vars D s vs acc):¬C.T D:=by refine iZ st.at_ fun o k ho hc hn hd=>?_;exact st.bV.bs.dv ho (by rw[hd];nofun)
theorem nA.sz (st:nA C vol env sc vars D s vs acc):¬C.fr D:=by refine iZ st.at_ fun o k ho hc hn hd=>?_;exact st.bV.bs.dF ho (by rw[hd];nofun)
theorem nA.ex (st:nA C vol env sc vars D s vs acc)(x:Ex C s s'):nA C vol env sc vars D s' vs acc:=⟨st.bV.ex x,st.ki.ex st.bV.bs x,st.at_.keep fun o e=>x.keep _ _ e st.dv st.sz,st.xc.ex st.bV.vo x⟩
def ei (Φ:gq)(sc:Scope)(t:Expr)(ifs:List Expr)(vars:az)(k:az->Option (List Dat))(d:Dat):Option (List Dat):=(bp sc t d vars).bind fun vars'=>(o8 Φ sc ifs vars').bind fun c=>bX c (k vars') (some [])
def wm (C:Cx)(A:Around)(vol:Addr->Prop)(env:Env)(sc:Scope)(D I:Addr)(elt:Expr)(gens:List Comprehension)(uQ:Scope)(pos:Pos)(depth:Nat)(k:az->Option (List Dat)):Prop:=∀{vars:az}{out acc:List Dat}{vs:List Value}{s:Shared},nA C vol env sc vars D s vs acc->k vars=some out->acc.length+out.length<=aM->∀(Q:PySem.Fin->Shared->Prop)(E:Value->Shared->Prop),(∀s' pO,gy C (CW D env sc) s s'->nA C vol env sc vars D s' pO (acc++out)->Q (.again (.compLoop (.ListComp elt gens uQ pos) depth (.ref I) (.ref D) env)) s')->aK (model C.prog C.w) A (fy elt gens uQ pos depth (.ref I) (.ref D) env) Q E s
theorem nA.less (st:nA C vol env sc vars' D s vs acc)(up:∀y sl,vars.lookup y=some sl->vars'.lookup y=some sl):nA C vol env sc vars D s vs acc:=⟨st.bV.less up,st.ki,st.at_,st.xc⟩
theorem uh (hA:cV C n A)(fx:oK C vol env sc D A){k:az->Option (List Dat)}(CF:∀x∈ifs,iU C Φ A x)(Dv:freshT vars t=true)(hk:wm C A vol env sc D I elt gens sc pos depth k):wk C A vol env sc vars D I elt gens sc pos depth t ifs (ei Φ sc t ifs vars k):=fun d out acc vs v s st hf hl r Q E hQ=>ao (x:=bp sc t d vars) hf fun b9 hb hf=>ao (x:=o8 Φ sc ifs b9) hf fun c hi hf=>ab (uu hA.handled fx.Rx st.bV st.ki hb r fun s1 x1 i1 f1 g1=>by
   have Jz:nA C vol env sc b9 D s1 vs acc:=⟨i1,f1,st.at_.keep fun o e=>x1.keep _ _ e st.dv st.sz st.JH,st.xc.Vp st.bV.vo st.ki.BG x1⟩;have VE:gy C (CW D env sc) s s1:=x1.mono fun a q=>.inr q;refine ab (wN fx.Rx CF i1 hi _ _ fun b' s2 x2 Ms=>?_);subst Ms;have KX:=Jz.ex x2;have Dp:=VE.trans x2.KU;have fin:∀s' pO,gy C (CW D env sc) s s'->nA C vol env sc b9 D s' pO (acc++out)->Q (.again (.compLoop (.ListComp elt gens sc pos) depth (.ref I) (.ref D) env)) s':=fun s' pO x z=>hQ s' pO x (z.less fun y sl=>wb hb Dv);clear hQ hi hb CF Dv;rcases b' with⟨⟩;case false=>obtain rfl:=Z9 hf;exact ah (fin s2 vs Dp (by refine xR (Zz _) ?_;exact KX))
   case true=>exact hk KX hf hl Q E fun s' pO x z=>fin s' pO (Dp.trans x) z)
set_option tactic.hygienic true in
theorem nA.grown (fx:oK C vol env sc D A)(jB:nA C vol env sc vars D s vs acc)(r3:Rep s.heap vol u d1)(Rj:LstAt h4 D (vs++[u]))(CA:Heap.SameBut D s.heap h4):gy C (CW D env sc) s {s with heap:=h4}/\nA C vol env sc vars D {s with heap:=h4} (vs++[u]) (acc++[d1]):=by
 refine iZ (id jB.at_) fun oD kD Rh YO YL Rp=>?_;have x4:gy C (CW D env sc) s {s with heap:=h4,toks:=s.toks}:=gy.same CA.extBut (.inl rfl) jB.dv (fun q=>(jB.sz q).elim) (fun oa pO y t' e1 e2=>by replace e1:=Rh.symm.trans e1;obtain rfl:=Z9 e1;replace e2:=Rp.symm.trans e2;rcases e2 with⟨⟩);refine⟨x4,?_⟩;have M1:Bs C {s with heap:=h4,toks:=s.toks}:=x4.bs jB.bV.bs (fx.new jB.ki);have qR:∀b o,s.heap.get? b=some o->b≠D->h4.get? b=some o:=fun b o e q=>(CA.2 b q).trans e;have VZ:∀{o:Obj},s.heap.get? D=some o->o=oD:=fun e=>by replace e:=Rh.symm.trans e;exact(Z9 e).symm
 refine⟨⟨M1,⟨jB.bV.vo.tabs,jB.bV.vo.gS,fun a ha=>?_⟩,fun y sl hy=>?_,fun y c hc=>?_⟩,jB.ki.keep fun b o e w=>.of (qR b o e fun q=>jB.JH (q▸w)),Rj,?_⟩
 ·by_cases q:a=D
  ·cases q;refine eZ Rj fun o x ho x=>?_;exact⟨o,ho⟩
  ·refine aJ (jB.bV.vo.there a ha) fun o e=>?_;exact⟨o,qR a o e q⟩
 ·refine ax (jB.bV.lo y sl hy) fun w hw hr=>?_;refine⟨w,hw.keep (fun o e hd=>.of (qR _ _ e (ij (P:=fun o=>∃es n,o.data=.dict es n) e Rh hd fun⟨_,_,q⟩=>nomatch Rp.symm.trans q))) fun b o c e hd=>qR _ _ e (ij (P:=fun o=>∃c,o.data=.cell c) e Rh ⟨c,hd⟩ fun⟨_,q⟩=>nomatch Rp.symm.trans q),?_⟩
  ·rcases sl with⟨⟩;case val d'=>exact Rep.dE fx.vD CA.extBut hr
   case own d'=>refine ZU fun hG=>?_;obtain⟨ro,a0,NA,Ie,Mf⟩:=hr;refine hG ?_;have iX:a0≠D:=fun q=>Mf (q▸fx.dL);refine⟨?_,a0,NA,Ie,Mf⟩;cases NA;cases ro with|rep r=>exact .rep (Rep.dE fx.vD CA.extBut r)|list h1 h2 h3 Qm h5=>exact .list (qR _ _ h1 iX) h2 h3 Qm (h5.dE fx.vD CA.extBut)|ba h1 h2 h3=>exact .ba (qR _ _ h1 iX) h2 h3
 ·refine eZ (jB.bV.cells y c hc) fun w o b3 b4=>?_;exact⟨w,o,qR _ _ b3 (fun q=>by replace b3:=q▸b3;replace b4:=Rp▸(VZ b3)▸b4;rcases b4 with⟨⟩),b4⟩
 ·exact(jB.xc.dE fx.vD CA.extBut).append (.cons (Rep.dE fx.vD CA.extBut r3) .nil)
theorem MP (Fn:eX C Φ A elt)(fx:oK C vol env sc D A)(jx:gens[depth+1]?=none):wm C A vol env sc D I elt gens sc pos depth (fun vs=>(ev Φ sc elt vs).map one):=fun{vars out acc vs s}st hf hl Q E hQ=>aZ (x:=ev Φ sc elt vars) hf fun d1 hv hf=>by subst hf;unfold fy;refine xR jx ?_;refine ab (ab (Fn fx.Rx st.bV hv _ _ fun u s3 x3 r3=>?_));have jB:=st.ex x3;refine ab (oC jB.at_ (by refine xR jB.xc.length ?_;exact hl) fun h4 Rj CA=>ah (ah ?_));refine aL (jB.grown fx r3 Rj CA) fun x4 N8=>?_;exact hQ _ _ (x3.KU.trans x4) N8
set_option tactic.hygienic true in
theorem Rep.zq (r:Rep h vol v d)(hd:bb d=some ds)(ha:v=.ref a):¬vol a:=by
 subst ha;rcases d with⟨⟩;case list l=>refine jI r.oX fun b o vs n e hv q=>?_;rcases e with⟨⟩;exact hv
 case tuple l=>refine jI r.tuple' fun b o vs n e hv q=>?_;rcases e with⟨⟩;exact hv
 case range x y z=>refine jI r.range' fun l t u w e hv q=>?_;rcases e with⟨⟩;exact hv
 case bytes b=>refine aJ r.f7 fun t e=>?_;(rcases e with⟨⟩)
 case str x=>refine aJ r.jS fun t e=>?_;(rcases e with⟨⟩)
 all_goals (exact aa hd)
theorem Hi (fx:oK C vol env sc D A){w:Value}(jB:nA C vol env sc vars D s vs acc)(hit:bb src=some items)(r3:aT s.heap vol w src/\(Rep s.heap vol w src\/∃a,w=.ref a/\vol a/\a+1≠env.locals)):∀a,w=.ref a->¬(CW D env sc a\/C.T a\/C.fr a):=by
 rintro a rfl q;refine Z4 q (fun q=>?_) fun q=>?_
 ·have WA:=r3.1;have Ic:=fx.cw jB.ki a q;have key:∀{o:Obj}{pO:Array Value}{k:Nat},a≠D->s.heap.get? a=some o->o.data=.seq pO k->False:=by
   intro o pO k hn ho hd;refine Z4 (q.resolve_left hn) (fun q=>?_) fun y0=>?_
   ·refine jI jB.ki.ns fun m o' es ep iJ cB y=>?_;rw[<-q,ho]at iJ;obtain rfl:=Z9 iJ;replace cB:=hd.symm.trans cB;rcases cB with⟨⟩
   ·refine ax y0 fun x q1 q2=>?_;obtain⟨_,_,v',o',iJ,cB⟩:=jB.ki.cell x a q1 q2;rw[ho]at iJ;obtain rfl:=Z9 iJ;replace cB:=hd.symm.trans cB;rcases cB with⟨⟩
  refine Z4 r3.2 (fun r=>?_) fun y0=>?_
  ·exact(r.zq hit rfl) Ic
  ·refine eD y0 fun a' e1 e2 e3=>?_;rcases e1 with⟨⟩;have hn:a≠D:=fun q=>e3 (q▸fx.dL);cases WA with|list ho hc JW hd hr=>exact key hn ho hd|ba ho hc hd=>exact aa hit|rep r=>exact(r.zq hit rfl) Ic
 ·exact r3.1.JG jB.bV.bs jB.bV.vo hit rfl q
theorem HJ (hA:cV C n A)(fx:oK C vol env sc D A){k:az->Option (List Dat)}(Mj:eX C Φ A it)(jx:gens[depth+1]?=some ⟨t,it,ifs,0⟩)(ih:∀{vars I},freshT vars t=true->wk C A vol env sc vars D I elt gens sc pos (depth+1) t ifs (ei Φ sc t ifs vars k)):wm C A vol env sc D I elt gens sc pos depth (fun vars=>if(0:Int)=0/\freshT vars t=true then(orOwn it vars (ev Φ sc it vars)).bind fun src=>(bb src).bind fun items=>cG (ei Φ sc t ifs vars k) items else none):=fun{vars out acc vs s}KX hf hl Q E hQ=>aI hf fun Dv hf=>ao (x:=orOwn it vars (ev Φ sc it vars)) hf fun src sH hf=>ao (x:=bb src) hf fun items hit hf=>by
 have To:freshT vars t=true:=Dv.2
 unfold fy
 refine xR jx ?_
 refine ab (tO Mj fx.Rx KX.bV sH _ _ fun w s3 x3 r3=>ab (aq ?_))
 have jB:=KX.ex x3
 refine xR (g8 (gj sH) _) ?_
 refine ab (ah (ab (ar ?_)))
 have yS:∀a,CW D env sc a\/C.T a\/C.fr a->∃o,s3.heap.get? a=some o:=fun a q=>by
  refine Z4 q (fun q=>?_) fun q=>?_
  ·exact jB.bV.vo.there a (fx.cw jB.ki a q)
  ·exact jB.bV.vo.there a (jB.bV.vo.tf a q)
 refine pS (W:=fun a=>CW D env sc a\/C.T a\/C.fr a) r3.1 hit yS (Hi fx jB hit r3) fun I' h4 Qh CE xI=>?_
 have x4:Ex C s3 {s3 with heap:=h4}:=.of_keep CE rfl rfl
 have N8:=jB.ex x4
 have nT:¬C.T I':=fun q=>by refine aJ (yS I' (.inr (.inl q))) fun o e=>?_;rw[Qh]at e;exact aa e
 have nF:¬C.fr I':=fun q=>by refine aJ (yS I' (.inr (.inr q))) fun o e=>?_;rw[Qh]at e;exact aa e
 have nV:¬vol I':=fun q=>by refine aJ (jB.bV.vo.there I' q) fun o e=>?_;rw[Qh]at e;exact aa e
 have n0:C.h₀.get? I'=none:=by cases e:C.h₀.get? I' with|none=>rfl|some o=>have:=jB.bV.bs.keep I' o e nT;rw[Qh]at this;exact aa this
 have n3:s.heap.get? I'=none:=by cases e:s.heap.get? I' with|none=>rfl|some o=>have:=x3.keep I' o e nT nF;rw[Qh]at this;exact aa this
 have xa:gy C (CW D env sc) s s3:=x3.KU
 refine ab (gz ?_)
 refine mZ (t:=t) (itE:=it) (ifs:=ifs) jx xI ?_
 exact pe (t:=t) (itE:=it) (ifs:=ifs) jx fx _ n0 nT nV (ih To) items out acc vs {s3 with heap:=h4} xI N8 hf hl fun s5 Us RK Nk=>ah (hQ s5 Us (gy.QD (I:=I') (((xa.mono fun a q=>.inl q).trans x4.KU).trans RK) n3 n0) Nk)
theorem w4 (Fn:eX C Φ A elt)(hA:cV C n A)(nZ:∀g∈gens,eX C Φ A g.iter/\∀x∈g.ifs,iU C Φ A x)(fx:oK C vol env sc D A):∀(rest:List Comprehension)(depth:Nat)(t:Expr)(ifs:List Expr)(vars:az)(I:Addr),gens.drop (depth+1)=rest->(∀x∈ifs,iU C Φ A x)->freshT vars t=true->wk C A vol env sc vars D I elt gens sc pos depth t ifs (ei Φ sc t ifs vars fun vs=>gK Φ sc rest vs fun vs=>(ev Φ sc elt vs).map one):=by
 intro rest;induction rest with
 |nil=>intro depth t ifs vars I o4 CF Dv;exact uh hA fx CF Dv (MP Fn fx (List.getElem?_eq_none (by have:=congrArg List.length o4;rw[List.length_drop,List.length_nil]at this;exact aR 0x91b01891b0c22 rfl this)))
 |cons y0 rest ih=>
  intro depth t ifs vars I o4 CF Dv;obtain⟨t',Wb,Po,a'⟩:=y0;have jx:gens[depth+1]?=some ⟨t',Wb,Po,a'⟩:=by have:=congrArg (·[0]?) o4;rw[List.getElem?_drop]at this;exact this
  have P5:gens.drop (depth+1+1)=rest:=by rw[<-List.drop_drop,o4];rfl
  have hg:=nZ _ (ZD jx);refine uh hA fx CF Dv fun{vars out acc vs s}st hf=>?_;have ha:a'=0:=aI hf fun q y=>q.1;subst ha;exact HJ hA fx hg.1 jx (fun{vars I}h=>ih (depth+1) t' Po vars I P5 hg.2 h) st hf
theorem IH {v i:Expr}(h:∀a b c d,i≠.Slice a b c d):ev Φ sc (.Subscript v i p) vars=(orOwn v vars (ev Φ sc v vars)).bind fun a=>(ev Φ sc i vars).bind fun i=>ez a i:=by rcases i with⟨⟩<;>first|rfl|exact((h _ _ _ _) rfl).elim
theorem H9 (hO:cj C n)(hA:cV C n A){v i:Expr}(fO:∀a b c d,i≠.Slice a b c d)(hv:eX C Φ A v)(hi:eX C Φ A i)(e:aN env sc)(j:In C vol env vars s)(h:ev Φ sc (.Subscript v i p) vars=some d):dY C A vol (eval (.Subscript v i p) env) d s:=ao ((IH fO).symm.trans h) fun a h1 h=>ao h fun b h2 h E Q q=>lb (du hv e j h1 _ _ fun u s1 x1 r1=>hi e (j.ex x1) h2 _ _ fun w s2 x2 r2=>have j2:=(j.ex x1).ex x2;hO.item hA j2.bs j2.vo (r1.ex (j.ex x1).bs (j.ex x1).vo x2) r2 h fO _ _ fun z s3 x3 r3=>q z s3 ((x1.trans x2).trans x3) r3)
set_option tactic.hygienic true in
theorem Jn (h:Uh d=some l):∃k,d=.int k/\l=some k:=by
 rcases d with⟨⟩;case int k=>exact⟨k,rfl,(Z9 h).symm⟩
 all_goals (exact aa h)
set_option tactic.hygienic true in
theorem vd {x:Option Expr}(hx:∀y,x=some y->eX C Φ A y)(e:aN env sc)(i:In C vol env vars s)(h:FK Φ sc x vars=some l):Wp C A (evalPart x env) (fun v z=>IsPart v l) s:=by
 rcases x with⟨⟩;case none=>obtain rfl:=Z9 h;exact Wp.pure .none
 case some y=>refine ao (x:=ev Φ sc y vars) h fun d h1 h=>?_;refine ax (Jn h) ?_;rintro k (rfl) (rfl);exact Wp.mono (hx y rfl e i h1) fun v s1 x1 r=>by refine aJ r.eS ?_;rintro t (rfl);exact .int _ _
theorem jV (hO:cj C n)(hA:cV C n A){v:Expr}{lo hi st:Option Expr}{q:Pos}{d:Dat}(hv:eX C Φ A v)(h1:∀y,lo=some y->eX C Φ A y)(h2:∀y,hi=some y->eX C Φ A y)(h3:∀y,st=some y->eX C Φ A y)(e:aN env sc)(j:In C vol env vars s)(h:ev Φ sc (.Subscript v (.Slice lo hi st q) p) vars=some d):dY C A vol (eval (.Subscript v (.Slice lo hi st q) p) env) d s:=ao (x:=orOwn v vars (ev Φ sc v vars)) h fun a ha h=>ao (x:=FK Φ sc lo vars) h fun l1 e1 h=>ao (x:=FK Φ sc hi vars) h fun l2 e2 h=>ao (x:=FK Φ sc st vars) h fun l3 e3 h E Q k=>lb (du hv e j ha _ _ fun u s1 x1 r1=>have j1:=j.ex x1;BB (vd h1 e j1 e1 _ _ fun v1 s2 x2 p1=>vd h2 e (j1.ex x2) e2 _ _ fun v2 s3 x3 p2=>vd h3 e ((j1.ex x2).ex x3) e3 _ _ fun v3 s4 x4 p3=>by have j4:=((j1.ex x2).ex x3).ex x4;have x5:Ex C s4 {s4 with heap:=s4.heap.push {cls:=.type "slice",data:=.fields #[v1,v2,v3]}}:=.of_keep (fun b o e=>Z3 _ e) rfl rfl;have xx:=((x2.trans x3).trans x4).trans x5;exact hO.slice hA (j4.ex x5).bs (j4.ex x5).vo (r1.ex j1.bs j1.vo xx) ⟨_,ZO _ rfl,rfl,rfl⟩ p1 p2 p3 h _ _ fun z s6 x6 r6=>k z s6 ((x1.trans xx).trans x6) r6))
theorem HY (hy:eX C Φ A y)(e:aN env sc)(i:In C vol env vars s)(h:dg Φ sc [.Starred y p'] vars=some ds):Wp C A (evalArgs f true (backTo p (starEach [.Starred y p'] env)) []) (fun x s'=>x.kw=[]/\aH s'.heap vol x.pos ds) s:=ao (x:=(orOwn y vars (ev Φ sc y vars)).bind Rz) h fun Rw h h0=>ao h fun d' h2 h E Q k=>by
  have hd:d'=.list Rw/\Rw.length<=aM:=by
   rcases d' with⟨⟩;case list l=>exact aI h fun hc h=>by obtain rfl:=Z9 h;exact⟨rfl,hc⟩
   all_goals (exact aa h)
  refine aL hd ?_;clear hd;rintro(rfl) eT;obtain rfl:Rw=ds:=(Zz Rw).symm.trans (Z9 h0);clear h h0;delta evalArgs;dsimp only;refine ab (ab (du hy e i h2 _ _ fun v s1 x1 r1=>ab (aq (ah (ab (ah (ar ?_)))))));refine cL r1.oX ?_;rintro b o' vs k' (rfl) iJ n7 y0;refine bg y0 fun JW cB PF=>?_;refine ab (ah (ab (ab (fF (kJ iJ n7) slot_list_iter.lookup ?_))));show aK _ A (holding [] (collect (.ref b))) _ E s1;refine ar (ai <|wpAny_collect_seq b (.inl rfl) iJ n7 cB (fun h' hk=>?_) (by refine xR ZT (xR PF.length ?_);exact bx eT));have x2:Ex C s1 {s1 with heap:=h'}:=.of_keep hk rfl rfl;exact ah (k _ _ (x1.trans x2) ⟨rfl,PF.ex (i.ex x1).vo x2⟩)
theorem Lm:∀{l:List (Bool×Sem Value)},(∀t,l≠[(true,t)])->evalArgs f true l []=(spliced l>>=fun vs=>holding (vs++[]) (pure ⟨vs,[]⟩))|[],_=>rfl|(false,_)::_,_=>rfl|[(true,t)],h=>absurd rfl (h t)|(true,_)::_::_,_=>rfl
theorem D2 {p:Pos}:∀es:List Expr,(backTo p (starEach es env)).length=es.length:=by
 intro es;induction es with
 |nil=>exact rfl
 |cons x es vz=>
  have ih:=vz;unfold backTo at ih ⊢;rw[Z2]at ih ⊢;by_cases hz:∃y p',x=.Starred y p'
  ·refine jK hz ?_;clear hz;rintro y p' (rfl);exact congrArg (·+1) ih
  ·rw[bH fun a b c=>hz ⟨a,b,c⟩];exact congrArg (·+1) ih
theorem Jo (hx:∀x∈args,∀y,(x=y\/∃p,x=.Starred y p)->eX C Φ A y)(e:aN env sc)(i:In C vol env vars s)(h1:dg Φ sc args vars=some ds):Wp C A (evalArgs f true (backTo p (starEach args env)) []) (fun x s'=>x.kw=[]/\aH s'.heap vol x.pos ds) s:=by
 by_cases hl:∃y p',args=[.Starred y p']
 ·refine jK hl ?_;clear hl;rintro y p' (rfl);exact HY (hx _ Z6 y (.inr ⟨p',rfl⟩)) e i h1
 ·rw[Lm fun t ht=>?_]
  ·exact fun E Q k=>ab (AO (pos:=p) e hx i h1 _ _ fun vs s1 x1 p1=>ar (ah (k _ s1 x1 ⟨rfl,p1⟩)))
  ·have hn:=D2 (p:=p) (env:=env) args;rw[ht]at hn;match args,hn with
   |[z],_=>
    by_cases hz:∃y p',z=.Starred y p'
    ·refine jK hz ?_;clear hz;rintro y p' (rfl);exact hl ⟨y,p',rfl⟩
    ·rw[bH fun a b c=>hz ⟨a,b,c⟩]at ht;have:=congrArg (List.map (·.1)) ht;exact nomatch this
theorem Qv (hC:C.Ok)(hF:b7 C Φ n)(hA:cV C n A)(hx:∀x∈args,∀y,(x=y\/∃p,x=.Starred y p)->eX C Φ A y)(e:aN env sc)(i:In C vol env vars s)(hf:sc.names.lookup f=some .globalImplicit)(hg:Φ.fn f=some g)(h1:dg Φ sc args vars=some ds)(h:g ds=some d):dY C A vol (eval (.Call (.Name f q) args [] p) env) d s:=by refine uA (hF.fn hg) fun a o fd hm hd hT ho y0=>?_;refine aL y0 fun Xe call=>?_;intro E Q k;refine ab (n9 hC e i.bs hf hd hm (me (o:=o) (fd:=fd) (Jo hx e i h1 _ _ fun x s1 x1 r1=>⟨⟨(i.ex x1).bs.keep a o ho hT,Xe⟩,?_⟩)));obtain⟨ps,kw⟩:=x;refine aL r1 ?_;clear r1;rintro(rfl) r1;exact call hA (i.ex x1).bs (i.ex x1).vo r1 h _ _ fun v s2 x2 r2=>k v s2 (x1.trans x2) r2
theorem M4 (hC:C.Ok)(hF:b7 C Φ n)(hA:cV C n A)(hx:∀x∈args,eX C Φ A x)(e:aN env sc)(i:In C vol env vars s)(hf:sc.names.lookup f=some .globalImplicit)(hg:Φ.rO f=some g)(h1:jq Φ sc args vars=some ds)(h:g ds=some d):dY C A vol (eval (.Call (.Name f q) args [] p) env) d s:=by refine uB (hF.rO hg) fun v hm hb hd WL call=>?_;intro E Q k;refine ab (fz hC e i.bs hf hd hm hb ?_);have fO:=jt (pos:=p) (kc (env:=env) h1);refine bQ WL fO (cn fO (nX e hx i h1) _ _ fun x s1 x1 r1=>?_);obtain⟨ps,kw⟩:=x;refine aL r1 ?_;clear r1;rintro(rfl) r1;exact call hA (i.ex x1).bs (i.ex x1).vo r1 h _ _ fun v s2 x2 r2=>k v s2 (x1.trans x2) r2
theorem FG (fO:l.any (·.1)=false)(hl:m<30):methodCallForm (m+0) l (backToKw p (keywordEach [] env))=true:=by
 have h1:l.all (!·.1)=true:=by rw[List.all_eq_true];intro x hx;refine xR (Bool.eq_false_iff.mpr (List.any_eq_false.mp fO x hx)) ?_;rfl
 show(l.all (!·.1)&&true&&decide (m+0+0<30))=true;refine xR h1 ?_;exact decide_eq_true hl
theorem rH {o:Expr}(hp:(ap.endLine==p.line)=true):methodCallPos true o env ap p=pure p:=by unfold methodCallPos;simp only[Bool.not_true,Bool.false_or,hp,if_true]
theorem HO (hF:b7 C Φ n)(hA:cV C n A){o:Expr}{a:Dat}(ho:eX C Φ A o)(hx:∀x∈args,eX C Φ A x)(e:aN env sc)(i:In C vol env vars s)(hb:kL o=true)(hp:(ap.endLine==p.line)=true)(hl:args.length<30)(h0:orOwn o vars (ev Φ sc o vars)=some a)(h1:vM Φ sc args vars=some ds)(h:Φ.nQ m a ds=some d):dY C A vol (eval (.Call (.Attribute o m ap) args [] p) env) d s:=by
 intro E Q k;have e0:attributeBase o m env (eval o env)=eval o env:=by rcases o with⟨⟩<;>first|rfl|rcases hb with⟨⟩
 show aK _ A (attributeBase o m env (eval o env)>>=fun ov=>standAt ap.atName>>=fun y=>methodCall o m ap p env ov (args.length+0) (backTo p (starEach args env)) (backToKw p (keywordEach [] env))) Q E s;refine xR e0 ?_;refine ab (du ho e i h0 _ _ fun v s1 x1 r1=>ab (aq ?_));have i1:=i.ex x1;refine ax (hF.nQ h i1.bs i1.vo r1) fun id hm call=>?_;have fO:=jt (pos:=p) (lr (env:=env) h1);have CN:methodCallForm (args.length+0) (backTo p (starEach args env)) (backToKw p (keywordEach [] env))=true:=FG fO hl;unfold methodCall;refine xR CN ?_;refine ab (ar ?_);refine hm _ _ fun r s2 x2 hr=>?_;subst hr;refine ab (Eq.mpr (congrArg (fun t=>aK (model C.prog C.w) A t _ E s2) (rH (o:=o) hp)) (ah ?_));have i2:=i1.ex x2;refine bQ (fun y q=>by rcases q with⟨⟩) fO (cn fO (iH e hx i2 h1) _ _ fun x s3 x3 r3=>?_);obtain⟨ps,kw⟩:=x;refine aL r3 ?_;clear r3;rintro(rfl) r3;have i3:=i2.ex x3;exact call hA i3.bs i3.vo (r1.ex i1.bs i1.vo (x2.trans x3)) r3 _ _ fun v s4 x4 r4=>k v s4 (x1.trans ((x2.trans x3).trans x4)) r4
theorem DT {x:Expr}{es:List Expr}(h:x∈es):sizeOf x<sizeOf es:=List.sizeOf_lt_of_mem h
theorem oN (hO:cj C n)(hA:cV C n A){x:Expr}(hx:eX C Φ A x)(e:aN env sc)(i:In C vol env vars s)(he:∀whole,isTrue x env whole=(do let v <-whole;standAt x.pos;holding [v] (truthy v)))(h:(ev Φ sc x vars).bind nE=some b):Wp C A (isTrue x env (eval x env)) (fun t y=>t=b) s:=ao h fun d h1 h E Q q=>nB (hx e i h1 _ _ fun v s1 x1 r1=>hO.Q5 hA (i.ex x1).bs (i.ex x1).vo (.rep r1) h _ _ fun t s2 x2 ht=>q t s2 (x1.trans x2) ht) (he _)
theorem Ag (hO:cj C n)(hA:cV C n A)(hl:eX C Φ A l)(hc:∀y∈cs,eX C Φ A y)(e:aN env sc)(i:In C vol env vars s)(h:ev Φ sc (.Compare l ops cs p) vars=some d):dY C A vol (eval (.Compare l ops cs p) env) d s:=ao (x:=orOwn l vars (ev Φ sc l vars)) h fun a h1 h=>ao (x:=lA Φ sc a ops cs vars) h fun b h2 h E Q q=>by obtain rfl:=Z9 h;show aK _ A (eval l env>>=fun v=>compareChain p v ops (markedEach ops cs (evalEach cs env))) Q E s;exact ab (du hl e i h1 _ _ fun v s1 x1 r1=>(rD hO hA e hc (i.ex x1) r1 h2).1 _ _ fun u s2 x2 hu=>hu▸q _ s2 (x1.trans x2) (.bool b))
theorem ym (hO:cj C n)(hA:cV C n A)(hl:eX C Φ A l)(hc:∀y∈cs,eX C Φ A y)(e:aN env sc)(i:In C vol env vars s)(h:(orOwn l vars (ev Φ sc l vars)).bind (fun a=>lA Φ sc a ops cs vars)=some b):Wp C A (isTrue (.Compare l ops cs p) env (eval (.Compare l ops cs p) env)) (fun t x=>t=b) s:=ao h fun a h1 h E Q q=>by show aK _ A (eval l env>>=fun v=>testChain p v ops (markedEach ops cs (evalEach cs env))) Q E s;exact ab (du hl e i h1 _ _ fun v s1 x1 r1=>(rD hO hA e hc (i.ex x1) r1 h).2 _ _ fun u s2 x2 hu=>q _ s2 (x1.trans x2) hu)
theorem E7 {b o:Expr}(ht:iU C Φ A t)(hb:eX C Φ A b)(ho:eX C Φ A o)(e:aN env sc)(i:In C vol env vars s)(h:ev Φ sc (.IfExp t b o p) vars=some d):dY C A vol (eval (.IfExp t b o p) env) d s:=ao (x:=dO Φ sc t vars (ev Φ sc t vars)) h fun c h1 h E Q q=>BD (ht e i h1 _ _ fun c' s1 x1 hc=>by
  subst hc;rcases c' with⟨⟩;case true=>exact hb e (i.ex x1) h _ _ fun v s2 x2 r2=>q v s2 (x1.trans x2) r2
  case false=>exact ho e (i.ex x1) h _ _ fun v s2 x2 r2=>q v s2 (x1.trans x2) r2)
theorem Cv {c o:Expr}(ht:iU C Φ A t)(hb:iU C Φ A c)(ho:iU C Φ A o)(e:aN env sc)(i:In C vol env vars s)(h:(dO Φ sc t vars (ev Φ sc t vars)).bind (fun x=>bX x (dO Φ sc c vars (ev Φ sc c vars)) (dO Φ sc o vars (ev Φ sc o vars)))=some b):Wp C A (isTrue (.IfExp t c o p) env (eval (.IfExp t c o p) env)) (fun t y=>t=b) s:=ao h fun x h1 h E Q q=>by
  show aK _ A (isTrue t env (eval t env)>>=fun b=>if b=true then isTrue c env (eval c env)else isTrue o env (eval o env)) Q E s;refine ab (ht e i h1 _ _ fun c2 s1 x1 hc=>?_);subst hc;rcases c2 with⟨⟩;case true=>exact hb e (i.ex x1) h _ _ fun v s2 x2 r2=>q v s2 (x1.trans x2) r2
  case false=>exact ho e (i.ex x1) h _ _ fun v s2 x2 r2=>q v s2 (x1.trans x2) r2
theorem HZ (hx:∀y∈es,eX C Φ A y)(e:aN env sc)(i:In C vol env vars s)(h:ev Φ sc (.List es p) vars=some d):dY C A vol (eval (.List es p) env) d s:=ao (x:=vM Φ sc es vars) h fun ds h1 h=>aI h fun eT h E Q q=>by obtain rfl:=Z9 h;refine wG (iH e hx i h1 _ _ fun vs s1 x1 r1=>⟨by rw[r1.length];exact bx eT,?_⟩);have x2:Ex C s1 {s1 with heap:=s1.heap.push {cls:=.type "list",data:=.seq vs.toArray}}:=.of_keep (fun b o e=>Z3 _ e) rfl rfl;exact q _ _ (x1.trans x2) (.list ((i.ex x1).vo.new (aE _)) (ZO _ rfl) rfl rfl rfl (r1.ex (i.ex x1).vo x2))
theorem DO (hx:∀y∈es,eX C Φ A y)(e:aN env sc)(i:In C vol env vars s)(h:ev Φ sc (.Tuple es j p) vars=some d):dY C A vol (eval (.Tuple es j p) env) d s:=ao (x:=vM Φ sc es vars) h fun ds h1 h=>aI h fun eT h E Q q=>by obtain rfl:=Z9 h;refine BA (iH e hx i h1 _ _ fun vs s1 x1 r1=>⟨by rw[r1.length];exact bx eT,?_⟩);have x2:Ex C s1 {s1 with heap:=s1.heap.push {cls:=.type "tuple",data:=.seq vs.toArray}}:=.of_keep (fun b o e=>Z3 _ e) rfl rfl;exact q _ _ (x1.trans x2) (.tuple ((i.ex x1).vo.new (aE _)) (ZO _ rfl) rfl rfl (r1.ex (i.ex x1).vo x2))
theorem vp (hC:C.Ok)(hF:b7 C Φ n)(hA:cV C n A)(hx:∀x∈args,∀y,(x=y\/∃p,x=.Starred y p)->eX C Φ A y)(e:aN env sc)(i:In C vol env vars s)(h:ev Φ sc (.Call (.Name f q) args [] p) vars=some d):dY C A vol (eval (.Call (.Name f q) args [] p) env) d s:=by
 have h':(if vars.lookup f=none/\sc.names.lookup f=some .globalImplicit then(match Φ.fn f with
     |some g=>(dg Φ sc args vars).bind g|none=>(Φ.rO f).bind fun g=>(jq Φ sc args vars).bind g)
    else none)=some d:=h
 clear h;refine aI h' fun hg h=>?_;cases Tr:Φ.fn f with|some g=>rw[Tr]at h;exact ao h fun ds h1 h=>Qv hC hF hA hx e i hg.2 Tr h1 h|none=>rw[Tr]at h;exact ao h fun g hb h=>ao h fun ds h1 h=>M4 hC hF hA (fun y hy=>hx y hy y (.inl rfl)) e i hg.2 hb h1 h
theorem vq (hF:b7 C Φ n)(hA:cV C n A){o:Expr}(ho:eX C Φ A o)(hx:∀x∈args,eX C Φ A x)(e:aN env sc)(i:In C vol env vars s)(h:ev Φ sc (.Call (.Attribute o m ap) args [] p) vars=some d):dY C A vol (eval (.Call (.Attribute o m ap) args [] p) env) d s:=aI (c:=kL o=true/\(ap.endLine==p.line)=true/\args.length<30) h fun hb h=>ao (x:=orOwn o vars (ev Φ sc o vars)) h fun a h1 h=>ao (x:=vM Φ sc args vars) h fun ds h2 h=>HO hF hA ho hx e i hb.1 hb.2.1 hb.2.2 h1 h2 h
theorem xK (hA:cV C n A){a:Int}(Fn:eX C Φ A elt)(nZ:∀g∈(⟨t,it,ifs,a⟩::rest:List Comprehension),eX C Φ A g.iter/\∀x∈g.ifs,iU C Φ A x)(e:aN env sc)(i:In C vol env vars s)(h:ev Φ sc (.ListComp elt (⟨t,it,ifs,a⟩::rest) bD p) vars=some d):dY C A vol (eval (.ListComp elt (⟨t,it,ifs,a⟩::rest) bD p) env) d s:=aI (c:=a=0/\fv sc bD=true/\freshT (bw bD vars) t=true) h fun ha h=>ao (x:=orOwn it vars (ev Φ sc it vars)) h fun src sH h=>ao (x:=bb src) h fun items hit h=>ao (x:=cG (ei Φ bD t ifs (bw bD vars) fun vs=>gK Φ bD rest vs fun vs=>(ev Φ bD elt vs).map one) items) h fun ds hm h=>aI h fun eT h E Q q=>by
  obtain rfl:=Z9 h;refine bg ha ?_;clear ha;rintro(rfl) eN Dv;clear h;show aK _ A (comprehension (.ListComp elt (⟨t,it,ifs,0⟩::rest) bD p) bD env (firstIterPos (⟨t,it,ifs,0⟩::rest) p) (newList []) false (eval it env)) Q E s;refine uf hA.handled e i eN (g8 (gj sH)) (du (nZ _ Z6).1 e i sH) hit _ hm eT (fun jb cenv D I fx=>w4 Fn hA nZ fx rest 0 t ifs _ I rfl (nZ _ Z6).2 Dv) fun L D s1 x1 r1 hL fO=>?_;refine aJ fO fun m yN=>?_;refine⟨m,yN,fun h' xZ=>?_⟩;refine sd (id yN) fun oL es ep CD Bd z=>?_;have hT:¬C.T L:=(x1.bs i.bs).dv CD (by rw[Bd];nofun);have x2:gy C (fun a=>a=L) s1 {s1 with heap:=h',toks:=s1.toks}:=gy.same xZ.extBut rfl hT (fun q=>by refine aJ (i.vo.there L (i.vo.gS L q)) fun o e=>?_;rw[hL]at e;exact aa e) (fun oa vs y t' e1 e2=>by rw[CD]at e1;obtain rfl:=Z9 e1;rw[Bd]at e2;rcases e2 with⟨⟩);exact q _ {s1 with heap:=h'} ((x1.KU.trans x2).NZ (fun a q=>q▸hL) fun a q=>q▸hT) (r1.FH CD (.inl ⟨_,_,Bd⟩) xZ.extBut)
theorem cI {x:Expr}(h:m<k+1)(hx:sizeOf x<m):sizeOf x<k:=Nat.lt_of_lt_of_le hx (Nat.le_of_lt_succ h)
theorem il {es:List Expr}{m:Nat}(h:m<k+1)(he:sizeOf es<m):∀x∈es,sizeOf x<k:=fun x hx=>Nat.lt_trans (DT hx) (Nat.lt_of_lt_of_le he (Nat.le_of_lt_succ h))
theorem AN {x:Expr}:sizeOf x<sizeOf (Expr.Starred x p):=by simp;exact aR 0x109bb001 rfl
set_option tactic.hygienic true in
theorem main (hC:C.Ok)(hO:cj C n)(hF:b7 C Φ n)(hA:cV C n A)(k:Nat)(ih:∀x:Expr,sizeOf x<k->eX C Φ A x/\iU C Φ A x)(x:Expr)(hk:sizeOf x<k+1):eX C Φ A x:=by
 intro env sc vol vars d s e i h;rcases x with⟨⟩;case Constant c j p=>exact F6 h
 case Name y p=>exact vn hC hF e i h
 case BinOp l op r p=>exact Aw hO hA (ih l (cI hk (by simp;exact cZ 0x32109bbbb001 rfl))).1 (ih r (cI hk (by simp;exact cZ 0x30219bbbb001 rfl))).1 e i h
 case UnaryOp op y p=>exact NT hO hA (ih y (cI hk (by simp;exact aX 0x2019bbb001 rfl))).1 e i h
 case BoolOp op vs p=>exact uo hO hA e (fun y hy=>(ih y (il hk (by simp;exact aX 0x2019bbb001 rfl) y hy)).1) i h
 case Compare l ops cs p=>exact Ag hO hA (ih l (cI hk (by simp;exact cZ 0x32109bbbb001 rfl))).1 (fun y hy=>(ih y (il hk (by simp;exact cZ 0x30219bbbb001 rfl) y hy)).1) e i h
 case IfExp t b o p=>exact E7 (ih t (cI hk (by simp;exact cZ 0x32109bbbb001 rfl))).2 (ih b (cI hk (by simp;exact cZ 0x32019bbbb001 rfl))).1 (ih o (cI hk (by simp;exact cZ 0x30219bbbb001 rfl))).1 e i h
 case List es p=>exact HZ (fun y hy=>(ih y (il hk (by simp;exact aR 0x109bb001 rfl) y hy)).1) e i h
 case Tuple es j p=>exact DO (fun y hy=>(ih y (il hk (by simp;exact aX 0x2109bbb001 rfl) y hy)).1) e i h
 case Subscript v j p=>
  by_cases hs:∃a b c d,j=.Slice a b c d
  ·refine Kv hs ?_;clear hs;rintro lo hi st q (rfl);exact jV hO hA (ih v (cI hk (by simp;exact AG 0x543219bbbb09bbb001 rfl))).1 (fun y hy=>(ih y (cI hk (by subst hy;simp;exact AG 0x543209b9bbbb19bbb001 rfl))).1) (fun y hy=>(ih y (cI hk (by subst hy;simp;exact AG 0x54309b29bbbb19bbb001 rfl))).1) (fun y hy=>(ih y (cI hk (by subst hy;simp;exact AG 0x5409b329bbbb19bbb001 rfl))).1) e i h
  ·exact H9 hO hA (fun a b c d q=>hs ⟨a,b,c,d,q⟩) (ih v (cI hk (by simp;exact aX 0x2109bbb001 rfl))).1 (ih j (cI hk (by simp;exact aX 0x2019bbb001 rfl))).1 e i h
 case Call f args A4 p=>
  have hx:∀y∈args,sizeOf y<k:=il hk (by simp;exact cZ 0x32019bbbb001 rfl);rcases A4 with⟨⟩;case cons kw A4=>exact aa h
  case nil=>
   rcases f with⟨⟩;case Attribute o m ap=>exact vq hF hA (ih o (cI hk (by simp;exact r8 0x4932109bbb9bbbb001 rfl))).1 (fun y hy=>(ih y (hx y hy)).1) e i h
   case Name g q=>
    refine vp hC hF hA (fun y hy z hz=>?_) e i h;refine Z4 hz (fun hz=>?_) fun y0=>?_
    ·exact(ih z (hz▸hx y hy)).1
    ·refine aJ y0 fun p' hz=>?_;exact(ih z (Nat.lt_trans AN (hz▸hx y hy))).1
   all_goals (exact aa h)
 case ListComp elt gens bD p=>
  rcases gens with⟨⟩;case nil=>exact aa h
  case cons g rest=>
   obtain⟨t,it,ifs,a⟩:=g;refine xK hA (ih elt (cI hk (by simp;exact Ni 0x76543219bbbb9bb09bbbb001 rfl))).1 (fun g hg=>?_) e i h;have Ro:sizeOf g.iter+sizeOf g.ifs<k:=by
    have h1:=List.sizeOf_lt_of_mem hg;obtain⟨a1,a2,a3,a4⟩:=g;simp only[Comprehension.mk.sizeOf_spec]at h1;have h2:sizeOf (⟨t,it,ifs,a⟩::rest:List Comprehension)<sizeOf (Expr.ListComp elt (⟨t,it,ifs,a⟩::rest) bD p):=by simp only[Expr.ListComp.sizeOf_spec];exact cZ 0x32019bbbb001 rfl
    show sizeOf a2+sizeOf a3<k;exact Q2 0x143b0060654329bbbb091b004 rfl hk h1 h2
   exact⟨(ih _ (Nat.lt_of_le_of_lt (Nat.le_add_right _ _) Ro)).1,fun y hy=>(ih y (Nat.lt_trans (DT hy) (Nat.lt_of_le_of_lt (Nat.le_add_left _ _) Ro))).2⟩
 all_goals (exact aa h)
set_option tactic.hygienic true in
theorem OM (hO:cj C n)(hA:cV C n A)(k:Nat)(ih:∀x:Expr,sizeOf x<k->eX C Φ A x/\iU C Φ A x)(x:Expr)(hk:sizeOf x<k+1)(hv:eX C Φ A x):iU C Φ A x:=by
 intro env sc vol vars b s e i h;rcases x with⟨⟩;case UnaryOp op y p=>
  rcases op with⟨⟩;case Not=>exact aZ (x:=dO Φ sc y vars (ev Φ sc y vars)) h fun c h1 h E Q q=>p8 ((ih y (cI hk (by simp;exact aR 0x1002abb001 rfl))).2 e i h1 _ _ fun t s1 x1 ht=>q _ s1 x1 (by rw[ht];exact h))
  all_goals (exact oN hO hA hv e i (fun z=>rfl) h)
 case BoolOp op vs p=>exact fun E Q q=>mx (M9 (pos:=p) e (fun y hy=>(ih y (il hk (by simp;exact aX 0x2019bbb001 rfl) y hy)).2) i h _ _ q)
 case Compare l ops cs p=>exact ym hO hA (ih l (cI hk (by simp;exact cZ 0x32109bbbb001 rfl))).1 (fun y hy=>(ih y (il hk (by simp;exact cZ 0x30219bbbb001 rfl) y hy)).1) e i h
 case IfExp t c o p=>exact Cv (ih t (cI hk (by simp;exact cZ 0x32109bbbb001 rfl))).2 (ih c (cI hk (by simp;exact cZ 0x32019bbbb001 rfl))).2 (ih o (cI hk (by simp;exact cZ 0x30219bbbb001 rfl))).2 e i h
 all_goals (exact oN hO hA hv e i (fun z=>rfl) h)
theorem both (hC:C.Ok)(hO:cj C n)(hF:b7 C Φ n)(hA:cV C n A):∀(k:Nat)(x:Expr),sizeOf x<k->eX C Φ A x/\iU C Φ A x:=by intro k;induction k with|zero=>intro x h;exact absurd h (Nat.not_lt_zero _)|succ k ih=>intro x h;exact⟨main hC hO hF hA k (ih) x h,OM hO hA k (ih) x h (main hC hO hF hA k (ih) x h)⟩
theorem cH (hC:C.Ok)(hO:cj C n)(hF:b7 C Φ n)(hA:cV C n A)(x:Expr):eX C Φ A x:=(both hC hO hF hA _ x (Nat.lt_succ_self _)).1
theorem kQ (hC:C.Ok)(hO:cj C n)(hF:b7 C Φ n)(hA:cV C n A)(x:Expr):iU C Φ A x:=(both hC hO hF hA _ x (Nat.lt_succ_self _)).2
inductive Fl where
 |next (vars:az)
 |brk (vars:az)
 |cont (vars:az)
 |ret (d:Dat)
noncomputable def xd (x:Dat):List Dat->Option (List Dat)
 |[]=>none
 |y::ys=>match lB y x with
  |some true=>some ys|some false=>(xd x ys).map (y::·)|none=>none
def qK (m:Str)(a:Dat)(args:List Dat):Option Dat:=match a,args with
 | .list ds,[d]=>if m="append" then(if ds.length+1<=aM then some (.list (ds++[d]))else none)else if m="extend" then(match d with| .tuple es=>if ds.length+es.length<=aM then some (.list (ds++es))else none|_=>none)else if m="remove" then(if ds.length<=aM then(xd d ds).map .list else none)else none
 |_,_=>none
def nH (a i d:Dat):Option Dat:=match a,i,d with
 | .list ds,.int i,d=>if 0<=i/\i<(ds.length:Int)/\ds.length<=aM then some (.list (ds.set i.toNat d))else none| .ba b,.int i,.int k=>if 0<=i/\i<(b.length:Int)/\b.length<=aM/\0<=k/\k<256 then some (.ba (b.set i.toNat k.toNat.toUInt8))else none|_,_,_=>none
def oq (Φ:gq)(sc:Scope)(e:Expr)(vars:az):Option (Dat×az):=match ev Φ sc e vars with
 |some d=>some (d,vars)|none=>(ev Φ sc e (aO vars)).map fun d=>(d,aO vars)
def sO (Φ:gq)(sc:Scope)(e:Expr)(vars:az):Option (Bool×az):=match dO Φ sc e vars (ev Φ sc e vars)with
 |some d=>some (d,vars)|none=>(dO Φ sc e (aO vars) (ev Φ sc e (aO vars))).map fun d=>(d,aO vars)
noncomputable def nY:Expr->Bool| .ListComp .. =>true| .SetComp .. =>true| .DictComp .. =>true|_=>false
noncomputable def isTup:Expr->Bool| .Tuple .. =>true|_=>false
def newD (f:Str)(ds:List Dat):Option Dat:=match ds with
 |[d]=>
  if f="list" then(match d with
   | .list _| .tuple _| .range _ _ _=>(match bb d with|some es=>if es.length<=aM then some (.list es)else none|none=>none)
   |_=>none)
  else if f="bytearray" then(match d with
   | .int n=>if 0<=n/\n<=(aM:Int)then some (.ba (List.replicate n.toNat 0))else none| .bytes b=>if b.length<=aM then some (.ba b)else none|_=>none)
  else none
 |_=>none
noncomputable def isNew (Φ:gq)(sc:Scope)(vars:az)(f:Str):Bool:=(f="list"||f="bytearray")&&(vars.lookup f).isNone&&sc.names.lookup f==some .globalImplicit&&(Φ.fn f).isNone
noncomputable def wg:Expr->Option (List Expr)| .List es _=>some es|_=>none
def um:Expr->Option (Str×List Expr)
 | .Call f args A4 _=>match A4 with
  |[]=>(asName f).map (·,args)|_=>none
 |_=>none
set_option tactic.hygienic true in
theorem AB:wg t=some ts->∃p,t=.List ts p:=by
 rcases t with⟨⟩;case List us p=>exact fun h=>⟨p,congrArg (Expr.List · p) (Z9 h)⟩
 all_goals exact aa
set_option tactic.hygienic true in
theorem C7:um t=some z->∃q p,t=.Call (.Name z.1 q) z.2 [] p:=by
 rcases t with⟨⟩;case Call f args A4 p=>
  rcases A4 with⟨⟩;case nil=>exact fun h=>aZ (x:=asName f) h fun x h1 h=>(fA h1).elim fun q e=>⟨q,p,by exact xL h (xR e rfl)⟩
  case cons k ks=>exact aa
 all_goals exact aa
noncomputable def BR (sc:Scope)(x:Str)(r:Dat×az):Option az:=bL sc x (.val r.1) r.2
def ig (Φ:gq)(sc:Scope)(x:Str)(value:Expr)(vars:az):Option az:=match wg value with
 |some es=>(vM Φ sc es vars).bind fun ds=>if ds.length<=aM then bL sc x (.own (.list ds)) vars else none|none=>bX ((um value).any fun z=>z.2.length==1&&isNew Φ sc vars z.1) ((um value).bind fun z=>(jq Φ sc z.2 vars).bind fun ds=>(newD z.1 ds).bind fun d=>bL sc x (.own d) vars) ((oq Φ sc value vars).bind (BR sc x))
noncomputable def jc (k:az->Option Fl):Fl->Option Fl| .next vars=>k vars| .cont vars=>k vars| .brk vars=>some (.next vars)| .ret d=>some (.ret d)
noncomputable def kW (k:az->Option Fl):Fl->Option Fl| .next vars=>k vars|r=>some r
noncomputable def cQ (step:Dat->az->Option Fl):List Dat->az->Option Fl|[],vars=>some (.next vars)|d::ds,vars=>(step d vars).bind (jc (cQ step ds))
def sj (test:az->Option Bool)(step:az->Option Fl):Nat->az->Option Fl|0,_=>none|k+1,vars=>(test vars).bind fun c=>bX c ((step vars).bind (jc (sj test step k))) (some (.next vars))
noncomputable def two:List Expr->Option (Expr×Expr)|[a,b]=>some (a,b)|_=>none
def v9 (e:Expr):Option (Str×Expr×Expr):=(um e).bind fun z=>(two z.2).map (z.1,·)
def la (Φ:gq)(sc:Scope)(it:Expr)(vars:az):Option (Expr×Expr):=(v9 it).bind fun z=>if z.1="zip"/\(Φ.rO z.1).isSome=true/\vars.lookup z.1=none/\sc.names.lookup z.1=some .globalImplicit then some z.2 else none
noncomputable def j9:Option Fl->Option Fl->Option Fl|some r,_=>some r|none,b=>b
noncomputable def ownOf (vars:az)(x:Str):Option Dat:=match vars.lookup x with
 |some (.own a)=>some a|_=>none
noncomputable def Kt:Dat->Dat->Option (List Dat)| .list xs,.list ys=>some (List.zipWith (fun x y=>.tuple [x,y]) xs ys)|_,_=>none
def sN (Φ:gq)(sc:Scope)(t it:Expr)(k:az->Option Fl)(vars:az):Option Fl:=match la Φ sc it vars with
  |some z=>bX (isTup t) ((ev Φ sc z.1 vars).bind fun x=>(ev Φ sc z.2 vars).bind fun y=>(Kt x y).bind fun zs=>cQ (fun d vs=>match bp sc t d vs with
      |none=>none|some vs=>k vs) zs vars) none
  |none=>(oq Φ sc it vars).bind fun r=>(bb r.1).bind fun items=>cQ (fun d vs=>match bp sc t d vs with
      |none=>none|some vs=>k vs) items r.2
inductive Tg where
 |name (x:Str)|tup|item (x:Str) (i:Expr)|no
def Q7:Expr->Tg
 | .Name x _=>.name x
 | .Tuple .. =>.tup
 | .Subscript o i _=>match asName o with
  |some x=>.item x i|none=>.no
 |_=>.no
noncomputable def Vz (t:Expr):Tg->Prop| .name x=>∃p,t=.Name x p| .tup=>∃ts k q,t=.Tuple ts k q| .item x i=>∃p q,t=.Subscript (.Name x p) i q| .no=>True
set_option tactic.hygienic true in
theorem N0 (t:Expr):Vz t (Q7 t):=by
 rcases t with⟨⟩;case Name x p=>exact⟨p,rfl⟩
 case Tuple ts k q=>exact⟨ts,k,q,rfl⟩
 case Subscript o i q=>show Vz _ (match asName o with|some x=>.item x i|none=>.no);cases h:asName o with|none=>exact trivial|some x=>exact(fA h).elim fun p e=>⟨p,q,e▸rfl⟩
 all_goals exact trivial
def Bm:Expr->Option (Str×Str×List Expr×Pos×Pos)
 | .Call f args A4 p=>match A4 with
  |[]=>match f with
   | .Attribute o m ap=>(asName o).map (·,m,args,ap,p)|_=>none
  |_=>none
 |_=>none
set_option tactic.hygienic true in
theorem C8:Bm e=some z->∃xp,e=.Call (.Attribute (.Name z.1 xp) z.2.1 z.2.2.2.1) z.2.2.1 [] z.2.2.2.2:=by
 rcases e with⟨⟩;case Call f args A4 p=>
  rcases A4 with⟨⟩;case cons k ks=>exact aa
  case nil=>
   rcases f with⟨⟩;case Attribute o m ap=>exact fun h=>aZ (x:=asName o) h fun x h1 h=>(fA h1).elim fun q e=>⟨q,by exact xL h (xR e rfl)⟩
   all_goals exact aa
 all_goals exact aa
def t7 (Φ:gq)(sc:Scope)(t value:Expr)(vars:az):Option Fl:=match Q7 t with
 | .name x=>(ig Φ sc x value vars).map .next| .tup=>bX (nY value||isTup value) none ((oq Φ sc value vars).bind fun r=>(bp sc t r.1 r.2).map .next)| .item x i=>bX (nY value) none ((ownOf vars x).bind fun a=>(ev Φ sc value vars).bind fun d=>(ev Φ sc i vars).bind fun j=>(nH a j d).map fun a'=>.next ((x,.own a')::vars))| .no=>none
def vL (Φ:gq)(sc:Scope)(e:Expr)(vars:az):Option Fl:=(Bm e).bind fun z=>if(z.2.2.2.1.endLine==z.2.2.2.2.line)=true/\z.2.2.1.length<30 then(ownOf vars z.1).bind fun a=>(vM Φ sc z.2.2.1 vars).bind fun ds=>(qK z.2.1 a ds).map fun a'=>.next ((z.1,.own a')::vars)else none
mutual
def ex (Φ:gq)(Ψ:Scope->Stmt->az->Option Fl)(sc:Scope):Stmt->az->Option Fl
 | .Assign ts value _,vars=>match ts with
  |[t]=>t7 Φ sc t value vars
  |_=>none
 | .Expr v _,vars=>vL Φ sc v vars
 | .If t b o _,vars=>(sO Φ sc t vars).bind fun r=>bX r.1 (bT Φ Ψ sc b r.2) (bT Φ Ψ sc o r.2)
 | .For t it b o _,vars=>match o with
  |[]=>sN Φ sc t it (fun vs=>bT Φ Ψ sc b vs) vars
  |_=>none
 | .While t b o _,vars=>match o with
  |[]=>sj (fun vs=>dO Φ sc t vs (ev Φ sc t vs)) (fun vs=>bT Φ Ψ sc b vs) Φ.fuel vars
  |_=>none
 | .Return v _,vars=>match v with
  |some e=>(oq Φ sc e vars).map fun r=>.ret r.1
  |none=>none
 | .Break _,vars=>some (.brk vars)
 |_,_=>none
def bT (Φ:gq)(Ψ:Scope->Stmt->az->Option Fl)(sc:Scope):List Stmt->az->Option Fl
 |[],vars=>some (.next vars)
 |st::sts,vars=>(j9 (Ψ sc st vars) (ex Φ Ψ sc st vars)).bind (kW (bT Φ Ψ sc sts))
end
def SV (st:Stmt):Prop:=(∃t v p,st=.Assign [t] v p)\/(∃v p,st=.Expr v p)\/(∃t b o p,st=.If t b o p)\/(∃t it b p,st=.For t it b [] p)\/(∃t b p,st=.While t b [] p)\/(∃e p,st=.Return (some e) p)\/∃p,st=.Break p
set_option tactic.hygienic true in
theorem Ab {Φ:gq}{Ψ:Scope->Stmt->az->Option Fl}{sc:Scope}{st:Stmt}{vars:az}{fl:Fl}:ex Φ Ψ sc st vars=some fl->SV st:=by
 rcases st with⟨⟩;case Assign ts v p=>
  rcases ts with⟨⟩;case nil=>exact aa
  case cons t ts=>cases ts with
   |nil=>exact fun x=>.inl ⟨t,v,p,rfl⟩|cons=>exact aa
 case Expr v p=>exact fun x=>.inr (.inl ⟨v,p,rfl⟩)
 case If t b o p=>exact fun x=>.inr (.inr (.inl ⟨t,b,o,p,rfl⟩))
 case For t it b o p=>
  rcases o with⟨⟩;case nil=>exact fun x=>.inr (.inr (.inr (.inl ⟨t,it,b,p,rfl⟩)))
  case cons=>exact aa
 case While t b o p=>
  rcases o with⟨⟩;case nil=>exact fun x=>.inr (.inr (.inr (.inr (.inl ⟨t,b,p,rfl⟩))))
  case cons=>exact aa
 case Return v p=>
  rcases v with⟨⟩;case none=>exact aa
  case some e=>exact fun x=>.inr (.inr (.inr (.inr (.inr (.inl ⟨e,p,rfl⟩)))))
 case Break p=>exact fun x=>.inr (.inr (.inr (.inr (.inr (.inr ⟨p,rfl⟩)))))
 all_goals exact aa
theorem pX {P:Prop}(h:oq Φ sc e vars=some r)(h1:ev Φ sc e vars=some r.1->r.2=vars->P)(h2:ev Φ sc e (aO vars)=some r.1->r.2=aO vars->P):P:=by
 unfold oq at h;cases q:ev Φ sc e vars with
 |some d=>rw[q]at h;obtain rfl:=Z9 h;exact h1 q rfl
 |none=>rw[q]at h;exact aZ h fun d q2 h=>by subst h;exact h2 q2 rfl
set_option tactic.hygienic true in
theorem tL {a:Dat}(h:ownOf vars x=some a):vars.lookup x=some (.own a):=by
 unfold ownOf at h;cases q:vars.lookup x with
 |none=>rw[q]at h;exact aa h
 |some sl=>
  rw[q]at h;rcases sl with⟨⟩;case val d=>exact aa h
  case own d=>exact xR (Z9 h) rfl
section
variable {RA:Addr->Prop}
structure SS (C:Cx) (aj:Addr->Prop) (env:Env) (sc:Scope) (vars:az) (W:Addr->Prop) (ad:Str->Addr) (s:Shared):Prop where
 bV:In C (fun a=>aj a\/W a) env vars s
 ki:oJ C s.heap (fun a=>aj a\/W a) env sc
 fw:∀a,FW env sc a->W a
 sP:∀a,W a->¬aj a
 tabs:∀a,C.T a->aj a
 gS:∀a,C.fr a->aj a\/FW env sc a
 w0:∀a,W a->C.h₀.get? a=none
 own:∀x d,vars.lookup x=some (.own d)->eR s.heap env x (.ref (ad x))/\W (ad x)
 apart:∀x y d d',vars.lookup x=some (.own d)->vars.lookup y=some (.own d')->ad x=ad y->x=y
theorem SS.wT (S:SS C aj env sc vars W ad s)(a:Addr)(h:W a):¬C.T a:=fun t=>S.sP a h (S.tabs a t)
structure Mv (C:Cx) (W:Addr->Prop) (s:Shared) (W':Addr->Prop) (s':Shared):Prop where
 keep:∀b o,s.heap.get? b=some o->¬C.T b->¬C.fr b->¬W b->s'.heap.get? b=some o
 nj:∀b o,C.fr b->¬W b->s.heap.get? b=some o->fC s'.heap b o
 ww:∀a,W' a->W a\/(s.heap.get? a=none/\¬C.T a)
theorem Mv.refl (s:Shared):Mv C W s W s:=⟨fun x x e x x x=>e,fun x x x x e=>.of e,fun x h=>.inl h⟩
theorem Mv.data (x:Mv C W s W' s')(e:s.heap.get? b=some o)(t:¬C.T b)(w:¬W b):fC s'.heap b o:=by
 by_cases f:C.fr b
 ·exact x.nj b o f w e
 ·exact .of (x.keep b o e t f w)
theorem Mv.trans (x:Mv C W s W' s')(y:Mv C W' s' RA fM):Mv C W s RA fM:=by
 refine⟨fun b o e t f w=>y.keep b o (x.keep b o e t f w) t f fun w'=>?_,fun b o f w e=>?_,fun a h=>?_⟩
 ·refine Z4 (x.ww b w') (fun q=>?_) fun q=>?_
  ·exact w q
  ·rw[q.1]at e;exact aa e
 ·refine ax (x.nj b o f w e) fun o1 e1 d1=>?_;refine ax (y.nj b o1 f (fun w'=>by
   refine Z4 (x.ww b w') (fun q=>?_) fun q=>?_
   ·exact w q
   ·rw[q.1]at e;exact aa e) e1) fun o2 e2 d2=>?_
  exact⟨o2,e2,d2.trans d1⟩
 ·refine Z4 (y.ww a h) (fun q=>?_) fun q=>?_
  ·exact x.ww a q
  ·by_cases w:W a
   ·exact .inl w
   ·cases e:s.heap.get? a with|none=>exact .inr ⟨rfl,q.2⟩|some o=>refine ax (x.data e q.2 w) fun o' e' z=>?_;rw[q.1]at e';exact aa e'
theorem Mv.ka (x:Ex C s s'):Mv C W s W s':=⟨fun b o e t f y=>x.keep b o e t f,fun b o f y e=>x.nj b o f e,fun y h=>.inl h⟩
theorem Mv.less (x:Mv C W s W' s')(h:∀a,RA a->W' a):Mv C W s RA s':=⟨x.keep,x.nj,fun a q=>x.ww a (h a q)⟩
theorem Mv.R7 (x:gy C W' s s')(h:∀a,W' a->W a):Mv C W s W s':=⟨fun b o e t f w=>x.keep b o e t f fun q=>w (h b q),fun b o f w e=>x.nj b o f (fun q=>w (h b q)) e,fun y q=>.inl q⟩
theorem SS.ex (S:SS C aj env sc vars W ad s)(x:Ex C s s'):SS C aj env sc vars W ad s':=⟨S.bV.ex x,S.ki.ex S.bV.bs x,S.fw,S.sP,S.tabs,S.gS,S.w0,fun y d h=>⟨(S.own y d h).1.ex S.bV.bs x,(S.own y d h).2⟩,S.apart⟩
theorem Rep.kM (hv:∀a,vol a->W a)(r:Rep h W v d):Rep h vol v d:=r.mono fun b o e n=>⟨e,fun q=>n (hv b q)⟩
theorem aH.kM (hv:∀a,vol a->W a){v:List Value}{d:List Dat}(r:aH h W v d):aH h vol v d:=r.mono fun b o e n=>⟨e,fun q=>n (hv b q)⟩
theorem gV:∀{vars:az},(aO vars).lookup x=some sl->∃t,vars.lookup x=some t/\sl=t.iD:=by
 intro vars;induction vars with
 |nil=>intro h;exact aa h
 |cons y0 r ih=>
  intro h;obtain⟨y,t⟩:=y0;have e:aO ((y,t)::r)=(y,t.iD)::aO r:=rfl;rw[e,ZS]at h;rw[ZS];cases hb:x==y with
  |true=>rw[hb]at h;obtain rfl:=Z9 h;exact⟨t,rfl,rfl⟩
  |false=>rw[hb]at h;exact ih h
theorem aT.obj (r:aT h vol (.ref a) d)(hd:(∃ds,d=.list ds)\/∃b,d=.ba b):∃o,h.get? a=some o/\((∃vs n,o.data=.seq vs n)\/∃b n,o.data=.bytearray b n):=by
 cases r with
 |list ho hc hn cB hr=>exact⟨_,ho,.inl ⟨_,_,cB⟩⟩
 |ba ho hc cB=>exact⟨_,ho,.inr ⟨_,_,cB⟩⟩
 |rep r=>
  cases r with
  |list hv ho hc hn cB hr=>exact⟨_,ho,.inl ⟨_,_,cB⟩⟩
  |tuple hv ho hc cB hr=>exact⟨_,ho,.inl ⟨_,_,cB⟩⟩
  |ba hv ho hc cB=>exact⟨_,ho,.inr ⟨_,_,cB⟩⟩
  |range=>rcases hd with⟨_,e⟩|⟨_,e⟩<;>(rcases e with⟨⟩)
  |top=>rcases hd with⟨_,e⟩|⟨_,e⟩<;>rcases e with⟨⟩
theorem oJ.EF (f:oJ C s.heap vol env sc)(ho:s.heap.get? a=some o)(hd:(∃vs n,o.data=.seq vs n)\/∃b n,o.data=.bytearray b n):¬FW env sc a:=by
 rintro(q|⟨x,q1,q2⟩)
 ·refine jI f.ns fun m o' es ep iJ cB y=>?_;rw[<-q,ho]at iJ;obtain rfl:=Z9 iJ;rcases hd with⟨_,_,e⟩|⟨_,_,e⟩<;>(replace cB:=e▸cB;rcases cB with⟨⟩)
 ·obtain⟨_,_,v,o',iJ,cB⟩:=f.cell x a q1 q2;rw[ho]at iJ;obtain rfl:=Z9 iJ;rcases hd with⟨_,_,e⟩|⟨_,_,e⟩<;>(replace cB:=e▸cB;rcases cB with⟨⟩)
theorem eR.unique (a:eR h env x v)(b:eR h env x v'):v=v':=by
 revert a b;refine Q3 inferInstance ?_ v v' x env h;generalize jF _ _=tt;dsimp only[K5];generalize tt.1.1.1=v,tt.1.1.2=v',tt.1.2=x,tt.2.1=env,tt.2.2=h;intro a b;refine bg a fun y y a=>?_;refine bg b fun y y b=>?_;rcases a with⟨k,m,hm,e⟩|⟨k,c,hc,o,ho,e⟩<;>rcases b with⟨k',m',yN,e'⟩|⟨k',c',n7,o',iJ,e'⟩
 ·rw[Ns.unique hm yN,e']at e;exact(Z9 e).symm
 ·refine Z4 k' (fun k'=>?_) fun k'=>?_<;>(replace k':=k.symm.trans k';rcases k' with⟨⟩)
 ·refine Z4 k (fun k=>?_) fun k=>?_<;>(replace k':=k▸k';rcases k' with⟨⟩)
 ·rw[hc]at n7;obtain rfl:=Z9 n7;rw[ho]at iJ;obtain rfl:=Z9 iJ;replace e':=e.symm.trans e';rcases e' with⟨⟩;rfl
def dH (vars:az):Prop:=∀x d,vars.lookup x=some (.own d)->(∃ds,d=.list ds)\/∃b,d=.ba b
set_option tactic.hygienic true in
theorem SS.iD (S:SS C aj env sc vars W ad s)(hO:dH vars):SS C aj env sc (aO vars) (FW env sc) ad s:=by
 have hv:∀a,(aj a\/FW env sc a)->(aj a\/W a):=fun a q=>q.imp id (S.fw a);refine⟨⟨S.bV.bs,⟨fun a t=>.inl (S.tabs a t),S.gS,fun a q=>S.bV.vo.there a (hv a q)⟩,fun x sl h=>?_,S.bV.cells⟩,⟨S.ki.ns,.inr (.inl rfl),S.ki.fl,fun x c h1 h2=>⟨.inr (.inr ⟨x,h1,h2⟩),(S.ki.cell x c h1 h2).2⟩⟩,fun z h=>h,fun a h=>S.sP a (S.fw a h),S.tabs,S.gS,fun a h=>S.w0 a (S.fw a h),fun x d h=>?_,fun x y d d' h=>?_⟩
 ·refine ax (gV h) ?_;rintro t h1 (rfl);refine ax (S.bV.lo x t h1) fun v hh hr=>?_;refine⟨v,hh,?_⟩;rcases t with⟨⟩;case val d=>exact Rep.kM hv hr
  case own d=>
   obtain⟨ro,a,rfl,JQ,_⟩:=hr;have ha:a=ad x:=by cases hh.unique (S.own x d h1).1;rfl
   have hW:W a:=ha▸(S.own x d h1).2;refine ax (ro.obj (hO x d h1)) fun o' iJ cB=>?_;have UX:¬(aj a\/FW env sc a):=fun q=>q.elim (S.sP a hW) (S.ki.EF iJ cB);show Rep _ _ _ _;cases ro with|list ho hc hn hd hr=>exact .list UX ho hc hn hd (aH.kM hv hr)|ba ho hc hd=>exact .ba UX ho hc hd|rep r=>exact Rep.kM hv r
 ·refine ax (gV h) fun t h1 e=>?_;rcases t with⟨⟩<;>rcases e with⟨⟩
 ·refine ax (gV h) fun t h1 e=>?_;rcases t with⟨⟩<;>rcases e with⟨⟩
theorem dH.iD (vars:az):dH (aO vars):=fun x d h=>by refine ax (gV h) fun t h1 e=>?_;rcases t with⟨⟩<;>rcases e with⟨⟩
set_option tactic.hygienic true in
theorem vS {x:Expr}(hE:eX C Φ A x)(e:aN env sc)(S:SS C aj env sc vars W ad s)(hO:dH vars)(h:oq Φ sc x vars=some (d,vars'))(hQ:∀v s' W',Ex C s s'->Mv C W s W' s'->SS C aj env sc vars' W' ad s'->dH vars'->Rep s'.heap (fun a=>aj a\/W' a) v d->Q v s'):aK (model C.prog C.w) A (eval x env) Q E s:=by
 unfold oq at h;split at h
 ·rename_i d' h1;refine ZU fun hG=>?_;rcases h with⟨⟩;refine hG ?_;exact hE e S.bV h1 _ _ fun v s1 x1 r1=>hQ v s1 W x1 (.ka x1) (S.ex x1) hO r1
 ·cases h1:ev Φ sc x (aO vars)with
  |none=>rw[h1]at h;exact aa h
  |some d'=>replace h:=h1▸h;refine ZU fun hG=>?_;rcases h with⟨⟩;refine hG ?_;have S1:=S.iD hO;exact hE e S1.bV h1 _ _ fun v s1 x1 r1=>hQ v s1 _ x1 ((Mv.ka x1).less S.fw) (S1.ex x1) (.iD vars) r1
set_option tactic.hygienic true in
theorem II {x:Expr}(hE:iU C Φ A x)(e:aN env sc)(S:SS C aj env sc vars W ad s)(hO:dH vars)(h:sO Φ sc x vars=some (b,vars')){Q:Bool->Shared->Prop}(hQ:∀s' W',Mv C W s W' s'->SS C aj env sc vars' W' ad s'->dH vars'->Q b s'):aK (model C.prog C.w) A (isTrue x env (eval x env)) Q E s:=by
 unfold sO at h;split at h
 ·rename_i d' h1;refine ZU fun hG=>?_;rcases h with⟨⟩;refine hG ?_;exact hE e S.bV h1 _ _ fun v s1 x1 r1=>r1▸hQ s1 W (.ka x1) (S.ex x1) hO
 ·cases h1:dO Φ sc x (aO vars) (ev Φ sc x (aO vars))with
  |none=>rw[h1]at h;exact aa h
  |some d'=>replace h:=h1▸h;refine ZU fun hG=>?_;rcases h with⟨⟩;refine hG ?_;have S1:=S.iD hO;exact hE e S1.bV h1 _ _ fun v s1 x1 r1=>r1▸hQ s1 _ ((Mv.ka x1).less S.fw) (S1.ex x1) (.iD vars)
theorem ae (h:y≠x):((x,sl)::vars).lookup y=vars.lookup y:=by
 rw[ZS];have:(y==x)=false:=by rw[ZJ];exact h
 rw[this]
theorem au:((x,sl)::vars).lookup x=some sl:=by rw[ZS];simp
theorem ew (e:aN env sc)(S:SS C aj env sc vars W ad s)(hO:dH vars)(hb:bL sc x (.val d) vars=some vars')(r:Rep s.heap (fun a=>aj a\/W a) v d){Q:Unit->Shared->Prop}(hQ:∀s',Mv C W s W s'->SS C aj env sc vars' W ad s'->dH vars'->gy C (FW env sc) s s'->Q () s'):aK (model C.prog C.w) A (bindName env x v) Q E s:=by
 have hv:=dS hb;refine mA e S.bV S.ki hb r fun s1 x1 i1 f1 g1 g2=>hQ s1 (.R7 x1 S.fw) ⟨i1,f1,S.fw,S.sP,S.tabs,S.gS,S.w0,fun y d' hy=>?_,fun y z d1 d2 hy hz=>?_⟩ (fun y d' hy=>?_) x1;all_goals subst hv
 ·have iX:y≠x:=by rintro rfl;rw[au]at hy;rcases hy with⟨⟩
  rw[ae iX]at hy;exact⟨g1 y _ iX (S.own y d' hy).1,(S.own y d' hy).2⟩
 ·have Nr:y≠x:=by rintro rfl;replace hy:=au.symm.trans hy;rcases hy with⟨⟩
  have xX:z≠x:=by rintro rfl;replace hz:=au.symm.trans hz;rcases hz with⟨⟩
  rw[ae Nr]at hy;rw[ae xX]at hz;exact S.apart y z d1 d2 hy hz
 ·have iX:y≠x:=by rintro rfl;rw[au]at hy;rcases hy with⟨⟩
  rw[ae iX]at hy;exact hO y d' hy
theorem Av:∀(k:Nat){ts:List Expr}{ds:List Dat}{vars:az}{y:Str}{d:Dat},ts.length=k->gN sc ts ds vars=some vars'->vars'.lookup y=some (.own d)->(∀t∈ts,∀x p,t=.Name x p->y≠x)/\vars.lookup y=some (.own d):=by
 intro k;induction k with
 |zero=>
  intro ts ds vars y d hk hb h;refine Z4 (cR hb) (fun y0=>?_) fun y1=>?_
  ·refine bg y0 ?_;clear y0;rintro(rfl) (rfl) (rfl);exact⟨fun t ht=>(nomatch ht),h⟩
  ·refine wz y1 ?_;clear y1;rintro x p Dq d jy b9 (rfl) _;(rcases hk with⟨⟩)
 |succ k ih=>
  intro ts ds vars y d hk hb h;refine Z4 (cR hb) (fun y0=>?_) fun y1=>?_
  ·refine bg y0 ?_;clear y0;rintro(rfl) (rfl) (rfl);rcases hk with⟨⟩
  ·refine wz y1 ?_;clear y1;rintro x p Dq d' jy b9 (rfl) y2;(refine bg y2 ?_;clear y2;rintro(rfl) Dx Iq);refine aL (ih (by simpa using hk) Iq h) fun h1 h2=>?_;have hv:=dS Dx;subst hv;have iX:y≠x:=by rintro rfl;replace h2:=au.symm.trans h2;rcases h2 with⟨⟩
   rw[ae iX]at h2;refine⟨fun t ht z q e=>?_,h2⟩;refine Z4 (Zy ht) (fun y0=>?_) fun ht=>?_
   ·obtain rfl:=y0;rcases e with⟨⟩;exact iX
   ·exact h1 t ht z q e
theorem kU (hb:bp sc t d vars=some vars')(h:vars'.lookup y=some (.own d')):NotIn y t/\vars.lookup y=some (.own d'):=by
 refine Z4 (kE hb) (fun y0=>?_) fun y1=>?_
 ·refine eZ y0 ?_;clear y0;rintro x p (rfl) hb;have hv:=dS hb;subst hv;have iX:y≠x:=by rintro rfl;replace h:=au.symm.trans h;rcases h with⟨⟩
  rw[ae iX]at h;exact⟨iX,h⟩
 ·refine jI y1 ?_;clear y1;rintro ts k p ds (rfl) hd hb;exact Av _ rfl hb h
theorem qh (hA:A.handled=none)(e:aN env sc)(S:SS C aj env sc vars W ad s)(hO:dH vars)(hb:bp sc t d vars=some vars')(r:Rep s.heap (fun a=>aj a\/W a) v d){Q:Unit->Shared->Prop}(hQ:∀s',Mv C W s W s'->SS C aj env sc vars' W ad s'->dH vars'->Q () s'):aK (model C.prog C.w) A (assign t env v) Q E s:=by
 refine uu hA e S.bV S.ki hb r fun s1 x1 i1 f1 g1=>hQ s1 (.R7 x1 S.fw) ⟨i1,f1,S.fw,S.sP,S.tabs,S.gS,S.w0,fun y d' hy=>?_,fun y z d1 d2 hy hz=>?_⟩ fun y d' hy=>?_
 ·refine aL (kU hb hy) fun h1 h2=>?_;exact⟨g1 y _ h1 (S.own y d' h2).1,(S.own y d' h2).2⟩
 ·exact S.apart y z d1 d2 (kU hb hy).2 (kU hb hz).2
 ·exact hO y d' (kU hb hy).2
set_option tactic.hygienic true in
theorem AZ (e:aN env sc)(S:SS C aj env sc vars W ad s)(hO:dH vars)(x1:Ex C s s')(ha:s.heap.get? a=none)(hsz:s.heap.objs.size<=a)(hb:bL sc x (.own d) vars=some vars')(r:aT s'.heap (fun b=>aj b\/(W b\/b=a)) (.ref a) d)(hd:(∃ds,d=.list ds)\/∃b,d=.ba b){Q:Unit->Shared->Prop}(hQ:∀fM Na,Mv C W s (fun b=>W b\/b=a) fM->SS C aj env sc vars' (fun b=>W b\/b=a) Na fM->dH vars'->Q () fM):aK (model C.prog C.w) A (bindName env x (.ref a)) Q E s':=by
 revert A E vars' e S hO x1 ha hsz hb r hd hQ;refine no_implicit_lambda% (pn (b8 (b8 (b8 (b8 sA zv) (b8 sA GS)) inferInstance) inferInstance) ?_ s C s' d W aj a env vars sc ad x Q);generalize jF _ _=tt;dsimp only[Bu];generalize tt.1.1.1.1=s,tt.1.1.1.2=C,tt.1.1.2.1=s',tt.1.1.2.2=d,tt.1.2.1.1=W,tt.1.2.1.2=aj,tt.1.2.2=a,tt.2.1.1.1=env,tt.2.1.1.2=vars,tt.2.1.2=sc,tt.2.2.1.1=ad,tt.2.2.1.2=x,tt.2.2.2=Q;intro A E vars' e S hO x1 ha hsz hb r hd hQ;have yQ:=x1.bs S.bV.bs;refine ax (r.obj hd) fun oa rZ zX=>?_;have nv:¬(aj a\/W a):=S.bV.vo.new ha;have nT:¬C.T a:=fun t=>nv (.inl (S.tabs a t));have n0:C.h₀.get? a=none:=by cases q:C.h₀.get? a with|none=>rfl|some o=>have:=S.bV.bs.keep a o q nT;rw[ha]at this;exact aa this
 have hL:env.locals<s.heap.objs.size:=by refine aJ S.ki.ns fun m hm=>?_;exact hm.lt
 have up:∀{v:Value}{d:Dat},Rep s.heap (fun b=>aj b\/W b) v d->Rep s'.heap (fun b=>aj b\/(W b\/b=a)) v d:=fun r=>r.mono fun b o q nn=>⟨x1.keep b o q (fun t=>nn (.inl (S.tabs b t))) fun t=>nn ((S.gS b t).imp id (S.fw b)),fun z=>z.elim (fun z=>nn (.inl z)) fun z=>z.elim (fun z=>nn (.inr z)) fun z=>by cases z;replace q:=ha.symm.trans q;exact aa q⟩;have ups:∀{v:List Value}{d:List Dat},aH s.heap (fun b=>aj b\/W b) v d->aH s'.heap (fun b=>aj b\/(W b\/b=a)) v d:=fun r=>r.mono fun b o q nn=>⟨x1.keep b o q (fun t=>nn (.inl (S.tabs b t))) fun t=>nn ((S.gS b t).imp id (S.fw b)),fun z=>z.elim (fun z=>nn (.inl z)) fun z=>z.elim (fun z=>nn (.inr z)) fun z=>by cases z;rw[ha]at q;exact aa q⟩;have i1:=S.bV.ex x1;have i2:In C (fun b=>aj b\/(W b\/b=a)) env vars s':=by
  refine⟨yQ,⟨fun b t=>.inl (S.tabs b t),fun b t=>(S.gS b t).imp id fun q=>.inl (S.fw b q),fun b q=>?_⟩,fun y sl hy=>?_,i1.cells⟩
  ·refine Z4 q (fun q=>?_) fun y1=>?_
   ·exact i1.vo.there b (.inl q)
   refine Z4 y1 (fun q=>?_) fun y0=>?_
   ·exact i1.vo.there b (.inr q)
   ·obtain rfl:=y0;exact⟨oa,rZ⟩
  ·refine ax (S.bV.lo y sl hy) fun v hh hr=>?_;refine⟨v,hh.ex S.bV.bs x1,?_⟩;rcases sl with⟨⟩;case val d'=>exact up hr
   case own d'=>obtain⟨ro,b,rfl,Sv,S9⟩:=hr;refine⟨?_,b,rfl,Sv.elim .inl fun q=>.inr (.inl q),S9⟩;cases ro with|rep r=>exact .rep (up r)|list ho hc hn hd hr=>exact .list (x1.keep _ _ ho (S.bV.bs.dv ho (by refine xR hd ?_;nofun)) (S.bV.bs.dF ho (by refine xR hd ?_;nofun))) hc hn hd (ups hr)|ba ho hc hd=>exact .ba (x1.keep _ _ ho (S.bV.bs.dv ho (by refine xR hd ?_;nofun)) (S.bV.bs.dF ho (by refine xR hd ?_;nofun))) hc hd
 have f1:=S.ki.ex S.bV.bs x1;have f2:oJ C s'.heap (fun b=>aj b\/(W b\/b=a)) env sc:=⟨f1.ns,.inr (.inl (S.fw _ (.inl rfl))),f1.fl,fun y c h1 h2=>⟨.inr (.inl (S.fw _ (.inr ⟨y,h1,h2⟩))),(f1.cell y c h1 h2).2⟩⟩;have hv:=dS hb;refine mA e i2 f2 hb (v:=.ref a) ⟨r,a,rfl,.inr (.inr rfl),fun q=>?_⟩ fun s2 x2 i3 f3 g1 g2=>?_
 ·have:a<env.locals:=by refine xL q ?_;exact Nat.lt_succ_self a
  exact absurd (Nat.lt_trans this hL) (Nat.not_lt.mpr hsz)
 ·refine hQ s2 (fun y=>if y=x then a else ad y) ?_ ⟨i3,f3,fun b q=>.inl (S.fw b q),fun b q=>q.elim (S.sP b) fun q=>q▸fun z=>nv (.inl z),S.tabs,S.gS,fun b q=>q.elim (S.w0 b) fun q=>q▸n0,fun y d' hy=>?_,fun y z d1 d2 hy hz=>?_⟩ fun y d' hy=>?_
  ·refine⟨fun b o q t f w=>x2.keep b o (x1.keep b o q t f) t f fun z=>w (S.fw b z),fun b o f w e=>?_,fun b q=>q.elim .inl fun q=>.inr (q▸⟨ha,nT⟩)⟩;refine ax (x1.nj b o f e) fun o1 e1 d1=>?_;refine ax (x2.nj b o1 f (fun z=>w (S.fw b z)) e1) fun o2 e2 d2=>?_;exact⟨o2,e2,d2.trans d1⟩
  all_goals subst hv
  ·by_cases q:y=x
   ·subst q;refine xR (Z1 rfl) ?_;exact⟨g2,.inr rfl⟩
   ·rw[ae q]at hy;refine xR (ZX q) ?_;exact⟨g1 y _ q ((S.own y d' hy).1.ex S.bV.bs x1),.inl (S.own y d' hy).2⟩
  ·intro Nq;by_cases q:y=x<;>by_cases q':z=x
   ·exact xR q (xR q' rfl)
   ·rw[ae q']at hz;rw[Z1 q,ZX q']at Nq;exact absurd (.inr (Nq▸(S.own z d2 hz).2)) nv
   ·rw[ae q]at hy;rw[ZX q,Z1 q']at Nq;exact absurd (.inr (Nq▸(S.own y d1 hy).2)) nv
   ·rw[ae q]at hy;rw[ae q']at hz;rw[ZX q,ZX q']at Nq;exact S.apart y z d1 d2 hy hz Nq
  ·by_cases q:y=x
   ·subst q;replace hy:=au.symm.trans hy;rcases hy with⟨⟩;exact hd
   ·rw[ae q]at hy;exact hO y d' hy
set_option tactic.hygienic true in
theorem md {t:Nat}(S:SS C aj env sc vars W ad s)(hO:dH vars)(hx:vars.lookup x=some (.own d))(hs:Heap.SameBut (ad x) s.heap h')(r:aT h' (fun b=>aj b\/W b) (.ref (ad x)) d')(hd:(∃ds,d'=.list ds)\/∃b,d'=.ba b):Mv C W s W {s with heap:=h',toks:=t}/\SS C aj env sc ((x,.own d')::vars) W ad {s with heap:=h',toks:=t}/\dH ((x,.own d')::vars):=by
 revert S hO hx hs r hd;refine pn (b8 (b8 (b8 (b8 sA zv) (b8 GS GS)) inferInstance) inferInstance) ?_ s C d' d aj W ad env h' vars x t sc;generalize jF _ _=tt;dsimp only[Bu];generalize tt.1.1.1.1=s,tt.1.1.1.2=C,tt.1.1.2.1=d',tt.1.1.2.2=d,tt.1.2.1.1=aj,tt.1.2.1.2=W,tt.1.2.2=ad,tt.2.1.1.1=env,tt.2.1.1.2=h',tt.2.1.2=vars,tt.2.2.1.1=x,tt.2.2.1.2=t,tt.2.2.2=sc;intro S hO hx hs r hd;refine aL (S.own x d hx) fun hh hW=>?_;obtain⟨v,hv,ro,a,rfl,JQ,Ta⟩:=S.bV.lo x (.own d) hx;have Xx:a=ad x:=by cases hv.unique hh;rfl
 subst Xx;refine ax (ro.obj (hO x d hx)) fun oa rZ zX=>?_;have nF:¬FW env sc (ad x):=S.ki.EF rZ zX;have nT:¬C.T (ad x):=S.wT _ hW;have nR:¬C.fr (ad x):=S.bV.bs.dF rZ fun es k q=>by rcases zX with⟨_,_,e⟩|⟨_,_,e⟩<;>(rw[e]at q;rcases q with⟨⟩)
 have xw:gy C W s {s with heap:=h',toks:=t}:=gy.same hs.extBut hW nT (fun q=>(nR q).elim) (fun o vs y t' e1 e2=>by rw[rZ]at e1;obtain rfl:=Z9 e1;rcases zX with⟨_,_,q⟩|⟨_,_,q⟩<;>(rw[q]at e2;rcases e2 with⟨⟩));have odd:∀{b:Addr}{o:Obj},s.heap.get? b=some o->NF o->b≠ad x:=fun e o=>ij (P:=NF) e rZ o fun q=>by rcases q with⟨_,_,q⟩|⟨_,q⟩<;>rcases zX with⟨_,_,q'⟩|⟨_,_,q'⟩<;>exact nomatch q.symm.trans q'
 have q6:∀{y:Str}{w:Value},eR s.heap env y w->eR h' env y w:=fun H=>H.keep (fun o e hd=>.of ((hs.2 _ (odd e (.inl hd))).trans e)) fun b o c e hd=>(hs.2 _ (odd e (.inr ⟨c,hd⟩))).trans e;have va:(fun b=>aj b\/W b) (ad x):=.inr hW;refine ax (r.obj hd) fun VW SQ u=>?_;refine⟨.R7 xw fun u q=>q,⟨⟨xw.bs S.bV.bs S.w0,⟨fun b q=>.inl (S.tabs b q),fun b q=>(S.gS b q).imp id (S.fw b),fun b q=>?_⟩,fun y sl hy=>?_,fun y c hc=>?_⟩,S.ki.keep fun b o q z=>.of ((hs.2 b fun w=>nF (w▸z)).trans q),S.fw,S.sP,S.tabs,S.gS,S.w0,fun y d1 hy=>?_,fun y z d1 d2 hy hz=>?_⟩,fun y d1 hy=>?_⟩
 ·by_cases w:b=ad x
  ·exact⟨VW,w▸SQ⟩
  ·refine aJ (S.bV.vo.there b q) fun o e=>?_;exact⟨o,(hs.2 b w).trans e⟩
 ·by_cases q:y=x
  ·subst q;rw[au]at hy;obtain rfl:=Z9 hy;exact⟨_,q6 hh,r,ad y,rfl,va,Ta⟩
  ·rw[ae q]at hy;refine ax (S.bV.lo y sl hy) fun w hw hr=>?_;refine⟨w,q6 hw,?_⟩;rcases sl with⟨⟩;case val d1=>exact Rep.dE va hs.extBut hr
   case own d1=>
    obtain⟨VT,b,rfl,Sv,S9⟩:=hr;have hb:b=ad y:=by cases hw.unique (S.own y d1 hy).1;rfl
    have iX:b≠ad x:=fun z=>q (S.apart y x d1 d hy hx (hb▸z));refine⟨?_,b,rfl,Sv,S9⟩;cases VT with|rep r=>exact .rep (Rep.dE va hs.extBut r)|list ho hc hn hd hr=>exact .list ((hs.2 _ iX).trans ho) hc hn hd (hr.dE va hs.extBut)|ba ho hc hd=>exact .ba ((hs.2 _ iX).trans ho) hc hd
 ·refine eZ (S.bV.cells y c hc) fun w o b3 b4=>?_;exact⟨w,o,(hs.2 _ (odd b3 (.inr ⟨_,b4⟩))).trans b3,b4⟩
 ·by_cases q:y=x
  ·subst q;exact⟨q6 hh,hW⟩
  ·rw[ae q]at hy;exact⟨q6 (S.own y d1 hy).1,(S.own y d1 hy).2⟩
 ·have key:∀{y:Str}{d1:Dat},((x,Slot.own d')::vars).lookup y=some (.own d1)->∃d2,vars.lookup y=some (.own d2):=fun{y d1}hy=>by
   by_cases q:y=x
   ·exact⟨d,q▸hx⟩
   ·rw[ae q]at hy;exact⟨d1,hy⟩
  refine aJ (key hy) fun e1 hy=>?_;refine aJ (key hz) fun e2 hz=>?_;exact S.apart y z e1 e2 hy hz
 ·by_cases q:y=x
  ·subst q;rw[au]at hy;rcases hy with⟨⟩;exact hd
  ·rw[ae q]at hy;exact hO y d1 hy
end
section
variable {Ψ:Scope->Stmt->az->Option Fl}
def Goes (C:Cx)(aj:Addr->Prop)(env:Env)(sc:Scope)(W:Addr->Prop)(s:Shared)(vars':az)(s':Shared):Prop:=∃W' Na,Mv C W s W' s'/\SS C aj env sc vars' W' Na s'/\dH vars'
def yK (C:Cx)(aj:Addr->Prop)(env:Env)(sc:Scope)(W:Addr->Prop)(s:Shared)(fl:Fl)(f:Flow)(s':Shared):Prop:=match fl with
 | .next v=>f=.next/\Goes C aj env sc W s v s'| .brk v=>f=.brk/\Goes C aj env sc W s v s'| .cont v=>f=.cont/\Goes C aj env sc W s v s'| .ret d=>∃v,f=.ret v/\Rep s'.heap aj v d/\Bs C s'/\∃W',Mv C W s W' s'
def VA (C:Cx)(Φ:gq)(Ψ:Scope->Stmt->az->Option Fl)(aj:Addr->Prop)(env:Env)(sc:Scope)(A:Around)(st:Stmt):Prop:=∀{vars W ad fl s},SS C aj env sc vars W ad s->dH vars->ex Φ Ψ sc st vars=some fl->∀(E:Value->Shared->Prop)(Q:Flow->Shared->Prop),(∀f s',yK C aj env sc W s fl f s'->Q f s')->aK (model C.prog C.w) A (exec st env) Q E s
def yL (C:Cx)(Φ:gq)(Ψ:Scope->Stmt->az->Option Fl)(aj:Addr->Prop)(env:Env)(sc:Scope)(A:Around)(sts:List Stmt):Prop:=∀{vars W ad fl s},SS C aj env sc vars W ad s->dH vars->bT Φ Ψ sc sts vars=some fl->∀(E:Value->Shared->Prop)(Q:Flow->Shared->Prop),(∀f s',yK C aj env sc W s fl f s'->Q f s')->aK (model C.prog C.w) A (execs sts env) Q E s
structure ng (C:Cx) (n:Nat):Prop where
 chg:∀{m a ds a' p s vol},qK m a ds=some a'->Bs C s->aW C vol s->aT s.heap vol (.ref p) a->∃id,(∀{A pl},Wp C A (getMethod (.ref p) m pl) (fun r x=>r=(.builtin id,[.ref p])) s)/\
  ∀{A s vs}{E:Value->Shared->Prop}{Q:Value->Shared->Prop},cV C n A->Bs C s->aW C vol s->vol p->aT s.heap vol (.ref p) a->aH s.heap vol vs ds->
   (∀s1 h' t,Ex C s s1->Heap.SameBut p s1.heap h'->aT h' vol (.ref p) a'->Q .none {s1 with heap:=h',toks:=t})->aK (model C.prog C.w) A (PySem.call (.builtin id) (.ref p::vs)) Q E s
 Uw:∀{a j d a' p u v A s vol}{E:Value->Shared->Prop}{Q:Unit->Shared->Prop},nH a j d=some a'->cV C n A->Bs C s->aW C vol s->vol p->aT s.heap vol (.ref p) a->Rep s.heap vol u j->Rep s.heap vol v d->
  (∀s1 h' t,Ex C s s1->Heap.SameBut p s1.heap h'->aT h' vol (.ref p) a'->Q () {s1 with heap:=h',toks:=t})->aK (model C.prog C.w) A (setItem (.ref p) u v) Q E s
 new:∀{f ds d},newD f ds=some d->∃v,C.mg f=none/\C.mb f=some v/\(f==("__debug__":Str))=false/\(∀a,v≠.ref a)/\
  ∀{A s vol vs}{E:Value->Shared->Prop}{Q:Value->Shared->Prop},cV C n A->Bs C s->aW C vol s->gP s.heap vol vs ds->
   (∀a s1,Ex C s s1->s.heap.get? a=none->s.heap.objs.size<=a->aT s1.heap (fun b=>vol b\/b=a) (.ref a) d->Q (.ref a) s1)->aK (model C.prog C.w) A (PySem.call v vs) Q E s
set_option tactic.hygienic true in
theorem yK.trans (m:Mv C W s W' s')(h:yK C aj env sc W' s' fl f fM):yK C aj env sc W s fl f fM:=by
 rcases fl with⟨⟩;case next v=>obtain⟨a,W2,QZ,b,c,d⟩:=h;exact⟨a,W2,QZ,m.trans b,c,d⟩
 case brk v=>obtain⟨a,W2,QZ,b,c,d⟩:=h;exact⟨a,W2,QZ,m.trans b,c,d⟩
 case cont v=>obtain⟨a,W2,QZ,b,c,d⟩:=h;exact⟨a,W2,QZ,m.trans b,c,d⟩
 case ret d=>obtain⟨v,a,b,c,W2,e⟩:=h;exact⟨v,a,b,c,W2,m.trans e⟩
theorem SS.iter {t:Nat}(S:SS C aj env sc vars W ad s)(kO:s.heap.get? I=some oI)(pE:¬gQ oI.cls)(Dw:∀es n,oI.data≠.dict es n)(n6:∀c,oI.data≠.cell c)(hs:Heap.ExtBut I s.heap h')(hv:¬(aj I\/W I))(Jg:Bs C {s with heap:=h',toks:=t}):SS C aj env sc vars W ad {s with heap:=h',toks:=t}:=by refine⟨S.bV.iter kO pE Dw n6 hs hv Jg,S.ki.keep fun b o e w=>.of (hs b o (fun q=>hv (q▸.inr (S.fw b w))) e),S.fw,S.sP,S.tabs,S.gS,S.w0,fun y d hy=>⟨?_,(S.own y d hy).2⟩,S.apart⟩;exact(S.own y d hy).1.keep (fun o e hd=>.of (hs _ _ (ij (P:=fun o=>∃es n,o.data=.dict es n) e kO hd fun⟨_,_,q⟩=>Dw _ _ q) e)) fun b o c e hd=>hs _ _ (ij (P:=fun o=>∃c,o.data=.cell c) e kO ⟨c,hd⟩ fun⟨_,q⟩=>n6 _ q) e
theorem Mv.iter {t:Nat}(m:Mv C W₀ s₀ W s)(hI:s₀.heap.get? I=none)(hs:Heap.ExtBut I s.heap h'):Mv C W₀ s₀ W {s with heap:=h',toks:=t}:=⟨fun b o e t f w=>hs b o (fun q=>by subst q;rw[hI]at e;exact aa e) (m.keep b o e t f w),fun b o f w e=>let⟨o1,e1,d1⟩:=m.nj b o f w e;⟨o1,hs b o1 (fun q=>by subst q;rw[hI]at e;exact aa e) e1,d1⟩,m.ww⟩
set_option tactic.hygienic true in
theorem Bj {k:az->Option Fl}(m:Mv C W₀ s₀ W s)(hf:yK C aj env sc W s ML f s')(h:jc k ML=some fl){P:Prop}(next:∀v,(f=.next\/f=.cont)->Goes C aj env sc W s v s'->k v=some fl->P)(stop:∀g,yK C aj env sc W₀ s₀ fl g s'->(f=.brk/\g=.next\/∃v,f=.ret v/\g=.ret v)->P):P:=by
 rcases ML with⟨⟩;case next v=>exact next v (.inl hf.1) hf.2 h
 case cont v=>exact next v (.inr hf.1) hf.2 h
 case brk v=>obtain rfl:=Z9 h;obtain⟨rfl,W3,QY,m3,S3,Qe⟩:=hf;exact stop .next ⟨rfl,W3,QY,m.trans m3,S3,Qe⟩ (.inl ⟨rfl,rfl⟩)
 case ret d=>obtain rfl:=Z9 h;obtain⟨v,rfl,hr,Xs,W3,m3⟩:=hf;exact stop (.ret v) ⟨v,rfl,hr,Xs,W3,m.trans m3⟩ (.inr ⟨v,rfl,rfl⟩)
theorem z5 (hA:cV C n A)(e:aN env sc)(Ru:s₀.heap.get? I=none)(Fu:¬C.T I)(Rt:C.h₀.get? I=none) (iL:yL C Φ Ψ aj env sc A body) {R:Result->Shared->Prop}:∀(items:List Dat)(vars:az)(W:Addr->Prop)(ad:Str->Addr)(s:Shared)(fl:Fl),It s.heap (fun a=>aj a\/W a) (fun a=>W a\/C.T a\/C.fr a) I items->SS C aj env sc vars W ad s->dH vars->¬aj I->Mv C W₀ s₀ W s->cQ (fun d vs=>match bp sc t d vs with
      |none=>none|some vs=>bT Φ Ψ sc body vs) items vars=some fl->(∀f s',yK C aj env sc W₀ s₀ fl f s'->R (.ok f) s')->
   cb (model C.prog C.w) A (.forLoop t (.ref I) body [] env) R s:=by
 revert n hA e Ru Fu Rt iL
 refine no_implicit_lambda% (pn (b8 (b8 (b8 (b8 zv vm) (b8 sA UI)) inferInstance) inferInstance) ?_ C A s₀ Φ env aj I sc t body R W₀ Ψ)
 generalize jF _ _=tt
 dsimp only[Bu]
 generalize tt.1.1.1.1=C,tt.1.1.1.2=A,tt.1.1.2.1=s₀,tt.1.1.2.2=Φ,tt.1.2.1.1=env,tt.1.2.1.2=aj,tt.1.2.2=I,tt.2.1.1.1=sc,tt.2.1.1.2=t,tt.2.1.2=body,tt.2.2.1.1=R,tt.2.2.1.2=W₀,tt.2.2.2=Ψ
 intro n hA e Ru Fu Rt iL
 intro items
 induction items with
 |nil=>intro vars W ad s fl x S hO zZ m h hR;obtain rfl:=Z9 h;refine uB x.gX fun oI kO pE JU Dw n6=>?_;have nW:¬W I:=fun q=>x.HH (.inl q);refine aS ?_ rfl;show aK _ A ((forTurn t (.ref I) body [] env).onRaise (fun x=>do noteFrame x env;theTreesLotGoes x)) _ _ s;refine fe ?_;unfold forTurn;refine ab (aq (ab (dj (x.done hA.handled fun h' he=>?_))));have Jg:Bs C {s with heap:=h',toks:=s.toks}:=(gy.same (W:=fun a=>a=I) he rfl Fu (fun q=>((S.gS I q).elim zZ fun q=>nW (S.fw I q)).elim) x.AX).bs S.bV.bs fun a q=>q▸Rt;have S':SS C aj env sc vars W ad {s with heap:=h',toks:=s.toks}:=S.iter kO pE Dw n6 he (fun q=>q.elim zZ nW) Jg;refine ah ⟨rfl,?_⟩;refine aS ?_ rfl;show aK _ A ((do return .done (<-(execs [] env).onRaise (fun x=>do noteFrame x env;theTreesLotGoes x))):Sem PySem.Fin) _ _ _;refine ab (dj (ah (ah ?_)));exact hR .next {s with heap:=h'} ⟨rfl,W,ad,m.iter Ru he,S',hO⟩
 |cons d items ih=>
  intro vars W ad s fl x S hO zZ m h hR;refine uB x.gX fun oI kO pE JU Dw n6=>?_;have nW:¬W I:=fun q=>x.HH (.inl q);refine aS ?_ rfl;show aK _ A ((forTurn t (.ref I) body [] env).onRaise (fun x=>do noteFrame x env;theTreesLotGoes x)) _ _ s;refine fe ?_;unfold forTurn;refine ab (aq (ab (dj (x.next fun v h1 tk r x1 hs1=>?_))));have yQ:Bs C {s with heap:=h1,toks:=tk}:=(gy.same (W:=fun a=>a=I) hs1.extBut rfl Fu (fun q=>((S.gS I q).elim zZ fun q=>nW (S.fw I q)).elim) x.AX).bs S.bV.bs fun a q=>q▸Rt;have S1:SS C aj env sc vars W ad {s with heap:=h1,toks:=tk}:=S.iter kO pE Dw n6 hs1.extBut (fun q=>q.elim zZ nW) yQ;have m1:Mv C W₀ s₀ W {s with heap:=h1,toks:=tk}:=m.iter Ru hs1.extBut;have h':((match bp sc t d vars with
      |none=>none|some vs=>bT Φ Ψ sc body vs).bind (jc (cQ (fun d vs=>match bp sc t d vs with|none=>none|some vs=>bT Φ Ψ sc body vs) items)))=some fl:=h
  clear h;cases hb:bp sc t d vars with
  |none=>rw[hb]at h';exact aa h'
  |some b9=>
   rw[hb]at h';refine ao (x:=bT Φ Ψ sc body b9) h' fun ML hx h=>?_;clear h';refine ab (x1.letGo (s:={s with heap:=h1,toks:=tk}) ?_);refine ab (qh hA.handled e S1 hO hb r fun s2 m2 S2 TM=>?_)
   ·refine ab (iL S2 TM hx _ _ fun f s3 hf=>?_);have next:∀AJ,Goes C aj env sc W s2 AJ s3->cQ (fun d vs=>match bp sc t d vs with
      |none=>none|some vs=>bT Φ Ψ sc body vs) items AJ=some fl->cb (model C.prog C.w) A (.forLoop t (.ref I) body [] env) R s3:=by
     intro AJ ⟨W3,QY,m3,S3,Qe⟩ h3;have mm:Mv C W {s with heap:=h1,toks:=tk} W3 s3:=m2.trans m3;have xw:It {s with heap:=h1,toks:=tk:Shared}.heap (fun a=>aj a\/W a) (fun a=>(W a\/W3 a)\/C.T a\/C.fr a) I items:=x1.widen fun a q=>by
      rcases q with(q|q)|q
      ·exact .inl (.inl q)
      ·refine Z4 (mm.ww a q) (fun q=>?_) fun q=>?_
       ·exact .inl (.inl q)
       ·exact .inr q.1
      ·exact .inl (.inr q)
     have x3:It s3.heap (fun a=>aj a\/W3 a) (fun a=>(W a\/W3 a)\/C.T a\/C.fr a) I items:=xw.mono (fun b o q w=>mm.keep b o q (fun t=>w (.inr (.inl t))) (fun t=>w (.inr (.inr t))) fun z=>w (.inl (.inl z))) fun rs=>rs.mono fun b o q nn=>⟨mm.keep b o q (fun t=>nn (.inl (S.tabs b t))) (fun t=>nn ((S.gS b t).imp id (S.fw b))) fun z=>nn (.inr z),fun z=>z.elim (fun z=>nn (.inl z)) fun z=>by
      refine Z4 (mm.ww b z) (fun z=>?_) fun z=>?_
      ·exact nn (.inr z)
      ·rw[z.1]at q;exact aa q⟩
     exact ih AJ W3 QY s3 fl (x3.widen fun a q=>.inl (q.elim (fun q=>.inl (.inr q)) .inr)) S3 Qe zZ (m1.trans mm) h3 hR
    refine Bj (m1.trans m2) hf h (fun v q hg h3=>?_) fun g hg q=>?_
    ·refine Z4 q (fun y0=>?_) fun y1=>?_
     ·obtain rfl:=y0;exact ah ⟨rfl,next v hg h3⟩
     ·obtain rfl:=y1;exact ah ⟨rfl,next v hg h3⟩
    ·refine Z4 q (fun y0=>?_) fun y1=>?_
     ·refine aL y0 ?_;clear y0;rintro(rfl) (rfl);exact ah (hR _ s3 hg)
     ·refine ax y1 ?_;clear y1;rintro v (rfl) (rfl);exact ah (hR _ s3 hg)
theorem BF (e:aN env sc)(ht:iU C Φ A t)(iL:yL C Φ Ψ aj env sc A body){R:Result->Shared->Prop}:∀(k:Nat)(vars:az)(W:Addr->Prop)(ad:Str->Addr)(s:Shared)(fl:Fl),SS C aj env sc vars W ad s->dH vars->Mv C W₀ s₀ W s->sj (fun vs=>dO Φ sc t vs (ev Φ sc t vs)) (fun vs=>bT Φ Ψ sc body vs) k vars=some fl->(∀f s',yK C aj env sc W₀ s₀ fl f s'->R (.ok f) s')->cb (model C.prog C.w) A (.whileLoop t body [] env) R s:=by
 revert W₀ Ψ e ht iL;refine no_implicit_lambda% (si (b8 (b8 (b8 (b8 zv vm) UI) (b8 sA inferInstance)) inferInstance) ?_ C A Φ s₀ env sc t body aj R);generalize jF _ _=tt;dsimp only[DB];generalize tt.1.1.1.1=C,tt.1.1.1.2=A,tt.1.1.2=Φ,tt.1.2.1=s₀,tt.1.2.2=env,tt.2.1.1.1=sc,tt.2.1.1.2=t,tt.2.1.2=body,tt.2.2.1=aj,tt.2.2.2=R;intro W₀ Ψ e ht iL;intro k;induction k with
 |zero=>intro vars W ad s fl S hO m h hR;exact aa h
 |succ k ih=>
  intro vars W ad s fl S hO m h hR;refine ao (x:=dO Φ sc t vars (ev Φ sc t vars)) h fun b hb h=>aS ?_ rfl;show aK _ A ((whileTurn t body [] env).onRaise (fun x=>do noteFrame x env;theTreesLotGoes x)) _ _ s;refine fe (ab (ht e S.bV hb _ _ fun b' s1 x1 Ms=>?_));subst Ms;have S1:=S.ex x1;have m1:Mv C W₀ s₀ W s1:=m.trans (.ka x1);rcases b' with⟨⟩;case false=>obtain rfl:=Z9 h;exact ab (ah (ah (hR .next s1 ⟨rfl,W,ad,m1,S1,hO⟩)))
  case true=>
   refine ao (x:=bT Φ Ψ sc body vars) h fun ML hx h=>ab (iL S1 hO hx _ _ fun f s2 hf=>Bj m1 hf h (fun v q hg h3=>?_) fun g hg q=>?_)
   ·refine eB hg fun W3 QY m3 S3 Qe=>?_;have:=ih v W3 QY s2 fl S3 Qe (m1.trans m3) h3 hR;refine Z4 q (fun y0=>?_) fun y1=>?_
    ·obtain rfl:=y0;exact ah ⟨rfl,this⟩
    ·obtain rfl:=y1;exact ah ⟨rfl,this⟩
   ·refine Z4 q (fun y0=>?_) fun y1=>?_
    ·refine aL y0 ?_;clear y0;rintro(rfl) (rfl);exact ah (hR _ s2 hg)
    ·refine ax y1 ?_;clear y1;rintro v (rfl) (rfl);exact ah (hR _ s2 hg)
set_option tactic.hygienic true in
theorem SS.other {t:Nat}(S:SS C aj env sc vars W ad s)(CD:s.heap.get? L=some oL)(Bd:∃es n,oL.data=.dict es n)(hs:Heap.ExtBut L s.heap h')(hv:¬(aj L\/W L))(Jg:Bs C {s with heap:=h',toks:=t}):SS C aj env sc vars W ad {s with heap:=h',toks:=t}:=by
 have hl:L≠env.locals:=fun q=>hv (.inr (S.fw L (.inl q)))
 have q6:∀{y:Str}{w:Value},eR s.heap env y w->eR h' env y w:=fun H=>H.keep (fun o e x=>.of (hs _ _ hl.symm e)) fun b o c e hd=>hs _ _ (ij (P:=fun o=>∃c,o.data=.cell c) e CD ⟨c,hd⟩ fun⟨_,q⟩=>let⟨_,_,z⟩:=Bd;nomatch z.symm.trans q) e
 refine⟨⟨Jg,⟨fun a q=>.inl (S.tabs a q),fun a q=>(S.gS a q).imp id (S.fw a),fun a ha=>?_⟩,fun y sl hy=>?_,fun y c hc=>?_⟩,S.ki.keep fun b o q w=>.of (hs b o (fun z=>hv (z▸.inr (S.fw b w))) q),S.fw,S.sP,S.tabs,S.gS,S.w0,fun y d hy=>⟨q6 (S.own y d hy).1,(S.own y d hy).2⟩,S.apart⟩
 ·refine aJ (S.bV.vo.there a ha) fun o q=>?_;exact⟨o,hs a o (fun z=>hv (z▸ha)) q⟩
 ·refine ax (S.bV.lo y sl hy) fun w hw hr=>?_;refine⟨w,q6 hw,?_⟩;have up:∀{v:Value}{d:Dat},Rep s.heap (fun a=>aj a\/W a) v d->Rep h' (fun a=>aj a\/W a) v d:=fun r=>r.FH CD (.inl Bd) hs;rcases sl with⟨⟩;case val d=>exact up hr
  case own d=>
   obtain⟨ro,a,rfl,JQ,Ta⟩:=hr;refine⟨?_,a,rfl,JQ,Ta⟩;have iX:a≠L:=fun z=>hv (z▸JQ);cases ro with
   |rep r=>exact .rep (up r)
   |list ho hc hn hd hr=>exact .list (hs _ _ iX ho) hc hn hd (hr.qM fun b o q nn x c1 x=>⟨hs b o (fun z=>by subst z;rw[CD]at q;obtain rfl:=Z9 q;refine jK Bd fun x x z=>?_;exact c1 _ _ z) q,nn⟩)
   |ba ho hc hd=>exact .ba (hs _ _ iX ho) hc hd
 ·refine eZ (S.bV.cells y c hc) fun w o b3 b4=>?_;exact⟨w,o,hs _ _ (fun q=>by rw[q,CD]at b3;obtain rfl:=Z9 b3;refine jK Bd fun x x z=>?_;rw[z]at b4;rcases b4 with⟨⟩) b3,b4⟩
set_option tactic.hygienic true in
theorem vt (hC:C.Ok)(hO:cj C n)(hF:b7 C Φ n)(hA:cV C n A)(e:aN env sc)(i:In C vol env vars s)(h:ev Φ sc (.ListComp elt gens bD p) vars=some d){u:Value->Sem Unit}{Q:Unit->Shared->Prop}(K:∀L D s',Ex C s s'->Rep s'.heap vol (.ref D) d->s.heap.get? L=none->(∃m,s'.heap.Ns L m)->aK (model C.prog C.w) A (u (.ref D)) (fun z fM=>∃m,fM.heap.Ns L m/\∀h',Heap.SameBut L fM.heap h'->Q () {fM with heap:=h'}) E s'):aK (model C.prog C.w) A (evalThenUse (.ListComp elt gens bD p) env u) Q E s:=by
 rcases gens with⟨⟩
 case nil=>exact aa h
 case cons g rest=>obtain⟨t,it,ifs,a⟩:=g;refine aI (c:=a=0/\fv sc bD=true/\freshT (bw bD vars) t=true) h fun ha h=>ao (x:=orOwn it vars (ev Φ sc it vars)) h fun src sH h=>ao (x:=bb src) h fun items hit h=>ao (x:=cG (ei Φ bD t ifs (bw bD vars) fun vs=>gK Φ bD rest vs fun vs=>(ev Φ bD elt vs).map one) items) h fun ds hm h=>aI h fun eT h=>?_;obtain rfl:=Z9 h;refine bg ha ?_;clear ha;rintro(rfl) eN Tp;clear h;have nZ:∀g∈(⟨t,it,ifs,0⟩::rest:List Comprehension),eX C Φ A g.iter/\∀x∈g.ifs,iU C Φ A x:=fun g z=>⟨cH hC hO hF hA _,fun y z=>kQ hC hO hF hA y⟩;show aK _ A (comprehension (.ListComp elt (⟨t,it,ifs,0⟩::rest) bD p) bD env (firstIterPos (⟨t,it,ifs,0⟩::rest) p) (newList []) false (eval it env) (some u)>>=fun z=>pure ()) Q E s;refine ab (uf (Q:=fun z s'=>aK (model C.prog C.w) A (pure ()) Q E s') hA.handled e i eN (g8 (gj sH)) (du (cH hC hO hF hA it) e i sH) hit _ hm eT (fun jb cenv D I fx=>w4 (cH hC hO hF hA elt) hA nZ fx rest 0 t ifs _ I rfl (fun y z=>kQ hC hO hF hA y) Tp) fun L D s1 x1 r1 hL fO=>?_);exact aD (K L D s1 x1 r1 hL fO) (fun z s2⟨m,h1,h2⟩=>⟨m,h1,fun h' hs=>ah (h2 h' hs)⟩) fun z z q=>q
theorem jP {t:Option Expr}(h:nY value=false):swapsWith value t line env=pure false:=by rcases value with⟨⟩<;>first|rfl|rcases h with⟨⟩
set_option tactic.hygienic true in
theorem wd (hC:C.Ok)(hO:cj C n)(hF:b7 C Φ n)(hA:cV C n A)(e:aN env sc)(S:SS C aj env sc vars W ad s)(hD:dH vars)(h:oq Φ sc value vars=some (d,b9))(hb:bL sc x (.val d) b9=some vars'){Q:Flow->Shared->Prop}(hQ:∀s',Goes C aj env sc W s vars' s'->Q .next s'):aK (model C.prog C.w) A (exec (.Assign [.Name x xp] value pos) env) Q E s:=by
 have plain:swapsWith value (some (.Name x xp)) pos.line env=pure false->aK (model C.prog C.w) A (exec (.Assign [.Name x xp] value pos) env) Q E s:=by intro hs;refine bl (vS (cH hC hO hF hA value) e S hD h fun v s1 W1 x1 m1 S1 CI r1=>?_) hs (by rcases value with⟨⟩<;>rfl);show aK _ A (assign (.Name x xp) env v) _ E s1;show aK _ A (standAt xp>>=fun u=>bindName env x v) _ E s1;exact ab (aq (ew e S1 CI hb r1 fun s2 m2 S2 Ql u=>hQ s2 ⟨W1,ad,m1.trans m2,S2,Ql⟩))
 cases hc:nY value with
 |false=>exact plain (jP hc)
 |true=>
  rcases value with⟨⟩;case ListComp elt gens bD p=>
   have Nt:∃b,swapsWith (.ListComp elt gens bD p) (some (.Name x xp)) pos.line env=pure b:=⟨_,rfl⟩;refine aJ Nt fun b Nt=>?_;rcases b with⟨⟩;case false=>exact plain Nt
   case true=>
    rw[exec_Assign_Name_used x xp _ pos Nt];refine ab (aq (ab ?_));have go:∀(W1:Addr->Prop)(b9:az),SS C aj env sc b9 W1 ad s->dH b9->(∀a,W1 a->W a)->ev Φ sc (.ListComp elt gens bD p) b9=some d->bL sc x (.val d) b9=some vars'->aK (model C.prog C.w) A (evalThenUse (.ListComp elt gens bD p) env (assign (.Name x xp) env)) (fun u s'=>aK (model C.prog C.w) A (pure Flow.next) Q E s') E s:=by
     intro W1 b9 S1 CI hW h hb
     refine vt hC hO hF hA e S1.bV h fun L D s1 x1 r1 hL fO=>?_
     have S2:=S1.ex x1
     show aK _ A (standAt xp>>=fun u=>bindName env x (.ref D)) _ E s1
     refine ab (aq (ew e S2 CI hb r1 fun s2 m2 S3 Qk xw=>?_))
     refine jI fO fun m oL es ep CD Bd UW=>?_
     have nL:¬(aj L\/W1 L):=S1.bV.vo.new hL
     have nT:¬C.T L:=fun t=>nL (.inl (S1.tabs L t))
     have nF:¬C.fr L:=fun t=>nL ((S1.gS L t).imp id (S1.fw L))
     have Mc:=xw.keep _ _ CD nT nF fun q=>nL (.inr (S1.fw L q))
     refine⟨m,⟨oL,es,ep,Mc,Bd,UW⟩,fun h' hs=>ah ?_⟩
     have n0:C.h₀.get? L=none:=by cases q:C.h₀.get? L with|none=>rfl|some o=>have:=S1.bV.bs.keep L o q nT;rw[hL]at this;exact aa this
     have xL:gy C (fun a=>a=L) s2 {s2 with heap:=h',toks:=s2.toks}:=gy.same hs.extBut rfl nT (fun q=>(nF q).elim) (fun oa vs y t' e1 e2=>by rw[Mc]at e1;obtain rfl:=Z9 e1;rw[Bd]at e2;rcases e2 with⟨⟩)
     have S4:SS C aj env sc vars' W1 ad {s2 with heap:=h',toks:=s2.toks}:=S3.other Mc ⟨_,_,Bd⟩ hs.extBut nL (xL.bs S3.bV.bs fun a q=>q▸n0)
     refine hQ {s2 with heap:=h'} ⟨W1,ad,⟨fun b o q t f w=>hs.extBut b o (fun z=>by subst z;rw[hL]at q;exact aa q) (m2.keep b o (x1.keep b o q t f) t f fun z=>w (hW b z)),fun b o f w q=>(by refine ax (x1.nj b o f q) fun o1 e1 d1=>?_;refine ax (m2.nj b o1 f (fun z=>w (hW b z)) e1) fun o2 e2 d2=>?_;exact⟨o2,hs.extBut b o2 (fun z=>nF (z▸f)) e2,d2.trans d1⟩),fun a q=>.inl (hW a q)⟩,S4,Qk⟩
    refine pX h (fun h1 h2=>?_) fun h1 h2=>?_
    ·exact go W vars S hD (fun u q=>q) h1 (h2▸hb)
    ·exact go _ _ (S.iD hD) (.iD vars) S.fw h1 (h2▸hb)
  case SetComp elt gens bD p=>exact pX h (fun h1 u=>aa h1) fun h1 u=>aa h1
  case DictComp k v gens bD p=>exact pX h (fun h1 u=>aa h1) fun h1 u=>aa h1
  all_goals (rcases hc with⟨⟩)
theorem xJ (hC:C.Ok)(hO:cj C n)(hF:b7 C Φ n)(hA:cV C n A)(e:aN env sc)(S:SS C aj env sc vars W ad s)(hD:dH vars)(h:ig Φ sc x (.List es p) vars=some vars'){Q:Flow->Shared->Prop}(hQ:∀s',Goes C aj env sc W s vars' s'->Q .next s'):aK (model C.prog C.w) A (exec (.Assign [.Name x xp] (.List es p) pos) env) Q E s:=ao (x:=vM Φ sc es vars) h fun ds h1 h=>aI h fun eT h=>bl (wG (iH e (fun y u=>cH hC hO hF hA y) S.bV h1 _ _ fun vs s1 x1 r1=>⟨by refine xR r1.length ?_;exact bx eT,by
  have S1:=S.ex x1;have x2:Ex C s1 {s1 with heap:=s1.heap.push {cls:=.type "list",data:=.seq vs.toArray}}:=.of_keep (fun b o e=>Z3 _ e) rfl rfl;refine ab (aq (AZ e S1 hD x2 (aE _) (ZQ _) h ?_ (.inl ⟨ds,rfl⟩) fun s3 Na m3 S3 Qk=>hQ s3 ⟨_,Na,(Mv.ka x1).trans m3,S3,Qk⟩));refine .list (ZO _ rfl) rfl rfl rfl (r1.mono fun b o q nn=>⟨Z3 _ q,fun z=>?_⟩);refine Z4 z (fun z=>?_) fun y0=>?_
  ·exact nn (.inl z)
  refine Z4 y0 (fun z=>?_) fun z=>?_
  ·exact nn (.inr z)
  ·simp only[z,aE]at q;exact aa q⟩)) rfl rfl
set_option tactic.hygienic true in
theorem EI (h:newD f ds=some d):(∃ds,d=.list ds)\/∃b,d=.ba b:=by
 match ds,h with
 |[a],h=>
  have h':(if f="list" then(match a with
   | .list _| .tuple _| .range _ _ _=>(match bb a with|some es=>if es.length<=aM then some (.list es)else none|none=>none)
   |_=>none)
  else if f="bytearray" then(match a with
   | .int n=>if 0<=n/\n<=(aM:Int)then some (.ba (List.replicate n.toNat 0))else none| .bytes b=>if b.length<=aM then some (.ba b)else none|_=>none)
  else none)=some d:=h;clear h;split at h'
  ·have key:∀{o:Option (List Dat)},(match o with|some es=>if es.length<=aM then some (Dat.list es)else none|none=>none)=some d->∃ds,d=.list ds:=fun{o}h=>by
    rcases o with⟨⟩;case none=>exact aa h
    case some es=>exact aI h fun u h=>⟨es,(Z9 h).symm⟩
   rcases a with⟨⟩;case list l=>exact .inl (key (o:=bb (.list l)) h')
   case tuple l=>exact .inl (key (o:=bb (.tuple l)) h')
   case range x y z=>exact .inl (key (o:=bb (.range x y z)) h')
   all_goals (exact aa h')
  ·refine aI h' fun u h'=>?_;rcases a with⟨⟩;case int n=>exact aI h' fun u h=>.inr ⟨_,(Z9 h).symm⟩
   case bytes b=>exact aI h' fun u h=>.inr ⟨_,(Z9 h).symm⟩
   all_goals (exact aa h')
theorem zu (hC:C.Ok)(hO:cj C n)(hF:b7 C Φ n)(hS:ng C n)(hA:cV C n A){a:Expr}(e:aN env sc)(S:SS C aj env sc vars W ad s)(hD:dH vars)(hn:isNew Φ sc vars f=true)(h:((jq Φ sc [a] vars).bind fun ds=>(newD f ds).bind fun d=>bL sc x (.own d) vars)=some vars'){Q:Flow->Shared->Prop}(hQ:∀s',Goes C aj env sc W s vars' s'->Q .next s'):aK (model C.prog C.w) A (exec (.Assign [.Name x xp] (.Call (.Name f fp) [a] [] p) pos) env) Q E s:=ao h fun ds h1 h=>ao h fun d h2 h=>by delta isNew at hn;simp only[ZR,beq_iff_eq]at hn;have hg:=hn.1.2;clear hn;refine uB (hS.new h2) fun v c1 c2 c3 c4 call=>?_;refine bl ?_ rfl rfl;have fO:=jt (pos:=p) (kc (env:=env) h1);refine ab (fz hC e S.bV.bs hg c3 c1 c2 (bQ c4 fO (cn fO (nX e (fun y u=>cH hC hO hF hA y) S.bV h1) _ _ fun z s1 x1 r1=>?_)));obtain⟨ps,kw⟩:=z;refine aL r1 ?_;clear r1;rintro(rfl) r1;have S1:=S.ex x1;refine call hA S1.bV.bs S1.bV.vo r1 fun b s2 x2 hb hsz r2=>?_;have hv:(fun c=>aj c\/(W c\/c=b))=fun c=>(aj c\/W c)\/c=b:=funext fun c=>propext or_assoc.symm;exact ab (aq (AZ e S1 hD x2 hb hsz h (hv▸r2) (EI h2) fun s3 Na m3 S3 Qk=>hQ s3 ⟨_,Na,(Mv.ka x1).trans m3,S3,Qk⟩))
theorem Az (hC:C.Ok)(hO:cj C n)(hF:b7 C Φ n)(hS:ng C n)(hA:cV C n A)(e:aN env sc)(S:SS C aj env sc vars W ad s)(hD:dH vars)(h:ig Φ sc x value vars=some vars'){Q:Flow->Shared->Prop}(hQ:∀s',Goes C aj env sc W s vars' s'->Q .next s'):aK (model C.prog C.w) A (exec (.Assign [.Name x xp] value pos) env) Q E s:=by
 have val:(oq Φ sc value vars).bind (BR sc x)=some vars'->aK (model C.prog C.w) A (exec (.Assign [.Name x xp] value pos) env) Q E s:=fun h=>ao h fun r h1 h=>wd hC hO hF hA e S hD h1 h hQ;unfold ig at h;cases hl:wg value with
 |some es=>simp only[hl]at h;refine aJ (AB hl) ?_;rintro p (rfl);exact xJ hC hO hF hA e S hD h hQ
 |none=>
  rw[hl]at h;cases hn:(um value).any fun z=>z.2.length==1&&isNew Φ sc vars z.1 with
  |false=>rw[hn]at h;exact val h
  |true=>replace h:=hn▸h;refine ao (x:=um value) h fun z hz h=>?_;rw[hz]at hn;obtain⟨f,as⟩:=z;refine jK (C7 hz) ?_;rintro q p (rfl);refine aL (Bool.and_eq_true_iff.mp (show(as.length==1&&isNew Φ sc vars f)=true from hn)) fun h1 hn=>?_;revert h;exact Sl (P:=fun as=>((jq Φ sc as vars).bind fun ds=>(newD f ds).bind fun d=>bL sc x (.own d) vars)=some vars'->aK (model C.prog C.w) A (exec (.Assign [.Name x xp] (.Call (.Name f q) as [] p) pos) env) Q E s) (beq_iff_eq.mp h1) fun a h=>zu hC hO hF hS hA e S hD hn h hQ
def yI (C:Cx)(Φ:gq)(Ψ:Scope->Stmt->az->Option Fl)(A:Around):Prop:=∀{aj env sc t it body pos z zs x y vars W ad s fl},aN env sc->SS C aj env sc vars W ad s->dH vars->la Φ sc it vars=some z->isTup t=true->ev Φ sc z.1 vars=some x->ev Φ sc z.2 vars=some y->Kt x y=some zs->(∀qb,yL C Φ Ψ qb env sc A body)->cQ (fun d vs=>match bp sc t d vs with|none=>none|some vs=>bT Φ Ψ sc body vs) zs vars=some fl->∀(E:Value->Shared->Prop)(Q:Flow->Shared->Prop),(∀f s',yK C aj env sc W s fl f s'->Q f s')->aK (model C.prog C.w) A (exec (.For t it body [] pos) env) Q E s
def oE (C:Cx)(Ψ:Scope->Stmt->az->Option Fl)(A:Around)(env:Env):Prop:=∀{aj sc st vars W ad s fl},aN env sc->SS C aj env sc vars W ad s->dH vars->Ψ sc st vars=some fl->∀(E:Value->Shared->Prop)(Q:Flow->Shared->Prop),(∀f s',yK C aj env sc W s fl f s'->Q f s')->aK (model C.prog C.w) A (exec st env) Q E s
set_option backward.match.sparseCases true in
theorem z9 (hP:oE C Ψ A env)(e:aN env sc):∀{sts:List Stmt},(∀st∈sts,VA C Φ Ψ aj env sc A st)->yL C Φ Ψ aj env sc A sts
 |[],_,vars,W,ad,fl,s,S,hD,h,E,Q,hQ=>by obtain rfl:=Z9 h;exact fE (hQ _ _ ⟨rfl,W,ad,.refl s,S,hD⟩)
 |st::sts,hm,vars,W,ad,fl,s,S,hD,h,E,Q,hQ=>ao (x:=j9 (Ψ sc st vars) (ex Φ Ψ sc st vars)) h fun ML h1 h=>by
  have one:∀(Q:Flow->Shared->Prop),(∀f s',yK C aj env sc W s ML f s'->Q f s')->aK (model C.prog C.w) A (exec st env) Q E s:=by
   intro Q hQ;cases hp:Ψ sc st vars with
   |some r=>simp only[hp]at h1;obtain rfl:=Z9 h1;exact hP e S hD hp E Q hQ
   |none=>replace h1:=hp▸h1;exact hm st Z6 S hD h1 E Q hQ
  refine ab (one _ fun f s1 hf=>?_);rcases ML with⟨⟩;case next v1=>refine ZU fun hG=>?_;obtain⟨rfl,W1,YV,m1,S1,CI⟩:=hf;refine hG ?_;exact z9 hP e (fun y hy=>hm y (Z7 _ hy)) S1 CI h E Q fun f s2 hf=>hQ f s2 (hf.trans m1)
  case brk v1=>obtain rfl:=Z9 h;(refine aL (id hf) ?_;rintro(rfl) hg);exact ah (hQ _ _ hf)
  case cont v1=>obtain rfl:=Z9 h;(refine aL (id hf) ?_;rintro(rfl) hg);exact ah (hQ _ _ hf)
  case ret d=>obtain rfl:=Z9 h;(refine ax (id hf) ?_;rintro v (rfl) hg);exact ah (hQ _ _ hf)
set_option tactic.hygienic true in
theorem y8 {a j a':Dat}(h:nH a j d=some a'):(∃ds,a'=.list ds)\/∃b,a'=.ba b:=by
 rcases a with⟨⟩;case list ds=>cases j with
  |int i=>exact aI h fun x h=>.inl ⟨_,(Z9 h).symm⟩|_=>exact aa h
 case ba b=>cases j with
  |int i=>cases d with
   |int k=>exact aI h fun x h=>.inr ⟨_,(Z9 h).symm⟩|_=>exact aa h
  |_=>exact aa h
 all_goals (exact aa h)
set_option tactic.hygienic true in
theorem EM {a a':Dat} (h:qK m a ds=some a'):(∃ds,a'= .list ds)∨∃b,a'= .ba b:=by
 rcases a with ⟨⟩
 case list l=>match ds,h with
  |[d],h=>
   have h':(if m="append" then (if l.length + 1≤aM then some (.list (l++[d])) else none)
  else if m="extend" then (match d with| .tuple es=>if l.length + es.length≤aM then some (.list (l++es)) else none|_=>none)
  else if m="remove" then (if l.length≤aM then (xd d l).map .list else none)
  else none)=some a':=h
   clear h
   split at h'
   ·exact aI h' fun x h=> .inl ⟨_,(Z9 h).symm⟩
   ·split at h'
    ·rcases d with ⟨⟩
     case tuple es=>exact aI h' fun x h=> .inl ⟨_,(Z9 h).symm⟩
     all_goals (exact aa h')
    ·exact aI h' fun x h'=>aI h' fun x h=>aZ h fun es x h=> .inl ⟨_,h.symm⟩
 all_goals (exact aa h)
theorem changed {t:Nat}(S:SS C aj env sc vars W ad s)(hD:dH vars)(hx:vars.lookup x=some (.own d))(x1:Ex C s s1)(hs:Heap.SameBut (ad x) s1.heap h')(r:aT h' (fun b=>aj b\/W b) (.ref (ad x)) a')(hd:(∃ds,a'=.list ds)\/∃b,a'=.ba b):Goes C aj env sc W s ((x,.own a')::vars) {s1 with heap:=h',toks:=t}:=by refine bg (md (t:=t) (S.ex x1) hD hx hs r hd) fun m S2 Ql=>?_;exact⟨W,ad,(Mv.ka x1).trans m,S2,Ql⟩
theorem gZ (e:aN env sc):interactive env=false:=by unfold interactive;rw[e.kind];rfl
theorem R9 {P:Prop}(h:(none:Option Fl)=some fl):P:=aa h
theorem ve {a:Dat}(S:SS C aj env sc vars W ad s)(hx:vars.lookup x=some (.own a)):aT s.heap (fun b=>aj b\/W b) (.ref (ad x)) a:=by refine ax (S.bV.lo x _ hx) fun w hw hr=>?_;obtain rfl:=hw.unique (S.own x a hx).1;exact hr.1
theorem xg {α:Type}{b:Bool}{y:Option α}{r:α}(h:bX b none y=some r):b=false/\y=some r:=by
 rcases b with⟨⟩;case true=>exact aa h
 case false=>exact⟨rfl,h⟩
theorem yG (hC:C.Ok)(hO:cj C n)(hF:b7 C Φ n)(hA:cV C n A){es:List Expr}{j:Nat}{q pos:Pos}{value:Expr}{fl:Fl}(e:aN env sc)(S:SS C aj env sc vars W ad s)(hD:dH vars)(h:ex Φ Ψ sc (.Assign [.Tuple es j q] value pos) vars=some fl){Q:Flow->Shared->Prop}(hQ:∀f s',yK C aj env sc W s fl f s'->Q f s'):aK (model C.prog C.w) A (exec (.Assign [.Tuple es j q] value pos) env) Q E s:=by refine aL (xg (b:=nY value||isTup value) h) fun hc h=>?_;rw[Bool.or_eq_false_iff]at hc;exact ao h fun r h1 h=>aZ h fun v2 h2 h=>by subst h;refine bl (vS (cH hC hO hF hA value) e S hD h1 fun v s1 W1 x1 m1 S1 CI r1=>?_) (jP (t:=some (.Tuple es j q)) (line:=pos.line) (env:=env) hc.1) (by rcases value with⟨⟩<;>first|rfl|cases hc.2);exact qh hA.handled e S1 CI h2 r1 fun s2 m2 S2 Ql=>hQ _ _ ⟨rfl,W1,ad,m1.trans m2,S2,Ql⟩
theorem AA (hC:C.Ok)(hO:cj C n)(hF:b7 C Φ n)(hS:ng C n)(hA:cV C n A){x:Str}{i value:Expr}{xp q pos:Pos}{fl:Fl}(e:aN env sc)(S:SS C aj env sc vars W ad s)(hD:dH vars)(h:ex Φ Ψ sc (.Assign [.Subscript (.Name x xp) i q] value pos) vars=some fl){Q:Flow->Shared->Prop}(hQ:∀f s',yK C aj env sc W s fl f s'->Q f s'):aK (model C.prog C.w) A (exec (.Assign [.Subscript (.Name x xp) i q] value pos) env) Q E s:=by refine aL (xg (b:=nY value) h) fun hc h=>?_;exact ao h fun a hx h=>ao h fun d h1 h=>ao h fun j h2 h=>aZ h fun a' h3 h=>by subst h;have hx:=tL hx;refine jL (cH hC hO hF hA value e S.bV h1 _ _ fun v s1 x1 r1=>?_) (jP hc);have S1:=S.ex x1;refine g7 e (S1.own x a hx).1 (cH hC hO hF hA i e S1.bV h2 _ _ fun u s2 x2 r2=>?_);have S2:=S1.ex x2;exact hS.Uw h3 hA S2.bV.bs S2.bV.vo (.inr (S.own x a hx).2) (ve S2 hx) r2 (r1.ex S1.bV.vo x2) fun s3 h' t x3 hs r3=>hQ _ _ ⟨rfl,changed S hD hx (x1.trans (x2.trans x3)) hs r3 (y8 h3)⟩
theorem Cd (hC:C.Ok)(hO:cj C n)(hF:b7 C Φ n)(hS:ng C n)(hA:cV C n A)(e:aN env sc)(S:SS C aj env sc vars W ad s)(hD:dH vars)(h:ex Φ Ψ sc (.Expr (.Call (.Attribute (.Name x xp) m ap) args [] p) pos) vars=some fl){Q:Flow->Shared->Prop}(hQ:∀f s',yK C aj env sc W s fl f s'->Q f s'):aK (model C.prog C.w) A (exec (.Expr (.Call (.Attribute (.Name x xp) m ap) args [] p) pos) env) Q E s:=aI (c:=(ap.endLine==p.line)=true/\args.length<30) h fun hb h=>ao h fun a hx h=>ao h fun ds h1 h=>aZ h fun a' h2 h=>by subst h;have hx:=tL hx;refine wH ?_ (gZ e) rfl;refine ax (hS.chg h2 S.bV.bs S.bV.vo (ve S hx)) fun id hm call=>?_;show aK _ A (eval (.Name x xp) env>>=fun ov=>standAt ap.atName>>=fun u=>methodCall (.Name x xp) m ap p env ov (args.length+0) (backTo p (starEach args env)) (backToKw p (keywordEach [] env))) _ E s;refine ab (g7 e (S.own x a hx).1 (ab (aq ?_)));have fO:=jt (pos:=p) (lr (env:=env) h1);have CN:methodCallForm (args.length+0) (backTo p (starEach args env)) (backToKw p (keywordEach [] env))=true:=FG fO hb.2;unfold methodCall;refine xR CN ?_;refine ab (ar ?_);refine hm _ _ fun r s2 x2 hr=>?_;subst hr;refine ab (Eq.mpr (congrArg (fun t=>aK (model C.prog C.w) A t _ E s2) (rH (o:=.Name x xp) hb.1)) (ah ?_));have S2:=S.ex x2;refine bQ (fun u q=>by rcases q with⟨⟩) fO (cn fO (iH e (fun y u=>cH hC hO hF hA y) S2.bV h1) _ _ fun z s3 x3 r3=>?_);obtain⟨ps,kw⟩:=z;refine aL r3 ?_;clear r3;rintro(rfl) r3;have S3:=S2.ex x3;exact call hA S3.bV.bs S3.bV.vo (.inr (S.own x a hx).2) (ve S3 hx) r3 fun s4 h' t x4 hs r4=>hQ _ _ ⟨rfl,changed S hD hx (x2.trans (x3.trans x4)) hs r4 (EM h2)⟩
theorem MI (hC:C.Ok)(hO:cj C n)(hF:b7 C Φ n)(hA:cV C n A)(e:aN env sc)(hb:yL C Φ Ψ aj env sc A b)(S:SS C aj env sc vars W ad s)(hD:dH vars)(h:((oq Φ sc it vars).bind fun r=>(bb r.1).bind fun items=>cQ (fun d vs=>match bp sc t d vs with|none=>none|some vs=>bT Φ Ψ sc b vs) items r.2)=some fl){Q:Flow->Shared->Prop}(hQ:∀f s',yK C aj env sc W s fl f s'->Q f s'):aK (model C.prog C.w) A (exec (.For t it b [] pos) env) Q E s:=ao h fun r h1 h=>ao h fun items hit h=>by
  simp only[exec_For];refine ab (aq (ab (vS (cH hC hO hF hA it) e S hD h1 fun v s1 W1 x1 m1 S1 CI r1=>?_)));have fO:∀es k p,it≠.Set es k p:=by rintro es k p rfl;exact pX h1 (fun q x=>aa q) fun q x=>aa q
  refine xR (g8 fO _) ?_;refine ab (ah (ab (aq (ab (ar ?_)))));refine pS (W:=fun a=>W1 a\/C.T a\/C.fr a) (.rep r1) hit (fun a q=>q.elim (fun q=>S1.bV.vo.there a (.inr q)) fun q=>S1.bV.vo.there a (S1.bV.vo.tf a q)) (fun a ha q=>r1.zq hit ha (q.elim .inr fun q=>S1.bV.vo.tf a q)) fun I h2 hI pU xI=>?_;have x2:Ex C s1 {s1 with heap:=h2}:=.of_keep pU rfl rfl;have nv:¬(aj I\/W1 I):=S1.bV.vo.new hI;have nT:¬C.T I:=fun q=>nv (.inl (S1.tabs I q));have n0:C.h₀.get? I=none:=by cases q:C.h₀.get? I with|none=>rfl|some o=>have:=S1.bV.bs.keep I o q nT;replace this:=hI.symm.trans this;exact aa this
  refine gz ?_;exact z5 (s₀:=s1) (W₀:=W1) hA e hI nT n0 hb items r.2 W1 ad {s1 with heap:=h2} fl xI (S1.ex x2) CI (fun q=>nv (.inl q)) (.ka x2) h fun f s3 hf=>hQ f s3 (hf.trans m1)
set_option tactic.hygienic true in
theorem ON (hC:C.Ok)(hO:cj C n)(hF:b7 C Φ n)(hS:ng C n)(hA:cV C n A)(hP:oE C Ψ A env)(hZ:yI C Φ Ψ A)(e:aN env sc):∀(k:Nat)(aj:Addr->Prop)(st:Stmt),sizeOf st<k->VA C Φ Ψ aj env sc A st:=by
 intro k;induction k with
 |zero=>intro v x h;exact((Nat.not_lt_zero _) h).elim
 |succ k ih=>
  intro aj st hk vars W ad fl s S hD h E Q hQ;have Bo:∀(qb:Addr->Prop){b:List Stmt},sizeOf b<k->yL C Φ Ψ qb env sc A b:=fun qb{b}hb=>z9 hP e fun y hy=>ih qb y (Nat.lt_trans (List.sizeOf_lt_of_mem hy) hb);have body:∀{b:List Stmt},sizeOf b<k->yL C Φ Ψ aj env sc A b:=Bo aj;rcases Ab h with⟨t,value,pos,rfl⟩|⟨value,pos,rfl⟩|⟨t,b,o,pos,rfl⟩|⟨t,it,b,pos,rfl⟩|⟨t,b,pos,rfl⟩|⟨x,pos,rfl⟩|⟨pos,rfl⟩
  ·have h:t7 Φ sc t value vars=some fl:=h;have ht:=N0 t;unfold t7 at h;generalize Q7 t=g at ht h;rcases g with⟨⟩;case no=>exact R9 h
   case name x=>refine aJ ht ?_;clear ht;rintro xp (rfl);exact aZ (x:=ig Φ sc x value vars) h fun v1 h1 h=>Az hC hO hF hS hA e S hD h1 fun s1 hg=>hQ _ _ (h▸⟨rfl,hg⟩)
   case tup=>refine i0 ht ?_;clear ht;rintro es j q (rfl);exact yG (Ψ:=Ψ) hC hO hF hA e S hD h hQ
   case item x i=>refine jK ht ?_;clear ht;rintro xp q (rfl);exact AA (Ψ:=Ψ) hC hO hF hS hA e S hD h hQ
  ·refine ao (x:=Bm value) h fun z h1 h=>?_;obtain⟨x,m,args,ap,p⟩:=z;refine aJ (C8 h1) ?_;rintro xp (rfl);exact Cd (Ψ:=Ψ) hC hO hF hS hA e S hD h hQ
  ·have hb:sizeOf b<k/\sizeOf o<k:=by simp at hk;exact r8 0x420410494b32109bbbb02 rfl hk
   refine ao (x:=sO Φ sc t vars) h fun r h1 h=>Kw (II (kQ hC hO hF hA t) e S hD h1 fun s1 W1 m1 S1 CI=>?_);cases hr:r.1 with|true=>rw[hr]at h;exact body hb.1 S1 CI h E Q fun f s2 hf=>hQ f s2 (hf.trans m1)|false=>rw[hr]at h;exact body hb.2 S1 CI h E Q fun f s2 hf=>hQ f s2 (hf.trans m1)
  ·have hb:sizeOf b<k:=by simp at hk;exact AG 0x52095b432109bbbbb02 rfl hk
   cases hz:la Φ sc it vars with
   |some z=>
    have h':bX (isTup t) ((ev Φ sc z.1 vars).bind fun x=>(ev Φ sc z.2 vars).bind fun y=>(Kt x y).bind fun zs=>cQ (fun d vs=>match bp sc t d vs with|none=>none|some vs=>bT Φ Ψ sc b vs) zs vars) none=some fl:=by have h0:sN Φ sc t it (fun vs=>bT Φ Ψ sc b vs) vars=some fl:=h;unfold sN at h0;rw[hz]at h0;exact h0
    clear h;cases ht:isTup t with|false=>rw[ht]at h';exact aa h'|true=>rw[ht]at h';exact ao h' fun x h1 h=>ao h fun y h2 h=>ao h fun zs h3 h=>hZ e S hD hz ht h1 h2 h3 (fun v=>Bo v hb) h E Q hQ
   |none=>
    have h':((oq Φ sc it vars).bind fun r=>(bb r.1).bind fun items=>cQ (fun d vs=>match bp sc t d vs with|none=>none|some vs=>bT Φ Ψ sc b vs) items r.2)=some fl:=by have h0:sN Φ sc t it (fun vs=>bT Φ Ψ sc b vs) vars=some fl:=h;unfold sN at h0;replace h0:=hz▸h0;exact h0
    exact MI hC hO hF hA e (body hb) S hD h' hQ
  ·have hb:sizeOf b<k:=by simp at hk;exact r8 0x41094b32109bbbb02 rfl hk
   exact Bz (BF (s₀:=s) (W₀:=W) e (kQ hC hO hF hA t) (body hb) Φ.fuel vars W ad s fl S hD (.refl s) h hQ)
  ·exact aZ (x:=oq Φ sc x vars) h fun r h1 h=>pq (vS (cH hC hO hF hA x) e S hD h1 fun v s1 W1 x1 m1 S1 CI r1=>hQ _ _ (h▸⟨v,rfl,Rep.kM (fun a q=>.inl q) r1,S1.bV.bs,W1,m1⟩))
  ·obtain rfl:=Z9 h;exact ai <|wpAny_Break (hQ _ _ ⟨rfl,W,ad,.refl s,S,hD⟩)
theorem CP (hC:C.Ok)(hO:cj C n)(hF:b7 C Φ n)(hS:ng C n)(hA:cV C n A)(hP:oE C Ψ A env)(hZ:yI C Φ Ψ A)(e:aN env sc)(sts:List Stmt):yL C Φ Ψ aj env sc A sts:=z9 hP e fun y x=>ON hC hO hF hS hA hP hZ e _ aj y (Nat.lt_succ_self _)
theorem Gl (kindOf:Str->Option NameKind):∀(binds:List (Str×Value))(m:Str->Option Value)(x:Str),kindOf x=some .local->bindL kindOf binds m x=(binds.reverse.lookup x).or (m x):=by
 intro binds;induction binds with
 |nil=>intro m x _;simp[bindL]
 |cons y0 r vz=>
  intro m x hx;obtain⟨y,v⟩:=y0;unfold bindL;rw[vz _ x hx,List.reverse_cons];have ha:∀(l:List (Str×Value)),(l++[(y,v)]).lookup x=(l.lookup x).or (if x=y then some v else none):=by
   intro l;induction l with
   |nil=>
    show List.lookup x [(y,v)]=_;rw[ZS];by_cases q:x=y
    ·subst q;simp
    ·have:(x==y)=false:=by rw[ZJ];exact q
     rw[this,ZX q];rfl
   |cons p l ih=>rw[List.cons_append,ZS,ZS];cases x==p.1 with|true=>rfl|false=>exact ih
  rw[ha];cases hl:r.reverse.lookup x with
  |some w=>rfl
  |none=>
   simp only[Option.none_or];by_cases q:x=y
   ·subst q;rw[Z1 hx,Z1 rfl,Z1 rfl];rfl
   ·rw[ZX q];split
    ·dsimp only;rw[ZX q];rfl
    ·rfl
theorem Gm (kindOf:Str->Option NameKind):∀(binds:List (Str×Value))(m:Str->Option Value)(x:Str),kindOf x≠some .local->bindC kindOf binds m x=(binds.reverse.lookup x).or (m x):=by
 intro binds;induction binds with
 |nil=>intro m x _;simp[bindC]
 |cons y0 r vz=>
  intro m x hx;obtain⟨y,v⟩:=y0;unfold bindC;rw[vz _ x hx,List.reverse_cons];have ha:∀(l:List (Str×Value)),(l++[(y,v)]).lookup x=(l.lookup x).or (if x=y then some v else none):=by
   intro l;induction l with
   |nil=>
    show List.lookup x [(y,v)]=_;rw[ZS];by_cases q:x=y
    ·subst q;simp
    ·have:(x==y)=false:=by rw[ZJ];exact q
     rw[this,ZX q];rfl
   |cons p l ih=>rw[List.cons_append,ZS,ZS];cases x==p.1 with|true=>rfl|false=>exact ih
  rw[ha];cases hl:r.reverse.lookup x with
  |some w=>rfl
  |none=>
   simp only[Option.none_or];by_cases q:x=y
   ·subst q;rw[ZX hx,Z1 rfl,Z1 rfl];rfl
   ·rw[ZX q];split
    ·rfl
    ·dsimp only;rw[ZX q];rfl
structure oG (sc:Scope):Prop where
 kind:sc.kind=.function
 gen:sc.isGenerator=false
 co:sc.isCoroutine=false
 uniq:∀p∈sc.names,sc.names.lookup p.1=some p.2
 Ll:∀p∈sc.names,p.2≠.free
theorem CT (h:oG fd.scope)(hg:fd.globals=mainGlobals)(hb:fd.builtins=builtinsNs):aN (callEnvC fd L a) fd.scope:=by
 have nf:∀x,fd.scope.names.lookup x≠some .free:=fun x q=>h.Ll _ (mem_of_lookup q) rfl;refine⟨h.kind,hg,hb,fun x q=>q,fun x q=>q,fun x q=>q,fun x q=>absurd q (nf x),fun x q=>?_,fun x y c hx hy=>?_⟩
 ·refine Z4 q (fun q=>?_) fun q=>?_
  ·refine aJ (d8 (n:=L+1) (acc:=[]) (.inl (mem_of_lookup q))) fun c hc=>?_;exact dB hc
  ·exact((nf x) q).elim
 ·exact lL (fun z z q=>by rcases q with⟨⟩) (fun z z z q=>by rcases q with⟨⟩) (mem_of_lookup hx) (mem_of_lookup hy)
theorem vr {α:Type}:∀{l:List (Str×α)}{x:Str}{v:α},(l.map (·.1)).Nodup->(x,v)∈l->l.lookup x=some v:=by
 intro l;induction l with
 |nil=>intros;first|contradiction|(rename_i h;cases h)|(rename_i h _;cases h)|(rename_i h;exact nomatch h)
 |cons y0 r ih=>
  intro x v hn hm;obtain⟨y,w⟩:=y0;rw[ZS];rw[ZI,List.nodup_cons]at hn;refine Z4 (Zy hm) (fun q=>?_) fun q=>?_
  ·rcases q with⟨⟩;simp
  ·have:x≠y:=fun z=>hn.1 (z▸List.mem_map_of_mem (f:=(·.1)) q);have hb:(x==y)=false:=by rw[ZJ];exact this
   rw[hb];exact ih hn.2 q
theorem aH.zip:∀{xs:List Str}{vs:List Value}{ds:List Dat},aH h vol vs ds->(x,d)∈xs.zip ds->∃v,(x,v)∈xs.zip vs/\Rep h vol v d
 |[],_,_,_,hm=>by simp at hm
 |y::xs,_,_,.nil,hm=>by simp at hm
 |y::xs,_,_,.cons r rs,hm=>by
  simp only[List.zip_cons_cons]at hm ⊢;refine Z4 (Zy hm) (fun q=>?_) fun q=>?_
  ·rcases q with⟨⟩;exact⟨_,Z6,r⟩
  ·refine ax (rs.zip q) fun v h1 h2=>?_;exact⟨v,Z7 _ h1,h2⟩
noncomputable def bB (xs:List Str)(ds:List Dat):az:=(xs.zip ds).map fun p=>(p.1,.val p.2)
theorem eJ (h:(bB xs ds).lookup x=some sl):∃d,sl=.val d/\(x,d)∈xs.zip ds:=by have hm:=mem_of_lookup h;refine ax (Zx hm) fun y0 h1 h2=>?_;obtain⟨y,d⟩:=y0;rcases h2 with⟨⟩;exact⟨d,rfl,h1⟩
noncomputable def Cx.at (C:Cx)(fr:Addr->Prop):Cx:={C with fr:=fr}
theorem Cx.Ok.at (h:C.Ok)(fr:Addr->Prop):(C.at fr).Ok:=⟨h.g,h.b,h.nolimit,h.builtins,h.qg⟩
def Cx.more (C:Cx)(L:Addr):Cx:=C.at fun a=>C.fr a\/a=L
theorem Bs.more (z:Bs C s)(h:fI s.heap L):Bs (C.more L) s:=⟨z.keep,z.tab,z.gens,z.os,fun a f=>f.elim (z.alive a) fun q=>q▸h⟩
theorem Bs.less (z:Bs (C.more L) s):Bs C s:=⟨z.keep,z.tab,z.gens,z.os,fun a f=>z.alive a (.inl f)⟩
theorem D1 (h:oG fd.scope)(bs:Bs C s)(V:aW C vol s)(r:aH s.heap vol vs ds)(hx:xs.Nodup)(hlen:xs.length=ds.length)(hk:∀x∈xs,(fd.scope.names.lookup x=some .local\/fd.scope.names.lookup x=some .cell)/\(x==("__debug__":Str))=false/\(x==("__classdict__":Str))=false)(ic:InCallC s (callEnvC fd s.heap.objs.size a).locals (bindL (callEnvC fd s.heap.objs.size a).kindOf (xs.zip vs) fun u=>none) (callEnvC fd s.heap.objs.size a).cells (bindC (callEnvC fd s.heap.objs.size a).kindOf (xs.zip vs) fun u=>none) s'):SS (C.more s.heap.objs.size) vol (callEnvC fd s.heap.objs.size a) fd.scope (bB xs ds) (FW (callEnvC fd s.heap.objs.size a) fd.scope) (fun u=>0) s'/\Ex C s s':=by
 generalize Mo:callEnvC fd s.heap.objs.size a=env at *;have hL:env.locals=s.heap.objs.size:=by refine xL Mo ?_;rfl
 have Il:∀x,env.kindOf x=fd.scope.names.lookup x:=fun x=>by refine xL Mo ?_;rfl
 have q7:env.cells=cellsFrom (s.heap.objs.size+1) fd.scope.names []:=by refine xL Mo ?_;rfl
 refine eZ ic.done fun h' tk xZ yO=>?_;have x1:Ex C s s':=by refine xR xZ ?_;exact .of_keep yO rfl rfl
 have sJ:∀b,FW env fd.scope b->s.heap.get? b=none:=fun b q=>by
  refine Z4 q (fun q=>?_) fun y0=>?_
  ·refine xR q (xR hL ?_);exact aE _
  ·refine ax y0 fun x u q=>?_;have:=ic.above x b (mem_of_lookup q);replace this:=hL▸this;exact uK (Nat.le_of_lt this)
 have Su:∀b,FW env fd.scope b->¬vol b:=fun b q=>V.new (sJ b q);have h0:∀b,FW env fd.scope b->C.h₀.get? b=none:=fun b q=>by cases e:C.h₀.get? b with|none=>rfl|some o=>have:=bs.keep b o e fun t=>Su b q (V.tabs b t);replace this:=(sJ b q).symm.trans this;exact aa this
 have yQ:=x1.bs bs;have PZ:((xs.zip vs).reverse.map (·.1)).Nodup:=by
  refine xR List.map_reverse ?_;have:(xs.zip vs).map (·.1)=xs:=by rw[List.map_fst_zip];refine xR r.length ?_;exact aR 0x1011022 rfl hlen
  refine xR this ?_;exact List.pairwise_reverse.mpr (List.Pairwise.imp (fun q=>Ne.symm q) hx)
 have V1:=V.ex x1 yQ;have IB:∀b,FW env fd.scope b->∃o,s'.heap.get? b=some o:=fun b q=>by
  refine Z4 q (fun q=>?_) fun y0=>?_
  ·refine jJ ic.toInCall.ns fun o u u ho u=>?_;exact⟨o,q▸ho⟩
  ·refine ax y0 fun x u q=>?_;refine ax (ic.cell x b q) fun o ho u=>?_;exact⟨o,ho⟩
 have nT:∀b,FW env fd.scope b->¬C.T b:=fun b q t=>Su b q (V.tabs b t);have Yp:Bs (C.more s.heap.objs.size) s':=yQ.more (hL▸let⟨o,es,ep,ho,hd,_⟩:=ic.toInCall.ns;⟨o,es,ep,ho,hd⟩);refine⟨⟨⟨Yp,⟨fun b t=>.inl (V.tabs b t),fun b t=>t.elim (fun t=>.inl (V.gS b t)) fun q=>.inr (.inl (q.trans hL.symm)),fun b q=>q.elim (V1.there b) (IB b)⟩,fun x sl wu=>?_,fun x c hc=>⟨_,ic.cell x c hc⟩⟩,⟨⟨_,ic.toInCall.ns⟩,.inr (.inl rfl),h0 _ (.inl rfl),fun x c h1 h2=>⟨.inr (.inr ⟨x,h1,h2⟩),h0 _ (.inr ⟨x,h1,h2⟩),_,ic.cell x c h2⟩⟩,fun u q=>q,Su,V.tabs,fun b t=>t.elim (fun t=>.inl (V.gS b t)) fun q=>.inr (.inl (q.trans hL.symm)),h0,fun x d wu=>?_,fun x y d d' wu=>?_⟩,x1⟩
 ·refine ax (eJ wu) ?_;rintro d (rfl) hm;refine ax (r.zip hm) fun v hv hr=>?_;have Wg:x∈xs:=(List.of_mem_zip hm).1;refine bg (hk x Wg) fun k1 k2 k3=>?_;have JY:(xs.zip vs).reverse.lookup x=some v:=vr PZ (List.mem_reverse.mpr hv);refine⟨v,⟨k2,k3,?_⟩,?_⟩
  ·refine Z4 k1 (fun k1=>?_) fun k1=>?_
   ·refine .inl ⟨(Il x).trans k1,_,ic.toInCall.ns,?_⟩;refine xR (Gl _ _ _ _ ((Il x).trans k1)) (xR JY ?_);rfl
   ·have Mg:=(Il x).trans k1;refine aJ (d8 (n:=s.heap.objs.size+1) (acc:=[]) (.inl (mem_of_lookup k1))) fun c hc=>?_;refine aJ (dB hc) fun c' n7=>?_;simp only[<-q7]at n7;refine .inr ⟨.inl Mg,c',n7,?_⟩;have:=ic.cell x c' n7;rw[Gm _ _ _ _ (by refine xR Mg ?_;decide),JY]at this;exact this
  ·exact hr.mono fun b o q nn=>⟨x1.keep b o q (fun t=>nn (V.tabs b t)) fun t=>nn (V.gS b t),fun z=>z.elim nn fun z=>by replace q:=(sJ b z).symm.trans q;exact aa q⟩
 ·refine ax (eJ wu) fun d' e u=>?_;rcases e with⟨⟩
 ·refine ax (eJ wu) fun d' e u=>?_;rcases e with⟨⟩
theorem xn (xs:List Str)(ds:List Dat):dH (bB xs ds):=fun x d h=>by refine ax (eJ h) fun d' e y=>?_;rcases e with⟨⟩
theorem Bs.I4 (hC:C.Ok)(z:Bs C s)(h:C.h₀.CodeRec cd q):s.heap.CodeRec cd q:=by refine cL h fun c o vs t e1 e2 e3 e4=>?_;refine⟨c,o,vs,t,e1,z.keep c o e2 ?_,e3,e4⟩;intro y0;refine i0 y0 fun c' p q' m=>?_;have:=(hC.qg c' c p q' m).1.2;rw[e2]at this;obtain rfl:=Z9 this;rcases e3 with⟨⟩;simp at e4
theorem Bs.noLimit (hC:C.Ok)(z:Bs C s):s.heap.NoLimit:=by refine ax hC.nolimit fun mc y1 hm=>?_;refine jJ y1 fun o es ep ho r=>?_;refine⟨mc,⟨o,es,ep,z.keep _ _ ho ?_,r⟩,hm⟩;intro y0;refine i0 y0 fun c p q m=>?_;exact(hC.qg c _ p q m).2.1 rfl
theorem cV.deeper (h:cV C (n+1) A)(hk:env.scope.kind=.function)(hf:env.frame=some L)(h0:C.h₀.get? L=none):cV (C.more L) n (A.deeper env):=by
 refine⟨h.handled,by have:=h.depth;show A.depth+1+n< _;exact aX 0x2190bb0291b0b02 rfl this,by have:=h.units;show A.units+3+10*n+1000< _;exact aX 0x2000003e88f10ad03a0bbb02000003e88f91b0ad0bb02 rfl this,?_⟩;refine ax h.frames fun fs h1 h2=>?_;refine⟨env::fs,by show A.frames.map _=_;rw[h1];rfl,fun f hm=>?_⟩;refine Z4 (Zy hm) (fun y0=>?_) fun hm=>?_
 ·obtain rfl:=y0;exact⟨hk,L,hf,.inr rfl,h0⟩
 ·obtain⟨a,b,c,d,e⟩:=h2 f hm;exact⟨a,b,c,.inl d,e⟩
structure lO (C:Cx) (cd:Value) (name:Str) (env:Env) (A:Around):Prop where
 code:env.code=cd
 qual:env.qual=name++".<locals>."
 frame:env.frame=some env.locals
 fr:C.fr env.locals
 top:∃fs,A.frames=some (env::fs)
theorem yw (hC:C.Ok)(hO:∀fr,cj (C.at fr) n)(hF:∀fr,b7 (C.at fr) Φ n)(hS:∀fr,ng (C.at fr) n)(hZ:∀{fr A},cV (C.at fr) n A->yI (C.at fr) Φ Ψ A)(hP:∀{fr A env},cV (C.at fr) n A->lO (C.at fr) cd name env A->oE (C.at fr) Ψ A env) (hT:¬C.T a) (ho:C.h₀.get? a=some o) (hd:o.data=.func (Calls.docDef name params body scope pm cd doc)) (Be:C.h₀.CodeRec cd name) (Ds:oG scope) (hx:xs.Nodup) (hk:∀x∈xs,(scope.names.lookup x=some .local\/scope.names.lookup x=some .cell)/\(x==("__debug__":Str))=false/\(x==("__classdict__":Str))=false) (hlen:xs.length=es.length) (hA:cV C (n+1) A) (bs:Bs C s) (V:aW C vol s) (q8:Wp C A.in1 (bindArgs (Calls.docDef name params body scope pm cd doc) ⟨vs,[]⟩) (fun bs aB=>bs=xs.zip us/\aH aB.heap vol us es) s) (h:bT Φ Ψ scope body (bB xs es)=some (.ret d)):dY C A vol (PySem.call (.ref a) vs) d s:=by
 intro E Q q
 refine gC (oy (fd:=Calls.docDef name params body scope pm cd doc) (body:=body) (binds:=xs.zip us) (B:=fun aB=>Ex C s aB/\aH aB.heap vol us es) (by have:=hA.depth;exact aX 0x200291b0b02 rfl this) (bs.keep a o ho hT) hd (bs.noLimit hC) (bs.I4 hC Be) rfl (q8 _ _ fun b aB x p=>⟨p.1,x,p.2⟩) (fun aB hb=>(hb.1.bs bs).noLimit hC) rfl (fun aB hb p hp=>?_) (fun s0 s1 hb ic=>?_) Ds.co Ds.gen Ds.kind)
 ·obtain⟨x,v⟩:=p;refine Z4 ((hk x (List.of_mem_zip hp).1).1) (fun k1=>?_) fun k1=>?_
  ·exact .inl k1
  ·refine .inr ⟨k1,?_⟩;refine aJ (d8 (n:=aB.heap.objs.size+1) (acc:=[]) (.inl (mem_of_lookup k1))) fun c hc=>?_;refine aJ (dB hc) fun c' n7=>?_;show(List.lookup x (cellsFrom (aB.heap.objs.size+1) scope.names [])).isSome=true;refine xR n7 ?_;rfl
 ·have Vt:=hb.1.bs bs;refine aL (D1 (C:=C) (vol:=vol) Ds Vt (V.ex hb.1 Vt) hb.2 hx hlen hk ic) fun S x1=>?_;have e:aN (callEnvC (Calls.docDef name params body scope pm cd doc) s0.heap.objs.size a) scope:=CT (fd:=Calls.docDef name params body scope pm cd doc) Ds rfl rfl;have z0:cV (C.more s0.heap.objs.size) n (A.deeper (callEnvC (Calls.docDef name params body scope pm cd doc) s0.heap.objs.size a)):=hA.deeper Ds.kind rfl (S.ki.fl);refine ax hA.frames fun fs Tj y=>?_;refine CP (hC.at _) (hO _) (hF _) (hS _) z0 (hP z0 ⟨rfl,rfl,rfl,.inr rfl,fs,by show A.frames.map _=_;refine xR Tj ?_;rfl⟩) (hZ z0) e body S (xn xs es) h _ _ fun f s2 hf=>?_;refine ZU fun hG=>?_;obtain⟨v,rfl,hr,Ms,W2,m⟩:=hf;refine hG ?_;have sJ:∀b,FW (callEnvC (Calls.docDef name params body scope pm cd doc) s0.heap.objs.size a) scope b->s0.heap.get? b=none:=fun b z=>by
   cases e':s0.heap.get? b with
   |none=>rfl
   |some o'=>
    refine Z4 z (fun z=>?_) fun y0=>?_
    ·have:b=s0.heap.objs.size:=z;rw[this,aE]at e';exact aa e'
    ·refine ax y0 fun x y z=>?_;have:=ic.above x b (mem_of_lookup z);have h2:s0.heap.objs.size<b:=this;rw[uK (Nat.le_of_lt h2)]at e';exact aa e'
  refine q v s2 (hb.1.trans ⟨fun b o' e' t f=>m.keep b o' (x1.keep b o' e' t f) t (fun z=>z.elim f fun z=>by rw[z,aE]at e';exact aa e') fun z=>(by rw[sJ b z]at e';exact aa e'),fun b o' f e'=>?_,fun y=>Ms.less⟩) hr;refine ax (x1.nj b o' f e') fun o1 e1 d1=>?_;refine ax (m.nj b o1 (.inl f) (fun z=>by rw[sJ b z]at e';exact aa e') e1) fun o2 e2 d2=>?_;exact⟨o2,e2,d2.trans d1⟩
theorem Jb (hC:C.Ok)(hO:∀fr,cj (C.at fr) n)(hF:∀fr,b7 (C.at fr) Φ n)(hS:∀fr,ng (C.at fr) n)(hZ:∀{fr A},cV (C.at fr) n A->yI (C.at fr) Φ Ψ A)(hP:∀{fr A env},cV (C.at fr) n A->lO (C.at fr) cd name env A->oE (C.at fr) Ψ A env) (hT:¬C.T a) (ho:C.h₀.get? a=some o) (hd:o.data=.func (Calls.docDef name params body scope pm cd doc)) (Be:C.h₀.CodeRec cd name) (Ds:oG scope) (hx:xs.Nodup) (hk:∀x∈xs,(scope.names.lookup x=some .local\/scope.names.lookup x=some .cell)/\(x==("__debug__":Str))=false/\(x==("__classdict__":Str))=false) (hlen:xs.length=ds.length) (q8:bindArgs (Calls.docDef name params body scope pm cd doc) ⟨vs,[]⟩=pure (xs.zip vs)) (hA:cV C (n+1) A) (bs:Bs C s) (V:aW C vol s) (r:aH s.heap vol vs ds) (h:bT Φ Ψ scope body (bB xs ds)=some (.ret d)):dY C A vol (PySem.call (.ref a) vs) d s:=yw hC hO hF hS hZ hP hT ho hd Be Ds hx hk hlen hA bs V (by refine xR q8 ?_;exact Wp.pure ⟨rfl,r⟩) h
end
theorem w8 {i:Int}(h:aG i=true):Builtin.Int.intBits i<=64:=by refine aL (cS.mp h) fun a b=>?_;exact intBits_le (by lia)
theorem tQ {n:Int}(h1:aG n=true)(h2:x.length*n.toNat<=aM):MulOk x n:=by
 refine aL (cS.mp h1) fun a b=>?_;refine⟨?_,fun h3 h4=>?_,fun h3 h4=>?_⟩
 ·rw[decide_eq_false (by lia),decide_eq_false (by lia)];rfl
 ·intro hc;have hn:(n.toNat:Int)=n:=Int.toNat_of_nonneg (ni 0xf8890f732 rfl h3);have h5:((x.length*n.toNat:Nat):Int)<=1000000:=Int.ofNat_le.mpr h2;rw[Int.natCast_mul,hn]at h5;have Ih:0<n:=ni 0xf8790f732 rfl h3;have h6:(2^63-1)/n<(x.length:Int):=hc;have h7:=Int.lt_mul_of_ediv_lt Ih h6;lia
 ·exact decide_eq_false (Nat.not_lt.mpr (bx h2))
theorem bI (r:aT h vol v (.list ds)):∃a o vs k,v=.ref a/\h.get? a=some o/\o.cls=.type "list"/\o.dict=none/\o.data=.seq vs.toArray k/\aH h vol vs ds:=r.oX
theorem aH.push (r:aH h vol vs ds):aH (h.push o) vol vs ds:=r.mono fun b o' e nn=>⟨Z3 o e,nn⟩
theorem Rep.new (V:aW C vol s)(r:aH s.heap vol vs ds):Rep (s.heap.push {cls:=.type "list",data:=.seq vs.toArray k,slots:=sl}) vol (.ref s.heap.objs.size) (.list ds):=.list (V.new (aE _)) (ZO _ rfl) rfl rfl rfl r.push
theorem xB {i:Int}{t u:Tok}(eN:MulOk x i)(h:∀t' k,Q (.str (Txt.mul x i) t') {s with toks:=k}):wpAny (model prog w) A (binaryOp .Mult (.int i u) (.str x t)) Q E s:=by
 refine lm_binaryOp_repeat_right (T:="str") (U:="int") (by decide) (fun s'=>typeIs_int s' i u) (typeIs_str s x t) PySem.F.fills_int_mul noFill_str_mul PySem.F.slot_int_mul lm_noRepeat_int repeat_str PySem.F.slot_int_index.lookup (call_gives PySem.F.slot_int_mul (typeIs_int s i u) PySem.F.entry_int_mul (PySem.F.args_int_mul_2 _ _) (AutoIntG3.int___mul___int_str_0 i u x t) ⟨rfl,typeIs_str s x t,call_gives PySem.F.slot_str_mul (typeIs_str s x t) PySem.F.entry_str_mul (PySem.F.args_str_mul_2 _ _) (gives_str_mul x i t u eN.1 eN.2.1 eN.2.2) ?_⟩);unfold Txt.mul at h;by_cases h1:i<1
 ·rw[Z1 h1];have h':=h s.toks (s.toks+1);rw[Z1 h1]at h';exact⟨by decide,h'⟩
 ·rw[ZX h1];refine post_val_or_made (fun hc=>fits_reps (eN.2.2 h1 (by simpa using hc))) fun t' k=>?_;have h':=h t' k;rw[ZX h1]at h';exact h'
theorem Cf {i:Int}(ra:Rep s.heap vol v (.int i))(rb:Rep s.heap vol u (.str x))(hs:aG i=true/\x.length*i.toNat<=aM)(h:some (Dat.str (Txt.mul x i))=some d):dY C A vol (binaryOp .Mult v u) d s:=by refine aJ ra.eS ?_;rintro t (rfl);refine aJ rb.jS ?_;rintro t' (rfl);obtain rfl:=Z9 h;exact fun E Q q=>ai (xB (tQ hs.1 hs.2) fun t' k=>q _ _ .toks (.str _ _))
theorem Ce {i:Int}(ra:Rep s.heap vol v (.str x))(rb:Rep s.heap vol u (.int i))(hs:aG i=true/\x.length*i.toNat<=aM)(h:some (Dat.str (Txt.mul x i))=some d):dY C A vol (binaryOp .Mult v u) d s:=by refine aJ ra.jS ?_;rintro t (rfl);refine aJ rb.eS ?_;rintro t' (rfl);obtain rfl:=Z9 h;exact fun E Q q=>ai (SB.mul (tQ hs.1 hs.2) fun t' k=>q _ _ .toks (.str _ _))
theorem wj {x y:List Dat}(V:aW C vol s)(ra:Rep s.heap vol v (.list x))(rb:Rep s.heap vol u (.list y))(hs:x.length+y.length<=aM)(h:some (Dat.list (x++y))=some d):dY C A vol (binaryOp .Add v u) d s:=by obtain rfl:=Z9 h;intro E Q q;refine ai ?_;refine cL (bI (.rep ra)) ?_;rintro l y0 vs k1 (rfl) ho hc y1;refine bg y1 fun hn hd hr=>?_;obtain⟨c1,d1,FX,rY⟩:=y0;refine cL (bI (.rep rb)) ?_;rintro l2 y0 ws k2 (rfl) lV yP y1;refine bg y1 fun UY hd2 qY=>?_;obtain⟨c2,d2,QE,rX⟩:=y0;obtain rfl:c1=_:=hc;obtain rfl:FX=_:=hd;obtain rfl:c2=_:=yP;obtain rfl:QE=_:=hd2;refine concat_meets ⟨_,ho,rfl⟩ ⟨_,lV,rfl⟩ noFill_list_add seq_list_add PySem.F.slot_list_add PySem.F.entry_list_add (PySem.F.args_list_add_2 _ _) (list_addW l l2 vs.toArray ws.toArray k1 k2 d1 d2 rY rX (by simp only[ZT,hr.length,qY.length];exact bx hs)) ⟨ho,lV,?_⟩;rw[List.append_toArray];exact q _ _ .push (Rep.new V (hr.append qY))
theorem Cu {x y:Int}(ra:Rep s.heap vol v (.int x))(rb:Rep s.heap vol u (.int y))(h:js op (.int x) (.int y)=some d):dY C A vol (binaryOp op v u) d s:=by
 refine aJ ra.eS ?_;rintro t (rfl);refine aJ rb.eS ?_;rintro t' (rfl);intro E Q q;refine ai ?_;have q':∀(i:Int)(t:Tok)(k:Nat),some (Dat.int i)=some d->Q (.int i t) {s with toks:=k}:=fun i t k e=>q _ _ .toks (Z9 e▸.int i t);clear q;rcases op with⟨⟩;case Add=>exact add_int (q' _ _ _ h)
 case Sub=>exact PyProof.Rows.sub_int (q' _ _ _ h)
 case Mult=>exact aI (c:=(aG x&&aG y)=true) h fun hs h=>PyProof.Rows.mul_int (q' _ _ _ h) (.of_left (w8 (Bool.and_eq_true_iff.mp hs).1))
 case FloorDiv=>exact vA (c:=y=0\/¬y.natAbs<1073741824) h fun hs h=>floordiv_int (not_or.mp hs).1 (q' _ _ _ h) (.inl (PyProof.noPylong_small (Decidable.not_not.mp (not_or.mp hs).2)))
 case Mod=>exact vA (c:=y=0) h fun hs h=>mod_int' hs (q' _ _ _ h)
 case Pow=>exact aI (c:=0<=y/\y<=64/\aG x=true) h fun hs h=>by refine aL (cS.mp hs.2.2) fun h4 h5=>?_;exact pow_int_small hs.1 (by lia) (by lia) (q' _ _ _ h)
 all_goals (exact aa h)
theorem Gp {a b:Dat}(bs:Bs C s)(V:aW C vol s)(ra:Rep s.heap vol v a)(rb:Rep s.heap vol u b)(h:js op a b=some d):dY C A vol (binaryOp op v u) d s:=by
 rcases M3 h with⟨x,y,rfl,rfl⟩|⟨x,y,rfl,rfl⟩|⟨x,y,rfl,rfl⟩|⟨x,y,rfl,rfl⟩|⟨x,y,rfl,rfl⟩|⟨x,y,rfl,rfl⟩
 ·exact Cu ra rb h
 ·refine bg (xC h) ?_;rintro(rfl) hs h;exact Cf ra rb hs h
 ·refine bg (xC h) ?_;rintro(rfl) hs h;exact Ce ra rb hs h
 ·refine bg (rU h) ?_;rintro(rfl) hs h;refine aJ ra.jS ?_;rintro t (rfl);refine aJ rb.jS ?_;rintro t' (rfl);obtain rfl:=Z9 h;exact fun E Q q=>ai (PyProof.Rows.add_str (fun t' tk=>q _ _ .toks (.str _ _)) (bx hs))
 ·refine bg (rU h) ?_;rintro(rfl) hs h;refine aJ ra.f7 ?_;rintro t (rfl);refine aJ rb.f7 ?_;rintro t' (rfl);obtain rfl:=Z9 h;refine fun E Q q=>ai (KBy.add_bytes (by simp only[ZT];exact ZK hs (by decide)) fun t' k=>q _ _ .toks ?_);rw[List.append_toArray];exact .bytes _ _
 ·refine bg (rU h) ?_;rintro(rfl) hs h;exact wj V ra rb hs h
theorem G8 {a:Dat}(ra:Rep s.heap vol v a)(h:Q4 op a=some d):dY C A vol (unaryOp op v) d s:=by
 rcases op with⟨⟩;case USub=>cases a with
  |int x=>refine aJ ra.eS ?_;rintro t (rfl);obtain rfl:=Z9 h;exact fun E Q q=>ai (PyProof.Rows.neg_int (q _ _ .toks (.int _ _)))
  |_=>exact aa h
 all_goals (exact aa h)
set_option tactic.hygienic true in
theorem aT.flat (r:aT h vol v d)(hl:∀ds,d≠.list ds)(hb:∀b,d≠.ba b):Rep h vol v d:=by
 rcases r with⟨⟩;case rep r=>exact r
 case list=>exact absurd rfl (hl _)
 case ba=>exact absurd rfl (hb _)
set_option tactic.hygienic true in
theorem KQ {a:Dat}(r:aT s.heap vol v a)(h:nE a=some b):Wp C A (truthy v) (fun t y=>t=b) s:=by
 rcases a with⟨⟩;case bool c=>obtain rfl:=(r.flat nofun nofun).Bn;exact fun E Q q=>ai (wpAny_truthy_bool (q _ _ (.refl s) (Z9 h)))
 case int i=>refine aJ ((r.flat nofun nofun).eS) ?_;rintro t (rfl);exact fun E Q q=>ai (PyProof.Rows.truthy_int (q _ _ (.refl s) (Z9 h)))
 case str x=>refine aJ ((r.flat nofun nofun).jS) ?_;rintro t (rfl);exact aI h fun hs h E Q q=>ai (PySem.P.truthy_str (by unfold aM at hs;lia) (q _ _ .toks (by show((x.length:Int) !=0)=b;rw[<-Z9 h,Bool.eq_iff_iff];simp[bne_iff_ne])))
 all_goals (exact aa h)
theorem cN (hs:∀p q r t,slice≠.Slice p q r t)(o i:Value):subscripted slice false o i=operate [o,i] (getItem o i):=by rcases slice with⟨⟩<;>first|rfl|exact absurd rfl (hs _ _ _ _)
set_option tactic.hygienic true in
theorem eF (lo hi st:Option Expr)(p:Pos)(o i:Value):∃ops,subscripted (.Slice lo hi st p) false o i=operate ops (getItem o i):=by
 rcases st with⟨⟩;case none=>exact⟨_,rfl⟩
 case some x=>exact⟨_,rfl⟩
theorem kN {i:Int}(h:dN i n=some k):seqIndex? i n=some k:=by
 unfold dN at h;split at h
 ·rename_i h0;split at h
  ·rename_i h1;obtain rfl:=Z9 h;have h2:¬i<0:=ni 0x80f730f882 rfl h0;simp[seqIndex?,h2,h0,h1]
  ·exact aa h
 ·rename_i h0;split at h
  ·rename_i h1;obtain rfl:=Z9 h;have h2:i<0:=ni 0x80f70f8832 rfl h0;have h3:i+(n:Int)<n:=Jt 0xaf0af0fb780f72 rfl h2;simp[seqIndex?,h2,h1,h3]
  ·exact aa h
theorem pF {i:Int}{t:Tok}{x:Value}(hl:s.heap.IsList l items)(hi:aG i=true)(hk:dN i items.size=some k)(hx:items[k]?=some x)(hQ:Q x s):wpAny (model C.prog C.w) A (getItem (.ref l) (.int i t)) Q E s:=by
 refine aL (cS.mp hi) fun h1 h2=>?_;unfold dN at hk;split at hk
 ·split at hk
  ·obtain rfl:=Z9 hk;exact wpAny_getItem_list hl (by assumption) (by lia) hx hQ
  ·exact aa hk
 ·split at hk
  ·obtain rfl:=Z9 hk;exact wpAny_getItem_list_neg hl (ni 0x80f70f8832 rfl (by assumption)) (Jt 0xf0af9f80af0fb882 rfl (by assumption)) (by lia) hx hQ
  ·exact aa hk
theorem vx {i:Int}(r:aT s.heap vol v (.list ds))(ri:Rep s.heap vol u (.int i))(hs:∀p q r t,slice≠.Slice p q r t)(hi:aG i=true)(hk:dN i ds.length=some j)(h:ds[j]?=some d):dY C A vol (subscriptTail value slice v u) d s:=by refine cL (bI r) ?_;rintro l o vs k (rfl) ho hc y0;refine bg y0 fun hn hd hr=>?_;refine aJ ri.eS ?_;rintro t (rfl);refine ax (hr.get h) fun x hx rx=>?_;have hl:s.heap.IsList l vs.toArray:=⟨o,ho,hc,_,hd⟩;exact fun E Q q=>ai (tail_any hl.typeIs slot_list_getitem.lookup (pF hl hi (by rw[ZT,hr.length];exact hk) (by rw[List.getElem?_toArray];exact hx) (q _ _ (.refl s) rx)) (cN hs _ _))
theorem sF {i:Int}(r:Rep s.heap vol v (.tuple ds))(ri:Rep s.heap vol u (.int i))(hs:∀p q r t,slice≠.Slice p q r t)(hi:aG i=true)(hk:dN i ds.length=some j)(h:ds[j]?=some d):dY C A vol (subscriptTail value slice v u) d s:=by refine cL r.tuple' ?_;rintro l o vs k (rfl) _ ho y0;refine bg y0 fun hc hd hr=>?_;refine aJ ri.eS ?_;rintro t (rfl);refine ax (hr.get h) fun x hx rx=>?_;have ht:IsTup s.heap _ _:=⟨_,ho,hc,_,hd⟩;refine aL (cS.mp hi) fun h1 h2=>?_;exact fun E Q q=>ai (tail_any ht.typeIs slot_tuple_getitem.lookup (getItem_tuple ht (by lia) (by lia) (kN (by rw[ZT,hr.length];exact hk)) (by rw[List.getElem?_toArray];exact hx) (q _ _ (.refl s) rx)) (cN hs _ _))
theorem xQ {i:Int}(r:Rep s.heap vol v (.str x))(ri:Rep s.heap vol u (.int i))(hs:∀p q r t,slice≠.Slice p q r t)(hi:aG i=true)(hk:dN i x.length=some j)(h:x.cps[j]?=some c):dY C A vol (subscriptTail value slice v u) (.str ⟨#[c]⟩) s:=by refine aJ r.jS ?_;rintro t (rfl);refine aJ ri.eS ?_;rintro t' (rfl);refine aL (cS.mp hi) fun h1 h2=>?_;exact fun E Q q=>ai (tail_any (typeIs_str _ _ _) PySem.F.slot_str_getitem.lookup (PySem.P.getItem_str (by rw[decide_eq_false (by lia),decide_eq_false (by lia)];rfl) (by rw[kN hk];exact h) (q _ _ .toks (.str _ _))) (cN hs _ _))
theorem sG {i:Int}(r:Rep s.heap vol v (.bytes b))(ri:Rep s.heap vol u (.int i))(hs:∀p q r t,slice≠.Slice p q r t)(hi:aG i=true)(hk:dN i b.length=some j)(h:b[j]?=some c):dY C A vol (subscriptTail value slice v u) (.int c.toNat) s:=by
 refine aJ r.f7 ?_;rintro t (rfl);refine aJ ri.eS ?_;rintro t' (rfl);refine aL (cS.mp hi) fun h1 h2=>?_;refine fun E Q q=>ai (tail_any (typeIs_bytes _ _ _) FB.slot_bytes_getitem.lookup (getItem_gives (typeIs_bytes s _ _) (by decide) FB.slot_bytes_getitem FB.entry_bytes_getitem (FB.args_bytes_getitem_2 _ _) (gives_bytes_getitem _ i _ _ c ?_ ?_) (q _ _ .toks (.int _ _))) (cN hs _ _))
 ·simp only[Builtin.Bytes.fitsIndex,ZR,decide_eq_true_eq];lia
 ·rw[ZT,kN hk];show b.toArray[j]?=some c;rw[List.getElem?_toArray];exact h
theorem Cs {a i:Dat}(bs:Bs C s)(V:aW C vol s)(r:aT s.heap vol v a)(ri:Rep s.heap vol u i)(h:ez a i=some d)(hs:∀p q r t,slice≠.Slice p q r t)(Qa:∀b i d,a=.ba b->u=.int i d->dY C A vol (subscriptTail value slice v u) (.int ((b[(dN i b.length).getD 0]?).getD 0).toNat) s\/aG i=false\/dN i b.length=none):dY C A vol (subscriptTail value slice v u) d s:=by
 have key:∀{i:Int}{n:Nat}{f:Nat->Option Dat},Df i n f=some d->aG i=true/\∃j,dN i n=some j/\f j=some d:=fun h=>aI h fun hi h=>ao h fun j hk h=>⟨hi,j,hk,h⟩;refine Z4 (Ia h) (fun y0=>?_) fun y1=>?_
 ·refine ax y0 ?_;clear y0;rintro i (rfl) hv;rcases hv with⟨ds,rfl⟩|⟨ds,rfl⟩|⟨x,rfl⟩|⟨b,rfl⟩|⟨b,rfl⟩
  ·obtain⟨hi,j,hk,h⟩:=key h;exact vx r ri hs hi hk h
  ·obtain⟨hi,j,hk,h⟩:=key h;exact sF (r.flat nofun nofun) ri hs hi hk h
  ·obtain⟨hi,j,hk,h⟩:=key h;refine aZ h fun c hc h=>?_;subst h;exact xQ (r.flat nofun nofun) ri hs hi hk hc
  ·obtain⟨hi,j,hk,h⟩:=key h;refine aZ h fun c hc h=>?_;subst h;exact sG (r.flat nofun nofun) ri hs hi hk hc
  ·obtain⟨hi,j,hk,h⟩:=key h;refine aJ ri.eS ?_;rintro t (rfl);refine aZ h fun c hc h=>?_;subst h;obtain z|z|z:=Qa b i _ rfl rfl
   ·rw[hk]at z;have hg:((b[(some j:Option Nat).getD 0]?).getD 0).toNat=c.toNat:=congrArg (fun o:Option UInt8=>(o.getD 0).toNat) hc;exact hg▸z
   ·exact absurd (hi.symm.trans z) Bool.noConfusion
   ·exact aa (z.symm.trans hk)
 ·refine jJ y1 ?_;clear y1;rintro x ks vs (rfl) (rfl);exact(r.flat nofun nofun).inv.elim
theorem Hf {p:PyData}(h:oP (.str x)=some p):PyData.strOk x=true/\p=.str x:=aI (c:=PyData.strOk x=true) h fun hc h=>⟨hc,(Z9 h).symm⟩
theorem wK {p:PyData}(h:oP (.list ds)=some p):∃ps,dI ds=some ps/\p=.list ps:=by have h':(match dI ds with|some ps=>some (PyData.list ps)|none=>none)=some p:=h;cases e:dI ds with|none=>replace h':=e▸h';exact aa h'|some ps=>replace h':=e▸h';exact⟨ps,rfl,(Z9 h').symm⟩
theorem wL (h:dI ds=some ps):oP (.list ds)=some (.list ps):=by show(match dI ds with|some ps=>some (PyData.list ps)|none=>none)=_;rw[h]
theorem uI {p:PyData}(h:oP d=some p)(h2:dI ds=some ps):dI (d::ds)=some (p::ps):=by show(match oP d with|none=>none|some p=>match dI ds with|none=>none|some ps=>some (p::ps))=_;rw[h,h2]
theorem BI {p:PyData}(h:oP (.tuple ds)=some p):∃ps,dI ds=some ps/\p=.tuple ps:=by have h':(match dI ds with|some ps=>some (PyData.tuple ps)|none=>none)=some p:=h;cases e:dI ds with|none=>replace h':=e▸h';exact aa h'|some ps=>replace h':=e▸h';exact⟨ps,rfl,(Z9 h').symm⟩
theorem tv (h:dI (d::ds)=some ps):∃p qs,oP d=some p/\dI ds=some qs/\ps=p::qs:=by
 have h':(match oP d with|none=>none|some p=>match dI ds with|none=>none|some ps=>some (p::ps))=some ps:=h;cases e:oP d with
 |none=>replace h':=e▸h';exact aa h'
 |some p=>replace h':=e▸h';cases e2:dI ds with|none=>replace h':=e2▸h';exact aa h'|some qs=>replace h':=e2▸h';exact⟨p,qs,rfl,rfl,(Z9 h').symm⟩
def AF (h:Heap)(vol:Addr->Prop)(d:Dat):Prop:=∀{v:Value}{p:PyData},Rep h vol v d->oP d=some p->p.canLay0=true/\∃as,Reads h v p as
theorem zj (ih:∀{vs:List Value}{ps:List PyData},aH h vol vs ds->dI ds=some ps->PyData.canLayAll0 ps=true/\∃as,ReadsAll h vs ps as):AF h vol (.list ds):=fun r e=>by refine ax (wK e) ?_;rintro ps hp (rfl);refine cL r.oX ?_;rintro a o vs n (rfl) _ ho y0;refine mu y0 fun hc x hd hr=>?_;refine ZU fun hG=>?_;obtain⟨h1,as,h2⟩:=ih hr hp;refine hG ?_;exact⟨h1,_,reads_list_at ho hc hd h2⟩
theorem xe (ih:∀{vs:List Value}{ps:List PyData},aH h vol vs ds->dI ds=some ps->PyData.canLayAll0 ps=true/\∃as,ReadsAll h vs ps as):AF h vol (.tuple ds):=fun r e=>by refine ax (BI e) ?_;rintro ps hp (rfl);refine cL r.tuple' ?_;rintro a o vs n (rfl) _ ho y0;refine bg y0 fun hc hd hr=>?_;refine ZU fun hG=>?_;obtain⟨h1,as,h2⟩:=ih hr hp;refine hG ?_;exact⟨h1,_,reads_tuple_at ho hc hd h2⟩
mutual
theorem tG:∀(d:Dat),AF h vol d
 | .none=>fun r e=>by obtain rfl:=r.OH;obtain rfl:=Z9 e;exact⟨rfl,_,.none⟩
 | .bool b=>fun r e=>by obtain rfl:=r.Bn;obtain rfl:=Z9 e;exact⟨rfl,_,.bool b⟩
 | .int i=>fun r e=>by(refine aJ r.eS ?_;rintro t (rfl));obtain rfl:=Z9 e;exact⟨rfl,_,.int i t⟩
 | .str x=>fun r e=>by(refine aJ r.jS ?_;rintro t (rfl));(refine aL (Hf e) ?_;rintro hx (rfl));exact⟨hx,_,.str x t⟩
 | .list ds=>zj (ji ds)
 | .tuple ds=>xe (ji ds)
 | .bytes _=>fun y e=>aa e
 | .range _ _ _=>fun y e=>aa e
 | .ba _=>fun y e=>aa e
 | .dict _ _=>fun y e=>aa e
 | .top _=>fun y e=>aa e
 | .typ _=>fun y e=>aa e
theorem ji:∀(ds:List Dat){vs:List Value}{ps:List PyData},aH h vol vs ds->dI ds=some ps->PyData.canLayAll0 ps=true/\∃as,ReadsAll h vs ps as
 |[],_,_,.nil,e=>by obtain rfl:=Z9 e;exact⟨rfl,_,.nil⟩
 |d::ds,_,_,.cons r rs,e=>by
  refine eB (tv e) ?_;rintro p qs h1 h2 (rfl)
  obtain⟨h3,as,h4⟩:=tG d r h1
  obtain⟨h5,bs,h6⟩:=ji ds rs h2
  exact⟨by show(p.canLay0&&PyData.canLayAll0 qs)=true;rw[h3,h5];rfl,_,.cons h4 h6⟩
end
theorem Rep.reads {p:PyData}(r:Rep h vol v d)(e:oP d=some p):p.canLay0=true/\∃as,Reads h v p as:=tG d r e
theorem aH.reads (r:aH h vol vs ds)(e:dI ds=some ps):PyData.canLayAll0 ps=true/\∃as,ReadsAll h vs ps as:=ji ds r e
set_option tactic.hygienic true in
theorem aT.reads {p:PyData}(r:aT h vol v d)(e:oP d=some p):p.canLay0=true/\∃as,Reads h v p as:=by
 rcases r with⟨⟩;case rep r=>exact r.reads e
 case list ho hc hn hd hr=>refine ax (wK e) ?_;rintro ps hp (rfl);obtain⟨h1,as,h2⟩:=hr.reads hp;exact⟨h1,_,reads_list_at ho hc hd h2⟩
 case ba=>exact aa e
theorem kK {p:PyData}(h1:p.canLay0=true)(h2:p.depth<=60):SeqAt.shaped p=true:=by unfold SeqAt.shaped;rw[h1,Bool.true_and];exact decide_eq_true (ZK h2 (by decide))
set_option tactic.hygienic true in
theorem ub {a b:Dat}(h:lB a b=some r):∃p q,oP a=some p/\oP b=some q/\p.depth<=60/\q.depth<=60/\r=PyData.eqv p q:=by
 delta lB at h;cases hp:oP a with
 |none=>rw[hp]at h;exact aa h
 |some p=>cases hq:oP b with|none=>rw[hp,hq]at h;exact aa h|some q=>rw[hp,hq]at h;exact aI h fun hd h=>⟨p,q,rfl,rfl,hd.1,hd.2,(Z9 h).symm⟩
set_option tactic.hygienic true in
theorem IK {a b:Dat}(h:NC a b=some r):(∃x y,a=.bytes x/\b=.bytes y/\r=(x==y))\/lB a b=some r:=by
 rcases a with⟨⟩;case bytes x=>
  rcases b with⟨⟩;case bytes y=>exact .inl ⟨x,y,rfl,rfl,(Z9 h).symm⟩
  all_goals exact .inr h
 all_goals exact .inr h
theorem uc {a b:Dat}(h:NC a b=some r):(∃x y,a=.bytes x/\b=.bytes y/\r=(x==y))\/∃p q,oP a=some p/\oP b=some q/\p.depth<=60/\q.depth<=60/\r=PyData.eqv p q:=(IK h).imp id ub
theorem IJ {a b:Dat}(hA:cV C n A)(ra:aT s.heap vol v a)(rb:aT s.heap vol u b)(h:NC a b=some r):dY C A vol (compareOp .Eq v u) (.bool r) s:=by
 intro E Q q;refine ai ?_;refine Z4 (uc h) (fun y0=>?_) fun y1=>?_
 ·refine eB y0 ?_;clear y0;rintro x y (rfl) (rfl) (rfl);(refine aJ ((ra.flat nofun nofun).f7) ?_;rintro t (rfl));refine aJ ((rb.flat nofun nofun).f7) ?_;rintro t' (rfl);refine compareOp_gives (op:=.Eq) (typeIs_bytes s _ _) (typeIs_bytes s _ _) FB.slot_bytes_eq FB.entry_bytes_eq (FB.args_bytes_eq_2 _ _) (gives_bytes_eq _ _ _ _) (fun e=>nomatch e) (q _ _ (.refl s) (.bool _))
 ·refine Bw y1 ?_;clear y1;rintro p p' hp JV d1 d2 (rfl);obtain⟨c1,as,r1⟩:=ra.reads hp;obtain⟨c2,bs,r2⟩:=rb.reads JV;exact eq_dataH r1 r2 (kK c1 d1) (kK c2 d2) (by have:=hA.units;exact aX 0x240a0b02000003e88f10ad0bb02 rfl this) (q _ _ (.refl s) (.bool _))
theorem HM {a b:Dat}(hA:cV C n A)(ra:aT s.heap vol v a)(rb:aT s.heap vol u b)(h:NC a b=some r):dY C A vol (compareOp .NotEq v u) (.bool !r) s:=by
 intro E Q q;refine ai ?_;refine Z4 (uc h) (fun y0=>?_) fun y1=>?_
 ·refine eB y0 ?_;clear y0;rintro x y (rfl) (rfl) (rfl);(refine aJ ((ra.flat nofun nofun).f7) ?_;rintro t (rfl));refine aJ ((rb.flat nofun nofun).f7) ?_;rintro t' (rfl);refine compareOp_gives (op:=.NotEq) (typeIs_bytes s _ _) (typeIs_bytes s _ _) FB.slot_bytes_ne FB.entry_bytes_ne (FB.args_bytes_ne_2 _ _) (gives_bytes_ne _ _ _ _) (fun e=>nomatch e) (q _ _ (.refl s) (.bool _))
 ·refine Bw y1 ?_;clear y1;rintro p p' hp JV d1 d2 (rfl);obtain⟨c1,as,r1⟩:=ra.reads hp;obtain⟨c2,bs,r2⟩:=rb.reads JV;exact ne_dataH r1 r2 (kK c1 d1) (kK c2 d2) (by have:=hA.units;exact aX 0x240a0b02000003e88f10ad0bb02 rfl this) (q _ _ (.refl s) (.bool _))
set_option tactic.hygienic true in
theorem A7 {a:Dat}(hA:cV C n A)(ra:aT s.heap vol v a)(rb:aT s.heap vol u (.list ds))(h:memD a ds=some r):dY C A vol (compareOp .In v u) (.bool r) s/\dY C A vol (compareOp .NotIn v u) (.bool !r) s:=by
 delta memD at h;cases hp:oP a with
 |none=>rw[hp]at h;exact aa h
 |some p=>
  cases PI:dI ds with
  |none=>rw[hp,PI]at h;exact aa h
  |some ps=>
   rw[hp,PI]at h;refine aI h fun hd h=>?_;obtain rfl:=Z9 h;obtain⟨c1,as,r1⟩:=ra.reads hp;have e:=wL PI;obtain⟨c2,bs,r2⟩:=rb.reads e;have hu:A.units+1+min (PyData.depthAll ps) p.depth<cLine:=by have:=hA.units;have:=Nat.min_le_right (PyData.depthAll ps) p.depth;exact r8 0x3491bb00413000003e88f20ad1bb03ca014 rfl hd (by assumption) this
   exact⟨fun E Q q=>ai (SeqAt.in_list_reads r2 r1 c2 c1 hu (q _ _ (.refl s) (.bool _))),fun E Q q=>ai (SeqAt.notIn_list_reads r2 r1 c2 c1 hu (q _ _ (.refl s) (.bool _)))⟩
set_option tactic.hygienic true in
theorem vh {a b:Dat}(ra:Rep s.heap vol v a)(rb:Rep s.heap vol u b)(h:sv op a b=some r)(hQ:Q (.bool r) s):wpAny (model prog w) A (compareOp op v u) Q E s:=by
 rcases a with⟨⟩;case int x=>cases b with
  |int y=>
   refine aJ ra.eS ?_;rintro t (rfl);refine aJ rb.eS ?_;rintro t' (rfl);rcases op with⟨⟩;case Lt=>obtain rfl:=Z9 h;exact PyProof.Rows.lt_int hQ
   case LtE=>obtain rfl:=Z9 h;exact PyProof.Rows.le_int hQ
   case Gt=>obtain rfl:=Z9 h;exact PyProof.Rows.gt_int hQ
   case GtE=>obtain rfl:=Z9 h;exact PyProof.Rows.ge_int hQ
   all_goals (exact aa h)
  |_=>exact aa h
 case str x=>cases b with
  |str y=>
   refine aJ ra.jS ?_;rintro t (rfl);refine aJ rb.jS ?_;rintro t' (rfl);rcases op with⟨⟩;case Lt=>obtain rfl:=Z9 h;exact PySem.P.lt_str hQ
   case LtE=>obtain rfl:=Z9 h;exact PySem.P.le_str hQ
   case Gt=>obtain rfl:=Z9 h;exact PySem.P.gt_str hQ
   case GtE=>obtain rfl:=Z9 h;exact PySem.P.ge_str hQ
   all_goals (exact aa h)
  |_=>exact aa h
 all_goals (exact aa h)
theorem ou {a b:Dat}(hA:A.units+70<cLine)(ra:Rep s.heap vol v a)(rb:Rep s.heap vol u b)(h:lB a b=some r){Q:Bool->Shared->Prop}(hQ:Q r s):wpAny (model prog w) A (eqBool v u) Q E s:=by refine Bw (ub h) ?_;rintro p p' hp JV d1 d2 (rfl);obtain⟨c1,as,r1⟩:=ra.reads hp;obtain⟨c2,bs,r2⟩:=rb.reads JV;refine SeqAt.eqBoolOverData prog w A E s v u p p' as bs Q r1 r2 c1 c2 ?_ hQ;have:=Nat.min_le_left p.depth p'.depth;exact cZ 0x130b02313ca21146a0b04 rfl hA d1 this
theorem head_drop {items:Array Value}{i:Nat}{v:Value}{vs:List Value}(h:items.toList.drop i=v::vs):items[((i:Nat):Int).toNat]?=some v:=by rw[ZE,<-Array.getElem?_toList];have:=congrArg (fun l:List Value=>l[0]?) h;simp only[List.getElem?_drop,Nat.add_zero,List.getElem?_cons_zero]at this;exact this
theorem qG {op:CmpOp}{z:Int}(hz:[CmpOp.Lt,.LtE,.Eq,.NotEq,.Gt,.GtE][z.toNat]?=some op)(Rg:op=.Lt\/op=.LtE\/op=.Gt)(l b:Addr)(items bN:Array Value)(n n2:Nat)(dd Dz:Option Addr)(sl rX:Array (Option Value)):∀(ds es:List Dat)(xs ys:List Value)(i:Nat)(r:Bool),items.toList.drop i=xs->bN.toList.drop i=ys->items.size=i+xs.length->bN.size=i+ys.length->gi op ds es i=some r->Meets (Builtin.«list.__eq__.loop» ⟨[.ref l,.ref b,rawInt i,rawInt z],[]⟩) (fun A R s=>s.heap.get? l=some {cls:=.type "list",dict:=dd,data:=.seq items n,slots:=sl}/\s.heap.get? b=some {cls:=.type "list",dict:=Dz,data:=.seq bN n2,slots:=rX}/\A.units+80<cLine/\aH s.heap vol xs ds/\aH s.heap vol ys es/\R (.ok (.ret (.bool r))) s):=by
 revert hz Rg
 refine pn inferInstance ?_ b op l z items bN vol n2 Dz rX n dd sl
 generalize jF _ _=tt
 dsimp only[Bu]
 generalize tt.1.1.1.1=b,tt.1.1.1.2=op,tt.1.1.2.1=l,tt.1.1.2.2=z,tt.1.2.1.1=items,tt.1.2.1.2=bN,tt.1.2.2=vol,tt.2.1.1.1=n2,tt.2.1.1.2=Dz,tt.2.1.2=rX,tt.2.2.1.1=n,tt.2.2.1.2=dd,tt.2.2.2=sl
 intro hz Rg
 intro ds
 induction ds with
 |nil=>intro es xs ys i r hx hy sx sy ho prog w A R s h;obtain⟨hp,g,d,tk,os⟩:=s;refine By h ?_;clear h;intro hl hb hu r1 r2 h;rcases r1 with⟨⟩;have Du:items[((i:Nat):Int).toNat]?=none:=(congrArg (items[·]?) (ZE i)).trans (Array.getElem?_eq_none (Nat.le_of_eq sx));have e:vg op items.size bN.size=r:=(congrArg (vg op _) (sy.trans (congrArg (i+·) r2.length))).trans ((congrArg (vg op · _) sx).trans (Z9 ho));wp_walk using wpAny_loadPart' hl,wpAny_loadPart' hb;erw [hz];wp_walk using wpAny_loadPart' hl,wpAny_loadPart' hb;rw[Du];wp_walk using wpAny_loadPart' hl,wpAny_loadPart' hb;subst e;show R (.ok (.ret _)) _;refine Eq.mp (congrArg (fun x=>R (.ok (.ret x)) {heap:=hp,gens:=g,drawn:=d,toks:=tk,os:=os}) ?_) h;rcases op with⟨⟩<;>rfl
 |cons a ds ih=>
  intro es xs ys i r hx hy sx sy ho prog w A R s h;obtain⟨hp,g,d,tk,os⟩:=s;refine By h ?_;clear h;intro hl hb hu r1 r2 h;cases r1 with| @cons v _ vs _ rv Nn=>have Du:items[((i:Nat):Int).toNat]?=some v:=head_drop hx;cases r2 with
  |nil=>have Nv:bN[((i:Nat):Int).toNat]?=none:=(congrArg (bN[·]?) (ZE i)).trans (Array.getElem?_eq_none (Nat.le_of_eq sy));have e:vg op items.size bN.size=r:=(congrArg (vg op · _) (sx.trans (congrArg (fun x=>i+(x+1)) Nn.length))).trans ((congrArg (vg op _) sy).trans (Z9 ho));wp_walk using wpAny_loadPart' hl,wpAny_loadPart' hb;erw [hz];wp_walk using wpAny_loadPart' hl,wpAny_loadPart' hb;rw[Du,Nv];wp_walk using wpAny_loadPart' hl,wpAny_loadPart' hb;subst e;show R (.ok (.ret _)) _;refine Eq.mp (congrArg (fun x=>R (.ok (.ret x)) {heap:=hp,gens:=g,drawn:=d,toks:=tk,os:=os}) ?_) h;rcases op with⟨⟩<;>rfl
  | @cons u b' us es ru VS=>
  have Nv:bN[((i:Nat):Int).toNat]?=some u:=head_drop hy;replace ho:(match lB a b' with|some true=>gi op ds es (i+1)|some false=>sv op a b'|none=>none)=some r:=ho;cases he:lB a b' with
  |none=>rw[he]at ho;exact aa ho
  |some e=>
   rw[he]at ho;wp_walk using wpAny_loadPart' hl,wpAny_loadPart' hb;erw [hz];wp_walk using wpAny_loadPart' hl,wpAny_loadPart' hb;rw[Du,Nv];refine Z8 (ou (by show A.units+1+70< _;exact aR 0x146a90bb0150a0b02 rfl hu) rv ru he ?_);rcases e with⟨⟩;case true=>have go:=ih es vs us (i+1) r (by rw[<-List.drop_drop,hx];rfl) (by rw[<-List.drop_drop,hy];rfl) (sx.trans (Nat.add_right_comm i _ 1)) (sy.trans (Nat.add_right_comm i _ 1)) ho;wp_walk;exact⟨plainId_quiet MeetsSeq3.plain_eq_loop _,codeAny_builtin MeetsSeq3.entry_eq_loop ((ZL MeetsSeq3.plain_eq_loop _)▸go prog w A R _ ⟨hl,hb,hu,Nn,VS,h⟩)⟩
   case false=>wp_walk using wpAny_loadPart' hl,wpAny_loadPart' hb;rw[Du,Nv];rcases Rg with rfl|rfl|rfl<;>exact Z8 (vh rv ru ho (Z0 h))
theorem A1 (l b:Addr)(items bN:Array Value)(n n2:Nat)(dd Dz:Option Addr)(sl rX:Array (Option Value))(ho:gi .Lt ds es 0=some r):Meets (Builtin.«list.__lt__» ⟨[.ref l,.ref b],[]⟩) (fun A R s=>s.heap.get? l=some {cls:=.type "list",dict:=dd,data:=.seq items n,slots:=sl}/\s.heap.get? b=some {cls:=.type "list",dict:=Dz,data:=.seq bN n2,slots:=rX}/\A.units+80<cLine/\aH s.heap vol items.toList ds/\aH s.heap vol bN.toList es/\R (.ok (.ret (.bool r))) s):=by
 intro prog w A R s h
 obtain⟨hp,g,d,tk,os⟩:=s;refine By h fun hl hb hu r1 r2 h=>?_
 have f3:=AutoSeq1.sub_list_list
 wp_walk using wpAny_loadPart' hl,wpAny_loadPart' hb
 exact⟨plainId_quiet MeetsSeq3.plain_eq_loop _,codeAny_builtin MeetsSeq3.entry_eq_loop (by exact(ZL MeetsSeq3.plain_eq_loop _)▸qG (op:=.Lt) (z:=0) rfl (.inl rfl) l b items bN n n2 dd Dz sl rX ds es items.toList bN.toList 0 r rfl rfl (by simp) (by simp) ho prog w A R _ ⟨hl,hb,hu,r1,r2,h⟩)⟩
theorem H0 (l b:Addr)(items bN:Array Value)(n n2:Nat)(dd Dz:Option Addr)(sl rX:Array (Option Value))(ho:gi .LtE ds es 0=some r):Meets (Builtin.«list.__le__» ⟨[.ref l,.ref b],[]⟩) (fun A R s=>s.heap.get? l=some {cls:=.type "list",dict:=dd,data:=.seq items n,slots:=sl}/\s.heap.get? b=some {cls:=.type "list",dict:=Dz,data:=.seq bN n2,slots:=rX}/\A.units+80<cLine/\aH s.heap vol items.toList ds/\aH s.heap vol bN.toList es/\R (.ok (.ret (.bool r))) s):=by
 intro prog w A R s h
 obtain⟨hp,g,d,tk,os⟩:=s;refine By h fun hl hb hu r1 r2 h=>?_
 have f3:=AutoSeq1.sub_list_list
 wp_walk using wpAny_loadPart' hl,wpAny_loadPart' hb
 exact⟨plainId_quiet MeetsSeq3.plain_eq_loop _,codeAny_builtin MeetsSeq3.entry_eq_loop (by exact(ZL MeetsSeq3.plain_eq_loop _)▸qG (op:=.LtE) (z:=1) rfl (.inr (.inl rfl)) l b items bN n n2 dd Dz sl rX ds es items.toList bN.toList 0 r rfl rfl (by simp) (by simp) ho prog w A R _ ⟨hl,hb,hu,r1,r2,h⟩)⟩
theorem H2 (l b:Addr)(items bN:Array Value)(n n2:Nat)(dd Dz:Option Addr)(sl rX:Array (Option Value))(ho:gi .Gt ds es 0=some r):Meets (Builtin.«list.__gt__» ⟨[.ref l,.ref b],[]⟩) (fun A R s=>s.heap.get? l=some {cls:=.type "list",dict:=dd,data:=.seq items n,slots:=sl}/\s.heap.get? b=some {cls:=.type "list",dict:=Dz,data:=.seq bN n2,slots:=rX}/\A.units+80<cLine/\aH s.heap vol items.toList ds/\aH s.heap vol bN.toList es/\R (.ok (.ret (.bool r))) s):=by
 intro prog w A R s h
 obtain⟨hp,g,d,tk,os⟩:=s;refine By h fun hl hb hu r1 r2 h=>?_
 have f3:=AutoSeq1.sub_list_list
 wp_walk using wpAny_loadPart' hl,wpAny_loadPart' hb
 exact⟨plainId_quiet MeetsSeq3.plain_eq_loop _,codeAny_builtin MeetsSeq3.entry_eq_loop (by exact(ZL MeetsSeq3.plain_eq_loop _)▸qG (op:=.Gt) (z:=4) rfl (.inr (.inr rfl)) l b items bN n n2 dd Dz sl rX ds es items.toList bN.toList 0 r rfl rfl (by simp) (by simp) ho prog w A R _ ⟨hl,hb,hu,r1,r2,h⟩)⟩
set_option tactic.hygienic true in
theorem ED {a b:Dat}(h:sv op a b=some r):(∃x y,a=.int x/\b=.int y)\/∃x y,a=.str x/\b=.str y:=by
 rcases a with⟨⟩;case int x=>
  rcases b with⟨⟩;case int y=>exact .inl ⟨x,y,rfl,rfl⟩
  all_goals exact aa h
 case str x=>
  rcases b with⟨⟩;case str y=>exact .inr ⟨x,y,rfl,rfl⟩
  all_goals exact aa h
 all_goals exact aa h
set_option tactic.hygienic true in
theorem EC {a b:Dat}(h:Lj op a b=some r):(∃x y,a=.list x/\b=.list y)\/sv op a b=some r:=by
 rcases a with⟨⟩;case list x=>
  rcases b with⟨⟩;case list y=>exact .inl ⟨x,y,rfl,rfl⟩
  all_goals exact .inr h
 all_goals exact .inr h
theorem mH {a b:Dat}(hA:cV C n A)(ra:aT s.heap vol v a)(rb:aT s.heap vol u b)(h:Lj op a b=some r)(hQ:Q (.bool r) s):wpAny (model prog w) A (compareOp op v u) Q E s:=by
 refine Z4 (EC h) (fun y=>?_) fun h=>?_
 ·obtain⟨x,y,rfl,rfl⟩:=y;refine cL (bI ra) ?_;rintro l y0 vs k1 (rfl) ho hc y1;refine bg y1 fun hn hd hr=>?_;obtain⟨c1,d1,FX,rY⟩:=y0;refine cL (bI rb) ?_;rintro l2 y0 ws k2 (rfl) lV yP y1;refine bg y1 fun UY hd2 qY=>?_;obtain⟨c2,d2,QE,rX⟩:=y0;simp only at hc hd yP hd2;subst hc hd yP hd2;have hu:=hA.units;have fin:Value.bool r≠Value.notImplemented/\Q (.bool r) s:=⟨(fun x=>nomatch x),hQ⟩;rcases op with⟨⟩;case Lt=>exact richCompare_meets_room (op:=.Lt) ⟨_,ho,rfl⟩ ⟨_,lV,rfl⟩ PySem.F.slot_list_lt PySem.F.entry_list_lt (PySem.F.args_list_lt_2 _ _) (A1 (vol:=vol) l l2 vs.toArray ws.toArray k1 k2 d1 d2 rY rX h) ⟨ho,lV,by exact aX 0x250a0b02000003e88f10ad0bb02 rfl hu,by simpa using hr,by simpa using qY,fin⟩ (aX 0x2002000003e88f10ad0bb02 rfl hu)
  case LtE=>exact richCompare_meets_room (op:=.LtE) ⟨_,ho,rfl⟩ ⟨_,lV,rfl⟩ PySem.F.slot_list_le PySem.F.entry_list_le (PySem.F.args_list_le_2 _ _) (H0 (vol:=vol) l l2 vs.toArray ws.toArray k1 k2 d1 d2 rY rX h) ⟨ho,lV,by exact aX 0x250a0b02000003e88f10ad0bb02 rfl hu,by simpa using hr,by simpa using qY,fin⟩ (aX 0x2002000003e88f10ad0bb02 rfl hu)
  case Gt=>exact richCompare_meets_room (op:=.Gt) ⟨_,ho,rfl⟩ ⟨_,lV,rfl⟩ PySem.F.slot_list_gt PySem.F.entry_list_gt (PySem.F.args_list_gt_2 _ _) (H2 (vol:=vol) l l2 vs.toArray ws.toArray k1 k2 d1 d2 rY rX h) ⟨ho,lV,by exact aX 0x250a0b02000003e88f10ad0bb02 rfl hu,by simpa using hr,by simpa using qY,fin⟩ (aX 0x2002000003e88f10ad0bb02 rfl hu)
  all_goals exact aa h
 ·refine Z4 (ED h) (fun y=>?_) fun y=>?_
  ·obtain⟨x,y,rfl,rfl⟩:=y;exact vh (ra.flat nofun nofun) (rb.flat nofun nofun) h hQ
  ·obtain⟨x,y,rfl,rfl⟩:=y;exact vh (ra.flat nofun nofun) (rb.flat nofun nofun) h hQ
set_option tactic.hygienic true in
theorem B9 {a b:Dat}(h:pJ .NotIn a b=some r):(∃ds,b=.list ds/\(memD a ds).map (!·)=some r)\/∃x y,a=.str x/\b=.str y/\(!Txt.contains y x)=r:=by
 rcases b with⟨⟩;case list ds=>exact .inl ⟨ds,rfl,by rcases a with⟨⟩<;>exact h⟩
 case str y=>
  rcases a with⟨⟩;case str x=>exact .inr ⟨x,y,rfl,rfl,Z9 h⟩
  all_goals exact aa h
 all_goals (rcases a with⟨⟩<;>exact aa h)
set_option tactic.hygienic true in
theorem LY {a b:Dat}(h:pJ .In a b=some r):∃ds,b=.list ds/\memD a ds=some r:=by
 rcases b with⟨⟩;case list ds=>exact⟨ds,rfl,h⟩
 all_goals exact aa h
theorem Gb {a b:Dat}(hA:cV C n A)(ra:aT s.heap vol v a)(rb:aT s.heap vol u b)(h:pJ op a b=some r):dY C A vol (compareOp op v u) (.bool r) s:=by
 revert op hA ra rb h;refine no_implicit_lambda% (si (b8 (b8 (b8 (b8 sA zv) vm) (b8 GS GS)) inferInstance) ?_ s C A a b vol u v r n);generalize jF _ _=tt;dsimp only[DB];generalize tt.1.1.1.1=s,tt.1.1.1.2=C,tt.1.1.2=A,tt.1.2.1=a,tt.1.2.2=b,tt.2.1.1.1=vol,tt.2.1.1.2=u,tt.2.1.2=v,tt.2.2.1=r,tt.2.2.2=n;intro op hA ra rb h;rcases op with⟨⟩;case Eq=>exact IJ hA ra rb h
 case NotEq=>exact aZ h fun r' he e=>e▸HM hA ra rb he
 case Lt=>exact fun E Q q=>ai (mH hA ra rb h (q _ _ (.refl s) (.bool _)))
 case LtE=>exact fun E Q q=>ai (mH hA ra rb h (q _ _ (.refl s) (.bool _)))
 case Gt=>exact fun E Q q=>ai (mH hA ra rb h (q _ _ (.refl s) (.bool _)))
 case GtE=>exact fun E Q q=>ai (mH hA ra rb h (q _ _ (.refl s) (.bool _)))
 case In=>obtain⟨ds,rfl,h⟩:=LY h;exact(A7 hA ra rb h).1
 case NotIn=>
  refine Z4 (B9 h) (fun y=>?_) fun y=>?_
  ·obtain⟨ds,rfl,h⟩:=y;exact aZ h fun r' he e=>e▸(A7 hA ra rb he).2
  ·obtain⟨x,y,rfl,rfl,rfl⟩:=y;cases ra.flat nofun nofun;cases rb.flat nofun nofun;exact fun E Q q=>ai (PySem.P.notIn_str (q _ _ (.refl s) (.bool _)))
 all_goals exact aa h
theorem aH.picks (r:aH h vol vs ds):∀ks:List Nat,aH h vol (ks.filterMap (vs[·]?)) (ks.filterMap (ds[·]?))
 |[]=>.nil
 |k::ks=>by
  have ih:=r.picks ks;cases hd:ds[k]? with
  |none=>
   have hv:vs[k]?=none:=by rw[List.getElem?_eq_none_iff]at hd ⊢;rw[r.length];exact hd
   rw[List.filterMap_cons_none hd,List.filterMap_cons_none hv];exact ih
  |some d=>refine ax (r.get hd) fun v hv rv=>?_;rw[List.filterMap_cons_some hd,List.filterMap_cons_some hv];exact .cons rv ih
theorem aH.pick (r:aH h vol vs ds)(lo hi st:Option Int):aH h vol (pick vs lo hi st) (pick ds lo hi st):=by unfold Mine.Internal.pick;rw[r.length];exact r.picks _
theorem uP (vs:List Value)(lo hi st:Option Int):slicePick vs.toArray lo hi st=(pick vs lo hi st).toArray:=by unfold slicePick pick;simp only[ZT,List.getElem?_toArray]
theorem fj {α:Type}(xs:List α)(lo hi:Option Int):pick xs lo hi none=(xs.drop (lo.elim 0 (clipAt xs.length))).take (hi.elim xs.length (clipAt xs.length)-lo.elim 0 (clipAt xs.length)):=by unfold pick;rw[sliceBounds_plain];simp only[sliceRange_one];have:=pick_run xs.toArray (lo.elim 0 (clipAt xs.length)) (hi.elim xs.length (clipAt xs.length)-lo.elim 0 (clipAt xs.length));simpa using this
set_option tactic.hygienic true in
theorem xf {α:Type}(xs:List α)(lo hi st:Option Int)(h0:st≠some 0):(pick xs lo hi st).length<=xs.length:=by
 unfold pick;refine ZK (List.length_filterMap_le _ _) (sliceRange_length_le _ _ _ _ (fun hc=>⟨?_,?_⟩) fun hc=>⟨?_,?_⟩)
 ·rcases lo with⟨⟩;case none=>exact Int.le_of_eq (Z1 hc).symm
  case some i=>exact Int.le_trans (Int.le_max_left 0 _) (Int.le_of_eq (Z1 hc).symm)
 ·rcases hi with⟨⟩;case none=>exact Int.le_of_eq (Z1 hc)
  case some i=>exact Int.le_trans (Int.le_of_eq (Z1 hc)) (Int.max_le.mpr ⟨Int.natCast_nonneg _,Int.min_le_right _ _⟩)
 ·rcases lo with⟨⟩;case none=>exact Int.le_of_eq (ZX hc)
  case some i=>exact Int.le_trans (Int.le_of_eq (ZX hc)) (Int.max_le.mpr ⟨Int.le_trans (Int.le_of_eq (Int.zero_sub 1).symm) (Int.sub_le_sub_right (Int.natCast_nonneg _) 1),Int.min_le_right _ _⟩)
 ·rcases hi with⟨⟩;case none=>exact Int.le_of_eq (ZX hc).symm
  case some i=>exact Int.le_trans (Int.le_max_left (-1) _) (Int.le_of_eq (ZX hc).symm)
set_option tactic.hygienic true in
theorem DY (x:Str)(lo hi:Option Int):Txt.slice x lo hi=⟨(pick x.cps.toList lo hi none).toArray⟩:=by
 have e:Builtin.Str.strSliceIndices lo hi 1 x.length=sliceRange (sliceBounds lo hi none x.length).1 (sliceBounds lo hi none x.length).2.1 (sliceBounds lo hi none x.length).2.2:=by rcases lo with⟨⟩<;>rcases hi with⟨⟩<;>rfl
 unfold Txt.slice;split
 ·rename_i h;simp only[BEq.rfl,Bool.true_and,beq_iff_eq]at h;rw[fj];rw[e,sliceBounds_plain]at h;simp only[sliceRange_one,Z2,List.length_range]at h;have hl:x.cps.toList.length=x.length:=by simp[Str.length]
  rw[hl];generalize hb:hi.elim x.length (clipAt x.length)=b at *;generalize ha:lo.elim 0 (clipAt x.length)=a at *;have TH:b<=x.length:=by
   rw[<-hb];rcases hi with⟨⟩;case none=>exact ZQ _
   case some j=>show clipAt _ _<=_;unfold clipAt;exact Jt 0xaf0fdf8cfbf11 rfl
  by_cases hz:a=0
  ·rw[hz,List.drop_zero,List.take_of_length_le (by exact cZ 0x82c01132c21023 rfl hl h)]
  ·have:x.length=0:=aX 0x8228123201210c24 rfl h TH hz;have hx:x.cps.toList=[]:=List.eq_nil_of_length_eq_zero (aR 0x8028121023 rfl hl this);rw[hx];cases x with|mk c=>simp at hx;simp[hx]
 ·rw[e];unfold pick;have hl:x.cps.toList.length=x.length:=by simp[Str.length]
  rw[hl];simp only[Array.getElem?_toList]
noncomputable def xm (v:Value):Sem Value:=do
 if v== .none then return .none
 if(<-specialOf v "__index__").isNone then rule "bytes.slice.part-no-index";raiseError "TypeError" "slice indices must be integers or None or have an __index__ method"
 return rawInt (<-asIndex v)
set_option tactic.hygienic true in
theorem qB {x:Option Int}(hp:IsPart v x)(h:Q (rawPart x) s):wpAny (model prog w) A (xm v) Q E s:=by
 unfold xm;rcases hp with⟨⟩;case none=>exact Z0 h
 case int i t=>refine wpAny_ite (KBy.ite_no (by simp) ?_);refine Z8 (wpAny_specialOf (typeIs_int _ _ _) PySem.F.slot_int_index.lookup (wpAny_ite (KBy.ite_no (by simp) ?_)));exact Z8 (wpAny_of_eq (a:=i) rfl (Z0 h))
set_option tactic.hygienic true in
theorem su {prog:Program}{w:World}{a:Addr}{o:Obj}{l:Value}{lo hi st:Option Int}(hl:IsPart l lo)(hu:IsPart u hi)(hv:IsPart v st)(h0:st≠some 0)(ho:s.heap.get? a=some o)(hd:o.data=.fields #[l,u,v]){E:Value->Shared->Prop}{Q:Value×Value×Value->Shared->Prop}(h:Q (rawPart lo,rawPart hi,rawPart st) s):wpAny (model prog w) A (Builtin.Bytes.sliceParts (.ref a)) Q E s:=by
 show wpAny _ _ (field (.ref a) 2>>=fun x=>xm x>>=fun step=>if(step==rawInt 0)=true then _ else field (.ref a) 0>>=fun x=>xm x>>=fun start=>field (.ref a) 1>>=fun x=>xm x>>=fun stop=>pure (start,stop,step)) Q E s;refine Z8 (wpAny_field (x:=v) ho hd rfl (Z8 (qB hv ?_)));have hn:¬((rawPart st==rawInt 0)=true):=by
  rcases hv with⟨⟩;case none=>exact ZZ
  case int i t=>intro q;have:rawInt i=rawInt 0:=eq_of_beq q;injection this with hi;exact h0 (by rw[hi])
 refine wpAny_ite (KBy.ite_no hn ?_);exact Z8 (wpAny_field (x:=l) ho hd rfl (Z8 (qB hl (Z8 (wpAny_field (x:=u) ho hd rfl (Z8 (qB hu (Z0 h))))))))
theorem yy {b:List UInt8}{t:Tok}{a:Addr}{l:Value}{lo hi st:Option Int}(hl:IsPart l lo)(hu:IsPart u hi)(hv:IsPart v st)(h0:st≠some 0)(hz:b.length<=sizeLine):Meets (Builtin.«bytes.__getitem__» ⟨[.bytes b.toArray t,.ref a],[]⟩) (fun y R s=>s.heap.IsSliceOf a l u v/\∀t' k,R (.ok (.ret (.bytes (pick b lo hi st).toArray t'))) {s with toks:=k}):=by
 revert l hl hu hv h0 hz;refine no_implicit_lambda% (Nj inferInstance ?_ b lo hi st t a u v);generalize jF _ _=tt;dsimp only[K8];generalize tt.1.1.1=b,tt.1.1.2=lo,tt.1.2.1=hi,tt.1.2.2=st,tt.2.1.1=t,tt.2.1.2=a,tt.2.2.1=u,tt.2.2.2=v;intro l hl hu hv h0 hz;refine .of_wp fun prog w A R s hS=>?_;refine aL hS fun y0 h=>?_;refine eD y0 fun o ho hc hd=>?_;have hT:s.TypeIs (.ref a) "slice":=⟨o,ho,hc⟩;show wpAny _ _ (Builtin.Bytes.payload (.bytes b.toArray t)>>=fun r=>_) _ _ s;refine Z8 (wpAny_of_eq (a:=b.toArray) rfl ?_);show wpAny _ _ (Builtin.Bytes.subscript? (.ref a)>>=fun r=>_) _ _ s;refine Z8 ?_;unfold Builtin.Bytes.subscript?;refine Z8 (wpAny_specialOf hT slice_no_index (Z0 ?_));refine Z8 (wpAny_typeOf hT ?_);show wpAny _ _ (Builtin.Bytes.sliceParts (.ref a)>>=fun r=>_) _ _ s;have go:wpAny (model prog w) A.in1 (sliceIndices (rawPart lo) (rawPart hi) (rawPart st) b.toArray.size) (fun r s'=>r=sliceBounds lo hi st b.toArray.size/\s'=s) (fun y y=>False) s:=wpAny_of_eq (sliceIndices_raw lo hi st b.toArray.size h0) ⟨rfl,rfl⟩;have e:Builtin.Bytes.sliced b.toArray (sliceBounds lo hi st b.toArray.size).1 (sliceBounds lo hi st b.toArray.size).2.1 (sliceBounds lo hi st b.toArray.size).2.2=(pick b lo hi st).toArray:=by unfold Builtin.Bytes.sliced pick;simp only[ZT,List.getElem?_toArray]
 have rest:wpAny (model prog w) A.in1 (sliceIndices (rawPart lo) (rawPart hi) (rawPart st) b.toArray.size>>=fun(x:Int×Int×Int)=>do
   if x.1==0&&x.2.2==1&&x.2.1==b.toArray.size&& !b.toArray.isEmpty then if(<-typeOf (.bytes b.toArray t))== .type "bytes" then rule "bytes.__getitem__.whole";return <-ret (.bytes b.toArray t)
   ret (<-mkBytes (Builtin.Bytes.sliced b.toArray x.1 x.2.1 x.2.2))) (fun fin s'=>∃v,fin=.done (.ret v)/\R (.ok (.ret v)) s') (fun e s'=>R (.error e) s') s:=by
  refine Z8 (wpAny_mono go (fun r s' hr=>?_) fun y y e=>e.elim);refine aL hr fun CB qY=>?_;subst CB qY;by_cases hw:((sliceBounds lo hi st b.toArray.size).1==0&&(sliceBounds lo hi st b.toArray.size).2.2==1&&(sliceBounds lo hi st b.toArray.size).2.1==b.toArray.size&& !b.toArray.isEmpty)=true
  ·rw[Z1 hw];refine Z8 (wpAny_typeOf (typeIs_bytes _ _ t) ?_);refine wpAny_ite (KBc.ite_yes rfl ?_);refine Z8 (wpAny_rule ?_);refine Z0 ⟨_,rfl,?_⟩;simp only[ZR,beq_iff_eq]at hw;refine aL hw fun y0 y=>?_;refine aL y0 fun y1 h3=>?_;refine aL y1 fun h1 h2=>?_;have e2:(pick b lo hi st).toArray=b.toArray:=by rw[<-e,h1,h2,h3];show Builtin.Bytes.sliced b.toArray ((0:Nat):Int) ((b.toArray.size:Nat):Int) 1=b.toArray;unfold Builtin.Bytes.sliced;rw[sliceRange_one,pick_run];simp
   have h':=h t s'.toks;rw[e2]at h';exact h'
  ·rw[ZX hw,e];exact Z8 (wpAny_mkBytes (Z0 ⟨_,rfl,h _ _⟩) (by rw[ZT];exact ZK (xf b lo hi st h0) hz))
 exact Z8 (su hl hu hv h0 ho hd rest)
set_option tactic.hygienic true in
theorem AV (h:IsPart v l):∃p:Option (Int×Tok),v=partValue p/\p.map (·.1)=l:=by
 rcases h with⟨⟩;case none=>exact⟨none,rfl,rfl⟩
 case int i t=>exact⟨some (i,t),rfl,rfl⟩
theorem so {value:Expr}{lo hi st:Option Expr}{p:Pos}{ds:List Dat}{v1 v2 v3:Value}{l1 l2 l3:Option Int}{sl:Addr}(V:aW C vol s)(r:aT s.heap vol v (.list ds))(hs:s.heap.IsSliceOf sl v1 v2 v3)(p1:IsPart v1 l1)(p2:IsPart v2 l2)(p3:IsPart v3 l3)(h0:l3≠some 0)(hz:ds.length<=aM):dY C A vol (subscriptTail value (.Slice lo hi st p) v (.ref sl)) (.list (pick ds l1 l2 l3)) s:=by intro E Q q;refine ai ?_;refine aJ (eF lo hi st p v (.ref sl)) fun ops Fe=>?_;refine cL (bI r) ?_;rintro l o vs k (rfl) ho hc y0;refine bg y0 fun hn hd hr=>?_;have hl:s.heap.IsList l vs.toArray:=⟨o,ho,hc,_,hd⟩;refine tail_any hl.typeIs slot_list_getitem.lookup (wpAny_getItem_list_slice hl hs p1 p2 p3 h0 ?_ (by rw[ZT,hr.length];exact bx hz)) Fe;rw[uP];exact q _ _ .push (Rep.new V (hr.pick l1 l2 l3))
theorem qr {value:Expr}{lo hi st:Option Expr}{p:Pos}{b:List UInt8}{v1 v2 v3:Value}{l1 l2 l3:Option Int}{sl:Addr}(r:Rep s.heap vol v (.bytes b))(hs:s.heap.IsSliceOf sl v1 v2 v3)(p1:IsPart v1 l1)(p2:IsPart v2 l2)(p3:IsPart v3 l3)(h0:l3≠some 0)(hz:b.length<=aM):dY C A vol (subscriptTail value (.Slice lo hi st p) v (.ref sl)) (.bytes (pick b l1 l2 l3)) s:=by intro E Q q;refine ai ?_;refine aJ (eF lo hi st p v (.ref sl)) fun ops Fe=>?_;refine aJ r.f7 ?_;rintro t (rfl);exact tail_any (typeIs_bytes _ _ _) FB.slot_bytes_getitem.lookup (getItem_meets (typeIs_bytes _ _ _) (by decide) FB.slot_bytes_getitem FB.entry_bytes_getitem (FB.args_bytes_getitem_2 _ _) (yy p1 p2 p3 h0 (bx hz)) ⟨hs,fun t' k=>q _ _ .toks (.bytes _ _)⟩) Fe
theorem uO {value:Expr}{lo hi st:Option Expr}{p:Pos}{x:Str}{v1 v2 v3:Value}{l1 l2 l3:Option Int}{sl:Addr}(r:Rep s.heap vol v (.str x))(hs:s.heap.IsSliceOf sl v1 v2 v3)(p1:IsPart v1 l1)(p2:IsPart v2 l2)(p3:IsPart v3 l3)(hz:x.length<=aM/\l3=none):dY C A vol (subscriptTail value (.Slice lo hi st p) v (.ref sl)) (.str ⟨(pick x.cps.toList l1 l2 l3).toArray⟩) s:=by
 intro E Q q;refine ai ?_;refine aJ (eF lo hi st p v (.ref sl)) fun ops Fe=>?_;refine aJ r.jS ?_;rintro t (rfl);obtain⟨hz,xY⟩:=hz;subst xY;refine ax (AV p1) ?_;rintro q1 (rfl) (rfl);refine ax (AV p2) ?_;rintro q2 (rfl) (rfl);rcases p3 with⟨⟩;refine tail_any (typeIs_str _ _ _) PySem.F.slot_str_getitem.lookup (wpAny_getItem_str_slice (l:=q1) (u:=q2) (st:=none) hs rfl ?_) Fe;have hp:=DY x (q1.map (·.1)) (q2.map (·.1));unfold Txt.slice at hp;unfold sliceMade slicePicked;show Made.post (if((1:Int)==1&&(Builtin.Str.strSliceIndices (q1.map (·.1)) (q2.map (·.1)) 1 x.length).length==x.length)=true then _ else _) Q s;split
 ·rename_i hw;rw[Z1 hw]at hp;refine q (.str x _) s (.refl s) ?_;dsimp only;rw[<-hp];exact .str _ _
 ·rename_i hw;rw[ZX hw]at hp;refine⟨?_,?_⟩
  ·show(List.filterMap _ _).toArray.size<=sizeLine;rw[ZT];exact ZK (List.length_filterMap_le _ _) (ZK (sliceIndices_le _ _ _) (bx hz))
  ·refine q _ _ .toks ?_;dsimp only;rw[<-hp];exact .str _ _
theorem ze {value:Expr}{lo hi st:Option Expr}{p:Pos}{a d:Dat}{v1 v2 v3:Value}{l1 l2 l3:Option Int}{sl:Addr}(bs:Bs C s)(V:aW C vol s)(r:aT s.heap vol v a)(hs:s.heap.IsSliceOf sl v1 v2 v3)(p1:IsPart v1 l1)(p2:IsPart v2 l2)(p3:IsPart v3 l3)(h:fh a l1 l2 l3=some d):dY C A vol (subscriptTail value (.Slice lo hi st p) v (.ref sl)) d s:=by refine vA (c:=l3=some 0\/l1.all aG=false\/l2.all aG=false\/l3.all aG=false) h fun hh h=>?_;have h0:l3≠some 0:=fun q=>hh (.inl q);clear hh;cases a with|list ds=>exact aI (c:=ds.length<=aM) h fun hz h=>Z9 h▸so V r hs p1 p2 p3 h0 hz|bytes b=>exact aI (c:=b.length<=aM) h fun hz h=>Z9 h▸qr (r.flat nofun nofun) hs p1 p2 p3 h0 hz|str x=>exact aI (c:=x.length<=aM/\l3=none) h fun hz h=>Z9 h▸uO (r.flat nofun nofun) hs p1 p2 p3 hz|_=>exact aa h
theorem jk:Manifest.owners.lookup (String.ofList ['y','a','r','r','a','e','t','y','b'].reverse)=some Manifest.sig_bytearray:=by kernel_rfl
theorem ll:PySem.Slot "bytearray" "__len__" "bytearray.__len__":=.of (owner:="bytearray") (n:="__len__") (by rw[ZC,ZM];kernel_rfl) (by decide +kernel) (by decide +kernel) (by decide +kernel) (by first|exact .inl (by decide +kernel)|exact .inr (by decide +kernel)) (by rw[isSubtype_type];kernel_rfl)
theorem rA:entryFor table "bytearray.__len__"=some Builtin.«bytearray.__len__»:=entryFor_of_tree (by kernel_rfl)
theorem s9 (a:Value):argsOk "bytearray.__len__" ⟨[a],[]⟩:=by unfold argsOk;rw[signature?_of (id:="bytearray.__len__") (n:=['_','_','n','e','l','_','_']) (o:=['y','a','r','r','a','e','t','y','b']) (by kernel_rfl) jk];kernel_rfl
theorem lp:PySem.Slot "bytearray" "__getitem__" "bytearray.__getitem__":=.of (owner:="bytearray") (n:="__getitem__") (by rw[ZC,ZM];kernel_rfl) (by decide +kernel) (by decide +kernel) (by decide +kernel) (by first|exact .inl (by decide +kernel)|exact .inr (by decide +kernel)) (by rw[isSubtype_type];kernel_rfl)
theorem rB:entryFor table "bytearray.__getitem__"=some Builtin.«bytearray.__getitem__»:=entryFor_of_tree (by kernel_rfl)
theorem ta (a b:Value):argsOk "bytearray.__getitem__" ⟨[a,b],[]⟩:=by unfold argsOk;rw[signature?_of (id:="bytearray.__getitem__") (n:=['_','_','m','e','t','i','t','e','g','_','_']) (o:=['y','a','r','r','a','e','t','y','b']) (by kernel_rfl) jk];kernel_rfl
theorem lj:PySem.Slot "bytearray" "__setitem__" "bytearray.__setitem__":=.of (owner:="bytearray") (n:="__setitem__") (by rw[ZC,ZM];kernel_rfl) (by decide +kernel) (by decide +kernel) (by decide +kernel) (by first|exact .inl (by decide +kernel)|exact .inr (by decide +kernel)) (by rw[isSubtype_type];kernel_rfl)
theorem rt:entryFor table "bytearray.__setitem__"=some Builtin.«bytearray.__setitem__»:=entryFor_of_tree (by kernel_rfl)
theorem s8 (a b c:Value):argsOk "bytearray.__setitem__" ⟨[a,b,c],[]⟩:=by unfold argsOk;rw[signature?_of (id:="bytearray.__setitem__") (n:=['_','_','m','e','t','i','t','e','s','_','_']) (o:=['y','a','r','r','a','e','t','y','b']) (by kernel_rfl) jk];kernel_rfl
theorem Gw (a:Addr)(b:List UInt8)(n:Nat)(dd:Option Addr)(sl:Array (Option Value))(i:Int)(u:Tok)(c:UInt8)(hr:Builtin.Bytes.fitsIndex i=true)(hc:(seqIndex? i b.length).bind (b[·]?)=some c):Meets (Builtin.«bytearray.__getitem__» ⟨[.ref a,.int i u],[]⟩) (fun y R s=>s.heap.get? a=some {cls:=.type "bytearray",dict:=dd,data:=.bytearray b.toArray n,slots:=sl}/\R (.ok (.ret (.int c.toNat s.toks))) {s with toks:=s.toks+1}):=by
 refine .of_wp fun prog w A R s hS=>?_;refine aL hS fun ho h=>?_;show wpAny _ _ (Builtin.Bytes.subscript? (.int i u)>>=fun r=>_) _ _ s;refine Z8 ?_;unfold Builtin.Bytes.subscript?;refine Z8 (wpAny_specialOf (typeIs_int s i u) PySem.F.slot_int_index.lookup ?_);show wpAny _ _ (if(!Builtin.Bytes.fitsIndex i)=true then _ else pure (some i)) _ _ s;rw[hr];refine Z0 ?_;show wpAny _ _ (Builtin.Bytes.payload (.ref a)>>=fun b=>_) _ _ s;have hp:wpAny (model prog w) A.in1 (Builtin.Bytes.payload (.ref a)) (fun x s'=>x=b.toArray/\s'=s) (fun y y=>False) s:=by unfold Builtin.Bytes.payload;refine Z8 ?_;show wpAny _ _ (load a>>=fun o=>_) _ _ s;exact Z8 (wpAny_load ho (Z0 (Z0 ⟨rfl,rfl⟩)))
 refine Z8 (wpAny_mono hp (fun x s' hx=>?_) fun y y f=>f.elim);refine aL hx ?_;clear hx;rintro(rfl) (rfl);show wpAny _ _ (match(seqIndex? i b.toArray.size).bind (b.toArray[·]?)with|some x=>retInt x.toNat|none=>_) _ _ _;have:(seqIndex? i b.toArray.size).bind (b.toArray[·]?)=some c:=by simpa using hc
 rw[this];exact Z8 (wpAny_mkInt (Z0 ⟨_,rfl,h⟩))
set_option tactic.hygienic true in
theorem qw (r:aT h vol v (.ba b)):∃a o k,v=.ref a/\h.get? a=some o/\o.cls=.type "bytearray"/\o.data=.bytearray b.toArray k:=by
 rcases r with⟨⟩;case rep r=>(rcases r with⟨⟩;(case ba hv ho hc hd=>exact⟨_,_,_,rfl,ho,hc,hd⟩))
 case ba ho hc hd=>exact⟨_,_,_,rfl,ho,hc,hd⟩
theorem xt:cj C n where
 bin:=fun x bs V ra rb h=>Gp bs V ra rb h;un:=fun x x x ra h=>G8 ra h;cmp:=fun hA x x ra rb h=>Gb hA ra rb h;Q5:=fun x x x r h=>KQ r h;slice:=fun x bs V r hs p1 p2 p3 h=>ze bs V r hs p1 p2 p3 h;item:=fun{value slice a i d v u A s vol}x bs V r ri h hs=>Cs bs V r ri h hs fun b i t ea eu=>by
  subst ea eu;by_cases hi:aG i=true
  ·cases hk:dN i b.length with
   |none=>exact .inr (.inr rfl)
   |some j=>
    refine .inl fun E Q q=>ai ?_;refine jz (qw r) ?_;rintro a y0 k (rfl) ho hc hd;obtain⟨c1,d1,FX,rY⟩:=y0;simp only at hc hd;subst hc hd;refine aL (cS.mp hi) fun h1 h2=>?_;have hj:j<b.length:=by
     unfold dN at hk;split at hk
     ·split at hk
      ·obtain rfl:=Z9 hk;exact Jt 0xfbf00af0f70f883 rfl (by assumption) (by assumption)
      ·exact aa hk
     ·split at hk
      ·obtain rfl:=Z9 hk;exact Jt 0xaf0fbbf00af0fb880f8833 rfl (by assumption) (by assumption)
      ·exact aa hk
    have hb:b[j]?=some b[j]:=ZY hj;refine tail_any (T:="bytearray") ⟨_,ho,rfl⟩ lp.lookup (getItem_meets ⟨_,ho,rfl⟩ (by decide) lp rB (ta _ _) (Gw a b k d1 rY i t b[j] ?_ ?_) ⟨ho,?_⟩) (cN hs _ _)
    ·simp only[Builtin.Bytes.fitsIndex,ZR,decide_eq_true_eq];lia
    ·rw[kN hk];exact hb
    ·refine q _ _ .toks ?_;rw[Option.getD_some,hb];exact .int _ _
  ·exact .inr (.inl (by simpa using hi))
set_option tactic.hygienic true in
theorem aH.set (rv:Rep h vol v d)(r:aH h vol vs ds):∀k,aH h vol (vs.set k v) (ds.set k d):=r.ind (Q:=fun vs ds=>∀k,aH h vol (vs.set k v) (ds.set k d)) (fun x=>.nil) fun r rs ih k=>by
  rcases k with⟨⟩;case zero=>exact .cons rv rs
  case succ k=>exact .cons r (ih k)
theorem Obj.mX (hd:o.data=.bytearray b n)(f:Array UInt8->Array UInt8):∃n',(Obj.mapBytearray f o).data=.bytearray (f b) n'/\(Obj.mapBytearray f o).cls=o.cls:=by obtain⟨c,d,da,sl⟩:=o;simp only at hd;subst hd;exact⟨_,rfl,rfl⟩
theorem wA {Q:Unit->Shared->Prop}(ho:s.heap.get? a=some o)(hd:o.data=.bytearray b k)(hz:(f b).size<=sizeLine)(hQ:Q () {s with heap:=s.heap.update a (Obj.mapBytearray f)}):wpAny (model prog w) A (Builtin.Bytes.write (.ref a) f) Q E s:=by
 show wpAny _ _ (updateBytearray a f) _ _ s;unfold updateBytearray;refine Z8 (wpAny_load ho ?_);rw[hd];refine ax (Obj.mX hd f) fun n' cB n7=>?_;refine Z8 (wpAny_update ho ?_);refine wpAny_lookBehind (Heap.get?_update_self _ ho ?_) ?_ hQ
 ·obtain⟨c,d,da,sl⟩:=o;simp only at hd;subst hd;rfl
 ·rw[cB];show(if(f b).size>sizeLine then _ else none)=none;rw[ZX (by exact aR 0x1031012 rfl hz)]
theorem Gv (a:Addr)(o:Obj)(b:List UInt8)(n:Nat)(i x:Int)(u v:Tok)(hr:Builtin.Bytes.fitsIndex i=true)(h0:0<=i)(h1:i<b.length)(hx:0<=x)(wu:x<256)(hz:b.length<=sizeLine)(hd:o.data=.bytearray b.toArray n):Meets (Builtin.«bytearray.__setitem__» ⟨[.ref a,.int i u,.int x v],[]⟩) (fun z R s=>s.heap.get? a=some o/\R (.ok (.ret .none)) {s with heap:=s.heap.update a (Obj.mapBytearray (·.setIfInBounds i.toNat x.toNat.toUInt8))}):=by
 revert hr h0 h1 hx wu hz hd;refine Nj inferInstance ?_ i x a b u v o n;generalize jF _ _=tt;dsimp only[K8];generalize tt.1.1.1=i,tt.1.1.2=x,tt.1.2.1=a,tt.1.2.2=b,tt.2.1.1=u,tt.2.1.2=v,tt.2.2.1=o,tt.2.2.2=n;intro hr h0 h1 hx wu hz hd;refine .of_wp fun prog w A R s hS=>?_;refine aL hS fun ho h=>?_;show wpAny _ _ (Builtin.Bytes.subscript? (.int i u)>>=fun r=>_) _ _ s;refine Z8 ?_;unfold Builtin.Bytes.subscript?;refine Z8 (wpAny_specialOf (typeIs_int s i u) PySem.F.slot_int_index.lookup ?_);show wpAny _ _ (if(!Builtin.Bytes.fitsIndex i)=true then _ else pure (some i)) _ _ s;rw[hr];refine Z0 ?_;show wpAny _ _ (Builtin.Bytes.byteValue (.int x v)>>=fun y=>_) _ _ s;have Xq:Builtin.Bytes.byteValue (.int x v)=pure x.toNat.toUInt8:=by unfold Builtin.Bytes.byteValue;show(if(decide (x<0)||decide (x>=256))=true then _ else _)=_;rw[ZX (by simp;exact ni 0x1008f0f70f884000001008f0f70f883 rfl hx wu)]
 refine Z8 (wpAny_of_eq Xq ?_);show wpAny _ _ (Builtin.Bytes.payload (.ref a)>>=fun b=>_) _ _ s;have hp:wpAny (model prog w) A.in1 (Builtin.Bytes.payload (.ref a)) (fun x s'=>x=b.toArray/\s'=s) (fun z z=>False) s:=by unfold Builtin.Bytes.payload;refine Z8 ?_;show wpAny _ _ (load a>>=fun o=>_) _ _ s;refine Z8 (wpAny_load ho ?_);rw[hd];exact Z0 (Z0 ⟨rfl,rfl⟩)
 refine Z8 (wpAny_mono hp (fun x' s' wu=>?_) fun z z f=>f.elim);refine aL wu ?_;clear wu;rintro(rfl) (rfl);have e:seqIndex? i b.toArray.size=some i.toNat:=by have h2:¬i<0:=ni 0x80f730f882 rfl h0;simp[seqIndex?,h2,h0,h1]
 show wpAny _ _ (match seqIndex? i b.toArray.size with|some k=>(do Builtin.Bytes.write (.ref a) (·.setIfInBounds k x.toNat.toUInt8);return <-ret .none)|none=>_) _ _ _;rw[e];refine Z8 (wA ho hd ?_ (Z0 ⟨_,rfl,h⟩));rw[Array.size_setIfInBounds,ZT];exact hz
theorem yl (hd:o.data=.seq xs n):(Obj.mapSeq f o).dict=o.dict:=by obtain⟨c,d,da,sl⟩:=o;obtain rfl:da=_:=hd;rfl
theorem sM (hd:o.data=.bytearray xs n):(Obj.mapBytearray f o).isFreed=false:=by obtain⟨c,d,da,sl⟩:=o;obtain rfl:da=_:=hd;rfl
theorem wZ {i:Int}{p:Addr}{Q:Unit->Shared->Prop}(hh:0<=i/\i<(ds.length:Int)/\ds.length<=aM)(hp:vol p)(r:aT s.heap vol (.ref p) (.list ds))(rj:Rep s.heap vol u (.int i))(rd:Rep s.heap vol v d)(hQ:∀s1 h' t,Ex C s s1->Heap.SameBut p s1.heap h'->aT h' vol (.ref p) (.list (ds.set i.toNat d))->Q () {s1 with heap:=h',toks:=t}):aK (model C.prog C.w) A (setItem (.ref p) u v) Q E s:=by
 revert d u hh hp r rj rd hQ;refine no_implicit_lambda% (si (b8 (b8 (b8 (b8 zv sA) vm) inferInstance) inferInstance) ?_ C s A p v E Q i vol ds);generalize jF _ _=tt;dsimp only[DB];generalize tt.1.1.1.1=C,tt.1.1.1.2=s,tt.1.1.2=A,tt.1.2.1=p,tt.1.2.2=v,tt.2.1.1.1=E,tt.2.1.1.2=Q,tt.2.1.2=i,tt.2.2.1=vol,tt.2.2.2=ds;intro d u hh hp r rj rd hQ;refine ai ?_;refine cL (bI r) fun l o vs k e ho hc y0=>?_;refine bg y0 fun hn hd hr=>?_;rcases e with⟨⟩;refine aJ rj.eS ?_;rintro t (rfl);have hl:s.heap.IsList p vs.toArray:=⟨o,ho,hc,_,hd⟩;refine bg hh fun h0 h1 eT=>?_;unfold aM at eT;have CG:i<2^63:=by lia
 unfold setItem;refine wpAny_holding ?_;refine Z8 (wpAny_sequenceKey hl.typeIs (by decide) ?_);refine Z8 (wpAny_callSpecial?_slot (name:=Str.ofString "__setitem__") hl.typeIs slot_list_setitem (wpAny_call_entry slot_list_setitem hl.typeIs entry_list_setitem ?_ (args_list_setitem _ _ _)));show wpAny _ _ (Builtin.List.listSubscript? (.int i _)>>=_) _ _ s;refine Z8 (wpAny_listSubscript_int (fitsIndex_of h0 CG) ?_);clear CG;refine aJ (Int.eq_ofNat_of_zero_le h0) ?_;rintro j (rfl);rw[ZE]at hQ;have hj:j<vs.length:=by rw[hr.length];exact aR 0x1001af0af72 rfl h1
 show wpAny _ _ ((seqItemAt p j>>=fun r=>pure (r.map (j,·)))>>=_) _ _ s;refine Z8 (Z8 (wpAny_seqItemAt ho hd (Z0 ?_)));have wu:vs.toArray[j]?=some vs[j]:=by simp[hj]
 rw[wu];show wpAny _ _ (setSeqItemAt p j v>>=_) _ _ s;refine aJ (Obj.data_mapSeq hd (·.setIfInBounds j v)) fun n' cB=>?_;refine Z8 (wpAny_setSeqItemAt ho hd ?_);have fin:Q () {s with heap:=s.heap.update p (Obj.mapSeq (·.setIfInBounds j v))}:=by
  have sb:Heap.SameBut p s.heap (s.heap.update p (Obj.mapSeq (·.setIfInBounds j v))):=Heap.SameBut.update ..;refine hQ s _ s.toks (.refl s) sb (.list (vs:=vs.set j v) (n:=n') (Heap.get?_update_self _ ho (Obj.isFreed_of_seq cB)) ((Obj.cls_mapSeq ..).trans hc) ?_ ?_ ?_)
  ·exact(yl hd).trans hn
  ·rw[cB,List.setIfInBounds_toArray]
  ·refine(hr.set rd j).mono fun b ob e nn=>⟨?_,nn⟩;exact(sb.2 b fun q=>nn (q▸hp)).trans e
 first|exact Z8 (Z0 (Z0 ⟨.none,rfl,Z0 fin⟩))|exact Z0 ⟨.none,rfl,Z0 fin⟩
theorem w3 {i k:Int}{p:Addr}{Q:Unit->Shared->Prop}(hh:0<=i/\i<(b.length:Int)/\b.length<=aM/\0<=k/\k<256)(r:aT s.heap vol (.ref p) (.ba b))(rj:Rep s.heap vol u (.int i))(rd:Rep s.heap vol v (.int k))(hQ:∀s1 h' t,Ex C s s1->Heap.SameBut p s1.heap h'->aT h' vol (.ref p) (.ba (b.set i.toNat k.toNat.toUInt8))->Q () {s1 with heap:=h',toks:=t}):aK (model C.prog C.w) A (setItem (.ref p) u v) Q E s:=by
 refine ai ?_;refine jz (qw r) fun l o n' e ho hc hd=>?_;rcases e with⟨⟩;refine aJ rj.eS ?_;rintro t (rfl);refine aJ rd.eS ?_;rintro t' (rfl);refine sh hh fun h0 h1 h2 h3 h4=>?_;have hz:=bx h2;unfold aM at h2;have hT:s.TypeIs (.ref p) "bytearray":=⟨_,ho,hc⟩;unfold setItem;refine wpAny_holding ?_;refine Z8 (wpAny_sequenceKey hT (by decide) ?_);refine Z8 (wpAny_callSpecial?_slot (name:=Str.ofString "__setitem__") hT lj (call_meets lj hT rt (s8 _ _ _) (Gv p o b n' i k _ _ ?_ h0 h1 h3 h4 hz hd) ⟨ho,Z0 ?_⟩))
 ·simp only[Builtin.Bytes.fitsIndex,ZR,decide_eq_true_eq];lia
 ·refine ax (Obj.mX hd (·.setIfInBounds i.toNat k.toNat.toUInt8)) fun m cB n7=>?_;refine hQ s _ s.toks (.refl s) (Heap.SameBut.update ..) (.ba (b:=b.set i.toNat k.toNat.toUInt8) (n:=m) (Heap.get?_update_self _ ho ?_) (n7.trans hc) ?_)
  ·exact sM hd
  ·rw[cB,List.setIfInBounds_toArray]
set_option tactic.hygienic true in
theorem D0 {a j a':Dat}{p:Addr}{Q:Unit->Shared->Prop}(h:nH a j d=some a')(bs:Bs C s)(V:aW C vol s)(hp:vol p)(r:aT s.heap vol (.ref p) a)(rj:Rep s.heap vol u j)(rd:Rep s.heap vol v d)(hQ:∀s1 h' t,Ex C s s1->Heap.SameBut p s1.heap h'->aT h' vol (.ref p) a'->Q () {s1 with heap:=h',toks:=t}):aK (model C.prog C.w) A (setItem (.ref p) u v) Q E s:=by
 rcases a with⟨⟩;case list ds=>cases j with
  |int i=>exact aI h fun hh h=>wZ hh hp r rj rd (Z9 h▸hQ)|_=>exact aa h
 case ba b=>cases j with
  |int i=>cases d with
   |int k=>exact aI h fun hh h=>w3 hh r rj rd (Z9 h▸hQ)|_=>exact aa h
  |_=>exact aa h
 all_goals (exact aa h)
section
open AutoSeq1 (wpAny_loadPart')
theorem size_erase_le (xs:Array Value)(k:Nat):(xs.eraseIdxIfInBounds k).size<=xs.size:=MeetsSeq.size_erased xs k
theorem qV {x y:Dat}{ys:List Dat}:qW x (y::ys) k=(match lB y x with|some true=>some k|some false=>qW x ys (k+1)|none=>none):=rfl
theorem zi {x:Dat}:∀{ds jy:List Dat},xd x ds=some jy->∃j,j<ds.length/\jy=ds.eraseIdx j/\qW x ds 0=some j:=by
 intro ds;induction ds with
 |nil=>intro _ h;exact aa h
 |cons y ys vz=>
  intro jy h;dsimp only[xd]at h;cases he:lB y x with
  |none=>rw[he]at h;exact aa h
  |some b=>
   rw[he]at h;rcases b with⟨⟩;case true=>obtain rfl:=Z9 h;exact⟨0,by simp,rfl,by rw[qV,he]⟩
   case false=>
    simp only at h;cases hr:xd x ys with
    |none=>rw[hr]at h;exact aa h
    |some zs=>
     rw[hr]at h;obtain rfl:=Z9 h;refine eD (vz hr) fun j h1 h2 h3=>?_;refine⟨j+1,by simpa using h1,by rw[h2];rfl,?_⟩;rw[qV,he];have shift:∀(l:List Dat)(k m:Nat),qW x l k=some m->qW x l (k+1)=some (m+1):=by
      intro l;induction l with
      |nil=>intro k m h;exact aa h
      |cons z l ih=>
       intro k m h;rw[qV]at h ⊢;cases e:lB z x with
       |none=>rw[e]at h;exact aa h
       |some b=>
        rw[e]at h;cases b with
        |true=>obtain rfl:=Z9 h;rfl
        |false=>exact ih _ _ h
     exact shift _ _ _ h3
theorem BW (l:Addr)(items:Array Value)(n:Nat)(CX:Option Addr)(BQ:Array (Option Value))(x:Value)(dx:Dat)(hs1:items.size<=sizeLine):∀(ds:List Dat)(xs:List Value)(i j:Nat),items.toList.drop i=xs->qW dx ds i=some j->Meets (Builtin.«list.remove.loop» ⟨[.ref l,x,rawInt i],[]⟩) (fun A R s=>s.heap.get? l=some {cls:=.type "list",dict:=CX,data:=.seq items n,slots:=BQ}/\A.units+80<cLine/\aH s.heap vol xs ds/\Rep s.heap vol x dx/\R (.ok (.ret .none)) {s with heap:=s.heap.update l (Obj.mapSeq fun xs=>xs.eraseIdxIfInBounds j)}):=by
 intro ds
 induction ds with
 |nil=>intro xs i j _ h;exact aa h
 |cons d ds ih=>
  intro xs i j hx hj prog w A R s h;refine ZU fun hG=>?_;obtain⟨hp,g,dd,tk,os⟩:=s;obtain⟨hl,hu,rs,rx,h⟩:=h;refine hG ?_;cases rs with| @cons v _ vs _ rv Nn=>have hi:=head_drop hx;wp_walk using wpAny_loadPart' hl;refine xR hi ?_;rw[qV]at hj;cases he:lB d dx with
  |none=>rw[he]at hj;exact aa hj
  |some b=>
   rw[he]at hj;refine Z8 (ou (by have:A.in1.units=A.units+1:=rfl;exact aX 0x146a2b090b22150a0b03 rfl hu this) rv rx he ?_);rcases b with⟨⟩;case true=>obtain rfl:=Z9 hj;have xX:(items.eraseIdxIfInBounds i).size<=sizeLine+1:=ZK (size_erase_le items _) (Nat.le_succ_of_le hs1);wp_walk using(wpAny_updateSeq hl rfl (hz:=hs1) (_hz':=xX)),wpAny_loadPart' hl;exact h
   case false=>
    wp_walk;have hc:((i:Int)+1)=((i+1:Nat):Int):=by push_cast;rfl
    refine xR hc ?_;have wu:items.toList.drop (i+1)=vs:=by refine xL List.drop_drop (xR hx ?_);rfl
    exact⟨plainId_quiet MeetsSeq.plain_remove_loop _,codeAny_builtin MeetsSeq.entry_remove_loop (by refine xR (ZL MeetsSeq.plain_remove_loop _) ?_;exact ih vs (i+1) j wu hj prog w A R _ ⟨hl,hu,Nn,rx,h⟩)⟩
theorem uV (l:Addr)(items:Array Value)(n:Nat)(CX:Option Addr)(BQ:Array (Option Value))(x:Value)(dx:Dat)(ds:List Dat)(j:Nat)(hs1:items.size<=sizeLine)(hj:qW dx ds 0=some j):Meets (Builtin.«list.remove» ⟨[.ref l,x],[]⟩) (fun A R s=>s.heap.get? l=some {cls:=.type "list",dict:=CX,data:=.seq items n,slots:=BQ}/\A.units+80<cLine/\aH s.heap vol items.toList ds/\Rep s.heap vol x dx/\R (.ok (.ret .none)) {s with heap:=s.heap.update l (Obj.mapSeq fun xs=>xs.eraseIdxIfInBounds j)}):=by
 intro prog w A R s h
 obtain⟨hp,g,d,tk,os⟩:=s;refine sh h fun hl hu rs rx h=>?_
 wp_walk using wpAny_loadPart' hl
 exact⟨plainId_quiet MeetsSeq.plain_remove_loop _,codeAny_builtin MeetsSeq.entry_remove_loop (by exact(ZL MeetsSeq.plain_remove_loop _)▸BW l items n CX BQ x dx hs1 ds items.toList 0 j rfl hj prog w A R _ ⟨hl,hu,rs,rx,h⟩)⟩
theorem vJ (l:Addr)(items:Array Value)(n:Nat)(CX:Option Addr)(BQ:Array (Option Value))(b:Addr)(bN:Array Value)(n2:Nat)(Yk:Option Addr)(rY:Array (Option Value))(YE:¬(!items.isEmpty&&Builtin.List.listTooLong (items.size+bN.size))=true)(hs1:items.size<=sizeLine)(GY:items.size+bN.size<=sizeLine+1):Meets (Builtin.«list.extend» ⟨[.ref l,.ref b],[]⟩) (fun y R s=>s.heap.get? l=some {cls:=.type "list",dict:=CX,data:=.seq items n,slots:=BQ}/\s.heap.get? b=some {cls:=.type "tuple",dict:=Yk,data:=.seq bN n2,slots:=rY}/\R (.ok (.ret Value.none)) {s with heap:=s.heap.update l (Obj.mapSeq fun x=>x++bN)}):=.of_wp fun prog w A R s h=>by
  obtain⟨hp,g,d,tk,os⟩:=s;refine bg h fun hl hb h=>?_;have f1:=AutoSeq1.idx_int;have f2:=AutoSeq1.sub_tuple_tuple;have f3:=AutoSeq1.sub_list_list;have f4:=AutoSeq1.sub_tuple_list;have f5:=AutoSeq1.sub_list_tuple;have xX:(items++bN).size<=sizeLine+1:=by refine xR Array.size_append ?_;exact GY
  wp_walk using(wpAny_updateSeq hl rfl (hz:=hs1) (_hz':=xX)),wpAny_loadPart' hl,wpAny_loadPart' hb;exact⟨_,rfl,h⟩
theorem LstAt.of {p:Addr}{a:Dat}(r:aT h vol (.ref p) (.list ds)):∃vs,LstAt h p vs/\aH h vol vs ds:=by refine cL (bI r) fun l o vs k e ho hc y0=>?_;refine bg y0 fun hn hd hr=>?_;refine ZU fun hG=>?_;rcases e with⟨⟩;refine hG ?_;exact⟨vs,⟨o,k,ho,hc,hn,hd⟩,hr⟩
set_option tactic.hygienic true in
theorem aH.eraseIdx (r:aH h vol vs ds):∀k,aH h vol (vs.eraseIdx k) (ds.eraseIdx k):=r.ind (Q:=fun vs ds=>∀k,aH h vol (vs.eraseIdx k) (ds.eraseIdx k)) (fun x=>.nil) fun r rs ih k=>by
  rcases k with⟨⟩;case zero=>exact rs
  case succ k=>exact .cons r (ih k)
theorem kP {m:Str}{id:String}{p:Addr}{ds:List Dat}(slot:PySem.Slot "list" m id)(ty:typeOf (.builtin id)=pure (.type "method_descriptor"))(r:aT s.heap vol (.ref p) (.list ds)){pl:Sem Bool}:Wp C A (getMethod (.ref p) m pl) (fun r x=>r=(.builtin id,[.ref p])) s:=by refine cL (bI r) fun l o vs k e ho hc y0=>?_;refine bg y0 fun hn hd hr=>?_;refine ZU fun hG=>?_;rcases e with⟨⟩;refine hG ?_;exact fun E Q q=>ai (getMethod_builtin ⟨o,ho,hc⟩ PySem.F.plainAttrs_list slot ty (fun a e=>by rcases e with⟨⟩;exact⟨o,ho,hn⟩) (q _ _ (.refl s) rfl))
theorem gG {p:Addr}(hp:vol p)(hs:Heap.SameBut p s.heap h')(r:aH s.heap vol vs ds):aH h' vol vs ds:=r.mono fun b ob e nn=>⟨(hs.2 b fun q=>nn (q▸hp)).trans e,nn⟩
theorem aT.xv {p:Addr}(l:LstAt h p vs)(r:aH h vol vs ds):aT h vol (.ref p) (.list ds):=let⟨o,n,ho,hc,hn,hd⟩:=l;.list ho hc hn hd r
def Ng (C:Cx)(n:Nat)(vol:Addr->Prop)(id:String)(a a':Dat)(ds:List Dat)(p:Addr):Prop:=∀{A s vs}{E:Value->Shared->Prop}{Q:Value->Shared->Prop},cV C n A->Bs C s->aW C vol s->vol p->aT s.heap vol (.ref p) a->aH s.heap vol vs ds->(∀s1 h' t,Ex C s s1->Heap.SameBut p s1.heap h'->aT h' vol (.ref p) a'->Q .none {s1 with heap:=h',toks:=t})->aK (model C.prog C.w) A (PySem.call (.builtin id) (.ref p::vs)) Q E s
set_option tactic.hygienic true in
theorem vi {x:Dat}(r:aH h vol vs [x]):∃v,vs=[v]/\Rep h vol v x:=by(rcases r with⟨⟩;(case cons r rs=>rcases rs with⟨⟩;exact⟨_,rfl,r⟩))
theorem An {p:Addr}(hc:ds.length+1<=aM):Ng C n vol "list.append" (.list ds) (.list (ds++[d])) [d] p:=fun{A s vs E Q}hA bs V hp r rs hQ=>by refine ax (vi rs) ?_;rintro v (rfl) rd;refine ax (LstAt.of (a:=d) r) fun vs l hr=>?_;exact oC l (by refine xR hr.length ?_;exact hc) fun h' l' hs=>hQ s h' s.toks (.refl s) hs (.xv l' ((gG hp hs hr).append (gG hp hs (.cons rd .nil))))
theorem Am {p:Addr}(hc:ds.length+es.length<=aM):Ng C n vol "list.extend" (.list ds) (.list (ds++es)) [.tuple es] p:=fun{A s vs E Q}hA bs V hp r rs hQ=>by
 refine ax (vi rs) ?_;rintro v (rfl) rd;refine cL (bI r) fun l y0 vs k e ho jm y1=>?_;refine bg y1 fun hn hd hr=>?_;obtain⟨c1,d1,FX,rY⟩:=y0;rcases e with⟨⟩;refine cL rd.tuple' ?_;rintro b y0 us k2 (rfl) _ WJ y1;refine bg y1 fun TC Xj UU=>?_;obtain⟨c2,d2,QE,rX⟩:=y0;obtain rfl:c1=_:=jm;obtain rfl:FX=_:=hd;obtain rfl:c2=_:=TC;obtain rfl:QE=_:=Xj;have hl:=hr.length;have Ik:=UU.length;have Fc:2000000<=sizeLine:=by decide
 have h1:vs.toArray.size+us.toArray.size<=1000000:=by refine xR ZT (xR ZT (xR hl (xR Ik ?_)));exact hc
 refine ai (call_meets PySem.F.slot_list_extend ⟨_,ho,rfl⟩ PySem.F.entry_list_extend (PySem.F.args_list_extend_2 _ _) (vJ p vs.toArray k d1 rY b us.toArray k2 d2 rX ?_ (aX 0x11000f42408f21b10001e84808f13 rfl Fc h1) (aX 0x90b21b1000f42408f21b10001e84808f13 rfl Fc h1)) ⟨ho,WJ,?_⟩)
 ·have:Builtin.List.listTooLong (vs.toArray.size+us.toArray.size)=false:=by unfold Builtin.List.listTooLong;exact decide_eq_false (aX 0x21b003000f42408f21b10001e84808f13 rfl Fc h1)
  simp only[this,Bool.and_false];exact ZZ
 ·have sb:Heap.SameBut p s.heap (s.heap.update p (Obj.mapSeq fun x=>x++us.toArray)):=Heap.SameBut.update ..;refine aJ (Obj.data_mapSeq (o:=⟨.type "list",d1,.seq vs.toArray k,rY⟩) rfl (fun x=>x++us.toArray)) fun m hm=>?_;exact hQ s _ s.toks (.refl s) sb (.xv (vs:=vs++us) ⟨_,m,Heap.get?_update_self _ ho rfl,rfl,hn,by rw[hm,List.append_toArray]⟩ ((gG hp sb hr).append (gG hp sb UU)))
theorem CR {l:List Value}{j:Nat}(h:j<l.length):l.toArray.eraseIdxIfInBounds j=(l.eraseIdx j).toArray:=by simp[Array.eraseIdxIfInBounds,h]
theorem Al {jy:List Dat}{d:Dat}{p:Addr}(hc:ds.length<=aM)(hr:xd d ds=some jy):Ng C n vol "list.remove" (.list ds) (.list jy) [d] p:=fun{A s vs E Q}hA bs V hp r rs hQ=>by refine eD (zi hr) ?_;rintro j hj (rfl) Ml;refine ax (vi rs) ?_;rintro v (rfl) rd;refine cL (bI r) fun l y0 vs k e ho jm y1=>?_;refine bg y1 fun hn hd hr=>?_;obtain⟨c1,d1,FX,rY⟩:=y0;refine ZU fun hG=>?_;rcases e with⟨⟩;obtain rfl:c1=_:=jm;obtain rfl:FX=_:=hd;have hl:=hr.length;refine hG ?_;refine ai (call_meets PySem.F.slot_list_remove ⟨_,ho,rfl⟩ PySem.F.entry_list_remove (PySem.F.args_list_remove_2 _ _) (uV (vol:=vol) p vs.toArray k d1 rY _ d ds j (by refine xR ZT (xR hl ?_);exact bx hc) Ml) ⟨ho,by have:=hA.units;exact aX 0x250a0b02000003e88f10ad0bb02 rfl this,hr,rd,?_⟩);have sb:Heap.SameBut p s.heap (s.heap.update p (Obj.mapSeq fun xs=>xs.eraseIdxIfInBounds j)):=Heap.SameBut.update ..;refine aJ (Obj.data_mapSeq (o:=⟨.type "list",d1,.seq vs.toArray k,rY⟩) rfl (fun xs=>xs.eraseIdxIfInBounds j)) fun m hm=>?_;exact hQ s _ s.toks (.refl s) sb (.xv (vs:=vs.eraseIdx j) ⟨_,m,Heap.get?_update_self _ ho rfl,rfl,hn,by exact xR hm (xR (CR (by rw[hl];exact hj)) rfl)⟩ ((gG hp sb hr).eraseIdx j))
set_option tactic.hygienic true in
theorem Ge {a a':Dat} {p:Addr} (h:qK m a ds=some a') (r0:aT s.heap vol (.ref p) a):∃id,(∀{A pl},Wp C A (getMethod (.ref p) m pl) (fun r x=>r=(.builtin id,[.ref p])) s)∧
  ∀{A s vs} {E:Value→Shared→Prop} {Q:Value→Shared→Prop},cV C n A→Bs C s→aW C vol s→vol p→aT s.heap vol (.ref p) a→aH s.heap vol vs ds→
   (∀s1 h' t,Ex C s s1→Heap.SameBut p s1.heap h'→aT h' vol (.ref p) a'→Q .none {s1 with heap:=h',toks:=t})→aK (model C.prog C.w) A (PySem.call (.builtin id) (.ref p::vs)) Q E s:=by
 revert a h r0
 refine no_implicit_lambda% (Nj (b8 (b8 (b8 zv GS) (b8 sA inferInstance)) inferInstance) ?_ C a' s p vol n m ds)
 generalize jF _ _=tt
 dsimp only [K8]
 generalize tt.1.1.1=C,tt.1.1.2=a',tt.1.2.1=s,tt.1.2.2=p,tt.2.1.1=vol,tt.2.1.2=n,tt.2.2.1=m,tt.2.2.2=ds
 intro a h r0
 rcases a with ⟨⟩
 case list l=>match ds,h with
  |[d],h=>
   have h':(if m="append" then (if l.length + 1≤aM then some (.list (l++[d])) else none)
  else if m="extend" then (match d with| .tuple es=>if l.length + es.length≤aM then some (.list (l++es)) else none|_=>none)
  else if m="remove" then (if l.length≤aM then (xd d l).map .list else none)
  else none)=some a':=h
   clear h
   split at h'
   ·rename_i hm
    subst hm
    exact aI h' fun hc h=>⟨"list.append",kP slot_list_append PySem.F.type_list_append r0,Z9 h▸An hc⟩
   ·split at h'
    ·rename_i hm
     subst hm
     rcases d with ⟨⟩
     case tuple es=>exact aI h' fun hc h=>⟨"list.extend",kP PySem.F.slot_list_extend PySem.F.type_list_extend r0,Z9 h▸Am hc⟩
     all_goals (exact aa h')
    ·refine aI h' fun hm h'=>aI h' fun hc h'=>aZ h' fun es hr hq=> ?_
     subst hm
     exact ⟨"list.remove",kP PySem.F.slot_list_remove PySem.F.type_list_remove r0,hq▸Al hc hr⟩
 all_goals (exact aa h)
end
section
open Sem (wp)
theorem d7 {id:String}{args:Args}{b:Builtin}{R:Result->Shared->Prop}(hb:entryFor table id=some b)(eN:lT (.builtin id args)=true)(h:aK (model prog w) (A.under (.builtin id args)) (b args) (fun fin s'=>match fin with| .done f=>R (.ok f) s'| .again c'=>c'.quiet=true/\cb (model prog w) A c' R s') (fun e s'=>R (.error e) s') s):cb (model prog w) A (.builtin id args) R s:=by
 refine aS ?_ eN;have Tu:(model prog w).den (.builtin id args)=b args:=by show(match entryFor table id with|some b=>b args|none=>unsupported ((withoutEnding? id "#data").getD id))=_;rw[hb]
 rw[Tu];exact h
set_option tactic.hygienic true in
theorem qd {Q₁:Value->Shared->Prop}(ft:TypeCalled T newId zQ)(Vi:T≠"type")(Tz:checkTypeCall T ⟨args,[]⟩=pure ())(sJ:cb (model prog w) A.in1 (.call (.builtin newId) ⟨.type T::args,[]⟩) (wants Q₁ E) s)(jx:∀obj aB,Q₁ obj aB->aB.TypeIs obj T/\cb (model prog w) A.in1 (.call (.builtin zQ) ⟨obj::args,[]⟩) (wants (fun r bM=>r=.none/\Q obj bM) E) aB):aK (model prog w) A (call (.type T) args) Q E s:=by
 revert Q₁ ft Vi Tz sJ jx;refine no_implicit_lambda% (si (b8 (b8 (b8 (b8 HL vm) sA) inferInstance) inferInstance) ?_ w A s args T prog E newId Q zQ);generalize jF _ _=tt;dsimp only[DB];generalize tt.1.1.1.1=w,tt.1.1.1.2=A,tt.1.1.2=s,tt.1.2.1=args,tt.1.2.2=T,tt.2.1.1.1=prog,tt.2.1.1.2=E,tt.2.1.2=newId,tt.2.2.1=Q,tt.2.2.2=zQ;intro Q₁ ft Vi Tz sJ jx;refine jK ft.mro fun c tl SW=>?_;have PW:=ft.made;have vB:=ft.sub;refine gC (aS ?_ rfl);show aK _ _ (callAny (.type T) _) _ _ _;refine ah ⟨Code.quiet_builtin _ (by decide +kernel),d7 F.entry_type_call rfl ?_⟩;rw[Around.under_plain (weight_type_call_type T args []) rfl];have h1:=ft.notType;have h2:=ft.canCreate;unfold Builtin.«type.__call__»;simp only[h1,ZG,if_false,h2,Tz,SW,List.isEmpty_cons,PW,pure_bind];refine ab (ar (gC (l8 sJ fun r aB hr=>?_)));rcases r with⟨⟩;case error e=>exact hr
 case ok fl=>
  rcases fl with⟨⟩;case ret obj=>
   refine aL (jx _ _ hr) fun hT Mk=>?_;refine ab (ai (wpAny_isInstance hT vB ?_));refine ab (ar ?_);refine ab (ai (wpAny_specialOf hT ft.init.lookup ?_));simp only[ft.init.bind];refine ar (ab (ah (ab (gC (l8 Mk fun R1 bM A8=>?_)))));rcases R1 with⟨⟩;case error e=>exact A8
   case ok Qx=>
    rcases Qx with⟨⟩;case ret r=>refine aL A8 ?_;clear A8;rintro(rfl) hq;refine ah ?_;exact ah hq
    all_goals (exact A8.elim)
  all_goals (exact hr.elim)
set_option tactic.hygienic true in
theorem Aa {Q:Bool->Shared->Prop}(h:Q false s):aK M A (Builtin.Bytes.exported self) Q E s:=fun Γ p iW hc=>by
 unfold Builtin.Bytes.exported;rw[Sem.wp_bind'];unfold stack;rw[Sem.wp_stack];show wp M Γ (pure _) _ _ _ _;rw[Sem.wp_pure'];show Sem.wp M Γ (pure _) _ _ _ _;rw[Sem.wp_pure'];refine(congrArg (Q · s) (List.any_eq_false.mpr fun x hx=>?_)).mpr h;have eN:lT x.1=true:=by
  refine Z4 (Zy hx) (fun q=>?_) fun q=>?_
  ·rw[q];exact hc.1.1
  ·exact hc.1.2.1 x q
 obtain⟨c,pp⟩:=x;rcases c with⟨⟩;case builtin id args=>
  have hn:∀y,holders.contains y=true->id≠y:=fun y hy e=>by have h2:(!holders.contains id)=true:=eN;rw[e,hy]at h2;rcases h2 with⟨⟩
  obtain⟨pos,kw⟩:=args;refine Bool.eq_false_iff.mp ?_;delta Builtin.Bytes.exported.match_1;show(dite (id="bytearray.__contains__") _ _:Bool)=false;rw[dif_neg (hn "bytearray.__contains__" (by decide +kernel)),dif_neg (hn "bytearray.__mod__" (by decide +kernel)),dif_neg (hn "bytearray.__rmod__" (by decide +kernel)),dif_neg (hn "_struct.pack_into.held" (by decide +kernel)),dif_neg (hn "bytearray.find.held" (by decide +kernel))];rcases pos with⟨⟩;case nil=>rfl
  case cons v tl=>have h3:Builtin.Bytes.decodersThatHold.contains id=false:=Bool.eq_false_iff.mpr fun e=>hn id (List.contains_iff_mem.mpr (List.mem_append_left _ (List.contains_iff_mem.mp e))) rfl;exact(congrArg (Builtin.Bytes.sameRef v self&&·) h3).trans (Bool.and_false _)
 all_goals (exact ZZ)
theorem qE:("bytearray.__new__".splitOn ".__new__").headD ""="bytearray":=by
 set_option maxRecDepth 1000000 in
 set_option maxHeartbeats 4000000 in
 simp +decide [String.splitOn,String.splitOnAux]
theorem xD:mroOf (.type "bytearray")=pure [.type "bytearray",.type "object"]:=by rw[mroOf_type];kernel_rfl
theorem pC:typeLookup (.type "bytearray") "__new__"=pure (some (.builtin "bytearray.__new__")):=by rw[ZC,ZM];kernel_rfl
theorem jU:PySem.Slot "bytearray" "__init__" "bytearray.__init__":=.of (owner:="bytearray") (n:="__init__") (by rw[ZC,ZM];kernel_rfl) (by decide +kernel) (by decide +kernel) (by decide +kernel) (by first|exact .inl (by decide +kernel)|exact .inr (by decide +kernel)) (by rw[isSubtype_type];kernel_rfl)
theorem yu:TypeCalled "bytearray" "bytearray.__new__" "bytearray.__init__":=⟨by decide +kernel,by decide +kernel,⟨_,_,xD⟩,madeBy_type xD pC (by decide +kernel),by decide +kernel,by rw[isSubtype_type];kernel_rfl,jU⟩
theorem px (a:Value):checkTypeCall "bytearray" ⟨[a],[]⟩=pure ():=by kernel_rfl
theorem qJ (a:Value):checkBuiltinCall "bytearray.__new__" ⟨[.type "bytearray",a],[]⟩=pure ():=by kernel_rfl
theorem rz:entryFor table "bytearray.__new__"=some Builtin.«list.__new__»:=entryFor_alias (id':="list.__new__") (by rw[fastTable_eq_tree];kernel_rfl) (by decide +kernel) (by decide +kernel) (by rw[fastTable_eq_tree];kernel_rfl)
theorem j0:plainId "bytearray.__new__"=true:=by decide +kernel
theorem pH:entryFor table "bytearray.__init__"=some Builtin.«bytearray.__init__»:=entryFor_of_tree (by kernel_rfl)
theorem ip:isSubtype (.type "bytearray") (.type "bytearray")=pure true:=by rw[isSubtype_type];kernel_rfl
theorem rS (a b:Value):argsOk "bytearray.__init__" ⟨[a,b],[]⟩:=by unfold argsOk;rw[signature?_of (id:="bytearray.__init__") (n:=['_','_','t','i','n','i','_','_']) (o:=['y','a','r','r','a','e','t','y','b']) (by kernel_rfl) jk];kernel_rfl
theorem sR (a:Value){Q₁:Value->Shared->Prop}(h:Q₁ (.ref s.heap.objs.size) {s with heap:=s.heap.push {cls:=.type "bytearray",data:=.bytearray #[]}}):codeAny (model prog w) A (.call (.builtin "bytearray.__new__") ⟨[.type "bytearray",a],[]⟩) (wants Q₁ E) s:=by
 refine codeAny_of_tree ?_
 show wpAny _ A.in1 (do checkBuiltinCall "bytearray.__new__" ⟨[.type "bytearray",a],[]⟩;again (.builtin "bytearray.__new__" ⟨[.type "bytearray",a],[]⟩)) _ _ s
 refine Z8 (wpAny_of_eq (qJ a) (Z0 ⟨plainId_quiet j0 _,codeAny_builtin_stack rz rfl fun p st=>?_⟩))
 rw[ZL j0 _]
 have vB:=ip
 have SN:=qE
 obtain⟨hp,g,d,tk,os⟩:=s
 simp only[SN]
 wp_walk
 exact h
theorem l9 {T:String}{name:Str}{id:String}{self:Value}{rest:List Value}{b:Builtin}{R:Result->Shared->Prop}(slot:PySem.Slot T name id)(hT:s.TypeIs self T)(hb:entryFor table id=some b)(ha:argsOk id ⟨self::rest,[]⟩)(eN:lT (.builtin id ⟨self::rest,[]⟩)=true)(h:aK (model prog w) A.in1 (b ⟨self::rest,[]⟩) (fun fin s'=>match fin with| .done f=>R (.ok f) s'| .again c'=>c'.quiet=true/\cb (model prog w) A c' R s') (fun e s'=>R (.error e) s') s):cb (model prog w) A (.call (.builtin id) ⟨self::rest,[]⟩) R s:=by refine aS ?_ rfl;show aK _ A.in1 (checkBuiltinCall id ⟨self::rest,[]⟩>>=fun x=>again (.builtin id ⟨self::rest,[]⟩)) _ _ s;refine ab (ai (slot.check _ _ _ _ _ _ _ _ hT ha (ah ⟨plainId_quiet slot.plain _,d7 hb eN ?_⟩)));rw[ZL slot.plain _];exact h
theorem kY:typeLookup (.type "bytearray") "__release_buffer__"=pure (some (.builtin "bytearray.__release_buffer__")):=by rw[ZC,ZM];kernel_rfl
theorem fX {Q:Bool->Shared->Prop}(hT:s.TypeIs (.ref a) "bytearray")(h:Q false s):wpAny (model prog w) A (Builtin.Bytes.ownRelease (.ref a)) Q E s:=by
 unfold Builtin.Bytes.ownRelease Builtin.Bytes.slotIsOwn;refine Z8 (Z8 (wpAny_specialOf hT kY ?_))
 ·have e1:("bytearray.__release_buffer__".endsWith ("."++"__release_buffer__"))=true:=by decide +kernel
  have e2:("bytearray.__release_buffer__".dropRight ("__release_buffer__".length+1))="bytearray":=by decide +kernel
  simp only[e1,e2];exact wpAny_isInstance hT ip (Z0 h)
theorem i8 {Q:Unit->Shared->Prop}(ho:s.heap.get? a=some {cls:=.type "bytearray",dict:=dd,data:=.bytearray b k,slots:=sl})(hz:(f b).size<=sizeLine) (hQ:∀h' k',Heap.SameBut a s.heap h'->h'.get? a=some {cls:=.type "bytearray",dict:=dd,data:=.bytearray (f b) k',slots:=sl}->Q () {s with heap:=h'}):wpAny (model prog w) A (Builtin.Bytes.write (.ref a) f) Q E s:=wA ho rfl hz (hQ _ _ (Heap.SameBut.update ..) (Heap.get?_update_self _ ho rfl))
theorem yz {id:String}{b:Array UInt8}{t:Tok}:Builtin.Bytes.buffer? id (.bytes b t) true=pure (some b):=by unfold Builtin.Bytes.buffer?;rw[KBy.special_eq KBy.look_buffer,KBy.own_buffer,KBy.own_release];kernel_rfl
theorem t6 {Q:Bool->Shared->Prop}(ho:s.heap.get? a=some {cls:=.type "bytearray",dict:=dd,data:=.bytearray b 0,slots:=sl})(h:Q false s):aK (model prog w) A (Builtin.Bytes.exported (.ref a) <||> do return(<-Builtin.Bytes.exportsOf (.ref a))>0) Q E s:=by
 unfold orM
 refine ab (Aa ?_)
 show aK _ _ (Builtin.Bytes.exportsOf (.ref a)>>=fun k=>pure (decide (k>0))) Q E s
 refine ab (ai ?_)
 unfold Builtin.Bytes.exportsOf
 exact Z8 (wpAny_load ho (Z0 (ah h)))
theorem sX (a:Addr)(n:Int)(t:Tok)(ho:s.heap.get? a=some {cls:=.type "bytearray",dict:=dd,data:=.bytearray #[] 0,slots:=sl}) (h0:0<=n) (h1:n<=(aM:Int)) {Q:PySem.Fin->Shared->Prop} (hQ:∀h' k',Heap.SameBut a s.heap h'->h'.get? a=some {cls:=.type "bytearray",dict:=dd,data:=.bytearray (Array.replicate n.toNat 0) k',slots:=sl}->Q (.done (.ret .none)) {s with heap:=h'}):aK (model prog w) A (Builtin.«bytearray.__init__» ⟨[.ref a,.int n t],[]⟩) Q E s:=by
 revert sl ho h0 h1 hQ
 refine no_implicit_lambda% (si (b8 (b8 (b8 (b8 vm HL) sA) inferInstance) inferInstance) ?_ A w s n a prog t E Q dd)
 generalize jF _ _=tt
 dsimp only[DB]
 generalize tt.1.1.1.1=A,tt.1.1.1.2=w,tt.1.1.2=s,tt.1.2.1=n,tt.1.2.2=a,tt.2.1.1.1=prog,tt.2.1.1.2=t,tt.2.1.2=E,tt.2.2.1=Q,tt.2.2.2=dd
 intro sl ho h0 h1 hQ
 have hT:s.TypeIs (.ref a) "bytearray":=⟨_,ho,rfl⟩
 unfold Builtin.«bytearray.__init__»
 refine ab (ai (fX hT ?_))
 refine ab (bO (a:=[some (.int n t),none,none]) (by rfl) ?_)
 refine ab (bO (a:=()) (by rfl) ?_)
 refine ab (bO (a:=()) (by rfl) ?_)
 refine ab (t6 ho ?_)
 refine ab (ai (i8 ho (by decide) fun G1 k1 hs1 GZ=>?_))
 refine ab (bO (a:=none) (by rfl) ?_)
 refine ab (ah ?_)
 refine ab (ai (wpAny_specialOf (typeIs_int _ n t) PySem.F.slot_int_index.lookup ?_))
 refine ab (gU (bO (a:=n) (by rfl) ?_))
 have c1:Builtin.Bytes.fitsIndex n=true:=by unfold aM at h1;simp only[Builtin.Bytes.fitsIndex,ZR,decide_eq_true_eq];lia
 have c2:¬n<0:=ni 0x80f730f882 rfl h0
 have c3:(n==2^63-1)=false:=by unfold aM at h1;rw[ZJ];lia
 have c4:Builtin.Bytes.tooLong n.toNat=false:=by have:=bx (k:=n.toNat) (by unfold aM at h1 ⊢;exact ni 0xf42408f0fbf1000f42408faf0f82 rfl h1);unfold Builtin.Bytes.tooLong;simp;exact Jt 0xaf0f800fbf12 rfl this
 simp only[c1,c2,c3,c4,Bool.not_true,ZG,if_false]
 refine ab (gA ?_)
 by_cases hn:n>0
 ·rw[Z1 hn];refine ab (ai (i8 GZ ?_ fun h2 k2 GY lV=>?_))
  ·have hh:n.toNat<=aM:=by unfold aM at h1 ⊢;exact ni 0xf42408f0fbf1000f42408faf0f82 rfl h1
   rw[Array.size_replicate];exact bx hh
  ·exact ah (hQ h2 k2 (hs1.trans GY) lV)
 ·rw[ZX hn];have e:n=0:=ni 0x80f90f87380f733 rfl c2 hn;subst e;exact ah (hQ G1 k1 hs1 GZ)
theorem pM (a:Addr)(b:Array UInt8)(t:Tok){dd:Option Addr}{sl:Array (Option Value)}(ho:s.heap.get? a=some {cls:=.type "bytearray",dict:=dd,data:=.bytearray #[] 0,slots:=sl}) (h1:b.size<=aM) {Q:PySem.Fin->Shared->Prop} (hQ:∀h' k',Heap.SameBut a s.heap h'->h'.get? a=some {cls:=.type "bytearray",dict:=dd,data:=.bytearray b k',slots:=sl}->Q (.done (.ret .none)) {s with heap:=h'}):aK (model prog w) A (Builtin.«bytearray.__init__» ⟨[.ref a,.bytes b t],[]⟩) Q E s:=by
 revert sl ho h1 hQ
 refine no_implicit_lambda% (si (b8 (b8 (b8 (b8 vm HL) sA) inferInstance) inferInstance) ?_ A w s a b prog t E Q dd)
 generalize jF _ _=tt
 dsimp only[DB]
 generalize tt.1.1.1.1=A,tt.1.1.1.2=w,tt.1.1.2=s,tt.1.2.1=a,tt.1.2.2=b,tt.2.1.1.1=prog,tt.2.1.1.2=t,tt.2.1.2=E,tt.2.2.1=Q,tt.2.2.2=dd
 intro sl ho h1 hQ
 have hT:s.TypeIs (.ref a) "bytearray":=⟨_,ho,rfl⟩
 unfold Builtin.«bytearray.__init__»
 refine ab (ai (fX hT ?_))
 refine ab (bO (a:=[some (.bytes b t),none,none]) (by rfl) ?_)
 refine ab (bO (a:=()) (by rfl) ?_)
 refine ab (bO (a:=()) (by rfl) ?_)
 refine ab (t6 ho ?_)
 refine ab (ai (i8 ho (by decide) fun G1 k1 hs1 GZ=>?_))
 refine ab (bO (a:=none) (by rfl) ?_)
 refine ab (ah ?_)
 have lk:typeLookup (.type "bytes") "__index__"=pure none:=by rw[ZC,ZM];kernel_rfl
 refine ab (ai (wpAny_specialOf (typeIs_bytes _ b t) lk ?_))
 refine ab (bO (yz) ?_)
 refine ab (gA ?_)
 refine ab (ai (i8 GZ (bx h1) fun h2 k2 GY lV=>?_))
 exact ah (hQ h2 k2 (hs1.trans GY) lV)
theorem uk {src:Value}{b:Array UInt8}{Q:Value->Shared->Prop}(Mk:∀{s:Shared}{a:Addr}{dd:Option Addr}{sl:Array (Option Value)}{A:Around}{E:Value->Shared->Prop}{Q:PySem.Fin->Shared->Prop},s.heap.get? a=some {cls:=.type "bytearray",dict:=dd,data:=.bytearray #[] 0,slots:=sl}->(∀h' k',Heap.SameBut a s.heap h'->h'.get? a=some {cls:=.type "bytearray",dict:=dd,data:=.bytearray b k',slots:=sl}->Q (.done (.ret .none)) {s with heap:=h'})->aK (model prog w) A (Builtin.«bytearray.__init__» ⟨[.ref a,src],[]⟩) Q E s) (hQ:∀h' k',(∀c o,s.heap.get? c=some o->h'.get? c=some o)->h'.get? s.heap.objs.size=some {cls:=.type "bytearray",data:=.bytearray b k'}->Q (.ref s.heap.objs.size) {s with heap:=h'}):aK (model prog w) A (call (.type "bytearray") [src]) Q E s:=by
 refine qd (Q₁:=fun obj aB=>obj=.ref s.heap.objs.size/\aB={s with heap:=s.heap.push {cls:=.type "bytearray",data:=.bytearray #[]}}) yu (by decide) (px _) (Ga (sR _ ⟨rfl,rfl⟩)) fun obj aB bh=>?_
 refine aL bh ?_;clear bh;rintro(rfl) (rfl)
 have hS:(s.heap.push {cls:=.type "bytearray",data:=.bytearray #[]}).get? s.heap.objs.size=some {cls:=.type "bytearray",data:=.bytearray #[]}:=ZO _ rfl
 have hT:({s with heap:=s.heap.push {cls:=.type "bytearray",data:=.bytearray #[]}}:Shared).TypeIs (.ref s.heap.objs.size) "bytearray":=⟨_,hS,rfl⟩
 refine⟨hT,l9 jU hT pH (rS _ _) rfl (Mk hS fun h' k' hs ho=>⟨rfl,?_⟩)⟩
 refine hQ h' k' (fun c o e=>?_) ho
 have hc:c≠s.heap.objs.size:=fun q=>by subst q;rw[aE]at e;exact aa e
 exact(hs.2 c hc).trans (Z3 _ e)
end
structure Cx.Plain (C:Cx):Prop where
 ok:C.Ok
 none:∀x∈([("list":Str),"bytearray","len","sum","str","ord","chr","bytes","range","isinstance","sorted","zip","int","filter","ValueError","IndexError"]:List Str),C.mg x=none
theorem Cx.Plain.b (hC:C.Plain)(h:bootBuiltins x=some v)(hx:x≠"__name__":=by decide):C.mb x=some v:=(hC.ok.builtins x hx).trans h
theorem aH.of_get:∀{ds:List Dat},vs.length=ds.length->(∀(j:Nat)(v:Value)(d:Dat),vs[j]?=some v->ds[j]?=some d->Rep h vol v d)->aH h vol vs ds:=by
 induction vs with
 |nil=>exact fun{ds}e x=>by cases ds with
  |nil=>exact .nil|cons=>exact nomatch e
 |cons v vs ih=>exact fun{ds}e k=>by cases ds with
  |nil=>exact nomatch e|cons d ds=>exact .cons (k 0 v d rfl rfl) (ih (Nat.succ.inj e) fun j v' d' h1 h2=>k (j+1) v' d' h1 h2)
def Dl (C:Cx)(n:Nat)(v:Value)(ds:List Dat)(d:Dat):Prop:=∀A s vol vs(E:Value->Shared->Prop)(Q:Value->Shared->Prop),cV C n A->Bs C s->aW C vol s->gP s.heap vol vs ds->(∀a s1,Ex C s s1->s.heap.get? a=none->s.heap.objs.size<=a->aT s1.heap (fun b=>vol b\/b=a) (.ref a) d->Q (.ref a) s1)->aK (model C.prog C.w) A (PySem.call v vs) Q E s
set_option tactic.hygienic true in
theorem HF {x:Dat}(r:gP h vol vs [x]):∃v,vs=[v]/\aT h vol v x:=by(rcases r with⟨⟩;(case cons r rs=>rcases rs with⟨⟩;exact⟨_,rfl,r⟩))
theorem newList (V:aW C vol s)(rs:aH s.heap vol vs es)(hk:∀b o,s.heap.get? b=some o->h'.get? b=some o)(ho:h'.get? s.heap.objs.size=some {cls:=.type "list",data:=.seq vs.toArray k}):aT h' (fun b=>vol b\/b=s.heap.objs.size) (.ref s.heap.objs.size) (.list es):=.list ho rfl rfl rfl (rs.mono fun b o e nn=>⟨hk b o e,fun q=>q.elim nn fun q=>by rw[q,aE]at e;exact aa e⟩)
theorem oW {x:Dat}(hT:T="list"\/T="tuple")(hl:es.length<=aM)(hx:∀{h:Heap}{vol:Addr->Prop}{v:Value},aT h vol v x->∃a o vs k,v=.ref a/\h.get? a=some o/\o.cls=.type T/\o.data=.seq vs.toArray k/\aH h vol vs es):Dl C n (.type "list") [x] (.list es):=fun A s vol vs E Q hA bs V rs hQ=>by refine ax (HF rs) ?_;rintro v (rfl) r;refine cL (hx r) ?_;rintro a o us k (rfl) ho hc y0;refine aL y0 fun hd hr=>?_;exact ai (call_list_seq (hsz:=by rw[ZT,hr.length];exact bx hl) a hT ho hc hd fun h' c' hk hD=>hQ _ {s with heap:=h'} (.of_keep hk rfl rfl) (aE _) (ZQ _) (newList V hr hk hD))
theorem sD {a b c:Int}(h:bb (.range a b c)=some es)(hl:es.length<=aM):Dl C n (.type "list") [.range a b c] (.list es):=fun A s vol vs E Q hA bs V rs hQ=>by
 refine ax (HF rs) ?_;rintro v (rfl) r;refine aI h fun JR he=>?_;obtain rfl:=Z9 he;refine jI ((r.flat nofun nofun).range') ?_;rintro l t u w (rfl) _ hr;simp only[ZR,bne_iff_ne]at JR;have hlen:cC a b c<=aM:=by unfold jj at hl;simpa using hl
 refine ai (call_list_range hA.handled hr (jZ JR.1.1.1 JR.1.1.2 JR.1.2 JR.2) (n:=cC a b c) (by unfold cC;rw[Int.toNat_of_nonneg (df a b c)]) (by unfold aM at hlen;lia) fun h' tk acc k hk ho hit=>hQ _ {s with heap:=h',toks:=tk} (.of_keep hk rfl rfl) (aE _) (ZQ _) (newList (vs:=acc.toList) V ?_ hk ho));clear hQ;unfold jj;refine aL hit fun i1 i2=>?_;refine aH.of_get (by simp[i1]) fun j v d hv hd=>?_;have GW:acc[j]?=some v:=by simpa using hv
 refine aJ (i2 j v GW) ?_;rintro t' (rfl);have hj:j<cC a b c:=by have:=(Array.getElem?_eq_some_iff.mp GW).1;exact aX 0x1200201023 rfl i1 this
 simp[hj]at hd;subst hd;rw[show(j:Int)*c=c*(j:Int)from Int.mul_comm _ _];exact .int _ _
theorem yE (hm:0<=m/\m<=(aM:Int)):Dl C n (.type "bytearray") [.int m] (.ba (List.replicate m.toNat 0)):=fun A s vol vs E Q hA bs V rs hQ=>by refine ax (HF rs) ?_;rintro v (rfl) r;refine aJ ((r.flat nofun nofun).eS) ?_;rintro t (rfl);refine uk (fun ho hq=>sX _ m _ ho hm.1 hm.2 hq) fun h' k' hk ho=>hQ _ {s with heap:=h'} (.of_keep hk rfl rfl) (aE _) (ZQ _) ?_;rw[<-List.toArray_replicate]at ho;exact .ba ho rfl rfl
theorem sY (hm:b.length<=aM):Dl C n (.type "bytearray") [.bytes b] (.ba b):=fun A s vol vs E Q hA bs V rs hQ=>by refine ax (HF rs) ?_;rintro v (rfl) r;refine aJ ((r.flat nofun nofun).f7) ?_;rintro t (rfl);exact uk (fun ho hq=>pM _ b.toArray _ ho (by rw[ZT];exact hm) hq) fun h' k' hk ho=>hQ _ {s with heap:=h'} (.of_keep hk rfl rfl) (aE _) (ZQ _) (.ba ho rfl rfl)
set_option tactic.hygienic true in
theorem xy (hC:C.Plain)(h:newD f ds=some d):∃v,C.mg f=none/\C.mb f=some v/\(f==("__debug__":Str))=false/\(∀a,v≠.ref a)/\∀{A s vol vs}{E:Value->Shared->Prop}{Q:Value->Shared->Prop},cV C n A->Bs C s->aW C vol s->gP s.heap vol vs ds->(∀a s1,Ex C s s1->s.heap.get? a=none->s.heap.objs.size<=a->aT s1.heap (fun b=>vol b\/b=a) (.ref a) d->Q (.ref a) s1)->aK (model C.prog C.w) A (PySem.call v vs) Q E s:=by
 match ds,h with
 |[a],h=>
  have h':(if f="list" then(match a with
   | .list _| .tuple _| .range _ _ _=>(match bb a with|some es=>if es.length<=aM then some (.list es)else none|none=>none)
   |_=>none)
  else if f="bytearray" then(match a with
   | .int n=>if 0<=n/\n<=(aM:Int)then some (.ba (List.replicate n.toNat 0))else none| .bytes b=>if b.length<=aM then some (.ba b)else none|_=>none)
  else none)=some d:=h;clear h;split at h'
  ·rename_i hf;subst hf;suffices z:Dl C n (.type "list") [a] d from⟨.type "list",hC.none _ (by decide),hC.b (by kernel_rfl),by decide,nofun,fun{A s vol vs E Q}=>z A s vol vs E Q⟩;rcases a with⟨⟩;case list l=>exact aI h' fun hl h=>Z9 h▸oW (.inl rfl) hl fun r=>let⟨a,o,us,k,h1,h2,h3,h4,h5,h6⟩:=bI r;⟨a,o,us,k,h1,h2,h3,h5,h6⟩
   case tuple l=>exact aI h' fun hl h=>Z9 h▸oW (.inr rfl) hl fun r=>let⟨a,o,us,k,h1,_,h2,h3,h4,h5⟩:=(r.flat nofun nofun).tuple';⟨a,o,us,k,h1,h2,h3,h4,h5⟩
   case range x y z=>have h2:(match bb (.range x y z)with|some es=>if es.length<=aM then some (Dat.list es)else none|none=>none)=some d:=h';cases q:bb (.range x y z)with|none=>rw[q]at h2;exact aa h2|some es=>rw[q]at h2;exact aI h2 fun hl h=>Z9 h▸sD q hl
   all_goals (exact aa h')
  ·refine aI h' fun hf hb=>?_;clear h';subst hf;suffices z:Dl C n (.type "bytearray") [a] d from⟨.type "bytearray",hC.none _ (by decide),hC.b (by kernel_rfl),by decide,nofun,fun{A s vol vs E Q}=>z A s vol vs E Q⟩;rcases a with⟨⟩;case int m=>exact aI (c:=0<=m/\m<=(aM:Int)) hb fun hm hq=>Z9 hq▸yE hm
   case bytes b=>exact aI (c:=b.length<=aM) hb fun hm hq=>Z9 hq▸sY hm
   all_goals (exact aa hb)
def Pl:Dat->Option Nat| .list ds=>some ds.length| .tuple ds=>some ds.length| .str x=>some x.length| .bytes b=>some b.length| .ba b=>some b.length| .range a b c=>if aG a&&aG b&&aG c&&c !=0 then some (cC a b c)else none|_=>none
noncomputable def intsOf:List Dat->Option (List Int)|[]=>some []| .int i::ds=>(intsOf ds).map (i::·)|_=>none
noncomputable def strsOf:List Dat->Option (List Str)|[]=>some []| .str i::ds=>(strsOf ds).map (i::·)|_=>none
noncomputable def oB (g:Dat->Option Dat):List Dat->Option Dat|[d]=>g d|_=>none
def zF:List Dat->Option Dat:=oB fun d=>(Pl d).bind fun k=>if k<=aM then some (.int k)else none
noncomputable def EX (f:List Dat->Option Dat):Dat->Option Dat| .list es=>f es|_=>none
def sumF:List Dat->Option Dat:=oB (EX fun es=>(intsOf es).map fun ns=>.int ns.sum)
def RX:Dat->Option Dat| .str x=>some (.str x)| .int i=>if aG i then some (.str (toString i))else none|_=>none
def N4:List Dat->Option Dat:=oB RX
noncomputable def Kg:List Nat->Option Dat|[c]=>some (.int c)|_=>none
def R6:Dat->Option Dat| .str x=>Kg x.cps.toList|_=>none
def OF:List Dat->Option Dat:=oB R6
noncomputable def Ub:Dat->Option Dat| .int i=>if 0<=i/\i<=0x10FFFF then some (.str ⟨#[i.toNat]⟩)else none|_=>none
def I5:List Dat->Option Dat:=oB Ub
def MY:Dat->Option Dat| .list es=>(intsOf es).bind fun ns=>if es.length<=aM/\∀n∈ns,0<=n/\n<256 then some (.bytes (ns.map fun n=>n.toNat.toUInt8))else none| .ba b=>if b.length<=aM then some (.bytes b)else none|_=>none
def wa:List Dat->Option Dat:=oB MY
noncomputable def rR:Dat->Option Int| .int a=>some a|_=>none
def uX:List Dat->Option Dat|[a]=>(rR a).map fun a=>.range 0 a 1|[a,b]=>(rR a).bind fun a=>(rR b).map fun b=>.range a b 1|[a,b,c]=>(rR a).bind fun a=>(rR b).bind fun b=>(rR c).bind fun c=>if c≠0/\c.natAbs<1073741824 then some (.range a b c)else none|_=>none
noncomputable def Jc:Dat->Dat->Option Dat| .bytes _,.typ t=>if t="bytes" then some (.bool true)else none|_,_=>none
def JO:List Dat->Option Dat|[a,b]=>Jc a b|_=>none
set_option tactic.hygienic true in
theorem gx {i:Int}(h:rR d=some i):d=.int i:=by
 rcases d with⟨⟩;case int j=>rw[Z9 h]
 all_goals (exact aa h)
set_option tactic.hygienic true in
theorem tT {x:Dat}(h:EX f x=some d):∃es,x=.list es/\f es=some d:=by
 rcases x with⟨⟩;case list es=>exact⟨es,rfl,h⟩
 all_goals (exact aa h)
set_option tactic.hygienic true in
theorem gP.xu {x:Dat}(r:gP h vol vs [x]):∃v,vs=[v]/\aT h vol v x:=by(rcases r with⟨⟩;(case cons r rs=>rcases rs with⟨⟩;exact⟨_,rfl,r⟩))
set_option tactic.hygienic true in
theorem gP.pa {x:Dat}(r:gP h vol vs (x::xs)):∃v us,vs=v::us/\aT h vol v x/\gP h vol us xs:=by(rcases r with⟨⟩;(case cons r rs=>exact⟨_,_,rfl,r,rs⟩))
set_option tactic.hygienic true in
theorem aH.pa {x:Dat}(r:aH h vol vs (x::xs)):∃v us,vs=v::us/\Rep h vol v x/\aH h vol us xs:=by(rcases r with⟨⟩;(case cons r rs=>exact⟨_,_,rfl,r,rs⟩))
theorem aH.Ln (r:aH h vol vs []):vs=[]:=by rcases r with⟨⟩;rfl
set_option tactic.hygienic true in
theorem ints_cons (h:intsOf (d::ds)=some ns):∃i is,d=.int i/\intsOf ds=some is/\ns=i::is:=by
 rcases d with⟨⟩;case int i=>exact aZ (x:=intsOf ds) h fun is h1 h2=>⟨i,is,rfl,h1,h2.symm⟩
 all_goals (exact aa h)
set_option tactic.hygienic true in
theorem strs_cons (h:strsOf (d::ds)=some ns):∃i is,d=.str i/\strsOf ds=some is/\ns=i::is:=by
 rcases d with⟨⟩;case str i=>exact aZ (x:=strsOf ds) h fun is h1 h2=>⟨i,is,rfl,h1,h2.symm⟩
 all_goals (exact aa h)
theorem aH.ints:∀{ds:List Dat}{vs:List Value}{ns:List Int},aH h vol vs ds->intsOf ds=some ns->IntsAre vs ns
 |[],_,_,r,e=>by obtain rfl:=r.Ln;obtain rfl:=Z9 e;exact .nil
 |d::ds,_,_,r,e=>by refine eB r.pa ?_;rintro v us (rfl) r rs;refine eB (ints_cons e) ?_;rintro i is (rfl) h1 (rfl);refine aJ r.eS ?_;rintro t (rfl);exact .cons _ _ (rs.ints h1)
theorem aH.strs:∀{ds:List Dat}{vs:List Value}{ns:List Str},aH h vol vs ds->strsOf ds=some ns->StrsAre vs ns
 |[],_,_,r,e=>by obtain rfl:=r.Ln;obtain rfl:=Z9 e;exact .nil
 |d::ds,_,_,r,e=>by refine eB r.pa ?_;rintro v us (rfl) r rs;refine eB (strs_cons e) ?_;rintro i is (rfl) h1 (rfl);refine aJ r.jS ?_;rintro t (rfl);exact .cons _ _ (rs.strs h1)
theorem xM (r:aT s.heap vol v (.list ds))(hk:ds.length<=aM):dY C A vol (PySem.call (.builtin "len") [v]) (.int ds.length) s:=by refine cL (bI r) ?_;rintro a o us k' (rfl) ho hc y0;refine bg y0 fun hn hd hr=>?_;have hl:=hr.length;have hs:us.toArray.size=ds.length:=List.size_toArray.trans hl;refine fun E Q q=>ai (Calls.call_len_list ⟨o,ho,hc,k',hd⟩ (by delta aM at hk;lia) ?_);refine xR hs ?_;exact q _ _ .toks (.int _ _)
theorem vu (r:Rep s.heap vol v (.tuple ds))(hk:ds.length<=aM):dY C A vol (PySem.call (.builtin "len") [v]) (.int ds.length) s:=by refine cL r.tuple' ?_;rintro a o us k' (rfl) _ ho y0;refine bg y0 fun hc hd hr=>?_;have hl:=hr.length;have hs:us.toArray.size=ds.length:=List.size_toArray.trans hl;refine fun E Q q=>ai (len_tuple ⟨o,ho,hc,k',hd⟩ (by delta aM at hk;lia) ?_);refine xR hs ?_;exact q _ _ .toks (.int _ _)
theorem mE {Q:Array UInt8->Shared->Prop}(ho:s.heap.get? a=some o)(hd:o.data=.bytearray b k')(h:Q b s):wpAny (model prog w) A (Builtin.Bytes.payload (.ref a)) Q E s:=by unfold Builtin.Bytes.payload;refine Z8 ?_;refine Z8 (wpAny_load ho ?_);exact hd▸Z0 (Z0 h)
set_option tactic.hygienic true in
theorem xO (r:aT s.heap vol v (.ba b))(hk:b.length<=aM):dY C A vol (PySem.call (.builtin "len") [v]) (.int b.length) s:=by
 obtain⟨a,o,k',rfl,ho,hc,hd⟩:∃a o k,v=.ref a/\s.heap.get? a=some o/\o.cls=.type "bytearray"/\o.data=.bytearray b.toArray k:=by
  rcases r with⟨⟩;case rep r=>refine sd r.QT fun a o n h1 x h2=>?_;exact⟨a,o,n,h1,h2⟩
  case ba ho hc hd=>exact⟨_,_,_,rfl,ho,hc,hd⟩
 intro E Q q;have hT:s.TypeIs (.ref a) "bytearray":=⟨o,ho,hc⟩;refine ai (call_len_slot (n:=(b.length:Nat)) hT ll (fun Q' hq=>?_) (bC 0x80af731 rfl) (by unfold aM at hk;lia) (q _ _ .toks (.int _ _)));refine wpAny_call_entry ll hT rA ?_ (s9 _);show wpAny _ _ (Builtin.Bytes.payload (.ref a)>>=fun b=>_) _ _ s;exact Z8 (mE ho hd (Z8 (wpAny_mkInt (Z0 ⟨_,rfl,hq⟩))))
set_option tactic.hygienic true in
theorem LW (r:aT s.heap vol v d)(h:Pl d=some k)(hk:k<=aM):dY C A vol (PySem.call (.builtin "len") [v]) (.int k) s:=by
 rcases d with⟨⟩;case list ds=>obtain rfl:=Z9 h;exact xM r hk
 case tuple ds=>obtain rfl:=Z9 h;exact vu (r.flat nofun nofun) hk
 case ba b=>obtain rfl:=Z9 h;exact xO r hk
 case str x=>obtain rfl:=Z9 h;refine aJ ((r.flat nofun nofun).jS) ?_;rintro t (rfl);exact fun E Q q=>ai (PySem.P.len_str (by delta aM at hk;lia) (q _ _ .toks (.int _ _)))
 case bytes b=>obtain rfl:=Z9 h;refine aJ ((r.flat nofun nofun).f7) ?_;rintro t (rfl);refine fun E Q q=>ai (len_bytes (by delta aM at hk;refine xR ZT ?_;lia) ?_);refine xR ZT ?_;exact q _ _ .toks (.int _ _)
 case range a b c=>refine aI (c:=(aG a&&aG b&&aG c&&c !=0)=true) h fun y h=>?_;obtain rfl:=Z9 h;refine jI ((r.flat nofun nofun).range') ?_;rintro l t u w (rfl) _ hr;exact fun E Q q=>ai (call_len_range hr (by delta cC;exact xR (Int.toNat_of_nonneg (df _ _ _)) rfl) (by delta aM at hk;lia) (q _ _ .toks (.int _ _)))
 all_goals (exact aa h)
theorem KW (hA:A.handled=none)(r:aT s.heap vol v (.list es))(h:intsOf es=some ns):dY C A vol (PySem.call (.builtin "sum") [v]) (.int ns.sum) s:=by
 intro E Q q;refine cL (bI r) ?_;rintro a o us k' (rfl) ho hc y0;refine bg y0 fun hn hd hr=>?_;have hi:=hr.ints h;refine aJ (AllInts.items (vs:=us.toArray) hi.allInts) fun xs hx=>?_;have L5:(numsOf us).sum=ns.sum:=xR hi.numsOf rfl;have hl:s.heap.IsList a (intItems xs):=hx▸⟨o,ho,hc,k',hd⟩;refine ai (sum_intListG hA hl fun h' tk t' hk=>?_);have e:preSum (numAt xs) xs.size=ns.sum:=by rw[preSum_eq,List.take_of_length_le (by simp),<-L5];have:=nums_intItems xs;rw[<-hx]at this;simpa using congrArg List.sum this.symm
 refine xR e ?_;exact q _ {s with heap:=h',toks:=tk} (.of_keep hk rfl rfl) (.int _ _)
theorem Gh (hA:A.handled=none)(r:aT s.heap vol v (.list es))(h:intsOf es=some ns)(hz:es.length<=aM)(hr:∀n∈ns,0<=n/\n<256):dY C A vol (PySem.call (.type "bytes") [v]) (.bytes (ns.map fun n=>n.toNat.toUInt8)) s:=by intro E Q q;refine cL (bI r) ?_;rintro a o us k' (rfl) ho hc y0;refine bg y0 fun hn hd sI=>?_;have hi:=sI.ints h;refine ai (call_bytes_ints ⟨o,ho,hc,k',hd⟩ hi hr (by refine xR sI.length ?_;exact bx hz) hA fun h' t k hk=>?_);exact q _ {s with heap:=h',toks:=k} (.of_keep hk rfl rfl) (.bytes _ _)
theorem Ex.Ee {t:Nat}:Ex C s {s with heap:=s.heap.push o,toks:=t}:=.of_keep (fun x x e=>Z3 o e) rfl rfl
theorem BZ (V:aW C vol s){a:Int}(r:Rep s.heap vol v (.int a)):dY C A vol (PySem.call (.type "range") [v]) (.range 0 a 1) s:=by refine aJ r.eS ?_;rintro t (rfl);exact fun E Q q=>ai (call_range_1 (q _ _ .Ee (.range (V.new (aE _)) (IsRange.new ..))))
theorem BY (V:aW C vol s){a b:Int}(r:Rep s.heap vol v (.int a))(r2:Rep s.heap vol u (.int b)):dY C A vol (PySem.call (.type "range") [v,u]) (.range a b 1) s:=by refine aJ r.eS ?_;rintro t (rfl);refine aJ r2.eS ?_;rintro t2 (rfl);exact fun E Q q=>ai (call_range_2 (q _ _ .Ee (.range (V.new (aE _)) (IsRange.new ..))))
theorem BX (V:aW C vol s){w:Value}{a b c:Int}(r:Rep s.heap vol v (.int a))(r2:Rep s.heap vol u (.int b))(r3:Rep s.heap vol w (.int c))(hc:c≠0)(hn:c.natAbs<1073741824):dY C A vol (PySem.call (.type "range") [v,u,w]) (.range a b c) s:=by refine aJ r.eS ?_;rintro t (rfl);refine aJ r2.eS ?_;rintro t2 (rfl);refine aJ r3.eS ?_;rintro t3 (rfl);exact fun E Q q=>ai (call_range_3 hc (q _ _ .Ee (.range (V.new (aE _)) (IsRange.new ..))) (.inl (PyProof.noPylong_small hn)))
def gR (C:Cx)(n:Nat)(f:Str)(g:List Dat->Option Dat):Prop:=∃v,C.mg f=none/\C.mb f=some v/\(f==("__debug__":Str))=false/\(∀a,v≠.ref a)/\∀{A s vol vs ds d},cV C n A->Bs C s->aW C vol s->gP s.heap vol vs ds->g ds=some d->dY C A vol (PySem.call v vs) d s
theorem log2_small {a:Int}(h:aG a=true):a.natAbs.log2<1920:=by
 refine aL (cS.mp h) fun h1 h2=>?_;by_cases h0:a.natAbs=0
 ·refine xR h0 ?_;decide
 ·rw[Nat.log2_lt h0];have:a.natAbs<2^62:=by lia
  exact Nat.lt_of_lt_of_le this (Nat.pow_le_pow_right (by lia) (by lia))
theorem De (h1:C.mg f=none)(h2:C.mb f=some v)(h3:(f==("__debug__":Str))=false)(h4:∀a,v≠.ref a)(h:∀{A s vol u x d},cV C n A->aW C vol s->aT s.heap vol u x->g x=some d->dY C A vol (PySem.call v [u]) d s):gR C n f (oB g):=⟨v,h1,h2,h3,h4,fun{A s vol vs ds d}hA bs V rs e=>by
  match ds,e with
  |[x],e=>refine ax rs.xu ?_;rintro u (rfl) r;exact h hA V r e⟩
theorem Jl (hC:C.Plain):gR C n "len" zF:=De (v:=.builtin "len") (hC.none _ (by decide)) (hC.b (by kernel_rfl)) (by decide) nofun fun hA V r h=>ao h fun k hl h=>aI h fun hk h=>Z9 h▸LW r hl hk
theorem Ji (hC:C.Plain):gR C n "sum" sumF:=De (v:=.builtin "sum") (hC.none _ (by decide)) (hC.b (by kernel_rfl)) (by decide) nofun fun hA V r h=>by refine ax (tT h) ?_;rintro es (rfl) h;exact aZ h fun k hl h=>h▸KW hA.handled r hl
set_option tactic.hygienic true in
theorem Jj (hC:C.Plain):gR C n "str" N4:=De (v:=.type "str") (hC.none _ (by decide)) (hC.b (by kernel_rfl)) (by decide) nofun fun{A s vol u x d}hA V r h=>by
  rcases x with⟨⟩;case str x=>refine aJ ((r.flat nofun nofun).jS) ?_;rintro t (rfl);obtain rfl:=Z9 h;exact fun E Q q=>ai (PySem.P.str_of_str (q _ _ (.refl s) (.str _ _)))
  case int i=>refine aJ ((r.flat nofun nofun).eS) ?_;rintro t (rfl);refine aI h fun hs h=>?_;obtain rfl:=Z9 h;exact fun E Q q=>ai (PySem.P.str_of_int (log2_small hs) (q _ _ .toks (.str _ _)))
  all_goals (exact aa h)
set_option tactic.hygienic true in
theorem Jk (hC:C.Plain):gR C n "ord" OF:=De (v:=.builtin "ord") (hC.none _ (by decide)) (hC.b (by kernel_rfl)) (by decide) nofun fun{A s vol u x d}hA V r h=>by
  rcases x with⟨⟩;case str x=>
   refine aJ ((r.flat nofun nofun).jS) ?_;rintro t (rfl);obtain⟨⟨l⟩⟩:=x;have h':Kg l=some d:=h;match l,h' with
   |[c],h'=>obtain rfl:=Z9 h';exact fun E Q q=>ai (PySem.P.ord_of_char (q _ _ .toks (.int _ _)))
  all_goals (exact aa h)
set_option tactic.hygienic true in
theorem Jm (hC:C.Plain):gR C n "chr" I5:=De (v:=.builtin "chr") (hC.none _ (by decide)) (hC.b (by kernel_rfl)) (by decide) nofun fun{A s vol u x d}hA V r h=>by
  rcases x with⟨⟩;case int i=>refine aJ ((r.flat nofun nofun).eS) ?_;rintro t (rfl);refine aI h fun hi h=>?_;obtain rfl:=Z9 h;exact fun E Q q=>ai (PySem.P.chr_of_int (by simp;assumption) (q _ _ .toks (.str _ _)))
  all_goals (exact aa h)
theorem Dc (hC:C.Plain):gR C n "range" uX:=⟨.type "range",hC.none _ (by decide),hC.b (by kernel_rfl),by decide,nofun,fun{A s vol vs ds d}hA bs V rs e=>by
  match ds,e with
  |[a],e=>refine ax rs.xu ?_;rintro u (rfl) r;refine aZ e fun i h1 h=>?_;obtain rfl:=gx h1;exact h▸BZ V (r.flat nofun nofun)
  |[a,b],e=>refine eB rs.pa ?_;rintro u us (rfl) r rs;refine ax rs.xu ?_;rintro w (rfl) r2;refine ao e fun i h1 e=>aZ e fun j h2 h=>?_;obtain rfl:=gx h1;obtain rfl:=gx h2;exact h▸BY V (r.flat nofun nofun) (r2.flat nofun nofun)
  |[a,b,c],e=>refine eB rs.pa ?_;rintro u us (rfl) r rs;refine eB rs.pa ?_;rintro w us (rfl) r2 rs;refine ax rs.xu ?_;rintro z (rfl) r3;refine ao e fun i h1 e=>ao e fun j h2 e=>ao e fun k h3 e=>aI e fun hc h=>?_;obtain rfl:=gx h1;obtain rfl:=gx h2;obtain rfl:=gx h3;exact Z9 h▸BX V (r.flat nofun nofun) (r2.flat nofun nofun) (r3.flat nofun nofun) hc.1 hc.2⟩
theorem rN (hC:C.Plain):gR C n "isinstance" JO:=⟨.builtin "isinstance",hC.none _ (by decide),hC.b (by kernel_rfl),by decide,nofun,fun{A s vol vs ds d}hA bs V rs e=>by
  match ds,e with
  |[a,b],e=>
   refine eB rs.pa ?_;rintro u us (rfl) r rs;refine ax rs.xu ?_;rintro w (rfl) r2;rcases a with⟨⟩;case bytes x=>cases b with
    |typ t=>refine aI e fun ht h=>?_;obtain rfl:=Z9 h;subst ht;refine aJ ((r.flat nofun nofun).f7) ?_;rintro t1 (rfl);obtain rfl:=(r2.flat nofun nofun).RS;exact fun E Q q=>ai (call_isinstance (isinstance_true (Tx:="bytes") (by kernel_rfl) F.sub_bytes_bytes) ⟨typeIs_bytes _ _ _,q _ _ (.refl s) (.bool _)⟩)
    |_=>exact aa e
   all_goals (exact aa e)⟩
theorem sW:typeLookup (.type "bytearray") "__bytes__"=pure none:=by rw[ZC,ZM];kernel_rfl
theorem sV:typeLookup (.type "bytearray") "__index__"=pure none:=by rw[ZC,ZM];kernel_rfl
theorem kH:typeLookup (.type "bytearray") "__buffer__"=pure (some (.builtin "bytearray.__buffer__")):=by rw[ZC,ZM];kernel_rfl
theorem qp {Q:Bool->Shared->Prop}(hT:s.TypeIs (.ref a) "bytearray")(h:Q true s):wpAny (model prog w) A (Builtin.Bytes.slotIsOwn (.ref a) "__buffer__") Q E s:=by
 unfold Builtin.Bytes.slotIsOwn;refine Z8 (wpAny_specialOf hT kH ?_);have e1:("bytearray.__buffer__".endsWith ("."++"__buffer__"))=true:=by decide +kernel
 have e2:("bytearray.__buffer__".dropRight ("__buffer__".length+1))="bytearray":=by decide +kernel
 simp only[e1,e2];exact wpAny_isInstance hT ip h
theorem yA {id:String}{a:Addr}{o:Obj}{b:Array UInt8}{k:Nat}{Q:Option (Array UInt8)->Shared->Prop}(ho:s.heap.get? a=some o)(hc:o.cls=.type "bytearray")(hd:o.data=.bytearray b k)(h:Q (some b) s):wpAny (model prog w) A (Builtin.Bytes.buffer? id (.ref a) true) Q E s:=by have hT:s.TypeIs (.ref a) "bytearray":=⟨o,ho,hc⟩;unfold Builtin.Bytes.buffer?;refine Z8 (wpAny_specialOf hT kH ?_);refine Z8 (qp hT ?_);refine bm_if_false rfl ?_;refine Z8 (wpAny_specialOf hT kH ?_);refine Z8 (fX hT ?_);refine bm_if_false rfl ?_;exact Z8 (mE ho hd (Z0 h))
theorem qH (ho:s.heap.get? a=some o)(hc:o.cls=.type "bytearray")(hd:o.data=.bytearray b k)(hz:b.size<=sizeLine)(hQ:∀t k,Q (.bytes b t) {s with toks:=k}):codeAny (model prog w) A (.call (.builtin "bytes.__new__") ⟨[.type "bytes",.ref a],[]⟩) (wants Q E) s:=by
 revert ho hc hd hz hQ
 refine si (b8 (b8 (b8 (b8 HL vm) sA) inferInstance) inferInstance) ?_ w A s prog a Q E b o k
 generalize jF _ _=tt
 dsimp only[DB]
 generalize tt.1.1.1.1=w,tt.1.1.1.2=A,tt.1.1.2=s,tt.1.2.1=prog,tt.1.2.2=a,tt.2.1.1.1=Q,tt.2.1.1.2=E,tt.2.1.2=b,tt.2.2.1=o,tt.2.2.2=k
 intro ho hc hd hz hQ
 refine codeAny_of_tree ?_
 show wpAny _ A.in1 (do checkBuiltinCall "bytes.__new__" ⟨[.type "bytes",.ref a],[]⟩;again (.builtin "bytes.__new__" ⟨[.type "bytes",.ref a],[]⟩)) _ _ s
 refine Z8 (wpAny_of_eq (F.bm_newCall _) (Z0 ⟨plainId_quiet F.bm_plain _,codeAny_builtin F.bm_entry ?_⟩))
 rw[ZL F.bm_plain _]
 have hT:s.TypeIs (.ref a) "bytearray":=⟨o,ho,hc⟩
 unfold Builtin.«bytes.__new__»
 refine Z8 (wpAny_of_eq (a:=true) rfl ?_)
 refine bm_if_false rfl ?_
 refine Z8 (wpAny_of_eq F.bm_sub ?_)
 refine bm_if_false rfl ?_
 refine Z8 (wpAny_of_eq (F.bm_bind _) ?_)
 refine Z8 (wpAny_of_eq (a:=()) rfl ?_)
 refine Z8 (wpAny_of_eq (a:=()) rfl ?_)
 refine bm_if_false rfl ?_
 refine Z8 (wpAny_specialOf hT sW ?_)
 refine Z8 (Z8 ?_)
 show wpAny _ _ (load a>>=_) _ _ _
 refine Z8 (wpAny_load ho ?_)
 rw[hd]
 refine Z0 (Z0 ?_)
 refine bm_if_false rfl ?_
 refine Z8 (wpAny_specialOf hT sV ?_)
 refine bm_if_true rfl ?_
 first|show wpAny _ _ (Builtin.Bytes.buffer? "bytes.__new__" (.ref a) true>>=_) _ _ _|(refine Z8 ?_;show wpAny _ _ (Builtin.Bytes.buffer? "bytes.__new__" (.ref a) true>>=_) _ _ _)
 refine Z8 (yA ho hc hd ?_)
 refine Z8 (wpAny_rule ?_)
 have WR:∀{A:Around}{E:Value->Shared->Prop}{Q:Value->Shared->Prop}{s:Shared},(∀t k,Q (.bytes b t) {s with toks:=k})->wpAny (model prog w) A (mkBytes b) Q E s:=by intro A E Q s h;unfold mkBytes;rw[ZX (by exact aR 0x1031012 rfl hz)];exact fun Γ p iW=>h _ _
 refine Z8 (WR fun t k=>?_)
 first|exact Z0 (Z0 (hQ t k))|exact Z0 (hQ t k)
theorem pL (ho:s.heap.get? a=some o)(hc:o.cls=.type "bytearray")(hd:o.data=.bytearray b k)(hz:b.size<=sizeLine)(hQ:∀t k,Q (.bytes b t) {s with toks:=k}):wpAny (model prog w) A (PySem.call (.type "bytes") [.ref a]) Q E s:=by refine callType_codes (Q₁:=fun obj aB=>aB.TypeIs obj "bytes"/\Q obj aB) F.bm_called (F.bm_typeCall _) F.entry_object_init (qH ho hc hd hz fun t k=>⟨PySem.W.typeIs_bytes _ _ _,hQ t k⟩) fun obj aB bh=>?_;exact⟨bh.1,F.args_object_init_2 obj _,object_init_meets F.bm_called.init.lookup F.bm_called.made (by decide) prog w A.in1 _ aB ⟨bh.1,rfl,bh.2⟩⟩
set_option tactic.hygienic true in
theorem Dd (hC:C.Plain):gR C n "bytes" wa:=De (v:=.type "bytes") (hC.none _ (by decide)) (hC.b (by kernel_rfl)) (by decide) nofun fun{A s vol u x d}hA V r h=>by
  rcases x with⟨⟩;case list es=>exact ao (x:=intsOf es) h fun ns hl h=>aI h fun hh h=>Z9 h▸Gh hA.handled r hl hh.1 hh.2
  case ba b=>refine aI h fun hb h=>?_;obtain rfl:=Z9 h;refine jz (qw r) ?_;rintro a o k (rfl) ho hc hd;exact fun E Q q=>ai (pL ho hc hd (by rw[ZT];exact bx hb) fun t k=>q _ _ .toks (.bytes _ _))
  all_goals (exact aa h)
section
open AutoSeq1 (wpAny_loadPart')
def mi (C:Cx)(n:Nat)(m:Str)(g:Dat->List Dat->Option Dat):Prop:=∀{a ds d v s vol},g a ds=some d->Bs C s->aW C vol s->aT s.heap vol v a->∃id,(∀{A pl},Wp C A (getMethod v m pl) (fun r x=>r=(.builtin id,[v])) s)/\∀{A s vs},cV C n A->Bs C s->aW C vol s->aT s.heap vol v a->aH s.heap vol vs ds->dY C A vol (PySem.call (.builtin id) (v::vs)) d s
def A6 (a:Dat):List Dat->Option Dat:=oB fun b=>Pn a b
where Pn:Dat->Dat->Option Dat| .str sep,.list es=>(strsOf es).bind fun ys=>if(ys.map (·.length)).sum+ys.length*sep.length<=16777216 then some (.str (Txt.join sep ys))else none|_,_=>none
def zR (a:Dat):List Dat->Option Dat:=oB fun d=>EX (fun ds=>if ds.length<=aM then(qW d ds 0).map fun j:Nat=>.int (j:Int)else none) a
theorem kI (h:oB g ds=some d):∃x,ds=[x]/\g x=some d:=by match ds,h with|[x],h=>exact⟨x,rfl,h⟩
noncomputable def GB:Dat->Option (Str)| .str t=>some t|_=>none
theorem uv {y:Str}(h:GB d=some y):d=.str y:=by
 rcases d with⟨⟩;case str=>rw[Z9 h]
 all_goals exact aa h
noncomputable def QW:Dat->Option (List UInt8)| .bytes t=>some t|_=>none
theorem GD {y:List UInt8}(h:QW d=some y):d=.bytes y:=by
 rcases d with⟨⟩;case bytes=>rw[Z9 h]
 all_goals exact aa h
noncomputable def QV:Dat->Option (Int)| .int t=>some t|_=>none
theorem GC {y:Int}(h:QV d=some y):d=.int y:=by
 rcases d with⟨⟩;case int=>rw[Z9 h]
 all_goals exact aa h
noncomputable def Km:Dat->Option (Addr)| .top t=>some t|_=>none
theorem Dj {y:Addr}(h:Km d=some y):d=.top y:=by
 rcases d with⟨⟩;case top=>rw[Z9 h]
 all_goals exact aa h
def QX (g:Dat->Dat->Option Dat):List Dat->Option Dat|[]=>none|a::r=>oB (g a) r
set_option tactic.hygienic true in
theorem GF {g:Dat->Dat->Option Dat}(h:QX g ds=some d):∃x y,ds=[x,y]/\g x y=some d:=by
 rcases ds with⟨⟩;case nil=>exact aa h
 case cons a r=>exact(kI (g:=g a) h).elim fun y h=>⟨a,y,by rw[h.1],h.2⟩
theorem aH.xu {x:Dat}(r:aH h vol vs [x]):∃v,vs=[v]/\Rep h vol v x:=by refine eB r.pa fun v us e r rs=>?_;exact⟨v,by rw[e,rs.Ln],r⟩
theorem tR:mi C n "join" A6:=by
 intro a ds d v s vol h bs V r;refine ax (kI h) ?_;rintro x (rfl) h;rcases a with⟨⟩;case str sep=>cases x with
  |list es=>refine ao (x:=strsOf es) h fun ys hl h=>aI h fun hz h=>?_;obtain rfl:=Z9 h;refine aJ ((r.flat nofun nofun).jS) ?_;rintro t (rfl);clear h;refine⟨"str.join",fun{A pl}E Q q=>ai (getMethod_builtin (typeIs_str _ _ _) PySem.F.plainAttrs_str PySem.F.slot_str_join PySem.F.type_str_join GM.noRef (q _ _ (.refl s) rfl)),fun{A s vs}hA bs V r rs=>?_⟩;refine ax rs.xu ?_;rintro u (rfl) rd;refine cL rd.oX ?_;rintro a o us k (rfl) _ ho y0;refine mu y0 fun hc y hd hr=>?_;exact fun E Q q=>ai (join_list ⟨_,ho,hc,_,hd⟩ (hr.strs hl) hz fun t' k=>q _ _ .toks (.str _ _))
  |_=>exact aa h
 all_goals (exact aa h)
theorem E6 (l:Addr) (items:Array Value) (n:Nat) (CX:Option Addr) (BQ:Array (Option Value)) (x:Value) (dx:Dat) (KO:Int) (Wo:(items.size:Int)≤KO):∀(ds:List Dat) (xs:List Value) (i j:Nat),items.toList.drop i=xs→qW dx ds i=some j→
  Meets (Builtin.«list.index.loop» ⟨[.ref l,x,rawInt i,rawInt KO],[]⟩)
   (fun A R s=>s.heap.get? l=some {cls:= .type "list",dict:=CX,data:= .seq items n,slots:=BQ}∧A.units + 80 < cLine∧aH s.heap vol xs ds∧Rep s.heap vol x dx∧
    R (.ok (.ret (.int j s.toks))) {s with toks:=s.toks + 1}):=by
 intro ds
 induction ds with
 |nil=>intro xs i j _ h;exact aa h
 |cons d ds ih=>
  intro xs i j hx hj prog w A R s h
  obtain ⟨hp,g,dd,tk,os⟩:=s;obtain ⟨hl,hu,rs,rx,h⟩:=h
  cases rs with
  | @cons v _ vs _ rv Nn=>
  have hi:=head_drop hx
  have pD:i < items.size:=by
   have:=congrArg List.length hx
   simp at this
   exact aX 0x1092b10c22 rfl this
  have ly:(if (i:Int) < KO then items[((i:Nat):Int).toNat]? else none)=some v:=by rw [Z1 (by exact VC 0xf1af70100f0af83 rfl Wo pD)];exact hi
  wp_walk using wpAny_loadPart' hl
  rw [ly]
  rw [qV] at hj
  cases he:lB d dx with
  |none=>rw [he] at hj;exact aa hj
  |some b=>
   rw [he] at hj
   refine Z8 (ou (by have:A.in1.units=A.units + 1:=rfl;exact aX 0x146a2b090b22150a0b03 rfl hu this) rv rx he ?_)
   rcases b with ⟨⟩
   case true=>
    obtain rfl:=Z9 hj
    wp_walk
    exact h
   case false=>
    wp_walk
    have hc:((i:Int) + 1)=((i + 1:Nat):Int):=by push_cast;rfl
    rw [hc]
    have wu:items.toList.drop (i + 1)=vs:=by rw [←List.drop_drop,hx];rfl
    exact ⟨plainId_quiet MeetsSeq.plain_index_loop _,codeAny_builtin MeetsSeq.entry_index_loop (by
     rw [ZL MeetsSeq.plain_index_loop _]
     exact ih vs (i + 1) j wu hj prog w A R _ ⟨hl,hu,Nn,rx,h⟩)⟩
theorem xV (l:Addr)(items:Array Value)(n:Nat)(CX:Option Addr)(BQ:Array (Option Value))(x:Value)(dx:Dat)(ds:List Dat)(j:Nat)(hs1:items.size<=aM)(hj:qW dx ds 0=some j):Meets (Builtin.«list.index» ⟨[.ref l,x],[]⟩) (fun A R s=>s.heap.get? l=some {cls:=.type "list",dict:=CX,data:=.seq items n,slots:=BQ}/\A.units+80<cLine/\aH s.heap vol items.toList ds/\Rep s.heap vol x dx/\R (.ok (.ret (.int j s.toks))) {s with toks:=s.toks+1}):=by
 intro prog w A R s h
 obtain⟨hp,g,d,tk,os⟩:=s;refine sh h fun hl hu rs rx h=>?_
 wp_walk using wpAny_loadPart' hl
 have a1:((fun i:Int=>if i<0 then max 0 (i+(items.size:Int))else i) ((none:Option Int).getD 0))=((0:Nat):Int):=by simp
 have a2:((fun i:Int=>if i<0 then max 0 (i+(items.size:Int))else i) ((none:Option Int).getD (2^63-1)))=2^63-1:=by simp
 rw[a1,a2]
 exact⟨plainId_quiet MeetsSeq.plain_index_loop _,codeAny_builtin MeetsSeq.entry_index_loop (by rw[ZL MeetsSeq.plain_index_loop _];exact E6 l items n CX BQ x dx _ (by unfold aM at hs1;lia) ds items.toList 0 j rfl hj prog w A R _ ⟨hl,hu,rs,rx,h⟩)⟩
theorem qN:mi C n "index" zR:=by
 intro a ds d v s vol h bs V r;refine ax (kI h) ?_;rintro x (rfl) h;refine ax (tT h) ?_;rintro es (rfl) h;refine aI h fun hz h=>aZ h fun j hj h=>?_;subst h;clear h;refine NJ (bI r) ?_;rintro l0 _ _ _ (rfl) _;refine⟨"list.index",kP PySem.F.slot_list_index PySem.F.type_list_index r,fun{A s vs}hA bs V r rs=>?_⟩;refine ax rs.xu ?_;rintro u (rfl) rd;refine cL (bI r) fun l y0 us k e ho hc y1=>?_;refine bg y1 fun hn hd hr=>?_;obtain⟨c1,d1,FX,rY⟩:=y0;rcases e with⟨⟩;obtain rfl:c1=_:=hc;obtain rfl:FX=_:=hd;refine fun E Q q=>ai (call_meets PySem.F.slot_list_index ⟨_,ho,rfl⟩ PySem.F.entry_list_index (PySem.F.args_list_index_2 _ _) (xV (vol:=vol) l0 us.toArray k d1 rY _ x es j ?_ hj) ⟨ho,?_,hr,rd,?_⟩)
 ·have:=hr.length;rw[ZT,this];exact hz
 ·have:=hA.units;exact aX 0x250a0b02000003e88f10ad0bb02 rfl this
 ·exact q _ _ .toks (.int _ _)
end
abbrev nz:=Scope->Stmt->az->Option Fl
def fH (C:Cx)(n:Nat)(K:Env->Around->Prop)(Ψ:nz):Prop:=∀{A env},cV C n A->K env A->oE C Ψ A env
theorem fH.none:fH C n K (fun x x x=>none):=fun{A env}hA hK=>by intro aj sc st vars W ad s fl e S hD h;exact aa h
noncomputable def mC (V:az)(x:Str):Option Str:=match V.lookup x with
 |some (.val (.str t))=>some t|_=>none
set_option tactic.hygienic true in
theorem tH {t:Str}(h:mC V x=some t):V.lookup x=some (.val (.str t)):=by
 unfold mC at h;cases e:V.lookup x with
 |none=>rw[e]at h;exact aa h
 |some sl=>
  rw[e]at h;rcases sl with⟨⟩;case own d=>exact aa h
  case val d=>
   rcases d with⟨⟩;case str u=>obtain rfl:=Z9 h;rfl
   all_goals (exact aa h)
abbrev oH:=Scope->az->Option Fl
noncomputable def oQ:Stmt->Nat| .Assign _ _ p=>p.line| .Expr _ p=>p.line| .Try _ _ _ _ p=>p.line|_=>0
noncomputable def lh (L:List (Stmt×oH)):nz:=fun sc st vars=>match L.find? fun p=>oQ p.1==oQ st with
 |some p=> @ite _ (p.1=st) (Classical.propDecidable _) (p.2 sc vars) none|none=>none
noncomputable def GQ {α:Type}(P:α->Prop):List α->Prop|[]=>True|a::l=>P a/\GQ P l
theorem GQ.mem {α:Type}{P:α->Prop}:∀{l:List α},GQ P l->∀a∈l,P a:=by
 intro l;induction l with
 |nil=>intros;first|contradiction|(rename_i h;cases h)|(rename_i h _;cases h)|(rename_i h;exact nomatch h)
 |cons a l ih=>
  intro h b hb;refine Z4 (Zy hb) (fun e=>?_) fun e=>?_
  ·rw[e];exact h.1
  ·exact ih h.2 b e
def ux (C:Cx)(n:Nat)(K:Env->Around->Prop)(p:Stmt×oH):Prop:=∀{A env},cV C n A->K env A->∀{aj sc vars W ad s fl},aN env sc->SS C aj env sc vars W ad s->dH vars->p.2 sc vars=some fl->∀(E:Value->Shared->Prop)(Q:Flow->Shared->Prop),(∀f s',yK C aj env sc W s fl f s'->Q f s')->aK (model C.prog C.w) A (exec p.1 env) Q E s
theorem BL {L:List (Stmt×oH)}{st:Stmt}{fl:Fl}(h:lh L sc st vars=some fl):∃p∈L,p.1=st/\p.2 sc vars=some fl:=by unfold lh at h;cases e:L.find? fun p=>oQ p.1==oQ st with|none=>rw[e]at h;exact aa h|some p=>rw[e]at h;exact aI h fun h1 h2=>⟨p,List.mem_of_find?_eq_some e,h1,h2⟩
theorem qj {L:List (Stmt×oH)}(h:GQ (ux C n K) L):fH C n K (lh L):=fun{A env}hA hK=>by intro aj sc st vars W ad s fl e S hD hf;refine eD (BL hf) ?_;rintro p hp (rfl) hm;exact h.mem p hp hA hK e S hD hm
theorem cM {L:List (Stmt×oH)}{st:Stmt}{m:oH}(h:(L.find? fun p=>oQ p.1==oQ st)=some (st,m)):lh L sc st vars=m sc vars:=by unfold lh;rw[h];exact @Z1 _ (Classical.propDecidable _) rfl _ _ _
def pA (x y a b:Str):oH:=fun sc vars=>(mC vars y).bind fun t=>if t.length<=aM then(bL sc x (.val (.str (Txt.replace t a b))) vars).map .next else none
theorem iu {y a b:Str}(hp:(ap.endLine==p.line)=true)(TK:(a==b)=false)(TH:b.length<=14):ux C n K (.Assign [.Name x xp] (.Call (.Attribute (.Name y yp) "replace" ap) [.Constant (.str a) k1 Sp,.Constant (.str b) k2 So] [] p) pos,pA x y a b):=fun{A env}hA hK{aj sc vars W ad s fl}e S hD h E Q hQ=>
 ao h fun t hy h=>aI h fun GX h=>aZ h fun b9 hb Bc=>by
 subst Bc;refine bl ?_ rfl rfl;show aK _ A (eval (.Name y yp) env>>=fun ov=>standAt ap.atName>>=fun u=>methodCall (.Name y yp) "replace" ap p env ov 2 (backTo p (starEach [.Constant (.str a) k1 Sp,.Constant (.str b) k2 So] env)) (backToKw p (keywordEach [] env))) _ E s;refine ax (S.bV.lo y _ (tH hy)) fun v hv hr=>?_;cases hr with|str _ tk=>?_
 refine ab (g7 e hv (ab (aq ?_)));unfold methodCall;have CN:methodCallForm 2 (backTo p (starEach [.Constant (.str a) k1 Sp,.Constant (.str b) k2 So] env)) (backToKw p (keywordEach [] env))=true:=rfl;rw[CN];refine ab (ar ?_);show aK _ A (getMethod (.str t tk) "replace" _) _ E s;refine ai (getMethod_builtin (typeIs_str _ _ _) PySem.F.plainAttrs_str PySem.F.slot_str_replace PySem.F.type_str_replace GM.noRef ?_);dsimp only;have Me:methodCallPos true (.Name y yp) env ap p=pure p:=by unfold methodCallPos;simp only[Bool.not_true,Bool.false_or,hp,if_true]
 rw[Me];refine ab (ah ?_);have fO:(backTo p (starEach [.Constant (.str a) k1 Sp,.Constant (.str b) k2 So] env)).any (·.1)=false:=rfl;refine bQ (fun u q=>by rcases q with⟨⟩) fO (DF fun ht=>?_);refine cn (P:=fun vs s'=>vs=[.str a s.toks,.str b (s.toks+1)]/\s'={s with toks:=s.toks+1+1}) fO (fun E Q q=>bu (ai (wpAny_Constant_str (bu (ai (wpAny_Constant_str (bY (q _ {s with toks:=s.toks+1+1} .toks ⟨rfl,rfl⟩)))))))) _ _ fun z s3 x3 r3=>?_;obtain⟨ps,kw⟩:=z;refine bg r3 ?_;clear r3;rintro(rfl) (rfl) (rfl);refine ai (SC.replaceW (Nat.pos_iff_ne_zero.mp ht) (Nat.succ_ne_zero _) (Nat.ne_of_lt (Nat.lt_succ_self _)) TK (ZK GX (by decide)) TH fun t' k=>?_);have S3:SS C aj env sc vars W ad {s with toks:=k}:=S.ex .toks;show aK _ A (standAt xp>>=fun u=>bindName env x (.str _ t')) _ E _;exact ab (aq (ew e S3 hD hb (.str _ _) fun s4 m4 S4 Mx u=>hQ _ _ ⟨rfl,W,ad,(Mv.ka .toks).trans m4,S4,Mx⟩))
theorem mG:Manifest.owners.lookup (String.ofList ['r','e','t','l','i','f'].reverse)=some Manifest.sig_filter:=by kernel_rfl
theorem de:PySem.Slot "filter" "__next__" "filter.__next__":=.of (owner:="filter") (n:="__next__") (by rw[ZC,ZM];kernel_rfl) (by decide +kernel) (by decide +kernel) (by decide +kernel) (by first|exact .inl (by decide +kernel)|exact .inr (by decide +kernel)) (by rw[isSubtype_type];kernel_rfl)
theorem ib:entryFor table "filter.__next__"=some Builtin.«filter.__next__»:=entryFor_of_tree (by kernel_rfl)
theorem iR (a:Value):argsOk "filter.__next__" ⟨[a],[]⟩:=by unfold argsOk;rw[signature?_of (id:="filter.__next__") (n:=['_','_','t','x','e','n','_','_']) (o:=['r','e','t','l','i','f']) (by kernel_rfl) mG];kernel_rfl
theorem iC:PySem.Slot "filter" "__iter__" "filter.__iter__":=.of (owner:="filter") (n:="__iter__") (by rw[ZC,ZM];kernel_rfl) (by decide +kernel) (by decide +kernel) (by decide +kernel) (by first|exact .inl (by decide +kernel)|exact .inr (by decide +kernel)) (by rw[isSubtype_type];kernel_rfl)
theorem oA (a:Value):argsOk "filter.__iter__" ⟨[a],[]⟩:=by unfold argsOk;rw[signature?_of (id:="filter.__iter__") (n:=['_','_','r','e','t','i','_','_']) (o:=['r','e','t','l','i','f']) (by kernel_rfl) mG];kernel_rfl
theorem mV:entryFor table "filter.__iter__"=some Builtin.«dict_keyiterator.__iter__»:=entryFor_alias (id':="dict_keyiterator.__iter__") (by rw[fastTable_eq_tree];kernel_rfl) (by decide +kernel) (by decide +kernel) (by rw[fastTable_eq_tree];kernel_rfl)
theorem cO:plainId "filter.__next__"=true:=by decide +kernel
theorem qL:mroOf (.type "filter")=pure [.type "filter",.type "object"]:=by rw[mroOf_type];kernel_rfl
theorem mJ:typeLookup (.type "filter") "__new__"=pure (some (.builtin "filter.__new__")):=by rw[ZC,ZM];kernel_rfl
theorem nJ:PySem.Slot "filter" "__init__" "object.__init__":=.of (owner:="object") (n:="__init__") (by rw[ZC,ZM];kernel_rfl) (by decide +kernel) (by decide +kernel) (by decide +kernel) (by first|exact .inl (by decide +kernel)|exact .inr (by decide +kernel)) (by rw[isSubtype_type];kernel_rfl)
theorem d9:TypeCalled "filter" "filter.__new__" "object.__init__":=⟨by decide +kernel,by decide +kernel,⟨_,_,qL⟩,madeBy_type qL mJ (by decide +kernel),by decide +kernel,by rw[isSubtype_type];kernel_rfl,nJ⟩
theorem pv (a b:Value):checkTypeCall "filter" ⟨[a,b],[]⟩=pure ():=by kernel_rfl
theorem qI (a b:Value):checkBuiltinCall "filter.__new__" ⟨[.type "filter",a,b],[]⟩=pure ():=by kernel_rfl
theorem ow:entryFor table "filter.__new__"=some Builtin.«filter.__new__»:=entryFor_of_tree (by kernel_rfl)
theorem pz:isSubtype (.type "filter") (.type "filter")=pure true:=by rw[isSubtype_type];kernel_rfl
def lN (h:Heap)(F I:Addr):Prop:=∃o,h.get? F=some o/\o.cls=.type "filter"/\o.data=.fields #[.builtin "len",.ref I]
theorem lN.keeps (x:lN h F I)(hk:∀o,h.get? F=some o->h'.get? F=some o):lN h' F I:=let⟨o,ho,r⟩:=x;⟨o,hk o ho,r⟩
noncomputable def et:Value->Bool| .str x _=>x.length !=0|_=>false
theorem qe {t:Addr}{x:Value}{Q:Option Value->Shared->Prop}(hit:s.heap.IsTupleIter I t i)(ht:s.heap.IsTuple t items)(hx:items[i]?=some x)(hQ:∀h',h'.IsTupleIter I t (i+1)->Heap.SameBut I s.heap h'->Q (some x) {s with heap:=h'}):wpAny (model prog w) A (callSpecial? (.ref I) (Str.ofString "__next__")) Q E s:=by refine eD (id hit) fun o ho hc hd=>?_;obtain⟨ol,SP,_,nl,J6⟩:=ht;refine wpAny_callSpecial?_slot (name:=Str.ofString "__next__") hit.typeIs F.slot_tuple_iterator_next (wpAny_call_entry F.slot_tuple_iterator_next hit.typeIs F.entry_tuple_iterator_next ?_ (F.args_tuple_iterator_next_1 _));show wpAny _ _ (field (.ref I) 0>>=_) _ _ s;refine Z8 (wpAny_field ho hd (x:=.ref t) rfl ?_);show wpAny _ _ (if(Value.ref t==Value.none)=true then _ else _) _ _ s;rw[ZX (show ¬((Value.ref t==Value.none)=true)from ZZ)];show wpAny _ _ (field (.ref I) 1>>=_) _ _ s;refine Z8 (wpAny_field ho hd (x:=.int i 0) rfl ?_);show wpAny _ _ (seqItems? (.ref t)>>=_) _ _ s;refine Z8 (wpAny_seqItems SP J6 ?_);simp only[ZE,hx];refine Z8 (wpAny_setField ho hd (by simp) (Z0 ⟨x,rfl,(hQ _ ?_ (Heap.SameBut.update ..))⟩));exact⟨_,Heap.get?_update_self _ ho (Obj.isFreed_of_fields (Obj.data_mapFields hd _)),(Obj.cls_mapFields ..).trans hc,by rw[Obj.data_mapFields hd];simp[rawInt]⟩
theorem sk {t:Addr}{Q:Option Value->Shared->Prop}(hh:A.handled=none)(hit:s.heap.IsTupleIter I t i)(ht:s.heap.IsTuple t items)(hx:items[i]?=none)(hE:∀e h',Heap.ExtBut I s.heap h'->({s with heap:=h'}:Shared).TypeIs e "StopIteration"->E e {s with heap:=h'}):wpAny (model prog w) A (callSpecial? (.ref I) (Str.ofString "__next__")) Q E s:=by
 refine eD (id hit) fun o ho hc hd=>?_;obtain⟨ol,SP,_,nl,J6⟩:=ht;refine wpAny_callSpecial?_slot (name:=Str.ofString "__next__") hit.typeIs F.slot_tuple_iterator_next (wpAny_call_entry F.slot_tuple_iterator_next hit.typeIs F.entry_tuple_iterator_next ?_ (F.args_tuple_iterator_next_1 _));show wpAny _ _ (field (.ref I) 0>>=_) _ _ s;refine Z8 (wpAny_field ho hd (x:=.ref t) rfl ?_);show wpAny _ _ (if(Value.ref t==Value.none)=true then _ else _) _ _ s;rw[ZX (show ¬((Value.ref t==Value.none)=true)from ZZ)];show wpAny _ _ (field (.ref I) 1>>=_) _ _ s;refine Z8 (wpAny_field ho hd (x:=.int i 0) rfl ?_);show wpAny _ _ (seqItems? (.ref t)>>=_) _ _ s;refine Z8 (wpAny_seqItems SP J6 ?_);simp only[ZE,hx];refine Z8 (wpAny_rule (Z8 (wpAny_setField ho hd (by simp) ?_)));show wpAny _ _ (newExc (.type "StopIteration") []>>=_) _ _ _;refine Z8 ?_;simp only[newExc,newTuple];refine Z8 (wpAny_newObj_type ?_ (by size_fits));refine Z8 (m:=firstArgMember _ _) (wpAny_of_eq (a:=Value.none) (by first|rfl|(simp only[firstArgMember];rfl)) ?_);refine wpAny_newObj_type ?_ (by size_fits);delta raiseNew;dsimp only;refine Z8 (wpAny_handled ?_);first|rw[show A.in1.handled=none from hh]|rw[hh]
 refine Z8 (Z0 (wpAny_throw ?_));exact hE _ _ (((Heap.SameBut.update ..).extBut.push _).push _) ⟨_,ZO _ rfl,rfl⟩
theorem AY {F t:Addr}(Mw:F≠I)(L2:t≠I)(Cy:∀v∈items.toList,∃x tk,v=Value.str x tk/\x.length<=aM)(hh:A.handled=none){R:Result->Shared->Prop}:∀(k i:Nat)(s:Shared),items.size-i=k->lN s.heap F I->s.heap.IsTupleIter I t i->s.heap.IsTuple t items->(∀v j h' tk,(items.toList.drop i).filter et=v::(items.toList.drop j).filter et->Heap.SameBut I s.heap h'->h'.IsTupleIter I t j->R (.ok (.ret v)) {s with heap:=h',toks:=tk})->((items.toList.drop i).filter et=[]->∀e h' tk,Heap.ExtBut I s.heap h'->({s with heap:=h',toks:=tk}:Shared).TypeIs e "StopIteration"->R (.error e) {s with heap:=h',toks:=tk})->codeAny (model prog w) A (.builtin "filter.__next__" ⟨[.ref F],[]⟩) R s:=by
 intro k
 induction k with
 |zero=>
  intro i s hk hF hi ht hR hE;refine codeAny_builtin ib ?_;rw[ZL cO _];refine eD (id hF) fun oF PN Xn P7=>?_;have Md:items.toList.drop i=[]:=by simp;exact aR 0x101810c22 rfl hk
  show wpAny _ _ (field (.ref F) 0>>=fun func=>field (.ref F) 1>>=fun it=>callSpecial? it (Str.ofString "__next__")>>=fun x=>_) _ _ s;refine Z8 (wpAny_field PN P7 (x:=.builtin "len") rfl ?_);refine Z8 (wpAny_field PN P7 (x:=.ref I) rfl ?_);refine Z8 (sk hh hi ht (by simp;exact aR 0x101810c22 rfl hk) fun e h' hb hT=>?_);exact hE (by rw[Md];rfl) e h' s.toks hb hT
 |succ k ih=>
  intro i s hk hF hi ht hR hE;refine codeAny_builtin ib ?_;rw[ZL cO _];refine eD (id hF) fun oF PN Xn P7=>?_;have pD:i<items.size:=aX 0x1092b10c22 rfl hk;have U8:items.toList.drop i=items[i]::items.toList.drop (i+1):=by simp[List.drop_eq_getElem_cons,pD]
  show wpAny _ _ (field (.ref F) 0>>=fun func=>field (.ref F) 1>>=fun it=>callSpecial? it (Str.ofString "__next__")>>=fun x=>_) _ _ s;refine Z8 (wpAny_field PN P7 (x:=.builtin "len") rfl ?_);refine Z8 (wpAny_field PN P7 (x:=.ref I) rfl ?_);refine Z8 (qe hi ht (x:=items[i]) (by simp[pD]) fun h1 Du hs1=>?_);dsimp only;refine eZ (Cy items[i] (by simp)) fun x tk hx Wh=>?_;rw[hx];refine Z8 (wpAny_holding ?_);show wpAny _ _ (call (.builtin "len") [.str x tk]>>=fun good=>holding [good] (truthy good)) _ _ _;refine Z8 (PySem.P.len_str (by unfold aM at Wh;lia) ?_);refine wpAny_holding (PyProof.Rows.truthy_int ?_);have Qi:lN h1 F I:=hF.keeps fun o e=>(hs1.2 F Mw).trans e;have Rf:h1.IsTuple t items:=by refine ax ht fun ot SO r=>?_;exact⟨ot,(hs1.2 t L2).trans SO,r⟩
  cases hz:(x.length !=0)with
  |true=>
   have xX:((x.length:Int) !=0)=true:=by simpa using hz
   rw[xX];simp only[if_true];refine Z0 ?_;refine hR (.str x tk) (i+1) h1 _ ?_ hs1 Du;rw[U8,hx,List.filter_cons];simp only[et,hz,if_true]
  |false=>
   have xX:((x.length:Int) !=0)=false:=by simpa using hz
   rw[xX];simp only[ZG,if_false];have Bc:(items.toList.drop i).filter et=(items.toList.drop (i+1)).filter et:=by rw[U8,hx,List.filter_cons];simp only[et,hz,ZG,if_false]
   refine Z0 ⟨plainId_quiet cO _,ih (i+1) _ (aX 0x291b0c292b10c22 rfl hk) Qi Du Rf (fun v j h' RV e hs fP=>hR v j h' RV (Bc.trans e) (hs1.trans hs) fP) fun e=>?_⟩;exact fun ev h' RV hb hT=>hE (Bc.trans e) ev h' RV (fun b o Ve e'=>hb b o Ve ((hs1.2 b Ve).trans e')) hT
theorem cy (x:lN s.heap F I):s.TypeIs (.ref F) "filter":=let⟨o,ho,hc,_⟩:=x;⟨o,ho,hc⟩
def Bv (F I t:Addr)(items:Array Value)(j:Nat)(h:Heap):Prop:=lN h F I/\h.IsTuple t items/\∃i,h.IsTupleIter I t i/\(items.toList.drop i).filter et=(items.toList.filter et).drop j
theorem uG {F t:Addr}(Mw:F≠I)(L2:t≠I)(Cy:∀v∈items.toList,∃x tk,v=Value.str x tk/\x.length<=aM)(A:Around)(hh:A.handled=none):Walks prog w A F [F,I,t] [I] (items.toList.filter et).length (fun j v=>(items.toList.filter et)[j]?=some v) (Bv F I t items) where
 sub:=fun b hb=>by simp at hb;simp[hb]
 frame:=fun j h h' st hk=>by
  obtain⟨a,b,i,c,d⟩:=st;refine⟨a.keeps fun o e=>hk F (by simp) o e,?_,i,?_,d⟩
  ·refine ax b fun o ho r=>?_;exact⟨o,hk t (by simp) o ho,r⟩
  ·refine ax c fun o ho r=>?_;exact⟨o,hk I (by simp) o ho,r⟩
 item:=fun j s Q E hj st hQ=>by
  obtain⟨a,b,i,c,d⟩:=st;unfold pyNext;refine Z8 (wpAny_attempt (wpAny_callSpecial?_slot (name:=Str.ofString "__next__") (cy a) de (wpAny_call (codeAny_call_builtin_code (plainId_quiet cO _) (de.check _ _ _ _ _ _ _ _ (cy a) (iR _) ?_)))));have J8:(items.toList.filter et).drop j=(items.toList.filter et)[j]::(items.toList.filter et).drop (j+1):=List.drop_eq_getElem_cons hj;refine AY Mw L2 Cy hh _ i s rfl a c b (fun v j' h' tk e hs hi=>?_) fun e=>?_
  ·rw[d,J8]at e;injection e with e1 e2;refine Z0 (hQ v h' tk (by rw[ZY hj,e1]) ⟨a.keeps fun o e=>(hs.2 F Mw).trans e,?_,j',hi,e2.symm⟩ fun b' o hb e=>(hs.2 b' fun q=>hb (by simp[q])).trans e);refine ax b fun ot SO r=>?_;exact⟨ot,(hs.2 t L2).trans SO,r⟩
  ·rw[d,J8]at e;rcases e with⟨⟩
 done:=fun s Q E st hQ=>by
  obtain⟨a,b,i,c,d⟩:=st;unfold pyNext;refine Z8 (wpAny_attempt (wpAny_callSpecial?_slot (name:=Str.ofString "__next__") (cy a) de (wpAny_call (codeAny_call_builtin_code (plainId_quiet cO _) (de.check _ _ _ _ _ _ _ _ (cy a) (iR _) ?_)))));rw[List.drop_length]at d;refine AY Mw L2 Cy hh _ i s rfl a c b (fun v j' h' tk e hs hi=>?_) fun e ev h' tk hb hT=>?_
  ·rw[d]at e;rcases e with⟨⟩
  ·refine Z8 (wpAny_isInstance (T:="StopIteration") (b:=true) hT isSubtype_stop ?_);exact Z0 (hQ h' tk fun b o Xp e=>hb b o (fun q=>Xp (by simp[q])) e)
 self:=fun j s Q E st hQ=>by refine wpAny_pyIter_slot (cy st.1) iC (wpAny_call_entry iC (cy st.1) mV ?_ (oA _));show wpAny _ _ (ret (.ref F)) _ _ s;exact Z0 ⟨_,rfl,"filter",_,cy st.1,de.lookup,hQ⟩
theorem zt {t:Addr}(ht:s.heap.IsTuple t items)(hQ:∀h',(∀b o,s.heap.get? b=some o->h'.get? b=some o)->h'.IsTupleIter s.heap.objs.size t 0->lN h' (s.heap.objs.size+1) s.heap.objs.size->h'.objs.size=s.heap.objs.size+2->Q (.ref (s.heap.objs.size+1)) {s with heap:=h'}):codeAny (model prog w) A (.call (.builtin "filter.__new__") ⟨[.type "filter",.builtin "len",.ref t],[]⟩) (wants Q E) s:=by
 refine codeAny_of_tree ?_
 show wpAny _ A.in1 (do checkBuiltinCall "filter.__new__" ⟨[.type "filter",.builtin "len",.ref t],[]⟩;again (.builtin "filter.__new__" ⟨[.type "filter",.builtin "len",.ref t],[]⟩)) _ _ s
 refine Z8 (wpAny_of_eq (qI _ _) (Z0 ⟨plainId_quiet d9.plain _,codeAny_builtin ow ?_⟩))
 rw[ZL d9.plain _]
 unfold Builtin.«filter.__new__»
 refine Z8 ?_
 unfold Builtin.SmallTypes.newClass
 refine Z8 (wpAny_of_eq (a:=true) rfl ?_)
 refine bm_if_false rfl ?_
 refine Z8 (wpAny_of_eq pz ?_)
 refine bm_if_false rfl ?_
 refine Z0 ?_
 dsimp only
 refine Z8 (wpAny_of_eq (a:=()) (by kernel_rfl) ?_)
 refine Z8 (wpAny_of_eq (a:=()) (by kernel_rfl) ?_)
 refine Z8 (wpAny_pyIter_tuple ht ?_)
 have hsz:(s.heap.push {cls:=.type "tuple_iterator",data:=.fields #[.ref t,rawInt 0]}).objs.size=s.heap.objs.size+1:=by rw[Heap.size_push]
 show wpAny _ _ (newObj (.type "filter") (.fields #[.builtin "len",.ref s.heap.objs.size])>>=fun r=>ret r) _ _ _
 refine Z8 (wpAny_newObj_type (Z0 ?_))
 have key:=hQ ((s.heap.push {cls:=.type "tuple_iterator",data:=.fields #[.ref t,rawInt 0]}).push {cls:=.type "filter",data:=.fields #[.builtin "len",.ref s.heap.objs.size]}) (fun b o e=>Z3 _ (Z3 _ e)) ⟨_,Z3 _ (ZO _ rfl),rfl,rfl⟩ ⟨_,by rw[<-hsz];exact ZO _ rfl,rfl,rfl⟩ (by rw[Heap.size_push,hsz])
 rw[<-hsz]at key
 exact key
theorem yx {t:Addr}(ht:s.heap.IsTuple t items)(hQ:∀h',(∀b o,s.heap.get? b=some o->h'.get? b=some o)->h'.IsTupleIter s.heap.objs.size t 0->lN h' (s.heap.objs.size+1) s.heap.objs.size->h'.objs.size=s.heap.objs.size+2->Q (.ref (s.heap.objs.size+1)) {s with heap:=h'}):wpAny (model prog w) A (PySem.call (.type "filter") [.builtin "len",.ref t]) Q E s:=by
 refine callType_codes (Q₁:=fun obj aB=>aB.TypeIs obj "filter"/\Q obj aB) d9 (pv _ _) F.entry_object_init (zt ht fun h' hk h1 h2 hsz=>⟨cy (s:={s with heap:=h'}) h2,hQ h' hk h1 h2 hsz⟩) fun obj aB bh=>?_
 exact⟨bh.1,F.initArgs_range_2 _ _ _,object_init_meets d9.init.lookup d9.made (by decide) prog w A.in1 _ aB ⟨bh.1,rfl,bh.2⟩⟩
section
variable {K:Env->Prop}
structure eW (C:Cx) (c P:Addr) (p:Pos) (q:Str):Prop where
 mem:(c,P,p,q)∈C.tabs
 code:C.h₀.IsCode c P #[]
 uniq:∀c' p' q',(c',P,p',q')∈C.tabs->p'=p/\q'=q
theorem eW.dv (hC:C.Ok)(h:eW C c P p q):¬C.T c:=by intro y0;refine i0 y0 fun c' p' q' m=>?_;have h1:=(hC.qg c P p q h.mem).1;refine aL h1 fun y1 x=>?_;refine eB y1 fun o vs ho hc x=>?_;have h2:=(hC.qg c' c p' q' m).1.2;rw[ho]at h2;obtain rfl:=Z9 h2;rcases hc with⟨⟩
theorem eW.vy (hC:C.Ok)(h:eW C c P p q)(bs:Bs C s)(hP:s.heap.get? P=some {cls:=.none,data:=.fields ps})(PI:TriplesOk ps.toList):s.heap.IsCode c P ps:=by refine Ku h.code fun o vs file tf flags tg UK y0=>?_;refine uA y0 fun text tt op ho hd Qp h2 y1=>?_;refine NI y1 fun h7 h9 XZ Rg YK YD iX=>?_;exact⟨o,vs,file,tf,flags,tg,UK,text,tt,_,bs.keep c o ho (h.dv hC),hd,Qp,h2,h7,h9,XZ,hP,rfl,PI,iX⟩
theorem eW.tableAt (hC:C.Ok)(h:eW C c P p q)(bs:Bs C s)(hP:s.heap.get? P=some {cls:=.none,data:=.fields ps}):s.heap.TableAt c P ps:=by refine aL ((hC.qg c P p q h.mem).1) fun y0 x=>?_;refine iZ y0 fun o vs ho hc hd Qp=>?_;exact⟨⟨o,vs,bs.keep c o ho (h.dv hC),hc,hd,Qp⟩,hP⟩
theorem lH (hl:pos.line=p.line)(hc:pos.col=p.col):codeAmong pos (#[rawInt p.line,rawInt p.col,c']:Array Value).toList=some c':=by simp[codeAmong,rawInt,hl,hc]
theorem eW.grown (hC:C.Ok)(h:eW C c P p q)(bs:Bs C s){t:Nat}(h0:s.heap.get? P=some {cls:=.none,data:=.fields #[]})(hx:Heap.ExtBut P s.heap h') (h1:h'.get? P=some {cls:=.none,data:=.fields #[rawInt p.line,rawInt p.col,.ref c']}) (hr:h'.CodeRec (.ref c') q):Ex C s {s with heap:=h',toks:=t}:=by
 have hT:C.T P:=⟨c,p,q,h.mem⟩
 refine⟨fun b o e nt x=>hx b o (fun z=>nt (z▸hT)) e,fun b o f e=>.of (hx b o (fun y=>bs.dF h0 nofun (y▸f)) e),fun z=>⟨fun b o e nt=>hx b o (fun y=>nt (y▸hT)) (z.keep b o e nt),fun c2 P2 p2 q2 m=>?_,z.gens,z.os,fun a f=>(z.alive a f).data fun o e=>.of (hx a o (fun y=>bs.dF h0 nofun (y▸f)) e)⟩⟩
 by_cases hp:P2=P
 ·subst hp;refine aL (h.uniq c2 p2 q2 m) ?_;rintro(rfl) (rfl);exact .inr ⟨c',h1,hr⟩
 ·refine Z4 (z.tab c2 P2 p2 q2 m) (fun e=>?_) fun y0=>?_
  ·exact .inl (hx _ _ hp e)
  ·refine ax y0 fun b e r=>?_;refine .inr ⟨b,hx _ _ hp e,?_⟩;refine cL r fun b' o vs t' e1 e2 e3 e4=>?_;rcases e1 with⟨⟩;refine⟨b,o,vs,t',rfl,hx _ _ (fun y=>?_) e2,e3,e4⟩;subst y;rw[h0]at e2;obtain rfl:=Z9 e2;rcases e3 with⟨⟩;simp at e4
theorem rf (hC:C.Ok)(h:eW C c P p q)(hc:env.code=.ref c)(hl:pos.line=p.line)(kh:pos.col=p.col)(hq:qn=q)(bs:Bs C s)(hQ:∀c' s',Ex C s s'->s.gens=s'.gens->s.os=s'.os->s.drawn=s'.drawn->s'.heap.CodeRec (.ref c') q->Q (.ref c') s'):wpAny (model prog w) A (genexprCode env pos qn scope) Q E s:=by
 subst hq;refine Z4 (bs.tab c P p _ h.mem) (fun h0=>?_) fun y0=>?_
 ·have Iv:s.heap.get? P=some {cls:=.none,data:=.fields #[]}:=h0;refine wpAny_genexprCodeX hc (h.vy hC bs Iv trivial) (h.tableAt hC bs Iv) rfl fun c' h' tk hx x x x hr ht x=>hQ c' {s with heap:=h',toks:=tk} (h.grown hC bs Iv hx ?_ hr) rfl rfl rfl hr;have:=ht.2;simpa[hl,kh]using this
 ·refine ax y0 fun c' h1 hr=>?_;have G1:s.heap.get? P=some {cls:=.none,data:=.fields #[rawInt p.line,rawInt p.col,.ref c']}:=h1;exact wpAny_genexprCode_hit hc (h.vy hC bs G1 (by simp[TriplesOk,rawInt])) (lH hl kh) (hQ c' s (.refl s) rfl rfl rfl hr)
theorem Fo (e:aN env sc)(h:eR s.heap env x v)(hQ:Q v s):wpAny M A (eval (.Name x p) env) Q E s:=by
 refine bg h fun h1 h2 h3=>?_;refine wpAny_Name ?_ h1;rcases h3 with⟨hk,m,hm,hv⟩|⟨hk|hk,c,hc,hv⟩
 ·exact wpAny_loadName_local e.kind hk hm hv hQ
 ·exact wpAny_loadName_cell e.kind hk hc hv hQ
 ·exact wpAny_loadName_free e.kind hk hc hv hQ h2
theorem pg (hC:C.Ok)(e:aN env sc)(z:Bs C s)(hx:sc.names.lookup x=some .globalImplicit)(hd:(x==("__debug__":Str))=false)(hg:C.mg x=none)(hv:C.mb x=some v)(hQ:Q v s):wpAny M A (eval (.Name x p) env) Q E s:=Calls.Name_function_global e.kind (e.glob x hx) (Calls.loadGlobal_builtin (e.globals▸Cx.OG hC z) hg (e.builtins▸Cx.UH hC z) hv hQ) hd
set_option tactic.hygienic true in
theorem t8 (h:args.any (·.1)=false){Q:Args->Shared->Prop}(hs:wpAny M A (spliced args) (fun vs s'=>Q ⟨vs,[]⟩ s') E s):wpAny M A (evalArgs f true args []) Q E s:=by
 have key:evalArgs f true args []=(spliced args>>=fun vs=>holding (vs++[]) (pure ⟨vs,[]⟩)):=by
  unfold evalArgs;rcases args with⟨⟩;case nil=>rfl
  case cons x r=>
   obtain⟨b,t⟩:=x;rcases b with⟨⟩;case true=>simp at h
   case false=>rfl
 rw[key];exact Z8 (wpAny_mono hs (fun vs s1 p1=>wpAny_holding (Z0 p1)) fun y y x=>x)
theorem z7 (hC:C.Plain){a:Str}(e:aN env sc)(i:In C vol env vars s)(ha:vars.lookup a=some (.val (.tuple ds)))(Ib:strsOf ds=some ys)(hf:sc.names.lookup ("filter":Str)=some .globalImplicit)(hg:sc.names.lookup ("len":Str)=some .globalImplicit)(hQ:∀t items h' tk,h'.IsTuple t items->StrsAre items.toList ys->¬C.T t->(∀b o,s.heap.get? b=some o->h'.get? b=some o)->h'.IsTupleIter s.heap.objs.size t 0->lN h' (s.heap.objs.size+1) s.heap.objs.size->h'.objs.size=s.heap.objs.size+2->t<s.heap.objs.size->Q (.ref (s.heap.objs.size+1)) {s with heap:=h',toks:=tk}):wpAny (model C.prog C.w) A (eval (.Call (.Name "filter" fp) [.Name "len" gp,.Name a ap] [] pf) env) Q E s:=by
 show wpAny _ A (eval (.Name "filter" fp) env>>=fun v=>callWith pf v [] (backTo pf (starEach [.Name "len" gp,.Name a ap] env)) (backToKw pf (keywordEach [] env))) Q E s
 refine Z8 (pg hC.ok e i.bs hf (by decide) (hC.none _ (by decide)) (hC.b (x:="filter") (v:=.type "filter") (by kernel_rfl)) ?_)
 refine PySem.callWith_type rfl (t8 rfl ?_)
 refine wpAny_items_cons (pg hC.ok e i.bs hg (by decide) (hC.none _ (by decide)) (hC.b (x:="len") (v:=.builtin "len") (by kernel_rfl)) ?_)
 refine ax (i.lo a _ ha) fun v hv hr=>?_
 refine wpAny_items_cons (Fo e hv ?_)
 refine wpAny_items_nil ?_
 cases hr with| @tuple t o vs k _ Ic ho hc hd hr=>
 have ht:s.heap.IsTuple t vs.toArray:=⟨o,ho,hc,k,hd⟩
 refine yx ht fun h' hk h1 h2 hsz=>?_
 exact hQ t vs.toArray h' s.toks ⟨o,hk _ _ ho,hc,k,hd⟩ (by simpa using hr.strs Ib) (fun z=>Ic (i.vo.tabs t z)) hk h1 h2 hsz (Heap.lt_size ho)
theorem jQ (h:StrsAre vs ys):StrsAre (vs.filter et) (ys.filter fun y=>y.length !=0):=by
 induction h with
 |nil=>exact .nil
 |cons y t r ih=>rw[List.filter_cons,List.filter_cons];cases h:(y.length !=0)with|true=>simp only[et,h,if_true];exact .cons y t ih|false=>simp only[et,h,ZG,if_false];exact ih
theorem wV (h:StrsAre vs ys):∀{v},v∈vs->∃y t,v=.str y t/\y∈ys:=by
 induction h with
 |nil=>exact fun h=>nomatch h
 |cons y t r ih=>
  intro v h;refine Z4 (Zy h) (fun q=>?_) fun q=>?_
  ·exact⟨y,t,q,Z6⟩
  ·exact(ih q).elim fun y' h=>h.elim fun t' h=>⟨y',t',h.1,Z7 _ h.2⟩
set_option tactic.hygienic true in
theorem wX (h:StrsAre vs ys):∀{j:Nat}{v},vs[j]?=some v->∃y t,v=.str y t/\ys[j]?=some y:=by
 induction h with
 |nil=>exact fun h=>aa h
 |cons y t r ih=>
  intro j v h;rcases j with⟨⟩;case zero=>exact⟨y,t,(Z9 h).symm,rfl⟩
  case succ j=>exact ih (j:=j) h
theorem wW (h:StrsAre vs ys):vs.length=ys.length:=by induction h with|nil=>rfl|cons y t r ih=>exact congrArg (·+1) ih
noncomputable def og (y:Str):Scope:={kind:=.function,names:=[(".0",.local),(y,.local)],isGenerator:=true,isCoroutine:=false}
theorem xi (n:Nat):passing (fun x=>true) n 0=List.range n:=by simp[passing]
theorem Qt (x4:Ex C s s4)(hI:s.heap.get? I=none)(XT:s4.heap.get? Cz=none)(Q9:∀b∈wr,b=Cz\/b=I)(XK:∀o vs x t,s4.heap.get? I=some o->o.data=.fields vs->vs[1]?≠some (.str x t))(k5:∀b o,s4.heap.get? b=some o->s5.heap.get? b=some o)(Xa:AllBare s4.gens->AllBare s5.gens)(WK:s5.os=s4.os)(m:Moved wr (GenOnlyQ g) s5 s')(k:Nat):Ex C s {s' with toks:=k}:=by
 have keep:∀b o,s4.heap.get? b=some o->b≠I->s'.heap.get? b=some o:=fun b o e hb=>m.heap b o (fun hm=>by
  refine Z4 (Q9 b hm) (fun q=>?_) fun q=>?_
  ·subst q;rw[XT]at e;exact aa e
  ·exact hb q) (k5 b o e)
 refine⟨fun b o e t f=>keep b o (x4.keep b o e t f) fun q=>by(subst q;rw[hI]at e;exact aa e),fun b o f e=>(let⟨o1,e1,d1⟩:=x4.nj b o f e;⟨o1,keep b o1 e1 fun q=>(by subst q;rw[hI]at e;exact aa e),d1⟩),fun z=>?_⟩;have z4:=x4.bs z;refine⟨fun b o e t=>keep b o (z4.keep b o e t) fun q=>?_,fun c P p q mm=>?_,?_,?_,fun a f=>(z4.alive a f).data fun o e=>.of (keep a o e fun q=>?_)⟩
 ·subst q;have:=z.keep b o e t;rw[hI]at this;exact aa this
 ·have Vk:P≠I:=by rintro rfl;have hT:C.T P:=⟨c,p,q,mm⟩;rcases z.tab c P p q mm with e|⟨_,e,_⟩<;>(rw[hI]at e;exact aa e)
  refine Z4 (z4.tab c P p q mm) (fun e=>?_) fun y0=>?_
  ·exact .inl (keep _ _ e Vk)
  ·refine ax y0 fun b e r=>?_;refine .inr ⟨b,keep _ _ e Vk,?_⟩;refine cL r fun b' o vs t' e1 e2 e3 e4=>?_;rcases e1 with⟨⟩;exact⟨b,o,vs,t',rfl,keep _ _ e2 (fun y=>by subst y;exact XK o vs _ _ e2 e3 e4),e3,e4⟩
 ·exact m.gens.bare (Xa z4.gens)
 ·exact m.os.trans (WK.trans z4.os)
 ·subst q;refine jJ (z.alive a f) fun o u u e u=>?_;rw[hI]at e;exact aa e
theorem MH (hC:C.Plain)(CH:∃bm ob,BMod C.h₀ mainGlobals C.mg bm ob)(hA:cV C n A)(ht:eW C c P p q)(mN:env.code=.ref c)(hq:env.qual++"<genexpr>"=q){a y:Str}(e:aN env sc)(i:In C vol env vars s)(ha:vars.lookup a=some (.val (.tuple ds)))(Ib:strsOf ds=some ys)(hf:sc.names.lookup ("filter":Str)=some .globalImplicit)(hg:sc.names.lookup ("len":Str)=some .globalImplicit)(hy:(y==(".0":Str))=false)(Pq:(y==("__debug__":Str))=false)(hl:ye.line=p.line)(kh:ye.col=p.col)(h2:(G2.endLine==p2.line)=true)(eT:∀z∈ys,z.length<=aM)(hQ:∀a s5 fp wr g Pz St,WalksS C.prog C.w A.in4 a fp wr (GenOnlyQ g) (ys.filter fun y=>y.length !=0).length Pz St->(∀i s,St i s->s.TypeIs (.ref a) "generator")->St 0 s5->(∀b∈fp,b<s5.heap.objs.size)->a∈fp->(∀j v,Pz j v->∃z u,(ys.filter fun y=>y.length !=0)[j]?=some z/\v=.str (Txt.strip z) u)->(∀s' k,Moved wr (GenOnlyQ g) s5 s'->Ex C s {s' with toks:=k})->Q (.ref a) s5):wpAny (model C.prog C.w) A (eval (.GeneratorExp (.Call (.Attribute (.Name y yp) "strip" G2) [] [] p2) [⟨.Name y py,.Call (.Name "filter" fp) [.Name "len" gp,.Name a ap] [] pf,[],0⟩] (og y) ye) env) Q E s:=by
 revert sc n ds p c P q py fp gp ap pf ye hC CH hA ht mN hq a e i ha Ib hf hg hy Pq hl kh h2 eT hQ
 refine no_implicit_lambda% (pn (b8 (b8 (b8 (b8 vm zv) (b8 sA inferInstance)) inferInstance) inferInstance) ?_ A C s y env ys p2 yp G2 Q E vol vars)
 generalize jF _ _=tt
 dsimp only[Bu]
 generalize tt.1.1.1.1=A,tt.1.1.1.2=C,tt.1.1.2.1=s,tt.1.1.2.2=y,tt.1.2.1.1=env,tt.1.2.1.2=ys,tt.1.2.2=p2,tt.2.1.1.1=yp,tt.2.1.1.2=G2,tt.2.1.2=Q,tt.2.2.1.1=E,tt.2.2.1.2=vol,tt.2.2.2=vars
 intro sc n ds p c P q py fp gp ap pf ye hC CH hA ht mN hq a e i ha Ib hf hg hy Pq hl kh h2 eT hQ
 have E8:(og y).names.lookup y=some NameKind.local:=by show List.lookup y [((".0":Str),NameKind.local),(y,NameKind.local)]=_;rw[ZS,hy];simp
 refine wpAny_GeneratorExp_walksQ hA.handled rfl (cl:=[]) rfl (fun z hz=>?_) (by simp[og]) E8 rfl (by have:=hA.depth;exact aX 0x200210b02 rfl this) ?_ (fun r=>rfl)
 ·simp only[og,List.mem_cons,List.mem_nil_iff,or_false]at hz;rcases hz with rfl|rfl<;>simp
 have YC:s.heap.get? s.heap.objs.size=none:=aE _
 refine z7 hC e i ha Ib hf hg fun t items h1 Hg Rf xY Wv k1 Du Qi Ww Sx=>?_
 have x1:Ex C s {s with heap:=h1,toks:=Hg}:=.of_keep k1 rfl rfl
 have yQ:=x1.bs i.bs
 have Mw:s.heap.objs.size+1≠s.heap.objs.size:=Nat.succ_ne_self _
 have L2:t≠s.heap.objs.size:=Nat.ne_of_lt Sx
 have Cy:∀v∈items.toList,∃x tk,v=Value.str x tk/\x.length<=aM:=fun v hv=>by refine eZ (wV xY hv) fun y t e m=>?_;exact⟨y,t,e,eT y m⟩
 have W0:∀A':Around,A'.handled=none->Walks C.prog C.w A' (s.heap.objs.size+1) [s.heap.objs.size+1,s.heap.objs.size,t] [s.heap.objs.size] (items.toList.filter et).length (fun j v=>(items.toList.filter et)[j]?=some v) (Bv (s.heap.objs.size+1) s.heap.objs.size t items):=fun A' z0=>uG Mw L2 Cy A' z0
 have Jz:Bv (s.heap.objs.size+1) s.heap.objs.size t items 0 h1:=⟨Qi,Rf,0,Du,by simp⟩
 refine(W0 A hA.handled).self 0 {s with heap:=h1,toks:=Hg} _ _ Jz ⟨yQ.noLimit hC.ok,?_⟩
 refine rf hC.ok ht mN hl kh hq yQ fun c' s3 x3 YN Ri Tv YG=>?_
 have ND:=x3.bs yQ
 have nT:∀b o,({s with heap:=h1,toks:=Hg}:Shared).heap.get? b=some o->(∀vs,o.data=.fields vs->vs≠#[]/\∀l cc Ry,vs≠#[rawInt l,rawInt cc,.ref Ry])->¬C.T b:=by
  intro b o eb hh y0;refine i0 y0 fun c2 p2 q2 m=>?_;refine Z4 (yQ.tab c2 b p2 q2 m) (fun e'=>?_) fun y1=>?_
  ·rw[eb]at e';obtain rfl:=Z9 e';exact(hh _ rfl).1 rfl
  ·refine ax y1 fun Ry e' r=>?_;rw[eb]at e';obtain rfl:=Z9 e';exact(hh _ rfl).2 _ _ _ rfl
 have XO:¬C.T (s.heap.objs.size+1):=by refine eD Qi fun o ho hc hd=>?_;refine nT _ o ho fun vs hv=>?_;rw[hd]at hv;rcases hv with⟨⟩;exact⟨by simp,by intro l cc Ry e;simp at e⟩
 have Fu:¬C.T s.heap.objs.size:=by refine eD Du fun o ho hc hd=>?_;refine nT _ o ho fun vs hv=>?_;rw[hd]at hv;rcases hv with⟨⟩;exact⟨by simp,by intro l cc Ry e;simp at e⟩
 have jB:Bv (s.heap.objs.size+1) s.heap.objs.size t items 0 s3.heap:=by
  refine(W0 A hA.handled).frame 0 _ _ Jz fun b hb o eb=>x3.keep b o eb ?_ ?_;all_goals simp only[List.mem_cons,List.mem_nil_iff,or_false]at hb
  rotate_left
  ·refine Z4 hb (fun y1=>?_) fun y4=>?_
   ·obtain rfl:=y1;refine eD Qi fun o' iJ n7 cB=>?_;exact yQ.dF iJ (by rw[cB];nofun)
   refine Z4 y4 (fun y2=>?_) fun y3=>?_
   ·obtain rfl:=y2;refine eD Du fun o' iJ n7 cB=>?_;exact yQ.dF iJ (by rw[cB];nofun)
   ·obtain rfl:=y3;obtain⟨o',iJ,n7,n',cB⟩:=Rf;exact yQ.dF iJ (by rw[cB];nofun)
  refine Z4 hb (fun y1=>?_) fun y4=>?_
  ·obtain rfl:=y1;exact XO
  refine Z4 y4 (fun y2=>?_) fun y3=>?_
  ·obtain rfl:=y2;exact Fu
  ·obtain rfl:=y3;exact Wv
 refine jK CH fun bm ob B=>?_
 have Mq:¬C.T bm:=by intro y0;refine i0 y0 fun c2 p2 q2 m=>?_;have h2:=(hC.ok.qg c2 bm p2 q2 m).1.2;rw[B.obj]at h2;obtain rfl:=Z9 h2;rcases B.cls with⟨⟩
 refine wpAny_builtinsFor (e.globals▸Cx.OG hC.ok ND) B.name B.ne (ND.keep _ _ B.obj Mq) B.cls B.dict B.data ?_
 obtain⟨XQ,PA,i3,U4,Xi⟩:=id jB
 have pD:∀{b:Addr}{o:Obj},s3.heap.get? b=some o->b<s3.heap.objs.size:=fun h=>Heap.lt_size h
 have TQ:s.heap.objs.size+1<s3.heap.objs.size:=by refine ax XQ fun o ho r=>?_;exact pD ho
 have TP:s.heap.objs.size<s3.heap.objs.size:=by refine ax U4 fun o ho r=>?_;exact pD ho
 have Pw:t<s3.heap.objs.size:=by refine ax PA fun o ho r=>?_;exact pD ho
 refine⟨_,_,[s.heap.objs.size],_,_,_,fun r=>true,fun j v=>∃z u,(ys.filter fun y=>y.length !=0)[j]?=some z/\v=.str (Txt.strip z) u,rfl,W0,jB,?_,ND.noLimit hC.ok,?_,?_,?_⟩
 ·intro b hb;simp only[List.mem_cons,List.mem_nil_iff,or_false]at hb;refine Z4 hb (fun y1=>?_) fun y4=>?_
  ·obtain rfl:=y1;exact TQ
  refine Z4 y4 (fun y2=>?_) fun y3=>?_
  ·obtain rfl:=y2;exact TP
  ·obtain rfl:=y3;exact Pw
 ·intro hm;have Xl:cStatics=s.heap.objs.size:=by simpa using hm
  refine ax (i.bs.noLimit hC.ok) fun mc y1 r=>?_;refine jJ y1 fun o es ep ho r=>?_;have:=Heap.lt_size ho;rw[Xl]at this;exact Nat.lt_irrefl _ this
 ·intro WC hk;refine⟨fun A' E' j v s2 m2 z0 hP hn hx Rk=>Z0 ⟨rfl,s2.heap,s2.toks,rfl,fun r r e=>e⟩,fun A' E' j v s2 m2 z0 hP r hn hx Rk=>?_⟩;refine eZ (wX (jQ xY) hP) ?_;rintro z tk (rfl) hz;have Wc:z.length<=aM:=eT z (List.mem_filter.mp (ZD hz)).1;refine wpAny_Call_method_lateS rfl rfl h2 (wpAny_Name (wpAny_loadName_local rfl E8 hn hx ?_) Pq);exact SB.strip (fun t' k=>⟨⟨z,t',hz,rfl⟩,s2.heap,k,rfl,fun r r e=>e⟩) (bx Wc)
 ·intro a h5 tk gs Ro ha TU WX W PC;have hlen:(items.toList.filter et).length=(ys.filter fun y=>y.length !=0).length:=wW (jQ xY);rw[xi,List.length_range]at W;rw[hlen]at W PC;refine hQ a _ _ _ _ _ _ W (fun j s' st=>?_) PC (fun b hb=>?_) Z6 (fun j v hv=>?_) (fun s' k m=>?_)
  ·refine aL st fun y1 r=>?_;refine sd y1 fun o nm qn ho hc r=>?_;exact⟨o,ho,hc⟩
  ·show b<h5.objs.size;rw[TU];simp only[List.mem_cons,List.mem_range]at hb;refine Z4 hb (fun y1=>?_) fun y3=>?_
   ·obtain rfl:=y1;exact Nat.lt_succ_self _
   refine Z4 y3 (fun y2=>?_) fun hb=>?_
   ·obtain rfl:=y2;exact Nat.lt_succ_of_lt ha
   ·exact Nat.lt_succ_of_lt (Nat.lt_trans hb ha)
  ·obtain⟨i',ly,z,u,hz,rfl⟩:=hv;have:i'=j:=by
    rw[List.getElem?_range]at ly
    ·obtain rfl:=Z9 ly;rfl
    ·by_cases U1:j<(ys.filter fun y=>y.length !=0).length
     ·exact U1
     ·rw[List.getElem?_eq_none (by rw[List.length_range];exact aR 0x1110032 rfl U1)]at ly;exact aa ly
   subst this;exact⟨z,u,hz,rfl⟩
  ·refine Qt (Cz:=s3.heap.objs.size) (I:=s.heap.objs.size) (s5:={s3 with heap:=h5,toks:=tk,gens:=s3.gens.push gs}) (wr:=[s3.heap.objs.size,s.heap.objs.size]) (x1.trans x3) (aE _) (aE _) (fun b hb=>by simpa using hb) (fun o vs x t' ho hd=>?_) WX (fun hb=>hb.push Ro) rfl m k;refine eD U4 fun o' iJ n7 cB=>?_;rw[ho]at iJ;obtain rfl:=Z9 iJ;rw[hd]at cB;rcases cB with⟨⟩;simp
end
noncomputable def cW (sep:Str)(ys:List Str):Str:=Txt.join sep ((ys.filter fun y=>y.length !=0).map Txt.strip)
def gW (sep:Str)(ys:List Str):Bool:=decide (ys.length<=aM)&&ys.all (fun z=>decide (z.length<=aM))&&decide ((((ys.filter fun y=>y.length !=0).map Txt.strip).map (·.length)).sum+((ys.filter fun y=>y.length !=0).map Txt.strip).length*sep.length<=16777216)
def jY (V:az)(x:Str):Option (List Str):=match V.lookup x with
 |some (.val (.tuple ds))=>strsOf ds|_=>none
set_option tactic.hygienic true in
theorem zk (h:jY V x=some ys):∃ds,V.lookup x=some (.val (.tuple ds))/\strsOf ds=some ys:=by
 unfold jY at h;cases e:V.lookup x with
 |none=>rw[e]at h;exact aa h
 |some sl=>
  rw[e]at h;rcases sl with⟨⟩;case own d=>exact aa h
  case val d=>
   rcases d with⟨⟩;case tuple u=>exact⟨u,rfl,h⟩
   all_goals (exact aa h)
def joinM (x sep a:Str):oH:=fun sc vars=>if sc.names.lookup ("filter":Str)=some .globalImplicit/\sc.names.lookup ("len":Str)=some .globalImplicit then(jY vars a).bind fun ys=>if gW sep ys=true then(bL sc x (.val (.str (cW sep ys))) vars).map .next else none else none
theorem H7 (hC:C.Plain)(CH:∃bm ob,BMod C.h₀ mainGlobals C.mg bm ob)(ht:eW C c P p q)(hq:(name++".<locals>.")++"<genexpr>"=q) {sep y a:Str} (hl:ye.line=p.line) (kh:ye.col=p.col) (h2:(G2.endLine==p2.line)=true) (h1:(Vv.endLine==p1.line)=true) (hy:(y==(".0":Str))=false) (Pq:(y==("__debug__":Str))=false):ux C n (lO C (.ref c) name) (.Assign [.Name x xp] (.Call (.Attribute (.Constant (.str sep) k0 p0) "join" Vv) [.GeneratorExp (.Call (.Attribute (.Name y yp) "strip" G2) [] [] p2) [⟨.Name y py,.Call (.Name "filter" fp) [.Name "len" gp,.Name a Ys] [] pf,[],0⟩] (og y) ye] [] p1) pos,joinM x sep a):=fun{A env}hA hK{aj sc vars W ad s fl}e S hD h E Q hQ=>aI h fun Xd h=>ao h fun ys Ib h=>aI h fun eN h=>aZ h fun b9 hb Bc=>by
 subst Bc
 refine aL Xd fun hf hg=>?_
 refine ax (zk Ib) fun ds Xh Ib=>?_
 unfold gW at eN
 simp only[ZR,List.all_eq_true,decide_eq_true_eq]at eN
 refine aL eN fun y0 L5=>?_;refine aL y0 fun Ff eT=>?_
 refine bl ?_ rfl rfl
 refine ab (m:=eval (.Constant (.str sep) k0 p0) env) (ai (wpAny_Constant_str (ab (aq ?_))))
 have x0:Ex C s {s with toks:=s.toks+1}:=.toks
 have S0:SS C aj env sc vars W ad {s with toks:=s.toks+1}:=S.ex x0
 unfold methodCall
 have CN:methodCallForm 1 (backTo p1 (starEach [.GeneratorExp (.Call (.Attribute (.Name y yp) "strip" G2) [] [] p2) [⟨.Name y py,.Call (.Name "filter" fp) [.Name "len" gp,.Name a Ys] [] pf,[],0⟩] (og y) ye] env)) (backToKw p1 (keywordEach [] env))=true:=rfl
 have X2:=CN
 first|rw[CN]|(simp only[List.length_cons,List.length_nil];rw[CN])
 refine ab (ar ?_)
 refine ai (getMethod_builtin (typeIs_str _ _ _) PySem.F.plainAttrs_str PySem.F.slot_str_join PySem.F.type_str_join GM.noRef ?_)
 dsimp only
 have Me:methodCallPos true (.Constant (.str sep) k0 p0) env Vv p1=pure p1:=by unfold methodCallPos;simp only[Bool.not_true,Bool.false_or,h1,if_true]
 rw[Me]
 refine ab (ah ?_)
 refine bQ (fun w q=>by rcases q with⟨⟩) rfl (ai (t8 rfl ?_))
 refine wpAny_items_cons (MH hC CH hA ht hK.code (by rw[hK.qual];exact hq) e S0.bV Xh Ib hf hg hy Pq hl kh h2 eT fun a s5 fp wr g Pz St WG hT xY Xc Xw hP hM=>?_)
 refine wpAny_items_nil (ai ?_)
 refine SC.joinGen WG.in4_2 hT xY Xc Xw (fun j v hv=>?_) (fun s' l m WV=>?_) ?_
 ·refine eZ (hP j v hv) ?_;rintro z u _ (rfl);exact⟨_,_,rfl⟩
 ·have UN:l.map (·.1)=(ys.filter fun y=>y.length !=0).map Txt.strip:=by
   refine aL WV fun l1 l2=>?_;have hlen:l.length=(ys.filter fun y=>y.length !=0).length:=by simpa[strValues]using l1
   refine List.ext_getElem? fun j=>?_;rw[ZP,ZP];cases hj:l[j]? with
   |none=>rw[List.getElem?_eq_none (by rw[<-hlen];exact List.getElem?_eq_none_iff.mp hj)];rfl
   |some pr=>refine eZ (hP j (.str pr.1 pr.2) (l2 j _ (by simp[strValues,hj]))) fun z u hz hv=>?_;injection hv with e1 e2;rw[hz];exact congrArg some e1
  refine⟨joinOk_of (by rw[UN];exact L5),fun t' k=>?_⟩;have xk:Ex C s {s' with toks:=k}:=x0.trans (hM s' k m);have S3:SS C aj env sc vars W ad {s' with toks:=k}:=S.ex xk;show aK _ A (standAt xp>>=fun w=>bindName env x (.str _ t')) _ E _;rw[UN];refine ab (aq (ew e S3 hD hb (.str _ _) fun s4 m4 S4 Mx w=>hQ _ _ ⟨rfl,W,ad,(Mv.ka xk).trans m4,S4,Mx⟩))
 ·exact bx (ZK (List.length_filter_le _ _) Ff)
end Mine.Internal
namespace Mine.Internal
namespace Re
section
open PySem.Sre
noncomputable def code:Array Nat:= #[14,4,0,1,4294967295,17,0,7,14,24,10,1,4294967295,13,5,22,48,57,0,1,15,17,15,13,11,9,0,26624,2147483648,0,0,0,0,0,0,15,2,0,17,1,1]
noncomputable def gY (c:Nat):Bool:=48<=c&&c<=57
noncomputable def jw (c:Nat):Bool:=c==43||c==45||c==46||c==95
theorem Uk (c:Nat)(se:Seen):∃D9,accepts code 13 c se=.ok (gY c,D9):=by have h:accepts code 13 c se=(if 48<=c&&c<=57 then .ok (true,se.add 22)else .ok (false,(se.add 22).add 0)):=rfl;rw[h];unfold gY;cases(decide (48<=c)&&decide (c<=57))<;>exact⟨_,rfl⟩
theorem R0:∀c<256,(code.getD (25+(1+c/32)) 0).testBit (c%32)=jw c:=by decide +kernel
theorem Uj (c:Nat)(se:Seen):∃D9,accepts code 23 c se=.ok (jw c,D9):=by
 have h:accepts code 23 c se=(if decide (c<256)&&(code.getD (25+(1+c/32)) 0).testBit (c%32)then .ok (true,se.add 9)else .ok (false,(se.add 9).add 0)):=rfl;rw[h];by_cases hc:c<256
 ·rw[R0 c hc,decide_eq_true hc];cases jw c<;>exact⟨_,rfl⟩
 ·rw[decide_eq_false hc];have:jw c=false:=by unfold jw;simp only[Bool.or_eq_false_iff,ZJ];exact bC 0x5fa0232ea0232da0232ba023444000001008f0032 rfl hc
  rw[this];exact⟨_,rfl⟩
def nd (text:Array Nat):Nat->Nat->Nat|0,_=>0|n+1,p=>if gY (text.getD p 0)then nd text n (p+1)+1 else 0
theorem uR (text:Array Nat):∀(n p f:Nat)(se:Seen),∃D9,run code text 13 n p f se=.ok (f+nd text n p,D9):=by
 intro n;induction n with
 |zero=>intro p f se;exact⟨se,rfl⟩
 |succ n ih=>intro p f se;refine aJ (Uk (text.getD p 0) se) fun Nm h1=>?_;unfold run nd;rw[h1];cases hd:gY (text.getD p 0)with|false=>exact⟨Nm,rfl⟩|true=>refine aJ (ih (p+1) (f+1) Nm) fun Ob h2=>?_;refine⟨Ob,?_⟩;show run code text 13 n (p+1) (f+1) Nm=_;rw[h2,Z1 rfl];congr 2;exact aR 0x91b0b190bb21 rfl
set_option tactic.hygienic true in
theorem bR (h:m.outcome.isSome=true):M.runFor y m=m:=by
 rcases y with⟨⟩;case zero=>rfl
 case succ y=>unfold M.runFor;rw[Z1 h]
theorem aV (h:m.outcome.isSome=false):M.runFor (y+1) m=M.runFor y m.step:=by rw[M.runFor];rw[ZX (by rw[h];exact ZZ)]
theorem bk:∀(x y:Nat)(m:M),M.runFor (x+y) m=M.runFor y (M.runFor x m):=by
 intro x;induction x with
 |zero=>intro y m;rw[Nat.zero_add];rfl
 |succ x ih=>intro y m;cases h:m.outcome.isSome with|true=>rw[bR h,bR h,bR h]|false=>rw[Nat.succ_add,aV h,aV h];exact ih y m.step
theorem dK (h:m.outcome=none):M.runFor 1 m=m.step:=by rw[aV (by rw[h];rfl)];rfl
def mk (text:Array Nat)(lim start pc pos handed:Nat)(om:Bool)(a b:Option Nat)(lm li:Int)(fr:List Frame)(wt:Nat)(Vw:Option Bool)(seen:Seen):M:={code,text,lim,start,lastStart:=lim,wholeText:=false,mustAdvance:=false,pc,pos,handed,outermost:=om,marks:= #[a,b],lastmark:=lm,lastindex:=li,loops:= #[],inner:=none,frames:=fr,weight:=wt,answer:=Vw,seen,outcome:=none}
end
section
open PySem.Sre
variable {text:Array Nat} {lim s:Nat} {om:Bool} {a b:Option Nat} {se:Seen} {h:Nat} {lm li:Int}
noncomputable def f0 (s:Nat)(om:Bool):Frame:={wait:=.nextStart,pc:=5,pos:=s,outermost:=om}
noncomputable def k0:Kept:={lastmark:=0,lastindex:= -1}
def f1 (s:Nat)(om:Bool)(pc:Nat):Frame:={wait:=.nextBranch,pc,pos:=s,outermost:=om,kept:=k0}
def at_ (text:Array Nat)(lim s:Nat)(om:Bool)(a b:Option Nat)(se:Seen):M:=mk text lim s 5 s s om a b (-1) (-1) [f0 s om] 1 none se
theorem e1:(at_ text lim s om a b se).step=mk text lim s 7 s s om (some s) b 0 (-1) [f0 s om] 1 none (se.add 17):=rfl
theorem e2:(mk text lim s 7 s s om (some s) b 0 (-1) [f0 s om] 1 none se).step=mk text lim s 9 s s om (some s) b 0 (-1) [f1 s om 8,f0 s om] 2 none (se.add 7):=rfl
theorem e3:(mk text lim s 9 s s om (some s) b 0 (-1) [f1 s om 8,f0 s om] 2 none se).step=(if(((1:Nat):Int)>(lim:Int)-(s:Int))then mk text lim s 9 s s om (some s) b 0 (-1) [f1 s om 8,f0 s om] 2 (some false) (se.add 24)else match PySem.Sre.run code text 13 (min 4294967295 ((lim:Int)-(s:Int)).toNat) s 0 ((se.add 24).add 13)with
   | .error why=>(mk text lim s 9 s s om (some s) b 0 (-1) [f1 s om 8,f0 s om] 2 none (se.add 24)).stick why
   | .ok (n,seen)=>if n<1 then mk text lim s 9 s s om (some s) b 0 (-1) [f1 s om 8,f0 s om] 2 (some false) seen else mk text lim s 20 (s+n) (s+n) om (some s) b 0 (-1) [{wait:=.giveBack,pc:=9,pos:=s+n,outermost:=om,count:=n,kept:=k0},f1 s om 8,f0 s om] 3 none seen):=rfl
def X (text:Array Nat)(lim s:Nat)(om:Bool)(b:Option Nat)(se:Seen):M:=mk text lim s 9 s s om (some s) b 0 (-1) [f1 s om 8,f0 s om] 2 (some false) se
def Y (text:Array Nat)(lim s:Nat)(om:Bool)(b:Option Nat)(se:Seen):M:=mk text lim s 23 s s om (some s) b 0 (-1) [f1 s om 22,f0 s om] 2 none se
theorem e4:(X text lim s om b se).step=Y text lim s om b se:=rfl
theorem e5:(Y text lim s om b se).step=(if s>=lim then mk text lim s 23 s s om (some s) b 0 (-1) [f1 s om 22,f0 s om] 2 (some false) (se.add 13)else match PySem.Sre.accepts code 23 (text.getD s 0) (se.add 13)with
  | .error why=>(mk text lim s 23 s s om (some s) b 0 (-1) [f1 s om 22,f0 s om] 2 none (se.add 13)).stick why
  | .ok (false,seen)=>mk text lim s 23 s s om (some s) b 0 (-1) [f1 s om 22,f0 s om] 2 (some false) seen
  | .ok (true,seen)=>mk text lim s 35 (s+1) s om (some s) b 0 (-1) [f1 s om 22,f0 s om] 2 none seen):=rfl
theorem X6:(mk text lim s 23 s s om (some s) b 0 (-1) [f1 s om 22,f0 s om] 2 (some false) se).step=mk text lim s 22 s s om (some s) b 0 (-1) [f0 s om] 1 (some false) se:=rfl
theorem X5:(mk text lim s 22 s s om (some s) b 0 (-1) [f0 s om] 1 (some false) se).step=if s<lim then at_ text lim (s+1) false (some s) b se else mk text lim s 5 s s om (some s) b 0 (-1) [] 0 (some false) se:=rfl
theorem e6:(M.runFor 2 (mk text lim s 23 s s om (some s) b 0 (-1) [f1 s om 22,f0 s om] 2 (some false) se))=if s<lim then at_ text lim (s+1) false (some s) b se else mk text lim s 5 s s om (some s) b 0 (-1) [] 0 (some false) se:=by rw[aV rfl,X6,aV rfl,X5];rfl
structure Nd (m:M) (s e:Nat):Prop where
 out:m.outcome=some .matched
 start:m.start=s
 handed:m.handed=e
 marks:m.marks= #[some s,some e]
 last:m.lastmark=1
end
section
open PySem.Sre
variable {text:Array Nat} {lim s:Nat} {om:Bool} {a b:Option Nat} {se:Seen} {h:Nat} {lm li:Int} {p:Nat} {g:Frame} {fr:List Frame} {wt:Nat} {Vw:Option Bool}
theorem j1:(mk text lim s 35 p h om a b lm li fr wt none se).step=mk text lim s 38 p h om a b lm li fr wt none (se.add 15):=rfl
theorem j2:(mk text lim s 20 p h om a b lm li fr wt none se).step=mk text lim s 38 p h om a b lm li fr wt none (se.add 15):=rfl
theorem j3:(mk text lim s 38 p h om a b 0 li fr wt none se).step=mk text lim s 40 p h om a (some p) 1 1 fr wt none (se.add 17):=by show M.mark (mk text lim s 38 p h om a b 0 li fr wt none (se.add 17)) 1=_;unfold M.mark;simp[mk];decide
theorem j4:(mk text lim s 40 p h om a b lm li fr wt none se).step=mk text lim s 40 p p om a b lm li fr wt (some true) (se.add 1):=by rcases om with⟨⟩<;>rfl
theorem j5:(mk text lim s q p h om a b lm li ({wait:=.giveBack,pc:=9,pos:=p,outermost:=om,count:=c,kept:=k0}::fr) wt (some true) se).step=mk text lim s 9 p h om a b lm li fr (wt-1) (some true) se:=rfl
theorem j6:(mk text lim s q p h om a b lm li (f1 s om k::fr) wt (some true) se).step=mk text lim s k s h om a b lm li fr (wt-1) (some true) se:=rfl
theorem j7:(mk text lim s q p h om a b lm li (f0 s om::fr) wt (some true) se).step=mk text lim s 5 s h om a b lm li fr (wt-1) (some true) se:=rfl
theorem j8:(mk text lim s q p h om a b lm li [] wt (some true) se).step={mk text lim s q p h om a b lm li [] wt (some true) se with outcome:=some .matched}:=rfl
end
section
open PySem.Sre
variable {text:Array Nat} {lim s:Nat} {om:Bool} {a b:Option Nat} {se:Seen} {h:Nat} {lm li:Int}
theorem Tc:Nd (M.runFor 7 (mk text lim s 35 (s+1) s om (some s) b 0 (-1) [f1 s om 22,f0 s om] 2 none se)) s (s+1):=by rw[aV rfl,j1,aV rfl,j3,aV rfl,j4,aV rfl,j6,aV rfl,j7,aV rfl,j8];exact⟨rfl,rfl,rfl,rfl,rfl⟩
theorem Td:Nd (M.runFor 7 (mk text lim s 20 (s+n) (s+n) om (some s) b 0 (-1) [{wait:=.giveBack,pc:=9,pos:=s+n,outermost:=om,count:=n,kept:=k0},f1 s om 8,f0 s om] 3 none se)) s (s+n):=by rw[aV rfl,j2,aV rfl,j3,aV rfl,j4,aV rfl,j5,aV rfl,j6,aV rfl,j7,aV rfl,j8];exact⟨rfl,rfl,rfl,rfl,rfl⟩
theorem Jw:(M.runFor 3 (at_ text lim s om a b se))=(mk text lim s 9 s s om (some s) b 0 (-1) [f1 s om 8,f0 s om] 2 none ((se.add 17).add 7)).step:=by rw[aV rfl,e1,aV rfl,e2,aV rfl];rfl
theorem Ut (hn:¬(s<lim)\/gY (text.getD s 0)=false):∃D9,M.runFor 3 (at_ text lim s om a b se)=X text lim s om b D9:=by
 rw[Jw,e3];by_cases hl:s<lim
 ·rw[ZX (by exact aR 0x9af0af1afc731002 rfl hl)];refine aJ (uR text (min 4294967295 ((lim:Int)-(s:Int)).toNat) s 0 ((((se.add 17).add 7).add 24).add 13)) fun D9 hr=>?_;rw[hr];have hz:nd text (min 4294967295 ((lim:Int)-(s:Int)).toNat) s=0:=by cases hk:min 4294967295 ((lim:Int)-(s:Int)).toNat with|zero=>rfl|succ k=>unfold nd;rw[hn.resolve_left (by exact aR 0x100331002 rfl hl)];rfl
  rw[hz];exact⟨D9,rfl⟩
 ·rw[Z1 (by exact aR 0x9af0af1afc710032 rfl hl)];exact⟨_,rfl⟩
def find (text:Array Nat):Nat->Nat->Option (Nat×Nat)|0,_=>none|n+1,s=>if gY (text.getD s 0)then some (s,s+nd text (n+1) s)else if jw (text.getD s 0)then some (s,s+1)else find text n (s+1)
theorem search {text:Array Nat}{lim:Nat}:∀(n s:Nat)(om:Bool)(a b:Option Nat)(se:Seen),lim<4294967295->s+n=lim->match find text n s with
  |some (p,e)=>Nd (M.runFor (7*n+11) (at_ text lim s om a b se)) p e|none=>(M.runFor (7*n+11) (at_ text lim s om a b se)).outcome=some .failed:=by
 intro n;induction n with
 |zero=>
  intro s om a b se hl hs;refine aJ (Ut (text:=text) (lim:=lim) (s:=s) (om:=om) (a:=a) (b:=b) (se:=se) (.inl (aR 0x1003180b22 rfl hs))) fun Nm h1=>?_;show(M.runFor (7*0+11) (at_ text lim s om a b se)).outcome=_;rw[show 7*0+11=3+(1+(1+(2+(1+3))))from rfl,bk,h1,bk,dK rfl,e4,bk,dK rfl,e5,Z1 (by exact aR 0x11180b22 rfl hs),bk,e6,ZX (by exact aR 0x1003180b22 rfl hs),bk,dK rfl];rw[bR]
  ·rfl
  ·rfl
 |succ n ih=>
  intro s om a b se hl hs;unfold find;cases hd:gY (text.getD s 0)with
  |true=>
   rw[Z1 rfl];show Nd _ _ _;refine aJ (uR text (min 4294967295 ((lim:Int)-(s:Int)).toNat) s 0 ((((se.add 17).add 7).add 24).add 13)) fun D9 hr=>?_;have hm:min 4294967295 ((lim:Int)-(s:Int)).toNat=n+1:=aX 0x92b1af0afcbfffffffff8fdf2092b1b2ffffffff8f003 rfl hl hs;rw[hm]at hr;have hp:¬(0+nd text (n+1) s<1):=by unfold nd;rw[hd];simp
   rw[show 7*(n+1)+11=3+(7+(7*n+8)) by exact bC 0x8a007db07ab03ab0ba90b07db21 rfl,bk,Jw,e3,ZX (by exact aX 0x9af1af0afc7392b1af0afcbfffffffff8fdf22 rfl hm),hm,hr];dsimp only;rw[ZX hp,bk,Nat.zero_add];have hh:=Td (text:=text) (lim:=lim) (s:=s) (om:=om) (b:=b) (se:=D9) (n:=nd text (n+1) s);rw[bR (by rw[hh.out];rfl)];exact hh
  |false=>
   rw[ZX ZZ];refine aJ (Ut (text:=text) (lim:=lim) (s:=s) (om:=om) (a:=a) (b:=b) (se:=se) (.inr hd)) fun Nm h1=>?_;refine aJ (Uj (text.getD s 0) (Nm.add 13)) fun Ob h2=>?_;cases hp:jw (text.getD s 0)with
   |true=>rw[Z1 rfl];show Nd _ _ _;rw[hp]at h2;rw[show 7*(n+1)+11=3+(1+(1+(7+(7*n+6)))) by exact bC 0x6a007db07ab9b9b03ab0ba90b07db21 rfl,bk,h1,bk,dK rfl,e4,bk,dK rfl,e5,ZX (by exact aX 0x213291b0b22 rfl hs),h2];dsimp only;rw[bk];have hh:=Tc (text:=text) (lim:=lim) (s:=s) (om:=om) (b:=b) (se:=Ob);rw[bR (by rw[hh.out];rfl)];exact hh
   |false=>
    rw[ZX ZZ];rw[hp]at h2;have:=ih (s+1) false (some s) b Ob hl (aX 0x2190bb2291b0b22 rfl hs);have key:M.runFor (7*(n+1)+11) (at_ text lim s om a b se)=M.runFor (7*n+11) (at_ text lim (s+1) false (some s) b Ob):=by rw[show 7*(n+1)+11=3+(1+(1+(2+(7*n+11)))) by exact bC 0xba007db02ab9b9b03ab0ba90b07db21 rfl,bk,h1,bk,dK rfl,e4,bk,dK rfl,e5,ZX (by exact aX 0x213291b0b22 rfl hs),h2];dsimp only;rw[bk,e6,Z1 (by exact aX 0x200291b0b22 rfl hs)]
    rw[key];exact this
theorem vH (s:Nat)(hl:lim<4294967295)(hs:s<=lim):match find text (lim-s) s with
  |some (p,e)=>Nd (M.runFor (7*lim+12) (forSearch code text 1 s lim false)) p e|none=>(M.runFor (7*lim+12) (forSearch code text 1 s lim false)).outcome=some .failed:=by
 by_cases hz:s=lim
 ·subst hz;rw[Nat.sub_self];show(M.runFor (7*s+12) (forSearch code text 1 s s false)).outcome=_;have h:forSearch code text 1 s s false=(if decide (s>s)||decide (s-s<1)then(mk text s s 5 s s true none none (-1) (-1) [] 0 (some false) (({}:Seen).add 14)|> fun m=>{m with lastStart:=0})else at_ text s s true none none (({}:Seen).add 14)):=rfl;rw[h,Z1 (by simp),show 7*s+12=1+(7*s+11) by exact bC 0xba007db9b0ca007db21 rfl,bk,dK rfl];rw[bR rfl];rfl
 ·have h:forSearch code text 1 s lim false=(if decide (s>lim)||decide (lim-s<1)then(mk text lim s 5 s s true none none (-1) (-1) [] 0 (some false) (({}:Seen).add 14)|> fun m=>{m with lastStart:=0})else at_ text lim s true none none (({}:Seen).add 14)):=rfl;have hc:¬((decide (s>lim)||decide (lim-s<1))=true):=by simp;exact aR 0x801c23101410231013 rfl hs hz
  rw[h,ZX hc];have:=search (text:=text) (lim:=lim) (lim-s) s true none none (({}:Seen).add 14) hl (aR 0x101c0b21012 rfl hs);cases hf:find text (lim-s) s with
  |none=>rw[hf]at this;dsimp only at this ⊢;rw[show 7*lim+12=(7*(lim-s)+11)+(7*s+1) by exact aR 0x9007db0ba01c07dbb0ca107db21012 rfl hs,bk,bR (by rw[this];rfl)];exact this
  |some r=>obtain⟨p,e⟩:=r;rw[hf]at this;dsimp only at this ⊢;rw[show 7*lim+12=(7*(lim-s)+11)+(7*s+1) by exact aR 0x9007db0ba01c07dbb0ca107db21012 rfl hs,bk,bR (by rw[this.out];rfl)];exact this
end
end Re
end Mine.Internal
namespace Mine.Internal
namespace Re
section
open PySem PySem.W PyProof.Rows PySem.Builtin.Re
theorem JI (text:Array Nat):∀(n p:Nat),nd text n p<=n:=by
 intro n;induction n with
 |zero=>intro p;exact ZQ _
 |succ n ih=>
  intro p;unfold nd;split
  ·have:=ih (p+1);exact aR 0x91b90b11012 rfl this
  ·exact bC 0x90b811 rfl
theorem Bk:∀{n s p e:Nat},find text n s=some (p,e)->s<=p/\p<e/\e<=s+n:=by
 intro n;induction n with
 |zero=>intro s p e h;exact aa h
 |succ n ih=>
  intro s p e h;unfold find at h;split at h
  ·rename_i hd;rcases h with⟨⟩;have h1:=JI text (n+1) s;have h2:0<nd text (n+1) s:=by unfold nd;rw[hd];simp
   exact aX 0x91b2b02b102b204221408091b013 rfl h1 h2
  ·split at h
   ·rcases h with⟨⟩;exact aR 0x91b0b90b190b00400141 rfl
   ·have:=ih h;exact cZ 0x93b0b2121041014390bb212104190b142 rfl this
noncomputable def cut (text:Array Nat)(b e:Nat):Str:=⟨text.extract b e⟩
def wq (text:Array Nat)(lim:Nat):Nat->Nat->List Str
 |0,last=>[cut text last lim]
 |k+1,last=>match find text (lim-last) last with
  |none=>[cut text last lim]|some (p,e)=>cut text last p::cut text p e::wq text lim k e
end
section
open PySem PySem.W PyProof.Rows PySem.Builtin.Re
variable {M:Model} {A:Around} {E:Value->Shared->Prop} {s:Shared}
theorem yk {Q:Sre.M->Shared->Prop}:∀(k n:Nat)(m:Sre.M),k<n->(m.runFor (4*k)).outcome.isSome=true->Q (m.runFor (4*k)) s->wpAny M A (reDrive n m) Q E s
 |k,0,m,hk,_,_=>absurd hk (Nat.not_lt_zero _)
 |0,n+1,m,hk,ho,hq=>by unfold reDrive;have hm:m.runFor reTurnSteps=m:=bR ho;simp only[hm];have iJ:m.outcome.isSome=true:=ho;rw[iJ,Z1 rfl];exact Z0 hq
 |k+1,n+1,m,hk,ho,hq=>by
  unfold reDrive;have hs:m.runFor (4*(k+1))=(m.runFor 4).runFor (4*k):=by rw[<-bk];congr 1;exact bC 0x4d04ab90b04d21 rfl
  have h4:reTurnSteps=4:=rfl;simp only[h4];by_cases h:(m.runFor 4).outcome.isSome=true
  ·rw[Z1 h];rw[hs,bR h]at hq;exact Z0 hq
  ·rw[ZX h];rw[hs]at ho hq;exact Z8 (wpAny_rule (yk k n _ (aR 0x10091b90b02 rfl hk) ho hq))
set_option tactic.hygienic true in
theorem qt {Q:Option Sre.M->Shared->Prop}(k:Nat)(m:Sre.M)(hk:k<2^64)(ho:(m.runFor (4*k)).outcome.isSome=true)(hs:∀why,(m.runFor (4*k)).outcome≠some (.stuck why))(h1:(m.runFor (4*k)).outcome=some .matched->Q (some (m.runFor (4*k))) s)(h2:(m.runFor (4*k)).outcome=some .failed->Q none s):wpAny M A (reRunToEnd m) Q E s:=by
 unfold reRunToEnd;refine Z8 (yk k (2^64) m hk ho ?_);refine Z8 (wpAny_forIn_list _ (fun x x s'=>s'=s) _ ?_ ?_ _ _ rfl)
 ·rintro i rest ⟨⟩ s' rfl;split
  ·exact Z8 (wpAny_rule (Z0 rfl))
  ·exact Z0 rfl
 ·rintro⟨⟩ s' rfl;cases hc:(m.runFor (4*k)).outcome with
  |none=>rw[hc]at ho;(rcases ho with⟨⟩)
  |some o=>
   rcases o with⟨⟩;case matched=>exact Z0 (h1 hc)
   case failed=>exact Z0 (h2 hc)
   case stuck why=>exact absurd hc (hs why)
theorem zr {Q:Option Sre.M->Shared->Prop}{t:ReTarget}{start:Nat}(hc:t.code=code)(hg:t.groups=1)(hl:t.lim<16777217)(hs:start<=t.lim)(h1:∀m p e,find t.text (t.lim-start) start=some (p,e)->Nd m p e->Q (some m) s)(h2:find t.text (t.lim-start) start=none->Q none s):wpAny M A (reNextFound t start false) Q E s:=by
 unfold reNextFound;rw[hc,hg];have hm:=vH (text:=t.text) (lim:=t.lim) start (bC 0xffffffff8f00010000018f002 rfl hl) hs;have hr:∀{m:Sre.M},(m.runFor (7*t.lim+12)).outcome.isSome=true->m.runFor (4*(7*t.lim+12))=m.runFor (7*t.lim+12):=fun{m}h=>by rw[show 4*(7*t.lim+12)=(7*t.lim+12)+(3*(7*t.lim+12)) by exact bC 0xca007db03d0ca007dbb0ca007db04d21 rfl,bk,bR h]
 cases hf:find t.text (t.lim-start) start with
 |none=>rw[hf]at hm;dsimp only at hm;have sI:=hr (by rw[hm];rfl);refine qt (7*t.lim+12) _ (by lia) (by rw[sI,hm];rfl) (fun why=>by rw[sI,hm];nofun) (fun h=>by rw[sI,hm]at h;rcases h with⟨⟩) fun x=>h2 hf
 |some r=>obtain⟨p,e⟩:=r;rw[hf]at hm;dsimp only at hm;have sI:=hr (by rw[hm.out];rfl);refine qt (7*t.lim+12) _ (by lia) (by rw[sI,hm.out];rfl) (fun why=>by rw[sI,hm.out];nofun) (fun x=>?_) (fun h=>by rw[sI,hm.out]at h;rcases h with⟨⟩);rw[sI];exact h1 _ p e hf hm
end
section
open PySem PySem.W PyProof.Rows PySem.F PySem.Builtin.Re
theorem qz:PlainAttrs "re.Pattern":=by refine⟨⟨"object.__getattribute__",by rw[ZC,ZM];kernel_rfl,by decide +kernel⟩,by rw[ZC,ZM];kernel_rfl⟩
theorem qo:PySem.Slot "re.Pattern" "split" "re.Pattern.split":=.of (owner:="re.Pattern") (n:="split") (by rw[ZC,ZM];kernel_rfl) (by decide +kernel) (by decide +kernel) (by decide +kernel) (by first|exact .inl (by decide +kernel)|exact .inr (by decide +kernel)) (by rw[isSubtype_type];kernel_rfl)
theorem yW:typeOf (.builtin "re.Pattern.split")=pure (.type "method_descriptor"):=by show builtinType _=_;rw[builtinType_eq_fast];kernel_rfl
theorem yj:entryFor table "re.Pattern.split"=some Builtin.«re.Pattern.split»:=entryFor_of_tree (by kernel_rfl)
theorem B5:Manifest.owners.lookup (String.ofList ['n','r','e','t','t','a','P','.','e','r'].reverse)=some Manifest.sig_re_Pattern:=by kernel_rfl
theorem wh (a b:Value):argsOk "re.Pattern.split" ⟨[a,b],[]⟩:=by unfold argsOk;rw[signature?_of (id:="re.Pattern.split") (n:=['t','i','l','p','s']) (o:=['n','r','e','t','t','a','P','.','e','r']) (by kernel_rfl) B5];kernel_rfl
theorem Cc (v:Value):reNamed "re.Pattern.split" "split" ["string","maxsplit"] 1 [v] []=pure [some v,none]:=by rfl
structure gf (h:Heap) (a c:Addr):Prop where
 pat:∃o vs,h.get? a=some o/\o.cls=.type "re.Pattern"/\o.dict=none/\o.data=.fields vs/\reRawNat (vs.getD 2 .none)=1/\vs.getD 5 .none=.ref c/\reRawNat (vs.getD 6 .none)=0
 YS:∃o items n,h.get? c=some o/\o.cls=.type "tuple"/\o.data=.seq items n/\(items.map reRawOf).map (·.toNat)=code
end
section
open PySem PySem.W PyProof.Rows PySem.F PySem.Builtin.Re
variable {M:Model} {A:Around} {E:Value->Shared->Prop} {s:Shared} {vol:Addr->Prop}
theorem DI (hp:gf s.heap a c){Q:ReTarget->Shared->Prop}(hQ:∀T:ReTarget,T.code=code->T.groups=1->T.text=t.cps->T.lim=t.cps.size->T.kind=0->Q T s):wpAny M A (reWholeTarget (.ref a) (.str t tk)) Q E s:=by obtain⟨y0,y1⟩:=hp;refine DE y0 fun o vs ho hc hn hd h2 y2=>?_;refine aL y2 fun h5 h6=>?_;refine jz y1 fun oc items n Dt x Fq mN=>?_;unfold reWholeTarget;refine Z8 (wpAny_fieldsOf ho hd ?_);have h1:reTextOf (.str t tk)=pure (t.cps,0):=rfl;rw[h1,h6];refine Z8 (Z0 ?_);dsimp only;rw[ZX (by decide),ZX (by decide)];have h3:reNoCollectionInside (.str t tk) 0=pure ():=rfl;rw[h3];refine Z8 (Z0 ?_);refine Z8 ?_;unfold reRawItems;rw[h5];refine Z8 (wpAny_seqItems Dt Fq (Z0 (Z0 ?_)));exact hQ _ mN h2 rfl rfl rfl
theorem jV {t:Str}{b e:Nat}(ht:t.length<=65536){Q:Value->Shared->Prop}(hQ:Q (.str (cut t.cps b e) s.toks) {s with toks:=s.toks+1}):wpAny M A (reSlice t.cps 0 b e) Q E s:=by
 unfold reSlice;rw[Z1 (by rfl)];refine wpAny_mkStr hQ ?_;have h1:(t.cps.extract b e).size<=t.cps.size:=by rw[Array.size_extract];exact aX 0x1210dfc11 rfl
 have h2:t.cps.size<=65536:=ht;exact ZK h1 (ZK h2 (by decide))
set_option tactic.hygienic true in
theorem zo (text:Array Nat)(lim:Nat):∀(f last:Nat),(wq text lim f last).length<=2*f+1:=by
 intro f;induction f with
 |zero=>intro last;simp[wq]
 |succ f ih=>
  intro last;unfold wq;split
  ·simp
  ·have:=ih;rename_i p e _;have:=this e;simp;exact aR 0x91b02d90b19102db012 rfl this
def Nb (vol:Addr->Prop)(s:Shared)(text:Array Nat)(total:List Str)(rest:List Nat)(b:Array Value×Nat×Nat×Bool×Int×Bool)(s':Shared):Prop:=∃k acc,s'={s with toks:=s.toks+k}/\aH s.heap vol b.1.toList (acc.map .str)/\b.2.2.2.1=false/\b.2.1=b.2.2.1/\b.2.1<=text.size/\((b.2.2.2.2.2=false/\text.size-b.2.1<rest.length/\∃f,text.size-b.2.1<=f/\acc++wq text text.size f b.2.1=total)\/(b.2.2.2.2.2=true/\acc++[cut text b.2.1 text.size]=total))
set_option tactic.hygienic true in
theorem w5 (ht:t.length<=65536):Meets (Builtin.«re.Pattern.split» ⟨[.ref a,.str t tk],[]⟩) fun A R s=>gf s.heap a c/\∀us k,aH s.heap vol us ((wq t.cps t.cps.size t.cps.size 0).map .str)->R (.ok (.ret (.ref s.heap.objs.size))) {s with heap:=s.heap.push {cls:=.type "list",data:=.seq us.toArray},toks:=s.toks+k}:=by
 intro prog w A R s ⟨hp,hR⟩;revert ht hp hR;refine si (b8 (b8 (b8 (b8 vm sA) HL) inferInstance) inferInstance) ?_ A s w vol a t tk c prog R;generalize jF _ _=tt;dsimp only[DB];generalize tt.1.1.1.1=A,tt.1.1.1.2=s,tt.1.1.2=w,tt.1.2.1=vol,tt.1.2.2=a,tt.2.1.1.1=t,tt.2.1.1.2=tk,tt.2.1.2=c,tt.2.2.1=prog,tt.2.2.2=R;intro ht hp hR;unfold Builtin.«re.Pattern.split»;dsimp only;rw[Cc];refine Z8 (Z0 ?_);dsimp only;refine Z8 (Z0 ?_);refine Z8 (DI hp fun T hc hg hx hl hk=>?_);have hsz:t.cps.size<=65536:=ht;rw[hx,hl,hk];have PV:reMostMatches T=2*t.cps.size+3:=by unfold reMostMatches;rw[hx]
 rw[PV];refine Z8 (wpAny_forIn_list _ (Nb vol s t.cps (wq t.cps t.cps.size t.cps.size 0)) _ ?_ ?_ _ _ ?_)
 ·intro i rest;refine Up fun out start last Sd n over=>?_;intro s' y2;(refine DE y2 ?_;clear y2;rintro k acc (rfl) hr PU Fc hle mP);dsimp only at hr PU Fc hle mP ⊢;subst PU Fc;refine Z4 mP (fun y0=>?_) fun y1=>?_
  ·obtain⟨ho,hlen,f,hf,Cw⟩:=y0;subst ho;rw[Z1 (by rfl),ZX (by simp)];refine Z8 (zr hc hg (by rw[hl];exact bC 0x10000018f00000100008f012 rfl hsz) (by rw[hl];exact hle) (fun m p e Nz hm=>?_) fun Nz=>?_)
   ·rw[hx,hl]at Nz;refine bg (Bk Nz) fun i1 i2 i3=>?_;dsimp only;refine Z8 (jV ht ?_);rw[hg];have Ip:reMachineGroup T m (0+1) (pure Value.none)=reSlice t.cps 0 p e:=by unfold reMachineGroup;rw[hm.last,hm.marks,hx,hk];rw[ZX (by decide)];show(if e<p then reWrongSpan else reSlice t.cps 0 p e)=_;rw[ZX (by exact aR 0x1031002 rfl i2)]
    rw[show List.range 1=[0]from rfl];rw[List.forIn_cons,Ip];refine Z8 (Z8 (Z8 (jV ht (Z0 ?_))));dsimp only;rw[List.forIn_nil];refine Z0 (Z0 ?_);have PK:acc++wq t.cps t.cps.size f start=(acc++[cut t.cps start p,cut t.cps p e])++wq t.cps t.cps.size (f-1) e:=by
     rcases f with⟨⟩;case zero=>exact(cZ 0x6803c103c0b212101015 rfl i1 i2 i3 hf).elim
     case succ f=>rw[wq,Nz];simp
    refine⟨k+1+1,acc++[cut t.cps start p,cut t.cps p e],rfl,?_,?_,rfl,?_,.inl ⟨rfl,?_,f-1,?_,?_⟩⟩
    ·rw[hm.start];dsimp only;rw[Array.toList_push,Array.toList_push,List.append_assoc,ZA];exact hr.append (.cons (.str _ _) (.cons (.str _ _) .nil))
    ·dsimp only;rw[hm.start,hm.handed];simp;exact aR 0x1231002 rfl i2
    ·dsimp only;rw[hm.handed];exact aX 0x12101c0b211013 rfl hle i3
    ·dsimp only;rw[hm.handed];simp at hlen;exact r8 0x240c010c1b4143031192b10c05 rfl hlen i1 i2 i3
    ·dsimp only;rw[hm.handed];exact r8 0x92c40c1430311210c14 rfl hf i1 i2
    ·dsimp only;rw[hm.handed,<-PK];exact Cw
   ·rw[hx,hl]at Nz;refine Z0 ⟨k,acc,rfl,hr,rfl,rfl,hle,.inr ⟨rfl,?_⟩⟩;dsimp only;rw[<-Cw];congr 1;rcases f with⟨⟩;case zero=>rfl
    case succ f=>unfold wq;rw[Nz]
  ·refine aL y1 fun ho Cw=>?_;subst ho;rw[ZX (by simp)];exact Z0 ⟨k,acc,rfl,hr,rfl,rfl,hle,.inr ⟨rfl,Cw⟩⟩
 ·refine Up fun out start last Sd n over=>?_;intro s' y2;(refine DE y2 ?_;clear y2;rintro k acc (rfl) hr PU Fc hle mP);dsimp only at hr PU Fc hle mP ⊢;subst PU Fc;refine Z4 mP (fun y0=>?_) fun y1=>?_
  ·refine bg y0 fun ho hlen x=>?_;simp at hlen
  ·refine aL y1 fun ho Cw=>?_;subst ho;rw[ZX (by simp)];refine Z8 (jV ht ?_);have US:aH s.heap vol (out.push (.str (cut t.cps start t.cps.size) (s.toks+k))).toList ((wq t.cps t.cps.size t.cps.size 0).map .str):=by rw[<-Cw,Array.toList_push,ZA];exact hr.append (.cons (.str _ _) .nil)
   refine Z8 (wpAny_newList ?_ ?_)
   ·exact Z0 (hR _ (k+1) US)
   ·have:=US.length;rw[this,Z2];exact ZK (zo _ _ _ _) (ZK (show 2*t.cps.size+1<=131073 by exact bC 0x200018f9002db1000100008f012 rfl hsz) (by decide))
 ·exact⟨0,[],rfl,.nil,rfl,rfl,Nat.zero_le _,.inl ⟨rfl,by simp;exact bC 0x3a002db001 rfl,t.cps.size,by simp,rfl⟩⟩
end
end Re
open PySem PySem.W PyProof.Rows
variable {C:Cx} {A:Around} {E:Value->Shared->Prop} {s s' fM s₀:Shared} {vol aj W W' W₀:Addr->Prop} {env:Env} {sc bD:Scope} {vars vars' V V':az} {n k i:Nat} {Φ:gq} {ad:Str->Addr} {prog:Program} {w:World} {h h':Heap} {o:Obj} {a I D L:Addr} {d:Dat} {v u:Value} {ds:List Dat} {vs:List Value} {x:Str} {t value:Expr} {pos p:Pos} {Q:Value->Shared->Prop} {K:Env->Around->Prop}
def ej (t:Str):List Str:=Re.wq t.cps t.cps.size t.cps.size 0
def qm (a:Addr)(x:Dat):List Dat->Option Dat:=oB fun y=>(Km x).bind fun b=>(GB y).bind fun t=>if b=a/\t.length<=65536 then some (.list ((ej t).map .str))else none
theorem Cx.Ok.dv (hC:C.Ok)(h:C.h₀.get? a=some o)(hc:o.cls≠.none):¬C.T a:=by intro y0;refine i0 y0 fun c p q m=>?_;have h2:=(hC.qg c a p q m).1.2;rw[h]at h2;obtain rfl:=Z9 h2;exact hc rfl
theorem gf.now (hC:C.Ok)(h:Re.gf C.h₀ a c)(bs:Bs C s):Re.gf s.heap a c:=by obtain⟨y0,y1⟩:=h;refine eB y0 fun o vs ho hc r=>?_;refine sd y1 fun oc items k Dt J9 r2=>?_;exact⟨⟨o,vs,bs.keep a o ho (hC.dv ho (by rw[hc];nofun)),hc,r⟩,⟨oc,items,k,bs.keep c oc Dt (hC.dv Dt (by rw[J9];nofun)),J9,r2⟩⟩
set_option tactic.hygienic true in
theorem zy (hC:C.Ok)(hp:Re.gf C.h₀ a c):mi C n "split" (qm a):=by
 intro a' ds d v s vol h bs V r;refine ax (kI h) fun y0 e h=>ao h fun b hb h=>ao h fun t PB h=>aI h fun hh hz=>?_;obtain rfl:=Dj hb;obtain rfl:=uv PB;subst e
 ··refine aL hh ?_;clear hh;rintro(rfl) ht;obtain rfl:=Z9 hz;have hv:v=.ref b:=by(rcases r with⟨⟩;(case rep r=>rcases r with⟨⟩;rfl))
   subst hv;obtain⟨y0,_⟩:=gf.now hC hp bs;refine iZ y0 fun o vs ho hc hn r1=>?_;refine⟨"re.Pattern.split",fun{A pl}E Q q=>ai (getMethod_builtin ⟨o,ho,hc⟩ Re.qz Re.qo Re.yW (fun x e=>by rcases e with⟨⟩;exact⟨o,ho,hn⟩) (q _ _ (.refl s) rfl)),fun{A s vs}hA bs V r rs=>?_⟩;cases rs with|cons rd rs=>rcases rs with⟨⟩;cases rd with|str _ tk=>have JV:=gf.now hC hp bs;obtain⟨y0,_⟩:=id JV;refine iZ y0 fun o vs ho hc hn r1=>?_;refine fun E Q q=>ai (call_meets Re.qo ⟨o,ho,hc⟩ Re.yj (Re.wh _ _) (Re.w5 (vol:=vol) (c:=c) ht) ⟨JV,fun us k hr=>?_⟩);refine q _ _ .push ?_;have nv:¬vol s.heap.objs.size:=V.new (aE _);exact .list nv (ZO _ rfl) rfl rfl rfl (hr.mono fun b o e nn=>⟨Z3 _ e,nn⟩)
section
open PySem.Calls PySem.NumText
theorem jN (a b:Value):checkTypeCall "int" ⟨[a,b],[]⟩=pure ():=by kernel_rfl
theorem lx (a b:Value):checkBuiltinCall "int.__new__" ⟨[.type "int",a,b],[]⟩=pure ():=by kernel_rfl
theorem args_object_init_3 (a b c:Value):argsOk "object.__init__" ⟨[a,b,c],[]⟩:=by
 first
 |(unfold argsOk;rw[signature?_of (id:="object.__init__") (n:=['_','_','t','i','n','i','_','_']) (o:=['t','c','e','j','b','o']) (by kernel_rfl) PySem.F.owner_object];kernel_rfl)
theorem yf {x:PySem.Str}{u t:Tok}{n:Int}(hl:x.length<=640)(hn:PySem.intText? x=some n):Gives (Builtin.«int.__new__» ⟨[.type "int",.str x u,.int 10 t],[]⟩) (.int n):=.of_wp fun M A E s Q h=>by
  obtain⟨hp,g,d,tk,os⟩:=s;have f1:=PySem.F.conv_sub_int;have f2:=PySem.F.madeHere_int;have f3:=KIN.str_int;have f4:=KIN.str_idx;have f5:=KIN.str_trunc;have f6:typeOf (.str x u)=pure (.type "str"):=rfl;have hs:(numSeenOf x).length<=640:=ZK (seen_length x) hl;have hr:(int_private% "readNumeral") 0 10 (numSeenOf x)=(int_private% "Numeral.value") n/\((numSeenOf x).length==(numTextOf x).length)=true:=by
   refine Z4 (read0 x hs) (fun y0=>?_) fun y1=>?_
   ·refine eD y0 fun m h1 h2 h3=>?_;rw[hn]at h1;injection h1 with h1;subst h1;exact⟨h3,h2⟩
   ·refine aL y1 fun h1 y=>?_;rw[hn]at h1;rcases h1 with⟨⟩
  have hk:=KIN.Hid.mk (And.intro hs hr);clear hs hr hl hn;repeat (any_goals (first|assumption|((with_reducible show wpAny _ _ ((int_private% "intFromText") _ _ _) _ _ _);refine KIN.wp_text hk.out.1 hk.out.2.1 hk.out.2.2 ?_)|wp_step))
  all_goals first|exact⟨_,rfl,h⟩|skip
set_option backward.match.sparseCases true in
theorem Ci {Q:Unit->Shared->Prop}(h:Q () s):aK M A (markTheRefusal own e) Q E s:=fun Γ p iW hc=>by
 unfold markTheRefusal;rw[Sem.wp_bind'];unfold stack;rw[Sem.wp_stack];show Sem.wp M Γ (pure _) _ _ _ _;rw[Sem.wp_pure'];have key:pythonCodeMadeTheCall own (((Γ.code,p)::Γ.below).map (·.1))=false:=by
  unfold pythonCodeMadeTheCall;have:(((Γ.code,p)::Γ.below).map (·.1)).any (fun c=>match c with| .builtin "claim.caller" _=>true|_=>false)=true:=by
   rw[List.any_eq_true];refine Z4 hc.1.2.2 (fun q=>?_) fun y0=>?_
   ·exact⟨Γ.code,by simp,q⟩
   ·refine ax y0 fun x hx q=>?_;exact⟨x.1,by simp;exact .inr ⟨x.2,hx⟩,q⟩
  rw[Bool.and_assoc];refine Bool.and_eq_false_iff.mpr (.inl ?_);rw[Bool.not_eq_false'];exact this
 rw[key];rw[ZX ZZ];rw[Sem.wp_pure'];exact h
theorem zl {α:Type}{Q:α->Shared->Prop}(hh:A.handled=none)(h:E e s):aK M A (raiseNew e:Sem α) Q E s:=ai (wpAny_raiseNew_none hh h)
theorem xT {x:PySem.Str}{u t:Tok}(hl:x.length<=640)(hn:PySem.intText? x=none)(hz:((numSeenOf x).length==(numTextOf x).length)=true)(hr:(reprText x).length<=100000)(hA:A.handled=none){Q:PySem.Fin->Shared->Prop}(hE:∀h' e m tk,Heap.MadeExc s.heap h' e "ValueError" [m]->E (.ref e) {s with heap:=h',toks:=tk}):aK (model prog w) A (Builtin.«int.__new__» ⟨[.type "int",.str x u,.int 10 t],[]⟩) Q E s:=by
 revert s hl hn hz hr hA hE;refine no_implicit_lambda% (Nj (b8 (b8 (b8 HL vm) inferInstance) inferInstance) ?_ w A x u prog t E Q);generalize jF _ _=tt;dsimp only[K8];generalize tt.1.1.1=w,tt.1.1.2=A,tt.1.2.1=x,tt.1.2.2=u,tt.2.1.1=prog,tt.2.1.2=t,tt.2.2.1=E,tt.2.2.2=Q;intro s hl hn hz hr hA hE;have hs:(numSeenOf x).length<=640:=ZK (seen_length x) hl;have WB:(int_private% "readNumeral") 0 10 (numSeenOf x)=(int_private% "Numeral.invalid"):=by
  refine Z4 (read0 x hs) (fun y0=>?_) fun y1=>?_
  ·refine eD y0 fun m h1 h2 h3=>?_;rw[hn]at h1;exact aa h1
  ·refine aL y1 fun h1 h2=>?_;refine Z4 h2 (fun h2=>?_) fun y0=>?_
   ·exact h2
   ·refine ax y0 fun i h2 h3=>?_;exact absurd hz h3
 unfold Builtin.«int.__new__»;dsimp only;refine ab (bO (a:=true) (by kernel_rfl) ?_);simp only[Bool.not_true,ZG,if_false];refine ab (bO (a:=true) PySem.F.conv_sub_int ?_);simp only[Bool.not_true,ZG,if_false];refine ab (bO (a:=()) PySem.F.madeHere_int ?_);rw[ZX (by simp),ZX (by simp)];rw[List.forIn_nil];refine ab (ah ?_);dsimp only[List.head?,List.getElem?_cons_succ,List.getElem?_cons_zero,Option.orElse];rw[show(some (Value.int 10 t)<|>Option.map (fun x:PySem.Str×Value=>x.snd) none)=some (Value.int 10 t)from rfl];dsimp only;refine ab (bO (a:=(10:Int)) (by kernel_rfl) ?_);rw[ZX (by decide)];refine ab (bO (a:=some (numTextOf x)) (by rfl) ?_);dsimp only;refine ab ?_;have h1:(int_private% "intFromText") (Value.str x u) (numTextOf x) (Int.toNat 10)=(if((numTextOf x).takeWhile (· !=0)).length<=640 then((pure 0:Sem Nat)>>=_)else _):=rfl;rw[h1,Z1 (show _<=640 from hs)];refine ab (ah ?_);have SI:(int_private% "readNumeral") 0 (Int.toNat 10) ((numTextOf x).takeWhile (· !=0))=(int_private% "Numeral.invalid"):=WB;dsimp only;rw[SI];dsimp only;have hb:(int_private% "bytesOf?") (Value.str x u)=pure none:=rfl;rw[hb];refine ab (ah ?_);simp only[Option.isSome_none,Bool.false_and,ZG,if_false];refine ab (gA ?_);refine ab (ah ?_);dsimp only;refine ab (ai (wpAny_pyRepr_str ?_ (ZK hr (by decide))));refine ab (ai (wpAny_mkStr ?_ ?_))
 ·refine ab (ai (wpAny_newExc_plain plainExc_ValueError (fun h' e hm=>?_) (show 1<=sizeLine by decide)));refine ab (Ci ?_);exact zl hA (hE h' e _ (s.toks+1+1) hm)
 ·have e1:∀a b:PySem.Str,(a++b).length=a.length+b.length:=fun a b=>Array.size_append;rw[e1];have e2:(PySem.Str.ofString (toString "invalid literal for int() with base "++toString (Int.toNat 10)++toString ": ")).length<=100:=by decide +kernel
  have e3:({cps:=(reprText x).cps.extract 0 200}:PySem.Str).length<=200:=by show((reprText x).cps.extract 0 200).size<=200;rw[Array.size_extract];exact bC 0xc8a80c8adfc11 rfl
  have e4:sizeLine=16777216:=rfl;exact aX 0x210b1010000008f22c8a1164a014 rfl e2 e3 e4
theorem v7 {x:PySem.Str}{u t:Tok}(hl:x.length<=640)(hn:PySem.intText? x=none)(hz:((numSeenOf x).length==(numTextOf x).length)=true)(hr:(reprText x).length<=100000)(hA:A.handled=none)(hE:∀h' e m tk,Heap.MadeExc s.heap h' e "ValueError" [m]->E (.ref e) {s with heap:=h',toks:=tk}):aK (model prog w) A (PySem.call (.type "int") [.str x u,.int 10 t]) Q E s:=by refine qd (Q₁:=fun y y=>False) PySem.F.called_int (by decide) (jN _ _) ?_ (fun obj aB h=>h.elim);refine aS ?_ rfl;show aK _ A.in1.in1 (checkBuiltinCall "int.__new__" ⟨[.type "int",.str x u,.int 10 t],[]⟩>>=fun y=>again (.builtin "int.__new__" ⟨[.type "int",.str x u,.int 10 t],[]⟩)) _ _ s;refine ab (bO (lx _ _) (ah ⟨plainId_quiet (by decide +kernel) _,d7 PySem.F.entry_int_new (show(!holders.contains "int.__new__")=true by decide +kernel) ?_⟩));refine aD (xT hl hn hz hr ?_ (E:=fun e s'=>E e s') (Q:=fun y y=>False) hE) (fun y y q=>q.elim) fun y y q=>q;rw[ZL (by decide +kernel) _];exact hA
theorem sT {x:PySem.Str}{u t:Tok}{k:Int}(hl:x.length<=640)(hn:PySem.intText? x=some k)(h:Q (.int k s.toks) {s with toks:=s.toks+1}):wpAny (model prog w) A (PySem.call (.type "int") [.str x u,.int 10 t]) Q E s:=callType_new PySem.F.called_int PySem.F.newNe_int (jN _ _) (lx _ _) (fun obj=>args_object_init_3 obj _ _) PySem.F.entry_int_new (yf hl hn).meets (show(Made.int k).post _ s from⟨rfl,h⟩)
end
section
variable {M:Model} {F:Addr->Prop}
structure G3 (F:Addr->Prop) (h h':Heap):Prop where
 size:h'.objs.size=h.objs.size
 keep:∀b o,h.get? b=some o->¬F b->h'.get? b=some o
 data:∀b o,h.get? b=some o->fC h' b o
theorem G3.refl (h:Heap):G3 F h h:=⟨rfl,fun x x e x=>e,fun x x e=>.of e⟩
theorem G3.trans (x:G3 F h h')(y:G3 F h' X0):G3 F h X0:=⟨y.size.trans x.size,fun b o e f=>y.keep b o (x.keep b o e f) f,fun b o e=>let⟨o1,e1,d1⟩:=x.data b o e;let⟨o2,e2,d2⟩:=y.data b o1 e1;⟨o2,e2,d2.trans d1⟩⟩
theorem G3.upd (ho:h.get? L=some o)(hd:o.data=.dict es ep)(TR:F L)(hg:∀o,(g o).data=o.data):G3 F h (h.update L g):=by
 have WO:(g o).isFreed=false:=Obj.isFreed_of_dict ((hg o).trans hd);refine⟨Heap.size_update ..,fun b o' e nf=>?_,fun b o' e=>?_⟩
 ·rw[Heap.get?_update_other _ _ (fun q=>nf (by rw[<-q];exact TR))];exact e
 ·by_cases q:L=b
  ·subst q;rw[ho]at e;obtain rfl:=Z9 e;exact⟨_,Heap.get?_update_self _ ho WO,hg o⟩
  ·exact .of ((Heap.get?_update_other _ _ q).trans e)
set_option tactic.hygienic true in
theorem vw (h:∀v,Q v s):wpAny M A (keptBack env false outer) Q E s:=by
 rcases outer with⟨⟩;case nil=>exact wpAny_keptBack_nil h
 case cons c r=>exact Z0 (h _)
theorem qx:∀{fs:List Env}{s:Shared},(∀f∈fs,f.scope.kind=.function/\∃L,f.frame=some L/\F L/\fI s.heap L)->∀{Q:Unit->Shared->Prop},(∀h',G3 F s.heap h'->Q () {s with heap:=h'})->wpAny M A (readyFrames fs) Q E s:=by
 intro fs;induction fs with
 |nil=>intro s _ Q hQ;exact Z0 (hQ s.heap (.refl _))
 |cons env outer ih=>
  intro s hf Q hQ;obtain⟨hk,L,hL,TR,o,es,ep,y0⟩:=hf env Z6;refine aL y0 fun ho hd=>?_;unfold readyFrames;rw[hL];dsimp only;refine Z8 (wpAny_load ho ?_);by_cases hr:((o.slots.getD 3 none).isSome)=true
  ·rw[Z1 hr];exact Z0 (hQ _ (.refl _))
  ·rw[ZX hr];refine Z8 (wpAny_of_eq (a:=false) (by simp[behindIsImport,hk]) ?_);refine Z8 (vw fun v=>?_);refine Z8 (wpAny_update ho ?_);have x:=G3.upd (F:=F) ho hd TR (g:=fun o:Obj=>{o with slots:= #[some env.code,some (Value.ref env.globals),o.slots.getD 2 none,some v,o.slots.getD 4 none,env.func.map Value.ref,some (Value.ref env.builtins)]++(env.cells.map fun c:Str×Addr=>some (Value.ref c.2)).toArray}) (fun z=>rfl);refine ih (s:={s with heap:=s.heap.update L fun o:Obj=>{o with slots:= #[some env.code,some (Value.ref env.globals),o.slots.getD 2 none,some v,o.slots.getD 4 none,env.func.map Value.ref,some (Value.ref env.builtins)]++(env.cells.map fun c:Str×Addr=>some (Value.ref c.2)).toArray}}) (fun f hm=>?_) fun h' y=>hQ h' (x.trans y);obtain⟨a,b,c,d,e⟩:=hf f (Z7 _ hm);exact⟨a,b,c,d,e.data fun o' q=>x.data _ o' q⟩
theorem vj {vs:Array Value}{Q:Unit->Shared->Prop}(Dv:A.frames=some (env::fs))(hf:env.frame=some L)(Mt:∀f∈env::fs,f.scope.kind=.function/\∃L,f.frame=some L/\F L/\fI s.heap L)(he:s.heap.get? e=some oe)(XN:¬F e)(hd:oe.data=.fields vs)(h1:vs[1]?=some .none)(h:∀h' tb Jv,(∀b o,s.heap.get? b=some o->b≠e->¬F b->h'.get? b=some o)->(∀b o,s.heap.get? b=some o->b≠e->fC h' b o)->s.heap.get? tb=none->h'.get? e=some (oe.mapFields (·.setIfInBounds 1 (.ref tb)))->h'.get? tb=some {cls:=.type "traceback",dict:=none,data:=.fields Jv}->3<Jv.size->Q () {s with heap:=h'}):wpAny M A (noteFrame (.ref e) env) Q E s:=by
 have hsz:1<vs.size:=(Array.getElem?_eq_some_iff.mp h1).1
 unfold noteFrame
 simp only[hf]
 refine Z8 (wpAny_field he hd h1 ?_)
 rw[ZX (by decide)]
 unfold PySem.frameOf
 refine Z8 (Z8 (wpAny_frameEnvs Dv ?_))
 have Xg:((env::fs).dropWhile fun x=>x.frame !=env.frame)=env::fs:=by simp[List.dropWhile]
 rw[Xg]
 unfold frameObject
 refine Z8 (Z8 (qx Mt fun bh x=>Z0 ?_))
 rw[hf]
 refine Z0 ?_
 refine Z8 (wpAny_entryPlaceOf fun pl Mb=>?_)
 unfold EntryCells.newEntry newFields
 refine Z8 (wpAny_newObj_type ?_ (Mb.sizeOk5 _ _ _ _ _))
 have J5:bh.get? e=some oe:=x.keep e oe he XN
 generalize Rb:([Value.none,.ref L,.none,rawInt L,.none]++(if pl.isEmpty then List.replicate 6 Value.none else pl)).toArray=Jv
 have Wr:3<Jv.size:=by rw[<-Rb];simp
 have J4:=Z3 (h:=bh) {cls:=.type "traceback",dict:=none,data:=.fields Jv} J5
 refine wpAny_setField J4 hd hsz ?_
 have XC:bh.objs.size≠e:=Nat.ne_of_gt (Heap.lt_size J5)
 have P4:=Obj.data_mapFields hd (·.setIfInBounds 1 (Value.ref bh.objs.size))
 refine h _ bh.objs.size Jv (fun b o hb TJ Xr=>?_) (fun b o hb TJ=>?_) (Heap.get?_none_of_le (by rw[x.size];exact ZQ _)) (Heap.get?_update_self _ J4 (Obj.isFreed_of_fields P4)) ?_ Wr
 ·rw[Heap.get?_update_other _ _ (Ne.symm TJ)];exact Z3 _ (x.keep b o hb Xr)
 ·refine ax (x.data b o hb) fun o' e' d'=>?_;refine⟨o',?_,d'⟩;rw[Heap.get?_update_other _ _ (Ne.symm TJ)];exact Z3 _ e'
 ·rw[Heap.get?_update_other _ _ (Ne.symm XC)];exact ZO bh rfl
theorem Ex.Lk {t:Nat}(hk:∀b o,s.heap.get? b=some o->¬C.fr b->h'.get? b=some o)(hd:∀b o,s.heap.get? b=some o->fC h' b o)(h0:∀b,C.fr b->(∃o,s.heap.get? b=some o/\h'.get? b≠some o)->C.h₀.get? b=none):Ex C s {s with heap:=h',toks:=t}:=by
 refine⟨fun b o e x f=>hk b o e f,fun b o x e=>hd b o e,fun z=>?_⟩;have nf:∀b o,s.heap.get? b=some o->(∀es n,o.data≠.dict es n)->h'.get? b=some o:=fun b o e n=>hk b o e (z.dF e n);refine⟨fun b o e t=>?_,fun c P p q m=>?_,z.gens,z.os,fun a f=>(z.alive a f).data fun o e=>hd a o e⟩
 ·have e1:=z.keep b o e t;by_cases f:C.fr b
  ·by_cases q:h'.get? b=some o
   ·exact q
   ·have:=h0 b f ⟨o,e1,q⟩;rw[e]at this;rcases this with⟨⟩
  ·exact hk b o e1 f
 ·refine Z4 (z.tab c P p q m) (fun e=>?_) fun y0=>?_
  ·exact .inl (nf _ _ e nofun)
  ·refine ax y0 fun b e r=>?_;refine .inr ⟨b,nf _ _ e nofun,?_⟩;refine cL r fun b' o vs t' e1 e2 e3 e4=>?_;exact⟨b',o,vs,t',e1,nf _ _ e2 (by rw[e3];nofun),e3,e4⟩
theorem wB {Q:Flow->Shared->Prop}(h:aK M A body (fun f aB=>match f with| .next=>aK M A orelse Q E aB|f=>Q f aB) (fun e aB=>aK M A (noteFrame e env) (fun y bM=>aK M A (setFlight e none) (fun y lP=>aK M A (handleBy e env (h₀::hs)) Q E lP) E bM) E aB) s):aK M A (tryStmt false body (h₀::hs) orelse [] env) Q E s:=by
 unfold tryStmt;refine ab (gU (aD h (fun f aB bh=>?_) fun e aB bh=>?_))
 ·rcases f with⟨⟩<;>first|exact bh|exact ah bh
 ·exact ab (aD bh (fun y y eM=>ab eM) fun y y x=>x)
theorem k7 {R:Result->Shared->Prop}(h:aK (model prog w) A (eval t env) (fun c aB=>aK (model prog w) A (excMatches e c) (fun b bM=>R (.ok (if b then .brk else .next)) bM) (nO (model prog w) A env fun x bM=>R (.error x) bM) aB) (nO (model prog w) A env fun x aB=>R (.error x) aB) s):cb (model prog w) A (.handlers e [.ExceptHandler (some t) none [] pos] env) R s:=by refine aS ?_ rfl;show aK _ A (do return Fin.done (<-(handleWith e env [.ExceptHandler (some t) none [] pos]).onRaise (fun x=>do noteFrame x env;theTreesLotGoes x))) _ _ s;refine ab (fe ?_);unfold handleWith;refine ab (aq (ab (aD h (fun c aB bh=>ab (aq (ab (aD bh (fun b bM eM=>ah (ah ?_)) fun y y x=>x)))) fun y y x=>x)));exact eM
theorem kx {R:Result->Shared->Prop}(h:aK (model prog w) A (setFlight e none) (fun y aB=>aK (model prog w) A (execs (C9::body) env) (fun f bM=>R (.ok f) bM) (nO (model prog w) A env fun x bM=>R (.error x) bM) aB) (nO (model prog w) A env fun x aB=>R (.error x) aB) s):cb (model prog w) A (.handlers e [.ExceptHandler none none (C9::body) pos] env) R s:=by refine aS ?_ rfl;show aK _ A (do return Fin.done (<-(handleWith e env [.ExceptHandler none none (C9::body) pos]).onRaise (fun x=>do noteFrame x env;theTreesLotGoes x))) _ _ s;refine ab (fe ?_);unfold handleWith;exact ab (aq (ab (aD h (fun y aB bh=>aD bh (fun f bM eM=>ah eM) fun y y x=>x) fun y y x=>x)))
theorem uD {Q:Flow->Shared->Prop}(Mn:isSubtype (.type T) (.type "BaseException")=pure true)(SU:isSubtype (.type ((Manifest.find? T).elim "type" fun x=>x.metatype)) (.type "tuple")=pure false)(vB:isSubtype (.type X) (.type T)=pure true)(h:∀E',aK (model prog w) (A.mark (some (.ref e))) (eval t env) (fun c aB=>c=.type T/\aB.TypeIs (.ref e) X/\aK (model prog w) (A.mark (some (.ref e))) (setFlight (.ref e) none) (fun y bM=>∀E',aK (model prog w) (A.mark (some (.ref e))) (execs (C9::DW) env) Q E' bM) E' aB) E' s):aK (model prog w) A (handleBy (.ref e) env (.ExceptHandler (some t) none (C9::DW) pos::rest)) Q E s:=by
 revert s X Mn SU vB h;refine no_implicit_lambda% (pn (b8 (b8 (b8 (b8 HL vm) inferInstance) inferInstance) inferInstance) ?_ w A e env prog C9 pos DW E Q rest t T);generalize jF _ _=tt;dsimp only[Bu];generalize tt.1.1.1.1=w,tt.1.1.1.2=A,tt.1.1.2.1=e,tt.1.1.2.2=env,tt.1.2.1.1=prog,tt.1.2.1.2=C9,tt.1.2.2=pos,tt.2.1.1.1=DW,tt.2.1.1.2=E,tt.2.1.2=Q,tt.2.2.1.1=rest,tt.2.2.1.2=t,tt.2.2.2=T;intro s X Mn SU vB h;rw[handleBy];have PR:(some (Value.ref e):Option Value)≠some byPass:=by intro q;rcases q with⟨⟩
 refine ab (ar (gz (k7 (aD (h _) (fun c aB bh=>?_) fun y y x=>x)) PR));refine bg bh ?_;clear bh;rintro(rfl) hX hk;refine ai (wpAny_excMatches_type hX Mn SU vB ?_);refine ab (ah ?_);simp only[Bool.not_true,ZG,if_false];refine ab (ar (gz (kx (aD hk (fun y bM eM=>?_) fun y y x=>?_)) PR))
 ·exact aD (eM _) (fun f lP xW=>ah xW) fun y y x=>x
 ·exact x
theorem qa {Q:Flow->Shared->Prop}(h:aK M A (execs body env) (fun f aB=>match f with| .next=>aK M A (execs orelse env) Q E aB|f=>Q f aB) (fun e aB=>aK M A (noteFrame e env) (fun x bM=>aK M A (setFlight e none) (fun x lP=>aK M A (handleBy e env (h₀::hs)) Q E lP) E bM) E aB) s):aK M A (exec (.Try body (h₀::hs) orelse [] pos) env) Q E s:=by rw[arm_exec_Try];exact ab (aq (wB h))
end
section
open PySem.Calls PySem.NumText
structure Bt (C:Cx) (g:Str) (d:Addr) (stg:Str->Option Int):Prop where
 map:∃f,C.h₀.MapOf (strKind C.prog C.w) d f/\∀x,(f x=none/\stg x=none)\/∃k t,f x=some (.int k t)/\stg x=some k
 mods:(d==sysModules)=false
 glob:C.mg g=some (.ref d)
 nd:(g==("__debug__":Str))=false
noncomputable def xU (v:Str):Bool:=decide (v.length<=640)&&((numSeenOf v).length==(numTextOf v).length)&&decide ((reprText v).length<=100000)
def NW (g:Str)(stg:Str->Option Int)(x t t2:Str)(k j:Int):oH:=fun sc vars=>
 if sc.names.lookup ("int":Str)=some .globalImplicit/\sc.names.lookup ("ValueError":Str)=some .globalImplicit/\sc.names.lookup g=some .globalImplicit then(mC vars x).bind fun v=>if xU v=true then match PySem.intText? v with
     |some i=>(bL sc x (.val (.int i)) vars).bind fun vars=>(bL sc t (.val (.int k)) vars).map .next|none=>(bL sc t2 (.val (.int ((stg v).getD j))) vars).map .next
    else none
 else none
theorem zP (hC:C.Plain){v:Str}(hA:A.handled=none)(e:aN env sc)(S:SS C aj env sc vars W ad s)(hv:eR s.heap env z (.str v tk))(hf:sc.names.lookup ("int":Str)=some .globalImplicit)(eN:xU v=true) (hQ:∀i t s',PySem.intText? v=some i->Ex C s s'->Q (.int i t) s') (hE:PySem.intText? v=none->∀h' e m tk,Heap.MadeExc s.heap h' e "ValueError" [m]->E (.ref e) {s with heap:=h',toks:=tk}):aK (model C.prog C.w) A (eval (.Call (.Name "int" fp) [.Name z yp,.Constant (.int 10) kb pb] [] cp) env) Q E s:=by
 unfold xU at eN
 simp only[ZR,decide_eq_true_eq]at eN
 refine aL eN fun y0 Ri=>?_;refine aL y0 fun GZ lV=>?_
 refine ab (fz hC.ok e S.bV.bs hf (by decide) (hC.none "int" (by decide)) (hC.b (v:=.type "int") (by kernel_rfl)) ?_)
 have fO:(backTo cp (starEach [.Name z yp,.Constant (.int 10) kb pb] env)).any (·.1)=false:=rfl
 refine bQ (fun x q=>by rcases q with⟨⟩) fO ?_
 refine cn (P:=fun vs s'=>vs=[.str v tk,.int 10 s.toks]/\s'={s with toks:=s.toks+1}) fO (fun E Q q=>bu (g7 e hv (bu (ai (wpAny_Constant_int (bY (q _ {s with toks:=s.toks+1} .toks ⟨rfl,rfl⟩))))))) _ _ fun z' s3 x3 r3=>?_
 obtain⟨ps,kw⟩:=z'
 refine bg r3 ?_;clear r3;rintro(rfl) (rfl) (rfl)
 cases hn:PySem.intText? v with
 |some i=>exact ai (sT GZ hn (hQ i _ _ hn .toks))
 |none=>exact v7 GZ hn lV Ri hA fun h1 ea mm Hg hm=>hE hn h1 ea mm Hg hm
theorem DV (hC:C.Plain){d:Addr}(hT:Bt C g d stg){z t2 v:Str}(Fi:(ap.endLine==p.line)=true)(e:aN env sc)(S4:SS C aj env sc vars W ad s4)(hD:dH vars)(hv:eR s4.heap env z (.str v tk))(hg:sc.names.lookup g=some .globalImplicit)(Dx:bL sc t2 (.val (.int ((stg v).getD j))) vars=some b9){Q:Flow->Shared->Prop}(hQ:∀s7,Goes C aj env sc W s4 b9 s7->Q .next s7):aK (model C.prog C.w) A (execs [.Assign [.Name t2 VJ] (.Call (.Attribute (.Name g gp) "get" ap) [.Name z zp,.Constant (.int j) kj pj] [] p) Yt] env) Q E s4:=by
 refine gB (bl ?_ rfl rfl);show aK _ _ (eval (.Name g gp) env>>=fun ov=>standAt ap.atName>>=fun x=>methodCall (.Name g gp) "get" ap p env ov 2 (backTo p (starEach [.Name z zp,.Constant (.int j) kj pj] env)) (backToKw p (keywordEach [] env))) _ _ _;refine ax hT.map fun ff Fh SA=>?_;have M1:=S4.bV.bs;have Fg:s4.heap.MapOf (strKind C.prog C.w) d ff:=by refine sd Fh fun o es ep ho hc r=>?_;exact⟨o,es,ep,M1.keep d o ho (hC.ok.dv ho (by refine xR hc.1 ?_;nofun)),hc,r⟩
 refine ab (n9 hC.ok e M1 hg hT.nd hT.glob (ab (aq ?_)));delta methodCall;have CN:methodCallForm 2 (backTo p (starEach [.Name z zp,.Constant (.int j) kj pj] env)) (backToKw p (keywordEach [] env))=true:=rfl;refine xR CN ?_;refine ab (ar ?_);refine ai (getMethod_builtin Fg.typeIs PySem.F.plainAttrs_dict PySem.F.slot_dict_get PySem.F.type_dict_get Fg.noDict ?_);have Me:methodCallPos true (.Name g gp) env ap p=pure p:=by delta methodCallPos;simp only[Bool.not_true,Bool.false_or,Fi,if_true]
 refine xR Me ?_;refine ab (ah ?_);have Ii:(backTo p (starEach [.Name z zp,.Constant (.int j) kj pj] env)).any (·.1)=false:=rfl;refine bQ (fun x q=>by rcases q with⟨⟩) Ii ?_;refine cn (P:=fun vs s'=>vs=[.str v tk,.int j s4.toks]/\s'={s4 with toks:=s4.toks+1}) Ii (fun E Q q=>bu (g7 e hv (bu (ai (wpAny_Constant_int (bY (q _ {s4 with toks:=s4.toks+1} .toks ⟨rfl,rfl⟩))))))) _ _ fun z' s5 x5 r5=>?_;obtain⟨Yv,YA⟩:=z';refine bg r5 ?_;clear r5;rintro(rfl) (rfl) (rfl);have JX:({s4 with toks:=s4.toks+1}:Shared).heap.MapOf (strKind C.prog C.w) d ff:=Fg;refine ai (call_meetsIn PySem.F.slot_dict_get JX.typeIs PySem.F.entry_dict_get (PySem.F.args_dict_get_3 _ _ _) (meets_dict_get_default (strKind C.prog C.w) d (strKind_is C.prog C.w v tk) hT.mods (.int j s4.toks)) ⟨ff,JX,?_⟩);have S6:SS C aj env sc vars W ad {s4 with toks:=s4.toks+1+1}:=S4.ex .toks;have rv:∀{h:Heap}{vol:Addr->Prop},Rep h vol ((ff v).getD (.int j s4.toks)) (.int ((stg v).getD j)):=by
  intro h vol;refine Z4 (SA v) (fun y0=>?_) fun y1=>?_
  ·refine aL y0 fun q1 q2=>?_;refine xR q1 (xR q2 ?_);exact .int _ _
  ·refine eZ y1 fun k' t' q1 q2=>?_;refine xR q1 (xR q2 ?_);exact .int _ _
 refine ab (aq (ew e S6 hD Dx rv fun s7 m7 S7 Qj x=>?_));exact fE (hQ _ ⟨W,ad,(Mv.ka (.toks (t:=s4.toks+1+1))).trans m7,S7,Qj⟩)
theorem Hk {t:Str}{k:Int}(e:aN env sc)(S:SS C aj env sc vars W ad s)(hD:dH vars)(hb:bL sc t (.val (.int k)) vars=some Ju){Q:Flow->Shared->Prop}(hQ:∀s7,Goes C aj env sc W s Ju s7->Q .next s7):aK (model C.prog C.w) A (execs [.Assign [.Name t tp] (.Constant (.int k) kk pk) G2] env) Q E s:=by refine gB (bl (ai (wpAny_Constant_int ?_)) rfl rfl);have S5:SS C aj env sc vars W ad {s with toks:=s.toks+1}:=S.ex .toks;refine ab (aq (ew e S5 hD hb (.int _ _) fun s6 m6 S6 TS x=>?_));exact fE (hQ _ ⟨W,ad,(Mv.ka (.toks (t:=s.toks+1))).trans m6,S6,TS⟩)
theorem C5 (hA:cV C n A)(hK:lO C cd name env A)(S:SS C aj env sc vars W ad s)(hm:Heap.MadeExc s.heap h1 ea "ValueError" [mm]){Q:Unit->Shared->Prop}(hQ:∀s3,Ex C s s3->s3.TypeIs (.ref ea) "ValueError"->(∀{A E}{Q:Unit->Shared->Prop},(∀s4,Ex C s s4->Q () s4)->aK (model C.prog C.w) A (setFlight (.ref ea) none) Q E s3)->Q () s3):aK (model C.prog C.w) A (noteFrame (.ref ea) env) (fun x s2=>aK (model C.prog C.w) A (setFlight (.ref ea) none) Q E s2) E {s with heap:=h1,toks:=Hg}:=by
 refine aJ hK.top fun Vo Bb=>?_;have Tj:∀f∈env::Vo,f.scope.kind=.function/\∃L,f.frame=some L/\C.fr L/\C.h₀.get? L=none:=by refine ax hA.frames fun fs q1 q2=>?_;simp only[Bb]at q1;obtain rfl:=Z9 q1;exact q2
 have fa:∀f∈env::Vo,f.scope.kind=.function/\∃L,f.frame=some L/\(C.fr L/\C.h₀.get? L=none)/\fI h1 L:=fun f yN=>by refine ZU fun hG=>?_;obtain⟨a1,L,a2,a3,a4⟩:=Tj f yN;refine hG ?_;refine jJ (S.bV.bs.alive L a3) fun o es ep q1 q2=>?_;exact⟨a1,L,a2,⟨a3,a4⟩,o,es,ep,hm.keeps _ _ q1,q2⟩
 refine eD hm.there fun tt U5 x x=>?_;have P1:s.heap.get? ea=none:=hm.new;have V0:¬(C.fr ea/\C.h₀.get? ea=none):=fun q=>by refine jJ (S.bV.bs.alive ea q.1) fun o es ep q1 q2=>?_;replace q1:=P1.symm.trans q1;exact aa q1
 refine ai (vj (s:={s with heap:=h1,toks:=Hg}) (F:=fun b=>C.fr b/\C.h₀.get? b=none) Bb hK.frame fa U5 V0 rfl rfl fun h2 tb Jv k2 d2 UO U7 Py Rb=>?_);have hd2:=Obj.data_mapFields (o:={cls:=.type "ValueError",data:=.fields #[.ref tt,.none,.none,.none,.bool false,.none]}) rfl (·.setIfInBounds 1 (Value.ref tb));have Sy:tb≠ea:=fun q=>by have zS:h1.get? tb=none:=UO;replace zS:=U5▸q▸zS;rcases zS with⟨⟩
 refine ai (wpAny_setFlight_none U7 hd2 rfl Py rfl Rb ?_);have Tv:=Obj.data_mapFields (o:={cls:=.type "traceback",dict:=none,data:=.fields Jv}) rfl (·.setIfInBounds 3 Value.none);have U6:(h2.update tb (Obj.mapFields (·.setIfInBounds 3 .none))).get? ea=some (Obj.mapFields (·.setIfInBounds 1 (.ref tb)) {cls:=.type "ValueError",data:=.fields #[.ref tt,.none,.none,.none,.bool false,.none]}):=(Heap.get?_update_other _ _ Sy).trans U7;have Sz:=Heap.get?_update_self (Obj.mapFields (·.setIfInBounds 3 .none)) Py (Obj.isFreed_of_fields Tv);have old:∀{b:Addr}{o:Obj},s.heap.get? b=some o->b≠ea/\b≠tb:=fun{b o}q=>by refine⟨fun z=>(by replace q:=P1▸z▸q;exact aa q),fun z=>?_⟩;have zS:h1.get? tb=none:=UO;replace zS:=(hm.keeps _ _ q)▸z.symm▸zS;rcases zS with⟨⟩
 have xE:∀(h':Heap)(tk:Nat),(∀b,b≠tb->h'.get? b=h2.get? b)->Ex C s {s with heap:=h',toks:=tk}:=fun h' tk hh=>by
  have Nu:∀b o,s.heap.get? b=some o->¬(C.fr b/\C.h₀.get? b=none)->h'.get? b=some o:=fun b o q f=>(hh b (old q).2).trans (k2 b o (hm.keeps _ _ q) (old q).1 f);refine Ex.Lk (fun b o q f=>Nu b o q fun z=>f z.1) (fun b o q=>?_) fun b f⟨o,q1,q2⟩=>?_
  ·refine ax (d2 b o (hm.keeps _ _ q) (old q).1) fun o' e' d'=>?_;exact⟨o',(hh b (old q).2).trans e',d'⟩
  ·cases z:C.h₀.get? b with|none=>rfl|some o'=>exact absurd (Nu b o q1 fun w=>Option.some_ne_none _ (z.symm.trans w.2)) q2
 have xN:Ex C s {s with heap:=h2.update tb (Obj.mapFields (·.setIfInBounds 3 .none)),toks:=Hg}:=xE _ _ fun b nb=>Heap.get?_update_other _ _ (Ne.symm nb);exact hQ _ xN ⟨_,U6,rfl⟩ fun{A E Q}hq=>ai (wpAny_setFlight_none U6 hd2 rfl Sz Tv (by refine xR Array.size_setIfInBounds ?_;exact Rb) (hq _ (xE _ _ fun b nb=>(Heap.get?_update_other _ _ (Ne.symm nb)).trans (Heap.get?_update_other _ _ (Ne.symm nb)))))
theorem KP (hC:C.Plain){d:Addr}(hT:Bt C g d stg){z t t2:Str}{k j:Int}(Fi:(ap.endLine==p.line)=true):ux C n (lO C cd name) (.Try [.Assign [.Name z xp] (.Call (.Name "int" fp) [.Name z yp,.Constant (.int 10) kb pb] [] cp) YU,.Assign [.Name t tp] (.Constant (.int k) kk pk) G2] [.ExceptHandler (some (.Name "ValueError" exp)) none [.Assign [.Name t2 VJ] (.Call (.Attribute (.Name g gp) "get" ap) [.Name z zp,.Constant (.int j) kj pj] [] p) Yt] hp] [] [] pos,NW g stg z t t2 k j):=fun{A env}hA hK{aj sc vars W ad s fl}e S hD h E Q hQ=>
 aI h fun WM h=>ao h fun v hx h=>aI h fun eN h=>by
 refine bg WM fun hf hex hg=>?_;refine ax (S.bV.lo z _ (tH hx)) fun vv hv hr=>?_;refine aJ hr.jS ?_;rintro tk (rfl);refine qa (gB (bl (zP hC hA.handled e S hv hf eN (fun i t' s1 hn x1=>?_) fun hn h1 ea mm Hg hm=>?_) rfl rfl))
 ·rw[hn]at h;refine ao (x:=bL sc z (.val (.int i)) vars) h fun b9 Dx h=>aZ (x:=bL sc t (.val (.int k)) b9) h fun Ju Iq Bc=>?_;subst Bc;show aK _ A (standAt xp>>=fun y=>bindName env z (.int i _)) _ _ _;refine ab (aq (ew e (S.ex x1) hD Dx (.int _ _) fun s4 m4 S4 Mx y=>Hk e S4 Mx Iq fun s7⟨W7,Ui,m7,S7,Qj⟩=>fE (hQ _ _ ⟨rfl,W7,Ui,?_,S7,Qj⟩)));exact((Mv.ka x1).trans m4).trans m7
 ·rw[hn]at h;refine aZ (x:=bL sc t2 (.val (.int ((stg v).getD j))) vars) h fun b9 Dx Bc=>?_;subst Bc;refine C5 hA hK S hm fun s3 x3 XD MK=>uD (X:="ValueError") (T:="ValueError") (by rw[isSubtype_type];kernel_rfl) (by rw[isSubtype_type];kernel_rfl) (by rw[isSubtype_type];kernel_rfl) fun E'=>?_;refine fz hC.ok e (x3.bs S.bV.bs) hex (by decide) (hC.none "ValueError" (by decide)) (hC.b (v:=.type "ValueError") (by kernel_rfl)) ⟨rfl,XD,MK fun s4 x4 YW=>?_⟩;exact DV hC hT Fi e (S.ex x4) hD (hv.ex S.bV.bs x4) hg Dx fun s7⟨W7,Ui,m7,S7,Qj⟩=>hQ _ _ ⟨rfl,W7,Ui,(Mv.ka x4).trans m7,S7,Qj⟩
end
section
open AutoSeq1 (wpAny_loadPart')
theorem B0 (l:Addr)(items:Array Value)(n:Nat)(CX:Option Addr)(BQ:Array (Option Value))(i:Int)(u:Tok)(k:Nat)(y:Value)(CG:Builtin.List.listFitsIndex i=true)(hk:seqIndex? i items.size=some k)(hy:items[k]?=some y)(hs1:items.size<=sizeLine):Meets (Builtin.«list.pop» ⟨[.ref l,.int i u],[]⟩) (fun x R s=>s.heap.get? l=some {cls:=.type "list",dict:=CX,data:=.seq items n,slots:=BQ}/\R (.ok (.ret y)) {s with heap:=s.heap.update l (Obj.mapSeq fun xs=>xs.eraseIdxIfInBounds k)}):=.of_wp fun prog w A R s h=>by
  obtain⟨hp,g,d,tk,os⟩:=s;refine aL h fun hl h=>?_;have iX:¬items.isEmpty=true:=by
   intro he;have:items.size=0:=by simpa using he
   simp[this]at hy
  have hf:¬(!Builtin.List.listFitsIndex i)=true:=by simp[CG]
  wp_walk using wpAny_loadPart' hl;simp only[hk,hy,ZV,Option.map_some];have xX:(items.eraseIdxIfInBounds k).size<=sizeLine+1:=by
   have h1:(items.eraseIdxIfInBounds k).size<=items.size:=by
    unfold Array.eraseIdxIfInBounds;split
    ·rw[Array.size_eraseIdx];exact bC 0x90c11 rfl
    ·exact ZQ _
   exact ZK h1 (Nat.le_succ_of_le hs1)
  wp_walk using(wpAny_updateSeq hl rfl (hz:=hs1) (_hz':=xX)),wpAny_loadPart' hl;exact⟨_,rfl,h⟩
theorem K9 {i:Int}{u:Tok}(U3:i=(k:Int))(hl:LstAt s.heap D vs)(hy:vs[k]?=some y)(hz:vs.length<=aM)(hQ:∀h',LstAt h' D (vs.eraseIdx k)->Heap.SameBut D s.heap h'->Q y {s with heap:=h'}):aK (model C.prog C.w) A (PySem.call (.builtin "list.pop") [.ref D,.int i u]) Q E s:=by
 refine iZ hl fun o m ho hc hn hd=>?_;obtain⟨c1,d1,FX,rY⟩:=o;simp only at hc hd hn;subst hc hd hn;have hk:k<vs.length:=(List.getElem?_eq_some_iff.mp hy).1;have eT:aM=1000000:=rfl;have CG:Builtin.List.listFitsIndex i=true:=by rw[U3];unfold Builtin.List.listFitsIndex;simp only[ZR,decide_eq_true_eq];lia
 have Rm:seqIndex? i vs.toArray.size=some k:=by rw[U3];unfold seqIndex?;rw[ZT];have h0:¬(((k:Nat):Int)<0):=bC 0x80af731 rfl;simp only[h0,if_false];simp[hk]
 have Nr:vs.toArray[k]?=some y:=by simpa using hy
 have xX:vs.toArray.size<=sizeLine:=by rw[ZT];exact bx hz
 have WQ:=B0 D vs.toArray m none rY i u k y CG Rm Nr (hs1:=xX);have Ws:s.TypeIs (.ref D) "list":=⟨_,ho,rfl⟩;refine ai (call_meets PySem.F.slot_list_pop Ws PySem.F.entry_list_pop (PySem.F.args_list_pop_2 _ _) WQ ⟨ho,?_⟩)
 ·obtain⟨m',hm⟩:∃m',(Obj.mapSeq (fun xs=>xs.eraseIdxIfInBounds k) {cls:=.type "list",dict:=none,data:=.seq vs.toArray m,slots:=rY}).data=.seq (vs.toArray.eraseIdxIfInBounds k) m':=⟨_,rfl⟩;refine hQ _ ⟨_,m',Heap.get?_update_self _ ho rfl,rfl,rfl,?_⟩ (Heap.SameBut.update ..);rw[hm];simp[Array.eraseIdxIfInBounds,hk]
end
set_option tactic.hygienic true in
theorem Ac (h:args.any (·.1)=false){Q:Args->Shared->Prop}(hs:aK (model C.prog C.w) A (spliced args) (fun vs s'=>Q ⟨vs,[]⟩ s') E s):aK (model C.prog C.w) A (evalArgs f true args []) Q E s:=by
 have key:evalArgs f true args []=(spliced args>>=fun vs=>holding (vs++[]) (pure ⟨vs,[]⟩)):=by
  unfold evalArgs;rcases args with⟨⟩;case nil=>rfl
  case cons x r=>
   obtain⟨b,t⟩:=x;rcases b with⟨⟩;case true=>simp at h
   case false=>rfl
 rw[key];exact ab (aD hs (fun vs s1 h1=>ar (ah h1)) fun y y q=>q)
theorem tM {m:Str}{xp ap:Pos}{args:List Expr}{id:String}{a:Dat}(e:aN env sc)(S:SS C aj env sc vars W ad s)(hx:vars.lookup x=some (.own a))(hl:args.length<30)(hp:(ap.endLine==p.line)=true)(fO:(backTo p (starEach args env)).any (·.1)=false)(hm:∀{pl},Wp C A (getMethod (.ref (ad x)) m pl) (fun r y=>r=(.builtin id,[.ref (ad x)])) s){Q:Value->Shared->Prop}(h:∀s2,Ex C s s2->aK (model C.prog C.w) A (spliced (backTo p (starEach args env))) (fun vs s3=>aK (model C.prog C.w) A (PySem.call (.builtin id) (.ref (ad x)::vs)) Q E s3) E s2):aK (model C.prog C.w) A (eval (.Call (.Attribute (.Name x xp) m ap) args [] p) env) Q E s:=by
 show aK _ A (eval (.Name x xp) env>>=fun ov=>standAt ap.atName>>=fun y=>methodCall (.Name x xp) m ap p env ov (args.length+0) (backTo p (starEach args env)) (backToKw p (keywordEach [] env))) _ E s;refine ab (g7 e (S.own x a hx).1 (ab (aq ?_)));have CN:methodCallForm (args.length+0) (backTo p (starEach args env)) (backToKw p (keywordEach [] env))=true:=by
  unfold methodCallForm;have h1:(backTo p (starEach args env)).all (!·.1)=true:=by rw[List.all_eq_true];intro x hx;have:=List.any_eq_false.mp fO x hx;simpa using this
  rw[h1];exact decide_eq_true hl
 unfold methodCall;rw[CN];refine ab (ar ?_);show aK _ A (getMethod (.ref (ad x)) m _) _ E s;refine hm _ _ fun r s2 x2 hr=>?_;subst hr;dsimp only;have Me:methodCallPos true (.Name x xp) env ap p=pure p:=by unfold methodCallPos;simp only[Bool.not_true,Bool.false_or,hp,if_true]
 rw[Me];refine ab (ah ?_);exact bQ (fun y q=>by rcases q with⟨⟩) fO (Ac fO (h s2 x2))
theorem vf (S:SS C aj env sc vars W ad s)(hx:vars.lookup x=some (.own d)):aT s.heap (fun b=>aj b\/W b) (.ref (ad x)) d:=by refine ax (S.bV.lo x _ hx) fun w hw hr=>?_;have:=hw.unique (S.own x d hx).1;subst this;exact hr.1
noncomputable def dU (V:az)(x:Str):Option (List Dat):=match V.lookup x with
 |some (.own (.list ds))=>some ds|_=>none
set_option tactic.hygienic true in
theorem qy (h:dU V x=some ds):V.lookup x=some (.own (.list ds)):=by
 unfold dU at h;cases e:V.lookup x with
 |none=>rw[e]at h;exact aa h
 |some sl=>
  rw[e]at h;rcases sl with⟨⟩;case val d=>exact aa h
  case own d=>
   rcases d with⟨⟩;case list u=>obtain rfl:=Z9 h;rfl
   all_goals (exact aa h)
noncomputable def toInt:Option Dat->Option Int|some (.int i)=>some i|_=>none
set_option tactic.hygienic true in
theorem BJ {o:Option Dat}{i:Int}(h:toInt o=some i):o=some (.int i):=by
 rcases o with⟨⟩;case none=>exact aa h
 case some d=>
  rcases d with⟨⟩;case int u=>obtain rfl:=Z9 h;rfl
  all_goals (exact aa h)
def Ei (Φ:gq)(x y:Str)(ix:Expr):oH:=fun sc vars=>(dU vars x).bind fun ds=>(dU vars y).bind fun ls=>(toInt (ev Φ sc ix vars)).bind fun i=>if 0<=i/\ls.length<=aM/\ds.length+1<=aM then(ls[i.toNat]?).map fun d=>.next ((x,.own (.list (ds++[d])))::(y,.own (.list (ls.eraseIdx i.toNat)))::vars)else none
theorem Hn (hC:C.Ok)(hO:cj C n)(hF:b7 C Φ n)(We:x≠y)(hp:(ap.endLine==p.line)=true)(WI:(G2.endLine==p2.line)=true):ux C n K (.Expr (.Call (.Attribute (.Name x xp) "append" ap) [.Call (.Attribute (.Name y yp) "pop" G2) [ix] [] p2] [] p) pos,Ei Φ x y ix):=fun{A env}hA hK{aj sc vars W ad s fl}e S hD h E Q hQ=>
 ao h fun ds hx h=>ao h fun ls hy h=>ao h fun i hi h=>aI h fun hb h=>aZ h fun d hd Bc=>by
 subst Bc;have hx:=qy hx;have hy:=qy hy;have hi:=BJ hi;refine bg hb fun W5 WT Fq=>?_;have xY:∀y p,ix≠.Starred y p:=by rintro y' p' rfl;exact aa hi
 have Ii:(backTo p2 (starEach [ix] env)).any (·.1)=false:=by rw[bH xY];rfl
 refine wH ?_ (gZ e) rfl;have rx:=vf S hx;refine tM (args:=[_]) e S hx (show 1<30 by decide) hp rfl (kP slot_list_append PySem.F.type_list_append rx) fun s2 x2=>?_;have S2:=S.ex x2;refine bu ?_;refine tM (args:=[_]) e S2 hy (show 1<30 by decide) WI Ii (kP PySem.F.slot_list_pop PySem.F.type_list_pop (vf S2 hy)) fun s3 x3=>?_;have S3:=S2.ex x3;refine bu ?_ (bH xY);refine cH hC hO hF hA ix e S3.bV hi _ _ fun v s4 x4 r4=>?_;have S4:=S3.ex x4;refine bY ?_;cases r4 with|int _ tk=>?_
 refine ax (LstAt.of (a:=.none) (vf S4 hy)) fun vs lv rv=>?_;refine ax (rv.get hd) fun yv Wd VP=>?_;have Vg:=(S4.own y _ hy).2;refine K9 (k:=i.toNat) (ni 0xfbfaf0f90f882 rfl W5) lv Wd (by rw[rv.length];exact WT) fun h5 l5 SG=>?_;have r5:aT h5 (fun b=>aj b\/W b) (.ref (ad y)) (.list (ls.eraseIdx i.toNat)):=.xv l5 ((gG (vol:=fun b=>aj b\/W b) (.inr Vg) SG rv).eraseIdx _);refine bg (md (t:=s4.toks) S4 hD hy SG r5 (.inl ⟨_,rfl⟩)) fun m5 S5 XS=>?_;have VQ:Rep h5 (fun b=>aj b\/W b) yv d:=VP.dE (vol:=fun b=>aj b\/W b) (.inr Vg) SG.extBut;refine bY ?_;have Ss:((y,Slot.own (.list (ls.eraseIdx i.toNat)))::vars).lookup x=some (.own (.list ds)):=by rw[ae We];exact hx
 refine ax (LstAt.of (a:=.none) (vf S5 Ss)) fun us lu ru=>?_;have Vh:=(S5.own x _ Ss).2;refine oC (s:={s4 with heap:=h5}) lu (by rw[ru.length];exact Fq) fun h6 l6 SF=>?_;have r6:aT h6 (fun b=>aj b\/W b) (.ref (ad x)) (.list (ds++[d])):=.xv l6 ((gG (s:={s4 with heap:=h5}) (vol:=fun b=>aj b\/W b) (.inr Vh) SF ru).append (.cons (VQ.dE (vol:=fun b=>aj b\/W b) (.inr Vh) SF.extBut) .nil));refine bg (md (s:={s4 with heap:=h5,toks:=s4.toks}) (t:=s4.toks) S5 XS Ss SF r6 (.inl ⟨_,rfl⟩)) fun m6 S6 TS=>?_;exact hQ _ _ ⟨rfl,W,ad,(Mv.ka (x2.trans (x3.trans x4))).trans (m5.trans m6),S6,TS⟩
section
variable {Ψ:nz} {st:Stmt} {sts:List Stmt} {fl:Fl}
theorem eP:bT Φ Ψ sc [] vars=some (.next vars):=rfl
theorem av (h:j9 (Ψ sc st vars) (ex Φ Ψ sc st vars)=some (.next vars')):bT Φ Ψ sc (st::sts) vars=bT Φ Ψ sc sts vars':=congrArg (fun o:Option Fl=>o.bind (kW (bT Φ Ψ sc sts))) h
set_option tactic.hygienic true in
theorem eO (h:j9 (Ψ sc st vars) (ex Φ Ψ sc st vars)=some fl)(hf:∀v,fl≠.next v):bT Φ Ψ sc (st::sts) vars=some fl:=by
 refine(congrArg (fun o:Option Fl=>o.bind (kW (bT Φ Ψ sc sts))) h).trans ?_;rcases fl with⟨⟩;case next v=>exact absurd rfl (hf v)
 all_goals (rfl)
theorem cE (h:Ψ sc st vars=some fl):j9 (Ψ sc st vars) (ex Φ Ψ sc st vars)=some fl:=by rw[h];rfl
theorem aC (h0:Ψ sc st vars=none)(h:ex Φ Ψ sc st vars=some fl):j9 (Ψ sc st vars) (ex Φ Ψ sc st vars)=some fl:=by rw[h0];exact h
theorem o7 {b o:List Stmt}(h:sO Φ sc t vars=some (c,vars')):ex Φ Ψ sc (.If t b o p) vars=bT Φ Ψ sc (if c then b else o) vars':=by refine(congrArg (fun x:Option (Bool×az)=>x.bind fun r=>bX r.1 (bT Φ Ψ sc b r.2) (bT Φ Ψ sc o r.2)) h).trans ?_;rcases c with⟨⟩<;>rfl
theorem hU (h:dO Φ sc t vars (ev Φ sc t vars)=some c):sO Φ sc t vars=some (c,vars):=by unfold sO;rw[h]
theorem kr (h:ev Φ sc t vars=some d):oq Φ sc t vars=some (d,vars):=by unfold oq;rw[h]
theorem vK (hz:la Φ sc it vars=none)(h:oq Φ sc it vars=some (src,v1))(hi:bb src=some items):ex Φ Ψ sc (.For t it b [] p) vars=cQ (fun d vs=>match bp sc t d vs with
      |none=>none|some vs=>bT Φ Ψ sc b vs) items v1:=by
 show sN Φ sc t it (fun vs=>bT Φ Ψ sc b vs) vars=_
 unfold sN
 rw[hz]
 exact(congrArg (fun x:Option (Dat×az)=>x.bind fun r=>(bb r.1).bind fun items=>cQ (fun d vs=>match bp sc t d vs with
      |none=>none|some vs=>bT Φ Ψ sc b vs) items r.2) h).trans (congrArg (fun x:Option (List Dat)=>x.bind fun items=>cQ (fun d vs=>match bp sc t d vs with|none=>none|some vs=>bT Φ Ψ sc b vs) items v1) hi)
theorem gw (h:oq Φ sc t vars=some (d,v1)):ex Φ Ψ sc (.Return (some t) p) vars=some (.ret d):=congrArg (fun x:Option (Dat×az)=>x.map fun r:Dat×az=>Fl.ret r.1) h
theorem yg:ex Φ Ψ sc (.While t b [] p) vars=sj (fun vs=>dO Φ sc t vs (ev Φ sc t vs)) (fun vs=>bT Φ Ψ sc b vs) Φ.fuel vars:=rfl
theorem fu {step:Dat->az->Option Fl}{d:Dat}{ds:List Dat}(h:step d vars=some (.next vars')):cQ step (d::ds) vars=cQ step ds vars':=congrArg (fun o:Option Fl=>o.bind (jc (cQ step ds))) h
theorem xH:∀{vars:az},vars.lookup x=some sl->(aO vars).lookup x=some sl.iD:=by
 intro vars;induction vars with
 |nil=>intro h;exact aa h
 |cons y0 r ih=>
  intro h;obtain⟨y,t⟩:=y0;have e:aO ((y,t)::r)=(y,t.iD)::aO r:=rfl;rw[e,ZS];rw[ZS]at h;cases hb:x==y with
  |true=>rw[hb]at h;obtain rfl:=Z9 h;rfl
  |false=>rw[hb]at h;exact ih h
noncomputable def EL (Φ:gq)(sc:Scope)(x:Str)(o:Option Slot):Option Dat:=match o with
  |some (.val d)=>some d|some (.own _)=>none|none=>if sc.names.lookup x=some .globalImplicit then Φ.glob x else none
theorem vR (h:vars.lookup x=some (.own d)):oq Φ sc (.Name x p) vars=some (d,aO vars):=by have h1:ev Φ sc (.Name x p) vars=none:=congrArg (EL Φ sc x) h;have h2:ev Φ sc (.Name x p) (aO vars)=some d:=congrArg (EL Φ sc x) (xH h);unfold oq;rw[h1,h2];rfl
def b0 (pat:Addr)(fuel:Nat):gq where
 fn _:=none;rO f:=if f="len" then some zF else if f="sum" then some sumF else if f="str" then some N4 else if f="ord" then some OF else if f="chr" then some I5 else if f="bytes" then some wa else if f="range" then some uX else if f="isinstance" then some JO else none;nQ m:=if m="split" then qm pat else if m="join" then A6 else if m="index" then zR else fun y y=>none;glob x:=if x="_twin_re_1" then some (.top pat)else if x="bytes" then some (.typ "bytes")else none;fuel:=fuel
noncomputable def gM (p:Program)(i:Nat):List Stmt:=match p.main.body[i]? with|some (.FunctionDef _ _ b _ _ _ _ _ _ _)=>b|_=>[]
noncomputable def eG (p:Program)(i:Nat):Scope:=match p.main.body[i]? with|some (.FunctionDef _ _ _ _ _ _ sc _ _ _)=>sc|_=>default
noncomputable def argsAt (p:Program)(i:Nat):Arguments:=match p.main.body[i]? with|some (.FunctionDef _ a _ _ _ _ _ _ _ _)=>a|_=>⟨[],[],none,[],[],none,[]⟩
noncomputable def bS:Pos:=⟨0,0,0,0⟩
def ak (b:List Stmt)(i:Nat):Stmt:=b.getD i (.Pass bS)
noncomputable def bK:Stmt->List Stmt| .For _ _ b _ _=>b|_=>[]
def bj:Stmt->Expr| .For _ it _ _ _=>it|_=>.Name "" bS
def aU:Stmt->Expr| .For t _ _ _ _=>t|_=>.Name "" bS
def cK:Stmt->Pos| .For _ _ _ _ p=>p|_=>bS
def aQ:Stmt->Expr| .If t _ _ _=>t|_=>.Name "" bS
noncomputable def cu:Stmt->List Stmt| .If _ b _ _=>b|_=>[]
def iI:Stmt->Pos| .If _ _ _ p=>p|_=>bS
def b6:Stmt->Expr| .While t _ _ _=>t|_=>.Name "" bS
noncomputable def ja:Stmt->List Stmt| .While _ b _ _=>b|_=>[]
def eH:Stmt->Expr| .Return (some e) _=>e|_=>.Name "" bS
def ir:Stmt->Pos| .Return _ p=>p|_=>bS
end
theorem kG {k:Str}{o:Str->Option (List Dat->Option Dat)}(h1:gR C n k My)(h2:∀{f g},o f=some g->gR C n f g)(h:(if f=k then some My else o f)=some g):gR C n f g:=by
 by_cases e:f=k
 ·rw[Z1 e]at h;obtain rfl:=Z9 h;exact e▸h1
 ·rw[ZX e]at h;exact h2 h
theorem M5 (h:(none:Option (List Dat->Option Dat))=some g):gR C n f g:=aa h
theorem mI {k:Str}{o:Str->Dat->List Dat->Option Dat}(h1:mi C n k My)(h2:∀m,mi C n m (o m))(m:Str):mi C n m (if m=k then My else o m):=by
 by_cases e:m=k
 ·rw[Z1 e];exact e▸h1
 ·rw[ZX e];exact h2 m
theorem A0 (m:Str):mi C n m fun x x=>none:=fun h=>aa h
def rV (C:Cx)(x:Str)(d:Dat):Prop:=∃v,(C.mg x=some v\/(C.mg x=none/\C.mb x=some v))/\(x==("__debug__":Str))=false/\∀{s:Shared}{vol:Addr->Prop},Bs C s->aW C vol s->Rep s.heap vol v d
theorem vF {k:Str}{o:Str->Option Dat}(h1:rV C k T8)(h2:∀{x d},o x=some d->rV C x d)(h:(if x=k then some T8 else o x)=some d):rV C x d:=by
 by_cases e:x=k
 ·rw[Z1 e]at h;obtain rfl:=Z9 h;exact e▸h1
 ·rw[ZX e]at h;exact h2 h
theorem Bi (h:(none:Option Dat)=some d):rV C x d:=aa h
theorem q9 (hC:C.Plain):rV C "bytes" (.typ "bytes"):=⟨.type "bytes",.inr ⟨hC.none "bytes" (by decide),hC.b (by kernel_rfl)⟩,by decide,fun x x=>.typ _⟩
theorem Gr (hC:C.Plain)(h:(b0 pat fuel).rO f=some g):gR C n f g:=kG (Jl hC) (kG (Ji hC) (kG (Jj hC) (kG (Jk hC) (kG (Jm hC) (kG (Dd hC) (kG (Dc hC) (kG (rN hC) M5))))))) h
theorem ko (hC:C.Plain)(hp:Re.gf C.h₀ pat c)(hg:C.mg "_twin_re_1"=some (.ref pat)):b7 C (b0 pat fuel) n where
 fn h:=aa h;rO h:=Gr hC h;glob h:=vF ⟨_,.inl hg,by decide,fun x x=>.top _⟩ (vF (q9 hC) Bi) h;nQ {m}:=mI (zy hC.ok hp) (mI tR (mI qN A0)) m
noncomputable def gq.and (Φ:gq)(f:Str)(g:List Dat->Option Dat):gq:={Φ with fn:=fun x=>if x=f then some g else Φ.fn x}
def ti (C:Cx)(n:Nat)(f:Str)(g:List Dat->Option Dat):Prop:=∃a o fd,C.mg f=some (.ref a)/\(f==("__debug__":Str))=false/\¬C.T a/\C.h₀.get? a=some o/\o.data=.func fd/\∀{A s vol vs ds d},cV C n A->Bs C s->aW C vol s->aH s.heap vol vs ds->g ds=some d->dY C A vol (PySem.call (.ref a) vs) d s
theorem b7.and (h:b7 C Φ n)(hf:ti C n f g):b7 C (Φ.and f g) n where
 fn {f' g'} e:=by
  by_cases q:f'=f
  ·have:=(Z1 q).symm.trans e;obtain rfl:=Z9 this;exact q▸hf
  ·exact h.fn ((ZX q).symm.trans e)
 rO:=h.rO;glob:=h.glob;nQ:=h.nQ
section
variable {Ψ:nz}
theorem Jy (hC:C.Plain):ng C n where
 chg h _ _ r:=Ge h r;Uw h _ bs V hp r rj rd hQ:=D0 h bs V hp r rj rd hQ;new h:=xy hC h
theorem pN (h:Φ.rO "zip"=none):la Φ sc it vars=none:=by unfold la;cases v9 it with|none=>rfl|some z=>refine ZX fun q=>?_;have q2:=q.2.1;rw[q.1,h]at q2;exact ZZ q2
theorem pZ (h:Φ.rO "zip"=none):yI C Φ Ψ A:=by intro aj env sc t it body pos e1 e2 xs ys vars W ad s fl e S hD hz;rw[pN h]at hz;exact aa hz
theorem Cx.Plain.at (h:C.Plain)(fr:Addr->Prop):(C.at fr).Plain:=⟨h.ok.at fr,h.none⟩
def eY (C:Cx)(f:Str)(params:Arguments)(body:List Stmt)(scope:Scope)(cd:Value):Prop:=∃a o pm doc,C.mg f=some (.ref a)/\C.h₀.get? a=some o/\o.cls≠.none/\o.data=.func (Calls.docDef f params body scope pm cd doc)/\C.h₀.CodeRec cd f
theorem z6 (hC:C.Plain)(hF:∀fr,b7 (C.at fr) Φ n)(hz:Φ.rO "zip"=none)(hD:eY C f params body scope cd)(PQ:(f==("__debug__":Str))=false) (hP:∀fr,fH (C.at fr) n (lO (C.at fr) cd f) Ψ) (Ds:oG scope) (hx:xs.Nodup) (hk:∀x∈xs,(scope.names.lookup x=some .local\/scope.names.lookup x=some .cell)/\(x==("__debug__":Str))=false/\(x==("__classdict__":Str))=false) (q8:∀vs pm doc,xs.length=vs.length->bindArgs (Calls.docDef f params body scope pm cd doc) ⟨vs,[]⟩=pure (xs.zip vs)) (hg:∀ds d,g ds=some d->xs.length=ds.length/\bT Φ Ψ scope body (bB xs ds)=some (.ret d)):ti C (n+1) f g:=by
 refine cL hD fun a o pm doc h1 h2 h3 y0=>?_;refine aL y0 fun h4 h5=>?_
 refine⟨a,o,_,h1,PQ,hC.ok.dv h2 h3,h2,h4,fun{A s vol vs ds d}hA bs V rs h=>?_⟩
 refine aL (hg ds d h) fun hl he=>?_
 exact Jb hC.ok (fun fr=>xt) hF (fun fr=>Jy (hC.at fr)) (fun y=>pZ hz) (fun z0 hK=>hP _ z0 hK) (hC.ok.dv h2 h3) h2 h4 h5 Ds hx hk hl (q8 vs pm doc (hl.trans rs.length.symm)) hA bs V rs he
end
section
open PySem.Spec PySem.Calls
variable {q:Program} {loose:List Str} {zB:ExcName->Option Value} {mg mb:Str->Option Value} {K:Frag}
def posAt (p:Program)(i:Nat):Pos:=match p.main.body[i]? with|some (.FunctionDef _ _ _ _ _ _ _ _ _ pos)=>pos|_=>bS
def recAt (p:Program)(f:Str)(i:Nat):DefRec:=⟨f,argsAt p i,gM p i,eG p i,posAt p i⟩
def eU (q p:Program)(f:Str)(i:Nat):Prop:=(recsOf q).find? (fun e=>e.name==f)=some (recAt p f i)
noncomputable def Od:Value->Option Addr| .ref a=>some a|_=>none
theorem Ed (h:Od v=some a):v=.ref a:=by
 rcases v with⟨⟩;case ref=>rw[Z9 h]
 all_goals exact aa h
def vY (K:Frag)(f:Str):Bool:=(((nsIn K mainGlobals f).bind fun o=>o.bind Od).bind fun a=>(K.lookup a).bind fun o=>if o.cls=.none then none else some ()).isSome
theorem ue (X:K.In h)(g:h.Ns mainGlobals mg)(hc:vY K f=true)(hm:mg f=some (.ref a))(ho:h.get? a=some o):o.cls≠.none:=by obtain⟨u,hu⟩:=Option.isSome_iff_exists.mp hc;refine ao hu fun b h1 hu=>ao h1 fun q h2 h1=>ao h1 fun v h3 h1=>ao hu fun o2 h4 hu=>?_;obtain rfl:=Ed h1;subst h3;have e1:=mg_of X g h2;rw[hm]at e1;obtain rfl:=Value.ref.inj (Z9 e1);have e2:=X _ _ h4;rw[ho]at e2;obtain rfl:=Z9 e2;exact fun e=>aa ((Z1 e).symm.trans hu)
theorem iN (hh:C.h₀=h)(hm:C.mg=mg)(T:Top q loose zB mg mb h)(X:K.In h){p:Program}(hd:eU q p f i)(hc:vY K f=true):∃cd,eY C f (argsAt p i) (gM p i) (eG p i) cd:=by subst hh hm;refine G5 (T.fn _ (List.mem_of_find?_eq_some hd)) fun a o pm code doc h1 h2 y0=>?_;refine aL y0 fun h3 h4=>?_;exact⟨code,a,o,pm,doc,h1,h2,ue X T.g hc h1 h2,h3,h4⟩
theorem wU (hh:C.h₀=h)(hm:C.mg=mg)(T:Top q loose zB mg mb h)(X:K.In h){p:Program}(hd:eU q p f i)(hc:vY K f=true)(ht:tabIn K f=some (c,P)):eY C f (argsAt p i) (gM p i) (eG p i) (.ref c)/\h.IsCode c P #[]/\h.TableAt c P #[]:=by
 revert hh hm T X hd hc ht;refine pn (b8 (b8 (b8 (b8 zv inferInstance) inferInstance) inferInstance) inferInstance) ?_ C f p i c P q loose zB mb K mg h;generalize jF _ _=tt;dsimp only[Bu];generalize tt.1.1.1.1=C,tt.1.1.1.2=f,tt.1.1.2.1=p,tt.1.1.2.2=i,tt.1.2.1.1=c,tt.1.2.1.2=P,tt.1.2.2=q,tt.2.1.1.1=loose,tt.2.1.1.2=zB,tt.2.1.2=mb,tt.2.2.1.1=K,tt.2.2.1.2=mg,tt.2.2.2=h;intro hh hm T X hd hc ht;subst hh hm;have hr:=List.mem_of_find?_eq_some hd;refine G5 (T.fn _ hr) fun a o pm code doc h1 h2 y0=>?_;refine aL y0 fun h3 h4=>?_;refine G5 (T.tab _ hr) fun a' o' fd c' P' g1 g2 y0=>?_;refine mu y0 fun g3 g4 g5 g6=>?_;have e1:fd.code=.ref c:=law_code X T.g ht g1 g2 g3;replace g1:=h1.symm.trans g1;refine ZU fun hG=>?_;rcases g1 with⟨⟩;rw[h2]at g2;obtain rfl:=Z9 g2;rw[h3]at g3;rcases g3 with⟨⟩;have e2:code=.ref c:=e1;subst e2;rcases g4 with⟨⟩;refine hG ?_;have hx:=(tab_of T X hd ht).1;refine Ku hx fun oc vs fl tf fg tg UK y0=>?_;refine Bw y0 fun tx tt k1 k2 k3 k4 x=>?_;have e3:P'=P:=by refine aL g6 fun y0 x=>?_;refine iZ y0 fun Yy pO j1 j2 j3 j4=>?_;rw[k1]at j1;obtain rfl:=Z9 j1;replace j3:=k3.symm.trans j3;rcases j3 with⟨⟩;replace j4:=k4.symm.trans j4;rcases j4 with⟨⟩;rfl
 cases e3;exact⟨⟨a,o,pm,doc,h1,h2,ue X T.g hc h1 h2,h3,h4⟩,g5,g6⟩
noncomputable def plainNames:List Str:=[("list":Str),"bytearray","len","sum","str","ord","chr","bytes","range","isinstance","sorted","zip","int","filter","ValueError","IndexError"]
def Kc (q:Program)(loose:List Str):Bool:=plainNames.all fun x=> !(startupNames.contains x)&& !(loose.contains x)&& !(((recsOf q).map (·.name)).contains x)&& !(((litsOf q).map (·.1)).contains x)&& !(((clssOf q loose).map (·.name)).contains x)
noncomputable def rC (p:Program)(w:World)(s:Shared)(mg mb:Str->Option Value)(tabs:List (Addr×Addr×Pos×Str)):Cx:={prog:=p,w:=w,h₀:=s.heap,JF:=s.os,mg:=mg,mb:=mb,tabs:=tabs,fr:=fun x=>False}
theorem Ej {p:Program}(T:Top q loose zB mg mb s.heap)(hf:Kc q loose=true)(ht:∀c P p q,(c,P,p,q)∈tabs->s.heap.TableAt c P #[]/\P≠cStatics/\P≠mainGlobals/\P≠builtinsNs):(rC p w s mg mb tabs).Plain:=by refine⟨⟨T.g,T.b,T.nolimit,T.builtins,ht⟩,fun x hx=>?_⟩;have h:=Zw hf x hx;simp only[ZR,Bool.not_eq_true',List.contains_eq_mem,decide_eq_false_iff_not]at h;exact T.free x h.1.1.1.1 h.1.1.1.2 h.1.1.2 h.1.2 h.2
theorem C6 {p:Program}:cV (rC p w s mg mb tabs) 4 callerA:=⟨rfl,by decide +kernel,by decide +kernel,[],rfl,fun f hf=>by rcases hf with⟨⟩⟩
theorem QS {p:Program}(hg:s.gens= #[])(ht:∀c P p q,(c,P,p,q)∈tabs->s.heap.TableAt c P #[]):Bs (rC p w s mg mb tabs) s:=⟨fun b o e x=>e,fun c P p q m=>.inl (ht c P p q m).2,.of_eq hg,rfl,fun a ha=>ha.elim⟩
theorem NP {p:Program}(ht:∀c P p q,(c,P,p,q)∈tabs->s.heap.TableAt c P #[]):aW (rC p w s mg mb tabs) (rC p w s mg mb tabs).T s:=⟨fun a h=>h,fun a h=>h.elim,fun a⟨c,pp,qq,m⟩=>⟨_,(ht _ _ _ _ m).2⟩⟩
theorem Dk:∀{xs:List WData},WShape.hasItems R xs .int=true->∃is:List Int,xs=is.map WData.int:=by
 intro xs;induction xs with
 |nil=>intro _;exact⟨[],rfl⟩
 |cons d r ih=>intro hh;have Tf:(WShape.has R d .int&&WShape.hasItems R r .int)=true:=hh;rw[ZR]at Tf;refine aJ (ih Tf.2) fun is e=>?_;refine aJ (hasW_int Tf.1) ?_;rintro i (rfl);exact⟨i::is,by rw[e];rfl⟩
theorem Eh {l:OpenLaw}{n:Nat}{args:List WData}(hm:l.most=some n)(hb:l.bound=none)(yb:l.row.toRowW.claim.pre args=true):∃is:List Int,args=[.list (is.map .int)]/\is.length<=n:=by
 refine aL (pre_splitW yb) fun hs hc=>?_;refine eB (hasAllW_cons (show WShape.hasAll [] args [.list .int]=true from hs)) ?_;rintro d r (rfl) h1 h2;obtain rfl:=hasAllW_nil h2;refine ax (hasW_list h1) ?_;rintro xs (rfl) h3;refine aJ (Dk h3) ?_;rintro is (rfl);refine⟨is,rfl,?_⟩;have hp:l.row.toRowW.pre=.and (.not (.lt (.lit (.int n)) (.len (.arg 0)))) (.lit (.bool true)):=by show OpenLaw.pre l=_;delta OpenLaw.pre;exact xR hm (xR hb rfl)
 simp only[hp]at hc;have h4:=(holds_andW hc).1;have h5:=condW_of (X:= !(decide ((n:Int)<((is.map WData.int).length:Int)))) h4 (by rfl);simp only[Z2,Bool.not_eq_true',decide_eq_false_iff_not]at h5;exact aR 0x111af0af732 rfl h5
theorem yU:∀{vs:List Value}{is:List Int},WellAll P h vs (is.map .int)->aH h vol vs (is.map Dat.int):=by
 intro g0 is;induction is generalizing g0 with
 |nil=>intro w;rcases w with⟨⟩;exact .nil
 |cons i is ih=>intro w;refine eB (wellAll_cons_inv w) ?_;rintro v pO (rfl) w1 w2;rcases w1 with⟨⟩;exact .cons (.int _ _) (ih w2)
set_option tactic.hygienic true in
theorem DJ {P:Params}{vals:List Value}{is:List Int}(w:WellAll P h vals [.list (is.map .int)]):∃a vs,vals=[.ref a]/\h.get? a=some {cls:=.type "list",data:=.seq vs.toArray}/\∀vol,aH h vol vs (is.map Dat.int):=by refine eB (wellAll_cons_inv w) ?_;rintro v pO (rfl) w1 w2;rcases w2 with⟨⟩;rcases w1 with⟨⟩;case list e r=>exact⟨_,_,rfl,e,fun vol=>yU r⟩
theorem IA {l:OpenLaw}{p:Program}{w:World}{s s':Shared}{tabs:List (Addr×Addr×Pos×Str)}{cl:Str->Option Addr}{args:List WData}{v:Value}{vol:Addr->Prop}(ht:∀c P p q,(c,P,p,q)∈tabs->s.heap.TableAt c P #[]/\P≠cStatics/\P≠mainGlobals/\P≠builtinsNs)(hg:s.gens= #[])(x:Ex (rC p w s mg mb tabs) s s')(r:Rep s'.heap vol v (.bool true)):GoodWG l.row.toRowW.claim cl zB args s (.ok (.ret v)) s':=by
 have b:=x.bs (QS hg fun c P p q m=>(ht c P p q m).1);rcases r with⟨⟩;have hold:∀b o,s.heap.get? b=some o->asItWas s.heap s'.heap b o/\∃o',s'.heap.get? b=some o':=by
  intro a o e;by_cases hT:(rC p w s mg mb tabs).T a
  ·refine i0 hT fun c pp qq m=>?_;have h1:=(ht _ _ _ _ m).1;have e2:=h1.2;rw[e]at e2;obtain rfl:=Z9 e2;refine Z4 (b.tab _ _ _ _ m) (fun k=>?_) fun y0=>?_
   ·exact⟨.inl k,_,k⟩
   ·refine ax y0 fun c' k y=>?_;exact⟨.inr (.inl ⟨h1.isCodeTable,rfl,#[],#[rawInt pp.line,rawInt pp.col,.ref c'],rfl,by refine xR Array.empty_append ?_;exact k⟩),_,k⟩
  ·have k:=x.keep a o e hT (fun q=>q);exact⟨.inl k,_,k⟩
 refine⟨.inl ⟨_,.bool true,[],rfl,fun cls=>rfl,.bool true,?_,fun y=>⟨List.nodup_nil,fun a ha=>by rcases ha with⟨⟩⟩⟩,⟨fun a o e=>(hold a o e).1,fun a o e=>(hold a o e).2⟩,b.os,b.gens⟩;exact postW_of (r:=l.row.toRowW) (X:=W.same (.bool true) (.bool true)) (by rfl) (by rfl) (by simp[W.same])
end
noncomputable abbrev pw:PySem.Program:=PySem.Challenge.pw_pk0032_03
open PySem.NumText
section
variable {stg:Str->Option Int}
def dX:List Stmt:=gM pw 4
def bt:Scope:=eG pw 4
def dP:List Stmt:=bK (ak dX 2)
def DP:Stmt:=ak (cu (ak dP 0)) 0
noncomputable def kZ (stg:Str->Option Int):nz:=lh [(DP,NW "_ver_stages" stg "v" "t" "t" 100 0)]
def ee (x:Str):Bool:=Txt.contains "._+-" x||xU x
noncomputable def cD (stg:Str->Option Int)(x:Str):List Dat:=if Txt.contains "._+-" x then[]else match PySem.intText? x with
  |some i=>[.int 100,.int i]|none=>[.int ((stg x).getD 0),.str x]
theorem QI (h:Txt.contains "._+-" x=false):dO Φ bt (aQ (ak dP 0)) (("v",.val (.str x))::vars) (ev Φ bt (aQ (ak dP 0)) (("v",.val (.str x))::vars))=some true:=by
 have h1:dO Φ bt (aQ (ak dP 0)) (("v",.val (.str x))::vars) (ev Φ bt (aQ (ak dP 0)) (("v",.val (.str x))::vars))=some (!Txt.contains "._+-" x):=by rfl
 rw[h1,h];rfl
theorem MU (h:Txt.contains "._+-" x=true):dO Φ bt (aQ (ak dP 0)) (("v",.val (.str x))::vars) (ev Φ bt (aQ (ak dP 0)) (("v",.val (.str x))::vars))=some false:=by
 have h1:dO Φ bt (aQ (ak dP 0)) (("v",.val (.str x))::vars) (ev Φ bt (aQ (ak dP 0)) (("v",.val (.str x))::vars))=some (!Txt.contains "._+-" x):=by rfl
 rw[h1,h];rfl
def CO:Stmt:=ak (cu (ak dP 0)) 1
theorem Bl:cu (ak dP 0)=[DP,CO]:=by rfl
theorem FZ:kZ stg bt DP ((("v":Str),.val (.str x))::vars)=(if xU x=true then match PySem.intText? x with
  |some i=>(bL bt "v" (.val (.int i)) ((("v":Str),.val (.str x))::vars)).bind fun vars=>(bL bt "t" (.val (.int 100)) vars).map .next|none=>(bL bt "t" (.val (.int ((stg x).getD 0))) ((("v":Str),.val (.str x))::vars)).map .next
  else none):=(cM rfl).trans rfl
theorem F1:ex Φ (kZ stg) bt CO ((("t":Str),.val d1)::(("v":Str),.val d2)::V)=((ownOf V "result").bind fun a=>(qK "extend" a [.tuple [d1,d2]]).map fun a'=>.next ((("result":Str),.own a')::(("t":Str),.val d1)::(("v":Str),.val d2)::V)):=by rfl
theorem EA (h:V.lookup x=some (.own d)):ownOf V x=some d:=by unfold ownOf;rw[h]
theorem xA (h:acc.length+2<=aM):qK "extend" (.list acc) [.tuple [d1,d2]]=some (.list (acc++[d1,d2])):=by unfold qK;dsimp only;rw[ZX (by decide),Z1 rfl];exact Z1 h
theorem IZ (hr:vars.lookup ("result":Str)=some (.own (.list acc)))(eN:ee x=true)(hl:acc.length+2<=aM):∃v',bT Φ (kZ stg) bt dP (("v",.val (.str x))::vars)=some (.next v')/\v'.lookup ("result":Str)=some (.own (.list (acc++cD stg x))):=by
 have UR:dP=[.If (aQ (ak dP 0)) (cu (ak dP 0)) [] _]:=rfl;rw[UR];cases hc:Txt.contains "._+-" x with
 |true=>
  refine⟨(("v":Str),Slot.val (.str x))::vars,?_,?_⟩
  ·rw[av (aC rfl (o7 (hU (MU hc))))];rfl
  ·unfold cD;rw[hc,Z1 rfl,Zz];exact hr
 |false=>
  unfold ee at eN;rw[hc,Bool.false_or]at eN;have Rn:∀{v'},bT Φ (kZ stg) bt (cu (ak dP 0)) ((("v":Str),.val (.str x))::vars)=some (.next v')->bT Φ (kZ stg) bt dP ((("v":Str),.val (.str x))::vars)=some (.next v'):=fun{v'}h=>by have e1:∀q,ex Φ (kZ stg) bt (.If (aQ (ak dP 0)) (cu (ak dP 0)) [] q) ((("v":Str),.val (.str x))::vars)=some (.next v'):=fun q=>(o7 (c:=true) (hU (QI hc))).trans h;show bT Φ (kZ stg) bt [.If (aQ (ak dP 0)) (cu (ak dP 0)) [] _] _=_;rw[av (aC rfl (e1 _))];rfl
  rw[<-UR];have Ik:∀{d:Slot}{k:Str},(k==("result":Str))=false->vars.lookup ("result":Str)=((k,d)::vars).lookup ("result":Str):=fun{d k}hk=>by
   rw[ZS];have:(("result":Str)==k)=false:=by rw[ZJ]at hk ⊢;exact fun q=>hk q.symm
   rw[this]
  cases hi:PySem.intText? x with
  |some i=>
   have h1:kZ stg bt DP ((("v":Str),.val (.str x))::vars)=some (.next ((("t":Str),.val (.int 100))::(("v":Str),.val (.int i))::(("v":Str),.val (.str x))::vars)):=by rw[FZ,Z1 eN,hi];rfl
   have h2:ex Φ (kZ stg) bt CO ((("t":Str),.val (.int 100))::(("v":Str),.val (.int i))::(("v":Str),.val (.str x))::vars)=some (.next ((("result":Str),.own (.list (acc++[.int 100,.int i])))::(("t":Str),.val (.int 100))::(("v":Str),.val (.int i))::(("v":Str),.val (.str x))::vars)):=by rw[F1,EA ((Ik (by decide)).symm.trans hr),ZV,xA hl];rfl
   have hb:=(av (sts:=[CO]) (cE (Φ:=Φ) h1)).trans (av (sts:=[]) (aC rfl h2));refine⟨_,Rn (Bl▸hb),?_⟩;unfold cD;rw[hc,ZX ZZ,hi];exact au
  |none=>
   have h1:kZ stg bt DP ((("v":Str),.val (.str x))::vars)=some (.next ((("t":Str),.val (.int ((stg x).getD 0)))::(("v":Str),.val (.str x))::vars)):=by rw[FZ,Z1 eN,hi];rfl
   have h2:ex Φ (kZ stg) bt CO ((("t":Str),.val (.int ((stg x).getD 0)))::(("v":Str),.val (.str x))::vars)=some (.next ((("result":Str),.own (.list (acc++[.int ((stg x).getD 0),.str x])))::(("t":Str),.val (.int ((stg x).getD 0)))::(("v":Str),.val (.str x))::vars)):=by rw[F1,EA hr,ZV,xA hl];rfl
   have hb:=(av (sts:=[CO]) (cE (Φ:=Φ) h1)).trans (av (sts:=[]) (aC rfl h2));refine⟨_,Rn (Bl▸hb),?_⟩;unfold cD;rw[hc,ZX ZZ,hi];exact au
theorem I1:∀(xs:List Str)(acc:List Dat)(vars:az),vars.lookup ("result":Str)=some (.own (.list acc))->(∀x∈xs,ee x=true)->acc.length+2*xs.length<=aM->∃v',cQ (fun d vs=>match bp bt (aU (ak dX 2)) d vs with
      |none=>none|some vs=>bT Φ (kZ stg) bt dP vs) (xs.map .str) vars=some (.next v')/\v'.lookup ("result":Str)=some (.own (.list (acc++xs.flatMap (cD stg)))):=by
 intro xs
 induction xs with
 |nil=>intro acc vars hr _ _;exact⟨vars,rfl,by simpa using hr⟩
 |cons x xs ih=>
  intro acc vars hr eN hl;refine ax (IZ (Φ:=Φ) (stg:=stg) hr (eN x Z6) (by simp at hl;exact aX 0x202a0b1291b02d0b12 rfl hl)) fun v1 h1 r1=>?_;have Mb:(cD stg x).length<=2:=by
   unfold cD;split
   ·simp
   ·split<;>simp
  refine ax (ih (acc++cD stg x) v1 r1 (fun y hy=>eN y (Z7 _ hy)) (by simp at hl ⊢;exact cZ 0x2102d30bb102a31291b02d0b13 rfl hl Mb)) fun v2 h2 r2=>?_;refine⟨v2,?_,by simpa using r2⟩;rw[ZI,fu (vars':=v1)]
  ·exact h2
  ·exact h1
noncomputable def MV (pat:Addr)(t:Str):az:=[(("result":Str),.own (.list [])),(("component_re":Str),.val (.top pat)),(("version":Str),.val (.str t))]
theorem F0:dX=[ak dX 0,ak dX 1,.For (aU (ak dX 2)) (bj (ak dX 2)) dP [] (cK (ak dX 2)),.Return (some (.Name "result" (eH (ak dX 3)).pos)) (ir (ak dX 3))]:=by rfl
theorem MT {t:Str}(ht:t.length<=65536)(eN:∀x∈ej t,ee x=true)(hl:2*(ej t).length<=aM):bT (b0 pat fuel) (kZ stg) bt dX (bB ["version"] [.str t])=some (.ret (.list ((ej t).flatMap (cD stg)))):=by
 have h0:ex (b0 pat fuel) (kZ stg) bt (ak dX 0) (bB ["version"] [.str t])=some (.next [(("component_re":Str),.val (.top pat)),(("version":Str),.val (.str t))]):=by rfl
 have h1:ex (b0 pat fuel) (kZ stg) bt (ak dX 1) [(("component_re":Str),.val (.top pat)),(("version":Str),.val (.str t))]=some (.next (MV pat t)):=by rfl
 have h2:ev (b0 pat fuel) bt (bj (ak dX 2)) (MV pat t)=qm pat (.top pat) [.str t]:=by rfl
 have h3:qm pat (.top pat) [.str t]=some (.list ((ej t).map .str)):=by unfold qm;exact Z1 ⟨rfl,ht⟩
 refine ax (I1 (Φ:=b0 pat fuel) (stg:=stg) (ej t) [] (MV pat t) (by rfl) eN (by simpa using hl)) fun v' hf hr=>?_;rw[F0,av (aC (by rfl) h0),av (aC (by rfl) h1),av (aC (by rfl) ((vK (by rfl) (kr (h2.trans h3)) rfl).trans hf))];exact eO (aC (by rfl) (gw (vR hr))) (fun v q=>by rcases q with⟨⟩)
def F2 (stg:Str->Option Int):List Dat->Option Dat:=oB fun d=>(GB d).bind fun t=>if(decide (t.length<=65536)&&(ej t).all ee&&decide (2*(ej t).length<=aM))=true then some (.list ((ej t).flatMap (cD stg)))else none
theorem QG:oG bt:=⟨rfl,rfl,rfl,by decide +kernel,by decide +kernel⟩
theorem QH (hC:C.Plain)(hp:Re.gf C.h₀ pat c)(hg:C.mg "_twin_re_1"=some (.ref pat)){d:Addr}(hT:Bt C "_ver_stages" d stg)(hD:eY C "_comparable_version" (argsAt pw 4) dX bt cd):ti C (n+1) "_comparable_version" (F2 stg):=by
 refine z6 (Φ:=b0 pat 0) (Ψ:=kZ stg) hC (fun fr=>ko (hC.at fr) hp hg) rfl hD (by decide) (fun fr=>?_) QG (xs:=[("version":Str)]) (by decide) (by decide +kernel) (fun vs pm doc hl=>?_) (fun ds d h=>?_)
 ·exact @qj (C.at fr) n (lO (C.at fr) cd "_comparable_version") _ ⟨KP (hC.at fr) (d:=d) (stg:=stg) ⟨hT.map,hT.mods,hT.glob,hT.nd⟩ rfl,trivial⟩
 ·refine aJ (Qy hl.symm) ?_;rintro v (rfl);rfl
 ·refine ax (kI h) fun y e h=>ao h fun t h1 h=>aI h fun hc hz=>?_;obtain rfl:=uv h1;subst e;simp only[ZR,decide_eq_true_eq,List.all_eq_true]at hc;obtain rfl:=Z9 hz;exact⟨rfl,MT hc.1.1 hc.1.2 hc.2⟩
end
def bG (V V':az):Prop:=∀x,V.lookup x=V'.lookup x
theorem bG.refl (V:az):bG V V:=fun x=>rfl
theorem bG.trans (h:bG V V')(h':bG V' Yu):bG V Yu:=fun x=>(h x).trans (h' x)
theorem bG.cons (h:bG V V')(x:Str)(sl:Slot):bG ((x,sl)::V) ((x,sl)::V'):=fun y=>by rw[ZS,ZS,h y]
inductive tc:Option az->Option az->Prop
 |none:tc none none
 |some {V V':az}:bG V V'->tc (some V) (some V')
theorem dq (h:bG V V')(x:Str)(sl:Slot):tc (bL sc x sl V) (bL sc x sl V'):=by
 unfold bL;split
 ·exact .some (h.cons x sl)
 ·exact .none
set_option tactic.hygienic true in
theorem wc:∀(ts:List Expr){ds:List Dat}{V V':az},bG V V'->tc (gN sc ts ds V) (gN sc ts ds V'):=by
 intro ts;induction ts with
 |nil=>
  intro ds V V' h;rcases ds with⟨⟩;case nil=>exact .some h
  case cons=>exact .none
 |cons t ts ih=>
  intro ds V V' h;rcases ds with⟨⟩;case nil=>exact .none
  case cons d ds=>
   show tc ((asName t).bind _) ((asName t).bind _);cases asName t with
   |none=>exact .none
   |some x=>
    show tc ((bL sc x (.val d) V).bind _) ((bL sc x (.val d) V').bind _);have hb:=dq (sc:=sc) h x (.val d);generalize bL sc x (.val d) V=a at hb ⊢;generalize bL sc x (.val d) V'=b at hb ⊢;rcases hb with⟨⟩;case none=>exact .none
    case some h'=>exact ih h'
theorem kC (h:bG V V')(t:Expr)(d:Dat):tc (bp sc t d V) (bp sc t d V'):=by
 unfold bp;cases asName t with
 |some x=>exact dq h x _
 |none=>
  cases Bp t with
  |none=>exact .none
  |some ts=>cases qT d with|none=>exact .none|some ds=>exact wc ts h
theorem vG (h:bG V V'):oh V=oh V':=by funext t;unfold oh;cases asName t with|none=>rfl|some x=>exact congrArg Option.isNone (h x)
theorem mR (h:bG V V')(t:Expr):freshT V t=freshT V' t:=by unfold freshT;rw[vG h]
theorem l7 (h:bG V V')(bD:Scope):bG (bw bD V) (bw bD V'):=by
 have key:∀(W:az)(x:Str),(bw bD W).lookup x=if bD.names.lookup x==some .free then W.lookup x else none:=by
  intro W x;induction W with
  |nil=>simp[bw]
  |cons p W ih=>
   obtain⟨y,sl⟩:=p;unfold bw at ih ⊢;rw[List.filter_cons];by_cases hy:x=y
   ·subst hy;cases hf:(bD.names.lookup x==some .free)with|true=>simp only[hf,if_true];rw[au,au]|false=>simp only[hf,ZG,if_false];rw[ih,hf];rfl
   ·rw[ae hy];split
    ·rw[ae hy];exact ih
    ·exact ih
 intro x;rw[key,key,h x]
theorem xo (h:bG V V')(x:Str):ownAt V x=ownAt V' x:=by unfold ownAt;rw[h x]
theorem dM (h:bG V V'){w w':Option Dat}(hw:w=w')(e:Expr):orOwn e V w=orOwn e V' w':=by unfold orOwn;rw[hw,show ownAt V=ownAt V' from funext (xo h)]
def PE (Φ:gq)(e:Expr):Prop:=∀(sc:Scope)(V V':az),bG V V'->ev Φ sc e V=ev Φ sc e V'
def PT (Φ:gq)(e:Expr):Prop:=∀(sc:Scope)(V V':az)(w:Option Dat),bG V V'->dO Φ sc e V w=dO Φ sc e V' w
theorem bc {α β:Type}{x x':Option α}{f g:α->Option β}(h:x=x')(h2:∀a,f a=g a):x.bind f=x'.bind g:=by subst h;exact congrArg x.bind (funext h2)
theorem mc {α β:Type}{x x':Option α}{f:α->β}(h:x=x'):x.map f=x'.map f:=congrArg (Option.map f) h
theorem pc {α:Type}{x x' y y':Option α}(h:x=x')(h2:y=y'):bX b x y=bX b x' y':=by subst h;subst h2;rfl
set_option tactic.hygienic true in
theorem tc.bd {β:Type}{x y:Option az}(h:tc x y){f g:az->Option β}(hf:∀V V',bG V V'->f V=g V'):x.bind f=y.bind g:=by
 rcases h with⟨⟩;case none=>rfl
 case some h=>exact hf _ _ h
theorem iM (h:bG V V'):∀{es:List Expr},(∀e∈es,PE Φ e)->vM Φ sc es V=vM Φ sc es V':=by intro es;induction es with|nil=>intro _;exact rfl|cons e es ih=>intro he;exact bc (he e Z6 sc V V' h) fun d=>mc (ih fun x hx=>he x (Z7 _ hx))
theorem rl (h:bG V V'):∀{es:List Expr},(∀e∈es,PE Φ e)->jq Φ sc es V=jq Φ sc es V':=by intro es;induction es with|nil=>intro _;exact rfl|cons e es ih=>intro he;exact bc (dM h (he e Z6 sc V V' h) e) fun d=>mc (ih fun x hx=>he x (Z7 _ hx))
set_option tactic.hygienic true in
theorem CQ (h:bG V V'){o:Option Expr}(he:∀e,o=some e->PE Φ e):FK Φ sc o V=FK Φ sc o V':=by
 rcases o with⟨⟩;case none=>rfl
 case some e=>exact bc (he e rfl sc V V' h) fun x=>rfl
theorem Ae (h:bG V V')(he:PE Φ e/\PT Φ e):dO Φ sc e V (ev Φ sc e V)=dO Φ sc e V' (ev Φ sc e V'):=(congrArg (dO Φ sc e V) (he.1 sc V V' h)).trans (he.2 sc V V' _ h)
theorem yh (h:bG V V'):∀{es:List Expr},(∀e∈es,PE Φ e/\PT Φ e)->o8 Φ sc es V=o8 Φ sc es V':=by intro es;induction es with|nil=>intro _;exact rfl|cons e es ih=>intro he;exact bc (Ae h (he e Z6)) fun c=>pc (ih fun x hx=>he x (Z7 _ hx)) rfl
set_option tactic.hygienic true in
theorem vP (h:bG V V'):∀{es:List Expr},(∀e∈es,PE Φ e/\∀y p,e=.Starred y p->PE Φ y)->dg Φ sc es V=dg Φ sc es V':=by
 intro es;induction es with
 |nil=>intro _;exact rfl
 |cons e es vz=>
  intro he;have ih:=vz fun x hx=>he x (Z7 _ hx);have h1:=(he e Z6).1 sc V V' h;rcases e with⟨⟩;case Starred y p=>have h2:orOwn y V (ev Φ sc y V)=orOwn y V' (ev Φ sc y V'):=dM h ((he _ Z6).2 y p rfl sc V V' h) y;exact bc (bc h2 fun z=>rfl) fun xs=>mc ih
  all_goals (exact bc (mc (f:=one) h1) fun xs=>mc ih)
theorem yi (h:bG V V')(op:BoolOp):∀{es:List Expr},(∀e∈es,PE Φ e/\PT Φ e)->f9 Φ sc op es V=f9 Φ sc op es V':=by intro es;induction es with|nil=>intro _;exact rfl|cons e es ih=>intro he;exact bc (Ae h (he e Z6)) fun c=>pc rfl (ih fun x hx=>he x (Z7 _ hx))
theorem mU (h:bG V V')(op:BoolOp):∀{es:List Expr},(∀e∈es,PE Φ e)->rn Φ sc op es V=rn Φ sc op es V'|[],_=>rfl|[e],he=>he e Z6 sc V V' h|e::e'::es,he=>bc (he e Z6 sc V V' h) fun d=>bc rfl fun c=>pc rfl (mU h op fun x hx=>he x (Z7 _ hx))
theorem ku (h:bG V V'):∀{ops:List CmpOp}{es:List Expr}{a:Dat},(∀e∈es,PE Φ e)->lA Φ sc a ops es V=lA Φ sc a ops es V'|[op],[e],a,he=>bc (dM h (he e Z6 sc V V' h) e) fun y=>rfl|[],[],a,_=>rfl|[],_::_,a,_=>rfl|[_],[],a,_=>rfl|_::_::_,[],a,_=>rfl|_::_::_,[_],a,_=>rfl|[_],_::_::_,a,_=>rfl|op::Yw::ops,e::e'::es,a,he=>bc (he e Z6 sc V V' h) fun b=>bc rfl fun c=>pc (ku h fun x hx=>he x (Z7 _ hx)) rfl
theorem lJ {k k':az->Option (List Dat)}(h:bG V V')(hi:∀x∈ifs,PE Φ x/\PT Φ x)(hk:∀V V',bG V V'->k V=k' V'):ei Φ sc t ifs V k=ei Φ sc t ifs V' k':=funext fun d=>(kC (sc:=sc) h t d).bd fun W W' hW=>bc (yh hW hi) fun c=>pc (hk W W' hW) rfl
theorem ic {c c':Prop}{_:Decidable c}{_:Decidable c'}{α:Type}{x x':Option α}(hc:c=c')(h:x=x'):(if c then x else none)=if c' then x' else none:=by subst hc;subst h;congr
theorem vQ:∀{gens:List Comprehension}{V V':az}{k k':az->Option (List Dat)},bG V V'->(∀g∈gens,PE Φ g.iter/\∀x∈g.ifs,PE Φ x/\PT Φ x)->(∀V V',bG V V'->k V=k' V')->gK Φ sc gens V k=gK Φ sc gens V' k':=by
 intro gens;induction gens with
 |nil=>intro V V' k k' h _ hk;exact hk V V' h
 |cons y0 rest ih=>intro V V' k k' h hg hk;obtain⟨t,it,ifs,a⟩:=y0;exact ic (x:=(orOwn it V (ev Φ sc it V)).bind fun src=>(bb src).bind fun items=>cG (ei Φ sc t ifs V fun vs=>gK Φ sc rest vs k) items) (x':=(orOwn it V' (ev Φ sc it V')).bind fun src=>(bb src).bind fun items=>cG (ei Φ sc t ifs V' fun vs=>gK Φ sc rest vs k') items) (congrArg (fun b=>a=0/\b=true) (mR h t)) (bc (dM h ((hg _ Z6).1 sc V V' h) it) fun src=>bc rfl fun items=>congrArg (fun f=>cG f items) (lJ h (hg _ Z6).2 fun W W' hW=>ih hW (fun g W6=>hg g (Z7 _ W6)) hk))
theorem zw (h:bG V V')(x:Str)(p:Pos):ev Φ sc (.Name x p) V=ev Φ sc (.Name x p) V':=congrArg (EL Φ sc x) (h x)
theorem Aq (h:bG V V')(h1:dg Φ sc args V=dg Φ sc args V')(h2:jq Φ sc args V=jq Φ sc args V'):ev Φ sc (.Call (.Name f q) args [] p) V=ev Φ sc (.Call (.Name f q) args [] p) V':=by
 refine ic (x:=match Φ.fn f with
     |some g=>(dg Φ sc args V).bind g|none=>(Φ.rO f).bind fun g=>(jq Φ sc args V).bind g)
  (x':=match Φ.fn f with
     |some g=>(dg Φ sc args V').bind g|none=>(Φ.rO f).bind fun g=>(jq Φ sc args V').bind g) (congrArg (fun o=>o=none/\sc.names.lookup f=some .globalImplicit) (h f)) ?_
 rw[h1,h2]
theorem zA {o:Expr}(h1:orOwn o V (ev Φ sc o V)=orOwn o V' (ev Φ sc o V'))(h2:vM Φ sc args V=vM Φ sc args V'):ev Φ sc (.Call (.Attribute o m ap) args [] p) V=ev Φ sc (.Call (.Attribute o m ap) args [] p) V':=ic (c:=kL o=true/\(ap.endLine==p.line)=true/\args.length<30) rfl (bc h1 fun a=>bc h2 fun ds=>rfl)
theorem zC (h:bG V V'){a:Int}(h1:PE Φ it)(h2:∀x∈ifs,PE Φ x/\PT Φ x)(h3:∀g∈rest,PE Φ g.iter/\∀x∈g.ifs,PE Φ x/\PT Φ x)(h4:PE Φ elt):ev Φ sc (.ListComp elt (⟨t,it,ifs,a⟩::rest) bD p) V=ev Φ sc (.ListComp elt (⟨t,it,ifs,a⟩::rest) bD p) V':=ic (x:=(orOwn it V (ev Φ sc it V)).bind fun src=>(bb src).bind fun items=>(cG (ei Φ bD t ifs (bw bD V) fun vs=>gK Φ bD rest vs fun vs=>(ev Φ bD elt vs).map one) items).bind yt) (x':=(orOwn it V' (ev Φ sc it V')).bind fun src=>(bb src).bind fun items=>(cG (ei Φ bD t ifs (bw bD V') fun vs=>gK Φ bD rest vs fun vs=>(ev Φ bD elt vs).map one) items).bind yt) (congrArg (fun b=>a=0/\fv sc bD=true/\b=true) (mR (l7 h bD) t)) (bc (dM h (h1 sc V V' h) it) fun src=>bc rfl fun items=>bc (congrArg (fun f=>cG f items) (lJ (l7 h bD) h2 fun W W' hW=>vQ hW h3 fun X X' hX=>mc (h4 bD X X' hX))) fun y=>rfl)
theorem oj {v i:Expr}{W:az}(hi:∀a b c q,i≠.Slice a b c q):ev Φ sc (.Subscript v i p) W=(orOwn v W (ev Φ sc v W)).bind (N2 none (ev Φ sc i W)):=by rcases i with⟨⟩<;>first|exact absurd rfl (hi _ _ _ _)|rfl
set_option tactic.hygienic true in
theorem MX (k:Nat)(ih:∀x:Expr,sizeOf x<k->PE Φ x/\PT Φ x)(e:Expr)(hk:sizeOf e<k+1):PE Φ e:=by
 intro sc V V' h;have o:∀x:Expr,sizeOf x<sizeOf e->PE Φ x/\PT Φ x:=fun x hx=>ih x (cI hk hx);have l:∀es:List Expr,sizeOf es<sizeOf e->∀x∈es,PE Φ x/\PT Φ x:=fun es he x hx=>ih x (il hk he x hx);have w:∀x:Expr,sizeOf x<sizeOf e->orOwn x V (ev Φ sc x V)=orOwn x V' (ev Φ sc x V'):=fun x hx=>dM h ((o x hx).1 sc V V' h) x;rcases e with⟨⟩;case Name x p=>exact zw h x p
 case BinOp a op b p=>exact bc ((o a (by simp;exact cZ 0x32109bbbb001 rfl)).1 sc V V' h) fun x=>bc ((o b (by simp;exact cZ 0x30219bbbb001 rfl)).1 sc V V' h) fun y=>rfl
 case UnaryOp op x p=>
  rcases op with⟨⟩;case Not=>exact bc (w x (by simp;exact aR 0x1002abb001 rfl)) fun a=>rfl
  all_goals (exact bc ((o x (by simp;exact aR 0x1002abb001 rfl)).1 sc V V' h) fun a=>rfl)
 case BoolOp op vs p=>exact mU h op fun x hx=>(l vs (by simp;exact aX 0x2019bbb001 rfl) x hx).1
 case Compare a ops cs p=>exact bc (w a (by simp;exact cZ 0x32109bbbb001 rfl)) fun a=>bc (ku h fun x hx=>(l cs (by simp;exact cZ 0x30219bbbb001 rfl) x hx).1) fun r=>rfl
 case IfExp t a b p=>exact bc (Ae h (o t (by simp;exact cZ 0x32109bbbb001 rfl))) fun c=>pc ((o a (by simp;exact cZ 0x32019bbbb001 rfl)).1 sc V V' h) ((o b (by simp;exact cZ 0x30219bbbb001 rfl)).1 sc V V' h)
 case List es p=>exact bc (iM h fun x hx=>(l es (by simp;exact aR 0x109bb001 rfl) x hx).1) fun r=>rfl
 case Tuple es kk p=>exact bc (iM h fun x hx=>(l es (by simp;exact aX 0x2109bbb001 rfl) x hx).1) fun r=>rfl
 case Subscript v i p=>
  by_cases hs:∃lo hi st sp,i=.Slice lo hi st sp
  ·refine Kv hs ?_;clear hs;rintro lo hi st sp (rfl);have q:∀u:Option Expr,(∀x,u=some x->sizeOf x<sizeOf (Expr.Subscript v (.Slice lo hi st sp) p))->FK Φ sc u V=FK Φ sc u V':=fun u hu=>CQ h fun x hx=>(o x (hu x hx)).1;have q1:=q lo fun x e=>by subst e;simp;exact AG 0x543209b9bbbb19bbb001 rfl
   have q2:=q hi fun x e=>by subst e;simp;exact AG 0x54309b29bbbb19bbb001 rfl
   have q3:=q st fun x e=>by subst e;simp;exact AG 0x5409b329bbbb19bbb001 rfl
   exact bc (w v (by simp;exact AG 0x543219bbbb09bbb001 rfl)) fun a=>bc q1 fun r=>bc q2 fun r=>bc q3 fun r=>rfl
  ·have xZ:∀a b c q,i≠.Slice a b c q:=fun a b c q e=>hs ⟨a,b,c,q,e⟩;rw[oj xZ,oj xZ];exact bc (w v (by simp;exact aX 0x2109bbb001 rfl)) fun a=>bc ((o i (by simp;exact aX 0x2019bbb001 rfl)).1 sc V V' h) fun r=>rfl
 case Call f args A4 p=>
  rcases A4 with⟨⟩;case cons=>rcases f with⟨⟩<;>rfl
  case nil=>
   have hl:=l args (by simp;exact aX 0x29019bbbb001 rfl);rcases f with⟨⟩;case Name x xp=>exact Aq h (vP h fun y hy=>⟨(hl y hy).1,fun z q e=>(ih z (by have:=il hk (es:=args) (by simp;exact cZ 0x390219bb9bbbb001 rfl) y hy;subst e;exact Nat.lt_trans AN this)).1⟩) (rl h fun y hy=>(hl y hy).1)
   case Attribute b m ap=>exact zA (w b (by simp;exact r8 0x4932109bbb9bbbb001 rfl)) (iM h fun y hy=>(hl y hy).1)
   all_goals (rfl)
 case ListComp elt gens bD p=>
  rcases gens with⟨⟩;case nil=>rfl
  case cons g rest=>
   obtain⟨t,it,ifs,a⟩:=g;refine zC h (o it (by simp;exact Ni 0x76543029bbbb9bb19bbbb001 rfl)).1 (l ifs (by simp;exact Ni 0x76540329bbbb9bb19bbbb001 rfl)) (fun g hg=>?_) (o elt (by simp;exact Ni 0x76543219bbbb9bb09bbbb001 rfl)).1;have h1:=List.sizeOf_lt_of_mem hg;obtain⟨b1,b2,b3,b4⟩:=g;simp only[Comprehension.mk.sizeOf_spec]at h1;have h2:sizeOf rest<sizeOf (Expr.ListComp elt (⟨t,it,ifs,a⟩::rest) bD p):=by simp;exact Ni 0x76054329bbbb9bb19bbbb001 rfl
   exact⟨(o b2 (AG 0x510540432109bbbb03 rfl h1 h2)).1,l b3 (AG 0x520540432109bbbb03 rfl h1 h2)⟩
 all_goals (rfl)
set_option tactic.hygienic true in
theorem MW (k:Nat)(ih:∀x:Expr,sizeOf x<k->PE Φ x/\PT Φ x)(e:Expr)(hk:sizeOf e<k+1):PT Φ e:=by
 intro sc V V' w h;have o:∀x:Expr,sizeOf x<sizeOf e->PE Φ x/\PT Φ x:=fun x hx=>ih x (cI hk hx);have l:∀es:List Expr,sizeOf es<sizeOf e->∀x∈es,PE Φ x/\PT Φ x:=fun es he x hx=>ih x (il hk he x hx);rcases e with⟨⟩;case UnaryOp op x p=>
  rcases op with⟨⟩;case Not=>exact mc (Ae h (o x (by simp;exact aR 0x1002abb001 rfl)))
  all_goals (rfl)
 case BoolOp op vs p=>exact yi h op (l vs (by simp;exact aX 0x2019bbb001 rfl))
 case Compare a ops cs p=>exact bc (dM h ((o a (by simp;exact cZ 0x32109bbbb001 rfl)).1 sc V V' h) a) fun y=>ku h fun x hx=>(l cs (by simp;exact cZ 0x30219bbbb001 rfl) x hx).1
 case IfExp t a b p=>exact bc (Ae h (o t (by simp;exact cZ 0x32109bbbb001 rfl))) fun c=>pc (Ae h (o a (by simp;exact cZ 0x32019bbbb001 rfl))) (Ae h (o b (by simp;exact cZ 0x30219bbbb001 rfl)))
 all_goals (rfl)
theorem lZ:∀(k:Nat)(e:Expr),sizeOf e<k->PE Φ e/\PT Φ e:=by intro k;induction k with|zero=>intro e h;exact absurd h (Nat.not_lt_zero _)|succ k ih=>intro e h;exact⟨MX k (ih) e h,MW k (ih) e h⟩
section
variable {Ψ:nz}
theorem dz (h:bG V V')(e:Expr):ev Φ sc e V=ev Φ sc e V':=(lZ _ e (Nat.lt_succ_self _)).1 sc V V' h
theorem oo (h:bG V V')(e:Expr):dO Φ sc e V (ev Φ sc e V)=dO Φ sc e V' (ev Φ sc e V'):=by rw[dz h e];exact(lZ _ e (Nat.lt_succ_self _)).2 sc V V' _ h
inductive fB:Option Fl->Option Fl->Prop
 |none:fB none none
 |next {V V':az}:bG V V'->fB (some (.next V)) (some (.next V'))
 |brk {V V':az}:bG V V'->fB (some (.brk V)) (some (.brk V'))
 |cont {V V':az}:bG V V'->fB (some (.cont V)) (some (.cont V'))
 |ret (d:Dat):fB (some (.ret d)) (some (.ret d))
def iV (Ψ:nz):Prop:=∀sc st V V',bG V V'->fB (Ψ sc st V) (Ψ sc st V')
theorem bG.iD (h:bG V V'):bG (aO V) (aO V'):=fun x=>by
 have key:∀(W:az),(aO W).lookup x=(W.lookup x).map Slot.iD:=by
  intro W;induction W with
  |nil=>rfl
  |cons p W ih=>obtain⟨y,t⟩:=p;have e:aO ((y,t)::W)=(y,t.iD)::aO W:=rfl;rw[e,ZS,ZS];cases x==y with|true=>rfl|false=>exact ih
 rw[key,key,h x]
set_option tactic.hygienic true in
theorem tc.fl {a b:Option az}(h:tc a b):fB (a.map .next) (b.map .next):=by
 rcases h with⟨⟩;case none=>exact .none
 case some h=>exact .next h
inductive Ko {α:Type}:Option (α×az)->Option (α×az)->Prop
 |none:Ko none none
 |some {d:α} {V V':az}:bG V V'->Ko (some (d,V)) (some (d,V'))
theorem kR (h:bG V V')(e:Expr):Ko (oq Φ sc e V) (oq Φ sc e V'):=by
 unfold oq;rw[dz h e,dz h.iD e];cases ev Φ sc e V' with
 |some d=>exact .some h
 |none=>cases ev Φ sc e (aO V')with|none=>exact .none|some d=>exact .some h.iD
theorem Ad (h:bG V V')(e:Expr):Ko (sO Φ sc e V) (sO Φ sc e V'):=by
 unfold sO;rw[oo h e,oo h.iD e];cases dO Φ sc e V' (ev Φ sc e V')with
 |some d=>exact .some h
 |none=>cases dO Φ sc e (aO V') (ev Φ sc e (aO V'))with|none=>exact .none|some d=>exact .some h.iD
set_option tactic.hygienic true in
theorem Ko.bf {α:Type}{x y:Option (α×az)}(h:Ko x y){f g:α×az->Option Fl}(hf:∀d V V',bG V V'->fB (f (d,V)) (g (d,V'))):fB (x.bind f) (y.bind g):=by
 rcases h with⟨⟩;case none=>exact .none
 case some h=>exact hf _ _ _ h
set_option tactic.hygienic true in
theorem Ko.bo {α:Type}{x y:Option (α×az)}(h:Ko x y){f:α×az->Option az}(hf:∀d V V',bG V V'->tc (f (d,V)) (f (d,V'))):tc (x.bind f) (y.bind f):=by
 rcases h with⟨⟩;case none=>exact .none
 case some h=>exact hf _ _ _ h
set_option tactic.hygienic true in
theorem ob {α:Type}{x x':Option α}{f g:α->Option az}(hx:x=x')(h:∀a,tc (f a) (g a)):tc (x.bind f) (x'.bind g):=by
 subst hx;rcases x with⟨⟩;case none=>exact .none
 case some a=>exact h a
set_option tactic.hygienic true in
theorem fb {α:Type}{x x':Option α}{f g:α->Option Fl}(hx:x=x')(h:∀a,fB (f a) (g a)):fB (x.bind f) (x'.bind g):=by
 subst hx;rcases x with⟨⟩;case none=>exact .none
 case some a=>exact h a
theorem op {x x' y y':Option az}(h:tc x x')(h2:tc y y'):tc (bX b x y) (bX b x' y'):=by rcases b with⟨⟩;exact h2;exact h
theorem fp {x x' y y':Option Fl}(h:fB x x')(h2:fB y y'):fB (bX b x y) (bX b x' y'):=by rcases b with⟨⟩;exact h2;exact h
theorem fi {c:Prop}{_:Decidable c}{x x':Option Fl}(h:fB x x'):fB (if c then x else none) (if c then x' else none):=by
 split
 ·exact h
 ·exact .none
set_option tactic.hygienic true in
theorem fB.th {k k':az->Option Fl}(hk:∀V V',bG V V'->fB (k V) (k' V')){a b:Option Fl}(h:fB a b):fB (a.bind (jc k)) (b.bind (jc k')):=by
 rcases h with⟨⟩;case none=>exact .none
 case next h=>exact hk _ _ h
 case cont h=>exact hk _ _ h
 case brk h=>exact .next h
 case ret d=>exact .ret d
set_option tactic.hygienic true in
theorem fB.af {k k':az->Option Fl}(hk:∀V V',bG V V'->fB (k V) (k' V')){a b:Option Fl}(h:fB a b):fB (a.bind (kW k)) (b.bind (kW k')):=by
 rcases h with⟨⟩;case none=>exact .none
 case next h=>exact hk _ _ h
 case cont h=>exact .cont h
 case brk h=>exact .brk h
 case ret d=>exact .ret d
theorem Um (e:Expr):PE Φ e:=(lZ _ e (Nat.lt_succ_self _)).1
theorem zf (h:bG V V')(x:Str)(value:Expr):tc ((oq Φ sc value V).bind (BR sc x)) ((oq Φ sc value V').bind (BR sc x)):=(kR h value).bo fun d W W' hW=>dq hW x _
theorem xS (h:bG V V')(f:Str):isNew Φ sc V f=isNew Φ sc V' f:=by unfold isNew;rw[h f]
theorem sZ (h:bG V V')(x:Str)(value:Expr):tc (ig Φ sc x value V) (ig Φ sc x value V'):=by
 unfold ig;cases wg value with
 |some es=>
  refine ob (iM h fun e y=>Um e) fun ds=>?_;split
  ·exact dq h x _
  ·exact .none
 |none=>show tc (bX _ _ _) (bX _ _ _);rw[show isNew Φ sc V=isNew Φ sc V' from funext (xS h)];exact op (ob rfl fun z=>ob (rl h fun e y=>Um e) fun ds=>ob rfl fun d=>dq h x _) (zf h x _)
theorem o6 (hs:∀d V V',bG V V'->fB (f d V) (g d V')):∀(ds:List Dat){V V':az},bG V V'->fB (cQ f ds V) (cQ g ds V'):=by intro ds;induction ds with|nil=>intro V V' h;exact .next h|cons d ds ih=>intro V V' h;exact .th (fun W W' hW=>ih hW) (hs d V V' h)
theorem yT {t u:az->Option Bool}{f g:az->Option Fl}(ht:∀V V',bG V V'->t V=u V')(hs:∀V V',bG V V'->fB (f V) (g V')):∀(k:Nat){V V':az},bG V V'->fB (sj t f k V) (sj u g k V'):=by intro k;induction k with|zero=>intro V V' h;exact .none|succ k ih=>intro V V' h;exact fb (ht V V' h) fun c=>fp (.th (fun W W' hW=>ih hW) (hs V V' h)) (.next h)
theorem wy (h:bG V V')(it:Expr):la Φ sc it V=la Φ sc it V':=by unfold la;cases v9 it with|none=>rfl|some z=>simp only[ZV,h z.1]
set_option tactic.hygienic true in
theorem u9 {a a' b b':Option Fl}(h:fB a a')(h':fB b b'):fB (j9 a b) (j9 a' b'):=by
 rcases h with⟨⟩;case none=>exact h'
 case next h=>exact .next h
 case brk h=>exact .brk h
 case cont h=>exact .cont h
 case ret d=>exact .ret d
theorem FI (GU:iV Ψ):∀{sts:List Stmt},(∀st∈sts,∀(sc:Scope)(V V':az),bG V V'->fB (ex Φ Ψ sc st V) (ex Φ Ψ sc st V'))->∀{sc:Scope}{V V':az},bG V V'->fB (bT Φ Ψ sc sts V) (bT Φ Ψ sc sts V'):=by intro sts;induction sts with|nil=>intro _ sc V V' h;exact .next h|cons st sts ih=>intro hs sc V V' h;exact .af (fun W W' hW=>ih (fun s hm=>hs s (Z7 _ hm)) hW) (u9 (GU sc st V V' h) (hs st Z6 sc V V' h))
theorem tK (h:bG V V')(x:Str):ownOf V x=ownOf V' x:=by unfold ownOf;rw[h x]
set_option tactic.hygienic true in
theorem mf {α:Type}{x:Option α}{f g:α->Fl}(h:∀a,fB (some (f a)) (some (g a))):fB (x.map f) (x.map g):=by
 rcases x with⟨⟩;case none=>exact .none
 case some a=>exact h a
set_option tactic.hygienic true in
theorem IG (GU:iV Ψ):∀(k:Nat)(st:Stmt),sizeOf st<k->∀(sc:Scope)(V V':az),bG V V'->fB (ex Φ Ψ sc st V) (ex Φ Ψ sc st V'):=by
 intro k;induction k with
 |zero=>intro st h;exact absurd h (Nat.not_lt_zero _)
 |succ k ih=>
  intro st hk sc V V' h;have body:∀{sts:List Stmt},sizeOf sts<k->∀{V V':az},bG V V'->fB (bT Φ Ψ sc sts V) (bT Φ Ψ sc sts V'):=fun{sts}hs{V V'}h=>FI GU (fun s hm=>ih s (Nat.lt_trans (List.sizeOf_lt_of_mem hm) hs)) h;have turn:∀{t:Expr}{b:List Stmt},sizeOf b<k->∀d V V',bG V V'->fB (match bp sc t d V with|none=>none|some vs=>bT Φ Ψ sc b vs) (match bp sc t d V' with|none=>none|some vs=>bT Φ Ψ sc b vs):=fun{t b}hb d V V' h=>by
   have h1:=kC (sc:=sc) h t d;generalize bp sc t d V=x at h1 ⊢;generalize bp sc t d V'=y at h1 ⊢;rcases h1 with⟨⟩;case none=>exact .none
   case some h'=>exact body hb h'
  have key:SV st\/(ex Φ Ψ sc st V=none/\ex Φ Ψ sc st V'=none):=by
   cases e:ex Φ Ψ sc st V with
   |some fl=>exact .inl (Ab e)
   |none=>cases e':ex Φ Ψ sc st V' with
    |some fl=>exact .inl (Ab e')|none=>exact .inr ⟨rfl,rfl⟩
  refine Z4 key (fun hv=>?_) fun y0=>?_
  ·rcases hv with⟨t,value,pos,rfl⟩|⟨value,pos,rfl⟩|⟨t,b,o,pos,rfl⟩|⟨t,it,b,pos,rfl⟩|⟨t,b,pos,rfl⟩|⟨e,pos,rfl⟩|⟨pos,rfl⟩
   ·show fB (t7 Φ sc t value V) (t7 Φ sc t value V');unfold t7;cases Q7 t with|no=>exact fB.none|name x=>exact(sZ h x value).fl|tup=>exact fp .none ((kR h value).bf fun d W W' hW=>(kC hW _ _).fl)|item x i=>exact fp .none (fb (tK h x) fun a=>fb (dz h value) fun d=>fb (dz h i) fun j=>mf fun a'=>.next (h.cons x _))
   ·show fB (vL Φ sc value V) (vL Φ sc value V');unfold vL;cases Bm value with|none=>exact fB.none|some z=>exact fi (fb (tK h z.1) fun a=>fb (iM h fun e u=>Um e) fun ds=>mf fun a'=>.next (h.cons z.1 _))
   ·have hb:sizeOf b<k/\sizeOf o<k:=by simp at hk;exact r8 0x420410494b32109bbbb02 rfl hk
    exact(Ad h t).bf fun d W W' hW=>fp (body hb.1 hW) (body hb.2 hW)
   ·have hb:sizeOf b<k:=by simp at hk;exact AG 0x52095b432109bbbbb02 rfl hk
    have hz:=wy (Φ:=Φ) (sc:=sc) h it;show fB (sN Φ sc t it (fun vs=>bT Φ Ψ sc b vs) V) (sN Φ sc t it (fun vs=>bT Φ Ψ sc b vs) V');unfold sN;rw[hz];cases la Φ sc it V' with|some z=>exact fp (fb (dz h z.1) fun x=>fb (dz h z.2) fun y=>fb rfl fun zs=>o6 (turn hb) zs h) .none|none=>exact(kR h it).bf fun d W W' hW=>fb rfl fun items=>o6 (turn hb) items hW
   ·have hb:sizeOf b<k:=by simp at hk;exact r8 0x41094b32109bbbb02 rfl hk
    exact yT (fun V V' h=>oo h t) (fun V V' h=>body hb h) _ h
   ·have:=(kR (Φ:=Φ) (sc:=sc) h e).bf (f:=fun r=>some (.ret r.1)) (g:=fun r=>some (.ret r.1)) fun d W W' hW=>.ret d;show fB ((oq Φ sc e V).map fun r=>Fl.ret r.1) ((oq Φ sc e V').map fun r=>Fl.ret r.1);rw[Option.map_eq_bind];rw[Option.map_eq_bind];exact this
   ·exact .brk h
  ·refine aL y0 fun e1 e2=>?_;rw[e1,e2];exact fB.none
theorem tZ (GU:iV Ψ)(h:bG V V')(sts:List Stmt):fB (bT Φ Ψ sc sts V) (bT Φ Ψ sc sts V'):=FI GU (fun st x=>IG GU _ st (Nat.lt_succ_self _)) h
theorem iV.none:iV (fun x x x=>none):=fun x x x x x=>.none
set_option tactic.hygienic true in
theorem kq (GU:iV Ψ)(h:bG V V'){W:az}(e:bT Φ Ψ sc sts V'=some (.next W)):∃W',bT Φ Ψ sc sts V=some (.next W')/\bG W' W:=by have h1:=tZ (Φ:=Φ) (sc:=sc) GU h sts;rw[e]at h1;generalize bT Φ Ψ sc sts V=x at h1 ⊢;rcases h1 with⟨⟩;case next h'=>exact⟨_,rfl,h'⟩
theorem hH (GU:iV Ψ)(h:bG V V')(e:bT Φ Ψ sc sts V'=some (.ret d)):bT Φ Ψ sc sts V=some (.ret d):=by have h1:=tZ (Φ:=Φ) (sc:=sc) GU h sts;rw[e]at h1;generalize bT Φ Ψ sc sts V=x at h1 ⊢;rcases h1 with⟨⟩;rfl
end
section
variable {A B:az} {y:Str} {s t:Slot}
theorem bG.store:∀{A:az},(∀p∈A,p.1≠x)->bG ((x,s)::(A++(x,t)::B)) (A++(x,s)::B)
 |[],_=>fun y=>by
  by_cases h:y=x
  ·subst h;rw[au];exact au.symm
  ·rw[ae h];show List.lookup y ((x,t)::B)=List.lookup y ((x,s)::B);rw[ae h,ae h]
 |(z,u)::A,hA=>fun y=>by
  have hz:z≠x:=hA _ Z6;have ih:=bG.store (A:=A) fun p hp=>hA p (Z7 _ hp);by_cases h:y=x
  ·subst h;have h1:=ih y;rw[au]at h1 ⊢;show _=List.lookup y ((z,u)::(A++(y,s)::B));rw[ae (Ne.symm hz)];exact h1
  ·rw[ae h];have h1:=ih y;rw[ae h]at h1;show List.lookup y ((z,u)::(A++(x,t)::B))=List.lookup y ((z,u)::(A++(x,s)::B));rw[ZS,ZS,h1]
theorem bG.shadow:bG ((x,s)::(x,t)::B) ((x,s)::B):=bG.store (A:=[]) nofun
theorem bG.dead (hA:∀p∈A,p.1≠x):bG ((x,s)::(A++(x,t)::B)) ((x,s)::(A++B)):=fun y=>by
 by_cases h:y=x
 ·subst h;rw[au,au]
 ·rw[ae h,ae h];induction A with
  |nil=>show List.lookup y ((x,t)::B)=List.lookup y B;rw[ae h]
  |cons p A ih=>obtain⟨z,u⟩:=p;show List.lookup y ((z,u)::(A++(x,t)::B))=List.lookup y ((z,u)::(A++B));rw[ZS,ZS,ih fun p hp=>hA p (Z7 _ hp)]
theorem bG.swap (h:x≠y):bG ((x,s)::(y,t)::B) ((y,t)::(x,s)::B):=fun z=>by
 by_cases h1:z=x
 ·subst h1;rw[au,ae h,au]
 ·by_cases h2:z=y
  ·subst h2;rw[ae h1,au,au]
  ·rw[ae h1,ae h2,ae h2,ae h1]
noncomputable def swapAt (b:List UInt8)(w k:Nat):UInt8:=b.getD (k/w*w+(w-1-k%w)) 0
def fL (b:List UInt8)(w:Nat):List UInt8:=(List.range b.length).map (swapAt b w)
theorem BM {w q j:Nat}(hj:j<w):swapAt b w (q*w+(w-1-j))=b.getD (q*w+j) 0:=by
 unfold swapAt;have hw:0<w:=aR 0x1801002 rfl hj;have h1:(q*w+(w-1-j))/w=q:=by rw[Nat.mul_comm q w,Nat.mul_add_div hw,Nat.div_eq_of_lt (by exact aR 0x190cc00802 rfl hw)];exact bC 0x80b21 rfl
 have h2:(q*w+(w-1-j))%w=w-1-j:=by rw[Nat.mul_comm q w,Nat.mul_add_mod,Nat.mod_eq_of_lt (by exact aR 0x190cc00802 rfl hw)]
 rw[h1,h2];congr 2;exact aR 0x91cc91cc21002 rfl hj
def gh (b:List UInt8)(w:Nat)(D:Nat->Prop)(r:List UInt8):Prop:=r.length=b.length/\∀k,k<b.length->D k->r[k]?=some (swapAt b w k)
theorem gh.set {w:Nat}{D:Nat->Prop}(h:gh b w D r){p:Nat}(hp:p<b.length):gh b w (fun k=>D k\/k=p) (r.set p (swapAt b w p)):=by
 refine⟨by rw[List.length_set];exact h.1,fun k hk hd=>?_⟩;by_cases Fm:p=k
 ·subst Fm;rw[List.getElem?_set_self (by rw[h.1];exact hp)]
 ·rw[List.getElem?_set_ne Fm];exact h.2 k hk (hd.resolve_right fun q=>Fm q.symm)
theorem gh.mono {w:Nat}{D D':Nat->Prop}(h:gh b w D r)(hd:∀k,k<b.length->D' k->D k):gh b w D' r:=⟨h.1,fun k hk q=>h.2 k hk (hd k hk q)⟩
theorem gh.all {w:Nat}{D:Nat->Prop}(h:gh b w D r)(hd:∀k,k<b.length->D k):r=fL b w:=by
 unfold fL;apply List.ext_getElem?;intro k;by_cases hk:k<b.length
 ·rw[h.2 k hk (hd k hk)];simp[hk]
 ·rw[List.getElem?_eq_none (by rw[h.1];exact aR 0x1110032 rfl hk),List.getElem?_eq_none (by simp;exact aR 0x1110032 rfl hk)]
end
section
variable {pat:Addr} {fuel:Nat}
def dC:List Stmt:=gM pw 7
def bZ:Scope:=eG pw 7
def lM:List Stmt:=bK (ak dC 1)
def yC:List Stmt:=bK (ak lM 0)
noncomputable def fK:nz:=fun x x x=>none
noncomputable def dD (r b:List UInt8)(w:Int):az:=[(("swapped_data":Str),.own (.ba r)),(("data":Str),.val (.bytes b)),(("width":Str),.val (.int w))]
theorem QR {w i j:Int}:ex (b0 pat fuel) fK bZ (ak yC 0) ((("j":Str),.val (.int j))::(("i":Str),.val (.int i))::dD r b w)=((ez (.bytes b) (.int (i+j))).bind fun d=>(nH (.ba r) (.int (i+w-1-j)) d).map fun a'=>.next ((("swapped_data":Str),.own a')::(("j":Str),.val (.int j))::(("i":Str),.val (.int i))::dD r b w)):=by rfl
theorem QQ:yC=[ak yC 0]:=by rfl
theorem M0:lM=[.For (aU (ak lM 0)) (bj (ak lM 0)) yC [] (cK (ak lM 0))]:=by rfl
theorem Jf:dC=[ak dC 0,.For (aU (ak dC 1)) (bj (ak dC 1)) lM [] (cK (ak dC 1)),.Return (some (eH (ak dC 2))) (ir (ak dC 2))]:=by rfl
theorem zO (hk:k<b.length)(hl:b.length<=aM):ez (.bytes b) (.int (k:Int))=some (.int ((b.getD k 0).toNat:Int)):=by
 have hs:aG (k:Int)=true:=by unfold aG aM at *;simp only[ZR,decide_eq_true_eq];lia
 show(if aG (k:Int)=true then(dN (k:Int) b.length).bind fun k=>(b[k]?).map fun c=>Dat.int c.toNat else none)=_;rw[Z1 hs];unfold dN;rw[Z1 (by exact bC 0xaf881 rfl),Z1 (by exact aR 0x1af0af71002 rfl hk)];simp[hk]
theorem y7 (hk:k<r.length)(hl:r.length<=aM):nH (.ba r) (.int (k:Int)) (.int (c.toNat:Int))=some (.ba (r.set k c)):=by have hc:c.toNat<256:=c.toNat_lt;show(if 0<=(k:Int)/\(k:Int)<(r.length:Int)/\r.length<=aM/\0<=(c.toNat:Int)/\(c.toNat:Int)<256 then some (Dat.ba (r.set (k:Int).toNat ((c.toNat:Int).toNat.toUInt8)))else none)=_;rw[Z1 ⟨by exact bC 0xaf881 rfl,by exact aR 0x1af0af71002 rfl hk,hl,by exact bC 0xaf881 rfl,by exact bC 0x1008f0af7000001008f002 rfl hc⟩];simp
def Q0 (J:az):Prop:=J=[]\/∃d,J=[(("j":Str),.val d)]
theorem Jd {w q j:Nat}{D:Nat->Prop}(hl:b.length<=aM)(hj:j<w)(hq:q*w+w<=b.length)(hr:gh b w D r)(hJ:Q0 J)(hV:bG V (J++(("i":Str),.val (.int ((q*w:Nat):Int)))::dD r b w)):∃V' r',bT (b0 pat fuel) fK bZ yC ((("j":Str),.val (.int (j:Int)))::V)=some (.next V')/\gh b w (fun k=>D k\/k=q*w+(w-1-j)) r'/\bG V' ([(("j":Str),.val (.int (j:Int)))]++(("i":Str),.val (.int ((q*w:Nat):Int)))::dD r' b w):=by
 have hp:q*w+(w-1-j)<b.length:=cZ 0x3091cc2b0312b11003 rfl hj hq;have h1:bG ((("j":Str),.val (.int (j:Int)))::V) ((("j":Str),.val (.int (j:Int)))::(("i":Str),.val (.int ((q*w:Nat):Int)))::dD r b w):=by
  refine(hV.cons _ _).trans ?_;refine Z4 hJ (fun y0=>?_) fun y1=>?_
  ·obtain rfl:=y0;exact .refl _
  ·refine aJ y1 ?_;clear y1;rintro d (rfl);exact bG.shadow
 have he:bT (b0 pat fuel) fK bZ yC ((("j":Str),.val (.int (j:Int)))::(("i":Str),.val (.int ((q*w:Nat):Int)))::dD r b w)=some (.next ((("swapped_data":Str),.own (.ba (r.set (q*w+(w-1-j)) (swapAt b w (q*w+(w-1-j))))))::(("j":Str),.val (.int (j:Int)))::(("i":Str),.val (.int ((q*w:Nat):Int)))::dD r b w)):=by
  have h2:ex (b0 pat fuel) fK bZ (ak yC 0) ((("j":Str),.val (.int (j:Int)))::(("i":Str),.val (.int ((q*w:Nat):Int)))::dD r b w)=_:=QR
  have e1:((q*w:Nat):Int)+(j:Int)=((q*w+j:Nat):Int):=aR 0x10baf1af0afb91 rfl
  have e2:((q*w:Nat):Int)+(w:Int)-1-(j:Int)=((q*w+(w-1-j):Nat):Int):=aX 0x91cc2baf0af91af2afbcc91002 rfl hj
  rw[e1,e2,zO (by exact cZ 0x302b0312b11003 rfl hj hq) hl,ZV,<-BM (b:=b) hj,y7 (by rw[hr.1];exact hp) (by rw[hr.1];exact hl),Option.map_some]at h2
  rw[QQ,av (aC rfl h2)];rfl
 refine ax (kq (V:=(("j":Str),.val (.int (j:Int)))::V) iV.none h1 he) fun V' h3 h4=>?_;refine⟨V',_,h3,hr.set hp,h4.trans ?_⟩;exact bG.store (A:=[(("j":Str),.val (.int (j:Int))),(("i":Str),.val (.int ((q*w:Nat):Int)))]) (fun p hp=>by
  have n1:("j":Str)≠("swapped_data":Str):=by decide
  have n2:("i":Str)≠("swapped_data":Str):=by decide
  simp only[List.mem_cons,List.mem_nil_iff,or_false]at hp;refine Z4 hp (fun y0=>?_) fun y1=>?_
  ·obtain rfl:=y0;exact n1
  ·obtain rfl:=y1;exact n2)
theorem Je {w q:Nat}(hl:b.length<=aM)(hq:q*w+w<=b.length):∀(m j:Nat)(V J:az)(r:List UInt8)(D:Nat->Prop),j+m=w->Q0 J->bG V (J++(("i":Str),.val (.int ((q*w:Nat):Int)))::dD r b w)->gh b w D r->∃V' J' r',cQ (fun d vs=>match bp bZ (aU (ak lM 0)) d vs with
      |none=>none|some vs=>bT (b0 pat fuel) fK bZ yC vs) ((List.range' j m).map fun k:Nat=>Dat.int (k:Int)) V=some (.next V')/\Q0 J'/\
   bG V' (J'++(("i":Str),.val (.int ((q*w:Nat):Int)))::dD r' b w)/\gh b w (fun k=>D k\/(q*w<=k/\k<q*w+(w-j))) r':=by
 intro m
 induction m with
 |zero=>intro j V J r D hj hJ hV hr;exact⟨V,J,r,rfl,hJ,hV,hr.mono fun k x h=>h.elim id fun h=>(cZ 0x601c2b303214180b23 rfl hj h).elim⟩
 |succ m ih=>
  intro j V J r D hj hJ hV hr;refine eB (Jd (pat:=pat) (fuel:=fuel) hl (j:=j) (aX 0x200291b0b22 rfl hj) hq hr hJ hV) fun V1 r1 h1 CB TL=>?_;refine jz (ih (j+1) V1 _ r1 _ (aX 0x2190bb2291b0b22 rfl hj) (.inr ⟨_,rfl⟩) TL CB) fun V2 J2 r2 h2 TO Qd qY=>?_;refine⟨V2,J2,r2,?_,TO,Qd,qY.mono fun k x h=>?_⟩
  ·rw[List.range'_succ,ZI,fu (vars':=V1)]
   ·exact h2
   ·exact h1
  ·refine Z4 h (fun h=>?_) fun h=>?_
   ·exact .inl (.inl h)
   ·by_cases hk:k=q*w+(w-1-j)
    ·exact .inl (.inr hk)
    ·exact .inr (cZ 0x93b2c0b101014392cc0b12332c0b1010143 rfl h hk)
theorem rangeSize_pos {w:Nat}(hw:0<w)(h:n%w=0):cC 0 (n:Int) (w:Int)=n/w:=by
 unfold cC Builtin.Range.rangeSize;rw[Z1 (by exact bC 0xaf870802 rfl hw)];refine aJ (Nat.dvd_of_mod_eq_zero h) ?_;rintro q (rfl);rw[Nat.mul_div_cancel_left _ hw];by_cases hq:q=0
 ·subst hq;simp
 ·have Ih:0<w*q:=Nat.mul_pos hw (bC 0x8080232 rfl hq);rw[Z1 (by exact bC 0xaf870802 rfl Ih)];have e1:((w*q:Nat):Int)-0-1=((w*q-1:Nat):Int):=bC 0x90caf980afcc90802 rfl Ih;rw[e1,<-Int.natCast_ediv];have e2:(w*q-1)/w=q-1:=by
   rw[Nat.div_eq_iff hw];have:w*q=w*(q-1)+w:=by rw[<-Nat.mul_succ];congr 1;exact bC 0x990cb0280232 rfl hq
   constructor
   ·rw[Nat.mul_comm];exact aX 0x91c2102b120803 rfl hw this
   ·rw[Nat.mul_comm (q-1) w];exact aX 0x921bc90c121b022 rfl this
  rw[e2];exact bC 0x990cafbbf280232 rfl hq
theorem jl {w:Nat}(hw:0<w)(h:n%w=0)(hn:n<=aM)(YB:w<=aM):bb (.range 0 (n:Int) (w:Int))=some ((List.range' 0 (n/w)).map fun k:Nat=>Dat.int ((k*w:Nat):Int)):=by
 have hs:(aG 0&&aG (n:Int)&&aG (w:Int)&&(w:Int) !=0)=true:=by unfold aG aM at *;simp only[ZR,decide_eq_true_eq,bne_iff_ne];lia
 unfold bb;dsimp only;rw[Z1 hs];unfold jj;rw[rangeSize_pos hw h,ZH,List.range_eq_range'];refine congrArg some (ZF fun k x=>?_);have e:(0:Int)+(w:Int)*(k:Int)=((k*w:Nat):Int):=by rw[Int.natCast_mul,Int.mul_comm,Int.zero_add]
 exact congrArg Dat.int e
def RD (K:az):Prop:=K=[]\/∃J d,Q0 J/\K=J++[(("i":Str),.val d)]
theorem Gi {w q:Nat}{D:Nat->Prop}(hw:0<w)(hl:b.length<=aM)(hq:q*w+w<=b.length)(hr:gh b w D r){K:az}(hK:RD K)(hV:bG V (K++dD r b w)):∃V' K' r',bT (b0 pat fuel) fK bZ lM ((("i":Str),.val (.int ((q*w:Nat):Int)))::V)=some (.next V')/\RD K'/\bG V' (K'++dD r' b w)/\gh b w (fun k=>D k\/(q*w<=k/\k<q*w+w)) r':=by
 have hJ:∃J,Q0 J/\bG ((("i":Str),.val (.int ((q*w:Nat):Int)))::V) (J++(("i":Str),.val (.int ((q*w:Nat):Int)))::dD r b w):=by
  refine Z4 hK (fun y0=>?_) fun y1=>?_
  ·obtain rfl:=y0;exact⟨[],.inl rfl,hV.cons _ _⟩
  ·refine eZ y1 ?_;clear y1;rintro J d hJ (rfl);refine Z4 hJ (fun y0=>?_) fun y1=>?_
   ·obtain rfl:=y0;exact⟨[],.inl rfl,(hV.cons _ _).trans bG.shadow⟩
   ·refine aJ y1 ?_;clear y1;rintro d1 (rfl);refine⟨_,.inr ⟨d1,rfl⟩,(hV.cons _ _).trans ?_⟩;refine bG.trans (bG.dead (A:=[(("j":Str),.val d1)]) (fun p hp=>?_)) (bG.swap (by decide));have n1:("j":Str)≠("i":Str):=by decide
    simp only[List.mem_cons,List.mem_nil_iff,or_false]at hp;subst hp;exact n1
 refine ax hJ fun J hJ h1=>?_;have he:ev (b0 pat fuel) bZ (bj (ak lM 0)) ((("i":Str),.val (.int ((q*w:Nat):Int)))::V)=some (.range 0 (w:Int) 1):=by rw[dz h1];rcases hJ with rfl|⟨d,rfl⟩<;>rfl
 have hit:bb (.range 0 (w:Int) 1)=some ((List.range' 0 w).map fun k:Nat=>Dat.int (k:Int)):=by have:=jl (n:=w) (w:=1) (by decide) (Nat.mod_one _) (cZ 0x131032b11013 rfl hl hq) (by decide);rw[Nat.div_one]at this;rw[show((1:Nat):Int)=1 from rfl]at this;rw[this];refine congrArg some (ZF fun k x=>?_);rw[Nat.mul_one]
 refine jz (Je (pat:=pat) (fuel:=fuel) hl hq w 0 _ J r D (bC 0x8b21 rfl) hJ h1 hr) fun V2 J2 r2 h2 TO Qd qY=>?_;refine⟨V2,J2++[(("i":Str),.val (.int ((q*w:Nat):Int)))],r2,?_,.inr ⟨J2,_,TO,rfl⟩,?_,qY.mono fun k x h=>h.imp id fun h=>aX 0x82c0b10101420b1010142 rfl h⟩
 ·rw[M0,av (aC rfl ((vK (pN rfl) (kr he) hit).trans h2))];rfl
 ·rw[List.append_assoc];exact Qd
theorem Gj {w:Nat}(hw:0<w)(hl:b.length<=aM):∀(m q:Nat)(V K:az)(r:List UInt8)(D:Nat->Prop),(q+m)*w=b.length->RD K->bG V (K++dD r b w)->gh b w D r->∃V' K' r',cQ (fun d vs=>match bp bZ (aU (ak dC 1)) d vs with
      |none=>none|some vs=>bT (b0 pat fuel) fK bZ lM vs) ((List.range' q m).map fun k:Nat=>Dat.int ((k*w:Nat):Int)) V=some (.next V')/\RD K'/\
   bG V' (K'++dD r' b w)/\gh b w (fun k=>D k\/(q*w<=k/\k<(q+m)*w)) r':=by
 intro m
 induction m with
 |zero=>intro q V K r D hj hK hV hr;exact⟨V,K,r,rfl,hK,hV,hr.mono fun k x h=>h.elim id fun h=>by rw[Nat.add_zero]at h;exact(aR 0x601010142 rfl h).elim⟩
 |succ m ih=>
  intro q V K r D hj hK hV hr;have e1:(q+(m+1))*w=(q+1+m)*w:=by congr 1;exact aR 0x190bb91b0b21 rfl
  have e2:(q+1)*w=q*w+w:=Nat.succ_mul q w;have e3:(q+1+m)*w=(q+1)*w+m*w:=Nat.add_mul ..;refine jz (Gi (pat:=pat) (fuel:=fuel) (q:=q) hw hl (by rw[<-hj,e1,e3,e2];exact Nat.le_add_right _ _) hr hK hV) fun V1 K1 r1 h1 XJ TL CB=>?_;refine jz (ih (q+1) V1 K1 r1 _ (by rw[<-e1];exact hj) XJ TL CB) fun V2 K2 r2 h2 XI Qd qY=>?_;refine⟨V2,K2,r2,?_,XI,Qd,qY.mono fun k x h=>?_⟩
  ·rw[List.range'_succ,ZI,fu (vars':=V1)]
   ·exact h2
   ·exact h1
  ·refine Z4 h (fun h=>?_) fun h=>?_
   ·exact .inl (.inl h)
   ·by_cases hk:k<q*w+w
    ·exact .inl (.inr ⟨h.1,hk⟩)
    ·exact .inr (by rw[e1]at h;exact r8 0x430301421b303430311421b024 rfl e2 h hk)
def Gz:Stmt->Expr| .Assign _ (.Call _ [a] _ _) _=>a|_=>.Name "" bS
theorem qP (h:b.length<=aM):zF [.bytes b]=some (.int (b.length:Int)):=by show(if b.length<=aM then some (Dat.int (b.length:Int))else none)=_;rw[Z1 h]
theorem MZ {w:Nat}(hw:0<w)(UM:w<=aM)(hl:b.length<=aM)(hm:b.length%w=0):bT (b0 pat fuel) fK bZ dC (bB ["data","width"] [.bytes b,.int (w:Int)])=some (.ret (.bytes (fL b w))):=by
 have e0:jq (b0 pat fuel) bZ [Gz (ak dC 0)] (bB ["data","width"] [.bytes b,.int (w:Int)])=(zF [.bytes b]).bind fun d=>some [d]:=by rfl
 rw[qP hl,ZV]at e0;have h0:ex (b0 pat fuel) fK bZ (ak dC 0) (bB ["data","width"] [.bytes b,.int (w:Int)])=some (.next (dD (List.replicate b.length 0) b w)):=by
  have e1:ex (b0 pat fuel) fK bZ (ak dC 0) (bB ["data","width"] [.bytes b,.int (w:Int)])=((jq (b0 pat fuel) bZ [Gz (ak dC 0)] (bB ["data","width"] [.bytes b,.int (w:Int)])).bind fun ds=>(newD "bytearray" ds).bind fun d=>bL bZ "swapped_data" (.own d) (bB ["data","width"] [.bytes b,.int (w:Int)])).map .next:=by rfl
  rw[e1,e0,ZV];have e2:newD "bytearray" [.int (b.length:Int)]=some (.ba (List.replicate b.length 0)):=by show(if 0<=(b.length:Int)/\(b.length:Int)<=(aM:Int)then some (Dat.ba (List.replicate (b.length:Int).toNat 0))else none)=_;rw[Z1 ⟨by exact bC 0xaf881 rfl,by exact aR 0x1af0af81012 rfl hl⟩];rfl
  rw[e2];rfl
 have e3:ev (b0 pat fuel) bZ (bj (ak dC 1)) (dD (List.replicate b.length 0) b w)=(((zF [.bytes b]).bind fun d=>some [d,Dat.int (w:Int)]).map fun ds=>Dat.int 0::ds).bind uX:=by rfl
 rw[qP hl]at e3;have e4:uX [.int 0,.int (b.length:Int),.int (w:Int)]=some (.range 0 (b.length:Int) (w:Int)):=by show(if(w:Int)≠0/\(w:Int).natAbs<1073741824 then some (Dat.range 0 (b.length:Int) (w:Int))else none)=_;unfold aM at UM;rw[Z1 ⟨by exact bC 0x80af930802 rfl hw,by lia⟩]
 have hd:(0+b.length/w)*w=b.length:=by rw[Nat.zero_add];exact Nat.div_mul_cancel (Nat.dvd_of_mod_eq_zero hm)
 refine jz (Gj (pat:=pat) (fuel:=fuel) hw hl (b.length/w) 0 (dD (List.replicate b.length 0) b w) [] _ (fun x=>False) hd (.inl rfl) (.refl _) ⟨by simp,fun x x h=>h.elim⟩) fun V' K' r' h1 hK hV hr=>?_;have Mt:r'=fL b w:=hr.all fun k hk=>.inr ⟨by exact aR 0x1000d11 rfl,by rw[hd];exact hk⟩;have e5:ev (b0 pat fuel) bZ (eH (ak dC 2)) V'=wa [.ba r']:=by rw[dz hV];rcases hK with rfl|⟨J,d,rfl|⟨d1,rfl⟩,rfl⟩<;>rfl
 have e6:wa [.ba r']=some (.bytes r'):=by show(if r'.length<=aM then some (Dat.bytes r')else none)=_;rw[Z1 (by rw[hr.1];exact hl)]
 rw[Jf,av (aC rfl h0),av (aC rfl ((vK (pN rfl) (kr (e3.trans e4)) (jl hw hm hl UM)).trans h1))];rw[eO (aC rfl (gw (kr (e5.trans e6)))) (fun v q=>by rcases q with⟨⟩),Mt]
def Ki:List Dat->Option Dat:=QX fun x y=>(QW x).bind fun b=>(QV y).bind fun w=>if 0<w/\w<=(aM:Int)/\b.length<=aM/\b.length%w.toNat=0 then some (.bytes (fL b w.toNat))else none
theorem QO:oG bZ:=⟨rfl,rfl,rfl,by decide +kernel,by decide +kernel⟩
theorem QP (hC:C.Plain)(hp:Re.gf C.h₀ pat c)(hg:C.mg "_twin_re_1"=some (.ref pat))(hD:eY C "_byteswap" (argsAt pw 7) dC bZ cd):ti C (n+1) "_byteswap" Ki:=by
 refine z6 (Φ:=b0 pat 0) (Ψ:=fK) hC (fun fr=>ko (hC.at fr) hp hg) rfl hD (by decide) (fun fr=>fH.none) QO (xs:=[("data":Str),"width"]) (by decide) (by decide +kernel) (fun vs pm doc hl=>?_) (fun ds d h=>?_)
 ·refine jK (Rv hl.symm) ?_;rintro v u (rfl);rfl
 ·refine eZ (GF h) fun x y e h=>ao h fun b h1 h=>ao h fun w h2 h=>aI h fun hc hz=>?_;obtain rfl:=GD h1;obtain rfl:=GC h2;subst e;obtain rfl:=Z9 hz;have hw:w=((w.toNat:Nat):Int):=RH 0xfbfaf0f982201140af0f840f8742 rfl hc;refine⟨rfl,?_⟩;rw[hw];exact MZ (RH 0xfbf8082201140af0f840f8742 rfl hc) (RH 0xfbf182201140af0f840f8742 rfl hc) hc.2.2.1 hc.2.2.2
end
def Q1 (p:Stmt×oH):Prop:=∀sc V V',bG V V'->fB (p.2 sc V) (p.2 sc V')
theorem wR {L:List (Stmt×oH)}(h:GQ Q1 L):iV (lh L):=fun sc st V V' hV=>by
 unfold lh;cases e:L.find? fun p=>oQ p.1==oQ st with
 |none=>exact .none
 |some p=>
  dsimp only;split
  ·exact h.mem p (List.mem_of_find?_eq_some e) sc V V' hV
  ·exact .none
theorem rh {c:Prop}{d:Decidable c}{a b:Option Fl}(h:fB a b):fB (if c then a else none) (if c then b else none):=by
 split
 ·exact h
 ·exact .none
set_option tactic.hygienic true in
theorem g9 {α:Type}(x:Option α){f g:α->Option Fl}(h:∀a,fB (f a) (g a)):fB (x.bind f) (x.bind g):=by
 rcases x with⟨⟩;case none=>exact .none
 case some a=>exact h a
theorem iw {S:Stmt}{x y a b:Str}:Q1 (S,pA x y a b):=fun sc V V' h=>by
 show fB ((mC V y).bind _) ((mC V' y).bind _);have:mC V y=mC V' y:=by unfold mC;rw[h y]
 rw[this];exact g9 _ fun t=>rh (dq h x _).fl
theorem La {S:Stmt}{y:Str}{ix:Expr}:Q1 (S,Ei Φ x y ix):=fun sc V V' h=>by
 show fB ((dU V x).bind fun ds=>(dU V y).bind fun ls=>_) ((dU V' x).bind fun ds=>(dU V' y).bind fun ls=>_);have e1:dU V x=dU V' x:=by unfold dU;rw[h x]
 have e2:dU V y=dU V' y:=by unfold dU;rw[h y]
 rw[e1,e2,dz h ix];refine g9 _ fun ds=>g9 _ fun ls=>g9 _ fun i=>rh ?_;cases ls[i.toNat]? with|none=>exact .none|some d=>exact .next ((h.cons _ _).cons _ _)
theorem H8 {S:Stmt}{x sep a:Str}:Q1 (S,joinM x sep a):=fun sc V V' h=>by
 show fB (if _ then(jY V a).bind _ else none) (if _ then(jY V' a).bind _ else none);have:jY V a=jY V' a:=by unfold jY;rw[h a]
 rw[this];exact rh (g9 _ fun t=>rh (dq h x _).fl)
def gD:Nat->Str->Option Str|0,_=>none|k+1,t=>if t.length<=aM/\PyData.strOk t=true/\PyData.strOk (Txt.replace t "--" "-")=true then(if Txt.replace t "--" "-"=t then some t else gD k (Txt.replace t "--" "-"))else none
section
variable {pat:Addr} {fuel:Nat} {W:az} {t:Str}
def ay:List Stmt:=gM pw 5
def aF:Scope:=eG pw 5
def lW:Stmt->Pos| .Assign _ (.Call _ [.GeneratorExp _ _ _ p] _ _) _=>p|_=>bS
def tu:Stmt->Pos| .While _ _ _ p=>p|_=>bS
noncomputable def cA:nz:=lh [(ak ay 0,joinM "platform" "-" "args"),(ak ay 1,pA "platform" "platform" " " "_"),(ak ay 2,pA "platform" "platform" "/" "-"),(ak ay 3,pA "platform" "platform" "\\" "-"),(ak ay 4,pA "platform" "platform" ":" "-"),(ak ay 5,pA "platform" "platform" ";" "-"),(ak ay 6,pA "platform" "platform" "\"" "-"),(ak ay 7,pA "platform" "platform" "(" "-"),(ak ay 8,pA "platform" "platform" ")" "-"),(ak ay 9,pA "platform" "platform" "unknown" ""),(ak (ja (ak ay 10)) 0,pA "cleaned" "platform" "--" "-")]
noncomputable def cq (t:Str)(W:az):az:=(("platform":Str),.val (.str t))::W
theorem HA:cA aF (ak ay 1) (cq t W)=(if t.length<=aM then some (.next (cq (Txt.replace t " " "_") (cq t W)))else none):=(cM rfl).trans rfl
theorem Hz:cA aF (ak ay 2) (cq t W)=(if t.length<=aM then some (.next (cq (Txt.replace t "/" "-") (cq t W)))else none):=(cM rfl).trans rfl
theorem Hy:cA aF (ak ay 3) (cq t W)=(if t.length<=aM then some (.next (cq (Txt.replace t "\\" "-") (cq t W)))else none):=(cM rfl).trans rfl
theorem Hx:cA aF (ak ay 4) (cq t W)=(if t.length<=aM then some (.next (cq (Txt.replace t ":" "-") (cq t W)))else none):=(cM rfl).trans rfl
theorem Hw:cA aF (ak ay 5) (cq t W)=(if t.length<=aM then some (.next (cq (Txt.replace t ";" "-") (cq t W)))else none):=(cM rfl).trans rfl
theorem Hv:cA aF (ak ay 6) (cq t W)=(if t.length<=aM then some (.next (cq (Txt.replace t "\"" "-") (cq t W)))else none):=(cM rfl).trans rfl
theorem Hu:cA aF (ak ay 7) (cq t W)=(if t.length<=aM then some (.next (cq (Txt.replace t "(" "-") (cq t W)))else none):=(cM rfl).trans rfl
theorem Ht:cA aF (ak ay 8) (cq t W)=(if t.length<=aM then some (.next (cq (Txt.replace t ")" "-") (cq t W)))else none):=(cM rfl).trans rfl
theorem Hr:cA aF (ak ay 9) (cq t W)=(if t.length<=aM then some (.next (cq (Txt.replace t "unknown" "") (cq t W)))else none):=(cM rfl).trans rfl
theorem HB:cA aF (ak ay 0) [(("args":Str),.val (.tuple ds))]=((strsOf ds).bind fun ys=>if gW "-" ys=true then some (.next (cq (cW "-" ys) [(("args":Str),.val (.tuple ds))]))else none):=(cM rfl).trans rfl
theorem El:ay=[ak ay 0,ak ay 1,ak ay 2,ak ay 3,ak ay 4,ak ay 5,ak ay 6,ak ay 7,ak ay 8,ak ay 9,.While (b6 (ak ay 10)) (ja (ak ay 10)) [] (tu (ak ay 10)),.While (b6 (ak ay 11)) (ja (ak ay 11)) [] (tu (ak ay 11)),.Return (some (eH (ak ay 12))) (ir (ak ay 12))]:=by rfl
end
section
variable {pat:Addr} {fuel:Nat} {W:az} {t u:Str}
def uZ:List Stmt:=ja (ak ay 10)
def JE:List Stmt:=ja (ak ay 11)
theorem Hq:dO (b0 pat fuel) aF (b6 (ak ay 10)) V (ev (b0 pat fuel) aF (b6 (ak ay 10)) V)=some true:=by rfl
theorem B3:uZ=[ak uZ 0,.If (aQ (ak uZ 1)) (cu (ak uZ 1)) [] (iI (ak uZ 1)),ak uZ 2]:=by rfl
theorem OD:cA aF (ak uZ 0) (cq t W)=(if t.length<=aM then some (.next ((("cleaned":Str),.val (.str (Txt.replace t "--" "-")))::cq t W))else none):=(cM rfl).trans rfl
theorem OC:dO (b0 pat fuel) aF (aQ (ak uZ 1)) ((("cleaned":Str),.val (.str u))::cq t W) (ev (b0 pat fuel) aF (aQ (ak uZ 1)) ((("cleaned":Str),.val (.str u))::cq t W))=lB (.str u) (.str t):=by rfl
theorem OA:bT (b0 pat fuel) cA aF (cu (ak uZ 1)) V=some (.brk V):=by rfl
theorem OB:ex (b0 pat fuel) cA aF (ak uZ 2) ((("cleaned":Str),.val (.str u))::cq t W)=some (.next (cq u ((("cleaned":Str),.val (.str u))::cq t W))):=by rfl
theorem vT (hu:PyData.strOk u=true)(ht:PyData.strOk t=true):lB (.str u) (.str t)=some (u==t):=by delta lB;rw[show oP (.str u)=some (.str u)from Z1 hu,show oP (.str t)=some (.str t)from Z1 ht];rfl
theorem Ew (hl:t.length<=aM)(ht:PyData.strOk t=true)(hu:PyData.strOk (Txt.replace t "--" "-")=true):bT (b0 pat fuel) cA aF uZ (cq t W)=if Txt.replace t "--" "-"=t then some (.brk ((("cleaned":Str),.val (.str t))::cq t W))else some (.next (cq (Txt.replace t "--" "-") ((("cleaned":Str),.val (.str (Txt.replace t "--" "-")))::cq t W))):=by
 have h0:=OD (t:=t) (W:=W);rw[Z1 hl]at h0;rw[B3,av (cE h0)];have h1:=OC (pat:=pat) (fuel:=fuel) (t:=t) (u:=Txt.replace t "--" "-") (W:=W);rw[vT hu ht]at h1;split
 ·rename_i he;have h2:(Txt.replace t "--" "-"==t)=true:=by rw[he];exact beq_self_eq_true t
  rw[h2]at h1;have h3:ex (b0 pat fuel) cA aF (.If (aQ (ak uZ 1)) (cu (ak uZ 1)) [] (iI (ak uZ 1))) ((("cleaned":Str),.val (.str (Txt.replace t "--" "-")))::cq t W)=some (.brk ((("cleaned":Str),.val (.str (Txt.replace t "--" "-")))::cq t W)):=(o7 (c:=true) (hU h1)).trans OA;rw[eO (aC rfl h3) (fun v q=>by rcases q with⟨⟩),he]
 ·rename_i he;have h2:(Txt.replace t "--" "-"==t)=false:=by rw[ZJ];exact he
  rw[h2]at h1;have h3:ex (b0 pat fuel) cA aF (.If (aQ (ak uZ 1)) (cu (ak uZ 1)) [] (iI (ak uZ 1))) ((("cleaned":Str),.val (.str (Txt.replace t "--" "-")))::cq t W)=some (.next ((("cleaned":Str),.val (.str (Txt.replace t "--" "-")))::cq t W)):=(o7 (c:=false) (hU h1)).trans rfl;rw[av (aC rfl h3),av (aC rfl OB)];rfl
theorem AU {α:Type}{x y:Option α}:bX true x y=x:=rfl
theorem Kx {f:az->Option Bool}{g:az->Option Fl}{V:az}:sj f g (k+1) V=(f V).bind fun c=>bX c ((g V).bind (jc (sj f g k))) (some (.next V)):=rfl
theorem En:∀(k:Nat)(t u:Str)(W:az),gD k t=some u->∃W',sj (fun vs=>dO (b0 pat fuel) aF (b6 (ak ay 10)) vs (ev (b0 pat fuel) aF (b6 (ak ay 10)) vs)) (fun vs=>bT (b0 pat fuel) cA aF uZ vs) k (cq t W)=some (.next ((("cleaned":Str),.val (.str u))::cq u W')):=by
 intro k;induction k with
 |zero=>intro t u W h;exact aa h
 |succ k ih=>
  intro t u W h;refine aI h fun hc h=>?_;have h1:=Ew (pat:=pat) (fuel:=fuel) (W:=W) hc.1 hc.2.1 hc.2.2;rw[Kx,Hq,ZV,AU,h1];by_cases he:Txt.replace t "--" "-"=t
  ·obtain rfl:=Z9 ((Z1 he).symm.trans h);rw[Z1 he];exact⟨W,rfl⟩
  ·rw[ZX he];exact ih _ u _ ((ZX he).symm.trans h)
theorem B2:JE=[ak JE 0]:=by rfl
def bz:Stmt->Expr| .Assign _ v _=>v|_=>.Name "" bS
theorem HD:ev (b0 pat fuel) aF (bz (ak JE 0)) (cq t W)=fh (.str t) none (some (-1)) none:=by rfl
noncomputable def bA:Expr->List Expr| .BoolOp _ es _=>es|_=>[]
theorem Es:dO (b0 pat fuel) aF (b6 (ak ay 11)) (cq t W) (ev (b0 pat fuel) aF (b6 (ak ay 11)) (cq t W))=f9 (b0 pat fuel) aF .And (bA (b6 (ak ay 11))) (cq t W):=by rfl
theorem Eu:bA (b6 (ak ay 11))=[(bA (b6 (ak ay 11))).getD 0 (.Name "" bS),(bA (b6 (ak ay 11))).getD 1 (.Name "" bS)]:=by rfl
theorem Oz:dO (b0 pat fuel) aF ((bA (b6 (ak ay 11))).getD 0 (.Name "" bS)) (cq t W) (ev (b0 pat fuel) aF ((bA (b6 (ak ay 11))).getD 0 (.Name "" bS)) (cq t W))=nE (.str t):=by rfl
theorem Oy:dO (b0 pat fuel) aF ((bA (b6 (ak ay 11))).getD 1 (.Name "" bS)) (cq t W) (ev (b0 pat fuel) aF ((bA (b6 (ak ay 11))).getD 1 (.Name "" bS)) (cq t W))=((ez (.str t) (.int (-1))).bind fun a=>pJ .Eq a (.str "-")):=by rfl
theorem Ld:ev (b0 pat fuel) aF (eH (ak ay 12)) (cq t W)=some (.str t):=by rfl
noncomputable def M8 (x y:Option Bool):Option Bool:=match x with
 |none=>none|some false=>some false|some true=>y
def mW (t:Str):Option Bool:=M8 (nE (.str t)) ((ez (.str t) (.int (-1))).bind fun a=>pJ .Eq a (.str "-"))
set_option tactic.hygienic true in
theorem t9 {a b:Expr}{x:Option Bool}(h1:dO Φ sc a V (ev Φ sc a V)=x)(h2:dO Φ sc b V (ev Φ sc b V)=y):f9 Φ sc .And [a,b] V=M8 x y:=by
 have e:∀(p:Expr)(r:List Expr),f9 Φ sc .And (p::r) V=M8 (dO Φ sc p V (ev Φ sc p V)) (f9 Φ sc .And r V):=fun p r=>by
  show((dO Φ sc p V (ev Φ sc p V)).bind fun c=>bX (wY .And c) (some c) (f9 Φ sc .And r V))=_;cases dO Φ sc p V (ev Φ sc p V)with
  |none=>rfl
  |some c=>rcases c with⟨⟩<;>rfl
 rw[e,e,h1,h2];have e0:f9 Φ sc .And [] V=some true:=rfl;rw[e0];congr 1;rcases y with⟨⟩;case none=>rfl
 case some d=>rcases d with⟨⟩<;>rfl
theorem Et:dO (b0 pat fuel) aF (b6 (ak ay 11)) (cq t W) (ev (b0 pat fuel) aF (b6 (ak ay 11)) (cq t W))=mW t:=by rw[Es,Eu,t9 Oz Oy];rfl
noncomputable def Hh (o:Option Dat)(f:Str->Option Str):Option Str:=match o with
 |some (.str u)=>f u|_=>none
set_option tactic.hygienic true in
theorem DZ {o:Option Dat}{f:Str->Option Str}{u:Str}{P:Prop}(h:Hh o f=some u)(k:∀v,o=some (.str v)->f v=some u->P):P:=by
 cases o with
 |none=>exact aa h
 |some d=>
  rcases d with⟨⟩;case str v=>exact k v rfl h
  all_goals exact aa h
def my:Nat->Str->Option Str
 |0,_=>none
 |k+1,t=>match mW t with
  |none=>none|some false=>some t|some true=>Hh (fh (.str t) none (some (-1)) none) (my k)
theorem Er (h:fh (.str t) none (some (-1)) none=some (.str u)):bT (b0 pat fuel) cA aF JE (cq t W)=some (.next (cq u (cq t W))):=by
 have h1:ex (b0 pat fuel) cA aF (ak JE 0) (cq t W)=(((oq (b0 pat fuel) aF (bz (ak JE 0)) (cq t W)).bind (BR aF "platform")).map .next):=by rfl
 rw[kr (HD.trans h)]at h1;rw[B2,av (aC rfl h1)];rfl
set_option tactic.hygienic true in
theorem Em:∀(k:Nat)(t u:Str)(W:az),my k t=some u->∃W',sj (fun vs=>dO (b0 pat fuel) aF (b6 (ak ay 11)) vs (ev (b0 pat fuel) aF (b6 (ak ay 11)) vs)) (fun vs=>bT (b0 pat fuel) cA aF JE vs) k (cq t W)=some (.next (cq u W')):=by
 intro k;induction k with
 |zero=>intro t u W h;exact aa h
 |succ k ih=>
  intro t u W h;replace h:(match mW t with
   |none=>none|some false=>some t|some true=>Hh (fh (.str t) none (some (-1)) none) (my k))=some u:=h
  show ∃W',((dO (b0 pat fuel) aF (b6 (ak ay 11)) (cq t W) (ev (b0 pat fuel) aF (b6 (ak ay 11)) (cq t W))).bind fun c=>bX c ((bT (b0 pat fuel) cA aF JE (cq t W)).bind (jc _)) (some (.next (cq t W))))=_;rw[Et];cases he:mW t with
  |none=>rw[he]at h;exact aa h
  |some b=>
   rw[he]at h;rcases b with⟨⟩;case false=>obtain rfl:=Z9 h;exact⟨W,rfl⟩
   case true=>rw[ZV,AU];refine DZ h fun v hv h=>?_;rw[Er hv];exact ih v u _ h
end
section
variable {pat:Addr} {fuel:Nat} {W:az} {t u v:Str}
noncomputable def rep1 (t:Str):Str:=Txt.replace t " " "_"
noncomputable def rep2 (t:Str):Str:=Txt.replace t "/" "-"
noncomputable def rep3 (t:Str):Str:=Txt.replace t "\\" "-"
noncomputable def nK (t:Str):Str:=Txt.replace t ":" "-"
noncomputable def qv (t:Str):Str:=Txt.replace t ";" "-"
noncomputable def uU (t:Str):Str:=Txt.replace t "\"" "-"
noncomputable def zh (t:Str):Str:=Txt.replace t "(" "-"
noncomputable def Ec (t:Str):Str:=Txt.replace t ")" "-"
noncomputable def K0 (t:Str):Str:=Txt.replace t "unknown" ""
def eQ (t:Str):Str:=K0 (Ec (zh (uU (qv (nK (rep3 (rep2 (rep1 t))))))))
def vZ (t:Str):Prop:=(t).length<=aM/\(rep1 (t)).length<=aM/\(rep2 (rep1 (t))).length<=aM/\(rep3 (rep2 (rep1 (t)))).length<=aM/\(nK (rep3 (rep2 (rep1 (t))))).length<=aM/\(qv (nK (rep3 (rep2 (rep1 (t)))))).length<=aM/\(uU (qv (nK (rep3 (rep2 (rep1 (t))))))).length<=aM/\(zh (uU (qv (nK (rep3 (rep2 (rep1 (t)))))))).length<=aM/\(Ec (zh (uU (qv (nK (rep3 (rep2 (rep1 (t))))))))).length<=aM
theorem Ov (h:t.length<=aM)(sts:List Stmt):bT (b0 pat fuel) cA aF (ak ay 1::sts) (cq t W)=bT (b0 pat fuel) cA aF sts (cq (rep1 t) (cq t W)):=av (cE (HA.trans (Z1 h)))
theorem Ou (h:t.length<=aM)(sts:List Stmt):bT (b0 pat fuel) cA aF (ak ay 2::sts) (cq t W)=bT (b0 pat fuel) cA aF sts (cq (rep2 t) (cq t W)):=av (cE (Hz.trans (Z1 h)))
theorem Ot (h:t.length<=aM)(sts:List Stmt):bT (b0 pat fuel) cA aF (ak ay 3::sts) (cq t W)=bT (b0 pat fuel) cA aF sts (cq (rep3 t) (cq t W)):=av (cE (Hy.trans (Z1 h)))
theorem Oq (h:t.length<=aM)(sts:List Stmt):bT (b0 pat fuel) cA aF (ak ay 4::sts) (cq t W)=bT (b0 pat fuel) cA aF sts (cq (nK t) (cq t W)):=av (cE (Hx.trans (Z1 h)))
theorem Oo (h:t.length<=aM)(sts:List Stmt):bT (b0 pat fuel) cA aF (ak ay 5::sts) (cq t W)=bT (b0 pat fuel) cA aF sts (cq (qv t) (cq t W)):=av (cE (Hw.trans (Z1 h)))
theorem Om (h:t.length<=aM)(sts:List Stmt):bT (b0 pat fuel) cA aF (ak ay 6::sts) (cq t W)=bT (b0 pat fuel) cA aF sts (cq (uU t) (cq t W)):=av (cE (Hv.trans (Z1 h)))
theorem Ol (h:t.length<=aM)(sts:List Stmt):bT (b0 pat fuel) cA aF (ak ay 7::sts) (cq t W)=bT (b0 pat fuel) cA aF sts (cq (zh t) (cq t W)):=av (cE (Hu.trans (Z1 h)))
theorem Oj (h:t.length<=aM)(sts:List Stmt):bT (b0 pat fuel) cA aF (ak ay 8::sts) (cq t W)=bT (b0 pat fuel) cA aF sts (cq (Ec t) (cq t W)):=av (cE (Ht.trans (Z1 h)))
theorem Oi (h:t.length<=aM)(sts:List Stmt):bT (b0 pat fuel) cA aF (ak ay 9::sts) (cq t W)=bT (b0 pat fuel) cA aF sts (cq (K0 t) (cq t W)):=av (cE (Hr.trans (Z1 h)))
theorem Eo (h:vZ t)(sts:List Stmt):∃W',bT (b0 pat fuel) cA aF (ak ay 1::ak ay 2::ak ay 3::ak ay 4::ak ay 5::ak ay 6::ak ay 7::ak ay 8::ak ay 9::sts) (cq t W)=bT (b0 pat fuel) cA aF sts (cq (eQ t) W'):=by refine RN h fun c1 c2 c3 c4 c5 c6 c7 y0=>?_;refine aL y0 fun c8 c9=>?_;exact⟨_,((Ov c1 _).trans ((Ou c2 _).trans ((Ot c3 _).trans ((Oq c4 _).trans ((Oo c5 _).trans ((Om c6 _).trans ((Ol c7 _).trans ((Oj c8 _).trans (Oi c9 _)))))))))⟩
theorem Ox:iV cA:=by refine wR ?_;exact⟨H8,iw,iw,iw,iw,iw,iw,iw,iw,iw,iw,trivial⟩
theorem Lc (hs:strsOf ds=some ys)(hj:gW "-" ys=true)(hc:vZ (cW "-" ys))(h1:gD fuel (eQ (cW "-" ys))=some u)(h2:my fuel u=some v):bT (b0 pat fuel) cA aF ay (bB ["args"] [.tuple ds])=some (.ret (.str v)):=by
 have h0:cA aF (ak ay 0) (bB ["args"] [.tuple ds])=some (.next (cq (cW "-" ys) [(("args":Str),.val (.tuple ds))])):=by have:=HB (ds:=ds);rw[hs]at this;exact this.trans (Z1 hj)
 rw[El,av (cE h0)];refine aJ (Eo (pat:=pat) (fuel:=fuel) (W:=[(("args":Str),.val (.tuple ds))]) hc [.While (b6 (ak ay 10)) (ja (ak ay 10)) [] (tu (ak ay 10)),.While (b6 (ak ay 11)) (ja (ak ay 11)) [] (tu (ak ay 11)),.Return (some (eH (ak ay 12))) (ir (ak ay 12))]) fun W1 e1=>?_;rw[e1];refine aJ (En (pat:=pat) (fuel:=fuel) fuel _ u W1 h1) fun W2 e2=>?_;have T7:ex (b0 pat fuel) cA aF (.While (b6 (ak ay 10)) (ja (ak ay 10)) [] (tu (ak ay 10))) (cq (eQ (cW "-" ys)) W1)=some (.next (((("cleaned":Str),.val (.str u)))::cq u W2)):=yg.trans e2;rw[av (aC rfl T7)];refine hH Ox (bG.swap (by decide)) ?_;refine aJ (Em (pat:=pat) (fuel:=fuel) fuel u v ((("cleaned":Str),.val (.str u))::W2) h2) fun W3 e3=>?_;show bT (b0 pat fuel) cA aF _ (cq u ((("cleaned":Str),.val (.str u))::W2))=_;have X7:ex (b0 pat fuel) cA aF (.While (b6 (ak ay 11)) (ja (ak ay 11)) [] (tu (ak ay 11))) (cq u ((("cleaned":Str),.val (.str u))::W2))=some (.next (cq v W3)):=yg.trans e3;rw[av (aC rfl X7)];exact eO (aC rfl (gw (kr Ld))) (fun v q=>by rcases q with⟨⟩)
end
section
variable {K:Env->Prop}
theorem pG (hC:C.Ok)(h:eW C c P p q)(hc:env.code=.ref c)(hl:pos.line=p.line)(kh:pos.col=p.col)(hq:qn=q)(bs:Bs C s)(hQ:∀c' s',Ex C s s'->s'.heap.CodeRec (.ref c') q->Q (.ref c') s'):wpAny (model prog w) A (functionCode env pos fl name qn ps scope bd) Q E s:=by
 subst hq;refine Z4 (bs.tab c P p _ h.mem) (fun h0=>?_) fun y0=>?_
 ·have Iv:s.heap.get? P=some {cls:=.none,data:=.fields #[]}:=h0;refine wpAny_functionCodeX hc (h.vy hC bs Iv trivial) (h.tableAt hC bs Iv) rfl fun c' h' tk hx x x x hr ht x=>hQ c' {s with heap:=h',toks:=tk} (h.grown hC bs Iv hx ?_ hr) hr;have:=ht.2;simpa[hl,kh]using this
 ·refine ax y0 fun c' h1 hr=>?_;have G1:s.heap.get? P=some {cls:=.none,data:=.fields #[rawInt p.line,rawInt p.col,.ref c']}:=h1;exact wpAny_functionCode_hit hc (h.vy hC bs G1 (by simp[TriplesOk,rawInt])) (lH hl kh) (hQ c' s (.refl s) hr)
theorem Cp (hC:C.Ok)(CH:∃bm ob,BMod C.h₀ mainGlobals C.mg bm ob)(ht:eW C c P p q)(mN:env.code=.ref c)(hq:env.qual++"<lambda>"=q)(e:aN env sc)(bs:Bs C s)(yd:∀p∈scope.names,p.2=.free->∃c,env.cells.lookup p.1=some c)(Fp:defaultsOf params env=([],[]))(hl:pos.line=p.line)(kh:pos.col=p.col)(hQ:∀a s' c' F3 pm,Ex C s s'->s.heap.get? a=none->s'.heap.get? a=some (kla_obj "<lambda>" q params body scope (fR env scope.names []) pm c' F3)->s'.heap.CodeRec (.ref c') q->Q (.ref a) s'):wpAny (model C.prog C.w) A (eval (.Lambda params body scope pos) env) Q E s:=by
 refine kla_eval Fp ?_;rw[makeFunction_eq];simp only[List.zip_nil_right,List.filterMap_nil,List.isEmpty_nil,if_true,pure_bind];unfold makeTail;rw[lI yd];refine Z8 (Z0 ?_);refine jK CH fun bm ob B=>?_;have Mq:¬C.T bm:=by intro y0;refine i0 y0 fun c2 p2 q2 m=>?_;have h2:=(hC.qg c2 bm p2 q2 m).1.2;rw[B.obj]at h2;obtain rfl:=Z9 h2;rcases B.cls with⟨⟩
 have fin:∀(F3:Value)(s1:Shared),Ex C s s1->wpAny (model C.prog C.w) A (do
   let code <-functionCode env pos pos.line "<lambda>" (env.qual++"<lambda>") params scope (.expr body);let b <-builtinsFor env.globals env.builtins;let pm <-nsGet env.globals "__name__";let doc <-(pure .none:Sem Value);newObj (.type "function") (.func {name:="<lambda>",qualname:=env.qual++"<lambda>",params,body:=.expr body,scope,globals:=env.globals,closure:=fR env scope.names [],closureTuple:=F3,code:=code,builtins:=b,defaults:=.none,kwdefaults:=.none,annotations:=none,pyModule:=pm.getD .none,doc:=doc})) Q E s1:=by
  intro F3 s1 x1;refine Z8 (pG hC ht mN hl kh hq (x1.bs bs) fun c' s2 x2 hr=>?_);have Kj:=x2.bs (x1.bs bs);have fO:=e.globals▸Cx.OG hC Kj;refine Z8 (wpAny_builtinsFor fO B.name B.ne (Kj.keep _ _ B.obj Mq) B.cls B.dict B.data ?_);refine Z8 (wpAny_nsGet fO (Z8 (Z0 ?_)));refine wpAny_newObj_type ?_ (by size_fits);have x3:Ex C s2 {s2 with heap:=s2.heap.push {cls:=.type "function",data:=.func {name:="<lambda>",qualname:=env.qual++"<lambda>",params,body:=.expr body,scope,globals:=env.globals,closure:=fR env scope.names [],closureTuple:=F3,code:=.ref c',builtins:=builtinsNs,defaults:=.none,kwdefaults:=.none,annotations:=none,pyModule:=(C.mg "__name__").getD .none,doc:=.none}}}:=.of_keep (fun x x e=>Z3 _ e) rfl rfl;refine hQ s2.heap.objs.size _ c' F3 ((C.mg "__name__").getD .none) (x1.trans (x2.trans x3)) ?_ ?_ (hr.push _)
  ·cases e0:s.heap.get? s2.heap.objs.size with
   |none=>rfl
   |some o=>
    exfalso;have Dp:=x1.trans x2;by_cases t:C.T s2.heap.objs.size
    ·refine i0 t fun c2 p2 q2 m=>?_;rcases Kj.tab c2 _ p2 q2 m with e'|⟨_,e',_⟩<;>(have h3:=aE s2.heap;rw[e']at h3;rcases h3 with⟨⟩)
    ·refine ax (Dp.data e0 t) fun o' e' x=>?_;have h3:=aE s2.heap;rw[e']at h3;rcases h3 with⟨⟩
  ·rw[<-hq];have:=e.globals;rw[this];exact ZO _ rfl
 cases jm:(fR env scope.names [])with|nil=>simp only[List.isEmpty_nil,if_true];refine Z8 (Z0 ?_);have:=fin .none s (.refl s);rw[jm]at this;exact this|cons z r=>simp only[List.isEmpty_cons,ZG,if_false];refine Z8 (wpAny_newTextTuple ?_);rw[<-jm];exact fin _ _ (.of_keep (fun x x e=>Z3 _ e) rfl rfl)
end
section
variable {R:Result->Shared->Prop}
theorem Ai (h:aK (model prog w) (A.deeper env) (eval e env) (fun v s'=>R (.ok (.ret v)) s') (fun e' s'=>aK (model prog w) (A.deeper env) (leaving env e') (fun x fM=>R (.error e') fM) (fun Yj fM=>R (.error Yj) fM) s') s):cb (model prog w) A (.expr e env) R s:=by refine aS ?_ rfl;show aK _ (A.deeper env) (do point;ret (<-(eval e env).onRaise (leaving env))) _ _ s;exact ab (ai (wpAny_point (ab (dj (aD h (fun v s' h'=>ah h') fun x x h'=>h')))))
theorem ky (ya:A.depth<recursionLimit)(ho:s.heap.get? a=some o)(cB:o.data=.func fd)(Fs:fd.scope.isCoroutine=false)(q5:fd.scope.isGenerator=false)(iL:fd.body=.expr body)(Be:s.heap.CodeRec fd.code fd.qualname)(h:aK (model prog w) A.in1 (bindArgs fd args) (fun binds aB=>aK (model prog w) A.in1 (newFunctionEnv fd.scope fd.globals fd.closure binds (fd.qualname++".<locals>.") (some a) fd.code none fd.builtins) (fun env bM=>bM.heap.NoLimit/\cb (model prog w) A (.expr body env) R bM) (fun e s'=>R (.error e) s') aB) (fun e s'=>R (.error e) s') s):cb (model prog w) A (.call (.ref a) args) R s:=by refine aS ?_ rfl;show aK _ A.in1 (callAny (.ref a) args) _ _ s;delta callAny;refine ab (ai (wpAny_load ho ?_));refine cL Be fun c oc vs tq hc Dt Fq hq=>?_;rw[cB];show aK _ _ (callFunction a fd args) _ _ _;delta callFunction;rw[hc,iL,q5,Fs];rw[hc]at h;refine ab (m:=field (.ref c) 1) (ai (wpAny_field Dt Fq hq (ab (ah ?_))));exact ab (aD h (fun binds aB bh=>ab (aD bh (fun env bM eM=>ab (ai (wpAny_enterFrame eM.1 ya (ah (And.intro rfl eM.2))))) fun x x h'=>h')) fun x x h'=>h')
end
section
variable {dQ:Scope} {K:Env->Prop}
noncomputable def zG (p:Pos):Arguments:=⟨[],[⟨"k",none,p⟩],none,[],[],none,[]⟩
theorem Cq (e:aN env sc)(eN:fv sc dQ=true)(Ij:∀p∈dQ.names,p.2≠.cell):aN (envX q dQ L a cd (fR env dQ.names [])) dQ:=by
 refine bg (dR eN) fun h1 h2 h3=>?_;have hf:=gI e eN;have jm:∀x c,(x,c)∈fR env dQ.names []->env.cells.lookup x=some c:=fun x c hm=>(iP hf hm).resolve_left nofun;refine⟨h1,rfl,rfl,fun x q=>q,fun x q=>q,fun x q=>q,fun x q=>.inr q,fun x q=>?_,fun x y c hx hy=>?_⟩
 ·refine Z4 q (fun q=>?_) fun q=>?_
  ·exact absurd rfl (Ij _ (mem_of_lookup q))
  ·refine aJ (m9 (env:=env) (acc:=[]) (.inl (mem_of_lookup q))) fun c hc=>?_;exact dB hc
 ·exact e.inj x y c (jm x c (mem_of_lookup hx)) (jm y c (mem_of_lookup hy))
theorem zH (hC:C.Ok)(hO:∀fr,cj (C.at fr) n)(hF:∀fr,b7 (C.at fr) Φ n)(hA:cV C (n+1) A)(e:aN env sc)(i:In C vol env vars s)(eN:fv sc dQ=true)(Ij:∀p∈dQ.names,p.2≠.cell)(q5:dQ.isGenerator=false)(Fs:dQ.isCoroutine=false)(hk:dQ.names.lookup ("k":Str)=some .local)(hv:∀x sl,(bw dQ vars).lookup x=some sl->∃d,sl=.val d)(ho:s.heap.get? a=some (kla_obj "<lambda>" q (zG ap) body dQ (fR env dQ.names []) pm c' F3))(Be:s.heap.CodeRec (.ref c') q)(r:Rep s.heap vol v dk)(h:ev Φ dQ body ((("k":Str),.val dk)::bw dQ vars)=some d):dY C A vol (PySem.call (.ref a) [v]) d s:=by
 revert sc n Φ d ap pm F3 hC hO hF hA e i eN Ij q5 Fs hk hv ho Be r h;refine no_implicit_lambda% (pn (b8 (b8 (b8 (b8 sA zv) (b8 GS vm)) inferInstance) inferInstance) ?_ s C dk A env dQ q c' a vol vars v body);generalize jF _ _=tt;dsimp only[Bu];generalize tt.1.1.1.1=s,tt.1.1.1.2=C,tt.1.1.2.1=dk,tt.1.1.2.2=A,tt.1.2.1.1=env,tt.1.2.1.2=dQ,tt.1.2.2=q,tt.2.1.1.1=c',tt.2.1.1.2=a,tt.2.1.2=vol,tt.2.2.1.1=vars,tt.2.2.1.2=v,tt.2.2.2=body;intro sc n Φ d ap pm F3 hC hO hF hA e i eN Ij q5 Fs hk hv ho Be r h;intro E Q hQ;have iK:=(dR eN).1;have hf:=gI e eN;have jm:∀x c,(x,c)∈fR env dQ.names []->env.cells.lookup x=some c:=fun x c hm=>(iP hf hm).resolve_left nofun;refine gC (ky (by have:=hA.depth;exact aX 0x200291b0b02 rfl this) ho rfl Fs q5 rfl Be ?_);have hb:bindArgs (kla_fn "<lambda>" q (zG ap) body dQ (fR env dQ.names []) pm (.ref c') F3) ⟨[v],[]⟩=pure [(("k":Str),v)]:=rfl;rw[hb];refine ah (ai (wpAny_newFunctionEnv Ij (fun x hx=>by rw[List.mem_singleton.mp hx];exact hk) (fun bh fO Wz=>?_) iK));have qZ:∀b o,s.heap.get? b=some o->bh.get? b=some o:=fun b o e=>Wz.extBut b o (Nat.ne_of_lt (Heap.lt_size e)) (Z3 _ e);have x1:Ex C s {s with heap:=bh,toks:=s.toks+1}:=.of_keep qZ rfl rfl;refine⟨(x1.bs i.bs).noLimit hC,?_⟩;show cb _ _ (.expr body (envX q dQ s.heap.objs.size a (.ref c') (fR env dQ.names []))) _ {s with heap:=bh,toks:=s.toks+1};have Qg:s.heap.get? s.heap.objs.size=none:=aE _;have Wn:¬vol s.heap.objs.size:=i.vo.new Qg;have h0:C.h₀.get? s.heap.objs.size=none:=by cases e0:C.h₀.get? s.heap.objs.size with|none=>rfl|some o=>have:=i.bs.keep _ o e0 fun t=>Wn (i.vo.tabs _ t);rw[Qg]at this;exact aa this
 have z0:cV (C.more s.heap.objs.size) n (A.deeper (envX q dQ s.heap.objs.size a (.ref c') (fR env dQ.names []))):=hA.deeper iK rfl h0;have e':aN (envX q dQ s.heap.objs.size a (.ref c') (fR env dQ.names [])) dQ:=Cq e eN Ij;have V1:=i.vo.ex x1 (x1.bs i.bs);have i':In (C.more s.heap.objs.size) (fun b=>vol b\/b=s.heap.objs.size) (envX q dQ s.heap.objs.size a (.ref c') (fR env dQ.names [])) ((("k":Str),.val dk)::bw dQ vars) {s with heap:=bh,toks:=s.toks+1}:=by
  refine sd (id fO) fun oL es ep CD Bd UW=>?_;refine⟨(x1.bs i.bs).more ⟨oL,es,ep,CD,Bd⟩,⟨fun b t=>.inl (i.vo.tabs b t),fun b t=>t.imp (i.vo.gS b) id,fun b t=>t.elim (V1.there b) fun q=>⟨oL,q▸CD⟩⟩,fun x sl hx=>?_,fun x c hc=>?_⟩
  ·rw[ZS]at hx;cases hb:x==("k":Str)with
   |true=>rw[hb]at hx;obtain rfl:=Z9 hx;have:=beq_iff_eq.mp hb;subst this;refine⟨v,⟨by decide,by decide,.inl ⟨hk,_,fO,by simp⟩⟩,?_⟩;exact r.mono fun b o q nn=>⟨qZ b o q,fun z=>z.elim nn fun z=>by rw[z,Qg]at q;exact aa q⟩
   |false=>
    rw[hb]at hx;refine aL (eg hx) fun Pr LZ=>?_;refine aJ (hv _ _ hx) fun d' cB=>?_;subst cB;refine ax (i.lo x _ Pr) fun v' y0 hr=>?_;refine bg y0 fun g1 g2 g3=>?_;have yd:(x,NameKind.free)∈dQ.names:=mem_of_lookup LZ;refine aJ (hf _ yd rfl) fun c hc=>?_;have Ds:=(dR eN).2.2 _ yd rfl;have Xk:s.heap.IsCell c (some v'):=by
     refine Z4 g3 (fun y0=>?_) fun y1=>?_
     ·refine aL y0 fun g4 y=>?_;exfalso;refine Z4 Ds (fun z=>?_) fun z=>?_
      ·have:=e.Ud x z;rw[g4]at this;rcases this with⟨⟩
      ·refine Z4 (e.T4 x z) (fun z=>?_) fun z=>?_<;>(rw[g4]at z;rcases z with⟨⟩)
     ·obtain⟨_,c2,g5,g6⟩:=y1;dsimp only at hc;rw[hc]at g5;obtain rfl:=Z9 g5;exact g6
    refine aJ (m9 (env:=env) (acc:=[]) (.inl yd)) fun c2 yP=>?_;refine aJ (dB yP) fun c3 Vd=>?_;have Vc:=jm x c3 (mem_of_lookup Vd);dsimp only at hc;rw[hc]at Vc;obtain rfl:=Z9 Vc;refine ax Xk fun oc Dt Fq=>?_;refine⟨v',⟨g1,g2,.inr ⟨.inr LZ,c,Vd,oc,qZ _ _ Dt,Fq⟩⟩,?_⟩;exact Rep.mono (fun b o q nn=>⟨qZ b o q,fun z=>z.elim nn fun z=>by rw[z,Qg]at q;exact aa q⟩) (show Rep s.heap vol v' d' from hr)
  ·refine eZ (i.cells x c (jm x c (mem_of_lookup hc))) fun u oc Dt Fq=>?_;exact⟨u,oc,qZ _ _ Dt,Fq⟩
 refine Ai (cH (hC.at _) (hO _) (hF _) z0 body e' i' h _ _ fun u s2 x2 r2=>?_);refine hQ u s2 ?_ (r2.kM fun b z=>.inl z);refine⟨fun b o e1 t f=>x2.keep b o (qZ b o e1) t fun z=>z.elim f fun z=>(by rw[z,Qg]at e1;exact aa e1),fun b o f e1=>x2.nj b o (.inl f) (qZ b o e1),fun z=>(x2.bs i'.bs).less⟩
end
end Mine.Internal
namespace Mine.Internal
namespace Ks
open PySem PySem.W PyProof.Rows
noncomputable def fk {α:Type}(f:Nat->Nat->Bool):KasT α->α| .ret a=>a| .ask i j k=>fk f (k (f i j))
theorem kf {α:Type}{f:Nat->Nat->Bool}{i j:Nat}{k:Bool->KasT α}:fk f (.ask i j k)=fk f (k (f i j)):=rfl
theorem gu {α β:Type}{f:Nat->Nat->Bool}{g:α->KasT β}:∀(t:KasT α),fk f (t.bind g)=fk f (g (fk f t))| .ret _=>rfl| .ask i j k=>gu (k (f i j))
section
variable {p:Array Nat} {N:Nat}
def prec (r:Nat->Nat)(x y:Nat):Prop:=r x<r y\/(r x=r y/\x<y)
noncomputable def dZ {α:Type}(N:Nat):KasT α->(α->Prop)->Prop| .ret a,P=>P a| .ask i j k,P=>i<N/\j<N/\∀b,dZ N (k b) P
theorem fo {α:Type}{P P':α->Prop}(h:∀a,P a->P' a):∀(t:KasT α),dZ N t P->dZ N t P'| .ret a,x=>h a x| .ask _ _ k,x=>⟨x.1,x.2.1,fun b=>fo h (k b) (x.2.2 b)⟩
theorem fq {α β:Type}{P:β->Prop}{g:α->KasT β}:∀(t:KasT α),dZ N t (fun a=>dZ N (g a) P)->dZ N (t.bind g) P| .ret _,x=>x| .ask _ _ k,x=>⟨x.1,x.2.1,fun b=>fq (k b) (x.2.2 b)⟩
def Wi (N:Nat)(p:Array Nat):Prop:=∀x∈p.toList,x<N
theorem Wi.get (h:Wi N p)(h0:0<N)(i:Nat):p.getD i 0<N:=by refine xR Array.getD_eq_getD_getElem? ?_;cases e:p[i]? with|none=>exact h0|some x=>exact h x (by rw[Array.mem_toList_iff];exact Array.mem_of_getElem? e)
theorem Wi.perm (h:Wi N p)(e:q.Perm p):Wi N q:=fun x hx=>h x ((Array.perm_iff_toList_perm.mp e).mem_iff.mp hx)
theorem Wi.rev (h:Wi N p)(i j:Nat):Wi N (kas_rev p i j):=h.perm (mirror_perm _ _ _ _)
theorem Wi.Yo (h:Wi N p)(i j:Nat):Wi N (bubble p i j):=h.perm (bubble_perm _ _ _)
theorem yH (h:Wi N p)(h0:0<N):∀(f n:Nat),dZ N (kas_asc p f n) fun x=>True:=by
 intro f;induction f with
 |zero=>intro _;exact trivial
 |succ f ih=>intro n;exact⟨h.get h0 _,h.get h0 _,fun b=>by(rcases b with⟨⟩;(case true=>exact trivial);(case false=>exact ih (n+1)))⟩
theorem CV (h0:0<N):∀(f:Nat)(p:Array Nat)(n q:Nat),Wi N p->dZ N (kas_desc f p n q) fun r=>Wi N r.1:=by
 intro f;induction f with
 |zero=>intro p n q h;exact h
 |succ f ih=>
  intro p n q h;exact⟨h.get h0 _,h.get h0 _,fun b=>by
  rcases b with⟨⟩;case true=>
   show dZ N (if q>0 then _ else _) _;split
   ·exact ih _ _ _ (h.rev _ _)
   ·exact ih _ _ _ h
  case false=>exact⟨h.get h0 _,h.get h0 _,fun d=>by
    rcases d with⟨⟩;case true=>exact h
    case false=>exact ih _ _ _ h⟩⟩
theorem qi (h0:0<N)(h:Wi N p)(n m:Nat):dZ N (kas_tail3 n m p) fun r=>Wi N r.2:=fq _ (fo (fun x x=>h.rev _ _) _ (yH (h.rev _ _) h0 _ _))
theorem lG (h0:0<N)(h:Wi N p)(n m:Nat):dZ N (kas_descPart n m p) fun r=>Wi N r.2:=fq _ (fo (fun r hr=>by
  show dZ N (if r.2.2>0 then _ else _) _;split
  ·exact qi h0 (hr.rev _ _) _ _
  ·exact qi h0 hr _ _) _ (CV h0 _ _ _ _ h))
theorem Af (h0:0<N)(h:Wi N p)(m:Nat):dZ N (kas_count m p) fun r=>Wi N r.2:=fq _ (fo (fun n x=>by
  show dZ N (if(n==m)=true then _ else _) _;split
  ·exact h
  ·split
   ·refine⟨h.get h0 _,h.get h0 _,fun b=>?_⟩;rcases b with⟨⟩;case true=>exact h
    case false=>exact lG h0 (h.rev _ _) _ _
   ·exact lG h0 h _ _) _ (yH h h0 _ _))
theorem zm (h0:0<N)(h:Wi N p)(k:Nat):∀(f l u:Nat),dZ N (kas_place p k f l u) fun x=>True:=by
 intro f;induction f with
 |zero=>intro _ _;exact trivial
 |succ f ih=>
  intro l u;unfold kas_place;split
  ·exact trivial
  ·refine⟨h.get h0 _,h.get h0 _,fun b=>?_⟩;rcases b with⟨⟩;case true=>exact ih _ _
   case false=>exact ih _ _
theorem Gn (h0:0<N):∀(f:Nat)(p:Array Nat)(k:Nat),Wi N p->dZ N (kas_bin f p k) fun p=>Wi N p:=by intro f;induction f with|zero=>intro p k h;exact h|succ f ih=>intro p k h;exact fq _ (fo (fun l x=>ih _ _ (h.Yo _ _)) _ (zm h0 h k _ _ _))
theorem tE (h0:0<N):dZ N (kas_sort N) fun p=>Wi N p:=fq _ (fo (fun r hr=>by
  show dZ N (if r.1<N then _ else _) _;split
  ·exact Gn h0 _ _ _ hr
  ·exact hr) _ (Af h0 (fun x hx=>by simpa using hx) N))
theorem qS {α:Type}{P:α->Prop}(h:∀i j,i<N->j<N->f i j=g i j):∀(t:KasT α),dZ N t P->fk f t=fk g t| .ret _,_=>rfl| .ask i j k,x=>by rw[kf,kf,h i j x.1 x.2.1];exact qS h (k (g i j)) (x.2.2 _)
def cY (f:Nat->Nat->Bool)(N:Nat):List Nat:=if N<2 then List.range N else(fk f (kas_sort N)).toList
end
section
variable {r:Nat->Nat} {p:Array Nat} {N:Nat}
noncomputable def fV (r:Nat->Nat)(i j:Nat):Bool:=decide (r i<r j)
theorem prec.trans (a:prec r x y)(b:prec r y z):prec r x z:=by unfold prec at *;exact AG 0x5204024400553041244105320102410053 rfl a b
def GN (r:Nat->Nat)(p:Array Nat)(m:Nat):Prop:=∀i j,i<j->j<m->prec r (p.getD i 0) (p.getD j 0)
def uy (p:Array Nat)(N m:Nat):Prop:=(∀i,m<=i->i<N->p.getD i 0=i)/\∀i,i<m->p.getD i 0<m
theorem dy (hj:j<=p.size)(k:Nat):(kas_rev p i j).getD k 0=if i<=k/\k<j then p.getD (i+j-1-k) 0 else p.getD k 0:=by simp only[Array.getD_eq_getD_getElem?];have e:=getElem?_mirror_all (xs:=p) (i:=i) hj k;unfold kas_rev;refine xR e ?_;split<;>rfl
theorem FA (hs:src<p.size)(hd:d<=src)(k:Nat):(bubble p src d).getD k 0=if k=src-d then p.getD src 0 else if src-d<k/\k<=src then p.getD (k-1) 0 else p.getD k 0:=by
 simp only[Array.getD_eq_getD_getElem?];refine xR (getElem?_bubble hs d hd k) ?_;split
 ·rfl
 ·split<;>rfl
theorem GA:∀(f n:Nat),GN r p n->uy p N n->1<=n->n+f<=N->∃m,fk (fV r) (kas_asc p f n)=m/\GN r p m/\uy p N m/\n<=m/\m<=n+f/\(m<n+f->r (p.getD m 0)<r (p.getD (m-1) 0)):=by
 intro f;induction f with
 |zero=>intro n hs hr h1 hn;exact⟨n,rfl,hs,hr,ZQ _,ZQ _,fun h=>absurd h (bC 0x80b0031 rfl)⟩
 |succ f ih=>
  intro n hs hr h1 hn;rw[show fk (fV r) (kas_asc p (f+1) n)=fk (fV r) (if fV r (p.getD n 0) (p.getD (n-1) 0)=true then .ret n else kas_asc p f (n+1))from rfl];by_cases hc:r (p.getD n 0)<r (p.getD (n-1) 0)
  ·have:fV r (p.getD n 0) (p.getD (n-1) 0)=true:=decide_eq_true hc;rw[this];rw[Z1 rfl];exact⟨n,rfl,hs,hr,ZQ _,by exact aR 0x91b0b011 rfl,fun x=>hc⟩
  ·have:fV r (p.getD n 0) (p.getD (n-1) 0)=false:=decide_eq_false hc;rw[this];rw[ZX ZZ];have JW:=hr.1 n (ZQ _) (aX 0x200291b0b12 rfl hn);have hl:=hr.2 (n-1) (bC 0x90c00912 rfl h1);have J0:prec r (p.getD (n-1) 0) (p.getD n 0):=by unfold prec;exact r8 0x2400124010534032210034 rfl hc JW hl
   have xZ:GN r p (n+1):=fun i j fP hj=>by
    by_cases e:j=n
    ·subst e;by_cases e2:i=j-1
     ·subst e2;exact J0
     ·exact(hs i (j-1) (aR 0x91c0091c0231003 rfl fP e2) (aR 0x191c01002 rfl hl)).trans J0
    ·exact hs i j fP (aR 0x100102391b003 rfl hj e)
   have sI:uy p N (n+1):=⟨fun i hi hl=>hr.1 i (aR 0x101190b12 rfl hi) hl,fun i hi=>by
    by_cases e:i=n
    ·subst e;exact aR 0x91b001022 rfl JW
    ·have:=hr.2 i (aR 0x100102391b003 rfl hi e);exact aR 0x91b001002 rfl this⟩
   refine Bx (ih (n+1) xZ sI (bC 0x90b911 rfl) (aX 0x2190bb1291b0b12 rfl hn)) fun m e a1 a2 a3 a4 a5=>?_;exact⟨m,e,a1,a2,by exact aR 0x101190b12 rfl a3,by exact aX 0x92b1b01291bb012 rfl a4,fun h=>a5 (aX 0x291bb0092b1b002 rfl h)⟩
structure RE (r:Nat->Nat) (p:Array Nat) (n q:Nat):Prop where
 lt:q<n
 a:∀i j,i<j->j<n-(q+1)->prec r (p.getD j 0) (p.getD i 0)
 b:∀i j,i<n-(q+1)->n-(q+1)<=j->j<n->r (p.getD j 0)<r (p.getD i 0)
 c:∀i j,i<j->n-(q+1)<=i->j<n->p.getD i 0<p.getD j 0/\r (p.getD i 0)=r (p.getD j 0)
theorem RE.rev (h:RE r p n q)(hn:n<=p.size):∀i j,i<j->j<n->prec r ((kas_rev p (n-(q+1)) n).getD j 0) ((kas_rev p (n-(q+1)) n).getD i 0):=fun i j fP hj=>by
 have hq:=h.lt;refine xR (dy hn _) (xR (dy hn _) ?_);by_cases h1:n-(q+1)<=i
 ·refine xR (Z1 ⟨by exact cZ 0x193b2c1093b2c11003 rfl fP h1,hj⟩) (xR (Z1 ⟨h1,by exact aX 0x2002101003 rfl fP hj⟩) ?_);have:=h.c (n-(q+1)+n-1-j) (n-(q+1)+n-1-i) (cZ 0x9293b2cbcc19293b2cbcc02101003 rfl fP hj) (aX 0x9192b1cbcc92b1c11002 rfl hj) (aX 0x129190b1cbcc0290b1c11003 rfl hq h1);unfold prec;exact cZ 0x1003224320532210042 rfl this
 ·by_cases h2:n-(q+1)<=j
  ·refine xR (Z1 ⟨h2,hj⟩) (xR (ZX (aX 0x20291b0c143291b0c132 rfl h1)) ?_);have:=h.b i (n-(q+1)+n-1-j) (aX 0x91b0c20291b0c132 rfl h1) (aX 0x9192b1cbcc92b1c11002 rfl hj) (cZ 0x39091b0cbcc0391b0c1291b0c133 rfl h1 h2);unfold prec;exact cZ 0x320102410051002 rfl this
  ·refine xR (ZX (aX 0x20291b0c143291b0c132 rfl h2)) (xR (ZX (aX 0x20291b0c143291b0c132 rfl h1)) ?_);exact h.a i j fP (aX 0x91b0c20291b0c132 rfl h2)
theorem uy.rev (h:uy p N n)(hn:n<=p.size):uy (kas_rev p i n) N n:=⟨fun k hk hl=>by
 rw[dy hn,ZX (by exact aX 0x10121431012 rfl hk)];exact h.1 k hk hl,fun k hk=>by
 refine xR (dy hn _) ?_;split
 ·exact h.2 _ (aX 0x21920bcc021010142 rfl (by assumption))
 ·exact h.2 _ hk⟩
theorem IY:∀(f:Nat)(p:Array Nat)(n q:Nat),p.size=N->RE r p n q->uy p N n->n+f<=N->∃p' n' q',fk (fV r) (kas_desc f p n q)=(p',n',q')/\p'.size=N/\RE r p' n' q'/\uy p' N n'/\n<=n'/\n'<=N:=by
 intro f;induction f with
 |zero=>intro p n q hz hd hr hn;exact⟨p,n,q,rfl,hz,hd,hr,ZQ _,by exact aR 0x101180b12 rfl hn⟩
 |succ f ih=>
  intro p n q hz hd hr hn;have hq:=hd.lt;rw[show fk (fV r) (kas_desc (f+1) p n q)=fk (fV r) (if fV r (p.getD n 0) (p.getD (n-1) 0)=true then(if q>0 then kas_desc f (kas_rev p (n-(q+1)) n) (n+1) 0 else kas_desc f p (n+1) 0)else .ask (p.getD (n-1) 0) (p.getD n 0) fun d=>if d=true then .ret (p,n,q)else kas_desc f p (n+1) (q+1))from rfl];have JW:=hr.1 n (ZQ _) (aX 0x200291b0b12 rfl hn);have Ip:∀j,n-(q+1)<=j->j<n->r (p.getD j 0)=r (p.getD (n-1) 0):=fun j h1 h2=>by
   by_cases e:j=n-1
   ·rw[e]
   ·exact(hd.c j (n-1) (aR 0x91c0091c0231003 rfl h2 e) h1 (aR 0x191c01002 rfl h2)).2
  have o4:∀{p':Array Nat},uy p' N n->uy p' N (n+1):=fun hr=>⟨fun i hi hl=>hr.1 i (aR 0x101190b12 rfl hi) hl,fun i hi=>by
    by_cases e:i=n
    ·subst e;have:=hr.1 i (ZQ _) (aX 0x200291b0b12 rfl hn);exact aR 0x91b001022 rfl this
    ·have:=hr.2 i (aR 0x100102391b003 rfl hi e);exact aR 0x91b001002 rfl this⟩
  by_cases hc:r (p.getD n 0)<r (p.getD (n-1) 0)
  ·have:fV r (p.getD n 0) (p.getD (n-1) 0)=true:=decide_eq_true hc;rw[this];rw[Z1 rfl];have low:∀i,i<n->r (p.getD n 0)<r (p.getD i 0):=fun i hi=>by
    by_cases h1:n-(q+1)<=i
    ·rw[Ip i h1 hi];exact hc
    ·have:=hd.b i (n-1) (aX 0x91b0c20291b0c132 rfl h1) (aR 0x90c91b0c11 rfl) (aX 0x90c0291b0c132 rfl h1);exact aX 0x2002101003 rfl hc this
   split
   ·have xX:(kas_rev p (n-(q+1)) n).size=N:=(kas_rev_size _ _).trans hz;refine(fun⟨p',n',q',a1,a2,a3,a4,a5,a6⟩=>⟨p',n',q',a1,a2,a3,a4,by exact aR 0x101190b12 rfl a5,a6⟩) (ih (kas_rev p (n-(q+1)) n) (n+1) 0 xX ⟨by exact bC 0x90b801 rfl,fun i j fP hj=>hd.rev (cZ 0x21193b2b11023 rfl hz hn) i j fP (aR 0x10098b91bc002 rfl hj),fun i j hi hj Mi=>?_,fun i j fP hi hj=>Q2 0x652430492b10098b92bc11004 rfl fP hi hj⟩ (o4 (hr.rev (cZ 0x21193b2b11023 rfl hz hn))) (aX 0x2190bb1291b0b12 rfl hn));have e:j=n:=aR 0x1290b10198b90bc13 rfl hj Mi;subst e;rw[dy (by exact cZ 0x21193b2b11023 rfl hz hn),ZX (by exact aR 0x91b0c1431 rfl),dy (by exact cZ 0x21193b2b11023 rfl hz hn)];split
    ·exact low _ (aX 0x29091b0cbcc0020291b0c142 rfl (by assumption))
    ·exact low _ (aR 0x10098b91bc002 rfl hi)
   ·have SM:q=0:=bC 0x80208032 rfl (by assumption);subst SM;refine(fun⟨p',n',q',a1,a2,a3,a4,a5,a6⟩=>⟨p',n',q',a1,a2,a3,a4,by exact aR 0x101190b12 rfl a5,a6⟩) (ih p (n+1) 0 hz ⟨by exact bC 0x90b801 rfl,fun i j fP hj=>?_,fun i j hi hj Mi=>?_,fun i j fP hi hj=>Q2 0x652430492b10098b92bc11004 rfl fP hi hj⟩ (o4 hr) (aX 0x2190bb1291b0b12 rfl hn))
    ·by_cases e:j=n-1
     ·subst e;have:=hd.b i (n-1) (by assumption) (bC 0x90c98b0c11 rfl) (bC 0x90c098b90bc90c02 rfl hj);exact .inl this
     ·exact hd.a i j fP (aR 0x98b1c0091c02398b91bc003 rfl hj e)
    ·have e:j=n:=aR 0x1290b10198b90bc13 rfl hj Mi;subst e;exact low _ (aR 0x10098b91bc002 rfl hi)
  ·have:fV r (p.getD n 0) (p.getD (n-1) 0)=false:=decide_eq_false hc;rw[this];rw[ZX ZZ];rw[kf];by_cases yP:r (p.getD (n-1) 0)<r (p.getD n 0)
   ·have:fV r (p.getD (n-1) 0) (p.getD n 0)=true:=decide_eq_true yP;rw[this];rw[Z1 rfl];exact⟨p,n,q,rfl,hz,hd,hr,ZQ _,by exact aX 0x201291b0b12 rfl hn⟩
   ·have:fV r (p.getD (n-1) 0) (p.getD n 0)=false:=decide_eq_false yP;rw[this];rw[ZX ZZ];have vB:n+1-(q+1+1)=n-(q+1):=aR 0x91b0c991bb90bc21 rfl;refine(fun⟨p',n',q',a1,a2,a3,a4,a5,a6⟩=>⟨p',n',q',a1,a2,a3,a4,by exact aR 0x101190b12 rfl a5,a6⟩) (ih p (n+1) (q+1) hz ⟨by exact aR 0x91b90b01002 rfl hq,fun i j fP hj=>hd.a i j fP (aX 0x92b1c00992bb91bc002 rfl hj),fun i j hi hj Mi=>?_,fun i j fP hi hj=>?_⟩ (o4 hr) (aX 0x2190bb1291b0b12 rfl hn))
    ·rw[vB]at hi hj;by_cases e:j=n
     ·subst e;have:=hd.b i (j-1) hi (aR 0x90c91b0c11 rfl) (aX 0x191c092b1c002 rfl hi);exact aX 0x21020010033 rfl yP this
     ·exact hd.b i j hi hj (aR 0x100102391b003 rfl Mi e)
    ·rw[vB]at hi;by_cases e:j=n
     ·subst e;have h1:=hr.2 i fP;have h2:=Ip i hi fP;exact AG 0x2520404352140230332031026 rfl JW hc yP h1 h2
     ·exact hd.c i j fP hi (aR 0x100102391b003 rfl hj e)
theorem wQ (hz:p.size=N)(hd:∀i j,i<j->j<n->prec r (p.getD j 0) (p.getD i 0))(hr:uy p N n)(h1:1<=n)(hn:n<=N):∃m p',fk (fV r) (kas_tail3 n N p)=(m,p')/\p'.size=N/\GN r p' m/\uy p' N m/\1<=m/\m<=N:=by
 unfold kas_tail3;refine xR (gu _) ?_;have hs:GN r (kas_rev p 0 n) n:=fun i j fP hj=>by rw[dy (by exact aX 0x211211023 rfl hz hn),dy (by exact aX 0x211211023 rfl hz hn),Z1 ⟨by exact bC 0x811 rfl,by exact aX 0x2002101003 rfl fP hj⟩,Z1 ⟨by exact bC 0x811 rfl,hj⟩];exact hd _ _ (aX 0x928bcc1928bcc02101003 rfl fP hj) (aX 0x12918bcc01002 rfl hj)
 refine Bx (GA (N-n) n hs (hr.rev (aX 0x211211023 rfl hz hn)) h1 (aR 0x101c0b11012 rfl hn)) fun m e a1 a2 a3 a4 x=>?_;refine xR e ?_;exact⟨m,_,rfl,(kas_rev_size _ _).trans hz,a1,a2,by exact aR 0x1911010913 rfl h1 a3,by exact aX 0x12101c0b211013 rfl hn a4⟩
theorem o9 (hz:p.size=N)(hd:∀i j,i<j->j<n->prec r (p.getD j 0) (p.getD i 0))(hr:uy p N n)(h1:1<=n)(hn:n<N)(S8:∀i,i<n->r (p.getD n 0)<r (p.getD i 0)):∃m p',fk (fV r) (kas_descPart n N p)=(m,p')/\p'.size=N/\GN r p' m/\uy p' N m/\1<=m/\m<=N:=by
 unfold kas_descPart;refine xR (gu _) ?_;have CB:uy p N (n+1):=⟨fun i hi hl=>hr.1 i (aR 0x101190b12 rfl hi) hl,fun i hi=>by
    by_cases e:i=n
    ·subst e;have:=hr.1 i (ZQ _) (by assumption);exact aR 0x91b001022 rfl this
    ·have:=hr.2 i (aR 0x100102391b003 rfl hi e);exact aR 0x91b001002 rfl this⟩
 refine uA (IY (r:=r) (N-(n+1)) p (n+1) 0 hz ⟨by exact bC 0x90b801 rfl,fun i j fP hj=>hd i j fP (aR 0x10098b91bc002 rfl hj),fun i j hi hj Mi=>by have e:j=n:=aR 0x1290b10198b90bc13 rfl hj Mi;cases e;exact S8 i (aR 0x10098b91bc002 rfl hi),fun i j fP hi hj=>Q2 0x652430492b10098b92bc11004 rfl fP hi hj⟩ CB (aR 0x190b1c90bb11002 rfl hn)) fun p' n' q' e a1 a2 a3 y0=>?_;refine aL y0 fun a4 a5=>?_;refine xR e ?_;dsimp only;split
 ·exact wQ ((kas_rev_size _ _).trans a1) (a2.rev (aX 0x211211023 rfl a1 a5)) (a3.rev (aX 0x211211023 rfl a1 a5)) (aR 0x191190b12 rfl a4) a5
 ·have SM:q'=0:=bC 0x80208032 rfl (by assumption);subst SM;refine wQ a1 (fun i j fP hj=>?_) a3 (aR 0x191190b12 rfl a4) a5;by_cases e:j=n'-1
  ·subst e;exact .inl (a2.b i (n'-1) (by assumption) (bC 0x90c98b0c11 rfl) (by assumption))
  ·exact a2.a i j fP (aR 0x98b1c0091c0231003 rfl hj e)
theorem jo (h:i<N):(List.toArray (List.range N)).getD i 0=i:=by simp[Array.getD_eq_getD_getElem?,h]
theorem F5 (h1:1<=N):∃m p',fk (fV r) (kas_count N (List.toArray (List.range N)))=(m,p')/\p'.size=N/\GN r p' m/\uy p' N m/\1<=m/\m<=N:=by
 have hz:(List.toArray (List.range N)).size=N:=by simp
 have hr:∀n,n<=N->uy (List.toArray (List.range N)) N n:=fun n hn=>⟨fun i x hl=>jo hl,fun i hi=>by refine xR (jo (aX 0x1200201013 rfl hn hi)) ?_;exact hi⟩;unfold kas_count;simp only[gu];refine Bx (GA (r:=r) (p:=List.toArray (List.range N)) (N-1) 1 (fun i j fP hj=>(aR 0x69101003 rfl fP hj).elim) (hr 1 h1) (ZQ _) (bC 0x90c9b10912 rfl h1)) fun m e a1 a2 a3 a4 a5=>?_;refine xR e ?_;by_cases hm:m=N
 ·refine xR (Z1 (beq_iff_eq.mpr hm)) ?_;exact⟨m,_,rfl,hz,a1,a2,by exact bC 0x910912 rfl a3,by exact aR 0x1011022 rfl hm⟩
 ·refine xR (ZX (by rw[beq_iff_eq];exact hm)) ?_;have pD:=a5 (aR 0x90c9b10012390c9b110914 rfl h1 a4 hm);split
  ·rename_i zU;rw[kf];by_cases hc:r ((List.toArray (List.range N)).getD 0 0)<r ((List.toArray (List.range N)).getD (m-1) 0)
   ·have:fV r ((List.toArray (List.range N)).getD 0 0) ((List.toArray (List.range N)).getD (m-1) 0)=true:=decide_eq_true hc;refine xR this ?_;refine xR (Z1 rfl) ?_;exact⟨m,_,rfl,hz,a1,a2,by exact bC 0x910902 rfl zU,by exact aR 0x10109091c9b013 rfl a4 zU⟩
   ·have:fV r ((List.toArray (List.range N)).getD 0 0) ((List.toArray (List.range N)).getD (m-1) 0)=false:=decide_eq_false hc;refine xR this ?_;refine xR (ZX ZZ) ?_;have heq:∀i,i<m->r ((List.toArray (List.range N)).getD i 0)=r ((List.toArray (List.range N)).getD (m-1) 0):=fun i hi=>by
     have h0:r ((List.toArray (List.range N)).getD 0 0)<=r ((List.toArray (List.range N)).getD i 0):=by
      by_cases e:i=0
      ·refine xR e ?_;exact ZQ _
      ·have:=a1 0 i (bC 0x8080232 rfl e) hi;unfold prec at this;exact cZ 0x101320102410052 rfl this
     have h2:r ((List.toArray (List.range N)).getD i 0)<=r ((List.toArray (List.range N)).getD (m-1) 0):=by
      by_cases e:i=m-1
      ·refine xR e ?_;exact ZQ _
      ·have:=a1 i (m-1) (aR 0x91c0091c0231003 rfl hi e) (aR 0x191c01002 rfl hi);unfold prec at this;exact cZ 0x101320102410052 rfl this
     exact aX 0x12212120110034 rfl hc h0 h2
    refine o9 ((kas_rev_size _ _).trans hz) (fun i j fP hj=>?_) (a2.rev (aX 0x2129091c9b211024 rfl hz a4 zU)) (bC 0x910902 rfl zU) (aR 0x100090102391c9b014 rfl a4 hm zU) (fun i hi=>?_)
    ·rw[dy (by exact aX 0x2129091c9b211024 rfl hz a4 zU),dy (by exact aX 0x2129091c9b211024 rfl hz a4 zU),Z1 ⟨by exact bC 0x811 rfl,hj⟩,Z1 ⟨by exact bC 0x811 rfl,by exact aX 0x2002101003 rfl fP hj⟩];have:=heq (0+m-1-j) (aR 0x10918bcc01002 rfl hj);have:=heq (0+m-1-i) (aX 0x12918bcc01002 rfl hj);have e1:=jo (N:=N) (i:=0+m-1-j) (aX 0x12908bcc009091c9b013 rfl a4 zU);have e2:=jo (N:=N) (i:=0+m-1-i) (aX 0x12908bcc009091c9b013 rfl a4 zU);unfold prec;exact Ni 0x760532453050928bcc721928bcc624524322101007 rfl fP hj (by assumption) this e1 e2
    ·rw[dy (by exact aX 0x2129091c9b211024 rfl hz a4 zU),dy (by exact aX 0x2129091c9b211024 rfl hz a4 zU),ZX (by exact bC 0x81431 rfl),Z1 ⟨by exact bC 0x811 rfl,hi⟩];have:=heq (0+m-1-i) (aR 0x10918bcc01002 rfl hi);exact aX 0x2001221003 rfl pD this
  ·rename_i zU;have SY:m=1:=bC 0x90209030913 rfl a3 zU;subst SY;refine o9 hz (fun i j fP hj=>(aR 0x69101003 rfl fP hj).elim) a2 (by omega(config:={})) (bC 0x9009230913 rfl h1 hm) (fun i hi=>?_);have e:i=0:=bC 0x8029002 rfl hi;subst e;exact pD
theorem Ek (hs:GN r p k):∀(f l u:Nat),l<=u->u<=k->u-l<=f->(∀i,i<l->r (p.getD i 0)<=r (p.getD k 0))->(∀i,u<=i->i<k->r (p.getD k 0)<r (p.getD i 0))->∃m,fk (fV r) (kas_place p k f l u)=m/\m<=k/\(∀i,i<m->r (p.getD i 0)<=r (p.getD k 0))/\∀i,m<=i->i<k->r (p.getD k 0)<r (p.getD i 0):=by
 intro f;induction f with
 |zero=>intro l u h1 h2 h3 hl hu;exact⟨l,rfl,by exact aX 0x2012111013 rfl h1 h2,hl,fun i hi hk=>hu i (aX 0x201211810c13 rfl h3 hi) hk⟩
 |succ f ih=>
  intro l u h1 h2 h3 hl hu;rw[show kas_place p k (f+1) l u=(if l>=u then .ret l else .ask (p.getD k 0) (p.getD ((l+u)/2) 0) fun c=>if c=true then kas_place p k f l ((l+u)/2)else kas_place p k f ((l+u)/2+1) u)from rfl];split
  ·exact⟨l,rfl,by exact aX 0x2012111013 rfl h1 h2,hl,fun i hi hk=>hu i (aX 0x2012111013 rfl (by assumption) hi) hk⟩
  ·rw[kf];by_cases hc:r (p.getD k 0)<r (p.getD ((l+u)/2) 0)
   ·have:fV r (p.getD k 0) (p.getD ((l+u)/2) 0)=true:=decide_eq_true hc;rw[this];rw[Z1 rfl];refine ih l ((l+u)/2) (cZ 0x21102a3001b3202db210134 rfl (by assumption) (Nat.div_add_mod (l+u) (2)) (Nat.mod_lt (l+u) (Nat.le_of_ble_eq_true rfl:2>0))) (r8 0x13102b4302db220131014 rfl h2 (by assumption) (Nat.div_add_mod (l+u) (2))) (r8 0x213c101b4302db292b10c13 rfl h3 (Nat.div_add_mod (l+u) (2))) hl fun i hi hk=>?_;by_cases e:i=(l+u)/2
    ·rw[e];exact hc
    ·have:=hs ((l+u)/2) i (aR 0x10001231013 rfl hi e) hk;unfold prec at this;exact r8 0x200430212421051003 rfl hc this
   ·have:fV r (p.getD k 0) (p.getD ((l+u)/2) 0)=false:=decide_eq_false hc;rw[this];rw[ZX ZZ];refine ih ((l+u)/2+1) u (cZ 0x92b101b3202db210133 rfl (by assumption) (Nat.div_add_mod (l+u) (2))) (aR 0x1011012 rfl h2) (r8 0x293b0c102a4001b4302db292b10c14 rfl h3 (Nat.div_add_mod (l+u) (2)) (Nat.mod_lt (l+u) (Nat.le_of_ble_eq_true rfl:2>0))) (fun i hi=>?_) hu;by_cases e:i=(l+u)/2
    ·rw[e];exact aR 0x1110032 rfl hc
    ·have:=hs i ((l+u)/2) (aR 0x100102391b003 rfl hi e) (r8 0x13002b4302db220131014 rfl h2 (by assumption) (Nat.div_add_mod (l+u) (2)));unfold prec at this;exact r8 0x214301224120510033 rfl hc this
theorem Aw:∀(f:Nat)(p:Array Nat)(k:Nat),p.size=N->GN r p k->uy p N k->k+f=N->∃p',fk (fV r) (kas_bin f p k)=p'/\p'.size=N/\GN r p' N/\uy p' N N:=by
 intro f;induction f with
 |zero=>intro p k hz hs hr hk;have:k=N:=aR 0x102180b22 rfl hk;subst this;exact⟨p,rfl,hz,hs,hr⟩
 |succ f ih=>
  intro p k hz hs hr hk;rw[show kas_bin (f+1) p k=(kas_place p k k 0 k).bind fun l=>kas_bin f (bubble p k (k-l)) (k+1)from rfl,gu];refine yR (Ek hs k 0 k (Nat.zero_le _) (ZQ _) (bC 0x80c11 rfl) (fun i hi=>aX 0x2118002 rfl hi) (fun i hi hk=>cZ 0x3200101013 rfl hi hk)) fun l e b1 b2 b3=>?_;rw[e];have Rk:=hr.1 k (ZQ _) (aX 0x200291b0b22 rfl hk);have hb:∀i,(bubble p k (k-l)).getD i 0=if i=l then p.getD k 0 else if l<i/\i<=k then p.getD (i-1) 0 else p.getD i 0:=fun i=>by rw[FA (by exact cZ 0x20193b2b21023 rfl hz hk) (by exact aR 0x10c11 rfl)];have:k-(k-l)=l:=aR 0x1c1c21012 rfl b1;rw[this]
  refine ih (bubble p k (k-l)) (k+1) ((bubble_size _ _ _).trans hz) (fun i j fP hj=>?_) ⟨fun i hi hl=>?_,fun i hi=>?_⟩ (aX 0x2190bb2291b0b22 rfl hk)
  ·rw[hb,hb];by_cases h1:j=l
   ·rw[ZX (show ¬i=l by exact aX 0x20232121003 rfl fP h1),ZX (show ¬(l<i/\i<=k) by exact cZ 0x301020432121003 rfl fP h1),Z1 h1];have h2:=b2 i (aX 0x2002121003 rfl fP h1);have h3:=hr.2 i (aX 0x20092b101003 rfl fP hj);unfold prec;exact r8 0x40322432051403211024 rfl Rk h2 h3
   ·by_cases h2:i=l
    ·rw[Z1 h2,ZX h1,Z1 ⟨by exact aX 0x1202021003 rfl fP h2,by exact aR 0x10191b002 rfl hj⟩];exact .inl (b3 (j-1) (aX 0x91c212021003 rfl fP h2) (aX 0x291c092b101003 rfl fP hj))
    ·rw[ZX h2,ZX h1];by_cases h3:l<i
     ·rw[Z1 ⟨h3,by exact aX 0x20192b101003 rfl fP hj⟩,Z1 ⟨by exact aX 0x1200201003 rfl fP h3,by exact aR 0x10191b002 rfl hj⟩];exact hs _ _ (aX 0x91c90c00201003 rfl fP h3) (aX 0x291c092b101003 rfl fP hj)
     ·rw[ZX (show ¬(l<i/\i<=k) by exact aX 0x2111004310032 rfl h3)];split
      ·exact hs _ _ (cZ 0x92c003212104010310234 rfl h2 h3 (by assumption)) (aX 0x291c021110042 rfl (by assumption))
      ·exact hs _ _ (by assumption) (aX 0x12012120043022391b201015 rfl b1 hj h1 (by assumption))
  ·rw[hb,ZX (by exact aX 0x223291b11013 rfl b1 hi),ZX (by exact aX 0x1112043190b12 rfl hi)];exact hr.1 i (aR 0x101190b12 rfl hi) hl
  ·rw[hb];split
   ·exact aR 0x91b001022 rfl Rk
   ·split
    ·have:=hr.2 (i-1) (aX 0x291c021110042 rfl (by assumption));exact aR 0x91b001002 rfl this
    ·have:=hr.2 i (aX 0x12012120043022391b201015 rfl b1 hi (by assumption) (by assumption));exact aR 0x91b001002 rfl this
theorem uN (h1:1<=N):∃p',fk (fV r) (kas_sort N)=p'/\p'.size=N/\GN r p' N/\uy p' N N:=by
 unfold kas_sort;simp only[gu];refine DE (F5 (r:=r) h1) fun m p' e a1 a2 a3 a4 a5=>?_;refine xR e ?_;dsimp only;split
 ·have:max m 1=m:=bC 0x90cf20912 rfl a4;refine xR this ?_;exact Aw _ p' m a1 a2 a3 (aR 0x101c0b21002 rfl (by assumption))
 ·have:m=N:=aR 0x10210031013 rfl a5 (by assumption);subst this;exact⟨p',rfl,a1,a2,a3⟩
theorem zb (hf:∀i j,i<N->j<N->f i j=decide (r i<r j)):(cY f N).length=N/\(∀x∈cY f N,x<N)/\(cY f N).Pairwise (prec r):=by
 unfold cY;split
 ·rename_i h;refine⟨by simp,fun x hx=>by simpa using hx,?_⟩;match N,h with|0,_=>exact .nil|1,_=>exact List.pairwise_singleton _ _
 ·rename_i h;have e:fk f (kas_sort N)=fk (fV r) (kas_sort N):=qS hf _ (tE (bC 0x8002a0032 rfl h));refine xR e ?_;refine yR (uN (r:=r) (N:=N) (bC 0x9102a0032 rfl h)) fun p' e' a1 a2 a3=>?_;refine xR e' ?_;refine⟨by simp[a1],fun x hx=>?_,?_⟩
  ·obtain⟨i,hi,rfl⟩:=List.getElem_of_mem hx;have ly:i<p'.size:=by simpa using hi
   have:=a3.2 i (aX 0x1200201023 rfl a1 ly);simpa[Array.getD_eq_getD_getElem?,ly]using this
  ·rw[List.pairwise_iff_getElem];intro i j hi hj fP;have ly:i<p'.size:=by simpa using hi
   have U2:j<p'.size:=by simpa using hj
   have:=a2 i j fP (aX 0x1200201023 rfl a1 U2);simpa[Array.getD_eq_getD_getElem?,ly,U2]using this
end
end Ks
end Mine.Internal
namespace Mine.Internal
open PySem PySem.W PyProof.Rows
variable {C:Cx} {A:Around} {E:Value->Shared->Prop} {s s' fM s₀:Shared} {vol aj W W' W₀:Addr->Prop} {env:Env} {sc bD:Scope} {vars vars' V V':az} {n k i:Nat} {Φ:gq} {ad:Str->Addr} {prog:Program} {w:World} {h h':Heap} {o:Obj} {a I D L:Addr} {d:Dat} {v u:Value} {ds:List Dat} {vs:List Value} {x:Str} {t value:Expr} {pos p:Pos} {Q:Value->Shared->Prop} {K:Env->Around->Prop}
section
variable {dQ:Scope} {K:Env->Prop}
def yM (s:Shared)(a c:Int)(n:Nat)(res:Result)(s':Shared):Prop:=∃h' tk acc c',res=.ok (.ret (.ref s.heap.objs.size))/\s'={s with heap:=h',toks:=tk}/\(∀b o,s.heap.get? b=some o->h'.get? b=some o)/\h'.get? s.heap.objs.size=some {cls:=.type "list",dict:=none,data:=.seq acc c',slots:= #[]}/\ItemsOf (fun i v=>∃t,v=.int (a+i*c) t) acc n
theorem sQ {a b c:Int}{t u v:Tok}{Q:List Value->Shared->Prop}(hh:A.handled=none)(hr:IsRange s.heap r a b c t u v)(L6:Builtin.Range.small a b c=true)(hn:Builtin.Range.rangeSize a b c=n)(hlen:n<=2^24)(hQ:∀h' tk acc,(∀b o,s.heap.get? b=some o->h'.get? b=some o)->ItemsOf (fun i v=>∃t,v=.int (a+i*c) t) acc n->Q acc.toList {s with heap:=h',toks:=tk}):wpAny (model prog w) A (collect (.ref r)) Q E s:=by
 unfold collect;have key:codeAny (model prog w) A (.builtin "proto.collect" ⟨[.ref r],[]⟩) (yM s a c n) s:=by refine codeAny_builtin entry_proto_collect' ?_;show wpAny _ _ (do again (.builtin "list.__iadd__" ⟨[<-PySem.newList [],.ref r],[]⟩)) _ _ s;refine Z8 (wpAny_newList (Z0 ⟨Code.quiet_builtin _ (by decide +kernel),codeAny_builtin entry_list_iadd' ?_⟩));show wpAny _ A.in1 (Builtin.List.listExtendWith (.ref s.heap.objs.size) (.ref r) (.ref s.heap.objs.size)) _ _ {s with heap:=s.heap.push (seqObj "list" #[] 0)};exact wpAny_extend_range (R:=yM s a c n) (s:={s with heap:=s.heap.push (seqObj "list" #[] 0)}) hh (Z3 _ hr) L6 hn hlen s.heap.objs.size _ 0 (ZO _ rfl) fun h' tk acc c' hk ho hi=>⟨h',tk,acc,c',rfl,rfl,fun b o e=>hk b o (Nat.ne_of_lt (Heap.lt_size e)) (Z3 _ e),ho,hi⟩
 refine Z8 (wpAny_runValue (codeAny_mono key fun res s' Ig=>?_));refine cL Ig ?_;clear Ig;rintro h' tk acc c' (rfl) (rfl) hk y0;refine aL y0 fun ho hi=>?_;refine Z8 (wpAny_load ho ?_);exact Z0 (hQ h' tk acc hk hi)
theorem Ex.chg {t:Nat}(x:Ex C s₀ s)(ha:s₀.heap.get? a=none)(hn:∀o,s.heap.get? a=some o->∀vs,o.data≠.fields vs)(hs:Heap.ExtBut a s.heap h'):Ex C s₀ {s with heap:=h',toks:=t}:=by
 have keep:∀{b o},s.heap.get? b=some o->b≠a->h'.get? b=some o:=fun e hb=>hs _ _ hb e;refine⟨fun b o e nt nf=>keep (x.keep b o e nt nf) fun q=>(by rw[q,ha]at e;exact aa e),fun b o f e=>?_,fun z=>?_⟩
 ·refine ax (x.nj b o f e) fun o1 e1 d1=>?_;exact⟨o1,keep e1 fun q=>(by rw[q,ha]at e;exact aa e),d1⟩
 ·have z':=x.bs z;have hT:¬C.T a:=by intro y0;refine i0 y0 fun c p q m=>?_;rcases z.tab c a p q m with e|⟨_,e,_⟩<;>(rw[ha]at e;exact aa e)
  refine⟨fun b o e nt=>keep (z'.keep b o e nt) fun q=>?_,fun c P p q m=>?_,z'.gens,z'.os,fun b f=>(z'.alive b f).data fun o e=>.of (keep e fun q=>?_)⟩
  ·have:=z.keep b o e nt;rw[q,ha]at this;exact aa this
  ·have hP:P≠a:=fun q'=>hT (q'▸⟨c,p,q,m⟩);refine Z4 (z'.tab c P p q m) (fun e=>?_) fun y1=>?_
   ·exact .inl (keep e hP)
   ·refine ax y1 fun b e r=>?_;refine .inr ⟨b,keep e hP,?_⟩;refine cL r fun b' o vs t' e1 e2 e3 e4=>?_;rcases e1 with⟨⟩;exact⟨b,o,vs,t',rfl,keep e2 (fun q=>hn o (q▸e2) vs e3),e3,e4⟩
  ·subst q;refine jJ (z.alive b f) fun o' y y e' y=>?_;rw[ha]at e';exact aa e'
theorem Ex.fresh (bs:Bs C s₀)(x:Ex C s₀ s)(h:s.heap.get? a=none):s₀.heap.get? a=none:=by
 cases e0:s₀.heap.get? a with
 |none=>rfl
 |some o=>
  exfalso;by_cases t:C.T a
  ·refine i0 t fun c2 p2 q2 m=>?_;rcases(x.bs bs).tab c2 _ p2 q2 m with e'|⟨_,e',_⟩<;>(rw[h]at e';exact aa e')
  ·refine ax (x.data e0 t) fun o' e' y=>?_;rw[h]at e';exact aa e'
set_option tactic.hygienic true in
theorem In.grow {N:Addr->Prop}(i:In C vol env vars s₀)(x:Ex C s₀ s)(hN:∀b,N b->s₀.heap.get? b=none/\∃o,s.heap.get? b=some o):In C (fun b=>vol b\/N b) env vars s:=by
 have i':=i.ex x;have V':=i'.vo;have rm:∀{v:Value}{d:Dat},Rep s₀.heap vol v d->Rep s.heap (fun b=>vol b\/N b) v d:=fun r=>r.mono fun b o e nn=>⟨x.keep b o e (fun t=>nn (i.vo.tabs b t)) fun f=>nn (i.vo.gS b f),fun z=>z.elim nn fun z=>by rw[(hN b z).1]at e;exact aa e⟩;have VU:∀{v:List Value}{d:List Dat},aH s₀.heap vol v d->aH s.heap (fun b=>vol b\/N b) v d:=fun r=>r.mono fun b o e nn=>⟨x.keep b o e (fun t=>nn (i.vo.tabs b t)) fun f=>nn (i.vo.gS b f),fun z=>z.elim nn fun z=>by rw[(hN b z).1]at e;exact aa e⟩;refine⟨i'.bs,⟨fun b t=>.inl (i.vo.tabs b t),fun b f=>.inl (i.vo.gS b f),fun b z=>z.elim (V'.there b) fun z=>(hN b z).2⟩,fun y sl hy=>?_,i'.cells⟩;refine ax (i.lo y sl hy) fun v hv hr=>?_;refine⟨v,hv.ex i.bs x,?_⟩;rcases sl with⟨⟩;case val d=>exact rm hr
 case own d=>
  obtain⟨ro,a,e,JQ,hL⟩:=hr;refine⟨?_,a,e,.inl JQ,hL⟩;rcases ro with⟨⟩;case rep r=>exact .rep (rm r)
  case list ho hc hn hd hr=>exact .list (x.keep _ _ ho (i.bs.dv ho (by rw[hd];nofun)) (i.bs.dF ho (by rw[hd];nofun))) hc hn hd (VU hr)
  case ba ho hc hd=>exact .ba (x.keep _ _ ho (i.bs.dv ho (by rw[hd];nofun)) (i.bs.dF ho (by rw[hd];nofun))) hc hd
theorem zK {a b:List Dat}{Q:Bool->Shared->Prop}(hu:A.units+100<cLine)(ra:Rep s.heap vol v (.list a))(rb:Rep s.heap vol u (.list b))(h:gi .Lt a b 0=some r)(hQ:Q r s):wpAny (model prog w) A (keyLt' oneType' v u) Q E s:=by
 refine cL (bI (.rep ra)) ?_;rintro l y0 vs k1 (rfl) ho hc y1;refine bg y1 fun hn hd hr=>?_;obtain⟨c1,d1,FX,rY⟩:=y0;refine cL (bI (.rep rb)) ?_;rintro l2 y0 ws k2 (rfl) lV yP y1;refine bg y1 fun UY hd2 qY=>?_;obtain⟨c2,d2,QE,rX⟩:=y0;simp only at hc hd yP hd2;subst hc hd yP hd2;rw[keyLt'_oneType,oneLt'_eq];simp only[if_true];refine Z8 (wpAny_cRoomFor (aR 0x100164a0b02 rfl hu) ?_);refine Z8 (wpAny_callSpecialIfBound?_slot (T:="list") ⟨_,ho,rfl⟩ PySem.F.slot_list_lt ?_);refine wpAny_call (codeAny_call_builtin PySem.F.slot_list_lt.plain PySem.F.entry_list_lt (PySem.F.slot_list_lt.check _ _ _ _ _ _ _ _ ⟨_,ho,rfl⟩ (PySem.F.args_list_lt_2 _ _) ?_));refine wpAny_mono (A1 (vol:=vol) l l2 vs.toArray ws.toArray k1 k2 d1 d2 rY rX h prog w A (fun res s'=>res=.ok (.ret (.bool r))/\s'=s) s ⟨ho,lV,by exact aR 0x150a0b0164a0b02 rfl hu,by simpa using hr,by simpa using qY,rfl,rfl⟩) (fun fin s' hf=>?_) fun x x hf=>by cases hf.1
 rcases fin with⟨⟩;case done f=>refine aL hf fun e1 e2=>?_;rcases e1 with⟨⟩;subst e2;exact wpAny_truthy_bool hQ
 case again c=>refine⟨hf.1,codeAny_mono hf.2 fun res s' Ig=>?_⟩;refine aL Ig fun e1 e2=>?_;subst e1 e2;exact wpAny_truthy_bool hQ
theorem tU {α:Type}{cmp:Nat->Nat->(Bool->Shared->Prop)->Shared->Prop}{Q:α->Shared->Prop}{P:α->Prop}(hc:∀i j(D:Bool->Shared->Prop),i<N->j<N->D (f i j) s->cmp i j D s):∀(t:KasT α),Ks.dZ N t P->Q (Ks.fk f t) s->t.kasWp cmp Q s| .ret a,_,h=>h| .ask i j k,x,h=>hc i j _ x.1 x.2.1 (tU hc (k (f i j)) (x.2.2 _) h)
theorem DG {Q:PUnit->Shared->Prop}(I:Nat->Shared->Prop):∀(vs:List Value)(i:Nat)(s:Shared),I i s->(∀j x s',vs[j]?=some x->I (i+j) s'->aK M A (body x ⟨⟩) (fun r fM=>r=.yield ⟨⟩/\I (i+j+1) fM) E s')->(∀s',I (i+vs.length) s'->Q ⟨⟩ s')->aK M A (forIn vs PUnit.unit body) Q E s:=by
 intro vs;induction vs with
 |nil=>intro i s hI _ done;rw[List.forIn_nil];exact ah (done s (by simpa using hI))
 |cons x vs ih=>
  intro i s hI step done;rw[List.forIn_cons];refine ab (aD (step 0 x s (by simp) hI) (fun r s' h'=>?_) fun z z e=>e);refine aL h' ?_;clear h';rintro(rfl) XM;show aK M A (forIn vs PUnit.unit body) Q E s';refine ih (i+1) s' XM (fun j y fM hy hJ=>?_) fun fM hd=>done fM ?_
  ·have e:i+(j+1)=i+1+j:=aR 0x190bb91b0b21 rfl;have h1:=step (j+1) y fM (by simpa using hy) (by rw[e];exact hJ);rw[e]at h1;exact h1
  ·have e:i+(x::vs).length=i+1+vs.length:=by rw[List.length_cons];exact aR 0x190bb91b0b21 rfl
   rw[e];exact hd
theorem cV.in1 (h:cV C (n+1) A):cV C n A.in1.in1:=⟨h.handled,by have:=h.depth;show A.depth+n< _;exact aX 0x210b0291b0b02 rfl this,by have:=h.units;show A.units+1+1+10*n+1000< _;exact aX 0x2000003e88f10ad990bbbb02000003e88f91b0ad0bb02 rfl this,h.frames⟩
theorem nU {ks:List Value}(hl:ks.length=vs.length){i:Nat}(hi:i<vs.length):kas_item (ks.toArray.zip vs.toArray) i=(ks.getD i .none,vs.getD i .none):=by
 have h1:i<(ks.toArray.zip vs.toArray).size:=by simp;exact aX 0x10df201201023 rfl hl hi
 have h2:i<ks.length:=aX 0x201201023 rfl hl hi;unfold kas_item;rw[Array.getD_eq_getD_getElem?];have h3:i<(ks.zip vs).length:=by simp;exact aX 0x12df002001003 rfl hi h2
 simp[hi,h2,ZY h3,List.getElem_zip]
theorem Ks.tV {α:Type}{P:α->Prop}:∀(t:KasT α),Ks.dZ N t P->P (Ks.fk f t)| .ret _,h=>h| .ask i j k,h=>Ks.tV (k (f i j)) (h.2.2 _)
theorem qQ {st:SortSt}{P:PySem.Fin->Shared->Prop}(hk:s.heap.get? kS=some (seqObj "list" ks e))(ha:s.heap.get? a=some (seqObj "list" #[] e1))(J1:kS≠a)(PY:ks.size<64)(ho:(arrOf st).map (·.2)=out)(PL:out.size<64)(hf:failedOf st=none)(hP:∀h' c,h'.get? a=some (seqObj "list" out c)->(∀b,b≠a->b≠kS->h'.get? b=s.heap.get? b)->(∃o,h'.get? kS=some o)->P (.done (.ret .none)) {s with heap:=h'}):wpAny (model prog w) A (ksk_tail a false e1 (.ref kS) st) P E s:=by
 have s1:=Heap.SameBut.update s.heap kS (Obj.mapSeq fun x=>(#[]:Array Value))
 have Sb:(s.heap.update kS (Obj.mapSeq fun x=>(#[]:Array Value))).get? a=some (seqObj "list" #[] e1):=(s1.2 a J1.symm).trans ha
 have s2:=Heap.SameBut.update (s.heap.update kS (Obj.mapSeq fun x=>(#[]:Array Value))) a (Obj.mapSeq fun x=>out)
 have yP:=get?_update_seq Sb fun x=>out
 unfold ksk_tail
 dsimp only
 rw[ho]
 refine Z8 (listUpdate_at hk rfl ?_ (by rw[sizeLine_eq];exact bC 0x10000008f0140a002 rfl PY) (Nat.zero_le _))
 refine Z8 (wpAny_letGo ?_)
 refine Z8 (seqEpoch_at Sb rfl ?_)
 refine Z8 (listUpdate_at Sb rfl ?_ (Nat.zero_le _) (by show out.size<=_;rw[sizeLine_eq];exact bC 0x9010000008fb0140a002 rfl PL))
 rw[hf]
 simp only[bne_self_eq_false,ZG,if_false]
 exact Z0 (hP _ _ yP (fun b h1 h2=>(s2.2 b h1).trans (s1.2 b h2)) ⟨_,(s2.2 kS J1).trans (get?_update_seq hk fun x=>(#[]:Array Value))⟩)
theorem range_getD (vs:List Value):(List.range vs.length).map (fun i=>vs.getD i .none)=vs:=by refine List.ext_getElem (by simp) fun i h1 h2=>?_;rw[List.getElem_map,List.getElem_range,Z5,ZY h2];rfl
theorem G4 {ks:List Value}(hl:ks.length=vs.length):(ks.toArray.zip vs.toArray).map (·.2)=vs.toArray:=by apply Array.toList_inj.mp;simp[List.map_snd_zip,hl]
theorem oR (h:n<2):Ks.cY g n=List.range n:=Z1 h
theorem w7 (h:¬n<2):Ks.cY g n=(Ks.fk g (kas_sort n)).toList:=ZX h
theorem DD {ks:List Value}(hl:ks.length=vs.length):(ks.toArray.zip vs.toArray).size=vs.length:=by simp[hl]
theorem Fz {ks:List Value}{i:Nat}{v:Value}(h:ks[i]?=some v):ks.getD i .none=v:=by rw[Z5,h];rfl
theorem zg {h:Heap}{vol:Addr->Prop}{ks:List Value}{kd:List (List Dat)}(rk:aH h vol ks (kd.map .list)){i:Nat}(hi:i<kd.length):Rep h vol (ks.getD i .none) (.list kd[i]):=by refine ax (rk.get (i:=i) (d:=.list kd[i]) (by simp[hi])) fun v hv hr=>?_;rw[Fz hv];exact hr
theorem Cr {prog:Program}{w:World}{kS:Addr}{e e1:Nat}{ks:List Value}{kd:List (List Dat)}{g:Nat->Nat->Bool}{P:PySem.Fin->Shared->Prop}(hk:s.heap.get? kS=some (seqObj "list" ks.toArray e))(ha:s.heap.get? a=some (seqObj "list" #[] e1))(J1:kS≠a)(hu:A.units+100<cLine)(hl:ks.length=vs.length)(sL:vs.length<64)(rk:aH s.heap vol ks (kd.map .list))(hg:∀i j x y,kd[i]?=some x->kd[j]?=some y->gi .Lt x y 0=some (g i j))(hP:∀h' c,h'.get? a=some (seqObj "list" ((Ks.cY g vs.length).map fun i=>vs.getD i .none).toArray c)->(∀b,b≠a->b≠kS->h'.get? b=s.heap.get? b)->(∃o,h'.get? kS=some o)->P (.done (.ret .none)) {s with heap:=h'}):wpAny (model prog w) A (ksk_end a false vs.toArray e1 (.ref kS) ks.toArray) P E s:=by
 have Il:kd.length=vs.length:=by have:=rk.length;rw[Z2]at this;exact aX 0x1222021023 rfl hl this
 unfold ksk_end
 dsimp only
 rw[ZX ZZ,ZX ZZ]
 have UP:vs.toArray.size=vs.length:=by simp
 by_cases h2:vs.length<2
 ·rw[UP,Z1 h2,Z1 h2];refine Z8 (Z0 ?_);rw[StateT.run_pure];refine Z8 (Z0 ?_);dsimp only;refine qQ (out:=((Ks.cY g vs.length).map fun i=>vs.getD i .none).toArray) hk ha J1 (by simp;exact aR 0x40a0002a101023 rfl hl h2) ?_ ?_ rfl hP
  ·show(ks.toArray.zip vs.toArray).map (·.2)=_;rw[oR h2,range_getD];exact G4 hl
  ·rw[oR h2,range_getD];exact sL
 ·rw[UP,ZX h2,ZX h2];refine Z8 (kas_kind (T:=.type "list") (aR 0x2a102a1031023 rfl hl h2) (fun v hv=>?_) (by decide) (by rfl) ?_)
  ·obtain⟨i,hi,rfl⟩:=List.getElem_of_mem hv;have hr:=zg rk (i:=i) (by rw[Il,<-hl];exact hi);rw[Z5,ZY hi]at hr;refine cL (bI (.rep hr)) fun l o us k' e' ho hc y0=>?_;refine bg y0 fun hn hd qY=>?_;dsimp only[Option.getD_some]at e';rw[e'];intro A' Q' E' s' k q;exact wpAny_typeOf (T:="list") ⟨_,k _ _ ho,hc⟩ q
  ·have hz:(ks.toArray.zip vs.toArray).size=vs.length:=DD hl;have e0:SortSt.mk' oneType' (ks.toArray.zip vs.toArray) #[] 7 none=kas_st oneType' (ks.toArray.zip vs.toArray) (List.toArray (List.range vs.length)):=by unfold kas_st;have:=kas_range (ks.toArray.zip vs.toArray);rw[hz]at this;rw[this]
   have post:=Ks.tE (N:=vs.length) (bC 0x8002a0032 rfl h2);have run:=kas_runs (prog:=prog) (w:=w) (A:=A) (E:=E) (κ:=oneType') (it:=ks.toArray.zip vs.toArray) (s:=s) (n:=vs.length) (Q:=fun z N9 s'=>s'=s/\failedOf N9=none/\(arrOf N9).size=vs.length/\(arrOf N9).map (·.2)=((Ks.cY g vs.length).map fun i=>vs.getD i .none).toArray) (G:=fun p s'=>s'=s/\p=Ks.fk g (kas_sort vs.length)) (bC 0x2a102a0032 rfl h2) sL (fun p' N9 s' a1 a2 a3 a4=>⟨a4.1,a3,by rw[a2,Array.size_map];exact a1,?_⟩) (tU (f:=g) (N:=vs.length) (fun i j D hi hj hD=>?_) _ post ⟨rfl,rfl⟩)
   ·rw[<-e0]at run;refine Z8 (wpAny_mono run ?_ fun z z e=>e);intro y0 s' y1;obtain⟨⟨⟩,N9⟩:=y0;(refine mu y1 ?_;clear y1;rintro(rfl) hf xX ho);dsimp only;refine qQ hk ha J1 (by simp;exact aR 0x40a0040a101023 rfl hl sL) ho ?_ hf hP;rw[<-ho,Array.size_map];exact aR 0x40a1001240a003 rfl sL xX
   ·rw[a2];have hp:=a4.2;apply Array.toList_inj.mp;rw[Array.map_map,Array.toList_map];rw[w7 h2,<-hp];refine ZF fun i hi=>?_;have pD:i<vs.length:=Ks.tV (f:=g) _ post i (by rw[<-hp];exact hi);show(kas_item _ i).2=_;rw[nU hl pD]
   ·unfold kas_cmp;rw[nU hl hi,nU hl hj];exact zK hu (zg rk (Il▸hi)) (zg rk (Il▸hj)) (hg i j _ _ (ZY _) (ZY _)) hD
structure GO (C:Cx) (n:Nat) (vol:Addr->Prop) (s₀:Shared) (f:Addr) (ds:List Dat) (kd:List (List Dat)):Prop where
 len:kd.length=ds.length
 call:∀{A:Around}{s:Shared}{N:Addr->Prop},cV C (n+1) A->Ex C s₀ s->(∀b,N b->s₀.heap.get? b=none/\∃o,s.heap.get? b=some o)->∀(j:Nat)(d:Dat)(k:List Dat),ds[j]?=some d->kd[j]?=some k->∀v:Value,Rep s.heap (fun b=>vol b\/N b) v d->
  dY C A (fun b=>vol b\/N b) (PySem.call (.ref f) [v]) (.list k) s
theorem zI (hC:C.Ok)(hA:cV C (n+1) A)(rI:Bs C s₀)(yJ:aW C vol s₀)(x:Ex C s₀ s)(hf:GO C n vol s₀ f ds kd)(ho:s.heap.get? a=some (seqObj "list" vs.toArray m))(ha:s₀.heap.get? a=none)(rv:aH s₀.heap vol vs ds)(sL:ds.length<64)(hg:∀i j x y,kd[i]?=some x->kd[j]?=some y->gi .Lt x y 0=some (g i j)){P:PySem.Fin->Shared->Prop}(hP:∀s' c,Ex C s₀ s'->s'.heap.get? a=some (seqObj "list" ((Ks.cY g ds.length).map fun i=>vs.getD i .none).toArray c)->P (.done (.ret .none)) s'):aK (model C.prog C.w) A (ksk_tree a (.ref f) false) P E s:=by
 revert m g hC hA rI yJ x hf ho ha rv sL hg hP;refine no_implicit_lambda% (pn (b8 (b8 (b8 (b8 sA zv) (b8 sA vm)) inferInstance) inferInstance) ?_ s C s₀ A vs a kd vol f E ds P n);generalize jF _ _=tt;dsimp only[Bu];generalize tt.1.1.1.1=s,tt.1.1.1.2=C,tt.1.1.2.1=s₀,tt.1.1.2.2=A,tt.1.2.1.1=vs,tt.1.2.1.2=a,tt.1.2.2=kd,tt.2.1.1.1=vol,tt.2.1.1.2=f,tt.2.1.2=E,tt.2.2.1.1=ds,tt.2.2.1.2=P,tt.2.2.2=n;intro m g hC hA rI yJ x hf ho ha rv sL hg hP;have GV:vs.length=ds.length:=rv.length;have sz:∀{xs:Array Value}{k:Nat}{h:Heap}{b:Addr},h.get? b=some (seqObj "list" xs k)->∀o,h.get? b=some o->∀vs,o.data≠.fields vs:=fun e o e' vs q=>by rw[e]at e';obtain rfl:=Z9 e';rcases q with⟨⟩
 have s1:=Heap.SameBut.update s.heap a (Obj.mapSeq fun v=>(#[]:Array Value));obtain⟨e1,GZ⟩:∃e1,(s.heap.update a (Obj.mapSeq fun v=>(#[]:Array Value))).get? a=some (seqObj "list" #[] e1):=⟨_,get?_update_seq ho fun v=> #[]⟩;have x1:Ex C s₀ {s with heap:=s.heap.update a (Obj.mapSeq fun v=>(#[]:Array Value))}:=x.chg ha (sz ho) s1.extBut;unfold ksk_tree;refine ab (ai (listItems_at ho rfl ?_));refine ab (ai (listUpdate_at ho rfl ?_ (by rw[ZT,sizeLine_eq];exact aR 0x10000008f1101240a003 rfl sL GV) (Nat.zero_le _)));refine ab (ai (seqEpoch_at GZ rfl ?_));refine ab (ai (wpAny_newTuple ?_ (by show vs.length<=_;rw[sizeLine_eq];exact aR 0x10000008f1101240a003 rfl sL GV)));refine ab (ai (wpAny_newList ?_ (Nat.zero_le _)));refine ar ?_;generalize U0:(({s with heap:=s.heap.update a (Obj.mapSeq fun v=>(#[]:Array Value))}:Shared).heap.push {cls:=.type "tuple",data:=.seq vs.toArray.toList.toArray}).objs.size=kS;have x2:Ex C s₀ {s with heap:=(s.heap.update a (Obj.mapSeq fun v=>(#[]:Array Value))).push {cls:=.type "tuple",data:=.seq vs.toArray.toList.toArray}}:=x1.trans (.of_keep (fun v v e=>Z3 _ e) rfl rfl);have Mh:((s.heap.update a (Obj.mapSeq fun v=>(#[]:Array Value))).push {cls:=.type "tuple",data:=.seq vs.toArray.toList.toArray}).get? kS=none:=by rw[<-U0];exact aE _
 have Tb:s₀.heap.get? kS=none:=x2.fresh rI Mh;have lV:((s.heap.update a (Obj.mapSeq fun v=>(#[]:Array Value))).push {cls:=.type "tuple",data:=.seq vs.toArray.toList.toArray}).get? a=some (seqObj "list" #[] e1):=Z3 _ GZ;have J1:kS≠a:=fun q=>by rw[q,lV]at Mh;rcases Mh with⟨⟩
 have x3:Ex C s₀ {s with heap:=((s.heap.update a (Obj.mapSeq fun v=>(#[]:Array Value))).push {cls:=.type "tuple",data:=.seq vs.toArray.toList.toArray}).push {cls:=.type "list",data:=.seq ([]:List Value).toArray}}:=x2.trans (.of_keep (fun v v e=>Z3 _ e) rfl rfl);have Ri:(((s.heap.update a (Obj.mapSeq fun v=>(#[]:Array Value))).push {cls:=.type "tuple",data:=.seq vs.toArray.toList.toArray}).push {cls:=.type "list",data:=.seq ([]:List Value).toArray}).get? a=some (seqObj "list" #[] e1):=Z3 _ lV;have Nu:(((s.heap.update a (Obj.mapSeq fun v=>(#[]:Array Value))).push {cls:=.type "tuple",data:=.seq vs.toArray.toList.toArray}).push {cls:=.type "list",data:=.seq ([]:List Value).toArray}).get? kS=some (seqObj "list" ([]:List Value).toArray 0):=by rw[<-U0];exact ZO _ rfl
 show aK _ A (ksk_rest a (.ref f) false vs.toArray e1 (.ref kS)) P E {s with heap:=((s.heap.update a (Obj.mapSeq fun v=>(#[]:Array Value))).push {cls:=.type "tuple",data:=.seq vs.toArray.toList.toArray}).push {cls:=.type "list",data:=.seq ([]:List Value).toArray}};unfold ksk_rest;refine ab (gA ?_);have hN:∀{s':Shared}{kA:List Value}{e:Nat},s'.heap.get? kS=some (seqObj "list" kA.toArray e)->s'.heap.get? a=some (seqObj "list" #[] e1)->∀b,(b=a\/b=kS)->s₀.heap.get? b=none/\∃o,s'.heap.get? b=some o:=fun h1 h2 b q=>by
  refine Z4 q (fun y2=>?_) fun y3=>?_
  ·obtain rfl:=y2;exact⟨ha,_,h2⟩
  ·obtain rfl:=y3;exact⟨Tb,_,h1⟩
 rw[<-Array.forIn_toList];refine ab (DG (fun i s'=>∃kA e,Ex C s₀ s'/\s'.heap.get? kS=some (seqObj "list" kA.toArray e)/\s'.heap.get? a=some (seqObj "list" #[] e1)/\aH s'.heap (fun b=>vol b\/(b=a\/b=kS)) kA ((kd.take i).map .list)) _ 0 _ ⟨[],0,x3,Nu,Ri,.nil⟩ ?step ?done);case step=>
  intro j y s' hy y0;refine iZ y0 fun kA e x' yO NB rk=>?_;simp only[Nat.zero_add]at rk ⊢;have Nr:vs[j]?=some y:=by simpa using hy
  have hj:j<vs.length:=(List.getElem?_eq_some_iff.mp Nr).1;obtain⟨d,hd⟩:∃d,ds[j]?=some d:=⟨_,ZY (aX 0x1200201023 rfl GV hj)⟩;obtain⟨k,Rl⟩:∃k,kd[j]?=some k:=⟨_,ZY (by have:=hf.len;exact cZ 0x3201320201024 rfl GV hj this)⟩;refine ax (rv.get hd) fun v' GW VR=>?_;rw[Nr]at GW;obtain rfl:=Z9 GW;have ry:Rep s'.heap (fun b=>vol b\/(b=a\/b=kS)) y d:=VR.mono fun b o q nn=>⟨x'.keep b o q (fun t=>nn (yJ.tabs b t)) fun t=>nn (yJ.gS b t),fun z=>z.elim nn fun z=>by rw[(hN yO NB b z).1]at q;exact aa q⟩;have hz:kA.length<=vs.length:=by have:=rk.length;rw[Z2,List.length_take]at this;exact cZ 0x12130df221003 rfl hj this
  have NK:=x'.bs rI;refine ab (gU (hf.call hA x' (hN yO NB) j d k hd Rl y ry _ _ fun u s2 x2 r2=>?_));dsimp only;have nT:∀{b:Addr}{xs:Array Value}{m:Nat},s'.heap.get? b=some (seqObj "list" xs m)->s2.heap.get? b=some (seqObj "list" xs m):=fun e=>x2.keep _ _ e (NK.dv e nofun) (NK.dF e nofun);have pU:=nT yO;have Xz:=nT NB;have sb:=Heap.SameBut.update s2.heap kS (Obj.mapSeq (·.push u));have CE:=get?_update_seq pU (·.push u);refine ab (ai (listUpdate_at pU rfl ?_ (by rw[ZT,sizeLine_eq];exact aX 0x10000008f2112101240a004 rfl sL GV hz) (by rw[Array.size_push,ZT,sizeLine_eq];exact aX 0x9010000008fb92b112101240a004 rfl sL GV hz)));have PG:kA.toArray.push u=(kA++[u]).toArray:=by simp
  rw[PG]at CE;have ek:(kd.take (j+1)).map Dat.list=(kd.take j).map Dat.list++[Dat.list k]:=by rw[List.take_add_one,Rl];simp
  refine ah ⟨rfl,kA++[u],_,(x'.trans x2).chg Tb (sz pU) sb.extBut,CE,(sb.2 a J1.symm).trans Xz,?_⟩;rw[ek];have mv:∀b o,s2.heap.get? b=some o->¬(vol b\/(b=a\/b=kS))->(s2.heap.update kS (Obj.mapSeq (·.push u))).get? b=some o/\¬(vol b\/(b=a\/b=kS)):=fun b o q nn=>⟨(sb.2 b fun z=>nn (.inr (.inr z))).trans q,nn⟩;refine aH.append (aH.mono mv ?_) (.cons (r2.mono mv) .nil);exact rk.mono fun b o q nn=>⟨x2.keep b o q (fun t=>nn (.inl (yJ.tabs b t))) fun t=>nn (.inl (yJ.gS b t)),nn⟩
 case done=>
  intro s' y0;refine iZ y0 fun kA e x' yO NB rk=>?_;have e3:kd.take (0+vs.toArray.toList.length)=kd:=List.take_of_length_le (by have:=hf.len;simp;exact aX 0x211221023 rfl GV this);rw[e3]at rk;refine ab (ai (listItems_at yO rfl ?_));have zV:kA.length=vs.length:=by have:=rk.length;have:=hf.len;rw[Z2]at *;exact cZ 0x221323221024 rfl GV (by assumption) this
  have hu:=hA.units;refine ai (Cr (vol:=fun b=>vol b\/(b=a\/b=kS)) yO NB J1 (aX 0x264a0b02000003e88f91b0ad0bb02 rfl hu) zV (aR 0x40a1001240a003 rfl sL GV) rk hg fun h' c h1 h2 h3=>?_);rw[GV]at h1;have xk:Ex C s₀ {s' with heap:=h'}:=by
   have y1:Ex C s₀ {s' with heap:=h'}:=by
    have keep:∀{b o},s'.heap.get? b=some o->b≠a->b≠kS->h'.get? b=some o:=fun e q1 q2=>(h2 _ q1 q2).trans e;have nn:∀{b o},s₀.heap.get? b=some o->b≠a/\b≠kS:=fun e=>⟨fun q=>(by rw[q,ha]at e;exact aa e),fun q=>(by rw[q,Tb]at e;exact aa e)⟩;refine⟨fun b o e nt nf=>keep (x'.keep b o e nt nf) (nn e).1 (nn e).2,fun b o f e=>?_,fun z=>?_⟩
    ·refine ax (x'.nj b o f e) fun o1 e1 d1=>?_;exact⟨o1,keep e1 (nn e).1 (nn e).2,d1⟩
    ·have z':=x'.bs z;refine⟨fun b o e nt=>keep (z'.keep b o e nt) (nn (z.keep b o e nt)).1 (nn (z.keep b o e nt)).2,fun c P p q m=>?_,z'.gens,z'.os,fun b f=>(z'.alive b f).data fun o e=>?_⟩
     ·have Rr:P≠a/\P≠kS:=by rcases z.tab c P p q m with e|⟨_,e,_⟩<;>exact nn e
      refine Z4 (z'.tab c P p q m) (fun e=>?_) fun y2=>?_
      ·exact .inl (keep e Rr.1 Rr.2)
      ·refine ax y2 fun b e r=>?_;refine .inr ⟨b,keep e Rr.1 Rr.2,?_⟩;refine cL r fun b' o us t' q1 q2 q3 q4=>?_;rcases q1 with⟨⟩;exact⟨b,o,us,t',rfl,keep q2 (fun q=>sz NB o (q▸q2) us q3) (fun q=>sz yO o (q▸q2) us q3),q3,q4⟩
     ·refine jJ (z.alive b f) fun o' v v e' v=>?_;exact .of (keep e (nn e').1 (nn e').2)
   exact y1
  exact hP {s' with heap:=h'} c xk h1
end
section
variable {dQ:Scope}
theorem CodeRec.ex (bs:Bs C s)(x:Ex C s s')(h:s.heap.CodeRec cd q):s'.heap.CodeRec cd q:=by
 refine cL h fun c o vs t e1 e2 e3 e4=>?_;refine⟨c,o,vs,t,e1,x.keep c o e2 ?_ (bs.dF e2 (by rw[e3];nofun)),e3,e4⟩;intro y0;refine i0 y0 fun c' p q' m=>?_;refine Z4 (bs.tab c' c p q' m) (fun e=>?_) fun y1=>?_
 ·rw[e2]at e;obtain rfl:=Z9 e;rcases e3 with⟨⟩;simp at e4
 ·refine ax y1 fun b e y=>?_;rw[e2]at e;obtain rfl:=Z9 e;rcases e3 with⟨⟩;simp[rawInt]at e4
theorem pK {id:String}{args:Args}(hk:builtinKind id=none)(ha:argsOk id args):checkBuiltinCall id args=pure ():=by simp only[checkBuiltinCall,hk];cases SD:Manifest.signature? id with|none=>rfl|some sig=>simpa only[argsOk,SD]using ha
theorem uM (hC:C.Ok)(hA:cV C (n+2) A)(rI:Bs C s₀)(yJ:aW C vol s₀){f:Addr}{x:Value}{ds:List Dat}{kd:List (List Dat)}(hf:GO C n vol s₀ f ds kd)(kh:∀{A':Around}{E:Value->Shared->Prop}{Q:List Value->Shared->Prop},A'.handled=none->(∀us s1,Ex C s₀ s1->aH s₀.heap vol us ds->Q us s1)->wpAny (model C.prog C.w) A' (collect x) Q E s₀)(sL:ds.length<64){g:Nat->Nat->Bool}(hg:∀i j x y,kd[i]?=some x->kd[j]?=some y->gi .Lt x y 0=some (g i j)){Q:Value->Shared->Prop}(hQ:∀a s' c us,Ex C s₀ s'->s₀.heap.get? a=none->aH s₀.heap vol us ds->s'.heap.get? a=some (seqObj "list" ((Ks.cY g ds.length).map fun i=>us.getD i .none).toArray c)->Q (.ref a) s'):aK (model C.prog C.w) A (PySem.call (.builtin "sorted") [x] [(Str.ofString "key",.ref f)]) Q E s₀:=by have XU:cV C (n+1) A.in1.in1:=hA.in1;refine gC (aS ?_ rfl);show aK _ A.in1 (checkBuiltinCall "sorted" ⟨[x],[(Str.ofString "key",.ref f)]⟩>>=fun z=>again (.builtin "sorted" ⟨[x],[(Str.ofString "key",.ref f)]⟩)) _ _ s₀;rw[pK kind_sorted (ksk_s1 _ _)];refine ab (ah (ah ⟨plainId_quiet plain_sorted _,d7 entry_sorted (by rfl) ?_⟩));rw[ZL plain_sorted _];unfold Builtin.«sorted»;refine ab (m:=checkCount "sorted" 1 1 _) (ah ?_);refine ab (ai (kh hA.handled fun us s1 x1 rv=>?_));have Wq:=rv.length;refine ab (ai (wpAny_newList ?_ (by rw[sizeLine_eq];exact aR 0x10000008f1101240a003 rfl sL Wq)));have ho:({s1 with heap:=s1.heap.push {cls:=.type "list",data:=.seq us.toArray}}:Shared).heap.get? s1.heap.objs.size=some (seqObj "list" us.toArray 0):=ZO _ rfl;have ha:s₀.heap.get? s1.heap.objs.size=none:=x1.fresh rI (aE _);have x2:Ex C s₀ {s1 with heap:=s1.heap.push {cls:=.type "list",data:=.seq us.toArray}}:=x1.trans (.of_keep (fun z z e=>Z3 _ e) rfl rfl);refine ab (ar (gC (aS ?_ rfl)));show aK _ A.in1.in1 (checkBuiltinCall "list.sort" ⟨[.ref s1.heap.objs.size],[(Str.ofString "key",.ref f)]⟩>>=fun z=>again (.builtin "list.sort" ⟨[.ref s1.heap.objs.size],[(Str.ofString "key",.ref f)]⟩)) _ _ _;refine ab (ai (slot_list_sort.check _ _ _ _ _ _ _ _ ⟨_,ho,rfl⟩ (ksk_l1 _ _) (ah ⟨plainId_quiet slot_list_sort.plain _,d7 entry_list_sort (by rfl) ?_⟩)));rw[ZL slot_list_sort.plain _,ksk_t1];refine zI hC XU rI yJ x2 hf ho ha rv sL hg fun s' c x3 h3=>?_;exact ah (hQ _ s' c us x3 ha rv h3)
theorem p9 {Q:List Value->Shared->Prop}(h:aK M A (eval value env) (fun v aB=>Q [v] aB) E s):aK M A (evalAll ((backToKw pos (keywordEach [⟨some name,value,kp⟩] env)).map (·.2))) Q E s:=by show aK M A (evalAll [do let v <-eval value env;standAt pos;pure v]) Q E s;rw[evalAll];refine ab (ab (aD h (fun v aB bh=>ab (aq (ah ?_))) fun y y x=>x));exact ab (ar (ah (ah bh)))
theorem v8 {M:Model}{kp:Pos}{id:String}{e:Expr}{name:Str}{value:Expr}{Q:Value->Shared->Prop}(xY:starEach [e] env=[(false,eval e env)])(h:aK M A (spliced (backTo pos (starEach [e] env))) (fun vs aB=>aK M A (eval value env) (fun kv bM=>aK M A (PySem.call (.builtin id) vs [(name,kv)]) Q E bM) E aB) E s):aK M A (callWith pos (.builtin id) [] (backTo pos (starEach [e] env)) (backToKw pos (keywordEach [⟨some name,value,kp⟩] env))) Q E s:=by
 unfold callWith;have hb:backTo pos (starEach [e] env)=[(false,eval e env)]:=by rw[xY];rfl
 have Ms:(backTo pos (starEach [e] env)).any (·.1)=false:=by rw[hb];rfl
 refine ab (ar ?_);have ha:aK M A (evalArgs (.builtin id) true (backTo pos (starEach [e] env)) (backToKw pos (keywordEach [⟨some name,value,kp⟩] env))) (fun a aB=>aK M A (PySem.call (.builtin id) a.pos a.kw) Q E aB) E s:=by rw[hb]at h ⊢;unfold evalArgs;refine ab (m:=spliced _) (aD h (fun vs s' h'=>?_) fun y y x=>x);refine ar ?_;rw[Z1 (by rfl)];exact ab (p9 (aD h' (fun kv bM eM=>ab (ah (ah eM))) fun y y x=>x))
 refine aD ha (fun a aB bh=>ab (aq ?_)) fun y y x=>x;rw[Ms];have pU:(backToKw pos (keywordEach [⟨some name,value,kp⟩] env)).any (·.1.isNone)=false:=rfl;rw[pU];have hk:keeperOf (.builtin id)=pure .machine:=rfl;rw[hk];refine ab (ah ?_);exact ab (aD bh (fun r bM hr=>ab (ar (ai (wpAny_point (ah hr))))) fun y y x=>x)
noncomputable def EW {β:Type}(o:Option Dat)(f:List Dat->Option β):Option β:=match o with
 |some (.list u)=>f u|_=>none
set_option tactic.hygienic true in
theorem EV {β:Type}{o:Option Dat}{f:List Dat->Option β}{u:β}{P:Prop}(h:EW o f=some u)(k:∀v,o=some (.list v)->f v=some u->P):P:=by
 cases o with
 |none=>exact aa h
 |some d=>
  rcases d with⟨⟩;case list v=>exact k v rfl h
  all_goals exact aa h
def fG (Φ:gq)(dQ:Scope)(body:Expr)(vars:az):List Dat->Option (List (List Dat))|[]=>some []|d::ds=>EW (ev Φ dQ body ((("k":Str),.val d)::bw dQ vars)) fun k=>(fG Φ dQ body vars ds).map (k::·)
set_option tactic.hygienic true in
theorem xP:∀{ds:List Dat}{kd:List (List Dat)},fG Φ dQ body vars ds=some kd->kd.length=ds.length/\∀(j:Nat)(d:Dat)(k:List Dat),ds[j]?=some d->kd[j]?=some k->ev Φ dQ body ((("k":Str),.val d)::bw dQ vars)=some (.list k):=by
 intro ds;induction ds with
 |nil=>intro kd h;obtain rfl:=Z9 h;exact⟨rfl,fun j d k h=>by simp at h⟩
 |cons d ds ih=>
  intro kd h;refine EV h fun k hk h=>?_;cases h1:fG Φ dQ body vars ds with
  |none=>rw[h1]at h;exact aa h
  |some ks=>
   rw[h1]at h;obtain rfl:=Z9 h;refine aL (ih h1) fun a b=>?_;refine⟨congrArg (·+1) a,fun j d' k' hd yO=>?_⟩;rcases j with⟨⟩;case zero=>rw[List.getElem?_cons_zero]at hd yO;obtain rfl:=Z9 hd;obtain rfl:=Z9 yO;exact hk
   case succ j=>rw[List.getElem?_cons_succ]at hd yO;exact b j d' k' hd yO
def lS (kd:List (List Dat)):Bool:=kd.all fun x=>kd.all fun y=>(gi .Lt x y 0).isSome
def tN (kd:List (List Dat))(i j:Nat):Bool:=((kd[i]?).bind fun x=>(kd[j]?).bind fun y=>gi .Lt x y 0).getD false
theorem EB (h:lS kd=true):∀i j x y,kd[i]?=some x->kd[j]?=some y->gi .Lt x y 0=some (tN kd i j):=fun i j x y hx hy=>by
 delta lS at h;simp only[List.all_eq_true]at h;have:=h x (ZD hx) y (ZD hy);delta tN;refine xR hx (xR hy ?_);dsimp only[Option.bind_some];cases e:gi .Lt x y 0 with
 |none=>replace this:=e▸this;(rcases this with⟨⟩)
 |some b=>rfl
def tF (kd:List (List Dat))(ds:List Dat):List Dat:=(Ks.cY (tN kd) ds.length).map fun i=>ds.getD i .none
noncomputable def nP:Option Slot->Bool|some (.own _)=>false|_=>true
noncomputable def AM:Option Dat->Option (Int×Int×Int)|some (.range a b c)=>some (a,b,c)|_=>none
set_option tactic.hygienic true in
theorem wJ {o:Option Dat}(h:AM o=some r):o=some (.range r.1 r.2.1 r.2.2):=by
 rcases o with⟨⟩;case none=>exact aa h
 case some d=>
  rcases d with⟨⟩;case range a b c=>obtain rfl:=Z9 h;rfl
  all_goals (exact aa h)
theorem aH.getD (r:aH h vol vs ds)(l:List Nat):aH h vol (l.map fun i=>vs.getD i .none) (l.map fun i=>ds.getD i .none):=by
 induction l with
 |nil=>exact .nil
 |cons i l ih=>
  refine .cons ?_ ih;dsimp only;refine xR Z5 (xR Z5 ?_);cases hd:ds[i]? with
  |some d=>refine ax (r.get hd) fun v hv hr=>?_;refine xR hv ?_;exact hr
  |none=>
   have:vs[i]?=none:=by rw[List.getElem?_eq_none_iff]at hd ⊢;refine xR r.length ?_;exact hd
   refine xR this ?_;exact .none
def w6 (Φ:gq)(x:Str)(it body:Expr)(dQ:Scope):oH:=fun sc vars=>if(dQ.names.all fun p=>p.2 != .free||nP (vars.lookup p.1))=true/\sc.names.lookup ("sorted":Str)=some .globalImplicit/\fv sc dQ=true then(AM (ev Φ sc it vars)).bind fun r=>(bb (.range r.1 r.2.1 r.2.2)).bind fun items=>if items.length<64 then(fG Φ dQ body vars items).bind fun kd=>if lS kd=true then(bL sc x (.val (.list (tF kd items))) vars).map .next else none else none else none
set_option tactic.hygienic true in
theorem uN (hC:C.Plain)(CH:∃bm ob,BMod C.h₀ mainGlobals C.mg bm ob)(hO:∀fr,cj (C.at fr) n)(hF:∀fr,b7 (C.at fr) Φ n)(TM:cj C (n+2))(XR:b7 C Φ (n+2)){c P:Addr}{p:Pos}{q name:Str}(ht:eW C c P p q)(hq:(name++".<locals>.")++"<lambda>"=q){x:Str}{xp fp Pm LV V8 cp:Pos}{it body:Expr}{dQ:Scope}(hl:LV.line=p.line)(kh:LV.col=p.col)(Ij:(dQ.names.all fun p=>p.2 != .cell)=true)(q5:dQ.isGenerator=false)(Fs:dQ.isCoroutine=false)(hk:dQ.names.lookup ("k":Str)=some .local):ux C (n+2) (lO C (.ref c) name) (.Assign [.Name x xp] (.Call (.Name "sorted" fp) [it] [⟨some "key",.Lambda ⟨[],[⟨"k",none,Pm⟩],none,[],[],none,[]⟩ body dQ LV,V8⟩] cp) pos,w6 Φ x it body dQ):=fun{A env}hA hK{aj sc vars W ad s fl}e S hD h E Q hQ=>
 aI h fun hv h=>ao h fun r hit h=>ao h fun items vC h=>aI h fun sL h=>ao h fun kd Il h=>aI h fun CC h=>aZ h fun b9 hb Bc=>by
 subst Bc;refine bg hv fun Sw hs eN=>?_;have hit:=wJ hit;obtain⟨a,b,cc⟩:=r;simp only[List.all_eq_true,bne_iff_ne]at Ij;have fO:∀y p,it≠.Starred y p:=by rintro y p rfl;exact aa hit
 refine bl ?_ rfl rfl;refine ab (fz hC.ok e S.bV.bs hs (by decide) (hC.none _ (by decide)) (hC.b (v:=.builtin "sorted") (by kernel_rfl)) ?_);refine v8 (bH fO) (bu ?_ (bH fO));refine cH hC.ok TM XR hA it e S.bV hit _ _ fun v s1 x1 r1=>?_;refine bY ?_;have S1:=S.ex x1;refine ai (Cp hC.ok CH (params:=zG Pm) ht hK.code (by refine xR hK.qual ?_;exact hq) e S1.bV.bs (gI e eN) rfl hl kh fun fa s2 c' F3 pm x2 Xf P0 SK=>?_);have S2:=S1.ex x2;have Kj:=S2.bV.bs;have V2:=S2.bV.vo;cases r1 with|range Pu CB=>?_
 rename_i ra t1 t2 t3;have WD:¬C.T ra:=by intro y0;refine i0 y0 fun c2 p2 q2 m=>?_;rcases S1.bV.bs.tab c2 ra p2 q2 m with e'|⟨_,e',_⟩<;>(have h9:=CB;unfold IsRange at h9;replace h9:=e'.symm.trans h9;rcases h9 with⟨⟩)
 have qY:IsRange s2.heap ra a b cc t1 t2 t3:=x2.keep _ _ CB WD (S1.bV.bs.dF CB nofun);dsimp only[bb]at vC;split at vC;case isFalse=>exact aa vC
 rename_i JR;obtain rfl:=Z9 vC;simp only[ZR,bne_iff_ne]at JR;refine aL JR fun y1 g4=>?_;refine aL y1 fun y2 g3=>?_;refine aL y2 fun g1 g2=>?_;have hlen:cC a b cc<64:=by delta jj at sL;simpa using sL
 refine aL (xP Il) fun kl kg=>?_;have hf:GO C n (fun b=>aj b\/W b) s2 fa ((jj a b cc).map .int) kd:=by
  refine⟨kl,fun{A' s3 N}z0 x3 hN j d k hd Rl v rv=>?_⟩;have Ts:=x3.keep _ _ P0 (Kj.dv P0 nofun) (Kj.dF P0 nofun);exact zH hC.ok hO hF z0 e (S2.bV.grow x3 hN) eN Ij q5 Fs hk (fun y sl hy=>by
   refine aL (eg hy) fun z1 z2=>?_;have:=Zw Sw _ (mem_of_lookup z2);simp only[z1]at this;rcases sl with⟨⟩;case val d=>exact⟨d,rfl⟩
   case own d=>exact absurd this ZZ) Ts (CodeRec.ex Kj x3 SK) rv (kg j d k hd Rl)
 refine uM hC.ok hA Kj V2 hf (fun{A' E' Q'}hh XF=>?_) sL (EB CC) fun sa s3 YT us x3 NA ru Xy=>?_
 ·refine sQ hh qY (jZ g1 g2 g3 g4) (n:=cC a b cc) (by unfold cC;simp only[Int.toNat_of_nonneg (df a b cc)]) (by lia) fun h' tk acc yO Mj=>?_;refine XF _ {s2 with heap:=h',toks:=tk} (.of_keep yO rfl rfl) ?_;refine aL Mj fun i1 i2=>?_;unfold jj;refine aH.of_get (by simp[i1]) fun j v d hv hd=>?_;have GW:acc[j]?=some v:=by simpa using hv
  refine aJ (i2 j v GW) ?_;rintro t' (rfl);have hj:j<cC a b cc:=by have:=(Array.getElem?_eq_some_iff.mp GW).1;exact aX 0x1200201023 rfl i1 this
  simp[hj]at hd;subst hd;refine xR (show(j:Int)*cc=cc*(j:Int)from Int.mul_comm _ _) ?_;exact .int _ _
 ·have S3:=S2.ex x3;have rr:Rep s3.heap (fun b=>aj b\/W b) (.ref sa) (.list (tF kd ((jj a b cc).map .int))):=.list (V2.new NA) Xy rfl rfl rfl ((ru.ex V2 x3).getD _);refine ab (aq (ew e S3 hD hb rr fun s4 m4 S4 Mx z=>hQ _ _ ⟨rfl,W,ad,(Mv.ka (x1.trans (x2.trans x3))).trans m4,S4,Mx⟩))
theorem sE (h:bG V V'):∀ds:List Dat,fG Φ dQ body V ds=fG Φ dQ body V' ds:=by intro ds;induction ds with|nil=>exact rfl|cons d ds ih=>refine(congrArg (EW · _) (dz ((l7 h dQ).cons _ _) _)).trans (congrArg (EW _) (funext fun k=>congrArg (Option.map _) ih))
theorem Hj:Q1 (S,w6 Φ x it body dQ):=fun sc V V' h=>by
 have e1:(dQ.names.all fun p=>p.2 != .free||nP (V.lookup p.1))=(dQ.names.all fun p=>p.2 != .free||nP (V'.lookup p.1)):=by congr 1;funext p;exact xR (h p.1) rfl
 show fB (if(dQ.names.all fun p=>p.2 != .free||nP (V.lookup p.1))=true/\_ then _ else none) (if(dQ.names.all fun p=>p.2 != .free||nP (V'.lookup p.1))=true/\_ then _ else none);refine xR e1 (xR (dz h it) ?_);refine rh (g9 _ fun r=>g9 _ fun items=>rh ?_);refine xR (sE h items) ?_;exact g9 _ fun kd=>rh (dq h _ _).fl
end
theorem bindVar {a:Arg}:bindArgs (Calls.docDef name ⟨[],[],some a,[],[],none,[]⟩ body scope pm cd doc) ⟨vs,[]⟩=(newTuple vs>>=fun t=>pure [(a.arg,t)]):=by cases vs with|nil=>kernel_rfl|cons v vs=>kernel_rfl
open PySem.NumText
def m8 (t:Str):Bool:=decide ((t).length<=aM/\(rep1 (t)).length<=aM/\(rep2 (rep1 (t))).length<=aM/\(rep3 (rep2 (rep1 (t)))).length<=aM/\(nK (rep3 (rep2 (rep1 (t))))).length<=aM/\(qv (nK (rep3 (rep2 (rep1 (t)))))).length<=aM/\(uU (qv (nK (rep3 (rep2 (rep1 (t))))))).length<=aM/\(zh (uU (qv (nK (rep3 (rep2 (rep1 (t)))))))).length<=aM/\(Ec (zh (uU (qv (nK (rep3 (rep2 (rep1 (t))))))))).length<=aM)
theorem Aj {t:Str}(h:m8 t=true):vZ t:=by unfold m8 at h;have:=of_decide_eq_true h;exact this
def JD (ys:List Str):Option Str:=if gW "-" ys&&m8 (cW "-" ys)then(gD ((cW "-" ys).length+2) (eQ (cW "-" ys))).bind fun u=>my ((cW "-" ys).length+2) u else none
def Ep (ds:List Dat):Option Dat:=(strsOf ds).bind fun ys=>(JD ys).map .str
theorem Oh:oG aF:=⟨rfl,rfl,rfl,by decide +kernel,by decide +kernel⟩
def Ky (a:Arguments):Arg:=a.vararg.getD ⟨"",none,bS⟩
theorem HC:argsAt pw 5=⟨[],[],some (Ky (argsAt pw 5)),[],[],none,[]⟩:=by rfl
set_option tactic.hygienic true in
theorem sm:∀{ds:List Dat}{ys:List Str},strsOf ds=some ys->ys.length=ds.length:=by
 intro ds;induction ds with
 |nil=>intro ys h;obtain rfl:=Z9 h;rfl
 |cons d ds ih=>
  intro ys h;rcases d with⟨⟩;case str x=>exact aZ (x:=strsOf ds) h fun zs e q=>q▸congrArg (·+1) (ih e)
  all_goals exact aa h
theorem Lb (hC:C.Plain)(CH:∃bm ob,BMod C.h₀ mainGlobals C.mg bm ob)(Mb:p.line=(lW (ak ay 0)).line)(PK:p.col=(lW (ak ay 0)).col)(ht:eW C c2 P p "_platform.<locals>.<genexpr>")(fr:Addr->Prop):fH (C.at fr) n (lO (C.at fr) (.ref c2) "_platform") cA:=by refine qj ?_;exact⟨H7 (hC.at fr) CH (c:=c2) (P:=P) (p:=p) (name:="_platform") (q:="_platform.<locals>.<genexpr>") ⟨ht.mem,ht.code,ht.uniq⟩ rfl Mb.symm PK.symm rfl rfl rfl rfl,iu rfl rfl (by decide),iu rfl rfl (by decide),iu rfl rfl (by decide),iu rfl rfl (by decide),iu rfl rfl (by decide),iu rfl rfl (by decide),iu rfl rfl (by decide),iu rfl rfl (by decide),iu rfl rfl (by decide),iu rfl rfl (by decide),trivial⟩
theorem Ow (hC:C.Plain)(CH:∃bm ob,BMod C.h₀ mainGlobals C.mg bm ob)(hp:Re.gf C.h₀ pat c)(hg:C.mg "_twin_re_1"=some (.ref pat))(Mb:p.line=(lW (ak ay 0)).line)(PK:p.col=(lW (ak ay 0)).col)(ht:eW C c2 P p "_platform.<locals>.<genexpr>")(hD:eY C "_platform" (argsAt pw 5) ay aF (.ref c2)):ti C (n+1) "_platform" Ep:=by
 refine cL hD fun a o pm doc h1 h2 h3 y0=>?_;refine aL y0 fun h4 h5=>?_;refine⟨a,o,_,h1,by decide,hC.ok.dv h2 h3,h2,h4,fun{A s vol vs ds d}hA bs V rs h=>?_⟩;unfold Ep at h;cases hs:strsOf ds with
 |none=>rw[hs]at h;exact aa h
 |some ys=>
  rw[hs]at h;simp only[ZV]at h;cases hv:JD ys with
  |none=>rw[hv]at h;exact aa h
  |some v=>
   rw[hv]at h;obtain rfl:=Z9 h;unfold JD at hv;split at hv
   ·rename_i eN;simp only[ZR]at eN;cases hu:gD ((cW "-" ys).length+2) (eQ (cW "-" ys))with
    |none=>rw[hu]at hv;exact aa hv
    |some u=>
     rw[hu]at hv;simp only[ZV]at hv;have L8:=Lc (pat:=pat) hs eN.1 (Aj eN.2) hu hv;have eT:ds.length<=aM:=by have:=eN.1;unfold gW at this;simp only[ZR,decide_eq_true_eq]at this;rw[<-sm hs];exact this.1.1
     refine yw (xs:=[("args":Str)]) (es:=[.tuple ds]) (us:=[.ref s.heap.objs.size]) hC.ok (fun fr=>xt) (fun fr=>ko (hC.at fr) hp hg) (fun fr=>Jy (hC.at fr)) (fun x=>pZ rfl) (fun{fr A env}z0 hK=>?_) (hC.ok.dv h2 h3) h2 h4 h5 Oh (by decide) (by decide +kernel) rfl hA bs V ?_ L8
     ·exact Lb hC CH Mb PK ht fr z0 hK
     ·rw[HC,bindVar];intro E Q q;refine ab (ai (wpAny_newTuple ?_ (by rw[rs.length];exact bx eT)));have x1:Ex C s {s with heap:=s.heap.push {cls:=.type "tuple",data:=.seq vs.toArray}}:=.of_keep (fun x x e=>Z3 _ e) rfl rfl;exact ah (q _ _ x1 ⟨rfl,.cons (.tuple (V.new (aE _)) (ZO _ rfl) rfl rfl (rs.ex V x1)) .nil⟩)
   ·exact aa hv
end Mine.Internal
namespace Mine.Internal
namespace Tx
section
open PySem PySem.W PyProof.Rows PySem.Builtin PySem.Builtin.Str
noncomputable def iq (y z:List Nat):Nat->List Nat->List Nat|_,[]=>[]|k,c::r=>if 0<k then iq y z (k-1) r else if y.isPrefixOf (c::r)then z++iq y z (y.length-1) r else c::iq y z 0 r
end
section
open PySem PySem.W PyProof.Rows PySem.Builtin PySem.Builtin.Str
variable {y z:List Nat}
theorem xb:∀(k:Nat)(l:List Nat),iq y z k l=iq y z 0 (l.drop k)|0,l=>rfl|k+1,[]=>by simp[iq]|k+1,c::r=>by rw[iq,Z1 (Nat.succ_pos _),Nat.add_sub_cancel,xb k r,List.drop_succ_cons]
theorem Ea {l:List Nat}:∀(d a c:Nat),c-a=d->a<=c->c<=l.length->(∀k,a<=k->k<c->y.isPrefixOf (l.drop k)=false)->iq y z 0 (l.drop a)=(l.drop a).take (c-a)++iq y z 0 (l.drop c):=by intro d;induction d with|zero=>intro a c hd Vf hc hn;have:a=c:=aR 0x12011810c23 rfl hd Vf;subst this;simp|succ d ih=>intro a c hd Vf hc hn;have ha:a<l.length:=cZ 0x31030192b10c23 rfl hd hc;have e:l.drop a=l[a]::l.drop (a+1):=List.drop_eq_getElem_cons ha;have h0:=hn a (ZQ _) (aX 0x1092b10c22 rfl hd);rw[e]at h0 ⊢;rw[iq,ZX (Nat.lt_irrefl 0),h0,ZX ZZ,ih (a+1) c (by exact aX 0x291b0c292b10c22 rfl hd) (by exact aX 0x91b192b10c22 rfl hd) hc fun k h1 h2=>hn k (by exact aR 0x101190b12 rfl h1) h2];have:c-a=(c-(a+1))+1:=aX 0x991b0cb10c292b10c22 rfl hd;rw[this,List.take_succ_cons];rfl
theorem Ay (x y:PySem.Str)(i:Nat):StrLaws.At x y x.length i↔y.cps.toList.isPrefixOf (x.cps.toList.drop i)=true/\i<=x.cps.toList.length:=by
 unfold StrLaws.At;have hs:subAt x y i=((x.cps.toList.drop i).take y.length==y.cps.toList):=by
  unfold subAt;have:(x.cps.extract i (i+y.length)==y.cps)=((x.cps.extract i (i+y.length)).toList==y.cps.toList):=by rw[Bool.eq_iff_iff,beq_iff_eq,beq_iff_eq,Array.toList_inj]
  rw[this,Array.toList_extract];simp[List.extract_eq_take_drop]
 have hx:x.length=x.cps.toList.length:=by simp[PySem.Str.length]
 have hy:y.length=y.cps.toList.length:=by simp[PySem.Str.length]
 rw[hs,beq_iff_eq,List.isPrefixOf_iff_prefix,hx,hy];constructor
 ·intro y0;refine aL y0 fun h1 h2=>?_;exact⟨⟨_,by rw[<-h2];exact List.take_append_drop _ _⟩,by exact aX 0x201210b12 rfl h1⟩
 ·intro y1;refine aL y1 fun y2 hi=>?_;refine aJ y2 fun t ht=>?_;have hl:=congrArg List.length ht;rw[ZN,List.length_drop]at hl;exact⟨by exact cZ 0x120b101c32b21013 rfl hi hl,by rw[<-ht];simp⟩
theorem jR (x:PySem.Str)(a b:Nat):(strSub x a b).cps.toList=(x.cps.toList.drop a).take (b-a):=by unfold strSub;rw[Array.toList_extract,List.extract_eq_take_drop]
theorem B4 (x y z:PySem.Str)(hy:1<=y.length):∀(I2:List Nat)(a f:Nat),StrLaws.ChainG x y x.length a I2 f->(∀k,f<=k->¬StrLaws.At x y x.length k)->a<=x.length->(PySem.Str.join z (StrLaws.partsFrom x y.length a I2)).cps.toList=iq y.cps.toList z.cps.toList 0 (x.cps.toList.drop a):=by
 intro I2;induction I2 with
 |nil=>
  intro a f hc hf ha;have P0:f=a:=hc;subst P0;have hx:x.length=x.cps.toList.length:=by simp[PySem.Str.length]
  show(strSub x f x.length).cps.toList=_;rw[jR,Ea (x.length-f) f x.length rfl ha (by exact aR 0x1011022 rfl hx) fun k h1 h2=>?_]
  ·rw[hx,List.drop_length];simp[iq]
  ·have:=hf k h1;rw[Ay]at this;cases e:y.cps.toList.isPrefixOf (x.cps.toList.drop k)with|false=>rfl|true=>exact absurd ⟨e,by exact aX 0x1210201023 rfl hx h2⟩ this
 |cons c r vz=>
  intro a f hc hf ha;refine mu hc fun h1 h2 h3 h4=>?_;have hx:x.length=x.cps.toList.length:=by simp[PySem.Str.length]
  have E8:y.length=y.cps.toList.length:=by simp[PySem.Str.length]
  have jm:c+y.length<=x.length:=h2.1;have ih:=vz (c+y.length) f h4 hf jm;refine jK (StrLaws.partsFrom_ne x y.length (c+y.length) r) fun p q L9=>?_;show(PySem.Str.join z (strSub x a c::StrLaws.partsFrom x y.length (c+y.length) r)).cps.toList=_;rw[L9]at ih ⊢;show(strSub x a c++z++PySem.Str.join z (p::q)).cps.toList=_;simp only[Str.cps_append,Array.toList_append];rw[ih,jR,Ea (c-a) a c rfl h1 (by exact cZ 0x121032b11023 rfl hx jm) fun k g1 g2=>?_]
  ·have Xu:=(Ay x y c).mp h2;have pD:c<x.cps.toList.length:=cZ 0x230103b12120914 rfl hy hx jm;have e:x.cps.toList.drop c=x.cps.toList[c]::x.cps.toList.drop (c+1):=List.drop_eq_getElem_cons pD;have h0:=Xu.1;rw[e]at h0 ⊢;rw[iq,ZX (Nat.lt_irrefl 0),Z1 h0,xb (y.cps.toList.length-1),List.drop_drop,List.append_assoc];rw[show c+y.length=c+1+(y.cps.toList.length-1) by exact aX 0x91c92bb02b21020913 rfl hy E8]
  ·have:=h3 k g1 g2;rw[Ay]at this;cases e:y.cps.toList.isPrefixOf (x.cps.toList.drop k)with|false=>rfl|true=>exact absurd ⟨e,by exact r8 0x141240032b11024 rfl hx jm g2⟩ this
theorem jh (x y z:PySem.Str)(hy:1<=y.length):(Txt.replace x y z).cps.toList=iq y.cps.toList z.cps.toList 0 x.cps.toList:=by
 refine ax (StrLaws.occ_tight x y hy) fun f hc hf=>?_;have key:=B4 x y z hy _ 0 f hc hf (Nat.zero_le _);rw[List.drop_zero]at key;rw[<-key];unfold Txt.replace;have h0:(y.length==0)=false:=by rw[ZJ];exact bC 0x80230912 rfl hy
 rw[h0,Bool.false_and,Bool.or_false];split
 ·rename_i he;have:occurrences x y 0 x.length (x.length+1)=[]:=List.isEmpty_iff.mp he;rw[this];show _=(strSub x 0 x.length).cps.toList;rw[StrLaws.sub_whole]
 ·rw[StrLaws.glued_eq_join,StrLaws.partsBetween_eq]
end
section
open PySem PySem.W PyProof.Rows PySem.Builtin PySem.Builtin.Str
open Mine.Internal.Re (gY jw nd find cut wq)
theorem uT (c d:Nat):∀l:List Nat,iq [c] [d] 0 l=l.map fun x=>if x=c then d else x
 |[]=>rfl
 |x::r=>by
  simp only[iq,ZX (Nat.lt_irrefl 0),ZI];by_cases h:x=c
  ·subst h;refine xR (Z1 (by simp[List.isPrefixOf])) (xR (Z1 rfl) ?_);show d::iq [x] [d] 0 r=_;simp only[uT]
  ·rw[ZX (by simp[List.isPrefixOf];exact fun q=>h q.symm),ZX h,uT]
theorem lR:∀{y:List Nat}(a b:List Nat),s∉y->y.isPrefixOf (a++s::b)=y.isPrefixOf a
 |[],a,b,_=>by rcases a with⟨⟩<;>simp[List.isPrefixOf]
 |c::y,[],b,h=>by have:¬c=s:=fun q=>h (q▸Z6);simp[List.isPrefixOf,this]
 |c::y,x::a,b,h=>by simp only[List.cons_append];dsimp only[List.isPrefixOf];exact xR (lR a b fun q=>h (Z7 _ q)) rfl
theorem Hl (hs:s∉y)(hy:y≠[]):∀(a b:List Nat)(k:Nat),k<=a.length->iq y z k (a++s::b)=iq y z k a++s::iq y z 0 b:=by
 intro a;induction a with
 |nil=>
  intro b k hk;have:k=0:=by simpa using hk
  subst this;have e0:iq y z 0 ([]:List Nat)=[]:=by rw[iq]
  rw[e0,List.nil_append,List.nil_append];conv=>lhs;rw[iq]
  rw[ZX (Nat.lt_irrefl 0)];have h0:=lR (y:=y) [] b hs;rw[List.nil_append]at h0;have h1:y.isPrefixOf ([]:List Nat)=false:=by(rcases y with⟨⟩;(case nil=>exact absurd rfl hy);(case cons _ _=>rfl))
  rw[h0,h1,ZX ZZ]
 |cons c a ih=>
  intro b k hk;rw[List.cons_append,iq,iq];by_cases h0:0<k
  ·rw[Z1 h0,Z1 h0];exact ih b (k-1) (by simp at hk;exact aR 0x190c191b012 rfl hk)
  ·rw[ZX h0,ZX h0];have hp:=lR (y:=y) (c::a) b hs;rw[List.cons_append]at hp;rw[hp];split
   ·rename_i h1;have hl:y.length<=a.length+1:=by have:=List.isPrefixOf_iff_prefix.mp h1;simpa using this.length_le
    rw[ih b (y.length-1) (by exact aR 0x190c191b012 rfl hl),List.append_assoc]
   ·rw[ih b 0 (Nat.zero_le _),List.cons_append]
noncomputable def jn (s:Nat):List (List Nat)->List Nat|[]=>[]|[a]=>a|a::b::r=>a++s::jn s (b::r)
theorem zM (hs:f s=s):∀l:List (List Nat),(jn s l).map f=jn s (l.map (·.map f))|[]=>rfl|[a]=>rfl|a::b::r=>by show(a++s::jn s (b::r)).map f=a.map f++s::jn s ((b::r).map (·.map f));exact xR ZA (xR ZI (xR hs (xR (zM hs (b::r)) rfl)))
theorem zL (hs:s∉y)(hy:y≠[]):∀l:List (List Nat),iq y z 0 (jn s l)=jn s (l.map (iq y z 0))|[]=>rfl|[a]=>rfl|a::b::r=>by show iq y z 0 (a++s::jn s (b::r))=iq y z 0 a++s::jn s ((b::r).map (iq y z 0));exact xR (Hl hs hy a _ 0 (Nat.zero_le _)) (xR (zL hs hy (b::r)) rfl)
theorem join_list (s:Nat):∀l:List PySem.Str,(PySem.Str.join ⟨#[s]⟩ l).cps.toList=jn s (l.map (·.cps.toList))|[]=>rfl|[a]=>rfl|a::b::r=>by show(a++⟨#[s]⟩++PySem.Str.join ⟨#[s]⟩ (b::r)).cps.toList=a.cps.toList++s::jn s ((b::r).map (·.cps.toList));simp only[Str.cps_append,Array.toList_append];simp only[join_list s (b::r)];simp
noncomputable def sq:List Nat->List Nat|[]=>[]|c::r=>if c=45/\r.head?=some 45 then sq r else c::sq r
def hv:List Nat->List Nat:=iq [45,45] [45] 0
theorem L0 (r:List Nat):hv (45::45::r)=45::hv r:=by show iq [45,45] [45] 0 (45::45::r)=_;rw[iq,ZX (Nat.lt_irrefl 0),Z1 (by simp[List.isPrefixOf])];show 45::iq [45,45] [45] 1 (45::r)=_;rw[iq,Z1 (by decide)];rfl
set_option tactic.hygienic true in
theorem E9 (h:¬(c=45/\r.head?=some 45)):hv (c::r)=c::hv r:=by
 show iq [45,45] [45] 0 (c::r)=_;rw[iq,ZX (Nat.lt_irrefl 0),ZX]
 ·rfl
 ·intro q;apply h;rcases r with⟨⟩;case nil=>simp[List.isPrefixOf]at q
  case cons d r=>simp[List.isPrefixOf]at q;exact⟨q.1.symm,by simp only[List.head?_cons,q.2]⟩
set_option tactic.hygienic true in
theorem qX:∀(n:Nat)(l:List Nat),l.length<=n->(hv l).head?=l.head? /\sq (hv l)=sq l/\(hv l).length<=l.length/\((hv l).length=l.length->sq l=l)/\∀x∈hv l,x∈l
 |_,[],_=>⟨rfl,rfl,ZQ _,fun y=>rfl,fun x hx=>hx⟩
 |n+1,c::r,hn=>by
  by_cases h:c=45/\r.head?=some 45
  ·refine aL h ?_;clear h;rintro(rfl) h2;rcases r with⟨⟩;case nil=>exact aa h2
   case cons d r=>
    rw[List.head?_cons,Option.some.injEq]at h2;subst h2;refine sh (qX n r (by simp at hn;exact aR 0x101190b12 rfl hn)) fun h1 h2 h3 h4 h5=>?_;rw[L0];refine⟨rfl,?_,by simp;exact aR 0x91b011012 rfl h3,fun q=>by simp at q;exact(aR 0x691b021013 rfl h3 q).elim,fun x hx=>?_⟩
    ·have e:sq (45::45::r)=sq (45::r):=by rw[sq,Z1 ⟨rfl,rfl⟩]
     rw[e,sq,sq,h1,h2]
    ·refine Z4 (Zy hx) (fun q=>?_) fun q=>?_
     ·rw[q];exact Z6
     ·exact Z7 _ (Z7 _ (h5 x q))
  ·refine sh (qX n r (by simp at hn;assumption)) fun h1 h2 h3 h4 h5=>?_;rw[E9 h];refine⟨rfl,?_,by simp;assumption,fun q=>?_,fun x hx=>?_⟩
   ·rw[sq,sq,h1,ZX h,ZX h,h2]
   ·rw[sq,ZX h,h4 (by simpa using q)]
   ·refine Z4 (Zy hx) (fun q=>?_) fun q=>?_
    ·rw[q];exact Z6
    ·exact Z7 _ (h5 x q)
theorem jg (t:PySem.Str):PyData.strOk t=true↔∀x∈t.cps.toList,x<0x110000:=by unfold PyData.strOk;rw[Array.all_eq_true'];simp
theorem jf {t u:PySem.Str}(h:t.cps.toList=u.cps.toList):t=u:=Str.ext' (Array.toList_inj.mp h)
theorem len_list (t:PySem.Str):t.length=t.cps.toList.length:=by simp[PySem.Str.length]
theorem y9:∀(k:Nat)(t:PySem.Str),t.length<k->t.length<=aM->PyData.strOk t=true->gD k t=some ⟨(sq t.cps.toList).toArray⟩:=by
 intro k;induction k with
 |zero=>intro t h _ _;exact absurd h (Nat.not_lt_zero _)
 |succ k vz=>
  intro t h hc ho;refine sh (qX _ t.cps.toList (ZQ _)) fun h1 h2 h3 h4 h5=>?_;have hr:(Txt.replace t "--" "-").cps.toList=hv t.cps.toList:=jh t "--" "-" (by decide);have lV:PyData.strOk (Txt.replace t "--" "-")=true:=by rw[jg,hr];exact fun x hx=>(jg t).mp ho x (h5 x hx)
  refine(Z1 ⟨hc,ho,lV⟩:gD (k+1) t=_).trans ?_;by_cases he:Txt.replace t "--" "-"=t
  ·rw[Z1 he];have:hv t.cps.toList=t.cps.toList:=by rw[<-hr,he]
   rw[h4 (by rw[this])]
  ·rw[ZX he];have pD:(hv t.cps.toList).length<t.cps.toList.length:=by
    refine Z4 (Nat.lt_or_ge (hv t.cps.toList).length t.cps.toList.length) (fun q=>?_) fun q=>?_
    ·exact q
    ·exfalso;apply he;apply jf;rw[hr];have hq:(hv t.cps.toList).length=t.cps.toList.length:=aR 0x1020111013 rfl h3 q;have e1:=h4 hq;have key:∀l:List Nat,sq l=l->hv l=l:=by
      intro l;induction l with
      |nil=>intro _;rfl
      |cons c r ih=>
       intro hs;have iX:¬(c=45/\r.head?=some 45):=by
        intro q;rw[sq,Z1 q]at hs;have hle:∀m:List Nat,(sq m).length<=m.length:=by
         intro m;induction m with
         |nil=>exact ZQ _
         |cons d m im=>
          rw[sq];split
          ·simp;exact aR 0x91b011012 rfl im
          ·simp;assumption
        have:=hle r;rw[hs]at this;simp at this;exact bC 0x6090b12 rfl this
       rw[sq,ZX iX]at hs;rw[E9 iX,ih (List.cons.inj hs).2]
     exact key _ e1
   have e:=vz (Txt.replace t "--" "-") (by rw[len_list,hr];rw[len_list]at h;exact aX 0x12002091b003 rfl h pD) (by rw[len_list,hr];rw[len_list]at hc;exact aX 0x1210201013 rfl hc pD) lV;rw[e,hr,h2]
mutual
def go:List Nat->List Nat->List (List Nat)
 |g,[]=>[g]
 |g,c::r=>if gY c then g::tY [c] r else if jw c then g::[c]::go [] r else go (g++[c]) r
def tY:List Nat->List Nat->List (List Nat)
 |d,[]=>[d,[]]
 |d,c::r=>if gY c then tY (d++[c]) r else d::(if jw c then[]::[c]::go [] r else go [c] r)
end
set_option tactic.hygienic true in
theorem MG (d:List Nat)(l:List Nat)(h:∀c,l.head?=some c->gY c=false):tY d l=d::go [] l:=by
 rcases l with⟨⟩;case nil=>simp[tY,go]
 case cons c r=>have hc:=h c rfl;simp only[tY,hc,ZX ZZ,go,hc,ZX ZZ];rfl
theorem Fx:(∀(l g b:List Nat),go g (l++45::b)=go g l++[45]::go [] b)/\∀(l d b:List Nat),tY d (l++45::b)=tY d l++[45]::go [] b:=by
 have key:∀(l:List Nat),(∀g b,go g (l++45::b)=go g l++[45]::go [] b)/\∀d b,tY d (l++45::b)=tY d l++[45]::go [] b:=by
  intro l;induction l with
  |nil=>
   refine⟨fun g b=>?_,fun d b=>?_⟩
   ·have e1:go g ([]:List Nat)=[g]:=by simp only[go]
    simp only[e1,List.nil_append];conv=>lhs;simp only[go]
    refine xR (ZX (by decide)) (xR (Z1 (by decide)) ?_);rfl
   ·have e1:tY d ([]:List Nat)=[d,[]]:=by simp only[tY]
    simp only[e1,List.nil_append];conv=>lhs;simp only[tY]
    refine xR (ZX (by decide)) (xR (Z1 (by decide)) ?_);rfl
  |cons c r ih=>
   refine⟨fun g b=>?_,fun d b=>?_⟩
   ·simp only[List.cons_append,go,go];split
    ·refine xR (ih.2 _ _) ?_;rfl
    ·split
     ·refine xR (ih.1 _ _) ?_;rfl
     ·exact xR (ih.1 _ _) rfl
   ·simp only[List.cons_append,tY,tY];split
    ·exact xR (ih.2 _ _) rfl
    ·split
     ·refine xR (ih.1 _ _) ?_;rfl
     ·refine xR (ih.1 _ _) ?_;rfl
 exact⟨fun l=>(key l).1,fun l=>(key l).2⟩
end
section
open PySem PySem.W PyProof.Rows PySem.Builtin PySem.Builtin.Str
open Mine.Internal.Re (gY jw nd find cut wq)
variable {text:Array Nat}
theorem gm (h:s<text.size):text.toList.drop s=text.getD s 0::text.toList.drop (s+1):=by have:s<text.toList.length:=h;refine xR (List.drop_eq_getElem_cons this) ?_;simp[Array.getD,h]
theorem MF:∀(n s:Nat)(d:List Nat),s+n=text.size->tY d (text.toList.drop s)=(d++(text.toList.drop s).take (nd text n s))::go [] (text.toList.drop (s+nd text n s)):=by
 intro n;induction n with
 |zero=>
  intro s d h;have e:text.toList.drop s=[]:=by rw[List.drop_eq_nil_iff];simp;exact aR 0x11180b22 rfl h
  simp[nd,e,tY,go]
 |succ n ih=>
  intro s d h;have hs:s<text.size:=aX 0x200291b0b22 rfl h;unfold nd;cases hd:gY (text.getD s 0)with
  |true=>rw[Z1 rfl,gm hs,tY,hd,Z1 rfl,ih (s+1) _ (by exact aX 0x2190bb2291b0b22 rfl h)];rw[Nat.add_comm (nd text n (s+1)) 1,Nat.add_assoc,Nat.add_comm 1 (nd text n (s+1)),List.take_succ_cons,List.append_assoc];rfl
  |false=>
   rw[ZX ZZ];rw[MG]
   ·simp
   ·intro c hc;rw[gm hs,List.head?_cons,Option.some.injEq]at hc;rw[<-hc];exact hd
theorem IF:∀(n s:Nat)(g:List Nat),s+n=text.size->match find text n s with
  |none=>go g (text.toList.drop s)=[g++text.toList.drop s]|some (p,e)=>s<=p/\p<=e/\e<=text.size/\go g (text.toList.drop s)=(g++(text.toList.drop s).take (p-s))::(text.toList.drop p).take (e-p)::go [] (text.toList.drop e):=by
 intro n;induction n with
 |zero=>
  intro s g h;have e:text.toList.drop s=[]:=by rw[List.drop_eq_nil_iff];simp;exact aR 0x11180b22 rfl h
  simp[find,e,go]
 |succ n vz=>
  intro s g h;have hs:s<text.size:=aX 0x200291b0b22 rfl h;unfold find;cases hd:gY (text.getD s 0)with
  |true=>
   rw[Z1 rfl];have PQ:=Re.JI text (n+1) s;refine⟨ZQ _,Nat.le_add_right _ _,by exact cZ 0x230b191b31291b0b23 rfl h PQ,?_⟩;rw[gm hs,go,hd,Z1 rfl,MF n (s+1) _ (by exact aX 0x2190bb2291b0b22 rfl h)];have e1:nd text (n+1) s=nd text n (s+1)+1:=by rw[nd,hd,Z1 rfl]
   rw[e1,<-gm hs,Nat.add_sub_cancel_left,Nat.sub_self,List.take_zero,Zz];congr 2
   ·rw[gm hs,List.take_succ_cons];rfl
   ·congr 2;exact aR 0x91b0b190bb21 rfl
  |false=>
   rw[ZX ZZ];cases hp:jw (text.getD s 0)with
   |true=>rw[Z1 rfl];refine⟨ZQ _,by exact bC 0x90b011 rfl,by exact aR 0x190b11002 rfl hs,?_⟩;rw[Nat.sub_self,List.take_zero,Zz,Nat.add_sub_cancel_left];rw[gm hs,go,hd,ZX ZZ,hp,Z1 rfl];rfl
   |false=>
    rw[ZX ZZ];have ih:=vz (s+1) (g++[text.getD s 0]) (aX 0x2190bb2291b0b22 rfl h);have e0:go g (text.toList.drop s)=go (g++[text.getD s 0]) (text.toList.drop (s+1)):=by rw[gm hs,go,hd,ZX ZZ,hp,ZX ZZ]
    cases hf:find text n (s+1)with
    |none=>rw[hf]at ih;dsimp only at ih ⊢;rw[e0,ih,gm hs];simp
    |some r=>obtain⟨p,e⟩:=r;rw[hf]at ih;dsimp only at ih ⊢;refine mu ih fun i1 i2 i3 i4=>?_;refine⟨by exact aR 0x101190b12 rfl i1,i2,i3,?_⟩;rw[e0,i4,gm hs,show p-s=(p-(s+1))+1 by exact aR 0x990b1cb01c2190b12 rfl i1,List.take_succ_cons];simp
theorem mY (a b:Nat):(cut text a b)=⟨((text.toList.drop a).take (b-a)).toArray⟩:=by unfold cut;apply jf;rw[Array.toList_extract,List.extract_eq_take_drop]
theorem Le:∀(k last:Nat),text.size-last<=k->last<=text.size->wq text text.size k last=(go [] (text.toList.drop last)).map fun l=>(⟨l.toArray⟩:PySem.Str):=by
 intro k;induction k with
 |zero=>
  intro last h hl;have:last=text.size:=aR 0x12011810c13 rfl h hl;subst this;rw[wq,mY];have e:text.toList.drop text.size=[]:=by rw[List.drop_eq_nil_iff];simp
  rw[e];simp[go]
 |succ k ih=>
  intro last h hl;rw[wq];have hg:=IF (text:=text) (text.size-last) last [] (aR 0x101c0b21012 rfl hl);cases hf:find text (text.size-last) last with
  |none=>rw[hf]at hg;dsimp only at hg ⊢;rw[hg,mY,List.take_of_length_le (by simp)];simp
  |some r=>obtain⟨p,e⟩:=r;rw[hf]at hg;dsimp only at hg ⊢;refine mu hg fun g1 g2 g3 g4=>?_;have:=Re.Bk hf;rw[ih e (by exact r8 0x240c110c1b414304311492b10c13 rfl h this) g3,g4,mY,mY];simp
theorem D6 (t:PySem.Str):ej t=(go [] t.cps.toList).map fun l=>(⟨l.toArray⟩:PySem.Str):=by unfold ej;rw[Le _ 0 (by exact bC 0x80c11 rfl) (Nat.zero_le _),List.drop_zero]
end
open PySem PySem.W PyProof.Rows PySem.NumText
section
variable {stg:PySem.Str->Option Int}
noncomputable def iE (l:List Nat):List Nat:=(l.reverse.dropWhile (·==45)).reverse
theorem lQ (l:List Nat)(c:Nat):iE (l++[c])=if c=45 then iE l else l++[c]:=by
 unfold iE;rw[List.reverse_append,List.reverse_singleton,List.singleton_append,List.dropWhile_cons];by_cases h:c=45
 ·subst h;simp
 ·have:(c==45)=false:=by rw[ZJ];exact h
  rw[this,ZX h];simp
theorem zc (h:t.length<=aM):fh (.str t) none (some (-1)) none=some (.str ⟨t.cps.toList.dropLast.toArray⟩):=by
 have h0:fh (.str t) none (some (-1)) none=(if t.length<=aM/\(none:Option Int)=none then some (.str ⟨(pick t.cps.toList none (some (-1)) none).toArray⟩)else none):=by rfl
 rw[h0,Z1 ⟨h,rfl⟩,fj];have:(clipAt t.cps.toList.length (-1))=t.cps.toList.length-1:=by unfold clipAt;lia
 simp only[Option.elim,List.drop_zero,Nat.sub_zero];rw[this,List.dropLast_eq_take]
theorem FP (h:t.cps.toList=[]):mW t=some false:=by
 have h0:t.length=0:=by rw[len_list,h];rfl
 unfold mW;have:nE (.str t)=some false:=by show(if t.length<=aM then some (t.length !=0)else none)=_;rw[h0];rfl
 rw[this];rfl
theorem CU (h:t.cps.toList=l++[c])(hc:t.length<=aM)(ho:c<0x110000):mW t=some (c==45):=by
 have hl:t.length=l.length+1:=by rw[len_list,h];simp
 unfold mW;have h1:nE (.str t)=some true:=by show(if t.length<=aM then some (t.length !=0)else none)=_;rw[Z1 hc,hl];rfl
 have h2:ez (.str t) (.int (-1))=some (.str ⟨#[c]⟩):=by
  have h0:ez (.str t) (.int (-1))=((dN (-1) t.length).bind fun k=>(t.cps[k]?).map fun c=>.str ⟨#[c]⟩):=by rfl
  have h3:dN (-1) t.length=some l.length:=by unfold dN;rw[ZX (by lia),Z1 (by exact aR 0xaf99fb8891b022 rfl hl)];congr 1;exact aR 0x10af99fbbf291b022 rfl hl
  have h4:t.cps[l.length]?=some c:=by rw[<-Array.getElem?_toList,h];simp
  rw[h0,h3,ZV,h4];rfl
 rw[h1,h2];show lB (.str ⟨#[c]⟩) (.str "-")=_;rw[vT (by rw[jg];simpa using ho) (by decide +kernel)];congr 1;rw[Bool.eq_iff_iff,beq_iff_eq,beq_iff_eq];constructor
 ·intro q;have h9:=congrArg (fun t:PySem.Str=>t.cps.toList) q;have e9:("-":PySem.Str).cps.toList=[45]:=by rfl
  dsimp only at h9;rw[e9]at h9;simpa using h9
 ·intro q;subst q;rfl
theorem Hb:my (k+1) t=(match mW t with
   |none=>none|some false=>some t|some true=>Hh (fh (.str t) none (some (-1)) none) (my k)):=rfl
theorem Ha:∀(k:Nat)(t:PySem.Str),t.length<k->t.length<=aM->(∀x∈t.cps.toList,x<0x110000)->my k t=some ⟨(iE t.cps.toList).toArray⟩:=by
 intro k;induction k with
 |zero=>intro t h _ _;exact absurd h (Nat.not_lt_zero _)
 |succ k ih=>
  intro t h hc ho;rw[Hb];refine Z4 (List.eq_nil_or_concat t.cps.toList) (fun e=>?_) fun y0=>?_
  ·rw[FP e];have:t=⟨(iE t.cps.toList).toArray⟩:=jf (by rw[e];rfl);exact congrArg some this
  ·refine jK y0 fun l c e=>?_;rw[List.concat_eq_append]at e;rw[CU e hc (ho c (by rw[e];simp))];by_cases hq:c=45
   ·have:(c==45)=true:=by rw[beq_iff_eq];exact hq
    rw[this,zc hc];show my k _=_;have e2:(⟨t.cps.toList.dropLast.toArray⟩:PySem.Str).cps.toList=l:=by rw[e];simp
    have hl:t.length=l.length+1:=by rw[len_list,e];simp
    rw[ih _ (by rw[len_list,e2];exact aX 0x12092b0291b003 rfl h hl) (by rw[len_list,e2];exact aX 0x12192b021013 rfl hc hl) (fun x hx=>ho x (by rw[e2]at hx;rw[e];simp[hx])),e2,e,lQ,Z1 hq]
   ·have:(c==45)=false:=by rw[ZJ];exact hq
    rw[this];have:t=⟨(iE t.cps.toList).toArray⟩:=jf (by rw[e,lQ,ZX hq]);exact congrArg some this
def toks (stg:PySem.Str->Option Int)(l:List Nat):List Dat:=(go [] l).flatMap fun p=>cD stg ⟨p.toArray⟩
def eK (l:List Nat):Bool:=(go [] l).all fun p=>ee ⟨p.toArray⟩
theorem jO (a b:List Nat):toks stg (a++45::b)=toks stg a++toks stg b:=by
 unfold toks;rw[Fx.1,List.flatMap_append,List.flatMap_cons];have:cD stg ⟨[45].toArray⟩=[]:=by unfold cD;rw[Z1 (by decide +kernel)]
 rw[this];rfl
theorem iF (a b:List Nat):eK (a++45::b)=(eK a&&eK b):=by
 unfold eK;rw[Fx.1,List.all_append,List.all_cons];have:ee ⟨[45].toArray⟩=true:=by unfold ee;rw[Bool.or_eq_true];exact .inl (by decide +kernel)
 rw[this];rfl
theorem mz:toks stg []=[]:=by
 unfold toks;have:go [] []=[[]]:=by rw[go]
 rw[this,List.flatMap_singleton];unfold cD;rw[Z1 (by decide +kernel)]
theorem nN:eK []=true:=by
 unfold eK;have:go [] []=[[]]:=by rw[go]
 rw[this];have:ee ⟨[].toArray⟩=true:=by unfold ee;rw[Bool.or_eq_true];exact .inl (by decide +kernel)
 simpa using this
set_option tactic.hygienic true in
theorem Hd:∀(l a:List Nat),toks stg (a++sq l)=toks stg (a++l)/\eK (a++sq l)=eK (a++l):=by
 intro l;induction l with
 |nil=>intro a;exact⟨rfl,rfl⟩
 |cons c r ih=>
  intro a;rw[sq];split
  ·rename_i h;refine aL h ?_;clear h;rintro(rfl) h2;refine aL (ih a) fun i1 i2=>?_;rw[i1,i2];rcases r with⟨⟩;case nil=>exact aa h2
   case cons d r=>rw[List.head?_cons,Option.some.injEq]at h2;subst h2;have e1:=jO (stg:=stg) [] r;have e2:=iF [] r;rw[List.nil_append]at e1 e2;rw[jO a r,jO a (45::r),iF a r,iF a (45::r),e1,e2,mz,nN];exact⟨rfl,rfl⟩
  ·refine aL (ih (a++[c])) fun i1 i2=>?_;simp only[List.append_assoc,List.singleton_append]at i1 i2;exact⟨i1,i2⟩
theorem yY:∀(n:Nat)(l:List Nat),l.length=n->toks stg (iE l)=toks stg l/\eK (iE l)=eK l:=by
 intro n;induction n with
 |zero=>intro l h;have:l=[]:=List.length_eq_zero_iff.mp h;subst this;exact⟨rfl,rfl⟩
 |succ n ih=>
  intro l h;refine Z4 (List.eq_nil_or_concat l) (fun e=>?_) fun y0=>?_
  ·subst e;exact⟨rfl,rfl⟩
  ·refine jK y0 fun m c e=>?_;rw[List.concat_eq_append]at e;subst e;rw[lQ];split
   ·rename_i hc;subst hc;refine aL (ih m (by simpa using h)) fun i1 i2=>?_;have e1:=jO (stg:=stg) m [];have e2:=iF m [];rw[i1,i2,e1,e2,mz,nN];simp
   ·exact⟨rfl,rfl⟩
theorem AL:∀l:List (List Nat),toks stg (jn 45 l)=l.flatMap (toks stg)/\eK (jn 45 l)=l.all eK|[]=>⟨mz,nN⟩|[a]=>⟨by simp[jn],by simp[jn]⟩|a::b::r=>by refine aL (AL (b::r)) fun i1 i2=>?_;show toks stg (a++45::jn 45 (b::r))=_/\eK (a++45::jn 45 (b::r))=_;rw[jO,iF,i1,i2];exact⟨rfl,rfl⟩
noncomputable def tr (c:Nat):Nat:=if c=32 then 95 else if c=47\/c=92\/c=58\/c=59\/c=34\/c=40\/c=41 then 45 else c
noncomputable def GR:List Nat:=[117,110,107,110,111,119,110]
def kept (y:PySem.Str):List Nat:=iq GR [] 0 ((Txt.strip y).cps.toList.map tr)
theorem eI (x a b:PySem.Str)(c d:Nat)(ha:a.cps.toList=[c])(hb:b.cps.toList=[d]):(Txt.replace x a b).cps.toList=x.cps.toList.map fun x=>if x=c then d else x:=by rw[jh x a b (by rw[len_list,ha];exact ZQ _),ha,hb,uT]
theorem NY (l:List Nat):(((((((l.map (fun x=>if x=32 then 95 else x)).map (fun x=>if x=47 then 45 else x)).map (fun x=>if x=92 then 45 else x)).map (fun x=>if x=58 then 45 else x)).map (fun x=>if x=59 then 45 else x)).map (fun x=>if x=34 then 45 else x)).map (fun x=>if x=40 then 45 else x)).map (fun x=>if x=41 then 45 else x)=l.map tr:=by
 simp only[ZH];refine ZF fun x y=>?_;simp only[Function.comp_apply,tr];by_cases h1:x=32
 ·subst h1;rfl
 ·rw[ZX h1,ZX h1];by_cases h2:x=47
  ·subst h2;rfl
  ·by_cases h3:x=92
   ·subst h3;rfl
   ·by_cases h4:x=58
    ·subst h4;rfl
    ·by_cases h5:x=59
     ·subst h5;rfl
     ·by_cases h6:x=34
      ·subst h6;rfl
      ·by_cases h7:x=40
       ·subst h7;rfl
       ·by_cases h8:x=41
        ·subst h8;rfl
        ·simp[h2,h3,h4,h5,h6,h7,h8]
theorem AQ (y:List Nat):∀(k:Nat)(l:List Nat),(iq y [] k l).length<=l.length/\∀x∈iq y [] k l,x∈l:=by
 intro k l;induction l generalizing k with
 |nil=>rcases k with⟨⟩<;>exact⟨ZQ _,fun x h=>h⟩
 |cons c r ih=>
  rw[iq];split
  ·have:=ih (k-1);exact⟨by simp;lia,fun x hx=>Z7 _ (this.2 x hx)⟩
  ·split
   ·have:=ih (y.length-1);exact⟨by simp;lia,fun x hx=>Z7 _ (this.2 x (by simpa using hx))⟩
   ·have:=ih 0;refine⟨by simp;lia,fun x hx=>?_⟩;refine Z4 (Zy hx) (fun q=>?_) fun q=>?_
    ·rw[q];exact Z6
    ·exact Z7 _ (this.2 x q)
theorem D5:∀l:List Nat,(sq l).length<=l.length/\∀x∈sq l,x∈l:=by
 intro l;induction l with
 |nil=>exact⟨ZQ _,fun x h=>h⟩
 |cons c r ih=>
  have:=ih;rw[sq];split
  ·exact⟨by simp;lia,fun x hx=>Z7 _ (this.2 x hx)⟩
  ·refine⟨by simp;lia,fun x hx=>?_⟩;refine Z4 (Zy hx) (fun q=>?_) fun q=>?_
   ·rw[q];exact Z6
   ·exact Z7 _ (this.2 x q)
theorem BS (l:List Nat):(iE l).length<=l.length/\∀x∈iE l,x∈l:=by unfold iE;have h1:(l.reverse.dropWhile (·==45)).Sublist l.reverse:=List.dropWhile_sublist _;have h2:=h1.reverse;rw[List.reverse_reverse]at h2;exact⟨h2.length_le,fun x hx=>h2.subset hx⟩
theorem tD (x:PySem.Str):(Txt.strip x).cps.toList.length<=x.cps.toList.length/\∀c∈(Txt.strip x).cps.toList,c∈x.cps.toList:=by
 unfold Txt.strip Txt.stripBy;split
 ·exact⟨ZQ _,fun c h=>h⟩
 ·unfold PySem.stripped;rw[jR];have h1:=(List.take_sublist (stripHi Unicode.isSpace true x (stripLo Unicode.isSpace true x)-stripLo Unicode.isSpace true x) (x.cps.toList.drop (stripLo Unicode.isSpace true x))).trans (List.drop_sublist _ x.cps.toList);exact⟨h1.length_le,fun c h=>h1.subset h⟩
theorem E5 (s:Nat):∀l:List (List Nat),(jn s l).length<=(l.map (·.length)).sum+l.length|[]=>Nat.zero_le _|[a]=>by simp[jn]|a::b::r=>by have:=E5 s (b::r);show(a++s::jn s (b::r)).length<=_;simp only[ZN,List.length_cons,ZI,List.sum_cons]at this ⊢;exact r8 0x993bb21b4bb90b4b193b21bb012 rfl this
theorem E4 (s:Nat):∀(l:List (List Nat))(x:Nat),x∈jn s l->x=s\/∃a∈l,x∈a
 |[],x,h=>by(rcases h with⟨⟩)
 |[a],x,h=>.inr ⟨a,List.mem_singleton.mpr rfl,h⟩
 |a::b::r,x,h=>by
  have h':x∈a++s::jn s (b::r):=h;refine Z4 (List.mem_append.mp h') (fun q=>?_) fun q=>?_
  ·exact .inr ⟨a,Z6,q⟩
  ·refine Z4 (Zy q) (fun q=>?_) fun q=>?_
   ·exact .inl q
   ·refine Z4 (E4 s (b::r) x q) (fun q=>?_) fun y0=>?_
    ·exact .inl q
    ·refine ax y0 fun c hc q=>?_;exact .inr ⟨c,Z7 _ hc,q⟩
theorem DU:∀l:List Nat,(∀x∈l,x<=k)->l.sum<=l.length*k:=by intro l;induction l with|nil=>intro _;exact Nat.zero_le _|cons a l ih=>intro h;have h1:=ih fun x hx=>h x (Z7 _ hx);have h2:=h a Z6;rw[List.sum_cons,List.length_cons,Nat.succ_mul];exact cZ 0x31b02b13211013 rfl h1 h2
def Small (ys:List PySem.Str):Prop:=ys.length<=200/\∀y∈ys,y.length<=60/\∀c∈y.cps.toList,c<128
noncomputable def full (ys:List PySem.Str):List PySem.Str:=ys.filter fun y=>y.length !=0
theorem oS (h:Small ys):((full ys).map Txt.strip).length<=200/\∀z∈(full ys).map Txt.strip,z.length<=60/\∀c∈z.cps.toList,c<128:=by
 refine⟨?_,fun z hz=>?_⟩
 ·rw[Z2];exact ZK (List.length_filter_le _ _) h.1
 ·refine ax (Zx hz) ?_;rintro y hy (rfl);have:=h.2 y (List.mem_filter.mp hy).1;have hs:=tD y;exact⟨by rw[len_list];rw[len_list]at this;lia,fun c hc=>this.2 c (hs.2 c hc)⟩
theorem lU (ys:List PySem.Str):(cW "-" ys).cps.toList=jn 45 (((full ys).map Txt.strip).map (·.cps.toList)):=by unfold cW Txt.join;rw[StrLaws.glued_eq_join];exact join_list 45 _
theorem o3 (h:Small ys):(cW "-" ys).length<=12200/\∀c∈(cW "-" ys).cps.toList,c<128:=by
 refine aL (oS h) fun h1 h2=>?_;rw[len_list,lU];refine⟨?_,fun c hc=>?_⟩
 ·have a1:=E5 45 (((full ys).map Txt.strip).map (·.cps.toList));have a2:=DU (k:=60) ((((full ys).map Txt.strip).map (·.cps.toList)).map (·.length)) (fun x hx=>by refine ax (Zx hx) ?_;rintro l hl (rfl);refine ax (Zx hl) ?_;rintro z hz (rfl);have:=(h2 z hz).1;rw[len_list]at this;exact this);simp only[Z2]at a1 a2 h1;have:(full ys).length*60<=200*60:=Nat.mul_le_mul_right _ h1;exact aX 0x2fa88f013cac8d23ce123ce1121b014 rfl a1 a2 this
 ·refine Z4 (E4 45 _ c hc) (fun q=>?_) fun y0=>?_
  ·exact bC 0x80a002da022 rfl q
  ·refine ax y0 fun a ha q=>?_;(refine ax (Zx ha) ?_;rintro z hz (rfl));exact(h2 z hz).2 c q
theorem ie (t:PySem.Str):(eQ t).cps.toList=iq GR [] 0 (t.cps.toList.map tr):=by unfold eQ;have h9:∀u:PySem.Str,(K0 u).cps.toList=iq GR [] 0 u.cps.toList:=fun u=>jh u "unknown" "" (by decide);rw[h9,<-NY];unfold Ec zh uU qv nK rep3 rep2 rep1;rw[eI _ ")" "-" 41 45 rfl rfl,eI _ "(" "-" 40 45 rfl rfl,eI _ "\"" "-" 34 45 rfl rfl,eI _ ";" "-" 59 45 rfl rfl,eI _ ":" "-" 58 45 rfl rfl,eI _ "\\" "-" 92 45 rfl rfl,eI _ "/" "-" 47 45 rfl rfl,eI _ " " "_" 32 95 rfl rfl]
theorem sS (h:t.length<=aM):m8 t=true:=by
 have e:∀{u:PySem.Str}{a b:PySem.Str}{c d:Nat},a.cps.toList=[c]->b.cps.toList=[d]->u.length<=aM->(Txt.replace u a b).length<=aM:=fun ha hb hu=>by rw[len_list,eI _ _ _ _ _ ha hb,Z2,<-len_list];exact hu
 have e1:(rep1 t).length<=aM:=e (c:=32) (d:=95) rfl rfl h;have e2:=e (a:="/") (b:="-") (c:=47) (d:=45) rfl rfl e1;have e3:=e (a:="\\") (b:="-") (c:=92) (d:=45) rfl rfl e2;have e4:=e (a:=":") (b:="-") (c:=58) (d:=45) rfl rfl e3;have e5:=e (a:=";") (b:="-") (c:=59) (d:=45) rfl rfl e4;have e6:=e (a:="\"") (b:="-") (c:=34) (d:=45) rfl rfl e5;have e7:=e (a:="(") (b:="-") (c:=40) (d:=45) rfl rfl e6;have e8:=e (a:=")") (b:="-") (c:=41) (d:=45) rfl rfl e7;exact decide_eq_true ⟨h,e1,e2,e3,e4,e5,e6,e7,e8⟩
theorem NX (h:c<128):tr c<128:=by
 unfold tr;split
 ·lia
 ·split
  ·lia
  ·exact h
theorem vn (h:Small ys):JD ys=some ⟨(iE (sq (jn 45 ((full ys).map kept)))).toArray⟩:=by
 refine aL (o3 h) fun j1 j2=>?_;have eT:(cW "-" ys).length<=aM:=by unfold aM;exact bC 0xf42408f0100002fa88f012 rfl j1
 have hk:(eQ (cW "-" ys)).cps.toList=jn 45 ((full ys).map kept):=by rw[ie,lU,zM (by decide),zL (by decide) (by decide)];simp only[ZH];rfl
 have zV:(eQ (cW "-" ys)).length<=(cW "-" ys).length/\∀c∈(eQ (cW "-" ys)).cps.toList,c<128:=by rw[len_list,ie,len_list];have:=AQ GR 0 ((cW "-" ys).cps.toList.map tr);refine⟨by simpa using this.1,fun c hc=>?_⟩;refine ax (Zx (this.2 c hc)) ?_;rintro d hd (rfl);exact NX (j2 d hd)
 have UQ:=D5 (eQ (cW "-" ys)).cps.toList;unfold JD;have hj:gW "-" ys=true:=by
  unfold gW;simp only[ZR,List.all_eq_true,decide_eq_true_eq];refine⟨⟨by have:=h.1;unfold aM;exact bC 0xf42408f01c8a012 rfl this,fun z hz=>by have:=(h.2 z hz).1;unfold aM;exact bC 0xf42408f013ca012 rfl this⟩,?_⟩;refine aL (oS h) fun s1 s2=>?_;have a2:=DU (k:=60) (((full ys).map Txt.strip).map (·.length)) (fun x hx=>by refine ax (Zx hx) ?_;rintro z hz (rfl);exact(s2 z hz).1);have e1:("-":PySem.Str).length=1:=by rfl
  have:(full ys).length*60<=200*60:=Nat.mul_le_mul_right _ (by simpa using s1);show(((full ys).map Txt.strip).map (·.length)).sum+((full ys).map Txt.strip).length*("-":PySem.Str).length<=16777216;rw[e1];simp only[Z2]at *;exact aR 0x10000008f001e1b103ce11c8a013 rfl s1 a2
 rw[Z1 (by rw[hj,sS eT];rfl)];rw[y9 _ _ (by lia) (by lia) ((jg _).mpr fun c hc=>by have:=zV.2 c hc;exact bC 0x1100008f0080a002 rfl this),ZV];have Ik:(⟨(sq (eQ (cW "-" ys)).cps.toList).toArray⟩:PySem.Str).length<=(cW "-" ys).length:=by rw[len_list];have:=zV.1;rw[len_list]at this;exact ZK UQ.1 this
 rw[Ha _ _ (by exact aR 0x2a1b001012 rfl Ik) (by exact aX 0x1210211013 rfl eT Ik) (fun c hc=>by have:=zV.2 c (UQ.2 c (by simpa using hc));exact bC 0x1100008f0080a002 rfl this)];show some (⟨(iE (sq (eQ (cW "-" ys)).cps.toList)).toArray⟩:PySem.Str)=_;rw[hk]
theorem ME:∀l:List Nat,(∀g,(go g l).length<=2*l.length+1)/\∀d,(tY d l).length<=2*l.length+2:=by
 intro l;induction l with
 |nil=>exact⟨fun g=>by rw[go];simp,fun d=>by rw[tY];simp⟩
 |cons c r ih=>
  refine aL (ih) fun i1 i2=>?_;refine⟨fun g=>?_,fun d=>?_⟩
  ·rw[go];split
   ·have:=i2 [c];simp;exact aR 0x91b02d0102a102db012 rfl this
   ·split
    ·have:=i1 [];simp;exact aR 0x91b02d90b19102db012 rfl this
    ·have:=i1 (g++[c]);simp;exact aR 0x991b02db019102db012 rfl this
  ·rw[tY];split
   ·have:=i2 (d++[c]);simp;exact aR 0x2a91b02db0102a102db012 rfl this
   ·split
    ·have:=i1 [];simp;exact aR 0x91b02d90b19102db012 rfl this
    ·have:=i1 [c];simp;exact aR 0x991b02db019102db012 rfl this
theorem I0 (hl:l.length<=20000)(ho:eK l=true):F2 stg [.str ⟨l.toArray⟩]=some (.list (toks stg l)):=by
 have Wx:ej ⟨l.toArray⟩=(go [] l).map fun p=>(⟨p.toArray⟩:PySem.Str):=by rw[D6]
 have h0:F2 stg [.str ⟨l.toArray⟩]=(if decide ((⟨l.toArray⟩:PySem.Str).length<=65536)&&(ej ⟨l.toArray⟩).all ee&&decide (2*(ej ⟨l.toArray⟩).length<=aM)then some (.list ((ej ⟨l.toArray⟩).flatMap (cD stg)))else none):=by rfl
 rw[h0,Wx];have h1:(⟨l.toArray⟩:PySem.Str).length<=65536:=by rw[len_list];simp;exact bC 0x100008f0100004e208f012 rfl hl
 have h2:((go [] l).map fun p=>(⟨p.toArray⟩:PySem.Str)).all ee=true:=by rw[List.all_map];exact ho
 have h3:2*((go [] l).map fun p=>(⟨p.toArray⟩:PySem.Str)).length<=aM:=by rw[Z2];have:=(ME l).1 [];unfold aM;exact aR 0xf42408f102d19002db1100004e208f013 rfl hl this
 rw[Z1 (by rw[decide_eq_true h1,h2,decide_eq_true h3];rfl),List.flatMap_map];rfl
theorem AK (h:Small ys)(eN:∀y∈ys,eK (kept y)=true):∃v,JD ys=some v/\F2 stg [.str v]=some (.list (ys.flatMap fun y=>toks stg (kept y))):=by
 refine⟨_,vn h,?_⟩;have j1:=(o3 h).1;have hk:(jn 45 ((full ys).map kept)).length<=12200:=by
  have hk:(eQ (cW "-" ys)).cps.toList=jn 45 ((full ys).map kept):=by rw[ie,lU,zM (by decide),zL (by decide) (by decide)];simp only[ZH];rfl
  have:=AQ GR 0 ((cW "-" ys).cps.toList.map tr);rw[<-hk,ie];rw[len_list]at j1;have h9:=this.1;rw[Z2]at h9;exact aR 0x2fa88f1101100002fa88f013 rfl j1 h9
 have h1:=(BS (sq (jn 45 ((full ys).map kept)))).1;have h2:=(D5 (jn 45 ((full ys).map kept))).1;refine aL (yY (stg:=stg) _ (sq (jn 45 ((full ys).map kept))) rfl) fun t1 t2=>?_;have t3:=Hd (stg:=stg) (jn 45 ((full ys).map kept)) [];rw[List.nil_append,List.nil_append]at t3;refine aL (AL (stg:=stg) ((full ys).map kept)) fun t4 t5=>?_;rw[I0 (by exact aX 0x4e208f1102121100002fa88f014 rfl hk h1 h2) (by rw[t2,t3.2,t5,List.all_map,List.all_eq_true];exact fun y hy=>eN y (List.mem_filter.mp hy).1),t1,t3.1,t4,List.flatMap_map];congr 2;clear eN h j1 hk h1 h2 t1 t2 t3 t4 t5;induction ys with
 |nil=>rfl
 |cons y ys ih=>
  unfold full at ih ⊢;rw[List.filter_cons,List.flatMap_cons];split
  ·rw[List.flatMap_cons,ih]
  ·rename_i hy;have h0:y.cps.toList=[]:=by
    have:y.length=0:=by simpa using hy
    rw[len_list]at this;exact List.length_eq_zero_iff.mp this
   have h1:(Txt.strip y).cps.toList=[]:=by have:=(tD y).1;rw[h0]at this;exact List.length_eq_zero_iff.mp (by simpa using this)
   have:kept y=[]:=by unfold kept;rw[h1];rfl
   rw[this,mz,ih];rfl
end
end Tx
end Mine.Internal
namespace Mine.Internal
open PySem PySem.W PyProof.Rows
variable {C:Cx} {A:Around} {E:Value->Shared->Prop} {s s' fM s₀:Shared} {vol aj W W' W₀:Addr->Prop} {env:Env} {sc bD:Scope} {vars vars' V V':az} {n k i:Nat} {Φ:gq} {ad:Str->Addr} {prog:Program} {w:World} {h h':Heap} {o:Obj} {a I D L:Addr} {d:Dat} {v u:Value} {ds:List Dat} {vs:List Value} {x:Str} {t value:Expr} {pos p:Pos} {Q:Value->Shared->Prop} {K:Env->Around->Prop}
section
variable {Ψ:nz} {st:Stmt} {sts:List Stmt} {fl:Fl}
def uS (Φ:gq)(Ψ:nz)(sc:Scope)(body:List Stmt)(xs:List Str)(ds:List Dat):Option Dat:=if xs.length=ds.length then match bT Φ Ψ sc body (bB xs ds)with
  |some (.ret d)=>some d|_=>none
 else none
theorem pR (hl:xs.length=ds.length)(h:bT Φ Ψ sc body (bB xs ds)=some (.ret d)):uS Φ Ψ sc body xs ds=some d:=by unfold uS;rw[Z1 hl,h]
set_option tactic.hygienic true in
theorem mB (ds:List Dat)(d:Dat)(h:uS Φ Ψ sc body xs ds=some d):xs.length=ds.length/\bT Φ Ψ sc body (bB xs ds)=some (.ret d):=by
 unfold uS at h;split at h
 ·rename_i hl;refine⟨hl,?_⟩;split at h
  ·rename_i r hr;obtain rfl:=Z9 h;exact hr
  ·exact aa h
 ·exact aa h
def Jq (A B:az)(l:List Str):Prop:=(l.map fun x=>A.lookup x)=l.map fun x=>B.lookup x
theorem lookup_none:∀{A:az},x∉A.map (·.1)->A.lookup x=none:=by
 intro A;induction A with
 |nil=>intro _;exact rfl
 |cons y0 A ih=>intro h;obtain⟨y,s⟩:=y0;have h1:x≠y:=fun q=>h (q▸Z6);rw[ae h1];exact ih fun q=>h (Z7 _ q)
theorem bG.fN {A B:az}(h:Jq A B (A.map (·.1)++B.map (·.1))):bG A B:=fun x=>by
 by_cases hx:x∈A.map (·.1)++B.map (·.1)
 ·exact List.map_inj_left.mp h x hx
 ·rw[lookup_none fun q=>hx (List.mem_append_left _ q),lookup_none fun q=>hx (List.mem_append_right _ q)]
noncomputable def jv (t:Str):Option Dat->az|none=>[]|some d=>[(t,.val d)]
set_option tactic.hygienic true in
theorem bG.over {t:Str}{s:Slot}(h:bG V (jv t J++B)):bG ((t,s)::V) ((t,s)::B):=by
 refine(h.cons t s).trans ?_;rcases J with⟨⟩;case none=>exact .refl _
 case some u=>exact bG.shadow
def jT (Φ:gq)(Ψ:nz)(sc:Scope)(t:Expr)(body:List Stmt):Dat->az->Option Fl:=fun d vs=>match bp sc t d vs with
      |none=>none|some vs=>bT Φ Ψ sc body vs
theorem fQ {t:Str}{α:Type}(hg:iV Ψ)(ht:∀d V,bp sc te d V=some ((t,.val d)::V))(base:α->az)(I:List Dat->α->Prop)(step:∀done d rest a,items=done++d::rest->I done a->∃a' W,bT Φ Ψ sc body ((t,.val d)::base a)=some (.next W)/\bG W ((t,.val d)::base a')/\I (done++[d]) a'):∀(rest done:List Dat)(V:az)(a:α)(J:Option Dat),items=done++rest->bG V (jv t J++base a)->I done a->∃V' J' a',cQ (jT Φ Ψ sc te body) rest V=some (.next V')/\(J.isSome=true\/rest≠[]->J'.isSome=true)/\bG V' (jv t J'++base a')/\I items a':=by
 intro rest;induction rest with
 |nil=>intro done V a J hi hV hI;exact⟨V,J,a,rfl,fun h=>h.resolve_right fun q=>q rfl,hV,by rw[hi,Zz];exact hI⟩
 |cons d ds ih=>
  intro done V a J hi hV hI;refine eB (step done d ds a hi hI) fun a1 W h1 h2 h3=>?_;refine ax (kq hg hV.over h1) fun W' h4 h5=>?_;refine jz (ih (done++[d]) W' a1 (some d) (by rw[hi];simp) (h5.trans h2) h3) fun V' J' a' h6 h9 h7 h8=>?_;refine⟨V',J',a',?_,fun x=>h9 (.inl rfl),h7,h8⟩;rw[fu (vars':=W')]
  ·exact h6
  ·show(match bp sc te d V with
      |none=>none|some vs=>bT Φ Ψ sc body vs)=_
   rw[ht];exact h4
theorem gk (hz:Φ.rO "zip"=none)(h:ev Φ sc it vars=some src)(hi:bb src=some items):ex Φ Ψ sc (.For t it b [] p) vars=cQ (jT Φ Ψ sc t b) items vars:=vK (pN hz) (kr h) hi
theorem nc {a b:Int}(ha:aG a=true)(hb:aG b=true):js .Mult (.int a) (.int b)=some (.int (a*b)):=by show(if aG a&&aG b then some (Dat.int (a*b))else none)=_;rw[ha,hb];rfl
theorem kF {a b:Int}:js .Add (.int a) (.int b)=some (.int (a+b)):=rfl
theorem Gq {a b:Int}:js .Sub (.int a) (.int b)=some (.int (a-b)):=rfl
theorem ed {a b:Int}(hb:b≠0):js .Mod (.int a) (.int b)=some (.int (a.fmod b)):=by show(if b=0 then none else some (Dat.int (a.fmod b)))=_;rw[ZX hb]
theorem iQ {a b:Int}(hb:b≠0)(hs:b.natAbs<1073741824):js .FloorDiv (.int a) (.int b)=some (.int (a.fdiv b)):=by show(if b=0\/¬b.natAbs<1073741824 then none else some (Dat.int (a.fdiv b)))=_;rw[ZX (by simp[hb];exact hs)]
theorem dA {a:Int}(h1: -1000000<=a)(h2:a<=1000000):aG a=true:=by unfold aG;simp only[ZR,decide_eq_true_eq];lia
theorem EN (h:acc.length+1<=aM):qK "append" (.list acc) [d]=some (.list (acc++[d])):=by unfold qK;dsimp only;rw[Z1 rfl,Z1 h]
theorem ke {α β:Type}{f:α->Option (List β)}{g:α->List β}:∀{l:List α},(∀a∈l,f a=some (g a))->cG f l=some (l.flatMap g):=by intro l;induction l with|nil=>intro _;exact rfl|cons a l ih=>intro h;show((f a).bind fun bs=>(cG f l).bind fun cs=>some (bs++cs))=_;rw[h a Z6,ZV,ih fun b hb=>h b (Z7 _ hb)];rfl
theorem qO {α β:Type}{f:α->Option (List β)}{g:α->β}{l:List α}(h:∀a∈l,f a=some [g a]):cG f l=some (l.map g):=by rw[ke h];congr 1;induction l with|nil=>rfl|cons a l ih=>rw[List.flatMap_cons,ZI,ih fun b hb=>h b (Z7 _ hb)];rfl
def dh (op:Operator)(x y:Option Dat):Option Dat:=x.bind fun a=>y.bind fun b=>js op a b
noncomputable def Gg (g:List Dat->Option Dat)(x:Option Dat):Option Dat:=(x.bind fun d=>some [d]).bind g
def kB (g:List Dat->Option Dat)(x:Option Dat):Option Dat:=((x.map one).bind fun xs=>some (xs++[])).bind g
def gL (src:Option Dat)(f:Dat->Option (List Dat)):Option Dat:=src.bind fun src=>(bb src).bind fun items=>(cG f items).bind yt
def kX (x:Option Dat):Option (List Dat):=x.map one
theorem fS {a:Dat}:kB g (some a)=g [a]:=rfl
theorem br {op:Operator}{a b:Dat}:dh op (some a) (some b)=js op a b:=rfl
theorem As {a:Dat}:Gg g (some a)=g [a]:=rfl
theorem el {src:Dat}{items:List Dat}{f:Dat->Option (List Dat)}{g:Dat->Dat}(hi:bb src=some items)(hf:∀d∈items,f d=some [g d])(hl:items.length<=aM):gL (some src) f=some (.list (items.map g)):=by show((bb src).bind fun items=>(cG f items).bind yt)=_;rw[hi,ZV,qO hf];show(if(items.map g).length<=aM then some (Dat.list (items.map g))else none)=_;rw[Z1 (by rw[Z2];exact hl)]
noncomputable def AD (x:Option Dat):Option (List Dat):=x.bind fun d=>some [d]
def zx (m x:Str)(a:Dat)(e:Option (List Dat))(V:az):Option Fl:=e.bind fun ds=>(qK m a ds).map fun a'=>.next ((x,.own a')::V)
theorem iG (h:acc.length+1<=aM):zx "append" x (.list acc) (AD (some d)) V=some (.next ((x,.own (.list (acc++[d])))::V)):=by show(qK "append" (.list acc) [d]).map (fun a'=>Fl.next ((x,Slot.own a')::V))=_;rw[EN h];rfl
def G9 (a:Dat)(x:Option Dat):Option Dat:=((x.bind fun d=>some [d]).map fun ds=>a::ds).bind QN
theorem BH {a b:Dat}:G9 a (some b)=some (.tuple [a,b]):=rfl
noncomputable def Hm (x:Option Dat)(W:az):Option Fl:=(x.map fun d=>(d,W)).map fun r:Dat×az=>.ret r.1
theorem BU {a:Dat}{W:az}:Hm (some a) W=some (.ret a):=rfl
def uL (ds:List Dat)(lo hi st m:Int):Option Dat:=Gg sumF (gL (fh (.list ds) (some lo) (some hi) (some st)) fun d=>kX (js .Mod d (.int m)))
theorem Ct (is:List Int)(lo hi st:Option Int):pick (is.map Dat.int) lo hi st=(pick is lo hi st).map .int:=by unfold pick;simp only[Z2];generalize sliceRange _ _ _=l;induction l with|nil=>rfl|cons k l ih=>rw[List.filterMap_cons,List.filterMap_cons,ZP,ih];cases is[k]? <;>rfl
theorem BN:∀is:List Int,is.length<=aM->∃z:Int,sumF [.list (is.map .int)]=some (.int z):=by
 intro is hl;have h:intsOf (is.map .int)=some is:=by clear hl;induction is with|nil=>rfl|cons i is ih=>show(intsOf (is.map .int)).map (i::·)=_;rw[ih];rfl
 refine⟨is.sum,?_⟩;show(intsOf (is.map .int)).map (fun ns=>Dat.int ns.sum)=_;rw[h];rfl
noncomputable def HG (f:Int->Dat):Dat->Dat| .int i=>f i|d=>d
theorem tC {is:List Int}{lo hi st m:Int}(hl:is.length<=63)(hm:m≠0)(xY:st≠0)(h1:aG lo=true)(h2:aG hi=true)(h3:aG st=true):∃z:Int,uL (is.map .int) lo hi st m=some (.int z):=by
 have hs:fh (.list (is.map .int)) (some lo) (some hi) (some st)=some (.list ((pick is (some lo) (some hi) (some st)).map .int)):=by show(if(some st=some (0:Int)\/(some lo).all aG=false\/(some hi).all aG=false\/(some st).all aG=false)then none else(if(is.map Dat.int).length<=aM then some (Dat.list (pick (is.map Dat.int) (some lo) (some hi) (some st)))else none))=_;rw[ZX (by simp[xY,h1,h2,h3]),Z1 (by rw[Z2];unfold aM;exact bC 0xf42408f013fa012 rfl hl),Ct]
 have hp:=xf is (some lo) (some hi) (some st) (by simpa using xY);unfold uL;rw[hs,el (items:=(pick is (some lo) (some hi) (some st)).map .int) (g:=HG fun x=>Dat.int (x.fmod m)) rfl (fun a ha=>by refine ax (Zx ha) ?_;rintro x _ (rfl);rw[ed hm];rfl) (by rw[Z2];unfold aM;exact aR 0xf42408f110113fa013 rfl hl hp),As,ZH];have:=BN ((pick is (some lo) (some hi) (some st)).map fun x=>x.fmod m) (by rw[Z2];unfold aM;exact aR 0xf42408f110113fa013 rfl hl hp);rw[ZH]at this;exact this
end
open PySem.NumText
theorem dp (h:n<=aM):bb (.range 0 (n:Int) 1)=some ((List.range n).map fun k:Nat=>.int (k:Int)):=by have:=jl (n:=n) (w:=1) (by decide) (Nat.mod_one _) h (by decide);rw[Nat.div_one]at this;rw[show((1:Nat):Int)=1 from rfl]at this;rw[this,List.range_eq_range'];refine congrArg some (ZF fun k x=>?_);rw[Nat.mul_one]
mutual
noncomputable def eqB:Dat->Dat->Bool
 | .none,.none=>true
 | .bool a,.bool b=>a==b
 | .int a,.int b=>a==b
 | .str a,.str b=>a.cps.toList==b.cps.toList
 | .bytes a,.bytes b=>a==b
 | .tuple a,.tuple b=>vV a b
 | .list a,.list b=>vV a b
 |_,_=>false
noncomputable def vV:List Dat->List Dat->Bool
 |[],[]=>true
 |a::as,b::bs=>eqB a b&&vV as bs
 |_,_=>false
end
theorem IP (h:eqB .none b=true):Dat.none=b:=by rcases b with⟨⟩<;>first|rfl|exact absurd h ZZ
theorem IS {x:Bool}(h:eqB (.bool x) b=true):Dat.bool x=b:=by rcases b with⟨⟩<;>first|exact congrArg Dat.bool (beq_iff_eq.mp h)|exact absurd h ZZ
theorem IQ {x:Int}(h:eqB (.int x) b=true):Dat.int x=b:=by rcases b with⟨⟩<;>first|exact congrArg Dat.int (beq_iff_eq.mp h)|exact absurd h ZZ
theorem IM (h:eqB (.str x) b=true):Dat.str x=b:=by rcases b with⟨⟩<;>first|exact congrArg Dat.str (Tx.jf (beq_iff_eq.mp h))|exact absurd h ZZ
theorem IL {x:List UInt8}(h:eqB (.bytes x) b=true):Dat.bytes x=b:=by rcases b with⟨⟩<;>first|exact congrArg Dat.bytes (beq_iff_eq.mp h)|exact absurd h ZZ
set_option tactic.hygienic true in
mutual
theorem FO:∀{a b:Dat},eqB a b=true->a=b
 |a,b,h=>by
  rcases a with⟨⟩
  case none=>exact IP h
  case bool x=>exact IS h
  case int x=>exact IQ h
  case str x=>exact IM h
  case bytes x=>exact IL h
  case tuple x=>
   rcases b with⟨⟩
   case tuple y=>exact congrArg Dat.tuple (ia (show vV x y=true from h))
   all_goals (exact absurd h ZZ)
  case list x=>
   rcases b with⟨⟩
   case list y=>exact congrArg Dat.list (ia (show vV x y=true from h))
   all_goals (exact absurd h ZZ)
  all_goals (exact absurd (show false=true from by rcases b with⟨⟩<;>exact h) ZZ)
theorem ia:∀{a b:List Dat},vV a b=true->a=b
 |[],[],_=>rfl
 |a::as,b::bs,h=>by
  have h':(eqB a b&&vV as bs)=true:=h
  rw[ZR]at h'
  rw[FO h'.1,ia h'.2]
end
noncomputable def Vr:Option Dat->Dat->Bool|some a,b=>eqB a b|none,_=>false
set_option tactic.hygienic true in
theorem MO {a:Option Dat}(h:Vr a b=true):a=some b:=by
 rcases a with⟨⟩;case none=>(rcases h with⟨⟩)
 case some a=>exact congrArg some (FO h)
def rW:gq:={b0 0 0 with
 nQ:=fun m=>if m="join" then A6 else if m="index" then zR else fun y y=>none
 glob:=fun x=>if x="bytes" then some (.typ "bytes") else none}
theorem FD (hC:C.Plain):b7 C rW n where
 fn h:=aa h
 rO h:=Gr (pat:=0) (fuel:=0) hC h
 glob h:=vF (q9 hC) Bi h
 nQ {m}:=mI tR (mI qN A0) m
section
variable {pat:Addr} {fuel:Nat} {cU acc:List Dat} {is:List Int} {k:Int}
def dW:List Stmt:=gM pw 9
def ef:Scope:=eG pw 9
def ud:List Stmt:=bK (ak dW 1)
noncomputable def fY (cU:List Dat)(acc:List Dat):az:=[(("words":Str),.own (.list acc)),(("script":Str),.val (.list cU))]
def FV (k:Int)(cU:List Dat):Option Dat:=dh .Mod (dh .Add (dh .Add (dh .Mult (some (.int 20)) (dh .Mod (dh .Mult (some (.int 7)) (some (.int k))) (some (.int 72)))) (dh .Mod (dh .Mult (some (.int 3)) (some (.int k))) (some (.int 20)))) (uL cU k 60 21 1440)) (some (.int 1440))
theorem MS:ud=[ak ud 0]:=by rfl
theorem IT:ex (b0 pat fuel) fK ef (ak ud 0) ((("k":Str),.val (.int k))::fY cU acc)=zx "append" "words" (.list acc) (AD (FV k cU)) ((("k":Str),.val (.int k))::fY cU acc):=by rfl
theorem FU (hl:is.length<=63)(h0:0<=k)(h1:k<20):∃w:Int,FV k (is.map .int)=some (.int w)/\0<=w/\w<1440:=by refine aJ (tC (is:=is) (lo:=k) (hi:=60) (st:=21) (m:=1440) hl (by decide) (by decide) (dA (ni 0xf000f42408f9f80f882 rfl h0) (ni 0xf42408f0f814a0f72 rfl h1)) (by decide) (by decide)) fun z hz=>?_;unfold FV;have b1:=Int.fmod_nonneg_of_pos (7*k) (b:=72) (by decide);have b2:=Int.fmod_lt_of_pos (7*k) (b:=72) (by decide);simp only[nc (a:=7) (b:=k) (by decide) (dA (by exact ni 0xf000f42408f9f80f882 rfl h0) (by exact ni 0xf42408f0f814a0f72 rfl h1)),br,ed (b:=72) (by decide),nc (a:=3) (b:=k) (by decide) (dA (by exact ni 0xf000f42408f9f80f882 rfl h0) (by exact ni 0xf42408f0f814a0f72 rfl h1)),ed (b:=20) (by decide),kF,hz,ed (b:=1440) (by decide),nc (a:=20) (b:=(7*k).fmod 72) (by decide) (dA (by exact ni 0xf000f42408f9f80f882 rfl b1) (by exact ni 0xf42408f0f848a0f72 rfl b2))];exact⟨_,rfl,Int.fmod_nonneg_of_pos _ (by decide),Int.fmod_lt_of_pos _ (by decide)⟩
theorem T9:ex (b0 pat fuel) fK ef (ak dW 0) (bB ["script"] [.list cU])=some (.next (fY cU [])):=by rfl
theorem QC:ev (b0 pat fuel) ef (bj (ak dW 1)) (fY cU [])=some (.range 0 20 1):=by rfl
def Eb (cU:List Dat):Option Dat:=dh .Mod (dh .Add (some (.int 149)) (uL cU 20 60 21 160)) (some (.int 160))
theorem MR:ex (b0 pat fuel) fK ef (ak dW 2) ((("k":Str),.val d)::fY cU acc)=Hm (G9 (.list acc) (Eb cU)) (aO ((("k":Str),.val d)::fY cU acc)):=by rfl
theorem IU:ex (b0 pat fuel) fK ef (ak dW 2) (fY cU acc)=Hm (G9 (.list acc) (Eb cU)) (aO (fY cU acc)):=by rfl
theorem IW:dW=[ak dW 0,.For (aU (ak dW 1)) (bj (ak dW 1)) ud [] (cK (ak dW 1)),ak dW 2]:=by rfl
theorem MQ (d:Dat)(V:az):bp ef (aU (ak dW 1)) d V=some ((("k":Str),.val d)::V):=by rfl
def vX (pat:Addr):List Dat->Option Dat:=uS (b0 pat 0) fK ef dW ["script"]
set_option tactic.hygienic true in
theorem FT (hl:is.length<=63):∃(ws:List Int)(row:Int),vX pat [.list (is.map .int)]=some (.tuple [.list (ws.map .int),.int row])/\ws.length=20/\(∀w∈ws,0<=w/\w<1440)/\0<=row/\row<160:=by
 refine aJ (tC (is:=is) (lo:=20) (hi:=60) (st:=21) (m:=160) hl (by decide) (by decide) (by decide) (by decide) (by decide)) fun z hz=>?_;obtain⟨row,SH,WE,CB⟩:∃row:Int,Eb (is.map .int)=some (.int row)/\0<=row/\row<160:=by unfold Eb;rw[hz,br,kF,br,ed (by decide)];exact⟨_,rfl,Int.fmod_nonneg_of_pos _ (by decide),Int.fmod_lt_of_pos _ (by decide)⟩
 have hit:bb (.range 0 20 1)=some ((List.range 20).map fun k:Nat=>.int (k:Int)):=dp (n:=20) (by decide);refine uA (fQ (Φ:=b0 pat 0) (Ψ:=fK) (sc:=ef) (t:="k") (te:=aU (ak dW 1)) (body:=ud) (α:=List Int) iV.none MQ (fun a=>fY (is.map .int) (a.map .int)) (fun done a=>a.length=done.length/\∀w∈a,0<=w/\w<1440) (items:=(List.range 20).map fun k:Nat=>.int (k:Int)) (fun done d rest a hi hI=>by
   have hd:d∈(List.range 20).map fun k:Nat=>Dat.int (k:Int):=by rw[hi];simp
   refine ax (Zx hd) ?_;rintro k hk (rfl);refine eD (FU (is:=is) (k:=(k:Int)) hl (bC 0xaf881 rfl) (by have:=Zv hk;exact bC 0x14a0af714a002 rfl this)) fun w hw w0 w1=>?_;have hlen:done.length<=20:=by have:=congrArg List.length hi;simp at this;exact aR 0x14a0191b0b14a22 rfl this
   have e1:bT (b0 pat 0) fK ef ud ((("k":Str),.val (.int (k:Int)))::fY (is.map .int) (a.map .int))=some (.next ((("words":Str),.own (.list (a.map .int++[.int w])))::(("k":Str),.val (.int (k:Int)))::fY (is.map .int) (a.map .int))):=by rw[MS,av (aC rfl (IT.trans (by rw[hw,iG (by rw[Z2,hI.1];unfold aM;exact bC 0xf42408f90b114a012 rfl hlen)])))];exact eP
   refine⟨a++[w],_,e1,bG.fN ?_,by simp[hI.1],fun x hx=>?_⟩
   ·rw[ZA];exact rfl
   ·refine Z4 (List.mem_append.mp hx) (fun q=>?_) fun q=>?_
    ·exact hI.2 x q
    ·rw[List.mem_singleton.mp q];exact⟨w0,w1⟩)
  _ [] (fY (is.map .int) []) [] none rfl (.refl _) ⟨rfl,fun w h=>by rcases h with⟨⟩⟩) fun V J a h1 hJ h2 h3 h4=>?_
 refine⟨a,row,pR rfl ?_,by simpa using h3,h4,WE,CB⟩;rw[IW,av (aC rfl T9),av (aC rfl ((gk rfl QC hit).trans h1))];refine hH iV.none h2 ?_;have e:Hm (G9 (.list (a.map .int)) (Eb (is.map .int)))=fun W=>some (.ret (.tuple [.list (a.map .int),.int row])):=by funext W;rw[SH,BH,BU]
 rcases J with⟨⟩;case none=>exact eO (aC rfl (IU.trans (by rw[e]))) (fun v q=>by rcases q with⟨⟩)
 case some s=>exact eO (aC rfl (MR.trans (by rw[e]))) (fun v q=>by rcases q with⟨⟩)
end
namespace L3
section
variable {pat:Addr} {fuel:Nat} {cU acc:List Dat} {is:List Int} {k drawn place:Int}
noncomputable def dr:List Int:=[0,0,10,20,20,30,30,40,50,50,100,100,100,200,200]
noncomputable def eE:List Dat:=[.str "Rc",.str "x",.str "dev",.str "a",.str "alpha",.str "b",.str "beta",.str "c",.str "RC",.str "rc",.int 0,.int 9,.int 1000,.str "p",.str "pl"]
noncomputable def wM:List Str:=["Rc","x","dev","a","alpha","b","beta","c","RC","rc","0","9","1000","p","pl"]
def bE (p:Nat):List Dat:=[.int (dr.getD p 0),eE.getD p .none]
def eC (p:Nat):Dat:=.tuple [.str (wM.getD p ""),.list (bE p)]
def bU:List Stmt:=gM pw 10
def ct:Scope:=eG pw 10
def mD:List Stmt:=bK (ak bU 4)
def fW (drawn place:Int)(acc:List Dat):az:=[(("parts":Str),.own (.list acc)),(("place":Str),.val (.int place)),(("ranks":Str),.own (.list (dr.map .int))),(("words":Str),.own (.list eE)),(("drawn":Str),.val (.int drawn))]
theorem K6:mD=[ak mD 0,ak mD 1]:=by rfl
theorem K4 (d:Dat)(V:az):bp ct (aU (ak bU 4)) d V=some ((("k":Str),.val d)::V):=by rfl
theorem Og:ev (b0 pat fuel) ct (bj (ak bU 4)) (fW drawn place acc)=some (.range 0 6 1):=by rfl
theorem Ef:bT (b0 pat fuel) fK ct [ak bU 0,ak bU 1] (bB ["drawn"] [.int drawn])=some (.next [(("ranks":Str),.own (.list (dr.map .int))),(("words":Str),.own (.list eE)),(("drawn":Str),.val (.int drawn))]):=by rfl
def k9 (sc:Scope)(x:Str)(e e':Option Dat)(V:az):Option Fl:=((match e with
 |some d=>some (d,V)|none=>e'.map fun d=>(d,aO V)).bind (BR sc x)).map .next
theorem cf:k9 sc x (some d) e' V=(bL sc x (.val d) V).map .next:=rfl
theorem R5:ex (b0 pat fuel) fK ct (ak bU 2) [(("ranks":Str),.own (.list (dr.map .int))),(("words":Str),.own (.list eE)),(("drawn":Str),.val (.int drawn))]=some (.next [(("place":Str),.val (.int (drawn.fmod 5))),(("ranks":Str),.own (.list (dr.map .int))),(("words":Str),.own (.list eE)),(("drawn":Str),.val (.int drawn))]):=by rfl
theorem R4:ex (b0 pat fuel) fK ct (ak bU 3) [(("place":Str),.val (.int (drawn.fmod 5))),(("ranks":Str),.own (.list (dr.map .int))),(("words":Str),.own (.list eE)),(("drawn":Str),.val (.int drawn))]=some (.next (fW drawn (drawn.fmod 5) [])):=by rfl
theorem K7 {p:Nat}(hp:p<15):ex (b0 pat fuel) fK ct (ak mD 0) ((("k":Str),.val (.int k))::fW drawn p acc)=zx "append" "parts" (.list acc) (AD (some (eC p))) ((("k":Str),.val (.int k))::fW drawn p acc):=Pe hp rfl rfl rfl rfl rfl rfl rfl rfl rfl rfl rfl rfl rfl rfl rfl
def Hp (drawn place k:Int):Option Dat:=dh .Add (dh .Add (some (.int place)) (some (.int 1))) (dh .Mod (dh .FloorDiv (dh .FloorDiv (some (.int drawn)) (some (.int 5))) (dh .Pow (some (.int 2)) (some (.int k)))) (some (.int 2)))
theorem Eg:ex (b0 pat fuel) fK ct (ak mD 1) ((("parts":Str),.own (.list acc))::(("k":Str),.val (.int k))::fW drawn place cU)=k9 ct "place" (Hp drawn place k) (Hp drawn place k) ((("parts":Str),.own (.list acc))::(("k":Str),.val (.int k))::fW drawn place cU):=by rfl
theorem Ho {q k:Nat}(hk:k<6):∃b:Nat,b<=1/\Hp drawn (q:Int) (k:Int)=some (.int ((q+1+b:Nat):Int)):=by
 have hp:js .Pow (.int 2) (.int (k:Int))=some (.int ((2^k:Nat):Int)):=by exact Sj hk rfl rfl rfl rfl rfl rfl
 have h2:((2^k:Nat):Int)≠0:=by have:0<2^k:=Nat.two_pow_pos k;exact bC 0x80af930802 rfl this
 have h3:((2^k:Nat):Int).natAbs<1073741824:=by exact Sj hk (by decide) (by decide) (by decide) (by decide) (by decide) (by decide)
 have b1:=Int.fmod_nonneg_of_pos ((drawn.fdiv 5).fdiv ((2^k:Nat):Int)) (b:=2) (by decide);have b2:=Int.fmod_lt_of_pos ((drawn.fdiv 5).fdiv ((2^k:Nat):Int)) (b:=2) (by decide);refine⟨(((drawn.fdiv 5).fdiv ((2^k:Nat):Int)).fmod 2).toNat,by exact ni 0x90fbf102a0f72 rfl b2,?_⟩;unfold Hp;simp only[br,kF,iQ (b:=5) (by decide) (by decide),hp,iQ h2 h3,ed (b:=2) (by decide)];congr 2;exact Jt 0xfbf90bbaf0f90afbb90f882 rfl b1
def Jr (l:List Nat):Prop:=∀i,i<l.length->(i=0->l.getD i 0<=4)/\∀k,i=k+1->l.getD i 0=l.getD k 0+1\/l.getD i 0=l.getD k 0+2
theorem Jr.snoc (h:Jr (l++[q]))(hb:b<=1):Jr ((l++[q])++[q+1+b]):=fun i hi=>by
 rw[ZN,List.length_singleton]at hi;have hq:(l++[q]).length=l.length+1:=by simp
 by_cases h1:i<(l++[q]).length
 ·refine aL (h i h1) fun a1 a2=>?_;have e:∀k,k<(l++[q]).length->((l++[q])++[q+1+b]).getD k 0=(l++[q]).getD k 0:=fun k hk=>by rw[Z5,List.getElem?_append_left hk,<-Z5]
  refine⟨fun h0=>by rw[e i h1];exact a1 h0,fun k hk=>?_⟩;rw[e i h1,e k (by exact aX 0x12092b021003 rfl h1 hk)];exact a2 k hk
 ·have ly:i=(l++[q]).length:=aR 0x102100391b003 rfl hi h1;have e1:((l++[q])++[q+1+b]).getD i 0=q+1+b:=by rw[Z5,List.getElem?_append_right (by exact aR 0x111022 rfl ly),ly,Nat.sub_self];rfl
  refine⟨fun h0=>cZ 0x4a3182202291b024 rfl hq ly h0,fun k hk=>?_⟩;have e2:((l++[q])++[q+1+b]).getD k 0=q:=by rw[Z5,List.getElem?_append_left (by exact aX 0x12092b021023 rfl ly hk),List.getElem?_append_right (by exact cZ 0x31193b2202291b024 rfl hq ly hk),show k-l.length=0 by exact cZ 0x813c293b2202291b024 rfl hq ly hk];rfl
  rw[e1,e2];exact aR 0x2a1b091bb291b091bb259012 rfl hb
theorem Jr.left (h:Jr (l++[q])):Jr l:=fun i hi=>by
 refine aL (h i (by rw[ZN];exact aX 0x21b001002 rfl hi)) fun a1 a2=>?_;have e:∀k,k<l.length->(l++[q]).getD k 0=l.getD k 0:=fun k hk=>by rw[Z5,List.getElem?_append_left hk,<-Z5]
 refine⟨fun h0=>by rw[<-e i hi];exact a1 h0,fun k hk=>?_⟩;rw[<-e i hi,<-e k (by exact aX 0x12092b021003 rfl hi hk)];exact a2 k hk
def vb (pat:Addr):List Dat->Option Dat:=uS (b0 pat 0) fK ct bU ["drawn"]
set_option tactic.hygienic true in
theorem Ez (row:Int):∃ps:List Nat,vb pat [.int row]=some (.list (ps.map eC))/\ps.length=6/\(ps.Pairwise (· < ·)/\∀p∈ps,p<15)/\Jr ps:=by
 have hit:bb (.range 0 6 1)=some ((List.range 6).map fun k:Nat=>.int (k:Int)):=dp (n:=6) (by decide);have d1:=Int.fmod_nonneg_of_pos row (b:=5) (by decide);have d2:=Int.fmod_lt_of_pos row (b:=5) (by decide);have hq:row.fmod 5=(((row.fmod 5).toNat:Nat):Int):=ni 0xfbfaf0f90f882 rfl d1;refine uA (fQ (Φ:=b0 pat 0) (Ψ:=fK) (sc:=ct) (t:="k") (te:=aU (ak bU 4)) (body:=mD) (α:=Int×List Nat) iV.none K4 (fun a=>fW row a.1 (a.2.map eC)) (fun done a=>a.2.length=done.length/\(∃q:Nat,a.1=(q:Int)/\q<=4+2*done.length/\(∀p∈a.2,p<q)/\Jr (a.2++[q]))/\a.2.Pairwise (· < ·)/\∀p∈a.2,p<15) (items:=(List.range 6).map fun k:Nat=>.int (k:Int)) (fun done d rest a hi hI=>by
   have hd:d∈(List.range 6).map fun k:Nat=>Dat.int (k:Int):=by rw[hi];simp
   refine ax (Zx hd) ?_;rintro k hk (rfl);have hlen:done.length<=5:=by have:=congrArg List.length hi;simp at this;exact aR 0x5a0191b0b06a22 rfl this
   refine mu hI fun i1 y0 i5 i6=>?_;refine yR y0 fun q i2 i3 i4 i7=>?_;refine ax (Ho (drawn:=row) (q:=q) (k:=k) (Zv hk)) fun b hb he=>?_;obtain⟨pl,acc⟩:=a;dsimp only at i1 i2 i3 i4 i5 i6 ⊢;subst i2;have e1:bT (b0 pat 0) fK ct mD ((("k":Str),.val (.int (k:Int)))::fW row q (acc.map eC))=some (.next ((("place":Str),.val (.int ((q+1+b:Nat):Int)))::(("parts":Str),.own (.list (acc.map eC++[eC q])))::(("k":Str),.val (.int (k:Int)))::fW row q (acc.map eC))):=by rw[K6,av (aC rfl ((K7 (by exact aR 0xfa10002d04ab1105a013 rfl hlen i3)).trans (iG (by rw[Z2,i1];unfold aM;exact bC 0xf42408f90b105a012 rfl hlen)))),av (aC rfl (Eg.trans (by rw[he,cf];rfl)))];exact eP
   refine⟨(((q+1+b:Nat):Int),acc++[q]),_,e1,bG.fN ?_,by simp[i1],⟨q+1+b,rfl,by simp;exact aX 0x91b02d04ab290bb1921102d04ab013 rfl i3 hb,fun p hp=>?_,i7.snoc hb⟩,?_,fun p hp=>?_⟩
   ·rw[ZA];exact rfl
   ·refine Z4 (List.mem_append.mp hp) (fun z=>?_) fun z=>?_
    ·have:=i4 p z;exact aX 0x291bb001002 rfl this
    ·rw[List.mem_singleton.mp z];exact aR 0x190bb001 rfl
   ·rw[List.pairwise_append];refine⟨i5,List.pairwise_singleton _ _,fun x hx y hy=>?_⟩;rw[List.mem_singleton.mp hy];exact i4 x hx
   ·refine Z4 (List.mem_append.mp hp) (fun z=>?_) fun z=>?_
    ·exact i6 p z
    ·rw[List.mem_singleton.mp z];exact aR 0xfa10002d04ab1105a013 rfl hlen i3)
  _ [] (fW row (row.fmod 5) []) (row.fmod 5,[]) none rfl (.refl _) ⟨rfl,⟨(row.fmod 5).toNat,hq,by exact Jt 0x2d04ab0fbf105a0f72 rfl d2,fun p hp=>(by rcases hp with⟨⟩),fun i hi=>⟨fun h0=>by subst h0;show(row.fmod 5).toNat<=4;exact ni 0x4a0fbf105a0f72 rfl d2,fun k hk=>by simp at hi;exact cZ 0x2a3b2293b22580291b023 rfl hk hi⟩⟩,.nil,fun p hp=>by rcases hp with⟨⟩⟩) fun V J a h1 hJ h2 h3 y2=>?_
 refine aL y2 fun y1 h4=>?_;refine yR y1 fun q YJ YI YH WH=>?_;refine⟨a.2,pR rfl ?_,by simpa using h3,h4,WH.left⟩;have s0:=Ef (pat:=pat) (fuel:=0) (drawn:=row);have e0:bT (b0 pat 0) fK ct bU (bB ["drawn"] [.int row])=bT (b0 pat 0) fK ct (.For (aU (ak bU 4)) (bj (ak bU 4)) mD [] (cK (ak bU 4))::[.Return (some (.Name "parts" (eH (ak bU 5)).pos)) (ir (ak bU 5))]) (fW row (row.fmod 5) []):=by
  have a0:ex (b0 pat 0) fK ct (ak bU 0) (bB ["drawn"] [.int row])=some (.next [(("words":Str),.own (.list eE)),(("drawn":Str),.val (.int row))]):=by rfl
  have a1:ex (b0 pat 0) fK ct (ak bU 1) [(("words":Str),.own (.list eE)),(("drawn":Str),.val (.int row))]=some (.next [(("ranks":Str),.own (.list (dr.map .int))),(("words":Str),.own (.list eE)),(("drawn":Str),.val (.int row))]):=by rfl
  show bT (b0 pat 0) fK ct [ak bU 0,ak bU 1,ak bU 2,ak bU 3,.For (aU (ak bU 4)) (bj (ak bU 4)) mD [] (cK (ak bU 4)),.Return (some (.Name "parts" (eH (ak bU 5)).pos)) (ir (ak bU 5))] _=_;rw[av (aC rfl a0),av (aC rfl a1),av (aC rfl R5),av (aC rfl R4)]
 rw[e0,av (aC rfl ((gk rfl Og hit).trans h1))];refine hH (Ψ:=fK) iV.none h2 ?_;have JY:(jv "k" J++fW row a.1 (a.2.map eC)).lookup ("parts":Str)=some (.own (.list (a.2.map eC))):=by
  rcases J with⟨⟩;case none=>rfl
  case some d=>rfl
 exact eO (aC rfl (gw (vR JY))) (fun v q=>by rcases q with⟨⟩)
end
section
variable {pat:Addr} {fuel:Nat} {order o:Dat} {pairs ks told:List Dat} {k:Int}
def cJ:List Stmt:=gM pw 12
def bP:Scope:=eG pw 12
def eV:List Stmt:=bK (ak cJ 2)
def n8:List Stmt:=bK (ak eV 0)
noncomputable def cm (order:Dat)(pairs ks told:List Dat):az:=[(("told":Str),.own (.list told)),(("kinds":Str),.own (.list ks)),(("order":Str),.val order),(("pairs":Str),.val (.list pairs))]
theorem MC:eV=[.For (aU (ak eV 0)) (bj (ak eV 0)) n8 [] (cK (ak eV 0)),ak eV 1]:=by rfl
theorem Ka:n8=[.If (aQ (ak n8 0)) (cu (ak n8 0)) [] (iI (ak n8 0))]:=by rfl
theorem Mz (d:Dat)(V:az):bp bP (aU (ak cJ 2)) d V=some ((("k":Str),.val d)::V):=by rfl
theorem Iw (d:Dat)(V:az):bp bP (aU (ak eV 0)) d V=some ((("one":Str),.val d)::V):=by rfl
theorem Iy {W:az}:dO rW bP (aQ (ak n8 0)) ((("one":Str),.val o)::(("k":Str),.val d)::cm order pairs ks told) (ev rW bP (aQ (ak n8 0)) ((("one":Str),.val o)::(("k":Str),.val d)::cm order pairs ks told))=(match o,Dat.list ks with
  |a,.list ds=>(memD a ds).map (!·)| .str x,.str y=>some (!Txt.contains y x)|_,_=>none):=by rfl
theorem MD:bT rW fK bP (cu (ak n8 0)) ((("one":Str),.val o)::(("k":Str),.val d)::cm order pairs ks told)=((zx "append" "kinds" (.list ks) (AD (some o)) ((("one":Str),.val o)::(("k":Str),.val d)::cm order pairs ks told)).bind (kW fun vars=>some (.next vars))):=by rfl
theorem MB {k:Int}:ev rW bP (bj (ak eV 0)) ((("k":Str),.val (.int k))::(jv "one" j++cm order pairs ks told))=ez (.list pairs) (.int k):=by rcases j with⟨⟩<;>rfl
theorem MA:ex rW fK bP (ak eV 1) (jv "one" j++((("k":Str),.val d)::cm order pairs ks told))=zx "append" "told" (.list told) (AD (if ks.length<=aM then some (.int (ks.length:Int))else none)) (jv "one" j++((("k":Str),.val d)::cm order pairs ks told)):=by rcases j with⟨⟩<;>rfl
noncomputable def gO (ks:List Nat)(i:Nat):List Nat:=if ks.contains i then ks else ks++[i]
def cx (ks xs:List Nat):List Nat:=xs.foldl gO ks
def pW:List (List Nat)->List Nat->List Nat|[],_=>[]|c::cs,ks=>(cx ks c).length::pW cs (cx ks c)
def Dy:List (List Nat)->List Nat->List Nat|[],ks=>ks|c::cs,ks=>Dy cs (cx ks c)
theorem Fw (c:List Nat):∀(cs:List (List Nat))(ks:List Nat),pW (cs++[c]) ks=pW cs ks++[(cx (Dy cs ks) c).length]/\Dy (cs++[c]) ks=cx (Dy cs ks) c:=by intro cs;induction cs with|nil=>intro ks;exact⟨rfl,rfl⟩|cons d cs ih=>intro ks;refine aL (ih (cx ks d)) fun h1 h2=>?_;exact⟨by rw[List.cons_append,pW,h1];rfl,by rw[List.cons_append,Dy,h2];rfl⟩
theorem Bg:∀(cs:List (List Nat))(ks:List Nat),(pW cs ks).length=cs.length:=by intro cs;induction cs with|nil=>intro _;exact rfl|cons c cs ih=>intro ks;exact congrArg (·+1) (ih _)
theorem GG {L ks:List Nat}(hi:i∈L)(h:∀a∈ks,a∈L):∀a∈gO ks i,a∈L:=fun a ha=>by
 unfold gO at ha;split at ha
 ·exact h a ha
 ·refine Z4 (List.mem_append.mp ha) (fun q=>?_) fun q=>?_
  ·exact h a q
  ·rw[List.mem_singleton.mp q];exact hi
theorem GH (ks:List Nat)(i:Nat):(gO ks i).length<=ks.length+1:=by
 unfold gO;split
 ·exact bC 0x90b011 rfl
 ·simp
def Nc (K:Nat->Dat)(L:List Nat):Prop:=∀i∈L,∀acc:List Nat,(∀a∈acc,a∈L)->memD (K i) (acc.map K)=some (acc.contains i)
set_option tactic.hygienic true in
theorem Fv {K:Nat->Dat}{L:List Nat}(hK:Nc K L){xs ks:List Nat}(Wf:∀x∈xs,x∈L)(PY:∀a∈ks,a∈L)(Wj:xs.length<=3)(zV:ks.length<=600){j:Option Dat}{V:az}(hV:bG V (jv "one" j++((("k":Str),.val d)::cm order pairs (ks.map K) told))):∃V' j',cQ (jT rW fK bP (aU (ak eV 0)) n8) (xs.map K) V=some (.next V')/\bG V' (jv "one" j'++((("k":Str),.val d)::cm order pairs ((cx ks xs).map K) told))/\(∀a∈cx ks xs,a∈L)/\(cx ks xs).length<=ks.length+xs.length:=by
 refine uA (fQ (Φ:=rW) (Ψ:=fK) (sc:=bP) (t:="one") (te:=aU (ak eV 0)) (body:=n8) (α:=List Nat) iV.none Iw (fun a=>(("k":Str),.val d)::cm order pairs (a.map K) told) (fun done a=>(∃ys rest,xs=ys++rest/\done=ys.map K/\a=cx ks ys)/\(∀x∈a,x∈L)/\a.length<=ks.length+done.length) (items:=xs.map K) (fun done o rest a hi hI=>by
   refine bg hI fun y0 i4 i5=>?_;refine eB y0 fun ys rs i1 i2 i3=>?_;have hlen:done.length+1<=3:=by have:=congrArg List.length hi;simp at this;exact aX 0x3a91b192b1b0203a013 rfl Wj this
   obtain⟨x,qu,hr,ho⟩:∃x qu,rs=x::qu/\o=K x:=by
    rw[i1,ZA,i2]at hi;have:=List.append_cancel_left hi;rcases rs with⟨⟩;case nil=>(rcases this with⟨⟩)
    case cons x qu=>exact⟨x,qu,rfl,(List.cons.inj this).1.symm⟩
   subst ho hr;have UL:x∈L:=Wf x (by rw[i1];simp);have hm:=hK x UL a i4;have ht:=Iy (o:=K x) (d:=d) (order:=order) (pairs:=pairs) (ks:=a.map K) (told:=told) (W:=[]);dsimp only at ht;rw[hm]at ht;have Wy:cx ks (ys++[x])=gO a x:=by unfold cx at i3 ⊢;rw[List.foldl_append,<-i3];rfl
   have hinv:(∃RJ Oc,xs=RJ++Oc/\done++[K x]=RJ.map K/\gO a x=cx ks RJ)/\(∀z∈gO a x,z∈L)/\(gO a x).length<=ks.length+(done++[K x]).length:=by refine⟨⟨ys++[x],qu,by rw[i1];simp,by rw[i2];simp,Wy.symm⟩,GG UL i4,?_⟩;have:=GH a x;simp;exact cZ 0x92b1b3190b3121b013 rfl i5 this
   cases hc:a.contains x with
   |true=>
    rw[hc]at ht;refine⟨gO a x,(("one":Str),.val (K x))::(("k":Str),.val d)::cm order pairs (a.map K) told,?_,?_,hinv⟩
    ·rw[Ka,av (aC rfl (o7 (c:=false) (hU ht)))];exact eP
    ·have:gO a x=a:=by unfold gO;rw[hc,Z1 rfl]
     rw[this];exact .refl _
   |false=>
    rw[hc]at ht;have Qb:=MD (o:=K x) (d:=d) (order:=order) (pairs:=pairs) (ks:=a.map K) (told:=told);rw[iG (by rw[Z2];unfold aM;exact aX 0xf42408f91b103a92b120b11000002588f014 rfl zV i5 hlen)]at Qb;refine⟨gO a x,(("kinds":Str),.own (.list (a.map K++[K x])))::(("one":Str),.val (K x))::(("k":Str),.val d)::cm order pairs (a.map K) told,?_,bG.fN ?_,hinv⟩
    ·have e1:∀q,ex rW fK bP (.If (aQ (ak n8 0)) (cu (ak n8 0)) [] q) ((("one":Str),.val (K x))::(("k":Str),.val d)::cm order pairs (a.map K) told)=some (.next ((("kinds":Str),.own (.list (a.map K++[K x])))::(("one":Str),.val (K x))::(("k":Str),.val d)::cm order pairs (a.map K) told)):=fun q=>(o7 (c:=true) (hU ht)).trans Qb;rw[Ka,av (aC rfl (e1 _))];exact eP
    ·have:gO a x=a++[x]:=by unfold gO;rw[hc,ZX ZZ]
     rw[this,ZA];exact rfl)
  _ [] V ks j rfl hV ⟨⟨[],xs,rfl,rfl,rfl⟩,PY,by simp⟩) fun V' J' a h1 hJ h2 h3 y1=>?_
 refine aL y1 fun h4 h5=>?_;refine eB h3 fun ys rs e1 e2 e3=>?_;have hy:ys=xs:=by
  have hl:ys.length=xs.length:=by have:=congrArg List.length e2;simpa using this.symm
  have:rs=[]:=by have:=congrArg List.length e1;rw[ZN]at this;exact List.length_eq_zero_iff.mp (aX 0x82220b121023 rfl hl this)
  rw[e1,this,Zz]
 subst hy;subst e3;exact⟨V',J',h1,h2,h4,by simpa using h5⟩
theorem T1:bT rW fK bP cJ (bB ["order","pairs"] [order,.list pairs])=bT rW fK bP (.For (aU (ak cJ 2)) (bj (ak cJ 2)) eV [] (cK (ak cJ 2))::[.Return (some (.Name "told" (eH (ak cJ 3)).pos)) (ir (ak cJ 3))]) (cm order pairs [] []):=by
 have a0:ex rW fK bP (ak cJ 0) (bB ["order","pairs"] [order,.list pairs])=some (.next [(("kinds":Str),.own (.list [])),(("order":Str),.val order),(("pairs":Str),.val (.list pairs))]):=by rfl
 have a1:ex rW fK bP (ak cJ 1) [(("kinds":Str),.own (.list [])),(("order":Str),.val order),(("pairs":Str),.val (.list pairs))]=some (.next (cm order pairs [] [])):=by rfl
 show bT rW fK bP [ak cJ 0,ak cJ 1,.For (aU (ak cJ 2)) (bj (ak cJ 2)) eV [] (cK (ak cJ 2)),.Return (some (.Name "told" (eH (ak cJ 3)).pos)) (ir (ak cJ 3))] _=_;rw[av (aC rfl a0),av (aC rfl a1)]
theorem Qs:ev rW bP (bj (ak cJ 2)) (cm order pairs ks told)=some order:=by rfl
def o5:List Dat->Option Dat:=uS rW fK bP cJ ["order","pairs"]
theorem item_at {ds:List Dat}{k:Nat}{d:Dat}(h:ds[k]?=some d)(hl:ds.length<=1000):ez (.list ds) (.int (k:Int))=some d:=by have hk:k<ds.length:=(List.getElem?_eq_some_iff.mp h).1;show(if aG (k:Int)=true then(dN (k:Int) ds.length).bind (ds[·]?)else none)=_;rw[Z1 (dA (by exact bC 0xaf000f42408f9f81 rfl) (by exact aR 0xf42408f1af8010000003e88f013 rfl hl hk))];unfold dN;rw[Z1 (by exact bC 0xaf881 rfl),Z1 (by exact aR 0x1af0af71002 rfl hk)];simpa using h
set_option tactic.hygienic true in
theorem Bf {K:Nat->Dat}{L:List Nat}(hK:Nc K L){codes:List (List Nat)}{idx:List Nat}(hc:∀c∈codes,c.length<=3/\∀x∈c,x∈L)(jm:codes.length<=1000)(hi:bb order=some (idx.map fun k:Nat=>.int (k:Int)))(Ml:∀k∈idx,k<codes.length)(WZ:idx.length<=200):o5 [order,.list (codes.map fun c=>.list (c.map K))]=some (.list ((pW (idx.map fun k=>codes.getD k []) []).map fun k:Nat=>.int (k:Int))):=by
 refine uA (fQ (Φ:=rW) (Ψ:=fK) (sc:=bP) (t:="k") (te:=aU (ak cJ 2)) (body:=eV) (α:=List Nat×List Nat×Option Dat) iV.none Mz (fun a=>jv "one" a.2.2++cm order (codes.map fun c=>.list (c.map K)) (a.1.map K) (a.2.1.map fun k:Nat=>.int (k:Int))) (fun done a=>(∃ys rest,idx=ys++rest/\done=ys.map (fun k:Nat=>Dat.int (k:Int))/\a.1=Dy (ys.map fun k=>codes.getD k []) []/\a.2.1=pW (ys.map fun k=>codes.getD k []) [])/\(∀x∈a.1,x∈L)/\a.1.length<=3*done.length) (items:=idx.map fun k:Nat=>.int (k:Int)) (fun done o rest a hit hI=>by
   refine bg hI fun y0 i5 i6=>?_;refine iZ y0 fun ys rs i1 i2 i3 i4=>?_;obtain⟨ks,told,j⟩:=a;dsimp only at i3 i4 i5 i6 ⊢;have hlen:ys.length+rs.length<=200:=by rw[<-ZN,<-i1];exact WZ
   have J6:done.length=ys.length:=by rw[i2,Z2]
   obtain⟨k,qu,hr,ho⟩:∃k qu,rs=k::qu/\o=.int (k:Int):=by
    rw[i1,ZA,i2]at hit;have:=List.append_cancel_left hit;rcases rs with⟨⟩;case nil=>(rcases this with⟨⟩)
    case cons k qu=>exact⟨k,qu,rfl,(List.cons.inj this).1.symm⟩
   subst ho hr;have zV:k<codes.length:=Ml k (by rw[i1];simp);have Vb:codes[k]?=some (codes.getD k []):=by rw[Z5,ZY zV];rfl
   have J9:=hc _ (ZD Vb);have J3:=MB (order:=order) (pairs:=codes.map fun c=>.list (c.map K)) (ks:=ks.map K) (told:=told.map fun k:Nat=>.int (k:Int)) (k:=(k:Int)) (j:=j);rw[item_at (d:=.list ((codes.getD k []).map K)) (by rw[ZP,Vb];rfl) (by rw[Z2];exact jm)]at J3;have Nt:bG ((("k":Str),.val (.int (k:Int)))::(jv "one" j++cm order (codes.map fun c=>.list (c.map K)) (ks.map K) (told.map fun k:Nat=>.int (k:Int)))) (jv "one" j++((("k":Str),.val (.int (k:Int)))::cm order (codes.map fun c=>.list (c.map K)) (ks.map K) (told.map fun k:Nat=>.int (k:Int)))):=by
    rcases j with⟨⟩;case none=>exact .refl _
    case some d=>exact bG.swap (by decide)
   refine iZ (Fv (d:=.int (k:Int)) (order:=order) (pairs:=codes.map fun c=>.list (c.map K)) (told:=told.map fun k:Nat=>.int (k:Int)) hK (xs:=codes.getD k []) (ks:=ks) J9.2 i5 J9.1 (by simp at hlen;exact cZ 0x2588f01c8a93b2b1212103d014 rfl i6 J6 hlen) (j:=j) Nt) fun V1 j1 f1 f2 f3 f4=>?_;have e1:ex rW fK bP (.For (aU (ak eV 0)) (bj (ak eV 0)) n8 [] (cK (ak eV 0))) ((("k":Str),.val (.int (k:Int)))::(jv "one" j++cm order (codes.map fun c=>.list (c.map K)) (ks.map K) (told.map fun k:Nat=>.int (k:Int))))=some (.next V1):=(gk rfl J3 rfl).trans f1;have Ik:(cx ks (codes.getD k [])).length<=aM:=by simp at hlen;unfold aM;lia
   have e2:=MA (d:=.int (k:Int)) (order:=order) (pairs:=codes.map fun c=>.list (c.map K)) (ks:=(cx ks (codes.getD k [])).map K) (told:=told.map fun k:Nat=>.int (k:Int)) (j:=j1);have GX:told.length=ys.length:=by rw[i4,Bg,Z2]
   rw[Z2,Z1 Ik,iG (by rw[Z2,GX];simp at hlen;unfold aM;exact aR 0xf42408f90b1c8a91b0b12 rfl hlen)]at e2;have e3:bT rW fK bP [ak eV 1] (jv "one" j1++((("k":Str),.val (.int (k:Int)))::cm order (codes.map fun c=>.list (c.map K)) ((cx ks (codes.getD k [])).map K) (told.map fun k:Nat=>.int (k:Int))))=some (.next ((("told":Str),.own (.list (told.map (fun k:Nat=>Dat.int (k:Int))++[.int ((cx ks (codes.getD k [])).length:Int)])))::(jv "one" j1++((("k":Str),.val (.int (k:Int)))::cm order (codes.map fun c=>.list (c.map K)) ((cx ks (codes.getD k [])).map K) (told.map fun k:Nat=>.int (k:Int)))))):=by rw[av (aC rfl e2)];rfl
   refine ax (kq (Ψ:=fK) iV.none f2 e3) fun W e4 e5=>?_;refine aL (Fw (codes.getD k []) (ys.map fun k=>codes.getD k []) []) fun g1 g2=>?_;refine⟨(cx ks (codes.getD k []),told++[(cx ks (codes.getD k [])).length],j1),W,?_,e5.trans ?_,⟨ys++[k],qu,by rw[i1];simp,by rw[i2];simp,?_,?_⟩,f3,?_⟩
   ·rw[MC,av (aC rfl e1)];exact e4
   ·dsimp only;rw[ZA];rcases j1 with⟨⟩;case none=>exact bG.fN rfl
    case some d1=>exact bG.fN rfl
   ·rw[ZA,List.map_singleton,g2,<-i3]
   ·rw[ZA,List.map_singleton,g1,<-i3,<-i4]
   ·rw[ZN];show(cx ks (codes.getD k [])).length<=3*(done.length+1);have:=J9.1;exact cZ 0x91b03d2103a3130b21103d014 rfl i6 f4 this)
  _ [] (cm order (codes.map fun c=>.list (c.map K)) [] []) ([],[],none) none rfl (.refl _) ⟨⟨[],idx,rfl,rfl,rfl,rfl⟩,fun x hx=>(by rcases hx with⟨⟩),Nat.zero_le _⟩) fun V J a h1 hJ h2 y1 y2=>?_
 refine aL y2 fun h7 h8=>?_;refine iZ y1 fun ys rs h3 h4 h5 h6=>?_;have hy:ys=idx:=by
  have hl:ys.length=idx.length:=by have:=congrArg List.length h4;simpa using this.symm
  have:rs=[]:=by have:=congrArg List.length h3;rw[ZN]at this;exact List.length_eq_zero_iff.mp (aX 0x82220b121023 rfl hl this)
  rw[h3,this,Zz]
 subst hy;refine pR rfl ?_;rw[T1,av (aC rfl ((gk rfl Qs hi).trans h1))];refine hH (Ψ:=fK) iV.none h2 ?_;rw[<-h6];have JY:(jv "k" J++(jv "one" a.2.2++cm order (codes.map fun c=>.list (c.map K)) (a.1.map K) (a.2.1.map fun k:Nat=>.int (k:Int)))).lookup ("told":Str)=some (.own (.list (a.2.1.map fun k:Nat=>.int (k:Int)))):=by rcases J with⟨⟩<;>cases a.2.2<;>rfl
 exact eO (aC rfl (gw (vR JY))) (fun v q=>by rcases q with⟨⟩)
end
def A2 (ds:List Dat):Option Dat:=newD "list" ds
def RG (pat:Addr):gq:={b0 pat 0 with rO:=fun f=>if f="list" then some A2 else(b0 pat 0).rO f}
structure Gs where
 gd:List Dat->Option Dat
 gp:List Dat->Option Dat
 gc:List Dat->Option Dat
 gg:List Dat->Option Dat
 gb:List Dat->Option Dat
 gl:List Dat->Option Dat
 gv:List Dat->Option Dat
def bq (G:Gs)(pat:Addr):gq:=(((((((RG pat).and "_law_draws" G.gd).and "_law_parts" G.gp).and "_law_cell" G.gc).and "_law_growth" G.gg).and "_byteswap" G.gb).and "_platform" G.gl).and "_comparable_version" G.gv
section
variable {pat:Addr} {G:Gs} {fuel:Nat} {Ψ:nz}
def nS:List Stmt:=gM pw 13
def ag:Scope:=eG pw 13
abbrev aY (i:Nat):Stmt:=ak nS i
abbrev jC (i:Nat):Expr:=bz (ak nS i)
def mh (g:List Dat->Option Dat)(x y:Option Dat):Option Dat:=((x.map one).bind fun xs=>((y.map one).bind fun ys=>some (ys++[])).map fun ds=>xs++ds).bind g
theorem eA {a b:Dat}:mh g (some a) (some b)=g [a,b]:=rfl
def Gy (sc:Scope)(t:Expr)(e e':Option Dat)(V:az):Option Fl:=(match e with
 |some d=>some (d,V)|none=>e'.map fun d=>(d,aO V)).bind fun r=>(bp sc t r.1 r.2).map .next
theorem Dg:Gy sc t (some d) e' V=(bp sc t d V).map .next:=rfl
theorem Dh:Gy sc t none (some d) V=(bp sc t d (aO V)).map .next:=rfl
def we:Stmt->Expr| .Assign [t] _ _=>t|_=>.Name "" bS
theorem OV:ex (bq G pat) Ψ ag (aY 1) V=k9 ag "parts" (ev (bq G pat) ag (jC 1) V) (ev (bq G pat) ag (jC 1) (aO V)) V:=by rfl
theorem OU:ex (bq G pat) Ψ ag (aY 2) V=k9 ag "words" (ev (bq G pat) ag (jC 2) V) (ev (bq G pat) ag (jC 2) (aO V)) V:=by rfl
theorem OR:ex (bq G pat) Ψ ag (aY 7) V=k9 ag "turned" (ev (bq G pat) ag (jC 7) V) (ev (bq G pat) ag (jC 7) (aO V)) V:=by rfl
theorem OQ:ex (bq G pat) Ψ ag (aY 8) V=k9 ag "text" (ev (bq G pat) ag (jC 8) V) (ev (bq G pat) ag (jC 8) (aO V)) V:=by rfl
theorem OP:ex (bq G pat) Ψ ag (aY 9) V=k9 ag "gaps" (ev (bq G pat) ag (jC 9) V) (ev (bq G pat) ag (jC 9) (aO V)) V:=by rfl
theorem Lv:ex (bq G pat) Ψ ag (aY 15) V=k9 ag "pairs" (ev (bq G pat) ag (jC 15) V) (ev (bq G pat) ag (jC 15) (aO V)) V:=by rfl
theorem Lu:ex (bq G pat) Ψ ag (aY 21) V=k9 ag "grown" (ev (bq G pat) ag (jC 21) V) (ev (bq G pat) ag (jC 21) (aO V)) V:=by rfl
theorem Ls:ex (bq G pat) Ψ ag (aY 23) V=k9 ag "bare" (ev (bq G pat) ag (jC 23) V) (ev (bq G pat) ag (jC 23) (aO V)) V:=by rfl
theorem OS:ex (bq G pat) Ψ ag (aY 5) V=some (.next ((("tape":Str),.val (.bytes []))::V)):=by rfl
theorem OW:ex (bq G pat) Ψ ag (aY 0) V=Gy ag (we (aY 0)) (ev (bq G pat) ag (jC 0) V) (ev (bq G pat) ag (jC 0) (aO V)) V:=by rfl
theorem Lw:ex (bq G pat) Ψ ag (aY 14) V=Gy ag (we (aY 14)) (ev (bq G pat) ag (jC 14) V) (ev (bq G pat) ag (jC 14) (aO V)) V:=by rfl
theorem OT:ex (bq G pat) Ψ ag (aY 4) V=some (.next ((("due":Str),.own (.list []))::V)):=by rfl
theorem Ly:ex (bq G pat) Ψ ag (aY 10) V=some (.next ((("cells":Str),.own (.list []))::V)):=by rfl
theorem Lx:ex (bq G pat) Ψ ag (aY 12) V=some (.next ((("told":Str),.own (.list []))::V)):=by rfl
end
section
variable {pat:Addr} {fuel:Nat}
def Ap:List Stmt:=gM pw 11
def pY:Scope:=eG pw 11
def uj:List Dat->Option Dat:=uS rW fK pY Ap ["part","way"]
noncomputable def Oa:List Nat:=[32,47,92,58,59,34,40,41,46,95,43,45]
def dT (p way:Nat):List Nat:=((if 10<=p/\p<=12/\way%2=1 then[48]else[])++(wM.getD p "").cps.toList++List.replicate 5 (Oa.getD (way/2%12) 0)).take 5
def QK (p:Nat):Bool:=(List.range 72).all fun way=>Vr (uj [eC p,.int (way:Int)]) (.bytes ((dT p way).map Nat.toUInt8))
theorem Gf:(List.range 15).all QK=true:=by decide +kernel
theorem I9 {p way:Nat}(hp:p<15)(hw:way<72):uj [eC p,.int (way:Int)]=some (.bytes ((dT p way).map Nat.toUInt8)):=by have h1:=Zw Gf p (List.mem_range.mpr hp);exact MO (Zw h1 way (List.mem_range.mpr hw))
noncomputable def RZ:List (Str×Int):=[("dev",10),("alpha",20),("a",20),("beta",30),("b",30),("c",40),("RC",50),("rc",50),("pl",200),("p",200)]
def jA (x:Str):Option Int:=RZ.lookup x
theorem ui (p way:Nat):dT p way=dT p (way%24):=by
 unfold dT;have h1:way%24%2=way%2:=by lia
 have h2:way%24/2%12=way/2%12:=by lia
 rw[h1,h2]
def RU (p:Nat):Bool:=(List.range 24).all fun way=>[[],Tx.GR].all fun g=>vV (Tx.toks jA (Tx.kept ⟨(dT p way++g).toArray⟩)) (bE p)&&Tx.eK (Tx.kept ⟨(dT p way++g).toArray⟩)
theorem He:(List.range 15).all RU=true:=by decide +kernel
theorem KS {p way:Nat}(hp:p<15){g:List Nat}(hg:g=[]\/g=Tx.GR):Tx.toks jA (Tx.kept ⟨(dT p way++g).toArray⟩)=bE p/\Tx.eK (Tx.kept ⟨(dT p way++g).toArray⟩)=true:=by rw[ui];have hw:way%24<24:=Nat.mod_lt _ (by decide);have h1:=Zw (Zw He p (List.mem_range.mpr hp)) (way%24) (List.mem_range.mpr hw);have h2:=Zw h1 g (by simpa using hg);rw[ZR]at h2;exact⟨ia h2.1,h2.2⟩
theorem C4:(List.range 15).all (fun p=>(List.range 24).all fun way=>(dT p way).length==5&&(dT p way).all fun c=>decide (c<128))=true:=by decide +kernel
theorem kT {p way:Nat}(hp:p<15):(dT p way).length=5/\∀c∈dT p way,c<128:=by rw[ui];have h1:=Zw (Zw C4 p (List.mem_range.mpr hp)) (way%24) (List.mem_range.mpr (Nat.mod_lt _ (by decide)));rw[ZR,beq_iff_eq,List.all_eq_true]at h1;exact⟨h1.1,fun c hc=>of_decide_eq_true (h1.2 c hc)⟩
end
section
variable {pat:Addr} {G:Gs} {fuel:Nat} {sc ws W P:List Dat} {row o:Int} {L D:List Dat} {t:List UInt8} {j:Option Dat}
noncomputable def cX:List (List Nat):=(List.range 6).flatMap fun c=>(List.range c).flatMap fun b=>(List.range b).map fun a=>[a,b,c]
noncomputable def aw (l:List Nat):List Dat:=l.map fun k:Nat=>.int (k:Int)
def jM:List Dat:=cX.map fun t=>.list (aw t)
def M7:Expr->Expr| .Call _ as _ _=>as.headD (.Name "" bS)|e=>e
def UJ:Expr->Expr| .Call _ _ ks _=>(ks.head?.map (·.value)).getD (.Name "" bS)|e=>e
noncomputable def Sn:Expr->Expr| .Lambda _ b _ _=>b|e=>e
noncomputable def Sm:Expr->Scope| .Lambda _ _ s _=>s|_=>default
def X3:Stmt->Expr| .Expr e _=>e|_=>.Name "" bS
def H6 (s:Stmt):Expr:=Sn (UJ (bz s))
def E0 (s:Stmt):Scope:=Sm (UJ (bz s))
def JM (s:Stmt):Expr:=M7 (bz s)
def JC (s:Stmt):Expr:=M7 (M7 (X3 s))
noncomputable def iY (G:Gs)(pat:Addr):nz:=lh [(ak (bK (aY 6)) 0,Ei (bq G pat) "due" "left" (JC (ak (bK (aY 6)) 0))),(aY 16,w6 (bq G pat) "order" (JM (aY 16)) (H6 (aY 16)) (E0 (aY 16)))]
theorem ik:iV (iY G pat):=wR ⟨La,Hj,trivial⟩
noncomputable def C0 (sc ws:List Dat)(row:Int):az:=[(("row":Str),.val (.int row)),(("drawn":Str),.val (.list ws)),(("script":Str),.val (.list sc))]
def B6 (sc ws:List Dat)(row:Int)(P L D:List Dat)(t:List UInt8):az:=(("tape":Str),.val (.bytes t))::(("due":Str),.own (.list D))::(("left":Str),.own (.list L))::(("words":Str),.val (.list jM))::(("parts":Str),.val (.list P))::C0 sc ws row
def jD:List Stmt:=bK (aY 6)
def sC:List Stmt:=bK (ak jD 1)
theorem Si:ev (bq G pat) ag (jC 2) ((("parts":Str),.val (.list P))::C0 sc ws row)=some (.list jM):=by rfl
theorem Sh:ex (bq G pat) Ψ ag (aY 3) ((("words":Str),.val (.list jM))::(("parts":Str),.val (.list P))::C0 sc ws row)=some (.next ((("left":Str),.own (.list (aw (List.range 20))))::(("words":Str),.val (.list jM))::(("parts":Str),.val (.list P))::C0 sc ws row)):=by rfl
theorem LA:ev (bq G pat) ag (bj (aY 6)) (B6 sc ws row P L D t)=some (.list ws):=by rfl
theorem OY (d:Dat)(V:az):bp ag (aU (aY 6)) d V=some ((("one":Str),.val d)::V):=by rfl
theorem Lz (d:Dat)(V:az):bp ag (aU (ak jD 1)) d V=some ((("k":Str),.val d)::V):=by rfl
theorem O0:jD=[ak jD 0,.For (aU (ak jD 1)) (bj (ak jD 1)) sC [] (cK (ak jD 1))]:=by rfl
theorem OZ:sC=[ak sC 0]:=by rfl
theorem EO:ev (bq G pat) ag (JC (ak jD 0)) ((("one":Str),.val (.int o))::(jv "k" j++B6 sc ws row P L D t))=dh .Mod (dh .Mod (some (.int o)) (some (.int 20))) (if L.length<=aM then some (.int (L.length:Int))else none):=by rcases j with⟨⟩<;>rfl
theorem tI (h:V.lookup x=some (.own (.list ds))):dU V x=some ds:=by unfold dU;rw[h]
theorem B1 {sc:Scope}{vars:az}{y:Str}{ix:Expr}{ls:List Dat}{i:Int}{d:Dat}(hx:vars.lookup x=some (.own (.list ds)))(hy:vars.lookup y=some (.own (.list ls)))(hi:ev Φ sc ix vars=some (.int i))(h0:0<=i)(hl:ls.length<=aM)(hd:ds.length+1<=aM)(hg:ls[i.toNat]?=some d):Ei Φ x y ix sc vars=some (.next ((x,.own (.list (ds++[d])))::(y,.own (.list (ls.eraseIdx i.toNat)))::vars)):=by unfold Ei;rw[tI hx,ZV,tI hy,ZV,hi];show((some i).bind fun i=>_)=_;rw[ZV,Z1 ⟨h0,hl,hd⟩,hg];rfl
def dc (x y:Option Dat):Option Dat:=x.bind fun a=>y.bind fun i=>ez a i
theorem DX {a i:Dat}:dc (some a) (some i)=ez a i:=rfl
theorem HQ:ev (bq G pat) ag (bj (ak jD 1)) (jv "k" j++((("one":Str),.val (.int o))::B6 sc ws row P L D t))=dc (some (.list jM)) (ez (.list D) (.int (-1))):=by rcases j with⟨⟩<;>rfl
theorem OX {k:Int}:ev (bq G pat) ag (bz (ak sC 0)) ((("k":Str),.val (.int k))::(("one":Str),.val (.int o))::B6 sc ws row P L D t)=dh .Add (some (.bytes t)) (mh G.gc (ez (.list P) (.int k)) (dh .FloorDiv (some (.int o)) (some (.int 20)))):=by rfl
theorem O1:ex (bq G pat) Ψ ag (ak sC 0) V=k9 ag "tape" (ev (bq G pat) ag (bz (ak sC 0)) V) (ev (bq G pat) ag (bz (ak sC 0)) (aO V)) V:=by rfl
end
section
variable {pat:Addr} {G:Gs} {fuel:Nat} {sc ws W P:List Dat} {row o:Int} {L D:List Dat} {t:List UInt8} {j:Option Dat} {ps:List Nat}
def iA (ps tri:List Nat)(n:Nat):List UInt8:=(tri.flatMap fun c=>dT (ps.getD c 0) (n/20)).map Nat.toUInt8
theorem yr (ps tri:List Nat)(c n:Nat):iA ps (tri++[c]) n=iA ps tri n++(dT (ps.getD c 0) (n/20)).map Nat.toUInt8:=by unfold iA;rw[List.flatMap_append,List.flatMap_singleton,ZA]
theorem tJ (h6:ps.length=6)(pV:∀p∈ps,p<15)(hc:c<6):ps[c]?=some (ps.getD c 0)/\ps.getD c 0<15:=by
 have h1:ps[c]?=some (ps.getD c 0):=by rw[Z5,ZY (by exact aR 0x1006a1006a023 rfl h6 hc)];rfl
 exact⟨h1,pV _ (ZD h1)⟩
theorem rF (h6:ps.length=6)(pV:∀p∈ps,p<15)(ht:∀c∈tri,c<6):(iA ps tri n).length=5*tri.length:=by unfold iA;rw[Z2];induction tri with|nil=>rfl|cons c tri ih=>rw[List.flatMap_cons,ZN,ih fun x hx=>ht x (Z7 _ hx),(kT (tJ h6 pV (ht c Z6)).2).1,List.length_cons];exact bC 0x90b05d005d05ab21 rfl
theorem Ax {a b:List UInt8}(h:a.length+b.length<=aM):js .Add (.bytes a) (.bytes b)=some (.bytes (a++b)):=by show(if a.length+b.length<=aM then some (Dat.bytes (a++b))else none)=_;rw[Z1 h]
theorem mT (n m:Nat):(n:Int).fdiv (m:Int)=((n/m:Nat):Int):=by rw[Int.fdiv_eq_ediv_of_nonneg _ (by exact bC 0xaf881 rfl)];rfl
theorem mS (n m:Nat):(n:Int).fmod (m:Int)=((n%m:Nat):Int):=by rw[Int.fmod_eq_emod_of_nonneg _ (by exact bC 0xaf881 rfl)];rfl
set_option tactic.hygienic true in
theorem ER (hG:G.gc=uj)(h6:ps.length=6)(pV:∀p∈ps,p<15)(ht:∀c∈tri,c<6)(PA:tri.length<=3)(hn:n<1440)(hb:t.length<=1000)(hV:bG V (jv "k" j++((("one":Str),.val (.int (n:Int)))::B6 sc ws row (ps.map eC) L D t))):∃V' j',cQ (jT (bq G pat) (iY G pat) ag (aU (ak jD 1)) sC) (aw tri) V=some (.next V')/\(tri≠[]->j'.isSome=true)/\bG V' (jv "k" j'++((("one":Str),.val (.int (n:Int)))::B6 sc ws row (ps.map eC) L D (t++iA ps tri n))):=by
 revert V G j hG h6 pV ht PA hn hb hV;refine no_implicit_lambda% (si inferInstance ?_ ps n t sc ws row L D tri pat);generalize jF _ _=tt;dsimp only[DB];generalize tt.1.1.1.1=ps,tt.1.1.1.2=n,tt.1.1.2=t,tt.1.2.1=sc,tt.1.2.2=ws,tt.2.1.1.1=row,tt.2.1.1.2=L,tt.2.1.2=D,tt.2.2.1=tri,tt.2.2.2=pat;intro V G j hG h6 pV ht PA hn hb hV;obtain⟨V',J',a,h1,hJ,h2,ys,y0⟩:=fQ (Φ:=bq G pat) (Ψ:=iY G pat) (sc:=ag) (t:="k") (te:=aU (ak jD 1)) (body:=sC) (α:=List UInt8) ik Lz (fun a=>(("one":Str),.val (.int (n:Int)))::B6 sc ws row (ps.map eC) L D a) (fun done a=>∃ys rest,tri=ys++rest/\done=aw ys/\a=t++iA ps ys n) (items:=aw tri) (fun done o rest a hi hI=>by
   refine eB hI fun ys rs i1 i2 i3=>?_;obtain⟨c,qu,hr,ho⟩:∃c qu,rs=c::qu/\o=.int (c:Int):=by
    unfold aw at hi i2;rw[i1,ZA,i2]at hi;have:=List.append_cancel_left hi;rcases rs with⟨⟩;case nil=>(rcases this with⟨⟩)
    case cons c qu=>exact⟨c,qu,rfl,(List.cons.inj this).1.symm⟩
   subst ho hr;have Xo:c<6:=ht c (by rw[i1];simp);refine aL (tJ h6 pV Xo) fun p1 p2=>?_;have E8:ys.length<=3:=by have:=congrArg List.length i1;simp at this;exact aX 0x3a1192b1b0203a013 rfl PA this
   have TC:=rF (n:=n) h6 pV (tri:=ys) fun x hx=>ht x (by rw[i1];exact List.mem_append_left _ hx);have hw:n/20<72:=aX 0x48a1002114db2000005a08f003 rfl hn (Nat.div_add_mod (n) (20));have P9:=I9 p2 hw;have WU:=(kT (way:=n/20) p2).1;have he:=OX (G:=G) (pat:=pat) (sc:=sc) (ws:=ws) (row:=row) (P:=ps.map eC) (L:=L) (D:=D) (t:=a) (o:=(n:Int)) (k:=(c:Int));rw[item_at (d:=eC (ps.getD c 0)) (by rw[ZP,p1];rfl) (by rw[Z2];exact bC 0x3e88f0106a022 rfl h6),br,iQ (b:=20) (by decide) (by decide),show((n:Int).fdiv 20)=((n/20:Nat):Int)from mT n 20,eA,hG,P9,br,Ax (by rw[i3,ZN,TC,Z2,WU];unfold aM;exact aR 0xf42408f05a105d0bb103a11000003e88f013 rfl hb E8)]at he;refine⟨a++(dT (ps.getD c 0) (n/20)).map Nat.toUInt8,(("tape":Str),.val (.bytes (a++(dT (ps.getD c 0) (n/20)).map Nat.toUInt8)))::(("k":Str),.val (.int (c:Int)))::(("one":Str),.val (.int (n:Int)))::B6 sc ws row (ps.map eC) L D a,?_,bG.fN ?_,ys++[c],qu,by rw[i1];simp,by rw[i2];simp[aw],by rw[i3,yr,List.append_assoc]⟩
   ·rw[OZ,av (aC rfl (O1.trans (by rw[he,cf];rfl)))];exact eP
   ·exact rfl)
  _ [] V t j rfl hV ⟨[],tri,rfl,rfl,by simp[iA]⟩
 refine eD y0 fun rs h3 h4 h5=>?_;have hy:ys=tri:=by
  have hl:ys.length=tri.length:=by have:=congrArg List.length h4;simpa[aw]using this.symm
  have:rs=[]:=by have:=congrArg List.length h3;rw[ZN]at this;exact List.length_eq_zero_iff.mp (aX 0x82220b121023 rfl hl this)
  rw[h3,this,Zz]
 subst hy;subst h5;exact⟨V',J',h1,fun iX=>hJ (.inr fun q=>iX (by simpa[aw]using q)),h2⟩
end
section
variable {pat:Addr} {G:Gs} {fuel:Nat} {sc ws W P:List Dat} {row o:Int} {t:List UInt8} {j:Option Dat} {ps:List Nat}
def lg (ps aA ns:List Nat):List UInt8:=(aA.zip ns).flatMap fun x=>iA ps (cX.getD x.1 []) x.2
theorem KR:∀t∈cX,t.length=3/\∀c∈t,c<6:=by decide
theorem qf (h:i<20):cX[i]?=some (cX.getD i [])/\(cX.getD i []).length=3/\∀c∈cX.getD i [],c<6:=by
 have hl:cX.length=20:=by decide
 have h1:cX[i]?=some (cX.getD i []):=by rw[Z5,ZY (by exact aR 0x10014a1214a003 rfl h hl)];rfl
 exact⟨h1,KR _ (ZD h1)⟩
theorem tw (h6:ps.length=6)(pV:∀p∈ps,p<15):∀(aA ns:List Nat),(∀x∈aA,x<20)->(lg ps aA ns).length<=15*aA.length|[],ns,_=>by simp[lg]|d::aA,[],_=>by simp[lg]|d::aA,n::ns,h=>by have ih:=tw h6 pV aA ns fun x hx=>h x (Z7 _ hx);have ht:=qf (h d Z6);have hc:=rF (n:=n) h6 pV ht.2.2;unfold lg at ih ⊢;rw[List.zip_cons_cons,List.flatMap_cons,ZN,List.length_cons];dsimp only;rw[hc,ht.2.1];exact aR 0x91b0fd003a05db110fd012 rfl ih
theorem item_last (h:ds.length<=1000):ez (.list (ds++[d])) (.int (-1))=some d:=by
 show(if aG (-1)=true then(dN (-1) (ds++[d]).length).bind ((ds++[d])[·]?)else none)=_;rw[Z1 (by decide)];unfold dN;rw[ZX (by decide),Z1 (by simp;exact bC 0x90afb99fb881 rfl)];have:((-1:Int)+((ds++[d]).length:Int)).toNat=ds.length:=by simp;exact bC 0x90afb99fbbf21 rfl
 rw[ZV,this];simp
theorem ua {α β:Type}(f:α->β):∀(l:List α)(i:Nat),(l.map f).eraseIdx i=(l.eraseIdx i).map f|[],_=>rfl|a::l,0=>rfl|a::l,i+1=>by rw[ZI,List.eraseIdx_cons_succ,ua f l i,List.eraseIdx_cons_succ,ZI]
theorem rq {α:Type}{d:α}:∀(l:List α)(i:Nat),l[i]?=some d->(d::l.eraseIdx i).Perm l
 |[],i,h=>by simp at h
 |a::l,0,h=>by rw[List.getElem?_cons_zero]at h;obtain rfl:=Z9 h;exact .refl _
 |a::l,i+1,h=>by rw[List.getElem?_cons_succ]at h;rw[List.eraseIdx_cons_succ];exact(List.Perm.swap a d _).trans ((rq l i h).cons a)
set_option tactic.hygienic true in
theorem EP (hG:G.gc=uj)(h6:ps.length=6)(pV:∀p∈ps,p<15)(fO:∀n∈ns,n<1440)(Ff:ns.length=20):∃V' J j aA L,cQ (jT (bq G pat) (iY G pat) ag (aU (aY 6)) jD) (aw ns) (B6 sc ws row (ps.map eC) (aw (List.range 20)) [] [])=some (.next V')/\bG V' (jv "one" J++(jv "k" j++B6 sc ws row (ps.map eC) (aw L) (aw aA) (lg ps aA ns)))/\(aA++L).Perm (List.range 20)/\aA.length=20/\J.isSome=true/\j.isSome=true:=by
 revert G ns hG h6 pV fO Ff;refine no_implicit_lambda% (Q3 inferInstance ?_ ps sc ws row pat);generalize jF _ _=tt;dsimp only[K5];generalize tt.1.1.1=ps,tt.1.1.2=sc,tt.1.2=ws,tt.2.1=row,tt.2.2=pat;intro G ns hG h6 pV fO Ff;obtain⟨V',J',a,h1,hJ,h2,ys,y0⟩:=fQ (Φ:=bq G pat) (Ψ:=iY G pat) (sc:=ag) (t:="one") (te:=aU (aY 6)) (body:=jD) (α:=List Nat×List Nat×List UInt8×Option Dat) ik OY (fun a=>jv "k" a.2.2.2++B6 sc ws row (ps.map eC) (aw a.2.1) (aw a.1) a.2.2.1) (fun done a=>∃ys rest,ns=ys++rest/\done=aw ys/\a.1.length=ys.length/\(a.1++a.2.1).Perm (List.range 20)/\a.2.2.1=lg ps a.1 ys/\(ys≠[]->a.2.2.2.isSome=true)) (items:=aw ns) (fun done o rest a hi hI=>by
   refine DE hI fun ys rs i1 i2 i3 i4 i5 i6=>?_;obtain⟨aA,L,t,j⟩:=a;dsimp only at i3 i4 i5 ⊢;obtain⟨m,qu,hr,ho⟩:∃m qu,rs=m::qu/\o=.int (m:Int):=by
    unfold aw at hi i2;rw[i1,ZA,i2]at hi;have:=List.append_cancel_left hi;rcases rs with⟨⟩;case nil=>(rcases this with⟨⟩)
    case cons c qu=>exact⟨c,qu,rfl,(List.cons.inj this).1.symm⟩
   subst ho hr;have hm:m<1440:=fO m (by rw[i1];simp);have E8:ys.length<20:=by have:=congrArg List.length i1;simp at this;exact aX 0x14a1092b1b0214a023 rfl Ff this
   have TN:L.length=20-ys.length:=by have:=i4.length_eq;simp at this;exact aX 0x114ac2214a20b21023 rfl i3 this
   have nZ:∀x∈aA++L,x<20:=fun x hx=>by simpa using i4.mem_iff.mp hx
   have ly:m%20%L.length<L.length:=Nat.mod_lt _ (aR 0x180014ac1214a003 rfl E8 TN);obtain⟨d,hd⟩:∃d,L[m%20%L.length]?=some d:=⟨_,ZY ly⟩;have Tw:d<20:=nZ d (List.mem_append_right _ (ZD hd));have Rm:=EO (G:=G) (pat:=pat) (sc:=sc) (ws:=ws) (row:=row) (P:=ps.map eC) (L:=aw L) (D:=aw aA) (t:=t) (j:=j) (o:=(m:Int));have Vl:(aw L).length=L.length:=by simp[aw]
   have Vm:(aw aA).length=aA.length:=by simp[aw]
   rw[Vl,Z1 (by unfold aM;exact aR 0xf42408f01114ac022 rfl TN),br,ed (b:=20) (by decide),br,ed (by exact aR 0x81af931002 rfl ly),show((m:Int).fmod 20)=((m%20:Nat):Int)from mS m 20,mS]at Rm;have PJ:=B1 (Φ:=bq G pat) (sc:=ag) (vars:=(("one":Str),.val (.int (m:Int)))::(jv "k" j++B6 sc ws row (ps.map eC) (aw L) (aw aA) t)) (x:="due") (y:="left") (by rcases j with⟨⟩<;>rfl) (by rcases j with⟨⟩<;>rfl) Rm (bC 0xaf881 rfl) (by rw[Vl];unfold aM;exact aR 0xf42408f01114ac022 rfl TN) (by rw[Vm];unfold aM;exact aR 0xf42408f90b114a101023 rfl i3 E8) (d:=.int (d:Int)) (by rw[ZE];unfold aw;rw[ZP,hd];rfl);rw[ZE]at PJ;have PH:iY G pat ag (ak jD 0) ((("one":Str),.val (.int (m:Int)))::(jv "k" j++B6 sc ws row (ps.map eC) (aw L) (aw aA) t))=_:=(cM rfl).trans PJ;have Mp:aw aA++[Dat.int (d:Int)]=aw (aA++[d]):=by simp[aw]
   have Tt:(aw L).eraseIdx (m%20%L.length)=aw (L.eraseIdx (m%20%L.length)):=by unfold aw;rw[ua]
   rw[Mp,Tt]at PH;have XH:bG ((("due":Str),.own (.list (aw (aA++[d]))))::(("left":Str),.own (.list (aw (L.eraseIdx (m%20%L.length)))))::(("one":Str),.val (.int (m:Int)))::(jv "k" j++B6 sc ws row (ps.map eC) (aw L) (aw aA) t)) (jv "k" j++((("one":Str),.val (.int (m:Int)))::B6 sc ws row (ps.map eC) (aw (L.eraseIdx (m%20%L.length))) (aw (aA++[d])) t)):=by
    rcases j with⟨⟩
    case none=>exact bG.fN rfl
    case some jd=>exact bG.fN rfl
   have ht:=qf Tw;have hit:=HQ (G:=G) (pat:=pat) (sc:=sc) (ws:=ws) (row:=row) (P:=ps.map eC) (L:=aw (L.eraseIdx (m%20%L.length))) (D:=aw (aA++[d])) (t:=t) (j:=j) (o:=(m:Int));rw[<-Mp,item_last (by rw[Vm];exact aR 0x3e88f0114a101023 rfl i3 E8)]at hit;have Te:dc (some (.list jM)) (some (.int (d:Int)))=some (.list (aw (cX.getD d []))):=by have N3:∀a i:Dat,dc (some a) (some i)=ez a i:=fun z z=>rfl;rw[N3];refine item_at ?_ (by decide);unfold jM;rw[ZP,ht.1];rfl
   rw[Te]at hit;rw[Mp]at hit;have GX:t.length<=1000:=by rw[i5];have:=tw h6 pV aA ys fun x hx=>nZ x (List.mem_append_left _ hx);exact aX 0x3e88f2100fd2114a101024 rfl i3 E8 this
   refine eB (ER (j:=j) (pat:=pat) (sc:=sc) (ws:=ws) (row:=row) (L:=aw (L.eraseIdx (m%20%L.length))) (D:=aw (aA++[d])) hG h6 pV ht.2.2 (by lia) hm GX (.refl _)) fun V1 j1 f1 f3 f2=>?_;have e3:bT (bq G pat) (iY G pat) ag [.For (aU (ak jD 1)) (bj (ak jD 1)) sC [] (cK (ak jD 1))] (jv "k" j++((("one":Str),.val (.int (m:Int)))::B6 sc ws row (ps.map eC) (aw (L.eraseIdx (m%20%L.length))) (aw (aA++[d])) t))=some (.next V1):=by rw[av (aC rfl ((gk rfl hit rfl).trans f1))];exact eP
   refine ax (kq ik XH e3) fun W e4 e5=>?_;refine⟨(aA++[d],L.eraseIdx (m%20%L.length),t++iA ps (cX.getD d []) m,j1),W,?_,(e5.trans f2).trans ?_,ys++[m],qu,by rw[i1];simp,by rw[i2];simp[aw],by simp[i3],?_,?_,fun z=>f3 fun q=>by have:=ht.2.1;rw[q]at this;rcases this with⟨⟩⟩
   ·rw[O0,av (cE PH)];exact e4
   ·rcases j1 with⟨⟩;case none=>exact .refl _
    case some jd=>exact bG.swap (by decide)
   ·refine List.Perm.trans ?_ i4;rw[List.append_assoc];refine List.Perm.append_left _ ?_;exact rq L _ hd
   ·rw[i5];unfold lg;rw[List.zip_append i3];simp)
  _ [] (B6 sc ws row (ps.map eC) (aw (List.range 20)) [] []) ([],List.range 20,[],none) none rfl (.refl _) ⟨[],ns,rfl,rfl,rfl,.refl _,rfl,fun q=>absurd rfl q⟩
 refine Bx y0 fun rs h3 h4 h5 Vn h7 h8=>?_;have hy:ys=ns:=by
  have hl:ys.length=ns.length:=by have:=congrArg List.length h4;simpa[aw]using this.symm
  have:rs=[]:=by have:=congrArg List.length h3;rw[ZN]at this;exact List.length_eq_zero_iff.mp (aX 0x82220b121023 rfl hl this)
  rw[h3,this,Zz]
 subst hy;obtain⟨aA,L,t,j⟩:=a;dsimp only at h2 h5 Vn h7 h8;subst h7;have iX:ys≠[]:=fun q=>by rw[q]at Ff;rcases Ff with⟨⟩
 exact⟨V',J',j,aA,L,h1,h2,Vn,by exact aR 0x14a1201214a023 rfl Ff h5,hJ (.inr fun q=>iX (by simpa[aw]using q)),h8 iX⟩
end
section
variable {pat:Addr} {G:Gs} {fuel:Nat} {sc ws W P L D:List Dat} {row o:Int} {t:List UInt8} {j J:Option Dat} {ps:List Nat} {Ψ:nz}
theorem y6 {x r:List UInt8}{w:Nat}(hx:x.length=w)(hw:0<w):fL (x++r) w=x.reverse++fL r w:=by
 apply List.ext_getElem?;intro k;unfold fL;by_cases hk:k<w
 ·rw[List.getElem?_append_left (by simp;exact aX 0x201201023 rfl hx hk),ZP,List.getElem?_range (by simp;exact cZ 0x30b201201023 rfl hx hk),Option.map_some,List.getElem?_reverse (by exact aX 0x201201023 rfl hx hk)];unfold swapAt;rw[Nat.div_eq_of_lt hk,Nat.mod_eq_of_lt hk,Nat.zero_mul,Nat.zero_add,Z5,List.getElem?_append_left (by exact aX 0x291cc01201023 rfl hx hk),hx];have:w-1-k<x.length:=aX 0x291cc01201023 rfl hx hk;rw[ZY this];rfl
 ·rw[List.getElem?_append_right (by simp;exact aX 0x20112031023 rfl hx hk),List.length_reverse,hx];by_cases pU:k<(x++r).length
  ·have Nu:k-w<r.length:=by simp at pU;exact cZ 0x312c030b2012031024 rfl hx hk pU
   rw[ZP,List.getElem?_range pU,ZP,List.getElem?_range Nu,Option.map_some,Option.map_some];congr 1;unfold swapAt;have e1:k/w=(k-w)/w+1:=by
    have:k=(k-w)+w:=aR 0x110cb0210032 rfl hk;conv=>lhs;rw[this]
    rw[Nat.add_div_right _ hw]
   have e2:k%w=(k-w)%w:=by
    have:k=(k-w)+w:=aR 0x110cb0210032 rfl hk;conv=>lhs;rw[this]
    rw[Nat.add_mod_right]
   have hm:=Nat.mod_lt (k-w) hw;have e3:k/w*w=(k-w)/w*w+w:=by rw[e1,Nat.succ_mul]
   rw[e3,e2,Z5,Z5,List.getElem?_append_right (by exact cZ 0x391cc12bb011022 rfl hx)];congr 2;exact cZ 0x391cc2b0391cc12bbc21022 rfl hx
  ·rw[List.getElem?_eq_none (by simp at pU ⊢;exact aX 0x210b1210b12 rfl pU),List.getElem?_eq_none (by simp at pU ⊢;exact cZ 0x13c21320b11023 rfl hx pU)]
theorem je {w:Nat}(hw:0<w):∀bs:List (List UInt8),(∀b∈bs,b.length=w)->fL bs.flatten w=(bs.map List.reverse).flatten:=by intro bs;induction bs with|nil=>intro _;exact rfl|cons b bs ih=>intro h;rw[List.flatten_cons,y6 (h b Z6) hw,ih fun x hx=>h x (Z7 _ hx)];rfl
def tn (ps:List Nat)(d n:Nat):List (List Nat):=(cX.getD d []).map fun c=>dT (ps.getD c 0) (n/20)
def fT (ps aA ns:List Nat):List (List (List Nat)):=(aA.zip ns).map fun x=>tn ps x.1 x.2
def aP (ps aA ns:List Nat):List (List Nat):=(fT ps aA ns).flatMap List.reverse
noncomputable def B8 (l:List Nat):List UInt8:=l.map Nat.toUInt8
theorem Js (l:List (List Nat)):B8 l.flatten=(l.map B8).flatten:=by unfold B8;rw[List.map_flatten]
theorem y5 (ps aA ns:List Nat):lg ps aA ns=((fT ps aA ns).map fun w=>B8 w.flatten).flatten:=by unfold lg fT;rw[ZH,List.flatMap_def];congr 1
def Good (wl:List (List (List Nat))):Prop:=∀w∈wl,w.length=3/\∀c∈w,c.length=5/\∀x∈c,x<128
theorem gJ {α:Type}{l:List (List α)}{k:Nat}(h:∀c∈l,c.length=k):l.flatten.length=l.length*k:=by induction l with|nil=>simp|cons c l ih=>rw[List.flatten_cons,ZN,h c Z6,ih fun x hx=>h x (Z7 _ hx),List.length_cons,Nat.succ_mul,Nat.add_comm]
theorem uH {wl:List (List (List Nat))}(h:Good wl):fL (fL ((wl.map fun w=>B8 w.flatten).flatten) 15) 5=B8 (wl.flatMap List.reverse).flatten:=by
 rw[je (by decide) _ (fun b hb=>by refine ax (Zx hb) ?_;rintro w hw (rfl);unfold B8;rw[Z2,gJ fun c hc=>((h w hw).2 c hc).1,(h w hw).1])];have e1:((wl.map fun w=>B8 w.flatten).map List.reverse).flatten=((wl.flatMap List.reverse).map fun c=>(B8 c).reverse).flatten:=by clear h;induction wl with|nil=>rfl|cons w wl ih=>rw[ZI,ZI,List.flatten_cons,ih,List.flatMap_cons,ZA,List.flatten_append];congr 1;unfold B8;rw[<-List.map_reverse,List.reverse_flatten,List.map_flatten,<-List.map_reverse,ZH];congr 1;refine ZF fun c x=>?_;rw[Function.comp_apply,List.map_reverse]
 rw[e1,je (by decide) _ (fun b hb=>by refine ax (Zx hb) ?_;rintro c hc (rfl);refine ax (List.mem_flatMap.mp hc) fun w hw P8=>?_;unfold B8;rw[List.length_reverse,Z2];exact((h w hw).2 c (List.mem_reverse.mp P8)).1),ZH,Js];congr 1;refine ZF fun c x=>?_;rw[Function.comp_apply,List.reverse_reverse]
theorem z3 (h6:ps.length=6)(pV:∀p∈ps,p<15)(hd:∀x∈aA,x<20):Good (fT ps aA ns):=fun w hw=>by unfold fT at hw;refine ax (Zx hw) ?_;rintro x hx (rfl);have ht:=qf (hd x.1 (List.of_mem_zip hx).1);refine⟨by unfold tn;rw[Z2];exact ht.2.1,fun c hc=>?_⟩;unfold tn at hc;refine ax (Zx hc) ?_;rintro k hk (rfl);exact kT (tJ h6 pV (ht.2.2 k hk)).2
def T6 (J j:Option Dat)(sc ws:List Dat)(row:Int)(P L D:List Dat)(t:List UInt8):az:=jv "one" J++(jv "k" j++B6 sc ws row P L D t)
theorem Sg:ev (bq G pat) ag (jC 7) (T6 J j sc ws row P L D t)=mh G.gb (mh G.gb (some (.bytes t)) (some (.int 15))) (some (.int 5)):=by rcases J with⟨⟩<;>rcases j with⟨⟩<;>rfl
noncomputable def OK (g:Dat->List Dat->Option Dat)(a:Dat)(x:Option Dat):Option Dat:=(x.bind fun d=>some [d]).bind fun ds=>g a ds
theorem Sf:ev (bq G pat) ag (jC 8) ((("turned":Str),.val (.bytes T))::T6 J j sc ws row P L D t)=OK A6 (.str "") (gL (some (.bytes T)) fun d=>kX (Gg I5 (some d))):=by rcases J with⟨⟩<;>rcases j with⟨⟩<;>rfl
noncomputable def Qu:List Dat:=[.str "unknown",.str "",.str "unknown unknown"]
theorem Se:ev (bq G pat) ag (jC 9) ((("text":Str),.val (.str x))::(("turned":Str),.val (.bytes T))::T6 J j sc ws row P L D t)=gL (some (.list ws)) fun d=>kX (dc (some (.list Qu)) (dh .FloorDiv (some d) (some (.int 480)))):=by rcases J with⟨⟩<;>rcases j with⟨⟩<;>rfl
end
section
variable {pat:Addr} {G:Gs} {fuel:Nat} {sc ws W P L D:List Dat} {row o:Int} {t T:List UInt8} {j J:Option Dat} {ps:List Nat} {Ψ:nz} {wl:List (List (List Nat))}
theorem tj (h:Good wl):(wl.flatMap List.reverse).length=3*wl.length/\∀c∈wl.flatMap List.reverse,c.length=5/\∀x∈c,x<128:=by
 refine⟨?_,fun c hc=>?_⟩
 ·induction wl with|nil=>rfl|cons w wl ih=>rw[List.flatMap_cons,ZN,List.length_reverse,(h w Z6).1,ih fun x hx=>h x (Z7 _ hx),List.length_cons];exact bC 0x90b03d003d03ab21 rfl
 ·refine ax (List.mem_flatMap.mp hc) fun w hw P8=>?_;exact(h w hw).2 c (List.mem_reverse.mp P8)
theorem wO (h:Good wl):((wl.map fun w=>B8 w.flatten).flatten).length=wl.length*15:=by rw[gJ (k:=15) fun b hb=>?_,Z2];refine ax (Zx hb) ?_;rintro w hw (rfl);unfold B8;rw[Z2,gJ fun c hc=>((h w hw).2 c hc).1,(h w hw).1]
theorem rK {w:Nat}(hw:0<w)(hc:w<=aM)(hl:b.length<=aM)(hm:b.length%w=0):Ki [.bytes b,.int (w:Int)]=some (.bytes (fL b w)):=by show(if 0<(w:Int)/\(w:Int)<=(aM:Int)/\b.length<=aM/\b.length%(w:Int).toNat=0 then some (Dat.bytes (fL b (w:Int).toNat))else none)=_;rw[ZE,Z1 ⟨by exact bC 0xaf870802 rfl hw,by exact aR 0x1af0af81012 rfl hc,hl,hm⟩]
theorem tB (b:List UInt8)(w:Nat):(fL b w).length=b.length:=by unfold fL;simp
theorem NS (hb:G.gb=Ki)(h:Good wl)(hl:wl.length<=100):ev (bq G pat) ag (jC 7) (T6 J j sc ws row P L D ((wl.map fun w=>B8 w.flatten).flatten))=some (.bytes (B8 (wl.flatMap List.reverse).flatten)):=by have ht:=wO h;have e1:=rK (b:=(wl.map fun w=>B8 w.flatten).flatten) (w:=15) (by decide) (by decide) (by rw[ht];unfold aM;exact bC 0xf42408f00fe164a012 rfl hl) (by rw[ht];exact Nat.mul_mod_left _ _);have e2:=rK (b:=fL ((wl.map fun w=>B8 w.flatten).flatten) 15) (w:=5) (by decide) (by decide) (by rw[tB,ht];unfold aM;exact bC 0xf42408f00fe164a012 rfl hl) (by rw[tB,ht];lia);rw[Sg,eA,hb,show((15:Int))=((15:Nat):Int)from rfl,e1,eA,show((5:Int))=((5:Nat):Int)from rfl,e2,uH h]
theorem u8 (h:c<128):(Nat.toUInt8 c).toNat=c:=by simp;exact bC 0x1008f0080a002 rfl h
theorem tW:∀l:List Str,(PySem.Str.join "" l).cps.toList=(l.map (·.cps.toList)).flatten
 |[]=>rfl
 |[a]=>by simp[PySem.Str.join]
 |a::b::r=>by
  show(a++""++PySem.Str.join "" (b::r)).cps.toList=_;simp only[Str.cps_append,Array.toList_append];rw[tW (b::r),ZI,List.flatten_cons];have:("":PySem.Str).cps.toList=[]:=by rfl
  rw[this,Zz];simp
theorem ql:∀l:List Str,strsOf (l.map .str)=some l:=by intro l;induction l with|nil=>exact rfl|cons a l ih=>show(strsOf (l.map .str)).map (a::·)=_;rw[ih];rfl
theorem NR (hl:l.length<=100000)(h:∀c∈l,c<128):ev (bq G pat) ag (jC 8) ((("turned":Str),.val (.bytes (B8 l)))::T6 J j sc ws row P L D t)=some (.str ⟨l.toArray⟩):=by
 rw[Sf,el (items:=(B8 l).map fun x=>.int x.toNat) (g:=HG fun i=>.str ⟨#[i.toNat]⟩) rfl (fun d hd=>?_) (by unfold B8 aM;simp;exact bC 0xf42408f01000186a08f012 rfl hl)]
 ·have e:((B8 l).map fun x=>Dat.int (x.toNat:Int)).map (HG fun i=>Dat.str ⟨#[i.toNat]⟩)=(l.map fun c=>(⟨#[c]⟩:Str)).map .str:=by unfold B8;rw[ZH,ZH,ZH];refine ZF fun c hc=>?_;show Dat.str ⟨#[((Nat.toUInt8 c).toNat:Int).toNat]⟩=_;rw[u8 (h c hc)];rfl
  rw[e];show(strsOf ((l.map fun c=>(⟨#[c]⟩:Str)).map .str)).bind (fun ys=>if(ys.map (·.length)).sum+ys.length*("":Str).length<=16777216 then some (Dat.str (Txt.join "" ys))else none)=_;rw[ql,ZV];have e2:("":Str).length=0:=by rfl
  have e3:((l.map fun c=>(⟨#[c]⟩:Str)).map (·.length)).sum=l.length:=by rw[ZH];clear hl h e;induction l with|nil=>rfl|cons c l ih=>rw[ZI,List.sum_cons,ih,List.length_cons];show 1+l.length=_;exact bC 0x90b09b21 rfl
  rw[Z1 (by rw[e2,e3];exact aR 0x10000008f100e0b1000186a08f012 rfl hl)];congr 2;apply Tx.jf;unfold Txt.join;rw[StrLaws.glued_eq_join,tW,ZH];show(l.map fun c=>[c]).flatten=l;clear hl h e e3;induction l with|nil=>rfl|cons c l ih=>rw[ZI,List.flatten_cons,ih];rfl
 ·refine ax (Zx hd) ?_;rintro b hb (rfl);have pD:(b.toNat:Int)<=0x10FFFF:=by have:=b.toNat_lt;lia
  show kX (I5 [.int (b.toNat:Int)])=_;show kX (if 0<=(b.toNat:Int)/\(b.toNat:Int)<=0x10FFFF then some (Dat.str ⟨#[(b.toNat:Int).toNat]⟩)else none)=_;rw[Z1 ⟨by exact bC 0xaf881 rfl,pD⟩];rfl
noncomputable def T2:List Str:=["unknown","","unknown unknown"]
def jE (n:Nat):Str:=T2.getD (n/480) ""
theorem NQ (hn:∀n∈ns,n<1440)(hl:ns.length<=100):ev (bq G pat) ag (jC 9) ((("text":Str),.val (.str x))::(("turned":Str),.val (.bytes T))::T6 J j sc (aw ns) row P L D t)=some (.list (ns.map fun n=>.str (jE n))):=by
 rw[Se,el (items:=aw ns) (g:=HG fun i=>.str (jE i.toNat)) rfl (fun d hd=>?_) (by unfold aw aM;simp;exact bC 0xf42408f0164a012 rfl hl)]
 ·unfold aw;rw[ZH];rfl
 ·refine ax (Zx hd) ?_;rintro n JW (rfl);have h1:=hn n JW;have hq:n/480<3:=by lia
  rw[br,iQ (by decide) (by decide),show((n:Int).fdiv 480)=((n/480:Nat):Int)from mT n 480];have:dc (some (.list Qu)) (some (.int ((n/480:Nat):Int)))=some (.str (jE n)):=by rw[DX];refine item_at ?_ (by decide);unfold jE;match n/480,hq with|0,_=>rfl|1,_=>rfl|2,_=>rfl
  rw[this];rfl
end
section
variable {pat:Addr} {G:Gs} {fuel:Nat} {sc ws W P L D gs cs:List Dat} {row o k:Int} {t T:List UInt8} {j J gl K:Option Dat} {ps:List Nat} {Ψ:nz} {wl:List (List (List Nat))} {y:Str}
def V9 (J j:Option Dat)(gs:List Dat)(x:Str)(T:List UInt8)(sc ws:List Dat)(row:Int)(P L D:List Dat)(t:List UInt8):az:=(("gaps":Str),.val (.list gs))::(("text":Str),.val (.str x))::(("turned":Str),.val (.bytes T))::T6 J j sc ws row P L D t
def BC (J j:Option Dat)(cs gs:List Dat)(x:Str)(T:List UInt8)(sc ws:List Dat)(row:Int)(P L D:List Dat)(t:List UInt8):az:=(("cells":Str),.own (.list cs))::V9 J j gs x T sc ws row P L D t
def dm:List Stmt:=bK (aY 11)
theorem LS:dm=[ak dm 0,ak dm 1]:=by rfl
theorem HW:ev (bq G pat) ag (bj (aY 11)) (BC J j cs gs x T sc ws row P L D t)=some (.range 0 60 1):=by rcases J with⟨⟩<;>rcases j with⟨⟩<;>rfl
theorem LQ (d:Dat)(V:az):bp ag (aU (aY 11)) d V=some ((("k":Str),.val d)::V):=by rfl
theorem LU:ex (bq G pat) Ψ ag (ak dm 0) V=k9 ag "glued" (ev (bq G pat) ag (bz (ak dm 0)) V) (ev (bq G pat) ag (bz (ak dm 0)) (aO V)) V:=by rfl
def Dr:Expr->Expr| .IfExp t _ _ _=>t|_=>.Name "" bS
def Pp (b:Option Bool)(x y:Option Dat):Option Dat:=b.bind fun c=>bX c x y
def iO (op:CmpOp)(x y:Option Dat):Option Bool:=x.bind fun a=>y.bind fun b=>pJ op a b
theorem HX:ev (bq G pat) ag (bz (ak dm 0)) V=Pp (dO (bq G pat) ag (Dr (bz (ak dm 0))) V (ev (bq G pat) ag (Dr (bz (ak dm 0))) V)) (some (.str "unknown")) (some (.str "")):=by rfl
theorem ET:dO (bq G pat) ag (Dr (bz (ak dm 0))) V (ev (bq G pat) ag (Dr (bz (ak dm 0))) V)=f9 (bq G pat) ag .And (bA (Dr (bz (ak dm 0)))) V:=by rfl
theorem Co:bA (Dr (bz (ak dm 0)))=[(bA (Dr (bz (ak dm 0)))).getD 0 (.Name "" bS),(bA (Dr (bz (ak dm 0)))).getD 1 (.Name "" bS)]:=by rfl
abbrev Kr (k:Int)(gl J j:Option Dat)(cs gs:List Dat)(x:Str)(T:List UInt8)(sc ws:List Dat)(row:Int)(P L D:List Dat)(t:List UInt8):az:=(("k":Str),.val (.int k))::(jv "glued" gl++BC J j cs gs x T sc ws row P L D t)
theorem LP:dO (bq G pat) ag ((bA (Dr (bz (ak dm 0)))).getD 0 (.Name "" bS)) (Kr k gl J j cs gs x T sc ws row P L D t) (ev (bq G pat) ag ((bA (Dr (bz (ak dm 0)))).getD 0 (.Name "" bS)) (Kr k gl J j cs gs x T sc ws row P L D t))=iO .Eq (dh .Mod (some (.int k)) (some (.int 3))) (some (.int 1)):=by rcases gl with⟨⟩<;>rcases J with⟨⟩<;>rcases j with⟨⟩<;>rfl
theorem LO:dO (bq G pat) ag ((bA (Dr (bz (ak dm 0)))).getD 1 (.Name "" bS)) (Kr k gl J j cs gs x T sc ws row P L D t) (ev (bq G pat) ag ((bA (Dr (bz (ak dm 0)))).getD 1 (.Name "" bS)) (Kr k gl J j cs gs x T sc ws row P L D t))=iO .Eq (dc (some (.list gs)) (dh .FloorDiv (some (.int k)) (some (.int 3)))) (some (.str "unknown")):=by rcases gl with⟨⟩<;>rcases J with⟨⟩<;>rcases j with⟨⟩<;>rfl
def gT (x:Option Dat):Option (Option Int):=x.bind Uh
def cT (a:Option Dat)(lo hi st:Option (Option Int)):Option Dat:=a.bind fun a=>lo.bind fun lo=>hi.bind fun hi=>st.bind fun st=>fh a lo hi st
theorem LR:ex (bq G pat) Ψ ag (ak dm 1) ((("glued":Str),.val (.str y))::Kr k gl J j cs gs x T sc ws row P L D t)=zx "append" "cells" (.list cs) (AD (dh .Add (cT (some (.str x)) (gT (dh .Mult (some (.int 5)) (some (.int k)))) (gT (dh .Add (dh .Mult (some (.int 5)) (some (.int k))) (some (.int 5)))) (some none)) (some (.str y)))) ((("glued":Str),.val (.str y))::Kr k gl J j cs gs x T sc ws row P L D t):=by rcases gl with⟨⟩<;>rcases J with⟨⟩<;>rcases j with⟨⟩<;>rfl
end
section
variable {pat:Addr} {G:Gs} {fuel:Nat} {sc ws W P L D gs cs:List Dat} {row o:Int} {t T:List UInt8} {j J gl K:Option Dat} {ps ns:List Nat} {Ψ:nz} {wl:List (List (List Nat))} {y:Str} {cr:List (List Nat)}
theorem vU (a b:Int):lB (.int a) (.int b)=some (a==b):=rfl
theorem ug (a b:Int):iO .Eq (some (.int a)) (some (.int b))=some (a==b):=vU a b
theorem C2 {a b:Str}(ha:PyData.strOk a=true)(hb:PyData.strOk b=true):iO .Eq (some (.str a)) (some (.str b))=some (a==b):=vT ha hb
theorem BO {a i:Dat}:dc (some a) (some i)=ez a i:=rfl
theorem er (h:ds[k]?=some d)(hl:ds.length<=1000):dc (some (.list ds)) (some (.int (k:Int)))=some d:=BO.trans (item_at h hl)
theorem BP {t:Str}{lo hi:Int}(h1:aG lo=true)(h2:aG hi=true)(hl:t.length<=aM):cT (some (.str t)) (some (some lo)) (some (some hi)) (some none)=some (.str ⟨(pick t.cps.toList (some lo) (some hi) none).toArray⟩):=by show(if(none:Option Int)=some 0\/(some lo).all aG=false\/(some hi).all aG=false\/(none:Option Int).all aG=false then none else(if t.length<=aM/\(none:Option Int)=none then some (Dat.str ⟨(pick t.cps.toList (some lo) (some hi) none).toArray⟩)else none))=_;rw[ZX (by simp[h1,h2]),Z1 ⟨hl,rfl⟩]
theorem FC:∀n<1440,jE n="unknown"\/jE n=""\/jE n="unknown unknown":=fun n hn=>by
 unfold jE;have:n/480<3:=by lia
 match n/480,this with|0,_=>exact .inl rfl|1,_=>exact .inr (.inl rfl)|2,_=>exact .inr (.inr rfl)
theorem CK (h:n<1440):PyData.strOk (jE n)=true:=by rcases FC n h with q|q|q<;>(rw[q];decide +kernel)
def mQ (ns:List Nat)(k:Nat):Str:=if k%3=1/\jE (ns.getD (k/3) 0)="unknown" then "unknown" else ""
def cz (ns:List Nat):List Dat:=ns.map fun n=>.str (jE n)
theorem G7 (hn:∀n∈ns,n<1440)(hl:ns.length=20)(hk:k<60):ev (bq G pat) ag (bz (ak dm 0)) (Kr (k:Int) gl J j cs (cz ns) x T sc ws row P L D t)=some (.str (mQ ns k)):=by
 have hq:k/3<20:=aX 0x14a1002103db23ca003 rfl hk (Nat.div_add_mod (k) (3));have hm:ns.getD (k/3) 0<1440:=by rw[Z5,ZY (by exact aR 0x1014a1014a023 rfl hl hq)];exact hn _ (List.getElem_mem _)
 have hx:=LP (G:=G) (pat:=pat) (k:=(k:Int)) (gl:=gl) (J:=J) (j:=j) (cs:=cs) (gs:=cz ns) (x:=x) (T:=T) (sc:=sc) (ws:=ws) (row:=row) (P:=P) (L:=L) (D:=D) (t:=t);have hy:=LO (G:=G) (pat:=pat) (k:=(k:Int)) (gl:=gl) (J:=J) (j:=j) (cs:=cs) (gs:=cz ns) (x:=x) (T:=T) (sc:=sc) (ws:=ws) (row:=row) (P:=P) (L:=L) (D:=D) (t:=t);rw[br,ed (by decide),show((k:Int).fmod 3)=((k%3:Nat):Int)from mS k 3,ug]at hx;have hit:dc (some (.list (cz ns))) (some (.int ((k/3:Nat):Int)))=some (.str (jE (ns.getD (k/3) 0))):=by refine er ?_ (by unfold cz;rw[Z2];exact bC 0x3e88f0114a022 rfl hl);unfold cz;rw[ZP,Z5,ZY (by exact aR 0x1014a1014a023 rfl hl hq)];rfl
 rw[br,iQ (by decide) (by decide),show((k:Int).fdiv 3)=((k/3:Nat):Int)from mT k 3,hit,C2 (CK hm) (by decide +kernel)]at hy;rw[HX,ET,Co,t9 hx hy];unfold mQ;by_cases h1:k%3=1
 ·have e1:(((k%3:Nat):Int)==1)=true:=by rw[beq_iff_eq];exact bC 0x90af99022 rfl h1
  rw[e1];by_cases h2:jE (ns.getD (k/3) 0)="unknown"
  ·rw[Z1 ⟨h1,h2⟩,beq_iff_eq.mpr h2];rfl
  ·have:(jE (ns.getD (k/3) 0)=="unknown")=false:=by rw[ZJ];exact h2
   rw[ZX (fun q=>h2 q.2),this];rfl
 ·have e1:(((k%3:Nat):Int)==1)=false:=by rw[ZJ];exact bC 0x90af9390232 rfl h1
  rw[e1,ZX (fun q=>h1 q.1)];rfl
set_option tactic.hygienic true in
theorem ID {l:List (List Nat)}{m:Nat}(h:∀c∈l,c.length=m):∀k,k<l.length->(l.flatten.drop (m*k)).take m=l.getD k []:=by
 induction l with
 |nil=>intro k hk;simp at hk
 |cons c l ih=>
  intro k hk;have hc:=h c Z6;rcases k with⟨⟩;case zero=>rw[Nat.mul_zero,List.drop_zero,List.flatten_cons,List.take_left' hc];rfl
  case succ k=>rw[List.flatten_cons,Nat.mul_succ,Nat.add_comm,<-List.drop_drop,List.drop_left' hc,ih (fun x hx=>h x (Z7 _ hx)) k (by simpa using hk)];rfl
theorem zd (h:∀c∈cr,c.length=5)(hk:k<cr.length)(hl:cr.length<=1000):cT (some (.str ⟨cr.flatten.toArray⟩)) (gT (dh .Mult (some (.int 5)) (some (.int (k:Int))))) (gT (dh .Add (dh .Mult (some (.int 5)) (some (.int (k:Int)))) (some (.int 5)))) (some none)=some (.str ⟨(cr.getD k []).toArray⟩):=by
 have hlen:=gJ h;rw[br,nc (by decide) (dA (by exact bC 0xaf000f42408f9f81 rfl) (by exact aR 0xf42408f0af8000003e88f111003 rfl hk hl)),br,kF];have e1:(5:Int)*(k:Int)=((5*k:Nat):Int):=bC 0x5daf0af05d91 rfl;have e2:((5*k:Nat):Int)+5=((5*k+5:Nat):Int):=bC 0x5a005dbaf05a005dafb91 rfl;rw[e1,e2];have hs1:aG ((5*k:Nat):Int)=true:=dA (bC 0x5daf000f42408f9f81 rfl) (aR 0xf42408f005daf8000003e88f111003 rfl hk hl);have GY:aG ((5*k+5:Nat):Int)=true:=dA (bC 0x5a005dbaf000f42408f9f81 rfl) (aR 0xf42408f05a005dbaf8000003e88f111003 rfl hk hl);have Fc:(⟨cr.flatten.toArray⟩:Str).length=cr.flatten.length:=by rw[Tx.len_list]
 have h0:=BP (t:=⟨cr.flatten.toArray⟩) hs1 GY (by rw[Fc,hlen];unfold aM;exact bC 0xf42408f005e1000003e88f012 rfl hl);refine h0.trans ?_;rw[fj];have c1:clipAt cr.flatten.length ((5*k:Nat):Int)=5*k:=by unfold clipAt;rw[ZX (by exact bC 0x8005daf731 rfl)];exact aX 0x5d2af005dafdf8cfbf2105e221003 rfl hk hlen
 have c2:clipAt cr.flatten.length ((5*k+5:Nat):Int)=5*k+5:=by unfold clipAt;rw[ZX (by exact bC 0x805a005dbaf731 rfl)];exact aX 0x5a005db2af05a005dbafdf8cfbf2105e221003 rfl hk hlen
 simp only[Option.elim];rw[c1,c2,show 5*k+5-5*k=5 by exact bC 0x5a005d05a005dbc21 rfl,ID h k hk]
def kz (cr:List (List Nat))(ns:List Nat)(k:Nat):Str:=⟨(cr.getD k []).toArray⟩++mQ ns k
theorem Ao (cr:List (List Nat))(ns:List Nat)(k:Nat):(kz cr ns k).cps.toList=cr.getD k []++(if k%3=1/\jE (ns.getD (k/3) 0)="unknown" then Tx.GR else[]):=by
 unfold kz mQ;simp only[Str.cps_append,Array.toList_append];congr 1;split
 ·rfl
 ·rfl
theorem rM {a b:Str}(h:a.length+b.length<=aM):js .Add (.str a) (.str b)=some (.str (a++b)):=by show(if a.length+b.length<=aM then some (Dat.str (a++b))else none)=_;rw[Z1 h]
theorem Fy (ns:List Nat)(k:Nat):(mQ ns k).length<=7:=by unfold mQ;split<;>decide
set_option tactic.hygienic true in
theorem Pk:bG ((("cells":Str),.own (.list CZ))::(("glued":Str),.val g)::(("k":Str),.val kd)::(jv "glued" gl++((("cells":Str),.own (.list cs))::R))) ((("k":Str),.val kd)::(("glued":Str),.val g)::(("cells":Str),.own (.list CZ))::R):=fun z=>by
 by_cases h1:z="k"
 ·subst h1;rw[ae (by decide),ae (by decide),au,au]
 ·by_cases h2:z="glued"
  ·subst h2;rw[ae (by decide),au,ae (by decide),au]
  ·by_cases h3:z="cells"
   ·subst h3;rw[au,ae (by decide),ae (by decide),au]
   ·rw[ae h3,ae h2,ae h1,ae h1,ae h2,ae h3];rcases gl with⟨⟩;case none=>exact ae h3
    case some d=>show List.lookup z ((("glued":Str),Slot.val d)::(("cells":Str),.own (.list cs))::R)=_;rw[ae h2,ae h3]
theorem Cm (hn:∀n∈ns,n<1440)(hl:ns.length=20)(h:∀c∈cr,c.length=5)(hc:cr.length=60):∃V' K gl,K.isSome=true/\gl.isSome=true/\cQ (jT (bq G pat) (iY G pat) ag (aU (aY 11)) dm) ((List.range 60).map fun k:Nat=>.int (k:Int)) (BC J j [] (cz ns) ⟨cr.flatten.toArray⟩ T sc ws row P L D t)=some (.next V')/\bG V' (jv "k" K++(jv "glued" gl++BC J j ((List.range 60).map fun k=>.str (kz cr ns k)) (cz ns) ⟨cr.flatten.toArray⟩ T sc ws row P L D t)):=by
 refine jz (fQ (Φ:=bq G pat) (Ψ:=iY G pat) (sc:=ag) (t:="k") (te:=aU (aY 11)) (body:=dm) (α:=List Dat×Option Dat) ik LQ (fun a=>jv "glued" a.2++BC J j a.1 (cz ns) ⟨cr.flatten.toArray⟩ T sc ws row P L D t) (fun done a=>a.1=((List.range done.length).map fun k=>.str (kz cr ns k))/\(done≠[]->a.2.isSome=true)) (items:=(List.range 60).map fun k:Nat=>.int (k:Int)) (fun done o rest a hi hI=>by
   obtain⟨cs,gl⟩:=a;dsimp only at hI ⊢;replace hI:=hI.1;have hlen:done.length<60:=by have:=congrArg List.length hi;simp at this;exact aR 0x3ca0091b0b3ca22 rfl this
   have ho:o=.int (done.length:Int):=by have:=congrArg (fun l=>l[done.length]?) hi;simp[hlen]at this;exact this.symm
   subst ho;have e1:=G7 (G:=G) (pat:=pat) (gl:=gl) (J:=J) (j:=j) (cs:=cs) (x:=⟨cr.flatten.toArray⟩) (T:=T) (sc:=sc) (ws:=ws) (row:=row) (P:=P) (L:=L) (D:=D) (t:=t) hn hl hlen;have e2:=LR (Ψ:=iY G pat) (G:=G) (pat:=pat) (k:=((done.length:Nat):Int)) (gl:=gl) (J:=J) (j:=j) (cs:=cs) (gs:=cz ns) (x:=⟨cr.flatten.toArray⟩) (T:=T) (sc:=sc) (ws:=ws) (row:=row) (P:=P) (L:=L) (D:=D) (t:=t) (y:=mQ ns done.length);have jm:(cr.getD done.length []).length=5:=by rw[Z5,ZY (by exact aR 0x103ca103ca023 rfl hc hlen)];exact h _ (List.getElem_mem _)
   rw[zd h (by exact aR 0x103ca103ca023 rfl hc hlen) (by exact bC 0x3e88f013ca022 rfl hc),br,rM (by rw[Tx.len_list];have:=Fy ns done.length;simp only[List.toList_toArray];rw[jm];unfold aM;exact bC 0xf42408f005ab107a012 rfl this),iG (by rw[hI,Z2,List.length_range];unfold aM;exact bC 0xf42408f90b13ca002 rfl hlen)]at e2;refine⟨(cs++[.str (kz cr ns done.length)],some (.str (mQ ns done.length))),(("cells":Str),.own (.list (cs++[.str (kz cr ns done.length)])))::(("glued":Str),.val (.str (mQ ns done.length)))::Kr ((done.length:Nat):Int) gl J j cs (cz ns) ⟨cr.flatten.toArray⟩ T sc ws row P L D t,?_,?_,?_⟩
   ·rw[LS,av (aC rfl (LU.trans (by rw[e1,cf];rfl))),av (aC rfl e2)];exact eP
   ·exact Pk
   ·refine⟨?_,fun z=>rfl⟩;dsimp only;rw[hI,ZN,List.length_singleton,List.range_succ,ZA];rfl)
  _ [] (BC J j [] (cz ns) ⟨cr.flatten.toArray⟩ T sc ws row P L D t) ([],none) none rfl (.refl _) ⟨rfl,fun q=>absurd rfl q⟩) fun V' J' a h1 hJ h2 h3=>?_
 obtain⟨cs,gl⟩:=a;dsimp only at h2 h3;refine aL h3 fun h3 h4=>?_;subst h3;exact⟨V',J',gl,hJ (.inr (by decide)),h4 (by decide),h1,by simpa using h2⟩
end
section
variable {pat:Addr} {G:Gs} {fuel:Nat} {sc ws W P L D gs cs td:List Dat} {row o:Int} {t T:List UInt8} {j J gl K:Dat} {ps ns:List Nat} {Ψ:nz} {wl:List (List (List Nat))} {y:Str} {cr:List (List Nat)} {out:Int} {sf:Option (Dat×Dat)} {s f:Dat}
def RB (K gl J j:Dat)(cs gs:List Dat)(x:Str)(T:List UInt8)(sc ws:List Dat)(row:Int)(P L D:List Dat)(t:List UInt8):az:=jv "k" (some K)++(jv "glued" (some gl)++BC (some J) (some j) cs gs x T sc ws row P L D t)
noncomputable def Sq:Option (Dat×Dat)->az|none=>[]|some (s,f)=>[(("flat":Str),.val f),(("said":Str),.val s)]
def cP:List Stmt:=bK (aY 13)
theorem LM:cP=[ak cP 0,ak cP 1,.If (aQ (ak cP 2)) (cu (ak cP 2)) [] (iI (ak cP 2)),ak cP 3]:=by rfl
theorem ES (d:Dat)(V:az):bp ag (aU (aY 13)) d V=some ((("out":Str),.val d)::V):=by rfl
theorem HU:ev (bq G pat) ag (bj (aY 13)) V=some (.tuple [.int 2,.int 0]):=by rfl
theorem LN:ex (bq G pat) Ψ ag (ak cP 0) V=k9 ag "said" (ev (bq G pat) ag (bz (ak cP 0)) V) (ev (bq G pat) ag (bz (ak cP 0)) (aO V)) V:=by rfl
theorem HV:ex (bq G pat) Ψ ag (ak cP 1) V=k9 ag "flat" (ev (bq G pat) ag (bz (ak cP 1)) V) (ev (bq G pat) ag (bz (ak cP 1)) (aO V)) V:=by rfl
def wx (out:Int)(sf:Option (Dat×Dat))(td:List Dat)(K gl J j:Dat)(cs gs:List Dat)(x:Str)(T:List UInt8)(sc ws:List Dat)(row:Int)(P L D:List Dat)(t:List UInt8):az:=(("out":Str),.val (.int out))::(Sq sf++((("told":Str),.own (.list td))::RB K gl J j cs gs x T sc ws row P L D t))
theorem LJ:ev (bq G pat) ag (bz (ak cP 0)) (wx out sf td K gl J j cs gs x T sc ws row P L D t)=gL (some (.range 0 60 1)) fun d=>kX (Pp (iO .Eq (dh .Mod (some d) (some (.int 3))) (some (.int out))) (dc (some (.list gs)) (dh .FloorDiv (some d) (some (.int 3)))) (dc (some (.list cs)) (some d))):=by rcases sf with _|⟨s,f⟩<;>rfl
def D4 (g:List Dat->Option Dat)(ds:List Dat):Option Dat:=((if ds.length<=aM then some ds else none).bind fun xs=>some (xs++[])).bind g
theorem HT:ev (bq G pat) ag (bz (ak cP 1)) ((("said":Str),.val (.list ds))::wx out sf td K gl J j cs gs x T sc ws row P L D t)=kB G.gv (D4 G.gl ds):=by rcases sf with _|⟨s,f⟩<;>rfl
theorem LK:dO (bq G pat) ag (aQ (ak cP 2)) ((("flat":Str),.val f)::(("said":Str),.val s)::wx out sf td K gl J j cs gs x T sc ws row P L D t) (ev (bq G pat) ag (aQ (ak cP 2)) ((("flat":Str),.val f)::(("said":Str),.val s)::wx out sf td K gl J j cs gs x T sc ws row P L D t))=iO .NotEq (zF [f]) (some (.int 80)):=by rcases sf with _|⟨s',f'⟩<;>rfl
theorem LL:ex (bq G pat) Ψ ag (ak cP 3) ((("flat":Str),.val f)::(("said":Str),.val s)::wx out sf td K gl J j cs gs x T sc ws row P L D t)=zx "append" "told" (.list td) (AD (gL (some (.range 0 80 4)) fun d=>kX (cT (some f) (gT (some d)) (gT (dh .Add (some d) (some (.int 4)))) (some none)))) ((("flat":Str),.val f)::(("said":Str),.val s)::wx out sf td K gl J j cs gs x T sc ws row P L D t):=by rcases sf with _|⟨s',f'⟩<;>rfl
end
section
variable {pat:Addr} {G:Gs} {fuel:Nat} {sc ws W P L D gs cs td:List Dat} {row o:Int} {t T:List UInt8} {j J gl K:Dat} {ps ns aA:List Nat} {Ψ:nz} {wl:List (List (List Nat))} {y:Str} {cr:List (List Nat)} {out:Nat} {sf:Option (Dat×Dat)} {s f:Dat}
def qD (ps aA:List Nat)(i c:Nat):Nat:=ps.getD ((cX.getD (aA.getD i 0) []).getD c 0) 0
structure nh (ps ns aA:List Nat):Prop where
 p6:ps.length=6
 Np:∀p∈ps,p<15
 OJ:ns.length=20
 Sa:∀n∈ns,n<1440
 FY:aA.length=20
 Ke:∀d∈aA,d<20
end
section
variable {pat:Addr} {G:Gs} {fuel:Nat} {sc ws W P L D gs cs td:List Dat} {row o:Int} {t T:List UInt8} {j J gl K:Dat} {ps ns aA:List Nat} {Ψ:nz} {wl:List (List (List Nat))} {y:Str} {cr:List (List Nat)} {out:Nat} {sf:Option (Dat×Dat)} {s f:Dat} (F:nh ps ns aA)
include F
theorem nh.jr (h:i<20):aA[i]?=some (aA.getD i 0)/\aA.getD i 0<20:=by
 have h1:aA[i]?=some (aA.getD i 0):=by rw[Z5,ZY (by rw[F.FY];exact h)];rfl
 exact⟨h1,F.Ke _ (ZD h1)⟩
theorem nh.EE (h:i<20):ns[i]?=some (ns.getD i 0)/\ns.getD i 0<1440:=by
 have h1:ns[i]?=some (ns.getD i 0):=by rw[Z5,ZY (by rw[F.OJ];exact h)];rfl
 exact⟨h1,F.Sa _ (ZD h1)⟩
theorem nh.DQ (h:i<20)(hc:c<3):(cX.getD (aA.getD i 0) []).getD c 0<6/\(cX.getD (aA.getD i 0) [])[c]?=some ((cX.getD (aA.getD i 0) []).getD c 0):=by
 refine bg (qf (F.jr h).2) fun x h2 h3=>?_;have h1:(cX.getD (aA.getD i 0) [])[c]?=some ((cX.getD (aA.getD i 0) []).getD c 0):=by rw[Z5 (l:=cX.getD (aA.getD i 0) []),ZY (by exact aR 0x10003a1203a003 rfl hc h2)];rfl
 exact⟨h3 _ (ZD h1),h1⟩
theorem nh.HE (h:i<20)(hc:c<3):qD ps aA i c<15:=(tJ F.p6 F.Np (F.DQ h hc).1).2
theorem nh.NM (h:i<20):(fT ps aA ns)[i]?=some (tn ps (aA.getD i 0) (ns.getD i 0)):=by unfold fT;have hz:(aA.zip ns)[i]?=some (aA.getD i 0,ns.getD i 0):=List.getElem?_zip_eq_some.mpr ⟨(F.jr h).1,(F.EE h).1⟩;rw[ZP,hz];rfl
theorem nh.uF:(fT ps aA ns).length=20:=by unfold fT;rw[Z2,List.length_zip,F.FY,F.OJ];rfl
theorem nh.good:Good (fT ps aA ns):=z3 F.p6 F.Np F.Ke
omit F in
set_option tactic.hygienic true in
theorem DS {l:List (List (List Nat))}(h:∀w∈l,w.length=3):∀(i j:Nat),i<l.length->j<3->(l.flatMap List.reverse).getD (3*i+j) []=(l.getD i []).getD (2-j) []:=by
 induction l with
 |nil=>intro i j hi;simp at hi
 |cons w l ih=>
  intro i j hi hj;have hw:=h w Z6;rw[List.flatMap_cons];rcases i with⟨⟩;case zero=>rw[Nat.mul_zero,Nat.zero_add,Z5,List.getElem?_append_left (by simp;exact aR 0x10003a1203a003 rfl hj hw),List.getElem?_reverse (by exact aR 0x10003a1203a003 rfl hj hw),hw];show _=w.getD (2-j) [];rw[Z5]
  case succ i=>rw[Z5,List.getElem?_append_right (by simp;exact aX 0x291b03db0103a022 rfl hw),List.length_reverse,hw,<-Z5,show 3*(i+1)+j-3=3*i+j by exact aR 0x1003db03a190b03dbc21 rfl,ih (fun x hx=>h x (Z7 _ hx)) i j (by simpa using hi) hj];rfl
theorem nh.Ja {j:Nat}(hi:i<20)(hj:j<3):(aP ps aA ns).getD (3*i+j) []=dT (qD ps aA i (2-j)) (ns.getD i 0/20):=by unfold aP;rw[DS (fun w hw=>(F.good w hw).1) i j (by rw[F.uF];exact hi) hj,Z5 (l:=fT ps aA ns),F.NM hi];show(tn ps (aA.getD i 0) (ns.getD i 0)).getD (2-j) []=_;unfold tn qD;rw[Z5,ZP,(F.DQ hi (by exact bC 0x3a002ac01 rfl)).2];rfl
def dJ (out:Nat)(cr:List (List Nat))(ns:List Nat)(k:Nat):Str:=if k%3=out then jE (ns.getD (k/3) 0)else kz cr ns k
theorem nh.rG:∀c∈aP ps aA ns,c.length=5/\∀x∈c,x<128:=(tj F.good).2
theorem nh.F4:(aP ps aA ns).length=60:=by have:=(tj F.good).1;rw[F.uF]at this;exact this
theorem nh.jW {j:Nat}(hi:i<20)(hj:j<3)(out:Nat):Tx.toks jA (Tx.kept (dJ out (aP ps aA ns) ns (3*i+j)))=(if j=out then[]else bE (qD ps aA i (2-j)))/\Tx.eK (Tx.kept (dJ out (aP ps aA ns) ns (3*i+j)))=true/\(dJ out (aP ps aA ns) ns (3*i+j)).length<=60/\∀c∈(dJ out (aP ps aA ns) ns (3*i+j)).cps.toList,c<128:=by
 revert F hi hj out;refine Q3 inferInstance ?_ i ns j ps aA;generalize jF _ _=tt;dsimp only[K5];generalize tt.1.1.1=i,tt.1.1.2=ns,tt.1.2=j,tt.2.1=ps,tt.2.2=aA;intro F hi hj out;have e1:(3*i+j)%3=j:=by lia
 have e2:(3*i+j)/3=i:=by exact cZ 0x3221303db0203db21023 rfl e1 (Nat.div_add_mod (3*i+j) (3))
 unfold dJ;rw[e1,e2];by_cases h:j=out
 ·rw[Z1 h,Z1 h];refine Z4 (FC _ (F.EE hi).2) (fun q=>?_) fun y2=>?_
  ·rw[q];exact⟨ia (by decide +kernel),by decide +kernel,by decide +kernel,by decide +kernel⟩
  refine Z4 y2 (fun q=>?_) fun q=>?_
  ·rw[q];exact⟨ia (by decide +kernel),by decide +kernel,by decide +kernel,by decide +kernel⟩
  ·rw[q];exact⟨ia (by decide +kernel),by decide +kernel,by decide +kernel,by decide +kernel⟩
 ·rw[ZX h,ZX h];have hp:=F.HE hi (c:=2-j) (by exact bC 0x3a002ac01 rfl);have hl:=Ao (aP ps aA ns) ns (3*i+j);rw[F.Ja hi hj,e1,e2]at hl;obtain⟨g,hg,hl⟩:∃g,(g=[]\/g=Tx.GR)/\(kz (aP ps aA ns) ns (3*i+j)).cps.toList=dT (qD ps aA i (2-j)) (ns.getD i 0/20)++g:=by
   by_cases h2:j=1/\jE (ns.getD i 0)="unknown"
   ·rw[Z1 h2]at hl;exact⟨_,.inr rfl,hl⟩
   ·rw[ZX h2]at hl;exact⟨_,.inl rfl,hl⟩
  have e3:kz (aP ps aA ns) ns (3*i+j)=⟨(dT (qD ps aA i (2-j)) (ns.getD i 0/20)++g).toArray⟩:=Tx.jf (by rw[hl]);refine aL (KS (way:=ns.getD i 0/20) hp hg) fun t1 t2=>?_;refine aL (kT (way:=ns.getD i 0/20) hp) fun c1 c2=>?_;rw[e3];refine⟨t1,t2,?_,?_⟩
  ·rw[Tx.len_list];refine Z4 hg (fun y0=>?_) fun y1=>?_
   ·obtain rfl:=y0;rw[Zz,List.toList_toArray,c1];decide
   ·obtain rfl:=y1;rw[List.toList_toArray,ZN,c1];decide
  ·intro c hc;have n7:c∈dT (qD ps aA i (2-j)) (ns.getD i 0/20)++g:=by simpa using hc
   refine Z4 (List.mem_append.mp n7) (fun q=>?_) fun q=>?_
   ·exact c2 c q
   ·refine Z4 hg (fun y0=>?_) fun y1=>?_
    ·obtain rfl:=y0;rcases q with⟨⟩
    ·obtain rfl:=y1;exact(by decide:∀c∈Tx.GR,c<128) c q
omit F in
theorem K3 {α:Type}(f:Nat->List α):∀m:Nat,(List.range (3*m)).flatMap f=(List.range m).flatMap fun i=>f (3*i)++(f (3*i+1)++f (3*i+2)):=by intro m;induction m with|zero=>exact rfl|succ m ih=>rw[show 3*(m+1)=3*m+1+1+1 by exact bC 0x999003dbbb90b03d21 rfl,List.range_succ,List.range_succ,List.range_succ,List.flatMap_append,List.flatMap_append,List.flatMap_append,ih,List.range_succ,List.flatMap_append];simp
def chunk (ps aA:List Nat)(out i:Nat):List Dat:=if out=2 then bE (qD ps aA i 2)++bE (qD ps aA i 1)else bE (qD ps aA i 1)++bE (qD ps aA i 0)
theorem nh.IC {out:Nat}(ho:out=2\/out=0):((List.range 60).map (dJ out (aP ps aA ns) ns)).flatMap (fun y=>Tx.toks jA (Tx.kept y))=(List.range 20).flatMap (chunk ps aA out):=by
 rw[List.flatMap_map,show 60=3*20 from rfl,K3];have key:∀l:List Nat,(∀i∈l,i<20)->l.flatMap (fun i=>Tx.toks jA (Tx.kept (dJ out (aP ps aA ns) ns (3*i)))++(Tx.toks jA (Tx.kept (dJ out (aP ps aA ns) ns (3*i+1)))++Tx.toks jA (Tx.kept (dJ out (aP ps aA ns) ns (3*i+2)))))=l.flatMap (chunk ps aA out):=by
  intro l;induction l with
  |nil=>intro _;rfl
  |cons i l ih=>
   intro hl;have hi:=hl i Z6;rw[List.flatMap_cons,List.flatMap_cons,ih fun x hx=>hl x (Z7 _ hx)];congr 1;have h0:=(F.jW hi (j:=0) (by decide) out).1;have h1:=(F.jW hi (j:=1) (by decide) out).1;have h2:=(F.jW hi (j:=2) (by decide) out).1;rw[Nat.add_zero]at h0;rw[h0,h1,h2];refine Z4 ho (fun y0=>?_) fun y1=>?_
   ·obtain rfl:=y0;rfl
   ·obtain rfl:=y1;rfl
 exact key _ fun i hi=>Zv hi
end
section
variable {pat:Addr} {G:Gs} {fuel:Nat} {sc ws W P L D gs cs td:List Dat} {row o:Int} {t T:List UInt8} {j J gl K:Dat} {ps ns aA:List Nat} {Ψ:nz} {wl:List (List (List Nat))} {y:Str} {cr:List (List Nat)} {out:Nat} {sf:Option (Dat×Dat)} {s f:Dat}
def en (cr:List (List Nat))(ns:List Nat):List Dat:=(List.range 60).map fun k=>.str (kz cr ns k)
theorem rQ {f:Nat->Dat}{n k:Nat}(h:k<n):((List.range n).map f)[k]?=some (f k):=by rw[ZP,List.getElem?_range h];rfl
theorem DL (F:nh ps ns aA):ev (bq G pat) ag (bz (ak cP 0)) (wx (out:Int) sf td K gl J j (en cr ns) (cz ns) x T sc ws row P L D t)=some (.list (((List.range 60).map (dJ out cr ns)).map .str)):=by
 have hit:bb (.range 0 60 1)=some ((List.range 60).map fun k:Nat=>.int (k:Int)):=dp (n:=60) (by decide);rw[LJ,el (items:=(List.range 60).map fun k:Nat=>.int (k:Int)) (g:=HG fun i=>.str (dJ out cr ns i.toNat)) hit (fun d hd=>?_) (by decide)]
 ·rw[ZH,ZH];rfl
 ·refine ax (Zx hd) ?_;rintro k hk (rfl);have Im:=Zv hk;have hq:k/3<20:=aX 0x14a1002103db23ca003 rfl Im (Nat.div_add_mod (k) (3));have e1:dc (some (.list (cz ns))) (some (.int ((k/3:Nat):Int)))=some (.str (jE (ns.getD (k/3) 0))):=by refine er ?_ (by unfold cz;rw[Z2,F.OJ];decide);unfold cz;rw[ZP,(F.EE hq).1];rfl
  have e2:dc (some (.list (en cr ns))) (some (.int (k:Int)))=some (.str (kz cr ns k)):=er (rQ Im) (by unfold en;rw[Z2,List.length_range];decide);rw[br,ed (by decide),show((k:Int).fmod 3)=((k%3:Nat):Int)from mS k 3,ug,br,iQ (by decide) (by decide),show((k:Int).fdiv 3)=((k/3:Nat):Int)from mT k 3,e1,e2];show _=some [Dat.str (dJ out cr ns (k:Int).toNat)];rw[ZE];unfold dJ;by_cases h:k%3=out
  ·have:(((k%3:Nat):Int)==(out:Int))=true:=by rw[beq_iff_eq];exact aR 0x1af0af91022 rfl h
   rw[this,Z1 h];rfl
  ·have:(((k%3:Nat):Int)==(out:Int))=false:=by rw[ZJ];exact aR 0x1af0af9310232 rfl h
   rw[this,ZX h];rfl
theorem DM (F:nh ps ns aA)(yc:G.gl=Ep)(zW:G.gv=F2 jA)(ho:out=2\/out=0):ev (bq G pat) ag (bz (ak cP 1)) ((("said":Str),.val (.list (((List.range 60).map (dJ out (aP ps aA ns) ns)).map .str)))::wx (out:Int) sf td K gl J j cs gs x T sc ws row P L D t)=some (.list ((List.range 20).flatMap (chunk ps aA out))):=by
 have nZ:∀y∈(List.range 60).map (dJ out (aP ps aA ns) ns),∃i j,i<20/\j<3/\y=dJ out (aP ps aA ns) ns (3*i+j):=fun y hy=>by refine ax (Zx hy) ?_;rintro k hk (rfl);have Im:=Zv hk;exact⟨k/3,k%3,by exact aX 0x14a1002103db23ca003 rfl Im (Nat.div_add_mod (k) (3)),by exact bC 0x3a0003a002 rfl (Nat.mod_lt (k) (Nat.le_of_ble_eq_true rfl:3>0)),by congr 1;exact aX 0x1003db2221003db22 rfl (Nat.div_add_mod (k) (3))⟩
 have hs:Tx.Small ((List.range 60).map (dJ out (aP ps aA ns) ns)):=⟨by simp,fun y hy=>by refine eB (nZ y hy) ?_;rintro i j hi hj (rfl);exact(F.jW hi hj out).2.2⟩;refine ax (Tx.AK (stg:=jA) hs fun y hy=>by refine eB (nZ y hy) ?_;rintro i j hi hj (rfl);exact(F.jW hi hj out).2.1) fun v h1 h2=>?_;rw[F.IC ho]at h2;rw[HT];have xY:D4 G.gl (((List.range 60).map (dJ out (aP ps aA ns) ns)).map .str)=some (.str v):=by unfold D4;rw[Z1 (by rw[Z2,Z2,List.length_range];decide)];rw[ZV,ZV,Zz,yc];unfold Ep;rw[ql,ZV,h1];rfl
 rw[xY,fS,zW,h2]
theorem chunk_len (ps aA:List Nat)(out i:Nat):(chunk ps aA out i).length=4:=by unfold chunk bE;split<;>rfl
set_option tactic.hygienic true in
theorem FE {α:Type}{l:List (List α)}{m:Nat}(h:∀c∈l,c.length=m):∀(k:Nat)(c:List α),l[k]?=some c->(l.flatten.drop (m*k)).take m=c:=by
 induction l with
 |nil=>intro k c hk;simp at hk
 |cons b l ih=>
  intro k c hk;have hb:=h b Z6;rcases k with⟨⟩;case zero=>rw[List.getElem?_cons_zero]at hk;obtain rfl:=Z9 hk;rw[Nat.mul_zero,List.drop_zero,List.flatten_cons,List.take_left' hb]
  case succ k=>rw[List.getElem?_cons_succ]at hk;rw[List.flatten_cons,Nat.mul_succ,Nat.add_comm,<-List.drop_drop,List.drop_left' hb,ih (fun x hx=>h x (Z7 _ hx)) k c hk]
theorem slice_list {ds:List Dat}{lo hi:Int}(h1:aG lo=true)(h2:aG hi=true)(hl:ds.length<=aM):cT (some (.list ds)) (some (some lo)) (some (some hi)) (some none)=some (.list (pick ds (some lo) (some hi) none)):=by show(if(none:Option Int)=some 0\/(some lo).all aG=false\/(some hi).all aG=false\/(none:Option Int).all aG=false then none else(if ds.length<=aM then some (Dat.list (pick ds (some lo) (some hi) none))else none))=_;rw[ZX (by simp[h1,h2]),Z1 hl]
theorem D8 {l:List (List Dat)}{m:Nat}{c:List Dat}(h:∀c∈l,c.length=m)(hk:l[k]?=some c)(hl:l.length<=100)(hm:m<=10):cT (some (.list l.flatten)) (some (some ((m*k:Nat):Int))) (some (some ((m*k+m:Nat):Int))) (some none)=some (.list c):=by
 have hlen:=gJ h;have zV:k<l.length:=(List.getElem?_eq_some_iff.mp hk).1;have b1:m*k<=m*l.length:=Nat.mul_le_mul_left _ (aR 0x1011002 rfl zV);have b2:m*k+m<=l.length*m:=by rw[<-Nat.mul_succ,Nat.mul_comm];exact Nat.mul_le_mul_right _ zV
 have b3:l.length*m<=100*10:=Nat.mul_le_mul hl hm;rw[slice_list (dA (by exact bC 0xaf000f42408f9f81 rfl) (by exact aX 0xf42408f0af80aa64d21210b13 rfl b2 b3)) (dA (by exact aR 0x10baf000f42408f9f81 rfl) (by exact aX 0xf42408f10baf80aa64d21210b13 rfl b2 b3)) (by rw[hlen];unfold aM;exact bC 0xf42408f010aa64d012 rfl b3),fj];have c1:clipAt l.flatten.length ((m*k:Nat):Int)=m*k:=by unfold clipAt;rw[ZX (by exact bC 0x80af731 rfl)];exact cZ 0x20af2afdf8cfbf2132b11023 rfl hlen b2
 have c2:clipAt l.flatten.length ((m*k+m:Nat):Int)=m*k+m:=by unfold clipAt;rw[ZX (by exact aR 0x810baf731 rfl)];exact cZ 0x32b0af32bafdf8cfbf2132b11023 rfl hlen b2
 simp only[Option.elim];rw[c1,c2,show m*k+m-m*k=m by exact aR 0x1010bc21 rfl,FE h k c hk]
theorem mL (i:Int):gT (some (.int i))=some (some i):=rfl
def bF (ps aA:List Nat)(out:Nat):List Dat:=(List.range 20).map fun i=>.list (chunk ps aA out i)
theorem DK:(gL (some (.range 0 80 4)) fun d=>kX (cT (some (.list ((List.range 20).flatMap (chunk ps aA out)))) (gT (some d)) (gT (dh .Add (some d) (some (.int 4)))) (some none)))=some (.list (bF ps aA out)):=by
 have hit:bb (.range 0 80 4)=some ((List.range 20).map fun k:Nat=>Dat.int ((k*4:Nat):Int)):=by have:=jl (n:=80) (w:=4) (by decide) (by decide) (by decide) (by decide);exact this
 rw[el (items:=(List.range 20).map fun k:Nat=>Dat.int ((k*4:Nat):Int)) (g:=HG fun i=>.list (chunk ps aA out (i.toNat/4))) hit (fun d hd=>?_) (by decide)]
 ·unfold bF;rw[ZH];refine congrArg (fun l=>some (Dat.list l)) (ZF fun k x=>?_);show Dat.list (chunk ps aA out (((k*4:Nat):Int).toNat/4))=_;rw[ZE,Nat.mul_div_cancel _ (by decide)]
 ·refine ax (Zx hd) ?_;rintro k hk (rfl);have Io:=Zv hk;have h1:=D8 (l:=(List.range 20).map (chunk ps aA out)) (m:=4) (k:=k) (c:=chunk ps aA out k) (fun c hc=>by refine ax (Zx hc) ?_;rintro i _ (rfl);exact chunk_len ..) (by rw[ZP,List.getElem?_range Io];rfl) (by simp) (by decide);rw[<-List.flatMap_def]at h1;rw[br,kF];have e1:((k*4:Nat):Int)=((4*k:Nat):Int):=by rw[Nat.mul_comm]
  have e2:((4*k:Nat):Int)+4=((4*k+4:Nat):Int):=bC 0x4a004dbaf04a004dafb91 rfl;rw[e1,e2,mL,mL,h1];refine congrArg (fun c=>some [Dat.list c]) ?_;show _=chunk ps aA out (((4*k:Nat):Int).toNat/4);rw[ZE,Nat.mul_div_cancel_left _ (by decide)]
theorem IE:((List.range 20).flatMap (chunk ps aA out)).length=80:=by rw[List.flatMap_def,gJ (k:=4) (fun c hc=>by refine ax (Zx hc) ?_;rintro i _ (rfl);exact chunk_len ..)];simp
theorem Pj {o s f:Dat}:bG ((("told":Str),.own (.list Uu))::(("flat":Str),.val f)::(("said":Str),.val s)::(("out":Str),.val o)::(Sq sf++((("told":Str),.own (.list td))::R))) ((("out":Str),.val o)::(Sq (some (s,f))++((("told":Str),.own (.list Uu))::R))):=fun z=>by
 show _=List.lookup z ((("out":Str),Slot.val o)::(("flat":Str),.val f)::(("said":Str),.val s)::(("told":Str),.own (.list Uu))::R);by_cases h1:z="out"
 ·subst h1;rw[ae (by decide),ae (by decide),ae (by decide),au,au]
 ·by_cases h2:z="flat"
  ·subst h2;rw[ae (by decide),au,ae (by decide),au]
  ·by_cases h3:z="said"
   ·subst h3;rw[ae (by decide),ae (by decide),au,ae (by decide),ae (by decide),au]
   ·by_cases h4:z="told"
    ·subst h4;rw[au,ae (by decide),ae (by decide),ae (by decide),au]
    ·rw[ae h4,ae h2,ae h3,ae h1,ae h1,ae h2,ae h3,ae h4];rcases sf with _|y0
     ·exact ae h4
     ·obtain⟨s',f'⟩:=y0;show List.lookup z ((("flat":Str),Slot.val f')::(("said":Str),.val s')::(("told":Str),.own (.list td))::R)=_;rw[ae h2,ae h3,ae h4]
theorem tS (F:nh ps ns aA)(yc:G.gl=Ep)(zW:G.gv=F2 jA)(ho:out=2\/out=0)(Wt:td.length<=100):∃W s f,bT (bq G pat) (iY G pat) ag cP (wx (out:Int) sf td K gl J j (en (aP ps aA ns) ns) (cz ns) x T sc ws row P L D t)=some (.next W)/\bG W (wx (out:Int) (some (s,f)) (td++[.list (bF ps aA out)]) K gl J j (en (aP ps aA ns) ns) (cz ns) x T sc ws row P L D t):=by
 have e0:=DL (G:=G) (pat:=pat) (out:=out) (sf:=sf) (td:=td) (K:=K) (gl:=gl) (J:=J) (j:=j) (cr:=aP ps aA ns) (x:=x) (T:=T) (sc:=sc) (ws:=ws) (row:=row) (P:=P) (L:=L) (D:=D) (t:=t) F;have e1:=DM (G:=G) (pat:=pat) (out:=out) (sf:=sf) (td:=td) (K:=K) (gl:=gl) (J:=J) (j:=j) (cs:=en (aP ps aA ns) ns) (gs:=cz ns) (x:=x) (T:=T) (sc:=sc) (ws:=ws) (row:=row) (P:=P) (L:=L) (D:=D) (t:=t) F yc zW ho;have e2:=LK (G:=G) (pat:=pat) (out:=(out:Int)) (sf:=sf) (td:=td) (K:=K) (gl:=gl) (J:=J) (j:=j) (cs:=en (aP ps aA ns) ns) (gs:=cz ns) (x:=x) (T:=T) (sc:=sc) (ws:=ws) (row:=row) (P:=P) (L:=L) (D:=D) (t:=t) (s:=.list (((List.range 60).map (dJ out (aP ps aA ns) ns)).map .str)) (f:=.list ((List.range 20).flatMap (chunk ps aA out)));have hlen:zF [.list ((List.range 20).flatMap (chunk ps aA out))]=some (.int 80):=by show(if((List.range 20).flatMap (chunk ps aA out)).length<=aM then some (Dat.int (((List.range 20).flatMap (chunk ps aA out)).length:Int))else none)=_;rw[IE];rfl
 rw[hlen]at e2;have T7:iO .NotEq (some (.int 80)) (some (.int 80))=some false:=by show(lB (.int 80) (.int 80)).map (!·)=_;rw[vU];rfl
 rw[T7]at e2;have e3:=LL (Ψ:=iY G pat) (G:=G) (pat:=pat) (out:=(out:Int)) (sf:=sf) (td:=td) (K:=K) (gl:=gl) (J:=J) (j:=j) (cs:=en (aP ps aA ns) ns) (gs:=cz ns) (x:=x) (T:=T) (sc:=sc) (ws:=ws) (row:=row) (P:=P) (L:=L) (D:=D) (t:=t) (s:=.list (((List.range 60).map (dJ out (aP ps aA ns) ns)).map .str)) (f:=.list ((List.range 20).flatMap (chunk ps aA out)));rw[DK,iG (by unfold aM;exact bC 0xf42408f90b164a012 rfl Wt)]at e3;have Rn:∀q,ex (bq G pat) (iY G pat) ag (.If (aQ (ak cP 2)) (cu (ak cP 2)) [] q) ((("flat":Str),.val (.list ((List.range 20).flatMap (chunk ps aA out))))::(("said":Str),.val (.list (((List.range 60).map (dJ out (aP ps aA ns) ns)).map .str)))::wx (out:Int) sf td K gl J j (en (aP ps aA ns) ns) (cz ns) x T sc ws row P L D t)=some (.next ((("flat":Str),.val (.list ((List.range 20).flatMap (chunk ps aA out))))::(("said":Str),.val (.list (((List.range 60).map (dJ out (aP ps aA ns) ns)).map .str)))::wx (out:Int) sf td K gl J j (en (aP ps aA ns) ns) (cz ns) x T sc ws row P L D t)):=fun q=>(o7 (c:=false) (hU e2)).trans eP;refine⟨_,.list (((List.range 60).map (dJ out (aP ps aA ns) ns)).map .str),.list ((List.range 20).flatMap (chunk ps aA out)),?_,Pj (sf:=sf) (td:=td)⟩
 ·rw[LM,av (aC rfl (LN.trans (by rw[e0,cf];rfl))),av (aC rfl (HV.trans (by rw[e1,cf];rfl))),av (aC rfl (Rn _)),av (aC rfl e3)];exact eP
theorem Ck (F:nh ps ns aA)(yc:G.gl=Ep)(zW:G.gv=F2 jA):∃V' s f,cQ (jT (bq G pat) (iY G pat) ag (aU (aY 13)) cP) [.int 2,.int 0] ((("told":Str),.own (.list []))::RB K gl J j (en (aP ps aA ns) ns) (cz ns) x T sc ws row P L D t)=some (.next V')/\bG V' (wx 0 (some (s,f)) [.list (bF ps aA 2),.list (bF ps aA 0)] K gl J j (en (aP ps aA ns) ns) (cz ns) x T sc ws row P L D t):=by
 refine jJ (tS (G:=G) (pat:=pat) (out:=2) (sf:=none) (td:=[]) (K:=K) (gl:=gl) (J:=J) (j:=j) (x:=x) (T:=T) (sc:=sc) (ws:=ws) (row:=row) (P:=P) (L:=L) (D:=D) (t:=t) F yc zW (.inl rfl) (Nat.zero_le _)) fun W1 s1 f1 h1 l1=>?_;refine jJ (tS (G:=G) (pat:=pat) (out:=0) (sf:=some (s1,f1)) (td:=[.list (bF ps aA 2)]) (K:=K) (gl:=gl) (J:=J) (j:=j) (x:=x) (T:=T) (sc:=sc) (ws:=ws) (row:=row) (P:=P) (L:=L) (D:=D) (t:=t) F yc zW (.inr rfl) (show 1<=100 by decide)) fun W2 s2 f2 h2 l2=>?_;have l3:bG ((("out":Str),.val (.int 0))::W1) (wx ((0:Nat):Int) (some (s1,f1)) [.list (bF ps aA 2)] K gl J j (en (aP ps aA ns) ns) (cz ns) x T sc ws row P L D t):=(l1.cons _ _).trans bG.shadow;refine ax (kq ik l3 h2) fun W3 h3 l4=>?_;refine⟨W3,s2,f2,?_,l4.trans l2⟩;rw[fu (vars':=W1),fu (vars':=W3)]
 ·rfl
 ·show(match bp ag (aU (aY 13)) (.int 0) W1 with
      |none=>none|some vs=>bT (bq G pat) (iY G pat) ag cP vs)=_
  rw[ES];exact h3
 ·show(match bp ag (aU (aY 13)) (.int 2) ((("told":Str),Slot.own (.list []))::RB K gl J j (en (aP ps aA ns) ns) (cz ns) x T sc ws row P L D t)with
      |none=>none|some vs=>bT (bq G pat) (iY G pat) ag cP vs)=_
  rw[ES];exact h1
end
section
variable {pat:Addr} {G:Gs} {fuel:Nat} {sc ws W P L D gs cs td gr ls prs ord fw grn:List Dat} {row o:Int} {t T:List UInt8} {j J gl K:Dat} {ps ns aA:List Nat} {Ψ:nz} {wl:List (List (List Nat))} {y:Str} {cr:List (List Nat)} {out:Nat} {sf:Option (Dat×Dat)} {s f:Dat}
structure Dm where
 s:Dat
 f:Dat
 td:List Dat
 K:Dat
 gl:Dat
 J:Dat
 j:Dat
 cs:List Dat
 gs:List Dat
 x:Str
 T:List UInt8
 sc:List Dat
 ws:List Dat
 row:Int
 P:List Dat
 L:List Dat
 D:List Dat
 t:List UInt8
def Ul (N:Dm):az:=[(("out":Str),.val (.int 0)),(("flat":Str),.val N.f),(("said":Str),.val N.s),(("told":Str),.val (.list N.td)),(("k":Str),.val N.K),(("glued":Str),.val N.gl),(("cells":Str),.val (.list N.cs)),(("gaps":Str),.val (.list N.gs)),(("text":Str),.val (.str N.x)),(("turned":Str),.val (.bytes N.T)),(("one":Str),.val N.J),(("k":Str),.val N.j),(("tape":Str),.val (.bytes N.t)),(("due":Str),.val (.list N.D)),(("left":Str),.val (.list N.L)),(("words":Str),.val (.list jM)),(("parts":Str),.val (.list N.P)),(("row":Str),.val (.int N.row)),(("drawn":Str),.val (.list N.ws)),(("script":Str),.val (.list N.sc))]
end
section
variable {pat:Addr} {G:Gs} {fuel:Nat} {sc ws W P L D gs cs td gr ls prs ord fw grn:List Dat} {row o:Int} {t T:List UInt8} {j J gl K:Dat} {ps ns aA:List Nat} {Ψ:nz} {wl:List (List (List Nat))} {y:Str} {cr:List (List Nat)} {out:Nat} {sf:Option (Dat×Dat)} {s f:Dat} {N:Dm}
theorem AP:aO (wx 0 (some (s,f)) td K gl J j cs gs x T sc ws row P L D t)=Ul ⟨s,f,td,K,gl,J,j,cs,gs,x,T,sc,ws,row,P,L,D,t⟩:=by rfl
theorem Qz:ev (bq G pat) ag (jC 14) (wx 0 (some (s,f)) td K gl J j cs gs x T sc ws row P L D t)=none:=by rfl
theorem MN:ev (bq G pat) ag (jC 14) (Ul N)=some (.list N.td):=by rfl
def GK (N:Dm)(gr ls:List Dat):az:=(("lesser":Str),.val (.list ls))::(("greater":Str),.val (.list gr))::Ul N
theorem Jh:bp ag (we (aY 14)) (.list [.list gr,.list ls]) V=some ((("lesser":Str),.val (.list ls))::(("greater":Str),.val (.list gr))::V):=by rfl
theorem KZ:ex (bq G pat) Ψ ag (aY 14) (wx 0 (some (s,f)) [.list gr,.list ls] K gl J j cs gs x T sc ws row P L D t)=some (.next (GK ⟨s,f,[.list gr,.list ls],K,gl,J,j,cs,gs,x,T,sc,ws,row,P,L,D,t⟩ gr ls)):=by rw[Lw,Qz,AP,MN,Dh,AP,Jh];rfl
def JL (x y z:Option Dat):Option Dat:=(x.bind fun d=>(y.bind fun e=>(z.bind fun f=>some [f]).map fun ds=>e::ds).map fun ds=>d::ds).bind yt
theorem zD {a b c:Dat}:JL (some a) (some b) (some c)=some (.list [a,b,c]):=rfl
theorem Pb:ev (bq G pat) ag (jC 15) (GK N gr ls)=gL (some (.range 0 20 1)) fun d=>kX (JL (dc (some (.list gr)) (some d)) (dc (some (.list ls)) (some d)) (dh .Add (cT (dc (some (.list gr)) (some d)) (some none) (gT (some (.int 2))) (some none)) (cT (dc (some (.list ls)) (some d)) (gT (some (.int 2))) (some none) (some none)))):=by rfl
def Kq (N:Dm)(gr ls prs:List Dat):az:=(("pairs":Str),.val (.list prs))::GK N gr ls
theorem HS:ev (bq G pat) ag (JM (aY 16)) (Kq N gr ls prs)=some (.range 0 20 1):=by rfl
theorem LI:ev (bq G pat) (E0 (aY 16)) (H6 (aY 16)) ((("k":Str),.val d)::bw (E0 (aY 16)) (Kq N gr ls prs))=dh .Add (dc (some (.list gr)) (some d)) (cT (dc (some (.list ls)) (some d)) (gT (some (.int 2))) (some none) (some none)):=by rfl
theorem za {sc dQ:Scope}{vars:az}{x:Str}{it body:Expr}{a b c:Int}{items:List Dat}{kd:List (List Dat)}(h3:fv sc dQ=true)(h8:(dQ.names.all fun p=>p.2 != .free||nP (vars.lookup p.1))=true)(h9:sc.names.lookup ("sorted":Str)=some .globalImplicit)(hi:ev Φ sc it vars=some (.range a b c))(hit:bb (.range a b c)=some items)(sL:items.length<64)(hk:fG Φ dQ body vars items=some kd)(ho:lS kd=true):w6 Φ x it body dQ sc vars=(bL sc x (.val (.list (tF kd items))) vars).map .next:=by unfold w6;rw[Z1 ⟨h8,h9,h3⟩,hi];show((bb (.range a b c)).bind fun items=>_)=_;rw[hit,ZV,Z1 sL,hk,ZV,Z1 ho]
theorem KY {kd:List (List Dat)}(hk:fG (bq G pat) (E0 (aY 16)) (H6 (aY 16)) (Kq N gr ls prs) ((List.range 20).map fun k:Nat=>.int (k:Int))=some kd)(ho:lS kd=true):iY G pat ag (aY 16) (Kq N gr ls prs)=some (.next ((("order":Str),.val (.list (tF kd ((List.range 20).map fun k:Nat=>.int (k:Int)))))::Kq N gr ls prs)):=by have hit:bb (.range 0 20 1)=some ((List.range 20).map fun k:Nat=>.int (k:Int)):=dp (n:=20) (by decide);exact(cM rfl).trans ((za (by decide +kernel) (by rfl) (by rfl) HS hit (by simp) hk ho).trans rfl)
end
section
variable {pat:Addr} {G:Gs} {fuel:Nat} {gr ls prs od fw grn:List Dat} {Ψ:nz} {N:Dm} {b:Str} {k:Int}
def GJ (N:Dm)(gr ls prs od:List Dat):az:=(("order":Str),.val (.list od))::Kq N gr ls prs
theorem HP:nS=[aY 0,aY 1,aY 2,aY 3,aY 4,aY 5,.For (aU (aY 6)) (bj (aY 6)) jD [] (cK (aY 6)),aY 7,aY 8,aY 9,aY 10,.For (aU (aY 11)) (bj (aY 11)) dm [] (cK (aY 11)),aY 12,.For (aU (aY 13)) (bj (aY 13)) cP [] (cK (aY 13)),aY 14,aY 15,aY 16,.If (aQ (aY 17)) (cu (aY 17)) [] (iI (aY 17)),.If (aQ (aY 18)) (cu (aY 18)) [] (iI (aY 18)),aY 19,.If (aQ (aY 20)) (cu (aY 20)) [] (iI (aY 20)),aY 21,.If (aQ (aY 22)) (cu (aY 22)) [] (iI (aY 22)),aY 23,.For (aU (aY 24)) (bj (aY 24)) (bK (aY 24)) [] (cK (aY 24)),.Return (some (eH (aY 25))) (ir (aY 25))]:=by rfl
theorem Pa:dO (bq G pat) ag (aQ (aY 17)) V (ev (bq G pat) ag (aQ (aY 17)) V)=f9 (bq G pat) ag .Or (bA (aQ (aY 17))) V:=by rfl
theorem Cn:bA (aQ (aY 17))=[(bA (aQ (aY 17))).getD 0 (.Name "" bS),(bA (aQ (aY 17))).getD 1 (.Name "" bS)]:=by rfl
theorem LH:dO (bq G pat) ag ((bA (aQ (aY 17))).getD 0 (.Name "" bS)) (GJ N gr ls prs od) (ev (bq G pat) ag ((bA (aQ (aY 17))).getD 0 (.Name "" bS)) (GJ N gr ls prs od))=iO .NotEq (gL (some (.list od)) fun d=>kX (dc (some (.list N.D)) (some d))) (A2 [.range 0 20 1]):=by rfl
theorem LG:dO (bq G pat) ag ((bA (aQ (aY 17))).getD 1 (.Name "" bS)) (GJ N gr ls prs od) (ev (bq G pat) ag ((bA (aQ (aY 17))).getD 1 (.Name "" bS)) (GJ N gr ls prs od))=some false:=by rfl
theorem O9:dO (bq G pat) ag (aQ (aY 18)) (GJ N gr ls prs od) (ev (bq G pat) ag (aQ (aY 18)) (GJ N gr ls prs od))=iO .NotEq (mh G.gb (cT (some (.bytes N.t)) (some none) (gT (some (.int 15))) (some none)) (some (.int 15))) (cT (cT (some (.bytes N.t)) (some none) (gT (some (.int 15))) (some none)) (some none) (some none) (gT (some (.int (-1))))):=by rfl
noncomputable def lX:List Nat:=[3,5,6,6,8,9,9,10,10,10,12,13,13,14,14,14,15,15,15,15]
theorem O8:ex (bq G pat) Ψ ag (aY 19) V=some (.next ((("fewest":Str),.own (.list (aw lX)))::V)):=by rfl
def Kp (N:Dm)(gr ls prs od:List Dat):az:=(("fewest":Str),.own (.list (aw lX)))::GJ N gr ls prs od
theorem O6:dO (bq G pat) ag (aQ (aY 20)) (Kp N gr ls prs od) (ev (bq G pat) ag (aQ (aY 20)) (Kp N gr ls prs od))=iO .NotEq (mh G.gg (some (.list od)) (some (.list prs))) (some (.list (aw lX))):=by rfl
theorem O5:ev (bq G pat) ag (jC 21) (Kp N gr ls prs od)=mh G.gg (some (.range 0 20 1)) (some (.list prs)):=by rfl
def Jp (N:Dm)(gr ls prs od grn:List Dat):az:=(("grown":Str),.val (.list grn))::Kp N gr ls prs od
def NN (c:Option Bool)(x:Option (List Dat)):Option (List Dat):=(c.bind fun c=>bX c (some true) (some false)).bind fun c=>bX c x (some [])
theorem O4:dO (bq G pat) ag (aQ (aY 22)) (Jp N gr ls prs od grn) (ev (bq G pat) ag (aQ (aY 22)) (Jp N gr ls prs od grn))=iO .NotEq (gL (some (.range 0 20 1)) fun d=>NN (iO .Lt (dc (some (.list grn)) (some d)) (dc (some (.list (aw lX))) (some d))) (kX (some d))) (some (.list [])):=by rfl
theorem O3:ev (bq G pat) ag (jC 23) (Jp N gr ls prs od grn)=dc (dc (some (.list N.P)) (some (.int 0))) (some (.int 0)):=by rfl
def DA (N:Dm)(gr ls prs od grn:List Dat)(b:Str):az:=(("bare":Str),.val (.str b))::Jp N gr ls prs od grn
theorem HR:ev (bq G pat) ag (bj (aY 24)) (DA N gr ls prs od grn b)=some (.range 1 6 1):=by rfl
theorem LC (d:Dat)(V:az):bp ag (aU (aY 24)) d V=some ((("k":Str),.val d)::V):=by rfl
theorem LD:bK (aY 24)=[ak (bK (aY 24)) 0]:=by rfl
theorem LF:ex (bq G pat) Ψ ag (ak (bK (aY 24)) 0) V=k9 ag "bare" (ev (bq G pat) ag (bz (ak (bK (aY 24)) 0)) V) (ev (bq G pat) ag (bz (ak (bK (aY 24)) 0)) (aO V)) V:=by rfl
def Gd (op:CmpOp)(x y:Option Dat):Option Dat:=x.bind fun a=>(y.bind fun b=>pJ op a b).bind Gk
def AS (P:List Dat)(k:Option Dat):Option Dat:=dc (dc (dc (some (.list P)) k) (some (.int 1))) (some (.int 0))
theorem LB:ev (bq G pat) ag (bz (ak (bK (aY 24)) 0)) ((("k":Str),.val (.int k))::DA N gr ls prs od grn b)=dh .Add (dh .Add (some (.str b)) (Pp (iO .Eq (Gd .Eq (AS N.P (some (.int k))) (some (.int 100))) (Gd .Eq (AS N.P (dh .Sub (some (.int k)) (some (.int 1)))) (some (.int 100)))) (some (.str ".")) (some (.str "")))) (dc (dc (some (.list N.P)) (some (.int k))) (some (.int 0))):=by rfl
def bind1 (x:Option Dat)(f:Dat->Option (List Dat)):Option (List Dat):=x.bind fun src=>(bb src).bind fun items=>cG f items
theorem O2:ev (bq G pat) ag (eH (aY 25)) ((("k":Str),.val d0)::DA N gr ls prs od grn b)=Gd .Eq (kB G.gv (kB G.gl (some (.str b)))) (gL (some (.list N.P)) fun d=>bind1 (dc (some d) (some (.int 1))) fun x=>kX (some x)):=by rfl
end
section
variable {ps ns aA:List Nat}
noncomputable def NL:List PyData:=[.str "Rc",.str "x",.str "dev",.str "a",.str "alpha",.str "b",.str "beta",.str "c",.str "RC",.str "rc",.int 0,.int 9,.int 1000,.str "p",.str "pl"]
def ey (p:Nat):List PyData:=[.int (dr.getD p 0),NL.getD p .none]
theorem fU {w:Str}(h:PyData.strOk w=true):dI [.int r,.str w]=some [.int r,.str w]:=uI rfl (uI (Z1 h) rfl)
theorem yZ {r i:Int}:dI [.int r,.int i]=some [.int r,.int i]:=rfl
theorem nG {p:Nat}(hp:p<15):dI (bE p)=some (ey p):=Pe (P:=fun p=>dI (bE p)=some (ey p)) hp (fU (by decide +kernel)) (fU (by decide +kernel)) (fU (by decide +kernel)) (fU (by decide +kernel)) (fU (by decide +kernel)) (fU (by decide +kernel)) (fU (by decide +kernel)) (fU (by decide +kernel)) (fU (by decide +kernel)) (fU (by decide +kernel)) yZ yZ yZ (fU (by decide +kernel)) (fU (by decide +kernel))
theorem xj:(List.range 15).all (fun p=>PyData.depthAll (ey p)==0&&(List.range 15).all fun q=>PyData.eqvAll (ey p) (ey q)==(p==q))=true:=by decide +kernel
theorem mF {p q:Nat}(hp:p<15)(hq:q<15):PyData.eqvAll (ey p) (ey q)=(p==q)/\PyData.depthAll (ey p)=0:=by have h1:=Zw xj p (List.mem_range.mpr hp);simp only[ZR]at h1;exact⟨beq_iff_eq.mp (Zw h1.2 q (List.mem_range.mpr hq)),beq_iff_eq.mp h1.1⟩
theorem oO {ys:List Dat}{q:List PyData}(h2:dI ys=some q):∀{xs:List Dat}{p:List PyData},dI xs=some p->dI (xs++ys)=some (p++q):=by
 intro xs;induction xs with
 |nil=>intro p h1;obtain rfl:=Z9 h1;exact h2
 |cons x xs ih=>intro p h1;obtain⟨a,r,h3,h4,rfl⟩:=tv h1;exact uI h3 (ih h4)
theorem iz:∀{a a' b b':List PyData},a.length=a'.length->PyData.eqvAll (a++b) (a'++b')=(PyData.eqvAll a a'&&PyData.eqvAll b b')|[],[],b,b',_=>by simp[PyData.eqvAll]|x::a,y::a',b,b',h=>by simp only[List.cons_append,List.cons_append,PyData.eqvAll,PyData.eqvAll,iz (by simpa using h),Bool.and_assoc]
theorem fZ:∀{a b:List PyData},PyData.depthAll (a++b)=max (PyData.depthAll a) (PyData.depthAll b)|[],b=>by simp[PyData.depthAll]|x::a,b=>by simp only[List.cons_append,PyData.depthAll,PyData.depthAll,fZ,Nat.max_assoc]
structure gn (ps:List Nat):Prop where
 p6:ps.length=6
 Np:∀p∈ps,p<15
 lt:ps.Pairwise (· < ·)
noncomputable def pp (ps:List Nat)(x:Nat):Nat:=ps.getD x 0
theorem gn.at (R:gn ps){x:Nat}(h:x<6):pp ps x<15:=(tJ R.p6 R.Np h).2
theorem gn.mono (R:gn ps){x y:Nat}(hx:x<6)(hy:y<6):pp ps x<pp ps y↔x<y:=by
 have key:∀{x y:Nat},x<6->y<6->x<y->pp ps x<pp ps y:=fun{x y}hx hy h=>by have:=List.pairwise_iff_getElem.mp R.lt x y (by refine xR R.p6 ?_;exact hx) (by refine xR R.p6 ?_;exact hy) h;unfold pp;simp only[Z5,Z5,ZY (by refine xR R.p6 ?_;exact hx),ZY (by refine xR R.p6 ?_;exact hy)];exact this
 refine⟨fun h=>?_,key hx hy⟩;refine Z4 (Nat.lt_trichotomy x y) (fun q=>?_) fun y0=>?_
 ·exact q
 refine Z4 y0 (fun q=>?_) fun q=>?_
 ·subst q;exact aR 0x1100002 rfl h
 ·have:=key hy hx q;exact cZ 0x3200101003 rfl h this
theorem gn.inj (R:gn ps){x y:Nat}(hx:x<6)(hy:y<6):pp ps x=pp ps y↔x=y:=by have h1:=R.mono hx hy;have h2:=R.mono hy hx;lia
def gE (ps:List Nat)(i:Nat):Dat:=.list (bE (pp ps (i/6))++bE (pp ps (i%6)))
theorem gn.OL (R:gn ps):Nc (gE ps) (List.range 36):=fun i hi acc Qc=>by
 have hb:∀{k:Nat},k<36->k/6<6/\k%6<6:=fun h=>by lia
 have hP:∀{k:Nat},k<36->oP (gE ps k)=some (.list (ey (pp ps (k/6))++ey (pp ps (k%6)))):=fun{k}h=>by unfold gE;exact wL (oO (nG (R.at (hb h).2)) (nG (R.at (hb h).1)))
 have vE:=Zv hi;have XG:∀l:List Nat,(∀a∈l,a<36)->dI (l.map (gE ps))=some (l.map fun k=>.list (ey (pp ps (k/6))++ey (pp ps (k%6)))):=by intro l;induction l with|nil=>intro _;rfl|cons a l ih=>intro h;rw[ZI,dI,hP (h a Z6)];dsimp only;rw[ih fun x hx=>h x (Z7 _ hx)];rfl
 unfold memD;rw[hP vE,XG acc fun a ha=>Zv (Qc a ha)];dsimp only;have d1:=(mF (R.at (hb vE).1) (R.at (hb vE).1)).2;have d2:=(mF (R.at (hb vE).2) (R.at (hb vE).2)).2;rw[Z1 (by rw[PyData.depth,fZ,d1,d2];decide),List.any_map];congr 1;rw[List.contains_eq_any_beq,Bool.eq_iff_iff,List.any_eq_true,List.any_eq_true];have heq:∀a∈acc,PyData.eqv (.list (ey (pp ps (a/6))++ey (pp ps (a%6)))) (.list (ey (pp ps (i/6))++ey (pp ps (i%6))))=(i==a):=fun a ha=>by have Iu:=Zv (Qc a ha);rw[PyData.eqv,iz (by rfl),(mF (R.at (hb Iu).1) (R.at (hb vE).1)).1,(mF (R.at (hb Iu).2) (R.at (hb vE).2)).1,Bool.eq_iff_iff,ZR,beq_iff_eq,beq_iff_eq,beq_iff_eq,R.inj (hb Iu).1 (hb vE).1,R.inj (hb Iu).2 (hb vE).2];lia
 constructor
 ·intro y0;refine ax y0 fun a ha h=>?_;exact⟨a,ha,by rw[<-heq a ha];exact h⟩
 ·intro y0;refine ax y0 fun a ha h=>?_;exact⟨a,ha,by rw[Function.comp_apply,heq a ha];exact h⟩
def AW (p q:Nat):Option (Option Bool):=match lB (.int (dr.getD p 0)) (.int (dr.getD q 0))with
 |some true=>match lB (eE.getD p .none) (eE.getD q .none)with
  |some true=>some none|some false=>(sv .Lt (eE.getD p .none) (eE.getD q .none)).map some|none=>none
 |some false=>(sv .Lt (.int (dr.getD p 0)) (.int (dr.getD q 0))).map some|none=>none
theorem xq:(List.range 15).all (fun p=>(List.range 15).all fun q=>AW p q==some (if p=q then none else some (decide (p<q))))=true:=by decide +kernel
theorem nM {p q:Nat}(hp:p<15)(hq:q<15)(X Y:List Dat)(k:Nat):gi .Lt (bE p++X) (bE q++Y) k=if p=q then gi .Lt X Y (k+1+1)else some (decide (p<q)):=by
 revert hp hq;refine Q3 inferInstance ?_ p q X k Y;generalize jF _ _=tt;dsimp only[K5];generalize tt.1.1.1=p,tt.1.1.2=q,tt.1.2=X,tt.2.1=k,tt.2.2=Y;intro hp hq;have h:=beq_iff_eq.mp (Zw (Zw xq p (List.mem_range.mpr hp)) q (List.mem_range.mpr hq));unfold AW at h;show gi .Lt (.int (dr.getD p 0)::eE.getD p .none::X) (.int (dr.getD q 0)::eE.getD q .none::Y) k=_;rw[gi];cases e1:lB (.int (dr.getD p 0)) (.int (dr.getD q 0))with
 |none=>rw[e1]at h;exact aa h
 |some b=>
  rw[e1]at h;rcases b with⟨⟩;case true=>
   dsimp only at h ⊢;simp only[gi];cases e2:lB (eE.getD p .none) (eE.getD q .none)with
   |none=>rw[e2]at h;exact aa h
   |some b=>
    rw[e2]at h;rcases b with⟨⟩;case true=>
     dsimp only at h ⊢;split at h
     ·rename_i L9;exact xR (Z1 L9) rfl
     ·(rcases h with⟨⟩)
    case false=>
     dsimp only at h ⊢;cases e3:sv .Lt (eE.getD p .none) (eE.getD q .none)with
     |none=>rw[e3]at h;exact aa h
     |some b=>
      rw[e3]at h;split at h
      ·rcases h with⟨⟩
      ·rename_i L9;refine xR (ZX L9) ?_;exact Z9 h
  case false=>
   dsimp only at h ⊢;cases e3:sv .Lt (.int (dr.getD p 0)) (.int (dr.getD q 0))with
   |none=>rw[e3]at h;exact aa h
   |some b=>
    replace h:=e3▸h;split at h
    ·rcases h with⟨⟩
    ·rename_i L9;refine xR (ZX L9) ?_;exact Z9 h
def E3 (ps:List Nat)(d:Nat):List Dat:=bE (pp ps ((cX.getD d []).getD 2 0))++(bE (pp ps ((cX.getD d []).getD 1 0))++bE (pp ps ((cX.getD d []).getD 0 0)))
def Pg (d e:Nat):Bool:=if(cX.getD d []).getD 2 0=(cX.getD e []).getD 2 0 then(if(cX.getD d []).getD 1 0=(cX.getD e []).getD 1 0 then decide ((cX.getD d []).getD 0 0<(cX.getD e []).getD 0 0)else decide ((cX.getD d []).getD 1 0<(cX.getD e []).getD 1 0))else decide ((cX.getD d []).getD 2 0<(cX.getD e []).getD 2 0)
theorem EY:(List.range 20).all (fun d=>(List.range 20).all fun e=>Pg d e==decide (d<e))=true:=by decide +kernel
theorem gn.E2 (R:gn ps){d e:Nat}(hd:d<20)(he:e<20):gi .Lt (E3 ps d) (E3 ps e) 0=some (decide (d<e)):=by
 have h:=beq_iff_eq.mp (Zw (Zw EY d (List.mem_range.mpr hd)) e (List.mem_range.mpr he));have hc:∀{x c:Nat},x<20->c<3->(cX.getD x []).getD c 0<6:=fun{x c}hx hc=>by refine bg (qf hx) fun y h2 h3=>?_;refine h3 _ (ZD (i:=c) ?_);refine xR (Z5 (l:=cX.getD x [])) (xR (ZY (aR 0x10003a1203a003 rfl hc h2)) ?_);rfl
 refine xL h ?_;delta E3 Pg;have Md:∀p q,p<15->q<15->∀k,gi .Lt (bE p) (bE q) k=if p=q then some false else some (decide (p<q)):=fun p q hp hq k=>by have:=nM hp hq [] [] k;simp only[Zz,Zz]at this;refine xR this ?_;congr 1;show some (vg .Lt (k+1+1+0) (k+1+1+0))=_;simp[vg]
 rw[nM (R.at (hc hd (by decide))) (R.at (hc he (by decide))),nM (R.at (hc hd (by decide))) (R.at (hc he (by decide))),Md _ _ (R.at (hc hd (by decide))) (R.at (hc he (by decide)))];simp only[R.inj (hc hd (show 2<3 by decide)) (hc he (show 2<3 by decide)),R.inj (hc hd (show 1<3 by decide)) (hc he (show 1<3 by decide)),R.inj (hc hd (show 0<3 by decide)) (hc he (show 0<3 by decide)),R.mono (hc hd (show 2<3 by decide)) (hc he (show 2<3 by decide)),R.mono (hc hd (show 1<3 by decide)) (hc he (show 1<3 by decide)),R.mono (hc hd (show 0<3 by decide)) (hc he (show 0<3 by decide))];split
 ·split
  ·split
   ·rename_i h0;exact xR h0 (xR (decide_eq_false (Nat.lt_irrefl _)) rfl)
   ·rfl
  ·rfl
 ·rfl
end
noncomputable def Q6:List Nat:=[0,0,0,1,1,2,4,4,5,7,10,10,11,13,16,20]
noncomputable def c2 (n:Nat):Nat:=n*(n-1)/2
theorem Wa:∀n1<2,∀n2<3,∀n3<4,∀n4<5,∀n5<6,min (c2 n2) n1+(min (c2 n3) (n1+n2)+(min (c2 n4) (n1+(n2+n3))+min (c2 n5) (n1+(n2+(n3+n4)))))<=Q6.getD (n1+(n2+(n3+(n4+n5)))) 0:=by decide +kernel
theorem iT (x y z:Bool):(x&&(y&&(z&&true))).toNat<=(x&&z).toNat:=by rcases x with⟨⟩<;>rcases y with⟨⟩<;>rcases z with⟨⟩<;>decide
theorem iS (x y z:Bool):(x&&(y&&(z&&true))).toNat<=y.toNat:=by rcases x with⟨⟩<;>rcases y with⟨⟩<;>rcases z with⟨⟩<;>decide
noncomputable def bs (l:List Bool):Nat:=(l.map Bool.toNat).sum
theorem yB:∀l:List Bool,bs l<l.length+1:=by intro l;induction l with|nil=>exact Nat.zero_lt_one|cons b l ih=>exact Nat.lt_succ_of_le (ZK (ZW (Bool.toNat_le b) (Nat.le_of_lt_succ (ih))) (Nat.le_of_eq (Nat.add_comm ..)))
theorem rJ (l m:List Bool):bs (l++m)=bs l+bs m:=by unfold bs;rw[ZA,List.sum_append]
theorem RW (a b c d:List Nat):(a++(b++(c++d))).sum=a.sum+(b.sum+(c.sum+d.sum)):=by rw[List.sum_append,List.sum_append,List.sum_append]
theorem ND (a b c:List Bool):bs (a++(b++c))=bs a+(bs b+bs c):=by rw[rJ,rJ]
theorem M1 (a b c d:List Bool):bs (a++(b++(c++d)))=bs a+(bs b+(bs c+bs d)):=by rw[rJ,ND]
theorem Yq (a b c d e:List Bool):bs (a++(b++(c++(d++e))))=bs a+(bs b+(bs c+(bs d+bs e))):=by rw[rJ,M1]
theorem Li:∀jH jG:Bool,[(jG&&jH).toNat].sum=c2 (bs [jH,jG]):=by decide
theorem Lh:∀lE lD lC:Bool,[(lD&&lE).toNat,(lC&&lE).toNat,(lC&&lD).toNat].sum=c2 (bs [lE,lD,lC]):=by decide
theorem Lg:∀mq mn ml mj:Bool,[(mn&&mq).toNat,(ml&&mq).toNat,(ml&&mn).toNat,(mj&&mq).toNat,(mj&&mn).toNat,(mj&&ml).toNat].sum=c2 (bs [mq,mn,ml,mj]):=by decide
theorem Lf:∀ny nu nr nq nk:Bool,[(nu&&ny).toNat,(nr&&ny).toNat,(nr&&nu).toNat,(nq&&ny).toNat,(nq&&nu).toNat,(nq&&nr).toNat,(nk&&ny).toNat,(nk&&nu).toNat,(nk&&nr).toNat,(nk&&nq).toNat].sum=c2 (bs [ny,nu,nr,nq,nk]):=by decide
theorem TZ (lF jH jG:Bool):[(jG&&(lF&&(jH&&true))).toNat].sum<=min (c2 (bs [jH,jG])) (bs ([lF])):=Nat.le_min.mpr ⟨ZK (ZW (iT jG lF jH) (ZQ 0)) (Nat.le_of_eq (Li jH jG)),(ZW (iS jG lF jH) (ZQ 0))⟩
theorem TY (lF jH jG lE lD lC:Bool):[(lD&&(lF&&(lE&&true))).toNat,(lC&&(jH&&(lE&&true))).toNat,(lC&&(jG&&(lD&&true))).toNat].sum<=min (c2 (bs [lE,lD,lC])) (bs ([lF]++([jH,jG]))):=Nat.le_min.mpr ⟨ZK (ZW (iT lD lF lE) (ZW (iT lC jH lE) (ZW (iT lC jG lD) (ZQ 0)))) (Nat.le_of_eq (Lh lE lD lC)),(ZW (iS lD lF lE) (ZW (iS lC jH lE) (ZW (iS lC jG lD) (ZQ 0))))⟩
theorem TX (lF jH jG lE lD lC mq mn ml mj:Bool):[(mn&&(lF&&(mq&&true))).toNat,(ml&&(jH&&(mq&&true))).toNat,(ml&&(jG&&(mn&&true))).toNat,(mj&&(lE&&(mq&&true))).toNat,(mj&&(lD&&(mn&&true))).toNat,(mj&&(lC&&(ml&&true))).toNat].sum<=min (c2 (bs [mq,mn,ml,mj])) (bs ([lF]++([jH,jG]++([lE,lD,lC])))):=Nat.le_min.mpr ⟨ZK (ZW (iT mn lF mq) (ZW (iT ml jH mq) (ZW (iT ml jG mn) (ZW (iT mj lE mq) (ZW (iT mj lD mn) (ZW (iT mj lC ml) (ZQ 0))))))) (Nat.le_of_eq (Lg mq mn ml mj)),(ZW (iS mn lF mq) (ZW (iS ml jH mq) (ZW (iS ml jG mn) (ZW (iS mj lE mq) (ZW (iS mj lD mn) (ZW (iS mj lC ml) (ZQ 0)))))))⟩
theorem TV (lF jH jG lE lD lC mq mn ml mj ny nu nr nq nk:Bool):[(nu&&(lF&&(ny&&true))).toNat,(nr&&(jH&&(ny&&true))).toNat,(nr&&(jG&&(nu&&true))).toNat,(nq&&(lE&&(ny&&true))).toNat,(nq&&(lD&&(nu&&true))).toNat,(nq&&(lC&&(nr&&true))).toNat,(nk&&(mq&&(ny&&true))).toNat,(nk&&(mn&&(nu&&true))).toNat,(nk&&(ml&&(nr&&true))).toNat,(nk&&(mj&&(nq&&true))).toNat].sum<=min (c2 (bs [ny,nu,nr,nq,nk])) (bs ([lF]++([jH,jG]++([lE,lD,lC]++([mq,mn,ml,mj]))))):=Nat.le_min.mpr ⟨ZK (ZW (iT nu lF ny) (ZW (iT nr jH ny) (ZW (iT nr jG nu) (ZW (iT nq lE ny) (ZW (iT nq lD nu) (ZW (iT nq lC nr) (ZW (iT nk mq ny) (ZW (iT nk mn nu) (ZW (iT nk ml nr) (ZW (iT nk mj nq) (ZQ 0))))))))))) (Nat.le_of_eq (Lf ny nu nr nq nk)),(ZW (iS nu lF ny) (ZW (iS nr jH ny) (ZW (iS nr jG nu) (ZW (iS nq lE ny) (ZW (iS nq lD nu) (ZW (iS nq lC nr) (ZW (iS nk mq ny) (ZW (iS nk mn nu) (ZW (iS nk ml nr) (ZW (iS nk mj nq) (ZQ 0)))))))))))⟩
theorem kk (lF jH jG lE lD lC mq mn ml mj ny nu nr nq nk:Bool):([(jG&&(lF&&(jH&&true))).toNat]++([(lD&&(lF&&(lE&&true))).toNat,(lC&&(jH&&(lE&&true))).toNat,(lC&&(jG&&(lD&&true))).toNat]++([(mn&&(lF&&(mq&&true))).toNat,(ml&&(jH&&(mq&&true))).toNat,(ml&&(jG&&(mn&&true))).toNat,(mj&&(lE&&(mq&&true))).toNat,(mj&&(lD&&(mn&&true))).toNat,(mj&&(lC&&(ml&&true))).toNat]++([(nu&&(lF&&(ny&&true))).toNat,(nr&&(jH&&(ny&&true))).toNat,(nr&&(jG&&(nu&&true))).toNat,(nq&&(lE&&(ny&&true))).toNat,(nq&&(lD&&(nu&&true))).toNat,(nq&&(lC&&(nr&&true))).toNat,(nk&&(mq&&(ny&&true))).toNat,(nk&&(mn&&(nu&&true))).toNat,(nk&&(ml&&(nr&&true))).toNat,(nk&&(mj&&(nq&&true))).toNat])))).sum<=Q6.getD (bs ([lF]++([jH,jG]++([lE,lD,lC]++([mq,mn,ml,mj]++([ny,nu,nr,nq,nk])))))) 0:=by have key:=Wa _ (yB [lF]) _ (yB [jH,jG]) _ (yB [lE,lD,lC]) _ (yB [mq,mn,ml,mj]) _ (yB [ny,nu,nr,nq,nk]);have i2:=TZ lF jH jG;have i3:=TY lF jH jG lE lD lC;have i4:=TX lF jH jG lE lD lC mq mn ml mj;have i5:=TV lF jH jG lE lD lC mq mn ml mj ny nu nr nq nk;rw[rJ]at i3;rw[ND]at i4;rw[M1]at i5;rw[RW,Yq];exact ZK (ZW i2 (ZW i3 (ZW i4 i5))) key
section
variable {ps ns aA:List Nat}
def dG (d:Nat):List Nat:=[6*(cX.getD d []).getD 2 0+(cX.getD d []).getD 1 0,6*(cX.getD d []).getD 1 0+(cX.getD d []).getD 0 0,6*(cX.getD d []).getD 2 0+(cX.getD d []).getD 0 0]
theorem GI {x:Nat}:x∈gO ks i↔x∈ks\/x=i:=by
 unfold gO;split
 ·rename_i h;have h':i∈ks:=by simpa using h
  constructor
  ·exact .inl
  ·rintro(q|q)
   ·exact q
   ·rw[q];exact h'
 ·simp
theorem AE:∀(xs ks:List Nat)(x:Nat),x∈cx ks xs↔x∈ks\/x∈xs:=by
 intro xs;induction xs with
 |nil=>intro ks x;simp[cx]
 |cons a xs ih=>
  intro ks x;have:=ih (gO ks a) x;unfold cx at this ⊢;rw[List.foldl_cons,this,GI,List.mem_cons];constructor
  ·rintro((h|h)|h)
   ·exact .inl h
   ·exact .inr (.inl h)
   ·exact .inr (.inr h)
  ·rintro(h|h|h)
   ·exact .inl (.inl h)
   ·exact .inl (.inr h)
   ·exact .inr h
theorem Iz:∀(cs:List (List Nat))(ks:List Nat)(x:Nat),x∈Dy cs ks↔x∈ks\/∃c∈cs,x∈c:=by
 intro cs;induction cs with
 |nil=>intro ks x;simp[Dy]
 |cons c cs ih=>
  intro ks x;rw[Dy,ih,AE];constructor
  ·rintro((h|h)|⟨d,hd,h⟩)
   ·exact .inl h
   ·exact .inr ⟨c,Z6,h⟩
   ·exact .inr ⟨d,Z7 _ hd,h⟩
  ·rintro(h|⟨d,hd,h⟩)
   ·exact .inl (.inl h)
   ·refine Z4 (Zy hd) (fun q=>?_) fun q=>?_
    ·exact .inl (.inr (q▸h))
    ·exact .inr ⟨d,q,h⟩
theorem Bh:∀(cs:List (List Nat))(ks:List Nat)(k:Nat),k<cs.length->(pW cs ks)[k]?=some (Dy (cs.take (k+1)) ks).length|[],ks,k,h=>by simp at h|c::cs,ks,0,h=>by simp[pW,Dy]|c::cs,ks,k+1,h=>by rw[pW,List.getElem?_cons_succ,Bh cs _ k (by simpa using h)];rfl
theorem tP:∀(l m:List Nat),l.Nodup->(∀x∈l,x∈m)->l.length<=m.length:=by
 intro l;induction l with
 |nil=>intro m _ _;exact Nat.zero_le _
 |cons a l ih=>
  intro m hn hs;rw[List.nodup_cons]at hn;have ha:=hs a Z6;have:=ih (m.erase a) hn.2 fun x hx=>by have iX:x≠a:=fun q=>hn.1 (q▸hx);exact(List.mem_erase_of_ne iX).mpr (hs x (Z7 _ hx))
  rw[List.length_erase_of_mem ha]at this;have hp:0<m.length:=List.length_pos_of_mem ha;rw[List.length_cons];exact aR 0x190b118091c013 rfl this hp
theorem rg {p:Nat->Bool}:∀l:List Nat,(l.filter p).length=(l.map fun d=>(p d).toNat).sum:=by
 intro l;induction l with
 |nil=>exact rfl
 |cons a l ih=>rw[List.filter_cons,ZI,List.sum_cons,<-ih];cases h:p a with|true=>rw[Z1 rfl,List.length_cons];simp[Nat.add_comm]|false=>rw[ZX ZZ];simp
noncomputable def yV:List Nat:=[6,12,13,18,19,20,24,25,26,27,30,31,32,33,34]
theorem MM:∀k<20,∀e<16,k+1<=Q6.getD e 0->lX.getD k 0<=e:=by decide +kernel
theorem E1 (ds ks:List Nat)(hd:ds.Nodup)(Qo:∀d∈ds,d<20)(hc:∀d∈ds,∀c∈dG d,c∈ks):ds.length<=Q6.getD (yV.filter ks.contains).length 0:=by
 have h1:ds.length<=((List.range 20).filter fun d=>(dG d).all ks.contains).length:=tP _ _ hd fun d U9=>by rw[List.mem_filter];refine⟨List.mem_range.mpr (Qo d U9),?_⟩;rw[List.all_eq_true];intro c Xm;simpa using hc d U9 c Xm
 refine ZK h1 ?_;rw[rg,rg];exact kk (ks.contains 6) (ks.contains 12) (ks.contains 13) (ks.contains 18) (ks.contains 19) (ks.contains 20) (ks.contains 24) (ks.contains 25) (ks.contains 26) (ks.contains 27) (ks.contains 30) (ks.contains 31) (ks.contains 32) (ks.contains 33) (ks.contains 34)
theorem CL (hn:aA.Nodup)(hl:aA.length=20)(Qo:∀d∈aA,d<20)(hk:k<20):∃g,(pW (aA.map dG) [])[k]?=some g/\lX.getD k 0<=g:=by
 refine⟨_,Bh _ _ k (by rw[Z2,hl];exact hk),?_⟩;generalize PY:Dy ((aA.map dG).take (k+1)) []=ks;have hw:=E1 (aA.take (k+1)) ks (hn.sublist (List.take_sublist _ _)) (fun d hd=>Qo d (List.mem_of_mem_take hd)) fun d hd c hc=>by rw[<-PY,Iz];refine .inr ⟨dG d,?_,hc⟩;rw[<-List.map_take];exact List.mem_map_of_mem hd
 rw[List.length_take,hl,Nat.min_eq_left (by exact bC 0x14a90b114a002 rfl hk)]at hw;have he:(yV.filter ks.contains).length<=ks.length:=tP _ _ (List.Nodup.sublist (List.filter_sublist ..) (by decide)) fun x hx=>by simpa using(List.mem_filter.mp hx).2
 have pV:(yV.filter ks.contains).length<=15:=List.length_filter_le _ _;exact ZK (MM k hk _ (bC 0x10a000fa012 rfl pV) hw) he
theorem CM:pW ((List.range 20).map dG) []=lX:=by decide +kernel
set_option tactic.hygienic true in
theorem qU:∀(n off:Nat)(l:List Nat),l.Pairwise (· < ·)->(∀x∈l,off<=x/\x<off+n)->l.length=n->l=List.range' off n
 |0,off,l,_,_,h=>by rw[List.length_eq_zero_iff.mp h];rfl
 |n+1,off,[],_,_,h=>by simp at h
 |n+1,off,a::r,hp,hb,h=>by
  rw[List.pairwise_cons]at hp;have ha:=hb a Z6;have ih:=qU n (off+1) r hp.2 (fun x hx=>by have h1:=hp.1 x hx;have h2:=hb x (Z7 _ hx);exact cZ 0x290bb30390b1492b0b30301431092b0b1010144 rfl ha h1 h2) (by simpa using h);have:a=off:=by
   rcases n with⟨⟩;case zero=>exact aR 0x1298b0b1010142 rfl ha
   case succ n=>
    have:off+1∈r:=by rw[ih,List.range'_succ];exact Z6
    have:=hp.1 _ this;exact aX 0x1290b10992bb0b1010143 rfl ha this
  rw[ih,this,List.range'_succ]
theorem qF (hn:aA.Nodup)(hl:aA.length=20)(Qo:∀d∈aA,d<20)(hf:∀i j,i<20->j<20->f i j=decide (aA.getD i 0<aA.getD j 0)):(Ks.cY f 20).length=20/\(∀x∈Ks.cY f 20,x<20)/\(Ks.cY f 20).map (fun k=>aA.getD k 0)=List.range 20:=by
 refine bg (Ks.zb (N:=20) (r:=fun i=>aA.getD i 0) hf) fun h1 h2 h3=>?_;refine⟨h1,h2,?_⟩;rw[List.range_eq_range'];have Mm:∀{i:Nat},i<20->aA[i]?=some (aA.getD i 0):=fun{i}hi=>by rw[Z5,ZY (by rw[hl];exact hi)];rfl
 refine qU 20 0 _ ?_ (fun x hx=>?_) (by rw[Z2,h1])
 ·rw[List.pairwise_map];refine List.Pairwise.imp_of_mem (fun{a b}ha hb h=>?_) h3;refine Z4 h (fun h=>?_) fun y0=>?_
  ·exact h
  ·refine aL y0 fun h TK=>?_;exfalso;have Mu:=h2 a ha;have Mr:=h2 b hb;dsimp only at h;have iX:=List.pairwise_iff_getElem.mp hn a b (by rw[hl];exact Mu) (by rw[hl];exact Mr) TK;apply iX;have g1:=Mm Mu;have g2:=Mm Mr;rw[ZY (by rw[hl];exact Mu)]at g1;rw[ZY (by rw[hl];exact Mr)]at g2;rw[Z9 g1,Z9 g2,h]
 ·refine ax (Zx hx) ?_;rintro k hk (rfl);have:=Qo _ (ZD (Mm (h2 k hk)));exact bC 0x14a8b00081414a002 rfl this
end
section
variable {pat:Addr} {G:Gs} {fuel:Nat} {gr ls prs od fw grn:List Dat} {Ψ:nz} {N:Dm} {b:Str} {k:Int} {ps ns aA:List Nat}
theorem to2 {a b c:Dat}:cT (some (.list [a,b,c,d])) (some none) (gT (some (.int 2))) (some none)=some (.list [a,b]):=by rfl
theorem Kb {a b c:Dat}:cT (some (.list [a,b,c,d])) (gT (some (.int 2))) (some none) (some none)=some (.list [c,d]):=by show(if(none:Option Int)=some 0\/(some (2:Int)).all aG=false\/(none:Option Int).all aG=false\/(none:Option Int).all aG=false then none else(if[a,b,c,d].length<=aM then some (Dat.list (pick [a,b,c,d] (some 2) none none))else none))=_;rw[ZX (by decide),Z1 (show[a,b,c,d].length<=aM from(by decide:4<=aM)),fj];rfl
theorem uq {a b:List Dat}(h:a.length+b.length<=aM):js .Add (.list a) (.list b)=some (.list (a++b)):=by show(if a.length+b.length<=aM then some (Dat.list (a++b))else none)=_;rw[Z1 h]
def tp (aA:List Nat)(i c:Nat):Nat:=(cX.getD (aA.getD i 0) []).getD c 0
theorem pP (hi:i<20):dc (some (.list (bF ps aA out))) (some (.int (i:Int)))=some (.list (chunk ps aA out i)):=er (rQ hi) (by unfold bF;rw[Z2,List.length_range];decide)
theorem DR (F:nh ps ns aA)(hi:i<20)(hc:c<3):tp aA i c<6:=(F.DQ hi hc).1
theorem qC {x y:Nat}(hy:y<6):gE ps (6*x+y)=.list (bE (pp ps x)++bE (pp ps y)):=by delta gE;exact xR (show(6*x+y)/6=x by exact cZ 0x31206a200306db2106db206a004 rfl hy (Nat.div_add_mod (6*x+y) (6)) (Nat.mod_lt (6*x+y) (Nat.le_of_ble_eq_true rfl:6>0))) (xR (show(6*x+y)%6=y by lia) rfl)
def bJ (aA:List Nat):List (List Nat):=aA.map dG
def cF (ps aA:List Nat):List Dat:=(bJ aA).map fun c=>.list (c.map (gE ps))
theorem KN (F:nh ps ns aA):ev (bq G pat) ag (jC 15) (GK N (bF ps aA 2) (bF ps aA 0))=some (.list (cF ps aA)):=by
 have hit:bb (.range 0 20 1)=some ((List.range 20).map fun k:Nat=>.int (k:Int)):=dp (n:=20) (by decide);rw[Pb,el (items:=(List.range 20).map fun k:Nat=>.int (k:Int)) (g:=HG fun i=>(cF ps aA).getD i.toNat .none) hit (fun d hd=>?_) (by decide)]
 ·congr 2;rw[ZH];apply List.ext_getElem?;intro i;have hlen:(cF ps aA).length=20:=by unfold cF bJ;rw[Z2,Z2,F.FY]
  by_cases hi:i<20
  ·rw[ZP,List.getElem?_range hi];show some ((cF ps aA).getD ((i:Int).toNat) .none)=_;rw[ZE,Z5,ZY (by exact aR 0x1014a1014a023 rfl hlen hi)];rfl
  ·rw[List.getElem?_eq_none (by simp;exact bC 0x14a114a0032 rfl hi),List.getElem?_eq_none (by exact aR 0x10114a10314a023 rfl hlen hi)]
 ·refine ax (Zx hd) ?_;rintro i hi (rfl);have q0:=Zv hi;have e1:cT (some (.list (chunk ps aA 2 i))) (some none) (gT (some (.int 2))) (some none)=some (.list (bE (pp ps (tp aA i 2)))):=to2;have e2:cT (some (.list (chunk ps aA 0 i))) (gT (some (.int 2))) (some none) (some none)=some (.list (bE (pp ps (tp aA i 0)))):=Kb;have e3:js .Add (.list (bE (pp ps (tp aA i 2)))) (.list (bE (pp ps (tp aA i 0))))=some (.list (bE (pp ps (tp aA i 2))++bE (pp ps (tp aA i 0)))):=uq (show 2+2<=aM by decide);rw[pP q0,pP q0,e1,e2,br,e3,zD];show some [_]=some [(cF ps aA).getD ((i:Int).toNat) .none];rw[ZE];have hd:=(F.jr q0).1;have:(cF ps aA)[i]?=some (.list ((dG (aA.getD i 0)).map (gE ps))):=by unfold cF bJ;rw[ZP,ZP,hd];rfl
  rw[Z5,this];have hc:(dG (aA.getD i 0)).map (gE ps)=[.list (chunk ps aA 2 i),.list (chunk ps aA 0 i),.list (bE (pp ps (tp aA i 2))++bE (pp ps (tp aA i 0)))]:=by show[gE ps (6*tp aA i 2+tp aA i 1),gE ps (6*tp aA i 1+tp aA i 0),gE ps (6*tp aA i 2+tp aA i 0)]=_;rw[qC (DR F q0 (by decide)),qC (DR F q0 (by decide)),qC (DR F q0 (by decide))];rfl
  rw[hc];rfl
def oZ (ps aA:List Nat):List (List Dat):=(List.range 20).map fun i=>E3 ps (aA.getD i 0)
theorem oY:∀l:List Nat,(∀i∈l,ev Φ dQ body ((("k":Str),.val (.int (i:Int)))::bw dQ vars)=some (.list (g i)))->fG Φ dQ body vars (l.map fun k:Nat=>.int (k:Int))=some (l.map g)|[],_=>rfl|i::l,h=>by refine(congrArg (EW · _) (h i Z6)).trans ?_;exact xR (oY l fun x hx=>h x (Z7 _ hx)) rfl
theorem KL (F:nh ps ns aA):fG (bq G pat) (E0 (aY 16)) (H6 (aY 16)) (Kq N (bF ps aA 2) (bF ps aA 0) prs) ((List.range 20).map fun k:Nat=>.int (k:Int))=some (oZ ps aA):=by refine oY _ fun i hi=>?_;have q0:=Zv hi;have e2:cT (some (.list (chunk ps aA 0 i))) (gT (some (.int 2))) (some none) (some none)=some (.list (bE (pp ps (tp aA i 0)))):=Kb;have e3:js .Add (.list (chunk ps aA 2 i)) (.list (bE (pp ps (tp aA i 0))))=some (.list (chunk ps aA 2 i++bE (pp ps (tp aA i 0)))):=uq (show 4+2<=aM by decide);simp only[LI,pP q0,pP q0,e2,br,e3];rfl
theorem A5 (hi:i<20):(oZ ps aA)[i]?=some (E3 ps (aA.getD i 0)):=by unfold oZ;rw[ZP,List.getElem?_range hi];rfl
theorem mK (F:nh ps ns aA)(R:gn ps):lS (oZ ps aA)=true/\∀i j,i<20->j<20->tN (oZ ps aA) i j=decide (aA.getD i 0<aA.getD j 0):=by
 refine⟨?_,fun i j hi hj=>?_⟩
 ·unfold lS;rw[List.all_eq_true];intro x hx;simp only[List.all_eq_true];intro y hy;unfold oZ at hx hy;refine ax (Zx hx) ?_;rintro i hi (rfl);refine ax (Zx hy) ?_;rintro j hj (rfl);refine xR (R.E2 (F.jr (Zv hi)).2 (F.jr (Zv hj)).2) ?_;rfl
 ·unfold tN;simp only[A5 hi,A5 hj,ZV,ZV,R.E2 (F.jr hi).2 (F.jr hj).2];rfl
def bW (ps aA:List Nat):List Nat:=Ks.cY (tN (oZ ps aA)) 20
theorem D7 (F:nh ps ns aA)(R:gn ps)(hn:aA.Nodup):tF (oZ ps aA) ((List.range 20).map fun k:Nat=>.int (k:Int))=aw (bW ps aA):=by refine bg (qF hn F.FY F.Ke (mK F R).2) fun x h2 x=>?_;delta tF aw bW;refine xR (show((List.range 20).map fun k:Nat=>Dat.int (k:Int)).length=20 by simp) ?_;refine ZF fun i hi=>?_;refine xR Z5 (xR (rQ (h2 i hi)) ?_);rfl
set_option tactic.hygienic true in
theorem FN (l m:List Nat):lB (.list (aw l)) (.list (aw m))=some (l==m):=by
 have hP:∀l:List Nat,dI (aw l)=some (l.map fun k:Nat=>.int (k:Int)):=by intro l;induction l with|nil=>rfl|cons a l ih=>exact uI rfl ih
 have hD:∀l:List Nat,PyData.depthAll (l.map fun k:Nat=>PyData.int (k:Int))=0:=by intro l;induction l with|nil=>rfl|cons a l ih=>rw[ZI,PyData.depthAll,ih];rfl
 unfold lB;rw[wL (hP l),wL (hP m)];dsimp only;rw[Z1 (by rw[PyData.depth,PyData.depth,hD,hD];decide),PyData.eqv];congr 1;induction l generalizing m with
 |nil=>rcases m with⟨⟩<;>simp[PyData.eqvAll]
 |cons a l ih=>
  rcases m with⟨⟩;case nil=>simp[PyData.eqvAll]
  case cons b m=>
   rw[ZI,ZI,PyData.eqvAll,ih m,PyData.eqv,Bool.eq_iff_iff,ZR,beq_iff_eq,beq_iff_eq,beq_iff_eq];constructor
   ·intro y0;refine aL y0 fun h1 h2=>?_;rw[h2,show a=b by exact aR 0x1021af0af92 rfl h1]
   ·intro h;rcases h with⟨⟩;exact⟨rfl,rfl⟩
theorem ma (l m:List Nat):iO .NotEq (some (.list (aw l))) (some (.list (aw m)))=some (!(l==m)):=by show(lB (.list (aw l)) (.list (aw m))).map (!·)=_;rw[FN];rfl
theorem FL {a b:Expr}(h1:dO Φ sc a V (ev Φ sc a V)=some false)(h2:dO Φ sc b V (ev Φ sc b V)=some false):f9 Φ sc .Or [a,b] V=some false:=by show(dO Φ sc a V (ev Φ sc a V)).bind (fun c=>bX (wY .Or c) (some c) (f9 Φ sc .Or [b] V))=_;rw[h1];show(dO Φ sc b V (ev Φ sc b V)).bind (fun c=>bX (wY .Or c) (some c) (f9 Φ sc .Or [] V))=_;rw[h2];rfl
theorem KJ (F:nh ps ns aA)(hn:aA.Nodup)(R:gn ps)(hN:N.D=aw aA):dO (bq G pat) ag (aQ (aY 17)) (GJ N gr ls prs (aw (bW ps aA))) (ev (bq G pat) ag (aQ (aY 17)) (GJ N gr ls prs (aw (bW ps aA))))=some false:=by
 refine bg (qF hn F.FY F.Ke (mK F R).2) fun h1 h2 h3=>?_;have hit:bb (.list (aw (bW ps aA)))=some (aw (bW ps aA)):=rfl;have hx:=LH (G:=G) (pat:=pat) (N:=N) (gr:=gr) (ls:=ls) (prs:=prs) (od:=aw (bW ps aA));rw[hN,el (items:=aw (bW ps aA)) (g:=HG fun i=>.int ((aA.getD i.toNat 0:Nat):Int)) hit (fun d hd=>by unfold aw at hd;refine ax (Zx hd) ?_;rintro i hi (rfl);have q0:=h2 i hi;rw[er (d:=.int ((aA.getD i 0:Nat):Int)) (by unfold aw;rw[ZP,(F.jr q0).1];rfl) (by unfold aw;rw[Z2,F.FY];decide)];show some [_]=some [Dat.int ((aA.getD (i:Int).toNat 0:Nat):Int)];rw[ZE]) (by unfold aw bW;rw[Z2,h1];decide)]at hx;have e1:(aw (bW ps aA)).map (HG fun i=>Dat.int ((aA.getD i.toNat 0:Nat):Int))=aw (List.range 20):=by rw[<-h3];unfold aw bW;rw[ZH,ZH];rfl
 have e2:A2 [.range 0 20 1]=some (.list (aw (List.range 20))):=by rfl
 rw[e1,e2,ma]at hx;have e3:(!(List.range 20==List.range 20))=false:=by decide
 rw[e3]at hx;rw[Pa,Cn];exact FL hx LG
theorem KH (F:nh ps ns aA)(R:gn ps)(hn:aA.Nodup)(hg:G.gg=o5):dO (bq G pat) ag (aQ (aY 20)) (Kp N gr ls (cF ps aA) (aw (bW ps aA))) (ev (bq G pat) ag (aQ (aY 20)) (Kp N gr ls (cF ps aA) (aw (bW ps aA))))=some false:=by
 refine bg (qF hn F.FY F.Ke (mK F R).2) fun h1 h2 h3=>?_;have jm:(bJ aA).length=20:=by delta bJ;simp only[Z2,F.FY]
 have zY:∀c∈bJ aA,c.length<=3/\∀x∈c,x∈List.range 36:=fun c hc=>by delta bJ at hc;refine ax (Zx hc) ?_;rintro d hd (rfl);exact(by decide +kernel:∀d<20,(dG d).length<=3/\∀x∈dG d,x∈List.range 36) d (F.Ke d hd)
 have Nw:=Bf (order:=.list (aw (bW ps aA))) (K:=gE ps) (L:=List.range 36) R.OL (codes:=bJ aA) (idx:=bW ps aA) zY (by refine xR jm ?_;decide) rfl (fun k hk=>by refine xR jm ?_;exact h2 k hk) (by delta bW;refine xR h1 ?_;decide);have Fh:(bW ps aA).map (fun k=>(bJ aA).getD k [])=(List.range 20).map dG:=by refine xL h3 (xR ZH ?_);refine ZF fun k hk=>?_;delta bJ;refine xR Z5 (xR ZP (xR ((F.jr (h2 k hk)).1) ?_));rfl
 simp only[Fh,CM]at Nw;refine xR O6 (xR eA (xR hg ?_));show iO .NotEq (o5 [.list (aw (bW ps aA)),.list ((bJ aA).map fun c=>.list (c.map (gE ps)))]) _=_;refine xR Nw ?_;show iO .NotEq (some (.list (aw lX))) (some (.list (aw lX)))=_;exact xR (ma _ _) rfl
theorem KG (F:nh ps ns aA)(R:gn ps)(hg:G.gg=o5):ev (bq G pat) ag (jC 21) (Kp N gr ls (cF ps aA) od)=some (.list (aw (pW (bJ aA) []))):=by
 have jm:(bJ aA).length=20:=by delta bJ;simp only[Z2,F.FY]
 have zY:∀c∈bJ aA,c.length<=3/\∀x∈c,x∈List.range 36:=fun c hc=>by delta bJ at hc;refine ax (Zx hc) ?_;rintro d hd (rfl);exact(by decide +kernel:∀d<20,(dG d).length<=3/\∀x∈dG d,x∈List.range 36) d (F.Ke d hd)
 have hit:bb (.range 0 20 1)=some ((List.range 20).map fun k:Nat=>.int (k:Int)):=dp (n:=20) (by decide);have Nw:=Bf (order:=.range 0 20 1) (K:=gE ps) (L:=List.range 36) R.OL (codes:=bJ aA) (idx:=List.range 20) zY (by refine xR jm ?_;decide) hit (fun k hk=>by refine xR jm ?_;exact Zv hk) (by decide);have Fh:(List.range 20).map (fun k=>(bJ aA).getD k [])=bJ aA:=by
  apply List.ext_getElem?;intro i;by_cases hi:i<20
  ·rw[ZP,List.getElem?_range hi,Option.map_some,Z5,ZY (by exact aR 0x1014a1014a023 rfl jm hi)];rfl
  ·exact xR (List.getElem?_eq_none (by simp;exact bC 0x14a114a0032 rfl hi)) (xR (List.getElem?_eq_none (aR 0x10114a10314a023 rfl jm hi)) rfl)
 replace Nw:=Fh▸Nw;refine xR O5 (xR eA (xR hg ?_));exact Nw
theorem KD (F:nh ps ns aA)(hn:aA.Nodup):dO (bq G pat) ag (aQ (aY 22)) (Jp N gr ls prs od (aw (pW (bJ aA) []))) (ev (bq G pat) ag (aQ (aY 22)) (Jp N gr ls prs od (aw (pW (bJ aA) []))))=some false:=by
 have hit:bb (.range 0 20 1)=some ((List.range 20).map fun k:Nat=>.int (k:Int)):=dp (n:=20) (by decide);have yc:(pW (bJ aA) []).length=20:=by refine xR (Bg _ _) ?_;unfold bJ;rw[Z2,F.FY]
 have hc:gL (some (.range 0 20 1)) (fun d=>NN (iO .Lt (dc (some (.list (aw (pW (bJ aA) [])))) (some d)) (dc (some (.list (aw lX))) (some d))) (kX (some d)))=some (.list []):=by
  unfold gL;rw[ZV,hit,ZV,ke (g:=fun x=>[]) (fun d hd=>?_)]
  ·refine xR (show(((List.range 20).map fun k:Nat=>Dat.int (k:Int)).flatMap fun x=>([]:List Dat))=[]from List.flatMap_eq_nil_iff.mpr fun x x=>rfl) ?_;rfl
  ·refine ax (Zx hd) ?_;rintro k hk (rfl);have Io:=Zv hk;refine ax (CL hn F.FY F.Ke Io) fun g hg W8=>?_;have e1:dc (some (.list (aw (pW (bJ aA) [])))) (some (.int (k:Int)))=some (.int (g:Int)):=er (by delta aw bJ;refine xR ZP (xR hg ?_);rfl) (by unfold aw;rw[Z2,yc];decide);have e2:dc (some (.list (aw lX))) (some (.int (k:Int)))=some (.int ((lX.getD k 0:Nat):Int)):=by refine er ?_ (by decide);unfold aw;have:k<lX.length:=Io;refine xR ZP (xR Z5 (xR (ZY this) ?_));rfl
   have e3:iO .Lt (some (.int (g:Int))) (some (.int ((lX.getD k 0:Nat):Int)))=some (decide ((g:Int)<((lX.getD k 0:Nat):Int))):=rfl;rw[e1,e2,e3,decide_eq_false (by exact aR 0xaf1af731012 rfl W8)];rfl
 refine xR O4 (xR hc ?_);exact ma [] []
theorem Ey {α:Type}(l:List α):pick l none none (some (-1))=l.reverse:=by
 have hb:sliceBounds none none (some (-1)) l.length=((l.length:Int)-1,-1,-1):=by unfold sliceBounds;simp
 unfold pick;rw[hb];dsimp only;have hr:sliceRange ((l.length:Int)-1) (-1) (-1)=(List.range l.length).map fun k=>l.length-1-k:=by
  unfold sliceRange;have hc:(if((l.length:Int)-1)> -1 then(((l.length:Int)-1)-(-1)-(-1)-1)/(-(-1))else 0).toNat=l.length:=by
   split
   ·simp
   ·exact bC 0x8bf290afc99f732 rfl (by assumption)
  rw[ZX (by decide)];dsimp only;rw[hc];refine ZF fun k hk=>?_;have:=Zv hk;lia
 rw[hr,List.filterMap_map];have key:∀m:List Nat,(∀k∈m,k<l.length)->m.filterMap ((l[·]?)∘fun k=>l.length-1-k)=m.filterMap fun k=>l.reverse[k]? :=by intro m;induction m with|nil=>intro _;rfl|cons k m ih=>intro hm;rw[List.filterMap_cons,List.filterMap_cons,ih fun x hx=>hm x (Z7 _ hx),Function.comp_apply,List.getElem?_reverse (hm k Z6)]
 rw[key _ fun k hk=>Zv hk];have W4:∀m:List α,(List.range m.length).filterMap (fun k=>m[k]?)=m:=by intro m;induction m with|nil=>rfl|cons a m ih=>rw[List.length_cons,List.range_succ_eq_map,List.filterMap_cons,List.filterMap_map];show a::_=_;congr 1
 have:=W4 l.reverse;rw[List.length_reverse]at this;rw[this]
theorem oT {t:List UInt8}{lo hi st:Option Int}(h0:st≠some 0)(h1:lo.all aG=true)(h2:hi.all aG=true)(h3:st.all aG=true)(hl:t.length<=aM):cT (some (.bytes t)) (some lo) (some hi) (some st)=some (.bytes (pick t lo hi st)):=by show(if st=some 0\/lo.all aG=false\/hi.all aG=false\/st.all aG=false then none else(if t.length<=aM then some (Dat.bytes (pick t lo hi st))else none))=_;rw[ZX (by simp[h0,h1,h2,h3]),Z1 hl]
theorem KI (hb:G.gb=Ki)(pV:15<=N.t.length)(hc:N.t.length<=aM):dO (bq G pat) ag (aQ (aY 18)) (GJ N gr ls prs od) (ev (bq G pat) ag (aQ (aY 18)) (GJ N gr ls prs od))=some false:=by
 have e1:cT (some (.bytes N.t)) (some none) (gT (some (.int 15))) (some none)=some (.bytes (N.t.take 15)):=by
  rw[mL,oT (by decide) (by decide) (by decide) (by decide) hc,fj];have:clipAt N.t.length 15=15:=by unfold clipAt;lia
  simp only[Option.elim,List.drop_zero,Nat.sub_zero];rw[this]
 have hl:(N.t.take 15).length=15:=by rw[List.length_take];exact bC 0xfa00fadf200fa12 rfl pV
 have e2:cT (some (.bytes (N.t.take 15))) (some none) (some none) (gT (some (.int (-1))))=some (.bytes (N.t.take 15).reverse):=by rw[mL,oT (by decide) (by decide) (by decide) (by decide) (by rw[hl];decide),Ey]
 have e3:=rK (b:=N.t.take 15) (w:=15) (by decide) (by decide) (by rw[hl];decide) (by rw[hl]);have e4:fL (N.t.take 15) 15=(N.t.take 15).reverse:=by have:=je (w:=15) (by decide) [N.t.take 15] (fun b hb=>by rw[List.mem_singleton.mp hb];exact hl);simpa using this
 rw[O9,e1,eA,hb,e2];show iO .NotEq (Ki [.bytes (N.t.take 15),.int ((15:Nat):Int)]) _=_;rw[e3,e4];show((some ((N.t.take 15).reverse==(N.t.take 15).reverse)).map (!·))=some false;simp
end
section
variable {pat:Addr} {G:Gs} {fuel:Nat} {gr ls prs od fw grn:List Dat} {Ψ:nz} {N:Dm} {b:Str} {ps ns aA:List Nat}
def w9 (p q:Nat):Str:=if(dr.getD q 0==100)==(dr.getD p 0==100)then "." else ""
def di (ps:List Nat):Nat->Str|0=>wM.getD (pp ps 0) ""|k+1=>di ps k++w9 (pp ps k) (pp ps (k+1))++wM.getD (pp ps (k+1)) ""
noncomputable def uw:List (List Nat):=(List.range 5).flatMap fun a=>[a+1,a+2].flatMap fun b=>[b+1,b+2].flatMap fun c=>[c+1,c+2].flatMap fun d=>[d+1,d+2].flatMap fun e=>[e+1,e+2].map fun f=>[a,b,c,d,e,f]
theorem I6 (h6:ps.length=6)(h:Jr ps):ps∈uw:=by
 refine NH (X4 h6) ?_;rintro a b c d e f (rfl)
 ·have h0:=(h 0 (show 0<6 by decide)).1 rfl;have h1:=(h 1 (show 1<6 by decide)).2 0 rfl;have h2:=(h 2 (show 2<6 by decide)).2 1 rfl;have h3:=(h 3 (show 3<6 by decide)).2 2 rfl;have h4:=(h 4 (show 4<6 by decide)).2 3 rfl;have h5:=(h 5 (show 5<6 by decide)).2 4 rfl;have Iv:a<=4:=h0;have G1:b=a+1\/b=a+2:=h1;have CJ:c=b+1\/c=b+2:=h2;have Qn:d=c+1\/d=c+2:=h3;have Qm:e=d+1\/e=d+2:=h4;have XW:f=e+1\/f=e+2:=h5;unfold uw;simp only[List.mem_flatMap,List.mem_map,List.mem_range,List.mem_cons,List.mem_nil_iff,or_false];exact⟨a,by exact bC 0x5a0004a012 rfl Iv,b,G1,c,CJ,d,Qn,e,Qm,f,XW,rfl⟩
def Kk (ps:List Nat):Bool:=vV (Tx.toks jA (Tx.kept (di ps 5))) (ps.flatMap bE)&&(Tx.eK (Tx.kept (di ps 5))&&(decide ((di ps 5).length<=60)&&(di ps 5).cps.toList.all fun c=>decide (c<128)))
theorem Gx:uw.all Kk=true:=by decide +kernel
theorem qA (R:gn ps)(hk:k<6):dc (some (.list (ps.map eC))) (some (.int (k:Int)))=some (eC (pp ps k)):=er (by rw[ZP,(tJ R.p6 R.Np hk).1];rfl) (by rw[Z2,R.p6];decide)
theorem NV {a b:Dat}:dc (some (.tuple [a,b])) (some (.int 0))=some a:=by rfl
theorem NU {a b:Dat}:dc (some (.tuple [a,b])) (some (.int 1))=some b:=by rfl
theorem Sk {a b:Dat}:dc (some (.list [a,b])) (some (.int 0))=some a:=by rfl
theorem AR (R:gn ps)(hk:k<6):AS (ps.map eC) (some (.int (k:Int)))=some (.int (dr.getD (pp ps k) 0)):=by unfold AS;rw[qA R hk];unfold eC;rw[NU];unfold bE;rw[Sk]
theorem yq (a b:Int):Gd .Eq (some (.int a)) (some (.int b))=some (.bool (a==b)):=by show(match lB (.int a) (.int b)with|none=>none|some b=>some (Dat.bool b))=_;rw[vU]
theorem C3 (a b:Bool):iO .Eq (some (.bool a)) (some (.bool b))=some (a==b):=by rcases a with⟨⟩<;>rcases b with⟨⟩<;>rfl
theorem text_len:∀p<15,(wM.getD p "").length<=5:=by decide +kernel
theorem ur (R:gn ps):∀k,k<6->(di ps k).length<=6*(k+1)
 |0,h=>by have:=text_len _ (R.at (show 0<6 by decide));unfold di;lia
 |k+1,h=>by
  have ih:=ur R k (by lia);have ht:=text_len _ (R.at h);have hs:(w9 (pp ps k) (pp ps (k+1))).length<=1:=by unfold w9;split<;>decide
  unfold di;rw[Tx.len_list]at ih ht hs ⊢;simp only[Str.cps_append,Array.toList_append,ZN];lia
theorem KA (R:gn ps)(hP:N.P=ps.map eC)(hk:k+1<6):ev (bq G pat) ag (bz (ak (bK (aY 24)) 0)) ((("k":Str),.val (.int ((k+1:Nat):Int)))::DA N gr ls prs od grn (di ps k))=some (.str (di ps (k+1))):=by
 have e1:dh .Sub (some (.int ((k+1:Nat):Int))) (some (.int 1))=some (.int (k:Int)):=by rw[br,Gq];congr 2;lia
 rw[LB,hP,AR R hk,yq,e1,AR R (by lia),yq,C3,qA R hk];have e2:Pp (some ((dr.getD (pp ps (k+1)) 0==100)==(dr.getD (pp ps k) 0==100))) (some (.str ".")) (some (.str ""))=some (.str (w9 (pp ps k) (pp ps (k+1)))):=by unfold w9 Pp;cases(dr.getD (pp ps (k+1)) 0==100)==(dr.getD (pp ps k) 0==100)<;>rfl
 have hl:=ur R k (by lia);have ht:=text_len _ (R.at hk);have hs:(w9 (pp ps k) (pp ps (k+1))).length<=1:=by unfold w9;split<;>decide
 have Ik:(di ps k++w9 (pp ps k) (pp ps (k+1))).length<=100:=by rw[Tx.len_list]at hl hs ⊢;simp only[Str.cps_append,Array.toList_append,ZN];lia
 rw[e2,br,rM (by unfold aM;lia)];unfold eC;rw[NV,br,rM (by unfold aM;lia)];rfl
theorem KC (R:gn ps)(hP:N.P=ps.map eC):ev (bq G pat) ag (jC 23) (Jp N gr ls prs od grn)=some (.str (di ps 0)):=by rw[O3,hP];have:=qA R (show 0<6 by decide);rw[show((0:Nat):Int)=0 from rfl]at this;rw[this];unfold eC;rw[NV];rfl
theorem Ph:bG ((("bare":Str),.val (.str b'))::(("k":Str),.val d0)::(("bare":Str),.val (.str b))::R) ((("k":Str),.val d0)::(("bare":Str),.val (.str b'))::R):=fun z=>by
 by_cases h1:z="bare"
 ·subst h1;rw[au,ae (by decide),au]
 ·by_cases h2:z="k"
  ·subst h2;rw[ae h1,au,au]
  ·rw[ae h1,ae h2,ae h1,ae h2,ae h1]
theorem Cj (R:gn ps)(hP:N.P=ps.map eC):∃V' d0,cQ (jT (bq G pat) (iY G pat) ag (aU (aY 24)) (bK (aY 24))) [.int 1,.int 2,.int 3,.int 4,.int 5] (DA N gr ls prs od grn (di ps 0))=some (.next V')/\bG V' ((("k":Str),.val d0)::DA N gr ls prs od grn (di ps 5)):=by
 refine jz (fQ (Φ:=bq G pat) (Ψ:=iY G pat) (sc:=ag) (t:="k") (te:=aU (aY 24)) (body:=bK (aY 24)) (α:=Str) ik LC (fun a=>DA N gr ls prs od grn a) (fun done a=>a=di ps done.length) (items:=[.int 1,.int 2,.int 3,.int 4,.int 5]) (fun done o rest a hi hI=>by
   subst hI;have hlen:done.length<5:=by have:=congrArg List.length hi;simp at this;lia
   have ho:o=.int ((done.length+1:Nat):Int):=by
    have h5:=congrArg (fun l=>l[done.length]?) hi;simp only[List.getElem?_append_right (ZQ _),Nat.sub_self,List.getElem?_cons_zero]at h5;have key:∀m,m<5->[Dat.int 1,Dat.int 2,Dat.int 3,Dat.int 4,Dat.int 5][m]?=some o->o=.int ((m+1:Nat):Int):=by intro m hm h5;match m,hm,h5 with|0,_,h5=>exact(Z9 h5).symm|1,_,h5=>exact(Z9 h5).symm|2,_,h5=>exact(Z9 h5).symm|3,_,h5=>exact(Z9 h5).symm|4,_,h5=>exact(Z9 h5).symm
    exact key _ hlen h5
   subst ho;have e1:=KA (G:=G) (pat:=pat) (N:=N) (gr:=gr) (ls:=ls) (prs:=prs) (od:=od) (grn:=grn) R hP (k:=done.length) (by lia);refine⟨di ps (done.length+1),(("bare":Str),.val (.str (di ps (done.length+1))))::(("k":Str),.val (.int ((done.length+1:Nat):Int)))::DA N gr ls prs od grn (di ps done.length),?_,Ph,by simp⟩;rw[LD,av (aC rfl (LF.trans (by rw[e1,cf];rfl)))];exact eP)
  _ [] (DA N gr ls prs od grn (di ps 0)) (di ps 0) none rfl (.refl _) rfl) fun V' J' a h1 hJ h2 h3=>?_
 have hs:=hJ (.inr (by simp));refine aJ (Option.isSome_iff_exists.mp hs) ?_;rintro d0 (rfl);subst h3;exact⟨V',d0,h1,h2⟩
theorem CS:∀l:List Nat,(∀p∈l,p<15)->lB (.list (l.flatMap bE)) (.list (l.flatMap bE))=some true:=by
 intro l hl;have key:dI (l.flatMap bE)=some (l.flatMap ey)/\PyData.eqvAll (l.flatMap ey) (l.flatMap ey)=true/\PyData.depthAll (l.flatMap ey)=0:=by
  induction l with
  |nil=>exact⟨rfl,by simp[PyData.eqvAll],rfl⟩
  |cons p l ih=>
   refine bg (ih fun x hx=>hl x (Z7 _ hx)) fun i1 i2 i3=>?_;have hp:=hl p Z6;refine aL (mF hp hp) fun q1 q2=>?_;rw[List.flatMap_cons,List.flatMap_cons];refine⟨oO i1 (nG hp),?_,?_⟩
   ·rw[iz rfl,q1,i2];simp
   ·rw[fZ,q2,i3];rfl
 unfold lB;rw[wL key.1];dsimp only;rw[Z1 (by rw[PyData.depth,key.2.2];decide),PyData.eqv,key.2.1]
def UC (d:Dat):List Dat:=(qT (((qT d).getD []).getD 1 .none)).getD []
theorem Kz (R:gn ps)(hc:ps∈uw)(hP:N.P=ps.map eC)(yc:G.gl=Ep)(zW:G.gv=F2 jA):ev (bq G pat) ag (eH (aY 25)) ((("k":Str),.val d0)::DA N gr ls prs od grn (di ps 5))=some (.bool true):=by
 have h:=Zw Gx ps hc;unfold Kk at h;simp only[ZR,decide_eq_true_eq,List.all_eq_true]at h;refine mu h fun h1 h2 h3 h4=>?_;have hs:Tx.Small [di ps 5]:=⟨by show 1<=200;decide,fun y hy=>by rw[List.mem_singleton.mp hy];exact⟨h3,h4⟩⟩;refine ax (Tx.AK (stg:=jA) hs fun y hy=>by rw[List.mem_singleton.mp hy];exact h2) fun v e1 e2=>?_;rw[List.flatMap_singleton,ia h1]at e2;have e3:Ep [.str (di ps 5)]=some (.str v):=by show(strsOf [.str (di ps 5)]).bind (fun ys=>(JD ys).map Dat.str)=_;show(JD [di ps 5]).map Dat.str=_;rw[e1];rfl
 have hit:bb (.list (ps.map eC))=some (ps.map eC):=rfl;have e4:gL (some (.list (ps.map eC))) (fun d=>bind1 (dc (some d) (some (.int 1))) fun x=>kX (some x))=some (.list (ps.flatMap bE)):=by
  unfold gL;rw[ZV,hit,ZV,ke (g:=UC) (fun d hd=>?_),ZV]
  ·unfold yt;have:(ps.map eC).flatMap UC=ps.flatMap bE:=by rw[List.flatMap_map];rfl
   rw[this,Z1];have hlen:∀l:List Nat,(l.flatMap bE).length=2*l.length:=by intro l;induction l with|nil=>rfl|cons p l ih=>rw[List.flatMap_cons,ZN,ih,List.length_cons];show 2+_=_;lia
   rw[hlen,R.p6];decide
  ·refine ax (Zx hd) ?_;rintro p _ (rfl);unfold eC;rw[NU];show cG (fun x=>kX (some x)) (bE p)=some (bE p);have:=qO (f:=fun x=>kX (some x)) (g:=id) (l:=bE p) fun a z=>rfl;rw[this,List.map_id]
 rw[O2,fS,yc,e3,fS,zW,e2,hP,e4];unfold Gd;rw[ZV,ZV];show(lB (.list (ps.flatMap bE)) (.list (ps.flatMap bE))).bind Gk=_;rw[CS ps R.Np];rfl
end
section
variable {pat:Addr} {G:Gs} {fuel:Nat} {sc ws W P L D gs cs td gr ls prs od fw grn:List Dat} {row o:Int} {t T:List UInt8} {j J gl K:Dat} {ps ns aA:List Nat} {Ψ:nz} {y:Str} {s f:Dat} {N:Dm}
def EU:List Stmt:=[aY 14,aY 15,aY 16,.If (aQ (aY 17)) (cu (aY 17)) [] (iI (aY 17)),.If (aQ (aY 18)) (cu (aY 18)) [] (iI (aY 18)),aY 19,.If (aQ (aY 20)) (cu (aY 20)) [] (iI (aY 20)),aY 21,.If (aQ (aY 22)) (cu (aY 22)) [] (iI (aY 22)),aY 23,.For (aU (aY 24)) (bj (aY 24)) (bK (aY 24)) [] (cK (aY 24)),.Return (some (eH (aY 25))) (ir (aY 25))]
theorem pT {i:Nat}{V:az}{q:Pos}{bs:List Stmt}(h:dO (bq G pat) ag (aQ (aY i)) V (ev (bq G pat) ag (aQ (aY i)) V)=some false):ex (bq G pat) (iY G pat) ag (.If (aQ (aY i)) bs [] q) V=some (.next V):=(o7 (c:=false) (hU h)).trans eP
theorem H5 (F:nh ps ns aA)(R:gn ps)(hn:aA.Nodup)(hc:ps∈uw)(Ny:G.gb=Ki)(Nx:G.gg=o5)(yc:G.gl=Ep)(zW:G.gv=F2 jA)(pV:15<=t.length)(Wu:t.length<=aM):bT (bq G pat) (iY G pat) ag EU (wx 0 (some (s,f)) [.list (bF ps aA 2),.list (bF ps aA 0)] K gl J j cs gs x T sc ws row (ps.map eC) L (aw aA) t)=some (.ret (.bool true)):=by let N:Dm:=⟨s,f,[.list (bF ps aA 2),.list (bF ps aA 0)],K,gl,J,j,cs,gs,x,T,sc,ws,row,ps.map eC,L,aw aA,t⟩;have Yg:ex (bq G pat) (iY G pat) ag (aY 15) (GK N (bF ps aA 2) (bF ps aA 0))=some (.next (Kq N (bF ps aA 2) (bF ps aA 0) (cF ps aA))):=Lv.trans (by rw[KN F,cf];rfl);have ho:=mK F R;have Vs:=KY (G:=G) (pat:=pat) (N:=N) (gr:=bF ps aA 2) (ls:=bF ps aA 0) (prs:=cF ps aA) (KL F) ho.1;rw[D7 F R hn]at Vs;have Ye:=KJ (G:=G) (pat:=pat) (N:=N) (gr:=bF ps aA 2) (ls:=bF ps aA 0) (prs:=cF ps aA) F hn R rfl;have Yd:=KI (G:=G) (pat:=pat) (N:=N) (gr:=bF ps aA 2) (ls:=bF ps aA 0) (prs:=cF ps aA) (od:=aw (bW ps aA)) Ny pV Wu;have jH:=KH (G:=G) (pat:=pat) (N:=N) (gr:=bF ps aA 2) (ls:=bF ps aA 0) F R hn Nx;have jG:ex (bq G pat) (iY G pat) ag (aY 21) (Kp N (bF ps aA 2) (bF ps aA 0) (cF ps aA) (aw (bW ps aA)))=some (.next (Jp N (bF ps aA 2) (bF ps aA 0) (cF ps aA) (aw (bW ps aA)) (aw (pW (bJ aA) [])))):=Lu.trans (by rw[KG F R Nx,cf];rfl);have Yc:=KD (G:=G) (pat:=pat) (N:=N) (gr:=bF ps aA 2) (ls:=bF ps aA 0) (prs:=cF ps aA) (od:=aw (bW ps aA)) F hn;have Yb:ex (bq G pat) (iY G pat) ag (aY 23) (Jp N (bF ps aA 2) (bF ps aA 0) (cF ps aA) (aw (bW ps aA)) (aw (pW (bJ aA) [])))=some (.next (DA N (bF ps aA 2) (bF ps aA 0) (cF ps aA) (aw (bW ps aA)) (aw (pW (bJ aA) [])) (di ps 0))):=Ls.trans (by rw[KC R rfl,cf];rfl);refine eZ (Cj (G:=G) (pat:=pat) (N:=N) (gr:=bF ps aA 2) (ls:=bF ps aA 0) (prs:=cF ps aA) (od:=aw (bW ps aA)) (grn:=aw (pW (bJ aA) [])) R rfl) fun V' d0 XX V5=>?_;have X9:ex (bq G pat) (iY G pat) ag (.For (aU (aY 24)) (bj (aY 24)) (bK (aY 24)) [] (cK (aY 24))) (DA N (bF ps aA 2) (bF ps aA 0) (cF ps aA) (aw (bW ps aA)) (aw (pW (bJ aA) [])) (di ps 0))=some (.next V'):=(gk rfl HR (by rfl)).trans XX;have X8:=Kz (G:=G) (pat:=pat) (N:=N) (gr:=bF ps aA 2) (ls:=bF ps aA 0) (prs:=cF ps aA) (od:=aw (bW ps aA)) (grn:=aw (pW (bJ aA) [])) (d0:=d0) R hc rfl yc zW;unfold EU;refine(av (aC rfl KZ)).trans ?_;refine(av (aC rfl Yg)).trans ?_;refine(av (cE Vs)).trans ?_;refine(av (aC rfl (pT Ye))).trans ?_;refine(av (aC rfl (pT Yd))).trans ?_;refine(av (aC rfl O8)).trans ?_;refine(av (aC rfl (pT jH))).trans ?_;refine(av (aC rfl jG)).trans ?_;refine(av (aC rfl (pT Yc))).trans ?_;refine(av (aC rfl Yb)).trans ?_;refine(av (aC rfl X9)).trans ?_;refine hH (Ψ:=iY G pat) ik V5 ?_;exact eO (aC rfl (gw (kr X8))) (fun v q=>by rcases q with⟨⟩)
def JK:List Stmt:=aY 7::aY 8::aY 9::aY 10:: .For (aU (aY 11)) (bj (aY 11)) dm [] (cK (aY 11))::aY 12:: .For (aU (aY 13)) (bj (aY 13)) cP [] (cK (aY 13))::EU
theorem H4 (F:nh ps ns aA)(R:gn ps)(hn:aA.Nodup)(hc:ps∈uw)(Ny:G.gb=Ki)(Nx:G.gg=o5)(yc:G.gl=Ep)(zW:G.gv=F2 jA):bT (bq G pat) (iY G pat) ag JK (T6 (some J) (some j) sc (aw ns) row (ps.map eC) L (aw aA) (lg ps aA ns))=some (.ret (.bool true)):=by
 revert pat G F R hn hc Ny Nx yc zW;refine no_implicit_lambda% (Nj (b8 (b8 (b8 GS GS) inferInstance) inferInstance) ?_ J j ps ns aA sc row L);generalize jF _ _=tt;dsimp only[K8];generalize tt.1.1.1=J,tt.1.1.2=j,tt.1.2.1=ps,tt.1.2.2=ns,tt.2.1.1=aA,tt.2.1.2=sc,tt.2.2.1=row,tt.2.2.2=L;intro pat G F R hn hc Ny Nx yc zW;have GX:=wO F.good;rw[F.uF]at GX;rw[y5];generalize ht:((fT ps aA ns).map fun w=>B8 w.flatten).flatten=t at GX;have jm:(aP ps aA ns).flatten.length=60*5:=by rw[gJ fun c hc=>(F.rG c hc).1,F.F4]
 have e7:ex (bq G pat) (iY G pat) ag (aY 7) (T6 (some J) (some j) sc (aw ns) row (ps.map eC) L (aw aA) t)=some (.next ((("turned":Str),.val (.bytes (B8 (aP ps aA ns).flatten)))::T6 (some J) (some j) sc (aw ns) row (ps.map eC) L (aw aA) t)):=by have h:=NS (G:=G) (pat:=pat) (J:=some J) (j:=some j) (sc:=sc) (ws:=aw ns) (row:=row) (P:=ps.map eC) (L:=L) (D:=aw aA) Ny F.good (by rw[F.uF];decide);rw[ht]at h;exact OR.trans (by rw[h,cf];rfl)
 have e8:ex (bq G pat) (iY G pat) ag (aY 8) ((("turned":Str),.val (.bytes (B8 (aP ps aA ns).flatten)))::T6 (some J) (some j) sc (aw ns) row (ps.map eC) L (aw aA) t)=some (.next ((("text":Str),.val (.str ⟨(aP ps aA ns).flatten.toArray⟩))::(("turned":Str),.val (.bytes (B8 (aP ps aA ns).flatten)))::T6 (some J) (some j) sc (aw ns) row (ps.map eC) L (aw aA) t)):=by have h:=NR (G:=G) (pat:=pat) (J:=some J) (j:=some j) (sc:=sc) (ws:=aw ns) (row:=row) (P:=ps.map eC) (L:=L) (D:=aw aA) (t:=t) (l:=(aP ps aA ns).flatten) (by rw[jm];decide) (fun c hc=>by refine ax (List.mem_flatten.mp hc) fun w hw P8=>?_;exact(F.rG w hw).2 c P8);exact OQ.trans (by rw[h,cf];rfl)
 have e9:ex (bq G pat) (iY G pat) ag (aY 9) ((("text":Str),.val (.str ⟨(aP ps aA ns).flatten.toArray⟩))::(("turned":Str),.val (.bytes (B8 (aP ps aA ns).flatten)))::T6 (some J) (some j) sc (aw ns) row (ps.map eC) L (aw aA) t)=some (.next (V9 (some J) (some j) (cz ns) ⟨(aP ps aA ns).flatten.toArray⟩ (B8 (aP ps aA ns).flatten) sc (aw ns) row (ps.map eC) L (aw aA) t)):=by have h:=NQ (G:=G) (pat:=pat) (J:=some J) (j:=some j) (sc:=sc) (row:=row) (P:=ps.map eC) (L:=L) (D:=aw aA) (t:=t) (T:=B8 (aP ps aA ns).flatten) (x:=⟨(aP ps aA ns).flatten.toArray⟩) F.Sa (by rw[F.OJ];decide);exact OP.trans (by rw[h,cf];rfl)
 have lF:ex (bq G pat) (iY G pat) ag (aY 10) (V9 (some J) (some j) (cz ns) ⟨(aP ps aA ns).flatten.toArray⟩ (B8 (aP ps aA ns).flatten) sc (aw ns) row (ps.map eC) L (aw aA) t)=some (.next (BC (some J) (some j) [] (cz ns) ⟨(aP ps aA ns).flatten.toArray⟩ (B8 (aP ps aA ns).flatten) sc (aw ns) row (ps.map eC) L (aw aA) t)):=Ly;refine jz (Cm (G:=G) (pat:=pat) (J:=some J) (j:=some j) (sc:=sc) (ws:=aw ns) (row:=row) (P:=ps.map eC) (L:=L) (D:=aw aA) (t:=t) (T:=B8 (aP ps aA ns).flatten) F.Sa F.OJ (fun c hc=>(F.rG c hc).1) F.F4) fun V' K gl hK Th Qp V7=>?_;have Yi:ex (bq G pat) (iY G pat) ag (.For (aU (aY 11)) (bj (aY 11)) dm [] (cK (aY 11))) (BC (some J) (some j) [] (cz ns) ⟨(aP ps aA ns).flatten.toArray⟩ (B8 (aP ps aA ns).flatten) sc (aw ns) row (ps.map eC) L (aw aA) t)=some (.next V'):=(gk rfl HW (dp (n:=60) (by decide))).trans Qp;refine aJ (Option.isSome_iff_exists.mp hK) ?_;rintro K (rfl);refine aJ (Option.isSome_iff_exists.mp Th) ?_;rintro gl (rfl);refine jJ (Ck (G:=G) (pat:=pat) (K:=K) (gl:=gl) (J:=J) (j:=j) (x:=⟨(aP ps aA ns).flatten.toArray⟩) (T:=B8 (aP ps aA ns).flatten) (sc:=sc) (ws:=aw ns) (row:=row) (P:=ps.map eC) (L:=L) (D:=aw aA) (t:=t) F yc zW) fun W s f XY V6=>?_;have Yh:ex (bq G pat) (iY G pat) ag (.For (aU (aY 13)) (bj (aY 13)) cP [] (cK (aY 13))) ((("told":Str),.own (.list []))::RB K gl J j (en (aP ps aA ns) ns) (cz ns) ⟨(aP ps aA ns).flatten.toArray⟩ (B8 (aP ps aA ns).flatten) sc (aw ns) row (ps.map eC) L (aw aA) t)=some (.next W):=(gk rfl HU (by rfl)).trans XY;unfold JK;refine(av (aC rfl e7)).trans ?_;refine(av (aC rfl e8)).trans ?_;refine(av (aC rfl e9)).trans ?_;refine(av (aC rfl lF)).trans ?_;refine(av (aC rfl Yi)).trans ?_;refine hH (Ψ:=iY G pat) ik V7 ?_;refine(av (aC rfl Lx)).trans ?_;refine(av (aC rfl Yh)).trans ?_;refine hH (Ψ:=iY G pat) ik V6 ?_;exact H5 F R hn hc Ny Nx yc zW (bC 0xfa10fa14d022 rfl GX) (by unfold aM;exact bC 0xf42408f010fa14d022 rfl GX)
theorem Pc:ev (bq G pat) ag (jC 0) (bB ["script"] [.list sc])=kB G.gd (some (.list sc)):=by rfl
theorem Pd:bp ag (we (aY 0)) (.tuple [.list ws,.int row]) (bB ["script"] [.list sc])=some (C0 sc ws row):=by rfl
theorem O7:ev (bq G pat) ag (jC 1) (C0 sc ws row)=kB G.gp (some (.int row)):=by rfl
def GL (pat:Addr):Gs:=⟨vX pat,vb pat,uj,o5,Ki,Ep,F2 jA⟩
theorem H3 {is:List Int}(hl:is.length<=63):bT (bq (GL pat) pat) (iY (GL pat) pat) ag nS (bB ["script"] [.list (is.map .int)])=some (.ret (.bool true)):=by
 refine Bw (FT (pat:=pat) hl) fun wi row d1 d2 d3 d4 d5=>?_;refine yR (Ez (pat:=pat) row) fun ps p1 p2 y0 p5=>?_;refine aL y0 fun p3 p4=>?_;obtain⟨ns,fO⟩:∃ns:List Nat,wi=ns.map fun k:Nat=>(k:Int):=⟨wi.map Int.toNat,by rw[ZH];refine(List.map_id wi).symm.trans (ZF fun a ha=>?_);have:=(d3 a ha).1;simp;exact ni 0x80fcf0f90f882 rfl this⟩;have Ra:wi.map Dat.int=aw ns:=by rw[fO,ZH];rfl
 have Ff:ns.length=20:=by rw[fO,Z2]at d2;exact d2
 have PO:∀n∈ns,n<1440:=fun n hn=>by have:=(d3 (n:Int) (by rw[fO];exact List.mem_map_of_mem hn)).2;exact bC 0x5a08f00000005a08f0af72 rfl this
 rw[Ra]at d1;refine G5 (EP (G:=GL pat) (pat:=pat) (sc:=is.map .int) (ws:=aw ns) (row:=row) rfl p2 p4 PO Ff) fun V' J j aA L h6 l6 y0=>?_;refine mu y0 fun A9 J6 hJ hj=>?_;refine aJ (Option.isSome_iff_exists.mp hJ) ?_;rintro J (rfl);refine aJ (Option.isSome_iff_exists.mp hj) ?_;rintro j (rfl);have hL:L=[]:=by have:=A9.length_eq;rw[ZN,J6,List.length_range]at this;exact List.length_eq_zero_iff.mp (bC 0x80214a014ab22 rfl this)
 subst hL;rw[Zz]at A9;have F:nh ps ns aA:=⟨p2,p4,Ff,PO,J6,fun d hd=>Zv (A9.mem_iff.mp hd)⟩;have PQ:aA.Nodup:=A9.nodup_iff.mpr List.nodup_range;rw[HP];refine(av (vars':=C0 (is.map .int) (aw ns) row) (aC rfl (OW.trans (by rw[Pc];show Gy _ _ (kB (vX pat) _) _ _=_;rw[fS,d1,Dg,Pd];rfl)))).trans ?_;refine(av (aC rfl (OV.trans (by rw[O7];show k9 _ _ (kB (vb pat) _) _ _=_;rw[fS,p1,cf];rfl)))).trans ?_;refine(av (aC rfl (OU.trans (by rw[Si,cf];rfl)))).trans ?_;refine(av (aC rfl Sh)).trans ?_;refine(av (aC rfl OT)).trans ?_;refine(av (aC rfl OS)).trans ?_;refine(av (aC rfl ((gk rfl LA rfl).trans h6))).trans ?_;refine hH (Ψ:=iY (GL pat) pat) ik l6 ?_;exact H4 F ⟨p2,p4,p3⟩ PQ (I6 p2 p5) rfl rfl rfl rfl
end
section
variable {pat c:Addr} {cd:Value}
theorem QA:oG ef:=⟨rfl,rfl,rfl,by decide +kernel,by decide +kernel⟩
theorem Oe:oG ct:=⟨rfl,rfl,rfl,by decide +kernel,by decide +kernel⟩
theorem QL:oG pY:=⟨rfl,rfl,rfl,by decide +kernel,by decide +kernel⟩
theorem Qq:oG bP:=⟨rfl,rfl,rfl,by decide +kernel,by decide +kernel⟩
theorem OO:oG ag:=⟨rfl,rfl,rfl,by decide +kernel,by decide +kernel⟩
theorem QB (hC:C.Plain)(hp:Re.gf C.h₀ pat c)(hg:C.mg "_twin_re_1"=some (.ref pat))(hD:eY C "_law_draws" (argsAt pw 9) dW ef cd):ti C (n+1) "_law_draws" (vX pat):=by refine z6 (Φ:=b0 pat 0) (Ψ:=fK) hC (fun fr=>ko (hC.at fr) hp hg) rfl hD (by decide) (fun fr=>fH.none) QA (xs:=[("script":Str)]) (by decide) (by decide +kernel) (fun vs pm doc hl=>?_) mB;refine aJ (Qy hl.symm) ?_;rintro v (rfl);rfl
theorem Of (hC:C.Plain)(hp:Re.gf C.h₀ pat c)(hg:C.mg "_twin_re_1"=some (.ref pat))(hD:eY C "_law_parts" (argsAt pw 10) bU ct cd):ti C (n+1) "_law_parts" (vb pat):=by refine z6 (Φ:=b0 pat 0) (Ψ:=fK) hC (fun fr=>ko (hC.at fr) hp hg) rfl hD (by decide) (fun fr=>fH.none) Oe (xs:=[("drawn":Str)]) (by decide) (by decide +kernel) (fun vs pm doc hl=>?_) mB;refine aJ (Qy hl.symm) ?_;rintro v (rfl);rfl
theorem QM (hC:C.Plain)(hD:eY C "_law_cell" (argsAt pw 11) Ap pY cd):ti C (n+1) "_law_cell" uj:=by refine z6 (Φ:=rW) (Ψ:=fK) hC (fun fr=>FD (hC.at fr)) rfl hD (by decide) (fun fr=>fH.none) QL (xs:=[("part":Str),"way"]) (by decide) (by decide +kernel) (fun vs pm doc hl=>?_) mB;refine jK (Rv hl.symm) ?_;rintro v u (rfl);rfl
theorem Qr (hC:C.Plain)(hD:eY C "_law_growth" (argsAt pw 12) cJ bP cd):ti C (n+1) "_law_growth" o5:=by refine z6 (Φ:=rW) (Ψ:=fK) hC (fun fr=>FD (hC.at fr)) rfl hD (by decide) (fun fr=>fH.none) Qq (xs:=[("order":Str),"pairs"]) (by decide) (by decide +kernel) (fun vs pm doc hl=>?_) mB;refine jK (Rv hl.symm) ?_;rintro v u (rfl);rfl
def Pf (x:Dat):Option Dat:=match x with
 | .list _| .tuple _| .range _ _ _=>(match bb x with|some es=>if es.length<=aM then some (.list es)else none|none=>none)
 |_=>none
theorem Cb (h:newD "list" ds=some d):∃es,d=.list es:=by
 have k:∀{o:Option (List Dat)},(match o with|some es=>if es.length<=aM then some (Dat.list es)else none|none=>none)=some d->∃es,d=.list es:=fun{o}h=>by
  rcases o with⟨⟩
  ·exact aa h
  ·exact aI h fun _ h=>⟨_,(Z9 h).symm⟩
 rcases ds with⟨⟩|⟨x,⟨⟩⟩
 ·exact aa h
 ·replace h:Pf x=some d:=(show newD "list" [x]=Pf x by kernel_rfl).symm.trans h;rcases x with⟨⟩<;>first|exact aa h|exact aI h fun _ h=>⟨_,(Z9 h).symm⟩|exact k (o:=bb _) h
 ·exact aa h
theorem Gu (hC:C.Plain):gR C n "list" A2:=by
 have hb:C.mb "list"=some (.type "list"):=hC.b (by kernel_rfl);refine⟨.type "list",hC.none _ (by decide),hb,by decide,nofun,fun{A s vol vs ds d}hA bs V rs h=>?_⟩;refine uB (xy (n:=n) hC (show newD "list" ds=some d from h)) fun v h1 h2 h3 h4 h5=>?_;obtain rfl:Value.type "list"=v:=by rw[hb]at h2;exact Z9 h2
 intro E Q q;refine h5 hA bs V rs fun a s1 x ha hsz r=>q _ _ x ?_;refine aJ (Cb h) ?_;rintro es (rfl);refine cL (bI r) fun a' o us k e ho hc y0=>?_;refine bg y0 fun hn hd hr=>?_;rcases e with⟨⟩;exact .list (V.new ha) ho hc hn hd (hr.mono fun b o e nn=>⟨e,fun q=>nn (.inl q)⟩)
theorem MJ (hC:C.Plain)(hp:Re.gf C.h₀ pat c)(hg:C.mg "_twin_re_1"=some (.ref pat)):b7 C (RG pat) n where
 fn h:=aa h;rO {f g} h:=by
  unfold RG at h;dsimp only at h;split at h
  ·rename_i e;subst e;obtain rfl:=Z9 h;exact Gu hC
  ·exact(ko (fuel:=0) hC hp hg).rO h
 glob:=(ko (n:=n) (fuel:=0) hC hp hg).glob;nQ:=(ko (n:=n) (fuel:=0) hC hp hg).nQ
structure Top (C:Cx) (pat:Addr):Prop where
 plain:C.Plain
 bm:∃bm ob,BMod C.h₀ mainGlobals C.mg bm ob
 rx:∃c,Re.gf C.h₀ pat c
 xh:C.mg "_twin_re_1"=some (.ref pat)
 stg:∃d,Bt C "_ver_stages" d jA
 cv:∃cd,eY C "_comparable_version" (argsAt pw 4) dX bt cd
 bs:∃cd,eY C "_byteswap" (argsAt pw 7) dC bZ cd
 dw:∃cd,eY C "_law_draws" (argsAt pw 9) dW ef cd
 pt:∃cd,eY C "_law_parts" (argsAt pw 10) bU ct cd
 ce:∃cd,eY C "_law_cell" (argsAt pw 11) Ap pY cd
 gr:∃cd,eY C "_law_growth" (argsAt pw 12) cJ bP cd
 pl:∃(a P:Addr)(p:Pos),p.line=(lW (ak ay 0)).line/\p.col=(lW (ak ay 0)).col/\eW C a P p "_platform.<locals>.<genexpr>"/\eY C "_platform" (argsAt pw 5) ay aF (.ref a)
 lw:∃(a P:Addr)(p:Pos),p.line=100/\p.col=34/\eW C a P p "law.<locals>.<lambda>"/\eY C "law" (argsAt pw 13) nS ag (.ref a)
theorem Top.at (T:Top C pat)(fr:Addr->Prop):Top (C.at fr) pat:=let⟨a,P,p,h1,h2,h3,h4⟩:=T.pl;let⟨a',P',p',G1,CJ,Qn,Qm⟩:=T.lw;let⟨d,g1,g2,g3,g4⟩:=T.stg;⟨T.plain.at fr,T.bm,T.rx,T.xh,⟨d,g1,g2,g3,g4⟩,T.cv,T.bs,T.dw,T.pt,T.ce,T.gr,⟨a,P,p,h1,h2,⟨h3.mem,h3.code,h3.uniq⟩,h4⟩,⟨a',P',p',G1,CJ,⟨Qn.mem,Qn.code,Qn.uniq⟩,Qm⟩⟩
theorem vI (T:Top C pat):b7 C (bq (GL pat) pat) (n+1):=by refine aJ T.rx fun c hp=>?_;refine jz T.pl fun a P p h1 h2 h3 h4=>?_;refine aJ T.stg fun d hT=>?_;refine aJ T.dw fun x k1=>?_;refine aJ T.pt fun x k2=>?_;refine aJ T.ce fun x k3=>?_;refine aJ T.gr fun x k4=>?_;refine aJ T.bs fun x k5=>?_;refine aJ T.cv fun x k6=>?_;exact((((((((MJ T.plain hp T.xh).and (QB T.plain hp T.xh k1)).and (Of T.plain hp T.xh k2)).and (QM T.plain k3)).and (Qr T.plain k4)).and (QP T.plain hp T.xh k5)).and (Ow T.plain T.bm hp T.xh h1 h2 h3 h4)).and (QH T.plain hp T.xh hT k6))
theorem LX (T:Top C pat):ti C 4 "law" (uS (bq (GL pat) pat) (iY (GL pat) pat) ag nS ["script"]):=by
 refine jz T.lw fun a P p h1 h2 h3 h4=>?_;refine z6 (n:=3) (Φ:=bq (GL pat) pat) (Ψ:=iY (GL pat) pat) T.plain (fun fr=>vI (T.at fr)) rfl h4 (by decide) (fun fr=>?_) OO (xs:=[("script":Str)]) (by decide) (by decide +kernel) (fun vs pm doc hl=>?_) mB
 ·exact @qj (C.at fr) 3 (lO (C.at fr) (.ref a) "law") _ ⟨Hn (T.at fr).plain.ok xt (vI (T.at fr)) (by decide) rfl rfl,uN (n:=1) (T.at fr).plain T.bm (fun fr=>xt) (fun X1=>vI ((T.at fr).at X1)) xt (vI (T.at fr)) (c:=a) (P:=P) (p:=p) (q:="law.<locals>.<lambda>") (name:="law") ⟨h3.mem,h3.code,h3.uniq⟩ rfl h1.symm h2.symm rfl rfl rfl rfl,trivial⟩
 ·refine aJ (Qy hl.symm) ?_;rintro v (rfl);rfl
theorem EZ (T:Top C pat){A:Around}{s:Shared}{vol:Addr->Prop}{is:List Int}{a:Addr}{v:Value}(hg:C.mg "law"=some (.ref a))(hA:cV C 4 A)(bs:Bs C s)(V:aW C vol s)(r:Rep s.heap vol v (.list (is.map .int)))(hl:is.length<=63):dY C A vol (PySem.call (.ref a) [v]) (.bool true) s:=by refine uA (LX T) fun b o fd h1 h2 h3 h4 y0=>?_;refine aL y0 fun h5 h6=>?_;rw[h1]at hg;rcases hg with⟨⟩;exact h6 hA bs V (.cons r .nil) (pR rfl (H3 hl))
end
section
open PySem.Spec PySem.Calls
noncomputable def N5:List (Str×Tok×Int×Tok):=[("dev",331,10,332),("alpha",333,20,334),("a",335,20,336),("beta",337,30,338),("b",339,30,340),("c",341,40,342),("RC",343,50,344),("rc",345,50,346),("pl",347,200,348),("p",349,200,350)]
noncomputable def entryOf (P:Params)(e:Str×Tok×Int×Tok):DictEntry:={hash:=PyData.keyHash P e.1,key:=.str e.1 e.2.1,val:=.int e.2.2.1 e.2.2.2}
def RY (P:Params):Obj:=⟨.type "dict",none,.dict (N5.map (entryOf P)).toArray 10,#[]⟩
noncomputable def OE:Obj:={cls:=.type "re.Pattern",data:=.fields #[.str "([0-9]+|[._+-])" 285,.int 32 329,.int 1 0,.none,.none,.ref 35,.int 0 0]}
def QJ:Obj:={cls:=.type "tuple",data:=.seq (Re.code.map fun n:Nat=>Value.int (n:Int) 0)}
theorem zJ (P:Params):∀l:List (Str×Tok×Int×Tok),KeysLit P (l.map (entryOf P)):=by intro l;induction l with|nil=>exact trivial|cons e r ih=>exact⟨⟨e.1,e.2.1,rfl,rfl⟩,ih⟩
theorem FF (P:Params)(x:Str):∀l:List (Str×Tok×Int×Tok),(findBy Value.isStrOf (l.map (entryOf P)).toArray x=none/\(l.map fun e=>(e.1,e.2.2.1)).lookup x=none)\/∃k t,findBy Value.isStrOf (l.map (entryOf P)).toArray x=some (.int k t)/\(l.map fun e=>(e.1,e.2.2.1)).lookup x=some k:=by
 intro l;induction l with
 |nil=>exact .inl ⟨rfl,rfl⟩
 |cons e r vz=>
  have ih:=vz;unfold findBy at ih ⊢;rw[List.find?_toArray]at ih ⊢;rw[ZI,ZI,ZS,List.find?_cons];have hk:Value.isStrOf x (entryOf P e).key=(x==e.1):=by show(e.1==x)=(x==e.1);rw[Bool.eq_iff_iff,beq_iff_eq,beq_iff_eq];exact eq_comm
  rw[hk];cases x==e.1 with|true=>exact .inr ⟨_,_,rfl,rfl⟩|false=>exact ih
structure Facts (q:Program) (loose:List Str) (K:Params->Frag):Prop where
 free:Kc q (looseW q loose)=true
 r4:eU q pw "_comparable_version" 4
 r5:eU q pw "_platform" 5
 r7:eU q pw "_byteswap" 7
 r9:eU q pw "_law_draws" 9
 UB:eU q pw "_law_parts" 10
 UA:eU q pw "_law_cell" 11
 Uz:eU q pw "_law_growth" 12
 Uy:eU q pw "law" 13
 cls:∀P,([("_comparable_version":Str),"_platform","_byteswap","_law_draws","_law_parts","_law_cell","_law_growth","law"].all fun f=>vY (K P) f)=true
 t5:∀P,tabIn (K P) "_platform"=some (50,46)
 Uv:∀P,tabIn (K P) "law"=some (86,84)
 n1:∀P,nsIn (K P) mainGlobals "_twin_re_1"=some (some (.ref 36))
 n2:∀P,nsIn (K P) mainGlobals "_ver_stages"=some (some (.ref 37))
 UE:∀P,(K P).lookup 36=some OE
 UG:∀P,(K P).lookup 35=some QJ
 UD:∀P,(K P).lookup 37=some (RY P)
def qk:List (Addr×Addr×Pos×Str):=[(50,46,lW (ak ay 0),"_platform.<locals>.<genexpr>"),(86,84,⟨100,34,0,0⟩,"law.<locals>.<lambda>")]
theorem RT {K:Params→Frag} (F:Facts q loose K) (T:PyProof.Rows.Top q (looseW q loose) zB mg mb s.heap) (X:(K w.params).In s.heap):
  Top (rC pw w s mg mb qk) 36∧∀c P p z,(c,P,p,z)∈qk→s.heap.TableAt c P #[]∧P≠cStatics∧P≠mainGlobals∧P≠builtinsNs:=by
 have hc:=fun f hf=>Zw (F.cls w.params) f hf
 refine bg (wU (C:=rC pw w s mg mb qk) rfl rfl T X F.r5 (hc _ (by simp)) (F.t5 _)) fun p1 p2 p3=> ?_
 refine bg (wU (C:=rC pw w s mg mb qk) rfl rfl T X F.Uy (hc _ (by simp)) (F.Uv _)) fun l1 l2 l3=> ?_
 have ht:∀c P p z,(c,P,p,z)∈qk→s.heap.TableAt c P #[]∧P≠cStatics∧P≠mainGlobals∧P≠builtinsNs:=by
  intro c P p z m
  unfold qk at m
  refine Z4 (Zy m) (fun e=> ?_) fun m=> ?_
  ·rcases e with ⟨⟩;exact ⟨p3,by decide,by decide,by decide⟩
  refine Z4 (Zy m) (fun e=> ?_) fun m=> ?_
  ·rcases e with ⟨⟩;exact ⟨l3,by decide,by decide,by decide⟩
  ·rcases m with ⟨⟩
 refine ⟨?_,ht⟩
 exact {
  plain:=Ej T F.free ht
  bm:=bmod_of_top T
  rx:=⟨35,⟨OE,_,X _ _ (F.UE _),rfl,rfl,rfl,by decide +kernel,by decide +kernel,by decide +kernel⟩,⟨QJ,_,_,X _ _ (F.UG _),rfl,rfl,by decide +kernel⟩⟩
  xh:=mg_of X T.g (F.n1 _)
  stg:=⟨37,⟨_,mapOf_K X (F.UD _) (zJ _ _),fun x=>FF _ x N5⟩,by decide,mg_of X T.g (F.n2 _),by decide⟩
  cv:=iN rfl rfl T X F.r4 (hc _ (by simp))
  bs:=iN rfl rfl T X F.r7 (hc _ (by simp))
  dw:=iN rfl rfl T X F.r9 (hc _ (by simp))
  pt:=iN rfl rfl T X F.UB (hc _ (by simp))
  ce:=iN rfl rfl T X F.UA (hc _ (by simp))
  gr:=iN rfl rfl T X F.Uz (hc _ (by simp))
  pl:=⟨50,46,_,rfl,rfl,⟨.head _,p2,fun c' p' q' m=>by
   refine Z4 (Zy m) (fun e=> ?_) fun m=> ?_
   ·rcases e with ⟨⟩;exact ⟨rfl,rfl⟩
   refine Z4 (Zy m) (fun e=> ?_) fun m=> ?_
   ·rcases e with ⟨⟩
   ·rcases m with ⟨⟩⟩,p1⟩
  lw:=⟨86,84,_,rfl,rfl,⟨.tail _ (.head _),l2,fun c' p' q' m=>by
   refine Z4 (Zy m) (fun e=> ?_) fun m=> ?_
   ·rcases e with ⟨⟩
   refine Z4 (Zy m) (fun e=> ?_) fun m=> ?_
   ·rcases e with ⟨⟩;exact ⟨rfl,rfl⟩
   ·rcases m with ⟨⟩⟩,l1⟩}
theorem NO {q:Program}{loose:List Str}{XP:(Str->Option Value)->Heap->Prop}{d:DefRec}{kwd:List (Str×Expr)}{K:Params->Frag}{as:List Addr}{e:∀P,as=(K P).map (·.1)}{ts:List Addr}(F:Facts q loose K)(hn:d.name="law"):Kn q loose XP (kmHook K as e ts).says PySem.Challenge.rw_pk0032_03.row.toRowW d kwd fun f vs=>PySem.call f vs:=by intro w s₀ aB mg mb G Y fa o pm cd doc dV kV ho hd Be hD UZ hg args vals as yb Fj UT Wk YM;refine aL (RT F G.T (km_in_of Y)) fun T3 ht=>?_;rw[hn]at UZ;refine ax (Eh (l:=PySem.Challenge.rw_pk0032_03) (n:=63) rfl rfl yb) ?_;rintro is (rfl) hl;refine eB (DJ Wk) ?_;rintro a vs (rfl) ha hr;have PB:=fun c P p z m=>(ht c P p z m).1;have r:Rep aB.heap (rC pw w aB mg mb qk).T (.ref a) (.list (is.map .int)):=.list (fun⟨c,p,z,m⟩=>by have:=(PB _ _ _ _ m).2;rw[ha]at this;rcases this with⟨⟩) ha rfl rfl rfl (hr _);exact EZ T3 UZ C6 (QS hg PB) (NP PB) r hl _ _ fun v s' x rv=>IA (l:=PySem.Challenge.rw_pk0032_03) ht hg x rv
end
end L3
noncomputable abbrev KV:OpenRow:=PySem.Challenge.rw_pk0032_03.row
def pQ:Program:={pw with main:={pw.main with body:=[0,2,3,4,5,7,9,10,11,12,13].filterMap (pw.main.body[·]?)}}
def theDef:DefRec:=((defOf pQ "law").get (by kernel_rfl)).1
end Mine.Internal
local macro_rules
  | `(tactic| o_head $H) => `(tactic| case' zz => exact $H)
open PySem PySem.W PyProof.Rows
namespace MineTop
theorem t:PySem.Challenge.rw_pk0032_03.Holds:=by refine holds_law (by kernel_rfl) fun VO=>?_;refine(fun(x:Hook)=>?_) ?zz;k_head;refine MineTop.PySem.W.holds_open (q:=Mine.Internal.pQ) (loose:=["_twin_re_1","_ver_stages"]) (Xt:=fun s=>xlAt Mine.Internal.pQ [] s&&recOk (RowW.records Mine.Internal.KV.toRowW) s) (XP:=XL Mine.Internal.pQ []) (Yf:=Hook.obs ?zz) (Ya:=Hook.val ?zz) (YP:=Hook.says ?zz) (d:=Mine.Internal.theDef) (kwd:=[]) (N:=1696) (.of_split "special-get-raises" fun w=>by kernel_rfl) (Hook.of ?zz) (Hook.keeps ?zz) (fun s e=>xl_of s (Bool.and_eq_true_iff.mp e).1) XL.keeps (by kernel_rfl) (by kernel_rfl) (by kernel_rfl) (fun s e=>recFacts_of (Bool.and_eq_true_iff.mp e).2) (by kernel_rfl) (by assumption) (by kernel_rfl) ⟨rfl,rfl,rfl,rfl,rfl,by decide +kernel⟩ ⟨[.list []],by decide +kernel,by decide +kernel⟩ ?_;exact Mine.Internal.L3.NO {free:=by kernel_rfl,r4:=by unfold Mine.Internal.eU;kernel_rfl,r5:=by unfold Mine.Internal.eU;kernel_rfl,r7:=by unfold Mine.Internal.eU;kernel_rfl,r9:=by unfold Mine.Internal.eU;kernel_rfl,UB:=by unfold Mine.Internal.eU;kernel_rfl,UA:=by unfold Mine.Internal.eU;kernel_rfl,Uz:=by unfold Mine.Internal.eU;kernel_rfl,Uy:=by unfold Mine.Internal.eU;kernel_rfl,cls:=fun P=>by kernel_rfl,t5:=fun P=>by kernel_rfl,Uv:=fun P=>by kernel_rfl,n1:=fun P=>by kernel_rfl,n2:=fun P=>by kernel_rfl,UE:=fun P=>by kernel_rfl,UG:=fun P=>by kernel_rfl,UD:=fun P=>by kernel_rfl} rfl
end MineTop
end
theorem PySem.Challenge.cw_pk0032_03_holds : PySem.Challenge.rw_pk0032_03.Holds := by
 exact MineTop.t
